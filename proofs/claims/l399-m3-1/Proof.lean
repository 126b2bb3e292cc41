import JvmDerived
import JvmDerived.Pilot.@@N@@Statement
import JvmDerived.Pilot.@@N@@Code
set_option linter.unusedVariables false
set_option linter.unusedSimpArgs false
@@BLOCK:NumsL.lean.txt@@
/- laws to paste: Road.backV (cut by pick.py; bodies as the Statement names them) -/
namespace Jvm.Pilot.@@N@@
namespace StrChars
open Jvm Sem ClassFile Op Lib Jvm.Stand Jvm.Free.XT Jvm.Free.ALB Jvm.Free.JM Jvm.Free
open Jvm.Lib.Cold (StaticIs)
/-- a char array whose places are chars -/
def Ch (a : Addr) (A : Cell) (U : State) : Prop := Arr .char a A U ∧ Typed .char A
theorem Ch.mv {a : Addr} {A : Cell} {U U' : State} (h : Ch a A U) (hal : U.vm.Alike U'.vm) (hh : U'.heap = U.heap) : Ch a A U' := ⟨h.1.mv hal hh, h.2⟩
theorem Ch.keep {a : Addr} {A : Cell} {U U' : State} (h : Ch a A U) (hal : U.vm.Alike U'.vm) (hk : U'.heap[a]? = some A) : Ch a A U' := ⟨h.1.keep hal hk, h.2⟩
/-- what place i of a char[]'s cell holds -/
def cv (A : Cell) (i : Nat) : Int32 := match A.slots[i]? with | some (.int x) => x | _ => 0
theorem Ch.get {a : Addr} {A : Cell} {U : State} (h : Ch a A U) {i : Nat} (hi : i < A.slots.size) : A.slots[i]? = some (.int (cv A i)) := by
  have e := Array.getElem?_eq_getElem hi
  have f := h.2 i _ e
  unfold cv; rw [e]
  generalize A.slots[i] = v at f
  cases v <;> simp [fits] at f ⊢
/-- the byte that i2b leaves of a char -/
def lo8 (x : Int32) : Int32 := x.toInt8.toInt32
theorem fits_lo8 (y : Int32) : fits .byte (.int (lo8 y)) = true := by
  have h1 := y.toInt8.le_toInt
  have h2 := y.toInt8.toInt_lt
  simp only [lo8, fits, Bool.and_eq_true, decide_eq_true_eq, Int32.le_iff_toInt_le, Int8.toInt_toInt32, show (-128 : Int32).toInt = -128 from by decide, show (127 : Int32).toInt = 127 from by decide]
  omega
/-- A' is A but that each place j of lo .. hi - 1 holds f j -/
def Laid (A A' : Cell) (lo hi : Nat) (f : Nat → Value) : Prop := A'.cls = A.cls ∧ A'.vm = A.vm ∧ A'.slots.size = A.slots.size ∧ ∀ i, A'.slots[i]? = if lo ≤ i ∧ i < hi then some (f i) else A.slots[i]?
theorem Laid.zero (A : Cell) (lo : Nat) (f : Nat → Value) : Laid A A lo (lo + 0) f := ⟨rfl, rfl, rfl, fun i => by rw [if_neg (by omega)]⟩
theorem Laid.step {A Ak : Cell} {lo k : Nat} {f : Nat → Value} {v : Value} (h : Laid A Ak lo k f) (hlo : lo ≤ k) (hk : k < Ak.slots.size) (hv : v = f k) : Laid A (Ak.setSlot k v) lo (k + 1) f := by
  refine ⟨h.1, h.2.1, by simpa [Cell.setSlot] using h.2.2.1, fun i => ?_⟩
  by_cases e : k = i
  · subst e; rw [Cell.slots_setSlot_self v hk, if_pos (by omega), hv]
  · rw [Cell.slots_setSlot_ne v e, h.2.2.2 i]
    by_cases q : lo ≤ i ∧ i < k
    · rw [if_pos q, if_pos (by omega)]
    · rw [if_neg q, if_neg (by omega)]
def U16 : String := "java/lang/StringUTF16"
namespace Cmp5
def yN : MethodName := ⟨"java/lang/StringUTF16", "compress", "([CI[BII)I"⟩
abbrev yB : ByteArray := jdk_52_method_21_code
theorem d0 : decode yB 0 = .ok (.iconst 0, 1) := by decide +kernel
theorem d1 : decode yB 1 = .ok (.istore 5, 2) := by decide +kernel
theorem d3 : decode yB 3 = .ok (.iload 5, 2) := by decide +kernel
theorem d5 : decode yB 5 = .ok (.iload 4, 2) := by decide +kernel
theorem d7 : decode yB 7 = .ok (.if_icmp (.ge) 37, 3) := by decide +kernel
theorem d10 : decode yB 10 = .ok (.aload_n 0, 1) := by decide +kernel
theorem d11 : decode yB 11 = .ok (.iload_n 1, 1) := by decide +kernel
theorem d12 : decode yB 12 = .ok (.caload, 1) := by decide +kernel
theorem d13 : decode yB 13 = .ok (.istore 6, 2) := by decide +kernel
theorem d15 : decode yB 15 = .ok (.iload 6, 2) := by decide +kernel
theorem d17 : decode yB 17 = .ok (.sipush 255, 3) := by decide +kernel
theorem d20 : decode yB 20 = .ok (.if_icmp (.le) 6, 3) := by decide +kernel
theorem d26 : decode yB 26 = .ok (.aload_n 2, 1) := by decide +kernel
theorem d27 : decode yB 27 = .ok (.iload_n 3, 1) := by decide +kernel
theorem d28 : decode yB 28 = .ok (.iload 6, 2) := by decide +kernel
theorem d30 : decode yB 30 = .ok (.i2b, 1) := by decide +kernel
theorem d31 : decode yB 31 = .ok (.bastore, 1) := by decide +kernel
theorem d32 : decode yB 32 = .ok (.iinc 1 1, 3) := by decide +kernel
theorem d35 : decode yB 35 = .ok (.iinc 3 1, 3) := by decide +kernel
theorem d38 : decode yB 38 = .ok (.iinc 5 1, 3) := by decide +kernel
theorem d41 : decode yB 41 = .ok (.goto (-38), 3) := by decide +kernel
theorem d44 : decode yB 44 = .ok (.iload 4, 2) := by decide +kernel
theorem d46 : decode yB 46 = .ok (.ireturn, 1) := by decide +kernel
def site : List Cond := []
def tab : Cond := tabOf yN yB 7 (some .int) site
def P (b : Addr) (A : Cell) (d : Addr) (B : Cell) (o q len : Nat) (args : Array Value) (s : State) : Prop := args = #[.ref b, .int (Int32.ofNat o), .ref d, .int (Int32.ofNat q), .int (Int32.ofNat len)] ∧ Ch b A s ∧ Arr .byte d B s ∧ b ≠ d ∧ o + len ≤ A.slots.size ∧ q + len ≤ B.slots.size ∧ ∀ i, i < len → ¬ 255 < cv A (o + i)
def E (b : Addr) (A : Cell) (d : Addr) (B : Cell) (o q len : Nat) (r : Option Value) (s u : State) : Prop := r = some (.int (Int32.ofNat len)) ∧ ∃ B', Put d B' s u ∧ Laid B B' q (q + len) (fun j => Value.int (lo8 (cv A (o + (j - q)))))
/-- no char of the range above 255: len; the places written hold each char's low byte -/
theorem law (l : Launch) (b : Addr) (A : Cell) (d : Addr) (B : Cell) (o q len : Nat) : Law l yN 5 5 0 0 yB 7 (some .int) site (P b A d B o q len) (E b A d B o q len) (copyLocs d q len) 0 0 := by
  refine Law.of_walk (plainFor_of_name (by decide +kernel)) (by decide +kernel) (by decide +kernel) (by decide) (fun _ _ h => by rw [h.1]; rfl) (fun _ U U' hal hh h => ⟨h.1, h.2.1.mv hal hh, h.2.2.1.mv hal hh, h.2.2.2⟩) (fun r U U' V V' h1 hal h2 h => ⟨h.1, h.2.elim fun B' q => ⟨B', q.1.mv h1 h2, q.2⟩⟩) ?_
  intro p e s m args below meth c s₁ X0 hexec hbytes hml hret hlk hnm hown hh0 W hP
  obtain ⟨rfl, hA, hB, hne, l1, l2, hp⟩ := hP
  have c1 : Steps p.tables e below (s₁.setTop (entryFrame m #[.ref b, .int (Int32.ofNat o), .ref d, .int (Int32.ofNat q), .int (Int32.ofNat len)] 7)) (s₁.setTop (mkF m 0 #[.val (.ref b), .val (.int (Int32.ofNat o)), .val (.ref d), .val (.int (Int32.ofNat q)), .val (.int (Int32.ofNat len)), .unset, .unset] [])) := entry rfl
  have hA0 := hA.1.mv X0.warmed.alike hh0
  have hB0 := hB.mv X0.warmed.alike hh0
  have a31 := hA.1.2.2.2
  have c2 : Steps p.tables e below (s₁.setTop (entryFrame m #[.ref b, .int (Int32.ofNat o), .ref d, .int (Int32.ofNat q), .int (Int32.ofNat len)] 7)) (s₁.setTop (mkF m 3 #[.val (.ref b), .val (.int (Int32.ofNat o)), .val (.ref d), .val (.int (Int32.ofNat q)), .val (.int (Int32.ofNat len)), .val (.int 0), .unset] [])) := c1.trans (by
    refine iconstV X0.here hexec rfl 0 (hb hbytes d0) (by decide) ?_
    refine XS.istore X0.here hexec rfl (hb hbytes d1) rfl rfl ?_
    exact Steps.refl _)
  have loop : ∀ (r i : Nat), i + r = len → ∀ (z : Slot), (z = .unset ∨ ∃ w, z = .val w ∧ w.category = 1) → ∀ (Tl : State) (Bk : Cell), Stand p l e { frames := 0, locals := 0, cells := 0, slots := 0 } s m #[.ref b, .int (Int32.ofNat o), .ref d, .int (Int32.ofNat q), .int (Int32.ofNat len)] below meth c Tl ([] ++ copyLocs d q i) 0 0 → Put d Bk s₁ Tl → Laid B Bk q (q + i) (fun j => Value.int (lo8 (cv A (o + (j - q))))) →
      Steps p.tables e below (s₁.setTop (entryFrame m #[.ref b, .int (Int32.ofNat o), .ref d, .int (Int32.ofNat q), .int (Int32.ofNat len)] 7)) (Tl.setTop (mkF m 3 #[.val (.ref b), .val (.int (Int32.ofNat (o + i))), .val (.ref d), .val (.int (Int32.ofNat (q + i))), .val (.int (Int32.ofNat len)), .val (.int (Int32.ofNat i)), z] [])) → ∃ (T' : State) (B' : Cell) (z' : Slot), Stand p l e { frames := 0, locals := 0, cells := 0, slots := 0 } s m #[.ref b, .int (Int32.ofNat o), .ref d, .int (Int32.ofNat q), .int (Int32.ofNat len)] below meth c T' ([] ++ copyLocs d q len) 0 0 ∧ Put d B' s₁ T' ∧ Laid B B' q (q + len) (fun j => Value.int (lo8 (cv A (o + (j - q))))) ∧
      Steps p.tables e below (s₁.setTop (entryFrame m #[.ref b, .int (Int32.ofNat o), .ref d, .int (Int32.ofNat q), .int (Int32.ofNat len)] 7)) (T'.setTop (mkF m 3 #[.val (.ref b), .val (.int (Int32.ofNat (o + len))), .val (.ref d), .val (.int (Int32.ofNat (q + len))), .val (.int (Int32.ofNat len)), .val (.int (Int32.ofNat len)), z'] [])) := by
    intro r
    induction r with
    | zero =>
      intro i hi z hz Tl Bk Xl pl fl cl
      have hil : i = len := by omega
      rw [hil] at Xl fl cl
      exact ⟨Tl, Bk, z, Xl, pl, fl, cl⟩
    | succ r ih =>
      intro i hi z hz Tl Bk Xl pl fl cl
      have all := X0.warmed.alike.symm.trans Xl.warmed.alike
      have hAl := hA0.keep all (pl.other hne hA0.1)
      have hBk := hB0.like all pl.1 fl.1 fl.2.1 fl.2.2.1
      have hlt : q + i < Bk.slots.size := by rw [fl.2.2.1]; omega
      have c3 : Steps p.tables e below (s₁.setTop (entryFrame m #[.ref b, .int (Int32.ofNat o), .ref d, .int (Int32.ofNat q), .int (Int32.ofNat len)] 7)) (Tl.setTop (mkF m 12 #[.val (.ref b), .val (.int (Int32.ofNat (o + i))), .val (.ref d), .val (.int (Int32.ofNat (q + i))), .val (.int (Int32.ofNat len)), .val (.int (Int32.ofNat i)), z] [.int (Int32.ofNat (o + i)), .ref b])) := cl.trans (by
        refine XS.iload Xl.here hexec rfl (hb hbytes d3) rfl ?_
        refine XS.iload Xl.here hexec rfl (hb hbytes d5) rfl ?_
        refine XS.icmpNo Xl.here hexec rfl (hb hbytes d7) rfl (ii_ge_f (lt32 (by omega) (by omega))) ?_
        refine XS.aloadN Xl.here hexec rfl (hb hbytes d10) rfl rfl ?_
        refine XS.iloadN Xl.here hexec rfl (hb hbytes d11) rfl ?_
        exact Steps.refl _)
      have c4 : Steps p.tables e below (s₁.setTop (entryFrame m #[.ref b, .int (Int32.ofNat o), .ref d, .int (Int32.ofNat q), .int (Int32.ofNat len)] 7)) (Tl.setTop (mkF m 13 #[.val (.ref b), .val (.int (Int32.ofNat (o + i))), .val (.ref d), .val (.int (Int32.ofNat (q + i))), .val (.int (Int32.ofNat len)), .val (.int (Int32.ofNat i)), z] [.int (cv A (o + i))])) := c3.trans (by
        refine Xl.aget hexec hAl rfl (hA.get (i := o + i) (by omega)) rfl rfl (hb hbytes d12) ?_
        exact Steps.refl _)
      have c5 : Steps p.tables e below (s₁.setTop (entryFrame m #[.ref b, .int (Int32.ofNat o), .ref d, .int (Int32.ofNat q), .int (Int32.ofNat len)] 7)) (Tl.setTop (mkF m 15 #[.val (.ref b), .val (.int (Int32.ofNat (o + i))), .val (.ref d), .val (.int (Int32.ofNat (q + i))), .val (.int (Int32.ofNat len)), .val (.int (Int32.ofNat i)), .val (.int (cv A (o + i)))] [])) := c4.trans (by
        refine XS.istoreS Xl.here hexec rfl (hb hbytes d13) rfl rfl hz ?_
        exact Steps.refl _)
      have c6 : Steps p.tables e below (s₁.setTop (entryFrame m #[.ref b, .int (Int32.ofNat o), .ref d, .int (Int32.ofNat q), .int (Int32.ofNat len)] 7)) (Tl.setTop (mkF m 31 #[.val (.ref b), .val (.int (Int32.ofNat (o + i))), .val (.ref d), .val (.int (Int32.ofNat (q + i))), .val (.int (Int32.ofNat len)), .val (.int (Int32.ofNat i)), .val (.int (cv A (o + i)))] [.int (lo8 (cv A (o + i))), .int (Int32.ofNat (q + i)), .ref d])) := c5.trans (by
        refine XS.iload Xl.here hexec rfl (hb hbytes d15) rfl ?_
        refine sipushV Xl.here hexec rfl 255 (hb hbytes d17) (by decide) ?_
        refine XS.icmpYes Xl.here hexec rfl (pc0 := 20) rfl (hb hbytes d20) rfl (ii_le_t (hp i (by omega))) (by decide) rfl ?_
        refine XS.aloadN Xl.here hexec rfl (hb hbytes d26) rfl rfl ?_
        refine XS.iloadN Xl.here hexec rfl (hb hbytes d27) rfl ?_
        refine XS.iload Xl.here hexec rfl (hb hbytes d28) rfl ?_
        refine i2b Xl.here hexec rfl (hb hbytes d30) rfl ?_
        exact Steps.refl _)
      obtain ⟨T7, X7, p7, st7⟩ := Xl.aput hexec hBk rfl hlt rfl (fits_lo8 (cv A (o + i))) (g := (mkF m 31 #[.val (.ref b), .val (.int (Int32.ofNat (o + i))), .val (.ref d), .val (.int (Int32.ofNat (q + i))), .val (.int (Int32.ofNat len)), .val (.int (Int32.ofNat i)), .val (.int (cv A (o + i)))] [.int (lo8 (cv A (o + i))), .int (Int32.ofNat (q + i)), .ref d])) rfl (rest := []) rfl (hb hbytes d31)
      have c8 : Steps p.tables e below (s₁.setTop (entryFrame m #[.ref b, .int (Int32.ofNat o), .ref d, .int (Int32.ofNat q), .int (Int32.ofNat len)] 7)) (T7.setTop (mkF m 32 #[.val (.ref b), .val (.int (Int32.ofNat (o + i))), .val (.ref d), .val (.int (Int32.ofNat (q + i))), .val (.int (Int32.ofNat len)), .val (.int (Int32.ofNat i)), .val (.int (cv A (o + i)))] [])) := c6.trans (st7 _ (Steps.refl _))
      have c9 : Steps p.tables e below (s₁.setTop (entryFrame m #[.ref b, .int (Int32.ofNat o), .ref d, .int (Int32.ofNat q), .int (Int32.ofNat len)] 7)) (T7.setTop (mkF m 3 #[.val (.ref b), .val (.int (Int32.ofNat (o + i) + 1)), .val (.ref d), .val (.int (Int32.ofNat (q + i) + 1)), .val (.int (Int32.ofNat len)), .val (.int (Int32.ofNat i + 1)), .val (.int (cv A (o + i)))] [])) := c8.trans (by
        refine iincV X7.here hexec rfl 1 (hb hbytes d32) (by decide) rfl rfl ?_
        refine iincV X7.here hexec rfl 1 (hb hbytes d35) (by decide) rfl rfl ?_
        refine iincV X7.here hexec rfl 1 (hb hbytes d38) (by decide) rfl rfl ?_
        refine XS.goto X7.here hexec rfl (pc0 := 41) rfl (hb hbytes d41) (by decide) rfl ?_
        exact Steps.refl _)
      have c10 : Steps p.tables e below (s₁.setTop (entryFrame m #[.ref b, .int (Int32.ofNat o), .ref d, .int (Int32.ofNat q), .int (Int32.ofNat len)] 7)) (T7.setTop (mkF m 3 #[.val (.ref b), .val (.int (Int32.ofNat (o + (i + 1)))), .val (.ref d), .val (.int (Int32.ofNat (q + (i + 1)))), .val (.int (Int32.ofNat len)), .val (.int (Int32.ofNat (i + 1))), .val (.int (cv A (o + i)))] [])) := by
        have := c9
        rw [succ32, succ32, succ32] at this
        exact this
      exact ih (i + 1) (by omega) _ (Or.inr ⟨_, rfl, rfl⟩) T7 _ (by rw [copyLocs_step, ← List.append_assoc]; exact X7) (pl.trans p7) (fl.step (by omega) hlt (by simp)) c10
  obtain ⟨T9, B9, z9, X9, p9, f9, g9⟩ := loop len 0 (by omega) .unset (Or.inl rfl) s₁ B (by simpa [copyLocs] using X0) ⟨hB0.1, fun _ _ => rfl, rfl⟩ (Laid.zero _ _ _) c2
  have c11 : Steps p.tables e below (s₁.setTop (entryFrame m #[.ref b, .int (Int32.ofNat o), .ref d, .int (Int32.ofNat q), .int (Int32.ofNat len)] 7)) (T9.setTop (mkF m 46 #[.val (.ref b), .val (.int (Int32.ofNat (o + len))), .val (.ref d), .val (.int (Int32.ofNat (q + len))), .val (.int (Int32.ofNat len)), .val (.int (Int32.ofNat len)), z9] [.int (Int32.ofNat len)])) := g9.trans (by
    refine XS.iload X9.here hexec rfl (hb hbytes d3) rfl ?_
    refine XS.iload X9.here hexec rfl (hb hbytes d5) rfl ?_
    refine XS.icmpYes X9.here hexec rfl (pc0 := 7) rfl (hb hbytes d7) rfl (ii_ge_t (nlt32 (by omega) (Nat.le_refl _))) (by decide) rfl ?_
    refine XS.iload X9.here hexec rfl (hb hbytes d44) rfl ?_
    exact Steps.refl _)
  exact ⟨T9, some (.int (Int32.ofNat len)), _, _, _, X9, by simp, rfl, rfl, (fun h => by cases h), ⟨rfl, B9, p9.from hh0, f9⟩, fun fs hl => c11.trans (X9.ireturnOut hexec hret rfl (Or.inl rfl) (hb hbytes d46) hl)⟩
end Cmp5
namespace Cmp3
def yN : MethodName := ⟨"java/lang/StringUTF16", "compress", "([CII)[B"⟩
abbrev yB : ByteArray := jdk_52_method_16_code
theorem d0 : decode yB 0 = .ok (.iload_n 2, 1) := by decide +kernel
theorem d1 : decode yB 1 = .ok (.newarray .byte, 2) := by decide +kernel
theorem d3 : decode yB 3 = .ok (.astore_n 3, 1) := by decide +kernel
theorem d4 : decode yB 4 = .ok (.aload_n 0, 1) := by decide +kernel
theorem d5 : decode yB 5 = .ok (.iload_n 1, 1) := by decide +kernel
theorem d6 : decode yB 6 = .ok (.aload_n 3, 1) := by decide +kernel
theorem d7 : decode yB 7 = .ok (.iconst 0, 1) := by decide +kernel
theorem d8 : decode yB 8 = .ok (.iload_n 2, 1) := by decide +kernel
theorem d9 : decode yB 9 = .ok (.invokestatic 115, 3) := by decide +kernel
theorem d12 : decode yB 12 = .ok (.istore 4, 2) := by decide +kernel
theorem d14 : decode yB 14 = .ok (.iload 4, 2) := by decide +kernel
theorem d16 : decode yB 16 = .ok (.iload_n 2, 1) := by decide +kernel
theorem d17 : decode yB 17 = .ok (.if_icmp (.eq) 40, 3) := by decide +kernel
theorem d57 : decode yB 57 = .ok (.aload_n 3, 1) := by decide +kernel
theorem d58 : decode yB 58 = .ok (.areturn, 1) := by decide +kernel
def site : List Cond := [.arrayClass .byte, Cmp5.tab] ++ staticW U16 115 Cmp5.yN
def tab : Cond := tabOf yN yB 6 (some (.array .byte)) site
def P (b : Addr) (A : Cell) (o len : Nat) (args : Array Value) (s : State) : Prop := args = #[.ref b, .int (Int32.ofNat o), .int (Int32.ofNat len)] ∧ Ch b A s ∧ o + len ≤ A.slots.size ∧ len ≤ 536870912 ∧ ∀ i, i < len → ¬ 255 < cv A (o + i)
def E (b : Addr) (A : Cell) (o len : Nat) (r : Option Value) (s u : State) : Prop := NewArr .byte "[B" len (fun j => .int (lo8 (cv A (o + j)))) r s u ∧ u.heap.size = s.heap.size + 1
/-- no char of the range above 255: a new byte[] of their low bytes -/
theorem law (l : Launch) (b : Addr) (A : Cell) (o len : Nat) : Law l yN 3 3 1 18 yB 6 (some (.array .byte)) site (P b A o len) (E b A o len) [] 1 len := by
  refine Law.of_walk (plainFor_of_name (by decide +kernel)) (by decide +kernel) (by decide +kernel) (by decide) (fun _ _ h => by rw [h.1]; rfl) (fun _ U U' hal hh h => ⟨h.1, h.2.1.mv hal hh, h.2.2⟩) (fun r U U' V V' h1 hal h2 h => ⟨NewArr.mv r U U' V V' h1 hal h2 h.1, by rw [h1, h2]; exact h.2⟩) ?_
  intro p e s m args below meth c s₁ X0 hexec hbytes hml hret hlk hnm hown hh0 W hP
  obtain ⟨rfl, hA, l1, l2, hp⟩ := hP
  have a31 := hA.1.2.2.2
  have c1 : Steps p.tables e below (s₁.setTop (entryFrame m #[.ref b, .int (Int32.ofNat o), .int (Int32.ofNat len)] 6)) (s₁.setTop (mkF m 0 #[.val (.ref b), .val (.int (Int32.ofNat o)), .val (.int (Int32.ofNat len)), .unset, .unset, .unset] [])) := entry rfl
  have c2 : Steps p.tables e below (s₁.setTop (entryFrame m #[.ref b, .int (Int32.ofNat o), .int (Int32.ofNat len)] 6)) (s₁.setTop (mkF m 1 #[.val (.ref b), .val (.int (Int32.ofNat o)), .val (.int (Int32.ofNat len)), .unset, .unset, .unset] [.int (Int32.ofNat len)])) := c1.trans (by
    refine XS.iloadN X0.here hexec rfl (hb hbytes d0) rfl ?_
    exact Steps.refl _)
  obtain ⟨T3, B3, X3, ba3, bs3, bv3, bh3, bf3, st3⟩ := X0.anew hexec (atype := .byte) (wk W (.arrayClass .byte)) rfl (by show len * 1 ≤ _; omega) (by omega) (g := (mkF m 1 #[.val (.ref b), .val (.int (Int32.ofNat o)), .val (.int (Int32.ofNat len)), .unset, .unset, .unset] [.int (Int32.ofNat len)])) rfl (hb hbytes d1) (rest := []) rfl (Nat.le_refl _) (by show 0 + len ≤ len; omega)
  rw [hh0] at ba3 st3
  have kp3 : XT.Kept s T3 := (XT.Kept.of_eq hh0).push bh3
  have hA3 := hA.keep X3.warmed.alike (kp3 _ _ hA.1.1)
  have hne : b ≠ s.heap.size := hA.1.ne
  have c4 : Steps p.tables e below (s₁.setTop (entryFrame m #[.ref b, .int (Int32.ofNat o), .int (Int32.ofNat len)] 6)) (T3.setTop (mkF m 3 #[.val (.ref b), .val (.int (Int32.ofNat o)), .val (.int (Int32.ofNat len)), .unset, .unset, .unset] [.ref s.heap.size])) := c2.trans (st3 _ (Steps.refl _))
  have c5 : Steps p.tables e below (s₁.setTop (entryFrame m #[.ref b, .int (Int32.ofNat o), .int (Int32.ofNat len)] 6)) (T3.setTop (mkF m 9 #[.val (.ref b), .val (.int (Int32.ofNat o)), .val (.int (Int32.ofNat len)), .val (.ref s.heap.size), .unset, .unset] [.int (Int32.ofNat len), .int 0, .ref s.heap.size, .int (Int32.ofNat o), .ref b])) := c4.trans (by
    refine XS.astoreN X3.here hexec rfl (hb hbytes d3) rfl rfl rfl ?_
    refine XS.aloadN X3.here hexec rfl (hb hbytes d4) rfl rfl ?_
    refine XS.iloadN X3.here hexec rfl (hb hbytes d5) rfl ?_
    refine XS.aloadN X3.here hexec rfl (hb hbytes d6) rfl rfl ?_
    refine iconstV X3.here hexec rfl 0 (hb hbytes d7) (by decide) ?_
    refine XS.iloadN X3.here hexec rfl (hb hbytes d8) rfl ?_
    exact Steps.refl _)
  obtain ⟨v6, T6, X6, E6, g6⟩ := X3.callS hexec (Cmp5.law l b A s.heap.size B3 o 0 len) hown (wks W (staticW U16 115 Cmp5.yN)) (wk W Cmp5.tab) (W := 0) (Nat.le_of_ble_eq_true rfl) (Nat.le_of_ble_eq_true rfl) (Nat.le_refl _) (by show 0 + len + 0 ≤ len; omega) (g := (mkF m 9 #[.val (.ref b), .val (.int (Int32.ofNat o)), .val (.int (Int32.ofNat len)), .val (.ref s.heap.size), .unset, .unset] [.int (Int32.ofNat len), .int (Int32.ofNat 0), .ref s.heap.size, .int (Int32.ofNat o), .ref b])) rfl (by rw [hml]; rfl) c5 (argsL := [.ref b, .int (Int32.ofNat o), .ref s.heap.size, .int (Int32.ofNat 0), .int (Int32.ofNat len)]) (rest := []) rfl rfl (by show 2 * 0 + 0 ≤ _; decide) (hb hbytes d9) (⟨rfl, hA3, ba3, hne, l1, by rw [bs3]; simp, hp⟩)
  obtain ⟨rfl, B6, p6, f6⟩ := E6
  have c7 : Steps p.tables e below (s₁.setTop (entryFrame m #[.ref b, .int (Int32.ofNat o), .int (Int32.ofNat len)] 6)) (T6.setTop (mkF m 12 #[.val (.ref b), .val (.int (Int32.ofNat o)), .val (.int (Int32.ofNat len)), .val (.ref s.heap.size), .unset, .unset] [.int (Int32.ofNat len)])) := g6
  have c8 : Steps p.tables e below (s₁.setTop (entryFrame m #[.ref b, .int (Int32.ofNat o), .int (Int32.ofNat len)] 6)) (T6.setTop (mkF m 58 #[.val (.ref b), .val (.int (Int32.ofNat o)), .val (.int (Int32.ofNat len)), .val (.ref s.heap.size), .val (.int (Int32.ofNat len)), .unset] [.ref s.heap.size])) := c7.trans (by
    refine XS.istore X6.here hexec rfl (hb hbytes d12) rfl rfl ?_
    refine XS.iload X6.here hexec rfl (hb hbytes d14) rfl ?_
    refine XS.iloadN X6.here hexec rfl (hb hbytes d16) rfl ?_
    refine XS.icmpYes X6.here hexec rfl (pc0 := 17) rfl (hb hbytes d17) rfl (ii_eq_t rfl) (by decide) rfl ?_
    refine XS.aloadN X6.here hexec rfl (hb hbytes d57) rfl rfl ?_
    exact Steps.refl _)
  have X8 := X6.wide (L' := []) (cells' := 1) (slots' := len) (fun x hx hlt => by
    simp only [List.nil_append, copyLocs, List.mem_map, List.mem_range] at hx
    obtain ⟨i, -, rfl⟩ := hx
    exact absurd hlt (Nat.lt_irrefl _)) (Nat.le_refl _) (by omega)
  exact ⟨T6, some (.ref s.heap.size), _, _, _, X8, rfl, rfl, rfl, (fun h => by cases h), ⟨⟨rfl, B6, ba3.like (X3.warmed.alike.symm.trans X6.warmed.alike) p6.1 f6.1 f6.2.1 f6.2.2.1, f6.2.1.trans bv3, by rw [X6.warmed.alike.findClass, f6.1]; exact bf3, by rw [f6.2.2.1, bs3]; simp, fun j hj => by rw [f6.2.2.2 j, if_pos (by omega)]; rfl, kp3.put p6 (Nat.le_refl _)⟩, by rw [p6.2.2, bh3, hh0]; simp⟩, fun fs hl => c8.trans (X8.areturnOut hexec rfl hret rfl (hb hbytes d58) hl)⟩
end Cmp3
namespace CodL
def yN : MethodName := ⟨"java/lang/StringUTF16", "coderFromArrayLen", "([BI)B"⟩
abbrev yB : ByteArray := jdk_52_method_15_code
theorem d0 : decode yB 0 = .ok (.iload_n 1, 1) := by decide +kernel
theorem d1 : decode yB 1 = .ok (.aload_n 0, 1) := by decide +kernel
theorem d2 : decode yB 2 = .ok (.arraylength, 1) := by decide +kernel
theorem d3 : decode yB 3 = .ok (.isub, 1) := by decide +kernel
theorem d4 : decode yB 4 = .ok (.bipush 31, 2) := by decide +kernel
theorem d6 : decode yB 6 = .ok (.iushr, 1) := by decide +kernel
theorem d7 : decode yB 7 = .ok (.i2b, 1) := by decide +kernel
theorem d8 : decode yB 8 = .ok (.ireturn, 1) := by decide +kernel
def site : List Cond := []
def tab : Cond := tabOf yN yB 2 (some .byte) site
def P (d : Addr) (B : Cell) (args : Array Value) (s : State) : Prop := args = #[.ref d, .int (Int32.ofNat B.slots.size)] ∧ Arr .byte d B s
def E (r : Option Value) (s u : State) : Prop := XT.PureE (some (.int 0)) r s u
/-- an array as long as the number of chars: LATIN1 -/
theorem law (l : Launch) (d : Addr) (B : Cell) : Law l yN 2 2 0 0 yB 2 (some .byte) site (P d B) E [] 0 0 := by
  refine Law.of_walk (plainFor_of_name (by decide +kernel)) (by decide +kernel) (by decide +kernel) (by decide) (fun _ _ h => by rw [h.1]; rfl) (fun _ U U' hal hh h => ⟨h.1, h.2.mv hal hh⟩) (fun r U U' V V' h1 hal h2 h => XT.PureE.mv r U U' V V' h1 hal h2 h) ?_
  intro p e s m args below meth c s₁ X0 hexec hbytes hml hret hlk hnm hown hh0 W hP
  obtain ⟨rfl, hB⟩ := hP
  have hB0 := hB.mv X0.warmed.alike hh0
  have c1 : Steps p.tables e below (s₁.setTop (entryFrame m #[.ref d, .int (Int32.ofNat B.slots.size)] 2)) (s₁.setTop (mkF m 0 #[.val (.ref d), .val (.int (Int32.ofNat B.slots.size))] [])) := entry rfl
  have c2 : Steps p.tables e below (s₁.setTop (entryFrame m #[.ref d, .int (Int32.ofNat B.slots.size)] 2)) (s₁.setTop (mkF m 2 #[.val (.ref d), .val (.int (Int32.ofNat B.slots.size))] [.ref d, .int (Int32.ofNat B.slots.size)])) := c1.trans (by
    refine XS.iloadN X0.here hexec rfl (hb hbytes d0) rfl ?_
    refine XS.aloadN X0.here hexec rfl (hb hbytes d1) rfl rfl ?_
    exact Steps.refl _)
  have c3 : Steps p.tables e below (s₁.setTop (entryFrame m #[.ref d, .int (Int32.ofNat B.slots.size)] 2)) (s₁.setTop (mkF m 8 #[.val (.ref d), .val (.int (Int32.ofNat B.slots.size))] [.int (lo8 (ushr (Int32.ofNat B.slots.size - Int32.ofNat B.slots.size) 31))])) := c2.trans (by
    refine X0.alen hexec hB0 rfl rfl (hb hbytes d2) ?_
    refine XS.isub X0.here hexec rfl (hb hbytes d3) rfl ?_
    refine bipushV X0.here hexec rfl 31 (hb hbytes d4) (by decide) ?_
    refine iushr X0.here hexec rfl (hb hbytes d6) rfl ?_
    refine i2b X0.here hexec rfl (hb hbytes d7) rfl ?_
    exact Steps.refl _)
  have e0 : lo8 (ushr (Int32.ofNat B.slots.size - Int32.ofNat B.slots.size) 31) = 0 := by rw [Int32.sub_self]; decide
  rw [e0] at c3
  exact ⟨s₁, some (.int 0), _, _, _, X0, rfl, rfl, rfl, (fun h => by cases h), ⟨rfl, hh0⟩, fun fs hl => c3.trans (X0.ireturnOut hexec hret rfl (Or.inr (Or.inr (Or.inl rfl))) (hb hbytes d8) hl)⟩
end CodL
/-- the String at a is Latin-1 over a new byte[] (the heap's one new cell): the low bytes of the len chars of A from o on; every cell but a is kept -/
def Got (a : Addr) (D : Cell) (fV fC : Field) (A : Cell) (o len : Nat) (r : Option Value) (s u : State) : Prop := r = none ∧ ∃ D' V : Cell, Blank "java/lang/String" a D' u ∧ Same D D' [fV.slot, fC.slot] ∧ D'.slots[fV.slot]? = some (.ref s.heap.size) ∧ D'.slots[fC.slot]? = some (.int 0) ∧ Arr .byte s.heap.size V u ∧ V.vm = .none ∧ u.vm.findClass "[B" = some V.cls ∧ V.slots.size = len ∧ (∀ j, j < len → V.slots[j]? = some (.int (lo8 (cv A (o + j))))) ∧ (∀ (y : Addr) (c : Cell), y ≠ a → s.heap[y]? = some c → u.heap[y]? = some c) ∧ u.heap.size = s.heap.size + 1
theorem Got.mv {a : Addr} {D A : Cell} {fV fC : Field} {o len : Nat} : ∀ r (U U' V V' : State), U'.heap = U.heap → V.vm.Alike V'.vm → V'.heap = V.heap → Got a D fV fC A o len r U V → Got a D fV fC A o len r U' V' :=
  fun r U U' V V' h1 hal h2 ⟨e0, D', X, a1, a2, a3, a4, a5, a6, a7, a8, a9, a10, a11⟩ => ⟨e0, D', X, a1.mv hal h2, a2, by rw [h1]; exact a3, a4, by rw [h1]; exact a5.mv hal h2, a6, by rw [hal.findClass]; exact a7, a8, a9, by rw [h1, h2]; exact a10, by rw [h1, h2]; exact a11⟩
namespace New4
def yN : MethodName := ⟨"java/lang/String", "<init>", "([CIILjava/lang/Void;)V"⟩
abbrev yB : ByteArray := jdk_42_method_149_code
theorem d0 : decode yB 0 = .ok (.aload_n 0, 1) := by decide +kernel
theorem d1 : decode yB 1 = .ok (.invokespecial 1, 3) := by decide +kernel
theorem d4 : decode yB 4 = .ok (.iload_n 3, 1) := by decide +kernel
theorem d5 : decode yB 5 = .ok (.ifCond (.ne) 22, 3) := by decide +kernel
theorem d27 : decode yB 27 = .ok (.getstatic 38, 3) := by decide +kernel
theorem d30 : decode yB 30 = .ok (.ifCond (.eq) 28, 3) := by decide +kernel
theorem d33 : decode yB 33 = .ok (.aload_n 1, 1) := by decide +kernel
theorem d34 : decode yB 34 = .ok (.iload_n 2, 1) := by decide +kernel
theorem d35 : decode yB 35 = .ok (.iload_n 3, 1) := by decide +kernel
theorem d36 : decode yB 36 = .ok (.invokestatic 177, 3) := by decide +kernel
theorem d39 : decode yB 39 = .ok (.astore 5, 2) := by decide +kernel
theorem d41 : decode yB 41 = .ok (.aload_n 0, 1) := by decide +kernel
theorem d42 : decode yB 42 = .ok (.aload 5, 2) := by decide +kernel
theorem d44 : decode yB 44 = .ok (.iload_n 3, 1) := by decide +kernel
theorem d45 : decode yB 45 = .ok (.invokestatic 47, 3) := by decide +kernel
theorem d48 : decode yB 48 = .ok (.putfield 15, 3) := by decide +kernel
theorem d51 : decode yB 51 = .ok (.aload_n 0, 1) := by decide +kernel
theorem d52 : decode yB 52 = .ok (.aload 5, 2) := by decide +kernel
theorem d54 : decode yB 54 = .ok (.putfield 9, 3) := by decide +kernel
theorem d57 : decode yB 57 = .ok (.return_, 1) := by decide +kernel
def site : List Cond := [.fieldLink "java/lang/String" 38 "java/lang/String" "COMPACT_STRINGS" "Z", Cmp3.tab, CodL.tab, .laysFinal "java/lang/String" "java/lang/String" "value" "[B", .fieldLink "java/lang/String" 9 "java/lang/String" "value" "[B", .laysFinal "java/lang/String" "java/lang/String" "coder" "B", .fieldLink "java/lang/String" 15 "java/lang/String" "coder" "B"] ++ objW "java/lang/String" 1 ++ staticW "java/lang/String" 177 Cmp3.yN ++ staticW "java/lang/String" 47 CodL.yN
def tab : Cond := tabOf yN yB 6 none site
def P (a : Addr) (D : Cell) (fV fC : Field) (b : Addr) (A : Cell) (z : Int32) (o len : Nat) (args : Array Value) (s : State) : Prop := args = #[.ref a, .ref b, .int (Int32.ofNat o), .int (Int32.ofNat len), .null] ∧ Blank "java/lang/String" a D s ∧ Found "java/lang/String" "value" "[B" fV s ∧ Found "java/lang/String" "coder" "B" fC s ∧ Ch b A s ∧ StaticIs s "java/lang/String" "COMPACT_STRINGS" "Z" (.int z) ∧ ¬ z = 0 ∧ 0 < len ∧ o + len ≤ A.slots.size ∧ len ≤ 536870912 ∧ ∀ i, i < len → ¬ 255 < cv A (o + i)
def E (a : Addr) (D : Cell) (fV fC : Field) (A : Cell) (o len : Nat) (r : Option Value) (s u : State) : Prop := Got a D fV fC A o len r s u
/-- len > 0, no char of the range above 255: a Latin-1 String of their low bytes -/
theorem law (l : Launch) (a : Addr) (D : Cell) (fV fC : Field) (b : Addr) (A : Cell) (z : Int32) (o len : Nat) : Law l yN 5 4 2 35 yB 6 none site (P a D fV fC b A z o len) (E a D fV fC A o len) [⟨a, fC.slot⟩, ⟨a, fV.slot⟩] 1 len := by
  refine Law.of_walk (plainFor_of_name (by decide +kernel)) (by decide +kernel) (by decide +kernel) (by decide) (fun _ _ h => by rw [h.1]; rfl) (fun _ U U' hal hh h => ⟨h.1, h.2.1.mv hal hh, h.2.2.1.al hal, h.2.2.2.1.al hal, h.2.2.2.2.1.mv hal hh, h.2.2.2.2.2.1.there hal hh, h.2.2.2.2.2.2⟩) (fun r U U' V V' h1 hal h2 h => Got.mv r U U' V V' h1 hal h2 h) ?_
  intro p e s m args below meth c s₁ X0 hexec hbytes hml hret hlk hnm hown hh0 W hP
  obtain ⟨rfl, hB, f1, f2, hA, s1, hz, l0, l1, l2, hp⟩ := hP
  have a31 := hA.1.2.2.2
  have c1 : Steps p.tables e below (s₁.setTop (entryFrame m #[.ref a, .ref b, .int (Int32.ofNat o), .int (Int32.ofNat len), .null] 6)) (s₁.setTop (mkF m 0 #[.val (.ref a), .val (.ref b), .val (.int (Int32.ofNat o)), .val (.int (Int32.ofNat len)), .val .null, .unset] [])) := entry rfl
  have c2 : Steps p.tables e below (s₁.setTop (entryFrame m #[.ref a, .ref b, .int (Int32.ofNat o), .int (Int32.ofNat len), .null] 6)) (s₁.setTop (mkF m 1 #[.val (.ref a), .val (.ref b), .val (.int (Int32.ofNat o)), .val (.int (Int32.ofNat len)), .val .null, .unset] [.ref a])) := c1.trans (by
    refine XS.aloadN X0.here hexec rfl (hb hbytes d0) rfl rfl ?_
    exact Steps.refl _)
  obtain ⟨T3, X3, q3, st3⟩ := X0.oinit hexec hown (wks W (objW "java/lang/String" 1)) (g := (mkF m 1 #[.val (.ref a), .val (.ref b), .val (.int (Int32.ofNat o)), .val (.int (Int32.ofNat len)), .val .null, .unset] [.ref a])) rfl (by rw [hml]; rfl) (rest := []) rfl (hb hbytes d1) (W := 0) (by show 2 * 0 + 0 ≤ _; decide) (Nat.le_of_ble_eq_true rfl) (Nat.le_of_ble_eq_true rfl)
  have hh3 := q3.trans hh0
  have c4 : Steps p.tables e below (s₁.setTop (entryFrame m #[.ref a, .ref b, .int (Int32.ofNat o), .int (Int32.ofNat len), .null] 6)) (T3.setTop (mkF m 27 #[.val (.ref a), .val (.ref b), .val (.int (Int32.ofNat o)), .val (.int (Int32.ofNat len)), .val .null, .unset] [])) := (c2.trans (st3 _ (Steps.refl _))).trans (by
    refine XS.iloadN X3.here hexec rfl (hb hbytes d4) rfl ?_
    refine XS.ifYes X3.here hexec rfl (pc0 := 5) rfl (hb hbytes d5) rfl (i0_ne_t (nz32 (by omega) l0)) (by decide) rfl ?_
    exact Steps.refl _)
  obtain ⟨T5, X5, q5, st5⟩ := X3.sget hexec hown (wk W (.fieldLink "java/lang/String" 38 "java/lang/String" "COMPACT_STRINGS" "Z")) s1 (fun _ _ h => by rw [hh3]; exact h) (g := (mkF m 27 #[.val (.ref a), .val (.ref b), .val (.int (Int32.ofNat o)), .val (.int (Int32.ofNat len)), .val .null, .unset] [])) rfl (hb hbytes d27)
  have hh5 := q5.trans hh3
  have c6 : Steps p.tables e below (s₁.setTop (entryFrame m #[.ref a, .ref b, .int (Int32.ofNat o), .int (Int32.ofNat len), .null] 6)) (T5.setTop (mkF m 30 #[.val (.ref a), .val (.ref b), .val (.int (Int32.ofNat o)), .val (.int (Int32.ofNat len)), .val .null, .unset] [.int z])) := c4.trans (st5 _ (Steps.refl _))
  have c7 : Steps p.tables e below (s₁.setTop (entryFrame m #[.ref a, .ref b, .int (Int32.ofNat o), .int (Int32.ofNat len), .null] 6)) (T5.setTop (mkF m 36 #[.val (.ref a), .val (.ref b), .val (.int (Int32.ofNat o)), .val (.int (Int32.ofNat len)), .val .null, .unset] [.int (Int32.ofNat len), .int (Int32.ofNat o), .ref b])) := c6.trans (by
    refine XS.ifNo X5.here hexec rfl (hb hbytes d30) rfl (i0_eq_f hz) ?_
    refine XS.aloadN X5.here hexec rfl (hb hbytes d33) rfl rfl ?_
    refine XS.iloadN X5.here hexec rfl (hb hbytes d34) rfl ?_
    refine XS.iloadN X5.here hexec rfl (hb hbytes d35) rfl ?_
    exact Steps.refl _)
  obtain ⟨v8, T8, X8, E8, g8⟩ := X5.callS hexec (Cmp3.law l b A o len) hown (wks W (staticW "java/lang/String" 177 Cmp3.yN)) (wk W Cmp3.tab) (W := 0) (Nat.le_of_ble_eq_true rfl) (Nat.le_of_ble_eq_true rfl) (Nat.le_refl _) (by show 0 + len ≤ len; omega) (g := (mkF m 36 #[.val (.ref a), .val (.ref b), .val (.int (Int32.ofNat o)), .val (.int (Int32.ofNat len)), .val .null, .unset] [.int (Int32.ofNat len), .int (Int32.ofNat o), .ref b])) rfl (by rw [hml]; rfl) c7 (argsL := [.ref b, .int (Int32.ofNat o), .int (Int32.ofNat len)]) (rest := []) rfl rfl (by show 2 * 0 + 0 ≤ _; decide) (hb hbytes d36) (⟨rfl, hA.mv X5.warmed.alike hh5, l1, l2, hp⟩)
  obtain ⟨e8, z8⟩ := E8
  obtain ⟨rfl, N, n1, n2, n3, n4, n5, n6⟩ := NewArr.mv _ T5 s _ _ hh5.symm (Vm.Alike.refl _) rfl e8
  rw [hh5] at z8
  have hB1 := hB.keep X8.warmed.alike (n6 _ _ hB.1)
  have hne : s.heap.size ≠ a := (Nat.ne_of_lt (Array.getElem?_eq_some_iff.mp hB.1).1).symm
  have c9 : Steps p.tables e below (s₁.setTop (entryFrame m #[.ref a, .ref b, .int (Int32.ofNat o), .int (Int32.ofNat len), .null] 6)) (T8.setTop (mkF m 39 #[.val (.ref a), .val (.ref b), .val (.int (Int32.ofNat o)), .val (.int (Int32.ofNat len)), .val .null, .unset] [.ref s.heap.size])) := g8
  have c10 : Steps p.tables e below (s₁.setTop (entryFrame m #[.ref a, .ref b, .int (Int32.ofNat o), .int (Int32.ofNat len), .null] 6)) (T8.setTop (mkF m 45 #[.val (.ref a), .val (.ref b), .val (.int (Int32.ofNat o)), .val (.int (Int32.ofNat len)), .val .null, .val (.ref s.heap.size)] [.int (Int32.ofNat N.slots.size), .ref s.heap.size, .ref a])) := by
    have hc : Steps p.tables e below (s₁.setTop (entryFrame m #[.ref a, .ref b, .int (Int32.ofNat o), .int (Int32.ofNat len), .null] 6)) (T8.setTop (mkF m 45 #[.val (.ref a), .val (.ref b), .val (.int (Int32.ofNat o)), .val (.int (Int32.ofNat len)), .val .null, .val (.ref s.heap.size)] [.int (Int32.ofNat len), .ref s.heap.size, .ref a])) := c9.trans (by
      refine XS.astore X8.here hexec rfl (hb hbytes d39) rfl rfl rfl ?_
      refine XS.aloadN X8.here hexec rfl (hb hbytes d41) rfl rfl ?_
      refine XS.aload X8.here hexec rfl (hb hbytes d42) rfl rfl ?_
      refine XS.iloadN X8.here hexec rfl (hb hbytes d44) rfl ?_
      exact Steps.refl _)
    rw [n4]; exact hc
  obtain ⟨v11, T11, X11, E11, g11⟩ := X8.callS hexec (CodL.law l s.heap.size N) hown (wks W (staticW "java/lang/String" 47 CodL.yN)) (wk W CodL.tab) (W := 1) (Nat.le_of_ble_eq_true rfl) (Nat.le_of_ble_eq_true rfl) (Nat.le_refl _) (by show 0 + len + 0 ≤ len; omega) (g := (mkF m 45 #[.val (.ref a), .val (.ref b), .val (.int (Int32.ofNat o)), .val (.int (Int32.ofNat len)), .val .null, .val (.ref s.heap.size)] [.int (Int32.ofNat N.slots.size), .ref s.heap.size, .ref a])) rfl (by rw [hml]; rfl) c10 (argsL := [.ref s.heap.size, .int (Int32.ofNat N.slots.size)]) (rest := [.ref a]) rfl rfl (by show 2 * 0 + (1 + 0) ≤ _; decide) (hb hbytes d45) (⟨rfl, n1⟩)
  obtain ⟨rfl, q11⟩ := E11
  have hB11 := hB1.mv (X8.warmed.alike.symm.trans X11.warmed.alike) q11
  have c12 : Steps p.tables e below (s₁.setTop (entryFrame m #[.ref a, .ref b, .int (Int32.ofNat o), .int (Int32.ofNat len), .null] 6)) (T11.setTop (mkF m 48 #[.val (.ref a), .val (.ref b), .val (.int (Int32.ofNat o)), .val (.int (Int32.ofNat len)), .val .null, .val (.ref s.heap.size)] [.int 0, .ref a])) := g11
  obtain ⟨T13, X13, p13, bl13, sl13, st13⟩ := X11.finit hexec hown (wk W (.fieldLink "java/lang/String" 15 "java/lang/String" "coder" "B")) (Or.inr ⟨_, (wk W (.laysFinal "java/lang/String" "java/lang/String" "coder" "B"))⟩) (Or.inl ⟨rfl, hnm⟩) f2 (Or.inl rfl) hB11 (t := .byte) (by decide +kernel) rfl (g := (mkF m 48 #[.val (.ref a), .val (.ref b), .val (.int (Int32.ofNat o)), .val (.int (Int32.ofNat len)), .val .null, .val (.ref s.heap.size)] [.int 0, .ref a])) rfl (rest := []) rfl (hb hbytes d48)
  have c14 : Steps p.tables e below (s₁.setTop (entryFrame m #[.ref a, .ref b, .int (Int32.ofNat o), .int (Int32.ofNat len), .null] 6)) (T13.setTop (mkF m 54 #[.val (.ref a), .val (.ref b), .val (.int (Int32.ofNat o)), .val (.int (Int32.ofNat len)), .val .null, .val (.ref s.heap.size)] [.ref s.heap.size, .ref a])) := (c12.trans (st13 _ (Steps.refl _))).trans (by
    refine XS.aloadN X13.here hexec rfl (hb hbytes d51) rfl rfl ?_
    refine XS.aload X13.here hexec rfl (hb hbytes d52) rfl rfl ?_
    exact Steps.refl _)
  obtain ⟨T15, X15, p15, bl15, sl15, st15⟩ := X13.finit hexec hown (wk W (.fieldLink "java/lang/String" 9 "java/lang/String" "value" "[B")) (Or.inr ⟨_, (wk W (.laysFinal "java/lang/String" "java/lang/String" "value" "[B"))⟩) (Or.inl ⟨rfl, hnm⟩) f1 (Or.inl rfl) bl13 (t := (.array .byte)) (by decide +kernel) rfl (g := (mkF m 54 #[.val (.ref a), .val (.ref b), .val (.int (Int32.ofNat o)), .val (.int (Int32.ofNat len)), .val .null, .val (.ref s.heap.size)] [.ref s.heap.size, .ref a])) rfl (rest := []) rfl (hb hbytes d54)
  have c16 : Steps p.tables e below (s₁.setTop (entryFrame m #[.ref a, .ref b, .int (Int32.ofNat o), .int (Int32.ofNat len), .null] 6)) (T15.setTop (mkF m 57 #[.val (.ref a), .val (.ref b), .val (.int (Int32.ofNat o)), .val (.int (Int32.ofNat len)), .val .null, .val (.ref s.heap.size)] [])) := c14.trans (st15 _ (Steps.refl _))
  have ap := apart (Or.inr ⟨_, (wk W (.laysFinal "java/lang/String" "java/lang/String" "value" "[B"))⟩) (Or.inr ⟨_, (wk W (.laysFinal "java/lang/String" "java/lang/String" "coder" "B"))⟩) f1 f2 (t₁ := .array .byte) (t₂ := .byte) (by decide +kernel) (by decide +kernel) (by decide)
  have al := X8.warmed.alike.symm.trans X15.warmed.alike
  have n7 : T11.heap[s.heap.size]? = some N := by rw [q11]; exact n1.1
  exact ⟨T15, none, _, _, _, X15, by simp, rfl, by omega, (fun _ => rfl), ⟨rfl, _, N, bl15, ((Same.refl D _).set _ (by simp)).set _ (by simp), sl15, (Cell.slots_setSlot_ne _ ap).trans sl13, n1.keep al (p15.other hne (p13.other hne n7)), n2, by rw [al.findClass]; exact n3, n4, n5, fun y c h1 h2 => p15.other h1 (p13.other h1 (by rw [q11]; exact n6 y c h2)), by rw [p15.2.2, p13.2.2, q11]; exact z8⟩, fun fs hl => c16.trans (X15.returnOut hexec hret (hb hbytes d57) hl)⟩
end New4
namespace New1
def yN : MethodName := ⟨"java/lang/String", "<init>", "([C)V"⟩
abbrev yB : ByteArray := jdk_42_method_3_code
theorem d0 : decode yB 0 = .ok (.aload_n 0, 1) := by decide +kernel
theorem d1 : decode yB 1 = .ok (.aload_n 1, 1) := by decide +kernel
theorem d2 : decode yB 2 = .ok (.iconst 0, 1) := by decide +kernel
theorem d3 : decode yB 3 = .ok (.aload_n 1, 1) := by decide +kernel
theorem d4 : decode yB 4 = .ok (.arraylength, 1) := by decide +kernel
theorem d5 : decode yB 5 = .ok (.aconst_null, 1) := by decide +kernel
theorem d6 : decode yB 6 = .ok (.invokespecial 27, 3) := by decide +kernel
theorem d9 : decode yB 9 = .ok (.return_, 1) := by decide +kernel
def site : List Cond := [New4.tab] ++ initW "java/lang/String" 27 New4.yN
def tab : Cond := tabOf yN yB 2 none site
def P (a : Addr) (D : Cell) (fV fC : Field) (b : Addr) (A : Cell) (z : Int32) (args : Array Value) (s : State) : Prop := args = #[.ref a, .ref b] ∧ Blank "java/lang/String" a D s ∧ Found "java/lang/String" "value" "[B" fV s ∧ Found "java/lang/String" "coder" "B" fC s ∧ Ch b A s ∧ StaticIs s "java/lang/String" "COMPACT_STRINGS" "Z" (.int z) ∧ ¬ z = 0 ∧ 0 < A.slots.size ∧ A.slots.size ≤ 536870912 ∧ ∀ i, i < A.slots.size → ¬ 255 < cv A i
def E (a : Addr) (D : Cell) (fV fC : Field) (A : Cell) (r : Option Value) (s u : State) : Prop := Got a D fV fC A 0 A.slots.size r s u
/-- new String(chars), not empty, no char above 255: a Latin-1 String of their low bytes -/
theorem law (l : Launch) (a : Addr) (D : Cell) (fV fC : Field) (b : Addr) (A : Cell) (z : Int32) : Law l yN 2 1 3 52 yB 2 none site (P a D fV fC b A z) (E a D fV fC A) [⟨a, fC.slot⟩, ⟨a, fV.slot⟩] 1 A.slots.size := by
  refine Law.of_walk (plainFor_of_name (by decide +kernel)) (by decide +kernel) (by decide +kernel) (by decide) (fun _ _ h => by rw [h.1]; rfl) (fun _ U U' hal hh h => ⟨h.1, h.2.1.mv hal hh, h.2.2.1.al hal, h.2.2.2.1.al hal, h.2.2.2.2.1.mv hal hh, h.2.2.2.2.2.1.there hal hh, h.2.2.2.2.2.2⟩) (fun r U U' V V' h1 hal h2 h => Got.mv r U U' V V' h1 hal h2 h) ?_
  intro p e s m args below meth c s₁ X0 hexec hbytes hml hret hlk hnm hown hh0 W hP
  obtain ⟨rfl, hB, f1, f2, hA, s1, hz, l0, l2, hp⟩ := hP
  have c1 : Steps p.tables e below (s₁.setTop (entryFrame m #[.ref a, .ref b] 2)) (s₁.setTop (mkF m 0 #[.val (.ref a), .val (.ref b)] [])) := entry rfl
  have c2 : Steps p.tables e below (s₁.setTop (entryFrame m #[.ref a, .ref b] 2)) (s₁.setTop (mkF m 6 #[.val (.ref a), .val (.ref b)] [.null, .int (Int32.ofNat A.slots.size), .int 0, .ref b, .ref a])) := c1.trans (by
    refine XS.aloadN X0.here hexec rfl (hb hbytes d0) rfl rfl ?_
    refine XS.aloadN X0.here hexec rfl (hb hbytes d1) rfl rfl ?_
    refine iconstV X0.here hexec rfl 0 (hb hbytes d2) (by decide) ?_
    refine XS.aloadN X0.here hexec rfl (hb hbytes d3) rfl rfl ?_
    refine X0.alen hexec (hA.1.mv X0.warmed.alike hh0) rfl rfl (hb hbytes d4) ?_
    refine XS.aconstNull X0.here hexec rfl (hb hbytes d5) ?_
    exact Steps.refl _)
  obtain ⟨v3, T3, X3, E3, g3⟩ := X0.callN hexec (New4.law l a D fV fC b A z 0 A.slots.size) rfl hown (wks W (initW "java/lang/String" 27 New4.yN)) (W New4.tab (by simp only [site, List.mem_cons, List.mem_append, true_or, or_true])) (W := 0) (Nat.le_of_ble_eq_true rfl) (Nat.le_of_ble_eq_true rfl) (Nat.le_refl _) (by show 0 + A.slots.size ≤ A.slots.size; omega) (g := (mkF m 6 #[.val (.ref a), .val (.ref b)] [.null, .int (Int32.ofNat A.slots.size), .int (Int32.ofNat 0), .ref b, .ref a])) rfl (by rw [hml]; rfl) c2 (argsL := [.ref b, .int (Int32.ofNat 0), .int (Int32.ofNat A.slots.size), .null]) (rest := []) rfl rfl (by show 2 * 0 + 0 ≤ _; decide) (hb hbytes d6) (⟨rfl, hB.mv X0.warmed.alike hh0, f1.al X0.warmed.alike, f2.al X0.warmed.alike, hA.mv X0.warmed.alike hh0, s1.there X0.warmed.alike hh0, hz, l0, by omega, l2, fun i hi => by rw [Nat.zero_add]; exact hp i hi⟩)
  have e0 := Got.mv _ s₁ s _ _ hh0.symm (Vm.Alike.refl _) rfl E3
  obtain rfl := e0.1
  have c4 : Steps p.tables e below (s₁.setTop (entryFrame m #[.ref a, .ref b] 2)) (T3.setTop (mkF m 9 #[.val (.ref a), .val (.ref b)] [])) := g3
  exact ⟨T3, none, _, _, _, X3, by simp, rfl, by omega, (fun _ => rfl), e0, fun fs hl => c4.trans (X3.returnOut hexec hret (hb hbytes d9) hl)⟩
theorem pays {l : Launch} {R : Room} {p : Program} {e : Env} {below : List Frame} {s : State} {sargs : Array Value} {len W : Nat} (a : Addr) (D : Cell) (fV fC : Field) (b : Addr) (A : Cell) (z : Int32) (htab : tab.before sargs s = true) (hfr : 4 ≤ R.frames) (hlo : W + 65 ≤ R.locals) :
    Back l R p e below s sargs yN len W (fun A₁ a₁ => A₁.cells + 1 ≤ R.cells ∧ A₁.slots + A.slots.size ≤ R.slots ∧ P a D fV fC b A z a₁ A₁.U) (fun A₁ _ v₁ B₁ => E a D fV fC A v₁ A₁.U B₁.U ∧ B₁.locs = A₁.locs ++ [⟨a, fC.slot⟩, ⟨a, fV.slot⟩] ∧ B₁.cells = A₁.cells + 1 ∧ B₁.slots = A₁.slots + A.slots.size) :=
  (law l a D fV fC b A z).pays htab hfr (by omega)
end New1
end StrChars
namespace StrChars.Road
open Jvm Sem ClassFile Op Lib Jvm.Stand Jvm.Free Jvm.Free.XT
open Jvm.Lib.Cold (StaticIs)
abbrev ST : String := "java/lang/String"
/-- every table word that New1's law asks, flat -/
abbrev words : List Jvm.Cond := [.code New1.yN New1.yB 2 none, .initialized ST, .methodLink ST 27 New4.yN, .instanceMethod New4.yN,
  .code New4.yN New4.yB 6 none, .fieldLink ST 38 ST "COMPACT_STRINGS" "Z", .laysFinal ST ST "value" "[B", .fieldLink ST 9 ST "value" "[B", .laysFinal ST ST "coder" "B", .fieldLink ST 15 ST "coder" "B",
  .methodLink ST 1 Lib.objectInit, .instanceMethod Lib.objectInit, .code Lib.objectInit ⟨#[0xb1]⟩ 1 none, .methodLink ST 177 Cmp3.yN, .static Cmp3.yN, .methodLink ST 47 CodL.yN, .static CodL.yN,
  .code Cmp3.yN Cmp3.yB 6 (some (.array .byte)), .initialized U16, .arrayClass .byte, .methodLink U16 115 Cmp5.yN, .static Cmp5.yN, .code Cmp5.yN Cmp5.yB 7 (some .int), .code CodL.yN CodL.yB 2 (some .byte)]
theorem tab_of {a : Array Value} {s : State} (h : ∀ w ∈ words, w.before a s = true) : New1.tab.before a s = true := by
  have h5 : Cmp5.tab.before a s = true := unparts (wk h (.code Cmp5.yN Cmp5.yB 7 (some .int))) (wks h (.initialized Cmp5.yN.cls :: Cmp5.site))
  have hc : CodL.tab.before a s = true := unparts (wk h (.code CodL.yN CodL.yB 2 (some .byte))) (wks h (.initialized CodL.yN.cls :: CodL.site))
  have q5 : ∀ w ∈ Cmp5.tab :: words, w.before a s = true := fun w hw => (List.mem_cons.mp hw).elim (fun e => e ▸ h5) (h w)
  have h3 : Cmp3.tab.before a s = true := unparts (wk q5 (.code Cmp3.yN Cmp3.yB 6 (some (.array .byte)))) (wks q5 (.initialized Cmp3.yN.cls :: Cmp3.site))
  have q3 : ∀ w ∈ Cmp3.tab :: CodL.tab :: words, w.before a s = true := fun w hw => (List.mem_cons.mp hw).elim (fun e => e ▸ h3) fun hw => (List.mem_cons.mp hw).elim (fun e => e ▸ hc) (h w)
  have h4 : New4.tab.before a s = true := unparts (wk q3 (.code New4.yN New4.yB 6 none)) (wks q3 (.initialized New4.yN.cls :: New4.site))
  have q4 : ∀ w ∈ New4.tab :: words, w.before a s = true := fun w hw => (List.mem_cons.mp hw).elim (fun e => e ▸ h4) (h w)
  exact unparts (wk q4 (.code New1.yN New1.yB 2 none)) (wks q4 (.initialized New1.yN.cls :: New1.site))
/-- the words ride from the start Z to the walk's own state -/
theorem moved {Z s : State} {a0 args : Array Value} (hZ : Z.Warmed39 s.vm) (hw : ∀ d ∈ words, d.before a0 Z = true) : ∀ d ∈ words, d.before args s = true := fun d hd => by
  have q := hw d hd
  have t : ∀ d ∈ words, d = .arrayClass .byte ∨ (d.onTables && d.keepsFace) = true := by decide +kernel
  rcases t d hd with rfl | t
  · exact RoadKit.mvA hZ q
  · exact RoadKit.mv hZ q t
/-- WHAT COMES BACK, over the tables of the start Z: h the heap at the call, h' behind it -/
def Q (Z : State) (x : Addr) (A : Cell) (h : Heap) (v : Option Value) (h' : Heap) (L : List Loc) : Prop := v = none ∧ (∀ y ∈ L, y.base = x) ∧ RoadKit.Keep h h' [x] ∧ h'.size = h.size + 1 ∧ RoadKit.Exa Z h' x ST ∧ RoadKit.Fld Z h' x ST "value" "[B" (.ref h.size) ∧ RoadKit.Fld Z h' x ST "coder" "B" (.int 0) ∧
  (∃ V : Cell, RoadKit.Arr Z h' h.size V .byte ∧ V.vm = .none ∧ Z.vm.findClass "[B" = some V.cls ∧ V.slots.size = A.slots.size ∧ ∀ j, j < A.slots.size → V.slots[j]? = some (.int (lo8 (cv A j)))) ∧
  ∀ (O n d : String) (w : Value), RoadKit.Fld Z h x O n d w → RoadKit.slotOf Z O n d ≠ RoadKit.slotOf Z ST "value" "[B" → RoadKit.slotOf Z O n d ≠ RoadKit.slotOf Z ST "coder" "B" → RoadKit.Fld Z h' x O n d w
/-- **new String(chars) AT A CALL, IN THE ROAD'S FORM**: for specialBack behind newO: x the fresh String, b the char[] with the cell A -/
theorem back {p : Program} {l : Launch} {e : Env} {R : Room} {s : State} {args : Array Value} {below : List Frame} {len W : Nat} {Z : State} {a0 : Array Value} {h : Heap} (hZ : Z.Warmed39 s.vm) (hw : ∀ d ∈ words, d.before a0 Z = true) {kI : Nat} (wi : (Jvm.Cond.instantiable ST kI).before a0 Z = true)
    {x b : Addr} {A : Cell} {z : Int32} {v0 c0 : Value} (E : RoadKit.Exa Z h x ST) (V : RoadKit.Fld Z h x ST "value" "[B" v0) (C : RoadKit.Fld Z h x ST "coder" "B" c0) (K : RoadKit.Arr Z h b A .char) (hty : Typed .char A) (S : RoadKit.Sta Z h ST "COMPACT_STRINGS" "Z" (.int z)) (hz : ¬ z = 0)
    (l0 : 0 < A.slots.size) (l2 : A.slots.size ≤ 536870912) (hp : ∀ i, i < A.slots.size → ¬ 255 < cv A i) (hfr : 4 ≤ R.frames) (hlo : W + 65 ≤ R.locals) :
    Back l R p e below s args New1.yN len W (fun P a => a = #[.ref x, .ref b] ∧ P.U.heap = h ∧ P.cells + 1 ≤ R.cells ∧ P.slots + A.slots.size ≤ R.slots)
      (fun P _ v B => ∃ L, Q Z x A h v B.U.heap L ∧ B.locs = P.locs ++ L ∧ B.cells = P.cells + 1 ∧ B.slots = P.slots + A.slots.size) := by
  intro m meth c P g ig mk a X hg hsize hdg hW hn hp'
  obtain ⟨rfl, rfl, r1, r2⟩ := hp'
  have al : Z.vm.Alike P.U.vm := hZ.alike.trans X.warmed.alike
  obtain ⟨D, cfV, kV, iV, fV, hD, gV, stV, knV, obV, asV, slV⟩ := id V
  obtain ⟨D', cfC, kC, iC, fC, hD', gC, stC, -, -, asC, slC⟩ := id C
  cases hD.symm.trans hD'
  obtain ⟨D2, kD, e1, e2, e3, e4, e5⟩ := id E
  cases hD.symm.trans e1
  obtain ⟨c2, k2, i1, i2, i3, -⟩ := Cond.instantiable_spec wi
  cases e2.symm.trans i1
  cases e3.symm.trans i2
  obtain ⟨kU, u1, u2⟩ := al.2.2 _ _ e3
  have hB : Blank ST x D P.U := ⟨hD, ⟨knV, fun q hq => by rw [hq] at obV; cases obV⟩, by rw [al.findClass]; exact e2, kU, u1, by rw [u2]; exact i3, by rw [u2]; exact e5 i3⟩
  have F1 : Found ST "value" "[B" fV P.U := ⟨SBG.found_only al ⟨cfV, kV, iV, gV⟩, stV⟩
  have F2 : Found ST "coder" "B" fC P.U := ⟨SBG.found_only al ⟨cfC, kC, iC, gC⟩, stC⟩
  have hA : Ch b A P.U := ⟨⟨K.1, State.isArrayOf_alike al K.2.1, K.2.2, by omega⟩, hty⟩
  have hS : StaticIs P.U ST "COMPACT_STRINGS" "Z" (.int z) := by
    obtain ⟨cfS, iS, kS, fS, st, cS, t1, t2, t3, t4, t5, t6, t7⟩ := S
    exact StaticIs.there (s := { Z with heap := P.U.heap }) ⟨cfS, iS, kS, fS, st, cS, t1, t2, t3, t4, t5, (fun q => by rw [q] at t6; cases t6), t7⟩ al rfl
  obtain ⟨v, B, X', ⟨⟨hv, E', V', q1, q2, q3, q4, q5, q6, q7, q8, q9, q10, q11⟩, hl, hc, hs⟩, st⟩ := New1.pays x D fV fC b A z (tab_of (moved hZ hw)) hfr hlo m meth c P g ig mk _ X hg hsize hdg hW hn ⟨r1, r2, rfl, hB, F1, F2, hA, hS, hz, l0, l2, hp⟩
  have al' : Z.vm.Alike B.U.vm := hZ.alike.trans X'.warmed.alike
  have hsz : E'.slots.size = D.slots.size := by
    obtain ⟨-, -, -, kB, w1, w2, w3⟩ := q1
    obtain ⟨kB', y1, y2⟩ := al'.2.2 _ _ e3
    rw [q2.2.1] at w1
    cases w1.symm.trans y1
    rw [w3, e5 i3, y2]
  refine ⟨v, B, X', ⟨_, ⟨hv, ?_, ⟨by omega, fun y cy hy hn' => q10 y cy (by simpa using hn') hy, fun y cy hy => ?_⟩, q11, ⟨E', _, q1.1, by rw [q2.2.1]; exact e2, by rw [q2.2.1]; exact e3, by rw [q2.1]; exact obV, fun _ => by rw [hsz]; exact e5 i3⟩,
    ⟨E', cfV, kV, iV, fV, q1.1, gV, stV, by rw [q2.1]; exact knV, by rw [q2.1]; exact obV, by rw [q2.2.1]; exact asV, q3⟩, ⟨E', cfC, kC, iC, fC, q1.1, gC, stC, by rw [q2.1]; exact knV, by rw [q2.1]; exact obV, by rw [q2.2.1]; exact asC, q4⟩,
    ⟨V', ⟨q5.1, State.isArrayOf_alike al'.symm q5.2.1, q5.2.2.1⟩, q6, by rw [← al'.findClass]; exact q7, q8, fun j hj => by have := q9 j hj; rwa [Nat.zero_add] at this⟩, fun O n d w F n1 n2 => ?_⟩, hl, hc, hs⟩, st⟩
  · intro y hy
    simp only [List.mem_cons, List.not_mem_nil, or_false] at hy
    rcases hy with rfl | rfl <;> rfl
  · by_cases q : y = x
    · subst q
      cases hD.symm.trans hy
      exact ⟨E', q1.1, q2.2.1, q2.1, hsz⟩
    · exact ⟨cy, q10 y cy q hy, rfl, rfl, rfl⟩
  · obtain ⟨D3, cf, k, i, f, g1, g2, g3, g4, g5, g6, g7⟩ := F
    cases hD.symm.trans g1
    simp only [RoadKit.slotOf, g2, gV, gC, Option.map_some, Option.getD_some] at n1 n2
    exact ⟨E', cf, k, i, f, q1.1, g2, g3, by rw [q2.1]; exact g4, by rw [q2.1]; exact g5, by rw [q2.2.1]; exact g6, by rw [q2.2.2 f.slot (by simp [n1, n2])]; exact g7⟩
end StrChars.Road
namespace StrChars.Road
open Jvm Sem ClassFile Op Lib Jvm.Stand Jvm.Free Jvm.Free.XT
/-- WHAT COMES BACK, the byte[] as a list of values -/
def QA (Z : State) (x : Addr) (zn : Int32) (cs : List Int32) (h : Heap) (v : Option Value) (h' : Heap) (L : List Loc) : Prop := v = none ∧ (∀ y ∈ L, y.base = x) ∧ RoadKit.Keep h h' [x] ∧ h'.size = h.size + 1 ∧ RoadKit.Exa Z h' x ST ∧ RoadKit.Fld Z h' x ST "value" "[B" (.ref h.size) ∧ RoadKit.Fld Z h' x ST "coder" "B" (.int 0) ∧
  (∃ kb, Z.vm.findClass "[B" = some kb ∧ RoadKit.Arv Z h' h.size kb .byte zn (cs.map fun c => .int (lo8 c)) (.int 0)) ∧
  ∀ (O n d : String) (w : Value), RoadKit.Fld Z h x O n d w → RoadKit.slotOf Z O n d ≠ RoadKit.slotOf Z ST "value" "[B" → RoadKit.slotOf Z O n d ≠ RoadKit.slotOf Z ST "coder" "B" → RoadKit.Fld Z h' x O n d w
/-- **new String(chars) AT A CALL, THE ARRAYS AS LISTS**: the char[] at b holds cs, not empty, no char above 255 -/
theorem backArv {p : Program} {l : Launch} {e : Env} {R : Room} {s : State} {args : Array Value} {below : List Frame} {len W : Nat} {Z : State} {a0 : Array Value} {h : Heap} (hZ : Z.Warmed39 s.vm) (hw : ∀ d ∈ words, d.before a0 Z = true) {kI : Nat} (wi : (Jvm.Cond.instantiable ST kI).before a0 Z = true)
    {x b : Addr} {k : ClassId} {zn z : Int32} {cs : List Int32} {dv v0 c0 : Value} (E : RoadKit.Exa Z h x ST) (V : RoadKit.Fld Z h x ST "value" "[B" v0) (C : RoadKit.Fld Z h x ST "coder" "B" c0) (K : RoadKit.Arv Z h b k .char zn (cs.map Value.int) dv) (S : RoadKit.Sta Z h ST "COMPACT_STRINGS" "Z" (.int z)) (hz : ¬ z = 0)
    (hlen : zn.toNatClampNeg = cs.length) (h0 : 0 < cs.length) (hbig : cs.length ≤ 536870912) (hall : ∀ c ∈ cs, ¬ 255 < c) (hfr : 4 ≤ R.frames) (hlo : W + 65 ≤ R.locals) :
    Back l R p e below s args New1.yN len W (fun P a => a = #[.ref x, .ref b] ∧ P.U.heap = h ∧ P.cells + 1 ≤ R.cells ∧ P.slots + cs.length ≤ R.slots)
      (fun P _ v B => ∃ L, QA Z x zn cs h v B.U.heap L ∧ B.locs = P.locs ++ L ∧ B.cells = P.cells + 1 ∧ B.slots = P.slots + cs.length) := by
  obtain ⟨A, K1, K2, K3, K4, K5, K6⟩ := K
  have e : A.slots.size = cs.length := K3.trans hlen
  have hat : ∀ (i : Nat) (hi : i < cs.length), A.slots[i]? = some (.int cs[i]) := fun i hi => by rw [K5 i (by omega)]; simp [List.getD_eq_getElem?_getD, hi]
  have hcv : ∀ (i : Nat) (hi : i < cs.length), cv A i = cs[i] := fun i hi => by unfold cv; rw [hat i hi]
  have hty : Typed .char A := fun i v hv => by
    have hi : i < A.slots.size := (Array.getElem?_eq_some_iff.mp hv).1
    have q := K5 i hi
    rw [hv] at q
    rw [Option.some.inj q]
    exact K6 i hi
  refine Back.mono (back hZ hw wi E V C K1 hty S hz (by omega) (by omega) (fun i hi => by rw [hcv i (by omega)]; exact hall _ (List.getElem_mem _)) hfr hlo) (fun P a hp => ⟨hp.1, hp.2.1, hp.2.2.1, by rw [e]; exact hp.2.2.2⟩) (fun P a v B hp hq => ?_)
  obtain ⟨L, ⟨q1, q2, q3, q4, q5, q6, q7, ⟨V', v1, v2, v3, v4, v5⟩, q9⟩, hl, hc, hs⟩ := hq
  refine ⟨L, ⟨q1, q2, q3, q4, q5, q6, q7, ⟨V'.cls, v3, V', v1, rfl, by rw [v4, e, hlen], K4, fun i hi => ?_, fun i hi => ?_⟩, q9⟩, hl, hc, by rw [hs, e]⟩
  · have hi' : i < cs.length := by omega
    rw [v5 i (by omega), hcv i hi']; simp [List.getD_eq_getElem?_getD, hi']
  · have hi' : i < cs.length := by omega
    simp only [List.getD_eq_getElem?_getD, List.getElem?_map, List.getElem?_eq_getElem hi', Option.map_some, Option.getD_some]
    exact fits_lo8 _
end StrChars.Road
namespace StrChars.Road
open Jvm Sem ClassFile Op Lib Jvm.Stand Jvm.Free Jvm.Free.XT
/-- WHAT COMES BACK, in the writer's own shape -/
def QV (Z : State) (x : Addr) (N : Int32) (bs : List Int32) (h : Heap) (n0 : Nat) (v : Option Value) (h' : Heap) (L : List Loc) : Prop := v = none ∧ RoadKit.Fr n0 L ∧ RoadKit.Keep h h' [x] ∧ RoadKit.Exa Z h' x ST ∧ RoadKit.Fld Z h' x ST "coder" "B" (.int 0) ∧
  ∃ (t : Addr) (kb : ClassId), n0 ≤ t ∧ h.size ≤ t ∧ ¬ t = x ∧ RoadKit.Fld Z h' x ST "value" "[B" (.ref t) ∧ RoadKit.Arv Z h' t kb .byte N (bs.map Value.int) (.int 0)
/-- **new String(chars) AT A CALL, FOR THE WRITER**: a char[] of n known ints, each 0 to 255 -/
theorem backV {p : Program} {l : Launch} {e : Env} {R : Room} {s : State} {args : Array Value} {below : List Frame} {len W : Nat} {Z : State} {a0 : Array Value} {h : Heap} (hZ : Z.Warmed39 s.vm) (hw : ∀ d ∈ words, d.before a0 Z = true) {kI : Nat} (wi : (Jvm.Cond.instantiable ST kI).before a0 Z = true)
    {x b : Addr} {kC : ClassId} {cs bs : List Int32} {d v0 c0 : Value} {z N : Int32} {n n0 : Nat} (hx0 : n0 ≤ x) (hh0 : n0 ≤ h.size) (E : RoadKit.Exa Z h x ST) (V : RoadKit.Fld Z h x ST "value" "[B" v0) (C : RoadKit.Fld Z h x ST "coder" "B" c0) (K : RoadKit.Arv Z h b kC .char N (cs.map Value.int) d) (S : RoadKit.Sta Z h ST "COMPACT_STRINGS" "Z" (.int z)) (hz : ¬ z = 0)
    (hn : cs.length = n) (hN : N = Int32.ofNat n) (l0 : 0 < n) (l2 : n ≤ 4000) (hp : ∀ c ∈ cs, ¬ c < 0 ∧ ¬ (255 : Int32) < c) (hb : bs = cs.map (fun c => c.toInt8.toInt32)) (hfr : 4 ≤ R.frames) (hlo : W + 65 ≤ R.locals) :
    Back l R p e below s args (⟨"java/lang/String", "<init>", "([C)V"⟩ : MethodName) len W (fun P a => a = #[.ref x, .ref b] ∧ P.U.heap = h ∧ P.cells + 1 ≤ R.cells ∧ P.slots + n ≤ R.slots)
      (fun P _ v B => ∃ L, QV Z x N bs h n0 v B.U.heap L ∧ B.locs = P.locs ++ L ∧ B.cells = P.cells + 1 ∧ B.slots = P.slots + n) := by
  subst hn hN hb
  refine Back.mono (backArv hZ hw wi E V C K S hz (n32 (by omega)) l0 (by omega) (fun c hc => (hp c hc).2) hfr hlo) (fun P a hp => hp) (fun P a v B hp hq => ?_)
  obtain ⟨L, ⟨q1, q2, q3, q4, q5, q6, q7, ⟨kb, v1, v2⟩, q9⟩, hl, hc, hs⟩ := hq
  exact ⟨L, ⟨q1, fun y hy => by rw [q2 y hy]; exact hx0, q3, q5, q7, h.size, kb, hh0, Nat.le_refl _, Nat.ne_of_gt E.lt, q6, by rw [List.map_map]; exact v2⟩, hl, hc, hs⟩
end StrChars.Road
end Jvm.Pilot.@@N@@
namespace Jvm.Pilot.@@N@@
open Jvm Jvm.ClassFile Sem Op Lib Jvm.Free Jvm.Stand Jvm.LawKit Jvm.RoadKit Bundle Jvm.Pilot.@@N@@.Jvm.D
/-! own layer: the walk in continuation form -/
section OwnWalk
variable {p : Program} {l : Launch} {e : Env} {R : Room} {s : State} {m : MethodId} {args : Array Value} {below : List Frame} {meth : Method} {c : Code} {T T' : State} {locs : List Loc} {cells slots : Nat} {Q : Option Value → Heap → List Loc → Prop} {ck sk : Nat} {f f' : JFrame} {Z : State} {a0 : Array Value} {h h' : Heap}
/-- from this state and frame the invocation returns, and what it leaves is told by Q -/
def ownEnds (p : Program) (e : Env) (below : List Frame) (s : State) (Q : Option Value → Heap → List Loc → Prop) (ck sk : Nat) (T : State) (f : JFrame) : Prop :=
  ∃ s₂ o, Steps p.tables e below (T.setTop f) s₂ ∧ s₂.status = .running ∧ Ended s₂ below o ∧ ∃ v L, o = .returned v ∧ Q v s₂.heap L ∧ FrameEnd s o s₂ L ck sk
theorem ownGo (st : ∀ target, Steps p.tables e below (T'.setTop f') target → Steps p.tables e below (T.setTop f) target) (k : ownEnds p e below s Q ck sk T' f') : ownEnds p e below s Q ck sk T f := by
  obtain ⟨a, b, h1, h2⟩ := k
  exact ⟨a, b, st _ h1, h2⟩
theorem ownRun (st : Steps p.tables e below (T.setTop f) (T'.setTop f')) (k : ownEnds p e below s Q ck sk T' f') : ownEnds p e below s Q ck sk T f :=
  ownGo (fun _ q => st.trans q) k
theorem ownCast (q : f = f') (k : ownEnds p e below s Q ck sk T f') : ownEnds p e below s Q ck sk T f := q ▸ k
theorem ownRetI (X : Stand p l e R s m args below meth c T locs cells slots) (hx : p.tables.exec = Jvm.exec) {pc : Nat} {Ls : Array Slot} {z : Int32} {rest : List Value} (hret : meth.sig.returnType = some .int) (hd : decode c.code pc = .ok (.ireturn, 1)) (hk : meth.locks = false) (hc : cells ≤ ck) (hs : slots ≤ sk)
    (hQ : Q (some (.int z)) T.heap locs) : ownEnds p e below s Q ck sk T (mkF m pc Ls (.int z :: rest)) := by
  obtain ⟨fs, hr, hrun, hended, hW, hsame⟩ := X.leave (v := some (.int z)) (fun h => by rw [hret] at h; cases h) hk
  exact ⟨_, _, retOut X hx hret rfl (Or.inl ⟨rfl, Or.inl rfl, _, rfl⟩) hd hr, hrun, hended, _, _, rfl, hQ, ⟨_, rfl⟩, hW, hsame.mono hc hs⟩
theorem ownRetN (X : Stand p l e R s m args below meth c T locs cells slots) (hx : p.tables.exec = Jvm.exec) {pc : Nat} {Ls : Array Slot} {z r : Int32} {rest : List Value} {t : FieldType} (ht : t = .boolean ∨ t = .byte ∨ t = .char ∨ t = .short) (hret : meth.sig.returnType = some t) (hd : decode c.code pc = .ok (.ireturn, 1)) (hk : meth.locks = false) (hc : cells ≤ ck) (hs : slots ≤ sk)
    (hz : nar t z = r) (hQ : Q (some (.int r)) T.heap locs) : ownEnds p e below s Q ck sk T (mkF m pc Ls (.int z :: rest)) := by
  subst hz
  obtain ⟨fs, hr, hrun, hended, hW, hsame⟩ := X.leave (v := some (.int (nar t z))) (fun h => by rw [hret] at h; cases h) hk
  exact ⟨_, _, retN X hx hret ht hd hr, hrun, hended, _, _, rfl, hQ, ⟨_, rfl⟩, hW, hsame.mono hc hs⟩
theorem ownRetR (X : Stand p l e R s m args below meth c T locs cells slots) (hx : p.tables.exec = Jvm.exec) {pc : Nat} {Ls : Array Slot} {w : Value} {rest : List Value} {t : FieldType} (ht : t.isReference = true) (hn : narrow t w = w) (hw : w.isRef = true) (hret : meth.sig.returnType = some t) (hd : decode c.code pc = .ok (.areturn, 1)) (hk : meth.locks = false) (hc : cells ≤ ck) (hs : slots ≤ sk)
    (hQ : Q (some w) T.heap locs) : ownEnds p e below s Q ck sk T (mkF m pc Ls (w :: rest)) := by
  obtain ⟨fs, hr, hrun, hended, hW, hsame⟩ := X.leave (v := some w) (fun h => by rw [hret] at h; cases h) hk
  exact ⟨_, _, retOut X hx hret hn (Or.inr (Or.inr (Or.inr (Or.inr ⟨rfl, ht, hw⟩)))) hd hr, hrun, hended, _, _, rfl, hQ, ⟨_, rfl⟩, hW, hsame.mono hc hs⟩
theorem ownRetV (X : Stand p l e R s m args below meth c T locs cells slots) (hx : p.tables.exec = Jvm.exec) {pc : Nat} {Ls : Array Slot} (hret : meth.sig.returnType = none) (hd : decode c.code pc = .ok (.return_, 1)) (hk : meth.locks = false) (hc : cells ≤ ck) (hs : slots ≤ sk)
    (hQ : Q none T.heap locs) : ownEnds p e below s Q ck sk T (mkF m pc Ls []) := by
  obtain ⟨fs, hr, hrun, hended, hW, hsame⟩ := X.leave (v := none) (fun _ => rfl) hk
  exact ⟨_, _, X.returnOut hx hret hd hr, hrun, hended, _, _, rfl, hQ, ⟨_, rfl⟩, hW, hsame.mono hc hs⟩
/-- one place of a function turned -/
def ownUpd {α : Type} (f : Nat → α) (j : Nat) (x : α) : Nat → α := fun i => if i = j then x else f i
theorem ownUpd_same {α : Type} (f : Nat → α) (j : Nat) (x : α) : ownUpd f j x j = x := if_pos rfl
theorem ownUpd_ne {α : Type} (f : Nat → α) {i j : Nat} (x : α) (q : i ≠ j) : ownUpd f j x i = f i := if_neg q
/-- an array of ints (or bytes, chars ..): its length and its components -/
def ownAI (Z : State) (h : Heap) (a : Addr) (ty : FieldType) (n : Nat) (g : Nat → Int32) : Prop := ∃ cl : Cell, Arr Z h a cl ty ∧ cl.slots.size = n ∧ n < 2 ^ 31 ∧ ∀ i, i < n → cl.slots[i]? = some (.int (g i))
/-- an array of longs -/
def ownAJ (Z : State) (h : Heap) (a : Addr) (n : Nat) (g : Nat → Int64) : Prop := ∃ cl : Cell, Arr Z h a cl .long ∧ cl.slots.size = n ∧ n < 2 ^ 31 ∧ ∀ i, i < n → cl.slots[i]? = some (.long (g i))
variable {a b : Addr} {ty : FieldType} {n : Nat} {gi : Nat → Int32} {gj : Nat → Int64} {ws : List Addr} {sl : Nat} {v : Value}
theorem ownAI.lt (F : ownAI Z h a ty n gi) : a < h.size := by obtain ⟨c, A, -⟩ := F; exact A.lt
theorem ownAI.ext (F : ownAI Z h a ty n gi) (E : Ext h h') : ownAI Z h' a ty n gi := by obtain ⟨c, A, r⟩ := F; exact ⟨c, A.ext E, r⟩
theorem ownAI.other (F : ownAI Z h b ty n gi) (W : Wr h h' a sl v) (q : b ≠ a) : ownAI Z h' b ty n gi := by obtain ⟨c, A, r⟩ := F; exact ⟨c, A.other W q, r⟩
theorem ownAI.keep (F : ownAI Z h a ty n gi) (K : Keep h h' ws) (q : a ∉ ws) : ownAI Z h' a ty n gi := by obtain ⟨c, A, r⟩ := F; exact ⟨c, ⟨K.2.1 a c A.1 q, A.2⟩, r⟩
theorem ownAJ.lt (F : ownAJ Z h a n gj) : a < h.size := by obtain ⟨c, A, -⟩ := F; exact A.lt
theorem ownAJ.ext (F : ownAJ Z h a n gj) (E : Ext h h') : ownAJ Z h' a n gj := by obtain ⟨c, A, r⟩ := F; exact ⟨c, A.ext E, r⟩
theorem ownAJ.other (F : ownAJ Z h b n gj) (W : Wr h h' a sl v) (q : b ≠ a) : ownAJ Z h' b n gj := by obtain ⟨c, A, r⟩ := F; exact ⟨c, A.other W q, r⟩
theorem ownAJ.keep (F : ownAJ Z h a n gj) (K : Keep h h' ws) (q : a ∉ ws) : ownAJ Z h' a n gj := by obtain ⟨c, A, r⟩ := F; exact ⟨c, ⟨K.2.1 a c A.1 q, A.2⟩, r⟩
theorem ownAI.new {k : ClassId} {z : Int32} (A : Arr Z h a (newA k ty z) ty) (q : ¬ z < 0) (d : defaultValue ty = .int 0) (N : z.toNatClampNeg = n) : ownAI Z h a ty n (fun _ => 0) := by
  subst N
  refine ⟨_, A, sz_new _ _ _, (back32 q).2, fun i hi => ?_⟩
  simp [newA, hi, d]
theorem ownAJ.new {k : ClassId} {z : Int32} (A : Arr Z h a (newA k .long z) .long) (q : ¬ z < 0) (N : z.toNatClampNeg = n) : ownAJ Z h a n (fun _ => 0) := by
  subst N
  refine ⟨_, A, sz_new _ _ _, (back32 q).2, fun i hi => ?_⟩
  simp [newA, hi, defaultValue]
theorem ownAI.set (F : ownAI Z h a ty n gi) {j : Nat} {x : Int32} (W : Wr h h' a j (.int x)) : ownAI Z h' a ty n (ownUpd gi j x) := by
  obtain ⟨cl, A, S, N, H⟩ := F
  refine ⟨_, A.same W, by simpa [Cell.setSlot] using S, N, fun i hi => ?_⟩
  by_cases e : i = j
  · subst e; simp [Cell.setSlot, ownUpd, S, hi]
  · rw [ownUpd_ne _ _ e]
    show (cl.slots.setIfInBounds j (.int x))[i]? = _
    rw [Array.getElem?_setIfInBounds_ne (Ne.symm e)]; exact H i hi
theorem ownAJ.set (F : ownAJ Z h a n gj) {j : Nat} {x : Int64} (W : Wr h h' a j (.long x)) : ownAJ Z h' a n (ownUpd gj j x) := by
  obtain ⟨cl, A, S, N, H⟩ := F
  refine ⟨_, A.same W, by simpa [Cell.setSlot] using S, N, fun i hi => ?_⟩
  by_cases e : i = j
  · subst e; simp [Cell.setSlot, ownUpd, S, hi]
  · rw [ownUpd_ne _ _ e]
    show (cl.slots.setIfInBounds j (.long x))[i]? = _
    rw [Array.getElem?_setIfInBounds_ne (Ne.symm e)]; exact H i hi
/-- an index is inside -/
def ownIn (j : Int32) (n : Nat) : Prop := ¬ (j < 0 ∨ n ≤ j.toNatClampNeg)
theorem ownIn_of {j : Int32} {n : Nat} (h1 : 0 ≤ j.toInt) (h2 : j.toInt < n) : ownIn j n := by
  intro q
  rcases q with q | q
  · rw [Int32.lt_iff_toInt_lt] at q; simp only [Int32.reduceToInt] at q; omega
  · simp only [Int32.toNatClampNeg] at q; omega
theorem ownBaload (F : ownAI Z h a .byte n gi) (X : Stand p l e R s m args below meth c T locs cells slots) (hx : p.tables.exec = Jvm.exec) (hZ : Z.Warmed39 s.vm) (eT : T.heap = h) {j : Int32} (hin : ownIn j n) {g : JFrame} (hg : g.method = m) {rest : List Value} (hs : g.stack = .int j :: .ref a :: rest) (hd : decode c.code g.pc = .ok (.baload, 1)) :
    ∀ target, Steps p.tables e below (T.setTop { g with pc := g.pc + 1, stack := .int (gi j.toNatClampNeg) :: rest }) target → Steps p.tables e below (T.setTop g) target := by
  obtain ⟨cl, A, S, N, H⟩ := F
  subst S
  exact fun t k => X.baloadBytes hx (by rw [eT]; exact A.1) (State.isArrayOf_alike hZ.alike A.2.1) A.2.2 hin (H _ (Nat.lt_of_not_le fun q => hin (Or.inr q))) hg hs hd t k
theorem ownCaload (F : ownAI Z h a .char n gi) (X : Stand p l e R s m args below meth c T locs cells slots) (hx : p.tables.exec = Jvm.exec) (hZ : Z.Warmed39 s.vm) (eT : T.heap = h) {j : Int32} (hin : ownIn j n) {g : JFrame} (hg : g.method = m) {rest : List Value} (hs : g.stack = .int j :: .ref a :: rest) (hd : decode c.code g.pc = .ok (.caload, 1)) :
    ∀ target, Steps p.tables e below (T.setTop { g with pc := g.pc + 1, stack := .int (gi j.toNatClampNeg) :: rest }) target → Steps p.tables e below (T.setTop g) target := by
  obtain ⟨cl, A, S, N, H⟩ := F
  subst S
  exact fun t k => X.caload hx (by rw [eT]; exact A.1) (State.isArrayOf_alike hZ.alike A.2.1) A.2.2 hin (H _ (Nat.lt_of_not_le fun q => hin (Or.inr q))) hg hs hd t k
theorem ownLenI (F : ownAI Z h a ty n gi) (X : Stand p l e R s m args below meth c T locs cells slots) (hx : p.tables.exec = Jvm.exec) (hZ : Z.Warmed39 s.vm) (eT : T.heap = h) {z : Int32} (hz : n.toInt32 = z) {g : JFrame} (hg : g.method = m) {rest : List Value} (hs : g.stack = .ref a :: rest) (hd : decode c.code g.pc = .ok (.arraylength, 1)) :
    ∀ target, Steps p.tables e below (T.setTop { g with pc := g.pc + 1, stack := .int z :: rest }) target → Steps p.tables e below (T.setTop g) target := by
  obtain ⟨cl, A, S, N, H⟩ := F
  subst S hz
  exact fun t k => X.arraylength hx (by rw [eT]; exact A.1) (State.isArrayOf_alike hZ.alike A.2.1) hg hs hd t k
theorem ownCastore (F : ownAI Z h a .char n gi) (X : Stand p l e R s m args below meth c T locs cells slots) (hx : p.tables.exec = Jvm.exec) (hZ : Z.Warmed39 s.vm) (eT : T.heap = h) {j x : Int32} (hin : ownIn j n) {g : JFrame} (hg : g.method = m) {rest : List Value} (hs : g.stack = .int x :: .int j :: .ref a :: rest) (hd : decode c.code g.pc = .ok (.castore, 1)) :
    ∃ T' h', Stand p l e R s m args below meth c T' (locs ++ [⟨a, j.toNatClampNeg⟩]) cells slots ∧ T'.heap = h' ∧ Wr h h' a j.toNatClampNeg (.int (nar .char x)) ∧ ownAI Z h' a .char n (ownUpd gi j.toNatClampNeg (nar .char x)) ∧ ∀ target, Steps p.tables e below (T'.setTop { g with pc := g.pc + 1, stack := rest }) target → Steps p.tables e below (T.setTop g) target := by
  obtain ⟨cl, A, S, r⟩ := id F
  obtain ⟨T', h', X', e', W, st⟩ := stC X hx hZ eT A (j := j) (by rw [S]; exact hin) hg hs hd
  exact ⟨T', h', X', e', W, F.set W, st⟩
theorem ownNstE {C : String} (F : Exa Z h a C) : ∀ c, h[a]? = some c → c.vm.isStatics = false := fun c q => by obtain ⟨cell, k, h1, -, -, h4, -⟩ := F; cases h1.symm.trans q; exact h4
theorem ownStaKeep {C nm d : String} (F : Sta Z h C nm d v) (K : Keep h h' ws) (q : ∀ x ∈ ws, ∀ c, h[x]? = some c → c.vm.isStatics = false) : Sta Z h' C nm d v := by
  obtain ⟨cf, i, k, f, st, cell, h1, h2, h3, h4, h5, h6, h7⟩ := F
  refine ⟨cf, i, k, f, st, cell, h1, h2, h3, h4, K.2.1 st cell h5 (fun w => ?_), h6, h7⟩
  rw [q st w cell h5] at h6; cases h6
/-- an array of int arrays: its class, its length, its components -/
def ownAR (Z : State) (h : Heap) (a : Addr) (k : ClassId) (n : Nat) (f : Nat → Value) : Prop := ∃ cl : Cell, Arr Z h a cl (.array .int) ∧ cl.cls = k ∧ cl.slots.size = n ∧ n < 2 ^ 31 ∧ ∀ i, i < n → cl.slots[i]? = some (f i)
theorem ownAR.lt {k : ClassId} {fr : Nat → Value} (F : ownAR Z h a k n fr) : a < h.size := by obtain ⟨c, A, -⟩ := F; exact A.lt
theorem ownAR.ext {k : ClassId} {fr : Nat → Value} (F : ownAR Z h a k n fr) (E : Ext h h') : ownAR Z h' a k n fr := by obtain ⟨c, A, r⟩ := F; exact ⟨c, A.ext E, r⟩
theorem ownAR.other {k : ClassId} {fr : Nat → Value} (F : ownAR Z h b k n fr) (W : Wr h h' a sl v) (q : b ≠ a) : ownAR Z h' b k n fr := by obtain ⟨c, A, r⟩ := F; exact ⟨c, A.other W q, r⟩
theorem ownAR.keep {k : ClassId} {fr : Nat → Value} (F : ownAR Z h a k n fr) (K : Keep h h' ws) (q : a ∉ ws) : ownAR Z h' a k n fr := by obtain ⟨c, A, r⟩ := F; exact ⟨c, ⟨K.2.1 a c A.1 q, A.2⟩, r⟩
theorem ownAR.new {k : ClassId} {z : Int32} (A : Arr Z h a (newA k (.array .int) z) (.array .int)) (q : ¬ z < 0) (N : z.toNatClampNeg = n) : ownAR Z h a k n (fun _ => .null) := by
  subst N
  refine ⟨_, A, rfl, sz_new _ _ _, (back32 q).2, fun i hi => ?_⟩
  simp [newA, hi, defaultValue]
theorem ownAR.set {k : ClassId} {fr : Nat → Value} (F : ownAR Z h a k n fr) {j : Nat} {x : Value} (W : Wr h h' a j x) : ownAR Z h' a k n (ownUpd fr j x) := by
  obtain ⟨cl, A, q, S, N, H⟩ := F
  refine ⟨_, A.same W, q, by simpa [Cell.setSlot] using S, N, fun i hi => ?_⟩
  by_cases e : i = j
  · subst e; simp [Cell.setSlot, ownUpd, S, hi]
  · rw [ownUpd_ne _ _ e]
    show (cl.slots.setIfInBounds j x)[i]? = _
    rw [Array.getElem?_setIfInBounds_ne (Ne.symm e)]; exact H i hi
end OwnWalk
section OwnSteps
variable {p : Program} {l : Launch} {e : Env} {R : Room} {s : State} {m : MethodId} {args : Array Value} {below : List Frame} {meth : Method} {c : Code} {T : State} {locs : List Loc} {cells slots : Nat} {Q : Option Value → Heap → List Loc → Prop} {ck sk : Nat}
theorem ow_iloadN (X : Stand p l e R s m args below meth c T locs cells slots) (hx : p.tables.exec = Jvm.exec) {pc q : Nat} {Ls : Array Slot} {S : List Value} {k : Fin 4} {v : Int32} (hd : decode c.code pc = .ok (.iload_n k, 1)) (hq : pc + 1 = q) (hl : Ls[k.val]? = some (.val (.int v))) (k : ownEnds p e below s Q ck sk T (mkF m q Ls (.int v :: S))) : ownEnds p e below s Q ck sk T (mkF m pc Ls S) := by
  subst hq
  exact ownGo (fun _ k => XS.iloadN X.here hx rfl hd hl k) k
theorem ow_lloadN (X : Stand p l e R s m args below meth c T locs cells slots) (hx : p.tables.exec = Jvm.exec) {pc q : Nat} {Ls : Array Slot} {S : List Value} {k : Fin 4} {v : Int64} (hd : decode c.code pc = .ok (.lload_n k, 1)) (hq : pc + 1 = q) (hl : Ls[k.val]? = some (.val (.long v))) (k : ownEnds p e below s Q ck sk T (mkF m q Ls (.long v :: S))) : ownEnds p e below s Q ck sk T (mkF m pc Ls S) := by
  subst hq
  exact ownGo (fun _ k => XS.lloadN X.here hx rfl hd hl k) k
theorem ow_aloadN (X : Stand p l e R s m args below meth c T locs cells slots) (hx : p.tables.exec = Jvm.exec) {pc q : Nat} {Ls : Array Slot} {S : List Value} {k : Fin 4} {v : Value} (hd : decode c.code pc = .ok (.aload_n k, 1)) (hq : pc + 1 = q) (hl : Ls[k.val]? = some (.val v)) (hv : v.isRef = true) (k : ownEnds p e below s Q ck sk T (mkF m q Ls (v :: S))) : ownEnds p e below s Q ck sk T (mkF m pc Ls S) := by
  subst hq
  exact ownGo (fun _ k => XS.aloadN X.here hx rfl hd hl hv k) k
theorem ow_iconst (X : Stand p l e R s m args below meth c T locs cells slots) (hx : p.tables.exec = Jvm.exec) {pc q : Nat} {Ls : Array Slot} {S : List Value} {i : Int} (v : Int32) (hd : decode c.code pc = .ok (.iconst i, 1)) (hq : pc + 1 = q) (hz : Int32.ofInt i = v) (k : ownEnds p e below s Q ck sk T (mkF m q Ls (.int v :: S))) : ownEnds p e below s Q ck sk T (mkF m pc Ls S) := by
  subst hq hz
  exact ownGo (fun _ k => XS.iconst X.here hx rfl hd k) k
theorem ow_bipush (X : Stand p l e R s m args below meth c T locs cells slots) (hx : p.tables.exec = Jvm.exec) {pc q : Nat} {Ls : Array Slot} {S : List Value} {i : Int} (v : Int32) (hd : decode c.code pc = .ok (.bipush i, 2)) (hq : pc + 2 = q) (hz : (Int8.ofInt i).toInt32 = v) (k : ownEnds p e below s Q ck sk T (mkF m q Ls (.int v :: S))) : ownEnds p e below s Q ck sk T (mkF m pc Ls S) := by
  subst hq hz
  exact ownGo (fun _ k => XS.bipush X.here hx rfl hd k) k
theorem ow_sipush (X : Stand p l e R s m args below meth c T locs cells slots) (hx : p.tables.exec = Jvm.exec) {pc q : Nat} {Ls : Array Slot} {S : List Value} {i : Int} (v : Int32) (hd : decode c.code pc = .ok (.sipush i, 3)) (hq : pc + 3 = q) (hz : (Int16.ofInt i).toInt32 = v) (k : ownEnds p e below s Q ck sk T (mkF m q Ls (.int v :: S))) : ownEnds p e below s Q ck sk T (mkF m pc Ls S) := by
  subst hq hz
  exact ownGo (fun _ k => XS.sipush X.here hx rfl hd k) k
theorem ow_iadd (X : Stand p l e R s m args below meth c T locs cells slots) (hx : p.tables.exec = Jvm.exec) {pc q : Nat} {Ls : Array Slot} {S : List Value} {x y : Int32} (z : Int32) (hd : decode c.code pc = .ok (.iadd, 1)) (hq : pc + 1 = q) (hz : x + y = z) (k : ownEnds p e below s Q ck sk T (mkF m q Ls (.int z :: S))) : ownEnds p e below s Q ck sk T (mkF m pc Ls (.int y :: .int x :: S)) := by
  subst hq hz
  exact ownGo (fun _ k => XS.iadd X.here hx rfl hd rfl k) k
theorem ow_isub (X : Stand p l e R s m args below meth c T locs cells slots) (hx : p.tables.exec = Jvm.exec) {pc q : Nat} {Ls : Array Slot} {S : List Value} {x y : Int32} (z : Int32) (hd : decode c.code pc = .ok (.isub, 1)) (hq : pc + 1 = q) (hz : x - y = z) (k : ownEnds p e below s Q ck sk T (mkF m q Ls (.int z :: S))) : ownEnds p e below s Q ck sk T (mkF m pc Ls (.int y :: .int x :: S)) := by
  subst hq hz
  exact ownGo (fun _ k => XS.isub X.here hx rfl hd rfl k) k
theorem ow_imul (X : Stand p l e R s m args below meth c T locs cells slots) (hx : p.tables.exec = Jvm.exec) {pc q : Nat} {Ls : Array Slot} {S : List Value} {x y : Int32} (z : Int32) (hd : decode c.code pc = .ok (.imul, 1)) (hq : pc + 1 = q) (hz : x * y = z) (k : ownEnds p e below s Q ck sk T (mkF m q Ls (.int z :: S))) : ownEnds p e below s Q ck sk T (mkF m pc Ls (.int y :: .int x :: S)) := by
  subst hq hz
  exact ownGo (fun _ k => XS.imul X.here hx rfl hd rfl k) k
theorem ow_iand (X : Stand p l e R s m args below meth c T locs cells slots) (hx : p.tables.exec = Jvm.exec) {pc q : Nat} {Ls : Array Slot} {S : List Value} {x y : Int32} (z : Int32) (hd : decode c.code pc = .ok (.iand, 1)) (hq : pc + 1 = q) (hz : x &&& y = z) (k : ownEnds p e below s Q ck sk T (mkF m q Ls (.int z :: S))) : ownEnds p e below s Q ck sk T (mkF m pc Ls (.int y :: .int x :: S)) := by
  subst hq hz
  exact ownGo (fun _ k => XS.iand X.here hx rfl hd rfl k) k
theorem ow_land (X : Stand p l e R s m args below meth c T locs cells slots) (hx : p.tables.exec = Jvm.exec) {pc q : Nat} {Ls : Array Slot} {S : List Value} {x y : Int64} (z : Int64) (hd : decode c.code pc = .ok (.land, 1)) (hq : pc + 1 = q) (hz : x &&& y = z) (k : ownEnds p e below s Q ck sk T (mkF m q Ls (.long z :: S))) : ownEnds p e below s Q ck sk T (mkF m pc Ls (.long y :: .long x :: S)) := by
  subst hq hz
  exact ownGo (fun _ k => XS.land X.here hx rfl hd rfl k) k
theorem ow_ishr (X : Stand p l e R s m args below meth c T locs cells slots) (hx : p.tables.exec = Jvm.exec) {pc q : Nat} {Ls : Array Slot} {S : List Value} {x y : Int32} (z : Int32) (hd : decode c.code pc = .ok (.ishr, 1)) (hq : pc + 1 = q) (hz : x >>> (y &&& 31) = z) (k : ownEnds p e below s Q ck sk T (mkF m q Ls (.int z :: S))) : ownEnds p e below s Q ck sk T (mkF m pc Ls (.int y :: .int x :: S)) := by
  subst hq hz
  exact ownGo (fun _ k => XS.ishr X.here hx rfl hd rfl k) k
theorem ow_lushr (X : Stand p l e R s m args below meth c T locs cells slots) (hx : p.tables.exec = Jvm.exec) {pc q : Nat} {Ls : Array Slot} {S : List Value} {x : Int64} {y : Int32} (z : Int64) (hd : decode c.code pc = .ok (.lushr, 1)) (hq : pc + 1 = q) (hz : (x.toUInt64 >>> (y &&& 0x3f).toInt64.toUInt64).toInt64 = z) (k : ownEnds p e below s Q ck sk T (mkF m q Ls (.long z :: S))) : ownEnds p e below s Q ck sk T (mkF m pc Ls (.int y :: .long x :: S)) := by
  subst hq hz
  exact ownGo (fun _ k => XS.lushr X.here hx rfl hd rfl k) k
theorem ow_l2i (X : Stand p l e R s m args below meth c T locs cells slots) (hx : p.tables.exec = Jvm.exec) {pc q : Nat} {Ls : Array Slot} {S : List Value} {x : Int64} (z : Int32) (hd : decode c.code pc = .ok (.l2i, 1)) (hq : pc + 1 = q) (hz : x.toInt32 = z) (k : ownEnds p e below s Q ck sk T (mkF m q Ls (.int z :: S))) : ownEnds p e below s Q ck sk T (mkF m pc Ls (.long x :: S)) := by
  subst hq hz
  exact ownGo (fun _ k => XS.l2i X.here hx rfl hd rfl k) k
theorem ow_i2c (X : Stand p l e R s m args below meth c T locs cells slots) (hx : p.tables.exec = Jvm.exec) {pc q : Nat} {Ls : Array Slot} {S : List Value} {x : Int32} (z : Int32) (hd : decode c.code pc = .ok (.i2c, 1)) (hq : pc + 1 = q) (hz : x.toUInt32.toUInt16.toUInt32.toInt32 = z) (k : ownEnds p e below s Q ck sk T (mkF m q Ls (.int z :: S))) : ownEnds p e below s Q ck sk T (mkF m pc Ls (.int x :: S)) := by
  subst hq hz
  exact ownGo (fun _ k => XS.i2c X.here hx rfl hd rfl k) k
theorem ow_pop (X : Stand p l e R s m args below meth c T locs cells slots) (hx : p.tables.exec = Jvm.exec) {pc q : Nat} {Ls : Array Slot} {S : List Value} {v : Value} (hd : decode c.code pc = .ok (.pop, 1)) (hq : pc + 1 = q) (hc : v.category = 1) (k : ownEnds p e below s Q ck sk T (mkF m q Ls S)) : ownEnds p e below s Q ck sk T (mkF m pc Ls (v :: S)) := by
  subst hq
  exact ownGo (fun _ k => XS.pop X.here hx rfl hd rfl hc k) k
theorem ow_goto (X : Stand p l e R s m args below meth c T locs cells slots) (hx : p.tables.exec = Jvm.exec) {pc q : Nat} {Ls : Array Slot} {S : List Value} {o : Int} (hd : decode c.code pc = .ok (.goto o, 3)) (ho : 0 ≤ (pc : Int) + o) (hp : ((pc : Int) + o).toNat = q) (k : ownEnds p e below s Q ck sk T (mkF m q Ls S)) : ownEnds p e below s Q ck sk T (mkF m pc Ls S) :=
  ownGo (fun _ k => XS.goto X.here hx rfl rfl hd ho hp k) k
theorem ow_ifYes (X : Stand p l e R s m args below meth c T locs cells slots) (hx : p.tables.exec = Jvm.exec) {pc q : Nat} {Ls : Array Slot} {S : List Value} {cd : ClassFile.Cond} {o : Int} {x : Int32} (hd : decode c.code pc = .ok (.ifCond cd o, 3)) (hc : ifCond.holds cd x = true) (ho : 0 ≤ (pc : Int) + o) (hp : ((pc : Int) + o).toNat = q) (k : ownEnds p e below s Q ck sk T (mkF m q Ls S)) : ownEnds p e below s Q ck sk T (mkF m pc Ls (.int x :: S)) :=
  ownGo (fun _ k => XS.ifYes X.here hx rfl rfl hd rfl hc ho hp k) k
theorem ow_ifNo (X : Stand p l e R s m args below meth c T locs cells slots) (hx : p.tables.exec = Jvm.exec) {pc q : Nat} {Ls : Array Slot} {S : List Value} {cd : ClassFile.Cond} {o : Int} {x : Int32} (hd : decode c.code pc = .ok (.ifCond cd o, 3)) (hq : pc + 3 = q) (hc : ifCond.holds cd x = false) (k : ownEnds p e below s Q ck sk T (mkF m q Ls S)) : ownEnds p e below s Q ck sk T (mkF m pc Ls (.int x :: S)) := by
  subst hq
  exact ownGo (fun _ k => XS.ifNo X.here hx rfl hd rfl hc k) k
theorem ow_icmpYes (X : Stand p l e R s m args below meth c T locs cells slots) (hx : p.tables.exec = Jvm.exec) {pc q : Nat} {Ls : Array Slot} {S : List Value} {cd : ClassFile.Cond} {o : Int} {x y : Int32} (hd : decode c.code pc = .ok (.if_icmp cd o, 3)) (hc : if_icmp.holds cd x y = true) (ho : 0 ≤ (pc : Int) + o) (hp : ((pc : Int) + o).toNat = q) (k : ownEnds p e below s Q ck sk T (mkF m q Ls S)) : ownEnds p e below s Q ck sk T (mkF m pc Ls (.int y :: .int x :: S)) :=
  ownGo (fun _ k => XS.icmpYes X.here hx rfl rfl hd rfl hc ho hp k) k
theorem ow_icmpNo (X : Stand p l e R s m args below meth c T locs cells slots) (hx : p.tables.exec = Jvm.exec) {pc q : Nat} {Ls : Array Slot} {S : List Value} {cd : ClassFile.Cond} {o : Int} {x y : Int32} (hd : decode c.code pc = .ok (.if_icmp cd o, 3)) (hq : pc + 3 = q) (hc : if_icmp.holds cd x y = false) (k : ownEnds p e below s Q ck sk T (mkF m q Ls S)) : ownEnds p e below s Q ck sk T (mkF m pc Ls (.int y :: .int x :: S)) := by
  subst hq
  exact ownGo (fun _ k => XS.icmpNo X.here hx rfl hd rfl hc k) k
end OwnSteps
section OwnWalkW
variable {p : Program} {l : Launch} {e : Env} {R : Room} {s : State} {m : MethodId} {args : Array Value} {below : List Frame} {meth : Method} {c : Code} {T T' : State} {locs : List Loc} {cells slots : Nat} {Q : Option Value → Heap → List Loc → Prop} {ck sk : Nat} {f f' : JFrame} {Z : State} {a0 : Array Value} {h h' : Heap}
/-- from this state and frame the invocation returns, and what it leaves is told by Q -/
def ownEndsW (p : Program) (e : Env) (below : List Frame) (s : State) (Q : Option Value → Heap → List Loc → Prop) (ck sk : Nat) (T : State) (f : JFrame) : Prop :=
  ∃ s₂ o, Steps p.tables e below (T.setTop f) s₂ ∧ s₂.status = .running ∧ Ended s₂ below o ∧ ∃ v L, o = .returned v ∧ Q v s₂.heap L ∧ ReturnedEndW s o s₂ L ck sk
theorem ownGoW (st : ∀ target, Steps p.tables e below (T'.setTop f') target → Steps p.tables e below (T.setTop f) target) (k : ownEndsW p e below s Q ck sk T' f') : ownEndsW p e below s Q ck sk T f := by
  obtain ⟨a, b, h1, h2⟩ := k
  exact ⟨a, b, st _ h1, h2⟩
theorem ownRunW (st : Steps p.tables e below (T.setTop f) (T'.setTop f')) (k : ownEndsW p e below s Q ck sk T' f') : ownEndsW p e below s Q ck sk T f :=
  ownGoW (fun _ q => st.trans q) k
theorem ownCastW (q : f = f') (k : ownEndsW p e below s Q ck sk T f') : ownEndsW p e below s Q ck sk T f := q ▸ k
theorem ownRetNW (X : Stand p l e R s m args below meth c T locs cells slots) (hx : p.tables.exec = Jvm.exec) {pc : Nat} {Ls : Array Slot} {z r : Int32} {rest : List Value} {t : FieldType} (ht : t = .boolean ∨ t = .byte ∨ t = .char ∨ t = .short) (hret : meth.sig.returnType = some t) (hd : decode c.code pc = .ok (.ireturn, 1)) (hk : meth.locks = false) (hc : cells ≤ ck) (hs : slots ≤ sk)
    (hz : nar t z = r) (hQ : Q (some (.int r)) T.heap locs) : ownEndsW p e below s Q ck sk T (mkF m pc Ls (.int z :: rest)) := by
  subst hz
  obtain ⟨fs, hr, hrun, hended, hW, hsame⟩ := X.leave (v := some (.int (nar t z))) (fun h => by rw [hret] at h; cases h) hk
  exact ⟨_, _, retN X hx hret ht hd hr, hrun, hended, _, _, rfl, hQ, ReturnedEndW.of_narrow ⟨_, rfl⟩ hW (hsame.mono hc hs)⟩
theorem ownRetRW (X : Stand p l e R s m args below meth c T locs cells slots) (hx : p.tables.exec = Jvm.exec) {pc : Nat} {Ls : Array Slot} {w : Value} {rest : List Value} {t : FieldType} (ht : t.isReference = true) (hn : narrow t w = w) (hw : w.isRef = true) (hret : meth.sig.returnType = some t) (hd : decode c.code pc = .ok (.areturn, 1)) (hk : meth.locks = false) (hc : cells ≤ ck) (hs : slots ≤ sk)
    (hQ : Q (some w) T.heap locs) : ownEndsW p e below s Q ck sk T (mkF m pc Ls (w :: rest)) := by
  obtain ⟨fs, hr, hrun, hended, hW, hsame⟩ := X.leave (v := some w) (fun h => by rw [hret] at h; cases h) hk
  exact ⟨_, _, retOut X hx hret hn (Or.inr (Or.inr (Or.inr (Or.inr ⟨rfl, ht, hw⟩)))) hd hr, hrun, hended, _, _, rfl, hQ, ReturnedEndW.of_narrow ⟨_, rfl⟩ hW (hsame.mono hc hs)⟩
variable {a b : Addr} {ty : FieldType} {n : Nat} {gi : Nat → Int32} {gj : Nat → Int64} {ws : List Addr} {sl : Nat} {v : Value}
end OwnWalkW
section OwnStepsW
variable {p : Program} {l : Launch} {e : Env} {R : Room} {s : State} {m : MethodId} {args : Array Value} {below : List Frame} {meth : Method} {c : Code} {T : State} {locs : List Loc} {cells slots : Nat} {Q : Option Value → Heap → List Loc → Prop} {ck sk : Nat}
theorem ow_iloadNW (X : Stand p l e R s m args below meth c T locs cells slots) (hx : p.tables.exec = Jvm.exec) {pc q : Nat} {Ls : Array Slot} {S : List Value} {k : Fin 4} {v : Int32} (hd : decode c.code pc = .ok (.iload_n k, 1)) (hq : pc + 1 = q) (hl : Ls[k.val]? = some (.val (.int v))) (k : ownEndsW p e below s Q ck sk T (mkF m q Ls (.int v :: S))) : ownEndsW p e below s Q ck sk T (mkF m pc Ls S) := by
  subst hq
  exact ownGoW (fun _ k => XS.iloadN X.here hx rfl hd hl k) k
theorem ow_iloadW (X : Stand p l e R s m args below meth c T locs cells slots) (hx : p.tables.exec = Jvm.exec) {pc q : Nat} {Ls : Array Slot} {S : List Value} {k : Nat} {v : Int32} (hd : decode c.code pc = .ok (.iload k, 2)) (hq : pc + 2 = q) (hl : Ls[k]? = some (.val (.int v))) (k : ownEndsW p e below s Q ck sk T (mkF m q Ls (.int v :: S))) : ownEndsW p e below s Q ck sk T (mkF m pc Ls S) := by
  subst hq
  exact ownGoW (fun _ k => XS.iload X.here hx rfl hd hl k) k
theorem ow_istoreNW (X : Stand p l e R s m args below meth c T locs cells slots) (hx : p.tables.exec = Jvm.exec) {pc q : Nat} {Ls : Array Slot} {S : List Value} {k : Fin 4} {v : Int32} {L' : Array Slot} (hd : decode c.code pc = .ok (.istore_n k, 1)) (hq : pc + 1 = q) (hl : storeLocals Ls k.val (.int v) = some L') (k : ownEndsW p e below s Q ck sk T (mkF m q L' S)) : ownEndsW p e below s Q ck sk T (mkF m pc Ls (.int v :: S)) := by
  subst hq
  exact ownGoW (fun _ k => XS.istoreN X.here hx rfl hd rfl hl k) k
theorem ow_istoreW (X : Stand p l e R s m args below meth c T locs cells slots) (hx : p.tables.exec = Jvm.exec) {pc q : Nat} {Ls : Array Slot} {S : List Value} {k : Nat} {v : Int32} {L' : Array Slot} (hd : decode c.code pc = .ok (.istore k, 2)) (hq : pc + 2 = q) (hl : storeLocals Ls k (.int v) = some L') (k : ownEndsW p e below s Q ck sk T (mkF m q L' S)) : ownEndsW p e below s Q ck sk T (mkF m pc Ls (.int v :: S)) := by
  subst hq
  exact ownGoW (fun _ k => XS.istore X.here hx rfl hd rfl hl k) k
theorem ow_lloadNW (X : Stand p l e R s m args below meth c T locs cells slots) (hx : p.tables.exec = Jvm.exec) {pc q : Nat} {Ls : Array Slot} {S : List Value} {k : Fin 4} {v : Int64} (hd : decode c.code pc = .ok (.lload_n k, 1)) (hq : pc + 1 = q) (hl : Ls[k.val]? = some (.val (.long v))) (k : ownEndsW p e below s Q ck sk T (mkF m q Ls (.long v :: S))) : ownEndsW p e below s Q ck sk T (mkF m pc Ls S) := by
  subst hq
  exact ownGoW (fun _ k => XS.lloadN X.here hx rfl hd hl k) k
theorem ow_lloadW (X : Stand p l e R s m args below meth c T locs cells slots) (hx : p.tables.exec = Jvm.exec) {pc q : Nat} {Ls : Array Slot} {S : List Value} {k : Nat} {v : Int64} (hd : decode c.code pc = .ok (.lload k, 2)) (hq : pc + 2 = q) (hl : Ls[k]? = some (.val (.long v))) (k : ownEndsW p e below s Q ck sk T (mkF m q Ls (.long v :: S))) : ownEndsW p e below s Q ck sk T (mkF m pc Ls S) := by
  subst hq
  exact ownGoW (fun _ k => XS.lload X.here hx rfl hd hl k) k
theorem ow_aloadNW (X : Stand p l e R s m args below meth c T locs cells slots) (hx : p.tables.exec = Jvm.exec) {pc q : Nat} {Ls : Array Slot} {S : List Value} {k : Fin 4} {v : Value} (hd : decode c.code pc = .ok (.aload_n k, 1)) (hq : pc + 1 = q) (hl : Ls[k.val]? = some (.val v)) (hv : v.isRef = true) (k : ownEndsW p e below s Q ck sk T (mkF m q Ls (v :: S))) : ownEndsW p e below s Q ck sk T (mkF m pc Ls S) := by
  subst hq
  exact ownGoW (fun _ k => XS.aloadN X.here hx rfl hd hl hv k) k
theorem ow_aloadW (X : Stand p l e R s m args below meth c T locs cells slots) (hx : p.tables.exec = Jvm.exec) {pc q : Nat} {Ls : Array Slot} {S : List Value} {k : Nat} {v : Value} (hd : decode c.code pc = .ok (.aload k, 2)) (hq : pc + 2 = q) (hl : Ls[k]? = some (.val v)) (hv : v.isRef = true) (k : ownEndsW p e below s Q ck sk T (mkF m q Ls (v :: S))) : ownEndsW p e below s Q ck sk T (mkF m pc Ls S) := by
  subst hq
  exact ownGoW (fun _ k => XS.aload X.here hx rfl hd hl hv k) k
theorem ow_astoreW (X : Stand p l e R s m args below meth c T locs cells slots) (hx : p.tables.exec = Jvm.exec) {pc q : Nat} {Ls : Array Slot} {S : List Value} {k : Nat} {v : Value} {L' : Array Slot} (hd : decode c.code pc = .ok (.astore k, 2)) (hq : pc + 2 = q) (hv : v.isRef = true) (hl : storeLocals Ls k v = some L') (k : ownEndsW p e below s Q ck sk T (mkF m q L' S)) : ownEndsW p e below s Q ck sk T (mkF m pc Ls (v :: S)) := by
  subst hq
  exact ownGoW (fun _ k => XS.astore X.here hx rfl hd rfl hv hl k) k
theorem ow_iconstW (X : Stand p l e R s m args below meth c T locs cells slots) (hx : p.tables.exec = Jvm.exec) {pc q : Nat} {Ls : Array Slot} {S : List Value} {i : Int} (v : Int32) (hd : decode c.code pc = .ok (.iconst i, 1)) (hq : pc + 1 = q) (hz : Int32.ofInt i = v) (k : ownEndsW p e below s Q ck sk T (mkF m q Ls (.int v :: S))) : ownEndsW p e below s Q ck sk T (mkF m pc Ls S) := by
  subst hq hz
  exact ownGoW (fun _ k => XS.iconst X.here hx rfl hd k) k
theorem ow_bipushW (X : Stand p l e R s m args below meth c T locs cells slots) (hx : p.tables.exec = Jvm.exec) {pc q : Nat} {Ls : Array Slot} {S : List Value} {i : Int} (v : Int32) (hd : decode c.code pc = .ok (.bipush i, 2)) (hq : pc + 2 = q) (hz : (Int8.ofInt i).toInt32 = v) (k : ownEndsW p e below s Q ck sk T (mkF m q Ls (.int v :: S))) : ownEndsW p e below s Q ck sk T (mkF m pc Ls S) := by
  subst hq hz
  exact ownGoW (fun _ k => XS.bipush X.here hx rfl hd k) k
theorem ow_iandW (X : Stand p l e R s m args below meth c T locs cells slots) (hx : p.tables.exec = Jvm.exec) {pc q : Nat} {Ls : Array Slot} {S : List Value} {x y : Int32} (z : Int32) (hd : decode c.code pc = .ok (.iand, 1)) (hq : pc + 1 = q) (hz : x &&& y = z) (k : ownEndsW p e below s Q ck sk T (mkF m q Ls (.int z :: S))) : ownEndsW p e below s Q ck sk T (mkF m pc Ls (.int y :: .int x :: S)) := by
  subst hq hz
  exact ownGoW (fun _ k => XS.iand X.here hx rfl hd rfl k) k
theorem ow_iushrW (X : Stand p l e R s m args below meth c T locs cells slots) (hx : p.tables.exec = Jvm.exec) {pc q : Nat} {Ls : Array Slot} {S : List Value} {x y : Int32} (z : Int32) (hd : decode c.code pc = .ok (.iushr, 1)) (hq : pc + 1 = q) (hz : (x.toUInt32 >>> (y &&& 31).toUInt32).toInt32 = z) (k : ownEndsW p e below s Q ck sk T (mkF m q Ls (.int z :: S))) : ownEndsW p e below s Q ck sk T (mkF m pc Ls (.int y :: .int x :: S)) := by
  subst hq hz
  exact ownGoW (fun _ k => XS.iushr X.here hx rfl hd rfl k) k
theorem ow_i2lW (X : Stand p l e R s m args below meth c T locs cells slots) (hx : p.tables.exec = Jvm.exec) {pc q : Nat} {Ls : Array Slot} {S : List Value} {x : Int32} (z : Int64) (hd : decode c.code pc = .ok (.i2l, 1)) (hq : pc + 1 = q) (hz : x.toInt64 = z) (k : ownEndsW p e below s Q ck sk T (mkF m q Ls (.long z :: S))) : ownEndsW p e below s Q ck sk T (mkF m pc Ls (.int x :: S)) := by
  subst hq hz
  exact ownGoW (fun _ k => XS.i2l X.here hx rfl hd rfl k) k
theorem ow_iincW (X : Stand p l e R s m args below meth c T locs cells slots) (hx : p.tables.exec = Jvm.exec) {pc q : Nat} {Ls : Array Slot} {S : List Value} {k : Nat} {i : Int} {x : Int32} {L' : Array Slot} (hd : decode c.code pc = .ok (.iinc k i, 3)) (hq : pc + 3 = q) (hl : Ls[k]? = some (.val (.int x))) (hl' : storeLocals Ls k (.int (x + Int32.ofInt i)) = some L') (k : ownEndsW p e below s Q ck sk T (mkF m q L' S)) : ownEndsW p e below s Q ck sk T (mkF m pc Ls S) := by
  subst hq
  exact ownGoW (fun _ k => XS.iinc X.here hx rfl hd hl hl' k) k
theorem ow_dupW (X : Stand p l e R s m args below meth c T locs cells slots) (hx : p.tables.exec = Jvm.exec) {pc q : Nat} {Ls : Array Slot} {S : List Value} {v : Value} (hd : decode c.code pc = .ok (.dup, 1)) (hq : pc + 1 = q) (hc : v.category = 1) (k : ownEndsW p e below s Q ck sk T (mkF m q Ls (v :: v :: S))) : ownEndsW p e below s Q ck sk T (mkF m pc Ls (v :: S)) := by
  subst hq
  exact ownGoW (fun _ k => XS.dup X.here hx rfl hd rfl hc k) k
theorem ow_popW (X : Stand p l e R s m args below meth c T locs cells slots) (hx : p.tables.exec = Jvm.exec) {pc q : Nat} {Ls : Array Slot} {S : List Value} {v : Value} (hd : decode c.code pc = .ok (.pop, 1)) (hq : pc + 1 = q) (hc : v.category = 1) (k : ownEndsW p e below s Q ck sk T (mkF m q Ls S)) : ownEndsW p e below s Q ck sk T (mkF m pc Ls (v :: S)) := by
  subst hq
  exact ownGoW (fun _ k => XS.pop X.here hx rfl hd rfl hc k) k
theorem ow_gotoW (X : Stand p l e R s m args below meth c T locs cells slots) (hx : p.tables.exec = Jvm.exec) {pc q : Nat} {Ls : Array Slot} {S : List Value} {o : Int} (hd : decode c.code pc = .ok (.goto o, 3)) (ho : 0 ≤ (pc : Int) + o) (hp : ((pc : Int) + o).toNat = q) (k : ownEndsW p e below s Q ck sk T (mkF m q Ls S)) : ownEndsW p e below s Q ck sk T (mkF m pc Ls S) :=
  ownGoW (fun _ k => XS.goto X.here hx rfl rfl hd ho hp k) k
theorem ow_ifYesW (X : Stand p l e R s m args below meth c T locs cells slots) (hx : p.tables.exec = Jvm.exec) {pc q : Nat} {Ls : Array Slot} {S : List Value} {cd : ClassFile.Cond} {o : Int} {x : Int32} (hd : decode c.code pc = .ok (.ifCond cd o, 3)) (hc : ifCond.holds cd x = true) (ho : 0 ≤ (pc : Int) + o) (hp : ((pc : Int) + o).toNat = q) (k : ownEndsW p e below s Q ck sk T (mkF m q Ls S)) : ownEndsW p e below s Q ck sk T (mkF m pc Ls (.int x :: S)) :=
  ownGoW (fun _ k => XS.ifYes X.here hx rfl rfl hd rfl hc ho hp k) k
theorem ow_ifNoW (X : Stand p l e R s m args below meth c T locs cells slots) (hx : p.tables.exec = Jvm.exec) {pc q : Nat} {Ls : Array Slot} {S : List Value} {cd : ClassFile.Cond} {o : Int} {x : Int32} (hd : decode c.code pc = .ok (.ifCond cd o, 3)) (hq : pc + 3 = q) (hc : ifCond.holds cd x = false) (k : ownEndsW p e below s Q ck sk T (mkF m q Ls S)) : ownEndsW p e below s Q ck sk T (mkF m pc Ls (.int x :: S)) := by
  subst hq
  exact ownGoW (fun _ k => XS.ifNo X.here hx rfl hd rfl hc k) k
theorem ow_icmpYesW (X : Stand p l e R s m args below meth c T locs cells slots) (hx : p.tables.exec = Jvm.exec) {pc q : Nat} {Ls : Array Slot} {S : List Value} {cd : ClassFile.Cond} {o : Int} {x y : Int32} (hd : decode c.code pc = .ok (.if_icmp cd o, 3)) (hc : if_icmp.holds cd x y = true) (ho : 0 ≤ (pc : Int) + o) (hp : ((pc : Int) + o).toNat = q) (k : ownEndsW p e below s Q ck sk T (mkF m q Ls S)) : ownEndsW p e below s Q ck sk T (mkF m pc Ls (.int y :: .int x :: S)) :=
  ownGoW (fun _ k => XS.icmpYes X.here hx rfl rfl hd rfl hc ho hp k) k
theorem ow_icmpNoW (X : Stand p l e R s m args below meth c T locs cells slots) (hx : p.tables.exec = Jvm.exec) {pc q : Nat} {Ls : Array Slot} {S : List Value} {cd : ClassFile.Cond} {o : Int} {x y : Int32} (hd : decode c.code pc = .ok (.if_icmp cd o, 3)) (hq : pc + 3 = q) (hc : if_icmp.holds cd x y = false) (k : ownEndsW p e below s Q ck sk T (mkF m q Ls S)) : ownEndsW p e below s Q ck sk T (mkF m pc Ls (.int y :: .int x :: S)) := by
  subst hq
  exact ownGoW (fun _ k => XS.icmpNo X.here hx rfl hd rfl hc k) k
end OwnStepsW

section OwnWide
variable {p : Program} {l : Launch} {e : Env} {R : Room} {s : State} {m : MethodId} {args : Array Value} {below : List Frame} {meth : Method} {c : Code} {T T' : State} {locs : List Loc} {cells slots : Nat} {Q : Option Value → Heap → List Loc → Prop} {ck sk : Nat} {f f' : JFrame} {Z : State} {a0 : Array Value} {h h' : Heap}
/-- the walk goes on over the start with other tables -/
theorem ownBaseW {k : Nat} {vm' : Vm} (hS : s.Since vm' k) (K : ownEndsW p e below (s.setVm vm') (fun v h L => Q v h L ∧ k ≤ h.size) ck sk T f) : ownEndsW p e below s Q ck sk T f := by
  obtain ⟨s₂, o, h1, h2, h3, v, L, ho, ⟨hQ, hk⟩, hr, hW, hB, hs⟩ := K
  have h4 := hS.trans (vm₂ := s₂.vm) (n₂ := s₂.heap.size) ⟨hW, hB⟩ hk
  exact ⟨s₂, o, h1, h2, h3, v, L, ho, hQ, hr, h4.1, h4.2, hs.setVm s.vm⟩
theorem ownRebaseW {own : String} (hZ : Z.Warmed39 s.vm) (hown : s.vm.findClass own = some m.cls) {vm' : Vm} {k : Nat} (hS : s.Since vm' k) (X : Stand p l e R (s.setVm vm') m args below meth c T locs cells slots)
    (K : ∀ s', Stand p l e R s' m args below meth c T locs cells slots → Z.Warmed39 s'.vm → s'.vm.findClass own = some m.cls → ownEndsW p e below s' (fun v h L => Q v h L ∧ k ≤ h.size) ck sk T f) : ownEndsW p e below s Q ck sk T f :=
  ownBaseW hS (K _ X (State.Warmed39.trans hZ hS.1) (by show vm'.findClass own = _; rw [hS.1.alike.findClass]; exact hown))
/-- a String constant is loaded: which cell, not what she says -/
theorem ownLdc (X : Stand p l e R s m args below meth c T locs cells slots) (hx : p.tables.exec = Jvm.exec) (hZ : Z.Warmed39 s.vm) {own text : String} {index : Nat} (hown : s.vm.findClass own = some m.cls) (w : (Jvm.Cond.stringLink own index text).before a0 Z = true) (wS : ∀ d ∈ Bundle.stringAtoms, d.before a0 Z = true)
    (eT : T.heap = h) {g : JFrame} (hg : g.method = m) (hd : decode c.code g.pc = .ok (.ldc index, 2)) {n : Nat} (hn : 4 * text.toList.length ≤ n) (hbig : n ≤ 536870912) (hc : cells + 2 ≤ R.cells) (hl : slots + (n + 4) ≤ R.slots) :
    ∃ (a : Addr) (T' : State) (h' : Heap), Stand p l e R (s.setVm T'.vm) m args below meth c T' locs (cells + 2) (slots + (n + 4)) ∧ s.Since T'.vm h'.size ∧ T'.heap = h' ∧ Ext h h' ∧
      ∀ target, Steps p.tables e below (T'.setTop { g with pc := g.pc + 2, stack := .ref a :: g.stack }) target → Steps p.tables e below (T.setTop g) target := by
  obtain ⟨a, T', X', hS', -, hb, -, st⟩ := X.ldcStringCold hx (own := own) hown (mvS (s := s) hZ w) (fun d hd => by
    have q := wS d hd
    simp only [Bundle.stringAtoms, List.mem_cons, List.not_mem_nil, or_false] at hd
    rcases hd with rfl | rfl | rfl | rfl | rfl | rfl | rfl
    · exact mv hZ q
    · exact mv hZ q
    · exact mvA hZ q
    · exact mv hZ q
    · exact mv hZ q
    · exact mv hZ q
    · exact mv hZ q) hg hd hn hbig hc hl
  subst eT
  exact ⟨a, T', _, X', hS', rfl, ext_of hb, st⟩
/-- what a wide callee's theorem pays -/
theorem backOfW {y : MethodName} {bytes : ByteArray} {maxL : Nat} {ret : Option FieldType} {rm : Room} {len W : Nat} {as' : Array Value}
    (hM : MetFree l y (head1 [Jvm.Cond.code y bytes maxL ret] rm) (fun a U => a = as' ∧ Z.Warmed39 U.vm ∧ U.heap = h) (fun _ _ _ _ _ => True) (fun _ U o U' => ∃ v L, o = .returned v ∧ Q v U'.heap L ∧ ReturnedEndW U o U' L rm.cells rm.slots))
    (hZ : Z.Warmed39 s.vm) (wc : (Jvm.Cond.code y bytes maxL ret).before a0 Z = true) (wz : (Jvm.Cond.initialized y.cls).before a0 Z = true) (hf : rm.frames + 1 ≤ R.frames) (hl : W + (maxL + 11) + rm.locals ≤ R.locals) :
    BackS l R p e below s args y len W (fun A a => a = as' ∧ A.U.heap = h ∧ A.cells + rm.cells ≤ R.cells ∧ A.slots + rm.slots ≤ R.slots)
      (fun A _ v B => ∃ L, Q v B.U.heap L ∧ B.locs = A.locs ++ L ∧ B.cells = A.cells + rm.cells ∧ B.slots = A.slots + rm.slots) :=
  BackS.of_freeW (bytes := bytes) (maxL := maxL) (ret := ret) (E := fun _ _ o t L k n => k = rm.cells ∧ n = rm.slots ∧ ∃ v, o = .returned v ∧ Q v t.heap L) hM hf hl
    (fun m meth c A a Y hp => have hU : Z.Warmed39 A.U.vm := wtrans hZ Y.warmed
      ⟨by show (Jvm.Cond.and _ .tt).before a A.U = true; rw [Cond.before_and, mv hU wc]; rfl, mv hU wc, mv hU wz, hp.2.2.1, hp.2.2.2⟩)
    (fun m meth c A a g mk Y hp => ⟨hp.1, wtrans hZ Y.warmed, hp.2.1⟩) (fun _ _ _ _ _ _ _ _ _ => trivial)
    (fun _ _ _ _ ⟨v, L, h1, h2, h3⟩ => ⟨L, _, _, h3, rfl, rfl, v, h1, h2⟩)
    (fun m meth c A a g mk v t L k n Y hp _ _ ⟨e1, e2, v', e3, e4⟩ => by cases e3; subst e1 e2; exact ⟨L, e4, rfl, rfl, rfl⟩)
theorem callSW (X : Stand p l e R s m args below meth c T locs cells slots) (hexec : p.tables.exec = Jvm.exec) {own : String} {index : Nat} {y : MethodName} {bytes : ByteArray} {maxL : Nat} {ret : Option FieldType}
    (hown : s.vm.findClass own = some m.cls) (hlink : (Jvm.Cond.methodLink own index y).before args s = true) (hstat : (Jvm.Cond.static y).before args s = true) (hinit : (Jvm.Cond.initialized y.cls).before args s = true)
    (hcode : (Jvm.Cond.code y bytes maxL ret).before args s = true) (hy : y.cls ≠ "java/lang/invoke/MethodHandle" ∧ y.cls ≠ "java/lang/invoke/VarHandle")
    {W : Nat} {Pre : Pt → Array Value → Prop} {Post : Pt → Array Value → Option Value → Pt → Prop} (hK : BackS l R p e below s args y 3 W Pre Post)
    {g : JFrame} (hg : g.method = m) (hsize : g.locals.size = c.maxLocals) {argsL rest : List Value} (hlen : ∀ sig, parseMethodDescriptor y.desc = some sig → argsL.length = sig.parameters.length)
    (hstack : g.stack = argsL.reverse ++ rest) (hW : 2 * g.monitorRoom + (rest.map fun v => v.category).sum ≤ W) (hdg : decode c.code g.pc = .ok (.invokestatic index, 3))
    (hpre : ∀ vm₁, s.WarmedH vm₁ → Pre ⟨T.setVm vm₁, locs, cells, slots⟩ argsL.toArray) :
    ∃ (v : Option Value) (vm₁ : Vm) (B : Pt), s.WarmedH vm₁ ∧ Stand p l e R (s.setVm B.U.vm) m args below meth c B.U B.locs B.cells B.slots ∧ s.Since B.U.vm B.U.heap.size ∧ T.heap.size ≤ B.U.heap.size ∧ Post ⟨T.setVm vm₁, locs, cells, slots⟩ argsL.toArray v B ∧
      Steps p.tables e below (T.setTop g) (B.U.setTop { g with pc := g.pc + 3, stack := v.toList ++ rest }) := by
  obtain ⟨mk, hnamed⟩ := Cond.code_named hcode
  obtain ⟨methM, cM, hmethM, -, -, -, -, -, -, hsigM⟩ := Cond.code_spec hnamed hcode
  exact X.staticBackS hexec hown hlink hstat hinit hnamed hmethM hsigM hy hK hg hsize (Steps.refl _) hlen hstack hW hdg hpre
end OwnWide
theorem own_strW : ∀ d ∈ StrChars.Road.words, d ∈ tables_1 := by decide +kernel
theorem own_n32 {n : Nat} (h : n ≤ 4000) : (Int32.ofNat n).toInt = n := Int32.toInt_ofNat_of_lt (by omega)
theorem ownStr {p : Program} {l : Launch} {e : Env} {R : Room} {s : State} {args : Array Value} {below : List Frame} {len W : Nat} {Z : State} {a0 : Array Value} {h : Heap} (hZ : Z.Warmed39 s.vm) (hw : ∀ d ∈ StrChars.Road.words, d.before a0 Z = true) {kI : Nat} (wi : (Jvm.Cond.instantiable "java/lang/String" kI).before a0 Z = true)
    {x b : Addr} {g : Nat → Int32} {v0 c0 : Value} {z : Int32} {n n0 : Nat} (hh0 : n0 ≤ h.size) (E : Exa Z h x "java/lang/String") (V : Fld Z h x "java/lang/String" "value" "[B" v0) (C : Fld Z h x "java/lang/String" "coder" "B" c0) (K : ownAI Z h b .char n g) (S : Sta Z h "java/lang/String" "COMPACT_STRINGS" "Z" (.int z)) (hx0 : n0 ≤ x) (hz : ¬ z = 0)
    (hp : ∀ i, i < n → ¬ g i < 0 ∧ ¬ (255 : Int32) < g i) (l0 : 0 < n) (l2 : n ≤ 4000) (hfr : 4 ≤ R.frames) (hlo : W + 65 ≤ R.locals) :
    Back l R p e below s args (⟨"java/lang/String", "<init>", "([C)V"⟩ : MethodName) len W (fun P a => a = #[.ref x, .ref b] ∧ P.U.heap = h ∧ P.cells + 1 ≤ R.cells ∧ P.slots + n ≤ R.slots)
      (fun P _ v B => ∃ L, (∃ t : Addr, v = none ∧ Fr n0 L ∧ Keep h B.U.heap [x] ∧ h.size ≤ t ∧ Fld Z B.U.heap x "java/lang/String" "coder" "B" (.int 0) ∧ Fld Z B.U.heap x "java/lang/String" "value" "[B" (.ref t) ∧ ownAI Z B.U.heap t .byte n (fun i => (g i).toInt8.toInt32)) ∧ B.locs = P.locs ++ L ∧ B.cells = P.cells + 1 ∧ B.slots = P.slots + n) := by
  obtain ⟨cl, A, Sz, Nl, Hg⟩ := K
  have hN := own_n32 l2
  have hNN : (Int32.ofNat n).toNatClampNeg = n := by simp only [Int32.toNatClampNeg, hN]; omega
  have K' : Arv Z h b cl.cls .char (Int32.ofNat n) (((List.range n).map g).map Value.int) (.int 0) := by
    refine ⟨cl, A, rfl, by rw [Sz, hNN], by rw [Int32.lt_iff_toInt_lt, hN]; simp only [Int32.reduceToInt]; omega, ?_, ?_⟩
    · intro k hk
      rw [Sz] at hk
      rw [Hg k hk]
      simp [List.getD, hk]
    · intro i hi
      rw [Sz] at hi
      have q := hp i hi
      have e1 : (List.map Value.int (List.map g (List.range n))).getD i (.int 0) = .int (g i) := by simp [List.getD, hi]
      rw [e1]
      simp only [Int32.lt_iff_toInt_lt, Int32.reduceToInt] at q
      simp only [fits, Bool.and_eq_true, decide_eq_true_eq, Int32.le_iff_toInt_le, Int32.reduceToInt]
      omega
  refine Back.mono (StrChars.Road.backV (cs := (List.range n).map g) hZ hw wi hx0 hh0 E V C K' S hz (by simp) rfl l0 l2 ?_ rfl hfr hlo) (fun _ _ h => h) (fun P a v B hp hq => ?_)
  · intro c hc
    simp only [List.mem_map, List.mem_range] at hc
    obtain ⟨i, hi, rfl⟩ := hc
    exact hp i hi
  · obtain ⟨L, ⟨q1, q2, q3, q4, q5, t, kb, q6, q7, q8, q9, ⟨cl', A', -, S', -, H', -⟩⟩, r⟩ := hq
    refine ⟨L, ⟨t, q1, q2, q3, q7, q5, q9, cl', A', by rw [S', hNN], by omega, fun i hi => ?_⟩, r⟩
    rw [H' i (by rw [S', hNN]; exact hi)]
    simp [List.getD, hi]

def own_okb (r : Int32) : Bool := (decide ((97 : Int32) ≤ r) && decide (r ≤ (122 : Int32))) || (decide ((65 : Int32) ≤ r) && decide (r ≤ (90 : Int32))) || (decide ((48 : Int32) ≤ r) && decide (r ≤ (57 : Int32))) || decide (r = (95 : Int32)) || decide (r = (45 : Int32))
theorem own_ltI {a b : Int32} (h : a < b) : a.toInt < b.toInt := Int32.lt_iff_toInt_lt.mp h
theorem own_nltI {a b : Int32} (h : ¬ a < b) : b.toInt ≤ a.toInt := by rw [Int32.lt_iff_toInt_lt] at h; omega
theorem own_neI {a b : Int32} (h : ¬ a = b) : a.toInt ≠ b.toInt := fun q => h (Int32.toInt_inj.mp q)
theorem own_okI {r : Int32} (h : own_okb r = true) : (97 ≤ r.toInt ∧ r.toInt ≤ 122) ∨ (65 ≤ r.toInt ∧ r.toInt ≤ 90) ∨ (48 ≤ r.toInt ∧ r.toInt ≤ 57) ∨ r.toInt = 95 ∨ r.toInt = 45 := by
  simp only [own_okb, Bool.or_eq_true, Bool.and_eq_true, decide_eq_true_eq, Int32.le_iff_toInt_le, Int32.reduceToInt, ← Int32.toInt_inj] at h
  omega
theorem own_small {p : Int32} {n : Nat} (h1 : 0 ≤ p.toInt) (h2 : p.toInt < n) (hn : n ≤ 2147483648) : ∃ k : Fin n, p = Int32.ofNat k.val ∧ p.toInt = k.val := by
  have e : p = Int32.ofNat p.toInt.toNat := by
    apply Int32.toInt_inj.mp
    rw [Int32.toInt_ofNat_of_lt (by omega)]
    omega
  exact ⟨⟨p.toInt.toNat, by omega⟩, e, by simp only; omega⟩
theorem own_okF {P : Int32 → Prop} (h : ∀ k : Fin 128, own_okb (Int32.ofNat k.val) = true → P (Int32.ofNat k.val)) {r : Int32} (q : own_okb r = true) : P r := by
  have q2 := own_okI q
  obtain ⟨k, rfl, -⟩ := own_small (p := r) (n := 128) (by omega) (by omega) (by decide)
  exact h k q
theorem own_nar {r : Int32} (h : own_okb r = true) : nar .char r = r := own_okF (P := fun r => nar .char r = r) (by decide +kernel) h
theorem own_b8 {r : Int32} (h : own_okb r = true) : r.toInt8.toInt32 = r := own_okF (P := fun r => r.toInt8.toInt32 = r) (by decide +kernel) h
theorem own_c8 {r : Int32} (h : own_okb r = true) : (r &&& (255 : Int32)).toUInt32.toUInt16.toUInt32.toInt32 = r := own_okF (P := fun r => (r &&& (255 : Int32)).toUInt32.toUInt16.toUInt32.toInt32 = r) (by decide +kernel) h
theorem own_f64 {P : Int32 → Prop} (h : ∀ k : Fin 64, P (Int32.ofNat k.val)) {p : Int32} (h0 : ¬ p < (0 : Int32)) (h1 : p < (64 : Int32)) : P p := by
  have a := own_nltI h0
  have b := own_ltI h1
  simp only [Int32.reduceToInt] at a b
  obtain ⟨k, rfl, -⟩ := own_small (p := p) (n := 64) a (by omega) (by decide)
  exact h k
theorem own_ch {r : Int32} (h : own_okb r = true) : nar .char ((r &&& (255 : Int32)).toUInt32.toUInt16.toUInt32.toInt32) = r := by rw [own_c8 h]; exact own_nar h
theorem own_63x (x : Int64) : 0 ≤ (x &&& (63 : Int64)).toInt ∧ (x &&& (63 : Int64)).toInt < 64 := by
  have h := Jvm.Kit.i64_mask x 63 (k := 6) (by decide) (by decide)
  rw [h]
  omega
theorem own_63 {x : Int64} {v : Int32} (h : (x &&& (63 : Int64)).toInt32 = v) : ¬ v < (0 : Int32) ∧ v < (64 : Int32) := by
  have a := own_63x x
  subst h
  have e : (x &&& (63 : Int64)).toInt32.toInt = (x &&& (63 : Int64)).toInt := by
    rw [Int64.toInt_toInt32]
    exact Int.bmod_eq_of_le (by omega) (by omega)
  simp only [Int32.lt_iff_toInt_lt, Int32.reduceToInt, e]
  omega
theorem own_okU {f : Nat → Int32} {x : Int32} {j : Nat} (hx : own_okb x = true) (h : ∀ k, k < j → own_okb (f k) = true) : ∀ k, k < j + 1 → own_okb (ownUpd f j x k) = true := by
  intro k hk
  by_cases q : k = j
  · subst q; rw [ownUpd_same]; exact hx
  · rw [ownUpd_ne _ _ q]; exact h k (by omega)
theorem own_okv {v w : Int32} (h : v = w) (q : own_okb v = true) : own_okb w = true := h ▸ q
theorem own_okR {g : Nat → Int32} {n : Nat} (h : ∀ k, k < n → own_okb (g k) = true) : ∀ i, i < n → ¬ g i < 0 ∧ ¬ (255 : Int32) < g i := by
  intro i hi
  have q := own_okI (h i hi)
  simp only [Int32.lt_iff_toInt_lt, Int32.reduceToInt]
  omega
theorem own_okB {g : Nat → Int32} {n : Nat} (h : ∀ k, k < n → own_okb (g k) = true) : ∀ k, k < n → own_okb ((fun i => (g i).toInt8.toInt32) k) = true := by
  intro k hk
  show own_okb ((g k).toInt8.toInt32) = true
  rw [own_b8 (h k hk)]
  exact h k hk
theorem own_in {i z : Int32} {n : Nat} (h0 : ¬ i < 0) (h1 : i < z) (e : z.toNatClampNeg = n) : ownIn i n := by
  subst e
  have a := own_nltI h0
  have b := own_ltI h1
  simp only [Int32.reduceToInt] at a
  exact ownIn_of a (by simp only [Int32.toNatClampNeg]; omega)
theorem own_in2 {i z : Int32} {n : Nat} (h0 : ¬ i < 0) (h1 : i < z) (e : z.toNatClampNeg = n) : i.toNatClampNeg < n := by
  subst e
  have a := own_nltI h0
  have b := own_ltI h1
  simp only [Int32.reduceToInt] at a
  simp only [Int32.toNatClampNeg]; omega
theorem own_step {i v z : Int32} (hv : i + (1 : Int32) = v) (h0 : ¬ i < (0 : Int32)) (h1 : i < z) : v.toInt = i.toInt + 1 := by
  have a := own_nltI h0
  have b := own_ltI h1
  have c := z.toInt_lt
  simp only [Int32.reduceToInt] at a
  have h2 := Jvm.Kit.i32_add (p := i) (q := 1) (by simp only [Int32.reduceToInt]; omega) (by simp only [Int32.reduceToInt]; omega)
  rw [hv] at h2
  simpa using h2
theorem own_i1 {i v z : Int32} (hv : i + (1 : Int32) = v) (h0 : ¬ i < (0 : Int32)) (h1 : i < z) : ¬ v < (0 : Int32) ∧ ¬ z < v := by
  have s := own_step hv h0 h1
  have a := own_nltI h0
  have b := own_ltI h1
  simp only [Int32.lt_iff_toInt_lt, Int32.reduceToInt] at a ⊢
  omega
theorem own_ms {i v z : Int32} {n kk : Nat} (hv : i + (1 : Int32) = v) (h0 : ¬ i < (0 : Int32)) (h1 : i < z) (e : z.toNatClampNeg = n) (hm : n - i.toNatClampNeg < kk + 1) : n - v.toNatClampNeg < kk := by
  have s := own_step hv h0 h1
  have a := own_nltI h0
  have b := own_ltI h1
  simp only [Int32.toNatClampNeg, Int32.reduceToInt] at *
  omega
theorem own_pn_CandidateRequireValidIdPinLaw : plainName "com/example/un1son/un1son/CandidateRequireValidIdPinLaw" = true := by first | (simp [plainName, overriddenIn]; done) | decide +kernel
theorem own_d2_0 : decode method_2_code 0 = .ok (.iload_n 0, 1) := by decide +kernel
theorem own_d2_1 : decode method_2_code 1 = .ok (.bipush 26, 2) := by decide +kernel
theorem own_d2_3 : decode method_2_code 3 = .ok (.if_icmp .ge 9, 3) := by decide +kernel
theorem own_d2_6 : decode method_2_code 6 = .ok (.bipush 97, 2) := by decide +kernel
theorem own_d2_8 : decode method_2_code 8 = .ok (.iload_n 0, 1) := by decide +kernel
theorem own_d2_9 : decode method_2_code 9 = .ok (.iadd, 1) := by decide +kernel
theorem own_d2_10 : decode method_2_code 10 = .ok (.i2c, 1) := by decide +kernel
theorem own_d2_11 : decode method_2_code 11 = .ok (.ireturn, 1) := by decide +kernel
theorem own_d2_12 : decode method_2_code 12 = .ok (.iload_n 0, 1) := by decide +kernel
theorem own_d2_13 : decode method_2_code 13 = .ok (.bipush 52, 2) := by decide +kernel
theorem own_d2_15 : decode method_2_code 15 = .ok (.if_icmp .ge 12, 3) := by decide +kernel
theorem own_d2_18 : decode method_2_code 18 = .ok (.bipush 65, 2) := by decide +kernel
theorem own_d2_20 : decode method_2_code 20 = .ok (.iload_n 0, 1) := by decide +kernel
theorem own_d2_21 : decode method_2_code 21 = .ok (.bipush 26, 2) := by decide +kernel
theorem own_d2_23 : decode method_2_code 23 = .ok (.isub, 1) := by decide +kernel
theorem own_d2_24 : decode method_2_code 24 = .ok (.iadd, 1) := by decide +kernel
theorem own_d2_25 : decode method_2_code 25 = .ok (.i2c, 1) := by decide +kernel
theorem own_d2_26 : decode method_2_code 26 = .ok (.ireturn, 1) := by decide +kernel
theorem own_d2_27 : decode method_2_code 27 = .ok (.iload_n 0, 1) := by decide +kernel
theorem own_d2_28 : decode method_2_code 28 = .ok (.bipush 62, 2) := by decide +kernel
theorem own_d2_30 : decode method_2_code 30 = .ok (.if_icmp .ge 12, 3) := by decide +kernel
theorem own_d2_33 : decode method_2_code 33 = .ok (.bipush 48, 2) := by decide +kernel
theorem own_d2_35 : decode method_2_code 35 = .ok (.iload_n 0, 1) := by decide +kernel
theorem own_d2_36 : decode method_2_code 36 = .ok (.bipush 52, 2) := by decide +kernel
theorem own_d2_38 : decode method_2_code 38 = .ok (.isub, 1) := by decide +kernel
theorem own_d2_39 : decode method_2_code 39 = .ok (.iadd, 1) := by decide +kernel
theorem own_d2_40 : decode method_2_code 40 = .ok (.i2c, 1) := by decide +kernel
theorem own_d2_41 : decode method_2_code 41 = .ok (.ireturn, 1) := by decide +kernel
theorem own_d2_42 : decode method_2_code 42 = .ok (.iload_n 0, 1) := by decide +kernel
theorem own_d2_43 : decode method_2_code 43 = .ok (.bipush 62, 2) := by decide +kernel
theorem own_d2_45 : decode method_2_code 45 = .ok (.if_icmp .ne 6, 3) := by decide +kernel
theorem own_d2_48 : decode method_2_code 48 = .ok (.bipush 95, 2) := by decide +kernel
theorem own_d2_50 : decode method_2_code 50 = .ok (.ireturn, 1) := by decide +kernel
theorem own_d2_51 : decode method_2_code 51 = .ok (.bipush 45, 2) := by decide +kernel
theorem own_d2_53 : decode method_2_code 53 = .ok (.ireturn, 1) := by decide +kernel
theorem own_ef2_alpha (m : MethodId) (p0 : Int32) : entryFrame m #[(.int p0)] 1 = mkF m 0 #[iv p0] [] := by first | (simp [entryFrame, mkF, argsToLocals, Value.category]; done) | rfl
def Q_alpha (Z : State) (p0 : Int32) (h0 : Heap) (n0 : Nat) (v : Option Value) (h : Heap) (L : List Loc) : Prop := ∃ (r : Int32), v = some (.int r) ∧ Fr n0 L ∧ h = h0 ∧ (own_okb r = true)
set_option maxRecDepth 65536 in
set_option maxHeartbeats 40000000 in
theorem rm_alpha (l : Launch) (Z : State) (av0 : Array Value) (hw : ∀ d ∈ tables_1, d.before av0 Z = true) (ws : List Jvm.Cond) (p0 : Int32) (h0 : Heap) (n0 : Nat) (Z0 : n0 ≤ h0.size) (hlo : ¬ (p0 < (0 : Int32))) (hhi : p0 < (64 : Int32)) :
    MetFree l (⟨"com/example/un1son/un1son/CandidateRequireValidIdPinLaw", "alpha", "(I)C"⟩ : MethodName) (head1 (Jvm.Cond.code (⟨"com/example/un1son/un1son/CandidateRequireValidIdPinLaw", "alpha", "(I)C"⟩ : MethodName) method_2_code 1 (some .char) :: ws) ({ frames := 0, cells := 0, slots := 0, locals := 0 } : Room)) (fun a U => a = #[(.int p0)] ∧ Z.Warmed39 U.vm ∧ U.heap = h0) (fun _ _ _ _ _ => True) (fun _ U o U' => ∃ v L, o = .returned v ∧ (Q_alpha Z p0 h0 n0) v U'.heap L ∧ FrameEnd U o U' L ({ frames := 0, cells := 0, slots := 0, locals := 0 } : Room).cells ({ frames := 0, cells := 0, slots := 0, locals := 0 } : Room).slots) := by
  refine MetFree.of_bodySF (plainFor_of_name own_pn_CandidateRequireValidIdPinLaw) hisR ?_
  intro p e s m args below meth c s₁ Bd hml0 hP hK
  obtain ⟨rfl, hZ, hh⟩ := hP
  have hx := Bd.exec
  have hby := Bd.bytes
  have hml : c.maxLocals = 1 := hml0
  have hown : s.vm.findClass "com/example/un1son/un1son/CandidateRequireValidIdPinLaw" = some m.cls := findClass_of_methodNamed Bd.named
  have hnm := (name_of_methodNamed Bd.named Bd.method).1
  have hlk : meth.locks = false := BodyLoose.notSynchronized Bd
  have X0 : Stand p l e ({ frames := 0, cells := 0, slots := 0, locals := 0 } : Room) s m #[(.int p0)] below meth c s₁ [] 0 0 := Stand.of_body Bd
  have e0 : s₁.heap = h0 := by rw [← hh, Bd.state]; rfl
  have N0 := Fr.nil n0
  have K0 : Keep h0 h0 [] := Keep.refl _ _
  have ww : ∀ (k : Nat) {d : Jvm.Cond}, tables_1[k]? = some d → d.before av0 Z = true := fun k d h => hw d (List.mem_of_getElem? h)
  show ownEnds p e below s (Q_alpha Z p0 h0 n0) ({ frames := 0, cells := 0, slots := 0, locals := 0 } : Room).cells ({ frames := 0, cells := 0, slots := 0, locals := 0 } : Room).slots s₁ (entryFrame m #[(.int p0)] 1)
  refine ownCast (own_ef2_alpha m p0) ?_
  refine ow_iloadN (q := 1) X0 hx (hb hby own_d2_0) rfl rfl ?_
  refine ow_bipush (q := 3) X0 hx (26 : Int32) (hb hby own_d2_1) rfl rfl ?_
  by_cases hc3_1 : p0 < (26 : Int32)
  · refine ow_icmpNo (q := 6) X0 hx (hb hby own_d2_3) rfl (Jvm.Free.XT.ii_ge_f hc3_1) ?_
    refine ow_bipush (q := 8) X0 hx (97 : Int32) (hb hby own_d2_6) rfl rfl ?_
    refine ow_iloadN (q := 9) X0 hx (hb hby own_d2_8) rfl rfl ?_
    refine ow_iadd (q := 10) X0 hx _ (hb hby own_d2_9) rfl rfl ?_
    refine ow_i2c (q := 11) X0 hx _ (hb hby own_d2_10) rfl rfl ?_
    refine ownRetN X0 hx (r := (nar .char (((97 : Int32) + p0).toUInt32.toUInt16.toUInt32.toInt32))) (Or.inr (Or.inr (Or.inl rfl))) Bd.returns (hb hby own_d2_11) hlk (by decide) (by decide) rfl ?_
    rw [e0]
    refine ⟨(nar .char (((97 : Int32) + p0).toUInt32.toUInt16.toUInt32.toInt32)), rfl, N0, rfl, ?_⟩
    exact own_f64 (P := fun p0 => (p0 < (26 : Int32)) → own_okb (nar .char (((97 : Int32) + p0).toUInt32.toUInt16.toUInt32.toInt32)) = true) (by decide +kernel) hlo hhi hc3_1
  · refine ow_icmpYes (q := 12) X0 hx (hb hby own_d2_3) (Jvm.Free.XT.ii_ge_t hc3_1) (by decide) (by decide) ?_
    refine ow_iloadN (q := 13) X0 hx (hb hby own_d2_12) rfl rfl ?_
    refine ow_bipush (q := 15) X0 hx (52 : Int32) (hb hby own_d2_13) rfl rfl ?_
    by_cases hc15_2 : p0 < (52 : Int32)
    · refine ow_icmpNo (q := 18) X0 hx (hb hby own_d2_15) rfl (Jvm.Free.XT.ii_ge_f hc15_2) ?_
      refine ow_bipush (q := 20) X0 hx (65 : Int32) (hb hby own_d2_18) rfl rfl ?_
      refine ow_iloadN (q := 21) X0 hx (hb hby own_d2_20) rfl rfl ?_
      refine ow_bipush (q := 23) X0 hx (26 : Int32) (hb hby own_d2_21) rfl rfl ?_
      refine ow_isub (q := 24) X0 hx _ (hb hby own_d2_23) rfl rfl ?_
      refine ow_iadd (q := 25) X0 hx _ (hb hby own_d2_24) rfl rfl ?_
      refine ow_i2c (q := 26) X0 hx _ (hb hby own_d2_25) rfl rfl ?_
      refine ownRetN X0 hx (r := (nar .char (((65 : Int32) + (p0 - (26 : Int32))).toUInt32.toUInt16.toUInt32.toInt32))) (Or.inr (Or.inr (Or.inl rfl))) Bd.returns (hb hby own_d2_26) hlk (by decide) (by decide) rfl ?_
      rw [e0]
      refine ⟨(nar .char (((65 : Int32) + (p0 - (26 : Int32))).toUInt32.toUInt16.toUInt32.toInt32)), rfl, N0, rfl, ?_⟩
      exact own_f64 (P := fun p0 => (¬ p0 < (26 : Int32)) → (p0 < (52 : Int32)) → own_okb (nar .char (((65 : Int32) + (p0 - (26 : Int32))).toUInt32.toUInt16.toUInt32.toInt32)) = true) (by decide +kernel) hlo hhi hc3_1 hc15_2
    · refine ow_icmpYes (q := 27) X0 hx (hb hby own_d2_15) (Jvm.Free.XT.ii_ge_t hc15_2) (by decide) (by decide) ?_
      refine ow_iloadN (q := 28) X0 hx (hb hby own_d2_27) rfl rfl ?_
      refine ow_bipush (q := 30) X0 hx (62 : Int32) (hb hby own_d2_28) rfl rfl ?_
      by_cases hc30_3 : p0 < (62 : Int32)
      · refine ow_icmpNo (q := 33) X0 hx (hb hby own_d2_30) rfl (Jvm.Free.XT.ii_ge_f hc30_3) ?_
        refine ow_bipush (q := 35) X0 hx (48 : Int32) (hb hby own_d2_33) rfl rfl ?_
        refine ow_iloadN (q := 36) X0 hx (hb hby own_d2_35) rfl rfl ?_
        refine ow_bipush (q := 38) X0 hx (52 : Int32) (hb hby own_d2_36) rfl rfl ?_
        refine ow_isub (q := 39) X0 hx _ (hb hby own_d2_38) rfl rfl ?_
        refine ow_iadd (q := 40) X0 hx _ (hb hby own_d2_39) rfl rfl ?_
        refine ow_i2c (q := 41) X0 hx _ (hb hby own_d2_40) rfl rfl ?_
        refine ownRetN X0 hx (r := (nar .char (((48 : Int32) + (p0 - (52 : Int32))).toUInt32.toUInt16.toUInt32.toInt32))) (Or.inr (Or.inr (Or.inl rfl))) Bd.returns (hb hby own_d2_41) hlk (by decide) (by decide) rfl ?_
        rw [e0]
        refine ⟨(nar .char (((48 : Int32) + (p0 - (52 : Int32))).toUInt32.toUInt16.toUInt32.toInt32)), rfl, N0, rfl, ?_⟩
        exact own_f64 (P := fun p0 => (¬ p0 < (26 : Int32)) → (¬ p0 < (52 : Int32)) → (p0 < (62 : Int32)) → own_okb (nar .char (((48 : Int32) + (p0 - (52 : Int32))).toUInt32.toUInt16.toUInt32.toInt32)) = true) (by decide +kernel) hlo hhi hc3_1 hc15_2 hc30_3
      · refine ow_icmpYes (q := 42) X0 hx (hb hby own_d2_30) (Jvm.Free.XT.ii_ge_t hc30_3) (by decide) (by decide) ?_
        refine ow_iloadN (q := 43) X0 hx (hb hby own_d2_42) rfl rfl ?_
        refine ow_bipush (q := 45) X0 hx (62 : Int32) (hb hby own_d2_43) rfl rfl ?_
        by_cases hc45_4 : p0 = (62 : Int32)
        · refine ow_icmpNo (q := 48) X0 hx (hb hby own_d2_45) rfl (Jvm.Free.XT.ii_ne_f hc45_4) ?_
          refine ow_bipush (q := 50) X0 hx (95 : Int32) (hb hby own_d2_48) rfl rfl ?_
          refine ownRetN X0 hx (r := (95 : Int32)) (Or.inr (Or.inr (Or.inl rfl))) Bd.returns (hb hby own_d2_50) hlk (by decide) (by decide) (by decide) ?_
          rw [e0]
          refine ⟨(95 : Int32), rfl, N0, rfl, ?_⟩
          decide
        · refine ow_icmpYes (q := 51) X0 hx (hb hby own_d2_45) (Jvm.Free.XT.ii_ne_t hc45_4) (by decide) (by decide) ?_
          refine ow_bipush (q := 53) X0 hx (45 : Int32) (hb hby own_d2_51) rfl rfl ?_
          refine ownRetN X0 hx (r := (45 : Int32)) (Or.inr (Or.inr (Or.inl rfl))) Bd.returns (hb hby own_d2_53) hlk (by decide) (by decide) (by decide) ?_
          rw [e0]
          refine ⟨(45 : Int32), rfl, N0, rfl, ?_⟩
          decide
theorem own_d1_0 : decode method_3_code 0 = .ok (.lload_n 0, 1) := by decide +kernel
theorem own_d1_1 : decode method_3_code 1 = .ok (.bipush 6, 2) := by decide +kernel
theorem own_d1_3 : decode method_3_code 3 = .ok (.iload_n 2, 1) := by decide +kernel
theorem own_d1_4 : decode method_3_code 4 = .ok (.imul, 1) := by decide +kernel
theorem own_d1_5 : decode method_3_code 5 = .ok (.lushr, 1) := by decide +kernel
theorem own_d1_6 : decode method_3_code 6 = .ok (.ldc2_w 7, 3) := by decide +kernel
theorem own_d1_9 : decode method_3_code 9 = .ok (.land, 1) := by decide +kernel
theorem own_d1_10 : decode method_3_code 10 = .ok (.l2i, 1) := by decide +kernel
theorem own_d1_11 : decode method_3_code 11 = .ok (.invokestatic 9, 3) := by decide +kernel
theorem own_pd0 : parseMethodDescriptor "(I)C" = some ⟨[.int], some .char⟩ := by decide +kernel
theorem own_d1_14 : decode method_3_code 14 = .ok (.ireturn, 1) := by decide +kernel
theorem own_ef1_at (m : MethodId) (q0 : Int64) (p1 : Int32) : entryFrame m #[(.long q0), (.int p1)] 3 = mkF m 0 #[.val (.long q0), .second, iv p1] [] := by first | (simp [entryFrame, mkF, argsToLocals, Value.category]; done) | rfl
def Q_at (Z : State) (q0 : Int64) (p1 : Int32) (h0 : Heap) (n0 : Nat) (v : Option Value) (h : Heap) (L : List Loc) : Prop := ∃ (r : Int32), v = some (.int r) ∧ Fr n0 L ∧ h = h0 ∧ (own_okb r = true)
set_option maxRecDepth 65536 in
set_option maxHeartbeats 40000000 in
theorem rm_at (l : Launch) (Z : State) (av0 : Array Value) (hw : ∀ d ∈ tables_1, d.before av0 Z = true) (ws : List Jvm.Cond) (q0 : Int64) (p1 : Int32) (h0 : Heap) (n0 : Nat) (Z0 : n0 ≤ h0.size) :
    MetFree l (⟨"com/example/un1son/un1son/CandidateRequireValidIdPinLaw", "at", "(JI)C"⟩ : MethodName) (head1 (Jvm.Cond.code (⟨"com/example/un1son/un1son/CandidateRequireValidIdPinLaw", "at", "(JI)C"⟩ : MethodName) method_3_code 3 (some .char) :: ws) ({ frames := 1, cells := 0, slots := 0, locals := 12 } : Room)) (fun a U => a = #[(.long q0), (.int p1)] ∧ Z.Warmed39 U.vm ∧ U.heap = h0) (fun _ _ _ _ _ => True) (fun _ U o U' => ∃ v L, o = .returned v ∧ (Q_at Z q0 p1 h0 n0) v U'.heap L ∧ FrameEnd U o U' L ({ frames := 1, cells := 0, slots := 0, locals := 12 } : Room).cells ({ frames := 1, cells := 0, slots := 0, locals := 12 } : Room).slots) := by
  refine MetFree.of_bodySF (plainFor_of_name own_pn_CandidateRequireValidIdPinLaw) hisR ?_
  intro p e s m args below meth c s₁ Bd hml0 hP hK
  obtain ⟨rfl, hZ, hh⟩ := hP
  have hx := Bd.exec
  have hby := Bd.bytes
  have hml : c.maxLocals = 3 := hml0
  have hown : s.vm.findClass "com/example/un1son/un1son/CandidateRequireValidIdPinLaw" = some m.cls := findClass_of_methodNamed Bd.named
  have hnm := (name_of_methodNamed Bd.named Bd.method).1
  have hlk : meth.locks = false := BodyLoose.notSynchronized Bd
  have X0 : Stand p l e ({ frames := 1, cells := 0, slots := 0, locals := 12 } : Room) s m #[(.long q0), (.int p1)] below meth c s₁ [] 0 0 := Stand.of_body Bd
  have e0 : s₁.heap = h0 := by rw [← hh, Bd.state]; rfl
  have N0 := Fr.nil n0
  have K0 : Keep h0 h0 [] := Keep.refl _ _
  have ww : ∀ (k : Nat) {d : Jvm.Cond}, tables_1[k]? = some d → d.before av0 Z = true := fun k d h => hw d (List.mem_of_getElem? h)
  show ownEnds p e below s (Q_at Z q0 p1 h0 n0) ({ frames := 1, cells := 0, slots := 0, locals := 12 } : Room).cells ({ frames := 1, cells := 0, slots := 0, locals := 12 } : Room).slots s₁ (entryFrame m #[(.long q0), (.int p1)] 3)
  refine ownCast (own_ef1_at m q0 p1) ?_
  refine ow_lloadN (q := 1) X0 hx (hb hby own_d1_0) rfl rfl ?_
  refine ow_bipush (q := 3) X0 hx (6 : Int32) (hb hby own_d1_1) rfl rfl ?_
  refine ow_iloadN (q := 4) X0 hx (hb hby own_d1_3) rfl rfl ?_
  refine ow_imul (q := 5) X0 hx _ (hb hby own_d1_4) rfl rfl ?_
  refine ow_lushr (q := 6) X0 hx _ (hb hby own_d1_5) rfl rfl ?_
  refine ownGo (T' := s₁) (f' := (mkF m 9 #[.val (.long q0), .second, iv p1] [(.long (63 : Int64)), (.long ((q0.toUInt64 >>> (((6 : Int32) * p1) &&& 0x3f).toInt64.toUInt64).toInt64))])) (X0.ldc2Long hx hown (mvT hZ (ww 5 rfl)) (g := (mkF m 6 #[.val (.long q0), .second, iv p1] [(.long ((q0.toUInt64 >>> (((6 : Int32) * p1) &&& 0x3f).toInt64.toUInt64).toInt64))])) rfl (hb hby own_d1_6)) ?_
  refine ow_land (q := 10) X0 hx _ (hb hby own_d1_9) rfl rfl ?_
  refine ow_l2i (q := 11) X0 hx _ (hb hby own_d1_10) rfl rfl ?_
  generalize hv_v1 : ((((q0.toUInt64 >>> (((6 : Int32) * p1) &&& 0x3f).toInt64.toUInt64).toInt64) &&& (63 : Int64)).toInt32) = v1
  obtain ⟨_, _, ⟨T2, L2, k2, n2⟩, -, X2, ⟨Lc2, hQ2, l2, y2, z2⟩, st2⟩ := Jvm.LawKit.callS X0 hx (y := (⟨"com/example/un1son/un1son/CandidateRequireValidIdPinLaw", "alpha", "(I)C"⟩ : MethodName)) hown (mvT hZ (ww 6 rfl)) (mvT hZ (ww 7 rfl)) (mvT hZ (ww 3 rfl)) (mvT hZ (ww 8 rfl)) (by decide) (backOf (W := 0) (rm_alpha l Z av0 hw [] v1 h0 n0 (Nat.le_trans Z0 K0.1) (own_63 hv_v1).1 (own_63 hv_v1).2) hZ (ww 8 rfl) (ww 3 rfl) (by decide) (by decide)) (g := (mkF m 11 #[.val (.long q0), .second, iv p1] [(.int v1)])) rfl (by rw [hml]; rfl) (argsL := [(.int v1)]) (rest := []) (lenOf own_pd0 rfl) rfl (by show 2 * 0 + _ ≤ _; exact Nat.le_of_eq rfl) (hb hby own_d1_11) (fun _ _ => ⟨rfl, e0, (by decide : 0 + 0 ≤ _), (by decide : 0 + 0 ≤ _)⟩)
  dsimp only [Pt.U, Pt.locs, Pt.cells, Pt.slots] at X2 l2 y2 z2 st2 hQ2
  subst l2 y2 z2
  obtain ⟨r2, rfl, N2q, e2, hp2⟩ := hQ2
  have N2 := Fr.app N0 N2q
  refine ownGo (T' := T2) (f' := (mkF m 14 #[.val (.long q0), .second, iv p1] [(.int r2)])) (st2) ?_
  refine ownRetN X2 hx (r := r2) (Or.inr (Or.inr (Or.inl rfl))) Bd.returns (hb hby own_d1_14) hlk (by decide) (by decide) (own_nar hp2) ?_
  rw [e2]
  refine ⟨r2, rfl, N2, rfl, ?_⟩
  exact hp2
theorem own_pn_String : plainName "java/lang/String" = true := by first | (simp [plainName, overriddenIn]; done) | decide +kernel
theorem own_d13_0 : decode jdk_42_method_152_code 0 = .ok (.getstatic 38, 3) := by decide +kernel
theorem own_d13_3 : decode jdk_42_method_152_code 3 = .ok (.ifCond .eq 10, 3) := by decide +kernel
theorem own_d13_6 : decode jdk_42_method_152_code 6 = .ok (.aload_n 0, 1) := by decide +kernel
theorem own_d13_7 : decode jdk_42_method_152_code 7 = .ok (.getfield 15, 3) := by decide +kernel
theorem own_d13_10 : decode jdk_42_method_152_code 10 = .ok (.goto 4, 3) := by decide +kernel
theorem own_d13_14 : decode jdk_42_method_152_code 14 = .ok (.ireturn, 1) := by decide +kernel
theorem own_ef13_coder (m : MethodId) (sx : Addr) : entryFrame m #[(.ref sx)] 1 = mkF m 0 #[rv sx] [] := by first | (simp [entryFrame, mkF, argsToLocals, Value.category]; done) | rfl
def Q_coder (Z : State) (sx : Addr) (zc : Int32) (h0 : Heap) (n0 : Nat) (v : Option Value) (h : Heap) (L : List Loc) : Prop := v = some (.int (0 : Int32)) ∧ Fr n0 L ∧ h = h0
set_option maxRecDepth 65536 in
set_option maxHeartbeats 40000000 in
theorem rm_coder (l : Launch) (Z : State) (av0 : Array Value) (hw : ∀ d ∈ tables_1, d.before av0 Z = true) (ws : List Jvm.Cond) (sx : Addr) (zc : Int32) (h0 : Heap) (n0 : Nat) (Z0 : n0 ≤ h0.size) (HF0 : Fld Z h0 sx "java/lang/String" "coder" "B" (.int (0 : Int32))) (HF1 : Sta Z h0 "java/lang/String" "COMPACT_STRINGS" "Z" (.int zc)) (hz : ¬ zc = (0 : Int32)) :
    MetFree l (⟨"java/lang/String", "coder", "()B"⟩ : MethodName) (head1 (Jvm.Cond.code (⟨"java/lang/String", "coder", "()B"⟩ : MethodName) jdk_42_method_152_code 1 (some .byte) :: ws) ({ frames := 0, cells := 0, slots := 0, locals := 0 } : Room)) (fun a U => a = #[(.ref sx)] ∧ Z.Warmed39 U.vm ∧ U.heap = h0) (fun _ _ _ _ _ => True) (fun _ U o U' => ∃ v L, o = .returned v ∧ (Q_coder Z sx zc h0 n0) v U'.heap L ∧ FrameEnd U o U' L ({ frames := 0, cells := 0, slots := 0, locals := 0 } : Room).cells ({ frames := 0, cells := 0, slots := 0, locals := 0 } : Room).slots) := by
  refine MetFree.of_bodySF (plainFor_of_name own_pn_String) hisR ?_
  intro p e s m args below meth c s₁ Bd hml0 hP hK
  obtain ⟨rfl, hZ, hh⟩ := hP
  have hx := Bd.exec
  have hby := Bd.bytes
  have hml : c.maxLocals = 1 := hml0
  have hown : s.vm.findClass "java/lang/String" = some m.cls := findClass_of_methodNamed Bd.named
  have hnm := (name_of_methodNamed Bd.named Bd.method).1
  have hlk : meth.locks = false := BodyLoose.notSynchronized Bd
  have X0 : Stand p l e ({ frames := 0, cells := 0, slots := 0, locals := 0 } : Room) s m #[(.ref sx)] below meth c s₁ [] 0 0 := Stand.of_body Bd
  have e0 : s₁.heap = h0 := by rw [← hh, Bd.state]; rfl
  have N0 := Fr.nil n0
  have K0 : Keep h0 h0 [] := Keep.refl _ _
  have ww : ∀ (k : Nat) {d : Jvm.Cond}, tables_1[k]? = some d → d.before av0 Z = true := fun k d h => hw d (List.mem_of_getElem? h)
  show ownEnds p e below s (Q_coder Z sx zc h0 n0) ({ frames := 0, cells := 0, slots := 0, locals := 0 } : Room).cells ({ frames := 0, cells := 0, slots := 0, locals := 0 } : Room).slots s₁ (entryFrame m #[(.ref sx)] 1)
  refine ownCast (own_ef13_coder m sx) ?_
  obtain ⟨T1, X1, e1, st1⟩ := getS2 X0 hx hZ hown (host := "") (Or.inl (ww 22 rfl)) Via.refl e0 HF1 (g := (mkF m 0 #[rv sx] [])) rfl (hb hby own_d13_0)
  refine ownGo (T' := T1) (f' := (mkF m 3 #[rv sx] [(.int zc)])) (st1) ?_
  refine ow_ifNo (q := 6) X1 hx (hb hby own_d13_3) rfl (Jvm.Free.XT.i0_eq_f hz) ?_
  refine ow_aloadN (q := 7) X1 hx (hb hby own_d13_6) rfl rfl rfl ?_
  obtain ⟨T2, X2, e2, st2⟩ := getF X1 hx hZ hown (host := "") (Or.inl (ww 34 rfl)) Via.refl e1 HF0 (g := (mkF m 7 #[rv sx] [(.ref sx)])) rfl rfl (hb hby own_d13_7)
  refine ownGo (T' := T2) (f' := (mkF m 10 #[rv sx] [(.int (0 : Int32))])) (st2) ?_
  refine ow_goto (q := 14) X2 hx (hb hby own_d13_10) (by decide) (by decide) ?_
  refine ownRetN X2 hx (r := (0 : Int32)) (Or.inr (Or.inl rfl)) Bd.returns (hb hby own_d13_14) hlk (by decide) (by decide) (by decide) ?_
  rw [e2]
  exact ⟨rfl, N0, rfl⟩
theorem own_d15_0 : decode jdk_42_method_154_code 0 = .ok (.getstatic 38, 3) := by decide +kernel
theorem own_d15_3 : decode jdk_42_method_154_code 3 = .ok (.ifCond .eq 14, 3) := by decide +kernel
theorem own_d15_6 : decode jdk_42_method_154_code 6 = .ok (.aload_n 0, 1) := by decide +kernel
theorem own_d15_7 : decode jdk_42_method_154_code 7 = .ok (.getfield 15, 3) := by decide +kernel
theorem own_d15_10 : decode jdk_42_method_154_code 10 = .ok (.ifCond .ne 7, 3) := by decide +kernel
theorem own_d15_13 : decode jdk_42_method_154_code 13 = .ok (.iconst 1, 1) := by decide +kernel
theorem own_d15_14 : decode jdk_42_method_154_code 14 = .ok (.goto 4, 3) := by decide +kernel
theorem own_d15_18 : decode jdk_42_method_154_code 18 = .ok (.ireturn, 1) := by decide +kernel
theorem own_ef15_isLatin1 (m : MethodId) (sx : Addr) : entryFrame m #[(.ref sx)] 1 = mkF m 0 #[rv sx] [] := by first | (simp [entryFrame, mkF, argsToLocals, Value.category]; done) | rfl
def Q_isLatin1 (Z : State) (sx : Addr) (zc : Int32) (h0 : Heap) (n0 : Nat) (v : Option Value) (h : Heap) (L : List Loc) : Prop := v = some (.int (1 : Int32)) ∧ Fr n0 L ∧ h = h0
set_option maxRecDepth 65536 in
set_option maxHeartbeats 40000000 in
theorem rm_isLatin1 (l : Launch) (Z : State) (av0 : Array Value) (hw : ∀ d ∈ tables_1, d.before av0 Z = true) (ws : List Jvm.Cond) (sx : Addr) (zc : Int32) (h0 : Heap) (n0 : Nat) (Z0 : n0 ≤ h0.size) (HF0 : Fld Z h0 sx "java/lang/String" "coder" "B" (.int (0 : Int32))) (HF1 : Sta Z h0 "java/lang/String" "COMPACT_STRINGS" "Z" (.int zc)) (hz : ¬ zc = (0 : Int32)) :
    MetFree l (⟨"java/lang/String", "isLatin1", "()Z"⟩ : MethodName) (head1 (Jvm.Cond.code (⟨"java/lang/String", "isLatin1", "()Z"⟩ : MethodName) jdk_42_method_154_code 1 (some .boolean) :: ws) ({ frames := 0, cells := 0, slots := 0, locals := 0 } : Room)) (fun a U => a = #[(.ref sx)] ∧ Z.Warmed39 U.vm ∧ U.heap = h0) (fun _ _ _ _ _ => True) (fun _ U o U' => ∃ v L, o = .returned v ∧ (Q_isLatin1 Z sx zc h0 n0) v U'.heap L ∧ FrameEnd U o U' L ({ frames := 0, cells := 0, slots := 0, locals := 0 } : Room).cells ({ frames := 0, cells := 0, slots := 0, locals := 0 } : Room).slots) := by
  refine MetFree.of_bodySF (plainFor_of_name own_pn_String) hisR ?_
  intro p e s m args below meth c s₁ Bd hml0 hP hK
  obtain ⟨rfl, hZ, hh⟩ := hP
  have hx := Bd.exec
  have hby := Bd.bytes
  have hml : c.maxLocals = 1 := hml0
  have hown : s.vm.findClass "java/lang/String" = some m.cls := findClass_of_methodNamed Bd.named
  have hnm := (name_of_methodNamed Bd.named Bd.method).1
  have hlk : meth.locks = false := BodyLoose.notSynchronized Bd
  have X0 : Stand p l e ({ frames := 0, cells := 0, slots := 0, locals := 0 } : Room) s m #[(.ref sx)] below meth c s₁ [] 0 0 := Stand.of_body Bd
  have e0 : s₁.heap = h0 := by rw [← hh, Bd.state]; rfl
  have N0 := Fr.nil n0
  have K0 : Keep h0 h0 [] := Keep.refl _ _
  have ww : ∀ (k : Nat) {d : Jvm.Cond}, tables_1[k]? = some d → d.before av0 Z = true := fun k d h => hw d (List.mem_of_getElem? h)
  show ownEnds p e below s (Q_isLatin1 Z sx zc h0 n0) ({ frames := 0, cells := 0, slots := 0, locals := 0 } : Room).cells ({ frames := 0, cells := 0, slots := 0, locals := 0 } : Room).slots s₁ (entryFrame m #[(.ref sx)] 1)
  refine ownCast (own_ef15_isLatin1 m sx) ?_
  obtain ⟨T1, X1, e1, st1⟩ := getS2 X0 hx hZ hown (host := "") (Or.inl (ww 22 rfl)) Via.refl e0 HF1 (g := (mkF m 0 #[rv sx] [])) rfl (hb hby own_d15_0)
  refine ownGo (T' := T1) (f' := (mkF m 3 #[rv sx] [(.int zc)])) (st1) ?_
  refine ow_ifNo (q := 6) X1 hx (hb hby own_d15_3) rfl (Jvm.Free.XT.i0_eq_f hz) ?_
  refine ow_aloadN (q := 7) X1 hx (hb hby own_d15_6) rfl rfl rfl ?_
  obtain ⟨T2, X2, e2, st2⟩ := getF X1 hx hZ hown (host := "") (Or.inl (ww 34 rfl)) Via.refl e1 HF0 (g := (mkF m 7 #[rv sx] [(.ref sx)])) rfl rfl (hb hby own_d15_7)
  refine ownGo (T' := T2) (f' := (mkF m 10 #[rv sx] [(.int (0 : Int32))])) (st2) ?_
  refine ow_ifNo (q := 13) X2 hx (hb hby own_d15_10) rfl (Jvm.Free.XT.i0_ne_f (by decide)) ?_
  refine ow_iconst (q := 14) X2 hx (1 : Int32) (hb hby own_d15_13) rfl rfl ?_
  refine ow_goto (q := 18) X2 hx (hb hby own_d15_14) (by decide) (by decide) ?_
  refine ownRetN X2 hx (r := (1 : Int32)) (Or.inl rfl) Bd.returns (hb hby own_d15_18) hlk (by decide) (by decide) (by decide) ?_
  rw [e2]
  exact ⟨rfl, N0, rfl⟩
theorem own_pn_Preconditions : plainName "jdk/internal/util/Preconditions" = true := by first | (simp [plainName, overriddenIn]; done) | decide +kernel
theorem own_d18_0 : decode jdk_41_method_11_code 0 = .ok (.iload_n 0, 1) := by decide +kernel
theorem own_d18_1 : decode jdk_41_method_11_code 1 = .ok (.ifCond .lt 8, 3) := by decide +kernel
theorem own_d18_4 : decode jdk_41_method_11_code 4 = .ok (.iload_n 0, 1) := by decide +kernel
theorem own_d18_5 : decode jdk_41_method_11_code 5 = .ok (.iload_n 1, 1) := by decide +kernel
theorem own_d18_6 : decode jdk_41_method_11_code 6 = .ok (.if_icmp .lt 10, 3) := by decide +kernel
theorem own_d18_16 : decode jdk_41_method_11_code 16 = .ok (.iload_n 0, 1) := by decide +kernel
theorem own_d18_17 : decode jdk_41_method_11_code 17 = .ok (.ireturn, 1) := by decide +kernel
theorem own_ef18_pcheck (m : MethodId) (p0 : Int32) (p1 : Int32) (fm : Value) (hr_fm : fm.isRef = true) : entryFrame m #[(.int p0), (.int p1), fm] 3 = mkF m 0 #[iv p0, iv p1, .val fm] [] := by cases fm <;> first | (simp [Value.isRef] at hr_fm; done) | (simp [entryFrame, mkF, argsToLocals, Value.category]; done) | rfl
def Q_pcheck (Z : State) (p0 : Int32) (p1 : Int32) (fm : Value) (h0 : Heap) (n0 : Nat) (v : Option Value) (h : Heap) (L : List Loc) : Prop := v = some (.int p0) ∧ Fr n0 L ∧ h = h0
set_option maxRecDepth 65536 in
set_option maxHeartbeats 40000000 in
theorem rm_pcheck (l : Launch) (Z : State) (av0 : Array Value) (hw : ∀ d ∈ tables_1, d.before av0 Z = true) (ws : List Jvm.Cond) (p0 : Int32) (p1 : Int32) (fm : Value) (h0 : Heap) (n0 : Nat) (Z0 : n0 ≤ h0.size) (hlo : ¬ p0 < (0 : Int32)) (hhi : p0 < p1) (hr_fm : fm.isRef = true) :
    MetFree l (⟨"jdk/internal/util/Preconditions", "checkIndex", "(IILjava/util/function/BiFunction;)I"⟩ : MethodName) (head1 (Jvm.Cond.code (⟨"jdk/internal/util/Preconditions", "checkIndex", "(IILjava/util/function/BiFunction;)I"⟩ : MethodName) jdk_41_method_11_code 3 (some .int) :: ws) ({ frames := 0, cells := 0, slots := 0, locals := 0 } : Room)) (fun a U => a = #[(.int p0), (.int p1), fm] ∧ Z.Warmed39 U.vm ∧ U.heap = h0) (fun _ _ _ _ _ => True) (fun _ U o U' => ∃ v L, o = .returned v ∧ (Q_pcheck Z p0 p1 fm h0 n0) v U'.heap L ∧ FrameEnd U o U' L ({ frames := 0, cells := 0, slots := 0, locals := 0 } : Room).cells ({ frames := 0, cells := 0, slots := 0, locals := 0 } : Room).slots) := by
  refine MetFree.of_bodySF (plainFor_of_name own_pn_Preconditions) hisR ?_
  intro p e s m args below meth c s₁ Bd hml0 hP hK
  obtain ⟨rfl, hZ, hh⟩ := hP
  have hx := Bd.exec
  have hby := Bd.bytes
  have hml : c.maxLocals = 3 := hml0
  have hown : s.vm.findClass "jdk/internal/util/Preconditions" = some m.cls := findClass_of_methodNamed Bd.named
  have hnm := (name_of_methodNamed Bd.named Bd.method).1
  have hlk : meth.locks = false := BodyLoose.notSynchronized Bd
  have X0 : Stand p l e ({ frames := 0, cells := 0, slots := 0, locals := 0 } : Room) s m #[(.int p0), (.int p1), fm] below meth c s₁ [] 0 0 := Stand.of_body Bd
  have e0 : s₁.heap = h0 := by rw [← hh, Bd.state]; rfl
  have N0 := Fr.nil n0
  have K0 : Keep h0 h0 [] := Keep.refl _ _
  have ww : ∀ (k : Nat) {d : Jvm.Cond}, tables_1[k]? = some d → d.before av0 Z = true := fun k d h => hw d (List.mem_of_getElem? h)
  show ownEnds p e below s (Q_pcheck Z p0 p1 fm h0 n0) ({ frames := 0, cells := 0, slots := 0, locals := 0 } : Room).cells ({ frames := 0, cells := 0, slots := 0, locals := 0 } : Room).slots s₁ (entryFrame m #[(.int p0), (.int p1), fm] 3)
  refine ownCast (own_ef18_pcheck m p0 p1 fm hr_fm) ?_
  refine ow_iloadN (q := 1) X0 hx (hb hby own_d18_0) rfl rfl ?_
  refine ow_ifNo (q := 4) X0 hx (hb hby own_d18_1) rfl (Jvm.Free.XT.i0_lt_f hlo) ?_
  refine ow_iloadN (q := 5) X0 hx (hb hby own_d18_4) rfl rfl ?_
  refine ow_iloadN (q := 6) X0 hx (hb hby own_d18_5) rfl rfl ?_
  refine ow_icmpYes (q := 16) X0 hx (hb hby own_d18_6) (Jvm.Free.XT.ii_lt_t hhi) (by decide) (by decide) ?_
  refine ow_iloadN (q := 17) X0 hx (hb hby own_d18_16) rfl rfl ?_
  refine ownRetI X0 hx Bd.returns (hb hby own_d18_17) hlk (by decide) (by decide) ?_
  rw [e0]
  exact ⟨rfl, N0, rfl⟩
theorem own_d17_0 : decode jdk_42_method_155_code 0 = .ok (.iload_n 0, 1) := by decide +kernel
theorem own_d17_1 : decode jdk_42_method_155_code 1 = .ok (.iload_n 1, 1) := by decide +kernel
theorem own_d17_2 : decode jdk_42_method_155_code 2 = .ok (.getstatic 1053, 3) := by decide +kernel
theorem own_d17_5 : decode jdk_42_method_155_code 5 = .ok (.invokestatic 1059, 3) := by decide +kernel
theorem own_pd1 : parseMethodDescriptor "(IILjava/util/function/BiFunction;)I" = some ⟨[.int, .int, (.object "java/util/function/BiFunction")], some .int⟩ := by decide +kernel
theorem own_d17_8 : decode jdk_42_method_155_code 8 = .ok (.pop, 1) := by decide +kernel
theorem own_d17_9 : decode jdk_42_method_155_code 9 = .ok (.return_, 1) := by decide +kernel
theorem own_ef17_scheck (m : MethodId) (p0 : Int32) (p1 : Int32) : entryFrame m #[(.int p0), (.int p1)] 2 = mkF m 0 #[iv p0, iv p1] [] := by first | (simp [entryFrame, mkF, argsToLocals, Value.category]; done) | rfl
def Q_scheck (Z : State) (p0 : Int32) (p1 : Int32) (fm : Value) (h0 : Heap) (n0 : Nat) (v : Option Value) (h : Heap) (L : List Loc) : Prop := v = none ∧ Fr n0 L ∧ h = h0
set_option maxRecDepth 65536 in
set_option maxHeartbeats 40000000 in
theorem rm_scheck (l : Launch) (Z : State) (av0 : Array Value) (hw : ∀ d ∈ tables_1, d.before av0 Z = true) (ws : List Jvm.Cond) (p0 : Int32) (p1 : Int32) (fm : Value) (h0 : Heap) (n0 : Nat) (Z0 : n0 ≤ h0.size) (HF0 : Sta Z h0 "jdk/internal/util/Preconditions" "SIOOBE_FORMATTER" "Ljava/util/function/BiFunction;" fm) (hlo : ¬ p0 < (0 : Int32)) (hhi : p0 < p1) (hr_fm : fm.isRef = true) :
    MetFree l (⟨"java/lang/String", "checkIndex", "(II)V"⟩ : MethodName) (head1 (Jvm.Cond.code (⟨"java/lang/String", "checkIndex", "(II)V"⟩ : MethodName) jdk_42_method_155_code 2 none :: ws) ({ frames := 1, cells := 0, slots := 0, locals := 14 } : Room)) (fun a U => a = #[(.int p0), (.int p1)] ∧ Z.Warmed39 U.vm ∧ U.heap = h0) (fun _ _ _ _ _ => True) (fun _ U o U' => ∃ v L, o = .returned v ∧ (Q_scheck Z p0 p1 fm h0 n0) v U'.heap L ∧ FrameEnd U o U' L ({ frames := 1, cells := 0, slots := 0, locals := 14 } : Room).cells ({ frames := 1, cells := 0, slots := 0, locals := 14 } : Room).slots) := by
  refine MetFree.of_bodySF (plainFor_of_name own_pn_String) hisR ?_
  intro p e s m args below meth c s₁ Bd hml0 hP hK
  obtain ⟨rfl, hZ, hh⟩ := hP
  have hx := Bd.exec
  have hby := Bd.bytes
  have hml : c.maxLocals = 2 := hml0
  have hown : s.vm.findClass "java/lang/String" = some m.cls := findClass_of_methodNamed Bd.named
  have hnm := (name_of_methodNamed Bd.named Bd.method).1
  have hlk : meth.locks = false := BodyLoose.notSynchronized Bd
  have X0 : Stand p l e ({ frames := 1, cells := 0, slots := 0, locals := 14 } : Room) s m #[(.int p0), (.int p1)] below meth c s₁ [] 0 0 := Stand.of_body Bd
  have e0 : s₁.heap = h0 := by rw [← hh, Bd.state]; rfl
  have N0 := Fr.nil n0
  have K0 : Keep h0 h0 [] := Keep.refl _ _
  have ww : ∀ (k : Nat) {d : Jvm.Cond}, tables_1[k]? = some d → d.before av0 Z = true := fun k d h => hw d (List.mem_of_getElem? h)
  show ownEnds p e below s (Q_scheck Z p0 p1 fm h0 n0) ({ frames := 1, cells := 0, slots := 0, locals := 14 } : Room).cells ({ frames := 1, cells := 0, slots := 0, locals := 14 } : Room).slots s₁ (entryFrame m #[(.int p0), (.int p1)] 2)
  refine ownCast (own_ef17_scheck m p0 p1) ?_
  refine ow_iloadN (q := 1) X0 hx (hb hby own_d17_0) rfl rfl ?_
  refine ow_iloadN (q := 2) X0 hx (hb hby own_d17_1) rfl rfl ?_
  obtain ⟨T1, X1, e1, st1⟩ := getS2 X0 hx hZ hown (host := "") (Or.inl (ww 81 rfl)) Via.refl e0 HF0 (g := (mkF m 2 #[iv p0, iv p1] [(.int p1), (.int p0)])) rfl (hb hby own_d17_2)
  refine ownGo (T' := T1) (f' := (mkF m 5 #[iv p0, iv p1] [fm, (.int p1), (.int p0)])) (st1) ?_
  obtain ⟨_, _, ⟨T2, L2, k2, n2⟩, -, X2, ⟨Lc2, hQ2, l2, y2, z2⟩, st2⟩ := Jvm.LawKit.callS X1 hx (y := (⟨"jdk/internal/util/Preconditions", "checkIndex", "(IILjava/util/function/BiFunction;)I"⟩ : MethodName)) hown (mvT hZ (ww 83 rfl)) (mvT hZ (ww 84 rfl)) (mvT hZ (ww 82 rfl)) (mvT hZ (ww 85 rfl)) (by decide) (backOf (W := 0) (rm_pcheck l Z av0 hw [] p0 p1 fm h0 n0 (Nat.le_trans Z0 K0.1) hlo hhi hr_fm) hZ (ww 85 rfl) (ww 82 rfl) (by decide) (by decide)) (g := (mkF m 5 #[iv p0, iv p1] [fm, (.int p1), (.int p0)])) rfl (by rw [hml]; rfl) (argsL := [(.int p0), (.int p1), fm]) (rest := []) (lenOf own_pd1 rfl) rfl (by show 2 * 0 + _ ≤ _; exact Nat.le_of_eq rfl) (hb hby own_d17_5) (fun _ _ => ⟨rfl, e1, (by decide : 0 + 0 ≤ _), (by decide : 0 + 0 ≤ _)⟩)
  dsimp only [Pt.U, Pt.locs, Pt.cells, Pt.slots] at X2 l2 y2 z2 st2 hQ2
  subst l2 y2 z2
  obtain ⟨rfl, N2q, e2⟩ := hQ2
  have N2 := Fr.app N0 N2q
  refine ownGo (T' := T2) (f' := (mkF m 8 #[iv p0, iv p1] [(.int p0)])) (st2) ?_
  refine ow_pop (q := 9) X2 hx (hb hby own_d17_8) rfl rfl ?_
  refine ownRetV X2 hx Bd.returns (hb hby own_d17_9) hlk (by decide) (by decide) ?_
  rw [e2]
  exact ⟨rfl, N2, rfl⟩
theorem own_pn_Objects : plainName "java/util/Objects" = true := by first | (simp [plainName, overriddenIn]; done) | decide +kernel
theorem own_d10_0 : decode jdk_31_method_11_code 0 = .ok (.aload_n 0, 1) := by decide +kernel
theorem own_d10_1 : decode jdk_31_method_11_code 1 = .ok (.ifnonnull 12, 3) := by decide +kernel
theorem own_d10_13 : decode jdk_31_method_11_code 13 = .ok (.aload_n 0, 1) := by decide +kernel
theorem own_d10_14 : decode jdk_31_method_11_code 14 = .ok (.areturn, 1) := by decide +kernel
theorem own_ef10_rnn (m : MethodId) (ro : Addr) (rg : Addr) : entryFrame m #[(.ref ro), (.ref rg)] 2 = mkF m 0 #[rv ro, rv rg] [] := by first | (simp [entryFrame, mkF, argsToLocals, Value.category]; done) | rfl
def Q_rnn (Z : State) (ro : Addr) (rg : Addr) (h0 : Heap) (n0 : Nat) (v : Option Value) (h : Heap) (L : List Loc) : Prop := v = some (.ref ro) ∧ Fr n0 L ∧ h = h0
set_option maxRecDepth 65536 in
set_option maxHeartbeats 40000000 in
theorem rm_rnn (l : Launch) (Z : State) (av0 : Array Value) (hw : ∀ d ∈ tables_1, d.before av0 Z = true) (ws : List Jvm.Cond) (ro : Addr) (rg : Addr) (h0 : Heap) (n0 : Nat) (Z0 : n0 ≤ h0.size) :
    MetFree l (⟨"java/util/Objects", "requireNonNull", "(Ljava/lang/Object;Ljava/lang/String;)Ljava/lang/Object;"⟩ : MethodName) (head1 (Jvm.Cond.code (⟨"java/util/Objects", "requireNonNull", "(Ljava/lang/Object;Ljava/lang/String;)Ljava/lang/Object;"⟩ : MethodName) jdk_31_method_11_code 2 (some (.object "java/lang/Object")) :: ws) ({ frames := 0, cells := 0, slots := 0, locals := 0 } : Room)) (fun a U => a = #[(.ref ro), (.ref rg)] ∧ Z.Warmed39 U.vm ∧ U.heap = h0) (fun _ _ _ _ _ => True) (fun _ U o U' => ∃ v L, o = .returned v ∧ (Q_rnn Z ro rg h0 n0) v U'.heap L ∧ FrameEnd U o U' L ({ frames := 0, cells := 0, slots := 0, locals := 0 } : Room).cells ({ frames := 0, cells := 0, slots := 0, locals := 0 } : Room).slots) := by
  refine MetFree.of_bodySF (plainFor_of_name own_pn_Objects) hisR ?_
  intro p e s m args below meth c s₁ Bd hml0 hP hK
  obtain ⟨rfl, hZ, hh⟩ := hP
  have hx := Bd.exec
  have hby := Bd.bytes
  have hml : c.maxLocals = 2 := hml0
  have hown : s.vm.findClass "java/util/Objects" = some m.cls := findClass_of_methodNamed Bd.named
  have hnm := (name_of_methodNamed Bd.named Bd.method).1
  have hlk : meth.locks = false := BodyLoose.notSynchronized Bd
  have X0 : Stand p l e ({ frames := 0, cells := 0, slots := 0, locals := 0 } : Room) s m #[(.ref ro), (.ref rg)] below meth c s₁ [] 0 0 := Stand.of_body Bd
  have e0 : s₁.heap = h0 := by rw [← hh, Bd.state]; rfl
  have N0 := Fr.nil n0
  have K0 : Keep h0 h0 [] := Keep.refl _ _
  have ww : ∀ (k : Nat) {d : Jvm.Cond}, tables_1[k]? = some d → d.before av0 Z = true := fun k d h => hw d (List.mem_of_getElem? h)
  show ownEnds p e below s (Q_rnn Z ro rg h0 n0) ({ frames := 0, cells := 0, slots := 0, locals := 0 } : Room).cells ({ frames := 0, cells := 0, slots := 0, locals := 0 } : Room).slots s₁ (entryFrame m #[(.ref ro), (.ref rg)] 2)
  refine ownCast (own_ef10_rnn m ro rg) ?_
  refine ow_aloadN (q := 1) X0 hx (hb hby own_d10_0) rfl rfl rfl ?_
  refine ownGo (T' := s₁) (f' := (mkF m 13 #[rv ro, rv rg] [])) (fun _ k => XS.ifnonnullYes X0.here hx rfl (pc0 := 1) (pc' := 13) rfl (hb hby own_d10_1) rfl (by decide) (by decide) k) ?_
  refine ow_aloadN (q := 14) X0 hx (hb hby own_d10_13) rfl rfl rfl ?_
  refine ownRetR X0 hx rfl rfl rfl Bd.returns (hb hby own_d10_14) hlk (by decide) (by decide) ?_
  rw [e0]
  exact ⟨rfl, N0, rfl⟩
theorem own_d11_0 : decode jdk_42_method_55_code 0 = .ok (.aload_n 0, 1) := by decide +kernel
theorem own_d11_1 : decode jdk_42_method_55_code 1 = .ok (.getfield 9, 3) := by decide +kernel
theorem own_d11_4 : decode jdk_42_method_55_code 4 = .ok (.arraylength, 1) := by decide +kernel
theorem own_d11_5 : decode jdk_42_method_55_code 5 = .ok (.ifCond .ne 7, 3) := by decide +kernel
theorem own_d11_12 : decode jdk_42_method_55_code 12 = .ok (.iconst 0, 1) := by decide +kernel
theorem own_d11_13 : decode jdk_42_method_55_code 13 = .ok (.ireturn, 1) := by decide +kernel
theorem own_ef11_isEmpty1 (m : MethodId) (sx : Addr) : entryFrame m #[(.ref sx)] 1 = mkF m 0 #[rv sx] [] := by first | (simp [entryFrame, mkF, argsToLocals, Value.category]; done) | rfl
def Q_isEmpty1 (Z : State) (sx : Addr) (t : Addr) (gb : Nat → Int32) (h0 : Heap) (n0 : Nat) (v : Option Value) (h : Heap) (L : List Loc) : Prop := v = some (.int (0 : Int32)) ∧ Fr n0 L ∧ h = h0
set_option maxRecDepth 65536 in
set_option maxHeartbeats 40000000 in
theorem rm_isEmpty1 (l : Launch) (Z : State) (av0 : Array Value) (hw : ∀ d ∈ tables_1, d.before av0 Z = true) (ws : List Jvm.Cond) (sx : Addr) (t : Addr) (gb : Nat → Int32) (h0 : Heap) (n0 : Nat) (Z0 : n0 ≤ h0.size) (HF0 : Fld Z h0 sx "java/lang/String" "value" "[B" (.ref t)) (HF1 : ownAI Z h0 t .byte 1 gb) :
    MetFree l (⟨"java/lang/String", "isEmpty", "()Z"⟩ : MethodName) (head1 (Jvm.Cond.code (⟨"java/lang/String", "isEmpty", "()Z"⟩ : MethodName) jdk_42_method_55_code 1 (some .boolean) :: ws) ({ frames := 0, cells := 0, slots := 0, locals := 0 } : Room)) (fun a U => a = #[(.ref sx)] ∧ Z.Warmed39 U.vm ∧ U.heap = h0) (fun _ _ _ _ _ => True) (fun _ U o U' => ∃ v L, o = .returned v ∧ (Q_isEmpty1 Z sx t gb h0 n0) v U'.heap L ∧ FrameEnd U o U' L ({ frames := 0, cells := 0, slots := 0, locals := 0 } : Room).cells ({ frames := 0, cells := 0, slots := 0, locals := 0 } : Room).slots) := by
  refine MetFree.of_bodySF (plainFor_of_name own_pn_String) hisR ?_
  intro p e s m args below meth c s₁ Bd hml0 hP hK
  obtain ⟨rfl, hZ, hh⟩ := hP
  have hx := Bd.exec
  have hby := Bd.bytes
  have hml : c.maxLocals = 1 := hml0
  have hown : s.vm.findClass "java/lang/String" = some m.cls := findClass_of_methodNamed Bd.named
  have hnm := (name_of_methodNamed Bd.named Bd.method).1
  have hlk : meth.locks = false := BodyLoose.notSynchronized Bd
  have X0 : Stand p l e ({ frames := 0, cells := 0, slots := 0, locals := 0 } : Room) s m #[(.ref sx)] below meth c s₁ [] 0 0 := Stand.of_body Bd
  have e0 : s₁.heap = h0 := by rw [← hh, Bd.state]; rfl
  have N0 := Fr.nil n0
  have K0 : Keep h0 h0 [] := Keep.refl _ _
  have ww : ∀ (k : Nat) {d : Jvm.Cond}, tables_1[k]? = some d → d.before av0 Z = true := fun k d h => hw d (List.mem_of_getElem? h)
  show ownEnds p e below s (Q_isEmpty1 Z sx t gb h0 n0) ({ frames := 0, cells := 0, slots := 0, locals := 0 } : Room).cells ({ frames := 0, cells := 0, slots := 0, locals := 0 } : Room).slots s₁ (entryFrame m #[(.ref sx)] 1)
  refine ownCast (own_ef11_isEmpty1 m sx) ?_
  refine ow_aloadN (q := 1) X0 hx (hb hby own_d11_0) rfl rfl rfl ?_
  obtain ⟨T1, X1, e1, st1⟩ := getF X0 hx hZ hown (host := "") (Or.inl (ww 36 rfl)) Via.refl e0 HF0 (g := (mkF m 1 #[rv sx] [(.ref sx)])) rfl rfl (hb hby own_d11_1)
  refine ownGo (T' := T1) (f' := (mkF m 4 #[rv sx] [(.ref t)])) (st1) ?_
  refine ownGo (T' := T1) (f' := (mkF m 5 #[rv sx] [(.int (1 : Int32))])) (ownLenI HF1 X1 hx hZ e1 (z := (1 : Int32)) (by decide) (g := (mkF m 4 #[rv sx] [(.ref t)])) rfl rfl (hb hby own_d11_4)) ?_
  refine ow_ifYes (q := 12) X1 hx (hb hby own_d11_5) (Jvm.Free.XT.i0_ne_t (by decide)) (by decide) (by decide) ?_
  refine ow_iconst (q := 13) X1 hx (0 : Int32) (hb hby own_d11_12) rfl rfl ?_
  refine ownRetN X1 hx (r := (0 : Int32)) (Or.inl rfl) Bd.returns (hb hby own_d11_13) hlk (by decide) (by decide) (by decide) ?_
  rw [e1]
  exact ⟨rfl, N0, rfl⟩
theorem own_d12_0 : decode jdk_42_method_54_code 0 = .ok (.aload_n 0, 1) := by decide +kernel
theorem own_d12_1 : decode jdk_42_method_54_code 1 = .ok (.getfield 9, 3) := by decide +kernel
theorem own_d12_4 : decode jdk_42_method_54_code 4 = .ok (.arraylength, 1) := by decide +kernel
theorem own_d12_5 : decode jdk_42_method_54_code 5 = .ok (.aload_n 0, 1) := by decide +kernel
theorem own_d12_6 : decode jdk_42_method_54_code 6 = .ok (.invokevirtual 335, 3) := by decide +kernel
theorem own_pd2 : parseMethodDescriptor "()B" = some ⟨[], some .byte⟩ := by decide +kernel
theorem own_d12_9 : decode jdk_42_method_54_code 9 = .ok (.ishr, 1) := by decide +kernel
theorem own_d12_10 : decode jdk_42_method_54_code 10 = .ok (.ireturn, 1) := by decide +kernel
theorem own_ef12_length1 (m : MethodId) (sx : Addr) : entryFrame m #[(.ref sx)] 1 = mkF m 0 #[rv sx] [] := by first | (simp [entryFrame, mkF, argsToLocals, Value.category]; done) | rfl
def Q_length1 (Z : State) (sx : Addr) (t : Addr) (gb : Nat → Int32) (zc : Int32) (h0 : Heap) (n0 : Nat) (v : Option Value) (h : Heap) (L : List Loc) : Prop := v = some (.int (1 : Int32)) ∧ Fr n0 L ∧ h = h0
set_option maxRecDepth 65536 in
set_option maxHeartbeats 40000000 in
theorem rm_length1 (l : Launch) (Z : State) (av0 : Array Value) (hw : ∀ d ∈ tables_1, d.before av0 Z = true) (ws : List Jvm.Cond) (sx : Addr) (t : Addr) (gb : Nat → Int32) (zc : Int32) (h0 : Heap) (n0 : Nat) (Z0 : n0 ≤ h0.size) (HF0 : Exa Z h0 sx "java/lang/String") (HF1 : Fld Z h0 sx "java/lang/String" "value" "[B" (.ref t)) (HF2 : Fld Z h0 sx "java/lang/String" "coder" "B" (.int (0 : Int32))) (HF3 : ownAI Z h0 t .byte 1 gb) (HF4 : Sta Z h0 "java/lang/String" "COMPACT_STRINGS" "Z" (.int zc)) (hz : ¬ zc = (0 : Int32)) :
    MetFree l (⟨"java/lang/String", "length", "()I"⟩ : MethodName) (head1 (Jvm.Cond.code (⟨"java/lang/String", "length", "()I"⟩ : MethodName) jdk_42_method_54_code 1 (some .int) :: ws) ({ frames := 1, cells := 0, slots := 0, locals := 13 } : Room)) (fun a U => a = #[(.ref sx)] ∧ Z.Warmed39 U.vm ∧ U.heap = h0) (fun _ _ _ _ _ => True) (fun _ U o U' => ∃ v L, o = .returned v ∧ (Q_length1 Z sx t gb zc h0 n0) v U'.heap L ∧ FrameEnd U o U' L ({ frames := 1, cells := 0, slots := 0, locals := 13 } : Room).cells ({ frames := 1, cells := 0, slots := 0, locals := 13 } : Room).slots) := by
  refine MetFree.of_bodySF (plainFor_of_name own_pn_String) hisR ?_
  intro p e s m args below meth c s₁ Bd hml0 hP hK
  obtain ⟨rfl, hZ, hh⟩ := hP
  have hx := Bd.exec
  have hby := Bd.bytes
  have hml : c.maxLocals = 1 := hml0
  have hown : s.vm.findClass "java/lang/String" = some m.cls := findClass_of_methodNamed Bd.named
  have hnm := (name_of_methodNamed Bd.named Bd.method).1
  have hlk : meth.locks = false := BodyLoose.notSynchronized Bd
  have X0 : Stand p l e ({ frames := 1, cells := 0, slots := 0, locals := 13 } : Room) s m #[(.ref sx)] below meth c s₁ [] 0 0 := Stand.of_body Bd
  have e0 : s₁.heap = h0 := by rw [← hh, Bd.state]; rfl
  have N0 := Fr.nil n0
  have K0 : Keep h0 h0 [] := Keep.refl _ _
  have ww : ∀ (k : Nat) {d : Jvm.Cond}, tables_1[k]? = some d → d.before av0 Z = true := fun k d h => hw d (List.mem_of_getElem? h)
  show ownEnds p e below s (Q_length1 Z sx t gb zc h0 n0) ({ frames := 1, cells := 0, slots := 0, locals := 13 } : Room).cells ({ frames := 1, cells := 0, slots := 0, locals := 13 } : Room).slots s₁ (entryFrame m #[(.ref sx)] 1)
  refine ownCast (own_ef12_length1 m sx) ?_
  refine ow_aloadN (q := 1) X0 hx (hb hby own_d12_0) rfl rfl rfl ?_
  obtain ⟨T1, X1, e1, st1⟩ := getF X0 hx hZ hown (host := "") (Or.inl (ww 36 rfl)) Via.refl e0 HF1 (g := (mkF m 1 #[rv sx] [(.ref sx)])) rfl rfl (hb hby own_d12_1)
  refine ownGo (T' := T1) (f' := (mkF m 4 #[rv sx] [(.ref t)])) (st1) ?_
  refine ownGo (T' := T1) (f' := (mkF m 5 #[rv sx] [(.int (1 : Int32))])) (ownLenI HF3 X1 hx hZ e1 (z := (1 : Int32)) (by decide) (g := (mkF m 4 #[rv sx] [(.ref t)])) rfl rfl (hb hby own_d12_4)) ?_
  refine ow_aloadN (q := 6) X1 hx (hb hby own_d12_5) rfl rfl rfl ?_
  obtain ⟨cq2, kq2, q2a, q2b, q2c⟩ := isOf hZ e1 HF0
  obtain ⟨_, _, ⟨T2, L2, k2, n2⟩, -, X2, ⟨Lc2, hQ2, l2, y2, z2⟩, st2⟩ := X1.virtualBack hx (y := (⟨"java/lang/String", "coder", "()B"⟩ : MethodName)) (z := (⟨"java/lang/String", "coder", "()B"⟩ : MethodName)) hown (mvT hZ (ww 59 rfl)) (mvT hZ (ww 60 rfl)) (notFace_of_selects (args := #[]) (mvT hZ (ww 62 rfl))) (mvT hZ (ww 62 rfl)) (mvT hZ (ww 61 rfl)) (by decide) (backOf (W := 1) (rm_coder l Z av0 hw [] sx zc h0 n0 (Nat.le_trans Z0 K0.1) HF2 HF4 hz) hZ (ww 63 rfl) (ww 11 rfl) (by decide) (by decide)) q2a q2c (g := (mkF m 6 #[rv sx] [(.ref sx), (.int (1 : Int32))])) rfl (by rw [hml]; rfl) (Steps.refl _) (argsL := []) (rest := [(.int (1 : Int32))]) (lenOf own_pd2 rfl) rfl (by show 2 * 0 + _ ≤ _; exact Nat.le_of_eq rfl) (hb hby own_d12_6) (fun _ _ => ⟨rfl, e1, (by decide : 0 + 0 ≤ _), (by decide : 0 + 0 ≤ _)⟩)
  dsimp only [Pt.U, Pt.locs, Pt.cells, Pt.slots] at X2 l2 y2 z2 st2 hQ2
  subst l2 y2 z2
  obtain ⟨rfl, N2q, e2⟩ := hQ2
  have N2 := Fr.app N0 N2q
  refine ownRun (T' := T2) (f' := (mkF m 9 #[rv sx] [(.int (0 : Int32)), (.int (1 : Int32))])) st2 ?_
  refine ow_ishr (q := 10) X2 hx (1 : Int32) (hb hby own_d12_9) rfl (by decide) ?_
  refine ownRetI X2 hx Bd.returns (hb hby own_d12_10) hlk (by decide) (by decide) ?_
  rw [e2]
  exact ⟨rfl, N2, rfl⟩
theorem own_pn_StringLatin1 : plainName "java/lang/StringLatin1" = true := by first | (simp [plainName, overriddenIn]; done) | decide +kernel
theorem own_d16_0 : decode jdk_43_method_2_code 0 = .ok (.iload_n 1, 1) := by decide +kernel
theorem own_d16_1 : decode jdk_43_method_2_code 1 = .ok (.aload_n 0, 1) := by decide +kernel
theorem own_d16_2 : decode jdk_43_method_2_code 2 = .ok (.arraylength, 1) := by decide +kernel
theorem own_d16_3 : decode jdk_43_method_2_code 3 = .ok (.invokestatic 9, 3) := by decide +kernel
theorem own_pd3 : parseMethodDescriptor "(II)V" = some ⟨[.int, .int], none⟩ := by decide +kernel
theorem own_d16_6 : decode jdk_43_method_2_code 6 = .ok (.aload_n 0, 1) := by decide +kernel
theorem own_d16_7 : decode jdk_43_method_2_code 7 = .ok (.iload_n 1, 1) := by decide +kernel
theorem own_d16_8 : decode jdk_43_method_2_code 8 = .ok (.baload, 1) := by decide +kernel
theorem own_d16_9 : decode jdk_43_method_2_code 9 = .ok (.sipush 255, 3) := by decide +kernel
theorem own_d16_12 : decode jdk_43_method_2_code 12 = .ok (.iand, 1) := by decide +kernel
theorem own_d16_13 : decode jdk_43_method_2_code 13 = .ok (.i2c, 1) := by decide +kernel
theorem own_d16_14 : decode jdk_43_method_2_code 14 = .ok (.ireturn, 1) := by decide +kernel
theorem own_ef16_lat1 (m : MethodId) (t : Addr) (p1 : Int32) : entryFrame m #[(.ref t), (.int p1)] 2 = mkF m 0 #[rv t, iv p1] [] := by first | (simp [entryFrame, mkF, argsToLocals, Value.category]; done) | rfl
def Q_lat1 (Z : State) (t : Addr) (p1 : Int32) (gb : Nat → Int32) (fm : Value) (h0 : Heap) (n0 : Nat) (v : Option Value) (h : Heap) (L : List Loc) : Prop := ∃ (r : Int32), v = some (.int r) ∧ Fr n0 L ∧ h = h0 ∧ (own_okb r = true)
set_option maxRecDepth 65536 in
set_option maxHeartbeats 40000000 in
theorem rm_lat1 (l : Launch) (Z : State) (av0 : Array Value) (hw : ∀ d ∈ tables_1, d.before av0 Z = true) (ws : List Jvm.Cond) (t : Addr) (p1 : Int32) (gb : Nat → Int32) (fm : Value) (h0 : Heap) (n0 : Nat) (Z0 : n0 ≤ h0.size) (HF0 : ownAI Z h0 t .byte 1 gb) (HF1 : Sta Z h0 "jdk/internal/util/Preconditions" "SIOOBE_FORMATTER" "Ljava/util/function/BiFunction;" fm) (hlo : ¬ p1 < (0 : Int32)) (hhi : p1 < (1 : Int32)) (hr_fm : fm.isRef = true) (hok : ∀ k, k < 1 → own_okb (gb k) = true) :
    MetFree l (⟨"java/lang/StringLatin1", "charAt", "([BI)C"⟩ : MethodName) (head1 (Jvm.Cond.code (⟨"java/lang/StringLatin1", "charAt", "([BI)C"⟩ : MethodName) jdk_43_method_2_code 2 (some .char) :: ws) ({ frames := 2, cells := 0, slots := 0, locals := 27 } : Room)) (fun a U => a = #[(.ref t), (.int p1)] ∧ Z.Warmed39 U.vm ∧ U.heap = h0) (fun _ _ _ _ _ => True) (fun _ U o U' => ∃ v L, o = .returned v ∧ (Q_lat1 Z t p1 gb fm h0 n0) v U'.heap L ∧ FrameEnd U o U' L ({ frames := 2, cells := 0, slots := 0, locals := 27 } : Room).cells ({ frames := 2, cells := 0, slots := 0, locals := 27 } : Room).slots) := by
  refine MetFree.of_bodySF (plainFor_of_name own_pn_StringLatin1) hisR ?_
  intro p e s m args below meth c s₁ Bd hml0 hP hK
  obtain ⟨rfl, hZ, hh⟩ := hP
  have hx := Bd.exec
  have hby := Bd.bytes
  have hml : c.maxLocals = 2 := hml0
  have hown : s.vm.findClass "java/lang/StringLatin1" = some m.cls := findClass_of_methodNamed Bd.named
  have hnm := (name_of_methodNamed Bd.named Bd.method).1
  have hlk : meth.locks = false := BodyLoose.notSynchronized Bd
  have X0 : Stand p l e ({ frames := 2, cells := 0, slots := 0, locals := 27 } : Room) s m #[(.ref t), (.int p1)] below meth c s₁ [] 0 0 := Stand.of_body Bd
  have e0 : s₁.heap = h0 := by rw [← hh, Bd.state]; rfl
  have N0 := Fr.nil n0
  have K0 : Keep h0 h0 [] := Keep.refl _ _
  have ww : ∀ (k : Nat) {d : Jvm.Cond}, tables_1[k]? = some d → d.before av0 Z = true := fun k d h => hw d (List.mem_of_getElem? h)
  show ownEnds p e below s (Q_lat1 Z t p1 gb fm h0 n0) ({ frames := 2, cells := 0, slots := 0, locals := 27 } : Room).cells ({ frames := 2, cells := 0, slots := 0, locals := 27 } : Room).slots s₁ (entryFrame m #[(.ref t), (.int p1)] 2)
  refine ownCast (own_ef16_lat1 m t p1) ?_
  refine ow_iloadN (q := 1) X0 hx (hb hby own_d16_0) rfl rfl ?_
  refine ow_aloadN (q := 2) X0 hx (hb hby own_d16_1) rfl rfl rfl ?_
  refine ownGo (T' := s₁) (f' := (mkF m 3 #[rv t, iv p1] [(.int (1 : Int32)), (.int p1)])) (ownLenI HF0 X0 hx hZ e0 (z := (1 : Int32)) (by decide) (g := (mkF m 2 #[rv t, iv p1] [(.ref t), (.int p1)])) rfl rfl (hb hby own_d16_2)) ?_
  obtain ⟨_, _, ⟨T1, L1, k1, n1⟩, -, X1, ⟨Lc1, hQ1, l1, y1, z1⟩, st1⟩ := Jvm.LawKit.callS X0 hx (y := (⟨"java/lang/String", "checkIndex", "(II)V"⟩ : MethodName)) hown (mvT hZ (ww 78 rfl)) (mvT hZ (ww 79 rfl)) (mvT hZ (ww 11 rfl)) (mvT hZ (ww 80 rfl)) (by decide) (backOf (W := 0) (rm_scheck l Z av0 hw [] p1 (1 : Int32) fm h0 n0 (Nat.le_trans Z0 K0.1) HF1 hlo hhi hr_fm) hZ (ww 80 rfl) (ww 11 rfl) (by decide) (by decide)) (g := (mkF m 3 #[rv t, iv p1] [(.int (1 : Int32)), (.int p1)])) rfl (by rw [hml]; rfl) (argsL := [(.int p1), (.int (1 : Int32))]) (rest := []) (lenOf own_pd3 rfl) rfl (by show 2 * 0 + _ ≤ _; exact Nat.le_of_eq rfl) (hb hby own_d16_3) (fun _ _ => ⟨rfl, e0, (by decide : 0 + 0 ≤ _), (by decide : 0 + 0 ≤ _)⟩)
  dsimp only [Pt.U, Pt.locs, Pt.cells, Pt.slots] at X1 l1 y1 z1 st1 hQ1
  subst l1 y1 z1
  obtain ⟨rfl, N1q, e1⟩ := hQ1
  have N1 := Fr.app N0 N1q
  refine ownGo (T' := T1) (f' := (mkF m 6 #[rv t, iv p1] [])) (st1) ?_
  refine ow_aloadN (q := 7) X1 hx (hb hby own_d16_6) rfl rfl rfl ?_
  refine ow_iloadN (q := 8) X1 hx (hb hby own_d16_7) rfl rfl ?_
  refine ownGo (T' := T1) (f' := (mkF m 9 #[rv t, iv p1] [(.int (gb p1.toNatClampNeg))])) (ownBaload HF0 X1 hx hZ e1 (j := p1) (own_in hlo hhi rfl) (g := (mkF m 8 #[rv t, iv p1] [(.int p1), (.ref t)])) rfl rfl (hb hby own_d16_8)) ?_
  generalize hv_v2 : (gb p1.toNatClampNeg) = v2
  refine ow_sipush (q := 12) X1 hx (255 : Int32) (hb hby own_d16_9) rfl rfl ?_
  refine ow_iand (q := 13) X1 hx _ (hb hby own_d16_12) rfl rfl ?_
  refine ow_i2c (q := 14) X1 hx _ (hb hby own_d16_13) rfl rfl ?_
  refine ownRetN X1 hx (r := v2) (Or.inr (Or.inr (Or.inl rfl))) Bd.returns (hb hby own_d16_14) hlk (by decide) (by decide) (own_ch (own_okv hv_v2 (hok _ (own_in2 hlo hhi rfl)))) ?_
  rw [e1]
  refine ⟨v2, rfl, N1, rfl, ?_⟩
  exact own_okv hv_v2 (hok _ (own_in2 hlo hhi rfl))
theorem own_d14_0 : decode jdk_42_method_56_code 0 = .ok (.aload_n 0, 1) := by decide +kernel
theorem own_d14_1 : decode jdk_42_method_56_code 1 = .ok (.invokevirtual 492, 3) := by decide +kernel
theorem own_pd4 : parseMethodDescriptor "()Z" = some ⟨[], some .boolean⟩ := by decide +kernel
theorem own_d14_4 : decode jdk_42_method_56_code 4 = .ok (.ifCond .eq 12, 3) := by decide +kernel
theorem own_d14_7 : decode jdk_42_method_56_code 7 = .ok (.aload_n 0, 1) := by decide +kernel
theorem own_d14_8 : decode jdk_42_method_56_code 8 = .ok (.getfield 9, 3) := by decide +kernel
theorem own_d14_11 : decode jdk_42_method_56_code 11 = .ok (.iload_n 1, 1) := by decide +kernel
theorem own_d14_12 : decode jdk_42_method_56_code 12 = .ok (.invokestatic 495, 3) := by decide +kernel
theorem own_pd5 : parseMethodDescriptor "([BI)C" = some ⟨[(.array .byte), .int], some .char⟩ := by decide +kernel
theorem own_d14_15 : decode jdk_42_method_56_code 15 = .ok (.ireturn, 1) := by decide +kernel
theorem own_ef14_charAt1 (m : MethodId) (sx : Addr) (p1 : Int32) : entryFrame m #[(.ref sx), (.int p1)] 2 = mkF m 0 #[rv sx, iv p1] [] := by first | (simp [entryFrame, mkF, argsToLocals, Value.category]; done) | rfl
def Q_charAt1 (Z : State) (sx : Addr) (p1 : Int32) (t : Addr) (gb : Nat → Int32) (zc : Int32) (fm : Value) (h0 : Heap) (n0 : Nat) (v : Option Value) (h : Heap) (L : List Loc) : Prop := ∃ (r : Int32), v = some (.int r) ∧ Fr n0 L ∧ h = h0 ∧ (own_okb r = true)
set_option maxRecDepth 65536 in
set_option maxHeartbeats 40000000 in
theorem rm_charAt1 (l : Launch) (Z : State) (av0 : Array Value) (hw : ∀ d ∈ tables_1, d.before av0 Z = true) (ws : List Jvm.Cond) (sx : Addr) (p1 : Int32) (t : Addr) (gb : Nat → Int32) (zc : Int32) (fm : Value) (h0 : Heap) (n0 : Nat) (Z0 : n0 ≤ h0.size) (HF0 : Exa Z h0 sx "java/lang/String") (HF1 : Fld Z h0 sx "java/lang/String" "value" "[B" (.ref t)) (HF2 : Fld Z h0 sx "java/lang/String" "coder" "B" (.int (0 : Int32))) (HF3 : ownAI Z h0 t .byte 1 gb) (HF4 : Sta Z h0 "java/lang/String" "COMPACT_STRINGS" "Z" (.int zc)) (HF5 : Sta Z h0 "jdk/internal/util/Preconditions" "SIOOBE_FORMATTER" "Ljava/util/function/BiFunction;" fm) (hlo : ¬ p1 < (0 : Int32)) (hhi : p1 < (1 : Int32)) (hz : ¬ zc = (0 : Int32)) (hr_fm : fm.isRef = true) (hok : ∀ k, k < 1 → own_okb (gb k) = true) :
    MetFree l (⟨"java/lang/String", "charAt", "(I)C"⟩ : MethodName) (head1 (Jvm.Cond.code (⟨"java/lang/String", "charAt", "(I)C"⟩ : MethodName) jdk_42_method_56_code 2 (some .char) :: ws) ({ frames := 3, cells := 0, slots := 0, locals := 40 } : Room)) (fun a U => a = #[(.ref sx), (.int p1)] ∧ Z.Warmed39 U.vm ∧ U.heap = h0) (fun _ _ _ _ _ => True) (fun _ U o U' => ∃ v L, o = .returned v ∧ (Q_charAt1 Z sx p1 t gb zc fm h0 n0) v U'.heap L ∧ FrameEnd U o U' L ({ frames := 3, cells := 0, slots := 0, locals := 40 } : Room).cells ({ frames := 3, cells := 0, slots := 0, locals := 40 } : Room).slots) := by
  refine MetFree.of_bodySF (plainFor_of_name own_pn_String) hisR ?_
  intro p e s m args below meth c s₁ Bd hml0 hP hK
  obtain ⟨rfl, hZ, hh⟩ := hP
  have hx := Bd.exec
  have hby := Bd.bytes
  have hml : c.maxLocals = 2 := hml0
  have hown : s.vm.findClass "java/lang/String" = some m.cls := findClass_of_methodNamed Bd.named
  have hnm := (name_of_methodNamed Bd.named Bd.method).1
  have hlk : meth.locks = false := BodyLoose.notSynchronized Bd
  have X0 : Stand p l e ({ frames := 3, cells := 0, slots := 0, locals := 40 } : Room) s m #[(.ref sx), (.int p1)] below meth c s₁ [] 0 0 := Stand.of_body Bd
  have e0 : s₁.heap = h0 := by rw [← hh, Bd.state]; rfl
  have N0 := Fr.nil n0
  have K0 : Keep h0 h0 [] := Keep.refl _ _
  have ww : ∀ (k : Nat) {d : Jvm.Cond}, tables_1[k]? = some d → d.before av0 Z = true := fun k d h => hw d (List.mem_of_getElem? h)
  show ownEnds p e below s (Q_charAt1 Z sx p1 t gb zc fm h0 n0) ({ frames := 3, cells := 0, slots := 0, locals := 40 } : Room).cells ({ frames := 3, cells := 0, slots := 0, locals := 40 } : Room).slots s₁ (entryFrame m #[(.ref sx), (.int p1)] 2)
  refine ownCast (own_ef14_charAt1 m sx p1) ?_
  refine ow_aloadN (q := 1) X0 hx (hb hby own_d14_0) rfl rfl rfl ?_
  obtain ⟨cq1, kq1, q1a, q1b, q1c⟩ := isOf hZ e0 HF0
  obtain ⟨_, _, ⟨T1, L1, k1, n1⟩, -, X1, ⟨Lc1, hQ1, l1, y1, z1⟩, st1⟩ := X0.virtualBack hx (y := (⟨"java/lang/String", "isLatin1", "()Z"⟩ : MethodName)) (z := (⟨"java/lang/String", "isLatin1", "()Z"⟩ : MethodName)) hown (mvT hZ (ww 69 rfl)) (mvT hZ (ww 70 rfl)) (notFace_of_selects (args := #[]) (mvT hZ (ww 72 rfl))) (mvT hZ (ww 72 rfl)) (mvT hZ (ww 71 rfl)) (by decide) (backOf (W := 0) (rm_isLatin1 l Z av0 hw [] sx zc h0 n0 (Nat.le_trans Z0 K0.1) HF2 HF4 hz) hZ (ww 73 rfl) (ww 11 rfl) (by decide) (by decide)) q1a q1c (g := (mkF m 1 #[rv sx, iv p1] [(.ref sx)])) rfl (by rw [hml]; rfl) (Steps.refl _) (argsL := []) (rest := []) (lenOf own_pd4 rfl) rfl (by show 2 * 0 + _ ≤ _; exact Nat.le_of_eq rfl) (hb hby own_d14_1) (fun _ _ => ⟨rfl, e0, (by decide : 0 + 0 ≤ _), (by decide : 0 + 0 ≤ _)⟩)
  dsimp only [Pt.U, Pt.locs, Pt.cells, Pt.slots] at X1 l1 y1 z1 st1 hQ1
  subst l1 y1 z1
  obtain ⟨rfl, N1q, e1⟩ := hQ1
  have N1 := Fr.app N0 N1q
  refine ownRun (T' := T1) (f' := (mkF m 4 #[rv sx, iv p1] [(.int (1 : Int32))])) st1 ?_
  refine ow_ifNo (q := 7) X1 hx (hb hby own_d14_4) rfl (Jvm.Free.XT.i0_eq_f (by decide)) ?_
  refine ow_aloadN (q := 8) X1 hx (hb hby own_d14_7) rfl rfl rfl ?_
  obtain ⟨T2, X2, e2, st2⟩ := getF X1 hx hZ hown (host := "") (Or.inl (ww 36 rfl)) Via.refl e1 HF1 (g := (mkF m 8 #[rv sx, iv p1] [(.ref sx)])) rfl rfl (hb hby own_d14_8)
  refine ownGo (T' := T2) (f' := (mkF m 11 #[rv sx, iv p1] [(.ref t)])) (st2) ?_
  refine ow_iloadN (q := 12) X2 hx (hb hby own_d14_11) rfl rfl ?_
  obtain ⟨_, _, ⟨T3, L3, k3, n3⟩, -, X3, ⟨Lc3, hQ3, l3, y3, z3⟩, st3⟩ := Jvm.LawKit.callS X2 hx (y := (⟨"java/lang/StringLatin1", "charAt", "([BI)C"⟩ : MethodName)) hown (mvT hZ (ww 74 rfl)) (mvT hZ (ww 75 rfl)) (mvT hZ (ww 76 rfl)) (mvT hZ (ww 77 rfl)) (by decide) (backOf (W := 0) (rm_lat1 l Z av0 hw [] t p1 gb fm h0 n0 (Nat.le_trans Z0 K0.1) HF3 HF5 hlo hhi hr_fm hok) hZ (ww 77 rfl) (ww 76 rfl) (by decide) (by decide)) (g := (mkF m 12 #[rv sx, iv p1] [(.int p1), (.ref t)])) rfl (by rw [hml]; rfl) (argsL := [(.ref t), (.int p1)]) (rest := []) (lenOf own_pd5 rfl) rfl (by show 2 * 0 + _ ≤ _; exact Nat.le_of_eq rfl) (hb hby own_d14_12) (fun _ _ => ⟨rfl, e2, (by decide : 0 + 0 ≤ _), (by decide : 0 + 0 ≤ _)⟩)
  dsimp only [Pt.U, Pt.locs, Pt.cells, Pt.slots] at X3 l3 y3 z3 st3 hQ3
  subst l3 y3 z3
  obtain ⟨r3, rfl, N3q, e3, hp3⟩ := hQ3
  have N3 := Fr.app N1 N3q
  refine ownGo (T' := T3) (f' := (mkF m 15 #[rv sx, iv p1] [(.int r3)])) (st3) ?_
  refine ownRetN X3 hx (r := r3) (Or.inr (Or.inr (Or.inl rfl))) Bd.returns (hb hby own_d14_15) hlk (by decide) (by decide) (own_nar hp3) ?_
  rw [e3]
  refine ⟨r3, rfl, N3, rfl, ?_⟩
  exact hp3
theorem own_pn_Candidate : plainName "com/example/un1son/un1son/Candidate" = true := by first | (simp [plainName, overriddenIn]; done) | decide +kernel
theorem own_d9_0 : decode prog_1_method_2_code 0 = .ok (.aload_n 0, 1) := by decide +kernel
theorem own_d9_1 : decode prog_1_method_2_code 1 = .ok (.ldc 25, 2) := by decide +kernel
theorem own_d9_3 : decode prog_1_method_2_code 3 = .ok (.invokestatic 26, 3) := by decide +kernel
theorem own_pd6 : parseMethodDescriptor "(Ljava/lang/Object;Ljava/lang/String;)Ljava/lang/Object;" = some ⟨[(.object "java/lang/Object"), (.object "java/lang/String")], some (.object "java/lang/Object")⟩ := by decide +kernel
theorem own_d9_6 : decode prog_1_method_2_code 6 = .ok (.pop, 1) := by decide +kernel
theorem own_d9_7 : decode prog_1_method_2_code 7 = .ok (.aload_n 0, 1) := by decide +kernel
theorem own_d9_8 : decode prog_1_method_2_code 8 = .ok (.invokevirtual 32, 3) := by decide +kernel
theorem own_d9_11 : decode prog_1_method_2_code 11 = .ok (.ifCond .ne 12, 3) := by decide +kernel
theorem own_d9_14 : decode prog_1_method_2_code 14 = .ok (.aload_n 0, 1) := by decide +kernel
theorem own_d9_15 : decode prog_1_method_2_code 15 = .ok (.invokevirtual 38, 3) := by decide +kernel
theorem own_pd7 : parseMethodDescriptor "()I" = some ⟨[], some .int⟩ := by decide +kernel
theorem own_d9_18 : decode prog_1_method_2_code 18 = .ok (.bipush 32, 2) := by decide +kernel
theorem own_d9_20 : decode prog_1_method_2_code 20 = .ok (.if_icmp .le 10, 3) := by decide +kernel
theorem own_d9_30 : decode prog_1_method_2_code 30 = .ok (.iconst 0, 1) := by decide +kernel
theorem own_d9_31 : decode prog_1_method_2_code 31 = .ok (.istore_n 1, 1) := by decide +kernel
theorem own_d9_32 : decode prog_1_method_2_code 32 = .ok (.iload_n 1, 1) := by decide +kernel
theorem own_d9_33 : decode prog_1_method_2_code 33 = .ok (.aload_n 0, 1) := by decide +kernel
theorem own_d9_34 : decode prog_1_method_2_code 34 = .ok (.invokevirtual 38, 3) := by decide +kernel
theorem own_d9_37 : decode prog_1_method_2_code 37 = .ok (.if_icmp .ge 80, 3) := by decide +kernel
theorem own_d9_40 : decode prog_1_method_2_code 40 = .ok (.aload_n 0, 1) := by decide +kernel
theorem own_d9_41 : decode prog_1_method_2_code 41 = .ok (.iload_n 1, 1) := by decide +kernel
theorem own_d9_42 : decode prog_1_method_2_code 42 = .ok (.invokevirtual 48, 3) := by decide +kernel
theorem own_d9_45 : decode prog_1_method_2_code 45 = .ok (.istore_n 2, 1) := by decide +kernel
theorem own_d9_46 : decode prog_1_method_2_code 46 = .ok (.iload_n 2, 1) := by decide +kernel
theorem own_d9_47 : decode prog_1_method_2_code 47 = .ok (.bipush 97, 2) := by decide +kernel
theorem own_d9_49 : decode prog_1_method_2_code 49 = .ok (.if_icmp .lt 9, 3) := by decide +kernel
theorem own_d9_58 : decode prog_1_method_2_code 58 = .ok (.iload_n 2, 1) := by decide +kernel
theorem own_d9_59 : decode prog_1_method_2_code 59 = .ok (.bipush 65, 2) := by decide +kernel
theorem own_d9_61 : decode prog_1_method_2_code 61 = .ok (.if_icmp .lt 9, 3) := by decide +kernel
theorem own_d9_70 : decode prog_1_method_2_code 70 = .ok (.iload_n 2, 1) := by decide +kernel
theorem own_d9_71 : decode prog_1_method_2_code 71 = .ok (.bipush 48, 2) := by decide +kernel
theorem own_d9_73 : decode prog_1_method_2_code 73 = .ok (.if_icmp .lt 9, 3) := by decide +kernel
theorem own_d9_82 : decode prog_1_method_2_code 82 = .ok (.iload_n 2, 1) := by decide +kernel
theorem own_d9_83 : decode prog_1_method_2_code 83 = .ok (.bipush 95, 2) := by decide +kernel
theorem own_d9_85 : decode prog_1_method_2_code 85 = .ok (.if_icmp .eq 9, 3) := by decide +kernel
theorem own_d9_94 : decode prog_1_method_2_code 94 = .ok (.iconst 1, 1) := by decide +kernel
theorem own_d9_95 : decode prog_1_method_2_code 95 = .ok (.goto 4, 3) := by decide +kernel
theorem own_d9_99 : decode prog_1_method_2_code 99 = .ok (.istore_n 3, 1) := by decide +kernel
theorem own_d9_100 : decode prog_1_method_2_code 100 = .ok (.iload_n 3, 1) := by decide +kernel
theorem own_d9_101 : decode prog_1_method_2_code 101 = .ok (.ifCond .ne 10, 3) := by decide +kernel
theorem own_d9_111 : decode prog_1_method_2_code 111 = .ok (.iinc 1 1, 3) := by decide +kernel
theorem own_d9_114 : decode prog_1_method_2_code 114 = .ok (.goto (-82), 3) := by decide +kernel
theorem own_d9_88 : decode prog_1_method_2_code 88 = .ok (.iload_n 2, 1) := by decide +kernel
theorem own_d9_89 : decode prog_1_method_2_code 89 = .ok (.bipush 45, 2) := by decide +kernel
theorem own_d9_91 : decode prog_1_method_2_code 91 = .ok (.if_icmp .ne 7, 3) := by decide +kernel
theorem own_d9_76 : decode prog_1_method_2_code 76 = .ok (.iload_n 2, 1) := by decide +kernel
theorem own_d9_77 : decode prog_1_method_2_code 77 = .ok (.bipush 57, 2) := by decide +kernel
theorem own_d9_79 : decode prog_1_method_2_code 79 = .ok (.if_icmp .le 15, 3) := by decide +kernel
theorem own_d9_64 : decode prog_1_method_2_code 64 = .ok (.iload_n 2, 1) := by decide +kernel
theorem own_d9_65 : decode prog_1_method_2_code 65 = .ok (.bipush 90, 2) := by decide +kernel
theorem own_d9_67 : decode prog_1_method_2_code 67 = .ok (.if_icmp .le 27, 3) := by decide +kernel
theorem own_d9_52 : decode prog_1_method_2_code 52 = .ok (.iload_n 2, 1) := by decide +kernel
theorem own_d9_53 : decode prog_1_method_2_code 53 = .ok (.bipush 122, 2) := by decide +kernel
theorem own_d9_55 : decode prog_1_method_2_code 55 = .ok (.if_icmp .le 39, 3) := by decide +kernel
theorem own_d9_117 : decode prog_1_method_2_code 117 = .ok (.aload_n 0, 1) := by decide +kernel
theorem own_d9_118 : decode prog_1_method_2_code 118 = .ok (.areturn, 1) := by decide +kernel
theorem own_ef9_valid1 (m : MethodId) (sx : Addr) : entryFrame m #[(.ref sx)] 4 = mkF m 0 #[rv sx, .unset, .unset, .unset] [] := by first | (simp [entryFrame, mkF, argsToLocals, Value.category]; done) | rfl
def Q_valid1 (Z : State) (sx : Addr) (t : Addr) (gb : Nat → Int32) (zc : Int32) (fm : Value) (h0 : Heap) (n0 : Nat) (v : Option Value) (h : Heap) (L : List Loc) : Prop := v = some (.ref sx) ∧ Fr n0 L ∧ Keep h0 h []
set_option maxRecDepth 65536 in
set_option maxHeartbeats 40000000 in
theorem rm_valid1 (l : Launch) (Z : State) (av0 : Array Value) (hw : ∀ d ∈ tables_1, d.before av0 Z = true) (ws : List Jvm.Cond) (sx : Addr) (t : Addr) (gb : Nat → Int32) (zc : Int32) (fm : Value) (h0 : Heap) (n0 : Nat) (Z0 : n0 ≤ h0.size) (HF0 : Exa Z h0 sx "java/lang/String") (HF1 : Fld Z h0 sx "java/lang/String" "value" "[B" (.ref t)) (HF2 : Fld Z h0 sx "java/lang/String" "coder" "B" (.int (0 : Int32))) (HF3 : ownAI Z h0 t .byte 1 gb) (HF4 : Sta Z h0 "java/lang/String" "COMPACT_STRINGS" "Z" (.int zc)) (HF5 : Sta Z h0 "jdk/internal/util/Preconditions" "SIOOBE_FORMATTER" "Ljava/util/function/BiFunction;" fm) (hz : ¬ zc = (0 : Int32)) (hr_fm : fm.isRef = true) (hok : ∀ k, k < 1 → own_okb (gb k) = true) :
    MetFree l (⟨"com/example/un1son/un1son/Candidate", "requireValidId", "(Ljava/lang/String;)Ljava/lang/String;"⟩ : MethodName) (head1 (Jvm.Cond.code (⟨"com/example/un1son/un1son/Candidate", "requireValidId", "(Ljava/lang/String;)Ljava/lang/String;"⟩ : MethodName) prog_1_method_2_code 4 (some (.object "java/lang/String")) :: ws) ({ frames := 4, cells := 2, slots := 12, locals := 53 } : Room)) (fun a U => a = #[(.ref sx)] ∧ Z.Warmed39 U.vm ∧ U.heap = h0) (fun _ _ _ _ _ => True) (fun _ U o U' => ∃ v L, o = .returned v ∧ (Q_valid1 Z sx t gb zc fm h0 n0) v U'.heap L ∧ ReturnedEndW U o U' L ({ frames := 4, cells := 2, slots := 12, locals := 53 } : Room).cells ({ frames := 4, cells := 2, slots := 12, locals := 53 } : Room).slots) := by
  refine MetFree.of_bodySF (plainFor_of_name own_pn_Candidate) hisR ?_
  intro p e s m args below meth c s₁ Bd hml0 hP hK
  obtain ⟨rfl, hZ, hh⟩ := hP
  have hx := Bd.exec
  have hby := Bd.bytes
  have hml : c.maxLocals = 4 := hml0
  have hown : s.vm.findClass "com/example/un1son/un1son/Candidate" = some m.cls := findClass_of_methodNamed Bd.named
  have hnm := (name_of_methodNamed Bd.named Bd.method).1
  have hlk : meth.locks = false := BodyLoose.notSynchronized Bd
  have X0 : Stand p l e ({ frames := 4, cells := 2, slots := 12, locals := 53 } : Room) s m #[(.ref sx)] below meth c s₁ [] 0 0 := Stand.of_body Bd
  have e0 : s₁.heap = h0 := by rw [← hh, Bd.state]; rfl
  have N0 := Fr.nil n0
  have K0 : Keep h0 h0 [] := Keep.refl _ _
  have ww : ∀ (k : Nat) {d : Jvm.Cond}, tables_1[k]? = some d → d.before av0 Z = true := fun k d h => hw d (List.mem_of_getElem? h)
  have wStr : ∀ d ∈ Bundle.stringAtoms, d.before av0 Z = true := fun d hd => hw d ((by decide +kernel : ∀ d ∈ Bundle.stringAtoms, d ∈ tables_1) d hd)
  show ownEndsW p e below s (Q_valid1 Z sx t gb zc fm h0 n0) ({ frames := 4, cells := 2, slots := 12, locals := 53 } : Room).cells ({ frames := 4, cells := 2, slots := 12, locals := 53 } : Room).slots s₁ (entryFrame m #[(.ref sx)] 4)
  refine ownCastW (own_ef9_valid1 m sx) ?_
  refine ow_aloadNW (q := 1) X0 hx (hb hby own_d9_0) rfl rfl rfl ?_
  obtain ⟨cs1, T1, h1, X1, hS1, e1, E1, st1⟩ := ownLdc X0 hx hZ hown (ww 42 rfl) wStr e0 (g := (mkF m 1 #[rv sx, .unset, .unset, .unset] [(.ref sx)])) rfl (hb hby own_d9_1) (n := 8) (by decide) (by decide) (by decide) (by decide)
  have K1 : Keep h0 h1 [] := K0.ext E1
  have F2 : Exa Z h1 sx "java/lang/String" := HF0.ext E1
  have F3 : Fld Z h1 sx "java/lang/String" "value" "[B" (.ref t) := HF1.ext E1
  have F4 : Fld Z h1 sx "java/lang/String" "coder" "B" (.int (0 : Int32)) := HF2.ext E1
  have F5 : ownAI Z h1 t .byte 1 gb := HF3.ext E1
  have F6 : Sta Z h1 "java/lang/String" "COMPACT_STRINGS" "Z" (.int zc) := HF4.ext E1
  have F7 : Sta Z h1 "jdk/internal/util/Preconditions" "SIOOBE_FORMATTER" "Ljava/util/function/BiFunction;" fm := HF5.ext E1
  refine ownGoW (T' := T1) (f' := (mkF m 3 #[rv sx, .unset, .unset, .unset] [(.ref cs1), (.ref sx)])) (st1) ?_
  refine ownRebaseW hZ hown hS1 X1 ?_
  intro s X1 hZ hown
  obtain ⟨_, _, ⟨T8, L8, k8, n8⟩, -, X8, ⟨Lc8, hQ8, l8, y8, z8⟩, st8⟩ := Jvm.LawKit.callS X1 hx (y := (⟨"java/util/Objects", "requireNonNull", "(Ljava/lang/Object;Ljava/lang/String;)Ljava/lang/Object;"⟩ : MethodName)) hown (mvT hZ (ww 45 rfl)) (mvT hZ (ww 46 rfl)) (mvT hZ (ww 47 rfl)) (mvT hZ (ww 48 rfl)) (by decide) (backOf (W := 0) (rm_rnn l Z av0 hw [] sx cs1 h1 n0 (Nat.le_trans Z0 K1.1) ) hZ (ww 48 rfl) (ww 47 rfl) (by decide) (by decide)) (g := (mkF m 3 #[rv sx, .unset, .unset, .unset] [(.ref cs1), (.ref sx)])) rfl (by rw [hml]; rfl) (argsL := [(.ref sx), (.ref cs1)]) (rest := []) (lenOf own_pd6 rfl) rfl (by show 2 * 0 + _ ≤ _; exact Nat.le_of_eq rfl) (hb hby own_d9_3) (fun _ _ => ⟨rfl, e1, (by decide : 2 + 0 ≤ _), (by decide : 12 + 0 ≤ _)⟩)
  dsimp only [Pt.U, Pt.locs, Pt.cells, Pt.slots] at X8 l8 y8 z8 st8 hQ8
  subst l8 y8 z8
  obtain ⟨rfl, N8q, e8⟩ := hQ8
  have N8 := Fr.app N0 N8q
  refine ownGoW (T' := T8) (f' := (mkF m 6 #[rv sx, .unset, .unset, .unset] [(.ref sx)])) (st8) ?_
  refine ow_popW (q := 7) X8 hx (hb hby own_d9_6) rfl rfl ?_
  refine ow_aloadNW (q := 8) X8 hx (hb hby own_d9_7) rfl rfl rfl ?_
  obtain ⟨cq9, kq9, q9a, q9b, q9c⟩ := isOf hZ e8 F2
  obtain ⟨_, _, ⟨T9, L9, k9, n9⟩, -, X9, ⟨Lc9, hQ9, l9, y9, z9⟩, st9⟩ := X8.virtualBack hx (y := (⟨"java/lang/String", "isEmpty", "()Z"⟩ : MethodName)) (z := (⟨"java/lang/String", "isEmpty", "()Z"⟩ : MethodName)) hown (mvT hZ (ww 49 rfl)) (mvT hZ (ww 50 rfl)) (notFace_of_selects (args := #[]) (mvT hZ (ww 52 rfl))) (mvT hZ (ww 52 rfl)) (mvT hZ (ww 51 rfl)) (by decide) (backOf (W := 0) (rm_isEmpty1 l Z av0 hw [] sx t gb h1 n0 (Nat.le_trans Z0 K1.1) F3 F5) hZ (ww 53 rfl) (ww 11 rfl) (by decide) (by decide)) q9a q9c (g := (mkF m 8 #[rv sx, .unset, .unset, .unset] [(.ref sx)])) rfl (by rw [hml]; rfl) (Steps.refl _) (argsL := []) (rest := []) (lenOf own_pd4 rfl) rfl (by show 2 * 0 + _ ≤ _; exact Nat.le_of_eq rfl) (hb hby own_d9_8) (fun _ _ => ⟨rfl, e8, (by decide : 2 + 0 ≤ _), (by decide : 12 + 0 ≤ _)⟩)
  dsimp only [Pt.U, Pt.locs, Pt.cells, Pt.slots] at X9 l9 y9 z9 st9 hQ9
  subst l9 y9 z9
  obtain ⟨rfl, N9q, e9⟩ := hQ9
  have N9 := Fr.app N8 N9q
  refine ownRunW (T' := T9) (f' := (mkF m 11 #[rv sx, .unset, .unset, .unset] [(.int (0 : Int32))])) st9 ?_
  refine ow_ifNoW (q := 14) X9 hx (hb hby own_d9_11) rfl (Jvm.Free.XT.i0_ne_f (by decide)) ?_
  refine ow_aloadNW (q := 15) X9 hx (hb hby own_d9_14) rfl rfl rfl ?_
  obtain ⟨cq10, kq10, q10a, q10b, q10c⟩ := isOf hZ e9 F2
  obtain ⟨_, _, ⟨T10, L10, k10, n10⟩, -, X10, ⟨Lc10, hQ10, l10, y10, z10⟩, st10⟩ := X9.virtualBack hx (y := (⟨"java/lang/String", "length", "()I"⟩ : MethodName)) (z := (⟨"java/lang/String", "length", "()I"⟩ : MethodName)) hown (mvT hZ (ww 54 rfl)) (mvT hZ (ww 55 rfl)) (notFace_of_selects (args := #[]) (mvT hZ (ww 57 rfl))) (mvT hZ (ww 57 rfl)) (mvT hZ (ww 56 rfl)) (by decide) (backOf (W := 0) (rm_length1 l Z av0 hw [] sx t gb zc h1 n0 (Nat.le_trans Z0 K1.1) F2 F3 F4 F5 F6 hz) hZ (ww 58 rfl) (ww 11 rfl) (by decide) (by decide)) q10a q10c (g := (mkF m 15 #[rv sx, .unset, .unset, .unset] [(.ref sx)])) rfl (by rw [hml]; rfl) (Steps.refl _) (argsL := []) (rest := []) (lenOf own_pd7 rfl) rfl (by show 2 * 0 + _ ≤ _; exact Nat.le_of_eq rfl) (hb hby own_d9_15) (fun _ _ => ⟨rfl, e9, (by decide : 2 + 0 ≤ _), (by decide : 12 + 0 ≤ _)⟩)
  dsimp only [Pt.U, Pt.locs, Pt.cells, Pt.slots] at X10 l10 y10 z10 st10 hQ10
  subst l10 y10 z10
  obtain ⟨rfl, N10q, e10⟩ := hQ10
  have N10 := Fr.app N9 N10q
  refine ownRunW (T' := T10) (f' := (mkF m 18 #[rv sx, .unset, .unset, .unset] [(.int (1 : Int32))])) st10 ?_
  refine ow_bipushW (q := 20) X10 hx (32 : Int32) (hb hby own_d9_18) rfl rfl ?_
  refine ow_icmpYesW (q := 30) X10 hx (hb hby own_d9_20) (Jvm.Free.XT.ii_le_t (by decide)) (by decide) (by decide) ?_
  refine ow_iconstW (q := 31) X10 hx (0 : Int32) (hb hby own_d9_30) rfl rfl ?_
  refine ow_istoreNW (q := 32) X10 hx (L' := #[rv sx, iv (0 : Int32), .unset, .unset]) (hb hby own_d9_31) rfl rfl ?_
  have cut32_11 : ∀ (kk11 : Nat) (i : Int32) (x2 : Int32) (x3 : Int32) (Tc11 : State) (lc11 : List Loc), Stand p l e ({ frames := 4, cells := 2, slots := 12, locals := 53 } : Room) s m #[(.ref sx)] below meth c Tc11 lc11 2 12 → Tc11.heap = h1 → Fr n0 lc11 → 1 - i.toNatClampNeg < kk11 → (¬ i < (0 : Int32)) → (¬ (1 : Int32) < i) → ownEndsW p e below s (fun v hh L => (Q_valid1 Z sx t gb zc fm h0 n0) v hh L ∧ h1.size ≤ hh.size) ({ frames := 4, cells := 2, slots := 12, locals := 53 } : Room).cells ({ frames := 4, cells := 2, slots := 12, locals := 53 } : Room).slots Tc11 (mkF m 32 #[rv sx, iv i, iv x2, iv x3] []) := by
    intro kk11
    induction kk11 with
    | zero => intro i x2 x3 Tc11 lc11 Xc11 ec11 Nc11 hm11 hi0 hi1; exact absurd hm11 (Nat.not_lt_zero _)
    | succ kk11 ih11 =>
      intro i x2 x3 Tc11 lc11 Xc11 ec11 Nc11 hm11 hi0 hi1
      refine ow_iloadNW (q := 33) Xc11 hx (hb hby own_d9_32) rfl rfl ?_
      refine ow_aloadNW (q := 34) Xc11 hx (hb hby own_d9_33) rfl rfl rfl ?_
      obtain ⟨cq12, kq12, q12a, q12b, q12c⟩ := isOf hZ ec11 F2
      obtain ⟨_, _, ⟨T12, L12, k12, n12⟩, -, X12, ⟨Lc12, hQ12, l12, y12, z12⟩, st12⟩ := Xc11.virtualBack hx (y := (⟨"java/lang/String", "length", "()I"⟩ : MethodName)) (z := (⟨"java/lang/String", "length", "()I"⟩ : MethodName)) hown (mvT hZ (ww 54 rfl)) (mvT hZ (ww 55 rfl)) (notFace_of_selects (args := #[]) (mvT hZ (ww 57 rfl))) (mvT hZ (ww 57 rfl)) (mvT hZ (ww 56 rfl)) (by decide) (backOf (W := 1) (rm_length1 l Z av0 hw [] sx t gb zc h1 n0 (Nat.le_trans Z0 K1.1) F2 F3 F4 F5 F6 hz) hZ (ww 58 rfl) (ww 11 rfl) (by decide) (by decide)) q12a q12c (g := (mkF m 34 #[rv sx, iv i, iv x2, iv x3] [(.ref sx), (.int i)])) rfl (by rw [hml]; rfl) (Steps.refl _) (argsL := []) (rest := [(.int i)]) (lenOf own_pd7 rfl) rfl (by show 2 * 0 + _ ≤ _; exact Nat.le_of_eq rfl) (hb hby own_d9_34) (fun _ _ => ⟨rfl, ec11, (by decide : 2 + 0 ≤ _), (by decide : 12 + 0 ≤ _)⟩)
      dsimp only [Pt.U, Pt.locs, Pt.cells, Pt.slots] at X12 l12 y12 z12 st12 hQ12
      subst l12 y12 z12
      obtain ⟨rfl, N12q, e12⟩ := hQ12
      have N12 := Fr.app Nc11 N12q
      refine ownRunW (T' := T12) (f' := (mkF m 37 #[rv sx, iv i, iv x2, iv x3] [(.int (1 : Int32)), (.int i)])) st12 ?_
      by_cases hc37_13 : i < (1 : Int32)
      · refine ow_icmpNoW (q := 40) X12 hx (hb hby own_d9_37) rfl (Jvm.Free.XT.ii_ge_f hc37_13) ?_
        refine ow_aloadNW (q := 41) X12 hx (hb hby own_d9_40) rfl rfl rfl ?_
        refine ow_iloadNW (q := 42) X12 hx (hb hby own_d9_41) rfl rfl ?_
        obtain ⟨cq14, kq14, q14a, q14b, q14c⟩ := isOf hZ e12 F2
        obtain ⟨_, _, ⟨T14, L14, k14, n14⟩, -, X14, ⟨Lc14, hQ14, l14, y14, z14⟩, st14⟩ := X12.virtualBack hx (y := (⟨"java/lang/String", "charAt", "(I)C"⟩ : MethodName)) (z := (⟨"java/lang/String", "charAt", "(I)C"⟩ : MethodName)) hown (mvT hZ (ww 64 rfl)) (mvT hZ (ww 65 rfl)) (notFace_of_selects (args := #[]) (mvT hZ (ww 67 rfl))) (mvT hZ (ww 67 rfl)) (mvT hZ (ww 66 rfl)) (by decide) (backOf (W := 0) (rm_charAt1 l Z av0 hw [] sx i t gb zc fm h1 n0 (Nat.le_trans Z0 K1.1) F2 F3 F4 F5 F6 F7 hi0 hc37_13 hz hr_fm hok) hZ (ww 68 rfl) (ww 11 rfl) (by decide) (by decide)) q14a q14c (g := (mkF m 42 #[rv sx, iv i, iv x2, iv x3] [(.int i), (.ref sx)])) rfl (by rw [hml]; rfl) (Steps.refl _) (argsL := [(.int i)]) (rest := []) (lenOf own_pd0 rfl) rfl (by show 2 * 0 + _ ≤ _; exact Nat.le_of_eq rfl) (hb hby own_d9_42) (fun _ _ => ⟨rfl, e12, (by decide : 2 + 0 ≤ _), (by decide : 12 + 0 ≤ _)⟩)
        dsimp only [Pt.U, Pt.locs, Pt.cells, Pt.slots] at X14 l14 y14 z14 st14 hQ14
        subst l14 y14 z14
        obtain ⟨r14, rfl, N14q, e14, hp14⟩ := hQ14
        have N14 := Fr.app N12 N14q
        refine ownRunW (T' := T14) (f' := (mkF m 45 #[rv sx, iv i, iv x2, iv x3] [(.int r14)])) st14 ?_
        refine ow_istoreNW (q := 46) X14 hx (L' := #[rv sx, iv i, iv r14, iv x3]) (hb hby own_d9_45) rfl rfl ?_
        refine ow_iloadNW (q := 47) X14 hx (hb hby own_d9_46) rfl rfl ?_
        refine ow_bipushW (q := 49) X14 hx (97 : Int32) (hb hby own_d9_47) rfl rfl ?_
        by_cases hc49_15 : r14 < (97 : Int32)
        · refine ow_icmpYesW (q := 58) X14 hx (hb hby own_d9_49) (Jvm.Free.XT.ii_lt_t hc49_15) (by decide) (by decide) ?_
          refine ow_iloadNW (q := 59) X14 hx (hb hby own_d9_58) rfl rfl ?_
          refine ow_bipushW (q := 61) X14 hx (65 : Int32) (hb hby own_d9_59) rfl rfl ?_
          by_cases hc61_16 : r14 < (65 : Int32)
          · refine ow_icmpYesW (q := 70) X14 hx (hb hby own_d9_61) (Jvm.Free.XT.ii_lt_t hc61_16) (by decide) (by decide) ?_
            refine ow_iloadNW (q := 71) X14 hx (hb hby own_d9_70) rfl rfl ?_
            refine ow_bipushW (q := 73) X14 hx (48 : Int32) (hb hby own_d9_71) rfl rfl ?_
            by_cases hc73_17 : r14 < (48 : Int32)
            · refine ow_icmpYesW (q := 82) X14 hx (hb hby own_d9_73) (Jvm.Free.XT.ii_lt_t hc73_17) (by decide) (by decide) ?_
              refine ow_iloadNW (q := 83) X14 hx (hb hby own_d9_82) rfl rfl ?_
              refine ow_bipushW (q := 85) X14 hx (95 : Int32) (hb hby own_d9_83) rfl rfl ?_
              by_cases hc85_18 : r14 = (95 : Int32)
              · refine ow_icmpYesW (q := 94) X14 hx (hb hby own_d9_85) (Jvm.Free.XT.ii_eq_t hc85_18) (by decide) (by decide) ?_
                refine ow_iconstW (q := 95) X14 hx (1 : Int32) (hb hby own_d9_94) rfl rfl ?_
                refine ow_gotoW (q := 99) X14 hx (hb hby own_d9_95) (by decide) (by decide) ?_
                refine ow_istoreNW (q := 100) X14 hx (L' := #[rv sx, iv i, iv r14, iv (1 : Int32)]) (hb hby own_d9_99) rfl rfl ?_
                refine ow_iloadNW (q := 101) X14 hx (hb hby own_d9_100) rfl rfl ?_
                refine ow_ifYesW (q := 111) X14 hx (hb hby own_d9_101) (Jvm.Free.XT.i0_ne_t (by decide)) (by decide) (by decide) ?_
                refine ow_iincW (q := 114) X14 hx (L' := #[rv sx, iv (i + (1 : Int32)), iv r14, iv (1 : Int32)]) (hb hby own_d9_111) rfl rfl rfl ?_
                generalize hv_v19 : (i + (1 : Int32)) = v19
                refine ow_gotoW (q := 32) X14 hx (hb hby own_d9_114) (by decide) (by decide) ?_
                exact ih11 v19 r14 (1 : Int32) _ _ X14 e14 N14 (own_ms hv_v19 hi0 hc37_13 rfl hm11) (own_i1 hv_v19 hi0 hc37_13).1 (own_i1 hv_v19 hi0 hc37_13).2
              · refine ow_icmpNoW (q := 88) X14 hx (hb hby own_d9_85) rfl (Jvm.Free.XT.ii_eq_f hc85_18) ?_
                refine ow_iloadNW (q := 89) X14 hx (hb hby own_d9_88) rfl rfl ?_
                refine ow_bipushW (q := 91) X14 hx (45 : Int32) (hb hby own_d9_89) rfl rfl ?_
                by_cases hc91_20 : r14 = (45 : Int32)
                · refine ow_icmpNoW (q := 94) X14 hx (hb hby own_d9_91) rfl (Jvm.Free.XT.ii_ne_f hc91_20) ?_
                  refine ow_iconstW (q := 95) X14 hx (1 : Int32) (hb hby own_d9_94) rfl rfl ?_
                  refine ow_gotoW (q := 99) X14 hx (hb hby own_d9_95) (by decide) (by decide) ?_
                  refine ow_istoreNW (q := 100) X14 hx (L' := #[rv sx, iv i, iv r14, iv (1 : Int32)]) (hb hby own_d9_99) rfl rfl ?_
                  refine ow_iloadNW (q := 101) X14 hx (hb hby own_d9_100) rfl rfl ?_
                  refine ow_ifYesW (q := 111) X14 hx (hb hby own_d9_101) (Jvm.Free.XT.i0_ne_t (by decide)) (by decide) (by decide) ?_
                  refine ow_iincW (q := 114) X14 hx (L' := #[rv sx, iv (i + (1 : Int32)), iv r14, iv (1 : Int32)]) (hb hby own_d9_111) rfl rfl rfl ?_
                  generalize hv_v21 : (i + (1 : Int32)) = v21
                  refine ow_gotoW (q := 32) X14 hx (hb hby own_d9_114) (by decide) (by decide) ?_
                  exact ih11 v21 r14 (1 : Int32) _ _ X14 e14 N14 (own_ms hv_v21 hi0 hc37_13 rfl hm11) (own_i1 hv_v21 hi0 hc37_13).1 (own_i1 hv_v21 hi0 hc37_13).2
                · refine ow_icmpYesW (q := 98) X14 hx (hb hby own_d9_91) (Jvm.Free.XT.ii_ne_t hc91_20) (by decide) (by decide) ?_
                  exfalso
                  have hk := own_okI hp14
                  have cc0 := own_ltI hc49_15
                  have cc1 := own_ltI hc61_16
                  have cc2 := own_ltI hc73_17
                  have cc3 := own_neI hc85_18
                  have cc4 := own_neI hc91_20
                  simp only [Int32.reduceToInt] at cc0 cc1 cc2 cc3 cc4
                  omega
            · refine ow_icmpNoW (q := 76) X14 hx (hb hby own_d9_73) rfl (Jvm.Free.XT.ii_lt_f hc73_17) ?_
              refine ow_iloadNW (q := 77) X14 hx (hb hby own_d9_76) rfl rfl ?_
              refine ow_bipushW (q := 79) X14 hx (57 : Int32) (hb hby own_d9_77) rfl rfl ?_
              by_cases hc79_22 : (57 : Int32) < r14
              · refine ow_icmpNoW (q := 82) X14 hx (hb hby own_d9_79) rfl (Jvm.Free.XT.ii_le_f hc79_22) ?_
                refine ow_iloadNW (q := 83) X14 hx (hb hby own_d9_82) rfl rfl ?_
                refine ow_bipushW (q := 85) X14 hx (95 : Int32) (hb hby own_d9_83) rfl rfl ?_
                by_cases hc85_23 : r14 = (95 : Int32)
                · refine ow_icmpYesW (q := 94) X14 hx (hb hby own_d9_85) (Jvm.Free.XT.ii_eq_t hc85_23) (by decide) (by decide) ?_
                  refine ow_iconstW (q := 95) X14 hx (1 : Int32) (hb hby own_d9_94) rfl rfl ?_
                  refine ow_gotoW (q := 99) X14 hx (hb hby own_d9_95) (by decide) (by decide) ?_
                  refine ow_istoreNW (q := 100) X14 hx (L' := #[rv sx, iv i, iv r14, iv (1 : Int32)]) (hb hby own_d9_99) rfl rfl ?_
                  refine ow_iloadNW (q := 101) X14 hx (hb hby own_d9_100) rfl rfl ?_
                  refine ow_ifYesW (q := 111) X14 hx (hb hby own_d9_101) (Jvm.Free.XT.i0_ne_t (by decide)) (by decide) (by decide) ?_
                  refine ow_iincW (q := 114) X14 hx (L' := #[rv sx, iv (i + (1 : Int32)), iv r14, iv (1 : Int32)]) (hb hby own_d9_111) rfl rfl rfl ?_
                  generalize hv_v24 : (i + (1 : Int32)) = v24
                  refine ow_gotoW (q := 32) X14 hx (hb hby own_d9_114) (by decide) (by decide) ?_
                  exact ih11 v24 r14 (1 : Int32) _ _ X14 e14 N14 (own_ms hv_v24 hi0 hc37_13 rfl hm11) (own_i1 hv_v24 hi0 hc37_13).1 (own_i1 hv_v24 hi0 hc37_13).2
                · refine ow_icmpNoW (q := 88) X14 hx (hb hby own_d9_85) rfl (Jvm.Free.XT.ii_eq_f hc85_23) ?_
                  refine ow_iloadNW (q := 89) X14 hx (hb hby own_d9_88) rfl rfl ?_
                  refine ow_bipushW (q := 91) X14 hx (45 : Int32) (hb hby own_d9_89) rfl rfl ?_
                  by_cases hc91_25 : r14 = (45 : Int32)
                  · refine ow_icmpNoW (q := 94) X14 hx (hb hby own_d9_91) rfl (Jvm.Free.XT.ii_ne_f hc91_25) ?_
                    refine ow_iconstW (q := 95) X14 hx (1 : Int32) (hb hby own_d9_94) rfl rfl ?_
                    refine ow_gotoW (q := 99) X14 hx (hb hby own_d9_95) (by decide) (by decide) ?_
                    refine ow_istoreNW (q := 100) X14 hx (L' := #[rv sx, iv i, iv r14, iv (1 : Int32)]) (hb hby own_d9_99) rfl rfl ?_
                    refine ow_iloadNW (q := 101) X14 hx (hb hby own_d9_100) rfl rfl ?_
                    refine ow_ifYesW (q := 111) X14 hx (hb hby own_d9_101) (Jvm.Free.XT.i0_ne_t (by decide)) (by decide) (by decide) ?_
                    refine ow_iincW (q := 114) X14 hx (L' := #[rv sx, iv (i + (1 : Int32)), iv r14, iv (1 : Int32)]) (hb hby own_d9_111) rfl rfl rfl ?_
                    generalize hv_v26 : (i + (1 : Int32)) = v26
                    refine ow_gotoW (q := 32) X14 hx (hb hby own_d9_114) (by decide) (by decide) ?_
                    exact ih11 v26 r14 (1 : Int32) _ _ X14 e14 N14 (own_ms hv_v26 hi0 hc37_13 rfl hm11) (own_i1 hv_v26 hi0 hc37_13).1 (own_i1 hv_v26 hi0 hc37_13).2
                  · refine ow_icmpYesW (q := 98) X14 hx (hb hby own_d9_91) (Jvm.Free.XT.ii_ne_t hc91_25) (by decide) (by decide) ?_
                    exfalso
                    have hk := own_okI hp14
                    have cc0 := own_ltI hc49_15
                    have cc1 := own_ltI hc61_16
                    have cc2 := own_nltI hc73_17
                    have cc3 := own_ltI hc79_22
                    have cc4 := own_neI hc85_23
                    have cc5 := own_neI hc91_25
                    simp only [Int32.reduceToInt] at cc0 cc1 cc2 cc3 cc4 cc5
                    omega
              · refine ow_icmpYesW (q := 94) X14 hx (hb hby own_d9_79) (Jvm.Free.XT.ii_le_t hc79_22) (by decide) (by decide) ?_
                refine ow_iconstW (q := 95) X14 hx (1 : Int32) (hb hby own_d9_94) rfl rfl ?_
                refine ow_gotoW (q := 99) X14 hx (hb hby own_d9_95) (by decide) (by decide) ?_
                refine ow_istoreNW (q := 100) X14 hx (L' := #[rv sx, iv i, iv r14, iv (1 : Int32)]) (hb hby own_d9_99) rfl rfl ?_
                refine ow_iloadNW (q := 101) X14 hx (hb hby own_d9_100) rfl rfl ?_
                refine ow_ifYesW (q := 111) X14 hx (hb hby own_d9_101) (Jvm.Free.XT.i0_ne_t (by decide)) (by decide) (by decide) ?_
                refine ow_iincW (q := 114) X14 hx (L' := #[rv sx, iv (i + (1 : Int32)), iv r14, iv (1 : Int32)]) (hb hby own_d9_111) rfl rfl rfl ?_
                generalize hv_v27 : (i + (1 : Int32)) = v27
                refine ow_gotoW (q := 32) X14 hx (hb hby own_d9_114) (by decide) (by decide) ?_
                exact ih11 v27 r14 (1 : Int32) _ _ X14 e14 N14 (own_ms hv_v27 hi0 hc37_13 rfl hm11) (own_i1 hv_v27 hi0 hc37_13).1 (own_i1 hv_v27 hi0 hc37_13).2
          · refine ow_icmpNoW (q := 64) X14 hx (hb hby own_d9_61) rfl (Jvm.Free.XT.ii_lt_f hc61_16) ?_
            refine ow_iloadNW (q := 65) X14 hx (hb hby own_d9_64) rfl rfl ?_
            refine ow_bipushW (q := 67) X14 hx (90 : Int32) (hb hby own_d9_65) rfl rfl ?_
            by_cases hc67_28 : (90 : Int32) < r14
            · refine ow_icmpNoW (q := 70) X14 hx (hb hby own_d9_67) rfl (Jvm.Free.XT.ii_le_f hc67_28) ?_
              refine ow_iloadNW (q := 71) X14 hx (hb hby own_d9_70) rfl rfl ?_
              refine ow_bipushW (q := 73) X14 hx (48 : Int32) (hb hby own_d9_71) rfl rfl ?_
              by_cases hc73_29 : r14 < (48 : Int32)
              · refine ow_icmpYesW (q := 82) X14 hx (hb hby own_d9_73) (Jvm.Free.XT.ii_lt_t hc73_29) (by decide) (by decide) ?_
                refine ow_iloadNW (q := 83) X14 hx (hb hby own_d9_82) rfl rfl ?_
                refine ow_bipushW (q := 85) X14 hx (95 : Int32) (hb hby own_d9_83) rfl rfl ?_
                by_cases hc85_30 : r14 = (95 : Int32)
                · refine ow_icmpYesW (q := 94) X14 hx (hb hby own_d9_85) (Jvm.Free.XT.ii_eq_t hc85_30) (by decide) (by decide) ?_
                  refine ow_iconstW (q := 95) X14 hx (1 : Int32) (hb hby own_d9_94) rfl rfl ?_
                  refine ow_gotoW (q := 99) X14 hx (hb hby own_d9_95) (by decide) (by decide) ?_
                  refine ow_istoreNW (q := 100) X14 hx (L' := #[rv sx, iv i, iv r14, iv (1 : Int32)]) (hb hby own_d9_99) rfl rfl ?_
                  refine ow_iloadNW (q := 101) X14 hx (hb hby own_d9_100) rfl rfl ?_
                  refine ow_ifYesW (q := 111) X14 hx (hb hby own_d9_101) (Jvm.Free.XT.i0_ne_t (by decide)) (by decide) (by decide) ?_
                  refine ow_iincW (q := 114) X14 hx (L' := #[rv sx, iv (i + (1 : Int32)), iv r14, iv (1 : Int32)]) (hb hby own_d9_111) rfl rfl rfl ?_
                  generalize hv_v31 : (i + (1 : Int32)) = v31
                  refine ow_gotoW (q := 32) X14 hx (hb hby own_d9_114) (by decide) (by decide) ?_
                  exact ih11 v31 r14 (1 : Int32) _ _ X14 e14 N14 (own_ms hv_v31 hi0 hc37_13 rfl hm11) (own_i1 hv_v31 hi0 hc37_13).1 (own_i1 hv_v31 hi0 hc37_13).2
                · refine ow_icmpNoW (q := 88) X14 hx (hb hby own_d9_85) rfl (Jvm.Free.XT.ii_eq_f hc85_30) ?_
                  refine ow_iloadNW (q := 89) X14 hx (hb hby own_d9_88) rfl rfl ?_
                  refine ow_bipushW (q := 91) X14 hx (45 : Int32) (hb hby own_d9_89) rfl rfl ?_
                  by_cases hc91_32 : r14 = (45 : Int32)
                  · refine ow_icmpNoW (q := 94) X14 hx (hb hby own_d9_91) rfl (Jvm.Free.XT.ii_ne_f hc91_32) ?_
                    refine ow_iconstW (q := 95) X14 hx (1 : Int32) (hb hby own_d9_94) rfl rfl ?_
                    refine ow_gotoW (q := 99) X14 hx (hb hby own_d9_95) (by decide) (by decide) ?_
                    refine ow_istoreNW (q := 100) X14 hx (L' := #[rv sx, iv i, iv r14, iv (1 : Int32)]) (hb hby own_d9_99) rfl rfl ?_
                    refine ow_iloadNW (q := 101) X14 hx (hb hby own_d9_100) rfl rfl ?_
                    refine ow_ifYesW (q := 111) X14 hx (hb hby own_d9_101) (Jvm.Free.XT.i0_ne_t (by decide)) (by decide) (by decide) ?_
                    refine ow_iincW (q := 114) X14 hx (L' := #[rv sx, iv (i + (1 : Int32)), iv r14, iv (1 : Int32)]) (hb hby own_d9_111) rfl rfl rfl ?_
                    generalize hv_v33 : (i + (1 : Int32)) = v33
                    refine ow_gotoW (q := 32) X14 hx (hb hby own_d9_114) (by decide) (by decide) ?_
                    exact ih11 v33 r14 (1 : Int32) _ _ X14 e14 N14 (own_ms hv_v33 hi0 hc37_13 rfl hm11) (own_i1 hv_v33 hi0 hc37_13).1 (own_i1 hv_v33 hi0 hc37_13).2
                  · refine ow_icmpYesW (q := 98) X14 hx (hb hby own_d9_91) (Jvm.Free.XT.ii_ne_t hc91_32) (by decide) (by decide) ?_
                    exfalso
                    have hk := own_okI hp14
                    have cc0 := own_ltI hc49_15
                    have cc1 := own_nltI hc61_16
                    have cc2 := own_ltI hc67_28
                    have cc3 := own_ltI hc73_29
                    have cc4 := own_neI hc85_30
                    have cc5 := own_neI hc91_32
                    simp only [Int32.reduceToInt] at cc0 cc1 cc2 cc3 cc4 cc5
                    omega
              · refine ow_icmpNoW (q := 76) X14 hx (hb hby own_d9_73) rfl (Jvm.Free.XT.ii_lt_f hc73_29) ?_
                refine ow_iloadNW (q := 77) X14 hx (hb hby own_d9_76) rfl rfl ?_
                refine ow_bipushW (q := 79) X14 hx (57 : Int32) (hb hby own_d9_77) rfl rfl ?_
                by_cases hc79_34 : (57 : Int32) < r14
                · refine ow_icmpNoW (q := 82) X14 hx (hb hby own_d9_79) rfl (Jvm.Free.XT.ii_le_f hc79_34) ?_
                  refine ow_iloadNW (q := 83) X14 hx (hb hby own_d9_82) rfl rfl ?_
                  refine ow_bipushW (q := 85) X14 hx (95 : Int32) (hb hby own_d9_83) rfl rfl ?_
                  by_cases hc85_35 : r14 = (95 : Int32)
                  · refine ow_icmpYesW (q := 94) X14 hx (hb hby own_d9_85) (Jvm.Free.XT.ii_eq_t hc85_35) (by decide) (by decide) ?_
                    refine ow_iconstW (q := 95) X14 hx (1 : Int32) (hb hby own_d9_94) rfl rfl ?_
                    refine ow_gotoW (q := 99) X14 hx (hb hby own_d9_95) (by decide) (by decide) ?_
                    refine ow_istoreNW (q := 100) X14 hx (L' := #[rv sx, iv i, iv r14, iv (1 : Int32)]) (hb hby own_d9_99) rfl rfl ?_
                    refine ow_iloadNW (q := 101) X14 hx (hb hby own_d9_100) rfl rfl ?_
                    refine ow_ifYesW (q := 111) X14 hx (hb hby own_d9_101) (Jvm.Free.XT.i0_ne_t (by decide)) (by decide) (by decide) ?_
                    refine ow_iincW (q := 114) X14 hx (L' := #[rv sx, iv (i + (1 : Int32)), iv r14, iv (1 : Int32)]) (hb hby own_d9_111) rfl rfl rfl ?_
                    generalize hv_v36 : (i + (1 : Int32)) = v36
                    refine ow_gotoW (q := 32) X14 hx (hb hby own_d9_114) (by decide) (by decide) ?_
                    exact ih11 v36 r14 (1 : Int32) _ _ X14 e14 N14 (own_ms hv_v36 hi0 hc37_13 rfl hm11) (own_i1 hv_v36 hi0 hc37_13).1 (own_i1 hv_v36 hi0 hc37_13).2
                  · refine ow_icmpNoW (q := 88) X14 hx (hb hby own_d9_85) rfl (Jvm.Free.XT.ii_eq_f hc85_35) ?_
                    refine ow_iloadNW (q := 89) X14 hx (hb hby own_d9_88) rfl rfl ?_
                    refine ow_bipushW (q := 91) X14 hx (45 : Int32) (hb hby own_d9_89) rfl rfl ?_
                    by_cases hc91_37 : r14 = (45 : Int32)
                    · refine ow_icmpNoW (q := 94) X14 hx (hb hby own_d9_91) rfl (Jvm.Free.XT.ii_ne_f hc91_37) ?_
                      refine ow_iconstW (q := 95) X14 hx (1 : Int32) (hb hby own_d9_94) rfl rfl ?_
                      refine ow_gotoW (q := 99) X14 hx (hb hby own_d9_95) (by decide) (by decide) ?_
                      refine ow_istoreNW (q := 100) X14 hx (L' := #[rv sx, iv i, iv r14, iv (1 : Int32)]) (hb hby own_d9_99) rfl rfl ?_
                      refine ow_iloadNW (q := 101) X14 hx (hb hby own_d9_100) rfl rfl ?_
                      refine ow_ifYesW (q := 111) X14 hx (hb hby own_d9_101) (Jvm.Free.XT.i0_ne_t (by decide)) (by decide) (by decide) ?_
                      refine ow_iincW (q := 114) X14 hx (L' := #[rv sx, iv (i + (1 : Int32)), iv r14, iv (1 : Int32)]) (hb hby own_d9_111) rfl rfl rfl ?_
                      generalize hv_v38 : (i + (1 : Int32)) = v38
                      refine ow_gotoW (q := 32) X14 hx (hb hby own_d9_114) (by decide) (by decide) ?_
                      exact ih11 v38 r14 (1 : Int32) _ _ X14 e14 N14 (own_ms hv_v38 hi0 hc37_13 rfl hm11) (own_i1 hv_v38 hi0 hc37_13).1 (own_i1 hv_v38 hi0 hc37_13).2
                    · refine ow_icmpYesW (q := 98) X14 hx (hb hby own_d9_91) (Jvm.Free.XT.ii_ne_t hc91_37) (by decide) (by decide) ?_
                      exfalso
                      have hk := own_okI hp14
                      have cc0 := own_ltI hc49_15
                      have cc1 := own_nltI hc61_16
                      have cc2 := own_ltI hc67_28
                      have cc3 := own_nltI hc73_29
                      have cc4 := own_ltI hc79_34
                      have cc5 := own_neI hc85_35
                      have cc6 := own_neI hc91_37
                      simp only [Int32.reduceToInt] at cc0 cc1 cc2 cc3 cc4 cc5 cc6
                      omega
                · refine ow_icmpYesW (q := 94) X14 hx (hb hby own_d9_79) (Jvm.Free.XT.ii_le_t hc79_34) (by decide) (by decide) ?_
                  refine ow_iconstW (q := 95) X14 hx (1 : Int32) (hb hby own_d9_94) rfl rfl ?_
                  refine ow_gotoW (q := 99) X14 hx (hb hby own_d9_95) (by decide) (by decide) ?_
                  refine ow_istoreNW (q := 100) X14 hx (L' := #[rv sx, iv i, iv r14, iv (1 : Int32)]) (hb hby own_d9_99) rfl rfl ?_
                  refine ow_iloadNW (q := 101) X14 hx (hb hby own_d9_100) rfl rfl ?_
                  refine ow_ifYesW (q := 111) X14 hx (hb hby own_d9_101) (Jvm.Free.XT.i0_ne_t (by decide)) (by decide) (by decide) ?_
                  refine ow_iincW (q := 114) X14 hx (L' := #[rv sx, iv (i + (1 : Int32)), iv r14, iv (1 : Int32)]) (hb hby own_d9_111) rfl rfl rfl ?_
                  generalize hv_v39 : (i + (1 : Int32)) = v39
                  refine ow_gotoW (q := 32) X14 hx (hb hby own_d9_114) (by decide) (by decide) ?_
                  exact ih11 v39 r14 (1 : Int32) _ _ X14 e14 N14 (own_ms hv_v39 hi0 hc37_13 rfl hm11) (own_i1 hv_v39 hi0 hc37_13).1 (own_i1 hv_v39 hi0 hc37_13).2
            · refine ow_icmpYesW (q := 94) X14 hx (hb hby own_d9_67) (Jvm.Free.XT.ii_le_t hc67_28) (by decide) (by decide) ?_
              refine ow_iconstW (q := 95) X14 hx (1 : Int32) (hb hby own_d9_94) rfl rfl ?_
              refine ow_gotoW (q := 99) X14 hx (hb hby own_d9_95) (by decide) (by decide) ?_
              refine ow_istoreNW (q := 100) X14 hx (L' := #[rv sx, iv i, iv r14, iv (1 : Int32)]) (hb hby own_d9_99) rfl rfl ?_
              refine ow_iloadNW (q := 101) X14 hx (hb hby own_d9_100) rfl rfl ?_
              refine ow_ifYesW (q := 111) X14 hx (hb hby own_d9_101) (Jvm.Free.XT.i0_ne_t (by decide)) (by decide) (by decide) ?_
              refine ow_iincW (q := 114) X14 hx (L' := #[rv sx, iv (i + (1 : Int32)), iv r14, iv (1 : Int32)]) (hb hby own_d9_111) rfl rfl rfl ?_
              generalize hv_v40 : (i + (1 : Int32)) = v40
              refine ow_gotoW (q := 32) X14 hx (hb hby own_d9_114) (by decide) (by decide) ?_
              exact ih11 v40 r14 (1 : Int32) _ _ X14 e14 N14 (own_ms hv_v40 hi0 hc37_13 rfl hm11) (own_i1 hv_v40 hi0 hc37_13).1 (own_i1 hv_v40 hi0 hc37_13).2
        · refine ow_icmpNoW (q := 52) X14 hx (hb hby own_d9_49) rfl (Jvm.Free.XT.ii_lt_f hc49_15) ?_
          refine ow_iloadNW (q := 53) X14 hx (hb hby own_d9_52) rfl rfl ?_
          refine ow_bipushW (q := 55) X14 hx (122 : Int32) (hb hby own_d9_53) rfl rfl ?_
          by_cases hc55_41 : (122 : Int32) < r14
          · refine ow_icmpNoW (q := 58) X14 hx (hb hby own_d9_55) rfl (Jvm.Free.XT.ii_le_f hc55_41) ?_
            refine ow_iloadNW (q := 59) X14 hx (hb hby own_d9_58) rfl rfl ?_
            refine ow_bipushW (q := 61) X14 hx (65 : Int32) (hb hby own_d9_59) rfl rfl ?_
            by_cases hc61_42 : r14 < (65 : Int32)
            · refine ow_icmpYesW (q := 70) X14 hx (hb hby own_d9_61) (Jvm.Free.XT.ii_lt_t hc61_42) (by decide) (by decide) ?_
              refine ow_iloadNW (q := 71) X14 hx (hb hby own_d9_70) rfl rfl ?_
              refine ow_bipushW (q := 73) X14 hx (48 : Int32) (hb hby own_d9_71) rfl rfl ?_
              by_cases hc73_43 : r14 < (48 : Int32)
              · refine ow_icmpYesW (q := 82) X14 hx (hb hby own_d9_73) (Jvm.Free.XT.ii_lt_t hc73_43) (by decide) (by decide) ?_
                refine ow_iloadNW (q := 83) X14 hx (hb hby own_d9_82) rfl rfl ?_
                refine ow_bipushW (q := 85) X14 hx (95 : Int32) (hb hby own_d9_83) rfl rfl ?_
                by_cases hc85_44 : r14 = (95 : Int32)
                · refine ow_icmpYesW (q := 94) X14 hx (hb hby own_d9_85) (Jvm.Free.XT.ii_eq_t hc85_44) (by decide) (by decide) ?_
                  refine ow_iconstW (q := 95) X14 hx (1 : Int32) (hb hby own_d9_94) rfl rfl ?_
                  refine ow_gotoW (q := 99) X14 hx (hb hby own_d9_95) (by decide) (by decide) ?_
                  refine ow_istoreNW (q := 100) X14 hx (L' := #[rv sx, iv i, iv r14, iv (1 : Int32)]) (hb hby own_d9_99) rfl rfl ?_
                  refine ow_iloadNW (q := 101) X14 hx (hb hby own_d9_100) rfl rfl ?_
                  refine ow_ifYesW (q := 111) X14 hx (hb hby own_d9_101) (Jvm.Free.XT.i0_ne_t (by decide)) (by decide) (by decide) ?_
                  refine ow_iincW (q := 114) X14 hx (L' := #[rv sx, iv (i + (1 : Int32)), iv r14, iv (1 : Int32)]) (hb hby own_d9_111) rfl rfl rfl ?_
                  generalize hv_v45 : (i + (1 : Int32)) = v45
                  refine ow_gotoW (q := 32) X14 hx (hb hby own_d9_114) (by decide) (by decide) ?_
                  exact ih11 v45 r14 (1 : Int32) _ _ X14 e14 N14 (own_ms hv_v45 hi0 hc37_13 rfl hm11) (own_i1 hv_v45 hi0 hc37_13).1 (own_i1 hv_v45 hi0 hc37_13).2
                · refine ow_icmpNoW (q := 88) X14 hx (hb hby own_d9_85) rfl (Jvm.Free.XT.ii_eq_f hc85_44) ?_
                  refine ow_iloadNW (q := 89) X14 hx (hb hby own_d9_88) rfl rfl ?_
                  refine ow_bipushW (q := 91) X14 hx (45 : Int32) (hb hby own_d9_89) rfl rfl ?_
                  by_cases hc91_46 : r14 = (45 : Int32)
                  · refine ow_icmpNoW (q := 94) X14 hx (hb hby own_d9_91) rfl (Jvm.Free.XT.ii_ne_f hc91_46) ?_
                    refine ow_iconstW (q := 95) X14 hx (1 : Int32) (hb hby own_d9_94) rfl rfl ?_
                    refine ow_gotoW (q := 99) X14 hx (hb hby own_d9_95) (by decide) (by decide) ?_
                    refine ow_istoreNW (q := 100) X14 hx (L' := #[rv sx, iv i, iv r14, iv (1 : Int32)]) (hb hby own_d9_99) rfl rfl ?_
                    refine ow_iloadNW (q := 101) X14 hx (hb hby own_d9_100) rfl rfl ?_
                    refine ow_ifYesW (q := 111) X14 hx (hb hby own_d9_101) (Jvm.Free.XT.i0_ne_t (by decide)) (by decide) (by decide) ?_
                    refine ow_iincW (q := 114) X14 hx (L' := #[rv sx, iv (i + (1 : Int32)), iv r14, iv (1 : Int32)]) (hb hby own_d9_111) rfl rfl rfl ?_
                    generalize hv_v47 : (i + (1 : Int32)) = v47
                    refine ow_gotoW (q := 32) X14 hx (hb hby own_d9_114) (by decide) (by decide) ?_
                    exact ih11 v47 r14 (1 : Int32) _ _ X14 e14 N14 (own_ms hv_v47 hi0 hc37_13 rfl hm11) (own_i1 hv_v47 hi0 hc37_13).1 (own_i1 hv_v47 hi0 hc37_13).2
                  · refine ow_icmpYesW (q := 98) X14 hx (hb hby own_d9_91) (Jvm.Free.XT.ii_ne_t hc91_46) (by decide) (by decide) ?_
                    exfalso
                    have hk := own_okI hp14
                    have cc0 := own_nltI hc49_15
                    have cc1 := own_ltI hc55_41
                    have cc2 := own_ltI hc61_42
                    have cc3 := own_ltI hc73_43
                    have cc4 := own_neI hc85_44
                    have cc5 := own_neI hc91_46
                    simp only [Int32.reduceToInt] at cc0 cc1 cc2 cc3 cc4 cc5
                    omega
              · refine ow_icmpNoW (q := 76) X14 hx (hb hby own_d9_73) rfl (Jvm.Free.XT.ii_lt_f hc73_43) ?_
                refine ow_iloadNW (q := 77) X14 hx (hb hby own_d9_76) rfl rfl ?_
                refine ow_bipushW (q := 79) X14 hx (57 : Int32) (hb hby own_d9_77) rfl rfl ?_
                by_cases hc79_48 : (57 : Int32) < r14
                · refine ow_icmpNoW (q := 82) X14 hx (hb hby own_d9_79) rfl (Jvm.Free.XT.ii_le_f hc79_48) ?_
                  refine ow_iloadNW (q := 83) X14 hx (hb hby own_d9_82) rfl rfl ?_
                  refine ow_bipushW (q := 85) X14 hx (95 : Int32) (hb hby own_d9_83) rfl rfl ?_
                  by_cases hc85_49 : r14 = (95 : Int32)
                  · refine ow_icmpYesW (q := 94) X14 hx (hb hby own_d9_85) (Jvm.Free.XT.ii_eq_t hc85_49) (by decide) (by decide) ?_
                    refine ow_iconstW (q := 95) X14 hx (1 : Int32) (hb hby own_d9_94) rfl rfl ?_
                    refine ow_gotoW (q := 99) X14 hx (hb hby own_d9_95) (by decide) (by decide) ?_
                    refine ow_istoreNW (q := 100) X14 hx (L' := #[rv sx, iv i, iv r14, iv (1 : Int32)]) (hb hby own_d9_99) rfl rfl ?_
                    refine ow_iloadNW (q := 101) X14 hx (hb hby own_d9_100) rfl rfl ?_
                    refine ow_ifYesW (q := 111) X14 hx (hb hby own_d9_101) (Jvm.Free.XT.i0_ne_t (by decide)) (by decide) (by decide) ?_
                    refine ow_iincW (q := 114) X14 hx (L' := #[rv sx, iv (i + (1 : Int32)), iv r14, iv (1 : Int32)]) (hb hby own_d9_111) rfl rfl rfl ?_
                    generalize hv_v50 : (i + (1 : Int32)) = v50
                    refine ow_gotoW (q := 32) X14 hx (hb hby own_d9_114) (by decide) (by decide) ?_
                    exact ih11 v50 r14 (1 : Int32) _ _ X14 e14 N14 (own_ms hv_v50 hi0 hc37_13 rfl hm11) (own_i1 hv_v50 hi0 hc37_13).1 (own_i1 hv_v50 hi0 hc37_13).2
                  · refine ow_icmpNoW (q := 88) X14 hx (hb hby own_d9_85) rfl (Jvm.Free.XT.ii_eq_f hc85_49) ?_
                    refine ow_iloadNW (q := 89) X14 hx (hb hby own_d9_88) rfl rfl ?_
                    refine ow_bipushW (q := 91) X14 hx (45 : Int32) (hb hby own_d9_89) rfl rfl ?_
                    by_cases hc91_51 : r14 = (45 : Int32)
                    · refine ow_icmpNoW (q := 94) X14 hx (hb hby own_d9_91) rfl (Jvm.Free.XT.ii_ne_f hc91_51) ?_
                      refine ow_iconstW (q := 95) X14 hx (1 : Int32) (hb hby own_d9_94) rfl rfl ?_
                      refine ow_gotoW (q := 99) X14 hx (hb hby own_d9_95) (by decide) (by decide) ?_
                      refine ow_istoreNW (q := 100) X14 hx (L' := #[rv sx, iv i, iv r14, iv (1 : Int32)]) (hb hby own_d9_99) rfl rfl ?_
                      refine ow_iloadNW (q := 101) X14 hx (hb hby own_d9_100) rfl rfl ?_
                      refine ow_ifYesW (q := 111) X14 hx (hb hby own_d9_101) (Jvm.Free.XT.i0_ne_t (by decide)) (by decide) (by decide) ?_
                      refine ow_iincW (q := 114) X14 hx (L' := #[rv sx, iv (i + (1 : Int32)), iv r14, iv (1 : Int32)]) (hb hby own_d9_111) rfl rfl rfl ?_
                      generalize hv_v52 : (i + (1 : Int32)) = v52
                      refine ow_gotoW (q := 32) X14 hx (hb hby own_d9_114) (by decide) (by decide) ?_
                      exact ih11 v52 r14 (1 : Int32) _ _ X14 e14 N14 (own_ms hv_v52 hi0 hc37_13 rfl hm11) (own_i1 hv_v52 hi0 hc37_13).1 (own_i1 hv_v52 hi0 hc37_13).2
                    · refine ow_icmpYesW (q := 98) X14 hx (hb hby own_d9_91) (Jvm.Free.XT.ii_ne_t hc91_51) (by decide) (by decide) ?_
                      exfalso
                      have hk := own_okI hp14
                      have cc0 := own_nltI hc49_15
                      have cc1 := own_ltI hc55_41
                      have cc2 := own_ltI hc61_42
                      have cc3 := own_nltI hc73_43
                      have cc4 := own_ltI hc79_48
                      have cc5 := own_neI hc85_49
                      have cc6 := own_neI hc91_51
                      simp only [Int32.reduceToInt] at cc0 cc1 cc2 cc3 cc4 cc5 cc6
                      omega
                · refine ow_icmpYesW (q := 94) X14 hx (hb hby own_d9_79) (Jvm.Free.XT.ii_le_t hc79_48) (by decide) (by decide) ?_
                  refine ow_iconstW (q := 95) X14 hx (1 : Int32) (hb hby own_d9_94) rfl rfl ?_
                  refine ow_gotoW (q := 99) X14 hx (hb hby own_d9_95) (by decide) (by decide) ?_
                  refine ow_istoreNW (q := 100) X14 hx (L' := #[rv sx, iv i, iv r14, iv (1 : Int32)]) (hb hby own_d9_99) rfl rfl ?_
                  refine ow_iloadNW (q := 101) X14 hx (hb hby own_d9_100) rfl rfl ?_
                  refine ow_ifYesW (q := 111) X14 hx (hb hby own_d9_101) (Jvm.Free.XT.i0_ne_t (by decide)) (by decide) (by decide) ?_
                  refine ow_iincW (q := 114) X14 hx (L' := #[rv sx, iv (i + (1 : Int32)), iv r14, iv (1 : Int32)]) (hb hby own_d9_111) rfl rfl rfl ?_
                  generalize hv_v53 : (i + (1 : Int32)) = v53
                  refine ow_gotoW (q := 32) X14 hx (hb hby own_d9_114) (by decide) (by decide) ?_
                  exact ih11 v53 r14 (1 : Int32) _ _ X14 e14 N14 (own_ms hv_v53 hi0 hc37_13 rfl hm11) (own_i1 hv_v53 hi0 hc37_13).1 (own_i1 hv_v53 hi0 hc37_13).2
            · refine ow_icmpNoW (q := 64) X14 hx (hb hby own_d9_61) rfl (Jvm.Free.XT.ii_lt_f hc61_42) ?_
              refine ow_iloadNW (q := 65) X14 hx (hb hby own_d9_64) rfl rfl ?_
              refine ow_bipushW (q := 67) X14 hx (90 : Int32) (hb hby own_d9_65) rfl rfl ?_
              by_cases hc67_54 : (90 : Int32) < r14
              · refine ow_icmpNoW (q := 70) X14 hx (hb hby own_d9_67) rfl (Jvm.Free.XT.ii_le_f hc67_54) ?_
                refine ow_iloadNW (q := 71) X14 hx (hb hby own_d9_70) rfl rfl ?_
                refine ow_bipushW (q := 73) X14 hx (48 : Int32) (hb hby own_d9_71) rfl rfl ?_
                by_cases hc73_55 : r14 < (48 : Int32)
                · refine ow_icmpYesW (q := 82) X14 hx (hb hby own_d9_73) (Jvm.Free.XT.ii_lt_t hc73_55) (by decide) (by decide) ?_
                  refine ow_iloadNW (q := 83) X14 hx (hb hby own_d9_82) rfl rfl ?_
                  refine ow_bipushW (q := 85) X14 hx (95 : Int32) (hb hby own_d9_83) rfl rfl ?_
                  by_cases hc85_56 : r14 = (95 : Int32)
                  · refine ow_icmpYesW (q := 94) X14 hx (hb hby own_d9_85) (Jvm.Free.XT.ii_eq_t hc85_56) (by decide) (by decide) ?_
                    refine ow_iconstW (q := 95) X14 hx (1 : Int32) (hb hby own_d9_94) rfl rfl ?_
                    refine ow_gotoW (q := 99) X14 hx (hb hby own_d9_95) (by decide) (by decide) ?_
                    refine ow_istoreNW (q := 100) X14 hx (L' := #[rv sx, iv i, iv r14, iv (1 : Int32)]) (hb hby own_d9_99) rfl rfl ?_
                    refine ow_iloadNW (q := 101) X14 hx (hb hby own_d9_100) rfl rfl ?_
                    refine ow_ifYesW (q := 111) X14 hx (hb hby own_d9_101) (Jvm.Free.XT.i0_ne_t (by decide)) (by decide) (by decide) ?_
                    refine ow_iincW (q := 114) X14 hx (L' := #[rv sx, iv (i + (1 : Int32)), iv r14, iv (1 : Int32)]) (hb hby own_d9_111) rfl rfl rfl ?_
                    generalize hv_v57 : (i + (1 : Int32)) = v57
                    refine ow_gotoW (q := 32) X14 hx (hb hby own_d9_114) (by decide) (by decide) ?_
                    exact ih11 v57 r14 (1 : Int32) _ _ X14 e14 N14 (own_ms hv_v57 hi0 hc37_13 rfl hm11) (own_i1 hv_v57 hi0 hc37_13).1 (own_i1 hv_v57 hi0 hc37_13).2
                  · refine ow_icmpNoW (q := 88) X14 hx (hb hby own_d9_85) rfl (Jvm.Free.XT.ii_eq_f hc85_56) ?_
                    refine ow_iloadNW (q := 89) X14 hx (hb hby own_d9_88) rfl rfl ?_
                    refine ow_bipushW (q := 91) X14 hx (45 : Int32) (hb hby own_d9_89) rfl rfl ?_
                    by_cases hc91_58 : r14 = (45 : Int32)
                    · refine ow_icmpNoW (q := 94) X14 hx (hb hby own_d9_91) rfl (Jvm.Free.XT.ii_ne_f hc91_58) ?_
                      refine ow_iconstW (q := 95) X14 hx (1 : Int32) (hb hby own_d9_94) rfl rfl ?_
                      refine ow_gotoW (q := 99) X14 hx (hb hby own_d9_95) (by decide) (by decide) ?_
                      refine ow_istoreNW (q := 100) X14 hx (L' := #[rv sx, iv i, iv r14, iv (1 : Int32)]) (hb hby own_d9_99) rfl rfl ?_
                      refine ow_iloadNW (q := 101) X14 hx (hb hby own_d9_100) rfl rfl ?_
                      refine ow_ifYesW (q := 111) X14 hx (hb hby own_d9_101) (Jvm.Free.XT.i0_ne_t (by decide)) (by decide) (by decide) ?_
                      refine ow_iincW (q := 114) X14 hx (L' := #[rv sx, iv (i + (1 : Int32)), iv r14, iv (1 : Int32)]) (hb hby own_d9_111) rfl rfl rfl ?_
                      generalize hv_v59 : (i + (1 : Int32)) = v59
                      refine ow_gotoW (q := 32) X14 hx (hb hby own_d9_114) (by decide) (by decide) ?_
                      exact ih11 v59 r14 (1 : Int32) _ _ X14 e14 N14 (own_ms hv_v59 hi0 hc37_13 rfl hm11) (own_i1 hv_v59 hi0 hc37_13).1 (own_i1 hv_v59 hi0 hc37_13).2
                    · refine ow_icmpYesW (q := 98) X14 hx (hb hby own_d9_91) (Jvm.Free.XT.ii_ne_t hc91_58) (by decide) (by decide) ?_
                      exfalso
                      have hk := own_okI hp14
                      have cc0 := own_nltI hc49_15
                      have cc1 := own_ltI hc55_41
                      have cc2 := own_nltI hc61_42
                      have cc3 := own_ltI hc67_54
                      have cc4 := own_ltI hc73_55
                      have cc5 := own_neI hc85_56
                      have cc6 := own_neI hc91_58
                      simp only [Int32.reduceToInt] at cc0 cc1 cc2 cc3 cc4 cc5 cc6
                      omega
                · refine ow_icmpNoW (q := 76) X14 hx (hb hby own_d9_73) rfl (Jvm.Free.XT.ii_lt_f hc73_55) ?_
                  refine ow_iloadNW (q := 77) X14 hx (hb hby own_d9_76) rfl rfl ?_
                  refine ow_bipushW (q := 79) X14 hx (57 : Int32) (hb hby own_d9_77) rfl rfl ?_
                  by_cases hc79_60 : (57 : Int32) < r14
                  · refine ow_icmpNoW (q := 82) X14 hx (hb hby own_d9_79) rfl (Jvm.Free.XT.ii_le_f hc79_60) ?_
                    refine ow_iloadNW (q := 83) X14 hx (hb hby own_d9_82) rfl rfl ?_
                    refine ow_bipushW (q := 85) X14 hx (95 : Int32) (hb hby own_d9_83) rfl rfl ?_
                    by_cases hc85_61 : r14 = (95 : Int32)
                    · refine ow_icmpYesW (q := 94) X14 hx (hb hby own_d9_85) (Jvm.Free.XT.ii_eq_t hc85_61) (by decide) (by decide) ?_
                      refine ow_iconstW (q := 95) X14 hx (1 : Int32) (hb hby own_d9_94) rfl rfl ?_
                      refine ow_gotoW (q := 99) X14 hx (hb hby own_d9_95) (by decide) (by decide) ?_
                      refine ow_istoreNW (q := 100) X14 hx (L' := #[rv sx, iv i, iv r14, iv (1 : Int32)]) (hb hby own_d9_99) rfl rfl ?_
                      refine ow_iloadNW (q := 101) X14 hx (hb hby own_d9_100) rfl rfl ?_
                      refine ow_ifYesW (q := 111) X14 hx (hb hby own_d9_101) (Jvm.Free.XT.i0_ne_t (by decide)) (by decide) (by decide) ?_
                      refine ow_iincW (q := 114) X14 hx (L' := #[rv sx, iv (i + (1 : Int32)), iv r14, iv (1 : Int32)]) (hb hby own_d9_111) rfl rfl rfl ?_
                      generalize hv_v62 : (i + (1 : Int32)) = v62
                      refine ow_gotoW (q := 32) X14 hx (hb hby own_d9_114) (by decide) (by decide) ?_
                      exact ih11 v62 r14 (1 : Int32) _ _ X14 e14 N14 (own_ms hv_v62 hi0 hc37_13 rfl hm11) (own_i1 hv_v62 hi0 hc37_13).1 (own_i1 hv_v62 hi0 hc37_13).2
                    · refine ow_icmpNoW (q := 88) X14 hx (hb hby own_d9_85) rfl (Jvm.Free.XT.ii_eq_f hc85_61) ?_
                      refine ow_iloadNW (q := 89) X14 hx (hb hby own_d9_88) rfl rfl ?_
                      refine ow_bipushW (q := 91) X14 hx (45 : Int32) (hb hby own_d9_89) rfl rfl ?_
                      by_cases hc91_63 : r14 = (45 : Int32)
                      · refine ow_icmpNoW (q := 94) X14 hx (hb hby own_d9_91) rfl (Jvm.Free.XT.ii_ne_f hc91_63) ?_
                        refine ow_iconstW (q := 95) X14 hx (1 : Int32) (hb hby own_d9_94) rfl rfl ?_
                        refine ow_gotoW (q := 99) X14 hx (hb hby own_d9_95) (by decide) (by decide) ?_
                        refine ow_istoreNW (q := 100) X14 hx (L' := #[rv sx, iv i, iv r14, iv (1 : Int32)]) (hb hby own_d9_99) rfl rfl ?_
                        refine ow_iloadNW (q := 101) X14 hx (hb hby own_d9_100) rfl rfl ?_
                        refine ow_ifYesW (q := 111) X14 hx (hb hby own_d9_101) (Jvm.Free.XT.i0_ne_t (by decide)) (by decide) (by decide) ?_
                        refine ow_iincW (q := 114) X14 hx (L' := #[rv sx, iv (i + (1 : Int32)), iv r14, iv (1 : Int32)]) (hb hby own_d9_111) rfl rfl rfl ?_
                        generalize hv_v64 : (i + (1 : Int32)) = v64
                        refine ow_gotoW (q := 32) X14 hx (hb hby own_d9_114) (by decide) (by decide) ?_
                        exact ih11 v64 r14 (1 : Int32) _ _ X14 e14 N14 (own_ms hv_v64 hi0 hc37_13 rfl hm11) (own_i1 hv_v64 hi0 hc37_13).1 (own_i1 hv_v64 hi0 hc37_13).2
                      · refine ow_icmpYesW (q := 98) X14 hx (hb hby own_d9_91) (Jvm.Free.XT.ii_ne_t hc91_63) (by decide) (by decide) ?_
                        exfalso
                        have hk := own_okI hp14
                        have cc0 := own_nltI hc49_15
                        have cc1 := own_ltI hc55_41
                        have cc2 := own_nltI hc61_42
                        have cc3 := own_ltI hc67_54
                        have cc4 := own_nltI hc73_55
                        have cc5 := own_ltI hc79_60
                        have cc6 := own_neI hc85_61
                        have cc7 := own_neI hc91_63
                        simp only [Int32.reduceToInt] at cc0 cc1 cc2 cc3 cc4 cc5 cc6 cc7
                        omega
                  · refine ow_icmpYesW (q := 94) X14 hx (hb hby own_d9_79) (Jvm.Free.XT.ii_le_t hc79_60) (by decide) (by decide) ?_
                    refine ow_iconstW (q := 95) X14 hx (1 : Int32) (hb hby own_d9_94) rfl rfl ?_
                    refine ow_gotoW (q := 99) X14 hx (hb hby own_d9_95) (by decide) (by decide) ?_
                    refine ow_istoreNW (q := 100) X14 hx (L' := #[rv sx, iv i, iv r14, iv (1 : Int32)]) (hb hby own_d9_99) rfl rfl ?_
                    refine ow_iloadNW (q := 101) X14 hx (hb hby own_d9_100) rfl rfl ?_
                    refine ow_ifYesW (q := 111) X14 hx (hb hby own_d9_101) (Jvm.Free.XT.i0_ne_t (by decide)) (by decide) (by decide) ?_
                    refine ow_iincW (q := 114) X14 hx (L' := #[rv sx, iv (i + (1 : Int32)), iv r14, iv (1 : Int32)]) (hb hby own_d9_111) rfl rfl rfl ?_
                    generalize hv_v65 : (i + (1 : Int32)) = v65
                    refine ow_gotoW (q := 32) X14 hx (hb hby own_d9_114) (by decide) (by decide) ?_
                    exact ih11 v65 r14 (1 : Int32) _ _ X14 e14 N14 (own_ms hv_v65 hi0 hc37_13 rfl hm11) (own_i1 hv_v65 hi0 hc37_13).1 (own_i1 hv_v65 hi0 hc37_13).2
              · refine ow_icmpYesW (q := 94) X14 hx (hb hby own_d9_67) (Jvm.Free.XT.ii_le_t hc67_54) (by decide) (by decide) ?_
                refine ow_iconstW (q := 95) X14 hx (1 : Int32) (hb hby own_d9_94) rfl rfl ?_
                refine ow_gotoW (q := 99) X14 hx (hb hby own_d9_95) (by decide) (by decide) ?_
                refine ow_istoreNW (q := 100) X14 hx (L' := #[rv sx, iv i, iv r14, iv (1 : Int32)]) (hb hby own_d9_99) rfl rfl ?_
                refine ow_iloadNW (q := 101) X14 hx (hb hby own_d9_100) rfl rfl ?_
                refine ow_ifYesW (q := 111) X14 hx (hb hby own_d9_101) (Jvm.Free.XT.i0_ne_t (by decide)) (by decide) (by decide) ?_
                refine ow_iincW (q := 114) X14 hx (L' := #[rv sx, iv (i + (1 : Int32)), iv r14, iv (1 : Int32)]) (hb hby own_d9_111) rfl rfl rfl ?_
                generalize hv_v66 : (i + (1 : Int32)) = v66
                refine ow_gotoW (q := 32) X14 hx (hb hby own_d9_114) (by decide) (by decide) ?_
                exact ih11 v66 r14 (1 : Int32) _ _ X14 e14 N14 (own_ms hv_v66 hi0 hc37_13 rfl hm11) (own_i1 hv_v66 hi0 hc37_13).1 (own_i1 hv_v66 hi0 hc37_13).2
          · refine ow_icmpYesW (q := 94) X14 hx (hb hby own_d9_55) (Jvm.Free.XT.ii_le_t hc55_41) (by decide) (by decide) ?_
            refine ow_iconstW (q := 95) X14 hx (1 : Int32) (hb hby own_d9_94) rfl rfl ?_
            refine ow_gotoW (q := 99) X14 hx (hb hby own_d9_95) (by decide) (by decide) ?_
            refine ow_istoreNW (q := 100) X14 hx (L' := #[rv sx, iv i, iv r14, iv (1 : Int32)]) (hb hby own_d9_99) rfl rfl ?_
            refine ow_iloadNW (q := 101) X14 hx (hb hby own_d9_100) rfl rfl ?_
            refine ow_ifYesW (q := 111) X14 hx (hb hby own_d9_101) (Jvm.Free.XT.i0_ne_t (by decide)) (by decide) (by decide) ?_
            refine ow_iincW (q := 114) X14 hx (L' := #[rv sx, iv (i + (1 : Int32)), iv r14, iv (1 : Int32)]) (hb hby own_d9_111) rfl rfl rfl ?_
            generalize hv_v67 : (i + (1 : Int32)) = v67
            refine ow_gotoW (q := 32) X14 hx (hb hby own_d9_114) (by decide) (by decide) ?_
            exact ih11 v67 r14 (1 : Int32) _ _ X14 e14 N14 (own_ms hv_v67 hi0 hc37_13 rfl hm11) (own_i1 hv_v67 hi0 hc37_13).1 (own_i1 hv_v67 hi0 hc37_13).2
      · refine ow_icmpYesW (q := 117) X12 hx (hb hby own_d9_37) (Jvm.Free.XT.ii_ge_t hc37_13) (by decide) (by decide) ?_
        refine ow_aloadNW (q := 118) X12 hx (hb hby own_d9_117) rfl rfl rfl ?_
        refine ownRetRW X12 hx rfl rfl rfl Bd.returns (hb hby own_d9_118) hlk (by decide) (by decide) ?_
        refine ⟨?_, (by rw [e12]; exact Nat.le_refl _)⟩
        rw [e12]
        exact ⟨rfl, N12, K1⟩
  refine ow_iloadNW (q := 33) X10 hx (hb hby own_d9_32) rfl rfl ?_
  refine ow_aloadNW (q := 34) X10 hx (hb hby own_d9_33) rfl rfl rfl ?_
  obtain ⟨cq68, kq68, q68a, q68b, q68c⟩ := isOf hZ e10 F2
  obtain ⟨_, _, ⟨T68, L68, k68, n68⟩, -, X68, ⟨Lc68, hQ68, l68, y68, z68⟩, st68⟩ := X10.virtualBack hx (y := (⟨"java/lang/String", "length", "()I"⟩ : MethodName)) (z := (⟨"java/lang/String", "length", "()I"⟩ : MethodName)) hown (mvT hZ (ww 54 rfl)) (mvT hZ (ww 55 rfl)) (notFace_of_selects (args := #[]) (mvT hZ (ww 57 rfl))) (mvT hZ (ww 57 rfl)) (mvT hZ (ww 56 rfl)) (by decide) (backOf (W := 1) (rm_length1 l Z av0 hw [] sx t gb zc h1 n0 (Nat.le_trans Z0 K1.1) F2 F3 F4 F5 F6 hz) hZ (ww 58 rfl) (ww 11 rfl) (by decide) (by decide)) q68a q68c (g := (mkF m 34 #[rv sx, iv (0 : Int32), .unset, .unset] [(.ref sx), (.int (0 : Int32))])) rfl (by rw [hml]; rfl) (Steps.refl _) (argsL := []) (rest := [(.int (0 : Int32))]) (lenOf own_pd7 rfl) rfl (by show 2 * 0 + _ ≤ _; exact Nat.le_of_eq rfl) (hb hby own_d9_34) (fun _ _ => ⟨rfl, e10, (by decide : 2 + 0 ≤ _), (by decide : 12 + 0 ≤ _)⟩)
  dsimp only [Pt.U, Pt.locs, Pt.cells, Pt.slots] at X68 l68 y68 z68 st68 hQ68
  subst l68 y68 z68
  obtain ⟨rfl, N68q, e68⟩ := hQ68
  have N68 := Fr.app N10 N68q
  refine ownRunW (T' := T68) (f' := (mkF m 37 #[rv sx, iv (0 : Int32), .unset, .unset] [(.int (1 : Int32)), (.int (0 : Int32))])) st68 ?_
  refine ow_icmpNoW (q := 40) X68 hx (hb hby own_d9_37) rfl (Jvm.Free.XT.ii_ge_f (by decide)) ?_
  refine ow_aloadNW (q := 41) X68 hx (hb hby own_d9_40) rfl rfl rfl ?_
  refine ow_iloadNW (q := 42) X68 hx (hb hby own_d9_41) rfl rfl ?_
  obtain ⟨cq69, kq69, q69a, q69b, q69c⟩ := isOf hZ e68 F2
  obtain ⟨_, _, ⟨T69, L69, k69, n69⟩, -, X69, ⟨Lc69, hQ69, l69, y69, z69⟩, st69⟩ := X68.virtualBack hx (y := (⟨"java/lang/String", "charAt", "(I)C"⟩ : MethodName)) (z := (⟨"java/lang/String", "charAt", "(I)C"⟩ : MethodName)) hown (mvT hZ (ww 64 rfl)) (mvT hZ (ww 65 rfl)) (notFace_of_selects (args := #[]) (mvT hZ (ww 67 rfl))) (mvT hZ (ww 67 rfl)) (mvT hZ (ww 66 rfl)) (by decide) (backOf (W := 0) (rm_charAt1 l Z av0 hw [] sx (0 : Int32) t gb zc fm h1 n0 (Nat.le_trans Z0 K1.1) F2 F3 F4 F5 F6 F7 (by decide) (by decide) hz hr_fm hok) hZ (ww 68 rfl) (ww 11 rfl) (by decide) (by decide)) q69a q69c (g := (mkF m 42 #[rv sx, iv (0 : Int32), .unset, .unset] [(.int (0 : Int32)), (.ref sx)])) rfl (by rw [hml]; rfl) (Steps.refl _) (argsL := [(.int (0 : Int32))]) (rest := []) (lenOf own_pd0 rfl) rfl (by show 2 * 0 + _ ≤ _; exact Nat.le_of_eq rfl) (hb hby own_d9_42) (fun _ _ => ⟨rfl, e68, (by decide : 2 + 0 ≤ _), (by decide : 12 + 0 ≤ _)⟩)
  dsimp only [Pt.U, Pt.locs, Pt.cells, Pt.slots] at X69 l69 y69 z69 st69 hQ69
  subst l69 y69 z69
  obtain ⟨r69, rfl, N69q, e69, hp69⟩ := hQ69
  have N69 := Fr.app N68 N69q
  refine ownRunW (T' := T69) (f' := (mkF m 45 #[rv sx, iv (0 : Int32), .unset, .unset] [(.int r69)])) st69 ?_
  refine ow_istoreNW (q := 46) X69 hx (L' := #[rv sx, iv (0 : Int32), iv r69, .unset]) (hb hby own_d9_45) rfl rfl ?_
  refine ow_iloadNW (q := 47) X69 hx (hb hby own_d9_46) rfl rfl ?_
  refine ow_bipushW (q := 49) X69 hx (97 : Int32) (hb hby own_d9_47) rfl rfl ?_
  by_cases hc49_70 : r69 < (97 : Int32)
  · refine ow_icmpYesW (q := 58) X69 hx (hb hby own_d9_49) (Jvm.Free.XT.ii_lt_t hc49_70) (by decide) (by decide) ?_
    refine ow_iloadNW (q := 59) X69 hx (hb hby own_d9_58) rfl rfl ?_
    refine ow_bipushW (q := 61) X69 hx (65 : Int32) (hb hby own_d9_59) rfl rfl ?_
    by_cases hc61_71 : r69 < (65 : Int32)
    · refine ow_icmpYesW (q := 70) X69 hx (hb hby own_d9_61) (Jvm.Free.XT.ii_lt_t hc61_71) (by decide) (by decide) ?_
      refine ow_iloadNW (q := 71) X69 hx (hb hby own_d9_70) rfl rfl ?_
      refine ow_bipushW (q := 73) X69 hx (48 : Int32) (hb hby own_d9_71) rfl rfl ?_
      by_cases hc73_72 : r69 < (48 : Int32)
      · refine ow_icmpYesW (q := 82) X69 hx (hb hby own_d9_73) (Jvm.Free.XT.ii_lt_t hc73_72) (by decide) (by decide) ?_
        refine ow_iloadNW (q := 83) X69 hx (hb hby own_d9_82) rfl rfl ?_
        refine ow_bipushW (q := 85) X69 hx (95 : Int32) (hb hby own_d9_83) rfl rfl ?_
        by_cases hc85_73 : r69 = (95 : Int32)
        · refine ow_icmpYesW (q := 94) X69 hx (hb hby own_d9_85) (Jvm.Free.XT.ii_eq_t hc85_73) (by decide) (by decide) ?_
          refine ow_iconstW (q := 95) X69 hx (1 : Int32) (hb hby own_d9_94) rfl rfl ?_
          refine ow_gotoW (q := 99) X69 hx (hb hby own_d9_95) (by decide) (by decide) ?_
          refine ow_istoreNW (q := 100) X69 hx (L' := #[rv sx, iv (0 : Int32), iv r69, iv (1 : Int32)]) (hb hby own_d9_99) rfl rfl ?_
          refine ow_iloadNW (q := 101) X69 hx (hb hby own_d9_100) rfl rfl ?_
          refine ow_ifYesW (q := 111) X69 hx (hb hby own_d9_101) (Jvm.Free.XT.i0_ne_t (by decide)) (by decide) (by decide) ?_
          refine ow_iincW (q := 114) X69 hx (L' := #[rv sx, iv (1 : Int32), iv r69, iv (1 : Int32)]) (hb hby own_d9_111) rfl rfl rfl ?_
          refine ow_gotoW (q := 32) X69 hx (hb hby own_d9_114) (by decide) (by decide) ?_
          exact cut32_11 _ (1 : Int32) r69 (1 : Int32) _ _ X69 e69 N69 (Nat.lt_succ_self _) (by decide) (by decide)
        · refine ow_icmpNoW (q := 88) X69 hx (hb hby own_d9_85) rfl (Jvm.Free.XT.ii_eq_f hc85_73) ?_
          refine ow_iloadNW (q := 89) X69 hx (hb hby own_d9_88) rfl rfl ?_
          refine ow_bipushW (q := 91) X69 hx (45 : Int32) (hb hby own_d9_89) rfl rfl ?_
          by_cases hc91_74 : r69 = (45 : Int32)
          · refine ow_icmpNoW (q := 94) X69 hx (hb hby own_d9_91) rfl (Jvm.Free.XT.ii_ne_f hc91_74) ?_
            refine ow_iconstW (q := 95) X69 hx (1 : Int32) (hb hby own_d9_94) rfl rfl ?_
            refine ow_gotoW (q := 99) X69 hx (hb hby own_d9_95) (by decide) (by decide) ?_
            refine ow_istoreNW (q := 100) X69 hx (L' := #[rv sx, iv (0 : Int32), iv r69, iv (1 : Int32)]) (hb hby own_d9_99) rfl rfl ?_
            refine ow_iloadNW (q := 101) X69 hx (hb hby own_d9_100) rfl rfl ?_
            refine ow_ifYesW (q := 111) X69 hx (hb hby own_d9_101) (Jvm.Free.XT.i0_ne_t (by decide)) (by decide) (by decide) ?_
            refine ow_iincW (q := 114) X69 hx (L' := #[rv sx, iv (1 : Int32), iv r69, iv (1 : Int32)]) (hb hby own_d9_111) rfl rfl rfl ?_
            refine ow_gotoW (q := 32) X69 hx (hb hby own_d9_114) (by decide) (by decide) ?_
            exact cut32_11 _ (1 : Int32) r69 (1 : Int32) _ _ X69 e69 N69 (Nat.lt_succ_self _) (by decide) (by decide)
          · refine ow_icmpYesW (q := 98) X69 hx (hb hby own_d9_91) (Jvm.Free.XT.ii_ne_t hc91_74) (by decide) (by decide) ?_
            exfalso
            have hk := own_okI hp69
            have cc0 := own_ltI hc49_70
            have cc1 := own_ltI hc61_71
            have cc2 := own_ltI hc73_72
            have cc3 := own_neI hc85_73
            have cc4 := own_neI hc91_74
            simp only [Int32.reduceToInt] at cc0 cc1 cc2 cc3 cc4
            omega
      · refine ow_icmpNoW (q := 76) X69 hx (hb hby own_d9_73) rfl (Jvm.Free.XT.ii_lt_f hc73_72) ?_
        refine ow_iloadNW (q := 77) X69 hx (hb hby own_d9_76) rfl rfl ?_
        refine ow_bipushW (q := 79) X69 hx (57 : Int32) (hb hby own_d9_77) rfl rfl ?_
        by_cases hc79_75 : (57 : Int32) < r69
        · refine ow_icmpNoW (q := 82) X69 hx (hb hby own_d9_79) rfl (Jvm.Free.XT.ii_le_f hc79_75) ?_
          refine ow_iloadNW (q := 83) X69 hx (hb hby own_d9_82) rfl rfl ?_
          refine ow_bipushW (q := 85) X69 hx (95 : Int32) (hb hby own_d9_83) rfl rfl ?_
          by_cases hc85_76 : r69 = (95 : Int32)
          · refine ow_icmpYesW (q := 94) X69 hx (hb hby own_d9_85) (Jvm.Free.XT.ii_eq_t hc85_76) (by decide) (by decide) ?_
            refine ow_iconstW (q := 95) X69 hx (1 : Int32) (hb hby own_d9_94) rfl rfl ?_
            refine ow_gotoW (q := 99) X69 hx (hb hby own_d9_95) (by decide) (by decide) ?_
            refine ow_istoreNW (q := 100) X69 hx (L' := #[rv sx, iv (0 : Int32), iv r69, iv (1 : Int32)]) (hb hby own_d9_99) rfl rfl ?_
            refine ow_iloadNW (q := 101) X69 hx (hb hby own_d9_100) rfl rfl ?_
            refine ow_ifYesW (q := 111) X69 hx (hb hby own_d9_101) (Jvm.Free.XT.i0_ne_t (by decide)) (by decide) (by decide) ?_
            refine ow_iincW (q := 114) X69 hx (L' := #[rv sx, iv (1 : Int32), iv r69, iv (1 : Int32)]) (hb hby own_d9_111) rfl rfl rfl ?_
            refine ow_gotoW (q := 32) X69 hx (hb hby own_d9_114) (by decide) (by decide) ?_
            exact cut32_11 _ (1 : Int32) r69 (1 : Int32) _ _ X69 e69 N69 (Nat.lt_succ_self _) (by decide) (by decide)
          · refine ow_icmpNoW (q := 88) X69 hx (hb hby own_d9_85) rfl (Jvm.Free.XT.ii_eq_f hc85_76) ?_
            refine ow_iloadNW (q := 89) X69 hx (hb hby own_d9_88) rfl rfl ?_
            refine ow_bipushW (q := 91) X69 hx (45 : Int32) (hb hby own_d9_89) rfl rfl ?_
            by_cases hc91_77 : r69 = (45 : Int32)
            · refine ow_icmpNoW (q := 94) X69 hx (hb hby own_d9_91) rfl (Jvm.Free.XT.ii_ne_f hc91_77) ?_
              refine ow_iconstW (q := 95) X69 hx (1 : Int32) (hb hby own_d9_94) rfl rfl ?_
              refine ow_gotoW (q := 99) X69 hx (hb hby own_d9_95) (by decide) (by decide) ?_
              refine ow_istoreNW (q := 100) X69 hx (L' := #[rv sx, iv (0 : Int32), iv r69, iv (1 : Int32)]) (hb hby own_d9_99) rfl rfl ?_
              refine ow_iloadNW (q := 101) X69 hx (hb hby own_d9_100) rfl rfl ?_
              refine ow_ifYesW (q := 111) X69 hx (hb hby own_d9_101) (Jvm.Free.XT.i0_ne_t (by decide)) (by decide) (by decide) ?_
              refine ow_iincW (q := 114) X69 hx (L' := #[rv sx, iv (1 : Int32), iv r69, iv (1 : Int32)]) (hb hby own_d9_111) rfl rfl rfl ?_
              refine ow_gotoW (q := 32) X69 hx (hb hby own_d9_114) (by decide) (by decide) ?_
              exact cut32_11 _ (1 : Int32) r69 (1 : Int32) _ _ X69 e69 N69 (Nat.lt_succ_self _) (by decide) (by decide)
            · refine ow_icmpYesW (q := 98) X69 hx (hb hby own_d9_91) (Jvm.Free.XT.ii_ne_t hc91_77) (by decide) (by decide) ?_
              exfalso
              have hk := own_okI hp69
              have cc0 := own_ltI hc49_70
              have cc1 := own_ltI hc61_71
              have cc2 := own_nltI hc73_72
              have cc3 := own_ltI hc79_75
              have cc4 := own_neI hc85_76
              have cc5 := own_neI hc91_77
              simp only [Int32.reduceToInt] at cc0 cc1 cc2 cc3 cc4 cc5
              omega
        · refine ow_icmpYesW (q := 94) X69 hx (hb hby own_d9_79) (Jvm.Free.XT.ii_le_t hc79_75) (by decide) (by decide) ?_
          refine ow_iconstW (q := 95) X69 hx (1 : Int32) (hb hby own_d9_94) rfl rfl ?_
          refine ow_gotoW (q := 99) X69 hx (hb hby own_d9_95) (by decide) (by decide) ?_
          refine ow_istoreNW (q := 100) X69 hx (L' := #[rv sx, iv (0 : Int32), iv r69, iv (1 : Int32)]) (hb hby own_d9_99) rfl rfl ?_
          refine ow_iloadNW (q := 101) X69 hx (hb hby own_d9_100) rfl rfl ?_
          refine ow_ifYesW (q := 111) X69 hx (hb hby own_d9_101) (Jvm.Free.XT.i0_ne_t (by decide)) (by decide) (by decide) ?_
          refine ow_iincW (q := 114) X69 hx (L' := #[rv sx, iv (1 : Int32), iv r69, iv (1 : Int32)]) (hb hby own_d9_111) rfl rfl rfl ?_
          refine ow_gotoW (q := 32) X69 hx (hb hby own_d9_114) (by decide) (by decide) ?_
          exact cut32_11 _ (1 : Int32) r69 (1 : Int32) _ _ X69 e69 N69 (Nat.lt_succ_self _) (by decide) (by decide)
    · refine ow_icmpNoW (q := 64) X69 hx (hb hby own_d9_61) rfl (Jvm.Free.XT.ii_lt_f hc61_71) ?_
      refine ow_iloadNW (q := 65) X69 hx (hb hby own_d9_64) rfl rfl ?_
      refine ow_bipushW (q := 67) X69 hx (90 : Int32) (hb hby own_d9_65) rfl rfl ?_
      by_cases hc67_78 : (90 : Int32) < r69
      · refine ow_icmpNoW (q := 70) X69 hx (hb hby own_d9_67) rfl (Jvm.Free.XT.ii_le_f hc67_78) ?_
        refine ow_iloadNW (q := 71) X69 hx (hb hby own_d9_70) rfl rfl ?_
        refine ow_bipushW (q := 73) X69 hx (48 : Int32) (hb hby own_d9_71) rfl rfl ?_
        by_cases hc73_79 : r69 < (48 : Int32)
        · refine ow_icmpYesW (q := 82) X69 hx (hb hby own_d9_73) (Jvm.Free.XT.ii_lt_t hc73_79) (by decide) (by decide) ?_
          refine ow_iloadNW (q := 83) X69 hx (hb hby own_d9_82) rfl rfl ?_
          refine ow_bipushW (q := 85) X69 hx (95 : Int32) (hb hby own_d9_83) rfl rfl ?_
          by_cases hc85_80 : r69 = (95 : Int32)
          · refine ow_icmpYesW (q := 94) X69 hx (hb hby own_d9_85) (Jvm.Free.XT.ii_eq_t hc85_80) (by decide) (by decide) ?_
            refine ow_iconstW (q := 95) X69 hx (1 : Int32) (hb hby own_d9_94) rfl rfl ?_
            refine ow_gotoW (q := 99) X69 hx (hb hby own_d9_95) (by decide) (by decide) ?_
            refine ow_istoreNW (q := 100) X69 hx (L' := #[rv sx, iv (0 : Int32), iv r69, iv (1 : Int32)]) (hb hby own_d9_99) rfl rfl ?_
            refine ow_iloadNW (q := 101) X69 hx (hb hby own_d9_100) rfl rfl ?_
            refine ow_ifYesW (q := 111) X69 hx (hb hby own_d9_101) (Jvm.Free.XT.i0_ne_t (by decide)) (by decide) (by decide) ?_
            refine ow_iincW (q := 114) X69 hx (L' := #[rv sx, iv (1 : Int32), iv r69, iv (1 : Int32)]) (hb hby own_d9_111) rfl rfl rfl ?_
            refine ow_gotoW (q := 32) X69 hx (hb hby own_d9_114) (by decide) (by decide) ?_
            exact cut32_11 _ (1 : Int32) r69 (1 : Int32) _ _ X69 e69 N69 (Nat.lt_succ_self _) (by decide) (by decide)
          · refine ow_icmpNoW (q := 88) X69 hx (hb hby own_d9_85) rfl (Jvm.Free.XT.ii_eq_f hc85_80) ?_
            refine ow_iloadNW (q := 89) X69 hx (hb hby own_d9_88) rfl rfl ?_
            refine ow_bipushW (q := 91) X69 hx (45 : Int32) (hb hby own_d9_89) rfl rfl ?_
            by_cases hc91_81 : r69 = (45 : Int32)
            · refine ow_icmpNoW (q := 94) X69 hx (hb hby own_d9_91) rfl (Jvm.Free.XT.ii_ne_f hc91_81) ?_
              refine ow_iconstW (q := 95) X69 hx (1 : Int32) (hb hby own_d9_94) rfl rfl ?_
              refine ow_gotoW (q := 99) X69 hx (hb hby own_d9_95) (by decide) (by decide) ?_
              refine ow_istoreNW (q := 100) X69 hx (L' := #[rv sx, iv (0 : Int32), iv r69, iv (1 : Int32)]) (hb hby own_d9_99) rfl rfl ?_
              refine ow_iloadNW (q := 101) X69 hx (hb hby own_d9_100) rfl rfl ?_
              refine ow_ifYesW (q := 111) X69 hx (hb hby own_d9_101) (Jvm.Free.XT.i0_ne_t (by decide)) (by decide) (by decide) ?_
              refine ow_iincW (q := 114) X69 hx (L' := #[rv sx, iv (1 : Int32), iv r69, iv (1 : Int32)]) (hb hby own_d9_111) rfl rfl rfl ?_
              refine ow_gotoW (q := 32) X69 hx (hb hby own_d9_114) (by decide) (by decide) ?_
              exact cut32_11 _ (1 : Int32) r69 (1 : Int32) _ _ X69 e69 N69 (Nat.lt_succ_self _) (by decide) (by decide)
            · refine ow_icmpYesW (q := 98) X69 hx (hb hby own_d9_91) (Jvm.Free.XT.ii_ne_t hc91_81) (by decide) (by decide) ?_
              exfalso
              have hk := own_okI hp69
              have cc0 := own_ltI hc49_70
              have cc1 := own_nltI hc61_71
              have cc2 := own_ltI hc67_78
              have cc3 := own_ltI hc73_79
              have cc4 := own_neI hc85_80
              have cc5 := own_neI hc91_81
              simp only [Int32.reduceToInt] at cc0 cc1 cc2 cc3 cc4 cc5
              omega
        · refine ow_icmpNoW (q := 76) X69 hx (hb hby own_d9_73) rfl (Jvm.Free.XT.ii_lt_f hc73_79) ?_
          refine ow_iloadNW (q := 77) X69 hx (hb hby own_d9_76) rfl rfl ?_
          refine ow_bipushW (q := 79) X69 hx (57 : Int32) (hb hby own_d9_77) rfl rfl ?_
          by_cases hc79_82 : (57 : Int32) < r69
          · refine ow_icmpNoW (q := 82) X69 hx (hb hby own_d9_79) rfl (Jvm.Free.XT.ii_le_f hc79_82) ?_
            refine ow_iloadNW (q := 83) X69 hx (hb hby own_d9_82) rfl rfl ?_
            refine ow_bipushW (q := 85) X69 hx (95 : Int32) (hb hby own_d9_83) rfl rfl ?_
            by_cases hc85_83 : r69 = (95 : Int32)
            · refine ow_icmpYesW (q := 94) X69 hx (hb hby own_d9_85) (Jvm.Free.XT.ii_eq_t hc85_83) (by decide) (by decide) ?_
              refine ow_iconstW (q := 95) X69 hx (1 : Int32) (hb hby own_d9_94) rfl rfl ?_
              refine ow_gotoW (q := 99) X69 hx (hb hby own_d9_95) (by decide) (by decide) ?_
              refine ow_istoreNW (q := 100) X69 hx (L' := #[rv sx, iv (0 : Int32), iv r69, iv (1 : Int32)]) (hb hby own_d9_99) rfl rfl ?_
              refine ow_iloadNW (q := 101) X69 hx (hb hby own_d9_100) rfl rfl ?_
              refine ow_ifYesW (q := 111) X69 hx (hb hby own_d9_101) (Jvm.Free.XT.i0_ne_t (by decide)) (by decide) (by decide) ?_
              refine ow_iincW (q := 114) X69 hx (L' := #[rv sx, iv (1 : Int32), iv r69, iv (1 : Int32)]) (hb hby own_d9_111) rfl rfl rfl ?_
              refine ow_gotoW (q := 32) X69 hx (hb hby own_d9_114) (by decide) (by decide) ?_
              exact cut32_11 _ (1 : Int32) r69 (1 : Int32) _ _ X69 e69 N69 (Nat.lt_succ_self _) (by decide) (by decide)
            · refine ow_icmpNoW (q := 88) X69 hx (hb hby own_d9_85) rfl (Jvm.Free.XT.ii_eq_f hc85_83) ?_
              refine ow_iloadNW (q := 89) X69 hx (hb hby own_d9_88) rfl rfl ?_
              refine ow_bipushW (q := 91) X69 hx (45 : Int32) (hb hby own_d9_89) rfl rfl ?_
              by_cases hc91_84 : r69 = (45 : Int32)
              · refine ow_icmpNoW (q := 94) X69 hx (hb hby own_d9_91) rfl (Jvm.Free.XT.ii_ne_f hc91_84) ?_
                refine ow_iconstW (q := 95) X69 hx (1 : Int32) (hb hby own_d9_94) rfl rfl ?_
                refine ow_gotoW (q := 99) X69 hx (hb hby own_d9_95) (by decide) (by decide) ?_
                refine ow_istoreNW (q := 100) X69 hx (L' := #[rv sx, iv (0 : Int32), iv r69, iv (1 : Int32)]) (hb hby own_d9_99) rfl rfl ?_
                refine ow_iloadNW (q := 101) X69 hx (hb hby own_d9_100) rfl rfl ?_
                refine ow_ifYesW (q := 111) X69 hx (hb hby own_d9_101) (Jvm.Free.XT.i0_ne_t (by decide)) (by decide) (by decide) ?_
                refine ow_iincW (q := 114) X69 hx (L' := #[rv sx, iv (1 : Int32), iv r69, iv (1 : Int32)]) (hb hby own_d9_111) rfl rfl rfl ?_
                refine ow_gotoW (q := 32) X69 hx (hb hby own_d9_114) (by decide) (by decide) ?_
                exact cut32_11 _ (1 : Int32) r69 (1 : Int32) _ _ X69 e69 N69 (Nat.lt_succ_self _) (by decide) (by decide)
              · refine ow_icmpYesW (q := 98) X69 hx (hb hby own_d9_91) (Jvm.Free.XT.ii_ne_t hc91_84) (by decide) (by decide) ?_
                exfalso
                have hk := own_okI hp69
                have cc0 := own_ltI hc49_70
                have cc1 := own_nltI hc61_71
                have cc2 := own_ltI hc67_78
                have cc3 := own_nltI hc73_79
                have cc4 := own_ltI hc79_82
                have cc5 := own_neI hc85_83
                have cc6 := own_neI hc91_84
                simp only [Int32.reduceToInt] at cc0 cc1 cc2 cc3 cc4 cc5 cc6
                omega
          · refine ow_icmpYesW (q := 94) X69 hx (hb hby own_d9_79) (Jvm.Free.XT.ii_le_t hc79_82) (by decide) (by decide) ?_
            refine ow_iconstW (q := 95) X69 hx (1 : Int32) (hb hby own_d9_94) rfl rfl ?_
            refine ow_gotoW (q := 99) X69 hx (hb hby own_d9_95) (by decide) (by decide) ?_
            refine ow_istoreNW (q := 100) X69 hx (L' := #[rv sx, iv (0 : Int32), iv r69, iv (1 : Int32)]) (hb hby own_d9_99) rfl rfl ?_
            refine ow_iloadNW (q := 101) X69 hx (hb hby own_d9_100) rfl rfl ?_
            refine ow_ifYesW (q := 111) X69 hx (hb hby own_d9_101) (Jvm.Free.XT.i0_ne_t (by decide)) (by decide) (by decide) ?_
            refine ow_iincW (q := 114) X69 hx (L' := #[rv sx, iv (1 : Int32), iv r69, iv (1 : Int32)]) (hb hby own_d9_111) rfl rfl rfl ?_
            refine ow_gotoW (q := 32) X69 hx (hb hby own_d9_114) (by decide) (by decide) ?_
            exact cut32_11 _ (1 : Int32) r69 (1 : Int32) _ _ X69 e69 N69 (Nat.lt_succ_self _) (by decide) (by decide)
      · refine ow_icmpYesW (q := 94) X69 hx (hb hby own_d9_67) (Jvm.Free.XT.ii_le_t hc67_78) (by decide) (by decide) ?_
        refine ow_iconstW (q := 95) X69 hx (1 : Int32) (hb hby own_d9_94) rfl rfl ?_
        refine ow_gotoW (q := 99) X69 hx (hb hby own_d9_95) (by decide) (by decide) ?_
        refine ow_istoreNW (q := 100) X69 hx (L' := #[rv sx, iv (0 : Int32), iv r69, iv (1 : Int32)]) (hb hby own_d9_99) rfl rfl ?_
        refine ow_iloadNW (q := 101) X69 hx (hb hby own_d9_100) rfl rfl ?_
        refine ow_ifYesW (q := 111) X69 hx (hb hby own_d9_101) (Jvm.Free.XT.i0_ne_t (by decide)) (by decide) (by decide) ?_
        refine ow_iincW (q := 114) X69 hx (L' := #[rv sx, iv (1 : Int32), iv r69, iv (1 : Int32)]) (hb hby own_d9_111) rfl rfl rfl ?_
        refine ow_gotoW (q := 32) X69 hx (hb hby own_d9_114) (by decide) (by decide) ?_
        exact cut32_11 _ (1 : Int32) r69 (1 : Int32) _ _ X69 e69 N69 (Nat.lt_succ_self _) (by decide) (by decide)
  · refine ow_icmpNoW (q := 52) X69 hx (hb hby own_d9_49) rfl (Jvm.Free.XT.ii_lt_f hc49_70) ?_
    refine ow_iloadNW (q := 53) X69 hx (hb hby own_d9_52) rfl rfl ?_
    refine ow_bipushW (q := 55) X69 hx (122 : Int32) (hb hby own_d9_53) rfl rfl ?_
    by_cases hc55_85 : (122 : Int32) < r69
    · refine ow_icmpNoW (q := 58) X69 hx (hb hby own_d9_55) rfl (Jvm.Free.XT.ii_le_f hc55_85) ?_
      refine ow_iloadNW (q := 59) X69 hx (hb hby own_d9_58) rfl rfl ?_
      refine ow_bipushW (q := 61) X69 hx (65 : Int32) (hb hby own_d9_59) rfl rfl ?_
      by_cases hc61_86 : r69 < (65 : Int32)
      · refine ow_icmpYesW (q := 70) X69 hx (hb hby own_d9_61) (Jvm.Free.XT.ii_lt_t hc61_86) (by decide) (by decide) ?_
        refine ow_iloadNW (q := 71) X69 hx (hb hby own_d9_70) rfl rfl ?_
        refine ow_bipushW (q := 73) X69 hx (48 : Int32) (hb hby own_d9_71) rfl rfl ?_
        by_cases hc73_87 : r69 < (48 : Int32)
        · refine ow_icmpYesW (q := 82) X69 hx (hb hby own_d9_73) (Jvm.Free.XT.ii_lt_t hc73_87) (by decide) (by decide) ?_
          refine ow_iloadNW (q := 83) X69 hx (hb hby own_d9_82) rfl rfl ?_
          refine ow_bipushW (q := 85) X69 hx (95 : Int32) (hb hby own_d9_83) rfl rfl ?_
          by_cases hc85_88 : r69 = (95 : Int32)
          · refine ow_icmpYesW (q := 94) X69 hx (hb hby own_d9_85) (Jvm.Free.XT.ii_eq_t hc85_88) (by decide) (by decide) ?_
            refine ow_iconstW (q := 95) X69 hx (1 : Int32) (hb hby own_d9_94) rfl rfl ?_
            refine ow_gotoW (q := 99) X69 hx (hb hby own_d9_95) (by decide) (by decide) ?_
            refine ow_istoreNW (q := 100) X69 hx (L' := #[rv sx, iv (0 : Int32), iv r69, iv (1 : Int32)]) (hb hby own_d9_99) rfl rfl ?_
            refine ow_iloadNW (q := 101) X69 hx (hb hby own_d9_100) rfl rfl ?_
            refine ow_ifYesW (q := 111) X69 hx (hb hby own_d9_101) (Jvm.Free.XT.i0_ne_t (by decide)) (by decide) (by decide) ?_
            refine ow_iincW (q := 114) X69 hx (L' := #[rv sx, iv (1 : Int32), iv r69, iv (1 : Int32)]) (hb hby own_d9_111) rfl rfl rfl ?_
            refine ow_gotoW (q := 32) X69 hx (hb hby own_d9_114) (by decide) (by decide) ?_
            exact cut32_11 _ (1 : Int32) r69 (1 : Int32) _ _ X69 e69 N69 (Nat.lt_succ_self _) (by decide) (by decide)
          · refine ow_icmpNoW (q := 88) X69 hx (hb hby own_d9_85) rfl (Jvm.Free.XT.ii_eq_f hc85_88) ?_
            refine ow_iloadNW (q := 89) X69 hx (hb hby own_d9_88) rfl rfl ?_
            refine ow_bipushW (q := 91) X69 hx (45 : Int32) (hb hby own_d9_89) rfl rfl ?_
            by_cases hc91_89 : r69 = (45 : Int32)
            · refine ow_icmpNoW (q := 94) X69 hx (hb hby own_d9_91) rfl (Jvm.Free.XT.ii_ne_f hc91_89) ?_
              refine ow_iconstW (q := 95) X69 hx (1 : Int32) (hb hby own_d9_94) rfl rfl ?_
              refine ow_gotoW (q := 99) X69 hx (hb hby own_d9_95) (by decide) (by decide) ?_
              refine ow_istoreNW (q := 100) X69 hx (L' := #[rv sx, iv (0 : Int32), iv r69, iv (1 : Int32)]) (hb hby own_d9_99) rfl rfl ?_
              refine ow_iloadNW (q := 101) X69 hx (hb hby own_d9_100) rfl rfl ?_
              refine ow_ifYesW (q := 111) X69 hx (hb hby own_d9_101) (Jvm.Free.XT.i0_ne_t (by decide)) (by decide) (by decide) ?_
              refine ow_iincW (q := 114) X69 hx (L' := #[rv sx, iv (1 : Int32), iv r69, iv (1 : Int32)]) (hb hby own_d9_111) rfl rfl rfl ?_
              refine ow_gotoW (q := 32) X69 hx (hb hby own_d9_114) (by decide) (by decide) ?_
              exact cut32_11 _ (1 : Int32) r69 (1 : Int32) _ _ X69 e69 N69 (Nat.lt_succ_self _) (by decide) (by decide)
            · refine ow_icmpYesW (q := 98) X69 hx (hb hby own_d9_91) (Jvm.Free.XT.ii_ne_t hc91_89) (by decide) (by decide) ?_
              exfalso
              have hk := own_okI hp69
              have cc0 := own_nltI hc49_70
              have cc1 := own_ltI hc55_85
              have cc2 := own_ltI hc61_86
              have cc3 := own_ltI hc73_87
              have cc4 := own_neI hc85_88
              have cc5 := own_neI hc91_89
              simp only [Int32.reduceToInt] at cc0 cc1 cc2 cc3 cc4 cc5
              omega
        · refine ow_icmpNoW (q := 76) X69 hx (hb hby own_d9_73) rfl (Jvm.Free.XT.ii_lt_f hc73_87) ?_
          refine ow_iloadNW (q := 77) X69 hx (hb hby own_d9_76) rfl rfl ?_
          refine ow_bipushW (q := 79) X69 hx (57 : Int32) (hb hby own_d9_77) rfl rfl ?_
          by_cases hc79_90 : (57 : Int32) < r69
          · refine ow_icmpNoW (q := 82) X69 hx (hb hby own_d9_79) rfl (Jvm.Free.XT.ii_le_f hc79_90) ?_
            refine ow_iloadNW (q := 83) X69 hx (hb hby own_d9_82) rfl rfl ?_
            refine ow_bipushW (q := 85) X69 hx (95 : Int32) (hb hby own_d9_83) rfl rfl ?_
            by_cases hc85_91 : r69 = (95 : Int32)
            · refine ow_icmpYesW (q := 94) X69 hx (hb hby own_d9_85) (Jvm.Free.XT.ii_eq_t hc85_91) (by decide) (by decide) ?_
              refine ow_iconstW (q := 95) X69 hx (1 : Int32) (hb hby own_d9_94) rfl rfl ?_
              refine ow_gotoW (q := 99) X69 hx (hb hby own_d9_95) (by decide) (by decide) ?_
              refine ow_istoreNW (q := 100) X69 hx (L' := #[rv sx, iv (0 : Int32), iv r69, iv (1 : Int32)]) (hb hby own_d9_99) rfl rfl ?_
              refine ow_iloadNW (q := 101) X69 hx (hb hby own_d9_100) rfl rfl ?_
              refine ow_ifYesW (q := 111) X69 hx (hb hby own_d9_101) (Jvm.Free.XT.i0_ne_t (by decide)) (by decide) (by decide) ?_
              refine ow_iincW (q := 114) X69 hx (L' := #[rv sx, iv (1 : Int32), iv r69, iv (1 : Int32)]) (hb hby own_d9_111) rfl rfl rfl ?_
              refine ow_gotoW (q := 32) X69 hx (hb hby own_d9_114) (by decide) (by decide) ?_
              exact cut32_11 _ (1 : Int32) r69 (1 : Int32) _ _ X69 e69 N69 (Nat.lt_succ_self _) (by decide) (by decide)
            · refine ow_icmpNoW (q := 88) X69 hx (hb hby own_d9_85) rfl (Jvm.Free.XT.ii_eq_f hc85_91) ?_
              refine ow_iloadNW (q := 89) X69 hx (hb hby own_d9_88) rfl rfl ?_
              refine ow_bipushW (q := 91) X69 hx (45 : Int32) (hb hby own_d9_89) rfl rfl ?_
              by_cases hc91_92 : r69 = (45 : Int32)
              · refine ow_icmpNoW (q := 94) X69 hx (hb hby own_d9_91) rfl (Jvm.Free.XT.ii_ne_f hc91_92) ?_
                refine ow_iconstW (q := 95) X69 hx (1 : Int32) (hb hby own_d9_94) rfl rfl ?_
                refine ow_gotoW (q := 99) X69 hx (hb hby own_d9_95) (by decide) (by decide) ?_
                refine ow_istoreNW (q := 100) X69 hx (L' := #[rv sx, iv (0 : Int32), iv r69, iv (1 : Int32)]) (hb hby own_d9_99) rfl rfl ?_
                refine ow_iloadNW (q := 101) X69 hx (hb hby own_d9_100) rfl rfl ?_
                refine ow_ifYesW (q := 111) X69 hx (hb hby own_d9_101) (Jvm.Free.XT.i0_ne_t (by decide)) (by decide) (by decide) ?_
                refine ow_iincW (q := 114) X69 hx (L' := #[rv sx, iv (1 : Int32), iv r69, iv (1 : Int32)]) (hb hby own_d9_111) rfl rfl rfl ?_
                refine ow_gotoW (q := 32) X69 hx (hb hby own_d9_114) (by decide) (by decide) ?_
                exact cut32_11 _ (1 : Int32) r69 (1 : Int32) _ _ X69 e69 N69 (Nat.lt_succ_self _) (by decide) (by decide)
              · refine ow_icmpYesW (q := 98) X69 hx (hb hby own_d9_91) (Jvm.Free.XT.ii_ne_t hc91_92) (by decide) (by decide) ?_
                exfalso
                have hk := own_okI hp69
                have cc0 := own_nltI hc49_70
                have cc1 := own_ltI hc55_85
                have cc2 := own_ltI hc61_86
                have cc3 := own_nltI hc73_87
                have cc4 := own_ltI hc79_90
                have cc5 := own_neI hc85_91
                have cc6 := own_neI hc91_92
                simp only [Int32.reduceToInt] at cc0 cc1 cc2 cc3 cc4 cc5 cc6
                omega
          · refine ow_icmpYesW (q := 94) X69 hx (hb hby own_d9_79) (Jvm.Free.XT.ii_le_t hc79_90) (by decide) (by decide) ?_
            refine ow_iconstW (q := 95) X69 hx (1 : Int32) (hb hby own_d9_94) rfl rfl ?_
            refine ow_gotoW (q := 99) X69 hx (hb hby own_d9_95) (by decide) (by decide) ?_
            refine ow_istoreNW (q := 100) X69 hx (L' := #[rv sx, iv (0 : Int32), iv r69, iv (1 : Int32)]) (hb hby own_d9_99) rfl rfl ?_
            refine ow_iloadNW (q := 101) X69 hx (hb hby own_d9_100) rfl rfl ?_
            refine ow_ifYesW (q := 111) X69 hx (hb hby own_d9_101) (Jvm.Free.XT.i0_ne_t (by decide)) (by decide) (by decide) ?_
            refine ow_iincW (q := 114) X69 hx (L' := #[rv sx, iv (1 : Int32), iv r69, iv (1 : Int32)]) (hb hby own_d9_111) rfl rfl rfl ?_
            refine ow_gotoW (q := 32) X69 hx (hb hby own_d9_114) (by decide) (by decide) ?_
            exact cut32_11 _ (1 : Int32) r69 (1 : Int32) _ _ X69 e69 N69 (Nat.lt_succ_self _) (by decide) (by decide)
      · refine ow_icmpNoW (q := 64) X69 hx (hb hby own_d9_61) rfl (Jvm.Free.XT.ii_lt_f hc61_86) ?_
        refine ow_iloadNW (q := 65) X69 hx (hb hby own_d9_64) rfl rfl ?_
        refine ow_bipushW (q := 67) X69 hx (90 : Int32) (hb hby own_d9_65) rfl rfl ?_
        by_cases hc67_93 : (90 : Int32) < r69
        · refine ow_icmpNoW (q := 70) X69 hx (hb hby own_d9_67) rfl (Jvm.Free.XT.ii_le_f hc67_93) ?_
          refine ow_iloadNW (q := 71) X69 hx (hb hby own_d9_70) rfl rfl ?_
          refine ow_bipushW (q := 73) X69 hx (48 : Int32) (hb hby own_d9_71) rfl rfl ?_
          by_cases hc73_94 : r69 < (48 : Int32)
          · refine ow_icmpYesW (q := 82) X69 hx (hb hby own_d9_73) (Jvm.Free.XT.ii_lt_t hc73_94) (by decide) (by decide) ?_
            refine ow_iloadNW (q := 83) X69 hx (hb hby own_d9_82) rfl rfl ?_
            refine ow_bipushW (q := 85) X69 hx (95 : Int32) (hb hby own_d9_83) rfl rfl ?_
            by_cases hc85_95 : r69 = (95 : Int32)
            · refine ow_icmpYesW (q := 94) X69 hx (hb hby own_d9_85) (Jvm.Free.XT.ii_eq_t hc85_95) (by decide) (by decide) ?_
              refine ow_iconstW (q := 95) X69 hx (1 : Int32) (hb hby own_d9_94) rfl rfl ?_
              refine ow_gotoW (q := 99) X69 hx (hb hby own_d9_95) (by decide) (by decide) ?_
              refine ow_istoreNW (q := 100) X69 hx (L' := #[rv sx, iv (0 : Int32), iv r69, iv (1 : Int32)]) (hb hby own_d9_99) rfl rfl ?_
              refine ow_iloadNW (q := 101) X69 hx (hb hby own_d9_100) rfl rfl ?_
              refine ow_ifYesW (q := 111) X69 hx (hb hby own_d9_101) (Jvm.Free.XT.i0_ne_t (by decide)) (by decide) (by decide) ?_
              refine ow_iincW (q := 114) X69 hx (L' := #[rv sx, iv (1 : Int32), iv r69, iv (1 : Int32)]) (hb hby own_d9_111) rfl rfl rfl ?_
              refine ow_gotoW (q := 32) X69 hx (hb hby own_d9_114) (by decide) (by decide) ?_
              exact cut32_11 _ (1 : Int32) r69 (1 : Int32) _ _ X69 e69 N69 (Nat.lt_succ_self _) (by decide) (by decide)
            · refine ow_icmpNoW (q := 88) X69 hx (hb hby own_d9_85) rfl (Jvm.Free.XT.ii_eq_f hc85_95) ?_
              refine ow_iloadNW (q := 89) X69 hx (hb hby own_d9_88) rfl rfl ?_
              refine ow_bipushW (q := 91) X69 hx (45 : Int32) (hb hby own_d9_89) rfl rfl ?_
              by_cases hc91_96 : r69 = (45 : Int32)
              · refine ow_icmpNoW (q := 94) X69 hx (hb hby own_d9_91) rfl (Jvm.Free.XT.ii_ne_f hc91_96) ?_
                refine ow_iconstW (q := 95) X69 hx (1 : Int32) (hb hby own_d9_94) rfl rfl ?_
                refine ow_gotoW (q := 99) X69 hx (hb hby own_d9_95) (by decide) (by decide) ?_
                refine ow_istoreNW (q := 100) X69 hx (L' := #[rv sx, iv (0 : Int32), iv r69, iv (1 : Int32)]) (hb hby own_d9_99) rfl rfl ?_
                refine ow_iloadNW (q := 101) X69 hx (hb hby own_d9_100) rfl rfl ?_
                refine ow_ifYesW (q := 111) X69 hx (hb hby own_d9_101) (Jvm.Free.XT.i0_ne_t (by decide)) (by decide) (by decide) ?_
                refine ow_iincW (q := 114) X69 hx (L' := #[rv sx, iv (1 : Int32), iv r69, iv (1 : Int32)]) (hb hby own_d9_111) rfl rfl rfl ?_
                refine ow_gotoW (q := 32) X69 hx (hb hby own_d9_114) (by decide) (by decide) ?_
                exact cut32_11 _ (1 : Int32) r69 (1 : Int32) _ _ X69 e69 N69 (Nat.lt_succ_self _) (by decide) (by decide)
              · refine ow_icmpYesW (q := 98) X69 hx (hb hby own_d9_91) (Jvm.Free.XT.ii_ne_t hc91_96) (by decide) (by decide) ?_
                exfalso
                have hk := own_okI hp69
                have cc0 := own_nltI hc49_70
                have cc1 := own_ltI hc55_85
                have cc2 := own_nltI hc61_86
                have cc3 := own_ltI hc67_93
                have cc4 := own_ltI hc73_94
                have cc5 := own_neI hc85_95
                have cc6 := own_neI hc91_96
                simp only [Int32.reduceToInt] at cc0 cc1 cc2 cc3 cc4 cc5 cc6
                omega
          · refine ow_icmpNoW (q := 76) X69 hx (hb hby own_d9_73) rfl (Jvm.Free.XT.ii_lt_f hc73_94) ?_
            refine ow_iloadNW (q := 77) X69 hx (hb hby own_d9_76) rfl rfl ?_
            refine ow_bipushW (q := 79) X69 hx (57 : Int32) (hb hby own_d9_77) rfl rfl ?_
            by_cases hc79_97 : (57 : Int32) < r69
            · refine ow_icmpNoW (q := 82) X69 hx (hb hby own_d9_79) rfl (Jvm.Free.XT.ii_le_f hc79_97) ?_
              refine ow_iloadNW (q := 83) X69 hx (hb hby own_d9_82) rfl rfl ?_
              refine ow_bipushW (q := 85) X69 hx (95 : Int32) (hb hby own_d9_83) rfl rfl ?_
              by_cases hc85_98 : r69 = (95 : Int32)
              · refine ow_icmpYesW (q := 94) X69 hx (hb hby own_d9_85) (Jvm.Free.XT.ii_eq_t hc85_98) (by decide) (by decide) ?_
                refine ow_iconstW (q := 95) X69 hx (1 : Int32) (hb hby own_d9_94) rfl rfl ?_
                refine ow_gotoW (q := 99) X69 hx (hb hby own_d9_95) (by decide) (by decide) ?_
                refine ow_istoreNW (q := 100) X69 hx (L' := #[rv sx, iv (0 : Int32), iv r69, iv (1 : Int32)]) (hb hby own_d9_99) rfl rfl ?_
                refine ow_iloadNW (q := 101) X69 hx (hb hby own_d9_100) rfl rfl ?_
                refine ow_ifYesW (q := 111) X69 hx (hb hby own_d9_101) (Jvm.Free.XT.i0_ne_t (by decide)) (by decide) (by decide) ?_
                refine ow_iincW (q := 114) X69 hx (L' := #[rv sx, iv (1 : Int32), iv r69, iv (1 : Int32)]) (hb hby own_d9_111) rfl rfl rfl ?_
                refine ow_gotoW (q := 32) X69 hx (hb hby own_d9_114) (by decide) (by decide) ?_
                exact cut32_11 _ (1 : Int32) r69 (1 : Int32) _ _ X69 e69 N69 (Nat.lt_succ_self _) (by decide) (by decide)
              · refine ow_icmpNoW (q := 88) X69 hx (hb hby own_d9_85) rfl (Jvm.Free.XT.ii_eq_f hc85_98) ?_
                refine ow_iloadNW (q := 89) X69 hx (hb hby own_d9_88) rfl rfl ?_
                refine ow_bipushW (q := 91) X69 hx (45 : Int32) (hb hby own_d9_89) rfl rfl ?_
                by_cases hc91_99 : r69 = (45 : Int32)
                · refine ow_icmpNoW (q := 94) X69 hx (hb hby own_d9_91) rfl (Jvm.Free.XT.ii_ne_f hc91_99) ?_
                  refine ow_iconstW (q := 95) X69 hx (1 : Int32) (hb hby own_d9_94) rfl rfl ?_
                  refine ow_gotoW (q := 99) X69 hx (hb hby own_d9_95) (by decide) (by decide) ?_
                  refine ow_istoreNW (q := 100) X69 hx (L' := #[rv sx, iv (0 : Int32), iv r69, iv (1 : Int32)]) (hb hby own_d9_99) rfl rfl ?_
                  refine ow_iloadNW (q := 101) X69 hx (hb hby own_d9_100) rfl rfl ?_
                  refine ow_ifYesW (q := 111) X69 hx (hb hby own_d9_101) (Jvm.Free.XT.i0_ne_t (by decide)) (by decide) (by decide) ?_
                  refine ow_iincW (q := 114) X69 hx (L' := #[rv sx, iv (1 : Int32), iv r69, iv (1 : Int32)]) (hb hby own_d9_111) rfl rfl rfl ?_
                  refine ow_gotoW (q := 32) X69 hx (hb hby own_d9_114) (by decide) (by decide) ?_
                  exact cut32_11 _ (1 : Int32) r69 (1 : Int32) _ _ X69 e69 N69 (Nat.lt_succ_self _) (by decide) (by decide)
                · refine ow_icmpYesW (q := 98) X69 hx (hb hby own_d9_91) (Jvm.Free.XT.ii_ne_t hc91_99) (by decide) (by decide) ?_
                  exfalso
                  have hk := own_okI hp69
                  have cc0 := own_nltI hc49_70
                  have cc1 := own_ltI hc55_85
                  have cc2 := own_nltI hc61_86
                  have cc3 := own_ltI hc67_93
                  have cc4 := own_nltI hc73_94
                  have cc5 := own_ltI hc79_97
                  have cc6 := own_neI hc85_98
                  have cc7 := own_neI hc91_99
                  simp only [Int32.reduceToInt] at cc0 cc1 cc2 cc3 cc4 cc5 cc6 cc7
                  omega
            · refine ow_icmpYesW (q := 94) X69 hx (hb hby own_d9_79) (Jvm.Free.XT.ii_le_t hc79_97) (by decide) (by decide) ?_
              refine ow_iconstW (q := 95) X69 hx (1 : Int32) (hb hby own_d9_94) rfl rfl ?_
              refine ow_gotoW (q := 99) X69 hx (hb hby own_d9_95) (by decide) (by decide) ?_
              refine ow_istoreNW (q := 100) X69 hx (L' := #[rv sx, iv (0 : Int32), iv r69, iv (1 : Int32)]) (hb hby own_d9_99) rfl rfl ?_
              refine ow_iloadNW (q := 101) X69 hx (hb hby own_d9_100) rfl rfl ?_
              refine ow_ifYesW (q := 111) X69 hx (hb hby own_d9_101) (Jvm.Free.XT.i0_ne_t (by decide)) (by decide) (by decide) ?_
              refine ow_iincW (q := 114) X69 hx (L' := #[rv sx, iv (1 : Int32), iv r69, iv (1 : Int32)]) (hb hby own_d9_111) rfl rfl rfl ?_
              refine ow_gotoW (q := 32) X69 hx (hb hby own_d9_114) (by decide) (by decide) ?_
              exact cut32_11 _ (1 : Int32) r69 (1 : Int32) _ _ X69 e69 N69 (Nat.lt_succ_self _) (by decide) (by decide)
        · refine ow_icmpYesW (q := 94) X69 hx (hb hby own_d9_67) (Jvm.Free.XT.ii_le_t hc67_93) (by decide) (by decide) ?_
          refine ow_iconstW (q := 95) X69 hx (1 : Int32) (hb hby own_d9_94) rfl rfl ?_
          refine ow_gotoW (q := 99) X69 hx (hb hby own_d9_95) (by decide) (by decide) ?_
          refine ow_istoreNW (q := 100) X69 hx (L' := #[rv sx, iv (0 : Int32), iv r69, iv (1 : Int32)]) (hb hby own_d9_99) rfl rfl ?_
          refine ow_iloadNW (q := 101) X69 hx (hb hby own_d9_100) rfl rfl ?_
          refine ow_ifYesW (q := 111) X69 hx (hb hby own_d9_101) (Jvm.Free.XT.i0_ne_t (by decide)) (by decide) (by decide) ?_
          refine ow_iincW (q := 114) X69 hx (L' := #[rv sx, iv (1 : Int32), iv r69, iv (1 : Int32)]) (hb hby own_d9_111) rfl rfl rfl ?_
          refine ow_gotoW (q := 32) X69 hx (hb hby own_d9_114) (by decide) (by decide) ?_
          exact cut32_11 _ (1 : Int32) r69 (1 : Int32) _ _ X69 e69 N69 (Nat.lt_succ_self _) (by decide) (by decide)
    · refine ow_icmpYesW (q := 94) X69 hx (hb hby own_d9_55) (Jvm.Free.XT.ii_le_t hc55_85) (by decide) (by decide) ?_
      refine ow_iconstW (q := 95) X69 hx (1 : Int32) (hb hby own_d9_94) rfl rfl ?_
      refine ow_gotoW (q := 99) X69 hx (hb hby own_d9_95) (by decide) (by decide) ?_
      refine ow_istoreNW (q := 100) X69 hx (L' := #[rv sx, iv (0 : Int32), iv r69, iv (1 : Int32)]) (hb hby own_d9_99) rfl rfl ?_
      refine ow_iloadNW (q := 101) X69 hx (hb hby own_d9_100) rfl rfl ?_
      refine ow_ifYesW (q := 111) X69 hx (hb hby own_d9_101) (Jvm.Free.XT.i0_ne_t (by decide)) (by decide) (by decide) ?_
      refine ow_iincW (q := 114) X69 hx (L' := #[rv sx, iv (1 : Int32), iv r69, iv (1 : Int32)]) (hb hby own_d9_111) rfl rfl rfl ?_
      refine ow_gotoW (q := 32) X69 hx (hb hby own_d9_114) (by decide) (by decide) ?_
      exact cut32_11 _ (1 : Int32) r69 (1 : Int32) _ _ X69 e69 N69 (Nat.lt_succ_self _) (by decide) (by decide)
theorem own_ef11_isEmpty2 (m : MethodId) (sx : Addr) : entryFrame m #[(.ref sx)] 1 = mkF m 0 #[rv sx] [] := by first | (simp [entryFrame, mkF, argsToLocals, Value.category]; done) | rfl
def Q_isEmpty2 (Z : State) (sx : Addr) (t : Addr) (gb : Nat → Int32) (h0 : Heap) (n0 : Nat) (v : Option Value) (h : Heap) (L : List Loc) : Prop := v = some (.int (0 : Int32)) ∧ Fr n0 L ∧ h = h0
set_option maxRecDepth 65536 in
set_option maxHeartbeats 40000000 in
theorem rm_isEmpty2 (l : Launch) (Z : State) (av0 : Array Value) (hw : ∀ d ∈ tables_1, d.before av0 Z = true) (ws : List Jvm.Cond) (sx : Addr) (t : Addr) (gb : Nat → Int32) (h0 : Heap) (n0 : Nat) (Z0 : n0 ≤ h0.size) (HF0 : Fld Z h0 sx "java/lang/String" "value" "[B" (.ref t)) (HF1 : ownAI Z h0 t .byte 2 gb) :
    MetFree l (⟨"java/lang/String", "isEmpty", "()Z"⟩ : MethodName) (head1 (Jvm.Cond.code (⟨"java/lang/String", "isEmpty", "()Z"⟩ : MethodName) jdk_42_method_55_code 1 (some .boolean) :: ws) ({ frames := 0, cells := 0, slots := 0, locals := 0 } : Room)) (fun a U => a = #[(.ref sx)] ∧ Z.Warmed39 U.vm ∧ U.heap = h0) (fun _ _ _ _ _ => True) (fun _ U o U' => ∃ v L, o = .returned v ∧ (Q_isEmpty2 Z sx t gb h0 n0) v U'.heap L ∧ FrameEnd U o U' L ({ frames := 0, cells := 0, slots := 0, locals := 0 } : Room).cells ({ frames := 0, cells := 0, slots := 0, locals := 0 } : Room).slots) := by
  refine MetFree.of_bodySF (plainFor_of_name own_pn_String) hisR ?_
  intro p e s m args below meth c s₁ Bd hml0 hP hK
  obtain ⟨rfl, hZ, hh⟩ := hP
  have hx := Bd.exec
  have hby := Bd.bytes
  have hml : c.maxLocals = 1 := hml0
  have hown : s.vm.findClass "java/lang/String" = some m.cls := findClass_of_methodNamed Bd.named
  have hnm := (name_of_methodNamed Bd.named Bd.method).1
  have hlk : meth.locks = false := BodyLoose.notSynchronized Bd
  have X0 : Stand p l e ({ frames := 0, cells := 0, slots := 0, locals := 0 } : Room) s m #[(.ref sx)] below meth c s₁ [] 0 0 := Stand.of_body Bd
  have e0 : s₁.heap = h0 := by rw [← hh, Bd.state]; rfl
  have N0 := Fr.nil n0
  have K0 : Keep h0 h0 [] := Keep.refl _ _
  have ww : ∀ (k : Nat) {d : Jvm.Cond}, tables_1[k]? = some d → d.before av0 Z = true := fun k d h => hw d (List.mem_of_getElem? h)
  show ownEnds p e below s (Q_isEmpty2 Z sx t gb h0 n0) ({ frames := 0, cells := 0, slots := 0, locals := 0 } : Room).cells ({ frames := 0, cells := 0, slots := 0, locals := 0 } : Room).slots s₁ (entryFrame m #[(.ref sx)] 1)
  refine ownCast (own_ef11_isEmpty2 m sx) ?_
  refine ow_aloadN (q := 1) X0 hx (hb hby own_d11_0) rfl rfl rfl ?_
  obtain ⟨T1, X1, e1, st1⟩ := getF X0 hx hZ hown (host := "") (Or.inl (ww 36 rfl)) Via.refl e0 HF0 (g := (mkF m 1 #[rv sx] [(.ref sx)])) rfl rfl (hb hby own_d11_1)
  refine ownGo (T' := T1) (f' := (mkF m 4 #[rv sx] [(.ref t)])) (st1) ?_
  refine ownGo (T' := T1) (f' := (mkF m 5 #[rv sx] [(.int (2 : Int32))])) (ownLenI HF1 X1 hx hZ e1 (z := (2 : Int32)) (by decide) (g := (mkF m 4 #[rv sx] [(.ref t)])) rfl rfl (hb hby own_d11_4)) ?_
  refine ow_ifYes (q := 12) X1 hx (hb hby own_d11_5) (Jvm.Free.XT.i0_ne_t (by decide)) (by decide) (by decide) ?_
  refine ow_iconst (q := 13) X1 hx (0 : Int32) (hb hby own_d11_12) rfl rfl ?_
  refine ownRetN X1 hx (r := (0 : Int32)) (Or.inl rfl) Bd.returns (hb hby own_d11_13) hlk (by decide) (by decide) (by decide) ?_
  rw [e1]
  exact ⟨rfl, N0, rfl⟩
theorem own_ef12_length2 (m : MethodId) (sx : Addr) : entryFrame m #[(.ref sx)] 1 = mkF m 0 #[rv sx] [] := by first | (simp [entryFrame, mkF, argsToLocals, Value.category]; done) | rfl
def Q_length2 (Z : State) (sx : Addr) (t : Addr) (gb : Nat → Int32) (zc : Int32) (h0 : Heap) (n0 : Nat) (v : Option Value) (h : Heap) (L : List Loc) : Prop := v = some (.int (2 : Int32)) ∧ Fr n0 L ∧ h = h0
set_option maxRecDepth 65536 in
set_option maxHeartbeats 40000000 in
theorem rm_length2 (l : Launch) (Z : State) (av0 : Array Value) (hw : ∀ d ∈ tables_1, d.before av0 Z = true) (ws : List Jvm.Cond) (sx : Addr) (t : Addr) (gb : Nat → Int32) (zc : Int32) (h0 : Heap) (n0 : Nat) (Z0 : n0 ≤ h0.size) (HF0 : Exa Z h0 sx "java/lang/String") (HF1 : Fld Z h0 sx "java/lang/String" "value" "[B" (.ref t)) (HF2 : Fld Z h0 sx "java/lang/String" "coder" "B" (.int (0 : Int32))) (HF3 : ownAI Z h0 t .byte 2 gb) (HF4 : Sta Z h0 "java/lang/String" "COMPACT_STRINGS" "Z" (.int zc)) (hz : ¬ zc = (0 : Int32)) :
    MetFree l (⟨"java/lang/String", "length", "()I"⟩ : MethodName) (head1 (Jvm.Cond.code (⟨"java/lang/String", "length", "()I"⟩ : MethodName) jdk_42_method_54_code 1 (some .int) :: ws) ({ frames := 1, cells := 0, slots := 0, locals := 13 } : Room)) (fun a U => a = #[(.ref sx)] ∧ Z.Warmed39 U.vm ∧ U.heap = h0) (fun _ _ _ _ _ => True) (fun _ U o U' => ∃ v L, o = .returned v ∧ (Q_length2 Z sx t gb zc h0 n0) v U'.heap L ∧ FrameEnd U o U' L ({ frames := 1, cells := 0, slots := 0, locals := 13 } : Room).cells ({ frames := 1, cells := 0, slots := 0, locals := 13 } : Room).slots) := by
  refine MetFree.of_bodySF (plainFor_of_name own_pn_String) hisR ?_
  intro p e s m args below meth c s₁ Bd hml0 hP hK
  obtain ⟨rfl, hZ, hh⟩ := hP
  have hx := Bd.exec
  have hby := Bd.bytes
  have hml : c.maxLocals = 1 := hml0
  have hown : s.vm.findClass "java/lang/String" = some m.cls := findClass_of_methodNamed Bd.named
  have hnm := (name_of_methodNamed Bd.named Bd.method).1
  have hlk : meth.locks = false := BodyLoose.notSynchronized Bd
  have X0 : Stand p l e ({ frames := 1, cells := 0, slots := 0, locals := 13 } : Room) s m #[(.ref sx)] below meth c s₁ [] 0 0 := Stand.of_body Bd
  have e0 : s₁.heap = h0 := by rw [← hh, Bd.state]; rfl
  have N0 := Fr.nil n0
  have K0 : Keep h0 h0 [] := Keep.refl _ _
  have ww : ∀ (k : Nat) {d : Jvm.Cond}, tables_1[k]? = some d → d.before av0 Z = true := fun k d h => hw d (List.mem_of_getElem? h)
  show ownEnds p e below s (Q_length2 Z sx t gb zc h0 n0) ({ frames := 1, cells := 0, slots := 0, locals := 13 } : Room).cells ({ frames := 1, cells := 0, slots := 0, locals := 13 } : Room).slots s₁ (entryFrame m #[(.ref sx)] 1)
  refine ownCast (own_ef12_length2 m sx) ?_
  refine ow_aloadN (q := 1) X0 hx (hb hby own_d12_0) rfl rfl rfl ?_
  obtain ⟨T1, X1, e1, st1⟩ := getF X0 hx hZ hown (host := "") (Or.inl (ww 36 rfl)) Via.refl e0 HF1 (g := (mkF m 1 #[rv sx] [(.ref sx)])) rfl rfl (hb hby own_d12_1)
  refine ownGo (T' := T1) (f' := (mkF m 4 #[rv sx] [(.ref t)])) (st1) ?_
  refine ownGo (T' := T1) (f' := (mkF m 5 #[rv sx] [(.int (2 : Int32))])) (ownLenI HF3 X1 hx hZ e1 (z := (2 : Int32)) (by decide) (g := (mkF m 4 #[rv sx] [(.ref t)])) rfl rfl (hb hby own_d12_4)) ?_
  refine ow_aloadN (q := 6) X1 hx (hb hby own_d12_5) rfl rfl rfl ?_
  obtain ⟨cq2, kq2, q2a, q2b, q2c⟩ := isOf hZ e1 HF0
  obtain ⟨_, _, ⟨T2, L2, k2, n2⟩, -, X2, ⟨Lc2, hQ2, l2, y2, z2⟩, st2⟩ := X1.virtualBack hx (y := (⟨"java/lang/String", "coder", "()B"⟩ : MethodName)) (z := (⟨"java/lang/String", "coder", "()B"⟩ : MethodName)) hown (mvT hZ (ww 59 rfl)) (mvT hZ (ww 60 rfl)) (notFace_of_selects (args := #[]) (mvT hZ (ww 62 rfl))) (mvT hZ (ww 62 rfl)) (mvT hZ (ww 61 rfl)) (by decide) (backOf (W := 1) (rm_coder l Z av0 hw [] sx zc h0 n0 (Nat.le_trans Z0 K0.1) HF2 HF4 hz) hZ (ww 63 rfl) (ww 11 rfl) (by decide) (by decide)) q2a q2c (g := (mkF m 6 #[rv sx] [(.ref sx), (.int (2 : Int32))])) rfl (by rw [hml]; rfl) (Steps.refl _) (argsL := []) (rest := [(.int (2 : Int32))]) (lenOf own_pd2 rfl) rfl (by show 2 * 0 + _ ≤ _; exact Nat.le_of_eq rfl) (hb hby own_d12_6) (fun _ _ => ⟨rfl, e1, (by decide : 0 + 0 ≤ _), (by decide : 0 + 0 ≤ _)⟩)
  dsimp only [Pt.U, Pt.locs, Pt.cells, Pt.slots] at X2 l2 y2 z2 st2 hQ2
  subst l2 y2 z2
  obtain ⟨rfl, N2q, e2⟩ := hQ2
  have N2 := Fr.app N0 N2q
  refine ownRun (T' := T2) (f' := (mkF m 9 #[rv sx] [(.int (0 : Int32)), (.int (2 : Int32))])) st2 ?_
  refine ow_ishr (q := 10) X2 hx (2 : Int32) (hb hby own_d12_9) rfl (by decide) ?_
  refine ownRetI X2 hx Bd.returns (hb hby own_d12_10) hlk (by decide) (by decide) ?_
  rw [e2]
  exact ⟨rfl, N2, rfl⟩
theorem own_ef16_lat2 (m : MethodId) (t : Addr) (p1 : Int32) : entryFrame m #[(.ref t), (.int p1)] 2 = mkF m 0 #[rv t, iv p1] [] := by first | (simp [entryFrame, mkF, argsToLocals, Value.category]; done) | rfl
def Q_lat2 (Z : State) (t : Addr) (p1 : Int32) (gb : Nat → Int32) (fm : Value) (h0 : Heap) (n0 : Nat) (v : Option Value) (h : Heap) (L : List Loc) : Prop := ∃ (r : Int32), v = some (.int r) ∧ Fr n0 L ∧ h = h0 ∧ (own_okb r = true)
set_option maxRecDepth 65536 in
set_option maxHeartbeats 40000000 in
theorem rm_lat2 (l : Launch) (Z : State) (av0 : Array Value) (hw : ∀ d ∈ tables_1, d.before av0 Z = true) (ws : List Jvm.Cond) (t : Addr) (p1 : Int32) (gb : Nat → Int32) (fm : Value) (h0 : Heap) (n0 : Nat) (Z0 : n0 ≤ h0.size) (HF0 : ownAI Z h0 t .byte 2 gb) (HF1 : Sta Z h0 "jdk/internal/util/Preconditions" "SIOOBE_FORMATTER" "Ljava/util/function/BiFunction;" fm) (hlo : ¬ p1 < (0 : Int32)) (hhi : p1 < (2 : Int32)) (hr_fm : fm.isRef = true) (hok : ∀ k, k < 2 → own_okb (gb k) = true) :
    MetFree l (⟨"java/lang/StringLatin1", "charAt", "([BI)C"⟩ : MethodName) (head1 (Jvm.Cond.code (⟨"java/lang/StringLatin1", "charAt", "([BI)C"⟩ : MethodName) jdk_43_method_2_code 2 (some .char) :: ws) ({ frames := 2, cells := 0, slots := 0, locals := 27 } : Room)) (fun a U => a = #[(.ref t), (.int p1)] ∧ Z.Warmed39 U.vm ∧ U.heap = h0) (fun _ _ _ _ _ => True) (fun _ U o U' => ∃ v L, o = .returned v ∧ (Q_lat2 Z t p1 gb fm h0 n0) v U'.heap L ∧ FrameEnd U o U' L ({ frames := 2, cells := 0, slots := 0, locals := 27 } : Room).cells ({ frames := 2, cells := 0, slots := 0, locals := 27 } : Room).slots) := by
  refine MetFree.of_bodySF (plainFor_of_name own_pn_StringLatin1) hisR ?_
  intro p e s m args below meth c s₁ Bd hml0 hP hK
  obtain ⟨rfl, hZ, hh⟩ := hP
  have hx := Bd.exec
  have hby := Bd.bytes
  have hml : c.maxLocals = 2 := hml0
  have hown : s.vm.findClass "java/lang/StringLatin1" = some m.cls := findClass_of_methodNamed Bd.named
  have hnm := (name_of_methodNamed Bd.named Bd.method).1
  have hlk : meth.locks = false := BodyLoose.notSynchronized Bd
  have X0 : Stand p l e ({ frames := 2, cells := 0, slots := 0, locals := 27 } : Room) s m #[(.ref t), (.int p1)] below meth c s₁ [] 0 0 := Stand.of_body Bd
  have e0 : s₁.heap = h0 := by rw [← hh, Bd.state]; rfl
  have N0 := Fr.nil n0
  have K0 : Keep h0 h0 [] := Keep.refl _ _
  have ww : ∀ (k : Nat) {d : Jvm.Cond}, tables_1[k]? = some d → d.before av0 Z = true := fun k d h => hw d (List.mem_of_getElem? h)
  show ownEnds p e below s (Q_lat2 Z t p1 gb fm h0 n0) ({ frames := 2, cells := 0, slots := 0, locals := 27 } : Room).cells ({ frames := 2, cells := 0, slots := 0, locals := 27 } : Room).slots s₁ (entryFrame m #[(.ref t), (.int p1)] 2)
  refine ownCast (own_ef16_lat2 m t p1) ?_
  refine ow_iloadN (q := 1) X0 hx (hb hby own_d16_0) rfl rfl ?_
  refine ow_aloadN (q := 2) X0 hx (hb hby own_d16_1) rfl rfl rfl ?_
  refine ownGo (T' := s₁) (f' := (mkF m 3 #[rv t, iv p1] [(.int (2 : Int32)), (.int p1)])) (ownLenI HF0 X0 hx hZ e0 (z := (2 : Int32)) (by decide) (g := (mkF m 2 #[rv t, iv p1] [(.ref t), (.int p1)])) rfl rfl (hb hby own_d16_2)) ?_
  obtain ⟨_, _, ⟨T1, L1, k1, n1⟩, -, X1, ⟨Lc1, hQ1, l1, y1, z1⟩, st1⟩ := Jvm.LawKit.callS X0 hx (y := (⟨"java/lang/String", "checkIndex", "(II)V"⟩ : MethodName)) hown (mvT hZ (ww 78 rfl)) (mvT hZ (ww 79 rfl)) (mvT hZ (ww 11 rfl)) (mvT hZ (ww 80 rfl)) (by decide) (backOf (W := 0) (rm_scheck l Z av0 hw [] p1 (2 : Int32) fm h0 n0 (Nat.le_trans Z0 K0.1) HF1 hlo hhi hr_fm) hZ (ww 80 rfl) (ww 11 rfl) (by decide) (by decide)) (g := (mkF m 3 #[rv t, iv p1] [(.int (2 : Int32)), (.int p1)])) rfl (by rw [hml]; rfl) (argsL := [(.int p1), (.int (2 : Int32))]) (rest := []) (lenOf own_pd3 rfl) rfl (by show 2 * 0 + _ ≤ _; exact Nat.le_of_eq rfl) (hb hby own_d16_3) (fun _ _ => ⟨rfl, e0, (by decide : 0 + 0 ≤ _), (by decide : 0 + 0 ≤ _)⟩)
  dsimp only [Pt.U, Pt.locs, Pt.cells, Pt.slots] at X1 l1 y1 z1 st1 hQ1
  subst l1 y1 z1
  obtain ⟨rfl, N1q, e1⟩ := hQ1
  have N1 := Fr.app N0 N1q
  refine ownGo (T' := T1) (f' := (mkF m 6 #[rv t, iv p1] [])) (st1) ?_
  refine ow_aloadN (q := 7) X1 hx (hb hby own_d16_6) rfl rfl rfl ?_
  refine ow_iloadN (q := 8) X1 hx (hb hby own_d16_7) rfl rfl ?_
  refine ownGo (T' := T1) (f' := (mkF m 9 #[rv t, iv p1] [(.int (gb p1.toNatClampNeg))])) (ownBaload HF0 X1 hx hZ e1 (j := p1) (own_in hlo hhi rfl) (g := (mkF m 8 #[rv t, iv p1] [(.int p1), (.ref t)])) rfl rfl (hb hby own_d16_8)) ?_
  generalize hv_v2 : (gb p1.toNatClampNeg) = v2
  refine ow_sipush (q := 12) X1 hx (255 : Int32) (hb hby own_d16_9) rfl rfl ?_
  refine ow_iand (q := 13) X1 hx _ (hb hby own_d16_12) rfl rfl ?_
  refine ow_i2c (q := 14) X1 hx _ (hb hby own_d16_13) rfl rfl ?_
  refine ownRetN X1 hx (r := v2) (Or.inr (Or.inr (Or.inl rfl))) Bd.returns (hb hby own_d16_14) hlk (by decide) (by decide) (own_ch (own_okv hv_v2 (hok _ (own_in2 hlo hhi rfl)))) ?_
  rw [e1]
  refine ⟨v2, rfl, N1, rfl, ?_⟩
  exact own_okv hv_v2 (hok _ (own_in2 hlo hhi rfl))
theorem own_ef14_charAt2 (m : MethodId) (sx : Addr) (p1 : Int32) : entryFrame m #[(.ref sx), (.int p1)] 2 = mkF m 0 #[rv sx, iv p1] [] := by first | (simp [entryFrame, mkF, argsToLocals, Value.category]; done) | rfl
def Q_charAt2 (Z : State) (sx : Addr) (p1 : Int32) (t : Addr) (gb : Nat → Int32) (zc : Int32) (fm : Value) (h0 : Heap) (n0 : Nat) (v : Option Value) (h : Heap) (L : List Loc) : Prop := ∃ (r : Int32), v = some (.int r) ∧ Fr n0 L ∧ h = h0 ∧ (own_okb r = true)
set_option maxRecDepth 65536 in
set_option maxHeartbeats 40000000 in
theorem rm_charAt2 (l : Launch) (Z : State) (av0 : Array Value) (hw : ∀ d ∈ tables_1, d.before av0 Z = true) (ws : List Jvm.Cond) (sx : Addr) (p1 : Int32) (t : Addr) (gb : Nat → Int32) (zc : Int32) (fm : Value) (h0 : Heap) (n0 : Nat) (Z0 : n0 ≤ h0.size) (HF0 : Exa Z h0 sx "java/lang/String") (HF1 : Fld Z h0 sx "java/lang/String" "value" "[B" (.ref t)) (HF2 : Fld Z h0 sx "java/lang/String" "coder" "B" (.int (0 : Int32))) (HF3 : ownAI Z h0 t .byte 2 gb) (HF4 : Sta Z h0 "java/lang/String" "COMPACT_STRINGS" "Z" (.int zc)) (HF5 : Sta Z h0 "jdk/internal/util/Preconditions" "SIOOBE_FORMATTER" "Ljava/util/function/BiFunction;" fm) (hlo : ¬ p1 < (0 : Int32)) (hhi : p1 < (2 : Int32)) (hz : ¬ zc = (0 : Int32)) (hr_fm : fm.isRef = true) (hok : ∀ k, k < 2 → own_okb (gb k) = true) :
    MetFree l (⟨"java/lang/String", "charAt", "(I)C"⟩ : MethodName) (head1 (Jvm.Cond.code (⟨"java/lang/String", "charAt", "(I)C"⟩ : MethodName) jdk_42_method_56_code 2 (some .char) :: ws) ({ frames := 3, cells := 0, slots := 0, locals := 40 } : Room)) (fun a U => a = #[(.ref sx), (.int p1)] ∧ Z.Warmed39 U.vm ∧ U.heap = h0) (fun _ _ _ _ _ => True) (fun _ U o U' => ∃ v L, o = .returned v ∧ (Q_charAt2 Z sx p1 t gb zc fm h0 n0) v U'.heap L ∧ FrameEnd U o U' L ({ frames := 3, cells := 0, slots := 0, locals := 40 } : Room).cells ({ frames := 3, cells := 0, slots := 0, locals := 40 } : Room).slots) := by
  refine MetFree.of_bodySF (plainFor_of_name own_pn_String) hisR ?_
  intro p e s m args below meth c s₁ Bd hml0 hP hK
  obtain ⟨rfl, hZ, hh⟩ := hP
  have hx := Bd.exec
  have hby := Bd.bytes
  have hml : c.maxLocals = 2 := hml0
  have hown : s.vm.findClass "java/lang/String" = some m.cls := findClass_of_methodNamed Bd.named
  have hnm := (name_of_methodNamed Bd.named Bd.method).1
  have hlk : meth.locks = false := BodyLoose.notSynchronized Bd
  have X0 : Stand p l e ({ frames := 3, cells := 0, slots := 0, locals := 40 } : Room) s m #[(.ref sx), (.int p1)] below meth c s₁ [] 0 0 := Stand.of_body Bd
  have e0 : s₁.heap = h0 := by rw [← hh, Bd.state]; rfl
  have N0 := Fr.nil n0
  have K0 : Keep h0 h0 [] := Keep.refl _ _
  have ww : ∀ (k : Nat) {d : Jvm.Cond}, tables_1[k]? = some d → d.before av0 Z = true := fun k d h => hw d (List.mem_of_getElem? h)
  show ownEnds p e below s (Q_charAt2 Z sx p1 t gb zc fm h0 n0) ({ frames := 3, cells := 0, slots := 0, locals := 40 } : Room).cells ({ frames := 3, cells := 0, slots := 0, locals := 40 } : Room).slots s₁ (entryFrame m #[(.ref sx), (.int p1)] 2)
  refine ownCast (own_ef14_charAt2 m sx p1) ?_
  refine ow_aloadN (q := 1) X0 hx (hb hby own_d14_0) rfl rfl rfl ?_
  obtain ⟨cq1, kq1, q1a, q1b, q1c⟩ := isOf hZ e0 HF0
  obtain ⟨_, _, ⟨T1, L1, k1, n1⟩, -, X1, ⟨Lc1, hQ1, l1, y1, z1⟩, st1⟩ := X0.virtualBack hx (y := (⟨"java/lang/String", "isLatin1", "()Z"⟩ : MethodName)) (z := (⟨"java/lang/String", "isLatin1", "()Z"⟩ : MethodName)) hown (mvT hZ (ww 69 rfl)) (mvT hZ (ww 70 rfl)) (notFace_of_selects (args := #[]) (mvT hZ (ww 72 rfl))) (mvT hZ (ww 72 rfl)) (mvT hZ (ww 71 rfl)) (by decide) (backOf (W := 0) (rm_isLatin1 l Z av0 hw [] sx zc h0 n0 (Nat.le_trans Z0 K0.1) HF2 HF4 hz) hZ (ww 73 rfl) (ww 11 rfl) (by decide) (by decide)) q1a q1c (g := (mkF m 1 #[rv sx, iv p1] [(.ref sx)])) rfl (by rw [hml]; rfl) (Steps.refl _) (argsL := []) (rest := []) (lenOf own_pd4 rfl) rfl (by show 2 * 0 + _ ≤ _; exact Nat.le_of_eq rfl) (hb hby own_d14_1) (fun _ _ => ⟨rfl, e0, (by decide : 0 + 0 ≤ _), (by decide : 0 + 0 ≤ _)⟩)
  dsimp only [Pt.U, Pt.locs, Pt.cells, Pt.slots] at X1 l1 y1 z1 st1 hQ1
  subst l1 y1 z1
  obtain ⟨rfl, N1q, e1⟩ := hQ1
  have N1 := Fr.app N0 N1q
  refine ownRun (T' := T1) (f' := (mkF m 4 #[rv sx, iv p1] [(.int (1 : Int32))])) st1 ?_
  refine ow_ifNo (q := 7) X1 hx (hb hby own_d14_4) rfl (Jvm.Free.XT.i0_eq_f (by decide)) ?_
  refine ow_aloadN (q := 8) X1 hx (hb hby own_d14_7) rfl rfl rfl ?_
  obtain ⟨T2, X2, e2, st2⟩ := getF X1 hx hZ hown (host := "") (Or.inl (ww 36 rfl)) Via.refl e1 HF1 (g := (mkF m 8 #[rv sx, iv p1] [(.ref sx)])) rfl rfl (hb hby own_d14_8)
  refine ownGo (T' := T2) (f' := (mkF m 11 #[rv sx, iv p1] [(.ref t)])) (st2) ?_
  refine ow_iloadN (q := 12) X2 hx (hb hby own_d14_11) rfl rfl ?_
  obtain ⟨_, _, ⟨T3, L3, k3, n3⟩, -, X3, ⟨Lc3, hQ3, l3, y3, z3⟩, st3⟩ := Jvm.LawKit.callS X2 hx (y := (⟨"java/lang/StringLatin1", "charAt", "([BI)C"⟩ : MethodName)) hown (mvT hZ (ww 74 rfl)) (mvT hZ (ww 75 rfl)) (mvT hZ (ww 76 rfl)) (mvT hZ (ww 77 rfl)) (by decide) (backOf (W := 0) (rm_lat2 l Z av0 hw [] t p1 gb fm h0 n0 (Nat.le_trans Z0 K0.1) HF3 HF5 hlo hhi hr_fm hok) hZ (ww 77 rfl) (ww 76 rfl) (by decide) (by decide)) (g := (mkF m 12 #[rv sx, iv p1] [(.int p1), (.ref t)])) rfl (by rw [hml]; rfl) (argsL := [(.ref t), (.int p1)]) (rest := []) (lenOf own_pd5 rfl) rfl (by show 2 * 0 + _ ≤ _; exact Nat.le_of_eq rfl) (hb hby own_d14_12) (fun _ _ => ⟨rfl, e2, (by decide : 0 + 0 ≤ _), (by decide : 0 + 0 ≤ _)⟩)
  dsimp only [Pt.U, Pt.locs, Pt.cells, Pt.slots] at X3 l3 y3 z3 st3 hQ3
  subst l3 y3 z3
  obtain ⟨r3, rfl, N3q, e3, hp3⟩ := hQ3
  have N3 := Fr.app N1 N3q
  refine ownGo (T' := T3) (f' := (mkF m 15 #[rv sx, iv p1] [(.int r3)])) (st3) ?_
  refine ownRetN X3 hx (r := r3) (Or.inr (Or.inr (Or.inl rfl))) Bd.returns (hb hby own_d14_15) hlk (by decide) (by decide) (own_nar hp3) ?_
  rw [e3]
  refine ⟨r3, rfl, N3, rfl, ?_⟩
  exact hp3
theorem own_ef9_valid2 (m : MethodId) (sx : Addr) : entryFrame m #[(.ref sx)] 4 = mkF m 0 #[rv sx, .unset, .unset, .unset] [] := by first | (simp [entryFrame, mkF, argsToLocals, Value.category]; done) | rfl
def Q_valid2 (Z : State) (sx : Addr) (t : Addr) (gb : Nat → Int32) (zc : Int32) (fm : Value) (h0 : Heap) (n0 : Nat) (v : Option Value) (h : Heap) (L : List Loc) : Prop := v = some (.ref sx) ∧ Fr n0 L ∧ Keep h0 h []
set_option maxRecDepth 65536 in
set_option maxHeartbeats 40000000 in
theorem rm_valid2 (l : Launch) (Z : State) (av0 : Array Value) (hw : ∀ d ∈ tables_1, d.before av0 Z = true) (ws : List Jvm.Cond) (sx : Addr) (t : Addr) (gb : Nat → Int32) (zc : Int32) (fm : Value) (h0 : Heap) (n0 : Nat) (Z0 : n0 ≤ h0.size) (HF0 : Exa Z h0 sx "java/lang/String") (HF1 : Fld Z h0 sx "java/lang/String" "value" "[B" (.ref t)) (HF2 : Fld Z h0 sx "java/lang/String" "coder" "B" (.int (0 : Int32))) (HF3 : ownAI Z h0 t .byte 2 gb) (HF4 : Sta Z h0 "java/lang/String" "COMPACT_STRINGS" "Z" (.int zc)) (HF5 : Sta Z h0 "jdk/internal/util/Preconditions" "SIOOBE_FORMATTER" "Ljava/util/function/BiFunction;" fm) (hz : ¬ zc = (0 : Int32)) (hr_fm : fm.isRef = true) (hok : ∀ k, k < 2 → own_okb (gb k) = true) :
    MetFree l (⟨"com/example/un1son/un1son/Candidate", "requireValidId", "(Ljava/lang/String;)Ljava/lang/String;"⟩ : MethodName) (head1 (Jvm.Cond.code (⟨"com/example/un1son/un1son/Candidate", "requireValidId", "(Ljava/lang/String;)Ljava/lang/String;"⟩ : MethodName) prog_1_method_2_code 4 (some (.object "java/lang/String")) :: ws) ({ frames := 4, cells := 2, slots := 12, locals := 53 } : Room)) (fun a U => a = #[(.ref sx)] ∧ Z.Warmed39 U.vm ∧ U.heap = h0) (fun _ _ _ _ _ => True) (fun _ U o U' => ∃ v L, o = .returned v ∧ (Q_valid2 Z sx t gb zc fm h0 n0) v U'.heap L ∧ ReturnedEndW U o U' L ({ frames := 4, cells := 2, slots := 12, locals := 53 } : Room).cells ({ frames := 4, cells := 2, slots := 12, locals := 53 } : Room).slots) := by
  refine MetFree.of_bodySF (plainFor_of_name own_pn_Candidate) hisR ?_
  intro p e s m args below meth c s₁ Bd hml0 hP hK
  obtain ⟨rfl, hZ, hh⟩ := hP
  have hx := Bd.exec
  have hby := Bd.bytes
  have hml : c.maxLocals = 4 := hml0
  have hown : s.vm.findClass "com/example/un1son/un1son/Candidate" = some m.cls := findClass_of_methodNamed Bd.named
  have hnm := (name_of_methodNamed Bd.named Bd.method).1
  have hlk : meth.locks = false := BodyLoose.notSynchronized Bd
  have X0 : Stand p l e ({ frames := 4, cells := 2, slots := 12, locals := 53 } : Room) s m #[(.ref sx)] below meth c s₁ [] 0 0 := Stand.of_body Bd
  have e0 : s₁.heap = h0 := by rw [← hh, Bd.state]; rfl
  have N0 := Fr.nil n0
  have K0 : Keep h0 h0 [] := Keep.refl _ _
  have ww : ∀ (k : Nat) {d : Jvm.Cond}, tables_1[k]? = some d → d.before av0 Z = true := fun k d h => hw d (List.mem_of_getElem? h)
  have wStr : ∀ d ∈ Bundle.stringAtoms, d.before av0 Z = true := fun d hd => hw d ((by decide +kernel : ∀ d ∈ Bundle.stringAtoms, d ∈ tables_1) d hd)
  show ownEndsW p e below s (Q_valid2 Z sx t gb zc fm h0 n0) ({ frames := 4, cells := 2, slots := 12, locals := 53 } : Room).cells ({ frames := 4, cells := 2, slots := 12, locals := 53 } : Room).slots s₁ (entryFrame m #[(.ref sx)] 4)
  refine ownCastW (own_ef9_valid2 m sx) ?_
  refine ow_aloadNW (q := 1) X0 hx (hb hby own_d9_0) rfl rfl rfl ?_
  obtain ⟨cs1, T1, h1, X1, hS1, e1, E1, st1⟩ := ownLdc X0 hx hZ hown (ww 42 rfl) wStr e0 (g := (mkF m 1 #[rv sx, .unset, .unset, .unset] [(.ref sx)])) rfl (hb hby own_d9_1) (n := 8) (by decide) (by decide) (by decide) (by decide)
  have K1 : Keep h0 h1 [] := K0.ext E1
  have F2 : Exa Z h1 sx "java/lang/String" := HF0.ext E1
  have F3 : Fld Z h1 sx "java/lang/String" "value" "[B" (.ref t) := HF1.ext E1
  have F4 : Fld Z h1 sx "java/lang/String" "coder" "B" (.int (0 : Int32)) := HF2.ext E1
  have F5 : ownAI Z h1 t .byte 2 gb := HF3.ext E1
  have F6 : Sta Z h1 "java/lang/String" "COMPACT_STRINGS" "Z" (.int zc) := HF4.ext E1
  have F7 : Sta Z h1 "jdk/internal/util/Preconditions" "SIOOBE_FORMATTER" "Ljava/util/function/BiFunction;" fm := HF5.ext E1
  refine ownGoW (T' := T1) (f' := (mkF m 3 #[rv sx, .unset, .unset, .unset] [(.ref cs1), (.ref sx)])) (st1) ?_
  refine ownRebaseW hZ hown hS1 X1 ?_
  intro s X1 hZ hown
  obtain ⟨_, _, ⟨T8, L8, k8, n8⟩, -, X8, ⟨Lc8, hQ8, l8, y8, z8⟩, st8⟩ := Jvm.LawKit.callS X1 hx (y := (⟨"java/util/Objects", "requireNonNull", "(Ljava/lang/Object;Ljava/lang/String;)Ljava/lang/Object;"⟩ : MethodName)) hown (mvT hZ (ww 45 rfl)) (mvT hZ (ww 46 rfl)) (mvT hZ (ww 47 rfl)) (mvT hZ (ww 48 rfl)) (by decide) (backOf (W := 0) (rm_rnn l Z av0 hw [] sx cs1 h1 n0 (Nat.le_trans Z0 K1.1) ) hZ (ww 48 rfl) (ww 47 rfl) (by decide) (by decide)) (g := (mkF m 3 #[rv sx, .unset, .unset, .unset] [(.ref cs1), (.ref sx)])) rfl (by rw [hml]; rfl) (argsL := [(.ref sx), (.ref cs1)]) (rest := []) (lenOf own_pd6 rfl) rfl (by show 2 * 0 + _ ≤ _; exact Nat.le_of_eq rfl) (hb hby own_d9_3) (fun _ _ => ⟨rfl, e1, (by decide : 2 + 0 ≤ _), (by decide : 12 + 0 ≤ _)⟩)
  dsimp only [Pt.U, Pt.locs, Pt.cells, Pt.slots] at X8 l8 y8 z8 st8 hQ8
  subst l8 y8 z8
  obtain ⟨rfl, N8q, e8⟩ := hQ8
  have N8 := Fr.app N0 N8q
  refine ownGoW (T' := T8) (f' := (mkF m 6 #[rv sx, .unset, .unset, .unset] [(.ref sx)])) (st8) ?_
  refine ow_popW (q := 7) X8 hx (hb hby own_d9_6) rfl rfl ?_
  refine ow_aloadNW (q := 8) X8 hx (hb hby own_d9_7) rfl rfl rfl ?_
  obtain ⟨cq9, kq9, q9a, q9b, q9c⟩ := isOf hZ e8 F2
  obtain ⟨_, _, ⟨T9, L9, k9, n9⟩, -, X9, ⟨Lc9, hQ9, l9, y9, z9⟩, st9⟩ := X8.virtualBack hx (y := (⟨"java/lang/String", "isEmpty", "()Z"⟩ : MethodName)) (z := (⟨"java/lang/String", "isEmpty", "()Z"⟩ : MethodName)) hown (mvT hZ (ww 49 rfl)) (mvT hZ (ww 50 rfl)) (notFace_of_selects (args := #[]) (mvT hZ (ww 52 rfl))) (mvT hZ (ww 52 rfl)) (mvT hZ (ww 51 rfl)) (by decide) (backOf (W := 0) (rm_isEmpty2 l Z av0 hw [] sx t gb h1 n0 (Nat.le_trans Z0 K1.1) F3 F5) hZ (ww 53 rfl) (ww 11 rfl) (by decide) (by decide)) q9a q9c (g := (mkF m 8 #[rv sx, .unset, .unset, .unset] [(.ref sx)])) rfl (by rw [hml]; rfl) (Steps.refl _) (argsL := []) (rest := []) (lenOf own_pd4 rfl) rfl (by show 2 * 0 + _ ≤ _; exact Nat.le_of_eq rfl) (hb hby own_d9_8) (fun _ _ => ⟨rfl, e8, (by decide : 2 + 0 ≤ _), (by decide : 12 + 0 ≤ _)⟩)
  dsimp only [Pt.U, Pt.locs, Pt.cells, Pt.slots] at X9 l9 y9 z9 st9 hQ9
  subst l9 y9 z9
  obtain ⟨rfl, N9q, e9⟩ := hQ9
  have N9 := Fr.app N8 N9q
  refine ownRunW (T' := T9) (f' := (mkF m 11 #[rv sx, .unset, .unset, .unset] [(.int (0 : Int32))])) st9 ?_
  refine ow_ifNoW (q := 14) X9 hx (hb hby own_d9_11) rfl (Jvm.Free.XT.i0_ne_f (by decide)) ?_
  refine ow_aloadNW (q := 15) X9 hx (hb hby own_d9_14) rfl rfl rfl ?_
  obtain ⟨cq10, kq10, q10a, q10b, q10c⟩ := isOf hZ e9 F2
  obtain ⟨_, _, ⟨T10, L10, k10, n10⟩, -, X10, ⟨Lc10, hQ10, l10, y10, z10⟩, st10⟩ := X9.virtualBack hx (y := (⟨"java/lang/String", "length", "()I"⟩ : MethodName)) (z := (⟨"java/lang/String", "length", "()I"⟩ : MethodName)) hown (mvT hZ (ww 54 rfl)) (mvT hZ (ww 55 rfl)) (notFace_of_selects (args := #[]) (mvT hZ (ww 57 rfl))) (mvT hZ (ww 57 rfl)) (mvT hZ (ww 56 rfl)) (by decide) (backOf (W := 0) (rm_length2 l Z av0 hw [] sx t gb zc h1 n0 (Nat.le_trans Z0 K1.1) F2 F3 F4 F5 F6 hz) hZ (ww 58 rfl) (ww 11 rfl) (by decide) (by decide)) q10a q10c (g := (mkF m 15 #[rv sx, .unset, .unset, .unset] [(.ref sx)])) rfl (by rw [hml]; rfl) (Steps.refl _) (argsL := []) (rest := []) (lenOf own_pd7 rfl) rfl (by show 2 * 0 + _ ≤ _; exact Nat.le_of_eq rfl) (hb hby own_d9_15) (fun _ _ => ⟨rfl, e9, (by decide : 2 + 0 ≤ _), (by decide : 12 + 0 ≤ _)⟩)
  dsimp only [Pt.U, Pt.locs, Pt.cells, Pt.slots] at X10 l10 y10 z10 st10 hQ10
  subst l10 y10 z10
  obtain ⟨rfl, N10q, e10⟩ := hQ10
  have N10 := Fr.app N9 N10q
  refine ownRunW (T' := T10) (f' := (mkF m 18 #[rv sx, .unset, .unset, .unset] [(.int (2 : Int32))])) st10 ?_
  refine ow_bipushW (q := 20) X10 hx (32 : Int32) (hb hby own_d9_18) rfl rfl ?_
  refine ow_icmpYesW (q := 30) X10 hx (hb hby own_d9_20) (Jvm.Free.XT.ii_le_t (by decide)) (by decide) (by decide) ?_
  refine ow_iconstW (q := 31) X10 hx (0 : Int32) (hb hby own_d9_30) rfl rfl ?_
  refine ow_istoreNW (q := 32) X10 hx (L' := #[rv sx, iv (0 : Int32), .unset, .unset]) (hb hby own_d9_31) rfl rfl ?_
  have cut32_11 : ∀ (kk11 : Nat) (i : Int32) (x2 : Int32) (x3 : Int32) (Tc11 : State) (lc11 : List Loc), Stand p l e ({ frames := 4, cells := 2, slots := 12, locals := 53 } : Room) s m #[(.ref sx)] below meth c Tc11 lc11 2 12 → Tc11.heap = h1 → Fr n0 lc11 → 2 - i.toNatClampNeg < kk11 → (¬ i < (0 : Int32)) → (¬ (2 : Int32) < i) → ownEndsW p e below s (fun v hh L => (Q_valid2 Z sx t gb zc fm h0 n0) v hh L ∧ h1.size ≤ hh.size) ({ frames := 4, cells := 2, slots := 12, locals := 53 } : Room).cells ({ frames := 4, cells := 2, slots := 12, locals := 53 } : Room).slots Tc11 (mkF m 32 #[rv sx, iv i, iv x2, iv x3] []) := by
    intro kk11
    induction kk11 with
    | zero => intro i x2 x3 Tc11 lc11 Xc11 ec11 Nc11 hm11 hi0 hi1; exact absurd hm11 (Nat.not_lt_zero _)
    | succ kk11 ih11 =>
      intro i x2 x3 Tc11 lc11 Xc11 ec11 Nc11 hm11 hi0 hi1
      refine ow_iloadNW (q := 33) Xc11 hx (hb hby own_d9_32) rfl rfl ?_
      refine ow_aloadNW (q := 34) Xc11 hx (hb hby own_d9_33) rfl rfl rfl ?_
      obtain ⟨cq12, kq12, q12a, q12b, q12c⟩ := isOf hZ ec11 F2
      obtain ⟨_, _, ⟨T12, L12, k12, n12⟩, -, X12, ⟨Lc12, hQ12, l12, y12, z12⟩, st12⟩ := Xc11.virtualBack hx (y := (⟨"java/lang/String", "length", "()I"⟩ : MethodName)) (z := (⟨"java/lang/String", "length", "()I"⟩ : MethodName)) hown (mvT hZ (ww 54 rfl)) (mvT hZ (ww 55 rfl)) (notFace_of_selects (args := #[]) (mvT hZ (ww 57 rfl))) (mvT hZ (ww 57 rfl)) (mvT hZ (ww 56 rfl)) (by decide) (backOf (W := 1) (rm_length2 l Z av0 hw [] sx t gb zc h1 n0 (Nat.le_trans Z0 K1.1) F2 F3 F4 F5 F6 hz) hZ (ww 58 rfl) (ww 11 rfl) (by decide) (by decide)) q12a q12c (g := (mkF m 34 #[rv sx, iv i, iv x2, iv x3] [(.ref sx), (.int i)])) rfl (by rw [hml]; rfl) (Steps.refl _) (argsL := []) (rest := [(.int i)]) (lenOf own_pd7 rfl) rfl (by show 2 * 0 + _ ≤ _; exact Nat.le_of_eq rfl) (hb hby own_d9_34) (fun _ _ => ⟨rfl, ec11, (by decide : 2 + 0 ≤ _), (by decide : 12 + 0 ≤ _)⟩)
      dsimp only [Pt.U, Pt.locs, Pt.cells, Pt.slots] at X12 l12 y12 z12 st12 hQ12
      subst l12 y12 z12
      obtain ⟨rfl, N12q, e12⟩ := hQ12
      have N12 := Fr.app Nc11 N12q
      refine ownRunW (T' := T12) (f' := (mkF m 37 #[rv sx, iv i, iv x2, iv x3] [(.int (2 : Int32)), (.int i)])) st12 ?_
      by_cases hc37_13 : i < (2 : Int32)
      · refine ow_icmpNoW (q := 40) X12 hx (hb hby own_d9_37) rfl (Jvm.Free.XT.ii_ge_f hc37_13) ?_
        refine ow_aloadNW (q := 41) X12 hx (hb hby own_d9_40) rfl rfl rfl ?_
        refine ow_iloadNW (q := 42) X12 hx (hb hby own_d9_41) rfl rfl ?_
        obtain ⟨cq14, kq14, q14a, q14b, q14c⟩ := isOf hZ e12 F2
        obtain ⟨_, _, ⟨T14, L14, k14, n14⟩, -, X14, ⟨Lc14, hQ14, l14, y14, z14⟩, st14⟩ := X12.virtualBack hx (y := (⟨"java/lang/String", "charAt", "(I)C"⟩ : MethodName)) (z := (⟨"java/lang/String", "charAt", "(I)C"⟩ : MethodName)) hown (mvT hZ (ww 64 rfl)) (mvT hZ (ww 65 rfl)) (notFace_of_selects (args := #[]) (mvT hZ (ww 67 rfl))) (mvT hZ (ww 67 rfl)) (mvT hZ (ww 66 rfl)) (by decide) (backOf (W := 0) (rm_charAt2 l Z av0 hw [] sx i t gb zc fm h1 n0 (Nat.le_trans Z0 K1.1) F2 F3 F4 F5 F6 F7 hi0 hc37_13 hz hr_fm hok) hZ (ww 68 rfl) (ww 11 rfl) (by decide) (by decide)) q14a q14c (g := (mkF m 42 #[rv sx, iv i, iv x2, iv x3] [(.int i), (.ref sx)])) rfl (by rw [hml]; rfl) (Steps.refl _) (argsL := [(.int i)]) (rest := []) (lenOf own_pd0 rfl) rfl (by show 2 * 0 + _ ≤ _; exact Nat.le_of_eq rfl) (hb hby own_d9_42) (fun _ _ => ⟨rfl, e12, (by decide : 2 + 0 ≤ _), (by decide : 12 + 0 ≤ _)⟩)
        dsimp only [Pt.U, Pt.locs, Pt.cells, Pt.slots] at X14 l14 y14 z14 st14 hQ14
        subst l14 y14 z14
        obtain ⟨r14, rfl, N14q, e14, hp14⟩ := hQ14
        have N14 := Fr.app N12 N14q
        refine ownRunW (T' := T14) (f' := (mkF m 45 #[rv sx, iv i, iv x2, iv x3] [(.int r14)])) st14 ?_
        refine ow_istoreNW (q := 46) X14 hx (L' := #[rv sx, iv i, iv r14, iv x3]) (hb hby own_d9_45) rfl rfl ?_
        refine ow_iloadNW (q := 47) X14 hx (hb hby own_d9_46) rfl rfl ?_
        refine ow_bipushW (q := 49) X14 hx (97 : Int32) (hb hby own_d9_47) rfl rfl ?_
        by_cases hc49_15 : r14 < (97 : Int32)
        · refine ow_icmpYesW (q := 58) X14 hx (hb hby own_d9_49) (Jvm.Free.XT.ii_lt_t hc49_15) (by decide) (by decide) ?_
          refine ow_iloadNW (q := 59) X14 hx (hb hby own_d9_58) rfl rfl ?_
          refine ow_bipushW (q := 61) X14 hx (65 : Int32) (hb hby own_d9_59) rfl rfl ?_
          by_cases hc61_16 : r14 < (65 : Int32)
          · refine ow_icmpYesW (q := 70) X14 hx (hb hby own_d9_61) (Jvm.Free.XT.ii_lt_t hc61_16) (by decide) (by decide) ?_
            refine ow_iloadNW (q := 71) X14 hx (hb hby own_d9_70) rfl rfl ?_
            refine ow_bipushW (q := 73) X14 hx (48 : Int32) (hb hby own_d9_71) rfl rfl ?_
            by_cases hc73_17 : r14 < (48 : Int32)
            · refine ow_icmpYesW (q := 82) X14 hx (hb hby own_d9_73) (Jvm.Free.XT.ii_lt_t hc73_17) (by decide) (by decide) ?_
              refine ow_iloadNW (q := 83) X14 hx (hb hby own_d9_82) rfl rfl ?_
              refine ow_bipushW (q := 85) X14 hx (95 : Int32) (hb hby own_d9_83) rfl rfl ?_
              by_cases hc85_18 : r14 = (95 : Int32)
              · refine ow_icmpYesW (q := 94) X14 hx (hb hby own_d9_85) (Jvm.Free.XT.ii_eq_t hc85_18) (by decide) (by decide) ?_
                refine ow_iconstW (q := 95) X14 hx (1 : Int32) (hb hby own_d9_94) rfl rfl ?_
                refine ow_gotoW (q := 99) X14 hx (hb hby own_d9_95) (by decide) (by decide) ?_
                refine ow_istoreNW (q := 100) X14 hx (L' := #[rv sx, iv i, iv r14, iv (1 : Int32)]) (hb hby own_d9_99) rfl rfl ?_
                refine ow_iloadNW (q := 101) X14 hx (hb hby own_d9_100) rfl rfl ?_
                refine ow_ifYesW (q := 111) X14 hx (hb hby own_d9_101) (Jvm.Free.XT.i0_ne_t (by decide)) (by decide) (by decide) ?_
                refine ow_iincW (q := 114) X14 hx (L' := #[rv sx, iv (i + (1 : Int32)), iv r14, iv (1 : Int32)]) (hb hby own_d9_111) rfl rfl rfl ?_
                generalize hv_v19 : (i + (1 : Int32)) = v19
                refine ow_gotoW (q := 32) X14 hx (hb hby own_d9_114) (by decide) (by decide) ?_
                exact ih11 v19 r14 (1 : Int32) _ _ X14 e14 N14 (own_ms hv_v19 hi0 hc37_13 rfl hm11) (own_i1 hv_v19 hi0 hc37_13).1 (own_i1 hv_v19 hi0 hc37_13).2
              · refine ow_icmpNoW (q := 88) X14 hx (hb hby own_d9_85) rfl (Jvm.Free.XT.ii_eq_f hc85_18) ?_
                refine ow_iloadNW (q := 89) X14 hx (hb hby own_d9_88) rfl rfl ?_
                refine ow_bipushW (q := 91) X14 hx (45 : Int32) (hb hby own_d9_89) rfl rfl ?_
                by_cases hc91_20 : r14 = (45 : Int32)
                · refine ow_icmpNoW (q := 94) X14 hx (hb hby own_d9_91) rfl (Jvm.Free.XT.ii_ne_f hc91_20) ?_
                  refine ow_iconstW (q := 95) X14 hx (1 : Int32) (hb hby own_d9_94) rfl rfl ?_
                  refine ow_gotoW (q := 99) X14 hx (hb hby own_d9_95) (by decide) (by decide) ?_
                  refine ow_istoreNW (q := 100) X14 hx (L' := #[rv sx, iv i, iv r14, iv (1 : Int32)]) (hb hby own_d9_99) rfl rfl ?_
                  refine ow_iloadNW (q := 101) X14 hx (hb hby own_d9_100) rfl rfl ?_
                  refine ow_ifYesW (q := 111) X14 hx (hb hby own_d9_101) (Jvm.Free.XT.i0_ne_t (by decide)) (by decide) (by decide) ?_
                  refine ow_iincW (q := 114) X14 hx (L' := #[rv sx, iv (i + (1 : Int32)), iv r14, iv (1 : Int32)]) (hb hby own_d9_111) rfl rfl rfl ?_
                  generalize hv_v21 : (i + (1 : Int32)) = v21
                  refine ow_gotoW (q := 32) X14 hx (hb hby own_d9_114) (by decide) (by decide) ?_
                  exact ih11 v21 r14 (1 : Int32) _ _ X14 e14 N14 (own_ms hv_v21 hi0 hc37_13 rfl hm11) (own_i1 hv_v21 hi0 hc37_13).1 (own_i1 hv_v21 hi0 hc37_13).2
                · refine ow_icmpYesW (q := 98) X14 hx (hb hby own_d9_91) (Jvm.Free.XT.ii_ne_t hc91_20) (by decide) (by decide) ?_
                  exfalso
                  have hk := own_okI hp14
                  have cc0 := own_ltI hc49_15
                  have cc1 := own_ltI hc61_16
                  have cc2 := own_ltI hc73_17
                  have cc3 := own_neI hc85_18
                  have cc4 := own_neI hc91_20
                  simp only [Int32.reduceToInt] at cc0 cc1 cc2 cc3 cc4
                  omega
            · refine ow_icmpNoW (q := 76) X14 hx (hb hby own_d9_73) rfl (Jvm.Free.XT.ii_lt_f hc73_17) ?_
              refine ow_iloadNW (q := 77) X14 hx (hb hby own_d9_76) rfl rfl ?_
              refine ow_bipushW (q := 79) X14 hx (57 : Int32) (hb hby own_d9_77) rfl rfl ?_
              by_cases hc79_22 : (57 : Int32) < r14
              · refine ow_icmpNoW (q := 82) X14 hx (hb hby own_d9_79) rfl (Jvm.Free.XT.ii_le_f hc79_22) ?_
                refine ow_iloadNW (q := 83) X14 hx (hb hby own_d9_82) rfl rfl ?_
                refine ow_bipushW (q := 85) X14 hx (95 : Int32) (hb hby own_d9_83) rfl rfl ?_
                by_cases hc85_23 : r14 = (95 : Int32)
                · refine ow_icmpYesW (q := 94) X14 hx (hb hby own_d9_85) (Jvm.Free.XT.ii_eq_t hc85_23) (by decide) (by decide) ?_
                  refine ow_iconstW (q := 95) X14 hx (1 : Int32) (hb hby own_d9_94) rfl rfl ?_
                  refine ow_gotoW (q := 99) X14 hx (hb hby own_d9_95) (by decide) (by decide) ?_
                  refine ow_istoreNW (q := 100) X14 hx (L' := #[rv sx, iv i, iv r14, iv (1 : Int32)]) (hb hby own_d9_99) rfl rfl ?_
                  refine ow_iloadNW (q := 101) X14 hx (hb hby own_d9_100) rfl rfl ?_
                  refine ow_ifYesW (q := 111) X14 hx (hb hby own_d9_101) (Jvm.Free.XT.i0_ne_t (by decide)) (by decide) (by decide) ?_
                  refine ow_iincW (q := 114) X14 hx (L' := #[rv sx, iv (i + (1 : Int32)), iv r14, iv (1 : Int32)]) (hb hby own_d9_111) rfl rfl rfl ?_
                  generalize hv_v24 : (i + (1 : Int32)) = v24
                  refine ow_gotoW (q := 32) X14 hx (hb hby own_d9_114) (by decide) (by decide) ?_
                  exact ih11 v24 r14 (1 : Int32) _ _ X14 e14 N14 (own_ms hv_v24 hi0 hc37_13 rfl hm11) (own_i1 hv_v24 hi0 hc37_13).1 (own_i1 hv_v24 hi0 hc37_13).2
                · refine ow_icmpNoW (q := 88) X14 hx (hb hby own_d9_85) rfl (Jvm.Free.XT.ii_eq_f hc85_23) ?_
                  refine ow_iloadNW (q := 89) X14 hx (hb hby own_d9_88) rfl rfl ?_
                  refine ow_bipushW (q := 91) X14 hx (45 : Int32) (hb hby own_d9_89) rfl rfl ?_
                  by_cases hc91_25 : r14 = (45 : Int32)
                  · refine ow_icmpNoW (q := 94) X14 hx (hb hby own_d9_91) rfl (Jvm.Free.XT.ii_ne_f hc91_25) ?_
                    refine ow_iconstW (q := 95) X14 hx (1 : Int32) (hb hby own_d9_94) rfl rfl ?_
                    refine ow_gotoW (q := 99) X14 hx (hb hby own_d9_95) (by decide) (by decide) ?_
                    refine ow_istoreNW (q := 100) X14 hx (L' := #[rv sx, iv i, iv r14, iv (1 : Int32)]) (hb hby own_d9_99) rfl rfl ?_
                    refine ow_iloadNW (q := 101) X14 hx (hb hby own_d9_100) rfl rfl ?_
                    refine ow_ifYesW (q := 111) X14 hx (hb hby own_d9_101) (Jvm.Free.XT.i0_ne_t (by decide)) (by decide) (by decide) ?_
                    refine ow_iincW (q := 114) X14 hx (L' := #[rv sx, iv (i + (1 : Int32)), iv r14, iv (1 : Int32)]) (hb hby own_d9_111) rfl rfl rfl ?_
                    generalize hv_v26 : (i + (1 : Int32)) = v26
                    refine ow_gotoW (q := 32) X14 hx (hb hby own_d9_114) (by decide) (by decide) ?_
                    exact ih11 v26 r14 (1 : Int32) _ _ X14 e14 N14 (own_ms hv_v26 hi0 hc37_13 rfl hm11) (own_i1 hv_v26 hi0 hc37_13).1 (own_i1 hv_v26 hi0 hc37_13).2
                  · refine ow_icmpYesW (q := 98) X14 hx (hb hby own_d9_91) (Jvm.Free.XT.ii_ne_t hc91_25) (by decide) (by decide) ?_
                    exfalso
                    have hk := own_okI hp14
                    have cc0 := own_ltI hc49_15
                    have cc1 := own_ltI hc61_16
                    have cc2 := own_nltI hc73_17
                    have cc3 := own_ltI hc79_22
                    have cc4 := own_neI hc85_23
                    have cc5 := own_neI hc91_25
                    simp only [Int32.reduceToInt] at cc0 cc1 cc2 cc3 cc4 cc5
                    omega
              · refine ow_icmpYesW (q := 94) X14 hx (hb hby own_d9_79) (Jvm.Free.XT.ii_le_t hc79_22) (by decide) (by decide) ?_
                refine ow_iconstW (q := 95) X14 hx (1 : Int32) (hb hby own_d9_94) rfl rfl ?_
                refine ow_gotoW (q := 99) X14 hx (hb hby own_d9_95) (by decide) (by decide) ?_
                refine ow_istoreNW (q := 100) X14 hx (L' := #[rv sx, iv i, iv r14, iv (1 : Int32)]) (hb hby own_d9_99) rfl rfl ?_
                refine ow_iloadNW (q := 101) X14 hx (hb hby own_d9_100) rfl rfl ?_
                refine ow_ifYesW (q := 111) X14 hx (hb hby own_d9_101) (Jvm.Free.XT.i0_ne_t (by decide)) (by decide) (by decide) ?_
                refine ow_iincW (q := 114) X14 hx (L' := #[rv sx, iv (i + (1 : Int32)), iv r14, iv (1 : Int32)]) (hb hby own_d9_111) rfl rfl rfl ?_
                generalize hv_v27 : (i + (1 : Int32)) = v27
                refine ow_gotoW (q := 32) X14 hx (hb hby own_d9_114) (by decide) (by decide) ?_
                exact ih11 v27 r14 (1 : Int32) _ _ X14 e14 N14 (own_ms hv_v27 hi0 hc37_13 rfl hm11) (own_i1 hv_v27 hi0 hc37_13).1 (own_i1 hv_v27 hi0 hc37_13).2
          · refine ow_icmpNoW (q := 64) X14 hx (hb hby own_d9_61) rfl (Jvm.Free.XT.ii_lt_f hc61_16) ?_
            refine ow_iloadNW (q := 65) X14 hx (hb hby own_d9_64) rfl rfl ?_
            refine ow_bipushW (q := 67) X14 hx (90 : Int32) (hb hby own_d9_65) rfl rfl ?_
            by_cases hc67_28 : (90 : Int32) < r14
            · refine ow_icmpNoW (q := 70) X14 hx (hb hby own_d9_67) rfl (Jvm.Free.XT.ii_le_f hc67_28) ?_
              refine ow_iloadNW (q := 71) X14 hx (hb hby own_d9_70) rfl rfl ?_
              refine ow_bipushW (q := 73) X14 hx (48 : Int32) (hb hby own_d9_71) rfl rfl ?_
              by_cases hc73_29 : r14 < (48 : Int32)
              · refine ow_icmpYesW (q := 82) X14 hx (hb hby own_d9_73) (Jvm.Free.XT.ii_lt_t hc73_29) (by decide) (by decide) ?_
                refine ow_iloadNW (q := 83) X14 hx (hb hby own_d9_82) rfl rfl ?_
                refine ow_bipushW (q := 85) X14 hx (95 : Int32) (hb hby own_d9_83) rfl rfl ?_
                by_cases hc85_30 : r14 = (95 : Int32)
                · refine ow_icmpYesW (q := 94) X14 hx (hb hby own_d9_85) (Jvm.Free.XT.ii_eq_t hc85_30) (by decide) (by decide) ?_
                  refine ow_iconstW (q := 95) X14 hx (1 : Int32) (hb hby own_d9_94) rfl rfl ?_
                  refine ow_gotoW (q := 99) X14 hx (hb hby own_d9_95) (by decide) (by decide) ?_
                  refine ow_istoreNW (q := 100) X14 hx (L' := #[rv sx, iv i, iv r14, iv (1 : Int32)]) (hb hby own_d9_99) rfl rfl ?_
                  refine ow_iloadNW (q := 101) X14 hx (hb hby own_d9_100) rfl rfl ?_
                  refine ow_ifYesW (q := 111) X14 hx (hb hby own_d9_101) (Jvm.Free.XT.i0_ne_t (by decide)) (by decide) (by decide) ?_
                  refine ow_iincW (q := 114) X14 hx (L' := #[rv sx, iv (i + (1 : Int32)), iv r14, iv (1 : Int32)]) (hb hby own_d9_111) rfl rfl rfl ?_
                  generalize hv_v31 : (i + (1 : Int32)) = v31
                  refine ow_gotoW (q := 32) X14 hx (hb hby own_d9_114) (by decide) (by decide) ?_
                  exact ih11 v31 r14 (1 : Int32) _ _ X14 e14 N14 (own_ms hv_v31 hi0 hc37_13 rfl hm11) (own_i1 hv_v31 hi0 hc37_13).1 (own_i1 hv_v31 hi0 hc37_13).2
                · refine ow_icmpNoW (q := 88) X14 hx (hb hby own_d9_85) rfl (Jvm.Free.XT.ii_eq_f hc85_30) ?_
                  refine ow_iloadNW (q := 89) X14 hx (hb hby own_d9_88) rfl rfl ?_
                  refine ow_bipushW (q := 91) X14 hx (45 : Int32) (hb hby own_d9_89) rfl rfl ?_
                  by_cases hc91_32 : r14 = (45 : Int32)
                  · refine ow_icmpNoW (q := 94) X14 hx (hb hby own_d9_91) rfl (Jvm.Free.XT.ii_ne_f hc91_32) ?_
                    refine ow_iconstW (q := 95) X14 hx (1 : Int32) (hb hby own_d9_94) rfl rfl ?_
                    refine ow_gotoW (q := 99) X14 hx (hb hby own_d9_95) (by decide) (by decide) ?_
                    refine ow_istoreNW (q := 100) X14 hx (L' := #[rv sx, iv i, iv r14, iv (1 : Int32)]) (hb hby own_d9_99) rfl rfl ?_
                    refine ow_iloadNW (q := 101) X14 hx (hb hby own_d9_100) rfl rfl ?_
                    refine ow_ifYesW (q := 111) X14 hx (hb hby own_d9_101) (Jvm.Free.XT.i0_ne_t (by decide)) (by decide) (by decide) ?_
                    refine ow_iincW (q := 114) X14 hx (L' := #[rv sx, iv (i + (1 : Int32)), iv r14, iv (1 : Int32)]) (hb hby own_d9_111) rfl rfl rfl ?_
                    generalize hv_v33 : (i + (1 : Int32)) = v33
                    refine ow_gotoW (q := 32) X14 hx (hb hby own_d9_114) (by decide) (by decide) ?_
                    exact ih11 v33 r14 (1 : Int32) _ _ X14 e14 N14 (own_ms hv_v33 hi0 hc37_13 rfl hm11) (own_i1 hv_v33 hi0 hc37_13).1 (own_i1 hv_v33 hi0 hc37_13).2
                  · refine ow_icmpYesW (q := 98) X14 hx (hb hby own_d9_91) (Jvm.Free.XT.ii_ne_t hc91_32) (by decide) (by decide) ?_
                    exfalso
                    have hk := own_okI hp14
                    have cc0 := own_ltI hc49_15
                    have cc1 := own_nltI hc61_16
                    have cc2 := own_ltI hc67_28
                    have cc3 := own_ltI hc73_29
                    have cc4 := own_neI hc85_30
                    have cc5 := own_neI hc91_32
                    simp only [Int32.reduceToInt] at cc0 cc1 cc2 cc3 cc4 cc5
                    omega
              · refine ow_icmpNoW (q := 76) X14 hx (hb hby own_d9_73) rfl (Jvm.Free.XT.ii_lt_f hc73_29) ?_
                refine ow_iloadNW (q := 77) X14 hx (hb hby own_d9_76) rfl rfl ?_
                refine ow_bipushW (q := 79) X14 hx (57 : Int32) (hb hby own_d9_77) rfl rfl ?_
                by_cases hc79_34 : (57 : Int32) < r14
                · refine ow_icmpNoW (q := 82) X14 hx (hb hby own_d9_79) rfl (Jvm.Free.XT.ii_le_f hc79_34) ?_
                  refine ow_iloadNW (q := 83) X14 hx (hb hby own_d9_82) rfl rfl ?_
                  refine ow_bipushW (q := 85) X14 hx (95 : Int32) (hb hby own_d9_83) rfl rfl ?_
                  by_cases hc85_35 : r14 = (95 : Int32)
                  · refine ow_icmpYesW (q := 94) X14 hx (hb hby own_d9_85) (Jvm.Free.XT.ii_eq_t hc85_35) (by decide) (by decide) ?_
                    refine ow_iconstW (q := 95) X14 hx (1 : Int32) (hb hby own_d9_94) rfl rfl ?_
                    refine ow_gotoW (q := 99) X14 hx (hb hby own_d9_95) (by decide) (by decide) ?_
                    refine ow_istoreNW (q := 100) X14 hx (L' := #[rv sx, iv i, iv r14, iv (1 : Int32)]) (hb hby own_d9_99) rfl rfl ?_
                    refine ow_iloadNW (q := 101) X14 hx (hb hby own_d9_100) rfl rfl ?_
                    refine ow_ifYesW (q := 111) X14 hx (hb hby own_d9_101) (Jvm.Free.XT.i0_ne_t (by decide)) (by decide) (by decide) ?_
                    refine ow_iincW (q := 114) X14 hx (L' := #[rv sx, iv (i + (1 : Int32)), iv r14, iv (1 : Int32)]) (hb hby own_d9_111) rfl rfl rfl ?_
                    generalize hv_v36 : (i + (1 : Int32)) = v36
                    refine ow_gotoW (q := 32) X14 hx (hb hby own_d9_114) (by decide) (by decide) ?_
                    exact ih11 v36 r14 (1 : Int32) _ _ X14 e14 N14 (own_ms hv_v36 hi0 hc37_13 rfl hm11) (own_i1 hv_v36 hi0 hc37_13).1 (own_i1 hv_v36 hi0 hc37_13).2
                  · refine ow_icmpNoW (q := 88) X14 hx (hb hby own_d9_85) rfl (Jvm.Free.XT.ii_eq_f hc85_35) ?_
                    refine ow_iloadNW (q := 89) X14 hx (hb hby own_d9_88) rfl rfl ?_
                    refine ow_bipushW (q := 91) X14 hx (45 : Int32) (hb hby own_d9_89) rfl rfl ?_
                    by_cases hc91_37 : r14 = (45 : Int32)
                    · refine ow_icmpNoW (q := 94) X14 hx (hb hby own_d9_91) rfl (Jvm.Free.XT.ii_ne_f hc91_37) ?_
                      refine ow_iconstW (q := 95) X14 hx (1 : Int32) (hb hby own_d9_94) rfl rfl ?_
                      refine ow_gotoW (q := 99) X14 hx (hb hby own_d9_95) (by decide) (by decide) ?_
                      refine ow_istoreNW (q := 100) X14 hx (L' := #[rv sx, iv i, iv r14, iv (1 : Int32)]) (hb hby own_d9_99) rfl rfl ?_
                      refine ow_iloadNW (q := 101) X14 hx (hb hby own_d9_100) rfl rfl ?_
                      refine ow_ifYesW (q := 111) X14 hx (hb hby own_d9_101) (Jvm.Free.XT.i0_ne_t (by decide)) (by decide) (by decide) ?_
                      refine ow_iincW (q := 114) X14 hx (L' := #[rv sx, iv (i + (1 : Int32)), iv r14, iv (1 : Int32)]) (hb hby own_d9_111) rfl rfl rfl ?_
                      generalize hv_v38 : (i + (1 : Int32)) = v38
                      refine ow_gotoW (q := 32) X14 hx (hb hby own_d9_114) (by decide) (by decide) ?_
                      exact ih11 v38 r14 (1 : Int32) _ _ X14 e14 N14 (own_ms hv_v38 hi0 hc37_13 rfl hm11) (own_i1 hv_v38 hi0 hc37_13).1 (own_i1 hv_v38 hi0 hc37_13).2
                    · refine ow_icmpYesW (q := 98) X14 hx (hb hby own_d9_91) (Jvm.Free.XT.ii_ne_t hc91_37) (by decide) (by decide) ?_
                      exfalso
                      have hk := own_okI hp14
                      have cc0 := own_ltI hc49_15
                      have cc1 := own_nltI hc61_16
                      have cc2 := own_ltI hc67_28
                      have cc3 := own_nltI hc73_29
                      have cc4 := own_ltI hc79_34
                      have cc5 := own_neI hc85_35
                      have cc6 := own_neI hc91_37
                      simp only [Int32.reduceToInt] at cc0 cc1 cc2 cc3 cc4 cc5 cc6
                      omega
                · refine ow_icmpYesW (q := 94) X14 hx (hb hby own_d9_79) (Jvm.Free.XT.ii_le_t hc79_34) (by decide) (by decide) ?_
                  refine ow_iconstW (q := 95) X14 hx (1 : Int32) (hb hby own_d9_94) rfl rfl ?_
                  refine ow_gotoW (q := 99) X14 hx (hb hby own_d9_95) (by decide) (by decide) ?_
                  refine ow_istoreNW (q := 100) X14 hx (L' := #[rv sx, iv i, iv r14, iv (1 : Int32)]) (hb hby own_d9_99) rfl rfl ?_
                  refine ow_iloadNW (q := 101) X14 hx (hb hby own_d9_100) rfl rfl ?_
                  refine ow_ifYesW (q := 111) X14 hx (hb hby own_d9_101) (Jvm.Free.XT.i0_ne_t (by decide)) (by decide) (by decide) ?_
                  refine ow_iincW (q := 114) X14 hx (L' := #[rv sx, iv (i + (1 : Int32)), iv r14, iv (1 : Int32)]) (hb hby own_d9_111) rfl rfl rfl ?_
                  generalize hv_v39 : (i + (1 : Int32)) = v39
                  refine ow_gotoW (q := 32) X14 hx (hb hby own_d9_114) (by decide) (by decide) ?_
                  exact ih11 v39 r14 (1 : Int32) _ _ X14 e14 N14 (own_ms hv_v39 hi0 hc37_13 rfl hm11) (own_i1 hv_v39 hi0 hc37_13).1 (own_i1 hv_v39 hi0 hc37_13).2
            · refine ow_icmpYesW (q := 94) X14 hx (hb hby own_d9_67) (Jvm.Free.XT.ii_le_t hc67_28) (by decide) (by decide) ?_
              refine ow_iconstW (q := 95) X14 hx (1 : Int32) (hb hby own_d9_94) rfl rfl ?_
              refine ow_gotoW (q := 99) X14 hx (hb hby own_d9_95) (by decide) (by decide) ?_
              refine ow_istoreNW (q := 100) X14 hx (L' := #[rv sx, iv i, iv r14, iv (1 : Int32)]) (hb hby own_d9_99) rfl rfl ?_
              refine ow_iloadNW (q := 101) X14 hx (hb hby own_d9_100) rfl rfl ?_
              refine ow_ifYesW (q := 111) X14 hx (hb hby own_d9_101) (Jvm.Free.XT.i0_ne_t (by decide)) (by decide) (by decide) ?_
              refine ow_iincW (q := 114) X14 hx (L' := #[rv sx, iv (i + (1 : Int32)), iv r14, iv (1 : Int32)]) (hb hby own_d9_111) rfl rfl rfl ?_
              generalize hv_v40 : (i + (1 : Int32)) = v40
              refine ow_gotoW (q := 32) X14 hx (hb hby own_d9_114) (by decide) (by decide) ?_
              exact ih11 v40 r14 (1 : Int32) _ _ X14 e14 N14 (own_ms hv_v40 hi0 hc37_13 rfl hm11) (own_i1 hv_v40 hi0 hc37_13).1 (own_i1 hv_v40 hi0 hc37_13).2
        · refine ow_icmpNoW (q := 52) X14 hx (hb hby own_d9_49) rfl (Jvm.Free.XT.ii_lt_f hc49_15) ?_
          refine ow_iloadNW (q := 53) X14 hx (hb hby own_d9_52) rfl rfl ?_
          refine ow_bipushW (q := 55) X14 hx (122 : Int32) (hb hby own_d9_53) rfl rfl ?_
          by_cases hc55_41 : (122 : Int32) < r14
          · refine ow_icmpNoW (q := 58) X14 hx (hb hby own_d9_55) rfl (Jvm.Free.XT.ii_le_f hc55_41) ?_
            refine ow_iloadNW (q := 59) X14 hx (hb hby own_d9_58) rfl rfl ?_
            refine ow_bipushW (q := 61) X14 hx (65 : Int32) (hb hby own_d9_59) rfl rfl ?_
            by_cases hc61_42 : r14 < (65 : Int32)
            · refine ow_icmpYesW (q := 70) X14 hx (hb hby own_d9_61) (Jvm.Free.XT.ii_lt_t hc61_42) (by decide) (by decide) ?_
              refine ow_iloadNW (q := 71) X14 hx (hb hby own_d9_70) rfl rfl ?_
              refine ow_bipushW (q := 73) X14 hx (48 : Int32) (hb hby own_d9_71) rfl rfl ?_
              by_cases hc73_43 : r14 < (48 : Int32)
              · refine ow_icmpYesW (q := 82) X14 hx (hb hby own_d9_73) (Jvm.Free.XT.ii_lt_t hc73_43) (by decide) (by decide) ?_
                refine ow_iloadNW (q := 83) X14 hx (hb hby own_d9_82) rfl rfl ?_
                refine ow_bipushW (q := 85) X14 hx (95 : Int32) (hb hby own_d9_83) rfl rfl ?_
                by_cases hc85_44 : r14 = (95 : Int32)
                · refine ow_icmpYesW (q := 94) X14 hx (hb hby own_d9_85) (Jvm.Free.XT.ii_eq_t hc85_44) (by decide) (by decide) ?_
                  refine ow_iconstW (q := 95) X14 hx (1 : Int32) (hb hby own_d9_94) rfl rfl ?_
                  refine ow_gotoW (q := 99) X14 hx (hb hby own_d9_95) (by decide) (by decide) ?_
                  refine ow_istoreNW (q := 100) X14 hx (L' := #[rv sx, iv i, iv r14, iv (1 : Int32)]) (hb hby own_d9_99) rfl rfl ?_
                  refine ow_iloadNW (q := 101) X14 hx (hb hby own_d9_100) rfl rfl ?_
                  refine ow_ifYesW (q := 111) X14 hx (hb hby own_d9_101) (Jvm.Free.XT.i0_ne_t (by decide)) (by decide) (by decide) ?_
                  refine ow_iincW (q := 114) X14 hx (L' := #[rv sx, iv (i + (1 : Int32)), iv r14, iv (1 : Int32)]) (hb hby own_d9_111) rfl rfl rfl ?_
                  generalize hv_v45 : (i + (1 : Int32)) = v45
                  refine ow_gotoW (q := 32) X14 hx (hb hby own_d9_114) (by decide) (by decide) ?_
                  exact ih11 v45 r14 (1 : Int32) _ _ X14 e14 N14 (own_ms hv_v45 hi0 hc37_13 rfl hm11) (own_i1 hv_v45 hi0 hc37_13).1 (own_i1 hv_v45 hi0 hc37_13).2
                · refine ow_icmpNoW (q := 88) X14 hx (hb hby own_d9_85) rfl (Jvm.Free.XT.ii_eq_f hc85_44) ?_
                  refine ow_iloadNW (q := 89) X14 hx (hb hby own_d9_88) rfl rfl ?_
                  refine ow_bipushW (q := 91) X14 hx (45 : Int32) (hb hby own_d9_89) rfl rfl ?_
                  by_cases hc91_46 : r14 = (45 : Int32)
                  · refine ow_icmpNoW (q := 94) X14 hx (hb hby own_d9_91) rfl (Jvm.Free.XT.ii_ne_f hc91_46) ?_
                    refine ow_iconstW (q := 95) X14 hx (1 : Int32) (hb hby own_d9_94) rfl rfl ?_
                    refine ow_gotoW (q := 99) X14 hx (hb hby own_d9_95) (by decide) (by decide) ?_
                    refine ow_istoreNW (q := 100) X14 hx (L' := #[rv sx, iv i, iv r14, iv (1 : Int32)]) (hb hby own_d9_99) rfl rfl ?_
                    refine ow_iloadNW (q := 101) X14 hx (hb hby own_d9_100) rfl rfl ?_
                    refine ow_ifYesW (q := 111) X14 hx (hb hby own_d9_101) (Jvm.Free.XT.i0_ne_t (by decide)) (by decide) (by decide) ?_
                    refine ow_iincW (q := 114) X14 hx (L' := #[rv sx, iv (i + (1 : Int32)), iv r14, iv (1 : Int32)]) (hb hby own_d9_111) rfl rfl rfl ?_
                    generalize hv_v47 : (i + (1 : Int32)) = v47
                    refine ow_gotoW (q := 32) X14 hx (hb hby own_d9_114) (by decide) (by decide) ?_
                    exact ih11 v47 r14 (1 : Int32) _ _ X14 e14 N14 (own_ms hv_v47 hi0 hc37_13 rfl hm11) (own_i1 hv_v47 hi0 hc37_13).1 (own_i1 hv_v47 hi0 hc37_13).2
                  · refine ow_icmpYesW (q := 98) X14 hx (hb hby own_d9_91) (Jvm.Free.XT.ii_ne_t hc91_46) (by decide) (by decide) ?_
                    exfalso
                    have hk := own_okI hp14
                    have cc0 := own_nltI hc49_15
                    have cc1 := own_ltI hc55_41
                    have cc2 := own_ltI hc61_42
                    have cc3 := own_ltI hc73_43
                    have cc4 := own_neI hc85_44
                    have cc5 := own_neI hc91_46
                    simp only [Int32.reduceToInt] at cc0 cc1 cc2 cc3 cc4 cc5
                    omega
              · refine ow_icmpNoW (q := 76) X14 hx (hb hby own_d9_73) rfl (Jvm.Free.XT.ii_lt_f hc73_43) ?_
                refine ow_iloadNW (q := 77) X14 hx (hb hby own_d9_76) rfl rfl ?_
                refine ow_bipushW (q := 79) X14 hx (57 : Int32) (hb hby own_d9_77) rfl rfl ?_
                by_cases hc79_48 : (57 : Int32) < r14
                · refine ow_icmpNoW (q := 82) X14 hx (hb hby own_d9_79) rfl (Jvm.Free.XT.ii_le_f hc79_48) ?_
                  refine ow_iloadNW (q := 83) X14 hx (hb hby own_d9_82) rfl rfl ?_
                  refine ow_bipushW (q := 85) X14 hx (95 : Int32) (hb hby own_d9_83) rfl rfl ?_
                  by_cases hc85_49 : r14 = (95 : Int32)
                  · refine ow_icmpYesW (q := 94) X14 hx (hb hby own_d9_85) (Jvm.Free.XT.ii_eq_t hc85_49) (by decide) (by decide) ?_
                    refine ow_iconstW (q := 95) X14 hx (1 : Int32) (hb hby own_d9_94) rfl rfl ?_
                    refine ow_gotoW (q := 99) X14 hx (hb hby own_d9_95) (by decide) (by decide) ?_
                    refine ow_istoreNW (q := 100) X14 hx (L' := #[rv sx, iv i, iv r14, iv (1 : Int32)]) (hb hby own_d9_99) rfl rfl ?_
                    refine ow_iloadNW (q := 101) X14 hx (hb hby own_d9_100) rfl rfl ?_
                    refine ow_ifYesW (q := 111) X14 hx (hb hby own_d9_101) (Jvm.Free.XT.i0_ne_t (by decide)) (by decide) (by decide) ?_
                    refine ow_iincW (q := 114) X14 hx (L' := #[rv sx, iv (i + (1 : Int32)), iv r14, iv (1 : Int32)]) (hb hby own_d9_111) rfl rfl rfl ?_
                    generalize hv_v50 : (i + (1 : Int32)) = v50
                    refine ow_gotoW (q := 32) X14 hx (hb hby own_d9_114) (by decide) (by decide) ?_
                    exact ih11 v50 r14 (1 : Int32) _ _ X14 e14 N14 (own_ms hv_v50 hi0 hc37_13 rfl hm11) (own_i1 hv_v50 hi0 hc37_13).1 (own_i1 hv_v50 hi0 hc37_13).2
                  · refine ow_icmpNoW (q := 88) X14 hx (hb hby own_d9_85) rfl (Jvm.Free.XT.ii_eq_f hc85_49) ?_
                    refine ow_iloadNW (q := 89) X14 hx (hb hby own_d9_88) rfl rfl ?_
                    refine ow_bipushW (q := 91) X14 hx (45 : Int32) (hb hby own_d9_89) rfl rfl ?_
                    by_cases hc91_51 : r14 = (45 : Int32)
                    · refine ow_icmpNoW (q := 94) X14 hx (hb hby own_d9_91) rfl (Jvm.Free.XT.ii_ne_f hc91_51) ?_
                      refine ow_iconstW (q := 95) X14 hx (1 : Int32) (hb hby own_d9_94) rfl rfl ?_
                      refine ow_gotoW (q := 99) X14 hx (hb hby own_d9_95) (by decide) (by decide) ?_
                      refine ow_istoreNW (q := 100) X14 hx (L' := #[rv sx, iv i, iv r14, iv (1 : Int32)]) (hb hby own_d9_99) rfl rfl ?_
                      refine ow_iloadNW (q := 101) X14 hx (hb hby own_d9_100) rfl rfl ?_
                      refine ow_ifYesW (q := 111) X14 hx (hb hby own_d9_101) (Jvm.Free.XT.i0_ne_t (by decide)) (by decide) (by decide) ?_
                      refine ow_iincW (q := 114) X14 hx (L' := #[rv sx, iv (i + (1 : Int32)), iv r14, iv (1 : Int32)]) (hb hby own_d9_111) rfl rfl rfl ?_
                      generalize hv_v52 : (i + (1 : Int32)) = v52
                      refine ow_gotoW (q := 32) X14 hx (hb hby own_d9_114) (by decide) (by decide) ?_
                      exact ih11 v52 r14 (1 : Int32) _ _ X14 e14 N14 (own_ms hv_v52 hi0 hc37_13 rfl hm11) (own_i1 hv_v52 hi0 hc37_13).1 (own_i1 hv_v52 hi0 hc37_13).2
                    · refine ow_icmpYesW (q := 98) X14 hx (hb hby own_d9_91) (Jvm.Free.XT.ii_ne_t hc91_51) (by decide) (by decide) ?_
                      exfalso
                      have hk := own_okI hp14
                      have cc0 := own_nltI hc49_15
                      have cc1 := own_ltI hc55_41
                      have cc2 := own_ltI hc61_42
                      have cc3 := own_nltI hc73_43
                      have cc4 := own_ltI hc79_48
                      have cc5 := own_neI hc85_49
                      have cc6 := own_neI hc91_51
                      simp only [Int32.reduceToInt] at cc0 cc1 cc2 cc3 cc4 cc5 cc6
                      omega
                · refine ow_icmpYesW (q := 94) X14 hx (hb hby own_d9_79) (Jvm.Free.XT.ii_le_t hc79_48) (by decide) (by decide) ?_
                  refine ow_iconstW (q := 95) X14 hx (1 : Int32) (hb hby own_d9_94) rfl rfl ?_
                  refine ow_gotoW (q := 99) X14 hx (hb hby own_d9_95) (by decide) (by decide) ?_
                  refine ow_istoreNW (q := 100) X14 hx (L' := #[rv sx, iv i, iv r14, iv (1 : Int32)]) (hb hby own_d9_99) rfl rfl ?_
                  refine ow_iloadNW (q := 101) X14 hx (hb hby own_d9_100) rfl rfl ?_
                  refine ow_ifYesW (q := 111) X14 hx (hb hby own_d9_101) (Jvm.Free.XT.i0_ne_t (by decide)) (by decide) (by decide) ?_
                  refine ow_iincW (q := 114) X14 hx (L' := #[rv sx, iv (i + (1 : Int32)), iv r14, iv (1 : Int32)]) (hb hby own_d9_111) rfl rfl rfl ?_
                  generalize hv_v53 : (i + (1 : Int32)) = v53
                  refine ow_gotoW (q := 32) X14 hx (hb hby own_d9_114) (by decide) (by decide) ?_
                  exact ih11 v53 r14 (1 : Int32) _ _ X14 e14 N14 (own_ms hv_v53 hi0 hc37_13 rfl hm11) (own_i1 hv_v53 hi0 hc37_13).1 (own_i1 hv_v53 hi0 hc37_13).2
            · refine ow_icmpNoW (q := 64) X14 hx (hb hby own_d9_61) rfl (Jvm.Free.XT.ii_lt_f hc61_42) ?_
              refine ow_iloadNW (q := 65) X14 hx (hb hby own_d9_64) rfl rfl ?_
              refine ow_bipushW (q := 67) X14 hx (90 : Int32) (hb hby own_d9_65) rfl rfl ?_
              by_cases hc67_54 : (90 : Int32) < r14
              · refine ow_icmpNoW (q := 70) X14 hx (hb hby own_d9_67) rfl (Jvm.Free.XT.ii_le_f hc67_54) ?_
                refine ow_iloadNW (q := 71) X14 hx (hb hby own_d9_70) rfl rfl ?_
                refine ow_bipushW (q := 73) X14 hx (48 : Int32) (hb hby own_d9_71) rfl rfl ?_
                by_cases hc73_55 : r14 < (48 : Int32)
                · refine ow_icmpYesW (q := 82) X14 hx (hb hby own_d9_73) (Jvm.Free.XT.ii_lt_t hc73_55) (by decide) (by decide) ?_
                  refine ow_iloadNW (q := 83) X14 hx (hb hby own_d9_82) rfl rfl ?_
                  refine ow_bipushW (q := 85) X14 hx (95 : Int32) (hb hby own_d9_83) rfl rfl ?_
                  by_cases hc85_56 : r14 = (95 : Int32)
                  · refine ow_icmpYesW (q := 94) X14 hx (hb hby own_d9_85) (Jvm.Free.XT.ii_eq_t hc85_56) (by decide) (by decide) ?_
                    refine ow_iconstW (q := 95) X14 hx (1 : Int32) (hb hby own_d9_94) rfl rfl ?_
                    refine ow_gotoW (q := 99) X14 hx (hb hby own_d9_95) (by decide) (by decide) ?_
                    refine ow_istoreNW (q := 100) X14 hx (L' := #[rv sx, iv i, iv r14, iv (1 : Int32)]) (hb hby own_d9_99) rfl rfl ?_
                    refine ow_iloadNW (q := 101) X14 hx (hb hby own_d9_100) rfl rfl ?_
                    refine ow_ifYesW (q := 111) X14 hx (hb hby own_d9_101) (Jvm.Free.XT.i0_ne_t (by decide)) (by decide) (by decide) ?_
                    refine ow_iincW (q := 114) X14 hx (L' := #[rv sx, iv (i + (1 : Int32)), iv r14, iv (1 : Int32)]) (hb hby own_d9_111) rfl rfl rfl ?_
                    generalize hv_v57 : (i + (1 : Int32)) = v57
                    refine ow_gotoW (q := 32) X14 hx (hb hby own_d9_114) (by decide) (by decide) ?_
                    exact ih11 v57 r14 (1 : Int32) _ _ X14 e14 N14 (own_ms hv_v57 hi0 hc37_13 rfl hm11) (own_i1 hv_v57 hi0 hc37_13).1 (own_i1 hv_v57 hi0 hc37_13).2
                  · refine ow_icmpNoW (q := 88) X14 hx (hb hby own_d9_85) rfl (Jvm.Free.XT.ii_eq_f hc85_56) ?_
                    refine ow_iloadNW (q := 89) X14 hx (hb hby own_d9_88) rfl rfl ?_
                    refine ow_bipushW (q := 91) X14 hx (45 : Int32) (hb hby own_d9_89) rfl rfl ?_
                    by_cases hc91_58 : r14 = (45 : Int32)
                    · refine ow_icmpNoW (q := 94) X14 hx (hb hby own_d9_91) rfl (Jvm.Free.XT.ii_ne_f hc91_58) ?_
                      refine ow_iconstW (q := 95) X14 hx (1 : Int32) (hb hby own_d9_94) rfl rfl ?_
                      refine ow_gotoW (q := 99) X14 hx (hb hby own_d9_95) (by decide) (by decide) ?_
                      refine ow_istoreNW (q := 100) X14 hx (L' := #[rv sx, iv i, iv r14, iv (1 : Int32)]) (hb hby own_d9_99) rfl rfl ?_
                      refine ow_iloadNW (q := 101) X14 hx (hb hby own_d9_100) rfl rfl ?_
                      refine ow_ifYesW (q := 111) X14 hx (hb hby own_d9_101) (Jvm.Free.XT.i0_ne_t (by decide)) (by decide) (by decide) ?_
                      refine ow_iincW (q := 114) X14 hx (L' := #[rv sx, iv (i + (1 : Int32)), iv r14, iv (1 : Int32)]) (hb hby own_d9_111) rfl rfl rfl ?_
                      generalize hv_v59 : (i + (1 : Int32)) = v59
                      refine ow_gotoW (q := 32) X14 hx (hb hby own_d9_114) (by decide) (by decide) ?_
                      exact ih11 v59 r14 (1 : Int32) _ _ X14 e14 N14 (own_ms hv_v59 hi0 hc37_13 rfl hm11) (own_i1 hv_v59 hi0 hc37_13).1 (own_i1 hv_v59 hi0 hc37_13).2
                    · refine ow_icmpYesW (q := 98) X14 hx (hb hby own_d9_91) (Jvm.Free.XT.ii_ne_t hc91_58) (by decide) (by decide) ?_
                      exfalso
                      have hk := own_okI hp14
                      have cc0 := own_nltI hc49_15
                      have cc1 := own_ltI hc55_41
                      have cc2 := own_nltI hc61_42
                      have cc3 := own_ltI hc67_54
                      have cc4 := own_ltI hc73_55
                      have cc5 := own_neI hc85_56
                      have cc6 := own_neI hc91_58
                      simp only [Int32.reduceToInt] at cc0 cc1 cc2 cc3 cc4 cc5 cc6
                      omega
                · refine ow_icmpNoW (q := 76) X14 hx (hb hby own_d9_73) rfl (Jvm.Free.XT.ii_lt_f hc73_55) ?_
                  refine ow_iloadNW (q := 77) X14 hx (hb hby own_d9_76) rfl rfl ?_
                  refine ow_bipushW (q := 79) X14 hx (57 : Int32) (hb hby own_d9_77) rfl rfl ?_
                  by_cases hc79_60 : (57 : Int32) < r14
                  · refine ow_icmpNoW (q := 82) X14 hx (hb hby own_d9_79) rfl (Jvm.Free.XT.ii_le_f hc79_60) ?_
                    refine ow_iloadNW (q := 83) X14 hx (hb hby own_d9_82) rfl rfl ?_
                    refine ow_bipushW (q := 85) X14 hx (95 : Int32) (hb hby own_d9_83) rfl rfl ?_
                    by_cases hc85_61 : r14 = (95 : Int32)
                    · refine ow_icmpYesW (q := 94) X14 hx (hb hby own_d9_85) (Jvm.Free.XT.ii_eq_t hc85_61) (by decide) (by decide) ?_
                      refine ow_iconstW (q := 95) X14 hx (1 : Int32) (hb hby own_d9_94) rfl rfl ?_
                      refine ow_gotoW (q := 99) X14 hx (hb hby own_d9_95) (by decide) (by decide) ?_
                      refine ow_istoreNW (q := 100) X14 hx (L' := #[rv sx, iv i, iv r14, iv (1 : Int32)]) (hb hby own_d9_99) rfl rfl ?_
                      refine ow_iloadNW (q := 101) X14 hx (hb hby own_d9_100) rfl rfl ?_
                      refine ow_ifYesW (q := 111) X14 hx (hb hby own_d9_101) (Jvm.Free.XT.i0_ne_t (by decide)) (by decide) (by decide) ?_
                      refine ow_iincW (q := 114) X14 hx (L' := #[rv sx, iv (i + (1 : Int32)), iv r14, iv (1 : Int32)]) (hb hby own_d9_111) rfl rfl rfl ?_
                      generalize hv_v62 : (i + (1 : Int32)) = v62
                      refine ow_gotoW (q := 32) X14 hx (hb hby own_d9_114) (by decide) (by decide) ?_
                      exact ih11 v62 r14 (1 : Int32) _ _ X14 e14 N14 (own_ms hv_v62 hi0 hc37_13 rfl hm11) (own_i1 hv_v62 hi0 hc37_13).1 (own_i1 hv_v62 hi0 hc37_13).2
                    · refine ow_icmpNoW (q := 88) X14 hx (hb hby own_d9_85) rfl (Jvm.Free.XT.ii_eq_f hc85_61) ?_
                      refine ow_iloadNW (q := 89) X14 hx (hb hby own_d9_88) rfl rfl ?_
                      refine ow_bipushW (q := 91) X14 hx (45 : Int32) (hb hby own_d9_89) rfl rfl ?_
                      by_cases hc91_63 : r14 = (45 : Int32)
                      · refine ow_icmpNoW (q := 94) X14 hx (hb hby own_d9_91) rfl (Jvm.Free.XT.ii_ne_f hc91_63) ?_
                        refine ow_iconstW (q := 95) X14 hx (1 : Int32) (hb hby own_d9_94) rfl rfl ?_
                        refine ow_gotoW (q := 99) X14 hx (hb hby own_d9_95) (by decide) (by decide) ?_
                        refine ow_istoreNW (q := 100) X14 hx (L' := #[rv sx, iv i, iv r14, iv (1 : Int32)]) (hb hby own_d9_99) rfl rfl ?_
                        refine ow_iloadNW (q := 101) X14 hx (hb hby own_d9_100) rfl rfl ?_
                        refine ow_ifYesW (q := 111) X14 hx (hb hby own_d9_101) (Jvm.Free.XT.i0_ne_t (by decide)) (by decide) (by decide) ?_
                        refine ow_iincW (q := 114) X14 hx (L' := #[rv sx, iv (i + (1 : Int32)), iv r14, iv (1 : Int32)]) (hb hby own_d9_111) rfl rfl rfl ?_
                        generalize hv_v64 : (i + (1 : Int32)) = v64
                        refine ow_gotoW (q := 32) X14 hx (hb hby own_d9_114) (by decide) (by decide) ?_
                        exact ih11 v64 r14 (1 : Int32) _ _ X14 e14 N14 (own_ms hv_v64 hi0 hc37_13 rfl hm11) (own_i1 hv_v64 hi0 hc37_13).1 (own_i1 hv_v64 hi0 hc37_13).2
                      · refine ow_icmpYesW (q := 98) X14 hx (hb hby own_d9_91) (Jvm.Free.XT.ii_ne_t hc91_63) (by decide) (by decide) ?_
                        exfalso
                        have hk := own_okI hp14
                        have cc0 := own_nltI hc49_15
                        have cc1 := own_ltI hc55_41
                        have cc2 := own_nltI hc61_42
                        have cc3 := own_ltI hc67_54
                        have cc4 := own_nltI hc73_55
                        have cc5 := own_ltI hc79_60
                        have cc6 := own_neI hc85_61
                        have cc7 := own_neI hc91_63
                        simp only [Int32.reduceToInt] at cc0 cc1 cc2 cc3 cc4 cc5 cc6 cc7
                        omega
                  · refine ow_icmpYesW (q := 94) X14 hx (hb hby own_d9_79) (Jvm.Free.XT.ii_le_t hc79_60) (by decide) (by decide) ?_
                    refine ow_iconstW (q := 95) X14 hx (1 : Int32) (hb hby own_d9_94) rfl rfl ?_
                    refine ow_gotoW (q := 99) X14 hx (hb hby own_d9_95) (by decide) (by decide) ?_
                    refine ow_istoreNW (q := 100) X14 hx (L' := #[rv sx, iv i, iv r14, iv (1 : Int32)]) (hb hby own_d9_99) rfl rfl ?_
                    refine ow_iloadNW (q := 101) X14 hx (hb hby own_d9_100) rfl rfl ?_
                    refine ow_ifYesW (q := 111) X14 hx (hb hby own_d9_101) (Jvm.Free.XT.i0_ne_t (by decide)) (by decide) (by decide) ?_
                    refine ow_iincW (q := 114) X14 hx (L' := #[rv sx, iv (i + (1 : Int32)), iv r14, iv (1 : Int32)]) (hb hby own_d9_111) rfl rfl rfl ?_
                    generalize hv_v65 : (i + (1 : Int32)) = v65
                    refine ow_gotoW (q := 32) X14 hx (hb hby own_d9_114) (by decide) (by decide) ?_
                    exact ih11 v65 r14 (1 : Int32) _ _ X14 e14 N14 (own_ms hv_v65 hi0 hc37_13 rfl hm11) (own_i1 hv_v65 hi0 hc37_13).1 (own_i1 hv_v65 hi0 hc37_13).2
              · refine ow_icmpYesW (q := 94) X14 hx (hb hby own_d9_67) (Jvm.Free.XT.ii_le_t hc67_54) (by decide) (by decide) ?_
                refine ow_iconstW (q := 95) X14 hx (1 : Int32) (hb hby own_d9_94) rfl rfl ?_
                refine ow_gotoW (q := 99) X14 hx (hb hby own_d9_95) (by decide) (by decide) ?_
                refine ow_istoreNW (q := 100) X14 hx (L' := #[rv sx, iv i, iv r14, iv (1 : Int32)]) (hb hby own_d9_99) rfl rfl ?_
                refine ow_iloadNW (q := 101) X14 hx (hb hby own_d9_100) rfl rfl ?_
                refine ow_ifYesW (q := 111) X14 hx (hb hby own_d9_101) (Jvm.Free.XT.i0_ne_t (by decide)) (by decide) (by decide) ?_
                refine ow_iincW (q := 114) X14 hx (L' := #[rv sx, iv (i + (1 : Int32)), iv r14, iv (1 : Int32)]) (hb hby own_d9_111) rfl rfl rfl ?_
                generalize hv_v66 : (i + (1 : Int32)) = v66
                refine ow_gotoW (q := 32) X14 hx (hb hby own_d9_114) (by decide) (by decide) ?_
                exact ih11 v66 r14 (1 : Int32) _ _ X14 e14 N14 (own_ms hv_v66 hi0 hc37_13 rfl hm11) (own_i1 hv_v66 hi0 hc37_13).1 (own_i1 hv_v66 hi0 hc37_13).2
          · refine ow_icmpYesW (q := 94) X14 hx (hb hby own_d9_55) (Jvm.Free.XT.ii_le_t hc55_41) (by decide) (by decide) ?_
            refine ow_iconstW (q := 95) X14 hx (1 : Int32) (hb hby own_d9_94) rfl rfl ?_
            refine ow_gotoW (q := 99) X14 hx (hb hby own_d9_95) (by decide) (by decide) ?_
            refine ow_istoreNW (q := 100) X14 hx (L' := #[rv sx, iv i, iv r14, iv (1 : Int32)]) (hb hby own_d9_99) rfl rfl ?_
            refine ow_iloadNW (q := 101) X14 hx (hb hby own_d9_100) rfl rfl ?_
            refine ow_ifYesW (q := 111) X14 hx (hb hby own_d9_101) (Jvm.Free.XT.i0_ne_t (by decide)) (by decide) (by decide) ?_
            refine ow_iincW (q := 114) X14 hx (L' := #[rv sx, iv (i + (1 : Int32)), iv r14, iv (1 : Int32)]) (hb hby own_d9_111) rfl rfl rfl ?_
            generalize hv_v67 : (i + (1 : Int32)) = v67
            refine ow_gotoW (q := 32) X14 hx (hb hby own_d9_114) (by decide) (by decide) ?_
            exact ih11 v67 r14 (1 : Int32) _ _ X14 e14 N14 (own_ms hv_v67 hi0 hc37_13 rfl hm11) (own_i1 hv_v67 hi0 hc37_13).1 (own_i1 hv_v67 hi0 hc37_13).2
      · refine ow_icmpYesW (q := 117) X12 hx (hb hby own_d9_37) (Jvm.Free.XT.ii_ge_t hc37_13) (by decide) (by decide) ?_
        refine ow_aloadNW (q := 118) X12 hx (hb hby own_d9_117) rfl rfl rfl ?_
        refine ownRetRW X12 hx rfl rfl rfl Bd.returns (hb hby own_d9_118) hlk (by decide) (by decide) ?_
        refine ⟨?_, (by rw [e12]; exact Nat.le_refl _)⟩
        rw [e12]
        exact ⟨rfl, N12, K1⟩
  refine ow_iloadNW (q := 33) X10 hx (hb hby own_d9_32) rfl rfl ?_
  refine ow_aloadNW (q := 34) X10 hx (hb hby own_d9_33) rfl rfl rfl ?_
  obtain ⟨cq68, kq68, q68a, q68b, q68c⟩ := isOf hZ e10 F2
  obtain ⟨_, _, ⟨T68, L68, k68, n68⟩, -, X68, ⟨Lc68, hQ68, l68, y68, z68⟩, st68⟩ := X10.virtualBack hx (y := (⟨"java/lang/String", "length", "()I"⟩ : MethodName)) (z := (⟨"java/lang/String", "length", "()I"⟩ : MethodName)) hown (mvT hZ (ww 54 rfl)) (mvT hZ (ww 55 rfl)) (notFace_of_selects (args := #[]) (mvT hZ (ww 57 rfl))) (mvT hZ (ww 57 rfl)) (mvT hZ (ww 56 rfl)) (by decide) (backOf (W := 1) (rm_length2 l Z av0 hw [] sx t gb zc h1 n0 (Nat.le_trans Z0 K1.1) F2 F3 F4 F5 F6 hz) hZ (ww 58 rfl) (ww 11 rfl) (by decide) (by decide)) q68a q68c (g := (mkF m 34 #[rv sx, iv (0 : Int32), .unset, .unset] [(.ref sx), (.int (0 : Int32))])) rfl (by rw [hml]; rfl) (Steps.refl _) (argsL := []) (rest := [(.int (0 : Int32))]) (lenOf own_pd7 rfl) rfl (by show 2 * 0 + _ ≤ _; exact Nat.le_of_eq rfl) (hb hby own_d9_34) (fun _ _ => ⟨rfl, e10, (by decide : 2 + 0 ≤ _), (by decide : 12 + 0 ≤ _)⟩)
  dsimp only [Pt.U, Pt.locs, Pt.cells, Pt.slots] at X68 l68 y68 z68 st68 hQ68
  subst l68 y68 z68
  obtain ⟨rfl, N68q, e68⟩ := hQ68
  have N68 := Fr.app N10 N68q
  refine ownRunW (T' := T68) (f' := (mkF m 37 #[rv sx, iv (0 : Int32), .unset, .unset] [(.int (2 : Int32)), (.int (0 : Int32))])) st68 ?_
  refine ow_icmpNoW (q := 40) X68 hx (hb hby own_d9_37) rfl (Jvm.Free.XT.ii_ge_f (by decide)) ?_
  refine ow_aloadNW (q := 41) X68 hx (hb hby own_d9_40) rfl rfl rfl ?_
  refine ow_iloadNW (q := 42) X68 hx (hb hby own_d9_41) rfl rfl ?_
  obtain ⟨cq69, kq69, q69a, q69b, q69c⟩ := isOf hZ e68 F2
  obtain ⟨_, _, ⟨T69, L69, k69, n69⟩, -, X69, ⟨Lc69, hQ69, l69, y69, z69⟩, st69⟩ := X68.virtualBack hx (y := (⟨"java/lang/String", "charAt", "(I)C"⟩ : MethodName)) (z := (⟨"java/lang/String", "charAt", "(I)C"⟩ : MethodName)) hown (mvT hZ (ww 64 rfl)) (mvT hZ (ww 65 rfl)) (notFace_of_selects (args := #[]) (mvT hZ (ww 67 rfl))) (mvT hZ (ww 67 rfl)) (mvT hZ (ww 66 rfl)) (by decide) (backOf (W := 0) (rm_charAt2 l Z av0 hw [] sx (0 : Int32) t gb zc fm h1 n0 (Nat.le_trans Z0 K1.1) F2 F3 F4 F5 F6 F7 (by decide) (by decide) hz hr_fm hok) hZ (ww 68 rfl) (ww 11 rfl) (by decide) (by decide)) q69a q69c (g := (mkF m 42 #[rv sx, iv (0 : Int32), .unset, .unset] [(.int (0 : Int32)), (.ref sx)])) rfl (by rw [hml]; rfl) (Steps.refl _) (argsL := [(.int (0 : Int32))]) (rest := []) (lenOf own_pd0 rfl) rfl (by show 2 * 0 + _ ≤ _; exact Nat.le_of_eq rfl) (hb hby own_d9_42) (fun _ _ => ⟨rfl, e68, (by decide : 2 + 0 ≤ _), (by decide : 12 + 0 ≤ _)⟩)
  dsimp only [Pt.U, Pt.locs, Pt.cells, Pt.slots] at X69 l69 y69 z69 st69 hQ69
  subst l69 y69 z69
  obtain ⟨r69, rfl, N69q, e69, hp69⟩ := hQ69
  have N69 := Fr.app N68 N69q
  refine ownRunW (T' := T69) (f' := (mkF m 45 #[rv sx, iv (0 : Int32), .unset, .unset] [(.int r69)])) st69 ?_
  refine ow_istoreNW (q := 46) X69 hx (L' := #[rv sx, iv (0 : Int32), iv r69, .unset]) (hb hby own_d9_45) rfl rfl ?_
  refine ow_iloadNW (q := 47) X69 hx (hb hby own_d9_46) rfl rfl ?_
  refine ow_bipushW (q := 49) X69 hx (97 : Int32) (hb hby own_d9_47) rfl rfl ?_
  by_cases hc49_70 : r69 < (97 : Int32)
  · refine ow_icmpYesW (q := 58) X69 hx (hb hby own_d9_49) (Jvm.Free.XT.ii_lt_t hc49_70) (by decide) (by decide) ?_
    refine ow_iloadNW (q := 59) X69 hx (hb hby own_d9_58) rfl rfl ?_
    refine ow_bipushW (q := 61) X69 hx (65 : Int32) (hb hby own_d9_59) rfl rfl ?_
    by_cases hc61_71 : r69 < (65 : Int32)
    · refine ow_icmpYesW (q := 70) X69 hx (hb hby own_d9_61) (Jvm.Free.XT.ii_lt_t hc61_71) (by decide) (by decide) ?_
      refine ow_iloadNW (q := 71) X69 hx (hb hby own_d9_70) rfl rfl ?_
      refine ow_bipushW (q := 73) X69 hx (48 : Int32) (hb hby own_d9_71) rfl rfl ?_
      by_cases hc73_72 : r69 < (48 : Int32)
      · refine ow_icmpYesW (q := 82) X69 hx (hb hby own_d9_73) (Jvm.Free.XT.ii_lt_t hc73_72) (by decide) (by decide) ?_
        refine ow_iloadNW (q := 83) X69 hx (hb hby own_d9_82) rfl rfl ?_
        refine ow_bipushW (q := 85) X69 hx (95 : Int32) (hb hby own_d9_83) rfl rfl ?_
        by_cases hc85_73 : r69 = (95 : Int32)
        · refine ow_icmpYesW (q := 94) X69 hx (hb hby own_d9_85) (Jvm.Free.XT.ii_eq_t hc85_73) (by decide) (by decide) ?_
          refine ow_iconstW (q := 95) X69 hx (1 : Int32) (hb hby own_d9_94) rfl rfl ?_
          refine ow_gotoW (q := 99) X69 hx (hb hby own_d9_95) (by decide) (by decide) ?_
          refine ow_istoreNW (q := 100) X69 hx (L' := #[rv sx, iv (0 : Int32), iv r69, iv (1 : Int32)]) (hb hby own_d9_99) rfl rfl ?_
          refine ow_iloadNW (q := 101) X69 hx (hb hby own_d9_100) rfl rfl ?_
          refine ow_ifYesW (q := 111) X69 hx (hb hby own_d9_101) (Jvm.Free.XT.i0_ne_t (by decide)) (by decide) (by decide) ?_
          refine ow_iincW (q := 114) X69 hx (L' := #[rv sx, iv (1 : Int32), iv r69, iv (1 : Int32)]) (hb hby own_d9_111) rfl rfl rfl ?_
          refine ow_gotoW (q := 32) X69 hx (hb hby own_d9_114) (by decide) (by decide) ?_
          exact cut32_11 _ (1 : Int32) r69 (1 : Int32) _ _ X69 e69 N69 (Nat.lt_succ_self _) (by decide) (by decide)
        · refine ow_icmpNoW (q := 88) X69 hx (hb hby own_d9_85) rfl (Jvm.Free.XT.ii_eq_f hc85_73) ?_
          refine ow_iloadNW (q := 89) X69 hx (hb hby own_d9_88) rfl rfl ?_
          refine ow_bipushW (q := 91) X69 hx (45 : Int32) (hb hby own_d9_89) rfl rfl ?_
          by_cases hc91_74 : r69 = (45 : Int32)
          · refine ow_icmpNoW (q := 94) X69 hx (hb hby own_d9_91) rfl (Jvm.Free.XT.ii_ne_f hc91_74) ?_
            refine ow_iconstW (q := 95) X69 hx (1 : Int32) (hb hby own_d9_94) rfl rfl ?_
            refine ow_gotoW (q := 99) X69 hx (hb hby own_d9_95) (by decide) (by decide) ?_
            refine ow_istoreNW (q := 100) X69 hx (L' := #[rv sx, iv (0 : Int32), iv r69, iv (1 : Int32)]) (hb hby own_d9_99) rfl rfl ?_
            refine ow_iloadNW (q := 101) X69 hx (hb hby own_d9_100) rfl rfl ?_
            refine ow_ifYesW (q := 111) X69 hx (hb hby own_d9_101) (Jvm.Free.XT.i0_ne_t (by decide)) (by decide) (by decide) ?_
            refine ow_iincW (q := 114) X69 hx (L' := #[rv sx, iv (1 : Int32), iv r69, iv (1 : Int32)]) (hb hby own_d9_111) rfl rfl rfl ?_
            refine ow_gotoW (q := 32) X69 hx (hb hby own_d9_114) (by decide) (by decide) ?_
            exact cut32_11 _ (1 : Int32) r69 (1 : Int32) _ _ X69 e69 N69 (Nat.lt_succ_self _) (by decide) (by decide)
          · refine ow_icmpYesW (q := 98) X69 hx (hb hby own_d9_91) (Jvm.Free.XT.ii_ne_t hc91_74) (by decide) (by decide) ?_
            exfalso
            have hk := own_okI hp69
            have cc0 := own_ltI hc49_70
            have cc1 := own_ltI hc61_71
            have cc2 := own_ltI hc73_72
            have cc3 := own_neI hc85_73
            have cc4 := own_neI hc91_74
            simp only [Int32.reduceToInt] at cc0 cc1 cc2 cc3 cc4
            omega
      · refine ow_icmpNoW (q := 76) X69 hx (hb hby own_d9_73) rfl (Jvm.Free.XT.ii_lt_f hc73_72) ?_
        refine ow_iloadNW (q := 77) X69 hx (hb hby own_d9_76) rfl rfl ?_
        refine ow_bipushW (q := 79) X69 hx (57 : Int32) (hb hby own_d9_77) rfl rfl ?_
        by_cases hc79_75 : (57 : Int32) < r69
        · refine ow_icmpNoW (q := 82) X69 hx (hb hby own_d9_79) rfl (Jvm.Free.XT.ii_le_f hc79_75) ?_
          refine ow_iloadNW (q := 83) X69 hx (hb hby own_d9_82) rfl rfl ?_
          refine ow_bipushW (q := 85) X69 hx (95 : Int32) (hb hby own_d9_83) rfl rfl ?_
          by_cases hc85_76 : r69 = (95 : Int32)
          · refine ow_icmpYesW (q := 94) X69 hx (hb hby own_d9_85) (Jvm.Free.XT.ii_eq_t hc85_76) (by decide) (by decide) ?_
            refine ow_iconstW (q := 95) X69 hx (1 : Int32) (hb hby own_d9_94) rfl rfl ?_
            refine ow_gotoW (q := 99) X69 hx (hb hby own_d9_95) (by decide) (by decide) ?_
            refine ow_istoreNW (q := 100) X69 hx (L' := #[rv sx, iv (0 : Int32), iv r69, iv (1 : Int32)]) (hb hby own_d9_99) rfl rfl ?_
            refine ow_iloadNW (q := 101) X69 hx (hb hby own_d9_100) rfl rfl ?_
            refine ow_ifYesW (q := 111) X69 hx (hb hby own_d9_101) (Jvm.Free.XT.i0_ne_t (by decide)) (by decide) (by decide) ?_
            refine ow_iincW (q := 114) X69 hx (L' := #[rv sx, iv (1 : Int32), iv r69, iv (1 : Int32)]) (hb hby own_d9_111) rfl rfl rfl ?_
            refine ow_gotoW (q := 32) X69 hx (hb hby own_d9_114) (by decide) (by decide) ?_
            exact cut32_11 _ (1 : Int32) r69 (1 : Int32) _ _ X69 e69 N69 (Nat.lt_succ_self _) (by decide) (by decide)
          · refine ow_icmpNoW (q := 88) X69 hx (hb hby own_d9_85) rfl (Jvm.Free.XT.ii_eq_f hc85_76) ?_
            refine ow_iloadNW (q := 89) X69 hx (hb hby own_d9_88) rfl rfl ?_
            refine ow_bipushW (q := 91) X69 hx (45 : Int32) (hb hby own_d9_89) rfl rfl ?_
            by_cases hc91_77 : r69 = (45 : Int32)
            · refine ow_icmpNoW (q := 94) X69 hx (hb hby own_d9_91) rfl (Jvm.Free.XT.ii_ne_f hc91_77) ?_
              refine ow_iconstW (q := 95) X69 hx (1 : Int32) (hb hby own_d9_94) rfl rfl ?_
              refine ow_gotoW (q := 99) X69 hx (hb hby own_d9_95) (by decide) (by decide) ?_
              refine ow_istoreNW (q := 100) X69 hx (L' := #[rv sx, iv (0 : Int32), iv r69, iv (1 : Int32)]) (hb hby own_d9_99) rfl rfl ?_
              refine ow_iloadNW (q := 101) X69 hx (hb hby own_d9_100) rfl rfl ?_
              refine ow_ifYesW (q := 111) X69 hx (hb hby own_d9_101) (Jvm.Free.XT.i0_ne_t (by decide)) (by decide) (by decide) ?_
              refine ow_iincW (q := 114) X69 hx (L' := #[rv sx, iv (1 : Int32), iv r69, iv (1 : Int32)]) (hb hby own_d9_111) rfl rfl rfl ?_
              refine ow_gotoW (q := 32) X69 hx (hb hby own_d9_114) (by decide) (by decide) ?_
              exact cut32_11 _ (1 : Int32) r69 (1 : Int32) _ _ X69 e69 N69 (Nat.lt_succ_self _) (by decide) (by decide)
            · refine ow_icmpYesW (q := 98) X69 hx (hb hby own_d9_91) (Jvm.Free.XT.ii_ne_t hc91_77) (by decide) (by decide) ?_
              exfalso
              have hk := own_okI hp69
              have cc0 := own_ltI hc49_70
              have cc1 := own_ltI hc61_71
              have cc2 := own_nltI hc73_72
              have cc3 := own_ltI hc79_75
              have cc4 := own_neI hc85_76
              have cc5 := own_neI hc91_77
              simp only [Int32.reduceToInt] at cc0 cc1 cc2 cc3 cc4 cc5
              omega
        · refine ow_icmpYesW (q := 94) X69 hx (hb hby own_d9_79) (Jvm.Free.XT.ii_le_t hc79_75) (by decide) (by decide) ?_
          refine ow_iconstW (q := 95) X69 hx (1 : Int32) (hb hby own_d9_94) rfl rfl ?_
          refine ow_gotoW (q := 99) X69 hx (hb hby own_d9_95) (by decide) (by decide) ?_
          refine ow_istoreNW (q := 100) X69 hx (L' := #[rv sx, iv (0 : Int32), iv r69, iv (1 : Int32)]) (hb hby own_d9_99) rfl rfl ?_
          refine ow_iloadNW (q := 101) X69 hx (hb hby own_d9_100) rfl rfl ?_
          refine ow_ifYesW (q := 111) X69 hx (hb hby own_d9_101) (Jvm.Free.XT.i0_ne_t (by decide)) (by decide) (by decide) ?_
          refine ow_iincW (q := 114) X69 hx (L' := #[rv sx, iv (1 : Int32), iv r69, iv (1 : Int32)]) (hb hby own_d9_111) rfl rfl rfl ?_
          refine ow_gotoW (q := 32) X69 hx (hb hby own_d9_114) (by decide) (by decide) ?_
          exact cut32_11 _ (1 : Int32) r69 (1 : Int32) _ _ X69 e69 N69 (Nat.lt_succ_self _) (by decide) (by decide)
    · refine ow_icmpNoW (q := 64) X69 hx (hb hby own_d9_61) rfl (Jvm.Free.XT.ii_lt_f hc61_71) ?_
      refine ow_iloadNW (q := 65) X69 hx (hb hby own_d9_64) rfl rfl ?_
      refine ow_bipushW (q := 67) X69 hx (90 : Int32) (hb hby own_d9_65) rfl rfl ?_
      by_cases hc67_78 : (90 : Int32) < r69
      · refine ow_icmpNoW (q := 70) X69 hx (hb hby own_d9_67) rfl (Jvm.Free.XT.ii_le_f hc67_78) ?_
        refine ow_iloadNW (q := 71) X69 hx (hb hby own_d9_70) rfl rfl ?_
        refine ow_bipushW (q := 73) X69 hx (48 : Int32) (hb hby own_d9_71) rfl rfl ?_
        by_cases hc73_79 : r69 < (48 : Int32)
        · refine ow_icmpYesW (q := 82) X69 hx (hb hby own_d9_73) (Jvm.Free.XT.ii_lt_t hc73_79) (by decide) (by decide) ?_
          refine ow_iloadNW (q := 83) X69 hx (hb hby own_d9_82) rfl rfl ?_
          refine ow_bipushW (q := 85) X69 hx (95 : Int32) (hb hby own_d9_83) rfl rfl ?_
          by_cases hc85_80 : r69 = (95 : Int32)
          · refine ow_icmpYesW (q := 94) X69 hx (hb hby own_d9_85) (Jvm.Free.XT.ii_eq_t hc85_80) (by decide) (by decide) ?_
            refine ow_iconstW (q := 95) X69 hx (1 : Int32) (hb hby own_d9_94) rfl rfl ?_
            refine ow_gotoW (q := 99) X69 hx (hb hby own_d9_95) (by decide) (by decide) ?_
            refine ow_istoreNW (q := 100) X69 hx (L' := #[rv sx, iv (0 : Int32), iv r69, iv (1 : Int32)]) (hb hby own_d9_99) rfl rfl ?_
            refine ow_iloadNW (q := 101) X69 hx (hb hby own_d9_100) rfl rfl ?_
            refine ow_ifYesW (q := 111) X69 hx (hb hby own_d9_101) (Jvm.Free.XT.i0_ne_t (by decide)) (by decide) (by decide) ?_
            refine ow_iincW (q := 114) X69 hx (L' := #[rv sx, iv (1 : Int32), iv r69, iv (1 : Int32)]) (hb hby own_d9_111) rfl rfl rfl ?_
            refine ow_gotoW (q := 32) X69 hx (hb hby own_d9_114) (by decide) (by decide) ?_
            exact cut32_11 _ (1 : Int32) r69 (1 : Int32) _ _ X69 e69 N69 (Nat.lt_succ_self _) (by decide) (by decide)
          · refine ow_icmpNoW (q := 88) X69 hx (hb hby own_d9_85) rfl (Jvm.Free.XT.ii_eq_f hc85_80) ?_
            refine ow_iloadNW (q := 89) X69 hx (hb hby own_d9_88) rfl rfl ?_
            refine ow_bipushW (q := 91) X69 hx (45 : Int32) (hb hby own_d9_89) rfl rfl ?_
            by_cases hc91_81 : r69 = (45 : Int32)
            · refine ow_icmpNoW (q := 94) X69 hx (hb hby own_d9_91) rfl (Jvm.Free.XT.ii_ne_f hc91_81) ?_
              refine ow_iconstW (q := 95) X69 hx (1 : Int32) (hb hby own_d9_94) rfl rfl ?_
              refine ow_gotoW (q := 99) X69 hx (hb hby own_d9_95) (by decide) (by decide) ?_
              refine ow_istoreNW (q := 100) X69 hx (L' := #[rv sx, iv (0 : Int32), iv r69, iv (1 : Int32)]) (hb hby own_d9_99) rfl rfl ?_
              refine ow_iloadNW (q := 101) X69 hx (hb hby own_d9_100) rfl rfl ?_
              refine ow_ifYesW (q := 111) X69 hx (hb hby own_d9_101) (Jvm.Free.XT.i0_ne_t (by decide)) (by decide) (by decide) ?_
              refine ow_iincW (q := 114) X69 hx (L' := #[rv sx, iv (1 : Int32), iv r69, iv (1 : Int32)]) (hb hby own_d9_111) rfl rfl rfl ?_
              refine ow_gotoW (q := 32) X69 hx (hb hby own_d9_114) (by decide) (by decide) ?_
              exact cut32_11 _ (1 : Int32) r69 (1 : Int32) _ _ X69 e69 N69 (Nat.lt_succ_self _) (by decide) (by decide)
            · refine ow_icmpYesW (q := 98) X69 hx (hb hby own_d9_91) (Jvm.Free.XT.ii_ne_t hc91_81) (by decide) (by decide) ?_
              exfalso
              have hk := own_okI hp69
              have cc0 := own_ltI hc49_70
              have cc1 := own_nltI hc61_71
              have cc2 := own_ltI hc67_78
              have cc3 := own_ltI hc73_79
              have cc4 := own_neI hc85_80
              have cc5 := own_neI hc91_81
              simp only [Int32.reduceToInt] at cc0 cc1 cc2 cc3 cc4 cc5
              omega
        · refine ow_icmpNoW (q := 76) X69 hx (hb hby own_d9_73) rfl (Jvm.Free.XT.ii_lt_f hc73_79) ?_
          refine ow_iloadNW (q := 77) X69 hx (hb hby own_d9_76) rfl rfl ?_
          refine ow_bipushW (q := 79) X69 hx (57 : Int32) (hb hby own_d9_77) rfl rfl ?_
          by_cases hc79_82 : (57 : Int32) < r69
          · refine ow_icmpNoW (q := 82) X69 hx (hb hby own_d9_79) rfl (Jvm.Free.XT.ii_le_f hc79_82) ?_
            refine ow_iloadNW (q := 83) X69 hx (hb hby own_d9_82) rfl rfl ?_
            refine ow_bipushW (q := 85) X69 hx (95 : Int32) (hb hby own_d9_83) rfl rfl ?_
            by_cases hc85_83 : r69 = (95 : Int32)
            · refine ow_icmpYesW (q := 94) X69 hx (hb hby own_d9_85) (Jvm.Free.XT.ii_eq_t hc85_83) (by decide) (by decide) ?_
              refine ow_iconstW (q := 95) X69 hx (1 : Int32) (hb hby own_d9_94) rfl rfl ?_
              refine ow_gotoW (q := 99) X69 hx (hb hby own_d9_95) (by decide) (by decide) ?_
              refine ow_istoreNW (q := 100) X69 hx (L' := #[rv sx, iv (0 : Int32), iv r69, iv (1 : Int32)]) (hb hby own_d9_99) rfl rfl ?_
              refine ow_iloadNW (q := 101) X69 hx (hb hby own_d9_100) rfl rfl ?_
              refine ow_ifYesW (q := 111) X69 hx (hb hby own_d9_101) (Jvm.Free.XT.i0_ne_t (by decide)) (by decide) (by decide) ?_
              refine ow_iincW (q := 114) X69 hx (L' := #[rv sx, iv (1 : Int32), iv r69, iv (1 : Int32)]) (hb hby own_d9_111) rfl rfl rfl ?_
              refine ow_gotoW (q := 32) X69 hx (hb hby own_d9_114) (by decide) (by decide) ?_
              exact cut32_11 _ (1 : Int32) r69 (1 : Int32) _ _ X69 e69 N69 (Nat.lt_succ_self _) (by decide) (by decide)
            · refine ow_icmpNoW (q := 88) X69 hx (hb hby own_d9_85) rfl (Jvm.Free.XT.ii_eq_f hc85_83) ?_
              refine ow_iloadNW (q := 89) X69 hx (hb hby own_d9_88) rfl rfl ?_
              refine ow_bipushW (q := 91) X69 hx (45 : Int32) (hb hby own_d9_89) rfl rfl ?_
              by_cases hc91_84 : r69 = (45 : Int32)
              · refine ow_icmpNoW (q := 94) X69 hx (hb hby own_d9_91) rfl (Jvm.Free.XT.ii_ne_f hc91_84) ?_
                refine ow_iconstW (q := 95) X69 hx (1 : Int32) (hb hby own_d9_94) rfl rfl ?_
                refine ow_gotoW (q := 99) X69 hx (hb hby own_d9_95) (by decide) (by decide) ?_
                refine ow_istoreNW (q := 100) X69 hx (L' := #[rv sx, iv (0 : Int32), iv r69, iv (1 : Int32)]) (hb hby own_d9_99) rfl rfl ?_
                refine ow_iloadNW (q := 101) X69 hx (hb hby own_d9_100) rfl rfl ?_
                refine ow_ifYesW (q := 111) X69 hx (hb hby own_d9_101) (Jvm.Free.XT.i0_ne_t (by decide)) (by decide) (by decide) ?_
                refine ow_iincW (q := 114) X69 hx (L' := #[rv sx, iv (1 : Int32), iv r69, iv (1 : Int32)]) (hb hby own_d9_111) rfl rfl rfl ?_
                refine ow_gotoW (q := 32) X69 hx (hb hby own_d9_114) (by decide) (by decide) ?_
                exact cut32_11 _ (1 : Int32) r69 (1 : Int32) _ _ X69 e69 N69 (Nat.lt_succ_self _) (by decide) (by decide)
              · refine ow_icmpYesW (q := 98) X69 hx (hb hby own_d9_91) (Jvm.Free.XT.ii_ne_t hc91_84) (by decide) (by decide) ?_
                exfalso
                have hk := own_okI hp69
                have cc0 := own_ltI hc49_70
                have cc1 := own_nltI hc61_71
                have cc2 := own_ltI hc67_78
                have cc3 := own_nltI hc73_79
                have cc4 := own_ltI hc79_82
                have cc5 := own_neI hc85_83
                have cc6 := own_neI hc91_84
                simp only [Int32.reduceToInt] at cc0 cc1 cc2 cc3 cc4 cc5 cc6
                omega
          · refine ow_icmpYesW (q := 94) X69 hx (hb hby own_d9_79) (Jvm.Free.XT.ii_le_t hc79_82) (by decide) (by decide) ?_
            refine ow_iconstW (q := 95) X69 hx (1 : Int32) (hb hby own_d9_94) rfl rfl ?_
            refine ow_gotoW (q := 99) X69 hx (hb hby own_d9_95) (by decide) (by decide) ?_
            refine ow_istoreNW (q := 100) X69 hx (L' := #[rv sx, iv (0 : Int32), iv r69, iv (1 : Int32)]) (hb hby own_d9_99) rfl rfl ?_
            refine ow_iloadNW (q := 101) X69 hx (hb hby own_d9_100) rfl rfl ?_
            refine ow_ifYesW (q := 111) X69 hx (hb hby own_d9_101) (Jvm.Free.XT.i0_ne_t (by decide)) (by decide) (by decide) ?_
            refine ow_iincW (q := 114) X69 hx (L' := #[rv sx, iv (1 : Int32), iv r69, iv (1 : Int32)]) (hb hby own_d9_111) rfl rfl rfl ?_
            refine ow_gotoW (q := 32) X69 hx (hb hby own_d9_114) (by decide) (by decide) ?_
            exact cut32_11 _ (1 : Int32) r69 (1 : Int32) _ _ X69 e69 N69 (Nat.lt_succ_self _) (by decide) (by decide)
      · refine ow_icmpYesW (q := 94) X69 hx (hb hby own_d9_67) (Jvm.Free.XT.ii_le_t hc67_78) (by decide) (by decide) ?_
        refine ow_iconstW (q := 95) X69 hx (1 : Int32) (hb hby own_d9_94) rfl rfl ?_
        refine ow_gotoW (q := 99) X69 hx (hb hby own_d9_95) (by decide) (by decide) ?_
        refine ow_istoreNW (q := 100) X69 hx (L' := #[rv sx, iv (0 : Int32), iv r69, iv (1 : Int32)]) (hb hby own_d9_99) rfl rfl ?_
        refine ow_iloadNW (q := 101) X69 hx (hb hby own_d9_100) rfl rfl ?_
        refine ow_ifYesW (q := 111) X69 hx (hb hby own_d9_101) (Jvm.Free.XT.i0_ne_t (by decide)) (by decide) (by decide) ?_
        refine ow_iincW (q := 114) X69 hx (L' := #[rv sx, iv (1 : Int32), iv r69, iv (1 : Int32)]) (hb hby own_d9_111) rfl rfl rfl ?_
        refine ow_gotoW (q := 32) X69 hx (hb hby own_d9_114) (by decide) (by decide) ?_
        exact cut32_11 _ (1 : Int32) r69 (1 : Int32) _ _ X69 e69 N69 (Nat.lt_succ_self _) (by decide) (by decide)
  · refine ow_icmpNoW (q := 52) X69 hx (hb hby own_d9_49) rfl (Jvm.Free.XT.ii_lt_f hc49_70) ?_
    refine ow_iloadNW (q := 53) X69 hx (hb hby own_d9_52) rfl rfl ?_
    refine ow_bipushW (q := 55) X69 hx (122 : Int32) (hb hby own_d9_53) rfl rfl ?_
    by_cases hc55_85 : (122 : Int32) < r69
    · refine ow_icmpNoW (q := 58) X69 hx (hb hby own_d9_55) rfl (Jvm.Free.XT.ii_le_f hc55_85) ?_
      refine ow_iloadNW (q := 59) X69 hx (hb hby own_d9_58) rfl rfl ?_
      refine ow_bipushW (q := 61) X69 hx (65 : Int32) (hb hby own_d9_59) rfl rfl ?_
      by_cases hc61_86 : r69 < (65 : Int32)
      · refine ow_icmpYesW (q := 70) X69 hx (hb hby own_d9_61) (Jvm.Free.XT.ii_lt_t hc61_86) (by decide) (by decide) ?_
        refine ow_iloadNW (q := 71) X69 hx (hb hby own_d9_70) rfl rfl ?_
        refine ow_bipushW (q := 73) X69 hx (48 : Int32) (hb hby own_d9_71) rfl rfl ?_
        by_cases hc73_87 : r69 < (48 : Int32)
        · refine ow_icmpYesW (q := 82) X69 hx (hb hby own_d9_73) (Jvm.Free.XT.ii_lt_t hc73_87) (by decide) (by decide) ?_
          refine ow_iloadNW (q := 83) X69 hx (hb hby own_d9_82) rfl rfl ?_
          refine ow_bipushW (q := 85) X69 hx (95 : Int32) (hb hby own_d9_83) rfl rfl ?_
          by_cases hc85_88 : r69 = (95 : Int32)
          · refine ow_icmpYesW (q := 94) X69 hx (hb hby own_d9_85) (Jvm.Free.XT.ii_eq_t hc85_88) (by decide) (by decide) ?_
            refine ow_iconstW (q := 95) X69 hx (1 : Int32) (hb hby own_d9_94) rfl rfl ?_
            refine ow_gotoW (q := 99) X69 hx (hb hby own_d9_95) (by decide) (by decide) ?_
            refine ow_istoreNW (q := 100) X69 hx (L' := #[rv sx, iv (0 : Int32), iv r69, iv (1 : Int32)]) (hb hby own_d9_99) rfl rfl ?_
            refine ow_iloadNW (q := 101) X69 hx (hb hby own_d9_100) rfl rfl ?_
            refine ow_ifYesW (q := 111) X69 hx (hb hby own_d9_101) (Jvm.Free.XT.i0_ne_t (by decide)) (by decide) (by decide) ?_
            refine ow_iincW (q := 114) X69 hx (L' := #[rv sx, iv (1 : Int32), iv r69, iv (1 : Int32)]) (hb hby own_d9_111) rfl rfl rfl ?_
            refine ow_gotoW (q := 32) X69 hx (hb hby own_d9_114) (by decide) (by decide) ?_
            exact cut32_11 _ (1 : Int32) r69 (1 : Int32) _ _ X69 e69 N69 (Nat.lt_succ_self _) (by decide) (by decide)
          · refine ow_icmpNoW (q := 88) X69 hx (hb hby own_d9_85) rfl (Jvm.Free.XT.ii_eq_f hc85_88) ?_
            refine ow_iloadNW (q := 89) X69 hx (hb hby own_d9_88) rfl rfl ?_
            refine ow_bipushW (q := 91) X69 hx (45 : Int32) (hb hby own_d9_89) rfl rfl ?_
            by_cases hc91_89 : r69 = (45 : Int32)
            · refine ow_icmpNoW (q := 94) X69 hx (hb hby own_d9_91) rfl (Jvm.Free.XT.ii_ne_f hc91_89) ?_
              refine ow_iconstW (q := 95) X69 hx (1 : Int32) (hb hby own_d9_94) rfl rfl ?_
              refine ow_gotoW (q := 99) X69 hx (hb hby own_d9_95) (by decide) (by decide) ?_
              refine ow_istoreNW (q := 100) X69 hx (L' := #[rv sx, iv (0 : Int32), iv r69, iv (1 : Int32)]) (hb hby own_d9_99) rfl rfl ?_
              refine ow_iloadNW (q := 101) X69 hx (hb hby own_d9_100) rfl rfl ?_
              refine ow_ifYesW (q := 111) X69 hx (hb hby own_d9_101) (Jvm.Free.XT.i0_ne_t (by decide)) (by decide) (by decide) ?_
              refine ow_iincW (q := 114) X69 hx (L' := #[rv sx, iv (1 : Int32), iv r69, iv (1 : Int32)]) (hb hby own_d9_111) rfl rfl rfl ?_
              refine ow_gotoW (q := 32) X69 hx (hb hby own_d9_114) (by decide) (by decide) ?_
              exact cut32_11 _ (1 : Int32) r69 (1 : Int32) _ _ X69 e69 N69 (Nat.lt_succ_self _) (by decide) (by decide)
            · refine ow_icmpYesW (q := 98) X69 hx (hb hby own_d9_91) (Jvm.Free.XT.ii_ne_t hc91_89) (by decide) (by decide) ?_
              exfalso
              have hk := own_okI hp69
              have cc0 := own_nltI hc49_70
              have cc1 := own_ltI hc55_85
              have cc2 := own_ltI hc61_86
              have cc3 := own_ltI hc73_87
              have cc4 := own_neI hc85_88
              have cc5 := own_neI hc91_89
              simp only [Int32.reduceToInt] at cc0 cc1 cc2 cc3 cc4 cc5
              omega
        · refine ow_icmpNoW (q := 76) X69 hx (hb hby own_d9_73) rfl (Jvm.Free.XT.ii_lt_f hc73_87) ?_
          refine ow_iloadNW (q := 77) X69 hx (hb hby own_d9_76) rfl rfl ?_
          refine ow_bipushW (q := 79) X69 hx (57 : Int32) (hb hby own_d9_77) rfl rfl ?_
          by_cases hc79_90 : (57 : Int32) < r69
          · refine ow_icmpNoW (q := 82) X69 hx (hb hby own_d9_79) rfl (Jvm.Free.XT.ii_le_f hc79_90) ?_
            refine ow_iloadNW (q := 83) X69 hx (hb hby own_d9_82) rfl rfl ?_
            refine ow_bipushW (q := 85) X69 hx (95 : Int32) (hb hby own_d9_83) rfl rfl ?_
            by_cases hc85_91 : r69 = (95 : Int32)
            · refine ow_icmpYesW (q := 94) X69 hx (hb hby own_d9_85) (Jvm.Free.XT.ii_eq_t hc85_91) (by decide) (by decide) ?_
              refine ow_iconstW (q := 95) X69 hx (1 : Int32) (hb hby own_d9_94) rfl rfl ?_
              refine ow_gotoW (q := 99) X69 hx (hb hby own_d9_95) (by decide) (by decide) ?_
              refine ow_istoreNW (q := 100) X69 hx (L' := #[rv sx, iv (0 : Int32), iv r69, iv (1 : Int32)]) (hb hby own_d9_99) rfl rfl ?_
              refine ow_iloadNW (q := 101) X69 hx (hb hby own_d9_100) rfl rfl ?_
              refine ow_ifYesW (q := 111) X69 hx (hb hby own_d9_101) (Jvm.Free.XT.i0_ne_t (by decide)) (by decide) (by decide) ?_
              refine ow_iincW (q := 114) X69 hx (L' := #[rv sx, iv (1 : Int32), iv r69, iv (1 : Int32)]) (hb hby own_d9_111) rfl rfl rfl ?_
              refine ow_gotoW (q := 32) X69 hx (hb hby own_d9_114) (by decide) (by decide) ?_
              exact cut32_11 _ (1 : Int32) r69 (1 : Int32) _ _ X69 e69 N69 (Nat.lt_succ_self _) (by decide) (by decide)
            · refine ow_icmpNoW (q := 88) X69 hx (hb hby own_d9_85) rfl (Jvm.Free.XT.ii_eq_f hc85_91) ?_
              refine ow_iloadNW (q := 89) X69 hx (hb hby own_d9_88) rfl rfl ?_
              refine ow_bipushW (q := 91) X69 hx (45 : Int32) (hb hby own_d9_89) rfl rfl ?_
              by_cases hc91_92 : r69 = (45 : Int32)
              · refine ow_icmpNoW (q := 94) X69 hx (hb hby own_d9_91) rfl (Jvm.Free.XT.ii_ne_f hc91_92) ?_
                refine ow_iconstW (q := 95) X69 hx (1 : Int32) (hb hby own_d9_94) rfl rfl ?_
                refine ow_gotoW (q := 99) X69 hx (hb hby own_d9_95) (by decide) (by decide) ?_
                refine ow_istoreNW (q := 100) X69 hx (L' := #[rv sx, iv (0 : Int32), iv r69, iv (1 : Int32)]) (hb hby own_d9_99) rfl rfl ?_
                refine ow_iloadNW (q := 101) X69 hx (hb hby own_d9_100) rfl rfl ?_
                refine ow_ifYesW (q := 111) X69 hx (hb hby own_d9_101) (Jvm.Free.XT.i0_ne_t (by decide)) (by decide) (by decide) ?_
                refine ow_iincW (q := 114) X69 hx (L' := #[rv sx, iv (1 : Int32), iv r69, iv (1 : Int32)]) (hb hby own_d9_111) rfl rfl rfl ?_
                refine ow_gotoW (q := 32) X69 hx (hb hby own_d9_114) (by decide) (by decide) ?_
                exact cut32_11 _ (1 : Int32) r69 (1 : Int32) _ _ X69 e69 N69 (Nat.lt_succ_self _) (by decide) (by decide)
              · refine ow_icmpYesW (q := 98) X69 hx (hb hby own_d9_91) (Jvm.Free.XT.ii_ne_t hc91_92) (by decide) (by decide) ?_
                exfalso
                have hk := own_okI hp69
                have cc0 := own_nltI hc49_70
                have cc1 := own_ltI hc55_85
                have cc2 := own_ltI hc61_86
                have cc3 := own_nltI hc73_87
                have cc4 := own_ltI hc79_90
                have cc5 := own_neI hc85_91
                have cc6 := own_neI hc91_92
                simp only [Int32.reduceToInt] at cc0 cc1 cc2 cc3 cc4 cc5 cc6
                omega
          · refine ow_icmpYesW (q := 94) X69 hx (hb hby own_d9_79) (Jvm.Free.XT.ii_le_t hc79_90) (by decide) (by decide) ?_
            refine ow_iconstW (q := 95) X69 hx (1 : Int32) (hb hby own_d9_94) rfl rfl ?_
            refine ow_gotoW (q := 99) X69 hx (hb hby own_d9_95) (by decide) (by decide) ?_
            refine ow_istoreNW (q := 100) X69 hx (L' := #[rv sx, iv (0 : Int32), iv r69, iv (1 : Int32)]) (hb hby own_d9_99) rfl rfl ?_
            refine ow_iloadNW (q := 101) X69 hx (hb hby own_d9_100) rfl rfl ?_
            refine ow_ifYesW (q := 111) X69 hx (hb hby own_d9_101) (Jvm.Free.XT.i0_ne_t (by decide)) (by decide) (by decide) ?_
            refine ow_iincW (q := 114) X69 hx (L' := #[rv sx, iv (1 : Int32), iv r69, iv (1 : Int32)]) (hb hby own_d9_111) rfl rfl rfl ?_
            refine ow_gotoW (q := 32) X69 hx (hb hby own_d9_114) (by decide) (by decide) ?_
            exact cut32_11 _ (1 : Int32) r69 (1 : Int32) _ _ X69 e69 N69 (Nat.lt_succ_self _) (by decide) (by decide)
      · refine ow_icmpNoW (q := 64) X69 hx (hb hby own_d9_61) rfl (Jvm.Free.XT.ii_lt_f hc61_86) ?_
        refine ow_iloadNW (q := 65) X69 hx (hb hby own_d9_64) rfl rfl ?_
        refine ow_bipushW (q := 67) X69 hx (90 : Int32) (hb hby own_d9_65) rfl rfl ?_
        by_cases hc67_93 : (90 : Int32) < r69
        · refine ow_icmpNoW (q := 70) X69 hx (hb hby own_d9_67) rfl (Jvm.Free.XT.ii_le_f hc67_93) ?_
          refine ow_iloadNW (q := 71) X69 hx (hb hby own_d9_70) rfl rfl ?_
          refine ow_bipushW (q := 73) X69 hx (48 : Int32) (hb hby own_d9_71) rfl rfl ?_
          by_cases hc73_94 : r69 < (48 : Int32)
          · refine ow_icmpYesW (q := 82) X69 hx (hb hby own_d9_73) (Jvm.Free.XT.ii_lt_t hc73_94) (by decide) (by decide) ?_
            refine ow_iloadNW (q := 83) X69 hx (hb hby own_d9_82) rfl rfl ?_
            refine ow_bipushW (q := 85) X69 hx (95 : Int32) (hb hby own_d9_83) rfl rfl ?_
            by_cases hc85_95 : r69 = (95 : Int32)
            · refine ow_icmpYesW (q := 94) X69 hx (hb hby own_d9_85) (Jvm.Free.XT.ii_eq_t hc85_95) (by decide) (by decide) ?_
              refine ow_iconstW (q := 95) X69 hx (1 : Int32) (hb hby own_d9_94) rfl rfl ?_
              refine ow_gotoW (q := 99) X69 hx (hb hby own_d9_95) (by decide) (by decide) ?_
              refine ow_istoreNW (q := 100) X69 hx (L' := #[rv sx, iv (0 : Int32), iv r69, iv (1 : Int32)]) (hb hby own_d9_99) rfl rfl ?_
              refine ow_iloadNW (q := 101) X69 hx (hb hby own_d9_100) rfl rfl ?_
              refine ow_ifYesW (q := 111) X69 hx (hb hby own_d9_101) (Jvm.Free.XT.i0_ne_t (by decide)) (by decide) (by decide) ?_
              refine ow_iincW (q := 114) X69 hx (L' := #[rv sx, iv (1 : Int32), iv r69, iv (1 : Int32)]) (hb hby own_d9_111) rfl rfl rfl ?_
              refine ow_gotoW (q := 32) X69 hx (hb hby own_d9_114) (by decide) (by decide) ?_
              exact cut32_11 _ (1 : Int32) r69 (1 : Int32) _ _ X69 e69 N69 (Nat.lt_succ_self _) (by decide) (by decide)
            · refine ow_icmpNoW (q := 88) X69 hx (hb hby own_d9_85) rfl (Jvm.Free.XT.ii_eq_f hc85_95) ?_
              refine ow_iloadNW (q := 89) X69 hx (hb hby own_d9_88) rfl rfl ?_
              refine ow_bipushW (q := 91) X69 hx (45 : Int32) (hb hby own_d9_89) rfl rfl ?_
              by_cases hc91_96 : r69 = (45 : Int32)
              · refine ow_icmpNoW (q := 94) X69 hx (hb hby own_d9_91) rfl (Jvm.Free.XT.ii_ne_f hc91_96) ?_
                refine ow_iconstW (q := 95) X69 hx (1 : Int32) (hb hby own_d9_94) rfl rfl ?_
                refine ow_gotoW (q := 99) X69 hx (hb hby own_d9_95) (by decide) (by decide) ?_
                refine ow_istoreNW (q := 100) X69 hx (L' := #[rv sx, iv (0 : Int32), iv r69, iv (1 : Int32)]) (hb hby own_d9_99) rfl rfl ?_
                refine ow_iloadNW (q := 101) X69 hx (hb hby own_d9_100) rfl rfl ?_
                refine ow_ifYesW (q := 111) X69 hx (hb hby own_d9_101) (Jvm.Free.XT.i0_ne_t (by decide)) (by decide) (by decide) ?_
                refine ow_iincW (q := 114) X69 hx (L' := #[rv sx, iv (1 : Int32), iv r69, iv (1 : Int32)]) (hb hby own_d9_111) rfl rfl rfl ?_
                refine ow_gotoW (q := 32) X69 hx (hb hby own_d9_114) (by decide) (by decide) ?_
                exact cut32_11 _ (1 : Int32) r69 (1 : Int32) _ _ X69 e69 N69 (Nat.lt_succ_self _) (by decide) (by decide)
              · refine ow_icmpYesW (q := 98) X69 hx (hb hby own_d9_91) (Jvm.Free.XT.ii_ne_t hc91_96) (by decide) (by decide) ?_
                exfalso
                have hk := own_okI hp69
                have cc0 := own_nltI hc49_70
                have cc1 := own_ltI hc55_85
                have cc2 := own_nltI hc61_86
                have cc3 := own_ltI hc67_93
                have cc4 := own_ltI hc73_94
                have cc5 := own_neI hc85_95
                have cc6 := own_neI hc91_96
                simp only [Int32.reduceToInt] at cc0 cc1 cc2 cc3 cc4 cc5 cc6
                omega
          · refine ow_icmpNoW (q := 76) X69 hx (hb hby own_d9_73) rfl (Jvm.Free.XT.ii_lt_f hc73_94) ?_
            refine ow_iloadNW (q := 77) X69 hx (hb hby own_d9_76) rfl rfl ?_
            refine ow_bipushW (q := 79) X69 hx (57 : Int32) (hb hby own_d9_77) rfl rfl ?_
            by_cases hc79_97 : (57 : Int32) < r69
            · refine ow_icmpNoW (q := 82) X69 hx (hb hby own_d9_79) rfl (Jvm.Free.XT.ii_le_f hc79_97) ?_
              refine ow_iloadNW (q := 83) X69 hx (hb hby own_d9_82) rfl rfl ?_
              refine ow_bipushW (q := 85) X69 hx (95 : Int32) (hb hby own_d9_83) rfl rfl ?_
              by_cases hc85_98 : r69 = (95 : Int32)
              · refine ow_icmpYesW (q := 94) X69 hx (hb hby own_d9_85) (Jvm.Free.XT.ii_eq_t hc85_98) (by decide) (by decide) ?_
                refine ow_iconstW (q := 95) X69 hx (1 : Int32) (hb hby own_d9_94) rfl rfl ?_
                refine ow_gotoW (q := 99) X69 hx (hb hby own_d9_95) (by decide) (by decide) ?_
                refine ow_istoreNW (q := 100) X69 hx (L' := #[rv sx, iv (0 : Int32), iv r69, iv (1 : Int32)]) (hb hby own_d9_99) rfl rfl ?_
                refine ow_iloadNW (q := 101) X69 hx (hb hby own_d9_100) rfl rfl ?_
                refine ow_ifYesW (q := 111) X69 hx (hb hby own_d9_101) (Jvm.Free.XT.i0_ne_t (by decide)) (by decide) (by decide) ?_
                refine ow_iincW (q := 114) X69 hx (L' := #[rv sx, iv (1 : Int32), iv r69, iv (1 : Int32)]) (hb hby own_d9_111) rfl rfl rfl ?_
                refine ow_gotoW (q := 32) X69 hx (hb hby own_d9_114) (by decide) (by decide) ?_
                exact cut32_11 _ (1 : Int32) r69 (1 : Int32) _ _ X69 e69 N69 (Nat.lt_succ_self _) (by decide) (by decide)
              · refine ow_icmpNoW (q := 88) X69 hx (hb hby own_d9_85) rfl (Jvm.Free.XT.ii_eq_f hc85_98) ?_
                refine ow_iloadNW (q := 89) X69 hx (hb hby own_d9_88) rfl rfl ?_
                refine ow_bipushW (q := 91) X69 hx (45 : Int32) (hb hby own_d9_89) rfl rfl ?_
                by_cases hc91_99 : r69 = (45 : Int32)
                · refine ow_icmpNoW (q := 94) X69 hx (hb hby own_d9_91) rfl (Jvm.Free.XT.ii_ne_f hc91_99) ?_
                  refine ow_iconstW (q := 95) X69 hx (1 : Int32) (hb hby own_d9_94) rfl rfl ?_
                  refine ow_gotoW (q := 99) X69 hx (hb hby own_d9_95) (by decide) (by decide) ?_
                  refine ow_istoreNW (q := 100) X69 hx (L' := #[rv sx, iv (0 : Int32), iv r69, iv (1 : Int32)]) (hb hby own_d9_99) rfl rfl ?_
                  refine ow_iloadNW (q := 101) X69 hx (hb hby own_d9_100) rfl rfl ?_
                  refine ow_ifYesW (q := 111) X69 hx (hb hby own_d9_101) (Jvm.Free.XT.i0_ne_t (by decide)) (by decide) (by decide) ?_
                  refine ow_iincW (q := 114) X69 hx (L' := #[rv sx, iv (1 : Int32), iv r69, iv (1 : Int32)]) (hb hby own_d9_111) rfl rfl rfl ?_
                  refine ow_gotoW (q := 32) X69 hx (hb hby own_d9_114) (by decide) (by decide) ?_
                  exact cut32_11 _ (1 : Int32) r69 (1 : Int32) _ _ X69 e69 N69 (Nat.lt_succ_self _) (by decide) (by decide)
                · refine ow_icmpYesW (q := 98) X69 hx (hb hby own_d9_91) (Jvm.Free.XT.ii_ne_t hc91_99) (by decide) (by decide) ?_
                  exfalso
                  have hk := own_okI hp69
                  have cc0 := own_nltI hc49_70
                  have cc1 := own_ltI hc55_85
                  have cc2 := own_nltI hc61_86
                  have cc3 := own_ltI hc67_93
                  have cc4 := own_nltI hc73_94
                  have cc5 := own_ltI hc79_97
                  have cc6 := own_neI hc85_98
                  have cc7 := own_neI hc91_99
                  simp only [Int32.reduceToInt] at cc0 cc1 cc2 cc3 cc4 cc5 cc6 cc7
                  omega
            · refine ow_icmpYesW (q := 94) X69 hx (hb hby own_d9_79) (Jvm.Free.XT.ii_le_t hc79_97) (by decide) (by decide) ?_
              refine ow_iconstW (q := 95) X69 hx (1 : Int32) (hb hby own_d9_94) rfl rfl ?_
              refine ow_gotoW (q := 99) X69 hx (hb hby own_d9_95) (by decide) (by decide) ?_
              refine ow_istoreNW (q := 100) X69 hx (L' := #[rv sx, iv (0 : Int32), iv r69, iv (1 : Int32)]) (hb hby own_d9_99) rfl rfl ?_
              refine ow_iloadNW (q := 101) X69 hx (hb hby own_d9_100) rfl rfl ?_
              refine ow_ifYesW (q := 111) X69 hx (hb hby own_d9_101) (Jvm.Free.XT.i0_ne_t (by decide)) (by decide) (by decide) ?_
              refine ow_iincW (q := 114) X69 hx (L' := #[rv sx, iv (1 : Int32), iv r69, iv (1 : Int32)]) (hb hby own_d9_111) rfl rfl rfl ?_
              refine ow_gotoW (q := 32) X69 hx (hb hby own_d9_114) (by decide) (by decide) ?_
              exact cut32_11 _ (1 : Int32) r69 (1 : Int32) _ _ X69 e69 N69 (Nat.lt_succ_self _) (by decide) (by decide)
        · refine ow_icmpYesW (q := 94) X69 hx (hb hby own_d9_67) (Jvm.Free.XT.ii_le_t hc67_93) (by decide) (by decide) ?_
          refine ow_iconstW (q := 95) X69 hx (1 : Int32) (hb hby own_d9_94) rfl rfl ?_
          refine ow_gotoW (q := 99) X69 hx (hb hby own_d9_95) (by decide) (by decide) ?_
          refine ow_istoreNW (q := 100) X69 hx (L' := #[rv sx, iv (0 : Int32), iv r69, iv (1 : Int32)]) (hb hby own_d9_99) rfl rfl ?_
          refine ow_iloadNW (q := 101) X69 hx (hb hby own_d9_100) rfl rfl ?_
          refine ow_ifYesW (q := 111) X69 hx (hb hby own_d9_101) (Jvm.Free.XT.i0_ne_t (by decide)) (by decide) (by decide) ?_
          refine ow_iincW (q := 114) X69 hx (L' := #[rv sx, iv (1 : Int32), iv r69, iv (1 : Int32)]) (hb hby own_d9_111) rfl rfl rfl ?_
          refine ow_gotoW (q := 32) X69 hx (hb hby own_d9_114) (by decide) (by decide) ?_
          exact cut32_11 _ (1 : Int32) r69 (1 : Int32) _ _ X69 e69 N69 (Nat.lt_succ_self _) (by decide) (by decide)
    · refine ow_icmpYesW (q := 94) X69 hx (hb hby own_d9_55) (Jvm.Free.XT.ii_le_t hc55_85) (by decide) (by decide) ?_
      refine ow_iconstW (q := 95) X69 hx (1 : Int32) (hb hby own_d9_94) rfl rfl ?_
      refine ow_gotoW (q := 99) X69 hx (hb hby own_d9_95) (by decide) (by decide) ?_
      refine ow_istoreNW (q := 100) X69 hx (L' := #[rv sx, iv (0 : Int32), iv r69, iv (1 : Int32)]) (hb hby own_d9_99) rfl rfl ?_
      refine ow_iloadNW (q := 101) X69 hx (hb hby own_d9_100) rfl rfl ?_
      refine ow_ifYesW (q := 111) X69 hx (hb hby own_d9_101) (Jvm.Free.XT.i0_ne_t (by decide)) (by decide) (by decide) ?_
      refine ow_iincW (q := 114) X69 hx (L' := #[rv sx, iv (1 : Int32), iv r69, iv (1 : Int32)]) (hb hby own_d9_111) rfl rfl rfl ?_
      refine ow_gotoW (q := 32) X69 hx (hb hby own_d9_114) (by decide) (by decide) ?_
      exact cut32_11 _ (1 : Int32) r69 (1 : Int32) _ _ X69 e69 N69 (Nat.lt_succ_self _) (by decide) (by decide)
theorem own_ef11_isEmpty3 (m : MethodId) (sx : Addr) : entryFrame m #[(.ref sx)] 1 = mkF m 0 #[rv sx] [] := by first | (simp [entryFrame, mkF, argsToLocals, Value.category]; done) | rfl
def Q_isEmpty3 (Z : State) (sx : Addr) (t : Addr) (gb : Nat → Int32) (h0 : Heap) (n0 : Nat) (v : Option Value) (h : Heap) (L : List Loc) : Prop := v = some (.int (0 : Int32)) ∧ Fr n0 L ∧ h = h0
set_option maxRecDepth 65536 in
set_option maxHeartbeats 40000000 in
theorem rm_isEmpty3 (l : Launch) (Z : State) (av0 : Array Value) (hw : ∀ d ∈ tables_1, d.before av0 Z = true) (ws : List Jvm.Cond) (sx : Addr) (t : Addr) (gb : Nat → Int32) (h0 : Heap) (n0 : Nat) (Z0 : n0 ≤ h0.size) (HF0 : Fld Z h0 sx "java/lang/String" "value" "[B" (.ref t)) (HF1 : ownAI Z h0 t .byte 3 gb) :
    MetFree l (⟨"java/lang/String", "isEmpty", "()Z"⟩ : MethodName) (head1 (Jvm.Cond.code (⟨"java/lang/String", "isEmpty", "()Z"⟩ : MethodName) jdk_42_method_55_code 1 (some .boolean) :: ws) ({ frames := 0, cells := 0, slots := 0, locals := 0 } : Room)) (fun a U => a = #[(.ref sx)] ∧ Z.Warmed39 U.vm ∧ U.heap = h0) (fun _ _ _ _ _ => True) (fun _ U o U' => ∃ v L, o = .returned v ∧ (Q_isEmpty3 Z sx t gb h0 n0) v U'.heap L ∧ FrameEnd U o U' L ({ frames := 0, cells := 0, slots := 0, locals := 0 } : Room).cells ({ frames := 0, cells := 0, slots := 0, locals := 0 } : Room).slots) := by
  refine MetFree.of_bodySF (plainFor_of_name own_pn_String) hisR ?_
  intro p e s m args below meth c s₁ Bd hml0 hP hK
  obtain ⟨rfl, hZ, hh⟩ := hP
  have hx := Bd.exec
  have hby := Bd.bytes
  have hml : c.maxLocals = 1 := hml0
  have hown : s.vm.findClass "java/lang/String" = some m.cls := findClass_of_methodNamed Bd.named
  have hnm := (name_of_methodNamed Bd.named Bd.method).1
  have hlk : meth.locks = false := BodyLoose.notSynchronized Bd
  have X0 : Stand p l e ({ frames := 0, cells := 0, slots := 0, locals := 0 } : Room) s m #[(.ref sx)] below meth c s₁ [] 0 0 := Stand.of_body Bd
  have e0 : s₁.heap = h0 := by rw [← hh, Bd.state]; rfl
  have N0 := Fr.nil n0
  have K0 : Keep h0 h0 [] := Keep.refl _ _
  have ww : ∀ (k : Nat) {d : Jvm.Cond}, tables_1[k]? = some d → d.before av0 Z = true := fun k d h => hw d (List.mem_of_getElem? h)
  show ownEnds p e below s (Q_isEmpty3 Z sx t gb h0 n0) ({ frames := 0, cells := 0, slots := 0, locals := 0 } : Room).cells ({ frames := 0, cells := 0, slots := 0, locals := 0 } : Room).slots s₁ (entryFrame m #[(.ref sx)] 1)
  refine ownCast (own_ef11_isEmpty3 m sx) ?_
  refine ow_aloadN (q := 1) X0 hx (hb hby own_d11_0) rfl rfl rfl ?_
  obtain ⟨T1, X1, e1, st1⟩ := getF X0 hx hZ hown (host := "") (Or.inl (ww 36 rfl)) Via.refl e0 HF0 (g := (mkF m 1 #[rv sx] [(.ref sx)])) rfl rfl (hb hby own_d11_1)
  refine ownGo (T' := T1) (f' := (mkF m 4 #[rv sx] [(.ref t)])) (st1) ?_
  refine ownGo (T' := T1) (f' := (mkF m 5 #[rv sx] [(.int (3 : Int32))])) (ownLenI HF1 X1 hx hZ e1 (z := (3 : Int32)) (by decide) (g := (mkF m 4 #[rv sx] [(.ref t)])) rfl rfl (hb hby own_d11_4)) ?_
  refine ow_ifYes (q := 12) X1 hx (hb hby own_d11_5) (Jvm.Free.XT.i0_ne_t (by decide)) (by decide) (by decide) ?_
  refine ow_iconst (q := 13) X1 hx (0 : Int32) (hb hby own_d11_12) rfl rfl ?_
  refine ownRetN X1 hx (r := (0 : Int32)) (Or.inl rfl) Bd.returns (hb hby own_d11_13) hlk (by decide) (by decide) (by decide) ?_
  rw [e1]
  exact ⟨rfl, N0, rfl⟩
theorem own_ef12_length3 (m : MethodId) (sx : Addr) : entryFrame m #[(.ref sx)] 1 = mkF m 0 #[rv sx] [] := by first | (simp [entryFrame, mkF, argsToLocals, Value.category]; done) | rfl
def Q_length3 (Z : State) (sx : Addr) (t : Addr) (gb : Nat → Int32) (zc : Int32) (h0 : Heap) (n0 : Nat) (v : Option Value) (h : Heap) (L : List Loc) : Prop := v = some (.int (3 : Int32)) ∧ Fr n0 L ∧ h = h0
set_option maxRecDepth 65536 in
set_option maxHeartbeats 40000000 in
theorem rm_length3 (l : Launch) (Z : State) (av0 : Array Value) (hw : ∀ d ∈ tables_1, d.before av0 Z = true) (ws : List Jvm.Cond) (sx : Addr) (t : Addr) (gb : Nat → Int32) (zc : Int32) (h0 : Heap) (n0 : Nat) (Z0 : n0 ≤ h0.size) (HF0 : Exa Z h0 sx "java/lang/String") (HF1 : Fld Z h0 sx "java/lang/String" "value" "[B" (.ref t)) (HF2 : Fld Z h0 sx "java/lang/String" "coder" "B" (.int (0 : Int32))) (HF3 : ownAI Z h0 t .byte 3 gb) (HF4 : Sta Z h0 "java/lang/String" "COMPACT_STRINGS" "Z" (.int zc)) (hz : ¬ zc = (0 : Int32)) :
    MetFree l (⟨"java/lang/String", "length", "()I"⟩ : MethodName) (head1 (Jvm.Cond.code (⟨"java/lang/String", "length", "()I"⟩ : MethodName) jdk_42_method_54_code 1 (some .int) :: ws) ({ frames := 1, cells := 0, slots := 0, locals := 13 } : Room)) (fun a U => a = #[(.ref sx)] ∧ Z.Warmed39 U.vm ∧ U.heap = h0) (fun _ _ _ _ _ => True) (fun _ U o U' => ∃ v L, o = .returned v ∧ (Q_length3 Z sx t gb zc h0 n0) v U'.heap L ∧ FrameEnd U o U' L ({ frames := 1, cells := 0, slots := 0, locals := 13 } : Room).cells ({ frames := 1, cells := 0, slots := 0, locals := 13 } : Room).slots) := by
  refine MetFree.of_bodySF (plainFor_of_name own_pn_String) hisR ?_
  intro p e s m args below meth c s₁ Bd hml0 hP hK
  obtain ⟨rfl, hZ, hh⟩ := hP
  have hx := Bd.exec
  have hby := Bd.bytes
  have hml : c.maxLocals = 1 := hml0
  have hown : s.vm.findClass "java/lang/String" = some m.cls := findClass_of_methodNamed Bd.named
  have hnm := (name_of_methodNamed Bd.named Bd.method).1
  have hlk : meth.locks = false := BodyLoose.notSynchronized Bd
  have X0 : Stand p l e ({ frames := 1, cells := 0, slots := 0, locals := 13 } : Room) s m #[(.ref sx)] below meth c s₁ [] 0 0 := Stand.of_body Bd
  have e0 : s₁.heap = h0 := by rw [← hh, Bd.state]; rfl
  have N0 := Fr.nil n0
  have K0 : Keep h0 h0 [] := Keep.refl _ _
  have ww : ∀ (k : Nat) {d : Jvm.Cond}, tables_1[k]? = some d → d.before av0 Z = true := fun k d h => hw d (List.mem_of_getElem? h)
  show ownEnds p e below s (Q_length3 Z sx t gb zc h0 n0) ({ frames := 1, cells := 0, slots := 0, locals := 13 } : Room).cells ({ frames := 1, cells := 0, slots := 0, locals := 13 } : Room).slots s₁ (entryFrame m #[(.ref sx)] 1)
  refine ownCast (own_ef12_length3 m sx) ?_
  refine ow_aloadN (q := 1) X0 hx (hb hby own_d12_0) rfl rfl rfl ?_
  obtain ⟨T1, X1, e1, st1⟩ := getF X0 hx hZ hown (host := "") (Or.inl (ww 36 rfl)) Via.refl e0 HF1 (g := (mkF m 1 #[rv sx] [(.ref sx)])) rfl rfl (hb hby own_d12_1)
  refine ownGo (T' := T1) (f' := (mkF m 4 #[rv sx] [(.ref t)])) (st1) ?_
  refine ownGo (T' := T1) (f' := (mkF m 5 #[rv sx] [(.int (3 : Int32))])) (ownLenI HF3 X1 hx hZ e1 (z := (3 : Int32)) (by decide) (g := (mkF m 4 #[rv sx] [(.ref t)])) rfl rfl (hb hby own_d12_4)) ?_
  refine ow_aloadN (q := 6) X1 hx (hb hby own_d12_5) rfl rfl rfl ?_
  obtain ⟨cq2, kq2, q2a, q2b, q2c⟩ := isOf hZ e1 HF0
  obtain ⟨_, _, ⟨T2, L2, k2, n2⟩, -, X2, ⟨Lc2, hQ2, l2, y2, z2⟩, st2⟩ := X1.virtualBack hx (y := (⟨"java/lang/String", "coder", "()B"⟩ : MethodName)) (z := (⟨"java/lang/String", "coder", "()B"⟩ : MethodName)) hown (mvT hZ (ww 59 rfl)) (mvT hZ (ww 60 rfl)) (notFace_of_selects (args := #[]) (mvT hZ (ww 62 rfl))) (mvT hZ (ww 62 rfl)) (mvT hZ (ww 61 rfl)) (by decide) (backOf (W := 1) (rm_coder l Z av0 hw [] sx zc h0 n0 (Nat.le_trans Z0 K0.1) HF2 HF4 hz) hZ (ww 63 rfl) (ww 11 rfl) (by decide) (by decide)) q2a q2c (g := (mkF m 6 #[rv sx] [(.ref sx), (.int (3 : Int32))])) rfl (by rw [hml]; rfl) (Steps.refl _) (argsL := []) (rest := [(.int (3 : Int32))]) (lenOf own_pd2 rfl) rfl (by show 2 * 0 + _ ≤ _; exact Nat.le_of_eq rfl) (hb hby own_d12_6) (fun _ _ => ⟨rfl, e1, (by decide : 0 + 0 ≤ _), (by decide : 0 + 0 ≤ _)⟩)
  dsimp only [Pt.U, Pt.locs, Pt.cells, Pt.slots] at X2 l2 y2 z2 st2 hQ2
  subst l2 y2 z2
  obtain ⟨rfl, N2q, e2⟩ := hQ2
  have N2 := Fr.app N0 N2q
  refine ownRun (T' := T2) (f' := (mkF m 9 #[rv sx] [(.int (0 : Int32)), (.int (3 : Int32))])) st2 ?_
  refine ow_ishr (q := 10) X2 hx (3 : Int32) (hb hby own_d12_9) rfl (by decide) ?_
  refine ownRetI X2 hx Bd.returns (hb hby own_d12_10) hlk (by decide) (by decide) ?_
  rw [e2]
  exact ⟨rfl, N2, rfl⟩
theorem own_ef16_lat3 (m : MethodId) (t : Addr) (p1 : Int32) : entryFrame m #[(.ref t), (.int p1)] 2 = mkF m 0 #[rv t, iv p1] [] := by first | (simp [entryFrame, mkF, argsToLocals, Value.category]; done) | rfl
def Q_lat3 (Z : State) (t : Addr) (p1 : Int32) (gb : Nat → Int32) (fm : Value) (h0 : Heap) (n0 : Nat) (v : Option Value) (h : Heap) (L : List Loc) : Prop := ∃ (r : Int32), v = some (.int r) ∧ Fr n0 L ∧ h = h0 ∧ (own_okb r = true)
set_option maxRecDepth 65536 in
set_option maxHeartbeats 40000000 in
theorem rm_lat3 (l : Launch) (Z : State) (av0 : Array Value) (hw : ∀ d ∈ tables_1, d.before av0 Z = true) (ws : List Jvm.Cond) (t : Addr) (p1 : Int32) (gb : Nat → Int32) (fm : Value) (h0 : Heap) (n0 : Nat) (Z0 : n0 ≤ h0.size) (HF0 : ownAI Z h0 t .byte 3 gb) (HF1 : Sta Z h0 "jdk/internal/util/Preconditions" "SIOOBE_FORMATTER" "Ljava/util/function/BiFunction;" fm) (hlo : ¬ p1 < (0 : Int32)) (hhi : p1 < (3 : Int32)) (hr_fm : fm.isRef = true) (hok : ∀ k, k < 3 → own_okb (gb k) = true) :
    MetFree l (⟨"java/lang/StringLatin1", "charAt", "([BI)C"⟩ : MethodName) (head1 (Jvm.Cond.code (⟨"java/lang/StringLatin1", "charAt", "([BI)C"⟩ : MethodName) jdk_43_method_2_code 2 (some .char) :: ws) ({ frames := 2, cells := 0, slots := 0, locals := 27 } : Room)) (fun a U => a = #[(.ref t), (.int p1)] ∧ Z.Warmed39 U.vm ∧ U.heap = h0) (fun _ _ _ _ _ => True) (fun _ U o U' => ∃ v L, o = .returned v ∧ (Q_lat3 Z t p1 gb fm h0 n0) v U'.heap L ∧ FrameEnd U o U' L ({ frames := 2, cells := 0, slots := 0, locals := 27 } : Room).cells ({ frames := 2, cells := 0, slots := 0, locals := 27 } : Room).slots) := by
  refine MetFree.of_bodySF (plainFor_of_name own_pn_StringLatin1) hisR ?_
  intro p e s m args below meth c s₁ Bd hml0 hP hK
  obtain ⟨rfl, hZ, hh⟩ := hP
  have hx := Bd.exec
  have hby := Bd.bytes
  have hml : c.maxLocals = 2 := hml0
  have hown : s.vm.findClass "java/lang/StringLatin1" = some m.cls := findClass_of_methodNamed Bd.named
  have hnm := (name_of_methodNamed Bd.named Bd.method).1
  have hlk : meth.locks = false := BodyLoose.notSynchronized Bd
  have X0 : Stand p l e ({ frames := 2, cells := 0, slots := 0, locals := 27 } : Room) s m #[(.ref t), (.int p1)] below meth c s₁ [] 0 0 := Stand.of_body Bd
  have e0 : s₁.heap = h0 := by rw [← hh, Bd.state]; rfl
  have N0 := Fr.nil n0
  have K0 : Keep h0 h0 [] := Keep.refl _ _
  have ww : ∀ (k : Nat) {d : Jvm.Cond}, tables_1[k]? = some d → d.before av0 Z = true := fun k d h => hw d (List.mem_of_getElem? h)
  show ownEnds p e below s (Q_lat3 Z t p1 gb fm h0 n0) ({ frames := 2, cells := 0, slots := 0, locals := 27 } : Room).cells ({ frames := 2, cells := 0, slots := 0, locals := 27 } : Room).slots s₁ (entryFrame m #[(.ref t), (.int p1)] 2)
  refine ownCast (own_ef16_lat3 m t p1) ?_
  refine ow_iloadN (q := 1) X0 hx (hb hby own_d16_0) rfl rfl ?_
  refine ow_aloadN (q := 2) X0 hx (hb hby own_d16_1) rfl rfl rfl ?_
  refine ownGo (T' := s₁) (f' := (mkF m 3 #[rv t, iv p1] [(.int (3 : Int32)), (.int p1)])) (ownLenI HF0 X0 hx hZ e0 (z := (3 : Int32)) (by decide) (g := (mkF m 2 #[rv t, iv p1] [(.ref t), (.int p1)])) rfl rfl (hb hby own_d16_2)) ?_
  obtain ⟨_, _, ⟨T1, L1, k1, n1⟩, -, X1, ⟨Lc1, hQ1, l1, y1, z1⟩, st1⟩ := Jvm.LawKit.callS X0 hx (y := (⟨"java/lang/String", "checkIndex", "(II)V"⟩ : MethodName)) hown (mvT hZ (ww 78 rfl)) (mvT hZ (ww 79 rfl)) (mvT hZ (ww 11 rfl)) (mvT hZ (ww 80 rfl)) (by decide) (backOf (W := 0) (rm_scheck l Z av0 hw [] p1 (3 : Int32) fm h0 n0 (Nat.le_trans Z0 K0.1) HF1 hlo hhi hr_fm) hZ (ww 80 rfl) (ww 11 rfl) (by decide) (by decide)) (g := (mkF m 3 #[rv t, iv p1] [(.int (3 : Int32)), (.int p1)])) rfl (by rw [hml]; rfl) (argsL := [(.int p1), (.int (3 : Int32))]) (rest := []) (lenOf own_pd3 rfl) rfl (by show 2 * 0 + _ ≤ _; exact Nat.le_of_eq rfl) (hb hby own_d16_3) (fun _ _ => ⟨rfl, e0, (by decide : 0 + 0 ≤ _), (by decide : 0 + 0 ≤ _)⟩)
  dsimp only [Pt.U, Pt.locs, Pt.cells, Pt.slots] at X1 l1 y1 z1 st1 hQ1
  subst l1 y1 z1
  obtain ⟨rfl, N1q, e1⟩ := hQ1
  have N1 := Fr.app N0 N1q
  refine ownGo (T' := T1) (f' := (mkF m 6 #[rv t, iv p1] [])) (st1) ?_
  refine ow_aloadN (q := 7) X1 hx (hb hby own_d16_6) rfl rfl rfl ?_
  refine ow_iloadN (q := 8) X1 hx (hb hby own_d16_7) rfl rfl ?_
  refine ownGo (T' := T1) (f' := (mkF m 9 #[rv t, iv p1] [(.int (gb p1.toNatClampNeg))])) (ownBaload HF0 X1 hx hZ e1 (j := p1) (own_in hlo hhi rfl) (g := (mkF m 8 #[rv t, iv p1] [(.int p1), (.ref t)])) rfl rfl (hb hby own_d16_8)) ?_
  generalize hv_v2 : (gb p1.toNatClampNeg) = v2
  refine ow_sipush (q := 12) X1 hx (255 : Int32) (hb hby own_d16_9) rfl rfl ?_
  refine ow_iand (q := 13) X1 hx _ (hb hby own_d16_12) rfl rfl ?_
  refine ow_i2c (q := 14) X1 hx _ (hb hby own_d16_13) rfl rfl ?_
  refine ownRetN X1 hx (r := v2) (Or.inr (Or.inr (Or.inl rfl))) Bd.returns (hb hby own_d16_14) hlk (by decide) (by decide) (own_ch (own_okv hv_v2 (hok _ (own_in2 hlo hhi rfl)))) ?_
  rw [e1]
  refine ⟨v2, rfl, N1, rfl, ?_⟩
  exact own_okv hv_v2 (hok _ (own_in2 hlo hhi rfl))
theorem own_ef14_charAt3 (m : MethodId) (sx : Addr) (p1 : Int32) : entryFrame m #[(.ref sx), (.int p1)] 2 = mkF m 0 #[rv sx, iv p1] [] := by first | (simp [entryFrame, mkF, argsToLocals, Value.category]; done) | rfl
def Q_charAt3 (Z : State) (sx : Addr) (p1 : Int32) (t : Addr) (gb : Nat → Int32) (zc : Int32) (fm : Value) (h0 : Heap) (n0 : Nat) (v : Option Value) (h : Heap) (L : List Loc) : Prop := ∃ (r : Int32), v = some (.int r) ∧ Fr n0 L ∧ h = h0 ∧ (own_okb r = true)
set_option maxRecDepth 65536 in
set_option maxHeartbeats 40000000 in
theorem rm_charAt3 (l : Launch) (Z : State) (av0 : Array Value) (hw : ∀ d ∈ tables_1, d.before av0 Z = true) (ws : List Jvm.Cond) (sx : Addr) (p1 : Int32) (t : Addr) (gb : Nat → Int32) (zc : Int32) (fm : Value) (h0 : Heap) (n0 : Nat) (Z0 : n0 ≤ h0.size) (HF0 : Exa Z h0 sx "java/lang/String") (HF1 : Fld Z h0 sx "java/lang/String" "value" "[B" (.ref t)) (HF2 : Fld Z h0 sx "java/lang/String" "coder" "B" (.int (0 : Int32))) (HF3 : ownAI Z h0 t .byte 3 gb) (HF4 : Sta Z h0 "java/lang/String" "COMPACT_STRINGS" "Z" (.int zc)) (HF5 : Sta Z h0 "jdk/internal/util/Preconditions" "SIOOBE_FORMATTER" "Ljava/util/function/BiFunction;" fm) (hlo : ¬ p1 < (0 : Int32)) (hhi : p1 < (3 : Int32)) (hz : ¬ zc = (0 : Int32)) (hr_fm : fm.isRef = true) (hok : ∀ k, k < 3 → own_okb (gb k) = true) :
    MetFree l (⟨"java/lang/String", "charAt", "(I)C"⟩ : MethodName) (head1 (Jvm.Cond.code (⟨"java/lang/String", "charAt", "(I)C"⟩ : MethodName) jdk_42_method_56_code 2 (some .char) :: ws) ({ frames := 3, cells := 0, slots := 0, locals := 40 } : Room)) (fun a U => a = #[(.ref sx), (.int p1)] ∧ Z.Warmed39 U.vm ∧ U.heap = h0) (fun _ _ _ _ _ => True) (fun _ U o U' => ∃ v L, o = .returned v ∧ (Q_charAt3 Z sx p1 t gb zc fm h0 n0) v U'.heap L ∧ FrameEnd U o U' L ({ frames := 3, cells := 0, slots := 0, locals := 40 } : Room).cells ({ frames := 3, cells := 0, slots := 0, locals := 40 } : Room).slots) := by
  refine MetFree.of_bodySF (plainFor_of_name own_pn_String) hisR ?_
  intro p e s m args below meth c s₁ Bd hml0 hP hK
  obtain ⟨rfl, hZ, hh⟩ := hP
  have hx := Bd.exec
  have hby := Bd.bytes
  have hml : c.maxLocals = 2 := hml0
  have hown : s.vm.findClass "java/lang/String" = some m.cls := findClass_of_methodNamed Bd.named
  have hnm := (name_of_methodNamed Bd.named Bd.method).1
  have hlk : meth.locks = false := BodyLoose.notSynchronized Bd
  have X0 : Stand p l e ({ frames := 3, cells := 0, slots := 0, locals := 40 } : Room) s m #[(.ref sx), (.int p1)] below meth c s₁ [] 0 0 := Stand.of_body Bd
  have e0 : s₁.heap = h0 := by rw [← hh, Bd.state]; rfl
  have N0 := Fr.nil n0
  have K0 : Keep h0 h0 [] := Keep.refl _ _
  have ww : ∀ (k : Nat) {d : Jvm.Cond}, tables_1[k]? = some d → d.before av0 Z = true := fun k d h => hw d (List.mem_of_getElem? h)
  show ownEnds p e below s (Q_charAt3 Z sx p1 t gb zc fm h0 n0) ({ frames := 3, cells := 0, slots := 0, locals := 40 } : Room).cells ({ frames := 3, cells := 0, slots := 0, locals := 40 } : Room).slots s₁ (entryFrame m #[(.ref sx), (.int p1)] 2)
  refine ownCast (own_ef14_charAt3 m sx p1) ?_
  refine ow_aloadN (q := 1) X0 hx (hb hby own_d14_0) rfl rfl rfl ?_
  obtain ⟨cq1, kq1, q1a, q1b, q1c⟩ := isOf hZ e0 HF0
  obtain ⟨_, _, ⟨T1, L1, k1, n1⟩, -, X1, ⟨Lc1, hQ1, l1, y1, z1⟩, st1⟩ := X0.virtualBack hx (y := (⟨"java/lang/String", "isLatin1", "()Z"⟩ : MethodName)) (z := (⟨"java/lang/String", "isLatin1", "()Z"⟩ : MethodName)) hown (mvT hZ (ww 69 rfl)) (mvT hZ (ww 70 rfl)) (notFace_of_selects (args := #[]) (mvT hZ (ww 72 rfl))) (mvT hZ (ww 72 rfl)) (mvT hZ (ww 71 rfl)) (by decide) (backOf (W := 0) (rm_isLatin1 l Z av0 hw [] sx zc h0 n0 (Nat.le_trans Z0 K0.1) HF2 HF4 hz) hZ (ww 73 rfl) (ww 11 rfl) (by decide) (by decide)) q1a q1c (g := (mkF m 1 #[rv sx, iv p1] [(.ref sx)])) rfl (by rw [hml]; rfl) (Steps.refl _) (argsL := []) (rest := []) (lenOf own_pd4 rfl) rfl (by show 2 * 0 + _ ≤ _; exact Nat.le_of_eq rfl) (hb hby own_d14_1) (fun _ _ => ⟨rfl, e0, (by decide : 0 + 0 ≤ _), (by decide : 0 + 0 ≤ _)⟩)
  dsimp only [Pt.U, Pt.locs, Pt.cells, Pt.slots] at X1 l1 y1 z1 st1 hQ1
  subst l1 y1 z1
  obtain ⟨rfl, N1q, e1⟩ := hQ1
  have N1 := Fr.app N0 N1q
  refine ownRun (T' := T1) (f' := (mkF m 4 #[rv sx, iv p1] [(.int (1 : Int32))])) st1 ?_
  refine ow_ifNo (q := 7) X1 hx (hb hby own_d14_4) rfl (Jvm.Free.XT.i0_eq_f (by decide)) ?_
  refine ow_aloadN (q := 8) X1 hx (hb hby own_d14_7) rfl rfl rfl ?_
  obtain ⟨T2, X2, e2, st2⟩ := getF X1 hx hZ hown (host := "") (Or.inl (ww 36 rfl)) Via.refl e1 HF1 (g := (mkF m 8 #[rv sx, iv p1] [(.ref sx)])) rfl rfl (hb hby own_d14_8)
  refine ownGo (T' := T2) (f' := (mkF m 11 #[rv sx, iv p1] [(.ref t)])) (st2) ?_
  refine ow_iloadN (q := 12) X2 hx (hb hby own_d14_11) rfl rfl ?_
  obtain ⟨_, _, ⟨T3, L3, k3, n3⟩, -, X3, ⟨Lc3, hQ3, l3, y3, z3⟩, st3⟩ := Jvm.LawKit.callS X2 hx (y := (⟨"java/lang/StringLatin1", "charAt", "([BI)C"⟩ : MethodName)) hown (mvT hZ (ww 74 rfl)) (mvT hZ (ww 75 rfl)) (mvT hZ (ww 76 rfl)) (mvT hZ (ww 77 rfl)) (by decide) (backOf (W := 0) (rm_lat3 l Z av0 hw [] t p1 gb fm h0 n0 (Nat.le_trans Z0 K0.1) HF3 HF5 hlo hhi hr_fm hok) hZ (ww 77 rfl) (ww 76 rfl) (by decide) (by decide)) (g := (mkF m 12 #[rv sx, iv p1] [(.int p1), (.ref t)])) rfl (by rw [hml]; rfl) (argsL := [(.ref t), (.int p1)]) (rest := []) (lenOf own_pd5 rfl) rfl (by show 2 * 0 + _ ≤ _; exact Nat.le_of_eq rfl) (hb hby own_d14_12) (fun _ _ => ⟨rfl, e2, (by decide : 0 + 0 ≤ _), (by decide : 0 + 0 ≤ _)⟩)
  dsimp only [Pt.U, Pt.locs, Pt.cells, Pt.slots] at X3 l3 y3 z3 st3 hQ3
  subst l3 y3 z3
  obtain ⟨r3, rfl, N3q, e3, hp3⟩ := hQ3
  have N3 := Fr.app N1 N3q
  refine ownGo (T' := T3) (f' := (mkF m 15 #[rv sx, iv p1] [(.int r3)])) (st3) ?_
  refine ownRetN X3 hx (r := r3) (Or.inr (Or.inr (Or.inl rfl))) Bd.returns (hb hby own_d14_15) hlk (by decide) (by decide) (own_nar hp3) ?_
  rw [e3]
  refine ⟨r3, rfl, N3, rfl, ?_⟩
  exact hp3
theorem own_ef9_valid3 (m : MethodId) (sx : Addr) : entryFrame m #[(.ref sx)] 4 = mkF m 0 #[rv sx, .unset, .unset, .unset] [] := by first | (simp [entryFrame, mkF, argsToLocals, Value.category]; done) | rfl
def Q_valid3 (Z : State) (sx : Addr) (t : Addr) (gb : Nat → Int32) (zc : Int32) (fm : Value) (h0 : Heap) (n0 : Nat) (v : Option Value) (h : Heap) (L : List Loc) : Prop := v = some (.ref sx) ∧ Fr n0 L ∧ Keep h0 h []
set_option maxRecDepth 65536 in
set_option maxHeartbeats 40000000 in
theorem rm_valid3 (l : Launch) (Z : State) (av0 : Array Value) (hw : ∀ d ∈ tables_1, d.before av0 Z = true) (ws : List Jvm.Cond) (sx : Addr) (t : Addr) (gb : Nat → Int32) (zc : Int32) (fm : Value) (h0 : Heap) (n0 : Nat) (Z0 : n0 ≤ h0.size) (HF0 : Exa Z h0 sx "java/lang/String") (HF1 : Fld Z h0 sx "java/lang/String" "value" "[B" (.ref t)) (HF2 : Fld Z h0 sx "java/lang/String" "coder" "B" (.int (0 : Int32))) (HF3 : ownAI Z h0 t .byte 3 gb) (HF4 : Sta Z h0 "java/lang/String" "COMPACT_STRINGS" "Z" (.int zc)) (HF5 : Sta Z h0 "jdk/internal/util/Preconditions" "SIOOBE_FORMATTER" "Ljava/util/function/BiFunction;" fm) (hz : ¬ zc = (0 : Int32)) (hr_fm : fm.isRef = true) (hok : ∀ k, k < 3 → own_okb (gb k) = true) :
    MetFree l (⟨"com/example/un1son/un1son/Candidate", "requireValidId", "(Ljava/lang/String;)Ljava/lang/String;"⟩ : MethodName) (head1 (Jvm.Cond.code (⟨"com/example/un1son/un1son/Candidate", "requireValidId", "(Ljava/lang/String;)Ljava/lang/String;"⟩ : MethodName) prog_1_method_2_code 4 (some (.object "java/lang/String")) :: ws) ({ frames := 4, cells := 2, slots := 12, locals := 53 } : Room)) (fun a U => a = #[(.ref sx)] ∧ Z.Warmed39 U.vm ∧ U.heap = h0) (fun _ _ _ _ _ => True) (fun _ U o U' => ∃ v L, o = .returned v ∧ (Q_valid3 Z sx t gb zc fm h0 n0) v U'.heap L ∧ ReturnedEndW U o U' L ({ frames := 4, cells := 2, slots := 12, locals := 53 } : Room).cells ({ frames := 4, cells := 2, slots := 12, locals := 53 } : Room).slots) := by
  refine MetFree.of_bodySF (plainFor_of_name own_pn_Candidate) hisR ?_
  intro p e s m args below meth c s₁ Bd hml0 hP hK
  obtain ⟨rfl, hZ, hh⟩ := hP
  have hx := Bd.exec
  have hby := Bd.bytes
  have hml : c.maxLocals = 4 := hml0
  have hown : s.vm.findClass "com/example/un1son/un1son/Candidate" = some m.cls := findClass_of_methodNamed Bd.named
  have hnm := (name_of_methodNamed Bd.named Bd.method).1
  have hlk : meth.locks = false := BodyLoose.notSynchronized Bd
  have X0 : Stand p l e ({ frames := 4, cells := 2, slots := 12, locals := 53 } : Room) s m #[(.ref sx)] below meth c s₁ [] 0 0 := Stand.of_body Bd
  have e0 : s₁.heap = h0 := by rw [← hh, Bd.state]; rfl
  have N0 := Fr.nil n0
  have K0 : Keep h0 h0 [] := Keep.refl _ _
  have ww : ∀ (k : Nat) {d : Jvm.Cond}, tables_1[k]? = some d → d.before av0 Z = true := fun k d h => hw d (List.mem_of_getElem? h)
  have wStr : ∀ d ∈ Bundle.stringAtoms, d.before av0 Z = true := fun d hd => hw d ((by decide +kernel : ∀ d ∈ Bundle.stringAtoms, d ∈ tables_1) d hd)
  show ownEndsW p e below s (Q_valid3 Z sx t gb zc fm h0 n0) ({ frames := 4, cells := 2, slots := 12, locals := 53 } : Room).cells ({ frames := 4, cells := 2, slots := 12, locals := 53 } : Room).slots s₁ (entryFrame m #[(.ref sx)] 4)
  refine ownCastW (own_ef9_valid3 m sx) ?_
  refine ow_aloadNW (q := 1) X0 hx (hb hby own_d9_0) rfl rfl rfl ?_
  obtain ⟨cs1, T1, h1, X1, hS1, e1, E1, st1⟩ := ownLdc X0 hx hZ hown (ww 42 rfl) wStr e0 (g := (mkF m 1 #[rv sx, .unset, .unset, .unset] [(.ref sx)])) rfl (hb hby own_d9_1) (n := 8) (by decide) (by decide) (by decide) (by decide)
  have K1 : Keep h0 h1 [] := K0.ext E1
  have F2 : Exa Z h1 sx "java/lang/String" := HF0.ext E1
  have F3 : Fld Z h1 sx "java/lang/String" "value" "[B" (.ref t) := HF1.ext E1
  have F4 : Fld Z h1 sx "java/lang/String" "coder" "B" (.int (0 : Int32)) := HF2.ext E1
  have F5 : ownAI Z h1 t .byte 3 gb := HF3.ext E1
  have F6 : Sta Z h1 "java/lang/String" "COMPACT_STRINGS" "Z" (.int zc) := HF4.ext E1
  have F7 : Sta Z h1 "jdk/internal/util/Preconditions" "SIOOBE_FORMATTER" "Ljava/util/function/BiFunction;" fm := HF5.ext E1
  refine ownGoW (T' := T1) (f' := (mkF m 3 #[rv sx, .unset, .unset, .unset] [(.ref cs1), (.ref sx)])) (st1) ?_
  refine ownRebaseW hZ hown hS1 X1 ?_
  intro s X1 hZ hown
  obtain ⟨_, _, ⟨T8, L8, k8, n8⟩, -, X8, ⟨Lc8, hQ8, l8, y8, z8⟩, st8⟩ := Jvm.LawKit.callS X1 hx (y := (⟨"java/util/Objects", "requireNonNull", "(Ljava/lang/Object;Ljava/lang/String;)Ljava/lang/Object;"⟩ : MethodName)) hown (mvT hZ (ww 45 rfl)) (mvT hZ (ww 46 rfl)) (mvT hZ (ww 47 rfl)) (mvT hZ (ww 48 rfl)) (by decide) (backOf (W := 0) (rm_rnn l Z av0 hw [] sx cs1 h1 n0 (Nat.le_trans Z0 K1.1) ) hZ (ww 48 rfl) (ww 47 rfl) (by decide) (by decide)) (g := (mkF m 3 #[rv sx, .unset, .unset, .unset] [(.ref cs1), (.ref sx)])) rfl (by rw [hml]; rfl) (argsL := [(.ref sx), (.ref cs1)]) (rest := []) (lenOf own_pd6 rfl) rfl (by show 2 * 0 + _ ≤ _; exact Nat.le_of_eq rfl) (hb hby own_d9_3) (fun _ _ => ⟨rfl, e1, (by decide : 2 + 0 ≤ _), (by decide : 12 + 0 ≤ _)⟩)
  dsimp only [Pt.U, Pt.locs, Pt.cells, Pt.slots] at X8 l8 y8 z8 st8 hQ8
  subst l8 y8 z8
  obtain ⟨rfl, N8q, e8⟩ := hQ8
  have N8 := Fr.app N0 N8q
  refine ownGoW (T' := T8) (f' := (mkF m 6 #[rv sx, .unset, .unset, .unset] [(.ref sx)])) (st8) ?_
  refine ow_popW (q := 7) X8 hx (hb hby own_d9_6) rfl rfl ?_
  refine ow_aloadNW (q := 8) X8 hx (hb hby own_d9_7) rfl rfl rfl ?_
  obtain ⟨cq9, kq9, q9a, q9b, q9c⟩ := isOf hZ e8 F2
  obtain ⟨_, _, ⟨T9, L9, k9, n9⟩, -, X9, ⟨Lc9, hQ9, l9, y9, z9⟩, st9⟩ := X8.virtualBack hx (y := (⟨"java/lang/String", "isEmpty", "()Z"⟩ : MethodName)) (z := (⟨"java/lang/String", "isEmpty", "()Z"⟩ : MethodName)) hown (mvT hZ (ww 49 rfl)) (mvT hZ (ww 50 rfl)) (notFace_of_selects (args := #[]) (mvT hZ (ww 52 rfl))) (mvT hZ (ww 52 rfl)) (mvT hZ (ww 51 rfl)) (by decide) (backOf (W := 0) (rm_isEmpty3 l Z av0 hw [] sx t gb h1 n0 (Nat.le_trans Z0 K1.1) F3 F5) hZ (ww 53 rfl) (ww 11 rfl) (by decide) (by decide)) q9a q9c (g := (mkF m 8 #[rv sx, .unset, .unset, .unset] [(.ref sx)])) rfl (by rw [hml]; rfl) (Steps.refl _) (argsL := []) (rest := []) (lenOf own_pd4 rfl) rfl (by show 2 * 0 + _ ≤ _; exact Nat.le_of_eq rfl) (hb hby own_d9_8) (fun _ _ => ⟨rfl, e8, (by decide : 2 + 0 ≤ _), (by decide : 12 + 0 ≤ _)⟩)
  dsimp only [Pt.U, Pt.locs, Pt.cells, Pt.slots] at X9 l9 y9 z9 st9 hQ9
  subst l9 y9 z9
  obtain ⟨rfl, N9q, e9⟩ := hQ9
  have N9 := Fr.app N8 N9q
  refine ownRunW (T' := T9) (f' := (mkF m 11 #[rv sx, .unset, .unset, .unset] [(.int (0 : Int32))])) st9 ?_
  refine ow_ifNoW (q := 14) X9 hx (hb hby own_d9_11) rfl (Jvm.Free.XT.i0_ne_f (by decide)) ?_
  refine ow_aloadNW (q := 15) X9 hx (hb hby own_d9_14) rfl rfl rfl ?_
  obtain ⟨cq10, kq10, q10a, q10b, q10c⟩ := isOf hZ e9 F2
  obtain ⟨_, _, ⟨T10, L10, k10, n10⟩, -, X10, ⟨Lc10, hQ10, l10, y10, z10⟩, st10⟩ := X9.virtualBack hx (y := (⟨"java/lang/String", "length", "()I"⟩ : MethodName)) (z := (⟨"java/lang/String", "length", "()I"⟩ : MethodName)) hown (mvT hZ (ww 54 rfl)) (mvT hZ (ww 55 rfl)) (notFace_of_selects (args := #[]) (mvT hZ (ww 57 rfl))) (mvT hZ (ww 57 rfl)) (mvT hZ (ww 56 rfl)) (by decide) (backOf (W := 0) (rm_length3 l Z av0 hw [] sx t gb zc h1 n0 (Nat.le_trans Z0 K1.1) F2 F3 F4 F5 F6 hz) hZ (ww 58 rfl) (ww 11 rfl) (by decide) (by decide)) q10a q10c (g := (mkF m 15 #[rv sx, .unset, .unset, .unset] [(.ref sx)])) rfl (by rw [hml]; rfl) (Steps.refl _) (argsL := []) (rest := []) (lenOf own_pd7 rfl) rfl (by show 2 * 0 + _ ≤ _; exact Nat.le_of_eq rfl) (hb hby own_d9_15) (fun _ _ => ⟨rfl, e9, (by decide : 2 + 0 ≤ _), (by decide : 12 + 0 ≤ _)⟩)
  dsimp only [Pt.U, Pt.locs, Pt.cells, Pt.slots] at X10 l10 y10 z10 st10 hQ10
  subst l10 y10 z10
  obtain ⟨rfl, N10q, e10⟩ := hQ10
  have N10 := Fr.app N9 N10q
  refine ownRunW (T' := T10) (f' := (mkF m 18 #[rv sx, .unset, .unset, .unset] [(.int (3 : Int32))])) st10 ?_
  refine ow_bipushW (q := 20) X10 hx (32 : Int32) (hb hby own_d9_18) rfl rfl ?_
  refine ow_icmpYesW (q := 30) X10 hx (hb hby own_d9_20) (Jvm.Free.XT.ii_le_t (by decide)) (by decide) (by decide) ?_
  refine ow_iconstW (q := 31) X10 hx (0 : Int32) (hb hby own_d9_30) rfl rfl ?_
  refine ow_istoreNW (q := 32) X10 hx (L' := #[rv sx, iv (0 : Int32), .unset, .unset]) (hb hby own_d9_31) rfl rfl ?_
  have cut32_11 : ∀ (kk11 : Nat) (i : Int32) (x2 : Int32) (x3 : Int32) (Tc11 : State) (lc11 : List Loc), Stand p l e ({ frames := 4, cells := 2, slots := 12, locals := 53 } : Room) s m #[(.ref sx)] below meth c Tc11 lc11 2 12 → Tc11.heap = h1 → Fr n0 lc11 → 3 - i.toNatClampNeg < kk11 → (¬ i < (0 : Int32)) → (¬ (3 : Int32) < i) → ownEndsW p e below s (fun v hh L => (Q_valid3 Z sx t gb zc fm h0 n0) v hh L ∧ h1.size ≤ hh.size) ({ frames := 4, cells := 2, slots := 12, locals := 53 } : Room).cells ({ frames := 4, cells := 2, slots := 12, locals := 53 } : Room).slots Tc11 (mkF m 32 #[rv sx, iv i, iv x2, iv x3] []) := by
    intro kk11
    induction kk11 with
    | zero => intro i x2 x3 Tc11 lc11 Xc11 ec11 Nc11 hm11 hi0 hi1; exact absurd hm11 (Nat.not_lt_zero _)
    | succ kk11 ih11 =>
      intro i x2 x3 Tc11 lc11 Xc11 ec11 Nc11 hm11 hi0 hi1
      refine ow_iloadNW (q := 33) Xc11 hx (hb hby own_d9_32) rfl rfl ?_
      refine ow_aloadNW (q := 34) Xc11 hx (hb hby own_d9_33) rfl rfl rfl ?_
      obtain ⟨cq12, kq12, q12a, q12b, q12c⟩ := isOf hZ ec11 F2
      obtain ⟨_, _, ⟨T12, L12, k12, n12⟩, -, X12, ⟨Lc12, hQ12, l12, y12, z12⟩, st12⟩ := Xc11.virtualBack hx (y := (⟨"java/lang/String", "length", "()I"⟩ : MethodName)) (z := (⟨"java/lang/String", "length", "()I"⟩ : MethodName)) hown (mvT hZ (ww 54 rfl)) (mvT hZ (ww 55 rfl)) (notFace_of_selects (args := #[]) (mvT hZ (ww 57 rfl))) (mvT hZ (ww 57 rfl)) (mvT hZ (ww 56 rfl)) (by decide) (backOf (W := 1) (rm_length3 l Z av0 hw [] sx t gb zc h1 n0 (Nat.le_trans Z0 K1.1) F2 F3 F4 F5 F6 hz) hZ (ww 58 rfl) (ww 11 rfl) (by decide) (by decide)) q12a q12c (g := (mkF m 34 #[rv sx, iv i, iv x2, iv x3] [(.ref sx), (.int i)])) rfl (by rw [hml]; rfl) (Steps.refl _) (argsL := []) (rest := [(.int i)]) (lenOf own_pd7 rfl) rfl (by show 2 * 0 + _ ≤ _; exact Nat.le_of_eq rfl) (hb hby own_d9_34) (fun _ _ => ⟨rfl, ec11, (by decide : 2 + 0 ≤ _), (by decide : 12 + 0 ≤ _)⟩)
      dsimp only [Pt.U, Pt.locs, Pt.cells, Pt.slots] at X12 l12 y12 z12 st12 hQ12
      subst l12 y12 z12
      obtain ⟨rfl, N12q, e12⟩ := hQ12
      have N12 := Fr.app Nc11 N12q
      refine ownRunW (T' := T12) (f' := (mkF m 37 #[rv sx, iv i, iv x2, iv x3] [(.int (3 : Int32)), (.int i)])) st12 ?_
      by_cases hc37_13 : i < (3 : Int32)
      · refine ow_icmpNoW (q := 40) X12 hx (hb hby own_d9_37) rfl (Jvm.Free.XT.ii_ge_f hc37_13) ?_
        refine ow_aloadNW (q := 41) X12 hx (hb hby own_d9_40) rfl rfl rfl ?_
        refine ow_iloadNW (q := 42) X12 hx (hb hby own_d9_41) rfl rfl ?_
        obtain ⟨cq14, kq14, q14a, q14b, q14c⟩ := isOf hZ e12 F2
        obtain ⟨_, _, ⟨T14, L14, k14, n14⟩, -, X14, ⟨Lc14, hQ14, l14, y14, z14⟩, st14⟩ := X12.virtualBack hx (y := (⟨"java/lang/String", "charAt", "(I)C"⟩ : MethodName)) (z := (⟨"java/lang/String", "charAt", "(I)C"⟩ : MethodName)) hown (mvT hZ (ww 64 rfl)) (mvT hZ (ww 65 rfl)) (notFace_of_selects (args := #[]) (mvT hZ (ww 67 rfl))) (mvT hZ (ww 67 rfl)) (mvT hZ (ww 66 rfl)) (by decide) (backOf (W := 0) (rm_charAt3 l Z av0 hw [] sx i t gb zc fm h1 n0 (Nat.le_trans Z0 K1.1) F2 F3 F4 F5 F6 F7 hi0 hc37_13 hz hr_fm hok) hZ (ww 68 rfl) (ww 11 rfl) (by decide) (by decide)) q14a q14c (g := (mkF m 42 #[rv sx, iv i, iv x2, iv x3] [(.int i), (.ref sx)])) rfl (by rw [hml]; rfl) (Steps.refl _) (argsL := [(.int i)]) (rest := []) (lenOf own_pd0 rfl) rfl (by show 2 * 0 + _ ≤ _; exact Nat.le_of_eq rfl) (hb hby own_d9_42) (fun _ _ => ⟨rfl, e12, (by decide : 2 + 0 ≤ _), (by decide : 12 + 0 ≤ _)⟩)
        dsimp only [Pt.U, Pt.locs, Pt.cells, Pt.slots] at X14 l14 y14 z14 st14 hQ14
        subst l14 y14 z14
        obtain ⟨r14, rfl, N14q, e14, hp14⟩ := hQ14
        have N14 := Fr.app N12 N14q
        refine ownRunW (T' := T14) (f' := (mkF m 45 #[rv sx, iv i, iv x2, iv x3] [(.int r14)])) st14 ?_
        refine ow_istoreNW (q := 46) X14 hx (L' := #[rv sx, iv i, iv r14, iv x3]) (hb hby own_d9_45) rfl rfl ?_
        refine ow_iloadNW (q := 47) X14 hx (hb hby own_d9_46) rfl rfl ?_
        refine ow_bipushW (q := 49) X14 hx (97 : Int32) (hb hby own_d9_47) rfl rfl ?_
        by_cases hc49_15 : r14 < (97 : Int32)
        · refine ow_icmpYesW (q := 58) X14 hx (hb hby own_d9_49) (Jvm.Free.XT.ii_lt_t hc49_15) (by decide) (by decide) ?_
          refine ow_iloadNW (q := 59) X14 hx (hb hby own_d9_58) rfl rfl ?_
          refine ow_bipushW (q := 61) X14 hx (65 : Int32) (hb hby own_d9_59) rfl rfl ?_
          by_cases hc61_16 : r14 < (65 : Int32)
          · refine ow_icmpYesW (q := 70) X14 hx (hb hby own_d9_61) (Jvm.Free.XT.ii_lt_t hc61_16) (by decide) (by decide) ?_
            refine ow_iloadNW (q := 71) X14 hx (hb hby own_d9_70) rfl rfl ?_
            refine ow_bipushW (q := 73) X14 hx (48 : Int32) (hb hby own_d9_71) rfl rfl ?_
            by_cases hc73_17 : r14 < (48 : Int32)
            · refine ow_icmpYesW (q := 82) X14 hx (hb hby own_d9_73) (Jvm.Free.XT.ii_lt_t hc73_17) (by decide) (by decide) ?_
              refine ow_iloadNW (q := 83) X14 hx (hb hby own_d9_82) rfl rfl ?_
              refine ow_bipushW (q := 85) X14 hx (95 : Int32) (hb hby own_d9_83) rfl rfl ?_
              by_cases hc85_18 : r14 = (95 : Int32)
              · refine ow_icmpYesW (q := 94) X14 hx (hb hby own_d9_85) (Jvm.Free.XT.ii_eq_t hc85_18) (by decide) (by decide) ?_
                refine ow_iconstW (q := 95) X14 hx (1 : Int32) (hb hby own_d9_94) rfl rfl ?_
                refine ow_gotoW (q := 99) X14 hx (hb hby own_d9_95) (by decide) (by decide) ?_
                refine ow_istoreNW (q := 100) X14 hx (L' := #[rv sx, iv i, iv r14, iv (1 : Int32)]) (hb hby own_d9_99) rfl rfl ?_
                refine ow_iloadNW (q := 101) X14 hx (hb hby own_d9_100) rfl rfl ?_
                refine ow_ifYesW (q := 111) X14 hx (hb hby own_d9_101) (Jvm.Free.XT.i0_ne_t (by decide)) (by decide) (by decide) ?_
                refine ow_iincW (q := 114) X14 hx (L' := #[rv sx, iv (i + (1 : Int32)), iv r14, iv (1 : Int32)]) (hb hby own_d9_111) rfl rfl rfl ?_
                generalize hv_v19 : (i + (1 : Int32)) = v19
                refine ow_gotoW (q := 32) X14 hx (hb hby own_d9_114) (by decide) (by decide) ?_
                exact ih11 v19 r14 (1 : Int32) _ _ X14 e14 N14 (own_ms hv_v19 hi0 hc37_13 rfl hm11) (own_i1 hv_v19 hi0 hc37_13).1 (own_i1 hv_v19 hi0 hc37_13).2
              · refine ow_icmpNoW (q := 88) X14 hx (hb hby own_d9_85) rfl (Jvm.Free.XT.ii_eq_f hc85_18) ?_
                refine ow_iloadNW (q := 89) X14 hx (hb hby own_d9_88) rfl rfl ?_
                refine ow_bipushW (q := 91) X14 hx (45 : Int32) (hb hby own_d9_89) rfl rfl ?_
                by_cases hc91_20 : r14 = (45 : Int32)
                · refine ow_icmpNoW (q := 94) X14 hx (hb hby own_d9_91) rfl (Jvm.Free.XT.ii_ne_f hc91_20) ?_
                  refine ow_iconstW (q := 95) X14 hx (1 : Int32) (hb hby own_d9_94) rfl rfl ?_
                  refine ow_gotoW (q := 99) X14 hx (hb hby own_d9_95) (by decide) (by decide) ?_
                  refine ow_istoreNW (q := 100) X14 hx (L' := #[rv sx, iv i, iv r14, iv (1 : Int32)]) (hb hby own_d9_99) rfl rfl ?_
                  refine ow_iloadNW (q := 101) X14 hx (hb hby own_d9_100) rfl rfl ?_
                  refine ow_ifYesW (q := 111) X14 hx (hb hby own_d9_101) (Jvm.Free.XT.i0_ne_t (by decide)) (by decide) (by decide) ?_
                  refine ow_iincW (q := 114) X14 hx (L' := #[rv sx, iv (i + (1 : Int32)), iv r14, iv (1 : Int32)]) (hb hby own_d9_111) rfl rfl rfl ?_
                  generalize hv_v21 : (i + (1 : Int32)) = v21
                  refine ow_gotoW (q := 32) X14 hx (hb hby own_d9_114) (by decide) (by decide) ?_
                  exact ih11 v21 r14 (1 : Int32) _ _ X14 e14 N14 (own_ms hv_v21 hi0 hc37_13 rfl hm11) (own_i1 hv_v21 hi0 hc37_13).1 (own_i1 hv_v21 hi0 hc37_13).2
                · refine ow_icmpYesW (q := 98) X14 hx (hb hby own_d9_91) (Jvm.Free.XT.ii_ne_t hc91_20) (by decide) (by decide) ?_
                  exfalso
                  have hk := own_okI hp14
                  have cc0 := own_ltI hc49_15
                  have cc1 := own_ltI hc61_16
                  have cc2 := own_ltI hc73_17
                  have cc3 := own_neI hc85_18
                  have cc4 := own_neI hc91_20
                  simp only [Int32.reduceToInt] at cc0 cc1 cc2 cc3 cc4
                  omega
            · refine ow_icmpNoW (q := 76) X14 hx (hb hby own_d9_73) rfl (Jvm.Free.XT.ii_lt_f hc73_17) ?_
              refine ow_iloadNW (q := 77) X14 hx (hb hby own_d9_76) rfl rfl ?_
              refine ow_bipushW (q := 79) X14 hx (57 : Int32) (hb hby own_d9_77) rfl rfl ?_
              by_cases hc79_22 : (57 : Int32) < r14
              · refine ow_icmpNoW (q := 82) X14 hx (hb hby own_d9_79) rfl (Jvm.Free.XT.ii_le_f hc79_22) ?_
                refine ow_iloadNW (q := 83) X14 hx (hb hby own_d9_82) rfl rfl ?_
                refine ow_bipushW (q := 85) X14 hx (95 : Int32) (hb hby own_d9_83) rfl rfl ?_
                by_cases hc85_23 : r14 = (95 : Int32)
                · refine ow_icmpYesW (q := 94) X14 hx (hb hby own_d9_85) (Jvm.Free.XT.ii_eq_t hc85_23) (by decide) (by decide) ?_
                  refine ow_iconstW (q := 95) X14 hx (1 : Int32) (hb hby own_d9_94) rfl rfl ?_
                  refine ow_gotoW (q := 99) X14 hx (hb hby own_d9_95) (by decide) (by decide) ?_
                  refine ow_istoreNW (q := 100) X14 hx (L' := #[rv sx, iv i, iv r14, iv (1 : Int32)]) (hb hby own_d9_99) rfl rfl ?_
                  refine ow_iloadNW (q := 101) X14 hx (hb hby own_d9_100) rfl rfl ?_
                  refine ow_ifYesW (q := 111) X14 hx (hb hby own_d9_101) (Jvm.Free.XT.i0_ne_t (by decide)) (by decide) (by decide) ?_
                  refine ow_iincW (q := 114) X14 hx (L' := #[rv sx, iv (i + (1 : Int32)), iv r14, iv (1 : Int32)]) (hb hby own_d9_111) rfl rfl rfl ?_
                  generalize hv_v24 : (i + (1 : Int32)) = v24
                  refine ow_gotoW (q := 32) X14 hx (hb hby own_d9_114) (by decide) (by decide) ?_
                  exact ih11 v24 r14 (1 : Int32) _ _ X14 e14 N14 (own_ms hv_v24 hi0 hc37_13 rfl hm11) (own_i1 hv_v24 hi0 hc37_13).1 (own_i1 hv_v24 hi0 hc37_13).2
                · refine ow_icmpNoW (q := 88) X14 hx (hb hby own_d9_85) rfl (Jvm.Free.XT.ii_eq_f hc85_23) ?_
                  refine ow_iloadNW (q := 89) X14 hx (hb hby own_d9_88) rfl rfl ?_
                  refine ow_bipushW (q := 91) X14 hx (45 : Int32) (hb hby own_d9_89) rfl rfl ?_
                  by_cases hc91_25 : r14 = (45 : Int32)
                  · refine ow_icmpNoW (q := 94) X14 hx (hb hby own_d9_91) rfl (Jvm.Free.XT.ii_ne_f hc91_25) ?_
                    refine ow_iconstW (q := 95) X14 hx (1 : Int32) (hb hby own_d9_94) rfl rfl ?_
                    refine ow_gotoW (q := 99) X14 hx (hb hby own_d9_95) (by decide) (by decide) ?_
                    refine ow_istoreNW (q := 100) X14 hx (L' := #[rv sx, iv i, iv r14, iv (1 : Int32)]) (hb hby own_d9_99) rfl rfl ?_
                    refine ow_iloadNW (q := 101) X14 hx (hb hby own_d9_100) rfl rfl ?_
                    refine ow_ifYesW (q := 111) X14 hx (hb hby own_d9_101) (Jvm.Free.XT.i0_ne_t (by decide)) (by decide) (by decide) ?_
                    refine ow_iincW (q := 114) X14 hx (L' := #[rv sx, iv (i + (1 : Int32)), iv r14, iv (1 : Int32)]) (hb hby own_d9_111) rfl rfl rfl ?_
                    generalize hv_v26 : (i + (1 : Int32)) = v26
                    refine ow_gotoW (q := 32) X14 hx (hb hby own_d9_114) (by decide) (by decide) ?_
                    exact ih11 v26 r14 (1 : Int32) _ _ X14 e14 N14 (own_ms hv_v26 hi0 hc37_13 rfl hm11) (own_i1 hv_v26 hi0 hc37_13).1 (own_i1 hv_v26 hi0 hc37_13).2
                  · refine ow_icmpYesW (q := 98) X14 hx (hb hby own_d9_91) (Jvm.Free.XT.ii_ne_t hc91_25) (by decide) (by decide) ?_
                    exfalso
                    have hk := own_okI hp14
                    have cc0 := own_ltI hc49_15
                    have cc1 := own_ltI hc61_16
                    have cc2 := own_nltI hc73_17
                    have cc3 := own_ltI hc79_22
                    have cc4 := own_neI hc85_23
                    have cc5 := own_neI hc91_25
                    simp only [Int32.reduceToInt] at cc0 cc1 cc2 cc3 cc4 cc5
                    omega
              · refine ow_icmpYesW (q := 94) X14 hx (hb hby own_d9_79) (Jvm.Free.XT.ii_le_t hc79_22) (by decide) (by decide) ?_
                refine ow_iconstW (q := 95) X14 hx (1 : Int32) (hb hby own_d9_94) rfl rfl ?_
                refine ow_gotoW (q := 99) X14 hx (hb hby own_d9_95) (by decide) (by decide) ?_
                refine ow_istoreNW (q := 100) X14 hx (L' := #[rv sx, iv i, iv r14, iv (1 : Int32)]) (hb hby own_d9_99) rfl rfl ?_
                refine ow_iloadNW (q := 101) X14 hx (hb hby own_d9_100) rfl rfl ?_
                refine ow_ifYesW (q := 111) X14 hx (hb hby own_d9_101) (Jvm.Free.XT.i0_ne_t (by decide)) (by decide) (by decide) ?_
                refine ow_iincW (q := 114) X14 hx (L' := #[rv sx, iv (i + (1 : Int32)), iv r14, iv (1 : Int32)]) (hb hby own_d9_111) rfl rfl rfl ?_
                generalize hv_v27 : (i + (1 : Int32)) = v27
                refine ow_gotoW (q := 32) X14 hx (hb hby own_d9_114) (by decide) (by decide) ?_
                exact ih11 v27 r14 (1 : Int32) _ _ X14 e14 N14 (own_ms hv_v27 hi0 hc37_13 rfl hm11) (own_i1 hv_v27 hi0 hc37_13).1 (own_i1 hv_v27 hi0 hc37_13).2
          · refine ow_icmpNoW (q := 64) X14 hx (hb hby own_d9_61) rfl (Jvm.Free.XT.ii_lt_f hc61_16) ?_
            refine ow_iloadNW (q := 65) X14 hx (hb hby own_d9_64) rfl rfl ?_
            refine ow_bipushW (q := 67) X14 hx (90 : Int32) (hb hby own_d9_65) rfl rfl ?_
            by_cases hc67_28 : (90 : Int32) < r14
            · refine ow_icmpNoW (q := 70) X14 hx (hb hby own_d9_67) rfl (Jvm.Free.XT.ii_le_f hc67_28) ?_
              refine ow_iloadNW (q := 71) X14 hx (hb hby own_d9_70) rfl rfl ?_
              refine ow_bipushW (q := 73) X14 hx (48 : Int32) (hb hby own_d9_71) rfl rfl ?_
              by_cases hc73_29 : r14 < (48 : Int32)
              · refine ow_icmpYesW (q := 82) X14 hx (hb hby own_d9_73) (Jvm.Free.XT.ii_lt_t hc73_29) (by decide) (by decide) ?_
                refine ow_iloadNW (q := 83) X14 hx (hb hby own_d9_82) rfl rfl ?_
                refine ow_bipushW (q := 85) X14 hx (95 : Int32) (hb hby own_d9_83) rfl rfl ?_
                by_cases hc85_30 : r14 = (95 : Int32)
                · refine ow_icmpYesW (q := 94) X14 hx (hb hby own_d9_85) (Jvm.Free.XT.ii_eq_t hc85_30) (by decide) (by decide) ?_
                  refine ow_iconstW (q := 95) X14 hx (1 : Int32) (hb hby own_d9_94) rfl rfl ?_
                  refine ow_gotoW (q := 99) X14 hx (hb hby own_d9_95) (by decide) (by decide) ?_
                  refine ow_istoreNW (q := 100) X14 hx (L' := #[rv sx, iv i, iv r14, iv (1 : Int32)]) (hb hby own_d9_99) rfl rfl ?_
                  refine ow_iloadNW (q := 101) X14 hx (hb hby own_d9_100) rfl rfl ?_
                  refine ow_ifYesW (q := 111) X14 hx (hb hby own_d9_101) (Jvm.Free.XT.i0_ne_t (by decide)) (by decide) (by decide) ?_
                  refine ow_iincW (q := 114) X14 hx (L' := #[rv sx, iv (i + (1 : Int32)), iv r14, iv (1 : Int32)]) (hb hby own_d9_111) rfl rfl rfl ?_
                  generalize hv_v31 : (i + (1 : Int32)) = v31
                  refine ow_gotoW (q := 32) X14 hx (hb hby own_d9_114) (by decide) (by decide) ?_
                  exact ih11 v31 r14 (1 : Int32) _ _ X14 e14 N14 (own_ms hv_v31 hi0 hc37_13 rfl hm11) (own_i1 hv_v31 hi0 hc37_13).1 (own_i1 hv_v31 hi0 hc37_13).2
                · refine ow_icmpNoW (q := 88) X14 hx (hb hby own_d9_85) rfl (Jvm.Free.XT.ii_eq_f hc85_30) ?_
                  refine ow_iloadNW (q := 89) X14 hx (hb hby own_d9_88) rfl rfl ?_
                  refine ow_bipushW (q := 91) X14 hx (45 : Int32) (hb hby own_d9_89) rfl rfl ?_
                  by_cases hc91_32 : r14 = (45 : Int32)
                  · refine ow_icmpNoW (q := 94) X14 hx (hb hby own_d9_91) rfl (Jvm.Free.XT.ii_ne_f hc91_32) ?_
                    refine ow_iconstW (q := 95) X14 hx (1 : Int32) (hb hby own_d9_94) rfl rfl ?_
                    refine ow_gotoW (q := 99) X14 hx (hb hby own_d9_95) (by decide) (by decide) ?_
                    refine ow_istoreNW (q := 100) X14 hx (L' := #[rv sx, iv i, iv r14, iv (1 : Int32)]) (hb hby own_d9_99) rfl rfl ?_
                    refine ow_iloadNW (q := 101) X14 hx (hb hby own_d9_100) rfl rfl ?_
                    refine ow_ifYesW (q := 111) X14 hx (hb hby own_d9_101) (Jvm.Free.XT.i0_ne_t (by decide)) (by decide) (by decide) ?_
                    refine ow_iincW (q := 114) X14 hx (L' := #[rv sx, iv (i + (1 : Int32)), iv r14, iv (1 : Int32)]) (hb hby own_d9_111) rfl rfl rfl ?_
                    generalize hv_v33 : (i + (1 : Int32)) = v33
                    refine ow_gotoW (q := 32) X14 hx (hb hby own_d9_114) (by decide) (by decide) ?_
                    exact ih11 v33 r14 (1 : Int32) _ _ X14 e14 N14 (own_ms hv_v33 hi0 hc37_13 rfl hm11) (own_i1 hv_v33 hi0 hc37_13).1 (own_i1 hv_v33 hi0 hc37_13).2
                  · refine ow_icmpYesW (q := 98) X14 hx (hb hby own_d9_91) (Jvm.Free.XT.ii_ne_t hc91_32) (by decide) (by decide) ?_
                    exfalso
                    have hk := own_okI hp14
                    have cc0 := own_ltI hc49_15
                    have cc1 := own_nltI hc61_16
                    have cc2 := own_ltI hc67_28
                    have cc3 := own_ltI hc73_29
                    have cc4 := own_neI hc85_30
                    have cc5 := own_neI hc91_32
                    simp only [Int32.reduceToInt] at cc0 cc1 cc2 cc3 cc4 cc5
                    omega
              · refine ow_icmpNoW (q := 76) X14 hx (hb hby own_d9_73) rfl (Jvm.Free.XT.ii_lt_f hc73_29) ?_
                refine ow_iloadNW (q := 77) X14 hx (hb hby own_d9_76) rfl rfl ?_
                refine ow_bipushW (q := 79) X14 hx (57 : Int32) (hb hby own_d9_77) rfl rfl ?_
                by_cases hc79_34 : (57 : Int32) < r14
                · refine ow_icmpNoW (q := 82) X14 hx (hb hby own_d9_79) rfl (Jvm.Free.XT.ii_le_f hc79_34) ?_
                  refine ow_iloadNW (q := 83) X14 hx (hb hby own_d9_82) rfl rfl ?_
                  refine ow_bipushW (q := 85) X14 hx (95 : Int32) (hb hby own_d9_83) rfl rfl ?_
                  by_cases hc85_35 : r14 = (95 : Int32)
                  · refine ow_icmpYesW (q := 94) X14 hx (hb hby own_d9_85) (Jvm.Free.XT.ii_eq_t hc85_35) (by decide) (by decide) ?_
                    refine ow_iconstW (q := 95) X14 hx (1 : Int32) (hb hby own_d9_94) rfl rfl ?_
                    refine ow_gotoW (q := 99) X14 hx (hb hby own_d9_95) (by decide) (by decide) ?_
                    refine ow_istoreNW (q := 100) X14 hx (L' := #[rv sx, iv i, iv r14, iv (1 : Int32)]) (hb hby own_d9_99) rfl rfl ?_
                    refine ow_iloadNW (q := 101) X14 hx (hb hby own_d9_100) rfl rfl ?_
                    refine ow_ifYesW (q := 111) X14 hx (hb hby own_d9_101) (Jvm.Free.XT.i0_ne_t (by decide)) (by decide) (by decide) ?_
                    refine ow_iincW (q := 114) X14 hx (L' := #[rv sx, iv (i + (1 : Int32)), iv r14, iv (1 : Int32)]) (hb hby own_d9_111) rfl rfl rfl ?_
                    generalize hv_v36 : (i + (1 : Int32)) = v36
                    refine ow_gotoW (q := 32) X14 hx (hb hby own_d9_114) (by decide) (by decide) ?_
                    exact ih11 v36 r14 (1 : Int32) _ _ X14 e14 N14 (own_ms hv_v36 hi0 hc37_13 rfl hm11) (own_i1 hv_v36 hi0 hc37_13).1 (own_i1 hv_v36 hi0 hc37_13).2
                  · refine ow_icmpNoW (q := 88) X14 hx (hb hby own_d9_85) rfl (Jvm.Free.XT.ii_eq_f hc85_35) ?_
                    refine ow_iloadNW (q := 89) X14 hx (hb hby own_d9_88) rfl rfl ?_
                    refine ow_bipushW (q := 91) X14 hx (45 : Int32) (hb hby own_d9_89) rfl rfl ?_
                    by_cases hc91_37 : r14 = (45 : Int32)
                    · refine ow_icmpNoW (q := 94) X14 hx (hb hby own_d9_91) rfl (Jvm.Free.XT.ii_ne_f hc91_37) ?_
                      refine ow_iconstW (q := 95) X14 hx (1 : Int32) (hb hby own_d9_94) rfl rfl ?_
                      refine ow_gotoW (q := 99) X14 hx (hb hby own_d9_95) (by decide) (by decide) ?_
                      refine ow_istoreNW (q := 100) X14 hx (L' := #[rv sx, iv i, iv r14, iv (1 : Int32)]) (hb hby own_d9_99) rfl rfl ?_
                      refine ow_iloadNW (q := 101) X14 hx (hb hby own_d9_100) rfl rfl ?_
                      refine ow_ifYesW (q := 111) X14 hx (hb hby own_d9_101) (Jvm.Free.XT.i0_ne_t (by decide)) (by decide) (by decide) ?_
                      refine ow_iincW (q := 114) X14 hx (L' := #[rv sx, iv (i + (1 : Int32)), iv r14, iv (1 : Int32)]) (hb hby own_d9_111) rfl rfl rfl ?_
                      generalize hv_v38 : (i + (1 : Int32)) = v38
                      refine ow_gotoW (q := 32) X14 hx (hb hby own_d9_114) (by decide) (by decide) ?_
                      exact ih11 v38 r14 (1 : Int32) _ _ X14 e14 N14 (own_ms hv_v38 hi0 hc37_13 rfl hm11) (own_i1 hv_v38 hi0 hc37_13).1 (own_i1 hv_v38 hi0 hc37_13).2
                    · refine ow_icmpYesW (q := 98) X14 hx (hb hby own_d9_91) (Jvm.Free.XT.ii_ne_t hc91_37) (by decide) (by decide) ?_
                      exfalso
                      have hk := own_okI hp14
                      have cc0 := own_ltI hc49_15
                      have cc1 := own_nltI hc61_16
                      have cc2 := own_ltI hc67_28
                      have cc3 := own_nltI hc73_29
                      have cc4 := own_ltI hc79_34
                      have cc5 := own_neI hc85_35
                      have cc6 := own_neI hc91_37
                      simp only [Int32.reduceToInt] at cc0 cc1 cc2 cc3 cc4 cc5 cc6
                      omega
                · refine ow_icmpYesW (q := 94) X14 hx (hb hby own_d9_79) (Jvm.Free.XT.ii_le_t hc79_34) (by decide) (by decide) ?_
                  refine ow_iconstW (q := 95) X14 hx (1 : Int32) (hb hby own_d9_94) rfl rfl ?_
                  refine ow_gotoW (q := 99) X14 hx (hb hby own_d9_95) (by decide) (by decide) ?_
                  refine ow_istoreNW (q := 100) X14 hx (L' := #[rv sx, iv i, iv r14, iv (1 : Int32)]) (hb hby own_d9_99) rfl rfl ?_
                  refine ow_iloadNW (q := 101) X14 hx (hb hby own_d9_100) rfl rfl ?_
                  refine ow_ifYesW (q := 111) X14 hx (hb hby own_d9_101) (Jvm.Free.XT.i0_ne_t (by decide)) (by decide) (by decide) ?_
                  refine ow_iincW (q := 114) X14 hx (L' := #[rv sx, iv (i + (1 : Int32)), iv r14, iv (1 : Int32)]) (hb hby own_d9_111) rfl rfl rfl ?_
                  generalize hv_v39 : (i + (1 : Int32)) = v39
                  refine ow_gotoW (q := 32) X14 hx (hb hby own_d9_114) (by decide) (by decide) ?_
                  exact ih11 v39 r14 (1 : Int32) _ _ X14 e14 N14 (own_ms hv_v39 hi0 hc37_13 rfl hm11) (own_i1 hv_v39 hi0 hc37_13).1 (own_i1 hv_v39 hi0 hc37_13).2
            · refine ow_icmpYesW (q := 94) X14 hx (hb hby own_d9_67) (Jvm.Free.XT.ii_le_t hc67_28) (by decide) (by decide) ?_
              refine ow_iconstW (q := 95) X14 hx (1 : Int32) (hb hby own_d9_94) rfl rfl ?_
              refine ow_gotoW (q := 99) X14 hx (hb hby own_d9_95) (by decide) (by decide) ?_
              refine ow_istoreNW (q := 100) X14 hx (L' := #[rv sx, iv i, iv r14, iv (1 : Int32)]) (hb hby own_d9_99) rfl rfl ?_
              refine ow_iloadNW (q := 101) X14 hx (hb hby own_d9_100) rfl rfl ?_
              refine ow_ifYesW (q := 111) X14 hx (hb hby own_d9_101) (Jvm.Free.XT.i0_ne_t (by decide)) (by decide) (by decide) ?_
              refine ow_iincW (q := 114) X14 hx (L' := #[rv sx, iv (i + (1 : Int32)), iv r14, iv (1 : Int32)]) (hb hby own_d9_111) rfl rfl rfl ?_
              generalize hv_v40 : (i + (1 : Int32)) = v40
              refine ow_gotoW (q := 32) X14 hx (hb hby own_d9_114) (by decide) (by decide) ?_
              exact ih11 v40 r14 (1 : Int32) _ _ X14 e14 N14 (own_ms hv_v40 hi0 hc37_13 rfl hm11) (own_i1 hv_v40 hi0 hc37_13).1 (own_i1 hv_v40 hi0 hc37_13).2
        · refine ow_icmpNoW (q := 52) X14 hx (hb hby own_d9_49) rfl (Jvm.Free.XT.ii_lt_f hc49_15) ?_
          refine ow_iloadNW (q := 53) X14 hx (hb hby own_d9_52) rfl rfl ?_
          refine ow_bipushW (q := 55) X14 hx (122 : Int32) (hb hby own_d9_53) rfl rfl ?_
          by_cases hc55_41 : (122 : Int32) < r14
          · refine ow_icmpNoW (q := 58) X14 hx (hb hby own_d9_55) rfl (Jvm.Free.XT.ii_le_f hc55_41) ?_
            refine ow_iloadNW (q := 59) X14 hx (hb hby own_d9_58) rfl rfl ?_
            refine ow_bipushW (q := 61) X14 hx (65 : Int32) (hb hby own_d9_59) rfl rfl ?_
            by_cases hc61_42 : r14 < (65 : Int32)
            · refine ow_icmpYesW (q := 70) X14 hx (hb hby own_d9_61) (Jvm.Free.XT.ii_lt_t hc61_42) (by decide) (by decide) ?_
              refine ow_iloadNW (q := 71) X14 hx (hb hby own_d9_70) rfl rfl ?_
              refine ow_bipushW (q := 73) X14 hx (48 : Int32) (hb hby own_d9_71) rfl rfl ?_
              by_cases hc73_43 : r14 < (48 : Int32)
              · refine ow_icmpYesW (q := 82) X14 hx (hb hby own_d9_73) (Jvm.Free.XT.ii_lt_t hc73_43) (by decide) (by decide) ?_
                refine ow_iloadNW (q := 83) X14 hx (hb hby own_d9_82) rfl rfl ?_
                refine ow_bipushW (q := 85) X14 hx (95 : Int32) (hb hby own_d9_83) rfl rfl ?_
                by_cases hc85_44 : r14 = (95 : Int32)
                · refine ow_icmpYesW (q := 94) X14 hx (hb hby own_d9_85) (Jvm.Free.XT.ii_eq_t hc85_44) (by decide) (by decide) ?_
                  refine ow_iconstW (q := 95) X14 hx (1 : Int32) (hb hby own_d9_94) rfl rfl ?_
                  refine ow_gotoW (q := 99) X14 hx (hb hby own_d9_95) (by decide) (by decide) ?_
                  refine ow_istoreNW (q := 100) X14 hx (L' := #[rv sx, iv i, iv r14, iv (1 : Int32)]) (hb hby own_d9_99) rfl rfl ?_
                  refine ow_iloadNW (q := 101) X14 hx (hb hby own_d9_100) rfl rfl ?_
                  refine ow_ifYesW (q := 111) X14 hx (hb hby own_d9_101) (Jvm.Free.XT.i0_ne_t (by decide)) (by decide) (by decide) ?_
                  refine ow_iincW (q := 114) X14 hx (L' := #[rv sx, iv (i + (1 : Int32)), iv r14, iv (1 : Int32)]) (hb hby own_d9_111) rfl rfl rfl ?_
                  generalize hv_v45 : (i + (1 : Int32)) = v45
                  refine ow_gotoW (q := 32) X14 hx (hb hby own_d9_114) (by decide) (by decide) ?_
                  exact ih11 v45 r14 (1 : Int32) _ _ X14 e14 N14 (own_ms hv_v45 hi0 hc37_13 rfl hm11) (own_i1 hv_v45 hi0 hc37_13).1 (own_i1 hv_v45 hi0 hc37_13).2
                · refine ow_icmpNoW (q := 88) X14 hx (hb hby own_d9_85) rfl (Jvm.Free.XT.ii_eq_f hc85_44) ?_
                  refine ow_iloadNW (q := 89) X14 hx (hb hby own_d9_88) rfl rfl ?_
                  refine ow_bipushW (q := 91) X14 hx (45 : Int32) (hb hby own_d9_89) rfl rfl ?_
                  by_cases hc91_46 : r14 = (45 : Int32)
                  · refine ow_icmpNoW (q := 94) X14 hx (hb hby own_d9_91) rfl (Jvm.Free.XT.ii_ne_f hc91_46) ?_
                    refine ow_iconstW (q := 95) X14 hx (1 : Int32) (hb hby own_d9_94) rfl rfl ?_
                    refine ow_gotoW (q := 99) X14 hx (hb hby own_d9_95) (by decide) (by decide) ?_
                    refine ow_istoreNW (q := 100) X14 hx (L' := #[rv sx, iv i, iv r14, iv (1 : Int32)]) (hb hby own_d9_99) rfl rfl ?_
                    refine ow_iloadNW (q := 101) X14 hx (hb hby own_d9_100) rfl rfl ?_
                    refine ow_ifYesW (q := 111) X14 hx (hb hby own_d9_101) (Jvm.Free.XT.i0_ne_t (by decide)) (by decide) (by decide) ?_
                    refine ow_iincW (q := 114) X14 hx (L' := #[rv sx, iv (i + (1 : Int32)), iv r14, iv (1 : Int32)]) (hb hby own_d9_111) rfl rfl rfl ?_
                    generalize hv_v47 : (i + (1 : Int32)) = v47
                    refine ow_gotoW (q := 32) X14 hx (hb hby own_d9_114) (by decide) (by decide) ?_
                    exact ih11 v47 r14 (1 : Int32) _ _ X14 e14 N14 (own_ms hv_v47 hi0 hc37_13 rfl hm11) (own_i1 hv_v47 hi0 hc37_13).1 (own_i1 hv_v47 hi0 hc37_13).2
                  · refine ow_icmpYesW (q := 98) X14 hx (hb hby own_d9_91) (Jvm.Free.XT.ii_ne_t hc91_46) (by decide) (by decide) ?_
                    exfalso
                    have hk := own_okI hp14
                    have cc0 := own_nltI hc49_15
                    have cc1 := own_ltI hc55_41
                    have cc2 := own_ltI hc61_42
                    have cc3 := own_ltI hc73_43
                    have cc4 := own_neI hc85_44
                    have cc5 := own_neI hc91_46
                    simp only [Int32.reduceToInt] at cc0 cc1 cc2 cc3 cc4 cc5
                    omega
              · refine ow_icmpNoW (q := 76) X14 hx (hb hby own_d9_73) rfl (Jvm.Free.XT.ii_lt_f hc73_43) ?_
                refine ow_iloadNW (q := 77) X14 hx (hb hby own_d9_76) rfl rfl ?_
                refine ow_bipushW (q := 79) X14 hx (57 : Int32) (hb hby own_d9_77) rfl rfl ?_
                by_cases hc79_48 : (57 : Int32) < r14
                · refine ow_icmpNoW (q := 82) X14 hx (hb hby own_d9_79) rfl (Jvm.Free.XT.ii_le_f hc79_48) ?_
                  refine ow_iloadNW (q := 83) X14 hx (hb hby own_d9_82) rfl rfl ?_
                  refine ow_bipushW (q := 85) X14 hx (95 : Int32) (hb hby own_d9_83) rfl rfl ?_
                  by_cases hc85_49 : r14 = (95 : Int32)
                  · refine ow_icmpYesW (q := 94) X14 hx (hb hby own_d9_85) (Jvm.Free.XT.ii_eq_t hc85_49) (by decide) (by decide) ?_
                    refine ow_iconstW (q := 95) X14 hx (1 : Int32) (hb hby own_d9_94) rfl rfl ?_
                    refine ow_gotoW (q := 99) X14 hx (hb hby own_d9_95) (by decide) (by decide) ?_
                    refine ow_istoreNW (q := 100) X14 hx (L' := #[rv sx, iv i, iv r14, iv (1 : Int32)]) (hb hby own_d9_99) rfl rfl ?_
                    refine ow_iloadNW (q := 101) X14 hx (hb hby own_d9_100) rfl rfl ?_
                    refine ow_ifYesW (q := 111) X14 hx (hb hby own_d9_101) (Jvm.Free.XT.i0_ne_t (by decide)) (by decide) (by decide) ?_
                    refine ow_iincW (q := 114) X14 hx (L' := #[rv sx, iv (i + (1 : Int32)), iv r14, iv (1 : Int32)]) (hb hby own_d9_111) rfl rfl rfl ?_
                    generalize hv_v50 : (i + (1 : Int32)) = v50
                    refine ow_gotoW (q := 32) X14 hx (hb hby own_d9_114) (by decide) (by decide) ?_
                    exact ih11 v50 r14 (1 : Int32) _ _ X14 e14 N14 (own_ms hv_v50 hi0 hc37_13 rfl hm11) (own_i1 hv_v50 hi0 hc37_13).1 (own_i1 hv_v50 hi0 hc37_13).2
                  · refine ow_icmpNoW (q := 88) X14 hx (hb hby own_d9_85) rfl (Jvm.Free.XT.ii_eq_f hc85_49) ?_
                    refine ow_iloadNW (q := 89) X14 hx (hb hby own_d9_88) rfl rfl ?_
                    refine ow_bipushW (q := 91) X14 hx (45 : Int32) (hb hby own_d9_89) rfl rfl ?_
                    by_cases hc91_51 : r14 = (45 : Int32)
                    · refine ow_icmpNoW (q := 94) X14 hx (hb hby own_d9_91) rfl (Jvm.Free.XT.ii_ne_f hc91_51) ?_
                      refine ow_iconstW (q := 95) X14 hx (1 : Int32) (hb hby own_d9_94) rfl rfl ?_
                      refine ow_gotoW (q := 99) X14 hx (hb hby own_d9_95) (by decide) (by decide) ?_
                      refine ow_istoreNW (q := 100) X14 hx (L' := #[rv sx, iv i, iv r14, iv (1 : Int32)]) (hb hby own_d9_99) rfl rfl ?_
                      refine ow_iloadNW (q := 101) X14 hx (hb hby own_d9_100) rfl rfl ?_
                      refine ow_ifYesW (q := 111) X14 hx (hb hby own_d9_101) (Jvm.Free.XT.i0_ne_t (by decide)) (by decide) (by decide) ?_
                      refine ow_iincW (q := 114) X14 hx (L' := #[rv sx, iv (i + (1 : Int32)), iv r14, iv (1 : Int32)]) (hb hby own_d9_111) rfl rfl rfl ?_
                      generalize hv_v52 : (i + (1 : Int32)) = v52
                      refine ow_gotoW (q := 32) X14 hx (hb hby own_d9_114) (by decide) (by decide) ?_
                      exact ih11 v52 r14 (1 : Int32) _ _ X14 e14 N14 (own_ms hv_v52 hi0 hc37_13 rfl hm11) (own_i1 hv_v52 hi0 hc37_13).1 (own_i1 hv_v52 hi0 hc37_13).2
                    · refine ow_icmpYesW (q := 98) X14 hx (hb hby own_d9_91) (Jvm.Free.XT.ii_ne_t hc91_51) (by decide) (by decide) ?_
                      exfalso
                      have hk := own_okI hp14
                      have cc0 := own_nltI hc49_15
                      have cc1 := own_ltI hc55_41
                      have cc2 := own_ltI hc61_42
                      have cc3 := own_nltI hc73_43
                      have cc4 := own_ltI hc79_48
                      have cc5 := own_neI hc85_49
                      have cc6 := own_neI hc91_51
                      simp only [Int32.reduceToInt] at cc0 cc1 cc2 cc3 cc4 cc5 cc6
                      omega
                · refine ow_icmpYesW (q := 94) X14 hx (hb hby own_d9_79) (Jvm.Free.XT.ii_le_t hc79_48) (by decide) (by decide) ?_
                  refine ow_iconstW (q := 95) X14 hx (1 : Int32) (hb hby own_d9_94) rfl rfl ?_
                  refine ow_gotoW (q := 99) X14 hx (hb hby own_d9_95) (by decide) (by decide) ?_
                  refine ow_istoreNW (q := 100) X14 hx (L' := #[rv sx, iv i, iv r14, iv (1 : Int32)]) (hb hby own_d9_99) rfl rfl ?_
                  refine ow_iloadNW (q := 101) X14 hx (hb hby own_d9_100) rfl rfl ?_
                  refine ow_ifYesW (q := 111) X14 hx (hb hby own_d9_101) (Jvm.Free.XT.i0_ne_t (by decide)) (by decide) (by decide) ?_
                  refine ow_iincW (q := 114) X14 hx (L' := #[rv sx, iv (i + (1 : Int32)), iv r14, iv (1 : Int32)]) (hb hby own_d9_111) rfl rfl rfl ?_
                  generalize hv_v53 : (i + (1 : Int32)) = v53
                  refine ow_gotoW (q := 32) X14 hx (hb hby own_d9_114) (by decide) (by decide) ?_
                  exact ih11 v53 r14 (1 : Int32) _ _ X14 e14 N14 (own_ms hv_v53 hi0 hc37_13 rfl hm11) (own_i1 hv_v53 hi0 hc37_13).1 (own_i1 hv_v53 hi0 hc37_13).2
            · refine ow_icmpNoW (q := 64) X14 hx (hb hby own_d9_61) rfl (Jvm.Free.XT.ii_lt_f hc61_42) ?_
              refine ow_iloadNW (q := 65) X14 hx (hb hby own_d9_64) rfl rfl ?_
              refine ow_bipushW (q := 67) X14 hx (90 : Int32) (hb hby own_d9_65) rfl rfl ?_
              by_cases hc67_54 : (90 : Int32) < r14
              · refine ow_icmpNoW (q := 70) X14 hx (hb hby own_d9_67) rfl (Jvm.Free.XT.ii_le_f hc67_54) ?_
                refine ow_iloadNW (q := 71) X14 hx (hb hby own_d9_70) rfl rfl ?_
                refine ow_bipushW (q := 73) X14 hx (48 : Int32) (hb hby own_d9_71) rfl rfl ?_
                by_cases hc73_55 : r14 < (48 : Int32)
                · refine ow_icmpYesW (q := 82) X14 hx (hb hby own_d9_73) (Jvm.Free.XT.ii_lt_t hc73_55) (by decide) (by decide) ?_
                  refine ow_iloadNW (q := 83) X14 hx (hb hby own_d9_82) rfl rfl ?_
                  refine ow_bipushW (q := 85) X14 hx (95 : Int32) (hb hby own_d9_83) rfl rfl ?_
                  by_cases hc85_56 : r14 = (95 : Int32)
                  · refine ow_icmpYesW (q := 94) X14 hx (hb hby own_d9_85) (Jvm.Free.XT.ii_eq_t hc85_56) (by decide) (by decide) ?_
                    refine ow_iconstW (q := 95) X14 hx (1 : Int32) (hb hby own_d9_94) rfl rfl ?_
                    refine ow_gotoW (q := 99) X14 hx (hb hby own_d9_95) (by decide) (by decide) ?_
                    refine ow_istoreNW (q := 100) X14 hx (L' := #[rv sx, iv i, iv r14, iv (1 : Int32)]) (hb hby own_d9_99) rfl rfl ?_
                    refine ow_iloadNW (q := 101) X14 hx (hb hby own_d9_100) rfl rfl ?_
                    refine ow_ifYesW (q := 111) X14 hx (hb hby own_d9_101) (Jvm.Free.XT.i0_ne_t (by decide)) (by decide) (by decide) ?_
                    refine ow_iincW (q := 114) X14 hx (L' := #[rv sx, iv (i + (1 : Int32)), iv r14, iv (1 : Int32)]) (hb hby own_d9_111) rfl rfl rfl ?_
                    generalize hv_v57 : (i + (1 : Int32)) = v57
                    refine ow_gotoW (q := 32) X14 hx (hb hby own_d9_114) (by decide) (by decide) ?_
                    exact ih11 v57 r14 (1 : Int32) _ _ X14 e14 N14 (own_ms hv_v57 hi0 hc37_13 rfl hm11) (own_i1 hv_v57 hi0 hc37_13).1 (own_i1 hv_v57 hi0 hc37_13).2
                  · refine ow_icmpNoW (q := 88) X14 hx (hb hby own_d9_85) rfl (Jvm.Free.XT.ii_eq_f hc85_56) ?_
                    refine ow_iloadNW (q := 89) X14 hx (hb hby own_d9_88) rfl rfl ?_
                    refine ow_bipushW (q := 91) X14 hx (45 : Int32) (hb hby own_d9_89) rfl rfl ?_
                    by_cases hc91_58 : r14 = (45 : Int32)
                    · refine ow_icmpNoW (q := 94) X14 hx (hb hby own_d9_91) rfl (Jvm.Free.XT.ii_ne_f hc91_58) ?_
                      refine ow_iconstW (q := 95) X14 hx (1 : Int32) (hb hby own_d9_94) rfl rfl ?_
                      refine ow_gotoW (q := 99) X14 hx (hb hby own_d9_95) (by decide) (by decide) ?_
                      refine ow_istoreNW (q := 100) X14 hx (L' := #[rv sx, iv i, iv r14, iv (1 : Int32)]) (hb hby own_d9_99) rfl rfl ?_
                      refine ow_iloadNW (q := 101) X14 hx (hb hby own_d9_100) rfl rfl ?_
                      refine ow_ifYesW (q := 111) X14 hx (hb hby own_d9_101) (Jvm.Free.XT.i0_ne_t (by decide)) (by decide) (by decide) ?_
                      refine ow_iincW (q := 114) X14 hx (L' := #[rv sx, iv (i + (1 : Int32)), iv r14, iv (1 : Int32)]) (hb hby own_d9_111) rfl rfl rfl ?_
                      generalize hv_v59 : (i + (1 : Int32)) = v59
                      refine ow_gotoW (q := 32) X14 hx (hb hby own_d9_114) (by decide) (by decide) ?_
                      exact ih11 v59 r14 (1 : Int32) _ _ X14 e14 N14 (own_ms hv_v59 hi0 hc37_13 rfl hm11) (own_i1 hv_v59 hi0 hc37_13).1 (own_i1 hv_v59 hi0 hc37_13).2
                    · refine ow_icmpYesW (q := 98) X14 hx (hb hby own_d9_91) (Jvm.Free.XT.ii_ne_t hc91_58) (by decide) (by decide) ?_
                      exfalso
                      have hk := own_okI hp14
                      have cc0 := own_nltI hc49_15
                      have cc1 := own_ltI hc55_41
                      have cc2 := own_nltI hc61_42
                      have cc3 := own_ltI hc67_54
                      have cc4 := own_ltI hc73_55
                      have cc5 := own_neI hc85_56
                      have cc6 := own_neI hc91_58
                      simp only [Int32.reduceToInt] at cc0 cc1 cc2 cc3 cc4 cc5 cc6
                      omega
                · refine ow_icmpNoW (q := 76) X14 hx (hb hby own_d9_73) rfl (Jvm.Free.XT.ii_lt_f hc73_55) ?_
                  refine ow_iloadNW (q := 77) X14 hx (hb hby own_d9_76) rfl rfl ?_
                  refine ow_bipushW (q := 79) X14 hx (57 : Int32) (hb hby own_d9_77) rfl rfl ?_
                  by_cases hc79_60 : (57 : Int32) < r14
                  · refine ow_icmpNoW (q := 82) X14 hx (hb hby own_d9_79) rfl (Jvm.Free.XT.ii_le_f hc79_60) ?_
                    refine ow_iloadNW (q := 83) X14 hx (hb hby own_d9_82) rfl rfl ?_
                    refine ow_bipushW (q := 85) X14 hx (95 : Int32) (hb hby own_d9_83) rfl rfl ?_
                    by_cases hc85_61 : r14 = (95 : Int32)
                    · refine ow_icmpYesW (q := 94) X14 hx (hb hby own_d9_85) (Jvm.Free.XT.ii_eq_t hc85_61) (by decide) (by decide) ?_
                      refine ow_iconstW (q := 95) X14 hx (1 : Int32) (hb hby own_d9_94) rfl rfl ?_
                      refine ow_gotoW (q := 99) X14 hx (hb hby own_d9_95) (by decide) (by decide) ?_
                      refine ow_istoreNW (q := 100) X14 hx (L' := #[rv sx, iv i, iv r14, iv (1 : Int32)]) (hb hby own_d9_99) rfl rfl ?_
                      refine ow_iloadNW (q := 101) X14 hx (hb hby own_d9_100) rfl rfl ?_
                      refine ow_ifYesW (q := 111) X14 hx (hb hby own_d9_101) (Jvm.Free.XT.i0_ne_t (by decide)) (by decide) (by decide) ?_
                      refine ow_iincW (q := 114) X14 hx (L' := #[rv sx, iv (i + (1 : Int32)), iv r14, iv (1 : Int32)]) (hb hby own_d9_111) rfl rfl rfl ?_
                      generalize hv_v62 : (i + (1 : Int32)) = v62
                      refine ow_gotoW (q := 32) X14 hx (hb hby own_d9_114) (by decide) (by decide) ?_
                      exact ih11 v62 r14 (1 : Int32) _ _ X14 e14 N14 (own_ms hv_v62 hi0 hc37_13 rfl hm11) (own_i1 hv_v62 hi0 hc37_13).1 (own_i1 hv_v62 hi0 hc37_13).2
                    · refine ow_icmpNoW (q := 88) X14 hx (hb hby own_d9_85) rfl (Jvm.Free.XT.ii_eq_f hc85_61) ?_
                      refine ow_iloadNW (q := 89) X14 hx (hb hby own_d9_88) rfl rfl ?_
                      refine ow_bipushW (q := 91) X14 hx (45 : Int32) (hb hby own_d9_89) rfl rfl ?_
                      by_cases hc91_63 : r14 = (45 : Int32)
                      · refine ow_icmpNoW (q := 94) X14 hx (hb hby own_d9_91) rfl (Jvm.Free.XT.ii_ne_f hc91_63) ?_
                        refine ow_iconstW (q := 95) X14 hx (1 : Int32) (hb hby own_d9_94) rfl rfl ?_
                        refine ow_gotoW (q := 99) X14 hx (hb hby own_d9_95) (by decide) (by decide) ?_
                        refine ow_istoreNW (q := 100) X14 hx (L' := #[rv sx, iv i, iv r14, iv (1 : Int32)]) (hb hby own_d9_99) rfl rfl ?_
                        refine ow_iloadNW (q := 101) X14 hx (hb hby own_d9_100) rfl rfl ?_
                        refine ow_ifYesW (q := 111) X14 hx (hb hby own_d9_101) (Jvm.Free.XT.i0_ne_t (by decide)) (by decide) (by decide) ?_
                        refine ow_iincW (q := 114) X14 hx (L' := #[rv sx, iv (i + (1 : Int32)), iv r14, iv (1 : Int32)]) (hb hby own_d9_111) rfl rfl rfl ?_
                        generalize hv_v64 : (i + (1 : Int32)) = v64
                        refine ow_gotoW (q := 32) X14 hx (hb hby own_d9_114) (by decide) (by decide) ?_
                        exact ih11 v64 r14 (1 : Int32) _ _ X14 e14 N14 (own_ms hv_v64 hi0 hc37_13 rfl hm11) (own_i1 hv_v64 hi0 hc37_13).1 (own_i1 hv_v64 hi0 hc37_13).2
                      · refine ow_icmpYesW (q := 98) X14 hx (hb hby own_d9_91) (Jvm.Free.XT.ii_ne_t hc91_63) (by decide) (by decide) ?_
                        exfalso
                        have hk := own_okI hp14
                        have cc0 := own_nltI hc49_15
                        have cc1 := own_ltI hc55_41
                        have cc2 := own_nltI hc61_42
                        have cc3 := own_ltI hc67_54
                        have cc4 := own_nltI hc73_55
                        have cc5 := own_ltI hc79_60
                        have cc6 := own_neI hc85_61
                        have cc7 := own_neI hc91_63
                        simp only [Int32.reduceToInt] at cc0 cc1 cc2 cc3 cc4 cc5 cc6 cc7
                        omega
                  · refine ow_icmpYesW (q := 94) X14 hx (hb hby own_d9_79) (Jvm.Free.XT.ii_le_t hc79_60) (by decide) (by decide) ?_
                    refine ow_iconstW (q := 95) X14 hx (1 : Int32) (hb hby own_d9_94) rfl rfl ?_
                    refine ow_gotoW (q := 99) X14 hx (hb hby own_d9_95) (by decide) (by decide) ?_
                    refine ow_istoreNW (q := 100) X14 hx (L' := #[rv sx, iv i, iv r14, iv (1 : Int32)]) (hb hby own_d9_99) rfl rfl ?_
                    refine ow_iloadNW (q := 101) X14 hx (hb hby own_d9_100) rfl rfl ?_
                    refine ow_ifYesW (q := 111) X14 hx (hb hby own_d9_101) (Jvm.Free.XT.i0_ne_t (by decide)) (by decide) (by decide) ?_
                    refine ow_iincW (q := 114) X14 hx (L' := #[rv sx, iv (i + (1 : Int32)), iv r14, iv (1 : Int32)]) (hb hby own_d9_111) rfl rfl rfl ?_
                    generalize hv_v65 : (i + (1 : Int32)) = v65
                    refine ow_gotoW (q := 32) X14 hx (hb hby own_d9_114) (by decide) (by decide) ?_
                    exact ih11 v65 r14 (1 : Int32) _ _ X14 e14 N14 (own_ms hv_v65 hi0 hc37_13 rfl hm11) (own_i1 hv_v65 hi0 hc37_13).1 (own_i1 hv_v65 hi0 hc37_13).2
              · refine ow_icmpYesW (q := 94) X14 hx (hb hby own_d9_67) (Jvm.Free.XT.ii_le_t hc67_54) (by decide) (by decide) ?_
                refine ow_iconstW (q := 95) X14 hx (1 : Int32) (hb hby own_d9_94) rfl rfl ?_
                refine ow_gotoW (q := 99) X14 hx (hb hby own_d9_95) (by decide) (by decide) ?_
                refine ow_istoreNW (q := 100) X14 hx (L' := #[rv sx, iv i, iv r14, iv (1 : Int32)]) (hb hby own_d9_99) rfl rfl ?_
                refine ow_iloadNW (q := 101) X14 hx (hb hby own_d9_100) rfl rfl ?_
                refine ow_ifYesW (q := 111) X14 hx (hb hby own_d9_101) (Jvm.Free.XT.i0_ne_t (by decide)) (by decide) (by decide) ?_
                refine ow_iincW (q := 114) X14 hx (L' := #[rv sx, iv (i + (1 : Int32)), iv r14, iv (1 : Int32)]) (hb hby own_d9_111) rfl rfl rfl ?_
                generalize hv_v66 : (i + (1 : Int32)) = v66
                refine ow_gotoW (q := 32) X14 hx (hb hby own_d9_114) (by decide) (by decide) ?_
                exact ih11 v66 r14 (1 : Int32) _ _ X14 e14 N14 (own_ms hv_v66 hi0 hc37_13 rfl hm11) (own_i1 hv_v66 hi0 hc37_13).1 (own_i1 hv_v66 hi0 hc37_13).2
          · refine ow_icmpYesW (q := 94) X14 hx (hb hby own_d9_55) (Jvm.Free.XT.ii_le_t hc55_41) (by decide) (by decide) ?_
            refine ow_iconstW (q := 95) X14 hx (1 : Int32) (hb hby own_d9_94) rfl rfl ?_
            refine ow_gotoW (q := 99) X14 hx (hb hby own_d9_95) (by decide) (by decide) ?_
            refine ow_istoreNW (q := 100) X14 hx (L' := #[rv sx, iv i, iv r14, iv (1 : Int32)]) (hb hby own_d9_99) rfl rfl ?_
            refine ow_iloadNW (q := 101) X14 hx (hb hby own_d9_100) rfl rfl ?_
            refine ow_ifYesW (q := 111) X14 hx (hb hby own_d9_101) (Jvm.Free.XT.i0_ne_t (by decide)) (by decide) (by decide) ?_
            refine ow_iincW (q := 114) X14 hx (L' := #[rv sx, iv (i + (1 : Int32)), iv r14, iv (1 : Int32)]) (hb hby own_d9_111) rfl rfl rfl ?_
            generalize hv_v67 : (i + (1 : Int32)) = v67
            refine ow_gotoW (q := 32) X14 hx (hb hby own_d9_114) (by decide) (by decide) ?_
            exact ih11 v67 r14 (1 : Int32) _ _ X14 e14 N14 (own_ms hv_v67 hi0 hc37_13 rfl hm11) (own_i1 hv_v67 hi0 hc37_13).1 (own_i1 hv_v67 hi0 hc37_13).2
      · refine ow_icmpYesW (q := 117) X12 hx (hb hby own_d9_37) (Jvm.Free.XT.ii_ge_t hc37_13) (by decide) (by decide) ?_
        refine ow_aloadNW (q := 118) X12 hx (hb hby own_d9_117) rfl rfl rfl ?_
        refine ownRetRW X12 hx rfl rfl rfl Bd.returns (hb hby own_d9_118) hlk (by decide) (by decide) ?_
        refine ⟨?_, (by rw [e12]; exact Nat.le_refl _)⟩
        rw [e12]
        exact ⟨rfl, N12, K1⟩
  refine ow_iloadNW (q := 33) X10 hx (hb hby own_d9_32) rfl rfl ?_
  refine ow_aloadNW (q := 34) X10 hx (hb hby own_d9_33) rfl rfl rfl ?_
  obtain ⟨cq68, kq68, q68a, q68b, q68c⟩ := isOf hZ e10 F2
  obtain ⟨_, _, ⟨T68, L68, k68, n68⟩, -, X68, ⟨Lc68, hQ68, l68, y68, z68⟩, st68⟩ := X10.virtualBack hx (y := (⟨"java/lang/String", "length", "()I"⟩ : MethodName)) (z := (⟨"java/lang/String", "length", "()I"⟩ : MethodName)) hown (mvT hZ (ww 54 rfl)) (mvT hZ (ww 55 rfl)) (notFace_of_selects (args := #[]) (mvT hZ (ww 57 rfl))) (mvT hZ (ww 57 rfl)) (mvT hZ (ww 56 rfl)) (by decide) (backOf (W := 1) (rm_length3 l Z av0 hw [] sx t gb zc h1 n0 (Nat.le_trans Z0 K1.1) F2 F3 F4 F5 F6 hz) hZ (ww 58 rfl) (ww 11 rfl) (by decide) (by decide)) q68a q68c (g := (mkF m 34 #[rv sx, iv (0 : Int32), .unset, .unset] [(.ref sx), (.int (0 : Int32))])) rfl (by rw [hml]; rfl) (Steps.refl _) (argsL := []) (rest := [(.int (0 : Int32))]) (lenOf own_pd7 rfl) rfl (by show 2 * 0 + _ ≤ _; exact Nat.le_of_eq rfl) (hb hby own_d9_34) (fun _ _ => ⟨rfl, e10, (by decide : 2 + 0 ≤ _), (by decide : 12 + 0 ≤ _)⟩)
  dsimp only [Pt.U, Pt.locs, Pt.cells, Pt.slots] at X68 l68 y68 z68 st68 hQ68
  subst l68 y68 z68
  obtain ⟨rfl, N68q, e68⟩ := hQ68
  have N68 := Fr.app N10 N68q
  refine ownRunW (T' := T68) (f' := (mkF m 37 #[rv sx, iv (0 : Int32), .unset, .unset] [(.int (3 : Int32)), (.int (0 : Int32))])) st68 ?_
  refine ow_icmpNoW (q := 40) X68 hx (hb hby own_d9_37) rfl (Jvm.Free.XT.ii_ge_f (by decide)) ?_
  refine ow_aloadNW (q := 41) X68 hx (hb hby own_d9_40) rfl rfl rfl ?_
  refine ow_iloadNW (q := 42) X68 hx (hb hby own_d9_41) rfl rfl ?_
  obtain ⟨cq69, kq69, q69a, q69b, q69c⟩ := isOf hZ e68 F2
  obtain ⟨_, _, ⟨T69, L69, k69, n69⟩, -, X69, ⟨Lc69, hQ69, l69, y69, z69⟩, st69⟩ := X68.virtualBack hx (y := (⟨"java/lang/String", "charAt", "(I)C"⟩ : MethodName)) (z := (⟨"java/lang/String", "charAt", "(I)C"⟩ : MethodName)) hown (mvT hZ (ww 64 rfl)) (mvT hZ (ww 65 rfl)) (notFace_of_selects (args := #[]) (mvT hZ (ww 67 rfl))) (mvT hZ (ww 67 rfl)) (mvT hZ (ww 66 rfl)) (by decide) (backOf (W := 0) (rm_charAt3 l Z av0 hw [] sx (0 : Int32) t gb zc fm h1 n0 (Nat.le_trans Z0 K1.1) F2 F3 F4 F5 F6 F7 (by decide) (by decide) hz hr_fm hok) hZ (ww 68 rfl) (ww 11 rfl) (by decide) (by decide)) q69a q69c (g := (mkF m 42 #[rv sx, iv (0 : Int32), .unset, .unset] [(.int (0 : Int32)), (.ref sx)])) rfl (by rw [hml]; rfl) (Steps.refl _) (argsL := [(.int (0 : Int32))]) (rest := []) (lenOf own_pd0 rfl) rfl (by show 2 * 0 + _ ≤ _; exact Nat.le_of_eq rfl) (hb hby own_d9_42) (fun _ _ => ⟨rfl, e68, (by decide : 2 + 0 ≤ _), (by decide : 12 + 0 ≤ _)⟩)
  dsimp only [Pt.U, Pt.locs, Pt.cells, Pt.slots] at X69 l69 y69 z69 st69 hQ69
  subst l69 y69 z69
  obtain ⟨r69, rfl, N69q, e69, hp69⟩ := hQ69
  have N69 := Fr.app N68 N69q
  refine ownRunW (T' := T69) (f' := (mkF m 45 #[rv sx, iv (0 : Int32), .unset, .unset] [(.int r69)])) st69 ?_
  refine ow_istoreNW (q := 46) X69 hx (L' := #[rv sx, iv (0 : Int32), iv r69, .unset]) (hb hby own_d9_45) rfl rfl ?_
  refine ow_iloadNW (q := 47) X69 hx (hb hby own_d9_46) rfl rfl ?_
  refine ow_bipushW (q := 49) X69 hx (97 : Int32) (hb hby own_d9_47) rfl rfl ?_
  by_cases hc49_70 : r69 < (97 : Int32)
  · refine ow_icmpYesW (q := 58) X69 hx (hb hby own_d9_49) (Jvm.Free.XT.ii_lt_t hc49_70) (by decide) (by decide) ?_
    refine ow_iloadNW (q := 59) X69 hx (hb hby own_d9_58) rfl rfl ?_
    refine ow_bipushW (q := 61) X69 hx (65 : Int32) (hb hby own_d9_59) rfl rfl ?_
    by_cases hc61_71 : r69 < (65 : Int32)
    · refine ow_icmpYesW (q := 70) X69 hx (hb hby own_d9_61) (Jvm.Free.XT.ii_lt_t hc61_71) (by decide) (by decide) ?_
      refine ow_iloadNW (q := 71) X69 hx (hb hby own_d9_70) rfl rfl ?_
      refine ow_bipushW (q := 73) X69 hx (48 : Int32) (hb hby own_d9_71) rfl rfl ?_
      by_cases hc73_72 : r69 < (48 : Int32)
      · refine ow_icmpYesW (q := 82) X69 hx (hb hby own_d9_73) (Jvm.Free.XT.ii_lt_t hc73_72) (by decide) (by decide) ?_
        refine ow_iloadNW (q := 83) X69 hx (hb hby own_d9_82) rfl rfl ?_
        refine ow_bipushW (q := 85) X69 hx (95 : Int32) (hb hby own_d9_83) rfl rfl ?_
        by_cases hc85_73 : r69 = (95 : Int32)
        · refine ow_icmpYesW (q := 94) X69 hx (hb hby own_d9_85) (Jvm.Free.XT.ii_eq_t hc85_73) (by decide) (by decide) ?_
          refine ow_iconstW (q := 95) X69 hx (1 : Int32) (hb hby own_d9_94) rfl rfl ?_
          refine ow_gotoW (q := 99) X69 hx (hb hby own_d9_95) (by decide) (by decide) ?_
          refine ow_istoreNW (q := 100) X69 hx (L' := #[rv sx, iv (0 : Int32), iv r69, iv (1 : Int32)]) (hb hby own_d9_99) rfl rfl ?_
          refine ow_iloadNW (q := 101) X69 hx (hb hby own_d9_100) rfl rfl ?_
          refine ow_ifYesW (q := 111) X69 hx (hb hby own_d9_101) (Jvm.Free.XT.i0_ne_t (by decide)) (by decide) (by decide) ?_
          refine ow_iincW (q := 114) X69 hx (L' := #[rv sx, iv (1 : Int32), iv r69, iv (1 : Int32)]) (hb hby own_d9_111) rfl rfl rfl ?_
          refine ow_gotoW (q := 32) X69 hx (hb hby own_d9_114) (by decide) (by decide) ?_
          exact cut32_11 _ (1 : Int32) r69 (1 : Int32) _ _ X69 e69 N69 (Nat.lt_succ_self _) (by decide) (by decide)
        · refine ow_icmpNoW (q := 88) X69 hx (hb hby own_d9_85) rfl (Jvm.Free.XT.ii_eq_f hc85_73) ?_
          refine ow_iloadNW (q := 89) X69 hx (hb hby own_d9_88) rfl rfl ?_
          refine ow_bipushW (q := 91) X69 hx (45 : Int32) (hb hby own_d9_89) rfl rfl ?_
          by_cases hc91_74 : r69 = (45 : Int32)
          · refine ow_icmpNoW (q := 94) X69 hx (hb hby own_d9_91) rfl (Jvm.Free.XT.ii_ne_f hc91_74) ?_
            refine ow_iconstW (q := 95) X69 hx (1 : Int32) (hb hby own_d9_94) rfl rfl ?_
            refine ow_gotoW (q := 99) X69 hx (hb hby own_d9_95) (by decide) (by decide) ?_
            refine ow_istoreNW (q := 100) X69 hx (L' := #[rv sx, iv (0 : Int32), iv r69, iv (1 : Int32)]) (hb hby own_d9_99) rfl rfl ?_
            refine ow_iloadNW (q := 101) X69 hx (hb hby own_d9_100) rfl rfl ?_
            refine ow_ifYesW (q := 111) X69 hx (hb hby own_d9_101) (Jvm.Free.XT.i0_ne_t (by decide)) (by decide) (by decide) ?_
            refine ow_iincW (q := 114) X69 hx (L' := #[rv sx, iv (1 : Int32), iv r69, iv (1 : Int32)]) (hb hby own_d9_111) rfl rfl rfl ?_
            refine ow_gotoW (q := 32) X69 hx (hb hby own_d9_114) (by decide) (by decide) ?_
            exact cut32_11 _ (1 : Int32) r69 (1 : Int32) _ _ X69 e69 N69 (Nat.lt_succ_self _) (by decide) (by decide)
          · refine ow_icmpYesW (q := 98) X69 hx (hb hby own_d9_91) (Jvm.Free.XT.ii_ne_t hc91_74) (by decide) (by decide) ?_
            exfalso
            have hk := own_okI hp69
            have cc0 := own_ltI hc49_70
            have cc1 := own_ltI hc61_71
            have cc2 := own_ltI hc73_72
            have cc3 := own_neI hc85_73
            have cc4 := own_neI hc91_74
            simp only [Int32.reduceToInt] at cc0 cc1 cc2 cc3 cc4
            omega
      · refine ow_icmpNoW (q := 76) X69 hx (hb hby own_d9_73) rfl (Jvm.Free.XT.ii_lt_f hc73_72) ?_
        refine ow_iloadNW (q := 77) X69 hx (hb hby own_d9_76) rfl rfl ?_
        refine ow_bipushW (q := 79) X69 hx (57 : Int32) (hb hby own_d9_77) rfl rfl ?_
        by_cases hc79_75 : (57 : Int32) < r69
        · refine ow_icmpNoW (q := 82) X69 hx (hb hby own_d9_79) rfl (Jvm.Free.XT.ii_le_f hc79_75) ?_
          refine ow_iloadNW (q := 83) X69 hx (hb hby own_d9_82) rfl rfl ?_
          refine ow_bipushW (q := 85) X69 hx (95 : Int32) (hb hby own_d9_83) rfl rfl ?_
          by_cases hc85_76 : r69 = (95 : Int32)
          · refine ow_icmpYesW (q := 94) X69 hx (hb hby own_d9_85) (Jvm.Free.XT.ii_eq_t hc85_76) (by decide) (by decide) ?_
            refine ow_iconstW (q := 95) X69 hx (1 : Int32) (hb hby own_d9_94) rfl rfl ?_
            refine ow_gotoW (q := 99) X69 hx (hb hby own_d9_95) (by decide) (by decide) ?_
            refine ow_istoreNW (q := 100) X69 hx (L' := #[rv sx, iv (0 : Int32), iv r69, iv (1 : Int32)]) (hb hby own_d9_99) rfl rfl ?_
            refine ow_iloadNW (q := 101) X69 hx (hb hby own_d9_100) rfl rfl ?_
            refine ow_ifYesW (q := 111) X69 hx (hb hby own_d9_101) (Jvm.Free.XT.i0_ne_t (by decide)) (by decide) (by decide) ?_
            refine ow_iincW (q := 114) X69 hx (L' := #[rv sx, iv (1 : Int32), iv r69, iv (1 : Int32)]) (hb hby own_d9_111) rfl rfl rfl ?_
            refine ow_gotoW (q := 32) X69 hx (hb hby own_d9_114) (by decide) (by decide) ?_
            exact cut32_11 _ (1 : Int32) r69 (1 : Int32) _ _ X69 e69 N69 (Nat.lt_succ_self _) (by decide) (by decide)
          · refine ow_icmpNoW (q := 88) X69 hx (hb hby own_d9_85) rfl (Jvm.Free.XT.ii_eq_f hc85_76) ?_
            refine ow_iloadNW (q := 89) X69 hx (hb hby own_d9_88) rfl rfl ?_
            refine ow_bipushW (q := 91) X69 hx (45 : Int32) (hb hby own_d9_89) rfl rfl ?_
            by_cases hc91_77 : r69 = (45 : Int32)
            · refine ow_icmpNoW (q := 94) X69 hx (hb hby own_d9_91) rfl (Jvm.Free.XT.ii_ne_f hc91_77) ?_
              refine ow_iconstW (q := 95) X69 hx (1 : Int32) (hb hby own_d9_94) rfl rfl ?_
              refine ow_gotoW (q := 99) X69 hx (hb hby own_d9_95) (by decide) (by decide) ?_
              refine ow_istoreNW (q := 100) X69 hx (L' := #[rv sx, iv (0 : Int32), iv r69, iv (1 : Int32)]) (hb hby own_d9_99) rfl rfl ?_
              refine ow_iloadNW (q := 101) X69 hx (hb hby own_d9_100) rfl rfl ?_
              refine ow_ifYesW (q := 111) X69 hx (hb hby own_d9_101) (Jvm.Free.XT.i0_ne_t (by decide)) (by decide) (by decide) ?_
              refine ow_iincW (q := 114) X69 hx (L' := #[rv sx, iv (1 : Int32), iv r69, iv (1 : Int32)]) (hb hby own_d9_111) rfl rfl rfl ?_
              refine ow_gotoW (q := 32) X69 hx (hb hby own_d9_114) (by decide) (by decide) ?_
              exact cut32_11 _ (1 : Int32) r69 (1 : Int32) _ _ X69 e69 N69 (Nat.lt_succ_self _) (by decide) (by decide)
            · refine ow_icmpYesW (q := 98) X69 hx (hb hby own_d9_91) (Jvm.Free.XT.ii_ne_t hc91_77) (by decide) (by decide) ?_
              exfalso
              have hk := own_okI hp69
              have cc0 := own_ltI hc49_70
              have cc1 := own_ltI hc61_71
              have cc2 := own_nltI hc73_72
              have cc3 := own_ltI hc79_75
              have cc4 := own_neI hc85_76
              have cc5 := own_neI hc91_77
              simp only [Int32.reduceToInt] at cc0 cc1 cc2 cc3 cc4 cc5
              omega
        · refine ow_icmpYesW (q := 94) X69 hx (hb hby own_d9_79) (Jvm.Free.XT.ii_le_t hc79_75) (by decide) (by decide) ?_
          refine ow_iconstW (q := 95) X69 hx (1 : Int32) (hb hby own_d9_94) rfl rfl ?_
          refine ow_gotoW (q := 99) X69 hx (hb hby own_d9_95) (by decide) (by decide) ?_
          refine ow_istoreNW (q := 100) X69 hx (L' := #[rv sx, iv (0 : Int32), iv r69, iv (1 : Int32)]) (hb hby own_d9_99) rfl rfl ?_
          refine ow_iloadNW (q := 101) X69 hx (hb hby own_d9_100) rfl rfl ?_
          refine ow_ifYesW (q := 111) X69 hx (hb hby own_d9_101) (Jvm.Free.XT.i0_ne_t (by decide)) (by decide) (by decide) ?_
          refine ow_iincW (q := 114) X69 hx (L' := #[rv sx, iv (1 : Int32), iv r69, iv (1 : Int32)]) (hb hby own_d9_111) rfl rfl rfl ?_
          refine ow_gotoW (q := 32) X69 hx (hb hby own_d9_114) (by decide) (by decide) ?_
          exact cut32_11 _ (1 : Int32) r69 (1 : Int32) _ _ X69 e69 N69 (Nat.lt_succ_self _) (by decide) (by decide)
    · refine ow_icmpNoW (q := 64) X69 hx (hb hby own_d9_61) rfl (Jvm.Free.XT.ii_lt_f hc61_71) ?_
      refine ow_iloadNW (q := 65) X69 hx (hb hby own_d9_64) rfl rfl ?_
      refine ow_bipushW (q := 67) X69 hx (90 : Int32) (hb hby own_d9_65) rfl rfl ?_
      by_cases hc67_78 : (90 : Int32) < r69
      · refine ow_icmpNoW (q := 70) X69 hx (hb hby own_d9_67) rfl (Jvm.Free.XT.ii_le_f hc67_78) ?_
        refine ow_iloadNW (q := 71) X69 hx (hb hby own_d9_70) rfl rfl ?_
        refine ow_bipushW (q := 73) X69 hx (48 : Int32) (hb hby own_d9_71) rfl rfl ?_
        by_cases hc73_79 : r69 < (48 : Int32)
        · refine ow_icmpYesW (q := 82) X69 hx (hb hby own_d9_73) (Jvm.Free.XT.ii_lt_t hc73_79) (by decide) (by decide) ?_
          refine ow_iloadNW (q := 83) X69 hx (hb hby own_d9_82) rfl rfl ?_
          refine ow_bipushW (q := 85) X69 hx (95 : Int32) (hb hby own_d9_83) rfl rfl ?_
          by_cases hc85_80 : r69 = (95 : Int32)
          · refine ow_icmpYesW (q := 94) X69 hx (hb hby own_d9_85) (Jvm.Free.XT.ii_eq_t hc85_80) (by decide) (by decide) ?_
            refine ow_iconstW (q := 95) X69 hx (1 : Int32) (hb hby own_d9_94) rfl rfl ?_
            refine ow_gotoW (q := 99) X69 hx (hb hby own_d9_95) (by decide) (by decide) ?_
            refine ow_istoreNW (q := 100) X69 hx (L' := #[rv sx, iv (0 : Int32), iv r69, iv (1 : Int32)]) (hb hby own_d9_99) rfl rfl ?_
            refine ow_iloadNW (q := 101) X69 hx (hb hby own_d9_100) rfl rfl ?_
            refine ow_ifYesW (q := 111) X69 hx (hb hby own_d9_101) (Jvm.Free.XT.i0_ne_t (by decide)) (by decide) (by decide) ?_
            refine ow_iincW (q := 114) X69 hx (L' := #[rv sx, iv (1 : Int32), iv r69, iv (1 : Int32)]) (hb hby own_d9_111) rfl rfl rfl ?_
            refine ow_gotoW (q := 32) X69 hx (hb hby own_d9_114) (by decide) (by decide) ?_
            exact cut32_11 _ (1 : Int32) r69 (1 : Int32) _ _ X69 e69 N69 (Nat.lt_succ_self _) (by decide) (by decide)
          · refine ow_icmpNoW (q := 88) X69 hx (hb hby own_d9_85) rfl (Jvm.Free.XT.ii_eq_f hc85_80) ?_
            refine ow_iloadNW (q := 89) X69 hx (hb hby own_d9_88) rfl rfl ?_
            refine ow_bipushW (q := 91) X69 hx (45 : Int32) (hb hby own_d9_89) rfl rfl ?_
            by_cases hc91_81 : r69 = (45 : Int32)
            · refine ow_icmpNoW (q := 94) X69 hx (hb hby own_d9_91) rfl (Jvm.Free.XT.ii_ne_f hc91_81) ?_
              refine ow_iconstW (q := 95) X69 hx (1 : Int32) (hb hby own_d9_94) rfl rfl ?_
              refine ow_gotoW (q := 99) X69 hx (hb hby own_d9_95) (by decide) (by decide) ?_
              refine ow_istoreNW (q := 100) X69 hx (L' := #[rv sx, iv (0 : Int32), iv r69, iv (1 : Int32)]) (hb hby own_d9_99) rfl rfl ?_
              refine ow_iloadNW (q := 101) X69 hx (hb hby own_d9_100) rfl rfl ?_
              refine ow_ifYesW (q := 111) X69 hx (hb hby own_d9_101) (Jvm.Free.XT.i0_ne_t (by decide)) (by decide) (by decide) ?_
              refine ow_iincW (q := 114) X69 hx (L' := #[rv sx, iv (1 : Int32), iv r69, iv (1 : Int32)]) (hb hby own_d9_111) rfl rfl rfl ?_
              refine ow_gotoW (q := 32) X69 hx (hb hby own_d9_114) (by decide) (by decide) ?_
              exact cut32_11 _ (1 : Int32) r69 (1 : Int32) _ _ X69 e69 N69 (Nat.lt_succ_self _) (by decide) (by decide)
            · refine ow_icmpYesW (q := 98) X69 hx (hb hby own_d9_91) (Jvm.Free.XT.ii_ne_t hc91_81) (by decide) (by decide) ?_
              exfalso
              have hk := own_okI hp69
              have cc0 := own_ltI hc49_70
              have cc1 := own_nltI hc61_71
              have cc2 := own_ltI hc67_78
              have cc3 := own_ltI hc73_79
              have cc4 := own_neI hc85_80
              have cc5 := own_neI hc91_81
              simp only [Int32.reduceToInt] at cc0 cc1 cc2 cc3 cc4 cc5
              omega
        · refine ow_icmpNoW (q := 76) X69 hx (hb hby own_d9_73) rfl (Jvm.Free.XT.ii_lt_f hc73_79) ?_
          refine ow_iloadNW (q := 77) X69 hx (hb hby own_d9_76) rfl rfl ?_
          refine ow_bipushW (q := 79) X69 hx (57 : Int32) (hb hby own_d9_77) rfl rfl ?_
          by_cases hc79_82 : (57 : Int32) < r69
          · refine ow_icmpNoW (q := 82) X69 hx (hb hby own_d9_79) rfl (Jvm.Free.XT.ii_le_f hc79_82) ?_
            refine ow_iloadNW (q := 83) X69 hx (hb hby own_d9_82) rfl rfl ?_
            refine ow_bipushW (q := 85) X69 hx (95 : Int32) (hb hby own_d9_83) rfl rfl ?_
            by_cases hc85_83 : r69 = (95 : Int32)
            · refine ow_icmpYesW (q := 94) X69 hx (hb hby own_d9_85) (Jvm.Free.XT.ii_eq_t hc85_83) (by decide) (by decide) ?_
              refine ow_iconstW (q := 95) X69 hx (1 : Int32) (hb hby own_d9_94) rfl rfl ?_
              refine ow_gotoW (q := 99) X69 hx (hb hby own_d9_95) (by decide) (by decide) ?_
              refine ow_istoreNW (q := 100) X69 hx (L' := #[rv sx, iv (0 : Int32), iv r69, iv (1 : Int32)]) (hb hby own_d9_99) rfl rfl ?_
              refine ow_iloadNW (q := 101) X69 hx (hb hby own_d9_100) rfl rfl ?_
              refine ow_ifYesW (q := 111) X69 hx (hb hby own_d9_101) (Jvm.Free.XT.i0_ne_t (by decide)) (by decide) (by decide) ?_
              refine ow_iincW (q := 114) X69 hx (L' := #[rv sx, iv (1 : Int32), iv r69, iv (1 : Int32)]) (hb hby own_d9_111) rfl rfl rfl ?_
              refine ow_gotoW (q := 32) X69 hx (hb hby own_d9_114) (by decide) (by decide) ?_
              exact cut32_11 _ (1 : Int32) r69 (1 : Int32) _ _ X69 e69 N69 (Nat.lt_succ_self _) (by decide) (by decide)
            · refine ow_icmpNoW (q := 88) X69 hx (hb hby own_d9_85) rfl (Jvm.Free.XT.ii_eq_f hc85_83) ?_
              refine ow_iloadNW (q := 89) X69 hx (hb hby own_d9_88) rfl rfl ?_
              refine ow_bipushW (q := 91) X69 hx (45 : Int32) (hb hby own_d9_89) rfl rfl ?_
              by_cases hc91_84 : r69 = (45 : Int32)
              · refine ow_icmpNoW (q := 94) X69 hx (hb hby own_d9_91) rfl (Jvm.Free.XT.ii_ne_f hc91_84) ?_
                refine ow_iconstW (q := 95) X69 hx (1 : Int32) (hb hby own_d9_94) rfl rfl ?_
                refine ow_gotoW (q := 99) X69 hx (hb hby own_d9_95) (by decide) (by decide) ?_
                refine ow_istoreNW (q := 100) X69 hx (L' := #[rv sx, iv (0 : Int32), iv r69, iv (1 : Int32)]) (hb hby own_d9_99) rfl rfl ?_
                refine ow_iloadNW (q := 101) X69 hx (hb hby own_d9_100) rfl rfl ?_
                refine ow_ifYesW (q := 111) X69 hx (hb hby own_d9_101) (Jvm.Free.XT.i0_ne_t (by decide)) (by decide) (by decide) ?_
                refine ow_iincW (q := 114) X69 hx (L' := #[rv sx, iv (1 : Int32), iv r69, iv (1 : Int32)]) (hb hby own_d9_111) rfl rfl rfl ?_
                refine ow_gotoW (q := 32) X69 hx (hb hby own_d9_114) (by decide) (by decide) ?_
                exact cut32_11 _ (1 : Int32) r69 (1 : Int32) _ _ X69 e69 N69 (Nat.lt_succ_self _) (by decide) (by decide)
              · refine ow_icmpYesW (q := 98) X69 hx (hb hby own_d9_91) (Jvm.Free.XT.ii_ne_t hc91_84) (by decide) (by decide) ?_
                exfalso
                have hk := own_okI hp69
                have cc0 := own_ltI hc49_70
                have cc1 := own_nltI hc61_71
                have cc2 := own_ltI hc67_78
                have cc3 := own_nltI hc73_79
                have cc4 := own_ltI hc79_82
                have cc5 := own_neI hc85_83
                have cc6 := own_neI hc91_84
                simp only [Int32.reduceToInt] at cc0 cc1 cc2 cc3 cc4 cc5 cc6
                omega
          · refine ow_icmpYesW (q := 94) X69 hx (hb hby own_d9_79) (Jvm.Free.XT.ii_le_t hc79_82) (by decide) (by decide) ?_
            refine ow_iconstW (q := 95) X69 hx (1 : Int32) (hb hby own_d9_94) rfl rfl ?_
            refine ow_gotoW (q := 99) X69 hx (hb hby own_d9_95) (by decide) (by decide) ?_
            refine ow_istoreNW (q := 100) X69 hx (L' := #[rv sx, iv (0 : Int32), iv r69, iv (1 : Int32)]) (hb hby own_d9_99) rfl rfl ?_
            refine ow_iloadNW (q := 101) X69 hx (hb hby own_d9_100) rfl rfl ?_
            refine ow_ifYesW (q := 111) X69 hx (hb hby own_d9_101) (Jvm.Free.XT.i0_ne_t (by decide)) (by decide) (by decide) ?_
            refine ow_iincW (q := 114) X69 hx (L' := #[rv sx, iv (1 : Int32), iv r69, iv (1 : Int32)]) (hb hby own_d9_111) rfl rfl rfl ?_
            refine ow_gotoW (q := 32) X69 hx (hb hby own_d9_114) (by decide) (by decide) ?_
            exact cut32_11 _ (1 : Int32) r69 (1 : Int32) _ _ X69 e69 N69 (Nat.lt_succ_self _) (by decide) (by decide)
      · refine ow_icmpYesW (q := 94) X69 hx (hb hby own_d9_67) (Jvm.Free.XT.ii_le_t hc67_78) (by decide) (by decide) ?_
        refine ow_iconstW (q := 95) X69 hx (1 : Int32) (hb hby own_d9_94) rfl rfl ?_
        refine ow_gotoW (q := 99) X69 hx (hb hby own_d9_95) (by decide) (by decide) ?_
        refine ow_istoreNW (q := 100) X69 hx (L' := #[rv sx, iv (0 : Int32), iv r69, iv (1 : Int32)]) (hb hby own_d9_99) rfl rfl ?_
        refine ow_iloadNW (q := 101) X69 hx (hb hby own_d9_100) rfl rfl ?_
        refine ow_ifYesW (q := 111) X69 hx (hb hby own_d9_101) (Jvm.Free.XT.i0_ne_t (by decide)) (by decide) (by decide) ?_
        refine ow_iincW (q := 114) X69 hx (L' := #[rv sx, iv (1 : Int32), iv r69, iv (1 : Int32)]) (hb hby own_d9_111) rfl rfl rfl ?_
        refine ow_gotoW (q := 32) X69 hx (hb hby own_d9_114) (by decide) (by decide) ?_
        exact cut32_11 _ (1 : Int32) r69 (1 : Int32) _ _ X69 e69 N69 (Nat.lt_succ_self _) (by decide) (by decide)
  · refine ow_icmpNoW (q := 52) X69 hx (hb hby own_d9_49) rfl (Jvm.Free.XT.ii_lt_f hc49_70) ?_
    refine ow_iloadNW (q := 53) X69 hx (hb hby own_d9_52) rfl rfl ?_
    refine ow_bipushW (q := 55) X69 hx (122 : Int32) (hb hby own_d9_53) rfl rfl ?_
    by_cases hc55_85 : (122 : Int32) < r69
    · refine ow_icmpNoW (q := 58) X69 hx (hb hby own_d9_55) rfl (Jvm.Free.XT.ii_le_f hc55_85) ?_
      refine ow_iloadNW (q := 59) X69 hx (hb hby own_d9_58) rfl rfl ?_
      refine ow_bipushW (q := 61) X69 hx (65 : Int32) (hb hby own_d9_59) rfl rfl ?_
      by_cases hc61_86 : r69 < (65 : Int32)
      · refine ow_icmpYesW (q := 70) X69 hx (hb hby own_d9_61) (Jvm.Free.XT.ii_lt_t hc61_86) (by decide) (by decide) ?_
        refine ow_iloadNW (q := 71) X69 hx (hb hby own_d9_70) rfl rfl ?_
        refine ow_bipushW (q := 73) X69 hx (48 : Int32) (hb hby own_d9_71) rfl rfl ?_
        by_cases hc73_87 : r69 < (48 : Int32)
        · refine ow_icmpYesW (q := 82) X69 hx (hb hby own_d9_73) (Jvm.Free.XT.ii_lt_t hc73_87) (by decide) (by decide) ?_
          refine ow_iloadNW (q := 83) X69 hx (hb hby own_d9_82) rfl rfl ?_
          refine ow_bipushW (q := 85) X69 hx (95 : Int32) (hb hby own_d9_83) rfl rfl ?_
          by_cases hc85_88 : r69 = (95 : Int32)
          · refine ow_icmpYesW (q := 94) X69 hx (hb hby own_d9_85) (Jvm.Free.XT.ii_eq_t hc85_88) (by decide) (by decide) ?_
            refine ow_iconstW (q := 95) X69 hx (1 : Int32) (hb hby own_d9_94) rfl rfl ?_
            refine ow_gotoW (q := 99) X69 hx (hb hby own_d9_95) (by decide) (by decide) ?_
            refine ow_istoreNW (q := 100) X69 hx (L' := #[rv sx, iv (0 : Int32), iv r69, iv (1 : Int32)]) (hb hby own_d9_99) rfl rfl ?_
            refine ow_iloadNW (q := 101) X69 hx (hb hby own_d9_100) rfl rfl ?_
            refine ow_ifYesW (q := 111) X69 hx (hb hby own_d9_101) (Jvm.Free.XT.i0_ne_t (by decide)) (by decide) (by decide) ?_
            refine ow_iincW (q := 114) X69 hx (L' := #[rv sx, iv (1 : Int32), iv r69, iv (1 : Int32)]) (hb hby own_d9_111) rfl rfl rfl ?_
            refine ow_gotoW (q := 32) X69 hx (hb hby own_d9_114) (by decide) (by decide) ?_
            exact cut32_11 _ (1 : Int32) r69 (1 : Int32) _ _ X69 e69 N69 (Nat.lt_succ_self _) (by decide) (by decide)
          · refine ow_icmpNoW (q := 88) X69 hx (hb hby own_d9_85) rfl (Jvm.Free.XT.ii_eq_f hc85_88) ?_
            refine ow_iloadNW (q := 89) X69 hx (hb hby own_d9_88) rfl rfl ?_
            refine ow_bipushW (q := 91) X69 hx (45 : Int32) (hb hby own_d9_89) rfl rfl ?_
            by_cases hc91_89 : r69 = (45 : Int32)
            · refine ow_icmpNoW (q := 94) X69 hx (hb hby own_d9_91) rfl (Jvm.Free.XT.ii_ne_f hc91_89) ?_
              refine ow_iconstW (q := 95) X69 hx (1 : Int32) (hb hby own_d9_94) rfl rfl ?_
              refine ow_gotoW (q := 99) X69 hx (hb hby own_d9_95) (by decide) (by decide) ?_
              refine ow_istoreNW (q := 100) X69 hx (L' := #[rv sx, iv (0 : Int32), iv r69, iv (1 : Int32)]) (hb hby own_d9_99) rfl rfl ?_
              refine ow_iloadNW (q := 101) X69 hx (hb hby own_d9_100) rfl rfl ?_
              refine ow_ifYesW (q := 111) X69 hx (hb hby own_d9_101) (Jvm.Free.XT.i0_ne_t (by decide)) (by decide) (by decide) ?_
              refine ow_iincW (q := 114) X69 hx (L' := #[rv sx, iv (1 : Int32), iv r69, iv (1 : Int32)]) (hb hby own_d9_111) rfl rfl rfl ?_
              refine ow_gotoW (q := 32) X69 hx (hb hby own_d9_114) (by decide) (by decide) ?_
              exact cut32_11 _ (1 : Int32) r69 (1 : Int32) _ _ X69 e69 N69 (Nat.lt_succ_self _) (by decide) (by decide)
            · refine ow_icmpYesW (q := 98) X69 hx (hb hby own_d9_91) (Jvm.Free.XT.ii_ne_t hc91_89) (by decide) (by decide) ?_
              exfalso
              have hk := own_okI hp69
              have cc0 := own_nltI hc49_70
              have cc1 := own_ltI hc55_85
              have cc2 := own_ltI hc61_86
              have cc3 := own_ltI hc73_87
              have cc4 := own_neI hc85_88
              have cc5 := own_neI hc91_89
              simp only [Int32.reduceToInt] at cc0 cc1 cc2 cc3 cc4 cc5
              omega
        · refine ow_icmpNoW (q := 76) X69 hx (hb hby own_d9_73) rfl (Jvm.Free.XT.ii_lt_f hc73_87) ?_
          refine ow_iloadNW (q := 77) X69 hx (hb hby own_d9_76) rfl rfl ?_
          refine ow_bipushW (q := 79) X69 hx (57 : Int32) (hb hby own_d9_77) rfl rfl ?_
          by_cases hc79_90 : (57 : Int32) < r69
          · refine ow_icmpNoW (q := 82) X69 hx (hb hby own_d9_79) rfl (Jvm.Free.XT.ii_le_f hc79_90) ?_
            refine ow_iloadNW (q := 83) X69 hx (hb hby own_d9_82) rfl rfl ?_
            refine ow_bipushW (q := 85) X69 hx (95 : Int32) (hb hby own_d9_83) rfl rfl ?_
            by_cases hc85_91 : r69 = (95 : Int32)
            · refine ow_icmpYesW (q := 94) X69 hx (hb hby own_d9_85) (Jvm.Free.XT.ii_eq_t hc85_91) (by decide) (by decide) ?_
              refine ow_iconstW (q := 95) X69 hx (1 : Int32) (hb hby own_d9_94) rfl rfl ?_
              refine ow_gotoW (q := 99) X69 hx (hb hby own_d9_95) (by decide) (by decide) ?_
              refine ow_istoreNW (q := 100) X69 hx (L' := #[rv sx, iv (0 : Int32), iv r69, iv (1 : Int32)]) (hb hby own_d9_99) rfl rfl ?_
              refine ow_iloadNW (q := 101) X69 hx (hb hby own_d9_100) rfl rfl ?_
              refine ow_ifYesW (q := 111) X69 hx (hb hby own_d9_101) (Jvm.Free.XT.i0_ne_t (by decide)) (by decide) (by decide) ?_
              refine ow_iincW (q := 114) X69 hx (L' := #[rv sx, iv (1 : Int32), iv r69, iv (1 : Int32)]) (hb hby own_d9_111) rfl rfl rfl ?_
              refine ow_gotoW (q := 32) X69 hx (hb hby own_d9_114) (by decide) (by decide) ?_
              exact cut32_11 _ (1 : Int32) r69 (1 : Int32) _ _ X69 e69 N69 (Nat.lt_succ_self _) (by decide) (by decide)
            · refine ow_icmpNoW (q := 88) X69 hx (hb hby own_d9_85) rfl (Jvm.Free.XT.ii_eq_f hc85_91) ?_
              refine ow_iloadNW (q := 89) X69 hx (hb hby own_d9_88) rfl rfl ?_
              refine ow_bipushW (q := 91) X69 hx (45 : Int32) (hb hby own_d9_89) rfl rfl ?_
              by_cases hc91_92 : r69 = (45 : Int32)
              · refine ow_icmpNoW (q := 94) X69 hx (hb hby own_d9_91) rfl (Jvm.Free.XT.ii_ne_f hc91_92) ?_
                refine ow_iconstW (q := 95) X69 hx (1 : Int32) (hb hby own_d9_94) rfl rfl ?_
                refine ow_gotoW (q := 99) X69 hx (hb hby own_d9_95) (by decide) (by decide) ?_
                refine ow_istoreNW (q := 100) X69 hx (L' := #[rv sx, iv (0 : Int32), iv r69, iv (1 : Int32)]) (hb hby own_d9_99) rfl rfl ?_
                refine ow_iloadNW (q := 101) X69 hx (hb hby own_d9_100) rfl rfl ?_
                refine ow_ifYesW (q := 111) X69 hx (hb hby own_d9_101) (Jvm.Free.XT.i0_ne_t (by decide)) (by decide) (by decide) ?_
                refine ow_iincW (q := 114) X69 hx (L' := #[rv sx, iv (1 : Int32), iv r69, iv (1 : Int32)]) (hb hby own_d9_111) rfl rfl rfl ?_
                refine ow_gotoW (q := 32) X69 hx (hb hby own_d9_114) (by decide) (by decide) ?_
                exact cut32_11 _ (1 : Int32) r69 (1 : Int32) _ _ X69 e69 N69 (Nat.lt_succ_self _) (by decide) (by decide)
              · refine ow_icmpYesW (q := 98) X69 hx (hb hby own_d9_91) (Jvm.Free.XT.ii_ne_t hc91_92) (by decide) (by decide) ?_
                exfalso
                have hk := own_okI hp69
                have cc0 := own_nltI hc49_70
                have cc1 := own_ltI hc55_85
                have cc2 := own_ltI hc61_86
                have cc3 := own_nltI hc73_87
                have cc4 := own_ltI hc79_90
                have cc5 := own_neI hc85_91
                have cc6 := own_neI hc91_92
                simp only [Int32.reduceToInt] at cc0 cc1 cc2 cc3 cc4 cc5 cc6
                omega
          · refine ow_icmpYesW (q := 94) X69 hx (hb hby own_d9_79) (Jvm.Free.XT.ii_le_t hc79_90) (by decide) (by decide) ?_
            refine ow_iconstW (q := 95) X69 hx (1 : Int32) (hb hby own_d9_94) rfl rfl ?_
            refine ow_gotoW (q := 99) X69 hx (hb hby own_d9_95) (by decide) (by decide) ?_
            refine ow_istoreNW (q := 100) X69 hx (L' := #[rv sx, iv (0 : Int32), iv r69, iv (1 : Int32)]) (hb hby own_d9_99) rfl rfl ?_
            refine ow_iloadNW (q := 101) X69 hx (hb hby own_d9_100) rfl rfl ?_
            refine ow_ifYesW (q := 111) X69 hx (hb hby own_d9_101) (Jvm.Free.XT.i0_ne_t (by decide)) (by decide) (by decide) ?_
            refine ow_iincW (q := 114) X69 hx (L' := #[rv sx, iv (1 : Int32), iv r69, iv (1 : Int32)]) (hb hby own_d9_111) rfl rfl rfl ?_
            refine ow_gotoW (q := 32) X69 hx (hb hby own_d9_114) (by decide) (by decide) ?_
            exact cut32_11 _ (1 : Int32) r69 (1 : Int32) _ _ X69 e69 N69 (Nat.lt_succ_self _) (by decide) (by decide)
      · refine ow_icmpNoW (q := 64) X69 hx (hb hby own_d9_61) rfl (Jvm.Free.XT.ii_lt_f hc61_86) ?_
        refine ow_iloadNW (q := 65) X69 hx (hb hby own_d9_64) rfl rfl ?_
        refine ow_bipushW (q := 67) X69 hx (90 : Int32) (hb hby own_d9_65) rfl rfl ?_
        by_cases hc67_93 : (90 : Int32) < r69
        · refine ow_icmpNoW (q := 70) X69 hx (hb hby own_d9_67) rfl (Jvm.Free.XT.ii_le_f hc67_93) ?_
          refine ow_iloadNW (q := 71) X69 hx (hb hby own_d9_70) rfl rfl ?_
          refine ow_bipushW (q := 73) X69 hx (48 : Int32) (hb hby own_d9_71) rfl rfl ?_
          by_cases hc73_94 : r69 < (48 : Int32)
          · refine ow_icmpYesW (q := 82) X69 hx (hb hby own_d9_73) (Jvm.Free.XT.ii_lt_t hc73_94) (by decide) (by decide) ?_
            refine ow_iloadNW (q := 83) X69 hx (hb hby own_d9_82) rfl rfl ?_
            refine ow_bipushW (q := 85) X69 hx (95 : Int32) (hb hby own_d9_83) rfl rfl ?_
            by_cases hc85_95 : r69 = (95 : Int32)
            · refine ow_icmpYesW (q := 94) X69 hx (hb hby own_d9_85) (Jvm.Free.XT.ii_eq_t hc85_95) (by decide) (by decide) ?_
              refine ow_iconstW (q := 95) X69 hx (1 : Int32) (hb hby own_d9_94) rfl rfl ?_
              refine ow_gotoW (q := 99) X69 hx (hb hby own_d9_95) (by decide) (by decide) ?_
              refine ow_istoreNW (q := 100) X69 hx (L' := #[rv sx, iv (0 : Int32), iv r69, iv (1 : Int32)]) (hb hby own_d9_99) rfl rfl ?_
              refine ow_iloadNW (q := 101) X69 hx (hb hby own_d9_100) rfl rfl ?_
              refine ow_ifYesW (q := 111) X69 hx (hb hby own_d9_101) (Jvm.Free.XT.i0_ne_t (by decide)) (by decide) (by decide) ?_
              refine ow_iincW (q := 114) X69 hx (L' := #[rv sx, iv (1 : Int32), iv r69, iv (1 : Int32)]) (hb hby own_d9_111) rfl rfl rfl ?_
              refine ow_gotoW (q := 32) X69 hx (hb hby own_d9_114) (by decide) (by decide) ?_
              exact cut32_11 _ (1 : Int32) r69 (1 : Int32) _ _ X69 e69 N69 (Nat.lt_succ_self _) (by decide) (by decide)
            · refine ow_icmpNoW (q := 88) X69 hx (hb hby own_d9_85) rfl (Jvm.Free.XT.ii_eq_f hc85_95) ?_
              refine ow_iloadNW (q := 89) X69 hx (hb hby own_d9_88) rfl rfl ?_
              refine ow_bipushW (q := 91) X69 hx (45 : Int32) (hb hby own_d9_89) rfl rfl ?_
              by_cases hc91_96 : r69 = (45 : Int32)
              · refine ow_icmpNoW (q := 94) X69 hx (hb hby own_d9_91) rfl (Jvm.Free.XT.ii_ne_f hc91_96) ?_
                refine ow_iconstW (q := 95) X69 hx (1 : Int32) (hb hby own_d9_94) rfl rfl ?_
                refine ow_gotoW (q := 99) X69 hx (hb hby own_d9_95) (by decide) (by decide) ?_
                refine ow_istoreNW (q := 100) X69 hx (L' := #[rv sx, iv (0 : Int32), iv r69, iv (1 : Int32)]) (hb hby own_d9_99) rfl rfl ?_
                refine ow_iloadNW (q := 101) X69 hx (hb hby own_d9_100) rfl rfl ?_
                refine ow_ifYesW (q := 111) X69 hx (hb hby own_d9_101) (Jvm.Free.XT.i0_ne_t (by decide)) (by decide) (by decide) ?_
                refine ow_iincW (q := 114) X69 hx (L' := #[rv sx, iv (1 : Int32), iv r69, iv (1 : Int32)]) (hb hby own_d9_111) rfl rfl rfl ?_
                refine ow_gotoW (q := 32) X69 hx (hb hby own_d9_114) (by decide) (by decide) ?_
                exact cut32_11 _ (1 : Int32) r69 (1 : Int32) _ _ X69 e69 N69 (Nat.lt_succ_self _) (by decide) (by decide)
              · refine ow_icmpYesW (q := 98) X69 hx (hb hby own_d9_91) (Jvm.Free.XT.ii_ne_t hc91_96) (by decide) (by decide) ?_
                exfalso
                have hk := own_okI hp69
                have cc0 := own_nltI hc49_70
                have cc1 := own_ltI hc55_85
                have cc2 := own_nltI hc61_86
                have cc3 := own_ltI hc67_93
                have cc4 := own_ltI hc73_94
                have cc5 := own_neI hc85_95
                have cc6 := own_neI hc91_96
                simp only [Int32.reduceToInt] at cc0 cc1 cc2 cc3 cc4 cc5 cc6
                omega
          · refine ow_icmpNoW (q := 76) X69 hx (hb hby own_d9_73) rfl (Jvm.Free.XT.ii_lt_f hc73_94) ?_
            refine ow_iloadNW (q := 77) X69 hx (hb hby own_d9_76) rfl rfl ?_
            refine ow_bipushW (q := 79) X69 hx (57 : Int32) (hb hby own_d9_77) rfl rfl ?_
            by_cases hc79_97 : (57 : Int32) < r69
            · refine ow_icmpNoW (q := 82) X69 hx (hb hby own_d9_79) rfl (Jvm.Free.XT.ii_le_f hc79_97) ?_
              refine ow_iloadNW (q := 83) X69 hx (hb hby own_d9_82) rfl rfl ?_
              refine ow_bipushW (q := 85) X69 hx (95 : Int32) (hb hby own_d9_83) rfl rfl ?_
              by_cases hc85_98 : r69 = (95 : Int32)
              · refine ow_icmpYesW (q := 94) X69 hx (hb hby own_d9_85) (Jvm.Free.XT.ii_eq_t hc85_98) (by decide) (by decide) ?_
                refine ow_iconstW (q := 95) X69 hx (1 : Int32) (hb hby own_d9_94) rfl rfl ?_
                refine ow_gotoW (q := 99) X69 hx (hb hby own_d9_95) (by decide) (by decide) ?_
                refine ow_istoreNW (q := 100) X69 hx (L' := #[rv sx, iv (0 : Int32), iv r69, iv (1 : Int32)]) (hb hby own_d9_99) rfl rfl ?_
                refine ow_iloadNW (q := 101) X69 hx (hb hby own_d9_100) rfl rfl ?_
                refine ow_ifYesW (q := 111) X69 hx (hb hby own_d9_101) (Jvm.Free.XT.i0_ne_t (by decide)) (by decide) (by decide) ?_
                refine ow_iincW (q := 114) X69 hx (L' := #[rv sx, iv (1 : Int32), iv r69, iv (1 : Int32)]) (hb hby own_d9_111) rfl rfl rfl ?_
                refine ow_gotoW (q := 32) X69 hx (hb hby own_d9_114) (by decide) (by decide) ?_
                exact cut32_11 _ (1 : Int32) r69 (1 : Int32) _ _ X69 e69 N69 (Nat.lt_succ_self _) (by decide) (by decide)
              · refine ow_icmpNoW (q := 88) X69 hx (hb hby own_d9_85) rfl (Jvm.Free.XT.ii_eq_f hc85_98) ?_
                refine ow_iloadNW (q := 89) X69 hx (hb hby own_d9_88) rfl rfl ?_
                refine ow_bipushW (q := 91) X69 hx (45 : Int32) (hb hby own_d9_89) rfl rfl ?_
                by_cases hc91_99 : r69 = (45 : Int32)
                · refine ow_icmpNoW (q := 94) X69 hx (hb hby own_d9_91) rfl (Jvm.Free.XT.ii_ne_f hc91_99) ?_
                  refine ow_iconstW (q := 95) X69 hx (1 : Int32) (hb hby own_d9_94) rfl rfl ?_
                  refine ow_gotoW (q := 99) X69 hx (hb hby own_d9_95) (by decide) (by decide) ?_
                  refine ow_istoreNW (q := 100) X69 hx (L' := #[rv sx, iv (0 : Int32), iv r69, iv (1 : Int32)]) (hb hby own_d9_99) rfl rfl ?_
                  refine ow_iloadNW (q := 101) X69 hx (hb hby own_d9_100) rfl rfl ?_
                  refine ow_ifYesW (q := 111) X69 hx (hb hby own_d9_101) (Jvm.Free.XT.i0_ne_t (by decide)) (by decide) (by decide) ?_
                  refine ow_iincW (q := 114) X69 hx (L' := #[rv sx, iv (1 : Int32), iv r69, iv (1 : Int32)]) (hb hby own_d9_111) rfl rfl rfl ?_
                  refine ow_gotoW (q := 32) X69 hx (hb hby own_d9_114) (by decide) (by decide) ?_
                  exact cut32_11 _ (1 : Int32) r69 (1 : Int32) _ _ X69 e69 N69 (Nat.lt_succ_self _) (by decide) (by decide)
                · refine ow_icmpYesW (q := 98) X69 hx (hb hby own_d9_91) (Jvm.Free.XT.ii_ne_t hc91_99) (by decide) (by decide) ?_
                  exfalso
                  have hk := own_okI hp69
                  have cc0 := own_nltI hc49_70
                  have cc1 := own_ltI hc55_85
                  have cc2 := own_nltI hc61_86
                  have cc3 := own_ltI hc67_93
                  have cc4 := own_nltI hc73_94
                  have cc5 := own_ltI hc79_97
                  have cc6 := own_neI hc85_98
                  have cc7 := own_neI hc91_99
                  simp only [Int32.reduceToInt] at cc0 cc1 cc2 cc3 cc4 cc5 cc6 cc7
                  omega
            · refine ow_icmpYesW (q := 94) X69 hx (hb hby own_d9_79) (Jvm.Free.XT.ii_le_t hc79_97) (by decide) (by decide) ?_
              refine ow_iconstW (q := 95) X69 hx (1 : Int32) (hb hby own_d9_94) rfl rfl ?_
              refine ow_gotoW (q := 99) X69 hx (hb hby own_d9_95) (by decide) (by decide) ?_
              refine ow_istoreNW (q := 100) X69 hx (L' := #[rv sx, iv (0 : Int32), iv r69, iv (1 : Int32)]) (hb hby own_d9_99) rfl rfl ?_
              refine ow_iloadNW (q := 101) X69 hx (hb hby own_d9_100) rfl rfl ?_
              refine ow_ifYesW (q := 111) X69 hx (hb hby own_d9_101) (Jvm.Free.XT.i0_ne_t (by decide)) (by decide) (by decide) ?_
              refine ow_iincW (q := 114) X69 hx (L' := #[rv sx, iv (1 : Int32), iv r69, iv (1 : Int32)]) (hb hby own_d9_111) rfl rfl rfl ?_
              refine ow_gotoW (q := 32) X69 hx (hb hby own_d9_114) (by decide) (by decide) ?_
              exact cut32_11 _ (1 : Int32) r69 (1 : Int32) _ _ X69 e69 N69 (Nat.lt_succ_self _) (by decide) (by decide)
        · refine ow_icmpYesW (q := 94) X69 hx (hb hby own_d9_67) (Jvm.Free.XT.ii_le_t hc67_93) (by decide) (by decide) ?_
          refine ow_iconstW (q := 95) X69 hx (1 : Int32) (hb hby own_d9_94) rfl rfl ?_
          refine ow_gotoW (q := 99) X69 hx (hb hby own_d9_95) (by decide) (by decide) ?_
          refine ow_istoreNW (q := 100) X69 hx (L' := #[rv sx, iv (0 : Int32), iv r69, iv (1 : Int32)]) (hb hby own_d9_99) rfl rfl ?_
          refine ow_iloadNW (q := 101) X69 hx (hb hby own_d9_100) rfl rfl ?_
          refine ow_ifYesW (q := 111) X69 hx (hb hby own_d9_101) (Jvm.Free.XT.i0_ne_t (by decide)) (by decide) (by decide) ?_
          refine ow_iincW (q := 114) X69 hx (L' := #[rv sx, iv (1 : Int32), iv r69, iv (1 : Int32)]) (hb hby own_d9_111) rfl rfl rfl ?_
          refine ow_gotoW (q := 32) X69 hx (hb hby own_d9_114) (by decide) (by decide) ?_
          exact cut32_11 _ (1 : Int32) r69 (1 : Int32) _ _ X69 e69 N69 (Nat.lt_succ_self _) (by decide) (by decide)
    · refine ow_icmpYesW (q := 94) X69 hx (hb hby own_d9_55) (Jvm.Free.XT.ii_le_t hc55_85) (by decide) (by decide) ?_
      refine ow_iconstW (q := 95) X69 hx (1 : Int32) (hb hby own_d9_94) rfl rfl ?_
      refine ow_gotoW (q := 99) X69 hx (hb hby own_d9_95) (by decide) (by decide) ?_
      refine ow_istoreNW (q := 100) X69 hx (L' := #[rv sx, iv (0 : Int32), iv r69, iv (1 : Int32)]) (hb hby own_d9_99) rfl rfl ?_
      refine ow_iloadNW (q := 101) X69 hx (hb hby own_d9_100) rfl rfl ?_
      refine ow_ifYesW (q := 111) X69 hx (hb hby own_d9_101) (Jvm.Free.XT.i0_ne_t (by decide)) (by decide) (by decide) ?_
      refine ow_iincW (q := 114) X69 hx (L' := #[rv sx, iv (1 : Int32), iv r69, iv (1 : Int32)]) (hb hby own_d9_111) rfl rfl rfl ?_
      refine ow_gotoW (q := 32) X69 hx (hb hby own_d9_114) (by decide) (by decide) ?_
      exact cut32_11 _ (1 : Int32) r69 (1 : Int32) _ _ X69 e69 N69 (Nat.lt_succ_self _) (by decide) (by decide)
theorem own_ef11_isEmpty32 (m : MethodId) (sx : Addr) : entryFrame m #[(.ref sx)] 1 = mkF m 0 #[rv sx] [] := by first | (simp [entryFrame, mkF, argsToLocals, Value.category]; done) | rfl
def Q_isEmpty32 (Z : State) (sx : Addr) (t : Addr) (gb : Nat → Int32) (h0 : Heap) (n0 : Nat) (v : Option Value) (h : Heap) (L : List Loc) : Prop := v = some (.int (0 : Int32)) ∧ Fr n0 L ∧ h = h0
set_option maxRecDepth 65536 in
set_option maxHeartbeats 40000000 in
theorem rm_isEmpty32 (l : Launch) (Z : State) (av0 : Array Value) (hw : ∀ d ∈ tables_1, d.before av0 Z = true) (ws : List Jvm.Cond) (sx : Addr) (t : Addr) (gb : Nat → Int32) (h0 : Heap) (n0 : Nat) (Z0 : n0 ≤ h0.size) (HF0 : Fld Z h0 sx "java/lang/String" "value" "[B" (.ref t)) (HF1 : ownAI Z h0 t .byte 32 gb) :
    MetFree l (⟨"java/lang/String", "isEmpty", "()Z"⟩ : MethodName) (head1 (Jvm.Cond.code (⟨"java/lang/String", "isEmpty", "()Z"⟩ : MethodName) jdk_42_method_55_code 1 (some .boolean) :: ws) ({ frames := 0, cells := 0, slots := 0, locals := 0 } : Room)) (fun a U => a = #[(.ref sx)] ∧ Z.Warmed39 U.vm ∧ U.heap = h0) (fun _ _ _ _ _ => True) (fun _ U o U' => ∃ v L, o = .returned v ∧ (Q_isEmpty32 Z sx t gb h0 n0) v U'.heap L ∧ FrameEnd U o U' L ({ frames := 0, cells := 0, slots := 0, locals := 0 } : Room).cells ({ frames := 0, cells := 0, slots := 0, locals := 0 } : Room).slots) := by
  refine MetFree.of_bodySF (plainFor_of_name own_pn_String) hisR ?_
  intro p e s m args below meth c s₁ Bd hml0 hP hK
  obtain ⟨rfl, hZ, hh⟩ := hP
  have hx := Bd.exec
  have hby := Bd.bytes
  have hml : c.maxLocals = 1 := hml0
  have hown : s.vm.findClass "java/lang/String" = some m.cls := findClass_of_methodNamed Bd.named
  have hnm := (name_of_methodNamed Bd.named Bd.method).1
  have hlk : meth.locks = false := BodyLoose.notSynchronized Bd
  have X0 : Stand p l e ({ frames := 0, cells := 0, slots := 0, locals := 0 } : Room) s m #[(.ref sx)] below meth c s₁ [] 0 0 := Stand.of_body Bd
  have e0 : s₁.heap = h0 := by rw [← hh, Bd.state]; rfl
  have N0 := Fr.nil n0
  have K0 : Keep h0 h0 [] := Keep.refl _ _
  have ww : ∀ (k : Nat) {d : Jvm.Cond}, tables_1[k]? = some d → d.before av0 Z = true := fun k d h => hw d (List.mem_of_getElem? h)
  show ownEnds p e below s (Q_isEmpty32 Z sx t gb h0 n0) ({ frames := 0, cells := 0, slots := 0, locals := 0 } : Room).cells ({ frames := 0, cells := 0, slots := 0, locals := 0 } : Room).slots s₁ (entryFrame m #[(.ref sx)] 1)
  refine ownCast (own_ef11_isEmpty32 m sx) ?_
  refine ow_aloadN (q := 1) X0 hx (hb hby own_d11_0) rfl rfl rfl ?_
  obtain ⟨T1, X1, e1, st1⟩ := getF X0 hx hZ hown (host := "") (Or.inl (ww 36 rfl)) Via.refl e0 HF0 (g := (mkF m 1 #[rv sx] [(.ref sx)])) rfl rfl (hb hby own_d11_1)
  refine ownGo (T' := T1) (f' := (mkF m 4 #[rv sx] [(.ref t)])) (st1) ?_
  refine ownGo (T' := T1) (f' := (mkF m 5 #[rv sx] [(.int (32 : Int32))])) (ownLenI HF1 X1 hx hZ e1 (z := (32 : Int32)) (by decide) (g := (mkF m 4 #[rv sx] [(.ref t)])) rfl rfl (hb hby own_d11_4)) ?_
  refine ow_ifYes (q := 12) X1 hx (hb hby own_d11_5) (Jvm.Free.XT.i0_ne_t (by decide)) (by decide) (by decide) ?_
  refine ow_iconst (q := 13) X1 hx (0 : Int32) (hb hby own_d11_12) rfl rfl ?_
  refine ownRetN X1 hx (r := (0 : Int32)) (Or.inl rfl) Bd.returns (hb hby own_d11_13) hlk (by decide) (by decide) (by decide) ?_
  rw [e1]
  exact ⟨rfl, N0, rfl⟩
theorem own_ef12_length32 (m : MethodId) (sx : Addr) : entryFrame m #[(.ref sx)] 1 = mkF m 0 #[rv sx] [] := by first | (simp [entryFrame, mkF, argsToLocals, Value.category]; done) | rfl
def Q_length32 (Z : State) (sx : Addr) (t : Addr) (gb : Nat → Int32) (zc : Int32) (h0 : Heap) (n0 : Nat) (v : Option Value) (h : Heap) (L : List Loc) : Prop := v = some (.int (32 : Int32)) ∧ Fr n0 L ∧ h = h0
set_option maxRecDepth 65536 in
set_option maxHeartbeats 40000000 in
theorem rm_length32 (l : Launch) (Z : State) (av0 : Array Value) (hw : ∀ d ∈ tables_1, d.before av0 Z = true) (ws : List Jvm.Cond) (sx : Addr) (t : Addr) (gb : Nat → Int32) (zc : Int32) (h0 : Heap) (n0 : Nat) (Z0 : n0 ≤ h0.size) (HF0 : Exa Z h0 sx "java/lang/String") (HF1 : Fld Z h0 sx "java/lang/String" "value" "[B" (.ref t)) (HF2 : Fld Z h0 sx "java/lang/String" "coder" "B" (.int (0 : Int32))) (HF3 : ownAI Z h0 t .byte 32 gb) (HF4 : Sta Z h0 "java/lang/String" "COMPACT_STRINGS" "Z" (.int zc)) (hz : ¬ zc = (0 : Int32)) :
    MetFree l (⟨"java/lang/String", "length", "()I"⟩ : MethodName) (head1 (Jvm.Cond.code (⟨"java/lang/String", "length", "()I"⟩ : MethodName) jdk_42_method_54_code 1 (some .int) :: ws) ({ frames := 1, cells := 0, slots := 0, locals := 13 } : Room)) (fun a U => a = #[(.ref sx)] ∧ Z.Warmed39 U.vm ∧ U.heap = h0) (fun _ _ _ _ _ => True) (fun _ U o U' => ∃ v L, o = .returned v ∧ (Q_length32 Z sx t gb zc h0 n0) v U'.heap L ∧ FrameEnd U o U' L ({ frames := 1, cells := 0, slots := 0, locals := 13 } : Room).cells ({ frames := 1, cells := 0, slots := 0, locals := 13 } : Room).slots) := by
  refine MetFree.of_bodySF (plainFor_of_name own_pn_String) hisR ?_
  intro p e s m args below meth c s₁ Bd hml0 hP hK
  obtain ⟨rfl, hZ, hh⟩ := hP
  have hx := Bd.exec
  have hby := Bd.bytes
  have hml : c.maxLocals = 1 := hml0
  have hown : s.vm.findClass "java/lang/String" = some m.cls := findClass_of_methodNamed Bd.named
  have hnm := (name_of_methodNamed Bd.named Bd.method).1
  have hlk : meth.locks = false := BodyLoose.notSynchronized Bd
  have X0 : Stand p l e ({ frames := 1, cells := 0, slots := 0, locals := 13 } : Room) s m #[(.ref sx)] below meth c s₁ [] 0 0 := Stand.of_body Bd
  have e0 : s₁.heap = h0 := by rw [← hh, Bd.state]; rfl
  have N0 := Fr.nil n0
  have K0 : Keep h0 h0 [] := Keep.refl _ _
  have ww : ∀ (k : Nat) {d : Jvm.Cond}, tables_1[k]? = some d → d.before av0 Z = true := fun k d h => hw d (List.mem_of_getElem? h)
  show ownEnds p e below s (Q_length32 Z sx t gb zc h0 n0) ({ frames := 1, cells := 0, slots := 0, locals := 13 } : Room).cells ({ frames := 1, cells := 0, slots := 0, locals := 13 } : Room).slots s₁ (entryFrame m #[(.ref sx)] 1)
  refine ownCast (own_ef12_length32 m sx) ?_
  refine ow_aloadN (q := 1) X0 hx (hb hby own_d12_0) rfl rfl rfl ?_
  obtain ⟨T1, X1, e1, st1⟩ := getF X0 hx hZ hown (host := "") (Or.inl (ww 36 rfl)) Via.refl e0 HF1 (g := (mkF m 1 #[rv sx] [(.ref sx)])) rfl rfl (hb hby own_d12_1)
  refine ownGo (T' := T1) (f' := (mkF m 4 #[rv sx] [(.ref t)])) (st1) ?_
  refine ownGo (T' := T1) (f' := (mkF m 5 #[rv sx] [(.int (32 : Int32))])) (ownLenI HF3 X1 hx hZ e1 (z := (32 : Int32)) (by decide) (g := (mkF m 4 #[rv sx] [(.ref t)])) rfl rfl (hb hby own_d12_4)) ?_
  refine ow_aloadN (q := 6) X1 hx (hb hby own_d12_5) rfl rfl rfl ?_
  obtain ⟨cq2, kq2, q2a, q2b, q2c⟩ := isOf hZ e1 HF0
  obtain ⟨_, _, ⟨T2, L2, k2, n2⟩, -, X2, ⟨Lc2, hQ2, l2, y2, z2⟩, st2⟩ := X1.virtualBack hx (y := (⟨"java/lang/String", "coder", "()B"⟩ : MethodName)) (z := (⟨"java/lang/String", "coder", "()B"⟩ : MethodName)) hown (mvT hZ (ww 59 rfl)) (mvT hZ (ww 60 rfl)) (notFace_of_selects (args := #[]) (mvT hZ (ww 62 rfl))) (mvT hZ (ww 62 rfl)) (mvT hZ (ww 61 rfl)) (by decide) (backOf (W := 1) (rm_coder l Z av0 hw [] sx zc h0 n0 (Nat.le_trans Z0 K0.1) HF2 HF4 hz) hZ (ww 63 rfl) (ww 11 rfl) (by decide) (by decide)) q2a q2c (g := (mkF m 6 #[rv sx] [(.ref sx), (.int (32 : Int32))])) rfl (by rw [hml]; rfl) (Steps.refl _) (argsL := []) (rest := [(.int (32 : Int32))]) (lenOf own_pd2 rfl) rfl (by show 2 * 0 + _ ≤ _; exact Nat.le_of_eq rfl) (hb hby own_d12_6) (fun _ _ => ⟨rfl, e1, (by decide : 0 + 0 ≤ _), (by decide : 0 + 0 ≤ _)⟩)
  dsimp only [Pt.U, Pt.locs, Pt.cells, Pt.slots] at X2 l2 y2 z2 st2 hQ2
  subst l2 y2 z2
  obtain ⟨rfl, N2q, e2⟩ := hQ2
  have N2 := Fr.app N0 N2q
  refine ownRun (T' := T2) (f' := (mkF m 9 #[rv sx] [(.int (0 : Int32)), (.int (32 : Int32))])) st2 ?_
  refine ow_ishr (q := 10) X2 hx (32 : Int32) (hb hby own_d12_9) rfl (by decide) ?_
  refine ownRetI X2 hx Bd.returns (hb hby own_d12_10) hlk (by decide) (by decide) ?_
  rw [e2]
  exact ⟨rfl, N2, rfl⟩
theorem own_ef16_lat32 (m : MethodId) (t : Addr) (p1 : Int32) : entryFrame m #[(.ref t), (.int p1)] 2 = mkF m 0 #[rv t, iv p1] [] := by first | (simp [entryFrame, mkF, argsToLocals, Value.category]; done) | rfl
def Q_lat32 (Z : State) (t : Addr) (p1 : Int32) (gb : Nat → Int32) (fm : Value) (h0 : Heap) (n0 : Nat) (v : Option Value) (h : Heap) (L : List Loc) : Prop := ∃ (r : Int32), v = some (.int r) ∧ Fr n0 L ∧ h = h0 ∧ (own_okb r = true)
set_option maxRecDepth 65536 in
set_option maxHeartbeats 40000000 in
theorem rm_lat32 (l : Launch) (Z : State) (av0 : Array Value) (hw : ∀ d ∈ tables_1, d.before av0 Z = true) (ws : List Jvm.Cond) (t : Addr) (p1 : Int32) (gb : Nat → Int32) (fm : Value) (h0 : Heap) (n0 : Nat) (Z0 : n0 ≤ h0.size) (HF0 : ownAI Z h0 t .byte 32 gb) (HF1 : Sta Z h0 "jdk/internal/util/Preconditions" "SIOOBE_FORMATTER" "Ljava/util/function/BiFunction;" fm) (hlo : ¬ p1 < (0 : Int32)) (hhi : p1 < (32 : Int32)) (hr_fm : fm.isRef = true) (hok : ∀ k, k < 32 → own_okb (gb k) = true) :
    MetFree l (⟨"java/lang/StringLatin1", "charAt", "([BI)C"⟩ : MethodName) (head1 (Jvm.Cond.code (⟨"java/lang/StringLatin1", "charAt", "([BI)C"⟩ : MethodName) jdk_43_method_2_code 2 (some .char) :: ws) ({ frames := 2, cells := 0, slots := 0, locals := 27 } : Room)) (fun a U => a = #[(.ref t), (.int p1)] ∧ Z.Warmed39 U.vm ∧ U.heap = h0) (fun _ _ _ _ _ => True) (fun _ U o U' => ∃ v L, o = .returned v ∧ (Q_lat32 Z t p1 gb fm h0 n0) v U'.heap L ∧ FrameEnd U o U' L ({ frames := 2, cells := 0, slots := 0, locals := 27 } : Room).cells ({ frames := 2, cells := 0, slots := 0, locals := 27 } : Room).slots) := by
  refine MetFree.of_bodySF (plainFor_of_name own_pn_StringLatin1) hisR ?_
  intro p e s m args below meth c s₁ Bd hml0 hP hK
  obtain ⟨rfl, hZ, hh⟩ := hP
  have hx := Bd.exec
  have hby := Bd.bytes
  have hml : c.maxLocals = 2 := hml0
  have hown : s.vm.findClass "java/lang/StringLatin1" = some m.cls := findClass_of_methodNamed Bd.named
  have hnm := (name_of_methodNamed Bd.named Bd.method).1
  have hlk : meth.locks = false := BodyLoose.notSynchronized Bd
  have X0 : Stand p l e ({ frames := 2, cells := 0, slots := 0, locals := 27 } : Room) s m #[(.ref t), (.int p1)] below meth c s₁ [] 0 0 := Stand.of_body Bd
  have e0 : s₁.heap = h0 := by rw [← hh, Bd.state]; rfl
  have N0 := Fr.nil n0
  have K0 : Keep h0 h0 [] := Keep.refl _ _
  have ww : ∀ (k : Nat) {d : Jvm.Cond}, tables_1[k]? = some d → d.before av0 Z = true := fun k d h => hw d (List.mem_of_getElem? h)
  show ownEnds p e below s (Q_lat32 Z t p1 gb fm h0 n0) ({ frames := 2, cells := 0, slots := 0, locals := 27 } : Room).cells ({ frames := 2, cells := 0, slots := 0, locals := 27 } : Room).slots s₁ (entryFrame m #[(.ref t), (.int p1)] 2)
  refine ownCast (own_ef16_lat32 m t p1) ?_
  refine ow_iloadN (q := 1) X0 hx (hb hby own_d16_0) rfl rfl ?_
  refine ow_aloadN (q := 2) X0 hx (hb hby own_d16_1) rfl rfl rfl ?_
  refine ownGo (T' := s₁) (f' := (mkF m 3 #[rv t, iv p1] [(.int (32 : Int32)), (.int p1)])) (ownLenI HF0 X0 hx hZ e0 (z := (32 : Int32)) (by decide) (g := (mkF m 2 #[rv t, iv p1] [(.ref t), (.int p1)])) rfl rfl (hb hby own_d16_2)) ?_
  obtain ⟨_, _, ⟨T1, L1, k1, n1⟩, -, X1, ⟨Lc1, hQ1, l1, y1, z1⟩, st1⟩ := Jvm.LawKit.callS X0 hx (y := (⟨"java/lang/String", "checkIndex", "(II)V"⟩ : MethodName)) hown (mvT hZ (ww 78 rfl)) (mvT hZ (ww 79 rfl)) (mvT hZ (ww 11 rfl)) (mvT hZ (ww 80 rfl)) (by decide) (backOf (W := 0) (rm_scheck l Z av0 hw [] p1 (32 : Int32) fm h0 n0 (Nat.le_trans Z0 K0.1) HF1 hlo hhi hr_fm) hZ (ww 80 rfl) (ww 11 rfl) (by decide) (by decide)) (g := (mkF m 3 #[rv t, iv p1] [(.int (32 : Int32)), (.int p1)])) rfl (by rw [hml]; rfl) (argsL := [(.int p1), (.int (32 : Int32))]) (rest := []) (lenOf own_pd3 rfl) rfl (by show 2 * 0 + _ ≤ _; exact Nat.le_of_eq rfl) (hb hby own_d16_3) (fun _ _ => ⟨rfl, e0, (by decide : 0 + 0 ≤ _), (by decide : 0 + 0 ≤ _)⟩)
  dsimp only [Pt.U, Pt.locs, Pt.cells, Pt.slots] at X1 l1 y1 z1 st1 hQ1
  subst l1 y1 z1
  obtain ⟨rfl, N1q, e1⟩ := hQ1
  have N1 := Fr.app N0 N1q
  refine ownGo (T' := T1) (f' := (mkF m 6 #[rv t, iv p1] [])) (st1) ?_
  refine ow_aloadN (q := 7) X1 hx (hb hby own_d16_6) rfl rfl rfl ?_
  refine ow_iloadN (q := 8) X1 hx (hb hby own_d16_7) rfl rfl ?_
  refine ownGo (T' := T1) (f' := (mkF m 9 #[rv t, iv p1] [(.int (gb p1.toNatClampNeg))])) (ownBaload HF0 X1 hx hZ e1 (j := p1) (own_in hlo hhi rfl) (g := (mkF m 8 #[rv t, iv p1] [(.int p1), (.ref t)])) rfl rfl (hb hby own_d16_8)) ?_
  generalize hv_v2 : (gb p1.toNatClampNeg) = v2
  refine ow_sipush (q := 12) X1 hx (255 : Int32) (hb hby own_d16_9) rfl rfl ?_
  refine ow_iand (q := 13) X1 hx _ (hb hby own_d16_12) rfl rfl ?_
  refine ow_i2c (q := 14) X1 hx _ (hb hby own_d16_13) rfl rfl ?_
  refine ownRetN X1 hx (r := v2) (Or.inr (Or.inr (Or.inl rfl))) Bd.returns (hb hby own_d16_14) hlk (by decide) (by decide) (own_ch (own_okv hv_v2 (hok _ (own_in2 hlo hhi rfl)))) ?_
  rw [e1]
  refine ⟨v2, rfl, N1, rfl, ?_⟩
  exact own_okv hv_v2 (hok _ (own_in2 hlo hhi rfl))
theorem own_ef14_charAt32 (m : MethodId) (sx : Addr) (p1 : Int32) : entryFrame m #[(.ref sx), (.int p1)] 2 = mkF m 0 #[rv sx, iv p1] [] := by first | (simp [entryFrame, mkF, argsToLocals, Value.category]; done) | rfl
def Q_charAt32 (Z : State) (sx : Addr) (p1 : Int32) (t : Addr) (gb : Nat → Int32) (zc : Int32) (fm : Value) (h0 : Heap) (n0 : Nat) (v : Option Value) (h : Heap) (L : List Loc) : Prop := ∃ (r : Int32), v = some (.int r) ∧ Fr n0 L ∧ h = h0 ∧ (own_okb r = true)
set_option maxRecDepth 65536 in
set_option maxHeartbeats 40000000 in
theorem rm_charAt32 (l : Launch) (Z : State) (av0 : Array Value) (hw : ∀ d ∈ tables_1, d.before av0 Z = true) (ws : List Jvm.Cond) (sx : Addr) (p1 : Int32) (t : Addr) (gb : Nat → Int32) (zc : Int32) (fm : Value) (h0 : Heap) (n0 : Nat) (Z0 : n0 ≤ h0.size) (HF0 : Exa Z h0 sx "java/lang/String") (HF1 : Fld Z h0 sx "java/lang/String" "value" "[B" (.ref t)) (HF2 : Fld Z h0 sx "java/lang/String" "coder" "B" (.int (0 : Int32))) (HF3 : ownAI Z h0 t .byte 32 gb) (HF4 : Sta Z h0 "java/lang/String" "COMPACT_STRINGS" "Z" (.int zc)) (HF5 : Sta Z h0 "jdk/internal/util/Preconditions" "SIOOBE_FORMATTER" "Ljava/util/function/BiFunction;" fm) (hlo : ¬ p1 < (0 : Int32)) (hhi : p1 < (32 : Int32)) (hz : ¬ zc = (0 : Int32)) (hr_fm : fm.isRef = true) (hok : ∀ k, k < 32 → own_okb (gb k) = true) :
    MetFree l (⟨"java/lang/String", "charAt", "(I)C"⟩ : MethodName) (head1 (Jvm.Cond.code (⟨"java/lang/String", "charAt", "(I)C"⟩ : MethodName) jdk_42_method_56_code 2 (some .char) :: ws) ({ frames := 3, cells := 0, slots := 0, locals := 40 } : Room)) (fun a U => a = #[(.ref sx), (.int p1)] ∧ Z.Warmed39 U.vm ∧ U.heap = h0) (fun _ _ _ _ _ => True) (fun _ U o U' => ∃ v L, o = .returned v ∧ (Q_charAt32 Z sx p1 t gb zc fm h0 n0) v U'.heap L ∧ FrameEnd U o U' L ({ frames := 3, cells := 0, slots := 0, locals := 40 } : Room).cells ({ frames := 3, cells := 0, slots := 0, locals := 40 } : Room).slots) := by
  refine MetFree.of_bodySF (plainFor_of_name own_pn_String) hisR ?_
  intro p e s m args below meth c s₁ Bd hml0 hP hK
  obtain ⟨rfl, hZ, hh⟩ := hP
  have hx := Bd.exec
  have hby := Bd.bytes
  have hml : c.maxLocals = 2 := hml0
  have hown : s.vm.findClass "java/lang/String" = some m.cls := findClass_of_methodNamed Bd.named
  have hnm := (name_of_methodNamed Bd.named Bd.method).1
  have hlk : meth.locks = false := BodyLoose.notSynchronized Bd
  have X0 : Stand p l e ({ frames := 3, cells := 0, slots := 0, locals := 40 } : Room) s m #[(.ref sx), (.int p1)] below meth c s₁ [] 0 0 := Stand.of_body Bd
  have e0 : s₁.heap = h0 := by rw [← hh, Bd.state]; rfl
  have N0 := Fr.nil n0
  have K0 : Keep h0 h0 [] := Keep.refl _ _
  have ww : ∀ (k : Nat) {d : Jvm.Cond}, tables_1[k]? = some d → d.before av0 Z = true := fun k d h => hw d (List.mem_of_getElem? h)
  show ownEnds p e below s (Q_charAt32 Z sx p1 t gb zc fm h0 n0) ({ frames := 3, cells := 0, slots := 0, locals := 40 } : Room).cells ({ frames := 3, cells := 0, slots := 0, locals := 40 } : Room).slots s₁ (entryFrame m #[(.ref sx), (.int p1)] 2)
  refine ownCast (own_ef14_charAt32 m sx p1) ?_
  refine ow_aloadN (q := 1) X0 hx (hb hby own_d14_0) rfl rfl rfl ?_
  obtain ⟨cq1, kq1, q1a, q1b, q1c⟩ := isOf hZ e0 HF0
  obtain ⟨_, _, ⟨T1, L1, k1, n1⟩, -, X1, ⟨Lc1, hQ1, l1, y1, z1⟩, st1⟩ := X0.virtualBack hx (y := (⟨"java/lang/String", "isLatin1", "()Z"⟩ : MethodName)) (z := (⟨"java/lang/String", "isLatin1", "()Z"⟩ : MethodName)) hown (mvT hZ (ww 69 rfl)) (mvT hZ (ww 70 rfl)) (notFace_of_selects (args := #[]) (mvT hZ (ww 72 rfl))) (mvT hZ (ww 72 rfl)) (mvT hZ (ww 71 rfl)) (by decide) (backOf (W := 0) (rm_isLatin1 l Z av0 hw [] sx zc h0 n0 (Nat.le_trans Z0 K0.1) HF2 HF4 hz) hZ (ww 73 rfl) (ww 11 rfl) (by decide) (by decide)) q1a q1c (g := (mkF m 1 #[rv sx, iv p1] [(.ref sx)])) rfl (by rw [hml]; rfl) (Steps.refl _) (argsL := []) (rest := []) (lenOf own_pd4 rfl) rfl (by show 2 * 0 + _ ≤ _; exact Nat.le_of_eq rfl) (hb hby own_d14_1) (fun _ _ => ⟨rfl, e0, (by decide : 0 + 0 ≤ _), (by decide : 0 + 0 ≤ _)⟩)
  dsimp only [Pt.U, Pt.locs, Pt.cells, Pt.slots] at X1 l1 y1 z1 st1 hQ1
  subst l1 y1 z1
  obtain ⟨rfl, N1q, e1⟩ := hQ1
  have N1 := Fr.app N0 N1q
  refine ownRun (T' := T1) (f' := (mkF m 4 #[rv sx, iv p1] [(.int (1 : Int32))])) st1 ?_
  refine ow_ifNo (q := 7) X1 hx (hb hby own_d14_4) rfl (Jvm.Free.XT.i0_eq_f (by decide)) ?_
  refine ow_aloadN (q := 8) X1 hx (hb hby own_d14_7) rfl rfl rfl ?_
  obtain ⟨T2, X2, e2, st2⟩ := getF X1 hx hZ hown (host := "") (Or.inl (ww 36 rfl)) Via.refl e1 HF1 (g := (mkF m 8 #[rv sx, iv p1] [(.ref sx)])) rfl rfl (hb hby own_d14_8)
  refine ownGo (T' := T2) (f' := (mkF m 11 #[rv sx, iv p1] [(.ref t)])) (st2) ?_
  refine ow_iloadN (q := 12) X2 hx (hb hby own_d14_11) rfl rfl ?_
  obtain ⟨_, _, ⟨T3, L3, k3, n3⟩, -, X3, ⟨Lc3, hQ3, l3, y3, z3⟩, st3⟩ := Jvm.LawKit.callS X2 hx (y := (⟨"java/lang/StringLatin1", "charAt", "([BI)C"⟩ : MethodName)) hown (mvT hZ (ww 74 rfl)) (mvT hZ (ww 75 rfl)) (mvT hZ (ww 76 rfl)) (mvT hZ (ww 77 rfl)) (by decide) (backOf (W := 0) (rm_lat32 l Z av0 hw [] t p1 gb fm h0 n0 (Nat.le_trans Z0 K0.1) HF3 HF5 hlo hhi hr_fm hok) hZ (ww 77 rfl) (ww 76 rfl) (by decide) (by decide)) (g := (mkF m 12 #[rv sx, iv p1] [(.int p1), (.ref t)])) rfl (by rw [hml]; rfl) (argsL := [(.ref t), (.int p1)]) (rest := []) (lenOf own_pd5 rfl) rfl (by show 2 * 0 + _ ≤ _; exact Nat.le_of_eq rfl) (hb hby own_d14_12) (fun _ _ => ⟨rfl, e2, (by decide : 0 + 0 ≤ _), (by decide : 0 + 0 ≤ _)⟩)
  dsimp only [Pt.U, Pt.locs, Pt.cells, Pt.slots] at X3 l3 y3 z3 st3 hQ3
  subst l3 y3 z3
  obtain ⟨r3, rfl, N3q, e3, hp3⟩ := hQ3
  have N3 := Fr.app N1 N3q
  refine ownGo (T' := T3) (f' := (mkF m 15 #[rv sx, iv p1] [(.int r3)])) (st3) ?_
  refine ownRetN X3 hx (r := r3) (Or.inr (Or.inr (Or.inl rfl))) Bd.returns (hb hby own_d14_15) hlk (by decide) (by decide) (own_nar hp3) ?_
  rw [e3]
  refine ⟨r3, rfl, N3, rfl, ?_⟩
  exact hp3
theorem own_ef9_valid32 (m : MethodId) (sx : Addr) : entryFrame m #[(.ref sx)] 4 = mkF m 0 #[rv sx, .unset, .unset, .unset] [] := by first | (simp [entryFrame, mkF, argsToLocals, Value.category]; done) | rfl
def Q_valid32 (Z : State) (sx : Addr) (t : Addr) (gb : Nat → Int32) (zc : Int32) (fm : Value) (h0 : Heap) (n0 : Nat) (v : Option Value) (h : Heap) (L : List Loc) : Prop := v = some (.ref sx) ∧ Fr n0 L ∧ Keep h0 h []
set_option maxRecDepth 65536 in
set_option maxHeartbeats 40000000 in
theorem rm_valid32 (l : Launch) (Z : State) (av0 : Array Value) (hw : ∀ d ∈ tables_1, d.before av0 Z = true) (ws : List Jvm.Cond) (sx : Addr) (t : Addr) (gb : Nat → Int32) (zc : Int32) (fm : Value) (h0 : Heap) (n0 : Nat) (Z0 : n0 ≤ h0.size) (HF0 : Exa Z h0 sx "java/lang/String") (HF1 : Fld Z h0 sx "java/lang/String" "value" "[B" (.ref t)) (HF2 : Fld Z h0 sx "java/lang/String" "coder" "B" (.int (0 : Int32))) (HF3 : ownAI Z h0 t .byte 32 gb) (HF4 : Sta Z h0 "java/lang/String" "COMPACT_STRINGS" "Z" (.int zc)) (HF5 : Sta Z h0 "jdk/internal/util/Preconditions" "SIOOBE_FORMATTER" "Ljava/util/function/BiFunction;" fm) (hz : ¬ zc = (0 : Int32)) (hr_fm : fm.isRef = true) (hok : ∀ k, k < 32 → own_okb (gb k) = true) :
    MetFree l (⟨"com/example/un1son/un1son/Candidate", "requireValidId", "(Ljava/lang/String;)Ljava/lang/String;"⟩ : MethodName) (head1 (Jvm.Cond.code (⟨"com/example/un1son/un1son/Candidate", "requireValidId", "(Ljava/lang/String;)Ljava/lang/String;"⟩ : MethodName) prog_1_method_2_code 4 (some (.object "java/lang/String")) :: ws) ({ frames := 4, cells := 2, slots := 12, locals := 53 } : Room)) (fun a U => a = #[(.ref sx)] ∧ Z.Warmed39 U.vm ∧ U.heap = h0) (fun _ _ _ _ _ => True) (fun _ U o U' => ∃ v L, o = .returned v ∧ (Q_valid32 Z sx t gb zc fm h0 n0) v U'.heap L ∧ ReturnedEndW U o U' L ({ frames := 4, cells := 2, slots := 12, locals := 53 } : Room).cells ({ frames := 4, cells := 2, slots := 12, locals := 53 } : Room).slots) := by
  refine MetFree.of_bodySF (plainFor_of_name own_pn_Candidate) hisR ?_
  intro p e s m args below meth c s₁ Bd hml0 hP hK
  obtain ⟨rfl, hZ, hh⟩ := hP
  have hx := Bd.exec
  have hby := Bd.bytes
  have hml : c.maxLocals = 4 := hml0
  have hown : s.vm.findClass "com/example/un1son/un1son/Candidate" = some m.cls := findClass_of_methodNamed Bd.named
  have hnm := (name_of_methodNamed Bd.named Bd.method).1
  have hlk : meth.locks = false := BodyLoose.notSynchronized Bd
  have X0 : Stand p l e ({ frames := 4, cells := 2, slots := 12, locals := 53 } : Room) s m #[(.ref sx)] below meth c s₁ [] 0 0 := Stand.of_body Bd
  have e0 : s₁.heap = h0 := by rw [← hh, Bd.state]; rfl
  have N0 := Fr.nil n0
  have K0 : Keep h0 h0 [] := Keep.refl _ _
  have ww : ∀ (k : Nat) {d : Jvm.Cond}, tables_1[k]? = some d → d.before av0 Z = true := fun k d h => hw d (List.mem_of_getElem? h)
  have wStr : ∀ d ∈ Bundle.stringAtoms, d.before av0 Z = true := fun d hd => hw d ((by decide +kernel : ∀ d ∈ Bundle.stringAtoms, d ∈ tables_1) d hd)
  show ownEndsW p e below s (Q_valid32 Z sx t gb zc fm h0 n0) ({ frames := 4, cells := 2, slots := 12, locals := 53 } : Room).cells ({ frames := 4, cells := 2, slots := 12, locals := 53 } : Room).slots s₁ (entryFrame m #[(.ref sx)] 4)
  refine ownCastW (own_ef9_valid32 m sx) ?_
  refine ow_aloadNW (q := 1) X0 hx (hb hby own_d9_0) rfl rfl rfl ?_
  obtain ⟨cs1, T1, h1, X1, hS1, e1, E1, st1⟩ := ownLdc X0 hx hZ hown (ww 42 rfl) wStr e0 (g := (mkF m 1 #[rv sx, .unset, .unset, .unset] [(.ref sx)])) rfl (hb hby own_d9_1) (n := 8) (by decide) (by decide) (by decide) (by decide)
  have K1 : Keep h0 h1 [] := K0.ext E1
  have F2 : Exa Z h1 sx "java/lang/String" := HF0.ext E1
  have F3 : Fld Z h1 sx "java/lang/String" "value" "[B" (.ref t) := HF1.ext E1
  have F4 : Fld Z h1 sx "java/lang/String" "coder" "B" (.int (0 : Int32)) := HF2.ext E1
  have F5 : ownAI Z h1 t .byte 32 gb := HF3.ext E1
  have F6 : Sta Z h1 "java/lang/String" "COMPACT_STRINGS" "Z" (.int zc) := HF4.ext E1
  have F7 : Sta Z h1 "jdk/internal/util/Preconditions" "SIOOBE_FORMATTER" "Ljava/util/function/BiFunction;" fm := HF5.ext E1
  refine ownGoW (T' := T1) (f' := (mkF m 3 #[rv sx, .unset, .unset, .unset] [(.ref cs1), (.ref sx)])) (st1) ?_
  refine ownRebaseW hZ hown hS1 X1 ?_
  intro s X1 hZ hown
  obtain ⟨_, _, ⟨T8, L8, k8, n8⟩, -, X8, ⟨Lc8, hQ8, l8, y8, z8⟩, st8⟩ := Jvm.LawKit.callS X1 hx (y := (⟨"java/util/Objects", "requireNonNull", "(Ljava/lang/Object;Ljava/lang/String;)Ljava/lang/Object;"⟩ : MethodName)) hown (mvT hZ (ww 45 rfl)) (mvT hZ (ww 46 rfl)) (mvT hZ (ww 47 rfl)) (mvT hZ (ww 48 rfl)) (by decide) (backOf (W := 0) (rm_rnn l Z av0 hw [] sx cs1 h1 n0 (Nat.le_trans Z0 K1.1) ) hZ (ww 48 rfl) (ww 47 rfl) (by decide) (by decide)) (g := (mkF m 3 #[rv sx, .unset, .unset, .unset] [(.ref cs1), (.ref sx)])) rfl (by rw [hml]; rfl) (argsL := [(.ref sx), (.ref cs1)]) (rest := []) (lenOf own_pd6 rfl) rfl (by show 2 * 0 + _ ≤ _; exact Nat.le_of_eq rfl) (hb hby own_d9_3) (fun _ _ => ⟨rfl, e1, (by decide : 2 + 0 ≤ _), (by decide : 12 + 0 ≤ _)⟩)
  dsimp only [Pt.U, Pt.locs, Pt.cells, Pt.slots] at X8 l8 y8 z8 st8 hQ8
  subst l8 y8 z8
  obtain ⟨rfl, N8q, e8⟩ := hQ8
  have N8 := Fr.app N0 N8q
  refine ownGoW (T' := T8) (f' := (mkF m 6 #[rv sx, .unset, .unset, .unset] [(.ref sx)])) (st8) ?_
  refine ow_popW (q := 7) X8 hx (hb hby own_d9_6) rfl rfl ?_
  refine ow_aloadNW (q := 8) X8 hx (hb hby own_d9_7) rfl rfl rfl ?_
  obtain ⟨cq9, kq9, q9a, q9b, q9c⟩ := isOf hZ e8 F2
  obtain ⟨_, _, ⟨T9, L9, k9, n9⟩, -, X9, ⟨Lc9, hQ9, l9, y9, z9⟩, st9⟩ := X8.virtualBack hx (y := (⟨"java/lang/String", "isEmpty", "()Z"⟩ : MethodName)) (z := (⟨"java/lang/String", "isEmpty", "()Z"⟩ : MethodName)) hown (mvT hZ (ww 49 rfl)) (mvT hZ (ww 50 rfl)) (notFace_of_selects (args := #[]) (mvT hZ (ww 52 rfl))) (mvT hZ (ww 52 rfl)) (mvT hZ (ww 51 rfl)) (by decide) (backOf (W := 0) (rm_isEmpty32 l Z av0 hw [] sx t gb h1 n0 (Nat.le_trans Z0 K1.1) F3 F5) hZ (ww 53 rfl) (ww 11 rfl) (by decide) (by decide)) q9a q9c (g := (mkF m 8 #[rv sx, .unset, .unset, .unset] [(.ref sx)])) rfl (by rw [hml]; rfl) (Steps.refl _) (argsL := []) (rest := []) (lenOf own_pd4 rfl) rfl (by show 2 * 0 + _ ≤ _; exact Nat.le_of_eq rfl) (hb hby own_d9_8) (fun _ _ => ⟨rfl, e8, (by decide : 2 + 0 ≤ _), (by decide : 12 + 0 ≤ _)⟩)
  dsimp only [Pt.U, Pt.locs, Pt.cells, Pt.slots] at X9 l9 y9 z9 st9 hQ9
  subst l9 y9 z9
  obtain ⟨rfl, N9q, e9⟩ := hQ9
  have N9 := Fr.app N8 N9q
  refine ownRunW (T' := T9) (f' := (mkF m 11 #[rv sx, .unset, .unset, .unset] [(.int (0 : Int32))])) st9 ?_
  refine ow_ifNoW (q := 14) X9 hx (hb hby own_d9_11) rfl (Jvm.Free.XT.i0_ne_f (by decide)) ?_
  refine ow_aloadNW (q := 15) X9 hx (hb hby own_d9_14) rfl rfl rfl ?_
  obtain ⟨cq10, kq10, q10a, q10b, q10c⟩ := isOf hZ e9 F2
  obtain ⟨_, _, ⟨T10, L10, k10, n10⟩, -, X10, ⟨Lc10, hQ10, l10, y10, z10⟩, st10⟩ := X9.virtualBack hx (y := (⟨"java/lang/String", "length", "()I"⟩ : MethodName)) (z := (⟨"java/lang/String", "length", "()I"⟩ : MethodName)) hown (mvT hZ (ww 54 rfl)) (mvT hZ (ww 55 rfl)) (notFace_of_selects (args := #[]) (mvT hZ (ww 57 rfl))) (mvT hZ (ww 57 rfl)) (mvT hZ (ww 56 rfl)) (by decide) (backOf (W := 0) (rm_length32 l Z av0 hw [] sx t gb zc h1 n0 (Nat.le_trans Z0 K1.1) F2 F3 F4 F5 F6 hz) hZ (ww 58 rfl) (ww 11 rfl) (by decide) (by decide)) q10a q10c (g := (mkF m 15 #[rv sx, .unset, .unset, .unset] [(.ref sx)])) rfl (by rw [hml]; rfl) (Steps.refl _) (argsL := []) (rest := []) (lenOf own_pd7 rfl) rfl (by show 2 * 0 + _ ≤ _; exact Nat.le_of_eq rfl) (hb hby own_d9_15) (fun _ _ => ⟨rfl, e9, (by decide : 2 + 0 ≤ _), (by decide : 12 + 0 ≤ _)⟩)
  dsimp only [Pt.U, Pt.locs, Pt.cells, Pt.slots] at X10 l10 y10 z10 st10 hQ10
  subst l10 y10 z10
  obtain ⟨rfl, N10q, e10⟩ := hQ10
  have N10 := Fr.app N9 N10q
  refine ownRunW (T' := T10) (f' := (mkF m 18 #[rv sx, .unset, .unset, .unset] [(.int (32 : Int32))])) st10 ?_
  refine ow_bipushW (q := 20) X10 hx (32 : Int32) (hb hby own_d9_18) rfl rfl ?_
  refine ow_icmpYesW (q := 30) X10 hx (hb hby own_d9_20) (Jvm.Free.XT.ii_le_t (by decide)) (by decide) (by decide) ?_
  refine ow_iconstW (q := 31) X10 hx (0 : Int32) (hb hby own_d9_30) rfl rfl ?_
  refine ow_istoreNW (q := 32) X10 hx (L' := #[rv sx, iv (0 : Int32), .unset, .unset]) (hb hby own_d9_31) rfl rfl ?_
  have cut32_11 : ∀ (kk11 : Nat) (i : Int32) (x2 : Int32) (x3 : Int32) (Tc11 : State) (lc11 : List Loc), Stand p l e ({ frames := 4, cells := 2, slots := 12, locals := 53 } : Room) s m #[(.ref sx)] below meth c Tc11 lc11 2 12 → Tc11.heap = h1 → Fr n0 lc11 → 32 - i.toNatClampNeg < kk11 → (¬ i < (0 : Int32)) → (¬ (32 : Int32) < i) → ownEndsW p e below s (fun v hh L => (Q_valid32 Z sx t gb zc fm h0 n0) v hh L ∧ h1.size ≤ hh.size) ({ frames := 4, cells := 2, slots := 12, locals := 53 } : Room).cells ({ frames := 4, cells := 2, slots := 12, locals := 53 } : Room).slots Tc11 (mkF m 32 #[rv sx, iv i, iv x2, iv x3] []) := by
    intro kk11
    induction kk11 with
    | zero => intro i x2 x3 Tc11 lc11 Xc11 ec11 Nc11 hm11 hi0 hi1; exact absurd hm11 (Nat.not_lt_zero _)
    | succ kk11 ih11 =>
      intro i x2 x3 Tc11 lc11 Xc11 ec11 Nc11 hm11 hi0 hi1
      refine ow_iloadNW (q := 33) Xc11 hx (hb hby own_d9_32) rfl rfl ?_
      refine ow_aloadNW (q := 34) Xc11 hx (hb hby own_d9_33) rfl rfl rfl ?_
      obtain ⟨cq12, kq12, q12a, q12b, q12c⟩ := isOf hZ ec11 F2
      obtain ⟨_, _, ⟨T12, L12, k12, n12⟩, -, X12, ⟨Lc12, hQ12, l12, y12, z12⟩, st12⟩ := Xc11.virtualBack hx (y := (⟨"java/lang/String", "length", "()I"⟩ : MethodName)) (z := (⟨"java/lang/String", "length", "()I"⟩ : MethodName)) hown (mvT hZ (ww 54 rfl)) (mvT hZ (ww 55 rfl)) (notFace_of_selects (args := #[]) (mvT hZ (ww 57 rfl))) (mvT hZ (ww 57 rfl)) (mvT hZ (ww 56 rfl)) (by decide) (backOf (W := 1) (rm_length32 l Z av0 hw [] sx t gb zc h1 n0 (Nat.le_trans Z0 K1.1) F2 F3 F4 F5 F6 hz) hZ (ww 58 rfl) (ww 11 rfl) (by decide) (by decide)) q12a q12c (g := (mkF m 34 #[rv sx, iv i, iv x2, iv x3] [(.ref sx), (.int i)])) rfl (by rw [hml]; rfl) (Steps.refl _) (argsL := []) (rest := [(.int i)]) (lenOf own_pd7 rfl) rfl (by show 2 * 0 + _ ≤ _; exact Nat.le_of_eq rfl) (hb hby own_d9_34) (fun _ _ => ⟨rfl, ec11, (by decide : 2 + 0 ≤ _), (by decide : 12 + 0 ≤ _)⟩)
      dsimp only [Pt.U, Pt.locs, Pt.cells, Pt.slots] at X12 l12 y12 z12 st12 hQ12
      subst l12 y12 z12
      obtain ⟨rfl, N12q, e12⟩ := hQ12
      have N12 := Fr.app Nc11 N12q
      refine ownRunW (T' := T12) (f' := (mkF m 37 #[rv sx, iv i, iv x2, iv x3] [(.int (32 : Int32)), (.int i)])) st12 ?_
      by_cases hc37_13 : i < (32 : Int32)
      · refine ow_icmpNoW (q := 40) X12 hx (hb hby own_d9_37) rfl (Jvm.Free.XT.ii_ge_f hc37_13) ?_
        refine ow_aloadNW (q := 41) X12 hx (hb hby own_d9_40) rfl rfl rfl ?_
        refine ow_iloadNW (q := 42) X12 hx (hb hby own_d9_41) rfl rfl ?_
        obtain ⟨cq14, kq14, q14a, q14b, q14c⟩ := isOf hZ e12 F2
        obtain ⟨_, _, ⟨T14, L14, k14, n14⟩, -, X14, ⟨Lc14, hQ14, l14, y14, z14⟩, st14⟩ := X12.virtualBack hx (y := (⟨"java/lang/String", "charAt", "(I)C"⟩ : MethodName)) (z := (⟨"java/lang/String", "charAt", "(I)C"⟩ : MethodName)) hown (mvT hZ (ww 64 rfl)) (mvT hZ (ww 65 rfl)) (notFace_of_selects (args := #[]) (mvT hZ (ww 67 rfl))) (mvT hZ (ww 67 rfl)) (mvT hZ (ww 66 rfl)) (by decide) (backOf (W := 0) (rm_charAt32 l Z av0 hw [] sx i t gb zc fm h1 n0 (Nat.le_trans Z0 K1.1) F2 F3 F4 F5 F6 F7 hi0 hc37_13 hz hr_fm hok) hZ (ww 68 rfl) (ww 11 rfl) (by decide) (by decide)) q14a q14c (g := (mkF m 42 #[rv sx, iv i, iv x2, iv x3] [(.int i), (.ref sx)])) rfl (by rw [hml]; rfl) (Steps.refl _) (argsL := [(.int i)]) (rest := []) (lenOf own_pd0 rfl) rfl (by show 2 * 0 + _ ≤ _; exact Nat.le_of_eq rfl) (hb hby own_d9_42) (fun _ _ => ⟨rfl, e12, (by decide : 2 + 0 ≤ _), (by decide : 12 + 0 ≤ _)⟩)
        dsimp only [Pt.U, Pt.locs, Pt.cells, Pt.slots] at X14 l14 y14 z14 st14 hQ14
        subst l14 y14 z14
        obtain ⟨r14, rfl, N14q, e14, hp14⟩ := hQ14
        have N14 := Fr.app N12 N14q
        refine ownRunW (T' := T14) (f' := (mkF m 45 #[rv sx, iv i, iv x2, iv x3] [(.int r14)])) st14 ?_
        refine ow_istoreNW (q := 46) X14 hx (L' := #[rv sx, iv i, iv r14, iv x3]) (hb hby own_d9_45) rfl rfl ?_
        refine ow_iloadNW (q := 47) X14 hx (hb hby own_d9_46) rfl rfl ?_
        refine ow_bipushW (q := 49) X14 hx (97 : Int32) (hb hby own_d9_47) rfl rfl ?_
        by_cases hc49_15 : r14 < (97 : Int32)
        · refine ow_icmpYesW (q := 58) X14 hx (hb hby own_d9_49) (Jvm.Free.XT.ii_lt_t hc49_15) (by decide) (by decide) ?_
          refine ow_iloadNW (q := 59) X14 hx (hb hby own_d9_58) rfl rfl ?_
          refine ow_bipushW (q := 61) X14 hx (65 : Int32) (hb hby own_d9_59) rfl rfl ?_
          by_cases hc61_16 : r14 < (65 : Int32)
          · refine ow_icmpYesW (q := 70) X14 hx (hb hby own_d9_61) (Jvm.Free.XT.ii_lt_t hc61_16) (by decide) (by decide) ?_
            refine ow_iloadNW (q := 71) X14 hx (hb hby own_d9_70) rfl rfl ?_
            refine ow_bipushW (q := 73) X14 hx (48 : Int32) (hb hby own_d9_71) rfl rfl ?_
            by_cases hc73_17 : r14 < (48 : Int32)
            · refine ow_icmpYesW (q := 82) X14 hx (hb hby own_d9_73) (Jvm.Free.XT.ii_lt_t hc73_17) (by decide) (by decide) ?_
              refine ow_iloadNW (q := 83) X14 hx (hb hby own_d9_82) rfl rfl ?_
              refine ow_bipushW (q := 85) X14 hx (95 : Int32) (hb hby own_d9_83) rfl rfl ?_
              by_cases hc85_18 : r14 = (95 : Int32)
              · refine ow_icmpYesW (q := 94) X14 hx (hb hby own_d9_85) (Jvm.Free.XT.ii_eq_t hc85_18) (by decide) (by decide) ?_
                refine ow_iconstW (q := 95) X14 hx (1 : Int32) (hb hby own_d9_94) rfl rfl ?_
                refine ow_gotoW (q := 99) X14 hx (hb hby own_d9_95) (by decide) (by decide) ?_
                refine ow_istoreNW (q := 100) X14 hx (L' := #[rv sx, iv i, iv r14, iv (1 : Int32)]) (hb hby own_d9_99) rfl rfl ?_
                refine ow_iloadNW (q := 101) X14 hx (hb hby own_d9_100) rfl rfl ?_
                refine ow_ifYesW (q := 111) X14 hx (hb hby own_d9_101) (Jvm.Free.XT.i0_ne_t (by decide)) (by decide) (by decide) ?_
                refine ow_iincW (q := 114) X14 hx (L' := #[rv sx, iv (i + (1 : Int32)), iv r14, iv (1 : Int32)]) (hb hby own_d9_111) rfl rfl rfl ?_
                generalize hv_v19 : (i + (1 : Int32)) = v19
                refine ow_gotoW (q := 32) X14 hx (hb hby own_d9_114) (by decide) (by decide) ?_
                exact ih11 v19 r14 (1 : Int32) _ _ X14 e14 N14 (own_ms hv_v19 hi0 hc37_13 rfl hm11) (own_i1 hv_v19 hi0 hc37_13).1 (own_i1 hv_v19 hi0 hc37_13).2
              · refine ow_icmpNoW (q := 88) X14 hx (hb hby own_d9_85) rfl (Jvm.Free.XT.ii_eq_f hc85_18) ?_
                refine ow_iloadNW (q := 89) X14 hx (hb hby own_d9_88) rfl rfl ?_
                refine ow_bipushW (q := 91) X14 hx (45 : Int32) (hb hby own_d9_89) rfl rfl ?_
                by_cases hc91_20 : r14 = (45 : Int32)
                · refine ow_icmpNoW (q := 94) X14 hx (hb hby own_d9_91) rfl (Jvm.Free.XT.ii_ne_f hc91_20) ?_
                  refine ow_iconstW (q := 95) X14 hx (1 : Int32) (hb hby own_d9_94) rfl rfl ?_
                  refine ow_gotoW (q := 99) X14 hx (hb hby own_d9_95) (by decide) (by decide) ?_
                  refine ow_istoreNW (q := 100) X14 hx (L' := #[rv sx, iv i, iv r14, iv (1 : Int32)]) (hb hby own_d9_99) rfl rfl ?_
                  refine ow_iloadNW (q := 101) X14 hx (hb hby own_d9_100) rfl rfl ?_
                  refine ow_ifYesW (q := 111) X14 hx (hb hby own_d9_101) (Jvm.Free.XT.i0_ne_t (by decide)) (by decide) (by decide) ?_
                  refine ow_iincW (q := 114) X14 hx (L' := #[rv sx, iv (i + (1 : Int32)), iv r14, iv (1 : Int32)]) (hb hby own_d9_111) rfl rfl rfl ?_
                  generalize hv_v21 : (i + (1 : Int32)) = v21
                  refine ow_gotoW (q := 32) X14 hx (hb hby own_d9_114) (by decide) (by decide) ?_
                  exact ih11 v21 r14 (1 : Int32) _ _ X14 e14 N14 (own_ms hv_v21 hi0 hc37_13 rfl hm11) (own_i1 hv_v21 hi0 hc37_13).1 (own_i1 hv_v21 hi0 hc37_13).2
                · refine ow_icmpYesW (q := 98) X14 hx (hb hby own_d9_91) (Jvm.Free.XT.ii_ne_t hc91_20) (by decide) (by decide) ?_
                  exfalso
                  have hk := own_okI hp14
                  have cc0 := own_ltI hc49_15
                  have cc1 := own_ltI hc61_16
                  have cc2 := own_ltI hc73_17
                  have cc3 := own_neI hc85_18
                  have cc4 := own_neI hc91_20
                  simp only [Int32.reduceToInt] at cc0 cc1 cc2 cc3 cc4
                  omega
            · refine ow_icmpNoW (q := 76) X14 hx (hb hby own_d9_73) rfl (Jvm.Free.XT.ii_lt_f hc73_17) ?_
              refine ow_iloadNW (q := 77) X14 hx (hb hby own_d9_76) rfl rfl ?_
              refine ow_bipushW (q := 79) X14 hx (57 : Int32) (hb hby own_d9_77) rfl rfl ?_
              by_cases hc79_22 : (57 : Int32) < r14
              · refine ow_icmpNoW (q := 82) X14 hx (hb hby own_d9_79) rfl (Jvm.Free.XT.ii_le_f hc79_22) ?_
                refine ow_iloadNW (q := 83) X14 hx (hb hby own_d9_82) rfl rfl ?_
                refine ow_bipushW (q := 85) X14 hx (95 : Int32) (hb hby own_d9_83) rfl rfl ?_
                by_cases hc85_23 : r14 = (95 : Int32)
                · refine ow_icmpYesW (q := 94) X14 hx (hb hby own_d9_85) (Jvm.Free.XT.ii_eq_t hc85_23) (by decide) (by decide) ?_
                  refine ow_iconstW (q := 95) X14 hx (1 : Int32) (hb hby own_d9_94) rfl rfl ?_
                  refine ow_gotoW (q := 99) X14 hx (hb hby own_d9_95) (by decide) (by decide) ?_
                  refine ow_istoreNW (q := 100) X14 hx (L' := #[rv sx, iv i, iv r14, iv (1 : Int32)]) (hb hby own_d9_99) rfl rfl ?_
                  refine ow_iloadNW (q := 101) X14 hx (hb hby own_d9_100) rfl rfl ?_
                  refine ow_ifYesW (q := 111) X14 hx (hb hby own_d9_101) (Jvm.Free.XT.i0_ne_t (by decide)) (by decide) (by decide) ?_
                  refine ow_iincW (q := 114) X14 hx (L' := #[rv sx, iv (i + (1 : Int32)), iv r14, iv (1 : Int32)]) (hb hby own_d9_111) rfl rfl rfl ?_
                  generalize hv_v24 : (i + (1 : Int32)) = v24
                  refine ow_gotoW (q := 32) X14 hx (hb hby own_d9_114) (by decide) (by decide) ?_
                  exact ih11 v24 r14 (1 : Int32) _ _ X14 e14 N14 (own_ms hv_v24 hi0 hc37_13 rfl hm11) (own_i1 hv_v24 hi0 hc37_13).1 (own_i1 hv_v24 hi0 hc37_13).2
                · refine ow_icmpNoW (q := 88) X14 hx (hb hby own_d9_85) rfl (Jvm.Free.XT.ii_eq_f hc85_23) ?_
                  refine ow_iloadNW (q := 89) X14 hx (hb hby own_d9_88) rfl rfl ?_
                  refine ow_bipushW (q := 91) X14 hx (45 : Int32) (hb hby own_d9_89) rfl rfl ?_
                  by_cases hc91_25 : r14 = (45 : Int32)
                  · refine ow_icmpNoW (q := 94) X14 hx (hb hby own_d9_91) rfl (Jvm.Free.XT.ii_ne_f hc91_25) ?_
                    refine ow_iconstW (q := 95) X14 hx (1 : Int32) (hb hby own_d9_94) rfl rfl ?_
                    refine ow_gotoW (q := 99) X14 hx (hb hby own_d9_95) (by decide) (by decide) ?_
                    refine ow_istoreNW (q := 100) X14 hx (L' := #[rv sx, iv i, iv r14, iv (1 : Int32)]) (hb hby own_d9_99) rfl rfl ?_
                    refine ow_iloadNW (q := 101) X14 hx (hb hby own_d9_100) rfl rfl ?_
                    refine ow_ifYesW (q := 111) X14 hx (hb hby own_d9_101) (Jvm.Free.XT.i0_ne_t (by decide)) (by decide) (by decide) ?_
                    refine ow_iincW (q := 114) X14 hx (L' := #[rv sx, iv (i + (1 : Int32)), iv r14, iv (1 : Int32)]) (hb hby own_d9_111) rfl rfl rfl ?_
                    generalize hv_v26 : (i + (1 : Int32)) = v26
                    refine ow_gotoW (q := 32) X14 hx (hb hby own_d9_114) (by decide) (by decide) ?_
                    exact ih11 v26 r14 (1 : Int32) _ _ X14 e14 N14 (own_ms hv_v26 hi0 hc37_13 rfl hm11) (own_i1 hv_v26 hi0 hc37_13).1 (own_i1 hv_v26 hi0 hc37_13).2
                  · refine ow_icmpYesW (q := 98) X14 hx (hb hby own_d9_91) (Jvm.Free.XT.ii_ne_t hc91_25) (by decide) (by decide) ?_
                    exfalso
                    have hk := own_okI hp14
                    have cc0 := own_ltI hc49_15
                    have cc1 := own_ltI hc61_16
                    have cc2 := own_nltI hc73_17
                    have cc3 := own_ltI hc79_22
                    have cc4 := own_neI hc85_23
                    have cc5 := own_neI hc91_25
                    simp only [Int32.reduceToInt] at cc0 cc1 cc2 cc3 cc4 cc5
                    omega
              · refine ow_icmpYesW (q := 94) X14 hx (hb hby own_d9_79) (Jvm.Free.XT.ii_le_t hc79_22) (by decide) (by decide) ?_
                refine ow_iconstW (q := 95) X14 hx (1 : Int32) (hb hby own_d9_94) rfl rfl ?_
                refine ow_gotoW (q := 99) X14 hx (hb hby own_d9_95) (by decide) (by decide) ?_
                refine ow_istoreNW (q := 100) X14 hx (L' := #[rv sx, iv i, iv r14, iv (1 : Int32)]) (hb hby own_d9_99) rfl rfl ?_
                refine ow_iloadNW (q := 101) X14 hx (hb hby own_d9_100) rfl rfl ?_
                refine ow_ifYesW (q := 111) X14 hx (hb hby own_d9_101) (Jvm.Free.XT.i0_ne_t (by decide)) (by decide) (by decide) ?_
                refine ow_iincW (q := 114) X14 hx (L' := #[rv sx, iv (i + (1 : Int32)), iv r14, iv (1 : Int32)]) (hb hby own_d9_111) rfl rfl rfl ?_
                generalize hv_v27 : (i + (1 : Int32)) = v27
                refine ow_gotoW (q := 32) X14 hx (hb hby own_d9_114) (by decide) (by decide) ?_
                exact ih11 v27 r14 (1 : Int32) _ _ X14 e14 N14 (own_ms hv_v27 hi0 hc37_13 rfl hm11) (own_i1 hv_v27 hi0 hc37_13).1 (own_i1 hv_v27 hi0 hc37_13).2
          · refine ow_icmpNoW (q := 64) X14 hx (hb hby own_d9_61) rfl (Jvm.Free.XT.ii_lt_f hc61_16) ?_
            refine ow_iloadNW (q := 65) X14 hx (hb hby own_d9_64) rfl rfl ?_
            refine ow_bipushW (q := 67) X14 hx (90 : Int32) (hb hby own_d9_65) rfl rfl ?_
            by_cases hc67_28 : (90 : Int32) < r14
            · refine ow_icmpNoW (q := 70) X14 hx (hb hby own_d9_67) rfl (Jvm.Free.XT.ii_le_f hc67_28) ?_
              refine ow_iloadNW (q := 71) X14 hx (hb hby own_d9_70) rfl rfl ?_
              refine ow_bipushW (q := 73) X14 hx (48 : Int32) (hb hby own_d9_71) rfl rfl ?_
              by_cases hc73_29 : r14 < (48 : Int32)
              · refine ow_icmpYesW (q := 82) X14 hx (hb hby own_d9_73) (Jvm.Free.XT.ii_lt_t hc73_29) (by decide) (by decide) ?_
                refine ow_iloadNW (q := 83) X14 hx (hb hby own_d9_82) rfl rfl ?_
                refine ow_bipushW (q := 85) X14 hx (95 : Int32) (hb hby own_d9_83) rfl rfl ?_
                by_cases hc85_30 : r14 = (95 : Int32)
                · refine ow_icmpYesW (q := 94) X14 hx (hb hby own_d9_85) (Jvm.Free.XT.ii_eq_t hc85_30) (by decide) (by decide) ?_
                  refine ow_iconstW (q := 95) X14 hx (1 : Int32) (hb hby own_d9_94) rfl rfl ?_
                  refine ow_gotoW (q := 99) X14 hx (hb hby own_d9_95) (by decide) (by decide) ?_
                  refine ow_istoreNW (q := 100) X14 hx (L' := #[rv sx, iv i, iv r14, iv (1 : Int32)]) (hb hby own_d9_99) rfl rfl ?_
                  refine ow_iloadNW (q := 101) X14 hx (hb hby own_d9_100) rfl rfl ?_
                  refine ow_ifYesW (q := 111) X14 hx (hb hby own_d9_101) (Jvm.Free.XT.i0_ne_t (by decide)) (by decide) (by decide) ?_
                  refine ow_iincW (q := 114) X14 hx (L' := #[rv sx, iv (i + (1 : Int32)), iv r14, iv (1 : Int32)]) (hb hby own_d9_111) rfl rfl rfl ?_
                  generalize hv_v31 : (i + (1 : Int32)) = v31
                  refine ow_gotoW (q := 32) X14 hx (hb hby own_d9_114) (by decide) (by decide) ?_
                  exact ih11 v31 r14 (1 : Int32) _ _ X14 e14 N14 (own_ms hv_v31 hi0 hc37_13 rfl hm11) (own_i1 hv_v31 hi0 hc37_13).1 (own_i1 hv_v31 hi0 hc37_13).2
                · refine ow_icmpNoW (q := 88) X14 hx (hb hby own_d9_85) rfl (Jvm.Free.XT.ii_eq_f hc85_30) ?_
                  refine ow_iloadNW (q := 89) X14 hx (hb hby own_d9_88) rfl rfl ?_
                  refine ow_bipushW (q := 91) X14 hx (45 : Int32) (hb hby own_d9_89) rfl rfl ?_
                  by_cases hc91_32 : r14 = (45 : Int32)
                  · refine ow_icmpNoW (q := 94) X14 hx (hb hby own_d9_91) rfl (Jvm.Free.XT.ii_ne_f hc91_32) ?_
                    refine ow_iconstW (q := 95) X14 hx (1 : Int32) (hb hby own_d9_94) rfl rfl ?_
                    refine ow_gotoW (q := 99) X14 hx (hb hby own_d9_95) (by decide) (by decide) ?_
                    refine ow_istoreNW (q := 100) X14 hx (L' := #[rv sx, iv i, iv r14, iv (1 : Int32)]) (hb hby own_d9_99) rfl rfl ?_
                    refine ow_iloadNW (q := 101) X14 hx (hb hby own_d9_100) rfl rfl ?_
                    refine ow_ifYesW (q := 111) X14 hx (hb hby own_d9_101) (Jvm.Free.XT.i0_ne_t (by decide)) (by decide) (by decide) ?_
                    refine ow_iincW (q := 114) X14 hx (L' := #[rv sx, iv (i + (1 : Int32)), iv r14, iv (1 : Int32)]) (hb hby own_d9_111) rfl rfl rfl ?_
                    generalize hv_v33 : (i + (1 : Int32)) = v33
                    refine ow_gotoW (q := 32) X14 hx (hb hby own_d9_114) (by decide) (by decide) ?_
                    exact ih11 v33 r14 (1 : Int32) _ _ X14 e14 N14 (own_ms hv_v33 hi0 hc37_13 rfl hm11) (own_i1 hv_v33 hi0 hc37_13).1 (own_i1 hv_v33 hi0 hc37_13).2
                  · refine ow_icmpYesW (q := 98) X14 hx (hb hby own_d9_91) (Jvm.Free.XT.ii_ne_t hc91_32) (by decide) (by decide) ?_
                    exfalso
                    have hk := own_okI hp14
                    have cc0 := own_ltI hc49_15
                    have cc1 := own_nltI hc61_16
                    have cc2 := own_ltI hc67_28
                    have cc3 := own_ltI hc73_29
                    have cc4 := own_neI hc85_30
                    have cc5 := own_neI hc91_32
                    simp only [Int32.reduceToInt] at cc0 cc1 cc2 cc3 cc4 cc5
                    omega
              · refine ow_icmpNoW (q := 76) X14 hx (hb hby own_d9_73) rfl (Jvm.Free.XT.ii_lt_f hc73_29) ?_
                refine ow_iloadNW (q := 77) X14 hx (hb hby own_d9_76) rfl rfl ?_
                refine ow_bipushW (q := 79) X14 hx (57 : Int32) (hb hby own_d9_77) rfl rfl ?_
                by_cases hc79_34 : (57 : Int32) < r14
                · refine ow_icmpNoW (q := 82) X14 hx (hb hby own_d9_79) rfl (Jvm.Free.XT.ii_le_f hc79_34) ?_
                  refine ow_iloadNW (q := 83) X14 hx (hb hby own_d9_82) rfl rfl ?_
                  refine ow_bipushW (q := 85) X14 hx (95 : Int32) (hb hby own_d9_83) rfl rfl ?_
                  by_cases hc85_35 : r14 = (95 : Int32)
                  · refine ow_icmpYesW (q := 94) X14 hx (hb hby own_d9_85) (Jvm.Free.XT.ii_eq_t hc85_35) (by decide) (by decide) ?_
                    refine ow_iconstW (q := 95) X14 hx (1 : Int32) (hb hby own_d9_94) rfl rfl ?_
                    refine ow_gotoW (q := 99) X14 hx (hb hby own_d9_95) (by decide) (by decide) ?_
                    refine ow_istoreNW (q := 100) X14 hx (L' := #[rv sx, iv i, iv r14, iv (1 : Int32)]) (hb hby own_d9_99) rfl rfl ?_
                    refine ow_iloadNW (q := 101) X14 hx (hb hby own_d9_100) rfl rfl ?_
                    refine ow_ifYesW (q := 111) X14 hx (hb hby own_d9_101) (Jvm.Free.XT.i0_ne_t (by decide)) (by decide) (by decide) ?_
                    refine ow_iincW (q := 114) X14 hx (L' := #[rv sx, iv (i + (1 : Int32)), iv r14, iv (1 : Int32)]) (hb hby own_d9_111) rfl rfl rfl ?_
                    generalize hv_v36 : (i + (1 : Int32)) = v36
                    refine ow_gotoW (q := 32) X14 hx (hb hby own_d9_114) (by decide) (by decide) ?_
                    exact ih11 v36 r14 (1 : Int32) _ _ X14 e14 N14 (own_ms hv_v36 hi0 hc37_13 rfl hm11) (own_i1 hv_v36 hi0 hc37_13).1 (own_i1 hv_v36 hi0 hc37_13).2
                  · refine ow_icmpNoW (q := 88) X14 hx (hb hby own_d9_85) rfl (Jvm.Free.XT.ii_eq_f hc85_35) ?_
                    refine ow_iloadNW (q := 89) X14 hx (hb hby own_d9_88) rfl rfl ?_
                    refine ow_bipushW (q := 91) X14 hx (45 : Int32) (hb hby own_d9_89) rfl rfl ?_
                    by_cases hc91_37 : r14 = (45 : Int32)
                    · refine ow_icmpNoW (q := 94) X14 hx (hb hby own_d9_91) rfl (Jvm.Free.XT.ii_ne_f hc91_37) ?_
                      refine ow_iconstW (q := 95) X14 hx (1 : Int32) (hb hby own_d9_94) rfl rfl ?_
                      refine ow_gotoW (q := 99) X14 hx (hb hby own_d9_95) (by decide) (by decide) ?_
                      refine ow_istoreNW (q := 100) X14 hx (L' := #[rv sx, iv i, iv r14, iv (1 : Int32)]) (hb hby own_d9_99) rfl rfl ?_
                      refine ow_iloadNW (q := 101) X14 hx (hb hby own_d9_100) rfl rfl ?_
                      refine ow_ifYesW (q := 111) X14 hx (hb hby own_d9_101) (Jvm.Free.XT.i0_ne_t (by decide)) (by decide) (by decide) ?_
                      refine ow_iincW (q := 114) X14 hx (L' := #[rv sx, iv (i + (1 : Int32)), iv r14, iv (1 : Int32)]) (hb hby own_d9_111) rfl rfl rfl ?_
                      generalize hv_v38 : (i + (1 : Int32)) = v38
                      refine ow_gotoW (q := 32) X14 hx (hb hby own_d9_114) (by decide) (by decide) ?_
                      exact ih11 v38 r14 (1 : Int32) _ _ X14 e14 N14 (own_ms hv_v38 hi0 hc37_13 rfl hm11) (own_i1 hv_v38 hi0 hc37_13).1 (own_i1 hv_v38 hi0 hc37_13).2
                    · refine ow_icmpYesW (q := 98) X14 hx (hb hby own_d9_91) (Jvm.Free.XT.ii_ne_t hc91_37) (by decide) (by decide) ?_
                      exfalso
                      have hk := own_okI hp14
                      have cc0 := own_ltI hc49_15
                      have cc1 := own_nltI hc61_16
                      have cc2 := own_ltI hc67_28
                      have cc3 := own_nltI hc73_29
                      have cc4 := own_ltI hc79_34
                      have cc5 := own_neI hc85_35
                      have cc6 := own_neI hc91_37
                      simp only [Int32.reduceToInt] at cc0 cc1 cc2 cc3 cc4 cc5 cc6
                      omega
                · refine ow_icmpYesW (q := 94) X14 hx (hb hby own_d9_79) (Jvm.Free.XT.ii_le_t hc79_34) (by decide) (by decide) ?_
                  refine ow_iconstW (q := 95) X14 hx (1 : Int32) (hb hby own_d9_94) rfl rfl ?_
                  refine ow_gotoW (q := 99) X14 hx (hb hby own_d9_95) (by decide) (by decide) ?_
                  refine ow_istoreNW (q := 100) X14 hx (L' := #[rv sx, iv i, iv r14, iv (1 : Int32)]) (hb hby own_d9_99) rfl rfl ?_
                  refine ow_iloadNW (q := 101) X14 hx (hb hby own_d9_100) rfl rfl ?_
                  refine ow_ifYesW (q := 111) X14 hx (hb hby own_d9_101) (Jvm.Free.XT.i0_ne_t (by decide)) (by decide) (by decide) ?_
                  refine ow_iincW (q := 114) X14 hx (L' := #[rv sx, iv (i + (1 : Int32)), iv r14, iv (1 : Int32)]) (hb hby own_d9_111) rfl rfl rfl ?_
                  generalize hv_v39 : (i + (1 : Int32)) = v39
                  refine ow_gotoW (q := 32) X14 hx (hb hby own_d9_114) (by decide) (by decide) ?_
                  exact ih11 v39 r14 (1 : Int32) _ _ X14 e14 N14 (own_ms hv_v39 hi0 hc37_13 rfl hm11) (own_i1 hv_v39 hi0 hc37_13).1 (own_i1 hv_v39 hi0 hc37_13).2
            · refine ow_icmpYesW (q := 94) X14 hx (hb hby own_d9_67) (Jvm.Free.XT.ii_le_t hc67_28) (by decide) (by decide) ?_
              refine ow_iconstW (q := 95) X14 hx (1 : Int32) (hb hby own_d9_94) rfl rfl ?_
              refine ow_gotoW (q := 99) X14 hx (hb hby own_d9_95) (by decide) (by decide) ?_
              refine ow_istoreNW (q := 100) X14 hx (L' := #[rv sx, iv i, iv r14, iv (1 : Int32)]) (hb hby own_d9_99) rfl rfl ?_
              refine ow_iloadNW (q := 101) X14 hx (hb hby own_d9_100) rfl rfl ?_
              refine ow_ifYesW (q := 111) X14 hx (hb hby own_d9_101) (Jvm.Free.XT.i0_ne_t (by decide)) (by decide) (by decide) ?_
              refine ow_iincW (q := 114) X14 hx (L' := #[rv sx, iv (i + (1 : Int32)), iv r14, iv (1 : Int32)]) (hb hby own_d9_111) rfl rfl rfl ?_
              generalize hv_v40 : (i + (1 : Int32)) = v40
              refine ow_gotoW (q := 32) X14 hx (hb hby own_d9_114) (by decide) (by decide) ?_
              exact ih11 v40 r14 (1 : Int32) _ _ X14 e14 N14 (own_ms hv_v40 hi0 hc37_13 rfl hm11) (own_i1 hv_v40 hi0 hc37_13).1 (own_i1 hv_v40 hi0 hc37_13).2
        · refine ow_icmpNoW (q := 52) X14 hx (hb hby own_d9_49) rfl (Jvm.Free.XT.ii_lt_f hc49_15) ?_
          refine ow_iloadNW (q := 53) X14 hx (hb hby own_d9_52) rfl rfl ?_
          refine ow_bipushW (q := 55) X14 hx (122 : Int32) (hb hby own_d9_53) rfl rfl ?_
          by_cases hc55_41 : (122 : Int32) < r14
          · refine ow_icmpNoW (q := 58) X14 hx (hb hby own_d9_55) rfl (Jvm.Free.XT.ii_le_f hc55_41) ?_
            refine ow_iloadNW (q := 59) X14 hx (hb hby own_d9_58) rfl rfl ?_
            refine ow_bipushW (q := 61) X14 hx (65 : Int32) (hb hby own_d9_59) rfl rfl ?_
            by_cases hc61_42 : r14 < (65 : Int32)
            · refine ow_icmpYesW (q := 70) X14 hx (hb hby own_d9_61) (Jvm.Free.XT.ii_lt_t hc61_42) (by decide) (by decide) ?_
              refine ow_iloadNW (q := 71) X14 hx (hb hby own_d9_70) rfl rfl ?_
              refine ow_bipushW (q := 73) X14 hx (48 : Int32) (hb hby own_d9_71) rfl rfl ?_
              by_cases hc73_43 : r14 < (48 : Int32)
              · refine ow_icmpYesW (q := 82) X14 hx (hb hby own_d9_73) (Jvm.Free.XT.ii_lt_t hc73_43) (by decide) (by decide) ?_
                refine ow_iloadNW (q := 83) X14 hx (hb hby own_d9_82) rfl rfl ?_
                refine ow_bipushW (q := 85) X14 hx (95 : Int32) (hb hby own_d9_83) rfl rfl ?_
                by_cases hc85_44 : r14 = (95 : Int32)
                · refine ow_icmpYesW (q := 94) X14 hx (hb hby own_d9_85) (Jvm.Free.XT.ii_eq_t hc85_44) (by decide) (by decide) ?_
                  refine ow_iconstW (q := 95) X14 hx (1 : Int32) (hb hby own_d9_94) rfl rfl ?_
                  refine ow_gotoW (q := 99) X14 hx (hb hby own_d9_95) (by decide) (by decide) ?_
                  refine ow_istoreNW (q := 100) X14 hx (L' := #[rv sx, iv i, iv r14, iv (1 : Int32)]) (hb hby own_d9_99) rfl rfl ?_
                  refine ow_iloadNW (q := 101) X14 hx (hb hby own_d9_100) rfl rfl ?_
                  refine ow_ifYesW (q := 111) X14 hx (hb hby own_d9_101) (Jvm.Free.XT.i0_ne_t (by decide)) (by decide) (by decide) ?_
                  refine ow_iincW (q := 114) X14 hx (L' := #[rv sx, iv (i + (1 : Int32)), iv r14, iv (1 : Int32)]) (hb hby own_d9_111) rfl rfl rfl ?_
                  generalize hv_v45 : (i + (1 : Int32)) = v45
                  refine ow_gotoW (q := 32) X14 hx (hb hby own_d9_114) (by decide) (by decide) ?_
                  exact ih11 v45 r14 (1 : Int32) _ _ X14 e14 N14 (own_ms hv_v45 hi0 hc37_13 rfl hm11) (own_i1 hv_v45 hi0 hc37_13).1 (own_i1 hv_v45 hi0 hc37_13).2
                · refine ow_icmpNoW (q := 88) X14 hx (hb hby own_d9_85) rfl (Jvm.Free.XT.ii_eq_f hc85_44) ?_
                  refine ow_iloadNW (q := 89) X14 hx (hb hby own_d9_88) rfl rfl ?_
                  refine ow_bipushW (q := 91) X14 hx (45 : Int32) (hb hby own_d9_89) rfl rfl ?_
                  by_cases hc91_46 : r14 = (45 : Int32)
                  · refine ow_icmpNoW (q := 94) X14 hx (hb hby own_d9_91) rfl (Jvm.Free.XT.ii_ne_f hc91_46) ?_
                    refine ow_iconstW (q := 95) X14 hx (1 : Int32) (hb hby own_d9_94) rfl rfl ?_
                    refine ow_gotoW (q := 99) X14 hx (hb hby own_d9_95) (by decide) (by decide) ?_
                    refine ow_istoreNW (q := 100) X14 hx (L' := #[rv sx, iv i, iv r14, iv (1 : Int32)]) (hb hby own_d9_99) rfl rfl ?_
                    refine ow_iloadNW (q := 101) X14 hx (hb hby own_d9_100) rfl rfl ?_
                    refine ow_ifYesW (q := 111) X14 hx (hb hby own_d9_101) (Jvm.Free.XT.i0_ne_t (by decide)) (by decide) (by decide) ?_
                    refine ow_iincW (q := 114) X14 hx (L' := #[rv sx, iv (i + (1 : Int32)), iv r14, iv (1 : Int32)]) (hb hby own_d9_111) rfl rfl rfl ?_
                    generalize hv_v47 : (i + (1 : Int32)) = v47
                    refine ow_gotoW (q := 32) X14 hx (hb hby own_d9_114) (by decide) (by decide) ?_
                    exact ih11 v47 r14 (1 : Int32) _ _ X14 e14 N14 (own_ms hv_v47 hi0 hc37_13 rfl hm11) (own_i1 hv_v47 hi0 hc37_13).1 (own_i1 hv_v47 hi0 hc37_13).2
                  · refine ow_icmpYesW (q := 98) X14 hx (hb hby own_d9_91) (Jvm.Free.XT.ii_ne_t hc91_46) (by decide) (by decide) ?_
                    exfalso
                    have hk := own_okI hp14
                    have cc0 := own_nltI hc49_15
                    have cc1 := own_ltI hc55_41
                    have cc2 := own_ltI hc61_42
                    have cc3 := own_ltI hc73_43
                    have cc4 := own_neI hc85_44
                    have cc5 := own_neI hc91_46
                    simp only [Int32.reduceToInt] at cc0 cc1 cc2 cc3 cc4 cc5
                    omega
              · refine ow_icmpNoW (q := 76) X14 hx (hb hby own_d9_73) rfl (Jvm.Free.XT.ii_lt_f hc73_43) ?_
                refine ow_iloadNW (q := 77) X14 hx (hb hby own_d9_76) rfl rfl ?_
                refine ow_bipushW (q := 79) X14 hx (57 : Int32) (hb hby own_d9_77) rfl rfl ?_
                by_cases hc79_48 : (57 : Int32) < r14
                · refine ow_icmpNoW (q := 82) X14 hx (hb hby own_d9_79) rfl (Jvm.Free.XT.ii_le_f hc79_48) ?_
                  refine ow_iloadNW (q := 83) X14 hx (hb hby own_d9_82) rfl rfl ?_
                  refine ow_bipushW (q := 85) X14 hx (95 : Int32) (hb hby own_d9_83) rfl rfl ?_
                  by_cases hc85_49 : r14 = (95 : Int32)
                  · refine ow_icmpYesW (q := 94) X14 hx (hb hby own_d9_85) (Jvm.Free.XT.ii_eq_t hc85_49) (by decide) (by decide) ?_
                    refine ow_iconstW (q := 95) X14 hx (1 : Int32) (hb hby own_d9_94) rfl rfl ?_
                    refine ow_gotoW (q := 99) X14 hx (hb hby own_d9_95) (by decide) (by decide) ?_
                    refine ow_istoreNW (q := 100) X14 hx (L' := #[rv sx, iv i, iv r14, iv (1 : Int32)]) (hb hby own_d9_99) rfl rfl ?_
                    refine ow_iloadNW (q := 101) X14 hx (hb hby own_d9_100) rfl rfl ?_
                    refine ow_ifYesW (q := 111) X14 hx (hb hby own_d9_101) (Jvm.Free.XT.i0_ne_t (by decide)) (by decide) (by decide) ?_
                    refine ow_iincW (q := 114) X14 hx (L' := #[rv sx, iv (i + (1 : Int32)), iv r14, iv (1 : Int32)]) (hb hby own_d9_111) rfl rfl rfl ?_
                    generalize hv_v50 : (i + (1 : Int32)) = v50
                    refine ow_gotoW (q := 32) X14 hx (hb hby own_d9_114) (by decide) (by decide) ?_
                    exact ih11 v50 r14 (1 : Int32) _ _ X14 e14 N14 (own_ms hv_v50 hi0 hc37_13 rfl hm11) (own_i1 hv_v50 hi0 hc37_13).1 (own_i1 hv_v50 hi0 hc37_13).2
                  · refine ow_icmpNoW (q := 88) X14 hx (hb hby own_d9_85) rfl (Jvm.Free.XT.ii_eq_f hc85_49) ?_
                    refine ow_iloadNW (q := 89) X14 hx (hb hby own_d9_88) rfl rfl ?_
                    refine ow_bipushW (q := 91) X14 hx (45 : Int32) (hb hby own_d9_89) rfl rfl ?_
                    by_cases hc91_51 : r14 = (45 : Int32)
                    · refine ow_icmpNoW (q := 94) X14 hx (hb hby own_d9_91) rfl (Jvm.Free.XT.ii_ne_f hc91_51) ?_
                      refine ow_iconstW (q := 95) X14 hx (1 : Int32) (hb hby own_d9_94) rfl rfl ?_
                      refine ow_gotoW (q := 99) X14 hx (hb hby own_d9_95) (by decide) (by decide) ?_
                      refine ow_istoreNW (q := 100) X14 hx (L' := #[rv sx, iv i, iv r14, iv (1 : Int32)]) (hb hby own_d9_99) rfl rfl ?_
                      refine ow_iloadNW (q := 101) X14 hx (hb hby own_d9_100) rfl rfl ?_
                      refine ow_ifYesW (q := 111) X14 hx (hb hby own_d9_101) (Jvm.Free.XT.i0_ne_t (by decide)) (by decide) (by decide) ?_
                      refine ow_iincW (q := 114) X14 hx (L' := #[rv sx, iv (i + (1 : Int32)), iv r14, iv (1 : Int32)]) (hb hby own_d9_111) rfl rfl rfl ?_
                      generalize hv_v52 : (i + (1 : Int32)) = v52
                      refine ow_gotoW (q := 32) X14 hx (hb hby own_d9_114) (by decide) (by decide) ?_
                      exact ih11 v52 r14 (1 : Int32) _ _ X14 e14 N14 (own_ms hv_v52 hi0 hc37_13 rfl hm11) (own_i1 hv_v52 hi0 hc37_13).1 (own_i1 hv_v52 hi0 hc37_13).2
                    · refine ow_icmpYesW (q := 98) X14 hx (hb hby own_d9_91) (Jvm.Free.XT.ii_ne_t hc91_51) (by decide) (by decide) ?_
                      exfalso
                      have hk := own_okI hp14
                      have cc0 := own_nltI hc49_15
                      have cc1 := own_ltI hc55_41
                      have cc2 := own_ltI hc61_42
                      have cc3 := own_nltI hc73_43
                      have cc4 := own_ltI hc79_48
                      have cc5 := own_neI hc85_49
                      have cc6 := own_neI hc91_51
                      simp only [Int32.reduceToInt] at cc0 cc1 cc2 cc3 cc4 cc5 cc6
                      omega
                · refine ow_icmpYesW (q := 94) X14 hx (hb hby own_d9_79) (Jvm.Free.XT.ii_le_t hc79_48) (by decide) (by decide) ?_
                  refine ow_iconstW (q := 95) X14 hx (1 : Int32) (hb hby own_d9_94) rfl rfl ?_
                  refine ow_gotoW (q := 99) X14 hx (hb hby own_d9_95) (by decide) (by decide) ?_
                  refine ow_istoreNW (q := 100) X14 hx (L' := #[rv sx, iv i, iv r14, iv (1 : Int32)]) (hb hby own_d9_99) rfl rfl ?_
                  refine ow_iloadNW (q := 101) X14 hx (hb hby own_d9_100) rfl rfl ?_
                  refine ow_ifYesW (q := 111) X14 hx (hb hby own_d9_101) (Jvm.Free.XT.i0_ne_t (by decide)) (by decide) (by decide) ?_
                  refine ow_iincW (q := 114) X14 hx (L' := #[rv sx, iv (i + (1 : Int32)), iv r14, iv (1 : Int32)]) (hb hby own_d9_111) rfl rfl rfl ?_
                  generalize hv_v53 : (i + (1 : Int32)) = v53
                  refine ow_gotoW (q := 32) X14 hx (hb hby own_d9_114) (by decide) (by decide) ?_
                  exact ih11 v53 r14 (1 : Int32) _ _ X14 e14 N14 (own_ms hv_v53 hi0 hc37_13 rfl hm11) (own_i1 hv_v53 hi0 hc37_13).1 (own_i1 hv_v53 hi0 hc37_13).2
            · refine ow_icmpNoW (q := 64) X14 hx (hb hby own_d9_61) rfl (Jvm.Free.XT.ii_lt_f hc61_42) ?_
              refine ow_iloadNW (q := 65) X14 hx (hb hby own_d9_64) rfl rfl ?_
              refine ow_bipushW (q := 67) X14 hx (90 : Int32) (hb hby own_d9_65) rfl rfl ?_
              by_cases hc67_54 : (90 : Int32) < r14
              · refine ow_icmpNoW (q := 70) X14 hx (hb hby own_d9_67) rfl (Jvm.Free.XT.ii_le_f hc67_54) ?_
                refine ow_iloadNW (q := 71) X14 hx (hb hby own_d9_70) rfl rfl ?_
                refine ow_bipushW (q := 73) X14 hx (48 : Int32) (hb hby own_d9_71) rfl rfl ?_
                by_cases hc73_55 : r14 < (48 : Int32)
                · refine ow_icmpYesW (q := 82) X14 hx (hb hby own_d9_73) (Jvm.Free.XT.ii_lt_t hc73_55) (by decide) (by decide) ?_
                  refine ow_iloadNW (q := 83) X14 hx (hb hby own_d9_82) rfl rfl ?_
                  refine ow_bipushW (q := 85) X14 hx (95 : Int32) (hb hby own_d9_83) rfl rfl ?_
                  by_cases hc85_56 : r14 = (95 : Int32)
                  · refine ow_icmpYesW (q := 94) X14 hx (hb hby own_d9_85) (Jvm.Free.XT.ii_eq_t hc85_56) (by decide) (by decide) ?_
                    refine ow_iconstW (q := 95) X14 hx (1 : Int32) (hb hby own_d9_94) rfl rfl ?_
                    refine ow_gotoW (q := 99) X14 hx (hb hby own_d9_95) (by decide) (by decide) ?_
                    refine ow_istoreNW (q := 100) X14 hx (L' := #[rv sx, iv i, iv r14, iv (1 : Int32)]) (hb hby own_d9_99) rfl rfl ?_
                    refine ow_iloadNW (q := 101) X14 hx (hb hby own_d9_100) rfl rfl ?_
                    refine ow_ifYesW (q := 111) X14 hx (hb hby own_d9_101) (Jvm.Free.XT.i0_ne_t (by decide)) (by decide) (by decide) ?_
                    refine ow_iincW (q := 114) X14 hx (L' := #[rv sx, iv (i + (1 : Int32)), iv r14, iv (1 : Int32)]) (hb hby own_d9_111) rfl rfl rfl ?_
                    generalize hv_v57 : (i + (1 : Int32)) = v57
                    refine ow_gotoW (q := 32) X14 hx (hb hby own_d9_114) (by decide) (by decide) ?_
                    exact ih11 v57 r14 (1 : Int32) _ _ X14 e14 N14 (own_ms hv_v57 hi0 hc37_13 rfl hm11) (own_i1 hv_v57 hi0 hc37_13).1 (own_i1 hv_v57 hi0 hc37_13).2
                  · refine ow_icmpNoW (q := 88) X14 hx (hb hby own_d9_85) rfl (Jvm.Free.XT.ii_eq_f hc85_56) ?_
                    refine ow_iloadNW (q := 89) X14 hx (hb hby own_d9_88) rfl rfl ?_
                    refine ow_bipushW (q := 91) X14 hx (45 : Int32) (hb hby own_d9_89) rfl rfl ?_
                    by_cases hc91_58 : r14 = (45 : Int32)
                    · refine ow_icmpNoW (q := 94) X14 hx (hb hby own_d9_91) rfl (Jvm.Free.XT.ii_ne_f hc91_58) ?_
                      refine ow_iconstW (q := 95) X14 hx (1 : Int32) (hb hby own_d9_94) rfl rfl ?_
                      refine ow_gotoW (q := 99) X14 hx (hb hby own_d9_95) (by decide) (by decide) ?_
                      refine ow_istoreNW (q := 100) X14 hx (L' := #[rv sx, iv i, iv r14, iv (1 : Int32)]) (hb hby own_d9_99) rfl rfl ?_
                      refine ow_iloadNW (q := 101) X14 hx (hb hby own_d9_100) rfl rfl ?_
                      refine ow_ifYesW (q := 111) X14 hx (hb hby own_d9_101) (Jvm.Free.XT.i0_ne_t (by decide)) (by decide) (by decide) ?_
                      refine ow_iincW (q := 114) X14 hx (L' := #[rv sx, iv (i + (1 : Int32)), iv r14, iv (1 : Int32)]) (hb hby own_d9_111) rfl rfl rfl ?_
                      generalize hv_v59 : (i + (1 : Int32)) = v59
                      refine ow_gotoW (q := 32) X14 hx (hb hby own_d9_114) (by decide) (by decide) ?_
                      exact ih11 v59 r14 (1 : Int32) _ _ X14 e14 N14 (own_ms hv_v59 hi0 hc37_13 rfl hm11) (own_i1 hv_v59 hi0 hc37_13).1 (own_i1 hv_v59 hi0 hc37_13).2
                    · refine ow_icmpYesW (q := 98) X14 hx (hb hby own_d9_91) (Jvm.Free.XT.ii_ne_t hc91_58) (by decide) (by decide) ?_
                      exfalso
                      have hk := own_okI hp14
                      have cc0 := own_nltI hc49_15
                      have cc1 := own_ltI hc55_41
                      have cc2 := own_nltI hc61_42
                      have cc3 := own_ltI hc67_54
                      have cc4 := own_ltI hc73_55
                      have cc5 := own_neI hc85_56
                      have cc6 := own_neI hc91_58
                      simp only [Int32.reduceToInt] at cc0 cc1 cc2 cc3 cc4 cc5 cc6
                      omega
                · refine ow_icmpNoW (q := 76) X14 hx (hb hby own_d9_73) rfl (Jvm.Free.XT.ii_lt_f hc73_55) ?_
                  refine ow_iloadNW (q := 77) X14 hx (hb hby own_d9_76) rfl rfl ?_
                  refine ow_bipushW (q := 79) X14 hx (57 : Int32) (hb hby own_d9_77) rfl rfl ?_
                  by_cases hc79_60 : (57 : Int32) < r14
                  · refine ow_icmpNoW (q := 82) X14 hx (hb hby own_d9_79) rfl (Jvm.Free.XT.ii_le_f hc79_60) ?_
                    refine ow_iloadNW (q := 83) X14 hx (hb hby own_d9_82) rfl rfl ?_
                    refine ow_bipushW (q := 85) X14 hx (95 : Int32) (hb hby own_d9_83) rfl rfl ?_
                    by_cases hc85_61 : r14 = (95 : Int32)
                    · refine ow_icmpYesW (q := 94) X14 hx (hb hby own_d9_85) (Jvm.Free.XT.ii_eq_t hc85_61) (by decide) (by decide) ?_
                      refine ow_iconstW (q := 95) X14 hx (1 : Int32) (hb hby own_d9_94) rfl rfl ?_
                      refine ow_gotoW (q := 99) X14 hx (hb hby own_d9_95) (by decide) (by decide) ?_
                      refine ow_istoreNW (q := 100) X14 hx (L' := #[rv sx, iv i, iv r14, iv (1 : Int32)]) (hb hby own_d9_99) rfl rfl ?_
                      refine ow_iloadNW (q := 101) X14 hx (hb hby own_d9_100) rfl rfl ?_
                      refine ow_ifYesW (q := 111) X14 hx (hb hby own_d9_101) (Jvm.Free.XT.i0_ne_t (by decide)) (by decide) (by decide) ?_
                      refine ow_iincW (q := 114) X14 hx (L' := #[rv sx, iv (i + (1 : Int32)), iv r14, iv (1 : Int32)]) (hb hby own_d9_111) rfl rfl rfl ?_
                      generalize hv_v62 : (i + (1 : Int32)) = v62
                      refine ow_gotoW (q := 32) X14 hx (hb hby own_d9_114) (by decide) (by decide) ?_
                      exact ih11 v62 r14 (1 : Int32) _ _ X14 e14 N14 (own_ms hv_v62 hi0 hc37_13 rfl hm11) (own_i1 hv_v62 hi0 hc37_13).1 (own_i1 hv_v62 hi0 hc37_13).2
                    · refine ow_icmpNoW (q := 88) X14 hx (hb hby own_d9_85) rfl (Jvm.Free.XT.ii_eq_f hc85_61) ?_
                      refine ow_iloadNW (q := 89) X14 hx (hb hby own_d9_88) rfl rfl ?_
                      refine ow_bipushW (q := 91) X14 hx (45 : Int32) (hb hby own_d9_89) rfl rfl ?_
                      by_cases hc91_63 : r14 = (45 : Int32)
                      · refine ow_icmpNoW (q := 94) X14 hx (hb hby own_d9_91) rfl (Jvm.Free.XT.ii_ne_f hc91_63) ?_
                        refine ow_iconstW (q := 95) X14 hx (1 : Int32) (hb hby own_d9_94) rfl rfl ?_
                        refine ow_gotoW (q := 99) X14 hx (hb hby own_d9_95) (by decide) (by decide) ?_
                        refine ow_istoreNW (q := 100) X14 hx (L' := #[rv sx, iv i, iv r14, iv (1 : Int32)]) (hb hby own_d9_99) rfl rfl ?_
                        refine ow_iloadNW (q := 101) X14 hx (hb hby own_d9_100) rfl rfl ?_
                        refine ow_ifYesW (q := 111) X14 hx (hb hby own_d9_101) (Jvm.Free.XT.i0_ne_t (by decide)) (by decide) (by decide) ?_
                        refine ow_iincW (q := 114) X14 hx (L' := #[rv sx, iv (i + (1 : Int32)), iv r14, iv (1 : Int32)]) (hb hby own_d9_111) rfl rfl rfl ?_
                        generalize hv_v64 : (i + (1 : Int32)) = v64
                        refine ow_gotoW (q := 32) X14 hx (hb hby own_d9_114) (by decide) (by decide) ?_
                        exact ih11 v64 r14 (1 : Int32) _ _ X14 e14 N14 (own_ms hv_v64 hi0 hc37_13 rfl hm11) (own_i1 hv_v64 hi0 hc37_13).1 (own_i1 hv_v64 hi0 hc37_13).2
                      · refine ow_icmpYesW (q := 98) X14 hx (hb hby own_d9_91) (Jvm.Free.XT.ii_ne_t hc91_63) (by decide) (by decide) ?_
                        exfalso
                        have hk := own_okI hp14
                        have cc0 := own_nltI hc49_15
                        have cc1 := own_ltI hc55_41
                        have cc2 := own_nltI hc61_42
                        have cc3 := own_ltI hc67_54
                        have cc4 := own_nltI hc73_55
                        have cc5 := own_ltI hc79_60
                        have cc6 := own_neI hc85_61
                        have cc7 := own_neI hc91_63
                        simp only [Int32.reduceToInt] at cc0 cc1 cc2 cc3 cc4 cc5 cc6 cc7
                        omega
                  · refine ow_icmpYesW (q := 94) X14 hx (hb hby own_d9_79) (Jvm.Free.XT.ii_le_t hc79_60) (by decide) (by decide) ?_
                    refine ow_iconstW (q := 95) X14 hx (1 : Int32) (hb hby own_d9_94) rfl rfl ?_
                    refine ow_gotoW (q := 99) X14 hx (hb hby own_d9_95) (by decide) (by decide) ?_
                    refine ow_istoreNW (q := 100) X14 hx (L' := #[rv sx, iv i, iv r14, iv (1 : Int32)]) (hb hby own_d9_99) rfl rfl ?_
                    refine ow_iloadNW (q := 101) X14 hx (hb hby own_d9_100) rfl rfl ?_
                    refine ow_ifYesW (q := 111) X14 hx (hb hby own_d9_101) (Jvm.Free.XT.i0_ne_t (by decide)) (by decide) (by decide) ?_
                    refine ow_iincW (q := 114) X14 hx (L' := #[rv sx, iv (i + (1 : Int32)), iv r14, iv (1 : Int32)]) (hb hby own_d9_111) rfl rfl rfl ?_
                    generalize hv_v65 : (i + (1 : Int32)) = v65
                    refine ow_gotoW (q := 32) X14 hx (hb hby own_d9_114) (by decide) (by decide) ?_
                    exact ih11 v65 r14 (1 : Int32) _ _ X14 e14 N14 (own_ms hv_v65 hi0 hc37_13 rfl hm11) (own_i1 hv_v65 hi0 hc37_13).1 (own_i1 hv_v65 hi0 hc37_13).2
              · refine ow_icmpYesW (q := 94) X14 hx (hb hby own_d9_67) (Jvm.Free.XT.ii_le_t hc67_54) (by decide) (by decide) ?_
                refine ow_iconstW (q := 95) X14 hx (1 : Int32) (hb hby own_d9_94) rfl rfl ?_
                refine ow_gotoW (q := 99) X14 hx (hb hby own_d9_95) (by decide) (by decide) ?_
                refine ow_istoreNW (q := 100) X14 hx (L' := #[rv sx, iv i, iv r14, iv (1 : Int32)]) (hb hby own_d9_99) rfl rfl ?_
                refine ow_iloadNW (q := 101) X14 hx (hb hby own_d9_100) rfl rfl ?_
                refine ow_ifYesW (q := 111) X14 hx (hb hby own_d9_101) (Jvm.Free.XT.i0_ne_t (by decide)) (by decide) (by decide) ?_
                refine ow_iincW (q := 114) X14 hx (L' := #[rv sx, iv (i + (1 : Int32)), iv r14, iv (1 : Int32)]) (hb hby own_d9_111) rfl rfl rfl ?_
                generalize hv_v66 : (i + (1 : Int32)) = v66
                refine ow_gotoW (q := 32) X14 hx (hb hby own_d9_114) (by decide) (by decide) ?_
                exact ih11 v66 r14 (1 : Int32) _ _ X14 e14 N14 (own_ms hv_v66 hi0 hc37_13 rfl hm11) (own_i1 hv_v66 hi0 hc37_13).1 (own_i1 hv_v66 hi0 hc37_13).2
          · refine ow_icmpYesW (q := 94) X14 hx (hb hby own_d9_55) (Jvm.Free.XT.ii_le_t hc55_41) (by decide) (by decide) ?_
            refine ow_iconstW (q := 95) X14 hx (1 : Int32) (hb hby own_d9_94) rfl rfl ?_
            refine ow_gotoW (q := 99) X14 hx (hb hby own_d9_95) (by decide) (by decide) ?_
            refine ow_istoreNW (q := 100) X14 hx (L' := #[rv sx, iv i, iv r14, iv (1 : Int32)]) (hb hby own_d9_99) rfl rfl ?_
            refine ow_iloadNW (q := 101) X14 hx (hb hby own_d9_100) rfl rfl ?_
            refine ow_ifYesW (q := 111) X14 hx (hb hby own_d9_101) (Jvm.Free.XT.i0_ne_t (by decide)) (by decide) (by decide) ?_
            refine ow_iincW (q := 114) X14 hx (L' := #[rv sx, iv (i + (1 : Int32)), iv r14, iv (1 : Int32)]) (hb hby own_d9_111) rfl rfl rfl ?_
            generalize hv_v67 : (i + (1 : Int32)) = v67
            refine ow_gotoW (q := 32) X14 hx (hb hby own_d9_114) (by decide) (by decide) ?_
            exact ih11 v67 r14 (1 : Int32) _ _ X14 e14 N14 (own_ms hv_v67 hi0 hc37_13 rfl hm11) (own_i1 hv_v67 hi0 hc37_13).1 (own_i1 hv_v67 hi0 hc37_13).2
      · refine ow_icmpYesW (q := 117) X12 hx (hb hby own_d9_37) (Jvm.Free.XT.ii_ge_t hc37_13) (by decide) (by decide) ?_
        refine ow_aloadNW (q := 118) X12 hx (hb hby own_d9_117) rfl rfl rfl ?_
        refine ownRetRW X12 hx rfl rfl rfl Bd.returns (hb hby own_d9_118) hlk (by decide) (by decide) ?_
        refine ⟨?_, (by rw [e12]; exact Nat.le_refl _)⟩
        rw [e12]
        exact ⟨rfl, N12, K1⟩
  refine ow_iloadNW (q := 33) X10 hx (hb hby own_d9_32) rfl rfl ?_
  refine ow_aloadNW (q := 34) X10 hx (hb hby own_d9_33) rfl rfl rfl ?_
  obtain ⟨cq68, kq68, q68a, q68b, q68c⟩ := isOf hZ e10 F2
  obtain ⟨_, _, ⟨T68, L68, k68, n68⟩, -, X68, ⟨Lc68, hQ68, l68, y68, z68⟩, st68⟩ := X10.virtualBack hx (y := (⟨"java/lang/String", "length", "()I"⟩ : MethodName)) (z := (⟨"java/lang/String", "length", "()I"⟩ : MethodName)) hown (mvT hZ (ww 54 rfl)) (mvT hZ (ww 55 rfl)) (notFace_of_selects (args := #[]) (mvT hZ (ww 57 rfl))) (mvT hZ (ww 57 rfl)) (mvT hZ (ww 56 rfl)) (by decide) (backOf (W := 1) (rm_length32 l Z av0 hw [] sx t gb zc h1 n0 (Nat.le_trans Z0 K1.1) F2 F3 F4 F5 F6 hz) hZ (ww 58 rfl) (ww 11 rfl) (by decide) (by decide)) q68a q68c (g := (mkF m 34 #[rv sx, iv (0 : Int32), .unset, .unset] [(.ref sx), (.int (0 : Int32))])) rfl (by rw [hml]; rfl) (Steps.refl _) (argsL := []) (rest := [(.int (0 : Int32))]) (lenOf own_pd7 rfl) rfl (by show 2 * 0 + _ ≤ _; exact Nat.le_of_eq rfl) (hb hby own_d9_34) (fun _ _ => ⟨rfl, e10, (by decide : 2 + 0 ≤ _), (by decide : 12 + 0 ≤ _)⟩)
  dsimp only [Pt.U, Pt.locs, Pt.cells, Pt.slots] at X68 l68 y68 z68 st68 hQ68
  subst l68 y68 z68
  obtain ⟨rfl, N68q, e68⟩ := hQ68
  have N68 := Fr.app N10 N68q
  refine ownRunW (T' := T68) (f' := (mkF m 37 #[rv sx, iv (0 : Int32), .unset, .unset] [(.int (32 : Int32)), (.int (0 : Int32))])) st68 ?_
  refine ow_icmpNoW (q := 40) X68 hx (hb hby own_d9_37) rfl (Jvm.Free.XT.ii_ge_f (by decide)) ?_
  refine ow_aloadNW (q := 41) X68 hx (hb hby own_d9_40) rfl rfl rfl ?_
  refine ow_iloadNW (q := 42) X68 hx (hb hby own_d9_41) rfl rfl ?_
  obtain ⟨cq69, kq69, q69a, q69b, q69c⟩ := isOf hZ e68 F2
  obtain ⟨_, _, ⟨T69, L69, k69, n69⟩, -, X69, ⟨Lc69, hQ69, l69, y69, z69⟩, st69⟩ := X68.virtualBack hx (y := (⟨"java/lang/String", "charAt", "(I)C"⟩ : MethodName)) (z := (⟨"java/lang/String", "charAt", "(I)C"⟩ : MethodName)) hown (mvT hZ (ww 64 rfl)) (mvT hZ (ww 65 rfl)) (notFace_of_selects (args := #[]) (mvT hZ (ww 67 rfl))) (mvT hZ (ww 67 rfl)) (mvT hZ (ww 66 rfl)) (by decide) (backOf (W := 0) (rm_charAt32 l Z av0 hw [] sx (0 : Int32) t gb zc fm h1 n0 (Nat.le_trans Z0 K1.1) F2 F3 F4 F5 F6 F7 (by decide) (by decide) hz hr_fm hok) hZ (ww 68 rfl) (ww 11 rfl) (by decide) (by decide)) q69a q69c (g := (mkF m 42 #[rv sx, iv (0 : Int32), .unset, .unset] [(.int (0 : Int32)), (.ref sx)])) rfl (by rw [hml]; rfl) (Steps.refl _) (argsL := [(.int (0 : Int32))]) (rest := []) (lenOf own_pd0 rfl) rfl (by show 2 * 0 + _ ≤ _; exact Nat.le_of_eq rfl) (hb hby own_d9_42) (fun _ _ => ⟨rfl, e68, (by decide : 2 + 0 ≤ _), (by decide : 12 + 0 ≤ _)⟩)
  dsimp only [Pt.U, Pt.locs, Pt.cells, Pt.slots] at X69 l69 y69 z69 st69 hQ69
  subst l69 y69 z69
  obtain ⟨r69, rfl, N69q, e69, hp69⟩ := hQ69
  have N69 := Fr.app N68 N69q
  refine ownRunW (T' := T69) (f' := (mkF m 45 #[rv sx, iv (0 : Int32), .unset, .unset] [(.int r69)])) st69 ?_
  refine ow_istoreNW (q := 46) X69 hx (L' := #[rv sx, iv (0 : Int32), iv r69, .unset]) (hb hby own_d9_45) rfl rfl ?_
  refine ow_iloadNW (q := 47) X69 hx (hb hby own_d9_46) rfl rfl ?_
  refine ow_bipushW (q := 49) X69 hx (97 : Int32) (hb hby own_d9_47) rfl rfl ?_
  by_cases hc49_70 : r69 < (97 : Int32)
  · refine ow_icmpYesW (q := 58) X69 hx (hb hby own_d9_49) (Jvm.Free.XT.ii_lt_t hc49_70) (by decide) (by decide) ?_
    refine ow_iloadNW (q := 59) X69 hx (hb hby own_d9_58) rfl rfl ?_
    refine ow_bipushW (q := 61) X69 hx (65 : Int32) (hb hby own_d9_59) rfl rfl ?_
    by_cases hc61_71 : r69 < (65 : Int32)
    · refine ow_icmpYesW (q := 70) X69 hx (hb hby own_d9_61) (Jvm.Free.XT.ii_lt_t hc61_71) (by decide) (by decide) ?_
      refine ow_iloadNW (q := 71) X69 hx (hb hby own_d9_70) rfl rfl ?_
      refine ow_bipushW (q := 73) X69 hx (48 : Int32) (hb hby own_d9_71) rfl rfl ?_
      by_cases hc73_72 : r69 < (48 : Int32)
      · refine ow_icmpYesW (q := 82) X69 hx (hb hby own_d9_73) (Jvm.Free.XT.ii_lt_t hc73_72) (by decide) (by decide) ?_
        refine ow_iloadNW (q := 83) X69 hx (hb hby own_d9_82) rfl rfl ?_
        refine ow_bipushW (q := 85) X69 hx (95 : Int32) (hb hby own_d9_83) rfl rfl ?_
        by_cases hc85_73 : r69 = (95 : Int32)
        · refine ow_icmpYesW (q := 94) X69 hx (hb hby own_d9_85) (Jvm.Free.XT.ii_eq_t hc85_73) (by decide) (by decide) ?_
          refine ow_iconstW (q := 95) X69 hx (1 : Int32) (hb hby own_d9_94) rfl rfl ?_
          refine ow_gotoW (q := 99) X69 hx (hb hby own_d9_95) (by decide) (by decide) ?_
          refine ow_istoreNW (q := 100) X69 hx (L' := #[rv sx, iv (0 : Int32), iv r69, iv (1 : Int32)]) (hb hby own_d9_99) rfl rfl ?_
          refine ow_iloadNW (q := 101) X69 hx (hb hby own_d9_100) rfl rfl ?_
          refine ow_ifYesW (q := 111) X69 hx (hb hby own_d9_101) (Jvm.Free.XT.i0_ne_t (by decide)) (by decide) (by decide) ?_
          refine ow_iincW (q := 114) X69 hx (L' := #[rv sx, iv (1 : Int32), iv r69, iv (1 : Int32)]) (hb hby own_d9_111) rfl rfl rfl ?_
          refine ow_gotoW (q := 32) X69 hx (hb hby own_d9_114) (by decide) (by decide) ?_
          exact cut32_11 _ (1 : Int32) r69 (1 : Int32) _ _ X69 e69 N69 (Nat.lt_succ_self _) (by decide) (by decide)
        · refine ow_icmpNoW (q := 88) X69 hx (hb hby own_d9_85) rfl (Jvm.Free.XT.ii_eq_f hc85_73) ?_
          refine ow_iloadNW (q := 89) X69 hx (hb hby own_d9_88) rfl rfl ?_
          refine ow_bipushW (q := 91) X69 hx (45 : Int32) (hb hby own_d9_89) rfl rfl ?_
          by_cases hc91_74 : r69 = (45 : Int32)
          · refine ow_icmpNoW (q := 94) X69 hx (hb hby own_d9_91) rfl (Jvm.Free.XT.ii_ne_f hc91_74) ?_
            refine ow_iconstW (q := 95) X69 hx (1 : Int32) (hb hby own_d9_94) rfl rfl ?_
            refine ow_gotoW (q := 99) X69 hx (hb hby own_d9_95) (by decide) (by decide) ?_
            refine ow_istoreNW (q := 100) X69 hx (L' := #[rv sx, iv (0 : Int32), iv r69, iv (1 : Int32)]) (hb hby own_d9_99) rfl rfl ?_
            refine ow_iloadNW (q := 101) X69 hx (hb hby own_d9_100) rfl rfl ?_
            refine ow_ifYesW (q := 111) X69 hx (hb hby own_d9_101) (Jvm.Free.XT.i0_ne_t (by decide)) (by decide) (by decide) ?_
            refine ow_iincW (q := 114) X69 hx (L' := #[rv sx, iv (1 : Int32), iv r69, iv (1 : Int32)]) (hb hby own_d9_111) rfl rfl rfl ?_
            refine ow_gotoW (q := 32) X69 hx (hb hby own_d9_114) (by decide) (by decide) ?_
            exact cut32_11 _ (1 : Int32) r69 (1 : Int32) _ _ X69 e69 N69 (Nat.lt_succ_self _) (by decide) (by decide)
          · refine ow_icmpYesW (q := 98) X69 hx (hb hby own_d9_91) (Jvm.Free.XT.ii_ne_t hc91_74) (by decide) (by decide) ?_
            exfalso
            have hk := own_okI hp69
            have cc0 := own_ltI hc49_70
            have cc1 := own_ltI hc61_71
            have cc2 := own_ltI hc73_72
            have cc3 := own_neI hc85_73
            have cc4 := own_neI hc91_74
            simp only [Int32.reduceToInt] at cc0 cc1 cc2 cc3 cc4
            omega
      · refine ow_icmpNoW (q := 76) X69 hx (hb hby own_d9_73) rfl (Jvm.Free.XT.ii_lt_f hc73_72) ?_
        refine ow_iloadNW (q := 77) X69 hx (hb hby own_d9_76) rfl rfl ?_
        refine ow_bipushW (q := 79) X69 hx (57 : Int32) (hb hby own_d9_77) rfl rfl ?_
        by_cases hc79_75 : (57 : Int32) < r69
        · refine ow_icmpNoW (q := 82) X69 hx (hb hby own_d9_79) rfl (Jvm.Free.XT.ii_le_f hc79_75) ?_
          refine ow_iloadNW (q := 83) X69 hx (hb hby own_d9_82) rfl rfl ?_
          refine ow_bipushW (q := 85) X69 hx (95 : Int32) (hb hby own_d9_83) rfl rfl ?_
          by_cases hc85_76 : r69 = (95 : Int32)
          · refine ow_icmpYesW (q := 94) X69 hx (hb hby own_d9_85) (Jvm.Free.XT.ii_eq_t hc85_76) (by decide) (by decide) ?_
            refine ow_iconstW (q := 95) X69 hx (1 : Int32) (hb hby own_d9_94) rfl rfl ?_
            refine ow_gotoW (q := 99) X69 hx (hb hby own_d9_95) (by decide) (by decide) ?_
            refine ow_istoreNW (q := 100) X69 hx (L' := #[rv sx, iv (0 : Int32), iv r69, iv (1 : Int32)]) (hb hby own_d9_99) rfl rfl ?_
            refine ow_iloadNW (q := 101) X69 hx (hb hby own_d9_100) rfl rfl ?_
            refine ow_ifYesW (q := 111) X69 hx (hb hby own_d9_101) (Jvm.Free.XT.i0_ne_t (by decide)) (by decide) (by decide) ?_
            refine ow_iincW (q := 114) X69 hx (L' := #[rv sx, iv (1 : Int32), iv r69, iv (1 : Int32)]) (hb hby own_d9_111) rfl rfl rfl ?_
            refine ow_gotoW (q := 32) X69 hx (hb hby own_d9_114) (by decide) (by decide) ?_
            exact cut32_11 _ (1 : Int32) r69 (1 : Int32) _ _ X69 e69 N69 (Nat.lt_succ_self _) (by decide) (by decide)
          · refine ow_icmpNoW (q := 88) X69 hx (hb hby own_d9_85) rfl (Jvm.Free.XT.ii_eq_f hc85_76) ?_
            refine ow_iloadNW (q := 89) X69 hx (hb hby own_d9_88) rfl rfl ?_
            refine ow_bipushW (q := 91) X69 hx (45 : Int32) (hb hby own_d9_89) rfl rfl ?_
            by_cases hc91_77 : r69 = (45 : Int32)
            · refine ow_icmpNoW (q := 94) X69 hx (hb hby own_d9_91) rfl (Jvm.Free.XT.ii_ne_f hc91_77) ?_
              refine ow_iconstW (q := 95) X69 hx (1 : Int32) (hb hby own_d9_94) rfl rfl ?_
              refine ow_gotoW (q := 99) X69 hx (hb hby own_d9_95) (by decide) (by decide) ?_
              refine ow_istoreNW (q := 100) X69 hx (L' := #[rv sx, iv (0 : Int32), iv r69, iv (1 : Int32)]) (hb hby own_d9_99) rfl rfl ?_
              refine ow_iloadNW (q := 101) X69 hx (hb hby own_d9_100) rfl rfl ?_
              refine ow_ifYesW (q := 111) X69 hx (hb hby own_d9_101) (Jvm.Free.XT.i0_ne_t (by decide)) (by decide) (by decide) ?_
              refine ow_iincW (q := 114) X69 hx (L' := #[rv sx, iv (1 : Int32), iv r69, iv (1 : Int32)]) (hb hby own_d9_111) rfl rfl rfl ?_
              refine ow_gotoW (q := 32) X69 hx (hb hby own_d9_114) (by decide) (by decide) ?_
              exact cut32_11 _ (1 : Int32) r69 (1 : Int32) _ _ X69 e69 N69 (Nat.lt_succ_self _) (by decide) (by decide)
            · refine ow_icmpYesW (q := 98) X69 hx (hb hby own_d9_91) (Jvm.Free.XT.ii_ne_t hc91_77) (by decide) (by decide) ?_
              exfalso
              have hk := own_okI hp69
              have cc0 := own_ltI hc49_70
              have cc1 := own_ltI hc61_71
              have cc2 := own_nltI hc73_72
              have cc3 := own_ltI hc79_75
              have cc4 := own_neI hc85_76
              have cc5 := own_neI hc91_77
              simp only [Int32.reduceToInt] at cc0 cc1 cc2 cc3 cc4 cc5
              omega
        · refine ow_icmpYesW (q := 94) X69 hx (hb hby own_d9_79) (Jvm.Free.XT.ii_le_t hc79_75) (by decide) (by decide) ?_
          refine ow_iconstW (q := 95) X69 hx (1 : Int32) (hb hby own_d9_94) rfl rfl ?_
          refine ow_gotoW (q := 99) X69 hx (hb hby own_d9_95) (by decide) (by decide) ?_
          refine ow_istoreNW (q := 100) X69 hx (L' := #[rv sx, iv (0 : Int32), iv r69, iv (1 : Int32)]) (hb hby own_d9_99) rfl rfl ?_
          refine ow_iloadNW (q := 101) X69 hx (hb hby own_d9_100) rfl rfl ?_
          refine ow_ifYesW (q := 111) X69 hx (hb hby own_d9_101) (Jvm.Free.XT.i0_ne_t (by decide)) (by decide) (by decide) ?_
          refine ow_iincW (q := 114) X69 hx (L' := #[rv sx, iv (1 : Int32), iv r69, iv (1 : Int32)]) (hb hby own_d9_111) rfl rfl rfl ?_
          refine ow_gotoW (q := 32) X69 hx (hb hby own_d9_114) (by decide) (by decide) ?_
          exact cut32_11 _ (1 : Int32) r69 (1 : Int32) _ _ X69 e69 N69 (Nat.lt_succ_self _) (by decide) (by decide)
    · refine ow_icmpNoW (q := 64) X69 hx (hb hby own_d9_61) rfl (Jvm.Free.XT.ii_lt_f hc61_71) ?_
      refine ow_iloadNW (q := 65) X69 hx (hb hby own_d9_64) rfl rfl ?_
      refine ow_bipushW (q := 67) X69 hx (90 : Int32) (hb hby own_d9_65) rfl rfl ?_
      by_cases hc67_78 : (90 : Int32) < r69
      · refine ow_icmpNoW (q := 70) X69 hx (hb hby own_d9_67) rfl (Jvm.Free.XT.ii_le_f hc67_78) ?_
        refine ow_iloadNW (q := 71) X69 hx (hb hby own_d9_70) rfl rfl ?_
        refine ow_bipushW (q := 73) X69 hx (48 : Int32) (hb hby own_d9_71) rfl rfl ?_
        by_cases hc73_79 : r69 < (48 : Int32)
        · refine ow_icmpYesW (q := 82) X69 hx (hb hby own_d9_73) (Jvm.Free.XT.ii_lt_t hc73_79) (by decide) (by decide) ?_
          refine ow_iloadNW (q := 83) X69 hx (hb hby own_d9_82) rfl rfl ?_
          refine ow_bipushW (q := 85) X69 hx (95 : Int32) (hb hby own_d9_83) rfl rfl ?_
          by_cases hc85_80 : r69 = (95 : Int32)
          · refine ow_icmpYesW (q := 94) X69 hx (hb hby own_d9_85) (Jvm.Free.XT.ii_eq_t hc85_80) (by decide) (by decide) ?_
            refine ow_iconstW (q := 95) X69 hx (1 : Int32) (hb hby own_d9_94) rfl rfl ?_
            refine ow_gotoW (q := 99) X69 hx (hb hby own_d9_95) (by decide) (by decide) ?_
            refine ow_istoreNW (q := 100) X69 hx (L' := #[rv sx, iv (0 : Int32), iv r69, iv (1 : Int32)]) (hb hby own_d9_99) rfl rfl ?_
            refine ow_iloadNW (q := 101) X69 hx (hb hby own_d9_100) rfl rfl ?_
            refine ow_ifYesW (q := 111) X69 hx (hb hby own_d9_101) (Jvm.Free.XT.i0_ne_t (by decide)) (by decide) (by decide) ?_
            refine ow_iincW (q := 114) X69 hx (L' := #[rv sx, iv (1 : Int32), iv r69, iv (1 : Int32)]) (hb hby own_d9_111) rfl rfl rfl ?_
            refine ow_gotoW (q := 32) X69 hx (hb hby own_d9_114) (by decide) (by decide) ?_
            exact cut32_11 _ (1 : Int32) r69 (1 : Int32) _ _ X69 e69 N69 (Nat.lt_succ_self _) (by decide) (by decide)
          · refine ow_icmpNoW (q := 88) X69 hx (hb hby own_d9_85) rfl (Jvm.Free.XT.ii_eq_f hc85_80) ?_
            refine ow_iloadNW (q := 89) X69 hx (hb hby own_d9_88) rfl rfl ?_
            refine ow_bipushW (q := 91) X69 hx (45 : Int32) (hb hby own_d9_89) rfl rfl ?_
            by_cases hc91_81 : r69 = (45 : Int32)
            · refine ow_icmpNoW (q := 94) X69 hx (hb hby own_d9_91) rfl (Jvm.Free.XT.ii_ne_f hc91_81) ?_
              refine ow_iconstW (q := 95) X69 hx (1 : Int32) (hb hby own_d9_94) rfl rfl ?_
              refine ow_gotoW (q := 99) X69 hx (hb hby own_d9_95) (by decide) (by decide) ?_
              refine ow_istoreNW (q := 100) X69 hx (L' := #[rv sx, iv (0 : Int32), iv r69, iv (1 : Int32)]) (hb hby own_d9_99) rfl rfl ?_
              refine ow_iloadNW (q := 101) X69 hx (hb hby own_d9_100) rfl rfl ?_
              refine ow_ifYesW (q := 111) X69 hx (hb hby own_d9_101) (Jvm.Free.XT.i0_ne_t (by decide)) (by decide) (by decide) ?_
              refine ow_iincW (q := 114) X69 hx (L' := #[rv sx, iv (1 : Int32), iv r69, iv (1 : Int32)]) (hb hby own_d9_111) rfl rfl rfl ?_
              refine ow_gotoW (q := 32) X69 hx (hb hby own_d9_114) (by decide) (by decide) ?_
              exact cut32_11 _ (1 : Int32) r69 (1 : Int32) _ _ X69 e69 N69 (Nat.lt_succ_self _) (by decide) (by decide)
            · refine ow_icmpYesW (q := 98) X69 hx (hb hby own_d9_91) (Jvm.Free.XT.ii_ne_t hc91_81) (by decide) (by decide) ?_
              exfalso
              have hk := own_okI hp69
              have cc0 := own_ltI hc49_70
              have cc1 := own_nltI hc61_71
              have cc2 := own_ltI hc67_78
              have cc3 := own_ltI hc73_79
              have cc4 := own_neI hc85_80
              have cc5 := own_neI hc91_81
              simp only [Int32.reduceToInt] at cc0 cc1 cc2 cc3 cc4 cc5
              omega
        · refine ow_icmpNoW (q := 76) X69 hx (hb hby own_d9_73) rfl (Jvm.Free.XT.ii_lt_f hc73_79) ?_
          refine ow_iloadNW (q := 77) X69 hx (hb hby own_d9_76) rfl rfl ?_
          refine ow_bipushW (q := 79) X69 hx (57 : Int32) (hb hby own_d9_77) rfl rfl ?_
          by_cases hc79_82 : (57 : Int32) < r69
          · refine ow_icmpNoW (q := 82) X69 hx (hb hby own_d9_79) rfl (Jvm.Free.XT.ii_le_f hc79_82) ?_
            refine ow_iloadNW (q := 83) X69 hx (hb hby own_d9_82) rfl rfl ?_
            refine ow_bipushW (q := 85) X69 hx (95 : Int32) (hb hby own_d9_83) rfl rfl ?_
            by_cases hc85_83 : r69 = (95 : Int32)
            · refine ow_icmpYesW (q := 94) X69 hx (hb hby own_d9_85) (Jvm.Free.XT.ii_eq_t hc85_83) (by decide) (by decide) ?_
              refine ow_iconstW (q := 95) X69 hx (1 : Int32) (hb hby own_d9_94) rfl rfl ?_
              refine ow_gotoW (q := 99) X69 hx (hb hby own_d9_95) (by decide) (by decide) ?_
              refine ow_istoreNW (q := 100) X69 hx (L' := #[rv sx, iv (0 : Int32), iv r69, iv (1 : Int32)]) (hb hby own_d9_99) rfl rfl ?_
              refine ow_iloadNW (q := 101) X69 hx (hb hby own_d9_100) rfl rfl ?_
              refine ow_ifYesW (q := 111) X69 hx (hb hby own_d9_101) (Jvm.Free.XT.i0_ne_t (by decide)) (by decide) (by decide) ?_
              refine ow_iincW (q := 114) X69 hx (L' := #[rv sx, iv (1 : Int32), iv r69, iv (1 : Int32)]) (hb hby own_d9_111) rfl rfl rfl ?_
              refine ow_gotoW (q := 32) X69 hx (hb hby own_d9_114) (by decide) (by decide) ?_
              exact cut32_11 _ (1 : Int32) r69 (1 : Int32) _ _ X69 e69 N69 (Nat.lt_succ_self _) (by decide) (by decide)
            · refine ow_icmpNoW (q := 88) X69 hx (hb hby own_d9_85) rfl (Jvm.Free.XT.ii_eq_f hc85_83) ?_
              refine ow_iloadNW (q := 89) X69 hx (hb hby own_d9_88) rfl rfl ?_
              refine ow_bipushW (q := 91) X69 hx (45 : Int32) (hb hby own_d9_89) rfl rfl ?_
              by_cases hc91_84 : r69 = (45 : Int32)
              · refine ow_icmpNoW (q := 94) X69 hx (hb hby own_d9_91) rfl (Jvm.Free.XT.ii_ne_f hc91_84) ?_
                refine ow_iconstW (q := 95) X69 hx (1 : Int32) (hb hby own_d9_94) rfl rfl ?_
                refine ow_gotoW (q := 99) X69 hx (hb hby own_d9_95) (by decide) (by decide) ?_
                refine ow_istoreNW (q := 100) X69 hx (L' := #[rv sx, iv (0 : Int32), iv r69, iv (1 : Int32)]) (hb hby own_d9_99) rfl rfl ?_
                refine ow_iloadNW (q := 101) X69 hx (hb hby own_d9_100) rfl rfl ?_
                refine ow_ifYesW (q := 111) X69 hx (hb hby own_d9_101) (Jvm.Free.XT.i0_ne_t (by decide)) (by decide) (by decide) ?_
                refine ow_iincW (q := 114) X69 hx (L' := #[rv sx, iv (1 : Int32), iv r69, iv (1 : Int32)]) (hb hby own_d9_111) rfl rfl rfl ?_
                refine ow_gotoW (q := 32) X69 hx (hb hby own_d9_114) (by decide) (by decide) ?_
                exact cut32_11 _ (1 : Int32) r69 (1 : Int32) _ _ X69 e69 N69 (Nat.lt_succ_self _) (by decide) (by decide)
              · refine ow_icmpYesW (q := 98) X69 hx (hb hby own_d9_91) (Jvm.Free.XT.ii_ne_t hc91_84) (by decide) (by decide) ?_
                exfalso
                have hk := own_okI hp69
                have cc0 := own_ltI hc49_70
                have cc1 := own_nltI hc61_71
                have cc2 := own_ltI hc67_78
                have cc3 := own_nltI hc73_79
                have cc4 := own_ltI hc79_82
                have cc5 := own_neI hc85_83
                have cc6 := own_neI hc91_84
                simp only [Int32.reduceToInt] at cc0 cc1 cc2 cc3 cc4 cc5 cc6
                omega
          · refine ow_icmpYesW (q := 94) X69 hx (hb hby own_d9_79) (Jvm.Free.XT.ii_le_t hc79_82) (by decide) (by decide) ?_
            refine ow_iconstW (q := 95) X69 hx (1 : Int32) (hb hby own_d9_94) rfl rfl ?_
            refine ow_gotoW (q := 99) X69 hx (hb hby own_d9_95) (by decide) (by decide) ?_
            refine ow_istoreNW (q := 100) X69 hx (L' := #[rv sx, iv (0 : Int32), iv r69, iv (1 : Int32)]) (hb hby own_d9_99) rfl rfl ?_
            refine ow_iloadNW (q := 101) X69 hx (hb hby own_d9_100) rfl rfl ?_
            refine ow_ifYesW (q := 111) X69 hx (hb hby own_d9_101) (Jvm.Free.XT.i0_ne_t (by decide)) (by decide) (by decide) ?_
            refine ow_iincW (q := 114) X69 hx (L' := #[rv sx, iv (1 : Int32), iv r69, iv (1 : Int32)]) (hb hby own_d9_111) rfl rfl rfl ?_
            refine ow_gotoW (q := 32) X69 hx (hb hby own_d9_114) (by decide) (by decide) ?_
            exact cut32_11 _ (1 : Int32) r69 (1 : Int32) _ _ X69 e69 N69 (Nat.lt_succ_self _) (by decide) (by decide)
      · refine ow_icmpYesW (q := 94) X69 hx (hb hby own_d9_67) (Jvm.Free.XT.ii_le_t hc67_78) (by decide) (by decide) ?_
        refine ow_iconstW (q := 95) X69 hx (1 : Int32) (hb hby own_d9_94) rfl rfl ?_
        refine ow_gotoW (q := 99) X69 hx (hb hby own_d9_95) (by decide) (by decide) ?_
        refine ow_istoreNW (q := 100) X69 hx (L' := #[rv sx, iv (0 : Int32), iv r69, iv (1 : Int32)]) (hb hby own_d9_99) rfl rfl ?_
        refine ow_iloadNW (q := 101) X69 hx (hb hby own_d9_100) rfl rfl ?_
        refine ow_ifYesW (q := 111) X69 hx (hb hby own_d9_101) (Jvm.Free.XT.i0_ne_t (by decide)) (by decide) (by decide) ?_
        refine ow_iincW (q := 114) X69 hx (L' := #[rv sx, iv (1 : Int32), iv r69, iv (1 : Int32)]) (hb hby own_d9_111) rfl rfl rfl ?_
        refine ow_gotoW (q := 32) X69 hx (hb hby own_d9_114) (by decide) (by decide) ?_
        exact cut32_11 _ (1 : Int32) r69 (1 : Int32) _ _ X69 e69 N69 (Nat.lt_succ_self _) (by decide) (by decide)
  · refine ow_icmpNoW (q := 52) X69 hx (hb hby own_d9_49) rfl (Jvm.Free.XT.ii_lt_f hc49_70) ?_
    refine ow_iloadNW (q := 53) X69 hx (hb hby own_d9_52) rfl rfl ?_
    refine ow_bipushW (q := 55) X69 hx (122 : Int32) (hb hby own_d9_53) rfl rfl ?_
    by_cases hc55_85 : (122 : Int32) < r69
    · refine ow_icmpNoW (q := 58) X69 hx (hb hby own_d9_55) rfl (Jvm.Free.XT.ii_le_f hc55_85) ?_
      refine ow_iloadNW (q := 59) X69 hx (hb hby own_d9_58) rfl rfl ?_
      refine ow_bipushW (q := 61) X69 hx (65 : Int32) (hb hby own_d9_59) rfl rfl ?_
      by_cases hc61_86 : r69 < (65 : Int32)
      · refine ow_icmpYesW (q := 70) X69 hx (hb hby own_d9_61) (Jvm.Free.XT.ii_lt_t hc61_86) (by decide) (by decide) ?_
        refine ow_iloadNW (q := 71) X69 hx (hb hby own_d9_70) rfl rfl ?_
        refine ow_bipushW (q := 73) X69 hx (48 : Int32) (hb hby own_d9_71) rfl rfl ?_
        by_cases hc73_87 : r69 < (48 : Int32)
        · refine ow_icmpYesW (q := 82) X69 hx (hb hby own_d9_73) (Jvm.Free.XT.ii_lt_t hc73_87) (by decide) (by decide) ?_
          refine ow_iloadNW (q := 83) X69 hx (hb hby own_d9_82) rfl rfl ?_
          refine ow_bipushW (q := 85) X69 hx (95 : Int32) (hb hby own_d9_83) rfl rfl ?_
          by_cases hc85_88 : r69 = (95 : Int32)
          · refine ow_icmpYesW (q := 94) X69 hx (hb hby own_d9_85) (Jvm.Free.XT.ii_eq_t hc85_88) (by decide) (by decide) ?_
            refine ow_iconstW (q := 95) X69 hx (1 : Int32) (hb hby own_d9_94) rfl rfl ?_
            refine ow_gotoW (q := 99) X69 hx (hb hby own_d9_95) (by decide) (by decide) ?_
            refine ow_istoreNW (q := 100) X69 hx (L' := #[rv sx, iv (0 : Int32), iv r69, iv (1 : Int32)]) (hb hby own_d9_99) rfl rfl ?_
            refine ow_iloadNW (q := 101) X69 hx (hb hby own_d9_100) rfl rfl ?_
            refine ow_ifYesW (q := 111) X69 hx (hb hby own_d9_101) (Jvm.Free.XT.i0_ne_t (by decide)) (by decide) (by decide) ?_
            refine ow_iincW (q := 114) X69 hx (L' := #[rv sx, iv (1 : Int32), iv r69, iv (1 : Int32)]) (hb hby own_d9_111) rfl rfl rfl ?_
            refine ow_gotoW (q := 32) X69 hx (hb hby own_d9_114) (by decide) (by decide) ?_
            exact cut32_11 _ (1 : Int32) r69 (1 : Int32) _ _ X69 e69 N69 (Nat.lt_succ_self _) (by decide) (by decide)
          · refine ow_icmpNoW (q := 88) X69 hx (hb hby own_d9_85) rfl (Jvm.Free.XT.ii_eq_f hc85_88) ?_
            refine ow_iloadNW (q := 89) X69 hx (hb hby own_d9_88) rfl rfl ?_
            refine ow_bipushW (q := 91) X69 hx (45 : Int32) (hb hby own_d9_89) rfl rfl ?_
            by_cases hc91_89 : r69 = (45 : Int32)
            · refine ow_icmpNoW (q := 94) X69 hx (hb hby own_d9_91) rfl (Jvm.Free.XT.ii_ne_f hc91_89) ?_
              refine ow_iconstW (q := 95) X69 hx (1 : Int32) (hb hby own_d9_94) rfl rfl ?_
              refine ow_gotoW (q := 99) X69 hx (hb hby own_d9_95) (by decide) (by decide) ?_
              refine ow_istoreNW (q := 100) X69 hx (L' := #[rv sx, iv (0 : Int32), iv r69, iv (1 : Int32)]) (hb hby own_d9_99) rfl rfl ?_
              refine ow_iloadNW (q := 101) X69 hx (hb hby own_d9_100) rfl rfl ?_
              refine ow_ifYesW (q := 111) X69 hx (hb hby own_d9_101) (Jvm.Free.XT.i0_ne_t (by decide)) (by decide) (by decide) ?_
              refine ow_iincW (q := 114) X69 hx (L' := #[rv sx, iv (1 : Int32), iv r69, iv (1 : Int32)]) (hb hby own_d9_111) rfl rfl rfl ?_
              refine ow_gotoW (q := 32) X69 hx (hb hby own_d9_114) (by decide) (by decide) ?_
              exact cut32_11 _ (1 : Int32) r69 (1 : Int32) _ _ X69 e69 N69 (Nat.lt_succ_self _) (by decide) (by decide)
            · refine ow_icmpYesW (q := 98) X69 hx (hb hby own_d9_91) (Jvm.Free.XT.ii_ne_t hc91_89) (by decide) (by decide) ?_
              exfalso
              have hk := own_okI hp69
              have cc0 := own_nltI hc49_70
              have cc1 := own_ltI hc55_85
              have cc2 := own_ltI hc61_86
              have cc3 := own_ltI hc73_87
              have cc4 := own_neI hc85_88
              have cc5 := own_neI hc91_89
              simp only [Int32.reduceToInt] at cc0 cc1 cc2 cc3 cc4 cc5
              omega
        · refine ow_icmpNoW (q := 76) X69 hx (hb hby own_d9_73) rfl (Jvm.Free.XT.ii_lt_f hc73_87) ?_
          refine ow_iloadNW (q := 77) X69 hx (hb hby own_d9_76) rfl rfl ?_
          refine ow_bipushW (q := 79) X69 hx (57 : Int32) (hb hby own_d9_77) rfl rfl ?_
          by_cases hc79_90 : (57 : Int32) < r69
          · refine ow_icmpNoW (q := 82) X69 hx (hb hby own_d9_79) rfl (Jvm.Free.XT.ii_le_f hc79_90) ?_
            refine ow_iloadNW (q := 83) X69 hx (hb hby own_d9_82) rfl rfl ?_
            refine ow_bipushW (q := 85) X69 hx (95 : Int32) (hb hby own_d9_83) rfl rfl ?_
            by_cases hc85_91 : r69 = (95 : Int32)
            · refine ow_icmpYesW (q := 94) X69 hx (hb hby own_d9_85) (Jvm.Free.XT.ii_eq_t hc85_91) (by decide) (by decide) ?_
              refine ow_iconstW (q := 95) X69 hx (1 : Int32) (hb hby own_d9_94) rfl rfl ?_
              refine ow_gotoW (q := 99) X69 hx (hb hby own_d9_95) (by decide) (by decide) ?_
              refine ow_istoreNW (q := 100) X69 hx (L' := #[rv sx, iv (0 : Int32), iv r69, iv (1 : Int32)]) (hb hby own_d9_99) rfl rfl ?_
              refine ow_iloadNW (q := 101) X69 hx (hb hby own_d9_100) rfl rfl ?_
              refine ow_ifYesW (q := 111) X69 hx (hb hby own_d9_101) (Jvm.Free.XT.i0_ne_t (by decide)) (by decide) (by decide) ?_
              refine ow_iincW (q := 114) X69 hx (L' := #[rv sx, iv (1 : Int32), iv r69, iv (1 : Int32)]) (hb hby own_d9_111) rfl rfl rfl ?_
              refine ow_gotoW (q := 32) X69 hx (hb hby own_d9_114) (by decide) (by decide) ?_
              exact cut32_11 _ (1 : Int32) r69 (1 : Int32) _ _ X69 e69 N69 (Nat.lt_succ_self _) (by decide) (by decide)
            · refine ow_icmpNoW (q := 88) X69 hx (hb hby own_d9_85) rfl (Jvm.Free.XT.ii_eq_f hc85_91) ?_
              refine ow_iloadNW (q := 89) X69 hx (hb hby own_d9_88) rfl rfl ?_
              refine ow_bipushW (q := 91) X69 hx (45 : Int32) (hb hby own_d9_89) rfl rfl ?_
              by_cases hc91_92 : r69 = (45 : Int32)
              · refine ow_icmpNoW (q := 94) X69 hx (hb hby own_d9_91) rfl (Jvm.Free.XT.ii_ne_f hc91_92) ?_
                refine ow_iconstW (q := 95) X69 hx (1 : Int32) (hb hby own_d9_94) rfl rfl ?_
                refine ow_gotoW (q := 99) X69 hx (hb hby own_d9_95) (by decide) (by decide) ?_
                refine ow_istoreNW (q := 100) X69 hx (L' := #[rv sx, iv (0 : Int32), iv r69, iv (1 : Int32)]) (hb hby own_d9_99) rfl rfl ?_
                refine ow_iloadNW (q := 101) X69 hx (hb hby own_d9_100) rfl rfl ?_
                refine ow_ifYesW (q := 111) X69 hx (hb hby own_d9_101) (Jvm.Free.XT.i0_ne_t (by decide)) (by decide) (by decide) ?_
                refine ow_iincW (q := 114) X69 hx (L' := #[rv sx, iv (1 : Int32), iv r69, iv (1 : Int32)]) (hb hby own_d9_111) rfl rfl rfl ?_
                refine ow_gotoW (q := 32) X69 hx (hb hby own_d9_114) (by decide) (by decide) ?_
                exact cut32_11 _ (1 : Int32) r69 (1 : Int32) _ _ X69 e69 N69 (Nat.lt_succ_self _) (by decide) (by decide)
              · refine ow_icmpYesW (q := 98) X69 hx (hb hby own_d9_91) (Jvm.Free.XT.ii_ne_t hc91_92) (by decide) (by decide) ?_
                exfalso
                have hk := own_okI hp69
                have cc0 := own_nltI hc49_70
                have cc1 := own_ltI hc55_85
                have cc2 := own_ltI hc61_86
                have cc3 := own_nltI hc73_87
                have cc4 := own_ltI hc79_90
                have cc5 := own_neI hc85_91
                have cc6 := own_neI hc91_92
                simp only [Int32.reduceToInt] at cc0 cc1 cc2 cc3 cc4 cc5 cc6
                omega
          · refine ow_icmpYesW (q := 94) X69 hx (hb hby own_d9_79) (Jvm.Free.XT.ii_le_t hc79_90) (by decide) (by decide) ?_
            refine ow_iconstW (q := 95) X69 hx (1 : Int32) (hb hby own_d9_94) rfl rfl ?_
            refine ow_gotoW (q := 99) X69 hx (hb hby own_d9_95) (by decide) (by decide) ?_
            refine ow_istoreNW (q := 100) X69 hx (L' := #[rv sx, iv (0 : Int32), iv r69, iv (1 : Int32)]) (hb hby own_d9_99) rfl rfl ?_
            refine ow_iloadNW (q := 101) X69 hx (hb hby own_d9_100) rfl rfl ?_
            refine ow_ifYesW (q := 111) X69 hx (hb hby own_d9_101) (Jvm.Free.XT.i0_ne_t (by decide)) (by decide) (by decide) ?_
            refine ow_iincW (q := 114) X69 hx (L' := #[rv sx, iv (1 : Int32), iv r69, iv (1 : Int32)]) (hb hby own_d9_111) rfl rfl rfl ?_
            refine ow_gotoW (q := 32) X69 hx (hb hby own_d9_114) (by decide) (by decide) ?_
            exact cut32_11 _ (1 : Int32) r69 (1 : Int32) _ _ X69 e69 N69 (Nat.lt_succ_self _) (by decide) (by decide)
      · refine ow_icmpNoW (q := 64) X69 hx (hb hby own_d9_61) rfl (Jvm.Free.XT.ii_lt_f hc61_86) ?_
        refine ow_iloadNW (q := 65) X69 hx (hb hby own_d9_64) rfl rfl ?_
        refine ow_bipushW (q := 67) X69 hx (90 : Int32) (hb hby own_d9_65) rfl rfl ?_
        by_cases hc67_93 : (90 : Int32) < r69
        · refine ow_icmpNoW (q := 70) X69 hx (hb hby own_d9_67) rfl (Jvm.Free.XT.ii_le_f hc67_93) ?_
          refine ow_iloadNW (q := 71) X69 hx (hb hby own_d9_70) rfl rfl ?_
          refine ow_bipushW (q := 73) X69 hx (48 : Int32) (hb hby own_d9_71) rfl rfl ?_
          by_cases hc73_94 : r69 < (48 : Int32)
          · refine ow_icmpYesW (q := 82) X69 hx (hb hby own_d9_73) (Jvm.Free.XT.ii_lt_t hc73_94) (by decide) (by decide) ?_
            refine ow_iloadNW (q := 83) X69 hx (hb hby own_d9_82) rfl rfl ?_
            refine ow_bipushW (q := 85) X69 hx (95 : Int32) (hb hby own_d9_83) rfl rfl ?_
            by_cases hc85_95 : r69 = (95 : Int32)
            · refine ow_icmpYesW (q := 94) X69 hx (hb hby own_d9_85) (Jvm.Free.XT.ii_eq_t hc85_95) (by decide) (by decide) ?_
              refine ow_iconstW (q := 95) X69 hx (1 : Int32) (hb hby own_d9_94) rfl rfl ?_
              refine ow_gotoW (q := 99) X69 hx (hb hby own_d9_95) (by decide) (by decide) ?_
              refine ow_istoreNW (q := 100) X69 hx (L' := #[rv sx, iv (0 : Int32), iv r69, iv (1 : Int32)]) (hb hby own_d9_99) rfl rfl ?_
              refine ow_iloadNW (q := 101) X69 hx (hb hby own_d9_100) rfl rfl ?_
              refine ow_ifYesW (q := 111) X69 hx (hb hby own_d9_101) (Jvm.Free.XT.i0_ne_t (by decide)) (by decide) (by decide) ?_
              refine ow_iincW (q := 114) X69 hx (L' := #[rv sx, iv (1 : Int32), iv r69, iv (1 : Int32)]) (hb hby own_d9_111) rfl rfl rfl ?_
              refine ow_gotoW (q := 32) X69 hx (hb hby own_d9_114) (by decide) (by decide) ?_
              exact cut32_11 _ (1 : Int32) r69 (1 : Int32) _ _ X69 e69 N69 (Nat.lt_succ_self _) (by decide) (by decide)
            · refine ow_icmpNoW (q := 88) X69 hx (hb hby own_d9_85) rfl (Jvm.Free.XT.ii_eq_f hc85_95) ?_
              refine ow_iloadNW (q := 89) X69 hx (hb hby own_d9_88) rfl rfl ?_
              refine ow_bipushW (q := 91) X69 hx (45 : Int32) (hb hby own_d9_89) rfl rfl ?_
              by_cases hc91_96 : r69 = (45 : Int32)
              · refine ow_icmpNoW (q := 94) X69 hx (hb hby own_d9_91) rfl (Jvm.Free.XT.ii_ne_f hc91_96) ?_
                refine ow_iconstW (q := 95) X69 hx (1 : Int32) (hb hby own_d9_94) rfl rfl ?_
                refine ow_gotoW (q := 99) X69 hx (hb hby own_d9_95) (by decide) (by decide) ?_
                refine ow_istoreNW (q := 100) X69 hx (L' := #[rv sx, iv (0 : Int32), iv r69, iv (1 : Int32)]) (hb hby own_d9_99) rfl rfl ?_
                refine ow_iloadNW (q := 101) X69 hx (hb hby own_d9_100) rfl rfl ?_
                refine ow_ifYesW (q := 111) X69 hx (hb hby own_d9_101) (Jvm.Free.XT.i0_ne_t (by decide)) (by decide) (by decide) ?_
                refine ow_iincW (q := 114) X69 hx (L' := #[rv sx, iv (1 : Int32), iv r69, iv (1 : Int32)]) (hb hby own_d9_111) rfl rfl rfl ?_
                refine ow_gotoW (q := 32) X69 hx (hb hby own_d9_114) (by decide) (by decide) ?_
                exact cut32_11 _ (1 : Int32) r69 (1 : Int32) _ _ X69 e69 N69 (Nat.lt_succ_self _) (by decide) (by decide)
              · refine ow_icmpYesW (q := 98) X69 hx (hb hby own_d9_91) (Jvm.Free.XT.ii_ne_t hc91_96) (by decide) (by decide) ?_
                exfalso
                have hk := own_okI hp69
                have cc0 := own_nltI hc49_70
                have cc1 := own_ltI hc55_85
                have cc2 := own_nltI hc61_86
                have cc3 := own_ltI hc67_93
                have cc4 := own_ltI hc73_94
                have cc5 := own_neI hc85_95
                have cc6 := own_neI hc91_96
                simp only [Int32.reduceToInt] at cc0 cc1 cc2 cc3 cc4 cc5 cc6
                omega
          · refine ow_icmpNoW (q := 76) X69 hx (hb hby own_d9_73) rfl (Jvm.Free.XT.ii_lt_f hc73_94) ?_
            refine ow_iloadNW (q := 77) X69 hx (hb hby own_d9_76) rfl rfl ?_
            refine ow_bipushW (q := 79) X69 hx (57 : Int32) (hb hby own_d9_77) rfl rfl ?_
            by_cases hc79_97 : (57 : Int32) < r69
            · refine ow_icmpNoW (q := 82) X69 hx (hb hby own_d9_79) rfl (Jvm.Free.XT.ii_le_f hc79_97) ?_
              refine ow_iloadNW (q := 83) X69 hx (hb hby own_d9_82) rfl rfl ?_
              refine ow_bipushW (q := 85) X69 hx (95 : Int32) (hb hby own_d9_83) rfl rfl ?_
              by_cases hc85_98 : r69 = (95 : Int32)
              · refine ow_icmpYesW (q := 94) X69 hx (hb hby own_d9_85) (Jvm.Free.XT.ii_eq_t hc85_98) (by decide) (by decide) ?_
                refine ow_iconstW (q := 95) X69 hx (1 : Int32) (hb hby own_d9_94) rfl rfl ?_
                refine ow_gotoW (q := 99) X69 hx (hb hby own_d9_95) (by decide) (by decide) ?_
                refine ow_istoreNW (q := 100) X69 hx (L' := #[rv sx, iv (0 : Int32), iv r69, iv (1 : Int32)]) (hb hby own_d9_99) rfl rfl ?_
                refine ow_iloadNW (q := 101) X69 hx (hb hby own_d9_100) rfl rfl ?_
                refine ow_ifYesW (q := 111) X69 hx (hb hby own_d9_101) (Jvm.Free.XT.i0_ne_t (by decide)) (by decide) (by decide) ?_
                refine ow_iincW (q := 114) X69 hx (L' := #[rv sx, iv (1 : Int32), iv r69, iv (1 : Int32)]) (hb hby own_d9_111) rfl rfl rfl ?_
                refine ow_gotoW (q := 32) X69 hx (hb hby own_d9_114) (by decide) (by decide) ?_
                exact cut32_11 _ (1 : Int32) r69 (1 : Int32) _ _ X69 e69 N69 (Nat.lt_succ_self _) (by decide) (by decide)
              · refine ow_icmpNoW (q := 88) X69 hx (hb hby own_d9_85) rfl (Jvm.Free.XT.ii_eq_f hc85_98) ?_
                refine ow_iloadNW (q := 89) X69 hx (hb hby own_d9_88) rfl rfl ?_
                refine ow_bipushW (q := 91) X69 hx (45 : Int32) (hb hby own_d9_89) rfl rfl ?_
                by_cases hc91_99 : r69 = (45 : Int32)
                · refine ow_icmpNoW (q := 94) X69 hx (hb hby own_d9_91) rfl (Jvm.Free.XT.ii_ne_f hc91_99) ?_
                  refine ow_iconstW (q := 95) X69 hx (1 : Int32) (hb hby own_d9_94) rfl rfl ?_
                  refine ow_gotoW (q := 99) X69 hx (hb hby own_d9_95) (by decide) (by decide) ?_
                  refine ow_istoreNW (q := 100) X69 hx (L' := #[rv sx, iv (0 : Int32), iv r69, iv (1 : Int32)]) (hb hby own_d9_99) rfl rfl ?_
                  refine ow_iloadNW (q := 101) X69 hx (hb hby own_d9_100) rfl rfl ?_
                  refine ow_ifYesW (q := 111) X69 hx (hb hby own_d9_101) (Jvm.Free.XT.i0_ne_t (by decide)) (by decide) (by decide) ?_
                  refine ow_iincW (q := 114) X69 hx (L' := #[rv sx, iv (1 : Int32), iv r69, iv (1 : Int32)]) (hb hby own_d9_111) rfl rfl rfl ?_
                  refine ow_gotoW (q := 32) X69 hx (hb hby own_d9_114) (by decide) (by decide) ?_
                  exact cut32_11 _ (1 : Int32) r69 (1 : Int32) _ _ X69 e69 N69 (Nat.lt_succ_self _) (by decide) (by decide)
                · refine ow_icmpYesW (q := 98) X69 hx (hb hby own_d9_91) (Jvm.Free.XT.ii_ne_t hc91_99) (by decide) (by decide) ?_
                  exfalso
                  have hk := own_okI hp69
                  have cc0 := own_nltI hc49_70
                  have cc1 := own_ltI hc55_85
                  have cc2 := own_nltI hc61_86
                  have cc3 := own_ltI hc67_93
                  have cc4 := own_nltI hc73_94
                  have cc5 := own_ltI hc79_97
                  have cc6 := own_neI hc85_98
                  have cc7 := own_neI hc91_99
                  simp only [Int32.reduceToInt] at cc0 cc1 cc2 cc3 cc4 cc5 cc6 cc7
                  omega
            · refine ow_icmpYesW (q := 94) X69 hx (hb hby own_d9_79) (Jvm.Free.XT.ii_le_t hc79_97) (by decide) (by decide) ?_
              refine ow_iconstW (q := 95) X69 hx (1 : Int32) (hb hby own_d9_94) rfl rfl ?_
              refine ow_gotoW (q := 99) X69 hx (hb hby own_d9_95) (by decide) (by decide) ?_
              refine ow_istoreNW (q := 100) X69 hx (L' := #[rv sx, iv (0 : Int32), iv r69, iv (1 : Int32)]) (hb hby own_d9_99) rfl rfl ?_
              refine ow_iloadNW (q := 101) X69 hx (hb hby own_d9_100) rfl rfl ?_
              refine ow_ifYesW (q := 111) X69 hx (hb hby own_d9_101) (Jvm.Free.XT.i0_ne_t (by decide)) (by decide) (by decide) ?_
              refine ow_iincW (q := 114) X69 hx (L' := #[rv sx, iv (1 : Int32), iv r69, iv (1 : Int32)]) (hb hby own_d9_111) rfl rfl rfl ?_
              refine ow_gotoW (q := 32) X69 hx (hb hby own_d9_114) (by decide) (by decide) ?_
              exact cut32_11 _ (1 : Int32) r69 (1 : Int32) _ _ X69 e69 N69 (Nat.lt_succ_self _) (by decide) (by decide)
        · refine ow_icmpYesW (q := 94) X69 hx (hb hby own_d9_67) (Jvm.Free.XT.ii_le_t hc67_93) (by decide) (by decide) ?_
          refine ow_iconstW (q := 95) X69 hx (1 : Int32) (hb hby own_d9_94) rfl rfl ?_
          refine ow_gotoW (q := 99) X69 hx (hb hby own_d9_95) (by decide) (by decide) ?_
          refine ow_istoreNW (q := 100) X69 hx (L' := #[rv sx, iv (0 : Int32), iv r69, iv (1 : Int32)]) (hb hby own_d9_99) rfl rfl ?_
          refine ow_iloadNW (q := 101) X69 hx (hb hby own_d9_100) rfl rfl ?_
          refine ow_ifYesW (q := 111) X69 hx (hb hby own_d9_101) (Jvm.Free.XT.i0_ne_t (by decide)) (by decide) (by decide) ?_
          refine ow_iincW (q := 114) X69 hx (L' := #[rv sx, iv (1 : Int32), iv r69, iv (1 : Int32)]) (hb hby own_d9_111) rfl rfl rfl ?_
          refine ow_gotoW (q := 32) X69 hx (hb hby own_d9_114) (by decide) (by decide) ?_
          exact cut32_11 _ (1 : Int32) r69 (1 : Int32) _ _ X69 e69 N69 (Nat.lt_succ_self _) (by decide) (by decide)
    · refine ow_icmpYesW (q := 94) X69 hx (hb hby own_d9_55) (Jvm.Free.XT.ii_le_t hc55_85) (by decide) (by decide) ?_
      refine ow_iconstW (q := 95) X69 hx (1 : Int32) (hb hby own_d9_94) rfl rfl ?_
      refine ow_gotoW (q := 99) X69 hx (hb hby own_d9_95) (by decide) (by decide) ?_
      refine ow_istoreNW (q := 100) X69 hx (L' := #[rv sx, iv (0 : Int32), iv r69, iv (1 : Int32)]) (hb hby own_d9_99) rfl rfl ?_
      refine ow_iloadNW (q := 101) X69 hx (hb hby own_d9_100) rfl rfl ?_
      refine ow_ifYesW (q := 111) X69 hx (hb hby own_d9_101) (Jvm.Free.XT.i0_ne_t (by decide)) (by decide) (by decide) ?_
      refine ow_iincW (q := 114) X69 hx (L' := #[rv sx, iv (1 : Int32), iv r69, iv (1 : Int32)]) (hb hby own_d9_111) rfl rfl rfl ?_
      refine ow_gotoW (q := 32) X69 hx (hb hby own_d9_114) (by decide) (by decide) ?_
      exact cut32_11 _ (1 : Int32) r69 (1 : Int32) _ _ X69 e69 N69 (Nat.lt_succ_self _) (by decide) (by decide)
theorem own_pd8 : parseMethodDescriptor "([C)V" = some ⟨[(.array .char)], none⟩ := by decide +kernel
theorem own_pd9 : parseMethodDescriptor "(Ljava/lang/String;)Ljava/lang/String;" = some ⟨[(.object "java/lang/String")], some (.object "java/lang/String")⟩ := by decide +kernel
theorem own_pd10 : parseMethodDescriptor "(JI)C" = some ⟨[.long, .int], some .char⟩ := by decide +kernel
theorem own_ef0_law (m : MethodId) (q0 : Int64) (q1 : Int64) (q2 : Int64) (p3 : Int32) : entryFrame m #[(.long q0), (.long q1), (.long q2), (.int p3)] maxLocals = mkF m 0 #[.val (.long q0), .second, .val (.long q1), .second, .val (.long q2), .second, iv p3, .unset, .unset, .unset, .unset, .unset, .unset, .unset] [] := by first | (simp [entryFrame, mkF, argsToLocals, Value.category, maxLocals]; done) | rfl
def Q_law (Z : State) (q0 : Int64) (q1 : Int64) (q2 : Int64) (p3 : Int32) (zc : Int32) (fm : Value) (h0 : Heap) (n0 : Nat) (v : Option Value) (h : Heap) (L : List Loc) : Prop := v = some (.int 1) ∧ Fr n0 L
set_option maxRecDepth 65536 in
set_option maxHeartbeats 40000000 in
theorem rm_law (l : Launch) (Z : State) (av0 : Array Value) (hw : ∀ d ∈ tables_1, d.before av0 Z = true) (ws : List Jvm.Cond) (q0 : Int64) (q1 : Int64) (q2 : Int64) (p3 : Int32) (zc : Int32) (fm : Value) (h0 : Heap) (n0 : Nat) (Z0 : n0 ≤ h0.size) (HF0 : Sta Z h0 "java/lang/String" "COMPACT_STRINGS" "Z" (.int zc)) (HF1 : Sta Z h0 "jdk/internal/util/Preconditions" "SIOOBE_FORMATTER" "Ljava/util/function/BiFunction;" fm) (hz : ¬ zc = (0 : Int32)) (hr_fm : fm.isRef = true) :
    MetFree l x (head1 (Jvm.Cond.code x code maxLocals ret :: ws) room_1) (fun a U => a = #[(.long q0), (.long q1), (.long q2), (.int p3)] ∧ Z.Warmed39 U.vm ∧ U.heap = h0) (fun _ _ _ _ _ => True) (fun _ U o U' => ∃ v L, o = .returned v ∧ (Q_law Z q0 q1 q2 p3 zc fm h0 n0) v U'.heap L ∧ ReturnedEndW U o U' L 24 1280) := by
  refine MetFree.of_bodySF (plainFor_of_name own_pn_CandidateRequireValidIdPinLaw) hisR ?_
  intro p e s m args below meth c s₁ Bd hml0 hP hK
  obtain ⟨rfl, hZ, hh⟩ := hP
  have hx := Bd.exec
  have hby := Bd.bytes
  have hml : c.maxLocals = 14 := hml0
  have hown : s.vm.findClass "com/example/un1son/un1son/CandidateRequireValidIdPinLaw" = some m.cls := findClass_of_methodNamed Bd.named
  have hnm := (name_of_methodNamed Bd.named Bd.method).1
  have hlk : meth.locks = false := BodyLoose.notSynchronized Bd
  have X0 : Stand p l e room_1 s m #[(.long q0), (.long q1), (.long q2), (.int p3)] below meth c s₁ [] 0 0 := Stand.of_body Bd
  have e0 : s₁.heap = h0 := by rw [← hh, Bd.state]; rfl
  have N0 := Fr.nil n0
  have K0 : Keep h0 h0 [] := Keep.refl _ _
  have ww : ∀ (k : Nat) {d : Jvm.Cond}, tables_1[k]? = some d → d.before av0 Z = true := fun k d h => hw d (List.mem_of_getElem? h)
  show ownEndsW p e below s (Q_law Z q0 q1 q2 p3 zc fm h0 n0) 24 1280 s₁ (entryFrame m #[(.long q0), (.long q1), (.long q2), (.int p3)] maxLocals)
  refine ownCastW (own_ef0_law m q0 q1 q2 p3) ?_
  refine ow_bipushW (q := 2) X0 hx (32 : Int32) (hb hby at_0) rfl rfl ?_
  obtain ⟨T1, h1, k1, X1, e1, E1, A1, st1⟩ := newP X0 hx hZ (ww 0 rfl) e0 (g := (mkF m 2 #[.val (.long q0), .second, .val (.long q1), .second, .val (.long q2), .second, iv p3, .unset, .unset, .unset, .unset, .unset, .unset, .unset] [(.int (32 : Int32))])) rfl (hb hby at_2) rfl (by decide) (cap := 32) (by decide) (by decide) (by decide) (by decide)
  obtain ⟨b1, g1⟩ : ∃ z, z = h0.size := ⟨_, rfl⟩
  rw [← g1] at A1 st1
  have sz_b1 : h0.size ≤ b1 := Nat.le_trans K0.1 (Nat.le_of_eq g1.symm)
  have G_b1 : n0 ≤ b1 := Nat.le_trans Z0 sz_b1
  have K1 : Keep h0 h1 [] := K0.ext E1
  have F2 : Sta Z h1 "java/lang/String" "COMPACT_STRINGS" "Z" (.int zc) := HF0.ext E1
  have F3 : Sta Z h1 "jdk/internal/util/Preconditions" "SIOOBE_FORMATTER" "Ljava/util/function/BiFunction;" fm := HF1.ext E1
  have F4 : ownAI Z h1 b1 .char 32 (fun _ => (0 : Int32)) := ownAI.new A1 (by decide) rfl (by decide)
  refine ownGoW (T' := T1) (f' := (mkF m 4 #[.val (.long q0), .second, .val (.long q1), .second, .val (.long q2), .second, iv p3, .unset, .unset, .unset, .unset, .unset, .unset, .unset] [(.ref b1)])) (st1) ?_
  refine ow_astoreW (q := 6) X1 hx (L' := #[.val (.long q0), .second, .val (.long q1), .second, .val (.long q2), .second, iv p3, rv b1, .unset, .unset, .unset, .unset, .unset, .unset]) (hb hby at_4) rfl rfl rfl ?_
  have cut346_5 : ∀ (gq32 : Nat → Int32) (Tc5 : State) (lc5 : List Loc) (hc5 : Heap), Stand p l e room_1 s m #[(.long q0), (.long q1), (.long q2), (.int p3)] below meth c Tc5 lc5 1 32 → Tc5.heap = hc5 → Fr n0 lc5 → Keep h0 hc5 [] → Sta Z hc5 "java/lang/String" "COMPACT_STRINGS" "Z" (.int zc) → Sta Z hc5 "jdk/internal/util/Preconditions" "SIOOBE_FORMATTER" "Ljava/util/function/BiFunction;" fm → ownAI Z hc5 b1 .char 32 gq32 → (∀ k, k < 32 → own_okb (gq32 k) = true) → ownEndsW p e below s (Q_law Z q0 q1 q2 p3 zc fm h0 n0) 24 1280 Tc5 (mkF m 346 #[.val (.long q0), .second, .val (.long q1), .second, .val (.long q2), .second, iv p3, rv b1, .unset, .unset, .unset, .unset, .unset, .unset] []) := by
    intro gq32 Tc5 lc5 hc5 Xc5 ec5 Nc5 Kc5 Fc5_0 Fc5_1 Fc5_2 okq32
    refine ow_iconstW (q := 347) Xc5 hx (1 : Int32) (hb hby at_346) rfl rfl ?_
    obtain ⟨T6, h6, k6, X6, e6, E6, A6, st6⟩ := newP Xc5 hx hZ (ww 0 rfl) ec5 (g := (mkF m 347 #[.val (.long q0), .second, .val (.long q1), .second, .val (.long q2), .second, iv p3, rv b1, .unset, .unset, .unset, .unset, .unset, .unset] [(.int (1 : Int32))])) rfl (hb hby at_347) rfl (by decide) (cap := 1) (by decide) (by decide) (by decide) (by decide)
    obtain ⟨b6, g6⟩ : ∃ z, z = hc5.size := ⟨_, rfl⟩
    rw [← g6] at A6 st6
    have ne_b1_b6 : b1 ≠ b6 := Nat.ne_of_lt (Nat.lt_of_lt_of_le Fc5_2.lt (Nat.le_of_eq g6.symm))
    have sz_b6 : h0.size ≤ b6 := Nat.le_trans Kc5.1 (Nat.le_of_eq g6.symm)
    have G_b6 : n0 ≤ b6 := Nat.le_trans Z0 sz_b6
    have K6 : Keep h0 h6 [] := Kc5.ext E6
    have F7 : Sta Z h6 "java/lang/String" "COMPACT_STRINGS" "Z" (.int zc) := Fc5_0.ext E6
    have F8 : Sta Z h6 "jdk/internal/util/Preconditions" "SIOOBE_FORMATTER" "Ljava/util/function/BiFunction;" fm := Fc5_1.ext E6
    have F9 : ownAI Z h6 b1 .char 32 gq32 := Fc5_2.ext E6
    have F10 : ownAI Z h6 b6 .char 1 (fun _ => (0 : Int32)) := ownAI.new A6 (by decide) rfl (by decide)
    refine ownGoW (T' := T6) (f' := (mkF m 349 #[.val (.long q0), .second, .val (.long q1), .second, .val (.long q2), .second, iv p3, rv b1, .unset, .unset, .unset, .unset, .unset, .unset] [(.ref b6)])) (st6) ?_
    refine ow_dupW (q := 350) X6 hx (hb hby at_349) rfl rfl ?_
    refine ow_iconstW (q := 351) X6 hx (0 : Int32) (hb hby at_350) rfl rfl ?_
    refine ow_aloadW (q := 353) X6 hx (hb hby at_351) rfl rfl rfl ?_
    refine ow_iconstW (q := 354) X6 hx (0 : Int32) (hb hby at_353) rfl rfl ?_
    refine ownGoW (T' := T6) (f' := (mkF m 355 #[.val (.long q0), .second, .val (.long q1), .second, .val (.long q2), .second, iv p3, rv b1, .unset, .unset, .unset, .unset, .unset, .unset] [(.int (gq32 0)), (.int (0 : Int32)), (.ref b6), (.ref b6)])) (ownCaload F9 X6 hx hZ e6 (j := (0 : Int32)) (by unfold ownIn; decide) (g := (mkF m 354 #[.val (.long q0), .second, .val (.long q1), .second, .val (.long q2), .second, iv p3, rv b1, .unset, .unset, .unset, .unset, .unset, .unset] [(.int (0 : Int32)), (.ref b1), (.int (0 : Int32)), (.ref b6), (.ref b6)])) rfl rfl (hb hby at_354)) ?_
    generalize hv_v11 : (gq32 0) = v11
    obtain ⟨T12, h12, X12, e12, W12, F12s, st12⟩ := ownCastore F10 X6 hx hZ e6 (j := (0 : Int32)) (by unfold ownIn; decide) (g := (mkF m 355 #[.val (.long q0), .second, .val (.long q1), .second, .val (.long q2), .second, iv p3, rv b1, .unset, .unset, .unset, .unset, .unset, .unset] [(.int v11), (.int (0 : Int32)), (.ref b6), (.ref b6)])) rfl rfl (hb hby at_355)
    rw [own_nar (own_okv hv_v11 (okq32 0 (by decide)))] at F12s
    have F12r : ownAI Z h12 b6 .char 1 (ownUpd (fun _ => (0 : Int32)) 0 v11) := F12s
    have N12 := Fr.snoc X12 Nc5 G_b6
    have K12 : Keep h0 h12 [] := K6.wr W12 (Or.inr sz_b6)
    have F13 : Sta Z h12 "java/lang/String" "COMPACT_STRINGS" "Z" (.int zc) := F7.wr W12
    have F14 : Sta Z h12 "jdk/internal/util/Preconditions" "SIOOBE_FORMATTER" "Ljava/util/function/BiFunction;" fm := F8.wr W12
    have F15 : ownAI Z h12 b1 .char 32 gq32 := F9.other W12 ne_b1_b6
    refine ownGoW (T' := T12) (f' := (mkF m 356 #[.val (.long q0), .second, .val (.long q1), .second, .val (.long q2), .second, iv p3, rv b1, .unset, .unset, .unset, .unset, .unset, .unset] [(.ref b6)])) (st12) ?_
    obtain ⟨gg16, FA16, ok16⟩ : ∃ gg, ownAI Z h12 b6 .char 1 gg ∧ ∀ k, k < 1 → own_okb (gg k) = true := ⟨_, F12r, own_okU (j := 0) (own_okv hv_v11 (okq32 0 (by decide))) (fun k hk => absurd hk (Nat.not_lt_zero _))⟩
    refine ow_astoreW (q := 358) X12 hx (L' := #[.val (.long q0), .second, .val (.long q1), .second, .val (.long q2), .second, iv p3, rv b1, rv b6, .unset, .unset, .unset, .unset, .unset]) (hb hby at_356) rfl rfl rfl ?_
    refine ow_iconstW (q := 359) X12 hx (2 : Int32) (hb hby at_358) rfl rfl ?_
    obtain ⟨T17, h17, k17, X17, e17, E17, A17, st17⟩ := newP X12 hx hZ (ww 0 rfl) e12 (g := (mkF m 359 #[.val (.long q0), .second, .val (.long q1), .second, .val (.long q2), .second, iv p3, rv b1, rv b6, .unset, .unset, .unset, .unset, .unset] [(.int (2 : Int32))])) rfl (hb hby at_359) rfl (by decide) (cap := 2) (by decide) (by decide) (by decide) (by decide)
    obtain ⟨b17, g17⟩ : ∃ z, z = h12.size := ⟨_, rfl⟩
    rw [← g17] at A17 st17
    have ne_b1_b17 : b1 ≠ b17 := Nat.ne_of_lt (Nat.lt_of_lt_of_le F15.lt (Nat.le_of_eq g17.symm))
    have ne_b6_b17 : b6 ≠ b17 := Nat.ne_of_lt (Nat.lt_of_lt_of_le FA16.lt (Nat.le_of_eq g17.symm))
    have sz_b17 : h0.size ≤ b17 := Nat.le_trans K12.1 (Nat.le_of_eq g17.symm)
    have G_b17 : n0 ≤ b17 := Nat.le_trans Z0 sz_b17
    have K17 : Keep h0 h17 [] := K12.ext E17
    have F18 : Sta Z h17 "java/lang/String" "COMPACT_STRINGS" "Z" (.int zc) := F13.ext E17
    have F19 : Sta Z h17 "jdk/internal/util/Preconditions" "SIOOBE_FORMATTER" "Ljava/util/function/BiFunction;" fm := F14.ext E17
    have F20 : ownAI Z h17 b1 .char 32 gq32 := F15.ext E17
    have F21 : ownAI Z h17 b6 .char 1 gg16 := FA16.ext E17
    have F22 : ownAI Z h17 b17 .char 2 (fun _ => (0 : Int32)) := ownAI.new A17 (by decide) rfl (by decide)
    refine ownGoW (T' := T17) (f' := (mkF m 361 #[.val (.long q0), .second, .val (.long q1), .second, .val (.long q2), .second, iv p3, rv b1, rv b6, .unset, .unset, .unset, .unset, .unset] [(.ref b17)])) (st17) ?_
    refine ow_dupW (q := 362) X17 hx (hb hby at_361) rfl rfl ?_
    refine ow_iconstW (q := 363) X17 hx (0 : Int32) (hb hby at_362) rfl rfl ?_
    refine ow_aloadW (q := 365) X17 hx (hb hby at_363) rfl rfl rfl ?_
    refine ow_iconstW (q := 366) X17 hx (0 : Int32) (hb hby at_365) rfl rfl ?_
    refine ownGoW (T' := T17) (f' := (mkF m 367 #[.val (.long q0), .second, .val (.long q1), .second, .val (.long q2), .second, iv p3, rv b1, rv b6, .unset, .unset, .unset, .unset, .unset] [(.int (gq32 0)), (.int (0 : Int32)), (.ref b17), (.ref b17)])) (ownCaload F20 X17 hx hZ e17 (j := (0 : Int32)) (by unfold ownIn; decide) (g := (mkF m 366 #[.val (.long q0), .second, .val (.long q1), .second, .val (.long q2), .second, iv p3, rv b1, rv b6, .unset, .unset, .unset, .unset, .unset] [(.int (0 : Int32)), (.ref b1), (.int (0 : Int32)), (.ref b17), (.ref b17)])) rfl rfl (hb hby at_366)) ?_
    generalize hv_v23 : (gq32 0) = v23
    obtain ⟨T24, h24, X24, e24, W24, F24s, st24⟩ := ownCastore F22 X17 hx hZ e17 (j := (0 : Int32)) (by unfold ownIn; decide) (g := (mkF m 367 #[.val (.long q0), .second, .val (.long q1), .second, .val (.long q2), .second, iv p3, rv b1, rv b6, .unset, .unset, .unset, .unset, .unset] [(.int v23), (.int (0 : Int32)), (.ref b17), (.ref b17)])) rfl rfl (hb hby at_367)
    rw [own_nar (own_okv hv_v23 (okq32 0 (by decide)))] at F24s
    have F24r : ownAI Z h24 b17 .char 2 (ownUpd (fun _ => (0 : Int32)) 0 v23) := F24s
    have N24 := Fr.snoc X24 N12 G_b17
    have K24 : Keep h0 h24 [] := K17.wr W24 (Or.inr sz_b17)
    have F25 : Sta Z h24 "java/lang/String" "COMPACT_STRINGS" "Z" (.int zc) := F18.wr W24
    have F26 : Sta Z h24 "jdk/internal/util/Preconditions" "SIOOBE_FORMATTER" "Ljava/util/function/BiFunction;" fm := F19.wr W24
    have F27 : ownAI Z h24 b1 .char 32 gq32 := F20.other W24 ne_b1_b17
    have F28 : ownAI Z h24 b6 .char 1 gg16 := F21.other W24 ne_b6_b17
    refine ownGoW (T' := T24) (f' := (mkF m 368 #[.val (.long q0), .second, .val (.long q1), .second, .val (.long q2), .second, iv p3, rv b1, rv b6, .unset, .unset, .unset, .unset, .unset] [(.ref b17)])) (st24) ?_
    obtain ⟨gg29, FA29, ok29⟩ : ∃ gg, ownAI Z h24 b17 .char 2 gg ∧ ∀ k, k < 1 → own_okb (gg k) = true := ⟨_, F24r, own_okU (j := 0) (own_okv hv_v23 (okq32 0 (by decide))) (fun k hk => absurd hk (Nat.not_lt_zero _))⟩
    refine ow_dupW (q := 369) X24 hx (hb hby at_368) rfl rfl ?_
    refine ow_iconstW (q := 370) X24 hx (1 : Int32) (hb hby at_369) rfl rfl ?_
    refine ow_aloadW (q := 372) X24 hx (hb hby at_370) rfl rfl rfl ?_
    refine ow_iconstW (q := 373) X24 hx (1 : Int32) (hb hby at_372) rfl rfl ?_
    refine ownGoW (T' := T24) (f' := (mkF m 374 #[.val (.long q0), .second, .val (.long q1), .second, .val (.long q2), .second, iv p3, rv b1, rv b6, .unset, .unset, .unset, .unset, .unset] [(.int (gq32 1)), (.int (1 : Int32)), (.ref b17), (.ref b17)])) (ownCaload F27 X24 hx hZ e24 (j := (1 : Int32)) (by unfold ownIn; decide) (g := (mkF m 373 #[.val (.long q0), .second, .val (.long q1), .second, .val (.long q2), .second, iv p3, rv b1, rv b6, .unset, .unset, .unset, .unset, .unset] [(.int (1 : Int32)), (.ref b1), (.int (1 : Int32)), (.ref b17), (.ref b17)])) rfl rfl (hb hby at_373)) ?_
    generalize hv_v30 : (gq32 1) = v30
    obtain ⟨T31, h31, X31, e31, W31, F31s, st31⟩ := ownCastore FA29 X24 hx hZ e24 (j := (1 : Int32)) (by unfold ownIn; decide) (g := (mkF m 374 #[.val (.long q0), .second, .val (.long q1), .second, .val (.long q2), .second, iv p3, rv b1, rv b6, .unset, .unset, .unset, .unset, .unset] [(.int v30), (.int (1 : Int32)), (.ref b17), (.ref b17)])) rfl rfl (hb hby at_374)
    rw [own_nar (own_okv hv_v30 (okq32 1 (by decide)))] at F31s
    have F31r : ownAI Z h31 b17 .char 2 (ownUpd gg29 1 v30) := F31s
    have N31 := Fr.snoc X31 N24 G_b17
    have K31 : Keep h0 h31 [] := K24.wr W31 (Or.inr sz_b17)
    have F32 : Sta Z h31 "java/lang/String" "COMPACT_STRINGS" "Z" (.int zc) := F25.wr W31
    have F33 : Sta Z h31 "jdk/internal/util/Preconditions" "SIOOBE_FORMATTER" "Ljava/util/function/BiFunction;" fm := F26.wr W31
    have F34 : ownAI Z h31 b1 .char 32 gq32 := F27.other W31 ne_b1_b17
    have F35 : ownAI Z h31 b6 .char 1 gg16 := F28.other W31 ne_b6_b17
    refine ownGoW (T' := T31) (f' := (mkF m 375 #[.val (.long q0), .second, .val (.long q1), .second, .val (.long q2), .second, iv p3, rv b1, rv b6, .unset, .unset, .unset, .unset, .unset] [(.ref b17)])) (st31) ?_
    obtain ⟨gg36, FA36, ok36⟩ : ∃ gg, ownAI Z h31 b17 .char 2 gg ∧ ∀ k, k < 2 → own_okb (gg k) = true := ⟨_, F31r, own_okU (j := 1) (own_okv hv_v30 (okq32 1 (by decide))) ok29⟩
    refine ow_astoreW (q := 377) X31 hx (L' := #[.val (.long q0), .second, .val (.long q1), .second, .val (.long q2), .second, iv p3, rv b1, rv b6, rv b17, .unset, .unset, .unset, .unset]) (hb hby at_375) rfl rfl rfl ?_
    refine ow_iconstW (q := 378) X31 hx (3 : Int32) (hb hby at_377) rfl rfl ?_
    obtain ⟨T37, h37, k37, X37, e37, E37, A37, st37⟩ := newP X31 hx hZ (ww 0 rfl) e31 (g := (mkF m 378 #[.val (.long q0), .second, .val (.long q1), .second, .val (.long q2), .second, iv p3, rv b1, rv b6, rv b17, .unset, .unset, .unset, .unset] [(.int (3 : Int32))])) rfl (hb hby at_378) rfl (by decide) (cap := 3) (by decide) (by decide) (by decide) (by decide)
    obtain ⟨b37, g37⟩ : ∃ z, z = h31.size := ⟨_, rfl⟩
    rw [← g37] at A37 st37
    have ne_b1_b37 : b1 ≠ b37 := Nat.ne_of_lt (Nat.lt_of_lt_of_le F34.lt (Nat.le_of_eq g37.symm))
    have ne_b6_b37 : b6 ≠ b37 := Nat.ne_of_lt (Nat.lt_of_lt_of_le F35.lt (Nat.le_of_eq g37.symm))
    have ne_b17_b37 : b17 ≠ b37 := Nat.ne_of_lt (Nat.lt_of_lt_of_le FA36.lt (Nat.le_of_eq g37.symm))
    have sz_b37 : h0.size ≤ b37 := Nat.le_trans K31.1 (Nat.le_of_eq g37.symm)
    have G_b37 : n0 ≤ b37 := Nat.le_trans Z0 sz_b37
    have K37 : Keep h0 h37 [] := K31.ext E37
    have F38 : Sta Z h37 "java/lang/String" "COMPACT_STRINGS" "Z" (.int zc) := F32.ext E37
    have F39 : Sta Z h37 "jdk/internal/util/Preconditions" "SIOOBE_FORMATTER" "Ljava/util/function/BiFunction;" fm := F33.ext E37
    have F40 : ownAI Z h37 b1 .char 32 gq32 := F34.ext E37
    have F41 : ownAI Z h37 b6 .char 1 gg16 := F35.ext E37
    have F42 : ownAI Z h37 b17 .char 2 gg36 := FA36.ext E37
    have F43 : ownAI Z h37 b37 .char 3 (fun _ => (0 : Int32)) := ownAI.new A37 (by decide) rfl (by decide)
    refine ownGoW (T' := T37) (f' := (mkF m 380 #[.val (.long q0), .second, .val (.long q1), .second, .val (.long q2), .second, iv p3, rv b1, rv b6, rv b17, .unset, .unset, .unset, .unset] [(.ref b37)])) (st37) ?_
    refine ow_dupW (q := 381) X37 hx (hb hby at_380) rfl rfl ?_
    refine ow_iconstW (q := 382) X37 hx (0 : Int32) (hb hby at_381) rfl rfl ?_
    refine ow_aloadW (q := 384) X37 hx (hb hby at_382) rfl rfl rfl ?_
    refine ow_iconstW (q := 385) X37 hx (0 : Int32) (hb hby at_384) rfl rfl ?_
    refine ownGoW (T' := T37) (f' := (mkF m 386 #[.val (.long q0), .second, .val (.long q1), .second, .val (.long q2), .second, iv p3, rv b1, rv b6, rv b17, .unset, .unset, .unset, .unset] [(.int (gq32 0)), (.int (0 : Int32)), (.ref b37), (.ref b37)])) (ownCaload F40 X37 hx hZ e37 (j := (0 : Int32)) (by unfold ownIn; decide) (g := (mkF m 385 #[.val (.long q0), .second, .val (.long q1), .second, .val (.long q2), .second, iv p3, rv b1, rv b6, rv b17, .unset, .unset, .unset, .unset] [(.int (0 : Int32)), (.ref b1), (.int (0 : Int32)), (.ref b37), (.ref b37)])) rfl rfl (hb hby at_385)) ?_
    generalize hv_v44 : (gq32 0) = v44
    obtain ⟨T45, h45, X45, e45, W45, F45s, st45⟩ := ownCastore F43 X37 hx hZ e37 (j := (0 : Int32)) (by unfold ownIn; decide) (g := (mkF m 386 #[.val (.long q0), .second, .val (.long q1), .second, .val (.long q2), .second, iv p3, rv b1, rv b6, rv b17, .unset, .unset, .unset, .unset] [(.int v44), (.int (0 : Int32)), (.ref b37), (.ref b37)])) rfl rfl (hb hby at_386)
    rw [own_nar (own_okv hv_v44 (okq32 0 (by decide)))] at F45s
    have F45r : ownAI Z h45 b37 .char 3 (ownUpd (fun _ => (0 : Int32)) 0 v44) := F45s
    have N45 := Fr.snoc X45 N31 G_b37
    have K45 : Keep h0 h45 [] := K37.wr W45 (Or.inr sz_b37)
    have F46 : Sta Z h45 "java/lang/String" "COMPACT_STRINGS" "Z" (.int zc) := F38.wr W45
    have F47 : Sta Z h45 "jdk/internal/util/Preconditions" "SIOOBE_FORMATTER" "Ljava/util/function/BiFunction;" fm := F39.wr W45
    have F48 : ownAI Z h45 b1 .char 32 gq32 := F40.other W45 ne_b1_b37
    have F49 : ownAI Z h45 b6 .char 1 gg16 := F41.other W45 ne_b6_b37
    have F50 : ownAI Z h45 b17 .char 2 gg36 := F42.other W45 ne_b17_b37
    refine ownGoW (T' := T45) (f' := (mkF m 387 #[.val (.long q0), .second, .val (.long q1), .second, .val (.long q2), .second, iv p3, rv b1, rv b6, rv b17, .unset, .unset, .unset, .unset] [(.ref b37)])) (st45) ?_
    obtain ⟨gg51, FA51, ok51⟩ : ∃ gg, ownAI Z h45 b37 .char 3 gg ∧ ∀ k, k < 1 → own_okb (gg k) = true := ⟨_, F45r, own_okU (j := 0) (own_okv hv_v44 (okq32 0 (by decide))) (fun k hk => absurd hk (Nat.not_lt_zero _))⟩
    refine ow_dupW (q := 388) X45 hx (hb hby at_387) rfl rfl ?_
    refine ow_iconstW (q := 389) X45 hx (1 : Int32) (hb hby at_388) rfl rfl ?_
    refine ow_aloadW (q := 391) X45 hx (hb hby at_389) rfl rfl rfl ?_
    refine ow_iconstW (q := 392) X45 hx (1 : Int32) (hb hby at_391) rfl rfl ?_
    refine ownGoW (T' := T45) (f' := (mkF m 393 #[.val (.long q0), .second, .val (.long q1), .second, .val (.long q2), .second, iv p3, rv b1, rv b6, rv b17, .unset, .unset, .unset, .unset] [(.int (gq32 1)), (.int (1 : Int32)), (.ref b37), (.ref b37)])) (ownCaload F48 X45 hx hZ e45 (j := (1 : Int32)) (by unfold ownIn; decide) (g := (mkF m 392 #[.val (.long q0), .second, .val (.long q1), .second, .val (.long q2), .second, iv p3, rv b1, rv b6, rv b17, .unset, .unset, .unset, .unset] [(.int (1 : Int32)), (.ref b1), (.int (1 : Int32)), (.ref b37), (.ref b37)])) rfl rfl (hb hby at_392)) ?_
    generalize hv_v52 : (gq32 1) = v52
    obtain ⟨T53, h53, X53, e53, W53, F53s, st53⟩ := ownCastore FA51 X45 hx hZ e45 (j := (1 : Int32)) (by unfold ownIn; decide) (g := (mkF m 393 #[.val (.long q0), .second, .val (.long q1), .second, .val (.long q2), .second, iv p3, rv b1, rv b6, rv b17, .unset, .unset, .unset, .unset] [(.int v52), (.int (1 : Int32)), (.ref b37), (.ref b37)])) rfl rfl (hb hby at_393)
    rw [own_nar (own_okv hv_v52 (okq32 1 (by decide)))] at F53s
    have F53r : ownAI Z h53 b37 .char 3 (ownUpd gg51 1 v52) := F53s
    have N53 := Fr.snoc X53 N45 G_b37
    have K53 : Keep h0 h53 [] := K45.wr W53 (Or.inr sz_b37)
    have F54 : Sta Z h53 "java/lang/String" "COMPACT_STRINGS" "Z" (.int zc) := F46.wr W53
    have F55 : Sta Z h53 "jdk/internal/util/Preconditions" "SIOOBE_FORMATTER" "Ljava/util/function/BiFunction;" fm := F47.wr W53
    have F56 : ownAI Z h53 b1 .char 32 gq32 := F48.other W53 ne_b1_b37
    have F57 : ownAI Z h53 b6 .char 1 gg16 := F49.other W53 ne_b6_b37
    have F58 : ownAI Z h53 b17 .char 2 gg36 := F50.other W53 ne_b17_b37
    refine ownGoW (T' := T53) (f' := (mkF m 394 #[.val (.long q0), .second, .val (.long q1), .second, .val (.long q2), .second, iv p3, rv b1, rv b6, rv b17, .unset, .unset, .unset, .unset] [(.ref b37)])) (st53) ?_
    obtain ⟨gg59, FA59, ok59⟩ : ∃ gg, ownAI Z h53 b37 .char 3 gg ∧ ∀ k, k < 2 → own_okb (gg k) = true := ⟨_, F53r, own_okU (j := 1) (own_okv hv_v52 (okq32 1 (by decide))) ok51⟩
    refine ow_dupW (q := 395) X53 hx (hb hby at_394) rfl rfl ?_
    refine ow_iconstW (q := 396) X53 hx (2 : Int32) (hb hby at_395) rfl rfl ?_
    refine ow_aloadW (q := 398) X53 hx (hb hby at_396) rfl rfl rfl ?_
    refine ow_iconstW (q := 399) X53 hx (2 : Int32) (hb hby at_398) rfl rfl ?_
    refine ownGoW (T' := T53) (f' := (mkF m 400 #[.val (.long q0), .second, .val (.long q1), .second, .val (.long q2), .second, iv p3, rv b1, rv b6, rv b17, .unset, .unset, .unset, .unset] [(.int (gq32 2)), (.int (2 : Int32)), (.ref b37), (.ref b37)])) (ownCaload F56 X53 hx hZ e53 (j := (2 : Int32)) (by unfold ownIn; decide) (g := (mkF m 399 #[.val (.long q0), .second, .val (.long q1), .second, .val (.long q2), .second, iv p3, rv b1, rv b6, rv b17, .unset, .unset, .unset, .unset] [(.int (2 : Int32)), (.ref b1), (.int (2 : Int32)), (.ref b37), (.ref b37)])) rfl rfl (hb hby at_399)) ?_
    generalize hv_v60 : (gq32 2) = v60
    obtain ⟨T61, h61, X61, e61, W61, F61s, st61⟩ := ownCastore FA59 X53 hx hZ e53 (j := (2 : Int32)) (by unfold ownIn; decide) (g := (mkF m 400 #[.val (.long q0), .second, .val (.long q1), .second, .val (.long q2), .second, iv p3, rv b1, rv b6, rv b17, .unset, .unset, .unset, .unset] [(.int v60), (.int (2 : Int32)), (.ref b37), (.ref b37)])) rfl rfl (hb hby at_400)
    rw [own_nar (own_okv hv_v60 (okq32 2 (by decide)))] at F61s
    have F61r : ownAI Z h61 b37 .char 3 (ownUpd gg59 2 v60) := F61s
    have N61 := Fr.snoc X61 N53 G_b37
    have K61 : Keep h0 h61 [] := K53.wr W61 (Or.inr sz_b37)
    have F62 : Sta Z h61 "java/lang/String" "COMPACT_STRINGS" "Z" (.int zc) := F54.wr W61
    have F63 : Sta Z h61 "jdk/internal/util/Preconditions" "SIOOBE_FORMATTER" "Ljava/util/function/BiFunction;" fm := F55.wr W61
    have F64 : ownAI Z h61 b1 .char 32 gq32 := F56.other W61 ne_b1_b37
    have F65 : ownAI Z h61 b6 .char 1 gg16 := F57.other W61 ne_b6_b37
    have F66 : ownAI Z h61 b17 .char 2 gg36 := F58.other W61 ne_b17_b37
    refine ownGoW (T' := T61) (f' := (mkF m 401 #[.val (.long q0), .second, .val (.long q1), .second, .val (.long q2), .second, iv p3, rv b1, rv b6, rv b17, .unset, .unset, .unset, .unset] [(.ref b37)])) (st61) ?_
    obtain ⟨gg67, FA67, ok67⟩ : ∃ gg, ownAI Z h61 b37 .char 3 gg ∧ ∀ k, k < 3 → own_okb (gg k) = true := ⟨_, F61r, own_okU (j := 2) (own_okv hv_v60 (okq32 2 (by decide))) ok59⟩
    refine ow_astoreW (q := 403) X61 hx (L' := #[.val (.long q0), .second, .val (.long q1), .second, .val (.long q2), .second, iv p3, rv b1, rv b6, rv b17, rv b37, .unset, .unset, .unset]) (hb hby at_401) rfl rfl rfl ?_
    refine ow_iloadW (q := 405) X61 hx (hb hby at_403) rfl rfl ?_
    refine ow_bipushW (q := 407) X61 hx (12 : Int32) (hb hby at_405) rfl rfl ?_
    refine ow_iushrW (q := 408) X61 hx _ (hb hby at_407) rfl rfl ?_
    refine ow_iconstW (q := 409) X61 hx (3 : Int32) (hb hby at_408) rfl rfl ?_
    refine ow_iandW (q := 410) X61 hx _ (hb hby at_409) rfl rfl ?_
    generalize hv_v68 : (((p3.toUInt32 >>> ((12 : Int32) &&& 31).toUInt32).toInt32) &&& (3 : Int32)) = v68
    refine ow_istoreW (q := 412) X61 hx (L' := #[.val (.long q0), .second, .val (.long q1), .second, .val (.long q2), .second, iv p3, rv b1, rv b6, rv b17, rv b37, iv v68, .unset, .unset]) (hb hby at_410) rfl rfl ?_
    refine ow_iloadW (q := 414) X61 hx (hb hby at_412) rfl rfl ?_
    by_cases hc414_69 : v68 = (0 : Int32)
    · refine ow_ifNoW (q := 417) X61 hx (hb hby at_414) rfl (Jvm.Free.XT.i0_ne_f hc414_69) ?_
      obtain ⟨T70, h70, X70, e70, E70, A70, D70, -, st70⟩ := newO X61 hx hZ hown (ww 9 rfl) (ww 10 rfl) (ww 11 rfl) e61 (g := (mkF m 417 #[.val (.long q0), .second, .val (.long q1), .second, .val (.long q2), .second, iv p3, rv b1, rv b6, rv b17, rv b37, iv v68, .unset, .unset] [])) rfl (hb hby at_417) (by decide) (by decide)
      obtain ⟨b70, g70⟩ : ∃ z, z = h61.size := ⟨_, rfl⟩
      rw [← g70] at A70 D70 st70
      have ne_b1_b70 : b1 ≠ b70 := Nat.ne_of_lt (Nat.lt_of_lt_of_le F64.lt (Nat.le_of_eq g70.symm))
      have ne_b6_b70 : b6 ≠ b70 := Nat.ne_of_lt (Nat.lt_of_lt_of_le F65.lt (Nat.le_of_eq g70.symm))
      have ne_b17_b70 : b17 ≠ b70 := Nat.ne_of_lt (Nat.lt_of_lt_of_le F66.lt (Nat.le_of_eq g70.symm))
      have ne_b37_b70 : b37 ≠ b70 := Nat.ne_of_lt (Nat.lt_of_lt_of_le FA67.lt (Nat.le_of_eq g70.symm))
      have sz_b70 : h0.size ≤ b70 := Nat.le_trans K61.1 (Nat.le_of_eq g70.symm)
      have G_b70 : n0 ≤ b70 := Nat.le_trans Z0 sz_b70
      have K70 : Keep h0 h70 [] := K61.ext E70
      have F71 : Sta Z h70 "java/lang/String" "COMPACT_STRINGS" "Z" (.int zc) := F62.ext E70
      have F72 : Sta Z h70 "jdk/internal/util/Preconditions" "SIOOBE_FORMATTER" "Ljava/util/function/BiFunction;" fm := F63.ext E70
      have F73 : ownAI Z h70 b1 .char 32 gq32 := F64.ext E70
      have F74 : ownAI Z h70 b6 .char 1 gg16 := F65.ext E70
      have F75 : ownAI Z h70 b17 .char 2 gg36 := F66.ext E70
      have F76 : ownAI Z h70 b37 .char 3 gg67 := FA67.ext E70
      have F77 : Fld Z h70 b70 "java/lang/String" "coder" "B" (.int (0 : Int32)) := D70 (Or.inr (ww 35 rfl)) (ty := .byte) (by decide)
      have F78 : Fld Z h70 b70 "java/lang/String" "value" "[B" .null := D70 (Or.inr (ww 37 rfl)) (ty := (.array .byte)) (by decide)
      refine ownGoW (T' := T70) (f' := (mkF m 420 #[.val (.long q0), .second, .val (.long q1), .second, .val (.long q2), .second, iv p3, rv b1, rv b6, rv b17, rv b37, iv v68, .unset, .unset] [(.ref b70)])) (st70) ?_
      refine ow_dupW (q := 421) X70 hx (hb hby at_420) rfl rfl ?_
      refine ow_aloadW (q := 423) X70 hx (hb hby at_421) rfl rfl rfl ?_
      obtain ⟨_, _, ⟨T79, L79, k79, n79⟩, -, X79, ⟨Lc79, hQ79, l79, y79, z79⟩, st79⟩ := X70.specialBack hx (y := (⟨"java/lang/String", "<init>", "([C)V"⟩ : MethodName)) rfl hown (mvT hZ (ww 12 rfl)) (mvT hZ (ww 13 rfl)) (mvT hZ (ww 14 rfl)) (by decide) (ownStr (W := 1) (n0 := n0) hZ (fun d hd => hw d (own_strW d hd)) (ww 10 rfl) (Nat.le_trans Z0 K70.1) A70 F78 F77 F74 F71 G_b70 hz (own_okR ok16) (by decide) (by decide) (by decide) (by decide)) (g := (mkF m 423 #[.val (.long q0), .second, .val (.long q1), .second, .val (.long q2), .second, iv p3, rv b1, rv b6, rv b17, rv b37, iv v68, .unset, .unset] [(.ref b6), (.ref b70), (.ref b70)])) rfl (by rw [hml]; rfl) (Steps.refl _) (a := b70) (argsL := [(.ref b6)]) (rest := [(.ref b70)]) (lenOf own_pd8 rfl) rfl (by show 2 * 0 + _ ≤ _; exact Nat.le_of_eq rfl) (hb hby at_423) (fun _ _ => ⟨rfl, e70, (by decide : 5 + 1 ≤ _), (by decide : 42 + 1 ≤ _)⟩)
      dsimp only [Pt.U, Pt.locs, Pt.cells, Pt.slots] at X79 l79 y79 z79 st79 hQ79
      subst l79 y79 z79
      obtain ⟨t_79, rfl, N79q, Kq79, sq79_t_79, FP79_0, FP79_1, FP79_2⟩ := hQ79
      have N79 := Fr.app N61 N79q
      have K79 : Keep h0 T79.heap [] := K70.trans Kq79 (allS (Or.inr sz_b70) all0)
      have ne_b1_t_79 : b1 ≠ t_79 := Nat.ne_of_lt (Nat.lt_of_lt_of_le F73.lt sq79_t_79)
      have ne_b6_t_79 : b6 ≠ t_79 := Nat.ne_of_lt (Nat.lt_of_lt_of_le F74.lt sq79_t_79)
      have ne_b17_t_79 : b17 ≠ t_79 := Nat.ne_of_lt (Nat.lt_of_lt_of_le F75.lt sq79_t_79)
      have ne_b37_t_79 : b37 ≠ t_79 := Nat.ne_of_lt (Nat.lt_of_lt_of_le F76.lt sq79_t_79)
      have ne_b70_t_79 : b70 ≠ t_79 := Nat.ne_of_lt (Nat.lt_of_lt_of_le A70.lt sq79_t_79)
      have sz_t_79 : h0.size ≤ t_79 := Nat.le_trans K70.1 sq79_t_79
      have G_t_79 : n0 ≤ t_79 := Nat.le_trans Z0 sz_t_79
      have F80 : Sta Z T79.heap "java/lang/String" "COMPACT_STRINGS" "Z" (.int zc) := ownStaKeep F71 Kq79 (allS (ownNstE A70) all0)
      have F81 : Sta Z T79.heap "jdk/internal/util/Preconditions" "SIOOBE_FORMATTER" "Ljava/util/function/BiFunction;" fm := ownStaKeep F72 Kq79 (allS (ownNstE A70) all0)
      have F82 : ownAI Z T79.heap b1 .char 32 gq32 := F73.keep Kq79 (ninS ne_b1_b70 nin0)
      have F83 : ownAI Z T79.heap b6 .char 1 gg16 := F74.keep Kq79 (ninS ne_b6_b70 nin0)
      have F84 : ownAI Z T79.heap b17 .char 2 gg36 := F75.keep Kq79 (ninS ne_b17_b70 nin0)
      have F85 : ownAI Z T79.heap b37 .char 3 gg67 := F76.keep Kq79 (ninS ne_b37_b70 nin0)
      have F86 : Exa Z T79.heap b70 "java/lang/String" := A70.keep Kq79
      refine ownRunW (T' := T79) (f' := (mkF m 426 #[.val (.long q0), .second, .val (.long q1), .second, .val (.long q2), .second, iv p3, rv b1, rv b6, rv b17, rv b37, iv v68, .unset, .unset] [(.ref b70)])) st79 ?_
      refine ow_astoreW (q := 428) X79 hx (L' := #[.val (.long q0), .second, .val (.long q1), .second, .val (.long q2), .second, iv p3, rv b1, rv b6, rv b17, rv b37, iv v68, rv b70, .unset]) (hb hby at_426) rfl rfl rfl ?_
      refine ow_gotoW (q := 482) X79 hx (hb hby at_428) (by decide) (by decide) ?_
      refine ow_aloadW (q := 484) X79 hx (hb hby at_482) rfl rfl rfl ?_
      obtain ⟨_, _, ⟨T87, L87, k87, n87⟩, -, X87, hS87, gr87, ⟨Lc87, hQ87, l87, y87, z87⟩, st87⟩ := callSW X79 hx (y := (⟨"com/example/un1son/un1son/Candidate", "requireValidId", "(Ljava/lang/String;)Ljava/lang/String;"⟩ : MethodName)) hown (mvT hZ (ww 38 rfl)) (mvT hZ (ww 39 rfl)) (mvT hZ (ww 40 rfl)) (mvT hZ (ww 41 rfl)) (by decide) (backOfW (W := 0) (rm_valid1 l Z av0 hw [] b70 t_79 (fun i => (gg16 i).toInt8.toInt32) zc fm T79.heap n0 (Nat.le_trans Z0 K79.1) F86 FP79_1 FP79_0 FP79_2 F80 F81 hz hr_fm (own_okB ok16)) hZ (ww 41 rfl) (ww 40 rfl) (by decide) (by decide)) (g := (mkF m 484 #[.val (.long q0), .second, .val (.long q1), .second, .val (.long q2), .second, iv p3, rv b1, rv b6, rv b17, rv b37, iv v68, rv b70, .unset] [(.ref b70)])) rfl (by rw [hml]; rfl) (argsL := [(.ref b70)]) (rest := []) (lenOf own_pd9 rfl) rfl (by show 2 * 0 + _ ≤ _; exact Nat.le_of_eq rfl) (hb hby at_484) (fun _ _ => ⟨rfl, rfl, (by decide : 6 + 2 ≤ _), (by decide : 43 + 12 ≤ _)⟩)
      dsimp only [Pt.U, Pt.locs, Pt.cells, Pt.slots] at X87 l87 y87 z87 st87 hQ87 hS87 gr87
      subst l87 y87 z87
      obtain ⟨rfl, N87q, Kq87⟩ := hQ87
      have N87 := Fr.app N79 N87q
      have K87 : Keep h0 T87.heap [] := K79.trans Kq87 all0
      have F88 : Sta Z T87.heap "java/lang/String" "COMPACT_STRINGS" "Z" (.int zc) := ownStaKeep F80 Kq87 all0
      have F89 : Sta Z T87.heap "jdk/internal/util/Preconditions" "SIOOBE_FORMATTER" "Ljava/util/function/BiFunction;" fm := ownStaKeep F81 Kq87 all0
      have F90 : ownAI Z T87.heap b1 .char 32 gq32 := F82.keep Kq87 nin0
      have F91 : ownAI Z T87.heap b6 .char 1 gg16 := F83.keep Kq87 nin0
      have F92 : ownAI Z T87.heap b17 .char 2 gg36 := F84.keep Kq87 nin0
      have F93 : ownAI Z T87.heap b37 .char 3 gg67 := F85.keep Kq87 nin0
      have F94 : Exa Z T87.heap b70 "java/lang/String" := F86.keep Kq87
      have F95 : Fld Z T87.heap b70 "java/lang/String" "coder" "B" (.int (0 : Int32)) := FP79_0.keep Kq87 nin0
      have F96 : Fld Z T87.heap b70 "java/lang/String" "value" "[B" (.ref t_79) := FP79_1.keep Kq87 nin0
      have F97 : ownAI Z T87.heap t_79 .byte 1 (fun i => (gg16 i).toInt8.toInt32) := FP79_2.keep Kq87 nin0
      refine ownRunW (T' := T87) (f' := (mkF m 487 #[.val (.long q0), .second, .val (.long q1), .second, .val (.long q2), .second, iv p3, rv b1, rv b6, rv b17, rv b37, iv v68, rv b70, .unset] [(.ref b70)])) st87 ?_
      refine ownRebaseW hZ hown hS87 X87 ?_
      intro s X87 hZ hown
      refine ow_astoreW (q := 489) X87 hx (L' := #[.val (.long q0), .second, .val (.long q1), .second, .val (.long q2), .second, iv p3, rv b1, rv b6, rv b17, rv b37, iv v68, rv b70, rv b70]) (hb hby at_487) rfl rfl rfl ?_
      refine ow_aloadW (q := 491) X87 hx (hb hby at_489) rfl rfl rfl ?_
      refine ow_aloadW (q := 493) X87 hx (hb hby at_491) rfl rfl rfl ?_
      refine ownGoW (T' := T87) (f' := (mkF m 496 #[.val (.long q0), .second, .val (.long q1), .second, .val (.long q2), .second, iv p3, rv b1, rv b6, rv b17, rv b37, iv v68, rv b70, rv b70] [])) (fun _ k => Jvm.RoadKit.acmp (g := (mkF m 493 #[.val (.long q0), .second, .val (.long q1), .second, .val (.long q2), .second, iv p3, rv b1, rv b6, rv b17, rv b37, iv v68, rv b70, rv b70] [(.ref b70), (.ref b70)])) X87 hx rfl rfl rfl (pc0 := 493) (pc' := 496) (same := true) rfl (hb hby at_493) rfl (decide_eq_true rfl) (by decide) (by decide) k) ?_
      refine ow_iconstW (q := 497) X87 hx (1 : Int32) (hb hby at_496) rfl rfl ?_
      refine ow_gotoW (q := 501) X87 hx (hb hby at_497) (by decide) (by decide) ?_
      refine ownRetNW X87 hx (r := (1 : Int32)) (Or.inl rfl) Bd.returns (hb hby at_501) hlk (by decide) (by decide) (by decide) ?_
      refine ⟨?_, Nat.le_refl _⟩
      exact ⟨rfl, N87⟩
    · refine ow_ifYesW (q := 431) X61 hx (hb hby at_414) (Jvm.Free.XT.i0_ne_t hc414_69) (by decide) (by decide) ?_
      refine ow_iloadW (q := 433) X61 hx (hb hby at_431) rfl rfl ?_
      refine ow_iconstW (q := 434) X61 hx (1 : Int32) (hb hby at_433) rfl rfl ?_
      by_cases hc434_98 : v68 = (1 : Int32)
      · refine ow_icmpNoW (q := 437) X61 hx (hb hby at_434) rfl (Jvm.Free.XT.ii_ne_f hc434_98) ?_
        obtain ⟨T99, h99, X99, e99, E99, A99, D99, -, st99⟩ := newO X61 hx hZ hown (ww 9 rfl) (ww 10 rfl) (ww 11 rfl) e61 (g := (mkF m 437 #[.val (.long q0), .second, .val (.long q1), .second, .val (.long q2), .second, iv p3, rv b1, rv b6, rv b17, rv b37, iv v68, .unset, .unset] [])) rfl (hb hby at_437) (by decide) (by decide)
        obtain ⟨b99, g99⟩ : ∃ z, z = h61.size := ⟨_, rfl⟩
        rw [← g99] at A99 D99 st99
        have ne_b1_b99 : b1 ≠ b99 := Nat.ne_of_lt (Nat.lt_of_lt_of_le F64.lt (Nat.le_of_eq g99.symm))
        have ne_b6_b99 : b6 ≠ b99 := Nat.ne_of_lt (Nat.lt_of_lt_of_le F65.lt (Nat.le_of_eq g99.symm))
        have ne_b17_b99 : b17 ≠ b99 := Nat.ne_of_lt (Nat.lt_of_lt_of_le F66.lt (Nat.le_of_eq g99.symm))
        have ne_b37_b99 : b37 ≠ b99 := Nat.ne_of_lt (Nat.lt_of_lt_of_le FA67.lt (Nat.le_of_eq g99.symm))
        have sz_b99 : h0.size ≤ b99 := Nat.le_trans K61.1 (Nat.le_of_eq g99.symm)
        have G_b99 : n0 ≤ b99 := Nat.le_trans Z0 sz_b99
        have K99 : Keep h0 h99 [] := K61.ext E99
        have F100 : Sta Z h99 "java/lang/String" "COMPACT_STRINGS" "Z" (.int zc) := F62.ext E99
        have F101 : Sta Z h99 "jdk/internal/util/Preconditions" "SIOOBE_FORMATTER" "Ljava/util/function/BiFunction;" fm := F63.ext E99
        have F102 : ownAI Z h99 b1 .char 32 gq32 := F64.ext E99
        have F103 : ownAI Z h99 b6 .char 1 gg16 := F65.ext E99
        have F104 : ownAI Z h99 b17 .char 2 gg36 := F66.ext E99
        have F105 : ownAI Z h99 b37 .char 3 gg67 := FA67.ext E99
        have F106 : Fld Z h99 b99 "java/lang/String" "coder" "B" (.int (0 : Int32)) := D99 (Or.inr (ww 35 rfl)) (ty := .byte) (by decide)
        have F107 : Fld Z h99 b99 "java/lang/String" "value" "[B" .null := D99 (Or.inr (ww 37 rfl)) (ty := (.array .byte)) (by decide)
        refine ownGoW (T' := T99) (f' := (mkF m 440 #[.val (.long q0), .second, .val (.long q1), .second, .val (.long q2), .second, iv p3, rv b1, rv b6, rv b17, rv b37, iv v68, .unset, .unset] [(.ref b99)])) (st99) ?_
        refine ow_dupW (q := 441) X99 hx (hb hby at_440) rfl rfl ?_
        refine ow_aloadW (q := 443) X99 hx (hb hby at_441) rfl rfl rfl ?_
        obtain ⟨_, _, ⟨T108, L108, k108, n108⟩, -, X108, ⟨Lc108, hQ108, l108, y108, z108⟩, st108⟩ := X99.specialBack hx (y := (⟨"java/lang/String", "<init>", "([C)V"⟩ : MethodName)) rfl hown (mvT hZ (ww 12 rfl)) (mvT hZ (ww 13 rfl)) (mvT hZ (ww 14 rfl)) (by decide) (ownStr (W := 1) (n0 := n0) hZ (fun d hd => hw d (own_strW d hd)) (ww 10 rfl) (Nat.le_trans Z0 K99.1) A99 F107 F106 F104 F100 G_b99 hz (own_okR ok36) (by decide) (by decide) (by decide) (by decide)) (g := (mkF m 443 #[.val (.long q0), .second, .val (.long q1), .second, .val (.long q2), .second, iv p3, rv b1, rv b6, rv b17, rv b37, iv v68, .unset, .unset] [(.ref b17), (.ref b99), (.ref b99)])) rfl (by rw [hml]; rfl) (Steps.refl _) (a := b99) (argsL := [(.ref b17)]) (rest := [(.ref b99)]) (lenOf own_pd8 rfl) rfl (by show 2 * 0 + _ ≤ _; exact Nat.le_of_eq rfl) (hb hby at_443) (fun _ _ => ⟨rfl, e99, (by decide : 5 + 1 ≤ _), (by decide : 42 + 2 ≤ _)⟩)
        dsimp only [Pt.U, Pt.locs, Pt.cells, Pt.slots] at X108 l108 y108 z108 st108 hQ108
        subst l108 y108 z108
        obtain ⟨t_108, rfl, N108q, Kq108, sq108_t_108, FP108_0, FP108_1, FP108_2⟩ := hQ108
        have N108 := Fr.app N61 N108q
        have K108 : Keep h0 T108.heap [] := K99.trans Kq108 (allS (Or.inr sz_b99) all0)
        have ne_b1_t_108 : b1 ≠ t_108 := Nat.ne_of_lt (Nat.lt_of_lt_of_le F102.lt sq108_t_108)
        have ne_b6_t_108 : b6 ≠ t_108 := Nat.ne_of_lt (Nat.lt_of_lt_of_le F103.lt sq108_t_108)
        have ne_b17_t_108 : b17 ≠ t_108 := Nat.ne_of_lt (Nat.lt_of_lt_of_le F104.lt sq108_t_108)
        have ne_b37_t_108 : b37 ≠ t_108 := Nat.ne_of_lt (Nat.lt_of_lt_of_le F105.lt sq108_t_108)
        have ne_b99_t_108 : b99 ≠ t_108 := Nat.ne_of_lt (Nat.lt_of_lt_of_le A99.lt sq108_t_108)
        have sz_t_108 : h0.size ≤ t_108 := Nat.le_trans K99.1 sq108_t_108
        have G_t_108 : n0 ≤ t_108 := Nat.le_trans Z0 sz_t_108
        have F109 : Sta Z T108.heap "java/lang/String" "COMPACT_STRINGS" "Z" (.int zc) := ownStaKeep F100 Kq108 (allS (ownNstE A99) all0)
        have F110 : Sta Z T108.heap "jdk/internal/util/Preconditions" "SIOOBE_FORMATTER" "Ljava/util/function/BiFunction;" fm := ownStaKeep F101 Kq108 (allS (ownNstE A99) all0)
        have F111 : ownAI Z T108.heap b1 .char 32 gq32 := F102.keep Kq108 (ninS ne_b1_b99 nin0)
        have F112 : ownAI Z T108.heap b6 .char 1 gg16 := F103.keep Kq108 (ninS ne_b6_b99 nin0)
        have F113 : ownAI Z T108.heap b17 .char 2 gg36 := F104.keep Kq108 (ninS ne_b17_b99 nin0)
        have F114 : ownAI Z T108.heap b37 .char 3 gg67 := F105.keep Kq108 (ninS ne_b37_b99 nin0)
        have F115 : Exa Z T108.heap b99 "java/lang/String" := A99.keep Kq108
        refine ownRunW (T' := T108) (f' := (mkF m 446 #[.val (.long q0), .second, .val (.long q1), .second, .val (.long q2), .second, iv p3, rv b1, rv b6, rv b17, rv b37, iv v68, .unset, .unset] [(.ref b99)])) st108 ?_
        refine ow_astoreW (q := 448) X108 hx (L' := #[.val (.long q0), .second, .val (.long q1), .second, .val (.long q2), .second, iv p3, rv b1, rv b6, rv b17, rv b37, iv v68, rv b99, .unset]) (hb hby at_446) rfl rfl rfl ?_
        refine ow_gotoW (q := 482) X108 hx (hb hby at_448) (by decide) (by decide) ?_
        refine ow_aloadW (q := 484) X108 hx (hb hby at_482) rfl rfl rfl ?_
        obtain ⟨_, _, ⟨T116, L116, k116, n116⟩, -, X116, hS116, gr116, ⟨Lc116, hQ116, l116, y116, z116⟩, st116⟩ := callSW X108 hx (y := (⟨"com/example/un1son/un1son/Candidate", "requireValidId", "(Ljava/lang/String;)Ljava/lang/String;"⟩ : MethodName)) hown (mvT hZ (ww 38 rfl)) (mvT hZ (ww 39 rfl)) (mvT hZ (ww 40 rfl)) (mvT hZ (ww 41 rfl)) (by decide) (backOfW (W := 0) (rm_valid2 l Z av0 hw [] b99 t_108 (fun i => (gg36 i).toInt8.toInt32) zc fm T108.heap n0 (Nat.le_trans Z0 K108.1) F115 FP108_1 FP108_0 FP108_2 F109 F110 hz hr_fm (own_okB ok36)) hZ (ww 41 rfl) (ww 40 rfl) (by decide) (by decide)) (g := (mkF m 484 #[.val (.long q0), .second, .val (.long q1), .second, .val (.long q2), .second, iv p3, rv b1, rv b6, rv b17, rv b37, iv v68, rv b99, .unset] [(.ref b99)])) rfl (by rw [hml]; rfl) (argsL := [(.ref b99)]) (rest := []) (lenOf own_pd9 rfl) rfl (by show 2 * 0 + _ ≤ _; exact Nat.le_of_eq rfl) (hb hby at_484) (fun _ _ => ⟨rfl, rfl, (by decide : 6 + 2 ≤ _), (by decide : 44 + 12 ≤ _)⟩)
        dsimp only [Pt.U, Pt.locs, Pt.cells, Pt.slots] at X116 l116 y116 z116 st116 hQ116 hS116 gr116
        subst l116 y116 z116
        obtain ⟨rfl, N116q, Kq116⟩ := hQ116
        have N116 := Fr.app N108 N116q
        have K116 : Keep h0 T116.heap [] := K108.trans Kq116 all0
        have F117 : Sta Z T116.heap "java/lang/String" "COMPACT_STRINGS" "Z" (.int zc) := ownStaKeep F109 Kq116 all0
        have F118 : Sta Z T116.heap "jdk/internal/util/Preconditions" "SIOOBE_FORMATTER" "Ljava/util/function/BiFunction;" fm := ownStaKeep F110 Kq116 all0
        have F119 : ownAI Z T116.heap b1 .char 32 gq32 := F111.keep Kq116 nin0
        have F120 : ownAI Z T116.heap b6 .char 1 gg16 := F112.keep Kq116 nin0
        have F121 : ownAI Z T116.heap b17 .char 2 gg36 := F113.keep Kq116 nin0
        have F122 : ownAI Z T116.heap b37 .char 3 gg67 := F114.keep Kq116 nin0
        have F123 : Exa Z T116.heap b99 "java/lang/String" := F115.keep Kq116
        have F124 : Fld Z T116.heap b99 "java/lang/String" "coder" "B" (.int (0 : Int32)) := FP108_0.keep Kq116 nin0
        have F125 : Fld Z T116.heap b99 "java/lang/String" "value" "[B" (.ref t_108) := FP108_1.keep Kq116 nin0
        have F126 : ownAI Z T116.heap t_108 .byte 2 (fun i => (gg36 i).toInt8.toInt32) := FP108_2.keep Kq116 nin0
        refine ownRunW (T' := T116) (f' := (mkF m 487 #[.val (.long q0), .second, .val (.long q1), .second, .val (.long q2), .second, iv p3, rv b1, rv b6, rv b17, rv b37, iv v68, rv b99, .unset] [(.ref b99)])) st116 ?_
        refine ownRebaseW hZ hown hS116 X116 ?_
        intro s X116 hZ hown
        refine ow_astoreW (q := 489) X116 hx (L' := #[.val (.long q0), .second, .val (.long q1), .second, .val (.long q2), .second, iv p3, rv b1, rv b6, rv b17, rv b37, iv v68, rv b99, rv b99]) (hb hby at_487) rfl rfl rfl ?_
        refine ow_aloadW (q := 491) X116 hx (hb hby at_489) rfl rfl rfl ?_
        refine ow_aloadW (q := 493) X116 hx (hb hby at_491) rfl rfl rfl ?_
        refine ownGoW (T' := T116) (f' := (mkF m 496 #[.val (.long q0), .second, .val (.long q1), .second, .val (.long q2), .second, iv p3, rv b1, rv b6, rv b17, rv b37, iv v68, rv b99, rv b99] [])) (fun _ k => Jvm.RoadKit.acmp (g := (mkF m 493 #[.val (.long q0), .second, .val (.long q1), .second, .val (.long q2), .second, iv p3, rv b1, rv b6, rv b17, rv b37, iv v68, rv b99, rv b99] [(.ref b99), (.ref b99)])) X116 hx rfl rfl rfl (pc0 := 493) (pc' := 496) (same := true) rfl (hb hby at_493) rfl (decide_eq_true rfl) (by decide) (by decide) k) ?_
        refine ow_iconstW (q := 497) X116 hx (1 : Int32) (hb hby at_496) rfl rfl ?_
        refine ow_gotoW (q := 501) X116 hx (hb hby at_497) (by decide) (by decide) ?_
        refine ownRetNW X116 hx (r := (1 : Int32)) (Or.inl rfl) Bd.returns (hb hby at_501) hlk (by decide) (by decide) (by decide) ?_
        refine ⟨?_, Nat.le_refl _⟩
        exact ⟨rfl, N116⟩
      · refine ow_icmpYesW (q := 451) X61 hx (hb hby at_434) (Jvm.Free.XT.ii_ne_t hc434_98) (by decide) (by decide) ?_
        refine ow_iloadW (q := 453) X61 hx (hb hby at_451) rfl rfl ?_
        refine ow_iconstW (q := 454) X61 hx (2 : Int32) (hb hby at_453) rfl rfl ?_
        by_cases hc454_127 : v68 = (2 : Int32)
        · refine ow_icmpNoW (q := 457) X61 hx (hb hby at_454) rfl (Jvm.Free.XT.ii_ne_f hc454_127) ?_
          obtain ⟨T128, h128, X128, e128, E128, A128, D128, -, st128⟩ := newO X61 hx hZ hown (ww 9 rfl) (ww 10 rfl) (ww 11 rfl) e61 (g := (mkF m 457 #[.val (.long q0), .second, .val (.long q1), .second, .val (.long q2), .second, iv p3, rv b1, rv b6, rv b17, rv b37, iv v68, .unset, .unset] [])) rfl (hb hby at_457) (by decide) (by decide)
          obtain ⟨b128, g128⟩ : ∃ z, z = h61.size := ⟨_, rfl⟩
          rw [← g128] at A128 D128 st128
          have ne_b1_b128 : b1 ≠ b128 := Nat.ne_of_lt (Nat.lt_of_lt_of_le F64.lt (Nat.le_of_eq g128.symm))
          have ne_b6_b128 : b6 ≠ b128 := Nat.ne_of_lt (Nat.lt_of_lt_of_le F65.lt (Nat.le_of_eq g128.symm))
          have ne_b17_b128 : b17 ≠ b128 := Nat.ne_of_lt (Nat.lt_of_lt_of_le F66.lt (Nat.le_of_eq g128.symm))
          have ne_b37_b128 : b37 ≠ b128 := Nat.ne_of_lt (Nat.lt_of_lt_of_le FA67.lt (Nat.le_of_eq g128.symm))
          have sz_b128 : h0.size ≤ b128 := Nat.le_trans K61.1 (Nat.le_of_eq g128.symm)
          have G_b128 : n0 ≤ b128 := Nat.le_trans Z0 sz_b128
          have K128 : Keep h0 h128 [] := K61.ext E128
          have F129 : Sta Z h128 "java/lang/String" "COMPACT_STRINGS" "Z" (.int zc) := F62.ext E128
          have F130 : Sta Z h128 "jdk/internal/util/Preconditions" "SIOOBE_FORMATTER" "Ljava/util/function/BiFunction;" fm := F63.ext E128
          have F131 : ownAI Z h128 b1 .char 32 gq32 := F64.ext E128
          have F132 : ownAI Z h128 b6 .char 1 gg16 := F65.ext E128
          have F133 : ownAI Z h128 b17 .char 2 gg36 := F66.ext E128
          have F134 : ownAI Z h128 b37 .char 3 gg67 := FA67.ext E128
          have F135 : Fld Z h128 b128 "java/lang/String" "coder" "B" (.int (0 : Int32)) := D128 (Or.inr (ww 35 rfl)) (ty := .byte) (by decide)
          have F136 : Fld Z h128 b128 "java/lang/String" "value" "[B" .null := D128 (Or.inr (ww 37 rfl)) (ty := (.array .byte)) (by decide)
          refine ownGoW (T' := T128) (f' := (mkF m 460 #[.val (.long q0), .second, .val (.long q1), .second, .val (.long q2), .second, iv p3, rv b1, rv b6, rv b17, rv b37, iv v68, .unset, .unset] [(.ref b128)])) (st128) ?_
          refine ow_dupW (q := 461) X128 hx (hb hby at_460) rfl rfl ?_
          refine ow_aloadW (q := 463) X128 hx (hb hby at_461) rfl rfl rfl ?_
          obtain ⟨_, _, ⟨T137, L137, k137, n137⟩, -, X137, ⟨Lc137, hQ137, l137, y137, z137⟩, st137⟩ := X128.specialBack hx (y := (⟨"java/lang/String", "<init>", "([C)V"⟩ : MethodName)) rfl hown (mvT hZ (ww 12 rfl)) (mvT hZ (ww 13 rfl)) (mvT hZ (ww 14 rfl)) (by decide) (ownStr (W := 1) (n0 := n0) hZ (fun d hd => hw d (own_strW d hd)) (ww 10 rfl) (Nat.le_trans Z0 K128.1) A128 F136 F135 F134 F129 G_b128 hz (own_okR ok67) (by decide) (by decide) (by decide) (by decide)) (g := (mkF m 463 #[.val (.long q0), .second, .val (.long q1), .second, .val (.long q2), .second, iv p3, rv b1, rv b6, rv b17, rv b37, iv v68, .unset, .unset] [(.ref b37), (.ref b128), (.ref b128)])) rfl (by rw [hml]; rfl) (Steps.refl _) (a := b128) (argsL := [(.ref b37)]) (rest := [(.ref b128)]) (lenOf own_pd8 rfl) rfl (by show 2 * 0 + _ ≤ _; exact Nat.le_of_eq rfl) (hb hby at_463) (fun _ _ => ⟨rfl, e128, (by decide : 5 + 1 ≤ _), (by decide : 42 + 3 ≤ _)⟩)
          dsimp only [Pt.U, Pt.locs, Pt.cells, Pt.slots] at X137 l137 y137 z137 st137 hQ137
          subst l137 y137 z137
          obtain ⟨t_137, rfl, N137q, Kq137, sq137_t_137, FP137_0, FP137_1, FP137_2⟩ := hQ137
          have N137 := Fr.app N61 N137q
          have K137 : Keep h0 T137.heap [] := K128.trans Kq137 (allS (Or.inr sz_b128) all0)
          have ne_b1_t_137 : b1 ≠ t_137 := Nat.ne_of_lt (Nat.lt_of_lt_of_le F131.lt sq137_t_137)
          have ne_b6_t_137 : b6 ≠ t_137 := Nat.ne_of_lt (Nat.lt_of_lt_of_le F132.lt sq137_t_137)
          have ne_b17_t_137 : b17 ≠ t_137 := Nat.ne_of_lt (Nat.lt_of_lt_of_le F133.lt sq137_t_137)
          have ne_b37_t_137 : b37 ≠ t_137 := Nat.ne_of_lt (Nat.lt_of_lt_of_le F134.lt sq137_t_137)
          have ne_b128_t_137 : b128 ≠ t_137 := Nat.ne_of_lt (Nat.lt_of_lt_of_le A128.lt sq137_t_137)
          have sz_t_137 : h0.size ≤ t_137 := Nat.le_trans K128.1 sq137_t_137
          have G_t_137 : n0 ≤ t_137 := Nat.le_trans Z0 sz_t_137
          have F138 : Sta Z T137.heap "java/lang/String" "COMPACT_STRINGS" "Z" (.int zc) := ownStaKeep F129 Kq137 (allS (ownNstE A128) all0)
          have F139 : Sta Z T137.heap "jdk/internal/util/Preconditions" "SIOOBE_FORMATTER" "Ljava/util/function/BiFunction;" fm := ownStaKeep F130 Kq137 (allS (ownNstE A128) all0)
          have F140 : ownAI Z T137.heap b1 .char 32 gq32 := F131.keep Kq137 (ninS ne_b1_b128 nin0)
          have F141 : ownAI Z T137.heap b6 .char 1 gg16 := F132.keep Kq137 (ninS ne_b6_b128 nin0)
          have F142 : ownAI Z T137.heap b17 .char 2 gg36 := F133.keep Kq137 (ninS ne_b17_b128 nin0)
          have F143 : ownAI Z T137.heap b37 .char 3 gg67 := F134.keep Kq137 (ninS ne_b37_b128 nin0)
          have F144 : Exa Z T137.heap b128 "java/lang/String" := A128.keep Kq137
          refine ownRunW (T' := T137) (f' := (mkF m 466 #[.val (.long q0), .second, .val (.long q1), .second, .val (.long q2), .second, iv p3, rv b1, rv b6, rv b17, rv b37, iv v68, .unset, .unset] [(.ref b128)])) st137 ?_
          refine ow_astoreW (q := 468) X137 hx (L' := #[.val (.long q0), .second, .val (.long q1), .second, .val (.long q2), .second, iv p3, rv b1, rv b6, rv b17, rv b37, iv v68, rv b128, .unset]) (hb hby at_466) rfl rfl rfl ?_
          refine ow_gotoW (q := 482) X137 hx (hb hby at_468) (by decide) (by decide) ?_
          refine ow_aloadW (q := 484) X137 hx (hb hby at_482) rfl rfl rfl ?_
          obtain ⟨_, _, ⟨T145, L145, k145, n145⟩, -, X145, hS145, gr145, ⟨Lc145, hQ145, l145, y145, z145⟩, st145⟩ := callSW X137 hx (y := (⟨"com/example/un1son/un1son/Candidate", "requireValidId", "(Ljava/lang/String;)Ljava/lang/String;"⟩ : MethodName)) hown (mvT hZ (ww 38 rfl)) (mvT hZ (ww 39 rfl)) (mvT hZ (ww 40 rfl)) (mvT hZ (ww 41 rfl)) (by decide) (backOfW (W := 0) (rm_valid3 l Z av0 hw [] b128 t_137 (fun i => (gg67 i).toInt8.toInt32) zc fm T137.heap n0 (Nat.le_trans Z0 K137.1) F144 FP137_1 FP137_0 FP137_2 F138 F139 hz hr_fm (own_okB ok67)) hZ (ww 41 rfl) (ww 40 rfl) (by decide) (by decide)) (g := (mkF m 484 #[.val (.long q0), .second, .val (.long q1), .second, .val (.long q2), .second, iv p3, rv b1, rv b6, rv b17, rv b37, iv v68, rv b128, .unset] [(.ref b128)])) rfl (by rw [hml]; rfl) (argsL := [(.ref b128)]) (rest := []) (lenOf own_pd9 rfl) rfl (by show 2 * 0 + _ ≤ _; exact Nat.le_of_eq rfl) (hb hby at_484) (fun _ _ => ⟨rfl, rfl, (by decide : 6 + 2 ≤ _), (by decide : 45 + 12 ≤ _)⟩)
          dsimp only [Pt.U, Pt.locs, Pt.cells, Pt.slots] at X145 l145 y145 z145 st145 hQ145 hS145 gr145
          subst l145 y145 z145
          obtain ⟨rfl, N145q, Kq145⟩ := hQ145
          have N145 := Fr.app N137 N145q
          have K145 : Keep h0 T145.heap [] := K137.trans Kq145 all0
          have F146 : Sta Z T145.heap "java/lang/String" "COMPACT_STRINGS" "Z" (.int zc) := ownStaKeep F138 Kq145 all0
          have F147 : Sta Z T145.heap "jdk/internal/util/Preconditions" "SIOOBE_FORMATTER" "Ljava/util/function/BiFunction;" fm := ownStaKeep F139 Kq145 all0
          have F148 : ownAI Z T145.heap b1 .char 32 gq32 := F140.keep Kq145 nin0
          have F149 : ownAI Z T145.heap b6 .char 1 gg16 := F141.keep Kq145 nin0
          have F150 : ownAI Z T145.heap b17 .char 2 gg36 := F142.keep Kq145 nin0
          have F151 : ownAI Z T145.heap b37 .char 3 gg67 := F143.keep Kq145 nin0
          have F152 : Exa Z T145.heap b128 "java/lang/String" := F144.keep Kq145
          have F153 : Fld Z T145.heap b128 "java/lang/String" "coder" "B" (.int (0 : Int32)) := FP137_0.keep Kq145 nin0
          have F154 : Fld Z T145.heap b128 "java/lang/String" "value" "[B" (.ref t_137) := FP137_1.keep Kq145 nin0
          have F155 : ownAI Z T145.heap t_137 .byte 3 (fun i => (gg67 i).toInt8.toInt32) := FP137_2.keep Kq145 nin0
          refine ownRunW (T' := T145) (f' := (mkF m 487 #[.val (.long q0), .second, .val (.long q1), .second, .val (.long q2), .second, iv p3, rv b1, rv b6, rv b17, rv b37, iv v68, rv b128, .unset] [(.ref b128)])) st145 ?_
          refine ownRebaseW hZ hown hS145 X145 ?_
          intro s X145 hZ hown
          refine ow_astoreW (q := 489) X145 hx (L' := #[.val (.long q0), .second, .val (.long q1), .second, .val (.long q2), .second, iv p3, rv b1, rv b6, rv b17, rv b37, iv v68, rv b128, rv b128]) (hb hby at_487) rfl rfl rfl ?_
          refine ow_aloadW (q := 491) X145 hx (hb hby at_489) rfl rfl rfl ?_
          refine ow_aloadW (q := 493) X145 hx (hb hby at_491) rfl rfl rfl ?_
          refine ownGoW (T' := T145) (f' := (mkF m 496 #[.val (.long q0), .second, .val (.long q1), .second, .val (.long q2), .second, iv p3, rv b1, rv b6, rv b17, rv b37, iv v68, rv b128, rv b128] [])) (fun _ k => Jvm.RoadKit.acmp (g := (mkF m 493 #[.val (.long q0), .second, .val (.long q1), .second, .val (.long q2), .second, iv p3, rv b1, rv b6, rv b17, rv b37, iv v68, rv b128, rv b128] [(.ref b128), (.ref b128)])) X145 hx rfl rfl rfl (pc0 := 493) (pc' := 496) (same := true) rfl (hb hby at_493) rfl (decide_eq_true rfl) (by decide) (by decide) k) ?_
          refine ow_iconstW (q := 497) X145 hx (1 : Int32) (hb hby at_496) rfl rfl ?_
          refine ow_gotoW (q := 501) X145 hx (hb hby at_497) (by decide) (by decide) ?_
          refine ownRetNW X145 hx (r := (1 : Int32)) (Or.inl rfl) Bd.returns (hb hby at_501) hlk (by decide) (by decide) (by decide) ?_
          refine ⟨?_, Nat.le_refl _⟩
          exact ⟨rfl, N145⟩
        · refine ow_icmpYesW (q := 471) X61 hx (hb hby at_454) (Jvm.Free.XT.ii_ne_t hc454_127) (by decide) (by decide) ?_
          obtain ⟨T156, h156, X156, e156, E156, A156, D156, -, st156⟩ := newO X61 hx hZ hown (ww 9 rfl) (ww 10 rfl) (ww 11 rfl) e61 (g := (mkF m 471 #[.val (.long q0), .second, .val (.long q1), .second, .val (.long q2), .second, iv p3, rv b1, rv b6, rv b17, rv b37, iv v68, .unset, .unset] [])) rfl (hb hby at_471) (by decide) (by decide)
          obtain ⟨b156, g156⟩ : ∃ z, z = h61.size := ⟨_, rfl⟩
          rw [← g156] at A156 D156 st156
          have ne_b1_b156 : b1 ≠ b156 := Nat.ne_of_lt (Nat.lt_of_lt_of_le F64.lt (Nat.le_of_eq g156.symm))
          have ne_b6_b156 : b6 ≠ b156 := Nat.ne_of_lt (Nat.lt_of_lt_of_le F65.lt (Nat.le_of_eq g156.symm))
          have ne_b17_b156 : b17 ≠ b156 := Nat.ne_of_lt (Nat.lt_of_lt_of_le F66.lt (Nat.le_of_eq g156.symm))
          have ne_b37_b156 : b37 ≠ b156 := Nat.ne_of_lt (Nat.lt_of_lt_of_le FA67.lt (Nat.le_of_eq g156.symm))
          have sz_b156 : h0.size ≤ b156 := Nat.le_trans K61.1 (Nat.le_of_eq g156.symm)
          have G_b156 : n0 ≤ b156 := Nat.le_trans Z0 sz_b156
          have K156 : Keep h0 h156 [] := K61.ext E156
          have F157 : Sta Z h156 "java/lang/String" "COMPACT_STRINGS" "Z" (.int zc) := F62.ext E156
          have F158 : Sta Z h156 "jdk/internal/util/Preconditions" "SIOOBE_FORMATTER" "Ljava/util/function/BiFunction;" fm := F63.ext E156
          have F159 : ownAI Z h156 b1 .char 32 gq32 := F64.ext E156
          have F160 : ownAI Z h156 b6 .char 1 gg16 := F65.ext E156
          have F161 : ownAI Z h156 b17 .char 2 gg36 := F66.ext E156
          have F162 : ownAI Z h156 b37 .char 3 gg67 := FA67.ext E156
          have F163 : Fld Z h156 b156 "java/lang/String" "coder" "B" (.int (0 : Int32)) := D156 (Or.inr (ww 35 rfl)) (ty := .byte) (by decide)
          have F164 : Fld Z h156 b156 "java/lang/String" "value" "[B" .null := D156 (Or.inr (ww 37 rfl)) (ty := (.array .byte)) (by decide)
          refine ownGoW (T' := T156) (f' := (mkF m 474 #[.val (.long q0), .second, .val (.long q1), .second, .val (.long q2), .second, iv p3, rv b1, rv b6, rv b17, rv b37, iv v68, .unset, .unset] [(.ref b156)])) (st156) ?_
          refine ow_dupW (q := 475) X156 hx (hb hby at_474) rfl rfl ?_
          refine ow_aloadW (q := 477) X156 hx (hb hby at_475) rfl rfl rfl ?_
          obtain ⟨_, _, ⟨T165, L165, k165, n165⟩, -, X165, ⟨Lc165, hQ165, l165, y165, z165⟩, st165⟩ := X156.specialBack hx (y := (⟨"java/lang/String", "<init>", "([C)V"⟩ : MethodName)) rfl hown (mvT hZ (ww 12 rfl)) (mvT hZ (ww 13 rfl)) (mvT hZ (ww 14 rfl)) (by decide) (ownStr (W := 1) (n0 := n0) hZ (fun d hd => hw d (own_strW d hd)) (ww 10 rfl) (Nat.le_trans Z0 K156.1) A156 F164 F163 F159 F157 G_b156 hz (own_okR okq32) (by decide) (by decide) (by decide) (by decide)) (g := (mkF m 477 #[.val (.long q0), .second, .val (.long q1), .second, .val (.long q2), .second, iv p3, rv b1, rv b6, rv b17, rv b37, iv v68, .unset, .unset] [(.ref b1), (.ref b156), (.ref b156)])) rfl (by rw [hml]; rfl) (Steps.refl _) (a := b156) (argsL := [(.ref b1)]) (rest := [(.ref b156)]) (lenOf own_pd8 rfl) rfl (by show 2 * 0 + _ ≤ _; exact Nat.le_of_eq rfl) (hb hby at_477) (fun _ _ => ⟨rfl, e156, (by decide : 5 + 1 ≤ _), (by decide : 42 + 32 ≤ _)⟩)
          dsimp only [Pt.U, Pt.locs, Pt.cells, Pt.slots] at X165 l165 y165 z165 st165 hQ165
          subst l165 y165 z165
          obtain ⟨t_165, rfl, N165q, Kq165, sq165_t_165, FP165_0, FP165_1, FP165_2⟩ := hQ165
          have N165 := Fr.app N61 N165q
          have K165 : Keep h0 T165.heap [] := K156.trans Kq165 (allS (Or.inr sz_b156) all0)
          have ne_b1_t_165 : b1 ≠ t_165 := Nat.ne_of_lt (Nat.lt_of_lt_of_le F159.lt sq165_t_165)
          have ne_b6_t_165 : b6 ≠ t_165 := Nat.ne_of_lt (Nat.lt_of_lt_of_le F160.lt sq165_t_165)
          have ne_b17_t_165 : b17 ≠ t_165 := Nat.ne_of_lt (Nat.lt_of_lt_of_le F161.lt sq165_t_165)
          have ne_b37_t_165 : b37 ≠ t_165 := Nat.ne_of_lt (Nat.lt_of_lt_of_le F162.lt sq165_t_165)
          have ne_b156_t_165 : b156 ≠ t_165 := Nat.ne_of_lt (Nat.lt_of_lt_of_le A156.lt sq165_t_165)
          have sz_t_165 : h0.size ≤ t_165 := Nat.le_trans K156.1 sq165_t_165
          have G_t_165 : n0 ≤ t_165 := Nat.le_trans Z0 sz_t_165
          have F166 : Sta Z T165.heap "java/lang/String" "COMPACT_STRINGS" "Z" (.int zc) := ownStaKeep F157 Kq165 (allS (ownNstE A156) all0)
          have F167 : Sta Z T165.heap "jdk/internal/util/Preconditions" "SIOOBE_FORMATTER" "Ljava/util/function/BiFunction;" fm := ownStaKeep F158 Kq165 (allS (ownNstE A156) all0)
          have F168 : ownAI Z T165.heap b1 .char 32 gq32 := F159.keep Kq165 (ninS ne_b1_b156 nin0)
          have F169 : ownAI Z T165.heap b6 .char 1 gg16 := F160.keep Kq165 (ninS ne_b6_b156 nin0)
          have F170 : ownAI Z T165.heap b17 .char 2 gg36 := F161.keep Kq165 (ninS ne_b17_b156 nin0)
          have F171 : ownAI Z T165.heap b37 .char 3 gg67 := F162.keep Kq165 (ninS ne_b37_b156 nin0)
          have F172 : Exa Z T165.heap b156 "java/lang/String" := A156.keep Kq165
          refine ownRunW (T' := T165) (f' := (mkF m 480 #[.val (.long q0), .second, .val (.long q1), .second, .val (.long q2), .second, iv p3, rv b1, rv b6, rv b17, rv b37, iv v68, .unset, .unset] [(.ref b156)])) st165 ?_
          refine ow_astoreW (q := 482) X165 hx (L' := #[.val (.long q0), .second, .val (.long q1), .second, .val (.long q2), .second, iv p3, rv b1, rv b6, rv b17, rv b37, iv v68, rv b156, .unset]) (hb hby at_480) rfl rfl rfl ?_
          refine ow_aloadW (q := 484) X165 hx (hb hby at_482) rfl rfl rfl ?_
          obtain ⟨_, _, ⟨T173, L173, k173, n173⟩, -, X173, hS173, gr173, ⟨Lc173, hQ173, l173, y173, z173⟩, st173⟩ := callSW X165 hx (y := (⟨"com/example/un1son/un1son/Candidate", "requireValidId", "(Ljava/lang/String;)Ljava/lang/String;"⟩ : MethodName)) hown (mvT hZ (ww 38 rfl)) (mvT hZ (ww 39 rfl)) (mvT hZ (ww 40 rfl)) (mvT hZ (ww 41 rfl)) (by decide) (backOfW (W := 0) (rm_valid32 l Z av0 hw [] b156 t_165 (fun i => (gq32 i).toInt8.toInt32) zc fm T165.heap n0 (Nat.le_trans Z0 K165.1) F172 FP165_1 FP165_0 FP165_2 F166 F167 hz hr_fm (own_okB okq32)) hZ (ww 41 rfl) (ww 40 rfl) (by decide) (by decide)) (g := (mkF m 484 #[.val (.long q0), .second, .val (.long q1), .second, .val (.long q2), .second, iv p3, rv b1, rv b6, rv b17, rv b37, iv v68, rv b156, .unset] [(.ref b156)])) rfl (by rw [hml]; rfl) (argsL := [(.ref b156)]) (rest := []) (lenOf own_pd9 rfl) rfl (by show 2 * 0 + _ ≤ _; exact Nat.le_of_eq rfl) (hb hby at_484) (fun _ _ => ⟨rfl, rfl, (by decide : 6 + 2 ≤ _), (by decide : 74 + 12 ≤ _)⟩)
          dsimp only [Pt.U, Pt.locs, Pt.cells, Pt.slots] at X173 l173 y173 z173 st173 hQ173 hS173 gr173
          subst l173 y173 z173
          obtain ⟨rfl, N173q, Kq173⟩ := hQ173
          have N173 := Fr.app N165 N173q
          have K173 : Keep h0 T173.heap [] := K165.trans Kq173 all0
          have F174 : Sta Z T173.heap "java/lang/String" "COMPACT_STRINGS" "Z" (.int zc) := ownStaKeep F166 Kq173 all0
          have F175 : Sta Z T173.heap "jdk/internal/util/Preconditions" "SIOOBE_FORMATTER" "Ljava/util/function/BiFunction;" fm := ownStaKeep F167 Kq173 all0
          have F176 : ownAI Z T173.heap b1 .char 32 gq32 := F168.keep Kq173 nin0
          have F177 : ownAI Z T173.heap b6 .char 1 gg16 := F169.keep Kq173 nin0
          have F178 : ownAI Z T173.heap b17 .char 2 gg36 := F170.keep Kq173 nin0
          have F179 : ownAI Z T173.heap b37 .char 3 gg67 := F171.keep Kq173 nin0
          have F180 : Exa Z T173.heap b156 "java/lang/String" := F172.keep Kq173
          have F181 : Fld Z T173.heap b156 "java/lang/String" "coder" "B" (.int (0 : Int32)) := FP165_0.keep Kq173 nin0
          have F182 : Fld Z T173.heap b156 "java/lang/String" "value" "[B" (.ref t_165) := FP165_1.keep Kq173 nin0
          have F183 : ownAI Z T173.heap t_165 .byte 32 (fun i => (gq32 i).toInt8.toInt32) := FP165_2.keep Kq173 nin0
          refine ownRunW (T' := T173) (f' := (mkF m 487 #[.val (.long q0), .second, .val (.long q1), .second, .val (.long q2), .second, iv p3, rv b1, rv b6, rv b17, rv b37, iv v68, rv b156, .unset] [(.ref b156)])) st173 ?_
          refine ownRebaseW hZ hown hS173 X173 ?_
          intro s X173 hZ hown
          refine ow_astoreW (q := 489) X173 hx (L' := #[.val (.long q0), .second, .val (.long q1), .second, .val (.long q2), .second, iv p3, rv b1, rv b6, rv b17, rv b37, iv v68, rv b156, rv b156]) (hb hby at_487) rfl rfl rfl ?_
          refine ow_aloadW (q := 491) X173 hx (hb hby at_489) rfl rfl rfl ?_
          refine ow_aloadW (q := 493) X173 hx (hb hby at_491) rfl rfl rfl ?_
          refine ownGoW (T' := T173) (f' := (mkF m 496 #[.val (.long q0), .second, .val (.long q1), .second, .val (.long q2), .second, iv p3, rv b1, rv b6, rv b17, rv b37, iv v68, rv b156, rv b156] [])) (fun _ k => Jvm.RoadKit.acmp (g := (mkF m 493 #[.val (.long q0), .second, .val (.long q1), .second, .val (.long q2), .second, iv p3, rv b1, rv b6, rv b17, rv b37, iv v68, rv b156, rv b156] [(.ref b156), (.ref b156)])) X173 hx rfl rfl rfl (pc0 := 493) (pc' := 496) (same := true) rfl (hb hby at_493) rfl (decide_eq_true rfl) (by decide) (by decide) k) ?_
          refine ow_iconstW (q := 497) X173 hx (1 : Int32) (hb hby at_496) rfl rfl ?_
          refine ow_gotoW (q := 501) X173 hx (hb hby at_497) (by decide) (by decide) ?_
          refine ownRetNW X173 hx (r := (1 : Int32)) (Or.inl rfl) Bd.returns (hb hby at_501) hlk (by decide) (by decide) (by decide) ?_
          refine ⟨?_, Nat.le_refl _⟩
          exact ⟨rfl, N173⟩
  have cut298_184 : ∀ (gq28 : Nat → Int32) (Tc184 : State) (lc184 : List Loc) (hc184 : Heap), Stand p l e room_1 s m #[(.long q0), (.long q1), (.long q2), (.int p3)] below meth c Tc184 lc184 1 32 → Tc184.heap = hc184 → Fr n0 lc184 → Keep h0 hc184 [] → Sta Z hc184 "java/lang/String" "COMPACT_STRINGS" "Z" (.int zc) → Sta Z hc184 "jdk/internal/util/Preconditions" "SIOOBE_FORMATTER" "Ljava/util/function/BiFunction;" fm → ownAI Z hc184 b1 .char 32 gq28 → (∀ k, k < 28 → own_okb (gq28 k) = true) → ownEndsW p e below s (Q_law Z q0 q1 q2 p3 zc fm h0 n0) 24 1280 Tc184 (mkF m 298 #[.val (.long q0), .second, .val (.long q1), .second, .val (.long q2), .second, iv p3, rv b1, .unset, .unset, .unset, .unset, .unset, .unset] []) := by
    intro gq28 Tc184 lc184 hc184 Xc184 ec184 Nc184 Kc184 Fc184_0 Fc184_1 Fc184_2 okq28
    refine ow_aloadW (q := 300) Xc184 hx (hb hby at_298) rfl rfl rfl ?_
    refine ow_bipushW (q := 302) Xc184 hx (28 : Int32) (hb hby at_300) rfl rfl ?_
    refine ow_lloadW (q := 304) Xc184 hx (hb hby at_302) rfl rfl ?_
    refine ow_bipushW (q := 306) Xc184 hx (8 : Int32) (hb hby at_304) rfl rfl ?_
    obtain ⟨_, _, ⟨T185, L185, k185, n185⟩, -, X185, ⟨Lc185, hQ185, l185, y185, z185⟩, st185⟩ := Jvm.LawKit.callS Xc184 hx (y := (⟨"com/example/un1son/un1son/CandidateRequireValidIdPinLaw", "at", "(JI)C"⟩ : MethodName)) hown (mvT hZ (ww 1 rfl)) (mvT hZ (ww 2 rfl)) (mvT hZ (ww 3 rfl)) (mvT hZ (ww 4 rfl)) (by decide) (backOf (W := 2) (rm_at l Z av0 hw [] q2 (8 : Int32) hc184 n0 (Nat.le_trans Z0 Kc184.1) ) hZ (ww 4 rfl) (ww 3 rfl) (by decide) (by decide)) (g := (mkF m 306 #[.val (.long q0), .second, .val (.long q1), .second, .val (.long q2), .second, iv p3, rv b1, .unset, .unset, .unset, .unset, .unset, .unset] [(.int (8 : Int32)), (.long q2), (.int (28 : Int32)), (.ref b1)])) rfl (by rw [hml]; rfl) (argsL := [(.long q2), (.int (8 : Int32))]) (rest := [(.int (28 : Int32)), (.ref b1)]) (lenOf own_pd10 rfl) rfl (by show 2 * 0 + _ ≤ _; exact Nat.le_of_eq rfl) (hb hby at_306) (fun _ _ => ⟨rfl, ec184, (by decide : 1 + 0 ≤ _), (by decide : 32 + 0 ≤ _)⟩)
    dsimp only [Pt.U, Pt.locs, Pt.cells, Pt.slots] at X185 l185 y185 z185 st185 hQ185
    subst l185 y185 z185
    obtain ⟨r185, rfl, N185q, e185, hp185⟩ := hQ185
    have N185 := Fr.app Nc184 N185q
    refine ownGoW (T' := T185) (f' := (mkF m 309 #[.val (.long q0), .second, .val (.long q1), .second, .val (.long q2), .second, iv p3, rv b1, .unset, .unset, .unset, .unset, .unset, .unset] [(.int r185), (.int (28 : Int32)), (.ref b1)])) (st185) ?_
    obtain ⟨T186, h186, X186, e186, W186, F186s, st186⟩ := ownCastore Fc184_2 X185 hx hZ e185 (j := (28 : Int32)) (by unfold ownIn; decide) (g := (mkF m 309 #[.val (.long q0), .second, .val (.long q1), .second, .val (.long q2), .second, iv p3, rv b1, .unset, .unset, .unset, .unset, .unset, .unset] [(.int r185), (.int (28 : Int32)), (.ref b1)])) rfl rfl (hb hby at_309)
    rw [own_nar hp185] at F186s
    have F186r : ownAI Z h186 b1 .char 32 (ownUpd gq28 28 r185) := F186s
    have N186 := Fr.snoc X186 N185 G_b1
    have K186 : Keep h0 h186 [] := Kc184.wr W186 (Or.inr sz_b1)
    have F187 : Sta Z h186 "java/lang/String" "COMPACT_STRINGS" "Z" (.int zc) := Fc184_0.wr W186
    have F188 : Sta Z h186 "jdk/internal/util/Preconditions" "SIOOBE_FORMATTER" "Ljava/util/function/BiFunction;" fm := Fc184_1.wr W186
    refine ownGoW (T' := T186) (f' := (mkF m 310 #[.val (.long q0), .second, .val (.long q1), .second, .val (.long q2), .second, iv p3, rv b1, .unset, .unset, .unset, .unset, .unset, .unset] [])) (st186) ?_
    obtain ⟨gg189, FA189, ok189⟩ : ∃ gg, ownAI Z h186 b1 .char 32 gg ∧ ∀ k, k < 29 → own_okb (gg k) = true := ⟨_, F186r, own_okU (j := 28) hp185 okq28⟩
    refine ow_aloadW (q := 312) X186 hx (hb hby at_310) rfl rfl rfl ?_
    refine ow_bipushW (q := 314) X186 hx (29 : Int32) (hb hby at_312) rfl rfl ?_
    refine ow_lloadW (q := 316) X186 hx (hb hby at_314) rfl rfl ?_
    refine ow_bipushW (q := 318) X186 hx (9 : Int32) (hb hby at_316) rfl rfl ?_
    obtain ⟨_, _, ⟨T190, L190, k190, n190⟩, -, X190, ⟨Lc190, hQ190, l190, y190, z190⟩, st190⟩ := Jvm.LawKit.callS X186 hx (y := (⟨"com/example/un1son/un1son/CandidateRequireValidIdPinLaw", "at", "(JI)C"⟩ : MethodName)) hown (mvT hZ (ww 1 rfl)) (mvT hZ (ww 2 rfl)) (mvT hZ (ww 3 rfl)) (mvT hZ (ww 4 rfl)) (by decide) (backOf (W := 2) (rm_at l Z av0 hw [] q2 (9 : Int32) h186 n0 (Nat.le_trans Z0 K186.1) ) hZ (ww 4 rfl) (ww 3 rfl) (by decide) (by decide)) (g := (mkF m 318 #[.val (.long q0), .second, .val (.long q1), .second, .val (.long q2), .second, iv p3, rv b1, .unset, .unset, .unset, .unset, .unset, .unset] [(.int (9 : Int32)), (.long q2), (.int (29 : Int32)), (.ref b1)])) rfl (by rw [hml]; rfl) (argsL := [(.long q2), (.int (9 : Int32))]) (rest := [(.int (29 : Int32)), (.ref b1)]) (lenOf own_pd10 rfl) rfl (by show 2 * 0 + _ ≤ _; exact Nat.le_of_eq rfl) (hb hby at_318) (fun _ _ => ⟨rfl, e186, (by decide : 1 + 0 ≤ _), (by decide : 32 + 0 ≤ _)⟩)
    dsimp only [Pt.U, Pt.locs, Pt.cells, Pt.slots] at X190 l190 y190 z190 st190 hQ190
    subst l190 y190 z190
    obtain ⟨r190, rfl, N190q, e190, hp190⟩ := hQ190
    have N190 := Fr.app N186 N190q
    refine ownGoW (T' := T190) (f' := (mkF m 321 #[.val (.long q0), .second, .val (.long q1), .second, .val (.long q2), .second, iv p3, rv b1, .unset, .unset, .unset, .unset, .unset, .unset] [(.int r190), (.int (29 : Int32)), (.ref b1)])) (st190) ?_
    obtain ⟨T191, h191, X191, e191, W191, F191s, st191⟩ := ownCastore FA189 X190 hx hZ e190 (j := (29 : Int32)) (by unfold ownIn; decide) (g := (mkF m 321 #[.val (.long q0), .second, .val (.long q1), .second, .val (.long q2), .second, iv p3, rv b1, .unset, .unset, .unset, .unset, .unset, .unset] [(.int r190), (.int (29 : Int32)), (.ref b1)])) rfl rfl (hb hby at_321)
    rw [own_nar hp190] at F191s
    have F191r : ownAI Z h191 b1 .char 32 (ownUpd gg189 29 r190) := F191s
    have N191 := Fr.snoc X191 N190 G_b1
    have K191 : Keep h0 h191 [] := K186.wr W191 (Or.inr sz_b1)
    have F192 : Sta Z h191 "java/lang/String" "COMPACT_STRINGS" "Z" (.int zc) := F187.wr W191
    have F193 : Sta Z h191 "jdk/internal/util/Preconditions" "SIOOBE_FORMATTER" "Ljava/util/function/BiFunction;" fm := F188.wr W191
    refine ownGoW (T' := T191) (f' := (mkF m 322 #[.val (.long q0), .second, .val (.long q1), .second, .val (.long q2), .second, iv p3, rv b1, .unset, .unset, .unset, .unset, .unset, .unset] [])) (st191) ?_
    obtain ⟨gg194, FA194, ok194⟩ : ∃ gg, ownAI Z h191 b1 .char 32 gg ∧ ∀ k, k < 30 → own_okb (gg k) = true := ⟨_, F191r, own_okU (j := 29) hp190 ok189⟩
    refine ow_aloadW (q := 324) X191 hx (hb hby at_322) rfl rfl rfl ?_
    refine ow_bipushW (q := 326) X191 hx (30 : Int32) (hb hby at_324) rfl rfl ?_
    refine ow_iloadW (q := 328) X191 hx (hb hby at_326) rfl rfl ?_
    refine ow_i2lW (q := 329) X191 hx _ (hb hby at_328) rfl rfl ?_
    refine ow_iconstW (q := 330) X191 hx (0 : Int32) (hb hby at_329) rfl rfl ?_
    generalize hv_v195 : (p3.toInt64) = v195
    obtain ⟨_, _, ⟨T196, L196, k196, n196⟩, -, X196, ⟨Lc196, hQ196, l196, y196, z196⟩, st196⟩ := Jvm.LawKit.callS X191 hx (y := (⟨"com/example/un1son/un1son/CandidateRequireValidIdPinLaw", "at", "(JI)C"⟩ : MethodName)) hown (mvT hZ (ww 1 rfl)) (mvT hZ (ww 2 rfl)) (mvT hZ (ww 3 rfl)) (mvT hZ (ww 4 rfl)) (by decide) (backOf (W := 2) (rm_at l Z av0 hw [] v195 (0 : Int32) h191 n0 (Nat.le_trans Z0 K191.1) ) hZ (ww 4 rfl) (ww 3 rfl) (by decide) (by decide)) (g := (mkF m 330 #[.val (.long q0), .second, .val (.long q1), .second, .val (.long q2), .second, iv p3, rv b1, .unset, .unset, .unset, .unset, .unset, .unset] [(.int (0 : Int32)), (.long v195), (.int (30 : Int32)), (.ref b1)])) rfl (by rw [hml]; rfl) (argsL := [(.long v195), (.int (0 : Int32))]) (rest := [(.int (30 : Int32)), (.ref b1)]) (lenOf own_pd10 rfl) rfl (by show 2 * 0 + _ ≤ _; exact Nat.le_of_eq rfl) (hb hby at_330) (fun _ _ => ⟨rfl, e191, (by decide : 1 + 0 ≤ _), (by decide : 32 + 0 ≤ _)⟩)
    dsimp only [Pt.U, Pt.locs, Pt.cells, Pt.slots] at X196 l196 y196 z196 st196 hQ196
    subst l196 y196 z196
    obtain ⟨r196, rfl, N196q, e196, hp196⟩ := hQ196
    have N196 := Fr.app N191 N196q
    refine ownGoW (T' := T196) (f' := (mkF m 333 #[.val (.long q0), .second, .val (.long q1), .second, .val (.long q2), .second, iv p3, rv b1, .unset, .unset, .unset, .unset, .unset, .unset] [(.int r196), (.int (30 : Int32)), (.ref b1)])) (st196) ?_
    obtain ⟨T197, h197, X197, e197, W197, F197s, st197⟩ := ownCastore FA194 X196 hx hZ e196 (j := (30 : Int32)) (by unfold ownIn; decide) (g := (mkF m 333 #[.val (.long q0), .second, .val (.long q1), .second, .val (.long q2), .second, iv p3, rv b1, .unset, .unset, .unset, .unset, .unset, .unset] [(.int r196), (.int (30 : Int32)), (.ref b1)])) rfl rfl (hb hby at_333)
    rw [own_nar hp196] at F197s
    have F197r : ownAI Z h197 b1 .char 32 (ownUpd gg194 30 r196) := F197s
    have N197 := Fr.snoc X197 N196 G_b1
    have K197 : Keep h0 h197 [] := K191.wr W197 (Or.inr sz_b1)
    have F198 : Sta Z h197 "java/lang/String" "COMPACT_STRINGS" "Z" (.int zc) := F192.wr W197
    have F199 : Sta Z h197 "jdk/internal/util/Preconditions" "SIOOBE_FORMATTER" "Ljava/util/function/BiFunction;" fm := F193.wr W197
    refine ownGoW (T' := T197) (f' := (mkF m 334 #[.val (.long q0), .second, .val (.long q1), .second, .val (.long q2), .second, iv p3, rv b1, .unset, .unset, .unset, .unset, .unset, .unset] [])) (st197) ?_
    obtain ⟨gg200, FA200, ok200⟩ : ∃ gg, ownAI Z h197 b1 .char 32 gg ∧ ∀ k, k < 31 → own_okb (gg k) = true := ⟨_, F197r, own_okU (j := 30) hp196 ok194⟩
    refine ow_aloadW (q := 336) X197 hx (hb hby at_334) rfl rfl rfl ?_
    refine ow_bipushW (q := 338) X197 hx (31 : Int32) (hb hby at_336) rfl rfl ?_
    refine ow_iloadW (q := 340) X197 hx (hb hby at_338) rfl rfl ?_
    refine ow_i2lW (q := 341) X197 hx _ (hb hby at_340) rfl rfl ?_
    refine ow_iconstW (q := 342) X197 hx (1 : Int32) (hb hby at_341) rfl rfl ?_
    generalize hv_v201 : (p3.toInt64) = v201
    obtain ⟨_, _, ⟨T202, L202, k202, n202⟩, -, X202, ⟨Lc202, hQ202, l202, y202, z202⟩, st202⟩ := Jvm.LawKit.callS X197 hx (y := (⟨"com/example/un1son/un1son/CandidateRequireValidIdPinLaw", "at", "(JI)C"⟩ : MethodName)) hown (mvT hZ (ww 1 rfl)) (mvT hZ (ww 2 rfl)) (mvT hZ (ww 3 rfl)) (mvT hZ (ww 4 rfl)) (by decide) (backOf (W := 2) (rm_at l Z av0 hw [] v201 (1 : Int32) h197 n0 (Nat.le_trans Z0 K197.1) ) hZ (ww 4 rfl) (ww 3 rfl) (by decide) (by decide)) (g := (mkF m 342 #[.val (.long q0), .second, .val (.long q1), .second, .val (.long q2), .second, iv p3, rv b1, .unset, .unset, .unset, .unset, .unset, .unset] [(.int (1 : Int32)), (.long v201), (.int (31 : Int32)), (.ref b1)])) rfl (by rw [hml]; rfl) (argsL := [(.long v201), (.int (1 : Int32))]) (rest := [(.int (31 : Int32)), (.ref b1)]) (lenOf own_pd10 rfl) rfl (by show 2 * 0 + _ ≤ _; exact Nat.le_of_eq rfl) (hb hby at_342) (fun _ _ => ⟨rfl, e197, (by decide : 1 + 0 ≤ _), (by decide : 32 + 0 ≤ _)⟩)
    dsimp only [Pt.U, Pt.locs, Pt.cells, Pt.slots] at X202 l202 y202 z202 st202 hQ202
    subst l202 y202 z202
    obtain ⟨r202, rfl, N202q, e202, hp202⟩ := hQ202
    have N202 := Fr.app N197 N202q
    refine ownGoW (T' := T202) (f' := (mkF m 345 #[.val (.long q0), .second, .val (.long q1), .second, .val (.long q2), .second, iv p3, rv b1, .unset, .unset, .unset, .unset, .unset, .unset] [(.int r202), (.int (31 : Int32)), (.ref b1)])) (st202) ?_
    obtain ⟨T203, h203, X203, e203, W203, F203s, st203⟩ := ownCastore FA200 X202 hx hZ e202 (j := (31 : Int32)) (by unfold ownIn; decide) (g := (mkF m 345 #[.val (.long q0), .second, .val (.long q1), .second, .val (.long q2), .second, iv p3, rv b1, .unset, .unset, .unset, .unset, .unset, .unset] [(.int r202), (.int (31 : Int32)), (.ref b1)])) rfl rfl (hb hby at_345)
    rw [own_nar hp202] at F203s
    have F203r : ownAI Z h203 b1 .char 32 (ownUpd gg200 31 r202) := F203s
    have N203 := Fr.snoc X203 N202 G_b1
    have K203 : Keep h0 h203 [] := K197.wr W203 (Or.inr sz_b1)
    have F204 : Sta Z h203 "java/lang/String" "COMPACT_STRINGS" "Z" (.int zc) := F198.wr W203
    have F205 : Sta Z h203 "jdk/internal/util/Preconditions" "SIOOBE_FORMATTER" "Ljava/util/function/BiFunction;" fm := F199.wr W203
    refine ownGoW (T' := T203) (f' := (mkF m 346 #[.val (.long q0), .second, .val (.long q1), .second, .val (.long q2), .second, iv p3, rv b1, .unset, .unset, .unset, .unset, .unset, .unset] [])) (st203) ?_
    exact cut346_5 (ownUpd gg200 31 r202) _ _ _ X203 e203 N203 K203 F204 F205 F203r (own_okU (j := 31) hp202 ok200)
  have cut252_206 : ∀ (gq24 : Nat → Int32) (Tc206 : State) (lc206 : List Loc) (hc206 : Heap), Stand p l e room_1 s m #[(.long q0), (.long q1), (.long q2), (.int p3)] below meth c Tc206 lc206 1 32 → Tc206.heap = hc206 → Fr n0 lc206 → Keep h0 hc206 [] → Sta Z hc206 "java/lang/String" "COMPACT_STRINGS" "Z" (.int zc) → Sta Z hc206 "jdk/internal/util/Preconditions" "SIOOBE_FORMATTER" "Ljava/util/function/BiFunction;" fm → ownAI Z hc206 b1 .char 32 gq24 → (∀ k, k < 24 → own_okb (gq24 k) = true) → ownEndsW p e below s (Q_law Z q0 q1 q2 p3 zc fm h0 n0) 24 1280 Tc206 (mkF m 252 #[.val (.long q0), .second, .val (.long q1), .second, .val (.long q2), .second, iv p3, rv b1, .unset, .unset, .unset, .unset, .unset, .unset] []) := by
    intro gq24 Tc206 lc206 hc206 Xc206 ec206 Nc206 Kc206 Fc206_0 Fc206_1 Fc206_2 okq24
    refine ow_aloadW (q := 254) Xc206 hx (hb hby at_252) rfl rfl rfl ?_
    refine ow_bipushW (q := 256) Xc206 hx (24 : Int32) (hb hby at_254) rfl rfl ?_
    refine ow_lloadW (q := 258) Xc206 hx (hb hby at_256) rfl rfl ?_
    refine ow_iconstW (q := 259) Xc206 hx (4 : Int32) (hb hby at_258) rfl rfl ?_
    obtain ⟨_, _, ⟨T207, L207, k207, n207⟩, -, X207, ⟨Lc207, hQ207, l207, y207, z207⟩, st207⟩ := Jvm.LawKit.callS Xc206 hx (y := (⟨"com/example/un1son/un1son/CandidateRequireValidIdPinLaw", "at", "(JI)C"⟩ : MethodName)) hown (mvT hZ (ww 1 rfl)) (mvT hZ (ww 2 rfl)) (mvT hZ (ww 3 rfl)) (mvT hZ (ww 4 rfl)) (by decide) (backOf (W := 2) (rm_at l Z av0 hw [] q2 (4 : Int32) hc206 n0 (Nat.le_trans Z0 Kc206.1) ) hZ (ww 4 rfl) (ww 3 rfl) (by decide) (by decide)) (g := (mkF m 259 #[.val (.long q0), .second, .val (.long q1), .second, .val (.long q2), .second, iv p3, rv b1, .unset, .unset, .unset, .unset, .unset, .unset] [(.int (4 : Int32)), (.long q2), (.int (24 : Int32)), (.ref b1)])) rfl (by rw [hml]; rfl) (argsL := [(.long q2), (.int (4 : Int32))]) (rest := [(.int (24 : Int32)), (.ref b1)]) (lenOf own_pd10 rfl) rfl (by show 2 * 0 + _ ≤ _; exact Nat.le_of_eq rfl) (hb hby at_259) (fun _ _ => ⟨rfl, ec206, (by decide : 1 + 0 ≤ _), (by decide : 32 + 0 ≤ _)⟩)
    dsimp only [Pt.U, Pt.locs, Pt.cells, Pt.slots] at X207 l207 y207 z207 st207 hQ207
    subst l207 y207 z207
    obtain ⟨r207, rfl, N207q, e207, hp207⟩ := hQ207
    have N207 := Fr.app Nc206 N207q
    refine ownGoW (T' := T207) (f' := (mkF m 262 #[.val (.long q0), .second, .val (.long q1), .second, .val (.long q2), .second, iv p3, rv b1, .unset, .unset, .unset, .unset, .unset, .unset] [(.int r207), (.int (24 : Int32)), (.ref b1)])) (st207) ?_
    obtain ⟨T208, h208, X208, e208, W208, F208s, st208⟩ := ownCastore Fc206_2 X207 hx hZ e207 (j := (24 : Int32)) (by unfold ownIn; decide) (g := (mkF m 262 #[.val (.long q0), .second, .val (.long q1), .second, .val (.long q2), .second, iv p3, rv b1, .unset, .unset, .unset, .unset, .unset, .unset] [(.int r207), (.int (24 : Int32)), (.ref b1)])) rfl rfl (hb hby at_262)
    rw [own_nar hp207] at F208s
    have F208r : ownAI Z h208 b1 .char 32 (ownUpd gq24 24 r207) := F208s
    have N208 := Fr.snoc X208 N207 G_b1
    have K208 : Keep h0 h208 [] := Kc206.wr W208 (Or.inr sz_b1)
    have F209 : Sta Z h208 "java/lang/String" "COMPACT_STRINGS" "Z" (.int zc) := Fc206_0.wr W208
    have F210 : Sta Z h208 "jdk/internal/util/Preconditions" "SIOOBE_FORMATTER" "Ljava/util/function/BiFunction;" fm := Fc206_1.wr W208
    refine ownGoW (T' := T208) (f' := (mkF m 263 #[.val (.long q0), .second, .val (.long q1), .second, .val (.long q2), .second, iv p3, rv b1, .unset, .unset, .unset, .unset, .unset, .unset] [])) (st208) ?_
    obtain ⟨gg211, FA211, ok211⟩ : ∃ gg, ownAI Z h208 b1 .char 32 gg ∧ ∀ k, k < 25 → own_okb (gg k) = true := ⟨_, F208r, own_okU (j := 24) hp207 okq24⟩
    refine ow_aloadW (q := 265) X208 hx (hb hby at_263) rfl rfl rfl ?_
    refine ow_bipushW (q := 267) X208 hx (25 : Int32) (hb hby at_265) rfl rfl ?_
    refine ow_lloadW (q := 269) X208 hx (hb hby at_267) rfl rfl ?_
    refine ow_iconstW (q := 270) X208 hx (5 : Int32) (hb hby at_269) rfl rfl ?_
    obtain ⟨_, _, ⟨T212, L212, k212, n212⟩, -, X212, ⟨Lc212, hQ212, l212, y212, z212⟩, st212⟩ := Jvm.LawKit.callS X208 hx (y := (⟨"com/example/un1son/un1son/CandidateRequireValidIdPinLaw", "at", "(JI)C"⟩ : MethodName)) hown (mvT hZ (ww 1 rfl)) (mvT hZ (ww 2 rfl)) (mvT hZ (ww 3 rfl)) (mvT hZ (ww 4 rfl)) (by decide) (backOf (W := 2) (rm_at l Z av0 hw [] q2 (5 : Int32) h208 n0 (Nat.le_trans Z0 K208.1) ) hZ (ww 4 rfl) (ww 3 rfl) (by decide) (by decide)) (g := (mkF m 270 #[.val (.long q0), .second, .val (.long q1), .second, .val (.long q2), .second, iv p3, rv b1, .unset, .unset, .unset, .unset, .unset, .unset] [(.int (5 : Int32)), (.long q2), (.int (25 : Int32)), (.ref b1)])) rfl (by rw [hml]; rfl) (argsL := [(.long q2), (.int (5 : Int32))]) (rest := [(.int (25 : Int32)), (.ref b1)]) (lenOf own_pd10 rfl) rfl (by show 2 * 0 + _ ≤ _; exact Nat.le_of_eq rfl) (hb hby at_270) (fun _ _ => ⟨rfl, e208, (by decide : 1 + 0 ≤ _), (by decide : 32 + 0 ≤ _)⟩)
    dsimp only [Pt.U, Pt.locs, Pt.cells, Pt.slots] at X212 l212 y212 z212 st212 hQ212
    subst l212 y212 z212
    obtain ⟨r212, rfl, N212q, e212, hp212⟩ := hQ212
    have N212 := Fr.app N208 N212q
    refine ownGoW (T' := T212) (f' := (mkF m 273 #[.val (.long q0), .second, .val (.long q1), .second, .val (.long q2), .second, iv p3, rv b1, .unset, .unset, .unset, .unset, .unset, .unset] [(.int r212), (.int (25 : Int32)), (.ref b1)])) (st212) ?_
    obtain ⟨T213, h213, X213, e213, W213, F213s, st213⟩ := ownCastore FA211 X212 hx hZ e212 (j := (25 : Int32)) (by unfold ownIn; decide) (g := (mkF m 273 #[.val (.long q0), .second, .val (.long q1), .second, .val (.long q2), .second, iv p3, rv b1, .unset, .unset, .unset, .unset, .unset, .unset] [(.int r212), (.int (25 : Int32)), (.ref b1)])) rfl rfl (hb hby at_273)
    rw [own_nar hp212] at F213s
    have F213r : ownAI Z h213 b1 .char 32 (ownUpd gg211 25 r212) := F213s
    have N213 := Fr.snoc X213 N212 G_b1
    have K213 : Keep h0 h213 [] := K208.wr W213 (Or.inr sz_b1)
    have F214 : Sta Z h213 "java/lang/String" "COMPACT_STRINGS" "Z" (.int zc) := F209.wr W213
    have F215 : Sta Z h213 "jdk/internal/util/Preconditions" "SIOOBE_FORMATTER" "Ljava/util/function/BiFunction;" fm := F210.wr W213
    refine ownGoW (T' := T213) (f' := (mkF m 274 #[.val (.long q0), .second, .val (.long q1), .second, .val (.long q2), .second, iv p3, rv b1, .unset, .unset, .unset, .unset, .unset, .unset] [])) (st213) ?_
    obtain ⟨gg216, FA216, ok216⟩ : ∃ gg, ownAI Z h213 b1 .char 32 gg ∧ ∀ k, k < 26 → own_okb (gg k) = true := ⟨_, F213r, own_okU (j := 25) hp212 ok211⟩
    refine ow_aloadW (q := 276) X213 hx (hb hby at_274) rfl rfl rfl ?_
    refine ow_bipushW (q := 278) X213 hx (26 : Int32) (hb hby at_276) rfl rfl ?_
    refine ow_lloadW (q := 280) X213 hx (hb hby at_278) rfl rfl ?_
    refine ow_bipushW (q := 282) X213 hx (6 : Int32) (hb hby at_280) rfl rfl ?_
    obtain ⟨_, _, ⟨T217, L217, k217, n217⟩, -, X217, ⟨Lc217, hQ217, l217, y217, z217⟩, st217⟩ := Jvm.LawKit.callS X213 hx (y := (⟨"com/example/un1son/un1son/CandidateRequireValidIdPinLaw", "at", "(JI)C"⟩ : MethodName)) hown (mvT hZ (ww 1 rfl)) (mvT hZ (ww 2 rfl)) (mvT hZ (ww 3 rfl)) (mvT hZ (ww 4 rfl)) (by decide) (backOf (W := 2) (rm_at l Z av0 hw [] q2 (6 : Int32) h213 n0 (Nat.le_trans Z0 K213.1) ) hZ (ww 4 rfl) (ww 3 rfl) (by decide) (by decide)) (g := (mkF m 282 #[.val (.long q0), .second, .val (.long q1), .second, .val (.long q2), .second, iv p3, rv b1, .unset, .unset, .unset, .unset, .unset, .unset] [(.int (6 : Int32)), (.long q2), (.int (26 : Int32)), (.ref b1)])) rfl (by rw [hml]; rfl) (argsL := [(.long q2), (.int (6 : Int32))]) (rest := [(.int (26 : Int32)), (.ref b1)]) (lenOf own_pd10 rfl) rfl (by show 2 * 0 + _ ≤ _; exact Nat.le_of_eq rfl) (hb hby at_282) (fun _ _ => ⟨rfl, e213, (by decide : 1 + 0 ≤ _), (by decide : 32 + 0 ≤ _)⟩)
    dsimp only [Pt.U, Pt.locs, Pt.cells, Pt.slots] at X217 l217 y217 z217 st217 hQ217
    subst l217 y217 z217
    obtain ⟨r217, rfl, N217q, e217, hp217⟩ := hQ217
    have N217 := Fr.app N213 N217q
    refine ownGoW (T' := T217) (f' := (mkF m 285 #[.val (.long q0), .second, .val (.long q1), .second, .val (.long q2), .second, iv p3, rv b1, .unset, .unset, .unset, .unset, .unset, .unset] [(.int r217), (.int (26 : Int32)), (.ref b1)])) (st217) ?_
    obtain ⟨T218, h218, X218, e218, W218, F218s, st218⟩ := ownCastore FA216 X217 hx hZ e217 (j := (26 : Int32)) (by unfold ownIn; decide) (g := (mkF m 285 #[.val (.long q0), .second, .val (.long q1), .second, .val (.long q2), .second, iv p3, rv b1, .unset, .unset, .unset, .unset, .unset, .unset] [(.int r217), (.int (26 : Int32)), (.ref b1)])) rfl rfl (hb hby at_285)
    rw [own_nar hp217] at F218s
    have F218r : ownAI Z h218 b1 .char 32 (ownUpd gg216 26 r217) := F218s
    have N218 := Fr.snoc X218 N217 G_b1
    have K218 : Keep h0 h218 [] := K213.wr W218 (Or.inr sz_b1)
    have F219 : Sta Z h218 "java/lang/String" "COMPACT_STRINGS" "Z" (.int zc) := F214.wr W218
    have F220 : Sta Z h218 "jdk/internal/util/Preconditions" "SIOOBE_FORMATTER" "Ljava/util/function/BiFunction;" fm := F215.wr W218
    refine ownGoW (T' := T218) (f' := (mkF m 286 #[.val (.long q0), .second, .val (.long q1), .second, .val (.long q2), .second, iv p3, rv b1, .unset, .unset, .unset, .unset, .unset, .unset] [])) (st218) ?_
    obtain ⟨gg221, FA221, ok221⟩ : ∃ gg, ownAI Z h218 b1 .char 32 gg ∧ ∀ k, k < 27 → own_okb (gg k) = true := ⟨_, F218r, own_okU (j := 26) hp217 ok216⟩
    refine ow_aloadW (q := 288) X218 hx (hb hby at_286) rfl rfl rfl ?_
    refine ow_bipushW (q := 290) X218 hx (27 : Int32) (hb hby at_288) rfl rfl ?_
    refine ow_lloadW (q := 292) X218 hx (hb hby at_290) rfl rfl ?_
    refine ow_bipushW (q := 294) X218 hx (7 : Int32) (hb hby at_292) rfl rfl ?_
    obtain ⟨_, _, ⟨T222, L222, k222, n222⟩, -, X222, ⟨Lc222, hQ222, l222, y222, z222⟩, st222⟩ := Jvm.LawKit.callS X218 hx (y := (⟨"com/example/un1son/un1son/CandidateRequireValidIdPinLaw", "at", "(JI)C"⟩ : MethodName)) hown (mvT hZ (ww 1 rfl)) (mvT hZ (ww 2 rfl)) (mvT hZ (ww 3 rfl)) (mvT hZ (ww 4 rfl)) (by decide) (backOf (W := 2) (rm_at l Z av0 hw [] q2 (7 : Int32) h218 n0 (Nat.le_trans Z0 K218.1) ) hZ (ww 4 rfl) (ww 3 rfl) (by decide) (by decide)) (g := (mkF m 294 #[.val (.long q0), .second, .val (.long q1), .second, .val (.long q2), .second, iv p3, rv b1, .unset, .unset, .unset, .unset, .unset, .unset] [(.int (7 : Int32)), (.long q2), (.int (27 : Int32)), (.ref b1)])) rfl (by rw [hml]; rfl) (argsL := [(.long q2), (.int (7 : Int32))]) (rest := [(.int (27 : Int32)), (.ref b1)]) (lenOf own_pd10 rfl) rfl (by show 2 * 0 + _ ≤ _; exact Nat.le_of_eq rfl) (hb hby at_294) (fun _ _ => ⟨rfl, e218, (by decide : 1 + 0 ≤ _), (by decide : 32 + 0 ≤ _)⟩)
    dsimp only [Pt.U, Pt.locs, Pt.cells, Pt.slots] at X222 l222 y222 z222 st222 hQ222
    subst l222 y222 z222
    obtain ⟨r222, rfl, N222q, e222, hp222⟩ := hQ222
    have N222 := Fr.app N218 N222q
    refine ownGoW (T' := T222) (f' := (mkF m 297 #[.val (.long q0), .second, .val (.long q1), .second, .val (.long q2), .second, iv p3, rv b1, .unset, .unset, .unset, .unset, .unset, .unset] [(.int r222), (.int (27 : Int32)), (.ref b1)])) (st222) ?_
    obtain ⟨T223, h223, X223, e223, W223, F223s, st223⟩ := ownCastore FA221 X222 hx hZ e222 (j := (27 : Int32)) (by unfold ownIn; decide) (g := (mkF m 297 #[.val (.long q0), .second, .val (.long q1), .second, .val (.long q2), .second, iv p3, rv b1, .unset, .unset, .unset, .unset, .unset, .unset] [(.int r222), (.int (27 : Int32)), (.ref b1)])) rfl rfl (hb hby at_297)
    rw [own_nar hp222] at F223s
    have F223r : ownAI Z h223 b1 .char 32 (ownUpd gg221 27 r222) := F223s
    have N223 := Fr.snoc X223 N222 G_b1
    have K223 : Keep h0 h223 [] := K218.wr W223 (Or.inr sz_b1)
    have F224 : Sta Z h223 "java/lang/String" "COMPACT_STRINGS" "Z" (.int zc) := F219.wr W223
    have F225 : Sta Z h223 "jdk/internal/util/Preconditions" "SIOOBE_FORMATTER" "Ljava/util/function/BiFunction;" fm := F220.wr W223
    refine ownGoW (T' := T223) (f' := (mkF m 298 #[.val (.long q0), .second, .val (.long q1), .second, .val (.long q2), .second, iv p3, rv b1, .unset, .unset, .unset, .unset, .unset, .unset] [])) (st223) ?_
    exact cut298_184 (ownUpd gg221 27 r222) _ _ _ X223 e223 N223 K223 F224 F225 F223r (own_okU (j := 27) hp222 ok221)
  have cut208_226 : ∀ (gq20 : Nat → Int32) (Tc226 : State) (lc226 : List Loc) (hc226 : Heap), Stand p l e room_1 s m #[(.long q0), (.long q1), (.long q2), (.int p3)] below meth c Tc226 lc226 1 32 → Tc226.heap = hc226 → Fr n0 lc226 → Keep h0 hc226 [] → Sta Z hc226 "java/lang/String" "COMPACT_STRINGS" "Z" (.int zc) → Sta Z hc226 "jdk/internal/util/Preconditions" "SIOOBE_FORMATTER" "Ljava/util/function/BiFunction;" fm → ownAI Z hc226 b1 .char 32 gq20 → (∀ k, k < 20 → own_okb (gq20 k) = true) → ownEndsW p e below s (Q_law Z q0 q1 q2 p3 zc fm h0 n0) 24 1280 Tc226 (mkF m 208 #[.val (.long q0), .second, .val (.long q1), .second, .val (.long q2), .second, iv p3, rv b1, .unset, .unset, .unset, .unset, .unset, .unset] []) := by
    intro gq20 Tc226 lc226 hc226 Xc226 ec226 Nc226 Kc226 Fc226_0 Fc226_1 Fc226_2 okq20
    refine ow_aloadW (q := 210) Xc226 hx (hb hby at_208) rfl rfl rfl ?_
    refine ow_bipushW (q := 212) Xc226 hx (20 : Int32) (hb hby at_210) rfl rfl ?_
    refine ow_lloadW (q := 214) Xc226 hx (hb hby at_212) rfl rfl ?_
    refine ow_iconstW (q := 215) Xc226 hx (0 : Int32) (hb hby at_214) rfl rfl ?_
    obtain ⟨_, _, ⟨T227, L227, k227, n227⟩, -, X227, ⟨Lc227, hQ227, l227, y227, z227⟩, st227⟩ := Jvm.LawKit.callS Xc226 hx (y := (⟨"com/example/un1son/un1son/CandidateRequireValidIdPinLaw", "at", "(JI)C"⟩ : MethodName)) hown (mvT hZ (ww 1 rfl)) (mvT hZ (ww 2 rfl)) (mvT hZ (ww 3 rfl)) (mvT hZ (ww 4 rfl)) (by decide) (backOf (W := 2) (rm_at l Z av0 hw [] q2 (0 : Int32) hc226 n0 (Nat.le_trans Z0 Kc226.1) ) hZ (ww 4 rfl) (ww 3 rfl) (by decide) (by decide)) (g := (mkF m 215 #[.val (.long q0), .second, .val (.long q1), .second, .val (.long q2), .second, iv p3, rv b1, .unset, .unset, .unset, .unset, .unset, .unset] [(.int (0 : Int32)), (.long q2), (.int (20 : Int32)), (.ref b1)])) rfl (by rw [hml]; rfl) (argsL := [(.long q2), (.int (0 : Int32))]) (rest := [(.int (20 : Int32)), (.ref b1)]) (lenOf own_pd10 rfl) rfl (by show 2 * 0 + _ ≤ _; exact Nat.le_of_eq rfl) (hb hby at_215) (fun _ _ => ⟨rfl, ec226, (by decide : 1 + 0 ≤ _), (by decide : 32 + 0 ≤ _)⟩)
    dsimp only [Pt.U, Pt.locs, Pt.cells, Pt.slots] at X227 l227 y227 z227 st227 hQ227
    subst l227 y227 z227
    obtain ⟨r227, rfl, N227q, e227, hp227⟩ := hQ227
    have N227 := Fr.app Nc226 N227q
    refine ownGoW (T' := T227) (f' := (mkF m 218 #[.val (.long q0), .second, .val (.long q1), .second, .val (.long q2), .second, iv p3, rv b1, .unset, .unset, .unset, .unset, .unset, .unset] [(.int r227), (.int (20 : Int32)), (.ref b1)])) (st227) ?_
    obtain ⟨T228, h228, X228, e228, W228, F228s, st228⟩ := ownCastore Fc226_2 X227 hx hZ e227 (j := (20 : Int32)) (by unfold ownIn; decide) (g := (mkF m 218 #[.val (.long q0), .second, .val (.long q1), .second, .val (.long q2), .second, iv p3, rv b1, .unset, .unset, .unset, .unset, .unset, .unset] [(.int r227), (.int (20 : Int32)), (.ref b1)])) rfl rfl (hb hby at_218)
    rw [own_nar hp227] at F228s
    have F228r : ownAI Z h228 b1 .char 32 (ownUpd gq20 20 r227) := F228s
    have N228 := Fr.snoc X228 N227 G_b1
    have K228 : Keep h0 h228 [] := Kc226.wr W228 (Or.inr sz_b1)
    have F229 : Sta Z h228 "java/lang/String" "COMPACT_STRINGS" "Z" (.int zc) := Fc226_0.wr W228
    have F230 : Sta Z h228 "jdk/internal/util/Preconditions" "SIOOBE_FORMATTER" "Ljava/util/function/BiFunction;" fm := Fc226_1.wr W228
    refine ownGoW (T' := T228) (f' := (mkF m 219 #[.val (.long q0), .second, .val (.long q1), .second, .val (.long q2), .second, iv p3, rv b1, .unset, .unset, .unset, .unset, .unset, .unset] [])) (st228) ?_
    obtain ⟨gg231, FA231, ok231⟩ : ∃ gg, ownAI Z h228 b1 .char 32 gg ∧ ∀ k, k < 21 → own_okb (gg k) = true := ⟨_, F228r, own_okU (j := 20) hp227 okq20⟩
    refine ow_aloadW (q := 221) X228 hx (hb hby at_219) rfl rfl rfl ?_
    refine ow_bipushW (q := 223) X228 hx (21 : Int32) (hb hby at_221) rfl rfl ?_
    refine ow_lloadW (q := 225) X228 hx (hb hby at_223) rfl rfl ?_
    refine ow_iconstW (q := 226) X228 hx (1 : Int32) (hb hby at_225) rfl rfl ?_
    obtain ⟨_, _, ⟨T232, L232, k232, n232⟩, -, X232, ⟨Lc232, hQ232, l232, y232, z232⟩, st232⟩ := Jvm.LawKit.callS X228 hx (y := (⟨"com/example/un1son/un1son/CandidateRequireValidIdPinLaw", "at", "(JI)C"⟩ : MethodName)) hown (mvT hZ (ww 1 rfl)) (mvT hZ (ww 2 rfl)) (mvT hZ (ww 3 rfl)) (mvT hZ (ww 4 rfl)) (by decide) (backOf (W := 2) (rm_at l Z av0 hw [] q2 (1 : Int32) h228 n0 (Nat.le_trans Z0 K228.1) ) hZ (ww 4 rfl) (ww 3 rfl) (by decide) (by decide)) (g := (mkF m 226 #[.val (.long q0), .second, .val (.long q1), .second, .val (.long q2), .second, iv p3, rv b1, .unset, .unset, .unset, .unset, .unset, .unset] [(.int (1 : Int32)), (.long q2), (.int (21 : Int32)), (.ref b1)])) rfl (by rw [hml]; rfl) (argsL := [(.long q2), (.int (1 : Int32))]) (rest := [(.int (21 : Int32)), (.ref b1)]) (lenOf own_pd10 rfl) rfl (by show 2 * 0 + _ ≤ _; exact Nat.le_of_eq rfl) (hb hby at_226) (fun _ _ => ⟨rfl, e228, (by decide : 1 + 0 ≤ _), (by decide : 32 + 0 ≤ _)⟩)
    dsimp only [Pt.U, Pt.locs, Pt.cells, Pt.slots] at X232 l232 y232 z232 st232 hQ232
    subst l232 y232 z232
    obtain ⟨r232, rfl, N232q, e232, hp232⟩ := hQ232
    have N232 := Fr.app N228 N232q
    refine ownGoW (T' := T232) (f' := (mkF m 229 #[.val (.long q0), .second, .val (.long q1), .second, .val (.long q2), .second, iv p3, rv b1, .unset, .unset, .unset, .unset, .unset, .unset] [(.int r232), (.int (21 : Int32)), (.ref b1)])) (st232) ?_
    obtain ⟨T233, h233, X233, e233, W233, F233s, st233⟩ := ownCastore FA231 X232 hx hZ e232 (j := (21 : Int32)) (by unfold ownIn; decide) (g := (mkF m 229 #[.val (.long q0), .second, .val (.long q1), .second, .val (.long q2), .second, iv p3, rv b1, .unset, .unset, .unset, .unset, .unset, .unset] [(.int r232), (.int (21 : Int32)), (.ref b1)])) rfl rfl (hb hby at_229)
    rw [own_nar hp232] at F233s
    have F233r : ownAI Z h233 b1 .char 32 (ownUpd gg231 21 r232) := F233s
    have N233 := Fr.snoc X233 N232 G_b1
    have K233 : Keep h0 h233 [] := K228.wr W233 (Or.inr sz_b1)
    have F234 : Sta Z h233 "java/lang/String" "COMPACT_STRINGS" "Z" (.int zc) := F229.wr W233
    have F235 : Sta Z h233 "jdk/internal/util/Preconditions" "SIOOBE_FORMATTER" "Ljava/util/function/BiFunction;" fm := F230.wr W233
    refine ownGoW (T' := T233) (f' := (mkF m 230 #[.val (.long q0), .second, .val (.long q1), .second, .val (.long q2), .second, iv p3, rv b1, .unset, .unset, .unset, .unset, .unset, .unset] [])) (st233) ?_
    obtain ⟨gg236, FA236, ok236⟩ : ∃ gg, ownAI Z h233 b1 .char 32 gg ∧ ∀ k, k < 22 → own_okb (gg k) = true := ⟨_, F233r, own_okU (j := 21) hp232 ok231⟩
    refine ow_aloadW (q := 232) X233 hx (hb hby at_230) rfl rfl rfl ?_
    refine ow_bipushW (q := 234) X233 hx (22 : Int32) (hb hby at_232) rfl rfl ?_
    refine ow_lloadW (q := 236) X233 hx (hb hby at_234) rfl rfl ?_
    refine ow_iconstW (q := 237) X233 hx (2 : Int32) (hb hby at_236) rfl rfl ?_
    obtain ⟨_, _, ⟨T237, L237, k237, n237⟩, -, X237, ⟨Lc237, hQ237, l237, y237, z237⟩, st237⟩ := Jvm.LawKit.callS X233 hx (y := (⟨"com/example/un1son/un1son/CandidateRequireValidIdPinLaw", "at", "(JI)C"⟩ : MethodName)) hown (mvT hZ (ww 1 rfl)) (mvT hZ (ww 2 rfl)) (mvT hZ (ww 3 rfl)) (mvT hZ (ww 4 rfl)) (by decide) (backOf (W := 2) (rm_at l Z av0 hw [] q2 (2 : Int32) h233 n0 (Nat.le_trans Z0 K233.1) ) hZ (ww 4 rfl) (ww 3 rfl) (by decide) (by decide)) (g := (mkF m 237 #[.val (.long q0), .second, .val (.long q1), .second, .val (.long q2), .second, iv p3, rv b1, .unset, .unset, .unset, .unset, .unset, .unset] [(.int (2 : Int32)), (.long q2), (.int (22 : Int32)), (.ref b1)])) rfl (by rw [hml]; rfl) (argsL := [(.long q2), (.int (2 : Int32))]) (rest := [(.int (22 : Int32)), (.ref b1)]) (lenOf own_pd10 rfl) rfl (by show 2 * 0 + _ ≤ _; exact Nat.le_of_eq rfl) (hb hby at_237) (fun _ _ => ⟨rfl, e233, (by decide : 1 + 0 ≤ _), (by decide : 32 + 0 ≤ _)⟩)
    dsimp only [Pt.U, Pt.locs, Pt.cells, Pt.slots] at X237 l237 y237 z237 st237 hQ237
    subst l237 y237 z237
    obtain ⟨r237, rfl, N237q, e237, hp237⟩ := hQ237
    have N237 := Fr.app N233 N237q
    refine ownGoW (T' := T237) (f' := (mkF m 240 #[.val (.long q0), .second, .val (.long q1), .second, .val (.long q2), .second, iv p3, rv b1, .unset, .unset, .unset, .unset, .unset, .unset] [(.int r237), (.int (22 : Int32)), (.ref b1)])) (st237) ?_
    obtain ⟨T238, h238, X238, e238, W238, F238s, st238⟩ := ownCastore FA236 X237 hx hZ e237 (j := (22 : Int32)) (by unfold ownIn; decide) (g := (mkF m 240 #[.val (.long q0), .second, .val (.long q1), .second, .val (.long q2), .second, iv p3, rv b1, .unset, .unset, .unset, .unset, .unset, .unset] [(.int r237), (.int (22 : Int32)), (.ref b1)])) rfl rfl (hb hby at_240)
    rw [own_nar hp237] at F238s
    have F238r : ownAI Z h238 b1 .char 32 (ownUpd gg236 22 r237) := F238s
    have N238 := Fr.snoc X238 N237 G_b1
    have K238 : Keep h0 h238 [] := K233.wr W238 (Or.inr sz_b1)
    have F239 : Sta Z h238 "java/lang/String" "COMPACT_STRINGS" "Z" (.int zc) := F234.wr W238
    have F240 : Sta Z h238 "jdk/internal/util/Preconditions" "SIOOBE_FORMATTER" "Ljava/util/function/BiFunction;" fm := F235.wr W238
    refine ownGoW (T' := T238) (f' := (mkF m 241 #[.val (.long q0), .second, .val (.long q1), .second, .val (.long q2), .second, iv p3, rv b1, .unset, .unset, .unset, .unset, .unset, .unset] [])) (st238) ?_
    obtain ⟨gg241, FA241, ok241⟩ : ∃ gg, ownAI Z h238 b1 .char 32 gg ∧ ∀ k, k < 23 → own_okb (gg k) = true := ⟨_, F238r, own_okU (j := 22) hp237 ok236⟩
    refine ow_aloadW (q := 243) X238 hx (hb hby at_241) rfl rfl rfl ?_
    refine ow_bipushW (q := 245) X238 hx (23 : Int32) (hb hby at_243) rfl rfl ?_
    refine ow_lloadW (q := 247) X238 hx (hb hby at_245) rfl rfl ?_
    refine ow_iconstW (q := 248) X238 hx (3 : Int32) (hb hby at_247) rfl rfl ?_
    obtain ⟨_, _, ⟨T242, L242, k242, n242⟩, -, X242, ⟨Lc242, hQ242, l242, y242, z242⟩, st242⟩ := Jvm.LawKit.callS X238 hx (y := (⟨"com/example/un1son/un1son/CandidateRequireValidIdPinLaw", "at", "(JI)C"⟩ : MethodName)) hown (mvT hZ (ww 1 rfl)) (mvT hZ (ww 2 rfl)) (mvT hZ (ww 3 rfl)) (mvT hZ (ww 4 rfl)) (by decide) (backOf (W := 2) (rm_at l Z av0 hw [] q2 (3 : Int32) h238 n0 (Nat.le_trans Z0 K238.1) ) hZ (ww 4 rfl) (ww 3 rfl) (by decide) (by decide)) (g := (mkF m 248 #[.val (.long q0), .second, .val (.long q1), .second, .val (.long q2), .second, iv p3, rv b1, .unset, .unset, .unset, .unset, .unset, .unset] [(.int (3 : Int32)), (.long q2), (.int (23 : Int32)), (.ref b1)])) rfl (by rw [hml]; rfl) (argsL := [(.long q2), (.int (3 : Int32))]) (rest := [(.int (23 : Int32)), (.ref b1)]) (lenOf own_pd10 rfl) rfl (by show 2 * 0 + _ ≤ _; exact Nat.le_of_eq rfl) (hb hby at_248) (fun _ _ => ⟨rfl, e238, (by decide : 1 + 0 ≤ _), (by decide : 32 + 0 ≤ _)⟩)
    dsimp only [Pt.U, Pt.locs, Pt.cells, Pt.slots] at X242 l242 y242 z242 st242 hQ242
    subst l242 y242 z242
    obtain ⟨r242, rfl, N242q, e242, hp242⟩ := hQ242
    have N242 := Fr.app N238 N242q
    refine ownGoW (T' := T242) (f' := (mkF m 251 #[.val (.long q0), .second, .val (.long q1), .second, .val (.long q2), .second, iv p3, rv b1, .unset, .unset, .unset, .unset, .unset, .unset] [(.int r242), (.int (23 : Int32)), (.ref b1)])) (st242) ?_
    obtain ⟨T243, h243, X243, e243, W243, F243s, st243⟩ := ownCastore FA241 X242 hx hZ e242 (j := (23 : Int32)) (by unfold ownIn; decide) (g := (mkF m 251 #[.val (.long q0), .second, .val (.long q1), .second, .val (.long q2), .second, iv p3, rv b1, .unset, .unset, .unset, .unset, .unset, .unset] [(.int r242), (.int (23 : Int32)), (.ref b1)])) rfl rfl (hb hby at_251)
    rw [own_nar hp242] at F243s
    have F243r : ownAI Z h243 b1 .char 32 (ownUpd gg241 23 r242) := F243s
    have N243 := Fr.snoc X243 N242 G_b1
    have K243 : Keep h0 h243 [] := K238.wr W243 (Or.inr sz_b1)
    have F244 : Sta Z h243 "java/lang/String" "COMPACT_STRINGS" "Z" (.int zc) := F239.wr W243
    have F245 : Sta Z h243 "jdk/internal/util/Preconditions" "SIOOBE_FORMATTER" "Ljava/util/function/BiFunction;" fm := F240.wr W243
    refine ownGoW (T' := T243) (f' := (mkF m 252 #[.val (.long q0), .second, .val (.long q1), .second, .val (.long q2), .second, iv p3, rv b1, .unset, .unset, .unset, .unset, .unset, .unset] [])) (st243) ?_
    exact cut252_206 (ownUpd gg241 23 r242) _ _ _ X243 e243 N243 K243 F244 F245 F243r (own_okU (j := 23) hp242 ok241)
  have cut164_246 : ∀ (gq16 : Nat → Int32) (Tc246 : State) (lc246 : List Loc) (hc246 : Heap), Stand p l e room_1 s m #[(.long q0), (.long q1), (.long q2), (.int p3)] below meth c Tc246 lc246 1 32 → Tc246.heap = hc246 → Fr n0 lc246 → Keep h0 hc246 [] → Sta Z hc246 "java/lang/String" "COMPACT_STRINGS" "Z" (.int zc) → Sta Z hc246 "jdk/internal/util/Preconditions" "SIOOBE_FORMATTER" "Ljava/util/function/BiFunction;" fm → ownAI Z hc246 b1 .char 32 gq16 → (∀ k, k < 16 → own_okb (gq16 k) = true) → ownEndsW p e below s (Q_law Z q0 q1 q2 p3 zc fm h0 n0) 24 1280 Tc246 (mkF m 164 #[.val (.long q0), .second, .val (.long q1), .second, .val (.long q2), .second, iv p3, rv b1, .unset, .unset, .unset, .unset, .unset, .unset] []) := by
    intro gq16 Tc246 lc246 hc246 Xc246 ec246 Nc246 Kc246 Fc246_0 Fc246_1 Fc246_2 okq16
    refine ow_aloadW (q := 166) Xc246 hx (hb hby at_164) rfl rfl rfl ?_
    refine ow_bipushW (q := 168) Xc246 hx (16 : Int32) (hb hby at_166) rfl rfl ?_
    refine ow_lloadNW (q := 169) Xc246 hx (hb hby at_168) rfl rfl ?_
    refine ow_bipushW (q := 171) Xc246 hx (6 : Int32) (hb hby at_169) rfl rfl ?_
    obtain ⟨_, _, ⟨T247, L247, k247, n247⟩, -, X247, ⟨Lc247, hQ247, l247, y247, z247⟩, st247⟩ := Jvm.LawKit.callS Xc246 hx (y := (⟨"com/example/un1son/un1son/CandidateRequireValidIdPinLaw", "at", "(JI)C"⟩ : MethodName)) hown (mvT hZ (ww 1 rfl)) (mvT hZ (ww 2 rfl)) (mvT hZ (ww 3 rfl)) (mvT hZ (ww 4 rfl)) (by decide) (backOf (W := 2) (rm_at l Z av0 hw [] q1 (6 : Int32) hc246 n0 (Nat.le_trans Z0 Kc246.1) ) hZ (ww 4 rfl) (ww 3 rfl) (by decide) (by decide)) (g := (mkF m 171 #[.val (.long q0), .second, .val (.long q1), .second, .val (.long q2), .second, iv p3, rv b1, .unset, .unset, .unset, .unset, .unset, .unset] [(.int (6 : Int32)), (.long q1), (.int (16 : Int32)), (.ref b1)])) rfl (by rw [hml]; rfl) (argsL := [(.long q1), (.int (6 : Int32))]) (rest := [(.int (16 : Int32)), (.ref b1)]) (lenOf own_pd10 rfl) rfl (by show 2 * 0 + _ ≤ _; exact Nat.le_of_eq rfl) (hb hby at_171) (fun _ _ => ⟨rfl, ec246, (by decide : 1 + 0 ≤ _), (by decide : 32 + 0 ≤ _)⟩)
    dsimp only [Pt.U, Pt.locs, Pt.cells, Pt.slots] at X247 l247 y247 z247 st247 hQ247
    subst l247 y247 z247
    obtain ⟨r247, rfl, N247q, e247, hp247⟩ := hQ247
    have N247 := Fr.app Nc246 N247q
    refine ownGoW (T' := T247) (f' := (mkF m 174 #[.val (.long q0), .second, .val (.long q1), .second, .val (.long q2), .second, iv p3, rv b1, .unset, .unset, .unset, .unset, .unset, .unset] [(.int r247), (.int (16 : Int32)), (.ref b1)])) (st247) ?_
    obtain ⟨T248, h248, X248, e248, W248, F248s, st248⟩ := ownCastore Fc246_2 X247 hx hZ e247 (j := (16 : Int32)) (by unfold ownIn; decide) (g := (mkF m 174 #[.val (.long q0), .second, .val (.long q1), .second, .val (.long q2), .second, iv p3, rv b1, .unset, .unset, .unset, .unset, .unset, .unset] [(.int r247), (.int (16 : Int32)), (.ref b1)])) rfl rfl (hb hby at_174)
    rw [own_nar hp247] at F248s
    have F248r : ownAI Z h248 b1 .char 32 (ownUpd gq16 16 r247) := F248s
    have N248 := Fr.snoc X248 N247 G_b1
    have K248 : Keep h0 h248 [] := Kc246.wr W248 (Or.inr sz_b1)
    have F249 : Sta Z h248 "java/lang/String" "COMPACT_STRINGS" "Z" (.int zc) := Fc246_0.wr W248
    have F250 : Sta Z h248 "jdk/internal/util/Preconditions" "SIOOBE_FORMATTER" "Ljava/util/function/BiFunction;" fm := Fc246_1.wr W248
    refine ownGoW (T' := T248) (f' := (mkF m 175 #[.val (.long q0), .second, .val (.long q1), .second, .val (.long q2), .second, iv p3, rv b1, .unset, .unset, .unset, .unset, .unset, .unset] [])) (st248) ?_
    obtain ⟨gg251, FA251, ok251⟩ : ∃ gg, ownAI Z h248 b1 .char 32 gg ∧ ∀ k, k < 17 → own_okb (gg k) = true := ⟨_, F248r, own_okU (j := 16) hp247 okq16⟩
    refine ow_aloadW (q := 177) X248 hx (hb hby at_175) rfl rfl rfl ?_
    refine ow_bipushW (q := 179) X248 hx (17 : Int32) (hb hby at_177) rfl rfl ?_
    refine ow_lloadNW (q := 180) X248 hx (hb hby at_179) rfl rfl ?_
    refine ow_bipushW (q := 182) X248 hx (7 : Int32) (hb hby at_180) rfl rfl ?_
    obtain ⟨_, _, ⟨T252, L252, k252, n252⟩, -, X252, ⟨Lc252, hQ252, l252, y252, z252⟩, st252⟩ := Jvm.LawKit.callS X248 hx (y := (⟨"com/example/un1son/un1son/CandidateRequireValidIdPinLaw", "at", "(JI)C"⟩ : MethodName)) hown (mvT hZ (ww 1 rfl)) (mvT hZ (ww 2 rfl)) (mvT hZ (ww 3 rfl)) (mvT hZ (ww 4 rfl)) (by decide) (backOf (W := 2) (rm_at l Z av0 hw [] q1 (7 : Int32) h248 n0 (Nat.le_trans Z0 K248.1) ) hZ (ww 4 rfl) (ww 3 rfl) (by decide) (by decide)) (g := (mkF m 182 #[.val (.long q0), .second, .val (.long q1), .second, .val (.long q2), .second, iv p3, rv b1, .unset, .unset, .unset, .unset, .unset, .unset] [(.int (7 : Int32)), (.long q1), (.int (17 : Int32)), (.ref b1)])) rfl (by rw [hml]; rfl) (argsL := [(.long q1), (.int (7 : Int32))]) (rest := [(.int (17 : Int32)), (.ref b1)]) (lenOf own_pd10 rfl) rfl (by show 2 * 0 + _ ≤ _; exact Nat.le_of_eq rfl) (hb hby at_182) (fun _ _ => ⟨rfl, e248, (by decide : 1 + 0 ≤ _), (by decide : 32 + 0 ≤ _)⟩)
    dsimp only [Pt.U, Pt.locs, Pt.cells, Pt.slots] at X252 l252 y252 z252 st252 hQ252
    subst l252 y252 z252
    obtain ⟨r252, rfl, N252q, e252, hp252⟩ := hQ252
    have N252 := Fr.app N248 N252q
    refine ownGoW (T' := T252) (f' := (mkF m 185 #[.val (.long q0), .second, .val (.long q1), .second, .val (.long q2), .second, iv p3, rv b1, .unset, .unset, .unset, .unset, .unset, .unset] [(.int r252), (.int (17 : Int32)), (.ref b1)])) (st252) ?_
    obtain ⟨T253, h253, X253, e253, W253, F253s, st253⟩ := ownCastore FA251 X252 hx hZ e252 (j := (17 : Int32)) (by unfold ownIn; decide) (g := (mkF m 185 #[.val (.long q0), .second, .val (.long q1), .second, .val (.long q2), .second, iv p3, rv b1, .unset, .unset, .unset, .unset, .unset, .unset] [(.int r252), (.int (17 : Int32)), (.ref b1)])) rfl rfl (hb hby at_185)
    rw [own_nar hp252] at F253s
    have F253r : ownAI Z h253 b1 .char 32 (ownUpd gg251 17 r252) := F253s
    have N253 := Fr.snoc X253 N252 G_b1
    have K253 : Keep h0 h253 [] := K248.wr W253 (Or.inr sz_b1)
    have F254 : Sta Z h253 "java/lang/String" "COMPACT_STRINGS" "Z" (.int zc) := F249.wr W253
    have F255 : Sta Z h253 "jdk/internal/util/Preconditions" "SIOOBE_FORMATTER" "Ljava/util/function/BiFunction;" fm := F250.wr W253
    refine ownGoW (T' := T253) (f' := (mkF m 186 #[.val (.long q0), .second, .val (.long q1), .second, .val (.long q2), .second, iv p3, rv b1, .unset, .unset, .unset, .unset, .unset, .unset] [])) (st253) ?_
    obtain ⟨gg256, FA256, ok256⟩ : ∃ gg, ownAI Z h253 b1 .char 32 gg ∧ ∀ k, k < 18 → own_okb (gg k) = true := ⟨_, F253r, own_okU (j := 17) hp252 ok251⟩
    refine ow_aloadW (q := 188) X253 hx (hb hby at_186) rfl rfl rfl ?_
    refine ow_bipushW (q := 190) X253 hx (18 : Int32) (hb hby at_188) rfl rfl ?_
    refine ow_lloadNW (q := 191) X253 hx (hb hby at_190) rfl rfl ?_
    refine ow_bipushW (q := 193) X253 hx (8 : Int32) (hb hby at_191) rfl rfl ?_
    obtain ⟨_, _, ⟨T257, L257, k257, n257⟩, -, X257, ⟨Lc257, hQ257, l257, y257, z257⟩, st257⟩ := Jvm.LawKit.callS X253 hx (y := (⟨"com/example/un1son/un1son/CandidateRequireValidIdPinLaw", "at", "(JI)C"⟩ : MethodName)) hown (mvT hZ (ww 1 rfl)) (mvT hZ (ww 2 rfl)) (mvT hZ (ww 3 rfl)) (mvT hZ (ww 4 rfl)) (by decide) (backOf (W := 2) (rm_at l Z av0 hw [] q1 (8 : Int32) h253 n0 (Nat.le_trans Z0 K253.1) ) hZ (ww 4 rfl) (ww 3 rfl) (by decide) (by decide)) (g := (mkF m 193 #[.val (.long q0), .second, .val (.long q1), .second, .val (.long q2), .second, iv p3, rv b1, .unset, .unset, .unset, .unset, .unset, .unset] [(.int (8 : Int32)), (.long q1), (.int (18 : Int32)), (.ref b1)])) rfl (by rw [hml]; rfl) (argsL := [(.long q1), (.int (8 : Int32))]) (rest := [(.int (18 : Int32)), (.ref b1)]) (lenOf own_pd10 rfl) rfl (by show 2 * 0 + _ ≤ _; exact Nat.le_of_eq rfl) (hb hby at_193) (fun _ _ => ⟨rfl, e253, (by decide : 1 + 0 ≤ _), (by decide : 32 + 0 ≤ _)⟩)
    dsimp only [Pt.U, Pt.locs, Pt.cells, Pt.slots] at X257 l257 y257 z257 st257 hQ257
    subst l257 y257 z257
    obtain ⟨r257, rfl, N257q, e257, hp257⟩ := hQ257
    have N257 := Fr.app N253 N257q
    refine ownGoW (T' := T257) (f' := (mkF m 196 #[.val (.long q0), .second, .val (.long q1), .second, .val (.long q2), .second, iv p3, rv b1, .unset, .unset, .unset, .unset, .unset, .unset] [(.int r257), (.int (18 : Int32)), (.ref b1)])) (st257) ?_
    obtain ⟨T258, h258, X258, e258, W258, F258s, st258⟩ := ownCastore FA256 X257 hx hZ e257 (j := (18 : Int32)) (by unfold ownIn; decide) (g := (mkF m 196 #[.val (.long q0), .second, .val (.long q1), .second, .val (.long q2), .second, iv p3, rv b1, .unset, .unset, .unset, .unset, .unset, .unset] [(.int r257), (.int (18 : Int32)), (.ref b1)])) rfl rfl (hb hby at_196)
    rw [own_nar hp257] at F258s
    have F258r : ownAI Z h258 b1 .char 32 (ownUpd gg256 18 r257) := F258s
    have N258 := Fr.snoc X258 N257 G_b1
    have K258 : Keep h0 h258 [] := K253.wr W258 (Or.inr sz_b1)
    have F259 : Sta Z h258 "java/lang/String" "COMPACT_STRINGS" "Z" (.int zc) := F254.wr W258
    have F260 : Sta Z h258 "jdk/internal/util/Preconditions" "SIOOBE_FORMATTER" "Ljava/util/function/BiFunction;" fm := F255.wr W258
    refine ownGoW (T' := T258) (f' := (mkF m 197 #[.val (.long q0), .second, .val (.long q1), .second, .val (.long q2), .second, iv p3, rv b1, .unset, .unset, .unset, .unset, .unset, .unset] [])) (st258) ?_
    obtain ⟨gg261, FA261, ok261⟩ : ∃ gg, ownAI Z h258 b1 .char 32 gg ∧ ∀ k, k < 19 → own_okb (gg k) = true := ⟨_, F258r, own_okU (j := 18) hp257 ok256⟩
    refine ow_aloadW (q := 199) X258 hx (hb hby at_197) rfl rfl rfl ?_
    refine ow_bipushW (q := 201) X258 hx (19 : Int32) (hb hby at_199) rfl rfl ?_
    refine ow_lloadNW (q := 202) X258 hx (hb hby at_201) rfl rfl ?_
    refine ow_bipushW (q := 204) X258 hx (9 : Int32) (hb hby at_202) rfl rfl ?_
    obtain ⟨_, _, ⟨T262, L262, k262, n262⟩, -, X262, ⟨Lc262, hQ262, l262, y262, z262⟩, st262⟩ := Jvm.LawKit.callS X258 hx (y := (⟨"com/example/un1son/un1son/CandidateRequireValidIdPinLaw", "at", "(JI)C"⟩ : MethodName)) hown (mvT hZ (ww 1 rfl)) (mvT hZ (ww 2 rfl)) (mvT hZ (ww 3 rfl)) (mvT hZ (ww 4 rfl)) (by decide) (backOf (W := 2) (rm_at l Z av0 hw [] q1 (9 : Int32) h258 n0 (Nat.le_trans Z0 K258.1) ) hZ (ww 4 rfl) (ww 3 rfl) (by decide) (by decide)) (g := (mkF m 204 #[.val (.long q0), .second, .val (.long q1), .second, .val (.long q2), .second, iv p3, rv b1, .unset, .unset, .unset, .unset, .unset, .unset] [(.int (9 : Int32)), (.long q1), (.int (19 : Int32)), (.ref b1)])) rfl (by rw [hml]; rfl) (argsL := [(.long q1), (.int (9 : Int32))]) (rest := [(.int (19 : Int32)), (.ref b1)]) (lenOf own_pd10 rfl) rfl (by show 2 * 0 + _ ≤ _; exact Nat.le_of_eq rfl) (hb hby at_204) (fun _ _ => ⟨rfl, e258, (by decide : 1 + 0 ≤ _), (by decide : 32 + 0 ≤ _)⟩)
    dsimp only [Pt.U, Pt.locs, Pt.cells, Pt.slots] at X262 l262 y262 z262 st262 hQ262
    subst l262 y262 z262
    obtain ⟨r262, rfl, N262q, e262, hp262⟩ := hQ262
    have N262 := Fr.app N258 N262q
    refine ownGoW (T' := T262) (f' := (mkF m 207 #[.val (.long q0), .second, .val (.long q1), .second, .val (.long q2), .second, iv p3, rv b1, .unset, .unset, .unset, .unset, .unset, .unset] [(.int r262), (.int (19 : Int32)), (.ref b1)])) (st262) ?_
    obtain ⟨T263, h263, X263, e263, W263, F263s, st263⟩ := ownCastore FA261 X262 hx hZ e262 (j := (19 : Int32)) (by unfold ownIn; decide) (g := (mkF m 207 #[.val (.long q0), .second, .val (.long q1), .second, .val (.long q2), .second, iv p3, rv b1, .unset, .unset, .unset, .unset, .unset, .unset] [(.int r262), (.int (19 : Int32)), (.ref b1)])) rfl rfl (hb hby at_207)
    rw [own_nar hp262] at F263s
    have F263r : ownAI Z h263 b1 .char 32 (ownUpd gg261 19 r262) := F263s
    have N263 := Fr.snoc X263 N262 G_b1
    have K263 : Keep h0 h263 [] := K258.wr W263 (Or.inr sz_b1)
    have F264 : Sta Z h263 "java/lang/String" "COMPACT_STRINGS" "Z" (.int zc) := F259.wr W263
    have F265 : Sta Z h263 "jdk/internal/util/Preconditions" "SIOOBE_FORMATTER" "Ljava/util/function/BiFunction;" fm := F260.wr W263
    refine ownGoW (T' := T263) (f' := (mkF m 208 #[.val (.long q0), .second, .val (.long q1), .second, .val (.long q2), .second, iv p3, rv b1, .unset, .unset, .unset, .unset, .unset, .unset] [])) (st263) ?_
    exact cut208_226 (ownUpd gg261 19 r262) _ _ _ X263 e263 N263 K263 F264 F265 F263r (own_okU (j := 19) hp262 ok261)
  have cut124_266 : ∀ (gq12 : Nat → Int32) (Tc266 : State) (lc266 : List Loc) (hc266 : Heap), Stand p l e room_1 s m #[(.long q0), (.long q1), (.long q2), (.int p3)] below meth c Tc266 lc266 1 32 → Tc266.heap = hc266 → Fr n0 lc266 → Keep h0 hc266 [] → Sta Z hc266 "java/lang/String" "COMPACT_STRINGS" "Z" (.int zc) → Sta Z hc266 "jdk/internal/util/Preconditions" "SIOOBE_FORMATTER" "Ljava/util/function/BiFunction;" fm → ownAI Z hc266 b1 .char 32 gq12 → (∀ k, k < 12 → own_okb (gq12 k) = true) → ownEndsW p e below s (Q_law Z q0 q1 q2 p3 zc fm h0 n0) 24 1280 Tc266 (mkF m 124 #[.val (.long q0), .second, .val (.long q1), .second, .val (.long q2), .second, iv p3, rv b1, .unset, .unset, .unset, .unset, .unset, .unset] []) := by
    intro gq12 Tc266 lc266 hc266 Xc266 ec266 Nc266 Kc266 Fc266_0 Fc266_1 Fc266_2 okq12
    refine ow_aloadW (q := 126) Xc266 hx (hb hby at_124) rfl rfl rfl ?_
    refine ow_bipushW (q := 128) Xc266 hx (12 : Int32) (hb hby at_126) rfl rfl ?_
    refine ow_lloadNW (q := 129) Xc266 hx (hb hby at_128) rfl rfl ?_
    refine ow_iconstW (q := 130) Xc266 hx (2 : Int32) (hb hby at_129) rfl rfl ?_
    obtain ⟨_, _, ⟨T267, L267, k267, n267⟩, -, X267, ⟨Lc267, hQ267, l267, y267, z267⟩, st267⟩ := Jvm.LawKit.callS Xc266 hx (y := (⟨"com/example/un1son/un1son/CandidateRequireValidIdPinLaw", "at", "(JI)C"⟩ : MethodName)) hown (mvT hZ (ww 1 rfl)) (mvT hZ (ww 2 rfl)) (mvT hZ (ww 3 rfl)) (mvT hZ (ww 4 rfl)) (by decide) (backOf (W := 2) (rm_at l Z av0 hw [] q1 (2 : Int32) hc266 n0 (Nat.le_trans Z0 Kc266.1) ) hZ (ww 4 rfl) (ww 3 rfl) (by decide) (by decide)) (g := (mkF m 130 #[.val (.long q0), .second, .val (.long q1), .second, .val (.long q2), .second, iv p3, rv b1, .unset, .unset, .unset, .unset, .unset, .unset] [(.int (2 : Int32)), (.long q1), (.int (12 : Int32)), (.ref b1)])) rfl (by rw [hml]; rfl) (argsL := [(.long q1), (.int (2 : Int32))]) (rest := [(.int (12 : Int32)), (.ref b1)]) (lenOf own_pd10 rfl) rfl (by show 2 * 0 + _ ≤ _; exact Nat.le_of_eq rfl) (hb hby at_130) (fun _ _ => ⟨rfl, ec266, (by decide : 1 + 0 ≤ _), (by decide : 32 + 0 ≤ _)⟩)
    dsimp only [Pt.U, Pt.locs, Pt.cells, Pt.slots] at X267 l267 y267 z267 st267 hQ267
    subst l267 y267 z267
    obtain ⟨r267, rfl, N267q, e267, hp267⟩ := hQ267
    have N267 := Fr.app Nc266 N267q
    refine ownGoW (T' := T267) (f' := (mkF m 133 #[.val (.long q0), .second, .val (.long q1), .second, .val (.long q2), .second, iv p3, rv b1, .unset, .unset, .unset, .unset, .unset, .unset] [(.int r267), (.int (12 : Int32)), (.ref b1)])) (st267) ?_
    obtain ⟨T268, h268, X268, e268, W268, F268s, st268⟩ := ownCastore Fc266_2 X267 hx hZ e267 (j := (12 : Int32)) (by unfold ownIn; decide) (g := (mkF m 133 #[.val (.long q0), .second, .val (.long q1), .second, .val (.long q2), .second, iv p3, rv b1, .unset, .unset, .unset, .unset, .unset, .unset] [(.int r267), (.int (12 : Int32)), (.ref b1)])) rfl rfl (hb hby at_133)
    rw [own_nar hp267] at F268s
    have F268r : ownAI Z h268 b1 .char 32 (ownUpd gq12 12 r267) := F268s
    have N268 := Fr.snoc X268 N267 G_b1
    have K268 : Keep h0 h268 [] := Kc266.wr W268 (Or.inr sz_b1)
    have F269 : Sta Z h268 "java/lang/String" "COMPACT_STRINGS" "Z" (.int zc) := Fc266_0.wr W268
    have F270 : Sta Z h268 "jdk/internal/util/Preconditions" "SIOOBE_FORMATTER" "Ljava/util/function/BiFunction;" fm := Fc266_1.wr W268
    refine ownGoW (T' := T268) (f' := (mkF m 134 #[.val (.long q0), .second, .val (.long q1), .second, .val (.long q2), .second, iv p3, rv b1, .unset, .unset, .unset, .unset, .unset, .unset] [])) (st268) ?_
    obtain ⟨gg271, FA271, ok271⟩ : ∃ gg, ownAI Z h268 b1 .char 32 gg ∧ ∀ k, k < 13 → own_okb (gg k) = true := ⟨_, F268r, own_okU (j := 12) hp267 okq12⟩
    refine ow_aloadW (q := 136) X268 hx (hb hby at_134) rfl rfl rfl ?_
    refine ow_bipushW (q := 138) X268 hx (13 : Int32) (hb hby at_136) rfl rfl ?_
    refine ow_lloadNW (q := 139) X268 hx (hb hby at_138) rfl rfl ?_
    refine ow_iconstW (q := 140) X268 hx (3 : Int32) (hb hby at_139) rfl rfl ?_
    obtain ⟨_, _, ⟨T272, L272, k272, n272⟩, -, X272, ⟨Lc272, hQ272, l272, y272, z272⟩, st272⟩ := Jvm.LawKit.callS X268 hx (y := (⟨"com/example/un1son/un1son/CandidateRequireValidIdPinLaw", "at", "(JI)C"⟩ : MethodName)) hown (mvT hZ (ww 1 rfl)) (mvT hZ (ww 2 rfl)) (mvT hZ (ww 3 rfl)) (mvT hZ (ww 4 rfl)) (by decide) (backOf (W := 2) (rm_at l Z av0 hw [] q1 (3 : Int32) h268 n0 (Nat.le_trans Z0 K268.1) ) hZ (ww 4 rfl) (ww 3 rfl) (by decide) (by decide)) (g := (mkF m 140 #[.val (.long q0), .second, .val (.long q1), .second, .val (.long q2), .second, iv p3, rv b1, .unset, .unset, .unset, .unset, .unset, .unset] [(.int (3 : Int32)), (.long q1), (.int (13 : Int32)), (.ref b1)])) rfl (by rw [hml]; rfl) (argsL := [(.long q1), (.int (3 : Int32))]) (rest := [(.int (13 : Int32)), (.ref b1)]) (lenOf own_pd10 rfl) rfl (by show 2 * 0 + _ ≤ _; exact Nat.le_of_eq rfl) (hb hby at_140) (fun _ _ => ⟨rfl, e268, (by decide : 1 + 0 ≤ _), (by decide : 32 + 0 ≤ _)⟩)
    dsimp only [Pt.U, Pt.locs, Pt.cells, Pt.slots] at X272 l272 y272 z272 st272 hQ272
    subst l272 y272 z272
    obtain ⟨r272, rfl, N272q, e272, hp272⟩ := hQ272
    have N272 := Fr.app N268 N272q
    refine ownGoW (T' := T272) (f' := (mkF m 143 #[.val (.long q0), .second, .val (.long q1), .second, .val (.long q2), .second, iv p3, rv b1, .unset, .unset, .unset, .unset, .unset, .unset] [(.int r272), (.int (13 : Int32)), (.ref b1)])) (st272) ?_
    obtain ⟨T273, h273, X273, e273, W273, F273s, st273⟩ := ownCastore FA271 X272 hx hZ e272 (j := (13 : Int32)) (by unfold ownIn; decide) (g := (mkF m 143 #[.val (.long q0), .second, .val (.long q1), .second, .val (.long q2), .second, iv p3, rv b1, .unset, .unset, .unset, .unset, .unset, .unset] [(.int r272), (.int (13 : Int32)), (.ref b1)])) rfl rfl (hb hby at_143)
    rw [own_nar hp272] at F273s
    have F273r : ownAI Z h273 b1 .char 32 (ownUpd gg271 13 r272) := F273s
    have N273 := Fr.snoc X273 N272 G_b1
    have K273 : Keep h0 h273 [] := K268.wr W273 (Or.inr sz_b1)
    have F274 : Sta Z h273 "java/lang/String" "COMPACT_STRINGS" "Z" (.int zc) := F269.wr W273
    have F275 : Sta Z h273 "jdk/internal/util/Preconditions" "SIOOBE_FORMATTER" "Ljava/util/function/BiFunction;" fm := F270.wr W273
    refine ownGoW (T' := T273) (f' := (mkF m 144 #[.val (.long q0), .second, .val (.long q1), .second, .val (.long q2), .second, iv p3, rv b1, .unset, .unset, .unset, .unset, .unset, .unset] [])) (st273) ?_
    obtain ⟨gg276, FA276, ok276⟩ : ∃ gg, ownAI Z h273 b1 .char 32 gg ∧ ∀ k, k < 14 → own_okb (gg k) = true := ⟨_, F273r, own_okU (j := 13) hp272 ok271⟩
    refine ow_aloadW (q := 146) X273 hx (hb hby at_144) rfl rfl rfl ?_
    refine ow_bipushW (q := 148) X273 hx (14 : Int32) (hb hby at_146) rfl rfl ?_
    refine ow_lloadNW (q := 149) X273 hx (hb hby at_148) rfl rfl ?_
    refine ow_iconstW (q := 150) X273 hx (4 : Int32) (hb hby at_149) rfl rfl ?_
    obtain ⟨_, _, ⟨T277, L277, k277, n277⟩, -, X277, ⟨Lc277, hQ277, l277, y277, z277⟩, st277⟩ := Jvm.LawKit.callS X273 hx (y := (⟨"com/example/un1son/un1son/CandidateRequireValidIdPinLaw", "at", "(JI)C"⟩ : MethodName)) hown (mvT hZ (ww 1 rfl)) (mvT hZ (ww 2 rfl)) (mvT hZ (ww 3 rfl)) (mvT hZ (ww 4 rfl)) (by decide) (backOf (W := 2) (rm_at l Z av0 hw [] q1 (4 : Int32) h273 n0 (Nat.le_trans Z0 K273.1) ) hZ (ww 4 rfl) (ww 3 rfl) (by decide) (by decide)) (g := (mkF m 150 #[.val (.long q0), .second, .val (.long q1), .second, .val (.long q2), .second, iv p3, rv b1, .unset, .unset, .unset, .unset, .unset, .unset] [(.int (4 : Int32)), (.long q1), (.int (14 : Int32)), (.ref b1)])) rfl (by rw [hml]; rfl) (argsL := [(.long q1), (.int (4 : Int32))]) (rest := [(.int (14 : Int32)), (.ref b1)]) (lenOf own_pd10 rfl) rfl (by show 2 * 0 + _ ≤ _; exact Nat.le_of_eq rfl) (hb hby at_150) (fun _ _ => ⟨rfl, e273, (by decide : 1 + 0 ≤ _), (by decide : 32 + 0 ≤ _)⟩)
    dsimp only [Pt.U, Pt.locs, Pt.cells, Pt.slots] at X277 l277 y277 z277 st277 hQ277
    subst l277 y277 z277
    obtain ⟨r277, rfl, N277q, e277, hp277⟩ := hQ277
    have N277 := Fr.app N273 N277q
    refine ownGoW (T' := T277) (f' := (mkF m 153 #[.val (.long q0), .second, .val (.long q1), .second, .val (.long q2), .second, iv p3, rv b1, .unset, .unset, .unset, .unset, .unset, .unset] [(.int r277), (.int (14 : Int32)), (.ref b1)])) (st277) ?_
    obtain ⟨T278, h278, X278, e278, W278, F278s, st278⟩ := ownCastore FA276 X277 hx hZ e277 (j := (14 : Int32)) (by unfold ownIn; decide) (g := (mkF m 153 #[.val (.long q0), .second, .val (.long q1), .second, .val (.long q2), .second, iv p3, rv b1, .unset, .unset, .unset, .unset, .unset, .unset] [(.int r277), (.int (14 : Int32)), (.ref b1)])) rfl rfl (hb hby at_153)
    rw [own_nar hp277] at F278s
    have F278r : ownAI Z h278 b1 .char 32 (ownUpd gg276 14 r277) := F278s
    have N278 := Fr.snoc X278 N277 G_b1
    have K278 : Keep h0 h278 [] := K273.wr W278 (Or.inr sz_b1)
    have F279 : Sta Z h278 "java/lang/String" "COMPACT_STRINGS" "Z" (.int zc) := F274.wr W278
    have F280 : Sta Z h278 "jdk/internal/util/Preconditions" "SIOOBE_FORMATTER" "Ljava/util/function/BiFunction;" fm := F275.wr W278
    refine ownGoW (T' := T278) (f' := (mkF m 154 #[.val (.long q0), .second, .val (.long q1), .second, .val (.long q2), .second, iv p3, rv b1, .unset, .unset, .unset, .unset, .unset, .unset] [])) (st278) ?_
    obtain ⟨gg281, FA281, ok281⟩ : ∃ gg, ownAI Z h278 b1 .char 32 gg ∧ ∀ k, k < 15 → own_okb (gg k) = true := ⟨_, F278r, own_okU (j := 14) hp277 ok276⟩
    refine ow_aloadW (q := 156) X278 hx (hb hby at_154) rfl rfl rfl ?_
    refine ow_bipushW (q := 158) X278 hx (15 : Int32) (hb hby at_156) rfl rfl ?_
    refine ow_lloadNW (q := 159) X278 hx (hb hby at_158) rfl rfl ?_
    refine ow_iconstW (q := 160) X278 hx (5 : Int32) (hb hby at_159) rfl rfl ?_
    obtain ⟨_, _, ⟨T282, L282, k282, n282⟩, -, X282, ⟨Lc282, hQ282, l282, y282, z282⟩, st282⟩ := Jvm.LawKit.callS X278 hx (y := (⟨"com/example/un1son/un1son/CandidateRequireValidIdPinLaw", "at", "(JI)C"⟩ : MethodName)) hown (mvT hZ (ww 1 rfl)) (mvT hZ (ww 2 rfl)) (mvT hZ (ww 3 rfl)) (mvT hZ (ww 4 rfl)) (by decide) (backOf (W := 2) (rm_at l Z av0 hw [] q1 (5 : Int32) h278 n0 (Nat.le_trans Z0 K278.1) ) hZ (ww 4 rfl) (ww 3 rfl) (by decide) (by decide)) (g := (mkF m 160 #[.val (.long q0), .second, .val (.long q1), .second, .val (.long q2), .second, iv p3, rv b1, .unset, .unset, .unset, .unset, .unset, .unset] [(.int (5 : Int32)), (.long q1), (.int (15 : Int32)), (.ref b1)])) rfl (by rw [hml]; rfl) (argsL := [(.long q1), (.int (5 : Int32))]) (rest := [(.int (15 : Int32)), (.ref b1)]) (lenOf own_pd10 rfl) rfl (by show 2 * 0 + _ ≤ _; exact Nat.le_of_eq rfl) (hb hby at_160) (fun _ _ => ⟨rfl, e278, (by decide : 1 + 0 ≤ _), (by decide : 32 + 0 ≤ _)⟩)
    dsimp only [Pt.U, Pt.locs, Pt.cells, Pt.slots] at X282 l282 y282 z282 st282 hQ282
    subst l282 y282 z282
    obtain ⟨r282, rfl, N282q, e282, hp282⟩ := hQ282
    have N282 := Fr.app N278 N282q
    refine ownGoW (T' := T282) (f' := (mkF m 163 #[.val (.long q0), .second, .val (.long q1), .second, .val (.long q2), .second, iv p3, rv b1, .unset, .unset, .unset, .unset, .unset, .unset] [(.int r282), (.int (15 : Int32)), (.ref b1)])) (st282) ?_
    obtain ⟨T283, h283, X283, e283, W283, F283s, st283⟩ := ownCastore FA281 X282 hx hZ e282 (j := (15 : Int32)) (by unfold ownIn; decide) (g := (mkF m 163 #[.val (.long q0), .second, .val (.long q1), .second, .val (.long q2), .second, iv p3, rv b1, .unset, .unset, .unset, .unset, .unset, .unset] [(.int r282), (.int (15 : Int32)), (.ref b1)])) rfl rfl (hb hby at_163)
    rw [own_nar hp282] at F283s
    have F283r : ownAI Z h283 b1 .char 32 (ownUpd gg281 15 r282) := F283s
    have N283 := Fr.snoc X283 N282 G_b1
    have K283 : Keep h0 h283 [] := K278.wr W283 (Or.inr sz_b1)
    have F284 : Sta Z h283 "java/lang/String" "COMPACT_STRINGS" "Z" (.int zc) := F279.wr W283
    have F285 : Sta Z h283 "jdk/internal/util/Preconditions" "SIOOBE_FORMATTER" "Ljava/util/function/BiFunction;" fm := F280.wr W283
    refine ownGoW (T' := T283) (f' := (mkF m 164 #[.val (.long q0), .second, .val (.long q1), .second, .val (.long q2), .second, iv p3, rv b1, .unset, .unset, .unset, .unset, .unset, .unset] [])) (st283) ?_
    exact cut164_246 (ownUpd gg281 15 r282) _ _ _ X283 e283 N283 K283 F284 F285 F283r (own_okU (j := 15) hp282 ok281)
  have cut82_286 : ∀ (gq8 : Nat → Int32) (Tc286 : State) (lc286 : List Loc) (hc286 : Heap), Stand p l e room_1 s m #[(.long q0), (.long q1), (.long q2), (.int p3)] below meth c Tc286 lc286 1 32 → Tc286.heap = hc286 → Fr n0 lc286 → Keep h0 hc286 [] → Sta Z hc286 "java/lang/String" "COMPACT_STRINGS" "Z" (.int zc) → Sta Z hc286 "jdk/internal/util/Preconditions" "SIOOBE_FORMATTER" "Ljava/util/function/BiFunction;" fm → ownAI Z hc286 b1 .char 32 gq8 → (∀ k, k < 8 → own_okb (gq8 k) = true) → ownEndsW p e below s (Q_law Z q0 q1 q2 p3 zc fm h0 n0) 24 1280 Tc286 (mkF m 82 #[.val (.long q0), .second, .val (.long q1), .second, .val (.long q2), .second, iv p3, rv b1, .unset, .unset, .unset, .unset, .unset, .unset] []) := by
    intro gq8 Tc286 lc286 hc286 Xc286 ec286 Nc286 Kc286 Fc286_0 Fc286_1 Fc286_2 okq8
    refine ow_aloadW (q := 84) Xc286 hx (hb hby at_82) rfl rfl rfl ?_
    refine ow_bipushW (q := 86) Xc286 hx (8 : Int32) (hb hby at_84) rfl rfl ?_
    refine ow_lloadNW (q := 87) Xc286 hx (hb hby at_86) rfl rfl ?_
    refine ow_bipushW (q := 89) Xc286 hx (8 : Int32) (hb hby at_87) rfl rfl ?_
    obtain ⟨_, _, ⟨T287, L287, k287, n287⟩, -, X287, ⟨Lc287, hQ287, l287, y287, z287⟩, st287⟩ := Jvm.LawKit.callS Xc286 hx (y := (⟨"com/example/un1son/un1son/CandidateRequireValidIdPinLaw", "at", "(JI)C"⟩ : MethodName)) hown (mvT hZ (ww 1 rfl)) (mvT hZ (ww 2 rfl)) (mvT hZ (ww 3 rfl)) (mvT hZ (ww 4 rfl)) (by decide) (backOf (W := 2) (rm_at l Z av0 hw [] q0 (8 : Int32) hc286 n0 (Nat.le_trans Z0 Kc286.1) ) hZ (ww 4 rfl) (ww 3 rfl) (by decide) (by decide)) (g := (mkF m 89 #[.val (.long q0), .second, .val (.long q1), .second, .val (.long q2), .second, iv p3, rv b1, .unset, .unset, .unset, .unset, .unset, .unset] [(.int (8 : Int32)), (.long q0), (.int (8 : Int32)), (.ref b1)])) rfl (by rw [hml]; rfl) (argsL := [(.long q0), (.int (8 : Int32))]) (rest := [(.int (8 : Int32)), (.ref b1)]) (lenOf own_pd10 rfl) rfl (by show 2 * 0 + _ ≤ _; exact Nat.le_of_eq rfl) (hb hby at_89) (fun _ _ => ⟨rfl, ec286, (by decide : 1 + 0 ≤ _), (by decide : 32 + 0 ≤ _)⟩)
    dsimp only [Pt.U, Pt.locs, Pt.cells, Pt.slots] at X287 l287 y287 z287 st287 hQ287
    subst l287 y287 z287
    obtain ⟨r287, rfl, N287q, e287, hp287⟩ := hQ287
    have N287 := Fr.app Nc286 N287q
    refine ownGoW (T' := T287) (f' := (mkF m 92 #[.val (.long q0), .second, .val (.long q1), .second, .val (.long q2), .second, iv p3, rv b1, .unset, .unset, .unset, .unset, .unset, .unset] [(.int r287), (.int (8 : Int32)), (.ref b1)])) (st287) ?_
    obtain ⟨T288, h288, X288, e288, W288, F288s, st288⟩ := ownCastore Fc286_2 X287 hx hZ e287 (j := (8 : Int32)) (by unfold ownIn; decide) (g := (mkF m 92 #[.val (.long q0), .second, .val (.long q1), .second, .val (.long q2), .second, iv p3, rv b1, .unset, .unset, .unset, .unset, .unset, .unset] [(.int r287), (.int (8 : Int32)), (.ref b1)])) rfl rfl (hb hby at_92)
    rw [own_nar hp287] at F288s
    have F288r : ownAI Z h288 b1 .char 32 (ownUpd gq8 8 r287) := F288s
    have N288 := Fr.snoc X288 N287 G_b1
    have K288 : Keep h0 h288 [] := Kc286.wr W288 (Or.inr sz_b1)
    have F289 : Sta Z h288 "java/lang/String" "COMPACT_STRINGS" "Z" (.int zc) := Fc286_0.wr W288
    have F290 : Sta Z h288 "jdk/internal/util/Preconditions" "SIOOBE_FORMATTER" "Ljava/util/function/BiFunction;" fm := Fc286_1.wr W288
    refine ownGoW (T' := T288) (f' := (mkF m 93 #[.val (.long q0), .second, .val (.long q1), .second, .val (.long q2), .second, iv p3, rv b1, .unset, .unset, .unset, .unset, .unset, .unset] [])) (st288) ?_
    obtain ⟨gg291, FA291, ok291⟩ : ∃ gg, ownAI Z h288 b1 .char 32 gg ∧ ∀ k, k < 9 → own_okb (gg k) = true := ⟨_, F288r, own_okU (j := 8) hp287 okq8⟩
    refine ow_aloadW (q := 95) X288 hx (hb hby at_93) rfl rfl rfl ?_
    refine ow_bipushW (q := 97) X288 hx (9 : Int32) (hb hby at_95) rfl rfl ?_
    refine ow_lloadNW (q := 98) X288 hx (hb hby at_97) rfl rfl ?_
    refine ow_bipushW (q := 100) X288 hx (9 : Int32) (hb hby at_98) rfl rfl ?_
    obtain ⟨_, _, ⟨T292, L292, k292, n292⟩, -, X292, ⟨Lc292, hQ292, l292, y292, z292⟩, st292⟩ := Jvm.LawKit.callS X288 hx (y := (⟨"com/example/un1son/un1son/CandidateRequireValidIdPinLaw", "at", "(JI)C"⟩ : MethodName)) hown (mvT hZ (ww 1 rfl)) (mvT hZ (ww 2 rfl)) (mvT hZ (ww 3 rfl)) (mvT hZ (ww 4 rfl)) (by decide) (backOf (W := 2) (rm_at l Z av0 hw [] q0 (9 : Int32) h288 n0 (Nat.le_trans Z0 K288.1) ) hZ (ww 4 rfl) (ww 3 rfl) (by decide) (by decide)) (g := (mkF m 100 #[.val (.long q0), .second, .val (.long q1), .second, .val (.long q2), .second, iv p3, rv b1, .unset, .unset, .unset, .unset, .unset, .unset] [(.int (9 : Int32)), (.long q0), (.int (9 : Int32)), (.ref b1)])) rfl (by rw [hml]; rfl) (argsL := [(.long q0), (.int (9 : Int32))]) (rest := [(.int (9 : Int32)), (.ref b1)]) (lenOf own_pd10 rfl) rfl (by show 2 * 0 + _ ≤ _; exact Nat.le_of_eq rfl) (hb hby at_100) (fun _ _ => ⟨rfl, e288, (by decide : 1 + 0 ≤ _), (by decide : 32 + 0 ≤ _)⟩)
    dsimp only [Pt.U, Pt.locs, Pt.cells, Pt.slots] at X292 l292 y292 z292 st292 hQ292
    subst l292 y292 z292
    obtain ⟨r292, rfl, N292q, e292, hp292⟩ := hQ292
    have N292 := Fr.app N288 N292q
    refine ownGoW (T' := T292) (f' := (mkF m 103 #[.val (.long q0), .second, .val (.long q1), .second, .val (.long q2), .second, iv p3, rv b1, .unset, .unset, .unset, .unset, .unset, .unset] [(.int r292), (.int (9 : Int32)), (.ref b1)])) (st292) ?_
    obtain ⟨T293, h293, X293, e293, W293, F293s, st293⟩ := ownCastore FA291 X292 hx hZ e292 (j := (9 : Int32)) (by unfold ownIn; decide) (g := (mkF m 103 #[.val (.long q0), .second, .val (.long q1), .second, .val (.long q2), .second, iv p3, rv b1, .unset, .unset, .unset, .unset, .unset, .unset] [(.int r292), (.int (9 : Int32)), (.ref b1)])) rfl rfl (hb hby at_103)
    rw [own_nar hp292] at F293s
    have F293r : ownAI Z h293 b1 .char 32 (ownUpd gg291 9 r292) := F293s
    have N293 := Fr.snoc X293 N292 G_b1
    have K293 : Keep h0 h293 [] := K288.wr W293 (Or.inr sz_b1)
    have F294 : Sta Z h293 "java/lang/String" "COMPACT_STRINGS" "Z" (.int zc) := F289.wr W293
    have F295 : Sta Z h293 "jdk/internal/util/Preconditions" "SIOOBE_FORMATTER" "Ljava/util/function/BiFunction;" fm := F290.wr W293
    refine ownGoW (T' := T293) (f' := (mkF m 104 #[.val (.long q0), .second, .val (.long q1), .second, .val (.long q2), .second, iv p3, rv b1, .unset, .unset, .unset, .unset, .unset, .unset] [])) (st293) ?_
    obtain ⟨gg296, FA296, ok296⟩ : ∃ gg, ownAI Z h293 b1 .char 32 gg ∧ ∀ k, k < 10 → own_okb (gg k) = true := ⟨_, F293r, own_okU (j := 9) hp292 ok291⟩
    refine ow_aloadW (q := 106) X293 hx (hb hby at_104) rfl rfl rfl ?_
    refine ow_bipushW (q := 108) X293 hx (10 : Int32) (hb hby at_106) rfl rfl ?_
    refine ow_lloadNW (q := 109) X293 hx (hb hby at_108) rfl rfl ?_
    refine ow_iconstW (q := 110) X293 hx (0 : Int32) (hb hby at_109) rfl rfl ?_
    obtain ⟨_, _, ⟨T297, L297, k297, n297⟩, -, X297, ⟨Lc297, hQ297, l297, y297, z297⟩, st297⟩ := Jvm.LawKit.callS X293 hx (y := (⟨"com/example/un1son/un1son/CandidateRequireValidIdPinLaw", "at", "(JI)C"⟩ : MethodName)) hown (mvT hZ (ww 1 rfl)) (mvT hZ (ww 2 rfl)) (mvT hZ (ww 3 rfl)) (mvT hZ (ww 4 rfl)) (by decide) (backOf (W := 2) (rm_at l Z av0 hw [] q1 (0 : Int32) h293 n0 (Nat.le_trans Z0 K293.1) ) hZ (ww 4 rfl) (ww 3 rfl) (by decide) (by decide)) (g := (mkF m 110 #[.val (.long q0), .second, .val (.long q1), .second, .val (.long q2), .second, iv p3, rv b1, .unset, .unset, .unset, .unset, .unset, .unset] [(.int (0 : Int32)), (.long q1), (.int (10 : Int32)), (.ref b1)])) rfl (by rw [hml]; rfl) (argsL := [(.long q1), (.int (0 : Int32))]) (rest := [(.int (10 : Int32)), (.ref b1)]) (lenOf own_pd10 rfl) rfl (by show 2 * 0 + _ ≤ _; exact Nat.le_of_eq rfl) (hb hby at_110) (fun _ _ => ⟨rfl, e293, (by decide : 1 + 0 ≤ _), (by decide : 32 + 0 ≤ _)⟩)
    dsimp only [Pt.U, Pt.locs, Pt.cells, Pt.slots] at X297 l297 y297 z297 st297 hQ297
    subst l297 y297 z297
    obtain ⟨r297, rfl, N297q, e297, hp297⟩ := hQ297
    have N297 := Fr.app N293 N297q
    refine ownGoW (T' := T297) (f' := (mkF m 113 #[.val (.long q0), .second, .val (.long q1), .second, .val (.long q2), .second, iv p3, rv b1, .unset, .unset, .unset, .unset, .unset, .unset] [(.int r297), (.int (10 : Int32)), (.ref b1)])) (st297) ?_
    obtain ⟨T298, h298, X298, e298, W298, F298s, st298⟩ := ownCastore FA296 X297 hx hZ e297 (j := (10 : Int32)) (by unfold ownIn; decide) (g := (mkF m 113 #[.val (.long q0), .second, .val (.long q1), .second, .val (.long q2), .second, iv p3, rv b1, .unset, .unset, .unset, .unset, .unset, .unset] [(.int r297), (.int (10 : Int32)), (.ref b1)])) rfl rfl (hb hby at_113)
    rw [own_nar hp297] at F298s
    have F298r : ownAI Z h298 b1 .char 32 (ownUpd gg296 10 r297) := F298s
    have N298 := Fr.snoc X298 N297 G_b1
    have K298 : Keep h0 h298 [] := K293.wr W298 (Or.inr sz_b1)
    have F299 : Sta Z h298 "java/lang/String" "COMPACT_STRINGS" "Z" (.int zc) := F294.wr W298
    have F300 : Sta Z h298 "jdk/internal/util/Preconditions" "SIOOBE_FORMATTER" "Ljava/util/function/BiFunction;" fm := F295.wr W298
    refine ownGoW (T' := T298) (f' := (mkF m 114 #[.val (.long q0), .second, .val (.long q1), .second, .val (.long q2), .second, iv p3, rv b1, .unset, .unset, .unset, .unset, .unset, .unset] [])) (st298) ?_
    obtain ⟨gg301, FA301, ok301⟩ : ∃ gg, ownAI Z h298 b1 .char 32 gg ∧ ∀ k, k < 11 → own_okb (gg k) = true := ⟨_, F298r, own_okU (j := 10) hp297 ok296⟩
    refine ow_aloadW (q := 116) X298 hx (hb hby at_114) rfl rfl rfl ?_
    refine ow_bipushW (q := 118) X298 hx (11 : Int32) (hb hby at_116) rfl rfl ?_
    refine ow_lloadNW (q := 119) X298 hx (hb hby at_118) rfl rfl ?_
    refine ow_iconstW (q := 120) X298 hx (1 : Int32) (hb hby at_119) rfl rfl ?_
    obtain ⟨_, _, ⟨T302, L302, k302, n302⟩, -, X302, ⟨Lc302, hQ302, l302, y302, z302⟩, st302⟩ := Jvm.LawKit.callS X298 hx (y := (⟨"com/example/un1son/un1son/CandidateRequireValidIdPinLaw", "at", "(JI)C"⟩ : MethodName)) hown (mvT hZ (ww 1 rfl)) (mvT hZ (ww 2 rfl)) (mvT hZ (ww 3 rfl)) (mvT hZ (ww 4 rfl)) (by decide) (backOf (W := 2) (rm_at l Z av0 hw [] q1 (1 : Int32) h298 n0 (Nat.le_trans Z0 K298.1) ) hZ (ww 4 rfl) (ww 3 rfl) (by decide) (by decide)) (g := (mkF m 120 #[.val (.long q0), .second, .val (.long q1), .second, .val (.long q2), .second, iv p3, rv b1, .unset, .unset, .unset, .unset, .unset, .unset] [(.int (1 : Int32)), (.long q1), (.int (11 : Int32)), (.ref b1)])) rfl (by rw [hml]; rfl) (argsL := [(.long q1), (.int (1 : Int32))]) (rest := [(.int (11 : Int32)), (.ref b1)]) (lenOf own_pd10 rfl) rfl (by show 2 * 0 + _ ≤ _; exact Nat.le_of_eq rfl) (hb hby at_120) (fun _ _ => ⟨rfl, e298, (by decide : 1 + 0 ≤ _), (by decide : 32 + 0 ≤ _)⟩)
    dsimp only [Pt.U, Pt.locs, Pt.cells, Pt.slots] at X302 l302 y302 z302 st302 hQ302
    subst l302 y302 z302
    obtain ⟨r302, rfl, N302q, e302, hp302⟩ := hQ302
    have N302 := Fr.app N298 N302q
    refine ownGoW (T' := T302) (f' := (mkF m 123 #[.val (.long q0), .second, .val (.long q1), .second, .val (.long q2), .second, iv p3, rv b1, .unset, .unset, .unset, .unset, .unset, .unset] [(.int r302), (.int (11 : Int32)), (.ref b1)])) (st302) ?_
    obtain ⟨T303, h303, X303, e303, W303, F303s, st303⟩ := ownCastore FA301 X302 hx hZ e302 (j := (11 : Int32)) (by unfold ownIn; decide) (g := (mkF m 123 #[.val (.long q0), .second, .val (.long q1), .second, .val (.long q2), .second, iv p3, rv b1, .unset, .unset, .unset, .unset, .unset, .unset] [(.int r302), (.int (11 : Int32)), (.ref b1)])) rfl rfl (hb hby at_123)
    rw [own_nar hp302] at F303s
    have F303r : ownAI Z h303 b1 .char 32 (ownUpd gg301 11 r302) := F303s
    have N303 := Fr.snoc X303 N302 G_b1
    have K303 : Keep h0 h303 [] := K298.wr W303 (Or.inr sz_b1)
    have F304 : Sta Z h303 "java/lang/String" "COMPACT_STRINGS" "Z" (.int zc) := F299.wr W303
    have F305 : Sta Z h303 "jdk/internal/util/Preconditions" "SIOOBE_FORMATTER" "Ljava/util/function/BiFunction;" fm := F300.wr W303
    refine ownGoW (T' := T303) (f' := (mkF m 124 #[.val (.long q0), .second, .val (.long q1), .second, .val (.long q2), .second, iv p3, rv b1, .unset, .unset, .unset, .unset, .unset, .unset] [])) (st303) ?_
    exact cut124_266 (ownUpd gg301 11 r302) _ _ _ X303 e303 N303 K303 F304 F305 F303r (own_okU (j := 11) hp302 ok301)
  have cut42_306 : ∀ (gq4 : Nat → Int32) (Tc306 : State) (lc306 : List Loc) (hc306 : Heap), Stand p l e room_1 s m #[(.long q0), (.long q1), (.long q2), (.int p3)] below meth c Tc306 lc306 1 32 → Tc306.heap = hc306 → Fr n0 lc306 → Keep h0 hc306 [] → Sta Z hc306 "java/lang/String" "COMPACT_STRINGS" "Z" (.int zc) → Sta Z hc306 "jdk/internal/util/Preconditions" "SIOOBE_FORMATTER" "Ljava/util/function/BiFunction;" fm → ownAI Z hc306 b1 .char 32 gq4 → (∀ k, k < 4 → own_okb (gq4 k) = true) → ownEndsW p e below s (Q_law Z q0 q1 q2 p3 zc fm h0 n0) 24 1280 Tc306 (mkF m 42 #[.val (.long q0), .second, .val (.long q1), .second, .val (.long q2), .second, iv p3, rv b1, .unset, .unset, .unset, .unset, .unset, .unset] []) := by
    intro gq4 Tc306 lc306 hc306 Xc306 ec306 Nc306 Kc306 Fc306_0 Fc306_1 Fc306_2 okq4
    refine ow_aloadW (q := 44) Xc306 hx (hb hby at_42) rfl rfl rfl ?_
    refine ow_iconstW (q := 45) Xc306 hx (4 : Int32) (hb hby at_44) rfl rfl ?_
    refine ow_lloadNW (q := 46) Xc306 hx (hb hby at_45) rfl rfl ?_
    refine ow_iconstW (q := 47) Xc306 hx (4 : Int32) (hb hby at_46) rfl rfl ?_
    obtain ⟨_, _, ⟨T307, L307, k307, n307⟩, -, X307, ⟨Lc307, hQ307, l307, y307, z307⟩, st307⟩ := Jvm.LawKit.callS Xc306 hx (y := (⟨"com/example/un1son/un1son/CandidateRequireValidIdPinLaw", "at", "(JI)C"⟩ : MethodName)) hown (mvT hZ (ww 1 rfl)) (mvT hZ (ww 2 rfl)) (mvT hZ (ww 3 rfl)) (mvT hZ (ww 4 rfl)) (by decide) (backOf (W := 2) (rm_at l Z av0 hw [] q0 (4 : Int32) hc306 n0 (Nat.le_trans Z0 Kc306.1) ) hZ (ww 4 rfl) (ww 3 rfl) (by decide) (by decide)) (g := (mkF m 47 #[.val (.long q0), .second, .val (.long q1), .second, .val (.long q2), .second, iv p3, rv b1, .unset, .unset, .unset, .unset, .unset, .unset] [(.int (4 : Int32)), (.long q0), (.int (4 : Int32)), (.ref b1)])) rfl (by rw [hml]; rfl) (argsL := [(.long q0), (.int (4 : Int32))]) (rest := [(.int (4 : Int32)), (.ref b1)]) (lenOf own_pd10 rfl) rfl (by show 2 * 0 + _ ≤ _; exact Nat.le_of_eq rfl) (hb hby at_47) (fun _ _ => ⟨rfl, ec306, (by decide : 1 + 0 ≤ _), (by decide : 32 + 0 ≤ _)⟩)
    dsimp only [Pt.U, Pt.locs, Pt.cells, Pt.slots] at X307 l307 y307 z307 st307 hQ307
    subst l307 y307 z307
    obtain ⟨r307, rfl, N307q, e307, hp307⟩ := hQ307
    have N307 := Fr.app Nc306 N307q
    refine ownGoW (T' := T307) (f' := (mkF m 50 #[.val (.long q0), .second, .val (.long q1), .second, .val (.long q2), .second, iv p3, rv b1, .unset, .unset, .unset, .unset, .unset, .unset] [(.int r307), (.int (4 : Int32)), (.ref b1)])) (st307) ?_
    obtain ⟨T308, h308, X308, e308, W308, F308s, st308⟩ := ownCastore Fc306_2 X307 hx hZ e307 (j := (4 : Int32)) (by unfold ownIn; decide) (g := (mkF m 50 #[.val (.long q0), .second, .val (.long q1), .second, .val (.long q2), .second, iv p3, rv b1, .unset, .unset, .unset, .unset, .unset, .unset] [(.int r307), (.int (4 : Int32)), (.ref b1)])) rfl rfl (hb hby at_50)
    rw [own_nar hp307] at F308s
    have F308r : ownAI Z h308 b1 .char 32 (ownUpd gq4 4 r307) := F308s
    have N308 := Fr.snoc X308 N307 G_b1
    have K308 : Keep h0 h308 [] := Kc306.wr W308 (Or.inr sz_b1)
    have F309 : Sta Z h308 "java/lang/String" "COMPACT_STRINGS" "Z" (.int zc) := Fc306_0.wr W308
    have F310 : Sta Z h308 "jdk/internal/util/Preconditions" "SIOOBE_FORMATTER" "Ljava/util/function/BiFunction;" fm := Fc306_1.wr W308
    refine ownGoW (T' := T308) (f' := (mkF m 51 #[.val (.long q0), .second, .val (.long q1), .second, .val (.long q2), .second, iv p3, rv b1, .unset, .unset, .unset, .unset, .unset, .unset] [])) (st308) ?_
    obtain ⟨gg311, FA311, ok311⟩ : ∃ gg, ownAI Z h308 b1 .char 32 gg ∧ ∀ k, k < 5 → own_okb (gg k) = true := ⟨_, F308r, own_okU (j := 4) hp307 okq4⟩
    refine ow_aloadW (q := 53) X308 hx (hb hby at_51) rfl rfl rfl ?_
    refine ow_iconstW (q := 54) X308 hx (5 : Int32) (hb hby at_53) rfl rfl ?_
    refine ow_lloadNW (q := 55) X308 hx (hb hby at_54) rfl rfl ?_
    refine ow_iconstW (q := 56) X308 hx (5 : Int32) (hb hby at_55) rfl rfl ?_
    obtain ⟨_, _, ⟨T312, L312, k312, n312⟩, -, X312, ⟨Lc312, hQ312, l312, y312, z312⟩, st312⟩ := Jvm.LawKit.callS X308 hx (y := (⟨"com/example/un1son/un1son/CandidateRequireValidIdPinLaw", "at", "(JI)C"⟩ : MethodName)) hown (mvT hZ (ww 1 rfl)) (mvT hZ (ww 2 rfl)) (mvT hZ (ww 3 rfl)) (mvT hZ (ww 4 rfl)) (by decide) (backOf (W := 2) (rm_at l Z av0 hw [] q0 (5 : Int32) h308 n0 (Nat.le_trans Z0 K308.1) ) hZ (ww 4 rfl) (ww 3 rfl) (by decide) (by decide)) (g := (mkF m 56 #[.val (.long q0), .second, .val (.long q1), .second, .val (.long q2), .second, iv p3, rv b1, .unset, .unset, .unset, .unset, .unset, .unset] [(.int (5 : Int32)), (.long q0), (.int (5 : Int32)), (.ref b1)])) rfl (by rw [hml]; rfl) (argsL := [(.long q0), (.int (5 : Int32))]) (rest := [(.int (5 : Int32)), (.ref b1)]) (lenOf own_pd10 rfl) rfl (by show 2 * 0 + _ ≤ _; exact Nat.le_of_eq rfl) (hb hby at_56) (fun _ _ => ⟨rfl, e308, (by decide : 1 + 0 ≤ _), (by decide : 32 + 0 ≤ _)⟩)
    dsimp only [Pt.U, Pt.locs, Pt.cells, Pt.slots] at X312 l312 y312 z312 st312 hQ312
    subst l312 y312 z312
    obtain ⟨r312, rfl, N312q, e312, hp312⟩ := hQ312
    have N312 := Fr.app N308 N312q
    refine ownGoW (T' := T312) (f' := (mkF m 59 #[.val (.long q0), .second, .val (.long q1), .second, .val (.long q2), .second, iv p3, rv b1, .unset, .unset, .unset, .unset, .unset, .unset] [(.int r312), (.int (5 : Int32)), (.ref b1)])) (st312) ?_
    obtain ⟨T313, h313, X313, e313, W313, F313s, st313⟩ := ownCastore FA311 X312 hx hZ e312 (j := (5 : Int32)) (by unfold ownIn; decide) (g := (mkF m 59 #[.val (.long q0), .second, .val (.long q1), .second, .val (.long q2), .second, iv p3, rv b1, .unset, .unset, .unset, .unset, .unset, .unset] [(.int r312), (.int (5 : Int32)), (.ref b1)])) rfl rfl (hb hby at_59)
    rw [own_nar hp312] at F313s
    have F313r : ownAI Z h313 b1 .char 32 (ownUpd gg311 5 r312) := F313s
    have N313 := Fr.snoc X313 N312 G_b1
    have K313 : Keep h0 h313 [] := K308.wr W313 (Or.inr sz_b1)
    have F314 : Sta Z h313 "java/lang/String" "COMPACT_STRINGS" "Z" (.int zc) := F309.wr W313
    have F315 : Sta Z h313 "jdk/internal/util/Preconditions" "SIOOBE_FORMATTER" "Ljava/util/function/BiFunction;" fm := F310.wr W313
    refine ownGoW (T' := T313) (f' := (mkF m 60 #[.val (.long q0), .second, .val (.long q1), .second, .val (.long q2), .second, iv p3, rv b1, .unset, .unset, .unset, .unset, .unset, .unset] [])) (st313) ?_
    obtain ⟨gg316, FA316, ok316⟩ : ∃ gg, ownAI Z h313 b1 .char 32 gg ∧ ∀ k, k < 6 → own_okb (gg k) = true := ⟨_, F313r, own_okU (j := 5) hp312 ok311⟩
    refine ow_aloadW (q := 62) X313 hx (hb hby at_60) rfl rfl rfl ?_
    refine ow_bipushW (q := 64) X313 hx (6 : Int32) (hb hby at_62) rfl rfl ?_
    refine ow_lloadNW (q := 65) X313 hx (hb hby at_64) rfl rfl ?_
    refine ow_bipushW (q := 67) X313 hx (6 : Int32) (hb hby at_65) rfl rfl ?_
    obtain ⟨_, _, ⟨T317, L317, k317, n317⟩, -, X317, ⟨Lc317, hQ317, l317, y317, z317⟩, st317⟩ := Jvm.LawKit.callS X313 hx (y := (⟨"com/example/un1son/un1son/CandidateRequireValidIdPinLaw", "at", "(JI)C"⟩ : MethodName)) hown (mvT hZ (ww 1 rfl)) (mvT hZ (ww 2 rfl)) (mvT hZ (ww 3 rfl)) (mvT hZ (ww 4 rfl)) (by decide) (backOf (W := 2) (rm_at l Z av0 hw [] q0 (6 : Int32) h313 n0 (Nat.le_trans Z0 K313.1) ) hZ (ww 4 rfl) (ww 3 rfl) (by decide) (by decide)) (g := (mkF m 67 #[.val (.long q0), .second, .val (.long q1), .second, .val (.long q2), .second, iv p3, rv b1, .unset, .unset, .unset, .unset, .unset, .unset] [(.int (6 : Int32)), (.long q0), (.int (6 : Int32)), (.ref b1)])) rfl (by rw [hml]; rfl) (argsL := [(.long q0), (.int (6 : Int32))]) (rest := [(.int (6 : Int32)), (.ref b1)]) (lenOf own_pd10 rfl) rfl (by show 2 * 0 + _ ≤ _; exact Nat.le_of_eq rfl) (hb hby at_67) (fun _ _ => ⟨rfl, e313, (by decide : 1 + 0 ≤ _), (by decide : 32 + 0 ≤ _)⟩)
    dsimp only [Pt.U, Pt.locs, Pt.cells, Pt.slots] at X317 l317 y317 z317 st317 hQ317
    subst l317 y317 z317
    obtain ⟨r317, rfl, N317q, e317, hp317⟩ := hQ317
    have N317 := Fr.app N313 N317q
    refine ownGoW (T' := T317) (f' := (mkF m 70 #[.val (.long q0), .second, .val (.long q1), .second, .val (.long q2), .second, iv p3, rv b1, .unset, .unset, .unset, .unset, .unset, .unset] [(.int r317), (.int (6 : Int32)), (.ref b1)])) (st317) ?_
    obtain ⟨T318, h318, X318, e318, W318, F318s, st318⟩ := ownCastore FA316 X317 hx hZ e317 (j := (6 : Int32)) (by unfold ownIn; decide) (g := (mkF m 70 #[.val (.long q0), .second, .val (.long q1), .second, .val (.long q2), .second, iv p3, rv b1, .unset, .unset, .unset, .unset, .unset, .unset] [(.int r317), (.int (6 : Int32)), (.ref b1)])) rfl rfl (hb hby at_70)
    rw [own_nar hp317] at F318s
    have F318r : ownAI Z h318 b1 .char 32 (ownUpd gg316 6 r317) := F318s
    have N318 := Fr.snoc X318 N317 G_b1
    have K318 : Keep h0 h318 [] := K313.wr W318 (Or.inr sz_b1)
    have F319 : Sta Z h318 "java/lang/String" "COMPACT_STRINGS" "Z" (.int zc) := F314.wr W318
    have F320 : Sta Z h318 "jdk/internal/util/Preconditions" "SIOOBE_FORMATTER" "Ljava/util/function/BiFunction;" fm := F315.wr W318
    refine ownGoW (T' := T318) (f' := (mkF m 71 #[.val (.long q0), .second, .val (.long q1), .second, .val (.long q2), .second, iv p3, rv b1, .unset, .unset, .unset, .unset, .unset, .unset] [])) (st318) ?_
    obtain ⟨gg321, FA321, ok321⟩ : ∃ gg, ownAI Z h318 b1 .char 32 gg ∧ ∀ k, k < 7 → own_okb (gg k) = true := ⟨_, F318r, own_okU (j := 6) hp317 ok316⟩
    refine ow_aloadW (q := 73) X318 hx (hb hby at_71) rfl rfl rfl ?_
    refine ow_bipushW (q := 75) X318 hx (7 : Int32) (hb hby at_73) rfl rfl ?_
    refine ow_lloadNW (q := 76) X318 hx (hb hby at_75) rfl rfl ?_
    refine ow_bipushW (q := 78) X318 hx (7 : Int32) (hb hby at_76) rfl rfl ?_
    obtain ⟨_, _, ⟨T322, L322, k322, n322⟩, -, X322, ⟨Lc322, hQ322, l322, y322, z322⟩, st322⟩ := Jvm.LawKit.callS X318 hx (y := (⟨"com/example/un1son/un1son/CandidateRequireValidIdPinLaw", "at", "(JI)C"⟩ : MethodName)) hown (mvT hZ (ww 1 rfl)) (mvT hZ (ww 2 rfl)) (mvT hZ (ww 3 rfl)) (mvT hZ (ww 4 rfl)) (by decide) (backOf (W := 2) (rm_at l Z av0 hw [] q0 (7 : Int32) h318 n0 (Nat.le_trans Z0 K318.1) ) hZ (ww 4 rfl) (ww 3 rfl) (by decide) (by decide)) (g := (mkF m 78 #[.val (.long q0), .second, .val (.long q1), .second, .val (.long q2), .second, iv p3, rv b1, .unset, .unset, .unset, .unset, .unset, .unset] [(.int (7 : Int32)), (.long q0), (.int (7 : Int32)), (.ref b1)])) rfl (by rw [hml]; rfl) (argsL := [(.long q0), (.int (7 : Int32))]) (rest := [(.int (7 : Int32)), (.ref b1)]) (lenOf own_pd10 rfl) rfl (by show 2 * 0 + _ ≤ _; exact Nat.le_of_eq rfl) (hb hby at_78) (fun _ _ => ⟨rfl, e318, (by decide : 1 + 0 ≤ _), (by decide : 32 + 0 ≤ _)⟩)
    dsimp only [Pt.U, Pt.locs, Pt.cells, Pt.slots] at X322 l322 y322 z322 st322 hQ322
    subst l322 y322 z322
    obtain ⟨r322, rfl, N322q, e322, hp322⟩ := hQ322
    have N322 := Fr.app N318 N322q
    refine ownGoW (T' := T322) (f' := (mkF m 81 #[.val (.long q0), .second, .val (.long q1), .second, .val (.long q2), .second, iv p3, rv b1, .unset, .unset, .unset, .unset, .unset, .unset] [(.int r322), (.int (7 : Int32)), (.ref b1)])) (st322) ?_
    obtain ⟨T323, h323, X323, e323, W323, F323s, st323⟩ := ownCastore FA321 X322 hx hZ e322 (j := (7 : Int32)) (by unfold ownIn; decide) (g := (mkF m 81 #[.val (.long q0), .second, .val (.long q1), .second, .val (.long q2), .second, iv p3, rv b1, .unset, .unset, .unset, .unset, .unset, .unset] [(.int r322), (.int (7 : Int32)), (.ref b1)])) rfl rfl (hb hby at_81)
    rw [own_nar hp322] at F323s
    have F323r : ownAI Z h323 b1 .char 32 (ownUpd gg321 7 r322) := F323s
    have N323 := Fr.snoc X323 N322 G_b1
    have K323 : Keep h0 h323 [] := K318.wr W323 (Or.inr sz_b1)
    have F324 : Sta Z h323 "java/lang/String" "COMPACT_STRINGS" "Z" (.int zc) := F319.wr W323
    have F325 : Sta Z h323 "jdk/internal/util/Preconditions" "SIOOBE_FORMATTER" "Ljava/util/function/BiFunction;" fm := F320.wr W323
    refine ownGoW (T' := T323) (f' := (mkF m 82 #[.val (.long q0), .second, .val (.long q1), .second, .val (.long q2), .second, iv p3, rv b1, .unset, .unset, .unset, .unset, .unset, .unset] [])) (st323) ?_
    exact cut82_286 (ownUpd gg321 7 r322) _ _ _ X323 e323 N323 K323 F324 F325 F323r (own_okU (j := 7) hp322 ok321)
  refine ow_aloadW (q := 8) X1 hx (hb hby at_6) rfl rfl rfl ?_
  refine ow_iconstW (q := 9) X1 hx (0 : Int32) (hb hby at_8) rfl rfl ?_
  refine ow_lloadNW (q := 10) X1 hx (hb hby at_9) rfl rfl ?_
  refine ow_iconstW (q := 11) X1 hx (0 : Int32) (hb hby at_10) rfl rfl ?_
  obtain ⟨_, _, ⟨T326, L326, k326, n326⟩, -, X326, ⟨Lc326, hQ326, l326, y326, z326⟩, st326⟩ := Jvm.LawKit.callS X1 hx (y := (⟨"com/example/un1son/un1son/CandidateRequireValidIdPinLaw", "at", "(JI)C"⟩ : MethodName)) hown (mvT hZ (ww 1 rfl)) (mvT hZ (ww 2 rfl)) (mvT hZ (ww 3 rfl)) (mvT hZ (ww 4 rfl)) (by decide) (backOf (W := 2) (rm_at l Z av0 hw [] q0 (0 : Int32) h1 n0 (Nat.le_trans Z0 K1.1) ) hZ (ww 4 rfl) (ww 3 rfl) (by decide) (by decide)) (g := (mkF m 11 #[.val (.long q0), .second, .val (.long q1), .second, .val (.long q2), .second, iv p3, rv b1, .unset, .unset, .unset, .unset, .unset, .unset] [(.int (0 : Int32)), (.long q0), (.int (0 : Int32)), (.ref b1)])) rfl (by rw [hml]; rfl) (argsL := [(.long q0), (.int (0 : Int32))]) (rest := [(.int (0 : Int32)), (.ref b1)]) (lenOf own_pd10 rfl) rfl (by show 2 * 0 + _ ≤ _; exact Nat.le_of_eq rfl) (hb hby at_11) (fun _ _ => ⟨rfl, e1, (by decide : 1 + 0 ≤ _), (by decide : 32 + 0 ≤ _)⟩)
  dsimp only [Pt.U, Pt.locs, Pt.cells, Pt.slots] at X326 l326 y326 z326 st326 hQ326
  subst l326 y326 z326
  obtain ⟨r326, rfl, N326q, e326, hp326⟩ := hQ326
  have N326 := Fr.app N0 N326q
  refine ownGoW (T' := T326) (f' := (mkF m 14 #[.val (.long q0), .second, .val (.long q1), .second, .val (.long q2), .second, iv p3, rv b1, .unset, .unset, .unset, .unset, .unset, .unset] [(.int r326), (.int (0 : Int32)), (.ref b1)])) (st326) ?_
  obtain ⟨T327, h327, X327, e327, W327, F327s, st327⟩ := ownCastore F4 X326 hx hZ e326 (j := (0 : Int32)) (by unfold ownIn; decide) (g := (mkF m 14 #[.val (.long q0), .second, .val (.long q1), .second, .val (.long q2), .second, iv p3, rv b1, .unset, .unset, .unset, .unset, .unset, .unset] [(.int r326), (.int (0 : Int32)), (.ref b1)])) rfl rfl (hb hby at_14)
  rw [own_nar hp326] at F327s
  have F327r : ownAI Z h327 b1 .char 32 (ownUpd (fun _ => (0 : Int32)) 0 r326) := F327s
  have N327 := Fr.snoc X327 N326 G_b1
  have K327 : Keep h0 h327 [] := K1.wr W327 (Or.inr sz_b1)
  have F328 : Sta Z h327 "java/lang/String" "COMPACT_STRINGS" "Z" (.int zc) := F2.wr W327
  have F329 : Sta Z h327 "jdk/internal/util/Preconditions" "SIOOBE_FORMATTER" "Ljava/util/function/BiFunction;" fm := F3.wr W327
  refine ownGoW (T' := T327) (f' := (mkF m 15 #[.val (.long q0), .second, .val (.long q1), .second, .val (.long q2), .second, iv p3, rv b1, .unset, .unset, .unset, .unset, .unset, .unset] [])) (st327) ?_
  obtain ⟨gg330, FA330, ok330⟩ : ∃ gg, ownAI Z h327 b1 .char 32 gg ∧ ∀ k, k < 1 → own_okb (gg k) = true := ⟨_, F327r, own_okU (j := 0) hp326 (fun k hk => absurd hk (Nat.not_lt_zero _))⟩
  refine ow_aloadW (q := 17) X327 hx (hb hby at_15) rfl rfl rfl ?_
  refine ow_iconstW (q := 18) X327 hx (1 : Int32) (hb hby at_17) rfl rfl ?_
  refine ow_lloadNW (q := 19) X327 hx (hb hby at_18) rfl rfl ?_
  refine ow_iconstW (q := 20) X327 hx (1 : Int32) (hb hby at_19) rfl rfl ?_
  obtain ⟨_, _, ⟨T331, L331, k331, n331⟩, -, X331, ⟨Lc331, hQ331, l331, y331, z331⟩, st331⟩ := Jvm.LawKit.callS X327 hx (y := (⟨"com/example/un1son/un1son/CandidateRequireValidIdPinLaw", "at", "(JI)C"⟩ : MethodName)) hown (mvT hZ (ww 1 rfl)) (mvT hZ (ww 2 rfl)) (mvT hZ (ww 3 rfl)) (mvT hZ (ww 4 rfl)) (by decide) (backOf (W := 2) (rm_at l Z av0 hw [] q0 (1 : Int32) h327 n0 (Nat.le_trans Z0 K327.1) ) hZ (ww 4 rfl) (ww 3 rfl) (by decide) (by decide)) (g := (mkF m 20 #[.val (.long q0), .second, .val (.long q1), .second, .val (.long q2), .second, iv p3, rv b1, .unset, .unset, .unset, .unset, .unset, .unset] [(.int (1 : Int32)), (.long q0), (.int (1 : Int32)), (.ref b1)])) rfl (by rw [hml]; rfl) (argsL := [(.long q0), (.int (1 : Int32))]) (rest := [(.int (1 : Int32)), (.ref b1)]) (lenOf own_pd10 rfl) rfl (by show 2 * 0 + _ ≤ _; exact Nat.le_of_eq rfl) (hb hby at_20) (fun _ _ => ⟨rfl, e327, (by decide : 1 + 0 ≤ _), (by decide : 32 + 0 ≤ _)⟩)
  dsimp only [Pt.U, Pt.locs, Pt.cells, Pt.slots] at X331 l331 y331 z331 st331 hQ331
  subst l331 y331 z331
  obtain ⟨r331, rfl, N331q, e331, hp331⟩ := hQ331
  have N331 := Fr.app N327 N331q
  refine ownGoW (T' := T331) (f' := (mkF m 23 #[.val (.long q0), .second, .val (.long q1), .second, .val (.long q2), .second, iv p3, rv b1, .unset, .unset, .unset, .unset, .unset, .unset] [(.int r331), (.int (1 : Int32)), (.ref b1)])) (st331) ?_
  obtain ⟨T332, h332, X332, e332, W332, F332s, st332⟩ := ownCastore FA330 X331 hx hZ e331 (j := (1 : Int32)) (by unfold ownIn; decide) (g := (mkF m 23 #[.val (.long q0), .second, .val (.long q1), .second, .val (.long q2), .second, iv p3, rv b1, .unset, .unset, .unset, .unset, .unset, .unset] [(.int r331), (.int (1 : Int32)), (.ref b1)])) rfl rfl (hb hby at_23)
  rw [own_nar hp331] at F332s
  have F332r : ownAI Z h332 b1 .char 32 (ownUpd gg330 1 r331) := F332s
  have N332 := Fr.snoc X332 N331 G_b1
  have K332 : Keep h0 h332 [] := K327.wr W332 (Or.inr sz_b1)
  have F333 : Sta Z h332 "java/lang/String" "COMPACT_STRINGS" "Z" (.int zc) := F328.wr W332
  have F334 : Sta Z h332 "jdk/internal/util/Preconditions" "SIOOBE_FORMATTER" "Ljava/util/function/BiFunction;" fm := F329.wr W332
  refine ownGoW (T' := T332) (f' := (mkF m 24 #[.val (.long q0), .second, .val (.long q1), .second, .val (.long q2), .second, iv p3, rv b1, .unset, .unset, .unset, .unset, .unset, .unset] [])) (st332) ?_
  obtain ⟨gg335, FA335, ok335⟩ : ∃ gg, ownAI Z h332 b1 .char 32 gg ∧ ∀ k, k < 2 → own_okb (gg k) = true := ⟨_, F332r, own_okU (j := 1) hp331 ok330⟩
  refine ow_aloadW (q := 26) X332 hx (hb hby at_24) rfl rfl rfl ?_
  refine ow_iconstW (q := 27) X332 hx (2 : Int32) (hb hby at_26) rfl rfl ?_
  refine ow_lloadNW (q := 28) X332 hx (hb hby at_27) rfl rfl ?_
  refine ow_iconstW (q := 29) X332 hx (2 : Int32) (hb hby at_28) rfl rfl ?_
  obtain ⟨_, _, ⟨T336, L336, k336, n336⟩, -, X336, ⟨Lc336, hQ336, l336, y336, z336⟩, st336⟩ := Jvm.LawKit.callS X332 hx (y := (⟨"com/example/un1son/un1son/CandidateRequireValidIdPinLaw", "at", "(JI)C"⟩ : MethodName)) hown (mvT hZ (ww 1 rfl)) (mvT hZ (ww 2 rfl)) (mvT hZ (ww 3 rfl)) (mvT hZ (ww 4 rfl)) (by decide) (backOf (W := 2) (rm_at l Z av0 hw [] q0 (2 : Int32) h332 n0 (Nat.le_trans Z0 K332.1) ) hZ (ww 4 rfl) (ww 3 rfl) (by decide) (by decide)) (g := (mkF m 29 #[.val (.long q0), .second, .val (.long q1), .second, .val (.long q2), .second, iv p3, rv b1, .unset, .unset, .unset, .unset, .unset, .unset] [(.int (2 : Int32)), (.long q0), (.int (2 : Int32)), (.ref b1)])) rfl (by rw [hml]; rfl) (argsL := [(.long q0), (.int (2 : Int32))]) (rest := [(.int (2 : Int32)), (.ref b1)]) (lenOf own_pd10 rfl) rfl (by show 2 * 0 + _ ≤ _; exact Nat.le_of_eq rfl) (hb hby at_29) (fun _ _ => ⟨rfl, e332, (by decide : 1 + 0 ≤ _), (by decide : 32 + 0 ≤ _)⟩)
  dsimp only [Pt.U, Pt.locs, Pt.cells, Pt.slots] at X336 l336 y336 z336 st336 hQ336
  subst l336 y336 z336
  obtain ⟨r336, rfl, N336q, e336, hp336⟩ := hQ336
  have N336 := Fr.app N332 N336q
  refine ownGoW (T' := T336) (f' := (mkF m 32 #[.val (.long q0), .second, .val (.long q1), .second, .val (.long q2), .second, iv p3, rv b1, .unset, .unset, .unset, .unset, .unset, .unset] [(.int r336), (.int (2 : Int32)), (.ref b1)])) (st336) ?_
  obtain ⟨T337, h337, X337, e337, W337, F337s, st337⟩ := ownCastore FA335 X336 hx hZ e336 (j := (2 : Int32)) (by unfold ownIn; decide) (g := (mkF m 32 #[.val (.long q0), .second, .val (.long q1), .second, .val (.long q2), .second, iv p3, rv b1, .unset, .unset, .unset, .unset, .unset, .unset] [(.int r336), (.int (2 : Int32)), (.ref b1)])) rfl rfl (hb hby at_32)
  rw [own_nar hp336] at F337s
  have F337r : ownAI Z h337 b1 .char 32 (ownUpd gg335 2 r336) := F337s
  have N337 := Fr.snoc X337 N336 G_b1
  have K337 : Keep h0 h337 [] := K332.wr W337 (Or.inr sz_b1)
  have F338 : Sta Z h337 "java/lang/String" "COMPACT_STRINGS" "Z" (.int zc) := F333.wr W337
  have F339 : Sta Z h337 "jdk/internal/util/Preconditions" "SIOOBE_FORMATTER" "Ljava/util/function/BiFunction;" fm := F334.wr W337
  refine ownGoW (T' := T337) (f' := (mkF m 33 #[.val (.long q0), .second, .val (.long q1), .second, .val (.long q2), .second, iv p3, rv b1, .unset, .unset, .unset, .unset, .unset, .unset] [])) (st337) ?_
  obtain ⟨gg340, FA340, ok340⟩ : ∃ gg, ownAI Z h337 b1 .char 32 gg ∧ ∀ k, k < 3 → own_okb (gg k) = true := ⟨_, F337r, own_okU (j := 2) hp336 ok335⟩
  refine ow_aloadW (q := 35) X337 hx (hb hby at_33) rfl rfl rfl ?_
  refine ow_iconstW (q := 36) X337 hx (3 : Int32) (hb hby at_35) rfl rfl ?_
  refine ow_lloadNW (q := 37) X337 hx (hb hby at_36) rfl rfl ?_
  refine ow_iconstW (q := 38) X337 hx (3 : Int32) (hb hby at_37) rfl rfl ?_
  obtain ⟨_, _, ⟨T341, L341, k341, n341⟩, -, X341, ⟨Lc341, hQ341, l341, y341, z341⟩, st341⟩ := Jvm.LawKit.callS X337 hx (y := (⟨"com/example/un1son/un1son/CandidateRequireValidIdPinLaw", "at", "(JI)C"⟩ : MethodName)) hown (mvT hZ (ww 1 rfl)) (mvT hZ (ww 2 rfl)) (mvT hZ (ww 3 rfl)) (mvT hZ (ww 4 rfl)) (by decide) (backOf (W := 2) (rm_at l Z av0 hw [] q0 (3 : Int32) h337 n0 (Nat.le_trans Z0 K337.1) ) hZ (ww 4 rfl) (ww 3 rfl) (by decide) (by decide)) (g := (mkF m 38 #[.val (.long q0), .second, .val (.long q1), .second, .val (.long q2), .second, iv p3, rv b1, .unset, .unset, .unset, .unset, .unset, .unset] [(.int (3 : Int32)), (.long q0), (.int (3 : Int32)), (.ref b1)])) rfl (by rw [hml]; rfl) (argsL := [(.long q0), (.int (3 : Int32))]) (rest := [(.int (3 : Int32)), (.ref b1)]) (lenOf own_pd10 rfl) rfl (by show 2 * 0 + _ ≤ _; exact Nat.le_of_eq rfl) (hb hby at_38) (fun _ _ => ⟨rfl, e337, (by decide : 1 + 0 ≤ _), (by decide : 32 + 0 ≤ _)⟩)
  dsimp only [Pt.U, Pt.locs, Pt.cells, Pt.slots] at X341 l341 y341 z341 st341 hQ341
  subst l341 y341 z341
  obtain ⟨r341, rfl, N341q, e341, hp341⟩ := hQ341
  have N341 := Fr.app N337 N341q
  refine ownGoW (T' := T341) (f' := (mkF m 41 #[.val (.long q0), .second, .val (.long q1), .second, .val (.long q2), .second, iv p3, rv b1, .unset, .unset, .unset, .unset, .unset, .unset] [(.int r341), (.int (3 : Int32)), (.ref b1)])) (st341) ?_
  obtain ⟨T342, h342, X342, e342, W342, F342s, st342⟩ := ownCastore FA340 X341 hx hZ e341 (j := (3 : Int32)) (by unfold ownIn; decide) (g := (mkF m 41 #[.val (.long q0), .second, .val (.long q1), .second, .val (.long q2), .second, iv p3, rv b1, .unset, .unset, .unset, .unset, .unset, .unset] [(.int r341), (.int (3 : Int32)), (.ref b1)])) rfl rfl (hb hby at_41)
  rw [own_nar hp341] at F342s
  have F342r : ownAI Z h342 b1 .char 32 (ownUpd gg340 3 r341) := F342s
  have N342 := Fr.snoc X342 N341 G_b1
  have K342 : Keep h0 h342 [] := K337.wr W342 (Or.inr sz_b1)
  have F343 : Sta Z h342 "java/lang/String" "COMPACT_STRINGS" "Z" (.int zc) := F338.wr W342
  have F344 : Sta Z h342 "jdk/internal/util/Preconditions" "SIOOBE_FORMATTER" "Ljava/util/function/BiFunction;" fm := F339.wr W342
  refine ownGoW (T' := T342) (f' := (mkF m 42 #[.val (.long q0), .second, .val (.long q1), .second, .val (.long q2), .second, iv p3, rv b1, .unset, .unset, .unset, .unset, .unset, .unset] [])) (st342) ?_
  exact cut42_306 (ownUpd gg340 3 r341) _ _ _ X342 e342 N342 K342 F343 F344 F342r (own_okU (j := 3) hp341 ok340)
set_option maxRecDepth 65536 in
set_option maxHeartbeats 40000000 in
theorem comes_1 {Post : Tables → Env → Array Value → State → Outcome → State → Prop} (hpost : ∀ tb e args s v u, (limb_1_1.after args s (.returned v) u = true ∧ limb_1_2.after args s (.returned v) u = true ∧ True) → ReturnedEndW s (.returned v) u (Jvm.fieldLocs frame_1_writes args s ++ Jvm.arrayLocs frame_1_arrays args s ++ Jvm.staticLocs frame_1_statics s) 24 1280 → Post tb e args s (.returned v) u) :
    ArmFor flags0 classFile x code maxLocals ret World_1 tables_1 room_1 Calls_1 rest_1 Pre_1 Post := by
  intro l hfl _ _ p e ha hc hk s m args below hf hA hF happ hP
  obtain ⟨hcalls, hrest, hpre⟩ := hP
  obtain ⟨-, -, -, hnamed, -, -, -, hat⟩ := (Spec.applies_iff hf).mp happ
  obtain ⟨hg, hn⟩ := and_e (Cond.before_iff.mp (show (Jvm.Cond.and given_1 narrow_1).before args s = true from hpre))
  obtain ⟨gg1, gg2⟩ := and_e hg
  obtain ⟨gg3, gg4⟩ := and_e gg2
  obtain ⟨gg5, gg6⟩ := and_e gg4
  obtain ⟨gg7, gg8⟩ := and_e gg6
  obtain ⟨w0, w1, w2, w3, rfl⟩ : ∃ w0 w1 w2 w3 : Value, args = #[w0, w1, w2, w3] := by
    have hs : args.size = 4 := by simpa [Cond.value, given_1] using gg1
    obtain ⟨L⟩ := args
    match L, hs with
    | [w0, w1, w2, w3], _ => exact ⟨w0, w1, w2, w3, rfl⟩
  have hw := fun d (hd : d ∈ tables_1) => atoms_spec (ws := Jvm.Cond.code x code maxLocals ret :: tables_1) hat d (List.mem_cons_of_mem _ hd)
  have hfit : Fit s := fun {y c} hc i hi => by
    obtain ⟨ha, rfl⟩ := Array.getElem?_eq_some_iff.mp hc
    have q := List.all_eq_true.mp ((Array.all_eq_true_iff_forall_mem.mp hF) _ (Array.getElem_mem ha)) i (List.mem_range.mpr hi)
    simpa [Array.getElem?_eq_getElem hi] using q
  obtain ⟨hsets, hown0⟩ := atoms_of _ (rest_1_c_eq ▸ (show rest_1_c.before _ s = true from hrest))
  have hr0 := Cond.before_iff.mp hown0
  obtain ⟨i0, ei0⟩ := isL_v gg3
  obtain rfl : w0 = (.long i0) := Option.some.inj ei0
  obtain ⟨i1, ei1⟩ := isL_v gg5
  obtain rfl : w1 = (.long i1) := Option.some.inj ei1
  obtain ⟨i2, ei2⟩ := isL_v gg7
  obtain rfl : w2 = (.long i2) := Option.some.inj ei2
  obtain ⟨i3, ei3⟩ := is_v gg8
  obtain rfl : w3 = (.int i3) := Option.some.inj ei3
  have n5 := not_v (Cond.before_iff.mp (hsets _ (List.mem_of_getElem? (i := 2) rfl)))
  obtain ⟨zc, ezc⟩ := is_v (Cond.before_iff.mp (hsets _ (List.mem_of_getElem? (i := 1) rfl)))
  have SC : Sta s s.heap "java/lang/String" "COMPACT_STRINGS" "Z" (.int zc) := Sta.start ezc (Or.inl (hsets _ (List.mem_of_getElem? (i := 0) rfl)))
  obtain ⟨fm, efm, hrf⟩ := isR_v (Cond.before_iff.mp (hsets _ (List.mem_of_getElem? (i := 8) rfl)))
  have SF : Sta s s.heap "jdk/internal/util/Preconditions" "SIOOBE_FORMATTER" "Ljava/util/function/BiFunction;" fm := Sta.start efm (Or.inl (hsets _ (List.mem_of_getElem? (i := 7) rfl)))
  have hzc : ¬ (zc = (0 : Int32)) := gotF (Cond.eq_ints ezc (Term.int_eval (0))) n5
  obtain ⟨n, o, h1, h2, h3, _, L, rfl, ⟨rfl, N⟩, hq⟩ := rm_law l s _ hw tables_1 i0 i1 i2 i3 zc fm s.heap s.heap.size (Nat.le_refl _) SC SF hzc hrf p e ha hc hk s m _ below hf ((Spec.applies_iff_loose hf).mp happ).1 ⟨rfl, State.Warmed39.refl s, rfl⟩ trivial
  refine ⟨n, _, h1, h2, h3, hpost _ _ _ _ _ _ ⟨Cond.after_iff.mpr rfl, Cond.after_iff.mpr (eq_i res_at (Term.int_eval (1)) rfl), trivial⟩ ⟨hq.1, hq.2.1, hq.2.2.1, (hq.2.2.2.sift fun y hy => Or.inr (N y hy)).mono (by decide) (by decide)⟩⟩
theorem main_1_1 : Claimed_1_1 := comes_1 fun _ _ _ _ _ _ h hF => ⟨h.1, hF⟩
theorem main_1_2 : Claimed_1_2 := comes_1 fun _ _ _ _ _ _ h hF => ⟨h.2.1, hF⟩
end Jvm.Pilot.@@N@@
namespace Jvm.Pilot.@@N@@
open Jvm Jvm.ClassFile Sem Op Lib Jvm.Free Jvm.Stand Jvm.Pilot.@@N@@.Jvm.D
/-! MADE BY PROGRAM (witnessworld.py) out of the Statement's table words and the real class files: 22 classes; the members and pool entries that the words name. The judged class is class 1, her method 3. -/
namespace start1
open Jvm.ClassFile
def u (s : String) : CpInfo := .utf8 (stringToUtf16 s)
/-- a pool by its gaps: so many unusable entries, then the entry; so many at the end -/
def gap : Nat → List CpInfo → List CpInfo
  | 0, r => r
  | n + 1, r => .unusable :: gap n r
def poolList (es : List (Nat × CpInfo)) (last : Nat) : List CpInfo := es.foldr (fun e r => gap e.1 (e.2 :: r)) (gap last [])
def pool (es : List (Nat × CpInfo)) (last : Nat) : Array CpInfo := ⟨poolList es last⟩
def fileOf (pool : Array CpInfo) (this : Nat) (attrs : Array Attribute := #[]) (ms : Array MethodInfo := #[]) (fl : Nat := 33) (sup : Nat := 0) (ifs : Array Nat := #[]) (fds : Array FieldInfo := #[]) : ClassFile where
  minorVersion := 0
  majorVersion := 65
  constantPool := pool
  accessFlags := fl
  thisClass := this
  superClass := sup
  interfaces := ifs
  fields := fds
  methods := ms
  attributes := attrs
def plain (name : String) (sup : Option ClassId) : Class where
  name := name
  kind := .ordinary
  loader := none
  accessFlags := 33
  super := sup
  interfaces := #[]
  cf := none
  fields := #[]
  methods := #[]
  instanceTypes := #[]
  staticTypes := #[]
  resolved := #[]
  callSites := []
  init := .initialized
  statics := none
  mirror := none

def pool0 : Array CpInfo := pool [(5, u "<init>"), (0, u "()V"), (1, .class_ 10), (1, u "java/lang/Object")] 113

def k0c0 : Code := { maxStack := 0, maxLocals := 1, code := object_method_1_code, exceptionTable := #[], attributes := #[] }
def k0m0 : Method := { name := "<init>", desc := "()V", sig := { parameters := [], returnType := none }, accessFlags := 1, code := some k0c0 }
/-- java/lang/Object -/
def k0 : Class := { plain "java/lang/Object" none with
  accessFlags := 33
  interfaces := #[]
  cf := some (fileOf pool0 8 #[] #[{ accessFlags := 1, nameIndex := 5, descriptorIndex := 6, attributes := #[] }] 33 0 #[] #[])
  fields := #[]
  methods := #[k0m0]
  instanceTypes := #[]
  staticTypes := #[]
  resolved := Array.replicate 124 none
  statics := none }

def pool1 : Array CpInfo := pool [(2, .class_ 4), (1, u "java/lang/Object"), (0, u "<init>"), (0, u "()V"), (0, .long 63), (1, .methodref 10 11), (0, .class_ 12), (0, .nameAndType 13 14), (0, u "com/example/un1son/un1son/CandidateRequireValidIdPinLaw"), (0, u "alpha"), (0, u "(I)C"), (0, .methodref 10 16), (0, .nameAndType 17 18), (0, u "at"), (0, u "(JI)C"), (0, .class_ 20), (0, u "java/lang/String"), (0, .methodref 19 22), (0, .nameAndType 5 23), (0, u "([C)V"), (0, .methodref 25 26), (0, .class_ 27), (0, .nameAndType 28 29), (0, u "com/example/un1son/un1son/Candidate"), (0, u "requireValidId"), (0, u "(Ljava/lang/String;)Ljava/lang/String;"), (3, u "law"), (0, u "(JJJI)Z")] 4

def k1m0 : Method := { name := "<init>", desc := "()V", sig := { parameters := [], returnType := none }, accessFlags := 2, code := none }
def k1c1 : Code := { maxStack := 3, maxLocals := 1, code := method_2_code, exceptionTable := #[], attributes := #[] }
def k1m1 : Method := { name := "alpha", desc := "(I)C", sig := { parameters := [.int], returnType := some .char }, accessFlags := 10, code := some k1c1 }
def k1c2 : Code := { maxStack := 4, maxLocals := 3, code := method_3_code, exceptionTable := #[], attributes := #[] }
def k1m2 : Method := { name := "at", desc := "(JI)C", sig := { parameters := [.long, .int], returnType := some .char }, accessFlags := 10, code := some k1c2 }
def k1c3 : Code := { maxStack := 5, maxLocals := 14, code := code, exceptionTable := #[], attributes := #[] }
def k1m3 : Method := { name := "law", desc := "(JJJI)Z", sig := { parameters := [.long, .long, .long, .int], returnType := some .boolean }, accessFlags := 9, code := some k1c3 }
/-- com/example/un1son/un1son/CandidateRequireValidIdPinLaw -/
def k1 : Class := { plain "com/example/un1son/un1son/CandidateRequireValidIdPinLaw" (some 0) with
  accessFlags := 49
  interfaces := #[]
  cf := some (fileOf pool1 10 #[] #[{ accessFlags := 2, nameIndex := 5, descriptorIndex := 6, attributes := #[] }, { accessFlags := 10, nameIndex := 13, descriptorIndex := 14, attributes := #[] }, { accessFlags := 10, nameIndex := 17, descriptorIndex := 18, attributes := #[] }, { accessFlags := 9, nameIndex := 33, descriptorIndex := 34, attributes := #[] }] 49 2 #[] #[])
  fields := #[]
  methods := #[k1m0, k1m1, k1m2, k1m3]
  instanceTypes := #[]
  staticTypes := #[]
  resolved := Array.replicate 39 none
  statics := none }

def pool2 : Array CpInfo := pool [(1, .class_ 2), (0, u "java/io/Serializable"), (0, .class_ 4), (0, u "java/lang/Object")] 2

/-- java/io/Serializable -/
def k2 : Class := { plain "java/io/Serializable" (some 0) with
  accessFlags := 1537
  interfaces := #[]
  cf := some (fileOf pool2 1 #[] #[] 1537 3 #[] #[])
  fields := #[]
  methods := #[]
  instanceTypes := #[]
  staticTypes := #[]
  resolved := Array.replicate 7 none
  statics := none }

def pool3 : Array CpInfo := pool [(1, .class_ 2), (0, u "java/lang/Comparable"), (0, .class_ 4), (0, u "java/lang/Object")] 7

/-- java/lang/Comparable -/
def k3 : Class := { plain "java/lang/Comparable" (some 0) with
  accessFlags := 1537
  interfaces := #[]
  cf := some (fileOf pool3 1 #[] #[] 1537 3 #[] #[])
  fields := #[]
  methods := #[]
  instanceTypes := #[]
  staticTypes := #[]
  resolved := Array.replicate 12 none
  statics := none }

def pool4 : Array CpInfo := pool [(2, .class_ 4), (1, u "java/lang/CharSequence"), (42, .class_ 48), (0, u "java/lang/CharSequence$1CodePointIterator"), (10, .class_ 60), (0, u "java/lang/CharSequence$1CharIterator"), (5, .class_ 67), (0, u "java/lang/Object")] 63

/-- java/lang/CharSequence -/
def k4 : Class := { plain "java/lang/CharSequence" (some 0) with
  accessFlags := 1537
  interfaces := #[]
  cf := some (fileOf pool4 2 #[.nestMembers #[47, 59]] #[] 1537 66 #[] #[])
  fields := #[]
  methods := #[]
  instanceTypes := #[]
  staticTypes := #[]
  resolved := Array.replicate 131 none
  statics := none }

def pool5 : Array CpInfo := pool [(1, .class_ 2), (0, u "java/lang/constant/Constable"), (0, .class_ 4), (0, u "java/lang/Object")] 6

/-- java/lang/constant/Constable -/
def k5 : Class := { plain "java/lang/constant/Constable" (some 0) with
  accessFlags := 1537
  interfaces := #[]
  cf := some (fileOf pool5 1 #[] #[] 1537 3 #[] #[])
  fields := #[]
  methods := #[]
  instanceTypes := #[]
  staticTypes := #[]
  resolved := Array.replicate 11 none
  statics := none }

def pool6 : Array CpInfo := pool [(1, .class_ 2), (0, u "java/lang/constant/ConstantDesc"), (0, .class_ 4), (0, u "java/lang/Object")] 32

/-- java/lang/constant/ConstantDesc -/
def k6 : Class := { plain "java/lang/constant/ConstantDesc" (some 0) with
  accessFlags := 1537
  interfaces := #[]
  cf := some (fileOf pool6 1 #[] #[] 1537 3 #[] #[])
  fields := #[]
  methods := #[]
  instanceTypes := #[]
  staticTypes := #[]
  resolved := Array.replicate 37 none
  statics := none }

def pool7 : Array CpInfo := pool [(1, .methodref 2 3), (0, .class_ 4), (0, .nameAndType 5 6), (0, u "java/lang/Object"), (0, u "<init>"), (0, u "()V"), (2, .fieldref 10 11), (0, .class_ 12), (0, .nameAndType 13 14), (0, u "java/lang/String"), (0, u "value"), (0, u "[B"), (0, .fieldref 10 16), (0, .nameAndType 17 18), (0, u "coder"), (0, u "B"), (2, u "hash"), (0, u "I"), (2, u "hashIsZero"), (0, u "Z"), (0, .methodref 10 28), (0, .nameAndType 5 29), (0, u "([CIILjava/lang/Void;)V"), (8, .fieldref 10 39), (0, .nameAndType 40 26), (0, u "COMPACT_STRINGS"), (1, .class_ 44), (1, u "java/lang/StringUTF16"), (0, u "compress"), (1, .methodref 42 48), (0, .nameAndType 49 50), (0, u "coderFromArrayLen"), (0, u "([BI)B"), (56, .class_ 109), (1, u "java/lang/StringLatin1"), (32, u "()Z"), (34, .methodref 42 178), (0, .nameAndType 45 179), (0, u "([CII)[B"), (154, u "()I"), (0, .methodref 10 336), (0, .nameAndType 17 337), (0, u "()B"), (25, u "([BI)C"), (27, u "(II)V"), (35, u "(I)C"), (64, .methodref 10 493), (0, .nameAndType 494 142), (0, u "isLatin1"), (0, .methodref 107 496), (0, .nameAndType 497 363), (0, u "charAt"), (3, u "checkIndex"), (5, u "length"), (67, .class_ 576), (0, u "java/lang/CharSequence"), (22, u "CASE_INSENSITIVE_ORDER"), (0, u "Ljava/util/Comparator;"), (91, u "isEmpty"), (317, u "([C)V"), (42, .fieldref 1054 1055), (0, .class_ 1056), (0, .nameAndType 1057 1058), (0, u "jdk/internal/util/Preconditions"), (0, u "SIOOBE_FORMATTER"), (0, u "Ljava/util/function/BiFunction;"), (0, .methodref 1054 1060), (0, .nameAndType 501 1061), (0, u "(IILjava/util/function/BiFunction;)I"), (39, u "serialPersistentFields"), (0, u "[Ljava/io/ObjectStreamField;"), (0, .class_ 1104), (0, u "java/lang/String$CaseInsensitiveComparator"), (1, .class_ 1107), (0, u "java/io/Serializable"), (0, .class_ 1109), (0, u "java/lang/Comparable"), (0, .class_ 1111), (0, u "java/lang/constant/Constable"), (0, .class_ 1113), (0, u "java/lang/constant/ConstantDesc"), (2, u "serialVersionUID"), (0, u "J"), (3, u "REPL"), (0, u "C"), (2, u "LATIN1"), (1, u "UTF16")] 323

def k7m0 : Method := { name := "<init>", desc := "()V", sig := { parameters := [], returnType := none }, accessFlags := 1, code := none }
def k7c1 : Code := { maxStack := 5, maxLocals := 2, code := jdk_42_method_3_code, exceptionTable := #[], attributes := #[] }
def k7m1 : Method := { name := "<init>", desc := "([C)V", sig := { parameters := [(.array .char)], returnType := none }, accessFlags := 1, code := some k7c1 }
def k7c2 : Code := { maxStack := 2, maxLocals := 1, code := jdk_42_method_54_code, exceptionTable := #[], attributes := #[] }
def k7m2 : Method := { name := "length", desc := "()I", sig := { parameters := [], returnType := some .int }, accessFlags := 1, code := some k7c2 }
def k7c3 : Code := { maxStack := 1, maxLocals := 1, code := jdk_42_method_55_code, exceptionTable := #[], attributes := #[] }
def k7m3 : Method := { name := "isEmpty", desc := "()Z", sig := { parameters := [], returnType := some .boolean }, accessFlags := 1, code := some k7c3 }
def k7c4 : Code := { maxStack := 2, maxLocals := 2, code := jdk_42_method_56_code, exceptionTable := #[], attributes := #[] }
def k7m4 : Method := { name := "charAt", desc := "(I)C", sig := { parameters := [.int], returnType := some .char }, accessFlags := 1, code := some k7c4 }
def k7c5 : Code := { maxStack := 4, maxLocals := 6, code := jdk_42_method_149_code, exceptionTable := #[], attributes := #[] }
def k7m5 : Method := { name := "<init>", desc := "([CIILjava/lang/Void;)V", sig := { parameters := [(.array .char), .int, .int, (.object "java/lang/Void")], returnType := none }, accessFlags := 2, code := some k7c5 }
def k7c6 : Code := { maxStack := 1, maxLocals := 1, code := jdk_42_method_152_code, exceptionTable := #[], attributes := #[] }
def k7m6 : Method := { name := "coder", desc := "()B", sig := { parameters := [], returnType := some .byte }, accessFlags := 0, code := some k7c6 }
def k7c7 : Code := { maxStack := 1, maxLocals := 1, code := jdk_42_method_154_code, exceptionTable := #[], attributes := #[] }
def k7m7 : Method := { name := "isLatin1", desc := "()Z", sig := { parameters := [], returnType := some .boolean }, accessFlags := 0, code := some k7c7 }
def k7c8 : Code := { maxStack := 3, maxLocals := 2, code := jdk_42_method_155_code, exceptionTable := #[], attributes := #[] }
def k7m8 : Method := { name := "checkIndex", desc := "(II)V", sig := { parameters := [.int, .int], returnType := none }, accessFlags := 8, code := some k7c8 }
/-- java/lang/String -/
def k7 : Class := { plain "java/lang/String" (some 0) with
  accessFlags := 49
  interfaces := #[2, 3, 4, 5, 6]
  cf := some (fileOf pool7 10 #[.nestMembers #[1103]] #[{ accessFlags := 1, nameIndex := 5, descriptorIndex := 6, attributes := #[] }, { accessFlags := 1, nameIndex := 5, descriptorIndex := 1010, attributes := #[] }, { accessFlags := 1, nameIndex := 507, descriptorIndex := 334, attributes := #[] }, { accessFlags := 1, nameIndex := 692, descriptorIndex := 142, attributes := #[] }, { accessFlags := 1, nameIndex := 497, descriptorIndex := 427, attributes := #[] }, { accessFlags := 2, nameIndex := 5, descriptorIndex := 29, attributes := #[] }, { accessFlags := 0, nameIndex := 17, descriptorIndex := 337, attributes := #[] }, { accessFlags := 0, nameIndex := 494, descriptorIndex := 142, attributes := #[] }, { accessFlags := 8, nameIndex := 501, descriptorIndex := 391, attributes := #[] }] 49 2 #[1106, 1108, 575, 1110, 1112] #[{ accessFlags := 18, nameIndex := 13, descriptorIndex := 14, attributes := #[] }, { accessFlags := 18, nameIndex := 17, descriptorIndex := 18, attributes := #[] }, { accessFlags := 2, nameIndex := 21, descriptorIndex := 22, attributes := #[] }, { accessFlags := 2, nameIndex := 25, descriptorIndex := 26, attributes := #[] }, { accessFlags := 26, nameIndex := 1116, descriptorIndex := 1117, attributes := #[] }, { accessFlags := 24, nameIndex := 40, descriptorIndex := 26, attributes := #[] }, { accessFlags := 26, nameIndex := 1101, descriptorIndex := 1102, attributes := #[] }, { accessFlags := 26, nameIndex := 1121, descriptorIndex := 1122, attributes := #[] }, { accessFlags := 25, nameIndex := 599, descriptorIndex := 600, attributes := #[] }, { accessFlags := 24, nameIndex := 1125, descriptorIndex := 18, attributes := #[] }, { accessFlags := 24, nameIndex := 1127, descriptorIndex := 18, attributes := #[] }])
  fields := #[{ name := "value", type := (.array .byte), accessFlags := 18, slot := 0, constantValue := 0 }, { name := "coder", type := .byte, accessFlags := 18, slot := 1, constantValue := 0 }, { name := "hash", type := .int, accessFlags := 2, slot := 2, constantValue := 0 }, { name := "hashIsZero", type := .boolean, accessFlags := 2, slot := 3, constantValue := 0 }, { name := "serialVersionUID", type := .long, accessFlags := 26, slot := 0, constantValue := 0 }, { name := "COMPACT_STRINGS", type := .boolean, accessFlags := 24, slot := 1, constantValue := 0 }, { name := "serialPersistentFields", type := (.array (.object "java/io/ObjectStreamField")), accessFlags := 26, slot := 2, constantValue := 0 }, { name := "REPL", type := .char, accessFlags := 26, slot := 3, constantValue := 0 }, { name := "CASE_INSENSITIVE_ORDER", type := (.object "java/util/Comparator"), accessFlags := 25, slot := 4, constantValue := 0 }, { name := "LATIN1", type := .byte, accessFlags := 24, slot := 5, constantValue := 0 }, { name := "UTF16", type := .byte, accessFlags := 24, slot := 6, constantValue := 0 }]
  methods := #[k7m0, k7m1, k7m2, k7m3, k7m4, k7m5, k7m6, k7m7, k7m8]
  instanceTypes := #[(.array .byte), .byte, .int, .boolean]
  staticTypes := #[.long, .boolean, (.array (.object "java/io/ObjectStreamField")), .char, (.object "java/util/Comparator"), .byte, .byte]
  resolved := Array.replicate 1451 none
  statics := some 0 }

def pool8 : Array CpInfo := pool [(6, .class_ 8), (1, u "java/lang/Object"), (0, u "<init>"), (0, u "()V"), (1, .class_ 14), (1, u "java/lang/StringUTF16"), (31, u "$assertionsDisabled"), (0, u "Z"), (13, u "HI_BYTE_SHIFT"), (0, u "I"), (2, u "LO_BYTE_SHIFT"), (49, .methodref 12 116), (0, .nameAndType 117 118), (0, u "compress"), (0, u "([CI[BII)I"), (3, u "([CII)[B"), (138, u "coderFromArrayLen"), (0, u "([BI)B"), (106, .class_ 371), (1, u "java/lang/StringUTF16$LinesSpliterator"), (58, u "MAX_LENGTH"), (196, .class_ 628), (0, u "java/lang/StringUTF16$CodePointsSpliterator"), (0, .class_ 630), (0, u "java/lang/StringUTF16$CharsSpliterator")] 4

def k8m0 : Method := { name := "<init>", desc := "()V", sig := { parameters := [], returnType := none }, accessFlags := 0, code := none }
def k8c1 : Code := { maxStack := 2, maxLocals := 2, code := jdk_52_method_15_code, exceptionTable := #[], attributes := #[] }
def k8m1 : Method := { name := "coderFromArrayLen", desc := "([BI)B", sig := { parameters := [(.array .byte), .int], returnType := some .byte }, accessFlags := 8, code := some k8c1 }
def k8c2 : Code := { maxStack := 5, maxLocals := 6, code := jdk_52_method_16_code, exceptionTable := #[], attributes := #[] }
def k8m2 : Method := { name := "compress", desc := "([CII)[B", sig := { parameters := [(.array .char), .int, .int], returnType := some (.array .byte) }, accessFlags := 9, code := some k8c2 }
def k8c3 : Code := { maxStack := 3, maxLocals := 7, code := jdk_52_method_21_code, exceptionTable := #[], attributes := #[] }
def k8m3 : Method := { name := "compress", desc := "([CI[BII)I", sig := { parameters := [(.array .char), .int, (.array .byte), .int, .int], returnType := some .int }, accessFlags := 9, code := some k8c3 }
/-- java/lang/StringUTF16 -/
def k8 : Class := { plain "java/lang/StringUTF16" (some 0) with
  accessFlags := 48
  interfaces := #[]
  cf := some (fileOf pool8 12 #[.nestMembers #[627, 629, 369]] #[{ accessFlags := 0, nameIndex := 9, descriptorIndex := 10, attributes := #[] }, { accessFlags := 8, nameIndex := 261, descriptorIndex := 262, attributes := #[] }, { accessFlags := 9, nameIndex := 117, descriptorIndex := 122, attributes := #[] }, { accessFlags := 9, nameIndex := 117, descriptorIndex := 118, attributes := #[] }] 48 6 #[] #[{ accessFlags := 26, nameIndex := 61, descriptorIndex := 62, attributes := #[] }, { accessFlags := 26, nameIndex := 65, descriptorIndex := 62, attributes := #[] }, { accessFlags := 24, nameIndex := 430, descriptorIndex := 62, attributes := #[] }, { accessFlags := 4120, nameIndex := 46, descriptorIndex := 47, attributes := #[] }])
  fields := #[{ name := "HI_BYTE_SHIFT", type := .int, accessFlags := 26, slot := 0, constantValue := 0 }, { name := "LO_BYTE_SHIFT", type := .int, accessFlags := 26, slot := 1, constantValue := 0 }, { name := "MAX_LENGTH", type := .int, accessFlags := 24, slot := 2, constantValue := 0 }, { name := "$assertionsDisabled", type := .boolean, accessFlags := 4120, slot := 3, constantValue := 0 }]
  methods := #[k8m0, k8m1, k8m2, k8m3]
  instanceTypes := #[]
  staticTypes := #[.int, .int, .int, .boolean]
  resolved := Array.replicate 635 none
  statics := none }

def pool9 : Array CpInfo := pool [(2, .class_ 4), (1, u "java/lang/Object"), (0, u "<init>"), (0, u "()V"), (0, .class_ 8), (0, u "java/lang/Record")] 13

def k9m0 : Method := { name := "<init>", desc := "()V", sig := { parameters := [], returnType := none }, accessFlags := 4, code := none }
/-- java/lang/Record -/
def k9 : Class := { plain "java/lang/Record" (some 0) with
  accessFlags := 1057
  interfaces := #[]
  cf := some (fileOf pool9 7 #[] #[{ accessFlags := 4, nameIndex := 5, descriptorIndex := 6, attributes := #[] }] 1057 2 #[] #[])
  fields := #[]
  methods := #[k9m0]
  instanceTypes := #[]
  staticTypes := #[]
  resolved := Array.replicate 22 none
  statics := none }

def pool10 : Array CpInfo := pool [(2, .class_ 4), (1, u "java/lang/Record"), (3, .class_ 10), (1, u "com/example/un1son/un1son/Candidate"), (0, u "requireValidId"), (0, u "(Ljava/lang/String;)Ljava/lang/String;"), (6, u "id"), (0, u "Ljava/lang/String;"), (2, u "aptitude"), (0, u "I"), (0, .string 19), (0, .methodref 27 28), (0, .class_ 29), (0, .nameAndType 30 31), (0, u "java/util/Objects"), (0, u "requireNonNull"), (0, u "(Ljava/lang/Object;Ljava/lang/String;)Ljava/lang/Object;"), (0, .methodref 33 34), (0, .class_ 35), (0, .nameAndType 36 37), (0, u "java/lang/String"), (0, u "isEmpty"), (0, u "()Z"), (0, .methodref 33 39), (0, .nameAndType 40 41), (0, u "length"), (0, u "()I"), (6, .methodref 33 49), (0, .nameAndType 50 51), (0, u "charAt"), (0, u "(I)C"), (26, u "ORDER"), (0, u "Ljava/util/Comparator;"), (37, .class_ 118), (0, u "java/lang/Comparable"), (0, u "MAX_ID_LENGTH"), (2, u "MAX_APTITUDE")] 63

def k10c0 : Code := { maxStack := 2, maxLocals := 4, code := prog_1_method_2_code, exceptionTable := #[], attributes := #[] }
def k10m0 : Method := { name := "requireValidId", desc := "(Ljava/lang/String;)Ljava/lang/String;", sig := { parameters := [(.object "java/lang/String")], returnType := some (.object "java/lang/String") }, accessFlags := 8, code := some k10c0 }
/-- com/example/un1son/un1son/Candidate -/
def k10 : Class := { plain "com/example/un1son/un1son/Candidate" (some 9) with
  accessFlags := 48
  interfaces := #[3]
  cf := some (fileOf pool10 8 #[] #[{ accessFlags := 8, nameIndex := 11, descriptorIndex := 12, attributes := #[] }] 48 2 #[117] #[{ accessFlags := 18, nameIndex := 19, descriptorIndex := 20, attributes := #[] }, { accessFlags := 18, nameIndex := 23, descriptorIndex := 24, attributes := #[] }, { accessFlags := 24, nameIndex := 119, descriptorIndex := 24, attributes := #[] }, { accessFlags := 24, nameIndex := 122, descriptorIndex := 24, attributes := #[] }, { accessFlags := 26, nameIndex := 78, descriptorIndex := 79, attributes := #[] }])
  fields := #[{ name := "id", type := (.object "java/lang/String"), accessFlags := 18, slot := 0, constantValue := 0 }, { name := "aptitude", type := .int, accessFlags := 18, slot := 1, constantValue := 0 }, { name := "MAX_ID_LENGTH", type := .int, accessFlags := 24, slot := 0, constantValue := 0 }, { name := "MAX_APTITUDE", type := .int, accessFlags := 24, slot := 1, constantValue := 0 }, { name := "ORDER", type := (.object "java/util/Comparator"), accessFlags := 26, slot := 2, constantValue := 0 }]
  methods := #[k10m0]
  instanceTypes := #[(.object "java/lang/String"), .int]
  staticTypes := #[.int, .int, (.object "java/util/Comparator")]
  resolved := Array.replicate 186 none
  statics := none }

def pool11 : Array CpInfo := pool [(2, .class_ 4), (1, u "java/lang/Object"), (0, u "<init>"), (0, u "()V"), (35, .class_ 44), (1, u "java/util/Objects"), (0, u "requireNonNull"), (48, u "(Ljava/lang/Object;Ljava/lang/String;)Ljava/lang/Object;")] 89

def k11m0 : Method := { name := "<init>", desc := "()V", sig := { parameters := [], returnType := none }, accessFlags := 2, code := none }
def k11c1 : Code := { maxStack := 3, maxLocals := 2, code := jdk_31_method_11_code, exceptionTable := #[], attributes := #[] }
def k11m1 : Method := { name := "requireNonNull", desc := "(Ljava/lang/Object;Ljava/lang/String;)Ljava/lang/Object;", sig := { parameters := [(.object "java/lang/Object"), (.object "java/lang/String")], returnType := some (.object "java/lang/Object") }, accessFlags := 9, code := some k11c1 }
/-- java/util/Objects -/
def k11 : Class := { plain "java/util/Objects" (some 0) with
  accessFlags := 49
  interfaces := #[]
  cf := some (fileOf pool11 42 #[] #[{ accessFlags := 2, nameIndex := 5, descriptorIndex := 6, attributes := #[] }, { accessFlags := 9, nameIndex := 45, descriptorIndex := 94, attributes := #[] }] 49 2 #[] #[])
  fields := #[]
  methods := #[k11m0, k11m1]
  instanceTypes := #[]
  staticTypes := #[]
  resolved := Array.replicate 184 none
  statics := none }

def pool12 : Array CpInfo := pool [(1, .class_ 2), (0, u "java/lang/String"), (1, .class_ 6), (1, u "java/lang/Object"), (0, u "<init>"), (0, u "()V"), (0, .methodref 1 10), (0, .nameAndType 11 12), (0, u "checkIndex"), (0, u "(II)V"), (1, .class_ 16), (1, u "java/lang/StringLatin1"), (36, u "([BI)C"), (67, u "$assertionsDisabled"), (0, u "Z"), (98, .class_ 223), (1, u "java/lang/StringLatin1$LinesSpliterator"), (28, u "charAt"), (137, .class_ 391), (0, u "java/lang/StringLatin1$CharsSpliterator")] 3

def k12m0 : Method := { name := "<init>", desc := "()V", sig := { parameters := [], returnType := none }, accessFlags := 0, code := none }
def k12c1 : Code := { maxStack := 2, maxLocals := 2, code := jdk_43_method_2_code, exceptionTable := #[], attributes := #[] }
def k12m1 : Method := { name := "charAt", desc := "([BI)C", sig := { parameters := [(.array .byte), .int], returnType := some .char }, accessFlags := 9, code := some k12c1 }
/-- java/lang/StringLatin1 -/
def k12 : Class := { plain "java/lang/StringLatin1" (some 0) with
  accessFlags := 48
  interfaces := #[]
  cf := some (fileOf pool12 14 #[.nestMembers #[390, 221]] #[{ accessFlags := 0, nameIndex := 7, descriptorIndex := 8, attributes := #[] }, { accessFlags := 9, nameIndex := 252, descriptorIndex := 53, attributes := #[] }] 48 4 #[] #[{ accessFlags := 4120, nameIndex := 121, descriptorIndex := 122, attributes := #[] }])
  fields := #[{ name := "$assertionsDisabled", type := .boolean, accessFlags := 4120, slot := 0, constantValue := 0 }]
  methods := #[k12m0, k12m1]
  instanceTypes := #[]
  staticTypes := #[.boolean]
  resolved := Array.replicate 395 none
  statics := none }

def pool13 : Array CpInfo := pool [(2, .class_ 4), (1, u "java/lang/Object"), (0, u "<init>"), (0, u "()V"), (17, .class_ 26), (1, u "jdk/internal/util/Preconditions"), (6, u "checkIndex"), (21, .class_ 56), (0, u "jdk/internal/util/Preconditions$4"), (57, .class_ 115), (0, u "jdk/internal/util/Preconditions$1"), (7, u "SIOOBE_FORMATTER"), (0, u "Ljava/util/function/BiFunction;"), (0, .class_ 126), (0, u "jdk/internal/util/Preconditions$2"), (3, u "AIOOBE_FORMATTER"), (0, .class_ 132), (0, u "jdk/internal/util/Preconditions$3"), (3, u "IOOBE_FORMATTER"), (41, u "(IILjava/util/function/BiFunction;)I")] 15

def k13m0 : Method := { name := "<init>", desc := "()V", sig := { parameters := [], returnType := none }, accessFlags := 1, code := none }
def k13c1 : Code := { maxStack := 3, maxLocals := 3, code := jdk_41_method_11_code, exceptionTable := #[], attributes := #[] }
def k13m1 : Method := { name := "checkIndex", desc := "(IILjava/util/function/BiFunction;)I", sig := { parameters := [.int, .int, (.object "java/util/function/BiFunction")], returnType := some .int }, accessFlags := 9, code := some k13c1 }
/-- jdk/internal/util/Preconditions -/
def k13 : Class := { plain "jdk/internal/util/Preconditions" (some 0) with
  accessFlags := 33
  interfaces := #[]
  cf := some (fileOf pool13 24 #[.nestMembers #[55, 131, 125, 114]] #[{ accessFlags := 1, nameIndex := 5, descriptorIndex := 6, attributes := #[] }, { accessFlags := 9, nameIndex := 33, descriptorIndex := 178, attributes := #[] }] 33 2 #[] #[{ accessFlags := 25, nameIndex := 123, descriptorIndex := 124, attributes := #[] }, { accessFlags := 25, nameIndex := 130, descriptorIndex := 124, attributes := #[] }, { accessFlags := 25, nameIndex := 136, descriptorIndex := 124, attributes := #[] }])
  fields := #[{ name := "SIOOBE_FORMATTER", type := (.object "java/util/function/BiFunction"), accessFlags := 25, slot := 0, constantValue := 0 }, { name := "AIOOBE_FORMATTER", type := (.object "java/util/function/BiFunction"), accessFlags := 25, slot := 1, constantValue := 0 }, { name := "IOOBE_FORMATTER", type := (.object "java/util/function/BiFunction"), accessFlags := 25, slot := 2, constantValue := 0 }]
  methods := #[k13m0, k13m1]
  instanceTypes := #[]
  staticTypes := #[(.object "java/util/function/BiFunction"), (.object "java/util/function/BiFunction"), (.object "java/util/function/BiFunction")]
  resolved := Array.replicate 194 none
  statics := some 1 }

def pool14 : Array CpInfo := pool [(9, u "<init>"), (6, .class_ 18), (1, u "java/lang/Object"), (0, u "()V"), (1, .class_ 23), (1, u "jdk/internal/util/ArraysSupport"), (0, u "LOG2_ARRAY_LONG_INDEX_SCALE"), (0, u "I"), (2, u "U"), (0, u "Ljdk/internal/misc/Unsafe;"), (8, u "BIG_ENDIAN"), (0, u "Z"), (8, u "LOG2_BYTE_BIT_SIZE"), (4, u "LOG2_ARRAY_INT_INDEX_SCALE"), (54, u "JLA"), (0, u "Ljdk/internal/access/JavaLangAccess;"), (11, u "LOG2_ARRAY_BOOLEAN_INDEX_SCALE"), (9, u "LOG2_ARRAY_BYTE_INDEX_SCALE"), (5, u "LOG2_ARRAY_CHAR_INDEX_SCALE"), (5, u "LOG2_ARRAY_SHORT_INDEX_SCALE"), (18, u "LOG2_ARRAY_FLOAT_INDEX_SCALE"), (24, u "LOG2_ARRAY_DOUBLE_INDEX_SCALE"), (89, u "T_BOOLEAN"), (2, u "T_CHAR"), (1, u "T_FLOAT"), (1, u "T_DOUBLE"), (1, u "T_BYTE"), (1, u "T_SHORT"), (1, u "T_INT"), (1, u "T_LONG"), (1, u "SOFT_MAX_ARRAY_LENGTH")] 83

def k14m0 : Method := { name := "<init>", desc := "()V", sig := { parameters := [], returnType := none }, accessFlags := 2, code := none }
/-- jdk/internal/util/ArraysSupport -/
def k14 : Class := { plain "jdk/internal/util/ArraysSupport" (some 0) with
  accessFlags := 33
  interfaces := #[]
  cf := some (fileOf pool14 21 #[] #[{ accessFlags := 2, nameIndex := 9, descriptorIndex := 19, attributes := #[] }] 33 16 #[] #[{ accessFlags := 24, nameIndex := 28, descriptorIndex := 29, attributes := #[] }, { accessFlags := 26, nameIndex := 38, descriptorIndex := 39, attributes := #[] }, { accessFlags := 25, nameIndex := 121, descriptorIndex := 25, attributes := #[] }, { accessFlags := 25, nameIndex := 131, descriptorIndex := 25, attributes := #[] }, { accessFlags := 25, nameIndex := 137, descriptorIndex := 25, attributes := #[] }, { accessFlags := 25, nameIndex := 143, descriptorIndex := 25, attributes := #[] }, { accessFlags := 25, nameIndex := 53, descriptorIndex := 25, attributes := #[] }, { accessFlags := 25, nameIndex := 24, descriptorIndex := 25, attributes := #[] }, { accessFlags := 25, nameIndex := 162, descriptorIndex := 25, attributes := #[] }, { accessFlags := 25, nameIndex := 187, descriptorIndex := 25, attributes := #[] }, { accessFlags := 26, nameIndex := 48, descriptorIndex := 25, attributes := #[] }, { accessFlags := 25, nameIndex := 277, descriptorIndex := 25, attributes := #[] }, { accessFlags := 25, nameIndex := 280, descriptorIndex := 25, attributes := #[] }, { accessFlags := 25, nameIndex := 282, descriptorIndex := 25, attributes := #[] }, { accessFlags := 25, nameIndex := 284, descriptorIndex := 25, attributes := #[] }, { accessFlags := 25, nameIndex := 286, descriptorIndex := 25, attributes := #[] }, { accessFlags := 25, nameIndex := 288, descriptorIndex := 25, attributes := #[] }, { accessFlags := 25, nameIndex := 290, descriptorIndex := 25, attributes := #[] }, { accessFlags := 25, nameIndex := 292, descriptorIndex := 25, attributes := #[] }, { accessFlags := 26, nameIndex := 108, descriptorIndex := 109, attributes := #[] }, { accessFlags := 25, nameIndex := 294, descriptorIndex := 25, attributes := #[] }])
  fields := #[{ name := "U", type := (.object "jdk/internal/misc/Unsafe"), accessFlags := 24, slot := 0, constantValue := 0 }, { name := "BIG_ENDIAN", type := .boolean, accessFlags := 26, slot := 1, constantValue := 0 }, { name := "LOG2_ARRAY_BOOLEAN_INDEX_SCALE", type := .int, accessFlags := 25, slot := 2, constantValue := 0 }, { name := "LOG2_ARRAY_BYTE_INDEX_SCALE", type := .int, accessFlags := 25, slot := 3, constantValue := 0 }, { name := "LOG2_ARRAY_CHAR_INDEX_SCALE", type := .int, accessFlags := 25, slot := 4, constantValue := 0 }, { name := "LOG2_ARRAY_SHORT_INDEX_SCALE", type := .int, accessFlags := 25, slot := 5, constantValue := 0 }, { name := "LOG2_ARRAY_INT_INDEX_SCALE", type := .int, accessFlags := 25, slot := 6, constantValue := 0 }, { name := "LOG2_ARRAY_LONG_INDEX_SCALE", type := .int, accessFlags := 25, slot := 7, constantValue := 0 }, { name := "LOG2_ARRAY_FLOAT_INDEX_SCALE", type := .int, accessFlags := 25, slot := 8, constantValue := 0 }, { name := "LOG2_ARRAY_DOUBLE_INDEX_SCALE", type := .int, accessFlags := 25, slot := 9, constantValue := 0 }, { name := "LOG2_BYTE_BIT_SIZE", type := .int, accessFlags := 26, slot := 10, constantValue := 0 }, { name := "T_BOOLEAN", type := .int, accessFlags := 25, slot := 11, constantValue := 0 }, { name := "T_CHAR", type := .int, accessFlags := 25, slot := 12, constantValue := 0 }, { name := "T_FLOAT", type := .int, accessFlags := 25, slot := 13, constantValue := 0 }, { name := "T_DOUBLE", type := .int, accessFlags := 25, slot := 14, constantValue := 0 }, { name := "T_BYTE", type := .int, accessFlags := 25, slot := 15, constantValue := 0 }, { name := "T_SHORT", type := .int, accessFlags := 25, slot := 16, constantValue := 0 }, { name := "T_INT", type := .int, accessFlags := 25, slot := 17, constantValue := 0 }, { name := "T_LONG", type := .int, accessFlags := 25, slot := 18, constantValue := 0 }, { name := "JLA", type := (.object "jdk/internal/access/JavaLangAccess"), accessFlags := 26, slot := 19, constantValue := 0 }, { name := "SOFT_MAX_ARRAY_LENGTH", type := .int, accessFlags := 25, slot := 20, constantValue := 0 }]
  methods := #[k14m0]
  instanceTypes := #[]
  staticTypes := #[(.object "jdk/internal/misc/Unsafe"), .boolean, .int, .int, .int, .int, .int, .int, .int, .int, .int, .int, .int, .int, .int, .int, .int, .int, .int, (.object "jdk/internal/access/JavaLangAccess"), .int]
  resolved := Array.replicate 378 none
  statics := none }

def pool15 : Array CpInfo := pool [(1, u "java/lang/Cloneable"), (0, .class_ 1), (0, u "java/lang/Object"), (0, .class_ 3)] 3

/-- java/lang/Cloneable -/
def k15 : Class := { plain "java/lang/Cloneable" (some 0) with
  accessFlags := 1537
  interfaces := #[]
  cf := some (fileOf pool15 2 #[] #[] 1537 4 #[] #[])
  fields := #[]
  methods := #[]
  instanceTypes := #[]
  staticTypes := #[]
  resolved := Array.replicate 8 none
  statics := none }

/-- the primitive byte -/
def k16 : Class := { plain "byte" none with kind := .primitive 'B', accessFlags := 0x411 }
/-- [B -/
def k17 : Class := { plain "[B" (some 0) with kind := .array 16 .byte, interfaces := #[15, 2], accessFlags := 1041 }

/-- the primitive char -/
def k18 : Class := { plain "char" none with kind := .primitive 'C', accessFlags := 0x411 }
/-- [C -/
def k19 : Class := { plain "[C" (some 0) with kind := .array 18 .char, interfaces := #[15, 2], accessFlags := 1041 }

/-- the primitive int -/
def k20 : Class := { plain "int" none with kind := .primitive 'I', accessFlags := 0x411 }
/-- [I -/
def k21 : Class := { plain "[I" (some 0) with kind := .array 20 .int, interfaces := #[15, 2], accessFlags := 1041 }

def heap : Heap := #[{ cls := 7, slots := #[.long 0, .int 1, .null, .int 0, .null, .int 0, .int 0], vm := .statics 7 },
  { cls := 13, slots := #[.null, .null, .null], vm := .statics 13 }]
def classes : Array Class := #[k0, k1, k2, k3, k4, k5, k6, k7, k8, k9, k10, k11, k12, k13, k14, k15, k16, k17, k18, k19, k20, k21]
def interned : List (Array UInt16 × Addr) := []
def slotsUsed : Nat := 10
def theMethod : MethodId := ⟨1, 3⟩
def args0 : Array Value := #[.long 5, .long 7, .long 9, .int 3]
def aboutOver (below : List Frame) : State where
  vm := { classes := classes, interned := interned.toArray }
  heap := heap
  slotsUsed := slotsUsed
  threads := #[{ frames := .invoking theMethod args0 :: below }]
def below0 : List Frame := [.native { method := ⟨0, 0⟩, args := #[] }]
def about1 : State := aboutOver below0
def p0 : Program := .bare "" "" ""
def e0 : Env := launch0.env 0 0 0
theorem w_frames : about1.frames = Frame.invoking theMethod args0 :: below0 := rfl
set_option maxRecDepth 65536 in
theorem w_args : argsFit about1.vm theMethod args0 = true := by decide +kernel
set_option maxRecDepth 65536 in
theorem w_heap : heapFits about1 = true := by decide +kernel
set_option maxRecDepth 65536 in
theorem w_runnable : about1.curStatus? = some .runnable := by decide +kernel
set_option maxRecDepth 65536 in
theorem w_alone : about1.alone = true := by decide +kernel
set_option maxRecDepth 65536 in
theorem w_named : about1.methodNamed? x = some theMethod := by decide +kernel
set_option maxRecDepth 65536 in
theorem w_hears : about1.hears theMethod below0 = true := by decide +kernel
set_option maxRecDepth 65536 in
theorem w_ripe : about1.ripe theMethod args0 below0 = true := by decide +kernel
theorem w_running : about1.status = .running := rfl
set_option maxRecDepth 65536 in
theorem w_room : about1.hasRoom e0.platform room_1 = true :=
  launch0.hasRoom_least _ room_1 (by decide +kernel) (by decide +kernel) (by decide +kernel) (by decide +kernel) (by decide +kernel) (by decide +kernel)
theorem allAtoms_all (ts : List Jvm.Cond) (a : Array Jvm.Value) (st : Jvm.State) : (allAtoms ts).before a st = ts.all (fun c => c.before a st) := by
  induction ts with
  | nil => rfl
  | cons c t ih =>
    show (Jvm.Cond.and c (allAtoms t)).before a st = _
    rw [Jvm.Cond.before_and, ih, List.all_cons]
def words1 : List Jvm.Cond := Jvm.Cond.code x code maxLocals ret :: tables_1
/-- a 'code' word, met by the world's own term for the bytes: nothing is compared byte by byte -/
theorem code_word {y : MethodName} {bytes : ByteArray} {mx : Nat} {rt : Option FieldType} {a : Array Value} {s : State} {m : MethodId} {meth : Method} {c : Code} (h1 : s.methodNamed? y = some m) (h2 : s.vm.method? m = some meth) (h3 : meth.code = some c) (h4 : c.code = bytes)
    (h5 : (c.maxLocals == mx && c.exceptionTable.isEmpty && decide (c.maxStack ≤ mostOperands) && decide (meth.sig.returnType = rt) && !meth.locks && decide (parseMethodDescriptor y.desc = some meth.sig)) = true) : (Jvm.Cond.code y bytes mx rt).before a s = true := by
  simp only [Bool.and_eq_true, beq_iff_eq, Bool.not_eq_true', decide_eq_true_eq] at h5
  obtain ⟨⟨⟨⟨⟨g1, g2⟩, g3⟩, g4⟩, g5⟩, g6⟩ := h5
  simp [Cond.before, Cond.holds, Cond.value, h1, h2, h3, h4, g1, g2, g3, g4, g5, g6]
def isCode : Jvm.Cond → Bool
  | .code _ _ _ _ => true
  | _ => false
theorem all_split {L : List Jvm.Cond} {P : Jvm.Cond → Bool} (h1 : L.all (fun c => isCode c || P c) = true) (h2 : ∀ c ∈ L.filter isCode, P c = true) : L.all P = true := by
  refine List.all_eq_true.mpr fun c hc => ?_
  have h := List.all_eq_true.mp h1 c hc
  rcases Bool.eq_false_or_eq_true (isCode c) with hi | hi
  · exact h2 c (List.mem_filter.mpr ⟨hc, hi⟩)
  · simpa [hi] using h
set_option maxRecDepth 65536 in
theorem w_c0 : (Jvm.Cond.code x code maxLocals ret).before args0 about1 = true := code_word (m := ⟨1, 3⟩) (meth := k1m3) (c := k1c3) (by decide +kernel) rfl rfl rfl (by decide +kernel)
set_option maxRecDepth 65536 in
theorem w_c1 : (Jvm.Cond.code ({ cls := "com/example/un1son/un1son/CandidateRequireValidIdPinLaw", name := "at", desc := "(JI)C" } : Jvm.MethodName) method_3_code (3 : Nat) (Option.some Jvm.ClassFile.FieldType.char)).before args0 about1 = true := code_word (m := ⟨1, 2⟩) (meth := k1m2) (c := k1c2) (by decide +kernel) rfl rfl rfl (by decide +kernel)
set_option maxRecDepth 65536 in
theorem w_c2 : (Jvm.Cond.code ({ cls := "com/example/un1son/un1son/CandidateRequireValidIdPinLaw", name := "alpha", desc := "(I)C" } : Jvm.MethodName) method_2_code (1 : Nat) (Option.some Jvm.ClassFile.FieldType.char)).before args0 about1 = true := code_word (m := ⟨1, 1⟩) (meth := k1m1) (c := k1c1) (by decide +kernel) rfl rfl rfl (by decide +kernel)
set_option maxRecDepth 65536 in
theorem w_c3 : (Jvm.Cond.code ({ cls := "java/lang/String", name := "<init>", desc := "([C)V" } : Jvm.MethodName) jdk_42_method_3_code (2 : Nat) (Option.none : Option Jvm.ClassFile.FieldType)).before args0 about1 = true := code_word (m := ⟨7, 1⟩) (meth := k7m1) (c := k7c1) (by decide +kernel) rfl rfl rfl (by decide +kernel)
set_option maxRecDepth 65536 in
theorem w_c4 : (Jvm.Cond.code ({ cls := "java/lang/String", name := "<init>", desc := "([CIILjava/lang/Void;)V" } : Jvm.MethodName) jdk_42_method_149_code (6 : Nat) (Option.none : Option Jvm.ClassFile.FieldType)).before args0 about1 = true := code_word (m := ⟨7, 5⟩) (meth := k7m5) (c := k7c5) (by decide +kernel) rfl rfl rfl (by decide +kernel)
set_option maxRecDepth 65536 in
theorem w_c5 : (Jvm.Cond.code ({ cls := "java/lang/Object", name := "<init>", desc := "()V" } : Jvm.MethodName) object_method_1_code (1 : Nat) (Option.none : Option Jvm.ClassFile.FieldType)).before args0 about1 = true := code_word (m := ⟨0, 0⟩) (meth := k0m0) (c := k0c0) (by decide +kernel) rfl rfl rfl (by decide +kernel)
set_option maxRecDepth 65536 in
theorem w_c6 : (Jvm.Cond.code ({ cls := "java/lang/StringUTF16", name := "compress", desc := "([CII)[B" } : Jvm.MethodName) jdk_52_method_16_code (6 : Nat) (Option.some (Jvm.ClassFile.FieldType.array Jvm.ClassFile.FieldType.byte))).before args0 about1 = true := code_word (m := ⟨8, 2⟩) (meth := k8m2) (c := k8c2) (by decide +kernel) rfl rfl rfl (by decide +kernel)
set_option maxRecDepth 65536 in
theorem w_c7 : (Jvm.Cond.code ({ cls := "java/lang/StringUTF16", name := "compress", desc := "([CI[BII)I" } : Jvm.MethodName) jdk_52_method_21_code (7 : Nat) (Option.some Jvm.ClassFile.FieldType.int)).before args0 about1 = true := code_word (m := ⟨8, 3⟩) (meth := k8m3) (c := k8c3) (by decide +kernel) rfl rfl rfl (by decide +kernel)
set_option maxRecDepth 65536 in
theorem w_c8 : (Jvm.Cond.code ({ cls := "java/lang/StringUTF16", name := "coderFromArrayLen", desc := "([BI)B" } : Jvm.MethodName) jdk_52_method_15_code (2 : Nat) (Option.some Jvm.ClassFile.FieldType.byte)).before args0 about1 = true := code_word (m := ⟨8, 1⟩) (meth := k8m1) (c := k8c1) (by decide +kernel) rfl rfl rfl (by decide +kernel)
set_option maxRecDepth 65536 in
theorem w_c9 : (Jvm.Cond.code ({ cls := "com/example/un1son/un1son/Candidate", name := "requireValidId", desc := "(Ljava/lang/String;)Ljava/lang/String;" } : Jvm.MethodName) prog_1_method_2_code (4 : Nat) (Option.some (Jvm.ClassFile.FieldType.object "java/lang/String"))).before args0 about1 = true := code_word (m := ⟨10, 0⟩) (meth := k10m0) (c := k10c0) (by decide +kernel) rfl rfl rfl (by decide +kernel)
set_option maxRecDepth 65536 in
theorem w_c10 : (Jvm.Cond.code ({ cls := "java/util/Objects", name := "requireNonNull", desc := "(Ljava/lang/Object;Ljava/lang/String;)Ljava/lang/Object;" } : Jvm.MethodName) jdk_31_method_11_code (2 : Nat) (Option.some (Jvm.ClassFile.FieldType.object "java/lang/Object"))).before args0 about1 = true := code_word (m := ⟨11, 1⟩) (meth := k11m1) (c := k11c1) (by decide +kernel) rfl rfl rfl (by decide +kernel)
set_option maxRecDepth 65536 in
theorem w_c11 : (Jvm.Cond.code ({ cls := "java/lang/String", name := "isEmpty", desc := "()Z" } : Jvm.MethodName) jdk_42_method_55_code (1 : Nat) (Option.some Jvm.ClassFile.FieldType.boolean)).before args0 about1 = true := code_word (m := ⟨7, 3⟩) (meth := k7m3) (c := k7c3) (by decide +kernel) rfl rfl rfl (by decide +kernel)
set_option maxRecDepth 65536 in
theorem w_c12 : (Jvm.Cond.code ({ cls := "java/lang/String", name := "length", desc := "()I" } : Jvm.MethodName) jdk_42_method_54_code (1 : Nat) (Option.some Jvm.ClassFile.FieldType.int)).before args0 about1 = true := code_word (m := ⟨7, 2⟩) (meth := k7m2) (c := k7c2) (by decide +kernel) rfl rfl rfl (by decide +kernel)
set_option maxRecDepth 65536 in
theorem w_c13 : (Jvm.Cond.code ({ cls := "java/lang/String", name := "coder", desc := "()B" } : Jvm.MethodName) jdk_42_method_152_code (1 : Nat) (Option.some Jvm.ClassFile.FieldType.byte)).before args0 about1 = true := code_word (m := ⟨7, 6⟩) (meth := k7m6) (c := k7c6) (by decide +kernel) rfl rfl rfl (by decide +kernel)
set_option maxRecDepth 65536 in
theorem w_c14 : (Jvm.Cond.code ({ cls := "java/lang/String", name := "charAt", desc := "(I)C" } : Jvm.MethodName) jdk_42_method_56_code (2 : Nat) (Option.some Jvm.ClassFile.FieldType.char)).before args0 about1 = true := code_word (m := ⟨7, 4⟩) (meth := k7m4) (c := k7c4) (by decide +kernel) rfl rfl rfl (by decide +kernel)
set_option maxRecDepth 65536 in
theorem w_c15 : (Jvm.Cond.code ({ cls := "java/lang/String", name := "isLatin1", desc := "()Z" } : Jvm.MethodName) jdk_42_method_154_code (1 : Nat) (Option.some Jvm.ClassFile.FieldType.boolean)).before args0 about1 = true := code_word (m := ⟨7, 7⟩) (meth := k7m7) (c := k7c7) (by decide +kernel) rfl rfl rfl (by decide +kernel)
set_option maxRecDepth 65536 in
theorem w_c16 : (Jvm.Cond.code ({ cls := "java/lang/StringLatin1", name := "charAt", desc := "([BI)C" } : Jvm.MethodName) jdk_43_method_2_code (2 : Nat) (Option.some Jvm.ClassFile.FieldType.char)).before args0 about1 = true := code_word (m := ⟨12, 1⟩) (meth := k12m1) (c := k12c1) (by decide +kernel) rfl rfl rfl (by decide +kernel)
set_option maxRecDepth 65536 in
theorem w_c17 : (Jvm.Cond.code ({ cls := "java/lang/String", name := "checkIndex", desc := "(II)V" } : Jvm.MethodName) jdk_42_method_155_code (2 : Nat) (Option.none : Option Jvm.ClassFile.FieldType)).before args0 about1 = true := code_word (m := ⟨7, 8⟩) (meth := k7m8) (c := k7c8) (by decide +kernel) rfl rfl rfl (by decide +kernel)
set_option maxRecDepth 65536 in
theorem w_c18 : (Jvm.Cond.code ({ cls := "jdk/internal/util/Preconditions", name := "checkIndex", desc := "(IILjava/util/function/BiFunction;)I" } : Jvm.MethodName) jdk_41_method_11_code (3 : Nat) (Option.some Jvm.ClassFile.FieldType.int)).before args0 about1 = true := code_word (m := ⟨13, 1⟩) (meth := k13m1) (c := k13c1) (by decide +kernel) rfl rfl rfl (by decide +kernel)
def codes1 : List Jvm.Cond := [Jvm.Cond.code x code maxLocals ret, Jvm.Cond.code ({ cls := "com/example/un1son/un1son/CandidateRequireValidIdPinLaw", name := "at", desc := "(JI)C" } : Jvm.MethodName) method_3_code (3 : Nat) (Option.some Jvm.ClassFile.FieldType.char), Jvm.Cond.code ({ cls := "com/example/un1son/un1son/CandidateRequireValidIdPinLaw", name := "alpha", desc := "(I)C" } : Jvm.MethodName) method_2_code (1 : Nat) (Option.some Jvm.ClassFile.FieldType.char), Jvm.Cond.code ({ cls := "java/lang/String", name := "<init>", desc := "([C)V" } : Jvm.MethodName) jdk_42_method_3_code (2 : Nat) (Option.none : Option Jvm.ClassFile.FieldType), Jvm.Cond.code ({ cls := "java/lang/String", name := "<init>", desc := "([CIILjava/lang/Void;)V" } : Jvm.MethodName) jdk_42_method_149_code (6 : Nat) (Option.none : Option Jvm.ClassFile.FieldType), Jvm.Cond.code ({ cls := "java/lang/Object", name := "<init>", desc := "()V" } : Jvm.MethodName) object_method_1_code (1 : Nat) (Option.none : Option Jvm.ClassFile.FieldType), Jvm.Cond.code ({ cls := "java/lang/StringUTF16", name := "compress", desc := "([CII)[B" } : Jvm.MethodName) jdk_52_method_16_code (6 : Nat) (Option.some (Jvm.ClassFile.FieldType.array Jvm.ClassFile.FieldType.byte)), Jvm.Cond.code ({ cls := "java/lang/StringUTF16", name := "compress", desc := "([CI[BII)I" } : Jvm.MethodName) jdk_52_method_21_code (7 : Nat) (Option.some Jvm.ClassFile.FieldType.int), Jvm.Cond.code ({ cls := "java/lang/StringUTF16", name := "coderFromArrayLen", desc := "([BI)B" } : Jvm.MethodName) jdk_52_method_15_code (2 : Nat) (Option.some Jvm.ClassFile.FieldType.byte), Jvm.Cond.code ({ cls := "com/example/un1son/un1son/Candidate", name := "requireValidId", desc := "(Ljava/lang/String;)Ljava/lang/String;" } : Jvm.MethodName) prog_1_method_2_code (4 : Nat) (Option.some (Jvm.ClassFile.FieldType.object "java/lang/String")), Jvm.Cond.code ({ cls := "java/util/Objects", name := "requireNonNull", desc := "(Ljava/lang/Object;Ljava/lang/String;)Ljava/lang/Object;" } : Jvm.MethodName) jdk_31_method_11_code (2 : Nat) (Option.some (Jvm.ClassFile.FieldType.object "java/lang/Object")), Jvm.Cond.code ({ cls := "java/lang/String", name := "isEmpty", desc := "()Z" } : Jvm.MethodName) jdk_42_method_55_code (1 : Nat) (Option.some Jvm.ClassFile.FieldType.boolean), Jvm.Cond.code ({ cls := "java/lang/String", name := "length", desc := "()I" } : Jvm.MethodName) jdk_42_method_54_code (1 : Nat) (Option.some Jvm.ClassFile.FieldType.int), Jvm.Cond.code ({ cls := "java/lang/String", name := "coder", desc := "()B" } : Jvm.MethodName) jdk_42_method_152_code (1 : Nat) (Option.some Jvm.ClassFile.FieldType.byte), Jvm.Cond.code ({ cls := "java/lang/String", name := "charAt", desc := "(I)C" } : Jvm.MethodName) jdk_42_method_56_code (2 : Nat) (Option.some Jvm.ClassFile.FieldType.char), Jvm.Cond.code ({ cls := "java/lang/String", name := "isLatin1", desc := "()Z" } : Jvm.MethodName) jdk_42_method_154_code (1 : Nat) (Option.some Jvm.ClassFile.FieldType.boolean), Jvm.Cond.code ({ cls := "java/lang/StringLatin1", name := "charAt", desc := "([BI)C" } : Jvm.MethodName) jdk_43_method_2_code (2 : Nat) (Option.some Jvm.ClassFile.FieldType.char), Jvm.Cond.code ({ cls := "java/lang/String", name := "checkIndex", desc := "(II)V" } : Jvm.MethodName) jdk_42_method_155_code (2 : Nat) (Option.none : Option Jvm.ClassFile.FieldType), Jvm.Cond.code ({ cls := "jdk/internal/util/Preconditions", name := "checkIndex", desc := "(IILjava/util/function/BiFunction;)I" } : Jvm.MethodName) jdk_41_method_11_code (3 : Nat) (Option.some Jvm.ClassFile.FieldType.int)]
set_option maxRecDepth 65536 in
theorem codes_eq : words1.filter isCode = codes1 := rfl
theorem w_codes : ∀ c ∈ words1.filter isCode, c.before args0 about1 = true := by
  rw [codes_eq]
  intro c hc
  simp only [codes1, List.mem_cons, List.not_mem_nil, or_false] at hc
  rcases hc with rfl | rfl | rfl | rfl | rfl | rfl | rfl | rfl | rfl | rfl | rfl | rfl | rfl | rfl | rfl | rfl | rfl | rfl | rfl
  · exact w_c0
  · exact w_c1
  · exact w_c2
  · exact w_c3
  · exact w_c4
  · exact w_c5
  · exact w_c6
  · exact w_c7
  · exact w_c8
  · exact w_c9
  · exact w_c10
  · exact w_c11
  · exact w_c12
  · exact w_c13
  · exact w_c14
  · exact w_c15
  · exact w_c16
  · exact w_c17
  · exact w_c18
set_option maxRecDepth 65536 in
theorem w_t1 : (words1.take 24).all (fun c => isCode c || c.before args0 about1) = true := by decide +kernel
set_option maxRecDepth 65536 in
theorem w_t2 : ((words1.drop 24).take 24).all (fun c => isCode c || c.before args0 about1) = true := by decide +kernel
set_option maxRecDepth 65536 in
theorem w_t3 : (((words1.drop 24).drop 24).take 24).all (fun c => isCode c || c.before args0 about1) = true := by decide +kernel
set_option maxRecDepth 65536 in
theorem w_t4 : (((words1.drop 24).drop 24).drop 24).all (fun c => isCode c || c.before args0 about1) = true := by decide +kernel
theorem w_tables : (allAtoms (Jvm.Cond.code x code maxLocals ret :: tables_1)).before args0 about1 = true := by
  rw [allAtoms_all]
  show words1.all (fun c => c.before args0 about1) = true
  refine all_split ?_ w_codes
  rw [← List.take_append_drop 24 words1, List.all_append, w_t1, ← List.take_append_drop 24 (words1.drop 24), List.all_append, w_t2, ← List.take_append_drop 24 ((words1.drop 24).drop 24), List.all_append, w_t3, w_t4]
  rfl
set_option maxRecDepth 65536 in
theorem w_rest : rest_1_c.before args0 about1 = true := by decide +kernel
set_option maxRecDepth 65536 in
theorem w_case : (Jvm.Cond.and given_1 narrow_1).before args0 about1 = true := by decide +kernel
theorem w_applies : (headSpec (Jvm.Cond.code x code maxLocals ret :: tables_1) room_1).applies x e0.platform about1 = true :=
  (Spec.applies_iff w_frames).mpr ⟨w_running, w_runnable, w_alone, w_named, w_hears, w_ripe, w_room, w_tables⟩
theorem atStart : AtStart classFile x code maxLocals ret World_1 tables_1 room_1 Calls_1 rest_1 Pre_1 launch0 p0 e0 about1 theMethod args0 below0 :=
  ⟨lists_1, trivial, launch0.admits_env _ _ _, launch0.least_env, fairChoices_fair.cas, fairChoices_fair.clock, w_frames, w_args, w_heap, w_applies, trivial, w_rest, w_case⟩
end start1
theorem witness_1 : WitnessClaimed_1 := ⟨start1.p0, start1.e0, start1.about1, start1.theMethod, start1.args0, start1.below0, start1.atStart⟩
end Jvm.Pilot.@@N@@
