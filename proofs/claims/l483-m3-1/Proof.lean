import JvmDerived
import JvmDerived.Pilot.@@N@@Statement
import JvmDerived.Pilot.@@N@@Code
set_option linter.unusedVariables false
set_option linter.unusedSimpArgs false
@@BLOCK:NumsL.lean.txt@@
/- laws to paste: Road.backV (cut by pick.py; bodies as the Statement names them) -/
namespace Jvm.Pilot.@@N@@
namespace StrChars
open Jvm Sem ClassFile Op Lib Jvm.Stand Jvm.Free.XT Jvm.Free.ALB Jvm.Free.JM Jvm.Free
open Jvm.Lib.Cold (StaticIs)
/-- a char array whose places are chars -/
def Ch (a : Addr) (A : Cell) (U : State) : Prop := Arr .char a A U ∧ Typed .char A
theorem Ch.mv {a : Addr} {A : Cell} {U U' : State} (h : Ch a A U) (hal : U.vm.Alike U'.vm) (hh : U'.heap = U.heap) : Ch a A U' := ⟨h.1.mv hal hh, h.2⟩
theorem Ch.keep {a : Addr} {A : Cell} {U U' : State} (h : Ch a A U) (hal : U.vm.Alike U'.vm) (hk : U'.heap[a]? = some A) : Ch a A U' := ⟨h.1.keep hal hk, h.2⟩
/-- what place i of a char[]'s cell holds -/
def cv (A : Cell) (i : Nat) : Int32 := match A.slots[i]? with | some (.int x) => x | _ => 0
theorem Ch.get {a : Addr} {A : Cell} {U : State} (h : Ch a A U) {i : Nat} (hi : i < A.slots.size) : A.slots[i]? = some (.int (cv A i)) := by
  have e := Array.getElem?_eq_getElem hi
  have f := h.2 i _ e
  unfold cv; rw [e]
  generalize A.slots[i] = v at f
  cases v <;> simp [fits] at f ⊢
/-- the byte that i2b leaves of a char -/
def lo8 (x : Int32) : Int32 := x.toInt8.toInt32
theorem fits_lo8 (y : Int32) : fits .byte (.int (lo8 y)) = true := by
  have h1 := y.toInt8.le_toInt
  have h2 := y.toInt8.toInt_lt
  simp only [lo8, fits, Bool.and_eq_true, decide_eq_true_eq, Int32.le_iff_toInt_le, Int8.toInt_toInt32, show (-128 : Int32).toInt = -128 from by decide, show (127 : Int32).toInt = 127 from by decide]
  omega
/-- A' is A but that each place j of lo .. hi - 1 holds f j -/
def Laid (A A' : Cell) (lo hi : Nat) (f : Nat → Value) : Prop := A'.cls = A.cls ∧ A'.vm = A.vm ∧ A'.slots.size = A.slots.size ∧ ∀ i, A'.slots[i]? = if lo ≤ i ∧ i < hi then some (f i) else A.slots[i]?
theorem Laid.zero (A : Cell) (lo : Nat) (f : Nat → Value) : Laid A A lo (lo + 0) f := ⟨rfl, rfl, rfl, fun i => by rw [if_neg (by omega)]⟩
theorem Laid.step {A Ak : Cell} {lo k : Nat} {f : Nat → Value} {v : Value} (h : Laid A Ak lo k f) (hlo : lo ≤ k) (hk : k < Ak.slots.size) (hv : v = f k) : Laid A (Ak.setSlot k v) lo (k + 1) f := by
  refine ⟨h.1, h.2.1, by simpa [Cell.setSlot] using h.2.2.1, fun i => ?_⟩
  by_cases e : k = i
  · subst e; rw [Cell.slots_setSlot_self v hk, if_pos (by omega), hv]
  · rw [Cell.slots_setSlot_ne v e, h.2.2.2 i]
    by_cases q : lo ≤ i ∧ i < k
    · rw [if_pos q, if_pos (by omega)]
    · rw [if_neg q, if_neg (by omega)]
def U16 : String := "java/lang/StringUTF16"
namespace Cmp5
def yN : MethodName := ⟨"java/lang/StringUTF16", "compress", "([CI[BII)I"⟩
abbrev yB : ByteArray := jdk_52_method_21_code
theorem d0 : decode yB 0 = .ok (.iconst 0, 1) := by decide +kernel
theorem d1 : decode yB 1 = .ok (.istore 5, 2) := by decide +kernel
theorem d3 : decode yB 3 = .ok (.iload 5, 2) := by decide +kernel
theorem d5 : decode yB 5 = .ok (.iload 4, 2) := by decide +kernel
theorem d7 : decode yB 7 = .ok (.if_icmp (.ge) 37, 3) := by decide +kernel
theorem d10 : decode yB 10 = .ok (.aload_n 0, 1) := by decide +kernel
theorem d11 : decode yB 11 = .ok (.iload_n 1, 1) := by decide +kernel
theorem d12 : decode yB 12 = .ok (.caload, 1) := by decide +kernel
theorem d13 : decode yB 13 = .ok (.istore 6, 2) := by decide +kernel
theorem d15 : decode yB 15 = .ok (.iload 6, 2) := by decide +kernel
theorem d17 : decode yB 17 = .ok (.sipush 255, 3) := by decide +kernel
theorem d20 : decode yB 20 = .ok (.if_icmp (.le) 6, 3) := by decide +kernel
theorem d26 : decode yB 26 = .ok (.aload_n 2, 1) := by decide +kernel
theorem d27 : decode yB 27 = .ok (.iload_n 3, 1) := by decide +kernel
theorem d28 : decode yB 28 = .ok (.iload 6, 2) := by decide +kernel
theorem d30 : decode yB 30 = .ok (.i2b, 1) := by decide +kernel
theorem d31 : decode yB 31 = .ok (.bastore, 1) := by decide +kernel
theorem d32 : decode yB 32 = .ok (.iinc 1 1, 3) := by decide +kernel
theorem d35 : decode yB 35 = .ok (.iinc 3 1, 3) := by decide +kernel
theorem d38 : decode yB 38 = .ok (.iinc 5 1, 3) := by decide +kernel
theorem d41 : decode yB 41 = .ok (.goto (-38), 3) := by decide +kernel
theorem d44 : decode yB 44 = .ok (.iload 4, 2) := by decide +kernel
theorem d46 : decode yB 46 = .ok (.ireturn, 1) := by decide +kernel
def site : List Cond := []
def tab : Cond := tabOf yN yB 7 (some .int) site
def P (b : Addr) (A : Cell) (d : Addr) (B : Cell) (o q len : Nat) (args : Array Value) (s : State) : Prop := args = #[.ref b, .int (Int32.ofNat o), .ref d, .int (Int32.ofNat q), .int (Int32.ofNat len)] ∧ Ch b A s ∧ Arr .byte d B s ∧ b ≠ d ∧ o + len ≤ A.slots.size ∧ q + len ≤ B.slots.size ∧ ∀ i, i < len → ¬ 255 < cv A (o + i)
def E (b : Addr) (A : Cell) (d : Addr) (B : Cell) (o q len : Nat) (r : Option Value) (s u : State) : Prop := r = some (.int (Int32.ofNat len)) ∧ ∃ B', Put d B' s u ∧ Laid B B' q (q + len) (fun j => Value.int (lo8 (cv A (o + (j - q)))))
/-- no char of the range above 255: len; the places written hold each char's low byte -/
theorem law (l : Launch) (b : Addr) (A : Cell) (d : Addr) (B : Cell) (o q len : Nat) : Law l yN 5 5 0 0 yB 7 (some .int) site (P b A d B o q len) (E b A d B o q len) (copyLocs d q len) 0 0 := by
  refine Law.of_walk (plainFor_of_name (by decide +kernel)) (by decide +kernel) (by decide +kernel) (by decide) (fun _ _ h => by rw [h.1]; rfl) (fun _ U U' hal hh h => ⟨h.1, h.2.1.mv hal hh, h.2.2.1.mv hal hh, h.2.2.2⟩) (fun r U U' V V' h1 hal h2 h => ⟨h.1, h.2.elim fun B' q => ⟨B', q.1.mv h1 h2, q.2⟩⟩) ?_
  intro p e s m args below meth c s₁ X0 hexec hbytes hml hret hlk hnm hown hh0 W hP
  obtain ⟨rfl, hA, hB, hne, l1, l2, hp⟩ := hP
  have c1 : Steps p.tables e below (s₁.setTop (entryFrame m #[.ref b, .int (Int32.ofNat o), .ref d, .int (Int32.ofNat q), .int (Int32.ofNat len)] 7)) (s₁.setTop (mkF m 0 #[.val (.ref b), .val (.int (Int32.ofNat o)), .val (.ref d), .val (.int (Int32.ofNat q)), .val (.int (Int32.ofNat len)), .unset, .unset] [])) := entry rfl
  have hA0 := hA.1.mv X0.warmed.alike hh0
  have hB0 := hB.mv X0.warmed.alike hh0
  have a31 := hA.1.2.2.2
  have c2 : Steps p.tables e below (s₁.setTop (entryFrame m #[.ref b, .int (Int32.ofNat o), .ref d, .int (Int32.ofNat q), .int (Int32.ofNat len)] 7)) (s₁.setTop (mkF m 3 #[.val (.ref b), .val (.int (Int32.ofNat o)), .val (.ref d), .val (.int (Int32.ofNat q)), .val (.int (Int32.ofNat len)), .val (.int 0), .unset] [])) := c1.trans (by
    refine iconstV X0.here hexec rfl 0 (hb hbytes d0) (by decide) ?_
    refine XS.istore X0.here hexec rfl (hb hbytes d1) rfl rfl ?_
    exact Steps.refl _)
  have loop : ∀ (r i : Nat), i + r = len → ∀ (z : Slot), (z = .unset ∨ ∃ w, z = .val w ∧ w.category = 1) → ∀ (Tl : State) (Bk : Cell), Stand p l e { frames := 0, locals := 0, cells := 0, slots := 0 } s m #[.ref b, .int (Int32.ofNat o), .ref d, .int (Int32.ofNat q), .int (Int32.ofNat len)] below meth c Tl ([] ++ copyLocs d q i) 0 0 → Put d Bk s₁ Tl → Laid B Bk q (q + i) (fun j => Value.int (lo8 (cv A (o + (j - q))))) →
      Steps p.tables e below (s₁.setTop (entryFrame m #[.ref b, .int (Int32.ofNat o), .ref d, .int (Int32.ofNat q), .int (Int32.ofNat len)] 7)) (Tl.setTop (mkF m 3 #[.val (.ref b), .val (.int (Int32.ofNat (o + i))), .val (.ref d), .val (.int (Int32.ofNat (q + i))), .val (.int (Int32.ofNat len)), .val (.int (Int32.ofNat i)), z] [])) → ∃ (T' : State) (B' : Cell) (z' : Slot), Stand p l e { frames := 0, locals := 0, cells := 0, slots := 0 } s m #[.ref b, .int (Int32.ofNat o), .ref d, .int (Int32.ofNat q), .int (Int32.ofNat len)] below meth c T' ([] ++ copyLocs d q len) 0 0 ∧ Put d B' s₁ T' ∧ Laid B B' q (q + len) (fun j => Value.int (lo8 (cv A (o + (j - q))))) ∧
      Steps p.tables e below (s₁.setTop (entryFrame m #[.ref b, .int (Int32.ofNat o), .ref d, .int (Int32.ofNat q), .int (Int32.ofNat len)] 7)) (T'.setTop (mkF m 3 #[.val (.ref b), .val (.int (Int32.ofNat (o + len))), .val (.ref d), .val (.int (Int32.ofNat (q + len))), .val (.int (Int32.ofNat len)), .val (.int (Int32.ofNat len)), z'] [])) := by
    intro r
    induction r with
    | zero =>
      intro i hi z hz Tl Bk Xl pl fl cl
      have hil : i = len := by omega
      rw [hil] at Xl fl cl
      exact ⟨Tl, Bk, z, Xl, pl, fl, cl⟩
    | succ r ih =>
      intro i hi z hz Tl Bk Xl pl fl cl
      have all := X0.warmed.alike.symm.trans Xl.warmed.alike
      have hAl := hA0.keep all (pl.other hne hA0.1)
      have hBk := hB0.like all pl.1 fl.1 fl.2.1 fl.2.2.1
      have hlt : q + i < Bk.slots.size := by rw [fl.2.2.1]; omega
      have c3 : Steps p.tables e below (s₁.setTop (entryFrame m #[.ref b, .int (Int32.ofNat o), .ref d, .int (Int32.ofNat q), .int (Int32.ofNat len)] 7)) (Tl.setTop (mkF m 12 #[.val (.ref b), .val (.int (Int32.ofNat (o + i))), .val (.ref d), .val (.int (Int32.ofNat (q + i))), .val (.int (Int32.ofNat len)), .val (.int (Int32.ofNat i)), z] [.int (Int32.ofNat (o + i)), .ref b])) := cl.trans (by
        refine XS.iload Xl.here hexec rfl (hb hbytes d3) rfl ?_
        refine XS.iload Xl.here hexec rfl (hb hbytes d5) rfl ?_
        refine XS.icmpNo Xl.here hexec rfl (hb hbytes d7) rfl (ii_ge_f (lt32 (by omega) (by omega))) ?_
        refine XS.aloadN Xl.here hexec rfl (hb hbytes d10) rfl rfl ?_
        refine XS.iloadN Xl.here hexec rfl (hb hbytes d11) rfl ?_
        exact Steps.refl _)
      have c4 : Steps p.tables e below (s₁.setTop (entryFrame m #[.ref b, .int (Int32.ofNat o), .ref d, .int (Int32.ofNat q), .int (Int32.ofNat len)] 7)) (Tl.setTop (mkF m 13 #[.val (.ref b), .val (.int (Int32.ofNat (o + i))), .val (.ref d), .val (.int (Int32.ofNat (q + i))), .val (.int (Int32.ofNat len)), .val (.int (Int32.ofNat i)), z] [.int (cv A (o + i))])) := c3.trans (by
        refine Xl.aget hexec hAl rfl (hA.get (i := o + i) (by omega)) rfl rfl (hb hbytes d12) ?_
        exact Steps.refl _)
      have c5 : Steps p.tables e below (s₁.setTop (entryFrame m #[.ref b, .int (Int32.ofNat o), .ref d, .int (Int32.ofNat q), .int (Int32.ofNat len)] 7)) (Tl.setTop (mkF m 15 #[.val (.ref b), .val (.int (Int32.ofNat (o + i))), .val (.ref d), .val (.int (Int32.ofNat (q + i))), .val (.int (Int32.ofNat len)), .val (.int (Int32.ofNat i)), .val (.int (cv A (o + i)))] [])) := c4.trans (by
        refine XS.istoreS Xl.here hexec rfl (hb hbytes d13) rfl rfl hz ?_
        exact Steps.refl _)
      have c6 : Steps p.tables e below (s₁.setTop (entryFrame m #[.ref b, .int (Int32.ofNat o), .ref d, .int (Int32.ofNat q), .int (Int32.ofNat len)] 7)) (Tl.setTop (mkF m 31 #[.val (.ref b), .val (.int (Int32.ofNat (o + i))), .val (.ref d), .val (.int (Int32.ofNat (q + i))), .val (.int (Int32.ofNat len)), .val (.int (Int32.ofNat i)), .val (.int (cv A (o + i)))] [.int (lo8 (cv A (o + i))), .int (Int32.ofNat (q + i)), .ref d])) := c5.trans (by
        refine XS.iload Xl.here hexec rfl (hb hbytes d15) rfl ?_
        refine sipushV Xl.here hexec rfl 255 (hb hbytes d17) (by decide) ?_
        refine XS.icmpYes Xl.here hexec rfl (pc0 := 20) rfl (hb hbytes d20) rfl (ii_le_t (hp i (by omega))) (by decide) rfl ?_
        refine XS.aloadN Xl.here hexec rfl (hb hbytes d26) rfl rfl ?_
        refine XS.iloadN Xl.here hexec rfl (hb hbytes d27) rfl ?_
        refine XS.iload Xl.here hexec rfl (hb hbytes d28) rfl ?_
        refine i2b Xl.here hexec rfl (hb hbytes d30) rfl ?_
        exact Steps.refl _)
      obtain ⟨T7, X7, p7, st7⟩ := Xl.aput hexec hBk rfl hlt rfl (fits_lo8 (cv A (o + i))) (g := (mkF m 31 #[.val (.ref b), .val (.int (Int32.ofNat (o + i))), .val (.ref d), .val (.int (Int32.ofNat (q + i))), .val (.int (Int32.ofNat len)), .val (.int (Int32.ofNat i)), .val (.int (cv A (o + i)))] [.int (lo8 (cv A (o + i))), .int (Int32.ofNat (q + i)), .ref d])) rfl (rest := []) rfl (hb hbytes d31)
      have c8 : Steps p.tables e below (s₁.setTop (entryFrame m #[.ref b, .int (Int32.ofNat o), .ref d, .int (Int32.ofNat q), .int (Int32.ofNat len)] 7)) (T7.setTop (mkF m 32 #[.val (.ref b), .val (.int (Int32.ofNat (o + i))), .val (.ref d), .val (.int (Int32.ofNat (q + i))), .val (.int (Int32.ofNat len)), .val (.int (Int32.ofNat i)), .val (.int (cv A (o + i)))] [])) := c6.trans (st7 _ (Steps.refl _))
      have c9 : Steps p.tables e below (s₁.setTop (entryFrame m #[.ref b, .int (Int32.ofNat o), .ref d, .int (Int32.ofNat q), .int (Int32.ofNat len)] 7)) (T7.setTop (mkF m 3 #[.val (.ref b), .val (.int (Int32.ofNat (o + i) + 1)), .val (.ref d), .val (.int (Int32.ofNat (q + i) + 1)), .val (.int (Int32.ofNat len)), .val (.int (Int32.ofNat i + 1)), .val (.int (cv A (o + i)))] [])) := c8.trans (by
        refine iincV X7.here hexec rfl 1 (hb hbytes d32) (by decide) rfl rfl ?_
        refine iincV X7.here hexec rfl 1 (hb hbytes d35) (by decide) rfl rfl ?_
        refine iincV X7.here hexec rfl 1 (hb hbytes d38) (by decide) rfl rfl ?_
        refine XS.goto X7.here hexec rfl (pc0 := 41) rfl (hb hbytes d41) (by decide) rfl ?_
        exact Steps.refl _)
      have c10 : Steps p.tables e below (s₁.setTop (entryFrame m #[.ref b, .int (Int32.ofNat o), .ref d, .int (Int32.ofNat q), .int (Int32.ofNat len)] 7)) (T7.setTop (mkF m 3 #[.val (.ref b), .val (.int (Int32.ofNat (o + (i + 1)))), .val (.ref d), .val (.int (Int32.ofNat (q + (i + 1)))), .val (.int (Int32.ofNat len)), .val (.int (Int32.ofNat (i + 1))), .val (.int (cv A (o + i)))] [])) := by
        have := c9
        rw [succ32, succ32, succ32] at this
        exact this
      exact ih (i + 1) (by omega) _ (Or.inr ⟨_, rfl, rfl⟩) T7 _ (by rw [copyLocs_step, ← List.append_assoc]; exact X7) (pl.trans p7) (fl.step (by omega) hlt (by simp)) c10
  obtain ⟨T9, B9, z9, X9, p9, f9, g9⟩ := loop len 0 (by omega) .unset (Or.inl rfl) s₁ B (by simpa [copyLocs] using X0) ⟨hB0.1, fun _ _ => rfl, rfl⟩ (Laid.zero _ _ _) c2
  have c11 : Steps p.tables e below (s₁.setTop (entryFrame m #[.ref b, .int (Int32.ofNat o), .ref d, .int (Int32.ofNat q), .int (Int32.ofNat len)] 7)) (T9.setTop (mkF m 46 #[.val (.ref b), .val (.int (Int32.ofNat (o + len))), .val (.ref d), .val (.int (Int32.ofNat (q + len))), .val (.int (Int32.ofNat len)), .val (.int (Int32.ofNat len)), z9] [.int (Int32.ofNat len)])) := g9.trans (by
    refine XS.iload X9.here hexec rfl (hb hbytes d3) rfl ?_
    refine XS.iload X9.here hexec rfl (hb hbytes d5) rfl ?_
    refine XS.icmpYes X9.here hexec rfl (pc0 := 7) rfl (hb hbytes d7) rfl (ii_ge_t (nlt32 (by omega) (Nat.le_refl _))) (by decide) rfl ?_
    refine XS.iload X9.here hexec rfl (hb hbytes d44) rfl ?_
    exact Steps.refl _)
  exact ⟨T9, some (.int (Int32.ofNat len)), _, _, _, X9, by simp, rfl, rfl, (fun h => by cases h), ⟨rfl, B9, p9.from hh0, f9⟩, fun fs hl => c11.trans (X9.ireturnOut hexec hret rfl (Or.inl rfl) (hb hbytes d46) hl)⟩
end Cmp5
namespace Cmp3
def yN : MethodName := ⟨"java/lang/StringUTF16", "compress", "([CII)[B"⟩
abbrev yB : ByteArray := jdk_52_method_16_code
theorem d0 : decode yB 0 = .ok (.iload_n 2, 1) := by decide +kernel
theorem d1 : decode yB 1 = .ok (.newarray .byte, 2) := by decide +kernel
theorem d3 : decode yB 3 = .ok (.astore_n 3, 1) := by decide +kernel
theorem d4 : decode yB 4 = .ok (.aload_n 0, 1) := by decide +kernel
theorem d5 : decode yB 5 = .ok (.iload_n 1, 1) := by decide +kernel
theorem d6 : decode yB 6 = .ok (.aload_n 3, 1) := by decide +kernel
theorem d7 : decode yB 7 = .ok (.iconst 0, 1) := by decide +kernel
theorem d8 : decode yB 8 = .ok (.iload_n 2, 1) := by decide +kernel
theorem d9 : decode yB 9 = .ok (.invokestatic 115, 3) := by decide +kernel
theorem d12 : decode yB 12 = .ok (.istore 4, 2) := by decide +kernel
theorem d14 : decode yB 14 = .ok (.iload 4, 2) := by decide +kernel
theorem d16 : decode yB 16 = .ok (.iload_n 2, 1) := by decide +kernel
theorem d17 : decode yB 17 = .ok (.if_icmp (.eq) 40, 3) := by decide +kernel
theorem d57 : decode yB 57 = .ok (.aload_n 3, 1) := by decide +kernel
theorem d58 : decode yB 58 = .ok (.areturn, 1) := by decide +kernel
def site : List Cond := [.arrayClass .byte, Cmp5.tab] ++ staticW U16 115 Cmp5.yN
def tab : Cond := tabOf yN yB 6 (some (.array .byte)) site
def P (b : Addr) (A : Cell) (o len : Nat) (args : Array Value) (s : State) : Prop := args = #[.ref b, .int (Int32.ofNat o), .int (Int32.ofNat len)] ∧ Ch b A s ∧ o + len ≤ A.slots.size ∧ len ≤ 536870912 ∧ ∀ i, i < len → ¬ 255 < cv A (o + i)
def E (b : Addr) (A : Cell) (o len : Nat) (r : Option Value) (s u : State) : Prop := NewArr .byte "[B" len (fun j => .int (lo8 (cv A (o + j)))) r s u ∧ u.heap.size = s.heap.size + 1
/-- no char of the range above 255: a new byte[] of their low bytes -/
theorem law (l : Launch) (b : Addr) (A : Cell) (o len : Nat) : Law l yN 3 3 1 18 yB 6 (some (.array .byte)) site (P b A o len) (E b A o len) [] 1 len := by
  refine Law.of_walk (plainFor_of_name (by decide +kernel)) (by decide +kernel) (by decide +kernel) (by decide) (fun _ _ h => by rw [h.1]; rfl) (fun _ U U' hal hh h => ⟨h.1, h.2.1.mv hal hh, h.2.2⟩) (fun r U U' V V' h1 hal h2 h => ⟨NewArr.mv r U U' V V' h1 hal h2 h.1, by rw [h1, h2]; exact h.2⟩) ?_
  intro p e s m args below meth c s₁ X0 hexec hbytes hml hret hlk hnm hown hh0 W hP
  obtain ⟨rfl, hA, l1, l2, hp⟩ := hP
  have a31 := hA.1.2.2.2
  have c1 : Steps p.tables e below (s₁.setTop (entryFrame m #[.ref b, .int (Int32.ofNat o), .int (Int32.ofNat len)] 6)) (s₁.setTop (mkF m 0 #[.val (.ref b), .val (.int (Int32.ofNat o)), .val (.int (Int32.ofNat len)), .unset, .unset, .unset] [])) := entry rfl
  have c2 : Steps p.tables e below (s₁.setTop (entryFrame m #[.ref b, .int (Int32.ofNat o), .int (Int32.ofNat len)] 6)) (s₁.setTop (mkF m 1 #[.val (.ref b), .val (.int (Int32.ofNat o)), .val (.int (Int32.ofNat len)), .unset, .unset, .unset] [.int (Int32.ofNat len)])) := c1.trans (by
    refine XS.iloadN X0.here hexec rfl (hb hbytes d0) rfl ?_
    exact Steps.refl _)
  obtain ⟨T3, B3, X3, ba3, bs3, bv3, bh3, bf3, st3⟩ := X0.anew hexec (atype := .byte) (wk W (.arrayClass .byte)) rfl (by show len * 1 ≤ _; omega) (by omega) (g := (mkF m 1 #[.val (.ref b), .val (.int (Int32.ofNat o)), .val (.int (Int32.ofNat len)), .unset, .unset, .unset] [.int (Int32.ofNat len)])) rfl (hb hbytes d1) (rest := []) rfl (Nat.le_refl _) (by show 0 + len ≤ len; omega)
  rw [hh0] at ba3 st3
  have kp3 : XT.Kept s T3 := (XT.Kept.of_eq hh0).push bh3
  have hA3 := hA.keep X3.warmed.alike (kp3 _ _ hA.1.1)
  have hne : b ≠ s.heap.size := hA.1.ne
  have c4 : Steps p.tables e below (s₁.setTop (entryFrame m #[.ref b, .int (Int32.ofNat o), .int (Int32.ofNat len)] 6)) (T3.setTop (mkF m 3 #[.val (.ref b), .val (.int (Int32.ofNat o)), .val (.int (Int32.ofNat len)), .unset, .unset, .unset] [.ref s.heap.size])) := c2.trans (st3 _ (Steps.refl _))
  have c5 : Steps p.tables e below (s₁.setTop (entryFrame m #[.ref b, .int (Int32.ofNat o), .int (Int32.ofNat len)] 6)) (T3.setTop (mkF m 9 #[.val (.ref b), .val (.int (Int32.ofNat o)), .val (.int (Int32.ofNat len)), .val (.ref s.heap.size), .unset, .unset] [.int (Int32.ofNat len), .int 0, .ref s.heap.size, .int (Int32.ofNat o), .ref b])) := c4.trans (by
    refine XS.astoreN X3.here hexec rfl (hb hbytes d3) rfl rfl rfl ?_
    refine XS.aloadN X3.here hexec rfl (hb hbytes d4) rfl rfl ?_
    refine XS.iloadN X3.here hexec rfl (hb hbytes d5) rfl ?_
    refine XS.aloadN X3.here hexec rfl (hb hbytes d6) rfl rfl ?_
    refine iconstV X3.here hexec rfl 0 (hb hbytes d7) (by decide) ?_
    refine XS.iloadN X3.here hexec rfl (hb hbytes d8) rfl ?_
    exact Steps.refl _)
  obtain ⟨v6, T6, X6, E6, g6⟩ := X3.callS hexec (Cmp5.law l b A s.heap.size B3 o 0 len) hown (wks W (staticW U16 115 Cmp5.yN)) (wk W Cmp5.tab) (W := 0) (Nat.le_of_ble_eq_true rfl) (Nat.le_of_ble_eq_true rfl) (Nat.le_refl _) (by show 0 + len + 0 ≤ len; omega) (g := (mkF m 9 #[.val (.ref b), .val (.int (Int32.ofNat o)), .val (.int (Int32.ofNat len)), .val (.ref s.heap.size), .unset, .unset] [.int (Int32.ofNat len), .int (Int32.ofNat 0), .ref s.heap.size, .int (Int32.ofNat o), .ref b])) rfl (by rw [hml]; rfl) c5 (argsL := [.ref b, .int (Int32.ofNat o), .ref s.heap.size, .int (Int32.ofNat 0), .int (Int32.ofNat len)]) (rest := []) rfl rfl (by show 2 * 0 + 0 ≤ _; decide) (hb hbytes d9) (⟨rfl, hA3, ba3, hne, l1, by rw [bs3]; simp, hp⟩)
  obtain ⟨rfl, B6, p6, f6⟩ := E6
  have c7 : Steps p.tables e below (s₁.setTop (entryFrame m #[.ref b, .int (Int32.ofNat o), .int (Int32.ofNat len)] 6)) (T6.setTop (mkF m 12 #[.val (.ref b), .val (.int (Int32.ofNat o)), .val (.int (Int32.ofNat len)), .val (.ref s.heap.size), .unset, .unset] [.int (Int32.ofNat len)])) := g6
  have c8 : Steps p.tables e below (s₁.setTop (entryFrame m #[.ref b, .int (Int32.ofNat o), .int (Int32.ofNat len)] 6)) (T6.setTop (mkF m 58 #[.val (.ref b), .val (.int (Int32.ofNat o)), .val (.int (Int32.ofNat len)), .val (.ref s.heap.size), .val (.int (Int32.ofNat len)), .unset] [.ref s.heap.size])) := c7.trans (by
    refine XS.istore X6.here hexec rfl (hb hbytes d12) rfl rfl ?_
    refine XS.iload X6.here hexec rfl (hb hbytes d14) rfl ?_
    refine XS.iloadN X6.here hexec rfl (hb hbytes d16) rfl ?_
    refine XS.icmpYes X6.here hexec rfl (pc0 := 17) rfl (hb hbytes d17) rfl (ii_eq_t rfl) (by decide) rfl ?_
    refine XS.aloadN X6.here hexec rfl (hb hbytes d57) rfl rfl ?_
    exact Steps.refl _)
  have X8 := X6.wide (L' := []) (cells' := 1) (slots' := len) (fun x hx hlt => by
    simp only [List.nil_append, copyLocs, List.mem_map, List.mem_range] at hx
    obtain ⟨i, -, rfl⟩ := hx
    exact absurd hlt (Nat.lt_irrefl _)) (Nat.le_refl _) (by omega)
  exact ⟨T6, some (.ref s.heap.size), _, _, _, X8, rfl, rfl, rfl, (fun h => by cases h), ⟨⟨rfl, B6, ba3.like (X3.warmed.alike.symm.trans X6.warmed.alike) p6.1 f6.1 f6.2.1 f6.2.2.1, f6.2.1.trans bv3, by rw [X6.warmed.alike.findClass, f6.1]; exact bf3, by rw [f6.2.2.1, bs3]; simp, fun j hj => by rw [f6.2.2.2 j, if_pos (by omega)]; rfl, kp3.put p6 (Nat.le_refl _)⟩, by rw [p6.2.2, bh3, hh0]; simp⟩, fun fs hl => c8.trans (X8.areturnOut hexec rfl hret rfl (hb hbytes d58) hl)⟩
end Cmp3
namespace CodL
def yN : MethodName := ⟨"java/lang/StringUTF16", "coderFromArrayLen", "([BI)B"⟩
abbrev yB : ByteArray := jdk_52_method_15_code
theorem d0 : decode yB 0 = .ok (.iload_n 1, 1) := by decide +kernel
theorem d1 : decode yB 1 = .ok (.aload_n 0, 1) := by decide +kernel
theorem d2 : decode yB 2 = .ok (.arraylength, 1) := by decide +kernel
theorem d3 : decode yB 3 = .ok (.isub, 1) := by decide +kernel
theorem d4 : decode yB 4 = .ok (.bipush 31, 2) := by decide +kernel
theorem d6 : decode yB 6 = .ok (.iushr, 1) := by decide +kernel
theorem d7 : decode yB 7 = .ok (.i2b, 1) := by decide +kernel
theorem d8 : decode yB 8 = .ok (.ireturn, 1) := by decide +kernel
def site : List Cond := []
def tab : Cond := tabOf yN yB 2 (some .byte) site
def P (d : Addr) (B : Cell) (args : Array Value) (s : State) : Prop := args = #[.ref d, .int (Int32.ofNat B.slots.size)] ∧ Arr .byte d B s
def E (r : Option Value) (s u : State) : Prop := XT.PureE (some (.int 0)) r s u
/-- an array as long as the number of chars: LATIN1 -/
theorem law (l : Launch) (d : Addr) (B : Cell) : Law l yN 2 2 0 0 yB 2 (some .byte) site (P d B) E [] 0 0 := by
  refine Law.of_walk (plainFor_of_name (by decide +kernel)) (by decide +kernel) (by decide +kernel) (by decide) (fun _ _ h => by rw [h.1]; rfl) (fun _ U U' hal hh h => ⟨h.1, h.2.mv hal hh⟩) (fun r U U' V V' h1 hal h2 h => XT.PureE.mv r U U' V V' h1 hal h2 h) ?_
  intro p e s m args below meth c s₁ X0 hexec hbytes hml hret hlk hnm hown hh0 W hP
  obtain ⟨rfl, hB⟩ := hP
  have hB0 := hB.mv X0.warmed.alike hh0
  have c1 : Steps p.tables e below (s₁.setTop (entryFrame m #[.ref d, .int (Int32.ofNat B.slots.size)] 2)) (s₁.setTop (mkF m 0 #[.val (.ref d), .val (.int (Int32.ofNat B.slots.size))] [])) := entry rfl
  have c2 : Steps p.tables e below (s₁.setTop (entryFrame m #[.ref d, .int (Int32.ofNat B.slots.size)] 2)) (s₁.setTop (mkF m 2 #[.val (.ref d), .val (.int (Int32.ofNat B.slots.size))] [.ref d, .int (Int32.ofNat B.slots.size)])) := c1.trans (by
    refine XS.iloadN X0.here hexec rfl (hb hbytes d0) rfl ?_
    refine XS.aloadN X0.here hexec rfl (hb hbytes d1) rfl rfl ?_
    exact Steps.refl _)
  have c3 : Steps p.tables e below (s₁.setTop (entryFrame m #[.ref d, .int (Int32.ofNat B.slots.size)] 2)) (s₁.setTop (mkF m 8 #[.val (.ref d), .val (.int (Int32.ofNat B.slots.size))] [.int (lo8 (ushr (Int32.ofNat B.slots.size - Int32.ofNat B.slots.size) 31))])) := c2.trans (by
    refine X0.alen hexec hB0 rfl rfl (hb hbytes d2) ?_
    refine XS.isub X0.here hexec rfl (hb hbytes d3) rfl ?_
    refine bipushV X0.here hexec rfl 31 (hb hbytes d4) (by decide) ?_
    refine iushr X0.here hexec rfl (hb hbytes d6) rfl ?_
    refine i2b X0.here hexec rfl (hb hbytes d7) rfl ?_
    exact Steps.refl _)
  have e0 : lo8 (ushr (Int32.ofNat B.slots.size - Int32.ofNat B.slots.size) 31) = 0 := by rw [Int32.sub_self]; decide
  rw [e0] at c3
  exact ⟨s₁, some (.int 0), _, _, _, X0, rfl, rfl, rfl, (fun h => by cases h), ⟨rfl, hh0⟩, fun fs hl => c3.trans (X0.ireturnOut hexec hret rfl (Or.inr (Or.inr (Or.inl rfl))) (hb hbytes d8) hl)⟩
end CodL
/-- the String at a is Latin-1 over a new byte[] (the heap's one new cell): the low bytes of the len chars of A from o on; every cell but a is kept -/
def Got (a : Addr) (D : Cell) (fV fC : Field) (A : Cell) (o len : Nat) (r : Option Value) (s u : State) : Prop := r = none ∧ ∃ D' V : Cell, Blank "java/lang/String" a D' u ∧ Same D D' [fV.slot, fC.slot] ∧ D'.slots[fV.slot]? = some (.ref s.heap.size) ∧ D'.slots[fC.slot]? = some (.int 0) ∧ Arr .byte s.heap.size V u ∧ V.vm = .none ∧ u.vm.findClass "[B" = some V.cls ∧ V.slots.size = len ∧ (∀ j, j < len → V.slots[j]? = some (.int (lo8 (cv A (o + j))))) ∧ (∀ (y : Addr) (c : Cell), y ≠ a → s.heap[y]? = some c → u.heap[y]? = some c) ∧ u.heap.size = s.heap.size + 1
theorem Got.mv {a : Addr} {D A : Cell} {fV fC : Field} {o len : Nat} : ∀ r (U U' V V' : State), U'.heap = U.heap → V.vm.Alike V'.vm → V'.heap = V.heap → Got a D fV fC A o len r U V → Got a D fV fC A o len r U' V' :=
  fun r U U' V V' h1 hal h2 ⟨e0, D', X, a1, a2, a3, a4, a5, a6, a7, a8, a9, a10, a11⟩ => ⟨e0, D', X, a1.mv hal h2, a2, by rw [h1]; exact a3, a4, by rw [h1]; exact a5.mv hal h2, a6, by rw [hal.findClass]; exact a7, a8, a9, by rw [h1, h2]; exact a10, by rw [h1, h2]; exact a11⟩
namespace New4
def yN : MethodName := ⟨"java/lang/String", "<init>", "([CIILjava/lang/Void;)V"⟩
abbrev yB : ByteArray := jdk_42_method_149_code
theorem d0 : decode yB 0 = .ok (.aload_n 0, 1) := by decide +kernel
theorem d1 : decode yB 1 = .ok (.invokespecial 1, 3) := by decide +kernel
theorem d4 : decode yB 4 = .ok (.iload_n 3, 1) := by decide +kernel
theorem d5 : decode yB 5 = .ok (.ifCond (.ne) 22, 3) := by decide +kernel
theorem d27 : decode yB 27 = .ok (.getstatic 38, 3) := by decide +kernel
theorem d30 : decode yB 30 = .ok (.ifCond (.eq) 28, 3) := by decide +kernel
theorem d33 : decode yB 33 = .ok (.aload_n 1, 1) := by decide +kernel
theorem d34 : decode yB 34 = .ok (.iload_n 2, 1) := by decide +kernel
theorem d35 : decode yB 35 = .ok (.iload_n 3, 1) := by decide +kernel
theorem d36 : decode yB 36 = .ok (.invokestatic 177, 3) := by decide +kernel
theorem d39 : decode yB 39 = .ok (.astore 5, 2) := by decide +kernel
theorem d41 : decode yB 41 = .ok (.aload_n 0, 1) := by decide +kernel
theorem d42 : decode yB 42 = .ok (.aload 5, 2) := by decide +kernel
theorem d44 : decode yB 44 = .ok (.iload_n 3, 1) := by decide +kernel
theorem d45 : decode yB 45 = .ok (.invokestatic 47, 3) := by decide +kernel
theorem d48 : decode yB 48 = .ok (.putfield 15, 3) := by decide +kernel
theorem d51 : decode yB 51 = .ok (.aload_n 0, 1) := by decide +kernel
theorem d52 : decode yB 52 = .ok (.aload 5, 2) := by decide +kernel
theorem d54 : decode yB 54 = .ok (.putfield 9, 3) := by decide +kernel
theorem d57 : decode yB 57 = .ok (.return_, 1) := by decide +kernel
def site : List Cond := [.fieldLink "java/lang/String" 38 "java/lang/String" "COMPACT_STRINGS" "Z", Cmp3.tab, CodL.tab, .laysFinal "java/lang/String" "java/lang/String" "value" "[B", .fieldLink "java/lang/String" 9 "java/lang/String" "value" "[B", .laysFinal "java/lang/String" "java/lang/String" "coder" "B", .fieldLink "java/lang/String" 15 "java/lang/String" "coder" "B"] ++ objW "java/lang/String" 1 ++ staticW "java/lang/String" 177 Cmp3.yN ++ staticW "java/lang/String" 47 CodL.yN
def tab : Cond := tabOf yN yB 6 none site
def P (a : Addr) (D : Cell) (fV fC : Field) (b : Addr) (A : Cell) (z : Int32) (o len : Nat) (args : Array Value) (s : State) : Prop := args = #[.ref a, .ref b, .int (Int32.ofNat o), .int (Int32.ofNat len), .null] ∧ Blank "java/lang/String" a D s ∧ Found "java/lang/String" "value" "[B" fV s ∧ Found "java/lang/String" "coder" "B" fC s ∧ Ch b A s ∧ StaticIs s "java/lang/String" "COMPACT_STRINGS" "Z" (.int z) ∧ ¬ z = 0 ∧ 0 < len ∧ o + len ≤ A.slots.size ∧ len ≤ 536870912 ∧ ∀ i, i < len → ¬ 255 < cv A (o + i)
def E (a : Addr) (D : Cell) (fV fC : Field) (A : Cell) (o len : Nat) (r : Option Value) (s u : State) : Prop := Got a D fV fC A o len r s u
/-- len > 0, no char of the range above 255: a Latin-1 String of their low bytes -/
theorem law (l : Launch) (a : Addr) (D : Cell) (fV fC : Field) (b : Addr) (A : Cell) (z : Int32) (o len : Nat) : Law l yN 5 4 2 35 yB 6 none site (P a D fV fC b A z o len) (E a D fV fC A o len) [⟨a, fC.slot⟩, ⟨a, fV.slot⟩] 1 len := by
  refine Law.of_walk (plainFor_of_name (by decide +kernel)) (by decide +kernel) (by decide +kernel) (by decide) (fun _ _ h => by rw [h.1]; rfl) (fun _ U U' hal hh h => ⟨h.1, h.2.1.mv hal hh, h.2.2.1.al hal, h.2.2.2.1.al hal, h.2.2.2.2.1.mv hal hh, h.2.2.2.2.2.1.there hal hh, h.2.2.2.2.2.2⟩) (fun r U U' V V' h1 hal h2 h => Got.mv r U U' V V' h1 hal h2 h) ?_
  intro p e s m args below meth c s₁ X0 hexec hbytes hml hret hlk hnm hown hh0 W hP
  obtain ⟨rfl, hB, f1, f2, hA, s1, hz, l0, l1, l2, hp⟩ := hP
  have a31 := hA.1.2.2.2
  have c1 : Steps p.tables e below (s₁.setTop (entryFrame m #[.ref a, .ref b, .int (Int32.ofNat o), .int (Int32.ofNat len), .null] 6)) (s₁.setTop (mkF m 0 #[.val (.ref a), .val (.ref b), .val (.int (Int32.ofNat o)), .val (.int (Int32.ofNat len)), .val .null, .unset] [])) := entry rfl
  have c2 : Steps p.tables e below (s₁.setTop (entryFrame m #[.ref a, .ref b, .int (Int32.ofNat o), .int (Int32.ofNat len), .null] 6)) (s₁.setTop (mkF m 1 #[.val (.ref a), .val (.ref b), .val (.int (Int32.ofNat o)), .val (.int (Int32.ofNat len)), .val .null, .unset] [.ref a])) := c1.trans (by
    refine XS.aloadN X0.here hexec rfl (hb hbytes d0) rfl rfl ?_
    exact Steps.refl _)
  obtain ⟨T3, X3, q3, st3⟩ := X0.oinit hexec hown (wks W (objW "java/lang/String" 1)) (g := (mkF m 1 #[.val (.ref a), .val (.ref b), .val (.int (Int32.ofNat o)), .val (.int (Int32.ofNat len)), .val .null, .unset] [.ref a])) rfl (by rw [hml]; rfl) (rest := []) rfl (hb hbytes d1) (W := 0) (by show 2 * 0 + 0 ≤ _; decide) (Nat.le_of_ble_eq_true rfl) (Nat.le_of_ble_eq_true rfl)
  have hh3 := q3.trans hh0
  have c4 : Steps p.tables e below (s₁.setTop (entryFrame m #[.ref a, .ref b, .int (Int32.ofNat o), .int (Int32.ofNat len), .null] 6)) (T3.setTop (mkF m 27 #[.val (.ref a), .val (.ref b), .val (.int (Int32.ofNat o)), .val (.int (Int32.ofNat len)), .val .null, .unset] [])) := (c2.trans (st3 _ (Steps.refl _))).trans (by
    refine XS.iloadN X3.here hexec rfl (hb hbytes d4) rfl ?_
    refine XS.ifYes X3.here hexec rfl (pc0 := 5) rfl (hb hbytes d5) rfl (i0_ne_t (nz32 (by omega) l0)) (by decide) rfl ?_
    exact Steps.refl _)
  obtain ⟨T5, X5, q5, st5⟩ := X3.sget hexec hown (wk W (.fieldLink "java/lang/String" 38 "java/lang/String" "COMPACT_STRINGS" "Z")) s1 (fun _ _ h => by rw [hh3]; exact h) (g := (mkF m 27 #[.val (.ref a), .val (.ref b), .val (.int (Int32.ofNat o)), .val (.int (Int32.ofNat len)), .val .null, .unset] [])) rfl (hb hbytes d27)
  have hh5 := q5.trans hh3
  have c6 : Steps p.tables e below (s₁.setTop (entryFrame m #[.ref a, .ref b, .int (Int32.ofNat o), .int (Int32.ofNat len), .null] 6)) (T5.setTop (mkF m 30 #[.val (.ref a), .val (.ref b), .val (.int (Int32.ofNat o)), .val (.int (Int32.ofNat len)), .val .null, .unset] [.int z])) := c4.trans (st5 _ (Steps.refl _))
  have c7 : Steps p.tables e below (s₁.setTop (entryFrame m #[.ref a, .ref b, .int (Int32.ofNat o), .int (Int32.ofNat len), .null] 6)) (T5.setTop (mkF m 36 #[.val (.ref a), .val (.ref b), .val (.int (Int32.ofNat o)), .val (.int (Int32.ofNat len)), .val .null, .unset] [.int (Int32.ofNat len), .int (Int32.ofNat o), .ref b])) := c6.trans (by
    refine XS.ifNo X5.here hexec rfl (hb hbytes d30) rfl (i0_eq_f hz) ?_
    refine XS.aloadN X5.here hexec rfl (hb hbytes d33) rfl rfl ?_
    refine XS.iloadN X5.here hexec rfl (hb hbytes d34) rfl ?_
    refine XS.iloadN X5.here hexec rfl (hb hbytes d35) rfl ?_
    exact Steps.refl _)
  obtain ⟨v8, T8, X8, E8, g8⟩ := X5.callS hexec (Cmp3.law l b A o len) hown (wks W (staticW "java/lang/String" 177 Cmp3.yN)) (wk W Cmp3.tab) (W := 0) (Nat.le_of_ble_eq_true rfl) (Nat.le_of_ble_eq_true rfl) (Nat.le_refl _) (by show 0 + len ≤ len; omega) (g := (mkF m 36 #[.val (.ref a), .val (.ref b), .val (.int (Int32.ofNat o)), .val (.int (Int32.ofNat len)), .val .null, .unset] [.int (Int32.ofNat len), .int (Int32.ofNat o), .ref b])) rfl (by rw [hml]; rfl) c7 (argsL := [.ref b, .int (Int32.ofNat o), .int (Int32.ofNat len)]) (rest := []) rfl rfl (by show 2 * 0 + 0 ≤ _; decide) (hb hbytes d36) (⟨rfl, hA.mv X5.warmed.alike hh5, l1, l2, hp⟩)
  obtain ⟨e8, z8⟩ := E8
  obtain ⟨rfl, N, n1, n2, n3, n4, n5, n6⟩ := NewArr.mv _ T5 s _ _ hh5.symm (Vm.Alike.refl _) rfl e8
  rw [hh5] at z8
  have hB1 := hB.keep X8.warmed.alike (n6 _ _ hB.1)
  have hne : s.heap.size ≠ a := (Nat.ne_of_lt (Array.getElem?_eq_some_iff.mp hB.1).1).symm
  have c9 : Steps p.tables e below (s₁.setTop (entryFrame m #[.ref a, .ref b, .int (Int32.ofNat o), .int (Int32.ofNat len), .null] 6)) (T8.setTop (mkF m 39 #[.val (.ref a), .val (.ref b), .val (.int (Int32.ofNat o)), .val (.int (Int32.ofNat len)), .val .null, .unset] [.ref s.heap.size])) := g8
  have c10 : Steps p.tables e below (s₁.setTop (entryFrame m #[.ref a, .ref b, .int (Int32.ofNat o), .int (Int32.ofNat len), .null] 6)) (T8.setTop (mkF m 45 #[.val (.ref a), .val (.ref b), .val (.int (Int32.ofNat o)), .val (.int (Int32.ofNat len)), .val .null, .val (.ref s.heap.size)] [.int (Int32.ofNat N.slots.size), .ref s.heap.size, .ref a])) := by
    have hc : Steps p.tables e below (s₁.setTop (entryFrame m #[.ref a, .ref b, .int (Int32.ofNat o), .int (Int32.ofNat len), .null] 6)) (T8.setTop (mkF m 45 #[.val (.ref a), .val (.ref b), .val (.int (Int32.ofNat o)), .val (.int (Int32.ofNat len)), .val .null, .val (.ref s.heap.size)] [.int (Int32.ofNat len), .ref s.heap.size, .ref a])) := c9.trans (by
      refine XS.astore X8.here hexec rfl (hb hbytes d39) rfl rfl rfl ?_
      refine XS.aloadN X8.here hexec rfl (hb hbytes d41) rfl rfl ?_
      refine XS.aload X8.here hexec rfl (hb hbytes d42) rfl rfl ?_
      refine XS.iloadN X8.here hexec rfl (hb hbytes d44) rfl ?_
      exact Steps.refl _)
    rw [n4]; exact hc
  obtain ⟨v11, T11, X11, E11, g11⟩ := X8.callS hexec (CodL.law l s.heap.size N) hown (wks W (staticW "java/lang/String" 47 CodL.yN)) (wk W CodL.tab) (W := 1) (Nat.le_of_ble_eq_true rfl) (Nat.le_of_ble_eq_true rfl) (Nat.le_refl _) (by show 0 + len + 0 ≤ len; omega) (g := (mkF m 45 #[.val (.ref a), .val (.ref b), .val (.int (Int32.ofNat o)), .val (.int (Int32.ofNat len)), .val .null, .val (.ref s.heap.size)] [.int (Int32.ofNat N.slots.size), .ref s.heap.size, .ref a])) rfl (by rw [hml]; rfl) c10 (argsL := [.ref s.heap.size, .int (Int32.ofNat N.slots.size)]) (rest := [.ref a]) rfl rfl (by show 2 * 0 + (1 + 0) ≤ _; decide) (hb hbytes d45) (⟨rfl, n1⟩)
  obtain ⟨rfl, q11⟩ := E11
  have hB11 := hB1.mv (X8.warmed.alike.symm.trans X11.warmed.alike) q11
  have c12 : Steps p.tables e below (s₁.setTop (entryFrame m #[.ref a, .ref b, .int (Int32.ofNat o), .int (Int32.ofNat len), .null] 6)) (T11.setTop (mkF m 48 #[.val (.ref a), .val (.ref b), .val (.int (Int32.ofNat o)), .val (.int (Int32.ofNat len)), .val .null, .val (.ref s.heap.size)] [.int 0, .ref a])) := g11
  obtain ⟨T13, X13, p13, bl13, sl13, st13⟩ := X11.finit hexec hown (wk W (.fieldLink "java/lang/String" 15 "java/lang/String" "coder" "B")) (Or.inr ⟨_, (wk W (.laysFinal "java/lang/String" "java/lang/String" "coder" "B"))⟩) (Or.inl ⟨rfl, hnm⟩) f2 (Or.inl rfl) hB11 (t := .byte) (by decide +kernel) rfl (g := (mkF m 48 #[.val (.ref a), .val (.ref b), .val (.int (Int32.ofNat o)), .val (.int (Int32.ofNat len)), .val .null, .val (.ref s.heap.size)] [.int 0, .ref a])) rfl (rest := []) rfl (hb hbytes d48)
  have c14 : Steps p.tables e below (s₁.setTop (entryFrame m #[.ref a, .ref b, .int (Int32.ofNat o), .int (Int32.ofNat len), .null] 6)) (T13.setTop (mkF m 54 #[.val (.ref a), .val (.ref b), .val (.int (Int32.ofNat o)), .val (.int (Int32.ofNat len)), .val .null, .val (.ref s.heap.size)] [.ref s.heap.size, .ref a])) := (c12.trans (st13 _ (Steps.refl _))).trans (by
    refine XS.aloadN X13.here hexec rfl (hb hbytes d51) rfl rfl ?_
    refine XS.aload X13.here hexec rfl (hb hbytes d52) rfl rfl ?_
    exact Steps.refl _)
  obtain ⟨T15, X15, p15, bl15, sl15, st15⟩ := X13.finit hexec hown (wk W (.fieldLink "java/lang/String" 9 "java/lang/String" "value" "[B")) (Or.inr ⟨_, (wk W (.laysFinal "java/lang/String" "java/lang/String" "value" "[B"))⟩) (Or.inl ⟨rfl, hnm⟩) f1 (Or.inl rfl) bl13 (t := (.array .byte)) (by decide +kernel) rfl (g := (mkF m 54 #[.val (.ref a), .val (.ref b), .val (.int (Int32.ofNat o)), .val (.int (Int32.ofNat len)), .val .null, .val (.ref s.heap.size)] [.ref s.heap.size, .ref a])) rfl (rest := []) rfl (hb hbytes d54)
  have c16 : Steps p.tables e below (s₁.setTop (entryFrame m #[.ref a, .ref b, .int (Int32.ofNat o), .int (Int32.ofNat len), .null] 6)) (T15.setTop (mkF m 57 #[.val (.ref a), .val (.ref b), .val (.int (Int32.ofNat o)), .val (.int (Int32.ofNat len)), .val .null, .val (.ref s.heap.size)] [])) := c14.trans (st15 _ (Steps.refl _))
  have ap := apart (Or.inr ⟨_, (wk W (.laysFinal "java/lang/String" "java/lang/String" "value" "[B"))⟩) (Or.inr ⟨_, (wk W (.laysFinal "java/lang/String" "java/lang/String" "coder" "B"))⟩) f1 f2 (t₁ := .array .byte) (t₂ := .byte) (by decide +kernel) (by decide +kernel) (by decide)
  have al := X8.warmed.alike.symm.trans X15.warmed.alike
  have n7 : T11.heap[s.heap.size]? = some N := by rw [q11]; exact n1.1
  exact ⟨T15, none, _, _, _, X15, by simp, rfl, by omega, (fun _ => rfl), ⟨rfl, _, N, bl15, ((Same.refl D _).set _ (by simp)).set _ (by simp), sl15, (Cell.slots_setSlot_ne _ ap).trans sl13, n1.keep al (p15.other hne (p13.other hne n7)), n2, by rw [al.findClass]; exact n3, n4, n5, fun y c h1 h2 => p15.other h1 (p13.other h1 (by rw [q11]; exact n6 y c h2)), by rw [p15.2.2, p13.2.2, q11]; exact z8⟩, fun fs hl => c16.trans (X15.returnOut hexec hret (hb hbytes d57) hl)⟩
end New4
namespace New1
def yN : MethodName := ⟨"java/lang/String", "<init>", "([C)V"⟩
abbrev yB : ByteArray := jdk_42_method_3_code
theorem d0 : decode yB 0 = .ok (.aload_n 0, 1) := by decide +kernel
theorem d1 : decode yB 1 = .ok (.aload_n 1, 1) := by decide +kernel
theorem d2 : decode yB 2 = .ok (.iconst 0, 1) := by decide +kernel
theorem d3 : decode yB 3 = .ok (.aload_n 1, 1) := by decide +kernel
theorem d4 : decode yB 4 = .ok (.arraylength, 1) := by decide +kernel
theorem d5 : decode yB 5 = .ok (.aconst_null, 1) := by decide +kernel
theorem d6 : decode yB 6 = .ok (.invokespecial 27, 3) := by decide +kernel
theorem d9 : decode yB 9 = .ok (.return_, 1) := by decide +kernel
def site : List Cond := [New4.tab] ++ initW "java/lang/String" 27 New4.yN
def tab : Cond := tabOf yN yB 2 none site
def P (a : Addr) (D : Cell) (fV fC : Field) (b : Addr) (A : Cell) (z : Int32) (args : Array Value) (s : State) : Prop := args = #[.ref a, .ref b] ∧ Blank "java/lang/String" a D s ∧ Found "java/lang/String" "value" "[B" fV s ∧ Found "java/lang/String" "coder" "B" fC s ∧ Ch b A s ∧ StaticIs s "java/lang/String" "COMPACT_STRINGS" "Z" (.int z) ∧ ¬ z = 0 ∧ 0 < A.slots.size ∧ A.slots.size ≤ 536870912 ∧ ∀ i, i < A.slots.size → ¬ 255 < cv A i
def E (a : Addr) (D : Cell) (fV fC : Field) (A : Cell) (r : Option Value) (s u : State) : Prop := Got a D fV fC A 0 A.slots.size r s u
/-- new String(chars), not empty, no char above 255: a Latin-1 String of their low bytes -/
theorem law (l : Launch) (a : Addr) (D : Cell) (fV fC : Field) (b : Addr) (A : Cell) (z : Int32) : Law l yN 2 1 3 52 yB 2 none site (P a D fV fC b A z) (E a D fV fC A) [⟨a, fC.slot⟩, ⟨a, fV.slot⟩] 1 A.slots.size := by
  refine Law.of_walk (plainFor_of_name (by decide +kernel)) (by decide +kernel) (by decide +kernel) (by decide) (fun _ _ h => by rw [h.1]; rfl) (fun _ U U' hal hh h => ⟨h.1, h.2.1.mv hal hh, h.2.2.1.al hal, h.2.2.2.1.al hal, h.2.2.2.2.1.mv hal hh, h.2.2.2.2.2.1.there hal hh, h.2.2.2.2.2.2⟩) (fun r U U' V V' h1 hal h2 h => Got.mv r U U' V V' h1 hal h2 h) ?_
  intro p e s m args below meth c s₁ X0 hexec hbytes hml hret hlk hnm hown hh0 W hP
  obtain ⟨rfl, hB, f1, f2, hA, s1, hz, l0, l2, hp⟩ := hP
  have c1 : Steps p.tables e below (s₁.setTop (entryFrame m #[.ref a, .ref b] 2)) (s₁.setTop (mkF m 0 #[.val (.ref a), .val (.ref b)] [])) := entry rfl
  have c2 : Steps p.tables e below (s₁.setTop (entryFrame m #[.ref a, .ref b] 2)) (s₁.setTop (mkF m 6 #[.val (.ref a), .val (.ref b)] [.null, .int (Int32.ofNat A.slots.size), .int 0, .ref b, .ref a])) := c1.trans (by
    refine XS.aloadN X0.here hexec rfl (hb hbytes d0) rfl rfl ?_
    refine XS.aloadN X0.here hexec rfl (hb hbytes d1) rfl rfl ?_
    refine iconstV X0.here hexec rfl 0 (hb hbytes d2) (by decide) ?_
    refine XS.aloadN X0.here hexec rfl (hb hbytes d3) rfl rfl ?_
    refine X0.alen hexec (hA.1.mv X0.warmed.alike hh0) rfl rfl (hb hbytes d4) ?_
    refine XS.aconstNull X0.here hexec rfl (hb hbytes d5) ?_
    exact Steps.refl _)
  obtain ⟨v3, T3, X3, E3, g3⟩ := X0.callN hexec (New4.law l a D fV fC b A z 0 A.slots.size) rfl hown (wks W (initW "java/lang/String" 27 New4.yN)) (W New4.tab (by simp only [site, List.mem_cons, List.mem_append, true_or, or_true])) (W := 0) (Nat.le_of_ble_eq_true rfl) (Nat.le_of_ble_eq_true rfl) (Nat.le_refl _) (by show 0 + A.slots.size ≤ A.slots.size; omega) (g := (mkF m 6 #[.val (.ref a), .val (.ref b)] [.null, .int (Int32.ofNat A.slots.size), .int (Int32.ofNat 0), .ref b, .ref a])) rfl (by rw [hml]; rfl) c2 (argsL := [.ref b, .int (Int32.ofNat 0), .int (Int32.ofNat A.slots.size), .null]) (rest := []) rfl rfl (by show 2 * 0 + 0 ≤ _; decide) (hb hbytes d6) (⟨rfl, hB.mv X0.warmed.alike hh0, f1.al X0.warmed.alike, f2.al X0.warmed.alike, hA.mv X0.warmed.alike hh0, s1.there X0.warmed.alike hh0, hz, l0, by omega, l2, fun i hi => by rw [Nat.zero_add]; exact hp i hi⟩)
  have e0 := Got.mv _ s₁ s _ _ hh0.symm (Vm.Alike.refl _) rfl E3
  obtain rfl := e0.1
  have c4 : Steps p.tables e below (s₁.setTop (entryFrame m #[.ref a, .ref b] 2)) (T3.setTop (mkF m 9 #[.val (.ref a), .val (.ref b)] [])) := g3
  exact ⟨T3, none, _, _, _, X3, by simp, rfl, by omega, (fun _ => rfl), e0, fun fs hl => c4.trans (X3.returnOut hexec hret (hb hbytes d9) hl)⟩
theorem pays {l : Launch} {R : Room} {p : Program} {e : Env} {below : List Frame} {s : State} {sargs : Array Value} {len W : Nat} (a : Addr) (D : Cell) (fV fC : Field) (b : Addr) (A : Cell) (z : Int32) (htab : tab.before sargs s = true) (hfr : 4 ≤ R.frames) (hlo : W + 65 ≤ R.locals) :
    Back l R p e below s sargs yN len W (fun A₁ a₁ => A₁.cells + 1 ≤ R.cells ∧ A₁.slots + A.slots.size ≤ R.slots ∧ P a D fV fC b A z a₁ A₁.U) (fun A₁ _ v₁ B₁ => E a D fV fC A v₁ A₁.U B₁.U ∧ B₁.locs = A₁.locs ++ [⟨a, fC.slot⟩, ⟨a, fV.slot⟩] ∧ B₁.cells = A₁.cells + 1 ∧ B₁.slots = A₁.slots + A.slots.size) :=
  (law l a D fV fC b A z).pays htab hfr (by omega)
end New1
end StrChars
namespace StrChars.Road
open Jvm Sem ClassFile Op Lib Jvm.Stand Jvm.Free Jvm.Free.XT
open Jvm.Lib.Cold (StaticIs)
abbrev ST : String := "java/lang/String"
/-- every table word that New1's law asks, flat -/
abbrev words : List Jvm.Cond := [.code New1.yN New1.yB 2 none, .initialized ST, .methodLink ST 27 New4.yN, .instanceMethod New4.yN,
  .code New4.yN New4.yB 6 none, .fieldLink ST 38 ST "COMPACT_STRINGS" "Z", .laysFinal ST ST "value" "[B", .fieldLink ST 9 ST "value" "[B", .laysFinal ST ST "coder" "B", .fieldLink ST 15 ST "coder" "B",
  .methodLink ST 1 Lib.objectInit, .instanceMethod Lib.objectInit, .code Lib.objectInit ⟨#[0xb1]⟩ 1 none, .methodLink ST 177 Cmp3.yN, .static Cmp3.yN, .methodLink ST 47 CodL.yN, .static CodL.yN,
  .code Cmp3.yN Cmp3.yB 6 (some (.array .byte)), .initialized U16, .arrayClass .byte, .methodLink U16 115 Cmp5.yN, .static Cmp5.yN, .code Cmp5.yN Cmp5.yB 7 (some .int), .code CodL.yN CodL.yB 2 (some .byte)]
theorem tab_of {a : Array Value} {s : State} (h : ∀ w ∈ words, w.before a s = true) : New1.tab.before a s = true := by
  have h5 : Cmp5.tab.before a s = true := unparts (wk h (.code Cmp5.yN Cmp5.yB 7 (some .int))) (wks h (.initialized Cmp5.yN.cls :: Cmp5.site))
  have hc : CodL.tab.before a s = true := unparts (wk h (.code CodL.yN CodL.yB 2 (some .byte))) (wks h (.initialized CodL.yN.cls :: CodL.site))
  have q5 : ∀ w ∈ Cmp5.tab :: words, w.before a s = true := fun w hw => (List.mem_cons.mp hw).elim (fun e => e ▸ h5) (h w)
  have h3 : Cmp3.tab.before a s = true := unparts (wk q5 (.code Cmp3.yN Cmp3.yB 6 (some (.array .byte)))) (wks q5 (.initialized Cmp3.yN.cls :: Cmp3.site))
  have q3 : ∀ w ∈ Cmp3.tab :: CodL.tab :: words, w.before a s = true := fun w hw => (List.mem_cons.mp hw).elim (fun e => e ▸ h3) fun hw => (List.mem_cons.mp hw).elim (fun e => e ▸ hc) (h w)
  have h4 : New4.tab.before a s = true := unparts (wk q3 (.code New4.yN New4.yB 6 none)) (wks q3 (.initialized New4.yN.cls :: New4.site))
  have q4 : ∀ w ∈ New4.tab :: words, w.before a s = true := fun w hw => (List.mem_cons.mp hw).elim (fun e => e ▸ h4) (h w)
  exact unparts (wk q4 (.code New1.yN New1.yB 2 none)) (wks q4 (.initialized New1.yN.cls :: New1.site))
/-- the words ride from the start Z to the walk's own state -/
theorem moved {Z s : State} {a0 args : Array Value} (hZ : Z.Warmed39 s.vm) (hw : ∀ d ∈ words, d.before a0 Z = true) : ∀ d ∈ words, d.before args s = true := fun d hd => by
  have q := hw d hd
  have t : ∀ d ∈ words, d = .arrayClass .byte ∨ (d.onTables && d.keepsFace) = true := by decide +kernel
  rcases t d hd with rfl | t
  · exact RoadKit.mvA hZ q
  · exact RoadKit.mv hZ q t
/-- WHAT COMES BACK, over the tables of the start Z: h the heap at the call, h' behind it -/
def Q (Z : State) (x : Addr) (A : Cell) (h : Heap) (v : Option Value) (h' : Heap) (L : List Loc) : Prop := v = none ∧ (∀ y ∈ L, y.base = x) ∧ RoadKit.Keep h h' [x] ∧ h'.size = h.size + 1 ∧ RoadKit.Exa Z h' x ST ∧ RoadKit.Fld Z h' x ST "value" "[B" (.ref h.size) ∧ RoadKit.Fld Z h' x ST "coder" "B" (.int 0) ∧
  (∃ V : Cell, RoadKit.Arr Z h' h.size V .byte ∧ V.vm = .none ∧ Z.vm.findClass "[B" = some V.cls ∧ V.slots.size = A.slots.size ∧ ∀ j, j < A.slots.size → V.slots[j]? = some (.int (lo8 (cv A j)))) ∧
  ∀ (O n d : String) (w : Value), RoadKit.Fld Z h x O n d w → RoadKit.slotOf Z O n d ≠ RoadKit.slotOf Z ST "value" "[B" → RoadKit.slotOf Z O n d ≠ RoadKit.slotOf Z ST "coder" "B" → RoadKit.Fld Z h' x O n d w
/-- **new String(chars) AT A CALL, IN THE ROAD'S FORM**: for specialBack behind newO: x the fresh String, b the char[] with the cell A -/
theorem back {p : Program} {l : Launch} {e : Env} {R : Room} {s : State} {args : Array Value} {below : List Frame} {len W : Nat} {Z : State} {a0 : Array Value} {h : Heap} (hZ : Z.Warmed39 s.vm) (hw : ∀ d ∈ words, d.before a0 Z = true) {kI : Nat} (wi : (Jvm.Cond.instantiable ST kI).before a0 Z = true)
    {x b : Addr} {A : Cell} {z : Int32} {v0 c0 : Value} (E : RoadKit.Exa Z h x ST) (V : RoadKit.Fld Z h x ST "value" "[B" v0) (C : RoadKit.Fld Z h x ST "coder" "B" c0) (K : RoadKit.Arr Z h b A .char) (hty : Typed .char A) (S : RoadKit.Sta Z h ST "COMPACT_STRINGS" "Z" (.int z)) (hz : ¬ z = 0)
    (l0 : 0 < A.slots.size) (l2 : A.slots.size ≤ 536870912) (hp : ∀ i, i < A.slots.size → ¬ 255 < cv A i) (hfr : 4 ≤ R.frames) (hlo : W + 65 ≤ R.locals) :
    Back l R p e below s args New1.yN len W (fun P a => a = #[.ref x, .ref b] ∧ P.U.heap = h ∧ P.cells + 1 ≤ R.cells ∧ P.slots + A.slots.size ≤ R.slots)
      (fun P _ v B => ∃ L, Q Z x A h v B.U.heap L ∧ B.locs = P.locs ++ L ∧ B.cells = P.cells + 1 ∧ B.slots = P.slots + A.slots.size) := by
  intro m meth c P g ig mk a X hg hsize hdg hW hn hp'
  obtain ⟨rfl, rfl, r1, r2⟩ := hp'
  have al : Z.vm.Alike P.U.vm := hZ.alike.trans X.warmed.alike
  obtain ⟨D, cfV, kV, iV, fV, hD, gV, stV, knV, obV, asV, slV⟩ := id V
  obtain ⟨D', cfC, kC, iC, fC, hD', gC, stC, -, -, asC, slC⟩ := id C
  cases hD.symm.trans hD'
  obtain ⟨D2, kD, e1, e2, e3, e4, e5⟩ := id E
  cases hD.symm.trans e1
  obtain ⟨c2, k2, i1, i2, i3, -⟩ := Cond.instantiable_spec wi
  cases e2.symm.trans i1
  cases e3.symm.trans i2
  obtain ⟨kU, u1, u2⟩ := al.2.2 _ _ e3
  have hB : Blank ST x D P.U := ⟨hD, ⟨knV, fun q hq => by rw [hq] at obV; cases obV⟩, by rw [al.findClass]; exact e2, kU, u1, by rw [u2]; exact i3, by rw [u2]; exact e5 i3⟩
  have F1 : Found ST "value" "[B" fV P.U := ⟨SBG.found_only al ⟨cfV, kV, iV, gV⟩, stV⟩
  have F2 : Found ST "coder" "B" fC P.U := ⟨SBG.found_only al ⟨cfC, kC, iC, gC⟩, stC⟩
  have hA : Ch b A P.U := ⟨⟨K.1, State.isArrayOf_alike al K.2.1, K.2.2, by omega⟩, hty⟩
  have hS : StaticIs P.U ST "COMPACT_STRINGS" "Z" (.int z) := by
    obtain ⟨cfS, iS, kS, fS, st, cS, t1, t2, t3, t4, t5, t6, t7⟩ := S
    exact StaticIs.there (s := { Z with heap := P.U.heap }) ⟨cfS, iS, kS, fS, st, cS, t1, t2, t3, t4, t5, (fun q => by rw [q] at t6; cases t6), t7⟩ al rfl
  obtain ⟨v, B, X', ⟨⟨hv, E', V', q1, q2, q3, q4, q5, q6, q7, q8, q9, q10, q11⟩, hl, hc, hs⟩, st⟩ := New1.pays x D fV fC b A z (tab_of (moved hZ hw)) hfr hlo m meth c P g ig mk _ X hg hsize hdg hW hn ⟨r1, r2, rfl, hB, F1, F2, hA, hS, hz, l0, l2, hp⟩
  have al' : Z.vm.Alike B.U.vm := hZ.alike.trans X'.warmed.alike
  have hsz : E'.slots.size = D.slots.size := by
    obtain ⟨-, -, -, kB, w1, w2, w3⟩ := q1
    obtain ⟨kB', y1, y2⟩ := al'.2.2 _ _ e3
    rw [q2.2.1] at w1
    cases w1.symm.trans y1
    rw [w3, e5 i3, y2]
  refine ⟨v, B, X', ⟨_, ⟨hv, ?_, ⟨by omega, fun y cy hy hn' => q10 y cy (by simpa using hn') hy, fun y cy hy => ?_⟩, q11, ⟨E', _, q1.1, by rw [q2.2.1]; exact e2, by rw [q2.2.1]; exact e3, by rw [q2.1]; exact obV, fun _ => by rw [hsz]; exact e5 i3⟩,
    ⟨E', cfV, kV, iV, fV, q1.1, gV, stV, by rw [q2.1]; exact knV, by rw [q2.1]; exact obV, by rw [q2.2.1]; exact asV, q3⟩, ⟨E', cfC, kC, iC, fC, q1.1, gC, stC, by rw [q2.1]; exact knV, by rw [q2.1]; exact obV, by rw [q2.2.1]; exact asC, q4⟩,
    ⟨V', ⟨q5.1, State.isArrayOf_alike al'.symm q5.2.1, q5.2.2.1⟩, q6, by rw [← al'.findClass]; exact q7, q8, fun j hj => by have := q9 j hj; rwa [Nat.zero_add] at this⟩, fun O n d w F n1 n2 => ?_⟩, hl, hc, hs⟩, st⟩
  · intro y hy
    simp only [List.mem_cons, List.not_mem_nil, or_false] at hy
    rcases hy with rfl | rfl <;> rfl
  · by_cases q : y = x
    · subst q
      cases hD.symm.trans hy
      exact ⟨E', q1.1, q2.2.1, q2.1, hsz⟩
    · exact ⟨cy, q10 y cy q hy, rfl, rfl, rfl⟩
  · obtain ⟨D3, cf, k, i, f, g1, g2, g3, g4, g5, g6, g7⟩ := F
    cases hD.symm.trans g1
    simp only [RoadKit.slotOf, g2, gV, gC, Option.map_some, Option.getD_some] at n1 n2
    exact ⟨E', cf, k, i, f, q1.1, g2, g3, by rw [q2.1]; exact g4, by rw [q2.1]; exact g5, by rw [q2.2.1]; exact g6, by rw [q2.2.2 f.slot (by simp [n1, n2])]; exact g7⟩
end StrChars.Road
namespace StrChars.Road
open Jvm Sem ClassFile Op Lib Jvm.Stand Jvm.Free Jvm.Free.XT
/-- WHAT COMES BACK, the byte[] as a list of values -/
def QA (Z : State) (x : Addr) (zn : Int32) (cs : List Int32) (h : Heap) (v : Option Value) (h' : Heap) (L : List Loc) : Prop := v = none ∧ (∀ y ∈ L, y.base = x) ∧ RoadKit.Keep h h' [x] ∧ h'.size = h.size + 1 ∧ RoadKit.Exa Z h' x ST ∧ RoadKit.Fld Z h' x ST "value" "[B" (.ref h.size) ∧ RoadKit.Fld Z h' x ST "coder" "B" (.int 0) ∧
  (∃ kb, Z.vm.findClass "[B" = some kb ∧ RoadKit.Arv Z h' h.size kb .byte zn (cs.map fun c => .int (lo8 c)) (.int 0)) ∧
  ∀ (O n d : String) (w : Value), RoadKit.Fld Z h x O n d w → RoadKit.slotOf Z O n d ≠ RoadKit.slotOf Z ST "value" "[B" → RoadKit.slotOf Z O n d ≠ RoadKit.slotOf Z ST "coder" "B" → RoadKit.Fld Z h' x O n d w
/-- **new String(chars) AT A CALL, THE ARRAYS AS LISTS**: the char[] at b holds cs, not empty, no char above 255 -/
theorem backArv {p : Program} {l : Launch} {e : Env} {R : Room} {s : State} {args : Array Value} {below : List Frame} {len W : Nat} {Z : State} {a0 : Array Value} {h : Heap} (hZ : Z.Warmed39 s.vm) (hw : ∀ d ∈ words, d.before a0 Z = true) {kI : Nat} (wi : (Jvm.Cond.instantiable ST kI).before a0 Z = true)
    {x b : Addr} {k : ClassId} {zn z : Int32} {cs : List Int32} {dv v0 c0 : Value} (E : RoadKit.Exa Z h x ST) (V : RoadKit.Fld Z h x ST "value" "[B" v0) (C : RoadKit.Fld Z h x ST "coder" "B" c0) (K : RoadKit.Arv Z h b k .char zn (cs.map Value.int) dv) (S : RoadKit.Sta Z h ST "COMPACT_STRINGS" "Z" (.int z)) (hz : ¬ z = 0)
    (hlen : zn.toNatClampNeg = cs.length) (h0 : 0 < cs.length) (hbig : cs.length ≤ 536870912) (hall : ∀ c ∈ cs, ¬ 255 < c) (hfr : 4 ≤ R.frames) (hlo : W + 65 ≤ R.locals) :
    Back l R p e below s args New1.yN len W (fun P a => a = #[.ref x, .ref b] ∧ P.U.heap = h ∧ P.cells + 1 ≤ R.cells ∧ P.slots + cs.length ≤ R.slots)
      (fun P _ v B => ∃ L, QA Z x zn cs h v B.U.heap L ∧ B.locs = P.locs ++ L ∧ B.cells = P.cells + 1 ∧ B.slots = P.slots + cs.length) := by
  obtain ⟨A, K1, K2, K3, K4, K5, K6⟩ := K
  have e : A.slots.size = cs.length := K3.trans hlen
  have hat : ∀ (i : Nat) (hi : i < cs.length), A.slots[i]? = some (.int cs[i]) := fun i hi => by rw [K5 i (by omega)]; simp [List.getD_eq_getElem?_getD, hi]
  have hcv : ∀ (i : Nat) (hi : i < cs.length), cv A i = cs[i] := fun i hi => by unfold cv; rw [hat i hi]
  have hty : Typed .char A := fun i v hv => by
    have hi : i < A.slots.size := (Array.getElem?_eq_some_iff.mp hv).1
    have q := K5 i hi
    rw [hv] at q
    rw [Option.some.inj q]
    exact K6 i hi
  refine Back.mono (back hZ hw wi E V C K1 hty S hz (by omega) (by omega) (fun i hi => by rw [hcv i (by omega)]; exact hall _ (List.getElem_mem _)) hfr hlo) (fun P a hp => ⟨hp.1, hp.2.1, hp.2.2.1, by rw [e]; exact hp.2.2.2⟩) (fun P a v B hp hq => ?_)
  obtain ⟨L, ⟨q1, q2, q3, q4, q5, q6, q7, ⟨V', v1, v2, v3, v4, v5⟩, q9⟩, hl, hc, hs⟩ := hq
  refine ⟨L, ⟨q1, q2, q3, q4, q5, q6, q7, ⟨V'.cls, v3, V', v1, rfl, by rw [v4, e, hlen], K4, fun i hi => ?_, fun i hi => ?_⟩, q9⟩, hl, hc, by rw [hs, e]⟩
  · have hi' : i < cs.length := by omega
    rw [v5 i (by omega), hcv i hi']; simp [List.getD_eq_getElem?_getD, hi']
  · have hi' : i < cs.length := by omega
    simp only [List.getD_eq_getElem?_getD, List.getElem?_map, List.getElem?_eq_getElem hi', Option.map_some, Option.getD_some]
    exact fits_lo8 _
end StrChars.Road
namespace StrChars.Road
open Jvm Sem ClassFile Op Lib Jvm.Stand Jvm.Free Jvm.Free.XT
/-- WHAT COMES BACK, in the writer's own shape -/
def QV (Z : State) (x : Addr) (N : Int32) (bs : List Int32) (h : Heap) (n0 : Nat) (v : Option Value) (h' : Heap) (L : List Loc) : Prop := v = none ∧ RoadKit.Fr n0 L ∧ RoadKit.Keep h h' [x] ∧ RoadKit.Exa Z h' x ST ∧ RoadKit.Fld Z h' x ST "coder" "B" (.int 0) ∧
  ∃ (t : Addr) (kb : ClassId), n0 ≤ t ∧ h.size ≤ t ∧ ¬ t = x ∧ RoadKit.Fld Z h' x ST "value" "[B" (.ref t) ∧ RoadKit.Arv Z h' t kb .byte N (bs.map Value.int) (.int 0)
/-- **new String(chars) AT A CALL, FOR THE WRITER**: a char[] of n known ints, each 0 to 255 -/
theorem backV {p : Program} {l : Launch} {e : Env} {R : Room} {s : State} {args : Array Value} {below : List Frame} {len W : Nat} {Z : State} {a0 : Array Value} {h : Heap} (hZ : Z.Warmed39 s.vm) (hw : ∀ d ∈ words, d.before a0 Z = true) {kI : Nat} (wi : (Jvm.Cond.instantiable ST kI).before a0 Z = true)
    {x b : Addr} {kC : ClassId} {cs bs : List Int32} {d v0 c0 : Value} {z N : Int32} {n n0 : Nat} (hx0 : n0 ≤ x) (hh0 : n0 ≤ h.size) (E : RoadKit.Exa Z h x ST) (V : RoadKit.Fld Z h x ST "value" "[B" v0) (C : RoadKit.Fld Z h x ST "coder" "B" c0) (K : RoadKit.Arv Z h b kC .char N (cs.map Value.int) d) (S : RoadKit.Sta Z h ST "COMPACT_STRINGS" "Z" (.int z)) (hz : ¬ z = 0)
    (hn : cs.length = n) (hN : N = Int32.ofNat n) (l0 : 0 < n) (l2 : n ≤ 4000) (hp : ∀ c ∈ cs, ¬ c < 0 ∧ ¬ (255 : Int32) < c) (hb : bs = cs.map (fun c => c.toInt8.toInt32)) (hfr : 4 ≤ R.frames) (hlo : W + 65 ≤ R.locals) :
    Back l R p e below s args (⟨"java/lang/String", "<init>", "([C)V"⟩ : MethodName) len W (fun P a => a = #[.ref x, .ref b] ∧ P.U.heap = h ∧ P.cells + 1 ≤ R.cells ∧ P.slots + n ≤ R.slots)
      (fun P _ v B => ∃ L, QV Z x N bs h n0 v B.U.heap L ∧ B.locs = P.locs ++ L ∧ B.cells = P.cells + 1 ∧ B.slots = P.slots + n) := by
  subst hn hN hb
  refine Back.mono (backArv hZ hw wi E V C K S hz (n32 (by omega)) l0 (by omega) (fun c hc => (hp c hc).2) hfr hlo) (fun P a hp => hp) (fun P a v B hp hq => ?_)
  obtain ⟨L, ⟨q1, q2, q3, q4, q5, q6, q7, ⟨kb, v1, v2⟩, q9⟩, hl, hc, hs⟩ := hq
  exact ⟨L, ⟨q1, fun y hy => by rw [q2 y hy]; exact hx0, q3, q5, q7, h.size, kb, hh0, Nat.le_refl _, Nat.ne_of_gt E.lt, q6, by rw [List.map_map]; exact v2⟩, hl, hc, hs⟩
end StrChars.Road
end Jvm.Pilot.@@N@@
namespace Jvm.Pilot.@@N@@
open Jvm Jvm.ClassFile Sem Op Lib Jvm.Free Jvm.Stand Jvm.LawKit Jvm.RoadKit Bundle Jvm.Pilot.@@N@@.Jvm.D
/-! own layer: the walk in continuation form -/
section OwnWalk
variable {p : Program} {l : Launch} {e : Env} {R : Room} {s : State} {m : MethodId} {args : Array Value} {below : List Frame} {meth : Method} {c : Code} {T T' : State} {locs : List Loc} {cells slots : Nat} {Q : Option Value → Heap → List Loc → Prop} {ck sk : Nat} {f f' : JFrame} {Z : State} {a0 : Array Value} {h h' : Heap}
/-- from this state and frame the invocation returns, and what it leaves is told by Q -/
def ownEnds (p : Program) (e : Env) (below : List Frame) (s : State) (Q : Option Value → Heap → List Loc → Prop) (ck sk : Nat) (T : State) (f : JFrame) : Prop :=
  ∃ s₂ o, Steps p.tables e below (T.setTop f) s₂ ∧ s₂.status = .running ∧ Ended s₂ below o ∧ ∃ v L, o = .returned v ∧ Q v s₂.heap L ∧ FrameEnd s o s₂ L ck sk
theorem ownGo (st : ∀ target, Steps p.tables e below (T'.setTop f') target → Steps p.tables e below (T.setTop f) target) (k : ownEnds p e below s Q ck sk T' f') : ownEnds p e below s Q ck sk T f := by
  obtain ⟨a, b, h1, h2⟩ := k
  exact ⟨a, b, st _ h1, h2⟩
theorem ownRun (st : Steps p.tables e below (T.setTop f) (T'.setTop f')) (k : ownEnds p e below s Q ck sk T' f') : ownEnds p e below s Q ck sk T f :=
  ownGo (fun _ q => st.trans q) k
theorem ownCast (q : f = f') (k : ownEnds p e below s Q ck sk T f') : ownEnds p e below s Q ck sk T f := q ▸ k
theorem ownRetI (X : Stand p l e R s m args below meth c T locs cells slots) (hx : p.tables.exec = Jvm.exec) {pc : Nat} {Ls : Array Slot} {z : Int32} {rest : List Value} (hret : meth.sig.returnType = some .int) (hd : decode c.code pc = .ok (.ireturn, 1)) (hk : meth.locks = false) (hc : cells ≤ ck) (hs : slots ≤ sk)
    (hQ : Q (some (.int z)) T.heap locs) : ownEnds p e below s Q ck sk T (mkF m pc Ls (.int z :: rest)) := by
  obtain ⟨fs, hr, hrun, hended, hW, hsame⟩ := X.leave (v := some (.int z)) (fun h => by rw [hret] at h; cases h) hk
  exact ⟨_, _, retOut X hx hret rfl (Or.inl ⟨rfl, Or.inl rfl, _, rfl⟩) hd hr, hrun, hended, _, _, rfl, hQ, ⟨_, rfl⟩, hW, hsame.mono hc hs⟩
theorem ownRetN (X : Stand p l e R s m args below meth c T locs cells slots) (hx : p.tables.exec = Jvm.exec) {pc : Nat} {Ls : Array Slot} {z r : Int32} {rest : List Value} {t : FieldType} (ht : t = .boolean ∨ t = .byte ∨ t = .char ∨ t = .short) (hret : meth.sig.returnType = some t) (hd : decode c.code pc = .ok (.ireturn, 1)) (hk : meth.locks = false) (hc : cells ≤ ck) (hs : slots ≤ sk)
    (hz : nar t z = r) (hQ : Q (some (.int r)) T.heap locs) : ownEnds p e below s Q ck sk T (mkF m pc Ls (.int z :: rest)) := by
  subst hz
  obtain ⟨fs, hr, hrun, hended, hW, hsame⟩ := X.leave (v := some (.int (nar t z))) (fun h => by rw [hret] at h; cases h) hk
  exact ⟨_, _, retN X hx hret ht hd hr, hrun, hended, _, _, rfl, hQ, ⟨_, rfl⟩, hW, hsame.mono hc hs⟩
theorem ownRetV (X : Stand p l e R s m args below meth c T locs cells slots) (hx : p.tables.exec = Jvm.exec) {pc : Nat} {Ls : Array Slot} (hret : meth.sig.returnType = none) (hd : decode c.code pc = .ok (.return_, 1)) (hk : meth.locks = false) (hc : cells ≤ ck) (hs : slots ≤ sk)
    (hQ : Q none T.heap locs) : ownEnds p e below s Q ck sk T (mkF m pc Ls []) := by
  obtain ⟨fs, hr, hrun, hended, hW, hsame⟩ := X.leave (v := none) (fun _ => rfl) hk
  exact ⟨_, _, X.returnOut hx hret hd hr, hrun, hended, _, _, rfl, hQ, ⟨_, rfl⟩, hW, hsame.mono hc hs⟩
/-- one place of a function turned -/
def ownUpd {α : Type} (f : Nat → α) (j : Nat) (x : α) : Nat → α := fun i => if i = j then x else f i
theorem ownUpd_same {α : Type} (f : Nat → α) (j : Nat) (x : α) : ownUpd f j x j = x := if_pos rfl
theorem ownUpd_ne {α : Type} (f : Nat → α) {i j : Nat} (x : α) (q : i ≠ j) : ownUpd f j x i = f i := if_neg q
/-- an array of ints (or bytes, chars ..): its length and its components -/
def ownAI (Z : State) (h : Heap) (a : Addr) (ty : FieldType) (n : Nat) (g : Nat → Int32) : Prop := ∃ cl : Cell, Arr Z h a cl ty ∧ cl.slots.size = n ∧ n < 2 ^ 31 ∧ ∀ i, i < n → cl.slots[i]? = some (.int (g i))
/-- an array of longs -/
def ownAJ (Z : State) (h : Heap) (a : Addr) (n : Nat) (g : Nat → Int64) : Prop := ∃ cl : Cell, Arr Z h a cl .long ∧ cl.slots.size = n ∧ n < 2 ^ 31 ∧ ∀ i, i < n → cl.slots[i]? = some (.long (g i))
variable {a b : Addr} {ty : FieldType} {n : Nat} {gi : Nat → Int32} {gj : Nat → Int64} {ws : List Addr} {sl : Nat} {v : Value}
theorem ownAI.lt (F : ownAI Z h a ty n gi) : a < h.size := by obtain ⟨c, A, -⟩ := F; exact A.lt
theorem ownAI.ext (F : ownAI Z h a ty n gi) (E : Ext h h') : ownAI Z h' a ty n gi := by obtain ⟨c, A, r⟩ := F; exact ⟨c, A.ext E, r⟩
theorem ownAI.other (F : ownAI Z h b ty n gi) (W : Wr h h' a sl v) (q : b ≠ a) : ownAI Z h' b ty n gi := by obtain ⟨c, A, r⟩ := F; exact ⟨c, A.other W q, r⟩
theorem ownAI.keep (F : ownAI Z h a ty n gi) (K : Keep h h' ws) (q : a ∉ ws) : ownAI Z h' a ty n gi := by obtain ⟨c, A, r⟩ := F; exact ⟨c, ⟨K.2.1 a c A.1 q, A.2⟩, r⟩
theorem ownAJ.lt (F : ownAJ Z h a n gj) : a < h.size := by obtain ⟨c, A, -⟩ := F; exact A.lt
theorem ownAJ.ext (F : ownAJ Z h a n gj) (E : Ext h h') : ownAJ Z h' a n gj := by obtain ⟨c, A, r⟩ := F; exact ⟨c, A.ext E, r⟩
theorem ownAJ.other (F : ownAJ Z h b n gj) (W : Wr h h' a sl v) (q : b ≠ a) : ownAJ Z h' b n gj := by obtain ⟨c, A, r⟩ := F; exact ⟨c, A.other W q, r⟩
theorem ownAJ.keep (F : ownAJ Z h a n gj) (K : Keep h h' ws) (q : a ∉ ws) : ownAJ Z h' a n gj := by obtain ⟨c, A, r⟩ := F; exact ⟨c, ⟨K.2.1 a c A.1 q, A.2⟩, r⟩
theorem ownAI.new {k : ClassId} {z : Int32} (A : Arr Z h a (newA k ty z) ty) (q : ¬ z < 0) (d : defaultValue ty = .int 0) (N : z.toNatClampNeg = n) : ownAI Z h a ty n (fun _ => 0) := by
  subst N
  refine ⟨_, A, sz_new _ _ _, (back32 q).2, fun i hi => ?_⟩
  simp [newA, hi, d]
theorem ownAJ.new {k : ClassId} {z : Int32} (A : Arr Z h a (newA k .long z) .long) (q : ¬ z < 0) (N : z.toNatClampNeg = n) : ownAJ Z h a n (fun _ => 0) := by
  subst N
  refine ⟨_, A, sz_new _ _ _, (back32 q).2, fun i hi => ?_⟩
  simp [newA, hi, defaultValue]
theorem ownAI.set (F : ownAI Z h a ty n gi) {j : Nat} {x : Int32} (W : Wr h h' a j (.int x)) : ownAI Z h' a ty n (ownUpd gi j x) := by
  obtain ⟨cl, A, S, N, H⟩ := F
  refine ⟨_, A.same W, by simpa [Cell.setSlot] using S, N, fun i hi => ?_⟩
  by_cases e : i = j
  · subst e; simp [Cell.setSlot, ownUpd, S, hi]
  · rw [ownUpd_ne _ _ e]
    show (cl.slots.setIfInBounds j (.int x))[i]? = _
    rw [Array.getElem?_setIfInBounds_ne (Ne.symm e)]; exact H i hi
theorem ownAJ.set (F : ownAJ Z h a n gj) {j : Nat} {x : Int64} (W : Wr h h' a j (.long x)) : ownAJ Z h' a n (ownUpd gj j x) := by
  obtain ⟨cl, A, S, N, H⟩ := F
  refine ⟨_, A.same W, by simpa [Cell.setSlot] using S, N, fun i hi => ?_⟩
  by_cases e : i = j
  · subst e; simp [Cell.setSlot, ownUpd, S, hi]
  · rw [ownUpd_ne _ _ e]
    show (cl.slots.setIfInBounds j (.long x))[i]? = _
    rw [Array.getElem?_setIfInBounds_ne (Ne.symm e)]; exact H i hi
/-- an index is inside -/
def ownIn (j : Int32) (n : Nat) : Prop := ¬ (j < 0 ∨ n ≤ j.toNatClampNeg)
theorem ownIn_of {j : Int32} {n : Nat} (h1 : 0 ≤ j.toInt) (h2 : j.toInt < n) : ownIn j n := by
  intro q
  rcases q with q | q
  · rw [Int32.lt_iff_toInt_lt] at q; simp only [Int32.reduceToInt] at q; omega
  · simp only [Int32.toNatClampNeg] at q; omega
theorem ownBaload (F : ownAI Z h a .byte n gi) (X : Stand p l e R s m args below meth c T locs cells slots) (hx : p.tables.exec = Jvm.exec) (hZ : Z.Warmed39 s.vm) (eT : T.heap = h) {j : Int32} (hin : ownIn j n) {g : JFrame} (hg : g.method = m) {rest : List Value} (hs : g.stack = .int j :: .ref a :: rest) (hd : decode c.code g.pc = .ok (.baload, 1)) :
    ∀ target, Steps p.tables e below (T.setTop { g with pc := g.pc + 1, stack := .int (gi j.toNatClampNeg) :: rest }) target → Steps p.tables e below (T.setTop g) target := by
  obtain ⟨cl, A, S, N, H⟩ := F
  subst S
  exact fun t k => X.baloadBytes hx (by rw [eT]; exact A.1) (State.isArrayOf_alike hZ.alike A.2.1) A.2.2 hin (H _ (Nat.lt_of_not_le fun q => hin (Or.inr q))) hg hs hd t k
theorem ownLenI (F : ownAI Z h a ty n gi) (X : Stand p l e R s m args below meth c T locs cells slots) (hx : p.tables.exec = Jvm.exec) (hZ : Z.Warmed39 s.vm) (eT : T.heap = h) {z : Int32} (hz : n.toInt32 = z) {g : JFrame} (hg : g.method = m) {rest : List Value} (hs : g.stack = .ref a :: rest) (hd : decode c.code g.pc = .ok (.arraylength, 1)) :
    ∀ target, Steps p.tables e below (T.setTop { g with pc := g.pc + 1, stack := .int z :: rest }) target → Steps p.tables e below (T.setTop g) target := by
  obtain ⟨cl, A, S, N, H⟩ := F
  subst S hz
  exact fun t k => X.arraylength hx (by rw [eT]; exact A.1) (State.isArrayOf_alike hZ.alike A.2.1) hg hs hd t k
theorem ownCastore (F : ownAI Z h a .char n gi) (X : Stand p l e R s m args below meth c T locs cells slots) (hx : p.tables.exec = Jvm.exec) (hZ : Z.Warmed39 s.vm) (eT : T.heap = h) {j x : Int32} (hin : ownIn j n) {g : JFrame} (hg : g.method = m) {rest : List Value} (hs : g.stack = .int x :: .int j :: .ref a :: rest) (hd : decode c.code g.pc = .ok (.castore, 1)) :
    ∃ T' h', Stand p l e R s m args below meth c T' (locs ++ [⟨a, j.toNatClampNeg⟩]) cells slots ∧ T'.heap = h' ∧ Wr h h' a j.toNatClampNeg (.int (nar .char x)) ∧ ownAI Z h' a .char n (ownUpd gi j.toNatClampNeg (nar .char x)) ∧ ∀ target, Steps p.tables e below (T'.setTop { g with pc := g.pc + 1, stack := rest }) target → Steps p.tables e below (T.setTop g) target := by
  obtain ⟨cl, A, S, r⟩ := id F
  obtain ⟨T', h', X', e', W, st⟩ := stC X hx hZ eT A (j := j) (by rw [S]; exact hin) hg hs hd
  exact ⟨T', h', X', e', W, F.set W, st⟩
theorem ownZaload (F : ownAI Z h a .boolean n gi) (X : Stand p l e R s m args below meth c T locs cells slots) (hx : p.tables.exec = Jvm.exec) (hZ : Z.Warmed39 s.vm) (eT : T.heap = h) {j : Int32} (hin : ownIn j n) {g : JFrame} (hg : g.method = m) {rest : List Value} (hs : g.stack = .int j :: .ref a :: rest) (hd : decode c.code g.pc = .ok (.baload, 1)) :
    ∀ target, Steps p.tables e below (T.setTop { g with pc := g.pc + 1, stack := .int (gi j.toNatClampNeg) :: rest }) target → Steps p.tables e below (T.setTop g) target := by
  obtain ⟨cl, A, S, N, H⟩ := F
  subst S
  exact fun t k => X.baloadBooleans hx (by rw [eT]; exact A.1) (State.isArrayOf_alike hZ.alike A.2.1) A.2.2 hin (H _ (Nat.lt_of_not_le fun q => hin (Or.inr q))) hg hs hd t k
theorem ownZastore (F : ownAI Z h a .boolean n gi) (X : Stand p l e R s m args below meth c T locs cells slots) (hx : p.tables.exec = Jvm.exec) (hZ : Z.Warmed39 s.vm) (eT : T.heap = h) {j x : Int32} (hin : ownIn j n) {g : JFrame} (hg : g.method = m) {rest : List Value} (hs : g.stack = .int x :: .int j :: .ref a :: rest) (hd : decode c.code g.pc = .ok (.bastore, 1)) :
    ∃ T' h', Stand p l e R s m args below meth c T' (locs ++ [⟨a, j.toNatClampNeg⟩]) cells slots ∧ T'.heap = h' ∧ Wr h h' a j.toNatClampNeg (.int (nar .boolean x)) ∧ ownAI Z h' a .boolean n (ownUpd gi j.toNatClampNeg (nar .boolean x)) ∧ ∀ target, Steps p.tables e below (T'.setTop { g with pc := g.pc + 1, stack := rest }) target → Steps p.tables e below (T.setTop g) target := by
  obtain ⟨cl, A, S, r⟩ := id F
  obtain ⟨T', h', X', e', W, st⟩ := stZ X hx hZ eT A (j := j) (by rw [S]; exact hin) hg hs hd
  exact ⟨T', h', X', e', W, F.set W, st⟩
theorem ownNstE {C : String} (F : Exa Z h a C) : ∀ c, h[a]? = some c → c.vm.isStatics = false := fun c q => by obtain ⟨cell, k, h1, -, -, h4, -⟩ := F; cases h1.symm.trans q; exact h4
theorem ownStaKeep {C nm d : String} (F : Sta Z h C nm d v) (K : Keep h h' ws) (q : ∀ x ∈ ws, ∀ c, h[x]? = some c → c.vm.isStatics = false) : Sta Z h' C nm d v := by
  obtain ⟨cf, i, k, f, st, cell, h1, h2, h3, h4, h5, h6, h7⟩ := F
  refine ⟨cf, i, k, f, st, cell, h1, h2, h3, h4, K.2.1 st cell h5 (fun w => ?_), h6, h7⟩
  rw [q st w cell h5] at h6; cases h6
/-- an array of int arrays: its class, its length, its components -/
def ownAR (Z : State) (h : Heap) (a : Addr) (k : ClassId) (n : Nat) (f : Nat → Value) : Prop := ∃ cl : Cell, Arr Z h a cl (.array .int) ∧ cl.cls = k ∧ cl.slots.size = n ∧ n < 2 ^ 31 ∧ ∀ i, i < n → cl.slots[i]? = some (f i)
theorem ownAR.lt {k : ClassId} {fr : Nat → Value} (F : ownAR Z h a k n fr) : a < h.size := by obtain ⟨c, A, -⟩ := F; exact A.lt
theorem ownAR.ext {k : ClassId} {fr : Nat → Value} (F : ownAR Z h a k n fr) (E : Ext h h') : ownAR Z h' a k n fr := by obtain ⟨c, A, r⟩ := F; exact ⟨c, A.ext E, r⟩
theorem ownAR.other {k : ClassId} {fr : Nat → Value} (F : ownAR Z h b k n fr) (W : Wr h h' a sl v) (q : b ≠ a) : ownAR Z h' b k n fr := by obtain ⟨c, A, r⟩ := F; exact ⟨c, A.other W q, r⟩
theorem ownAR.keep {k : ClassId} {fr : Nat → Value} (F : ownAR Z h a k n fr) (K : Keep h h' ws) (q : a ∉ ws) : ownAR Z h' a k n fr := by obtain ⟨c, A, r⟩ := F; exact ⟨c, ⟨K.2.1 a c A.1 q, A.2⟩, r⟩
theorem ownAR.new {k : ClassId} {z : Int32} (A : Arr Z h a (newA k (.array .int) z) (.array .int)) (q : ¬ z < 0) (N : z.toNatClampNeg = n) : ownAR Z h a k n (fun _ => .null) := by
  subst N
  refine ⟨_, A, rfl, sz_new _ _ _, (back32 q).2, fun i hi => ?_⟩
  simp [newA, hi, defaultValue]
theorem ownAR.set {k : ClassId} {fr : Nat → Value} (F : ownAR Z h a k n fr) {j : Nat} {x : Value} (W : Wr h h' a j x) : ownAR Z h' a k n (ownUpd fr j x) := by
  obtain ⟨cl, A, q, S, N, H⟩ := F
  refine ⟨_, A.same W, q, by simpa [Cell.setSlot] using S, N, fun i hi => ?_⟩
  by_cases e : i = j
  · subst e; simp [Cell.setSlot, ownUpd, S, hi]
  · rw [ownUpd_ne _ _ e]
    show (cl.slots.setIfInBounds j x)[i]? = _
    rw [Array.getElem?_setIfInBounds_ne (Ne.symm e)]; exact H i hi
theorem own_narc {x v : Int32} (h : x.toUInt32.toUInt16.toUInt32.toInt32 = v) : nar .char v = v := by subst h; simp only [nar, UInt32.toUInt32_toInt32, UInt16.toUInt16_toUInt32]
end OwnWalk
section OwnSteps
variable {p : Program} {l : Launch} {e : Env} {R : Room} {s : State} {m : MethodId} {args : Array Value} {below : List Frame} {meth : Method} {c : Code} {T : State} {locs : List Loc} {cells slots : Nat} {Q : Option Value → Heap → List Loc → Prop} {ck sk : Nat}
theorem ow_iloadN (X : Stand p l e R s m args below meth c T locs cells slots) (hx : p.tables.exec = Jvm.exec) {pc q : Nat} {Ls : Array Slot} {S : List Value} {k : Fin 4} {v : Int32} (hd : decode c.code pc = .ok (.iload_n k, 1)) (hq : pc + 1 = q) (hl : Ls[k.val]? = some (.val (.int v))) (k : ownEnds p e below s Q ck sk T (mkF m q Ls (.int v :: S))) : ownEnds p e below s Q ck sk T (mkF m pc Ls S) := by
  subst hq
  exact ownGo (fun _ k => XS.iloadN X.here hx rfl hd hl k) k
theorem ow_istoreN (X : Stand p l e R s m args below meth c T locs cells slots) (hx : p.tables.exec = Jvm.exec) {pc q : Nat} {Ls : Array Slot} {S : List Value} {k : Fin 4} {v : Int32} {L' : Array Slot} (hd : decode c.code pc = .ok (.istore_n k, 1)) (hq : pc + 1 = q) (hl : storeLocals Ls k.val (.int v) = some L') (k : ownEnds p e below s Q ck sk T (mkF m q L' S)) : ownEnds p e below s Q ck sk T (mkF m pc Ls (.int v :: S)) := by
  subst hq
  exact ownGo (fun _ k => XS.istoreN X.here hx rfl hd rfl hl k) k
theorem ow_aloadN (X : Stand p l e R s m args below meth c T locs cells slots) (hx : p.tables.exec = Jvm.exec) {pc q : Nat} {Ls : Array Slot} {S : List Value} {k : Fin 4} {v : Value} (hd : decode c.code pc = .ok (.aload_n k, 1)) (hq : pc + 1 = q) (hl : Ls[k.val]? = some (.val v)) (hv : v.isRef = true) (k : ownEnds p e below s Q ck sk T (mkF m q Ls (v :: S))) : ownEnds p e below s Q ck sk T (mkF m pc Ls S) := by
  subst hq
  exact ownGo (fun _ k => XS.aloadN X.here hx rfl hd hl hv k) k
theorem ow_iconst (X : Stand p l e R s m args below meth c T locs cells slots) (hx : p.tables.exec = Jvm.exec) {pc q : Nat} {Ls : Array Slot} {S : List Value} {i : Int} (v : Int32) (hd : decode c.code pc = .ok (.iconst i, 1)) (hq : pc + 1 = q) (hz : Int32.ofInt i = v) (k : ownEnds p e below s Q ck sk T (mkF m q Ls (.int v :: S))) : ownEnds p e below s Q ck sk T (mkF m pc Ls S) := by
  subst hq hz
  exact ownGo (fun _ k => XS.iconst X.here hx rfl hd k) k
theorem ow_sipush (X : Stand p l e R s m args below meth c T locs cells slots) (hx : p.tables.exec = Jvm.exec) {pc q : Nat} {Ls : Array Slot} {S : List Value} {i : Int} (v : Int32) (hd : decode c.code pc = .ok (.sipush i, 3)) (hq : pc + 3 = q) (hz : (Int16.ofInt i).toInt32 = v) (k : ownEnds p e below s Q ck sk T (mkF m q Ls (.int v :: S))) : ownEnds p e below s Q ck sk T (mkF m pc Ls S) := by
  subst hq hz
  exact ownGo (fun _ k => XS.sipush X.here hx rfl hd k) k
theorem ow_iand (X : Stand p l e R s m args below meth c T locs cells slots) (hx : p.tables.exec = Jvm.exec) {pc q : Nat} {Ls : Array Slot} {S : List Value} {x y : Int32} (z : Int32) (hd : decode c.code pc = .ok (.iand, 1)) (hq : pc + 1 = q) (hz : x &&& y = z) (k : ownEnds p e below s Q ck sk T (mkF m q Ls (.int z :: S))) : ownEnds p e below s Q ck sk T (mkF m pc Ls (.int y :: .int x :: S)) := by
  subst hq hz
  exact ownGo (fun _ k => XS.iand X.here hx rfl hd rfl k) k
theorem ow_ishr (X : Stand p l e R s m args below meth c T locs cells slots) (hx : p.tables.exec = Jvm.exec) {pc q : Nat} {Ls : Array Slot} {S : List Value} {x y : Int32} (z : Int32) (hd : decode c.code pc = .ok (.ishr, 1)) (hq : pc + 1 = q) (hz : x >>> (y &&& 31) = z) (k : ownEnds p e below s Q ck sk T (mkF m q Ls (.int z :: S))) : ownEnds p e below s Q ck sk T (mkF m pc Ls (.int y :: .int x :: S)) := by
  subst hq hz
  exact ownGo (fun _ k => XS.ishr X.here hx rfl hd rfl k) k
theorem ow_i2c (X : Stand p l e R s m args below meth c T locs cells slots) (hx : p.tables.exec = Jvm.exec) {pc q : Nat} {Ls : Array Slot} {S : List Value} {x : Int32} (z : Int32) (hd : decode c.code pc = .ok (.i2c, 1)) (hq : pc + 1 = q) (hz : x.toUInt32.toUInt16.toUInt32.toInt32 = z) (k : ownEnds p e below s Q ck sk T (mkF m q Ls (.int z :: S))) : ownEnds p e below s Q ck sk T (mkF m pc Ls (.int x :: S)) := by
  subst hq hz
  exact ownGo (fun _ k => XS.i2c X.here hx rfl hd rfl k) k
theorem ow_iinc (X : Stand p l e R s m args below meth c T locs cells slots) (hx : p.tables.exec = Jvm.exec) {pc q : Nat} {Ls : Array Slot} {S : List Value} {k : Nat} {i : Int} {x : Int32} {L' : Array Slot} (hd : decode c.code pc = .ok (.iinc k i, 3)) (hq : pc + 3 = q) (hl : Ls[k]? = some (.val (.int x))) (hl' : storeLocals Ls k (.int (x + Int32.ofInt i)) = some L') (k : ownEnds p e below s Q ck sk T (mkF m q L' S)) : ownEnds p e below s Q ck sk T (mkF m pc Ls S) := by
  subst hq
  exact ownGo (fun _ k => XS.iinc X.here hx rfl hd hl hl' k) k
theorem ow_pop (X : Stand p l e R s m args below meth c T locs cells slots) (hx : p.tables.exec = Jvm.exec) {pc q : Nat} {Ls : Array Slot} {S : List Value} {v : Value} (hd : decode c.code pc = .ok (.pop, 1)) (hq : pc + 1 = q) (hc : v.category = 1) (k : ownEnds p e below s Q ck sk T (mkF m q Ls S)) : ownEnds p e below s Q ck sk T (mkF m pc Ls (v :: S)) := by
  subst hq
  exact ownGo (fun _ k => XS.pop X.here hx rfl hd rfl hc k) k
theorem ow_goto (X : Stand p l e R s m args below meth c T locs cells slots) (hx : p.tables.exec = Jvm.exec) {pc q : Nat} {Ls : Array Slot} {S : List Value} {o : Int} (hd : decode c.code pc = .ok (.goto o, 3)) (ho : 0 ≤ (pc : Int) + o) (hp : ((pc : Int) + o).toNat = q) (k : ownEnds p e below s Q ck sk T (mkF m q Ls S)) : ownEnds p e below s Q ck sk T (mkF m pc Ls S) :=
  ownGo (fun _ k => XS.goto X.here hx rfl rfl hd ho hp k) k
theorem ow_ifYes (X : Stand p l e R s m args below meth c T locs cells slots) (hx : p.tables.exec = Jvm.exec) {pc q : Nat} {Ls : Array Slot} {S : List Value} {cd : ClassFile.Cond} {o : Int} {x : Int32} (hd : decode c.code pc = .ok (.ifCond cd o, 3)) (hc : ifCond.holds cd x = true) (ho : 0 ≤ (pc : Int) + o) (hp : ((pc : Int) + o).toNat = q) (k : ownEnds p e below s Q ck sk T (mkF m q Ls S)) : ownEnds p e below s Q ck sk T (mkF m pc Ls (.int x :: S)) :=
  ownGo (fun _ k => XS.ifYes X.here hx rfl rfl hd rfl hc ho hp k) k
theorem ow_ifNo (X : Stand p l e R s m args below meth c T locs cells slots) (hx : p.tables.exec = Jvm.exec) {pc q : Nat} {Ls : Array Slot} {S : List Value} {cd : ClassFile.Cond} {o : Int} {x : Int32} (hd : decode c.code pc = .ok (.ifCond cd o, 3)) (hq : pc + 3 = q) (hc : ifCond.holds cd x = false) (k : ownEnds p e below s Q ck sk T (mkF m q Ls S)) : ownEnds p e below s Q ck sk T (mkF m pc Ls (.int x :: S)) := by
  subst hq
  exact ownGo (fun _ k => XS.ifNo X.here hx rfl hd rfl hc k) k
theorem ow_icmpYes (X : Stand p l e R s m args below meth c T locs cells slots) (hx : p.tables.exec = Jvm.exec) {pc q : Nat} {Ls : Array Slot} {S : List Value} {cd : ClassFile.Cond} {o : Int} {x y : Int32} (hd : decode c.code pc = .ok (.if_icmp cd o, 3)) (hc : if_icmp.holds cd x y = true) (ho : 0 ≤ (pc : Int) + o) (hp : ((pc : Int) + o).toNat = q) (k : ownEnds p e below s Q ck sk T (mkF m q Ls S)) : ownEnds p e below s Q ck sk T (mkF m pc Ls (.int y :: .int x :: S)) :=
  ownGo (fun _ k => XS.icmpYes X.here hx rfl rfl hd rfl hc ho hp k) k
theorem ow_icmpNo (X : Stand p l e R s m args below meth c T locs cells slots) (hx : p.tables.exec = Jvm.exec) {pc q : Nat} {Ls : Array Slot} {S : List Value} {cd : ClassFile.Cond} {o : Int} {x y : Int32} (hd : decode c.code pc = .ok (.if_icmp cd o, 3)) (hq : pc + 3 = q) (hc : if_icmp.holds cd x y = false) (k : ownEnds p e below s Q ck sk T (mkF m q Ls S)) : ownEnds p e below s Q ck sk T (mkF m pc Ls (.int y :: .int x :: S)) := by
  subst hq
  exact ownGo (fun _ k => XS.icmpNo X.here hx rfl hd rfl hc k) k
end OwnSteps
section OwnWalkW
variable {p : Program} {l : Launch} {e : Env} {R : Room} {s : State} {m : MethodId} {args : Array Value} {below : List Frame} {meth : Method} {c : Code} {T T' : State} {locs : List Loc} {cells slots : Nat} {Q : Option Value → Heap → List Loc → Prop} {ck sk : Nat} {f f' : JFrame} {Z : State} {a0 : Array Value} {h h' : Heap}
/-- from this state and frame the invocation returns, and what it leaves is told by Q -/
def ownEndsW (p : Program) (e : Env) (below : List Frame) (s : State) (Q : Option Value → Heap → List Loc → Prop) (ck sk : Nat) (T : State) (f : JFrame) : Prop :=
  ∃ s₂ o, Steps p.tables e below (T.setTop f) s₂ ∧ s₂.status = .running ∧ Ended s₂ below o ∧ ∃ v L, o = .returned v ∧ Q v s₂.heap L ∧ ReturnedEndW s o s₂ L ck sk
theorem ownGoW (st : ∀ target, Steps p.tables e below (T'.setTop f') target → Steps p.tables e below (T.setTop f) target) (k : ownEndsW p e below s Q ck sk T' f') : ownEndsW p e below s Q ck sk T f := by
  obtain ⟨a, b, h1, h2⟩ := k
  exact ⟨a, b, st _ h1, h2⟩
theorem ownRunW (st : Steps p.tables e below (T.setTop f) (T'.setTop f')) (k : ownEndsW p e below s Q ck sk T' f') : ownEndsW p e below s Q ck sk T f :=
  ownGoW (fun _ q => st.trans q) k
theorem ownCastW (q : f = f') (k : ownEndsW p e below s Q ck sk T f') : ownEndsW p e below s Q ck sk T f := q ▸ k
theorem ownRetNW (X : Stand p l e R s m args below meth c T locs cells slots) (hx : p.tables.exec = Jvm.exec) {pc : Nat} {Ls : Array Slot} {z r : Int32} {rest : List Value} {t : FieldType} (ht : t = .boolean ∨ t = .byte ∨ t = .char ∨ t = .short) (hret : meth.sig.returnType = some t) (hd : decode c.code pc = .ok (.ireturn, 1)) (hk : meth.locks = false) (hc : cells ≤ ck) (hs : slots ≤ sk)
    (hz : nar t z = r) (hQ : Q (some (.int r)) T.heap locs) : ownEndsW p e below s Q ck sk T (mkF m pc Ls (.int z :: rest)) := by
  subst hz
  obtain ⟨fs, hr, hrun, hended, hW, hsame⟩ := X.leave (v := some (.int (nar t z))) (fun h => by rw [hret] at h; cases h) hk
  exact ⟨_, _, retN X hx hret ht hd hr, hrun, hended, _, _, rfl, hQ, ReturnedEndW.of_narrow ⟨_, rfl⟩ hW (hsame.mono hc hs)⟩
theorem ownRetVW (X : Stand p l e R s m args below meth c T locs cells slots) (hx : p.tables.exec = Jvm.exec) {pc : Nat} {Ls : Array Slot} (hret : meth.sig.returnType = none) (hd : decode c.code pc = .ok (.return_, 1)) (hk : meth.locks = false) (hc : cells ≤ ck) (hs : slots ≤ sk)
    (hQ : Q none T.heap locs) : ownEndsW p e below s Q ck sk T (mkF m pc Ls []) := by
  obtain ⟨fs, hr, hrun, hended, hW, hsame⟩ := X.leave (v := none) (fun _ => rfl) hk
  exact ⟨_, _, X.returnOut hx hret hd hr, hrun, hended, _, _, rfl, hQ, ReturnedEndW.of_narrow ⟨_, rfl⟩ hW (hsame.mono hc hs)⟩
variable {a b : Addr} {ty : FieldType} {n : Nat} {gi : Nat → Int32} {gj : Nat → Int64} {ws : List Addr} {sl : Nat} {v : Value}
end OwnWalkW
section OwnStepsW
variable {p : Program} {l : Launch} {e : Env} {R : Room} {s : State} {m : MethodId} {args : Array Value} {below : List Frame} {meth : Method} {c : Code} {T : State} {locs : List Loc} {cells slots : Nat} {Q : Option Value → Heap → List Loc → Prop} {ck sk : Nat}
theorem ow_iloadNW (X : Stand p l e R s m args below meth c T locs cells slots) (hx : p.tables.exec = Jvm.exec) {pc q : Nat} {Ls : Array Slot} {S : List Value} {k : Fin 4} {v : Int32} (hd : decode c.code pc = .ok (.iload_n k, 1)) (hq : pc + 1 = q) (hl : Ls[k.val]? = some (.val (.int v))) (k : ownEndsW p e below s Q ck sk T (mkF m q Ls (.int v :: S))) : ownEndsW p e below s Q ck sk T (mkF m pc Ls S) := by
  subst hq
  exact ownGoW (fun _ k => XS.iloadN X.here hx rfl hd hl k) k
theorem ow_iloadW (X : Stand p l e R s m args below meth c T locs cells slots) (hx : p.tables.exec = Jvm.exec) {pc q : Nat} {Ls : Array Slot} {S : List Value} {k : Nat} {v : Int32} (hd : decode c.code pc = .ok (.iload k, 2)) (hq : pc + 2 = q) (hl : Ls[k]? = some (.val (.int v))) (k : ownEndsW p e below s Q ck sk T (mkF m q Ls (.int v :: S))) : ownEndsW p e below s Q ck sk T (mkF m pc Ls S) := by
  subst hq
  exact ownGoW (fun _ k => XS.iload X.here hx rfl hd hl k) k
theorem ow_istoreW (X : Stand p l e R s m args below meth c T locs cells slots) (hx : p.tables.exec = Jvm.exec) {pc q : Nat} {Ls : Array Slot} {S : List Value} {k : Nat} {v : Int32} {L' : Array Slot} (hd : decode c.code pc = .ok (.istore k, 2)) (hq : pc + 2 = q) (hl : storeLocals Ls k (.int v) = some L') (k : ownEndsW p e below s Q ck sk T (mkF m q L' S)) : ownEndsW p e below s Q ck sk T (mkF m pc Ls (.int v :: S)) := by
  subst hq
  exact ownGoW (fun _ k => XS.istore X.here hx rfl hd rfl hl k) k
theorem ow_aloadNW (X : Stand p l e R s m args below meth c T locs cells slots) (hx : p.tables.exec = Jvm.exec) {pc q : Nat} {Ls : Array Slot} {S : List Value} {k : Fin 4} {v : Value} (hd : decode c.code pc = .ok (.aload_n k, 1)) (hq : pc + 1 = q) (hl : Ls[k.val]? = some (.val v)) (hv : v.isRef = true) (k : ownEndsW p e below s Q ck sk T (mkF m q Ls (v :: S))) : ownEndsW p e below s Q ck sk T (mkF m pc Ls S) := by
  subst hq
  exact ownGoW (fun _ k => XS.aloadN X.here hx rfl hd hl hv k) k
theorem ow_aloadW (X : Stand p l e R s m args below meth c T locs cells slots) (hx : p.tables.exec = Jvm.exec) {pc q : Nat} {Ls : Array Slot} {S : List Value} {k : Nat} {v : Value} (hd : decode c.code pc = .ok (.aload k, 2)) (hq : pc + 2 = q) (hl : Ls[k]? = some (.val v)) (hv : v.isRef = true) (k : ownEndsW p e below s Q ck sk T (mkF m q Ls (v :: S))) : ownEndsW p e below s Q ck sk T (mkF m pc Ls S) := by
  subst hq
  exact ownGoW (fun _ k => XS.aload X.here hx rfl hd hl hv k) k
theorem ow_astoreW (X : Stand p l e R s m args below meth c T locs cells slots) (hx : p.tables.exec = Jvm.exec) {pc q : Nat} {Ls : Array Slot} {S : List Value} {k : Nat} {v : Value} {L' : Array Slot} (hd : decode c.code pc = .ok (.astore k, 2)) (hq : pc + 2 = q) (hv : v.isRef = true) (hl : storeLocals Ls k v = some L') (k : ownEndsW p e below s Q ck sk T (mkF m q L' S)) : ownEndsW p e below s Q ck sk T (mkF m pc Ls (v :: S)) := by
  subst hq
  exact ownGoW (fun _ k => XS.astore X.here hx rfl hd rfl hv hl k) k
theorem ow_iconstW (X : Stand p l e R s m args below meth c T locs cells slots) (hx : p.tables.exec = Jvm.exec) {pc q : Nat} {Ls : Array Slot} {S : List Value} {i : Int} (v : Int32) (hd : decode c.code pc = .ok (.iconst i, 1)) (hq : pc + 1 = q) (hz : Int32.ofInt i = v) (k : ownEndsW p e below s Q ck sk T (mkF m q Ls (.int v :: S))) : ownEndsW p e below s Q ck sk T (mkF m pc Ls S) := by
  subst hq hz
  exact ownGoW (fun _ k => XS.iconst X.here hx rfl hd k) k
theorem ow_bipushW (X : Stand p l e R s m args below meth c T locs cells slots) (hx : p.tables.exec = Jvm.exec) {pc q : Nat} {Ls : Array Slot} {S : List Value} {i : Int} (v : Int32) (hd : decode c.code pc = .ok (.bipush i, 2)) (hq : pc + 2 = q) (hz : (Int8.ofInt i).toInt32 = v) (k : ownEndsW p e below s Q ck sk T (mkF m q Ls (.int v :: S))) : ownEndsW p e below s Q ck sk T (mkF m pc Ls S) := by
  subst hq hz
  exact ownGoW (fun _ k => XS.bipush X.here hx rfl hd k) k
theorem ow_sipushW (X : Stand p l e R s m args below meth c T locs cells slots) (hx : p.tables.exec = Jvm.exec) {pc q : Nat} {Ls : Array Slot} {S : List Value} {i : Int} (v : Int32) (hd : decode c.code pc = .ok (.sipush i, 3)) (hq : pc + 3 = q) (hz : (Int16.ofInt i).toInt32 = v) (k : ownEndsW p e below s Q ck sk T (mkF m q Ls (.int v :: S))) : ownEndsW p e below s Q ck sk T (mkF m pc Ls S) := by
  subst hq hz
  exact ownGoW (fun _ k => XS.sipush X.here hx rfl hd k) k
theorem ow_isubW (X : Stand p l e R s m args below meth c T locs cells slots) (hx : p.tables.exec = Jvm.exec) {pc q : Nat} {Ls : Array Slot} {S : List Value} {x y : Int32} (z : Int32) (hd : decode c.code pc = .ok (.isub, 1)) (hq : pc + 1 = q) (hz : x - y = z) (k : ownEndsW p e below s Q ck sk T (mkF m q Ls (.int z :: S))) : ownEndsW p e below s Q ck sk T (mkF m pc Ls (.int y :: .int x :: S)) := by
  subst hq hz
  exact ownGoW (fun _ k => XS.isub X.here hx rfl hd rfl k) k
theorem ow_iandW (X : Stand p l e R s m args below meth c T locs cells slots) (hx : p.tables.exec = Jvm.exec) {pc q : Nat} {Ls : Array Slot} {S : List Value} {x y : Int32} (z : Int32) (hd : decode c.code pc = .ok (.iand, 1)) (hq : pc + 1 = q) (hz : x &&& y = z) (k : ownEndsW p e below s Q ck sk T (mkF m q Ls (.int z :: S))) : ownEndsW p e below s Q ck sk T (mkF m pc Ls (.int y :: .int x :: S)) := by
  subst hq hz
  exact ownGoW (fun _ k => XS.iand X.here hx rfl hd rfl k) k
theorem ow_i2cW (X : Stand p l e R s m args below meth c T locs cells slots) (hx : p.tables.exec = Jvm.exec) {pc q : Nat} {Ls : Array Slot} {S : List Value} {x : Int32} (z : Int32) (hd : decode c.code pc = .ok (.i2c, 1)) (hq : pc + 1 = q) (hz : x.toUInt32.toUInt16.toUInt32.toInt32 = z) (k : ownEndsW p e below s Q ck sk T (mkF m q Ls (.int z :: S))) : ownEndsW p e below s Q ck sk T (mkF m pc Ls (.int x :: S)) := by
  subst hq hz
  exact ownGoW (fun _ k => XS.i2c X.here hx rfl hd rfl k) k
theorem ow_dupW (X : Stand p l e R s m args below meth c T locs cells slots) (hx : p.tables.exec = Jvm.exec) {pc q : Nat} {Ls : Array Slot} {S : List Value} {v : Value} (hd : decode c.code pc = .ok (.dup, 1)) (hq : pc + 1 = q) (hc : v.category = 1) (k : ownEndsW p e below s Q ck sk T (mkF m q Ls (v :: v :: S))) : ownEndsW p e below s Q ck sk T (mkF m pc Ls (v :: S)) := by
  subst hq
  exact ownGoW (fun _ k => XS.dup X.here hx rfl hd rfl hc k) k
theorem ow_aconstNullW (X : Stand p l e R s m args below meth c T locs cells slots) (hx : p.tables.exec = Jvm.exec) {pc q : Nat} {Ls : Array Slot} {S : List Value}  (hd : decode c.code pc = .ok (.aconst_null, 1)) (hq : pc + 1 = q) (k : ownEndsW p e below s Q ck sk T (mkF m q Ls (.null :: S))) : ownEndsW p e below s Q ck sk T (mkF m pc Ls S) := by
  subst hq
  exact ownGoW (fun _ k => XS.aconstNull X.here hx rfl hd k) k
theorem ow_gotoW (X : Stand p l e R s m args below meth c T locs cells slots) (hx : p.tables.exec = Jvm.exec) {pc q : Nat} {Ls : Array Slot} {S : List Value} {o : Int} (hd : decode c.code pc = .ok (.goto o, 3)) (ho : 0 ≤ (pc : Int) + o) (hp : ((pc : Int) + o).toNat = q) (k : ownEndsW p e below s Q ck sk T (mkF m q Ls S)) : ownEndsW p e below s Q ck sk T (mkF m pc Ls S) :=
  ownGoW (fun _ k => XS.goto X.here hx rfl rfl hd ho hp k) k
theorem ow_ifYesW (X : Stand p l e R s m args below meth c T locs cells slots) (hx : p.tables.exec = Jvm.exec) {pc q : Nat} {Ls : Array Slot} {S : List Value} {cd : ClassFile.Cond} {o : Int} {x : Int32} (hd : decode c.code pc = .ok (.ifCond cd o, 3)) (hc : ifCond.holds cd x = true) (ho : 0 ≤ (pc : Int) + o) (hp : ((pc : Int) + o).toNat = q) (k : ownEndsW p e below s Q ck sk T (mkF m q Ls S)) : ownEndsW p e below s Q ck sk T (mkF m pc Ls (.int x :: S)) :=
  ownGoW (fun _ k => XS.ifYes X.here hx rfl rfl hd rfl hc ho hp k) k
theorem ow_ifNoW (X : Stand p l e R s m args below meth c T locs cells slots) (hx : p.tables.exec = Jvm.exec) {pc q : Nat} {Ls : Array Slot} {S : List Value} {cd : ClassFile.Cond} {o : Int} {x : Int32} (hd : decode c.code pc = .ok (.ifCond cd o, 3)) (hq : pc + 3 = q) (hc : ifCond.holds cd x = false) (k : ownEndsW p e below s Q ck sk T (mkF m q Ls S)) : ownEndsW p e below s Q ck sk T (mkF m pc Ls (.int x :: S)) := by
  subst hq
  exact ownGoW (fun _ k => XS.ifNo X.here hx rfl hd rfl hc k) k
theorem ow_icmpYesW (X : Stand p l e R s m args below meth c T locs cells slots) (hx : p.tables.exec = Jvm.exec) {pc q : Nat} {Ls : Array Slot} {S : List Value} {cd : ClassFile.Cond} {o : Int} {x y : Int32} (hd : decode c.code pc = .ok (.if_icmp cd o, 3)) (hc : if_icmp.holds cd x y = true) (ho : 0 ≤ (pc : Int) + o) (hp : ((pc : Int) + o).toNat = q) (k : ownEndsW p e below s Q ck sk T (mkF m q Ls S)) : ownEndsW p e below s Q ck sk T (mkF m pc Ls (.int y :: .int x :: S)) :=
  ownGoW (fun _ k => XS.icmpYes X.here hx rfl rfl hd rfl hc ho hp k) k
theorem ow_icmpNoW (X : Stand p l e R s m args below meth c T locs cells slots) (hx : p.tables.exec = Jvm.exec) {pc q : Nat} {Ls : Array Slot} {S : List Value} {cd : ClassFile.Cond} {o : Int} {x y : Int32} (hd : decode c.code pc = .ok (.if_icmp cd o, 3)) (hq : pc + 3 = q) (hc : if_icmp.holds cd x y = false) (k : ownEndsW p e below s Q ck sk T (mkF m q Ls S)) : ownEndsW p e below s Q ck sk T (mkF m pc Ls (.int y :: .int x :: S)) := by
  subst hq
  exact ownGoW (fun _ k => XS.icmpNo X.here hx rfl hd rfl hc k) k
end OwnStepsW

section OwnWide
variable {p : Program} {l : Launch} {e : Env} {R : Room} {s : State} {m : MethodId} {args : Array Value} {below : List Frame} {meth : Method} {c : Code} {T T' : State} {locs : List Loc} {cells slots : Nat} {Q : Option Value → Heap → List Loc → Prop} {ck sk : Nat} {f f' : JFrame} {Z : State} {a0 : Array Value} {h h' : Heap}
/-- the walk goes on over the start with other tables -/
theorem ownBaseW {k : Nat} {vm' : Vm} (hS : s.Since vm' k) (K : ownEndsW p e below (s.setVm vm') (fun v h L => Q v h L ∧ k ≤ h.size) ck sk T f) : ownEndsW p e below s Q ck sk T f := by
  obtain ⟨s₂, o, h1, h2, h3, v, L, ho, ⟨hQ, hk⟩, hr, hW, hB, hs⟩ := K
  have h4 := hS.trans (vm₂ := s₂.vm) (n₂ := s₂.heap.size) ⟨hW, hB⟩ hk
  exact ⟨s₂, o, h1, h2, h3, v, L, ho, hQ, hr, h4.1, h4.2, hs.setVm s.vm⟩
theorem ownRebaseW {own : String} (hZ : Z.Warmed39 s.vm) (hown : s.vm.findClass own = some m.cls) {vm' : Vm} {k : Nat} (hS : s.Since vm' k) (X : Stand p l e R (s.setVm vm') m args below meth c T locs cells slots)
    (K : ∀ s', Stand p l e R s' m args below meth c T locs cells slots → Z.Warmed39 s'.vm → s'.vm.findClass own = some m.cls → ownEndsW p e below s' (fun v h L => Q v h L ∧ k ≤ h.size) ck sk T f) : ownEndsW p e below s Q ck sk T f :=
  ownBaseW hS (K _ X (State.Warmed39.trans hZ hS.1) (by show vm'.findClass own = _; rw [hS.1.alike.findClass]; exact hown))
theorem ownWrSz {a : Addr} {sl : Nat} {v : Value} (W : Wr h h' a sl v) : h.size ≤ h'.size := by obtain ⟨c0, -, -, -, rfl⟩ := W; simp
theorem ownAI0 {b : Addr} {k : ClassId} {ty : FieldType} {d : Value} (A : Arv Z h b k ty 0 [] d) : ownAI Z h b ty 0 (fun _ => 0) := by
  obtain ⟨c, A, -, S, -⟩ := A
  exact ⟨c, A, S, by decide, fun i hi => absurd hi (Nat.not_lt_zero _)⟩
theorem ownSafeNew {EL : List (String × Nat)} {vm : Vm} {x : Addr} (q : x = h.size) (H : CHv Z EL vm h) (E : Ext h h') : Safe Z EL vm h' x := by
  refine Safe.ext E H fun B => ?_
  obtain ⟨c, hc⟩ := B.there
  subst q
  have := (Array.getElem?_eq_some_iff.mp hc).1
  omega
theorem ownNeEA {x b : Addr} {C : String} {kk n : Nat} {ty : FieldType} {gi : Nat → Int32} (E : Exa Z h x C) (wi : (Jvm.Cond.instantiable C kk).before a0 Z = true) (F : ownAI Z h b ty n gi) : x ≠ b := by
  intro q
  subst q
  obtain ⟨cl, A, -⟩ := F
  obtain ⟨cell, k, h1, h2, h3, -⟩ := E
  cases h1.symm.trans A.1
  obtain ⟨c2, k2, i1, i2, i3, -⟩ := Cond.instantiable_spec wi
  cases h2.symm.trans i1
  cases h3.symm.trans i2
  obtain ⟨-, k3, hk3, comp, hk4⟩ := A.2.1
  cases h3.symm.trans hk3
  rw [i3] at hk4
  cases hk4
/-- what a wide callee's theorem pays, where it loads a constant whose text is told -/
theorem backOfX {EL : List (String × Nat)} {x : Addr} {y : MethodName} {bytes : ByteArray} {maxL : Nat} {ret : Option FieldType} {rm : Room} {len W : Nat} {as' : Array Value}
    (hM : MetFree l y (head1 [Jvm.Cond.code y bytes maxL ret] rm) (fun a U => a = as' ∧ Z.Warmed39 U.vm ∧ U.heap = h ∧ CHv Z EL U.vm h ∧ Safe Z EL U.vm h x) (fun _ _ _ _ _ => True) (fun _ U o U' => ∃ v L, o = .returned v ∧ Q v U'.heap L ∧ ReturnedEndW U o U' L rm.cells rm.slots))
    (hZ : Z.Warmed39 s.vm) (wc : (Jvm.Cond.code y bytes maxL ret).before a0 Z = true) (wz : (Jvm.Cond.initialized y.cls).before a0 Z = true) (hf : rm.frames + 1 ≤ R.frames) (hl : W + (maxL + 11) + rm.locals ≤ R.locals)
    (hEL : EW Z a0 EL) (H : CHv Z EL s.vm h) (S : Safe Z EL s.vm h x) (hlt : x < h.size) :
    BackS l R p e below s args y len W (fun A a => a = as' ∧ A.U.heap = h ∧ A.cells + rm.cells ≤ R.cells ∧ A.slots + rm.slots ≤ R.slots)
      (fun A _ v B => ∃ L, Q v B.U.heap L ∧ B.locs = A.locs ++ L ∧ B.cells = A.cells + rm.cells ∧ B.slots = A.slots + rm.slots) :=
  BackS.of_freeW (bytes := bytes) (maxL := maxL) (ret := ret) (E := fun _ _ o t L k n => k = rm.cells ∧ n = rm.slots ∧ ∃ v, o = .returned v ∧ Q v t.heap L) hM hf hl
    (fun m meth c A a Y hp => have hU : Z.Warmed39 A.U.vm := wtrans hZ Y.warmed
      ⟨by show (Jvm.Cond.and _ .tt).before a A.U = true; rw [Cond.before_and, mv hU wc]; rfl, mv hU wc, mv hU wz, hp.2.2.1, hp.2.2.2⟩)
    (fun m meth c A a g mk Y hp => have cr := CHv.at (s := s) (vm0 := s.vm) Y hZ hEL H
      ⟨hp.1, wtrans hZ Y.warmed, hp.2.1, cr.1, cr.safe hlt S⟩) (fun _ _ _ _ _ _ _ _ _ => trivial)
    (fun _ _ _ _ ⟨v, L, h1, h2, h3⟩ => ⟨L, _, _, h3, rfl, rfl, v, h1, h2⟩)
    (fun m meth c A a g mk v t L k n Y hp _ _ ⟨e1, e2, v', e3, e4⟩ => by cases e3; subst e1 e2; exact ⟨L, e4, rfl, rfl, rfl⟩)
end OwnWide
theorem own_strW : ∀ d ∈ StrChars.Road.words, d ∈ tables_1 := by decide +kernel
theorem own_n32 {n : Nat} (h : n ≤ 4000) : (Int32.ofNat n).toInt = n := Int32.toInt_ofNat_of_lt (by omega)
theorem ownStr {p : Program} {l : Launch} {e : Env} {R : Room} {s : State} {args : Array Value} {below : List Frame} {len W : Nat} {Z : State} {a0 : Array Value} {h : Heap} (hZ : Z.Warmed39 s.vm) (hw : ∀ d ∈ StrChars.Road.words, d.before a0 Z = true) {kI : Nat} (wi : (Jvm.Cond.instantiable "java/lang/String" kI).before a0 Z = true)
    {x b : Addr} {g : Nat → Int32} {v0 c0 : Value} {z : Int32} {n n0 : Nat} (hh0 : n0 ≤ h.size) (E : Exa Z h x "java/lang/String") (V : Fld Z h x "java/lang/String" "value" "[B" v0) (C : Fld Z h x "java/lang/String" "coder" "B" c0) (K : ownAI Z h b .char n g) (S : Sta Z h "java/lang/String" "COMPACT_STRINGS" "Z" (.int z)) (hx0 : n0 ≤ x) (hz : ¬ z = 0)
    (hp : ∀ i, i < n → ¬ g i < 0 ∧ ¬ (255 : Int32) < g i) (l0 : 0 < n) (l2 : n ≤ 4000) (hfr : 4 ≤ R.frames) (hlo : W + 65 ≤ R.locals) :
    Back l R p e below s args (⟨"java/lang/String", "<init>", "([C)V"⟩ : MethodName) len W (fun P a => a = #[.ref x, .ref b] ∧ P.U.heap = h ∧ P.cells + 1 ≤ R.cells ∧ P.slots + n ≤ R.slots)
      (fun P _ v B => ∃ L, (∃ t : Addr, v = none ∧ Fr n0 L ∧ Keep h B.U.heap [x] ∧ h.size ≤ t ∧ Fld Z B.U.heap x "java/lang/String" "coder" "B" (.int 0) ∧ Fld Z B.U.heap x "java/lang/String" "value" "[B" (.ref t) ∧ ownAI Z B.U.heap t .byte n (fun i => (g i).toInt8.toInt32)) ∧ B.locs = P.locs ++ L ∧ B.cells = P.cells + 1 ∧ B.slots = P.slots + n) := by
  obtain ⟨cl, A, Sz, Nl, Hg⟩ := K
  have hN := own_n32 l2
  have hNN : (Int32.ofNat n).toNatClampNeg = n := by simp only [Int32.toNatClampNeg, hN]; omega
  have K' : Arv Z h b cl.cls .char (Int32.ofNat n) (((List.range n).map g).map Value.int) (.int 0) := by
    refine ⟨cl, A, rfl, by rw [Sz, hNN], by rw [Int32.lt_iff_toInt_lt, hN]; simp only [Int32.reduceToInt]; omega, ?_, ?_⟩
    · intro k hk
      rw [Sz] at hk
      rw [Hg k hk]
      simp [List.getD, hk]
    · intro i hi
      rw [Sz] at hi
      have q := hp i hi
      have e1 : (List.map Value.int (List.map g (List.range n))).getD i (.int 0) = .int (g i) := by simp [List.getD, hi]
      rw [e1]
      simp only [Int32.lt_iff_toInt_lt, Int32.reduceToInt] at q
      simp only [fits, Bool.and_eq_true, decide_eq_true_eq, Int32.le_iff_toInt_le, Int32.reduceToInt]
      omega
  refine Back.mono (StrChars.Road.backV (cs := (List.range n).map g) hZ hw wi hx0 hh0 E V C K' S hz (by simp) rfl l0 l2 ?_ rfl hfr hlo) (fun _ _ h => h) (fun P a v B hp hq => ?_)
  · intro c hc
    simp only [List.mem_map, List.mem_range] at hc
    obtain ⟨i, hi, rfl⟩ := hc
    exact hp i hi
  · obtain ⟨L, ⟨q1, q2, q3, q4, q5, t, kb, q6, q7, q8, q9, ⟨cl', A', -, S', -, H', -⟩⟩, r⟩ := hq
    refine ⟨L, ⟨t, q1, q2, q3, q7, q5, q9, cl', A', by rw [S', hNN], by omega, fun i hi => ?_⟩, r⟩
    rw [H' i (by rw [S', hNN]; exact hi)]
    simp [List.getD, hi]

theorem own_ltI {a b : Int32} (h : a < b) : a.toInt < b.toInt := Int32.lt_iff_toInt_lt.mp h
theorem own_nltI {a b : Int32} (h : ¬ a < b) : b.toInt ≤ a.toInt := by rw [Int32.lt_iff_toInt_lt] at h; omega
theorem own_small {p : Int32} {n : Nat} (h1 : 0 ≤ p.toInt) (h2 : p.toInt < n) (hn : n ≤ 2147483648) : ∃ k : Fin n, p = Int32.ofNat k.val ∧ p.toInt = k.val := by
  have e : p = Int32.ofNat p.toInt.toNat := by
    apply Int32.toInt_inj.mp
    rw [Int32.toInt_ofNat_of_lt (by omega)]
    omega
  exact ⟨⟨p.toInt.toNat, by omega⟩, e, by simp only; omega⟩
theorem own_in {i z : Int32} {n : Nat} (h0 : ¬ i < 0) (h1 : i < z) (e : z.toNatClampNeg = n) : ownIn i n := by
  subst e
  have a := own_nltI h0
  have b := own_ltI h1
  simp only [Int32.reduceToInt] at a
  exact ownIn_of a (by simp only [Int32.toNatClampNeg]; omega)
theorem own_in2 {i z : Int32} {n : Nat} (h0 : ¬ i < 0) (h1 : i < z) (e : z.toNatClampNeg = n) : i.toNatClampNeg < n := by
  subst e
  have a := own_nltI h0
  have b := own_ltI h1
  simp only [Int32.reduceToInt] at a
  simp only [Int32.toNatClampNeg]; omega

def own_asc (r : Int32) : Prop := ¬ r < (0 : Int32) ∧ r < (128 : Int32)
theorem own_ascI {r : Int32} (h : own_asc r) : 0 ≤ r.toInt ∧ r.toInt < 128 := by
  obtain ⟨a, b⟩ := h
  have a := own_nltI a
  have b := own_ltI b
  simp only [Int32.reduceToInt] at a b
  exact ⟨a, b⟩
theorem own_ascF {P : Int32 → Prop} (h : ∀ k : Fin 128, P (Int32.ofNat k.val)) {r : Int32} (q : own_asc r) : P r := by
  have q2 := own_ascI q
  obtain ⟨k, rfl, -⟩ := own_small (p := r) (n := 128) (by omega) (by omega) (by decide)
  exact h k
theorem own_sub {v w : Int32} (h : v = w) (q : own_asc v) : own_asc w := h ▸ q
theorem own_narP {r : Int32} (h : own_asc r) : nar .char r = r := own_ascF (P := fun r => nar .char r = r) (by decide +kernel) h
theorem own_b8 {r : Int32} (h : own_asc r) : r.toInt8.toInt32 = r := own_ascF (P := fun r => r.toInt8.toInt32 = r) (by decide +kernel) h
theorem own_ch {r : Int32} (h : own_asc r) : nar .char ((r &&& (255 : Int32)).toUInt32.toUInt16.toUInt32.toInt32) = r := own_ascF (P := fun r => nar .char ((r &&& (255 : Int32)).toUInt32.toUInt16.toUInt32.toInt32) = r) (by decide +kernel) h
theorem own_inA {i : Int32} (h : own_asc i) : ownIn i 128 := own_in h.1 h.2 rfl
theorem own_asc0 {f : Nat → Int32} : ∀ k, k < 0 → own_asc (f k) := fun k hk => absurd hk (Nat.not_lt_zero _)
theorem own_ascU {f : Nat → Int32} {x : Int32} {j : Nat} (hx : own_asc x) (h : ∀ k, k < j → own_asc (f k)) : ∀ k, k < j + 1 → own_asc (ownUpd f j x k) := by
  intro k hk
  by_cases q : k = j
  · subst q; rw [ownUpd_same]; exact hx
  · rw [ownUpd_ne _ _ q]; exact h k (by omega)
theorem own_ascR {g : Nat → Int32} {n : Nat} (h : ∀ k, k < n → own_asc (g k)) : ∀ i, i < n → ¬ g i < 0 ∧ ¬ (255 : Int32) < g i := by
  intro i hi
  have q := own_ascI (h i hi)
  simp only [Int32.lt_iff_toInt_lt, Int32.reduceToInt]
  omega
theorem own_ascB {g : Nat → Int32} {n : Nat} (h : ∀ k, k < n → own_asc (g k)) : ∀ k, k < n → own_asc ((fun i => (g i).toInt8.toInt32) k) := by
  intro k hk
  show own_asc ((g k).toInt8.toInt32)
  rw [own_b8 (h k hk)]
  exact h k hk
theorem own_a127 {a v : Int32} (h : (a &&& (127 : Int32)).toUInt32.toUInt16.toUInt32.toInt32 = v) : own_asc v := by
  have m := Jvm.Kit.i32_mask a 127 (k := 7) (by decide) (by decide)
  have m0 : 0 ≤ (a &&& 127).toInt ∧ (a &&& 127).toInt < 128 := by rw [m]; omega
  obtain ⟨k, e, -⟩ := own_small (p := a &&& 127) (n := 128) m0.1 (by omega) (by decide)
  subst h
  rw [e]
  exact (by decide +kernel : ∀ k : Fin 128, ¬ (Int32.ofNat k.val).toUInt32.toUInt16.toUInt32.toInt32 < (0 : Int32) ∧ (Int32.ofNat k.val).toUInt32.toUInt16.toUInt32.toInt32 < (128 : Int32)) k
theorem own_and3 {a v : Int32} (h : a &&& (3 : Int32) = v) : v = (0 : Int32) ∨ v = (1 : Int32) ∨ v = (2 : Int32) ∨ v = (3 : Int32) := by
  have m := Jvm.Kit.i32_mask a 3 (k := 2) (by decide) (by decide)
  rw [h] at m
  simp only [← Int32.toInt_inj, Int32.reduceToInt]
  omega
def own_mem0 (g : Nat → Int32) : Nat → Int32 := fun _ => (0 : Int32)
def own_mem1 (g : Nat → Int32) : Nat → Int32 := ownUpd (fun _ => (0 : Int32)) (g 0).toNatClampNeg (1 : Int32)
def own_mem2 (g : Nat → Int32) : Nat → Int32 := ownUpd (own_mem1 g) (g 1).toNatClampNeg (1 : Int32)
def own_mem3 (g : Nat → Int32) : Nat → Int32 := ownUpd (own_mem2 g) (g 2).toNatClampNeg (1 : Int32)
theorem own_nz {a b v : Int32} (h : a = v) (q : ¬ v = b) : ¬ a = b := h ▸ q
theorem own_z {a b v : Int32} (h : a = v) (q : v = b) : a = b := h ▸ q
theorem own_eqN {x a : Int32} (hx : ¬ x < (0 : Int32)) (ha : own_asc a) : (x.toNatClampNeg = a.toNatClampNeg) ↔ x = a := by
  have h1 := own_nltI hx
  have h2 := own_ascI ha
  simp only [Int32.reduceToInt] at h1
  rw [← Int32.toInt_inj]
  simp only [Int32.toNatClampNeg]
  omega
theorem own_m1 {g : Nat → Int32} {k : Nat} : own_mem1 g k = 0 ↔ ¬ k = (g 0).toNatClampNeg := by
  unfold own_mem1 ownUpd
  split
  · simp_all
  · simp_all
theorem own_m2 {g : Nat → Int32} {k : Nat} : own_mem2 g k = 0 ↔ ¬ k = (g 1).toNatClampNeg ∧ ¬ k = (g 0).toNatClampNeg := by
  rw [← own_m1]
  unfold own_mem2 ownUpd
  split
  · simp_all
  · simp_all
theorem own_m3 {g : Nat → Int32} {k : Nat} : own_mem3 g k = 0 ↔ ¬ k = (g 2).toNatClampNeg ∧ ¬ k = (g 1).toNatClampNeg ∧ ¬ k = (g 0).toNatClampNeg := by
  rw [← own_m2]
  unfold own_mem3 ownUpd
  split
  · simp_all
  · simp_all
theorem own_finG {x r gm : Int32} {P : Prop} (e : ¬ x < (0 : Int32) → (gm = 0 ↔ ¬ P)) (hp : (r = (1 : Int32) ∧ ¬ x < (0 : Int32) ∧ x < (128 : Int32) ∧ ¬ gm = 0) ∨ (r = (0 : Int32) ∧ (x < (0 : Int32) ∨ ¬ x < (128 : Int32) ∨ gm = 0))) : (r = (1 : Int32) ∨ r = (0 : Int32)) ∧ (r = (1 : Int32) ↔ ¬ x < (0 : Int32) ∧ x < (128 : Int32) ∧ P) := by
  rcases hp with ⟨rfl, h1, h2, h3⟩ | ⟨rfl, h⟩
  · refine ⟨Or.inl rfl, fun _ => ⟨h1, h2, ?_⟩, fun _ => rfl⟩
    exact Classical.byContradiction fun q => h3 ((e h1).mpr q)
  · refine ⟨Or.inr rfl, fun q => absurd q (by decide), fun ⟨h1, h2, h3⟩ => ?_⟩
    rcases h with h | h | h
    · exact absurd h h1
    · exact absurd h2 h
    · exact absurd h3 ((e h1).mp h)
abbrev own_hp (gm : Nat → Int32) (x r : Int32) : Prop := (r = (1 : Int32) ∧ ¬ x < (0 : Int32) ∧ x < (128 : Int32) ∧ ¬ gm x.toNatClampNeg = 0) ∨ (r = (0 : Int32) ∧ (x < (0 : Int32) ∨ ¬ x < (128 : Int32) ∨ gm x.toNatClampNeg = 0))
theorem own_fin0 {x r : Int32} {g : Nat → Int32} (hp : own_hp (own_mem0 g) x r) : (r = (1 : Int32) ∨ r = (0 : Int32)) ∧ (r = (1 : Int32) ↔ ¬ x < (0 : Int32) ∧ x < (128 : Int32) ∧ False) :=
  own_finG (fun _ => ⟨fun _ q => q, fun _ => rfl⟩) hp
theorem own_fin1 {x r a : Int32} {f : Nat → Int32} (ha : own_asc a) (hp : own_hp (own_mem1 (fun i => ((ownUpd f 0 a) i).toInt8.toInt32)) x r) : (r = (1 : Int32) ∨ r = (0 : Int32)) ∧ (r = (1 : Int32) ↔ ¬ x < (0 : Int32) ∧ x < (128 : Int32) ∧ x = a) := by
  refine own_finG (fun hx => ?_) hp
  have e0 : ((ownUpd f 0 a) 0).toInt8.toInt32 = a := own_b8 ha
  rw [own_m1, e0, own_eqN hx ha]
theorem own_fin2 {x r a b : Int32} {f : Nat → Int32} (ha : own_asc a) (hb : own_asc b) (hp : own_hp (own_mem2 (fun i => ((ownUpd (ownUpd f 0 a) 1 b) i).toInt8.toInt32)) x r) : (r = (1 : Int32) ∨ r = (0 : Int32)) ∧ (r = (1 : Int32) ↔ ¬ x < (0 : Int32) ∧ x < (128 : Int32) ∧ (x = a ∨ x = b)) := by
  refine own_finG (fun hx => ?_) hp
  have e0 : ((ownUpd (ownUpd f 0 a) 1 b) 0).toInt8.toInt32 = a := own_b8 ha
  have e1 : ((ownUpd (ownUpd f 0 a) 1 b) 1).toInt8.toInt32 = b := own_b8 hb
  rw [own_m2, e0, e1, own_eqN hx ha, own_eqN hx hb, not_or]
  exact And.comm
theorem own_fin3 {x r a b c : Int32} {f : Nat → Int32} (ha : own_asc a) (hb : own_asc b) (hc : own_asc c) (hp : own_hp (own_mem3 (fun i => ((ownUpd (ownUpd (ownUpd f 0 a) 1 b) 2 c) i).toInt8.toInt32)) x r) : (r = (1 : Int32) ∨ r = (0 : Int32)) ∧ (r = (1 : Int32) ↔ ¬ x < (0 : Int32) ∧ x < (128 : Int32) ∧ (x = a ∨ x = b ∨ x = c)) := by
  refine own_finG (fun hx => ?_) hp
  have e0 : ((ownUpd (ownUpd (ownUpd f 0 a) 1 b) 2 c) 0).toInt8.toInt32 = a := own_b8 ha
  have e1 : ((ownUpd (ownUpd (ownUpd f 0 a) 1 b) 2 c) 1).toInt8.toInt32 = b := own_b8 hb
  have e2 : ((ownUpd (ownUpd (ownUpd f 0 a) 1 b) 2 c) 2).toInt8.toInt32 = c := own_b8 hc
  rw [own_m3, e0, e1, e2, own_eqN hx ha, own_eqN hx hb, own_eqN hx hc, not_or, not_or]
  exact ⟨fun ⟨p, q, s⟩ => ⟨s, q, p⟩, fun ⟨p, q, s⟩ => ⟨s, q, p⟩⟩
theorem own_EW {Z : State} {a0 : Array Value} (hw : ∀ d ∈ tables_1, d.before a0 Z = true) : EW Z a0 [("java/lang/String", 7)] := EW.cons (hw _ (List.mem_of_getElem? (i := 77) rfl)) (by decide) EW.nil
theorem own_pn_String : plainName "java/lang/String" = true := by first | (simp [plainName, overriddenIn]; done) | decide +kernel
theorem own_d2_0 : decode jdk_42_method_149_code 0 = .ok (.aload_n 0, 1) := by decide +kernel
theorem own_d2_1 : decode jdk_42_method_149_code 1 = .ok (.invokespecial 1, 3) := by decide +kernel
theorem own_d2_4 : decode jdk_42_method_149_code 4 = .ok (.iload_n 3, 1) := by decide +kernel
theorem own_d2_5 : decode jdk_42_method_149_code 5 = .ok (.ifCond .ne 22, 3) := by decide +kernel
theorem own_d2_8 : decode jdk_42_method_149_code 8 = .ok (.aload_n 0, 1) := by decide +kernel
theorem own_d2_9 : decode jdk_42_method_149_code 9 = .ok (.ldc 7, 2) := by decide +kernel
theorem own_d2_11 : decode jdk_42_method_149_code 11 = .ok (.getfield 9, 3) := by decide +kernel
theorem own_d2_14 : decode jdk_42_method_149_code 14 = .ok (.putfield 9, 3) := by decide +kernel
theorem own_d2_17 : decode jdk_42_method_149_code 17 = .ok (.aload_n 0, 1) := by decide +kernel
theorem own_d2_18 : decode jdk_42_method_149_code 18 = .ok (.ldc 7, 2) := by decide +kernel
theorem own_d2_20 : decode jdk_42_method_149_code 20 = .ok (.getfield 15, 3) := by decide +kernel
theorem own_d2_23 : decode jdk_42_method_149_code 23 = .ok (.putfield 15, 3) := by decide +kernel
theorem own_d2_26 : decode jdk_42_method_149_code 26 = .ok (.return_, 1) := by decide +kernel
theorem own_ef2_emp4 (m : MethodId) (sx : Addr) (sb : Addr) : entryFrame m #[(.ref sx), (.ref sb), (.int (0 : Int32)), (.int (0 : Int32)), .null] 6 = mkF m 0 #[rv sx, rv sb, iv (0 : Int32), iv (0 : Int32), .val .null, .unset] [] := by first | (simp [entryFrame, mkF, argsToLocals, Value.category]; done) | rfl
def Q_emp4 (Z : State) (sx : Addr) (sb : Addr) (h0 : Heap) (n0 : Nat) (v : Option Value) (h : Heap) (L : List Loc) : Prop := ∃ (t : Addr), v = none ∧ Fr n0 L ∧ Keep h0 h [sx] ∧ Fld Z h sx "java/lang/String" "coder" "B" (.int (0 : Int32)) ∧ Fld Z h sx "java/lang/String" "value" "[B" (.ref t) ∧ ownAI Z h t .byte 0 (fun _ => (0 : Int32))
set_option maxRecDepth 65536 in
set_option maxHeartbeats 40000000 in
theorem rm_emp4 (l : Launch) (Z : State) (av0 : Array Value) (hw : ∀ d ∈ tables_1, d.before av0 Z = true) (ws : List Jvm.Cond) (sx : Addr) (sb : Addr) (h0 : Heap) (n0 : Nat) (Z0 : n0 ≤ h0.size) (HF0 : Exa Z h0 sx "java/lang/String") (HF1 : Fld Z h0 sx "java/lang/String" "value" "[B" .null) (HF2 : Fld Z h0 sx "java/lang/String" "coder" "B" (.int (0 : Int32))) (G_sx : n0 ≤ sx) :
    MetFree l (⟨"java/lang/String", "<init>", "([CIILjava/lang/Void;)V"⟩ : MethodName) (head1 (Jvm.Cond.code (⟨"java/lang/String", "<init>", "([CIILjava/lang/Void;)V"⟩ : MethodName) jdk_42_method_149_code 6 none :: ws) ({ frames := 1, cells := 2, slots := 4, locals := 12 } : Room)) (fun a U => a = #[(.ref sx), (.ref sb), (.int (0 : Int32)), (.int (0 : Int32)), .null] ∧ Z.Warmed39 U.vm ∧ U.heap = h0 ∧ CHv Z [("java/lang/String", 7)] U.vm h0 ∧ Safe Z [("java/lang/String", 7)] U.vm h0 sx) (fun _ _ _ _ _ => True) (fun _ U o U' => ∃ v L, o = .returned v ∧ (Q_emp4 Z sx sb h0 n0) v U'.heap L ∧ ReturnedEndW U o U' L ({ frames := 1, cells := 2, slots := 4, locals := 12 } : Room).cells ({ frames := 1, cells := 2, slots := 4, locals := 12 } : Room).slots) := by
  refine MetFree.of_bodySF (plainFor_of_name own_pn_String) hisR ?_
  intro p e s m args below meth c s₁ Bd hml0 hP hK
  obtain ⟨rfl, hZ, hh, hCH, hSf⟩ := hP
  have hx := Bd.exec
  have hby := Bd.bytes
  have hml : c.maxLocals = 6 := hml0
  have hown : s.vm.findClass "java/lang/String" = some m.cls := findClass_of_methodNamed Bd.named
  have hnm := (name_of_methodNamed Bd.named Bd.method).1
  have hlk : meth.locks = false := BodyLoose.notSynchronized Bd
  have X0 : Stand p l e ({ frames := 1, cells := 2, slots := 4, locals := 12 } : Room) s m #[(.ref sx), (.ref sb), (.int (0 : Int32)), (.int (0 : Int32)), .null] below meth c s₁ [] 0 0 := Stand.of_body Bd
  have e0 : s₁.heap = h0 := by rw [← hh, Bd.state]; rfl
  have N0 := Fr.nil n0
  have K0 : Keep h0 h0 [sx] := Keep.refl _ _
  have ww : ∀ (k : Nat) {d : Jvm.Cond}, tables_1[k]? = some d → d.before av0 Z = true := fun k d h => hw d (List.mem_of_getElem? h)
  have wStr : ∀ d ∈ Bundle.stringAtoms, d.before av0 Z = true := fun d hd => hw d ((by decide +kernel : ∀ d ∈ Bundle.stringAtoms, d ∈ tables_1) d hd)
  show ownEndsW p e below s (Q_emp4 Z sx sb h0 n0) ({ frames := 1, cells := 2, slots := 4, locals := 12 } : Room).cells ({ frames := 1, cells := 2, slots := 4, locals := 12 } : Room).slots s₁ (entryFrame m #[(.ref sx), (.ref sb), (.int (0 : Int32)), (.int (0 : Int32)), .null] 6)
  refine ownCastW (own_ef2_emp4 m sx sb) ?_
  refine ow_aloadNW (q := 1) X0 hx (hb hby own_d2_0) rfl rfl rfl ?_
  obtain ⟨T1, X1, e1, st1⟩ := initO X0 hx hZ hown (ww 14 rfl) (ww 15 rfl) (ww 16 rfl) e0 (g := (mkF m 1 #[rv sx, rv sb, iv (0 : Int32), iv (0 : Int32), .val .null, .unset] [(.ref sx)])) rfl (by rw [hml]; rfl) rfl (hb hby own_d2_1) (by decide) (W := 0) (by show 2 * 0 + _ ≤ _; exact Nat.le_of_eq rfl) (by decide)
  refine ownGoW (T' := T1) (f' := (mkF m 4 #[rv sx, rv sb, iv (0 : Int32), iv (0 : Int32), .val .null, .unset] [])) (st1) ?_
  refine ow_iloadNW (q := 5) X1 hx (hb hby own_d2_4) rfl rfl ?_
  refine ow_ifNoW (q := 8) X1 hx (hb hby own_d2_5) rfl (Jvm.Free.XT.i0_ne_f (by decide)) ?_
  refine ow_aloadNW (q := 9) X1 hx (hb hby own_d2_8) rfl rfl rfl ?_
  obtain ⟨ca, T2, h2, k2, cb, kk2, X2, e2, E2, hS2, hk2, hZ2, hown2, A2, FC2, FV2, AV2, la2, lb2, CR2, LT2, sf2, st2⟩ := ldcCH (s := s) (vm0 := s.vm) X1 hx hZ hown (ww 77 rfl) wStr e1 (k0 := 0) ((State.WarmedH.refl s).since 0) (Nat.zero_le _) (own_EW hw) (List.mem_singleton.mpr rfl) hCH (vs := []) (z := 0) ⟨by decide, rfl⟩ (by decide) rfl (g := (mkF m 9 #[rv sx, rv sb, iv (0 : Int32), iv (0 : Int32), .val .null, .unset] [(.ref sx)])) rfl (hb hby own_d2_9) (n := 0) (by decide) (by decide) (by decide) (by decide)
  have ne2 := sf2 sx (CR2.safe HF0.lt hSf)
  have K2 : Keep h0 h2 [sx] := K0.ext E2
  have F3 : Exa Z h2 sx "java/lang/String" := HF0.ext E2
  have F4 : Fld Z h2 sx "java/lang/String" "value" "[B" .null := HF1.ext E2
  have F5 : Fld Z h2 sx "java/lang/String" "coder" "B" (.int (0 : Int32)) := HF2.ext E2
  have FA2 : ownAI Z h2 cb .byte 0 (fun _ => (0 : Int32)) := ownAI0 AV2
  refine ownGoW (T' := T2) (f' := (mkF m 11 #[rv sx, rv sb, iv (0 : Int32), iv (0 : Int32), .val .null, .unset] [(.ref ca), (.ref sx)])) (st2) ?_
  refine ownBaseW (k := h2.size) ⟨hS2.1, hS2.2.mono hk2⟩ ?_
  have hZ := hZ2
  have hown := hown2
  obtain ⟨T6, X6, e6, st6⟩ := getF X2 hx hZ hown (host := "") (Or.inl (ww 31 rfl)) Via.refl e2 FV2 (g := (mkF m 11 #[rv sx, rv sb, iv (0 : Int32), iv (0 : Int32), .val .null, .unset] [(.ref ca), (.ref sx)])) rfl rfl (hb hby own_d2_11)
  refine ownGoW (T' := T6) (f' := (mkF m 14 #[rv sx, rv sb, iv (0 : Int32), iv (0 : Int32), .val .null, .unset] [(.ref cb), (.ref sx)])) (st6) ?_
  obtain ⟨T7, h7, X7, e7, W7, st7⟩ := putF X6 hx hZ hown (host := "") (Or.inl (ww 31 rfl)) Via.refl e6 F4 F3 (Or.inr ⟨(ww 32 rfl), rfl, hnm⟩) (ww 5 rfl) (ty := (.array .byte)) (by decide) rfl rfl (g := (mkF m 14 #[rv sx, rv sb, iv (0 : Int32), iv (0 : Int32), .val .null, .unset] [(.ref cb), (.ref sx)])) rfl rfl (hb hby own_d2_14)
  have N7 := Fr.snoc X7 N0 G_sx
  have K7 : Keep h0 h7 [sx] := K2.wr W7 (Or.inl (List.mem_of_getElem? (i := 0) rfl))
  have F8 : Exa Z h7 sx "java/lang/String" := F3.wr W7
  have F9 : Fld Z h7 sx "java/lang/String" "value" "[B" (.ref cb) := F4.same W7
  have F10 : Fld Z h7 sx "java/lang/String" "coder" "B" (.int (0 : Int32)) := F5.other W7 (Or.inr (slot_ne (Or.inr (ww 30 rfl)) (Or.inr (ww 32 rfl)) (by decide) (t := .byte) (t' := (.array .byte)) (by decide) (by decide)))
  have F11 : Exa Z h7 ca "java/lang/String" := A2.wr W7
  have F12 : Fld Z h7 ca "java/lang/String" "coder" "B" (.int (0 : Int32)) := FC2.other W7 (Or.inl (Ne.symm ne2.1))
  have F13 : Fld Z h7 ca "java/lang/String" "value" "[B" (.ref cb) := FV2.other W7 (Or.inl (Ne.symm ne2.1))
  have F14 : ownAI Z h7 cb .byte 0 (fun _ => (0 : Int32)) := FA2.other W7 (Ne.symm ne2.2)
  refine ownGoW (T' := T7) (f' := (mkF m 17 #[rv sx, rv sb, iv (0 : Int32), iv (0 : Int32), .val .null, .unset] [])) (st7) ?_
  refine ow_aloadNW (q := 18) X7 hx (hb hby own_d2_17) rfl rfl rfl ?_
  refine ownGoW (T' := T7) (f' := (mkF m 20 #[rv sx, rv sb, iv (0 : Int32), iv (0 : Int32), .val .null, .unset] [(.ref ca), (.ref sx)])) (ldcAgain (s := s) (vm0 := T2.vm) X7 hx hZ hown (ww 77 rfl) LT2 (g := (mkF m 18 #[rv sx, rv sb, iv (0 : Int32), iv (0 : Int32), .val .null, .unset] [(.ref sx)])) rfl (hb hby own_d2_18)) ?_
  obtain ⟨T15, X15, e15, st15⟩ := getF X7 hx hZ hown (host := "") (Or.inl (ww 29 rfl)) Via.refl e7 F12 (g := (mkF m 20 #[rv sx, rv sb, iv (0 : Int32), iv (0 : Int32), .val .null, .unset] [(.ref ca), (.ref sx)])) rfl rfl (hb hby own_d2_20)
  refine ownGoW (T' := T15) (f' := (mkF m 23 #[rv sx, rv sb, iv (0 : Int32), iv (0 : Int32), .val .null, .unset] [(.int (0 : Int32)), (.ref sx)])) (st15) ?_
  obtain ⟨T16, h16, X16, e16, W16, st16⟩ := putFN X15 hx hZ hown (ww 29 rfl) Via.refl e15 F10 F8 (Or.inr ⟨(ww 30 rfl), rfl, hnm⟩) (ww 5 rfl) (ty := .byte) (v' := (.int (0 : Int32))) (by decide) rfl (by decide) (g := (mkF m 23 #[rv sx, rv sb, iv (0 : Int32), iv (0 : Int32), .val .null, .unset] [(.int (0 : Int32)), (.ref sx)])) rfl rfl (hb hby own_d2_23)
  have N16 := Fr.snoc X16 N7 G_sx
  have K16 : Keep h0 h16 [sx] := K7.wr W16 (Or.inl (List.mem_of_getElem? (i := 0) rfl))
  have F17 : Exa Z h16 sx "java/lang/String" := F8.wr W16
  have F18 : Fld Z h16 sx "java/lang/String" "value" "[B" (.ref cb) := F9.other W16 (Or.inr (slot_ne (Or.inr (ww 32 rfl)) (Or.inr (ww 30 rfl)) (by decide) (t := (.array .byte)) (t' := .byte) (by decide) (by decide)))
  have F19 : Fld Z h16 sx "java/lang/String" "coder" "B" (.int (0 : Int32)) := F10.same W16
  have F20 : Exa Z h16 ca "java/lang/String" := F11.wr W16
  have F21 : Fld Z h16 ca "java/lang/String" "coder" "B" (.int (0 : Int32)) := F12.other W16 (Or.inl (Ne.symm ne2.1))
  have F22 : Fld Z h16 ca "java/lang/String" "value" "[B" (.ref cb) := F13.other W16 (Or.inl (Ne.symm ne2.1))
  have F23 : ownAI Z h16 cb .byte 0 (fun _ => (0 : Int32)) := F14.other W16 (Ne.symm ne2.2)
  refine ownGoW (T' := T16) (f' := (mkF m 26 #[rv sx, rv sb, iv (0 : Int32), iv (0 : Int32), .val .null, .unset] [])) (st16) ?_
  refine ownRetVW X16 hx Bd.returns (hb hby own_d2_26) hlk (by decide) (by decide) ?_
  refine ⟨?_, (by rw [e16]; exact (Nat.le_trans (ownWrSz W7) (ownWrSz W16)))⟩
  rw [e16]
  exact ⟨cb, rfl, N16, K16, F19, F18, F23⟩
theorem own_d1_0 : decode jdk_42_method_3_code 0 = .ok (.aload_n 0, 1) := by decide +kernel
theorem own_d1_1 : decode jdk_42_method_3_code 1 = .ok (.aload_n 1, 1) := by decide +kernel
theorem own_d1_2 : decode jdk_42_method_3_code 2 = .ok (.iconst 0, 1) := by decide +kernel
theorem own_d1_3 : decode jdk_42_method_3_code 3 = .ok (.aload_n 1, 1) := by decide +kernel
theorem own_d1_4 : decode jdk_42_method_3_code 4 = .ok (.arraylength, 1) := by decide +kernel
theorem own_d1_5 : decode jdk_42_method_3_code 5 = .ok (.aconst_null, 1) := by decide +kernel
theorem own_d1_6 : decode jdk_42_method_3_code 6 = .ok (.invokespecial 27, 3) := by decide +kernel
theorem own_pd0 : parseMethodDescriptor "([CIILjava/lang/Void;)V" = some ⟨[(.array .char), .int, .int, (.object "java/lang/Void")], none⟩ := by decide +kernel
theorem own_d1_9 : decode jdk_42_method_3_code 9 = .ok (.return_, 1) := by decide +kernel
theorem own_ef1_str0 (m : MethodId) (sx : Addr) (sb : Addr) : entryFrame m #[(.ref sx), (.ref sb)] 2 = mkF m 0 #[rv sx, rv sb] [] := by first | (simp [entryFrame, mkF, argsToLocals, Value.category]; done) | rfl
def Q_str0 (Z : State) (sx : Addr) (sb : Addr) (gz : Nat → Int32) (h0 : Heap) (n0 : Nat) (v : Option Value) (h : Heap) (L : List Loc) : Prop := ∃ (t : Addr), v = none ∧ Fr n0 L ∧ Keep h0 h [sx] ∧ Fld Z h sx "java/lang/String" "coder" "B" (.int (0 : Int32)) ∧ Fld Z h sx "java/lang/String" "value" "[B" (.ref t) ∧ ownAI Z h t .byte 0 (fun _ => (0 : Int32))
set_option maxRecDepth 65536 in
set_option maxHeartbeats 40000000 in
theorem rm_str0 (l : Launch) (Z : State) (av0 : Array Value) (hw : ∀ d ∈ tables_1, d.before av0 Z = true) (ws : List Jvm.Cond) (sx : Addr) (sb : Addr) (gz : Nat → Int32) (h0 : Heap) (n0 : Nat) (Z0 : n0 ≤ h0.size) (HF0 : Exa Z h0 sx "java/lang/String") (HF1 : Fld Z h0 sx "java/lang/String" "value" "[B" .null) (HF2 : Fld Z h0 sx "java/lang/String" "coder" "B" (.int (0 : Int32))) (HF3 : ownAI Z h0 sb .char 0 gz) (G_sx : n0 ≤ sx) (hne : sb ≠ sx) :
    MetFree l (⟨"java/lang/String", "<init>", "([C)V"⟩ : MethodName) (head1 (Jvm.Cond.code (⟨"java/lang/String", "<init>", "([C)V"⟩ : MethodName) jdk_42_method_3_code 2 none :: ws) ({ frames := 2, cells := 2, slots := 4, locals := 29 } : Room)) (fun a U => a = #[(.ref sx), (.ref sb)] ∧ Z.Warmed39 U.vm ∧ U.heap = h0 ∧ CHv Z [("java/lang/String", 7)] U.vm h0 ∧ Safe Z [("java/lang/String", 7)] U.vm h0 sx) (fun _ _ _ _ _ => True) (fun _ U o U' => ∃ v L, o = .returned v ∧ (Q_str0 Z sx sb gz h0 n0) v U'.heap L ∧ ReturnedEndW U o U' L ({ frames := 2, cells := 2, slots := 4, locals := 29 } : Room).cells ({ frames := 2, cells := 2, slots := 4, locals := 29 } : Room).slots) := by
  refine MetFree.of_bodySF (plainFor_of_name own_pn_String) hisR ?_
  intro p e s m args below meth c s₁ Bd hml0 hP hK
  obtain ⟨rfl, hZ, hh, hCH, hSf⟩ := hP
  have hx := Bd.exec
  have hby := Bd.bytes
  have hml : c.maxLocals = 2 := hml0
  have hown : s.vm.findClass "java/lang/String" = some m.cls := findClass_of_methodNamed Bd.named
  have hnm := (name_of_methodNamed Bd.named Bd.method).1
  have hlk : meth.locks = false := BodyLoose.notSynchronized Bd
  have X0 : Stand p l e ({ frames := 2, cells := 2, slots := 4, locals := 29 } : Room) s m #[(.ref sx), (.ref sb)] below meth c s₁ [] 0 0 := Stand.of_body Bd
  have e0 : s₁.heap = h0 := by rw [← hh, Bd.state]; rfl
  have N0 := Fr.nil n0
  have K0 : Keep h0 h0 [sx] := Keep.refl _ _
  have ww : ∀ (k : Nat) {d : Jvm.Cond}, tables_1[k]? = some d → d.before av0 Z = true := fun k d h => hw d (List.mem_of_getElem? h)
  show ownEndsW p e below s (Q_str0 Z sx sb gz h0 n0) ({ frames := 2, cells := 2, slots := 4, locals := 29 } : Room).cells ({ frames := 2, cells := 2, slots := 4, locals := 29 } : Room).slots s₁ (entryFrame m #[(.ref sx), (.ref sb)] 2)
  refine ownCastW (own_ef1_str0 m sx sb) ?_
  refine ow_aloadNW (q := 1) X0 hx (hb hby own_d1_0) rfl rfl rfl ?_
  refine ow_aloadNW (q := 2) X0 hx (hb hby own_d1_1) rfl rfl rfl ?_
  refine ow_iconstW (q := 3) X0 hx (0 : Int32) (hb hby own_d1_2) rfl rfl ?_
  refine ow_aloadNW (q := 4) X0 hx (hb hby own_d1_3) rfl rfl rfl ?_
  refine ownGoW (T' := s₁) (f' := (mkF m 5 #[rv sx, rv sb] [(.int (0 : Int32)), (.int (0 : Int32)), (.ref sb), (.ref sx)])) (ownLenI HF3 X0 hx hZ e0 (z := (0 : Int32)) (by decide) (g := (mkF m 4 #[rv sx, rv sb] [(.ref sb), (.int (0 : Int32)), (.ref sb), (.ref sx)])) rfl rfl (hb hby own_d1_4)) ?_
  refine ow_aconstNullW (q := 6) X0 hx (hb hby own_d1_5) rfl ?_
  obtain ⟨_, _, ⟨T1, L1, k1, n1⟩, -, X1, hS1, gr1, ⟨Lc1, hQ1, l1, y1, z1⟩, st1⟩ := X0.specialBackS hx (y := (⟨"java/lang/String", "<init>", "([CIILjava/lang/Void;)V"⟩ : MethodName)) rfl hown (mvT hZ (ww 10 rfl)) (mvT hZ (ww 11 rfl)) (mvT hZ (ww 13 rfl)) (by decide) (backOfX (W := 0) (rm_emp4 l Z av0 hw [] sx sb h0 n0 (Nat.le_trans Z0 K0.1) HF0 HF1 HF2 G_sx) hZ (ww 13 rfl) (ww 6 rfl) (by decide) (by decide) (own_EW hw) hCH hSf HF0.lt) (g := (mkF m 6 #[rv sx, rv sb] [.null, (.int (0 : Int32)), (.int (0 : Int32)), (.ref sb), (.ref sx)])) rfl (by rw [hml]; rfl) (Steps.refl _) (a := sx) (argsL := [(.ref sb), (.int (0 : Int32)), (.int (0 : Int32)), .null]) (rest := []) (lenOf own_pd0 rfl) rfl (by show 2 * 0 + _ ≤ _; exact Nat.le_of_eq rfl) (hb hby own_d1_6) (fun _ _ => ⟨rfl, e0, (by decide : 0 + 2 ≤ _), (by decide : 0 + 4 ≤ _)⟩)
  dsimp only [Pt.U, Pt.locs, Pt.cells, Pt.slots] at X1 l1 y1 z1 st1 hQ1 hS1 gr1
  subst l1 y1 z1
  obtain ⟨t_1, rfl, N1q, Kq1, FP1_0, FP1_1, FP1_2⟩ := hQ1
  have N1 := Fr.app N0 N1q
  have K1 : Keep h0 T1.heap [sx] := K0.trans Kq1 (allS (Or.inl (List.mem_of_getElem? (i := 0) rfl)) all0)
  have F2 : Exa Z T1.heap sx "java/lang/String" := HF0.keep Kq1
  have F3 : ownAI Z T1.heap sb .char 0 gz := HF3.keep Kq1 (ninS hne nin0)
  refine ownRunW (T' := T1) (f' := (mkF m 9 #[rv sx, rv sb] [])) st1 ?_
  refine ownRebaseW hZ hown hS1 X1 ?_
  intro s X1 hZ hown
  refine ownRetVW X1 hx Bd.returns (hb hby own_d1_9) hlk (by decide) (by decide) ?_
  refine ⟨?_, Nat.le_refl _⟩
  exact ⟨t_1, rfl, N1, K1, FP1_0, FP1_1, FP1_2⟩
theorem own_d9_0 : decode jdk_42_method_152_code 0 = .ok (.getstatic 38, 3) := by decide +kernel
theorem own_d9_3 : decode jdk_42_method_152_code 3 = .ok (.ifCond .eq 10, 3) := by decide +kernel
theorem own_d9_6 : decode jdk_42_method_152_code 6 = .ok (.aload_n 0, 1) := by decide +kernel
theorem own_d9_7 : decode jdk_42_method_152_code 7 = .ok (.getfield 15, 3) := by decide +kernel
theorem own_d9_10 : decode jdk_42_method_152_code 10 = .ok (.goto 4, 3) := by decide +kernel
theorem own_d9_14 : decode jdk_42_method_152_code 14 = .ok (.ireturn, 1) := by decide +kernel
theorem own_ef9_coder (m : MethodId) (sx : Addr) : entryFrame m #[(.ref sx)] 1 = mkF m 0 #[rv sx] [] := by first | (simp [entryFrame, mkF, argsToLocals, Value.category]; done) | rfl
def Q_coder (Z : State) (sx : Addr) (zc : Int32) (h0 : Heap) (n0 : Nat) (v : Option Value) (h : Heap) (L : List Loc) : Prop := v = some (.int (0 : Int32)) ∧ Fr n0 L ∧ h = h0
set_option maxRecDepth 65536 in
set_option maxHeartbeats 40000000 in
theorem rm_coder (l : Launch) (Z : State) (av0 : Array Value) (hw : ∀ d ∈ tables_1, d.before av0 Z = true) (ws : List Jvm.Cond) (sx : Addr) (zc : Int32) (h0 : Heap) (n0 : Nat) (Z0 : n0 ≤ h0.size) (HF0 : Fld Z h0 sx "java/lang/String" "coder" "B" (.int (0 : Int32))) (HF1 : Sta Z h0 "java/lang/String" "COMPACT_STRINGS" "Z" (.int zc)) (hz : ¬ zc = (0 : Int32)) :
    MetFree l (⟨"java/lang/String", "coder", "()B"⟩ : MethodName) (head1 (Jvm.Cond.code (⟨"java/lang/String", "coder", "()B"⟩ : MethodName) jdk_42_method_152_code 1 (some .byte) :: ws) ({ frames := 0, cells := 0, slots := 0, locals := 0 } : Room)) (fun a U => a = #[(.ref sx)] ∧ Z.Warmed39 U.vm ∧ U.heap = h0) (fun _ _ _ _ _ => True) (fun _ U o U' => ∃ v L, o = .returned v ∧ (Q_coder Z sx zc h0 n0) v U'.heap L ∧ FrameEnd U o U' L ({ frames := 0, cells := 0, slots := 0, locals := 0 } : Room).cells ({ frames := 0, cells := 0, slots := 0, locals := 0 } : Room).slots) := by
  refine MetFree.of_bodySF (plainFor_of_name own_pn_String) hisR ?_
  intro p e s m args below meth c s₁ Bd hml0 hP hK
  obtain ⟨rfl, hZ, hh⟩ := hP
  have hx := Bd.exec
  have hby := Bd.bytes
  have hml : c.maxLocals = 1 := hml0
  have hown : s.vm.findClass "java/lang/String" = some m.cls := findClass_of_methodNamed Bd.named
  have hnm := (name_of_methodNamed Bd.named Bd.method).1
  have hlk : meth.locks = false := BodyLoose.notSynchronized Bd
  have X0 : Stand p l e ({ frames := 0, cells := 0, slots := 0, locals := 0 } : Room) s m #[(.ref sx)] below meth c s₁ [] 0 0 := Stand.of_body Bd
  have e0 : s₁.heap = h0 := by rw [← hh, Bd.state]; rfl
  have N0 := Fr.nil n0
  have K0 : Keep h0 h0 [] := Keep.refl _ _
  have ww : ∀ (k : Nat) {d : Jvm.Cond}, tables_1[k]? = some d → d.before av0 Z = true := fun k d h => hw d (List.mem_of_getElem? h)
  show ownEnds p e below s (Q_coder Z sx zc h0 n0) ({ frames := 0, cells := 0, slots := 0, locals := 0 } : Room).cells ({ frames := 0, cells := 0, slots := 0, locals := 0 } : Room).slots s₁ (entryFrame m #[(.ref sx)] 1)
  refine ownCast (own_ef9_coder m sx) ?_
  obtain ⟨T1, X1, e1, st1⟩ := getS2 X0 hx hZ hown (host := "") (Or.inl (ww 17 rfl)) Via.refl e0 HF1 (g := (mkF m 0 #[rv sx] [])) rfl (hb hby own_d9_0)
  refine ownGo (T' := T1) (f' := (mkF m 3 #[rv sx] [(.int zc)])) (st1) ?_
  refine ow_ifNo (q := 6) X1 hx (hb hby own_d9_3) rfl (Jvm.Free.XT.i0_eq_f hz) ?_
  refine ow_aloadN (q := 7) X1 hx (hb hby own_d9_6) rfl rfl rfl ?_
  obtain ⟨T2, X2, e2, st2⟩ := getF X1 hx hZ hown (host := "") (Or.inl (ww 29 rfl)) Via.refl e1 HF0 (g := (mkF m 7 #[rv sx] [(.ref sx)])) rfl rfl (hb hby own_d9_7)
  refine ownGo (T' := T2) (f' := (mkF m 10 #[rv sx] [(.int (0 : Int32))])) (st2) ?_
  refine ow_goto (q := 14) X2 hx (hb hby own_d9_10) (by decide) (by decide) ?_
  refine ownRetN X2 hx (r := (0 : Int32)) (Or.inr (Or.inl rfl)) Bd.returns (hb hby own_d9_14) hlk (by decide) (by decide) (by decide) ?_
  rw [e2]
  exact ⟨rfl, N0, rfl⟩
theorem own_d11_0 : decode jdk_42_method_154_code 0 = .ok (.getstatic 38, 3) := by decide +kernel
theorem own_d11_3 : decode jdk_42_method_154_code 3 = .ok (.ifCond .eq 14, 3) := by decide +kernel
theorem own_d11_6 : decode jdk_42_method_154_code 6 = .ok (.aload_n 0, 1) := by decide +kernel
theorem own_d11_7 : decode jdk_42_method_154_code 7 = .ok (.getfield 15, 3) := by decide +kernel
theorem own_d11_10 : decode jdk_42_method_154_code 10 = .ok (.ifCond .ne 7, 3) := by decide +kernel
theorem own_d11_13 : decode jdk_42_method_154_code 13 = .ok (.iconst 1, 1) := by decide +kernel
theorem own_d11_14 : decode jdk_42_method_154_code 14 = .ok (.goto 4, 3) := by decide +kernel
theorem own_d11_18 : decode jdk_42_method_154_code 18 = .ok (.ireturn, 1) := by decide +kernel
theorem own_ef11_isLatin1 (m : MethodId) (sx : Addr) : entryFrame m #[(.ref sx)] 1 = mkF m 0 #[rv sx] [] := by first | (simp [entryFrame, mkF, argsToLocals, Value.category]; done) | rfl
def Q_isLatin1 (Z : State) (sx : Addr) (zc : Int32) (h0 : Heap) (n0 : Nat) (v : Option Value) (h : Heap) (L : List Loc) : Prop := v = some (.int (1 : Int32)) ∧ Fr n0 L ∧ h = h0
set_option maxRecDepth 65536 in
set_option maxHeartbeats 40000000 in
theorem rm_isLatin1 (l : Launch) (Z : State) (av0 : Array Value) (hw : ∀ d ∈ tables_1, d.before av0 Z = true) (ws : List Jvm.Cond) (sx : Addr) (zc : Int32) (h0 : Heap) (n0 : Nat) (Z0 : n0 ≤ h0.size) (HF0 : Fld Z h0 sx "java/lang/String" "coder" "B" (.int (0 : Int32))) (HF1 : Sta Z h0 "java/lang/String" "COMPACT_STRINGS" "Z" (.int zc)) (hz : ¬ zc = (0 : Int32)) :
    MetFree l (⟨"java/lang/String", "isLatin1", "()Z"⟩ : MethodName) (head1 (Jvm.Cond.code (⟨"java/lang/String", "isLatin1", "()Z"⟩ : MethodName) jdk_42_method_154_code 1 (some .boolean) :: ws) ({ frames := 0, cells := 0, slots := 0, locals := 0 } : Room)) (fun a U => a = #[(.ref sx)] ∧ Z.Warmed39 U.vm ∧ U.heap = h0) (fun _ _ _ _ _ => True) (fun _ U o U' => ∃ v L, o = .returned v ∧ (Q_isLatin1 Z sx zc h0 n0) v U'.heap L ∧ FrameEnd U o U' L ({ frames := 0, cells := 0, slots := 0, locals := 0 } : Room).cells ({ frames := 0, cells := 0, slots := 0, locals := 0 } : Room).slots) := by
  refine MetFree.of_bodySF (plainFor_of_name own_pn_String) hisR ?_
  intro p e s m args below meth c s₁ Bd hml0 hP hK
  obtain ⟨rfl, hZ, hh⟩ := hP
  have hx := Bd.exec
  have hby := Bd.bytes
  have hml : c.maxLocals = 1 := hml0
  have hown : s.vm.findClass "java/lang/String" = some m.cls := findClass_of_methodNamed Bd.named
  have hnm := (name_of_methodNamed Bd.named Bd.method).1
  have hlk : meth.locks = false := BodyLoose.notSynchronized Bd
  have X0 : Stand p l e ({ frames := 0, cells := 0, slots := 0, locals := 0 } : Room) s m #[(.ref sx)] below meth c s₁ [] 0 0 := Stand.of_body Bd
  have e0 : s₁.heap = h0 := by rw [← hh, Bd.state]; rfl
  have N0 := Fr.nil n0
  have K0 : Keep h0 h0 [] := Keep.refl _ _
  have ww : ∀ (k : Nat) {d : Jvm.Cond}, tables_1[k]? = some d → d.before av0 Z = true := fun k d h => hw d (List.mem_of_getElem? h)
  show ownEnds p e below s (Q_isLatin1 Z sx zc h0 n0) ({ frames := 0, cells := 0, slots := 0, locals := 0 } : Room).cells ({ frames := 0, cells := 0, slots := 0, locals := 0 } : Room).slots s₁ (entryFrame m #[(.ref sx)] 1)
  refine ownCast (own_ef11_isLatin1 m sx) ?_
  obtain ⟨T1, X1, e1, st1⟩ := getS2 X0 hx hZ hown (host := "") (Or.inl (ww 17 rfl)) Via.refl e0 HF1 (g := (mkF m 0 #[rv sx] [])) rfl (hb hby own_d11_0)
  refine ownGo (T' := T1) (f' := (mkF m 3 #[rv sx] [(.int zc)])) (st1) ?_
  refine ow_ifNo (q := 6) X1 hx (hb hby own_d11_3) rfl (Jvm.Free.XT.i0_eq_f hz) ?_
  refine ow_aloadN (q := 7) X1 hx (hb hby own_d11_6) rfl rfl rfl ?_
  obtain ⟨T2, X2, e2, st2⟩ := getF X1 hx hZ hown (host := "") (Or.inl (ww 29 rfl)) Via.refl e1 HF0 (g := (mkF m 7 #[rv sx] [(.ref sx)])) rfl rfl (hb hby own_d11_7)
  refine ownGo (T' := T2) (f' := (mkF m 10 #[rv sx] [(.int (0 : Int32))])) (st2) ?_
  refine ow_ifNo (q := 13) X2 hx (hb hby own_d11_10) rfl (Jvm.Free.XT.i0_ne_f (by decide)) ?_
  refine ow_iconst (q := 14) X2 hx (1 : Int32) (hb hby own_d11_13) rfl rfl ?_
  refine ow_goto (q := 18) X2 hx (hb hby own_d11_14) (by decide) (by decide) ?_
  refine ownRetN X2 hx (r := (1 : Int32)) (Or.inl rfl) Bd.returns (hb hby own_d11_18) hlk (by decide) (by decide) (by decide) ?_
  rw [e2]
  exact ⟨rfl, N0, rfl⟩
theorem own_pn_Preconditions : plainName "jdk/internal/util/Preconditions" = true := by first | (simp [plainName, overriddenIn]; done) | decide +kernel
theorem own_d14_0 : decode jdk_41_method_11_code 0 = .ok (.iload_n 0, 1) := by decide +kernel
theorem own_d14_1 : decode jdk_41_method_11_code 1 = .ok (.ifCond .lt 8, 3) := by decide +kernel
theorem own_d14_4 : decode jdk_41_method_11_code 4 = .ok (.iload_n 0, 1) := by decide +kernel
theorem own_d14_5 : decode jdk_41_method_11_code 5 = .ok (.iload_n 1, 1) := by decide +kernel
theorem own_d14_6 : decode jdk_41_method_11_code 6 = .ok (.if_icmp .lt 10, 3) := by decide +kernel
theorem own_d14_16 : decode jdk_41_method_11_code 16 = .ok (.iload_n 0, 1) := by decide +kernel
theorem own_d14_17 : decode jdk_41_method_11_code 17 = .ok (.ireturn, 1) := by decide +kernel
theorem own_ef14_pcheck (m : MethodId) (p0 : Int32) (p1 : Int32) (fm : Value) (hr_fm : fm.isRef = true) : entryFrame m #[(.int p0), (.int p1), fm] 3 = mkF m 0 #[iv p0, iv p1, .val fm] [] := by cases fm <;> first | (simp [Value.isRef] at hr_fm; done) | (simp [entryFrame, mkF, argsToLocals, Value.category]; done) | rfl
def Q_pcheck (Z : State) (p0 : Int32) (p1 : Int32) (fm : Value) (h0 : Heap) (n0 : Nat) (v : Option Value) (h : Heap) (L : List Loc) : Prop := v = some (.int p0) ∧ Fr n0 L ∧ h = h0
set_option maxRecDepth 65536 in
set_option maxHeartbeats 40000000 in
theorem rm_pcheck (l : Launch) (Z : State) (av0 : Array Value) (hw : ∀ d ∈ tables_1, d.before av0 Z = true) (ws : List Jvm.Cond) (p0 : Int32) (p1 : Int32) (fm : Value) (h0 : Heap) (n0 : Nat) (Z0 : n0 ≤ h0.size) (hlo : ¬ p0 < (0 : Int32)) (hhi : p0 < p1) (hr_fm : fm.isRef = true) :
    MetFree l (⟨"jdk/internal/util/Preconditions", "checkIndex", "(IILjava/util/function/BiFunction;)I"⟩ : MethodName) (head1 (Jvm.Cond.code (⟨"jdk/internal/util/Preconditions", "checkIndex", "(IILjava/util/function/BiFunction;)I"⟩ : MethodName) jdk_41_method_11_code 3 (some .int) :: ws) ({ frames := 0, cells := 0, slots := 0, locals := 0 } : Room)) (fun a U => a = #[(.int p0), (.int p1), fm] ∧ Z.Warmed39 U.vm ∧ U.heap = h0) (fun _ _ _ _ _ => True) (fun _ U o U' => ∃ v L, o = .returned v ∧ (Q_pcheck Z p0 p1 fm h0 n0) v U'.heap L ∧ FrameEnd U o U' L ({ frames := 0, cells := 0, slots := 0, locals := 0 } : Room).cells ({ frames := 0, cells := 0, slots := 0, locals := 0 } : Room).slots) := by
  refine MetFree.of_bodySF (plainFor_of_name own_pn_Preconditions) hisR ?_
  intro p e s m args below meth c s₁ Bd hml0 hP hK
  obtain ⟨rfl, hZ, hh⟩ := hP
  have hx := Bd.exec
  have hby := Bd.bytes
  have hml : c.maxLocals = 3 := hml0
  have hown : s.vm.findClass "jdk/internal/util/Preconditions" = some m.cls := findClass_of_methodNamed Bd.named
  have hnm := (name_of_methodNamed Bd.named Bd.method).1
  have hlk : meth.locks = false := BodyLoose.notSynchronized Bd
  have X0 : Stand p l e ({ frames := 0, cells := 0, slots := 0, locals := 0 } : Room) s m #[(.int p0), (.int p1), fm] below meth c s₁ [] 0 0 := Stand.of_body Bd
  have e0 : s₁.heap = h0 := by rw [← hh, Bd.state]; rfl
  have N0 := Fr.nil n0
  have K0 : Keep h0 h0 [] := Keep.refl _ _
  have ww : ∀ (k : Nat) {d : Jvm.Cond}, tables_1[k]? = some d → d.before av0 Z = true := fun k d h => hw d (List.mem_of_getElem? h)
  show ownEnds p e below s (Q_pcheck Z p0 p1 fm h0 n0) ({ frames := 0, cells := 0, slots := 0, locals := 0 } : Room).cells ({ frames := 0, cells := 0, slots := 0, locals := 0 } : Room).slots s₁ (entryFrame m #[(.int p0), (.int p1), fm] 3)
  refine ownCast (own_ef14_pcheck m p0 p1 fm hr_fm) ?_
  refine ow_iloadN (q := 1) X0 hx (hb hby own_d14_0) rfl rfl ?_
  refine ow_ifNo (q := 4) X0 hx (hb hby own_d14_1) rfl (Jvm.Free.XT.i0_lt_f hlo) ?_
  refine ow_iloadN (q := 5) X0 hx (hb hby own_d14_4) rfl rfl ?_
  refine ow_iloadN (q := 6) X0 hx (hb hby own_d14_5) rfl rfl ?_
  refine ow_icmpYes (q := 16) X0 hx (hb hby own_d14_6) (Jvm.Free.XT.ii_lt_t hhi) (by decide) (by decide) ?_
  refine ow_iloadN (q := 17) X0 hx (hb hby own_d14_16) rfl rfl ?_
  refine ownRetI X0 hx Bd.returns (hb hby own_d14_17) hlk (by decide) (by decide) ?_
  rw [e0]
  exact ⟨rfl, N0, rfl⟩
theorem own_d13_0 : decode jdk_42_method_155_code 0 = .ok (.iload_n 0, 1) := by decide +kernel
theorem own_d13_1 : decode jdk_42_method_155_code 1 = .ok (.iload_n 1, 1) := by decide +kernel
theorem own_d13_2 : decode jdk_42_method_155_code 2 = .ok (.getstatic 1053, 3) := by decide +kernel
theorem own_d13_5 : decode jdk_42_method_155_code 5 = .ok (.invokestatic 1059, 3) := by decide +kernel
theorem own_pd1 : parseMethodDescriptor "(IILjava/util/function/BiFunction;)I" = some ⟨[.int, .int, (.object "java/util/function/BiFunction")], some .int⟩ := by decide +kernel
theorem own_d13_8 : decode jdk_42_method_155_code 8 = .ok (.pop, 1) := by decide +kernel
theorem own_d13_9 : decode jdk_42_method_155_code 9 = .ok (.return_, 1) := by decide +kernel
theorem own_ef13_scheck (m : MethodId) (p0 : Int32) (p1 : Int32) : entryFrame m #[(.int p0), (.int p1)] 2 = mkF m 0 #[iv p0, iv p1] [] := by first | (simp [entryFrame, mkF, argsToLocals, Value.category]; done) | rfl
def Q_scheck (Z : State) (p0 : Int32) (p1 : Int32) (fm : Value) (h0 : Heap) (n0 : Nat) (v : Option Value) (h : Heap) (L : List Loc) : Prop := v = none ∧ Fr n0 L ∧ h = h0
set_option maxRecDepth 65536 in
set_option maxHeartbeats 40000000 in
theorem rm_scheck (l : Launch) (Z : State) (av0 : Array Value) (hw : ∀ d ∈ tables_1, d.before av0 Z = true) (ws : List Jvm.Cond) (p0 : Int32) (p1 : Int32) (fm : Value) (h0 : Heap) (n0 : Nat) (Z0 : n0 ≤ h0.size) (HF0 : Sta Z h0 "jdk/internal/util/Preconditions" "SIOOBE_FORMATTER" "Ljava/util/function/BiFunction;" fm) (hlo : ¬ p0 < (0 : Int32)) (hhi : p0 < p1) (hr_fm : fm.isRef = true) :
    MetFree l (⟨"java/lang/String", "checkIndex", "(II)V"⟩ : MethodName) (head1 (Jvm.Cond.code (⟨"java/lang/String", "checkIndex", "(II)V"⟩ : MethodName) jdk_42_method_155_code 2 none :: ws) ({ frames := 1, cells := 0, slots := 0, locals := 14 } : Room)) (fun a U => a = #[(.int p0), (.int p1)] ∧ Z.Warmed39 U.vm ∧ U.heap = h0) (fun _ _ _ _ _ => True) (fun _ U o U' => ∃ v L, o = .returned v ∧ (Q_scheck Z p0 p1 fm h0 n0) v U'.heap L ∧ FrameEnd U o U' L ({ frames := 1, cells := 0, slots := 0, locals := 14 } : Room).cells ({ frames := 1, cells := 0, slots := 0, locals := 14 } : Room).slots) := by
  refine MetFree.of_bodySF (plainFor_of_name own_pn_String) hisR ?_
  intro p e s m args below meth c s₁ Bd hml0 hP hK
  obtain ⟨rfl, hZ, hh⟩ := hP
  have hx := Bd.exec
  have hby := Bd.bytes
  have hml : c.maxLocals = 2 := hml0
  have hown : s.vm.findClass "java/lang/String" = some m.cls := findClass_of_methodNamed Bd.named
  have hnm := (name_of_methodNamed Bd.named Bd.method).1
  have hlk : meth.locks = false := BodyLoose.notSynchronized Bd
  have X0 : Stand p l e ({ frames := 1, cells := 0, slots := 0, locals := 14 } : Room) s m #[(.int p0), (.int p1)] below meth c s₁ [] 0 0 := Stand.of_body Bd
  have e0 : s₁.heap = h0 := by rw [← hh, Bd.state]; rfl
  have N0 := Fr.nil n0
  have K0 : Keep h0 h0 [] := Keep.refl _ _
  have ww : ∀ (k : Nat) {d : Jvm.Cond}, tables_1[k]? = some d → d.before av0 Z = true := fun k d h => hw d (List.mem_of_getElem? h)
  show ownEnds p e below s (Q_scheck Z p0 p1 fm h0 n0) ({ frames := 1, cells := 0, slots := 0, locals := 14 } : Room).cells ({ frames := 1, cells := 0, slots := 0, locals := 14 } : Room).slots s₁ (entryFrame m #[(.int p0), (.int p1)] 2)
  refine ownCast (own_ef13_scheck m p0 p1) ?_
  refine ow_iloadN (q := 1) X0 hx (hb hby own_d13_0) rfl rfl ?_
  refine ow_iloadN (q := 2) X0 hx (hb hby own_d13_1) rfl rfl ?_
  obtain ⟨T1, X1, e1, st1⟩ := getS2 X0 hx hZ hown (host := "") (Or.inl (ww 67 rfl)) Via.refl e0 HF0 (g := (mkF m 2 #[iv p0, iv p1] [(.int p1), (.int p0)])) rfl (hb hby own_d13_2)
  refine ownGo (T' := T1) (f' := (mkF m 5 #[iv p0, iv p1] [fm, (.int p1), (.int p0)])) (st1) ?_
  obtain ⟨_, _, ⟨T2, L2, k2, n2⟩, -, X2, ⟨Lc2, hQ2, l2, y2, z2⟩, st2⟩ := Jvm.LawKit.callS X1 hx (y := (⟨"jdk/internal/util/Preconditions", "checkIndex", "(IILjava/util/function/BiFunction;)I"⟩ : MethodName)) hown (mvT hZ (ww 69 rfl)) (mvT hZ (ww 70 rfl)) (mvT hZ (ww 68 rfl)) (mvT hZ (ww 71 rfl)) (by decide) (backOf (W := 0) (rm_pcheck l Z av0 hw [] p0 p1 fm h0 n0 (Nat.le_trans Z0 K0.1) hlo hhi hr_fm) hZ (ww 71 rfl) (ww 68 rfl) (by decide) (by decide)) (g := (mkF m 5 #[iv p0, iv p1] [fm, (.int p1), (.int p0)])) rfl (by rw [hml]; rfl) (argsL := [(.int p0), (.int p1), fm]) (rest := []) (lenOf own_pd1 rfl) rfl (by show 2 * 0 + _ ≤ _; exact Nat.le_of_eq rfl) (hb hby own_d13_5) (fun _ _ => ⟨rfl, e1, (by decide : 0 + 0 ≤ _), (by decide : 0 + 0 ≤ _)⟩)
  dsimp only [Pt.U, Pt.locs, Pt.cells, Pt.slots] at X2 l2 y2 z2 st2 hQ2
  subst l2 y2 z2
  obtain ⟨rfl, N2q, e2⟩ := hQ2
  have N2 := Fr.app N0 N2q
  refine ownGo (T' := T2) (f' := (mkF m 8 #[iv p0, iv p1] [(.int p0)])) (st2) ?_
  refine ow_pop (q := 9) X2 hx (hb hby own_d13_8) rfl rfl ?_
  refine ownRetV X2 hx Bd.returns (hb hby own_d13_9) hlk (by decide) (by decide) ?_
  rw [e2]
  exact ⟨rfl, N2, rfl⟩
theorem own_d8_0 : decode jdk_42_method_54_code 0 = .ok (.aload_n 0, 1) := by decide +kernel
theorem own_d8_1 : decode jdk_42_method_54_code 1 = .ok (.getfield 9, 3) := by decide +kernel
theorem own_d8_4 : decode jdk_42_method_54_code 4 = .ok (.arraylength, 1) := by decide +kernel
theorem own_d8_5 : decode jdk_42_method_54_code 5 = .ok (.aload_n 0, 1) := by decide +kernel
theorem own_d8_6 : decode jdk_42_method_54_code 6 = .ok (.invokevirtual 335, 3) := by decide +kernel
theorem own_pd2 : parseMethodDescriptor "()B" = some ⟨[], some .byte⟩ := by decide +kernel
theorem own_d8_9 : decode jdk_42_method_54_code 9 = .ok (.ishr, 1) := by decide +kernel
theorem own_d8_10 : decode jdk_42_method_54_code 10 = .ok (.ireturn, 1) := by decide +kernel
theorem own_ef8_length0 (m : MethodId) (sx : Addr) : entryFrame m #[(.ref sx)] 1 = mkF m 0 #[rv sx] [] := by first | (simp [entryFrame, mkF, argsToLocals, Value.category]; done) | rfl
def Q_length0 (Z : State) (sx : Addr) (t : Addr) (gb : Nat → Int32) (zc : Int32) (h0 : Heap) (n0 : Nat) (v : Option Value) (h : Heap) (L : List Loc) : Prop := v = some (.int (0 : Int32)) ∧ Fr n0 L ∧ h = h0
set_option maxRecDepth 65536 in
set_option maxHeartbeats 40000000 in
theorem rm_length0 (l : Launch) (Z : State) (av0 : Array Value) (hw : ∀ d ∈ tables_1, d.before av0 Z = true) (ws : List Jvm.Cond) (sx : Addr) (t : Addr) (gb : Nat → Int32) (zc : Int32) (h0 : Heap) (n0 : Nat) (Z0 : n0 ≤ h0.size) (HF0 : Exa Z h0 sx "java/lang/String") (HF1 : Fld Z h0 sx "java/lang/String" "value" "[B" (.ref t)) (HF2 : Fld Z h0 sx "java/lang/String" "coder" "B" (.int (0 : Int32))) (HF3 : ownAI Z h0 t .byte 0 gb) (HF4 : Sta Z h0 "java/lang/String" "COMPACT_STRINGS" "Z" (.int zc)) (hz : ¬ zc = (0 : Int32)) :
    MetFree l (⟨"java/lang/String", "length", "()I"⟩ : MethodName) (head1 (Jvm.Cond.code (⟨"java/lang/String", "length", "()I"⟩ : MethodName) jdk_42_method_54_code 1 (some .int) :: ws) ({ frames := 1, cells := 0, slots := 0, locals := 13 } : Room)) (fun a U => a = #[(.ref sx)] ∧ Z.Warmed39 U.vm ∧ U.heap = h0) (fun _ _ _ _ _ => True) (fun _ U o U' => ∃ v L, o = .returned v ∧ (Q_length0 Z sx t gb zc h0 n0) v U'.heap L ∧ FrameEnd U o U' L ({ frames := 1, cells := 0, slots := 0, locals := 13 } : Room).cells ({ frames := 1, cells := 0, slots := 0, locals := 13 } : Room).slots) := by
  refine MetFree.of_bodySF (plainFor_of_name own_pn_String) hisR ?_
  intro p e s m args below meth c s₁ Bd hml0 hP hK
  obtain ⟨rfl, hZ, hh⟩ := hP
  have hx := Bd.exec
  have hby := Bd.bytes
  have hml : c.maxLocals = 1 := hml0
  have hown : s.vm.findClass "java/lang/String" = some m.cls := findClass_of_methodNamed Bd.named
  have hnm := (name_of_methodNamed Bd.named Bd.method).1
  have hlk : meth.locks = false := BodyLoose.notSynchronized Bd
  have X0 : Stand p l e ({ frames := 1, cells := 0, slots := 0, locals := 13 } : Room) s m #[(.ref sx)] below meth c s₁ [] 0 0 := Stand.of_body Bd
  have e0 : s₁.heap = h0 := by rw [← hh, Bd.state]; rfl
  have N0 := Fr.nil n0
  have K0 : Keep h0 h0 [] := Keep.refl _ _
  have ww : ∀ (k : Nat) {d : Jvm.Cond}, tables_1[k]? = some d → d.before av0 Z = true := fun k d h => hw d (List.mem_of_getElem? h)
  show ownEnds p e below s (Q_length0 Z sx t gb zc h0 n0) ({ frames := 1, cells := 0, slots := 0, locals := 13 } : Room).cells ({ frames := 1, cells := 0, slots := 0, locals := 13 } : Room).slots s₁ (entryFrame m #[(.ref sx)] 1)
  refine ownCast (own_ef8_length0 m sx) ?_
  refine ow_aloadN (q := 1) X0 hx (hb hby own_d8_0) rfl rfl rfl ?_
  obtain ⟨T1, X1, e1, st1⟩ := getF X0 hx hZ hown (host := "") (Or.inl (ww 31 rfl)) Via.refl e0 HF1 (g := (mkF m 1 #[rv sx] [(.ref sx)])) rfl rfl (hb hby own_d8_1)
  refine ownGo (T' := T1) (f' := (mkF m 4 #[rv sx] [(.ref t)])) (st1) ?_
  refine ownGo (T' := T1) (f' := (mkF m 5 #[rv sx] [(.int (0 : Int32))])) (ownLenI HF3 X1 hx hZ e1 (z := (0 : Int32)) (by decide) (g := (mkF m 4 #[rv sx] [(.ref t)])) rfl rfl (hb hby own_d8_4)) ?_
  refine ow_aloadN (q := 6) X1 hx (hb hby own_d8_5) rfl rfl rfl ?_
  obtain ⟨cq2, kq2, q2a, q2b, q2c⟩ := isOf hZ e1 HF0
  obtain ⟨_, _, ⟨T2, L2, k2, n2⟩, -, X2, ⟨Lc2, hQ2, l2, y2, z2⟩, st2⟩ := X1.virtualBack hx (y := (⟨"java/lang/String", "coder", "()B"⟩ : MethodName)) (z := (⟨"java/lang/String", "coder", "()B"⟩ : MethodName)) hown (mvT hZ (ww 45 rfl)) (mvT hZ (ww 46 rfl)) (notFace_of_selects (args := #[]) (mvT hZ (ww 48 rfl))) (mvT hZ (ww 48 rfl)) (mvT hZ (ww 47 rfl)) (by decide) (backOf (W := 1) (rm_coder l Z av0 hw [] sx zc h0 n0 (Nat.le_trans Z0 K0.1) HF2 HF4 hz) hZ (ww 49 rfl) (ww 6 rfl) (by decide) (by decide)) q2a q2c (g := (mkF m 6 #[rv sx] [(.ref sx), (.int (0 : Int32))])) rfl (by rw [hml]; rfl) (Steps.refl _) (argsL := []) (rest := [(.int (0 : Int32))]) (lenOf own_pd2 rfl) rfl (by show 2 * 0 + _ ≤ _; exact Nat.le_of_eq rfl) (hb hby own_d8_6) (fun _ _ => ⟨rfl, e1, (by decide : 0 + 0 ≤ _), (by decide : 0 + 0 ≤ _)⟩)
  dsimp only [Pt.U, Pt.locs, Pt.cells, Pt.slots] at X2 l2 y2 z2 st2 hQ2
  subst l2 y2 z2
  obtain ⟨rfl, N2q, e2⟩ := hQ2
  have N2 := Fr.app N0 N2q
  refine ownRun (T' := T2) (f' := (mkF m 9 #[rv sx] [(.int (0 : Int32)), (.int (0 : Int32))])) st2 ?_
  refine ow_ishr (q := 10) X2 hx (0 : Int32) (hb hby own_d8_9) rfl (by decide) ?_
  refine ownRetI X2 hx Bd.returns (hb hby own_d8_10) hlk (by decide) (by decide) ?_
  rw [e2]
  exact ⟨rfl, N2, rfl⟩
theorem own_pn_AsciiSet : plainName "com/example/vellum4/vellum4/AsciiSet" = true := by first | (simp [plainName, overriddenIn]; done) | decide +kernel
theorem own_d7_0 : decode prog_1_method_1_code 0 = .ok (.aload_n 0, 1) := by decide +kernel
theorem own_d7_1 : decode prog_1_method_1_code 1 = .ok (.invokespecial 1, 3) := by decide +kernel
theorem own_d7_4 : decode prog_1_method_1_code 4 = .ok (.aload_n 0, 1) := by decide +kernel
theorem own_d7_5 : decode prog_1_method_1_code 5 = .ok (.sipush 128, 3) := by decide +kernel
theorem own_d7_8 : decode prog_1_method_1_code 8 = .ok (.newarray .boolean, 2) := by decide +kernel
theorem own_d7_10 : decode prog_1_method_1_code 10 = .ok (.putfield 7, 3) := by decide +kernel
theorem own_d7_13 : decode prog_1_method_1_code 13 = .ok (.iconst 0, 1) := by decide +kernel
theorem own_d7_14 : decode prog_1_method_1_code 14 = .ok (.istore_n 2, 1) := by decide +kernel
theorem own_d7_15 : decode prog_1_method_1_code 15 = .ok (.iload_n 2, 1) := by decide +kernel
theorem own_d7_16 : decode prog_1_method_1_code 16 = .ok (.aload_n 1, 1) := by decide +kernel
theorem own_d7_17 : decode prog_1_method_1_code 17 = .ok (.invokevirtual 13, 3) := by decide +kernel
theorem own_pd3 : parseMethodDescriptor "()I" = some ⟨[], some .int⟩ := by decide +kernel
theorem own_d7_20 : decode prog_1_method_1_code 20 = .ok (.if_icmp .ge 20, 3) := by decide +kernel
theorem own_d7_40 : decode prog_1_method_1_code 40 = .ok (.return_, 1) := by decide +kernel
theorem own_ef7_set0 (m : MethodId) (ao : Addr) (sx : Addr) : entryFrame m #[(.ref ao), (.ref sx)] 3 = mkF m 0 #[rv ao, rv sx, .unset] [] := by first | (simp [entryFrame, mkF, argsToLocals, Value.category]; done) | rfl
def Q_set0 (Z : State) (ao : Addr) (sx : Addr) (t : Addr) (gb : Nat → Int32) (zc : Int32) (fm : Value) (h0 : Heap) (n0 : Nat) (v : Option Value) (h : Heap) (L : List Loc) : Prop := ∃ (mb : Addr), v = none ∧ Fr n0 L ∧ Keep h0 h [ao] ∧ h0.size ≤ mb ∧ Fld Z h ao "com/example/vellum4/vellum4/AsciiSet" "members" "[Z" (.ref mb) ∧ ownAI Z h mb .boolean 128 (own_mem0 gb)
set_option maxRecDepth 65536 in
set_option maxHeartbeats 40000000 in
theorem rm_set0 (l : Launch) (Z : State) (av0 : Array Value) (hw : ∀ d ∈ tables_1, d.before av0 Z = true) (ws : List Jvm.Cond) (ao : Addr) (sx : Addr) (t : Addr) (gb : Nat → Int32) (zc : Int32) (fm : Value) (h0 : Heap) (n0 : Nat) (Z0 : n0 ≤ h0.size) (HF0 : Exa Z h0 ao "com/example/vellum4/vellum4/AsciiSet") (HF1 : Fld Z h0 ao "com/example/vellum4/vellum4/AsciiSet" "members" "[Z" .null) (HF2 : Exa Z h0 sx "java/lang/String") (HF3 : Fld Z h0 sx "java/lang/String" "value" "[B" (.ref t)) (HF4 : Fld Z h0 sx "java/lang/String" "coder" "B" (.int (0 : Int32))) (HF5 : ownAI Z h0 t .byte 0 gb) (HF6 : Sta Z h0 "java/lang/String" "COMPACT_STRINGS" "Z" (.int zc)) (HF7 : Sta Z h0 "jdk/internal/util/Preconditions" "SIOOBE_FORMATTER" "Ljava/util/function/BiFunction;" fm) (G_ao : n0 ≤ ao) (hz : ¬ zc = (0 : Int32)) (hr_fm : fm.isRef = true) (hok : ∀ k, k < 0 → own_asc (gb k)) (ne1 : sx ≠ ao) (ne2 : t ≠ ao) :
    MetFree l (⟨"com/example/vellum4/vellum4/AsciiSet", "<init>", "(Ljava/lang/String;)V"⟩ : MethodName) (head1 (Jvm.Cond.code (⟨"com/example/vellum4/vellum4/AsciiSet", "<init>", "(Ljava/lang/String;)V"⟩ : MethodName) prog_1_method_1_code 3 none :: ws) ({ frames := 2, cells := 1, slots := 128, locals := 26 } : Room)) (fun a U => a = #[(.ref ao), (.ref sx)] ∧ Z.Warmed39 U.vm ∧ U.heap = h0) (fun _ _ _ _ _ => True) (fun _ U o U' => ∃ v L, o = .returned v ∧ (Q_set0 Z ao sx t gb zc fm h0 n0) v U'.heap L ∧ FrameEnd U o U' L ({ frames := 2, cells := 1, slots := 128, locals := 26 } : Room).cells ({ frames := 2, cells := 1, slots := 128, locals := 26 } : Room).slots) := by
  refine MetFree.of_bodySF (plainFor_of_name own_pn_AsciiSet) hisR ?_
  intro p e s m args below meth c s₁ Bd hml0 hP hK
  obtain ⟨rfl, hZ, hh⟩ := hP
  have hx := Bd.exec
  have hby := Bd.bytes
  have hml : c.maxLocals = 3 := hml0
  have hown : s.vm.findClass "com/example/vellum4/vellum4/AsciiSet" = some m.cls := findClass_of_methodNamed Bd.named
  have hnm := (name_of_methodNamed Bd.named Bd.method).1
  have hlk : meth.locks = false := BodyLoose.notSynchronized Bd
  have X0 : Stand p l e ({ frames := 2, cells := 1, slots := 128, locals := 26 } : Room) s m #[(.ref ao), (.ref sx)] below meth c s₁ [] 0 0 := Stand.of_body Bd
  have e0 : s₁.heap = h0 := by rw [← hh, Bd.state]; rfl
  have N0 := Fr.nil n0
  have K0 : Keep h0 h0 [ao] := Keep.refl _ _
  have ww : ∀ (k : Nat) {d : Jvm.Cond}, tables_1[k]? = some d → d.before av0 Z = true := fun k d h => hw d (List.mem_of_getElem? h)
  show ownEnds p e below s (Q_set0 Z ao sx t gb zc fm h0 n0) ({ frames := 2, cells := 1, slots := 128, locals := 26 } : Room).cells ({ frames := 2, cells := 1, slots := 128, locals := 26 } : Room).slots s₁ (entryFrame m #[(.ref ao), (.ref sx)] 3)
  refine ownCast (own_ef7_set0 m ao sx) ?_
  refine ow_aloadN (q := 1) X0 hx (hb hby own_d7_0) rfl rfl rfl ?_
  obtain ⟨T1, X1, e1, st1⟩ := initO X0 hx hZ hown (ww 36 rfl) (ww 15 rfl) (ww 16 rfl) e0 (g := (mkF m 1 #[rv ao, rv sx, .unset] [(.ref ao)])) rfl (by rw [hml]; rfl) rfl (hb hby own_d7_1) (by decide) (W := 0) (by show 2 * 0 + _ ≤ _; exact Nat.le_of_eq rfl) (by decide)
  refine ownGo (T' := T1) (f' := (mkF m 4 #[rv ao, rv sx, .unset] [])) (st1) ?_
  refine ow_aloadN (q := 5) X1 hx (hb hby own_d7_4) rfl rfl rfl ?_
  refine ow_sipush (q := 8) X1 hx (128 : Int32) (hb hby own_d7_5) rfl rfl ?_
  obtain ⟨T2, h2, k2, X2, e2, E2, A2, st2⟩ := newP X1 hx hZ (ww 37 rfl) e1 (g := (mkF m 8 #[rv ao, rv sx, .unset] [(.int (128 : Int32)), (.ref ao)])) rfl (hb hby own_d7_8) rfl (by decide) (cap := 128) (by decide) (by decide) (by decide) (by decide)
  obtain ⟨b2, g2⟩ : ∃ z, z = h0.size := ⟨_, rfl⟩
  rw [← g2] at A2 st2
  have ne_ao_b2 : ao ≠ b2 := Nat.ne_of_lt (Nat.lt_of_lt_of_le HF0.lt (Nat.le_of_eq g2.symm))
  have ne_sx_b2 : sx ≠ b2 := Nat.ne_of_lt (Nat.lt_of_lt_of_le HF2.lt (Nat.le_of_eq g2.symm))
  have ne_t_b2 : t ≠ b2 := Nat.ne_of_lt (Nat.lt_of_lt_of_le HF5.lt (Nat.le_of_eq g2.symm))
  have sz_b2 : h0.size ≤ b2 := Nat.le_trans K0.1 (Nat.le_of_eq g2.symm)
  have G_b2 : n0 ≤ b2 := Nat.le_trans Z0 sz_b2
  have K2 : Keep h0 h2 [ao] := K0.ext E2
  have F3 : Exa Z h2 ao "com/example/vellum4/vellum4/AsciiSet" := HF0.ext E2
  have F4 : Fld Z h2 ao "com/example/vellum4/vellum4/AsciiSet" "members" "[Z" .null := HF1.ext E2
  have F5 : Exa Z h2 sx "java/lang/String" := HF2.ext E2
  have F6 : Fld Z h2 sx "java/lang/String" "value" "[B" (.ref t) := HF3.ext E2
  have F7 : Fld Z h2 sx "java/lang/String" "coder" "B" (.int (0 : Int32)) := HF4.ext E2
  have F8 : ownAI Z h2 t .byte 0 gb := HF5.ext E2
  have F9 : Sta Z h2 "java/lang/String" "COMPACT_STRINGS" "Z" (.int zc) := HF6.ext E2
  have F10 : Sta Z h2 "jdk/internal/util/Preconditions" "SIOOBE_FORMATTER" "Ljava/util/function/BiFunction;" fm := HF7.ext E2
  have F11 : ownAI Z h2 b2 .boolean 128 (fun _ => (0 : Int32)) := ownAI.new A2 (by decide) rfl (by decide)
  refine ownGo (T' := T2) (f' := (mkF m 10 #[rv ao, rv sx, .unset] [(.ref b2), (.ref ao)])) (st2) ?_
  obtain ⟨T12, h12, X12, e12, W12, st12⟩ := putF X2 hx hZ hown (host := "") (Or.inl (ww 38 rfl)) Via.refl e2 F4 F3 (Or.inr ⟨(ww 39 rfl), rfl, hnm⟩) (ww 2 rfl) (ty := (.array .boolean)) (by decide) rfl rfl (g := (mkF m 10 #[rv ao, rv sx, .unset] [(.ref b2), (.ref ao)])) rfl rfl (hb hby own_d7_10)
  have N12 := Fr.snoc X12 N0 G_ao
  have K12 : Keep h0 h12 [ao] := K2.wr W12 (Or.inl (List.mem_of_getElem? (i := 0) rfl))
  have F13 : Exa Z h12 ao "com/example/vellum4/vellum4/AsciiSet" := F3.wr W12
  have F14 : Fld Z h12 ao "com/example/vellum4/vellum4/AsciiSet" "members" "[Z" (.ref b2) := F4.same W12
  have F15 : Exa Z h12 sx "java/lang/String" := F5.wr W12
  have F16 : Fld Z h12 sx "java/lang/String" "value" "[B" (.ref t) := F6.other W12 (Or.inl ne1)
  have F17 : Fld Z h12 sx "java/lang/String" "coder" "B" (.int (0 : Int32)) := F7.other W12 (Or.inl ne1)
  have F18 : ownAI Z h12 t .byte 0 gb := F8.other W12 ne2
  have F19 : Sta Z h12 "java/lang/String" "COMPACT_STRINGS" "Z" (.int zc) := F9.wr W12
  have F20 : Sta Z h12 "jdk/internal/util/Preconditions" "SIOOBE_FORMATTER" "Ljava/util/function/BiFunction;" fm := F10.wr W12
  have F21 : ownAI Z h12 b2 .boolean 128 (fun _ => (0 : Int32)) := F11.other W12 (Ne.symm ne_ao_b2)
  refine ownGo (T' := T12) (f' := (mkF m 13 #[rv ao, rv sx, .unset] [])) (st12) ?_
  refine ow_iconst (q := 14) X12 hx (0 : Int32) (hb hby own_d7_13) rfl rfl ?_
  refine ow_istoreN (q := 15) X12 hx (L' := #[rv ao, rv sx, iv (0 : Int32)]) (hb hby own_d7_14) rfl rfl ?_
  refine ow_iloadN (q := 16) X12 hx (hb hby own_d7_15) rfl rfl ?_
  refine ow_aloadN (q := 17) X12 hx (hb hby own_d7_16) rfl rfl rfl ?_
  obtain ⟨cq22, kq22, q22a, q22b, q22c⟩ := isOf hZ e12 F15
  obtain ⟨_, _, ⟨T22, L22, k22, n22⟩, -, X22, ⟨Lc22, hQ22, l22, y22, z22⟩, st22⟩ := X12.virtualBack hx (y := (⟨"java/lang/String", "length", "()I"⟩ : MethodName)) (z := (⟨"java/lang/String", "length", "()I"⟩ : MethodName)) hown (mvT hZ (ww 40 rfl)) (mvT hZ (ww 41 rfl)) (notFace_of_selects (args := #[]) (mvT hZ (ww 43 rfl))) (mvT hZ (ww 43 rfl)) (mvT hZ (ww 42 rfl)) (by decide) (backOf (W := 1) (rm_length0 l Z av0 hw [] sx t gb zc h12 n0 (Nat.le_trans Z0 K12.1) F15 F16 F17 F18 F19 hz) hZ (ww 44 rfl) (ww 6 rfl) (by decide) (by decide)) q22a q22c (g := (mkF m 17 #[rv ao, rv sx, iv (0 : Int32)] [(.ref sx), (.int (0 : Int32))])) rfl (by rw [hml]; rfl) (Steps.refl _) (argsL := []) (rest := [(.int (0 : Int32))]) (lenOf own_pd3 rfl) rfl (by show 2 * 0 + _ ≤ _; exact Nat.le_of_eq rfl) (hb hby own_d7_17) (fun _ _ => ⟨rfl, e12, (by decide : 1 + 0 ≤ _), (by decide : 128 + 0 ≤ _)⟩)
  dsimp only [Pt.U, Pt.locs, Pt.cells, Pt.slots] at X22 l22 y22 z22 st22 hQ22
  subst l22 y22 z22
  obtain ⟨rfl, N22q, e22⟩ := hQ22
  have N22 := Fr.app N12 N22q
  refine ownRun (T' := T22) (f' := (mkF m 20 #[rv ao, rv sx, iv (0 : Int32)] [(.int (0 : Int32)), (.int (0 : Int32))])) st22 ?_
  refine ow_icmpYes (q := 40) X22 hx (hb hby own_d7_20) (Jvm.Free.XT.ii_ge_t (by decide)) (by decide) (by decide) ?_
  refine ownRetV X22 hx Bd.returns (hb hby own_d7_40) hlk (by decide) (by decide) ?_
  rw [e22]
  exact ⟨b2, rfl, N22, K12, sz_b2, F14, F21⟩
theorem own_ef8_length1 (m : MethodId) (sx : Addr) : entryFrame m #[(.ref sx)] 1 = mkF m 0 #[rv sx] [] := by first | (simp [entryFrame, mkF, argsToLocals, Value.category]; done) | rfl
def Q_length1 (Z : State) (sx : Addr) (t : Addr) (gb : Nat → Int32) (zc : Int32) (h0 : Heap) (n0 : Nat) (v : Option Value) (h : Heap) (L : List Loc) : Prop := v = some (.int (1 : Int32)) ∧ Fr n0 L ∧ h = h0
set_option maxRecDepth 65536 in
set_option maxHeartbeats 40000000 in
theorem rm_length1 (l : Launch) (Z : State) (av0 : Array Value) (hw : ∀ d ∈ tables_1, d.before av0 Z = true) (ws : List Jvm.Cond) (sx : Addr) (t : Addr) (gb : Nat → Int32) (zc : Int32) (h0 : Heap) (n0 : Nat) (Z0 : n0 ≤ h0.size) (HF0 : Exa Z h0 sx "java/lang/String") (HF1 : Fld Z h0 sx "java/lang/String" "value" "[B" (.ref t)) (HF2 : Fld Z h0 sx "java/lang/String" "coder" "B" (.int (0 : Int32))) (HF3 : ownAI Z h0 t .byte 1 gb) (HF4 : Sta Z h0 "java/lang/String" "COMPACT_STRINGS" "Z" (.int zc)) (hz : ¬ zc = (0 : Int32)) :
    MetFree l (⟨"java/lang/String", "length", "()I"⟩ : MethodName) (head1 (Jvm.Cond.code (⟨"java/lang/String", "length", "()I"⟩ : MethodName) jdk_42_method_54_code 1 (some .int) :: ws) ({ frames := 1, cells := 0, slots := 0, locals := 13 } : Room)) (fun a U => a = #[(.ref sx)] ∧ Z.Warmed39 U.vm ∧ U.heap = h0) (fun _ _ _ _ _ => True) (fun _ U o U' => ∃ v L, o = .returned v ∧ (Q_length1 Z sx t gb zc h0 n0) v U'.heap L ∧ FrameEnd U o U' L ({ frames := 1, cells := 0, slots := 0, locals := 13 } : Room).cells ({ frames := 1, cells := 0, slots := 0, locals := 13 } : Room).slots) := by
  refine MetFree.of_bodySF (plainFor_of_name own_pn_String) hisR ?_
  intro p e s m args below meth c s₁ Bd hml0 hP hK
  obtain ⟨rfl, hZ, hh⟩ := hP
  have hx := Bd.exec
  have hby := Bd.bytes
  have hml : c.maxLocals = 1 := hml0
  have hown : s.vm.findClass "java/lang/String" = some m.cls := findClass_of_methodNamed Bd.named
  have hnm := (name_of_methodNamed Bd.named Bd.method).1
  have hlk : meth.locks = false := BodyLoose.notSynchronized Bd
  have X0 : Stand p l e ({ frames := 1, cells := 0, slots := 0, locals := 13 } : Room) s m #[(.ref sx)] below meth c s₁ [] 0 0 := Stand.of_body Bd
  have e0 : s₁.heap = h0 := by rw [← hh, Bd.state]; rfl
  have N0 := Fr.nil n0
  have K0 : Keep h0 h0 [] := Keep.refl _ _
  have ww : ∀ (k : Nat) {d : Jvm.Cond}, tables_1[k]? = some d → d.before av0 Z = true := fun k d h => hw d (List.mem_of_getElem? h)
  show ownEnds p e below s (Q_length1 Z sx t gb zc h0 n0) ({ frames := 1, cells := 0, slots := 0, locals := 13 } : Room).cells ({ frames := 1, cells := 0, slots := 0, locals := 13 } : Room).slots s₁ (entryFrame m #[(.ref sx)] 1)
  refine ownCast (own_ef8_length1 m sx) ?_
  refine ow_aloadN (q := 1) X0 hx (hb hby own_d8_0) rfl rfl rfl ?_
  obtain ⟨T1, X1, e1, st1⟩ := getF X0 hx hZ hown (host := "") (Or.inl (ww 31 rfl)) Via.refl e0 HF1 (g := (mkF m 1 #[rv sx] [(.ref sx)])) rfl rfl (hb hby own_d8_1)
  refine ownGo (T' := T1) (f' := (mkF m 4 #[rv sx] [(.ref t)])) (st1) ?_
  refine ownGo (T' := T1) (f' := (mkF m 5 #[rv sx] [(.int (1 : Int32))])) (ownLenI HF3 X1 hx hZ e1 (z := (1 : Int32)) (by decide) (g := (mkF m 4 #[rv sx] [(.ref t)])) rfl rfl (hb hby own_d8_4)) ?_
  refine ow_aloadN (q := 6) X1 hx (hb hby own_d8_5) rfl rfl rfl ?_
  obtain ⟨cq2, kq2, q2a, q2b, q2c⟩ := isOf hZ e1 HF0
  obtain ⟨_, _, ⟨T2, L2, k2, n2⟩, -, X2, ⟨Lc2, hQ2, l2, y2, z2⟩, st2⟩ := X1.virtualBack hx (y := (⟨"java/lang/String", "coder", "()B"⟩ : MethodName)) (z := (⟨"java/lang/String", "coder", "()B"⟩ : MethodName)) hown (mvT hZ (ww 45 rfl)) (mvT hZ (ww 46 rfl)) (notFace_of_selects (args := #[]) (mvT hZ (ww 48 rfl))) (mvT hZ (ww 48 rfl)) (mvT hZ (ww 47 rfl)) (by decide) (backOf (W := 1) (rm_coder l Z av0 hw [] sx zc h0 n0 (Nat.le_trans Z0 K0.1) HF2 HF4 hz) hZ (ww 49 rfl) (ww 6 rfl) (by decide) (by decide)) q2a q2c (g := (mkF m 6 #[rv sx] [(.ref sx), (.int (1 : Int32))])) rfl (by rw [hml]; rfl) (Steps.refl _) (argsL := []) (rest := [(.int (1 : Int32))]) (lenOf own_pd2 rfl) rfl (by show 2 * 0 + _ ≤ _; exact Nat.le_of_eq rfl) (hb hby own_d8_6) (fun _ _ => ⟨rfl, e1, (by decide : 0 + 0 ≤ _), (by decide : 0 + 0 ≤ _)⟩)
  dsimp only [Pt.U, Pt.locs, Pt.cells, Pt.slots] at X2 l2 y2 z2 st2 hQ2
  subst l2 y2 z2
  obtain ⟨rfl, N2q, e2⟩ := hQ2
  have N2 := Fr.app N0 N2q
  refine ownRun (T' := T2) (f' := (mkF m 9 #[rv sx] [(.int (0 : Int32)), (.int (1 : Int32))])) st2 ?_
  refine ow_ishr (q := 10) X2 hx (1 : Int32) (hb hby own_d8_9) rfl (by decide) ?_
  refine ownRetI X2 hx Bd.returns (hb hby own_d8_10) hlk (by decide) (by decide) ?_
  rw [e2]
  exact ⟨rfl, N2, rfl⟩
theorem own_pn_StringLatin1 : plainName "java/lang/StringLatin1" = true := by first | (simp [plainName, overriddenIn]; done) | decide +kernel
theorem own_d12_0 : decode jdk_43_method_2_code 0 = .ok (.iload_n 1, 1) := by decide +kernel
theorem own_d12_1 : decode jdk_43_method_2_code 1 = .ok (.aload_n 0, 1) := by decide +kernel
theorem own_d12_2 : decode jdk_43_method_2_code 2 = .ok (.arraylength, 1) := by decide +kernel
theorem own_d12_3 : decode jdk_43_method_2_code 3 = .ok (.invokestatic 9, 3) := by decide +kernel
theorem own_pd4 : parseMethodDescriptor "(II)V" = some ⟨[.int, .int], none⟩ := by decide +kernel
theorem own_d12_6 : decode jdk_43_method_2_code 6 = .ok (.aload_n 0, 1) := by decide +kernel
theorem own_d12_7 : decode jdk_43_method_2_code 7 = .ok (.iload_n 1, 1) := by decide +kernel
theorem own_d12_8 : decode jdk_43_method_2_code 8 = .ok (.baload, 1) := by decide +kernel
theorem own_d12_9 : decode jdk_43_method_2_code 9 = .ok (.sipush 255, 3) := by decide +kernel
theorem own_d12_12 : decode jdk_43_method_2_code 12 = .ok (.iand, 1) := by decide +kernel
theorem own_d12_13 : decode jdk_43_method_2_code 13 = .ok (.i2c, 1) := by decide +kernel
theorem own_d12_14 : decode jdk_43_method_2_code 14 = .ok (.ireturn, 1) := by decide +kernel
theorem own_ef12_lat1 (m : MethodId) (t : Addr) (p1 : Int32) : entryFrame m #[(.ref t), (.int p1)] 2 = mkF m 0 #[rv t, iv p1] [] := by first | (simp [entryFrame, mkF, argsToLocals, Value.category]; done) | rfl
def Q_lat1 (Z : State) (t : Addr) (p1 : Int32) (gb : Nat → Int32) (fm : Value) (h0 : Heap) (n0 : Nat) (v : Option Value) (h : Heap) (L : List Loc) : Prop := v = some (.int (gb p1.toNatClampNeg)) ∧ Fr n0 L ∧ h = h0
set_option maxRecDepth 65536 in
set_option maxHeartbeats 40000000 in
theorem rm_lat1 (l : Launch) (Z : State) (av0 : Array Value) (hw : ∀ d ∈ tables_1, d.before av0 Z = true) (ws : List Jvm.Cond) (t : Addr) (p1 : Int32) (gb : Nat → Int32) (fm : Value) (h0 : Heap) (n0 : Nat) (Z0 : n0 ≤ h0.size) (HF0 : ownAI Z h0 t .byte 1 gb) (HF1 : Sta Z h0 "jdk/internal/util/Preconditions" "SIOOBE_FORMATTER" "Ljava/util/function/BiFunction;" fm) (hlo : ¬ p1 < (0 : Int32)) (hhi : p1 < (1 : Int32)) (hr_fm : fm.isRef = true) (hok : ∀ k, k < 1 → own_asc (gb k)) :
    MetFree l (⟨"java/lang/StringLatin1", "charAt", "([BI)C"⟩ : MethodName) (head1 (Jvm.Cond.code (⟨"java/lang/StringLatin1", "charAt", "([BI)C"⟩ : MethodName) jdk_43_method_2_code 2 (some .char) :: ws) ({ frames := 2, cells := 0, slots := 0, locals := 27 } : Room)) (fun a U => a = #[(.ref t), (.int p1)] ∧ Z.Warmed39 U.vm ∧ U.heap = h0) (fun _ _ _ _ _ => True) (fun _ U o U' => ∃ v L, o = .returned v ∧ (Q_lat1 Z t p1 gb fm h0 n0) v U'.heap L ∧ FrameEnd U o U' L ({ frames := 2, cells := 0, slots := 0, locals := 27 } : Room).cells ({ frames := 2, cells := 0, slots := 0, locals := 27 } : Room).slots) := by
  refine MetFree.of_bodySF (plainFor_of_name own_pn_StringLatin1) hisR ?_
  intro p e s m args below meth c s₁ Bd hml0 hP hK
  obtain ⟨rfl, hZ, hh⟩ := hP
  have hx := Bd.exec
  have hby := Bd.bytes
  have hml : c.maxLocals = 2 := hml0
  have hown : s.vm.findClass "java/lang/StringLatin1" = some m.cls := findClass_of_methodNamed Bd.named
  have hnm := (name_of_methodNamed Bd.named Bd.method).1
  have hlk : meth.locks = false := BodyLoose.notSynchronized Bd
  have X0 : Stand p l e ({ frames := 2, cells := 0, slots := 0, locals := 27 } : Room) s m #[(.ref t), (.int p1)] below meth c s₁ [] 0 0 := Stand.of_body Bd
  have e0 : s₁.heap = h0 := by rw [← hh, Bd.state]; rfl
  have N0 := Fr.nil n0
  have K0 : Keep h0 h0 [] := Keep.refl _ _
  have ww : ∀ (k : Nat) {d : Jvm.Cond}, tables_1[k]? = some d → d.before av0 Z = true := fun k d h => hw d (List.mem_of_getElem? h)
  show ownEnds p e below s (Q_lat1 Z t p1 gb fm h0 n0) ({ frames := 2, cells := 0, slots := 0, locals := 27 } : Room).cells ({ frames := 2, cells := 0, slots := 0, locals := 27 } : Room).slots s₁ (entryFrame m #[(.ref t), (.int p1)] 2)
  refine ownCast (own_ef12_lat1 m t p1) ?_
  refine ow_iloadN (q := 1) X0 hx (hb hby own_d12_0) rfl rfl ?_
  refine ow_aloadN (q := 2) X0 hx (hb hby own_d12_1) rfl rfl rfl ?_
  refine ownGo (T' := s₁) (f' := (mkF m 3 #[rv t, iv p1] [(.int (1 : Int32)), (.int p1)])) (ownLenI HF0 X0 hx hZ e0 (z := (1 : Int32)) (by decide) (g := (mkF m 2 #[rv t, iv p1] [(.ref t), (.int p1)])) rfl rfl (hb hby own_d12_2)) ?_
  obtain ⟨_, _, ⟨T1, L1, k1, n1⟩, -, X1, ⟨Lc1, hQ1, l1, y1, z1⟩, st1⟩ := Jvm.LawKit.callS X0 hx (y := (⟨"java/lang/String", "checkIndex", "(II)V"⟩ : MethodName)) hown (mvT hZ (ww 64 rfl)) (mvT hZ (ww 65 rfl)) (mvT hZ (ww 6 rfl)) (mvT hZ (ww 66 rfl)) (by decide) (backOf (W := 0) (rm_scheck l Z av0 hw [] p1 (1 : Int32) fm h0 n0 (Nat.le_trans Z0 K0.1) HF1 hlo hhi hr_fm) hZ (ww 66 rfl) (ww 6 rfl) (by decide) (by decide)) (g := (mkF m 3 #[rv t, iv p1] [(.int (1 : Int32)), (.int p1)])) rfl (by rw [hml]; rfl) (argsL := [(.int p1), (.int (1 : Int32))]) (rest := []) (lenOf own_pd4 rfl) rfl (by show 2 * 0 + _ ≤ _; exact Nat.le_of_eq rfl) (hb hby own_d12_3) (fun _ _ => ⟨rfl, e0, (by decide : 0 + 0 ≤ _), (by decide : 0 + 0 ≤ _)⟩)
  dsimp only [Pt.U, Pt.locs, Pt.cells, Pt.slots] at X1 l1 y1 z1 st1 hQ1
  subst l1 y1 z1
  obtain ⟨rfl, N1q, e1⟩ := hQ1
  have N1 := Fr.app N0 N1q
  refine ownGo (T' := T1) (f' := (mkF m 6 #[rv t, iv p1] [])) (st1) ?_
  refine ow_aloadN (q := 7) X1 hx (hb hby own_d12_6) rfl rfl rfl ?_
  refine ow_iloadN (q := 8) X1 hx (hb hby own_d12_7) rfl rfl ?_
  refine ownGo (T' := T1) (f' := (mkF m 9 #[rv t, iv p1] [(.int (gb p1.toNatClampNeg))])) (ownBaload HF0 X1 hx hZ e1 (j := p1) (own_in hlo hhi rfl) (g := (mkF m 8 #[rv t, iv p1] [(.int p1), (.ref t)])) rfl rfl (hb hby own_d12_8)) ?_
  generalize hv_v2 : (gb p1.toNatClampNeg) = v2
  refine ow_sipush (q := 12) X1 hx (255 : Int32) (hb hby own_d12_9) rfl rfl ?_
  refine ow_iand (q := 13) X1 hx _ (hb hby own_d12_12) rfl rfl ?_
  refine ow_i2c (q := 14) X1 hx _ (hb hby own_d12_13) rfl rfl ?_
  refine ownRetN X1 hx (r := v2) (Or.inr (Or.inr (Or.inl rfl))) Bd.returns (hb hby own_d12_14) hlk (by decide) (by decide) (own_ch (own_sub hv_v2 (hok _ (own_in2 hlo hhi rfl)))) ?_
  rw [e1]
  refine ⟨congrArg (fun q => some (Value.int q)) ?_, N1, rfl⟩
  exact hv_v2.symm
theorem own_d10_0 : decode jdk_42_method_56_code 0 = .ok (.aload_n 0, 1) := by decide +kernel
theorem own_d10_1 : decode jdk_42_method_56_code 1 = .ok (.invokevirtual 492, 3) := by decide +kernel
theorem own_pd5 : parseMethodDescriptor "()Z" = some ⟨[], some .boolean⟩ := by decide +kernel
theorem own_d10_4 : decode jdk_42_method_56_code 4 = .ok (.ifCond .eq 12, 3) := by decide +kernel
theorem own_d10_7 : decode jdk_42_method_56_code 7 = .ok (.aload_n 0, 1) := by decide +kernel
theorem own_d10_8 : decode jdk_42_method_56_code 8 = .ok (.getfield 9, 3) := by decide +kernel
theorem own_d10_11 : decode jdk_42_method_56_code 11 = .ok (.iload_n 1, 1) := by decide +kernel
theorem own_d10_12 : decode jdk_42_method_56_code 12 = .ok (.invokestatic 495, 3) := by decide +kernel
theorem own_pd6 : parseMethodDescriptor "([BI)C" = some ⟨[(.array .byte), .int], some .char⟩ := by decide +kernel
theorem own_d10_15 : decode jdk_42_method_56_code 15 = .ok (.ireturn, 1) := by decide +kernel
theorem own_ef10_charAt1 (m : MethodId) (sx : Addr) (p1 : Int32) : entryFrame m #[(.ref sx), (.int p1)] 2 = mkF m 0 #[rv sx, iv p1] [] := by first | (simp [entryFrame, mkF, argsToLocals, Value.category]; done) | rfl
def Q_charAt1 (Z : State) (sx : Addr) (p1 : Int32) (t : Addr) (gb : Nat → Int32) (zc : Int32) (fm : Value) (h0 : Heap) (n0 : Nat) (v : Option Value) (h : Heap) (L : List Loc) : Prop := v = some (.int (gb p1.toNatClampNeg)) ∧ Fr n0 L ∧ h = h0
set_option maxRecDepth 65536 in
set_option maxHeartbeats 40000000 in
theorem rm_charAt1 (l : Launch) (Z : State) (av0 : Array Value) (hw : ∀ d ∈ tables_1, d.before av0 Z = true) (ws : List Jvm.Cond) (sx : Addr) (p1 : Int32) (t : Addr) (gb : Nat → Int32) (zc : Int32) (fm : Value) (h0 : Heap) (n0 : Nat) (Z0 : n0 ≤ h0.size) (HF0 : Exa Z h0 sx "java/lang/String") (HF1 : Fld Z h0 sx "java/lang/String" "value" "[B" (.ref t)) (HF2 : Fld Z h0 sx "java/lang/String" "coder" "B" (.int (0 : Int32))) (HF3 : ownAI Z h0 t .byte 1 gb) (HF4 : Sta Z h0 "java/lang/String" "COMPACT_STRINGS" "Z" (.int zc)) (HF5 : Sta Z h0 "jdk/internal/util/Preconditions" "SIOOBE_FORMATTER" "Ljava/util/function/BiFunction;" fm) (hlo : ¬ p1 < (0 : Int32)) (hhi : p1 < (1 : Int32)) (hz : ¬ zc = (0 : Int32)) (hr_fm : fm.isRef = true) (hok : ∀ k, k < 1 → own_asc (gb k)) :
    MetFree l (⟨"java/lang/String", "charAt", "(I)C"⟩ : MethodName) (head1 (Jvm.Cond.code (⟨"java/lang/String", "charAt", "(I)C"⟩ : MethodName) jdk_42_method_56_code 2 (some .char) :: ws) ({ frames := 3, cells := 0, slots := 0, locals := 40 } : Room)) (fun a U => a = #[(.ref sx), (.int p1)] ∧ Z.Warmed39 U.vm ∧ U.heap = h0) (fun _ _ _ _ _ => True) (fun _ U o U' => ∃ v L, o = .returned v ∧ (Q_charAt1 Z sx p1 t gb zc fm h0 n0) v U'.heap L ∧ FrameEnd U o U' L ({ frames := 3, cells := 0, slots := 0, locals := 40 } : Room).cells ({ frames := 3, cells := 0, slots := 0, locals := 40 } : Room).slots) := by
  refine MetFree.of_bodySF (plainFor_of_name own_pn_String) hisR ?_
  intro p e s m args below meth c s₁ Bd hml0 hP hK
  obtain ⟨rfl, hZ, hh⟩ := hP
  have hx := Bd.exec
  have hby := Bd.bytes
  have hml : c.maxLocals = 2 := hml0
  have hown : s.vm.findClass "java/lang/String" = some m.cls := findClass_of_methodNamed Bd.named
  have hnm := (name_of_methodNamed Bd.named Bd.method).1
  have hlk : meth.locks = false := BodyLoose.notSynchronized Bd
  have X0 : Stand p l e ({ frames := 3, cells := 0, slots := 0, locals := 40 } : Room) s m #[(.ref sx), (.int p1)] below meth c s₁ [] 0 0 := Stand.of_body Bd
  have e0 : s₁.heap = h0 := by rw [← hh, Bd.state]; rfl
  have N0 := Fr.nil n0
  have K0 : Keep h0 h0 [] := Keep.refl _ _
  have ww : ∀ (k : Nat) {d : Jvm.Cond}, tables_1[k]? = some d → d.before av0 Z = true := fun k d h => hw d (List.mem_of_getElem? h)
  show ownEnds p e below s (Q_charAt1 Z sx p1 t gb zc fm h0 n0) ({ frames := 3, cells := 0, slots := 0, locals := 40 } : Room).cells ({ frames := 3, cells := 0, slots := 0, locals := 40 } : Room).slots s₁ (entryFrame m #[(.ref sx), (.int p1)] 2)
  refine ownCast (own_ef10_charAt1 m sx p1) ?_
  refine ow_aloadN (q := 1) X0 hx (hb hby own_d10_0) rfl rfl rfl ?_
  obtain ⟨cq1, kq1, q1a, q1b, q1c⟩ := isOf hZ e0 HF0
  obtain ⟨_, _, ⟨T1, L1, k1, n1⟩, -, X1, ⟨Lc1, hQ1, l1, y1, z1⟩, st1⟩ := X0.virtualBack hx (y := (⟨"java/lang/String", "isLatin1", "()Z"⟩ : MethodName)) (z := (⟨"java/lang/String", "isLatin1", "()Z"⟩ : MethodName)) hown (mvT hZ (ww 55 rfl)) (mvT hZ (ww 56 rfl)) (notFace_of_selects (args := #[]) (mvT hZ (ww 58 rfl))) (mvT hZ (ww 58 rfl)) (mvT hZ (ww 57 rfl)) (by decide) (backOf (W := 0) (rm_isLatin1 l Z av0 hw [] sx zc h0 n0 (Nat.le_trans Z0 K0.1) HF2 HF4 hz) hZ (ww 59 rfl) (ww 6 rfl) (by decide) (by decide)) q1a q1c (g := (mkF m 1 #[rv sx, iv p1] [(.ref sx)])) rfl (by rw [hml]; rfl) (Steps.refl _) (argsL := []) (rest := []) (lenOf own_pd5 rfl) rfl (by show 2 * 0 + _ ≤ _; exact Nat.le_of_eq rfl) (hb hby own_d10_1) (fun _ _ => ⟨rfl, e0, (by decide : 0 + 0 ≤ _), (by decide : 0 + 0 ≤ _)⟩)
  dsimp only [Pt.U, Pt.locs, Pt.cells, Pt.slots] at X1 l1 y1 z1 st1 hQ1
  subst l1 y1 z1
  obtain ⟨rfl, N1q, e1⟩ := hQ1
  have N1 := Fr.app N0 N1q
  refine ownRun (T' := T1) (f' := (mkF m 4 #[rv sx, iv p1] [(.int (1 : Int32))])) st1 ?_
  refine ow_ifNo (q := 7) X1 hx (hb hby own_d10_4) rfl (Jvm.Free.XT.i0_eq_f (by decide)) ?_
  refine ow_aloadN (q := 8) X1 hx (hb hby own_d10_7) rfl rfl rfl ?_
  obtain ⟨T2, X2, e2, st2⟩ := getF X1 hx hZ hown (host := "") (Or.inl (ww 31 rfl)) Via.refl e1 HF1 (g := (mkF m 8 #[rv sx, iv p1] [(.ref sx)])) rfl rfl (hb hby own_d10_8)
  refine ownGo (T' := T2) (f' := (mkF m 11 #[rv sx, iv p1] [(.ref t)])) (st2) ?_
  refine ow_iloadN (q := 12) X2 hx (hb hby own_d10_11) rfl rfl ?_
  obtain ⟨_, _, ⟨T3, L3, k3, n3⟩, -, X3, ⟨Lc3, hQ3, l3, y3, z3⟩, st3⟩ := Jvm.LawKit.callS X2 hx (y := (⟨"java/lang/StringLatin1", "charAt", "([BI)C"⟩ : MethodName)) hown (mvT hZ (ww 60 rfl)) (mvT hZ (ww 61 rfl)) (mvT hZ (ww 62 rfl)) (mvT hZ (ww 63 rfl)) (by decide) (backOf (W := 0) (rm_lat1 l Z av0 hw [] t p1 gb fm h0 n0 (Nat.le_trans Z0 K0.1) HF3 HF5 hlo hhi hr_fm hok) hZ (ww 63 rfl) (ww 62 rfl) (by decide) (by decide)) (g := (mkF m 12 #[rv sx, iv p1] [(.int p1), (.ref t)])) rfl (by rw [hml]; rfl) (argsL := [(.ref t), (.int p1)]) (rest := []) (lenOf own_pd6 rfl) rfl (by show 2 * 0 + _ ≤ _; exact Nat.le_of_eq rfl) (hb hby own_d10_12) (fun _ _ => ⟨rfl, e2, (by decide : 0 + 0 ≤ _), (by decide : 0 + 0 ≤ _)⟩)
  dsimp only [Pt.U, Pt.locs, Pt.cells, Pt.slots] at X3 l3 y3 z3 st3 hQ3
  subst l3 y3 z3
  obtain ⟨rfl, N3q, e3⟩ := hQ3
  have N3 := Fr.app N1 N3q
  refine ownGo (T' := T3) (f' := (mkF m 15 #[rv sx, iv p1] [(.int (gb p1.toNatClampNeg))])) (st3) ?_
  refine ownRetN X3 hx (r := (gb p1.toNatClampNeg)) (Or.inr (Or.inr (Or.inl rfl))) Bd.returns (hb hby own_d10_15) hlk (by decide) (by decide) (own_narP (hok _ (own_in2 hlo hhi rfl))) ?_
  rw [e3]
  exact ⟨rfl, N3, rfl⟩
theorem own_d7_23 : decode prog_1_method_1_code 23 = .ok (.aload_n 0, 1) := by decide +kernel
theorem own_d7_24 : decode prog_1_method_1_code 24 = .ok (.getfield 7, 3) := by decide +kernel
theorem own_d7_27 : decode prog_1_method_1_code 27 = .ok (.aload_n 1, 1) := by decide +kernel
theorem own_d7_28 : decode prog_1_method_1_code 28 = .ok (.iload_n 2, 1) := by decide +kernel
theorem own_d7_29 : decode prog_1_method_1_code 29 = .ok (.invokevirtual 19, 3) := by decide +kernel
theorem own_pd7 : parseMethodDescriptor "(I)C" = some ⟨[.int], some .char⟩ := by decide +kernel
theorem own_d7_32 : decode prog_1_method_1_code 32 = .ok (.iconst 1, 1) := by decide +kernel
theorem own_d7_33 : decode prog_1_method_1_code 33 = .ok (.bastore, 1) := by decide +kernel
theorem own_d7_34 : decode prog_1_method_1_code 34 = .ok (.iinc 2 1, 3) := by decide +kernel
theorem own_d7_37 : decode prog_1_method_1_code 37 = .ok (.goto (-22), 3) := by decide +kernel
theorem own_ef7_set1 (m : MethodId) (ao : Addr) (sx : Addr) : entryFrame m #[(.ref ao), (.ref sx)] 3 = mkF m 0 #[rv ao, rv sx, .unset] [] := by first | (simp [entryFrame, mkF, argsToLocals, Value.category]; done) | rfl
def Q_set1 (Z : State) (ao : Addr) (sx : Addr) (t : Addr) (gb : Nat → Int32) (zc : Int32) (fm : Value) (h0 : Heap) (n0 : Nat) (v : Option Value) (h : Heap) (L : List Loc) : Prop := ∃ (mb : Addr), v = none ∧ Fr n0 L ∧ Keep h0 h [ao] ∧ h0.size ≤ mb ∧ Fld Z h ao "com/example/vellum4/vellum4/AsciiSet" "members" "[Z" (.ref mb) ∧ ownAI Z h mb .boolean 128 (own_mem1 gb)
set_option maxRecDepth 65536 in
set_option maxHeartbeats 40000000 in
theorem rm_set1 (l : Launch) (Z : State) (av0 : Array Value) (hw : ∀ d ∈ tables_1, d.before av0 Z = true) (ws : List Jvm.Cond) (ao : Addr) (sx : Addr) (t : Addr) (gb : Nat → Int32) (zc : Int32) (fm : Value) (h0 : Heap) (n0 : Nat) (Z0 : n0 ≤ h0.size) (HF0 : Exa Z h0 ao "com/example/vellum4/vellum4/AsciiSet") (HF1 : Fld Z h0 ao "com/example/vellum4/vellum4/AsciiSet" "members" "[Z" .null) (HF2 : Exa Z h0 sx "java/lang/String") (HF3 : Fld Z h0 sx "java/lang/String" "value" "[B" (.ref t)) (HF4 : Fld Z h0 sx "java/lang/String" "coder" "B" (.int (0 : Int32))) (HF5 : ownAI Z h0 t .byte 1 gb) (HF6 : Sta Z h0 "java/lang/String" "COMPACT_STRINGS" "Z" (.int zc)) (HF7 : Sta Z h0 "jdk/internal/util/Preconditions" "SIOOBE_FORMATTER" "Ljava/util/function/BiFunction;" fm) (G_ao : n0 ≤ ao) (hz : ¬ zc = (0 : Int32)) (hr_fm : fm.isRef = true) (hok : ∀ k, k < 1 → own_asc (gb k)) (ne1 : sx ≠ ao) (ne2 : t ≠ ao) :
    MetFree l (⟨"com/example/vellum4/vellum4/AsciiSet", "<init>", "(Ljava/lang/String;)V"⟩ : MethodName) (head1 (Jvm.Cond.code (⟨"com/example/vellum4/vellum4/AsciiSet", "<init>", "(Ljava/lang/String;)V"⟩ : MethodName) prog_1_method_1_code 3 none :: ws) ({ frames := 4, cells := 1, slots := 128, locals := 54 } : Room)) (fun a U => a = #[(.ref ao), (.ref sx)] ∧ Z.Warmed39 U.vm ∧ U.heap = h0) (fun _ _ _ _ _ => True) (fun _ U o U' => ∃ v L, o = .returned v ∧ (Q_set1 Z ao sx t gb zc fm h0 n0) v U'.heap L ∧ FrameEnd U o U' L ({ frames := 4, cells := 1, slots := 128, locals := 54 } : Room).cells ({ frames := 4, cells := 1, slots := 128, locals := 54 } : Room).slots) := by
  refine MetFree.of_bodySF (plainFor_of_name own_pn_AsciiSet) hisR ?_
  intro p e s m args below meth c s₁ Bd hml0 hP hK
  obtain ⟨rfl, hZ, hh⟩ := hP
  have hx := Bd.exec
  have hby := Bd.bytes
  have hml : c.maxLocals = 3 := hml0
  have hown : s.vm.findClass "com/example/vellum4/vellum4/AsciiSet" = some m.cls := findClass_of_methodNamed Bd.named
  have hnm := (name_of_methodNamed Bd.named Bd.method).1
  have hlk : meth.locks = false := BodyLoose.notSynchronized Bd
  have X0 : Stand p l e ({ frames := 4, cells := 1, slots := 128, locals := 54 } : Room) s m #[(.ref ao), (.ref sx)] below meth c s₁ [] 0 0 := Stand.of_body Bd
  have e0 : s₁.heap = h0 := by rw [← hh, Bd.state]; rfl
  have N0 := Fr.nil n0
  have K0 : Keep h0 h0 [ao] := Keep.refl _ _
  have ww : ∀ (k : Nat) {d : Jvm.Cond}, tables_1[k]? = some d → d.before av0 Z = true := fun k d h => hw d (List.mem_of_getElem? h)
  show ownEnds p e below s (Q_set1 Z ao sx t gb zc fm h0 n0) ({ frames := 4, cells := 1, slots := 128, locals := 54 } : Room).cells ({ frames := 4, cells := 1, slots := 128, locals := 54 } : Room).slots s₁ (entryFrame m #[(.ref ao), (.ref sx)] 3)
  refine ownCast (own_ef7_set1 m ao sx) ?_
  refine ow_aloadN (q := 1) X0 hx (hb hby own_d7_0) rfl rfl rfl ?_
  obtain ⟨T1, X1, e1, st1⟩ := initO X0 hx hZ hown (ww 36 rfl) (ww 15 rfl) (ww 16 rfl) e0 (g := (mkF m 1 #[rv ao, rv sx, .unset] [(.ref ao)])) rfl (by rw [hml]; rfl) rfl (hb hby own_d7_1) (by decide) (W := 0) (by show 2 * 0 + _ ≤ _; exact Nat.le_of_eq rfl) (by decide)
  refine ownGo (T' := T1) (f' := (mkF m 4 #[rv ao, rv sx, .unset] [])) (st1) ?_
  refine ow_aloadN (q := 5) X1 hx (hb hby own_d7_4) rfl rfl rfl ?_
  refine ow_sipush (q := 8) X1 hx (128 : Int32) (hb hby own_d7_5) rfl rfl ?_
  obtain ⟨T2, h2, k2, X2, e2, E2, A2, st2⟩ := newP X1 hx hZ (ww 37 rfl) e1 (g := (mkF m 8 #[rv ao, rv sx, .unset] [(.int (128 : Int32)), (.ref ao)])) rfl (hb hby own_d7_8) rfl (by decide) (cap := 128) (by decide) (by decide) (by decide) (by decide)
  obtain ⟨b2, g2⟩ : ∃ z, z = h0.size := ⟨_, rfl⟩
  rw [← g2] at A2 st2
  have ne_ao_b2 : ao ≠ b2 := Nat.ne_of_lt (Nat.lt_of_lt_of_le HF0.lt (Nat.le_of_eq g2.symm))
  have ne_sx_b2 : sx ≠ b2 := Nat.ne_of_lt (Nat.lt_of_lt_of_le HF2.lt (Nat.le_of_eq g2.symm))
  have ne_t_b2 : t ≠ b2 := Nat.ne_of_lt (Nat.lt_of_lt_of_le HF5.lt (Nat.le_of_eq g2.symm))
  have sz_b2 : h0.size ≤ b2 := Nat.le_trans K0.1 (Nat.le_of_eq g2.symm)
  have G_b2 : n0 ≤ b2 := Nat.le_trans Z0 sz_b2
  have K2 : Keep h0 h2 [ao] := K0.ext E2
  have F3 : Exa Z h2 ao "com/example/vellum4/vellum4/AsciiSet" := HF0.ext E2
  have F4 : Fld Z h2 ao "com/example/vellum4/vellum4/AsciiSet" "members" "[Z" .null := HF1.ext E2
  have F5 : Exa Z h2 sx "java/lang/String" := HF2.ext E2
  have F6 : Fld Z h2 sx "java/lang/String" "value" "[B" (.ref t) := HF3.ext E2
  have F7 : Fld Z h2 sx "java/lang/String" "coder" "B" (.int (0 : Int32)) := HF4.ext E2
  have F8 : ownAI Z h2 t .byte 1 gb := HF5.ext E2
  have F9 : Sta Z h2 "java/lang/String" "COMPACT_STRINGS" "Z" (.int zc) := HF6.ext E2
  have F10 : Sta Z h2 "jdk/internal/util/Preconditions" "SIOOBE_FORMATTER" "Ljava/util/function/BiFunction;" fm := HF7.ext E2
  have F11 : ownAI Z h2 b2 .boolean 128 (fun _ => (0 : Int32)) := ownAI.new A2 (by decide) rfl (by decide)
  refine ownGo (T' := T2) (f' := (mkF m 10 #[rv ao, rv sx, .unset] [(.ref b2), (.ref ao)])) (st2) ?_
  obtain ⟨T12, h12, X12, e12, W12, st12⟩ := putF X2 hx hZ hown (host := "") (Or.inl (ww 38 rfl)) Via.refl e2 F4 F3 (Or.inr ⟨(ww 39 rfl), rfl, hnm⟩) (ww 2 rfl) (ty := (.array .boolean)) (by decide) rfl rfl (g := (mkF m 10 #[rv ao, rv sx, .unset] [(.ref b2), (.ref ao)])) rfl rfl (hb hby own_d7_10)
  have N12 := Fr.snoc X12 N0 G_ao
  have K12 : Keep h0 h12 [ao] := K2.wr W12 (Or.inl (List.mem_of_getElem? (i := 0) rfl))
  have F13 : Exa Z h12 ao "com/example/vellum4/vellum4/AsciiSet" := F3.wr W12
  have F14 : Fld Z h12 ao "com/example/vellum4/vellum4/AsciiSet" "members" "[Z" (.ref b2) := F4.same W12
  have F15 : Exa Z h12 sx "java/lang/String" := F5.wr W12
  have F16 : Fld Z h12 sx "java/lang/String" "value" "[B" (.ref t) := F6.other W12 (Or.inl ne1)
  have F17 : Fld Z h12 sx "java/lang/String" "coder" "B" (.int (0 : Int32)) := F7.other W12 (Or.inl ne1)
  have F18 : ownAI Z h12 t .byte 1 gb := F8.other W12 ne2
  have F19 : Sta Z h12 "java/lang/String" "COMPACT_STRINGS" "Z" (.int zc) := F9.wr W12
  have F20 : Sta Z h12 "jdk/internal/util/Preconditions" "SIOOBE_FORMATTER" "Ljava/util/function/BiFunction;" fm := F10.wr W12
  have F21 : ownAI Z h12 b2 .boolean 128 (fun _ => (0 : Int32)) := F11.other W12 (Ne.symm ne_ao_b2)
  refine ownGo (T' := T12) (f' := (mkF m 13 #[rv ao, rv sx, .unset] [])) (st12) ?_
  refine ow_iconst (q := 14) X12 hx (0 : Int32) (hb hby own_d7_13) rfl rfl ?_
  refine ow_istoreN (q := 15) X12 hx (L' := #[rv ao, rv sx, iv (0 : Int32)]) (hb hby own_d7_14) rfl rfl ?_
  refine ow_iloadN (q := 16) X12 hx (hb hby own_d7_15) rfl rfl ?_
  refine ow_aloadN (q := 17) X12 hx (hb hby own_d7_16) rfl rfl rfl ?_
  obtain ⟨cq22, kq22, q22a, q22b, q22c⟩ := isOf hZ e12 F15
  obtain ⟨_, _, ⟨T22, L22, k22, n22⟩, -, X22, ⟨Lc22, hQ22, l22, y22, z22⟩, st22⟩ := X12.virtualBack hx (y := (⟨"java/lang/String", "length", "()I"⟩ : MethodName)) (z := (⟨"java/lang/String", "length", "()I"⟩ : MethodName)) hown (mvT hZ (ww 40 rfl)) (mvT hZ (ww 41 rfl)) (notFace_of_selects (args := #[]) (mvT hZ (ww 43 rfl))) (mvT hZ (ww 43 rfl)) (mvT hZ (ww 42 rfl)) (by decide) (backOf (W := 1) (rm_length1 l Z av0 hw [] sx t gb zc h12 n0 (Nat.le_trans Z0 K12.1) F15 F16 F17 F18 F19 hz) hZ (ww 44 rfl) (ww 6 rfl) (by decide) (by decide)) q22a q22c (g := (mkF m 17 #[rv ao, rv sx, iv (0 : Int32)] [(.ref sx), (.int (0 : Int32))])) rfl (by rw [hml]; rfl) (Steps.refl _) (argsL := []) (rest := [(.int (0 : Int32))]) (lenOf own_pd3 rfl) rfl (by show 2 * 0 + _ ≤ _; exact Nat.le_of_eq rfl) (hb hby own_d7_17) (fun _ _ => ⟨rfl, e12, (by decide : 1 + 0 ≤ _), (by decide : 128 + 0 ≤ _)⟩)
  dsimp only [Pt.U, Pt.locs, Pt.cells, Pt.slots] at X22 l22 y22 z22 st22 hQ22
  subst l22 y22 z22
  obtain ⟨rfl, N22q, e22⟩ := hQ22
  have N22 := Fr.app N12 N22q
  refine ownRun (T' := T22) (f' := (mkF m 20 #[rv ao, rv sx, iv (0 : Int32)] [(.int (1 : Int32)), (.int (0 : Int32))])) st22 ?_
  refine ow_icmpNo (q := 23) X22 hx (hb hby own_d7_20) rfl (Jvm.Free.XT.ii_ge_f (by decide)) ?_
  refine ow_aloadN (q := 24) X22 hx (hb hby own_d7_23) rfl rfl rfl ?_
  obtain ⟨T23, X23, e23, st23⟩ := getF X22 hx hZ hown (host := "") (Or.inl (ww 38 rfl)) Via.refl e22 F14 (g := (mkF m 24 #[rv ao, rv sx, iv (0 : Int32)] [(.ref ao)])) rfl rfl (hb hby own_d7_24)
  refine ownGo (T' := T23) (f' := (mkF m 27 #[rv ao, rv sx, iv (0 : Int32)] [(.ref b2)])) (st23) ?_
  refine ow_aloadN (q := 28) X23 hx (hb hby own_d7_27) rfl rfl rfl ?_
  refine ow_iloadN (q := 29) X23 hx (hb hby own_d7_28) rfl rfl ?_
  obtain ⟨cq24, kq24, q24a, q24b, q24c⟩ := isOf hZ e23 F15
  obtain ⟨_, _, ⟨T24, L24, k24, n24⟩, -, X24, ⟨Lc24, hQ24, l24, y24, z24⟩, st24⟩ := X23.virtualBack hx (y := (⟨"java/lang/String", "charAt", "(I)C"⟩ : MethodName)) (z := (⟨"java/lang/String", "charAt", "(I)C"⟩ : MethodName)) hown (mvT hZ (ww 50 rfl)) (mvT hZ (ww 51 rfl)) (notFace_of_selects (args := #[]) (mvT hZ (ww 53 rfl))) (mvT hZ (ww 53 rfl)) (mvT hZ (ww 52 rfl)) (by decide) (backOf (W := 1) (rm_charAt1 l Z av0 hw [] sx (0 : Int32) t gb zc fm h12 n0 (Nat.le_trans Z0 K12.1) F15 F16 F17 F18 F19 F20 (by decide) (by decide) hz hr_fm hok) hZ (ww 54 rfl) (ww 6 rfl) (by decide) (by decide)) q24a q24c (g := (mkF m 29 #[rv ao, rv sx, iv (0 : Int32)] [(.int (0 : Int32)), (.ref sx), (.ref b2)])) rfl (by rw [hml]; rfl) (Steps.refl _) (argsL := [(.int (0 : Int32))]) (rest := [(.ref b2)]) (lenOf own_pd7 rfl) rfl (by show 2 * 0 + _ ≤ _; exact Nat.le_of_eq rfl) (hb hby own_d7_29) (fun _ _ => ⟨rfl, e23, (by decide : 1 + 0 ≤ _), (by decide : 128 + 0 ≤ _)⟩)
  dsimp only [Pt.U, Pt.locs, Pt.cells, Pt.slots] at X24 l24 y24 z24 st24 hQ24
  subst l24 y24 z24
  obtain ⟨rfl, N24q, e24⟩ := hQ24
  have N24 := Fr.app N22 N24q
  refine ownRun (T' := T24) (f' := (mkF m 32 #[rv ao, rv sx, iv (0 : Int32)] [(.int (gb (0 : Int32).toNatClampNeg)), (.ref b2)])) st24 ?_
  refine ow_iconst (q := 33) X24 hx (1 : Int32) (hb hby own_d7_32) rfl rfl ?_
  generalize hv_v25 : (gb (0 : Int32).toNatClampNeg) = v25
  obtain ⟨T26, h26, X26, e26, W26, F26s, st26⟩ := ownZastore F21 X24 hx hZ e24 (j := v25) (own_inA (own_sub hv_v25 (hok _ (by decide)))) (g := (mkF m 33 #[rv ao, rv sx, iv (0 : Int32)] [(.int (1 : Int32)), (.int v25), (.ref b2)])) rfl rfl (hb hby own_d7_33)
  generalize hg_gf26 : (ownUpd (fun _ => (0 : Int32)) v25.toNatClampNeg (1 : Int32)) = gf26 at F26s
  have N26 := Fr.snoc X26 N24 G_b2
  have K26 : Keep h0 h26 [ao] := K12.wr W26 (Or.inr sz_b2)
  have F27 : Exa Z h26 ao "com/example/vellum4/vellum4/AsciiSet" := F13.wr W26
  have F28 : Fld Z h26 ao "com/example/vellum4/vellum4/AsciiSet" "members" "[Z" (.ref b2) := F14.other W26 (Or.inl ne_ao_b2)
  have F29 : Exa Z h26 sx "java/lang/String" := F15.wr W26
  have F30 : Fld Z h26 sx "java/lang/String" "value" "[B" (.ref t) := F16.other W26 (Or.inl ne_sx_b2)
  have F31 : Fld Z h26 sx "java/lang/String" "coder" "B" (.int (0 : Int32)) := F17.other W26 (Or.inl ne_sx_b2)
  have F32 : ownAI Z h26 t .byte 1 gb := F18.other W26 ne_t_b2
  have F33 : Sta Z h26 "java/lang/String" "COMPACT_STRINGS" "Z" (.int zc) := F19.wr W26
  have F34 : Sta Z h26 "jdk/internal/util/Preconditions" "SIOOBE_FORMATTER" "Ljava/util/function/BiFunction;" fm := F20.wr W26
  refine ownGo (T' := T26) (f' := (mkF m 34 #[rv ao, rv sx, iv (0 : Int32)] [])) (st26) ?_
  refine ow_iinc (q := 37) X26 hx (L' := #[rv ao, rv sx, iv (1 : Int32)]) (hb hby own_d7_34) rfl rfl rfl ?_
  refine ow_goto (q := 15) X26 hx (hb hby own_d7_37) (by decide) (by decide) ?_
  refine ow_iloadN (q := 16) X26 hx (hb hby own_d7_15) rfl rfl ?_
  refine ow_aloadN (q := 17) X26 hx (hb hby own_d7_16) rfl rfl rfl ?_
  obtain ⟨cq35, kq35, q35a, q35b, q35c⟩ := isOf hZ e26 F29
  obtain ⟨_, _, ⟨T35, L35, k35, n35⟩, -, X35, ⟨Lc35, hQ35, l35, y35, z35⟩, st35⟩ := X26.virtualBack hx (y := (⟨"java/lang/String", "length", "()I"⟩ : MethodName)) (z := (⟨"java/lang/String", "length", "()I"⟩ : MethodName)) hown (mvT hZ (ww 40 rfl)) (mvT hZ (ww 41 rfl)) (notFace_of_selects (args := #[]) (mvT hZ (ww 43 rfl))) (mvT hZ (ww 43 rfl)) (mvT hZ (ww 42 rfl)) (by decide) (backOf (W := 1) (rm_length1 l Z av0 hw [] sx t gb zc h26 n0 (Nat.le_trans Z0 K26.1) F29 F30 F31 F32 F33 hz) hZ (ww 44 rfl) (ww 6 rfl) (by decide) (by decide)) q35a q35c (g := (mkF m 17 #[rv ao, rv sx, iv (1 : Int32)] [(.ref sx), (.int (1 : Int32))])) rfl (by rw [hml]; rfl) (Steps.refl _) (argsL := []) (rest := [(.int (1 : Int32))]) (lenOf own_pd3 rfl) rfl (by show 2 * 0 + _ ≤ _; exact Nat.le_of_eq rfl) (hb hby own_d7_17) (fun _ _ => ⟨rfl, e26, (by decide : 1 + 0 ≤ _), (by decide : 128 + 0 ≤ _)⟩)
  dsimp only [Pt.U, Pt.locs, Pt.cells, Pt.slots] at X35 l35 y35 z35 st35 hQ35
  subst l35 y35 z35
  obtain ⟨rfl, N35q, e35⟩ := hQ35
  have N35 := Fr.app N26 N35q
  refine ownRun (T' := T35) (f' := (mkF m 20 #[rv ao, rv sx, iv (1 : Int32)] [(.int (1 : Int32)), (.int (1 : Int32))])) st35 ?_
  refine ow_icmpYes (q := 40) X35 hx (hb hby own_d7_20) (Jvm.Free.XT.ii_ge_t (by decide)) (by decide) (by decide) ?_
  refine ownRetV X35 hx Bd.returns (hb hby own_d7_40) hlk (by decide) (by decide) ?_
  subst hg_gf26 hv_v25
  rw [e35]
  exact ⟨b2, rfl, N35, K26, sz_b2, F28, F26s⟩
theorem own_ef8_length2 (m : MethodId) (sx : Addr) : entryFrame m #[(.ref sx)] 1 = mkF m 0 #[rv sx] [] := by first | (simp [entryFrame, mkF, argsToLocals, Value.category]; done) | rfl
def Q_length2 (Z : State) (sx : Addr) (t : Addr) (gb : Nat → Int32) (zc : Int32) (h0 : Heap) (n0 : Nat) (v : Option Value) (h : Heap) (L : List Loc) : Prop := v = some (.int (2 : Int32)) ∧ Fr n0 L ∧ h = h0
set_option maxRecDepth 65536 in
set_option maxHeartbeats 40000000 in
theorem rm_length2 (l : Launch) (Z : State) (av0 : Array Value) (hw : ∀ d ∈ tables_1, d.before av0 Z = true) (ws : List Jvm.Cond) (sx : Addr) (t : Addr) (gb : Nat → Int32) (zc : Int32) (h0 : Heap) (n0 : Nat) (Z0 : n0 ≤ h0.size) (HF0 : Exa Z h0 sx "java/lang/String") (HF1 : Fld Z h0 sx "java/lang/String" "value" "[B" (.ref t)) (HF2 : Fld Z h0 sx "java/lang/String" "coder" "B" (.int (0 : Int32))) (HF3 : ownAI Z h0 t .byte 2 gb) (HF4 : Sta Z h0 "java/lang/String" "COMPACT_STRINGS" "Z" (.int zc)) (hz : ¬ zc = (0 : Int32)) :
    MetFree l (⟨"java/lang/String", "length", "()I"⟩ : MethodName) (head1 (Jvm.Cond.code (⟨"java/lang/String", "length", "()I"⟩ : MethodName) jdk_42_method_54_code 1 (some .int) :: ws) ({ frames := 1, cells := 0, slots := 0, locals := 13 } : Room)) (fun a U => a = #[(.ref sx)] ∧ Z.Warmed39 U.vm ∧ U.heap = h0) (fun _ _ _ _ _ => True) (fun _ U o U' => ∃ v L, o = .returned v ∧ (Q_length2 Z sx t gb zc h0 n0) v U'.heap L ∧ FrameEnd U o U' L ({ frames := 1, cells := 0, slots := 0, locals := 13 } : Room).cells ({ frames := 1, cells := 0, slots := 0, locals := 13 } : Room).slots) := by
  refine MetFree.of_bodySF (plainFor_of_name own_pn_String) hisR ?_
  intro p e s m args below meth c s₁ Bd hml0 hP hK
  obtain ⟨rfl, hZ, hh⟩ := hP
  have hx := Bd.exec
  have hby := Bd.bytes
  have hml : c.maxLocals = 1 := hml0
  have hown : s.vm.findClass "java/lang/String" = some m.cls := findClass_of_methodNamed Bd.named
  have hnm := (name_of_methodNamed Bd.named Bd.method).1
  have hlk : meth.locks = false := BodyLoose.notSynchronized Bd
  have X0 : Stand p l e ({ frames := 1, cells := 0, slots := 0, locals := 13 } : Room) s m #[(.ref sx)] below meth c s₁ [] 0 0 := Stand.of_body Bd
  have e0 : s₁.heap = h0 := by rw [← hh, Bd.state]; rfl
  have N0 := Fr.nil n0
  have K0 : Keep h0 h0 [] := Keep.refl _ _
  have ww : ∀ (k : Nat) {d : Jvm.Cond}, tables_1[k]? = some d → d.before av0 Z = true := fun k d h => hw d (List.mem_of_getElem? h)
  show ownEnds p e below s (Q_length2 Z sx t gb zc h0 n0) ({ frames := 1, cells := 0, slots := 0, locals := 13 } : Room).cells ({ frames := 1, cells := 0, slots := 0, locals := 13 } : Room).slots s₁ (entryFrame m #[(.ref sx)] 1)
  refine ownCast (own_ef8_length2 m sx) ?_
  refine ow_aloadN (q := 1) X0 hx (hb hby own_d8_0) rfl rfl rfl ?_
  obtain ⟨T1, X1, e1, st1⟩ := getF X0 hx hZ hown (host := "") (Or.inl (ww 31 rfl)) Via.refl e0 HF1 (g := (mkF m 1 #[rv sx] [(.ref sx)])) rfl rfl (hb hby own_d8_1)
  refine ownGo (T' := T1) (f' := (mkF m 4 #[rv sx] [(.ref t)])) (st1) ?_
  refine ownGo (T' := T1) (f' := (mkF m 5 #[rv sx] [(.int (2 : Int32))])) (ownLenI HF3 X1 hx hZ e1 (z := (2 : Int32)) (by decide) (g := (mkF m 4 #[rv sx] [(.ref t)])) rfl rfl (hb hby own_d8_4)) ?_
  refine ow_aloadN (q := 6) X1 hx (hb hby own_d8_5) rfl rfl rfl ?_
  obtain ⟨cq2, kq2, q2a, q2b, q2c⟩ := isOf hZ e1 HF0
  obtain ⟨_, _, ⟨T2, L2, k2, n2⟩, -, X2, ⟨Lc2, hQ2, l2, y2, z2⟩, st2⟩ := X1.virtualBack hx (y := (⟨"java/lang/String", "coder", "()B"⟩ : MethodName)) (z := (⟨"java/lang/String", "coder", "()B"⟩ : MethodName)) hown (mvT hZ (ww 45 rfl)) (mvT hZ (ww 46 rfl)) (notFace_of_selects (args := #[]) (mvT hZ (ww 48 rfl))) (mvT hZ (ww 48 rfl)) (mvT hZ (ww 47 rfl)) (by decide) (backOf (W := 1) (rm_coder l Z av0 hw [] sx zc h0 n0 (Nat.le_trans Z0 K0.1) HF2 HF4 hz) hZ (ww 49 rfl) (ww 6 rfl) (by decide) (by decide)) q2a q2c (g := (mkF m 6 #[rv sx] [(.ref sx), (.int (2 : Int32))])) rfl (by rw [hml]; rfl) (Steps.refl _) (argsL := []) (rest := [(.int (2 : Int32))]) (lenOf own_pd2 rfl) rfl (by show 2 * 0 + _ ≤ _; exact Nat.le_of_eq rfl) (hb hby own_d8_6) (fun _ _ => ⟨rfl, e1, (by decide : 0 + 0 ≤ _), (by decide : 0 + 0 ≤ _)⟩)
  dsimp only [Pt.U, Pt.locs, Pt.cells, Pt.slots] at X2 l2 y2 z2 st2 hQ2
  subst l2 y2 z2
  obtain ⟨rfl, N2q, e2⟩ := hQ2
  have N2 := Fr.app N0 N2q
  refine ownRun (T' := T2) (f' := (mkF m 9 #[rv sx] [(.int (0 : Int32)), (.int (2 : Int32))])) st2 ?_
  refine ow_ishr (q := 10) X2 hx (2 : Int32) (hb hby own_d8_9) rfl (by decide) ?_
  refine ownRetI X2 hx Bd.returns (hb hby own_d8_10) hlk (by decide) (by decide) ?_
  rw [e2]
  exact ⟨rfl, N2, rfl⟩
theorem own_ef12_lat2 (m : MethodId) (t : Addr) (p1 : Int32) : entryFrame m #[(.ref t), (.int p1)] 2 = mkF m 0 #[rv t, iv p1] [] := by first | (simp [entryFrame, mkF, argsToLocals, Value.category]; done) | rfl
def Q_lat2 (Z : State) (t : Addr) (p1 : Int32) (gb : Nat → Int32) (fm : Value) (h0 : Heap) (n0 : Nat) (v : Option Value) (h : Heap) (L : List Loc) : Prop := v = some (.int (gb p1.toNatClampNeg)) ∧ Fr n0 L ∧ h = h0
set_option maxRecDepth 65536 in
set_option maxHeartbeats 40000000 in
theorem rm_lat2 (l : Launch) (Z : State) (av0 : Array Value) (hw : ∀ d ∈ tables_1, d.before av0 Z = true) (ws : List Jvm.Cond) (t : Addr) (p1 : Int32) (gb : Nat → Int32) (fm : Value) (h0 : Heap) (n0 : Nat) (Z0 : n0 ≤ h0.size) (HF0 : ownAI Z h0 t .byte 2 gb) (HF1 : Sta Z h0 "jdk/internal/util/Preconditions" "SIOOBE_FORMATTER" "Ljava/util/function/BiFunction;" fm) (hlo : ¬ p1 < (0 : Int32)) (hhi : p1 < (2 : Int32)) (hr_fm : fm.isRef = true) (hok : ∀ k, k < 2 → own_asc (gb k)) :
    MetFree l (⟨"java/lang/StringLatin1", "charAt", "([BI)C"⟩ : MethodName) (head1 (Jvm.Cond.code (⟨"java/lang/StringLatin1", "charAt", "([BI)C"⟩ : MethodName) jdk_43_method_2_code 2 (some .char) :: ws) ({ frames := 2, cells := 0, slots := 0, locals := 27 } : Room)) (fun a U => a = #[(.ref t), (.int p1)] ∧ Z.Warmed39 U.vm ∧ U.heap = h0) (fun _ _ _ _ _ => True) (fun _ U o U' => ∃ v L, o = .returned v ∧ (Q_lat2 Z t p1 gb fm h0 n0) v U'.heap L ∧ FrameEnd U o U' L ({ frames := 2, cells := 0, slots := 0, locals := 27 } : Room).cells ({ frames := 2, cells := 0, slots := 0, locals := 27 } : Room).slots) := by
  refine MetFree.of_bodySF (plainFor_of_name own_pn_StringLatin1) hisR ?_
  intro p e s m args below meth c s₁ Bd hml0 hP hK
  obtain ⟨rfl, hZ, hh⟩ := hP
  have hx := Bd.exec
  have hby := Bd.bytes
  have hml : c.maxLocals = 2 := hml0
  have hown : s.vm.findClass "java/lang/StringLatin1" = some m.cls := findClass_of_methodNamed Bd.named
  have hnm := (name_of_methodNamed Bd.named Bd.method).1
  have hlk : meth.locks = false := BodyLoose.notSynchronized Bd
  have X0 : Stand p l e ({ frames := 2, cells := 0, slots := 0, locals := 27 } : Room) s m #[(.ref t), (.int p1)] below meth c s₁ [] 0 0 := Stand.of_body Bd
  have e0 : s₁.heap = h0 := by rw [← hh, Bd.state]; rfl
  have N0 := Fr.nil n0
  have K0 : Keep h0 h0 [] := Keep.refl _ _
  have ww : ∀ (k : Nat) {d : Jvm.Cond}, tables_1[k]? = some d → d.before av0 Z = true := fun k d h => hw d (List.mem_of_getElem? h)
  show ownEnds p e below s (Q_lat2 Z t p1 gb fm h0 n0) ({ frames := 2, cells := 0, slots := 0, locals := 27 } : Room).cells ({ frames := 2, cells := 0, slots := 0, locals := 27 } : Room).slots s₁ (entryFrame m #[(.ref t), (.int p1)] 2)
  refine ownCast (own_ef12_lat2 m t p1) ?_
  refine ow_iloadN (q := 1) X0 hx (hb hby own_d12_0) rfl rfl ?_
  refine ow_aloadN (q := 2) X0 hx (hb hby own_d12_1) rfl rfl rfl ?_
  refine ownGo (T' := s₁) (f' := (mkF m 3 #[rv t, iv p1] [(.int (2 : Int32)), (.int p1)])) (ownLenI HF0 X0 hx hZ e0 (z := (2 : Int32)) (by decide) (g := (mkF m 2 #[rv t, iv p1] [(.ref t), (.int p1)])) rfl rfl (hb hby own_d12_2)) ?_
  obtain ⟨_, _, ⟨T1, L1, k1, n1⟩, -, X1, ⟨Lc1, hQ1, l1, y1, z1⟩, st1⟩ := Jvm.LawKit.callS X0 hx (y := (⟨"java/lang/String", "checkIndex", "(II)V"⟩ : MethodName)) hown (mvT hZ (ww 64 rfl)) (mvT hZ (ww 65 rfl)) (mvT hZ (ww 6 rfl)) (mvT hZ (ww 66 rfl)) (by decide) (backOf (W := 0) (rm_scheck l Z av0 hw [] p1 (2 : Int32) fm h0 n0 (Nat.le_trans Z0 K0.1) HF1 hlo hhi hr_fm) hZ (ww 66 rfl) (ww 6 rfl) (by decide) (by decide)) (g := (mkF m 3 #[rv t, iv p1] [(.int (2 : Int32)), (.int p1)])) rfl (by rw [hml]; rfl) (argsL := [(.int p1), (.int (2 : Int32))]) (rest := []) (lenOf own_pd4 rfl) rfl (by show 2 * 0 + _ ≤ _; exact Nat.le_of_eq rfl) (hb hby own_d12_3) (fun _ _ => ⟨rfl, e0, (by decide : 0 + 0 ≤ _), (by decide : 0 + 0 ≤ _)⟩)
  dsimp only [Pt.U, Pt.locs, Pt.cells, Pt.slots] at X1 l1 y1 z1 st1 hQ1
  subst l1 y1 z1
  obtain ⟨rfl, N1q, e1⟩ := hQ1
  have N1 := Fr.app N0 N1q
  refine ownGo (T' := T1) (f' := (mkF m 6 #[rv t, iv p1] [])) (st1) ?_
  refine ow_aloadN (q := 7) X1 hx (hb hby own_d12_6) rfl rfl rfl ?_
  refine ow_iloadN (q := 8) X1 hx (hb hby own_d12_7) rfl rfl ?_
  refine ownGo (T' := T1) (f' := (mkF m 9 #[rv t, iv p1] [(.int (gb p1.toNatClampNeg))])) (ownBaload HF0 X1 hx hZ e1 (j := p1) (own_in hlo hhi rfl) (g := (mkF m 8 #[rv t, iv p1] [(.int p1), (.ref t)])) rfl rfl (hb hby own_d12_8)) ?_
  generalize hv_v2 : (gb p1.toNatClampNeg) = v2
  refine ow_sipush (q := 12) X1 hx (255 : Int32) (hb hby own_d12_9) rfl rfl ?_
  refine ow_iand (q := 13) X1 hx _ (hb hby own_d12_12) rfl rfl ?_
  refine ow_i2c (q := 14) X1 hx _ (hb hby own_d12_13) rfl rfl ?_
  refine ownRetN X1 hx (r := v2) (Or.inr (Or.inr (Or.inl rfl))) Bd.returns (hb hby own_d12_14) hlk (by decide) (by decide) (own_ch (own_sub hv_v2 (hok _ (own_in2 hlo hhi rfl)))) ?_
  rw [e1]
  refine ⟨congrArg (fun q => some (Value.int q)) ?_, N1, rfl⟩
  exact hv_v2.symm
theorem own_ef10_charAt2 (m : MethodId) (sx : Addr) (p1 : Int32) : entryFrame m #[(.ref sx), (.int p1)] 2 = mkF m 0 #[rv sx, iv p1] [] := by first | (simp [entryFrame, mkF, argsToLocals, Value.category]; done) | rfl
def Q_charAt2 (Z : State) (sx : Addr) (p1 : Int32) (t : Addr) (gb : Nat → Int32) (zc : Int32) (fm : Value) (h0 : Heap) (n0 : Nat) (v : Option Value) (h : Heap) (L : List Loc) : Prop := v = some (.int (gb p1.toNatClampNeg)) ∧ Fr n0 L ∧ h = h0
set_option maxRecDepth 65536 in
set_option maxHeartbeats 40000000 in
theorem rm_charAt2 (l : Launch) (Z : State) (av0 : Array Value) (hw : ∀ d ∈ tables_1, d.before av0 Z = true) (ws : List Jvm.Cond) (sx : Addr) (p1 : Int32) (t : Addr) (gb : Nat → Int32) (zc : Int32) (fm : Value) (h0 : Heap) (n0 : Nat) (Z0 : n0 ≤ h0.size) (HF0 : Exa Z h0 sx "java/lang/String") (HF1 : Fld Z h0 sx "java/lang/String" "value" "[B" (.ref t)) (HF2 : Fld Z h0 sx "java/lang/String" "coder" "B" (.int (0 : Int32))) (HF3 : ownAI Z h0 t .byte 2 gb) (HF4 : Sta Z h0 "java/lang/String" "COMPACT_STRINGS" "Z" (.int zc)) (HF5 : Sta Z h0 "jdk/internal/util/Preconditions" "SIOOBE_FORMATTER" "Ljava/util/function/BiFunction;" fm) (hlo : ¬ p1 < (0 : Int32)) (hhi : p1 < (2 : Int32)) (hz : ¬ zc = (0 : Int32)) (hr_fm : fm.isRef = true) (hok : ∀ k, k < 2 → own_asc (gb k)) :
    MetFree l (⟨"java/lang/String", "charAt", "(I)C"⟩ : MethodName) (head1 (Jvm.Cond.code (⟨"java/lang/String", "charAt", "(I)C"⟩ : MethodName) jdk_42_method_56_code 2 (some .char) :: ws) ({ frames := 3, cells := 0, slots := 0, locals := 40 } : Room)) (fun a U => a = #[(.ref sx), (.int p1)] ∧ Z.Warmed39 U.vm ∧ U.heap = h0) (fun _ _ _ _ _ => True) (fun _ U o U' => ∃ v L, o = .returned v ∧ (Q_charAt2 Z sx p1 t gb zc fm h0 n0) v U'.heap L ∧ FrameEnd U o U' L ({ frames := 3, cells := 0, slots := 0, locals := 40 } : Room).cells ({ frames := 3, cells := 0, slots := 0, locals := 40 } : Room).slots) := by
  refine MetFree.of_bodySF (plainFor_of_name own_pn_String) hisR ?_
  intro p e s m args below meth c s₁ Bd hml0 hP hK
  obtain ⟨rfl, hZ, hh⟩ := hP
  have hx := Bd.exec
  have hby := Bd.bytes
  have hml : c.maxLocals = 2 := hml0
  have hown : s.vm.findClass "java/lang/String" = some m.cls := findClass_of_methodNamed Bd.named
  have hnm := (name_of_methodNamed Bd.named Bd.method).1
  have hlk : meth.locks = false := BodyLoose.notSynchronized Bd
  have X0 : Stand p l e ({ frames := 3, cells := 0, slots := 0, locals := 40 } : Room) s m #[(.ref sx), (.int p1)] below meth c s₁ [] 0 0 := Stand.of_body Bd
  have e0 : s₁.heap = h0 := by rw [← hh, Bd.state]; rfl
  have N0 := Fr.nil n0
  have K0 : Keep h0 h0 [] := Keep.refl _ _
  have ww : ∀ (k : Nat) {d : Jvm.Cond}, tables_1[k]? = some d → d.before av0 Z = true := fun k d h => hw d (List.mem_of_getElem? h)
  show ownEnds p e below s (Q_charAt2 Z sx p1 t gb zc fm h0 n0) ({ frames := 3, cells := 0, slots := 0, locals := 40 } : Room).cells ({ frames := 3, cells := 0, slots := 0, locals := 40 } : Room).slots s₁ (entryFrame m #[(.ref sx), (.int p1)] 2)
  refine ownCast (own_ef10_charAt2 m sx p1) ?_
  refine ow_aloadN (q := 1) X0 hx (hb hby own_d10_0) rfl rfl rfl ?_
  obtain ⟨cq1, kq1, q1a, q1b, q1c⟩ := isOf hZ e0 HF0
  obtain ⟨_, _, ⟨T1, L1, k1, n1⟩, -, X1, ⟨Lc1, hQ1, l1, y1, z1⟩, st1⟩ := X0.virtualBack hx (y := (⟨"java/lang/String", "isLatin1", "()Z"⟩ : MethodName)) (z := (⟨"java/lang/String", "isLatin1", "()Z"⟩ : MethodName)) hown (mvT hZ (ww 55 rfl)) (mvT hZ (ww 56 rfl)) (notFace_of_selects (args := #[]) (mvT hZ (ww 58 rfl))) (mvT hZ (ww 58 rfl)) (mvT hZ (ww 57 rfl)) (by decide) (backOf (W := 0) (rm_isLatin1 l Z av0 hw [] sx zc h0 n0 (Nat.le_trans Z0 K0.1) HF2 HF4 hz) hZ (ww 59 rfl) (ww 6 rfl) (by decide) (by decide)) q1a q1c (g := (mkF m 1 #[rv sx, iv p1] [(.ref sx)])) rfl (by rw [hml]; rfl) (Steps.refl _) (argsL := []) (rest := []) (lenOf own_pd5 rfl) rfl (by show 2 * 0 + _ ≤ _; exact Nat.le_of_eq rfl) (hb hby own_d10_1) (fun _ _ => ⟨rfl, e0, (by decide : 0 + 0 ≤ _), (by decide : 0 + 0 ≤ _)⟩)
  dsimp only [Pt.U, Pt.locs, Pt.cells, Pt.slots] at X1 l1 y1 z1 st1 hQ1
  subst l1 y1 z1
  obtain ⟨rfl, N1q, e1⟩ := hQ1
  have N1 := Fr.app N0 N1q
  refine ownRun (T' := T1) (f' := (mkF m 4 #[rv sx, iv p1] [(.int (1 : Int32))])) st1 ?_
  refine ow_ifNo (q := 7) X1 hx (hb hby own_d10_4) rfl (Jvm.Free.XT.i0_eq_f (by decide)) ?_
  refine ow_aloadN (q := 8) X1 hx (hb hby own_d10_7) rfl rfl rfl ?_
  obtain ⟨T2, X2, e2, st2⟩ := getF X1 hx hZ hown (host := "") (Or.inl (ww 31 rfl)) Via.refl e1 HF1 (g := (mkF m 8 #[rv sx, iv p1] [(.ref sx)])) rfl rfl (hb hby own_d10_8)
  refine ownGo (T' := T2) (f' := (mkF m 11 #[rv sx, iv p1] [(.ref t)])) (st2) ?_
  refine ow_iloadN (q := 12) X2 hx (hb hby own_d10_11) rfl rfl ?_
  obtain ⟨_, _, ⟨T3, L3, k3, n3⟩, -, X3, ⟨Lc3, hQ3, l3, y3, z3⟩, st3⟩ := Jvm.LawKit.callS X2 hx (y := (⟨"java/lang/StringLatin1", "charAt", "([BI)C"⟩ : MethodName)) hown (mvT hZ (ww 60 rfl)) (mvT hZ (ww 61 rfl)) (mvT hZ (ww 62 rfl)) (mvT hZ (ww 63 rfl)) (by decide) (backOf (W := 0) (rm_lat2 l Z av0 hw [] t p1 gb fm h0 n0 (Nat.le_trans Z0 K0.1) HF3 HF5 hlo hhi hr_fm hok) hZ (ww 63 rfl) (ww 62 rfl) (by decide) (by decide)) (g := (mkF m 12 #[rv sx, iv p1] [(.int p1), (.ref t)])) rfl (by rw [hml]; rfl) (argsL := [(.ref t), (.int p1)]) (rest := []) (lenOf own_pd6 rfl) rfl (by show 2 * 0 + _ ≤ _; exact Nat.le_of_eq rfl) (hb hby own_d10_12) (fun _ _ => ⟨rfl, e2, (by decide : 0 + 0 ≤ _), (by decide : 0 + 0 ≤ _)⟩)
  dsimp only [Pt.U, Pt.locs, Pt.cells, Pt.slots] at X3 l3 y3 z3 st3 hQ3
  subst l3 y3 z3
  obtain ⟨rfl, N3q, e3⟩ := hQ3
  have N3 := Fr.app N1 N3q
  refine ownGo (T' := T3) (f' := (mkF m 15 #[rv sx, iv p1] [(.int (gb p1.toNatClampNeg))])) (st3) ?_
  refine ownRetN X3 hx (r := (gb p1.toNatClampNeg)) (Or.inr (Or.inr (Or.inl rfl))) Bd.returns (hb hby own_d10_15) hlk (by decide) (by decide) (own_narP (hok _ (own_in2 hlo hhi rfl))) ?_
  rw [e3]
  exact ⟨rfl, N3, rfl⟩
theorem own_ef7_set2 (m : MethodId) (ao : Addr) (sx : Addr) : entryFrame m #[(.ref ao), (.ref sx)] 3 = mkF m 0 #[rv ao, rv sx, .unset] [] := by first | (simp [entryFrame, mkF, argsToLocals, Value.category]; done) | rfl
def Q_set2 (Z : State) (ao : Addr) (sx : Addr) (t : Addr) (gb : Nat → Int32) (zc : Int32) (fm : Value) (h0 : Heap) (n0 : Nat) (v : Option Value) (h : Heap) (L : List Loc) : Prop := ∃ (mb : Addr), v = none ∧ Fr n0 L ∧ Keep h0 h [ao] ∧ h0.size ≤ mb ∧ Fld Z h ao "com/example/vellum4/vellum4/AsciiSet" "members" "[Z" (.ref mb) ∧ ownAI Z h mb .boolean 128 (own_mem2 gb)
set_option maxRecDepth 65536 in
set_option maxHeartbeats 40000000 in
theorem rm_set2 (l : Launch) (Z : State) (av0 : Array Value) (hw : ∀ d ∈ tables_1, d.before av0 Z = true) (ws : List Jvm.Cond) (ao : Addr) (sx : Addr) (t : Addr) (gb : Nat → Int32) (zc : Int32) (fm : Value) (h0 : Heap) (n0 : Nat) (Z0 : n0 ≤ h0.size) (HF0 : Exa Z h0 ao "com/example/vellum4/vellum4/AsciiSet") (HF1 : Fld Z h0 ao "com/example/vellum4/vellum4/AsciiSet" "members" "[Z" .null) (HF2 : Exa Z h0 sx "java/lang/String") (HF3 : Fld Z h0 sx "java/lang/String" "value" "[B" (.ref t)) (HF4 : Fld Z h0 sx "java/lang/String" "coder" "B" (.int (0 : Int32))) (HF5 : ownAI Z h0 t .byte 2 gb) (HF6 : Sta Z h0 "java/lang/String" "COMPACT_STRINGS" "Z" (.int zc)) (HF7 : Sta Z h0 "jdk/internal/util/Preconditions" "SIOOBE_FORMATTER" "Ljava/util/function/BiFunction;" fm) (G_ao : n0 ≤ ao) (hz : ¬ zc = (0 : Int32)) (hr_fm : fm.isRef = true) (hok : ∀ k, k < 2 → own_asc (gb k)) (ne1 : sx ≠ ao) (ne2 : t ≠ ao) :
    MetFree l (⟨"com/example/vellum4/vellum4/AsciiSet", "<init>", "(Ljava/lang/String;)V"⟩ : MethodName) (head1 (Jvm.Cond.code (⟨"com/example/vellum4/vellum4/AsciiSet", "<init>", "(Ljava/lang/String;)V"⟩ : MethodName) prog_1_method_1_code 3 none :: ws) ({ frames := 4, cells := 1, slots := 128, locals := 54 } : Room)) (fun a U => a = #[(.ref ao), (.ref sx)] ∧ Z.Warmed39 U.vm ∧ U.heap = h0) (fun _ _ _ _ _ => True) (fun _ U o U' => ∃ v L, o = .returned v ∧ (Q_set2 Z ao sx t gb zc fm h0 n0) v U'.heap L ∧ FrameEnd U o U' L ({ frames := 4, cells := 1, slots := 128, locals := 54 } : Room).cells ({ frames := 4, cells := 1, slots := 128, locals := 54 } : Room).slots) := by
  refine MetFree.of_bodySF (plainFor_of_name own_pn_AsciiSet) hisR ?_
  intro p e s m args below meth c s₁ Bd hml0 hP hK
  obtain ⟨rfl, hZ, hh⟩ := hP
  have hx := Bd.exec
  have hby := Bd.bytes
  have hml : c.maxLocals = 3 := hml0
  have hown : s.vm.findClass "com/example/vellum4/vellum4/AsciiSet" = some m.cls := findClass_of_methodNamed Bd.named
  have hnm := (name_of_methodNamed Bd.named Bd.method).1
  have hlk : meth.locks = false := BodyLoose.notSynchronized Bd
  have X0 : Stand p l e ({ frames := 4, cells := 1, slots := 128, locals := 54 } : Room) s m #[(.ref ao), (.ref sx)] below meth c s₁ [] 0 0 := Stand.of_body Bd
  have e0 : s₁.heap = h0 := by rw [← hh, Bd.state]; rfl
  have N0 := Fr.nil n0
  have K0 : Keep h0 h0 [ao] := Keep.refl _ _
  have ww : ∀ (k : Nat) {d : Jvm.Cond}, tables_1[k]? = some d → d.before av0 Z = true := fun k d h => hw d (List.mem_of_getElem? h)
  show ownEnds p e below s (Q_set2 Z ao sx t gb zc fm h0 n0) ({ frames := 4, cells := 1, slots := 128, locals := 54 } : Room).cells ({ frames := 4, cells := 1, slots := 128, locals := 54 } : Room).slots s₁ (entryFrame m #[(.ref ao), (.ref sx)] 3)
  refine ownCast (own_ef7_set2 m ao sx) ?_
  refine ow_aloadN (q := 1) X0 hx (hb hby own_d7_0) rfl rfl rfl ?_
  obtain ⟨T1, X1, e1, st1⟩ := initO X0 hx hZ hown (ww 36 rfl) (ww 15 rfl) (ww 16 rfl) e0 (g := (mkF m 1 #[rv ao, rv sx, .unset] [(.ref ao)])) rfl (by rw [hml]; rfl) rfl (hb hby own_d7_1) (by decide) (W := 0) (by show 2 * 0 + _ ≤ _; exact Nat.le_of_eq rfl) (by decide)
  refine ownGo (T' := T1) (f' := (mkF m 4 #[rv ao, rv sx, .unset] [])) (st1) ?_
  refine ow_aloadN (q := 5) X1 hx (hb hby own_d7_4) rfl rfl rfl ?_
  refine ow_sipush (q := 8) X1 hx (128 : Int32) (hb hby own_d7_5) rfl rfl ?_
  obtain ⟨T2, h2, k2, X2, e2, E2, A2, st2⟩ := newP X1 hx hZ (ww 37 rfl) e1 (g := (mkF m 8 #[rv ao, rv sx, .unset] [(.int (128 : Int32)), (.ref ao)])) rfl (hb hby own_d7_8) rfl (by decide) (cap := 128) (by decide) (by decide) (by decide) (by decide)
  obtain ⟨b2, g2⟩ : ∃ z, z = h0.size := ⟨_, rfl⟩
  rw [← g2] at A2 st2
  have ne_ao_b2 : ao ≠ b2 := Nat.ne_of_lt (Nat.lt_of_lt_of_le HF0.lt (Nat.le_of_eq g2.symm))
  have ne_sx_b2 : sx ≠ b2 := Nat.ne_of_lt (Nat.lt_of_lt_of_le HF2.lt (Nat.le_of_eq g2.symm))
  have ne_t_b2 : t ≠ b2 := Nat.ne_of_lt (Nat.lt_of_lt_of_le HF5.lt (Nat.le_of_eq g2.symm))
  have sz_b2 : h0.size ≤ b2 := Nat.le_trans K0.1 (Nat.le_of_eq g2.symm)
  have G_b2 : n0 ≤ b2 := Nat.le_trans Z0 sz_b2
  have K2 : Keep h0 h2 [ao] := K0.ext E2
  have F3 : Exa Z h2 ao "com/example/vellum4/vellum4/AsciiSet" := HF0.ext E2
  have F4 : Fld Z h2 ao "com/example/vellum4/vellum4/AsciiSet" "members" "[Z" .null := HF1.ext E2
  have F5 : Exa Z h2 sx "java/lang/String" := HF2.ext E2
  have F6 : Fld Z h2 sx "java/lang/String" "value" "[B" (.ref t) := HF3.ext E2
  have F7 : Fld Z h2 sx "java/lang/String" "coder" "B" (.int (0 : Int32)) := HF4.ext E2
  have F8 : ownAI Z h2 t .byte 2 gb := HF5.ext E2
  have F9 : Sta Z h2 "java/lang/String" "COMPACT_STRINGS" "Z" (.int zc) := HF6.ext E2
  have F10 : Sta Z h2 "jdk/internal/util/Preconditions" "SIOOBE_FORMATTER" "Ljava/util/function/BiFunction;" fm := HF7.ext E2
  have F11 : ownAI Z h2 b2 .boolean 128 (fun _ => (0 : Int32)) := ownAI.new A2 (by decide) rfl (by decide)
  refine ownGo (T' := T2) (f' := (mkF m 10 #[rv ao, rv sx, .unset] [(.ref b2), (.ref ao)])) (st2) ?_
  obtain ⟨T12, h12, X12, e12, W12, st12⟩ := putF X2 hx hZ hown (host := "") (Or.inl (ww 38 rfl)) Via.refl e2 F4 F3 (Or.inr ⟨(ww 39 rfl), rfl, hnm⟩) (ww 2 rfl) (ty := (.array .boolean)) (by decide) rfl rfl (g := (mkF m 10 #[rv ao, rv sx, .unset] [(.ref b2), (.ref ao)])) rfl rfl (hb hby own_d7_10)
  have N12 := Fr.snoc X12 N0 G_ao
  have K12 : Keep h0 h12 [ao] := K2.wr W12 (Or.inl (List.mem_of_getElem? (i := 0) rfl))
  have F13 : Exa Z h12 ao "com/example/vellum4/vellum4/AsciiSet" := F3.wr W12
  have F14 : Fld Z h12 ao "com/example/vellum4/vellum4/AsciiSet" "members" "[Z" (.ref b2) := F4.same W12
  have F15 : Exa Z h12 sx "java/lang/String" := F5.wr W12
  have F16 : Fld Z h12 sx "java/lang/String" "value" "[B" (.ref t) := F6.other W12 (Or.inl ne1)
  have F17 : Fld Z h12 sx "java/lang/String" "coder" "B" (.int (0 : Int32)) := F7.other W12 (Or.inl ne1)
  have F18 : ownAI Z h12 t .byte 2 gb := F8.other W12 ne2
  have F19 : Sta Z h12 "java/lang/String" "COMPACT_STRINGS" "Z" (.int zc) := F9.wr W12
  have F20 : Sta Z h12 "jdk/internal/util/Preconditions" "SIOOBE_FORMATTER" "Ljava/util/function/BiFunction;" fm := F10.wr W12
  have F21 : ownAI Z h12 b2 .boolean 128 (fun _ => (0 : Int32)) := F11.other W12 (Ne.symm ne_ao_b2)
  refine ownGo (T' := T12) (f' := (mkF m 13 #[rv ao, rv sx, .unset] [])) (st12) ?_
  refine ow_iconst (q := 14) X12 hx (0 : Int32) (hb hby own_d7_13) rfl rfl ?_
  refine ow_istoreN (q := 15) X12 hx (L' := #[rv ao, rv sx, iv (0 : Int32)]) (hb hby own_d7_14) rfl rfl ?_
  refine ow_iloadN (q := 16) X12 hx (hb hby own_d7_15) rfl rfl ?_
  refine ow_aloadN (q := 17) X12 hx (hb hby own_d7_16) rfl rfl rfl ?_
  obtain ⟨cq22, kq22, q22a, q22b, q22c⟩ := isOf hZ e12 F15
  obtain ⟨_, _, ⟨T22, L22, k22, n22⟩, -, X22, ⟨Lc22, hQ22, l22, y22, z22⟩, st22⟩ := X12.virtualBack hx (y := (⟨"java/lang/String", "length", "()I"⟩ : MethodName)) (z := (⟨"java/lang/String", "length", "()I"⟩ : MethodName)) hown (mvT hZ (ww 40 rfl)) (mvT hZ (ww 41 rfl)) (notFace_of_selects (args := #[]) (mvT hZ (ww 43 rfl))) (mvT hZ (ww 43 rfl)) (mvT hZ (ww 42 rfl)) (by decide) (backOf (W := 1) (rm_length2 l Z av0 hw [] sx t gb zc h12 n0 (Nat.le_trans Z0 K12.1) F15 F16 F17 F18 F19 hz) hZ (ww 44 rfl) (ww 6 rfl) (by decide) (by decide)) q22a q22c (g := (mkF m 17 #[rv ao, rv sx, iv (0 : Int32)] [(.ref sx), (.int (0 : Int32))])) rfl (by rw [hml]; rfl) (Steps.refl _) (argsL := []) (rest := [(.int (0 : Int32))]) (lenOf own_pd3 rfl) rfl (by show 2 * 0 + _ ≤ _; exact Nat.le_of_eq rfl) (hb hby own_d7_17) (fun _ _ => ⟨rfl, e12, (by decide : 1 + 0 ≤ _), (by decide : 128 + 0 ≤ _)⟩)
  dsimp only [Pt.U, Pt.locs, Pt.cells, Pt.slots] at X22 l22 y22 z22 st22 hQ22
  subst l22 y22 z22
  obtain ⟨rfl, N22q, e22⟩ := hQ22
  have N22 := Fr.app N12 N22q
  refine ownRun (T' := T22) (f' := (mkF m 20 #[rv ao, rv sx, iv (0 : Int32)] [(.int (2 : Int32)), (.int (0 : Int32))])) st22 ?_
  refine ow_icmpNo (q := 23) X22 hx (hb hby own_d7_20) rfl (Jvm.Free.XT.ii_ge_f (by decide)) ?_
  refine ow_aloadN (q := 24) X22 hx (hb hby own_d7_23) rfl rfl rfl ?_
  obtain ⟨T23, X23, e23, st23⟩ := getF X22 hx hZ hown (host := "") (Or.inl (ww 38 rfl)) Via.refl e22 F14 (g := (mkF m 24 #[rv ao, rv sx, iv (0 : Int32)] [(.ref ao)])) rfl rfl (hb hby own_d7_24)
  refine ownGo (T' := T23) (f' := (mkF m 27 #[rv ao, rv sx, iv (0 : Int32)] [(.ref b2)])) (st23) ?_
  refine ow_aloadN (q := 28) X23 hx (hb hby own_d7_27) rfl rfl rfl ?_
  refine ow_iloadN (q := 29) X23 hx (hb hby own_d7_28) rfl rfl ?_
  obtain ⟨cq24, kq24, q24a, q24b, q24c⟩ := isOf hZ e23 F15
  obtain ⟨_, _, ⟨T24, L24, k24, n24⟩, -, X24, ⟨Lc24, hQ24, l24, y24, z24⟩, st24⟩ := X23.virtualBack hx (y := (⟨"java/lang/String", "charAt", "(I)C"⟩ : MethodName)) (z := (⟨"java/lang/String", "charAt", "(I)C"⟩ : MethodName)) hown (mvT hZ (ww 50 rfl)) (mvT hZ (ww 51 rfl)) (notFace_of_selects (args := #[]) (mvT hZ (ww 53 rfl))) (mvT hZ (ww 53 rfl)) (mvT hZ (ww 52 rfl)) (by decide) (backOf (W := 1) (rm_charAt2 l Z av0 hw [] sx (0 : Int32) t gb zc fm h12 n0 (Nat.le_trans Z0 K12.1) F15 F16 F17 F18 F19 F20 (by decide) (by decide) hz hr_fm hok) hZ (ww 54 rfl) (ww 6 rfl) (by decide) (by decide)) q24a q24c (g := (mkF m 29 #[rv ao, rv sx, iv (0 : Int32)] [(.int (0 : Int32)), (.ref sx), (.ref b2)])) rfl (by rw [hml]; rfl) (Steps.refl _) (argsL := [(.int (0 : Int32))]) (rest := [(.ref b2)]) (lenOf own_pd7 rfl) rfl (by show 2 * 0 + _ ≤ _; exact Nat.le_of_eq rfl) (hb hby own_d7_29) (fun _ _ => ⟨rfl, e23, (by decide : 1 + 0 ≤ _), (by decide : 128 + 0 ≤ _)⟩)
  dsimp only [Pt.U, Pt.locs, Pt.cells, Pt.slots] at X24 l24 y24 z24 st24 hQ24
  subst l24 y24 z24
  obtain ⟨rfl, N24q, e24⟩ := hQ24
  have N24 := Fr.app N22 N24q
  refine ownRun (T' := T24) (f' := (mkF m 32 #[rv ao, rv sx, iv (0 : Int32)] [(.int (gb (0 : Int32).toNatClampNeg)), (.ref b2)])) st24 ?_
  refine ow_iconst (q := 33) X24 hx (1 : Int32) (hb hby own_d7_32) rfl rfl ?_
  generalize hv_v25 : (gb (0 : Int32).toNatClampNeg) = v25
  obtain ⟨T26, h26, X26, e26, W26, F26s, st26⟩ := ownZastore F21 X24 hx hZ e24 (j := v25) (own_inA (own_sub hv_v25 (hok _ (by decide)))) (g := (mkF m 33 #[rv ao, rv sx, iv (0 : Int32)] [(.int (1 : Int32)), (.int v25), (.ref b2)])) rfl rfl (hb hby own_d7_33)
  generalize hg_gf26 : (ownUpd (fun _ => (0 : Int32)) v25.toNatClampNeg (1 : Int32)) = gf26 at F26s
  have N26 := Fr.snoc X26 N24 G_b2
  have K26 : Keep h0 h26 [ao] := K12.wr W26 (Or.inr sz_b2)
  have F27 : Exa Z h26 ao "com/example/vellum4/vellum4/AsciiSet" := F13.wr W26
  have F28 : Fld Z h26 ao "com/example/vellum4/vellum4/AsciiSet" "members" "[Z" (.ref b2) := F14.other W26 (Or.inl ne_ao_b2)
  have F29 : Exa Z h26 sx "java/lang/String" := F15.wr W26
  have F30 : Fld Z h26 sx "java/lang/String" "value" "[B" (.ref t) := F16.other W26 (Or.inl ne_sx_b2)
  have F31 : Fld Z h26 sx "java/lang/String" "coder" "B" (.int (0 : Int32)) := F17.other W26 (Or.inl ne_sx_b2)
  have F32 : ownAI Z h26 t .byte 2 gb := F18.other W26 ne_t_b2
  have F33 : Sta Z h26 "java/lang/String" "COMPACT_STRINGS" "Z" (.int zc) := F19.wr W26
  have F34 : Sta Z h26 "jdk/internal/util/Preconditions" "SIOOBE_FORMATTER" "Ljava/util/function/BiFunction;" fm := F20.wr W26
  refine ownGo (T' := T26) (f' := (mkF m 34 #[rv ao, rv sx, iv (0 : Int32)] [])) (st26) ?_
  refine ow_iinc (q := 37) X26 hx (L' := #[rv ao, rv sx, iv (1 : Int32)]) (hb hby own_d7_34) rfl rfl rfl ?_
  refine ow_goto (q := 15) X26 hx (hb hby own_d7_37) (by decide) (by decide) ?_
  refine ow_iloadN (q := 16) X26 hx (hb hby own_d7_15) rfl rfl ?_
  refine ow_aloadN (q := 17) X26 hx (hb hby own_d7_16) rfl rfl rfl ?_
  obtain ⟨cq35, kq35, q35a, q35b, q35c⟩ := isOf hZ e26 F29
  obtain ⟨_, _, ⟨T35, L35, k35, n35⟩, -, X35, ⟨Lc35, hQ35, l35, y35, z35⟩, st35⟩ := X26.virtualBack hx (y := (⟨"java/lang/String", "length", "()I"⟩ : MethodName)) (z := (⟨"java/lang/String", "length", "()I"⟩ : MethodName)) hown (mvT hZ (ww 40 rfl)) (mvT hZ (ww 41 rfl)) (notFace_of_selects (args := #[]) (mvT hZ (ww 43 rfl))) (mvT hZ (ww 43 rfl)) (mvT hZ (ww 42 rfl)) (by decide) (backOf (W := 1) (rm_length2 l Z av0 hw [] sx t gb zc h26 n0 (Nat.le_trans Z0 K26.1) F29 F30 F31 F32 F33 hz) hZ (ww 44 rfl) (ww 6 rfl) (by decide) (by decide)) q35a q35c (g := (mkF m 17 #[rv ao, rv sx, iv (1 : Int32)] [(.ref sx), (.int (1 : Int32))])) rfl (by rw [hml]; rfl) (Steps.refl _) (argsL := []) (rest := [(.int (1 : Int32))]) (lenOf own_pd3 rfl) rfl (by show 2 * 0 + _ ≤ _; exact Nat.le_of_eq rfl) (hb hby own_d7_17) (fun _ _ => ⟨rfl, e26, (by decide : 1 + 0 ≤ _), (by decide : 128 + 0 ≤ _)⟩)
  dsimp only [Pt.U, Pt.locs, Pt.cells, Pt.slots] at X35 l35 y35 z35 st35 hQ35
  subst l35 y35 z35
  obtain ⟨rfl, N35q, e35⟩ := hQ35
  have N35 := Fr.app N26 N35q
  refine ownRun (T' := T35) (f' := (mkF m 20 #[rv ao, rv sx, iv (1 : Int32)] [(.int (2 : Int32)), (.int (1 : Int32))])) st35 ?_
  refine ow_icmpNo (q := 23) X35 hx (hb hby own_d7_20) rfl (Jvm.Free.XT.ii_ge_f (by decide)) ?_
  refine ow_aloadN (q := 24) X35 hx (hb hby own_d7_23) rfl rfl rfl ?_
  obtain ⟨T36, X36, e36, st36⟩ := getF X35 hx hZ hown (host := "") (Or.inl (ww 38 rfl)) Via.refl e35 F28 (g := (mkF m 24 #[rv ao, rv sx, iv (1 : Int32)] [(.ref ao)])) rfl rfl (hb hby own_d7_24)
  refine ownGo (T' := T36) (f' := (mkF m 27 #[rv ao, rv sx, iv (1 : Int32)] [(.ref b2)])) (st36) ?_
  refine ow_aloadN (q := 28) X36 hx (hb hby own_d7_27) rfl rfl rfl ?_
  refine ow_iloadN (q := 29) X36 hx (hb hby own_d7_28) rfl rfl ?_
  obtain ⟨cq37, kq37, q37a, q37b, q37c⟩ := isOf hZ e36 F29
  obtain ⟨_, _, ⟨T37, L37, k37, n37⟩, -, X37, ⟨Lc37, hQ37, l37, y37, z37⟩, st37⟩ := X36.virtualBack hx (y := (⟨"java/lang/String", "charAt", "(I)C"⟩ : MethodName)) (z := (⟨"java/lang/String", "charAt", "(I)C"⟩ : MethodName)) hown (mvT hZ (ww 50 rfl)) (mvT hZ (ww 51 rfl)) (notFace_of_selects (args := #[]) (mvT hZ (ww 53 rfl))) (mvT hZ (ww 53 rfl)) (mvT hZ (ww 52 rfl)) (by decide) (backOf (W := 1) (rm_charAt2 l Z av0 hw [] sx (1 : Int32) t gb zc fm h26 n0 (Nat.le_trans Z0 K26.1) F29 F30 F31 F32 F33 F34 (by decide) (by decide) hz hr_fm hok) hZ (ww 54 rfl) (ww 6 rfl) (by decide) (by decide)) q37a q37c (g := (mkF m 29 #[rv ao, rv sx, iv (1 : Int32)] [(.int (1 : Int32)), (.ref sx), (.ref b2)])) rfl (by rw [hml]; rfl) (Steps.refl _) (argsL := [(.int (1 : Int32))]) (rest := [(.ref b2)]) (lenOf own_pd7 rfl) rfl (by show 2 * 0 + _ ≤ _; exact Nat.le_of_eq rfl) (hb hby own_d7_29) (fun _ _ => ⟨rfl, e36, (by decide : 1 + 0 ≤ _), (by decide : 128 + 0 ≤ _)⟩)
  dsimp only [Pt.U, Pt.locs, Pt.cells, Pt.slots] at X37 l37 y37 z37 st37 hQ37
  subst l37 y37 z37
  obtain ⟨rfl, N37q, e37⟩ := hQ37
  have N37 := Fr.app N35 N37q
  refine ownRun (T' := T37) (f' := (mkF m 32 #[rv ao, rv sx, iv (1 : Int32)] [(.int (gb (1 : Int32).toNatClampNeg)), (.ref b2)])) st37 ?_
  refine ow_iconst (q := 33) X37 hx (1 : Int32) (hb hby own_d7_32) rfl rfl ?_
  generalize hv_v38 : (gb (1 : Int32).toNatClampNeg) = v38
  obtain ⟨T39, h39, X39, e39, W39, F39s, st39⟩ := ownZastore F26s X37 hx hZ e37 (j := v38) (own_inA (own_sub hv_v38 (hok _ (by decide)))) (g := (mkF m 33 #[rv ao, rv sx, iv (1 : Int32)] [(.int (1 : Int32)), (.int v38), (.ref b2)])) rfl rfl (hb hby own_d7_33)
  generalize hg_gf39 : (ownUpd gf26 v38.toNatClampNeg (1 : Int32)) = gf39 at F39s
  have N39 := Fr.snoc X39 N37 G_b2
  have K39 : Keep h0 h39 [ao] := K26.wr W39 (Or.inr sz_b2)
  have F40 : Exa Z h39 ao "com/example/vellum4/vellum4/AsciiSet" := F27.wr W39
  have F41 : Fld Z h39 ao "com/example/vellum4/vellum4/AsciiSet" "members" "[Z" (.ref b2) := F28.other W39 (Or.inl ne_ao_b2)
  have F42 : Exa Z h39 sx "java/lang/String" := F29.wr W39
  have F43 : Fld Z h39 sx "java/lang/String" "value" "[B" (.ref t) := F30.other W39 (Or.inl ne_sx_b2)
  have F44 : Fld Z h39 sx "java/lang/String" "coder" "B" (.int (0 : Int32)) := F31.other W39 (Or.inl ne_sx_b2)
  have F45 : ownAI Z h39 t .byte 2 gb := F32.other W39 ne_t_b2
  have F46 : Sta Z h39 "java/lang/String" "COMPACT_STRINGS" "Z" (.int zc) := F33.wr W39
  have F47 : Sta Z h39 "jdk/internal/util/Preconditions" "SIOOBE_FORMATTER" "Ljava/util/function/BiFunction;" fm := F34.wr W39
  refine ownGo (T' := T39) (f' := (mkF m 34 #[rv ao, rv sx, iv (1 : Int32)] [])) (st39) ?_
  refine ow_iinc (q := 37) X39 hx (L' := #[rv ao, rv sx, iv (2 : Int32)]) (hb hby own_d7_34) rfl rfl rfl ?_
  refine ow_goto (q := 15) X39 hx (hb hby own_d7_37) (by decide) (by decide) ?_
  refine ow_iloadN (q := 16) X39 hx (hb hby own_d7_15) rfl rfl ?_
  refine ow_aloadN (q := 17) X39 hx (hb hby own_d7_16) rfl rfl rfl ?_
  obtain ⟨cq48, kq48, q48a, q48b, q48c⟩ := isOf hZ e39 F42
  obtain ⟨_, _, ⟨T48, L48, k48, n48⟩, -, X48, ⟨Lc48, hQ48, l48, y48, z48⟩, st48⟩ := X39.virtualBack hx (y := (⟨"java/lang/String", "length", "()I"⟩ : MethodName)) (z := (⟨"java/lang/String", "length", "()I"⟩ : MethodName)) hown (mvT hZ (ww 40 rfl)) (mvT hZ (ww 41 rfl)) (notFace_of_selects (args := #[]) (mvT hZ (ww 43 rfl))) (mvT hZ (ww 43 rfl)) (mvT hZ (ww 42 rfl)) (by decide) (backOf (W := 1) (rm_length2 l Z av0 hw [] sx t gb zc h39 n0 (Nat.le_trans Z0 K39.1) F42 F43 F44 F45 F46 hz) hZ (ww 44 rfl) (ww 6 rfl) (by decide) (by decide)) q48a q48c (g := (mkF m 17 #[rv ao, rv sx, iv (2 : Int32)] [(.ref sx), (.int (2 : Int32))])) rfl (by rw [hml]; rfl) (Steps.refl _) (argsL := []) (rest := [(.int (2 : Int32))]) (lenOf own_pd3 rfl) rfl (by show 2 * 0 + _ ≤ _; exact Nat.le_of_eq rfl) (hb hby own_d7_17) (fun _ _ => ⟨rfl, e39, (by decide : 1 + 0 ≤ _), (by decide : 128 + 0 ≤ _)⟩)
  dsimp only [Pt.U, Pt.locs, Pt.cells, Pt.slots] at X48 l48 y48 z48 st48 hQ48
  subst l48 y48 z48
  obtain ⟨rfl, N48q, e48⟩ := hQ48
  have N48 := Fr.app N39 N48q
  refine ownRun (T' := T48) (f' := (mkF m 20 #[rv ao, rv sx, iv (2 : Int32)] [(.int (2 : Int32)), (.int (2 : Int32))])) st48 ?_
  refine ow_icmpYes (q := 40) X48 hx (hb hby own_d7_20) (Jvm.Free.XT.ii_ge_t (by decide)) (by decide) (by decide) ?_
  refine ownRetV X48 hx Bd.returns (hb hby own_d7_40) hlk (by decide) (by decide) ?_
  subst hg_gf39 hv_v38 hg_gf26 hv_v25
  rw [e48]
  exact ⟨b2, rfl, N48, K39, sz_b2, F41, F39s⟩
theorem own_ef8_length3 (m : MethodId) (sx : Addr) : entryFrame m #[(.ref sx)] 1 = mkF m 0 #[rv sx] [] := by first | (simp [entryFrame, mkF, argsToLocals, Value.category]; done) | rfl
def Q_length3 (Z : State) (sx : Addr) (t : Addr) (gb : Nat → Int32) (zc : Int32) (h0 : Heap) (n0 : Nat) (v : Option Value) (h : Heap) (L : List Loc) : Prop := v = some (.int (3 : Int32)) ∧ Fr n0 L ∧ h = h0
set_option maxRecDepth 65536 in
set_option maxHeartbeats 40000000 in
theorem rm_length3 (l : Launch) (Z : State) (av0 : Array Value) (hw : ∀ d ∈ tables_1, d.before av0 Z = true) (ws : List Jvm.Cond) (sx : Addr) (t : Addr) (gb : Nat → Int32) (zc : Int32) (h0 : Heap) (n0 : Nat) (Z0 : n0 ≤ h0.size) (HF0 : Exa Z h0 sx "java/lang/String") (HF1 : Fld Z h0 sx "java/lang/String" "value" "[B" (.ref t)) (HF2 : Fld Z h0 sx "java/lang/String" "coder" "B" (.int (0 : Int32))) (HF3 : ownAI Z h0 t .byte 3 gb) (HF4 : Sta Z h0 "java/lang/String" "COMPACT_STRINGS" "Z" (.int zc)) (hz : ¬ zc = (0 : Int32)) :
    MetFree l (⟨"java/lang/String", "length", "()I"⟩ : MethodName) (head1 (Jvm.Cond.code (⟨"java/lang/String", "length", "()I"⟩ : MethodName) jdk_42_method_54_code 1 (some .int) :: ws) ({ frames := 1, cells := 0, slots := 0, locals := 13 } : Room)) (fun a U => a = #[(.ref sx)] ∧ Z.Warmed39 U.vm ∧ U.heap = h0) (fun _ _ _ _ _ => True) (fun _ U o U' => ∃ v L, o = .returned v ∧ (Q_length3 Z sx t gb zc h0 n0) v U'.heap L ∧ FrameEnd U o U' L ({ frames := 1, cells := 0, slots := 0, locals := 13 } : Room).cells ({ frames := 1, cells := 0, slots := 0, locals := 13 } : Room).slots) := by
  refine MetFree.of_bodySF (plainFor_of_name own_pn_String) hisR ?_
  intro p e s m args below meth c s₁ Bd hml0 hP hK
  obtain ⟨rfl, hZ, hh⟩ := hP
  have hx := Bd.exec
  have hby := Bd.bytes
  have hml : c.maxLocals = 1 := hml0
  have hown : s.vm.findClass "java/lang/String" = some m.cls := findClass_of_methodNamed Bd.named
  have hnm := (name_of_methodNamed Bd.named Bd.method).1
  have hlk : meth.locks = false := BodyLoose.notSynchronized Bd
  have X0 : Stand p l e ({ frames := 1, cells := 0, slots := 0, locals := 13 } : Room) s m #[(.ref sx)] below meth c s₁ [] 0 0 := Stand.of_body Bd
  have e0 : s₁.heap = h0 := by rw [← hh, Bd.state]; rfl
  have N0 := Fr.nil n0
  have K0 : Keep h0 h0 [] := Keep.refl _ _
  have ww : ∀ (k : Nat) {d : Jvm.Cond}, tables_1[k]? = some d → d.before av0 Z = true := fun k d h => hw d (List.mem_of_getElem? h)
  show ownEnds p e below s (Q_length3 Z sx t gb zc h0 n0) ({ frames := 1, cells := 0, slots := 0, locals := 13 } : Room).cells ({ frames := 1, cells := 0, slots := 0, locals := 13 } : Room).slots s₁ (entryFrame m #[(.ref sx)] 1)
  refine ownCast (own_ef8_length3 m sx) ?_
  refine ow_aloadN (q := 1) X0 hx (hb hby own_d8_0) rfl rfl rfl ?_
  obtain ⟨T1, X1, e1, st1⟩ := getF X0 hx hZ hown (host := "") (Or.inl (ww 31 rfl)) Via.refl e0 HF1 (g := (mkF m 1 #[rv sx] [(.ref sx)])) rfl rfl (hb hby own_d8_1)
  refine ownGo (T' := T1) (f' := (mkF m 4 #[rv sx] [(.ref t)])) (st1) ?_
  refine ownGo (T' := T1) (f' := (mkF m 5 #[rv sx] [(.int (3 : Int32))])) (ownLenI HF3 X1 hx hZ e1 (z := (3 : Int32)) (by decide) (g := (mkF m 4 #[rv sx] [(.ref t)])) rfl rfl (hb hby own_d8_4)) ?_
  refine ow_aloadN (q := 6) X1 hx (hb hby own_d8_5) rfl rfl rfl ?_
  obtain ⟨cq2, kq2, q2a, q2b, q2c⟩ := isOf hZ e1 HF0
  obtain ⟨_, _, ⟨T2, L2, k2, n2⟩, -, X2, ⟨Lc2, hQ2, l2, y2, z2⟩, st2⟩ := X1.virtualBack hx (y := (⟨"java/lang/String", "coder", "()B"⟩ : MethodName)) (z := (⟨"java/lang/String", "coder", "()B"⟩ : MethodName)) hown (mvT hZ (ww 45 rfl)) (mvT hZ (ww 46 rfl)) (notFace_of_selects (args := #[]) (mvT hZ (ww 48 rfl))) (mvT hZ (ww 48 rfl)) (mvT hZ (ww 47 rfl)) (by decide) (backOf (W := 1) (rm_coder l Z av0 hw [] sx zc h0 n0 (Nat.le_trans Z0 K0.1) HF2 HF4 hz) hZ (ww 49 rfl) (ww 6 rfl) (by decide) (by decide)) q2a q2c (g := (mkF m 6 #[rv sx] [(.ref sx), (.int (3 : Int32))])) rfl (by rw [hml]; rfl) (Steps.refl _) (argsL := []) (rest := [(.int (3 : Int32))]) (lenOf own_pd2 rfl) rfl (by show 2 * 0 + _ ≤ _; exact Nat.le_of_eq rfl) (hb hby own_d8_6) (fun _ _ => ⟨rfl, e1, (by decide : 0 + 0 ≤ _), (by decide : 0 + 0 ≤ _)⟩)
  dsimp only [Pt.U, Pt.locs, Pt.cells, Pt.slots] at X2 l2 y2 z2 st2 hQ2
  subst l2 y2 z2
  obtain ⟨rfl, N2q, e2⟩ := hQ2
  have N2 := Fr.app N0 N2q
  refine ownRun (T' := T2) (f' := (mkF m 9 #[rv sx] [(.int (0 : Int32)), (.int (3 : Int32))])) st2 ?_
  refine ow_ishr (q := 10) X2 hx (3 : Int32) (hb hby own_d8_9) rfl (by decide) ?_
  refine ownRetI X2 hx Bd.returns (hb hby own_d8_10) hlk (by decide) (by decide) ?_
  rw [e2]
  exact ⟨rfl, N2, rfl⟩
theorem own_ef12_lat3 (m : MethodId) (t : Addr) (p1 : Int32) : entryFrame m #[(.ref t), (.int p1)] 2 = mkF m 0 #[rv t, iv p1] [] := by first | (simp [entryFrame, mkF, argsToLocals, Value.category]; done) | rfl
def Q_lat3 (Z : State) (t : Addr) (p1 : Int32) (gb : Nat → Int32) (fm : Value) (h0 : Heap) (n0 : Nat) (v : Option Value) (h : Heap) (L : List Loc) : Prop := v = some (.int (gb p1.toNatClampNeg)) ∧ Fr n0 L ∧ h = h0
set_option maxRecDepth 65536 in
set_option maxHeartbeats 40000000 in
theorem rm_lat3 (l : Launch) (Z : State) (av0 : Array Value) (hw : ∀ d ∈ tables_1, d.before av0 Z = true) (ws : List Jvm.Cond) (t : Addr) (p1 : Int32) (gb : Nat → Int32) (fm : Value) (h0 : Heap) (n0 : Nat) (Z0 : n0 ≤ h0.size) (HF0 : ownAI Z h0 t .byte 3 gb) (HF1 : Sta Z h0 "jdk/internal/util/Preconditions" "SIOOBE_FORMATTER" "Ljava/util/function/BiFunction;" fm) (hlo : ¬ p1 < (0 : Int32)) (hhi : p1 < (3 : Int32)) (hr_fm : fm.isRef = true) (hok : ∀ k, k < 3 → own_asc (gb k)) :
    MetFree l (⟨"java/lang/StringLatin1", "charAt", "([BI)C"⟩ : MethodName) (head1 (Jvm.Cond.code (⟨"java/lang/StringLatin1", "charAt", "([BI)C"⟩ : MethodName) jdk_43_method_2_code 2 (some .char) :: ws) ({ frames := 2, cells := 0, slots := 0, locals := 27 } : Room)) (fun a U => a = #[(.ref t), (.int p1)] ∧ Z.Warmed39 U.vm ∧ U.heap = h0) (fun _ _ _ _ _ => True) (fun _ U o U' => ∃ v L, o = .returned v ∧ (Q_lat3 Z t p1 gb fm h0 n0) v U'.heap L ∧ FrameEnd U o U' L ({ frames := 2, cells := 0, slots := 0, locals := 27 } : Room).cells ({ frames := 2, cells := 0, slots := 0, locals := 27 } : Room).slots) := by
  refine MetFree.of_bodySF (plainFor_of_name own_pn_StringLatin1) hisR ?_
  intro p e s m args below meth c s₁ Bd hml0 hP hK
  obtain ⟨rfl, hZ, hh⟩ := hP
  have hx := Bd.exec
  have hby := Bd.bytes
  have hml : c.maxLocals = 2 := hml0
  have hown : s.vm.findClass "java/lang/StringLatin1" = some m.cls := findClass_of_methodNamed Bd.named
  have hnm := (name_of_methodNamed Bd.named Bd.method).1
  have hlk : meth.locks = false := BodyLoose.notSynchronized Bd
  have X0 : Stand p l e ({ frames := 2, cells := 0, slots := 0, locals := 27 } : Room) s m #[(.ref t), (.int p1)] below meth c s₁ [] 0 0 := Stand.of_body Bd
  have e0 : s₁.heap = h0 := by rw [← hh, Bd.state]; rfl
  have N0 := Fr.nil n0
  have K0 : Keep h0 h0 [] := Keep.refl _ _
  have ww : ∀ (k : Nat) {d : Jvm.Cond}, tables_1[k]? = some d → d.before av0 Z = true := fun k d h => hw d (List.mem_of_getElem? h)
  show ownEnds p e below s (Q_lat3 Z t p1 gb fm h0 n0) ({ frames := 2, cells := 0, slots := 0, locals := 27 } : Room).cells ({ frames := 2, cells := 0, slots := 0, locals := 27 } : Room).slots s₁ (entryFrame m #[(.ref t), (.int p1)] 2)
  refine ownCast (own_ef12_lat3 m t p1) ?_
  refine ow_iloadN (q := 1) X0 hx (hb hby own_d12_0) rfl rfl ?_
  refine ow_aloadN (q := 2) X0 hx (hb hby own_d12_1) rfl rfl rfl ?_
  refine ownGo (T' := s₁) (f' := (mkF m 3 #[rv t, iv p1] [(.int (3 : Int32)), (.int p1)])) (ownLenI HF0 X0 hx hZ e0 (z := (3 : Int32)) (by decide) (g := (mkF m 2 #[rv t, iv p1] [(.ref t), (.int p1)])) rfl rfl (hb hby own_d12_2)) ?_
  obtain ⟨_, _, ⟨T1, L1, k1, n1⟩, -, X1, ⟨Lc1, hQ1, l1, y1, z1⟩, st1⟩ := Jvm.LawKit.callS X0 hx (y := (⟨"java/lang/String", "checkIndex", "(II)V"⟩ : MethodName)) hown (mvT hZ (ww 64 rfl)) (mvT hZ (ww 65 rfl)) (mvT hZ (ww 6 rfl)) (mvT hZ (ww 66 rfl)) (by decide) (backOf (W := 0) (rm_scheck l Z av0 hw [] p1 (3 : Int32) fm h0 n0 (Nat.le_trans Z0 K0.1) HF1 hlo hhi hr_fm) hZ (ww 66 rfl) (ww 6 rfl) (by decide) (by decide)) (g := (mkF m 3 #[rv t, iv p1] [(.int (3 : Int32)), (.int p1)])) rfl (by rw [hml]; rfl) (argsL := [(.int p1), (.int (3 : Int32))]) (rest := []) (lenOf own_pd4 rfl) rfl (by show 2 * 0 + _ ≤ _; exact Nat.le_of_eq rfl) (hb hby own_d12_3) (fun _ _ => ⟨rfl, e0, (by decide : 0 + 0 ≤ _), (by decide : 0 + 0 ≤ _)⟩)
  dsimp only [Pt.U, Pt.locs, Pt.cells, Pt.slots] at X1 l1 y1 z1 st1 hQ1
  subst l1 y1 z1
  obtain ⟨rfl, N1q, e1⟩ := hQ1
  have N1 := Fr.app N0 N1q
  refine ownGo (T' := T1) (f' := (mkF m 6 #[rv t, iv p1] [])) (st1) ?_
  refine ow_aloadN (q := 7) X1 hx (hb hby own_d12_6) rfl rfl rfl ?_
  refine ow_iloadN (q := 8) X1 hx (hb hby own_d12_7) rfl rfl ?_
  refine ownGo (T' := T1) (f' := (mkF m 9 #[rv t, iv p1] [(.int (gb p1.toNatClampNeg))])) (ownBaload HF0 X1 hx hZ e1 (j := p1) (own_in hlo hhi rfl) (g := (mkF m 8 #[rv t, iv p1] [(.int p1), (.ref t)])) rfl rfl (hb hby own_d12_8)) ?_
  generalize hv_v2 : (gb p1.toNatClampNeg) = v2
  refine ow_sipush (q := 12) X1 hx (255 : Int32) (hb hby own_d12_9) rfl rfl ?_
  refine ow_iand (q := 13) X1 hx _ (hb hby own_d12_12) rfl rfl ?_
  refine ow_i2c (q := 14) X1 hx _ (hb hby own_d12_13) rfl rfl ?_
  refine ownRetN X1 hx (r := v2) (Or.inr (Or.inr (Or.inl rfl))) Bd.returns (hb hby own_d12_14) hlk (by decide) (by decide) (own_ch (own_sub hv_v2 (hok _ (own_in2 hlo hhi rfl)))) ?_
  rw [e1]
  refine ⟨congrArg (fun q => some (Value.int q)) ?_, N1, rfl⟩
  exact hv_v2.symm
theorem own_ef10_charAt3 (m : MethodId) (sx : Addr) (p1 : Int32) : entryFrame m #[(.ref sx), (.int p1)] 2 = mkF m 0 #[rv sx, iv p1] [] := by first | (simp [entryFrame, mkF, argsToLocals, Value.category]; done) | rfl
def Q_charAt3 (Z : State) (sx : Addr) (p1 : Int32) (t : Addr) (gb : Nat → Int32) (zc : Int32) (fm : Value) (h0 : Heap) (n0 : Nat) (v : Option Value) (h : Heap) (L : List Loc) : Prop := v = some (.int (gb p1.toNatClampNeg)) ∧ Fr n0 L ∧ h = h0
set_option maxRecDepth 65536 in
set_option maxHeartbeats 40000000 in
theorem rm_charAt3 (l : Launch) (Z : State) (av0 : Array Value) (hw : ∀ d ∈ tables_1, d.before av0 Z = true) (ws : List Jvm.Cond) (sx : Addr) (p1 : Int32) (t : Addr) (gb : Nat → Int32) (zc : Int32) (fm : Value) (h0 : Heap) (n0 : Nat) (Z0 : n0 ≤ h0.size) (HF0 : Exa Z h0 sx "java/lang/String") (HF1 : Fld Z h0 sx "java/lang/String" "value" "[B" (.ref t)) (HF2 : Fld Z h0 sx "java/lang/String" "coder" "B" (.int (0 : Int32))) (HF3 : ownAI Z h0 t .byte 3 gb) (HF4 : Sta Z h0 "java/lang/String" "COMPACT_STRINGS" "Z" (.int zc)) (HF5 : Sta Z h0 "jdk/internal/util/Preconditions" "SIOOBE_FORMATTER" "Ljava/util/function/BiFunction;" fm) (hlo : ¬ p1 < (0 : Int32)) (hhi : p1 < (3 : Int32)) (hz : ¬ zc = (0 : Int32)) (hr_fm : fm.isRef = true) (hok : ∀ k, k < 3 → own_asc (gb k)) :
    MetFree l (⟨"java/lang/String", "charAt", "(I)C"⟩ : MethodName) (head1 (Jvm.Cond.code (⟨"java/lang/String", "charAt", "(I)C"⟩ : MethodName) jdk_42_method_56_code 2 (some .char) :: ws) ({ frames := 3, cells := 0, slots := 0, locals := 40 } : Room)) (fun a U => a = #[(.ref sx), (.int p1)] ∧ Z.Warmed39 U.vm ∧ U.heap = h0) (fun _ _ _ _ _ => True) (fun _ U o U' => ∃ v L, o = .returned v ∧ (Q_charAt3 Z sx p1 t gb zc fm h0 n0) v U'.heap L ∧ FrameEnd U o U' L ({ frames := 3, cells := 0, slots := 0, locals := 40 } : Room).cells ({ frames := 3, cells := 0, slots := 0, locals := 40 } : Room).slots) := by
  refine MetFree.of_bodySF (plainFor_of_name own_pn_String) hisR ?_
  intro p e s m args below meth c s₁ Bd hml0 hP hK
  obtain ⟨rfl, hZ, hh⟩ := hP
  have hx := Bd.exec
  have hby := Bd.bytes
  have hml : c.maxLocals = 2 := hml0
  have hown : s.vm.findClass "java/lang/String" = some m.cls := findClass_of_methodNamed Bd.named
  have hnm := (name_of_methodNamed Bd.named Bd.method).1
  have hlk : meth.locks = false := BodyLoose.notSynchronized Bd
  have X0 : Stand p l e ({ frames := 3, cells := 0, slots := 0, locals := 40 } : Room) s m #[(.ref sx), (.int p1)] below meth c s₁ [] 0 0 := Stand.of_body Bd
  have e0 : s₁.heap = h0 := by rw [← hh, Bd.state]; rfl
  have N0 := Fr.nil n0
  have K0 : Keep h0 h0 [] := Keep.refl _ _
  have ww : ∀ (k : Nat) {d : Jvm.Cond}, tables_1[k]? = some d → d.before av0 Z = true := fun k d h => hw d (List.mem_of_getElem? h)
  show ownEnds p e below s (Q_charAt3 Z sx p1 t gb zc fm h0 n0) ({ frames := 3, cells := 0, slots := 0, locals := 40 } : Room).cells ({ frames := 3, cells := 0, slots := 0, locals := 40 } : Room).slots s₁ (entryFrame m #[(.ref sx), (.int p1)] 2)
  refine ownCast (own_ef10_charAt3 m sx p1) ?_
  refine ow_aloadN (q := 1) X0 hx (hb hby own_d10_0) rfl rfl rfl ?_
  obtain ⟨cq1, kq1, q1a, q1b, q1c⟩ := isOf hZ e0 HF0
  obtain ⟨_, _, ⟨T1, L1, k1, n1⟩, -, X1, ⟨Lc1, hQ1, l1, y1, z1⟩, st1⟩ := X0.virtualBack hx (y := (⟨"java/lang/String", "isLatin1", "()Z"⟩ : MethodName)) (z := (⟨"java/lang/String", "isLatin1", "()Z"⟩ : MethodName)) hown (mvT hZ (ww 55 rfl)) (mvT hZ (ww 56 rfl)) (notFace_of_selects (args := #[]) (mvT hZ (ww 58 rfl))) (mvT hZ (ww 58 rfl)) (mvT hZ (ww 57 rfl)) (by decide) (backOf (W := 0) (rm_isLatin1 l Z av0 hw [] sx zc h0 n0 (Nat.le_trans Z0 K0.1) HF2 HF4 hz) hZ (ww 59 rfl) (ww 6 rfl) (by decide) (by decide)) q1a q1c (g := (mkF m 1 #[rv sx, iv p1] [(.ref sx)])) rfl (by rw [hml]; rfl) (Steps.refl _) (argsL := []) (rest := []) (lenOf own_pd5 rfl) rfl (by show 2 * 0 + _ ≤ _; exact Nat.le_of_eq rfl) (hb hby own_d10_1) (fun _ _ => ⟨rfl, e0, (by decide : 0 + 0 ≤ _), (by decide : 0 + 0 ≤ _)⟩)
  dsimp only [Pt.U, Pt.locs, Pt.cells, Pt.slots] at X1 l1 y1 z1 st1 hQ1
  subst l1 y1 z1
  obtain ⟨rfl, N1q, e1⟩ := hQ1
  have N1 := Fr.app N0 N1q
  refine ownRun (T' := T1) (f' := (mkF m 4 #[rv sx, iv p1] [(.int (1 : Int32))])) st1 ?_
  refine ow_ifNo (q := 7) X1 hx (hb hby own_d10_4) rfl (Jvm.Free.XT.i0_eq_f (by decide)) ?_
  refine ow_aloadN (q := 8) X1 hx (hb hby own_d10_7) rfl rfl rfl ?_
  obtain ⟨T2, X2, e2, st2⟩ := getF X1 hx hZ hown (host := "") (Or.inl (ww 31 rfl)) Via.refl e1 HF1 (g := (mkF m 8 #[rv sx, iv p1] [(.ref sx)])) rfl rfl (hb hby own_d10_8)
  refine ownGo (T' := T2) (f' := (mkF m 11 #[rv sx, iv p1] [(.ref t)])) (st2) ?_
  refine ow_iloadN (q := 12) X2 hx (hb hby own_d10_11) rfl rfl ?_
  obtain ⟨_, _, ⟨T3, L3, k3, n3⟩, -, X3, ⟨Lc3, hQ3, l3, y3, z3⟩, st3⟩ := Jvm.LawKit.callS X2 hx (y := (⟨"java/lang/StringLatin1", "charAt", "([BI)C"⟩ : MethodName)) hown (mvT hZ (ww 60 rfl)) (mvT hZ (ww 61 rfl)) (mvT hZ (ww 62 rfl)) (mvT hZ (ww 63 rfl)) (by decide) (backOf (W := 0) (rm_lat3 l Z av0 hw [] t p1 gb fm h0 n0 (Nat.le_trans Z0 K0.1) HF3 HF5 hlo hhi hr_fm hok) hZ (ww 63 rfl) (ww 62 rfl) (by decide) (by decide)) (g := (mkF m 12 #[rv sx, iv p1] [(.int p1), (.ref t)])) rfl (by rw [hml]; rfl) (argsL := [(.ref t), (.int p1)]) (rest := []) (lenOf own_pd6 rfl) rfl (by show 2 * 0 + _ ≤ _; exact Nat.le_of_eq rfl) (hb hby own_d10_12) (fun _ _ => ⟨rfl, e2, (by decide : 0 + 0 ≤ _), (by decide : 0 + 0 ≤ _)⟩)
  dsimp only [Pt.U, Pt.locs, Pt.cells, Pt.slots] at X3 l3 y3 z3 st3 hQ3
  subst l3 y3 z3
  obtain ⟨rfl, N3q, e3⟩ := hQ3
  have N3 := Fr.app N1 N3q
  refine ownGo (T' := T3) (f' := (mkF m 15 #[rv sx, iv p1] [(.int (gb p1.toNatClampNeg))])) (st3) ?_
  refine ownRetN X3 hx (r := (gb p1.toNatClampNeg)) (Or.inr (Or.inr (Or.inl rfl))) Bd.returns (hb hby own_d10_15) hlk (by decide) (by decide) (own_narP (hok _ (own_in2 hlo hhi rfl))) ?_
  rw [e3]
  exact ⟨rfl, N3, rfl⟩
theorem own_ef7_set3 (m : MethodId) (ao : Addr) (sx : Addr) : entryFrame m #[(.ref ao), (.ref sx)] 3 = mkF m 0 #[rv ao, rv sx, .unset] [] := by first | (simp [entryFrame, mkF, argsToLocals, Value.category]; done) | rfl
def Q_set3 (Z : State) (ao : Addr) (sx : Addr) (t : Addr) (gb : Nat → Int32) (zc : Int32) (fm : Value) (h0 : Heap) (n0 : Nat) (v : Option Value) (h : Heap) (L : List Loc) : Prop := ∃ (mb : Addr), v = none ∧ Fr n0 L ∧ Keep h0 h [ao] ∧ h0.size ≤ mb ∧ Fld Z h ao "com/example/vellum4/vellum4/AsciiSet" "members" "[Z" (.ref mb) ∧ ownAI Z h mb .boolean 128 (own_mem3 gb)
set_option maxRecDepth 65536 in
set_option maxHeartbeats 40000000 in
theorem rm_set3 (l : Launch) (Z : State) (av0 : Array Value) (hw : ∀ d ∈ tables_1, d.before av0 Z = true) (ws : List Jvm.Cond) (ao : Addr) (sx : Addr) (t : Addr) (gb : Nat → Int32) (zc : Int32) (fm : Value) (h0 : Heap) (n0 : Nat) (Z0 : n0 ≤ h0.size) (HF0 : Exa Z h0 ao "com/example/vellum4/vellum4/AsciiSet") (HF1 : Fld Z h0 ao "com/example/vellum4/vellum4/AsciiSet" "members" "[Z" .null) (HF2 : Exa Z h0 sx "java/lang/String") (HF3 : Fld Z h0 sx "java/lang/String" "value" "[B" (.ref t)) (HF4 : Fld Z h0 sx "java/lang/String" "coder" "B" (.int (0 : Int32))) (HF5 : ownAI Z h0 t .byte 3 gb) (HF6 : Sta Z h0 "java/lang/String" "COMPACT_STRINGS" "Z" (.int zc)) (HF7 : Sta Z h0 "jdk/internal/util/Preconditions" "SIOOBE_FORMATTER" "Ljava/util/function/BiFunction;" fm) (G_ao : n0 ≤ ao) (hz : ¬ zc = (0 : Int32)) (hr_fm : fm.isRef = true) (hok : ∀ k, k < 3 → own_asc (gb k)) (ne1 : sx ≠ ao) (ne2 : t ≠ ao) :
    MetFree l (⟨"com/example/vellum4/vellum4/AsciiSet", "<init>", "(Ljava/lang/String;)V"⟩ : MethodName) (head1 (Jvm.Cond.code (⟨"com/example/vellum4/vellum4/AsciiSet", "<init>", "(Ljava/lang/String;)V"⟩ : MethodName) prog_1_method_1_code 3 none :: ws) ({ frames := 4, cells := 1, slots := 128, locals := 54 } : Room)) (fun a U => a = #[(.ref ao), (.ref sx)] ∧ Z.Warmed39 U.vm ∧ U.heap = h0) (fun _ _ _ _ _ => True) (fun _ U o U' => ∃ v L, o = .returned v ∧ (Q_set3 Z ao sx t gb zc fm h0 n0) v U'.heap L ∧ FrameEnd U o U' L ({ frames := 4, cells := 1, slots := 128, locals := 54 } : Room).cells ({ frames := 4, cells := 1, slots := 128, locals := 54 } : Room).slots) := by
  refine MetFree.of_bodySF (plainFor_of_name own_pn_AsciiSet) hisR ?_
  intro p e s m args below meth c s₁ Bd hml0 hP hK
  obtain ⟨rfl, hZ, hh⟩ := hP
  have hx := Bd.exec
  have hby := Bd.bytes
  have hml : c.maxLocals = 3 := hml0
  have hown : s.vm.findClass "com/example/vellum4/vellum4/AsciiSet" = some m.cls := findClass_of_methodNamed Bd.named
  have hnm := (name_of_methodNamed Bd.named Bd.method).1
  have hlk : meth.locks = false := BodyLoose.notSynchronized Bd
  have X0 : Stand p l e ({ frames := 4, cells := 1, slots := 128, locals := 54 } : Room) s m #[(.ref ao), (.ref sx)] below meth c s₁ [] 0 0 := Stand.of_body Bd
  have e0 : s₁.heap = h0 := by rw [← hh, Bd.state]; rfl
  have N0 := Fr.nil n0
  have K0 : Keep h0 h0 [ao] := Keep.refl _ _
  have ww : ∀ (k : Nat) {d : Jvm.Cond}, tables_1[k]? = some d → d.before av0 Z = true := fun k d h => hw d (List.mem_of_getElem? h)
  show ownEnds p e below s (Q_set3 Z ao sx t gb zc fm h0 n0) ({ frames := 4, cells := 1, slots := 128, locals := 54 } : Room).cells ({ frames := 4, cells := 1, slots := 128, locals := 54 } : Room).slots s₁ (entryFrame m #[(.ref ao), (.ref sx)] 3)
  refine ownCast (own_ef7_set3 m ao sx) ?_
  refine ow_aloadN (q := 1) X0 hx (hb hby own_d7_0) rfl rfl rfl ?_
  obtain ⟨T1, X1, e1, st1⟩ := initO X0 hx hZ hown (ww 36 rfl) (ww 15 rfl) (ww 16 rfl) e0 (g := (mkF m 1 #[rv ao, rv sx, .unset] [(.ref ao)])) rfl (by rw [hml]; rfl) rfl (hb hby own_d7_1) (by decide) (W := 0) (by show 2 * 0 + _ ≤ _; exact Nat.le_of_eq rfl) (by decide)
  refine ownGo (T' := T1) (f' := (mkF m 4 #[rv ao, rv sx, .unset] [])) (st1) ?_
  refine ow_aloadN (q := 5) X1 hx (hb hby own_d7_4) rfl rfl rfl ?_
  refine ow_sipush (q := 8) X1 hx (128 : Int32) (hb hby own_d7_5) rfl rfl ?_
  obtain ⟨T2, h2, k2, X2, e2, E2, A2, st2⟩ := newP X1 hx hZ (ww 37 rfl) e1 (g := (mkF m 8 #[rv ao, rv sx, .unset] [(.int (128 : Int32)), (.ref ao)])) rfl (hb hby own_d7_8) rfl (by decide) (cap := 128) (by decide) (by decide) (by decide) (by decide)
  obtain ⟨b2, g2⟩ : ∃ z, z = h0.size := ⟨_, rfl⟩
  rw [← g2] at A2 st2
  have ne_ao_b2 : ao ≠ b2 := Nat.ne_of_lt (Nat.lt_of_lt_of_le HF0.lt (Nat.le_of_eq g2.symm))
  have ne_sx_b2 : sx ≠ b2 := Nat.ne_of_lt (Nat.lt_of_lt_of_le HF2.lt (Nat.le_of_eq g2.symm))
  have ne_t_b2 : t ≠ b2 := Nat.ne_of_lt (Nat.lt_of_lt_of_le HF5.lt (Nat.le_of_eq g2.symm))
  have sz_b2 : h0.size ≤ b2 := Nat.le_trans K0.1 (Nat.le_of_eq g2.symm)
  have G_b2 : n0 ≤ b2 := Nat.le_trans Z0 sz_b2
  have K2 : Keep h0 h2 [ao] := K0.ext E2
  have F3 : Exa Z h2 ao "com/example/vellum4/vellum4/AsciiSet" := HF0.ext E2
  have F4 : Fld Z h2 ao "com/example/vellum4/vellum4/AsciiSet" "members" "[Z" .null := HF1.ext E2
  have F5 : Exa Z h2 sx "java/lang/String" := HF2.ext E2
  have F6 : Fld Z h2 sx "java/lang/String" "value" "[B" (.ref t) := HF3.ext E2
  have F7 : Fld Z h2 sx "java/lang/String" "coder" "B" (.int (0 : Int32)) := HF4.ext E2
  have F8 : ownAI Z h2 t .byte 3 gb := HF5.ext E2
  have F9 : Sta Z h2 "java/lang/String" "COMPACT_STRINGS" "Z" (.int zc) := HF6.ext E2
  have F10 : Sta Z h2 "jdk/internal/util/Preconditions" "SIOOBE_FORMATTER" "Ljava/util/function/BiFunction;" fm := HF7.ext E2
  have F11 : ownAI Z h2 b2 .boolean 128 (fun _ => (0 : Int32)) := ownAI.new A2 (by decide) rfl (by decide)
  refine ownGo (T' := T2) (f' := (mkF m 10 #[rv ao, rv sx, .unset] [(.ref b2), (.ref ao)])) (st2) ?_
  obtain ⟨T12, h12, X12, e12, W12, st12⟩ := putF X2 hx hZ hown (host := "") (Or.inl (ww 38 rfl)) Via.refl e2 F4 F3 (Or.inr ⟨(ww 39 rfl), rfl, hnm⟩) (ww 2 rfl) (ty := (.array .boolean)) (by decide) rfl rfl (g := (mkF m 10 #[rv ao, rv sx, .unset] [(.ref b2), (.ref ao)])) rfl rfl (hb hby own_d7_10)
  have N12 := Fr.snoc X12 N0 G_ao
  have K12 : Keep h0 h12 [ao] := K2.wr W12 (Or.inl (List.mem_of_getElem? (i := 0) rfl))
  have F13 : Exa Z h12 ao "com/example/vellum4/vellum4/AsciiSet" := F3.wr W12
  have F14 : Fld Z h12 ao "com/example/vellum4/vellum4/AsciiSet" "members" "[Z" (.ref b2) := F4.same W12
  have F15 : Exa Z h12 sx "java/lang/String" := F5.wr W12
  have F16 : Fld Z h12 sx "java/lang/String" "value" "[B" (.ref t) := F6.other W12 (Or.inl ne1)
  have F17 : Fld Z h12 sx "java/lang/String" "coder" "B" (.int (0 : Int32)) := F7.other W12 (Or.inl ne1)
  have F18 : ownAI Z h12 t .byte 3 gb := F8.other W12 ne2
  have F19 : Sta Z h12 "java/lang/String" "COMPACT_STRINGS" "Z" (.int zc) := F9.wr W12
  have F20 : Sta Z h12 "jdk/internal/util/Preconditions" "SIOOBE_FORMATTER" "Ljava/util/function/BiFunction;" fm := F10.wr W12
  have F21 : ownAI Z h12 b2 .boolean 128 (fun _ => (0 : Int32)) := F11.other W12 (Ne.symm ne_ao_b2)
  refine ownGo (T' := T12) (f' := (mkF m 13 #[rv ao, rv sx, .unset] [])) (st12) ?_
  refine ow_iconst (q := 14) X12 hx (0 : Int32) (hb hby own_d7_13) rfl rfl ?_
  refine ow_istoreN (q := 15) X12 hx (L' := #[rv ao, rv sx, iv (0 : Int32)]) (hb hby own_d7_14) rfl rfl ?_
  refine ow_iloadN (q := 16) X12 hx (hb hby own_d7_15) rfl rfl ?_
  refine ow_aloadN (q := 17) X12 hx (hb hby own_d7_16) rfl rfl rfl ?_
  obtain ⟨cq22, kq22, q22a, q22b, q22c⟩ := isOf hZ e12 F15
  obtain ⟨_, _, ⟨T22, L22, k22, n22⟩, -, X22, ⟨Lc22, hQ22, l22, y22, z22⟩, st22⟩ := X12.virtualBack hx (y := (⟨"java/lang/String", "length", "()I"⟩ : MethodName)) (z := (⟨"java/lang/String", "length", "()I"⟩ : MethodName)) hown (mvT hZ (ww 40 rfl)) (mvT hZ (ww 41 rfl)) (notFace_of_selects (args := #[]) (mvT hZ (ww 43 rfl))) (mvT hZ (ww 43 rfl)) (mvT hZ (ww 42 rfl)) (by decide) (backOf (W := 1) (rm_length3 l Z av0 hw [] sx t gb zc h12 n0 (Nat.le_trans Z0 K12.1) F15 F16 F17 F18 F19 hz) hZ (ww 44 rfl) (ww 6 rfl) (by decide) (by decide)) q22a q22c (g := (mkF m 17 #[rv ao, rv sx, iv (0 : Int32)] [(.ref sx), (.int (0 : Int32))])) rfl (by rw [hml]; rfl) (Steps.refl _) (argsL := []) (rest := [(.int (0 : Int32))]) (lenOf own_pd3 rfl) rfl (by show 2 * 0 + _ ≤ _; exact Nat.le_of_eq rfl) (hb hby own_d7_17) (fun _ _ => ⟨rfl, e12, (by decide : 1 + 0 ≤ _), (by decide : 128 + 0 ≤ _)⟩)
  dsimp only [Pt.U, Pt.locs, Pt.cells, Pt.slots] at X22 l22 y22 z22 st22 hQ22
  subst l22 y22 z22
  obtain ⟨rfl, N22q, e22⟩ := hQ22
  have N22 := Fr.app N12 N22q
  refine ownRun (T' := T22) (f' := (mkF m 20 #[rv ao, rv sx, iv (0 : Int32)] [(.int (3 : Int32)), (.int (0 : Int32))])) st22 ?_
  refine ow_icmpNo (q := 23) X22 hx (hb hby own_d7_20) rfl (Jvm.Free.XT.ii_ge_f (by decide)) ?_
  refine ow_aloadN (q := 24) X22 hx (hb hby own_d7_23) rfl rfl rfl ?_
  obtain ⟨T23, X23, e23, st23⟩ := getF X22 hx hZ hown (host := "") (Or.inl (ww 38 rfl)) Via.refl e22 F14 (g := (mkF m 24 #[rv ao, rv sx, iv (0 : Int32)] [(.ref ao)])) rfl rfl (hb hby own_d7_24)
  refine ownGo (T' := T23) (f' := (mkF m 27 #[rv ao, rv sx, iv (0 : Int32)] [(.ref b2)])) (st23) ?_
  refine ow_aloadN (q := 28) X23 hx (hb hby own_d7_27) rfl rfl rfl ?_
  refine ow_iloadN (q := 29) X23 hx (hb hby own_d7_28) rfl rfl ?_
  obtain ⟨cq24, kq24, q24a, q24b, q24c⟩ := isOf hZ e23 F15
  obtain ⟨_, _, ⟨T24, L24, k24, n24⟩, -, X24, ⟨Lc24, hQ24, l24, y24, z24⟩, st24⟩ := X23.virtualBack hx (y := (⟨"java/lang/String", "charAt", "(I)C"⟩ : MethodName)) (z := (⟨"java/lang/String", "charAt", "(I)C"⟩ : MethodName)) hown (mvT hZ (ww 50 rfl)) (mvT hZ (ww 51 rfl)) (notFace_of_selects (args := #[]) (mvT hZ (ww 53 rfl))) (mvT hZ (ww 53 rfl)) (mvT hZ (ww 52 rfl)) (by decide) (backOf (W := 1) (rm_charAt3 l Z av0 hw [] sx (0 : Int32) t gb zc fm h12 n0 (Nat.le_trans Z0 K12.1) F15 F16 F17 F18 F19 F20 (by decide) (by decide) hz hr_fm hok) hZ (ww 54 rfl) (ww 6 rfl) (by decide) (by decide)) q24a q24c (g := (mkF m 29 #[rv ao, rv sx, iv (0 : Int32)] [(.int (0 : Int32)), (.ref sx), (.ref b2)])) rfl (by rw [hml]; rfl) (Steps.refl _) (argsL := [(.int (0 : Int32))]) (rest := [(.ref b2)]) (lenOf own_pd7 rfl) rfl (by show 2 * 0 + _ ≤ _; exact Nat.le_of_eq rfl) (hb hby own_d7_29) (fun _ _ => ⟨rfl, e23, (by decide : 1 + 0 ≤ _), (by decide : 128 + 0 ≤ _)⟩)
  dsimp only [Pt.U, Pt.locs, Pt.cells, Pt.slots] at X24 l24 y24 z24 st24 hQ24
  subst l24 y24 z24
  obtain ⟨rfl, N24q, e24⟩ := hQ24
  have N24 := Fr.app N22 N24q
  refine ownRun (T' := T24) (f' := (mkF m 32 #[rv ao, rv sx, iv (0 : Int32)] [(.int (gb (0 : Int32).toNatClampNeg)), (.ref b2)])) st24 ?_
  refine ow_iconst (q := 33) X24 hx (1 : Int32) (hb hby own_d7_32) rfl rfl ?_
  generalize hv_v25 : (gb (0 : Int32).toNatClampNeg) = v25
  obtain ⟨T26, h26, X26, e26, W26, F26s, st26⟩ := ownZastore F21 X24 hx hZ e24 (j := v25) (own_inA (own_sub hv_v25 (hok _ (by decide)))) (g := (mkF m 33 #[rv ao, rv sx, iv (0 : Int32)] [(.int (1 : Int32)), (.int v25), (.ref b2)])) rfl rfl (hb hby own_d7_33)
  generalize hg_gf26 : (ownUpd (fun _ => (0 : Int32)) v25.toNatClampNeg (1 : Int32)) = gf26 at F26s
  have N26 := Fr.snoc X26 N24 G_b2
  have K26 : Keep h0 h26 [ao] := K12.wr W26 (Or.inr sz_b2)
  have F27 : Exa Z h26 ao "com/example/vellum4/vellum4/AsciiSet" := F13.wr W26
  have F28 : Fld Z h26 ao "com/example/vellum4/vellum4/AsciiSet" "members" "[Z" (.ref b2) := F14.other W26 (Or.inl ne_ao_b2)
  have F29 : Exa Z h26 sx "java/lang/String" := F15.wr W26
  have F30 : Fld Z h26 sx "java/lang/String" "value" "[B" (.ref t) := F16.other W26 (Or.inl ne_sx_b2)
  have F31 : Fld Z h26 sx "java/lang/String" "coder" "B" (.int (0 : Int32)) := F17.other W26 (Or.inl ne_sx_b2)
  have F32 : ownAI Z h26 t .byte 3 gb := F18.other W26 ne_t_b2
  have F33 : Sta Z h26 "java/lang/String" "COMPACT_STRINGS" "Z" (.int zc) := F19.wr W26
  have F34 : Sta Z h26 "jdk/internal/util/Preconditions" "SIOOBE_FORMATTER" "Ljava/util/function/BiFunction;" fm := F20.wr W26
  refine ownGo (T' := T26) (f' := (mkF m 34 #[rv ao, rv sx, iv (0 : Int32)] [])) (st26) ?_
  refine ow_iinc (q := 37) X26 hx (L' := #[rv ao, rv sx, iv (1 : Int32)]) (hb hby own_d7_34) rfl rfl rfl ?_
  refine ow_goto (q := 15) X26 hx (hb hby own_d7_37) (by decide) (by decide) ?_
  refine ow_iloadN (q := 16) X26 hx (hb hby own_d7_15) rfl rfl ?_
  refine ow_aloadN (q := 17) X26 hx (hb hby own_d7_16) rfl rfl rfl ?_
  obtain ⟨cq35, kq35, q35a, q35b, q35c⟩ := isOf hZ e26 F29
  obtain ⟨_, _, ⟨T35, L35, k35, n35⟩, -, X35, ⟨Lc35, hQ35, l35, y35, z35⟩, st35⟩ := X26.virtualBack hx (y := (⟨"java/lang/String", "length", "()I"⟩ : MethodName)) (z := (⟨"java/lang/String", "length", "()I"⟩ : MethodName)) hown (mvT hZ (ww 40 rfl)) (mvT hZ (ww 41 rfl)) (notFace_of_selects (args := #[]) (mvT hZ (ww 43 rfl))) (mvT hZ (ww 43 rfl)) (mvT hZ (ww 42 rfl)) (by decide) (backOf (W := 1) (rm_length3 l Z av0 hw [] sx t gb zc h26 n0 (Nat.le_trans Z0 K26.1) F29 F30 F31 F32 F33 hz) hZ (ww 44 rfl) (ww 6 rfl) (by decide) (by decide)) q35a q35c (g := (mkF m 17 #[rv ao, rv sx, iv (1 : Int32)] [(.ref sx), (.int (1 : Int32))])) rfl (by rw [hml]; rfl) (Steps.refl _) (argsL := []) (rest := [(.int (1 : Int32))]) (lenOf own_pd3 rfl) rfl (by show 2 * 0 + _ ≤ _; exact Nat.le_of_eq rfl) (hb hby own_d7_17) (fun _ _ => ⟨rfl, e26, (by decide : 1 + 0 ≤ _), (by decide : 128 + 0 ≤ _)⟩)
  dsimp only [Pt.U, Pt.locs, Pt.cells, Pt.slots] at X35 l35 y35 z35 st35 hQ35
  subst l35 y35 z35
  obtain ⟨rfl, N35q, e35⟩ := hQ35
  have N35 := Fr.app N26 N35q
  refine ownRun (T' := T35) (f' := (mkF m 20 #[rv ao, rv sx, iv (1 : Int32)] [(.int (3 : Int32)), (.int (1 : Int32))])) st35 ?_
  refine ow_icmpNo (q := 23) X35 hx (hb hby own_d7_20) rfl (Jvm.Free.XT.ii_ge_f (by decide)) ?_
  refine ow_aloadN (q := 24) X35 hx (hb hby own_d7_23) rfl rfl rfl ?_
  obtain ⟨T36, X36, e36, st36⟩ := getF X35 hx hZ hown (host := "") (Or.inl (ww 38 rfl)) Via.refl e35 F28 (g := (mkF m 24 #[rv ao, rv sx, iv (1 : Int32)] [(.ref ao)])) rfl rfl (hb hby own_d7_24)
  refine ownGo (T' := T36) (f' := (mkF m 27 #[rv ao, rv sx, iv (1 : Int32)] [(.ref b2)])) (st36) ?_
  refine ow_aloadN (q := 28) X36 hx (hb hby own_d7_27) rfl rfl rfl ?_
  refine ow_iloadN (q := 29) X36 hx (hb hby own_d7_28) rfl rfl ?_
  obtain ⟨cq37, kq37, q37a, q37b, q37c⟩ := isOf hZ e36 F29
  obtain ⟨_, _, ⟨T37, L37, k37, n37⟩, -, X37, ⟨Lc37, hQ37, l37, y37, z37⟩, st37⟩ := X36.virtualBack hx (y := (⟨"java/lang/String", "charAt", "(I)C"⟩ : MethodName)) (z := (⟨"java/lang/String", "charAt", "(I)C"⟩ : MethodName)) hown (mvT hZ (ww 50 rfl)) (mvT hZ (ww 51 rfl)) (notFace_of_selects (args := #[]) (mvT hZ (ww 53 rfl))) (mvT hZ (ww 53 rfl)) (mvT hZ (ww 52 rfl)) (by decide) (backOf (W := 1) (rm_charAt3 l Z av0 hw [] sx (1 : Int32) t gb zc fm h26 n0 (Nat.le_trans Z0 K26.1) F29 F30 F31 F32 F33 F34 (by decide) (by decide) hz hr_fm hok) hZ (ww 54 rfl) (ww 6 rfl) (by decide) (by decide)) q37a q37c (g := (mkF m 29 #[rv ao, rv sx, iv (1 : Int32)] [(.int (1 : Int32)), (.ref sx), (.ref b2)])) rfl (by rw [hml]; rfl) (Steps.refl _) (argsL := [(.int (1 : Int32))]) (rest := [(.ref b2)]) (lenOf own_pd7 rfl) rfl (by show 2 * 0 + _ ≤ _; exact Nat.le_of_eq rfl) (hb hby own_d7_29) (fun _ _ => ⟨rfl, e36, (by decide : 1 + 0 ≤ _), (by decide : 128 + 0 ≤ _)⟩)
  dsimp only [Pt.U, Pt.locs, Pt.cells, Pt.slots] at X37 l37 y37 z37 st37 hQ37
  subst l37 y37 z37
  obtain ⟨rfl, N37q, e37⟩ := hQ37
  have N37 := Fr.app N35 N37q
  refine ownRun (T' := T37) (f' := (mkF m 32 #[rv ao, rv sx, iv (1 : Int32)] [(.int (gb (1 : Int32).toNatClampNeg)), (.ref b2)])) st37 ?_
  refine ow_iconst (q := 33) X37 hx (1 : Int32) (hb hby own_d7_32) rfl rfl ?_
  generalize hv_v38 : (gb (1 : Int32).toNatClampNeg) = v38
  obtain ⟨T39, h39, X39, e39, W39, F39s, st39⟩ := ownZastore F26s X37 hx hZ e37 (j := v38) (own_inA (own_sub hv_v38 (hok _ (by decide)))) (g := (mkF m 33 #[rv ao, rv sx, iv (1 : Int32)] [(.int (1 : Int32)), (.int v38), (.ref b2)])) rfl rfl (hb hby own_d7_33)
  generalize hg_gf39 : (ownUpd gf26 v38.toNatClampNeg (1 : Int32)) = gf39 at F39s
  have N39 := Fr.snoc X39 N37 G_b2
  have K39 : Keep h0 h39 [ao] := K26.wr W39 (Or.inr sz_b2)
  have F40 : Exa Z h39 ao "com/example/vellum4/vellum4/AsciiSet" := F27.wr W39
  have F41 : Fld Z h39 ao "com/example/vellum4/vellum4/AsciiSet" "members" "[Z" (.ref b2) := F28.other W39 (Or.inl ne_ao_b2)
  have F42 : Exa Z h39 sx "java/lang/String" := F29.wr W39
  have F43 : Fld Z h39 sx "java/lang/String" "value" "[B" (.ref t) := F30.other W39 (Or.inl ne_sx_b2)
  have F44 : Fld Z h39 sx "java/lang/String" "coder" "B" (.int (0 : Int32)) := F31.other W39 (Or.inl ne_sx_b2)
  have F45 : ownAI Z h39 t .byte 3 gb := F32.other W39 ne_t_b2
  have F46 : Sta Z h39 "java/lang/String" "COMPACT_STRINGS" "Z" (.int zc) := F33.wr W39
  have F47 : Sta Z h39 "jdk/internal/util/Preconditions" "SIOOBE_FORMATTER" "Ljava/util/function/BiFunction;" fm := F34.wr W39
  refine ownGo (T' := T39) (f' := (mkF m 34 #[rv ao, rv sx, iv (1 : Int32)] [])) (st39) ?_
  refine ow_iinc (q := 37) X39 hx (L' := #[rv ao, rv sx, iv (2 : Int32)]) (hb hby own_d7_34) rfl rfl rfl ?_
  refine ow_goto (q := 15) X39 hx (hb hby own_d7_37) (by decide) (by decide) ?_
  refine ow_iloadN (q := 16) X39 hx (hb hby own_d7_15) rfl rfl ?_
  refine ow_aloadN (q := 17) X39 hx (hb hby own_d7_16) rfl rfl rfl ?_
  obtain ⟨cq48, kq48, q48a, q48b, q48c⟩ := isOf hZ e39 F42
  obtain ⟨_, _, ⟨T48, L48, k48, n48⟩, -, X48, ⟨Lc48, hQ48, l48, y48, z48⟩, st48⟩ := X39.virtualBack hx (y := (⟨"java/lang/String", "length", "()I"⟩ : MethodName)) (z := (⟨"java/lang/String", "length", "()I"⟩ : MethodName)) hown (mvT hZ (ww 40 rfl)) (mvT hZ (ww 41 rfl)) (notFace_of_selects (args := #[]) (mvT hZ (ww 43 rfl))) (mvT hZ (ww 43 rfl)) (mvT hZ (ww 42 rfl)) (by decide) (backOf (W := 1) (rm_length3 l Z av0 hw [] sx t gb zc h39 n0 (Nat.le_trans Z0 K39.1) F42 F43 F44 F45 F46 hz) hZ (ww 44 rfl) (ww 6 rfl) (by decide) (by decide)) q48a q48c (g := (mkF m 17 #[rv ao, rv sx, iv (2 : Int32)] [(.ref sx), (.int (2 : Int32))])) rfl (by rw [hml]; rfl) (Steps.refl _) (argsL := []) (rest := [(.int (2 : Int32))]) (lenOf own_pd3 rfl) rfl (by show 2 * 0 + _ ≤ _; exact Nat.le_of_eq rfl) (hb hby own_d7_17) (fun _ _ => ⟨rfl, e39, (by decide : 1 + 0 ≤ _), (by decide : 128 + 0 ≤ _)⟩)
  dsimp only [Pt.U, Pt.locs, Pt.cells, Pt.slots] at X48 l48 y48 z48 st48 hQ48
  subst l48 y48 z48
  obtain ⟨rfl, N48q, e48⟩ := hQ48
  have N48 := Fr.app N39 N48q
  refine ownRun (T' := T48) (f' := (mkF m 20 #[rv ao, rv sx, iv (2 : Int32)] [(.int (3 : Int32)), (.int (2 : Int32))])) st48 ?_
  refine ow_icmpNo (q := 23) X48 hx (hb hby own_d7_20) rfl (Jvm.Free.XT.ii_ge_f (by decide)) ?_
  refine ow_aloadN (q := 24) X48 hx (hb hby own_d7_23) rfl rfl rfl ?_
  obtain ⟨T49, X49, e49, st49⟩ := getF X48 hx hZ hown (host := "") (Or.inl (ww 38 rfl)) Via.refl e48 F41 (g := (mkF m 24 #[rv ao, rv sx, iv (2 : Int32)] [(.ref ao)])) rfl rfl (hb hby own_d7_24)
  refine ownGo (T' := T49) (f' := (mkF m 27 #[rv ao, rv sx, iv (2 : Int32)] [(.ref b2)])) (st49) ?_
  refine ow_aloadN (q := 28) X49 hx (hb hby own_d7_27) rfl rfl rfl ?_
  refine ow_iloadN (q := 29) X49 hx (hb hby own_d7_28) rfl rfl ?_
  obtain ⟨cq50, kq50, q50a, q50b, q50c⟩ := isOf hZ e49 F42
  obtain ⟨_, _, ⟨T50, L50, k50, n50⟩, -, X50, ⟨Lc50, hQ50, l50, y50, z50⟩, st50⟩ := X49.virtualBack hx (y := (⟨"java/lang/String", "charAt", "(I)C"⟩ : MethodName)) (z := (⟨"java/lang/String", "charAt", "(I)C"⟩ : MethodName)) hown (mvT hZ (ww 50 rfl)) (mvT hZ (ww 51 rfl)) (notFace_of_selects (args := #[]) (mvT hZ (ww 53 rfl))) (mvT hZ (ww 53 rfl)) (mvT hZ (ww 52 rfl)) (by decide) (backOf (W := 1) (rm_charAt3 l Z av0 hw [] sx (2 : Int32) t gb zc fm h39 n0 (Nat.le_trans Z0 K39.1) F42 F43 F44 F45 F46 F47 (by decide) (by decide) hz hr_fm hok) hZ (ww 54 rfl) (ww 6 rfl) (by decide) (by decide)) q50a q50c (g := (mkF m 29 #[rv ao, rv sx, iv (2 : Int32)] [(.int (2 : Int32)), (.ref sx), (.ref b2)])) rfl (by rw [hml]; rfl) (Steps.refl _) (argsL := [(.int (2 : Int32))]) (rest := [(.ref b2)]) (lenOf own_pd7 rfl) rfl (by show 2 * 0 + _ ≤ _; exact Nat.le_of_eq rfl) (hb hby own_d7_29) (fun _ _ => ⟨rfl, e49, (by decide : 1 + 0 ≤ _), (by decide : 128 + 0 ≤ _)⟩)
  dsimp only [Pt.U, Pt.locs, Pt.cells, Pt.slots] at X50 l50 y50 z50 st50 hQ50
  subst l50 y50 z50
  obtain ⟨rfl, N50q, e50⟩ := hQ50
  have N50 := Fr.app N48 N50q
  refine ownRun (T' := T50) (f' := (mkF m 32 #[rv ao, rv sx, iv (2 : Int32)] [(.int (gb (2 : Int32).toNatClampNeg)), (.ref b2)])) st50 ?_
  refine ow_iconst (q := 33) X50 hx (1 : Int32) (hb hby own_d7_32) rfl rfl ?_
  generalize hv_v51 : (gb (2 : Int32).toNatClampNeg) = v51
  obtain ⟨T52, h52, X52, e52, W52, F52s, st52⟩ := ownZastore F39s X50 hx hZ e50 (j := v51) (own_inA (own_sub hv_v51 (hok _ (by decide)))) (g := (mkF m 33 #[rv ao, rv sx, iv (2 : Int32)] [(.int (1 : Int32)), (.int v51), (.ref b2)])) rfl rfl (hb hby own_d7_33)
  generalize hg_gf52 : (ownUpd gf39 v51.toNatClampNeg (1 : Int32)) = gf52 at F52s
  have N52 := Fr.snoc X52 N50 G_b2
  have K52 : Keep h0 h52 [ao] := K39.wr W52 (Or.inr sz_b2)
  have F53 : Exa Z h52 ao "com/example/vellum4/vellum4/AsciiSet" := F40.wr W52
  have F54 : Fld Z h52 ao "com/example/vellum4/vellum4/AsciiSet" "members" "[Z" (.ref b2) := F41.other W52 (Or.inl ne_ao_b2)
  have F55 : Exa Z h52 sx "java/lang/String" := F42.wr W52
  have F56 : Fld Z h52 sx "java/lang/String" "value" "[B" (.ref t) := F43.other W52 (Or.inl ne_sx_b2)
  have F57 : Fld Z h52 sx "java/lang/String" "coder" "B" (.int (0 : Int32)) := F44.other W52 (Or.inl ne_sx_b2)
  have F58 : ownAI Z h52 t .byte 3 gb := F45.other W52 ne_t_b2
  have F59 : Sta Z h52 "java/lang/String" "COMPACT_STRINGS" "Z" (.int zc) := F46.wr W52
  have F60 : Sta Z h52 "jdk/internal/util/Preconditions" "SIOOBE_FORMATTER" "Ljava/util/function/BiFunction;" fm := F47.wr W52
  refine ownGo (T' := T52) (f' := (mkF m 34 #[rv ao, rv sx, iv (2 : Int32)] [])) (st52) ?_
  refine ow_iinc (q := 37) X52 hx (L' := #[rv ao, rv sx, iv (3 : Int32)]) (hb hby own_d7_34) rfl rfl rfl ?_
  refine ow_goto (q := 15) X52 hx (hb hby own_d7_37) (by decide) (by decide) ?_
  refine ow_iloadN (q := 16) X52 hx (hb hby own_d7_15) rfl rfl ?_
  refine ow_aloadN (q := 17) X52 hx (hb hby own_d7_16) rfl rfl rfl ?_
  obtain ⟨cq61, kq61, q61a, q61b, q61c⟩ := isOf hZ e52 F55
  obtain ⟨_, _, ⟨T61, L61, k61, n61⟩, -, X61, ⟨Lc61, hQ61, l61, y61, z61⟩, st61⟩ := X52.virtualBack hx (y := (⟨"java/lang/String", "length", "()I"⟩ : MethodName)) (z := (⟨"java/lang/String", "length", "()I"⟩ : MethodName)) hown (mvT hZ (ww 40 rfl)) (mvT hZ (ww 41 rfl)) (notFace_of_selects (args := #[]) (mvT hZ (ww 43 rfl))) (mvT hZ (ww 43 rfl)) (mvT hZ (ww 42 rfl)) (by decide) (backOf (W := 1) (rm_length3 l Z av0 hw [] sx t gb zc h52 n0 (Nat.le_trans Z0 K52.1) F55 F56 F57 F58 F59 hz) hZ (ww 44 rfl) (ww 6 rfl) (by decide) (by decide)) q61a q61c (g := (mkF m 17 #[rv ao, rv sx, iv (3 : Int32)] [(.ref sx), (.int (3 : Int32))])) rfl (by rw [hml]; rfl) (Steps.refl _) (argsL := []) (rest := [(.int (3 : Int32))]) (lenOf own_pd3 rfl) rfl (by show 2 * 0 + _ ≤ _; exact Nat.le_of_eq rfl) (hb hby own_d7_17) (fun _ _ => ⟨rfl, e52, (by decide : 1 + 0 ≤ _), (by decide : 128 + 0 ≤ _)⟩)
  dsimp only [Pt.U, Pt.locs, Pt.cells, Pt.slots] at X61 l61 y61 z61 st61 hQ61
  subst l61 y61 z61
  obtain ⟨rfl, N61q, e61⟩ := hQ61
  have N61 := Fr.app N52 N61q
  refine ownRun (T' := T61) (f' := (mkF m 20 #[rv ao, rv sx, iv (3 : Int32)] [(.int (3 : Int32)), (.int (3 : Int32))])) st61 ?_
  refine ow_icmpYes (q := 40) X61 hx (hb hby own_d7_20) (Jvm.Free.XT.ii_ge_t (by decide)) (by decide) (by decide) ?_
  refine ownRetV X61 hx Bd.returns (hb hby own_d7_40) hlk (by decide) (by decide) ?_
  subst hg_gf52 hv_v51 hg_gf39 hv_v38 hg_gf26 hv_v25
  rw [e61]
  exact ⟨b2, rfl, N61, K52, sz_b2, F54, F52s⟩
theorem own_d15_0 : decode prog_1_method_3_code 0 = .ok (.iload_n 1, 1) := by decide +kernel
theorem own_d15_1 : decode prog_1_method_3_code 1 = .ok (.ifCond .lt 25, 3) := by decide +kernel
theorem own_d15_26 : decode prog_1_method_3_code 26 = .ok (.iconst 0, 1) := by decide +kernel
theorem own_d15_27 : decode prog_1_method_3_code 27 = .ok (.ireturn, 1) := by decide +kernel
theorem own_d15_4 : decode prog_1_method_3_code 4 = .ok (.iload_n 1, 1) := by decide +kernel
theorem own_d15_5 : decode prog_1_method_3_code 5 = .ok (.aload_n 0, 1) := by decide +kernel
theorem own_d15_6 : decode prog_1_method_3_code 6 = .ok (.getfield 7, 3) := by decide +kernel
theorem own_d15_9 : decode prog_1_method_3_code 9 = .ok (.arraylength, 1) := by decide +kernel
theorem own_d15_10 : decode prog_1_method_3_code 10 = .ok (.if_icmp .ge 16, 3) := by decide +kernel
theorem own_d15_13 : decode prog_1_method_3_code 13 = .ok (.aload_n 0, 1) := by decide +kernel
theorem own_d15_14 : decode prog_1_method_3_code 14 = .ok (.getfield 7, 3) := by decide +kernel
theorem own_d15_17 : decode prog_1_method_3_code 17 = .ok (.iload_n 1, 1) := by decide +kernel
theorem own_d15_18 : decode prog_1_method_3_code 18 = .ok (.baload, 1) := by decide +kernel
theorem own_d15_19 : decode prog_1_method_3_code 19 = .ok (.ifCond .eq 7, 3) := by decide +kernel
theorem own_d15_22 : decode prog_1_method_3_code 22 = .ok (.iconst 1, 1) := by decide +kernel
theorem own_d15_23 : decode prog_1_method_3_code 23 = .ok (.goto 4, 3) := by decide +kernel
theorem own_ef15_contains (m : MethodId) (ao : Addr) (p1 : Int32) : entryFrame m #[(.ref ao), (.int p1)] 2 = mkF m 0 #[rv ao, iv p1] [] := by first | (simp [entryFrame, mkF, argsToLocals, Value.category]; done) | rfl
def Q_contains (Z : State) (ao : Addr) (p1 : Int32) (mb : Addr) (gm : Nat → Int32) (h0 : Heap) (n0 : Nat) (v : Option Value) (h : Heap) (L : List Loc) : Prop := ∃ (r : Int32), v = some (.int r) ∧ Fr n0 L ∧ h = h0 ∧ ((r = (1 : Int32) ∧ ¬ p1 < (0 : Int32) ∧ p1 < (128 : Int32) ∧ ¬ gm p1.toNatClampNeg = 0) ∨ (r = (0 : Int32) ∧ (p1 < (0 : Int32) ∨ ¬ p1 < (128 : Int32) ∨ gm p1.toNatClampNeg = 0)))
set_option maxRecDepth 65536 in
set_option maxHeartbeats 40000000 in
theorem rm_contains (l : Launch) (Z : State) (av0 : Array Value) (hw : ∀ d ∈ tables_1, d.before av0 Z = true) (ws : List Jvm.Cond) (ao : Addr) (p1 : Int32) (mb : Addr) (gm : Nat → Int32) (h0 : Heap) (n0 : Nat) (Z0 : n0 ≤ h0.size) (HF0 : Fld Z h0 ao "com/example/vellum4/vellum4/AsciiSet" "members" "[Z" (.ref mb)) (HF1 : ownAI Z h0 mb .boolean 128 gm) :
    MetFree l (⟨"com/example/vellum4/vellum4/AsciiSet", "contains", "(I)Z"⟩ : MethodName) (head1 (Jvm.Cond.code (⟨"com/example/vellum4/vellum4/AsciiSet", "contains", "(I)Z"⟩ : MethodName) prog_1_method_3_code 2 (some .boolean) :: ws) ({ frames := 0, cells := 0, slots := 0, locals := 0 } : Room)) (fun a U => a = #[(.ref ao), (.int p1)] ∧ Z.Warmed39 U.vm ∧ U.heap = h0) (fun _ _ _ _ _ => True) (fun _ U o U' => ∃ v L, o = .returned v ∧ (Q_contains Z ao p1 mb gm h0 n0) v U'.heap L ∧ FrameEnd U o U' L ({ frames := 0, cells := 0, slots := 0, locals := 0 } : Room).cells ({ frames := 0, cells := 0, slots := 0, locals := 0 } : Room).slots) := by
  refine MetFree.of_bodySF (plainFor_of_name own_pn_AsciiSet) hisR ?_
  intro p e s m args below meth c s₁ Bd hml0 hP hK
  obtain ⟨rfl, hZ, hh⟩ := hP
  have hx := Bd.exec
  have hby := Bd.bytes
  have hml : c.maxLocals = 2 := hml0
  have hown : s.vm.findClass "com/example/vellum4/vellum4/AsciiSet" = some m.cls := findClass_of_methodNamed Bd.named
  have hnm := (name_of_methodNamed Bd.named Bd.method).1
  have hlk : meth.locks = false := BodyLoose.notSynchronized Bd
  have X0 : Stand p l e ({ frames := 0, cells := 0, slots := 0, locals := 0 } : Room) s m #[(.ref ao), (.int p1)] below meth c s₁ [] 0 0 := Stand.of_body Bd
  have e0 : s₁.heap = h0 := by rw [← hh, Bd.state]; rfl
  have N0 := Fr.nil n0
  have K0 : Keep h0 h0 [] := Keep.refl _ _
  have ww : ∀ (k : Nat) {d : Jvm.Cond}, tables_1[k]? = some d → d.before av0 Z = true := fun k d h => hw d (List.mem_of_getElem? h)
  show ownEnds p e below s (Q_contains Z ao p1 mb gm h0 n0) ({ frames := 0, cells := 0, slots := 0, locals := 0 } : Room).cells ({ frames := 0, cells := 0, slots := 0, locals := 0 } : Room).slots s₁ (entryFrame m #[(.ref ao), (.int p1)] 2)
  refine ownCast (own_ef15_contains m ao p1) ?_
  refine ow_iloadN (q := 1) X0 hx (hb hby own_d15_0) rfl rfl ?_
  by_cases hc1_1 : p1 < (0 : Int32)
  · refine ow_ifYes (q := 26) X0 hx (hb hby own_d15_1) (Jvm.Free.XT.i0_lt_t hc1_1) (by decide) (by decide) ?_
    refine ow_iconst (q := 27) X0 hx (0 : Int32) (hb hby own_d15_26) rfl rfl ?_
    refine ownRetN X0 hx (r := (0 : Int32)) (Or.inl rfl) Bd.returns (hb hby own_d15_27) hlk (by decide) (by decide) (by decide) ?_
    rw [e0]
    refine ⟨(0 : Int32), rfl, N0, rfl, ?_⟩
    exact Or.inr ⟨rfl, Or.inl hc1_1⟩
  · refine ow_ifNo (q := 4) X0 hx (hb hby own_d15_1) rfl (Jvm.Free.XT.i0_lt_f hc1_1) ?_
    refine ow_iloadN (q := 5) X0 hx (hb hby own_d15_4) rfl rfl ?_
    refine ow_aloadN (q := 6) X0 hx (hb hby own_d15_5) rfl rfl rfl ?_
    obtain ⟨T2, X2, e2, st2⟩ := getF X0 hx hZ hown (host := "") (Or.inl (ww 38 rfl)) Via.refl e0 HF0 (g := (mkF m 6 #[rv ao, iv p1] [(.ref ao), (.int p1)])) rfl rfl (hb hby own_d15_6)
    refine ownGo (T' := T2) (f' := (mkF m 9 #[rv ao, iv p1] [(.ref mb), (.int p1)])) (st2) ?_
    refine ownGo (T' := T2) (f' := (mkF m 10 #[rv ao, iv p1] [(.int (128 : Int32)), (.int p1)])) (ownLenI HF1 X2 hx hZ e2 (z := (128 : Int32)) (by decide) (g := (mkF m 9 #[rv ao, iv p1] [(.ref mb), (.int p1)])) rfl rfl (hb hby own_d15_9)) ?_
    by_cases hc10_3 : p1 < (128 : Int32)
    · refine ow_icmpNo (q := 13) X2 hx (hb hby own_d15_10) rfl (Jvm.Free.XT.ii_ge_f hc10_3) ?_
      refine ow_aloadN (q := 14) X2 hx (hb hby own_d15_13) rfl rfl rfl ?_
      obtain ⟨T4, X4, e4, st4⟩ := getF X2 hx hZ hown (host := "") (Or.inl (ww 38 rfl)) Via.refl e2 HF0 (g := (mkF m 14 #[rv ao, iv p1] [(.ref ao)])) rfl rfl (hb hby own_d15_14)
      refine ownGo (T' := T4) (f' := (mkF m 17 #[rv ao, iv p1] [(.ref mb)])) (st4) ?_
      refine ow_iloadN (q := 18) X4 hx (hb hby own_d15_17) rfl rfl ?_
      refine ownGo (T' := T4) (f' := (mkF m 19 #[rv ao, iv p1] [(.int (gm p1.toNatClampNeg))])) (ownZaload HF1 X4 hx hZ e4 (j := p1) (own_in hc1_1 hc10_3 rfl) (g := (mkF m 18 #[rv ao, iv p1] [(.int p1), (.ref mb)])) rfl rfl (hb hby own_d15_18)) ?_
      generalize hv_v5 : (gm p1.toNatClampNeg) = v5
      by_cases hc19_6 : v5 = (0 : Int32)
      · refine ow_ifYes (q := 26) X4 hx (hb hby own_d15_19) (Jvm.Free.XT.i0_eq_t hc19_6) (by decide) (by decide) ?_
        refine ow_iconst (q := 27) X4 hx (0 : Int32) (hb hby own_d15_26) rfl rfl ?_
        refine ownRetN X4 hx (r := (0 : Int32)) (Or.inl rfl) Bd.returns (hb hby own_d15_27) hlk (by decide) (by decide) (by decide) ?_
        rw [e4]
        refine ⟨(0 : Int32), rfl, N0, rfl, ?_⟩
        exact Or.inr ⟨rfl, Or.inr (Or.inr (own_z hv_v5 hc19_6))⟩
      · refine ow_ifNo (q := 22) X4 hx (hb hby own_d15_19) rfl (Jvm.Free.XT.i0_eq_f hc19_6) ?_
        refine ow_iconst (q := 23) X4 hx (1 : Int32) (hb hby own_d15_22) rfl rfl ?_
        refine ow_goto (q := 27) X4 hx (hb hby own_d15_23) (by decide) (by decide) ?_
        refine ownRetN X4 hx (r := (1 : Int32)) (Or.inl rfl) Bd.returns (hb hby own_d15_27) hlk (by decide) (by decide) (by decide) ?_
        rw [e4]
        refine ⟨(1 : Int32), rfl, N0, rfl, ?_⟩
        exact Or.inl ⟨rfl, hc1_1, hc10_3, own_nz hv_v5 hc19_6⟩
    · refine ow_icmpYes (q := 26) X2 hx (hb hby own_d15_10) (Jvm.Free.XT.ii_ge_t hc10_3) (by decide) (by decide) ?_
      refine ow_iconst (q := 27) X2 hx (0 : Int32) (hb hby own_d15_26) rfl rfl ?_
      refine ownRetN X2 hx (r := (0 : Int32)) (Or.inl rfl) Bd.returns (hb hby own_d15_27) hlk (by decide) (by decide) (by decide) ?_
      rw [e2]
      refine ⟨(0 : Int32), rfl, N0, rfl, ?_⟩
      exact Or.inr ⟨rfl, Or.inr (Or.inl hc10_3)⟩
theorem own_pn_AsciiSetContainsPinLaw : plainName "com/example/vellum4/vellum4/AsciiSetContainsPinLaw" = true := by first | (simp [plainName, overriddenIn]; done) | decide +kernel
theorem own_pd8 : parseMethodDescriptor "([C)V" = some ⟨[(.array .char)], none⟩ := by decide +kernel
theorem own_pd9 : parseMethodDescriptor "(Ljava/lang/String;)V" = some ⟨[(.object "java/lang/String")], none⟩ := by decide +kernel
theorem own_pd10 : parseMethodDescriptor "(I)Z" = some ⟨[.int], some .boolean⟩ := by decide +kernel
theorem own_ef0_law (m : MethodId) (p0 : Int32) (p1 : Int32) (p2 : Int32) (p3 : Int32) (p4 : Int32) (p5 : Int32) : entryFrame m #[(.int p0), (.int p1), (.int p2), (.int p3), (.int p4), (.int p5)] maxLocals = mkF m 0 #[iv p0, iv p1, iv p2, iv p3, iv p4, iv p5, .unset, .unset, .unset, .unset, .unset, .unset, .unset, .unset, .unset] [] := by first | (simp [entryFrame, mkF, argsToLocals, Value.category, maxLocals]; done) | rfl
def Q_law (Z : State) (p0 : Int32) (p1 : Int32) (p2 : Int32) (p3 : Int32) (p4 : Int32) (p5 : Int32) (zc : Int32) (fm : Value) (h0 : Heap) (n0 : Nat) (v : Option Value) (h : Heap) (L : List Loc) : Prop := v = some (.int 1) ∧ Fr n0 L
set_option maxRecDepth 65536 in
set_option maxHeartbeats 40000000 in
theorem rm_law (l : Launch) (Z : State) (av0 : Array Value) (hw : ∀ d ∈ tables_1, d.before av0 Z = true) (ws : List Jvm.Cond) (p0 : Int32) (p1 : Int32) (p2 : Int32) (p3 : Int32) (p4 : Int32) (p5 : Int32) (zc : Int32) (fm : Value) (h0 : Heap) (n0 : Nat) (Z0 : n0 ≤ h0.size) (HF0 : Sta Z h0 "java/lang/String" "COMPACT_STRINGS" "Z" (.int zc)) (HF1 : Sta Z h0 "jdk/internal/util/Preconditions" "SIOOBE_FORMATTER" "Ljava/util/function/BiFunction;" fm) (hz : ¬ zc = (0 : Int32)) (hr_fm : fm.isRef = true) :
    MetFree l x (head1 (Jvm.Cond.code x code maxLocals ret :: ws) room_1) (fun a U => a = #[(.int p0), (.int p1), (.int p2), (.int p3), (.int p4), (.int p5)] ∧ Z.Warmed39 U.vm ∧ U.heap = h0 ∧ CHv Z [("java/lang/String", 7)] U.vm h0) (fun _ _ _ _ _ => True) (fun _ U o U' => ∃ v L, o = .returned v ∧ (Q_law Z p0 p1 p2 p3 p4 p5 zc fm h0 n0) v U'.heap L ∧ ReturnedEndW U o U' L 24 1408) := by
  refine MetFree.of_bodySF (plainFor_of_name own_pn_AsciiSetContainsPinLaw) hisR ?_
  intro p e s m args below meth c s₁ Bd hml0 hP hK
  obtain ⟨rfl, hZ, hh, hCH⟩ := hP
  have hx := Bd.exec
  have hby := Bd.bytes
  have hml : c.maxLocals = 15 := hml0
  have hown : s.vm.findClass "com/example/vellum4/vellum4/AsciiSetContainsPinLaw" = some m.cls := findClass_of_methodNamed Bd.named
  have hnm := (name_of_methodNamed Bd.named Bd.method).1
  have hlk : meth.locks = false := BodyLoose.notSynchronized Bd
  have X0 : Stand p l e room_1 s m #[(.int p0), (.int p1), (.int p2), (.int p3), (.int p4), (.int p5)] below meth c s₁ [] 0 0 := Stand.of_body Bd
  have e0 : s₁.heap = h0 := by rw [← hh, Bd.state]; rfl
  have N0 := Fr.nil n0
  have K0 : Keep h0 h0 [] := Keep.refl _ _
  have ww : ∀ (k : Nat) {d : Jvm.Cond}, tables_1[k]? = some d → d.before av0 Z = true := fun k d h => hw d (List.mem_of_getElem? h)
  show ownEndsW p e below s (Q_law Z p0 p1 p2 p3 p4 p5 zc fm h0 n0) 24 1408 s₁ (entryFrame m #[(.int p0), (.int p1), (.int p2), (.int p3), (.int p4), (.int p5)] maxLocals)
  refine ownCastW (own_ef0_law m p0 p1 p2 p3 p4 p5) ?_
  refine ow_iloadNW (q := 1) X0 hx (hb hby at_0) rfl rfl ?_
  refine ow_bipushW (q := 3) X0 hx (127 : Int32) (hb hby at_1) rfl rfl ?_
  refine ow_iandW (q := 4) X0 hx _ (hb hby at_3) rfl rfl ?_
  refine ow_i2cW (q := 5) X0 hx _ (hb hby at_4) rfl rfl ?_
  generalize hv_v1 : ((p0 &&& (127 : Int32)).toUInt32.toUInt16.toUInt32.toInt32) = v1
  refine ow_istoreW (q := 7) X0 hx (L' := #[iv p0, iv p1, iv p2, iv p3, iv p4, iv p5, iv v1, .unset, .unset, .unset, .unset, .unset, .unset, .unset, .unset]) (hb hby at_5) rfl rfl ?_
  refine ow_iloadNW (q := 8) X0 hx (hb hby at_7) rfl rfl ?_
  refine ow_bipushW (q := 10) X0 hx (127 : Int32) (hb hby at_8) rfl rfl ?_
  refine ow_iandW (q := 11) X0 hx _ (hb hby at_10) rfl rfl ?_
  refine ow_i2cW (q := 12) X0 hx _ (hb hby at_11) rfl rfl ?_
  generalize hv_v2 : ((p1 &&& (127 : Int32)).toUInt32.toUInt16.toUInt32.toInt32) = v2
  refine ow_istoreW (q := 14) X0 hx (L' := #[iv p0, iv p1, iv p2, iv p3, iv p4, iv p5, iv v1, iv v2, .unset, .unset, .unset, .unset, .unset, .unset, .unset]) (hb hby at_12) rfl rfl ?_
  refine ow_iloadNW (q := 15) X0 hx (hb hby at_14) rfl rfl ?_
  refine ow_bipushW (q := 17) X0 hx (127 : Int32) (hb hby at_15) rfl rfl ?_
  refine ow_iandW (q := 18) X0 hx _ (hb hby at_17) rfl rfl ?_
  refine ow_i2cW (q := 19) X0 hx _ (hb hby at_18) rfl rfl ?_
  generalize hv_v3 : ((p2 &&& (127 : Int32)).toUInt32.toUInt16.toUInt32.toInt32) = v3
  refine ow_istoreW (q := 21) X0 hx (L' := #[iv p0, iv p1, iv p2, iv p3, iv p4, iv p5, iv v1, iv v2, iv v3, .unset, .unset, .unset, .unset, .unset, .unset]) (hb hby at_19) rfl rfl ?_
  refine ow_iloadNW (q := 22) X0 hx (hb hby at_21) rfl rfl ?_
  refine ow_iconstW (q := 23) X0 hx (3 : Int32) (hb hby at_22) rfl rfl ?_
  refine ow_iandW (q := 24) X0 hx _ (hb hby at_23) rfl rfl ?_
  generalize hv_v4 : (p3 &&& (3 : Int32)) = v4
  refine ow_istoreW (q := 26) X0 hx (L' := #[iv p0, iv p1, iv p2, iv p3, iv p4, iv p5, iv v1, iv v2, iv v3, iv v4, .unset, .unset, .unset, .unset, .unset]) (hb hby at_24) rfl rfl ?_
  rcases (own_and3 hv_v4) with hs5 | hs6 | hs7 | hs8
  · subst hs5
    refine ow_iloadW (q := 28) X0 hx (hb hby at_26) rfl rfl ?_
    refine ow_ifNoW (q := 31) X0 hx (hb hby at_28) rfl (Jvm.Free.XT.i0_ne_f (by decide)) ?_
    refine ow_iconstW (q := 32) X0 hx (0 : Int32) (hb hby at_31) rfl rfl ?_
    obtain ⟨T9, h9, k9, X9, e9, E9, A9, st9⟩ := newP X0 hx hZ (ww 0 rfl) e0 (g := (mkF m 32 #[iv p0, iv p1, iv p2, iv p3, iv p4, iv p5, iv v1, iv v2, iv v3, iv (0 : Int32), .unset, .unset, .unset, .unset, .unset] [(.int (0 : Int32))])) rfl (hb hby at_32) rfl (by decide) (cap := 0) (by decide) (by decide) (by decide) (by decide)
    obtain ⟨b9, g9⟩ : ∃ z, z = h0.size := ⟨_, rfl⟩
    rw [← g9] at A9 st9
    have sz_b9 : h0.size ≤ b9 := Nat.le_trans K0.1 (Nat.le_of_eq g9.symm)
    have G_b9 : n0 ≤ b9 := Nat.le_trans Z0 sz_b9
    have K9 : Keep h0 h9 [] := K0.ext E9
    have F10 : Sta Z h9 "java/lang/String" "COMPACT_STRINGS" "Z" (.int zc) := HF0.ext E9
    have F11 : Sta Z h9 "jdk/internal/util/Preconditions" "SIOOBE_FORMATTER" "Ljava/util/function/BiFunction;" fm := HF1.ext E9
    have F12 : ownAI Z h9 b9 .char 0 (fun _ => (0 : Int32)) := ownAI.new A9 (by decide) rfl (by decide)
    refine ownGoW (T' := T9) (f' := (mkF m 34 #[iv p0, iv p1, iv p2, iv p3, iv p4, iv p5, iv v1, iv v2, iv v3, iv (0 : Int32), .unset, .unset, .unset, .unset, .unset] [(.ref b9)])) (st9) ?_
    refine ow_astoreW (q := 36) X9 hx (L' := #[iv p0, iv p1, iv p2, iv p3, iv p4, iv p5, iv v1, iv v2, iv v3, iv (0 : Int32), rv b9, .unset, .unset, .unset, .unset]) (hb hby at_34) rfl rfl rfl ?_
    refine ow_gotoW (q := 102) X9 hx (hb hby at_36) (by decide) (by decide) ?_
    obtain ⟨T13, h13, X13, e13, E13, A13, D13, -, st13⟩ := newO X9 hx hZ hown (ww 1 rfl) (ww 2 rfl) (ww 3 rfl) e9 (g := (mkF m 102 #[iv p0, iv p1, iv p2, iv p3, iv p4, iv p5, iv v1, iv v2, iv v3, iv (0 : Int32), rv b9, .unset, .unset, .unset, .unset] [])) rfl (hb hby at_102) (by decide) (by decide)
    obtain ⟨b13, g13⟩ : ∃ z, z = h9.size := ⟨_, rfl⟩
    rw [← g13] at A13 D13 st13
    have ne_b9_b13 : b9 ≠ b13 := Nat.ne_of_lt (Nat.lt_of_lt_of_le F12.lt (Nat.le_of_eq g13.symm))
    have sz_b13 : h0.size ≤ b13 := Nat.le_trans K9.1 (Nat.le_of_eq g13.symm)
    have G_b13 : n0 ≤ b13 := Nat.le_trans Z0 sz_b13
    have K13 : Keep h0 h13 [] := K9.ext E13
    have F14 : Sta Z h13 "java/lang/String" "COMPACT_STRINGS" "Z" (.int zc) := F10.ext E13
    have F15 : Sta Z h13 "jdk/internal/util/Preconditions" "SIOOBE_FORMATTER" "Ljava/util/function/BiFunction;" fm := F11.ext E13
    have F16 : ownAI Z h13 b9 .char 0 (fun _ => (0 : Int32)) := F12.ext E13
    have F17 : Fld Z h13 b13 "com/example/vellum4/vellum4/AsciiSet" "members" "[Z" .null := D13 (Or.inr (ww 39 rfl)) (ty := (.array .boolean)) (by decide)
    refine ownGoW (T' := T13) (f' := (mkF m 105 #[iv p0, iv p1, iv p2, iv p3, iv p4, iv p5, iv v1, iv v2, iv v3, iv (0 : Int32), rv b9, .unset, .unset, .unset, .unset] [(.ref b13)])) (st13) ?_
    refine ow_dupW (q := 106) X13 hx (hb hby at_105) rfl rfl ?_
    obtain ⟨T18, h18, X18, e18, E18, A18, D18, -, st18⟩ := newO X13 hx hZ hown (ww 4 rfl) (ww 5 rfl) (ww 6 rfl) e13 (g := (mkF m 106 #[iv p0, iv p1, iv p2, iv p3, iv p4, iv p5, iv v1, iv v2, iv v3, iv (0 : Int32), rv b9, .unset, .unset, .unset, .unset] [(.ref b13), (.ref b13)])) rfl (hb hby at_106) (by decide) (by decide)
    obtain ⟨b18, g18⟩ : ∃ z, z = h13.size := ⟨_, rfl⟩
    rw [← g18] at A18 D18 st18
    have ne_b9_b18 : b9 ≠ b18 := Nat.ne_of_lt (Nat.lt_of_lt_of_le F16.lt (Nat.le_of_eq g18.symm))
    have ne_b13_b18 : b13 ≠ b18 := Nat.ne_of_lt (Nat.lt_of_lt_of_le A13.lt (Nat.le_of_eq g18.symm))
    have sz_b18 : h0.size ≤ b18 := Nat.le_trans K13.1 (Nat.le_of_eq g18.symm)
    have G_b18 : n0 ≤ b18 := Nat.le_trans Z0 sz_b18
    have K18 : Keep h0 h18 [] := K13.ext E18
    have F19 : Sta Z h18 "java/lang/String" "COMPACT_STRINGS" "Z" (.int zc) := F14.ext E18
    have F20 : Sta Z h18 "jdk/internal/util/Preconditions" "SIOOBE_FORMATTER" "Ljava/util/function/BiFunction;" fm := F15.ext E18
    have F21 : ownAI Z h18 b9 .char 0 (fun _ => (0 : Int32)) := F16.ext E18
    have F22 : Exa Z h18 b13 "com/example/vellum4/vellum4/AsciiSet" := A13.ext E18
    have F23 : Fld Z h18 b13 "com/example/vellum4/vellum4/AsciiSet" "members" "[Z" .null := F17.ext E18
    have F24 : Fld Z h18 b18 "java/lang/String" "coder" "B" (.int (0 : Int32)) := D18 (Or.inr (ww 30 rfl)) (ty := .byte) (by decide)
    have F25 : Fld Z h18 b18 "java/lang/String" "value" "[B" .null := D18 (Or.inr (ww 32 rfl)) (ty := (.array .byte)) (by decide)
    refine ownGoW (T' := T18) (f' := (mkF m 109 #[iv p0, iv p1, iv p2, iv p3, iv p4, iv p5, iv v1, iv v2, iv v3, iv (0 : Int32), rv b9, .unset, .unset, .unset, .unset] [(.ref b18), (.ref b13), (.ref b13)])) (st18) ?_
    refine ow_dupW (q := 110) X18 hx (hb hby at_109) rfl rfl ?_
    refine ow_aloadW (q := 112) X18 hx (hb hby at_110) rfl rfl rfl ?_
    obtain ⟨_, _, ⟨T26, L26, k26, n26⟩, -, X26, hS26, gr26, ⟨Lc26, hQ26, l26, y26, z26⟩, st26⟩ := X18.specialBackS hx (y := (⟨"java/lang/String", "<init>", "([C)V"⟩ : MethodName)) rfl hown (mvT hZ (ww 7 rfl)) (mvT hZ (ww 8 rfl)) (mvT hZ (ww 9 rfl)) (by decide) (backOfX (W := 3) (rm_str0 l Z av0 hw [] b18 b9 (fun _ => (0 : Int32)) h18 n0 (Nat.le_trans Z0 K18.1) A18 F25 F24 F21 G_b18 ne_b9_b18) hZ (ww 9 rfl) (ww 6 rfl) (by decide) (by decide) (own_EW hw) (CHv.ext E18 (CHv.ext E13 (CHv.ext E9 hCH))) (ownSafeNew g18 (CHv.ext E13 (CHv.ext E9 hCH)) E18) A18.lt) (g := (mkF m 112 #[iv p0, iv p1, iv p2, iv p3, iv p4, iv p5, iv v1, iv v2, iv v3, iv (0 : Int32), rv b9, .unset, .unset, .unset, .unset] [(.ref b9), (.ref b18), (.ref b18), (.ref b13), (.ref b13)])) rfl (by rw [hml]; rfl) (Steps.refl _) (a := b18) (argsL := [(.ref b9)]) (rest := [(.ref b18), (.ref b13), (.ref b13)]) (lenOf own_pd8 rfl) rfl (by show 2 * 0 + _ ≤ _; exact Nat.le_of_eq rfl) (hb hby at_112) (fun _ _ => ⟨rfl, e18, (by decide : 3 + 2 ≤ _), (by decide : 5 + 4 ≤ _)⟩)
    dsimp only [Pt.U, Pt.locs, Pt.cells, Pt.slots] at X26 l26 y26 z26 st26 hQ26 hS26 gr26
    subst l26 y26 z26
    obtain ⟨t_26, rfl, N26q, Kq26, FP26_0, FP26_1, FP26_2⟩ := hQ26
    have N26 := Fr.app N0 N26q
    have K26 : Keep h0 T26.heap [] := K18.trans Kq26 (allS (Or.inr sz_b18) all0)
    have F27 : Sta Z T26.heap "java/lang/String" "COMPACT_STRINGS" "Z" (.int zc) := ownStaKeep F19 Kq26 (allS (ownNstE A18) all0)
    have F28 : Sta Z T26.heap "jdk/internal/util/Preconditions" "SIOOBE_FORMATTER" "Ljava/util/function/BiFunction;" fm := ownStaKeep F20 Kq26 (allS (ownNstE A18) all0)
    have F29 : ownAI Z T26.heap b9 .char 0 (fun _ => (0 : Int32)) := F21.keep Kq26 (ninS ne_b9_b18 nin0)
    have F30 : Exa Z T26.heap b13 "com/example/vellum4/vellum4/AsciiSet" := F22.keep Kq26
    have F31 : Fld Z T26.heap b13 "com/example/vellum4/vellum4/AsciiSet" "members" "[Z" .null := F23.keep Kq26 (ninS ne_b13_b18 nin0)
    have F32 : Exa Z T26.heap b18 "java/lang/String" := A18.keep Kq26
    refine ownRunW (T' := T26) (f' := (mkF m 115 #[iv p0, iv p1, iv p2, iv p3, iv p4, iv p5, iv v1, iv v2, iv v3, iv (0 : Int32), rv b9, .unset, .unset, .unset, .unset] [(.ref b18), (.ref b13), (.ref b13)])) st26 ?_
    refine ownRebaseW hZ hown hS26 X26 ?_
    intro s X26 hZ hown
    have neA33 : b13 ≠ t_26 := ownNeEA F30 (ww 2 rfl) FP26_2
    obtain ⟨_, _, ⟨T34, L34, k34, n34⟩, -, X34, ⟨Lc34, hQ34, l34, y34, z34⟩, st34⟩ := X26.specialBack hx (y := (⟨"com/example/vellum4/vellum4/AsciiSet", "<init>", "(Ljava/lang/String;)V"⟩ : MethodName)) rfl hown (mvT hZ (ww 33 rfl)) (mvT hZ (ww 34 rfl)) (mvT hZ (ww 35 rfl)) (by decide) (backOf (W := 1) (rm_set0 l Z av0 hw [] b13 b18 t_26 (fun _ => (0 : Int32)) zc fm T26.heap n0 (Nat.le_trans Z0 K26.1) F30 F31 F32 FP26_1 FP26_0 FP26_2 F27 F28 G_b13 hz hr_fm own_asc0 (Ne.symm ne_b13_b18) (Ne.symm neA33)) hZ (ww 35 rfl) (ww 3 rfl) (by decide) (by decide)) (g := (mkF m 115 #[iv p0, iv p1, iv p2, iv p3, iv p4, iv p5, iv v1, iv v2, iv v3, iv (0 : Int32), rv b9, .unset, .unset, .unset, .unset] [(.ref b18), (.ref b13), (.ref b13)])) rfl (by rw [hml]; rfl) (Steps.refl _) (a := b13) (argsL := [(.ref b18)]) (rest := [(.ref b13)]) (lenOf own_pd9 rfl) rfl (by show 2 * 0 + _ ≤ _; exact Nat.le_of_eq rfl) (hb hby at_115) (fun _ _ => ⟨rfl, rfl, (by decide : 5 + 1 ≤ _), (by decide : 9 + 128 ≤ _)⟩)
    dsimp only [Pt.U, Pt.locs, Pt.cells, Pt.slots] at X34 l34 y34 z34 st34 hQ34
    subst l34 y34 z34
    obtain ⟨mb_34, rfl, N34q, Kq34, sq34_mb_34, FP34_0, FP34_1⟩ := hQ34
    have N34 := Fr.app N26 N34q
    have K34 : Keep h0 T34.heap [] := K26.trans Kq34 (allS (Or.inr sz_b13) all0)
    have ne_b9_mb_34 : b9 ≠ mb_34 := Nat.ne_of_lt (Nat.lt_of_lt_of_le F29.lt sq34_mb_34)
    have ne_b13_mb_34 : b13 ≠ mb_34 := Nat.ne_of_lt (Nat.lt_of_lt_of_le F30.lt sq34_mb_34)
    have ne_b18_mb_34 : b18 ≠ mb_34 := Nat.ne_of_lt (Nat.lt_of_lt_of_le F32.lt sq34_mb_34)
    have ne_t_26_mb_34 : t_26 ≠ mb_34 := Nat.ne_of_lt (Nat.lt_of_lt_of_le FP26_2.lt sq34_mb_34)
    have sz_mb_34 : h0.size ≤ mb_34 := Nat.le_trans K26.1 sq34_mb_34
    have G_mb_34 : n0 ≤ mb_34 := Nat.le_trans Z0 sz_mb_34
    have F35 : Sta Z T34.heap "java/lang/String" "COMPACT_STRINGS" "Z" (.int zc) := ownStaKeep F27 Kq34 (allS (ownNstE F30) all0)
    have F36 : Sta Z T34.heap "jdk/internal/util/Preconditions" "SIOOBE_FORMATTER" "Ljava/util/function/BiFunction;" fm := ownStaKeep F28 Kq34 (allS (ownNstE F30) all0)
    have F37 : ownAI Z T34.heap b9 .char 0 (fun _ => (0 : Int32)) := F29.keep Kq34 (ninS ne_b9_b13 nin0)
    have F38 : Exa Z T34.heap b13 "com/example/vellum4/vellum4/AsciiSet" := F30.keep Kq34
    have F39 : Exa Z T34.heap b18 "java/lang/String" := F32.keep Kq34
    have F40 : Fld Z T34.heap b18 "java/lang/String" "coder" "B" (.int (0 : Int32)) := FP26_0.keep Kq34 (ninS (Ne.symm ne_b13_b18) nin0)
    have F41 : Fld Z T34.heap b18 "java/lang/String" "value" "[B" (.ref t_26) := FP26_1.keep Kq34 (ninS (Ne.symm ne_b13_b18) nin0)
    have F42 : ownAI Z T34.heap t_26 .byte 0 (fun _ => (0 : Int32)) := FP26_2.keep Kq34 (ninS (Ne.symm neA33) nin0)
    refine ownRunW (T' := T34) (f' := (mkF m 118 #[iv p0, iv p1, iv p2, iv p3, iv p4, iv p5, iv v1, iv v2, iv v3, iv (0 : Int32), rv b9, .unset, .unset, .unset, .unset] [(.ref b13)])) st34 ?_
    refine ow_astoreW (q := 120) X34 hx (L' := #[iv p0, iv p1, iv p2, iv p3, iv p4, iv p5, iv v1, iv v2, iv v3, iv (0 : Int32), rv b9, rv b13, .unset, .unset, .unset]) (hb hby at_118) rfl rfl rfl ?_
    refine ow_iloadW (q := 122) X34 hx (hb hby at_120) rfl rfl ?_
    refine ow_iconstW (q := 123) X34 hx (3 : Int32) (hb hby at_122) rfl rfl ?_
    refine ow_iandW (q := 124) X34 hx _ (hb hby at_123) rfl rfl ?_
    generalize hv_v43 : (p5 &&& (3 : Int32)) = v43
    refine ow_istoreW (q := 126) X34 hx (L' := #[iv p0, iv p1, iv p2, iv p3, iv p4, iv p5, iv v1, iv v2, iv v3, iv (0 : Int32), rv b9, rv b13, iv v43, .unset, .unset]) (hb hby at_124) rfl rfl ?_
    have cut175_44 : ∀ (mm : Int32) (x : Int32) (Tc44 : State) (lc44 : List Loc), Stand p l e room_1 s m #[(.int p0), (.int p1), (.int p2), (.int p3), (.int p4), (.int p5)] below meth c Tc44 lc44 6 137 → Tc44.heap = T34.heap → Fr n0 lc44 → ownEndsW p e below s (fun v hh L => (Q_law Z p0 p1 p2 p3 p4 p5 zc fm h0 n0) v hh L ∧ T26.heap.size ≤ hh.size) 24 1408 Tc44 (mkF m 175 #[iv p0, iv p1, iv p2, iv p3, iv p4, iv p5, iv v1, iv v2, iv v3, iv (0 : Int32), rv b9, rv b13, iv mm, iv x, .unset] []) := by
      intro mm x Tc44 lc44 Xc44 ec44 Nc44
      refine ow_iloadW (q := 177) Xc44 hx (hb hby at_175) rfl rfl ?_
      by_cases hc177_45 : x < (0 : Int32)
      · refine ow_ifYesW (q := 231) Xc44 hx (hb hby at_177) (Jvm.Free.XT.i0_lt_t hc177_45) (by decide) (by decide) ?_
        refine ow_iconstW (q := 232) Xc44 hx (0 : Int32) (hb hby at_231) rfl rfl ?_
        refine ow_istoreW (q := 234) Xc44 hx (L' := #[iv p0, iv p1, iv p2, iv p3, iv p4, iv p5, iv v1, iv v2, iv v3, iv (0 : Int32), rv b9, rv b13, iv mm, iv x, iv (0 : Int32)]) (hb hby at_232) rfl rfl ?_
        refine ow_aloadW (q := 236) Xc44 hx (hb hby at_234) rfl rfl rfl ?_
        refine ow_iloadW (q := 238) Xc44 hx (hb hby at_236) rfl rfl ?_
        obtain ⟨cq46, kq46, q46a, q46b, q46c⟩ := isOf hZ ec44 F38
        obtain ⟨_, _, ⟨T46, L46, k46, n46⟩, -, X46, ⟨Lc46, hQ46, l46, y46, z46⟩, st46⟩ := Xc44.virtualBack hx (y := (⟨"com/example/vellum4/vellum4/AsciiSet", "contains", "(I)Z"⟩ : MethodName)) (z := (⟨"com/example/vellum4/vellum4/AsciiSet", "contains", "(I)Z"⟩ : MethodName)) hown (mvT hZ (ww 72 rfl)) (mvT hZ (ww 73 rfl)) (notFace_of_selects (args := #[]) (mvT hZ (ww 75 rfl))) (mvT hZ (ww 75 rfl)) (mvT hZ (ww 74 rfl)) (by decide) (backOf (W := 0) (rm_contains l Z av0 hw [] b13 x mb_34 (own_mem0 (fun _ => (0 : Int32))) T34.heap n0 (Nat.le_trans Z0 K34.1) FP34_0 FP34_1) hZ (ww 76 rfl) (ww 3 rfl) (by decide) (by decide)) q46a q46c (g := (mkF m 238 #[iv p0, iv p1, iv p2, iv p3, iv p4, iv p5, iv v1, iv v2, iv v3, iv (0 : Int32), rv b9, rv b13, iv mm, iv x, iv (0 : Int32)] [(.int x), (.ref b13)])) rfl (by rw [hml]; rfl) (Steps.refl _) (argsL := [(.int x)]) (rest := []) (lenOf own_pd10 rfl) rfl (by show 2 * 0 + _ ≤ _; exact Nat.le_of_eq rfl) (hb hby at_238) (fun _ _ => ⟨rfl, ec44, (by decide : 6 + 0 ≤ _), (by decide : 137 + 0 ≤ _)⟩)
        dsimp only [Pt.U, Pt.locs, Pt.cells, Pt.slots] at X46 l46 y46 z46 st46 hQ46
        subst l46 y46 z46
        obtain ⟨r46, rfl, N46q, e46, hp46⟩ := hQ46
        have N46 := Fr.app Nc44 N46q
        refine ownRunW (T' := T46) (f' := (mkF m 241 #[iv p0, iv p1, iv p2, iv p3, iv p4, iv p5, iv v1, iv v2, iv v3, iv (0 : Int32), rv b9, rv b13, iv mm, iv x, iv (0 : Int32)] [(.int r46)])) st46 ?_
        refine ow_iloadW (q := 243) X46 hx (hb hby at_241) rfl rfl ?_
        refine ow_icmpNoW (q := 246) X46 hx (hb hby at_243) rfl (Jvm.Free.XT.ii_ne_f ((own_fin0  hp46).1.resolve_left (fun q => ((own_fin0  hp46).2.mp q).1 hc177_45))) ?_
        refine ow_iconstW (q := 247) X46 hx (1 : Int32) (hb hby at_246) rfl rfl ?_
        refine ow_gotoW (q := 251) X46 hx (hb hby at_247) (by decide) (by decide) ?_
        refine ownRetNW X46 hx (r := (1 : Int32)) (Or.inl rfl) Bd.returns (hb hby at_251) hlk (by decide) (by decide) (by decide) ?_
        refine ⟨?_, (by rw [e46]; exact Kq34.1)⟩
        exact ⟨rfl, N46⟩
      · refine ow_ifNoW (q := 180) Xc44 hx (hb hby at_177) rfl (Jvm.Free.XT.i0_lt_f hc177_45) ?_
        refine ow_iloadW (q := 182) Xc44 hx (hb hby at_180) rfl rfl ?_
        refine ow_sipushW (q := 185) Xc44 hx (128 : Int32) (hb hby at_182) rfl rfl ?_
        by_cases hc185_47 : x < (128 : Int32)
        · refine ow_icmpNoW (q := 188) Xc44 hx (hb hby at_185) rfl (Jvm.Free.XT.ii_ge_f hc185_47) ?_
          refine ow_iloadW (q := 190) Xc44 hx (hb hby at_188) rfl rfl ?_
          refine ow_iconstW (q := 191) Xc44 hx (1 : Int32) (hb hby at_190) rfl rfl ?_
          refine ow_icmpYesW (q := 201) Xc44 hx (hb hby at_191) (Jvm.Free.XT.ii_lt_t (by decide)) (by decide) (by decide) ?_
          refine ow_iloadW (q := 203) Xc44 hx (hb hby at_201) rfl rfl ?_
          refine ow_iconstW (q := 204) Xc44 hx (2 : Int32) (hb hby at_203) rfl rfl ?_
          refine ow_icmpYesW (q := 214) Xc44 hx (hb hby at_204) (Jvm.Free.XT.ii_lt_t (by decide)) (by decide) (by decide) ?_
          refine ow_iloadW (q := 216) Xc44 hx (hb hby at_214) rfl rfl ?_
          refine ow_iconstW (q := 217) Xc44 hx (3 : Int32) (hb hby at_216) rfl rfl ?_
          refine ow_icmpYesW (q := 231) Xc44 hx (hb hby at_217) (Jvm.Free.XT.ii_lt_t (by decide)) (by decide) (by decide) ?_
          refine ow_iconstW (q := 232) Xc44 hx (0 : Int32) (hb hby at_231) rfl rfl ?_
          refine ow_istoreW (q := 234) Xc44 hx (L' := #[iv p0, iv p1, iv p2, iv p3, iv p4, iv p5, iv v1, iv v2, iv v3, iv (0 : Int32), rv b9, rv b13, iv mm, iv x, iv (0 : Int32)]) (hb hby at_232) rfl rfl ?_
          refine ow_aloadW (q := 236) Xc44 hx (hb hby at_234) rfl rfl rfl ?_
          refine ow_iloadW (q := 238) Xc44 hx (hb hby at_236) rfl rfl ?_
          obtain ⟨cq48, kq48, q48a, q48b, q48c⟩ := isOf hZ ec44 F38
          obtain ⟨_, _, ⟨T48, L48, k48, n48⟩, -, X48, ⟨Lc48, hQ48, l48, y48, z48⟩, st48⟩ := Xc44.virtualBack hx (y := (⟨"com/example/vellum4/vellum4/AsciiSet", "contains", "(I)Z"⟩ : MethodName)) (z := (⟨"com/example/vellum4/vellum4/AsciiSet", "contains", "(I)Z"⟩ : MethodName)) hown (mvT hZ (ww 72 rfl)) (mvT hZ (ww 73 rfl)) (notFace_of_selects (args := #[]) (mvT hZ (ww 75 rfl))) (mvT hZ (ww 75 rfl)) (mvT hZ (ww 74 rfl)) (by decide) (backOf (W := 0) (rm_contains l Z av0 hw [] b13 x mb_34 (own_mem0 (fun _ => (0 : Int32))) T34.heap n0 (Nat.le_trans Z0 K34.1) FP34_0 FP34_1) hZ (ww 76 rfl) (ww 3 rfl) (by decide) (by decide)) q48a q48c (g := (mkF m 238 #[iv p0, iv p1, iv p2, iv p3, iv p4, iv p5, iv v1, iv v2, iv v3, iv (0 : Int32), rv b9, rv b13, iv mm, iv x, iv (0 : Int32)] [(.int x), (.ref b13)])) rfl (by rw [hml]; rfl) (Steps.refl _) (argsL := [(.int x)]) (rest := []) (lenOf own_pd10 rfl) rfl (by show 2 * 0 + _ ≤ _; exact Nat.le_of_eq rfl) (hb hby at_238) (fun _ _ => ⟨rfl, ec44, (by decide : 6 + 0 ≤ _), (by decide : 137 + 0 ≤ _)⟩)
          dsimp only [Pt.U, Pt.locs, Pt.cells, Pt.slots] at X48 l48 y48 z48 st48 hQ48
          subst l48 y48 z48
          obtain ⟨r48, rfl, N48q, e48, hp48⟩ := hQ48
          have N48 := Fr.app Nc44 N48q
          refine ownRunW (T' := T48) (f' := (mkF m 241 #[iv p0, iv p1, iv p2, iv p3, iv p4, iv p5, iv v1, iv v2, iv v3, iv (0 : Int32), rv b9, rv b13, iv mm, iv x, iv (0 : Int32)] [(.int r48)])) st48 ?_
          refine ow_iloadW (q := 243) X48 hx (hb hby at_241) rfl rfl ?_
          refine ow_icmpNoW (q := 246) X48 hx (hb hby at_243) rfl (Jvm.Free.XT.ii_ne_f ((own_fin0  hp48).1.resolve_left (fun q => id (((own_fin0  hp48).2.mp q).2.2)))) ?_
          refine ow_iconstW (q := 247) X48 hx (1 : Int32) (hb hby at_246) rfl rfl ?_
          refine ow_gotoW (q := 251) X48 hx (hb hby at_247) (by decide) (by decide) ?_
          refine ownRetNW X48 hx (r := (1 : Int32)) (Or.inl rfl) Bd.returns (hb hby at_251) hlk (by decide) (by decide) (by decide) ?_
          refine ⟨?_, (by rw [e48]; exact Kq34.1)⟩
          exact ⟨rfl, N48⟩
        · refine ow_icmpYesW (q := 231) Xc44 hx (hb hby at_185) (Jvm.Free.XT.ii_ge_t hc185_47) (by decide) (by decide) ?_
          refine ow_iconstW (q := 232) Xc44 hx (0 : Int32) (hb hby at_231) rfl rfl ?_
          refine ow_istoreW (q := 234) Xc44 hx (L' := #[iv p0, iv p1, iv p2, iv p3, iv p4, iv p5, iv v1, iv v2, iv v3, iv (0 : Int32), rv b9, rv b13, iv mm, iv x, iv (0 : Int32)]) (hb hby at_232) rfl rfl ?_
          refine ow_aloadW (q := 236) Xc44 hx (hb hby at_234) rfl rfl rfl ?_
          refine ow_iloadW (q := 238) Xc44 hx (hb hby at_236) rfl rfl ?_
          obtain ⟨cq49, kq49, q49a, q49b, q49c⟩ := isOf hZ ec44 F38
          obtain ⟨_, _, ⟨T49, L49, k49, n49⟩, -, X49, ⟨Lc49, hQ49, l49, y49, z49⟩, st49⟩ := Xc44.virtualBack hx (y := (⟨"com/example/vellum4/vellum4/AsciiSet", "contains", "(I)Z"⟩ : MethodName)) (z := (⟨"com/example/vellum4/vellum4/AsciiSet", "contains", "(I)Z"⟩ : MethodName)) hown (mvT hZ (ww 72 rfl)) (mvT hZ (ww 73 rfl)) (notFace_of_selects (args := #[]) (mvT hZ (ww 75 rfl))) (mvT hZ (ww 75 rfl)) (mvT hZ (ww 74 rfl)) (by decide) (backOf (W := 0) (rm_contains l Z av0 hw [] b13 x mb_34 (own_mem0 (fun _ => (0 : Int32))) T34.heap n0 (Nat.le_trans Z0 K34.1) FP34_0 FP34_1) hZ (ww 76 rfl) (ww 3 rfl) (by decide) (by decide)) q49a q49c (g := (mkF m 238 #[iv p0, iv p1, iv p2, iv p3, iv p4, iv p5, iv v1, iv v2, iv v3, iv (0 : Int32), rv b9, rv b13, iv mm, iv x, iv (0 : Int32)] [(.int x), (.ref b13)])) rfl (by rw [hml]; rfl) (Steps.refl _) (argsL := [(.int x)]) (rest := []) (lenOf own_pd10 rfl) rfl (by show 2 * 0 + _ ≤ _; exact Nat.le_of_eq rfl) (hb hby at_238) (fun _ _ => ⟨rfl, ec44, (by decide : 6 + 0 ≤ _), (by decide : 137 + 0 ≤ _)⟩)
          dsimp only [Pt.U, Pt.locs, Pt.cells, Pt.slots] at X49 l49 y49 z49 st49 hQ49
          subst l49 y49 z49
          obtain ⟨r49, rfl, N49q, e49, hp49⟩ := hQ49
          have N49 := Fr.app Nc44 N49q
          refine ownRunW (T' := T49) (f' := (mkF m 241 #[iv p0, iv p1, iv p2, iv p3, iv p4, iv p5, iv v1, iv v2, iv v3, iv (0 : Int32), rv b9, rv b13, iv mm, iv x, iv (0 : Int32)] [(.int r49)])) st49 ?_
          refine ow_iloadW (q := 243) X49 hx (hb hby at_241) rfl rfl ?_
          refine ow_icmpNoW (q := 246) X49 hx (hb hby at_243) rfl (Jvm.Free.XT.ii_ne_f ((own_fin0  hp49).1.resolve_left (fun q => hc185_47 ((own_fin0  hp49).2.mp q).2.1))) ?_
          refine ow_iconstW (q := 247) X49 hx (1 : Int32) (hb hby at_246) rfl rfl ?_
          refine ow_gotoW (q := 251) X49 hx (hb hby at_247) (by decide) (by decide) ?_
          refine ownRetNW X49 hx (r := (1 : Int32)) (Or.inl rfl) Bd.returns (hb hby at_251) hlk (by decide) (by decide) (by decide) ?_
          refine ⟨?_, (by rw [e49]; exact Kq34.1)⟩
          exact ⟨rfl, N49⟩
    rcases (own_and3 hv_v43) with hs50 | hs51 | hs52 | hs53
    · subst hs50
      refine ow_iloadW (q := 128) X34 hx (hb hby at_126) rfl rfl ?_
      refine ow_ifNoW (q := 131) X34 hx (hb hby at_128) rfl (Jvm.Free.XT.i0_ne_f (by decide)) ?_
      refine ow_iloadW (q := 133) X34 hx (hb hby at_131) rfl rfl ?_
      refine ow_istoreW (q := 135) X34 hx (L' := #[iv p0, iv p1, iv p2, iv p3, iv p4, iv p5, iv v1, iv v2, iv v3, iv (0 : Int32), rv b9, rv b13, iv (0 : Int32), iv p4, .unset]) (hb hby at_133) rfl rfl ?_
      refine ow_gotoW (q := 175) X34 hx (hb hby at_135) (by decide) (by decide) ?_
      exact cut175_44 (0 : Int32) p4 _ _ X34 rfl N34 
    · subst hs51
      refine ow_iloadW (q := 128) X34 hx (hb hby at_126) rfl rfl ?_
      refine ow_ifYesW (q := 138) X34 hx (hb hby at_128) (Jvm.Free.XT.i0_ne_t (by decide)) (by decide) (by decide) ?_
      refine ow_iloadW (q := 140) X34 hx (hb hby at_138) rfl rfl ?_
      refine ow_iconstW (q := 141) X34 hx (1 : Int32) (hb hby at_140) rfl rfl ?_
      refine ow_icmpNoW (q := 144) X34 hx (hb hby at_141) rfl (Jvm.Free.XT.ii_ne_f (by decide)) ?_
      refine ow_iloadW (q := 146) X34 hx (hb hby at_144) rfl rfl ?_
      refine ow_sipushW (q := 149) X34 hx (255 : Int32) (hb hby at_146) rfl rfl ?_
      refine ow_iandW (q := 150) X34 hx _ (hb hby at_149) rfl rfl ?_
      refine ow_bipushW (q := 152) X34 hx (64 : Int32) (hb hby at_150) rfl rfl ?_
      refine ow_isubW (q := 153) X34 hx _ (hb hby at_152) rfl rfl ?_
      generalize hv_v54 : ((p4 &&& (255 : Int32)) - (64 : Int32)) = v54
      refine ow_istoreW (q := 155) X34 hx (L' := #[iv p0, iv p1, iv p2, iv p3, iv p4, iv p5, iv v1, iv v2, iv v3, iv (0 : Int32), rv b9, rv b13, iv (1 : Int32), iv v54, .unset]) (hb hby at_153) rfl rfl ?_
      refine ow_gotoW (q := 175) X34 hx (hb hby at_155) (by decide) (by decide) ?_
      exact cut175_44 (1 : Int32) v54 _ _ X34 rfl N34 
    · subst hs52
      refine ow_iloadW (q := 128) X34 hx (hb hby at_126) rfl rfl ?_
      refine ow_ifYesW (q := 138) X34 hx (hb hby at_128) (Jvm.Free.XT.i0_ne_t (by decide)) (by decide) (by decide) ?_
      refine ow_iloadW (q := 140) X34 hx (hb hby at_138) rfl rfl ?_
      refine ow_iconstW (q := 141) X34 hx (1 : Int32) (hb hby at_140) rfl rfl ?_
      refine ow_icmpYesW (q := 158) X34 hx (hb hby at_141) (Jvm.Free.XT.ii_ne_t (by decide)) (by decide) (by decide) ?_
      refine ow_iloadW (q := 160) X34 hx (hb hby at_158) rfl rfl ?_
      refine ow_iconstW (q := 161) X34 hx (2 : Int32) (hb hby at_160) rfl rfl ?_
      refine ow_icmpNoW (q := 164) X34 hx (hb hby at_161) rfl (Jvm.Free.XT.ii_ne_f (by decide)) ?_
      refine ow_iloadW (q := 166) X34 hx (hb hby at_164) rfl rfl ?_
      refine ow_istoreW (q := 168) X34 hx (L' := #[iv p0, iv p1, iv p2, iv p3, iv p4, iv p5, iv v1, iv v2, iv v3, iv (0 : Int32), rv b9, rv b13, iv (2 : Int32), iv v1, .unset]) (hb hby at_166) rfl rfl ?_
      refine ow_gotoW (q := 175) X34 hx (hb hby at_168) (by decide) (by decide) ?_
      exact cut175_44 (2 : Int32) v1 _ _ X34 rfl N34 
    · subst hs53
      refine ow_iloadW (q := 128) X34 hx (hb hby at_126) rfl rfl ?_
      refine ow_ifYesW (q := 138) X34 hx (hb hby at_128) (Jvm.Free.XT.i0_ne_t (by decide)) (by decide) (by decide) ?_
      refine ow_iloadW (q := 140) X34 hx (hb hby at_138) rfl rfl ?_
      refine ow_iconstW (q := 141) X34 hx (1 : Int32) (hb hby at_140) rfl rfl ?_
      refine ow_icmpYesW (q := 158) X34 hx (hb hby at_141) (Jvm.Free.XT.ii_ne_t (by decide)) (by decide) (by decide) ?_
      refine ow_iloadW (q := 160) X34 hx (hb hby at_158) rfl rfl ?_
      refine ow_iconstW (q := 161) X34 hx (2 : Int32) (hb hby at_160) rfl rfl ?_
      refine ow_icmpYesW (q := 171) X34 hx (hb hby at_161) (Jvm.Free.XT.ii_ne_t (by decide)) (by decide) (by decide) ?_
      refine ow_iloadW (q := 173) X34 hx (hb hby at_171) rfl rfl ?_
      refine ow_istoreW (q := 175) X34 hx (L' := #[iv p0, iv p1, iv p2, iv p3, iv p4, iv p5, iv v1, iv v2, iv v3, iv (0 : Int32), rv b9, rv b13, iv (3 : Int32), iv v3, .unset]) (hb hby at_173) rfl rfl ?_
      exact cut175_44 (3 : Int32) v3 _ _ X34 rfl N34 
  · subst hs6
    refine ow_iloadW (q := 28) X0 hx (hb hby at_26) rfl rfl ?_
    refine ow_ifYesW (q := 39) X0 hx (hb hby at_28) (Jvm.Free.XT.i0_ne_t (by decide)) (by decide) (by decide) ?_
    refine ow_iloadW (q := 41) X0 hx (hb hby at_39) rfl rfl ?_
    refine ow_iconstW (q := 42) X0 hx (1 : Int32) (hb hby at_41) rfl rfl ?_
    refine ow_icmpNoW (q := 45) X0 hx (hb hby at_42) rfl (Jvm.Free.XT.ii_ne_f (by decide)) ?_
    refine ow_iconstW (q := 46) X0 hx (1 : Int32) (hb hby at_45) rfl rfl ?_
    obtain ⟨T55, h55, k55, X55, e55, E55, A55, st55⟩ := newP X0 hx hZ (ww 0 rfl) e0 (g := (mkF m 46 #[iv p0, iv p1, iv p2, iv p3, iv p4, iv p5, iv v1, iv v2, iv v3, iv (1 : Int32), .unset, .unset, .unset, .unset, .unset] [(.int (1 : Int32))])) rfl (hb hby at_46) rfl (by decide) (cap := 1) (by decide) (by decide) (by decide) (by decide)
    obtain ⟨b55, g55⟩ : ∃ z, z = h0.size := ⟨_, rfl⟩
    rw [← g55] at A55 st55
    have sz_b55 : h0.size ≤ b55 := Nat.le_trans K0.1 (Nat.le_of_eq g55.symm)
    have G_b55 : n0 ≤ b55 := Nat.le_trans Z0 sz_b55
    have K55 : Keep h0 h55 [] := K0.ext E55
    have F56 : Sta Z h55 "java/lang/String" "COMPACT_STRINGS" "Z" (.int zc) := HF0.ext E55
    have F57 : Sta Z h55 "jdk/internal/util/Preconditions" "SIOOBE_FORMATTER" "Ljava/util/function/BiFunction;" fm := HF1.ext E55
    have F58 : ownAI Z h55 b55 .char 1 (fun _ => (0 : Int32)) := ownAI.new A55 (by decide) rfl (by decide)
    refine ownGoW (T' := T55) (f' := (mkF m 48 #[iv p0, iv p1, iv p2, iv p3, iv p4, iv p5, iv v1, iv v2, iv v3, iv (1 : Int32), .unset, .unset, .unset, .unset, .unset] [(.ref b55)])) (st55) ?_
    refine ow_dupW (q := 49) X55 hx (hb hby at_48) rfl rfl ?_
    refine ow_iconstW (q := 50) X55 hx (0 : Int32) (hb hby at_49) rfl rfl ?_
    refine ow_iloadW (q := 52) X55 hx (hb hby at_50) rfl rfl ?_
    obtain ⟨T59, h59, X59, e59, W59, F59s, st59⟩ := ownCastore F58 X55 hx hZ e55 (j := (0 : Int32)) (by unfold ownIn; decide) (g := (mkF m 52 #[iv p0, iv p1, iv p2, iv p3, iv p4, iv p5, iv v1, iv v2, iv v3, iv (1 : Int32), .unset, .unset, .unset, .unset, .unset] [(.int v1), (.int (0 : Int32)), (.ref b55), (.ref b55)])) rfl rfl (hb hby at_52)
    rw [own_narc hv_v1] at F59s
    have F59r : ownAI Z h59 b55 .char 1 (ownUpd (fun _ => (0 : Int32)) 0 v1) := F59s
    have N59 := Fr.snoc X59 N0 G_b55
    have K59 : Keep h0 h59 [] := K55.wr W59 (Or.inr sz_b55)
    have F60 : Sta Z h59 "java/lang/String" "COMPACT_STRINGS" "Z" (.int zc) := F56.wr W59
    have F61 : Sta Z h59 "jdk/internal/util/Preconditions" "SIOOBE_FORMATTER" "Ljava/util/function/BiFunction;" fm := F57.wr W59
    refine ownGoW (T' := T59) (f' := (mkF m 53 #[iv p0, iv p1, iv p2, iv p3, iv p4, iv p5, iv v1, iv v2, iv v3, iv (1 : Int32), .unset, .unset, .unset, .unset, .unset] [(.ref b55)])) (st59) ?_
    refine ow_astoreW (q := 55) X59 hx (L' := #[iv p0, iv p1, iv p2, iv p3, iv p4, iv p5, iv v1, iv v2, iv v3, iv (1 : Int32), rv b55, .unset, .unset, .unset, .unset]) (hb hby at_53) rfl rfl rfl ?_
    refine ow_gotoW (q := 102) X59 hx (hb hby at_55) (by decide) (by decide) ?_
    obtain ⟨T62, h62, X62, e62, E62, A62, D62, -, st62⟩ := newO X59 hx hZ hown (ww 1 rfl) (ww 2 rfl) (ww 3 rfl) e59 (g := (mkF m 102 #[iv p0, iv p1, iv p2, iv p3, iv p4, iv p5, iv v1, iv v2, iv v3, iv (1 : Int32), rv b55, .unset, .unset, .unset, .unset] [])) rfl (hb hby at_102) (by decide) (by decide)
    obtain ⟨b62, g62⟩ : ∃ z, z = h59.size := ⟨_, rfl⟩
    rw [← g62] at A62 D62 st62
    have ne_b55_b62 : b55 ≠ b62 := Nat.ne_of_lt (Nat.lt_of_lt_of_le F59r.lt (Nat.le_of_eq g62.symm))
    have sz_b62 : h0.size ≤ b62 := Nat.le_trans K59.1 (Nat.le_of_eq g62.symm)
    have G_b62 : n0 ≤ b62 := Nat.le_trans Z0 sz_b62
    have K62 : Keep h0 h62 [] := K59.ext E62
    have F63 : Sta Z h62 "java/lang/String" "COMPACT_STRINGS" "Z" (.int zc) := F60.ext E62
    have F64 : Sta Z h62 "jdk/internal/util/Preconditions" "SIOOBE_FORMATTER" "Ljava/util/function/BiFunction;" fm := F61.ext E62
    have F65 : ownAI Z h62 b55 .char 1 (ownUpd (fun _ => (0 : Int32)) 0 v1) := F59r.ext E62
    have F66 : Fld Z h62 b62 "com/example/vellum4/vellum4/AsciiSet" "members" "[Z" .null := D62 (Or.inr (ww 39 rfl)) (ty := (.array .boolean)) (by decide)
    refine ownGoW (T' := T62) (f' := (mkF m 105 #[iv p0, iv p1, iv p2, iv p3, iv p4, iv p5, iv v1, iv v2, iv v3, iv (1 : Int32), rv b55, .unset, .unset, .unset, .unset] [(.ref b62)])) (st62) ?_
    refine ow_dupW (q := 106) X62 hx (hb hby at_105) rfl rfl ?_
    obtain ⟨T67, h67, X67, e67, E67, A67, D67, -, st67⟩ := newO X62 hx hZ hown (ww 4 rfl) (ww 5 rfl) (ww 6 rfl) e62 (g := (mkF m 106 #[iv p0, iv p1, iv p2, iv p3, iv p4, iv p5, iv v1, iv v2, iv v3, iv (1 : Int32), rv b55, .unset, .unset, .unset, .unset] [(.ref b62), (.ref b62)])) rfl (hb hby at_106) (by decide) (by decide)
    obtain ⟨b67, g67⟩ : ∃ z, z = h62.size := ⟨_, rfl⟩
    rw [← g67] at A67 D67 st67
    have ne_b55_b67 : b55 ≠ b67 := Nat.ne_of_lt (Nat.lt_of_lt_of_le F65.lt (Nat.le_of_eq g67.symm))
    have ne_b62_b67 : b62 ≠ b67 := Nat.ne_of_lt (Nat.lt_of_lt_of_le A62.lt (Nat.le_of_eq g67.symm))
    have sz_b67 : h0.size ≤ b67 := Nat.le_trans K62.1 (Nat.le_of_eq g67.symm)
    have G_b67 : n0 ≤ b67 := Nat.le_trans Z0 sz_b67
    have K67 : Keep h0 h67 [] := K62.ext E67
    have F68 : Sta Z h67 "java/lang/String" "COMPACT_STRINGS" "Z" (.int zc) := F63.ext E67
    have F69 : Sta Z h67 "jdk/internal/util/Preconditions" "SIOOBE_FORMATTER" "Ljava/util/function/BiFunction;" fm := F64.ext E67
    have F70 : ownAI Z h67 b55 .char 1 (ownUpd (fun _ => (0 : Int32)) 0 v1) := F65.ext E67
    have F71 : Exa Z h67 b62 "com/example/vellum4/vellum4/AsciiSet" := A62.ext E67
    have F72 : Fld Z h67 b62 "com/example/vellum4/vellum4/AsciiSet" "members" "[Z" .null := F66.ext E67
    have F73 : Fld Z h67 b67 "java/lang/String" "coder" "B" (.int (0 : Int32)) := D67 (Or.inr (ww 30 rfl)) (ty := .byte) (by decide)
    have F74 : Fld Z h67 b67 "java/lang/String" "value" "[B" .null := D67 (Or.inr (ww 32 rfl)) (ty := (.array .byte)) (by decide)
    refine ownGoW (T' := T67) (f' := (mkF m 109 #[iv p0, iv p1, iv p2, iv p3, iv p4, iv p5, iv v1, iv v2, iv v3, iv (1 : Int32), rv b55, .unset, .unset, .unset, .unset] [(.ref b67), (.ref b62), (.ref b62)])) (st67) ?_
    refine ow_dupW (q := 110) X67 hx (hb hby at_109) rfl rfl ?_
    refine ow_aloadW (q := 112) X67 hx (hb hby at_110) rfl rfl rfl ?_
    obtain ⟨_, _, ⟨T75, L75, k75, n75⟩, -, X75, ⟨Lc75, hQ75, l75, y75, z75⟩, st75⟩ := X67.specialBack hx (y := (⟨"java/lang/String", "<init>", "([C)V"⟩ : MethodName)) rfl hown (mvT hZ (ww 7 rfl)) (mvT hZ (ww 8 rfl)) (mvT hZ (ww 9 rfl)) (by decide) (ownStr (W := 3) (n0 := n0) hZ (fun d hd => hw d (own_strW d hd)) (ww 5 rfl) (Nat.le_trans Z0 K67.1) A67 F74 F73 F70 F68 G_b67 hz (own_ascR (own_ascU (j := 0) (own_a127 hv_v1) own_asc0)) (by decide) (by decide) (by decide) (by decide)) (g := (mkF m 112 #[iv p0, iv p1, iv p2, iv p3, iv p4, iv p5, iv v1, iv v2, iv v3, iv (1 : Int32), rv b55, .unset, .unset, .unset, .unset] [(.ref b55), (.ref b67), (.ref b67), (.ref b62), (.ref b62)])) rfl (by rw [hml]; rfl) (Steps.refl _) (a := b67) (argsL := [(.ref b55)]) (rest := [(.ref b67), (.ref b62), (.ref b62)]) (lenOf own_pd8 rfl) rfl (by show 2 * 0 + _ ≤ _; exact Nat.le_of_eq rfl) (hb hby at_112) (fun _ _ => ⟨rfl, e67, (by decide : 3 + 1 ≤ _), (by decide : 6 + 1 ≤ _)⟩)
    dsimp only [Pt.U, Pt.locs, Pt.cells, Pt.slots] at X75 l75 y75 z75 st75 hQ75
    subst l75 y75 z75
    obtain ⟨t_75, rfl, N75q, Kq75, sq75_t_75, FP75_0, FP75_1, FP75_2⟩ := hQ75
    have N75 := Fr.app N59 N75q
    have K75 : Keep h0 T75.heap [] := K67.trans Kq75 (allS (Or.inr sz_b67) all0)
    have ne_b55_t_75 : b55 ≠ t_75 := Nat.ne_of_lt (Nat.lt_of_lt_of_le F70.lt sq75_t_75)
    have ne_b62_t_75 : b62 ≠ t_75 := Nat.ne_of_lt (Nat.lt_of_lt_of_le F71.lt sq75_t_75)
    have ne_b67_t_75 : b67 ≠ t_75 := Nat.ne_of_lt (Nat.lt_of_lt_of_le A67.lt sq75_t_75)
    have sz_t_75 : h0.size ≤ t_75 := Nat.le_trans K67.1 sq75_t_75
    have G_t_75 : n0 ≤ t_75 := Nat.le_trans Z0 sz_t_75
    have F76 : Sta Z T75.heap "java/lang/String" "COMPACT_STRINGS" "Z" (.int zc) := ownStaKeep F68 Kq75 (allS (ownNstE A67) all0)
    have F77 : Sta Z T75.heap "jdk/internal/util/Preconditions" "SIOOBE_FORMATTER" "Ljava/util/function/BiFunction;" fm := ownStaKeep F69 Kq75 (allS (ownNstE A67) all0)
    have F78 : ownAI Z T75.heap b55 .char 1 (ownUpd (fun _ => (0 : Int32)) 0 v1) := F70.keep Kq75 (ninS ne_b55_b67 nin0)
    have F79 : Exa Z T75.heap b62 "com/example/vellum4/vellum4/AsciiSet" := F71.keep Kq75
    have F80 : Fld Z T75.heap b62 "com/example/vellum4/vellum4/AsciiSet" "members" "[Z" .null := F72.keep Kq75 (ninS ne_b62_b67 nin0)
    have F81 : Exa Z T75.heap b67 "java/lang/String" := A67.keep Kq75
    refine ownRunW (T' := T75) (f' := (mkF m 115 #[iv p0, iv p1, iv p2, iv p3, iv p4, iv p5, iv v1, iv v2, iv v3, iv (1 : Int32), rv b55, .unset, .unset, .unset, .unset] [(.ref b67), (.ref b62), (.ref b62)])) st75 ?_
    obtain ⟨_, _, ⟨T82, L82, k82, n82⟩, -, X82, ⟨Lc82, hQ82, l82, y82, z82⟩, st82⟩ := X75.specialBack hx (y := (⟨"com/example/vellum4/vellum4/AsciiSet", "<init>", "(Ljava/lang/String;)V"⟩ : MethodName)) rfl hown (mvT hZ (ww 33 rfl)) (mvT hZ (ww 34 rfl)) (mvT hZ (ww 35 rfl)) (by decide) (backOf (W := 1) (rm_set1 l Z av0 hw [] b62 b67 t_75 (fun i => ((ownUpd (fun _ => (0 : Int32)) 0 v1) i).toInt8.toInt32) zc fm T75.heap n0 (Nat.le_trans Z0 K75.1) F79 F80 F81 FP75_1 FP75_0 FP75_2 F76 F77 G_b62 hz hr_fm (own_ascB (own_ascU (j := 0) (own_a127 hv_v1) own_asc0)) (Ne.symm ne_b62_b67) (Ne.symm ne_b62_t_75)) hZ (ww 35 rfl) (ww 3 rfl) (by decide) (by decide)) (g := (mkF m 115 #[iv p0, iv p1, iv p2, iv p3, iv p4, iv p5, iv v1, iv v2, iv v3, iv (1 : Int32), rv b55, .unset, .unset, .unset, .unset] [(.ref b67), (.ref b62), (.ref b62)])) rfl (by rw [hml]; rfl) (Steps.refl _) (a := b62) (argsL := [(.ref b67)]) (rest := [(.ref b62)]) (lenOf own_pd9 rfl) rfl (by show 2 * 0 + _ ≤ _; exact Nat.le_of_eq rfl) (hb hby at_115) (fun _ _ => ⟨rfl, rfl, (by decide : 4 + 1 ≤ _), (by decide : 7 + 128 ≤ _)⟩)
    dsimp only [Pt.U, Pt.locs, Pt.cells, Pt.slots] at X82 l82 y82 z82 st82 hQ82
    subst l82 y82 z82
    obtain ⟨mb_82, rfl, N82q, Kq82, sq82_mb_82, FP82_0, FP82_1⟩ := hQ82
    have N82 := Fr.app N75 N82q
    have K82 : Keep h0 T82.heap [] := K75.trans Kq82 (allS (Or.inr sz_b62) all0)
    have ne_b55_mb_82 : b55 ≠ mb_82 := Nat.ne_of_lt (Nat.lt_of_lt_of_le F78.lt sq82_mb_82)
    have ne_b62_mb_82 : b62 ≠ mb_82 := Nat.ne_of_lt (Nat.lt_of_lt_of_le F79.lt sq82_mb_82)
    have ne_b67_mb_82 : b67 ≠ mb_82 := Nat.ne_of_lt (Nat.lt_of_lt_of_le F81.lt sq82_mb_82)
    have ne_t_75_mb_82 : t_75 ≠ mb_82 := Nat.ne_of_lt (Nat.lt_of_lt_of_le FP75_2.lt sq82_mb_82)
    have sz_mb_82 : h0.size ≤ mb_82 := Nat.le_trans K75.1 sq82_mb_82
    have G_mb_82 : n0 ≤ mb_82 := Nat.le_trans Z0 sz_mb_82
    have F83 : Sta Z T82.heap "java/lang/String" "COMPACT_STRINGS" "Z" (.int zc) := ownStaKeep F76 Kq82 (allS (ownNstE F79) all0)
    have F84 : Sta Z T82.heap "jdk/internal/util/Preconditions" "SIOOBE_FORMATTER" "Ljava/util/function/BiFunction;" fm := ownStaKeep F77 Kq82 (allS (ownNstE F79) all0)
    have F85 : ownAI Z T82.heap b55 .char 1 (ownUpd (fun _ => (0 : Int32)) 0 v1) := F78.keep Kq82 (ninS ne_b55_b62 nin0)
    have F86 : Exa Z T82.heap b62 "com/example/vellum4/vellum4/AsciiSet" := F79.keep Kq82
    have F87 : Exa Z T82.heap b67 "java/lang/String" := F81.keep Kq82
    have F88 : Fld Z T82.heap b67 "java/lang/String" "coder" "B" (.int (0 : Int32)) := FP75_0.keep Kq82 (ninS (Ne.symm ne_b62_b67) nin0)
    have F89 : Fld Z T82.heap b67 "java/lang/String" "value" "[B" (.ref t_75) := FP75_1.keep Kq82 (ninS (Ne.symm ne_b62_b67) nin0)
    have F90 : ownAI Z T82.heap t_75 .byte 1 (fun i => ((ownUpd (fun _ => (0 : Int32)) 0 v1) i).toInt8.toInt32) := FP75_2.keep Kq82 (ninS (Ne.symm ne_b62_t_75) nin0)
    refine ownRunW (T' := T82) (f' := (mkF m 118 #[iv p0, iv p1, iv p2, iv p3, iv p4, iv p5, iv v1, iv v2, iv v3, iv (1 : Int32), rv b55, .unset, .unset, .unset, .unset] [(.ref b62)])) st82 ?_
    refine ow_astoreW (q := 120) X82 hx (L' := #[iv p0, iv p1, iv p2, iv p3, iv p4, iv p5, iv v1, iv v2, iv v3, iv (1 : Int32), rv b55, rv b62, .unset, .unset, .unset]) (hb hby at_118) rfl rfl rfl ?_
    refine ow_iloadW (q := 122) X82 hx (hb hby at_120) rfl rfl ?_
    refine ow_iconstW (q := 123) X82 hx (3 : Int32) (hb hby at_122) rfl rfl ?_
    refine ow_iandW (q := 124) X82 hx _ (hb hby at_123) rfl rfl ?_
    generalize hv_v91 : (p5 &&& (3 : Int32)) = v91
    refine ow_istoreW (q := 126) X82 hx (L' := #[iv p0, iv p1, iv p2, iv p3, iv p4, iv p5, iv v1, iv v2, iv v3, iv (1 : Int32), rv b55, rv b62, iv v91, .unset, .unset]) (hb hby at_124) rfl rfl ?_
    have cut175_92 : ∀ (mm : Int32) (x : Int32) (Tc92 : State) (lc92 : List Loc), Stand p l e room_1 s m #[(.int p0), (.int p1), (.int p2), (.int p3), (.int p4), (.int p5)] below meth c Tc92 lc92 5 135 → Tc92.heap = T82.heap → Fr n0 lc92 → ownEndsW p e below s (Q_law Z p0 p1 p2 p3 p4 p5 zc fm h0 n0) 24 1408 Tc92 (mkF m 175 #[iv p0, iv p1, iv p2, iv p3, iv p4, iv p5, iv v1, iv v2, iv v3, iv (1 : Int32), rv b55, rv b62, iv mm, iv x, .unset] []) := by
      intro mm x Tc92 lc92 Xc92 ec92 Nc92
      refine ow_iloadW (q := 177) Xc92 hx (hb hby at_175) rfl rfl ?_
      by_cases hc177_93 : x < (0 : Int32)
      · refine ow_ifYesW (q := 231) Xc92 hx (hb hby at_177) (Jvm.Free.XT.i0_lt_t hc177_93) (by decide) (by decide) ?_
        refine ow_iconstW (q := 232) Xc92 hx (0 : Int32) (hb hby at_231) rfl rfl ?_
        refine ow_istoreW (q := 234) Xc92 hx (L' := #[iv p0, iv p1, iv p2, iv p3, iv p4, iv p5, iv v1, iv v2, iv v3, iv (1 : Int32), rv b55, rv b62, iv mm, iv x, iv (0 : Int32)]) (hb hby at_232) rfl rfl ?_
        refine ow_aloadW (q := 236) Xc92 hx (hb hby at_234) rfl rfl rfl ?_
        refine ow_iloadW (q := 238) Xc92 hx (hb hby at_236) rfl rfl ?_
        obtain ⟨cq94, kq94, q94a, q94b, q94c⟩ := isOf hZ ec92 F86
        obtain ⟨_, _, ⟨T94, L94, k94, n94⟩, -, X94, ⟨Lc94, hQ94, l94, y94, z94⟩, st94⟩ := Xc92.virtualBack hx (y := (⟨"com/example/vellum4/vellum4/AsciiSet", "contains", "(I)Z"⟩ : MethodName)) (z := (⟨"com/example/vellum4/vellum4/AsciiSet", "contains", "(I)Z"⟩ : MethodName)) hown (mvT hZ (ww 72 rfl)) (mvT hZ (ww 73 rfl)) (notFace_of_selects (args := #[]) (mvT hZ (ww 75 rfl))) (mvT hZ (ww 75 rfl)) (mvT hZ (ww 74 rfl)) (by decide) (backOf (W := 0) (rm_contains l Z av0 hw [] b62 x mb_82 (own_mem1 (fun i => ((ownUpd (fun _ => (0 : Int32)) 0 v1) i).toInt8.toInt32)) T82.heap n0 (Nat.le_trans Z0 K82.1) FP82_0 FP82_1) hZ (ww 76 rfl) (ww 3 rfl) (by decide) (by decide)) q94a q94c (g := (mkF m 238 #[iv p0, iv p1, iv p2, iv p3, iv p4, iv p5, iv v1, iv v2, iv v3, iv (1 : Int32), rv b55, rv b62, iv mm, iv x, iv (0 : Int32)] [(.int x), (.ref b62)])) rfl (by rw [hml]; rfl) (Steps.refl _) (argsL := [(.int x)]) (rest := []) (lenOf own_pd10 rfl) rfl (by show 2 * 0 + _ ≤ _; exact Nat.le_of_eq rfl) (hb hby at_238) (fun _ _ => ⟨rfl, ec92, (by decide : 5 + 0 ≤ _), (by decide : 135 + 0 ≤ _)⟩)
        dsimp only [Pt.U, Pt.locs, Pt.cells, Pt.slots] at X94 l94 y94 z94 st94 hQ94
        subst l94 y94 z94
        obtain ⟨r94, rfl, N94q, e94, hp94⟩ := hQ94
        have N94 := Fr.app Nc92 N94q
        refine ownRunW (T' := T94) (f' := (mkF m 241 #[iv p0, iv p1, iv p2, iv p3, iv p4, iv p5, iv v1, iv v2, iv v3, iv (1 : Int32), rv b55, rv b62, iv mm, iv x, iv (0 : Int32)] [(.int r94)])) st94 ?_
        refine ow_iloadW (q := 243) X94 hx (hb hby at_241) rfl rfl ?_
        refine ow_icmpNoW (q := 246) X94 hx (hb hby at_243) rfl (Jvm.Free.XT.ii_ne_f ((own_fin1 (own_a127 hv_v1) hp94).1.resolve_left (fun q => ((own_fin1 (own_a127 hv_v1) hp94).2.mp q).1 hc177_93))) ?_
        refine ow_iconstW (q := 247) X94 hx (1 : Int32) (hb hby at_246) rfl rfl ?_
        refine ow_gotoW (q := 251) X94 hx (hb hby at_247) (by decide) (by decide) ?_
        refine ownRetNW X94 hx (r := (1 : Int32)) (Or.inl rfl) Bd.returns (hb hby at_251) hlk (by decide) (by decide) (by decide) ?_
        exact ⟨rfl, N94⟩
      · refine ow_ifNoW (q := 180) Xc92 hx (hb hby at_177) rfl (Jvm.Free.XT.i0_lt_f hc177_93) ?_
        refine ow_iloadW (q := 182) Xc92 hx (hb hby at_180) rfl rfl ?_
        refine ow_sipushW (q := 185) Xc92 hx (128 : Int32) (hb hby at_182) rfl rfl ?_
        by_cases hc185_95 : x < (128 : Int32)
        · refine ow_icmpNoW (q := 188) Xc92 hx (hb hby at_185) rfl (Jvm.Free.XT.ii_ge_f hc185_95) ?_
          refine ow_iloadW (q := 190) Xc92 hx (hb hby at_188) rfl rfl ?_
          refine ow_iconstW (q := 191) Xc92 hx (1 : Int32) (hb hby at_190) rfl rfl ?_
          refine ow_icmpNoW (q := 194) Xc92 hx (hb hby at_191) rfl (Jvm.Free.XT.ii_lt_f (by decide)) ?_
          refine ow_iloadW (q := 196) Xc92 hx (hb hby at_194) rfl rfl ?_
          refine ow_iloadW (q := 198) Xc92 hx (hb hby at_196) rfl rfl ?_
          by_cases hc198_96 : x = v1
          · refine ow_icmpYesW (q := 227) Xc92 hx (hb hby at_198) (Jvm.Free.XT.ii_eq_t hc198_96) (by decide) (by decide) ?_
            refine ow_iconstW (q := 228) Xc92 hx (1 : Int32) (hb hby at_227) rfl rfl ?_
            refine ow_gotoW (q := 232) Xc92 hx (hb hby at_228) (by decide) (by decide) ?_
            refine ow_istoreW (q := 234) Xc92 hx (L' := #[iv p0, iv p1, iv p2, iv p3, iv p4, iv p5, iv v1, iv v2, iv v3, iv (1 : Int32), rv b55, rv b62, iv mm, iv x, iv (1 : Int32)]) (hb hby at_232) rfl rfl ?_
            refine ow_aloadW (q := 236) Xc92 hx (hb hby at_234) rfl rfl rfl ?_
            refine ow_iloadW (q := 238) Xc92 hx (hb hby at_236) rfl rfl ?_
            obtain ⟨cq97, kq97, q97a, q97b, q97c⟩ := isOf hZ ec92 F86
            obtain ⟨_, _, ⟨T97, L97, k97, n97⟩, -, X97, ⟨Lc97, hQ97, l97, y97, z97⟩, st97⟩ := Xc92.virtualBack hx (y := (⟨"com/example/vellum4/vellum4/AsciiSet", "contains", "(I)Z"⟩ : MethodName)) (z := (⟨"com/example/vellum4/vellum4/AsciiSet", "contains", "(I)Z"⟩ : MethodName)) hown (mvT hZ (ww 72 rfl)) (mvT hZ (ww 73 rfl)) (notFace_of_selects (args := #[]) (mvT hZ (ww 75 rfl))) (mvT hZ (ww 75 rfl)) (mvT hZ (ww 74 rfl)) (by decide) (backOf (W := 0) (rm_contains l Z av0 hw [] b62 x mb_82 (own_mem1 (fun i => ((ownUpd (fun _ => (0 : Int32)) 0 v1) i).toInt8.toInt32)) T82.heap n0 (Nat.le_trans Z0 K82.1) FP82_0 FP82_1) hZ (ww 76 rfl) (ww 3 rfl) (by decide) (by decide)) q97a q97c (g := (mkF m 238 #[iv p0, iv p1, iv p2, iv p3, iv p4, iv p5, iv v1, iv v2, iv v3, iv (1 : Int32), rv b55, rv b62, iv mm, iv x, iv (1 : Int32)] [(.int x), (.ref b62)])) rfl (by rw [hml]; rfl) (Steps.refl _) (argsL := [(.int x)]) (rest := []) (lenOf own_pd10 rfl) rfl (by show 2 * 0 + _ ≤ _; exact Nat.le_of_eq rfl) (hb hby at_238) (fun _ _ => ⟨rfl, ec92, (by decide : 5 + 0 ≤ _), (by decide : 135 + 0 ≤ _)⟩)
            dsimp only [Pt.U, Pt.locs, Pt.cells, Pt.slots] at X97 l97 y97 z97 st97 hQ97
            subst l97 y97 z97
            obtain ⟨r97, rfl, N97q, e97, hp97⟩ := hQ97
            have N97 := Fr.app Nc92 N97q
            refine ownRunW (T' := T97) (f' := (mkF m 241 #[iv p0, iv p1, iv p2, iv p3, iv p4, iv p5, iv v1, iv v2, iv v3, iv (1 : Int32), rv b55, rv b62, iv mm, iv x, iv (1 : Int32)] [(.int r97)])) st97 ?_
            refine ow_iloadW (q := 243) X97 hx (hb hby at_241) rfl rfl ?_
            refine ow_icmpNoW (q := 246) X97 hx (hb hby at_243) rfl (Jvm.Free.XT.ii_ne_f ((own_fin1 (own_a127 hv_v1) hp97).2.mpr ⟨hc177_93, hc185_95, hc198_96⟩)) ?_
            refine ow_iconstW (q := 247) X97 hx (1 : Int32) (hb hby at_246) rfl rfl ?_
            refine ow_gotoW (q := 251) X97 hx (hb hby at_247) (by decide) (by decide) ?_
            refine ownRetNW X97 hx (r := (1 : Int32)) (Or.inl rfl) Bd.returns (hb hby at_251) hlk (by decide) (by decide) (by decide) ?_
            exact ⟨rfl, N97⟩
          · refine ow_icmpNoW (q := 201) Xc92 hx (hb hby at_198) rfl (Jvm.Free.XT.ii_eq_f hc198_96) ?_
            refine ow_iloadW (q := 203) Xc92 hx (hb hby at_201) rfl rfl ?_
            refine ow_iconstW (q := 204) Xc92 hx (2 : Int32) (hb hby at_203) rfl rfl ?_
            refine ow_icmpYesW (q := 214) Xc92 hx (hb hby at_204) (Jvm.Free.XT.ii_lt_t (by decide)) (by decide) (by decide) ?_
            refine ow_iloadW (q := 216) Xc92 hx (hb hby at_214) rfl rfl ?_
            refine ow_iconstW (q := 217) Xc92 hx (3 : Int32) (hb hby at_216) rfl rfl ?_
            refine ow_icmpYesW (q := 231) Xc92 hx (hb hby at_217) (Jvm.Free.XT.ii_lt_t (by decide)) (by decide) (by decide) ?_
            refine ow_iconstW (q := 232) Xc92 hx (0 : Int32) (hb hby at_231) rfl rfl ?_
            refine ow_istoreW (q := 234) Xc92 hx (L' := #[iv p0, iv p1, iv p2, iv p3, iv p4, iv p5, iv v1, iv v2, iv v3, iv (1 : Int32), rv b55, rv b62, iv mm, iv x, iv (0 : Int32)]) (hb hby at_232) rfl rfl ?_
            refine ow_aloadW (q := 236) Xc92 hx (hb hby at_234) rfl rfl rfl ?_
            refine ow_iloadW (q := 238) Xc92 hx (hb hby at_236) rfl rfl ?_
            obtain ⟨cq98, kq98, q98a, q98b, q98c⟩ := isOf hZ ec92 F86
            obtain ⟨_, _, ⟨T98, L98, k98, n98⟩, -, X98, ⟨Lc98, hQ98, l98, y98, z98⟩, st98⟩ := Xc92.virtualBack hx (y := (⟨"com/example/vellum4/vellum4/AsciiSet", "contains", "(I)Z"⟩ : MethodName)) (z := (⟨"com/example/vellum4/vellum4/AsciiSet", "contains", "(I)Z"⟩ : MethodName)) hown (mvT hZ (ww 72 rfl)) (mvT hZ (ww 73 rfl)) (notFace_of_selects (args := #[]) (mvT hZ (ww 75 rfl))) (mvT hZ (ww 75 rfl)) (mvT hZ (ww 74 rfl)) (by decide) (backOf (W := 0) (rm_contains l Z av0 hw [] b62 x mb_82 (own_mem1 (fun i => ((ownUpd (fun _ => (0 : Int32)) 0 v1) i).toInt8.toInt32)) T82.heap n0 (Nat.le_trans Z0 K82.1) FP82_0 FP82_1) hZ (ww 76 rfl) (ww 3 rfl) (by decide) (by decide)) q98a q98c (g := (mkF m 238 #[iv p0, iv p1, iv p2, iv p3, iv p4, iv p5, iv v1, iv v2, iv v3, iv (1 : Int32), rv b55, rv b62, iv mm, iv x, iv (0 : Int32)] [(.int x), (.ref b62)])) rfl (by rw [hml]; rfl) (Steps.refl _) (argsL := [(.int x)]) (rest := []) (lenOf own_pd10 rfl) rfl (by show 2 * 0 + _ ≤ _; exact Nat.le_of_eq rfl) (hb hby at_238) (fun _ _ => ⟨rfl, ec92, (by decide : 5 + 0 ≤ _), (by decide : 135 + 0 ≤ _)⟩)
            dsimp only [Pt.U, Pt.locs, Pt.cells, Pt.slots] at X98 l98 y98 z98 st98 hQ98
            subst l98 y98 z98
            obtain ⟨r98, rfl, N98q, e98, hp98⟩ := hQ98
            have N98 := Fr.app Nc92 N98q
            refine ownRunW (T' := T98) (f' := (mkF m 241 #[iv p0, iv p1, iv p2, iv p3, iv p4, iv p5, iv v1, iv v2, iv v3, iv (1 : Int32), rv b55, rv b62, iv mm, iv x, iv (0 : Int32)] [(.int r98)])) st98 ?_
            refine ow_iloadW (q := 243) X98 hx (hb hby at_241) rfl rfl ?_
            refine ow_icmpNoW (q := 246) X98 hx (hb hby at_243) rfl (Jvm.Free.XT.ii_ne_f ((own_fin1 (own_a127 hv_v1) hp98).1.resolve_left (fun q => hc198_96 (((own_fin1 (own_a127 hv_v1) hp98).2.mp q).2.2)))) ?_
            refine ow_iconstW (q := 247) X98 hx (1 : Int32) (hb hby at_246) rfl rfl ?_
            refine ow_gotoW (q := 251) X98 hx (hb hby at_247) (by decide) (by decide) ?_
            refine ownRetNW X98 hx (r := (1 : Int32)) (Or.inl rfl) Bd.returns (hb hby at_251) hlk (by decide) (by decide) (by decide) ?_
            exact ⟨rfl, N98⟩
        · refine ow_icmpYesW (q := 231) Xc92 hx (hb hby at_185) (Jvm.Free.XT.ii_ge_t hc185_95) (by decide) (by decide) ?_
          refine ow_iconstW (q := 232) Xc92 hx (0 : Int32) (hb hby at_231) rfl rfl ?_
          refine ow_istoreW (q := 234) Xc92 hx (L' := #[iv p0, iv p1, iv p2, iv p3, iv p4, iv p5, iv v1, iv v2, iv v3, iv (1 : Int32), rv b55, rv b62, iv mm, iv x, iv (0 : Int32)]) (hb hby at_232) rfl rfl ?_
          refine ow_aloadW (q := 236) Xc92 hx (hb hby at_234) rfl rfl rfl ?_
          refine ow_iloadW (q := 238) Xc92 hx (hb hby at_236) rfl rfl ?_
          obtain ⟨cq99, kq99, q99a, q99b, q99c⟩ := isOf hZ ec92 F86
          obtain ⟨_, _, ⟨T99, L99, k99, n99⟩, -, X99, ⟨Lc99, hQ99, l99, y99, z99⟩, st99⟩ := Xc92.virtualBack hx (y := (⟨"com/example/vellum4/vellum4/AsciiSet", "contains", "(I)Z"⟩ : MethodName)) (z := (⟨"com/example/vellum4/vellum4/AsciiSet", "contains", "(I)Z"⟩ : MethodName)) hown (mvT hZ (ww 72 rfl)) (mvT hZ (ww 73 rfl)) (notFace_of_selects (args := #[]) (mvT hZ (ww 75 rfl))) (mvT hZ (ww 75 rfl)) (mvT hZ (ww 74 rfl)) (by decide) (backOf (W := 0) (rm_contains l Z av0 hw [] b62 x mb_82 (own_mem1 (fun i => ((ownUpd (fun _ => (0 : Int32)) 0 v1) i).toInt8.toInt32)) T82.heap n0 (Nat.le_trans Z0 K82.1) FP82_0 FP82_1) hZ (ww 76 rfl) (ww 3 rfl) (by decide) (by decide)) q99a q99c (g := (mkF m 238 #[iv p0, iv p1, iv p2, iv p3, iv p4, iv p5, iv v1, iv v2, iv v3, iv (1 : Int32), rv b55, rv b62, iv mm, iv x, iv (0 : Int32)] [(.int x), (.ref b62)])) rfl (by rw [hml]; rfl) (Steps.refl _) (argsL := [(.int x)]) (rest := []) (lenOf own_pd10 rfl) rfl (by show 2 * 0 + _ ≤ _; exact Nat.le_of_eq rfl) (hb hby at_238) (fun _ _ => ⟨rfl, ec92, (by decide : 5 + 0 ≤ _), (by decide : 135 + 0 ≤ _)⟩)
          dsimp only [Pt.U, Pt.locs, Pt.cells, Pt.slots] at X99 l99 y99 z99 st99 hQ99
          subst l99 y99 z99
          obtain ⟨r99, rfl, N99q, e99, hp99⟩ := hQ99
          have N99 := Fr.app Nc92 N99q
          refine ownRunW (T' := T99) (f' := (mkF m 241 #[iv p0, iv p1, iv p2, iv p3, iv p4, iv p5, iv v1, iv v2, iv v3, iv (1 : Int32), rv b55, rv b62, iv mm, iv x, iv (0 : Int32)] [(.int r99)])) st99 ?_
          refine ow_iloadW (q := 243) X99 hx (hb hby at_241) rfl rfl ?_
          refine ow_icmpNoW (q := 246) X99 hx (hb hby at_243) rfl (Jvm.Free.XT.ii_ne_f ((own_fin1 (own_a127 hv_v1) hp99).1.resolve_left (fun q => hc185_95 ((own_fin1 (own_a127 hv_v1) hp99).2.mp q).2.1))) ?_
          refine ow_iconstW (q := 247) X99 hx (1 : Int32) (hb hby at_246) rfl rfl ?_
          refine ow_gotoW (q := 251) X99 hx (hb hby at_247) (by decide) (by decide) ?_
          refine ownRetNW X99 hx (r := (1 : Int32)) (Or.inl rfl) Bd.returns (hb hby at_251) hlk (by decide) (by decide) (by decide) ?_
          exact ⟨rfl, N99⟩
    rcases (own_and3 hv_v91) with hs100 | hs101 | hs102 | hs103
    · subst hs100
      refine ow_iloadW (q := 128) X82 hx (hb hby at_126) rfl rfl ?_
      refine ow_ifNoW (q := 131) X82 hx (hb hby at_128) rfl (Jvm.Free.XT.i0_ne_f (by decide)) ?_
      refine ow_iloadW (q := 133) X82 hx (hb hby at_131) rfl rfl ?_
      refine ow_istoreW (q := 135) X82 hx (L' := #[iv p0, iv p1, iv p2, iv p3, iv p4, iv p5, iv v1, iv v2, iv v3, iv (1 : Int32), rv b55, rv b62, iv (0 : Int32), iv p4, .unset]) (hb hby at_133) rfl rfl ?_
      refine ow_gotoW (q := 175) X82 hx (hb hby at_135) (by decide) (by decide) ?_
      exact cut175_92 (0 : Int32) p4 _ _ X82 rfl N82 
    · subst hs101
      refine ow_iloadW (q := 128) X82 hx (hb hby at_126) rfl rfl ?_
      refine ow_ifYesW (q := 138) X82 hx (hb hby at_128) (Jvm.Free.XT.i0_ne_t (by decide)) (by decide) (by decide) ?_
      refine ow_iloadW (q := 140) X82 hx (hb hby at_138) rfl rfl ?_
      refine ow_iconstW (q := 141) X82 hx (1 : Int32) (hb hby at_140) rfl rfl ?_
      refine ow_icmpNoW (q := 144) X82 hx (hb hby at_141) rfl (Jvm.Free.XT.ii_ne_f (by decide)) ?_
      refine ow_iloadW (q := 146) X82 hx (hb hby at_144) rfl rfl ?_
      refine ow_sipushW (q := 149) X82 hx (255 : Int32) (hb hby at_146) rfl rfl ?_
      refine ow_iandW (q := 150) X82 hx _ (hb hby at_149) rfl rfl ?_
      refine ow_bipushW (q := 152) X82 hx (64 : Int32) (hb hby at_150) rfl rfl ?_
      refine ow_isubW (q := 153) X82 hx _ (hb hby at_152) rfl rfl ?_
      generalize hv_v104 : ((p4 &&& (255 : Int32)) - (64 : Int32)) = v104
      refine ow_istoreW (q := 155) X82 hx (L' := #[iv p0, iv p1, iv p2, iv p3, iv p4, iv p5, iv v1, iv v2, iv v3, iv (1 : Int32), rv b55, rv b62, iv (1 : Int32), iv v104, .unset]) (hb hby at_153) rfl rfl ?_
      refine ow_gotoW (q := 175) X82 hx (hb hby at_155) (by decide) (by decide) ?_
      exact cut175_92 (1 : Int32) v104 _ _ X82 rfl N82 
    · subst hs102
      refine ow_iloadW (q := 128) X82 hx (hb hby at_126) rfl rfl ?_
      refine ow_ifYesW (q := 138) X82 hx (hb hby at_128) (Jvm.Free.XT.i0_ne_t (by decide)) (by decide) (by decide) ?_
      refine ow_iloadW (q := 140) X82 hx (hb hby at_138) rfl rfl ?_
      refine ow_iconstW (q := 141) X82 hx (1 : Int32) (hb hby at_140) rfl rfl ?_
      refine ow_icmpYesW (q := 158) X82 hx (hb hby at_141) (Jvm.Free.XT.ii_ne_t (by decide)) (by decide) (by decide) ?_
      refine ow_iloadW (q := 160) X82 hx (hb hby at_158) rfl rfl ?_
      refine ow_iconstW (q := 161) X82 hx (2 : Int32) (hb hby at_160) rfl rfl ?_
      refine ow_icmpNoW (q := 164) X82 hx (hb hby at_161) rfl (Jvm.Free.XT.ii_ne_f (by decide)) ?_
      refine ow_iloadW (q := 166) X82 hx (hb hby at_164) rfl rfl ?_
      refine ow_istoreW (q := 168) X82 hx (L' := #[iv p0, iv p1, iv p2, iv p3, iv p4, iv p5, iv v1, iv v2, iv v3, iv (1 : Int32), rv b55, rv b62, iv (2 : Int32), iv v1, .unset]) (hb hby at_166) rfl rfl ?_
      refine ow_gotoW (q := 175) X82 hx (hb hby at_168) (by decide) (by decide) ?_
      exact cut175_92 (2 : Int32) v1 _ _ X82 rfl N82 
    · subst hs103
      refine ow_iloadW (q := 128) X82 hx (hb hby at_126) rfl rfl ?_
      refine ow_ifYesW (q := 138) X82 hx (hb hby at_128) (Jvm.Free.XT.i0_ne_t (by decide)) (by decide) (by decide) ?_
      refine ow_iloadW (q := 140) X82 hx (hb hby at_138) rfl rfl ?_
      refine ow_iconstW (q := 141) X82 hx (1 : Int32) (hb hby at_140) rfl rfl ?_
      refine ow_icmpYesW (q := 158) X82 hx (hb hby at_141) (Jvm.Free.XT.ii_ne_t (by decide)) (by decide) (by decide) ?_
      refine ow_iloadW (q := 160) X82 hx (hb hby at_158) rfl rfl ?_
      refine ow_iconstW (q := 161) X82 hx (2 : Int32) (hb hby at_160) rfl rfl ?_
      refine ow_icmpYesW (q := 171) X82 hx (hb hby at_161) (Jvm.Free.XT.ii_ne_t (by decide)) (by decide) (by decide) ?_
      refine ow_iloadW (q := 173) X82 hx (hb hby at_171) rfl rfl ?_
      refine ow_istoreW (q := 175) X82 hx (L' := #[iv p0, iv p1, iv p2, iv p3, iv p4, iv p5, iv v1, iv v2, iv v3, iv (1 : Int32), rv b55, rv b62, iv (3 : Int32), iv v3, .unset]) (hb hby at_173) rfl rfl ?_
      exact cut175_92 (3 : Int32) v3 _ _ X82 rfl N82 
  · subst hs7
    refine ow_iloadW (q := 28) X0 hx (hb hby at_26) rfl rfl ?_
    refine ow_ifYesW (q := 39) X0 hx (hb hby at_28) (Jvm.Free.XT.i0_ne_t (by decide)) (by decide) (by decide) ?_
    refine ow_iloadW (q := 41) X0 hx (hb hby at_39) rfl rfl ?_
    refine ow_iconstW (q := 42) X0 hx (1 : Int32) (hb hby at_41) rfl rfl ?_
    refine ow_icmpYesW (q := 58) X0 hx (hb hby at_42) (Jvm.Free.XT.ii_ne_t (by decide)) (by decide) (by decide) ?_
    refine ow_iloadW (q := 60) X0 hx (hb hby at_58) rfl rfl ?_
    refine ow_iconstW (q := 61) X0 hx (2 : Int32) (hb hby at_60) rfl rfl ?_
    refine ow_icmpNoW (q := 64) X0 hx (hb hby at_61) rfl (Jvm.Free.XT.ii_ne_f (by decide)) ?_
    refine ow_iconstW (q := 65) X0 hx (2 : Int32) (hb hby at_64) rfl rfl ?_
    obtain ⟨T105, h105, k105, X105, e105, E105, A105, st105⟩ := newP X0 hx hZ (ww 0 rfl) e0 (g := (mkF m 65 #[iv p0, iv p1, iv p2, iv p3, iv p4, iv p5, iv v1, iv v2, iv v3, iv (2 : Int32), .unset, .unset, .unset, .unset, .unset] [(.int (2 : Int32))])) rfl (hb hby at_65) rfl (by decide) (cap := 2) (by decide) (by decide) (by decide) (by decide)
    obtain ⟨b105, g105⟩ : ∃ z, z = h0.size := ⟨_, rfl⟩
    rw [← g105] at A105 st105
    have sz_b105 : h0.size ≤ b105 := Nat.le_trans K0.1 (Nat.le_of_eq g105.symm)
    have G_b105 : n0 ≤ b105 := Nat.le_trans Z0 sz_b105
    have K105 : Keep h0 h105 [] := K0.ext E105
    have F106 : Sta Z h105 "java/lang/String" "COMPACT_STRINGS" "Z" (.int zc) := HF0.ext E105
    have F107 : Sta Z h105 "jdk/internal/util/Preconditions" "SIOOBE_FORMATTER" "Ljava/util/function/BiFunction;" fm := HF1.ext E105
    have F108 : ownAI Z h105 b105 .char 2 (fun _ => (0 : Int32)) := ownAI.new A105 (by decide) rfl (by decide)
    refine ownGoW (T' := T105) (f' := (mkF m 67 #[iv p0, iv p1, iv p2, iv p3, iv p4, iv p5, iv v1, iv v2, iv v3, iv (2 : Int32), .unset, .unset, .unset, .unset, .unset] [(.ref b105)])) (st105) ?_
    refine ow_dupW (q := 68) X105 hx (hb hby at_67) rfl rfl ?_
    refine ow_iconstW (q := 69) X105 hx (0 : Int32) (hb hby at_68) rfl rfl ?_
    refine ow_iloadW (q := 71) X105 hx (hb hby at_69) rfl rfl ?_
    obtain ⟨T109, h109, X109, e109, W109, F109s, st109⟩ := ownCastore F108 X105 hx hZ e105 (j := (0 : Int32)) (by unfold ownIn; decide) (g := (mkF m 71 #[iv p0, iv p1, iv p2, iv p3, iv p4, iv p5, iv v1, iv v2, iv v3, iv (2 : Int32), .unset, .unset, .unset, .unset, .unset] [(.int v1), (.int (0 : Int32)), (.ref b105), (.ref b105)])) rfl rfl (hb hby at_71)
    rw [own_narc hv_v1] at F109s
    have F109r : ownAI Z h109 b105 .char 2 (ownUpd (fun _ => (0 : Int32)) 0 v1) := F109s
    have N109 := Fr.snoc X109 N0 G_b105
    have K109 : Keep h0 h109 [] := K105.wr W109 (Or.inr sz_b105)
    have F110 : Sta Z h109 "java/lang/String" "COMPACT_STRINGS" "Z" (.int zc) := F106.wr W109
    have F111 : Sta Z h109 "jdk/internal/util/Preconditions" "SIOOBE_FORMATTER" "Ljava/util/function/BiFunction;" fm := F107.wr W109
    refine ownGoW (T' := T109) (f' := (mkF m 72 #[iv p0, iv p1, iv p2, iv p3, iv p4, iv p5, iv v1, iv v2, iv v3, iv (2 : Int32), .unset, .unset, .unset, .unset, .unset] [(.ref b105)])) (st109) ?_
    refine ow_dupW (q := 73) X109 hx (hb hby at_72) rfl rfl ?_
    refine ow_iconstW (q := 74) X109 hx (1 : Int32) (hb hby at_73) rfl rfl ?_
    refine ow_iloadW (q := 76) X109 hx (hb hby at_74) rfl rfl ?_
    obtain ⟨T112, h112, X112, e112, W112, F112s, st112⟩ := ownCastore F109r X109 hx hZ e109 (j := (1 : Int32)) (by unfold ownIn; decide) (g := (mkF m 76 #[iv p0, iv p1, iv p2, iv p3, iv p4, iv p5, iv v1, iv v2, iv v3, iv (2 : Int32), .unset, .unset, .unset, .unset, .unset] [(.int v2), (.int (1 : Int32)), (.ref b105), (.ref b105)])) rfl rfl (hb hby at_76)
    rw [own_narc hv_v2] at F112s
    have F112r : ownAI Z h112 b105 .char 2 (ownUpd (ownUpd (fun _ => (0 : Int32)) 0 v1) 1 v2) := F112s
    have N112 := Fr.snoc X112 N109 G_b105
    have K112 : Keep h0 h112 [] := K109.wr W112 (Or.inr sz_b105)
    have F113 : Sta Z h112 "java/lang/String" "COMPACT_STRINGS" "Z" (.int zc) := F110.wr W112
    have F114 : Sta Z h112 "jdk/internal/util/Preconditions" "SIOOBE_FORMATTER" "Ljava/util/function/BiFunction;" fm := F111.wr W112
    refine ownGoW (T' := T112) (f' := (mkF m 77 #[iv p0, iv p1, iv p2, iv p3, iv p4, iv p5, iv v1, iv v2, iv v3, iv (2 : Int32), .unset, .unset, .unset, .unset, .unset] [(.ref b105)])) (st112) ?_
    refine ow_astoreW (q := 79) X112 hx (L' := #[iv p0, iv p1, iv p2, iv p3, iv p4, iv p5, iv v1, iv v2, iv v3, iv (2 : Int32), rv b105, .unset, .unset, .unset, .unset]) (hb hby at_77) rfl rfl rfl ?_
    refine ow_gotoW (q := 102) X112 hx (hb hby at_79) (by decide) (by decide) ?_
    obtain ⟨T115, h115, X115, e115, E115, A115, D115, -, st115⟩ := newO X112 hx hZ hown (ww 1 rfl) (ww 2 rfl) (ww 3 rfl) e112 (g := (mkF m 102 #[iv p0, iv p1, iv p2, iv p3, iv p4, iv p5, iv v1, iv v2, iv v3, iv (2 : Int32), rv b105, .unset, .unset, .unset, .unset] [])) rfl (hb hby at_102) (by decide) (by decide)
    obtain ⟨b115, g115⟩ : ∃ z, z = h112.size := ⟨_, rfl⟩
    rw [← g115] at A115 D115 st115
    have ne_b105_b115 : b105 ≠ b115 := Nat.ne_of_lt (Nat.lt_of_lt_of_le F112r.lt (Nat.le_of_eq g115.symm))
    have sz_b115 : h0.size ≤ b115 := Nat.le_trans K112.1 (Nat.le_of_eq g115.symm)
    have G_b115 : n0 ≤ b115 := Nat.le_trans Z0 sz_b115
    have K115 : Keep h0 h115 [] := K112.ext E115
    have F116 : Sta Z h115 "java/lang/String" "COMPACT_STRINGS" "Z" (.int zc) := F113.ext E115
    have F117 : Sta Z h115 "jdk/internal/util/Preconditions" "SIOOBE_FORMATTER" "Ljava/util/function/BiFunction;" fm := F114.ext E115
    have F118 : ownAI Z h115 b105 .char 2 (ownUpd (ownUpd (fun _ => (0 : Int32)) 0 v1) 1 v2) := F112r.ext E115
    have F119 : Fld Z h115 b115 "com/example/vellum4/vellum4/AsciiSet" "members" "[Z" .null := D115 (Or.inr (ww 39 rfl)) (ty := (.array .boolean)) (by decide)
    refine ownGoW (T' := T115) (f' := (mkF m 105 #[iv p0, iv p1, iv p2, iv p3, iv p4, iv p5, iv v1, iv v2, iv v3, iv (2 : Int32), rv b105, .unset, .unset, .unset, .unset] [(.ref b115)])) (st115) ?_
    refine ow_dupW (q := 106) X115 hx (hb hby at_105) rfl rfl ?_
    obtain ⟨T120, h120, X120, e120, E120, A120, D120, -, st120⟩ := newO X115 hx hZ hown (ww 4 rfl) (ww 5 rfl) (ww 6 rfl) e115 (g := (mkF m 106 #[iv p0, iv p1, iv p2, iv p3, iv p4, iv p5, iv v1, iv v2, iv v3, iv (2 : Int32), rv b105, .unset, .unset, .unset, .unset] [(.ref b115), (.ref b115)])) rfl (hb hby at_106) (by decide) (by decide)
    obtain ⟨b120, g120⟩ : ∃ z, z = h115.size := ⟨_, rfl⟩
    rw [← g120] at A120 D120 st120
    have ne_b105_b120 : b105 ≠ b120 := Nat.ne_of_lt (Nat.lt_of_lt_of_le F118.lt (Nat.le_of_eq g120.symm))
    have ne_b115_b120 : b115 ≠ b120 := Nat.ne_of_lt (Nat.lt_of_lt_of_le A115.lt (Nat.le_of_eq g120.symm))
    have sz_b120 : h0.size ≤ b120 := Nat.le_trans K115.1 (Nat.le_of_eq g120.symm)
    have G_b120 : n0 ≤ b120 := Nat.le_trans Z0 sz_b120
    have K120 : Keep h0 h120 [] := K115.ext E120
    have F121 : Sta Z h120 "java/lang/String" "COMPACT_STRINGS" "Z" (.int zc) := F116.ext E120
    have F122 : Sta Z h120 "jdk/internal/util/Preconditions" "SIOOBE_FORMATTER" "Ljava/util/function/BiFunction;" fm := F117.ext E120
    have F123 : ownAI Z h120 b105 .char 2 (ownUpd (ownUpd (fun _ => (0 : Int32)) 0 v1) 1 v2) := F118.ext E120
    have F124 : Exa Z h120 b115 "com/example/vellum4/vellum4/AsciiSet" := A115.ext E120
    have F125 : Fld Z h120 b115 "com/example/vellum4/vellum4/AsciiSet" "members" "[Z" .null := F119.ext E120
    have F126 : Fld Z h120 b120 "java/lang/String" "coder" "B" (.int (0 : Int32)) := D120 (Or.inr (ww 30 rfl)) (ty := .byte) (by decide)
    have F127 : Fld Z h120 b120 "java/lang/String" "value" "[B" .null := D120 (Or.inr (ww 32 rfl)) (ty := (.array .byte)) (by decide)
    refine ownGoW (T' := T120) (f' := (mkF m 109 #[iv p0, iv p1, iv p2, iv p3, iv p4, iv p5, iv v1, iv v2, iv v3, iv (2 : Int32), rv b105, .unset, .unset, .unset, .unset] [(.ref b120), (.ref b115), (.ref b115)])) (st120) ?_
    refine ow_dupW (q := 110) X120 hx (hb hby at_109) rfl rfl ?_
    refine ow_aloadW (q := 112) X120 hx (hb hby at_110) rfl rfl rfl ?_
    obtain ⟨_, _, ⟨T128, L128, k128, n128⟩, -, X128, ⟨Lc128, hQ128, l128, y128, z128⟩, st128⟩ := X120.specialBack hx (y := (⟨"java/lang/String", "<init>", "([C)V"⟩ : MethodName)) rfl hown (mvT hZ (ww 7 rfl)) (mvT hZ (ww 8 rfl)) (mvT hZ (ww 9 rfl)) (by decide) (ownStr (W := 3) (n0 := n0) hZ (fun d hd => hw d (own_strW d hd)) (ww 5 rfl) (Nat.le_trans Z0 K120.1) A120 F127 F126 F123 F121 G_b120 hz (own_ascR (own_ascU (j := 1) (own_a127 hv_v2) (own_ascU (j := 0) (own_a127 hv_v1) own_asc0))) (by decide) (by decide) (by decide) (by decide)) (g := (mkF m 112 #[iv p0, iv p1, iv p2, iv p3, iv p4, iv p5, iv v1, iv v2, iv v3, iv (2 : Int32), rv b105, .unset, .unset, .unset, .unset] [(.ref b105), (.ref b120), (.ref b120), (.ref b115), (.ref b115)])) rfl (by rw [hml]; rfl) (Steps.refl _) (a := b120) (argsL := [(.ref b105)]) (rest := [(.ref b120), (.ref b115), (.ref b115)]) (lenOf own_pd8 rfl) rfl (by show 2 * 0 + _ ≤ _; exact Nat.le_of_eq rfl) (hb hby at_112) (fun _ _ => ⟨rfl, e120, (by decide : 3 + 1 ≤ _), (by decide : 7 + 2 ≤ _)⟩)
    dsimp only [Pt.U, Pt.locs, Pt.cells, Pt.slots] at X128 l128 y128 z128 st128 hQ128
    subst l128 y128 z128
    obtain ⟨t_128, rfl, N128q, Kq128, sq128_t_128, FP128_0, FP128_1, FP128_2⟩ := hQ128
    have N128 := Fr.app N112 N128q
    have K128 : Keep h0 T128.heap [] := K120.trans Kq128 (allS (Or.inr sz_b120) all0)
    have ne_b105_t_128 : b105 ≠ t_128 := Nat.ne_of_lt (Nat.lt_of_lt_of_le F123.lt sq128_t_128)
    have ne_b115_t_128 : b115 ≠ t_128 := Nat.ne_of_lt (Nat.lt_of_lt_of_le F124.lt sq128_t_128)
    have ne_b120_t_128 : b120 ≠ t_128 := Nat.ne_of_lt (Nat.lt_of_lt_of_le A120.lt sq128_t_128)
    have sz_t_128 : h0.size ≤ t_128 := Nat.le_trans K120.1 sq128_t_128
    have G_t_128 : n0 ≤ t_128 := Nat.le_trans Z0 sz_t_128
    have F129 : Sta Z T128.heap "java/lang/String" "COMPACT_STRINGS" "Z" (.int zc) := ownStaKeep F121 Kq128 (allS (ownNstE A120) all0)
    have F130 : Sta Z T128.heap "jdk/internal/util/Preconditions" "SIOOBE_FORMATTER" "Ljava/util/function/BiFunction;" fm := ownStaKeep F122 Kq128 (allS (ownNstE A120) all0)
    have F131 : ownAI Z T128.heap b105 .char 2 (ownUpd (ownUpd (fun _ => (0 : Int32)) 0 v1) 1 v2) := F123.keep Kq128 (ninS ne_b105_b120 nin0)
    have F132 : Exa Z T128.heap b115 "com/example/vellum4/vellum4/AsciiSet" := F124.keep Kq128
    have F133 : Fld Z T128.heap b115 "com/example/vellum4/vellum4/AsciiSet" "members" "[Z" .null := F125.keep Kq128 (ninS ne_b115_b120 nin0)
    have F134 : Exa Z T128.heap b120 "java/lang/String" := A120.keep Kq128
    refine ownRunW (T' := T128) (f' := (mkF m 115 #[iv p0, iv p1, iv p2, iv p3, iv p4, iv p5, iv v1, iv v2, iv v3, iv (2 : Int32), rv b105, .unset, .unset, .unset, .unset] [(.ref b120), (.ref b115), (.ref b115)])) st128 ?_
    obtain ⟨_, _, ⟨T135, L135, k135, n135⟩, -, X135, ⟨Lc135, hQ135, l135, y135, z135⟩, st135⟩ := X128.specialBack hx (y := (⟨"com/example/vellum4/vellum4/AsciiSet", "<init>", "(Ljava/lang/String;)V"⟩ : MethodName)) rfl hown (mvT hZ (ww 33 rfl)) (mvT hZ (ww 34 rfl)) (mvT hZ (ww 35 rfl)) (by decide) (backOf (W := 1) (rm_set2 l Z av0 hw [] b115 b120 t_128 (fun i => ((ownUpd (ownUpd (fun _ => (0 : Int32)) 0 v1) 1 v2) i).toInt8.toInt32) zc fm T128.heap n0 (Nat.le_trans Z0 K128.1) F132 F133 F134 FP128_1 FP128_0 FP128_2 F129 F130 G_b115 hz hr_fm (own_ascB (own_ascU (j := 1) (own_a127 hv_v2) (own_ascU (j := 0) (own_a127 hv_v1) own_asc0))) (Ne.symm ne_b115_b120) (Ne.symm ne_b115_t_128)) hZ (ww 35 rfl) (ww 3 rfl) (by decide) (by decide)) (g := (mkF m 115 #[iv p0, iv p1, iv p2, iv p3, iv p4, iv p5, iv v1, iv v2, iv v3, iv (2 : Int32), rv b105, .unset, .unset, .unset, .unset] [(.ref b120), (.ref b115), (.ref b115)])) rfl (by rw [hml]; rfl) (Steps.refl _) (a := b115) (argsL := [(.ref b120)]) (rest := [(.ref b115)]) (lenOf own_pd9 rfl) rfl (by show 2 * 0 + _ ≤ _; exact Nat.le_of_eq rfl) (hb hby at_115) (fun _ _ => ⟨rfl, rfl, (by decide : 4 + 1 ≤ _), (by decide : 9 + 128 ≤ _)⟩)
    dsimp only [Pt.U, Pt.locs, Pt.cells, Pt.slots] at X135 l135 y135 z135 st135 hQ135
    subst l135 y135 z135
    obtain ⟨mb_135, rfl, N135q, Kq135, sq135_mb_135, FP135_0, FP135_1⟩ := hQ135
    have N135 := Fr.app N128 N135q
    have K135 : Keep h0 T135.heap [] := K128.trans Kq135 (allS (Or.inr sz_b115) all0)
    have ne_b105_mb_135 : b105 ≠ mb_135 := Nat.ne_of_lt (Nat.lt_of_lt_of_le F131.lt sq135_mb_135)
    have ne_b115_mb_135 : b115 ≠ mb_135 := Nat.ne_of_lt (Nat.lt_of_lt_of_le F132.lt sq135_mb_135)
    have ne_b120_mb_135 : b120 ≠ mb_135 := Nat.ne_of_lt (Nat.lt_of_lt_of_le F134.lt sq135_mb_135)
    have ne_t_128_mb_135 : t_128 ≠ mb_135 := Nat.ne_of_lt (Nat.lt_of_lt_of_le FP128_2.lt sq135_mb_135)
    have sz_mb_135 : h0.size ≤ mb_135 := Nat.le_trans K128.1 sq135_mb_135
    have G_mb_135 : n0 ≤ mb_135 := Nat.le_trans Z0 sz_mb_135
    have F136 : Sta Z T135.heap "java/lang/String" "COMPACT_STRINGS" "Z" (.int zc) := ownStaKeep F129 Kq135 (allS (ownNstE F132) all0)
    have F137 : Sta Z T135.heap "jdk/internal/util/Preconditions" "SIOOBE_FORMATTER" "Ljava/util/function/BiFunction;" fm := ownStaKeep F130 Kq135 (allS (ownNstE F132) all0)
    have F138 : ownAI Z T135.heap b105 .char 2 (ownUpd (ownUpd (fun _ => (0 : Int32)) 0 v1) 1 v2) := F131.keep Kq135 (ninS ne_b105_b115 nin0)
    have F139 : Exa Z T135.heap b115 "com/example/vellum4/vellum4/AsciiSet" := F132.keep Kq135
    have F140 : Exa Z T135.heap b120 "java/lang/String" := F134.keep Kq135
    have F141 : Fld Z T135.heap b120 "java/lang/String" "coder" "B" (.int (0 : Int32)) := FP128_0.keep Kq135 (ninS (Ne.symm ne_b115_b120) nin0)
    have F142 : Fld Z T135.heap b120 "java/lang/String" "value" "[B" (.ref t_128) := FP128_1.keep Kq135 (ninS (Ne.symm ne_b115_b120) nin0)
    have F143 : ownAI Z T135.heap t_128 .byte 2 (fun i => ((ownUpd (ownUpd (fun _ => (0 : Int32)) 0 v1) 1 v2) i).toInt8.toInt32) := FP128_2.keep Kq135 (ninS (Ne.symm ne_b115_t_128) nin0)
    refine ownRunW (T' := T135) (f' := (mkF m 118 #[iv p0, iv p1, iv p2, iv p3, iv p4, iv p5, iv v1, iv v2, iv v3, iv (2 : Int32), rv b105, .unset, .unset, .unset, .unset] [(.ref b115)])) st135 ?_
    refine ow_astoreW (q := 120) X135 hx (L' := #[iv p0, iv p1, iv p2, iv p3, iv p4, iv p5, iv v1, iv v2, iv v3, iv (2 : Int32), rv b105, rv b115, .unset, .unset, .unset]) (hb hby at_118) rfl rfl rfl ?_
    refine ow_iloadW (q := 122) X135 hx (hb hby at_120) rfl rfl ?_
    refine ow_iconstW (q := 123) X135 hx (3 : Int32) (hb hby at_122) rfl rfl ?_
    refine ow_iandW (q := 124) X135 hx _ (hb hby at_123) rfl rfl ?_
    generalize hv_v144 : (p5 &&& (3 : Int32)) = v144
    refine ow_istoreW (q := 126) X135 hx (L' := #[iv p0, iv p1, iv p2, iv p3, iv p4, iv p5, iv v1, iv v2, iv v3, iv (2 : Int32), rv b105, rv b115, iv v144, .unset, .unset]) (hb hby at_124) rfl rfl ?_
    have cut175_145 : ∀ (mm : Int32) (x : Int32) (Tc145 : State) (lc145 : List Loc), Stand p l e room_1 s m #[(.int p0), (.int p1), (.int p2), (.int p3), (.int p4), (.int p5)] below meth c Tc145 lc145 5 137 → Tc145.heap = T135.heap → Fr n0 lc145 → ownEndsW p e below s (Q_law Z p0 p1 p2 p3 p4 p5 zc fm h0 n0) 24 1408 Tc145 (mkF m 175 #[iv p0, iv p1, iv p2, iv p3, iv p4, iv p5, iv v1, iv v2, iv v3, iv (2 : Int32), rv b105, rv b115, iv mm, iv x, .unset] []) := by
      intro mm x Tc145 lc145 Xc145 ec145 Nc145
      refine ow_iloadW (q := 177) Xc145 hx (hb hby at_175) rfl rfl ?_
      by_cases hc177_146 : x < (0 : Int32)
      · refine ow_ifYesW (q := 231) Xc145 hx (hb hby at_177) (Jvm.Free.XT.i0_lt_t hc177_146) (by decide) (by decide) ?_
        refine ow_iconstW (q := 232) Xc145 hx (0 : Int32) (hb hby at_231) rfl rfl ?_
        refine ow_istoreW (q := 234) Xc145 hx (L' := #[iv p0, iv p1, iv p2, iv p3, iv p4, iv p5, iv v1, iv v2, iv v3, iv (2 : Int32), rv b105, rv b115, iv mm, iv x, iv (0 : Int32)]) (hb hby at_232) rfl rfl ?_
        refine ow_aloadW (q := 236) Xc145 hx (hb hby at_234) rfl rfl rfl ?_
        refine ow_iloadW (q := 238) Xc145 hx (hb hby at_236) rfl rfl ?_
        obtain ⟨cq147, kq147, q147a, q147b, q147c⟩ := isOf hZ ec145 F139
        obtain ⟨_, _, ⟨T147, L147, k147, n147⟩, -, X147, ⟨Lc147, hQ147, l147, y147, z147⟩, st147⟩ := Xc145.virtualBack hx (y := (⟨"com/example/vellum4/vellum4/AsciiSet", "contains", "(I)Z"⟩ : MethodName)) (z := (⟨"com/example/vellum4/vellum4/AsciiSet", "contains", "(I)Z"⟩ : MethodName)) hown (mvT hZ (ww 72 rfl)) (mvT hZ (ww 73 rfl)) (notFace_of_selects (args := #[]) (mvT hZ (ww 75 rfl))) (mvT hZ (ww 75 rfl)) (mvT hZ (ww 74 rfl)) (by decide) (backOf (W := 0) (rm_contains l Z av0 hw [] b115 x mb_135 (own_mem2 (fun i => ((ownUpd (ownUpd (fun _ => (0 : Int32)) 0 v1) 1 v2) i).toInt8.toInt32)) T135.heap n0 (Nat.le_trans Z0 K135.1) FP135_0 FP135_1) hZ (ww 76 rfl) (ww 3 rfl) (by decide) (by decide)) q147a q147c (g := (mkF m 238 #[iv p0, iv p1, iv p2, iv p3, iv p4, iv p5, iv v1, iv v2, iv v3, iv (2 : Int32), rv b105, rv b115, iv mm, iv x, iv (0 : Int32)] [(.int x), (.ref b115)])) rfl (by rw [hml]; rfl) (Steps.refl _) (argsL := [(.int x)]) (rest := []) (lenOf own_pd10 rfl) rfl (by show 2 * 0 + _ ≤ _; exact Nat.le_of_eq rfl) (hb hby at_238) (fun _ _ => ⟨rfl, ec145, (by decide : 5 + 0 ≤ _), (by decide : 137 + 0 ≤ _)⟩)
        dsimp only [Pt.U, Pt.locs, Pt.cells, Pt.slots] at X147 l147 y147 z147 st147 hQ147
        subst l147 y147 z147
        obtain ⟨r147, rfl, N147q, e147, hp147⟩ := hQ147
        have N147 := Fr.app Nc145 N147q
        refine ownRunW (T' := T147) (f' := (mkF m 241 #[iv p0, iv p1, iv p2, iv p3, iv p4, iv p5, iv v1, iv v2, iv v3, iv (2 : Int32), rv b105, rv b115, iv mm, iv x, iv (0 : Int32)] [(.int r147)])) st147 ?_
        refine ow_iloadW (q := 243) X147 hx (hb hby at_241) rfl rfl ?_
        refine ow_icmpNoW (q := 246) X147 hx (hb hby at_243) rfl (Jvm.Free.XT.ii_ne_f ((own_fin2 (own_a127 hv_v1) (own_a127 hv_v2) hp147).1.resolve_left (fun q => ((own_fin2 (own_a127 hv_v1) (own_a127 hv_v2) hp147).2.mp q).1 hc177_146))) ?_
        refine ow_iconstW (q := 247) X147 hx (1 : Int32) (hb hby at_246) rfl rfl ?_
        refine ow_gotoW (q := 251) X147 hx (hb hby at_247) (by decide) (by decide) ?_
        refine ownRetNW X147 hx (r := (1 : Int32)) (Or.inl rfl) Bd.returns (hb hby at_251) hlk (by decide) (by decide) (by decide) ?_
        exact ⟨rfl, N147⟩
      · refine ow_ifNoW (q := 180) Xc145 hx (hb hby at_177) rfl (Jvm.Free.XT.i0_lt_f hc177_146) ?_
        refine ow_iloadW (q := 182) Xc145 hx (hb hby at_180) rfl rfl ?_
        refine ow_sipushW (q := 185) Xc145 hx (128 : Int32) (hb hby at_182) rfl rfl ?_
        by_cases hc185_148 : x < (128 : Int32)
        · refine ow_icmpNoW (q := 188) Xc145 hx (hb hby at_185) rfl (Jvm.Free.XT.ii_ge_f hc185_148) ?_
          refine ow_iloadW (q := 190) Xc145 hx (hb hby at_188) rfl rfl ?_
          refine ow_iconstW (q := 191) Xc145 hx (1 : Int32) (hb hby at_190) rfl rfl ?_
          refine ow_icmpNoW (q := 194) Xc145 hx (hb hby at_191) rfl (Jvm.Free.XT.ii_lt_f (by decide)) ?_
          refine ow_iloadW (q := 196) Xc145 hx (hb hby at_194) rfl rfl ?_
          refine ow_iloadW (q := 198) Xc145 hx (hb hby at_196) rfl rfl ?_
          by_cases hc198_149 : x = v1
          · refine ow_icmpYesW (q := 227) Xc145 hx (hb hby at_198) (Jvm.Free.XT.ii_eq_t hc198_149) (by decide) (by decide) ?_
            refine ow_iconstW (q := 228) Xc145 hx (1 : Int32) (hb hby at_227) rfl rfl ?_
            refine ow_gotoW (q := 232) Xc145 hx (hb hby at_228) (by decide) (by decide) ?_
            refine ow_istoreW (q := 234) Xc145 hx (L' := #[iv p0, iv p1, iv p2, iv p3, iv p4, iv p5, iv v1, iv v2, iv v3, iv (2 : Int32), rv b105, rv b115, iv mm, iv x, iv (1 : Int32)]) (hb hby at_232) rfl rfl ?_
            refine ow_aloadW (q := 236) Xc145 hx (hb hby at_234) rfl rfl rfl ?_
            refine ow_iloadW (q := 238) Xc145 hx (hb hby at_236) rfl rfl ?_
            obtain ⟨cq150, kq150, q150a, q150b, q150c⟩ := isOf hZ ec145 F139
            obtain ⟨_, _, ⟨T150, L150, k150, n150⟩, -, X150, ⟨Lc150, hQ150, l150, y150, z150⟩, st150⟩ := Xc145.virtualBack hx (y := (⟨"com/example/vellum4/vellum4/AsciiSet", "contains", "(I)Z"⟩ : MethodName)) (z := (⟨"com/example/vellum4/vellum4/AsciiSet", "contains", "(I)Z"⟩ : MethodName)) hown (mvT hZ (ww 72 rfl)) (mvT hZ (ww 73 rfl)) (notFace_of_selects (args := #[]) (mvT hZ (ww 75 rfl))) (mvT hZ (ww 75 rfl)) (mvT hZ (ww 74 rfl)) (by decide) (backOf (W := 0) (rm_contains l Z av0 hw [] b115 x mb_135 (own_mem2 (fun i => ((ownUpd (ownUpd (fun _ => (0 : Int32)) 0 v1) 1 v2) i).toInt8.toInt32)) T135.heap n0 (Nat.le_trans Z0 K135.1) FP135_0 FP135_1) hZ (ww 76 rfl) (ww 3 rfl) (by decide) (by decide)) q150a q150c (g := (mkF m 238 #[iv p0, iv p1, iv p2, iv p3, iv p4, iv p5, iv v1, iv v2, iv v3, iv (2 : Int32), rv b105, rv b115, iv mm, iv x, iv (1 : Int32)] [(.int x), (.ref b115)])) rfl (by rw [hml]; rfl) (Steps.refl _) (argsL := [(.int x)]) (rest := []) (lenOf own_pd10 rfl) rfl (by show 2 * 0 + _ ≤ _; exact Nat.le_of_eq rfl) (hb hby at_238) (fun _ _ => ⟨rfl, ec145, (by decide : 5 + 0 ≤ _), (by decide : 137 + 0 ≤ _)⟩)
            dsimp only [Pt.U, Pt.locs, Pt.cells, Pt.slots] at X150 l150 y150 z150 st150 hQ150
            subst l150 y150 z150
            obtain ⟨r150, rfl, N150q, e150, hp150⟩ := hQ150
            have N150 := Fr.app Nc145 N150q
            refine ownRunW (T' := T150) (f' := (mkF m 241 #[iv p0, iv p1, iv p2, iv p3, iv p4, iv p5, iv v1, iv v2, iv v3, iv (2 : Int32), rv b105, rv b115, iv mm, iv x, iv (1 : Int32)] [(.int r150)])) st150 ?_
            refine ow_iloadW (q := 243) X150 hx (hb hby at_241) rfl rfl ?_
            refine ow_icmpNoW (q := 246) X150 hx (hb hby at_243) rfl (Jvm.Free.XT.ii_ne_f ((own_fin2 (own_a127 hv_v1) (own_a127 hv_v2) hp150).2.mpr ⟨hc177_146, hc185_148, (Or.inl hc198_149)⟩)) ?_
            refine ow_iconstW (q := 247) X150 hx (1 : Int32) (hb hby at_246) rfl rfl ?_
            refine ow_gotoW (q := 251) X150 hx (hb hby at_247) (by decide) (by decide) ?_
            refine ownRetNW X150 hx (r := (1 : Int32)) (Or.inl rfl) Bd.returns (hb hby at_251) hlk (by decide) (by decide) (by decide) ?_
            exact ⟨rfl, N150⟩
          · refine ow_icmpNoW (q := 201) Xc145 hx (hb hby at_198) rfl (Jvm.Free.XT.ii_eq_f hc198_149) ?_
            refine ow_iloadW (q := 203) Xc145 hx (hb hby at_201) rfl rfl ?_
            refine ow_iconstW (q := 204) Xc145 hx (2 : Int32) (hb hby at_203) rfl rfl ?_
            refine ow_icmpNoW (q := 207) Xc145 hx (hb hby at_204) rfl (Jvm.Free.XT.ii_lt_f (by decide)) ?_
            refine ow_iloadW (q := 209) Xc145 hx (hb hby at_207) rfl rfl ?_
            refine ow_iloadW (q := 211) Xc145 hx (hb hby at_209) rfl rfl ?_
            by_cases hc211_151 : x = v2
            · refine ow_icmpYesW (q := 227) Xc145 hx (hb hby at_211) (Jvm.Free.XT.ii_eq_t hc211_151) (by decide) (by decide) ?_
              refine ow_iconstW (q := 228) Xc145 hx (1 : Int32) (hb hby at_227) rfl rfl ?_
              refine ow_gotoW (q := 232) Xc145 hx (hb hby at_228) (by decide) (by decide) ?_
              refine ow_istoreW (q := 234) Xc145 hx (L' := #[iv p0, iv p1, iv p2, iv p3, iv p4, iv p5, iv v1, iv v2, iv v3, iv (2 : Int32), rv b105, rv b115, iv mm, iv x, iv (1 : Int32)]) (hb hby at_232) rfl rfl ?_
              refine ow_aloadW (q := 236) Xc145 hx (hb hby at_234) rfl rfl rfl ?_
              refine ow_iloadW (q := 238) Xc145 hx (hb hby at_236) rfl rfl ?_
              obtain ⟨cq152, kq152, q152a, q152b, q152c⟩ := isOf hZ ec145 F139
              obtain ⟨_, _, ⟨T152, L152, k152, n152⟩, -, X152, ⟨Lc152, hQ152, l152, y152, z152⟩, st152⟩ := Xc145.virtualBack hx (y := (⟨"com/example/vellum4/vellum4/AsciiSet", "contains", "(I)Z"⟩ : MethodName)) (z := (⟨"com/example/vellum4/vellum4/AsciiSet", "contains", "(I)Z"⟩ : MethodName)) hown (mvT hZ (ww 72 rfl)) (mvT hZ (ww 73 rfl)) (notFace_of_selects (args := #[]) (mvT hZ (ww 75 rfl))) (mvT hZ (ww 75 rfl)) (mvT hZ (ww 74 rfl)) (by decide) (backOf (W := 0) (rm_contains l Z av0 hw [] b115 x mb_135 (own_mem2 (fun i => ((ownUpd (ownUpd (fun _ => (0 : Int32)) 0 v1) 1 v2) i).toInt8.toInt32)) T135.heap n0 (Nat.le_trans Z0 K135.1) FP135_0 FP135_1) hZ (ww 76 rfl) (ww 3 rfl) (by decide) (by decide)) q152a q152c (g := (mkF m 238 #[iv p0, iv p1, iv p2, iv p3, iv p4, iv p5, iv v1, iv v2, iv v3, iv (2 : Int32), rv b105, rv b115, iv mm, iv x, iv (1 : Int32)] [(.int x), (.ref b115)])) rfl (by rw [hml]; rfl) (Steps.refl _) (argsL := [(.int x)]) (rest := []) (lenOf own_pd10 rfl) rfl (by show 2 * 0 + _ ≤ _; exact Nat.le_of_eq rfl) (hb hby at_238) (fun _ _ => ⟨rfl, ec145, (by decide : 5 + 0 ≤ _), (by decide : 137 + 0 ≤ _)⟩)
              dsimp only [Pt.U, Pt.locs, Pt.cells, Pt.slots] at X152 l152 y152 z152 st152 hQ152
              subst l152 y152 z152
              obtain ⟨r152, rfl, N152q, e152, hp152⟩ := hQ152
              have N152 := Fr.app Nc145 N152q
              refine ownRunW (T' := T152) (f' := (mkF m 241 #[iv p0, iv p1, iv p2, iv p3, iv p4, iv p5, iv v1, iv v2, iv v3, iv (2 : Int32), rv b105, rv b115, iv mm, iv x, iv (1 : Int32)] [(.int r152)])) st152 ?_
              refine ow_iloadW (q := 243) X152 hx (hb hby at_241) rfl rfl ?_
              refine ow_icmpNoW (q := 246) X152 hx (hb hby at_243) rfl (Jvm.Free.XT.ii_ne_f ((own_fin2 (own_a127 hv_v1) (own_a127 hv_v2) hp152).2.mpr ⟨hc177_146, hc185_148, (Or.inr hc211_151)⟩)) ?_
              refine ow_iconstW (q := 247) X152 hx (1 : Int32) (hb hby at_246) rfl rfl ?_
              refine ow_gotoW (q := 251) X152 hx (hb hby at_247) (by decide) (by decide) ?_
              refine ownRetNW X152 hx (r := (1 : Int32)) (Or.inl rfl) Bd.returns (hb hby at_251) hlk (by decide) (by decide) (by decide) ?_
              exact ⟨rfl, N152⟩
            · refine ow_icmpNoW (q := 214) Xc145 hx (hb hby at_211) rfl (Jvm.Free.XT.ii_eq_f hc211_151) ?_
              refine ow_iloadW (q := 216) Xc145 hx (hb hby at_214) rfl rfl ?_
              refine ow_iconstW (q := 217) Xc145 hx (3 : Int32) (hb hby at_216) rfl rfl ?_
              refine ow_icmpYesW (q := 231) Xc145 hx (hb hby at_217) (Jvm.Free.XT.ii_lt_t (by decide)) (by decide) (by decide) ?_
              refine ow_iconstW (q := 232) Xc145 hx (0 : Int32) (hb hby at_231) rfl rfl ?_
              refine ow_istoreW (q := 234) Xc145 hx (L' := #[iv p0, iv p1, iv p2, iv p3, iv p4, iv p5, iv v1, iv v2, iv v3, iv (2 : Int32), rv b105, rv b115, iv mm, iv x, iv (0 : Int32)]) (hb hby at_232) rfl rfl ?_
              refine ow_aloadW (q := 236) Xc145 hx (hb hby at_234) rfl rfl rfl ?_
              refine ow_iloadW (q := 238) Xc145 hx (hb hby at_236) rfl rfl ?_
              obtain ⟨cq153, kq153, q153a, q153b, q153c⟩ := isOf hZ ec145 F139
              obtain ⟨_, _, ⟨T153, L153, k153, n153⟩, -, X153, ⟨Lc153, hQ153, l153, y153, z153⟩, st153⟩ := Xc145.virtualBack hx (y := (⟨"com/example/vellum4/vellum4/AsciiSet", "contains", "(I)Z"⟩ : MethodName)) (z := (⟨"com/example/vellum4/vellum4/AsciiSet", "contains", "(I)Z"⟩ : MethodName)) hown (mvT hZ (ww 72 rfl)) (mvT hZ (ww 73 rfl)) (notFace_of_selects (args := #[]) (mvT hZ (ww 75 rfl))) (mvT hZ (ww 75 rfl)) (mvT hZ (ww 74 rfl)) (by decide) (backOf (W := 0) (rm_contains l Z av0 hw [] b115 x mb_135 (own_mem2 (fun i => ((ownUpd (ownUpd (fun _ => (0 : Int32)) 0 v1) 1 v2) i).toInt8.toInt32)) T135.heap n0 (Nat.le_trans Z0 K135.1) FP135_0 FP135_1) hZ (ww 76 rfl) (ww 3 rfl) (by decide) (by decide)) q153a q153c (g := (mkF m 238 #[iv p0, iv p1, iv p2, iv p3, iv p4, iv p5, iv v1, iv v2, iv v3, iv (2 : Int32), rv b105, rv b115, iv mm, iv x, iv (0 : Int32)] [(.int x), (.ref b115)])) rfl (by rw [hml]; rfl) (Steps.refl _) (argsL := [(.int x)]) (rest := []) (lenOf own_pd10 rfl) rfl (by show 2 * 0 + _ ≤ _; exact Nat.le_of_eq rfl) (hb hby at_238) (fun _ _ => ⟨rfl, ec145, (by decide : 5 + 0 ≤ _), (by decide : 137 + 0 ≤ _)⟩)
              dsimp only [Pt.U, Pt.locs, Pt.cells, Pt.slots] at X153 l153 y153 z153 st153 hQ153
              subst l153 y153 z153
              obtain ⟨r153, rfl, N153q, e153, hp153⟩ := hQ153
              have N153 := Fr.app Nc145 N153q
              refine ownRunW (T' := T153) (f' := (mkF m 241 #[iv p0, iv p1, iv p2, iv p3, iv p4, iv p5, iv v1, iv v2, iv v3, iv (2 : Int32), rv b105, rv b115, iv mm, iv x, iv (0 : Int32)] [(.int r153)])) st153 ?_
              refine ow_iloadW (q := 243) X153 hx (hb hby at_241) rfl rfl ?_
              refine ow_icmpNoW (q := 246) X153 hx (hb hby at_243) rfl (Jvm.Free.XT.ii_ne_f ((own_fin2 (own_a127 hv_v1) (own_a127 hv_v2) hp153).1.resolve_left (fun q => (fun z => Or.elim z hc198_149 hc211_151) (((own_fin2 (own_a127 hv_v1) (own_a127 hv_v2) hp153).2.mp q).2.2)))) ?_
              refine ow_iconstW (q := 247) X153 hx (1 : Int32) (hb hby at_246) rfl rfl ?_
              refine ow_gotoW (q := 251) X153 hx (hb hby at_247) (by decide) (by decide) ?_
              refine ownRetNW X153 hx (r := (1 : Int32)) (Or.inl rfl) Bd.returns (hb hby at_251) hlk (by decide) (by decide) (by decide) ?_
              exact ⟨rfl, N153⟩
        · refine ow_icmpYesW (q := 231) Xc145 hx (hb hby at_185) (Jvm.Free.XT.ii_ge_t hc185_148) (by decide) (by decide) ?_
          refine ow_iconstW (q := 232) Xc145 hx (0 : Int32) (hb hby at_231) rfl rfl ?_
          refine ow_istoreW (q := 234) Xc145 hx (L' := #[iv p0, iv p1, iv p2, iv p3, iv p4, iv p5, iv v1, iv v2, iv v3, iv (2 : Int32), rv b105, rv b115, iv mm, iv x, iv (0 : Int32)]) (hb hby at_232) rfl rfl ?_
          refine ow_aloadW (q := 236) Xc145 hx (hb hby at_234) rfl rfl rfl ?_
          refine ow_iloadW (q := 238) Xc145 hx (hb hby at_236) rfl rfl ?_
          obtain ⟨cq154, kq154, q154a, q154b, q154c⟩ := isOf hZ ec145 F139
          obtain ⟨_, _, ⟨T154, L154, k154, n154⟩, -, X154, ⟨Lc154, hQ154, l154, y154, z154⟩, st154⟩ := Xc145.virtualBack hx (y := (⟨"com/example/vellum4/vellum4/AsciiSet", "contains", "(I)Z"⟩ : MethodName)) (z := (⟨"com/example/vellum4/vellum4/AsciiSet", "contains", "(I)Z"⟩ : MethodName)) hown (mvT hZ (ww 72 rfl)) (mvT hZ (ww 73 rfl)) (notFace_of_selects (args := #[]) (mvT hZ (ww 75 rfl))) (mvT hZ (ww 75 rfl)) (mvT hZ (ww 74 rfl)) (by decide) (backOf (W := 0) (rm_contains l Z av0 hw [] b115 x mb_135 (own_mem2 (fun i => ((ownUpd (ownUpd (fun _ => (0 : Int32)) 0 v1) 1 v2) i).toInt8.toInt32)) T135.heap n0 (Nat.le_trans Z0 K135.1) FP135_0 FP135_1) hZ (ww 76 rfl) (ww 3 rfl) (by decide) (by decide)) q154a q154c (g := (mkF m 238 #[iv p0, iv p1, iv p2, iv p3, iv p4, iv p5, iv v1, iv v2, iv v3, iv (2 : Int32), rv b105, rv b115, iv mm, iv x, iv (0 : Int32)] [(.int x), (.ref b115)])) rfl (by rw [hml]; rfl) (Steps.refl _) (argsL := [(.int x)]) (rest := []) (lenOf own_pd10 rfl) rfl (by show 2 * 0 + _ ≤ _; exact Nat.le_of_eq rfl) (hb hby at_238) (fun _ _ => ⟨rfl, ec145, (by decide : 5 + 0 ≤ _), (by decide : 137 + 0 ≤ _)⟩)
          dsimp only [Pt.U, Pt.locs, Pt.cells, Pt.slots] at X154 l154 y154 z154 st154 hQ154
          subst l154 y154 z154
          obtain ⟨r154, rfl, N154q, e154, hp154⟩ := hQ154
          have N154 := Fr.app Nc145 N154q
          refine ownRunW (T' := T154) (f' := (mkF m 241 #[iv p0, iv p1, iv p2, iv p3, iv p4, iv p5, iv v1, iv v2, iv v3, iv (2 : Int32), rv b105, rv b115, iv mm, iv x, iv (0 : Int32)] [(.int r154)])) st154 ?_
          refine ow_iloadW (q := 243) X154 hx (hb hby at_241) rfl rfl ?_
          refine ow_icmpNoW (q := 246) X154 hx (hb hby at_243) rfl (Jvm.Free.XT.ii_ne_f ((own_fin2 (own_a127 hv_v1) (own_a127 hv_v2) hp154).1.resolve_left (fun q => hc185_148 ((own_fin2 (own_a127 hv_v1) (own_a127 hv_v2) hp154).2.mp q).2.1))) ?_
          refine ow_iconstW (q := 247) X154 hx (1 : Int32) (hb hby at_246) rfl rfl ?_
          refine ow_gotoW (q := 251) X154 hx (hb hby at_247) (by decide) (by decide) ?_
          refine ownRetNW X154 hx (r := (1 : Int32)) (Or.inl rfl) Bd.returns (hb hby at_251) hlk (by decide) (by decide) (by decide) ?_
          exact ⟨rfl, N154⟩
    rcases (own_and3 hv_v144) with hs155 | hs156 | hs157 | hs158
    · subst hs155
      refine ow_iloadW (q := 128) X135 hx (hb hby at_126) rfl rfl ?_
      refine ow_ifNoW (q := 131) X135 hx (hb hby at_128) rfl (Jvm.Free.XT.i0_ne_f (by decide)) ?_
      refine ow_iloadW (q := 133) X135 hx (hb hby at_131) rfl rfl ?_
      refine ow_istoreW (q := 135) X135 hx (L' := #[iv p0, iv p1, iv p2, iv p3, iv p4, iv p5, iv v1, iv v2, iv v3, iv (2 : Int32), rv b105, rv b115, iv (0 : Int32), iv p4, .unset]) (hb hby at_133) rfl rfl ?_
      refine ow_gotoW (q := 175) X135 hx (hb hby at_135) (by decide) (by decide) ?_
      exact cut175_145 (0 : Int32) p4 _ _ X135 rfl N135 
    · subst hs156
      refine ow_iloadW (q := 128) X135 hx (hb hby at_126) rfl rfl ?_
      refine ow_ifYesW (q := 138) X135 hx (hb hby at_128) (Jvm.Free.XT.i0_ne_t (by decide)) (by decide) (by decide) ?_
      refine ow_iloadW (q := 140) X135 hx (hb hby at_138) rfl rfl ?_
      refine ow_iconstW (q := 141) X135 hx (1 : Int32) (hb hby at_140) rfl rfl ?_
      refine ow_icmpNoW (q := 144) X135 hx (hb hby at_141) rfl (Jvm.Free.XT.ii_ne_f (by decide)) ?_
      refine ow_iloadW (q := 146) X135 hx (hb hby at_144) rfl rfl ?_
      refine ow_sipushW (q := 149) X135 hx (255 : Int32) (hb hby at_146) rfl rfl ?_
      refine ow_iandW (q := 150) X135 hx _ (hb hby at_149) rfl rfl ?_
      refine ow_bipushW (q := 152) X135 hx (64 : Int32) (hb hby at_150) rfl rfl ?_
      refine ow_isubW (q := 153) X135 hx _ (hb hby at_152) rfl rfl ?_
      generalize hv_v159 : ((p4 &&& (255 : Int32)) - (64 : Int32)) = v159
      refine ow_istoreW (q := 155) X135 hx (L' := #[iv p0, iv p1, iv p2, iv p3, iv p4, iv p5, iv v1, iv v2, iv v3, iv (2 : Int32), rv b105, rv b115, iv (1 : Int32), iv v159, .unset]) (hb hby at_153) rfl rfl ?_
      refine ow_gotoW (q := 175) X135 hx (hb hby at_155) (by decide) (by decide) ?_
      exact cut175_145 (1 : Int32) v159 _ _ X135 rfl N135 
    · subst hs157
      refine ow_iloadW (q := 128) X135 hx (hb hby at_126) rfl rfl ?_
      refine ow_ifYesW (q := 138) X135 hx (hb hby at_128) (Jvm.Free.XT.i0_ne_t (by decide)) (by decide) (by decide) ?_
      refine ow_iloadW (q := 140) X135 hx (hb hby at_138) rfl rfl ?_
      refine ow_iconstW (q := 141) X135 hx (1 : Int32) (hb hby at_140) rfl rfl ?_
      refine ow_icmpYesW (q := 158) X135 hx (hb hby at_141) (Jvm.Free.XT.ii_ne_t (by decide)) (by decide) (by decide) ?_
      refine ow_iloadW (q := 160) X135 hx (hb hby at_158) rfl rfl ?_
      refine ow_iconstW (q := 161) X135 hx (2 : Int32) (hb hby at_160) rfl rfl ?_
      refine ow_icmpNoW (q := 164) X135 hx (hb hby at_161) rfl (Jvm.Free.XT.ii_ne_f (by decide)) ?_
      refine ow_iloadW (q := 166) X135 hx (hb hby at_164) rfl rfl ?_
      refine ow_istoreW (q := 168) X135 hx (L' := #[iv p0, iv p1, iv p2, iv p3, iv p4, iv p5, iv v1, iv v2, iv v3, iv (2 : Int32), rv b105, rv b115, iv (2 : Int32), iv v1, .unset]) (hb hby at_166) rfl rfl ?_
      refine ow_gotoW (q := 175) X135 hx (hb hby at_168) (by decide) (by decide) ?_
      exact cut175_145 (2 : Int32) v1 _ _ X135 rfl N135 
    · subst hs158
      refine ow_iloadW (q := 128) X135 hx (hb hby at_126) rfl rfl ?_
      refine ow_ifYesW (q := 138) X135 hx (hb hby at_128) (Jvm.Free.XT.i0_ne_t (by decide)) (by decide) (by decide) ?_
      refine ow_iloadW (q := 140) X135 hx (hb hby at_138) rfl rfl ?_
      refine ow_iconstW (q := 141) X135 hx (1 : Int32) (hb hby at_140) rfl rfl ?_
      refine ow_icmpYesW (q := 158) X135 hx (hb hby at_141) (Jvm.Free.XT.ii_ne_t (by decide)) (by decide) (by decide) ?_
      refine ow_iloadW (q := 160) X135 hx (hb hby at_158) rfl rfl ?_
      refine ow_iconstW (q := 161) X135 hx (2 : Int32) (hb hby at_160) rfl rfl ?_
      refine ow_icmpYesW (q := 171) X135 hx (hb hby at_161) (Jvm.Free.XT.ii_ne_t (by decide)) (by decide) (by decide) ?_
      refine ow_iloadW (q := 173) X135 hx (hb hby at_171) rfl rfl ?_
      refine ow_istoreW (q := 175) X135 hx (L' := #[iv p0, iv p1, iv p2, iv p3, iv p4, iv p5, iv v1, iv v2, iv v3, iv (2 : Int32), rv b105, rv b115, iv (3 : Int32), iv v3, .unset]) (hb hby at_173) rfl rfl ?_
      exact cut175_145 (3 : Int32) v3 _ _ X135 rfl N135 
  · subst hs8
    refine ow_iloadW (q := 28) X0 hx (hb hby at_26) rfl rfl ?_
    refine ow_ifYesW (q := 39) X0 hx (hb hby at_28) (Jvm.Free.XT.i0_ne_t (by decide)) (by decide) (by decide) ?_
    refine ow_iloadW (q := 41) X0 hx (hb hby at_39) rfl rfl ?_
    refine ow_iconstW (q := 42) X0 hx (1 : Int32) (hb hby at_41) rfl rfl ?_
    refine ow_icmpYesW (q := 58) X0 hx (hb hby at_42) (Jvm.Free.XT.ii_ne_t (by decide)) (by decide) (by decide) ?_
    refine ow_iloadW (q := 60) X0 hx (hb hby at_58) rfl rfl ?_
    refine ow_iconstW (q := 61) X0 hx (2 : Int32) (hb hby at_60) rfl rfl ?_
    refine ow_icmpYesW (q := 82) X0 hx (hb hby at_61) (Jvm.Free.XT.ii_ne_t (by decide)) (by decide) (by decide) ?_
    refine ow_iconstW (q := 83) X0 hx (3 : Int32) (hb hby at_82) rfl rfl ?_
    obtain ⟨T160, h160, k160, X160, e160, E160, A160, st160⟩ := newP X0 hx hZ (ww 0 rfl) e0 (g := (mkF m 83 #[iv p0, iv p1, iv p2, iv p3, iv p4, iv p5, iv v1, iv v2, iv v3, iv (3 : Int32), .unset, .unset, .unset, .unset, .unset] [(.int (3 : Int32))])) rfl (hb hby at_83) rfl (by decide) (cap := 3) (by decide) (by decide) (by decide) (by decide)
    obtain ⟨b160, g160⟩ : ∃ z, z = h0.size := ⟨_, rfl⟩
    rw [← g160] at A160 st160
    have sz_b160 : h0.size ≤ b160 := Nat.le_trans K0.1 (Nat.le_of_eq g160.symm)
    have G_b160 : n0 ≤ b160 := Nat.le_trans Z0 sz_b160
    have K160 : Keep h0 h160 [] := K0.ext E160
    have F161 : Sta Z h160 "java/lang/String" "COMPACT_STRINGS" "Z" (.int zc) := HF0.ext E160
    have F162 : Sta Z h160 "jdk/internal/util/Preconditions" "SIOOBE_FORMATTER" "Ljava/util/function/BiFunction;" fm := HF1.ext E160
    have F163 : ownAI Z h160 b160 .char 3 (fun _ => (0 : Int32)) := ownAI.new A160 (by decide) rfl (by decide)
    refine ownGoW (T' := T160) (f' := (mkF m 85 #[iv p0, iv p1, iv p2, iv p3, iv p4, iv p5, iv v1, iv v2, iv v3, iv (3 : Int32), .unset, .unset, .unset, .unset, .unset] [(.ref b160)])) (st160) ?_
    refine ow_dupW (q := 86) X160 hx (hb hby at_85) rfl rfl ?_
    refine ow_iconstW (q := 87) X160 hx (0 : Int32) (hb hby at_86) rfl rfl ?_
    refine ow_iloadW (q := 89) X160 hx (hb hby at_87) rfl rfl ?_
    obtain ⟨T164, h164, X164, e164, W164, F164s, st164⟩ := ownCastore F163 X160 hx hZ e160 (j := (0 : Int32)) (by unfold ownIn; decide) (g := (mkF m 89 #[iv p0, iv p1, iv p2, iv p3, iv p4, iv p5, iv v1, iv v2, iv v3, iv (3 : Int32), .unset, .unset, .unset, .unset, .unset] [(.int v1), (.int (0 : Int32)), (.ref b160), (.ref b160)])) rfl rfl (hb hby at_89)
    rw [own_narc hv_v1] at F164s
    have F164r : ownAI Z h164 b160 .char 3 (ownUpd (fun _ => (0 : Int32)) 0 v1) := F164s
    have N164 := Fr.snoc X164 N0 G_b160
    have K164 : Keep h0 h164 [] := K160.wr W164 (Or.inr sz_b160)
    have F165 : Sta Z h164 "java/lang/String" "COMPACT_STRINGS" "Z" (.int zc) := F161.wr W164
    have F166 : Sta Z h164 "jdk/internal/util/Preconditions" "SIOOBE_FORMATTER" "Ljava/util/function/BiFunction;" fm := F162.wr W164
    refine ownGoW (T' := T164) (f' := (mkF m 90 #[iv p0, iv p1, iv p2, iv p3, iv p4, iv p5, iv v1, iv v2, iv v3, iv (3 : Int32), .unset, .unset, .unset, .unset, .unset] [(.ref b160)])) (st164) ?_
    refine ow_dupW (q := 91) X164 hx (hb hby at_90) rfl rfl ?_
    refine ow_iconstW (q := 92) X164 hx (1 : Int32) (hb hby at_91) rfl rfl ?_
    refine ow_iloadW (q := 94) X164 hx (hb hby at_92) rfl rfl ?_
    obtain ⟨T167, h167, X167, e167, W167, F167s, st167⟩ := ownCastore F164r X164 hx hZ e164 (j := (1 : Int32)) (by unfold ownIn; decide) (g := (mkF m 94 #[iv p0, iv p1, iv p2, iv p3, iv p4, iv p5, iv v1, iv v2, iv v3, iv (3 : Int32), .unset, .unset, .unset, .unset, .unset] [(.int v2), (.int (1 : Int32)), (.ref b160), (.ref b160)])) rfl rfl (hb hby at_94)
    rw [own_narc hv_v2] at F167s
    have F167r : ownAI Z h167 b160 .char 3 (ownUpd (ownUpd (fun _ => (0 : Int32)) 0 v1) 1 v2) := F167s
    have N167 := Fr.snoc X167 N164 G_b160
    have K167 : Keep h0 h167 [] := K164.wr W167 (Or.inr sz_b160)
    have F168 : Sta Z h167 "java/lang/String" "COMPACT_STRINGS" "Z" (.int zc) := F165.wr W167
    have F169 : Sta Z h167 "jdk/internal/util/Preconditions" "SIOOBE_FORMATTER" "Ljava/util/function/BiFunction;" fm := F166.wr W167
    refine ownGoW (T' := T167) (f' := (mkF m 95 #[iv p0, iv p1, iv p2, iv p3, iv p4, iv p5, iv v1, iv v2, iv v3, iv (3 : Int32), .unset, .unset, .unset, .unset, .unset] [(.ref b160)])) (st167) ?_
    refine ow_dupW (q := 96) X167 hx (hb hby at_95) rfl rfl ?_
    refine ow_iconstW (q := 97) X167 hx (2 : Int32) (hb hby at_96) rfl rfl ?_
    refine ow_iloadW (q := 99) X167 hx (hb hby at_97) rfl rfl ?_
    obtain ⟨T170, h170, X170, e170, W170, F170s, st170⟩ := ownCastore F167r X167 hx hZ e167 (j := (2 : Int32)) (by unfold ownIn; decide) (g := (mkF m 99 #[iv p0, iv p1, iv p2, iv p3, iv p4, iv p5, iv v1, iv v2, iv v3, iv (3 : Int32), .unset, .unset, .unset, .unset, .unset] [(.int v3), (.int (2 : Int32)), (.ref b160), (.ref b160)])) rfl rfl (hb hby at_99)
    rw [own_narc hv_v3] at F170s
    have F170r : ownAI Z h170 b160 .char 3 (ownUpd (ownUpd (ownUpd (fun _ => (0 : Int32)) 0 v1) 1 v2) 2 v3) := F170s
    have N170 := Fr.snoc X170 N167 G_b160
    have K170 : Keep h0 h170 [] := K167.wr W170 (Or.inr sz_b160)
    have F171 : Sta Z h170 "java/lang/String" "COMPACT_STRINGS" "Z" (.int zc) := F168.wr W170
    have F172 : Sta Z h170 "jdk/internal/util/Preconditions" "SIOOBE_FORMATTER" "Ljava/util/function/BiFunction;" fm := F169.wr W170
    refine ownGoW (T' := T170) (f' := (mkF m 100 #[iv p0, iv p1, iv p2, iv p3, iv p4, iv p5, iv v1, iv v2, iv v3, iv (3 : Int32), .unset, .unset, .unset, .unset, .unset] [(.ref b160)])) (st170) ?_
    refine ow_astoreW (q := 102) X170 hx (L' := #[iv p0, iv p1, iv p2, iv p3, iv p4, iv p5, iv v1, iv v2, iv v3, iv (3 : Int32), rv b160, .unset, .unset, .unset, .unset]) (hb hby at_100) rfl rfl rfl ?_
    obtain ⟨T173, h173, X173, e173, E173, A173, D173, -, st173⟩ := newO X170 hx hZ hown (ww 1 rfl) (ww 2 rfl) (ww 3 rfl) e170 (g := (mkF m 102 #[iv p0, iv p1, iv p2, iv p3, iv p4, iv p5, iv v1, iv v2, iv v3, iv (3 : Int32), rv b160, .unset, .unset, .unset, .unset] [])) rfl (hb hby at_102) (by decide) (by decide)
    obtain ⟨b173, g173⟩ : ∃ z, z = h170.size := ⟨_, rfl⟩
    rw [← g173] at A173 D173 st173
    have ne_b160_b173 : b160 ≠ b173 := Nat.ne_of_lt (Nat.lt_of_lt_of_le F170r.lt (Nat.le_of_eq g173.symm))
    have sz_b173 : h0.size ≤ b173 := Nat.le_trans K170.1 (Nat.le_of_eq g173.symm)
    have G_b173 : n0 ≤ b173 := Nat.le_trans Z0 sz_b173
    have K173 : Keep h0 h173 [] := K170.ext E173
    have F174 : Sta Z h173 "java/lang/String" "COMPACT_STRINGS" "Z" (.int zc) := F171.ext E173
    have F175 : Sta Z h173 "jdk/internal/util/Preconditions" "SIOOBE_FORMATTER" "Ljava/util/function/BiFunction;" fm := F172.ext E173
    have F176 : ownAI Z h173 b160 .char 3 (ownUpd (ownUpd (ownUpd (fun _ => (0 : Int32)) 0 v1) 1 v2) 2 v3) := F170r.ext E173
    have F177 : Fld Z h173 b173 "com/example/vellum4/vellum4/AsciiSet" "members" "[Z" .null := D173 (Or.inr (ww 39 rfl)) (ty := (.array .boolean)) (by decide)
    refine ownGoW (T' := T173) (f' := (mkF m 105 #[iv p0, iv p1, iv p2, iv p3, iv p4, iv p5, iv v1, iv v2, iv v3, iv (3 : Int32), rv b160, .unset, .unset, .unset, .unset] [(.ref b173)])) (st173) ?_
    refine ow_dupW (q := 106) X173 hx (hb hby at_105) rfl rfl ?_
    obtain ⟨T178, h178, X178, e178, E178, A178, D178, -, st178⟩ := newO X173 hx hZ hown (ww 4 rfl) (ww 5 rfl) (ww 6 rfl) e173 (g := (mkF m 106 #[iv p0, iv p1, iv p2, iv p3, iv p4, iv p5, iv v1, iv v2, iv v3, iv (3 : Int32), rv b160, .unset, .unset, .unset, .unset] [(.ref b173), (.ref b173)])) rfl (hb hby at_106) (by decide) (by decide)
    obtain ⟨b178, g178⟩ : ∃ z, z = h173.size := ⟨_, rfl⟩
    rw [← g178] at A178 D178 st178
    have ne_b160_b178 : b160 ≠ b178 := Nat.ne_of_lt (Nat.lt_of_lt_of_le F176.lt (Nat.le_of_eq g178.symm))
    have ne_b173_b178 : b173 ≠ b178 := Nat.ne_of_lt (Nat.lt_of_lt_of_le A173.lt (Nat.le_of_eq g178.symm))
    have sz_b178 : h0.size ≤ b178 := Nat.le_trans K173.1 (Nat.le_of_eq g178.symm)
    have G_b178 : n0 ≤ b178 := Nat.le_trans Z0 sz_b178
    have K178 : Keep h0 h178 [] := K173.ext E178
    have F179 : Sta Z h178 "java/lang/String" "COMPACT_STRINGS" "Z" (.int zc) := F174.ext E178
    have F180 : Sta Z h178 "jdk/internal/util/Preconditions" "SIOOBE_FORMATTER" "Ljava/util/function/BiFunction;" fm := F175.ext E178
    have F181 : ownAI Z h178 b160 .char 3 (ownUpd (ownUpd (ownUpd (fun _ => (0 : Int32)) 0 v1) 1 v2) 2 v3) := F176.ext E178
    have F182 : Exa Z h178 b173 "com/example/vellum4/vellum4/AsciiSet" := A173.ext E178
    have F183 : Fld Z h178 b173 "com/example/vellum4/vellum4/AsciiSet" "members" "[Z" .null := F177.ext E178
    have F184 : Fld Z h178 b178 "java/lang/String" "coder" "B" (.int (0 : Int32)) := D178 (Or.inr (ww 30 rfl)) (ty := .byte) (by decide)
    have F185 : Fld Z h178 b178 "java/lang/String" "value" "[B" .null := D178 (Or.inr (ww 32 rfl)) (ty := (.array .byte)) (by decide)
    refine ownGoW (T' := T178) (f' := (mkF m 109 #[iv p0, iv p1, iv p2, iv p3, iv p4, iv p5, iv v1, iv v2, iv v3, iv (3 : Int32), rv b160, .unset, .unset, .unset, .unset] [(.ref b178), (.ref b173), (.ref b173)])) (st178) ?_
    refine ow_dupW (q := 110) X178 hx (hb hby at_109) rfl rfl ?_
    refine ow_aloadW (q := 112) X178 hx (hb hby at_110) rfl rfl rfl ?_
    obtain ⟨_, _, ⟨T186, L186, k186, n186⟩, -, X186, ⟨Lc186, hQ186, l186, y186, z186⟩, st186⟩ := X178.specialBack hx (y := (⟨"java/lang/String", "<init>", "([C)V"⟩ : MethodName)) rfl hown (mvT hZ (ww 7 rfl)) (mvT hZ (ww 8 rfl)) (mvT hZ (ww 9 rfl)) (by decide) (ownStr (W := 3) (n0 := n0) hZ (fun d hd => hw d (own_strW d hd)) (ww 5 rfl) (Nat.le_trans Z0 K178.1) A178 F185 F184 F181 F179 G_b178 hz (own_ascR (own_ascU (j := 2) (own_a127 hv_v3) (own_ascU (j := 1) (own_a127 hv_v2) (own_ascU (j := 0) (own_a127 hv_v1) own_asc0)))) (by decide) (by decide) (by decide) (by decide)) (g := (mkF m 112 #[iv p0, iv p1, iv p2, iv p3, iv p4, iv p5, iv v1, iv v2, iv v3, iv (3 : Int32), rv b160, .unset, .unset, .unset, .unset] [(.ref b160), (.ref b178), (.ref b178), (.ref b173), (.ref b173)])) rfl (by rw [hml]; rfl) (Steps.refl _) (a := b178) (argsL := [(.ref b160)]) (rest := [(.ref b178), (.ref b173), (.ref b173)]) (lenOf own_pd8 rfl) rfl (by show 2 * 0 + _ ≤ _; exact Nat.le_of_eq rfl) (hb hby at_112) (fun _ _ => ⟨rfl, e178, (by decide : 3 + 1 ≤ _), (by decide : 8 + 3 ≤ _)⟩)
    dsimp only [Pt.U, Pt.locs, Pt.cells, Pt.slots] at X186 l186 y186 z186 st186 hQ186
    subst l186 y186 z186
    obtain ⟨t_186, rfl, N186q, Kq186, sq186_t_186, FP186_0, FP186_1, FP186_2⟩ := hQ186
    have N186 := Fr.app N170 N186q
    have K186 : Keep h0 T186.heap [] := K178.trans Kq186 (allS (Or.inr sz_b178) all0)
    have ne_b160_t_186 : b160 ≠ t_186 := Nat.ne_of_lt (Nat.lt_of_lt_of_le F181.lt sq186_t_186)
    have ne_b173_t_186 : b173 ≠ t_186 := Nat.ne_of_lt (Nat.lt_of_lt_of_le F182.lt sq186_t_186)
    have ne_b178_t_186 : b178 ≠ t_186 := Nat.ne_of_lt (Nat.lt_of_lt_of_le A178.lt sq186_t_186)
    have sz_t_186 : h0.size ≤ t_186 := Nat.le_trans K178.1 sq186_t_186
    have G_t_186 : n0 ≤ t_186 := Nat.le_trans Z0 sz_t_186
    have F187 : Sta Z T186.heap "java/lang/String" "COMPACT_STRINGS" "Z" (.int zc) := ownStaKeep F179 Kq186 (allS (ownNstE A178) all0)
    have F188 : Sta Z T186.heap "jdk/internal/util/Preconditions" "SIOOBE_FORMATTER" "Ljava/util/function/BiFunction;" fm := ownStaKeep F180 Kq186 (allS (ownNstE A178) all0)
    have F189 : ownAI Z T186.heap b160 .char 3 (ownUpd (ownUpd (ownUpd (fun _ => (0 : Int32)) 0 v1) 1 v2) 2 v3) := F181.keep Kq186 (ninS ne_b160_b178 nin0)
    have F190 : Exa Z T186.heap b173 "com/example/vellum4/vellum4/AsciiSet" := F182.keep Kq186
    have F191 : Fld Z T186.heap b173 "com/example/vellum4/vellum4/AsciiSet" "members" "[Z" .null := F183.keep Kq186 (ninS ne_b173_b178 nin0)
    have F192 : Exa Z T186.heap b178 "java/lang/String" := A178.keep Kq186
    refine ownRunW (T' := T186) (f' := (mkF m 115 #[iv p0, iv p1, iv p2, iv p3, iv p4, iv p5, iv v1, iv v2, iv v3, iv (3 : Int32), rv b160, .unset, .unset, .unset, .unset] [(.ref b178), (.ref b173), (.ref b173)])) st186 ?_
    obtain ⟨_, _, ⟨T193, L193, k193, n193⟩, -, X193, ⟨Lc193, hQ193, l193, y193, z193⟩, st193⟩ := X186.specialBack hx (y := (⟨"com/example/vellum4/vellum4/AsciiSet", "<init>", "(Ljava/lang/String;)V"⟩ : MethodName)) rfl hown (mvT hZ (ww 33 rfl)) (mvT hZ (ww 34 rfl)) (mvT hZ (ww 35 rfl)) (by decide) (backOf (W := 1) (rm_set3 l Z av0 hw [] b173 b178 t_186 (fun i => ((ownUpd (ownUpd (ownUpd (fun _ => (0 : Int32)) 0 v1) 1 v2) 2 v3) i).toInt8.toInt32) zc fm T186.heap n0 (Nat.le_trans Z0 K186.1) F190 F191 F192 FP186_1 FP186_0 FP186_2 F187 F188 G_b173 hz hr_fm (own_ascB (own_ascU (j := 2) (own_a127 hv_v3) (own_ascU (j := 1) (own_a127 hv_v2) (own_ascU (j := 0) (own_a127 hv_v1) own_asc0)))) (Ne.symm ne_b173_b178) (Ne.symm ne_b173_t_186)) hZ (ww 35 rfl) (ww 3 rfl) (by decide) (by decide)) (g := (mkF m 115 #[iv p0, iv p1, iv p2, iv p3, iv p4, iv p5, iv v1, iv v2, iv v3, iv (3 : Int32), rv b160, .unset, .unset, .unset, .unset] [(.ref b178), (.ref b173), (.ref b173)])) rfl (by rw [hml]; rfl) (Steps.refl _) (a := b173) (argsL := [(.ref b178)]) (rest := [(.ref b173)]) (lenOf own_pd9 rfl) rfl (by show 2 * 0 + _ ≤ _; exact Nat.le_of_eq rfl) (hb hby at_115) (fun _ _ => ⟨rfl, rfl, (by decide : 4 + 1 ≤ _), (by decide : 11 + 128 ≤ _)⟩)
    dsimp only [Pt.U, Pt.locs, Pt.cells, Pt.slots] at X193 l193 y193 z193 st193 hQ193
    subst l193 y193 z193
    obtain ⟨mb_193, rfl, N193q, Kq193, sq193_mb_193, FP193_0, FP193_1⟩ := hQ193
    have N193 := Fr.app N186 N193q
    have K193 : Keep h0 T193.heap [] := K186.trans Kq193 (allS (Or.inr sz_b173) all0)
    have ne_b160_mb_193 : b160 ≠ mb_193 := Nat.ne_of_lt (Nat.lt_of_lt_of_le F189.lt sq193_mb_193)
    have ne_b173_mb_193 : b173 ≠ mb_193 := Nat.ne_of_lt (Nat.lt_of_lt_of_le F190.lt sq193_mb_193)
    have ne_b178_mb_193 : b178 ≠ mb_193 := Nat.ne_of_lt (Nat.lt_of_lt_of_le F192.lt sq193_mb_193)
    have ne_t_186_mb_193 : t_186 ≠ mb_193 := Nat.ne_of_lt (Nat.lt_of_lt_of_le FP186_2.lt sq193_mb_193)
    have sz_mb_193 : h0.size ≤ mb_193 := Nat.le_trans K186.1 sq193_mb_193
    have G_mb_193 : n0 ≤ mb_193 := Nat.le_trans Z0 sz_mb_193
    have F194 : Sta Z T193.heap "java/lang/String" "COMPACT_STRINGS" "Z" (.int zc) := ownStaKeep F187 Kq193 (allS (ownNstE F190) all0)
    have F195 : Sta Z T193.heap "jdk/internal/util/Preconditions" "SIOOBE_FORMATTER" "Ljava/util/function/BiFunction;" fm := ownStaKeep F188 Kq193 (allS (ownNstE F190) all0)
    have F196 : ownAI Z T193.heap b160 .char 3 (ownUpd (ownUpd (ownUpd (fun _ => (0 : Int32)) 0 v1) 1 v2) 2 v3) := F189.keep Kq193 (ninS ne_b160_b173 nin0)
    have F197 : Exa Z T193.heap b173 "com/example/vellum4/vellum4/AsciiSet" := F190.keep Kq193
    have F198 : Exa Z T193.heap b178 "java/lang/String" := F192.keep Kq193
    have F199 : Fld Z T193.heap b178 "java/lang/String" "coder" "B" (.int (0 : Int32)) := FP186_0.keep Kq193 (ninS (Ne.symm ne_b173_b178) nin0)
    have F200 : Fld Z T193.heap b178 "java/lang/String" "value" "[B" (.ref t_186) := FP186_1.keep Kq193 (ninS (Ne.symm ne_b173_b178) nin0)
    have F201 : ownAI Z T193.heap t_186 .byte 3 (fun i => ((ownUpd (ownUpd (ownUpd (fun _ => (0 : Int32)) 0 v1) 1 v2) 2 v3) i).toInt8.toInt32) := FP186_2.keep Kq193 (ninS (Ne.symm ne_b173_t_186) nin0)
    refine ownRunW (T' := T193) (f' := (mkF m 118 #[iv p0, iv p1, iv p2, iv p3, iv p4, iv p5, iv v1, iv v2, iv v3, iv (3 : Int32), rv b160, .unset, .unset, .unset, .unset] [(.ref b173)])) st193 ?_
    refine ow_astoreW (q := 120) X193 hx (L' := #[iv p0, iv p1, iv p2, iv p3, iv p4, iv p5, iv v1, iv v2, iv v3, iv (3 : Int32), rv b160, rv b173, .unset, .unset, .unset]) (hb hby at_118) rfl rfl rfl ?_
    refine ow_iloadW (q := 122) X193 hx (hb hby at_120) rfl rfl ?_
    refine ow_iconstW (q := 123) X193 hx (3 : Int32) (hb hby at_122) rfl rfl ?_
    refine ow_iandW (q := 124) X193 hx _ (hb hby at_123) rfl rfl ?_
    generalize hv_v202 : (p5 &&& (3 : Int32)) = v202
    refine ow_istoreW (q := 126) X193 hx (L' := #[iv p0, iv p1, iv p2, iv p3, iv p4, iv p5, iv v1, iv v2, iv v3, iv (3 : Int32), rv b160, rv b173, iv v202, .unset, .unset]) (hb hby at_124) rfl rfl ?_
    have cut175_203 : ∀ (mm : Int32) (x : Int32) (Tc203 : State) (lc203 : List Loc), Stand p l e room_1 s m #[(.int p0), (.int p1), (.int p2), (.int p3), (.int p4), (.int p5)] below meth c Tc203 lc203 5 139 → Tc203.heap = T193.heap → Fr n0 lc203 → ownEndsW p e below s (Q_law Z p0 p1 p2 p3 p4 p5 zc fm h0 n0) 24 1408 Tc203 (mkF m 175 #[iv p0, iv p1, iv p2, iv p3, iv p4, iv p5, iv v1, iv v2, iv v3, iv (3 : Int32), rv b160, rv b173, iv mm, iv x, .unset] []) := by
      intro mm x Tc203 lc203 Xc203 ec203 Nc203
      refine ow_iloadW (q := 177) Xc203 hx (hb hby at_175) rfl rfl ?_
      by_cases hc177_204 : x < (0 : Int32)
      · refine ow_ifYesW (q := 231) Xc203 hx (hb hby at_177) (Jvm.Free.XT.i0_lt_t hc177_204) (by decide) (by decide) ?_
        refine ow_iconstW (q := 232) Xc203 hx (0 : Int32) (hb hby at_231) rfl rfl ?_
        refine ow_istoreW (q := 234) Xc203 hx (L' := #[iv p0, iv p1, iv p2, iv p3, iv p4, iv p5, iv v1, iv v2, iv v3, iv (3 : Int32), rv b160, rv b173, iv mm, iv x, iv (0 : Int32)]) (hb hby at_232) rfl rfl ?_
        refine ow_aloadW (q := 236) Xc203 hx (hb hby at_234) rfl rfl rfl ?_
        refine ow_iloadW (q := 238) Xc203 hx (hb hby at_236) rfl rfl ?_
        obtain ⟨cq205, kq205, q205a, q205b, q205c⟩ := isOf hZ ec203 F197
        obtain ⟨_, _, ⟨T205, L205, k205, n205⟩, -, X205, ⟨Lc205, hQ205, l205, y205, z205⟩, st205⟩ := Xc203.virtualBack hx (y := (⟨"com/example/vellum4/vellum4/AsciiSet", "contains", "(I)Z"⟩ : MethodName)) (z := (⟨"com/example/vellum4/vellum4/AsciiSet", "contains", "(I)Z"⟩ : MethodName)) hown (mvT hZ (ww 72 rfl)) (mvT hZ (ww 73 rfl)) (notFace_of_selects (args := #[]) (mvT hZ (ww 75 rfl))) (mvT hZ (ww 75 rfl)) (mvT hZ (ww 74 rfl)) (by decide) (backOf (W := 0) (rm_contains l Z av0 hw [] b173 x mb_193 (own_mem3 (fun i => ((ownUpd (ownUpd (ownUpd (fun _ => (0 : Int32)) 0 v1) 1 v2) 2 v3) i).toInt8.toInt32)) T193.heap n0 (Nat.le_trans Z0 K193.1) FP193_0 FP193_1) hZ (ww 76 rfl) (ww 3 rfl) (by decide) (by decide)) q205a q205c (g := (mkF m 238 #[iv p0, iv p1, iv p2, iv p3, iv p4, iv p5, iv v1, iv v2, iv v3, iv (3 : Int32), rv b160, rv b173, iv mm, iv x, iv (0 : Int32)] [(.int x), (.ref b173)])) rfl (by rw [hml]; rfl) (Steps.refl _) (argsL := [(.int x)]) (rest := []) (lenOf own_pd10 rfl) rfl (by show 2 * 0 + _ ≤ _; exact Nat.le_of_eq rfl) (hb hby at_238) (fun _ _ => ⟨rfl, ec203, (by decide : 5 + 0 ≤ _), (by decide : 139 + 0 ≤ _)⟩)
        dsimp only [Pt.U, Pt.locs, Pt.cells, Pt.slots] at X205 l205 y205 z205 st205 hQ205
        subst l205 y205 z205
        obtain ⟨r205, rfl, N205q, e205, hp205⟩ := hQ205
        have N205 := Fr.app Nc203 N205q
        refine ownRunW (T' := T205) (f' := (mkF m 241 #[iv p0, iv p1, iv p2, iv p3, iv p4, iv p5, iv v1, iv v2, iv v3, iv (3 : Int32), rv b160, rv b173, iv mm, iv x, iv (0 : Int32)] [(.int r205)])) st205 ?_
        refine ow_iloadW (q := 243) X205 hx (hb hby at_241) rfl rfl ?_
        refine ow_icmpNoW (q := 246) X205 hx (hb hby at_243) rfl (Jvm.Free.XT.ii_ne_f ((own_fin3 (own_a127 hv_v1) (own_a127 hv_v2) (own_a127 hv_v3) hp205).1.resolve_left (fun q => ((own_fin3 (own_a127 hv_v1) (own_a127 hv_v2) (own_a127 hv_v3) hp205).2.mp q).1 hc177_204))) ?_
        refine ow_iconstW (q := 247) X205 hx (1 : Int32) (hb hby at_246) rfl rfl ?_
        refine ow_gotoW (q := 251) X205 hx (hb hby at_247) (by decide) (by decide) ?_
        refine ownRetNW X205 hx (r := (1 : Int32)) (Or.inl rfl) Bd.returns (hb hby at_251) hlk (by decide) (by decide) (by decide) ?_
        exact ⟨rfl, N205⟩
      · refine ow_ifNoW (q := 180) Xc203 hx (hb hby at_177) rfl (Jvm.Free.XT.i0_lt_f hc177_204) ?_
        refine ow_iloadW (q := 182) Xc203 hx (hb hby at_180) rfl rfl ?_
        refine ow_sipushW (q := 185) Xc203 hx (128 : Int32) (hb hby at_182) rfl rfl ?_
        by_cases hc185_206 : x < (128 : Int32)
        · refine ow_icmpNoW (q := 188) Xc203 hx (hb hby at_185) rfl (Jvm.Free.XT.ii_ge_f hc185_206) ?_
          refine ow_iloadW (q := 190) Xc203 hx (hb hby at_188) rfl rfl ?_
          refine ow_iconstW (q := 191) Xc203 hx (1 : Int32) (hb hby at_190) rfl rfl ?_
          refine ow_icmpNoW (q := 194) Xc203 hx (hb hby at_191) rfl (Jvm.Free.XT.ii_lt_f (by decide)) ?_
          refine ow_iloadW (q := 196) Xc203 hx (hb hby at_194) rfl rfl ?_
          refine ow_iloadW (q := 198) Xc203 hx (hb hby at_196) rfl rfl ?_
          by_cases hc198_207 : x = v1
          · refine ow_icmpYesW (q := 227) Xc203 hx (hb hby at_198) (Jvm.Free.XT.ii_eq_t hc198_207) (by decide) (by decide) ?_
            refine ow_iconstW (q := 228) Xc203 hx (1 : Int32) (hb hby at_227) rfl rfl ?_
            refine ow_gotoW (q := 232) Xc203 hx (hb hby at_228) (by decide) (by decide) ?_
            refine ow_istoreW (q := 234) Xc203 hx (L' := #[iv p0, iv p1, iv p2, iv p3, iv p4, iv p5, iv v1, iv v2, iv v3, iv (3 : Int32), rv b160, rv b173, iv mm, iv x, iv (1 : Int32)]) (hb hby at_232) rfl rfl ?_
            refine ow_aloadW (q := 236) Xc203 hx (hb hby at_234) rfl rfl rfl ?_
            refine ow_iloadW (q := 238) Xc203 hx (hb hby at_236) rfl rfl ?_
            obtain ⟨cq208, kq208, q208a, q208b, q208c⟩ := isOf hZ ec203 F197
            obtain ⟨_, _, ⟨T208, L208, k208, n208⟩, -, X208, ⟨Lc208, hQ208, l208, y208, z208⟩, st208⟩ := Xc203.virtualBack hx (y := (⟨"com/example/vellum4/vellum4/AsciiSet", "contains", "(I)Z"⟩ : MethodName)) (z := (⟨"com/example/vellum4/vellum4/AsciiSet", "contains", "(I)Z"⟩ : MethodName)) hown (mvT hZ (ww 72 rfl)) (mvT hZ (ww 73 rfl)) (notFace_of_selects (args := #[]) (mvT hZ (ww 75 rfl))) (mvT hZ (ww 75 rfl)) (mvT hZ (ww 74 rfl)) (by decide) (backOf (W := 0) (rm_contains l Z av0 hw [] b173 x mb_193 (own_mem3 (fun i => ((ownUpd (ownUpd (ownUpd (fun _ => (0 : Int32)) 0 v1) 1 v2) 2 v3) i).toInt8.toInt32)) T193.heap n0 (Nat.le_trans Z0 K193.1) FP193_0 FP193_1) hZ (ww 76 rfl) (ww 3 rfl) (by decide) (by decide)) q208a q208c (g := (mkF m 238 #[iv p0, iv p1, iv p2, iv p3, iv p4, iv p5, iv v1, iv v2, iv v3, iv (3 : Int32), rv b160, rv b173, iv mm, iv x, iv (1 : Int32)] [(.int x), (.ref b173)])) rfl (by rw [hml]; rfl) (Steps.refl _) (argsL := [(.int x)]) (rest := []) (lenOf own_pd10 rfl) rfl (by show 2 * 0 + _ ≤ _; exact Nat.le_of_eq rfl) (hb hby at_238) (fun _ _ => ⟨rfl, ec203, (by decide : 5 + 0 ≤ _), (by decide : 139 + 0 ≤ _)⟩)
            dsimp only [Pt.U, Pt.locs, Pt.cells, Pt.slots] at X208 l208 y208 z208 st208 hQ208
            subst l208 y208 z208
            obtain ⟨r208, rfl, N208q, e208, hp208⟩ := hQ208
            have N208 := Fr.app Nc203 N208q
            refine ownRunW (T' := T208) (f' := (mkF m 241 #[iv p0, iv p1, iv p2, iv p3, iv p4, iv p5, iv v1, iv v2, iv v3, iv (3 : Int32), rv b160, rv b173, iv mm, iv x, iv (1 : Int32)] [(.int r208)])) st208 ?_
            refine ow_iloadW (q := 243) X208 hx (hb hby at_241) rfl rfl ?_
            refine ow_icmpNoW (q := 246) X208 hx (hb hby at_243) rfl (Jvm.Free.XT.ii_ne_f ((own_fin3 (own_a127 hv_v1) (own_a127 hv_v2) (own_a127 hv_v3) hp208).2.mpr ⟨hc177_204, hc185_206, (Or.inl hc198_207)⟩)) ?_
            refine ow_iconstW (q := 247) X208 hx (1 : Int32) (hb hby at_246) rfl rfl ?_
            refine ow_gotoW (q := 251) X208 hx (hb hby at_247) (by decide) (by decide) ?_
            refine ownRetNW X208 hx (r := (1 : Int32)) (Or.inl rfl) Bd.returns (hb hby at_251) hlk (by decide) (by decide) (by decide) ?_
            exact ⟨rfl, N208⟩
          · refine ow_icmpNoW (q := 201) Xc203 hx (hb hby at_198) rfl (Jvm.Free.XT.ii_eq_f hc198_207) ?_
            refine ow_iloadW (q := 203) Xc203 hx (hb hby at_201) rfl rfl ?_
            refine ow_iconstW (q := 204) Xc203 hx (2 : Int32) (hb hby at_203) rfl rfl ?_
            refine ow_icmpNoW (q := 207) Xc203 hx (hb hby at_204) rfl (Jvm.Free.XT.ii_lt_f (by decide)) ?_
            refine ow_iloadW (q := 209) Xc203 hx (hb hby at_207) rfl rfl ?_
            refine ow_iloadW (q := 211) Xc203 hx (hb hby at_209) rfl rfl ?_
            by_cases hc211_209 : x = v2
            · refine ow_icmpYesW (q := 227) Xc203 hx (hb hby at_211) (Jvm.Free.XT.ii_eq_t hc211_209) (by decide) (by decide) ?_
              refine ow_iconstW (q := 228) Xc203 hx (1 : Int32) (hb hby at_227) rfl rfl ?_
              refine ow_gotoW (q := 232) Xc203 hx (hb hby at_228) (by decide) (by decide) ?_
              refine ow_istoreW (q := 234) Xc203 hx (L' := #[iv p0, iv p1, iv p2, iv p3, iv p4, iv p5, iv v1, iv v2, iv v3, iv (3 : Int32), rv b160, rv b173, iv mm, iv x, iv (1 : Int32)]) (hb hby at_232) rfl rfl ?_
              refine ow_aloadW (q := 236) Xc203 hx (hb hby at_234) rfl rfl rfl ?_
              refine ow_iloadW (q := 238) Xc203 hx (hb hby at_236) rfl rfl ?_
              obtain ⟨cq210, kq210, q210a, q210b, q210c⟩ := isOf hZ ec203 F197
              obtain ⟨_, _, ⟨T210, L210, k210, n210⟩, -, X210, ⟨Lc210, hQ210, l210, y210, z210⟩, st210⟩ := Xc203.virtualBack hx (y := (⟨"com/example/vellum4/vellum4/AsciiSet", "contains", "(I)Z"⟩ : MethodName)) (z := (⟨"com/example/vellum4/vellum4/AsciiSet", "contains", "(I)Z"⟩ : MethodName)) hown (mvT hZ (ww 72 rfl)) (mvT hZ (ww 73 rfl)) (notFace_of_selects (args := #[]) (mvT hZ (ww 75 rfl))) (mvT hZ (ww 75 rfl)) (mvT hZ (ww 74 rfl)) (by decide) (backOf (W := 0) (rm_contains l Z av0 hw [] b173 x mb_193 (own_mem3 (fun i => ((ownUpd (ownUpd (ownUpd (fun _ => (0 : Int32)) 0 v1) 1 v2) 2 v3) i).toInt8.toInt32)) T193.heap n0 (Nat.le_trans Z0 K193.1) FP193_0 FP193_1) hZ (ww 76 rfl) (ww 3 rfl) (by decide) (by decide)) q210a q210c (g := (mkF m 238 #[iv p0, iv p1, iv p2, iv p3, iv p4, iv p5, iv v1, iv v2, iv v3, iv (3 : Int32), rv b160, rv b173, iv mm, iv x, iv (1 : Int32)] [(.int x), (.ref b173)])) rfl (by rw [hml]; rfl) (Steps.refl _) (argsL := [(.int x)]) (rest := []) (lenOf own_pd10 rfl) rfl (by show 2 * 0 + _ ≤ _; exact Nat.le_of_eq rfl) (hb hby at_238) (fun _ _ => ⟨rfl, ec203, (by decide : 5 + 0 ≤ _), (by decide : 139 + 0 ≤ _)⟩)
              dsimp only [Pt.U, Pt.locs, Pt.cells, Pt.slots] at X210 l210 y210 z210 st210 hQ210
              subst l210 y210 z210
              obtain ⟨r210, rfl, N210q, e210, hp210⟩ := hQ210
              have N210 := Fr.app Nc203 N210q
              refine ownRunW (T' := T210) (f' := (mkF m 241 #[iv p0, iv p1, iv p2, iv p3, iv p4, iv p5, iv v1, iv v2, iv v3, iv (3 : Int32), rv b160, rv b173, iv mm, iv x, iv (1 : Int32)] [(.int r210)])) st210 ?_
              refine ow_iloadW (q := 243) X210 hx (hb hby at_241) rfl rfl ?_
              refine ow_icmpNoW (q := 246) X210 hx (hb hby at_243) rfl (Jvm.Free.XT.ii_ne_f ((own_fin3 (own_a127 hv_v1) (own_a127 hv_v2) (own_a127 hv_v3) hp210).2.mpr ⟨hc177_204, hc185_206, (Or.inr (Or.inl hc211_209))⟩)) ?_
              refine ow_iconstW (q := 247) X210 hx (1 : Int32) (hb hby at_246) rfl rfl ?_
              refine ow_gotoW (q := 251) X210 hx (hb hby at_247) (by decide) (by decide) ?_
              refine ownRetNW X210 hx (r := (1 : Int32)) (Or.inl rfl) Bd.returns (hb hby at_251) hlk (by decide) (by decide) (by decide) ?_
              exact ⟨rfl, N210⟩
            · refine ow_icmpNoW (q := 214) Xc203 hx (hb hby at_211) rfl (Jvm.Free.XT.ii_eq_f hc211_209) ?_
              refine ow_iloadW (q := 216) Xc203 hx (hb hby at_214) rfl rfl ?_
              refine ow_iconstW (q := 217) Xc203 hx (3 : Int32) (hb hby at_216) rfl rfl ?_
              refine ow_icmpNoW (q := 220) Xc203 hx (hb hby at_217) rfl (Jvm.Free.XT.ii_lt_f (by decide)) ?_
              refine ow_iloadW (q := 222) Xc203 hx (hb hby at_220) rfl rfl ?_
              refine ow_iloadW (q := 224) Xc203 hx (hb hby at_222) rfl rfl ?_
              by_cases hc224_211 : x = v3
              · refine ow_icmpNoW (q := 227) Xc203 hx (hb hby at_224) rfl (Jvm.Free.XT.ii_ne_f hc224_211) ?_
                refine ow_iconstW (q := 228) Xc203 hx (1 : Int32) (hb hby at_227) rfl rfl ?_
                refine ow_gotoW (q := 232) Xc203 hx (hb hby at_228) (by decide) (by decide) ?_
                refine ow_istoreW (q := 234) Xc203 hx (L' := #[iv p0, iv p1, iv p2, iv p3, iv p4, iv p5, iv v1, iv v2, iv v3, iv (3 : Int32), rv b160, rv b173, iv mm, iv x, iv (1 : Int32)]) (hb hby at_232) rfl rfl ?_
                refine ow_aloadW (q := 236) Xc203 hx (hb hby at_234) rfl rfl rfl ?_
                refine ow_iloadW (q := 238) Xc203 hx (hb hby at_236) rfl rfl ?_
                obtain ⟨cq212, kq212, q212a, q212b, q212c⟩ := isOf hZ ec203 F197
                obtain ⟨_, _, ⟨T212, L212, k212, n212⟩, -, X212, ⟨Lc212, hQ212, l212, y212, z212⟩, st212⟩ := Xc203.virtualBack hx (y := (⟨"com/example/vellum4/vellum4/AsciiSet", "contains", "(I)Z"⟩ : MethodName)) (z := (⟨"com/example/vellum4/vellum4/AsciiSet", "contains", "(I)Z"⟩ : MethodName)) hown (mvT hZ (ww 72 rfl)) (mvT hZ (ww 73 rfl)) (notFace_of_selects (args := #[]) (mvT hZ (ww 75 rfl))) (mvT hZ (ww 75 rfl)) (mvT hZ (ww 74 rfl)) (by decide) (backOf (W := 0) (rm_contains l Z av0 hw [] b173 x mb_193 (own_mem3 (fun i => ((ownUpd (ownUpd (ownUpd (fun _ => (0 : Int32)) 0 v1) 1 v2) 2 v3) i).toInt8.toInt32)) T193.heap n0 (Nat.le_trans Z0 K193.1) FP193_0 FP193_1) hZ (ww 76 rfl) (ww 3 rfl) (by decide) (by decide)) q212a q212c (g := (mkF m 238 #[iv p0, iv p1, iv p2, iv p3, iv p4, iv p5, iv v1, iv v2, iv v3, iv (3 : Int32), rv b160, rv b173, iv mm, iv x, iv (1 : Int32)] [(.int x), (.ref b173)])) rfl (by rw [hml]; rfl) (Steps.refl _) (argsL := [(.int x)]) (rest := []) (lenOf own_pd10 rfl) rfl (by show 2 * 0 + _ ≤ _; exact Nat.le_of_eq rfl) (hb hby at_238) (fun _ _ => ⟨rfl, ec203, (by decide : 5 + 0 ≤ _), (by decide : 139 + 0 ≤ _)⟩)
                dsimp only [Pt.U, Pt.locs, Pt.cells, Pt.slots] at X212 l212 y212 z212 st212 hQ212
                subst l212 y212 z212
                obtain ⟨r212, rfl, N212q, e212, hp212⟩ := hQ212
                have N212 := Fr.app Nc203 N212q
                refine ownRunW (T' := T212) (f' := (mkF m 241 #[iv p0, iv p1, iv p2, iv p3, iv p4, iv p5, iv v1, iv v2, iv v3, iv (3 : Int32), rv b160, rv b173, iv mm, iv x, iv (1 : Int32)] [(.int r212)])) st212 ?_
                refine ow_iloadW (q := 243) X212 hx (hb hby at_241) rfl rfl ?_
                refine ow_icmpNoW (q := 246) X212 hx (hb hby at_243) rfl (Jvm.Free.XT.ii_ne_f ((own_fin3 (own_a127 hv_v1) (own_a127 hv_v2) (own_a127 hv_v3) hp212).2.mpr ⟨hc177_204, hc185_206, (Or.inr (Or.inr hc224_211))⟩)) ?_
                refine ow_iconstW (q := 247) X212 hx (1 : Int32) (hb hby at_246) rfl rfl ?_
                refine ow_gotoW (q := 251) X212 hx (hb hby at_247) (by decide) (by decide) ?_
                refine ownRetNW X212 hx (r := (1 : Int32)) (Or.inl rfl) Bd.returns (hb hby at_251) hlk (by decide) (by decide) (by decide) ?_
                exact ⟨rfl, N212⟩
              · refine ow_icmpYesW (q := 231) Xc203 hx (hb hby at_224) (Jvm.Free.XT.ii_ne_t hc224_211) (by decide) (by decide) ?_
                refine ow_iconstW (q := 232) Xc203 hx (0 : Int32) (hb hby at_231) rfl rfl ?_
                refine ow_istoreW (q := 234) Xc203 hx (L' := #[iv p0, iv p1, iv p2, iv p3, iv p4, iv p5, iv v1, iv v2, iv v3, iv (3 : Int32), rv b160, rv b173, iv mm, iv x, iv (0 : Int32)]) (hb hby at_232) rfl rfl ?_
                refine ow_aloadW (q := 236) Xc203 hx (hb hby at_234) rfl rfl rfl ?_
                refine ow_iloadW (q := 238) Xc203 hx (hb hby at_236) rfl rfl ?_
                obtain ⟨cq213, kq213, q213a, q213b, q213c⟩ := isOf hZ ec203 F197
                obtain ⟨_, _, ⟨T213, L213, k213, n213⟩, -, X213, ⟨Lc213, hQ213, l213, y213, z213⟩, st213⟩ := Xc203.virtualBack hx (y := (⟨"com/example/vellum4/vellum4/AsciiSet", "contains", "(I)Z"⟩ : MethodName)) (z := (⟨"com/example/vellum4/vellum4/AsciiSet", "contains", "(I)Z"⟩ : MethodName)) hown (mvT hZ (ww 72 rfl)) (mvT hZ (ww 73 rfl)) (notFace_of_selects (args := #[]) (mvT hZ (ww 75 rfl))) (mvT hZ (ww 75 rfl)) (mvT hZ (ww 74 rfl)) (by decide) (backOf (W := 0) (rm_contains l Z av0 hw [] b173 x mb_193 (own_mem3 (fun i => ((ownUpd (ownUpd (ownUpd (fun _ => (0 : Int32)) 0 v1) 1 v2) 2 v3) i).toInt8.toInt32)) T193.heap n0 (Nat.le_trans Z0 K193.1) FP193_0 FP193_1) hZ (ww 76 rfl) (ww 3 rfl) (by decide) (by decide)) q213a q213c (g := (mkF m 238 #[iv p0, iv p1, iv p2, iv p3, iv p4, iv p5, iv v1, iv v2, iv v3, iv (3 : Int32), rv b160, rv b173, iv mm, iv x, iv (0 : Int32)] [(.int x), (.ref b173)])) rfl (by rw [hml]; rfl) (Steps.refl _) (argsL := [(.int x)]) (rest := []) (lenOf own_pd10 rfl) rfl (by show 2 * 0 + _ ≤ _; exact Nat.le_of_eq rfl) (hb hby at_238) (fun _ _ => ⟨rfl, ec203, (by decide : 5 + 0 ≤ _), (by decide : 139 + 0 ≤ _)⟩)
                dsimp only [Pt.U, Pt.locs, Pt.cells, Pt.slots] at X213 l213 y213 z213 st213 hQ213
                subst l213 y213 z213
                obtain ⟨r213, rfl, N213q, e213, hp213⟩ := hQ213
                have N213 := Fr.app Nc203 N213q
                refine ownRunW (T' := T213) (f' := (mkF m 241 #[iv p0, iv p1, iv p2, iv p3, iv p4, iv p5, iv v1, iv v2, iv v3, iv (3 : Int32), rv b160, rv b173, iv mm, iv x, iv (0 : Int32)] [(.int r213)])) st213 ?_
                refine ow_iloadW (q := 243) X213 hx (hb hby at_241) rfl rfl ?_
                refine ow_icmpNoW (q := 246) X213 hx (hb hby at_243) rfl (Jvm.Free.XT.ii_ne_f ((own_fin3 (own_a127 hv_v1) (own_a127 hv_v2) (own_a127 hv_v3) hp213).1.resolve_left (fun q => (fun z => Or.elim z hc198_207 (fun z => Or.elim z hc211_209 hc224_211)) (((own_fin3 (own_a127 hv_v1) (own_a127 hv_v2) (own_a127 hv_v3) hp213).2.mp q).2.2)))) ?_
                refine ow_iconstW (q := 247) X213 hx (1 : Int32) (hb hby at_246) rfl rfl ?_
                refine ow_gotoW (q := 251) X213 hx (hb hby at_247) (by decide) (by decide) ?_
                refine ownRetNW X213 hx (r := (1 : Int32)) (Or.inl rfl) Bd.returns (hb hby at_251) hlk (by decide) (by decide) (by decide) ?_
                exact ⟨rfl, N213⟩
        · refine ow_icmpYesW (q := 231) Xc203 hx (hb hby at_185) (Jvm.Free.XT.ii_ge_t hc185_206) (by decide) (by decide) ?_
          refine ow_iconstW (q := 232) Xc203 hx (0 : Int32) (hb hby at_231) rfl rfl ?_
          refine ow_istoreW (q := 234) Xc203 hx (L' := #[iv p0, iv p1, iv p2, iv p3, iv p4, iv p5, iv v1, iv v2, iv v3, iv (3 : Int32), rv b160, rv b173, iv mm, iv x, iv (0 : Int32)]) (hb hby at_232) rfl rfl ?_
          refine ow_aloadW (q := 236) Xc203 hx (hb hby at_234) rfl rfl rfl ?_
          refine ow_iloadW (q := 238) Xc203 hx (hb hby at_236) rfl rfl ?_
          obtain ⟨cq214, kq214, q214a, q214b, q214c⟩ := isOf hZ ec203 F197
          obtain ⟨_, _, ⟨T214, L214, k214, n214⟩, -, X214, ⟨Lc214, hQ214, l214, y214, z214⟩, st214⟩ := Xc203.virtualBack hx (y := (⟨"com/example/vellum4/vellum4/AsciiSet", "contains", "(I)Z"⟩ : MethodName)) (z := (⟨"com/example/vellum4/vellum4/AsciiSet", "contains", "(I)Z"⟩ : MethodName)) hown (mvT hZ (ww 72 rfl)) (mvT hZ (ww 73 rfl)) (notFace_of_selects (args := #[]) (mvT hZ (ww 75 rfl))) (mvT hZ (ww 75 rfl)) (mvT hZ (ww 74 rfl)) (by decide) (backOf (W := 0) (rm_contains l Z av0 hw [] b173 x mb_193 (own_mem3 (fun i => ((ownUpd (ownUpd (ownUpd (fun _ => (0 : Int32)) 0 v1) 1 v2) 2 v3) i).toInt8.toInt32)) T193.heap n0 (Nat.le_trans Z0 K193.1) FP193_0 FP193_1) hZ (ww 76 rfl) (ww 3 rfl) (by decide) (by decide)) q214a q214c (g := (mkF m 238 #[iv p0, iv p1, iv p2, iv p3, iv p4, iv p5, iv v1, iv v2, iv v3, iv (3 : Int32), rv b160, rv b173, iv mm, iv x, iv (0 : Int32)] [(.int x), (.ref b173)])) rfl (by rw [hml]; rfl) (Steps.refl _) (argsL := [(.int x)]) (rest := []) (lenOf own_pd10 rfl) rfl (by show 2 * 0 + _ ≤ _; exact Nat.le_of_eq rfl) (hb hby at_238) (fun _ _ => ⟨rfl, ec203, (by decide : 5 + 0 ≤ _), (by decide : 139 + 0 ≤ _)⟩)
          dsimp only [Pt.U, Pt.locs, Pt.cells, Pt.slots] at X214 l214 y214 z214 st214 hQ214
          subst l214 y214 z214
          obtain ⟨r214, rfl, N214q, e214, hp214⟩ := hQ214
          have N214 := Fr.app Nc203 N214q
          refine ownRunW (T' := T214) (f' := (mkF m 241 #[iv p0, iv p1, iv p2, iv p3, iv p4, iv p5, iv v1, iv v2, iv v3, iv (3 : Int32), rv b160, rv b173, iv mm, iv x, iv (0 : Int32)] [(.int r214)])) st214 ?_
          refine ow_iloadW (q := 243) X214 hx (hb hby at_241) rfl rfl ?_
          refine ow_icmpNoW (q := 246) X214 hx (hb hby at_243) rfl (Jvm.Free.XT.ii_ne_f ((own_fin3 (own_a127 hv_v1) (own_a127 hv_v2) (own_a127 hv_v3) hp214).1.resolve_left (fun q => hc185_206 ((own_fin3 (own_a127 hv_v1) (own_a127 hv_v2) (own_a127 hv_v3) hp214).2.mp q).2.1))) ?_
          refine ow_iconstW (q := 247) X214 hx (1 : Int32) (hb hby at_246) rfl rfl ?_
          refine ow_gotoW (q := 251) X214 hx (hb hby at_247) (by decide) (by decide) ?_
          refine ownRetNW X214 hx (r := (1 : Int32)) (Or.inl rfl) Bd.returns (hb hby at_251) hlk (by decide) (by decide) (by decide) ?_
          exact ⟨rfl, N214⟩
    rcases (own_and3 hv_v202) with hs215 | hs216 | hs217 | hs218
    · subst hs215
      refine ow_iloadW (q := 128) X193 hx (hb hby at_126) rfl rfl ?_
      refine ow_ifNoW (q := 131) X193 hx (hb hby at_128) rfl (Jvm.Free.XT.i0_ne_f (by decide)) ?_
      refine ow_iloadW (q := 133) X193 hx (hb hby at_131) rfl rfl ?_
      refine ow_istoreW (q := 135) X193 hx (L' := #[iv p0, iv p1, iv p2, iv p3, iv p4, iv p5, iv v1, iv v2, iv v3, iv (3 : Int32), rv b160, rv b173, iv (0 : Int32), iv p4, .unset]) (hb hby at_133) rfl rfl ?_
      refine ow_gotoW (q := 175) X193 hx (hb hby at_135) (by decide) (by decide) ?_
      exact cut175_203 (0 : Int32) p4 _ _ X193 rfl N193 
    · subst hs216
      refine ow_iloadW (q := 128) X193 hx (hb hby at_126) rfl rfl ?_
      refine ow_ifYesW (q := 138) X193 hx (hb hby at_128) (Jvm.Free.XT.i0_ne_t (by decide)) (by decide) (by decide) ?_
      refine ow_iloadW (q := 140) X193 hx (hb hby at_138) rfl rfl ?_
      refine ow_iconstW (q := 141) X193 hx (1 : Int32) (hb hby at_140) rfl rfl ?_
      refine ow_icmpNoW (q := 144) X193 hx (hb hby at_141) rfl (Jvm.Free.XT.ii_ne_f (by decide)) ?_
      refine ow_iloadW (q := 146) X193 hx (hb hby at_144) rfl rfl ?_
      refine ow_sipushW (q := 149) X193 hx (255 : Int32) (hb hby at_146) rfl rfl ?_
      refine ow_iandW (q := 150) X193 hx _ (hb hby at_149) rfl rfl ?_
      refine ow_bipushW (q := 152) X193 hx (64 : Int32) (hb hby at_150) rfl rfl ?_
      refine ow_isubW (q := 153) X193 hx _ (hb hby at_152) rfl rfl ?_
      generalize hv_v219 : ((p4 &&& (255 : Int32)) - (64 : Int32)) = v219
      refine ow_istoreW (q := 155) X193 hx (L' := #[iv p0, iv p1, iv p2, iv p3, iv p4, iv p5, iv v1, iv v2, iv v3, iv (3 : Int32), rv b160, rv b173, iv (1 : Int32), iv v219, .unset]) (hb hby at_153) rfl rfl ?_
      refine ow_gotoW (q := 175) X193 hx (hb hby at_155) (by decide) (by decide) ?_
      exact cut175_203 (1 : Int32) v219 _ _ X193 rfl N193 
    · subst hs217
      refine ow_iloadW (q := 128) X193 hx (hb hby at_126) rfl rfl ?_
      refine ow_ifYesW (q := 138) X193 hx (hb hby at_128) (Jvm.Free.XT.i0_ne_t (by decide)) (by decide) (by decide) ?_
      refine ow_iloadW (q := 140) X193 hx (hb hby at_138) rfl rfl ?_
      refine ow_iconstW (q := 141) X193 hx (1 : Int32) (hb hby at_140) rfl rfl ?_
      refine ow_icmpYesW (q := 158) X193 hx (hb hby at_141) (Jvm.Free.XT.ii_ne_t (by decide)) (by decide) (by decide) ?_
      refine ow_iloadW (q := 160) X193 hx (hb hby at_158) rfl rfl ?_
      refine ow_iconstW (q := 161) X193 hx (2 : Int32) (hb hby at_160) rfl rfl ?_
      refine ow_icmpNoW (q := 164) X193 hx (hb hby at_161) rfl (Jvm.Free.XT.ii_ne_f (by decide)) ?_
      refine ow_iloadW (q := 166) X193 hx (hb hby at_164) rfl rfl ?_
      refine ow_istoreW (q := 168) X193 hx (L' := #[iv p0, iv p1, iv p2, iv p3, iv p4, iv p5, iv v1, iv v2, iv v3, iv (3 : Int32), rv b160, rv b173, iv (2 : Int32), iv v1, .unset]) (hb hby at_166) rfl rfl ?_
      refine ow_gotoW (q := 175) X193 hx (hb hby at_168) (by decide) (by decide) ?_
      exact cut175_203 (2 : Int32) v1 _ _ X193 rfl N193 
    · subst hs218
      refine ow_iloadW (q := 128) X193 hx (hb hby at_126) rfl rfl ?_
      refine ow_ifYesW (q := 138) X193 hx (hb hby at_128) (Jvm.Free.XT.i0_ne_t (by decide)) (by decide) (by decide) ?_
      refine ow_iloadW (q := 140) X193 hx (hb hby at_138) rfl rfl ?_
      refine ow_iconstW (q := 141) X193 hx (1 : Int32) (hb hby at_140) rfl rfl ?_
      refine ow_icmpYesW (q := 158) X193 hx (hb hby at_141) (Jvm.Free.XT.ii_ne_t (by decide)) (by decide) (by decide) ?_
      refine ow_iloadW (q := 160) X193 hx (hb hby at_158) rfl rfl ?_
      refine ow_iconstW (q := 161) X193 hx (2 : Int32) (hb hby at_160) rfl rfl ?_
      refine ow_icmpYesW (q := 171) X193 hx (hb hby at_161) (Jvm.Free.XT.ii_ne_t (by decide)) (by decide) (by decide) ?_
      refine ow_iloadW (q := 173) X193 hx (hb hby at_171) rfl rfl ?_
      refine ow_istoreW (q := 175) X193 hx (L' := #[iv p0, iv p1, iv p2, iv p3, iv p4, iv p5, iv v1, iv v2, iv v3, iv (3 : Int32), rv b160, rv b173, iv (3 : Int32), iv v3, .unset]) (hb hby at_173) rfl rfl ?_
      exact cut175_203 (3 : Int32) v3 _ _ X193 rfl N193 
set_option maxRecDepth 65536 in
set_option maxHeartbeats 40000000 in
theorem comes_1 {Post : Tables → Env → Array Value → State → Outcome → State → Prop} (hpost : ∀ tb e args s v u, (limb_1_1.after args s (.returned v) u = true ∧ limb_1_2.after args s (.returned v) u = true ∧ True) → ReturnedEndW s (.returned v) u (Jvm.fieldLocs frame_1_writes args s ++ Jvm.arrayLocs frame_1_arrays args s ++ Jvm.staticLocs frame_1_statics s) 24 1408 → Post tb e args s (.returned v) u) :
    ArmFor flags0 classFile x code maxLocals ret World_1 tables_1 room_1 Calls_1 rest_1 Pre_1 Post := by
  intro l hfl _ _ p e ha hc hk s m args below hf hA hF happ hP
  obtain ⟨hcalls, hrest, hpre⟩ := hP
  obtain ⟨-, -, -, hnamed, -, -, -, hat⟩ := (Spec.applies_iff hf).mp happ
  obtain ⟨hg, hn⟩ := and_e (Cond.before_iff.mp (show (Jvm.Cond.and given_1 narrow_1).before args s = true from hpre))
  obtain ⟨gg1, gg2⟩ := and_e hg
  obtain ⟨gg3, gg4⟩ := and_e gg2
  obtain ⟨gg5, gg6⟩ := and_e gg4
  obtain ⟨gg7, gg8⟩ := and_e gg6
  obtain ⟨gg9, gg10⟩ := and_e gg8
  obtain ⟨gg11, gg12⟩ := and_e gg10
  obtain ⟨w0, w1, w2, w3, w4, w5, rfl⟩ : ∃ w0 w1 w2 w3 w4 w5 : Value, args = #[w0, w1, w2, w3, w4, w5] := by
    have hs : args.size = 6 := by simpa [Cond.value, given_1] using gg1
    obtain ⟨L⟩ := args
    match L, hs with
    | [w0, w1, w2, w3, w4, w5], _ => exact ⟨w0, w1, w2, w3, w4, w5, rfl⟩
  have hw := fun d (hd : d ∈ tables_1) => atoms_spec (ws := Jvm.Cond.code x code maxLocals ret :: tables_1) hat d (List.mem_cons_of_mem _ hd)
  have hfit : Fit s := fun {y c} hc i hi => by
    obtain ⟨ha, rfl⟩ := Array.getElem?_eq_some_iff.mp hc
    have q := List.all_eq_true.mp ((Array.all_eq_true_iff_forall_mem.mp hF) _ (Array.getElem_mem ha)) i (List.mem_range.mpr hi)
    simpa [Array.getElem?_eq_getElem hi] using q
  obtain ⟨hsets, hown0⟩ := atoms_of _ (rest_1_c_eq ▸ (show rest_1_c.before _ s = true from hrest))
  have hr0 := Cond.before_iff.mp hown0
  obtain ⟨i0, ei0⟩ := is_v gg3
  obtain rfl : w0 = (.int i0) := Option.some.inj ei0
  obtain ⟨i1, ei1⟩ := is_v gg5
  obtain rfl : w1 = (.int i1) := Option.some.inj ei1
  obtain ⟨i2, ei2⟩ := is_v gg7
  obtain rfl : w2 = (.int i2) := Option.some.inj ei2
  obtain ⟨i3, ei3⟩ := is_v gg9
  obtain rfl : w3 = (.int i3) := Option.some.inj ei3
  obtain ⟨i4, ei4⟩ := is_v gg11
  obtain rfl : w4 = (.int i4) := Option.some.inj ei4
  obtain ⟨i5, ei5⟩ := is_v gg12
  obtain rfl : w5 = (.int i5) := Option.some.inj ei5
  have n5 := not_v (Cond.before_iff.mp (hsets _ (List.mem_of_getElem? (i := 2) rfl)))
  obtain ⟨zc, ezc⟩ := is_v (Cond.before_iff.mp (hsets _ (List.mem_of_getElem? (i := 1) rfl)))
  have SC : Sta s s.heap "java/lang/String" "COMPACT_STRINGS" "Z" (.int zc) := Sta.start ezc (Or.inl (hsets _ (List.mem_of_getElem? (i := 0) rfl)))
  have hzc : ¬ (zc = (0 : Int32)) := gotF (Cond.eq_ints ezc (Term.int_eval (0))) n5
  obtain ⟨fm, efm, hrf⟩ := isR_v (Cond.before_iff.mp (hsets _ (List.mem_of_getElem? (i := 8) rfl)))
  have SF : Sta s s.heap "jdk/internal/util/Preconditions" "SIOOBE_FORMATTER" "Ljava/util/function/BiFunction;" fm := Sta.start efm (Or.inl (hsets _ (List.mem_of_getElem? (i := 7) rfl)))
  have hCH0 : CHv s [("java/lang/String", 7)] s.vm s.heap := CHv.start (own_EW hw) (fun p hp => by obtain rfl := List.mem_singleton.mp hp; exact hcalls.1 _ (List.mem_singleton.mpr rfl)) (hsets _ (List.mem_of_getElem? (i := 2) rfl)) (hw _ (List.mem_of_getElem? (i := 22) rfl)) (hw _ (List.mem_of_getElem? (i := 5) rfl))
  obtain ⟨n, o, h1, h2, h3, _, L, rfl, ⟨rfl, N⟩, hq⟩ := rm_law l s _ hw tables_1 i0 i1 i2 i3 i4 i5 zc fm s.heap s.heap.size (Nat.le_refl _) SC SF hzc hrf p e ha hc hk s m _ below hf ((Spec.applies_iff_loose hf).mp happ).1 ⟨rfl, State.Warmed39.refl s, rfl, hCH0⟩ trivial
  refine ⟨n, _, h1, h2, h3, hpost _ _ _ _ _ _ ⟨Cond.after_iff.mpr rfl, Cond.after_iff.mpr (eq_i res_at (Term.int_eval (1)) rfl), trivial⟩ ⟨hq.1, hq.2.1, hq.2.2.1, (hq.2.2.2.sift fun y hy => Or.inr (N y hy)).mono (by decide) (by decide)⟩⟩
theorem main_1_1 : Claimed_1_1 := comes_1 fun _ _ _ _ _ _ h hF => ⟨h.1, hF⟩
theorem main_1_2 : Claimed_1_2 := comes_1 fun _ _ _ _ _ _ h hF => ⟨h.2.1, hF⟩
end Jvm.Pilot.@@N@@
namespace Jvm.Pilot.@@N@@
open Jvm Jvm.ClassFile Sem Op Lib Jvm.Free Jvm.Stand Jvm.Pilot.@@N@@.Jvm.D
/-! MADE BY PROGRAM (witnessworld.py) out of the Statement's table words and the real class files: 22 classes; the members and pool entries that the words name. The judged class is class 1, her method 1. -/
namespace start1
open Jvm.ClassFile
def u (s : String) : CpInfo := .utf8 (stringToUtf16 s)
/-- a pool by its gaps: so many unusable entries, then the entry; so many at the end -/
def gap : Nat → List CpInfo → List CpInfo
  | 0, r => r
  | n + 1, r => .unusable :: gap n r
def poolList (es : List (Nat × CpInfo)) (last : Nat) : List CpInfo := es.foldr (fun e r => gap e.1 (e.2 :: r)) (gap last [])
def pool (es : List (Nat × CpInfo)) (last : Nat) : Array CpInfo := ⟨poolList es last⟩
def fileOf (pool : Array CpInfo) (this : Nat) (attrs : Array Attribute := #[]) (ms : Array MethodInfo := #[]) (fl : Nat := 33) (sup : Nat := 0) (ifs : Array Nat := #[]) (fds : Array FieldInfo := #[]) : ClassFile where
  minorVersion := 0
  majorVersion := 65
  constantPool := pool
  accessFlags := fl
  thisClass := this
  superClass := sup
  interfaces := ifs
  fields := fds
  methods := ms
  attributes := attrs
def plain (name : String) (sup : Option ClassId) : Class where
  name := name
  kind := .ordinary
  loader := none
  accessFlags := 33
  super := sup
  interfaces := #[]
  cf := none
  fields := #[]
  methods := #[]
  instanceTypes := #[]
  staticTypes := #[]
  resolved := #[]
  callSites := []
  init := .initialized
  statics := none
  mirror := none

def pool0 : Array CpInfo := pool [(5, u "<init>"), (0, u "()V"), (1, .class_ 10), (1, u "java/lang/Object")] 113

def k0c0 : Code := { maxStack := 0, maxLocals := 1, code := object_method_1_code, exceptionTable := #[], attributes := #[] }
def k0m0 : Method := { name := "<init>", desc := "()V", sig := { parameters := [], returnType := none }, accessFlags := 1, code := some k0c0 }
/-- java/lang/Object -/
def k0 : Class := { plain "java/lang/Object" none with
  accessFlags := 33
  interfaces := #[]
  cf := some (fileOf pool0 8 #[] #[{ accessFlags := 1, nameIndex := 5, descriptorIndex := 6, attributes := #[] }] 33 0 #[] #[])
  fields := #[]
  methods := #[k0m0]
  instanceTypes := #[]
  staticTypes := #[]
  resolved := Array.replicate 124 none
  statics := none }

def pool1 : Array CpInfo := pool [(2, .class_ 4), (1, u "java/lang/Object"), (0, u "<init>"), (0, u "()V"), (0, .class_ 8), (0, u "com/example/vellum4/vellum4/AsciiSet"), (0, .class_ 10), (0, u "java/lang/String"), (0, .methodref 9 12), (0, .nameAndType 5 13), (0, u "([C)V"), (0, .methodref 7 15), (0, .nameAndType 5 16), (0, u "(Ljava/lang/String;)V"), (0, .methodref 7 18), (0, .nameAndType 19 20), (0, u "contains"), (0, u "(I)Z"), (0, .class_ 22), (0, u "com/example/vellum4/vellum4/AsciiSetContainsPinLaw"), (2, u "law"), (0, u "(IIIIII)Z")] 5

def k1m0 : Method := { name := "<init>", desc := "()V", sig := { parameters := [], returnType := none }, accessFlags := 1, code := none }
def k1c1 : Code := { maxStack := 5, maxLocals := 15, code := code, exceptionTable := #[], attributes := #[] }
def k1m1 : Method := { name := "law", desc := "(IIIIII)Z", sig := { parameters := [.int, .int, .int, .int, .int, .int], returnType := some .boolean }, accessFlags := 9, code := some k1c1 }
/-- com/example/vellum4/vellum4/AsciiSetContainsPinLaw -/
def k1 : Class := { plain "com/example/vellum4/vellum4/AsciiSetContainsPinLaw" (some 0) with
  accessFlags := 49
  interfaces := #[]
  cf := some (fileOf pool1 21 #[] #[{ accessFlags := 1, nameIndex := 5, descriptorIndex := 6, attributes := #[] }, { accessFlags := 9, nameIndex := 25, descriptorIndex := 26, attributes := #[] }] 49 2 #[] #[])
  fields := #[]
  methods := #[k1m0, k1m1]
  instanceTypes := #[]
  staticTypes := #[]
  resolved := Array.replicate 32 none
  statics := none }

def pool2 : Array CpInfo := pool [(1, .methodref 2 3), (0, .class_ 4), (0, .nameAndType 5 6), (0, u "java/lang/Object"), (0, u "<init>"), (0, u "()V"), (0, .fieldref 8 9), (0, .class_ 10), (0, .nameAndType 11 12), (0, u "com/example/vellum4/vellum4/AsciiSet"), (0, u "members"), (0, u "[Z"), (0, .methodref 14 15), (0, .class_ 16), (0, .nameAndType 17 18), (0, u "java/lang/String"), (0, u "length"), (0, u "()I"), (0, .methodref 14 20), (0, .nameAndType 21 22), (0, u "charAt"), (0, u "(I)C"), (17, u "(Ljava/lang/String;)V"), (5, u "contains"), (0, u "(I)Z")] 2

def k2c0 : Code := { maxStack := 3, maxLocals := 3, code := prog_1_method_1_code, exceptionTable := #[], attributes := #[] }
def k2m0 : Method := { name := "<init>", desc := "(Ljava/lang/String;)V", sig := { parameters := [(.object "java/lang/String")], returnType := none }, accessFlags := 0, code := some k2c0 }
def k2c1 : Code := { maxStack := 2, maxLocals := 2, code := prog_1_method_3_code, exceptionTable := #[], attributes := #[] }
def k2m1 : Method := { name := "contains", desc := "(I)Z", sig := { parameters := [.int], returnType := some .boolean }, accessFlags := 0, code := some k2c1 }
/-- com/example/vellum4/vellum4/AsciiSet -/
def k2 : Class := { plain "com/example/vellum4/vellum4/AsciiSet" (some 0) with
  accessFlags := 32
  interfaces := #[]
  cf := some (fileOf pool2 8 #[] #[{ accessFlags := 0, nameIndex := 5, descriptorIndex := 40, attributes := #[] }, { accessFlags := 0, nameIndex := 46, descriptorIndex := 47, attributes := #[] }] 32 2 #[] #[{ accessFlags := 18, nameIndex := 11, descriptorIndex := 12, attributes := #[] }])
  fields := #[{ name := "members", type := (.array .boolean), accessFlags := 18, slot := 0, constantValue := 0 }]
  methods := #[k2m0, k2m1]
  instanceTypes := #[(.array .boolean)]
  staticTypes := #[]
  resolved := Array.replicate 50 none
  statics := none }

def pool3 : Array CpInfo := pool [(1, .class_ 2), (0, u "java/io/Serializable"), (0, .class_ 4), (0, u "java/lang/Object")] 2

/-- java/io/Serializable -/
def k3 : Class := { plain "java/io/Serializable" (some 0) with
  accessFlags := 1537
  interfaces := #[]
  cf := some (fileOf pool3 1 #[] #[] 1537 3 #[] #[])
  fields := #[]
  methods := #[]
  instanceTypes := #[]
  staticTypes := #[]
  resolved := Array.replicate 7 none
  statics := none }

def pool4 : Array CpInfo := pool [(1, .class_ 2), (0, u "java/lang/Comparable"), (0, .class_ 4), (0, u "java/lang/Object")] 7

/-- java/lang/Comparable -/
def k4 : Class := { plain "java/lang/Comparable" (some 0) with
  accessFlags := 1537
  interfaces := #[]
  cf := some (fileOf pool4 1 #[] #[] 1537 3 #[] #[])
  fields := #[]
  methods := #[]
  instanceTypes := #[]
  staticTypes := #[]
  resolved := Array.replicate 12 none
  statics := none }

def pool5 : Array CpInfo := pool [(2, .class_ 4), (1, u "java/lang/CharSequence"), (42, .class_ 48), (0, u "java/lang/CharSequence$1CodePointIterator"), (10, .class_ 60), (0, u "java/lang/CharSequence$1CharIterator"), (5, .class_ 67), (0, u "java/lang/Object")] 63

/-- java/lang/CharSequence -/
def k5 : Class := { plain "java/lang/CharSequence" (some 0) with
  accessFlags := 1537
  interfaces := #[]
  cf := some (fileOf pool5 2 #[.nestMembers #[47, 59]] #[] 1537 66 #[] #[])
  fields := #[]
  methods := #[]
  instanceTypes := #[]
  staticTypes := #[]
  resolved := Array.replicate 131 none
  statics := none }

def pool6 : Array CpInfo := pool [(1, .class_ 2), (0, u "java/lang/constant/Constable"), (0, .class_ 4), (0, u "java/lang/Object")] 6

/-- java/lang/constant/Constable -/
def k6 : Class := { plain "java/lang/constant/Constable" (some 0) with
  accessFlags := 1537
  interfaces := #[]
  cf := some (fileOf pool6 1 #[] #[] 1537 3 #[] #[])
  fields := #[]
  methods := #[]
  instanceTypes := #[]
  staticTypes := #[]
  resolved := Array.replicate 11 none
  statics := none }

def pool7 : Array CpInfo := pool [(1, .class_ 2), (0, u "java/lang/constant/ConstantDesc"), (0, .class_ 4), (0, u "java/lang/Object")] 32

/-- java/lang/constant/ConstantDesc -/
def k7 : Class := { plain "java/lang/constant/ConstantDesc" (some 0) with
  accessFlags := 1537
  interfaces := #[]
  cf := some (fileOf pool7 1 #[] #[] 1537 3 #[] #[])
  fields := #[]
  methods := #[]
  instanceTypes := #[]
  staticTypes := #[]
  resolved := Array.replicate 37 none
  statics := none }

def pool8 : Array CpInfo := pool [(1, .methodref 2 3), (0, .class_ 4), (0, .nameAndType 5 6), (0, u "java/lang/Object"), (0, u "<init>"), (0, u "()V"), (0, .string 8), (0, u ""), (0, .fieldref 10 11), (0, .class_ 12), (0, .nameAndType 13 14), (0, u "java/lang/String"), (0, u "value"), (0, u "[B"), (0, .fieldref 10 16), (0, .nameAndType 17 18), (0, u "coder"), (0, u "B"), (2, u "hash"), (0, u "I"), (2, u "hashIsZero"), (0, u "Z"), (0, .methodref 10 28), (0, .nameAndType 5 29), (0, u "([CIILjava/lang/Void;)V"), (8, .fieldref 10 39), (0, .nameAndType 40 26), (0, u "COMPACT_STRINGS"), (1, .class_ 44), (1, u "java/lang/StringUTF16"), (0, u "compress"), (1, .methodref 42 48), (0, .nameAndType 49 50), (0, u "coderFromArrayLen"), (0, u "([BI)B"), (56, .class_ 109), (1, u "java/lang/StringLatin1"), (32, u "()Z"), (34, .methodref 42 178), (0, .nameAndType 45 179), (0, u "([CII)[B"), (154, u "()I"), (0, .methodref 10 336), (0, .nameAndType 17 337), (0, u "()B"), (25, u "([BI)C"), (27, u "(II)V"), (35, u "(I)C"), (64, .methodref 10 493), (0, .nameAndType 494 142), (0, u "isLatin1"), (0, .methodref 107 496), (0, .nameAndType 497 363), (0, u "charAt"), (3, u "checkIndex"), (5, u "length"), (67, .class_ 576), (0, u "java/lang/CharSequence"), (22, u "CASE_INSENSITIVE_ORDER"), (0, u "Ljava/util/Comparator;"), (409, u "([C)V"), (42, .fieldref 1054 1055), (0, .class_ 1056), (0, .nameAndType 1057 1058), (0, u "jdk/internal/util/Preconditions"), (0, u "SIOOBE_FORMATTER"), (0, u "Ljava/util/function/BiFunction;"), (0, .methodref 1054 1060), (0, .nameAndType 501 1061), (0, u "(IILjava/util/function/BiFunction;)I"), (39, u "serialPersistentFields"), (0, u "[Ljava/io/ObjectStreamField;"), (0, .class_ 1104), (0, u "java/lang/String$CaseInsensitiveComparator"), (1, .class_ 1107), (0, u "java/io/Serializable"), (0, .class_ 1109), (0, u "java/lang/Comparable"), (0, .class_ 1111), (0, u "java/lang/constant/Constable"), (0, .class_ 1113), (0, u "java/lang/constant/ConstantDesc"), (2, u "serialVersionUID"), (0, u "J"), (3, u "REPL"), (0, u "C"), (2, u "LATIN1"), (1, u "UTF16")] 323

def k8m0 : Method := { name := "<init>", desc := "()V", sig := { parameters := [], returnType := none }, accessFlags := 1, code := none }
def k8c1 : Code := { maxStack := 5, maxLocals := 2, code := jdk_42_method_3_code, exceptionTable := #[], attributes := #[] }
def k8m1 : Method := { name := "<init>", desc := "([C)V", sig := { parameters := [(.array .char)], returnType := none }, accessFlags := 1, code := some k8c1 }
def k8c2 : Code := { maxStack := 2, maxLocals := 1, code := jdk_42_method_54_code, exceptionTable := #[], attributes := #[] }
def k8m2 : Method := { name := "length", desc := "()I", sig := { parameters := [], returnType := some .int }, accessFlags := 1, code := some k8c2 }
def k8c3 : Code := { maxStack := 2, maxLocals := 2, code := jdk_42_method_56_code, exceptionTable := #[], attributes := #[] }
def k8m3 : Method := { name := "charAt", desc := "(I)C", sig := { parameters := [.int], returnType := some .char }, accessFlags := 1, code := some k8c3 }
def k8c4 : Code := { maxStack := 4, maxLocals := 6, code := jdk_42_method_149_code, exceptionTable := #[], attributes := #[] }
def k8m4 : Method := { name := "<init>", desc := "([CIILjava/lang/Void;)V", sig := { parameters := [(.array .char), .int, .int, (.object "java/lang/Void")], returnType := none }, accessFlags := 2, code := some k8c4 }
def k8c5 : Code := { maxStack := 1, maxLocals := 1, code := jdk_42_method_152_code, exceptionTable := #[], attributes := #[] }
def k8m5 : Method := { name := "coder", desc := "()B", sig := { parameters := [], returnType := some .byte }, accessFlags := 0, code := some k8c5 }
def k8c6 : Code := { maxStack := 1, maxLocals := 1, code := jdk_42_method_154_code, exceptionTable := #[], attributes := #[] }
def k8m6 : Method := { name := "isLatin1", desc := "()Z", sig := { parameters := [], returnType := some .boolean }, accessFlags := 0, code := some k8c6 }
def k8c7 : Code := { maxStack := 3, maxLocals := 2, code := jdk_42_method_155_code, exceptionTable := #[], attributes := #[] }
def k8m7 : Method := { name := "checkIndex", desc := "(II)V", sig := { parameters := [.int, .int], returnType := none }, accessFlags := 8, code := some k8c7 }
/-- java/lang/String -/
def k8 : Class := { plain "java/lang/String" (some 0) with
  accessFlags := 49
  interfaces := #[3, 4, 5, 6, 7]
  cf := some (fileOf pool8 10 #[.nestMembers #[1103]] #[{ accessFlags := 1, nameIndex := 5, descriptorIndex := 6, attributes := #[] }, { accessFlags := 1, nameIndex := 5, descriptorIndex := 1010, attributes := #[] }, { accessFlags := 1, nameIndex := 507, descriptorIndex := 334, attributes := #[] }, { accessFlags := 1, nameIndex := 497, descriptorIndex := 427, attributes := #[] }, { accessFlags := 2, nameIndex := 5, descriptorIndex := 29, attributes := #[] }, { accessFlags := 0, nameIndex := 17, descriptorIndex := 337, attributes := #[] }, { accessFlags := 0, nameIndex := 494, descriptorIndex := 142, attributes := #[] }, { accessFlags := 8, nameIndex := 501, descriptorIndex := 391, attributes := #[] }] 49 2 #[1106, 1108, 575, 1110, 1112] #[{ accessFlags := 18, nameIndex := 13, descriptorIndex := 14, attributes := #[] }, { accessFlags := 18, nameIndex := 17, descriptorIndex := 18, attributes := #[] }, { accessFlags := 2, nameIndex := 21, descriptorIndex := 22, attributes := #[] }, { accessFlags := 2, nameIndex := 25, descriptorIndex := 26, attributes := #[] }, { accessFlags := 26, nameIndex := 1116, descriptorIndex := 1117, attributes := #[] }, { accessFlags := 24, nameIndex := 40, descriptorIndex := 26, attributes := #[] }, { accessFlags := 26, nameIndex := 1101, descriptorIndex := 1102, attributes := #[] }, { accessFlags := 26, nameIndex := 1121, descriptorIndex := 1122, attributes := #[] }, { accessFlags := 25, nameIndex := 599, descriptorIndex := 600, attributes := #[] }, { accessFlags := 24, nameIndex := 1125, descriptorIndex := 18, attributes := #[] }, { accessFlags := 24, nameIndex := 1127, descriptorIndex := 18, attributes := #[] }])
  fields := #[{ name := "value", type := (.array .byte), accessFlags := 18, slot := 0, constantValue := 0 }, { name := "coder", type := .byte, accessFlags := 18, slot := 1, constantValue := 0 }, { name := "hash", type := .int, accessFlags := 2, slot := 2, constantValue := 0 }, { name := "hashIsZero", type := .boolean, accessFlags := 2, slot := 3, constantValue := 0 }, { name := "serialVersionUID", type := .long, accessFlags := 26, slot := 0, constantValue := 0 }, { name := "COMPACT_STRINGS", type := .boolean, accessFlags := 24, slot := 1, constantValue := 0 }, { name := "serialPersistentFields", type := (.array (.object "java/io/ObjectStreamField")), accessFlags := 26, slot := 2, constantValue := 0 }, { name := "REPL", type := .char, accessFlags := 26, slot := 3, constantValue := 0 }, { name := "CASE_INSENSITIVE_ORDER", type := (.object "java/util/Comparator"), accessFlags := 25, slot := 4, constantValue := 0 }, { name := "LATIN1", type := .byte, accessFlags := 24, slot := 5, constantValue := 0 }, { name := "UTF16", type := .byte, accessFlags := 24, slot := 6, constantValue := 0 }]
  methods := #[k8m0, k8m1, k8m2, k8m3, k8m4, k8m5, k8m6, k8m7]
  instanceTypes := #[(.array .byte), .byte, .int, .boolean]
  staticTypes := #[.long, .boolean, (.array (.object "java/io/ObjectStreamField")), .char, (.object "java/util/Comparator"), .byte, .byte]
  resolved := Array.replicate 1451 none
  statics := some 0 }

def pool9 : Array CpInfo := pool [(6, .class_ 8), (1, u "java/lang/Object"), (0, u "<init>"), (0, u "()V"), (1, .class_ 14), (1, u "java/lang/StringUTF16"), (31, u "$assertionsDisabled"), (0, u "Z"), (13, u "HI_BYTE_SHIFT"), (0, u "I"), (2, u "LO_BYTE_SHIFT"), (49, .methodref 12 116), (0, .nameAndType 117 118), (0, u "compress"), (0, u "([CI[BII)I"), (3, u "([CII)[B"), (138, u "coderFromArrayLen"), (0, u "([BI)B"), (106, .class_ 371), (1, u "java/lang/StringUTF16$LinesSpliterator"), (58, u "MAX_LENGTH"), (196, .class_ 628), (0, u "java/lang/StringUTF16$CodePointsSpliterator"), (0, .class_ 630), (0, u "java/lang/StringUTF16$CharsSpliterator")] 4

def k9m0 : Method := { name := "<init>", desc := "()V", sig := { parameters := [], returnType := none }, accessFlags := 0, code := none }
def k9c1 : Code := { maxStack := 2, maxLocals := 2, code := jdk_52_method_15_code, exceptionTable := #[], attributes := #[] }
def k9m1 : Method := { name := "coderFromArrayLen", desc := "([BI)B", sig := { parameters := [(.array .byte), .int], returnType := some .byte }, accessFlags := 8, code := some k9c1 }
def k9c2 : Code := { maxStack := 5, maxLocals := 6, code := jdk_52_method_16_code, exceptionTable := #[], attributes := #[] }
def k9m2 : Method := { name := "compress", desc := "([CII)[B", sig := { parameters := [(.array .char), .int, .int], returnType := some (.array .byte) }, accessFlags := 9, code := some k9c2 }
def k9c3 : Code := { maxStack := 3, maxLocals := 7, code := jdk_52_method_21_code, exceptionTable := #[], attributes := #[] }
def k9m3 : Method := { name := "compress", desc := "([CI[BII)I", sig := { parameters := [(.array .char), .int, (.array .byte), .int, .int], returnType := some .int }, accessFlags := 9, code := some k9c3 }
/-- java/lang/StringUTF16 -/
def k9 : Class := { plain "java/lang/StringUTF16" (some 0) with
  accessFlags := 48
  interfaces := #[]
  cf := some (fileOf pool9 12 #[.nestMembers #[627, 629, 369]] #[{ accessFlags := 0, nameIndex := 9, descriptorIndex := 10, attributes := #[] }, { accessFlags := 8, nameIndex := 261, descriptorIndex := 262, attributes := #[] }, { accessFlags := 9, nameIndex := 117, descriptorIndex := 122, attributes := #[] }, { accessFlags := 9, nameIndex := 117, descriptorIndex := 118, attributes := #[] }] 48 6 #[] #[{ accessFlags := 26, nameIndex := 61, descriptorIndex := 62, attributes := #[] }, { accessFlags := 26, nameIndex := 65, descriptorIndex := 62, attributes := #[] }, { accessFlags := 24, nameIndex := 430, descriptorIndex := 62, attributes := #[] }, { accessFlags := 4120, nameIndex := 46, descriptorIndex := 47, attributes := #[] }])
  fields := #[{ name := "HI_BYTE_SHIFT", type := .int, accessFlags := 26, slot := 0, constantValue := 0 }, { name := "LO_BYTE_SHIFT", type := .int, accessFlags := 26, slot := 1, constantValue := 0 }, { name := "MAX_LENGTH", type := .int, accessFlags := 24, slot := 2, constantValue := 0 }, { name := "$assertionsDisabled", type := .boolean, accessFlags := 4120, slot := 3, constantValue := 0 }]
  methods := #[k9m0, k9m1, k9m2, k9m3]
  instanceTypes := #[]
  staticTypes := #[.int, .int, .int, .boolean]
  resolved := Array.replicate 635 none
  statics := none }

def pool10 : Array CpInfo := pool [(1, .class_ 2), (0, u "java/lang/String"), (1, .class_ 6), (1, u "java/lang/Object"), (0, u "<init>"), (0, u "()V"), (0, .methodref 1 10), (0, .nameAndType 11 12), (0, u "checkIndex"), (0, u "(II)V"), (1, .class_ 16), (1, u "java/lang/StringLatin1"), (36, u "([BI)C"), (67, u "$assertionsDisabled"), (0, u "Z"), (98, .class_ 223), (1, u "java/lang/StringLatin1$LinesSpliterator"), (28, u "charAt"), (137, .class_ 391), (0, u "java/lang/StringLatin1$CharsSpliterator")] 3

def k10m0 : Method := { name := "<init>", desc := "()V", sig := { parameters := [], returnType := none }, accessFlags := 0, code := none }
def k10c1 : Code := { maxStack := 2, maxLocals := 2, code := jdk_43_method_2_code, exceptionTable := #[], attributes := #[] }
def k10m1 : Method := { name := "charAt", desc := "([BI)C", sig := { parameters := [(.array .byte), .int], returnType := some .char }, accessFlags := 9, code := some k10c1 }
/-- java/lang/StringLatin1 -/
def k10 : Class := { plain "java/lang/StringLatin1" (some 0) with
  accessFlags := 48
  interfaces := #[]
  cf := some (fileOf pool10 14 #[.nestMembers #[390, 221]] #[{ accessFlags := 0, nameIndex := 7, descriptorIndex := 8, attributes := #[] }, { accessFlags := 9, nameIndex := 252, descriptorIndex := 53, attributes := #[] }] 48 4 #[] #[{ accessFlags := 4120, nameIndex := 121, descriptorIndex := 122, attributes := #[] }])
  fields := #[{ name := "$assertionsDisabled", type := .boolean, accessFlags := 4120, slot := 0, constantValue := 0 }]
  methods := #[k10m0, k10m1]
  instanceTypes := #[]
  staticTypes := #[.boolean]
  resolved := Array.replicate 395 none
  statics := none }

def pool11 : Array CpInfo := pool [(2, .class_ 4), (1, u "java/lang/Object"), (0, u "<init>"), (0, u "()V"), (17, .class_ 26), (1, u "jdk/internal/util/Preconditions"), (6, u "checkIndex"), (21, .class_ 56), (0, u "jdk/internal/util/Preconditions$4"), (57, .class_ 115), (0, u "jdk/internal/util/Preconditions$1"), (7, u "SIOOBE_FORMATTER"), (0, u "Ljava/util/function/BiFunction;"), (0, .class_ 126), (0, u "jdk/internal/util/Preconditions$2"), (3, u "AIOOBE_FORMATTER"), (0, .class_ 132), (0, u "jdk/internal/util/Preconditions$3"), (3, u "IOOBE_FORMATTER"), (41, u "(IILjava/util/function/BiFunction;)I")] 15

def k11m0 : Method := { name := "<init>", desc := "()V", sig := { parameters := [], returnType := none }, accessFlags := 1, code := none }
def k11c1 : Code := { maxStack := 3, maxLocals := 3, code := jdk_41_method_11_code, exceptionTable := #[], attributes := #[] }
def k11m1 : Method := { name := "checkIndex", desc := "(IILjava/util/function/BiFunction;)I", sig := { parameters := [.int, .int, (.object "java/util/function/BiFunction")], returnType := some .int }, accessFlags := 9, code := some k11c1 }
/-- jdk/internal/util/Preconditions -/
def k11 : Class := { plain "jdk/internal/util/Preconditions" (some 0) with
  accessFlags := 33
  interfaces := #[]
  cf := some (fileOf pool11 24 #[.nestMembers #[55, 131, 125, 114]] #[{ accessFlags := 1, nameIndex := 5, descriptorIndex := 6, attributes := #[] }, { accessFlags := 9, nameIndex := 33, descriptorIndex := 178, attributes := #[] }] 33 2 #[] #[{ accessFlags := 25, nameIndex := 123, descriptorIndex := 124, attributes := #[] }, { accessFlags := 25, nameIndex := 130, descriptorIndex := 124, attributes := #[] }, { accessFlags := 25, nameIndex := 136, descriptorIndex := 124, attributes := #[] }])
  fields := #[{ name := "SIOOBE_FORMATTER", type := (.object "java/util/function/BiFunction"), accessFlags := 25, slot := 0, constantValue := 0 }, { name := "AIOOBE_FORMATTER", type := (.object "java/util/function/BiFunction"), accessFlags := 25, slot := 1, constantValue := 0 }, { name := "IOOBE_FORMATTER", type := (.object "java/util/function/BiFunction"), accessFlags := 25, slot := 2, constantValue := 0 }]
  methods := #[k11m0, k11m1]
  instanceTypes := #[]
  staticTypes := #[(.object "java/util/function/BiFunction"), (.object "java/util/function/BiFunction"), (.object "java/util/function/BiFunction")]
  resolved := Array.replicate 194 none
  statics := some 1 }

def pool12 : Array CpInfo := pool [(9, u "<init>"), (6, .class_ 18), (1, u "java/lang/Object"), (0, u "()V"), (1, .class_ 23), (1, u "jdk/internal/util/ArraysSupport"), (0, u "LOG2_ARRAY_LONG_INDEX_SCALE"), (0, u "I"), (2, u "U"), (0, u "Ljdk/internal/misc/Unsafe;"), (8, u "BIG_ENDIAN"), (0, u "Z"), (8, u "LOG2_BYTE_BIT_SIZE"), (4, u "LOG2_ARRAY_INT_INDEX_SCALE"), (54, u "JLA"), (0, u "Ljdk/internal/access/JavaLangAccess;"), (11, u "LOG2_ARRAY_BOOLEAN_INDEX_SCALE"), (9, u "LOG2_ARRAY_BYTE_INDEX_SCALE"), (5, u "LOG2_ARRAY_CHAR_INDEX_SCALE"), (5, u "LOG2_ARRAY_SHORT_INDEX_SCALE"), (18, u "LOG2_ARRAY_FLOAT_INDEX_SCALE"), (24, u "LOG2_ARRAY_DOUBLE_INDEX_SCALE"), (89, u "T_BOOLEAN"), (2, u "T_CHAR"), (1, u "T_FLOAT"), (1, u "T_DOUBLE"), (1, u "T_BYTE"), (1, u "T_SHORT"), (1, u "T_INT"), (1, u "T_LONG"), (1, u "SOFT_MAX_ARRAY_LENGTH")] 83

def k12m0 : Method := { name := "<init>", desc := "()V", sig := { parameters := [], returnType := none }, accessFlags := 2, code := none }
/-- jdk/internal/util/ArraysSupport -/
def k12 : Class := { plain "jdk/internal/util/ArraysSupport" (some 0) with
  accessFlags := 33
  interfaces := #[]
  cf := some (fileOf pool12 21 #[] #[{ accessFlags := 2, nameIndex := 9, descriptorIndex := 19, attributes := #[] }] 33 16 #[] #[{ accessFlags := 24, nameIndex := 28, descriptorIndex := 29, attributes := #[] }, { accessFlags := 26, nameIndex := 38, descriptorIndex := 39, attributes := #[] }, { accessFlags := 25, nameIndex := 121, descriptorIndex := 25, attributes := #[] }, { accessFlags := 25, nameIndex := 131, descriptorIndex := 25, attributes := #[] }, { accessFlags := 25, nameIndex := 137, descriptorIndex := 25, attributes := #[] }, { accessFlags := 25, nameIndex := 143, descriptorIndex := 25, attributes := #[] }, { accessFlags := 25, nameIndex := 53, descriptorIndex := 25, attributes := #[] }, { accessFlags := 25, nameIndex := 24, descriptorIndex := 25, attributes := #[] }, { accessFlags := 25, nameIndex := 162, descriptorIndex := 25, attributes := #[] }, { accessFlags := 25, nameIndex := 187, descriptorIndex := 25, attributes := #[] }, { accessFlags := 26, nameIndex := 48, descriptorIndex := 25, attributes := #[] }, { accessFlags := 25, nameIndex := 277, descriptorIndex := 25, attributes := #[] }, { accessFlags := 25, nameIndex := 280, descriptorIndex := 25, attributes := #[] }, { accessFlags := 25, nameIndex := 282, descriptorIndex := 25, attributes := #[] }, { accessFlags := 25, nameIndex := 284, descriptorIndex := 25, attributes := #[] }, { accessFlags := 25, nameIndex := 286, descriptorIndex := 25, attributes := #[] }, { accessFlags := 25, nameIndex := 288, descriptorIndex := 25, attributes := #[] }, { accessFlags := 25, nameIndex := 290, descriptorIndex := 25, attributes := #[] }, { accessFlags := 25, nameIndex := 292, descriptorIndex := 25, attributes := #[] }, { accessFlags := 26, nameIndex := 108, descriptorIndex := 109, attributes := #[] }, { accessFlags := 25, nameIndex := 294, descriptorIndex := 25, attributes := #[] }])
  fields := #[{ name := "U", type := (.object "jdk/internal/misc/Unsafe"), accessFlags := 24, slot := 0, constantValue := 0 }, { name := "BIG_ENDIAN", type := .boolean, accessFlags := 26, slot := 1, constantValue := 0 }, { name := "LOG2_ARRAY_BOOLEAN_INDEX_SCALE", type := .int, accessFlags := 25, slot := 2, constantValue := 0 }, { name := "LOG2_ARRAY_BYTE_INDEX_SCALE", type := .int, accessFlags := 25, slot := 3, constantValue := 0 }, { name := "LOG2_ARRAY_CHAR_INDEX_SCALE", type := .int, accessFlags := 25, slot := 4, constantValue := 0 }, { name := "LOG2_ARRAY_SHORT_INDEX_SCALE", type := .int, accessFlags := 25, slot := 5, constantValue := 0 }, { name := "LOG2_ARRAY_INT_INDEX_SCALE", type := .int, accessFlags := 25, slot := 6, constantValue := 0 }, { name := "LOG2_ARRAY_LONG_INDEX_SCALE", type := .int, accessFlags := 25, slot := 7, constantValue := 0 }, { name := "LOG2_ARRAY_FLOAT_INDEX_SCALE", type := .int, accessFlags := 25, slot := 8, constantValue := 0 }, { name := "LOG2_ARRAY_DOUBLE_INDEX_SCALE", type := .int, accessFlags := 25, slot := 9, constantValue := 0 }, { name := "LOG2_BYTE_BIT_SIZE", type := .int, accessFlags := 26, slot := 10, constantValue := 0 }, { name := "T_BOOLEAN", type := .int, accessFlags := 25, slot := 11, constantValue := 0 }, { name := "T_CHAR", type := .int, accessFlags := 25, slot := 12, constantValue := 0 }, { name := "T_FLOAT", type := .int, accessFlags := 25, slot := 13, constantValue := 0 }, { name := "T_DOUBLE", type := .int, accessFlags := 25, slot := 14, constantValue := 0 }, { name := "T_BYTE", type := .int, accessFlags := 25, slot := 15, constantValue := 0 }, { name := "T_SHORT", type := .int, accessFlags := 25, slot := 16, constantValue := 0 }, { name := "T_INT", type := .int, accessFlags := 25, slot := 17, constantValue := 0 }, { name := "T_LONG", type := .int, accessFlags := 25, slot := 18, constantValue := 0 }, { name := "JLA", type := (.object "jdk/internal/access/JavaLangAccess"), accessFlags := 26, slot := 19, constantValue := 0 }, { name := "SOFT_MAX_ARRAY_LENGTH", type := .int, accessFlags := 25, slot := 20, constantValue := 0 }]
  methods := #[k12m0]
  instanceTypes := #[]
  staticTypes := #[(.object "jdk/internal/misc/Unsafe"), .boolean, .int, .int, .int, .int, .int, .int, .int, .int, .int, .int, .int, .int, .int, .int, .int, .int, .int, (.object "jdk/internal/access/JavaLangAccess"), .int]
  resolved := Array.replicate 378 none
  statics := none }

def pool13 : Array CpInfo := pool [(1, u "java/lang/Cloneable"), (0, .class_ 1), (0, u "java/lang/Object"), (0, .class_ 3)] 3

/-- java/lang/Cloneable -/
def k13 : Class := { plain "java/lang/Cloneable" (some 0) with
  accessFlags := 1537
  interfaces := #[]
  cf := some (fileOf pool13 2 #[] #[] 1537 4 #[] #[])
  fields := #[]
  methods := #[]
  instanceTypes := #[]
  staticTypes := #[]
  resolved := Array.replicate 8 none
  statics := none }

/-- the primitive boolean -/
def k14 : Class := { plain "boolean" none with kind := .primitive 'Z', accessFlags := 0x411 }
/-- [Z -/
def k15 : Class := { plain "[Z" (some 0) with kind := .array 14 .boolean, interfaces := #[13, 3], accessFlags := 1041 }

/-- the primitive byte -/
def k16 : Class := { plain "byte" none with kind := .primitive 'B', accessFlags := 0x411 }
/-- [B -/
def k17 : Class := { plain "[B" (some 0) with kind := .array 16 .byte, interfaces := #[13, 3], accessFlags := 1041 }

/-- the primitive char -/
def k18 : Class := { plain "char" none with kind := .primitive 'C', accessFlags := 0x411 }
/-- [C -/
def k19 : Class := { plain "[C" (some 0) with kind := .array 18 .char, interfaces := #[13, 3], accessFlags := 1041 }

/-- the primitive int -/
def k20 : Class := { plain "int" none with kind := .primitive 'I', accessFlags := 0x411 }
/-- [I -/
def k21 : Class := { plain "[I" (some 0) with kind := .array 20 .int, interfaces := #[13, 3], accessFlags := 1041 }

def heap : Heap := #[{ cls := 8, slots := #[.long 0, .int 1, .null, .int 0, .null, .int 0, .int 0], vm := .statics 8 },
  { cls := 11, slots := #[.null, .null, .null], vm := .statics 11 }]
def classes : Array Class := #[k0, k1, k2, k3, k4, k5, k6, k7, k8, k9, k10, k11, k12, k13, k14, k15, k16, k17, k18, k19, k20, k21]
def interned : List (Array UInt16 × Addr) := []
def slotsUsed : Nat := 10
def theMethod : MethodId := ⟨1, 1⟩
def args0 : Array Value := #[.int 5, .int 5, .int 5, .int 5, .int 5, .int 5]
def aboutOver (below : List Frame) : State where
  vm := { classes := classes, interned := interned.toArray }
  heap := heap
  slotsUsed := slotsUsed
  threads := #[{ frames := .invoking theMethod args0 :: below }]
def below0 : List Frame := [.native { method := ⟨0, 0⟩, args := #[] }]
def about1 : State := aboutOver below0
def p0 : Program := .bare "" "" ""
def e0 : Env := launch0.env 0 0 0
theorem w_frames : about1.frames = Frame.invoking theMethod args0 :: below0 := rfl
set_option maxRecDepth 65536 in
theorem w_args : argsFit about1.vm theMethod args0 = true := by decide +kernel
set_option maxRecDepth 65536 in
theorem w_heap : heapFits about1 = true := by decide +kernel
set_option maxRecDepth 65536 in
theorem w_runnable : about1.curStatus? = some .runnable := by decide +kernel
set_option maxRecDepth 65536 in
theorem w_alone : about1.alone = true := by decide +kernel
set_option maxRecDepth 65536 in
theorem w_named : about1.methodNamed? x = some theMethod := by decide +kernel
set_option maxRecDepth 65536 in
theorem w_hears : about1.hears theMethod below0 = true := by decide +kernel
set_option maxRecDepth 65536 in
theorem w_ripe : about1.ripe theMethod args0 below0 = true := by decide +kernel
theorem w_running : about1.status = .running := rfl
set_option maxRecDepth 65536 in
theorem w_room : about1.hasRoom e0.platform room_1 = true :=
  launch0.hasRoom_least _ room_1 (by decide +kernel) (by decide +kernel) (by decide +kernel) (by decide +kernel) (by decide +kernel) (by decide +kernel)
theorem allAtoms_all (ts : List Jvm.Cond) (a : Array Jvm.Value) (st : Jvm.State) : (allAtoms ts).before a st = ts.all (fun c => c.before a st) := by
  induction ts with
  | nil => rfl
  | cons c t ih =>
    show (Jvm.Cond.and c (allAtoms t)).before a st = _
    rw [Jvm.Cond.before_and, ih, List.all_cons]
def words1 : List Jvm.Cond := Jvm.Cond.code x code maxLocals ret :: tables_1
/-- a 'code' word, met by the world's own term for the bytes: nothing is compared byte by byte -/
theorem code_word {y : MethodName} {bytes : ByteArray} {mx : Nat} {rt : Option FieldType} {a : Array Value} {s : State} {m : MethodId} {meth : Method} {c : Code} (h1 : s.methodNamed? y = some m) (h2 : s.vm.method? m = some meth) (h3 : meth.code = some c) (h4 : c.code = bytes)
    (h5 : (c.maxLocals == mx && c.exceptionTable.isEmpty && decide (c.maxStack ≤ mostOperands) && decide (meth.sig.returnType = rt) && !meth.locks && decide (parseMethodDescriptor y.desc = some meth.sig)) = true) : (Jvm.Cond.code y bytes mx rt).before a s = true := by
  simp only [Bool.and_eq_true, beq_iff_eq, Bool.not_eq_true', decide_eq_true_eq] at h5
  obtain ⟨⟨⟨⟨⟨g1, g2⟩, g3⟩, g4⟩, g5⟩, g6⟩ := h5
  simp [Cond.before, Cond.holds, Cond.value, h1, h2, h3, h4, g1, g2, g3, g4, g5, g6]
def isCode : Jvm.Cond → Bool
  | .code _ _ _ _ => true
  | _ => false
theorem all_split {L : List Jvm.Cond} {P : Jvm.Cond → Bool} (h1 : L.all (fun c => isCode c || P c) = true) (h2 : ∀ c ∈ L.filter isCode, P c = true) : L.all P = true := by
  refine List.all_eq_true.mpr fun c hc => ?_
  have h := List.all_eq_true.mp h1 c hc
  rcases Bool.eq_false_or_eq_true (isCode c) with hi | hi
  · exact h2 c (List.mem_filter.mpr ⟨hc, hi⟩)
  · simpa [hi] using h
set_option maxRecDepth 65536 in
theorem w_c0 : (Jvm.Cond.code x code maxLocals ret).before args0 about1 = true := code_word (m := ⟨1, 1⟩) (meth := k1m1) (c := k1c1) (by decide +kernel) rfl rfl rfl (by decide +kernel)
set_option maxRecDepth 65536 in
theorem w_c1 : (Jvm.Cond.code ({ cls := "java/lang/String", name := "<init>", desc := "([C)V" } : Jvm.MethodName) jdk_42_method_3_code (2 : Nat) (Option.none : Option Jvm.ClassFile.FieldType)).before args0 about1 = true := code_word (m := ⟨8, 1⟩) (meth := k8m1) (c := k8c1) (by decide +kernel) rfl rfl rfl (by decide +kernel)
set_option maxRecDepth 65536 in
theorem w_c2 : (Jvm.Cond.code ({ cls := "java/lang/String", name := "<init>", desc := "([CIILjava/lang/Void;)V" } : Jvm.MethodName) jdk_42_method_149_code (6 : Nat) (Option.none : Option Jvm.ClassFile.FieldType)).before args0 about1 = true := code_word (m := ⟨8, 4⟩) (meth := k8m4) (c := k8c4) (by decide +kernel) rfl rfl rfl (by decide +kernel)
set_option maxRecDepth 65536 in
theorem w_c3 : (Jvm.Cond.code ({ cls := "java/lang/Object", name := "<init>", desc := "()V" } : Jvm.MethodName) object_method_1_code (1 : Nat) (Option.none : Option Jvm.ClassFile.FieldType)).before args0 about1 = true := code_word (m := ⟨0, 0⟩) (meth := k0m0) (c := k0c0) (by decide +kernel) rfl rfl rfl (by decide +kernel)
set_option maxRecDepth 65536 in
theorem w_c4 : (Jvm.Cond.code ({ cls := "java/lang/StringUTF16", name := "compress", desc := "([CII)[B" } : Jvm.MethodName) jdk_52_method_16_code (6 : Nat) (Option.some (Jvm.ClassFile.FieldType.array Jvm.ClassFile.FieldType.byte))).before args0 about1 = true := code_word (m := ⟨9, 2⟩) (meth := k9m2) (c := k9c2) (by decide +kernel) rfl rfl rfl (by decide +kernel)
set_option maxRecDepth 65536 in
theorem w_c5 : (Jvm.Cond.code ({ cls := "java/lang/StringUTF16", name := "compress", desc := "([CI[BII)I" } : Jvm.MethodName) jdk_52_method_21_code (7 : Nat) (Option.some Jvm.ClassFile.FieldType.int)).before args0 about1 = true := code_word (m := ⟨9, 3⟩) (meth := k9m3) (c := k9c3) (by decide +kernel) rfl rfl rfl (by decide +kernel)
set_option maxRecDepth 65536 in
theorem w_c6 : (Jvm.Cond.code ({ cls := "java/lang/StringUTF16", name := "coderFromArrayLen", desc := "([BI)B" } : Jvm.MethodName) jdk_52_method_15_code (2 : Nat) (Option.some Jvm.ClassFile.FieldType.byte)).before args0 about1 = true := code_word (m := ⟨9, 1⟩) (meth := k9m1) (c := k9c1) (by decide +kernel) rfl rfl rfl (by decide +kernel)
set_option maxRecDepth 65536 in
theorem w_c7 : (Jvm.Cond.code ({ cls := "com/example/vellum4/vellum4/AsciiSet", name := "<init>", desc := "(Ljava/lang/String;)V" } : Jvm.MethodName) prog_1_method_1_code (3 : Nat) (Option.none : Option Jvm.ClassFile.FieldType)).before args0 about1 = true := code_word (m := ⟨2, 0⟩) (meth := k2m0) (c := k2c0) (by decide +kernel) rfl rfl rfl (by decide +kernel)
set_option maxRecDepth 65536 in
theorem w_c8 : (Jvm.Cond.code ({ cls := "java/lang/String", name := "length", desc := "()I" } : Jvm.MethodName) jdk_42_method_54_code (1 : Nat) (Option.some Jvm.ClassFile.FieldType.int)).before args0 about1 = true := code_word (m := ⟨8, 2⟩) (meth := k8m2) (c := k8c2) (by decide +kernel) rfl rfl rfl (by decide +kernel)
set_option maxRecDepth 65536 in
theorem w_c9 : (Jvm.Cond.code ({ cls := "java/lang/String", name := "coder", desc := "()B" } : Jvm.MethodName) jdk_42_method_152_code (1 : Nat) (Option.some Jvm.ClassFile.FieldType.byte)).before args0 about1 = true := code_word (m := ⟨8, 5⟩) (meth := k8m5) (c := k8c5) (by decide +kernel) rfl rfl rfl (by decide +kernel)
set_option maxRecDepth 65536 in
theorem w_c10 : (Jvm.Cond.code ({ cls := "java/lang/String", name := "charAt", desc := "(I)C" } : Jvm.MethodName) jdk_42_method_56_code (2 : Nat) (Option.some Jvm.ClassFile.FieldType.char)).before args0 about1 = true := code_word (m := ⟨8, 3⟩) (meth := k8m3) (c := k8c3) (by decide +kernel) rfl rfl rfl (by decide +kernel)
set_option maxRecDepth 65536 in
theorem w_c11 : (Jvm.Cond.code ({ cls := "java/lang/String", name := "isLatin1", desc := "()Z" } : Jvm.MethodName) jdk_42_method_154_code (1 : Nat) (Option.some Jvm.ClassFile.FieldType.boolean)).before args0 about1 = true := code_word (m := ⟨8, 6⟩) (meth := k8m6) (c := k8c6) (by decide +kernel) rfl rfl rfl (by decide +kernel)
set_option maxRecDepth 65536 in
theorem w_c12 : (Jvm.Cond.code ({ cls := "java/lang/StringLatin1", name := "charAt", desc := "([BI)C" } : Jvm.MethodName) jdk_43_method_2_code (2 : Nat) (Option.some Jvm.ClassFile.FieldType.char)).before args0 about1 = true := code_word (m := ⟨10, 1⟩) (meth := k10m1) (c := k10c1) (by decide +kernel) rfl rfl rfl (by decide +kernel)
set_option maxRecDepth 65536 in
theorem w_c13 : (Jvm.Cond.code ({ cls := "java/lang/String", name := "checkIndex", desc := "(II)V" } : Jvm.MethodName) jdk_42_method_155_code (2 : Nat) (Option.none : Option Jvm.ClassFile.FieldType)).before args0 about1 = true := code_word (m := ⟨8, 7⟩) (meth := k8m7) (c := k8c7) (by decide +kernel) rfl rfl rfl (by decide +kernel)
set_option maxRecDepth 65536 in
theorem w_c14 : (Jvm.Cond.code ({ cls := "jdk/internal/util/Preconditions", name := "checkIndex", desc := "(IILjava/util/function/BiFunction;)I" } : Jvm.MethodName) jdk_41_method_11_code (3 : Nat) (Option.some Jvm.ClassFile.FieldType.int)).before args0 about1 = true := code_word (m := ⟨11, 1⟩) (meth := k11m1) (c := k11c1) (by decide +kernel) rfl rfl rfl (by decide +kernel)
set_option maxRecDepth 65536 in
theorem w_c15 : (Jvm.Cond.code ({ cls := "com/example/vellum4/vellum4/AsciiSet", name := "contains", desc := "(I)Z" } : Jvm.MethodName) prog_1_method_3_code (2 : Nat) (Option.some Jvm.ClassFile.FieldType.boolean)).before args0 about1 = true := code_word (m := ⟨2, 1⟩) (meth := k2m1) (c := k2c1) (by decide +kernel) rfl rfl rfl (by decide +kernel)
def codes1 : List Jvm.Cond := [Jvm.Cond.code x code maxLocals ret, Jvm.Cond.code ({ cls := "java/lang/String", name := "<init>", desc := "([C)V" } : Jvm.MethodName) jdk_42_method_3_code (2 : Nat) (Option.none : Option Jvm.ClassFile.FieldType), Jvm.Cond.code ({ cls := "java/lang/String", name := "<init>", desc := "([CIILjava/lang/Void;)V" } : Jvm.MethodName) jdk_42_method_149_code (6 : Nat) (Option.none : Option Jvm.ClassFile.FieldType), Jvm.Cond.code ({ cls := "java/lang/Object", name := "<init>", desc := "()V" } : Jvm.MethodName) object_method_1_code (1 : Nat) (Option.none : Option Jvm.ClassFile.FieldType), Jvm.Cond.code ({ cls := "java/lang/StringUTF16", name := "compress", desc := "([CII)[B" } : Jvm.MethodName) jdk_52_method_16_code (6 : Nat) (Option.some (Jvm.ClassFile.FieldType.array Jvm.ClassFile.FieldType.byte)), Jvm.Cond.code ({ cls := "java/lang/StringUTF16", name := "compress", desc := "([CI[BII)I" } : Jvm.MethodName) jdk_52_method_21_code (7 : Nat) (Option.some Jvm.ClassFile.FieldType.int), Jvm.Cond.code ({ cls := "java/lang/StringUTF16", name := "coderFromArrayLen", desc := "([BI)B" } : Jvm.MethodName) jdk_52_method_15_code (2 : Nat) (Option.some Jvm.ClassFile.FieldType.byte), Jvm.Cond.code ({ cls := "com/example/vellum4/vellum4/AsciiSet", name := "<init>", desc := "(Ljava/lang/String;)V" } : Jvm.MethodName) prog_1_method_1_code (3 : Nat) (Option.none : Option Jvm.ClassFile.FieldType), Jvm.Cond.code ({ cls := "java/lang/String", name := "length", desc := "()I" } : Jvm.MethodName) jdk_42_method_54_code (1 : Nat) (Option.some Jvm.ClassFile.FieldType.int), Jvm.Cond.code ({ cls := "java/lang/String", name := "coder", desc := "()B" } : Jvm.MethodName) jdk_42_method_152_code (1 : Nat) (Option.some Jvm.ClassFile.FieldType.byte), Jvm.Cond.code ({ cls := "java/lang/String", name := "charAt", desc := "(I)C" } : Jvm.MethodName) jdk_42_method_56_code (2 : Nat) (Option.some Jvm.ClassFile.FieldType.char), Jvm.Cond.code ({ cls := "java/lang/String", name := "isLatin1", desc := "()Z" } : Jvm.MethodName) jdk_42_method_154_code (1 : Nat) (Option.some Jvm.ClassFile.FieldType.boolean), Jvm.Cond.code ({ cls := "java/lang/StringLatin1", name := "charAt", desc := "([BI)C" } : Jvm.MethodName) jdk_43_method_2_code (2 : Nat) (Option.some Jvm.ClassFile.FieldType.char), Jvm.Cond.code ({ cls := "java/lang/String", name := "checkIndex", desc := "(II)V" } : Jvm.MethodName) jdk_42_method_155_code (2 : Nat) (Option.none : Option Jvm.ClassFile.FieldType), Jvm.Cond.code ({ cls := "jdk/internal/util/Preconditions", name := "checkIndex", desc := "(IILjava/util/function/BiFunction;)I" } : Jvm.MethodName) jdk_41_method_11_code (3 : Nat) (Option.some Jvm.ClassFile.FieldType.int), Jvm.Cond.code ({ cls := "com/example/vellum4/vellum4/AsciiSet", name := "contains", desc := "(I)Z" } : Jvm.MethodName) prog_1_method_3_code (2 : Nat) (Option.some Jvm.ClassFile.FieldType.boolean)]
set_option maxRecDepth 65536 in
theorem codes_eq : words1.filter isCode = codes1 := rfl
theorem w_codes : ∀ c ∈ words1.filter isCode, c.before args0 about1 = true := by
  rw [codes_eq]
  intro c hc
  simp only [codes1, List.mem_cons, List.not_mem_nil, or_false] at hc
  rcases hc with rfl | rfl | rfl | rfl | rfl | rfl | rfl | rfl | rfl | rfl | rfl | rfl | rfl | rfl | rfl | rfl
  · exact w_c0
  · exact w_c1
  · exact w_c2
  · exact w_c3
  · exact w_c4
  · exact w_c5
  · exact w_c6
  · exact w_c7
  · exact w_c8
  · exact w_c9
  · exact w_c10
  · exact w_c11
  · exact w_c12
  · exact w_c13
  · exact w_c14
  · exact w_c15
set_option maxRecDepth 65536 in
theorem w_t1 : (words1.take 24).all (fun c => isCode c || c.before args0 about1) = true := by decide +kernel
set_option maxRecDepth 65536 in
theorem w_t2 : ((words1.drop 24).take 24).all (fun c => isCode c || c.before args0 about1) = true := by decide +kernel
set_option maxRecDepth 65536 in
theorem w_t3 : (((words1.drop 24).drop 24).take 24).all (fun c => isCode c || c.before args0 about1) = true := by decide +kernel
set_option maxRecDepth 65536 in
theorem w_t4 : (((words1.drop 24).drop 24).drop 24).all (fun c => isCode c || c.before args0 about1) = true := by decide +kernel
theorem w_tables : (allAtoms (Jvm.Cond.code x code maxLocals ret :: tables_1)).before args0 about1 = true := by
  rw [allAtoms_all]
  show words1.all (fun c => c.before args0 about1) = true
  refine all_split ?_ w_codes
  rw [← List.take_append_drop 24 words1, List.all_append, w_t1, ← List.take_append_drop 24 (words1.drop 24), List.all_append, w_t2, ← List.take_append_drop 24 ((words1.drop 24).drop 24), List.all_append, w_t3, w_t4]
  rfl
set_option maxRecDepth 65536 in
theorem w_rest : rest_1_c.before args0 about1 = true := by decide +kernel
set_option maxRecDepth 65536 in
theorem w_case : (Jvm.Cond.and given_1 narrow_1).before args0 about1 = true := by decide +kernel
set_option maxRecDepth 65536 in
theorem w_consts : constsHeld consts_1 about1 := Jvm.Lit.constsHeldB_iff.mp (by decide +kernel)
theorem w_applies : (headSpec (Jvm.Cond.code x code maxLocals ret :: tables_1) room_1).applies x e0.platform about1 = true :=
  (Spec.applies_iff w_frames).mpr ⟨w_running, w_runnable, w_alone, w_named, w_hears, w_ripe, w_room, w_tables⟩
theorem atStart : AtStart classFile x code maxLocals ret World_1 tables_1 room_1 Calls_1 rest_1 Pre_1 launch0 p0 e0 about1 theMethod args0 below0 :=
  ⟨lists_1, trivial, launch0.admits_env _ _ _, launch0.least_env, fairChoices_fair.cas, fairChoices_fair.clock, w_frames, w_args, w_heap, w_applies, ⟨w_consts, trivial⟩, w_rest, w_case⟩
end start1
theorem witness_1 : WitnessClaimed_1 := ⟨start1.p0, start1.e0, start1.about1, start1.theMethod, start1.args0, start1.below0, start1.atStart⟩
end Jvm.Pilot.@@N@@
