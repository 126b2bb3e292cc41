import JvmDerived
import JvmDerived.Pilot.@@N@@Statement
import JvmDerived.Pilot.@@N@@Code
set_option linter.unusedVariables false
set_option linter.unusedSimpArgs false
@@BLOCK:NumsL.lean.txt@@
namespace Jvm.Pilot.@@N@@
open Jvm Jvm.ClassFile Sem Op Lib Jvm.Free Jvm.Stand Jvm.LawKit Jvm.RoadKit Bundle Jvm.Pilot.@@N@@.Jvm.D
/-! own layer: the walk in continuation form -/
section OwnWalk
variable {p : Program} {l : Launch} {e : Env} {R : Room} {s : State} {m : MethodId} {args : Array Value} {below : List Frame} {meth : Method} {c : Code} {T T' : State} {locs : List Loc} {cells slots : Nat} {Q : Option Value → Heap → List Loc → Prop} {ck sk : Nat} {f f' : JFrame} {Z : State} {a0 : Array Value} {h h' : Heap}
/-- from this state and frame the invocation returns, and what it leaves is told by Q -/
def ownEnds (p : Program) (e : Env) (below : List Frame) (s : State) (Q : Option Value → Heap → List Loc → Prop) (ck sk : Nat) (T : State) (f : JFrame) : Prop :=
  ∃ s₂ o, Steps p.tables e below (T.setTop f) s₂ ∧ s₂.status = .running ∧ Ended s₂ below o ∧ ∃ v L, o = .returned v ∧ Q v s₂.heap L ∧ FrameEnd s o s₂ L ck sk
theorem ownGo (st : ∀ target, Steps p.tables e below (T'.setTop f') target → Steps p.tables e below (T.setTop f) target) (k : ownEnds p e below s Q ck sk T' f') : ownEnds p e below s Q ck sk T f := by
  obtain ⟨a, b, h1, h2⟩ := k
  exact ⟨a, b, st _ h1, h2⟩
theorem ownRun (st : Steps p.tables e below (T.setTop f) (T'.setTop f')) (k : ownEnds p e below s Q ck sk T' f') : ownEnds p e below s Q ck sk T f :=
  ownGo (fun _ q => st.trans q) k
theorem ownCast (q : f = f') (k : ownEnds p e below s Q ck sk T f') : ownEnds p e below s Q ck sk T f := q ▸ k
theorem ownRetI (X : Stand p l e R s m args below meth c T locs cells slots) (hx : p.tables.exec = Jvm.exec) {pc : Nat} {Ls : Array Slot} {z : Int32} {rest : List Value} (hret : meth.sig.returnType = some .int) (hd : decode c.code pc = .ok (.ireturn, 1)) (hk : meth.locks = false) (hc : cells ≤ ck) (hs : slots ≤ sk)
    (hQ : Q (some (.int z)) T.heap locs) : ownEnds p e below s Q ck sk T (mkF m pc Ls (.int z :: rest)) := by
  obtain ⟨fs, hr, hrun, hended, hW, hsame⟩ := X.leave (v := some (.int z)) (fun h => by rw [hret] at h; cases h) hk
  exact ⟨_, _, retOut X hx hret rfl (Or.inl ⟨rfl, Or.inl rfl, _, rfl⟩) hd hr, hrun, hended, _, _, rfl, hQ, ⟨_, rfl⟩, hW, hsame.mono hc hs⟩
theorem ownRetN (X : Stand p l e R s m args below meth c T locs cells slots) (hx : p.tables.exec = Jvm.exec) {pc : Nat} {Ls : Array Slot} {z r : Int32} {rest : List Value} {t : FieldType} (ht : t = .boolean ∨ t = .byte ∨ t = .char ∨ t = .short) (hret : meth.sig.returnType = some t) (hd : decode c.code pc = .ok (.ireturn, 1)) (hk : meth.locks = false) (hc : cells ≤ ck) (hs : slots ≤ sk)
    (hz : nar t z = r) (hQ : Q (some (.int r)) T.heap locs) : ownEnds p e below s Q ck sk T (mkF m pc Ls (.int z :: rest)) := by
  subst hz
  obtain ⟨fs, hr, hrun, hended, hW, hsame⟩ := X.leave (v := some (.int (nar t z))) (fun h => by rw [hret] at h; cases h) hk
  exact ⟨_, _, retN X hx hret ht hd hr, hrun, hended, _, _, rfl, hQ, ⟨_, rfl⟩, hW, hsame.mono hc hs⟩
theorem ownRetJ (X : Stand p l e R s m args below meth c T locs cells slots) (hx : p.tables.exec = Jvm.exec) {pc : Nat} {Ls : Array Slot} {z : Int64} {rest : List Value} (hret : meth.sig.returnType = some .long) (hd : decode c.code pc = .ok (.lreturn, 1)) (hk : meth.locks = false) (hc : cells ≤ ck) (hs : slots ≤ sk)
    (hQ : Q (some (.long z)) T.heap locs) : ownEnds p e below s Q ck sk T (mkF m pc Ls (.long z :: rest)) := by
  obtain ⟨fs, hr, hrun, hended, hW, hsame⟩ := X.leave (v := some (.long z)) (fun h => by rw [hret] at h; cases h) hk
  exact ⟨_, _, retOut X hx hret rfl (Or.inr (Or.inl ⟨rfl, rfl, _, rfl⟩)) hd hr, hrun, hended, _, _, rfl, hQ, ⟨_, rfl⟩, hW, hsame.mono hc hs⟩
theorem ownRetR (X : Stand p l e R s m args below meth c T locs cells slots) (hx : p.tables.exec = Jvm.exec) {pc : Nat} {Ls : Array Slot} {w : Value} {rest : List Value} {t : FieldType} (ht : t.isReference = true) (hn : narrow t w = w) (hw : w.isRef = true) (hret : meth.sig.returnType = some t) (hd : decode c.code pc = .ok (.areturn, 1)) (hk : meth.locks = false) (hc : cells ≤ ck) (hs : slots ≤ sk)
    (hQ : Q (some w) T.heap locs) : ownEnds p e below s Q ck sk T (mkF m pc Ls (w :: rest)) := by
  obtain ⟨fs, hr, hrun, hended, hW, hsame⟩ := X.leave (v := some w) (fun h => by rw [hret] at h; cases h) hk
  exact ⟨_, _, retOut X hx hret hn (Or.inr (Or.inr (Or.inr (Or.inr ⟨rfl, ht, hw⟩)))) hd hr, hrun, hended, _, _, rfl, hQ, ⟨_, rfl⟩, hW, hsame.mono hc hs⟩
theorem ownRetV (X : Stand p l e R s m args below meth c T locs cells slots) (hx : p.tables.exec = Jvm.exec) {pc : Nat} {Ls : Array Slot} (hret : meth.sig.returnType = none) (hd : decode c.code pc = .ok (.return_, 1)) (hk : meth.locks = false) (hc : cells ≤ ck) (hs : slots ≤ sk)
    (hQ : Q none T.heap locs) : ownEnds p e below s Q ck sk T (mkF m pc Ls []) := by
  obtain ⟨fs, hr, hrun, hended, hW, hsame⟩ := X.leave (v := none) (fun _ => rfl) hk
  exact ⟨_, _, X.returnOut hx hret hd hr, hrun, hended, _, _, rfl, hQ, ⟨_, rfl⟩, hW, hsame.mono hc hs⟩
/-- one place of a function turned -/
def ownUpd {α : Type} (f : Nat → α) (j : Nat) (x : α) : Nat → α := fun i => if i = j then x else f i
theorem ownUpd_same {α : Type} (f : Nat → α) (j : Nat) (x : α) : ownUpd f j x j = x := if_pos rfl
theorem ownUpd_ne {α : Type} (f : Nat → α) {i j : Nat} (x : α) (q : i ≠ j) : ownUpd f j x i = f i := if_neg q
/-- an array of ints (or bytes, chars ..): its length and its components -/
def ownAI (Z : State) (h : Heap) (a : Addr) (ty : FieldType) (n : Nat) (g : Nat → Int32) : Prop := ∃ cl : Cell, Arr Z h a cl ty ∧ cl.slots.size = n ∧ n < 2 ^ 31 ∧ ∀ i, i < n → cl.slots[i]? = some (.int (g i))
/-- an array of longs -/
def ownAJ (Z : State) (h : Heap) (a : Addr) (n : Nat) (g : Nat → Int64) : Prop := ∃ cl : Cell, Arr Z h a cl .long ∧ cl.slots.size = n ∧ n < 2 ^ 31 ∧ ∀ i, i < n → cl.slots[i]? = some (.long (g i))
variable {a b : Addr} {ty : FieldType} {n : Nat} {gi : Nat → Int32} {gj : Nat → Int64} {ws : List Addr} {sl : Nat} {v : Value}
theorem ownAI.lt (F : ownAI Z h a ty n gi) : a < h.size := by obtain ⟨c, A, -⟩ := F; exact A.lt
theorem ownAI.ext (F : ownAI Z h a ty n gi) (E : Ext h h') : ownAI Z h' a ty n gi := by obtain ⟨c, A, r⟩ := F; exact ⟨c, A.ext E, r⟩
theorem ownAI.other (F : ownAI Z h b ty n gi) (W : Wr h h' a sl v) (q : b ≠ a) : ownAI Z h' b ty n gi := by obtain ⟨c, A, r⟩ := F; exact ⟨c, A.other W q, r⟩
theorem ownAI.keep (F : ownAI Z h a ty n gi) (K : Keep h h' ws) (q : a ∉ ws) : ownAI Z h' a ty n gi := by obtain ⟨c, A, r⟩ := F; exact ⟨c, ⟨K.2.1 a c A.1 q, A.2⟩, r⟩
theorem ownAJ.lt (F : ownAJ Z h a n gj) : a < h.size := by obtain ⟨c, A, -⟩ := F; exact A.lt
theorem ownAJ.ext (F : ownAJ Z h a n gj) (E : Ext h h') : ownAJ Z h' a n gj := by obtain ⟨c, A, r⟩ := F; exact ⟨c, A.ext E, r⟩
theorem ownAJ.other (F : ownAJ Z h b n gj) (W : Wr h h' a sl v) (q : b ≠ a) : ownAJ Z h' b n gj := by obtain ⟨c, A, r⟩ := F; exact ⟨c, A.other W q, r⟩
theorem ownAJ.keep (F : ownAJ Z h a n gj) (K : Keep h h' ws) (q : a ∉ ws) : ownAJ Z h' a n gj := by obtain ⟨c, A, r⟩ := F; exact ⟨c, ⟨K.2.1 a c A.1 q, A.2⟩, r⟩
theorem ownAI.new {k : ClassId} {z : Int32} (A : Arr Z h a (newA k ty z) ty) (q : ¬ z < 0) (d : defaultValue ty = .int 0) (N : z.toNatClampNeg = n) : ownAI Z h a ty n (fun _ => 0) := by
  subst N
  refine ⟨_, A, sz_new _ _ _, (back32 q).2, fun i hi => ?_⟩
  simp [newA, hi, d]
theorem ownAJ.new {k : ClassId} {z : Int32} (A : Arr Z h a (newA k .long z) .long) (q : ¬ z < 0) (N : z.toNatClampNeg = n) : ownAJ Z h a n (fun _ => 0) := by
  subst N
  refine ⟨_, A, sz_new _ _ _, (back32 q).2, fun i hi => ?_⟩
  simp [newA, hi, defaultValue]
theorem ownAI.set (F : ownAI Z h a ty n gi) {j : Nat} {x : Int32} (W : Wr h h' a j (.int x)) : ownAI Z h' a ty n (ownUpd gi j x) := by
  obtain ⟨cl, A, S, N, H⟩ := F
  refine ⟨_, A.same W, by simpa [Cell.setSlot] using S, N, fun i hi => ?_⟩
  by_cases e : i = j
  · subst e; simp [Cell.setSlot, ownUpd, S, hi]
  · rw [ownUpd_ne _ _ e]
    show (cl.slots.setIfInBounds j (.int x))[i]? = _
    rw [Array.getElem?_setIfInBounds_ne (Ne.symm e)]; exact H i hi
theorem ownAJ.set (F : ownAJ Z h a n gj) {j : Nat} {x : Int64} (W : Wr h h' a j (.long x)) : ownAJ Z h' a n (ownUpd gj j x) := by
  obtain ⟨cl, A, S, N, H⟩ := F
  refine ⟨_, A.same W, by simpa [Cell.setSlot] using S, N, fun i hi => ?_⟩
  by_cases e : i = j
  · subst e; simp [Cell.setSlot, ownUpd, S, hi]
  · rw [ownUpd_ne _ _ e]
    show (cl.slots.setIfInBounds j (.long x))[i]? = _
    rw [Array.getElem?_setIfInBounds_ne (Ne.symm e)]; exact H i hi
/-- an index is inside -/
def ownIn (j : Int32) (n : Nat) : Prop := ¬ (j < 0 ∨ n ≤ j.toNatClampNeg)
theorem ownIn_of {j : Int32} {n : Nat} (h1 : 0 ≤ j.toInt) (h2 : j.toInt < n) : ownIn j n := by
  intro q
  rcases q with q | q
  · rw [Int32.lt_iff_toInt_lt] at q; simp only [Int32.reduceToInt] at q; omega
  · simp only [Int32.toNatClampNeg] at q; omega
theorem ownIaload (F : ownAI Z h a .int n gi) (X : Stand p l e R s m args below meth c T locs cells slots) (hx : p.tables.exec = Jvm.exec) (hZ : Z.Warmed39 s.vm) (eT : T.heap = h) {j : Int32} (hin : ownIn j n) {g : JFrame} (hg : g.method = m) {rest : List Value} (hs : g.stack = .int j :: .ref a :: rest) (hd : decode c.code g.pc = .ok (.iaload, 1)) :
    ∀ target, Steps p.tables e below (T.setTop { g with pc := g.pc + 1, stack := .int (gi j.toNatClampNeg) :: rest }) target → Steps p.tables e below (T.setTop g) target := by
  obtain ⟨cl, A, S, N, H⟩ := F
  subst S
  exact fun t k => X.iaload hx (by rw [eT]; exact A.1) (State.isArrayOf_alike hZ.alike A.2.1) A.2.2 hin (H _ (Nat.lt_of_not_le fun q => hin (Or.inr q))) hg hs hd t k
theorem ownBaload (F : ownAI Z h a .byte n gi) (X : Stand p l e R s m args below meth c T locs cells slots) (hx : p.tables.exec = Jvm.exec) (hZ : Z.Warmed39 s.vm) (eT : T.heap = h) {j : Int32} (hin : ownIn j n) {g : JFrame} (hg : g.method = m) {rest : List Value} (hs : g.stack = .int j :: .ref a :: rest) (hd : decode c.code g.pc = .ok (.baload, 1)) :
    ∀ target, Steps p.tables e below (T.setTop { g with pc := g.pc + 1, stack := .int (gi j.toNatClampNeg) :: rest }) target → Steps p.tables e below (T.setTop g) target := by
  obtain ⟨cl, A, S, N, H⟩ := F
  subst S
  exact fun t k => X.baloadBytes hx (by rw [eT]; exact A.1) (State.isArrayOf_alike hZ.alike A.2.1) A.2.2 hin (H _ (Nat.lt_of_not_le fun q => hin (Or.inr q))) hg hs hd t k
theorem ownCaload (F : ownAI Z h a .char n gi) (X : Stand p l e R s m args below meth c T locs cells slots) (hx : p.tables.exec = Jvm.exec) (hZ : Z.Warmed39 s.vm) (eT : T.heap = h) {j : Int32} (hin : ownIn j n) {g : JFrame} (hg : g.method = m) {rest : List Value} (hs : g.stack = .int j :: .ref a :: rest) (hd : decode c.code g.pc = .ok (.caload, 1)) :
    ∀ target, Steps p.tables e below (T.setTop { g with pc := g.pc + 1, stack := .int (gi j.toNatClampNeg) :: rest }) target → Steps p.tables e below (T.setTop g) target := by
  obtain ⟨cl, A, S, N, H⟩ := F
  subst S
  exact fun t k => X.caload hx (by rw [eT]; exact A.1) (State.isArrayOf_alike hZ.alike A.2.1) A.2.2 hin (H _ (Nat.lt_of_not_le fun q => hin (Or.inr q))) hg hs hd t k
theorem ownLaload (F : ownAJ Z h a n gj) (X : Stand p l e R s m args below meth c T locs cells slots) (hx : p.tables.exec = Jvm.exec) (hZ : Z.Warmed39 s.vm) (eT : T.heap = h) {j : Int32} (hin : ownIn j n) {g : JFrame} (hg : g.method = m) {rest : List Value} (hs : g.stack = .int j :: .ref a :: rest) (hd : decode c.code g.pc = .ok (.laload, 1)) :
    ∀ target, Steps p.tables e below (T.setTop { g with pc := g.pc + 1, stack := .long (gj j.toNatClampNeg) :: rest }) target → Steps p.tables e below (T.setTop g) target := by
  obtain ⟨cl, A, S, N, H⟩ := F
  subst S
  exact fun t k => X.laload hx (by rw [eT]; exact A.1) (State.isArrayOf_alike hZ.alike A.2.1) A.2.2 hin (H _ (Nat.lt_of_not_le fun q => hin (Or.inr q))) hg hs hd t k
theorem ownLenI (F : ownAI Z h a ty n gi) (X : Stand p l e R s m args below meth c T locs cells slots) (hx : p.tables.exec = Jvm.exec) (hZ : Z.Warmed39 s.vm) (eT : T.heap = h) {z : Int32} (hz : n.toInt32 = z) {g : JFrame} (hg : g.method = m) {rest : List Value} (hs : g.stack = .ref a :: rest) (hd : decode c.code g.pc = .ok (.arraylength, 1)) :
    ∀ target, Steps p.tables e below (T.setTop { g with pc := g.pc + 1, stack := .int z :: rest }) target → Steps p.tables e below (T.setTop g) target := by
  obtain ⟨cl, A, S, N, H⟩ := F
  subst S hz
  exact fun t k => X.arraylength hx (by rw [eT]; exact A.1) (State.isArrayOf_alike hZ.alike A.2.1) hg hs hd t k
theorem ownLenJ (F : ownAJ Z h a n gj) (X : Stand p l e R s m args below meth c T locs cells slots) (hx : p.tables.exec = Jvm.exec) (hZ : Z.Warmed39 s.vm) (eT : T.heap = h) {z : Int32} (hz : n.toInt32 = z) {g : JFrame} (hg : g.method = m) {rest : List Value} (hs : g.stack = .ref a :: rest) (hd : decode c.code g.pc = .ok (.arraylength, 1)) :
    ∀ target, Steps p.tables e below (T.setTop { g with pc := g.pc + 1, stack := .int z :: rest }) target → Steps p.tables e below (T.setTop g) target := by
  obtain ⟨cl, A, S, N, H⟩ := F
  subst S hz
  exact fun t k => X.arraylength hx (by rw [eT]; exact A.1) (State.isArrayOf_alike hZ.alike A.2.1) hg hs hd t k
theorem ownIastore (F : ownAI Z h a .int n gi) (X : Stand p l e R s m args below meth c T locs cells slots) (hx : p.tables.exec = Jvm.exec) (hZ : Z.Warmed39 s.vm) (eT : T.heap = h) {j x : Int32} (hin : ownIn j n) {g : JFrame} (hg : g.method = m) {rest : List Value} (hs : g.stack = .int x :: .int j :: .ref a :: rest) (hd : decode c.code g.pc = .ok (.iastore, 1)) :
    ∃ T' h', Stand p l e R s m args below meth c T' (locs ++ [⟨a, j.toNatClampNeg⟩]) cells slots ∧ T'.heap = h' ∧ Wr h h' a j.toNatClampNeg (.int x) ∧ ownAI Z h' a .int n (ownUpd gi j.toNatClampNeg x) ∧ ∀ target, Steps p.tables e below (T'.setTop { g with pc := g.pc + 1, stack := rest }) target → Steps p.tables e below (T.setTop g) target := by
  obtain ⟨cl, A, S, r⟩ := id F
  obtain ⟨T', h', X', e', W, st⟩ := stI X hx hZ eT A (j := j) (by rw [S]; exact hin) hg hs hd
  exact ⟨T', h', X', e', W, F.set W, st⟩
theorem ownBastore (F : ownAI Z h a .byte n gi) (X : Stand p l e R s m args below meth c T locs cells slots) (hx : p.tables.exec = Jvm.exec) (hZ : Z.Warmed39 s.vm) (eT : T.heap = h) {j x : Int32} (hin : ownIn j n) {g : JFrame} (hg : g.method = m) {rest : List Value} (hs : g.stack = .int x :: .int j :: .ref a :: rest) (hd : decode c.code g.pc = .ok (.bastore, 1)) :
    ∃ T' h', Stand p l e R s m args below meth c T' (locs ++ [⟨a, j.toNatClampNeg⟩]) cells slots ∧ T'.heap = h' ∧ Wr h h' a j.toNatClampNeg (.int (nar .byte x)) ∧ ownAI Z h' a .byte n (ownUpd gi j.toNatClampNeg (nar .byte x)) ∧ ∀ target, Steps p.tables e below (T'.setTop { g with pc := g.pc + 1, stack := rest }) target → Steps p.tables e below (T.setTop g) target := by
  obtain ⟨cl, A, S, r⟩ := id F
  obtain ⟨T', h', X', e', W, st⟩ := stB X hx hZ eT A (j := j) (by rw [S]; exact hin) hg hs hd
  exact ⟨T', h', X', e', W, F.set W, st⟩
theorem ownCastore (F : ownAI Z h a .char n gi) (X : Stand p l e R s m args below meth c T locs cells slots) (hx : p.tables.exec = Jvm.exec) (hZ : Z.Warmed39 s.vm) (eT : T.heap = h) {j x : Int32} (hin : ownIn j n) {g : JFrame} (hg : g.method = m) {rest : List Value} (hs : g.stack = .int x :: .int j :: .ref a :: rest) (hd : decode c.code g.pc = .ok (.castore, 1)) :
    ∃ T' h', Stand p l e R s m args below meth c T' (locs ++ [⟨a, j.toNatClampNeg⟩]) cells slots ∧ T'.heap = h' ∧ Wr h h' a j.toNatClampNeg (.int (nar .char x)) ∧ ownAI Z h' a .char n (ownUpd gi j.toNatClampNeg (nar .char x)) ∧ ∀ target, Steps p.tables e below (T'.setTop { g with pc := g.pc + 1, stack := rest }) target → Steps p.tables e below (T.setTop g) target := by
  obtain ⟨cl, A, S, r⟩ := id F
  obtain ⟨T', h', X', e', W, st⟩ := stC X hx hZ eT A (j := j) (by rw [S]; exact hin) hg hs hd
  exact ⟨T', h', X', e', W, F.set W, st⟩
theorem ownLastore (F : ownAJ Z h a n gj) (X : Stand p l e R s m args below meth c T locs cells slots) (hx : p.tables.exec = Jvm.exec) (hZ : Z.Warmed39 s.vm) (eT : T.heap = h) {j : Int32} {x : Int64} (hin : ownIn j n) {g : JFrame} (hg : g.method = m) {rest : List Value} (hs : g.stack = .long x :: .int j :: .ref a :: rest) (hd : decode c.code g.pc = .ok (.lastore, 1)) :
    ∃ T' h', Stand p l e R s m args below meth c T' (locs ++ [⟨a, j.toNatClampNeg⟩]) cells slots ∧ T'.heap = h' ∧ Wr h h' a j.toNatClampNeg (.long x) ∧ ownAJ Z h' a n (ownUpd gj j.toNatClampNeg x) ∧ ∀ target, Steps p.tables e below (T'.setTop { g with pc := g.pc + 1, stack := rest }) target → Steps p.tables e below (T.setTop g) target := by
  obtain ⟨cl, A, S, r⟩ := id F
  obtain ⟨T', h', X', e', W, st⟩ := stJ X hx hZ eT A (j := j) (by rw [S]; exact hin) hg hs hd
  exact ⟨T', h', X', e', W, F.set W, st⟩
theorem ownAI.arv (F : ownAI Z h a ty n gi) {z : Int32} (hz : z.toNatClampNeg = n) (hn : ¬ z < 0) (hf : ∀ i, i < n → fits ty (.int (gi i)) = true) : ∃ k, Arv Z h a k ty z ((List.range n).map fun i => Value.int (gi i)) (.int 0) := by
  obtain ⟨cl, A, S, N, H⟩ := F
  refine ⟨cl.cls, cl, A, rfl, by rw [S, hz], hn, fun i hi => ?_, fun i hi => ?_⟩
  · rw [S] at hi; rw [H i hi]; simp [List.getD_eq_getElem?_getD, hi]
  · rw [S] at hi; have := hf i hi; simpa [List.getD_eq_getElem?_getD, hi] using this
theorem ownAI.of_arv {k : ClassId} {z : Int32} {vs : List Value} {dv : Value} (F : Arv Z h a k ty z vs dv) (hz : z.toNatClampNeg = n) (hv : ∀ i, i < n → vs.getD i dv = .int (gi i)) : ownAI Z h a ty n gi := by
  obtain ⟨cl, A, q, S, N, H, G⟩ := F
  refine ⟨cl, A, by rw [S, hz], by rw [← hz]; exact (back32 N).2, fun i hi => ?_⟩
  rw [H i (by rw [S, hz]; exact hi), hv i hi]
theorem ownCopyI {n' : Nat} {gi' gr : Nat → Int32} {z z' nn : Int32} (A : ownAI Z h a ty n gi) (B : ownAI Z h b ty n' gi') (hz : z.toNatClampNeg = n) (hn : ¬ z < 0) (hz' : z'.toNatClampNeg = n') (hn' : ¬ z' < 0) (hty : refKind ty = false) (hfa : ∀ i, i < n → fits ty (.int (gi i)) = true) (hfb : ∀ i, i < n' → fits ty (.int (gi' i)) = true)
    (X : Stand p l e R s m args below meth c T locs cells slots) (hx : p.tables.exec = Jvm.exec) (hZ : Z.Warmed39 s.vm) {own : String} {index : Nat} (hown : s.vm.findClass own = some m.cls)
    (w1 : (Cond.methodLink own index Jvm.Stand.acN).before a0 Z = true) (w2 : (Cond.native Jvm.Stand.acN).before a0 Z = true) (w3 : (Cond.static Jvm.Stand.acN).before a0 Z = true) (w4 : (Cond.initialized "java/lang/System").before a0 Z = true) (eT : T.heap = h)
    (h3 : ¬ nn < 0) (h4 : nn.toNatClampNeg ≤ n) (h5 : nn.toNatClampNeg ≤ n') (hgr : ∀ i, i < n' → (if i < nn.toNatClampNeg then gi i else gi' i) = gr i) {n0 : Nat} (N : Fr n0 locs) (ge : n0 ≤ b)
    {g : JFrame} (hg : g.method = m) (hsize : g.locals.size = c.maxLocals) {rest : List Value} (hs : g.stack = .int nn :: .int 0 :: .ref b :: .int 0 :: .ref a :: rest) (hd : decode c.code g.pc = .ok (.invokestatic index, 3))
    (hf : 1 ≤ R.frames) {W : Nat} (hW : 2 * g.monitorRoom + (rest.map fun v => v.category).sum ≤ W) (hlo : W + (nativeFrameWords "java/lang/System" "arraycopy" 5 + 11) ≤ R.locals) :
    ∃ T' h' L, Stand p l e R s m args below meth c T' L cells slots ∧ T'.heap = h' ∧ Fr n0 L ∧ Keep h h' [b] ∧ ownAI Z h' b ty n' gr ∧
      ∀ target, Steps p.tables e below (T'.setTop { g with pc := g.pc + 3, stack := rest }) target → Steps p.tables e below (T.setTop g) target := by
  obtain ⟨k1, A1⟩ := A.arv hz hn hfa
  obtain ⟨k2, B1⟩ := B.arv hz' hn' hfb
  obtain ⟨T', h', L, X', e', N', K', F', st⟩ := cpA X hx hZ hown w1 w2 w3 w4 eT (sp := 0) (dp := 0) A1 B1 (Or.inl ⟨rfl, hty⟩) (by decide) (by decide) h3 (by show 0 + _ ≤ _; rw [hz]; omega) (by show 0 + _ ≤ _; rw [hz']; omega) rfl (by show 0 + _ ≤ _; simp; exact h5) N ge hg hsize hs hd hf hW hlo
  refine ⟨T', h', L, X', e', N', K', ownAI.of_arv F' hz' (fun i hi => ?_), st⟩
  rw [← hgr i hi]
  show (List.take 0 _ ++ (List.range nn.toNatClampNeg).map (fun i => ((List.range n).map fun i => Value.int (gi i)).getD (0 + i) (.int 0)) ++ List.drop (0 + nn.toNatClampNeg) _).getD i (.int 0) = _
  by_cases q : i < nn.toNatClampNeg
  · rw [if_pos q]
    have : i < n := by omega
    simp [List.getD_eq_getElem?_getD, List.getElem?_append, q, this]
  · rw [if_neg q]
    have h6 : nn.toNatClampNeg + (i - nn.toNatClampNeg) = i := by omega
    simp [List.getD_eq_getElem?_getD, List.getElem?_append, q, hi, h6]
theorem ownCloneI {z : Int32} (F : ownAI Z h a ty n gi) (hz : z.toNatClampNeg = n) (hn : ¬ z < 0) (hfa : ∀ i, i < n → fits ty (.int (gi i)) = true) (X : Stand p l e R s m args below meth c T locs cells slots) (hx : p.tables.exec = Jvm.exec) (hZ : Z.Warmed39 s.vm) {own ad : String} {index : Nat} (hown : s.vm.findClass own = some m.cls)
    (w1 : (Cond.methodLink own index ⟨ad, "clone", "()Ljava/lang/Object;"⟩).before a0 Z = true) (w2 : (Cond.sameMethod ad "java/lang/Object" "clone" "()Ljava/lang/Object;").before a0 Z = true) (w3 : (Cond.native ⟨"java/lang/Object", "clone", "()Ljava/lang/Object;"⟩).before a0 Z = true)
    (w4 : (Cond.instanceMethod ⟨"java/lang/Object", "clone", "()Ljava/lang/Object;"⟩).before a0 Z = true) (w5 : (Cond.selects ad ⟨ad, "clone", "()Ljava/lang/Object;"⟩ ⟨"java/lang/Object", "clone", "()Ljava/lang/Object;"⟩).before a0 Z = true) (w6 : (Cond.castable ad "java/lang/Cloneable").before a0 Z = true)
    (eT : T.heap = h) (E : Exa Z h a ad) {g : JFrame} (hg : g.method = m) (hsize : g.locals.size = c.maxLocals) {rest : List Value} (hst : g.stack = .ref a :: rest) (hd : decode c.code g.pc = .ok (.invokevirtual index, 3))
    (hf : 1 ≤ R.frames) {W cap : Nat} (hW : 2 * g.monitorRoom + (rest.map fun v => v.category).sum ≤ W) (hl : W + 14 ≤ R.locals) (hcap : n ≤ cap) (hc : cells + 1 ≤ R.cells) (hsl : slots + cap ≤ R.slots) :
    ∃ T' h', Stand p l e R s m args below meth c T' locs (cells + 1) (slots + cap) ∧ T'.heap = h' ∧ Ext h h' ∧ ownAI Z h' h.size ty n gi ∧ Exa Z h' h.size ad ∧
      ∀ target, Steps p.tables e below (T'.setTop { g with pc := g.pc + 3, stack := .ref h.size :: rest }) target → Steps p.tables e below (T.setTop g) target := by
  obtain ⟨k1, A1⟩ := F.arv hz hn hfa
  obtain ⟨T', h', X', e', ex, A', E', st⟩ := cloneH X hx hZ hown w1 w2 w3 w4 w5 w6 eT A1.arh E hg hsize hst hd hf hW hl (by rw [hz]; exact hcap) hc hsl
  refine ⟨T', h', X', e', ex, ownAI.of_arv (k := k1) (z := z) (vs := (List.range n).map fun i => Value.int (gi i)) (dv := .int 0) A' hz (fun i hi => ?_), E', st⟩
  simp [List.getD_eq_getElem?_getD, hi]
theorem ownZaload (F : ownAI Z h a .boolean n gi) (X : Stand p l e R s m args below meth c T locs cells slots) (hx : p.tables.exec = Jvm.exec) (hZ : Z.Warmed39 s.vm) (eT : T.heap = h) {j : Int32} (hin : ownIn j n) {g : JFrame} (hg : g.method = m) {rest : List Value} (hs : g.stack = .int j :: .ref a :: rest) (hd : decode c.code g.pc = .ok (.baload, 1)) :
    ∀ target, Steps p.tables e below (T.setTop { g with pc := g.pc + 1, stack := .int (gi j.toNatClampNeg) :: rest }) target → Steps p.tables e below (T.setTop g) target := by
  obtain ⟨cl, A, S, N, H⟩ := F
  subst S
  exact fun t k => X.baloadBooleans hx (by rw [eT]; exact A.1) (State.isArrayOf_alike hZ.alike A.2.1) A.2.2 hin (H _ (Nat.lt_of_not_le fun q => hin (Or.inr q))) hg hs hd t k
theorem ownZastore (F : ownAI Z h a .boolean n gi) (X : Stand p l e R s m args below meth c T locs cells slots) (hx : p.tables.exec = Jvm.exec) (hZ : Z.Warmed39 s.vm) (eT : T.heap = h) {j x : Int32} (hin : ownIn j n) {g : JFrame} (hg : g.method = m) {rest : List Value} (hs : g.stack = .int x :: .int j :: .ref a :: rest) (hd : decode c.code g.pc = .ok (.bastore, 1)) :
    ∃ T' h', Stand p l e R s m args below meth c T' (locs ++ [⟨a, j.toNatClampNeg⟩]) cells slots ∧ T'.heap = h' ∧ Wr h h' a j.toNatClampNeg (.int (nar .boolean x)) ∧ ownAI Z h' a .boolean n (ownUpd gi j.toNatClampNeg (nar .boolean x)) ∧ ∀ target, Steps p.tables e below (T'.setTop { g with pc := g.pc + 1, stack := rest }) target → Steps p.tables e below (T.setTop g) target := by
  obtain ⟨cl, A, S, r⟩ := id F
  obtain ⟨T', h', X', e', W, st⟩ := stZ X hx hZ eT A (j := j) (by rw [S]; exact hin) hg hs hd
  exact ⟨T', h', X', e', W, F.set W, st⟩
theorem ownNstE {C : String} (F : Exa Z h a C) : ∀ c, h[a]? = some c → c.vm.isStatics = false := fun c q => by obtain ⟨cell, k, h1, -, -, h4, -⟩ := F; cases h1.symm.trans q; exact h4
theorem ownNstI (F : ownAI Z h a ty n gi) : ∀ c, h[a]? = some c → c.vm.isStatics = false := fun c q => by obtain ⟨cell, A, -⟩ := F; cases A.1.symm.trans q; exact A.plain
theorem ownNstJ (F : ownAJ Z h a n gj) : ∀ c, h[a]? = some c → c.vm.isStatics = false := fun c q => by obtain ⟨cell, A, -⟩ := F; cases A.1.symm.trans q; exact A.plain
theorem ownStaKeep {C nm d : String} (F : Sta Z h C nm d v) (K : Keep h h' ws) (q : ∀ x ∈ ws, ∀ c, h[x]? = some c → c.vm.isStatics = false) : Sta Z h' C nm d v := by
  obtain ⟨cf, i, k, f, st, cell, h1, h2, h3, h4, h5, h6, h7⟩ := F
  refine ⟨cf, i, k, f, st, cell, h1, h2, h3, h4, K.2.1 st cell h5 (fun w => ?_), h6, h7⟩
  rw [q st w cell h5] at h6; cases h6
theorem own_narb {x v : Int32} (h : x.toInt8.toInt32 = v) : nar .byte v = v := by subst h; simp [nar]
theorem own_narc {x v : Int32} (h : x.toUInt32.toUInt16.toUInt32.toInt32 = v) : nar .char v = v := by subst h; simp only [nar, UInt32.toUInt32_toInt32, UInt16.toUInt16_toUInt32]
theorem own_evInt {args : Array Value} {t : Term} {k : Int32} (h : (Cond.eq t (.int k)).value args s none s [] = some true) : t.eval args s none [] s = some (.int k) := by
  simp only [Cond.value, Term.eval] at h
  cases ht : t.eval args s none [] s with
  | none => simp [ht] at h
  | some x => cases x <;> simp [ht] at h ⊢; exact h
theorem own_fldInt {args : Array Value} {t : Term} {C n d : String} {k : Int32} {x : Addr} (h : (Cond.eq (.field t C n d) (.int k)).value args s none s [] = some true) (ht : t.eval args s none [] s = some (.ref x)) : Fld s s.heap x C n d (.int k) :=
  Fld.start ((fld_at ht).symm.trans (own_evInt h))
end OwnWalk
section OwnSteps
variable {p : Program} {l : Launch} {e : Env} {R : Room} {s : State} {m : MethodId} {args : Array Value} {below : List Frame} {meth : Method} {c : Code} {T : State} {locs : List Loc} {cells slots : Nat} {Q : Option Value → Heap → List Loc → Prop} {ck sk : Nat}
theorem ow_iloadN (X : Stand p l e R s m args below meth c T locs cells slots) (hx : p.tables.exec = Jvm.exec) {pc q : Nat} {Ls : Array Slot} {S : List Value} {k : Fin 4} {v : Int32} (hd : decode c.code pc = .ok (.iload_n k, 1)) (hq : pc + 1 = q) (hl : Ls[k.val]? = some (.val (.int v))) (k : ownEnds p e below s Q ck sk T (mkF m q Ls (.int v :: S))) : ownEnds p e below s Q ck sk T (mkF m pc Ls S) := by
  subst hq
  exact ownGo (fun _ k => XS.iloadN X.here hx rfl hd hl k) k
theorem ow_iload (X : Stand p l e R s m args below meth c T locs cells slots) (hx : p.tables.exec = Jvm.exec) {pc q : Nat} {Ls : Array Slot} {S : List Value} {k : Nat} {v : Int32} (hd : decode c.code pc = .ok (.iload k, 2)) (hq : pc + 2 = q) (hl : Ls[k]? = some (.val (.int v))) (k : ownEnds p e below s Q ck sk T (mkF m q Ls (.int v :: S))) : ownEnds p e below s Q ck sk T (mkF m pc Ls S) := by
  subst hq
  exact ownGo (fun _ k => XS.iload X.here hx rfl hd hl k) k
theorem ow_istoreN (X : Stand p l e R s m args below meth c T locs cells slots) (hx : p.tables.exec = Jvm.exec) {pc q : Nat} {Ls : Array Slot} {S : List Value} {k : Fin 4} {v : Int32} {L' : Array Slot} (hd : decode c.code pc = .ok (.istore_n k, 1)) (hq : pc + 1 = q) (hl : storeLocals Ls k.val (.int v) = some L') (k : ownEnds p e below s Q ck sk T (mkF m q L' S)) : ownEnds p e below s Q ck sk T (mkF m pc Ls (.int v :: S)) := by
  subst hq
  exact ownGo (fun _ k => XS.istoreN X.here hx rfl hd rfl hl k) k
theorem ow_istore (X : Stand p l e R s m args below meth c T locs cells slots) (hx : p.tables.exec = Jvm.exec) {pc q : Nat} {Ls : Array Slot} {S : List Value} {k : Nat} {v : Int32} {L' : Array Slot} (hd : decode c.code pc = .ok (.istore k, 2)) (hq : pc + 2 = q) (hl : storeLocals Ls k (.int v) = some L') (k : ownEnds p e below s Q ck sk T (mkF m q L' S)) : ownEnds p e below s Q ck sk T (mkF m pc Ls (.int v :: S)) := by
  subst hq
  exact ownGo (fun _ k => XS.istore X.here hx rfl hd rfl hl k) k
theorem ow_lloadN (X : Stand p l e R s m args below meth c T locs cells slots) (hx : p.tables.exec = Jvm.exec) {pc q : Nat} {Ls : Array Slot} {S : List Value} {k : Fin 4} {v : Int64} (hd : decode c.code pc = .ok (.lload_n k, 1)) (hq : pc + 1 = q) (hl : Ls[k.val]? = some (.val (.long v))) (k : ownEnds p e below s Q ck sk T (mkF m q Ls (.long v :: S))) : ownEnds p e below s Q ck sk T (mkF m pc Ls S) := by
  subst hq
  exact ownGo (fun _ k => XS.lloadN X.here hx rfl hd hl k) k
theorem ow_lload (X : Stand p l e R s m args below meth c T locs cells slots) (hx : p.tables.exec = Jvm.exec) {pc q : Nat} {Ls : Array Slot} {S : List Value} {k : Nat} {v : Int64} (hd : decode c.code pc = .ok (.lload k, 2)) (hq : pc + 2 = q) (hl : Ls[k]? = some (.val (.long v))) (k : ownEnds p e below s Q ck sk T (mkF m q Ls (.long v :: S))) : ownEnds p e below s Q ck sk T (mkF m pc Ls S) := by
  subst hq
  exact ownGo (fun _ k => XS.lload X.here hx rfl hd hl k) k
theorem ow_lstoreN (X : Stand p l e R s m args below meth c T locs cells slots) (hx : p.tables.exec = Jvm.exec) {pc q : Nat} {Ls : Array Slot} {S : List Value} {k : Fin 4} {v : Int64} {L' : Array Slot} (hd : decode c.code pc = .ok (.lstore_n k, 1)) (hq : pc + 1 = q) (hl : storeLocals Ls k.val (.long v) = some L') (k : ownEnds p e below s Q ck sk T (mkF m q L' S)) : ownEnds p e below s Q ck sk T (mkF m pc Ls (.long v :: S)) := by
  subst hq
  exact ownGo (fun _ k => XS.lstoreN X.here hx rfl hd rfl hl k) k
theorem ow_lstore (X : Stand p l e R s m args below meth c T locs cells slots) (hx : p.tables.exec = Jvm.exec) {pc q : Nat} {Ls : Array Slot} {S : List Value} {k : Nat} {v : Int64} {L' : Array Slot} (hd : decode c.code pc = .ok (.lstore k, 2)) (hq : pc + 2 = q) (hl : storeLocals Ls k (.long v) = some L') (k : ownEnds p e below s Q ck sk T (mkF m q L' S)) : ownEnds p e below s Q ck sk T (mkF m pc Ls (.long v :: S)) := by
  subst hq
  exact ownGo (fun _ k => XS.lstore X.here hx rfl hd rfl hl k) k
theorem ow_aloadN (X : Stand p l e R s m args below meth c T locs cells slots) (hx : p.tables.exec = Jvm.exec) {pc q : Nat} {Ls : Array Slot} {S : List Value} {k : Fin 4} {v : Value} (hd : decode c.code pc = .ok (.aload_n k, 1)) (hq : pc + 1 = q) (hl : Ls[k.val]? = some (.val v)) (hv : v.isRef = true) (k : ownEnds p e below s Q ck sk T (mkF m q Ls (v :: S))) : ownEnds p e below s Q ck sk T (mkF m pc Ls S) := by
  subst hq
  exact ownGo (fun _ k => XS.aloadN X.here hx rfl hd hl hv k) k
theorem ow_aload (X : Stand p l e R s m args below meth c T locs cells slots) (hx : p.tables.exec = Jvm.exec) {pc q : Nat} {Ls : Array Slot} {S : List Value} {k : Nat} {v : Value} (hd : decode c.code pc = .ok (.aload k, 2)) (hq : pc + 2 = q) (hl : Ls[k]? = some (.val v)) (hv : v.isRef = true) (k : ownEnds p e below s Q ck sk T (mkF m q Ls (v :: S))) : ownEnds p e below s Q ck sk T (mkF m pc Ls S) := by
  subst hq
  exact ownGo (fun _ k => XS.aload X.here hx rfl hd hl hv k) k
theorem ow_astoreN (X : Stand p l e R s m args below meth c T locs cells slots) (hx : p.tables.exec = Jvm.exec) {pc q : Nat} {Ls : Array Slot} {S : List Value} {k : Fin 4} {v : Value} {L' : Array Slot} (hd : decode c.code pc = .ok (.astore_n k, 1)) (hq : pc + 1 = q) (hv : v.isRef = true) (hl : storeLocals Ls k.val v = some L') (k : ownEnds p e below s Q ck sk T (mkF m q L' S)) : ownEnds p e below s Q ck sk T (mkF m pc Ls (v :: S)) := by
  subst hq
  exact ownGo (fun _ k => XS.astoreN X.here hx rfl hd rfl hv hl k) k
theorem ow_astore (X : Stand p l e R s m args below meth c T locs cells slots) (hx : p.tables.exec = Jvm.exec) {pc q : Nat} {Ls : Array Slot} {S : List Value} {k : Nat} {v : Value} {L' : Array Slot} (hd : decode c.code pc = .ok (.astore k, 2)) (hq : pc + 2 = q) (hv : v.isRef = true) (hl : storeLocals Ls k v = some L') (k : ownEnds p e below s Q ck sk T (mkF m q L' S)) : ownEnds p e below s Q ck sk T (mkF m pc Ls (v :: S)) := by
  subst hq
  exact ownGo (fun _ k => XS.astore X.here hx rfl hd rfl hv hl k) k
theorem ow_iconst (X : Stand p l e R s m args below meth c T locs cells slots) (hx : p.tables.exec = Jvm.exec) {pc q : Nat} {Ls : Array Slot} {S : List Value} {i : Int} (v : Int32) (hd : decode c.code pc = .ok (.iconst i, 1)) (hq : pc + 1 = q) (hz : Int32.ofInt i = v) (k : ownEnds p e below s Q ck sk T (mkF m q Ls (.int v :: S))) : ownEnds p e below s Q ck sk T (mkF m pc Ls S) := by
  subst hq hz
  exact ownGo (fun _ k => XS.iconst X.here hx rfl hd k) k
theorem ow_bipush (X : Stand p l e R s m args below meth c T locs cells slots) (hx : p.tables.exec = Jvm.exec) {pc q : Nat} {Ls : Array Slot} {S : List Value} {i : Int} (v : Int32) (hd : decode c.code pc = .ok (.bipush i, 2)) (hq : pc + 2 = q) (hz : (Int8.ofInt i).toInt32 = v) (k : ownEnds p e below s Q ck sk T (mkF m q Ls (.int v :: S))) : ownEnds p e below s Q ck sk T (mkF m pc Ls S) := by
  subst hq hz
  exact ownGo (fun _ k => XS.bipush X.here hx rfl hd k) k
theorem ow_sipush (X : Stand p l e R s m args below meth c T locs cells slots) (hx : p.tables.exec = Jvm.exec) {pc q : Nat} {Ls : Array Slot} {S : List Value} {i : Int} (v : Int32) (hd : decode c.code pc = .ok (.sipush i, 3)) (hq : pc + 3 = q) (hz : (Int16.ofInt i).toInt32 = v) (k : ownEnds p e below s Q ck sk T (mkF m q Ls (.int v :: S))) : ownEnds p e below s Q ck sk T (mkF m pc Ls S) := by
  subst hq hz
  exact ownGo (fun _ k => XS.sipush X.here hx rfl hd k) k
theorem ow_lconst (X : Stand p l e R s m args below meth c T locs cells slots) (hx : p.tables.exec = Jvm.exec) {pc q : Nat} {Ls : Array Slot} {S : List Value} {i : Fin 2} (v : Int64) (hd : decode c.code pc = .ok (.lconst i, 1)) (hq : pc + 1 = q) (hz : Int64.ofNat i = v) (k : ownEnds p e below s Q ck sk T (mkF m q Ls (.long v :: S))) : ownEnds p e below s Q ck sk T (mkF m pc Ls S) := by
  subst hq hz
  exact ownGo (fun _ k => XS.lconst X.here hx rfl hd k) k
theorem ow_iadd (X : Stand p l e R s m args below meth c T locs cells slots) (hx : p.tables.exec = Jvm.exec) {pc q : Nat} {Ls : Array Slot} {S : List Value} {x y : Int32} (z : Int32) (hd : decode c.code pc = .ok (.iadd, 1)) (hq : pc + 1 = q) (hz : x + y = z) (k : ownEnds p e below s Q ck sk T (mkF m q Ls (.int z :: S))) : ownEnds p e below s Q ck sk T (mkF m pc Ls (.int y :: .int x :: S)) := by
  subst hq hz
  exact ownGo (fun _ k => XS.iadd X.here hx rfl hd rfl k) k
theorem ow_ladd (X : Stand p l e R s m args below meth c T locs cells slots) (hx : p.tables.exec = Jvm.exec) {pc q : Nat} {Ls : Array Slot} {S : List Value} {x y : Int64} (z : Int64) (hd : decode c.code pc = .ok (.ladd, 1)) (hq : pc + 1 = q) (hz : x + y = z) (k : ownEnds p e below s Q ck sk T (mkF m q Ls (.long z :: S))) : ownEnds p e below s Q ck sk T (mkF m pc Ls (.long y :: .long x :: S)) := by
  subst hq hz
  exact ownGo (fun _ k => XS.ladd X.here hx rfl hd rfl k) k
theorem ow_isub (X : Stand p l e R s m args below meth c T locs cells slots) (hx : p.tables.exec = Jvm.exec) {pc q : Nat} {Ls : Array Slot} {S : List Value} {x y : Int32} (z : Int32) (hd : decode c.code pc = .ok (.isub, 1)) (hq : pc + 1 = q) (hz : x - y = z) (k : ownEnds p e below s Q ck sk T (mkF m q Ls (.int z :: S))) : ownEnds p e below s Q ck sk T (mkF m pc Ls (.int y :: .int x :: S)) := by
  subst hq hz
  exact ownGo (fun _ k => XS.isub X.here hx rfl hd rfl k) k
theorem ow_lsub (X : Stand p l e R s m args below meth c T locs cells slots) (hx : p.tables.exec = Jvm.exec) {pc q : Nat} {Ls : Array Slot} {S : List Value} {x y : Int64} (z : Int64) (hd : decode c.code pc = .ok (.lsub, 1)) (hq : pc + 1 = q) (hz : x - y = z) (k : ownEnds p e below s Q ck sk T (mkF m q Ls (.long z :: S))) : ownEnds p e below s Q ck sk T (mkF m pc Ls (.long y :: .long x :: S)) := by
  subst hq hz
  exact ownGo (fun _ k => XS.lsub X.here hx rfl hd rfl k) k
theorem ow_imul (X : Stand p l e R s m args below meth c T locs cells slots) (hx : p.tables.exec = Jvm.exec) {pc q : Nat} {Ls : Array Slot} {S : List Value} {x y : Int32} (z : Int32) (hd : decode c.code pc = .ok (.imul, 1)) (hq : pc + 1 = q) (hz : x * y = z) (k : ownEnds p e below s Q ck sk T (mkF m q Ls (.int z :: S))) : ownEnds p e below s Q ck sk T (mkF m pc Ls (.int y :: .int x :: S)) := by
  subst hq hz
  exact ownGo (fun _ k => XS.imul X.here hx rfl hd rfl k) k
theorem ow_lmul (X : Stand p l e R s m args below meth c T locs cells slots) (hx : p.tables.exec = Jvm.exec) {pc q : Nat} {Ls : Array Slot} {S : List Value} {x y : Int64} (z : Int64) (hd : decode c.code pc = .ok (.lmul, 1)) (hq : pc + 1 = q) (hz : x * y = z) (k : ownEnds p e below s Q ck sk T (mkF m q Ls (.long z :: S))) : ownEnds p e below s Q ck sk T (mkF m pc Ls (.long y :: .long x :: S)) := by
  subst hq hz
  exact ownGo (fun _ k => XS.lmul X.here hx rfl hd rfl k) k
theorem ow_iand (X : Stand p l e R s m args below meth c T locs cells slots) (hx : p.tables.exec = Jvm.exec) {pc q : Nat} {Ls : Array Slot} {S : List Value} {x y : Int32} (z : Int32) (hd : decode c.code pc = .ok (.iand, 1)) (hq : pc + 1 = q) (hz : x &&& y = z) (k : ownEnds p e below s Q ck sk T (mkF m q Ls (.int z :: S))) : ownEnds p e below s Q ck sk T (mkF m pc Ls (.int y :: .int x :: S)) := by
  subst hq hz
  exact ownGo (fun _ k => XS.iand X.here hx rfl hd rfl k) k
theorem ow_land (X : Stand p l e R s m args below meth c T locs cells slots) (hx : p.tables.exec = Jvm.exec) {pc q : Nat} {Ls : Array Slot} {S : List Value} {x y : Int64} (z : Int64) (hd : decode c.code pc = .ok (.land, 1)) (hq : pc + 1 = q) (hz : x &&& y = z) (k : ownEnds p e below s Q ck sk T (mkF m q Ls (.long z :: S))) : ownEnds p e below s Q ck sk T (mkF m pc Ls (.long y :: .long x :: S)) := by
  subst hq hz
  exact ownGo (fun _ k => XS.land X.here hx rfl hd rfl k) k
theorem ow_ior (X : Stand p l e R s m args below meth c T locs cells slots) (hx : p.tables.exec = Jvm.exec) {pc q : Nat} {Ls : Array Slot} {S : List Value} {x y : Int32} (z : Int32) (hd : decode c.code pc = .ok (.ior, 1)) (hq : pc + 1 = q) (hz : x ||| y = z) (k : ownEnds p e below s Q ck sk T (mkF m q Ls (.int z :: S))) : ownEnds p e below s Q ck sk T (mkF m pc Ls (.int y :: .int x :: S)) := by
  subst hq hz
  exact ownGo (fun _ k => XS.ior X.here hx rfl hd rfl k) k
theorem ow_lor (X : Stand p l e R s m args below meth c T locs cells slots) (hx : p.tables.exec = Jvm.exec) {pc q : Nat} {Ls : Array Slot} {S : List Value} {x y : Int64} (z : Int64) (hd : decode c.code pc = .ok (.lor, 1)) (hq : pc + 1 = q) (hz : x ||| y = z) (k : ownEnds p e below s Q ck sk T (mkF m q Ls (.long z :: S))) : ownEnds p e below s Q ck sk T (mkF m pc Ls (.long y :: .long x :: S)) := by
  subst hq hz
  exact ownGo (fun _ k => XS.lor X.here hx rfl hd rfl k) k
theorem ow_ixor (X : Stand p l e R s m args below meth c T locs cells slots) (hx : p.tables.exec = Jvm.exec) {pc q : Nat} {Ls : Array Slot} {S : List Value} {x y : Int32} (z : Int32) (hd : decode c.code pc = .ok (.ixor, 1)) (hq : pc + 1 = q) (hz : x ^^^ y = z) (k : ownEnds p e below s Q ck sk T (mkF m q Ls (.int z :: S))) : ownEnds p e below s Q ck sk T (mkF m pc Ls (.int y :: .int x :: S)) := by
  subst hq hz
  exact ownGo (fun _ k => XS.ixor X.here hx rfl hd rfl k) k
theorem ow_lxor (X : Stand p l e R s m args below meth c T locs cells slots) (hx : p.tables.exec = Jvm.exec) {pc q : Nat} {Ls : Array Slot} {S : List Value} {x y : Int64} (z : Int64) (hd : decode c.code pc = .ok (.lxor, 1)) (hq : pc + 1 = q) (hz : x ^^^ y = z) (k : ownEnds p e below s Q ck sk T (mkF m q Ls (.long z :: S))) : ownEnds p e below s Q ck sk T (mkF m pc Ls (.long y :: .long x :: S)) := by
  subst hq hz
  exact ownGo (fun _ k => XS.lxor X.here hx rfl hd rfl k) k
theorem ow_ishl (X : Stand p l e R s m args below meth c T locs cells slots) (hx : p.tables.exec = Jvm.exec) {pc q : Nat} {Ls : Array Slot} {S : List Value} {x y : Int32} (z : Int32) (hd : decode c.code pc = .ok (.ishl, 1)) (hq : pc + 1 = q) (hz : x <<< (y &&& 31) = z) (k : ownEnds p e below s Q ck sk T (mkF m q Ls (.int z :: S))) : ownEnds p e below s Q ck sk T (mkF m pc Ls (.int y :: .int x :: S)) := by
  subst hq hz
  exact ownGo (fun _ k => XS.ishl X.here hx rfl hd rfl k) k
theorem ow_ishr (X : Stand p l e R s m args below meth c T locs cells slots) (hx : p.tables.exec = Jvm.exec) {pc q : Nat} {Ls : Array Slot} {S : List Value} {x y : Int32} (z : Int32) (hd : decode c.code pc = .ok (.ishr, 1)) (hq : pc + 1 = q) (hz : x >>> (y &&& 31) = z) (k : ownEnds p e below s Q ck sk T (mkF m q Ls (.int z :: S))) : ownEnds p e below s Q ck sk T (mkF m pc Ls (.int y :: .int x :: S)) := by
  subst hq hz
  exact ownGo (fun _ k => XS.ishr X.here hx rfl hd rfl k) k
theorem ow_iushr (X : Stand p l e R s m args below meth c T locs cells slots) (hx : p.tables.exec = Jvm.exec) {pc q : Nat} {Ls : Array Slot} {S : List Value} {x y : Int32} (z : Int32) (hd : decode c.code pc = .ok (.iushr, 1)) (hq : pc + 1 = q) (hz : (x.toUInt32 >>> (y &&& 31).toUInt32).toInt32 = z) (k : ownEnds p e below s Q ck sk T (mkF m q Ls (.int z :: S))) : ownEnds p e below s Q ck sk T (mkF m pc Ls (.int y :: .int x :: S)) := by
  subst hq hz
  exact ownGo (fun _ k => XS.iushr X.here hx rfl hd rfl k) k
theorem ow_lshl (X : Stand p l e R s m args below meth c T locs cells slots) (hx : p.tables.exec = Jvm.exec) {pc q : Nat} {Ls : Array Slot} {S : List Value} {x : Int64} {y : Int32} (z : Int64) (hd : decode c.code pc = .ok (.lshl, 1)) (hq : pc + 1 = q) (hz : x <<< (y &&& 0x3f).toInt64 = z) (k : ownEnds p e below s Q ck sk T (mkF m q Ls (.long z :: S))) : ownEnds p e below s Q ck sk T (mkF m pc Ls (.int y :: .long x :: S)) := by
  subst hq hz
  exact ownGo (fun _ k => XS.lshl X.here hx rfl hd rfl k) k
theorem ow_lshr (X : Stand p l e R s m args below meth c T locs cells slots) (hx : p.tables.exec = Jvm.exec) {pc q : Nat} {Ls : Array Slot} {S : List Value} {x : Int64} {y : Int32} (z : Int64) (hd : decode c.code pc = .ok (.lshr, 1)) (hq : pc + 1 = q) (hz : x >>> (y &&& 0x3f).toInt64 = z) (k : ownEnds p e below s Q ck sk T (mkF m q Ls (.long z :: S))) : ownEnds p e below s Q ck sk T (mkF m pc Ls (.int y :: .long x :: S)) := by
  subst hq hz
  exact ownGo (fun _ k => XS.lshr X.here hx rfl hd rfl k) k
theorem ow_lushr (X : Stand p l e R s m args below meth c T locs cells slots) (hx : p.tables.exec = Jvm.exec) {pc q : Nat} {Ls : Array Slot} {S : List Value} {x : Int64} {y : Int32} (z : Int64) (hd : decode c.code pc = .ok (.lushr, 1)) (hq : pc + 1 = q) (hz : (x.toUInt64 >>> (y &&& 0x3f).toInt64.toUInt64).toInt64 = z) (k : ownEnds p e below s Q ck sk T (mkF m q Ls (.long z :: S))) : ownEnds p e below s Q ck sk T (mkF m pc Ls (.int y :: .long x :: S)) := by
  subst hq hz
  exact ownGo (fun _ k => XS.lushr X.here hx rfl hd rfl k) k
theorem ow_ineg (X : Stand p l e R s m args below meth c T locs cells slots) (hx : p.tables.exec = Jvm.exec) {pc q : Nat} {Ls : Array Slot} {S : List Value} {x : Int32} (z : Int32) (hd : decode c.code pc = .ok (.ineg, 1)) (hq : pc + 1 = q) (hz : -x = z) (k : ownEnds p e below s Q ck sk T (mkF m q Ls (.int z :: S))) : ownEnds p e below s Q ck sk T (mkF m pc Ls (.int x :: S)) := by
  subst hq hz
  exact ownGo (fun _ k => XS.ineg X.here hx rfl hd rfl k) k
theorem ow_lneg (X : Stand p l e R s m args below meth c T locs cells slots) (hx : p.tables.exec = Jvm.exec) {pc q : Nat} {Ls : Array Slot} {S : List Value} {x : Int64} (z : Int64) (hd : decode c.code pc = .ok (.lneg, 1)) (hq : pc + 1 = q) (hz : -x = z) (k : ownEnds p e below s Q ck sk T (mkF m q Ls (.long z :: S))) : ownEnds p e below s Q ck sk T (mkF m pc Ls (.long x :: S)) := by
  subst hq hz
  exact ownGo (fun _ k => XS.lneg X.here hx rfl hd rfl k) k
theorem ow_i2l (X : Stand p l e R s m args below meth c T locs cells slots) (hx : p.tables.exec = Jvm.exec) {pc q : Nat} {Ls : Array Slot} {S : List Value} {x : Int32} (z : Int64) (hd : decode c.code pc = .ok (.i2l, 1)) (hq : pc + 1 = q) (hz : x.toInt64 = z) (k : ownEnds p e below s Q ck sk T (mkF m q Ls (.long z :: S))) : ownEnds p e below s Q ck sk T (mkF m pc Ls (.int x :: S)) := by
  subst hq hz
  exact ownGo (fun _ k => XS.i2l X.here hx rfl hd rfl k) k
theorem ow_l2i (X : Stand p l e R s m args below meth c T locs cells slots) (hx : p.tables.exec = Jvm.exec) {pc q : Nat} {Ls : Array Slot} {S : List Value} {x : Int64} (z : Int32) (hd : decode c.code pc = .ok (.l2i, 1)) (hq : pc + 1 = q) (hz : x.toInt32 = z) (k : ownEnds p e below s Q ck sk T (mkF m q Ls (.int z :: S))) : ownEnds p e below s Q ck sk T (mkF m pc Ls (.long x :: S)) := by
  subst hq hz
  exact ownGo (fun _ k => XS.l2i X.here hx rfl hd rfl k) k
theorem ow_i2b (X : Stand p l e R s m args below meth c T locs cells slots) (hx : p.tables.exec = Jvm.exec) {pc q : Nat} {Ls : Array Slot} {S : List Value} {x : Int32} (z : Int32) (hd : decode c.code pc = .ok (.i2b, 1)) (hq : pc + 1 = q) (hz : x.toInt8.toInt32 = z) (k : ownEnds p e below s Q ck sk T (mkF m q Ls (.int z :: S))) : ownEnds p e below s Q ck sk T (mkF m pc Ls (.int x :: S)) := by
  subst hq hz
  exact ownGo (fun _ k => XS.i2b X.here hx rfl hd rfl k) k
theorem ow_i2s (X : Stand p l e R s m args below meth c T locs cells slots) (hx : p.tables.exec = Jvm.exec) {pc q : Nat} {Ls : Array Slot} {S : List Value} {x : Int32} (z : Int32) (hd : decode c.code pc = .ok (.i2s, 1)) (hq : pc + 1 = q) (hz : x.toInt16.toInt32 = z) (k : ownEnds p e below s Q ck sk T (mkF m q Ls (.int z :: S))) : ownEnds p e below s Q ck sk T (mkF m pc Ls (.int x :: S)) := by
  subst hq hz
  exact ownGo (fun _ k => XS.i2s X.here hx rfl hd rfl k) k
theorem ow_i2c (X : Stand p l e R s m args below meth c T locs cells slots) (hx : p.tables.exec = Jvm.exec) {pc q : Nat} {Ls : Array Slot} {S : List Value} {x : Int32} (z : Int32) (hd : decode c.code pc = .ok (.i2c, 1)) (hq : pc + 1 = q) (hz : x.toUInt32.toUInt16.toUInt32.toInt32 = z) (k : ownEnds p e below s Q ck sk T (mkF m q Ls (.int z :: S))) : ownEnds p e below s Q ck sk T (mkF m pc Ls (.int x :: S)) := by
  subst hq hz
  exact ownGo (fun _ k => XS.i2c X.here hx rfl hd rfl k) k
theorem ow_lcmp (X : Stand p l e R s m args below meth c T locs cells slots) (hx : p.tables.exec = Jvm.exec) {pc q : Nat} {Ls : Array Slot} {S : List Value} {x y : Int64} (z : Int32) (hd : decode c.code pc = .ok (.lcmp, 1)) (hq : pc + 1 = q) (hz : Jvm.Free.XT.cmpL x y = z) (k : ownEnds p e below s Q ck sk T (mkF m q Ls (.int z :: S))) : ownEnds p e below s Q ck sk T (mkF m pc Ls (.long y :: .long x :: S)) := by
  subst hq hz
  exact ownGo (fun _ k => Jvm.Free.XT.lcmp X.here hx rfl hd rfl k) k
theorem ow_idiv (X : Stand p l e R s m args below meth c T locs cells slots) (hx : p.tables.exec = Jvm.exec) {pc q : Nat} {Ls : Array Slot} {S : List Value} {x y : Int32} (z : Int32) (hd : decode c.code pc = .ok (.idiv, 1)) (hq : pc + 1 = q) (hy : y ≠ 0) (hz : x / y = z) (k : ownEnds p e below s Q ck sk T (mkF m q Ls (.int z :: S))) : ownEnds p e below s Q ck sk T (mkF m pc Ls (.int y :: .int x :: S)) := by
  subst hq hz
  exact ownGo (fun _ k => XS.idiv X.here hx rfl hd rfl hy k) k
theorem ow_irem (X : Stand p l e R s m args below meth c T locs cells slots) (hx : p.tables.exec = Jvm.exec) {pc q : Nat} {Ls : Array Slot} {S : List Value} {x y : Int32} (z : Int32) (hd : decode c.code pc = .ok (.irem, 1)) (hq : pc + 1 = q) (hy : y ≠ 0) (hz : x % y = z) (k : ownEnds p e below s Q ck sk T (mkF m q Ls (.int z :: S))) : ownEnds p e below s Q ck sk T (mkF m pc Ls (.int y :: .int x :: S)) := by
  subst hq hz
  exact ownGo (fun _ k => iremM X hx rfl hd rfl hy k) k
theorem ow_ldiv (X : Stand p l e R s m args below meth c T locs cells slots) (hx : p.tables.exec = Jvm.exec) {pc q : Nat} {Ls : Array Slot} {S : List Value} {x y : Int64} (z : Int64) (hd : decode c.code pc = .ok (.ldiv, 1)) (hq : pc + 1 = q) (hy : y ≠ 0) (hz : x / y = z) (k : ownEnds p e below s Q ck sk T (mkF m q Ls (.long z :: S))) : ownEnds p e below s Q ck sk T (mkF m pc Ls (.long y :: .long x :: S)) := by
  subst hq hz
  exact ownGo (fun _ k => XS.ldiv X.here hx rfl hd rfl hy k) k
theorem ow_lrem (X : Stand p l e R s m args below meth c T locs cells slots) (hx : p.tables.exec = Jvm.exec) {pc q : Nat} {Ls : Array Slot} {S : List Value} {x y : Int64} (z : Int64) (hd : decode c.code pc = .ok (.lrem, 1)) (hq : pc + 1 = q) (hy : y ≠ 0) (hz : x - (x / y) * y = z) (k : ownEnds p e below s Q ck sk T (mkF m q Ls (.long z :: S))) : ownEnds p e below s Q ck sk T (mkF m pc Ls (.long y :: .long x :: S)) := by
  subst hq hz
  exact ownGo (fun _ k => XS.lrem X.here hx rfl hd rfl hy k) k
theorem ow_iinc (X : Stand p l e R s m args below meth c T locs cells slots) (hx : p.tables.exec = Jvm.exec) {pc q : Nat} {Ls : Array Slot} {S : List Value} {k : Nat} {i : Int} {x : Int32} {L' : Array Slot} (hd : decode c.code pc = .ok (.iinc k i, 3)) (hq : pc + 3 = q) (hl : Ls[k]? = some (.val (.int x))) (hl' : storeLocals Ls k (.int (x + Int32.ofInt i)) = some L') (k : ownEnds p e below s Q ck sk T (mkF m q L' S)) : ownEnds p e below s Q ck sk T (mkF m pc Ls S) := by
  subst hq
  exact ownGo (fun _ k => XS.iinc X.here hx rfl hd hl hl' k) k
theorem ow_dup (X : Stand p l e R s m args below meth c T locs cells slots) (hx : p.tables.exec = Jvm.exec) {pc q : Nat} {Ls : Array Slot} {S : List Value} {v : Value} (hd : decode c.code pc = .ok (.dup, 1)) (hq : pc + 1 = q) (hc : v.category = 1) (k : ownEnds p e below s Q ck sk T (mkF m q Ls (v :: v :: S))) : ownEnds p e below s Q ck sk T (mkF m pc Ls (v :: S)) := by
  subst hq
  exact ownGo (fun _ k => XS.dup X.here hx rfl hd rfl hc k) k
theorem ow_dupX1 (X : Stand p l e R s m args below meth c T locs cells slots) (hx : p.tables.exec = Jvm.exec) {pc q : Nat} {Ls : Array Slot} {S : List Value} {v w : Value} (hd : decode c.code pc = .ok (.dup_x1, 1)) (hq : pc + 1 = q) (hc : v.category = 1) (hc' : w.category = 1) (k : ownEnds p e below s Q ck sk T (mkF m q Ls (v :: w :: v :: S))) : ownEnds p e below s Q ck sk T (mkF m pc Ls (v :: w :: S)) := by
  subst hq
  exact ownGo (fun _ k => XS.dupX1 X.here hx rfl hd rfl hc hc' k) k
theorem ow_dup2 (X : Stand p l e R s m args below meth c T locs cells slots) (hx : p.tables.exec = Jvm.exec) {pc q : Nat} {Ls : Array Slot} {S : List Value} {v w : Value} (hd : decode c.code pc = .ok (.dup2, 1)) (hq : pc + 1 = q) (hc : v.category = 1) (hc' : w.category = 1) (k : ownEnds p e below s Q ck sk T (mkF m q Ls (v :: w :: v :: w :: S))) : ownEnds p e below s Q ck sk T (mkF m pc Ls (v :: w :: S)) := by
  subst hq
  exact ownGo (fun _ k => Jvm.Free.XT.dup2 X.here hx rfl hd rfl hc hc' k) k
theorem ow_dup2L (X : Stand p l e R s m args below meth c T locs cells slots) (hx : p.tables.exec = Jvm.exec) {pc q : Nat} {Ls : Array Slot} {S : List Value} {v : Int64} (hd : decode c.code pc = .ok (.dup2, 1)) (hq : pc + 1 = q) (k : ownEnds p e below s Q ck sk T (mkF m q Ls (.long v :: .long v :: S))) : ownEnds p e below s Q ck sk T (mkF m pc Ls (.long v :: S)) := by
  subst hq
  exact ownGo (fun _ k => Jvm.Free.XT.dup2L X.here hx rfl hd rfl k) k
theorem ow_pop (X : Stand p l e R s m args below meth c T locs cells slots) (hx : p.tables.exec = Jvm.exec) {pc q : Nat} {Ls : Array Slot} {S : List Value} {v : Value} (hd : decode c.code pc = .ok (.pop, 1)) (hq : pc + 1 = q) (hc : v.category = 1) (k : ownEnds p e below s Q ck sk T (mkF m q Ls S)) : ownEnds p e below s Q ck sk T (mkF m pc Ls (v :: S)) := by
  subst hq
  exact ownGo (fun _ k => XS.pop X.here hx rfl hd rfl hc k) k
theorem ow_aconstNull (X : Stand p l e R s m args below meth c T locs cells slots) (hx : p.tables.exec = Jvm.exec) {pc q : Nat} {Ls : Array Slot} {S : List Value}  (hd : decode c.code pc = .ok (.aconst_null, 1)) (hq : pc + 1 = q) (k : ownEnds p e below s Q ck sk T (mkF m q Ls (.null :: S))) : ownEnds p e below s Q ck sk T (mkF m pc Ls S) := by
  subst hq
  exact ownGo (fun _ k => XS.aconstNull X.here hx rfl hd k) k
theorem ow_goto (X : Stand p l e R s m args below meth c T locs cells slots) (hx : p.tables.exec = Jvm.exec) {pc q : Nat} {Ls : Array Slot} {S : List Value} {o : Int} (hd : decode c.code pc = .ok (.goto o, 3)) (ho : 0 ≤ (pc : Int) + o) (hp : ((pc : Int) + o).toNat = q) (k : ownEnds p e below s Q ck sk T (mkF m q Ls S)) : ownEnds p e below s Q ck sk T (mkF m pc Ls S) :=
  ownGo (fun _ k => XS.goto X.here hx rfl rfl hd ho hp k) k
theorem ow_ifYes (X : Stand p l e R s m args below meth c T locs cells slots) (hx : p.tables.exec = Jvm.exec) {pc q : Nat} {Ls : Array Slot} {S : List Value} {cd : ClassFile.Cond} {o : Int} {x : Int32} (hd : decode c.code pc = .ok (.ifCond cd o, 3)) (hc : ifCond.holds cd x = true) (ho : 0 ≤ (pc : Int) + o) (hp : ((pc : Int) + o).toNat = q) (k : ownEnds p e below s Q ck sk T (mkF m q Ls S)) : ownEnds p e below s Q ck sk T (mkF m pc Ls (.int x :: S)) :=
  ownGo (fun _ k => XS.ifYes X.here hx rfl rfl hd rfl hc ho hp k) k
theorem ow_ifNo (X : Stand p l e R s m args below meth c T locs cells slots) (hx : p.tables.exec = Jvm.exec) {pc q : Nat} {Ls : Array Slot} {S : List Value} {cd : ClassFile.Cond} {o : Int} {x : Int32} (hd : decode c.code pc = .ok (.ifCond cd o, 3)) (hq : pc + 3 = q) (hc : ifCond.holds cd x = false) (k : ownEnds p e below s Q ck sk T (mkF m q Ls S)) : ownEnds p e below s Q ck sk T (mkF m pc Ls (.int x :: S)) := by
  subst hq
  exact ownGo (fun _ k => XS.ifNo X.here hx rfl hd rfl hc k) k
theorem ow_icmpYes (X : Stand p l e R s m args below meth c T locs cells slots) (hx : p.tables.exec = Jvm.exec) {pc q : Nat} {Ls : Array Slot} {S : List Value} {cd : ClassFile.Cond} {o : Int} {x y : Int32} (hd : decode c.code pc = .ok (.if_icmp cd o, 3)) (hc : if_icmp.holds cd x y = true) (ho : 0 ≤ (pc : Int) + o) (hp : ((pc : Int) + o).toNat = q) (k : ownEnds p e below s Q ck sk T (mkF m q Ls S)) : ownEnds p e below s Q ck sk T (mkF m pc Ls (.int y :: .int x :: S)) :=
  ownGo (fun _ k => XS.icmpYes X.here hx rfl rfl hd rfl hc ho hp k) k
theorem ow_icmpNo (X : Stand p l e R s m args below meth c T locs cells slots) (hx : p.tables.exec = Jvm.exec) {pc q : Nat} {Ls : Array Slot} {S : List Value} {cd : ClassFile.Cond} {o : Int} {x y : Int32} (hd : decode c.code pc = .ok (.if_icmp cd o, 3)) (hq : pc + 3 = q) (hc : if_icmp.holds cd x y = false) (k : ownEnds p e below s Q ck sk T (mkF m q Ls S)) : ownEnds p e below s Q ck sk T (mkF m pc Ls (.int y :: .int x :: S)) := by
  subst hq
  exact ownGo (fun _ k => XS.icmpNo X.here hx rfl hd rfl hc k) k
end OwnSteps
theorem own_nn {x : Int32} (h : 0 ≤ x.toInt) : x.toInt = (x.toBitVec.toNat : Int) ∧ x.toBitVec.toNat < 2147483648 := by
  have h1 : x.toInt = x.toBitVec.toInt := rfl
  have h2 := x.toBitVec.isLt
  rw [BitVec.toInt_eq_toNat_cond] at h1
  split at h1 <;> omega
theorem own_of_small {x : Int32} (h : x.toBitVec.toNat < 2147483648) : x.toInt = (x.toBitVec.toNat : Int) := by
  have h1 : x.toInt = x.toBitVec.toInt := rfl
  rw [BitVec.toInt_eq_toNat_cond] at h1
  split at h1 <;> omega
theorem own_or {x y : Int32} (k : Nat) (hk : k ≤ 31) (hx : 0 ≤ x.toInt) (hxm : x.toInt % ((2 ^ k : Nat) : Int) = 0) (hy : 0 ≤ y.toInt) (hyl : y.toInt < ((2 ^ k : Nat) : Int)) : (x ||| y).toInt = x.toInt + y.toInt := by
  obtain ⟨ex, lx⟩ := own_nn hx
  obtain ⟨ey, ly⟩ := own_nn hy
  have hp : 0 < 2 ^ k := Nat.two_pow_pos k
  have hX : x.toBitVec.toNat % 2 ^ k = 0 := by
    rw [ex] at hxm
    exact_mod_cast hxm
  have hY : y.toBitVec.toNat < 2 ^ k := by rw [ey] at hyl; exact_mod_cast hyl
  have hdvd : 2 ^ k * (x.toBitVec.toNat / 2 ^ k) = x.toBitVec.toNat := by
    have := Nat.div_add_mod x.toBitVec.toNat (2 ^ k)
    omega
  have hor : (x ||| y).toBitVec.toNat = x.toBitVec.toNat + y.toBitVec.toNat := by
    rw [Int32.toBitVec_or, BitVec.toNat_or]
    have := Nat.two_pow_add_eq_or_of_lt hY (x.toBitVec.toNat / 2 ^ k)
    rw [hdvd] at this
    exact this.symm
  have hlt : x.toBitVec.toNat + y.toBitVec.toNat < 2147483648 := by
    have h31 : 2 ^ k * 2 ^ (31 - k) = 2147483648 := by rw [← Nat.pow_add, Nat.add_sub_cancel' hk]
    have h1 : x.toBitVec.toNat / 2 ^ k < 2 ^ (31 - k) := by
      rw [Nat.div_lt_iff_lt_mul hp, Nat.mul_comm, h31]; exact lx
    have h2 : 2 ^ k * (x.toBitVec.toNat / 2 ^ k + 1) ≤ 2 ^ k * 2 ^ (31 - k) := Nat.mul_le_mul_left _ h1
    rw [Nat.mul_add, hdvd, h31] at h2
    omega
  rw [own_of_small (by rw [hor]; exact hlt), hor, ex, ey]
  omega
theorem own_b255 {x b : Int32} (h : x.toInt8.toInt32 = b) : (b &&& (255 : Int32)).toInt = x.toInt % 256 := by
  have h1 := Jvm.Kit.i32_mask b 255 (k := 8) (by decide) (by decide)
  rw [h1, ← h, Int8.toInt_toInt32, Int32.toInt_toInt8]
  exact Int.bmod_emod
theorem own_b63 {x b : Int32} (h : x.toInt8.toInt32 = b) : (b &&& (63 : Int32)).toInt = x.toInt % 64 := by
  have h1 := Jvm.Kit.i32_mask b 63 (k := 6) (by decide) (by decide)
  have h2 := own_b255 h
  have h3 := Jvm.Kit.i32_mask b 255 (k := 8) (by decide) (by decide)
  rw [h1]
  omega

def own_sq (l c1 c2 c3 av : Int) : Int :=
  if l < 128 then 1
  else if l < 194 then 0
  else if l ≤ 223 then (if av < 2 ∨ c1 < 128 ∨ 191 < c1 then 0 else 2)
  else if l ≤ 239 then (if av < 3 ∨ (l = 224 ∧ c1 < 160) ∨ c1 < 128 ∨ (l = 237 ∧ 159 < c1) ∨ 191 < c1 ∨ c2 < 128 ∨ 191 < c2 then 0 else 3)
  else if l ≤ 244 then (if av < 4 ∨ (l = 240 ∧ c1 < 144) ∨ c1 < 128 ∨ (l = 244 ∧ 143 < c1) ∨ 191 < c1 ∨ c2 < 128 ∨ 191 < c2 ∨ c3 < 128 ∨ 191 < c3 then 0 else 4)
  else 0
def own_H (l ln lo hi : Int) : Prop := (ln = 1 ∧ l < 128) ∨ (ln = 2 ∧ 194 ≤ l ∧ l ≤ 223 ∧ lo = 128 ∧ hi = 191) ∨ (ln = 3 ∧ 224 ≤ l ∧ l ≤ 239 ∧ ((l = 224 ∧ lo = 160) ∨ (¬ l = 224 ∧ lo = 128)) ∧ ((l = 237 ∧ hi = 159) ∨ (¬ l = 237 ∧ hi = 191))) ∨ (ln = 4 ∧ 240 ≤ l ∧ l ≤ 244 ∧ ((l = 240 ∧ lo = 144) ∨ (¬ l = 240 ∧ lo = 128)) ∧ ((l = 244 ∧ hi = 143) ∨ (¬ l = 244 ∧ hi = 191)))
theorem own_Hln {l lo hi : Int} {ln : Int32} (h : own_H l ln.toInt lo hi) : ln = (1 : Int32) ∨ ln = (2 : Int32) ∨ ln = (3 : Int32) ∨ ln = (4 : Int32) := by
  unfold own_H at h
  simp only [← Int32.toInt_inj, Int32.reduceToInt]
  omega
theorem own_small {p : Int32} {n : Nat} (h1 : 0 ≤ p.toInt) (h2 : p.toInt < n) (hn : n ≤ 2147483648) : ∃ k : Fin n, p = Int32.ofNat k.val := by
  refine ⟨⟨p.toInt.toNat, by omega⟩, ?_⟩
  apply Int32.toInt_inj.mp
  rw [Int32.toInt_ofNat_of_lt (by simp only; omega)]
  simp only
  omega
theorem own_hk : ∀ k : Fin 256, ((Int32.ofNat k.val) &&& (224 : Int32)).toInt = (Int32.ofNat k.val).toInt - (Int32.ofNat k.val).toInt % 32 ∧ ((Int32.ofNat k.val) &&& (240 : Int32)).toInt = (Int32.ofNat k.val).toInt - (Int32.ofNat k.val).toInt % 16 ∧ ((Int32.ofNat k.val) &&& (248 : Int32)).toInt = (Int32.ofNat k.val).toInt - (Int32.ofNat k.val).toInt % 8 ∧ ((Int32.ofNat k.val) &&& (192 : Int32)).toInt = (Int32.ofNat k.val).toInt - (Int32.ofNat k.val).toInt % 64 := by decide +kernel
theorem own_h224 {p : Int32} (h : 0 ≤ p.toInt ∧ p.toInt < 256) : (p &&& (224 : Int32)).toInt = p.toInt - p.toInt % 32 := by
  obtain ⟨k, rfl⟩ := own_small (n := 256) h.1 h.2 (by decide); exact (own_hk k).1
theorem own_h240 {p : Int32} (h : 0 ≤ p.toInt ∧ p.toInt < 256) : (p &&& (240 : Int32)).toInt = p.toInt - p.toInt % 16 := by
  obtain ⟨k, rfl⟩ := own_small (n := 256) h.1 h.2 (by decide); exact (own_hk k).2.1
theorem own_h248 {p : Int32} (h : 0 ≤ p.toInt ∧ p.toInt < 256) : (p &&& (248 : Int32)).toInt = p.toInt - p.toInt % 8 := by
  obtain ⟨k, rfl⟩ := own_small (n := 256) h.1 h.2 (by decide); exact (own_hk k).2.2.1
theorem own_h192 {p : Int32} (h : 0 ≤ p.toInt ∧ p.toInt < 256) : (p &&& (192 : Int32)).toInt = p.toInt - p.toInt % 64 := by
  obtain ⟨k, rfl⟩ := own_small (n := 256) h.1 h.2 (by decide); exact (own_hk k).2.2.2
theorem own_cp2 {p0 p1 v : Int32} (h0 : 0 ≤ p0.toInt ∧ p0.toInt < 256) (h1 : 0 ≤ p1.toInt ∧ p1.toInt < 256) (e : (((p0 &&& (31 : Int32)) <<< ((6 : Int32) &&& 31)) ||| (p1 &&& (63 : Int32))) = v) : v.toInt = (p0.toInt % 32) * 64 + p1.toInt % 64 := by
  have m0 := Jvm.Kit.i32_mask p0 31 (k := 5) (by decide) (by decide)
  have m1 := Jvm.Kit.i32_mask p1 63 (k := 6) (by decide) (by decide)
  have s0 := Jvm.Kit.i32_shl (p0 &&& (31 : Int32)) ((6 : Int32) &&& 31) (k := 6) (by decide) (by omega) (by omega)
  rw [← e, own_or 6 (by decide) (by omega) (by omega) (by omega) (by omega), s0, m0, m1]
  rfl
theorem own_cp3 {p0 p1 p2 v : Int32} (h0 : 0 ≤ p0.toInt ∧ p0.toInt < 256) (h1 : 0 ≤ p1.toInt ∧ p1.toInt < 256) (h2 : 0 ≤ p2.toInt ∧ p2.toInt < 256) (e : ((((p0 &&& (15 : Int32)) <<< ((12 : Int32) &&& 31)) ||| ((p1 &&& (63 : Int32)) <<< ((6 : Int32) &&& 31))) ||| (p2 &&& (63 : Int32))) = v) : v.toInt = (p0.toInt % 16) * 4096 + (p1.toInt % 64) * 64 + p2.toInt % 64 := by
  have m0 := Jvm.Kit.i32_mask p0 15 (k := 4) (by decide) (by decide)
  have m1 := Jvm.Kit.i32_mask p1 63 (k := 6) (by decide) (by decide)
  have m2 := Jvm.Kit.i32_mask p2 63 (k := 6) (by decide) (by decide)
  have s0 := Jvm.Kit.i32_shl (p0 &&& (15 : Int32)) ((12 : Int32) &&& 31) (k := 12) (by decide) (by omega) (by omega)
  have s1 := Jvm.Kit.i32_shl (p1 &&& (63 : Int32)) ((6 : Int32) &&& 31) (k := 6) (by decide) (by omega) (by omega)
  have o1 := own_or (x := (p0 &&& (15 : Int32)) <<< ((12 : Int32) &&& 31)) (y := (p1 &&& (63 : Int32)) <<< ((6 : Int32) &&& 31)) 12 (by decide) (by omega) (by omega) (by omega) (by omega)
  rw [← e, own_or 6 (by decide) (by omega) (by omega) (by omega) (by omega), o1, s0, s1, m0, m1, m2]
  omega
theorem own_cp4 {p0 p1 p2 p3 v : Int32} (h0 : 0 ≤ p0.toInt ∧ p0.toInt < 256) (h1 : 0 ≤ p1.toInt ∧ p1.toInt < 256) (h2 : 0 ≤ p2.toInt ∧ p2.toInt < 256) (h3 : 0 ≤ p3.toInt ∧ p3.toInt < 256) (e : (((((p0 &&& (7 : Int32)) <<< ((18 : Int32) &&& 31)) ||| ((p1 &&& (63 : Int32)) <<< ((12 : Int32) &&& 31))) ||| ((p2 &&& (63 : Int32)) <<< ((6 : Int32) &&& 31))) ||| (p3 &&& (63 : Int32))) = v) : v.toInt = (p0.toInt % 8) * 262144 + (p1.toInt % 64) * 4096 + (p2.toInt % 64) * 64 + p3.toInt % 64 := by
  have m0 := Jvm.Kit.i32_mask p0 7 (k := 3) (by decide) (by decide)
  have m1 := Jvm.Kit.i32_mask p1 63 (k := 6) (by decide) (by decide)
  have m2 := Jvm.Kit.i32_mask p2 63 (k := 6) (by decide) (by decide)
  have m3 := Jvm.Kit.i32_mask p3 63 (k := 6) (by decide) (by decide)
  have s0 := Jvm.Kit.i32_shl (p0 &&& (7 : Int32)) ((18 : Int32) &&& 31) (k := 18) (by decide) (by omega) (by omega)
  have s1 := Jvm.Kit.i32_shl (p1 &&& (63 : Int32)) ((12 : Int32) &&& 31) (k := 12) (by decide) (by omega) (by omega)
  have s2 := Jvm.Kit.i32_shl (p2 &&& (63 : Int32)) ((6 : Int32) &&& 31) (k := 6) (by decide) (by omega) (by omega)
  have o1 := own_or (x := (p0 &&& (7 : Int32)) <<< ((18 : Int32) &&& 31)) (y := (p1 &&& (63 : Int32)) <<< ((12 : Int32) &&& 31)) 18 (by decide) (by omega) (by omega) (by omega) (by omega)
  have o2 := own_or (x := ((p0 &&& (7 : Int32)) <<< ((18 : Int32) &&& 31)) ||| ((p1 &&& (63 : Int32)) <<< ((12 : Int32) &&& 31))) (y := (p2 &&& (63 : Int32)) <<< ((6 : Int32) &&& 31)) 12 (by decide) (by omega) (by omega) (by omega) (by omega)
  rw [← e, own_or 6 (by decide) (by omega) (by omega) (by omega) (by omega), o2, o1, s0, s1, s2, m0, m1, m2, m3]
  omega
theorem own_m255 {x v : Int32} (h : (x &&& (255 : Int32)) = v) : v.toInt = x.toInt % 256 := by
  rw [← h]; exact Jvm.Kit.i32_mask x 255 (k := 8) (by decide) (by decide)
theorem own_r255 {x v : Int32} (h : (x &&& (255 : Int32)) = v) : 0 ≤ v.toInt ∧ v.toInt < 256 := by
  have := own_m255 h; omega
theorem own_bit {p v : Int32} (h : (p &&& (1 : Int32)) = v) : v = (0 : Int32) ∨ v = (1 : Int32) := by
  have h1 := Jvm.Kit.i32_mask p 1 (k := 1) (by decide) (by decide)
  rw [h] at h1
  simp only [← Int32.toInt_inj, Int32.reduceToInt]
  omega
theorem own_av {p v : Int32} (h : ((p &&& (3 : Int32)) + (1 : Int32)) = v) : v = (1 : Int32) ∨ v = (2 : Int32) ∨ v = (3 : Int32) ∨ v = (4 : Int32) := by
  have h1 := Jvm.Kit.i32_mask p 3 (k := 2) (by decide) (by decide)
  have h2 := Jvm.Kit.i32_add (p := p &&& (3 : Int32)) (q := 1) (by simp only [Int32.reduceToInt]; omega) (by simp only [Int32.reduceToInt]; omega)
  rw [h, h1] at h2
  simp only [← Int32.toInt_inj, Int32.reduceToInt] at h2 ⊢
  omega
theorem own_pn_XmlChars : plainName "com/example/descend/descend/XmlChars" = true := by first | (simp [plainName, overriddenIn]; done) | decide +kernel
theorem own_d1_0 : decode prog_24_method_14_code 0 = .ok (.aload_n 0, 1) := by decide +kernel
theorem own_d1_1 : decode prog_24_method_14_code 1 = .ok (.iload_n 1, 1) := by decide +kernel
theorem own_d1_2 : decode prog_24_method_14_code 2 = .ok (.baload, 1) := by decide +kernel
theorem own_d1_3 : decode prog_24_method_14_code 3 = .ok (.sipush 255, 3) := by decide +kernel
theorem own_d1_6 : decode prog_24_method_14_code 6 = .ok (.iand, 1) := by decide +kernel
theorem own_d1_7 : decode prog_24_method_14_code 7 = .ok (.istore_n 3, 1) := by decide +kernel
theorem own_d1_8 : decode prog_24_method_14_code 8 = .ok (.sipush 128, 3) := by decide +kernel
theorem own_d1_11 : decode prog_24_method_14_code 11 = .ok (.istore 5, 2) := by decide +kernel
theorem own_d1_13 : decode prog_24_method_14_code 13 = .ok (.sipush 191, 3) := by decide +kernel
theorem own_d1_16 : decode prog_24_method_14_code 16 = .ok (.istore 6, 2) := by decide +kernel
theorem own_d1_165 : decode prog_24_method_14_code 165 = .ok (.iload_n 1, 1) := by decide +kernel
theorem own_d1_166 : decode prog_24_method_14_code 166 = .ok (.iload 4, 2) := by decide +kernel
theorem own_d1_168 : decode prog_24_method_14_code 168 = .ok (.iadd, 1) := by decide +kernel
theorem own_d1_169 : decode prog_24_method_14_code 169 = .ok (.iload_n 2, 1) := by decide +kernel
theorem own_d1_170 : decode prog_24_method_14_code 170 = .ok (.if_icmp .le 5, 3) := by decide +kernel
theorem own_d1_175 : decode prog_24_method_14_code 175 = .ok (.iconst 1, 1) := by decide +kernel
theorem own_d1_176 : decode prog_24_method_14_code 176 = .ok (.istore 7, 2) := by decide +kernel
theorem own_d1_178 : decode prog_24_method_14_code 178 = .ok (.iload 7, 2) := by decide +kernel
theorem own_d1_180 : decode prog_24_method_14_code 180 = .ok (.iload 4, 2) := by decide +kernel
theorem own_d1_182 : decode prog_24_method_14_code 182 = .ok (.if_icmp .ge 69, 3) := by decide +kernel
theorem own_d1_251 : decode prog_24_method_14_code 251 = .ok (.iload 4, 2) := by decide +kernel
theorem own_d1_253 : decode prog_24_method_14_code 253 = .ok (.ireturn, 1) := by decide +kernel
theorem own_d1_173 : decode prog_24_method_14_code 173 = .ok (.iconst 0, 1) := by decide +kernel
theorem own_d1_174 : decode prog_24_method_14_code 174 = .ok (.ireturn, 1) := by decide +kernel
theorem own_d1_18 : decode prog_24_method_14_code 18 = .ok (.iload_n 3, 1) := by decide +kernel
theorem own_d1_19 : decode prog_24_method_14_code 19 = .ok (.sipush 128, 3) := by decide +kernel
theorem own_d1_22 : decode prog_24_method_14_code 22 = .ok (.if_icmp .ge 9, 3) := by decide +kernel
theorem own_d1_25 : decode prog_24_method_14_code 25 = .ok (.iconst 1, 1) := by decide +kernel
theorem own_d1_26 : decode prog_24_method_14_code 26 = .ok (.istore 4, 2) := by decide +kernel
theorem own_d1_28 : decode prog_24_method_14_code 28 = .ok (.goto 137, 3) := by decide +kernel
theorem own_d1_31 : decode prog_24_method_14_code 31 = .ok (.iload_n 3, 1) := by decide +kernel
theorem own_d1_32 : decode prog_24_method_14_code 32 = .ok (.sipush 194, 3) := by decide +kernel
theorem own_d1_35 : decode prog_24_method_14_code 35 = .ok (.if_icmp .lt 16, 3) := by decide +kernel
theorem own_d1_51 : decode prog_24_method_14_code 51 = .ok (.iload_n 3, 1) := by decide +kernel
theorem own_d1_52 : decode prog_24_method_14_code 52 = .ok (.sipush 224, 3) := by decide +kernel
theorem own_d1_55 : decode prog_24_method_14_code 55 = .ok (.if_icmp .lt 52, 3) := by decide +kernel
theorem own_d1_107 : decode prog_24_method_14_code 107 = .ok (.iload_n 3, 1) := by decide +kernel
theorem own_d1_108 : decode prog_24_method_14_code 108 = .ok (.sipush 240, 3) := by decide +kernel
theorem own_d1_111 : decode prog_24_method_14_code 111 = .ok (.if_icmp .lt 52, 3) := by decide +kernel
theorem own_d1_163 : decode prog_24_method_14_code 163 = .ok (.iconst 0, 1) := by decide +kernel
theorem own_d1_164 : decode prog_24_method_14_code 164 = .ok (.ireturn, 1) := by decide +kernel
theorem own_d1_114 : decode prog_24_method_14_code 114 = .ok (.iload_n 3, 1) := by decide +kernel
theorem own_d1_115 : decode prog_24_method_14_code 115 = .ok (.sipush 244, 3) := by decide +kernel
theorem own_d1_118 : decode prog_24_method_14_code 118 = .ok (.if_icmp .gt 45, 3) := by decide +kernel
theorem own_d1_121 : decode prog_24_method_14_code 121 = .ok (.iconst 4, 1) := by decide +kernel
theorem own_d1_122 : decode prog_24_method_14_code 122 = .ok (.istore 4, 2) := by decide +kernel
theorem own_d1_124 : decode prog_24_method_14_code 124 = .ok (.iload_n 3, 1) := by decide +kernel
theorem own_d1_125 : decode prog_24_method_14_code 125 = .ok (.sipush 240, 3) := by decide +kernel
theorem own_d1_128 : decode prog_24_method_14_code 128 = .ok (.if_icmp .ne 9, 3) := by decide +kernel
theorem own_d1_131 : decode prog_24_method_14_code 131 = .ok (.sipush 144, 3) := by decide +kernel
theorem own_d1_134 : decode prog_24_method_14_code 134 = .ok (.goto 6, 3) := by decide +kernel
theorem own_d1_140 : decode prog_24_method_14_code 140 = .ok (.istore 5, 2) := by decide +kernel
theorem own_d1_142 : decode prog_24_method_14_code 142 = .ok (.iload_n 3, 1) := by decide +kernel
theorem own_d1_143 : decode prog_24_method_14_code 143 = .ok (.sipush 244, 3) := by decide +kernel
theorem own_d1_146 : decode prog_24_method_14_code 146 = .ok (.if_icmp .ne 9, 3) := by decide +kernel
theorem own_d1_149 : decode prog_24_method_14_code 149 = .ok (.sipush 143, 3) := by decide +kernel
theorem own_d1_152 : decode prog_24_method_14_code 152 = .ok (.goto 6, 3) := by decide +kernel
theorem own_d1_158 : decode prog_24_method_14_code 158 = .ok (.istore 6, 2) := by decide +kernel
theorem own_d1_160 : decode prog_24_method_14_code 160 = .ok (.goto 5, 3) := by decide +kernel
theorem own_d1_155 : decode prog_24_method_14_code 155 = .ok (.sipush 191, 3) := by decide +kernel
theorem own_d1_137 : decode prog_24_method_14_code 137 = .ok (.sipush 128, 3) := by decide +kernel
theorem own_d1_58 : decode prog_24_method_14_code 58 = .ok (.iload_n 3, 1) := by decide +kernel
theorem own_d1_59 : decode prog_24_method_14_code 59 = .ok (.sipush 239, 3) := by decide +kernel
theorem own_d1_62 : decode prog_24_method_14_code 62 = .ok (.if_icmp .gt 45, 3) := by decide +kernel
theorem own_d1_65 : decode prog_24_method_14_code 65 = .ok (.iconst 3, 1) := by decide +kernel
theorem own_d1_66 : decode prog_24_method_14_code 66 = .ok (.istore 4, 2) := by decide +kernel
theorem own_d1_68 : decode prog_24_method_14_code 68 = .ok (.iload_n 3, 1) := by decide +kernel
theorem own_d1_69 : decode prog_24_method_14_code 69 = .ok (.sipush 224, 3) := by decide +kernel
theorem own_d1_72 : decode prog_24_method_14_code 72 = .ok (.if_icmp .ne 9, 3) := by decide +kernel
theorem own_d1_75 : decode prog_24_method_14_code 75 = .ok (.sipush 160, 3) := by decide +kernel
theorem own_d1_78 : decode prog_24_method_14_code 78 = .ok (.goto 6, 3) := by decide +kernel
theorem own_d1_84 : decode prog_24_method_14_code 84 = .ok (.istore 5, 2) := by decide +kernel
theorem own_d1_86 : decode prog_24_method_14_code 86 = .ok (.iload_n 3, 1) := by decide +kernel
theorem own_d1_87 : decode prog_24_method_14_code 87 = .ok (.sipush 237, 3) := by decide +kernel
theorem own_d1_90 : decode prog_24_method_14_code 90 = .ok (.if_icmp .ne 9, 3) := by decide +kernel
theorem own_d1_93 : decode prog_24_method_14_code 93 = .ok (.sipush 159, 3) := by decide +kernel
theorem own_d1_96 : decode prog_24_method_14_code 96 = .ok (.goto 6, 3) := by decide +kernel
theorem own_d1_102 : decode prog_24_method_14_code 102 = .ok (.istore 6, 2) := by decide +kernel
theorem own_d1_104 : decode prog_24_method_14_code 104 = .ok (.goto 61, 3) := by decide +kernel
theorem own_d1_99 : decode prog_24_method_14_code 99 = .ok (.sipush 191, 3) := by decide +kernel
theorem own_d1_81 : decode prog_24_method_14_code 81 = .ok (.sipush 128, 3) := by decide +kernel
theorem own_d1_38 : decode prog_24_method_14_code 38 = .ok (.iload_n 3, 1) := by decide +kernel
theorem own_d1_39 : decode prog_24_method_14_code 39 = .ok (.sipush 223, 3) := by decide +kernel
theorem own_d1_42 : decode prog_24_method_14_code 42 = .ok (.if_icmp .gt 9, 3) := by decide +kernel
theorem own_d1_45 : decode prog_24_method_14_code 45 = .ok (.iconst 2, 1) := by decide +kernel
theorem own_d1_46 : decode prog_24_method_14_code 46 = .ok (.istore 4, 2) := by decide +kernel
theorem own_d1_48 : decode prog_24_method_14_code 48 = .ok (.goto 117, 3) := by decide +kernel
theorem own_ef1_seq_0_1 (m : MethodId) (a0 : Addr) : entryFrame m #[(.ref a0), (.int (0 : Int32)), (.int (1 : Int32))] 11 = mkF m 0 #[rv a0, iv (0 : Int32), iv (1 : Int32), .unset, .unset, .unset, .unset, .unset, .unset, .unset, .unset] [] := by first | (simp [entryFrame, mkF, argsToLocals, Value.category]; done) | rfl
def Q_seq_0_1 (Z : State) (a0 : Addr) (g : Nat → Int32) (h0 : Heap) (n0 : Nat) (v : Option Value) (h : Heap) (L : List Loc) : Prop := ∃ (r : Int32), v = some (.int r) ∧ Fr n0 L ∧ h = h0 ∧ (r.toInt = own_sq ((g 0) &&& (255 : Int32)).toInt ((g 1) &&& (255 : Int32)).toInt ((g 2) &&& (255 : Int32)).toInt ((g 3) &&& (255 : Int32)).toInt 1)
set_option maxRecDepth 65536 in
set_option maxHeartbeats 40000000 in
theorem rm_seq_0_1 (l : Launch) (Z : State) (av0 : Array Value) (hw : ∀ d ∈ tables_1, d.before av0 Z = true) (ws : List Jvm.Cond) (a0 : Addr) (g : Nat → Int32) (h0 : Heap) (n0 : Nat) (Z0 : n0 ≤ h0.size) (HF0 : ownAI Z h0 a0 .byte 5 g) :
    MetFree l (⟨"com/example/descend/descend/XmlChars", "sequenceLength", "([BII)I"⟩ : MethodName) (head1 (Jvm.Cond.code (⟨"com/example/descend/descend/XmlChars", "sequenceLength", "([BII)I"⟩ : MethodName) prog_24_method_14_code 11 (some .int) :: ws) ({ frames := 0, cells := 0, slots := 0, locals := 0 } : Room)) (fun a U => a = #[(.ref a0), (.int (0 : Int32)), (.int (1 : Int32))] ∧ Z.Warmed39 U.vm ∧ U.heap = h0) (fun _ _ _ _ _ => True) (fun _ U o U' => ∃ v L, o = .returned v ∧ (Q_seq_0_1 Z a0 g h0 n0) v U'.heap L ∧ FrameEnd U o U' L ({ frames := 0, cells := 0, slots := 0, locals := 0 } : Room).cells ({ frames := 0, cells := 0, slots := 0, locals := 0 } : Room).slots) := by
  refine MetFree.of_bodySF (plainFor_of_name own_pn_XmlChars) hisR ?_
  intro p e s m args below meth c s₁ Bd hml0 hP hK
  obtain ⟨rfl, hZ, hh⟩ := hP
  have hx := Bd.exec
  have hby := Bd.bytes
  have hml : c.maxLocals = 11 := hml0
  have hown : s.vm.findClass "com/example/descend/descend/XmlChars" = some m.cls := findClass_of_methodNamed Bd.named
  have hnm := (name_of_methodNamed Bd.named Bd.method).1
  have hlk : meth.locks = false := BodyLoose.notSynchronized Bd
  have X0 : Stand p l e ({ frames := 0, cells := 0, slots := 0, locals := 0 } : Room) s m #[(.ref a0), (.int (0 : Int32)), (.int (1 : Int32))] below meth c s₁ [] 0 0 := Stand.of_body Bd
  have e0 : s₁.heap = h0 := by rw [← hh, Bd.state]; rfl
  have N0 := Fr.nil n0
  have K0 : Keep h0 h0 [] := Keep.refl _ _
  show ownEnds p e below s (Q_seq_0_1 Z a0 g h0 n0) ({ frames := 0, cells := 0, slots := 0, locals := 0 } : Room).cells ({ frames := 0, cells := 0, slots := 0, locals := 0 } : Room).slots s₁ (entryFrame m #[(.ref a0), (.int (0 : Int32)), (.int (1 : Int32))] 11)
  refine ownCast (own_ef1_seq_0_1 m a0) ?_
  refine ow_aloadN (q := 1) X0 hx (hb hby own_d1_0) rfl rfl rfl ?_
  refine ow_iloadN (q := 2) X0 hx (hb hby own_d1_1) rfl rfl ?_
  refine ownGo (T' := s₁) (f' := (mkF m 3 #[rv a0, iv (0 : Int32), iv (1 : Int32), .unset, .unset, .unset, .unset, .unset, .unset, .unset, .unset] [(.int (g 0))])) (ownBaload HF0 X0 hx hZ e0 (j := (0 : Int32)) (by unfold ownIn; decide) (g := (mkF m 2 #[rv a0, iv (0 : Int32), iv (1 : Int32), .unset, .unset, .unset, .unset, .unset, .unset, .unset, .unset] [(.int (0 : Int32)), (.ref a0)])) rfl rfl (hb hby own_d1_2)) ?_
  generalize hv_v1 : (g 0) = v1
  refine ow_sipush (q := 6) X0 hx (255 : Int32) (hb hby own_d1_3) rfl rfl ?_
  refine ow_iand (q := 7) X0 hx _ (hb hby own_d1_6) rfl rfl ?_
  generalize hv_v2 : (v1 &&& (255 : Int32)) = v2
  refine ow_istoreN (q := 8) X0 hx (L' := #[rv a0, iv (0 : Int32), iv (1 : Int32), iv v2, .unset, .unset, .unset, .unset, .unset, .unset, .unset]) (hb hby own_d1_7) rfl rfl ?_
  refine ow_sipush (q := 11) X0 hx (128 : Int32) (hb hby own_d1_8) rfl rfl ?_
  refine ow_istore (q := 13) X0 hx (L' := #[rv a0, iv (0 : Int32), iv (1 : Int32), iv v2, .unset, iv (128 : Int32), .unset, .unset, .unset, .unset, .unset]) (hb hby own_d1_11) rfl rfl ?_
  refine ow_sipush (q := 16) X0 hx (191 : Int32) (hb hby own_d1_13) rfl rfl ?_
  refine ow_istore (q := 18) X0 hx (L' := #[rv a0, iv (0 : Int32), iv (1 : Int32), iv v2, .unset, iv (128 : Int32), iv (191 : Int32), .unset, .unset, .unset, .unset]) (hb hby own_d1_16) rfl rfl ?_
  have cut165_3 : ∀ (ln : Int32) (lo : Int32) (hi : Int32) (Tc3 : State) (lc3 : List Loc), Stand p l e ({ frames := 0, cells := 0, slots := 0, locals := 0 } : Room) s m #[(.ref a0), (.int (0 : Int32)), (.int (1 : Int32))] below meth c Tc3 lc3 0 0 → Tc3.heap = h0 → Fr n0 lc3 → (own_H v2.toInt ln.toInt lo.toInt hi.toInt) → ownEnds p e below s (Q_seq_0_1 Z a0 g h0 n0) ({ frames := 0, cells := 0, slots := 0, locals := 0 } : Room).cells ({ frames := 0, cells := 0, slots := 0, locals := 0 } : Room).slots Tc3 (mkF m 165 #[rv a0, iv (0 : Int32), iv (1 : Int32), iv v2, iv ln, iv lo, iv hi, .unset, .unset, .unset, .unset] []) := by
    intro ln lo hi Tc3 lc3 Xc3 ec3 Nc3 hH
    refine ow_iloadN (q := 166) Xc3 hx (hb hby own_d1_165) rfl rfl ?_
    rcases own_Hln hH with hs4 | hs5 | hs6 | hs7
    · subst hs4
      refine ow_iload (q := 168) Xc3 hx (hb hby own_d1_166) rfl rfl ?_
      refine ow_iadd (q := 169) Xc3 hx (1 : Int32) (hb hby own_d1_168) rfl (by decide) ?_
      refine ow_iloadN (q := 170) Xc3 hx (hb hby own_d1_169) rfl rfl ?_
      refine ow_icmpYes (q := 175) Xc3 hx (hb hby own_d1_170) (Jvm.Free.XT.ii_le_t (by decide)) (by decide) (by decide) ?_
      refine ow_iconst (q := 176) Xc3 hx (1 : Int32) (hb hby own_d1_175) rfl rfl ?_
      refine ow_istore (q := 178) Xc3 hx (L' := #[rv a0, iv (0 : Int32), iv (1 : Int32), iv v2, iv (1 : Int32), iv lo, iv hi, iv (1 : Int32), .unset, .unset, .unset]) (hb hby own_d1_176) rfl rfl ?_
      refine ow_iload (q := 180) Xc3 hx (hb hby own_d1_178) rfl rfl ?_
      refine ow_iload (q := 182) Xc3 hx (hb hby own_d1_180) rfl rfl ?_
      refine ow_icmpYes (q := 251) Xc3 hx (hb hby own_d1_182) (Jvm.Free.XT.ii_ge_t (by decide)) (by decide) (by decide) ?_
      refine ow_iload (q := 253) Xc3 hx (hb hby own_d1_251) rfl rfl ?_
      refine ownRetI Xc3 hx Bd.returns (hb hby own_d1_253) hlk (by decide) (by decide) ?_
      subst hv_v2 hv_v1
      rw [ec3]
      refine ⟨(1 : Int32), rfl, Nc3, rfl, ?_⟩
      unfold own_H at hH
      simp only [Int32.lt_iff_toInt_lt, ← Int32.toInt_inj, Int32.reduceToInt] at  hH ⊢
      unfold own_sq
      (repeat' split) <;> omega
    · subst hs5
      refine ow_iload (q := 168) Xc3 hx (hb hby own_d1_166) rfl rfl ?_
      refine ow_iadd (q := 169) Xc3 hx (2 : Int32) (hb hby own_d1_168) rfl (by decide) ?_
      refine ow_iloadN (q := 170) Xc3 hx (hb hby own_d1_169) rfl rfl ?_
      refine ow_icmpNo (q := 173) Xc3 hx (hb hby own_d1_170) rfl (Jvm.Free.XT.ii_le_f (by decide)) ?_
      refine ow_iconst (q := 174) Xc3 hx (0 : Int32) (hb hby own_d1_173) rfl rfl ?_
      refine ownRetI Xc3 hx Bd.returns (hb hby own_d1_174) hlk (by decide) (by decide) ?_
      subst hv_v2 hv_v1
      rw [ec3]
      refine ⟨(0 : Int32), rfl, Nc3, rfl, ?_⟩
      unfold own_H at hH
      simp only [Int32.lt_iff_toInt_lt, ← Int32.toInt_inj, Int32.reduceToInt] at  hH ⊢
      unfold own_sq
      (repeat' split) <;> omega
    · subst hs6
      refine ow_iload (q := 168) Xc3 hx (hb hby own_d1_166) rfl rfl ?_
      refine ow_iadd (q := 169) Xc3 hx (3 : Int32) (hb hby own_d1_168) rfl (by decide) ?_
      refine ow_iloadN (q := 170) Xc3 hx (hb hby own_d1_169) rfl rfl ?_
      refine ow_icmpNo (q := 173) Xc3 hx (hb hby own_d1_170) rfl (Jvm.Free.XT.ii_le_f (by decide)) ?_
      refine ow_iconst (q := 174) Xc3 hx (0 : Int32) (hb hby own_d1_173) rfl rfl ?_
      refine ownRetI Xc3 hx Bd.returns (hb hby own_d1_174) hlk (by decide) (by decide) ?_
      subst hv_v2 hv_v1
      rw [ec3]
      refine ⟨(0 : Int32), rfl, Nc3, rfl, ?_⟩
      unfold own_H at hH
      simp only [Int32.lt_iff_toInt_lt, ← Int32.toInt_inj, Int32.reduceToInt] at  hH ⊢
      unfold own_sq
      (repeat' split) <;> omega
    · subst hs7
      refine ow_iload (q := 168) Xc3 hx (hb hby own_d1_166) rfl rfl ?_
      refine ow_iadd (q := 169) Xc3 hx (4 : Int32) (hb hby own_d1_168) rfl (by decide) ?_
      refine ow_iloadN (q := 170) Xc3 hx (hb hby own_d1_169) rfl rfl ?_
      refine ow_icmpNo (q := 173) Xc3 hx (hb hby own_d1_170) rfl (Jvm.Free.XT.ii_le_f (by decide)) ?_
      refine ow_iconst (q := 174) Xc3 hx (0 : Int32) (hb hby own_d1_173) rfl rfl ?_
      refine ownRetI Xc3 hx Bd.returns (hb hby own_d1_174) hlk (by decide) (by decide) ?_
      subst hv_v2 hv_v1
      rw [ec3]
      refine ⟨(0 : Int32), rfl, Nc3, rfl, ?_⟩
      unfold own_H at hH
      simp only [Int32.lt_iff_toInt_lt, ← Int32.toInt_inj, Int32.reduceToInt] at  hH ⊢
      unfold own_sq
      (repeat' split) <;> omega
  refine ow_iloadN (q := 19) X0 hx (hb hby own_d1_18) rfl rfl ?_
  refine ow_sipush (q := 22) X0 hx (128 : Int32) (hb hby own_d1_19) rfl rfl ?_
  by_cases hc22_8 : v2 < (128 : Int32)
  · refine ow_icmpNo (q := 25) X0 hx (hb hby own_d1_22) rfl (Jvm.Free.XT.ii_ge_f hc22_8) ?_
    refine ow_iconst (q := 26) X0 hx (1 : Int32) (hb hby own_d1_25) rfl rfl ?_
    refine ow_istore (q := 28) X0 hx (L' := #[rv a0, iv (0 : Int32), iv (1 : Int32), iv v2, iv (1 : Int32), iv (128 : Int32), iv (191 : Int32), .unset, .unset, .unset, .unset]) (hb hby own_d1_26) rfl rfl ?_
    refine ow_goto (q := 165) X0 hx (hb hby own_d1_28) (by decide) (by decide) ?_
    exact cut165_3 (1 : Int32) (128 : Int32) (191 : Int32) _ _ X0 e0 N0 (by unfold own_H; simp only [Int32.lt_iff_toInt_lt, ← Int32.toInt_inj, Int32.reduceToInt, true_and, and_true] at hc22_8 ⊢; omega)
  · refine ow_icmpYes (q := 31) X0 hx (hb hby own_d1_22) (Jvm.Free.XT.ii_ge_t hc22_8) (by decide) (by decide) ?_
    refine ow_iloadN (q := 32) X0 hx (hb hby own_d1_31) rfl rfl ?_
    refine ow_sipush (q := 35) X0 hx (194 : Int32) (hb hby own_d1_32) rfl rfl ?_
    by_cases hc35_9 : v2 < (194 : Int32)
    · refine ow_icmpYes (q := 51) X0 hx (hb hby own_d1_35) (Jvm.Free.XT.ii_lt_t hc35_9) (by decide) (by decide) ?_
      refine ow_iloadN (q := 52) X0 hx (hb hby own_d1_51) rfl rfl ?_
      refine ow_sipush (q := 55) X0 hx (224 : Int32) (hb hby own_d1_52) rfl rfl ?_
      by_cases hc55_10 : v2 < (224 : Int32)
      · refine ow_icmpYes (q := 107) X0 hx (hb hby own_d1_55) (Jvm.Free.XT.ii_lt_t hc55_10) (by decide) (by decide) ?_
        refine ow_iloadN (q := 108) X0 hx (hb hby own_d1_107) rfl rfl ?_
        refine ow_sipush (q := 111) X0 hx (240 : Int32) (hb hby own_d1_108) rfl rfl ?_
        by_cases hc111_11 : v2 < (240 : Int32)
        · refine ow_icmpYes (q := 163) X0 hx (hb hby own_d1_111) (Jvm.Free.XT.ii_lt_t hc111_11) (by decide) (by decide) ?_
          refine ow_iconst (q := 164) X0 hx (0 : Int32) (hb hby own_d1_163) rfl rfl ?_
          refine ownRetI X0 hx Bd.returns (hb hby own_d1_164) hlk (by decide) (by decide) ?_
          subst hv_v2 hv_v1
          rw [e0]
          refine ⟨(0 : Int32), rfl, N0, rfl, ?_⟩
          simp only [Int32.lt_iff_toInt_lt, ← Int32.toInt_inj, Int32.reduceToInt] at hc22_8 hc35_9 hc55_10 hc111_11 ⊢
          unfold own_sq
          (repeat' split) <;> omega
        · refine ow_icmpNo (q := 114) X0 hx (hb hby own_d1_111) rfl (Jvm.Free.XT.ii_lt_f hc111_11) ?_
          refine ow_iloadN (q := 115) X0 hx (hb hby own_d1_114) rfl rfl ?_
          refine ow_sipush (q := 118) X0 hx (244 : Int32) (hb hby own_d1_115) rfl rfl ?_
          by_cases hc118_12 : (244 : Int32) < v2
          · refine ow_icmpYes (q := 163) X0 hx (hb hby own_d1_118) (Jvm.Free.XT.ii_gt_t hc118_12) (by decide) (by decide) ?_
            refine ow_iconst (q := 164) X0 hx (0 : Int32) (hb hby own_d1_163) rfl rfl ?_
            refine ownRetI X0 hx Bd.returns (hb hby own_d1_164) hlk (by decide) (by decide) ?_
            subst hv_v2 hv_v1
            rw [e0]
            refine ⟨(0 : Int32), rfl, N0, rfl, ?_⟩
            simp only [Int32.lt_iff_toInt_lt, ← Int32.toInt_inj, Int32.reduceToInt] at hc22_8 hc35_9 hc55_10 hc111_11 hc118_12 ⊢
            unfold own_sq
            (repeat' split) <;> omega
          · refine ow_icmpNo (q := 121) X0 hx (hb hby own_d1_118) rfl (Jvm.Free.XT.ii_gt_f hc118_12) ?_
            refine ow_iconst (q := 122) X0 hx (4 : Int32) (hb hby own_d1_121) rfl rfl ?_
            refine ow_istore (q := 124) X0 hx (L' := #[rv a0, iv (0 : Int32), iv (1 : Int32), iv v2, iv (4 : Int32), iv (128 : Int32), iv (191 : Int32), .unset, .unset, .unset, .unset]) (hb hby own_d1_122) rfl rfl ?_
            refine ow_iloadN (q := 125) X0 hx (hb hby own_d1_124) rfl rfl ?_
            refine ow_sipush (q := 128) X0 hx (240 : Int32) (hb hby own_d1_125) rfl rfl ?_
            by_cases hc128_13 : v2 = (240 : Int32)
            · refine ow_icmpNo (q := 131) X0 hx (hb hby own_d1_128) rfl (Jvm.Free.XT.ii_ne_f hc128_13) ?_
              refine ow_sipush (q := 134) X0 hx (144 : Int32) (hb hby own_d1_131) rfl rfl ?_
              refine ow_goto (q := 140) X0 hx (hb hby own_d1_134) (by decide) (by decide) ?_
              refine ow_istore (q := 142) X0 hx (L' := #[rv a0, iv (0 : Int32), iv (1 : Int32), iv v2, iv (4 : Int32), iv (144 : Int32), iv (191 : Int32), .unset, .unset, .unset, .unset]) (hb hby own_d1_140) rfl rfl ?_
              refine ow_iloadN (q := 143) X0 hx (hb hby own_d1_142) rfl rfl ?_
              refine ow_sipush (q := 146) X0 hx (244 : Int32) (hb hby own_d1_143) rfl rfl ?_
              by_cases hc146_14 : v2 = (244 : Int32)
              · refine ow_icmpNo (q := 149) X0 hx (hb hby own_d1_146) rfl (Jvm.Free.XT.ii_ne_f hc146_14) ?_
                refine ow_sipush (q := 152) X0 hx (143 : Int32) (hb hby own_d1_149) rfl rfl ?_
                refine ow_goto (q := 158) X0 hx (hb hby own_d1_152) (by decide) (by decide) ?_
                refine ow_istore (q := 160) X0 hx (L' := #[rv a0, iv (0 : Int32), iv (1 : Int32), iv v2, iv (4 : Int32), iv (144 : Int32), iv (143 : Int32), .unset, .unset, .unset, .unset]) (hb hby own_d1_158) rfl rfl ?_
                refine ow_goto (q := 165) X0 hx (hb hby own_d1_160) (by decide) (by decide) ?_
                exact cut165_3 (4 : Int32) (144 : Int32) (143 : Int32) _ _ X0 e0 N0 (by unfold own_H; simp only [Int32.lt_iff_toInt_lt, ← Int32.toInt_inj, Int32.reduceToInt, true_and, and_true] at hc22_8 hc35_9 hc55_10 hc111_11 hc118_12 hc128_13 hc146_14 ⊢; omega)
              · refine ow_icmpYes (q := 155) X0 hx (hb hby own_d1_146) (Jvm.Free.XT.ii_ne_t hc146_14) (by decide) (by decide) ?_
                refine ow_sipush (q := 158) X0 hx (191 : Int32) (hb hby own_d1_155) rfl rfl ?_
                refine ow_istore (q := 160) X0 hx (L' := #[rv a0, iv (0 : Int32), iv (1 : Int32), iv v2, iv (4 : Int32), iv (144 : Int32), iv (191 : Int32), .unset, .unset, .unset, .unset]) (hb hby own_d1_158) rfl rfl ?_
                refine ow_goto (q := 165) X0 hx (hb hby own_d1_160) (by decide) (by decide) ?_
                exact cut165_3 (4 : Int32) (144 : Int32) (191 : Int32) _ _ X0 e0 N0 (by unfold own_H; simp only [Int32.lt_iff_toInt_lt, ← Int32.toInt_inj, Int32.reduceToInt, true_and, and_true] at hc22_8 hc35_9 hc55_10 hc111_11 hc118_12 hc128_13 hc146_14 ⊢; omega)
            · refine ow_icmpYes (q := 137) X0 hx (hb hby own_d1_128) (Jvm.Free.XT.ii_ne_t hc128_13) (by decide) (by decide) ?_
              refine ow_sipush (q := 140) X0 hx (128 : Int32) (hb hby own_d1_137) rfl rfl ?_
              refine ow_istore (q := 142) X0 hx (L' := #[rv a0, iv (0 : Int32), iv (1 : Int32), iv v2, iv (4 : Int32), iv (128 : Int32), iv (191 : Int32), .unset, .unset, .unset, .unset]) (hb hby own_d1_140) rfl rfl ?_
              refine ow_iloadN (q := 143) X0 hx (hb hby own_d1_142) rfl rfl ?_
              refine ow_sipush (q := 146) X0 hx (244 : Int32) (hb hby own_d1_143) rfl rfl ?_
              by_cases hc146_15 : v2 = (244 : Int32)
              · refine ow_icmpNo (q := 149) X0 hx (hb hby own_d1_146) rfl (Jvm.Free.XT.ii_ne_f hc146_15) ?_
                refine ow_sipush (q := 152) X0 hx (143 : Int32) (hb hby own_d1_149) rfl rfl ?_
                refine ow_goto (q := 158) X0 hx (hb hby own_d1_152) (by decide) (by decide) ?_
                refine ow_istore (q := 160) X0 hx (L' := #[rv a0, iv (0 : Int32), iv (1 : Int32), iv v2, iv (4 : Int32), iv (128 : Int32), iv (143 : Int32), .unset, .unset, .unset, .unset]) (hb hby own_d1_158) rfl rfl ?_
                refine ow_goto (q := 165) X0 hx (hb hby own_d1_160) (by decide) (by decide) ?_
                exact cut165_3 (4 : Int32) (128 : Int32) (143 : Int32) _ _ X0 e0 N0 (by unfold own_H; simp only [Int32.lt_iff_toInt_lt, ← Int32.toInt_inj, Int32.reduceToInt, true_and, and_true] at hc22_8 hc35_9 hc55_10 hc111_11 hc118_12 hc128_13 hc146_15 ⊢; omega)
              · refine ow_icmpYes (q := 155) X0 hx (hb hby own_d1_146) (Jvm.Free.XT.ii_ne_t hc146_15) (by decide) (by decide) ?_
                refine ow_sipush (q := 158) X0 hx (191 : Int32) (hb hby own_d1_155) rfl rfl ?_
                refine ow_istore (q := 160) X0 hx (L' := #[rv a0, iv (0 : Int32), iv (1 : Int32), iv v2, iv (4 : Int32), iv (128 : Int32), iv (191 : Int32), .unset, .unset, .unset, .unset]) (hb hby own_d1_158) rfl rfl ?_
                refine ow_goto (q := 165) X0 hx (hb hby own_d1_160) (by decide) (by decide) ?_
                exact cut165_3 (4 : Int32) (128 : Int32) (191 : Int32) _ _ X0 e0 N0 (by unfold own_H; simp only [Int32.lt_iff_toInt_lt, ← Int32.toInt_inj, Int32.reduceToInt, true_and, and_true] at hc22_8 hc35_9 hc55_10 hc111_11 hc118_12 hc128_13 hc146_15 ⊢; omega)
      · refine ow_icmpNo (q := 58) X0 hx (hb hby own_d1_55) rfl (Jvm.Free.XT.ii_lt_f hc55_10) ?_
        refine ow_iloadN (q := 59) X0 hx (hb hby own_d1_58) rfl rfl ?_
        refine ow_sipush (q := 62) X0 hx (239 : Int32) (hb hby own_d1_59) rfl rfl ?_
        by_cases hc62_16 : (239 : Int32) < v2
        · refine ow_icmpYes (q := 107) X0 hx (hb hby own_d1_62) (Jvm.Free.XT.ii_gt_t hc62_16) (by decide) (by decide) ?_
          refine ow_iloadN (q := 108) X0 hx (hb hby own_d1_107) rfl rfl ?_
          refine ow_sipush (q := 111) X0 hx (240 : Int32) (hb hby own_d1_108) rfl rfl ?_
          by_cases hc111_17 : v2 < (240 : Int32)
          · refine ow_icmpYes (q := 163) X0 hx (hb hby own_d1_111) (Jvm.Free.XT.ii_lt_t hc111_17) (by decide) (by decide) ?_
            refine ow_iconst (q := 164) X0 hx (0 : Int32) (hb hby own_d1_163) rfl rfl ?_
            refine ownRetI X0 hx Bd.returns (hb hby own_d1_164) hlk (by decide) (by decide) ?_
            subst hv_v2 hv_v1
            rw [e0]
            refine ⟨(0 : Int32), rfl, N0, rfl, ?_⟩
            simp only [Int32.lt_iff_toInt_lt, ← Int32.toInt_inj, Int32.reduceToInt] at hc22_8 hc35_9 hc55_10 hc62_16 hc111_17 ⊢
            unfold own_sq
            (repeat' split) <;> omega
          · refine ow_icmpNo (q := 114) X0 hx (hb hby own_d1_111) rfl (Jvm.Free.XT.ii_lt_f hc111_17) ?_
            refine ow_iloadN (q := 115) X0 hx (hb hby own_d1_114) rfl rfl ?_
            refine ow_sipush (q := 118) X0 hx (244 : Int32) (hb hby own_d1_115) rfl rfl ?_
            by_cases hc118_18 : (244 : Int32) < v2
            · refine ow_icmpYes (q := 163) X0 hx (hb hby own_d1_118) (Jvm.Free.XT.ii_gt_t hc118_18) (by decide) (by decide) ?_
              refine ow_iconst (q := 164) X0 hx (0 : Int32) (hb hby own_d1_163) rfl rfl ?_
              refine ownRetI X0 hx Bd.returns (hb hby own_d1_164) hlk (by decide) (by decide) ?_
              subst hv_v2 hv_v1
              rw [e0]
              refine ⟨(0 : Int32), rfl, N0, rfl, ?_⟩
              simp only [Int32.lt_iff_toInt_lt, ← Int32.toInt_inj, Int32.reduceToInt] at hc22_8 hc35_9 hc55_10 hc62_16 hc111_17 hc118_18 ⊢
              unfold own_sq
              (repeat' split) <;> omega
            · refine ow_icmpNo (q := 121) X0 hx (hb hby own_d1_118) rfl (Jvm.Free.XT.ii_gt_f hc118_18) ?_
              refine ow_iconst (q := 122) X0 hx (4 : Int32) (hb hby own_d1_121) rfl rfl ?_
              refine ow_istore (q := 124) X0 hx (L' := #[rv a0, iv (0 : Int32), iv (1 : Int32), iv v2, iv (4 : Int32), iv (128 : Int32), iv (191 : Int32), .unset, .unset, .unset, .unset]) (hb hby own_d1_122) rfl rfl ?_
              refine ow_iloadN (q := 125) X0 hx (hb hby own_d1_124) rfl rfl ?_
              refine ow_sipush (q := 128) X0 hx (240 : Int32) (hb hby own_d1_125) rfl rfl ?_
              by_cases hc128_19 : v2 = (240 : Int32)
              · refine ow_icmpNo (q := 131) X0 hx (hb hby own_d1_128) rfl (Jvm.Free.XT.ii_ne_f hc128_19) ?_
                refine ow_sipush (q := 134) X0 hx (144 : Int32) (hb hby own_d1_131) rfl rfl ?_
                refine ow_goto (q := 140) X0 hx (hb hby own_d1_134) (by decide) (by decide) ?_
                refine ow_istore (q := 142) X0 hx (L' := #[rv a0, iv (0 : Int32), iv (1 : Int32), iv v2, iv (4 : Int32), iv (144 : Int32), iv (191 : Int32), .unset, .unset, .unset, .unset]) (hb hby own_d1_140) rfl rfl ?_
                refine ow_iloadN (q := 143) X0 hx (hb hby own_d1_142) rfl rfl ?_
                refine ow_sipush (q := 146) X0 hx (244 : Int32) (hb hby own_d1_143) rfl rfl ?_
                by_cases hc146_20 : v2 = (244 : Int32)
                · refine ow_icmpNo (q := 149) X0 hx (hb hby own_d1_146) rfl (Jvm.Free.XT.ii_ne_f hc146_20) ?_
                  refine ow_sipush (q := 152) X0 hx (143 : Int32) (hb hby own_d1_149) rfl rfl ?_
                  refine ow_goto (q := 158) X0 hx (hb hby own_d1_152) (by decide) (by decide) ?_
                  refine ow_istore (q := 160) X0 hx (L' := #[rv a0, iv (0 : Int32), iv (1 : Int32), iv v2, iv (4 : Int32), iv (144 : Int32), iv (143 : Int32), .unset, .unset, .unset, .unset]) (hb hby own_d1_158) rfl rfl ?_
                  refine ow_goto (q := 165) X0 hx (hb hby own_d1_160) (by decide) (by decide) ?_
                  exact cut165_3 (4 : Int32) (144 : Int32) (143 : Int32) _ _ X0 e0 N0 (by unfold own_H; simp only [Int32.lt_iff_toInt_lt, ← Int32.toInt_inj, Int32.reduceToInt, true_and, and_true] at hc22_8 hc35_9 hc55_10 hc62_16 hc111_17 hc118_18 hc128_19 hc146_20 ⊢; omega)
                · refine ow_icmpYes (q := 155) X0 hx (hb hby own_d1_146) (Jvm.Free.XT.ii_ne_t hc146_20) (by decide) (by decide) ?_
                  refine ow_sipush (q := 158) X0 hx (191 : Int32) (hb hby own_d1_155) rfl rfl ?_
                  refine ow_istore (q := 160) X0 hx (L' := #[rv a0, iv (0 : Int32), iv (1 : Int32), iv v2, iv (4 : Int32), iv (144 : Int32), iv (191 : Int32), .unset, .unset, .unset, .unset]) (hb hby own_d1_158) rfl rfl ?_
                  refine ow_goto (q := 165) X0 hx (hb hby own_d1_160) (by decide) (by decide) ?_
                  exact cut165_3 (4 : Int32) (144 : Int32) (191 : Int32) _ _ X0 e0 N0 (by unfold own_H; simp only [Int32.lt_iff_toInt_lt, ← Int32.toInt_inj, Int32.reduceToInt, true_and, and_true] at hc22_8 hc35_9 hc55_10 hc62_16 hc111_17 hc118_18 hc128_19 hc146_20 ⊢; omega)
              · refine ow_icmpYes (q := 137) X0 hx (hb hby own_d1_128) (Jvm.Free.XT.ii_ne_t hc128_19) (by decide) (by decide) ?_
                refine ow_sipush (q := 140) X0 hx (128 : Int32) (hb hby own_d1_137) rfl rfl ?_
                refine ow_istore (q := 142) X0 hx (L' := #[rv a0, iv (0 : Int32), iv (1 : Int32), iv v2, iv (4 : Int32), iv (128 : Int32), iv (191 : Int32), .unset, .unset, .unset, .unset]) (hb hby own_d1_140) rfl rfl ?_
                refine ow_iloadN (q := 143) X0 hx (hb hby own_d1_142) rfl rfl ?_
                refine ow_sipush (q := 146) X0 hx (244 : Int32) (hb hby own_d1_143) rfl rfl ?_
                by_cases hc146_21 : v2 = (244 : Int32)
                · refine ow_icmpNo (q := 149) X0 hx (hb hby own_d1_146) rfl (Jvm.Free.XT.ii_ne_f hc146_21) ?_
                  refine ow_sipush (q := 152) X0 hx (143 : Int32) (hb hby own_d1_149) rfl rfl ?_
                  refine ow_goto (q := 158) X0 hx (hb hby own_d1_152) (by decide) (by decide) ?_
                  refine ow_istore (q := 160) X0 hx (L' := #[rv a0, iv (0 : Int32), iv (1 : Int32), iv v2, iv (4 : Int32), iv (128 : Int32), iv (143 : Int32), .unset, .unset, .unset, .unset]) (hb hby own_d1_158) rfl rfl ?_
                  refine ow_goto (q := 165) X0 hx (hb hby own_d1_160) (by decide) (by decide) ?_
                  exact cut165_3 (4 : Int32) (128 : Int32) (143 : Int32) _ _ X0 e0 N0 (by unfold own_H; simp only [Int32.lt_iff_toInt_lt, ← Int32.toInt_inj, Int32.reduceToInt, true_and, and_true] at hc22_8 hc35_9 hc55_10 hc62_16 hc111_17 hc118_18 hc128_19 hc146_21 ⊢; omega)
                · refine ow_icmpYes (q := 155) X0 hx (hb hby own_d1_146) (Jvm.Free.XT.ii_ne_t hc146_21) (by decide) (by decide) ?_
                  refine ow_sipush (q := 158) X0 hx (191 : Int32) (hb hby own_d1_155) rfl rfl ?_
                  refine ow_istore (q := 160) X0 hx (L' := #[rv a0, iv (0 : Int32), iv (1 : Int32), iv v2, iv (4 : Int32), iv (128 : Int32), iv (191 : Int32), .unset, .unset, .unset, .unset]) (hb hby own_d1_158) rfl rfl ?_
                  refine ow_goto (q := 165) X0 hx (hb hby own_d1_160) (by decide) (by decide) ?_
                  exact cut165_3 (4 : Int32) (128 : Int32) (191 : Int32) _ _ X0 e0 N0 (by unfold own_H; simp only [Int32.lt_iff_toInt_lt, ← Int32.toInt_inj, Int32.reduceToInt, true_and, and_true] at hc22_8 hc35_9 hc55_10 hc62_16 hc111_17 hc118_18 hc128_19 hc146_21 ⊢; omega)
        · refine ow_icmpNo (q := 65) X0 hx (hb hby own_d1_62) rfl (Jvm.Free.XT.ii_gt_f hc62_16) ?_
          refine ow_iconst (q := 66) X0 hx (3 : Int32) (hb hby own_d1_65) rfl rfl ?_
          refine ow_istore (q := 68) X0 hx (L' := #[rv a0, iv (0 : Int32), iv (1 : Int32), iv v2, iv (3 : Int32), iv (128 : Int32), iv (191 : Int32), .unset, .unset, .unset, .unset]) (hb hby own_d1_66) rfl rfl ?_
          refine ow_iloadN (q := 69) X0 hx (hb hby own_d1_68) rfl rfl ?_
          refine ow_sipush (q := 72) X0 hx (224 : Int32) (hb hby own_d1_69) rfl rfl ?_
          by_cases hc72_22 : v2 = (224 : Int32)
          · refine ow_icmpNo (q := 75) X0 hx (hb hby own_d1_72) rfl (Jvm.Free.XT.ii_ne_f hc72_22) ?_
            refine ow_sipush (q := 78) X0 hx (160 : Int32) (hb hby own_d1_75) rfl rfl ?_
            refine ow_goto (q := 84) X0 hx (hb hby own_d1_78) (by decide) (by decide) ?_
            refine ow_istore (q := 86) X0 hx (L' := #[rv a0, iv (0 : Int32), iv (1 : Int32), iv v2, iv (3 : Int32), iv (160 : Int32), iv (191 : Int32), .unset, .unset, .unset, .unset]) (hb hby own_d1_84) rfl rfl ?_
            refine ow_iloadN (q := 87) X0 hx (hb hby own_d1_86) rfl rfl ?_
            refine ow_sipush (q := 90) X0 hx (237 : Int32) (hb hby own_d1_87) rfl rfl ?_
            by_cases hc90_23 : v2 = (237 : Int32)
            · refine ow_icmpNo (q := 93) X0 hx (hb hby own_d1_90) rfl (Jvm.Free.XT.ii_ne_f hc90_23) ?_
              refine ow_sipush (q := 96) X0 hx (159 : Int32) (hb hby own_d1_93) rfl rfl ?_
              refine ow_goto (q := 102) X0 hx (hb hby own_d1_96) (by decide) (by decide) ?_
              refine ow_istore (q := 104) X0 hx (L' := #[rv a0, iv (0 : Int32), iv (1 : Int32), iv v2, iv (3 : Int32), iv (160 : Int32), iv (159 : Int32), .unset, .unset, .unset, .unset]) (hb hby own_d1_102) rfl rfl ?_
              refine ow_goto (q := 165) X0 hx (hb hby own_d1_104) (by decide) (by decide) ?_
              exact cut165_3 (3 : Int32) (160 : Int32) (159 : Int32) _ _ X0 e0 N0 (by unfold own_H; simp only [Int32.lt_iff_toInt_lt, ← Int32.toInt_inj, Int32.reduceToInt, true_and, and_true] at hc22_8 hc35_9 hc55_10 hc62_16 hc72_22 hc90_23 ⊢; omega)
            · refine ow_icmpYes (q := 99) X0 hx (hb hby own_d1_90) (Jvm.Free.XT.ii_ne_t hc90_23) (by decide) (by decide) ?_
              refine ow_sipush (q := 102) X0 hx (191 : Int32) (hb hby own_d1_99) rfl rfl ?_
              refine ow_istore (q := 104) X0 hx (L' := #[rv a0, iv (0 : Int32), iv (1 : Int32), iv v2, iv (3 : Int32), iv (160 : Int32), iv (191 : Int32), .unset, .unset, .unset, .unset]) (hb hby own_d1_102) rfl rfl ?_
              refine ow_goto (q := 165) X0 hx (hb hby own_d1_104) (by decide) (by decide) ?_
              exact cut165_3 (3 : Int32) (160 : Int32) (191 : Int32) _ _ X0 e0 N0 (by unfold own_H; simp only [Int32.lt_iff_toInt_lt, ← Int32.toInt_inj, Int32.reduceToInt, true_and, and_true] at hc22_8 hc35_9 hc55_10 hc62_16 hc72_22 hc90_23 ⊢; omega)
          · refine ow_icmpYes (q := 81) X0 hx (hb hby own_d1_72) (Jvm.Free.XT.ii_ne_t hc72_22) (by decide) (by decide) ?_
            refine ow_sipush (q := 84) X0 hx (128 : Int32) (hb hby own_d1_81) rfl rfl ?_
            refine ow_istore (q := 86) X0 hx (L' := #[rv a0, iv (0 : Int32), iv (1 : Int32), iv v2, iv (3 : Int32), iv (128 : Int32), iv (191 : Int32), .unset, .unset, .unset, .unset]) (hb hby own_d1_84) rfl rfl ?_
            refine ow_iloadN (q := 87) X0 hx (hb hby own_d1_86) rfl rfl ?_
            refine ow_sipush (q := 90) X0 hx (237 : Int32) (hb hby own_d1_87) rfl rfl ?_
            by_cases hc90_24 : v2 = (237 : Int32)
            · refine ow_icmpNo (q := 93) X0 hx (hb hby own_d1_90) rfl (Jvm.Free.XT.ii_ne_f hc90_24) ?_
              refine ow_sipush (q := 96) X0 hx (159 : Int32) (hb hby own_d1_93) rfl rfl ?_
              refine ow_goto (q := 102) X0 hx (hb hby own_d1_96) (by decide) (by decide) ?_
              refine ow_istore (q := 104) X0 hx (L' := #[rv a0, iv (0 : Int32), iv (1 : Int32), iv v2, iv (3 : Int32), iv (128 : Int32), iv (159 : Int32), .unset, .unset, .unset, .unset]) (hb hby own_d1_102) rfl rfl ?_
              refine ow_goto (q := 165) X0 hx (hb hby own_d1_104) (by decide) (by decide) ?_
              exact cut165_3 (3 : Int32) (128 : Int32) (159 : Int32) _ _ X0 e0 N0 (by unfold own_H; simp only [Int32.lt_iff_toInt_lt, ← Int32.toInt_inj, Int32.reduceToInt, true_and, and_true] at hc22_8 hc35_9 hc55_10 hc62_16 hc72_22 hc90_24 ⊢; omega)
            · refine ow_icmpYes (q := 99) X0 hx (hb hby own_d1_90) (Jvm.Free.XT.ii_ne_t hc90_24) (by decide) (by decide) ?_
              refine ow_sipush (q := 102) X0 hx (191 : Int32) (hb hby own_d1_99) rfl rfl ?_
              refine ow_istore (q := 104) X0 hx (L' := #[rv a0, iv (0 : Int32), iv (1 : Int32), iv v2, iv (3 : Int32), iv (128 : Int32), iv (191 : Int32), .unset, .unset, .unset, .unset]) (hb hby own_d1_102) rfl rfl ?_
              refine ow_goto (q := 165) X0 hx (hb hby own_d1_104) (by decide) (by decide) ?_
              exact cut165_3 (3 : Int32) (128 : Int32) (191 : Int32) _ _ X0 e0 N0 (by unfold own_H; simp only [Int32.lt_iff_toInt_lt, ← Int32.toInt_inj, Int32.reduceToInt, true_and, and_true] at hc22_8 hc35_9 hc55_10 hc62_16 hc72_22 hc90_24 ⊢; omega)
    · refine ow_icmpNo (q := 38) X0 hx (hb hby own_d1_35) rfl (Jvm.Free.XT.ii_lt_f hc35_9) ?_
      refine ow_iloadN (q := 39) X0 hx (hb hby own_d1_38) rfl rfl ?_
      refine ow_sipush (q := 42) X0 hx (223 : Int32) (hb hby own_d1_39) rfl rfl ?_
      by_cases hc42_25 : (223 : Int32) < v2
      · refine ow_icmpYes (q := 51) X0 hx (hb hby own_d1_42) (Jvm.Free.XT.ii_gt_t hc42_25) (by decide) (by decide) ?_
        refine ow_iloadN (q := 52) X0 hx (hb hby own_d1_51) rfl rfl ?_
        refine ow_sipush (q := 55) X0 hx (224 : Int32) (hb hby own_d1_52) rfl rfl ?_
        by_cases hc55_26 : v2 < (224 : Int32)
        · refine ow_icmpYes (q := 107) X0 hx (hb hby own_d1_55) (Jvm.Free.XT.ii_lt_t hc55_26) (by decide) (by decide) ?_
          refine ow_iloadN (q := 108) X0 hx (hb hby own_d1_107) rfl rfl ?_
          refine ow_sipush (q := 111) X0 hx (240 : Int32) (hb hby own_d1_108) rfl rfl ?_
          by_cases hc111_27 : v2 < (240 : Int32)
          · refine ow_icmpYes (q := 163) X0 hx (hb hby own_d1_111) (Jvm.Free.XT.ii_lt_t hc111_27) (by decide) (by decide) ?_
            refine ow_iconst (q := 164) X0 hx (0 : Int32) (hb hby own_d1_163) rfl rfl ?_
            refine ownRetI X0 hx Bd.returns (hb hby own_d1_164) hlk (by decide) (by decide) ?_
            subst hv_v2 hv_v1
            rw [e0]
            refine ⟨(0 : Int32), rfl, N0, rfl, ?_⟩
            simp only [Int32.lt_iff_toInt_lt, ← Int32.toInt_inj, Int32.reduceToInt] at hc22_8 hc35_9 hc42_25 hc55_26 hc111_27 ⊢
            unfold own_sq
            (repeat' split) <;> omega
          · refine ow_icmpNo (q := 114) X0 hx (hb hby own_d1_111) rfl (Jvm.Free.XT.ii_lt_f hc111_27) ?_
            refine ow_iloadN (q := 115) X0 hx (hb hby own_d1_114) rfl rfl ?_
            refine ow_sipush (q := 118) X0 hx (244 : Int32) (hb hby own_d1_115) rfl rfl ?_
            by_cases hc118_28 : (244 : Int32) < v2
            · refine ow_icmpYes (q := 163) X0 hx (hb hby own_d1_118) (Jvm.Free.XT.ii_gt_t hc118_28) (by decide) (by decide) ?_
              refine ow_iconst (q := 164) X0 hx (0 : Int32) (hb hby own_d1_163) rfl rfl ?_
              refine ownRetI X0 hx Bd.returns (hb hby own_d1_164) hlk (by decide) (by decide) ?_
              subst hv_v2 hv_v1
              rw [e0]
              refine ⟨(0 : Int32), rfl, N0, rfl, ?_⟩
              simp only [Int32.lt_iff_toInt_lt, ← Int32.toInt_inj, Int32.reduceToInt] at hc22_8 hc35_9 hc42_25 hc55_26 hc111_27 hc118_28 ⊢
              unfold own_sq
              (repeat' split) <;> omega
            · refine ow_icmpNo (q := 121) X0 hx (hb hby own_d1_118) rfl (Jvm.Free.XT.ii_gt_f hc118_28) ?_
              refine ow_iconst (q := 122) X0 hx (4 : Int32) (hb hby own_d1_121) rfl rfl ?_
              refine ow_istore (q := 124) X0 hx (L' := #[rv a0, iv (0 : Int32), iv (1 : Int32), iv v2, iv (4 : Int32), iv (128 : Int32), iv (191 : Int32), .unset, .unset, .unset, .unset]) (hb hby own_d1_122) rfl rfl ?_
              refine ow_iloadN (q := 125) X0 hx (hb hby own_d1_124) rfl rfl ?_
              refine ow_sipush (q := 128) X0 hx (240 : Int32) (hb hby own_d1_125) rfl rfl ?_
              by_cases hc128_29 : v2 = (240 : Int32)
              · refine ow_icmpNo (q := 131) X0 hx (hb hby own_d1_128) rfl (Jvm.Free.XT.ii_ne_f hc128_29) ?_
                refine ow_sipush (q := 134) X0 hx (144 : Int32) (hb hby own_d1_131) rfl rfl ?_
                refine ow_goto (q := 140) X0 hx (hb hby own_d1_134) (by decide) (by decide) ?_
                refine ow_istore (q := 142) X0 hx (L' := #[rv a0, iv (0 : Int32), iv (1 : Int32), iv v2, iv (4 : Int32), iv (144 : Int32), iv (191 : Int32), .unset, .unset, .unset, .unset]) (hb hby own_d1_140) rfl rfl ?_
                refine ow_iloadN (q := 143) X0 hx (hb hby own_d1_142) rfl rfl ?_
                refine ow_sipush (q := 146) X0 hx (244 : Int32) (hb hby own_d1_143) rfl rfl ?_
                by_cases hc146_30 : v2 = (244 : Int32)
                · refine ow_icmpNo (q := 149) X0 hx (hb hby own_d1_146) rfl (Jvm.Free.XT.ii_ne_f hc146_30) ?_
                  refine ow_sipush (q := 152) X0 hx (143 : Int32) (hb hby own_d1_149) rfl rfl ?_
                  refine ow_goto (q := 158) X0 hx (hb hby own_d1_152) (by decide) (by decide) ?_
                  refine ow_istore (q := 160) X0 hx (L' := #[rv a0, iv (0 : Int32), iv (1 : Int32), iv v2, iv (4 : Int32), iv (144 : Int32), iv (143 : Int32), .unset, .unset, .unset, .unset]) (hb hby own_d1_158) rfl rfl ?_
                  refine ow_goto (q := 165) X0 hx (hb hby own_d1_160) (by decide) (by decide) ?_
                  exact cut165_3 (4 : Int32) (144 : Int32) (143 : Int32) _ _ X0 e0 N0 (by unfold own_H; simp only [Int32.lt_iff_toInt_lt, ← Int32.toInt_inj, Int32.reduceToInt, true_and, and_true] at hc22_8 hc35_9 hc42_25 hc55_26 hc111_27 hc118_28 hc128_29 hc146_30 ⊢; omega)
                · refine ow_icmpYes (q := 155) X0 hx (hb hby own_d1_146) (Jvm.Free.XT.ii_ne_t hc146_30) (by decide) (by decide) ?_
                  refine ow_sipush (q := 158) X0 hx (191 : Int32) (hb hby own_d1_155) rfl rfl ?_
                  refine ow_istore (q := 160) X0 hx (L' := #[rv a0, iv (0 : Int32), iv (1 : Int32), iv v2, iv (4 : Int32), iv (144 : Int32), iv (191 : Int32), .unset, .unset, .unset, .unset]) (hb hby own_d1_158) rfl rfl ?_
                  refine ow_goto (q := 165) X0 hx (hb hby own_d1_160) (by decide) (by decide) ?_
                  exact cut165_3 (4 : Int32) (144 : Int32) (191 : Int32) _ _ X0 e0 N0 (by unfold own_H; simp only [Int32.lt_iff_toInt_lt, ← Int32.toInt_inj, Int32.reduceToInt, true_and, and_true] at hc22_8 hc35_9 hc42_25 hc55_26 hc111_27 hc118_28 hc128_29 hc146_30 ⊢; omega)
              · refine ow_icmpYes (q := 137) X0 hx (hb hby own_d1_128) (Jvm.Free.XT.ii_ne_t hc128_29) (by decide) (by decide) ?_
                refine ow_sipush (q := 140) X0 hx (128 : Int32) (hb hby own_d1_137) rfl rfl ?_
                refine ow_istore (q := 142) X0 hx (L' := #[rv a0, iv (0 : Int32), iv (1 : Int32), iv v2, iv (4 : Int32), iv (128 : Int32), iv (191 : Int32), .unset, .unset, .unset, .unset]) (hb hby own_d1_140) rfl rfl ?_
                refine ow_iloadN (q := 143) X0 hx (hb hby own_d1_142) rfl rfl ?_
                refine ow_sipush (q := 146) X0 hx (244 : Int32) (hb hby own_d1_143) rfl rfl ?_
                by_cases hc146_31 : v2 = (244 : Int32)
                · refine ow_icmpNo (q := 149) X0 hx (hb hby own_d1_146) rfl (Jvm.Free.XT.ii_ne_f hc146_31) ?_
                  refine ow_sipush (q := 152) X0 hx (143 : Int32) (hb hby own_d1_149) rfl rfl ?_
                  refine ow_goto (q := 158) X0 hx (hb hby own_d1_152) (by decide) (by decide) ?_
                  refine ow_istore (q := 160) X0 hx (L' := #[rv a0, iv (0 : Int32), iv (1 : Int32), iv v2, iv (4 : Int32), iv (128 : Int32), iv (143 : Int32), .unset, .unset, .unset, .unset]) (hb hby own_d1_158) rfl rfl ?_
                  refine ow_goto (q := 165) X0 hx (hb hby own_d1_160) (by decide) (by decide) ?_
                  exact cut165_3 (4 : Int32) (128 : Int32) (143 : Int32) _ _ X0 e0 N0 (by unfold own_H; simp only [Int32.lt_iff_toInt_lt, ← Int32.toInt_inj, Int32.reduceToInt, true_and, and_true] at hc22_8 hc35_9 hc42_25 hc55_26 hc111_27 hc118_28 hc128_29 hc146_31 ⊢; omega)
                · refine ow_icmpYes (q := 155) X0 hx (hb hby own_d1_146) (Jvm.Free.XT.ii_ne_t hc146_31) (by decide) (by decide) ?_
                  refine ow_sipush (q := 158) X0 hx (191 : Int32) (hb hby own_d1_155) rfl rfl ?_
                  refine ow_istore (q := 160) X0 hx (L' := #[rv a0, iv (0 : Int32), iv (1 : Int32), iv v2, iv (4 : Int32), iv (128 : Int32), iv (191 : Int32), .unset, .unset, .unset, .unset]) (hb hby own_d1_158) rfl rfl ?_
                  refine ow_goto (q := 165) X0 hx (hb hby own_d1_160) (by decide) (by decide) ?_
                  exact cut165_3 (4 : Int32) (128 : Int32) (191 : Int32) _ _ X0 e0 N0 (by unfold own_H; simp only [Int32.lt_iff_toInt_lt, ← Int32.toInt_inj, Int32.reduceToInt, true_and, and_true] at hc22_8 hc35_9 hc42_25 hc55_26 hc111_27 hc118_28 hc128_29 hc146_31 ⊢; omega)
        · refine ow_icmpNo (q := 58) X0 hx (hb hby own_d1_55) rfl (Jvm.Free.XT.ii_lt_f hc55_26) ?_
          refine ow_iloadN (q := 59) X0 hx (hb hby own_d1_58) rfl rfl ?_
          refine ow_sipush (q := 62) X0 hx (239 : Int32) (hb hby own_d1_59) rfl rfl ?_
          by_cases hc62_32 : (239 : Int32) < v2
          · refine ow_icmpYes (q := 107) X0 hx (hb hby own_d1_62) (Jvm.Free.XT.ii_gt_t hc62_32) (by decide) (by decide) ?_
            refine ow_iloadN (q := 108) X0 hx (hb hby own_d1_107) rfl rfl ?_
            refine ow_sipush (q := 111) X0 hx (240 : Int32) (hb hby own_d1_108) rfl rfl ?_
            by_cases hc111_33 : v2 < (240 : Int32)
            · refine ow_icmpYes (q := 163) X0 hx (hb hby own_d1_111) (Jvm.Free.XT.ii_lt_t hc111_33) (by decide) (by decide) ?_
              refine ow_iconst (q := 164) X0 hx (0 : Int32) (hb hby own_d1_163) rfl rfl ?_
              refine ownRetI X0 hx Bd.returns (hb hby own_d1_164) hlk (by decide) (by decide) ?_
              subst hv_v2 hv_v1
              rw [e0]
              refine ⟨(0 : Int32), rfl, N0, rfl, ?_⟩
              simp only [Int32.lt_iff_toInt_lt, ← Int32.toInt_inj, Int32.reduceToInt] at hc22_8 hc35_9 hc42_25 hc55_26 hc62_32 hc111_33 ⊢
              unfold own_sq
              (repeat' split) <;> omega
            · refine ow_icmpNo (q := 114) X0 hx (hb hby own_d1_111) rfl (Jvm.Free.XT.ii_lt_f hc111_33) ?_
              refine ow_iloadN (q := 115) X0 hx (hb hby own_d1_114) rfl rfl ?_
              refine ow_sipush (q := 118) X0 hx (244 : Int32) (hb hby own_d1_115) rfl rfl ?_
              by_cases hc118_34 : (244 : Int32) < v2
              · refine ow_icmpYes (q := 163) X0 hx (hb hby own_d1_118) (Jvm.Free.XT.ii_gt_t hc118_34) (by decide) (by decide) ?_
                refine ow_iconst (q := 164) X0 hx (0 : Int32) (hb hby own_d1_163) rfl rfl ?_
                refine ownRetI X0 hx Bd.returns (hb hby own_d1_164) hlk (by decide) (by decide) ?_
                subst hv_v2 hv_v1
                rw [e0]
                refine ⟨(0 : Int32), rfl, N0, rfl, ?_⟩
                simp only [Int32.lt_iff_toInt_lt, ← Int32.toInt_inj, Int32.reduceToInt] at hc22_8 hc35_9 hc42_25 hc55_26 hc62_32 hc111_33 hc118_34 ⊢
                unfold own_sq
                (repeat' split) <;> omega
              · refine ow_icmpNo (q := 121) X0 hx (hb hby own_d1_118) rfl (Jvm.Free.XT.ii_gt_f hc118_34) ?_
                refine ow_iconst (q := 122) X0 hx (4 : Int32) (hb hby own_d1_121) rfl rfl ?_
                refine ow_istore (q := 124) X0 hx (L' := #[rv a0, iv (0 : Int32), iv (1 : Int32), iv v2, iv (4 : Int32), iv (128 : Int32), iv (191 : Int32), .unset, .unset, .unset, .unset]) (hb hby own_d1_122) rfl rfl ?_
                refine ow_iloadN (q := 125) X0 hx (hb hby own_d1_124) rfl rfl ?_
                refine ow_sipush (q := 128) X0 hx (240 : Int32) (hb hby own_d1_125) rfl rfl ?_
                by_cases hc128_35 : v2 = (240 : Int32)
                · refine ow_icmpNo (q := 131) X0 hx (hb hby own_d1_128) rfl (Jvm.Free.XT.ii_ne_f hc128_35) ?_
                  refine ow_sipush (q := 134) X0 hx (144 : Int32) (hb hby own_d1_131) rfl rfl ?_
                  refine ow_goto (q := 140) X0 hx (hb hby own_d1_134) (by decide) (by decide) ?_
                  refine ow_istore (q := 142) X0 hx (L' := #[rv a0, iv (0 : Int32), iv (1 : Int32), iv v2, iv (4 : Int32), iv (144 : Int32), iv (191 : Int32), .unset, .unset, .unset, .unset]) (hb hby own_d1_140) rfl rfl ?_
                  refine ow_iloadN (q := 143) X0 hx (hb hby own_d1_142) rfl rfl ?_
                  refine ow_sipush (q := 146) X0 hx (244 : Int32) (hb hby own_d1_143) rfl rfl ?_
                  by_cases hc146_36 : v2 = (244 : Int32)
                  · refine ow_icmpNo (q := 149) X0 hx (hb hby own_d1_146) rfl (Jvm.Free.XT.ii_ne_f hc146_36) ?_
                    refine ow_sipush (q := 152) X0 hx (143 : Int32) (hb hby own_d1_149) rfl rfl ?_
                    refine ow_goto (q := 158) X0 hx (hb hby own_d1_152) (by decide) (by decide) ?_
                    refine ow_istore (q := 160) X0 hx (L' := #[rv a0, iv (0 : Int32), iv (1 : Int32), iv v2, iv (4 : Int32), iv (144 : Int32), iv (143 : Int32), .unset, .unset, .unset, .unset]) (hb hby own_d1_158) rfl rfl ?_
                    refine ow_goto (q := 165) X0 hx (hb hby own_d1_160) (by decide) (by decide) ?_
                    exact cut165_3 (4 : Int32) (144 : Int32) (143 : Int32) _ _ X0 e0 N0 (by unfold own_H; simp only [Int32.lt_iff_toInt_lt, ← Int32.toInt_inj, Int32.reduceToInt, true_and, and_true] at hc22_8 hc35_9 hc42_25 hc55_26 hc62_32 hc111_33 hc118_34 hc128_35 hc146_36 ⊢; omega)
                  · refine ow_icmpYes (q := 155) X0 hx (hb hby own_d1_146) (Jvm.Free.XT.ii_ne_t hc146_36) (by decide) (by decide) ?_
                    refine ow_sipush (q := 158) X0 hx (191 : Int32) (hb hby own_d1_155) rfl rfl ?_
                    refine ow_istore (q := 160) X0 hx (L' := #[rv a0, iv (0 : Int32), iv (1 : Int32), iv v2, iv (4 : Int32), iv (144 : Int32), iv (191 : Int32), .unset, .unset, .unset, .unset]) (hb hby own_d1_158) rfl rfl ?_
                    refine ow_goto (q := 165) X0 hx (hb hby own_d1_160) (by decide) (by decide) ?_
                    exact cut165_3 (4 : Int32) (144 : Int32) (191 : Int32) _ _ X0 e0 N0 (by unfold own_H; simp only [Int32.lt_iff_toInt_lt, ← Int32.toInt_inj, Int32.reduceToInt, true_and, and_true] at hc22_8 hc35_9 hc42_25 hc55_26 hc62_32 hc111_33 hc118_34 hc128_35 hc146_36 ⊢; omega)
                · refine ow_icmpYes (q := 137) X0 hx (hb hby own_d1_128) (Jvm.Free.XT.ii_ne_t hc128_35) (by decide) (by decide) ?_
                  refine ow_sipush (q := 140) X0 hx (128 : Int32) (hb hby own_d1_137) rfl rfl ?_
                  refine ow_istore (q := 142) X0 hx (L' := #[rv a0, iv (0 : Int32), iv (1 : Int32), iv v2, iv (4 : Int32), iv (128 : Int32), iv (191 : Int32), .unset, .unset, .unset, .unset]) (hb hby own_d1_140) rfl rfl ?_
                  refine ow_iloadN (q := 143) X0 hx (hb hby own_d1_142) rfl rfl ?_
                  refine ow_sipush (q := 146) X0 hx (244 : Int32) (hb hby own_d1_143) rfl rfl ?_
                  by_cases hc146_37 : v2 = (244 : Int32)
                  · refine ow_icmpNo (q := 149) X0 hx (hb hby own_d1_146) rfl (Jvm.Free.XT.ii_ne_f hc146_37) ?_
                    refine ow_sipush (q := 152) X0 hx (143 : Int32) (hb hby own_d1_149) rfl rfl ?_
                    refine ow_goto (q := 158) X0 hx (hb hby own_d1_152) (by decide) (by decide) ?_
                    refine ow_istore (q := 160) X0 hx (L' := #[rv a0, iv (0 : Int32), iv (1 : Int32), iv v2, iv (4 : Int32), iv (128 : Int32), iv (143 : Int32), .unset, .unset, .unset, .unset]) (hb hby own_d1_158) rfl rfl ?_
                    refine ow_goto (q := 165) X0 hx (hb hby own_d1_160) (by decide) (by decide) ?_
                    exact cut165_3 (4 : Int32) (128 : Int32) (143 : Int32) _ _ X0 e0 N0 (by unfold own_H; simp only [Int32.lt_iff_toInt_lt, ← Int32.toInt_inj, Int32.reduceToInt, true_and, and_true] at hc22_8 hc35_9 hc42_25 hc55_26 hc62_32 hc111_33 hc118_34 hc128_35 hc146_37 ⊢; omega)
                  · refine ow_icmpYes (q := 155) X0 hx (hb hby own_d1_146) (Jvm.Free.XT.ii_ne_t hc146_37) (by decide) (by decide) ?_
                    refine ow_sipush (q := 158) X0 hx (191 : Int32) (hb hby own_d1_155) rfl rfl ?_
                    refine ow_istore (q := 160) X0 hx (L' := #[rv a0, iv (0 : Int32), iv (1 : Int32), iv v2, iv (4 : Int32), iv (128 : Int32), iv (191 : Int32), .unset, .unset, .unset, .unset]) (hb hby own_d1_158) rfl rfl ?_
                    refine ow_goto (q := 165) X0 hx (hb hby own_d1_160) (by decide) (by decide) ?_
                    exact cut165_3 (4 : Int32) (128 : Int32) (191 : Int32) _ _ X0 e0 N0 (by unfold own_H; simp only [Int32.lt_iff_toInt_lt, ← Int32.toInt_inj, Int32.reduceToInt, true_and, and_true] at hc22_8 hc35_9 hc42_25 hc55_26 hc62_32 hc111_33 hc118_34 hc128_35 hc146_37 ⊢; omega)
          · refine ow_icmpNo (q := 65) X0 hx (hb hby own_d1_62) rfl (Jvm.Free.XT.ii_gt_f hc62_32) ?_
            refine ow_iconst (q := 66) X0 hx (3 : Int32) (hb hby own_d1_65) rfl rfl ?_
            refine ow_istore (q := 68) X0 hx (L' := #[rv a0, iv (0 : Int32), iv (1 : Int32), iv v2, iv (3 : Int32), iv (128 : Int32), iv (191 : Int32), .unset, .unset, .unset, .unset]) (hb hby own_d1_66) rfl rfl ?_
            refine ow_iloadN (q := 69) X0 hx (hb hby own_d1_68) rfl rfl ?_
            refine ow_sipush (q := 72) X0 hx (224 : Int32) (hb hby own_d1_69) rfl rfl ?_
            by_cases hc72_38 : v2 = (224 : Int32)
            · refine ow_icmpNo (q := 75) X0 hx (hb hby own_d1_72) rfl (Jvm.Free.XT.ii_ne_f hc72_38) ?_
              refine ow_sipush (q := 78) X0 hx (160 : Int32) (hb hby own_d1_75) rfl rfl ?_
              refine ow_goto (q := 84) X0 hx (hb hby own_d1_78) (by decide) (by decide) ?_
              refine ow_istore (q := 86) X0 hx (L' := #[rv a0, iv (0 : Int32), iv (1 : Int32), iv v2, iv (3 : Int32), iv (160 : Int32), iv (191 : Int32), .unset, .unset, .unset, .unset]) (hb hby own_d1_84) rfl rfl ?_
              refine ow_iloadN (q := 87) X0 hx (hb hby own_d1_86) rfl rfl ?_
              refine ow_sipush (q := 90) X0 hx (237 : Int32) (hb hby own_d1_87) rfl rfl ?_
              by_cases hc90_39 : v2 = (237 : Int32)
              · refine ow_icmpNo (q := 93) X0 hx (hb hby own_d1_90) rfl (Jvm.Free.XT.ii_ne_f hc90_39) ?_
                refine ow_sipush (q := 96) X0 hx (159 : Int32) (hb hby own_d1_93) rfl rfl ?_
                refine ow_goto (q := 102) X0 hx (hb hby own_d1_96) (by decide) (by decide) ?_
                refine ow_istore (q := 104) X0 hx (L' := #[rv a0, iv (0 : Int32), iv (1 : Int32), iv v2, iv (3 : Int32), iv (160 : Int32), iv (159 : Int32), .unset, .unset, .unset, .unset]) (hb hby own_d1_102) rfl rfl ?_
                refine ow_goto (q := 165) X0 hx (hb hby own_d1_104) (by decide) (by decide) ?_
                exact cut165_3 (3 : Int32) (160 : Int32) (159 : Int32) _ _ X0 e0 N0 (by unfold own_H; simp only [Int32.lt_iff_toInt_lt, ← Int32.toInt_inj, Int32.reduceToInt, true_and, and_true] at hc22_8 hc35_9 hc42_25 hc55_26 hc62_32 hc72_38 hc90_39 ⊢; omega)
              · refine ow_icmpYes (q := 99) X0 hx (hb hby own_d1_90) (Jvm.Free.XT.ii_ne_t hc90_39) (by decide) (by decide) ?_
                refine ow_sipush (q := 102) X0 hx (191 : Int32) (hb hby own_d1_99) rfl rfl ?_
                refine ow_istore (q := 104) X0 hx (L' := #[rv a0, iv (0 : Int32), iv (1 : Int32), iv v2, iv (3 : Int32), iv (160 : Int32), iv (191 : Int32), .unset, .unset, .unset, .unset]) (hb hby own_d1_102) rfl rfl ?_
                refine ow_goto (q := 165) X0 hx (hb hby own_d1_104) (by decide) (by decide) ?_
                exact cut165_3 (3 : Int32) (160 : Int32) (191 : Int32) _ _ X0 e0 N0 (by unfold own_H; simp only [Int32.lt_iff_toInt_lt, ← Int32.toInt_inj, Int32.reduceToInt, true_and, and_true] at hc22_8 hc35_9 hc42_25 hc55_26 hc62_32 hc72_38 hc90_39 ⊢; omega)
            · refine ow_icmpYes (q := 81) X0 hx (hb hby own_d1_72) (Jvm.Free.XT.ii_ne_t hc72_38) (by decide) (by decide) ?_
              refine ow_sipush (q := 84) X0 hx (128 : Int32) (hb hby own_d1_81) rfl rfl ?_
              refine ow_istore (q := 86) X0 hx (L' := #[rv a0, iv (0 : Int32), iv (1 : Int32), iv v2, iv (3 : Int32), iv (128 : Int32), iv (191 : Int32), .unset, .unset, .unset, .unset]) (hb hby own_d1_84) rfl rfl ?_
              refine ow_iloadN (q := 87) X0 hx (hb hby own_d1_86) rfl rfl ?_
              refine ow_sipush (q := 90) X0 hx (237 : Int32) (hb hby own_d1_87) rfl rfl ?_
              by_cases hc90_40 : v2 = (237 : Int32)
              · refine ow_icmpNo (q := 93) X0 hx (hb hby own_d1_90) rfl (Jvm.Free.XT.ii_ne_f hc90_40) ?_
                refine ow_sipush (q := 96) X0 hx (159 : Int32) (hb hby own_d1_93) rfl rfl ?_
                refine ow_goto (q := 102) X0 hx (hb hby own_d1_96) (by decide) (by decide) ?_
                refine ow_istore (q := 104) X0 hx (L' := #[rv a0, iv (0 : Int32), iv (1 : Int32), iv v2, iv (3 : Int32), iv (128 : Int32), iv (159 : Int32), .unset, .unset, .unset, .unset]) (hb hby own_d1_102) rfl rfl ?_
                refine ow_goto (q := 165) X0 hx (hb hby own_d1_104) (by decide) (by decide) ?_
                exact cut165_3 (3 : Int32) (128 : Int32) (159 : Int32) _ _ X0 e0 N0 (by unfold own_H; simp only [Int32.lt_iff_toInt_lt, ← Int32.toInt_inj, Int32.reduceToInt, true_and, and_true] at hc22_8 hc35_9 hc42_25 hc55_26 hc62_32 hc72_38 hc90_40 ⊢; omega)
              · refine ow_icmpYes (q := 99) X0 hx (hb hby own_d1_90) (Jvm.Free.XT.ii_ne_t hc90_40) (by decide) (by decide) ?_
                refine ow_sipush (q := 102) X0 hx (191 : Int32) (hb hby own_d1_99) rfl rfl ?_
                refine ow_istore (q := 104) X0 hx (L' := #[rv a0, iv (0 : Int32), iv (1 : Int32), iv v2, iv (3 : Int32), iv (128 : Int32), iv (191 : Int32), .unset, .unset, .unset, .unset]) (hb hby own_d1_102) rfl rfl ?_
                refine ow_goto (q := 165) X0 hx (hb hby own_d1_104) (by decide) (by decide) ?_
                exact cut165_3 (3 : Int32) (128 : Int32) (191 : Int32) _ _ X0 e0 N0 (by unfold own_H; simp only [Int32.lt_iff_toInt_lt, ← Int32.toInt_inj, Int32.reduceToInt, true_and, and_true] at hc22_8 hc35_9 hc42_25 hc55_26 hc62_32 hc72_38 hc90_40 ⊢; omega)
      · refine ow_icmpNo (q := 45) X0 hx (hb hby own_d1_42) rfl (Jvm.Free.XT.ii_gt_f hc42_25) ?_
        refine ow_iconst (q := 46) X0 hx (2 : Int32) (hb hby own_d1_45) rfl rfl ?_
        refine ow_istore (q := 48) X0 hx (L' := #[rv a0, iv (0 : Int32), iv (1 : Int32), iv v2, iv (2 : Int32), iv (128 : Int32), iv (191 : Int32), .unset, .unset, .unset, .unset]) (hb hby own_d1_46) rfl rfl ?_
        refine ow_goto (q := 165) X0 hx (hb hby own_d1_48) (by decide) (by decide) ?_
        exact cut165_3 (2 : Int32) (128 : Int32) (191 : Int32) _ _ X0 e0 N0 (by unfold own_H; simp only [Int32.lt_iff_toInt_lt, ← Int32.toInt_inj, Int32.reduceToInt, true_and, and_true] at hc22_8 hc35_9 hc42_25 ⊢; omega)
theorem own_d1_185 : decode prog_24_method_14_code 185 = .ok (.aload_n 0, 1) := by decide +kernel
theorem own_d1_186 : decode prog_24_method_14_code 186 = .ok (.iload_n 1, 1) := by decide +kernel
theorem own_d1_187 : decode prog_24_method_14_code 187 = .ok (.iload 7, 2) := by decide +kernel
theorem own_d1_189 : decode prog_24_method_14_code 189 = .ok (.iadd, 1) := by decide +kernel
theorem own_d1_190 : decode prog_24_method_14_code 190 = .ok (.baload, 1) := by decide +kernel
theorem own_d1_191 : decode prog_24_method_14_code 191 = .ok (.sipush 255, 3) := by decide +kernel
theorem own_d1_194 : decode prog_24_method_14_code 194 = .ok (.iand, 1) := by decide +kernel
theorem own_d1_195 : decode prog_24_method_14_code 195 = .ok (.istore 8, 2) := by decide +kernel
theorem own_d1_197 : decode prog_24_method_14_code 197 = .ok (.iload 7, 2) := by decide +kernel
theorem own_d1_199 : decode prog_24_method_14_code 199 = .ok (.iconst 1, 1) := by decide +kernel
theorem own_d1_200 : decode prog_24_method_14_code 200 = .ok (.if_icmp .ne 8, 3) := by decide +kernel
theorem own_d1_203 : decode prog_24_method_14_code 203 = .ok (.iload 5, 2) := by decide +kernel
theorem own_d1_205 : decode prog_24_method_14_code 205 = .ok (.goto 6, 3) := by decide +kernel
theorem own_d1_211 : decode prog_24_method_14_code 211 = .ok (.istore 9, 2) := by decide +kernel
theorem own_d1_213 : decode prog_24_method_14_code 213 = .ok (.iload 7, 2) := by decide +kernel
theorem own_d1_215 : decode prog_24_method_14_code 215 = .ok (.iconst 1, 1) := by decide +kernel
theorem own_d1_216 : decode prog_24_method_14_code 216 = .ok (.if_icmp .ne 8, 3) := by decide +kernel
theorem own_d1_219 : decode prog_24_method_14_code 219 = .ok (.iload 6, 2) := by decide +kernel
theorem own_d1_221 : decode prog_24_method_14_code 221 = .ok (.goto 6, 3) := by decide +kernel
theorem own_d1_227 : decode prog_24_method_14_code 227 = .ok (.istore 10, 2) := by decide +kernel
theorem own_d1_229 : decode prog_24_method_14_code 229 = .ok (.iload 8, 2) := by decide +kernel
theorem own_d1_231 : decode prog_24_method_14_code 231 = .ok (.iload 9, 2) := by decide +kernel
theorem own_d1_233 : decode prog_24_method_14_code 233 = .ok (.if_icmp .lt 10, 3) := by decide +kernel
theorem own_d1_243 : decode prog_24_method_14_code 243 = .ok (.iconst 0, 1) := by decide +kernel
theorem own_d1_244 : decode prog_24_method_14_code 244 = .ok (.ireturn, 1) := by decide +kernel
theorem own_d1_236 : decode prog_24_method_14_code 236 = .ok (.iload 8, 2) := by decide +kernel
theorem own_d1_238 : decode prog_24_method_14_code 238 = .ok (.iload 10, 2) := by decide +kernel
theorem own_d1_240 : decode prog_24_method_14_code 240 = .ok (.if_icmp .le 5, 3) := by decide +kernel
theorem own_d1_245 : decode prog_24_method_14_code 245 = .ok (.iinc 7 1, 3) := by decide +kernel
theorem own_d1_248 : decode prog_24_method_14_code 248 = .ok (.goto (-70), 3) := by decide +kernel
theorem own_ef1_seq_0_2 (m : MethodId) (a0 : Addr) : entryFrame m #[(.ref a0), (.int (0 : Int32)), (.int (2 : Int32))] 11 = mkF m 0 #[rv a0, iv (0 : Int32), iv (2 : Int32), .unset, .unset, .unset, .unset, .unset, .unset, .unset, .unset] [] := by first | (simp [entryFrame, mkF, argsToLocals, Value.category]; done) | rfl
def Q_seq_0_2 (Z : State) (a0 : Addr) (g : Nat → Int32) (h0 : Heap) (n0 : Nat) (v : Option Value) (h : Heap) (L : List Loc) : Prop := ∃ (r : Int32), v = some (.int r) ∧ Fr n0 L ∧ h = h0 ∧ (r.toInt = own_sq ((g 0) &&& (255 : Int32)).toInt ((g 1) &&& (255 : Int32)).toInt ((g 2) &&& (255 : Int32)).toInt ((g 3) &&& (255 : Int32)).toInt 2)
set_option maxRecDepth 65536 in
set_option maxHeartbeats 40000000 in
theorem rm_seq_0_2 (l : Launch) (Z : State) (av0 : Array Value) (hw : ∀ d ∈ tables_1, d.before av0 Z = true) (ws : List Jvm.Cond) (a0 : Addr) (g : Nat → Int32) (h0 : Heap) (n0 : Nat) (Z0 : n0 ≤ h0.size) (HF0 : ownAI Z h0 a0 .byte 5 g) :
    MetFree l (⟨"com/example/descend/descend/XmlChars", "sequenceLength", "([BII)I"⟩ : MethodName) (head1 (Jvm.Cond.code (⟨"com/example/descend/descend/XmlChars", "sequenceLength", "([BII)I"⟩ : MethodName) prog_24_method_14_code 11 (some .int) :: ws) ({ frames := 0, cells := 0, slots := 0, locals := 0 } : Room)) (fun a U => a = #[(.ref a0), (.int (0 : Int32)), (.int (2 : Int32))] ∧ Z.Warmed39 U.vm ∧ U.heap = h0) (fun _ _ _ _ _ => True) (fun _ U o U' => ∃ v L, o = .returned v ∧ (Q_seq_0_2 Z a0 g h0 n0) v U'.heap L ∧ FrameEnd U o U' L ({ frames := 0, cells := 0, slots := 0, locals := 0 } : Room).cells ({ frames := 0, cells := 0, slots := 0, locals := 0 } : Room).slots) := by
  refine MetFree.of_bodySF (plainFor_of_name own_pn_XmlChars) hisR ?_
  intro p e s m args below meth c s₁ Bd hml0 hP hK
  obtain ⟨rfl, hZ, hh⟩ := hP
  have hx := Bd.exec
  have hby := Bd.bytes
  have hml : c.maxLocals = 11 := hml0
  have hown : s.vm.findClass "com/example/descend/descend/XmlChars" = some m.cls := findClass_of_methodNamed Bd.named
  have hnm := (name_of_methodNamed Bd.named Bd.method).1
  have hlk : meth.locks = false := BodyLoose.notSynchronized Bd
  have X0 : Stand p l e ({ frames := 0, cells := 0, slots := 0, locals := 0 } : Room) s m #[(.ref a0), (.int (0 : Int32)), (.int (2 : Int32))] below meth c s₁ [] 0 0 := Stand.of_body Bd
  have e0 : s₁.heap = h0 := by rw [← hh, Bd.state]; rfl
  have N0 := Fr.nil n0
  have K0 : Keep h0 h0 [] := Keep.refl _ _
  show ownEnds p e below s (Q_seq_0_2 Z a0 g h0 n0) ({ frames := 0, cells := 0, slots := 0, locals := 0 } : Room).cells ({ frames := 0, cells := 0, slots := 0, locals := 0 } : Room).slots s₁ (entryFrame m #[(.ref a0), (.int (0 : Int32)), (.int (2 : Int32))] 11)
  refine ownCast (own_ef1_seq_0_2 m a0) ?_
  refine ow_aloadN (q := 1) X0 hx (hb hby own_d1_0) rfl rfl rfl ?_
  refine ow_iloadN (q := 2) X0 hx (hb hby own_d1_1) rfl rfl ?_
  refine ownGo (T' := s₁) (f' := (mkF m 3 #[rv a0, iv (0 : Int32), iv (2 : Int32), .unset, .unset, .unset, .unset, .unset, .unset, .unset, .unset] [(.int (g 0))])) (ownBaload HF0 X0 hx hZ e0 (j := (0 : Int32)) (by unfold ownIn; decide) (g := (mkF m 2 #[rv a0, iv (0 : Int32), iv (2 : Int32), .unset, .unset, .unset, .unset, .unset, .unset, .unset, .unset] [(.int (0 : Int32)), (.ref a0)])) rfl rfl (hb hby own_d1_2)) ?_
  generalize hv_v1 : (g 0) = v1
  refine ow_sipush (q := 6) X0 hx (255 : Int32) (hb hby own_d1_3) rfl rfl ?_
  refine ow_iand (q := 7) X0 hx _ (hb hby own_d1_6) rfl rfl ?_
  generalize hv_v2 : (v1 &&& (255 : Int32)) = v2
  refine ow_istoreN (q := 8) X0 hx (L' := #[rv a0, iv (0 : Int32), iv (2 : Int32), iv v2, .unset, .unset, .unset, .unset, .unset, .unset, .unset]) (hb hby own_d1_7) rfl rfl ?_
  refine ow_sipush (q := 11) X0 hx (128 : Int32) (hb hby own_d1_8) rfl rfl ?_
  refine ow_istore (q := 13) X0 hx (L' := #[rv a0, iv (0 : Int32), iv (2 : Int32), iv v2, .unset, iv (128 : Int32), .unset, .unset, .unset, .unset, .unset]) (hb hby own_d1_11) rfl rfl ?_
  refine ow_sipush (q := 16) X0 hx (191 : Int32) (hb hby own_d1_13) rfl rfl ?_
  refine ow_istore (q := 18) X0 hx (L' := #[rv a0, iv (0 : Int32), iv (2 : Int32), iv v2, .unset, iv (128 : Int32), iv (191 : Int32), .unset, .unset, .unset, .unset]) (hb hby own_d1_16) rfl rfl ?_
  have cut165_3 : ∀ (ln : Int32) (lo : Int32) (hi : Int32) (Tc3 : State) (lc3 : List Loc), Stand p l e ({ frames := 0, cells := 0, slots := 0, locals := 0 } : Room) s m #[(.ref a0), (.int (0 : Int32)), (.int (2 : Int32))] below meth c Tc3 lc3 0 0 → Tc3.heap = h0 → Fr n0 lc3 → (own_H v2.toInt ln.toInt lo.toInt hi.toInt) → ownEnds p e below s (Q_seq_0_2 Z a0 g h0 n0) ({ frames := 0, cells := 0, slots := 0, locals := 0 } : Room).cells ({ frames := 0, cells := 0, slots := 0, locals := 0 } : Room).slots Tc3 (mkF m 165 #[rv a0, iv (0 : Int32), iv (2 : Int32), iv v2, iv ln, iv lo, iv hi, .unset, .unset, .unset, .unset] []) := by
    intro ln lo hi Tc3 lc3 Xc3 ec3 Nc3 hH
    refine ow_iloadN (q := 166) Xc3 hx (hb hby own_d1_165) rfl rfl ?_
    rcases own_Hln hH with hs4 | hs5 | hs6 | hs7
    · subst hs4
      refine ow_iload (q := 168) Xc3 hx (hb hby own_d1_166) rfl rfl ?_
      refine ow_iadd (q := 169) Xc3 hx (1 : Int32) (hb hby own_d1_168) rfl (by decide) ?_
      refine ow_iloadN (q := 170) Xc3 hx (hb hby own_d1_169) rfl rfl ?_
      refine ow_icmpYes (q := 175) Xc3 hx (hb hby own_d1_170) (Jvm.Free.XT.ii_le_t (by decide)) (by decide) (by decide) ?_
      refine ow_iconst (q := 176) Xc3 hx (1 : Int32) (hb hby own_d1_175) rfl rfl ?_
      refine ow_istore (q := 178) Xc3 hx (L' := #[rv a0, iv (0 : Int32), iv (2 : Int32), iv v2, iv (1 : Int32), iv lo, iv hi, iv (1 : Int32), .unset, .unset, .unset]) (hb hby own_d1_176) rfl rfl ?_
      refine ow_iload (q := 180) Xc3 hx (hb hby own_d1_178) rfl rfl ?_
      refine ow_iload (q := 182) Xc3 hx (hb hby own_d1_180) rfl rfl ?_
      refine ow_icmpYes (q := 251) Xc3 hx (hb hby own_d1_182) (Jvm.Free.XT.ii_ge_t (by decide)) (by decide) (by decide) ?_
      refine ow_iload (q := 253) Xc3 hx (hb hby own_d1_251) rfl rfl ?_
      refine ownRetI Xc3 hx Bd.returns (hb hby own_d1_253) hlk (by decide) (by decide) ?_
      subst hv_v2 hv_v1
      rw [ec3]
      refine ⟨(1 : Int32), rfl, Nc3, rfl, ?_⟩
      unfold own_H at hH
      simp only [Int32.lt_iff_toInt_lt, ← Int32.toInt_inj, Int32.reduceToInt] at  hH ⊢
      unfold own_sq
      (repeat' split) <;> omega
    · subst hs5
      refine ow_iload (q := 168) Xc3 hx (hb hby own_d1_166) rfl rfl ?_
      refine ow_iadd (q := 169) Xc3 hx (2 : Int32) (hb hby own_d1_168) rfl (by decide) ?_
      refine ow_iloadN (q := 170) Xc3 hx (hb hby own_d1_169) rfl rfl ?_
      refine ow_icmpYes (q := 175) Xc3 hx (hb hby own_d1_170) (Jvm.Free.XT.ii_le_t (by decide)) (by decide) (by decide) ?_
      refine ow_iconst (q := 176) Xc3 hx (1 : Int32) (hb hby own_d1_175) rfl rfl ?_
      refine ow_istore (q := 178) Xc3 hx (L' := #[rv a0, iv (0 : Int32), iv (2 : Int32), iv v2, iv (2 : Int32), iv lo, iv hi, iv (1 : Int32), .unset, .unset, .unset]) (hb hby own_d1_176) rfl rfl ?_
      refine ow_iload (q := 180) Xc3 hx (hb hby own_d1_178) rfl rfl ?_
      refine ow_iload (q := 182) Xc3 hx (hb hby own_d1_180) rfl rfl ?_
      refine ow_icmpNo (q := 185) Xc3 hx (hb hby own_d1_182) rfl (Jvm.Free.XT.ii_ge_f (by decide)) ?_
      refine ow_aloadN (q := 186) Xc3 hx (hb hby own_d1_185) rfl rfl rfl ?_
      refine ow_iloadN (q := 187) Xc3 hx (hb hby own_d1_186) rfl rfl ?_
      refine ow_iload (q := 189) Xc3 hx (hb hby own_d1_187) rfl rfl ?_
      refine ow_iadd (q := 190) Xc3 hx (1 : Int32) (hb hby own_d1_189) rfl (by decide) ?_
      refine ownGo (T' := Tc3) (f' := (mkF m 191 #[rv a0, iv (0 : Int32), iv (2 : Int32), iv v2, iv (2 : Int32), iv lo, iv hi, iv (1 : Int32), .unset, .unset, .unset] [(.int (g 1))])) (ownBaload HF0 Xc3 hx hZ ec3 (j := (1 : Int32)) (by unfold ownIn; decide) (g := (mkF m 190 #[rv a0, iv (0 : Int32), iv (2 : Int32), iv v2, iv (2 : Int32), iv lo, iv hi, iv (1 : Int32), .unset, .unset, .unset] [(.int (1 : Int32)), (.ref a0)])) rfl rfl (hb hby own_d1_190)) ?_
      generalize hv_v8 : (g 1) = v8
      refine ow_sipush (q := 194) Xc3 hx (255 : Int32) (hb hby own_d1_191) rfl rfl ?_
      refine ow_iand (q := 195) Xc3 hx _ (hb hby own_d1_194) rfl rfl ?_
      generalize hv_v9 : (v8 &&& (255 : Int32)) = v9
      refine ow_istore (q := 197) Xc3 hx (L' := #[rv a0, iv (0 : Int32), iv (2 : Int32), iv v2, iv (2 : Int32), iv lo, iv hi, iv (1 : Int32), iv v9, .unset, .unset]) (hb hby own_d1_195) rfl rfl ?_
      refine ow_iload (q := 199) Xc3 hx (hb hby own_d1_197) rfl rfl ?_
      refine ow_iconst (q := 200) Xc3 hx (1 : Int32) (hb hby own_d1_199) rfl rfl ?_
      refine ow_icmpNo (q := 203) Xc3 hx (hb hby own_d1_200) rfl (Jvm.Free.XT.ii_ne_f (by decide)) ?_
      refine ow_iload (q := 205) Xc3 hx (hb hby own_d1_203) rfl rfl ?_
      refine ow_goto (q := 211) Xc3 hx (hb hby own_d1_205) (by decide) (by decide) ?_
      refine ow_istore (q := 213) Xc3 hx (L' := #[rv a0, iv (0 : Int32), iv (2 : Int32), iv v2, iv (2 : Int32), iv lo, iv hi, iv (1 : Int32), iv v9, iv lo, .unset]) (hb hby own_d1_211) rfl rfl ?_
      refine ow_iload (q := 215) Xc3 hx (hb hby own_d1_213) rfl rfl ?_
      refine ow_iconst (q := 216) Xc3 hx (1 : Int32) (hb hby own_d1_215) rfl rfl ?_
      refine ow_icmpNo (q := 219) Xc3 hx (hb hby own_d1_216) rfl (Jvm.Free.XT.ii_ne_f (by decide)) ?_
      refine ow_iload (q := 221) Xc3 hx (hb hby own_d1_219) rfl rfl ?_
      refine ow_goto (q := 227) Xc3 hx (hb hby own_d1_221) (by decide) (by decide) ?_
      refine ow_istore (q := 229) Xc3 hx (L' := #[rv a0, iv (0 : Int32), iv (2 : Int32), iv v2, iv (2 : Int32), iv lo, iv hi, iv (1 : Int32), iv v9, iv lo, iv hi]) (hb hby own_d1_227) rfl rfl ?_
      refine ow_iload (q := 231) Xc3 hx (hb hby own_d1_229) rfl rfl ?_
      refine ow_iload (q := 233) Xc3 hx (hb hby own_d1_231) rfl rfl ?_
      by_cases hc233_10 : v9 < lo
      · refine ow_icmpYes (q := 243) Xc3 hx (hb hby own_d1_233) (Jvm.Free.XT.ii_lt_t hc233_10) (by decide) (by decide) ?_
        refine ow_iconst (q := 244) Xc3 hx (0 : Int32) (hb hby own_d1_243) rfl rfl ?_
        refine ownRetI Xc3 hx Bd.returns (hb hby own_d1_244) hlk (by decide) (by decide) ?_
        subst hv_v9 hv_v8 hv_v2 hv_v1
        rw [ec3]
        refine ⟨(0 : Int32), rfl, Nc3, rfl, ?_⟩
        unfold own_H at hH
        simp only [Int32.lt_iff_toInt_lt, ← Int32.toInt_inj, Int32.reduceToInt] at hc233_10 hH ⊢
        unfold own_sq
        (repeat' split) <;> omega
      · refine ow_icmpNo (q := 236) Xc3 hx (hb hby own_d1_233) rfl (Jvm.Free.XT.ii_lt_f hc233_10) ?_
        refine ow_iload (q := 238) Xc3 hx (hb hby own_d1_236) rfl rfl ?_
        refine ow_iload (q := 240) Xc3 hx (hb hby own_d1_238) rfl rfl ?_
        by_cases hc240_11 : hi < v9
        · refine ow_icmpNo (q := 243) Xc3 hx (hb hby own_d1_240) rfl (Jvm.Free.XT.ii_le_f hc240_11) ?_
          refine ow_iconst (q := 244) Xc3 hx (0 : Int32) (hb hby own_d1_243) rfl rfl ?_
          refine ownRetI Xc3 hx Bd.returns (hb hby own_d1_244) hlk (by decide) (by decide) ?_
          subst hv_v9 hv_v8 hv_v2 hv_v1
          rw [ec3]
          refine ⟨(0 : Int32), rfl, Nc3, rfl, ?_⟩
          unfold own_H at hH
          simp only [Int32.lt_iff_toInt_lt, ← Int32.toInt_inj, Int32.reduceToInt] at hc233_10 hc240_11 hH ⊢
          unfold own_sq
          (repeat' split) <;> omega
        · refine ow_icmpYes (q := 245) Xc3 hx (hb hby own_d1_240) (Jvm.Free.XT.ii_le_t hc240_11) (by decide) (by decide) ?_
          refine ow_iinc (q := 248) Xc3 hx (L' := #[rv a0, iv (0 : Int32), iv (2 : Int32), iv v2, iv (2 : Int32), iv lo, iv hi, iv (2 : Int32), iv v9, iv lo, iv hi]) (hb hby own_d1_245) rfl rfl rfl ?_
          refine ow_goto (q := 178) Xc3 hx (hb hby own_d1_248) (by decide) (by decide) ?_
          refine ow_iload (q := 180) Xc3 hx (hb hby own_d1_178) rfl rfl ?_
          refine ow_iload (q := 182) Xc3 hx (hb hby own_d1_180) rfl rfl ?_
          refine ow_icmpYes (q := 251) Xc3 hx (hb hby own_d1_182) (Jvm.Free.XT.ii_ge_t (by decide)) (by decide) (by decide) ?_
          refine ow_iload (q := 253) Xc3 hx (hb hby own_d1_251) rfl rfl ?_
          refine ownRetI Xc3 hx Bd.returns (hb hby own_d1_253) hlk (by decide) (by decide) ?_
          subst hv_v9 hv_v8 hv_v2 hv_v1
          rw [ec3]
          refine ⟨(2 : Int32), rfl, Nc3, rfl, ?_⟩
          unfold own_H at hH
          simp only [Int32.lt_iff_toInt_lt, ← Int32.toInt_inj, Int32.reduceToInt] at hc233_10 hc240_11 hH ⊢
          unfold own_sq
          (repeat' split) <;> omega
    · subst hs6
      refine ow_iload (q := 168) Xc3 hx (hb hby own_d1_166) rfl rfl ?_
      refine ow_iadd (q := 169) Xc3 hx (3 : Int32) (hb hby own_d1_168) rfl (by decide) ?_
      refine ow_iloadN (q := 170) Xc3 hx (hb hby own_d1_169) rfl rfl ?_
      refine ow_icmpNo (q := 173) Xc3 hx (hb hby own_d1_170) rfl (Jvm.Free.XT.ii_le_f (by decide)) ?_
      refine ow_iconst (q := 174) Xc3 hx (0 : Int32) (hb hby own_d1_173) rfl rfl ?_
      refine ownRetI Xc3 hx Bd.returns (hb hby own_d1_174) hlk (by decide) (by decide) ?_
      subst hv_v2 hv_v1
      rw [ec3]
      refine ⟨(0 : Int32), rfl, Nc3, rfl, ?_⟩
      unfold own_H at hH
      simp only [Int32.lt_iff_toInt_lt, ← Int32.toInt_inj, Int32.reduceToInt] at  hH ⊢
      unfold own_sq
      (repeat' split) <;> omega
    · subst hs7
      refine ow_iload (q := 168) Xc3 hx (hb hby own_d1_166) rfl rfl ?_
      refine ow_iadd (q := 169) Xc3 hx (4 : Int32) (hb hby own_d1_168) rfl (by decide) ?_
      refine ow_iloadN (q := 170) Xc3 hx (hb hby own_d1_169) rfl rfl ?_
      refine ow_icmpNo (q := 173) Xc3 hx (hb hby own_d1_170) rfl (Jvm.Free.XT.ii_le_f (by decide)) ?_
      refine ow_iconst (q := 174) Xc3 hx (0 : Int32) (hb hby own_d1_173) rfl rfl ?_
      refine ownRetI Xc3 hx Bd.returns (hb hby own_d1_174) hlk (by decide) (by decide) ?_
      subst hv_v2 hv_v1
      rw [ec3]
      refine ⟨(0 : Int32), rfl, Nc3, rfl, ?_⟩
      unfold own_H at hH
      simp only [Int32.lt_iff_toInt_lt, ← Int32.toInt_inj, Int32.reduceToInt] at  hH ⊢
      unfold own_sq
      (repeat' split) <;> omega
  refine ow_iloadN (q := 19) X0 hx (hb hby own_d1_18) rfl rfl ?_
  refine ow_sipush (q := 22) X0 hx (128 : Int32) (hb hby own_d1_19) rfl rfl ?_
  by_cases hc22_12 : v2 < (128 : Int32)
  · refine ow_icmpNo (q := 25) X0 hx (hb hby own_d1_22) rfl (Jvm.Free.XT.ii_ge_f hc22_12) ?_
    refine ow_iconst (q := 26) X0 hx (1 : Int32) (hb hby own_d1_25) rfl rfl ?_
    refine ow_istore (q := 28) X0 hx (L' := #[rv a0, iv (0 : Int32), iv (2 : Int32), iv v2, iv (1 : Int32), iv (128 : Int32), iv (191 : Int32), .unset, .unset, .unset, .unset]) (hb hby own_d1_26) rfl rfl ?_
    refine ow_goto (q := 165) X0 hx (hb hby own_d1_28) (by decide) (by decide) ?_
    exact cut165_3 (1 : Int32) (128 : Int32) (191 : Int32) _ _ X0 e0 N0 (by unfold own_H; simp only [Int32.lt_iff_toInt_lt, ← Int32.toInt_inj, Int32.reduceToInt, true_and, and_true] at hc22_12 ⊢; omega)
  · refine ow_icmpYes (q := 31) X0 hx (hb hby own_d1_22) (Jvm.Free.XT.ii_ge_t hc22_12) (by decide) (by decide) ?_
    refine ow_iloadN (q := 32) X0 hx (hb hby own_d1_31) rfl rfl ?_
    refine ow_sipush (q := 35) X0 hx (194 : Int32) (hb hby own_d1_32) rfl rfl ?_
    by_cases hc35_13 : v2 < (194 : Int32)
    · refine ow_icmpYes (q := 51) X0 hx (hb hby own_d1_35) (Jvm.Free.XT.ii_lt_t hc35_13) (by decide) (by decide) ?_
      refine ow_iloadN (q := 52) X0 hx (hb hby own_d1_51) rfl rfl ?_
      refine ow_sipush (q := 55) X0 hx (224 : Int32) (hb hby own_d1_52) rfl rfl ?_
      by_cases hc55_14 : v2 < (224 : Int32)
      · refine ow_icmpYes (q := 107) X0 hx (hb hby own_d1_55) (Jvm.Free.XT.ii_lt_t hc55_14) (by decide) (by decide) ?_
        refine ow_iloadN (q := 108) X0 hx (hb hby own_d1_107) rfl rfl ?_
        refine ow_sipush (q := 111) X0 hx (240 : Int32) (hb hby own_d1_108) rfl rfl ?_
        by_cases hc111_15 : v2 < (240 : Int32)
        · refine ow_icmpYes (q := 163) X0 hx (hb hby own_d1_111) (Jvm.Free.XT.ii_lt_t hc111_15) (by decide) (by decide) ?_
          refine ow_iconst (q := 164) X0 hx (0 : Int32) (hb hby own_d1_163) rfl rfl ?_
          refine ownRetI X0 hx Bd.returns (hb hby own_d1_164) hlk (by decide) (by decide) ?_
          subst hv_v2 hv_v1
          rw [e0]
          refine ⟨(0 : Int32), rfl, N0, rfl, ?_⟩
          simp only [Int32.lt_iff_toInt_lt, ← Int32.toInt_inj, Int32.reduceToInt] at hc22_12 hc35_13 hc55_14 hc111_15 ⊢
          unfold own_sq
          (repeat' split) <;> omega
        · refine ow_icmpNo (q := 114) X0 hx (hb hby own_d1_111) rfl (Jvm.Free.XT.ii_lt_f hc111_15) ?_
          refine ow_iloadN (q := 115) X0 hx (hb hby own_d1_114) rfl rfl ?_
          refine ow_sipush (q := 118) X0 hx (244 : Int32) (hb hby own_d1_115) rfl rfl ?_
          by_cases hc118_16 : (244 : Int32) < v2
          · refine ow_icmpYes (q := 163) X0 hx (hb hby own_d1_118) (Jvm.Free.XT.ii_gt_t hc118_16) (by decide) (by decide) ?_
            refine ow_iconst (q := 164) X0 hx (0 : Int32) (hb hby own_d1_163) rfl rfl ?_
            refine ownRetI X0 hx Bd.returns (hb hby own_d1_164) hlk (by decide) (by decide) ?_
            subst hv_v2 hv_v1
            rw [e0]
            refine ⟨(0 : Int32), rfl, N0, rfl, ?_⟩
            simp only [Int32.lt_iff_toInt_lt, ← Int32.toInt_inj, Int32.reduceToInt] at hc22_12 hc35_13 hc55_14 hc111_15 hc118_16 ⊢
            unfold own_sq
            (repeat' split) <;> omega
          · refine ow_icmpNo (q := 121) X0 hx (hb hby own_d1_118) rfl (Jvm.Free.XT.ii_gt_f hc118_16) ?_
            refine ow_iconst (q := 122) X0 hx (4 : Int32) (hb hby own_d1_121) rfl rfl ?_
            refine ow_istore (q := 124) X0 hx (L' := #[rv a0, iv (0 : Int32), iv (2 : Int32), iv v2, iv (4 : Int32), iv (128 : Int32), iv (191 : Int32), .unset, .unset, .unset, .unset]) (hb hby own_d1_122) rfl rfl ?_
            refine ow_iloadN (q := 125) X0 hx (hb hby own_d1_124) rfl rfl ?_
            refine ow_sipush (q := 128) X0 hx (240 : Int32) (hb hby own_d1_125) rfl rfl ?_
            by_cases hc128_17 : v2 = (240 : Int32)
            · refine ow_icmpNo (q := 131) X0 hx (hb hby own_d1_128) rfl (Jvm.Free.XT.ii_ne_f hc128_17) ?_
              refine ow_sipush (q := 134) X0 hx (144 : Int32) (hb hby own_d1_131) rfl rfl ?_
              refine ow_goto (q := 140) X0 hx (hb hby own_d1_134) (by decide) (by decide) ?_
              refine ow_istore (q := 142) X0 hx (L' := #[rv a0, iv (0 : Int32), iv (2 : Int32), iv v2, iv (4 : Int32), iv (144 : Int32), iv (191 : Int32), .unset, .unset, .unset, .unset]) (hb hby own_d1_140) rfl rfl ?_
              refine ow_iloadN (q := 143) X0 hx (hb hby own_d1_142) rfl rfl ?_
              refine ow_sipush (q := 146) X0 hx (244 : Int32) (hb hby own_d1_143) rfl rfl ?_
              by_cases hc146_18 : v2 = (244 : Int32)
              · refine ow_icmpNo (q := 149) X0 hx (hb hby own_d1_146) rfl (Jvm.Free.XT.ii_ne_f hc146_18) ?_
                refine ow_sipush (q := 152) X0 hx (143 : Int32) (hb hby own_d1_149) rfl rfl ?_
                refine ow_goto (q := 158) X0 hx (hb hby own_d1_152) (by decide) (by decide) ?_
                refine ow_istore (q := 160) X0 hx (L' := #[rv a0, iv (0 : Int32), iv (2 : Int32), iv v2, iv (4 : Int32), iv (144 : Int32), iv (143 : Int32), .unset, .unset, .unset, .unset]) (hb hby own_d1_158) rfl rfl ?_
                refine ow_goto (q := 165) X0 hx (hb hby own_d1_160) (by decide) (by decide) ?_
                exact cut165_3 (4 : Int32) (144 : Int32) (143 : Int32) _ _ X0 e0 N0 (by unfold own_H; simp only [Int32.lt_iff_toInt_lt, ← Int32.toInt_inj, Int32.reduceToInt, true_and, and_true] at hc22_12 hc35_13 hc55_14 hc111_15 hc118_16 hc128_17 hc146_18 ⊢; omega)
              · refine ow_icmpYes (q := 155) X0 hx (hb hby own_d1_146) (Jvm.Free.XT.ii_ne_t hc146_18) (by decide) (by decide) ?_
                refine ow_sipush (q := 158) X0 hx (191 : Int32) (hb hby own_d1_155) rfl rfl ?_
                refine ow_istore (q := 160) X0 hx (L' := #[rv a0, iv (0 : Int32), iv (2 : Int32), iv v2, iv (4 : Int32), iv (144 : Int32), iv (191 : Int32), .unset, .unset, .unset, .unset]) (hb hby own_d1_158) rfl rfl ?_
                refine ow_goto (q := 165) X0 hx (hb hby own_d1_160) (by decide) (by decide) ?_
                exact cut165_3 (4 : Int32) (144 : Int32) (191 : Int32) _ _ X0 e0 N0 (by unfold own_H; simp only [Int32.lt_iff_toInt_lt, ← Int32.toInt_inj, Int32.reduceToInt, true_and, and_true] at hc22_12 hc35_13 hc55_14 hc111_15 hc118_16 hc128_17 hc146_18 ⊢; omega)
            · refine ow_icmpYes (q := 137) X0 hx (hb hby own_d1_128) (Jvm.Free.XT.ii_ne_t hc128_17) (by decide) (by decide) ?_
              refine ow_sipush (q := 140) X0 hx (128 : Int32) (hb hby own_d1_137) rfl rfl ?_
              refine ow_istore (q := 142) X0 hx (L' := #[rv a0, iv (0 : Int32), iv (2 : Int32), iv v2, iv (4 : Int32), iv (128 : Int32), iv (191 : Int32), .unset, .unset, .unset, .unset]) (hb hby own_d1_140) rfl rfl ?_
              refine ow_iloadN (q := 143) X0 hx (hb hby own_d1_142) rfl rfl ?_
              refine ow_sipush (q := 146) X0 hx (244 : Int32) (hb hby own_d1_143) rfl rfl ?_
              by_cases hc146_19 : v2 = (244 : Int32)
              · refine ow_icmpNo (q := 149) X0 hx (hb hby own_d1_146) rfl (Jvm.Free.XT.ii_ne_f hc146_19) ?_
                refine ow_sipush (q := 152) X0 hx (143 : Int32) (hb hby own_d1_149) rfl rfl ?_
                refine ow_goto (q := 158) X0 hx (hb hby own_d1_152) (by decide) (by decide) ?_
                refine ow_istore (q := 160) X0 hx (L' := #[rv a0, iv (0 : Int32), iv (2 : Int32), iv v2, iv (4 : Int32), iv (128 : Int32), iv (143 : Int32), .unset, .unset, .unset, .unset]) (hb hby own_d1_158) rfl rfl ?_
                refine ow_goto (q := 165) X0 hx (hb hby own_d1_160) (by decide) (by decide) ?_
                exact cut165_3 (4 : Int32) (128 : Int32) (143 : Int32) _ _ X0 e0 N0 (by unfold own_H; simp only [Int32.lt_iff_toInt_lt, ← Int32.toInt_inj, Int32.reduceToInt, true_and, and_true] at hc22_12 hc35_13 hc55_14 hc111_15 hc118_16 hc128_17 hc146_19 ⊢; omega)
              · refine ow_icmpYes (q := 155) X0 hx (hb hby own_d1_146) (Jvm.Free.XT.ii_ne_t hc146_19) (by decide) (by decide) ?_
                refine ow_sipush (q := 158) X0 hx (191 : Int32) (hb hby own_d1_155) rfl rfl ?_
                refine ow_istore (q := 160) X0 hx (L' := #[rv a0, iv (0 : Int32), iv (2 : Int32), iv v2, iv (4 : Int32), iv (128 : Int32), iv (191 : Int32), .unset, .unset, .unset, .unset]) (hb hby own_d1_158) rfl rfl ?_
                refine ow_goto (q := 165) X0 hx (hb hby own_d1_160) (by decide) (by decide) ?_
                exact cut165_3 (4 : Int32) (128 : Int32) (191 : Int32) _ _ X0 e0 N0 (by unfold own_H; simp only [Int32.lt_iff_toInt_lt, ← Int32.toInt_inj, Int32.reduceToInt, true_and, and_true] at hc22_12 hc35_13 hc55_14 hc111_15 hc118_16 hc128_17 hc146_19 ⊢; omega)
      · refine ow_icmpNo (q := 58) X0 hx (hb hby own_d1_55) rfl (Jvm.Free.XT.ii_lt_f hc55_14) ?_
        refine ow_iloadN (q := 59) X0 hx (hb hby own_d1_58) rfl rfl ?_
        refine ow_sipush (q := 62) X0 hx (239 : Int32) (hb hby own_d1_59) rfl rfl ?_
        by_cases hc62_20 : (239 : Int32) < v2
        · refine ow_icmpYes (q := 107) X0 hx (hb hby own_d1_62) (Jvm.Free.XT.ii_gt_t hc62_20) (by decide) (by decide) ?_
          refine ow_iloadN (q := 108) X0 hx (hb hby own_d1_107) rfl rfl ?_
          refine ow_sipush (q := 111) X0 hx (240 : Int32) (hb hby own_d1_108) rfl rfl ?_
          by_cases hc111_21 : v2 < (240 : Int32)
          · refine ow_icmpYes (q := 163) X0 hx (hb hby own_d1_111) (Jvm.Free.XT.ii_lt_t hc111_21) (by decide) (by decide) ?_
            refine ow_iconst (q := 164) X0 hx (0 : Int32) (hb hby own_d1_163) rfl rfl ?_
            refine ownRetI X0 hx Bd.returns (hb hby own_d1_164) hlk (by decide) (by decide) ?_
            subst hv_v2 hv_v1
            rw [e0]
            refine ⟨(0 : Int32), rfl, N0, rfl, ?_⟩
            simp only [Int32.lt_iff_toInt_lt, ← Int32.toInt_inj, Int32.reduceToInt] at hc22_12 hc35_13 hc55_14 hc62_20 hc111_21 ⊢
            unfold own_sq
            (repeat' split) <;> omega
          · refine ow_icmpNo (q := 114) X0 hx (hb hby own_d1_111) rfl (Jvm.Free.XT.ii_lt_f hc111_21) ?_
            refine ow_iloadN (q := 115) X0 hx (hb hby own_d1_114) rfl rfl ?_
            refine ow_sipush (q := 118) X0 hx (244 : Int32) (hb hby own_d1_115) rfl rfl ?_
            by_cases hc118_22 : (244 : Int32) < v2
            · refine ow_icmpYes (q := 163) X0 hx (hb hby own_d1_118) (Jvm.Free.XT.ii_gt_t hc118_22) (by decide) (by decide) ?_
              refine ow_iconst (q := 164) X0 hx (0 : Int32) (hb hby own_d1_163) rfl rfl ?_
              refine ownRetI X0 hx Bd.returns (hb hby own_d1_164) hlk (by decide) (by decide) ?_
              subst hv_v2 hv_v1
              rw [e0]
              refine ⟨(0 : Int32), rfl, N0, rfl, ?_⟩
              simp only [Int32.lt_iff_toInt_lt, ← Int32.toInt_inj, Int32.reduceToInt] at hc22_12 hc35_13 hc55_14 hc62_20 hc111_21 hc118_22 ⊢
              unfold own_sq
              (repeat' split) <;> omega
            · refine ow_icmpNo (q := 121) X0 hx (hb hby own_d1_118) rfl (Jvm.Free.XT.ii_gt_f hc118_22) ?_
              refine ow_iconst (q := 122) X0 hx (4 : Int32) (hb hby own_d1_121) rfl rfl ?_
              refine ow_istore (q := 124) X0 hx (L' := #[rv a0, iv (0 : Int32), iv (2 : Int32), iv v2, iv (4 : Int32), iv (128 : Int32), iv (191 : Int32), .unset, .unset, .unset, .unset]) (hb hby own_d1_122) rfl rfl ?_
              refine ow_iloadN (q := 125) X0 hx (hb hby own_d1_124) rfl rfl ?_
              refine ow_sipush (q := 128) X0 hx (240 : Int32) (hb hby own_d1_125) rfl rfl ?_
              by_cases hc128_23 : v2 = (240 : Int32)
              · refine ow_icmpNo (q := 131) X0 hx (hb hby own_d1_128) rfl (Jvm.Free.XT.ii_ne_f hc128_23) ?_
                refine ow_sipush (q := 134) X0 hx (144 : Int32) (hb hby own_d1_131) rfl rfl ?_
                refine ow_goto (q := 140) X0 hx (hb hby own_d1_134) (by decide) (by decide) ?_
                refine ow_istore (q := 142) X0 hx (L' := #[rv a0, iv (0 : Int32), iv (2 : Int32), iv v2, iv (4 : Int32), iv (144 : Int32), iv (191 : Int32), .unset, .unset, .unset, .unset]) (hb hby own_d1_140) rfl rfl ?_
                refine ow_iloadN (q := 143) X0 hx (hb hby own_d1_142) rfl rfl ?_
                refine ow_sipush (q := 146) X0 hx (244 : Int32) (hb hby own_d1_143) rfl rfl ?_
                by_cases hc146_24 : v2 = (244 : Int32)
                · refine ow_icmpNo (q := 149) X0 hx (hb hby own_d1_146) rfl (Jvm.Free.XT.ii_ne_f hc146_24) ?_
                  refine ow_sipush (q := 152) X0 hx (143 : Int32) (hb hby own_d1_149) rfl rfl ?_
                  refine ow_goto (q := 158) X0 hx (hb hby own_d1_152) (by decide) (by decide) ?_
                  refine ow_istore (q := 160) X0 hx (L' := #[rv a0, iv (0 : Int32), iv (2 : Int32), iv v2, iv (4 : Int32), iv (144 : Int32), iv (143 : Int32), .unset, .unset, .unset, .unset]) (hb hby own_d1_158) rfl rfl ?_
                  refine ow_goto (q := 165) X0 hx (hb hby own_d1_160) (by decide) (by decide) ?_
                  exact cut165_3 (4 : Int32) (144 : Int32) (143 : Int32) _ _ X0 e0 N0 (by unfold own_H; simp only [Int32.lt_iff_toInt_lt, ← Int32.toInt_inj, Int32.reduceToInt, true_and, and_true] at hc22_12 hc35_13 hc55_14 hc62_20 hc111_21 hc118_22 hc128_23 hc146_24 ⊢; omega)
                · refine ow_icmpYes (q := 155) X0 hx (hb hby own_d1_146) (Jvm.Free.XT.ii_ne_t hc146_24) (by decide) (by decide) ?_
                  refine ow_sipush (q := 158) X0 hx (191 : Int32) (hb hby own_d1_155) rfl rfl ?_
                  refine ow_istore (q := 160) X0 hx (L' := #[rv a0, iv (0 : Int32), iv (2 : Int32), iv v2, iv (4 : Int32), iv (144 : Int32), iv (191 : Int32), .unset, .unset, .unset, .unset]) (hb hby own_d1_158) rfl rfl ?_
                  refine ow_goto (q := 165) X0 hx (hb hby own_d1_160) (by decide) (by decide) ?_
                  exact cut165_3 (4 : Int32) (144 : Int32) (191 : Int32) _ _ X0 e0 N0 (by unfold own_H; simp only [Int32.lt_iff_toInt_lt, ← Int32.toInt_inj, Int32.reduceToInt, true_and, and_true] at hc22_12 hc35_13 hc55_14 hc62_20 hc111_21 hc118_22 hc128_23 hc146_24 ⊢; omega)
              · refine ow_icmpYes (q := 137) X0 hx (hb hby own_d1_128) (Jvm.Free.XT.ii_ne_t hc128_23) (by decide) (by decide) ?_
                refine ow_sipush (q := 140) X0 hx (128 : Int32) (hb hby own_d1_137) rfl rfl ?_
                refine ow_istore (q := 142) X0 hx (L' := #[rv a0, iv (0 : Int32), iv (2 : Int32), iv v2, iv (4 : Int32), iv (128 : Int32), iv (191 : Int32), .unset, .unset, .unset, .unset]) (hb hby own_d1_140) rfl rfl ?_
                refine ow_iloadN (q := 143) X0 hx (hb hby own_d1_142) rfl rfl ?_
                refine ow_sipush (q := 146) X0 hx (244 : Int32) (hb hby own_d1_143) rfl rfl ?_
                by_cases hc146_25 : v2 = (244 : Int32)
                · refine ow_icmpNo (q := 149) X0 hx (hb hby own_d1_146) rfl (Jvm.Free.XT.ii_ne_f hc146_25) ?_
                  refine ow_sipush (q := 152) X0 hx (143 : Int32) (hb hby own_d1_149) rfl rfl ?_
                  refine ow_goto (q := 158) X0 hx (hb hby own_d1_152) (by decide) (by decide) ?_
                  refine ow_istore (q := 160) X0 hx (L' := #[rv a0, iv (0 : Int32), iv (2 : Int32), iv v2, iv (4 : Int32), iv (128 : Int32), iv (143 : Int32), .unset, .unset, .unset, .unset]) (hb hby own_d1_158) rfl rfl ?_
                  refine ow_goto (q := 165) X0 hx (hb hby own_d1_160) (by decide) (by decide) ?_
                  exact cut165_3 (4 : Int32) (128 : Int32) (143 : Int32) _ _ X0 e0 N0 (by unfold own_H; simp only [Int32.lt_iff_toInt_lt, ← Int32.toInt_inj, Int32.reduceToInt, true_and, and_true] at hc22_12 hc35_13 hc55_14 hc62_20 hc111_21 hc118_22 hc128_23 hc146_25 ⊢; omega)
                · refine ow_icmpYes (q := 155) X0 hx (hb hby own_d1_146) (Jvm.Free.XT.ii_ne_t hc146_25) (by decide) (by decide) ?_
                  refine ow_sipush (q := 158) X0 hx (191 : Int32) (hb hby own_d1_155) rfl rfl ?_
                  refine ow_istore (q := 160) X0 hx (L' := #[rv a0, iv (0 : Int32), iv (2 : Int32), iv v2, iv (4 : Int32), iv (128 : Int32), iv (191 : Int32), .unset, .unset, .unset, .unset]) (hb hby own_d1_158) rfl rfl ?_
                  refine ow_goto (q := 165) X0 hx (hb hby own_d1_160) (by decide) (by decide) ?_
                  exact cut165_3 (4 : Int32) (128 : Int32) (191 : Int32) _ _ X0 e0 N0 (by unfold own_H; simp only [Int32.lt_iff_toInt_lt, ← Int32.toInt_inj, Int32.reduceToInt, true_and, and_true] at hc22_12 hc35_13 hc55_14 hc62_20 hc111_21 hc118_22 hc128_23 hc146_25 ⊢; omega)
        · refine ow_icmpNo (q := 65) X0 hx (hb hby own_d1_62) rfl (Jvm.Free.XT.ii_gt_f hc62_20) ?_
          refine ow_iconst (q := 66) X0 hx (3 : Int32) (hb hby own_d1_65) rfl rfl ?_
          refine ow_istore (q := 68) X0 hx (L' := #[rv a0, iv (0 : Int32), iv (2 : Int32), iv v2, iv (3 : Int32), iv (128 : Int32), iv (191 : Int32), .unset, .unset, .unset, .unset]) (hb hby own_d1_66) rfl rfl ?_
          refine ow_iloadN (q := 69) X0 hx (hb hby own_d1_68) rfl rfl ?_
          refine ow_sipush (q := 72) X0 hx (224 : Int32) (hb hby own_d1_69) rfl rfl ?_
          by_cases hc72_26 : v2 = (224 : Int32)
          · refine ow_icmpNo (q := 75) X0 hx (hb hby own_d1_72) rfl (Jvm.Free.XT.ii_ne_f hc72_26) ?_
            refine ow_sipush (q := 78) X0 hx (160 : Int32) (hb hby own_d1_75) rfl rfl ?_
            refine ow_goto (q := 84) X0 hx (hb hby own_d1_78) (by decide) (by decide) ?_
            refine ow_istore (q := 86) X0 hx (L' := #[rv a0, iv (0 : Int32), iv (2 : Int32), iv v2, iv (3 : Int32), iv (160 : Int32), iv (191 : Int32), .unset, .unset, .unset, .unset]) (hb hby own_d1_84) rfl rfl ?_
            refine ow_iloadN (q := 87) X0 hx (hb hby own_d1_86) rfl rfl ?_
            refine ow_sipush (q := 90) X0 hx (237 : Int32) (hb hby own_d1_87) rfl rfl ?_
            by_cases hc90_27 : v2 = (237 : Int32)
            · refine ow_icmpNo (q := 93) X0 hx (hb hby own_d1_90) rfl (Jvm.Free.XT.ii_ne_f hc90_27) ?_
              refine ow_sipush (q := 96) X0 hx (159 : Int32) (hb hby own_d1_93) rfl rfl ?_
              refine ow_goto (q := 102) X0 hx (hb hby own_d1_96) (by decide) (by decide) ?_
              refine ow_istore (q := 104) X0 hx (L' := #[rv a0, iv (0 : Int32), iv (2 : Int32), iv v2, iv (3 : Int32), iv (160 : Int32), iv (159 : Int32), .unset, .unset, .unset, .unset]) (hb hby own_d1_102) rfl rfl ?_
              refine ow_goto (q := 165) X0 hx (hb hby own_d1_104) (by decide) (by decide) ?_
              exact cut165_3 (3 : Int32) (160 : Int32) (159 : Int32) _ _ X0 e0 N0 (by unfold own_H; simp only [Int32.lt_iff_toInt_lt, ← Int32.toInt_inj, Int32.reduceToInt, true_and, and_true] at hc22_12 hc35_13 hc55_14 hc62_20 hc72_26 hc90_27 ⊢; omega)
            · refine ow_icmpYes (q := 99) X0 hx (hb hby own_d1_90) (Jvm.Free.XT.ii_ne_t hc90_27) (by decide) (by decide) ?_
              refine ow_sipush (q := 102) X0 hx (191 : Int32) (hb hby own_d1_99) rfl rfl ?_
              refine ow_istore (q := 104) X0 hx (L' := #[rv a0, iv (0 : Int32), iv (2 : Int32), iv v2, iv (3 : Int32), iv (160 : Int32), iv (191 : Int32), .unset, .unset, .unset, .unset]) (hb hby own_d1_102) rfl rfl ?_
              refine ow_goto (q := 165) X0 hx (hb hby own_d1_104) (by decide) (by decide) ?_
              exact cut165_3 (3 : Int32) (160 : Int32) (191 : Int32) _ _ X0 e0 N0 (by unfold own_H; simp only [Int32.lt_iff_toInt_lt, ← Int32.toInt_inj, Int32.reduceToInt, true_and, and_true] at hc22_12 hc35_13 hc55_14 hc62_20 hc72_26 hc90_27 ⊢; omega)
          · refine ow_icmpYes (q := 81) X0 hx (hb hby own_d1_72) (Jvm.Free.XT.ii_ne_t hc72_26) (by decide) (by decide) ?_
            refine ow_sipush (q := 84) X0 hx (128 : Int32) (hb hby own_d1_81) rfl rfl ?_
            refine ow_istore (q := 86) X0 hx (L' := #[rv a0, iv (0 : Int32), iv (2 : Int32), iv v2, iv (3 : Int32), iv (128 : Int32), iv (191 : Int32), .unset, .unset, .unset, .unset]) (hb hby own_d1_84) rfl rfl ?_
            refine ow_iloadN (q := 87) X0 hx (hb hby own_d1_86) rfl rfl ?_
            refine ow_sipush (q := 90) X0 hx (237 : Int32) (hb hby own_d1_87) rfl rfl ?_
            by_cases hc90_28 : v2 = (237 : Int32)
            · refine ow_icmpNo (q := 93) X0 hx (hb hby own_d1_90) rfl (Jvm.Free.XT.ii_ne_f hc90_28) ?_
              refine ow_sipush (q := 96) X0 hx (159 : Int32) (hb hby own_d1_93) rfl rfl ?_
              refine ow_goto (q := 102) X0 hx (hb hby own_d1_96) (by decide) (by decide) ?_
              refine ow_istore (q := 104) X0 hx (L' := #[rv a0, iv (0 : Int32), iv (2 : Int32), iv v2, iv (3 : Int32), iv (128 : Int32), iv (159 : Int32), .unset, .unset, .unset, .unset]) (hb hby own_d1_102) rfl rfl ?_
              refine ow_goto (q := 165) X0 hx (hb hby own_d1_104) (by decide) (by decide) ?_
              exact cut165_3 (3 : Int32) (128 : Int32) (159 : Int32) _ _ X0 e0 N0 (by unfold own_H; simp only [Int32.lt_iff_toInt_lt, ← Int32.toInt_inj, Int32.reduceToInt, true_and, and_true] at hc22_12 hc35_13 hc55_14 hc62_20 hc72_26 hc90_28 ⊢; omega)
            · refine ow_icmpYes (q := 99) X0 hx (hb hby own_d1_90) (Jvm.Free.XT.ii_ne_t hc90_28) (by decide) (by decide) ?_
              refine ow_sipush (q := 102) X0 hx (191 : Int32) (hb hby own_d1_99) rfl rfl ?_
              refine ow_istore (q := 104) X0 hx (L' := #[rv a0, iv (0 : Int32), iv (2 : Int32), iv v2, iv (3 : Int32), iv (128 : Int32), iv (191 : Int32), .unset, .unset, .unset, .unset]) (hb hby own_d1_102) rfl rfl ?_
              refine ow_goto (q := 165) X0 hx (hb hby own_d1_104) (by decide) (by decide) ?_
              exact cut165_3 (3 : Int32) (128 : Int32) (191 : Int32) _ _ X0 e0 N0 (by unfold own_H; simp only [Int32.lt_iff_toInt_lt, ← Int32.toInt_inj, Int32.reduceToInt, true_and, and_true] at hc22_12 hc35_13 hc55_14 hc62_20 hc72_26 hc90_28 ⊢; omega)
    · refine ow_icmpNo (q := 38) X0 hx (hb hby own_d1_35) rfl (Jvm.Free.XT.ii_lt_f hc35_13) ?_
      refine ow_iloadN (q := 39) X0 hx (hb hby own_d1_38) rfl rfl ?_
      refine ow_sipush (q := 42) X0 hx (223 : Int32) (hb hby own_d1_39) rfl rfl ?_
      by_cases hc42_29 : (223 : Int32) < v2
      · refine ow_icmpYes (q := 51) X0 hx (hb hby own_d1_42) (Jvm.Free.XT.ii_gt_t hc42_29) (by decide) (by decide) ?_
        refine ow_iloadN (q := 52) X0 hx (hb hby own_d1_51) rfl rfl ?_
        refine ow_sipush (q := 55) X0 hx (224 : Int32) (hb hby own_d1_52) rfl rfl ?_
        by_cases hc55_30 : v2 < (224 : Int32)
        · refine ow_icmpYes (q := 107) X0 hx (hb hby own_d1_55) (Jvm.Free.XT.ii_lt_t hc55_30) (by decide) (by decide) ?_
          refine ow_iloadN (q := 108) X0 hx (hb hby own_d1_107) rfl rfl ?_
          refine ow_sipush (q := 111) X0 hx (240 : Int32) (hb hby own_d1_108) rfl rfl ?_
          by_cases hc111_31 : v2 < (240 : Int32)
          · refine ow_icmpYes (q := 163) X0 hx (hb hby own_d1_111) (Jvm.Free.XT.ii_lt_t hc111_31) (by decide) (by decide) ?_
            refine ow_iconst (q := 164) X0 hx (0 : Int32) (hb hby own_d1_163) rfl rfl ?_
            refine ownRetI X0 hx Bd.returns (hb hby own_d1_164) hlk (by decide) (by decide) ?_
            subst hv_v2 hv_v1
            rw [e0]
            refine ⟨(0 : Int32), rfl, N0, rfl, ?_⟩
            simp only [Int32.lt_iff_toInt_lt, ← Int32.toInt_inj, Int32.reduceToInt] at hc22_12 hc35_13 hc42_29 hc55_30 hc111_31 ⊢
            unfold own_sq
            (repeat' split) <;> omega
          · refine ow_icmpNo (q := 114) X0 hx (hb hby own_d1_111) rfl (Jvm.Free.XT.ii_lt_f hc111_31) ?_
            refine ow_iloadN (q := 115) X0 hx (hb hby own_d1_114) rfl rfl ?_
            refine ow_sipush (q := 118) X0 hx (244 : Int32) (hb hby own_d1_115) rfl rfl ?_
            by_cases hc118_32 : (244 : Int32) < v2
            · refine ow_icmpYes (q := 163) X0 hx (hb hby own_d1_118) (Jvm.Free.XT.ii_gt_t hc118_32) (by decide) (by decide) ?_
              refine ow_iconst (q := 164) X0 hx (0 : Int32) (hb hby own_d1_163) rfl rfl ?_
              refine ownRetI X0 hx Bd.returns (hb hby own_d1_164) hlk (by decide) (by decide) ?_
              subst hv_v2 hv_v1
              rw [e0]
              refine ⟨(0 : Int32), rfl, N0, rfl, ?_⟩
              simp only [Int32.lt_iff_toInt_lt, ← Int32.toInt_inj, Int32.reduceToInt] at hc22_12 hc35_13 hc42_29 hc55_30 hc111_31 hc118_32 ⊢
              unfold own_sq
              (repeat' split) <;> omega
            · refine ow_icmpNo (q := 121) X0 hx (hb hby own_d1_118) rfl (Jvm.Free.XT.ii_gt_f hc118_32) ?_
              refine ow_iconst (q := 122) X0 hx (4 : Int32) (hb hby own_d1_121) rfl rfl ?_
              refine ow_istore (q := 124) X0 hx (L' := #[rv a0, iv (0 : Int32), iv (2 : Int32), iv v2, iv (4 : Int32), iv (128 : Int32), iv (191 : Int32), .unset, .unset, .unset, .unset]) (hb hby own_d1_122) rfl rfl ?_
              refine ow_iloadN (q := 125) X0 hx (hb hby own_d1_124) rfl rfl ?_
              refine ow_sipush (q := 128) X0 hx (240 : Int32) (hb hby own_d1_125) rfl rfl ?_
              by_cases hc128_33 : v2 = (240 : Int32)
              · refine ow_icmpNo (q := 131) X0 hx (hb hby own_d1_128) rfl (Jvm.Free.XT.ii_ne_f hc128_33) ?_
                refine ow_sipush (q := 134) X0 hx (144 : Int32) (hb hby own_d1_131) rfl rfl ?_
                refine ow_goto (q := 140) X0 hx (hb hby own_d1_134) (by decide) (by decide) ?_
                refine ow_istore (q := 142) X0 hx (L' := #[rv a0, iv (0 : Int32), iv (2 : Int32), iv v2, iv (4 : Int32), iv (144 : Int32), iv (191 : Int32), .unset, .unset, .unset, .unset]) (hb hby own_d1_140) rfl rfl ?_
                refine ow_iloadN (q := 143) X0 hx (hb hby own_d1_142) rfl rfl ?_
                refine ow_sipush (q := 146) X0 hx (244 : Int32) (hb hby own_d1_143) rfl rfl ?_
                by_cases hc146_34 : v2 = (244 : Int32)
                · refine ow_icmpNo (q := 149) X0 hx (hb hby own_d1_146) rfl (Jvm.Free.XT.ii_ne_f hc146_34) ?_
                  refine ow_sipush (q := 152) X0 hx (143 : Int32) (hb hby own_d1_149) rfl rfl ?_
                  refine ow_goto (q := 158) X0 hx (hb hby own_d1_152) (by decide) (by decide) ?_
                  refine ow_istore (q := 160) X0 hx (L' := #[rv a0, iv (0 : Int32), iv (2 : Int32), iv v2, iv (4 : Int32), iv (144 : Int32), iv (143 : Int32), .unset, .unset, .unset, .unset]) (hb hby own_d1_158) rfl rfl ?_
                  refine ow_goto (q := 165) X0 hx (hb hby own_d1_160) (by decide) (by decide) ?_
                  exact cut165_3 (4 : Int32) (144 : Int32) (143 : Int32) _ _ X0 e0 N0 (by unfold own_H; simp only [Int32.lt_iff_toInt_lt, ← Int32.toInt_inj, Int32.reduceToInt, true_and, and_true] at hc22_12 hc35_13 hc42_29 hc55_30 hc111_31 hc118_32 hc128_33 hc146_34 ⊢; omega)
                · refine ow_icmpYes (q := 155) X0 hx (hb hby own_d1_146) (Jvm.Free.XT.ii_ne_t hc146_34) (by decide) (by decide) ?_
                  refine ow_sipush (q := 158) X0 hx (191 : Int32) (hb hby own_d1_155) rfl rfl ?_
                  refine ow_istore (q := 160) X0 hx (L' := #[rv a0, iv (0 : Int32), iv (2 : Int32), iv v2, iv (4 : Int32), iv (144 : Int32), iv (191 : Int32), .unset, .unset, .unset, .unset]) (hb hby own_d1_158) rfl rfl ?_
                  refine ow_goto (q := 165) X0 hx (hb hby own_d1_160) (by decide) (by decide) ?_
                  exact cut165_3 (4 : Int32) (144 : Int32) (191 : Int32) _ _ X0 e0 N0 (by unfold own_H; simp only [Int32.lt_iff_toInt_lt, ← Int32.toInt_inj, Int32.reduceToInt, true_and, and_true] at hc22_12 hc35_13 hc42_29 hc55_30 hc111_31 hc118_32 hc128_33 hc146_34 ⊢; omega)
              · refine ow_icmpYes (q := 137) X0 hx (hb hby own_d1_128) (Jvm.Free.XT.ii_ne_t hc128_33) (by decide) (by decide) ?_
                refine ow_sipush (q := 140) X0 hx (128 : Int32) (hb hby own_d1_137) rfl rfl ?_
                refine ow_istore (q := 142) X0 hx (L' := #[rv a0, iv (0 : Int32), iv (2 : Int32), iv v2, iv (4 : Int32), iv (128 : Int32), iv (191 : Int32), .unset, .unset, .unset, .unset]) (hb hby own_d1_140) rfl rfl ?_
                refine ow_iloadN (q := 143) X0 hx (hb hby own_d1_142) rfl rfl ?_
                refine ow_sipush (q := 146) X0 hx (244 : Int32) (hb hby own_d1_143) rfl rfl ?_
                by_cases hc146_35 : v2 = (244 : Int32)
                · refine ow_icmpNo (q := 149) X0 hx (hb hby own_d1_146) rfl (Jvm.Free.XT.ii_ne_f hc146_35) ?_
                  refine ow_sipush (q := 152) X0 hx (143 : Int32) (hb hby own_d1_149) rfl rfl ?_
                  refine ow_goto (q := 158) X0 hx (hb hby own_d1_152) (by decide) (by decide) ?_
                  refine ow_istore (q := 160) X0 hx (L' := #[rv a0, iv (0 : Int32), iv (2 : Int32), iv v2, iv (4 : Int32), iv (128 : Int32), iv (143 : Int32), .unset, .unset, .unset, .unset]) (hb hby own_d1_158) rfl rfl ?_
                  refine ow_goto (q := 165) X0 hx (hb hby own_d1_160) (by decide) (by decide) ?_
                  exact cut165_3 (4 : Int32) (128 : Int32) (143 : Int32) _ _ X0 e0 N0 (by unfold own_H; simp only [Int32.lt_iff_toInt_lt, ← Int32.toInt_inj, Int32.reduceToInt, true_and, and_true] at hc22_12 hc35_13 hc42_29 hc55_30 hc111_31 hc118_32 hc128_33 hc146_35 ⊢; omega)
                · refine ow_icmpYes (q := 155) X0 hx (hb hby own_d1_146) (Jvm.Free.XT.ii_ne_t hc146_35) (by decide) (by decide) ?_
                  refine ow_sipush (q := 158) X0 hx (191 : Int32) (hb hby own_d1_155) rfl rfl ?_
                  refine ow_istore (q := 160) X0 hx (L' := #[rv a0, iv (0 : Int32), iv (2 : Int32), iv v2, iv (4 : Int32), iv (128 : Int32), iv (191 : Int32), .unset, .unset, .unset, .unset]) (hb hby own_d1_158) rfl rfl ?_
                  refine ow_goto (q := 165) X0 hx (hb hby own_d1_160) (by decide) (by decide) ?_
                  exact cut165_3 (4 : Int32) (128 : Int32) (191 : Int32) _ _ X0 e0 N0 (by unfold own_H; simp only [Int32.lt_iff_toInt_lt, ← Int32.toInt_inj, Int32.reduceToInt, true_and, and_true] at hc22_12 hc35_13 hc42_29 hc55_30 hc111_31 hc118_32 hc128_33 hc146_35 ⊢; omega)
        · refine ow_icmpNo (q := 58) X0 hx (hb hby own_d1_55) rfl (Jvm.Free.XT.ii_lt_f hc55_30) ?_
          refine ow_iloadN (q := 59) X0 hx (hb hby own_d1_58) rfl rfl ?_
          refine ow_sipush (q := 62) X0 hx (239 : Int32) (hb hby own_d1_59) rfl rfl ?_
          by_cases hc62_36 : (239 : Int32) < v2
          · refine ow_icmpYes (q := 107) X0 hx (hb hby own_d1_62) (Jvm.Free.XT.ii_gt_t hc62_36) (by decide) (by decide) ?_
            refine ow_iloadN (q := 108) X0 hx (hb hby own_d1_107) rfl rfl ?_
            refine ow_sipush (q := 111) X0 hx (240 : Int32) (hb hby own_d1_108) rfl rfl ?_
            by_cases hc111_37 : v2 < (240 : Int32)
            · refine ow_icmpYes (q := 163) X0 hx (hb hby own_d1_111) (Jvm.Free.XT.ii_lt_t hc111_37) (by decide) (by decide) ?_
              refine ow_iconst (q := 164) X0 hx (0 : Int32) (hb hby own_d1_163) rfl rfl ?_
              refine ownRetI X0 hx Bd.returns (hb hby own_d1_164) hlk (by decide) (by decide) ?_
              subst hv_v2 hv_v1
              rw [e0]
              refine ⟨(0 : Int32), rfl, N0, rfl, ?_⟩
              simp only [Int32.lt_iff_toInt_lt, ← Int32.toInt_inj, Int32.reduceToInt] at hc22_12 hc35_13 hc42_29 hc55_30 hc62_36 hc111_37 ⊢
              unfold own_sq
              (repeat' split) <;> omega
            · refine ow_icmpNo (q := 114) X0 hx (hb hby own_d1_111) rfl (Jvm.Free.XT.ii_lt_f hc111_37) ?_
              refine ow_iloadN (q := 115) X0 hx (hb hby own_d1_114) rfl rfl ?_
              refine ow_sipush (q := 118) X0 hx (244 : Int32) (hb hby own_d1_115) rfl rfl ?_
              by_cases hc118_38 : (244 : Int32) < v2
              · refine ow_icmpYes (q := 163) X0 hx (hb hby own_d1_118) (Jvm.Free.XT.ii_gt_t hc118_38) (by decide) (by decide) ?_
                refine ow_iconst (q := 164) X0 hx (0 : Int32) (hb hby own_d1_163) rfl rfl ?_
                refine ownRetI X0 hx Bd.returns (hb hby own_d1_164) hlk (by decide) (by decide) ?_
                subst hv_v2 hv_v1
                rw [e0]
                refine ⟨(0 : Int32), rfl, N0, rfl, ?_⟩
                simp only [Int32.lt_iff_toInt_lt, ← Int32.toInt_inj, Int32.reduceToInt] at hc22_12 hc35_13 hc42_29 hc55_30 hc62_36 hc111_37 hc118_38 ⊢
                unfold own_sq
                (repeat' split) <;> omega
              · refine ow_icmpNo (q := 121) X0 hx (hb hby own_d1_118) rfl (Jvm.Free.XT.ii_gt_f hc118_38) ?_
                refine ow_iconst (q := 122) X0 hx (4 : Int32) (hb hby own_d1_121) rfl rfl ?_
                refine ow_istore (q := 124) X0 hx (L' := #[rv a0, iv (0 : Int32), iv (2 : Int32), iv v2, iv (4 : Int32), iv (128 : Int32), iv (191 : Int32), .unset, .unset, .unset, .unset]) (hb hby own_d1_122) rfl rfl ?_
                refine ow_iloadN (q := 125) X0 hx (hb hby own_d1_124) rfl rfl ?_
                refine ow_sipush (q := 128) X0 hx (240 : Int32) (hb hby own_d1_125) rfl rfl ?_
                by_cases hc128_39 : v2 = (240 : Int32)
                · refine ow_icmpNo (q := 131) X0 hx (hb hby own_d1_128) rfl (Jvm.Free.XT.ii_ne_f hc128_39) ?_
                  refine ow_sipush (q := 134) X0 hx (144 : Int32) (hb hby own_d1_131) rfl rfl ?_
                  refine ow_goto (q := 140) X0 hx (hb hby own_d1_134) (by decide) (by decide) ?_
                  refine ow_istore (q := 142) X0 hx (L' := #[rv a0, iv (0 : Int32), iv (2 : Int32), iv v2, iv (4 : Int32), iv (144 : Int32), iv (191 : Int32), .unset, .unset, .unset, .unset]) (hb hby own_d1_140) rfl rfl ?_
                  refine ow_iloadN (q := 143) X0 hx (hb hby own_d1_142) rfl rfl ?_
                  refine ow_sipush (q := 146) X0 hx (244 : Int32) (hb hby own_d1_143) rfl rfl ?_
                  by_cases hc146_40 : v2 = (244 : Int32)
                  · refine ow_icmpNo (q := 149) X0 hx (hb hby own_d1_146) rfl (Jvm.Free.XT.ii_ne_f hc146_40) ?_
                    refine ow_sipush (q := 152) X0 hx (143 : Int32) (hb hby own_d1_149) rfl rfl ?_
                    refine ow_goto (q := 158) X0 hx (hb hby own_d1_152) (by decide) (by decide) ?_
                    refine ow_istore (q := 160) X0 hx (L' := #[rv a0, iv (0 : Int32), iv (2 : Int32), iv v2, iv (4 : Int32), iv (144 : Int32), iv (143 : Int32), .unset, .unset, .unset, .unset]) (hb hby own_d1_158) rfl rfl ?_
                    refine ow_goto (q := 165) X0 hx (hb hby own_d1_160) (by decide) (by decide) ?_
                    exact cut165_3 (4 : Int32) (144 : Int32) (143 : Int32) _ _ X0 e0 N0 (by unfold own_H; simp only [Int32.lt_iff_toInt_lt, ← Int32.toInt_inj, Int32.reduceToInt, true_and, and_true] at hc22_12 hc35_13 hc42_29 hc55_30 hc62_36 hc111_37 hc118_38 hc128_39 hc146_40 ⊢; omega)
                  · refine ow_icmpYes (q := 155) X0 hx (hb hby own_d1_146) (Jvm.Free.XT.ii_ne_t hc146_40) (by decide) (by decide) ?_
                    refine ow_sipush (q := 158) X0 hx (191 : Int32) (hb hby own_d1_155) rfl rfl ?_
                    refine ow_istore (q := 160) X0 hx (L' := #[rv a0, iv (0 : Int32), iv (2 : Int32), iv v2, iv (4 : Int32), iv (144 : Int32), iv (191 : Int32), .unset, .unset, .unset, .unset]) (hb hby own_d1_158) rfl rfl ?_
                    refine ow_goto (q := 165) X0 hx (hb hby own_d1_160) (by decide) (by decide) ?_
                    exact cut165_3 (4 : Int32) (144 : Int32) (191 : Int32) _ _ X0 e0 N0 (by unfold own_H; simp only [Int32.lt_iff_toInt_lt, ← Int32.toInt_inj, Int32.reduceToInt, true_and, and_true] at hc22_12 hc35_13 hc42_29 hc55_30 hc62_36 hc111_37 hc118_38 hc128_39 hc146_40 ⊢; omega)
                · refine ow_icmpYes (q := 137) X0 hx (hb hby own_d1_128) (Jvm.Free.XT.ii_ne_t hc128_39) (by decide) (by decide) ?_
                  refine ow_sipush (q := 140) X0 hx (128 : Int32) (hb hby own_d1_137) rfl rfl ?_
                  refine ow_istore (q := 142) X0 hx (L' := #[rv a0, iv (0 : Int32), iv (2 : Int32), iv v2, iv (4 : Int32), iv (128 : Int32), iv (191 : Int32), .unset, .unset, .unset, .unset]) (hb hby own_d1_140) rfl rfl ?_
                  refine ow_iloadN (q := 143) X0 hx (hb hby own_d1_142) rfl rfl ?_
                  refine ow_sipush (q := 146) X0 hx (244 : Int32) (hb hby own_d1_143) rfl rfl ?_
                  by_cases hc146_41 : v2 = (244 : Int32)
                  · refine ow_icmpNo (q := 149) X0 hx (hb hby own_d1_146) rfl (Jvm.Free.XT.ii_ne_f hc146_41) ?_
                    refine ow_sipush (q := 152) X0 hx (143 : Int32) (hb hby own_d1_149) rfl rfl ?_
                    refine ow_goto (q := 158) X0 hx (hb hby own_d1_152) (by decide) (by decide) ?_
                    refine ow_istore (q := 160) X0 hx (L' := #[rv a0, iv (0 : Int32), iv (2 : Int32), iv v2, iv (4 : Int32), iv (128 : Int32), iv (143 : Int32), .unset, .unset, .unset, .unset]) (hb hby own_d1_158) rfl rfl ?_
                    refine ow_goto (q := 165) X0 hx (hb hby own_d1_160) (by decide) (by decide) ?_
                    exact cut165_3 (4 : Int32) (128 : Int32) (143 : Int32) _ _ X0 e0 N0 (by unfold own_H; simp only [Int32.lt_iff_toInt_lt, ← Int32.toInt_inj, Int32.reduceToInt, true_and, and_true] at hc22_12 hc35_13 hc42_29 hc55_30 hc62_36 hc111_37 hc118_38 hc128_39 hc146_41 ⊢; omega)
                  · refine ow_icmpYes (q := 155) X0 hx (hb hby own_d1_146) (Jvm.Free.XT.ii_ne_t hc146_41) (by decide) (by decide) ?_
                    refine ow_sipush (q := 158) X0 hx (191 : Int32) (hb hby own_d1_155) rfl rfl ?_
                    refine ow_istore (q := 160) X0 hx (L' := #[rv a0, iv (0 : Int32), iv (2 : Int32), iv v2, iv (4 : Int32), iv (128 : Int32), iv (191 : Int32), .unset, .unset, .unset, .unset]) (hb hby own_d1_158) rfl rfl ?_
                    refine ow_goto (q := 165) X0 hx (hb hby own_d1_160) (by decide) (by decide) ?_
                    exact cut165_3 (4 : Int32) (128 : Int32) (191 : Int32) _ _ X0 e0 N0 (by unfold own_H; simp only [Int32.lt_iff_toInt_lt, ← Int32.toInt_inj, Int32.reduceToInt, true_and, and_true] at hc22_12 hc35_13 hc42_29 hc55_30 hc62_36 hc111_37 hc118_38 hc128_39 hc146_41 ⊢; omega)
          · refine ow_icmpNo (q := 65) X0 hx (hb hby own_d1_62) rfl (Jvm.Free.XT.ii_gt_f hc62_36) ?_
            refine ow_iconst (q := 66) X0 hx (3 : Int32) (hb hby own_d1_65) rfl rfl ?_
            refine ow_istore (q := 68) X0 hx (L' := #[rv a0, iv (0 : Int32), iv (2 : Int32), iv v2, iv (3 : Int32), iv (128 : Int32), iv (191 : Int32), .unset, .unset, .unset, .unset]) (hb hby own_d1_66) rfl rfl ?_
            refine ow_iloadN (q := 69) X0 hx (hb hby own_d1_68) rfl rfl ?_
            refine ow_sipush (q := 72) X0 hx (224 : Int32) (hb hby own_d1_69) rfl rfl ?_
            by_cases hc72_42 : v2 = (224 : Int32)
            · refine ow_icmpNo (q := 75) X0 hx (hb hby own_d1_72) rfl (Jvm.Free.XT.ii_ne_f hc72_42) ?_
              refine ow_sipush (q := 78) X0 hx (160 : Int32) (hb hby own_d1_75) rfl rfl ?_
              refine ow_goto (q := 84) X0 hx (hb hby own_d1_78) (by decide) (by decide) ?_
              refine ow_istore (q := 86) X0 hx (L' := #[rv a0, iv (0 : Int32), iv (2 : Int32), iv v2, iv (3 : Int32), iv (160 : Int32), iv (191 : Int32), .unset, .unset, .unset, .unset]) (hb hby own_d1_84) rfl rfl ?_
              refine ow_iloadN (q := 87) X0 hx (hb hby own_d1_86) rfl rfl ?_
              refine ow_sipush (q := 90) X0 hx (237 : Int32) (hb hby own_d1_87) rfl rfl ?_
              by_cases hc90_43 : v2 = (237 : Int32)
              · refine ow_icmpNo (q := 93) X0 hx (hb hby own_d1_90) rfl (Jvm.Free.XT.ii_ne_f hc90_43) ?_
                refine ow_sipush (q := 96) X0 hx (159 : Int32) (hb hby own_d1_93) rfl rfl ?_
                refine ow_goto (q := 102) X0 hx (hb hby own_d1_96) (by decide) (by decide) ?_
                refine ow_istore (q := 104) X0 hx (L' := #[rv a0, iv (0 : Int32), iv (2 : Int32), iv v2, iv (3 : Int32), iv (160 : Int32), iv (159 : Int32), .unset, .unset, .unset, .unset]) (hb hby own_d1_102) rfl rfl ?_
                refine ow_goto (q := 165) X0 hx (hb hby own_d1_104) (by decide) (by decide) ?_
                exact cut165_3 (3 : Int32) (160 : Int32) (159 : Int32) _ _ X0 e0 N0 (by unfold own_H; simp only [Int32.lt_iff_toInt_lt, ← Int32.toInt_inj, Int32.reduceToInt, true_and, and_true] at hc22_12 hc35_13 hc42_29 hc55_30 hc62_36 hc72_42 hc90_43 ⊢; omega)
              · refine ow_icmpYes (q := 99) X0 hx (hb hby own_d1_90) (Jvm.Free.XT.ii_ne_t hc90_43) (by decide) (by decide) ?_
                refine ow_sipush (q := 102) X0 hx (191 : Int32) (hb hby own_d1_99) rfl rfl ?_
                refine ow_istore (q := 104) X0 hx (L' := #[rv a0, iv (0 : Int32), iv (2 : Int32), iv v2, iv (3 : Int32), iv (160 : Int32), iv (191 : Int32), .unset, .unset, .unset, .unset]) (hb hby own_d1_102) rfl rfl ?_
                refine ow_goto (q := 165) X0 hx (hb hby own_d1_104) (by decide) (by decide) ?_
                exact cut165_3 (3 : Int32) (160 : Int32) (191 : Int32) _ _ X0 e0 N0 (by unfold own_H; simp only [Int32.lt_iff_toInt_lt, ← Int32.toInt_inj, Int32.reduceToInt, true_and, and_true] at hc22_12 hc35_13 hc42_29 hc55_30 hc62_36 hc72_42 hc90_43 ⊢; omega)
            · refine ow_icmpYes (q := 81) X0 hx (hb hby own_d1_72) (Jvm.Free.XT.ii_ne_t hc72_42) (by decide) (by decide) ?_
              refine ow_sipush (q := 84) X0 hx (128 : Int32) (hb hby own_d1_81) rfl rfl ?_
              refine ow_istore (q := 86) X0 hx (L' := #[rv a0, iv (0 : Int32), iv (2 : Int32), iv v2, iv (3 : Int32), iv (128 : Int32), iv (191 : Int32), .unset, .unset, .unset, .unset]) (hb hby own_d1_84) rfl rfl ?_
              refine ow_iloadN (q := 87) X0 hx (hb hby own_d1_86) rfl rfl ?_
              refine ow_sipush (q := 90) X0 hx (237 : Int32) (hb hby own_d1_87) rfl rfl ?_
              by_cases hc90_44 : v2 = (237 : Int32)
              · refine ow_icmpNo (q := 93) X0 hx (hb hby own_d1_90) rfl (Jvm.Free.XT.ii_ne_f hc90_44) ?_
                refine ow_sipush (q := 96) X0 hx (159 : Int32) (hb hby own_d1_93) rfl rfl ?_
                refine ow_goto (q := 102) X0 hx (hb hby own_d1_96) (by decide) (by decide) ?_
                refine ow_istore (q := 104) X0 hx (L' := #[rv a0, iv (0 : Int32), iv (2 : Int32), iv v2, iv (3 : Int32), iv (128 : Int32), iv (159 : Int32), .unset, .unset, .unset, .unset]) (hb hby own_d1_102) rfl rfl ?_
                refine ow_goto (q := 165) X0 hx (hb hby own_d1_104) (by decide) (by decide) ?_
                exact cut165_3 (3 : Int32) (128 : Int32) (159 : Int32) _ _ X0 e0 N0 (by unfold own_H; simp only [Int32.lt_iff_toInt_lt, ← Int32.toInt_inj, Int32.reduceToInt, true_and, and_true] at hc22_12 hc35_13 hc42_29 hc55_30 hc62_36 hc72_42 hc90_44 ⊢; omega)
              · refine ow_icmpYes (q := 99) X0 hx (hb hby own_d1_90) (Jvm.Free.XT.ii_ne_t hc90_44) (by decide) (by decide) ?_
                refine ow_sipush (q := 102) X0 hx (191 : Int32) (hb hby own_d1_99) rfl rfl ?_
                refine ow_istore (q := 104) X0 hx (L' := #[rv a0, iv (0 : Int32), iv (2 : Int32), iv v2, iv (3 : Int32), iv (128 : Int32), iv (191 : Int32), .unset, .unset, .unset, .unset]) (hb hby own_d1_102) rfl rfl ?_
                refine ow_goto (q := 165) X0 hx (hb hby own_d1_104) (by decide) (by decide) ?_
                exact cut165_3 (3 : Int32) (128 : Int32) (191 : Int32) _ _ X0 e0 N0 (by unfold own_H; simp only [Int32.lt_iff_toInt_lt, ← Int32.toInt_inj, Int32.reduceToInt, true_and, and_true] at hc22_12 hc35_13 hc42_29 hc55_30 hc62_36 hc72_42 hc90_44 ⊢; omega)
      · refine ow_icmpNo (q := 45) X0 hx (hb hby own_d1_42) rfl (Jvm.Free.XT.ii_gt_f hc42_29) ?_
        refine ow_iconst (q := 46) X0 hx (2 : Int32) (hb hby own_d1_45) rfl rfl ?_
        refine ow_istore (q := 48) X0 hx (L' := #[rv a0, iv (0 : Int32), iv (2 : Int32), iv v2, iv (2 : Int32), iv (128 : Int32), iv (191 : Int32), .unset, .unset, .unset, .unset]) (hb hby own_d1_46) rfl rfl ?_
        refine ow_goto (q := 165) X0 hx (hb hby own_d1_48) (by decide) (by decide) ?_
        exact cut165_3 (2 : Int32) (128 : Int32) (191 : Int32) _ _ X0 e0 N0 (by unfold own_H; simp only [Int32.lt_iff_toInt_lt, ← Int32.toInt_inj, Int32.reduceToInt, true_and, and_true] at hc22_12 hc35_13 hc42_29 ⊢; omega)
theorem own_d1_208 : decode prog_24_method_14_code 208 = .ok (.sipush 128, 3) := by decide +kernel
theorem own_d1_224 : decode prog_24_method_14_code 224 = .ok (.sipush 191, 3) := by decide +kernel
theorem own_ef1_seq_0_3 (m : MethodId) (a0 : Addr) : entryFrame m #[(.ref a0), (.int (0 : Int32)), (.int (3 : Int32))] 11 = mkF m 0 #[rv a0, iv (0 : Int32), iv (3 : Int32), .unset, .unset, .unset, .unset, .unset, .unset, .unset, .unset] [] := by first | (simp [entryFrame, mkF, argsToLocals, Value.category]; done) | rfl
def Q_seq_0_3 (Z : State) (a0 : Addr) (g : Nat → Int32) (h0 : Heap) (n0 : Nat) (v : Option Value) (h : Heap) (L : List Loc) : Prop := ∃ (r : Int32), v = some (.int r) ∧ Fr n0 L ∧ h = h0 ∧ (r.toInt = own_sq ((g 0) &&& (255 : Int32)).toInt ((g 1) &&& (255 : Int32)).toInt ((g 2) &&& (255 : Int32)).toInt ((g 3) &&& (255 : Int32)).toInt 3)
set_option maxRecDepth 65536 in
set_option maxHeartbeats 40000000 in
theorem rm_seq_0_3 (l : Launch) (Z : State) (av0 : Array Value) (hw : ∀ d ∈ tables_1, d.before av0 Z = true) (ws : List Jvm.Cond) (a0 : Addr) (g : Nat → Int32) (h0 : Heap) (n0 : Nat) (Z0 : n0 ≤ h0.size) (HF0 : ownAI Z h0 a0 .byte 5 g) :
    MetFree l (⟨"com/example/descend/descend/XmlChars", "sequenceLength", "([BII)I"⟩ : MethodName) (head1 (Jvm.Cond.code (⟨"com/example/descend/descend/XmlChars", "sequenceLength", "([BII)I"⟩ : MethodName) prog_24_method_14_code 11 (some .int) :: ws) ({ frames := 0, cells := 0, slots := 0, locals := 0 } : Room)) (fun a U => a = #[(.ref a0), (.int (0 : Int32)), (.int (3 : Int32))] ∧ Z.Warmed39 U.vm ∧ U.heap = h0) (fun _ _ _ _ _ => True) (fun _ U o U' => ∃ v L, o = .returned v ∧ (Q_seq_0_3 Z a0 g h0 n0) v U'.heap L ∧ FrameEnd U o U' L ({ frames := 0, cells := 0, slots := 0, locals := 0 } : Room).cells ({ frames := 0, cells := 0, slots := 0, locals := 0 } : Room).slots) := by
  refine MetFree.of_bodySF (plainFor_of_name own_pn_XmlChars) hisR ?_
  intro p e s m args below meth c s₁ Bd hml0 hP hK
  obtain ⟨rfl, hZ, hh⟩ := hP
  have hx := Bd.exec
  have hby := Bd.bytes
  have hml : c.maxLocals = 11 := hml0
  have hown : s.vm.findClass "com/example/descend/descend/XmlChars" = some m.cls := findClass_of_methodNamed Bd.named
  have hnm := (name_of_methodNamed Bd.named Bd.method).1
  have hlk : meth.locks = false := BodyLoose.notSynchronized Bd
  have X0 : Stand p l e ({ frames := 0, cells := 0, slots := 0, locals := 0 } : Room) s m #[(.ref a0), (.int (0 : Int32)), (.int (3 : Int32))] below meth c s₁ [] 0 0 := Stand.of_body Bd
  have e0 : s₁.heap = h0 := by rw [← hh, Bd.state]; rfl
  have N0 := Fr.nil n0
  have K0 : Keep h0 h0 [] := Keep.refl _ _
  show ownEnds p e below s (Q_seq_0_3 Z a0 g h0 n0) ({ frames := 0, cells := 0, slots := 0, locals := 0 } : Room).cells ({ frames := 0, cells := 0, slots := 0, locals := 0 } : Room).slots s₁ (entryFrame m #[(.ref a0), (.int (0 : Int32)), (.int (3 : Int32))] 11)
  refine ownCast (own_ef1_seq_0_3 m a0) ?_
  refine ow_aloadN (q := 1) X0 hx (hb hby own_d1_0) rfl rfl rfl ?_
  refine ow_iloadN (q := 2) X0 hx (hb hby own_d1_1) rfl rfl ?_
  refine ownGo (T' := s₁) (f' := (mkF m 3 #[rv a0, iv (0 : Int32), iv (3 : Int32), .unset, .unset, .unset, .unset, .unset, .unset, .unset, .unset] [(.int (g 0))])) (ownBaload HF0 X0 hx hZ e0 (j := (0 : Int32)) (by unfold ownIn; decide) (g := (mkF m 2 #[rv a0, iv (0 : Int32), iv (3 : Int32), .unset, .unset, .unset, .unset, .unset, .unset, .unset, .unset] [(.int (0 : Int32)), (.ref a0)])) rfl rfl (hb hby own_d1_2)) ?_
  generalize hv_v1 : (g 0) = v1
  refine ow_sipush (q := 6) X0 hx (255 : Int32) (hb hby own_d1_3) rfl rfl ?_
  refine ow_iand (q := 7) X0 hx _ (hb hby own_d1_6) rfl rfl ?_
  generalize hv_v2 : (v1 &&& (255 : Int32)) = v2
  refine ow_istoreN (q := 8) X0 hx (L' := #[rv a0, iv (0 : Int32), iv (3 : Int32), iv v2, .unset, .unset, .unset, .unset, .unset, .unset, .unset]) (hb hby own_d1_7) rfl rfl ?_
  refine ow_sipush (q := 11) X0 hx (128 : Int32) (hb hby own_d1_8) rfl rfl ?_
  refine ow_istore (q := 13) X0 hx (L' := #[rv a0, iv (0 : Int32), iv (3 : Int32), iv v2, .unset, iv (128 : Int32), .unset, .unset, .unset, .unset, .unset]) (hb hby own_d1_11) rfl rfl ?_
  refine ow_sipush (q := 16) X0 hx (191 : Int32) (hb hby own_d1_13) rfl rfl ?_
  refine ow_istore (q := 18) X0 hx (L' := #[rv a0, iv (0 : Int32), iv (3 : Int32), iv v2, .unset, iv (128 : Int32), iv (191 : Int32), .unset, .unset, .unset, .unset]) (hb hby own_d1_16) rfl rfl ?_
  have cut165_3 : ∀ (ln : Int32) (lo : Int32) (hi : Int32) (Tc3 : State) (lc3 : List Loc), Stand p l e ({ frames := 0, cells := 0, slots := 0, locals := 0 } : Room) s m #[(.ref a0), (.int (0 : Int32)), (.int (3 : Int32))] below meth c Tc3 lc3 0 0 → Tc3.heap = h0 → Fr n0 lc3 → (own_H v2.toInt ln.toInt lo.toInt hi.toInt) → ownEnds p e below s (Q_seq_0_3 Z a0 g h0 n0) ({ frames := 0, cells := 0, slots := 0, locals := 0 } : Room).cells ({ frames := 0, cells := 0, slots := 0, locals := 0 } : Room).slots Tc3 (mkF m 165 #[rv a0, iv (0 : Int32), iv (3 : Int32), iv v2, iv ln, iv lo, iv hi, .unset, .unset, .unset, .unset] []) := by
    intro ln lo hi Tc3 lc3 Xc3 ec3 Nc3 hH
    refine ow_iloadN (q := 166) Xc3 hx (hb hby own_d1_165) rfl rfl ?_
    rcases own_Hln hH with hs4 | hs5 | hs6 | hs7
    · subst hs4
      refine ow_iload (q := 168) Xc3 hx (hb hby own_d1_166) rfl rfl ?_
      refine ow_iadd (q := 169) Xc3 hx (1 : Int32) (hb hby own_d1_168) rfl (by decide) ?_
      refine ow_iloadN (q := 170) Xc3 hx (hb hby own_d1_169) rfl rfl ?_
      refine ow_icmpYes (q := 175) Xc3 hx (hb hby own_d1_170) (Jvm.Free.XT.ii_le_t (by decide)) (by decide) (by decide) ?_
      refine ow_iconst (q := 176) Xc3 hx (1 : Int32) (hb hby own_d1_175) rfl rfl ?_
      refine ow_istore (q := 178) Xc3 hx (L' := #[rv a0, iv (0 : Int32), iv (3 : Int32), iv v2, iv (1 : Int32), iv lo, iv hi, iv (1 : Int32), .unset, .unset, .unset]) (hb hby own_d1_176) rfl rfl ?_
      refine ow_iload (q := 180) Xc3 hx (hb hby own_d1_178) rfl rfl ?_
      refine ow_iload (q := 182) Xc3 hx (hb hby own_d1_180) rfl rfl ?_
      refine ow_icmpYes (q := 251) Xc3 hx (hb hby own_d1_182) (Jvm.Free.XT.ii_ge_t (by decide)) (by decide) (by decide) ?_
      refine ow_iload (q := 253) Xc3 hx (hb hby own_d1_251) rfl rfl ?_
      refine ownRetI Xc3 hx Bd.returns (hb hby own_d1_253) hlk (by decide) (by decide) ?_
      subst hv_v2 hv_v1
      rw [ec3]
      refine ⟨(1 : Int32), rfl, Nc3, rfl, ?_⟩
      unfold own_H at hH
      simp only [Int32.lt_iff_toInt_lt, ← Int32.toInt_inj, Int32.reduceToInt] at  hH ⊢
      unfold own_sq
      (repeat' split) <;> omega
    · subst hs5
      refine ow_iload (q := 168) Xc3 hx (hb hby own_d1_166) rfl rfl ?_
      refine ow_iadd (q := 169) Xc3 hx (2 : Int32) (hb hby own_d1_168) rfl (by decide) ?_
      refine ow_iloadN (q := 170) Xc3 hx (hb hby own_d1_169) rfl rfl ?_
      refine ow_icmpYes (q := 175) Xc3 hx (hb hby own_d1_170) (Jvm.Free.XT.ii_le_t (by decide)) (by decide) (by decide) ?_
      refine ow_iconst (q := 176) Xc3 hx (1 : Int32) (hb hby own_d1_175) rfl rfl ?_
      refine ow_istore (q := 178) Xc3 hx (L' := #[rv a0, iv (0 : Int32), iv (3 : Int32), iv v2, iv (2 : Int32), iv lo, iv hi, iv (1 : Int32), .unset, .unset, .unset]) (hb hby own_d1_176) rfl rfl ?_
      refine ow_iload (q := 180) Xc3 hx (hb hby own_d1_178) rfl rfl ?_
      refine ow_iload (q := 182) Xc3 hx (hb hby own_d1_180) rfl rfl ?_
      refine ow_icmpNo (q := 185) Xc3 hx (hb hby own_d1_182) rfl (Jvm.Free.XT.ii_ge_f (by decide)) ?_
      refine ow_aloadN (q := 186) Xc3 hx (hb hby own_d1_185) rfl rfl rfl ?_
      refine ow_iloadN (q := 187) Xc3 hx (hb hby own_d1_186) rfl rfl ?_
      refine ow_iload (q := 189) Xc3 hx (hb hby own_d1_187) rfl rfl ?_
      refine ow_iadd (q := 190) Xc3 hx (1 : Int32) (hb hby own_d1_189) rfl (by decide) ?_
      refine ownGo (T' := Tc3) (f' := (mkF m 191 #[rv a0, iv (0 : Int32), iv (3 : Int32), iv v2, iv (2 : Int32), iv lo, iv hi, iv (1 : Int32), .unset, .unset, .unset] [(.int (g 1))])) (ownBaload HF0 Xc3 hx hZ ec3 (j := (1 : Int32)) (by unfold ownIn; decide) (g := (mkF m 190 #[rv a0, iv (0 : Int32), iv (3 : Int32), iv v2, iv (2 : Int32), iv lo, iv hi, iv (1 : Int32), .unset, .unset, .unset] [(.int (1 : Int32)), (.ref a0)])) rfl rfl (hb hby own_d1_190)) ?_
      generalize hv_v8 : (g 1) = v8
      refine ow_sipush (q := 194) Xc3 hx (255 : Int32) (hb hby own_d1_191) rfl rfl ?_
      refine ow_iand (q := 195) Xc3 hx _ (hb hby own_d1_194) rfl rfl ?_
      generalize hv_v9 : (v8 &&& (255 : Int32)) = v9
      refine ow_istore (q := 197) Xc3 hx (L' := #[rv a0, iv (0 : Int32), iv (3 : Int32), iv v2, iv (2 : Int32), iv lo, iv hi, iv (1 : Int32), iv v9, .unset, .unset]) (hb hby own_d1_195) rfl rfl ?_
      refine ow_iload (q := 199) Xc3 hx (hb hby own_d1_197) rfl rfl ?_
      refine ow_iconst (q := 200) Xc3 hx (1 : Int32) (hb hby own_d1_199) rfl rfl ?_
      refine ow_icmpNo (q := 203) Xc3 hx (hb hby own_d1_200) rfl (Jvm.Free.XT.ii_ne_f (by decide)) ?_
      refine ow_iload (q := 205) Xc3 hx (hb hby own_d1_203) rfl rfl ?_
      refine ow_goto (q := 211) Xc3 hx (hb hby own_d1_205) (by decide) (by decide) ?_
      refine ow_istore (q := 213) Xc3 hx (L' := #[rv a0, iv (0 : Int32), iv (3 : Int32), iv v2, iv (2 : Int32), iv lo, iv hi, iv (1 : Int32), iv v9, iv lo, .unset]) (hb hby own_d1_211) rfl rfl ?_
      refine ow_iload (q := 215) Xc3 hx (hb hby own_d1_213) rfl rfl ?_
      refine ow_iconst (q := 216) Xc3 hx (1 : Int32) (hb hby own_d1_215) rfl rfl ?_
      refine ow_icmpNo (q := 219) Xc3 hx (hb hby own_d1_216) rfl (Jvm.Free.XT.ii_ne_f (by decide)) ?_
      refine ow_iload (q := 221) Xc3 hx (hb hby own_d1_219) rfl rfl ?_
      refine ow_goto (q := 227) Xc3 hx (hb hby own_d1_221) (by decide) (by decide) ?_
      refine ow_istore (q := 229) Xc3 hx (L' := #[rv a0, iv (0 : Int32), iv (3 : Int32), iv v2, iv (2 : Int32), iv lo, iv hi, iv (1 : Int32), iv v9, iv lo, iv hi]) (hb hby own_d1_227) rfl rfl ?_
      refine ow_iload (q := 231) Xc3 hx (hb hby own_d1_229) rfl rfl ?_
      refine ow_iload (q := 233) Xc3 hx (hb hby own_d1_231) rfl rfl ?_
      by_cases hc233_10 : v9 < lo
      · refine ow_icmpYes (q := 243) Xc3 hx (hb hby own_d1_233) (Jvm.Free.XT.ii_lt_t hc233_10) (by decide) (by decide) ?_
        refine ow_iconst (q := 244) Xc3 hx (0 : Int32) (hb hby own_d1_243) rfl rfl ?_
        refine ownRetI Xc3 hx Bd.returns (hb hby own_d1_244) hlk (by decide) (by decide) ?_
        subst hv_v9 hv_v8 hv_v2 hv_v1
        rw [ec3]
        refine ⟨(0 : Int32), rfl, Nc3, rfl, ?_⟩
        unfold own_H at hH
        simp only [Int32.lt_iff_toInt_lt, ← Int32.toInt_inj, Int32.reduceToInt] at hc233_10 hH ⊢
        unfold own_sq
        (repeat' split) <;> omega
      · refine ow_icmpNo (q := 236) Xc3 hx (hb hby own_d1_233) rfl (Jvm.Free.XT.ii_lt_f hc233_10) ?_
        refine ow_iload (q := 238) Xc3 hx (hb hby own_d1_236) rfl rfl ?_
        refine ow_iload (q := 240) Xc3 hx (hb hby own_d1_238) rfl rfl ?_
        by_cases hc240_11 : hi < v9
        · refine ow_icmpNo (q := 243) Xc3 hx (hb hby own_d1_240) rfl (Jvm.Free.XT.ii_le_f hc240_11) ?_
          refine ow_iconst (q := 244) Xc3 hx (0 : Int32) (hb hby own_d1_243) rfl rfl ?_
          refine ownRetI Xc3 hx Bd.returns (hb hby own_d1_244) hlk (by decide) (by decide) ?_
          subst hv_v9 hv_v8 hv_v2 hv_v1
          rw [ec3]
          refine ⟨(0 : Int32), rfl, Nc3, rfl, ?_⟩
          unfold own_H at hH
          simp only [Int32.lt_iff_toInt_lt, ← Int32.toInt_inj, Int32.reduceToInt] at hc233_10 hc240_11 hH ⊢
          unfold own_sq
          (repeat' split) <;> omega
        · refine ow_icmpYes (q := 245) Xc3 hx (hb hby own_d1_240) (Jvm.Free.XT.ii_le_t hc240_11) (by decide) (by decide) ?_
          refine ow_iinc (q := 248) Xc3 hx (L' := #[rv a0, iv (0 : Int32), iv (3 : Int32), iv v2, iv (2 : Int32), iv lo, iv hi, iv (2 : Int32), iv v9, iv lo, iv hi]) (hb hby own_d1_245) rfl rfl rfl ?_
          refine ow_goto (q := 178) Xc3 hx (hb hby own_d1_248) (by decide) (by decide) ?_
          refine ow_iload (q := 180) Xc3 hx (hb hby own_d1_178) rfl rfl ?_
          refine ow_iload (q := 182) Xc3 hx (hb hby own_d1_180) rfl rfl ?_
          refine ow_icmpYes (q := 251) Xc3 hx (hb hby own_d1_182) (Jvm.Free.XT.ii_ge_t (by decide)) (by decide) (by decide) ?_
          refine ow_iload (q := 253) Xc3 hx (hb hby own_d1_251) rfl rfl ?_
          refine ownRetI Xc3 hx Bd.returns (hb hby own_d1_253) hlk (by decide) (by decide) ?_
          subst hv_v9 hv_v8 hv_v2 hv_v1
          rw [ec3]
          refine ⟨(2 : Int32), rfl, Nc3, rfl, ?_⟩
          unfold own_H at hH
          simp only [Int32.lt_iff_toInt_lt, ← Int32.toInt_inj, Int32.reduceToInt] at hc233_10 hc240_11 hH ⊢
          unfold own_sq
          (repeat' split) <;> omega
    · subst hs6
      refine ow_iload (q := 168) Xc3 hx (hb hby own_d1_166) rfl rfl ?_
      refine ow_iadd (q := 169) Xc3 hx (3 : Int32) (hb hby own_d1_168) rfl (by decide) ?_
      refine ow_iloadN (q := 170) Xc3 hx (hb hby own_d1_169) rfl rfl ?_
      refine ow_icmpYes (q := 175) Xc3 hx (hb hby own_d1_170) (Jvm.Free.XT.ii_le_t (by decide)) (by decide) (by decide) ?_
      refine ow_iconst (q := 176) Xc3 hx (1 : Int32) (hb hby own_d1_175) rfl rfl ?_
      refine ow_istore (q := 178) Xc3 hx (L' := #[rv a0, iv (0 : Int32), iv (3 : Int32), iv v2, iv (3 : Int32), iv lo, iv hi, iv (1 : Int32), .unset, .unset, .unset]) (hb hby own_d1_176) rfl rfl ?_
      refine ow_iload (q := 180) Xc3 hx (hb hby own_d1_178) rfl rfl ?_
      refine ow_iload (q := 182) Xc3 hx (hb hby own_d1_180) rfl rfl ?_
      refine ow_icmpNo (q := 185) Xc3 hx (hb hby own_d1_182) rfl (Jvm.Free.XT.ii_ge_f (by decide)) ?_
      refine ow_aloadN (q := 186) Xc3 hx (hb hby own_d1_185) rfl rfl rfl ?_
      refine ow_iloadN (q := 187) Xc3 hx (hb hby own_d1_186) rfl rfl ?_
      refine ow_iload (q := 189) Xc3 hx (hb hby own_d1_187) rfl rfl ?_
      refine ow_iadd (q := 190) Xc3 hx (1 : Int32) (hb hby own_d1_189) rfl (by decide) ?_
      refine ownGo (T' := Tc3) (f' := (mkF m 191 #[rv a0, iv (0 : Int32), iv (3 : Int32), iv v2, iv (3 : Int32), iv lo, iv hi, iv (1 : Int32), .unset, .unset, .unset] [(.int (g 1))])) (ownBaload HF0 Xc3 hx hZ ec3 (j := (1 : Int32)) (by unfold ownIn; decide) (g := (mkF m 190 #[rv a0, iv (0 : Int32), iv (3 : Int32), iv v2, iv (3 : Int32), iv lo, iv hi, iv (1 : Int32), .unset, .unset, .unset] [(.int (1 : Int32)), (.ref a0)])) rfl rfl (hb hby own_d1_190)) ?_
      generalize hv_v12 : (g 1) = v12
      refine ow_sipush (q := 194) Xc3 hx (255 : Int32) (hb hby own_d1_191) rfl rfl ?_
      refine ow_iand (q := 195) Xc3 hx _ (hb hby own_d1_194) rfl rfl ?_
      generalize hv_v13 : (v12 &&& (255 : Int32)) = v13
      refine ow_istore (q := 197) Xc3 hx (L' := #[rv a0, iv (0 : Int32), iv (3 : Int32), iv v2, iv (3 : Int32), iv lo, iv hi, iv (1 : Int32), iv v13, .unset, .unset]) (hb hby own_d1_195) rfl rfl ?_
      refine ow_iload (q := 199) Xc3 hx (hb hby own_d1_197) rfl rfl ?_
      refine ow_iconst (q := 200) Xc3 hx (1 : Int32) (hb hby own_d1_199) rfl rfl ?_
      refine ow_icmpNo (q := 203) Xc3 hx (hb hby own_d1_200) rfl (Jvm.Free.XT.ii_ne_f (by decide)) ?_
      refine ow_iload (q := 205) Xc3 hx (hb hby own_d1_203) rfl rfl ?_
      refine ow_goto (q := 211) Xc3 hx (hb hby own_d1_205) (by decide) (by decide) ?_
      refine ow_istore (q := 213) Xc3 hx (L' := #[rv a0, iv (0 : Int32), iv (3 : Int32), iv v2, iv (3 : Int32), iv lo, iv hi, iv (1 : Int32), iv v13, iv lo, .unset]) (hb hby own_d1_211) rfl rfl ?_
      refine ow_iload (q := 215) Xc3 hx (hb hby own_d1_213) rfl rfl ?_
      refine ow_iconst (q := 216) Xc3 hx (1 : Int32) (hb hby own_d1_215) rfl rfl ?_
      refine ow_icmpNo (q := 219) Xc3 hx (hb hby own_d1_216) rfl (Jvm.Free.XT.ii_ne_f (by decide)) ?_
      refine ow_iload (q := 221) Xc3 hx (hb hby own_d1_219) rfl rfl ?_
      refine ow_goto (q := 227) Xc3 hx (hb hby own_d1_221) (by decide) (by decide) ?_
      refine ow_istore (q := 229) Xc3 hx (L' := #[rv a0, iv (0 : Int32), iv (3 : Int32), iv v2, iv (3 : Int32), iv lo, iv hi, iv (1 : Int32), iv v13, iv lo, iv hi]) (hb hby own_d1_227) rfl rfl ?_
      refine ow_iload (q := 231) Xc3 hx (hb hby own_d1_229) rfl rfl ?_
      refine ow_iload (q := 233) Xc3 hx (hb hby own_d1_231) rfl rfl ?_
      by_cases hc233_14 : v13 < lo
      · refine ow_icmpYes (q := 243) Xc3 hx (hb hby own_d1_233) (Jvm.Free.XT.ii_lt_t hc233_14) (by decide) (by decide) ?_
        refine ow_iconst (q := 244) Xc3 hx (0 : Int32) (hb hby own_d1_243) rfl rfl ?_
        refine ownRetI Xc3 hx Bd.returns (hb hby own_d1_244) hlk (by decide) (by decide) ?_
        subst hv_v13 hv_v12 hv_v2 hv_v1
        rw [ec3]
        refine ⟨(0 : Int32), rfl, Nc3, rfl, ?_⟩
        unfold own_H at hH
        simp only [Int32.lt_iff_toInt_lt, ← Int32.toInt_inj, Int32.reduceToInt] at hc233_14 hH ⊢
        unfold own_sq
        (repeat' split) <;> omega
      · refine ow_icmpNo (q := 236) Xc3 hx (hb hby own_d1_233) rfl (Jvm.Free.XT.ii_lt_f hc233_14) ?_
        refine ow_iload (q := 238) Xc3 hx (hb hby own_d1_236) rfl rfl ?_
        refine ow_iload (q := 240) Xc3 hx (hb hby own_d1_238) rfl rfl ?_
        by_cases hc240_15 : hi < v13
        · refine ow_icmpNo (q := 243) Xc3 hx (hb hby own_d1_240) rfl (Jvm.Free.XT.ii_le_f hc240_15) ?_
          refine ow_iconst (q := 244) Xc3 hx (0 : Int32) (hb hby own_d1_243) rfl rfl ?_
          refine ownRetI Xc3 hx Bd.returns (hb hby own_d1_244) hlk (by decide) (by decide) ?_
          subst hv_v13 hv_v12 hv_v2 hv_v1
          rw [ec3]
          refine ⟨(0 : Int32), rfl, Nc3, rfl, ?_⟩
          unfold own_H at hH
          simp only [Int32.lt_iff_toInt_lt, ← Int32.toInt_inj, Int32.reduceToInt] at hc233_14 hc240_15 hH ⊢
          unfold own_sq
          (repeat' split) <;> omega
        · refine ow_icmpYes (q := 245) Xc3 hx (hb hby own_d1_240) (Jvm.Free.XT.ii_le_t hc240_15) (by decide) (by decide) ?_
          refine ow_iinc (q := 248) Xc3 hx (L' := #[rv a0, iv (0 : Int32), iv (3 : Int32), iv v2, iv (3 : Int32), iv lo, iv hi, iv (2 : Int32), iv v13, iv lo, iv hi]) (hb hby own_d1_245) rfl rfl rfl ?_
          refine ow_goto (q := 178) Xc3 hx (hb hby own_d1_248) (by decide) (by decide) ?_
          refine ow_iload (q := 180) Xc3 hx (hb hby own_d1_178) rfl rfl ?_
          refine ow_iload (q := 182) Xc3 hx (hb hby own_d1_180) rfl rfl ?_
          refine ow_icmpNo (q := 185) Xc3 hx (hb hby own_d1_182) rfl (Jvm.Free.XT.ii_ge_f (by decide)) ?_
          refine ow_aloadN (q := 186) Xc3 hx (hb hby own_d1_185) rfl rfl rfl ?_
          refine ow_iloadN (q := 187) Xc3 hx (hb hby own_d1_186) rfl rfl ?_
          refine ow_iload (q := 189) Xc3 hx (hb hby own_d1_187) rfl rfl ?_
          refine ow_iadd (q := 190) Xc3 hx (2 : Int32) (hb hby own_d1_189) rfl (by decide) ?_
          refine ownGo (T' := Tc3) (f' := (mkF m 191 #[rv a0, iv (0 : Int32), iv (3 : Int32), iv v2, iv (3 : Int32), iv lo, iv hi, iv (2 : Int32), iv v13, iv lo, iv hi] [(.int (g 2))])) (ownBaload HF0 Xc3 hx hZ ec3 (j := (2 : Int32)) (by unfold ownIn; decide) (g := (mkF m 190 #[rv a0, iv (0 : Int32), iv (3 : Int32), iv v2, iv (3 : Int32), iv lo, iv hi, iv (2 : Int32), iv v13, iv lo, iv hi] [(.int (2 : Int32)), (.ref a0)])) rfl rfl (hb hby own_d1_190)) ?_
          generalize hv_v16 : (g 2) = v16
          refine ow_sipush (q := 194) Xc3 hx (255 : Int32) (hb hby own_d1_191) rfl rfl ?_
          refine ow_iand (q := 195) Xc3 hx _ (hb hby own_d1_194) rfl rfl ?_
          generalize hv_v17 : (v16 &&& (255 : Int32)) = v17
          refine ow_istore (q := 197) Xc3 hx (L' := #[rv a0, iv (0 : Int32), iv (3 : Int32), iv v2, iv (3 : Int32), iv lo, iv hi, iv (2 : Int32), iv v17, iv lo, iv hi]) (hb hby own_d1_195) rfl rfl ?_
          refine ow_iload (q := 199) Xc3 hx (hb hby own_d1_197) rfl rfl ?_
          refine ow_iconst (q := 200) Xc3 hx (1 : Int32) (hb hby own_d1_199) rfl rfl ?_
          refine ow_icmpYes (q := 208) Xc3 hx (hb hby own_d1_200) (Jvm.Free.XT.ii_ne_t (by decide)) (by decide) (by decide) ?_
          refine ow_sipush (q := 211) Xc3 hx (128 : Int32) (hb hby own_d1_208) rfl rfl ?_
          refine ow_istore (q := 213) Xc3 hx (L' := #[rv a0, iv (0 : Int32), iv (3 : Int32), iv v2, iv (3 : Int32), iv lo, iv hi, iv (2 : Int32), iv v17, iv (128 : Int32), iv hi]) (hb hby own_d1_211) rfl rfl ?_
          refine ow_iload (q := 215) Xc3 hx (hb hby own_d1_213) rfl rfl ?_
          refine ow_iconst (q := 216) Xc3 hx (1 : Int32) (hb hby own_d1_215) rfl rfl ?_
          refine ow_icmpYes (q := 224) Xc3 hx (hb hby own_d1_216) (Jvm.Free.XT.ii_ne_t (by decide)) (by decide) (by decide) ?_
          refine ow_sipush (q := 227) Xc3 hx (191 : Int32) (hb hby own_d1_224) rfl rfl ?_
          refine ow_istore (q := 229) Xc3 hx (L' := #[rv a0, iv (0 : Int32), iv (3 : Int32), iv v2, iv (3 : Int32), iv lo, iv hi, iv (2 : Int32), iv v17, iv (128 : Int32), iv (191 : Int32)]) (hb hby own_d1_227) rfl rfl ?_
          refine ow_iload (q := 231) Xc3 hx (hb hby own_d1_229) rfl rfl ?_
          refine ow_iload (q := 233) Xc3 hx (hb hby own_d1_231) rfl rfl ?_
          by_cases hc233_18 : v17 < (128 : Int32)
          · refine ow_icmpYes (q := 243) Xc3 hx (hb hby own_d1_233) (Jvm.Free.XT.ii_lt_t hc233_18) (by decide) (by decide) ?_
            refine ow_iconst (q := 244) Xc3 hx (0 : Int32) (hb hby own_d1_243) rfl rfl ?_
            refine ownRetI Xc3 hx Bd.returns (hb hby own_d1_244) hlk (by decide) (by decide) ?_
            subst hv_v17 hv_v16 hv_v13 hv_v12 hv_v2 hv_v1
            rw [ec3]
            refine ⟨(0 : Int32), rfl, Nc3, rfl, ?_⟩
            unfold own_H at hH
            simp only [Int32.lt_iff_toInt_lt, ← Int32.toInt_inj, Int32.reduceToInt] at hc233_14 hc240_15 hc233_18 hH ⊢
            unfold own_sq
            (repeat' split) <;> omega
          · refine ow_icmpNo (q := 236) Xc3 hx (hb hby own_d1_233) rfl (Jvm.Free.XT.ii_lt_f hc233_18) ?_
            refine ow_iload (q := 238) Xc3 hx (hb hby own_d1_236) rfl rfl ?_
            refine ow_iload (q := 240) Xc3 hx (hb hby own_d1_238) rfl rfl ?_
            by_cases hc240_19 : (191 : Int32) < v17
            · refine ow_icmpNo (q := 243) Xc3 hx (hb hby own_d1_240) rfl (Jvm.Free.XT.ii_le_f hc240_19) ?_
              refine ow_iconst (q := 244) Xc3 hx (0 : Int32) (hb hby own_d1_243) rfl rfl ?_
              refine ownRetI Xc3 hx Bd.returns (hb hby own_d1_244) hlk (by decide) (by decide) ?_
              subst hv_v17 hv_v16 hv_v13 hv_v12 hv_v2 hv_v1
              rw [ec3]
              refine ⟨(0 : Int32), rfl, Nc3, rfl, ?_⟩
              unfold own_H at hH
              simp only [Int32.lt_iff_toInt_lt, ← Int32.toInt_inj, Int32.reduceToInt] at hc233_14 hc240_15 hc233_18 hc240_19 hH ⊢
              unfold own_sq
              (repeat' split) <;> omega
            · refine ow_icmpYes (q := 245) Xc3 hx (hb hby own_d1_240) (Jvm.Free.XT.ii_le_t hc240_19) (by decide) (by decide) ?_
              refine ow_iinc (q := 248) Xc3 hx (L' := #[rv a0, iv (0 : Int32), iv (3 : Int32), iv v2, iv (3 : Int32), iv lo, iv hi, iv (3 : Int32), iv v17, iv (128 : Int32), iv (191 : Int32)]) (hb hby own_d1_245) rfl rfl rfl ?_
              refine ow_goto (q := 178) Xc3 hx (hb hby own_d1_248) (by decide) (by decide) ?_
              refine ow_iload (q := 180) Xc3 hx (hb hby own_d1_178) rfl rfl ?_
              refine ow_iload (q := 182) Xc3 hx (hb hby own_d1_180) rfl rfl ?_
              refine ow_icmpYes (q := 251) Xc3 hx (hb hby own_d1_182) (Jvm.Free.XT.ii_ge_t (by decide)) (by decide) (by decide) ?_
              refine ow_iload (q := 253) Xc3 hx (hb hby own_d1_251) rfl rfl ?_
              refine ownRetI Xc3 hx Bd.returns (hb hby own_d1_253) hlk (by decide) (by decide) ?_
              subst hv_v17 hv_v16 hv_v13 hv_v12 hv_v2 hv_v1
              rw [ec3]
              refine ⟨(3 : Int32), rfl, Nc3, rfl, ?_⟩
              unfold own_H at hH
              simp only [Int32.lt_iff_toInt_lt, ← Int32.toInt_inj, Int32.reduceToInt] at hc233_14 hc240_15 hc233_18 hc240_19 hH ⊢
              unfold own_sq
              (repeat' split) <;> omega
    · subst hs7
      refine ow_iload (q := 168) Xc3 hx (hb hby own_d1_166) rfl rfl ?_
      refine ow_iadd (q := 169) Xc3 hx (4 : Int32) (hb hby own_d1_168) rfl (by decide) ?_
      refine ow_iloadN (q := 170) Xc3 hx (hb hby own_d1_169) rfl rfl ?_
      refine ow_icmpNo (q := 173) Xc3 hx (hb hby own_d1_170) rfl (Jvm.Free.XT.ii_le_f (by decide)) ?_
      refine ow_iconst (q := 174) Xc3 hx (0 : Int32) (hb hby own_d1_173) rfl rfl ?_
      refine ownRetI Xc3 hx Bd.returns (hb hby own_d1_174) hlk (by decide) (by decide) ?_
      subst hv_v2 hv_v1
      rw [ec3]
      refine ⟨(0 : Int32), rfl, Nc3, rfl, ?_⟩
      unfold own_H at hH
      simp only [Int32.lt_iff_toInt_lt, ← Int32.toInt_inj, Int32.reduceToInt] at  hH ⊢
      unfold own_sq
      (repeat' split) <;> omega
  refine ow_iloadN (q := 19) X0 hx (hb hby own_d1_18) rfl rfl ?_
  refine ow_sipush (q := 22) X0 hx (128 : Int32) (hb hby own_d1_19) rfl rfl ?_
  by_cases hc22_20 : v2 < (128 : Int32)
  · refine ow_icmpNo (q := 25) X0 hx (hb hby own_d1_22) rfl (Jvm.Free.XT.ii_ge_f hc22_20) ?_
    refine ow_iconst (q := 26) X0 hx (1 : Int32) (hb hby own_d1_25) rfl rfl ?_
    refine ow_istore (q := 28) X0 hx (L' := #[rv a0, iv (0 : Int32), iv (3 : Int32), iv v2, iv (1 : Int32), iv (128 : Int32), iv (191 : Int32), .unset, .unset, .unset, .unset]) (hb hby own_d1_26) rfl rfl ?_
    refine ow_goto (q := 165) X0 hx (hb hby own_d1_28) (by decide) (by decide) ?_
    exact cut165_3 (1 : Int32) (128 : Int32) (191 : Int32) _ _ X0 e0 N0 (by unfold own_H; simp only [Int32.lt_iff_toInt_lt, ← Int32.toInt_inj, Int32.reduceToInt, true_and, and_true] at hc22_20 ⊢; omega)
  · refine ow_icmpYes (q := 31) X0 hx (hb hby own_d1_22) (Jvm.Free.XT.ii_ge_t hc22_20) (by decide) (by decide) ?_
    refine ow_iloadN (q := 32) X0 hx (hb hby own_d1_31) rfl rfl ?_
    refine ow_sipush (q := 35) X0 hx (194 : Int32) (hb hby own_d1_32) rfl rfl ?_
    by_cases hc35_21 : v2 < (194 : Int32)
    · refine ow_icmpYes (q := 51) X0 hx (hb hby own_d1_35) (Jvm.Free.XT.ii_lt_t hc35_21) (by decide) (by decide) ?_
      refine ow_iloadN (q := 52) X0 hx (hb hby own_d1_51) rfl rfl ?_
      refine ow_sipush (q := 55) X0 hx (224 : Int32) (hb hby own_d1_52) rfl rfl ?_
      by_cases hc55_22 : v2 < (224 : Int32)
      · refine ow_icmpYes (q := 107) X0 hx (hb hby own_d1_55) (Jvm.Free.XT.ii_lt_t hc55_22) (by decide) (by decide) ?_
        refine ow_iloadN (q := 108) X0 hx (hb hby own_d1_107) rfl rfl ?_
        refine ow_sipush (q := 111) X0 hx (240 : Int32) (hb hby own_d1_108) rfl rfl ?_
        by_cases hc111_23 : v2 < (240 : Int32)
        · refine ow_icmpYes (q := 163) X0 hx (hb hby own_d1_111) (Jvm.Free.XT.ii_lt_t hc111_23) (by decide) (by decide) ?_
          refine ow_iconst (q := 164) X0 hx (0 : Int32) (hb hby own_d1_163) rfl rfl ?_
          refine ownRetI X0 hx Bd.returns (hb hby own_d1_164) hlk (by decide) (by decide) ?_
          subst hv_v2 hv_v1
          rw [e0]
          refine ⟨(0 : Int32), rfl, N0, rfl, ?_⟩
          simp only [Int32.lt_iff_toInt_lt, ← Int32.toInt_inj, Int32.reduceToInt] at hc22_20 hc35_21 hc55_22 hc111_23 ⊢
          unfold own_sq
          (repeat' split) <;> omega
        · refine ow_icmpNo (q := 114) X0 hx (hb hby own_d1_111) rfl (Jvm.Free.XT.ii_lt_f hc111_23) ?_
          refine ow_iloadN (q := 115) X0 hx (hb hby own_d1_114) rfl rfl ?_
          refine ow_sipush (q := 118) X0 hx (244 : Int32) (hb hby own_d1_115) rfl rfl ?_
          by_cases hc118_24 : (244 : Int32) < v2
          · refine ow_icmpYes (q := 163) X0 hx (hb hby own_d1_118) (Jvm.Free.XT.ii_gt_t hc118_24) (by decide) (by decide) ?_
            refine ow_iconst (q := 164) X0 hx (0 : Int32) (hb hby own_d1_163) rfl rfl ?_
            refine ownRetI X0 hx Bd.returns (hb hby own_d1_164) hlk (by decide) (by decide) ?_
            subst hv_v2 hv_v1
            rw [e0]
            refine ⟨(0 : Int32), rfl, N0, rfl, ?_⟩
            simp only [Int32.lt_iff_toInt_lt, ← Int32.toInt_inj, Int32.reduceToInt] at hc22_20 hc35_21 hc55_22 hc111_23 hc118_24 ⊢
            unfold own_sq
            (repeat' split) <;> omega
          · refine ow_icmpNo (q := 121) X0 hx (hb hby own_d1_118) rfl (Jvm.Free.XT.ii_gt_f hc118_24) ?_
            refine ow_iconst (q := 122) X0 hx (4 : Int32) (hb hby own_d1_121) rfl rfl ?_
            refine ow_istore (q := 124) X0 hx (L' := #[rv a0, iv (0 : Int32), iv (3 : Int32), iv v2, iv (4 : Int32), iv (128 : Int32), iv (191 : Int32), .unset, .unset, .unset, .unset]) (hb hby own_d1_122) rfl rfl ?_
            refine ow_iloadN (q := 125) X0 hx (hb hby own_d1_124) rfl rfl ?_
            refine ow_sipush (q := 128) X0 hx (240 : Int32) (hb hby own_d1_125) rfl rfl ?_
            by_cases hc128_25 : v2 = (240 : Int32)
            · refine ow_icmpNo (q := 131) X0 hx (hb hby own_d1_128) rfl (Jvm.Free.XT.ii_ne_f hc128_25) ?_
              refine ow_sipush (q := 134) X0 hx (144 : Int32) (hb hby own_d1_131) rfl rfl ?_
              refine ow_goto (q := 140) X0 hx (hb hby own_d1_134) (by decide) (by decide) ?_
              refine ow_istore (q := 142) X0 hx (L' := #[rv a0, iv (0 : Int32), iv (3 : Int32), iv v2, iv (4 : Int32), iv (144 : Int32), iv (191 : Int32), .unset, .unset, .unset, .unset]) (hb hby own_d1_140) rfl rfl ?_
              refine ow_iloadN (q := 143) X0 hx (hb hby own_d1_142) rfl rfl ?_
              refine ow_sipush (q := 146) X0 hx (244 : Int32) (hb hby own_d1_143) rfl rfl ?_
              by_cases hc146_26 : v2 = (244 : Int32)
              · refine ow_icmpNo (q := 149) X0 hx (hb hby own_d1_146) rfl (Jvm.Free.XT.ii_ne_f hc146_26) ?_
                refine ow_sipush (q := 152) X0 hx (143 : Int32) (hb hby own_d1_149) rfl rfl ?_
                refine ow_goto (q := 158) X0 hx (hb hby own_d1_152) (by decide) (by decide) ?_
                refine ow_istore (q := 160) X0 hx (L' := #[rv a0, iv (0 : Int32), iv (3 : Int32), iv v2, iv (4 : Int32), iv (144 : Int32), iv (143 : Int32), .unset, .unset, .unset, .unset]) (hb hby own_d1_158) rfl rfl ?_
                refine ow_goto (q := 165) X0 hx (hb hby own_d1_160) (by decide) (by decide) ?_
                exact cut165_3 (4 : Int32) (144 : Int32) (143 : Int32) _ _ X0 e0 N0 (by unfold own_H; simp only [Int32.lt_iff_toInt_lt, ← Int32.toInt_inj, Int32.reduceToInt, true_and, and_true] at hc22_20 hc35_21 hc55_22 hc111_23 hc118_24 hc128_25 hc146_26 ⊢; omega)
              · refine ow_icmpYes (q := 155) X0 hx (hb hby own_d1_146) (Jvm.Free.XT.ii_ne_t hc146_26) (by decide) (by decide) ?_
                refine ow_sipush (q := 158) X0 hx (191 : Int32) (hb hby own_d1_155) rfl rfl ?_
                refine ow_istore (q := 160) X0 hx (L' := #[rv a0, iv (0 : Int32), iv (3 : Int32), iv v2, iv (4 : Int32), iv (144 : Int32), iv (191 : Int32), .unset, .unset, .unset, .unset]) (hb hby own_d1_158) rfl rfl ?_
                refine ow_goto (q := 165) X0 hx (hb hby own_d1_160) (by decide) (by decide) ?_
                exact cut165_3 (4 : Int32) (144 : Int32) (191 : Int32) _ _ X0 e0 N0 (by unfold own_H; simp only [Int32.lt_iff_toInt_lt, ← Int32.toInt_inj, Int32.reduceToInt, true_and, and_true] at hc22_20 hc35_21 hc55_22 hc111_23 hc118_24 hc128_25 hc146_26 ⊢; omega)
            · refine ow_icmpYes (q := 137) X0 hx (hb hby own_d1_128) (Jvm.Free.XT.ii_ne_t hc128_25) (by decide) (by decide) ?_
              refine ow_sipush (q := 140) X0 hx (128 : Int32) (hb hby own_d1_137) rfl rfl ?_
              refine ow_istore (q := 142) X0 hx (L' := #[rv a0, iv (0 : Int32), iv (3 : Int32), iv v2, iv (4 : Int32), iv (128 : Int32), iv (191 : Int32), .unset, .unset, .unset, .unset]) (hb hby own_d1_140) rfl rfl ?_
              refine ow_iloadN (q := 143) X0 hx (hb hby own_d1_142) rfl rfl ?_
              refine ow_sipush (q := 146) X0 hx (244 : Int32) (hb hby own_d1_143) rfl rfl ?_
              by_cases hc146_27 : v2 = (244 : Int32)
              · refine ow_icmpNo (q := 149) X0 hx (hb hby own_d1_146) rfl (Jvm.Free.XT.ii_ne_f hc146_27) ?_
                refine ow_sipush (q := 152) X0 hx (143 : Int32) (hb hby own_d1_149) rfl rfl ?_
                refine ow_goto (q := 158) X0 hx (hb hby own_d1_152) (by decide) (by decide) ?_
                refine ow_istore (q := 160) X0 hx (L' := #[rv a0, iv (0 : Int32), iv (3 : Int32), iv v2, iv (4 : Int32), iv (128 : Int32), iv (143 : Int32), .unset, .unset, .unset, .unset]) (hb hby own_d1_158) rfl rfl ?_
                refine ow_goto (q := 165) X0 hx (hb hby own_d1_160) (by decide) (by decide) ?_
                exact cut165_3 (4 : Int32) (128 : Int32) (143 : Int32) _ _ X0 e0 N0 (by unfold own_H; simp only [Int32.lt_iff_toInt_lt, ← Int32.toInt_inj, Int32.reduceToInt, true_and, and_true] at hc22_20 hc35_21 hc55_22 hc111_23 hc118_24 hc128_25 hc146_27 ⊢; omega)
              · refine ow_icmpYes (q := 155) X0 hx (hb hby own_d1_146) (Jvm.Free.XT.ii_ne_t hc146_27) (by decide) (by decide) ?_
                refine ow_sipush (q := 158) X0 hx (191 : Int32) (hb hby own_d1_155) rfl rfl ?_
                refine ow_istore (q := 160) X0 hx (L' := #[rv a0, iv (0 : Int32), iv (3 : Int32), iv v2, iv (4 : Int32), iv (128 : Int32), iv (191 : Int32), .unset, .unset, .unset, .unset]) (hb hby own_d1_158) rfl rfl ?_
                refine ow_goto (q := 165) X0 hx (hb hby own_d1_160) (by decide) (by decide) ?_
                exact cut165_3 (4 : Int32) (128 : Int32) (191 : Int32) _ _ X0 e0 N0 (by unfold own_H; simp only [Int32.lt_iff_toInt_lt, ← Int32.toInt_inj, Int32.reduceToInt, true_and, and_true] at hc22_20 hc35_21 hc55_22 hc111_23 hc118_24 hc128_25 hc146_27 ⊢; omega)
      · refine ow_icmpNo (q := 58) X0 hx (hb hby own_d1_55) rfl (Jvm.Free.XT.ii_lt_f hc55_22) ?_
        refine ow_iloadN (q := 59) X0 hx (hb hby own_d1_58) rfl rfl ?_
        refine ow_sipush (q := 62) X0 hx (239 : Int32) (hb hby own_d1_59) rfl rfl ?_
        by_cases hc62_28 : (239 : Int32) < v2
        · refine ow_icmpYes (q := 107) X0 hx (hb hby own_d1_62) (Jvm.Free.XT.ii_gt_t hc62_28) (by decide) (by decide) ?_
          refine ow_iloadN (q := 108) X0 hx (hb hby own_d1_107) rfl rfl ?_
          refine ow_sipush (q := 111) X0 hx (240 : Int32) (hb hby own_d1_108) rfl rfl ?_
          by_cases hc111_29 : v2 < (240 : Int32)
          · refine ow_icmpYes (q := 163) X0 hx (hb hby own_d1_111) (Jvm.Free.XT.ii_lt_t hc111_29) (by decide) (by decide) ?_
            refine ow_iconst (q := 164) X0 hx (0 : Int32) (hb hby own_d1_163) rfl rfl ?_
            refine ownRetI X0 hx Bd.returns (hb hby own_d1_164) hlk (by decide) (by decide) ?_
            subst hv_v2 hv_v1
            rw [e0]
            refine ⟨(0 : Int32), rfl, N0, rfl, ?_⟩
            simp only [Int32.lt_iff_toInt_lt, ← Int32.toInt_inj, Int32.reduceToInt] at hc22_20 hc35_21 hc55_22 hc62_28 hc111_29 ⊢
            unfold own_sq
            (repeat' split) <;> omega
          · refine ow_icmpNo (q := 114) X0 hx (hb hby own_d1_111) rfl (Jvm.Free.XT.ii_lt_f hc111_29) ?_
            refine ow_iloadN (q := 115) X0 hx (hb hby own_d1_114) rfl rfl ?_
            refine ow_sipush (q := 118) X0 hx (244 : Int32) (hb hby own_d1_115) rfl rfl ?_
            by_cases hc118_30 : (244 : Int32) < v2
            · refine ow_icmpYes (q := 163) X0 hx (hb hby own_d1_118) (Jvm.Free.XT.ii_gt_t hc118_30) (by decide) (by decide) ?_
              refine ow_iconst (q := 164) X0 hx (0 : Int32) (hb hby own_d1_163) rfl rfl ?_
              refine ownRetI X0 hx Bd.returns (hb hby own_d1_164) hlk (by decide) (by decide) ?_
              subst hv_v2 hv_v1
              rw [e0]
              refine ⟨(0 : Int32), rfl, N0, rfl, ?_⟩
              simp only [Int32.lt_iff_toInt_lt, ← Int32.toInt_inj, Int32.reduceToInt] at hc22_20 hc35_21 hc55_22 hc62_28 hc111_29 hc118_30 ⊢
              unfold own_sq
              (repeat' split) <;> omega
            · refine ow_icmpNo (q := 121) X0 hx (hb hby own_d1_118) rfl (Jvm.Free.XT.ii_gt_f hc118_30) ?_
              refine ow_iconst (q := 122) X0 hx (4 : Int32) (hb hby own_d1_121) rfl rfl ?_
              refine ow_istore (q := 124) X0 hx (L' := #[rv a0, iv (0 : Int32), iv (3 : Int32), iv v2, iv (4 : Int32), iv (128 : Int32), iv (191 : Int32), .unset, .unset, .unset, .unset]) (hb hby own_d1_122) rfl rfl ?_
              refine ow_iloadN (q := 125) X0 hx (hb hby own_d1_124) rfl rfl ?_
              refine ow_sipush (q := 128) X0 hx (240 : Int32) (hb hby own_d1_125) rfl rfl ?_
              by_cases hc128_31 : v2 = (240 : Int32)
              · refine ow_icmpNo (q := 131) X0 hx (hb hby own_d1_128) rfl (Jvm.Free.XT.ii_ne_f hc128_31) ?_
                refine ow_sipush (q := 134) X0 hx (144 : Int32) (hb hby own_d1_131) rfl rfl ?_
                refine ow_goto (q := 140) X0 hx (hb hby own_d1_134) (by decide) (by decide) ?_
                refine ow_istore (q := 142) X0 hx (L' := #[rv a0, iv (0 : Int32), iv (3 : Int32), iv v2, iv (4 : Int32), iv (144 : Int32), iv (191 : Int32), .unset, .unset, .unset, .unset]) (hb hby own_d1_140) rfl rfl ?_
                refine ow_iloadN (q := 143) X0 hx (hb hby own_d1_142) rfl rfl ?_
                refine ow_sipush (q := 146) X0 hx (244 : Int32) (hb hby own_d1_143) rfl rfl ?_
                by_cases hc146_32 : v2 = (244 : Int32)
                · refine ow_icmpNo (q := 149) X0 hx (hb hby own_d1_146) rfl (Jvm.Free.XT.ii_ne_f hc146_32) ?_
                  refine ow_sipush (q := 152) X0 hx (143 : Int32) (hb hby own_d1_149) rfl rfl ?_
                  refine ow_goto (q := 158) X0 hx (hb hby own_d1_152) (by decide) (by decide) ?_
                  refine ow_istore (q := 160) X0 hx (L' := #[rv a0, iv (0 : Int32), iv (3 : Int32), iv v2, iv (4 : Int32), iv (144 : Int32), iv (143 : Int32), .unset, .unset, .unset, .unset]) (hb hby own_d1_158) rfl rfl ?_
                  refine ow_goto (q := 165) X0 hx (hb hby own_d1_160) (by decide) (by decide) ?_
                  exact cut165_3 (4 : Int32) (144 : Int32) (143 : Int32) _ _ X0 e0 N0 (by unfold own_H; simp only [Int32.lt_iff_toInt_lt, ← Int32.toInt_inj, Int32.reduceToInt, true_and, and_true] at hc22_20 hc35_21 hc55_22 hc62_28 hc111_29 hc118_30 hc128_31 hc146_32 ⊢; omega)
                · refine ow_icmpYes (q := 155) X0 hx (hb hby own_d1_146) (Jvm.Free.XT.ii_ne_t hc146_32) (by decide) (by decide) ?_
                  refine ow_sipush (q := 158) X0 hx (191 : Int32) (hb hby own_d1_155) rfl rfl ?_
                  refine ow_istore (q := 160) X0 hx (L' := #[rv a0, iv (0 : Int32), iv (3 : Int32), iv v2, iv (4 : Int32), iv (144 : Int32), iv (191 : Int32), .unset, .unset, .unset, .unset]) (hb hby own_d1_158) rfl rfl ?_
                  refine ow_goto (q := 165) X0 hx (hb hby own_d1_160) (by decide) (by decide) ?_
                  exact cut165_3 (4 : Int32) (144 : Int32) (191 : Int32) _ _ X0 e0 N0 (by unfold own_H; simp only [Int32.lt_iff_toInt_lt, ← Int32.toInt_inj, Int32.reduceToInt, true_and, and_true] at hc22_20 hc35_21 hc55_22 hc62_28 hc111_29 hc118_30 hc128_31 hc146_32 ⊢; omega)
              · refine ow_icmpYes (q := 137) X0 hx (hb hby own_d1_128) (Jvm.Free.XT.ii_ne_t hc128_31) (by decide) (by decide) ?_
                refine ow_sipush (q := 140) X0 hx (128 : Int32) (hb hby own_d1_137) rfl rfl ?_
                refine ow_istore (q := 142) X0 hx (L' := #[rv a0, iv (0 : Int32), iv (3 : Int32), iv v2, iv (4 : Int32), iv (128 : Int32), iv (191 : Int32), .unset, .unset, .unset, .unset]) (hb hby own_d1_140) rfl rfl ?_
                refine ow_iloadN (q := 143) X0 hx (hb hby own_d1_142) rfl rfl ?_
                refine ow_sipush (q := 146) X0 hx (244 : Int32) (hb hby own_d1_143) rfl rfl ?_
                by_cases hc146_33 : v2 = (244 : Int32)
                · refine ow_icmpNo (q := 149) X0 hx (hb hby own_d1_146) rfl (Jvm.Free.XT.ii_ne_f hc146_33) ?_
                  refine ow_sipush (q := 152) X0 hx (143 : Int32) (hb hby own_d1_149) rfl rfl ?_
                  refine ow_goto (q := 158) X0 hx (hb hby own_d1_152) (by decide) (by decide) ?_
                  refine ow_istore (q := 160) X0 hx (L' := #[rv a0, iv (0 : Int32), iv (3 : Int32), iv v2, iv (4 : Int32), iv (128 : Int32), iv (143 : Int32), .unset, .unset, .unset, .unset]) (hb hby own_d1_158) rfl rfl ?_
                  refine ow_goto (q := 165) X0 hx (hb hby own_d1_160) (by decide) (by decide) ?_
                  exact cut165_3 (4 : Int32) (128 : Int32) (143 : Int32) _ _ X0 e0 N0 (by unfold own_H; simp only [Int32.lt_iff_toInt_lt, ← Int32.toInt_inj, Int32.reduceToInt, true_and, and_true] at hc22_20 hc35_21 hc55_22 hc62_28 hc111_29 hc118_30 hc128_31 hc146_33 ⊢; omega)
                · refine ow_icmpYes (q := 155) X0 hx (hb hby own_d1_146) (Jvm.Free.XT.ii_ne_t hc146_33) (by decide) (by decide) ?_
                  refine ow_sipush (q := 158) X0 hx (191 : Int32) (hb hby own_d1_155) rfl rfl ?_
                  refine ow_istore (q := 160) X0 hx (L' := #[rv a0, iv (0 : Int32), iv (3 : Int32), iv v2, iv (4 : Int32), iv (128 : Int32), iv (191 : Int32), .unset, .unset, .unset, .unset]) (hb hby own_d1_158) rfl rfl ?_
                  refine ow_goto (q := 165) X0 hx (hb hby own_d1_160) (by decide) (by decide) ?_
                  exact cut165_3 (4 : Int32) (128 : Int32) (191 : Int32) _ _ X0 e0 N0 (by unfold own_H; simp only [Int32.lt_iff_toInt_lt, ← Int32.toInt_inj, Int32.reduceToInt, true_and, and_true] at hc22_20 hc35_21 hc55_22 hc62_28 hc111_29 hc118_30 hc128_31 hc146_33 ⊢; omega)
        · refine ow_icmpNo (q := 65) X0 hx (hb hby own_d1_62) rfl (Jvm.Free.XT.ii_gt_f hc62_28) ?_
          refine ow_iconst (q := 66) X0 hx (3 : Int32) (hb hby own_d1_65) rfl rfl ?_
          refine ow_istore (q := 68) X0 hx (L' := #[rv a0, iv (0 : Int32), iv (3 : Int32), iv v2, iv (3 : Int32), iv (128 : Int32), iv (191 : Int32), .unset, .unset, .unset, .unset]) (hb hby own_d1_66) rfl rfl ?_
          refine ow_iloadN (q := 69) X0 hx (hb hby own_d1_68) rfl rfl ?_
          refine ow_sipush (q := 72) X0 hx (224 : Int32) (hb hby own_d1_69) rfl rfl ?_
          by_cases hc72_34 : v2 = (224 : Int32)
          · refine ow_icmpNo (q := 75) X0 hx (hb hby own_d1_72) rfl (Jvm.Free.XT.ii_ne_f hc72_34) ?_
            refine ow_sipush (q := 78) X0 hx (160 : Int32) (hb hby own_d1_75) rfl rfl ?_
            refine ow_goto (q := 84) X0 hx (hb hby own_d1_78) (by decide) (by decide) ?_
            refine ow_istore (q := 86) X0 hx (L' := #[rv a0, iv (0 : Int32), iv (3 : Int32), iv v2, iv (3 : Int32), iv (160 : Int32), iv (191 : Int32), .unset, .unset, .unset, .unset]) (hb hby own_d1_84) rfl rfl ?_
            refine ow_iloadN (q := 87) X0 hx (hb hby own_d1_86) rfl rfl ?_
            refine ow_sipush (q := 90) X0 hx (237 : Int32) (hb hby own_d1_87) rfl rfl ?_
            by_cases hc90_35 : v2 = (237 : Int32)
            · refine ow_icmpNo (q := 93) X0 hx (hb hby own_d1_90) rfl (Jvm.Free.XT.ii_ne_f hc90_35) ?_
              refine ow_sipush (q := 96) X0 hx (159 : Int32) (hb hby own_d1_93) rfl rfl ?_
              refine ow_goto (q := 102) X0 hx (hb hby own_d1_96) (by decide) (by decide) ?_
              refine ow_istore (q := 104) X0 hx (L' := #[rv a0, iv (0 : Int32), iv (3 : Int32), iv v2, iv (3 : Int32), iv (160 : Int32), iv (159 : Int32), .unset, .unset, .unset, .unset]) (hb hby own_d1_102) rfl rfl ?_
              refine ow_goto (q := 165) X0 hx (hb hby own_d1_104) (by decide) (by decide) ?_
              exact cut165_3 (3 : Int32) (160 : Int32) (159 : Int32) _ _ X0 e0 N0 (by unfold own_H; simp only [Int32.lt_iff_toInt_lt, ← Int32.toInt_inj, Int32.reduceToInt, true_and, and_true] at hc22_20 hc35_21 hc55_22 hc62_28 hc72_34 hc90_35 ⊢; omega)
            · refine ow_icmpYes (q := 99) X0 hx (hb hby own_d1_90) (Jvm.Free.XT.ii_ne_t hc90_35) (by decide) (by decide) ?_
              refine ow_sipush (q := 102) X0 hx (191 : Int32) (hb hby own_d1_99) rfl rfl ?_
              refine ow_istore (q := 104) X0 hx (L' := #[rv a0, iv (0 : Int32), iv (3 : Int32), iv v2, iv (3 : Int32), iv (160 : Int32), iv (191 : Int32), .unset, .unset, .unset, .unset]) (hb hby own_d1_102) rfl rfl ?_
              refine ow_goto (q := 165) X0 hx (hb hby own_d1_104) (by decide) (by decide) ?_
              exact cut165_3 (3 : Int32) (160 : Int32) (191 : Int32) _ _ X0 e0 N0 (by unfold own_H; simp only [Int32.lt_iff_toInt_lt, ← Int32.toInt_inj, Int32.reduceToInt, true_and, and_true] at hc22_20 hc35_21 hc55_22 hc62_28 hc72_34 hc90_35 ⊢; omega)
          · refine ow_icmpYes (q := 81) X0 hx (hb hby own_d1_72) (Jvm.Free.XT.ii_ne_t hc72_34) (by decide) (by decide) ?_
            refine ow_sipush (q := 84) X0 hx (128 : Int32) (hb hby own_d1_81) rfl rfl ?_
            refine ow_istore (q := 86) X0 hx (L' := #[rv a0, iv (0 : Int32), iv (3 : Int32), iv v2, iv (3 : Int32), iv (128 : Int32), iv (191 : Int32), .unset, .unset, .unset, .unset]) (hb hby own_d1_84) rfl rfl ?_
            refine ow_iloadN (q := 87) X0 hx (hb hby own_d1_86) rfl rfl ?_
            refine ow_sipush (q := 90) X0 hx (237 : Int32) (hb hby own_d1_87) rfl rfl ?_
            by_cases hc90_36 : v2 = (237 : Int32)
            · refine ow_icmpNo (q := 93) X0 hx (hb hby own_d1_90) rfl (Jvm.Free.XT.ii_ne_f hc90_36) ?_
              refine ow_sipush (q := 96) X0 hx (159 : Int32) (hb hby own_d1_93) rfl rfl ?_
              refine ow_goto (q := 102) X0 hx (hb hby own_d1_96) (by decide) (by decide) ?_
              refine ow_istore (q := 104) X0 hx (L' := #[rv a0, iv (0 : Int32), iv (3 : Int32), iv v2, iv (3 : Int32), iv (128 : Int32), iv (159 : Int32), .unset, .unset, .unset, .unset]) (hb hby own_d1_102) rfl rfl ?_
              refine ow_goto (q := 165) X0 hx (hb hby own_d1_104) (by decide) (by decide) ?_
              exact cut165_3 (3 : Int32) (128 : Int32) (159 : Int32) _ _ X0 e0 N0 (by unfold own_H; simp only [Int32.lt_iff_toInt_lt, ← Int32.toInt_inj, Int32.reduceToInt, true_and, and_true] at hc22_20 hc35_21 hc55_22 hc62_28 hc72_34 hc90_36 ⊢; omega)
            · refine ow_icmpYes (q := 99) X0 hx (hb hby own_d1_90) (Jvm.Free.XT.ii_ne_t hc90_36) (by decide) (by decide) ?_
              refine ow_sipush (q := 102) X0 hx (191 : Int32) (hb hby own_d1_99) rfl rfl ?_
              refine ow_istore (q := 104) X0 hx (L' := #[rv a0, iv (0 : Int32), iv (3 : Int32), iv v2, iv (3 : Int32), iv (128 : Int32), iv (191 : Int32), .unset, .unset, .unset, .unset]) (hb hby own_d1_102) rfl rfl ?_
              refine ow_goto (q := 165) X0 hx (hb hby own_d1_104) (by decide) (by decide) ?_
              exact cut165_3 (3 : Int32) (128 : Int32) (191 : Int32) _ _ X0 e0 N0 (by unfold own_H; simp only [Int32.lt_iff_toInt_lt, ← Int32.toInt_inj, Int32.reduceToInt, true_and, and_true] at hc22_20 hc35_21 hc55_22 hc62_28 hc72_34 hc90_36 ⊢; omega)
    · refine ow_icmpNo (q := 38) X0 hx (hb hby own_d1_35) rfl (Jvm.Free.XT.ii_lt_f hc35_21) ?_
      refine ow_iloadN (q := 39) X0 hx (hb hby own_d1_38) rfl rfl ?_
      refine ow_sipush (q := 42) X0 hx (223 : Int32) (hb hby own_d1_39) rfl rfl ?_
      by_cases hc42_37 : (223 : Int32) < v2
      · refine ow_icmpYes (q := 51) X0 hx (hb hby own_d1_42) (Jvm.Free.XT.ii_gt_t hc42_37) (by decide) (by decide) ?_
        refine ow_iloadN (q := 52) X0 hx (hb hby own_d1_51) rfl rfl ?_
        refine ow_sipush (q := 55) X0 hx (224 : Int32) (hb hby own_d1_52) rfl rfl ?_
        by_cases hc55_38 : v2 < (224 : Int32)
        · refine ow_icmpYes (q := 107) X0 hx (hb hby own_d1_55) (Jvm.Free.XT.ii_lt_t hc55_38) (by decide) (by decide) ?_
          refine ow_iloadN (q := 108) X0 hx (hb hby own_d1_107) rfl rfl ?_
          refine ow_sipush (q := 111) X0 hx (240 : Int32) (hb hby own_d1_108) rfl rfl ?_
          by_cases hc111_39 : v2 < (240 : Int32)
          · refine ow_icmpYes (q := 163) X0 hx (hb hby own_d1_111) (Jvm.Free.XT.ii_lt_t hc111_39) (by decide) (by decide) ?_
            refine ow_iconst (q := 164) X0 hx (0 : Int32) (hb hby own_d1_163) rfl rfl ?_
            refine ownRetI X0 hx Bd.returns (hb hby own_d1_164) hlk (by decide) (by decide) ?_
            subst hv_v2 hv_v1
            rw [e0]
            refine ⟨(0 : Int32), rfl, N0, rfl, ?_⟩
            simp only [Int32.lt_iff_toInt_lt, ← Int32.toInt_inj, Int32.reduceToInt] at hc22_20 hc35_21 hc42_37 hc55_38 hc111_39 ⊢
            unfold own_sq
            (repeat' split) <;> omega
          · refine ow_icmpNo (q := 114) X0 hx (hb hby own_d1_111) rfl (Jvm.Free.XT.ii_lt_f hc111_39) ?_
            refine ow_iloadN (q := 115) X0 hx (hb hby own_d1_114) rfl rfl ?_
            refine ow_sipush (q := 118) X0 hx (244 : Int32) (hb hby own_d1_115) rfl rfl ?_
            by_cases hc118_40 : (244 : Int32) < v2
            · refine ow_icmpYes (q := 163) X0 hx (hb hby own_d1_118) (Jvm.Free.XT.ii_gt_t hc118_40) (by decide) (by decide) ?_
              refine ow_iconst (q := 164) X0 hx (0 : Int32) (hb hby own_d1_163) rfl rfl ?_
              refine ownRetI X0 hx Bd.returns (hb hby own_d1_164) hlk (by decide) (by decide) ?_
              subst hv_v2 hv_v1
              rw [e0]
              refine ⟨(0 : Int32), rfl, N0, rfl, ?_⟩
              simp only [Int32.lt_iff_toInt_lt, ← Int32.toInt_inj, Int32.reduceToInt] at hc22_20 hc35_21 hc42_37 hc55_38 hc111_39 hc118_40 ⊢
              unfold own_sq
              (repeat' split) <;> omega
            · refine ow_icmpNo (q := 121) X0 hx (hb hby own_d1_118) rfl (Jvm.Free.XT.ii_gt_f hc118_40) ?_
              refine ow_iconst (q := 122) X0 hx (4 : Int32) (hb hby own_d1_121) rfl rfl ?_
              refine ow_istore (q := 124) X0 hx (L' := #[rv a0, iv (0 : Int32), iv (3 : Int32), iv v2, iv (4 : Int32), iv (128 : Int32), iv (191 : Int32), .unset, .unset, .unset, .unset]) (hb hby own_d1_122) rfl rfl ?_
              refine ow_iloadN (q := 125) X0 hx (hb hby own_d1_124) rfl rfl ?_
              refine ow_sipush (q := 128) X0 hx (240 : Int32) (hb hby own_d1_125) rfl rfl ?_
              by_cases hc128_41 : v2 = (240 : Int32)
              · refine ow_icmpNo (q := 131) X0 hx (hb hby own_d1_128) rfl (Jvm.Free.XT.ii_ne_f hc128_41) ?_
                refine ow_sipush (q := 134) X0 hx (144 : Int32) (hb hby own_d1_131) rfl rfl ?_
                refine ow_goto (q := 140) X0 hx (hb hby own_d1_134) (by decide) (by decide) ?_
                refine ow_istore (q := 142) X0 hx (L' := #[rv a0, iv (0 : Int32), iv (3 : Int32), iv v2, iv (4 : Int32), iv (144 : Int32), iv (191 : Int32), .unset, .unset, .unset, .unset]) (hb hby own_d1_140) rfl rfl ?_
                refine ow_iloadN (q := 143) X0 hx (hb hby own_d1_142) rfl rfl ?_
                refine ow_sipush (q := 146) X0 hx (244 : Int32) (hb hby own_d1_143) rfl rfl ?_
                by_cases hc146_42 : v2 = (244 : Int32)
                · refine ow_icmpNo (q := 149) X0 hx (hb hby own_d1_146) rfl (Jvm.Free.XT.ii_ne_f hc146_42) ?_
                  refine ow_sipush (q := 152) X0 hx (143 : Int32) (hb hby own_d1_149) rfl rfl ?_
                  refine ow_goto (q := 158) X0 hx (hb hby own_d1_152) (by decide) (by decide) ?_
                  refine ow_istore (q := 160) X0 hx (L' := #[rv a0, iv (0 : Int32), iv (3 : Int32), iv v2, iv (4 : Int32), iv (144 : Int32), iv (143 : Int32), .unset, .unset, .unset, .unset]) (hb hby own_d1_158) rfl rfl ?_
                  refine ow_goto (q := 165) X0 hx (hb hby own_d1_160) (by decide) (by decide) ?_
                  exact cut165_3 (4 : Int32) (144 : Int32) (143 : Int32) _ _ X0 e0 N0 (by unfold own_H; simp only [Int32.lt_iff_toInt_lt, ← Int32.toInt_inj, Int32.reduceToInt, true_and, and_true] at hc22_20 hc35_21 hc42_37 hc55_38 hc111_39 hc118_40 hc128_41 hc146_42 ⊢; omega)
                · refine ow_icmpYes (q := 155) X0 hx (hb hby own_d1_146) (Jvm.Free.XT.ii_ne_t hc146_42) (by decide) (by decide) ?_
                  refine ow_sipush (q := 158) X0 hx (191 : Int32) (hb hby own_d1_155) rfl rfl ?_
                  refine ow_istore (q := 160) X0 hx (L' := #[rv a0, iv (0 : Int32), iv (3 : Int32), iv v2, iv (4 : Int32), iv (144 : Int32), iv (191 : Int32), .unset, .unset, .unset, .unset]) (hb hby own_d1_158) rfl rfl ?_
                  refine ow_goto (q := 165) X0 hx (hb hby own_d1_160) (by decide) (by decide) ?_
                  exact cut165_3 (4 : Int32) (144 : Int32) (191 : Int32) _ _ X0 e0 N0 (by unfold own_H; simp only [Int32.lt_iff_toInt_lt, ← Int32.toInt_inj, Int32.reduceToInt, true_and, and_true] at hc22_20 hc35_21 hc42_37 hc55_38 hc111_39 hc118_40 hc128_41 hc146_42 ⊢; omega)
              · refine ow_icmpYes (q := 137) X0 hx (hb hby own_d1_128) (Jvm.Free.XT.ii_ne_t hc128_41) (by decide) (by decide) ?_
                refine ow_sipush (q := 140) X0 hx (128 : Int32) (hb hby own_d1_137) rfl rfl ?_
                refine ow_istore (q := 142) X0 hx (L' := #[rv a0, iv (0 : Int32), iv (3 : Int32), iv v2, iv (4 : Int32), iv (128 : Int32), iv (191 : Int32), .unset, .unset, .unset, .unset]) (hb hby own_d1_140) rfl rfl ?_
                refine ow_iloadN (q := 143) X0 hx (hb hby own_d1_142) rfl rfl ?_
                refine ow_sipush (q := 146) X0 hx (244 : Int32) (hb hby own_d1_143) rfl rfl ?_
                by_cases hc146_43 : v2 = (244 : Int32)
                · refine ow_icmpNo (q := 149) X0 hx (hb hby own_d1_146) rfl (Jvm.Free.XT.ii_ne_f hc146_43) ?_
                  refine ow_sipush (q := 152) X0 hx (143 : Int32) (hb hby own_d1_149) rfl rfl ?_
                  refine ow_goto (q := 158) X0 hx (hb hby own_d1_152) (by decide) (by decide) ?_
                  refine ow_istore (q := 160) X0 hx (L' := #[rv a0, iv (0 : Int32), iv (3 : Int32), iv v2, iv (4 : Int32), iv (128 : Int32), iv (143 : Int32), .unset, .unset, .unset, .unset]) (hb hby own_d1_158) rfl rfl ?_
                  refine ow_goto (q := 165) X0 hx (hb hby own_d1_160) (by decide) (by decide) ?_
                  exact cut165_3 (4 : Int32) (128 : Int32) (143 : Int32) _ _ X0 e0 N0 (by unfold own_H; simp only [Int32.lt_iff_toInt_lt, ← Int32.toInt_inj, Int32.reduceToInt, true_and, and_true] at hc22_20 hc35_21 hc42_37 hc55_38 hc111_39 hc118_40 hc128_41 hc146_43 ⊢; omega)
                · refine ow_icmpYes (q := 155) X0 hx (hb hby own_d1_146) (Jvm.Free.XT.ii_ne_t hc146_43) (by decide) (by decide) ?_
                  refine ow_sipush (q := 158) X0 hx (191 : Int32) (hb hby own_d1_155) rfl rfl ?_
                  refine ow_istore (q := 160) X0 hx (L' := #[rv a0, iv (0 : Int32), iv (3 : Int32), iv v2, iv (4 : Int32), iv (128 : Int32), iv (191 : Int32), .unset, .unset, .unset, .unset]) (hb hby own_d1_158) rfl rfl ?_
                  refine ow_goto (q := 165) X0 hx (hb hby own_d1_160) (by decide) (by decide) ?_
                  exact cut165_3 (4 : Int32) (128 : Int32) (191 : Int32) _ _ X0 e0 N0 (by unfold own_H; simp only [Int32.lt_iff_toInt_lt, ← Int32.toInt_inj, Int32.reduceToInt, true_and, and_true] at hc22_20 hc35_21 hc42_37 hc55_38 hc111_39 hc118_40 hc128_41 hc146_43 ⊢; omega)
        · refine ow_icmpNo (q := 58) X0 hx (hb hby own_d1_55) rfl (Jvm.Free.XT.ii_lt_f hc55_38) ?_
          refine ow_iloadN (q := 59) X0 hx (hb hby own_d1_58) rfl rfl ?_
          refine ow_sipush (q := 62) X0 hx (239 : Int32) (hb hby own_d1_59) rfl rfl ?_
          by_cases hc62_44 : (239 : Int32) < v2
          · refine ow_icmpYes (q := 107) X0 hx (hb hby own_d1_62) (Jvm.Free.XT.ii_gt_t hc62_44) (by decide) (by decide) ?_
            refine ow_iloadN (q := 108) X0 hx (hb hby own_d1_107) rfl rfl ?_
            refine ow_sipush (q := 111) X0 hx (240 : Int32) (hb hby own_d1_108) rfl rfl ?_
            by_cases hc111_45 : v2 < (240 : Int32)
            · refine ow_icmpYes (q := 163) X0 hx (hb hby own_d1_111) (Jvm.Free.XT.ii_lt_t hc111_45) (by decide) (by decide) ?_
              refine ow_iconst (q := 164) X0 hx (0 : Int32) (hb hby own_d1_163) rfl rfl ?_
              refine ownRetI X0 hx Bd.returns (hb hby own_d1_164) hlk (by decide) (by decide) ?_
              subst hv_v2 hv_v1
              rw [e0]
              refine ⟨(0 : Int32), rfl, N0, rfl, ?_⟩
              simp only [Int32.lt_iff_toInt_lt, ← Int32.toInt_inj, Int32.reduceToInt] at hc22_20 hc35_21 hc42_37 hc55_38 hc62_44 hc111_45 ⊢
              unfold own_sq
              (repeat' split) <;> omega
            · refine ow_icmpNo (q := 114) X0 hx (hb hby own_d1_111) rfl (Jvm.Free.XT.ii_lt_f hc111_45) ?_
              refine ow_iloadN (q := 115) X0 hx (hb hby own_d1_114) rfl rfl ?_
              refine ow_sipush (q := 118) X0 hx (244 : Int32) (hb hby own_d1_115) rfl rfl ?_
              by_cases hc118_46 : (244 : Int32) < v2
              · refine ow_icmpYes (q := 163) X0 hx (hb hby own_d1_118) (Jvm.Free.XT.ii_gt_t hc118_46) (by decide) (by decide) ?_
                refine ow_iconst (q := 164) X0 hx (0 : Int32) (hb hby own_d1_163) rfl rfl ?_
                refine ownRetI X0 hx Bd.returns (hb hby own_d1_164) hlk (by decide) (by decide) ?_
                subst hv_v2 hv_v1
                rw [e0]
                refine ⟨(0 : Int32), rfl, N0, rfl, ?_⟩
                simp only [Int32.lt_iff_toInt_lt, ← Int32.toInt_inj, Int32.reduceToInt] at hc22_20 hc35_21 hc42_37 hc55_38 hc62_44 hc111_45 hc118_46 ⊢
                unfold own_sq
                (repeat' split) <;> omega
              · refine ow_icmpNo (q := 121) X0 hx (hb hby own_d1_118) rfl (Jvm.Free.XT.ii_gt_f hc118_46) ?_
                refine ow_iconst (q := 122) X0 hx (4 : Int32) (hb hby own_d1_121) rfl rfl ?_
                refine ow_istore (q := 124) X0 hx (L' := #[rv a0, iv (0 : Int32), iv (3 : Int32), iv v2, iv (4 : Int32), iv (128 : Int32), iv (191 : Int32), .unset, .unset, .unset, .unset]) (hb hby own_d1_122) rfl rfl ?_
                refine ow_iloadN (q := 125) X0 hx (hb hby own_d1_124) rfl rfl ?_
                refine ow_sipush (q := 128) X0 hx (240 : Int32) (hb hby own_d1_125) rfl rfl ?_
                by_cases hc128_47 : v2 = (240 : Int32)
                · refine ow_icmpNo (q := 131) X0 hx (hb hby own_d1_128) rfl (Jvm.Free.XT.ii_ne_f hc128_47) ?_
                  refine ow_sipush (q := 134) X0 hx (144 : Int32) (hb hby own_d1_131) rfl rfl ?_
                  refine ow_goto (q := 140) X0 hx (hb hby own_d1_134) (by decide) (by decide) ?_
                  refine ow_istore (q := 142) X0 hx (L' := #[rv a0, iv (0 : Int32), iv (3 : Int32), iv v2, iv (4 : Int32), iv (144 : Int32), iv (191 : Int32), .unset, .unset, .unset, .unset]) (hb hby own_d1_140) rfl rfl ?_
                  refine ow_iloadN (q := 143) X0 hx (hb hby own_d1_142) rfl rfl ?_
                  refine ow_sipush (q := 146) X0 hx (244 : Int32) (hb hby own_d1_143) rfl rfl ?_
                  by_cases hc146_48 : v2 = (244 : Int32)
                  · refine ow_icmpNo (q := 149) X0 hx (hb hby own_d1_146) rfl (Jvm.Free.XT.ii_ne_f hc146_48) ?_
                    refine ow_sipush (q := 152) X0 hx (143 : Int32) (hb hby own_d1_149) rfl rfl ?_
                    refine ow_goto (q := 158) X0 hx (hb hby own_d1_152) (by decide) (by decide) ?_
                    refine ow_istore (q := 160) X0 hx (L' := #[rv a0, iv (0 : Int32), iv (3 : Int32), iv v2, iv (4 : Int32), iv (144 : Int32), iv (143 : Int32), .unset, .unset, .unset, .unset]) (hb hby own_d1_158) rfl rfl ?_
                    refine ow_goto (q := 165) X0 hx (hb hby own_d1_160) (by decide) (by decide) ?_
                    exact cut165_3 (4 : Int32) (144 : Int32) (143 : Int32) _ _ X0 e0 N0 (by unfold own_H; simp only [Int32.lt_iff_toInt_lt, ← Int32.toInt_inj, Int32.reduceToInt, true_and, and_true] at hc22_20 hc35_21 hc42_37 hc55_38 hc62_44 hc111_45 hc118_46 hc128_47 hc146_48 ⊢; omega)
                  · refine ow_icmpYes (q := 155) X0 hx (hb hby own_d1_146) (Jvm.Free.XT.ii_ne_t hc146_48) (by decide) (by decide) ?_
                    refine ow_sipush (q := 158) X0 hx (191 : Int32) (hb hby own_d1_155) rfl rfl ?_
                    refine ow_istore (q := 160) X0 hx (L' := #[rv a0, iv (0 : Int32), iv (3 : Int32), iv v2, iv (4 : Int32), iv (144 : Int32), iv (191 : Int32), .unset, .unset, .unset, .unset]) (hb hby own_d1_158) rfl rfl ?_
                    refine ow_goto (q := 165) X0 hx (hb hby own_d1_160) (by decide) (by decide) ?_
                    exact cut165_3 (4 : Int32) (144 : Int32) (191 : Int32) _ _ X0 e0 N0 (by unfold own_H; simp only [Int32.lt_iff_toInt_lt, ← Int32.toInt_inj, Int32.reduceToInt, true_and, and_true] at hc22_20 hc35_21 hc42_37 hc55_38 hc62_44 hc111_45 hc118_46 hc128_47 hc146_48 ⊢; omega)
                · refine ow_icmpYes (q := 137) X0 hx (hb hby own_d1_128) (Jvm.Free.XT.ii_ne_t hc128_47) (by decide) (by decide) ?_
                  refine ow_sipush (q := 140) X0 hx (128 : Int32) (hb hby own_d1_137) rfl rfl ?_
                  refine ow_istore (q := 142) X0 hx (L' := #[rv a0, iv (0 : Int32), iv (3 : Int32), iv v2, iv (4 : Int32), iv (128 : Int32), iv (191 : Int32), .unset, .unset, .unset, .unset]) (hb hby own_d1_140) rfl rfl ?_
                  refine ow_iloadN (q := 143) X0 hx (hb hby own_d1_142) rfl rfl ?_
                  refine ow_sipush (q := 146) X0 hx (244 : Int32) (hb hby own_d1_143) rfl rfl ?_
                  by_cases hc146_49 : v2 = (244 : Int32)
                  · refine ow_icmpNo (q := 149) X0 hx (hb hby own_d1_146) rfl (Jvm.Free.XT.ii_ne_f hc146_49) ?_
                    refine ow_sipush (q := 152) X0 hx (143 : Int32) (hb hby own_d1_149) rfl rfl ?_
                    refine ow_goto (q := 158) X0 hx (hb hby own_d1_152) (by decide) (by decide) ?_
                    refine ow_istore (q := 160) X0 hx (L' := #[rv a0, iv (0 : Int32), iv (3 : Int32), iv v2, iv (4 : Int32), iv (128 : Int32), iv (143 : Int32), .unset, .unset, .unset, .unset]) (hb hby own_d1_158) rfl rfl ?_
                    refine ow_goto (q := 165) X0 hx (hb hby own_d1_160) (by decide) (by decide) ?_
                    exact cut165_3 (4 : Int32) (128 : Int32) (143 : Int32) _ _ X0 e0 N0 (by unfold own_H; simp only [Int32.lt_iff_toInt_lt, ← Int32.toInt_inj, Int32.reduceToInt, true_and, and_true] at hc22_20 hc35_21 hc42_37 hc55_38 hc62_44 hc111_45 hc118_46 hc128_47 hc146_49 ⊢; omega)
                  · refine ow_icmpYes (q := 155) X0 hx (hb hby own_d1_146) (Jvm.Free.XT.ii_ne_t hc146_49) (by decide) (by decide) ?_
                    refine ow_sipush (q := 158) X0 hx (191 : Int32) (hb hby own_d1_155) rfl rfl ?_
                    refine ow_istore (q := 160) X0 hx (L' := #[rv a0, iv (0 : Int32), iv (3 : Int32), iv v2, iv (4 : Int32), iv (128 : Int32), iv (191 : Int32), .unset, .unset, .unset, .unset]) (hb hby own_d1_158) rfl rfl ?_
                    refine ow_goto (q := 165) X0 hx (hb hby own_d1_160) (by decide) (by decide) ?_
                    exact cut165_3 (4 : Int32) (128 : Int32) (191 : Int32) _ _ X0 e0 N0 (by unfold own_H; simp only [Int32.lt_iff_toInt_lt, ← Int32.toInt_inj, Int32.reduceToInt, true_and, and_true] at hc22_20 hc35_21 hc42_37 hc55_38 hc62_44 hc111_45 hc118_46 hc128_47 hc146_49 ⊢; omega)
          · refine ow_icmpNo (q := 65) X0 hx (hb hby own_d1_62) rfl (Jvm.Free.XT.ii_gt_f hc62_44) ?_
            refine ow_iconst (q := 66) X0 hx (3 : Int32) (hb hby own_d1_65) rfl rfl ?_
            refine ow_istore (q := 68) X0 hx (L' := #[rv a0, iv (0 : Int32), iv (3 : Int32), iv v2, iv (3 : Int32), iv (128 : Int32), iv (191 : Int32), .unset, .unset, .unset, .unset]) (hb hby own_d1_66) rfl rfl ?_
            refine ow_iloadN (q := 69) X0 hx (hb hby own_d1_68) rfl rfl ?_
            refine ow_sipush (q := 72) X0 hx (224 : Int32) (hb hby own_d1_69) rfl rfl ?_
            by_cases hc72_50 : v2 = (224 : Int32)
            · refine ow_icmpNo (q := 75) X0 hx (hb hby own_d1_72) rfl (Jvm.Free.XT.ii_ne_f hc72_50) ?_
              refine ow_sipush (q := 78) X0 hx (160 : Int32) (hb hby own_d1_75) rfl rfl ?_
              refine ow_goto (q := 84) X0 hx (hb hby own_d1_78) (by decide) (by decide) ?_
              refine ow_istore (q := 86) X0 hx (L' := #[rv a0, iv (0 : Int32), iv (3 : Int32), iv v2, iv (3 : Int32), iv (160 : Int32), iv (191 : Int32), .unset, .unset, .unset, .unset]) (hb hby own_d1_84) rfl rfl ?_
              refine ow_iloadN (q := 87) X0 hx (hb hby own_d1_86) rfl rfl ?_
              refine ow_sipush (q := 90) X0 hx (237 : Int32) (hb hby own_d1_87) rfl rfl ?_
              by_cases hc90_51 : v2 = (237 : Int32)
              · refine ow_icmpNo (q := 93) X0 hx (hb hby own_d1_90) rfl (Jvm.Free.XT.ii_ne_f hc90_51) ?_
                refine ow_sipush (q := 96) X0 hx (159 : Int32) (hb hby own_d1_93) rfl rfl ?_
                refine ow_goto (q := 102) X0 hx (hb hby own_d1_96) (by decide) (by decide) ?_
                refine ow_istore (q := 104) X0 hx (L' := #[rv a0, iv (0 : Int32), iv (3 : Int32), iv v2, iv (3 : Int32), iv (160 : Int32), iv (159 : Int32), .unset, .unset, .unset, .unset]) (hb hby own_d1_102) rfl rfl ?_
                refine ow_goto (q := 165) X0 hx (hb hby own_d1_104) (by decide) (by decide) ?_
                exact cut165_3 (3 : Int32) (160 : Int32) (159 : Int32) _ _ X0 e0 N0 (by unfold own_H; simp only [Int32.lt_iff_toInt_lt, ← Int32.toInt_inj, Int32.reduceToInt, true_and, and_true] at hc22_20 hc35_21 hc42_37 hc55_38 hc62_44 hc72_50 hc90_51 ⊢; omega)
              · refine ow_icmpYes (q := 99) X0 hx (hb hby own_d1_90) (Jvm.Free.XT.ii_ne_t hc90_51) (by decide) (by decide) ?_
                refine ow_sipush (q := 102) X0 hx (191 : Int32) (hb hby own_d1_99) rfl rfl ?_
                refine ow_istore (q := 104) X0 hx (L' := #[rv a0, iv (0 : Int32), iv (3 : Int32), iv v2, iv (3 : Int32), iv (160 : Int32), iv (191 : Int32), .unset, .unset, .unset, .unset]) (hb hby own_d1_102) rfl rfl ?_
                refine ow_goto (q := 165) X0 hx (hb hby own_d1_104) (by decide) (by decide) ?_
                exact cut165_3 (3 : Int32) (160 : Int32) (191 : Int32) _ _ X0 e0 N0 (by unfold own_H; simp only [Int32.lt_iff_toInt_lt, ← Int32.toInt_inj, Int32.reduceToInt, true_and, and_true] at hc22_20 hc35_21 hc42_37 hc55_38 hc62_44 hc72_50 hc90_51 ⊢; omega)
            · refine ow_icmpYes (q := 81) X0 hx (hb hby own_d1_72) (Jvm.Free.XT.ii_ne_t hc72_50) (by decide) (by decide) ?_
              refine ow_sipush (q := 84) X0 hx (128 : Int32) (hb hby own_d1_81) rfl rfl ?_
              refine ow_istore (q := 86) X0 hx (L' := #[rv a0, iv (0 : Int32), iv (3 : Int32), iv v2, iv (3 : Int32), iv (128 : Int32), iv (191 : Int32), .unset, .unset, .unset, .unset]) (hb hby own_d1_84) rfl rfl ?_
              refine ow_iloadN (q := 87) X0 hx (hb hby own_d1_86) rfl rfl ?_
              refine ow_sipush (q := 90) X0 hx (237 : Int32) (hb hby own_d1_87) rfl rfl ?_
              by_cases hc90_52 : v2 = (237 : Int32)
              · refine ow_icmpNo (q := 93) X0 hx (hb hby own_d1_90) rfl (Jvm.Free.XT.ii_ne_f hc90_52) ?_
                refine ow_sipush (q := 96) X0 hx (159 : Int32) (hb hby own_d1_93) rfl rfl ?_
                refine ow_goto (q := 102) X0 hx (hb hby own_d1_96) (by decide) (by decide) ?_
                refine ow_istore (q := 104) X0 hx (L' := #[rv a0, iv (0 : Int32), iv (3 : Int32), iv v2, iv (3 : Int32), iv (128 : Int32), iv (159 : Int32), .unset, .unset, .unset, .unset]) (hb hby own_d1_102) rfl rfl ?_
                refine ow_goto (q := 165) X0 hx (hb hby own_d1_104) (by decide) (by decide) ?_
                exact cut165_3 (3 : Int32) (128 : Int32) (159 : Int32) _ _ X0 e0 N0 (by unfold own_H; simp only [Int32.lt_iff_toInt_lt, ← Int32.toInt_inj, Int32.reduceToInt, true_and, and_true] at hc22_20 hc35_21 hc42_37 hc55_38 hc62_44 hc72_50 hc90_52 ⊢; omega)
              · refine ow_icmpYes (q := 99) X0 hx (hb hby own_d1_90) (Jvm.Free.XT.ii_ne_t hc90_52) (by decide) (by decide) ?_
                refine ow_sipush (q := 102) X0 hx (191 : Int32) (hb hby own_d1_99) rfl rfl ?_
                refine ow_istore (q := 104) X0 hx (L' := #[rv a0, iv (0 : Int32), iv (3 : Int32), iv v2, iv (3 : Int32), iv (128 : Int32), iv (191 : Int32), .unset, .unset, .unset, .unset]) (hb hby own_d1_102) rfl rfl ?_
                refine ow_goto (q := 165) X0 hx (hb hby own_d1_104) (by decide) (by decide) ?_
                exact cut165_3 (3 : Int32) (128 : Int32) (191 : Int32) _ _ X0 e0 N0 (by unfold own_H; simp only [Int32.lt_iff_toInt_lt, ← Int32.toInt_inj, Int32.reduceToInt, true_and, and_true] at hc22_20 hc35_21 hc42_37 hc55_38 hc62_44 hc72_50 hc90_52 ⊢; omega)
      · refine ow_icmpNo (q := 45) X0 hx (hb hby own_d1_42) rfl (Jvm.Free.XT.ii_gt_f hc42_37) ?_
        refine ow_iconst (q := 46) X0 hx (2 : Int32) (hb hby own_d1_45) rfl rfl ?_
        refine ow_istore (q := 48) X0 hx (L' := #[rv a0, iv (0 : Int32), iv (3 : Int32), iv v2, iv (2 : Int32), iv (128 : Int32), iv (191 : Int32), .unset, .unset, .unset, .unset]) (hb hby own_d1_46) rfl rfl ?_
        refine ow_goto (q := 165) X0 hx (hb hby own_d1_48) (by decide) (by decide) ?_
        exact cut165_3 (2 : Int32) (128 : Int32) (191 : Int32) _ _ X0 e0 N0 (by unfold own_H; simp only [Int32.lt_iff_toInt_lt, ← Int32.toInt_inj, Int32.reduceToInt, true_and, and_true] at hc22_20 hc35_21 hc42_37 ⊢; omega)
theorem own_ef1_seq_0_4 (m : MethodId) (a0 : Addr) : entryFrame m #[(.ref a0), (.int (0 : Int32)), (.int (4 : Int32))] 11 = mkF m 0 #[rv a0, iv (0 : Int32), iv (4 : Int32), .unset, .unset, .unset, .unset, .unset, .unset, .unset, .unset] [] := by first | (simp [entryFrame, mkF, argsToLocals, Value.category]; done) | rfl
def Q_seq_0_4 (Z : State) (a0 : Addr) (g : Nat → Int32) (h0 : Heap) (n0 : Nat) (v : Option Value) (h : Heap) (L : List Loc) : Prop := ∃ (r : Int32), v = some (.int r) ∧ Fr n0 L ∧ h = h0 ∧ (r.toInt = own_sq ((g 0) &&& (255 : Int32)).toInt ((g 1) &&& (255 : Int32)).toInt ((g 2) &&& (255 : Int32)).toInt ((g 3) &&& (255 : Int32)).toInt 4)
set_option maxRecDepth 65536 in
set_option maxHeartbeats 40000000 in
theorem rm_seq_0_4 (l : Launch) (Z : State) (av0 : Array Value) (hw : ∀ d ∈ tables_1, d.before av0 Z = true) (ws : List Jvm.Cond) (a0 : Addr) (g : Nat → Int32) (h0 : Heap) (n0 : Nat) (Z0 : n0 ≤ h0.size) (HF0 : ownAI Z h0 a0 .byte 5 g) :
    MetFree l (⟨"com/example/descend/descend/XmlChars", "sequenceLength", "([BII)I"⟩ : MethodName) (head1 (Jvm.Cond.code (⟨"com/example/descend/descend/XmlChars", "sequenceLength", "([BII)I"⟩ : MethodName) prog_24_method_14_code 11 (some .int) :: ws) ({ frames := 0, cells := 0, slots := 0, locals := 0 } : Room)) (fun a U => a = #[(.ref a0), (.int (0 : Int32)), (.int (4 : Int32))] ∧ Z.Warmed39 U.vm ∧ U.heap = h0) (fun _ _ _ _ _ => True) (fun _ U o U' => ∃ v L, o = .returned v ∧ (Q_seq_0_4 Z a0 g h0 n0) v U'.heap L ∧ FrameEnd U o U' L ({ frames := 0, cells := 0, slots := 0, locals := 0 } : Room).cells ({ frames := 0, cells := 0, slots := 0, locals := 0 } : Room).slots) := by
  refine MetFree.of_bodySF (plainFor_of_name own_pn_XmlChars) hisR ?_
  intro p e s m args below meth c s₁ Bd hml0 hP hK
  obtain ⟨rfl, hZ, hh⟩ := hP
  have hx := Bd.exec
  have hby := Bd.bytes
  have hml : c.maxLocals = 11 := hml0
  have hown : s.vm.findClass "com/example/descend/descend/XmlChars" = some m.cls := findClass_of_methodNamed Bd.named
  have hnm := (name_of_methodNamed Bd.named Bd.method).1
  have hlk : meth.locks = false := BodyLoose.notSynchronized Bd
  have X0 : Stand p l e ({ frames := 0, cells := 0, slots := 0, locals := 0 } : Room) s m #[(.ref a0), (.int (0 : Int32)), (.int (4 : Int32))] below meth c s₁ [] 0 0 := Stand.of_body Bd
  have e0 : s₁.heap = h0 := by rw [← hh, Bd.state]; rfl
  have N0 := Fr.nil n0
  have K0 : Keep h0 h0 [] := Keep.refl _ _
  show ownEnds p e below s (Q_seq_0_4 Z a0 g h0 n0) ({ frames := 0, cells := 0, slots := 0, locals := 0 } : Room).cells ({ frames := 0, cells := 0, slots := 0, locals := 0 } : Room).slots s₁ (entryFrame m #[(.ref a0), (.int (0 : Int32)), (.int (4 : Int32))] 11)
  refine ownCast (own_ef1_seq_0_4 m a0) ?_
  refine ow_aloadN (q := 1) X0 hx (hb hby own_d1_0) rfl rfl rfl ?_
  refine ow_iloadN (q := 2) X0 hx (hb hby own_d1_1) rfl rfl ?_
  refine ownGo (T' := s₁) (f' := (mkF m 3 #[rv a0, iv (0 : Int32), iv (4 : Int32), .unset, .unset, .unset, .unset, .unset, .unset, .unset, .unset] [(.int (g 0))])) (ownBaload HF0 X0 hx hZ e0 (j := (0 : Int32)) (by unfold ownIn; decide) (g := (mkF m 2 #[rv a0, iv (0 : Int32), iv (4 : Int32), .unset, .unset, .unset, .unset, .unset, .unset, .unset, .unset] [(.int (0 : Int32)), (.ref a0)])) rfl rfl (hb hby own_d1_2)) ?_
  generalize hv_v1 : (g 0) = v1
  refine ow_sipush (q := 6) X0 hx (255 : Int32) (hb hby own_d1_3) rfl rfl ?_
  refine ow_iand (q := 7) X0 hx _ (hb hby own_d1_6) rfl rfl ?_
  generalize hv_v2 : (v1 &&& (255 : Int32)) = v2
  refine ow_istoreN (q := 8) X0 hx (L' := #[rv a0, iv (0 : Int32), iv (4 : Int32), iv v2, .unset, .unset, .unset, .unset, .unset, .unset, .unset]) (hb hby own_d1_7) rfl rfl ?_
  refine ow_sipush (q := 11) X0 hx (128 : Int32) (hb hby own_d1_8) rfl rfl ?_
  refine ow_istore (q := 13) X0 hx (L' := #[rv a0, iv (0 : Int32), iv (4 : Int32), iv v2, .unset, iv (128 : Int32), .unset, .unset, .unset, .unset, .unset]) (hb hby own_d1_11) rfl rfl ?_
  refine ow_sipush (q := 16) X0 hx (191 : Int32) (hb hby own_d1_13) rfl rfl ?_
  refine ow_istore (q := 18) X0 hx (L' := #[rv a0, iv (0 : Int32), iv (4 : Int32), iv v2, .unset, iv (128 : Int32), iv (191 : Int32), .unset, .unset, .unset, .unset]) (hb hby own_d1_16) rfl rfl ?_
  have cut165_3 : ∀ (ln : Int32) (lo : Int32) (hi : Int32) (Tc3 : State) (lc3 : List Loc), Stand p l e ({ frames := 0, cells := 0, slots := 0, locals := 0 } : Room) s m #[(.ref a0), (.int (0 : Int32)), (.int (4 : Int32))] below meth c Tc3 lc3 0 0 → Tc3.heap = h0 → Fr n0 lc3 → (own_H v2.toInt ln.toInt lo.toInt hi.toInt) → ownEnds p e below s (Q_seq_0_4 Z a0 g h0 n0) ({ frames := 0, cells := 0, slots := 0, locals := 0 } : Room).cells ({ frames := 0, cells := 0, slots := 0, locals := 0 } : Room).slots Tc3 (mkF m 165 #[rv a0, iv (0 : Int32), iv (4 : Int32), iv v2, iv ln, iv lo, iv hi, .unset, .unset, .unset, .unset] []) := by
    intro ln lo hi Tc3 lc3 Xc3 ec3 Nc3 hH
    refine ow_iloadN (q := 166) Xc3 hx (hb hby own_d1_165) rfl rfl ?_
    rcases own_Hln hH with hs4 | hs5 | hs6 | hs7
    · subst hs4
      refine ow_iload (q := 168) Xc3 hx (hb hby own_d1_166) rfl rfl ?_
      refine ow_iadd (q := 169) Xc3 hx (1 : Int32) (hb hby own_d1_168) rfl (by decide) ?_
      refine ow_iloadN (q := 170) Xc3 hx (hb hby own_d1_169) rfl rfl ?_
      refine ow_icmpYes (q := 175) Xc3 hx (hb hby own_d1_170) (Jvm.Free.XT.ii_le_t (by decide)) (by decide) (by decide) ?_
      refine ow_iconst (q := 176) Xc3 hx (1 : Int32) (hb hby own_d1_175) rfl rfl ?_
      refine ow_istore (q := 178) Xc3 hx (L' := #[rv a0, iv (0 : Int32), iv (4 : Int32), iv v2, iv (1 : Int32), iv lo, iv hi, iv (1 : Int32), .unset, .unset, .unset]) (hb hby own_d1_176) rfl rfl ?_
      refine ow_iload (q := 180) Xc3 hx (hb hby own_d1_178) rfl rfl ?_
      refine ow_iload (q := 182) Xc3 hx (hb hby own_d1_180) rfl rfl ?_
      refine ow_icmpYes (q := 251) Xc3 hx (hb hby own_d1_182) (Jvm.Free.XT.ii_ge_t (by decide)) (by decide) (by decide) ?_
      refine ow_iload (q := 253) Xc3 hx (hb hby own_d1_251) rfl rfl ?_
      refine ownRetI Xc3 hx Bd.returns (hb hby own_d1_253) hlk (by decide) (by decide) ?_
      subst hv_v2 hv_v1
      rw [ec3]
      refine ⟨(1 : Int32), rfl, Nc3, rfl, ?_⟩
      unfold own_H at hH
      simp only [Int32.lt_iff_toInt_lt, ← Int32.toInt_inj, Int32.reduceToInt] at  hH ⊢
      unfold own_sq
      (repeat' split) <;> omega
    · subst hs5
      refine ow_iload (q := 168) Xc3 hx (hb hby own_d1_166) rfl rfl ?_
      refine ow_iadd (q := 169) Xc3 hx (2 : Int32) (hb hby own_d1_168) rfl (by decide) ?_
      refine ow_iloadN (q := 170) Xc3 hx (hb hby own_d1_169) rfl rfl ?_
      refine ow_icmpYes (q := 175) Xc3 hx (hb hby own_d1_170) (Jvm.Free.XT.ii_le_t (by decide)) (by decide) (by decide) ?_
      refine ow_iconst (q := 176) Xc3 hx (1 : Int32) (hb hby own_d1_175) rfl rfl ?_
      refine ow_istore (q := 178) Xc3 hx (L' := #[rv a0, iv (0 : Int32), iv (4 : Int32), iv v2, iv (2 : Int32), iv lo, iv hi, iv (1 : Int32), .unset, .unset, .unset]) (hb hby own_d1_176) rfl rfl ?_
      refine ow_iload (q := 180) Xc3 hx (hb hby own_d1_178) rfl rfl ?_
      refine ow_iload (q := 182) Xc3 hx (hb hby own_d1_180) rfl rfl ?_
      refine ow_icmpNo (q := 185) Xc3 hx (hb hby own_d1_182) rfl (Jvm.Free.XT.ii_ge_f (by decide)) ?_
      refine ow_aloadN (q := 186) Xc3 hx (hb hby own_d1_185) rfl rfl rfl ?_
      refine ow_iloadN (q := 187) Xc3 hx (hb hby own_d1_186) rfl rfl ?_
      refine ow_iload (q := 189) Xc3 hx (hb hby own_d1_187) rfl rfl ?_
      refine ow_iadd (q := 190) Xc3 hx (1 : Int32) (hb hby own_d1_189) rfl (by decide) ?_
      refine ownGo (T' := Tc3) (f' := (mkF m 191 #[rv a0, iv (0 : Int32), iv (4 : Int32), iv v2, iv (2 : Int32), iv lo, iv hi, iv (1 : Int32), .unset, .unset, .unset] [(.int (g 1))])) (ownBaload HF0 Xc3 hx hZ ec3 (j := (1 : Int32)) (by unfold ownIn; decide) (g := (mkF m 190 #[rv a0, iv (0 : Int32), iv (4 : Int32), iv v2, iv (2 : Int32), iv lo, iv hi, iv (1 : Int32), .unset, .unset, .unset] [(.int (1 : Int32)), (.ref a0)])) rfl rfl (hb hby own_d1_190)) ?_
      generalize hv_v8 : (g 1) = v8
      refine ow_sipush (q := 194) Xc3 hx (255 : Int32) (hb hby own_d1_191) rfl rfl ?_
      refine ow_iand (q := 195) Xc3 hx _ (hb hby own_d1_194) rfl rfl ?_
      generalize hv_v9 : (v8 &&& (255 : Int32)) = v9
      refine ow_istore (q := 197) Xc3 hx (L' := #[rv a0, iv (0 : Int32), iv (4 : Int32), iv v2, iv (2 : Int32), iv lo, iv hi, iv (1 : Int32), iv v9, .unset, .unset]) (hb hby own_d1_195) rfl rfl ?_
      refine ow_iload (q := 199) Xc3 hx (hb hby own_d1_197) rfl rfl ?_
      refine ow_iconst (q := 200) Xc3 hx (1 : Int32) (hb hby own_d1_199) rfl rfl ?_
      refine ow_icmpNo (q := 203) Xc3 hx (hb hby own_d1_200) rfl (Jvm.Free.XT.ii_ne_f (by decide)) ?_
      refine ow_iload (q := 205) Xc3 hx (hb hby own_d1_203) rfl rfl ?_
      refine ow_goto (q := 211) Xc3 hx (hb hby own_d1_205) (by decide) (by decide) ?_
      refine ow_istore (q := 213) Xc3 hx (L' := #[rv a0, iv (0 : Int32), iv (4 : Int32), iv v2, iv (2 : Int32), iv lo, iv hi, iv (1 : Int32), iv v9, iv lo, .unset]) (hb hby own_d1_211) rfl rfl ?_
      refine ow_iload (q := 215) Xc3 hx (hb hby own_d1_213) rfl rfl ?_
      refine ow_iconst (q := 216) Xc3 hx (1 : Int32) (hb hby own_d1_215) rfl rfl ?_
      refine ow_icmpNo (q := 219) Xc3 hx (hb hby own_d1_216) rfl (Jvm.Free.XT.ii_ne_f (by decide)) ?_
      refine ow_iload (q := 221) Xc3 hx (hb hby own_d1_219) rfl rfl ?_
      refine ow_goto (q := 227) Xc3 hx (hb hby own_d1_221) (by decide) (by decide) ?_
      refine ow_istore (q := 229) Xc3 hx (L' := #[rv a0, iv (0 : Int32), iv (4 : Int32), iv v2, iv (2 : Int32), iv lo, iv hi, iv (1 : Int32), iv v9, iv lo, iv hi]) (hb hby own_d1_227) rfl rfl ?_
      refine ow_iload (q := 231) Xc3 hx (hb hby own_d1_229) rfl rfl ?_
      refine ow_iload (q := 233) Xc3 hx (hb hby own_d1_231) rfl rfl ?_
      by_cases hc233_10 : v9 < lo
      · refine ow_icmpYes (q := 243) Xc3 hx (hb hby own_d1_233) (Jvm.Free.XT.ii_lt_t hc233_10) (by decide) (by decide) ?_
        refine ow_iconst (q := 244) Xc3 hx (0 : Int32) (hb hby own_d1_243) rfl rfl ?_
        refine ownRetI Xc3 hx Bd.returns (hb hby own_d1_244) hlk (by decide) (by decide) ?_
        subst hv_v9 hv_v8 hv_v2 hv_v1
        rw [ec3]
        refine ⟨(0 : Int32), rfl, Nc3, rfl, ?_⟩
        unfold own_H at hH
        simp only [Int32.lt_iff_toInt_lt, ← Int32.toInt_inj, Int32.reduceToInt] at hc233_10 hH ⊢
        unfold own_sq
        (repeat' split) <;> omega
      · refine ow_icmpNo (q := 236) Xc3 hx (hb hby own_d1_233) rfl (Jvm.Free.XT.ii_lt_f hc233_10) ?_
        refine ow_iload (q := 238) Xc3 hx (hb hby own_d1_236) rfl rfl ?_
        refine ow_iload (q := 240) Xc3 hx (hb hby own_d1_238) rfl rfl ?_
        by_cases hc240_11 : hi < v9
        · refine ow_icmpNo (q := 243) Xc3 hx (hb hby own_d1_240) rfl (Jvm.Free.XT.ii_le_f hc240_11) ?_
          refine ow_iconst (q := 244) Xc3 hx (0 : Int32) (hb hby own_d1_243) rfl rfl ?_
          refine ownRetI Xc3 hx Bd.returns (hb hby own_d1_244) hlk (by decide) (by decide) ?_
          subst hv_v9 hv_v8 hv_v2 hv_v1
          rw [ec3]
          refine ⟨(0 : Int32), rfl, Nc3, rfl, ?_⟩
          unfold own_H at hH
          simp only [Int32.lt_iff_toInt_lt, ← Int32.toInt_inj, Int32.reduceToInt] at hc233_10 hc240_11 hH ⊢
          unfold own_sq
          (repeat' split) <;> omega
        · refine ow_icmpYes (q := 245) Xc3 hx (hb hby own_d1_240) (Jvm.Free.XT.ii_le_t hc240_11) (by decide) (by decide) ?_
          refine ow_iinc (q := 248) Xc3 hx (L' := #[rv a0, iv (0 : Int32), iv (4 : Int32), iv v2, iv (2 : Int32), iv lo, iv hi, iv (2 : Int32), iv v9, iv lo, iv hi]) (hb hby own_d1_245) rfl rfl rfl ?_
          refine ow_goto (q := 178) Xc3 hx (hb hby own_d1_248) (by decide) (by decide) ?_
          refine ow_iload (q := 180) Xc3 hx (hb hby own_d1_178) rfl rfl ?_
          refine ow_iload (q := 182) Xc3 hx (hb hby own_d1_180) rfl rfl ?_
          refine ow_icmpYes (q := 251) Xc3 hx (hb hby own_d1_182) (Jvm.Free.XT.ii_ge_t (by decide)) (by decide) (by decide) ?_
          refine ow_iload (q := 253) Xc3 hx (hb hby own_d1_251) rfl rfl ?_
          refine ownRetI Xc3 hx Bd.returns (hb hby own_d1_253) hlk (by decide) (by decide) ?_
          subst hv_v9 hv_v8 hv_v2 hv_v1
          rw [ec3]
          refine ⟨(2 : Int32), rfl, Nc3, rfl, ?_⟩
          unfold own_H at hH
          simp only [Int32.lt_iff_toInt_lt, ← Int32.toInt_inj, Int32.reduceToInt] at hc233_10 hc240_11 hH ⊢
          unfold own_sq
          (repeat' split) <;> omega
    · subst hs6
      refine ow_iload (q := 168) Xc3 hx (hb hby own_d1_166) rfl rfl ?_
      refine ow_iadd (q := 169) Xc3 hx (3 : Int32) (hb hby own_d1_168) rfl (by decide) ?_
      refine ow_iloadN (q := 170) Xc3 hx (hb hby own_d1_169) rfl rfl ?_
      refine ow_icmpYes (q := 175) Xc3 hx (hb hby own_d1_170) (Jvm.Free.XT.ii_le_t (by decide)) (by decide) (by decide) ?_
      refine ow_iconst (q := 176) Xc3 hx (1 : Int32) (hb hby own_d1_175) rfl rfl ?_
      refine ow_istore (q := 178) Xc3 hx (L' := #[rv a0, iv (0 : Int32), iv (4 : Int32), iv v2, iv (3 : Int32), iv lo, iv hi, iv (1 : Int32), .unset, .unset, .unset]) (hb hby own_d1_176) rfl rfl ?_
      refine ow_iload (q := 180) Xc3 hx (hb hby own_d1_178) rfl rfl ?_
      refine ow_iload (q := 182) Xc3 hx (hb hby own_d1_180) rfl rfl ?_
      refine ow_icmpNo (q := 185) Xc3 hx (hb hby own_d1_182) rfl (Jvm.Free.XT.ii_ge_f (by decide)) ?_
      refine ow_aloadN (q := 186) Xc3 hx (hb hby own_d1_185) rfl rfl rfl ?_
      refine ow_iloadN (q := 187) Xc3 hx (hb hby own_d1_186) rfl rfl ?_
      refine ow_iload (q := 189) Xc3 hx (hb hby own_d1_187) rfl rfl ?_
      refine ow_iadd (q := 190) Xc3 hx (1 : Int32) (hb hby own_d1_189) rfl (by decide) ?_
      refine ownGo (T' := Tc3) (f' := (mkF m 191 #[rv a0, iv (0 : Int32), iv (4 : Int32), iv v2, iv (3 : Int32), iv lo, iv hi, iv (1 : Int32), .unset, .unset, .unset] [(.int (g 1))])) (ownBaload HF0 Xc3 hx hZ ec3 (j := (1 : Int32)) (by unfold ownIn; decide) (g := (mkF m 190 #[rv a0, iv (0 : Int32), iv (4 : Int32), iv v2, iv (3 : Int32), iv lo, iv hi, iv (1 : Int32), .unset, .unset, .unset] [(.int (1 : Int32)), (.ref a0)])) rfl rfl (hb hby own_d1_190)) ?_
      generalize hv_v12 : (g 1) = v12
      refine ow_sipush (q := 194) Xc3 hx (255 : Int32) (hb hby own_d1_191) rfl rfl ?_
      refine ow_iand (q := 195) Xc3 hx _ (hb hby own_d1_194) rfl rfl ?_
      generalize hv_v13 : (v12 &&& (255 : Int32)) = v13
      refine ow_istore (q := 197) Xc3 hx (L' := #[rv a0, iv (0 : Int32), iv (4 : Int32), iv v2, iv (3 : Int32), iv lo, iv hi, iv (1 : Int32), iv v13, .unset, .unset]) (hb hby own_d1_195) rfl rfl ?_
      refine ow_iload (q := 199) Xc3 hx (hb hby own_d1_197) rfl rfl ?_
      refine ow_iconst (q := 200) Xc3 hx (1 : Int32) (hb hby own_d1_199) rfl rfl ?_
      refine ow_icmpNo (q := 203) Xc3 hx (hb hby own_d1_200) rfl (Jvm.Free.XT.ii_ne_f (by decide)) ?_
      refine ow_iload (q := 205) Xc3 hx (hb hby own_d1_203) rfl rfl ?_
      refine ow_goto (q := 211) Xc3 hx (hb hby own_d1_205) (by decide) (by decide) ?_
      refine ow_istore (q := 213) Xc3 hx (L' := #[rv a0, iv (0 : Int32), iv (4 : Int32), iv v2, iv (3 : Int32), iv lo, iv hi, iv (1 : Int32), iv v13, iv lo, .unset]) (hb hby own_d1_211) rfl rfl ?_
      refine ow_iload (q := 215) Xc3 hx (hb hby own_d1_213) rfl rfl ?_
      refine ow_iconst (q := 216) Xc3 hx (1 : Int32) (hb hby own_d1_215) rfl rfl ?_
      refine ow_icmpNo (q := 219) Xc3 hx (hb hby own_d1_216) rfl (Jvm.Free.XT.ii_ne_f (by decide)) ?_
      refine ow_iload (q := 221) Xc3 hx (hb hby own_d1_219) rfl rfl ?_
      refine ow_goto (q := 227) Xc3 hx (hb hby own_d1_221) (by decide) (by decide) ?_
      refine ow_istore (q := 229) Xc3 hx (L' := #[rv a0, iv (0 : Int32), iv (4 : Int32), iv v2, iv (3 : Int32), iv lo, iv hi, iv (1 : Int32), iv v13, iv lo, iv hi]) (hb hby own_d1_227) rfl rfl ?_
      refine ow_iload (q := 231) Xc3 hx (hb hby own_d1_229) rfl rfl ?_
      refine ow_iload (q := 233) Xc3 hx (hb hby own_d1_231) rfl rfl ?_
      by_cases hc233_14 : v13 < lo
      · refine ow_icmpYes (q := 243) Xc3 hx (hb hby own_d1_233) (Jvm.Free.XT.ii_lt_t hc233_14) (by decide) (by decide) ?_
        refine ow_iconst (q := 244) Xc3 hx (0 : Int32) (hb hby own_d1_243) rfl rfl ?_
        refine ownRetI Xc3 hx Bd.returns (hb hby own_d1_244) hlk (by decide) (by decide) ?_
        subst hv_v13 hv_v12 hv_v2 hv_v1
        rw [ec3]
        refine ⟨(0 : Int32), rfl, Nc3, rfl, ?_⟩
        unfold own_H at hH
        simp only [Int32.lt_iff_toInt_lt, ← Int32.toInt_inj, Int32.reduceToInt] at hc233_14 hH ⊢
        unfold own_sq
        (repeat' split) <;> omega
      · refine ow_icmpNo (q := 236) Xc3 hx (hb hby own_d1_233) rfl (Jvm.Free.XT.ii_lt_f hc233_14) ?_
        refine ow_iload (q := 238) Xc3 hx (hb hby own_d1_236) rfl rfl ?_
        refine ow_iload (q := 240) Xc3 hx (hb hby own_d1_238) rfl rfl ?_
        by_cases hc240_15 : hi < v13
        · refine ow_icmpNo (q := 243) Xc3 hx (hb hby own_d1_240) rfl (Jvm.Free.XT.ii_le_f hc240_15) ?_
          refine ow_iconst (q := 244) Xc3 hx (0 : Int32) (hb hby own_d1_243) rfl rfl ?_
          refine ownRetI Xc3 hx Bd.returns (hb hby own_d1_244) hlk (by decide) (by decide) ?_
          subst hv_v13 hv_v12 hv_v2 hv_v1
          rw [ec3]
          refine ⟨(0 : Int32), rfl, Nc3, rfl, ?_⟩
          unfold own_H at hH
          simp only [Int32.lt_iff_toInt_lt, ← Int32.toInt_inj, Int32.reduceToInt] at hc233_14 hc240_15 hH ⊢
          unfold own_sq
          (repeat' split) <;> omega
        · refine ow_icmpYes (q := 245) Xc3 hx (hb hby own_d1_240) (Jvm.Free.XT.ii_le_t hc240_15) (by decide) (by decide) ?_
          refine ow_iinc (q := 248) Xc3 hx (L' := #[rv a0, iv (0 : Int32), iv (4 : Int32), iv v2, iv (3 : Int32), iv lo, iv hi, iv (2 : Int32), iv v13, iv lo, iv hi]) (hb hby own_d1_245) rfl rfl rfl ?_
          refine ow_goto (q := 178) Xc3 hx (hb hby own_d1_248) (by decide) (by decide) ?_
          refine ow_iload (q := 180) Xc3 hx (hb hby own_d1_178) rfl rfl ?_
          refine ow_iload (q := 182) Xc3 hx (hb hby own_d1_180) rfl rfl ?_
          refine ow_icmpNo (q := 185) Xc3 hx (hb hby own_d1_182) rfl (Jvm.Free.XT.ii_ge_f (by decide)) ?_
          refine ow_aloadN (q := 186) Xc3 hx (hb hby own_d1_185) rfl rfl rfl ?_
          refine ow_iloadN (q := 187) Xc3 hx (hb hby own_d1_186) rfl rfl ?_
          refine ow_iload (q := 189) Xc3 hx (hb hby own_d1_187) rfl rfl ?_
          refine ow_iadd (q := 190) Xc3 hx (2 : Int32) (hb hby own_d1_189) rfl (by decide) ?_
          refine ownGo (T' := Tc3) (f' := (mkF m 191 #[rv a0, iv (0 : Int32), iv (4 : Int32), iv v2, iv (3 : Int32), iv lo, iv hi, iv (2 : Int32), iv v13, iv lo, iv hi] [(.int (g 2))])) (ownBaload HF0 Xc3 hx hZ ec3 (j := (2 : Int32)) (by unfold ownIn; decide) (g := (mkF m 190 #[rv a0, iv (0 : Int32), iv (4 : Int32), iv v2, iv (3 : Int32), iv lo, iv hi, iv (2 : Int32), iv v13, iv lo, iv hi] [(.int (2 : Int32)), (.ref a0)])) rfl rfl (hb hby own_d1_190)) ?_
          generalize hv_v16 : (g 2) = v16
          refine ow_sipush (q := 194) Xc3 hx (255 : Int32) (hb hby own_d1_191) rfl rfl ?_
          refine ow_iand (q := 195) Xc3 hx _ (hb hby own_d1_194) rfl rfl ?_
          generalize hv_v17 : (v16 &&& (255 : Int32)) = v17
          refine ow_istore (q := 197) Xc3 hx (L' := #[rv a0, iv (0 : Int32), iv (4 : Int32), iv v2, iv (3 : Int32), iv lo, iv hi, iv (2 : Int32), iv v17, iv lo, iv hi]) (hb hby own_d1_195) rfl rfl ?_
          refine ow_iload (q := 199) Xc3 hx (hb hby own_d1_197) rfl rfl ?_
          refine ow_iconst (q := 200) Xc3 hx (1 : Int32) (hb hby own_d1_199) rfl rfl ?_
          refine ow_icmpYes (q := 208) Xc3 hx (hb hby own_d1_200) (Jvm.Free.XT.ii_ne_t (by decide)) (by decide) (by decide) ?_
          refine ow_sipush (q := 211) Xc3 hx (128 : Int32) (hb hby own_d1_208) rfl rfl ?_
          refine ow_istore (q := 213) Xc3 hx (L' := #[rv a0, iv (0 : Int32), iv (4 : Int32), iv v2, iv (3 : Int32), iv lo, iv hi, iv (2 : Int32), iv v17, iv (128 : Int32), iv hi]) (hb hby own_d1_211) rfl rfl ?_
          refine ow_iload (q := 215) Xc3 hx (hb hby own_d1_213) rfl rfl ?_
          refine ow_iconst (q := 216) Xc3 hx (1 : Int32) (hb hby own_d1_215) rfl rfl ?_
          refine ow_icmpYes (q := 224) Xc3 hx (hb hby own_d1_216) (Jvm.Free.XT.ii_ne_t (by decide)) (by decide) (by decide) ?_
          refine ow_sipush (q := 227) Xc3 hx (191 : Int32) (hb hby own_d1_224) rfl rfl ?_
          refine ow_istore (q := 229) Xc3 hx (L' := #[rv a0, iv (0 : Int32), iv (4 : Int32), iv v2, iv (3 : Int32), iv lo, iv hi, iv (2 : Int32), iv v17, iv (128 : Int32), iv (191 : Int32)]) (hb hby own_d1_227) rfl rfl ?_
          refine ow_iload (q := 231) Xc3 hx (hb hby own_d1_229) rfl rfl ?_
          refine ow_iload (q := 233) Xc3 hx (hb hby own_d1_231) rfl rfl ?_
          by_cases hc233_18 : v17 < (128 : Int32)
          · refine ow_icmpYes (q := 243) Xc3 hx (hb hby own_d1_233) (Jvm.Free.XT.ii_lt_t hc233_18) (by decide) (by decide) ?_
            refine ow_iconst (q := 244) Xc3 hx (0 : Int32) (hb hby own_d1_243) rfl rfl ?_
            refine ownRetI Xc3 hx Bd.returns (hb hby own_d1_244) hlk (by decide) (by decide) ?_
            subst hv_v17 hv_v16 hv_v13 hv_v12 hv_v2 hv_v1
            rw [ec3]
            refine ⟨(0 : Int32), rfl, Nc3, rfl, ?_⟩
            unfold own_H at hH
            simp only [Int32.lt_iff_toInt_lt, ← Int32.toInt_inj, Int32.reduceToInt] at hc233_14 hc240_15 hc233_18 hH ⊢
            unfold own_sq
            (repeat' split) <;> omega
          · refine ow_icmpNo (q := 236) Xc3 hx (hb hby own_d1_233) rfl (Jvm.Free.XT.ii_lt_f hc233_18) ?_
            refine ow_iload (q := 238) Xc3 hx (hb hby own_d1_236) rfl rfl ?_
            refine ow_iload (q := 240) Xc3 hx (hb hby own_d1_238) rfl rfl ?_
            by_cases hc240_19 : (191 : Int32) < v17
            · refine ow_icmpNo (q := 243) Xc3 hx (hb hby own_d1_240) rfl (Jvm.Free.XT.ii_le_f hc240_19) ?_
              refine ow_iconst (q := 244) Xc3 hx (0 : Int32) (hb hby own_d1_243) rfl rfl ?_
              refine ownRetI Xc3 hx Bd.returns (hb hby own_d1_244) hlk (by decide) (by decide) ?_
              subst hv_v17 hv_v16 hv_v13 hv_v12 hv_v2 hv_v1
              rw [ec3]
              refine ⟨(0 : Int32), rfl, Nc3, rfl, ?_⟩
              unfold own_H at hH
              simp only [Int32.lt_iff_toInt_lt, ← Int32.toInt_inj, Int32.reduceToInt] at hc233_14 hc240_15 hc233_18 hc240_19 hH ⊢
              unfold own_sq
              (repeat' split) <;> omega
            · refine ow_icmpYes (q := 245) Xc3 hx (hb hby own_d1_240) (Jvm.Free.XT.ii_le_t hc240_19) (by decide) (by decide) ?_
              refine ow_iinc (q := 248) Xc3 hx (L' := #[rv a0, iv (0 : Int32), iv (4 : Int32), iv v2, iv (3 : Int32), iv lo, iv hi, iv (3 : Int32), iv v17, iv (128 : Int32), iv (191 : Int32)]) (hb hby own_d1_245) rfl rfl rfl ?_
              refine ow_goto (q := 178) Xc3 hx (hb hby own_d1_248) (by decide) (by decide) ?_
              refine ow_iload (q := 180) Xc3 hx (hb hby own_d1_178) rfl rfl ?_
              refine ow_iload (q := 182) Xc3 hx (hb hby own_d1_180) rfl rfl ?_
              refine ow_icmpYes (q := 251) Xc3 hx (hb hby own_d1_182) (Jvm.Free.XT.ii_ge_t (by decide)) (by decide) (by decide) ?_
              refine ow_iload (q := 253) Xc3 hx (hb hby own_d1_251) rfl rfl ?_
              refine ownRetI Xc3 hx Bd.returns (hb hby own_d1_253) hlk (by decide) (by decide) ?_
              subst hv_v17 hv_v16 hv_v13 hv_v12 hv_v2 hv_v1
              rw [ec3]
              refine ⟨(3 : Int32), rfl, Nc3, rfl, ?_⟩
              unfold own_H at hH
              simp only [Int32.lt_iff_toInt_lt, ← Int32.toInt_inj, Int32.reduceToInt] at hc233_14 hc240_15 hc233_18 hc240_19 hH ⊢
              unfold own_sq
              (repeat' split) <;> omega
    · subst hs7
      refine ow_iload (q := 168) Xc3 hx (hb hby own_d1_166) rfl rfl ?_
      refine ow_iadd (q := 169) Xc3 hx (4 : Int32) (hb hby own_d1_168) rfl (by decide) ?_
      refine ow_iloadN (q := 170) Xc3 hx (hb hby own_d1_169) rfl rfl ?_
      refine ow_icmpYes (q := 175) Xc3 hx (hb hby own_d1_170) (Jvm.Free.XT.ii_le_t (by decide)) (by decide) (by decide) ?_
      refine ow_iconst (q := 176) Xc3 hx (1 : Int32) (hb hby own_d1_175) rfl rfl ?_
      refine ow_istore (q := 178) Xc3 hx (L' := #[rv a0, iv (0 : Int32), iv (4 : Int32), iv v2, iv (4 : Int32), iv lo, iv hi, iv (1 : Int32), .unset, .unset, .unset]) (hb hby own_d1_176) rfl rfl ?_
      refine ow_iload (q := 180) Xc3 hx (hb hby own_d1_178) rfl rfl ?_
      refine ow_iload (q := 182) Xc3 hx (hb hby own_d1_180) rfl rfl ?_
      refine ow_icmpNo (q := 185) Xc3 hx (hb hby own_d1_182) rfl (Jvm.Free.XT.ii_ge_f (by decide)) ?_
      refine ow_aloadN (q := 186) Xc3 hx (hb hby own_d1_185) rfl rfl rfl ?_
      refine ow_iloadN (q := 187) Xc3 hx (hb hby own_d1_186) rfl rfl ?_
      refine ow_iload (q := 189) Xc3 hx (hb hby own_d1_187) rfl rfl ?_
      refine ow_iadd (q := 190) Xc3 hx (1 : Int32) (hb hby own_d1_189) rfl (by decide) ?_
      refine ownGo (T' := Tc3) (f' := (mkF m 191 #[rv a0, iv (0 : Int32), iv (4 : Int32), iv v2, iv (4 : Int32), iv lo, iv hi, iv (1 : Int32), .unset, .unset, .unset] [(.int (g 1))])) (ownBaload HF0 Xc3 hx hZ ec3 (j := (1 : Int32)) (by unfold ownIn; decide) (g := (mkF m 190 #[rv a0, iv (0 : Int32), iv (4 : Int32), iv v2, iv (4 : Int32), iv lo, iv hi, iv (1 : Int32), .unset, .unset, .unset] [(.int (1 : Int32)), (.ref a0)])) rfl rfl (hb hby own_d1_190)) ?_
      generalize hv_v20 : (g 1) = v20
      refine ow_sipush (q := 194) Xc3 hx (255 : Int32) (hb hby own_d1_191) rfl rfl ?_
      refine ow_iand (q := 195) Xc3 hx _ (hb hby own_d1_194) rfl rfl ?_
      generalize hv_v21 : (v20 &&& (255 : Int32)) = v21
      refine ow_istore (q := 197) Xc3 hx (L' := #[rv a0, iv (0 : Int32), iv (4 : Int32), iv v2, iv (4 : Int32), iv lo, iv hi, iv (1 : Int32), iv v21, .unset, .unset]) (hb hby own_d1_195) rfl rfl ?_
      refine ow_iload (q := 199) Xc3 hx (hb hby own_d1_197) rfl rfl ?_
      refine ow_iconst (q := 200) Xc3 hx (1 : Int32) (hb hby own_d1_199) rfl rfl ?_
      refine ow_icmpNo (q := 203) Xc3 hx (hb hby own_d1_200) rfl (Jvm.Free.XT.ii_ne_f (by decide)) ?_
      refine ow_iload (q := 205) Xc3 hx (hb hby own_d1_203) rfl rfl ?_
      refine ow_goto (q := 211) Xc3 hx (hb hby own_d1_205) (by decide) (by decide) ?_
      refine ow_istore (q := 213) Xc3 hx (L' := #[rv a0, iv (0 : Int32), iv (4 : Int32), iv v2, iv (4 : Int32), iv lo, iv hi, iv (1 : Int32), iv v21, iv lo, .unset]) (hb hby own_d1_211) rfl rfl ?_
      refine ow_iload (q := 215) Xc3 hx (hb hby own_d1_213) rfl rfl ?_
      refine ow_iconst (q := 216) Xc3 hx (1 : Int32) (hb hby own_d1_215) rfl rfl ?_
      refine ow_icmpNo (q := 219) Xc3 hx (hb hby own_d1_216) rfl (Jvm.Free.XT.ii_ne_f (by decide)) ?_
      refine ow_iload (q := 221) Xc3 hx (hb hby own_d1_219) rfl rfl ?_
      refine ow_goto (q := 227) Xc3 hx (hb hby own_d1_221) (by decide) (by decide) ?_
      refine ow_istore (q := 229) Xc3 hx (L' := #[rv a0, iv (0 : Int32), iv (4 : Int32), iv v2, iv (4 : Int32), iv lo, iv hi, iv (1 : Int32), iv v21, iv lo, iv hi]) (hb hby own_d1_227) rfl rfl ?_
      refine ow_iload (q := 231) Xc3 hx (hb hby own_d1_229) rfl rfl ?_
      refine ow_iload (q := 233) Xc3 hx (hb hby own_d1_231) rfl rfl ?_
      by_cases hc233_22 : v21 < lo
      · refine ow_icmpYes (q := 243) Xc3 hx (hb hby own_d1_233) (Jvm.Free.XT.ii_lt_t hc233_22) (by decide) (by decide) ?_
        refine ow_iconst (q := 244) Xc3 hx (0 : Int32) (hb hby own_d1_243) rfl rfl ?_
        refine ownRetI Xc3 hx Bd.returns (hb hby own_d1_244) hlk (by decide) (by decide) ?_
        subst hv_v21 hv_v20 hv_v2 hv_v1
        rw [ec3]
        refine ⟨(0 : Int32), rfl, Nc3, rfl, ?_⟩
        unfold own_H at hH
        simp only [Int32.lt_iff_toInt_lt, ← Int32.toInt_inj, Int32.reduceToInt] at hc233_22 hH ⊢
        unfold own_sq
        (repeat' split) <;> omega
      · refine ow_icmpNo (q := 236) Xc3 hx (hb hby own_d1_233) rfl (Jvm.Free.XT.ii_lt_f hc233_22) ?_
        refine ow_iload (q := 238) Xc3 hx (hb hby own_d1_236) rfl rfl ?_
        refine ow_iload (q := 240) Xc3 hx (hb hby own_d1_238) rfl rfl ?_
        by_cases hc240_23 : hi < v21
        · refine ow_icmpNo (q := 243) Xc3 hx (hb hby own_d1_240) rfl (Jvm.Free.XT.ii_le_f hc240_23) ?_
          refine ow_iconst (q := 244) Xc3 hx (0 : Int32) (hb hby own_d1_243) rfl rfl ?_
          refine ownRetI Xc3 hx Bd.returns (hb hby own_d1_244) hlk (by decide) (by decide) ?_
          subst hv_v21 hv_v20 hv_v2 hv_v1
          rw [ec3]
          refine ⟨(0 : Int32), rfl, Nc3, rfl, ?_⟩
          unfold own_H at hH
          simp only [Int32.lt_iff_toInt_lt, ← Int32.toInt_inj, Int32.reduceToInt] at hc233_22 hc240_23 hH ⊢
          unfold own_sq
          (repeat' split) <;> omega
        · refine ow_icmpYes (q := 245) Xc3 hx (hb hby own_d1_240) (Jvm.Free.XT.ii_le_t hc240_23) (by decide) (by decide) ?_
          refine ow_iinc (q := 248) Xc3 hx (L' := #[rv a0, iv (0 : Int32), iv (4 : Int32), iv v2, iv (4 : Int32), iv lo, iv hi, iv (2 : Int32), iv v21, iv lo, iv hi]) (hb hby own_d1_245) rfl rfl rfl ?_
          refine ow_goto (q := 178) Xc3 hx (hb hby own_d1_248) (by decide) (by decide) ?_
          refine ow_iload (q := 180) Xc3 hx (hb hby own_d1_178) rfl rfl ?_
          refine ow_iload (q := 182) Xc3 hx (hb hby own_d1_180) rfl rfl ?_
          refine ow_icmpNo (q := 185) Xc3 hx (hb hby own_d1_182) rfl (Jvm.Free.XT.ii_ge_f (by decide)) ?_
          refine ow_aloadN (q := 186) Xc3 hx (hb hby own_d1_185) rfl rfl rfl ?_
          refine ow_iloadN (q := 187) Xc3 hx (hb hby own_d1_186) rfl rfl ?_
          refine ow_iload (q := 189) Xc3 hx (hb hby own_d1_187) rfl rfl ?_
          refine ow_iadd (q := 190) Xc3 hx (2 : Int32) (hb hby own_d1_189) rfl (by decide) ?_
          refine ownGo (T' := Tc3) (f' := (mkF m 191 #[rv a0, iv (0 : Int32), iv (4 : Int32), iv v2, iv (4 : Int32), iv lo, iv hi, iv (2 : Int32), iv v21, iv lo, iv hi] [(.int (g 2))])) (ownBaload HF0 Xc3 hx hZ ec3 (j := (2 : Int32)) (by unfold ownIn; decide) (g := (mkF m 190 #[rv a0, iv (0 : Int32), iv (4 : Int32), iv v2, iv (4 : Int32), iv lo, iv hi, iv (2 : Int32), iv v21, iv lo, iv hi] [(.int (2 : Int32)), (.ref a0)])) rfl rfl (hb hby own_d1_190)) ?_
          generalize hv_v24 : (g 2) = v24
          refine ow_sipush (q := 194) Xc3 hx (255 : Int32) (hb hby own_d1_191) rfl rfl ?_
          refine ow_iand (q := 195) Xc3 hx _ (hb hby own_d1_194) rfl rfl ?_
          generalize hv_v25 : (v24 &&& (255 : Int32)) = v25
          refine ow_istore (q := 197) Xc3 hx (L' := #[rv a0, iv (0 : Int32), iv (4 : Int32), iv v2, iv (4 : Int32), iv lo, iv hi, iv (2 : Int32), iv v25, iv lo, iv hi]) (hb hby own_d1_195) rfl rfl ?_
          refine ow_iload (q := 199) Xc3 hx (hb hby own_d1_197) rfl rfl ?_
          refine ow_iconst (q := 200) Xc3 hx (1 : Int32) (hb hby own_d1_199) rfl rfl ?_
          refine ow_icmpYes (q := 208) Xc3 hx (hb hby own_d1_200) (Jvm.Free.XT.ii_ne_t (by decide)) (by decide) (by decide) ?_
          refine ow_sipush (q := 211) Xc3 hx (128 : Int32) (hb hby own_d1_208) rfl rfl ?_
          refine ow_istore (q := 213) Xc3 hx (L' := #[rv a0, iv (0 : Int32), iv (4 : Int32), iv v2, iv (4 : Int32), iv lo, iv hi, iv (2 : Int32), iv v25, iv (128 : Int32), iv hi]) (hb hby own_d1_211) rfl rfl ?_
          refine ow_iload (q := 215) Xc3 hx (hb hby own_d1_213) rfl rfl ?_
          refine ow_iconst (q := 216) Xc3 hx (1 : Int32) (hb hby own_d1_215) rfl rfl ?_
          refine ow_icmpYes (q := 224) Xc3 hx (hb hby own_d1_216) (Jvm.Free.XT.ii_ne_t (by decide)) (by decide) (by decide) ?_
          refine ow_sipush (q := 227) Xc3 hx (191 : Int32) (hb hby own_d1_224) rfl rfl ?_
          refine ow_istore (q := 229) Xc3 hx (L' := #[rv a0, iv (0 : Int32), iv (4 : Int32), iv v2, iv (4 : Int32), iv lo, iv hi, iv (2 : Int32), iv v25, iv (128 : Int32), iv (191 : Int32)]) (hb hby own_d1_227) rfl rfl ?_
          refine ow_iload (q := 231) Xc3 hx (hb hby own_d1_229) rfl rfl ?_
          refine ow_iload (q := 233) Xc3 hx (hb hby own_d1_231) rfl rfl ?_
          by_cases hc233_26 : v25 < (128 : Int32)
          · refine ow_icmpYes (q := 243) Xc3 hx (hb hby own_d1_233) (Jvm.Free.XT.ii_lt_t hc233_26) (by decide) (by decide) ?_
            refine ow_iconst (q := 244) Xc3 hx (0 : Int32) (hb hby own_d1_243) rfl rfl ?_
            refine ownRetI Xc3 hx Bd.returns (hb hby own_d1_244) hlk (by decide) (by decide) ?_
            subst hv_v25 hv_v24 hv_v21 hv_v20 hv_v2 hv_v1
            rw [ec3]
            refine ⟨(0 : Int32), rfl, Nc3, rfl, ?_⟩
            unfold own_H at hH
            simp only [Int32.lt_iff_toInt_lt, ← Int32.toInt_inj, Int32.reduceToInt] at hc233_22 hc240_23 hc233_26 hH ⊢
            unfold own_sq
            (repeat' split) <;> omega
          · refine ow_icmpNo (q := 236) Xc3 hx (hb hby own_d1_233) rfl (Jvm.Free.XT.ii_lt_f hc233_26) ?_
            refine ow_iload (q := 238) Xc3 hx (hb hby own_d1_236) rfl rfl ?_
            refine ow_iload (q := 240) Xc3 hx (hb hby own_d1_238) rfl rfl ?_
            by_cases hc240_27 : (191 : Int32) < v25
            · refine ow_icmpNo (q := 243) Xc3 hx (hb hby own_d1_240) rfl (Jvm.Free.XT.ii_le_f hc240_27) ?_
              refine ow_iconst (q := 244) Xc3 hx (0 : Int32) (hb hby own_d1_243) rfl rfl ?_
              refine ownRetI Xc3 hx Bd.returns (hb hby own_d1_244) hlk (by decide) (by decide) ?_
              subst hv_v25 hv_v24 hv_v21 hv_v20 hv_v2 hv_v1
              rw [ec3]
              refine ⟨(0 : Int32), rfl, Nc3, rfl, ?_⟩
              unfold own_H at hH
              simp only [Int32.lt_iff_toInt_lt, ← Int32.toInt_inj, Int32.reduceToInt] at hc233_22 hc240_23 hc233_26 hc240_27 hH ⊢
              unfold own_sq
              (repeat' split) <;> omega
            · refine ow_icmpYes (q := 245) Xc3 hx (hb hby own_d1_240) (Jvm.Free.XT.ii_le_t hc240_27) (by decide) (by decide) ?_
              refine ow_iinc (q := 248) Xc3 hx (L' := #[rv a0, iv (0 : Int32), iv (4 : Int32), iv v2, iv (4 : Int32), iv lo, iv hi, iv (3 : Int32), iv v25, iv (128 : Int32), iv (191 : Int32)]) (hb hby own_d1_245) rfl rfl rfl ?_
              refine ow_goto (q := 178) Xc3 hx (hb hby own_d1_248) (by decide) (by decide) ?_
              refine ow_iload (q := 180) Xc3 hx (hb hby own_d1_178) rfl rfl ?_
              refine ow_iload (q := 182) Xc3 hx (hb hby own_d1_180) rfl rfl ?_
              refine ow_icmpNo (q := 185) Xc3 hx (hb hby own_d1_182) rfl (Jvm.Free.XT.ii_ge_f (by decide)) ?_
              refine ow_aloadN (q := 186) Xc3 hx (hb hby own_d1_185) rfl rfl rfl ?_
              refine ow_iloadN (q := 187) Xc3 hx (hb hby own_d1_186) rfl rfl ?_
              refine ow_iload (q := 189) Xc3 hx (hb hby own_d1_187) rfl rfl ?_
              refine ow_iadd (q := 190) Xc3 hx (3 : Int32) (hb hby own_d1_189) rfl (by decide) ?_
              refine ownGo (T' := Tc3) (f' := (mkF m 191 #[rv a0, iv (0 : Int32), iv (4 : Int32), iv v2, iv (4 : Int32), iv lo, iv hi, iv (3 : Int32), iv v25, iv (128 : Int32), iv (191 : Int32)] [(.int (g 3))])) (ownBaload HF0 Xc3 hx hZ ec3 (j := (3 : Int32)) (by unfold ownIn; decide) (g := (mkF m 190 #[rv a0, iv (0 : Int32), iv (4 : Int32), iv v2, iv (4 : Int32), iv lo, iv hi, iv (3 : Int32), iv v25, iv (128 : Int32), iv (191 : Int32)] [(.int (3 : Int32)), (.ref a0)])) rfl rfl (hb hby own_d1_190)) ?_
              generalize hv_v28 : (g 3) = v28
              refine ow_sipush (q := 194) Xc3 hx (255 : Int32) (hb hby own_d1_191) rfl rfl ?_
              refine ow_iand (q := 195) Xc3 hx _ (hb hby own_d1_194) rfl rfl ?_
              generalize hv_v29 : (v28 &&& (255 : Int32)) = v29
              refine ow_istore (q := 197) Xc3 hx (L' := #[rv a0, iv (0 : Int32), iv (4 : Int32), iv v2, iv (4 : Int32), iv lo, iv hi, iv (3 : Int32), iv v29, iv (128 : Int32), iv (191 : Int32)]) (hb hby own_d1_195) rfl rfl ?_
              refine ow_iload (q := 199) Xc3 hx (hb hby own_d1_197) rfl rfl ?_
              refine ow_iconst (q := 200) Xc3 hx (1 : Int32) (hb hby own_d1_199) rfl rfl ?_
              refine ow_icmpYes (q := 208) Xc3 hx (hb hby own_d1_200) (Jvm.Free.XT.ii_ne_t (by decide)) (by decide) (by decide) ?_
              refine ow_sipush (q := 211) Xc3 hx (128 : Int32) (hb hby own_d1_208) rfl rfl ?_
              refine ow_istore (q := 213) Xc3 hx (L' := #[rv a0, iv (0 : Int32), iv (4 : Int32), iv v2, iv (4 : Int32), iv lo, iv hi, iv (3 : Int32), iv v29, iv (128 : Int32), iv (191 : Int32)]) (hb hby own_d1_211) rfl rfl ?_
              refine ow_iload (q := 215) Xc3 hx (hb hby own_d1_213) rfl rfl ?_
              refine ow_iconst (q := 216) Xc3 hx (1 : Int32) (hb hby own_d1_215) rfl rfl ?_
              refine ow_icmpYes (q := 224) Xc3 hx (hb hby own_d1_216) (Jvm.Free.XT.ii_ne_t (by decide)) (by decide) (by decide) ?_
              refine ow_sipush (q := 227) Xc3 hx (191 : Int32) (hb hby own_d1_224) rfl rfl ?_
              refine ow_istore (q := 229) Xc3 hx (L' := #[rv a0, iv (0 : Int32), iv (4 : Int32), iv v2, iv (4 : Int32), iv lo, iv hi, iv (3 : Int32), iv v29, iv (128 : Int32), iv (191 : Int32)]) (hb hby own_d1_227) rfl rfl ?_
              refine ow_iload (q := 231) Xc3 hx (hb hby own_d1_229) rfl rfl ?_
              refine ow_iload (q := 233) Xc3 hx (hb hby own_d1_231) rfl rfl ?_
              by_cases hc233_30 : v29 < (128 : Int32)
              · refine ow_icmpYes (q := 243) Xc3 hx (hb hby own_d1_233) (Jvm.Free.XT.ii_lt_t hc233_30) (by decide) (by decide) ?_
                refine ow_iconst (q := 244) Xc3 hx (0 : Int32) (hb hby own_d1_243) rfl rfl ?_
                refine ownRetI Xc3 hx Bd.returns (hb hby own_d1_244) hlk (by decide) (by decide) ?_
                subst hv_v29 hv_v28 hv_v25 hv_v24 hv_v21 hv_v20 hv_v2 hv_v1
                rw [ec3]
                refine ⟨(0 : Int32), rfl, Nc3, rfl, ?_⟩
                unfold own_H at hH
                simp only [Int32.lt_iff_toInt_lt, ← Int32.toInt_inj, Int32.reduceToInt] at hc233_22 hc240_23 hc233_26 hc240_27 hc233_30 hH ⊢
                unfold own_sq
                (repeat' split) <;> omega
              · refine ow_icmpNo (q := 236) Xc3 hx (hb hby own_d1_233) rfl (Jvm.Free.XT.ii_lt_f hc233_30) ?_
                refine ow_iload (q := 238) Xc3 hx (hb hby own_d1_236) rfl rfl ?_
                refine ow_iload (q := 240) Xc3 hx (hb hby own_d1_238) rfl rfl ?_
                by_cases hc240_31 : (191 : Int32) < v29
                · refine ow_icmpNo (q := 243) Xc3 hx (hb hby own_d1_240) rfl (Jvm.Free.XT.ii_le_f hc240_31) ?_
                  refine ow_iconst (q := 244) Xc3 hx (0 : Int32) (hb hby own_d1_243) rfl rfl ?_
                  refine ownRetI Xc3 hx Bd.returns (hb hby own_d1_244) hlk (by decide) (by decide) ?_
                  subst hv_v29 hv_v28 hv_v25 hv_v24 hv_v21 hv_v20 hv_v2 hv_v1
                  rw [ec3]
                  refine ⟨(0 : Int32), rfl, Nc3, rfl, ?_⟩
                  unfold own_H at hH
                  simp only [Int32.lt_iff_toInt_lt, ← Int32.toInt_inj, Int32.reduceToInt] at hc233_22 hc240_23 hc233_26 hc240_27 hc233_30 hc240_31 hH ⊢
                  unfold own_sq
                  (repeat' split) <;> omega
                · refine ow_icmpYes (q := 245) Xc3 hx (hb hby own_d1_240) (Jvm.Free.XT.ii_le_t hc240_31) (by decide) (by decide) ?_
                  refine ow_iinc (q := 248) Xc3 hx (L' := #[rv a0, iv (0 : Int32), iv (4 : Int32), iv v2, iv (4 : Int32), iv lo, iv hi, iv (4 : Int32), iv v29, iv (128 : Int32), iv (191 : Int32)]) (hb hby own_d1_245) rfl rfl rfl ?_
                  refine ow_goto (q := 178) Xc3 hx (hb hby own_d1_248) (by decide) (by decide) ?_
                  refine ow_iload (q := 180) Xc3 hx (hb hby own_d1_178) rfl rfl ?_
                  refine ow_iload (q := 182) Xc3 hx (hb hby own_d1_180) rfl rfl ?_
                  refine ow_icmpYes (q := 251) Xc3 hx (hb hby own_d1_182) (Jvm.Free.XT.ii_ge_t (by decide)) (by decide) (by decide) ?_
                  refine ow_iload (q := 253) Xc3 hx (hb hby own_d1_251) rfl rfl ?_
                  refine ownRetI Xc3 hx Bd.returns (hb hby own_d1_253) hlk (by decide) (by decide) ?_
                  subst hv_v29 hv_v28 hv_v25 hv_v24 hv_v21 hv_v20 hv_v2 hv_v1
                  rw [ec3]
                  refine ⟨(4 : Int32), rfl, Nc3, rfl, ?_⟩
                  unfold own_H at hH
                  simp only [Int32.lt_iff_toInt_lt, ← Int32.toInt_inj, Int32.reduceToInt] at hc233_22 hc240_23 hc233_26 hc240_27 hc233_30 hc240_31 hH ⊢
                  unfold own_sq
                  (repeat' split) <;> omega
  refine ow_iloadN (q := 19) X0 hx (hb hby own_d1_18) rfl rfl ?_
  refine ow_sipush (q := 22) X0 hx (128 : Int32) (hb hby own_d1_19) rfl rfl ?_
  by_cases hc22_32 : v2 < (128 : Int32)
  · refine ow_icmpNo (q := 25) X0 hx (hb hby own_d1_22) rfl (Jvm.Free.XT.ii_ge_f hc22_32) ?_
    refine ow_iconst (q := 26) X0 hx (1 : Int32) (hb hby own_d1_25) rfl rfl ?_
    refine ow_istore (q := 28) X0 hx (L' := #[rv a0, iv (0 : Int32), iv (4 : Int32), iv v2, iv (1 : Int32), iv (128 : Int32), iv (191 : Int32), .unset, .unset, .unset, .unset]) (hb hby own_d1_26) rfl rfl ?_
    refine ow_goto (q := 165) X0 hx (hb hby own_d1_28) (by decide) (by decide) ?_
    exact cut165_3 (1 : Int32) (128 : Int32) (191 : Int32) _ _ X0 e0 N0 (by unfold own_H; simp only [Int32.lt_iff_toInt_lt, ← Int32.toInt_inj, Int32.reduceToInt, true_and, and_true] at hc22_32 ⊢; omega)
  · refine ow_icmpYes (q := 31) X0 hx (hb hby own_d1_22) (Jvm.Free.XT.ii_ge_t hc22_32) (by decide) (by decide) ?_
    refine ow_iloadN (q := 32) X0 hx (hb hby own_d1_31) rfl rfl ?_
    refine ow_sipush (q := 35) X0 hx (194 : Int32) (hb hby own_d1_32) rfl rfl ?_
    by_cases hc35_33 : v2 < (194 : Int32)
    · refine ow_icmpYes (q := 51) X0 hx (hb hby own_d1_35) (Jvm.Free.XT.ii_lt_t hc35_33) (by decide) (by decide) ?_
      refine ow_iloadN (q := 52) X0 hx (hb hby own_d1_51) rfl rfl ?_
      refine ow_sipush (q := 55) X0 hx (224 : Int32) (hb hby own_d1_52) rfl rfl ?_
      by_cases hc55_34 : v2 < (224 : Int32)
      · refine ow_icmpYes (q := 107) X0 hx (hb hby own_d1_55) (Jvm.Free.XT.ii_lt_t hc55_34) (by decide) (by decide) ?_
        refine ow_iloadN (q := 108) X0 hx (hb hby own_d1_107) rfl rfl ?_
        refine ow_sipush (q := 111) X0 hx (240 : Int32) (hb hby own_d1_108) rfl rfl ?_
        by_cases hc111_35 : v2 < (240 : Int32)
        · refine ow_icmpYes (q := 163) X0 hx (hb hby own_d1_111) (Jvm.Free.XT.ii_lt_t hc111_35) (by decide) (by decide) ?_
          refine ow_iconst (q := 164) X0 hx (0 : Int32) (hb hby own_d1_163) rfl rfl ?_
          refine ownRetI X0 hx Bd.returns (hb hby own_d1_164) hlk (by decide) (by decide) ?_
          subst hv_v2 hv_v1
          rw [e0]
          refine ⟨(0 : Int32), rfl, N0, rfl, ?_⟩
          simp only [Int32.lt_iff_toInt_lt, ← Int32.toInt_inj, Int32.reduceToInt] at hc22_32 hc35_33 hc55_34 hc111_35 ⊢
          unfold own_sq
          (repeat' split) <;> omega
        · refine ow_icmpNo (q := 114) X0 hx (hb hby own_d1_111) rfl (Jvm.Free.XT.ii_lt_f hc111_35) ?_
          refine ow_iloadN (q := 115) X0 hx (hb hby own_d1_114) rfl rfl ?_
          refine ow_sipush (q := 118) X0 hx (244 : Int32) (hb hby own_d1_115) rfl rfl ?_
          by_cases hc118_36 : (244 : Int32) < v2
          · refine ow_icmpYes (q := 163) X0 hx (hb hby own_d1_118) (Jvm.Free.XT.ii_gt_t hc118_36) (by decide) (by decide) ?_
            refine ow_iconst (q := 164) X0 hx (0 : Int32) (hb hby own_d1_163) rfl rfl ?_
            refine ownRetI X0 hx Bd.returns (hb hby own_d1_164) hlk (by decide) (by decide) ?_
            subst hv_v2 hv_v1
            rw [e0]
            refine ⟨(0 : Int32), rfl, N0, rfl, ?_⟩
            simp only [Int32.lt_iff_toInt_lt, ← Int32.toInt_inj, Int32.reduceToInt] at hc22_32 hc35_33 hc55_34 hc111_35 hc118_36 ⊢
            unfold own_sq
            (repeat' split) <;> omega
          · refine ow_icmpNo (q := 121) X0 hx (hb hby own_d1_118) rfl (Jvm.Free.XT.ii_gt_f hc118_36) ?_
            refine ow_iconst (q := 122) X0 hx (4 : Int32) (hb hby own_d1_121) rfl rfl ?_
            refine ow_istore (q := 124) X0 hx (L' := #[rv a0, iv (0 : Int32), iv (4 : Int32), iv v2, iv (4 : Int32), iv (128 : Int32), iv (191 : Int32), .unset, .unset, .unset, .unset]) (hb hby own_d1_122) rfl rfl ?_
            refine ow_iloadN (q := 125) X0 hx (hb hby own_d1_124) rfl rfl ?_
            refine ow_sipush (q := 128) X0 hx (240 : Int32) (hb hby own_d1_125) rfl rfl ?_
            by_cases hc128_37 : v2 = (240 : Int32)
            · refine ow_icmpNo (q := 131) X0 hx (hb hby own_d1_128) rfl (Jvm.Free.XT.ii_ne_f hc128_37) ?_
              refine ow_sipush (q := 134) X0 hx (144 : Int32) (hb hby own_d1_131) rfl rfl ?_
              refine ow_goto (q := 140) X0 hx (hb hby own_d1_134) (by decide) (by decide) ?_
              refine ow_istore (q := 142) X0 hx (L' := #[rv a0, iv (0 : Int32), iv (4 : Int32), iv v2, iv (4 : Int32), iv (144 : Int32), iv (191 : Int32), .unset, .unset, .unset, .unset]) (hb hby own_d1_140) rfl rfl ?_
              refine ow_iloadN (q := 143) X0 hx (hb hby own_d1_142) rfl rfl ?_
              refine ow_sipush (q := 146) X0 hx (244 : Int32) (hb hby own_d1_143) rfl rfl ?_
              by_cases hc146_38 : v2 = (244 : Int32)
              · refine ow_icmpNo (q := 149) X0 hx (hb hby own_d1_146) rfl (Jvm.Free.XT.ii_ne_f hc146_38) ?_
                refine ow_sipush (q := 152) X0 hx (143 : Int32) (hb hby own_d1_149) rfl rfl ?_
                refine ow_goto (q := 158) X0 hx (hb hby own_d1_152) (by decide) (by decide) ?_
                refine ow_istore (q := 160) X0 hx (L' := #[rv a0, iv (0 : Int32), iv (4 : Int32), iv v2, iv (4 : Int32), iv (144 : Int32), iv (143 : Int32), .unset, .unset, .unset, .unset]) (hb hby own_d1_158) rfl rfl ?_
                refine ow_goto (q := 165) X0 hx (hb hby own_d1_160) (by decide) (by decide) ?_
                exact cut165_3 (4 : Int32) (144 : Int32) (143 : Int32) _ _ X0 e0 N0 (by unfold own_H; simp only [Int32.lt_iff_toInt_lt, ← Int32.toInt_inj, Int32.reduceToInt, true_and, and_true] at hc22_32 hc35_33 hc55_34 hc111_35 hc118_36 hc128_37 hc146_38 ⊢; omega)
              · refine ow_icmpYes (q := 155) X0 hx (hb hby own_d1_146) (Jvm.Free.XT.ii_ne_t hc146_38) (by decide) (by decide) ?_
                refine ow_sipush (q := 158) X0 hx (191 : Int32) (hb hby own_d1_155) rfl rfl ?_
                refine ow_istore (q := 160) X0 hx (L' := #[rv a0, iv (0 : Int32), iv (4 : Int32), iv v2, iv (4 : Int32), iv (144 : Int32), iv (191 : Int32), .unset, .unset, .unset, .unset]) (hb hby own_d1_158) rfl rfl ?_
                refine ow_goto (q := 165) X0 hx (hb hby own_d1_160) (by decide) (by decide) ?_
                exact cut165_3 (4 : Int32) (144 : Int32) (191 : Int32) _ _ X0 e0 N0 (by unfold own_H; simp only [Int32.lt_iff_toInt_lt, ← Int32.toInt_inj, Int32.reduceToInt, true_and, and_true] at hc22_32 hc35_33 hc55_34 hc111_35 hc118_36 hc128_37 hc146_38 ⊢; omega)
            · refine ow_icmpYes (q := 137) X0 hx (hb hby own_d1_128) (Jvm.Free.XT.ii_ne_t hc128_37) (by decide) (by decide) ?_
              refine ow_sipush (q := 140) X0 hx (128 : Int32) (hb hby own_d1_137) rfl rfl ?_
              refine ow_istore (q := 142) X0 hx (L' := #[rv a0, iv (0 : Int32), iv (4 : Int32), iv v2, iv (4 : Int32), iv (128 : Int32), iv (191 : Int32), .unset, .unset, .unset, .unset]) (hb hby own_d1_140) rfl rfl ?_
              refine ow_iloadN (q := 143) X0 hx (hb hby own_d1_142) rfl rfl ?_
              refine ow_sipush (q := 146) X0 hx (244 : Int32) (hb hby own_d1_143) rfl rfl ?_
              by_cases hc146_39 : v2 = (244 : Int32)
              · refine ow_icmpNo (q := 149) X0 hx (hb hby own_d1_146) rfl (Jvm.Free.XT.ii_ne_f hc146_39) ?_
                refine ow_sipush (q := 152) X0 hx (143 : Int32) (hb hby own_d1_149) rfl rfl ?_
                refine ow_goto (q := 158) X0 hx (hb hby own_d1_152) (by decide) (by decide) ?_
                refine ow_istore (q := 160) X0 hx (L' := #[rv a0, iv (0 : Int32), iv (4 : Int32), iv v2, iv (4 : Int32), iv (128 : Int32), iv (143 : Int32), .unset, .unset, .unset, .unset]) (hb hby own_d1_158) rfl rfl ?_
                refine ow_goto (q := 165) X0 hx (hb hby own_d1_160) (by decide) (by decide) ?_
                exact cut165_3 (4 : Int32) (128 : Int32) (143 : Int32) _ _ X0 e0 N0 (by unfold own_H; simp only [Int32.lt_iff_toInt_lt, ← Int32.toInt_inj, Int32.reduceToInt, true_and, and_true] at hc22_32 hc35_33 hc55_34 hc111_35 hc118_36 hc128_37 hc146_39 ⊢; omega)
              · refine ow_icmpYes (q := 155) X0 hx (hb hby own_d1_146) (Jvm.Free.XT.ii_ne_t hc146_39) (by decide) (by decide) ?_
                refine ow_sipush (q := 158) X0 hx (191 : Int32) (hb hby own_d1_155) rfl rfl ?_
                refine ow_istore (q := 160) X0 hx (L' := #[rv a0, iv (0 : Int32), iv (4 : Int32), iv v2, iv (4 : Int32), iv (128 : Int32), iv (191 : Int32), .unset, .unset, .unset, .unset]) (hb hby own_d1_158) rfl rfl ?_
                refine ow_goto (q := 165) X0 hx (hb hby own_d1_160) (by decide) (by decide) ?_
                exact cut165_3 (4 : Int32) (128 : Int32) (191 : Int32) _ _ X0 e0 N0 (by unfold own_H; simp only [Int32.lt_iff_toInt_lt, ← Int32.toInt_inj, Int32.reduceToInt, true_and, and_true] at hc22_32 hc35_33 hc55_34 hc111_35 hc118_36 hc128_37 hc146_39 ⊢; omega)
      · refine ow_icmpNo (q := 58) X0 hx (hb hby own_d1_55) rfl (Jvm.Free.XT.ii_lt_f hc55_34) ?_
        refine ow_iloadN (q := 59) X0 hx (hb hby own_d1_58) rfl rfl ?_
        refine ow_sipush (q := 62) X0 hx (239 : Int32) (hb hby own_d1_59) rfl rfl ?_
        by_cases hc62_40 : (239 : Int32) < v2
        · refine ow_icmpYes (q := 107) X0 hx (hb hby own_d1_62) (Jvm.Free.XT.ii_gt_t hc62_40) (by decide) (by decide) ?_
          refine ow_iloadN (q := 108) X0 hx (hb hby own_d1_107) rfl rfl ?_
          refine ow_sipush (q := 111) X0 hx (240 : Int32) (hb hby own_d1_108) rfl rfl ?_
          by_cases hc111_41 : v2 < (240 : Int32)
          · refine ow_icmpYes (q := 163) X0 hx (hb hby own_d1_111) (Jvm.Free.XT.ii_lt_t hc111_41) (by decide) (by decide) ?_
            refine ow_iconst (q := 164) X0 hx (0 : Int32) (hb hby own_d1_163) rfl rfl ?_
            refine ownRetI X0 hx Bd.returns (hb hby own_d1_164) hlk (by decide) (by decide) ?_
            subst hv_v2 hv_v1
            rw [e0]
            refine ⟨(0 : Int32), rfl, N0, rfl, ?_⟩
            simp only [Int32.lt_iff_toInt_lt, ← Int32.toInt_inj, Int32.reduceToInt] at hc22_32 hc35_33 hc55_34 hc62_40 hc111_41 ⊢
            unfold own_sq
            (repeat' split) <;> omega
          · refine ow_icmpNo (q := 114) X0 hx (hb hby own_d1_111) rfl (Jvm.Free.XT.ii_lt_f hc111_41) ?_
            refine ow_iloadN (q := 115) X0 hx (hb hby own_d1_114) rfl rfl ?_
            refine ow_sipush (q := 118) X0 hx (244 : Int32) (hb hby own_d1_115) rfl rfl ?_
            by_cases hc118_42 : (244 : Int32) < v2
            · refine ow_icmpYes (q := 163) X0 hx (hb hby own_d1_118) (Jvm.Free.XT.ii_gt_t hc118_42) (by decide) (by decide) ?_
              refine ow_iconst (q := 164) X0 hx (0 : Int32) (hb hby own_d1_163) rfl rfl ?_
              refine ownRetI X0 hx Bd.returns (hb hby own_d1_164) hlk (by decide) (by decide) ?_
              subst hv_v2 hv_v1
              rw [e0]
              refine ⟨(0 : Int32), rfl, N0, rfl, ?_⟩
              simp only [Int32.lt_iff_toInt_lt, ← Int32.toInt_inj, Int32.reduceToInt] at hc22_32 hc35_33 hc55_34 hc62_40 hc111_41 hc118_42 ⊢
              unfold own_sq
              (repeat' split) <;> omega
            · refine ow_icmpNo (q := 121) X0 hx (hb hby own_d1_118) rfl (Jvm.Free.XT.ii_gt_f hc118_42) ?_
              refine ow_iconst (q := 122) X0 hx (4 : Int32) (hb hby own_d1_121) rfl rfl ?_
              refine ow_istore (q := 124) X0 hx (L' := #[rv a0, iv (0 : Int32), iv (4 : Int32), iv v2, iv (4 : Int32), iv (128 : Int32), iv (191 : Int32), .unset, .unset, .unset, .unset]) (hb hby own_d1_122) rfl rfl ?_
              refine ow_iloadN (q := 125) X0 hx (hb hby own_d1_124) rfl rfl ?_
              refine ow_sipush (q := 128) X0 hx (240 : Int32) (hb hby own_d1_125) rfl rfl ?_
              by_cases hc128_43 : v2 = (240 : Int32)
              · refine ow_icmpNo (q := 131) X0 hx (hb hby own_d1_128) rfl (Jvm.Free.XT.ii_ne_f hc128_43) ?_
                refine ow_sipush (q := 134) X0 hx (144 : Int32) (hb hby own_d1_131) rfl rfl ?_
                refine ow_goto (q := 140) X0 hx (hb hby own_d1_134) (by decide) (by decide) ?_
                refine ow_istore (q := 142) X0 hx (L' := #[rv a0, iv (0 : Int32), iv (4 : Int32), iv v2, iv (4 : Int32), iv (144 : Int32), iv (191 : Int32), .unset, .unset, .unset, .unset]) (hb hby own_d1_140) rfl rfl ?_
                refine ow_iloadN (q := 143) X0 hx (hb hby own_d1_142) rfl rfl ?_
                refine ow_sipush (q := 146) X0 hx (244 : Int32) (hb hby own_d1_143) rfl rfl ?_
                by_cases hc146_44 : v2 = (244 : Int32)
                · refine ow_icmpNo (q := 149) X0 hx (hb hby own_d1_146) rfl (Jvm.Free.XT.ii_ne_f hc146_44) ?_
                  refine ow_sipush (q := 152) X0 hx (143 : Int32) (hb hby own_d1_149) rfl rfl ?_
                  refine ow_goto (q := 158) X0 hx (hb hby own_d1_152) (by decide) (by decide) ?_
                  refine ow_istore (q := 160) X0 hx (L' := #[rv a0, iv (0 : Int32), iv (4 : Int32), iv v2, iv (4 : Int32), iv (144 : Int32), iv (143 : Int32), .unset, .unset, .unset, .unset]) (hb hby own_d1_158) rfl rfl ?_
                  refine ow_goto (q := 165) X0 hx (hb hby own_d1_160) (by decide) (by decide) ?_
                  exact cut165_3 (4 : Int32) (144 : Int32) (143 : Int32) _ _ X0 e0 N0 (by unfold own_H; simp only [Int32.lt_iff_toInt_lt, ← Int32.toInt_inj, Int32.reduceToInt, true_and, and_true] at hc22_32 hc35_33 hc55_34 hc62_40 hc111_41 hc118_42 hc128_43 hc146_44 ⊢; omega)
                · refine ow_icmpYes (q := 155) X0 hx (hb hby own_d1_146) (Jvm.Free.XT.ii_ne_t hc146_44) (by decide) (by decide) ?_
                  refine ow_sipush (q := 158) X0 hx (191 : Int32) (hb hby own_d1_155) rfl rfl ?_
                  refine ow_istore (q := 160) X0 hx (L' := #[rv a0, iv (0 : Int32), iv (4 : Int32), iv v2, iv (4 : Int32), iv (144 : Int32), iv (191 : Int32), .unset, .unset, .unset, .unset]) (hb hby own_d1_158) rfl rfl ?_
                  refine ow_goto (q := 165) X0 hx (hb hby own_d1_160) (by decide) (by decide) ?_
                  exact cut165_3 (4 : Int32) (144 : Int32) (191 : Int32) _ _ X0 e0 N0 (by unfold own_H; simp only [Int32.lt_iff_toInt_lt, ← Int32.toInt_inj, Int32.reduceToInt, true_and, and_true] at hc22_32 hc35_33 hc55_34 hc62_40 hc111_41 hc118_42 hc128_43 hc146_44 ⊢; omega)
              · refine ow_icmpYes (q := 137) X0 hx (hb hby own_d1_128) (Jvm.Free.XT.ii_ne_t hc128_43) (by decide) (by decide) ?_
                refine ow_sipush (q := 140) X0 hx (128 : Int32) (hb hby own_d1_137) rfl rfl ?_
                refine ow_istore (q := 142) X0 hx (L' := #[rv a0, iv (0 : Int32), iv (4 : Int32), iv v2, iv (4 : Int32), iv (128 : Int32), iv (191 : Int32), .unset, .unset, .unset, .unset]) (hb hby own_d1_140) rfl rfl ?_
                refine ow_iloadN (q := 143) X0 hx (hb hby own_d1_142) rfl rfl ?_
                refine ow_sipush (q := 146) X0 hx (244 : Int32) (hb hby own_d1_143) rfl rfl ?_
                by_cases hc146_45 : v2 = (244 : Int32)
                · refine ow_icmpNo (q := 149) X0 hx (hb hby own_d1_146) rfl (Jvm.Free.XT.ii_ne_f hc146_45) ?_
                  refine ow_sipush (q := 152) X0 hx (143 : Int32) (hb hby own_d1_149) rfl rfl ?_
                  refine ow_goto (q := 158) X0 hx (hb hby own_d1_152) (by decide) (by decide) ?_
                  refine ow_istore (q := 160) X0 hx (L' := #[rv a0, iv (0 : Int32), iv (4 : Int32), iv v2, iv (4 : Int32), iv (128 : Int32), iv (143 : Int32), .unset, .unset, .unset, .unset]) (hb hby own_d1_158) rfl rfl ?_
                  refine ow_goto (q := 165) X0 hx (hb hby own_d1_160) (by decide) (by decide) ?_
                  exact cut165_3 (4 : Int32) (128 : Int32) (143 : Int32) _ _ X0 e0 N0 (by unfold own_H; simp only [Int32.lt_iff_toInt_lt, ← Int32.toInt_inj, Int32.reduceToInt, true_and, and_true] at hc22_32 hc35_33 hc55_34 hc62_40 hc111_41 hc118_42 hc128_43 hc146_45 ⊢; omega)
                · refine ow_icmpYes (q := 155) X0 hx (hb hby own_d1_146) (Jvm.Free.XT.ii_ne_t hc146_45) (by decide) (by decide) ?_
                  refine ow_sipush (q := 158) X0 hx (191 : Int32) (hb hby own_d1_155) rfl rfl ?_
                  refine ow_istore (q := 160) X0 hx (L' := #[rv a0, iv (0 : Int32), iv (4 : Int32), iv v2, iv (4 : Int32), iv (128 : Int32), iv (191 : Int32), .unset, .unset, .unset, .unset]) (hb hby own_d1_158) rfl rfl ?_
                  refine ow_goto (q := 165) X0 hx (hb hby own_d1_160) (by decide) (by decide) ?_
                  exact cut165_3 (4 : Int32) (128 : Int32) (191 : Int32) _ _ X0 e0 N0 (by unfold own_H; simp only [Int32.lt_iff_toInt_lt, ← Int32.toInt_inj, Int32.reduceToInt, true_and, and_true] at hc22_32 hc35_33 hc55_34 hc62_40 hc111_41 hc118_42 hc128_43 hc146_45 ⊢; omega)
        · refine ow_icmpNo (q := 65) X0 hx (hb hby own_d1_62) rfl (Jvm.Free.XT.ii_gt_f hc62_40) ?_
          refine ow_iconst (q := 66) X0 hx (3 : Int32) (hb hby own_d1_65) rfl rfl ?_
          refine ow_istore (q := 68) X0 hx (L' := #[rv a0, iv (0 : Int32), iv (4 : Int32), iv v2, iv (3 : Int32), iv (128 : Int32), iv (191 : Int32), .unset, .unset, .unset, .unset]) (hb hby own_d1_66) rfl rfl ?_
          refine ow_iloadN (q := 69) X0 hx (hb hby own_d1_68) rfl rfl ?_
          refine ow_sipush (q := 72) X0 hx (224 : Int32) (hb hby own_d1_69) rfl rfl ?_
          by_cases hc72_46 : v2 = (224 : Int32)
          · refine ow_icmpNo (q := 75) X0 hx (hb hby own_d1_72) rfl (Jvm.Free.XT.ii_ne_f hc72_46) ?_
            refine ow_sipush (q := 78) X0 hx (160 : Int32) (hb hby own_d1_75) rfl rfl ?_
            refine ow_goto (q := 84) X0 hx (hb hby own_d1_78) (by decide) (by decide) ?_
            refine ow_istore (q := 86) X0 hx (L' := #[rv a0, iv (0 : Int32), iv (4 : Int32), iv v2, iv (3 : Int32), iv (160 : Int32), iv (191 : Int32), .unset, .unset, .unset, .unset]) (hb hby own_d1_84) rfl rfl ?_
            refine ow_iloadN (q := 87) X0 hx (hb hby own_d1_86) rfl rfl ?_
            refine ow_sipush (q := 90) X0 hx (237 : Int32) (hb hby own_d1_87) rfl rfl ?_
            by_cases hc90_47 : v2 = (237 : Int32)
            · refine ow_icmpNo (q := 93) X0 hx (hb hby own_d1_90) rfl (Jvm.Free.XT.ii_ne_f hc90_47) ?_
              refine ow_sipush (q := 96) X0 hx (159 : Int32) (hb hby own_d1_93) rfl rfl ?_
              refine ow_goto (q := 102) X0 hx (hb hby own_d1_96) (by decide) (by decide) ?_
              refine ow_istore (q := 104) X0 hx (L' := #[rv a0, iv (0 : Int32), iv (4 : Int32), iv v2, iv (3 : Int32), iv (160 : Int32), iv (159 : Int32), .unset, .unset, .unset, .unset]) (hb hby own_d1_102) rfl rfl ?_
              refine ow_goto (q := 165) X0 hx (hb hby own_d1_104) (by decide) (by decide) ?_
              exact cut165_3 (3 : Int32) (160 : Int32) (159 : Int32) _ _ X0 e0 N0 (by unfold own_H; simp only [Int32.lt_iff_toInt_lt, ← Int32.toInt_inj, Int32.reduceToInt, true_and, and_true] at hc22_32 hc35_33 hc55_34 hc62_40 hc72_46 hc90_47 ⊢; omega)
            · refine ow_icmpYes (q := 99) X0 hx (hb hby own_d1_90) (Jvm.Free.XT.ii_ne_t hc90_47) (by decide) (by decide) ?_
              refine ow_sipush (q := 102) X0 hx (191 : Int32) (hb hby own_d1_99) rfl rfl ?_
              refine ow_istore (q := 104) X0 hx (L' := #[rv a0, iv (0 : Int32), iv (4 : Int32), iv v2, iv (3 : Int32), iv (160 : Int32), iv (191 : Int32), .unset, .unset, .unset, .unset]) (hb hby own_d1_102) rfl rfl ?_
              refine ow_goto (q := 165) X0 hx (hb hby own_d1_104) (by decide) (by decide) ?_
              exact cut165_3 (3 : Int32) (160 : Int32) (191 : Int32) _ _ X0 e0 N0 (by unfold own_H; simp only [Int32.lt_iff_toInt_lt, ← Int32.toInt_inj, Int32.reduceToInt, true_and, and_true] at hc22_32 hc35_33 hc55_34 hc62_40 hc72_46 hc90_47 ⊢; omega)
          · refine ow_icmpYes (q := 81) X0 hx (hb hby own_d1_72) (Jvm.Free.XT.ii_ne_t hc72_46) (by decide) (by decide) ?_
            refine ow_sipush (q := 84) X0 hx (128 : Int32) (hb hby own_d1_81) rfl rfl ?_
            refine ow_istore (q := 86) X0 hx (L' := #[rv a0, iv (0 : Int32), iv (4 : Int32), iv v2, iv (3 : Int32), iv (128 : Int32), iv (191 : Int32), .unset, .unset, .unset, .unset]) (hb hby own_d1_84) rfl rfl ?_
            refine ow_iloadN (q := 87) X0 hx (hb hby own_d1_86) rfl rfl ?_
            refine ow_sipush (q := 90) X0 hx (237 : Int32) (hb hby own_d1_87) rfl rfl ?_
            by_cases hc90_48 : v2 = (237 : Int32)
            · refine ow_icmpNo (q := 93) X0 hx (hb hby own_d1_90) rfl (Jvm.Free.XT.ii_ne_f hc90_48) ?_
              refine ow_sipush (q := 96) X0 hx (159 : Int32) (hb hby own_d1_93) rfl rfl ?_
              refine ow_goto (q := 102) X0 hx (hb hby own_d1_96) (by decide) (by decide) ?_
              refine ow_istore (q := 104) X0 hx (L' := #[rv a0, iv (0 : Int32), iv (4 : Int32), iv v2, iv (3 : Int32), iv (128 : Int32), iv (159 : Int32), .unset, .unset, .unset, .unset]) (hb hby own_d1_102) rfl rfl ?_
              refine ow_goto (q := 165) X0 hx (hb hby own_d1_104) (by decide) (by decide) ?_
              exact cut165_3 (3 : Int32) (128 : Int32) (159 : Int32) _ _ X0 e0 N0 (by unfold own_H; simp only [Int32.lt_iff_toInt_lt, ← Int32.toInt_inj, Int32.reduceToInt, true_and, and_true] at hc22_32 hc35_33 hc55_34 hc62_40 hc72_46 hc90_48 ⊢; omega)
            · refine ow_icmpYes (q := 99) X0 hx (hb hby own_d1_90) (Jvm.Free.XT.ii_ne_t hc90_48) (by decide) (by decide) ?_
              refine ow_sipush (q := 102) X0 hx (191 : Int32) (hb hby own_d1_99) rfl rfl ?_
              refine ow_istore (q := 104) X0 hx (L' := #[rv a0, iv (0 : Int32), iv (4 : Int32), iv v2, iv (3 : Int32), iv (128 : Int32), iv (191 : Int32), .unset, .unset, .unset, .unset]) (hb hby own_d1_102) rfl rfl ?_
              refine ow_goto (q := 165) X0 hx (hb hby own_d1_104) (by decide) (by decide) ?_
              exact cut165_3 (3 : Int32) (128 : Int32) (191 : Int32) _ _ X0 e0 N0 (by unfold own_H; simp only [Int32.lt_iff_toInt_lt, ← Int32.toInt_inj, Int32.reduceToInt, true_and, and_true] at hc22_32 hc35_33 hc55_34 hc62_40 hc72_46 hc90_48 ⊢; omega)
    · refine ow_icmpNo (q := 38) X0 hx (hb hby own_d1_35) rfl (Jvm.Free.XT.ii_lt_f hc35_33) ?_
      refine ow_iloadN (q := 39) X0 hx (hb hby own_d1_38) rfl rfl ?_
      refine ow_sipush (q := 42) X0 hx (223 : Int32) (hb hby own_d1_39) rfl rfl ?_
      by_cases hc42_49 : (223 : Int32) < v2
      · refine ow_icmpYes (q := 51) X0 hx (hb hby own_d1_42) (Jvm.Free.XT.ii_gt_t hc42_49) (by decide) (by decide) ?_
        refine ow_iloadN (q := 52) X0 hx (hb hby own_d1_51) rfl rfl ?_
        refine ow_sipush (q := 55) X0 hx (224 : Int32) (hb hby own_d1_52) rfl rfl ?_
        by_cases hc55_50 : v2 < (224 : Int32)
        · refine ow_icmpYes (q := 107) X0 hx (hb hby own_d1_55) (Jvm.Free.XT.ii_lt_t hc55_50) (by decide) (by decide) ?_
          refine ow_iloadN (q := 108) X0 hx (hb hby own_d1_107) rfl rfl ?_
          refine ow_sipush (q := 111) X0 hx (240 : Int32) (hb hby own_d1_108) rfl rfl ?_
          by_cases hc111_51 : v2 < (240 : Int32)
          · refine ow_icmpYes (q := 163) X0 hx (hb hby own_d1_111) (Jvm.Free.XT.ii_lt_t hc111_51) (by decide) (by decide) ?_
            refine ow_iconst (q := 164) X0 hx (0 : Int32) (hb hby own_d1_163) rfl rfl ?_
            refine ownRetI X0 hx Bd.returns (hb hby own_d1_164) hlk (by decide) (by decide) ?_
            subst hv_v2 hv_v1
            rw [e0]
            refine ⟨(0 : Int32), rfl, N0, rfl, ?_⟩
            simp only [Int32.lt_iff_toInt_lt, ← Int32.toInt_inj, Int32.reduceToInt] at hc22_32 hc35_33 hc42_49 hc55_50 hc111_51 ⊢
            unfold own_sq
            (repeat' split) <;> omega
          · refine ow_icmpNo (q := 114) X0 hx (hb hby own_d1_111) rfl (Jvm.Free.XT.ii_lt_f hc111_51) ?_
            refine ow_iloadN (q := 115) X0 hx (hb hby own_d1_114) rfl rfl ?_
            refine ow_sipush (q := 118) X0 hx (244 : Int32) (hb hby own_d1_115) rfl rfl ?_
            by_cases hc118_52 : (244 : Int32) < v2
            · refine ow_icmpYes (q := 163) X0 hx (hb hby own_d1_118) (Jvm.Free.XT.ii_gt_t hc118_52) (by decide) (by decide) ?_
              refine ow_iconst (q := 164) X0 hx (0 : Int32) (hb hby own_d1_163) rfl rfl ?_
              refine ownRetI X0 hx Bd.returns (hb hby own_d1_164) hlk (by decide) (by decide) ?_
              subst hv_v2 hv_v1
              rw [e0]
              refine ⟨(0 : Int32), rfl, N0, rfl, ?_⟩
              simp only [Int32.lt_iff_toInt_lt, ← Int32.toInt_inj, Int32.reduceToInt] at hc22_32 hc35_33 hc42_49 hc55_50 hc111_51 hc118_52 ⊢
              unfold own_sq
              (repeat' split) <;> omega
            · refine ow_icmpNo (q := 121) X0 hx (hb hby own_d1_118) rfl (Jvm.Free.XT.ii_gt_f hc118_52) ?_
              refine ow_iconst (q := 122) X0 hx (4 : Int32) (hb hby own_d1_121) rfl rfl ?_
              refine ow_istore (q := 124) X0 hx (L' := #[rv a0, iv (0 : Int32), iv (4 : Int32), iv v2, iv (4 : Int32), iv (128 : Int32), iv (191 : Int32), .unset, .unset, .unset, .unset]) (hb hby own_d1_122) rfl rfl ?_
              refine ow_iloadN (q := 125) X0 hx (hb hby own_d1_124) rfl rfl ?_
              refine ow_sipush (q := 128) X0 hx (240 : Int32) (hb hby own_d1_125) rfl rfl ?_
              by_cases hc128_53 : v2 = (240 : Int32)
              · refine ow_icmpNo (q := 131) X0 hx (hb hby own_d1_128) rfl (Jvm.Free.XT.ii_ne_f hc128_53) ?_
                refine ow_sipush (q := 134) X0 hx (144 : Int32) (hb hby own_d1_131) rfl rfl ?_
                refine ow_goto (q := 140) X0 hx (hb hby own_d1_134) (by decide) (by decide) ?_
                refine ow_istore (q := 142) X0 hx (L' := #[rv a0, iv (0 : Int32), iv (4 : Int32), iv v2, iv (4 : Int32), iv (144 : Int32), iv (191 : Int32), .unset, .unset, .unset, .unset]) (hb hby own_d1_140) rfl rfl ?_
                refine ow_iloadN (q := 143) X0 hx (hb hby own_d1_142) rfl rfl ?_
                refine ow_sipush (q := 146) X0 hx (244 : Int32) (hb hby own_d1_143) rfl rfl ?_
                by_cases hc146_54 : v2 = (244 : Int32)
                · refine ow_icmpNo (q := 149) X0 hx (hb hby own_d1_146) rfl (Jvm.Free.XT.ii_ne_f hc146_54) ?_
                  refine ow_sipush (q := 152) X0 hx (143 : Int32) (hb hby own_d1_149) rfl rfl ?_
                  refine ow_goto (q := 158) X0 hx (hb hby own_d1_152) (by decide) (by decide) ?_
                  refine ow_istore (q := 160) X0 hx (L' := #[rv a0, iv (0 : Int32), iv (4 : Int32), iv v2, iv (4 : Int32), iv (144 : Int32), iv (143 : Int32), .unset, .unset, .unset, .unset]) (hb hby own_d1_158) rfl rfl ?_
                  refine ow_goto (q := 165) X0 hx (hb hby own_d1_160) (by decide) (by decide) ?_
                  exact cut165_3 (4 : Int32) (144 : Int32) (143 : Int32) _ _ X0 e0 N0 (by unfold own_H; simp only [Int32.lt_iff_toInt_lt, ← Int32.toInt_inj, Int32.reduceToInt, true_and, and_true] at hc22_32 hc35_33 hc42_49 hc55_50 hc111_51 hc118_52 hc128_53 hc146_54 ⊢; omega)
                · refine ow_icmpYes (q := 155) X0 hx (hb hby own_d1_146) (Jvm.Free.XT.ii_ne_t hc146_54) (by decide) (by decide) ?_
                  refine ow_sipush (q := 158) X0 hx (191 : Int32) (hb hby own_d1_155) rfl rfl ?_
                  refine ow_istore (q := 160) X0 hx (L' := #[rv a0, iv (0 : Int32), iv (4 : Int32), iv v2, iv (4 : Int32), iv (144 : Int32), iv (191 : Int32), .unset, .unset, .unset, .unset]) (hb hby own_d1_158) rfl rfl ?_
                  refine ow_goto (q := 165) X0 hx (hb hby own_d1_160) (by decide) (by decide) ?_
                  exact cut165_3 (4 : Int32) (144 : Int32) (191 : Int32) _ _ X0 e0 N0 (by unfold own_H; simp only [Int32.lt_iff_toInt_lt, ← Int32.toInt_inj, Int32.reduceToInt, true_and, and_true] at hc22_32 hc35_33 hc42_49 hc55_50 hc111_51 hc118_52 hc128_53 hc146_54 ⊢; omega)
              · refine ow_icmpYes (q := 137) X0 hx (hb hby own_d1_128) (Jvm.Free.XT.ii_ne_t hc128_53) (by decide) (by decide) ?_
                refine ow_sipush (q := 140) X0 hx (128 : Int32) (hb hby own_d1_137) rfl rfl ?_
                refine ow_istore (q := 142) X0 hx (L' := #[rv a0, iv (0 : Int32), iv (4 : Int32), iv v2, iv (4 : Int32), iv (128 : Int32), iv (191 : Int32), .unset, .unset, .unset, .unset]) (hb hby own_d1_140) rfl rfl ?_
                refine ow_iloadN (q := 143) X0 hx (hb hby own_d1_142) rfl rfl ?_
                refine ow_sipush (q := 146) X0 hx (244 : Int32) (hb hby own_d1_143) rfl rfl ?_
                by_cases hc146_55 : v2 = (244 : Int32)
                · refine ow_icmpNo (q := 149) X0 hx (hb hby own_d1_146) rfl (Jvm.Free.XT.ii_ne_f hc146_55) ?_
                  refine ow_sipush (q := 152) X0 hx (143 : Int32) (hb hby own_d1_149) rfl rfl ?_
                  refine ow_goto (q := 158) X0 hx (hb hby own_d1_152) (by decide) (by decide) ?_
                  refine ow_istore (q := 160) X0 hx (L' := #[rv a0, iv (0 : Int32), iv (4 : Int32), iv v2, iv (4 : Int32), iv (128 : Int32), iv (143 : Int32), .unset, .unset, .unset, .unset]) (hb hby own_d1_158) rfl rfl ?_
                  refine ow_goto (q := 165) X0 hx (hb hby own_d1_160) (by decide) (by decide) ?_
                  exact cut165_3 (4 : Int32) (128 : Int32) (143 : Int32) _ _ X0 e0 N0 (by unfold own_H; simp only [Int32.lt_iff_toInt_lt, ← Int32.toInt_inj, Int32.reduceToInt, true_and, and_true] at hc22_32 hc35_33 hc42_49 hc55_50 hc111_51 hc118_52 hc128_53 hc146_55 ⊢; omega)
                · refine ow_icmpYes (q := 155) X0 hx (hb hby own_d1_146) (Jvm.Free.XT.ii_ne_t hc146_55) (by decide) (by decide) ?_
                  refine ow_sipush (q := 158) X0 hx (191 : Int32) (hb hby own_d1_155) rfl rfl ?_
                  refine ow_istore (q := 160) X0 hx (L' := #[rv a0, iv (0 : Int32), iv (4 : Int32), iv v2, iv (4 : Int32), iv (128 : Int32), iv (191 : Int32), .unset, .unset, .unset, .unset]) (hb hby own_d1_158) rfl rfl ?_
                  refine ow_goto (q := 165) X0 hx (hb hby own_d1_160) (by decide) (by decide) ?_
                  exact cut165_3 (4 : Int32) (128 : Int32) (191 : Int32) _ _ X0 e0 N0 (by unfold own_H; simp only [Int32.lt_iff_toInt_lt, ← Int32.toInt_inj, Int32.reduceToInt, true_and, and_true] at hc22_32 hc35_33 hc42_49 hc55_50 hc111_51 hc118_52 hc128_53 hc146_55 ⊢; omega)
        · refine ow_icmpNo (q := 58) X0 hx (hb hby own_d1_55) rfl (Jvm.Free.XT.ii_lt_f hc55_50) ?_
          refine ow_iloadN (q := 59) X0 hx (hb hby own_d1_58) rfl rfl ?_
          refine ow_sipush (q := 62) X0 hx (239 : Int32) (hb hby own_d1_59) rfl rfl ?_
          by_cases hc62_56 : (239 : Int32) < v2
          · refine ow_icmpYes (q := 107) X0 hx (hb hby own_d1_62) (Jvm.Free.XT.ii_gt_t hc62_56) (by decide) (by decide) ?_
            refine ow_iloadN (q := 108) X0 hx (hb hby own_d1_107) rfl rfl ?_
            refine ow_sipush (q := 111) X0 hx (240 : Int32) (hb hby own_d1_108) rfl rfl ?_
            by_cases hc111_57 : v2 < (240 : Int32)
            · refine ow_icmpYes (q := 163) X0 hx (hb hby own_d1_111) (Jvm.Free.XT.ii_lt_t hc111_57) (by decide) (by decide) ?_
              refine ow_iconst (q := 164) X0 hx (0 : Int32) (hb hby own_d1_163) rfl rfl ?_
              refine ownRetI X0 hx Bd.returns (hb hby own_d1_164) hlk (by decide) (by decide) ?_
              subst hv_v2 hv_v1
              rw [e0]
              refine ⟨(0 : Int32), rfl, N0, rfl, ?_⟩
              simp only [Int32.lt_iff_toInt_lt, ← Int32.toInt_inj, Int32.reduceToInt] at hc22_32 hc35_33 hc42_49 hc55_50 hc62_56 hc111_57 ⊢
              unfold own_sq
              (repeat' split) <;> omega
            · refine ow_icmpNo (q := 114) X0 hx (hb hby own_d1_111) rfl (Jvm.Free.XT.ii_lt_f hc111_57) ?_
              refine ow_iloadN (q := 115) X0 hx (hb hby own_d1_114) rfl rfl ?_
              refine ow_sipush (q := 118) X0 hx (244 : Int32) (hb hby own_d1_115) rfl rfl ?_
              by_cases hc118_58 : (244 : Int32) < v2
              · refine ow_icmpYes (q := 163) X0 hx (hb hby own_d1_118) (Jvm.Free.XT.ii_gt_t hc118_58) (by decide) (by decide) ?_
                refine ow_iconst (q := 164) X0 hx (0 : Int32) (hb hby own_d1_163) rfl rfl ?_
                refine ownRetI X0 hx Bd.returns (hb hby own_d1_164) hlk (by decide) (by decide) ?_
                subst hv_v2 hv_v1
                rw [e0]
                refine ⟨(0 : Int32), rfl, N0, rfl, ?_⟩
                simp only [Int32.lt_iff_toInt_lt, ← Int32.toInt_inj, Int32.reduceToInt] at hc22_32 hc35_33 hc42_49 hc55_50 hc62_56 hc111_57 hc118_58 ⊢
                unfold own_sq
                (repeat' split) <;> omega
              · refine ow_icmpNo (q := 121) X0 hx (hb hby own_d1_118) rfl (Jvm.Free.XT.ii_gt_f hc118_58) ?_
                refine ow_iconst (q := 122) X0 hx (4 : Int32) (hb hby own_d1_121) rfl rfl ?_
                refine ow_istore (q := 124) X0 hx (L' := #[rv a0, iv (0 : Int32), iv (4 : Int32), iv v2, iv (4 : Int32), iv (128 : Int32), iv (191 : Int32), .unset, .unset, .unset, .unset]) (hb hby own_d1_122) rfl rfl ?_
                refine ow_iloadN (q := 125) X0 hx (hb hby own_d1_124) rfl rfl ?_
                refine ow_sipush (q := 128) X0 hx (240 : Int32) (hb hby own_d1_125) rfl rfl ?_
                by_cases hc128_59 : v2 = (240 : Int32)
                · refine ow_icmpNo (q := 131) X0 hx (hb hby own_d1_128) rfl (Jvm.Free.XT.ii_ne_f hc128_59) ?_
                  refine ow_sipush (q := 134) X0 hx (144 : Int32) (hb hby own_d1_131) rfl rfl ?_
                  refine ow_goto (q := 140) X0 hx (hb hby own_d1_134) (by decide) (by decide) ?_
                  refine ow_istore (q := 142) X0 hx (L' := #[rv a0, iv (0 : Int32), iv (4 : Int32), iv v2, iv (4 : Int32), iv (144 : Int32), iv (191 : Int32), .unset, .unset, .unset, .unset]) (hb hby own_d1_140) rfl rfl ?_
                  refine ow_iloadN (q := 143) X0 hx (hb hby own_d1_142) rfl rfl ?_
                  refine ow_sipush (q := 146) X0 hx (244 : Int32) (hb hby own_d1_143) rfl rfl ?_
                  by_cases hc146_60 : v2 = (244 : Int32)
                  · refine ow_icmpNo (q := 149) X0 hx (hb hby own_d1_146) rfl (Jvm.Free.XT.ii_ne_f hc146_60) ?_
                    refine ow_sipush (q := 152) X0 hx (143 : Int32) (hb hby own_d1_149) rfl rfl ?_
                    refine ow_goto (q := 158) X0 hx (hb hby own_d1_152) (by decide) (by decide) ?_
                    refine ow_istore (q := 160) X0 hx (L' := #[rv a0, iv (0 : Int32), iv (4 : Int32), iv v2, iv (4 : Int32), iv (144 : Int32), iv (143 : Int32), .unset, .unset, .unset, .unset]) (hb hby own_d1_158) rfl rfl ?_
                    refine ow_goto (q := 165) X0 hx (hb hby own_d1_160) (by decide) (by decide) ?_
                    exact cut165_3 (4 : Int32) (144 : Int32) (143 : Int32) _ _ X0 e0 N0 (by unfold own_H; simp only [Int32.lt_iff_toInt_lt, ← Int32.toInt_inj, Int32.reduceToInt, true_and, and_true] at hc22_32 hc35_33 hc42_49 hc55_50 hc62_56 hc111_57 hc118_58 hc128_59 hc146_60 ⊢; omega)
                  · refine ow_icmpYes (q := 155) X0 hx (hb hby own_d1_146) (Jvm.Free.XT.ii_ne_t hc146_60) (by decide) (by decide) ?_
                    refine ow_sipush (q := 158) X0 hx (191 : Int32) (hb hby own_d1_155) rfl rfl ?_
                    refine ow_istore (q := 160) X0 hx (L' := #[rv a0, iv (0 : Int32), iv (4 : Int32), iv v2, iv (4 : Int32), iv (144 : Int32), iv (191 : Int32), .unset, .unset, .unset, .unset]) (hb hby own_d1_158) rfl rfl ?_
                    refine ow_goto (q := 165) X0 hx (hb hby own_d1_160) (by decide) (by decide) ?_
                    exact cut165_3 (4 : Int32) (144 : Int32) (191 : Int32) _ _ X0 e0 N0 (by unfold own_H; simp only [Int32.lt_iff_toInt_lt, ← Int32.toInt_inj, Int32.reduceToInt, true_and, and_true] at hc22_32 hc35_33 hc42_49 hc55_50 hc62_56 hc111_57 hc118_58 hc128_59 hc146_60 ⊢; omega)
                · refine ow_icmpYes (q := 137) X0 hx (hb hby own_d1_128) (Jvm.Free.XT.ii_ne_t hc128_59) (by decide) (by decide) ?_
                  refine ow_sipush (q := 140) X0 hx (128 : Int32) (hb hby own_d1_137) rfl rfl ?_
                  refine ow_istore (q := 142) X0 hx (L' := #[rv a0, iv (0 : Int32), iv (4 : Int32), iv v2, iv (4 : Int32), iv (128 : Int32), iv (191 : Int32), .unset, .unset, .unset, .unset]) (hb hby own_d1_140) rfl rfl ?_
                  refine ow_iloadN (q := 143) X0 hx (hb hby own_d1_142) rfl rfl ?_
                  refine ow_sipush (q := 146) X0 hx (244 : Int32) (hb hby own_d1_143) rfl rfl ?_
                  by_cases hc146_61 : v2 = (244 : Int32)
                  · refine ow_icmpNo (q := 149) X0 hx (hb hby own_d1_146) rfl (Jvm.Free.XT.ii_ne_f hc146_61) ?_
                    refine ow_sipush (q := 152) X0 hx (143 : Int32) (hb hby own_d1_149) rfl rfl ?_
                    refine ow_goto (q := 158) X0 hx (hb hby own_d1_152) (by decide) (by decide) ?_
                    refine ow_istore (q := 160) X0 hx (L' := #[rv a0, iv (0 : Int32), iv (4 : Int32), iv v2, iv (4 : Int32), iv (128 : Int32), iv (143 : Int32), .unset, .unset, .unset, .unset]) (hb hby own_d1_158) rfl rfl ?_
                    refine ow_goto (q := 165) X0 hx (hb hby own_d1_160) (by decide) (by decide) ?_
                    exact cut165_3 (4 : Int32) (128 : Int32) (143 : Int32) _ _ X0 e0 N0 (by unfold own_H; simp only [Int32.lt_iff_toInt_lt, ← Int32.toInt_inj, Int32.reduceToInt, true_and, and_true] at hc22_32 hc35_33 hc42_49 hc55_50 hc62_56 hc111_57 hc118_58 hc128_59 hc146_61 ⊢; omega)
                  · refine ow_icmpYes (q := 155) X0 hx (hb hby own_d1_146) (Jvm.Free.XT.ii_ne_t hc146_61) (by decide) (by decide) ?_
                    refine ow_sipush (q := 158) X0 hx (191 : Int32) (hb hby own_d1_155) rfl rfl ?_
                    refine ow_istore (q := 160) X0 hx (L' := #[rv a0, iv (0 : Int32), iv (4 : Int32), iv v2, iv (4 : Int32), iv (128 : Int32), iv (191 : Int32), .unset, .unset, .unset, .unset]) (hb hby own_d1_158) rfl rfl ?_
                    refine ow_goto (q := 165) X0 hx (hb hby own_d1_160) (by decide) (by decide) ?_
                    exact cut165_3 (4 : Int32) (128 : Int32) (191 : Int32) _ _ X0 e0 N0 (by unfold own_H; simp only [Int32.lt_iff_toInt_lt, ← Int32.toInt_inj, Int32.reduceToInt, true_and, and_true] at hc22_32 hc35_33 hc42_49 hc55_50 hc62_56 hc111_57 hc118_58 hc128_59 hc146_61 ⊢; omega)
          · refine ow_icmpNo (q := 65) X0 hx (hb hby own_d1_62) rfl (Jvm.Free.XT.ii_gt_f hc62_56) ?_
            refine ow_iconst (q := 66) X0 hx (3 : Int32) (hb hby own_d1_65) rfl rfl ?_
            refine ow_istore (q := 68) X0 hx (L' := #[rv a0, iv (0 : Int32), iv (4 : Int32), iv v2, iv (3 : Int32), iv (128 : Int32), iv (191 : Int32), .unset, .unset, .unset, .unset]) (hb hby own_d1_66) rfl rfl ?_
            refine ow_iloadN (q := 69) X0 hx (hb hby own_d1_68) rfl rfl ?_
            refine ow_sipush (q := 72) X0 hx (224 : Int32) (hb hby own_d1_69) rfl rfl ?_
            by_cases hc72_62 : v2 = (224 : Int32)
            · refine ow_icmpNo (q := 75) X0 hx (hb hby own_d1_72) rfl (Jvm.Free.XT.ii_ne_f hc72_62) ?_
              refine ow_sipush (q := 78) X0 hx (160 : Int32) (hb hby own_d1_75) rfl rfl ?_
              refine ow_goto (q := 84) X0 hx (hb hby own_d1_78) (by decide) (by decide) ?_
              refine ow_istore (q := 86) X0 hx (L' := #[rv a0, iv (0 : Int32), iv (4 : Int32), iv v2, iv (3 : Int32), iv (160 : Int32), iv (191 : Int32), .unset, .unset, .unset, .unset]) (hb hby own_d1_84) rfl rfl ?_
              refine ow_iloadN (q := 87) X0 hx (hb hby own_d1_86) rfl rfl ?_
              refine ow_sipush (q := 90) X0 hx (237 : Int32) (hb hby own_d1_87) rfl rfl ?_
              by_cases hc90_63 : v2 = (237 : Int32)
              · refine ow_icmpNo (q := 93) X0 hx (hb hby own_d1_90) rfl (Jvm.Free.XT.ii_ne_f hc90_63) ?_
                refine ow_sipush (q := 96) X0 hx (159 : Int32) (hb hby own_d1_93) rfl rfl ?_
                refine ow_goto (q := 102) X0 hx (hb hby own_d1_96) (by decide) (by decide) ?_
                refine ow_istore (q := 104) X0 hx (L' := #[rv a0, iv (0 : Int32), iv (4 : Int32), iv v2, iv (3 : Int32), iv (160 : Int32), iv (159 : Int32), .unset, .unset, .unset, .unset]) (hb hby own_d1_102) rfl rfl ?_
                refine ow_goto (q := 165) X0 hx (hb hby own_d1_104) (by decide) (by decide) ?_
                exact cut165_3 (3 : Int32) (160 : Int32) (159 : Int32) _ _ X0 e0 N0 (by unfold own_H; simp only [Int32.lt_iff_toInt_lt, ← Int32.toInt_inj, Int32.reduceToInt, true_and, and_true] at hc22_32 hc35_33 hc42_49 hc55_50 hc62_56 hc72_62 hc90_63 ⊢; omega)
              · refine ow_icmpYes (q := 99) X0 hx (hb hby own_d1_90) (Jvm.Free.XT.ii_ne_t hc90_63) (by decide) (by decide) ?_
                refine ow_sipush (q := 102) X0 hx (191 : Int32) (hb hby own_d1_99) rfl rfl ?_
                refine ow_istore (q := 104) X0 hx (L' := #[rv a0, iv (0 : Int32), iv (4 : Int32), iv v2, iv (3 : Int32), iv (160 : Int32), iv (191 : Int32), .unset, .unset, .unset, .unset]) (hb hby own_d1_102) rfl rfl ?_
                refine ow_goto (q := 165) X0 hx (hb hby own_d1_104) (by decide) (by decide) ?_
                exact cut165_3 (3 : Int32) (160 : Int32) (191 : Int32) _ _ X0 e0 N0 (by unfold own_H; simp only [Int32.lt_iff_toInt_lt, ← Int32.toInt_inj, Int32.reduceToInt, true_and, and_true] at hc22_32 hc35_33 hc42_49 hc55_50 hc62_56 hc72_62 hc90_63 ⊢; omega)
            · refine ow_icmpYes (q := 81) X0 hx (hb hby own_d1_72) (Jvm.Free.XT.ii_ne_t hc72_62) (by decide) (by decide) ?_
              refine ow_sipush (q := 84) X0 hx (128 : Int32) (hb hby own_d1_81) rfl rfl ?_
              refine ow_istore (q := 86) X0 hx (L' := #[rv a0, iv (0 : Int32), iv (4 : Int32), iv v2, iv (3 : Int32), iv (128 : Int32), iv (191 : Int32), .unset, .unset, .unset, .unset]) (hb hby own_d1_84) rfl rfl ?_
              refine ow_iloadN (q := 87) X0 hx (hb hby own_d1_86) rfl rfl ?_
              refine ow_sipush (q := 90) X0 hx (237 : Int32) (hb hby own_d1_87) rfl rfl ?_
              by_cases hc90_64 : v2 = (237 : Int32)
              · refine ow_icmpNo (q := 93) X0 hx (hb hby own_d1_90) rfl (Jvm.Free.XT.ii_ne_f hc90_64) ?_
                refine ow_sipush (q := 96) X0 hx (159 : Int32) (hb hby own_d1_93) rfl rfl ?_
                refine ow_goto (q := 102) X0 hx (hb hby own_d1_96) (by decide) (by decide) ?_
                refine ow_istore (q := 104) X0 hx (L' := #[rv a0, iv (0 : Int32), iv (4 : Int32), iv v2, iv (3 : Int32), iv (128 : Int32), iv (159 : Int32), .unset, .unset, .unset, .unset]) (hb hby own_d1_102) rfl rfl ?_
                refine ow_goto (q := 165) X0 hx (hb hby own_d1_104) (by decide) (by decide) ?_
                exact cut165_3 (3 : Int32) (128 : Int32) (159 : Int32) _ _ X0 e0 N0 (by unfold own_H; simp only [Int32.lt_iff_toInt_lt, ← Int32.toInt_inj, Int32.reduceToInt, true_and, and_true] at hc22_32 hc35_33 hc42_49 hc55_50 hc62_56 hc72_62 hc90_64 ⊢; omega)
              · refine ow_icmpYes (q := 99) X0 hx (hb hby own_d1_90) (Jvm.Free.XT.ii_ne_t hc90_64) (by decide) (by decide) ?_
                refine ow_sipush (q := 102) X0 hx (191 : Int32) (hb hby own_d1_99) rfl rfl ?_
                refine ow_istore (q := 104) X0 hx (L' := #[rv a0, iv (0 : Int32), iv (4 : Int32), iv v2, iv (3 : Int32), iv (128 : Int32), iv (191 : Int32), .unset, .unset, .unset, .unset]) (hb hby own_d1_102) rfl rfl ?_
                refine ow_goto (q := 165) X0 hx (hb hby own_d1_104) (by decide) (by decide) ?_
                exact cut165_3 (3 : Int32) (128 : Int32) (191 : Int32) _ _ X0 e0 N0 (by unfold own_H; simp only [Int32.lt_iff_toInt_lt, ← Int32.toInt_inj, Int32.reduceToInt, true_and, and_true] at hc22_32 hc35_33 hc42_49 hc55_50 hc62_56 hc72_62 hc90_64 ⊢; omega)
      · refine ow_icmpNo (q := 45) X0 hx (hb hby own_d1_42) rfl (Jvm.Free.XT.ii_gt_f hc42_49) ?_
        refine ow_iconst (q := 46) X0 hx (2 : Int32) (hb hby own_d1_45) rfl rfl ?_
        refine ow_istore (q := 48) X0 hx (L' := #[rv a0, iv (0 : Int32), iv (4 : Int32), iv v2, iv (2 : Int32), iv (128 : Int32), iv (191 : Int32), .unset, .unset, .unset, .unset]) (hb hby own_d1_46) rfl rfl ?_
        refine ow_goto (q := 165) X0 hx (hb hby own_d1_48) (by decide) (by decide) ?_
        exact cut165_3 (2 : Int32) (128 : Int32) (191 : Int32) _ _ X0 e0 N0 (by unfold own_H; simp only [Int32.lt_iff_toInt_lt, ← Int32.toInt_inj, Int32.reduceToInt, true_and, and_true] at hc22_32 hc35_33 hc42_49 ⊢; omega)
theorem own_ef1_seq_1_1 (m : MethodId) (a0 : Addr) : entryFrame m #[(.ref a0), (.int (1 : Int32)), (.int (2 : Int32))] 11 = mkF m 0 #[rv a0, iv (1 : Int32), iv (2 : Int32), .unset, .unset, .unset, .unset, .unset, .unset, .unset, .unset] [] := by first | (simp [entryFrame, mkF, argsToLocals, Value.category]; done) | rfl
def Q_seq_1_1 (Z : State) (a0 : Addr) (g : Nat → Int32) (h0 : Heap) (n0 : Nat) (v : Option Value) (h : Heap) (L : List Loc) : Prop := ∃ (r : Int32), v = some (.int r) ∧ Fr n0 L ∧ h = h0 ∧ (r.toInt = own_sq ((g 1) &&& (255 : Int32)).toInt ((g 2) &&& (255 : Int32)).toInt ((g 3) &&& (255 : Int32)).toInt ((g 4) &&& (255 : Int32)).toInt 1)
set_option maxRecDepth 65536 in
set_option maxHeartbeats 40000000 in
theorem rm_seq_1_1 (l : Launch) (Z : State) (av0 : Array Value) (hw : ∀ d ∈ tables_1, d.before av0 Z = true) (ws : List Jvm.Cond) (a0 : Addr) (g : Nat → Int32) (h0 : Heap) (n0 : Nat) (Z0 : n0 ≤ h0.size) (HF0 : ownAI Z h0 a0 .byte 5 g) :
    MetFree l (⟨"com/example/descend/descend/XmlChars", "sequenceLength", "([BII)I"⟩ : MethodName) (head1 (Jvm.Cond.code (⟨"com/example/descend/descend/XmlChars", "sequenceLength", "([BII)I"⟩ : MethodName) prog_24_method_14_code 11 (some .int) :: ws) ({ frames := 0, cells := 0, slots := 0, locals := 0 } : Room)) (fun a U => a = #[(.ref a0), (.int (1 : Int32)), (.int (2 : Int32))] ∧ Z.Warmed39 U.vm ∧ U.heap = h0) (fun _ _ _ _ _ => True) (fun _ U o U' => ∃ v L, o = .returned v ∧ (Q_seq_1_1 Z a0 g h0 n0) v U'.heap L ∧ FrameEnd U o U' L ({ frames := 0, cells := 0, slots := 0, locals := 0 } : Room).cells ({ frames := 0, cells := 0, slots := 0, locals := 0 } : Room).slots) := by
  refine MetFree.of_bodySF (plainFor_of_name own_pn_XmlChars) hisR ?_
  intro p e s m args below meth c s₁ Bd hml0 hP hK
  obtain ⟨rfl, hZ, hh⟩ := hP
  have hx := Bd.exec
  have hby := Bd.bytes
  have hml : c.maxLocals = 11 := hml0
  have hown : s.vm.findClass "com/example/descend/descend/XmlChars" = some m.cls := findClass_of_methodNamed Bd.named
  have hnm := (name_of_methodNamed Bd.named Bd.method).1
  have hlk : meth.locks = false := BodyLoose.notSynchronized Bd
  have X0 : Stand p l e ({ frames := 0, cells := 0, slots := 0, locals := 0 } : Room) s m #[(.ref a0), (.int (1 : Int32)), (.int (2 : Int32))] below meth c s₁ [] 0 0 := Stand.of_body Bd
  have e0 : s₁.heap = h0 := by rw [← hh, Bd.state]; rfl
  have N0 := Fr.nil n0
  have K0 : Keep h0 h0 [] := Keep.refl _ _
  show ownEnds p e below s (Q_seq_1_1 Z a0 g h0 n0) ({ frames := 0, cells := 0, slots := 0, locals := 0 } : Room).cells ({ frames := 0, cells := 0, slots := 0, locals := 0 } : Room).slots s₁ (entryFrame m #[(.ref a0), (.int (1 : Int32)), (.int (2 : Int32))] 11)
  refine ownCast (own_ef1_seq_1_1 m a0) ?_
  refine ow_aloadN (q := 1) X0 hx (hb hby own_d1_0) rfl rfl rfl ?_
  refine ow_iloadN (q := 2) X0 hx (hb hby own_d1_1) rfl rfl ?_
  refine ownGo (T' := s₁) (f' := (mkF m 3 #[rv a0, iv (1 : Int32), iv (2 : Int32), .unset, .unset, .unset, .unset, .unset, .unset, .unset, .unset] [(.int (g 1))])) (ownBaload HF0 X0 hx hZ e0 (j := (1 : Int32)) (by unfold ownIn; decide) (g := (mkF m 2 #[rv a0, iv (1 : Int32), iv (2 : Int32), .unset, .unset, .unset, .unset, .unset, .unset, .unset, .unset] [(.int (1 : Int32)), (.ref a0)])) rfl rfl (hb hby own_d1_2)) ?_
  generalize hv_v1 : (g 1) = v1
  refine ow_sipush (q := 6) X0 hx (255 : Int32) (hb hby own_d1_3) rfl rfl ?_
  refine ow_iand (q := 7) X0 hx _ (hb hby own_d1_6) rfl rfl ?_
  generalize hv_v2 : (v1 &&& (255 : Int32)) = v2
  refine ow_istoreN (q := 8) X0 hx (L' := #[rv a0, iv (1 : Int32), iv (2 : Int32), iv v2, .unset, .unset, .unset, .unset, .unset, .unset, .unset]) (hb hby own_d1_7) rfl rfl ?_
  refine ow_sipush (q := 11) X0 hx (128 : Int32) (hb hby own_d1_8) rfl rfl ?_
  refine ow_istore (q := 13) X0 hx (L' := #[rv a0, iv (1 : Int32), iv (2 : Int32), iv v2, .unset, iv (128 : Int32), .unset, .unset, .unset, .unset, .unset]) (hb hby own_d1_11) rfl rfl ?_
  refine ow_sipush (q := 16) X0 hx (191 : Int32) (hb hby own_d1_13) rfl rfl ?_
  refine ow_istore (q := 18) X0 hx (L' := #[rv a0, iv (1 : Int32), iv (2 : Int32), iv v2, .unset, iv (128 : Int32), iv (191 : Int32), .unset, .unset, .unset, .unset]) (hb hby own_d1_16) rfl rfl ?_
  have cut165_3 : ∀ (ln : Int32) (lo : Int32) (hi : Int32) (Tc3 : State) (lc3 : List Loc), Stand p l e ({ frames := 0, cells := 0, slots := 0, locals := 0 } : Room) s m #[(.ref a0), (.int (1 : Int32)), (.int (2 : Int32))] below meth c Tc3 lc3 0 0 → Tc3.heap = h0 → Fr n0 lc3 → (own_H v2.toInt ln.toInt lo.toInt hi.toInt) → ownEnds p e below s (Q_seq_1_1 Z a0 g h0 n0) ({ frames := 0, cells := 0, slots := 0, locals := 0 } : Room).cells ({ frames := 0, cells := 0, slots := 0, locals := 0 } : Room).slots Tc3 (mkF m 165 #[rv a0, iv (1 : Int32), iv (2 : Int32), iv v2, iv ln, iv lo, iv hi, .unset, .unset, .unset, .unset] []) := by
    intro ln lo hi Tc3 lc3 Xc3 ec3 Nc3 hH
    refine ow_iloadN (q := 166) Xc3 hx (hb hby own_d1_165) rfl rfl ?_
    rcases own_Hln hH with hs4 | hs5 | hs6 | hs7
    · subst hs4
      refine ow_iload (q := 168) Xc3 hx (hb hby own_d1_166) rfl rfl ?_
      refine ow_iadd (q := 169) Xc3 hx (2 : Int32) (hb hby own_d1_168) rfl (by decide) ?_
      refine ow_iloadN (q := 170) Xc3 hx (hb hby own_d1_169) rfl rfl ?_
      refine ow_icmpYes (q := 175) Xc3 hx (hb hby own_d1_170) (Jvm.Free.XT.ii_le_t (by decide)) (by decide) (by decide) ?_
      refine ow_iconst (q := 176) Xc3 hx (1 : Int32) (hb hby own_d1_175) rfl rfl ?_
      refine ow_istore (q := 178) Xc3 hx (L' := #[rv a0, iv (1 : Int32), iv (2 : Int32), iv v2, iv (1 : Int32), iv lo, iv hi, iv (1 : Int32), .unset, .unset, .unset]) (hb hby own_d1_176) rfl rfl ?_
      refine ow_iload (q := 180) Xc3 hx (hb hby own_d1_178) rfl rfl ?_
      refine ow_iload (q := 182) Xc3 hx (hb hby own_d1_180) rfl rfl ?_
      refine ow_icmpYes (q := 251) Xc3 hx (hb hby own_d1_182) (Jvm.Free.XT.ii_ge_t (by decide)) (by decide) (by decide) ?_
      refine ow_iload (q := 253) Xc3 hx (hb hby own_d1_251) rfl rfl ?_
      refine ownRetI Xc3 hx Bd.returns (hb hby own_d1_253) hlk (by decide) (by decide) ?_
      subst hv_v2 hv_v1
      rw [ec3]
      refine ⟨(1 : Int32), rfl, Nc3, rfl, ?_⟩
      unfold own_H at hH
      simp only [Int32.lt_iff_toInt_lt, ← Int32.toInt_inj, Int32.reduceToInt] at  hH ⊢
      unfold own_sq
      (repeat' split) <;> omega
    · subst hs5
      refine ow_iload (q := 168) Xc3 hx (hb hby own_d1_166) rfl rfl ?_
      refine ow_iadd (q := 169) Xc3 hx (3 : Int32) (hb hby own_d1_168) rfl (by decide) ?_
      refine ow_iloadN (q := 170) Xc3 hx (hb hby own_d1_169) rfl rfl ?_
      refine ow_icmpNo (q := 173) Xc3 hx (hb hby own_d1_170) rfl (Jvm.Free.XT.ii_le_f (by decide)) ?_
      refine ow_iconst (q := 174) Xc3 hx (0 : Int32) (hb hby own_d1_173) rfl rfl ?_
      refine ownRetI Xc3 hx Bd.returns (hb hby own_d1_174) hlk (by decide) (by decide) ?_
      subst hv_v2 hv_v1
      rw [ec3]
      refine ⟨(0 : Int32), rfl, Nc3, rfl, ?_⟩
      unfold own_H at hH
      simp only [Int32.lt_iff_toInt_lt, ← Int32.toInt_inj, Int32.reduceToInt] at  hH ⊢
      unfold own_sq
      (repeat' split) <;> omega
    · subst hs6
      refine ow_iload (q := 168) Xc3 hx (hb hby own_d1_166) rfl rfl ?_
      refine ow_iadd (q := 169) Xc3 hx (4 : Int32) (hb hby own_d1_168) rfl (by decide) ?_
      refine ow_iloadN (q := 170) Xc3 hx (hb hby own_d1_169) rfl rfl ?_
      refine ow_icmpNo (q := 173) Xc3 hx (hb hby own_d1_170) rfl (Jvm.Free.XT.ii_le_f (by decide)) ?_
      refine ow_iconst (q := 174) Xc3 hx (0 : Int32) (hb hby own_d1_173) rfl rfl ?_
      refine ownRetI Xc3 hx Bd.returns (hb hby own_d1_174) hlk (by decide) (by decide) ?_
      subst hv_v2 hv_v1
      rw [ec3]
      refine ⟨(0 : Int32), rfl, Nc3, rfl, ?_⟩
      unfold own_H at hH
      simp only [Int32.lt_iff_toInt_lt, ← Int32.toInt_inj, Int32.reduceToInt] at  hH ⊢
      unfold own_sq
      (repeat' split) <;> omega
    · subst hs7
      refine ow_iload (q := 168) Xc3 hx (hb hby own_d1_166) rfl rfl ?_
      refine ow_iadd (q := 169) Xc3 hx (5 : Int32) (hb hby own_d1_168) rfl (by decide) ?_
      refine ow_iloadN (q := 170) Xc3 hx (hb hby own_d1_169) rfl rfl ?_
      refine ow_icmpNo (q := 173) Xc3 hx (hb hby own_d1_170) rfl (Jvm.Free.XT.ii_le_f (by decide)) ?_
      refine ow_iconst (q := 174) Xc3 hx (0 : Int32) (hb hby own_d1_173) rfl rfl ?_
      refine ownRetI Xc3 hx Bd.returns (hb hby own_d1_174) hlk (by decide) (by decide) ?_
      subst hv_v2 hv_v1
      rw [ec3]
      refine ⟨(0 : Int32), rfl, Nc3, rfl, ?_⟩
      unfold own_H at hH
      simp only [Int32.lt_iff_toInt_lt, ← Int32.toInt_inj, Int32.reduceToInt] at  hH ⊢
      unfold own_sq
      (repeat' split) <;> omega
  refine ow_iloadN (q := 19) X0 hx (hb hby own_d1_18) rfl rfl ?_
  refine ow_sipush (q := 22) X0 hx (128 : Int32) (hb hby own_d1_19) rfl rfl ?_
  by_cases hc22_8 : v2 < (128 : Int32)
  · refine ow_icmpNo (q := 25) X0 hx (hb hby own_d1_22) rfl (Jvm.Free.XT.ii_ge_f hc22_8) ?_
    refine ow_iconst (q := 26) X0 hx (1 : Int32) (hb hby own_d1_25) rfl rfl ?_
    refine ow_istore (q := 28) X0 hx (L' := #[rv a0, iv (1 : Int32), iv (2 : Int32), iv v2, iv (1 : Int32), iv (128 : Int32), iv (191 : Int32), .unset, .unset, .unset, .unset]) (hb hby own_d1_26) rfl rfl ?_
    refine ow_goto (q := 165) X0 hx (hb hby own_d1_28) (by decide) (by decide) ?_
    exact cut165_3 (1 : Int32) (128 : Int32) (191 : Int32) _ _ X0 e0 N0 (by unfold own_H; simp only [Int32.lt_iff_toInt_lt, ← Int32.toInt_inj, Int32.reduceToInt, true_and, and_true] at hc22_8 ⊢; omega)
  · refine ow_icmpYes (q := 31) X0 hx (hb hby own_d1_22) (Jvm.Free.XT.ii_ge_t hc22_8) (by decide) (by decide) ?_
    refine ow_iloadN (q := 32) X0 hx (hb hby own_d1_31) rfl rfl ?_
    refine ow_sipush (q := 35) X0 hx (194 : Int32) (hb hby own_d1_32) rfl rfl ?_
    by_cases hc35_9 : v2 < (194 : Int32)
    · refine ow_icmpYes (q := 51) X0 hx (hb hby own_d1_35) (Jvm.Free.XT.ii_lt_t hc35_9) (by decide) (by decide) ?_
      refine ow_iloadN (q := 52) X0 hx (hb hby own_d1_51) rfl rfl ?_
      refine ow_sipush (q := 55) X0 hx (224 : Int32) (hb hby own_d1_52) rfl rfl ?_
      by_cases hc55_10 : v2 < (224 : Int32)
      · refine ow_icmpYes (q := 107) X0 hx (hb hby own_d1_55) (Jvm.Free.XT.ii_lt_t hc55_10) (by decide) (by decide) ?_
        refine ow_iloadN (q := 108) X0 hx (hb hby own_d1_107) rfl rfl ?_
        refine ow_sipush (q := 111) X0 hx (240 : Int32) (hb hby own_d1_108) rfl rfl ?_
        by_cases hc111_11 : v2 < (240 : Int32)
        · refine ow_icmpYes (q := 163) X0 hx (hb hby own_d1_111) (Jvm.Free.XT.ii_lt_t hc111_11) (by decide) (by decide) ?_
          refine ow_iconst (q := 164) X0 hx (0 : Int32) (hb hby own_d1_163) rfl rfl ?_
          refine ownRetI X0 hx Bd.returns (hb hby own_d1_164) hlk (by decide) (by decide) ?_
          subst hv_v2 hv_v1
          rw [e0]
          refine ⟨(0 : Int32), rfl, N0, rfl, ?_⟩
          simp only [Int32.lt_iff_toInt_lt, ← Int32.toInt_inj, Int32.reduceToInt] at hc22_8 hc35_9 hc55_10 hc111_11 ⊢
          unfold own_sq
          (repeat' split) <;> omega
        · refine ow_icmpNo (q := 114) X0 hx (hb hby own_d1_111) rfl (Jvm.Free.XT.ii_lt_f hc111_11) ?_
          refine ow_iloadN (q := 115) X0 hx (hb hby own_d1_114) rfl rfl ?_
          refine ow_sipush (q := 118) X0 hx (244 : Int32) (hb hby own_d1_115) rfl rfl ?_
          by_cases hc118_12 : (244 : Int32) < v2
          · refine ow_icmpYes (q := 163) X0 hx (hb hby own_d1_118) (Jvm.Free.XT.ii_gt_t hc118_12) (by decide) (by decide) ?_
            refine ow_iconst (q := 164) X0 hx (0 : Int32) (hb hby own_d1_163) rfl rfl ?_
            refine ownRetI X0 hx Bd.returns (hb hby own_d1_164) hlk (by decide) (by decide) ?_
            subst hv_v2 hv_v1
            rw [e0]
            refine ⟨(0 : Int32), rfl, N0, rfl, ?_⟩
            simp only [Int32.lt_iff_toInt_lt, ← Int32.toInt_inj, Int32.reduceToInt] at hc22_8 hc35_9 hc55_10 hc111_11 hc118_12 ⊢
            unfold own_sq
            (repeat' split) <;> omega
          · refine ow_icmpNo (q := 121) X0 hx (hb hby own_d1_118) rfl (Jvm.Free.XT.ii_gt_f hc118_12) ?_
            refine ow_iconst (q := 122) X0 hx (4 : Int32) (hb hby own_d1_121) rfl rfl ?_
            refine ow_istore (q := 124) X0 hx (L' := #[rv a0, iv (1 : Int32), iv (2 : Int32), iv v2, iv (4 : Int32), iv (128 : Int32), iv (191 : Int32), .unset, .unset, .unset, .unset]) (hb hby own_d1_122) rfl rfl ?_
            refine ow_iloadN (q := 125) X0 hx (hb hby own_d1_124) rfl rfl ?_
            refine ow_sipush (q := 128) X0 hx (240 : Int32) (hb hby own_d1_125) rfl rfl ?_
            by_cases hc128_13 : v2 = (240 : Int32)
            · refine ow_icmpNo (q := 131) X0 hx (hb hby own_d1_128) rfl (Jvm.Free.XT.ii_ne_f hc128_13) ?_
              refine ow_sipush (q := 134) X0 hx (144 : Int32) (hb hby own_d1_131) rfl rfl ?_
              refine ow_goto (q := 140) X0 hx (hb hby own_d1_134) (by decide) (by decide) ?_
              refine ow_istore (q := 142) X0 hx (L' := #[rv a0, iv (1 : Int32), iv (2 : Int32), iv v2, iv (4 : Int32), iv (144 : Int32), iv (191 : Int32), .unset, .unset, .unset, .unset]) (hb hby own_d1_140) rfl rfl ?_
              refine ow_iloadN (q := 143) X0 hx (hb hby own_d1_142) rfl rfl ?_
              refine ow_sipush (q := 146) X0 hx (244 : Int32) (hb hby own_d1_143) rfl rfl ?_
              by_cases hc146_14 : v2 = (244 : Int32)
              · refine ow_icmpNo (q := 149) X0 hx (hb hby own_d1_146) rfl (Jvm.Free.XT.ii_ne_f hc146_14) ?_
                refine ow_sipush (q := 152) X0 hx (143 : Int32) (hb hby own_d1_149) rfl rfl ?_
                refine ow_goto (q := 158) X0 hx (hb hby own_d1_152) (by decide) (by decide) ?_
                refine ow_istore (q := 160) X0 hx (L' := #[rv a0, iv (1 : Int32), iv (2 : Int32), iv v2, iv (4 : Int32), iv (144 : Int32), iv (143 : Int32), .unset, .unset, .unset, .unset]) (hb hby own_d1_158) rfl rfl ?_
                refine ow_goto (q := 165) X0 hx (hb hby own_d1_160) (by decide) (by decide) ?_
                exact cut165_3 (4 : Int32) (144 : Int32) (143 : Int32) _ _ X0 e0 N0 (by unfold own_H; simp only [Int32.lt_iff_toInt_lt, ← Int32.toInt_inj, Int32.reduceToInt, true_and, and_true] at hc22_8 hc35_9 hc55_10 hc111_11 hc118_12 hc128_13 hc146_14 ⊢; omega)
              · refine ow_icmpYes (q := 155) X0 hx (hb hby own_d1_146) (Jvm.Free.XT.ii_ne_t hc146_14) (by decide) (by decide) ?_
                refine ow_sipush (q := 158) X0 hx (191 : Int32) (hb hby own_d1_155) rfl rfl ?_
                refine ow_istore (q := 160) X0 hx (L' := #[rv a0, iv (1 : Int32), iv (2 : Int32), iv v2, iv (4 : Int32), iv (144 : Int32), iv (191 : Int32), .unset, .unset, .unset, .unset]) (hb hby own_d1_158) rfl rfl ?_
                refine ow_goto (q := 165) X0 hx (hb hby own_d1_160) (by decide) (by decide) ?_
                exact cut165_3 (4 : Int32) (144 : Int32) (191 : Int32) _ _ X0 e0 N0 (by unfold own_H; simp only [Int32.lt_iff_toInt_lt, ← Int32.toInt_inj, Int32.reduceToInt, true_and, and_true] at hc22_8 hc35_9 hc55_10 hc111_11 hc118_12 hc128_13 hc146_14 ⊢; omega)
            · refine ow_icmpYes (q := 137) X0 hx (hb hby own_d1_128) (Jvm.Free.XT.ii_ne_t hc128_13) (by decide) (by decide) ?_
              refine ow_sipush (q := 140) X0 hx (128 : Int32) (hb hby own_d1_137) rfl rfl ?_
              refine ow_istore (q := 142) X0 hx (L' := #[rv a0, iv (1 : Int32), iv (2 : Int32), iv v2, iv (4 : Int32), iv (128 : Int32), iv (191 : Int32), .unset, .unset, .unset, .unset]) (hb hby own_d1_140) rfl rfl ?_
              refine ow_iloadN (q := 143) X0 hx (hb hby own_d1_142) rfl rfl ?_
              refine ow_sipush (q := 146) X0 hx (244 : Int32) (hb hby own_d1_143) rfl rfl ?_
              by_cases hc146_15 : v2 = (244 : Int32)
              · refine ow_icmpNo (q := 149) X0 hx (hb hby own_d1_146) rfl (Jvm.Free.XT.ii_ne_f hc146_15) ?_
                refine ow_sipush (q := 152) X0 hx (143 : Int32) (hb hby own_d1_149) rfl rfl ?_
                refine ow_goto (q := 158) X0 hx (hb hby own_d1_152) (by decide) (by decide) ?_
                refine ow_istore (q := 160) X0 hx (L' := #[rv a0, iv (1 : Int32), iv (2 : Int32), iv v2, iv (4 : Int32), iv (128 : Int32), iv (143 : Int32), .unset, .unset, .unset, .unset]) (hb hby own_d1_158) rfl rfl ?_
                refine ow_goto (q := 165) X0 hx (hb hby own_d1_160) (by decide) (by decide) ?_
                exact cut165_3 (4 : Int32) (128 : Int32) (143 : Int32) _ _ X0 e0 N0 (by unfold own_H; simp only [Int32.lt_iff_toInt_lt, ← Int32.toInt_inj, Int32.reduceToInt, true_and, and_true] at hc22_8 hc35_9 hc55_10 hc111_11 hc118_12 hc128_13 hc146_15 ⊢; omega)
              · refine ow_icmpYes (q := 155) X0 hx (hb hby own_d1_146) (Jvm.Free.XT.ii_ne_t hc146_15) (by decide) (by decide) ?_
                refine ow_sipush (q := 158) X0 hx (191 : Int32) (hb hby own_d1_155) rfl rfl ?_
                refine ow_istore (q := 160) X0 hx (L' := #[rv a0, iv (1 : Int32), iv (2 : Int32), iv v2, iv (4 : Int32), iv (128 : Int32), iv (191 : Int32), .unset, .unset, .unset, .unset]) (hb hby own_d1_158) rfl rfl ?_
                refine ow_goto (q := 165) X0 hx (hb hby own_d1_160) (by decide) (by decide) ?_
                exact cut165_3 (4 : Int32) (128 : Int32) (191 : Int32) _ _ X0 e0 N0 (by unfold own_H; simp only [Int32.lt_iff_toInt_lt, ← Int32.toInt_inj, Int32.reduceToInt, true_and, and_true] at hc22_8 hc35_9 hc55_10 hc111_11 hc118_12 hc128_13 hc146_15 ⊢; omega)
      · refine ow_icmpNo (q := 58) X0 hx (hb hby own_d1_55) rfl (Jvm.Free.XT.ii_lt_f hc55_10) ?_
        refine ow_iloadN (q := 59) X0 hx (hb hby own_d1_58) rfl rfl ?_
        refine ow_sipush (q := 62) X0 hx (239 : Int32) (hb hby own_d1_59) rfl rfl ?_
        by_cases hc62_16 : (239 : Int32) < v2
        · refine ow_icmpYes (q := 107) X0 hx (hb hby own_d1_62) (Jvm.Free.XT.ii_gt_t hc62_16) (by decide) (by decide) ?_
          refine ow_iloadN (q := 108) X0 hx (hb hby own_d1_107) rfl rfl ?_
          refine ow_sipush (q := 111) X0 hx (240 : Int32) (hb hby own_d1_108) rfl rfl ?_
          by_cases hc111_17 : v2 < (240 : Int32)
          · refine ow_icmpYes (q := 163) X0 hx (hb hby own_d1_111) (Jvm.Free.XT.ii_lt_t hc111_17) (by decide) (by decide) ?_
            refine ow_iconst (q := 164) X0 hx (0 : Int32) (hb hby own_d1_163) rfl rfl ?_
            refine ownRetI X0 hx Bd.returns (hb hby own_d1_164) hlk (by decide) (by decide) ?_
            subst hv_v2 hv_v1
            rw [e0]
            refine ⟨(0 : Int32), rfl, N0, rfl, ?_⟩
            simp only [Int32.lt_iff_toInt_lt, ← Int32.toInt_inj, Int32.reduceToInt] at hc22_8 hc35_9 hc55_10 hc62_16 hc111_17 ⊢
            unfold own_sq
            (repeat' split) <;> omega
          · refine ow_icmpNo (q := 114) X0 hx (hb hby own_d1_111) rfl (Jvm.Free.XT.ii_lt_f hc111_17) ?_
            refine ow_iloadN (q := 115) X0 hx (hb hby own_d1_114) rfl rfl ?_
            refine ow_sipush (q := 118) X0 hx (244 : Int32) (hb hby own_d1_115) rfl rfl ?_
            by_cases hc118_18 : (244 : Int32) < v2
            · refine ow_icmpYes (q := 163) X0 hx (hb hby own_d1_118) (Jvm.Free.XT.ii_gt_t hc118_18) (by decide) (by decide) ?_
              refine ow_iconst (q := 164) X0 hx (0 : Int32) (hb hby own_d1_163) rfl rfl ?_
              refine ownRetI X0 hx Bd.returns (hb hby own_d1_164) hlk (by decide) (by decide) ?_
              subst hv_v2 hv_v1
              rw [e0]
              refine ⟨(0 : Int32), rfl, N0, rfl, ?_⟩
              simp only [Int32.lt_iff_toInt_lt, ← Int32.toInt_inj, Int32.reduceToInt] at hc22_8 hc35_9 hc55_10 hc62_16 hc111_17 hc118_18 ⊢
              unfold own_sq
              (repeat' split) <;> omega
            · refine ow_icmpNo (q := 121) X0 hx (hb hby own_d1_118) rfl (Jvm.Free.XT.ii_gt_f hc118_18) ?_
              refine ow_iconst (q := 122) X0 hx (4 : Int32) (hb hby own_d1_121) rfl rfl ?_
              refine ow_istore (q := 124) X0 hx (L' := #[rv a0, iv (1 : Int32), iv (2 : Int32), iv v2, iv (4 : Int32), iv (128 : Int32), iv (191 : Int32), .unset, .unset, .unset, .unset]) (hb hby own_d1_122) rfl rfl ?_
              refine ow_iloadN (q := 125) X0 hx (hb hby own_d1_124) rfl rfl ?_
              refine ow_sipush (q := 128) X0 hx (240 : Int32) (hb hby own_d1_125) rfl rfl ?_
              by_cases hc128_19 : v2 = (240 : Int32)
              · refine ow_icmpNo (q := 131) X0 hx (hb hby own_d1_128) rfl (Jvm.Free.XT.ii_ne_f hc128_19) ?_
                refine ow_sipush (q := 134) X0 hx (144 : Int32) (hb hby own_d1_131) rfl rfl ?_
                refine ow_goto (q := 140) X0 hx (hb hby own_d1_134) (by decide) (by decide) ?_
                refine ow_istore (q := 142) X0 hx (L' := #[rv a0, iv (1 : Int32), iv (2 : Int32), iv v2, iv (4 : Int32), iv (144 : Int32), iv (191 : Int32), .unset, .unset, .unset, .unset]) (hb hby own_d1_140) rfl rfl ?_
                refine ow_iloadN (q := 143) X0 hx (hb hby own_d1_142) rfl rfl ?_
                refine ow_sipush (q := 146) X0 hx (244 : Int32) (hb hby own_d1_143) rfl rfl ?_
                by_cases hc146_20 : v2 = (244 : Int32)
                · refine ow_icmpNo (q := 149) X0 hx (hb hby own_d1_146) rfl (Jvm.Free.XT.ii_ne_f hc146_20) ?_
                  refine ow_sipush (q := 152) X0 hx (143 : Int32) (hb hby own_d1_149) rfl rfl ?_
                  refine ow_goto (q := 158) X0 hx (hb hby own_d1_152) (by decide) (by decide) ?_
                  refine ow_istore (q := 160) X0 hx (L' := #[rv a0, iv (1 : Int32), iv (2 : Int32), iv v2, iv (4 : Int32), iv (144 : Int32), iv (143 : Int32), .unset, .unset, .unset, .unset]) (hb hby own_d1_158) rfl rfl ?_
                  refine ow_goto (q := 165) X0 hx (hb hby own_d1_160) (by decide) (by decide) ?_
                  exact cut165_3 (4 : Int32) (144 : Int32) (143 : Int32) _ _ X0 e0 N0 (by unfold own_H; simp only [Int32.lt_iff_toInt_lt, ← Int32.toInt_inj, Int32.reduceToInt, true_and, and_true] at hc22_8 hc35_9 hc55_10 hc62_16 hc111_17 hc118_18 hc128_19 hc146_20 ⊢; omega)
                · refine ow_icmpYes (q := 155) X0 hx (hb hby own_d1_146) (Jvm.Free.XT.ii_ne_t hc146_20) (by decide) (by decide) ?_
                  refine ow_sipush (q := 158) X0 hx (191 : Int32) (hb hby own_d1_155) rfl rfl ?_
                  refine ow_istore (q := 160) X0 hx (L' := #[rv a0, iv (1 : Int32), iv (2 : Int32), iv v2, iv (4 : Int32), iv (144 : Int32), iv (191 : Int32), .unset, .unset, .unset, .unset]) (hb hby own_d1_158) rfl rfl ?_
                  refine ow_goto (q := 165) X0 hx (hb hby own_d1_160) (by decide) (by decide) ?_
                  exact cut165_3 (4 : Int32) (144 : Int32) (191 : Int32) _ _ X0 e0 N0 (by unfold own_H; simp only [Int32.lt_iff_toInt_lt, ← Int32.toInt_inj, Int32.reduceToInt, true_and, and_true] at hc22_8 hc35_9 hc55_10 hc62_16 hc111_17 hc118_18 hc128_19 hc146_20 ⊢; omega)
              · refine ow_icmpYes (q := 137) X0 hx (hb hby own_d1_128) (Jvm.Free.XT.ii_ne_t hc128_19) (by decide) (by decide) ?_
                refine ow_sipush (q := 140) X0 hx (128 : Int32) (hb hby own_d1_137) rfl rfl ?_
                refine ow_istore (q := 142) X0 hx (L' := #[rv a0, iv (1 : Int32), iv (2 : Int32), iv v2, iv (4 : Int32), iv (128 : Int32), iv (191 : Int32), .unset, .unset, .unset, .unset]) (hb hby own_d1_140) rfl rfl ?_
                refine ow_iloadN (q := 143) X0 hx (hb hby own_d1_142) rfl rfl ?_
                refine ow_sipush (q := 146) X0 hx (244 : Int32) (hb hby own_d1_143) rfl rfl ?_
                by_cases hc146_21 : v2 = (244 : Int32)
                · refine ow_icmpNo (q := 149) X0 hx (hb hby own_d1_146) rfl (Jvm.Free.XT.ii_ne_f hc146_21) ?_
                  refine ow_sipush (q := 152) X0 hx (143 : Int32) (hb hby own_d1_149) rfl rfl ?_
                  refine ow_goto (q := 158) X0 hx (hb hby own_d1_152) (by decide) (by decide) ?_
                  refine ow_istore (q := 160) X0 hx (L' := #[rv a0, iv (1 : Int32), iv (2 : Int32), iv v2, iv (4 : Int32), iv (128 : Int32), iv (143 : Int32), .unset, .unset, .unset, .unset]) (hb hby own_d1_158) rfl rfl ?_
                  refine ow_goto (q := 165) X0 hx (hb hby own_d1_160) (by decide) (by decide) ?_
                  exact cut165_3 (4 : Int32) (128 : Int32) (143 : Int32) _ _ X0 e0 N0 (by unfold own_H; simp only [Int32.lt_iff_toInt_lt, ← Int32.toInt_inj, Int32.reduceToInt, true_and, and_true] at hc22_8 hc35_9 hc55_10 hc62_16 hc111_17 hc118_18 hc128_19 hc146_21 ⊢; omega)
                · refine ow_icmpYes (q := 155) X0 hx (hb hby own_d1_146) (Jvm.Free.XT.ii_ne_t hc146_21) (by decide) (by decide) ?_
                  refine ow_sipush (q := 158) X0 hx (191 : Int32) (hb hby own_d1_155) rfl rfl ?_
                  refine ow_istore (q := 160) X0 hx (L' := #[rv a0, iv (1 : Int32), iv (2 : Int32), iv v2, iv (4 : Int32), iv (128 : Int32), iv (191 : Int32), .unset, .unset, .unset, .unset]) (hb hby own_d1_158) rfl rfl ?_
                  refine ow_goto (q := 165) X0 hx (hb hby own_d1_160) (by decide) (by decide) ?_
                  exact cut165_3 (4 : Int32) (128 : Int32) (191 : Int32) _ _ X0 e0 N0 (by unfold own_H; simp only [Int32.lt_iff_toInt_lt, ← Int32.toInt_inj, Int32.reduceToInt, true_and, and_true] at hc22_8 hc35_9 hc55_10 hc62_16 hc111_17 hc118_18 hc128_19 hc146_21 ⊢; omega)
        · refine ow_icmpNo (q := 65) X0 hx (hb hby own_d1_62) rfl (Jvm.Free.XT.ii_gt_f hc62_16) ?_
          refine ow_iconst (q := 66) X0 hx (3 : Int32) (hb hby own_d1_65) rfl rfl ?_
          refine ow_istore (q := 68) X0 hx (L' := #[rv a0, iv (1 : Int32), iv (2 : Int32), iv v2, iv (3 : Int32), iv (128 : Int32), iv (191 : Int32), .unset, .unset, .unset, .unset]) (hb hby own_d1_66) rfl rfl ?_
          refine ow_iloadN (q := 69) X0 hx (hb hby own_d1_68) rfl rfl ?_
          refine ow_sipush (q := 72) X0 hx (224 : Int32) (hb hby own_d1_69) rfl rfl ?_
          by_cases hc72_22 : v2 = (224 : Int32)
          · refine ow_icmpNo (q := 75) X0 hx (hb hby own_d1_72) rfl (Jvm.Free.XT.ii_ne_f hc72_22) ?_
            refine ow_sipush (q := 78) X0 hx (160 : Int32) (hb hby own_d1_75) rfl rfl ?_
            refine ow_goto (q := 84) X0 hx (hb hby own_d1_78) (by decide) (by decide) ?_
            refine ow_istore (q := 86) X0 hx (L' := #[rv a0, iv (1 : Int32), iv (2 : Int32), iv v2, iv (3 : Int32), iv (160 : Int32), iv (191 : Int32), .unset, .unset, .unset, .unset]) (hb hby own_d1_84) rfl rfl ?_
            refine ow_iloadN (q := 87) X0 hx (hb hby own_d1_86) rfl rfl ?_
            refine ow_sipush (q := 90) X0 hx (237 : Int32) (hb hby own_d1_87) rfl rfl ?_
            by_cases hc90_23 : v2 = (237 : Int32)
            · refine ow_icmpNo (q := 93) X0 hx (hb hby own_d1_90) rfl (Jvm.Free.XT.ii_ne_f hc90_23) ?_
              refine ow_sipush (q := 96) X0 hx (159 : Int32) (hb hby own_d1_93) rfl rfl ?_
              refine ow_goto (q := 102) X0 hx (hb hby own_d1_96) (by decide) (by decide) ?_
              refine ow_istore (q := 104) X0 hx (L' := #[rv a0, iv (1 : Int32), iv (2 : Int32), iv v2, iv (3 : Int32), iv (160 : Int32), iv (159 : Int32), .unset, .unset, .unset, .unset]) (hb hby own_d1_102) rfl rfl ?_
              refine ow_goto (q := 165) X0 hx (hb hby own_d1_104) (by decide) (by decide) ?_
              exact cut165_3 (3 : Int32) (160 : Int32) (159 : Int32) _ _ X0 e0 N0 (by unfold own_H; simp only [Int32.lt_iff_toInt_lt, ← Int32.toInt_inj, Int32.reduceToInt, true_and, and_true] at hc22_8 hc35_9 hc55_10 hc62_16 hc72_22 hc90_23 ⊢; omega)
            · refine ow_icmpYes (q := 99) X0 hx (hb hby own_d1_90) (Jvm.Free.XT.ii_ne_t hc90_23) (by decide) (by decide) ?_
              refine ow_sipush (q := 102) X0 hx (191 : Int32) (hb hby own_d1_99) rfl rfl ?_
              refine ow_istore (q := 104) X0 hx (L' := #[rv a0, iv (1 : Int32), iv (2 : Int32), iv v2, iv (3 : Int32), iv (160 : Int32), iv (191 : Int32), .unset, .unset, .unset, .unset]) (hb hby own_d1_102) rfl rfl ?_
              refine ow_goto (q := 165) X0 hx (hb hby own_d1_104) (by decide) (by decide) ?_
              exact cut165_3 (3 : Int32) (160 : Int32) (191 : Int32) _ _ X0 e0 N0 (by unfold own_H; simp only [Int32.lt_iff_toInt_lt, ← Int32.toInt_inj, Int32.reduceToInt, true_and, and_true] at hc22_8 hc35_9 hc55_10 hc62_16 hc72_22 hc90_23 ⊢; omega)
          · refine ow_icmpYes (q := 81) X0 hx (hb hby own_d1_72) (Jvm.Free.XT.ii_ne_t hc72_22) (by decide) (by decide) ?_
            refine ow_sipush (q := 84) X0 hx (128 : Int32) (hb hby own_d1_81) rfl rfl ?_
            refine ow_istore (q := 86) X0 hx (L' := #[rv a0, iv (1 : Int32), iv (2 : Int32), iv v2, iv (3 : Int32), iv (128 : Int32), iv (191 : Int32), .unset, .unset, .unset, .unset]) (hb hby own_d1_84) rfl rfl ?_
            refine ow_iloadN (q := 87) X0 hx (hb hby own_d1_86) rfl rfl ?_
            refine ow_sipush (q := 90) X0 hx (237 : Int32) (hb hby own_d1_87) rfl rfl ?_
            by_cases hc90_24 : v2 = (237 : Int32)
            · refine ow_icmpNo (q := 93) X0 hx (hb hby own_d1_90) rfl (Jvm.Free.XT.ii_ne_f hc90_24) ?_
              refine ow_sipush (q := 96) X0 hx (159 : Int32) (hb hby own_d1_93) rfl rfl ?_
              refine ow_goto (q := 102) X0 hx (hb hby own_d1_96) (by decide) (by decide) ?_
              refine ow_istore (q := 104) X0 hx (L' := #[rv a0, iv (1 : Int32), iv (2 : Int32), iv v2, iv (3 : Int32), iv (128 : Int32), iv (159 : Int32), .unset, .unset, .unset, .unset]) (hb hby own_d1_102) rfl rfl ?_
              refine ow_goto (q := 165) X0 hx (hb hby own_d1_104) (by decide) (by decide) ?_
              exact cut165_3 (3 : Int32) (128 : Int32) (159 : Int32) _ _ X0 e0 N0 (by unfold own_H; simp only [Int32.lt_iff_toInt_lt, ← Int32.toInt_inj, Int32.reduceToInt, true_and, and_true] at hc22_8 hc35_9 hc55_10 hc62_16 hc72_22 hc90_24 ⊢; omega)
            · refine ow_icmpYes (q := 99) X0 hx (hb hby own_d1_90) (Jvm.Free.XT.ii_ne_t hc90_24) (by decide) (by decide) ?_
              refine ow_sipush (q := 102) X0 hx (191 : Int32) (hb hby own_d1_99) rfl rfl ?_
              refine ow_istore (q := 104) X0 hx (L' := #[rv a0, iv (1 : Int32), iv (2 : Int32), iv v2, iv (3 : Int32), iv (128 : Int32), iv (191 : Int32), .unset, .unset, .unset, .unset]) (hb hby own_d1_102) rfl rfl ?_
              refine ow_goto (q := 165) X0 hx (hb hby own_d1_104) (by decide) (by decide) ?_
              exact cut165_3 (3 : Int32) (128 : Int32) (191 : Int32) _ _ X0 e0 N0 (by unfold own_H; simp only [Int32.lt_iff_toInt_lt, ← Int32.toInt_inj, Int32.reduceToInt, true_and, and_true] at hc22_8 hc35_9 hc55_10 hc62_16 hc72_22 hc90_24 ⊢; omega)
    · refine ow_icmpNo (q := 38) X0 hx (hb hby own_d1_35) rfl (Jvm.Free.XT.ii_lt_f hc35_9) ?_
      refine ow_iloadN (q := 39) X0 hx (hb hby own_d1_38) rfl rfl ?_
      refine ow_sipush (q := 42) X0 hx (223 : Int32) (hb hby own_d1_39) rfl rfl ?_
      by_cases hc42_25 : (223 : Int32) < v2
      · refine ow_icmpYes (q := 51) X0 hx (hb hby own_d1_42) (Jvm.Free.XT.ii_gt_t hc42_25) (by decide) (by decide) ?_
        refine ow_iloadN (q := 52) X0 hx (hb hby own_d1_51) rfl rfl ?_
        refine ow_sipush (q := 55) X0 hx (224 : Int32) (hb hby own_d1_52) rfl rfl ?_
        by_cases hc55_26 : v2 < (224 : Int32)
        · refine ow_icmpYes (q := 107) X0 hx (hb hby own_d1_55) (Jvm.Free.XT.ii_lt_t hc55_26) (by decide) (by decide) ?_
          refine ow_iloadN (q := 108) X0 hx (hb hby own_d1_107) rfl rfl ?_
          refine ow_sipush (q := 111) X0 hx (240 : Int32) (hb hby own_d1_108) rfl rfl ?_
          by_cases hc111_27 : v2 < (240 : Int32)
          · refine ow_icmpYes (q := 163) X0 hx (hb hby own_d1_111) (Jvm.Free.XT.ii_lt_t hc111_27) (by decide) (by decide) ?_
            refine ow_iconst (q := 164) X0 hx (0 : Int32) (hb hby own_d1_163) rfl rfl ?_
            refine ownRetI X0 hx Bd.returns (hb hby own_d1_164) hlk (by decide) (by decide) ?_
            subst hv_v2 hv_v1
            rw [e0]
            refine ⟨(0 : Int32), rfl, N0, rfl, ?_⟩
            simp only [Int32.lt_iff_toInt_lt, ← Int32.toInt_inj, Int32.reduceToInt] at hc22_8 hc35_9 hc42_25 hc55_26 hc111_27 ⊢
            unfold own_sq
            (repeat' split) <;> omega
          · refine ow_icmpNo (q := 114) X0 hx (hb hby own_d1_111) rfl (Jvm.Free.XT.ii_lt_f hc111_27) ?_
            refine ow_iloadN (q := 115) X0 hx (hb hby own_d1_114) rfl rfl ?_
            refine ow_sipush (q := 118) X0 hx (244 : Int32) (hb hby own_d1_115) rfl rfl ?_
            by_cases hc118_28 : (244 : Int32) < v2
            · refine ow_icmpYes (q := 163) X0 hx (hb hby own_d1_118) (Jvm.Free.XT.ii_gt_t hc118_28) (by decide) (by decide) ?_
              refine ow_iconst (q := 164) X0 hx (0 : Int32) (hb hby own_d1_163) rfl rfl ?_
              refine ownRetI X0 hx Bd.returns (hb hby own_d1_164) hlk (by decide) (by decide) ?_
              subst hv_v2 hv_v1
              rw [e0]
              refine ⟨(0 : Int32), rfl, N0, rfl, ?_⟩
              simp only [Int32.lt_iff_toInt_lt, ← Int32.toInt_inj, Int32.reduceToInt] at hc22_8 hc35_9 hc42_25 hc55_26 hc111_27 hc118_28 ⊢
              unfold own_sq
              (repeat' split) <;> omega
            · refine ow_icmpNo (q := 121) X0 hx (hb hby own_d1_118) rfl (Jvm.Free.XT.ii_gt_f hc118_28) ?_
              refine ow_iconst (q := 122) X0 hx (4 : Int32) (hb hby own_d1_121) rfl rfl ?_
              refine ow_istore (q := 124) X0 hx (L' := #[rv a0, iv (1 : Int32), iv (2 : Int32), iv v2, iv (4 : Int32), iv (128 : Int32), iv (191 : Int32), .unset, .unset, .unset, .unset]) (hb hby own_d1_122) rfl rfl ?_
              refine ow_iloadN (q := 125) X0 hx (hb hby own_d1_124) rfl rfl ?_
              refine ow_sipush (q := 128) X0 hx (240 : Int32) (hb hby own_d1_125) rfl rfl ?_
              by_cases hc128_29 : v2 = (240 : Int32)
              · refine ow_icmpNo (q := 131) X0 hx (hb hby own_d1_128) rfl (Jvm.Free.XT.ii_ne_f hc128_29) ?_
                refine ow_sipush (q := 134) X0 hx (144 : Int32) (hb hby own_d1_131) rfl rfl ?_
                refine ow_goto (q := 140) X0 hx (hb hby own_d1_134) (by decide) (by decide) ?_
                refine ow_istore (q := 142) X0 hx (L' := #[rv a0, iv (1 : Int32), iv (2 : Int32), iv v2, iv (4 : Int32), iv (144 : Int32), iv (191 : Int32), .unset, .unset, .unset, .unset]) (hb hby own_d1_140) rfl rfl ?_
                refine ow_iloadN (q := 143) X0 hx (hb hby own_d1_142) rfl rfl ?_
                refine ow_sipush (q := 146) X0 hx (244 : Int32) (hb hby own_d1_143) rfl rfl ?_
                by_cases hc146_30 : v2 = (244 : Int32)
                · refine ow_icmpNo (q := 149) X0 hx (hb hby own_d1_146) rfl (Jvm.Free.XT.ii_ne_f hc146_30) ?_
                  refine ow_sipush (q := 152) X0 hx (143 : Int32) (hb hby own_d1_149) rfl rfl ?_
                  refine ow_goto (q := 158) X0 hx (hb hby own_d1_152) (by decide) (by decide) ?_
                  refine ow_istore (q := 160) X0 hx (L' := #[rv a0, iv (1 : Int32), iv (2 : Int32), iv v2, iv (4 : Int32), iv (144 : Int32), iv (143 : Int32), .unset, .unset, .unset, .unset]) (hb hby own_d1_158) rfl rfl ?_
                  refine ow_goto (q := 165) X0 hx (hb hby own_d1_160) (by decide) (by decide) ?_
                  exact cut165_3 (4 : Int32) (144 : Int32) (143 : Int32) _ _ X0 e0 N0 (by unfold own_H; simp only [Int32.lt_iff_toInt_lt, ← Int32.toInt_inj, Int32.reduceToInt, true_and, and_true] at hc22_8 hc35_9 hc42_25 hc55_26 hc111_27 hc118_28 hc128_29 hc146_30 ⊢; omega)
                · refine ow_icmpYes (q := 155) X0 hx (hb hby own_d1_146) (Jvm.Free.XT.ii_ne_t hc146_30) (by decide) (by decide) ?_
                  refine ow_sipush (q := 158) X0 hx (191 : Int32) (hb hby own_d1_155) rfl rfl ?_
                  refine ow_istore (q := 160) X0 hx (L' := #[rv a0, iv (1 : Int32), iv (2 : Int32), iv v2, iv (4 : Int32), iv (144 : Int32), iv (191 : Int32), .unset, .unset, .unset, .unset]) (hb hby own_d1_158) rfl rfl ?_
                  refine ow_goto (q := 165) X0 hx (hb hby own_d1_160) (by decide) (by decide) ?_
                  exact cut165_3 (4 : Int32) (144 : Int32) (191 : Int32) _ _ X0 e0 N0 (by unfold own_H; simp only [Int32.lt_iff_toInt_lt, ← Int32.toInt_inj, Int32.reduceToInt, true_and, and_true] at hc22_8 hc35_9 hc42_25 hc55_26 hc111_27 hc118_28 hc128_29 hc146_30 ⊢; omega)
              · refine ow_icmpYes (q := 137) X0 hx (hb hby own_d1_128) (Jvm.Free.XT.ii_ne_t hc128_29) (by decide) (by decide) ?_
                refine ow_sipush (q := 140) X0 hx (128 : Int32) (hb hby own_d1_137) rfl rfl ?_
                refine ow_istore (q := 142) X0 hx (L' := #[rv a0, iv (1 : Int32), iv (2 : Int32), iv v2, iv (4 : Int32), iv (128 : Int32), iv (191 : Int32), .unset, .unset, .unset, .unset]) (hb hby own_d1_140) rfl rfl ?_
                refine ow_iloadN (q := 143) X0 hx (hb hby own_d1_142) rfl rfl ?_
                refine ow_sipush (q := 146) X0 hx (244 : Int32) (hb hby own_d1_143) rfl rfl ?_
                by_cases hc146_31 : v2 = (244 : Int32)
                · refine ow_icmpNo (q := 149) X0 hx (hb hby own_d1_146) rfl (Jvm.Free.XT.ii_ne_f hc146_31) ?_
                  refine ow_sipush (q := 152) X0 hx (143 : Int32) (hb hby own_d1_149) rfl rfl ?_
                  refine ow_goto (q := 158) X0 hx (hb hby own_d1_152) (by decide) (by decide) ?_
                  refine ow_istore (q := 160) X0 hx (L' := #[rv a0, iv (1 : Int32), iv (2 : Int32), iv v2, iv (4 : Int32), iv (128 : Int32), iv (143 : Int32), .unset, .unset, .unset, .unset]) (hb hby own_d1_158) rfl rfl ?_
                  refine ow_goto (q := 165) X0 hx (hb hby own_d1_160) (by decide) (by decide) ?_
                  exact cut165_3 (4 : Int32) (128 : Int32) (143 : Int32) _ _ X0 e0 N0 (by unfold own_H; simp only [Int32.lt_iff_toInt_lt, ← Int32.toInt_inj, Int32.reduceToInt, true_and, and_true] at hc22_8 hc35_9 hc42_25 hc55_26 hc111_27 hc118_28 hc128_29 hc146_31 ⊢; omega)
                · refine ow_icmpYes (q := 155) X0 hx (hb hby own_d1_146) (Jvm.Free.XT.ii_ne_t hc146_31) (by decide) (by decide) ?_
                  refine ow_sipush (q := 158) X0 hx (191 : Int32) (hb hby own_d1_155) rfl rfl ?_
                  refine ow_istore (q := 160) X0 hx (L' := #[rv a0, iv (1 : Int32), iv (2 : Int32), iv v2, iv (4 : Int32), iv (128 : Int32), iv (191 : Int32), .unset, .unset, .unset, .unset]) (hb hby own_d1_158) rfl rfl ?_
                  refine ow_goto (q := 165) X0 hx (hb hby own_d1_160) (by decide) (by decide) ?_
                  exact cut165_3 (4 : Int32) (128 : Int32) (191 : Int32) _ _ X0 e0 N0 (by unfold own_H; simp only [Int32.lt_iff_toInt_lt, ← Int32.toInt_inj, Int32.reduceToInt, true_and, and_true] at hc22_8 hc35_9 hc42_25 hc55_26 hc111_27 hc118_28 hc128_29 hc146_31 ⊢; omega)
        · refine ow_icmpNo (q := 58) X0 hx (hb hby own_d1_55) rfl (Jvm.Free.XT.ii_lt_f hc55_26) ?_
          refine ow_iloadN (q := 59) X0 hx (hb hby own_d1_58) rfl rfl ?_
          refine ow_sipush (q := 62) X0 hx (239 : Int32) (hb hby own_d1_59) rfl rfl ?_
          by_cases hc62_32 : (239 : Int32) < v2
          · refine ow_icmpYes (q := 107) X0 hx (hb hby own_d1_62) (Jvm.Free.XT.ii_gt_t hc62_32) (by decide) (by decide) ?_
            refine ow_iloadN (q := 108) X0 hx (hb hby own_d1_107) rfl rfl ?_
            refine ow_sipush (q := 111) X0 hx (240 : Int32) (hb hby own_d1_108) rfl rfl ?_
            by_cases hc111_33 : v2 < (240 : Int32)
            · refine ow_icmpYes (q := 163) X0 hx (hb hby own_d1_111) (Jvm.Free.XT.ii_lt_t hc111_33) (by decide) (by decide) ?_
              refine ow_iconst (q := 164) X0 hx (0 : Int32) (hb hby own_d1_163) rfl rfl ?_
              refine ownRetI X0 hx Bd.returns (hb hby own_d1_164) hlk (by decide) (by decide) ?_
              subst hv_v2 hv_v1
              rw [e0]
              refine ⟨(0 : Int32), rfl, N0, rfl, ?_⟩
              simp only [Int32.lt_iff_toInt_lt, ← Int32.toInt_inj, Int32.reduceToInt] at hc22_8 hc35_9 hc42_25 hc55_26 hc62_32 hc111_33 ⊢
              unfold own_sq
              (repeat' split) <;> omega
            · refine ow_icmpNo (q := 114) X0 hx (hb hby own_d1_111) rfl (Jvm.Free.XT.ii_lt_f hc111_33) ?_
              refine ow_iloadN (q := 115) X0 hx (hb hby own_d1_114) rfl rfl ?_
              refine ow_sipush (q := 118) X0 hx (244 : Int32) (hb hby own_d1_115) rfl rfl ?_
              by_cases hc118_34 : (244 : Int32) < v2
              · refine ow_icmpYes (q := 163) X0 hx (hb hby own_d1_118) (Jvm.Free.XT.ii_gt_t hc118_34) (by decide) (by decide) ?_
                refine ow_iconst (q := 164) X0 hx (0 : Int32) (hb hby own_d1_163) rfl rfl ?_
                refine ownRetI X0 hx Bd.returns (hb hby own_d1_164) hlk (by decide) (by decide) ?_
                subst hv_v2 hv_v1
                rw [e0]
                refine ⟨(0 : Int32), rfl, N0, rfl, ?_⟩
                simp only [Int32.lt_iff_toInt_lt, ← Int32.toInt_inj, Int32.reduceToInt] at hc22_8 hc35_9 hc42_25 hc55_26 hc62_32 hc111_33 hc118_34 ⊢
                unfold own_sq
                (repeat' split) <;> omega
              · refine ow_icmpNo (q := 121) X0 hx (hb hby own_d1_118) rfl (Jvm.Free.XT.ii_gt_f hc118_34) ?_
                refine ow_iconst (q := 122) X0 hx (4 : Int32) (hb hby own_d1_121) rfl rfl ?_
                refine ow_istore (q := 124) X0 hx (L' := #[rv a0, iv (1 : Int32), iv (2 : Int32), iv v2, iv (4 : Int32), iv (128 : Int32), iv (191 : Int32), .unset, .unset, .unset, .unset]) (hb hby own_d1_122) rfl rfl ?_
                refine ow_iloadN (q := 125) X0 hx (hb hby own_d1_124) rfl rfl ?_
                refine ow_sipush (q := 128) X0 hx (240 : Int32) (hb hby own_d1_125) rfl rfl ?_
                by_cases hc128_35 : v2 = (240 : Int32)
                · refine ow_icmpNo (q := 131) X0 hx (hb hby own_d1_128) rfl (Jvm.Free.XT.ii_ne_f hc128_35) ?_
                  refine ow_sipush (q := 134) X0 hx (144 : Int32) (hb hby own_d1_131) rfl rfl ?_
                  refine ow_goto (q := 140) X0 hx (hb hby own_d1_134) (by decide) (by decide) ?_
                  refine ow_istore (q := 142) X0 hx (L' := #[rv a0, iv (1 : Int32), iv (2 : Int32), iv v2, iv (4 : Int32), iv (144 : Int32), iv (191 : Int32), .unset, .unset, .unset, .unset]) (hb hby own_d1_140) rfl rfl ?_
                  refine ow_iloadN (q := 143) X0 hx (hb hby own_d1_142) rfl rfl ?_
                  refine ow_sipush (q := 146) X0 hx (244 : Int32) (hb hby own_d1_143) rfl rfl ?_
                  by_cases hc146_36 : v2 = (244 : Int32)
                  · refine ow_icmpNo (q := 149) X0 hx (hb hby own_d1_146) rfl (Jvm.Free.XT.ii_ne_f hc146_36) ?_
                    refine ow_sipush (q := 152) X0 hx (143 : Int32) (hb hby own_d1_149) rfl rfl ?_
                    refine ow_goto (q := 158) X0 hx (hb hby own_d1_152) (by decide) (by decide) ?_
                    refine ow_istore (q := 160) X0 hx (L' := #[rv a0, iv (1 : Int32), iv (2 : Int32), iv v2, iv (4 : Int32), iv (144 : Int32), iv (143 : Int32), .unset, .unset, .unset, .unset]) (hb hby own_d1_158) rfl rfl ?_
                    refine ow_goto (q := 165) X0 hx (hb hby own_d1_160) (by decide) (by decide) ?_
                    exact cut165_3 (4 : Int32) (144 : Int32) (143 : Int32) _ _ X0 e0 N0 (by unfold own_H; simp only [Int32.lt_iff_toInt_lt, ← Int32.toInt_inj, Int32.reduceToInt, true_and, and_true] at hc22_8 hc35_9 hc42_25 hc55_26 hc62_32 hc111_33 hc118_34 hc128_35 hc146_36 ⊢; omega)
                  · refine ow_icmpYes (q := 155) X0 hx (hb hby own_d1_146) (Jvm.Free.XT.ii_ne_t hc146_36) (by decide) (by decide) ?_
                    refine ow_sipush (q := 158) X0 hx (191 : Int32) (hb hby own_d1_155) rfl rfl ?_
                    refine ow_istore (q := 160) X0 hx (L' := #[rv a0, iv (1 : Int32), iv (2 : Int32), iv v2, iv (4 : Int32), iv (144 : Int32), iv (191 : Int32), .unset, .unset, .unset, .unset]) (hb hby own_d1_158) rfl rfl ?_
                    refine ow_goto (q := 165) X0 hx (hb hby own_d1_160) (by decide) (by decide) ?_
                    exact cut165_3 (4 : Int32) (144 : Int32) (191 : Int32) _ _ X0 e0 N0 (by unfold own_H; simp only [Int32.lt_iff_toInt_lt, ← Int32.toInt_inj, Int32.reduceToInt, true_and, and_true] at hc22_8 hc35_9 hc42_25 hc55_26 hc62_32 hc111_33 hc118_34 hc128_35 hc146_36 ⊢; omega)
                · refine ow_icmpYes (q := 137) X0 hx (hb hby own_d1_128) (Jvm.Free.XT.ii_ne_t hc128_35) (by decide) (by decide) ?_
                  refine ow_sipush (q := 140) X0 hx (128 : Int32) (hb hby own_d1_137) rfl rfl ?_
                  refine ow_istore (q := 142) X0 hx (L' := #[rv a0, iv (1 : Int32), iv (2 : Int32), iv v2, iv (4 : Int32), iv (128 : Int32), iv (191 : Int32), .unset, .unset, .unset, .unset]) (hb hby own_d1_140) rfl rfl ?_
                  refine ow_iloadN (q := 143) X0 hx (hb hby own_d1_142) rfl rfl ?_
                  refine ow_sipush (q := 146) X0 hx (244 : Int32) (hb hby own_d1_143) rfl rfl ?_
                  by_cases hc146_37 : v2 = (244 : Int32)
                  · refine ow_icmpNo (q := 149) X0 hx (hb hby own_d1_146) rfl (Jvm.Free.XT.ii_ne_f hc146_37) ?_
                    refine ow_sipush (q := 152) X0 hx (143 : Int32) (hb hby own_d1_149) rfl rfl ?_
                    refine ow_goto (q := 158) X0 hx (hb hby own_d1_152) (by decide) (by decide) ?_
                    refine ow_istore (q := 160) X0 hx (L' := #[rv a0, iv (1 : Int32), iv (2 : Int32), iv v2, iv (4 : Int32), iv (128 : Int32), iv (143 : Int32), .unset, .unset, .unset, .unset]) (hb hby own_d1_158) rfl rfl ?_
                    refine ow_goto (q := 165) X0 hx (hb hby own_d1_160) (by decide) (by decide) ?_
                    exact cut165_3 (4 : Int32) (128 : Int32) (143 : Int32) _ _ X0 e0 N0 (by unfold own_H; simp only [Int32.lt_iff_toInt_lt, ← Int32.toInt_inj, Int32.reduceToInt, true_and, and_true] at hc22_8 hc35_9 hc42_25 hc55_26 hc62_32 hc111_33 hc118_34 hc128_35 hc146_37 ⊢; omega)
                  · refine ow_icmpYes (q := 155) X0 hx (hb hby own_d1_146) (Jvm.Free.XT.ii_ne_t hc146_37) (by decide) (by decide) ?_
                    refine ow_sipush (q := 158) X0 hx (191 : Int32) (hb hby own_d1_155) rfl rfl ?_
                    refine ow_istore (q := 160) X0 hx (L' := #[rv a0, iv (1 : Int32), iv (2 : Int32), iv v2, iv (4 : Int32), iv (128 : Int32), iv (191 : Int32), .unset, .unset, .unset, .unset]) (hb hby own_d1_158) rfl rfl ?_
                    refine ow_goto (q := 165) X0 hx (hb hby own_d1_160) (by decide) (by decide) ?_
                    exact cut165_3 (4 : Int32) (128 : Int32) (191 : Int32) _ _ X0 e0 N0 (by unfold own_H; simp only [Int32.lt_iff_toInt_lt, ← Int32.toInt_inj, Int32.reduceToInt, true_and, and_true] at hc22_8 hc35_9 hc42_25 hc55_26 hc62_32 hc111_33 hc118_34 hc128_35 hc146_37 ⊢; omega)
          · refine ow_icmpNo (q := 65) X0 hx (hb hby own_d1_62) rfl (Jvm.Free.XT.ii_gt_f hc62_32) ?_
            refine ow_iconst (q := 66) X0 hx (3 : Int32) (hb hby own_d1_65) rfl rfl ?_
            refine ow_istore (q := 68) X0 hx (L' := #[rv a0, iv (1 : Int32), iv (2 : Int32), iv v2, iv (3 : Int32), iv (128 : Int32), iv (191 : Int32), .unset, .unset, .unset, .unset]) (hb hby own_d1_66) rfl rfl ?_
            refine ow_iloadN (q := 69) X0 hx (hb hby own_d1_68) rfl rfl ?_
            refine ow_sipush (q := 72) X0 hx (224 : Int32) (hb hby own_d1_69) rfl rfl ?_
            by_cases hc72_38 : v2 = (224 : Int32)
            · refine ow_icmpNo (q := 75) X0 hx (hb hby own_d1_72) rfl (Jvm.Free.XT.ii_ne_f hc72_38) ?_
              refine ow_sipush (q := 78) X0 hx (160 : Int32) (hb hby own_d1_75) rfl rfl ?_
              refine ow_goto (q := 84) X0 hx (hb hby own_d1_78) (by decide) (by decide) ?_
              refine ow_istore (q := 86) X0 hx (L' := #[rv a0, iv (1 : Int32), iv (2 : Int32), iv v2, iv (3 : Int32), iv (160 : Int32), iv (191 : Int32), .unset, .unset, .unset, .unset]) (hb hby own_d1_84) rfl rfl ?_
              refine ow_iloadN (q := 87) X0 hx (hb hby own_d1_86) rfl rfl ?_
              refine ow_sipush (q := 90) X0 hx (237 : Int32) (hb hby own_d1_87) rfl rfl ?_
              by_cases hc90_39 : v2 = (237 : Int32)
              · refine ow_icmpNo (q := 93) X0 hx (hb hby own_d1_90) rfl (Jvm.Free.XT.ii_ne_f hc90_39) ?_
                refine ow_sipush (q := 96) X0 hx (159 : Int32) (hb hby own_d1_93) rfl rfl ?_
                refine ow_goto (q := 102) X0 hx (hb hby own_d1_96) (by decide) (by decide) ?_
                refine ow_istore (q := 104) X0 hx (L' := #[rv a0, iv (1 : Int32), iv (2 : Int32), iv v2, iv (3 : Int32), iv (160 : Int32), iv (159 : Int32), .unset, .unset, .unset, .unset]) (hb hby own_d1_102) rfl rfl ?_
                refine ow_goto (q := 165) X0 hx (hb hby own_d1_104) (by decide) (by decide) ?_
                exact cut165_3 (3 : Int32) (160 : Int32) (159 : Int32) _ _ X0 e0 N0 (by unfold own_H; simp only [Int32.lt_iff_toInt_lt, ← Int32.toInt_inj, Int32.reduceToInt, true_and, and_true] at hc22_8 hc35_9 hc42_25 hc55_26 hc62_32 hc72_38 hc90_39 ⊢; omega)
              · refine ow_icmpYes (q := 99) X0 hx (hb hby own_d1_90) (Jvm.Free.XT.ii_ne_t hc90_39) (by decide) (by decide) ?_
                refine ow_sipush (q := 102) X0 hx (191 : Int32) (hb hby own_d1_99) rfl rfl ?_
                refine ow_istore (q := 104) X0 hx (L' := #[rv a0, iv (1 : Int32), iv (2 : Int32), iv v2, iv (3 : Int32), iv (160 : Int32), iv (191 : Int32), .unset, .unset, .unset, .unset]) (hb hby own_d1_102) rfl rfl ?_
                refine ow_goto (q := 165) X0 hx (hb hby own_d1_104) (by decide) (by decide) ?_
                exact cut165_3 (3 : Int32) (160 : Int32) (191 : Int32) _ _ X0 e0 N0 (by unfold own_H; simp only [Int32.lt_iff_toInt_lt, ← Int32.toInt_inj, Int32.reduceToInt, true_and, and_true] at hc22_8 hc35_9 hc42_25 hc55_26 hc62_32 hc72_38 hc90_39 ⊢; omega)
            · refine ow_icmpYes (q := 81) X0 hx (hb hby own_d1_72) (Jvm.Free.XT.ii_ne_t hc72_38) (by decide) (by decide) ?_
              refine ow_sipush (q := 84) X0 hx (128 : Int32) (hb hby own_d1_81) rfl rfl ?_
              refine ow_istore (q := 86) X0 hx (L' := #[rv a0, iv (1 : Int32), iv (2 : Int32), iv v2, iv (3 : Int32), iv (128 : Int32), iv (191 : Int32), .unset, .unset, .unset, .unset]) (hb hby own_d1_84) rfl rfl ?_
              refine ow_iloadN (q := 87) X0 hx (hb hby own_d1_86) rfl rfl ?_
              refine ow_sipush (q := 90) X0 hx (237 : Int32) (hb hby own_d1_87) rfl rfl ?_
              by_cases hc90_40 : v2 = (237 : Int32)
              · refine ow_icmpNo (q := 93) X0 hx (hb hby own_d1_90) rfl (Jvm.Free.XT.ii_ne_f hc90_40) ?_
                refine ow_sipush (q := 96) X0 hx (159 : Int32) (hb hby own_d1_93) rfl rfl ?_
                refine ow_goto (q := 102) X0 hx (hb hby own_d1_96) (by decide) (by decide) ?_
                refine ow_istore (q := 104) X0 hx (L' := #[rv a0, iv (1 : Int32), iv (2 : Int32), iv v2, iv (3 : Int32), iv (128 : Int32), iv (159 : Int32), .unset, .unset, .unset, .unset]) (hb hby own_d1_102) rfl rfl ?_
                refine ow_goto (q := 165) X0 hx (hb hby own_d1_104) (by decide) (by decide) ?_
                exact cut165_3 (3 : Int32) (128 : Int32) (159 : Int32) _ _ X0 e0 N0 (by unfold own_H; simp only [Int32.lt_iff_toInt_lt, ← Int32.toInt_inj, Int32.reduceToInt, true_and, and_true] at hc22_8 hc35_9 hc42_25 hc55_26 hc62_32 hc72_38 hc90_40 ⊢; omega)
              · refine ow_icmpYes (q := 99) X0 hx (hb hby own_d1_90) (Jvm.Free.XT.ii_ne_t hc90_40) (by decide) (by decide) ?_
                refine ow_sipush (q := 102) X0 hx (191 : Int32) (hb hby own_d1_99) rfl rfl ?_
                refine ow_istore (q := 104) X0 hx (L' := #[rv a0, iv (1 : Int32), iv (2 : Int32), iv v2, iv (3 : Int32), iv (128 : Int32), iv (191 : Int32), .unset, .unset, .unset, .unset]) (hb hby own_d1_102) rfl rfl ?_
                refine ow_goto (q := 165) X0 hx (hb hby own_d1_104) (by decide) (by decide) ?_
                exact cut165_3 (3 : Int32) (128 : Int32) (191 : Int32) _ _ X0 e0 N0 (by unfold own_H; simp only [Int32.lt_iff_toInt_lt, ← Int32.toInt_inj, Int32.reduceToInt, true_and, and_true] at hc22_8 hc35_9 hc42_25 hc55_26 hc62_32 hc72_38 hc90_40 ⊢; omega)
      · refine ow_icmpNo (q := 45) X0 hx (hb hby own_d1_42) rfl (Jvm.Free.XT.ii_gt_f hc42_25) ?_
        refine ow_iconst (q := 46) X0 hx (2 : Int32) (hb hby own_d1_45) rfl rfl ?_
        refine ow_istore (q := 48) X0 hx (L' := #[rv a0, iv (1 : Int32), iv (2 : Int32), iv v2, iv (2 : Int32), iv (128 : Int32), iv (191 : Int32), .unset, .unset, .unset, .unset]) (hb hby own_d1_46) rfl rfl ?_
        refine ow_goto (q := 165) X0 hx (hb hby own_d1_48) (by decide) (by decide) ?_
        exact cut165_3 (2 : Int32) (128 : Int32) (191 : Int32) _ _ X0 e0 N0 (by unfold own_H; simp only [Int32.lt_iff_toInt_lt, ← Int32.toInt_inj, Int32.reduceToInt, true_and, and_true] at hc22_8 hc35_9 hc42_25 ⊢; omega)
theorem own_ef1_seq_1_2 (m : MethodId) (a0 : Addr) : entryFrame m #[(.ref a0), (.int (1 : Int32)), (.int (3 : Int32))] 11 = mkF m 0 #[rv a0, iv (1 : Int32), iv (3 : Int32), .unset, .unset, .unset, .unset, .unset, .unset, .unset, .unset] [] := by first | (simp [entryFrame, mkF, argsToLocals, Value.category]; done) | rfl
def Q_seq_1_2 (Z : State) (a0 : Addr) (g : Nat → Int32) (h0 : Heap) (n0 : Nat) (v : Option Value) (h : Heap) (L : List Loc) : Prop := ∃ (r : Int32), v = some (.int r) ∧ Fr n0 L ∧ h = h0 ∧ (r.toInt = own_sq ((g 1) &&& (255 : Int32)).toInt ((g 2) &&& (255 : Int32)).toInt ((g 3) &&& (255 : Int32)).toInt ((g 4) &&& (255 : Int32)).toInt 2)
set_option maxRecDepth 65536 in
set_option maxHeartbeats 40000000 in
theorem rm_seq_1_2 (l : Launch) (Z : State) (av0 : Array Value) (hw : ∀ d ∈ tables_1, d.before av0 Z = true) (ws : List Jvm.Cond) (a0 : Addr) (g : Nat → Int32) (h0 : Heap) (n0 : Nat) (Z0 : n0 ≤ h0.size) (HF0 : ownAI Z h0 a0 .byte 5 g) :
    MetFree l (⟨"com/example/descend/descend/XmlChars", "sequenceLength", "([BII)I"⟩ : MethodName) (head1 (Jvm.Cond.code (⟨"com/example/descend/descend/XmlChars", "sequenceLength", "([BII)I"⟩ : MethodName) prog_24_method_14_code 11 (some .int) :: ws) ({ frames := 0, cells := 0, slots := 0, locals := 0 } : Room)) (fun a U => a = #[(.ref a0), (.int (1 : Int32)), (.int (3 : Int32))] ∧ Z.Warmed39 U.vm ∧ U.heap = h0) (fun _ _ _ _ _ => True) (fun _ U o U' => ∃ v L, o = .returned v ∧ (Q_seq_1_2 Z a0 g h0 n0) v U'.heap L ∧ FrameEnd U o U' L ({ frames := 0, cells := 0, slots := 0, locals := 0 } : Room).cells ({ frames := 0, cells := 0, slots := 0, locals := 0 } : Room).slots) := by
  refine MetFree.of_bodySF (plainFor_of_name own_pn_XmlChars) hisR ?_
  intro p e s m args below meth c s₁ Bd hml0 hP hK
  obtain ⟨rfl, hZ, hh⟩ := hP
  have hx := Bd.exec
  have hby := Bd.bytes
  have hml : c.maxLocals = 11 := hml0
  have hown : s.vm.findClass "com/example/descend/descend/XmlChars" = some m.cls := findClass_of_methodNamed Bd.named
  have hnm := (name_of_methodNamed Bd.named Bd.method).1
  have hlk : meth.locks = false := BodyLoose.notSynchronized Bd
  have X0 : Stand p l e ({ frames := 0, cells := 0, slots := 0, locals := 0 } : Room) s m #[(.ref a0), (.int (1 : Int32)), (.int (3 : Int32))] below meth c s₁ [] 0 0 := Stand.of_body Bd
  have e0 : s₁.heap = h0 := by rw [← hh, Bd.state]; rfl
  have N0 := Fr.nil n0
  have K0 : Keep h0 h0 [] := Keep.refl _ _
  show ownEnds p e below s (Q_seq_1_2 Z a0 g h0 n0) ({ frames := 0, cells := 0, slots := 0, locals := 0 } : Room).cells ({ frames := 0, cells := 0, slots := 0, locals := 0 } : Room).slots s₁ (entryFrame m #[(.ref a0), (.int (1 : Int32)), (.int (3 : Int32))] 11)
  refine ownCast (own_ef1_seq_1_2 m a0) ?_
  refine ow_aloadN (q := 1) X0 hx (hb hby own_d1_0) rfl rfl rfl ?_
  refine ow_iloadN (q := 2) X0 hx (hb hby own_d1_1) rfl rfl ?_
  refine ownGo (T' := s₁) (f' := (mkF m 3 #[rv a0, iv (1 : Int32), iv (3 : Int32), .unset, .unset, .unset, .unset, .unset, .unset, .unset, .unset] [(.int (g 1))])) (ownBaload HF0 X0 hx hZ e0 (j := (1 : Int32)) (by unfold ownIn; decide) (g := (mkF m 2 #[rv a0, iv (1 : Int32), iv (3 : Int32), .unset, .unset, .unset, .unset, .unset, .unset, .unset, .unset] [(.int (1 : Int32)), (.ref a0)])) rfl rfl (hb hby own_d1_2)) ?_
  generalize hv_v1 : (g 1) = v1
  refine ow_sipush (q := 6) X0 hx (255 : Int32) (hb hby own_d1_3) rfl rfl ?_
  refine ow_iand (q := 7) X0 hx _ (hb hby own_d1_6) rfl rfl ?_
  generalize hv_v2 : (v1 &&& (255 : Int32)) = v2
  refine ow_istoreN (q := 8) X0 hx (L' := #[rv a0, iv (1 : Int32), iv (3 : Int32), iv v2, .unset, .unset, .unset, .unset, .unset, .unset, .unset]) (hb hby own_d1_7) rfl rfl ?_
  refine ow_sipush (q := 11) X0 hx (128 : Int32) (hb hby own_d1_8) rfl rfl ?_
  refine ow_istore (q := 13) X0 hx (L' := #[rv a0, iv (1 : Int32), iv (3 : Int32), iv v2, .unset, iv (128 : Int32), .unset, .unset, .unset, .unset, .unset]) (hb hby own_d1_11) rfl rfl ?_
  refine ow_sipush (q := 16) X0 hx (191 : Int32) (hb hby own_d1_13) rfl rfl ?_
  refine ow_istore (q := 18) X0 hx (L' := #[rv a0, iv (1 : Int32), iv (3 : Int32), iv v2, .unset, iv (128 : Int32), iv (191 : Int32), .unset, .unset, .unset, .unset]) (hb hby own_d1_16) rfl rfl ?_
  have cut165_3 : ∀ (ln : Int32) (lo : Int32) (hi : Int32) (Tc3 : State) (lc3 : List Loc), Stand p l e ({ frames := 0, cells := 0, slots := 0, locals := 0 } : Room) s m #[(.ref a0), (.int (1 : Int32)), (.int (3 : Int32))] below meth c Tc3 lc3 0 0 → Tc3.heap = h0 → Fr n0 lc3 → (own_H v2.toInt ln.toInt lo.toInt hi.toInt) → ownEnds p e below s (Q_seq_1_2 Z a0 g h0 n0) ({ frames := 0, cells := 0, slots := 0, locals := 0 } : Room).cells ({ frames := 0, cells := 0, slots := 0, locals := 0 } : Room).slots Tc3 (mkF m 165 #[rv a0, iv (1 : Int32), iv (3 : Int32), iv v2, iv ln, iv lo, iv hi, .unset, .unset, .unset, .unset] []) := by
    intro ln lo hi Tc3 lc3 Xc3 ec3 Nc3 hH
    refine ow_iloadN (q := 166) Xc3 hx (hb hby own_d1_165) rfl rfl ?_
    rcases own_Hln hH with hs4 | hs5 | hs6 | hs7
    · subst hs4
      refine ow_iload (q := 168) Xc3 hx (hb hby own_d1_166) rfl rfl ?_
      refine ow_iadd (q := 169) Xc3 hx (2 : Int32) (hb hby own_d1_168) rfl (by decide) ?_
      refine ow_iloadN (q := 170) Xc3 hx (hb hby own_d1_169) rfl rfl ?_
      refine ow_icmpYes (q := 175) Xc3 hx (hb hby own_d1_170) (Jvm.Free.XT.ii_le_t (by decide)) (by decide) (by decide) ?_
      refine ow_iconst (q := 176) Xc3 hx (1 : Int32) (hb hby own_d1_175) rfl rfl ?_
      refine ow_istore (q := 178) Xc3 hx (L' := #[rv a0, iv (1 : Int32), iv (3 : Int32), iv v2, iv (1 : Int32), iv lo, iv hi, iv (1 : Int32), .unset, .unset, .unset]) (hb hby own_d1_176) rfl rfl ?_
      refine ow_iload (q := 180) Xc3 hx (hb hby own_d1_178) rfl rfl ?_
      refine ow_iload (q := 182) Xc3 hx (hb hby own_d1_180) rfl rfl ?_
      refine ow_icmpYes (q := 251) Xc3 hx (hb hby own_d1_182) (Jvm.Free.XT.ii_ge_t (by decide)) (by decide) (by decide) ?_
      refine ow_iload (q := 253) Xc3 hx (hb hby own_d1_251) rfl rfl ?_
      refine ownRetI Xc3 hx Bd.returns (hb hby own_d1_253) hlk (by decide) (by decide) ?_
      subst hv_v2 hv_v1
      rw [ec3]
      refine ⟨(1 : Int32), rfl, Nc3, rfl, ?_⟩
      unfold own_H at hH
      simp only [Int32.lt_iff_toInt_lt, ← Int32.toInt_inj, Int32.reduceToInt] at  hH ⊢
      unfold own_sq
      (repeat' split) <;> omega
    · subst hs5
      refine ow_iload (q := 168) Xc3 hx (hb hby own_d1_166) rfl rfl ?_
      refine ow_iadd (q := 169) Xc3 hx (3 : Int32) (hb hby own_d1_168) rfl (by decide) ?_
      refine ow_iloadN (q := 170) Xc3 hx (hb hby own_d1_169) rfl rfl ?_
      refine ow_icmpYes (q := 175) Xc3 hx (hb hby own_d1_170) (Jvm.Free.XT.ii_le_t (by decide)) (by decide) (by decide) ?_
      refine ow_iconst (q := 176) Xc3 hx (1 : Int32) (hb hby own_d1_175) rfl rfl ?_
      refine ow_istore (q := 178) Xc3 hx (L' := #[rv a0, iv (1 : Int32), iv (3 : Int32), iv v2, iv (2 : Int32), iv lo, iv hi, iv (1 : Int32), .unset, .unset, .unset]) (hb hby own_d1_176) rfl rfl ?_
      refine ow_iload (q := 180) Xc3 hx (hb hby own_d1_178) rfl rfl ?_
      refine ow_iload (q := 182) Xc3 hx (hb hby own_d1_180) rfl rfl ?_
      refine ow_icmpNo (q := 185) Xc3 hx (hb hby own_d1_182) rfl (Jvm.Free.XT.ii_ge_f (by decide)) ?_
      refine ow_aloadN (q := 186) Xc3 hx (hb hby own_d1_185) rfl rfl rfl ?_
      refine ow_iloadN (q := 187) Xc3 hx (hb hby own_d1_186) rfl rfl ?_
      refine ow_iload (q := 189) Xc3 hx (hb hby own_d1_187) rfl rfl ?_
      refine ow_iadd (q := 190) Xc3 hx (2 : Int32) (hb hby own_d1_189) rfl (by decide) ?_
      refine ownGo (T' := Tc3) (f' := (mkF m 191 #[rv a0, iv (1 : Int32), iv (3 : Int32), iv v2, iv (2 : Int32), iv lo, iv hi, iv (1 : Int32), .unset, .unset, .unset] [(.int (g 2))])) (ownBaload HF0 Xc3 hx hZ ec3 (j := (2 : Int32)) (by unfold ownIn; decide) (g := (mkF m 190 #[rv a0, iv (1 : Int32), iv (3 : Int32), iv v2, iv (2 : Int32), iv lo, iv hi, iv (1 : Int32), .unset, .unset, .unset] [(.int (2 : Int32)), (.ref a0)])) rfl rfl (hb hby own_d1_190)) ?_
      generalize hv_v8 : (g 2) = v8
      refine ow_sipush (q := 194) Xc3 hx (255 : Int32) (hb hby own_d1_191) rfl rfl ?_
      refine ow_iand (q := 195) Xc3 hx _ (hb hby own_d1_194) rfl rfl ?_
      generalize hv_v9 : (v8 &&& (255 : Int32)) = v9
      refine ow_istore (q := 197) Xc3 hx (L' := #[rv a0, iv (1 : Int32), iv (3 : Int32), iv v2, iv (2 : Int32), iv lo, iv hi, iv (1 : Int32), iv v9, .unset, .unset]) (hb hby own_d1_195) rfl rfl ?_
      refine ow_iload (q := 199) Xc3 hx (hb hby own_d1_197) rfl rfl ?_
      refine ow_iconst (q := 200) Xc3 hx (1 : Int32) (hb hby own_d1_199) rfl rfl ?_
      refine ow_icmpNo (q := 203) Xc3 hx (hb hby own_d1_200) rfl (Jvm.Free.XT.ii_ne_f (by decide)) ?_
      refine ow_iload (q := 205) Xc3 hx (hb hby own_d1_203) rfl rfl ?_
      refine ow_goto (q := 211) Xc3 hx (hb hby own_d1_205) (by decide) (by decide) ?_
      refine ow_istore (q := 213) Xc3 hx (L' := #[rv a0, iv (1 : Int32), iv (3 : Int32), iv v2, iv (2 : Int32), iv lo, iv hi, iv (1 : Int32), iv v9, iv lo, .unset]) (hb hby own_d1_211) rfl rfl ?_
      refine ow_iload (q := 215) Xc3 hx (hb hby own_d1_213) rfl rfl ?_
      refine ow_iconst (q := 216) Xc3 hx (1 : Int32) (hb hby own_d1_215) rfl rfl ?_
      refine ow_icmpNo (q := 219) Xc3 hx (hb hby own_d1_216) rfl (Jvm.Free.XT.ii_ne_f (by decide)) ?_
      refine ow_iload (q := 221) Xc3 hx (hb hby own_d1_219) rfl rfl ?_
      refine ow_goto (q := 227) Xc3 hx (hb hby own_d1_221) (by decide) (by decide) ?_
      refine ow_istore (q := 229) Xc3 hx (L' := #[rv a0, iv (1 : Int32), iv (3 : Int32), iv v2, iv (2 : Int32), iv lo, iv hi, iv (1 : Int32), iv v9, iv lo, iv hi]) (hb hby own_d1_227) rfl rfl ?_
      refine ow_iload (q := 231) Xc3 hx (hb hby own_d1_229) rfl rfl ?_
      refine ow_iload (q := 233) Xc3 hx (hb hby own_d1_231) rfl rfl ?_
      by_cases hc233_10 : v9 < lo
      · refine ow_icmpYes (q := 243) Xc3 hx (hb hby own_d1_233) (Jvm.Free.XT.ii_lt_t hc233_10) (by decide) (by decide) ?_
        refine ow_iconst (q := 244) Xc3 hx (0 : Int32) (hb hby own_d1_243) rfl rfl ?_
        refine ownRetI Xc3 hx Bd.returns (hb hby own_d1_244) hlk (by decide) (by decide) ?_
        subst hv_v9 hv_v8 hv_v2 hv_v1
        rw [ec3]
        refine ⟨(0 : Int32), rfl, Nc3, rfl, ?_⟩
        unfold own_H at hH
        simp only [Int32.lt_iff_toInt_lt, ← Int32.toInt_inj, Int32.reduceToInt] at hc233_10 hH ⊢
        unfold own_sq
        (repeat' split) <;> omega
      · refine ow_icmpNo (q := 236) Xc3 hx (hb hby own_d1_233) rfl (Jvm.Free.XT.ii_lt_f hc233_10) ?_
        refine ow_iload (q := 238) Xc3 hx (hb hby own_d1_236) rfl rfl ?_
        refine ow_iload (q := 240) Xc3 hx (hb hby own_d1_238) rfl rfl ?_
        by_cases hc240_11 : hi < v9
        · refine ow_icmpNo (q := 243) Xc3 hx (hb hby own_d1_240) rfl (Jvm.Free.XT.ii_le_f hc240_11) ?_
          refine ow_iconst (q := 244) Xc3 hx (0 : Int32) (hb hby own_d1_243) rfl rfl ?_
          refine ownRetI Xc3 hx Bd.returns (hb hby own_d1_244) hlk (by decide) (by decide) ?_
          subst hv_v9 hv_v8 hv_v2 hv_v1
          rw [ec3]
          refine ⟨(0 : Int32), rfl, Nc3, rfl, ?_⟩
          unfold own_H at hH
          simp only [Int32.lt_iff_toInt_lt, ← Int32.toInt_inj, Int32.reduceToInt] at hc233_10 hc240_11 hH ⊢
          unfold own_sq
          (repeat' split) <;> omega
        · refine ow_icmpYes (q := 245) Xc3 hx (hb hby own_d1_240) (Jvm.Free.XT.ii_le_t hc240_11) (by decide) (by decide) ?_
          refine ow_iinc (q := 248) Xc3 hx (L' := #[rv a0, iv (1 : Int32), iv (3 : Int32), iv v2, iv (2 : Int32), iv lo, iv hi, iv (2 : Int32), iv v9, iv lo, iv hi]) (hb hby own_d1_245) rfl rfl rfl ?_
          refine ow_goto (q := 178) Xc3 hx (hb hby own_d1_248) (by decide) (by decide) ?_
          refine ow_iload (q := 180) Xc3 hx (hb hby own_d1_178) rfl rfl ?_
          refine ow_iload (q := 182) Xc3 hx (hb hby own_d1_180) rfl rfl ?_
          refine ow_icmpYes (q := 251) Xc3 hx (hb hby own_d1_182) (Jvm.Free.XT.ii_ge_t (by decide)) (by decide) (by decide) ?_
          refine ow_iload (q := 253) Xc3 hx (hb hby own_d1_251) rfl rfl ?_
          refine ownRetI Xc3 hx Bd.returns (hb hby own_d1_253) hlk (by decide) (by decide) ?_
          subst hv_v9 hv_v8 hv_v2 hv_v1
          rw [ec3]
          refine ⟨(2 : Int32), rfl, Nc3, rfl, ?_⟩
          unfold own_H at hH
          simp only [Int32.lt_iff_toInt_lt, ← Int32.toInt_inj, Int32.reduceToInt] at hc233_10 hc240_11 hH ⊢
          unfold own_sq
          (repeat' split) <;> omega
    · subst hs6
      refine ow_iload (q := 168) Xc3 hx (hb hby own_d1_166) rfl rfl ?_
      refine ow_iadd (q := 169) Xc3 hx (4 : Int32) (hb hby own_d1_168) rfl (by decide) ?_
      refine ow_iloadN (q := 170) Xc3 hx (hb hby own_d1_169) rfl rfl ?_
      refine ow_icmpNo (q := 173) Xc3 hx (hb hby own_d1_170) rfl (Jvm.Free.XT.ii_le_f (by decide)) ?_
      refine ow_iconst (q := 174) Xc3 hx (0 : Int32) (hb hby own_d1_173) rfl rfl ?_
      refine ownRetI Xc3 hx Bd.returns (hb hby own_d1_174) hlk (by decide) (by decide) ?_
      subst hv_v2 hv_v1
      rw [ec3]
      refine ⟨(0 : Int32), rfl, Nc3, rfl, ?_⟩
      unfold own_H at hH
      simp only [Int32.lt_iff_toInt_lt, ← Int32.toInt_inj, Int32.reduceToInt] at  hH ⊢
      unfold own_sq
      (repeat' split) <;> omega
    · subst hs7
      refine ow_iload (q := 168) Xc3 hx (hb hby own_d1_166) rfl rfl ?_
      refine ow_iadd (q := 169) Xc3 hx (5 : Int32) (hb hby own_d1_168) rfl (by decide) ?_
      refine ow_iloadN (q := 170) Xc3 hx (hb hby own_d1_169) rfl rfl ?_
      refine ow_icmpNo (q := 173) Xc3 hx (hb hby own_d1_170) rfl (Jvm.Free.XT.ii_le_f (by decide)) ?_
      refine ow_iconst (q := 174) Xc3 hx (0 : Int32) (hb hby own_d1_173) rfl rfl ?_
      refine ownRetI Xc3 hx Bd.returns (hb hby own_d1_174) hlk (by decide) (by decide) ?_
      subst hv_v2 hv_v1
      rw [ec3]
      refine ⟨(0 : Int32), rfl, Nc3, rfl, ?_⟩
      unfold own_H at hH
      simp only [Int32.lt_iff_toInt_lt, ← Int32.toInt_inj, Int32.reduceToInt] at  hH ⊢
      unfold own_sq
      (repeat' split) <;> omega
  refine ow_iloadN (q := 19) X0 hx (hb hby own_d1_18) rfl rfl ?_
  refine ow_sipush (q := 22) X0 hx (128 : Int32) (hb hby own_d1_19) rfl rfl ?_
  by_cases hc22_12 : v2 < (128 : Int32)
  · refine ow_icmpNo (q := 25) X0 hx (hb hby own_d1_22) rfl (Jvm.Free.XT.ii_ge_f hc22_12) ?_
    refine ow_iconst (q := 26) X0 hx (1 : Int32) (hb hby own_d1_25) rfl rfl ?_
    refine ow_istore (q := 28) X0 hx (L' := #[rv a0, iv (1 : Int32), iv (3 : Int32), iv v2, iv (1 : Int32), iv (128 : Int32), iv (191 : Int32), .unset, .unset, .unset, .unset]) (hb hby own_d1_26) rfl rfl ?_
    refine ow_goto (q := 165) X0 hx (hb hby own_d1_28) (by decide) (by decide) ?_
    exact cut165_3 (1 : Int32) (128 : Int32) (191 : Int32) _ _ X0 e0 N0 (by unfold own_H; simp only [Int32.lt_iff_toInt_lt, ← Int32.toInt_inj, Int32.reduceToInt, true_and, and_true] at hc22_12 ⊢; omega)
  · refine ow_icmpYes (q := 31) X0 hx (hb hby own_d1_22) (Jvm.Free.XT.ii_ge_t hc22_12) (by decide) (by decide) ?_
    refine ow_iloadN (q := 32) X0 hx (hb hby own_d1_31) rfl rfl ?_
    refine ow_sipush (q := 35) X0 hx (194 : Int32) (hb hby own_d1_32) rfl rfl ?_
    by_cases hc35_13 : v2 < (194 : Int32)
    · refine ow_icmpYes (q := 51) X0 hx (hb hby own_d1_35) (Jvm.Free.XT.ii_lt_t hc35_13) (by decide) (by decide) ?_
      refine ow_iloadN (q := 52) X0 hx (hb hby own_d1_51) rfl rfl ?_
      refine ow_sipush (q := 55) X0 hx (224 : Int32) (hb hby own_d1_52) rfl rfl ?_
      by_cases hc55_14 : v2 < (224 : Int32)
      · refine ow_icmpYes (q := 107) X0 hx (hb hby own_d1_55) (Jvm.Free.XT.ii_lt_t hc55_14) (by decide) (by decide) ?_
        refine ow_iloadN (q := 108) X0 hx (hb hby own_d1_107) rfl rfl ?_
        refine ow_sipush (q := 111) X0 hx (240 : Int32) (hb hby own_d1_108) rfl rfl ?_
        by_cases hc111_15 : v2 < (240 : Int32)
        · refine ow_icmpYes (q := 163) X0 hx (hb hby own_d1_111) (Jvm.Free.XT.ii_lt_t hc111_15) (by decide) (by decide) ?_
          refine ow_iconst (q := 164) X0 hx (0 : Int32) (hb hby own_d1_163) rfl rfl ?_
          refine ownRetI X0 hx Bd.returns (hb hby own_d1_164) hlk (by decide) (by decide) ?_
          subst hv_v2 hv_v1
          rw [e0]
          refine ⟨(0 : Int32), rfl, N0, rfl, ?_⟩
          simp only [Int32.lt_iff_toInt_lt, ← Int32.toInt_inj, Int32.reduceToInt] at hc22_12 hc35_13 hc55_14 hc111_15 ⊢
          unfold own_sq
          (repeat' split) <;> omega
        · refine ow_icmpNo (q := 114) X0 hx (hb hby own_d1_111) rfl (Jvm.Free.XT.ii_lt_f hc111_15) ?_
          refine ow_iloadN (q := 115) X0 hx (hb hby own_d1_114) rfl rfl ?_
          refine ow_sipush (q := 118) X0 hx (244 : Int32) (hb hby own_d1_115) rfl rfl ?_
          by_cases hc118_16 : (244 : Int32) < v2
          · refine ow_icmpYes (q := 163) X0 hx (hb hby own_d1_118) (Jvm.Free.XT.ii_gt_t hc118_16) (by decide) (by decide) ?_
            refine ow_iconst (q := 164) X0 hx (0 : Int32) (hb hby own_d1_163) rfl rfl ?_
            refine ownRetI X0 hx Bd.returns (hb hby own_d1_164) hlk (by decide) (by decide) ?_
            subst hv_v2 hv_v1
            rw [e0]
            refine ⟨(0 : Int32), rfl, N0, rfl, ?_⟩
            simp only [Int32.lt_iff_toInt_lt, ← Int32.toInt_inj, Int32.reduceToInt] at hc22_12 hc35_13 hc55_14 hc111_15 hc118_16 ⊢
            unfold own_sq
            (repeat' split) <;> omega
          · refine ow_icmpNo (q := 121) X0 hx (hb hby own_d1_118) rfl (Jvm.Free.XT.ii_gt_f hc118_16) ?_
            refine ow_iconst (q := 122) X0 hx (4 : Int32) (hb hby own_d1_121) rfl rfl ?_
            refine ow_istore (q := 124) X0 hx (L' := #[rv a0, iv (1 : Int32), iv (3 : Int32), iv v2, iv (4 : Int32), iv (128 : Int32), iv (191 : Int32), .unset, .unset, .unset, .unset]) (hb hby own_d1_122) rfl rfl ?_
            refine ow_iloadN (q := 125) X0 hx (hb hby own_d1_124) rfl rfl ?_
            refine ow_sipush (q := 128) X0 hx (240 : Int32) (hb hby own_d1_125) rfl rfl ?_
            by_cases hc128_17 : v2 = (240 : Int32)
            · refine ow_icmpNo (q := 131) X0 hx (hb hby own_d1_128) rfl (Jvm.Free.XT.ii_ne_f hc128_17) ?_
              refine ow_sipush (q := 134) X0 hx (144 : Int32) (hb hby own_d1_131) rfl rfl ?_
              refine ow_goto (q := 140) X0 hx (hb hby own_d1_134) (by decide) (by decide) ?_
              refine ow_istore (q := 142) X0 hx (L' := #[rv a0, iv (1 : Int32), iv (3 : Int32), iv v2, iv (4 : Int32), iv (144 : Int32), iv (191 : Int32), .unset, .unset, .unset, .unset]) (hb hby own_d1_140) rfl rfl ?_
              refine ow_iloadN (q := 143) X0 hx (hb hby own_d1_142) rfl rfl ?_
              refine ow_sipush (q := 146) X0 hx (244 : Int32) (hb hby own_d1_143) rfl rfl ?_
              by_cases hc146_18 : v2 = (244 : Int32)
              · refine ow_icmpNo (q := 149) X0 hx (hb hby own_d1_146) rfl (Jvm.Free.XT.ii_ne_f hc146_18) ?_
                refine ow_sipush (q := 152) X0 hx (143 : Int32) (hb hby own_d1_149) rfl rfl ?_
                refine ow_goto (q := 158) X0 hx (hb hby own_d1_152) (by decide) (by decide) ?_
                refine ow_istore (q := 160) X0 hx (L' := #[rv a0, iv (1 : Int32), iv (3 : Int32), iv v2, iv (4 : Int32), iv (144 : Int32), iv (143 : Int32), .unset, .unset, .unset, .unset]) (hb hby own_d1_158) rfl rfl ?_
                refine ow_goto (q := 165) X0 hx (hb hby own_d1_160) (by decide) (by decide) ?_
                exact cut165_3 (4 : Int32) (144 : Int32) (143 : Int32) _ _ X0 e0 N0 (by unfold own_H; simp only [Int32.lt_iff_toInt_lt, ← Int32.toInt_inj, Int32.reduceToInt, true_and, and_true] at hc22_12 hc35_13 hc55_14 hc111_15 hc118_16 hc128_17 hc146_18 ⊢; omega)
              · refine ow_icmpYes (q := 155) X0 hx (hb hby own_d1_146) (Jvm.Free.XT.ii_ne_t hc146_18) (by decide) (by decide) ?_
                refine ow_sipush (q := 158) X0 hx (191 : Int32) (hb hby own_d1_155) rfl rfl ?_
                refine ow_istore (q := 160) X0 hx (L' := #[rv a0, iv (1 : Int32), iv (3 : Int32), iv v2, iv (4 : Int32), iv (144 : Int32), iv (191 : Int32), .unset, .unset, .unset, .unset]) (hb hby own_d1_158) rfl rfl ?_
                refine ow_goto (q := 165) X0 hx (hb hby own_d1_160) (by decide) (by decide) ?_
                exact cut165_3 (4 : Int32) (144 : Int32) (191 : Int32) _ _ X0 e0 N0 (by unfold own_H; simp only [Int32.lt_iff_toInt_lt, ← Int32.toInt_inj, Int32.reduceToInt, true_and, and_true] at hc22_12 hc35_13 hc55_14 hc111_15 hc118_16 hc128_17 hc146_18 ⊢; omega)
            · refine ow_icmpYes (q := 137) X0 hx (hb hby own_d1_128) (Jvm.Free.XT.ii_ne_t hc128_17) (by decide) (by decide) ?_
              refine ow_sipush (q := 140) X0 hx (128 : Int32) (hb hby own_d1_137) rfl rfl ?_
              refine ow_istore (q := 142) X0 hx (L' := #[rv a0, iv (1 : Int32), iv (3 : Int32), iv v2, iv (4 : Int32), iv (128 : Int32), iv (191 : Int32), .unset, .unset, .unset, .unset]) (hb hby own_d1_140) rfl rfl ?_
              refine ow_iloadN (q := 143) X0 hx (hb hby own_d1_142) rfl rfl ?_
              refine ow_sipush (q := 146) X0 hx (244 : Int32) (hb hby own_d1_143) rfl rfl ?_
              by_cases hc146_19 : v2 = (244 : Int32)
              · refine ow_icmpNo (q := 149) X0 hx (hb hby own_d1_146) rfl (Jvm.Free.XT.ii_ne_f hc146_19) ?_
                refine ow_sipush (q := 152) X0 hx (143 : Int32) (hb hby own_d1_149) rfl rfl ?_
                refine ow_goto (q := 158) X0 hx (hb hby own_d1_152) (by decide) (by decide) ?_
                refine ow_istore (q := 160) X0 hx (L' := #[rv a0, iv (1 : Int32), iv (3 : Int32), iv v2, iv (4 : Int32), iv (128 : Int32), iv (143 : Int32), .unset, .unset, .unset, .unset]) (hb hby own_d1_158) rfl rfl ?_
                refine ow_goto (q := 165) X0 hx (hb hby own_d1_160) (by decide) (by decide) ?_
                exact cut165_3 (4 : Int32) (128 : Int32) (143 : Int32) _ _ X0 e0 N0 (by unfold own_H; simp only [Int32.lt_iff_toInt_lt, ← Int32.toInt_inj, Int32.reduceToInt, true_and, and_true] at hc22_12 hc35_13 hc55_14 hc111_15 hc118_16 hc128_17 hc146_19 ⊢; omega)
              · refine ow_icmpYes (q := 155) X0 hx (hb hby own_d1_146) (Jvm.Free.XT.ii_ne_t hc146_19) (by decide) (by decide) ?_
                refine ow_sipush (q := 158) X0 hx (191 : Int32) (hb hby own_d1_155) rfl rfl ?_
                refine ow_istore (q := 160) X0 hx (L' := #[rv a0, iv (1 : Int32), iv (3 : Int32), iv v2, iv (4 : Int32), iv (128 : Int32), iv (191 : Int32), .unset, .unset, .unset, .unset]) (hb hby own_d1_158) rfl rfl ?_
                refine ow_goto (q := 165) X0 hx (hb hby own_d1_160) (by decide) (by decide) ?_
                exact cut165_3 (4 : Int32) (128 : Int32) (191 : Int32) _ _ X0 e0 N0 (by unfold own_H; simp only [Int32.lt_iff_toInt_lt, ← Int32.toInt_inj, Int32.reduceToInt, true_and, and_true] at hc22_12 hc35_13 hc55_14 hc111_15 hc118_16 hc128_17 hc146_19 ⊢; omega)
      · refine ow_icmpNo (q := 58) X0 hx (hb hby own_d1_55) rfl (Jvm.Free.XT.ii_lt_f hc55_14) ?_
        refine ow_iloadN (q := 59) X0 hx (hb hby own_d1_58) rfl rfl ?_
        refine ow_sipush (q := 62) X0 hx (239 : Int32) (hb hby own_d1_59) rfl rfl ?_
        by_cases hc62_20 : (239 : Int32) < v2
        · refine ow_icmpYes (q := 107) X0 hx (hb hby own_d1_62) (Jvm.Free.XT.ii_gt_t hc62_20) (by decide) (by decide) ?_
          refine ow_iloadN (q := 108) X0 hx (hb hby own_d1_107) rfl rfl ?_
          refine ow_sipush (q := 111) X0 hx (240 : Int32) (hb hby own_d1_108) rfl rfl ?_
          by_cases hc111_21 : v2 < (240 : Int32)
          · refine ow_icmpYes (q := 163) X0 hx (hb hby own_d1_111) (Jvm.Free.XT.ii_lt_t hc111_21) (by decide) (by decide) ?_
            refine ow_iconst (q := 164) X0 hx (0 : Int32) (hb hby own_d1_163) rfl rfl ?_
            refine ownRetI X0 hx Bd.returns (hb hby own_d1_164) hlk (by decide) (by decide) ?_
            subst hv_v2 hv_v1
            rw [e0]
            refine ⟨(0 : Int32), rfl, N0, rfl, ?_⟩
            simp only [Int32.lt_iff_toInt_lt, ← Int32.toInt_inj, Int32.reduceToInt] at hc22_12 hc35_13 hc55_14 hc62_20 hc111_21 ⊢
            unfold own_sq
            (repeat' split) <;> omega
          · refine ow_icmpNo (q := 114) X0 hx (hb hby own_d1_111) rfl (Jvm.Free.XT.ii_lt_f hc111_21) ?_
            refine ow_iloadN (q := 115) X0 hx (hb hby own_d1_114) rfl rfl ?_
            refine ow_sipush (q := 118) X0 hx (244 : Int32) (hb hby own_d1_115) rfl rfl ?_
            by_cases hc118_22 : (244 : Int32) < v2
            · refine ow_icmpYes (q := 163) X0 hx (hb hby own_d1_118) (Jvm.Free.XT.ii_gt_t hc118_22) (by decide) (by decide) ?_
              refine ow_iconst (q := 164) X0 hx (0 : Int32) (hb hby own_d1_163) rfl rfl ?_
              refine ownRetI X0 hx Bd.returns (hb hby own_d1_164) hlk (by decide) (by decide) ?_
              subst hv_v2 hv_v1
              rw [e0]
              refine ⟨(0 : Int32), rfl, N0, rfl, ?_⟩
              simp only [Int32.lt_iff_toInt_lt, ← Int32.toInt_inj, Int32.reduceToInt] at hc22_12 hc35_13 hc55_14 hc62_20 hc111_21 hc118_22 ⊢
              unfold own_sq
              (repeat' split) <;> omega
            · refine ow_icmpNo (q := 121) X0 hx (hb hby own_d1_118) rfl (Jvm.Free.XT.ii_gt_f hc118_22) ?_
              refine ow_iconst (q := 122) X0 hx (4 : Int32) (hb hby own_d1_121) rfl rfl ?_
              refine ow_istore (q := 124) X0 hx (L' := #[rv a0, iv (1 : Int32), iv (3 : Int32), iv v2, iv (4 : Int32), iv (128 : Int32), iv (191 : Int32), .unset, .unset, .unset, .unset]) (hb hby own_d1_122) rfl rfl ?_
              refine ow_iloadN (q := 125) X0 hx (hb hby own_d1_124) rfl rfl ?_
              refine ow_sipush (q := 128) X0 hx (240 : Int32) (hb hby own_d1_125) rfl rfl ?_
              by_cases hc128_23 : v2 = (240 : Int32)
              · refine ow_icmpNo (q := 131) X0 hx (hb hby own_d1_128) rfl (Jvm.Free.XT.ii_ne_f hc128_23) ?_
                refine ow_sipush (q := 134) X0 hx (144 : Int32) (hb hby own_d1_131) rfl rfl ?_
                refine ow_goto (q := 140) X0 hx (hb hby own_d1_134) (by decide) (by decide) ?_
                refine ow_istore (q := 142) X0 hx (L' := #[rv a0, iv (1 : Int32), iv (3 : Int32), iv v2, iv (4 : Int32), iv (144 : Int32), iv (191 : Int32), .unset, .unset, .unset, .unset]) (hb hby own_d1_140) rfl rfl ?_
                refine ow_iloadN (q := 143) X0 hx (hb hby own_d1_142) rfl rfl ?_
                refine ow_sipush (q := 146) X0 hx (244 : Int32) (hb hby own_d1_143) rfl rfl ?_
                by_cases hc146_24 : v2 = (244 : Int32)
                · refine ow_icmpNo (q := 149) X0 hx (hb hby own_d1_146) rfl (Jvm.Free.XT.ii_ne_f hc146_24) ?_
                  refine ow_sipush (q := 152) X0 hx (143 : Int32) (hb hby own_d1_149) rfl rfl ?_
                  refine ow_goto (q := 158) X0 hx (hb hby own_d1_152) (by decide) (by decide) ?_
                  refine ow_istore (q := 160) X0 hx (L' := #[rv a0, iv (1 : Int32), iv (3 : Int32), iv v2, iv (4 : Int32), iv (144 : Int32), iv (143 : Int32), .unset, .unset, .unset, .unset]) (hb hby own_d1_158) rfl rfl ?_
                  refine ow_goto (q := 165) X0 hx (hb hby own_d1_160) (by decide) (by decide) ?_
                  exact cut165_3 (4 : Int32) (144 : Int32) (143 : Int32) _ _ X0 e0 N0 (by unfold own_H; simp only [Int32.lt_iff_toInt_lt, ← Int32.toInt_inj, Int32.reduceToInt, true_and, and_true] at hc22_12 hc35_13 hc55_14 hc62_20 hc111_21 hc118_22 hc128_23 hc146_24 ⊢; omega)
                · refine ow_icmpYes (q := 155) X0 hx (hb hby own_d1_146) (Jvm.Free.XT.ii_ne_t hc146_24) (by decide) (by decide) ?_
                  refine ow_sipush (q := 158) X0 hx (191 : Int32) (hb hby own_d1_155) rfl rfl ?_
                  refine ow_istore (q := 160) X0 hx (L' := #[rv a0, iv (1 : Int32), iv (3 : Int32), iv v2, iv (4 : Int32), iv (144 : Int32), iv (191 : Int32), .unset, .unset, .unset, .unset]) (hb hby own_d1_158) rfl rfl ?_
                  refine ow_goto (q := 165) X0 hx (hb hby own_d1_160) (by decide) (by decide) ?_
                  exact cut165_3 (4 : Int32) (144 : Int32) (191 : Int32) _ _ X0 e0 N0 (by unfold own_H; simp only [Int32.lt_iff_toInt_lt, ← Int32.toInt_inj, Int32.reduceToInt, true_and, and_true] at hc22_12 hc35_13 hc55_14 hc62_20 hc111_21 hc118_22 hc128_23 hc146_24 ⊢; omega)
              · refine ow_icmpYes (q := 137) X0 hx (hb hby own_d1_128) (Jvm.Free.XT.ii_ne_t hc128_23) (by decide) (by decide) ?_
                refine ow_sipush (q := 140) X0 hx (128 : Int32) (hb hby own_d1_137) rfl rfl ?_
                refine ow_istore (q := 142) X0 hx (L' := #[rv a0, iv (1 : Int32), iv (3 : Int32), iv v2, iv (4 : Int32), iv (128 : Int32), iv (191 : Int32), .unset, .unset, .unset, .unset]) (hb hby own_d1_140) rfl rfl ?_
                refine ow_iloadN (q := 143) X0 hx (hb hby own_d1_142) rfl rfl ?_
                refine ow_sipush (q := 146) X0 hx (244 : Int32) (hb hby own_d1_143) rfl rfl ?_
                by_cases hc146_25 : v2 = (244 : Int32)
                · refine ow_icmpNo (q := 149) X0 hx (hb hby own_d1_146) rfl (Jvm.Free.XT.ii_ne_f hc146_25) ?_
                  refine ow_sipush (q := 152) X0 hx (143 : Int32) (hb hby own_d1_149) rfl rfl ?_
                  refine ow_goto (q := 158) X0 hx (hb hby own_d1_152) (by decide) (by decide) ?_
                  refine ow_istore (q := 160) X0 hx (L' := #[rv a0, iv (1 : Int32), iv (3 : Int32), iv v2, iv (4 : Int32), iv (128 : Int32), iv (143 : Int32), .unset, .unset, .unset, .unset]) (hb hby own_d1_158) rfl rfl ?_
                  refine ow_goto (q := 165) X0 hx (hb hby own_d1_160) (by decide) (by decide) ?_
                  exact cut165_3 (4 : Int32) (128 : Int32) (143 : Int32) _ _ X0 e0 N0 (by unfold own_H; simp only [Int32.lt_iff_toInt_lt, ← Int32.toInt_inj, Int32.reduceToInt, true_and, and_true] at hc22_12 hc35_13 hc55_14 hc62_20 hc111_21 hc118_22 hc128_23 hc146_25 ⊢; omega)
                · refine ow_icmpYes (q := 155) X0 hx (hb hby own_d1_146) (Jvm.Free.XT.ii_ne_t hc146_25) (by decide) (by decide) ?_
                  refine ow_sipush (q := 158) X0 hx (191 : Int32) (hb hby own_d1_155) rfl rfl ?_
                  refine ow_istore (q := 160) X0 hx (L' := #[rv a0, iv (1 : Int32), iv (3 : Int32), iv v2, iv (4 : Int32), iv (128 : Int32), iv (191 : Int32), .unset, .unset, .unset, .unset]) (hb hby own_d1_158) rfl rfl ?_
                  refine ow_goto (q := 165) X0 hx (hb hby own_d1_160) (by decide) (by decide) ?_
                  exact cut165_3 (4 : Int32) (128 : Int32) (191 : Int32) _ _ X0 e0 N0 (by unfold own_H; simp only [Int32.lt_iff_toInt_lt, ← Int32.toInt_inj, Int32.reduceToInt, true_and, and_true] at hc22_12 hc35_13 hc55_14 hc62_20 hc111_21 hc118_22 hc128_23 hc146_25 ⊢; omega)
        · refine ow_icmpNo (q := 65) X0 hx (hb hby own_d1_62) rfl (Jvm.Free.XT.ii_gt_f hc62_20) ?_
          refine ow_iconst (q := 66) X0 hx (3 : Int32) (hb hby own_d1_65) rfl rfl ?_
          refine ow_istore (q := 68) X0 hx (L' := #[rv a0, iv (1 : Int32), iv (3 : Int32), iv v2, iv (3 : Int32), iv (128 : Int32), iv (191 : Int32), .unset, .unset, .unset, .unset]) (hb hby own_d1_66) rfl rfl ?_
          refine ow_iloadN (q := 69) X0 hx (hb hby own_d1_68) rfl rfl ?_
          refine ow_sipush (q := 72) X0 hx (224 : Int32) (hb hby own_d1_69) rfl rfl ?_
          by_cases hc72_26 : v2 = (224 : Int32)
          · refine ow_icmpNo (q := 75) X0 hx (hb hby own_d1_72) rfl (Jvm.Free.XT.ii_ne_f hc72_26) ?_
            refine ow_sipush (q := 78) X0 hx (160 : Int32) (hb hby own_d1_75) rfl rfl ?_
            refine ow_goto (q := 84) X0 hx (hb hby own_d1_78) (by decide) (by decide) ?_
            refine ow_istore (q := 86) X0 hx (L' := #[rv a0, iv (1 : Int32), iv (3 : Int32), iv v2, iv (3 : Int32), iv (160 : Int32), iv (191 : Int32), .unset, .unset, .unset, .unset]) (hb hby own_d1_84) rfl rfl ?_
            refine ow_iloadN (q := 87) X0 hx (hb hby own_d1_86) rfl rfl ?_
            refine ow_sipush (q := 90) X0 hx (237 : Int32) (hb hby own_d1_87) rfl rfl ?_
            by_cases hc90_27 : v2 = (237 : Int32)
            · refine ow_icmpNo (q := 93) X0 hx (hb hby own_d1_90) rfl (Jvm.Free.XT.ii_ne_f hc90_27) ?_
              refine ow_sipush (q := 96) X0 hx (159 : Int32) (hb hby own_d1_93) rfl rfl ?_
              refine ow_goto (q := 102) X0 hx (hb hby own_d1_96) (by decide) (by decide) ?_
              refine ow_istore (q := 104) X0 hx (L' := #[rv a0, iv (1 : Int32), iv (3 : Int32), iv v2, iv (3 : Int32), iv (160 : Int32), iv (159 : Int32), .unset, .unset, .unset, .unset]) (hb hby own_d1_102) rfl rfl ?_
              refine ow_goto (q := 165) X0 hx (hb hby own_d1_104) (by decide) (by decide) ?_
              exact cut165_3 (3 : Int32) (160 : Int32) (159 : Int32) _ _ X0 e0 N0 (by unfold own_H; simp only [Int32.lt_iff_toInt_lt, ← Int32.toInt_inj, Int32.reduceToInt, true_and, and_true] at hc22_12 hc35_13 hc55_14 hc62_20 hc72_26 hc90_27 ⊢; omega)
            · refine ow_icmpYes (q := 99) X0 hx (hb hby own_d1_90) (Jvm.Free.XT.ii_ne_t hc90_27) (by decide) (by decide) ?_
              refine ow_sipush (q := 102) X0 hx (191 : Int32) (hb hby own_d1_99) rfl rfl ?_
              refine ow_istore (q := 104) X0 hx (L' := #[rv a0, iv (1 : Int32), iv (3 : Int32), iv v2, iv (3 : Int32), iv (160 : Int32), iv (191 : Int32), .unset, .unset, .unset, .unset]) (hb hby own_d1_102) rfl rfl ?_
              refine ow_goto (q := 165) X0 hx (hb hby own_d1_104) (by decide) (by decide) ?_
              exact cut165_3 (3 : Int32) (160 : Int32) (191 : Int32) _ _ X0 e0 N0 (by unfold own_H; simp only [Int32.lt_iff_toInt_lt, ← Int32.toInt_inj, Int32.reduceToInt, true_and, and_true] at hc22_12 hc35_13 hc55_14 hc62_20 hc72_26 hc90_27 ⊢; omega)
          · refine ow_icmpYes (q := 81) X0 hx (hb hby own_d1_72) (Jvm.Free.XT.ii_ne_t hc72_26) (by decide) (by decide) ?_
            refine ow_sipush (q := 84) X0 hx (128 : Int32) (hb hby own_d1_81) rfl rfl ?_
            refine ow_istore (q := 86) X0 hx (L' := #[rv a0, iv (1 : Int32), iv (3 : Int32), iv v2, iv (3 : Int32), iv (128 : Int32), iv (191 : Int32), .unset, .unset, .unset, .unset]) (hb hby own_d1_84) rfl rfl ?_
            refine ow_iloadN (q := 87) X0 hx (hb hby own_d1_86) rfl rfl ?_
            refine ow_sipush (q := 90) X0 hx (237 : Int32) (hb hby own_d1_87) rfl rfl ?_
            by_cases hc90_28 : v2 = (237 : Int32)
            · refine ow_icmpNo (q := 93) X0 hx (hb hby own_d1_90) rfl (Jvm.Free.XT.ii_ne_f hc90_28) ?_
              refine ow_sipush (q := 96) X0 hx (159 : Int32) (hb hby own_d1_93) rfl rfl ?_
              refine ow_goto (q := 102) X0 hx (hb hby own_d1_96) (by decide) (by decide) ?_
              refine ow_istore (q := 104) X0 hx (L' := #[rv a0, iv (1 : Int32), iv (3 : Int32), iv v2, iv (3 : Int32), iv (128 : Int32), iv (159 : Int32), .unset, .unset, .unset, .unset]) (hb hby own_d1_102) rfl rfl ?_
              refine ow_goto (q := 165) X0 hx (hb hby own_d1_104) (by decide) (by decide) ?_
              exact cut165_3 (3 : Int32) (128 : Int32) (159 : Int32) _ _ X0 e0 N0 (by unfold own_H; simp only [Int32.lt_iff_toInt_lt, ← Int32.toInt_inj, Int32.reduceToInt, true_and, and_true] at hc22_12 hc35_13 hc55_14 hc62_20 hc72_26 hc90_28 ⊢; omega)
            · refine ow_icmpYes (q := 99) X0 hx (hb hby own_d1_90) (Jvm.Free.XT.ii_ne_t hc90_28) (by decide) (by decide) ?_
              refine ow_sipush (q := 102) X0 hx (191 : Int32) (hb hby own_d1_99) rfl rfl ?_
              refine ow_istore (q := 104) X0 hx (L' := #[rv a0, iv (1 : Int32), iv (3 : Int32), iv v2, iv (3 : Int32), iv (128 : Int32), iv (191 : Int32), .unset, .unset, .unset, .unset]) (hb hby own_d1_102) rfl rfl ?_
              refine ow_goto (q := 165) X0 hx (hb hby own_d1_104) (by decide) (by decide) ?_
              exact cut165_3 (3 : Int32) (128 : Int32) (191 : Int32) _ _ X0 e0 N0 (by unfold own_H; simp only [Int32.lt_iff_toInt_lt, ← Int32.toInt_inj, Int32.reduceToInt, true_and, and_true] at hc22_12 hc35_13 hc55_14 hc62_20 hc72_26 hc90_28 ⊢; omega)
    · refine ow_icmpNo (q := 38) X0 hx (hb hby own_d1_35) rfl (Jvm.Free.XT.ii_lt_f hc35_13) ?_
      refine ow_iloadN (q := 39) X0 hx (hb hby own_d1_38) rfl rfl ?_
      refine ow_sipush (q := 42) X0 hx (223 : Int32) (hb hby own_d1_39) rfl rfl ?_
      by_cases hc42_29 : (223 : Int32) < v2
      · refine ow_icmpYes (q := 51) X0 hx (hb hby own_d1_42) (Jvm.Free.XT.ii_gt_t hc42_29) (by decide) (by decide) ?_
        refine ow_iloadN (q := 52) X0 hx (hb hby own_d1_51) rfl rfl ?_
        refine ow_sipush (q := 55) X0 hx (224 : Int32) (hb hby own_d1_52) rfl rfl ?_
        by_cases hc55_30 : v2 < (224 : Int32)
        · refine ow_icmpYes (q := 107) X0 hx (hb hby own_d1_55) (Jvm.Free.XT.ii_lt_t hc55_30) (by decide) (by decide) ?_
          refine ow_iloadN (q := 108) X0 hx (hb hby own_d1_107) rfl rfl ?_
          refine ow_sipush (q := 111) X0 hx (240 : Int32) (hb hby own_d1_108) rfl rfl ?_
          by_cases hc111_31 : v2 < (240 : Int32)
          · refine ow_icmpYes (q := 163) X0 hx (hb hby own_d1_111) (Jvm.Free.XT.ii_lt_t hc111_31) (by decide) (by decide) ?_
            refine ow_iconst (q := 164) X0 hx (0 : Int32) (hb hby own_d1_163) rfl rfl ?_
            refine ownRetI X0 hx Bd.returns (hb hby own_d1_164) hlk (by decide) (by decide) ?_
            subst hv_v2 hv_v1
            rw [e0]
            refine ⟨(0 : Int32), rfl, N0, rfl, ?_⟩
            simp only [Int32.lt_iff_toInt_lt, ← Int32.toInt_inj, Int32.reduceToInt] at hc22_12 hc35_13 hc42_29 hc55_30 hc111_31 ⊢
            unfold own_sq
            (repeat' split) <;> omega
          · refine ow_icmpNo (q := 114) X0 hx (hb hby own_d1_111) rfl (Jvm.Free.XT.ii_lt_f hc111_31) ?_
            refine ow_iloadN (q := 115) X0 hx (hb hby own_d1_114) rfl rfl ?_
            refine ow_sipush (q := 118) X0 hx (244 : Int32) (hb hby own_d1_115) rfl rfl ?_
            by_cases hc118_32 : (244 : Int32) < v2
            · refine ow_icmpYes (q := 163) X0 hx (hb hby own_d1_118) (Jvm.Free.XT.ii_gt_t hc118_32) (by decide) (by decide) ?_
              refine ow_iconst (q := 164) X0 hx (0 : Int32) (hb hby own_d1_163) rfl rfl ?_
              refine ownRetI X0 hx Bd.returns (hb hby own_d1_164) hlk (by decide) (by decide) ?_
              subst hv_v2 hv_v1
              rw [e0]
              refine ⟨(0 : Int32), rfl, N0, rfl, ?_⟩
              simp only [Int32.lt_iff_toInt_lt, ← Int32.toInt_inj, Int32.reduceToInt] at hc22_12 hc35_13 hc42_29 hc55_30 hc111_31 hc118_32 ⊢
              unfold own_sq
              (repeat' split) <;> omega
            · refine ow_icmpNo (q := 121) X0 hx (hb hby own_d1_118) rfl (Jvm.Free.XT.ii_gt_f hc118_32) ?_
              refine ow_iconst (q := 122) X0 hx (4 : Int32) (hb hby own_d1_121) rfl rfl ?_
              refine ow_istore (q := 124) X0 hx (L' := #[rv a0, iv (1 : Int32), iv (3 : Int32), iv v2, iv (4 : Int32), iv (128 : Int32), iv (191 : Int32), .unset, .unset, .unset, .unset]) (hb hby own_d1_122) rfl rfl ?_
              refine ow_iloadN (q := 125) X0 hx (hb hby own_d1_124) rfl rfl ?_
              refine ow_sipush (q := 128) X0 hx (240 : Int32) (hb hby own_d1_125) rfl rfl ?_
              by_cases hc128_33 : v2 = (240 : Int32)
              · refine ow_icmpNo (q := 131) X0 hx (hb hby own_d1_128) rfl (Jvm.Free.XT.ii_ne_f hc128_33) ?_
                refine ow_sipush (q := 134) X0 hx (144 : Int32) (hb hby own_d1_131) rfl rfl ?_
                refine ow_goto (q := 140) X0 hx (hb hby own_d1_134) (by decide) (by decide) ?_
                refine ow_istore (q := 142) X0 hx (L' := #[rv a0, iv (1 : Int32), iv (3 : Int32), iv v2, iv (4 : Int32), iv (144 : Int32), iv (191 : Int32), .unset, .unset, .unset, .unset]) (hb hby own_d1_140) rfl rfl ?_
                refine ow_iloadN (q := 143) X0 hx (hb hby own_d1_142) rfl rfl ?_
                refine ow_sipush (q := 146) X0 hx (244 : Int32) (hb hby own_d1_143) rfl rfl ?_
                by_cases hc146_34 : v2 = (244 : Int32)
                · refine ow_icmpNo (q := 149) X0 hx (hb hby own_d1_146) rfl (Jvm.Free.XT.ii_ne_f hc146_34) ?_
                  refine ow_sipush (q := 152) X0 hx (143 : Int32) (hb hby own_d1_149) rfl rfl ?_
                  refine ow_goto (q := 158) X0 hx (hb hby own_d1_152) (by decide) (by decide) ?_
                  refine ow_istore (q := 160) X0 hx (L' := #[rv a0, iv (1 : Int32), iv (3 : Int32), iv v2, iv (4 : Int32), iv (144 : Int32), iv (143 : Int32), .unset, .unset, .unset, .unset]) (hb hby own_d1_158) rfl rfl ?_
                  refine ow_goto (q := 165) X0 hx (hb hby own_d1_160) (by decide) (by decide) ?_
                  exact cut165_3 (4 : Int32) (144 : Int32) (143 : Int32) _ _ X0 e0 N0 (by unfold own_H; simp only [Int32.lt_iff_toInt_lt, ← Int32.toInt_inj, Int32.reduceToInt, true_and, and_true] at hc22_12 hc35_13 hc42_29 hc55_30 hc111_31 hc118_32 hc128_33 hc146_34 ⊢; omega)
                · refine ow_icmpYes (q := 155) X0 hx (hb hby own_d1_146) (Jvm.Free.XT.ii_ne_t hc146_34) (by decide) (by decide) ?_
                  refine ow_sipush (q := 158) X0 hx (191 : Int32) (hb hby own_d1_155) rfl rfl ?_
                  refine ow_istore (q := 160) X0 hx (L' := #[rv a0, iv (1 : Int32), iv (3 : Int32), iv v2, iv (4 : Int32), iv (144 : Int32), iv (191 : Int32), .unset, .unset, .unset, .unset]) (hb hby own_d1_158) rfl rfl ?_
                  refine ow_goto (q := 165) X0 hx (hb hby own_d1_160) (by decide) (by decide) ?_
                  exact cut165_3 (4 : Int32) (144 : Int32) (191 : Int32) _ _ X0 e0 N0 (by unfold own_H; simp only [Int32.lt_iff_toInt_lt, ← Int32.toInt_inj, Int32.reduceToInt, true_and, and_true] at hc22_12 hc35_13 hc42_29 hc55_30 hc111_31 hc118_32 hc128_33 hc146_34 ⊢; omega)
              · refine ow_icmpYes (q := 137) X0 hx (hb hby own_d1_128) (Jvm.Free.XT.ii_ne_t hc128_33) (by decide) (by decide) ?_
                refine ow_sipush (q := 140) X0 hx (128 : Int32) (hb hby own_d1_137) rfl rfl ?_
                refine ow_istore (q := 142) X0 hx (L' := #[rv a0, iv (1 : Int32), iv (3 : Int32), iv v2, iv (4 : Int32), iv (128 : Int32), iv (191 : Int32), .unset, .unset, .unset, .unset]) (hb hby own_d1_140) rfl rfl ?_
                refine ow_iloadN (q := 143) X0 hx (hb hby own_d1_142) rfl rfl ?_
                refine ow_sipush (q := 146) X0 hx (244 : Int32) (hb hby own_d1_143) rfl rfl ?_
                by_cases hc146_35 : v2 = (244 : Int32)
                · refine ow_icmpNo (q := 149) X0 hx (hb hby own_d1_146) rfl (Jvm.Free.XT.ii_ne_f hc146_35) ?_
                  refine ow_sipush (q := 152) X0 hx (143 : Int32) (hb hby own_d1_149) rfl rfl ?_
                  refine ow_goto (q := 158) X0 hx (hb hby own_d1_152) (by decide) (by decide) ?_
                  refine ow_istore (q := 160) X0 hx (L' := #[rv a0, iv (1 : Int32), iv (3 : Int32), iv v2, iv (4 : Int32), iv (128 : Int32), iv (143 : Int32), .unset, .unset, .unset, .unset]) (hb hby own_d1_158) rfl rfl ?_
                  refine ow_goto (q := 165) X0 hx (hb hby own_d1_160) (by decide) (by decide) ?_
                  exact cut165_3 (4 : Int32) (128 : Int32) (143 : Int32) _ _ X0 e0 N0 (by unfold own_H; simp only [Int32.lt_iff_toInt_lt, ← Int32.toInt_inj, Int32.reduceToInt, true_and, and_true] at hc22_12 hc35_13 hc42_29 hc55_30 hc111_31 hc118_32 hc128_33 hc146_35 ⊢; omega)
                · refine ow_icmpYes (q := 155) X0 hx (hb hby own_d1_146) (Jvm.Free.XT.ii_ne_t hc146_35) (by decide) (by decide) ?_
                  refine ow_sipush (q := 158) X0 hx (191 : Int32) (hb hby own_d1_155) rfl rfl ?_
                  refine ow_istore (q := 160) X0 hx (L' := #[rv a0, iv (1 : Int32), iv (3 : Int32), iv v2, iv (4 : Int32), iv (128 : Int32), iv (191 : Int32), .unset, .unset, .unset, .unset]) (hb hby own_d1_158) rfl rfl ?_
                  refine ow_goto (q := 165) X0 hx (hb hby own_d1_160) (by decide) (by decide) ?_
                  exact cut165_3 (4 : Int32) (128 : Int32) (191 : Int32) _ _ X0 e0 N0 (by unfold own_H; simp only [Int32.lt_iff_toInt_lt, ← Int32.toInt_inj, Int32.reduceToInt, true_and, and_true] at hc22_12 hc35_13 hc42_29 hc55_30 hc111_31 hc118_32 hc128_33 hc146_35 ⊢; omega)
        · refine ow_icmpNo (q := 58) X0 hx (hb hby own_d1_55) rfl (Jvm.Free.XT.ii_lt_f hc55_30) ?_
          refine ow_iloadN (q := 59) X0 hx (hb hby own_d1_58) rfl rfl ?_
          refine ow_sipush (q := 62) X0 hx (239 : Int32) (hb hby own_d1_59) rfl rfl ?_
          by_cases hc62_36 : (239 : Int32) < v2
          · refine ow_icmpYes (q := 107) X0 hx (hb hby own_d1_62) (Jvm.Free.XT.ii_gt_t hc62_36) (by decide) (by decide) ?_
            refine ow_iloadN (q := 108) X0 hx (hb hby own_d1_107) rfl rfl ?_
            refine ow_sipush (q := 111) X0 hx (240 : Int32) (hb hby own_d1_108) rfl rfl ?_
            by_cases hc111_37 : v2 < (240 : Int32)
            · refine ow_icmpYes (q := 163) X0 hx (hb hby own_d1_111) (Jvm.Free.XT.ii_lt_t hc111_37) (by decide) (by decide) ?_
              refine ow_iconst (q := 164) X0 hx (0 : Int32) (hb hby own_d1_163) rfl rfl ?_
              refine ownRetI X0 hx Bd.returns (hb hby own_d1_164) hlk (by decide) (by decide) ?_
              subst hv_v2 hv_v1
              rw [e0]
              refine ⟨(0 : Int32), rfl, N0, rfl, ?_⟩
              simp only [Int32.lt_iff_toInt_lt, ← Int32.toInt_inj, Int32.reduceToInt] at hc22_12 hc35_13 hc42_29 hc55_30 hc62_36 hc111_37 ⊢
              unfold own_sq
              (repeat' split) <;> omega
            · refine ow_icmpNo (q := 114) X0 hx (hb hby own_d1_111) rfl (Jvm.Free.XT.ii_lt_f hc111_37) ?_
              refine ow_iloadN (q := 115) X0 hx (hb hby own_d1_114) rfl rfl ?_
              refine ow_sipush (q := 118) X0 hx (244 : Int32) (hb hby own_d1_115) rfl rfl ?_
              by_cases hc118_38 : (244 : Int32) < v2
              · refine ow_icmpYes (q := 163) X0 hx (hb hby own_d1_118) (Jvm.Free.XT.ii_gt_t hc118_38) (by decide) (by decide) ?_
                refine ow_iconst (q := 164) X0 hx (0 : Int32) (hb hby own_d1_163) rfl rfl ?_
                refine ownRetI X0 hx Bd.returns (hb hby own_d1_164) hlk (by decide) (by decide) ?_
                subst hv_v2 hv_v1
                rw [e0]
                refine ⟨(0 : Int32), rfl, N0, rfl, ?_⟩
                simp only [Int32.lt_iff_toInt_lt, ← Int32.toInt_inj, Int32.reduceToInt] at hc22_12 hc35_13 hc42_29 hc55_30 hc62_36 hc111_37 hc118_38 ⊢
                unfold own_sq
                (repeat' split) <;> omega
              · refine ow_icmpNo (q := 121) X0 hx (hb hby own_d1_118) rfl (Jvm.Free.XT.ii_gt_f hc118_38) ?_
                refine ow_iconst (q := 122) X0 hx (4 : Int32) (hb hby own_d1_121) rfl rfl ?_
                refine ow_istore (q := 124) X0 hx (L' := #[rv a0, iv (1 : Int32), iv (3 : Int32), iv v2, iv (4 : Int32), iv (128 : Int32), iv (191 : Int32), .unset, .unset, .unset, .unset]) (hb hby own_d1_122) rfl rfl ?_
                refine ow_iloadN (q := 125) X0 hx (hb hby own_d1_124) rfl rfl ?_
                refine ow_sipush (q := 128) X0 hx (240 : Int32) (hb hby own_d1_125) rfl rfl ?_
                by_cases hc128_39 : v2 = (240 : Int32)
                · refine ow_icmpNo (q := 131) X0 hx (hb hby own_d1_128) rfl (Jvm.Free.XT.ii_ne_f hc128_39) ?_
                  refine ow_sipush (q := 134) X0 hx (144 : Int32) (hb hby own_d1_131) rfl rfl ?_
                  refine ow_goto (q := 140) X0 hx (hb hby own_d1_134) (by decide) (by decide) ?_
                  refine ow_istore (q := 142) X0 hx (L' := #[rv a0, iv (1 : Int32), iv (3 : Int32), iv v2, iv (4 : Int32), iv (144 : Int32), iv (191 : Int32), .unset, .unset, .unset, .unset]) (hb hby own_d1_140) rfl rfl ?_
                  refine ow_iloadN (q := 143) X0 hx (hb hby own_d1_142) rfl rfl ?_
                  refine ow_sipush (q := 146) X0 hx (244 : Int32) (hb hby own_d1_143) rfl rfl ?_
                  by_cases hc146_40 : v2 = (244 : Int32)
                  · refine ow_icmpNo (q := 149) X0 hx (hb hby own_d1_146) rfl (Jvm.Free.XT.ii_ne_f hc146_40) ?_
                    refine ow_sipush (q := 152) X0 hx (143 : Int32) (hb hby own_d1_149) rfl rfl ?_
                    refine ow_goto (q := 158) X0 hx (hb hby own_d1_152) (by decide) (by decide) ?_
                    refine ow_istore (q := 160) X0 hx (L' := #[rv a0, iv (1 : Int32), iv (3 : Int32), iv v2, iv (4 : Int32), iv (144 : Int32), iv (143 : Int32), .unset, .unset, .unset, .unset]) (hb hby own_d1_158) rfl rfl ?_
                    refine ow_goto (q := 165) X0 hx (hb hby own_d1_160) (by decide) (by decide) ?_
                    exact cut165_3 (4 : Int32) (144 : Int32) (143 : Int32) _ _ X0 e0 N0 (by unfold own_H; simp only [Int32.lt_iff_toInt_lt, ← Int32.toInt_inj, Int32.reduceToInt, true_and, and_true] at hc22_12 hc35_13 hc42_29 hc55_30 hc62_36 hc111_37 hc118_38 hc128_39 hc146_40 ⊢; omega)
                  · refine ow_icmpYes (q := 155) X0 hx (hb hby own_d1_146) (Jvm.Free.XT.ii_ne_t hc146_40) (by decide) (by decide) ?_
                    refine ow_sipush (q := 158) X0 hx (191 : Int32) (hb hby own_d1_155) rfl rfl ?_
                    refine ow_istore (q := 160) X0 hx (L' := #[rv a0, iv (1 : Int32), iv (3 : Int32), iv v2, iv (4 : Int32), iv (144 : Int32), iv (191 : Int32), .unset, .unset, .unset, .unset]) (hb hby own_d1_158) rfl rfl ?_
                    refine ow_goto (q := 165) X0 hx (hb hby own_d1_160) (by decide) (by decide) ?_
                    exact cut165_3 (4 : Int32) (144 : Int32) (191 : Int32) _ _ X0 e0 N0 (by unfold own_H; simp only [Int32.lt_iff_toInt_lt, ← Int32.toInt_inj, Int32.reduceToInt, true_and, and_true] at hc22_12 hc35_13 hc42_29 hc55_30 hc62_36 hc111_37 hc118_38 hc128_39 hc146_40 ⊢; omega)
                · refine ow_icmpYes (q := 137) X0 hx (hb hby own_d1_128) (Jvm.Free.XT.ii_ne_t hc128_39) (by decide) (by decide) ?_
                  refine ow_sipush (q := 140) X0 hx (128 : Int32) (hb hby own_d1_137) rfl rfl ?_
                  refine ow_istore (q := 142) X0 hx (L' := #[rv a0, iv (1 : Int32), iv (3 : Int32), iv v2, iv (4 : Int32), iv (128 : Int32), iv (191 : Int32), .unset, .unset, .unset, .unset]) (hb hby own_d1_140) rfl rfl ?_
                  refine ow_iloadN (q := 143) X0 hx (hb hby own_d1_142) rfl rfl ?_
                  refine ow_sipush (q := 146) X0 hx (244 : Int32) (hb hby own_d1_143) rfl rfl ?_
                  by_cases hc146_41 : v2 = (244 : Int32)
                  · refine ow_icmpNo (q := 149) X0 hx (hb hby own_d1_146) rfl (Jvm.Free.XT.ii_ne_f hc146_41) ?_
                    refine ow_sipush (q := 152) X0 hx (143 : Int32) (hb hby own_d1_149) rfl rfl ?_
                    refine ow_goto (q := 158) X0 hx (hb hby own_d1_152) (by decide) (by decide) ?_
                    refine ow_istore (q := 160) X0 hx (L' := #[rv a0, iv (1 : Int32), iv (3 : Int32), iv v2, iv (4 : Int32), iv (128 : Int32), iv (143 : Int32), .unset, .unset, .unset, .unset]) (hb hby own_d1_158) rfl rfl ?_
                    refine ow_goto (q := 165) X0 hx (hb hby own_d1_160) (by decide) (by decide) ?_
                    exact cut165_3 (4 : Int32) (128 : Int32) (143 : Int32) _ _ X0 e0 N0 (by unfold own_H; simp only [Int32.lt_iff_toInt_lt, ← Int32.toInt_inj, Int32.reduceToInt, true_and, and_true] at hc22_12 hc35_13 hc42_29 hc55_30 hc62_36 hc111_37 hc118_38 hc128_39 hc146_41 ⊢; omega)
                  · refine ow_icmpYes (q := 155) X0 hx (hb hby own_d1_146) (Jvm.Free.XT.ii_ne_t hc146_41) (by decide) (by decide) ?_
                    refine ow_sipush (q := 158) X0 hx (191 : Int32) (hb hby own_d1_155) rfl rfl ?_
                    refine ow_istore (q := 160) X0 hx (L' := #[rv a0, iv (1 : Int32), iv (3 : Int32), iv v2, iv (4 : Int32), iv (128 : Int32), iv (191 : Int32), .unset, .unset, .unset, .unset]) (hb hby own_d1_158) rfl rfl ?_
                    refine ow_goto (q := 165) X0 hx (hb hby own_d1_160) (by decide) (by decide) ?_
                    exact cut165_3 (4 : Int32) (128 : Int32) (191 : Int32) _ _ X0 e0 N0 (by unfold own_H; simp only [Int32.lt_iff_toInt_lt, ← Int32.toInt_inj, Int32.reduceToInt, true_and, and_true] at hc22_12 hc35_13 hc42_29 hc55_30 hc62_36 hc111_37 hc118_38 hc128_39 hc146_41 ⊢; omega)
          · refine ow_icmpNo (q := 65) X0 hx (hb hby own_d1_62) rfl (Jvm.Free.XT.ii_gt_f hc62_36) ?_
            refine ow_iconst (q := 66) X0 hx (3 : Int32) (hb hby own_d1_65) rfl rfl ?_
            refine ow_istore (q := 68) X0 hx (L' := #[rv a0, iv (1 : Int32), iv (3 : Int32), iv v2, iv (3 : Int32), iv (128 : Int32), iv (191 : Int32), .unset, .unset, .unset, .unset]) (hb hby own_d1_66) rfl rfl ?_
            refine ow_iloadN (q := 69) X0 hx (hb hby own_d1_68) rfl rfl ?_
            refine ow_sipush (q := 72) X0 hx (224 : Int32) (hb hby own_d1_69) rfl rfl ?_
            by_cases hc72_42 : v2 = (224 : Int32)
            · refine ow_icmpNo (q := 75) X0 hx (hb hby own_d1_72) rfl (Jvm.Free.XT.ii_ne_f hc72_42) ?_
              refine ow_sipush (q := 78) X0 hx (160 : Int32) (hb hby own_d1_75) rfl rfl ?_
              refine ow_goto (q := 84) X0 hx (hb hby own_d1_78) (by decide) (by decide) ?_
              refine ow_istore (q := 86) X0 hx (L' := #[rv a0, iv (1 : Int32), iv (3 : Int32), iv v2, iv (3 : Int32), iv (160 : Int32), iv (191 : Int32), .unset, .unset, .unset, .unset]) (hb hby own_d1_84) rfl rfl ?_
              refine ow_iloadN (q := 87) X0 hx (hb hby own_d1_86) rfl rfl ?_
              refine ow_sipush (q := 90) X0 hx (237 : Int32) (hb hby own_d1_87) rfl rfl ?_
              by_cases hc90_43 : v2 = (237 : Int32)
              · refine ow_icmpNo (q := 93) X0 hx (hb hby own_d1_90) rfl (Jvm.Free.XT.ii_ne_f hc90_43) ?_
                refine ow_sipush (q := 96) X0 hx (159 : Int32) (hb hby own_d1_93) rfl rfl ?_
                refine ow_goto (q := 102) X0 hx (hb hby own_d1_96) (by decide) (by decide) ?_
                refine ow_istore (q := 104) X0 hx (L' := #[rv a0, iv (1 : Int32), iv (3 : Int32), iv v2, iv (3 : Int32), iv (160 : Int32), iv (159 : Int32), .unset, .unset, .unset, .unset]) (hb hby own_d1_102) rfl rfl ?_
                refine ow_goto (q := 165) X0 hx (hb hby own_d1_104) (by decide) (by decide) ?_
                exact cut165_3 (3 : Int32) (160 : Int32) (159 : Int32) _ _ X0 e0 N0 (by unfold own_H; simp only [Int32.lt_iff_toInt_lt, ← Int32.toInt_inj, Int32.reduceToInt, true_and, and_true] at hc22_12 hc35_13 hc42_29 hc55_30 hc62_36 hc72_42 hc90_43 ⊢; omega)
              · refine ow_icmpYes (q := 99) X0 hx (hb hby own_d1_90) (Jvm.Free.XT.ii_ne_t hc90_43) (by decide) (by decide) ?_
                refine ow_sipush (q := 102) X0 hx (191 : Int32) (hb hby own_d1_99) rfl rfl ?_
                refine ow_istore (q := 104) X0 hx (L' := #[rv a0, iv (1 : Int32), iv (3 : Int32), iv v2, iv (3 : Int32), iv (160 : Int32), iv (191 : Int32), .unset, .unset, .unset, .unset]) (hb hby own_d1_102) rfl rfl ?_
                refine ow_goto (q := 165) X0 hx (hb hby own_d1_104) (by decide) (by decide) ?_
                exact cut165_3 (3 : Int32) (160 : Int32) (191 : Int32) _ _ X0 e0 N0 (by unfold own_H; simp only [Int32.lt_iff_toInt_lt, ← Int32.toInt_inj, Int32.reduceToInt, true_and, and_true] at hc22_12 hc35_13 hc42_29 hc55_30 hc62_36 hc72_42 hc90_43 ⊢; omega)
            · refine ow_icmpYes (q := 81) X0 hx (hb hby own_d1_72) (Jvm.Free.XT.ii_ne_t hc72_42) (by decide) (by decide) ?_
              refine ow_sipush (q := 84) X0 hx (128 : Int32) (hb hby own_d1_81) rfl rfl ?_
              refine ow_istore (q := 86) X0 hx (L' := #[rv a0, iv (1 : Int32), iv (3 : Int32), iv v2, iv (3 : Int32), iv (128 : Int32), iv (191 : Int32), .unset, .unset, .unset, .unset]) (hb hby own_d1_84) rfl rfl ?_
              refine ow_iloadN (q := 87) X0 hx (hb hby own_d1_86) rfl rfl ?_
              refine ow_sipush (q := 90) X0 hx (237 : Int32) (hb hby own_d1_87) rfl rfl ?_
              by_cases hc90_44 : v2 = (237 : Int32)
              · refine ow_icmpNo (q := 93) X0 hx (hb hby own_d1_90) rfl (Jvm.Free.XT.ii_ne_f hc90_44) ?_
                refine ow_sipush (q := 96) X0 hx (159 : Int32) (hb hby own_d1_93) rfl rfl ?_
                refine ow_goto (q := 102) X0 hx (hb hby own_d1_96) (by decide) (by decide) ?_
                refine ow_istore (q := 104) X0 hx (L' := #[rv a0, iv (1 : Int32), iv (3 : Int32), iv v2, iv (3 : Int32), iv (128 : Int32), iv (159 : Int32), .unset, .unset, .unset, .unset]) (hb hby own_d1_102) rfl rfl ?_
                refine ow_goto (q := 165) X0 hx (hb hby own_d1_104) (by decide) (by decide) ?_
                exact cut165_3 (3 : Int32) (128 : Int32) (159 : Int32) _ _ X0 e0 N0 (by unfold own_H; simp only [Int32.lt_iff_toInt_lt, ← Int32.toInt_inj, Int32.reduceToInt, true_and, and_true] at hc22_12 hc35_13 hc42_29 hc55_30 hc62_36 hc72_42 hc90_44 ⊢; omega)
              · refine ow_icmpYes (q := 99) X0 hx (hb hby own_d1_90) (Jvm.Free.XT.ii_ne_t hc90_44) (by decide) (by decide) ?_
                refine ow_sipush (q := 102) X0 hx (191 : Int32) (hb hby own_d1_99) rfl rfl ?_
                refine ow_istore (q := 104) X0 hx (L' := #[rv a0, iv (1 : Int32), iv (3 : Int32), iv v2, iv (3 : Int32), iv (128 : Int32), iv (191 : Int32), .unset, .unset, .unset, .unset]) (hb hby own_d1_102) rfl rfl ?_
                refine ow_goto (q := 165) X0 hx (hb hby own_d1_104) (by decide) (by decide) ?_
                exact cut165_3 (3 : Int32) (128 : Int32) (191 : Int32) _ _ X0 e0 N0 (by unfold own_H; simp only [Int32.lt_iff_toInt_lt, ← Int32.toInt_inj, Int32.reduceToInt, true_and, and_true] at hc22_12 hc35_13 hc42_29 hc55_30 hc62_36 hc72_42 hc90_44 ⊢; omega)
      · refine ow_icmpNo (q := 45) X0 hx (hb hby own_d1_42) rfl (Jvm.Free.XT.ii_gt_f hc42_29) ?_
        refine ow_iconst (q := 46) X0 hx (2 : Int32) (hb hby own_d1_45) rfl rfl ?_
        refine ow_istore (q := 48) X0 hx (L' := #[rv a0, iv (1 : Int32), iv (3 : Int32), iv v2, iv (2 : Int32), iv (128 : Int32), iv (191 : Int32), .unset, .unset, .unset, .unset]) (hb hby own_d1_46) rfl rfl ?_
        refine ow_goto (q := 165) X0 hx (hb hby own_d1_48) (by decide) (by decide) ?_
        exact cut165_3 (2 : Int32) (128 : Int32) (191 : Int32) _ _ X0 e0 N0 (by unfold own_H; simp only [Int32.lt_iff_toInt_lt, ← Int32.toInt_inj, Int32.reduceToInt, true_and, and_true] at hc22_12 hc35_13 hc42_29 ⊢; omega)
theorem own_ef1_seq_1_3 (m : MethodId) (a0 : Addr) : entryFrame m #[(.ref a0), (.int (1 : Int32)), (.int (4 : Int32))] 11 = mkF m 0 #[rv a0, iv (1 : Int32), iv (4 : Int32), .unset, .unset, .unset, .unset, .unset, .unset, .unset, .unset] [] := by first | (simp [entryFrame, mkF, argsToLocals, Value.category]; done) | rfl
def Q_seq_1_3 (Z : State) (a0 : Addr) (g : Nat → Int32) (h0 : Heap) (n0 : Nat) (v : Option Value) (h : Heap) (L : List Loc) : Prop := ∃ (r : Int32), v = some (.int r) ∧ Fr n0 L ∧ h = h0 ∧ (r.toInt = own_sq ((g 1) &&& (255 : Int32)).toInt ((g 2) &&& (255 : Int32)).toInt ((g 3) &&& (255 : Int32)).toInt ((g 4) &&& (255 : Int32)).toInt 3)
set_option maxRecDepth 65536 in
set_option maxHeartbeats 40000000 in
theorem rm_seq_1_3 (l : Launch) (Z : State) (av0 : Array Value) (hw : ∀ d ∈ tables_1, d.before av0 Z = true) (ws : List Jvm.Cond) (a0 : Addr) (g : Nat → Int32) (h0 : Heap) (n0 : Nat) (Z0 : n0 ≤ h0.size) (HF0 : ownAI Z h0 a0 .byte 5 g) :
    MetFree l (⟨"com/example/descend/descend/XmlChars", "sequenceLength", "([BII)I"⟩ : MethodName) (head1 (Jvm.Cond.code (⟨"com/example/descend/descend/XmlChars", "sequenceLength", "([BII)I"⟩ : MethodName) prog_24_method_14_code 11 (some .int) :: ws) ({ frames := 0, cells := 0, slots := 0, locals := 0 } : Room)) (fun a U => a = #[(.ref a0), (.int (1 : Int32)), (.int (4 : Int32))] ∧ Z.Warmed39 U.vm ∧ U.heap = h0) (fun _ _ _ _ _ => True) (fun _ U o U' => ∃ v L, o = .returned v ∧ (Q_seq_1_3 Z a0 g h0 n0) v U'.heap L ∧ FrameEnd U o U' L ({ frames := 0, cells := 0, slots := 0, locals := 0 } : Room).cells ({ frames := 0, cells := 0, slots := 0, locals := 0 } : Room).slots) := by
  refine MetFree.of_bodySF (plainFor_of_name own_pn_XmlChars) hisR ?_
  intro p e s m args below meth c s₁ Bd hml0 hP hK
  obtain ⟨rfl, hZ, hh⟩ := hP
  have hx := Bd.exec
  have hby := Bd.bytes
  have hml : c.maxLocals = 11 := hml0
  have hown : s.vm.findClass "com/example/descend/descend/XmlChars" = some m.cls := findClass_of_methodNamed Bd.named
  have hnm := (name_of_methodNamed Bd.named Bd.method).1
  have hlk : meth.locks = false := BodyLoose.notSynchronized Bd
  have X0 : Stand p l e ({ frames := 0, cells := 0, slots := 0, locals := 0 } : Room) s m #[(.ref a0), (.int (1 : Int32)), (.int (4 : Int32))] below meth c s₁ [] 0 0 := Stand.of_body Bd
  have e0 : s₁.heap = h0 := by rw [← hh, Bd.state]; rfl
  have N0 := Fr.nil n0
  have K0 : Keep h0 h0 [] := Keep.refl _ _
  show ownEnds p e below s (Q_seq_1_3 Z a0 g h0 n0) ({ frames := 0, cells := 0, slots := 0, locals := 0 } : Room).cells ({ frames := 0, cells := 0, slots := 0, locals := 0 } : Room).slots s₁ (entryFrame m #[(.ref a0), (.int (1 : Int32)), (.int (4 : Int32))] 11)
  refine ownCast (own_ef1_seq_1_3 m a0) ?_
  refine ow_aloadN (q := 1) X0 hx (hb hby own_d1_0) rfl rfl rfl ?_
  refine ow_iloadN (q := 2) X0 hx (hb hby own_d1_1) rfl rfl ?_
  refine ownGo (T' := s₁) (f' := (mkF m 3 #[rv a0, iv (1 : Int32), iv (4 : Int32), .unset, .unset, .unset, .unset, .unset, .unset, .unset, .unset] [(.int (g 1))])) (ownBaload HF0 X0 hx hZ e0 (j := (1 : Int32)) (by unfold ownIn; decide) (g := (mkF m 2 #[rv a0, iv (1 : Int32), iv (4 : Int32), .unset, .unset, .unset, .unset, .unset, .unset, .unset, .unset] [(.int (1 : Int32)), (.ref a0)])) rfl rfl (hb hby own_d1_2)) ?_
  generalize hv_v1 : (g 1) = v1
  refine ow_sipush (q := 6) X0 hx (255 : Int32) (hb hby own_d1_3) rfl rfl ?_
  refine ow_iand (q := 7) X0 hx _ (hb hby own_d1_6) rfl rfl ?_
  generalize hv_v2 : (v1 &&& (255 : Int32)) = v2
  refine ow_istoreN (q := 8) X0 hx (L' := #[rv a0, iv (1 : Int32), iv (4 : Int32), iv v2, .unset, .unset, .unset, .unset, .unset, .unset, .unset]) (hb hby own_d1_7) rfl rfl ?_
  refine ow_sipush (q := 11) X0 hx (128 : Int32) (hb hby own_d1_8) rfl rfl ?_
  refine ow_istore (q := 13) X0 hx (L' := #[rv a0, iv (1 : Int32), iv (4 : Int32), iv v2, .unset, iv (128 : Int32), .unset, .unset, .unset, .unset, .unset]) (hb hby own_d1_11) rfl rfl ?_
  refine ow_sipush (q := 16) X0 hx (191 : Int32) (hb hby own_d1_13) rfl rfl ?_
  refine ow_istore (q := 18) X0 hx (L' := #[rv a0, iv (1 : Int32), iv (4 : Int32), iv v2, .unset, iv (128 : Int32), iv (191 : Int32), .unset, .unset, .unset, .unset]) (hb hby own_d1_16) rfl rfl ?_
  have cut165_3 : ∀ (ln : Int32) (lo : Int32) (hi : Int32) (Tc3 : State) (lc3 : List Loc), Stand p l e ({ frames := 0, cells := 0, slots := 0, locals := 0 } : Room) s m #[(.ref a0), (.int (1 : Int32)), (.int (4 : Int32))] below meth c Tc3 lc3 0 0 → Tc3.heap = h0 → Fr n0 lc3 → (own_H v2.toInt ln.toInt lo.toInt hi.toInt) → ownEnds p e below s (Q_seq_1_3 Z a0 g h0 n0) ({ frames := 0, cells := 0, slots := 0, locals := 0 } : Room).cells ({ frames := 0, cells := 0, slots := 0, locals := 0 } : Room).slots Tc3 (mkF m 165 #[rv a0, iv (1 : Int32), iv (4 : Int32), iv v2, iv ln, iv lo, iv hi, .unset, .unset, .unset, .unset] []) := by
    intro ln lo hi Tc3 lc3 Xc3 ec3 Nc3 hH
    refine ow_iloadN (q := 166) Xc3 hx (hb hby own_d1_165) rfl rfl ?_
    rcases own_Hln hH with hs4 | hs5 | hs6 | hs7
    · subst hs4
      refine ow_iload (q := 168) Xc3 hx (hb hby own_d1_166) rfl rfl ?_
      refine ow_iadd (q := 169) Xc3 hx (2 : Int32) (hb hby own_d1_168) rfl (by decide) ?_
      refine ow_iloadN (q := 170) Xc3 hx (hb hby own_d1_169) rfl rfl ?_
      refine ow_icmpYes (q := 175) Xc3 hx (hb hby own_d1_170) (Jvm.Free.XT.ii_le_t (by decide)) (by decide) (by decide) ?_
      refine ow_iconst (q := 176) Xc3 hx (1 : Int32) (hb hby own_d1_175) rfl rfl ?_
      refine ow_istore (q := 178) Xc3 hx (L' := #[rv a0, iv (1 : Int32), iv (4 : Int32), iv v2, iv (1 : Int32), iv lo, iv hi, iv (1 : Int32), .unset, .unset, .unset]) (hb hby own_d1_176) rfl rfl ?_
      refine ow_iload (q := 180) Xc3 hx (hb hby own_d1_178) rfl rfl ?_
      refine ow_iload (q := 182) Xc3 hx (hb hby own_d1_180) rfl rfl ?_
      refine ow_icmpYes (q := 251) Xc3 hx (hb hby own_d1_182) (Jvm.Free.XT.ii_ge_t (by decide)) (by decide) (by decide) ?_
      refine ow_iload (q := 253) Xc3 hx (hb hby own_d1_251) rfl rfl ?_
      refine ownRetI Xc3 hx Bd.returns (hb hby own_d1_253) hlk (by decide) (by decide) ?_
      subst hv_v2 hv_v1
      rw [ec3]
      refine ⟨(1 : Int32), rfl, Nc3, rfl, ?_⟩
      unfold own_H at hH
      simp only [Int32.lt_iff_toInt_lt, ← Int32.toInt_inj, Int32.reduceToInt] at  hH ⊢
      unfold own_sq
      (repeat' split) <;> omega
    · subst hs5
      refine ow_iload (q := 168) Xc3 hx (hb hby own_d1_166) rfl rfl ?_
      refine ow_iadd (q := 169) Xc3 hx (3 : Int32) (hb hby own_d1_168) rfl (by decide) ?_
      refine ow_iloadN (q := 170) Xc3 hx (hb hby own_d1_169) rfl rfl ?_
      refine ow_icmpYes (q := 175) Xc3 hx (hb hby own_d1_170) (Jvm.Free.XT.ii_le_t (by decide)) (by decide) (by decide) ?_
      refine ow_iconst (q := 176) Xc3 hx (1 : Int32) (hb hby own_d1_175) rfl rfl ?_
      refine ow_istore (q := 178) Xc3 hx (L' := #[rv a0, iv (1 : Int32), iv (4 : Int32), iv v2, iv (2 : Int32), iv lo, iv hi, iv (1 : Int32), .unset, .unset, .unset]) (hb hby own_d1_176) rfl rfl ?_
      refine ow_iload (q := 180) Xc3 hx (hb hby own_d1_178) rfl rfl ?_
      refine ow_iload (q := 182) Xc3 hx (hb hby own_d1_180) rfl rfl ?_
      refine ow_icmpNo (q := 185) Xc3 hx (hb hby own_d1_182) rfl (Jvm.Free.XT.ii_ge_f (by decide)) ?_
      refine ow_aloadN (q := 186) Xc3 hx (hb hby own_d1_185) rfl rfl rfl ?_
      refine ow_iloadN (q := 187) Xc3 hx (hb hby own_d1_186) rfl rfl ?_
      refine ow_iload (q := 189) Xc3 hx (hb hby own_d1_187) rfl rfl ?_
      refine ow_iadd (q := 190) Xc3 hx (2 : Int32) (hb hby own_d1_189) rfl (by decide) ?_
      refine ownGo (T' := Tc3) (f' := (mkF m 191 #[rv a0, iv (1 : Int32), iv (4 : Int32), iv v2, iv (2 : Int32), iv lo, iv hi, iv (1 : Int32), .unset, .unset, .unset] [(.int (g 2))])) (ownBaload HF0 Xc3 hx hZ ec3 (j := (2 : Int32)) (by unfold ownIn; decide) (g := (mkF m 190 #[rv a0, iv (1 : Int32), iv (4 : Int32), iv v2, iv (2 : Int32), iv lo, iv hi, iv (1 : Int32), .unset, .unset, .unset] [(.int (2 : Int32)), (.ref a0)])) rfl rfl (hb hby own_d1_190)) ?_
      generalize hv_v8 : (g 2) = v8
      refine ow_sipush (q := 194) Xc3 hx (255 : Int32) (hb hby own_d1_191) rfl rfl ?_
      refine ow_iand (q := 195) Xc3 hx _ (hb hby own_d1_194) rfl rfl ?_
      generalize hv_v9 : (v8 &&& (255 : Int32)) = v9
      refine ow_istore (q := 197) Xc3 hx (L' := #[rv a0, iv (1 : Int32), iv (4 : Int32), iv v2, iv (2 : Int32), iv lo, iv hi, iv (1 : Int32), iv v9, .unset, .unset]) (hb hby own_d1_195) rfl rfl ?_
      refine ow_iload (q := 199) Xc3 hx (hb hby own_d1_197) rfl rfl ?_
      refine ow_iconst (q := 200) Xc3 hx (1 : Int32) (hb hby own_d1_199) rfl rfl ?_
      refine ow_icmpNo (q := 203) Xc3 hx (hb hby own_d1_200) rfl (Jvm.Free.XT.ii_ne_f (by decide)) ?_
      refine ow_iload (q := 205) Xc3 hx (hb hby own_d1_203) rfl rfl ?_
      refine ow_goto (q := 211) Xc3 hx (hb hby own_d1_205) (by decide) (by decide) ?_
      refine ow_istore (q := 213) Xc3 hx (L' := #[rv a0, iv (1 : Int32), iv (4 : Int32), iv v2, iv (2 : Int32), iv lo, iv hi, iv (1 : Int32), iv v9, iv lo, .unset]) (hb hby own_d1_211) rfl rfl ?_
      refine ow_iload (q := 215) Xc3 hx (hb hby own_d1_213) rfl rfl ?_
      refine ow_iconst (q := 216) Xc3 hx (1 : Int32) (hb hby own_d1_215) rfl rfl ?_
      refine ow_icmpNo (q := 219) Xc3 hx (hb hby own_d1_216) rfl (Jvm.Free.XT.ii_ne_f (by decide)) ?_
      refine ow_iload (q := 221) Xc3 hx (hb hby own_d1_219) rfl rfl ?_
      refine ow_goto (q := 227) Xc3 hx (hb hby own_d1_221) (by decide) (by decide) ?_
      refine ow_istore (q := 229) Xc3 hx (L' := #[rv a0, iv (1 : Int32), iv (4 : Int32), iv v2, iv (2 : Int32), iv lo, iv hi, iv (1 : Int32), iv v9, iv lo, iv hi]) (hb hby own_d1_227) rfl rfl ?_
      refine ow_iload (q := 231) Xc3 hx (hb hby own_d1_229) rfl rfl ?_
      refine ow_iload (q := 233) Xc3 hx (hb hby own_d1_231) rfl rfl ?_
      by_cases hc233_10 : v9 < lo
      · refine ow_icmpYes (q := 243) Xc3 hx (hb hby own_d1_233) (Jvm.Free.XT.ii_lt_t hc233_10) (by decide) (by decide) ?_
        refine ow_iconst (q := 244) Xc3 hx (0 : Int32) (hb hby own_d1_243) rfl rfl ?_
        refine ownRetI Xc3 hx Bd.returns (hb hby own_d1_244) hlk (by decide) (by decide) ?_
        subst hv_v9 hv_v8 hv_v2 hv_v1
        rw [ec3]
        refine ⟨(0 : Int32), rfl, Nc3, rfl, ?_⟩
        unfold own_H at hH
        simp only [Int32.lt_iff_toInt_lt, ← Int32.toInt_inj, Int32.reduceToInt] at hc233_10 hH ⊢
        unfold own_sq
        (repeat' split) <;> omega
      · refine ow_icmpNo (q := 236) Xc3 hx (hb hby own_d1_233) rfl (Jvm.Free.XT.ii_lt_f hc233_10) ?_
        refine ow_iload (q := 238) Xc3 hx (hb hby own_d1_236) rfl rfl ?_
        refine ow_iload (q := 240) Xc3 hx (hb hby own_d1_238) rfl rfl ?_
        by_cases hc240_11 : hi < v9
        · refine ow_icmpNo (q := 243) Xc3 hx (hb hby own_d1_240) rfl (Jvm.Free.XT.ii_le_f hc240_11) ?_
          refine ow_iconst (q := 244) Xc3 hx (0 : Int32) (hb hby own_d1_243) rfl rfl ?_
          refine ownRetI Xc3 hx Bd.returns (hb hby own_d1_244) hlk (by decide) (by decide) ?_
          subst hv_v9 hv_v8 hv_v2 hv_v1
          rw [ec3]
          refine ⟨(0 : Int32), rfl, Nc3, rfl, ?_⟩
          unfold own_H at hH
          simp only [Int32.lt_iff_toInt_lt, ← Int32.toInt_inj, Int32.reduceToInt] at hc233_10 hc240_11 hH ⊢
          unfold own_sq
          (repeat' split) <;> omega
        · refine ow_icmpYes (q := 245) Xc3 hx (hb hby own_d1_240) (Jvm.Free.XT.ii_le_t hc240_11) (by decide) (by decide) ?_
          refine ow_iinc (q := 248) Xc3 hx (L' := #[rv a0, iv (1 : Int32), iv (4 : Int32), iv v2, iv (2 : Int32), iv lo, iv hi, iv (2 : Int32), iv v9, iv lo, iv hi]) (hb hby own_d1_245) rfl rfl rfl ?_
          refine ow_goto (q := 178) Xc3 hx (hb hby own_d1_248) (by decide) (by decide) ?_
          refine ow_iload (q := 180) Xc3 hx (hb hby own_d1_178) rfl rfl ?_
          refine ow_iload (q := 182) Xc3 hx (hb hby own_d1_180) rfl rfl ?_
          refine ow_icmpYes (q := 251) Xc3 hx (hb hby own_d1_182) (Jvm.Free.XT.ii_ge_t (by decide)) (by decide) (by decide) ?_
          refine ow_iload (q := 253) Xc3 hx (hb hby own_d1_251) rfl rfl ?_
          refine ownRetI Xc3 hx Bd.returns (hb hby own_d1_253) hlk (by decide) (by decide) ?_
          subst hv_v9 hv_v8 hv_v2 hv_v1
          rw [ec3]
          refine ⟨(2 : Int32), rfl, Nc3, rfl, ?_⟩
          unfold own_H at hH
          simp only [Int32.lt_iff_toInt_lt, ← Int32.toInt_inj, Int32.reduceToInt] at hc233_10 hc240_11 hH ⊢
          unfold own_sq
          (repeat' split) <;> omega
    · subst hs6
      refine ow_iload (q := 168) Xc3 hx (hb hby own_d1_166) rfl rfl ?_
      refine ow_iadd (q := 169) Xc3 hx (4 : Int32) (hb hby own_d1_168) rfl (by decide) ?_
      refine ow_iloadN (q := 170) Xc3 hx (hb hby own_d1_169) rfl rfl ?_
      refine ow_icmpYes (q := 175) Xc3 hx (hb hby own_d1_170) (Jvm.Free.XT.ii_le_t (by decide)) (by decide) (by decide) ?_
      refine ow_iconst (q := 176) Xc3 hx (1 : Int32) (hb hby own_d1_175) rfl rfl ?_
      refine ow_istore (q := 178) Xc3 hx (L' := #[rv a0, iv (1 : Int32), iv (4 : Int32), iv v2, iv (3 : Int32), iv lo, iv hi, iv (1 : Int32), .unset, .unset, .unset]) (hb hby own_d1_176) rfl rfl ?_
      refine ow_iload (q := 180) Xc3 hx (hb hby own_d1_178) rfl rfl ?_
      refine ow_iload (q := 182) Xc3 hx (hb hby own_d1_180) rfl rfl ?_
      refine ow_icmpNo (q := 185) Xc3 hx (hb hby own_d1_182) rfl (Jvm.Free.XT.ii_ge_f (by decide)) ?_
      refine ow_aloadN (q := 186) Xc3 hx (hb hby own_d1_185) rfl rfl rfl ?_
      refine ow_iloadN (q := 187) Xc3 hx (hb hby own_d1_186) rfl rfl ?_
      refine ow_iload (q := 189) Xc3 hx (hb hby own_d1_187) rfl rfl ?_
      refine ow_iadd (q := 190) Xc3 hx (2 : Int32) (hb hby own_d1_189) rfl (by decide) ?_
      refine ownGo (T' := Tc3) (f' := (mkF m 191 #[rv a0, iv (1 : Int32), iv (4 : Int32), iv v2, iv (3 : Int32), iv lo, iv hi, iv (1 : Int32), .unset, .unset, .unset] [(.int (g 2))])) (ownBaload HF0 Xc3 hx hZ ec3 (j := (2 : Int32)) (by unfold ownIn; decide) (g := (mkF m 190 #[rv a0, iv (1 : Int32), iv (4 : Int32), iv v2, iv (3 : Int32), iv lo, iv hi, iv (1 : Int32), .unset, .unset, .unset] [(.int (2 : Int32)), (.ref a0)])) rfl rfl (hb hby own_d1_190)) ?_
      generalize hv_v12 : (g 2) = v12
      refine ow_sipush (q := 194) Xc3 hx (255 : Int32) (hb hby own_d1_191) rfl rfl ?_
      refine ow_iand (q := 195) Xc3 hx _ (hb hby own_d1_194) rfl rfl ?_
      generalize hv_v13 : (v12 &&& (255 : Int32)) = v13
      refine ow_istore (q := 197) Xc3 hx (L' := #[rv a0, iv (1 : Int32), iv (4 : Int32), iv v2, iv (3 : Int32), iv lo, iv hi, iv (1 : Int32), iv v13, .unset, .unset]) (hb hby own_d1_195) rfl rfl ?_
      refine ow_iload (q := 199) Xc3 hx (hb hby own_d1_197) rfl rfl ?_
      refine ow_iconst (q := 200) Xc3 hx (1 : Int32) (hb hby own_d1_199) rfl rfl ?_
      refine ow_icmpNo (q := 203) Xc3 hx (hb hby own_d1_200) rfl (Jvm.Free.XT.ii_ne_f (by decide)) ?_
      refine ow_iload (q := 205) Xc3 hx (hb hby own_d1_203) rfl rfl ?_
      refine ow_goto (q := 211) Xc3 hx (hb hby own_d1_205) (by decide) (by decide) ?_
      refine ow_istore (q := 213) Xc3 hx (L' := #[rv a0, iv (1 : Int32), iv (4 : Int32), iv v2, iv (3 : Int32), iv lo, iv hi, iv (1 : Int32), iv v13, iv lo, .unset]) (hb hby own_d1_211) rfl rfl ?_
      refine ow_iload (q := 215) Xc3 hx (hb hby own_d1_213) rfl rfl ?_
      refine ow_iconst (q := 216) Xc3 hx (1 : Int32) (hb hby own_d1_215) rfl rfl ?_
      refine ow_icmpNo (q := 219) Xc3 hx (hb hby own_d1_216) rfl (Jvm.Free.XT.ii_ne_f (by decide)) ?_
      refine ow_iload (q := 221) Xc3 hx (hb hby own_d1_219) rfl rfl ?_
      refine ow_goto (q := 227) Xc3 hx (hb hby own_d1_221) (by decide) (by decide) ?_
      refine ow_istore (q := 229) Xc3 hx (L' := #[rv a0, iv (1 : Int32), iv (4 : Int32), iv v2, iv (3 : Int32), iv lo, iv hi, iv (1 : Int32), iv v13, iv lo, iv hi]) (hb hby own_d1_227) rfl rfl ?_
      refine ow_iload (q := 231) Xc3 hx (hb hby own_d1_229) rfl rfl ?_
      refine ow_iload (q := 233) Xc3 hx (hb hby own_d1_231) rfl rfl ?_
      by_cases hc233_14 : v13 < lo
      · refine ow_icmpYes (q := 243) Xc3 hx (hb hby own_d1_233) (Jvm.Free.XT.ii_lt_t hc233_14) (by decide) (by decide) ?_
        refine ow_iconst (q := 244) Xc3 hx (0 : Int32) (hb hby own_d1_243) rfl rfl ?_
        refine ownRetI Xc3 hx Bd.returns (hb hby own_d1_244) hlk (by decide) (by decide) ?_
        subst hv_v13 hv_v12 hv_v2 hv_v1
        rw [ec3]
        refine ⟨(0 : Int32), rfl, Nc3, rfl, ?_⟩
        unfold own_H at hH
        simp only [Int32.lt_iff_toInt_lt, ← Int32.toInt_inj, Int32.reduceToInt] at hc233_14 hH ⊢
        unfold own_sq
        (repeat' split) <;> omega
      · refine ow_icmpNo (q := 236) Xc3 hx (hb hby own_d1_233) rfl (Jvm.Free.XT.ii_lt_f hc233_14) ?_
        refine ow_iload (q := 238) Xc3 hx (hb hby own_d1_236) rfl rfl ?_
        refine ow_iload (q := 240) Xc3 hx (hb hby own_d1_238) rfl rfl ?_
        by_cases hc240_15 : hi < v13
        · refine ow_icmpNo (q := 243) Xc3 hx (hb hby own_d1_240) rfl (Jvm.Free.XT.ii_le_f hc240_15) ?_
          refine ow_iconst (q := 244) Xc3 hx (0 : Int32) (hb hby own_d1_243) rfl rfl ?_
          refine ownRetI Xc3 hx Bd.returns (hb hby own_d1_244) hlk (by decide) (by decide) ?_
          subst hv_v13 hv_v12 hv_v2 hv_v1
          rw [ec3]
          refine ⟨(0 : Int32), rfl, Nc3, rfl, ?_⟩
          unfold own_H at hH
          simp only [Int32.lt_iff_toInt_lt, ← Int32.toInt_inj, Int32.reduceToInt] at hc233_14 hc240_15 hH ⊢
          unfold own_sq
          (repeat' split) <;> omega
        · refine ow_icmpYes (q := 245) Xc3 hx (hb hby own_d1_240) (Jvm.Free.XT.ii_le_t hc240_15) (by decide) (by decide) ?_
          refine ow_iinc (q := 248) Xc3 hx (L' := #[rv a0, iv (1 : Int32), iv (4 : Int32), iv v2, iv (3 : Int32), iv lo, iv hi, iv (2 : Int32), iv v13, iv lo, iv hi]) (hb hby own_d1_245) rfl rfl rfl ?_
          refine ow_goto (q := 178) Xc3 hx (hb hby own_d1_248) (by decide) (by decide) ?_
          refine ow_iload (q := 180) Xc3 hx (hb hby own_d1_178) rfl rfl ?_
          refine ow_iload (q := 182) Xc3 hx (hb hby own_d1_180) rfl rfl ?_
          refine ow_icmpNo (q := 185) Xc3 hx (hb hby own_d1_182) rfl (Jvm.Free.XT.ii_ge_f (by decide)) ?_
          refine ow_aloadN (q := 186) Xc3 hx (hb hby own_d1_185) rfl rfl rfl ?_
          refine ow_iloadN (q := 187) Xc3 hx (hb hby own_d1_186) rfl rfl ?_
          refine ow_iload (q := 189) Xc3 hx (hb hby own_d1_187) rfl rfl ?_
          refine ow_iadd (q := 190) Xc3 hx (3 : Int32) (hb hby own_d1_189) rfl (by decide) ?_
          refine ownGo (T' := Tc3) (f' := (mkF m 191 #[rv a0, iv (1 : Int32), iv (4 : Int32), iv v2, iv (3 : Int32), iv lo, iv hi, iv (2 : Int32), iv v13, iv lo, iv hi] [(.int (g 3))])) (ownBaload HF0 Xc3 hx hZ ec3 (j := (3 : Int32)) (by unfold ownIn; decide) (g := (mkF m 190 #[rv a0, iv (1 : Int32), iv (4 : Int32), iv v2, iv (3 : Int32), iv lo, iv hi, iv (2 : Int32), iv v13, iv lo, iv hi] [(.int (3 : Int32)), (.ref a0)])) rfl rfl (hb hby own_d1_190)) ?_
          generalize hv_v16 : (g 3) = v16
          refine ow_sipush (q := 194) Xc3 hx (255 : Int32) (hb hby own_d1_191) rfl rfl ?_
          refine ow_iand (q := 195) Xc3 hx _ (hb hby own_d1_194) rfl rfl ?_
          generalize hv_v17 : (v16 &&& (255 : Int32)) = v17
          refine ow_istore (q := 197) Xc3 hx (L' := #[rv a0, iv (1 : Int32), iv (4 : Int32), iv v2, iv (3 : Int32), iv lo, iv hi, iv (2 : Int32), iv v17, iv lo, iv hi]) (hb hby own_d1_195) rfl rfl ?_
          refine ow_iload (q := 199) Xc3 hx (hb hby own_d1_197) rfl rfl ?_
          refine ow_iconst (q := 200) Xc3 hx (1 : Int32) (hb hby own_d1_199) rfl rfl ?_
          refine ow_icmpYes (q := 208) Xc3 hx (hb hby own_d1_200) (Jvm.Free.XT.ii_ne_t (by decide)) (by decide) (by decide) ?_
          refine ow_sipush (q := 211) Xc3 hx (128 : Int32) (hb hby own_d1_208) rfl rfl ?_
          refine ow_istore (q := 213) Xc3 hx (L' := #[rv a0, iv (1 : Int32), iv (4 : Int32), iv v2, iv (3 : Int32), iv lo, iv hi, iv (2 : Int32), iv v17, iv (128 : Int32), iv hi]) (hb hby own_d1_211) rfl rfl ?_
          refine ow_iload (q := 215) Xc3 hx (hb hby own_d1_213) rfl rfl ?_
          refine ow_iconst (q := 216) Xc3 hx (1 : Int32) (hb hby own_d1_215) rfl rfl ?_
          refine ow_icmpYes (q := 224) Xc3 hx (hb hby own_d1_216) (Jvm.Free.XT.ii_ne_t (by decide)) (by decide) (by decide) ?_
          refine ow_sipush (q := 227) Xc3 hx (191 : Int32) (hb hby own_d1_224) rfl rfl ?_
          refine ow_istore (q := 229) Xc3 hx (L' := #[rv a0, iv (1 : Int32), iv (4 : Int32), iv v2, iv (3 : Int32), iv lo, iv hi, iv (2 : Int32), iv v17, iv (128 : Int32), iv (191 : Int32)]) (hb hby own_d1_227) rfl rfl ?_
          refine ow_iload (q := 231) Xc3 hx (hb hby own_d1_229) rfl rfl ?_
          refine ow_iload (q := 233) Xc3 hx (hb hby own_d1_231) rfl rfl ?_
          by_cases hc233_18 : v17 < (128 : Int32)
          · refine ow_icmpYes (q := 243) Xc3 hx (hb hby own_d1_233) (Jvm.Free.XT.ii_lt_t hc233_18) (by decide) (by decide) ?_
            refine ow_iconst (q := 244) Xc3 hx (0 : Int32) (hb hby own_d1_243) rfl rfl ?_
            refine ownRetI Xc3 hx Bd.returns (hb hby own_d1_244) hlk (by decide) (by decide) ?_
            subst hv_v17 hv_v16 hv_v13 hv_v12 hv_v2 hv_v1
            rw [ec3]
            refine ⟨(0 : Int32), rfl, Nc3, rfl, ?_⟩
            unfold own_H at hH
            simp only [Int32.lt_iff_toInt_lt, ← Int32.toInt_inj, Int32.reduceToInt] at hc233_14 hc240_15 hc233_18 hH ⊢
            unfold own_sq
            (repeat' split) <;> omega
          · refine ow_icmpNo (q := 236) Xc3 hx (hb hby own_d1_233) rfl (Jvm.Free.XT.ii_lt_f hc233_18) ?_
            refine ow_iload (q := 238) Xc3 hx (hb hby own_d1_236) rfl rfl ?_
            refine ow_iload (q := 240) Xc3 hx (hb hby own_d1_238) rfl rfl ?_
            by_cases hc240_19 : (191 : Int32) < v17
            · refine ow_icmpNo (q := 243) Xc3 hx (hb hby own_d1_240) rfl (Jvm.Free.XT.ii_le_f hc240_19) ?_
              refine ow_iconst (q := 244) Xc3 hx (0 : Int32) (hb hby own_d1_243) rfl rfl ?_
              refine ownRetI Xc3 hx Bd.returns (hb hby own_d1_244) hlk (by decide) (by decide) ?_
              subst hv_v17 hv_v16 hv_v13 hv_v12 hv_v2 hv_v1
              rw [ec3]
              refine ⟨(0 : Int32), rfl, Nc3, rfl, ?_⟩
              unfold own_H at hH
              simp only [Int32.lt_iff_toInt_lt, ← Int32.toInt_inj, Int32.reduceToInt] at hc233_14 hc240_15 hc233_18 hc240_19 hH ⊢
              unfold own_sq
              (repeat' split) <;> omega
            · refine ow_icmpYes (q := 245) Xc3 hx (hb hby own_d1_240) (Jvm.Free.XT.ii_le_t hc240_19) (by decide) (by decide) ?_
              refine ow_iinc (q := 248) Xc3 hx (L' := #[rv a0, iv (1 : Int32), iv (4 : Int32), iv v2, iv (3 : Int32), iv lo, iv hi, iv (3 : Int32), iv v17, iv (128 : Int32), iv (191 : Int32)]) (hb hby own_d1_245) rfl rfl rfl ?_
              refine ow_goto (q := 178) Xc3 hx (hb hby own_d1_248) (by decide) (by decide) ?_
              refine ow_iload (q := 180) Xc3 hx (hb hby own_d1_178) rfl rfl ?_
              refine ow_iload (q := 182) Xc3 hx (hb hby own_d1_180) rfl rfl ?_
              refine ow_icmpYes (q := 251) Xc3 hx (hb hby own_d1_182) (Jvm.Free.XT.ii_ge_t (by decide)) (by decide) (by decide) ?_
              refine ow_iload (q := 253) Xc3 hx (hb hby own_d1_251) rfl rfl ?_
              refine ownRetI Xc3 hx Bd.returns (hb hby own_d1_253) hlk (by decide) (by decide) ?_
              subst hv_v17 hv_v16 hv_v13 hv_v12 hv_v2 hv_v1
              rw [ec3]
              refine ⟨(3 : Int32), rfl, Nc3, rfl, ?_⟩
              unfold own_H at hH
              simp only [Int32.lt_iff_toInt_lt, ← Int32.toInt_inj, Int32.reduceToInt] at hc233_14 hc240_15 hc233_18 hc240_19 hH ⊢
              unfold own_sq
              (repeat' split) <;> omega
    · subst hs7
      refine ow_iload (q := 168) Xc3 hx (hb hby own_d1_166) rfl rfl ?_
      refine ow_iadd (q := 169) Xc3 hx (5 : Int32) (hb hby own_d1_168) rfl (by decide) ?_
      refine ow_iloadN (q := 170) Xc3 hx (hb hby own_d1_169) rfl rfl ?_
      refine ow_icmpNo (q := 173) Xc3 hx (hb hby own_d1_170) rfl (Jvm.Free.XT.ii_le_f (by decide)) ?_
      refine ow_iconst (q := 174) Xc3 hx (0 : Int32) (hb hby own_d1_173) rfl rfl ?_
      refine ownRetI Xc3 hx Bd.returns (hb hby own_d1_174) hlk (by decide) (by decide) ?_
      subst hv_v2 hv_v1
      rw [ec3]
      refine ⟨(0 : Int32), rfl, Nc3, rfl, ?_⟩
      unfold own_H at hH
      simp only [Int32.lt_iff_toInt_lt, ← Int32.toInt_inj, Int32.reduceToInt] at  hH ⊢
      unfold own_sq
      (repeat' split) <;> omega
  refine ow_iloadN (q := 19) X0 hx (hb hby own_d1_18) rfl rfl ?_
  refine ow_sipush (q := 22) X0 hx (128 : Int32) (hb hby own_d1_19) rfl rfl ?_
  by_cases hc22_20 : v2 < (128 : Int32)
  · refine ow_icmpNo (q := 25) X0 hx (hb hby own_d1_22) rfl (Jvm.Free.XT.ii_ge_f hc22_20) ?_
    refine ow_iconst (q := 26) X0 hx (1 : Int32) (hb hby own_d1_25) rfl rfl ?_
    refine ow_istore (q := 28) X0 hx (L' := #[rv a0, iv (1 : Int32), iv (4 : Int32), iv v2, iv (1 : Int32), iv (128 : Int32), iv (191 : Int32), .unset, .unset, .unset, .unset]) (hb hby own_d1_26) rfl rfl ?_
    refine ow_goto (q := 165) X0 hx (hb hby own_d1_28) (by decide) (by decide) ?_
    exact cut165_3 (1 : Int32) (128 : Int32) (191 : Int32) _ _ X0 e0 N0 (by unfold own_H; simp only [Int32.lt_iff_toInt_lt, ← Int32.toInt_inj, Int32.reduceToInt, true_and, and_true] at hc22_20 ⊢; omega)
  · refine ow_icmpYes (q := 31) X0 hx (hb hby own_d1_22) (Jvm.Free.XT.ii_ge_t hc22_20) (by decide) (by decide) ?_
    refine ow_iloadN (q := 32) X0 hx (hb hby own_d1_31) rfl rfl ?_
    refine ow_sipush (q := 35) X0 hx (194 : Int32) (hb hby own_d1_32) rfl rfl ?_
    by_cases hc35_21 : v2 < (194 : Int32)
    · refine ow_icmpYes (q := 51) X0 hx (hb hby own_d1_35) (Jvm.Free.XT.ii_lt_t hc35_21) (by decide) (by decide) ?_
      refine ow_iloadN (q := 52) X0 hx (hb hby own_d1_51) rfl rfl ?_
      refine ow_sipush (q := 55) X0 hx (224 : Int32) (hb hby own_d1_52) rfl rfl ?_
      by_cases hc55_22 : v2 < (224 : Int32)
      · refine ow_icmpYes (q := 107) X0 hx (hb hby own_d1_55) (Jvm.Free.XT.ii_lt_t hc55_22) (by decide) (by decide) ?_
        refine ow_iloadN (q := 108) X0 hx (hb hby own_d1_107) rfl rfl ?_
        refine ow_sipush (q := 111) X0 hx (240 : Int32) (hb hby own_d1_108) rfl rfl ?_
        by_cases hc111_23 : v2 < (240 : Int32)
        · refine ow_icmpYes (q := 163) X0 hx (hb hby own_d1_111) (Jvm.Free.XT.ii_lt_t hc111_23) (by decide) (by decide) ?_
          refine ow_iconst (q := 164) X0 hx (0 : Int32) (hb hby own_d1_163) rfl rfl ?_
          refine ownRetI X0 hx Bd.returns (hb hby own_d1_164) hlk (by decide) (by decide) ?_
          subst hv_v2 hv_v1
          rw [e0]
          refine ⟨(0 : Int32), rfl, N0, rfl, ?_⟩
          simp only [Int32.lt_iff_toInt_lt, ← Int32.toInt_inj, Int32.reduceToInt] at hc22_20 hc35_21 hc55_22 hc111_23 ⊢
          unfold own_sq
          (repeat' split) <;> omega
        · refine ow_icmpNo (q := 114) X0 hx (hb hby own_d1_111) rfl (Jvm.Free.XT.ii_lt_f hc111_23) ?_
          refine ow_iloadN (q := 115) X0 hx (hb hby own_d1_114) rfl rfl ?_
          refine ow_sipush (q := 118) X0 hx (244 : Int32) (hb hby own_d1_115) rfl rfl ?_
          by_cases hc118_24 : (244 : Int32) < v2
          · refine ow_icmpYes (q := 163) X0 hx (hb hby own_d1_118) (Jvm.Free.XT.ii_gt_t hc118_24) (by decide) (by decide) ?_
            refine ow_iconst (q := 164) X0 hx (0 : Int32) (hb hby own_d1_163) rfl rfl ?_
            refine ownRetI X0 hx Bd.returns (hb hby own_d1_164) hlk (by decide) (by decide) ?_
            subst hv_v2 hv_v1
            rw [e0]
            refine ⟨(0 : Int32), rfl, N0, rfl, ?_⟩
            simp only [Int32.lt_iff_toInt_lt, ← Int32.toInt_inj, Int32.reduceToInt] at hc22_20 hc35_21 hc55_22 hc111_23 hc118_24 ⊢
            unfold own_sq
            (repeat' split) <;> omega
          · refine ow_icmpNo (q := 121) X0 hx (hb hby own_d1_118) rfl (Jvm.Free.XT.ii_gt_f hc118_24) ?_
            refine ow_iconst (q := 122) X0 hx (4 : Int32) (hb hby own_d1_121) rfl rfl ?_
            refine ow_istore (q := 124) X0 hx (L' := #[rv a0, iv (1 : Int32), iv (4 : Int32), iv v2, iv (4 : Int32), iv (128 : Int32), iv (191 : Int32), .unset, .unset, .unset, .unset]) (hb hby own_d1_122) rfl rfl ?_
            refine ow_iloadN (q := 125) X0 hx (hb hby own_d1_124) rfl rfl ?_
            refine ow_sipush (q := 128) X0 hx (240 : Int32) (hb hby own_d1_125) rfl rfl ?_
            by_cases hc128_25 : v2 = (240 : Int32)
            · refine ow_icmpNo (q := 131) X0 hx (hb hby own_d1_128) rfl (Jvm.Free.XT.ii_ne_f hc128_25) ?_
              refine ow_sipush (q := 134) X0 hx (144 : Int32) (hb hby own_d1_131) rfl rfl ?_
              refine ow_goto (q := 140) X0 hx (hb hby own_d1_134) (by decide) (by decide) ?_
              refine ow_istore (q := 142) X0 hx (L' := #[rv a0, iv (1 : Int32), iv (4 : Int32), iv v2, iv (4 : Int32), iv (144 : Int32), iv (191 : Int32), .unset, .unset, .unset, .unset]) (hb hby own_d1_140) rfl rfl ?_
              refine ow_iloadN (q := 143) X0 hx (hb hby own_d1_142) rfl rfl ?_
              refine ow_sipush (q := 146) X0 hx (244 : Int32) (hb hby own_d1_143) rfl rfl ?_
              by_cases hc146_26 : v2 = (244 : Int32)
              · refine ow_icmpNo (q := 149) X0 hx (hb hby own_d1_146) rfl (Jvm.Free.XT.ii_ne_f hc146_26) ?_
                refine ow_sipush (q := 152) X0 hx (143 : Int32) (hb hby own_d1_149) rfl rfl ?_
                refine ow_goto (q := 158) X0 hx (hb hby own_d1_152) (by decide) (by decide) ?_
                refine ow_istore (q := 160) X0 hx (L' := #[rv a0, iv (1 : Int32), iv (4 : Int32), iv v2, iv (4 : Int32), iv (144 : Int32), iv (143 : Int32), .unset, .unset, .unset, .unset]) (hb hby own_d1_158) rfl rfl ?_
                refine ow_goto (q := 165) X0 hx (hb hby own_d1_160) (by decide) (by decide) ?_
                exact cut165_3 (4 : Int32) (144 : Int32) (143 : Int32) _ _ X0 e0 N0 (by unfold own_H; simp only [Int32.lt_iff_toInt_lt, ← Int32.toInt_inj, Int32.reduceToInt, true_and, and_true] at hc22_20 hc35_21 hc55_22 hc111_23 hc118_24 hc128_25 hc146_26 ⊢; omega)
              · refine ow_icmpYes (q := 155) X0 hx (hb hby own_d1_146) (Jvm.Free.XT.ii_ne_t hc146_26) (by decide) (by decide) ?_
                refine ow_sipush (q := 158) X0 hx (191 : Int32) (hb hby own_d1_155) rfl rfl ?_
                refine ow_istore (q := 160) X0 hx (L' := #[rv a0, iv (1 : Int32), iv (4 : Int32), iv v2, iv (4 : Int32), iv (144 : Int32), iv (191 : Int32), .unset, .unset, .unset, .unset]) (hb hby own_d1_158) rfl rfl ?_
                refine ow_goto (q := 165) X0 hx (hb hby own_d1_160) (by decide) (by decide) ?_
                exact cut165_3 (4 : Int32) (144 : Int32) (191 : Int32) _ _ X0 e0 N0 (by unfold own_H; simp only [Int32.lt_iff_toInt_lt, ← Int32.toInt_inj, Int32.reduceToInt, true_and, and_true] at hc22_20 hc35_21 hc55_22 hc111_23 hc118_24 hc128_25 hc146_26 ⊢; omega)
            · refine ow_icmpYes (q := 137) X0 hx (hb hby own_d1_128) (Jvm.Free.XT.ii_ne_t hc128_25) (by decide) (by decide) ?_
              refine ow_sipush (q := 140) X0 hx (128 : Int32) (hb hby own_d1_137) rfl rfl ?_
              refine ow_istore (q := 142) X0 hx (L' := #[rv a0, iv (1 : Int32), iv (4 : Int32), iv v2, iv (4 : Int32), iv (128 : Int32), iv (191 : Int32), .unset, .unset, .unset, .unset]) (hb hby own_d1_140) rfl rfl ?_
              refine ow_iloadN (q := 143) X0 hx (hb hby own_d1_142) rfl rfl ?_
              refine ow_sipush (q := 146) X0 hx (244 : Int32) (hb hby own_d1_143) rfl rfl ?_
              by_cases hc146_27 : v2 = (244 : Int32)
              · refine ow_icmpNo (q := 149) X0 hx (hb hby own_d1_146) rfl (Jvm.Free.XT.ii_ne_f hc146_27) ?_
                refine ow_sipush (q := 152) X0 hx (143 : Int32) (hb hby own_d1_149) rfl rfl ?_
                refine ow_goto (q := 158) X0 hx (hb hby own_d1_152) (by decide) (by decide) ?_
                refine ow_istore (q := 160) X0 hx (L' := #[rv a0, iv (1 : Int32), iv (4 : Int32), iv v2, iv (4 : Int32), iv (128 : Int32), iv (143 : Int32), .unset, .unset, .unset, .unset]) (hb hby own_d1_158) rfl rfl ?_
                refine ow_goto (q := 165) X0 hx (hb hby own_d1_160) (by decide) (by decide) ?_
                exact cut165_3 (4 : Int32) (128 : Int32) (143 : Int32) _ _ X0 e0 N0 (by unfold own_H; simp only [Int32.lt_iff_toInt_lt, ← Int32.toInt_inj, Int32.reduceToInt, true_and, and_true] at hc22_20 hc35_21 hc55_22 hc111_23 hc118_24 hc128_25 hc146_27 ⊢; omega)
              · refine ow_icmpYes (q := 155) X0 hx (hb hby own_d1_146) (Jvm.Free.XT.ii_ne_t hc146_27) (by decide) (by decide) ?_
                refine ow_sipush (q := 158) X0 hx (191 : Int32) (hb hby own_d1_155) rfl rfl ?_
                refine ow_istore (q := 160) X0 hx (L' := #[rv a0, iv (1 : Int32), iv (4 : Int32), iv v2, iv (4 : Int32), iv (128 : Int32), iv (191 : Int32), .unset, .unset, .unset, .unset]) (hb hby own_d1_158) rfl rfl ?_
                refine ow_goto (q := 165) X0 hx (hb hby own_d1_160) (by decide) (by decide) ?_
                exact cut165_3 (4 : Int32) (128 : Int32) (191 : Int32) _ _ X0 e0 N0 (by unfold own_H; simp only [Int32.lt_iff_toInt_lt, ← Int32.toInt_inj, Int32.reduceToInt, true_and, and_true] at hc22_20 hc35_21 hc55_22 hc111_23 hc118_24 hc128_25 hc146_27 ⊢; omega)
      · refine ow_icmpNo (q := 58) X0 hx (hb hby own_d1_55) rfl (Jvm.Free.XT.ii_lt_f hc55_22) ?_
        refine ow_iloadN (q := 59) X0 hx (hb hby own_d1_58) rfl rfl ?_
        refine ow_sipush (q := 62) X0 hx (239 : Int32) (hb hby own_d1_59) rfl rfl ?_
        by_cases hc62_28 : (239 : Int32) < v2
        · refine ow_icmpYes (q := 107) X0 hx (hb hby own_d1_62) (Jvm.Free.XT.ii_gt_t hc62_28) (by decide) (by decide) ?_
          refine ow_iloadN (q := 108) X0 hx (hb hby own_d1_107) rfl rfl ?_
          refine ow_sipush (q := 111) X0 hx (240 : Int32) (hb hby own_d1_108) rfl rfl ?_
          by_cases hc111_29 : v2 < (240 : Int32)
          · refine ow_icmpYes (q := 163) X0 hx (hb hby own_d1_111) (Jvm.Free.XT.ii_lt_t hc111_29) (by decide) (by decide) ?_
            refine ow_iconst (q := 164) X0 hx (0 : Int32) (hb hby own_d1_163) rfl rfl ?_
            refine ownRetI X0 hx Bd.returns (hb hby own_d1_164) hlk (by decide) (by decide) ?_
            subst hv_v2 hv_v1
            rw [e0]
            refine ⟨(0 : Int32), rfl, N0, rfl, ?_⟩
            simp only [Int32.lt_iff_toInt_lt, ← Int32.toInt_inj, Int32.reduceToInt] at hc22_20 hc35_21 hc55_22 hc62_28 hc111_29 ⊢
            unfold own_sq
            (repeat' split) <;> omega
          · refine ow_icmpNo (q := 114) X0 hx (hb hby own_d1_111) rfl (Jvm.Free.XT.ii_lt_f hc111_29) ?_
            refine ow_iloadN (q := 115) X0 hx (hb hby own_d1_114) rfl rfl ?_
            refine ow_sipush (q := 118) X0 hx (244 : Int32) (hb hby own_d1_115) rfl rfl ?_
            by_cases hc118_30 : (244 : Int32) < v2
            · refine ow_icmpYes (q := 163) X0 hx (hb hby own_d1_118) (Jvm.Free.XT.ii_gt_t hc118_30) (by decide) (by decide) ?_
              refine ow_iconst (q := 164) X0 hx (0 : Int32) (hb hby own_d1_163) rfl rfl ?_
              refine ownRetI X0 hx Bd.returns (hb hby own_d1_164) hlk (by decide) (by decide) ?_
              subst hv_v2 hv_v1
              rw [e0]
              refine ⟨(0 : Int32), rfl, N0, rfl, ?_⟩
              simp only [Int32.lt_iff_toInt_lt, ← Int32.toInt_inj, Int32.reduceToInt] at hc22_20 hc35_21 hc55_22 hc62_28 hc111_29 hc118_30 ⊢
              unfold own_sq
              (repeat' split) <;> omega
            · refine ow_icmpNo (q := 121) X0 hx (hb hby own_d1_118) rfl (Jvm.Free.XT.ii_gt_f hc118_30) ?_
              refine ow_iconst (q := 122) X0 hx (4 : Int32) (hb hby own_d1_121) rfl rfl ?_
              refine ow_istore (q := 124) X0 hx (L' := #[rv a0, iv (1 : Int32), iv (4 : Int32), iv v2, iv (4 : Int32), iv (128 : Int32), iv (191 : Int32), .unset, .unset, .unset, .unset]) (hb hby own_d1_122) rfl rfl ?_
              refine ow_iloadN (q := 125) X0 hx (hb hby own_d1_124) rfl rfl ?_
              refine ow_sipush (q := 128) X0 hx (240 : Int32) (hb hby own_d1_125) rfl rfl ?_
              by_cases hc128_31 : v2 = (240 : Int32)
              · refine ow_icmpNo (q := 131) X0 hx (hb hby own_d1_128) rfl (Jvm.Free.XT.ii_ne_f hc128_31) ?_
                refine ow_sipush (q := 134) X0 hx (144 : Int32) (hb hby own_d1_131) rfl rfl ?_
                refine ow_goto (q := 140) X0 hx (hb hby own_d1_134) (by decide) (by decide) ?_
                refine ow_istore (q := 142) X0 hx (L' := #[rv a0, iv (1 : Int32), iv (4 : Int32), iv v2, iv (4 : Int32), iv (144 : Int32), iv (191 : Int32), .unset, .unset, .unset, .unset]) (hb hby own_d1_140) rfl rfl ?_
                refine ow_iloadN (q := 143) X0 hx (hb hby own_d1_142) rfl rfl ?_
                refine ow_sipush (q := 146) X0 hx (244 : Int32) (hb hby own_d1_143) rfl rfl ?_
                by_cases hc146_32 : v2 = (244 : Int32)
                · refine ow_icmpNo (q := 149) X0 hx (hb hby own_d1_146) rfl (Jvm.Free.XT.ii_ne_f hc146_32) ?_
                  refine ow_sipush (q := 152) X0 hx (143 : Int32) (hb hby own_d1_149) rfl rfl ?_
                  refine ow_goto (q := 158) X0 hx (hb hby own_d1_152) (by decide) (by decide) ?_
                  refine ow_istore (q := 160) X0 hx (L' := #[rv a0, iv (1 : Int32), iv (4 : Int32), iv v2, iv (4 : Int32), iv (144 : Int32), iv (143 : Int32), .unset, .unset, .unset, .unset]) (hb hby own_d1_158) rfl rfl ?_
                  refine ow_goto (q := 165) X0 hx (hb hby own_d1_160) (by decide) (by decide) ?_
                  exact cut165_3 (4 : Int32) (144 : Int32) (143 : Int32) _ _ X0 e0 N0 (by unfold own_H; simp only [Int32.lt_iff_toInt_lt, ← Int32.toInt_inj, Int32.reduceToInt, true_and, and_true] at hc22_20 hc35_21 hc55_22 hc62_28 hc111_29 hc118_30 hc128_31 hc146_32 ⊢; omega)
                · refine ow_icmpYes (q := 155) X0 hx (hb hby own_d1_146) (Jvm.Free.XT.ii_ne_t hc146_32) (by decide) (by decide) ?_
                  refine ow_sipush (q := 158) X0 hx (191 : Int32) (hb hby own_d1_155) rfl rfl ?_
                  refine ow_istore (q := 160) X0 hx (L' := #[rv a0, iv (1 : Int32), iv (4 : Int32), iv v2, iv (4 : Int32), iv (144 : Int32), iv (191 : Int32), .unset, .unset, .unset, .unset]) (hb hby own_d1_158) rfl rfl ?_
                  refine ow_goto (q := 165) X0 hx (hb hby own_d1_160) (by decide) (by decide) ?_
                  exact cut165_3 (4 : Int32) (144 : Int32) (191 : Int32) _ _ X0 e0 N0 (by unfold own_H; simp only [Int32.lt_iff_toInt_lt, ← Int32.toInt_inj, Int32.reduceToInt, true_and, and_true] at hc22_20 hc35_21 hc55_22 hc62_28 hc111_29 hc118_30 hc128_31 hc146_32 ⊢; omega)
              · refine ow_icmpYes (q := 137) X0 hx (hb hby own_d1_128) (Jvm.Free.XT.ii_ne_t hc128_31) (by decide) (by decide) ?_
                refine ow_sipush (q := 140) X0 hx (128 : Int32) (hb hby own_d1_137) rfl rfl ?_
                refine ow_istore (q := 142) X0 hx (L' := #[rv a0, iv (1 : Int32), iv (4 : Int32), iv v2, iv (4 : Int32), iv (128 : Int32), iv (191 : Int32), .unset, .unset, .unset, .unset]) (hb hby own_d1_140) rfl rfl ?_
                refine ow_iloadN (q := 143) X0 hx (hb hby own_d1_142) rfl rfl ?_
                refine ow_sipush (q := 146) X0 hx (244 : Int32) (hb hby own_d1_143) rfl rfl ?_
                by_cases hc146_33 : v2 = (244 : Int32)
                · refine ow_icmpNo (q := 149) X0 hx (hb hby own_d1_146) rfl (Jvm.Free.XT.ii_ne_f hc146_33) ?_
                  refine ow_sipush (q := 152) X0 hx (143 : Int32) (hb hby own_d1_149) rfl rfl ?_
                  refine ow_goto (q := 158) X0 hx (hb hby own_d1_152) (by decide) (by decide) ?_
                  refine ow_istore (q := 160) X0 hx (L' := #[rv a0, iv (1 : Int32), iv (4 : Int32), iv v2, iv (4 : Int32), iv (128 : Int32), iv (143 : Int32), .unset, .unset, .unset, .unset]) (hb hby own_d1_158) rfl rfl ?_
                  refine ow_goto (q := 165) X0 hx (hb hby own_d1_160) (by decide) (by decide) ?_
                  exact cut165_3 (4 : Int32) (128 : Int32) (143 : Int32) _ _ X0 e0 N0 (by unfold own_H; simp only [Int32.lt_iff_toInt_lt, ← Int32.toInt_inj, Int32.reduceToInt, true_and, and_true] at hc22_20 hc35_21 hc55_22 hc62_28 hc111_29 hc118_30 hc128_31 hc146_33 ⊢; omega)
                · refine ow_icmpYes (q := 155) X0 hx (hb hby own_d1_146) (Jvm.Free.XT.ii_ne_t hc146_33) (by decide) (by decide) ?_
                  refine ow_sipush (q := 158) X0 hx (191 : Int32) (hb hby own_d1_155) rfl rfl ?_
                  refine ow_istore (q := 160) X0 hx (L' := #[rv a0, iv (1 : Int32), iv (4 : Int32), iv v2, iv (4 : Int32), iv (128 : Int32), iv (191 : Int32), .unset, .unset, .unset, .unset]) (hb hby own_d1_158) rfl rfl ?_
                  refine ow_goto (q := 165) X0 hx (hb hby own_d1_160) (by decide) (by decide) ?_
                  exact cut165_3 (4 : Int32) (128 : Int32) (191 : Int32) _ _ X0 e0 N0 (by unfold own_H; simp only [Int32.lt_iff_toInt_lt, ← Int32.toInt_inj, Int32.reduceToInt, true_and, and_true] at hc22_20 hc35_21 hc55_22 hc62_28 hc111_29 hc118_30 hc128_31 hc146_33 ⊢; omega)
        · refine ow_icmpNo (q := 65) X0 hx (hb hby own_d1_62) rfl (Jvm.Free.XT.ii_gt_f hc62_28) ?_
          refine ow_iconst (q := 66) X0 hx (3 : Int32) (hb hby own_d1_65) rfl rfl ?_
          refine ow_istore (q := 68) X0 hx (L' := #[rv a0, iv (1 : Int32), iv (4 : Int32), iv v2, iv (3 : Int32), iv (128 : Int32), iv (191 : Int32), .unset, .unset, .unset, .unset]) (hb hby own_d1_66) rfl rfl ?_
          refine ow_iloadN (q := 69) X0 hx (hb hby own_d1_68) rfl rfl ?_
          refine ow_sipush (q := 72) X0 hx (224 : Int32) (hb hby own_d1_69) rfl rfl ?_
          by_cases hc72_34 : v2 = (224 : Int32)
          · refine ow_icmpNo (q := 75) X0 hx (hb hby own_d1_72) rfl (Jvm.Free.XT.ii_ne_f hc72_34) ?_
            refine ow_sipush (q := 78) X0 hx (160 : Int32) (hb hby own_d1_75) rfl rfl ?_
            refine ow_goto (q := 84) X0 hx (hb hby own_d1_78) (by decide) (by decide) ?_
            refine ow_istore (q := 86) X0 hx (L' := #[rv a0, iv (1 : Int32), iv (4 : Int32), iv v2, iv (3 : Int32), iv (160 : Int32), iv (191 : Int32), .unset, .unset, .unset, .unset]) (hb hby own_d1_84) rfl rfl ?_
            refine ow_iloadN (q := 87) X0 hx (hb hby own_d1_86) rfl rfl ?_
            refine ow_sipush (q := 90) X0 hx (237 : Int32) (hb hby own_d1_87) rfl rfl ?_
            by_cases hc90_35 : v2 = (237 : Int32)
            · refine ow_icmpNo (q := 93) X0 hx (hb hby own_d1_90) rfl (Jvm.Free.XT.ii_ne_f hc90_35) ?_
              refine ow_sipush (q := 96) X0 hx (159 : Int32) (hb hby own_d1_93) rfl rfl ?_
              refine ow_goto (q := 102) X0 hx (hb hby own_d1_96) (by decide) (by decide) ?_
              refine ow_istore (q := 104) X0 hx (L' := #[rv a0, iv (1 : Int32), iv (4 : Int32), iv v2, iv (3 : Int32), iv (160 : Int32), iv (159 : Int32), .unset, .unset, .unset, .unset]) (hb hby own_d1_102) rfl rfl ?_
              refine ow_goto (q := 165) X0 hx (hb hby own_d1_104) (by decide) (by decide) ?_
              exact cut165_3 (3 : Int32) (160 : Int32) (159 : Int32) _ _ X0 e0 N0 (by unfold own_H; simp only [Int32.lt_iff_toInt_lt, ← Int32.toInt_inj, Int32.reduceToInt, true_and, and_true] at hc22_20 hc35_21 hc55_22 hc62_28 hc72_34 hc90_35 ⊢; omega)
            · refine ow_icmpYes (q := 99) X0 hx (hb hby own_d1_90) (Jvm.Free.XT.ii_ne_t hc90_35) (by decide) (by decide) ?_
              refine ow_sipush (q := 102) X0 hx (191 : Int32) (hb hby own_d1_99) rfl rfl ?_
              refine ow_istore (q := 104) X0 hx (L' := #[rv a0, iv (1 : Int32), iv (4 : Int32), iv v2, iv (3 : Int32), iv (160 : Int32), iv (191 : Int32), .unset, .unset, .unset, .unset]) (hb hby own_d1_102) rfl rfl ?_
              refine ow_goto (q := 165) X0 hx (hb hby own_d1_104) (by decide) (by decide) ?_
              exact cut165_3 (3 : Int32) (160 : Int32) (191 : Int32) _ _ X0 e0 N0 (by unfold own_H; simp only [Int32.lt_iff_toInt_lt, ← Int32.toInt_inj, Int32.reduceToInt, true_and, and_true] at hc22_20 hc35_21 hc55_22 hc62_28 hc72_34 hc90_35 ⊢; omega)
          · refine ow_icmpYes (q := 81) X0 hx (hb hby own_d1_72) (Jvm.Free.XT.ii_ne_t hc72_34) (by decide) (by decide) ?_
            refine ow_sipush (q := 84) X0 hx (128 : Int32) (hb hby own_d1_81) rfl rfl ?_
            refine ow_istore (q := 86) X0 hx (L' := #[rv a0, iv (1 : Int32), iv (4 : Int32), iv v2, iv (3 : Int32), iv (128 : Int32), iv (191 : Int32), .unset, .unset, .unset, .unset]) (hb hby own_d1_84) rfl rfl ?_
            refine ow_iloadN (q := 87) X0 hx (hb hby own_d1_86) rfl rfl ?_
            refine ow_sipush (q := 90) X0 hx (237 : Int32) (hb hby own_d1_87) rfl rfl ?_
            by_cases hc90_36 : v2 = (237 : Int32)
            · refine ow_icmpNo (q := 93) X0 hx (hb hby own_d1_90) rfl (Jvm.Free.XT.ii_ne_f hc90_36) ?_
              refine ow_sipush (q := 96) X0 hx (159 : Int32) (hb hby own_d1_93) rfl rfl ?_
              refine ow_goto (q := 102) X0 hx (hb hby own_d1_96) (by decide) (by decide) ?_
              refine ow_istore (q := 104) X0 hx (L' := #[rv a0, iv (1 : Int32), iv (4 : Int32), iv v2, iv (3 : Int32), iv (128 : Int32), iv (159 : Int32), .unset, .unset, .unset, .unset]) (hb hby own_d1_102) rfl rfl ?_
              refine ow_goto (q := 165) X0 hx (hb hby own_d1_104) (by decide) (by decide) ?_
              exact cut165_3 (3 : Int32) (128 : Int32) (159 : Int32) _ _ X0 e0 N0 (by unfold own_H; simp only [Int32.lt_iff_toInt_lt, ← Int32.toInt_inj, Int32.reduceToInt, true_and, and_true] at hc22_20 hc35_21 hc55_22 hc62_28 hc72_34 hc90_36 ⊢; omega)
            · refine ow_icmpYes (q := 99) X0 hx (hb hby own_d1_90) (Jvm.Free.XT.ii_ne_t hc90_36) (by decide) (by decide) ?_
              refine ow_sipush (q := 102) X0 hx (191 : Int32) (hb hby own_d1_99) rfl rfl ?_
              refine ow_istore (q := 104) X0 hx (L' := #[rv a0, iv (1 : Int32), iv (4 : Int32), iv v2, iv (3 : Int32), iv (128 : Int32), iv (191 : Int32), .unset, .unset, .unset, .unset]) (hb hby own_d1_102) rfl rfl ?_
              refine ow_goto (q := 165) X0 hx (hb hby own_d1_104) (by decide) (by decide) ?_
              exact cut165_3 (3 : Int32) (128 : Int32) (191 : Int32) _ _ X0 e0 N0 (by unfold own_H; simp only [Int32.lt_iff_toInt_lt, ← Int32.toInt_inj, Int32.reduceToInt, true_and, and_true] at hc22_20 hc35_21 hc55_22 hc62_28 hc72_34 hc90_36 ⊢; omega)
    · refine ow_icmpNo (q := 38) X0 hx (hb hby own_d1_35) rfl (Jvm.Free.XT.ii_lt_f hc35_21) ?_
      refine ow_iloadN (q := 39) X0 hx (hb hby own_d1_38) rfl rfl ?_
      refine ow_sipush (q := 42) X0 hx (223 : Int32) (hb hby own_d1_39) rfl rfl ?_
      by_cases hc42_37 : (223 : Int32) < v2
      · refine ow_icmpYes (q := 51) X0 hx (hb hby own_d1_42) (Jvm.Free.XT.ii_gt_t hc42_37) (by decide) (by decide) ?_
        refine ow_iloadN (q := 52) X0 hx (hb hby own_d1_51) rfl rfl ?_
        refine ow_sipush (q := 55) X0 hx (224 : Int32) (hb hby own_d1_52) rfl rfl ?_
        by_cases hc55_38 : v2 < (224 : Int32)
        · refine ow_icmpYes (q := 107) X0 hx (hb hby own_d1_55) (Jvm.Free.XT.ii_lt_t hc55_38) (by decide) (by decide) ?_
          refine ow_iloadN (q := 108) X0 hx (hb hby own_d1_107) rfl rfl ?_
          refine ow_sipush (q := 111) X0 hx (240 : Int32) (hb hby own_d1_108) rfl rfl ?_
          by_cases hc111_39 : v2 < (240 : Int32)
          · refine ow_icmpYes (q := 163) X0 hx (hb hby own_d1_111) (Jvm.Free.XT.ii_lt_t hc111_39) (by decide) (by decide) ?_
            refine ow_iconst (q := 164) X0 hx (0 : Int32) (hb hby own_d1_163) rfl rfl ?_
            refine ownRetI X0 hx Bd.returns (hb hby own_d1_164) hlk (by decide) (by decide) ?_
            subst hv_v2 hv_v1
            rw [e0]
            refine ⟨(0 : Int32), rfl, N0, rfl, ?_⟩
            simp only [Int32.lt_iff_toInt_lt, ← Int32.toInt_inj, Int32.reduceToInt] at hc22_20 hc35_21 hc42_37 hc55_38 hc111_39 ⊢
            unfold own_sq
            (repeat' split) <;> omega
          · refine ow_icmpNo (q := 114) X0 hx (hb hby own_d1_111) rfl (Jvm.Free.XT.ii_lt_f hc111_39) ?_
            refine ow_iloadN (q := 115) X0 hx (hb hby own_d1_114) rfl rfl ?_
            refine ow_sipush (q := 118) X0 hx (244 : Int32) (hb hby own_d1_115) rfl rfl ?_
            by_cases hc118_40 : (244 : Int32) < v2
            · refine ow_icmpYes (q := 163) X0 hx (hb hby own_d1_118) (Jvm.Free.XT.ii_gt_t hc118_40) (by decide) (by decide) ?_
              refine ow_iconst (q := 164) X0 hx (0 : Int32) (hb hby own_d1_163) rfl rfl ?_
              refine ownRetI X0 hx Bd.returns (hb hby own_d1_164) hlk (by decide) (by decide) ?_
              subst hv_v2 hv_v1
              rw [e0]
              refine ⟨(0 : Int32), rfl, N0, rfl, ?_⟩
              simp only [Int32.lt_iff_toInt_lt, ← Int32.toInt_inj, Int32.reduceToInt] at hc22_20 hc35_21 hc42_37 hc55_38 hc111_39 hc118_40 ⊢
              unfold own_sq
              (repeat' split) <;> omega
            · refine ow_icmpNo (q := 121) X0 hx (hb hby own_d1_118) rfl (Jvm.Free.XT.ii_gt_f hc118_40) ?_
              refine ow_iconst (q := 122) X0 hx (4 : Int32) (hb hby own_d1_121) rfl rfl ?_
              refine ow_istore (q := 124) X0 hx (L' := #[rv a0, iv (1 : Int32), iv (4 : Int32), iv v2, iv (4 : Int32), iv (128 : Int32), iv (191 : Int32), .unset, .unset, .unset, .unset]) (hb hby own_d1_122) rfl rfl ?_
              refine ow_iloadN (q := 125) X0 hx (hb hby own_d1_124) rfl rfl ?_
              refine ow_sipush (q := 128) X0 hx (240 : Int32) (hb hby own_d1_125) rfl rfl ?_
              by_cases hc128_41 : v2 = (240 : Int32)
              · refine ow_icmpNo (q := 131) X0 hx (hb hby own_d1_128) rfl (Jvm.Free.XT.ii_ne_f hc128_41) ?_
                refine ow_sipush (q := 134) X0 hx (144 : Int32) (hb hby own_d1_131) rfl rfl ?_
                refine ow_goto (q := 140) X0 hx (hb hby own_d1_134) (by decide) (by decide) ?_
                refine ow_istore (q := 142) X0 hx (L' := #[rv a0, iv (1 : Int32), iv (4 : Int32), iv v2, iv (4 : Int32), iv (144 : Int32), iv (191 : Int32), .unset, .unset, .unset, .unset]) (hb hby own_d1_140) rfl rfl ?_
                refine ow_iloadN (q := 143) X0 hx (hb hby own_d1_142) rfl rfl ?_
                refine ow_sipush (q := 146) X0 hx (244 : Int32) (hb hby own_d1_143) rfl rfl ?_
                by_cases hc146_42 : v2 = (244 : Int32)
                · refine ow_icmpNo (q := 149) X0 hx (hb hby own_d1_146) rfl (Jvm.Free.XT.ii_ne_f hc146_42) ?_
                  refine ow_sipush (q := 152) X0 hx (143 : Int32) (hb hby own_d1_149) rfl rfl ?_
                  refine ow_goto (q := 158) X0 hx (hb hby own_d1_152) (by decide) (by decide) ?_
                  refine ow_istore (q := 160) X0 hx (L' := #[rv a0, iv (1 : Int32), iv (4 : Int32), iv v2, iv (4 : Int32), iv (144 : Int32), iv (143 : Int32), .unset, .unset, .unset, .unset]) (hb hby own_d1_158) rfl rfl ?_
                  refine ow_goto (q := 165) X0 hx (hb hby own_d1_160) (by decide) (by decide) ?_
                  exact cut165_3 (4 : Int32) (144 : Int32) (143 : Int32) _ _ X0 e0 N0 (by unfold own_H; simp only [Int32.lt_iff_toInt_lt, ← Int32.toInt_inj, Int32.reduceToInt, true_and, and_true] at hc22_20 hc35_21 hc42_37 hc55_38 hc111_39 hc118_40 hc128_41 hc146_42 ⊢; omega)
                · refine ow_icmpYes (q := 155) X0 hx (hb hby own_d1_146) (Jvm.Free.XT.ii_ne_t hc146_42) (by decide) (by decide) ?_
                  refine ow_sipush (q := 158) X0 hx (191 : Int32) (hb hby own_d1_155) rfl rfl ?_
                  refine ow_istore (q := 160) X0 hx (L' := #[rv a0, iv (1 : Int32), iv (4 : Int32), iv v2, iv (4 : Int32), iv (144 : Int32), iv (191 : Int32), .unset, .unset, .unset, .unset]) (hb hby own_d1_158) rfl rfl ?_
                  refine ow_goto (q := 165) X0 hx (hb hby own_d1_160) (by decide) (by decide) ?_
                  exact cut165_3 (4 : Int32) (144 : Int32) (191 : Int32) _ _ X0 e0 N0 (by unfold own_H; simp only [Int32.lt_iff_toInt_lt, ← Int32.toInt_inj, Int32.reduceToInt, true_and, and_true] at hc22_20 hc35_21 hc42_37 hc55_38 hc111_39 hc118_40 hc128_41 hc146_42 ⊢; omega)
              · refine ow_icmpYes (q := 137) X0 hx (hb hby own_d1_128) (Jvm.Free.XT.ii_ne_t hc128_41) (by decide) (by decide) ?_
                refine ow_sipush (q := 140) X0 hx (128 : Int32) (hb hby own_d1_137) rfl rfl ?_
                refine ow_istore (q := 142) X0 hx (L' := #[rv a0, iv (1 : Int32), iv (4 : Int32), iv v2, iv (4 : Int32), iv (128 : Int32), iv (191 : Int32), .unset, .unset, .unset, .unset]) (hb hby own_d1_140) rfl rfl ?_
                refine ow_iloadN (q := 143) X0 hx (hb hby own_d1_142) rfl rfl ?_
                refine ow_sipush (q := 146) X0 hx (244 : Int32) (hb hby own_d1_143) rfl rfl ?_
                by_cases hc146_43 : v2 = (244 : Int32)
                · refine ow_icmpNo (q := 149) X0 hx (hb hby own_d1_146) rfl (Jvm.Free.XT.ii_ne_f hc146_43) ?_
                  refine ow_sipush (q := 152) X0 hx (143 : Int32) (hb hby own_d1_149) rfl rfl ?_
                  refine ow_goto (q := 158) X0 hx (hb hby own_d1_152) (by decide) (by decide) ?_
                  refine ow_istore (q := 160) X0 hx (L' := #[rv a0, iv (1 : Int32), iv (4 : Int32), iv v2, iv (4 : Int32), iv (128 : Int32), iv (143 : Int32), .unset, .unset, .unset, .unset]) (hb hby own_d1_158) rfl rfl ?_
                  refine ow_goto (q := 165) X0 hx (hb hby own_d1_160) (by decide) (by decide) ?_
                  exact cut165_3 (4 : Int32) (128 : Int32) (143 : Int32) _ _ X0 e0 N0 (by unfold own_H; simp only [Int32.lt_iff_toInt_lt, ← Int32.toInt_inj, Int32.reduceToInt, true_and, and_true] at hc22_20 hc35_21 hc42_37 hc55_38 hc111_39 hc118_40 hc128_41 hc146_43 ⊢; omega)
                · refine ow_icmpYes (q := 155) X0 hx (hb hby own_d1_146) (Jvm.Free.XT.ii_ne_t hc146_43) (by decide) (by decide) ?_
                  refine ow_sipush (q := 158) X0 hx (191 : Int32) (hb hby own_d1_155) rfl rfl ?_
                  refine ow_istore (q := 160) X0 hx (L' := #[rv a0, iv (1 : Int32), iv (4 : Int32), iv v2, iv (4 : Int32), iv (128 : Int32), iv (191 : Int32), .unset, .unset, .unset, .unset]) (hb hby own_d1_158) rfl rfl ?_
                  refine ow_goto (q := 165) X0 hx (hb hby own_d1_160) (by decide) (by decide) ?_
                  exact cut165_3 (4 : Int32) (128 : Int32) (191 : Int32) _ _ X0 e0 N0 (by unfold own_H; simp only [Int32.lt_iff_toInt_lt, ← Int32.toInt_inj, Int32.reduceToInt, true_and, and_true] at hc22_20 hc35_21 hc42_37 hc55_38 hc111_39 hc118_40 hc128_41 hc146_43 ⊢; omega)
        · refine ow_icmpNo (q := 58) X0 hx (hb hby own_d1_55) rfl (Jvm.Free.XT.ii_lt_f hc55_38) ?_
          refine ow_iloadN (q := 59) X0 hx (hb hby own_d1_58) rfl rfl ?_
          refine ow_sipush (q := 62) X0 hx (239 : Int32) (hb hby own_d1_59) rfl rfl ?_
          by_cases hc62_44 : (239 : Int32) < v2
          · refine ow_icmpYes (q := 107) X0 hx (hb hby own_d1_62) (Jvm.Free.XT.ii_gt_t hc62_44) (by decide) (by decide) ?_
            refine ow_iloadN (q := 108) X0 hx (hb hby own_d1_107) rfl rfl ?_
            refine ow_sipush (q := 111) X0 hx (240 : Int32) (hb hby own_d1_108) rfl rfl ?_
            by_cases hc111_45 : v2 < (240 : Int32)
            · refine ow_icmpYes (q := 163) X0 hx (hb hby own_d1_111) (Jvm.Free.XT.ii_lt_t hc111_45) (by decide) (by decide) ?_
              refine ow_iconst (q := 164) X0 hx (0 : Int32) (hb hby own_d1_163) rfl rfl ?_
              refine ownRetI X0 hx Bd.returns (hb hby own_d1_164) hlk (by decide) (by decide) ?_
              subst hv_v2 hv_v1
              rw [e0]
              refine ⟨(0 : Int32), rfl, N0, rfl, ?_⟩
              simp only [Int32.lt_iff_toInt_lt, ← Int32.toInt_inj, Int32.reduceToInt] at hc22_20 hc35_21 hc42_37 hc55_38 hc62_44 hc111_45 ⊢
              unfold own_sq
              (repeat' split) <;> omega
            · refine ow_icmpNo (q := 114) X0 hx (hb hby own_d1_111) rfl (Jvm.Free.XT.ii_lt_f hc111_45) ?_
              refine ow_iloadN (q := 115) X0 hx (hb hby own_d1_114) rfl rfl ?_
              refine ow_sipush (q := 118) X0 hx (244 : Int32) (hb hby own_d1_115) rfl rfl ?_
              by_cases hc118_46 : (244 : Int32) < v2
              · refine ow_icmpYes (q := 163) X0 hx (hb hby own_d1_118) (Jvm.Free.XT.ii_gt_t hc118_46) (by decide) (by decide) ?_
                refine ow_iconst (q := 164) X0 hx (0 : Int32) (hb hby own_d1_163) rfl rfl ?_
                refine ownRetI X0 hx Bd.returns (hb hby own_d1_164) hlk (by decide) (by decide) ?_
                subst hv_v2 hv_v1
                rw [e0]
                refine ⟨(0 : Int32), rfl, N0, rfl, ?_⟩
                simp only [Int32.lt_iff_toInt_lt, ← Int32.toInt_inj, Int32.reduceToInt] at hc22_20 hc35_21 hc42_37 hc55_38 hc62_44 hc111_45 hc118_46 ⊢
                unfold own_sq
                (repeat' split) <;> omega
              · refine ow_icmpNo (q := 121) X0 hx (hb hby own_d1_118) rfl (Jvm.Free.XT.ii_gt_f hc118_46) ?_
                refine ow_iconst (q := 122) X0 hx (4 : Int32) (hb hby own_d1_121) rfl rfl ?_
                refine ow_istore (q := 124) X0 hx (L' := #[rv a0, iv (1 : Int32), iv (4 : Int32), iv v2, iv (4 : Int32), iv (128 : Int32), iv (191 : Int32), .unset, .unset, .unset, .unset]) (hb hby own_d1_122) rfl rfl ?_
                refine ow_iloadN (q := 125) X0 hx (hb hby own_d1_124) rfl rfl ?_
                refine ow_sipush (q := 128) X0 hx (240 : Int32) (hb hby own_d1_125) rfl rfl ?_
                by_cases hc128_47 : v2 = (240 : Int32)
                · refine ow_icmpNo (q := 131) X0 hx (hb hby own_d1_128) rfl (Jvm.Free.XT.ii_ne_f hc128_47) ?_
                  refine ow_sipush (q := 134) X0 hx (144 : Int32) (hb hby own_d1_131) rfl rfl ?_
                  refine ow_goto (q := 140) X0 hx (hb hby own_d1_134) (by decide) (by decide) ?_
                  refine ow_istore (q := 142) X0 hx (L' := #[rv a0, iv (1 : Int32), iv (4 : Int32), iv v2, iv (4 : Int32), iv (144 : Int32), iv (191 : Int32), .unset, .unset, .unset, .unset]) (hb hby own_d1_140) rfl rfl ?_
                  refine ow_iloadN (q := 143) X0 hx (hb hby own_d1_142) rfl rfl ?_
                  refine ow_sipush (q := 146) X0 hx (244 : Int32) (hb hby own_d1_143) rfl rfl ?_
                  by_cases hc146_48 : v2 = (244 : Int32)
                  · refine ow_icmpNo (q := 149) X0 hx (hb hby own_d1_146) rfl (Jvm.Free.XT.ii_ne_f hc146_48) ?_
                    refine ow_sipush (q := 152) X0 hx (143 : Int32) (hb hby own_d1_149) rfl rfl ?_
                    refine ow_goto (q := 158) X0 hx (hb hby own_d1_152) (by decide) (by decide) ?_
                    refine ow_istore (q := 160) X0 hx (L' := #[rv a0, iv (1 : Int32), iv (4 : Int32), iv v2, iv (4 : Int32), iv (144 : Int32), iv (143 : Int32), .unset, .unset, .unset, .unset]) (hb hby own_d1_158) rfl rfl ?_
                    refine ow_goto (q := 165) X0 hx (hb hby own_d1_160) (by decide) (by decide) ?_
                    exact cut165_3 (4 : Int32) (144 : Int32) (143 : Int32) _ _ X0 e0 N0 (by unfold own_H; simp only [Int32.lt_iff_toInt_lt, ← Int32.toInt_inj, Int32.reduceToInt, true_and, and_true] at hc22_20 hc35_21 hc42_37 hc55_38 hc62_44 hc111_45 hc118_46 hc128_47 hc146_48 ⊢; omega)
                  · refine ow_icmpYes (q := 155) X0 hx (hb hby own_d1_146) (Jvm.Free.XT.ii_ne_t hc146_48) (by decide) (by decide) ?_
                    refine ow_sipush (q := 158) X0 hx (191 : Int32) (hb hby own_d1_155) rfl rfl ?_
                    refine ow_istore (q := 160) X0 hx (L' := #[rv a0, iv (1 : Int32), iv (4 : Int32), iv v2, iv (4 : Int32), iv (144 : Int32), iv (191 : Int32), .unset, .unset, .unset, .unset]) (hb hby own_d1_158) rfl rfl ?_
                    refine ow_goto (q := 165) X0 hx (hb hby own_d1_160) (by decide) (by decide) ?_
                    exact cut165_3 (4 : Int32) (144 : Int32) (191 : Int32) _ _ X0 e0 N0 (by unfold own_H; simp only [Int32.lt_iff_toInt_lt, ← Int32.toInt_inj, Int32.reduceToInt, true_and, and_true] at hc22_20 hc35_21 hc42_37 hc55_38 hc62_44 hc111_45 hc118_46 hc128_47 hc146_48 ⊢; omega)
                · refine ow_icmpYes (q := 137) X0 hx (hb hby own_d1_128) (Jvm.Free.XT.ii_ne_t hc128_47) (by decide) (by decide) ?_
                  refine ow_sipush (q := 140) X0 hx (128 : Int32) (hb hby own_d1_137) rfl rfl ?_
                  refine ow_istore (q := 142) X0 hx (L' := #[rv a0, iv (1 : Int32), iv (4 : Int32), iv v2, iv (4 : Int32), iv (128 : Int32), iv (191 : Int32), .unset, .unset, .unset, .unset]) (hb hby own_d1_140) rfl rfl ?_
                  refine ow_iloadN (q := 143) X0 hx (hb hby own_d1_142) rfl rfl ?_
                  refine ow_sipush (q := 146) X0 hx (244 : Int32) (hb hby own_d1_143) rfl rfl ?_
                  by_cases hc146_49 : v2 = (244 : Int32)
                  · refine ow_icmpNo (q := 149) X0 hx (hb hby own_d1_146) rfl (Jvm.Free.XT.ii_ne_f hc146_49) ?_
                    refine ow_sipush (q := 152) X0 hx (143 : Int32) (hb hby own_d1_149) rfl rfl ?_
                    refine ow_goto (q := 158) X0 hx (hb hby own_d1_152) (by decide) (by decide) ?_
                    refine ow_istore (q := 160) X0 hx (L' := #[rv a0, iv (1 : Int32), iv (4 : Int32), iv v2, iv (4 : Int32), iv (128 : Int32), iv (143 : Int32), .unset, .unset, .unset, .unset]) (hb hby own_d1_158) rfl rfl ?_
                    refine ow_goto (q := 165) X0 hx (hb hby own_d1_160) (by decide) (by decide) ?_
                    exact cut165_3 (4 : Int32) (128 : Int32) (143 : Int32) _ _ X0 e0 N0 (by unfold own_H; simp only [Int32.lt_iff_toInt_lt, ← Int32.toInt_inj, Int32.reduceToInt, true_and, and_true] at hc22_20 hc35_21 hc42_37 hc55_38 hc62_44 hc111_45 hc118_46 hc128_47 hc146_49 ⊢; omega)
                  · refine ow_icmpYes (q := 155) X0 hx (hb hby own_d1_146) (Jvm.Free.XT.ii_ne_t hc146_49) (by decide) (by decide) ?_
                    refine ow_sipush (q := 158) X0 hx (191 : Int32) (hb hby own_d1_155) rfl rfl ?_
                    refine ow_istore (q := 160) X0 hx (L' := #[rv a0, iv (1 : Int32), iv (4 : Int32), iv v2, iv (4 : Int32), iv (128 : Int32), iv (191 : Int32), .unset, .unset, .unset, .unset]) (hb hby own_d1_158) rfl rfl ?_
                    refine ow_goto (q := 165) X0 hx (hb hby own_d1_160) (by decide) (by decide) ?_
                    exact cut165_3 (4 : Int32) (128 : Int32) (191 : Int32) _ _ X0 e0 N0 (by unfold own_H; simp only [Int32.lt_iff_toInt_lt, ← Int32.toInt_inj, Int32.reduceToInt, true_and, and_true] at hc22_20 hc35_21 hc42_37 hc55_38 hc62_44 hc111_45 hc118_46 hc128_47 hc146_49 ⊢; omega)
          · refine ow_icmpNo (q := 65) X0 hx (hb hby own_d1_62) rfl (Jvm.Free.XT.ii_gt_f hc62_44) ?_
            refine ow_iconst (q := 66) X0 hx (3 : Int32) (hb hby own_d1_65) rfl rfl ?_
            refine ow_istore (q := 68) X0 hx (L' := #[rv a0, iv (1 : Int32), iv (4 : Int32), iv v2, iv (3 : Int32), iv (128 : Int32), iv (191 : Int32), .unset, .unset, .unset, .unset]) (hb hby own_d1_66) rfl rfl ?_
            refine ow_iloadN (q := 69) X0 hx (hb hby own_d1_68) rfl rfl ?_
            refine ow_sipush (q := 72) X0 hx (224 : Int32) (hb hby own_d1_69) rfl rfl ?_
            by_cases hc72_50 : v2 = (224 : Int32)
            · refine ow_icmpNo (q := 75) X0 hx (hb hby own_d1_72) rfl (Jvm.Free.XT.ii_ne_f hc72_50) ?_
              refine ow_sipush (q := 78) X0 hx (160 : Int32) (hb hby own_d1_75) rfl rfl ?_
              refine ow_goto (q := 84) X0 hx (hb hby own_d1_78) (by decide) (by decide) ?_
              refine ow_istore (q := 86) X0 hx (L' := #[rv a0, iv (1 : Int32), iv (4 : Int32), iv v2, iv (3 : Int32), iv (160 : Int32), iv (191 : Int32), .unset, .unset, .unset, .unset]) (hb hby own_d1_84) rfl rfl ?_
              refine ow_iloadN (q := 87) X0 hx (hb hby own_d1_86) rfl rfl ?_
              refine ow_sipush (q := 90) X0 hx (237 : Int32) (hb hby own_d1_87) rfl rfl ?_
              by_cases hc90_51 : v2 = (237 : Int32)
              · refine ow_icmpNo (q := 93) X0 hx (hb hby own_d1_90) rfl (Jvm.Free.XT.ii_ne_f hc90_51) ?_
                refine ow_sipush (q := 96) X0 hx (159 : Int32) (hb hby own_d1_93) rfl rfl ?_
                refine ow_goto (q := 102) X0 hx (hb hby own_d1_96) (by decide) (by decide) ?_
                refine ow_istore (q := 104) X0 hx (L' := #[rv a0, iv (1 : Int32), iv (4 : Int32), iv v2, iv (3 : Int32), iv (160 : Int32), iv (159 : Int32), .unset, .unset, .unset, .unset]) (hb hby own_d1_102) rfl rfl ?_
                refine ow_goto (q := 165) X0 hx (hb hby own_d1_104) (by decide) (by decide) ?_
                exact cut165_3 (3 : Int32) (160 : Int32) (159 : Int32) _ _ X0 e0 N0 (by unfold own_H; simp only [Int32.lt_iff_toInt_lt, ← Int32.toInt_inj, Int32.reduceToInt, true_and, and_true] at hc22_20 hc35_21 hc42_37 hc55_38 hc62_44 hc72_50 hc90_51 ⊢; omega)
              · refine ow_icmpYes (q := 99) X0 hx (hb hby own_d1_90) (Jvm.Free.XT.ii_ne_t hc90_51) (by decide) (by decide) ?_
                refine ow_sipush (q := 102) X0 hx (191 : Int32) (hb hby own_d1_99) rfl rfl ?_
                refine ow_istore (q := 104) X0 hx (L' := #[rv a0, iv (1 : Int32), iv (4 : Int32), iv v2, iv (3 : Int32), iv (160 : Int32), iv (191 : Int32), .unset, .unset, .unset, .unset]) (hb hby own_d1_102) rfl rfl ?_
                refine ow_goto (q := 165) X0 hx (hb hby own_d1_104) (by decide) (by decide) ?_
                exact cut165_3 (3 : Int32) (160 : Int32) (191 : Int32) _ _ X0 e0 N0 (by unfold own_H; simp only [Int32.lt_iff_toInt_lt, ← Int32.toInt_inj, Int32.reduceToInt, true_and, and_true] at hc22_20 hc35_21 hc42_37 hc55_38 hc62_44 hc72_50 hc90_51 ⊢; omega)
            · refine ow_icmpYes (q := 81) X0 hx (hb hby own_d1_72) (Jvm.Free.XT.ii_ne_t hc72_50) (by decide) (by decide) ?_
              refine ow_sipush (q := 84) X0 hx (128 : Int32) (hb hby own_d1_81) rfl rfl ?_
              refine ow_istore (q := 86) X0 hx (L' := #[rv a0, iv (1 : Int32), iv (4 : Int32), iv v2, iv (3 : Int32), iv (128 : Int32), iv (191 : Int32), .unset, .unset, .unset, .unset]) (hb hby own_d1_84) rfl rfl ?_
              refine ow_iloadN (q := 87) X0 hx (hb hby own_d1_86) rfl rfl ?_
              refine ow_sipush (q := 90) X0 hx (237 : Int32) (hb hby own_d1_87) rfl rfl ?_
              by_cases hc90_52 : v2 = (237 : Int32)
              · refine ow_icmpNo (q := 93) X0 hx (hb hby own_d1_90) rfl (Jvm.Free.XT.ii_ne_f hc90_52) ?_
                refine ow_sipush (q := 96) X0 hx (159 : Int32) (hb hby own_d1_93) rfl rfl ?_
                refine ow_goto (q := 102) X0 hx (hb hby own_d1_96) (by decide) (by decide) ?_
                refine ow_istore (q := 104) X0 hx (L' := #[rv a0, iv (1 : Int32), iv (4 : Int32), iv v2, iv (3 : Int32), iv (128 : Int32), iv (159 : Int32), .unset, .unset, .unset, .unset]) (hb hby own_d1_102) rfl rfl ?_
                refine ow_goto (q := 165) X0 hx (hb hby own_d1_104) (by decide) (by decide) ?_
                exact cut165_3 (3 : Int32) (128 : Int32) (159 : Int32) _ _ X0 e0 N0 (by unfold own_H; simp only [Int32.lt_iff_toInt_lt, ← Int32.toInt_inj, Int32.reduceToInt, true_and, and_true] at hc22_20 hc35_21 hc42_37 hc55_38 hc62_44 hc72_50 hc90_52 ⊢; omega)
              · refine ow_icmpYes (q := 99) X0 hx (hb hby own_d1_90) (Jvm.Free.XT.ii_ne_t hc90_52) (by decide) (by decide) ?_
                refine ow_sipush (q := 102) X0 hx (191 : Int32) (hb hby own_d1_99) rfl rfl ?_
                refine ow_istore (q := 104) X0 hx (L' := #[rv a0, iv (1 : Int32), iv (4 : Int32), iv v2, iv (3 : Int32), iv (128 : Int32), iv (191 : Int32), .unset, .unset, .unset, .unset]) (hb hby own_d1_102) rfl rfl ?_
                refine ow_goto (q := 165) X0 hx (hb hby own_d1_104) (by decide) (by decide) ?_
                exact cut165_3 (3 : Int32) (128 : Int32) (191 : Int32) _ _ X0 e0 N0 (by unfold own_H; simp only [Int32.lt_iff_toInt_lt, ← Int32.toInt_inj, Int32.reduceToInt, true_and, and_true] at hc22_20 hc35_21 hc42_37 hc55_38 hc62_44 hc72_50 hc90_52 ⊢; omega)
      · refine ow_icmpNo (q := 45) X0 hx (hb hby own_d1_42) rfl (Jvm.Free.XT.ii_gt_f hc42_37) ?_
        refine ow_iconst (q := 46) X0 hx (2 : Int32) (hb hby own_d1_45) rfl rfl ?_
        refine ow_istore (q := 48) X0 hx (L' := #[rv a0, iv (1 : Int32), iv (4 : Int32), iv v2, iv (2 : Int32), iv (128 : Int32), iv (191 : Int32), .unset, .unset, .unset, .unset]) (hb hby own_d1_46) rfl rfl ?_
        refine ow_goto (q := 165) X0 hx (hb hby own_d1_48) (by decide) (by decide) ?_
        exact cut165_3 (2 : Int32) (128 : Int32) (191 : Int32) _ _ X0 e0 N0 (by unfold own_H; simp only [Int32.lt_iff_toInt_lt, ← Int32.toInt_inj, Int32.reduceToInt, true_and, and_true] at hc22_20 hc35_21 hc42_37 ⊢; omega)
theorem own_ef1_seq_1_4 (m : MethodId) (a0 : Addr) : entryFrame m #[(.ref a0), (.int (1 : Int32)), (.int (5 : Int32))] 11 = mkF m 0 #[rv a0, iv (1 : Int32), iv (5 : Int32), .unset, .unset, .unset, .unset, .unset, .unset, .unset, .unset] [] := by first | (simp [entryFrame, mkF, argsToLocals, Value.category]; done) | rfl
def Q_seq_1_4 (Z : State) (a0 : Addr) (g : Nat → Int32) (h0 : Heap) (n0 : Nat) (v : Option Value) (h : Heap) (L : List Loc) : Prop := ∃ (r : Int32), v = some (.int r) ∧ Fr n0 L ∧ h = h0 ∧ (r.toInt = own_sq ((g 1) &&& (255 : Int32)).toInt ((g 2) &&& (255 : Int32)).toInt ((g 3) &&& (255 : Int32)).toInt ((g 4) &&& (255 : Int32)).toInt 4)
set_option maxRecDepth 65536 in
set_option maxHeartbeats 40000000 in
theorem rm_seq_1_4 (l : Launch) (Z : State) (av0 : Array Value) (hw : ∀ d ∈ tables_1, d.before av0 Z = true) (ws : List Jvm.Cond) (a0 : Addr) (g : Nat → Int32) (h0 : Heap) (n0 : Nat) (Z0 : n0 ≤ h0.size) (HF0 : ownAI Z h0 a0 .byte 5 g) :
    MetFree l (⟨"com/example/descend/descend/XmlChars", "sequenceLength", "([BII)I"⟩ : MethodName) (head1 (Jvm.Cond.code (⟨"com/example/descend/descend/XmlChars", "sequenceLength", "([BII)I"⟩ : MethodName) prog_24_method_14_code 11 (some .int) :: ws) ({ frames := 0, cells := 0, slots := 0, locals := 0 } : Room)) (fun a U => a = #[(.ref a0), (.int (1 : Int32)), (.int (5 : Int32))] ∧ Z.Warmed39 U.vm ∧ U.heap = h0) (fun _ _ _ _ _ => True) (fun _ U o U' => ∃ v L, o = .returned v ∧ (Q_seq_1_4 Z a0 g h0 n0) v U'.heap L ∧ FrameEnd U o U' L ({ frames := 0, cells := 0, slots := 0, locals := 0 } : Room).cells ({ frames := 0, cells := 0, slots := 0, locals := 0 } : Room).slots) := by
  refine MetFree.of_bodySF (plainFor_of_name own_pn_XmlChars) hisR ?_
  intro p e s m args below meth c s₁ Bd hml0 hP hK
  obtain ⟨rfl, hZ, hh⟩ := hP
  have hx := Bd.exec
  have hby := Bd.bytes
  have hml : c.maxLocals = 11 := hml0
  have hown : s.vm.findClass "com/example/descend/descend/XmlChars" = some m.cls := findClass_of_methodNamed Bd.named
  have hnm := (name_of_methodNamed Bd.named Bd.method).1
  have hlk : meth.locks = false := BodyLoose.notSynchronized Bd
  have X0 : Stand p l e ({ frames := 0, cells := 0, slots := 0, locals := 0 } : Room) s m #[(.ref a0), (.int (1 : Int32)), (.int (5 : Int32))] below meth c s₁ [] 0 0 := Stand.of_body Bd
  have e0 : s₁.heap = h0 := by rw [← hh, Bd.state]; rfl
  have N0 := Fr.nil n0
  have K0 : Keep h0 h0 [] := Keep.refl _ _
  show ownEnds p e below s (Q_seq_1_4 Z a0 g h0 n0) ({ frames := 0, cells := 0, slots := 0, locals := 0 } : Room).cells ({ frames := 0, cells := 0, slots := 0, locals := 0 } : Room).slots s₁ (entryFrame m #[(.ref a0), (.int (1 : Int32)), (.int (5 : Int32))] 11)
  refine ownCast (own_ef1_seq_1_4 m a0) ?_
  refine ow_aloadN (q := 1) X0 hx (hb hby own_d1_0) rfl rfl rfl ?_
  refine ow_iloadN (q := 2) X0 hx (hb hby own_d1_1) rfl rfl ?_
  refine ownGo (T' := s₁) (f' := (mkF m 3 #[rv a0, iv (1 : Int32), iv (5 : Int32), .unset, .unset, .unset, .unset, .unset, .unset, .unset, .unset] [(.int (g 1))])) (ownBaload HF0 X0 hx hZ e0 (j := (1 : Int32)) (by unfold ownIn; decide) (g := (mkF m 2 #[rv a0, iv (1 : Int32), iv (5 : Int32), .unset, .unset, .unset, .unset, .unset, .unset, .unset, .unset] [(.int (1 : Int32)), (.ref a0)])) rfl rfl (hb hby own_d1_2)) ?_
  generalize hv_v1 : (g 1) = v1
  refine ow_sipush (q := 6) X0 hx (255 : Int32) (hb hby own_d1_3) rfl rfl ?_
  refine ow_iand (q := 7) X0 hx _ (hb hby own_d1_6) rfl rfl ?_
  generalize hv_v2 : (v1 &&& (255 : Int32)) = v2
  refine ow_istoreN (q := 8) X0 hx (L' := #[rv a0, iv (1 : Int32), iv (5 : Int32), iv v2, .unset, .unset, .unset, .unset, .unset, .unset, .unset]) (hb hby own_d1_7) rfl rfl ?_
  refine ow_sipush (q := 11) X0 hx (128 : Int32) (hb hby own_d1_8) rfl rfl ?_
  refine ow_istore (q := 13) X0 hx (L' := #[rv a0, iv (1 : Int32), iv (5 : Int32), iv v2, .unset, iv (128 : Int32), .unset, .unset, .unset, .unset, .unset]) (hb hby own_d1_11) rfl rfl ?_
  refine ow_sipush (q := 16) X0 hx (191 : Int32) (hb hby own_d1_13) rfl rfl ?_
  refine ow_istore (q := 18) X0 hx (L' := #[rv a0, iv (1 : Int32), iv (5 : Int32), iv v2, .unset, iv (128 : Int32), iv (191 : Int32), .unset, .unset, .unset, .unset]) (hb hby own_d1_16) rfl rfl ?_
  have cut165_3 : ∀ (ln : Int32) (lo : Int32) (hi : Int32) (Tc3 : State) (lc3 : List Loc), Stand p l e ({ frames := 0, cells := 0, slots := 0, locals := 0 } : Room) s m #[(.ref a0), (.int (1 : Int32)), (.int (5 : Int32))] below meth c Tc3 lc3 0 0 → Tc3.heap = h0 → Fr n0 lc3 → (own_H v2.toInt ln.toInt lo.toInt hi.toInt) → ownEnds p e below s (Q_seq_1_4 Z a0 g h0 n0) ({ frames := 0, cells := 0, slots := 0, locals := 0 } : Room).cells ({ frames := 0, cells := 0, slots := 0, locals := 0 } : Room).slots Tc3 (mkF m 165 #[rv a0, iv (1 : Int32), iv (5 : Int32), iv v2, iv ln, iv lo, iv hi, .unset, .unset, .unset, .unset] []) := by
    intro ln lo hi Tc3 lc3 Xc3 ec3 Nc3 hH
    refine ow_iloadN (q := 166) Xc3 hx (hb hby own_d1_165) rfl rfl ?_
    rcases own_Hln hH with hs4 | hs5 | hs6 | hs7
    · subst hs4
      refine ow_iload (q := 168) Xc3 hx (hb hby own_d1_166) rfl rfl ?_
      refine ow_iadd (q := 169) Xc3 hx (2 : Int32) (hb hby own_d1_168) rfl (by decide) ?_
      refine ow_iloadN (q := 170) Xc3 hx (hb hby own_d1_169) rfl rfl ?_
      refine ow_icmpYes (q := 175) Xc3 hx (hb hby own_d1_170) (Jvm.Free.XT.ii_le_t (by decide)) (by decide) (by decide) ?_
      refine ow_iconst (q := 176) Xc3 hx (1 : Int32) (hb hby own_d1_175) rfl rfl ?_
      refine ow_istore (q := 178) Xc3 hx (L' := #[rv a0, iv (1 : Int32), iv (5 : Int32), iv v2, iv (1 : Int32), iv lo, iv hi, iv (1 : Int32), .unset, .unset, .unset]) (hb hby own_d1_176) rfl rfl ?_
      refine ow_iload (q := 180) Xc3 hx (hb hby own_d1_178) rfl rfl ?_
      refine ow_iload (q := 182) Xc3 hx (hb hby own_d1_180) rfl rfl ?_
      refine ow_icmpYes (q := 251) Xc3 hx (hb hby own_d1_182) (Jvm.Free.XT.ii_ge_t (by decide)) (by decide) (by decide) ?_
      refine ow_iload (q := 253) Xc3 hx (hb hby own_d1_251) rfl rfl ?_
      refine ownRetI Xc3 hx Bd.returns (hb hby own_d1_253) hlk (by decide) (by decide) ?_
      subst hv_v2 hv_v1
      rw [ec3]
      refine ⟨(1 : Int32), rfl, Nc3, rfl, ?_⟩
      unfold own_H at hH
      simp only [Int32.lt_iff_toInt_lt, ← Int32.toInt_inj, Int32.reduceToInt] at  hH ⊢
      unfold own_sq
      (repeat' split) <;> omega
    · subst hs5
      refine ow_iload (q := 168) Xc3 hx (hb hby own_d1_166) rfl rfl ?_
      refine ow_iadd (q := 169) Xc3 hx (3 : Int32) (hb hby own_d1_168) rfl (by decide) ?_
      refine ow_iloadN (q := 170) Xc3 hx (hb hby own_d1_169) rfl rfl ?_
      refine ow_icmpYes (q := 175) Xc3 hx (hb hby own_d1_170) (Jvm.Free.XT.ii_le_t (by decide)) (by decide) (by decide) ?_
      refine ow_iconst (q := 176) Xc3 hx (1 : Int32) (hb hby own_d1_175) rfl rfl ?_
      refine ow_istore (q := 178) Xc3 hx (L' := #[rv a0, iv (1 : Int32), iv (5 : Int32), iv v2, iv (2 : Int32), iv lo, iv hi, iv (1 : Int32), .unset, .unset, .unset]) (hb hby own_d1_176) rfl rfl ?_
      refine ow_iload (q := 180) Xc3 hx (hb hby own_d1_178) rfl rfl ?_
      refine ow_iload (q := 182) Xc3 hx (hb hby own_d1_180) rfl rfl ?_
      refine ow_icmpNo (q := 185) Xc3 hx (hb hby own_d1_182) rfl (Jvm.Free.XT.ii_ge_f (by decide)) ?_
      refine ow_aloadN (q := 186) Xc3 hx (hb hby own_d1_185) rfl rfl rfl ?_
      refine ow_iloadN (q := 187) Xc3 hx (hb hby own_d1_186) rfl rfl ?_
      refine ow_iload (q := 189) Xc3 hx (hb hby own_d1_187) rfl rfl ?_
      refine ow_iadd (q := 190) Xc3 hx (2 : Int32) (hb hby own_d1_189) rfl (by decide) ?_
      refine ownGo (T' := Tc3) (f' := (mkF m 191 #[rv a0, iv (1 : Int32), iv (5 : Int32), iv v2, iv (2 : Int32), iv lo, iv hi, iv (1 : Int32), .unset, .unset, .unset] [(.int (g 2))])) (ownBaload HF0 Xc3 hx hZ ec3 (j := (2 : Int32)) (by unfold ownIn; decide) (g := (mkF m 190 #[rv a0, iv (1 : Int32), iv (5 : Int32), iv v2, iv (2 : Int32), iv lo, iv hi, iv (1 : Int32), .unset, .unset, .unset] [(.int (2 : Int32)), (.ref a0)])) rfl rfl (hb hby own_d1_190)) ?_
      generalize hv_v8 : (g 2) = v8
      refine ow_sipush (q := 194) Xc3 hx (255 : Int32) (hb hby own_d1_191) rfl rfl ?_
      refine ow_iand (q := 195) Xc3 hx _ (hb hby own_d1_194) rfl rfl ?_
      generalize hv_v9 : (v8 &&& (255 : Int32)) = v9
      refine ow_istore (q := 197) Xc3 hx (L' := #[rv a0, iv (1 : Int32), iv (5 : Int32), iv v2, iv (2 : Int32), iv lo, iv hi, iv (1 : Int32), iv v9, .unset, .unset]) (hb hby own_d1_195) rfl rfl ?_
      refine ow_iload (q := 199) Xc3 hx (hb hby own_d1_197) rfl rfl ?_
      refine ow_iconst (q := 200) Xc3 hx (1 : Int32) (hb hby own_d1_199) rfl rfl ?_
      refine ow_icmpNo (q := 203) Xc3 hx (hb hby own_d1_200) rfl (Jvm.Free.XT.ii_ne_f (by decide)) ?_
      refine ow_iload (q := 205) Xc3 hx (hb hby own_d1_203) rfl rfl ?_
      refine ow_goto (q := 211) Xc3 hx (hb hby own_d1_205) (by decide) (by decide) ?_
      refine ow_istore (q := 213) Xc3 hx (L' := #[rv a0, iv (1 : Int32), iv (5 : Int32), iv v2, iv (2 : Int32), iv lo, iv hi, iv (1 : Int32), iv v9, iv lo, .unset]) (hb hby own_d1_211) rfl rfl ?_
      refine ow_iload (q := 215) Xc3 hx (hb hby own_d1_213) rfl rfl ?_
      refine ow_iconst (q := 216) Xc3 hx (1 : Int32) (hb hby own_d1_215) rfl rfl ?_
      refine ow_icmpNo (q := 219) Xc3 hx (hb hby own_d1_216) rfl (Jvm.Free.XT.ii_ne_f (by decide)) ?_
      refine ow_iload (q := 221) Xc3 hx (hb hby own_d1_219) rfl rfl ?_
      refine ow_goto (q := 227) Xc3 hx (hb hby own_d1_221) (by decide) (by decide) ?_
      refine ow_istore (q := 229) Xc3 hx (L' := #[rv a0, iv (1 : Int32), iv (5 : Int32), iv v2, iv (2 : Int32), iv lo, iv hi, iv (1 : Int32), iv v9, iv lo, iv hi]) (hb hby own_d1_227) rfl rfl ?_
      refine ow_iload (q := 231) Xc3 hx (hb hby own_d1_229) rfl rfl ?_
      refine ow_iload (q := 233) Xc3 hx (hb hby own_d1_231) rfl rfl ?_
      by_cases hc233_10 : v9 < lo
      · refine ow_icmpYes (q := 243) Xc3 hx (hb hby own_d1_233) (Jvm.Free.XT.ii_lt_t hc233_10) (by decide) (by decide) ?_
        refine ow_iconst (q := 244) Xc3 hx (0 : Int32) (hb hby own_d1_243) rfl rfl ?_
        refine ownRetI Xc3 hx Bd.returns (hb hby own_d1_244) hlk (by decide) (by decide) ?_
        subst hv_v9 hv_v8 hv_v2 hv_v1
        rw [ec3]
        refine ⟨(0 : Int32), rfl, Nc3, rfl, ?_⟩
        unfold own_H at hH
        simp only [Int32.lt_iff_toInt_lt, ← Int32.toInt_inj, Int32.reduceToInt] at hc233_10 hH ⊢
        unfold own_sq
        (repeat' split) <;> omega
      · refine ow_icmpNo (q := 236) Xc3 hx (hb hby own_d1_233) rfl (Jvm.Free.XT.ii_lt_f hc233_10) ?_
        refine ow_iload (q := 238) Xc3 hx (hb hby own_d1_236) rfl rfl ?_
        refine ow_iload (q := 240) Xc3 hx (hb hby own_d1_238) rfl rfl ?_
        by_cases hc240_11 : hi < v9
        · refine ow_icmpNo (q := 243) Xc3 hx (hb hby own_d1_240) rfl (Jvm.Free.XT.ii_le_f hc240_11) ?_
          refine ow_iconst (q := 244) Xc3 hx (0 : Int32) (hb hby own_d1_243) rfl rfl ?_
          refine ownRetI Xc3 hx Bd.returns (hb hby own_d1_244) hlk (by decide) (by decide) ?_
          subst hv_v9 hv_v8 hv_v2 hv_v1
          rw [ec3]
          refine ⟨(0 : Int32), rfl, Nc3, rfl, ?_⟩
          unfold own_H at hH
          simp only [Int32.lt_iff_toInt_lt, ← Int32.toInt_inj, Int32.reduceToInt] at hc233_10 hc240_11 hH ⊢
          unfold own_sq
          (repeat' split) <;> omega
        · refine ow_icmpYes (q := 245) Xc3 hx (hb hby own_d1_240) (Jvm.Free.XT.ii_le_t hc240_11) (by decide) (by decide) ?_
          refine ow_iinc (q := 248) Xc3 hx (L' := #[rv a0, iv (1 : Int32), iv (5 : Int32), iv v2, iv (2 : Int32), iv lo, iv hi, iv (2 : Int32), iv v9, iv lo, iv hi]) (hb hby own_d1_245) rfl rfl rfl ?_
          refine ow_goto (q := 178) Xc3 hx (hb hby own_d1_248) (by decide) (by decide) ?_
          refine ow_iload (q := 180) Xc3 hx (hb hby own_d1_178) rfl rfl ?_
          refine ow_iload (q := 182) Xc3 hx (hb hby own_d1_180) rfl rfl ?_
          refine ow_icmpYes (q := 251) Xc3 hx (hb hby own_d1_182) (Jvm.Free.XT.ii_ge_t (by decide)) (by decide) (by decide) ?_
          refine ow_iload (q := 253) Xc3 hx (hb hby own_d1_251) rfl rfl ?_
          refine ownRetI Xc3 hx Bd.returns (hb hby own_d1_253) hlk (by decide) (by decide) ?_
          subst hv_v9 hv_v8 hv_v2 hv_v1
          rw [ec3]
          refine ⟨(2 : Int32), rfl, Nc3, rfl, ?_⟩
          unfold own_H at hH
          simp only [Int32.lt_iff_toInt_lt, ← Int32.toInt_inj, Int32.reduceToInt] at hc233_10 hc240_11 hH ⊢
          unfold own_sq
          (repeat' split) <;> omega
    · subst hs6
      refine ow_iload (q := 168) Xc3 hx (hb hby own_d1_166) rfl rfl ?_
      refine ow_iadd (q := 169) Xc3 hx (4 : Int32) (hb hby own_d1_168) rfl (by decide) ?_
      refine ow_iloadN (q := 170) Xc3 hx (hb hby own_d1_169) rfl rfl ?_
      refine ow_icmpYes (q := 175) Xc3 hx (hb hby own_d1_170) (Jvm.Free.XT.ii_le_t (by decide)) (by decide) (by decide) ?_
      refine ow_iconst (q := 176) Xc3 hx (1 : Int32) (hb hby own_d1_175) rfl rfl ?_
      refine ow_istore (q := 178) Xc3 hx (L' := #[rv a0, iv (1 : Int32), iv (5 : Int32), iv v2, iv (3 : Int32), iv lo, iv hi, iv (1 : Int32), .unset, .unset, .unset]) (hb hby own_d1_176) rfl rfl ?_
      refine ow_iload (q := 180) Xc3 hx (hb hby own_d1_178) rfl rfl ?_
      refine ow_iload (q := 182) Xc3 hx (hb hby own_d1_180) rfl rfl ?_
      refine ow_icmpNo (q := 185) Xc3 hx (hb hby own_d1_182) rfl (Jvm.Free.XT.ii_ge_f (by decide)) ?_
      refine ow_aloadN (q := 186) Xc3 hx (hb hby own_d1_185) rfl rfl rfl ?_
      refine ow_iloadN (q := 187) Xc3 hx (hb hby own_d1_186) rfl rfl ?_
      refine ow_iload (q := 189) Xc3 hx (hb hby own_d1_187) rfl rfl ?_
      refine ow_iadd (q := 190) Xc3 hx (2 : Int32) (hb hby own_d1_189) rfl (by decide) ?_
      refine ownGo (T' := Tc3) (f' := (mkF m 191 #[rv a0, iv (1 : Int32), iv (5 : Int32), iv v2, iv (3 : Int32), iv lo, iv hi, iv (1 : Int32), .unset, .unset, .unset] [(.int (g 2))])) (ownBaload HF0 Xc3 hx hZ ec3 (j := (2 : Int32)) (by unfold ownIn; decide) (g := (mkF m 190 #[rv a0, iv (1 : Int32), iv (5 : Int32), iv v2, iv (3 : Int32), iv lo, iv hi, iv (1 : Int32), .unset, .unset, .unset] [(.int (2 : Int32)), (.ref a0)])) rfl rfl (hb hby own_d1_190)) ?_
      generalize hv_v12 : (g 2) = v12
      refine ow_sipush (q := 194) Xc3 hx (255 : Int32) (hb hby own_d1_191) rfl rfl ?_
      refine ow_iand (q := 195) Xc3 hx _ (hb hby own_d1_194) rfl rfl ?_
      generalize hv_v13 : (v12 &&& (255 : Int32)) = v13
      refine ow_istore (q := 197) Xc3 hx (L' := #[rv a0, iv (1 : Int32), iv (5 : Int32), iv v2, iv (3 : Int32), iv lo, iv hi, iv (1 : Int32), iv v13, .unset, .unset]) (hb hby own_d1_195) rfl rfl ?_
      refine ow_iload (q := 199) Xc3 hx (hb hby own_d1_197) rfl rfl ?_
      refine ow_iconst (q := 200) Xc3 hx (1 : Int32) (hb hby own_d1_199) rfl rfl ?_
      refine ow_icmpNo (q := 203) Xc3 hx (hb hby own_d1_200) rfl (Jvm.Free.XT.ii_ne_f (by decide)) ?_
      refine ow_iload (q := 205) Xc3 hx (hb hby own_d1_203) rfl rfl ?_
      refine ow_goto (q := 211) Xc3 hx (hb hby own_d1_205) (by decide) (by decide) ?_
      refine ow_istore (q := 213) Xc3 hx (L' := #[rv a0, iv (1 : Int32), iv (5 : Int32), iv v2, iv (3 : Int32), iv lo, iv hi, iv (1 : Int32), iv v13, iv lo, .unset]) (hb hby own_d1_211) rfl rfl ?_
      refine ow_iload (q := 215) Xc3 hx (hb hby own_d1_213) rfl rfl ?_
      refine ow_iconst (q := 216) Xc3 hx (1 : Int32) (hb hby own_d1_215) rfl rfl ?_
      refine ow_icmpNo (q := 219) Xc3 hx (hb hby own_d1_216) rfl (Jvm.Free.XT.ii_ne_f (by decide)) ?_
      refine ow_iload (q := 221) Xc3 hx (hb hby own_d1_219) rfl rfl ?_
      refine ow_goto (q := 227) Xc3 hx (hb hby own_d1_221) (by decide) (by decide) ?_
      refine ow_istore (q := 229) Xc3 hx (L' := #[rv a0, iv (1 : Int32), iv (5 : Int32), iv v2, iv (3 : Int32), iv lo, iv hi, iv (1 : Int32), iv v13, iv lo, iv hi]) (hb hby own_d1_227) rfl rfl ?_
      refine ow_iload (q := 231) Xc3 hx (hb hby own_d1_229) rfl rfl ?_
      refine ow_iload (q := 233) Xc3 hx (hb hby own_d1_231) rfl rfl ?_
      by_cases hc233_14 : v13 < lo
      · refine ow_icmpYes (q := 243) Xc3 hx (hb hby own_d1_233) (Jvm.Free.XT.ii_lt_t hc233_14) (by decide) (by decide) ?_
        refine ow_iconst (q := 244) Xc3 hx (0 : Int32) (hb hby own_d1_243) rfl rfl ?_
        refine ownRetI Xc3 hx Bd.returns (hb hby own_d1_244) hlk (by decide) (by decide) ?_
        subst hv_v13 hv_v12 hv_v2 hv_v1
        rw [ec3]
        refine ⟨(0 : Int32), rfl, Nc3, rfl, ?_⟩
        unfold own_H at hH
        simp only [Int32.lt_iff_toInt_lt, ← Int32.toInt_inj, Int32.reduceToInt] at hc233_14 hH ⊢
        unfold own_sq
        (repeat' split) <;> omega
      · refine ow_icmpNo (q := 236) Xc3 hx (hb hby own_d1_233) rfl (Jvm.Free.XT.ii_lt_f hc233_14) ?_
        refine ow_iload (q := 238) Xc3 hx (hb hby own_d1_236) rfl rfl ?_
        refine ow_iload (q := 240) Xc3 hx (hb hby own_d1_238) rfl rfl ?_
        by_cases hc240_15 : hi < v13
        · refine ow_icmpNo (q := 243) Xc3 hx (hb hby own_d1_240) rfl (Jvm.Free.XT.ii_le_f hc240_15) ?_
          refine ow_iconst (q := 244) Xc3 hx (0 : Int32) (hb hby own_d1_243) rfl rfl ?_
          refine ownRetI Xc3 hx Bd.returns (hb hby own_d1_244) hlk (by decide) (by decide) ?_
          subst hv_v13 hv_v12 hv_v2 hv_v1
          rw [ec3]
          refine ⟨(0 : Int32), rfl, Nc3, rfl, ?_⟩
          unfold own_H at hH
          simp only [Int32.lt_iff_toInt_lt, ← Int32.toInt_inj, Int32.reduceToInt] at hc233_14 hc240_15 hH ⊢
          unfold own_sq
          (repeat' split) <;> omega
        · refine ow_icmpYes (q := 245) Xc3 hx (hb hby own_d1_240) (Jvm.Free.XT.ii_le_t hc240_15) (by decide) (by decide) ?_
          refine ow_iinc (q := 248) Xc3 hx (L' := #[rv a0, iv (1 : Int32), iv (5 : Int32), iv v2, iv (3 : Int32), iv lo, iv hi, iv (2 : Int32), iv v13, iv lo, iv hi]) (hb hby own_d1_245) rfl rfl rfl ?_
          refine ow_goto (q := 178) Xc3 hx (hb hby own_d1_248) (by decide) (by decide) ?_
          refine ow_iload (q := 180) Xc3 hx (hb hby own_d1_178) rfl rfl ?_
          refine ow_iload (q := 182) Xc3 hx (hb hby own_d1_180) rfl rfl ?_
          refine ow_icmpNo (q := 185) Xc3 hx (hb hby own_d1_182) rfl (Jvm.Free.XT.ii_ge_f (by decide)) ?_
          refine ow_aloadN (q := 186) Xc3 hx (hb hby own_d1_185) rfl rfl rfl ?_
          refine ow_iloadN (q := 187) Xc3 hx (hb hby own_d1_186) rfl rfl ?_
          refine ow_iload (q := 189) Xc3 hx (hb hby own_d1_187) rfl rfl ?_
          refine ow_iadd (q := 190) Xc3 hx (3 : Int32) (hb hby own_d1_189) rfl (by decide) ?_
          refine ownGo (T' := Tc3) (f' := (mkF m 191 #[rv a0, iv (1 : Int32), iv (5 : Int32), iv v2, iv (3 : Int32), iv lo, iv hi, iv (2 : Int32), iv v13, iv lo, iv hi] [(.int (g 3))])) (ownBaload HF0 Xc3 hx hZ ec3 (j := (3 : Int32)) (by unfold ownIn; decide) (g := (mkF m 190 #[rv a0, iv (1 : Int32), iv (5 : Int32), iv v2, iv (3 : Int32), iv lo, iv hi, iv (2 : Int32), iv v13, iv lo, iv hi] [(.int (3 : Int32)), (.ref a0)])) rfl rfl (hb hby own_d1_190)) ?_
          generalize hv_v16 : (g 3) = v16
          refine ow_sipush (q := 194) Xc3 hx (255 : Int32) (hb hby own_d1_191) rfl rfl ?_
          refine ow_iand (q := 195) Xc3 hx _ (hb hby own_d1_194) rfl rfl ?_
          generalize hv_v17 : (v16 &&& (255 : Int32)) = v17
          refine ow_istore (q := 197) Xc3 hx (L' := #[rv a0, iv (1 : Int32), iv (5 : Int32), iv v2, iv (3 : Int32), iv lo, iv hi, iv (2 : Int32), iv v17, iv lo, iv hi]) (hb hby own_d1_195) rfl rfl ?_
          refine ow_iload (q := 199) Xc3 hx (hb hby own_d1_197) rfl rfl ?_
          refine ow_iconst (q := 200) Xc3 hx (1 : Int32) (hb hby own_d1_199) rfl rfl ?_
          refine ow_icmpYes (q := 208) Xc3 hx (hb hby own_d1_200) (Jvm.Free.XT.ii_ne_t (by decide)) (by decide) (by decide) ?_
          refine ow_sipush (q := 211) Xc3 hx (128 : Int32) (hb hby own_d1_208) rfl rfl ?_
          refine ow_istore (q := 213) Xc3 hx (L' := #[rv a0, iv (1 : Int32), iv (5 : Int32), iv v2, iv (3 : Int32), iv lo, iv hi, iv (2 : Int32), iv v17, iv (128 : Int32), iv hi]) (hb hby own_d1_211) rfl rfl ?_
          refine ow_iload (q := 215) Xc3 hx (hb hby own_d1_213) rfl rfl ?_
          refine ow_iconst (q := 216) Xc3 hx (1 : Int32) (hb hby own_d1_215) rfl rfl ?_
          refine ow_icmpYes (q := 224) Xc3 hx (hb hby own_d1_216) (Jvm.Free.XT.ii_ne_t (by decide)) (by decide) (by decide) ?_
          refine ow_sipush (q := 227) Xc3 hx (191 : Int32) (hb hby own_d1_224) rfl rfl ?_
          refine ow_istore (q := 229) Xc3 hx (L' := #[rv a0, iv (1 : Int32), iv (5 : Int32), iv v2, iv (3 : Int32), iv lo, iv hi, iv (2 : Int32), iv v17, iv (128 : Int32), iv (191 : Int32)]) (hb hby own_d1_227) rfl rfl ?_
          refine ow_iload (q := 231) Xc3 hx (hb hby own_d1_229) rfl rfl ?_
          refine ow_iload (q := 233) Xc3 hx (hb hby own_d1_231) rfl rfl ?_
          by_cases hc233_18 : v17 < (128 : Int32)
          · refine ow_icmpYes (q := 243) Xc3 hx (hb hby own_d1_233) (Jvm.Free.XT.ii_lt_t hc233_18) (by decide) (by decide) ?_
            refine ow_iconst (q := 244) Xc3 hx (0 : Int32) (hb hby own_d1_243) rfl rfl ?_
            refine ownRetI Xc3 hx Bd.returns (hb hby own_d1_244) hlk (by decide) (by decide) ?_
            subst hv_v17 hv_v16 hv_v13 hv_v12 hv_v2 hv_v1
            rw [ec3]
            refine ⟨(0 : Int32), rfl, Nc3, rfl, ?_⟩
            unfold own_H at hH
            simp only [Int32.lt_iff_toInt_lt, ← Int32.toInt_inj, Int32.reduceToInt] at hc233_14 hc240_15 hc233_18 hH ⊢
            unfold own_sq
            (repeat' split) <;> omega
          · refine ow_icmpNo (q := 236) Xc3 hx (hb hby own_d1_233) rfl (Jvm.Free.XT.ii_lt_f hc233_18) ?_
            refine ow_iload (q := 238) Xc3 hx (hb hby own_d1_236) rfl rfl ?_
            refine ow_iload (q := 240) Xc3 hx (hb hby own_d1_238) rfl rfl ?_
            by_cases hc240_19 : (191 : Int32) < v17
            · refine ow_icmpNo (q := 243) Xc3 hx (hb hby own_d1_240) rfl (Jvm.Free.XT.ii_le_f hc240_19) ?_
              refine ow_iconst (q := 244) Xc3 hx (0 : Int32) (hb hby own_d1_243) rfl rfl ?_
              refine ownRetI Xc3 hx Bd.returns (hb hby own_d1_244) hlk (by decide) (by decide) ?_
              subst hv_v17 hv_v16 hv_v13 hv_v12 hv_v2 hv_v1
              rw [ec3]
              refine ⟨(0 : Int32), rfl, Nc3, rfl, ?_⟩
              unfold own_H at hH
              simp only [Int32.lt_iff_toInt_lt, ← Int32.toInt_inj, Int32.reduceToInt] at hc233_14 hc240_15 hc233_18 hc240_19 hH ⊢
              unfold own_sq
              (repeat' split) <;> omega
            · refine ow_icmpYes (q := 245) Xc3 hx (hb hby own_d1_240) (Jvm.Free.XT.ii_le_t hc240_19) (by decide) (by decide) ?_
              refine ow_iinc (q := 248) Xc3 hx (L' := #[rv a0, iv (1 : Int32), iv (5 : Int32), iv v2, iv (3 : Int32), iv lo, iv hi, iv (3 : Int32), iv v17, iv (128 : Int32), iv (191 : Int32)]) (hb hby own_d1_245) rfl rfl rfl ?_
              refine ow_goto (q := 178) Xc3 hx (hb hby own_d1_248) (by decide) (by decide) ?_
              refine ow_iload (q := 180) Xc3 hx (hb hby own_d1_178) rfl rfl ?_
              refine ow_iload (q := 182) Xc3 hx (hb hby own_d1_180) rfl rfl ?_
              refine ow_icmpYes (q := 251) Xc3 hx (hb hby own_d1_182) (Jvm.Free.XT.ii_ge_t (by decide)) (by decide) (by decide) ?_
              refine ow_iload (q := 253) Xc3 hx (hb hby own_d1_251) rfl rfl ?_
              refine ownRetI Xc3 hx Bd.returns (hb hby own_d1_253) hlk (by decide) (by decide) ?_
              subst hv_v17 hv_v16 hv_v13 hv_v12 hv_v2 hv_v1
              rw [ec3]
              refine ⟨(3 : Int32), rfl, Nc3, rfl, ?_⟩
              unfold own_H at hH
              simp only [Int32.lt_iff_toInt_lt, ← Int32.toInt_inj, Int32.reduceToInt] at hc233_14 hc240_15 hc233_18 hc240_19 hH ⊢
              unfold own_sq
              (repeat' split) <;> omega
    · subst hs7
      refine ow_iload (q := 168) Xc3 hx (hb hby own_d1_166) rfl rfl ?_
      refine ow_iadd (q := 169) Xc3 hx (5 : Int32) (hb hby own_d1_168) rfl (by decide) ?_
      refine ow_iloadN (q := 170) Xc3 hx (hb hby own_d1_169) rfl rfl ?_
      refine ow_icmpYes (q := 175) Xc3 hx (hb hby own_d1_170) (Jvm.Free.XT.ii_le_t (by decide)) (by decide) (by decide) ?_
      refine ow_iconst (q := 176) Xc3 hx (1 : Int32) (hb hby own_d1_175) rfl rfl ?_
      refine ow_istore (q := 178) Xc3 hx (L' := #[rv a0, iv (1 : Int32), iv (5 : Int32), iv v2, iv (4 : Int32), iv lo, iv hi, iv (1 : Int32), .unset, .unset, .unset]) (hb hby own_d1_176) rfl rfl ?_
      refine ow_iload (q := 180) Xc3 hx (hb hby own_d1_178) rfl rfl ?_
      refine ow_iload (q := 182) Xc3 hx (hb hby own_d1_180) rfl rfl ?_
      refine ow_icmpNo (q := 185) Xc3 hx (hb hby own_d1_182) rfl (Jvm.Free.XT.ii_ge_f (by decide)) ?_
      refine ow_aloadN (q := 186) Xc3 hx (hb hby own_d1_185) rfl rfl rfl ?_
      refine ow_iloadN (q := 187) Xc3 hx (hb hby own_d1_186) rfl rfl ?_
      refine ow_iload (q := 189) Xc3 hx (hb hby own_d1_187) rfl rfl ?_
      refine ow_iadd (q := 190) Xc3 hx (2 : Int32) (hb hby own_d1_189) rfl (by decide) ?_
      refine ownGo (T' := Tc3) (f' := (mkF m 191 #[rv a0, iv (1 : Int32), iv (5 : Int32), iv v2, iv (4 : Int32), iv lo, iv hi, iv (1 : Int32), .unset, .unset, .unset] [(.int (g 2))])) (ownBaload HF0 Xc3 hx hZ ec3 (j := (2 : Int32)) (by unfold ownIn; decide) (g := (mkF m 190 #[rv a0, iv (1 : Int32), iv (5 : Int32), iv v2, iv (4 : Int32), iv lo, iv hi, iv (1 : Int32), .unset, .unset, .unset] [(.int (2 : Int32)), (.ref a0)])) rfl rfl (hb hby own_d1_190)) ?_
      generalize hv_v20 : (g 2) = v20
      refine ow_sipush (q := 194) Xc3 hx (255 : Int32) (hb hby own_d1_191) rfl rfl ?_
      refine ow_iand (q := 195) Xc3 hx _ (hb hby own_d1_194) rfl rfl ?_
      generalize hv_v21 : (v20 &&& (255 : Int32)) = v21
      refine ow_istore (q := 197) Xc3 hx (L' := #[rv a0, iv (1 : Int32), iv (5 : Int32), iv v2, iv (4 : Int32), iv lo, iv hi, iv (1 : Int32), iv v21, .unset, .unset]) (hb hby own_d1_195) rfl rfl ?_
      refine ow_iload (q := 199) Xc3 hx (hb hby own_d1_197) rfl rfl ?_
      refine ow_iconst (q := 200) Xc3 hx (1 : Int32) (hb hby own_d1_199) rfl rfl ?_
      refine ow_icmpNo (q := 203) Xc3 hx (hb hby own_d1_200) rfl (Jvm.Free.XT.ii_ne_f (by decide)) ?_
      refine ow_iload (q := 205) Xc3 hx (hb hby own_d1_203) rfl rfl ?_
      refine ow_goto (q := 211) Xc3 hx (hb hby own_d1_205) (by decide) (by decide) ?_
      refine ow_istore (q := 213) Xc3 hx (L' := #[rv a0, iv (1 : Int32), iv (5 : Int32), iv v2, iv (4 : Int32), iv lo, iv hi, iv (1 : Int32), iv v21, iv lo, .unset]) (hb hby own_d1_211) rfl rfl ?_
      refine ow_iload (q := 215) Xc3 hx (hb hby own_d1_213) rfl rfl ?_
      refine ow_iconst (q := 216) Xc3 hx (1 : Int32) (hb hby own_d1_215) rfl rfl ?_
      refine ow_icmpNo (q := 219) Xc3 hx (hb hby own_d1_216) rfl (Jvm.Free.XT.ii_ne_f (by decide)) ?_
      refine ow_iload (q := 221) Xc3 hx (hb hby own_d1_219) rfl rfl ?_
      refine ow_goto (q := 227) Xc3 hx (hb hby own_d1_221) (by decide) (by decide) ?_
      refine ow_istore (q := 229) Xc3 hx (L' := #[rv a0, iv (1 : Int32), iv (5 : Int32), iv v2, iv (4 : Int32), iv lo, iv hi, iv (1 : Int32), iv v21, iv lo, iv hi]) (hb hby own_d1_227) rfl rfl ?_
      refine ow_iload (q := 231) Xc3 hx (hb hby own_d1_229) rfl rfl ?_
      refine ow_iload (q := 233) Xc3 hx (hb hby own_d1_231) rfl rfl ?_
      by_cases hc233_22 : v21 < lo
      · refine ow_icmpYes (q := 243) Xc3 hx (hb hby own_d1_233) (Jvm.Free.XT.ii_lt_t hc233_22) (by decide) (by decide) ?_
        refine ow_iconst (q := 244) Xc3 hx (0 : Int32) (hb hby own_d1_243) rfl rfl ?_
        refine ownRetI Xc3 hx Bd.returns (hb hby own_d1_244) hlk (by decide) (by decide) ?_
        subst hv_v21 hv_v20 hv_v2 hv_v1
        rw [ec3]
        refine ⟨(0 : Int32), rfl, Nc3, rfl, ?_⟩
        unfold own_H at hH
        simp only [Int32.lt_iff_toInt_lt, ← Int32.toInt_inj, Int32.reduceToInt] at hc233_22 hH ⊢
        unfold own_sq
        (repeat' split) <;> omega
      · refine ow_icmpNo (q := 236) Xc3 hx (hb hby own_d1_233) rfl (Jvm.Free.XT.ii_lt_f hc233_22) ?_
        refine ow_iload (q := 238) Xc3 hx (hb hby own_d1_236) rfl rfl ?_
        refine ow_iload (q := 240) Xc3 hx (hb hby own_d1_238) rfl rfl ?_
        by_cases hc240_23 : hi < v21
        · refine ow_icmpNo (q := 243) Xc3 hx (hb hby own_d1_240) rfl (Jvm.Free.XT.ii_le_f hc240_23) ?_
          refine ow_iconst (q := 244) Xc3 hx (0 : Int32) (hb hby own_d1_243) rfl rfl ?_
          refine ownRetI Xc3 hx Bd.returns (hb hby own_d1_244) hlk (by decide) (by decide) ?_
          subst hv_v21 hv_v20 hv_v2 hv_v1
          rw [ec3]
          refine ⟨(0 : Int32), rfl, Nc3, rfl, ?_⟩
          unfold own_H at hH
          simp only [Int32.lt_iff_toInt_lt, ← Int32.toInt_inj, Int32.reduceToInt] at hc233_22 hc240_23 hH ⊢
          unfold own_sq
          (repeat' split) <;> omega
        · refine ow_icmpYes (q := 245) Xc3 hx (hb hby own_d1_240) (Jvm.Free.XT.ii_le_t hc240_23) (by decide) (by decide) ?_
          refine ow_iinc (q := 248) Xc3 hx (L' := #[rv a0, iv (1 : Int32), iv (5 : Int32), iv v2, iv (4 : Int32), iv lo, iv hi, iv (2 : Int32), iv v21, iv lo, iv hi]) (hb hby own_d1_245) rfl rfl rfl ?_
          refine ow_goto (q := 178) Xc3 hx (hb hby own_d1_248) (by decide) (by decide) ?_
          refine ow_iload (q := 180) Xc3 hx (hb hby own_d1_178) rfl rfl ?_
          refine ow_iload (q := 182) Xc3 hx (hb hby own_d1_180) rfl rfl ?_
          refine ow_icmpNo (q := 185) Xc3 hx (hb hby own_d1_182) rfl (Jvm.Free.XT.ii_ge_f (by decide)) ?_
          refine ow_aloadN (q := 186) Xc3 hx (hb hby own_d1_185) rfl rfl rfl ?_
          refine ow_iloadN (q := 187) Xc3 hx (hb hby own_d1_186) rfl rfl ?_
          refine ow_iload (q := 189) Xc3 hx (hb hby own_d1_187) rfl rfl ?_
          refine ow_iadd (q := 190) Xc3 hx (3 : Int32) (hb hby own_d1_189) rfl (by decide) ?_
          refine ownGo (T' := Tc3) (f' := (mkF m 191 #[rv a0, iv (1 : Int32), iv (5 : Int32), iv v2, iv (4 : Int32), iv lo, iv hi, iv (2 : Int32), iv v21, iv lo, iv hi] [(.int (g 3))])) (ownBaload HF0 Xc3 hx hZ ec3 (j := (3 : Int32)) (by unfold ownIn; decide) (g := (mkF m 190 #[rv a0, iv (1 : Int32), iv (5 : Int32), iv v2, iv (4 : Int32), iv lo, iv hi, iv (2 : Int32), iv v21, iv lo, iv hi] [(.int (3 : Int32)), (.ref a0)])) rfl rfl (hb hby own_d1_190)) ?_
          generalize hv_v24 : (g 3) = v24
          refine ow_sipush (q := 194) Xc3 hx (255 : Int32) (hb hby own_d1_191) rfl rfl ?_
          refine ow_iand (q := 195) Xc3 hx _ (hb hby own_d1_194) rfl rfl ?_
          generalize hv_v25 : (v24 &&& (255 : Int32)) = v25
          refine ow_istore (q := 197) Xc3 hx (L' := #[rv a0, iv (1 : Int32), iv (5 : Int32), iv v2, iv (4 : Int32), iv lo, iv hi, iv (2 : Int32), iv v25, iv lo, iv hi]) (hb hby own_d1_195) rfl rfl ?_
          refine ow_iload (q := 199) Xc3 hx (hb hby own_d1_197) rfl rfl ?_
          refine ow_iconst (q := 200) Xc3 hx (1 : Int32) (hb hby own_d1_199) rfl rfl ?_
          refine ow_icmpYes (q := 208) Xc3 hx (hb hby own_d1_200) (Jvm.Free.XT.ii_ne_t (by decide)) (by decide) (by decide) ?_
          refine ow_sipush (q := 211) Xc3 hx (128 : Int32) (hb hby own_d1_208) rfl rfl ?_
          refine ow_istore (q := 213) Xc3 hx (L' := #[rv a0, iv (1 : Int32), iv (5 : Int32), iv v2, iv (4 : Int32), iv lo, iv hi, iv (2 : Int32), iv v25, iv (128 : Int32), iv hi]) (hb hby own_d1_211) rfl rfl ?_
          refine ow_iload (q := 215) Xc3 hx (hb hby own_d1_213) rfl rfl ?_
          refine ow_iconst (q := 216) Xc3 hx (1 : Int32) (hb hby own_d1_215) rfl rfl ?_
          refine ow_icmpYes (q := 224) Xc3 hx (hb hby own_d1_216) (Jvm.Free.XT.ii_ne_t (by decide)) (by decide) (by decide) ?_
          refine ow_sipush (q := 227) Xc3 hx (191 : Int32) (hb hby own_d1_224) rfl rfl ?_
          refine ow_istore (q := 229) Xc3 hx (L' := #[rv a0, iv (1 : Int32), iv (5 : Int32), iv v2, iv (4 : Int32), iv lo, iv hi, iv (2 : Int32), iv v25, iv (128 : Int32), iv (191 : Int32)]) (hb hby own_d1_227) rfl rfl ?_
          refine ow_iload (q := 231) Xc3 hx (hb hby own_d1_229) rfl rfl ?_
          refine ow_iload (q := 233) Xc3 hx (hb hby own_d1_231) rfl rfl ?_
          by_cases hc233_26 : v25 < (128 : Int32)
          · refine ow_icmpYes (q := 243) Xc3 hx (hb hby own_d1_233) (Jvm.Free.XT.ii_lt_t hc233_26) (by decide) (by decide) ?_
            refine ow_iconst (q := 244) Xc3 hx (0 : Int32) (hb hby own_d1_243) rfl rfl ?_
            refine ownRetI Xc3 hx Bd.returns (hb hby own_d1_244) hlk (by decide) (by decide) ?_
            subst hv_v25 hv_v24 hv_v21 hv_v20 hv_v2 hv_v1
            rw [ec3]
            refine ⟨(0 : Int32), rfl, Nc3, rfl, ?_⟩
            unfold own_H at hH
            simp only [Int32.lt_iff_toInt_lt, ← Int32.toInt_inj, Int32.reduceToInt] at hc233_22 hc240_23 hc233_26 hH ⊢
            unfold own_sq
            (repeat' split) <;> omega
          · refine ow_icmpNo (q := 236) Xc3 hx (hb hby own_d1_233) rfl (Jvm.Free.XT.ii_lt_f hc233_26) ?_
            refine ow_iload (q := 238) Xc3 hx (hb hby own_d1_236) rfl rfl ?_
            refine ow_iload (q := 240) Xc3 hx (hb hby own_d1_238) rfl rfl ?_
            by_cases hc240_27 : (191 : Int32) < v25
            · refine ow_icmpNo (q := 243) Xc3 hx (hb hby own_d1_240) rfl (Jvm.Free.XT.ii_le_f hc240_27) ?_
              refine ow_iconst (q := 244) Xc3 hx (0 : Int32) (hb hby own_d1_243) rfl rfl ?_
              refine ownRetI Xc3 hx Bd.returns (hb hby own_d1_244) hlk (by decide) (by decide) ?_
              subst hv_v25 hv_v24 hv_v21 hv_v20 hv_v2 hv_v1
              rw [ec3]
              refine ⟨(0 : Int32), rfl, Nc3, rfl, ?_⟩
              unfold own_H at hH
              simp only [Int32.lt_iff_toInt_lt, ← Int32.toInt_inj, Int32.reduceToInt] at hc233_22 hc240_23 hc233_26 hc240_27 hH ⊢
              unfold own_sq
              (repeat' split) <;> omega
            · refine ow_icmpYes (q := 245) Xc3 hx (hb hby own_d1_240) (Jvm.Free.XT.ii_le_t hc240_27) (by decide) (by decide) ?_
              refine ow_iinc (q := 248) Xc3 hx (L' := #[rv a0, iv (1 : Int32), iv (5 : Int32), iv v2, iv (4 : Int32), iv lo, iv hi, iv (3 : Int32), iv v25, iv (128 : Int32), iv (191 : Int32)]) (hb hby own_d1_245) rfl rfl rfl ?_
              refine ow_goto (q := 178) Xc3 hx (hb hby own_d1_248) (by decide) (by decide) ?_
              refine ow_iload (q := 180) Xc3 hx (hb hby own_d1_178) rfl rfl ?_
              refine ow_iload (q := 182) Xc3 hx (hb hby own_d1_180) rfl rfl ?_
              refine ow_icmpNo (q := 185) Xc3 hx (hb hby own_d1_182) rfl (Jvm.Free.XT.ii_ge_f (by decide)) ?_
              refine ow_aloadN (q := 186) Xc3 hx (hb hby own_d1_185) rfl rfl rfl ?_
              refine ow_iloadN (q := 187) Xc3 hx (hb hby own_d1_186) rfl rfl ?_
              refine ow_iload (q := 189) Xc3 hx (hb hby own_d1_187) rfl rfl ?_
              refine ow_iadd (q := 190) Xc3 hx (4 : Int32) (hb hby own_d1_189) rfl (by decide) ?_
              refine ownGo (T' := Tc3) (f' := (mkF m 191 #[rv a0, iv (1 : Int32), iv (5 : Int32), iv v2, iv (4 : Int32), iv lo, iv hi, iv (3 : Int32), iv v25, iv (128 : Int32), iv (191 : Int32)] [(.int (g 4))])) (ownBaload HF0 Xc3 hx hZ ec3 (j := (4 : Int32)) (by unfold ownIn; decide) (g := (mkF m 190 #[rv a0, iv (1 : Int32), iv (5 : Int32), iv v2, iv (4 : Int32), iv lo, iv hi, iv (3 : Int32), iv v25, iv (128 : Int32), iv (191 : Int32)] [(.int (4 : Int32)), (.ref a0)])) rfl rfl (hb hby own_d1_190)) ?_
              generalize hv_v28 : (g 4) = v28
              refine ow_sipush (q := 194) Xc3 hx (255 : Int32) (hb hby own_d1_191) rfl rfl ?_
              refine ow_iand (q := 195) Xc3 hx _ (hb hby own_d1_194) rfl rfl ?_
              generalize hv_v29 : (v28 &&& (255 : Int32)) = v29
              refine ow_istore (q := 197) Xc3 hx (L' := #[rv a0, iv (1 : Int32), iv (5 : Int32), iv v2, iv (4 : Int32), iv lo, iv hi, iv (3 : Int32), iv v29, iv (128 : Int32), iv (191 : Int32)]) (hb hby own_d1_195) rfl rfl ?_
              refine ow_iload (q := 199) Xc3 hx (hb hby own_d1_197) rfl rfl ?_
              refine ow_iconst (q := 200) Xc3 hx (1 : Int32) (hb hby own_d1_199) rfl rfl ?_
              refine ow_icmpYes (q := 208) Xc3 hx (hb hby own_d1_200) (Jvm.Free.XT.ii_ne_t (by decide)) (by decide) (by decide) ?_
              refine ow_sipush (q := 211) Xc3 hx (128 : Int32) (hb hby own_d1_208) rfl rfl ?_
              refine ow_istore (q := 213) Xc3 hx (L' := #[rv a0, iv (1 : Int32), iv (5 : Int32), iv v2, iv (4 : Int32), iv lo, iv hi, iv (3 : Int32), iv v29, iv (128 : Int32), iv (191 : Int32)]) (hb hby own_d1_211) rfl rfl ?_
              refine ow_iload (q := 215) Xc3 hx (hb hby own_d1_213) rfl rfl ?_
              refine ow_iconst (q := 216) Xc3 hx (1 : Int32) (hb hby own_d1_215) rfl rfl ?_
              refine ow_icmpYes (q := 224) Xc3 hx (hb hby own_d1_216) (Jvm.Free.XT.ii_ne_t (by decide)) (by decide) (by decide) ?_
              refine ow_sipush (q := 227) Xc3 hx (191 : Int32) (hb hby own_d1_224) rfl rfl ?_
              refine ow_istore (q := 229) Xc3 hx (L' := #[rv a0, iv (1 : Int32), iv (5 : Int32), iv v2, iv (4 : Int32), iv lo, iv hi, iv (3 : Int32), iv v29, iv (128 : Int32), iv (191 : Int32)]) (hb hby own_d1_227) rfl rfl ?_
              refine ow_iload (q := 231) Xc3 hx (hb hby own_d1_229) rfl rfl ?_
              refine ow_iload (q := 233) Xc3 hx (hb hby own_d1_231) rfl rfl ?_
              by_cases hc233_30 : v29 < (128 : Int32)
              · refine ow_icmpYes (q := 243) Xc3 hx (hb hby own_d1_233) (Jvm.Free.XT.ii_lt_t hc233_30) (by decide) (by decide) ?_
                refine ow_iconst (q := 244) Xc3 hx (0 : Int32) (hb hby own_d1_243) rfl rfl ?_
                refine ownRetI Xc3 hx Bd.returns (hb hby own_d1_244) hlk (by decide) (by decide) ?_
                subst hv_v29 hv_v28 hv_v25 hv_v24 hv_v21 hv_v20 hv_v2 hv_v1
                rw [ec3]
                refine ⟨(0 : Int32), rfl, Nc3, rfl, ?_⟩
                unfold own_H at hH
                simp only [Int32.lt_iff_toInt_lt, ← Int32.toInt_inj, Int32.reduceToInt] at hc233_22 hc240_23 hc233_26 hc240_27 hc233_30 hH ⊢
                unfold own_sq
                (repeat' split) <;> omega
              · refine ow_icmpNo (q := 236) Xc3 hx (hb hby own_d1_233) rfl (Jvm.Free.XT.ii_lt_f hc233_30) ?_
                refine ow_iload (q := 238) Xc3 hx (hb hby own_d1_236) rfl rfl ?_
                refine ow_iload (q := 240) Xc3 hx (hb hby own_d1_238) rfl rfl ?_
                by_cases hc240_31 : (191 : Int32) < v29
                · refine ow_icmpNo (q := 243) Xc3 hx (hb hby own_d1_240) rfl (Jvm.Free.XT.ii_le_f hc240_31) ?_
                  refine ow_iconst (q := 244) Xc3 hx (0 : Int32) (hb hby own_d1_243) rfl rfl ?_
                  refine ownRetI Xc3 hx Bd.returns (hb hby own_d1_244) hlk (by decide) (by decide) ?_
                  subst hv_v29 hv_v28 hv_v25 hv_v24 hv_v21 hv_v20 hv_v2 hv_v1
                  rw [ec3]
                  refine ⟨(0 : Int32), rfl, Nc3, rfl, ?_⟩
                  unfold own_H at hH
                  simp only [Int32.lt_iff_toInt_lt, ← Int32.toInt_inj, Int32.reduceToInt] at hc233_22 hc240_23 hc233_26 hc240_27 hc233_30 hc240_31 hH ⊢
                  unfold own_sq
                  (repeat' split) <;> omega
                · refine ow_icmpYes (q := 245) Xc3 hx (hb hby own_d1_240) (Jvm.Free.XT.ii_le_t hc240_31) (by decide) (by decide) ?_
                  refine ow_iinc (q := 248) Xc3 hx (L' := #[rv a0, iv (1 : Int32), iv (5 : Int32), iv v2, iv (4 : Int32), iv lo, iv hi, iv (4 : Int32), iv v29, iv (128 : Int32), iv (191 : Int32)]) (hb hby own_d1_245) rfl rfl rfl ?_
                  refine ow_goto (q := 178) Xc3 hx (hb hby own_d1_248) (by decide) (by decide) ?_
                  refine ow_iload (q := 180) Xc3 hx (hb hby own_d1_178) rfl rfl ?_
                  refine ow_iload (q := 182) Xc3 hx (hb hby own_d1_180) rfl rfl ?_
                  refine ow_icmpYes (q := 251) Xc3 hx (hb hby own_d1_182) (Jvm.Free.XT.ii_ge_t (by decide)) (by decide) (by decide) ?_
                  refine ow_iload (q := 253) Xc3 hx (hb hby own_d1_251) rfl rfl ?_
                  refine ownRetI Xc3 hx Bd.returns (hb hby own_d1_253) hlk (by decide) (by decide) ?_
                  subst hv_v29 hv_v28 hv_v25 hv_v24 hv_v21 hv_v20 hv_v2 hv_v1
                  rw [ec3]
                  refine ⟨(4 : Int32), rfl, Nc3, rfl, ?_⟩
                  unfold own_H at hH
                  simp only [Int32.lt_iff_toInt_lt, ← Int32.toInt_inj, Int32.reduceToInt] at hc233_22 hc240_23 hc233_26 hc240_27 hc233_30 hc240_31 hH ⊢
                  unfold own_sq
                  (repeat' split) <;> omega
  refine ow_iloadN (q := 19) X0 hx (hb hby own_d1_18) rfl rfl ?_
  refine ow_sipush (q := 22) X0 hx (128 : Int32) (hb hby own_d1_19) rfl rfl ?_
  by_cases hc22_32 : v2 < (128 : Int32)
  · refine ow_icmpNo (q := 25) X0 hx (hb hby own_d1_22) rfl (Jvm.Free.XT.ii_ge_f hc22_32) ?_
    refine ow_iconst (q := 26) X0 hx (1 : Int32) (hb hby own_d1_25) rfl rfl ?_
    refine ow_istore (q := 28) X0 hx (L' := #[rv a0, iv (1 : Int32), iv (5 : Int32), iv v2, iv (1 : Int32), iv (128 : Int32), iv (191 : Int32), .unset, .unset, .unset, .unset]) (hb hby own_d1_26) rfl rfl ?_
    refine ow_goto (q := 165) X0 hx (hb hby own_d1_28) (by decide) (by decide) ?_
    exact cut165_3 (1 : Int32) (128 : Int32) (191 : Int32) _ _ X0 e0 N0 (by unfold own_H; simp only [Int32.lt_iff_toInt_lt, ← Int32.toInt_inj, Int32.reduceToInt, true_and, and_true] at hc22_32 ⊢; omega)
  · refine ow_icmpYes (q := 31) X0 hx (hb hby own_d1_22) (Jvm.Free.XT.ii_ge_t hc22_32) (by decide) (by decide) ?_
    refine ow_iloadN (q := 32) X0 hx (hb hby own_d1_31) rfl rfl ?_
    refine ow_sipush (q := 35) X0 hx (194 : Int32) (hb hby own_d1_32) rfl rfl ?_
    by_cases hc35_33 : v2 < (194 : Int32)
    · refine ow_icmpYes (q := 51) X0 hx (hb hby own_d1_35) (Jvm.Free.XT.ii_lt_t hc35_33) (by decide) (by decide) ?_
      refine ow_iloadN (q := 52) X0 hx (hb hby own_d1_51) rfl rfl ?_
      refine ow_sipush (q := 55) X0 hx (224 : Int32) (hb hby own_d1_52) rfl rfl ?_
      by_cases hc55_34 : v2 < (224 : Int32)
      · refine ow_icmpYes (q := 107) X0 hx (hb hby own_d1_55) (Jvm.Free.XT.ii_lt_t hc55_34) (by decide) (by decide) ?_
        refine ow_iloadN (q := 108) X0 hx (hb hby own_d1_107) rfl rfl ?_
        refine ow_sipush (q := 111) X0 hx (240 : Int32) (hb hby own_d1_108) rfl rfl ?_
        by_cases hc111_35 : v2 < (240 : Int32)
        · refine ow_icmpYes (q := 163) X0 hx (hb hby own_d1_111) (Jvm.Free.XT.ii_lt_t hc111_35) (by decide) (by decide) ?_
          refine ow_iconst (q := 164) X0 hx (0 : Int32) (hb hby own_d1_163) rfl rfl ?_
          refine ownRetI X0 hx Bd.returns (hb hby own_d1_164) hlk (by decide) (by decide) ?_
          subst hv_v2 hv_v1
          rw [e0]
          refine ⟨(0 : Int32), rfl, N0, rfl, ?_⟩
          simp only [Int32.lt_iff_toInt_lt, ← Int32.toInt_inj, Int32.reduceToInt] at hc22_32 hc35_33 hc55_34 hc111_35 ⊢
          unfold own_sq
          (repeat' split) <;> omega
        · refine ow_icmpNo (q := 114) X0 hx (hb hby own_d1_111) rfl (Jvm.Free.XT.ii_lt_f hc111_35) ?_
          refine ow_iloadN (q := 115) X0 hx (hb hby own_d1_114) rfl rfl ?_
          refine ow_sipush (q := 118) X0 hx (244 : Int32) (hb hby own_d1_115) rfl rfl ?_
          by_cases hc118_36 : (244 : Int32) < v2
          · refine ow_icmpYes (q := 163) X0 hx (hb hby own_d1_118) (Jvm.Free.XT.ii_gt_t hc118_36) (by decide) (by decide) ?_
            refine ow_iconst (q := 164) X0 hx (0 : Int32) (hb hby own_d1_163) rfl rfl ?_
            refine ownRetI X0 hx Bd.returns (hb hby own_d1_164) hlk (by decide) (by decide) ?_
            subst hv_v2 hv_v1
            rw [e0]
            refine ⟨(0 : Int32), rfl, N0, rfl, ?_⟩
            simp only [Int32.lt_iff_toInt_lt, ← Int32.toInt_inj, Int32.reduceToInt] at hc22_32 hc35_33 hc55_34 hc111_35 hc118_36 ⊢
            unfold own_sq
            (repeat' split) <;> omega
          · refine ow_icmpNo (q := 121) X0 hx (hb hby own_d1_118) rfl (Jvm.Free.XT.ii_gt_f hc118_36) ?_
            refine ow_iconst (q := 122) X0 hx (4 : Int32) (hb hby own_d1_121) rfl rfl ?_
            refine ow_istore (q := 124) X0 hx (L' := #[rv a0, iv (1 : Int32), iv (5 : Int32), iv v2, iv (4 : Int32), iv (128 : Int32), iv (191 : Int32), .unset, .unset, .unset, .unset]) (hb hby own_d1_122) rfl rfl ?_
            refine ow_iloadN (q := 125) X0 hx (hb hby own_d1_124) rfl rfl ?_
            refine ow_sipush (q := 128) X0 hx (240 : Int32) (hb hby own_d1_125) rfl rfl ?_
            by_cases hc128_37 : v2 = (240 : Int32)
            · refine ow_icmpNo (q := 131) X0 hx (hb hby own_d1_128) rfl (Jvm.Free.XT.ii_ne_f hc128_37) ?_
              refine ow_sipush (q := 134) X0 hx (144 : Int32) (hb hby own_d1_131) rfl rfl ?_
              refine ow_goto (q := 140) X0 hx (hb hby own_d1_134) (by decide) (by decide) ?_
              refine ow_istore (q := 142) X0 hx (L' := #[rv a0, iv (1 : Int32), iv (5 : Int32), iv v2, iv (4 : Int32), iv (144 : Int32), iv (191 : Int32), .unset, .unset, .unset, .unset]) (hb hby own_d1_140) rfl rfl ?_
              refine ow_iloadN (q := 143) X0 hx (hb hby own_d1_142) rfl rfl ?_
              refine ow_sipush (q := 146) X0 hx (244 : Int32) (hb hby own_d1_143) rfl rfl ?_
              by_cases hc146_38 : v2 = (244 : Int32)
              · refine ow_icmpNo (q := 149) X0 hx (hb hby own_d1_146) rfl (Jvm.Free.XT.ii_ne_f hc146_38) ?_
                refine ow_sipush (q := 152) X0 hx (143 : Int32) (hb hby own_d1_149) rfl rfl ?_
                refine ow_goto (q := 158) X0 hx (hb hby own_d1_152) (by decide) (by decide) ?_
                refine ow_istore (q := 160) X0 hx (L' := #[rv a0, iv (1 : Int32), iv (5 : Int32), iv v2, iv (4 : Int32), iv (144 : Int32), iv (143 : Int32), .unset, .unset, .unset, .unset]) (hb hby own_d1_158) rfl rfl ?_
                refine ow_goto (q := 165) X0 hx (hb hby own_d1_160) (by decide) (by decide) ?_
                exact cut165_3 (4 : Int32) (144 : Int32) (143 : Int32) _ _ X0 e0 N0 (by unfold own_H; simp only [Int32.lt_iff_toInt_lt, ← Int32.toInt_inj, Int32.reduceToInt, true_and, and_true] at hc22_32 hc35_33 hc55_34 hc111_35 hc118_36 hc128_37 hc146_38 ⊢; omega)
              · refine ow_icmpYes (q := 155) X0 hx (hb hby own_d1_146) (Jvm.Free.XT.ii_ne_t hc146_38) (by decide) (by decide) ?_
                refine ow_sipush (q := 158) X0 hx (191 : Int32) (hb hby own_d1_155) rfl rfl ?_
                refine ow_istore (q := 160) X0 hx (L' := #[rv a0, iv (1 : Int32), iv (5 : Int32), iv v2, iv (4 : Int32), iv (144 : Int32), iv (191 : Int32), .unset, .unset, .unset, .unset]) (hb hby own_d1_158) rfl rfl ?_
                refine ow_goto (q := 165) X0 hx (hb hby own_d1_160) (by decide) (by decide) ?_
                exact cut165_3 (4 : Int32) (144 : Int32) (191 : Int32) _ _ X0 e0 N0 (by unfold own_H; simp only [Int32.lt_iff_toInt_lt, ← Int32.toInt_inj, Int32.reduceToInt, true_and, and_true] at hc22_32 hc35_33 hc55_34 hc111_35 hc118_36 hc128_37 hc146_38 ⊢; omega)
            · refine ow_icmpYes (q := 137) X0 hx (hb hby own_d1_128) (Jvm.Free.XT.ii_ne_t hc128_37) (by decide) (by decide) ?_
              refine ow_sipush (q := 140) X0 hx (128 : Int32) (hb hby own_d1_137) rfl rfl ?_
              refine ow_istore (q := 142) X0 hx (L' := #[rv a0, iv (1 : Int32), iv (5 : Int32), iv v2, iv (4 : Int32), iv (128 : Int32), iv (191 : Int32), .unset, .unset, .unset, .unset]) (hb hby own_d1_140) rfl rfl ?_
              refine ow_iloadN (q := 143) X0 hx (hb hby own_d1_142) rfl rfl ?_
              refine ow_sipush (q := 146) X0 hx (244 : Int32) (hb hby own_d1_143) rfl rfl ?_
              by_cases hc146_39 : v2 = (244 : Int32)
              · refine ow_icmpNo (q := 149) X0 hx (hb hby own_d1_146) rfl (Jvm.Free.XT.ii_ne_f hc146_39) ?_
                refine ow_sipush (q := 152) X0 hx (143 : Int32) (hb hby own_d1_149) rfl rfl ?_
                refine ow_goto (q := 158) X0 hx (hb hby own_d1_152) (by decide) (by decide) ?_
                refine ow_istore (q := 160) X0 hx (L' := #[rv a0, iv (1 : Int32), iv (5 : Int32), iv v2, iv (4 : Int32), iv (128 : Int32), iv (143 : Int32), .unset, .unset, .unset, .unset]) (hb hby own_d1_158) rfl rfl ?_
                refine ow_goto (q := 165) X0 hx (hb hby own_d1_160) (by decide) (by decide) ?_
                exact cut165_3 (4 : Int32) (128 : Int32) (143 : Int32) _ _ X0 e0 N0 (by unfold own_H; simp only [Int32.lt_iff_toInt_lt, ← Int32.toInt_inj, Int32.reduceToInt, true_and, and_true] at hc22_32 hc35_33 hc55_34 hc111_35 hc118_36 hc128_37 hc146_39 ⊢; omega)
              · refine ow_icmpYes (q := 155) X0 hx (hb hby own_d1_146) (Jvm.Free.XT.ii_ne_t hc146_39) (by decide) (by decide) ?_
                refine ow_sipush (q := 158) X0 hx (191 : Int32) (hb hby own_d1_155) rfl rfl ?_
                refine ow_istore (q := 160) X0 hx (L' := #[rv a0, iv (1 : Int32), iv (5 : Int32), iv v2, iv (4 : Int32), iv (128 : Int32), iv (191 : Int32), .unset, .unset, .unset, .unset]) (hb hby own_d1_158) rfl rfl ?_
                refine ow_goto (q := 165) X0 hx (hb hby own_d1_160) (by decide) (by decide) ?_
                exact cut165_3 (4 : Int32) (128 : Int32) (191 : Int32) _ _ X0 e0 N0 (by unfold own_H; simp only [Int32.lt_iff_toInt_lt, ← Int32.toInt_inj, Int32.reduceToInt, true_and, and_true] at hc22_32 hc35_33 hc55_34 hc111_35 hc118_36 hc128_37 hc146_39 ⊢; omega)
      · refine ow_icmpNo (q := 58) X0 hx (hb hby own_d1_55) rfl (Jvm.Free.XT.ii_lt_f hc55_34) ?_
        refine ow_iloadN (q := 59) X0 hx (hb hby own_d1_58) rfl rfl ?_
        refine ow_sipush (q := 62) X0 hx (239 : Int32) (hb hby own_d1_59) rfl rfl ?_
        by_cases hc62_40 : (239 : Int32) < v2
        · refine ow_icmpYes (q := 107) X0 hx (hb hby own_d1_62) (Jvm.Free.XT.ii_gt_t hc62_40) (by decide) (by decide) ?_
          refine ow_iloadN (q := 108) X0 hx (hb hby own_d1_107) rfl rfl ?_
          refine ow_sipush (q := 111) X0 hx (240 : Int32) (hb hby own_d1_108) rfl rfl ?_
          by_cases hc111_41 : v2 < (240 : Int32)
          · refine ow_icmpYes (q := 163) X0 hx (hb hby own_d1_111) (Jvm.Free.XT.ii_lt_t hc111_41) (by decide) (by decide) ?_
            refine ow_iconst (q := 164) X0 hx (0 : Int32) (hb hby own_d1_163) rfl rfl ?_
            refine ownRetI X0 hx Bd.returns (hb hby own_d1_164) hlk (by decide) (by decide) ?_
            subst hv_v2 hv_v1
            rw [e0]
            refine ⟨(0 : Int32), rfl, N0, rfl, ?_⟩
            simp only [Int32.lt_iff_toInt_lt, ← Int32.toInt_inj, Int32.reduceToInt] at hc22_32 hc35_33 hc55_34 hc62_40 hc111_41 ⊢
            unfold own_sq
            (repeat' split) <;> omega
          · refine ow_icmpNo (q := 114) X0 hx (hb hby own_d1_111) rfl (Jvm.Free.XT.ii_lt_f hc111_41) ?_
            refine ow_iloadN (q := 115) X0 hx (hb hby own_d1_114) rfl rfl ?_
            refine ow_sipush (q := 118) X0 hx (244 : Int32) (hb hby own_d1_115) rfl rfl ?_
            by_cases hc118_42 : (244 : Int32) < v2
            · refine ow_icmpYes (q := 163) X0 hx (hb hby own_d1_118) (Jvm.Free.XT.ii_gt_t hc118_42) (by decide) (by decide) ?_
              refine ow_iconst (q := 164) X0 hx (0 : Int32) (hb hby own_d1_163) rfl rfl ?_
              refine ownRetI X0 hx Bd.returns (hb hby own_d1_164) hlk (by decide) (by decide) ?_
              subst hv_v2 hv_v1
              rw [e0]
              refine ⟨(0 : Int32), rfl, N0, rfl, ?_⟩
              simp only [Int32.lt_iff_toInt_lt, ← Int32.toInt_inj, Int32.reduceToInt] at hc22_32 hc35_33 hc55_34 hc62_40 hc111_41 hc118_42 ⊢
              unfold own_sq
              (repeat' split) <;> omega
            · refine ow_icmpNo (q := 121) X0 hx (hb hby own_d1_118) rfl (Jvm.Free.XT.ii_gt_f hc118_42) ?_
              refine ow_iconst (q := 122) X0 hx (4 : Int32) (hb hby own_d1_121) rfl rfl ?_
              refine ow_istore (q := 124) X0 hx (L' := #[rv a0, iv (1 : Int32), iv (5 : Int32), iv v2, iv (4 : Int32), iv (128 : Int32), iv (191 : Int32), .unset, .unset, .unset, .unset]) (hb hby own_d1_122) rfl rfl ?_
              refine ow_iloadN (q := 125) X0 hx (hb hby own_d1_124) rfl rfl ?_
              refine ow_sipush (q := 128) X0 hx (240 : Int32) (hb hby own_d1_125) rfl rfl ?_
              by_cases hc128_43 : v2 = (240 : Int32)
              · refine ow_icmpNo (q := 131) X0 hx (hb hby own_d1_128) rfl (Jvm.Free.XT.ii_ne_f hc128_43) ?_
                refine ow_sipush (q := 134) X0 hx (144 : Int32) (hb hby own_d1_131) rfl rfl ?_
                refine ow_goto (q := 140) X0 hx (hb hby own_d1_134) (by decide) (by decide) ?_
                refine ow_istore (q := 142) X0 hx (L' := #[rv a0, iv (1 : Int32), iv (5 : Int32), iv v2, iv (4 : Int32), iv (144 : Int32), iv (191 : Int32), .unset, .unset, .unset, .unset]) (hb hby own_d1_140) rfl rfl ?_
                refine ow_iloadN (q := 143) X0 hx (hb hby own_d1_142) rfl rfl ?_
                refine ow_sipush (q := 146) X0 hx (244 : Int32) (hb hby own_d1_143) rfl rfl ?_
                by_cases hc146_44 : v2 = (244 : Int32)
                · refine ow_icmpNo (q := 149) X0 hx (hb hby own_d1_146) rfl (Jvm.Free.XT.ii_ne_f hc146_44) ?_
                  refine ow_sipush (q := 152) X0 hx (143 : Int32) (hb hby own_d1_149) rfl rfl ?_
                  refine ow_goto (q := 158) X0 hx (hb hby own_d1_152) (by decide) (by decide) ?_
                  refine ow_istore (q := 160) X0 hx (L' := #[rv a0, iv (1 : Int32), iv (5 : Int32), iv v2, iv (4 : Int32), iv (144 : Int32), iv (143 : Int32), .unset, .unset, .unset, .unset]) (hb hby own_d1_158) rfl rfl ?_
                  refine ow_goto (q := 165) X0 hx (hb hby own_d1_160) (by decide) (by decide) ?_
                  exact cut165_3 (4 : Int32) (144 : Int32) (143 : Int32) _ _ X0 e0 N0 (by unfold own_H; simp only [Int32.lt_iff_toInt_lt, ← Int32.toInt_inj, Int32.reduceToInt, true_and, and_true] at hc22_32 hc35_33 hc55_34 hc62_40 hc111_41 hc118_42 hc128_43 hc146_44 ⊢; omega)
                · refine ow_icmpYes (q := 155) X0 hx (hb hby own_d1_146) (Jvm.Free.XT.ii_ne_t hc146_44) (by decide) (by decide) ?_
                  refine ow_sipush (q := 158) X0 hx (191 : Int32) (hb hby own_d1_155) rfl rfl ?_
                  refine ow_istore (q := 160) X0 hx (L' := #[rv a0, iv (1 : Int32), iv (5 : Int32), iv v2, iv (4 : Int32), iv (144 : Int32), iv (191 : Int32), .unset, .unset, .unset, .unset]) (hb hby own_d1_158) rfl rfl ?_
                  refine ow_goto (q := 165) X0 hx (hb hby own_d1_160) (by decide) (by decide) ?_
                  exact cut165_3 (4 : Int32) (144 : Int32) (191 : Int32) _ _ X0 e0 N0 (by unfold own_H; simp only [Int32.lt_iff_toInt_lt, ← Int32.toInt_inj, Int32.reduceToInt, true_and, and_true] at hc22_32 hc35_33 hc55_34 hc62_40 hc111_41 hc118_42 hc128_43 hc146_44 ⊢; omega)
              · refine ow_icmpYes (q := 137) X0 hx (hb hby own_d1_128) (Jvm.Free.XT.ii_ne_t hc128_43) (by decide) (by decide) ?_
                refine ow_sipush (q := 140) X0 hx (128 : Int32) (hb hby own_d1_137) rfl rfl ?_
                refine ow_istore (q := 142) X0 hx (L' := #[rv a0, iv (1 : Int32), iv (5 : Int32), iv v2, iv (4 : Int32), iv (128 : Int32), iv (191 : Int32), .unset, .unset, .unset, .unset]) (hb hby own_d1_140) rfl rfl ?_
                refine ow_iloadN (q := 143) X0 hx (hb hby own_d1_142) rfl rfl ?_
                refine ow_sipush (q := 146) X0 hx (244 : Int32) (hb hby own_d1_143) rfl rfl ?_
                by_cases hc146_45 : v2 = (244 : Int32)
                · refine ow_icmpNo (q := 149) X0 hx (hb hby own_d1_146) rfl (Jvm.Free.XT.ii_ne_f hc146_45) ?_
                  refine ow_sipush (q := 152) X0 hx (143 : Int32) (hb hby own_d1_149) rfl rfl ?_
                  refine ow_goto (q := 158) X0 hx (hb hby own_d1_152) (by decide) (by decide) ?_
                  refine ow_istore (q := 160) X0 hx (L' := #[rv a0, iv (1 : Int32), iv (5 : Int32), iv v2, iv (4 : Int32), iv (128 : Int32), iv (143 : Int32), .unset, .unset, .unset, .unset]) (hb hby own_d1_158) rfl rfl ?_
                  refine ow_goto (q := 165) X0 hx (hb hby own_d1_160) (by decide) (by decide) ?_
                  exact cut165_3 (4 : Int32) (128 : Int32) (143 : Int32) _ _ X0 e0 N0 (by unfold own_H; simp only [Int32.lt_iff_toInt_lt, ← Int32.toInt_inj, Int32.reduceToInt, true_and, and_true] at hc22_32 hc35_33 hc55_34 hc62_40 hc111_41 hc118_42 hc128_43 hc146_45 ⊢; omega)
                · refine ow_icmpYes (q := 155) X0 hx (hb hby own_d1_146) (Jvm.Free.XT.ii_ne_t hc146_45) (by decide) (by decide) ?_
                  refine ow_sipush (q := 158) X0 hx (191 : Int32) (hb hby own_d1_155) rfl rfl ?_
                  refine ow_istore (q := 160) X0 hx (L' := #[rv a0, iv (1 : Int32), iv (5 : Int32), iv v2, iv (4 : Int32), iv (128 : Int32), iv (191 : Int32), .unset, .unset, .unset, .unset]) (hb hby own_d1_158) rfl rfl ?_
                  refine ow_goto (q := 165) X0 hx (hb hby own_d1_160) (by decide) (by decide) ?_
                  exact cut165_3 (4 : Int32) (128 : Int32) (191 : Int32) _ _ X0 e0 N0 (by unfold own_H; simp only [Int32.lt_iff_toInt_lt, ← Int32.toInt_inj, Int32.reduceToInt, true_and, and_true] at hc22_32 hc35_33 hc55_34 hc62_40 hc111_41 hc118_42 hc128_43 hc146_45 ⊢; omega)
        · refine ow_icmpNo (q := 65) X0 hx (hb hby own_d1_62) rfl (Jvm.Free.XT.ii_gt_f hc62_40) ?_
          refine ow_iconst (q := 66) X0 hx (3 : Int32) (hb hby own_d1_65) rfl rfl ?_
          refine ow_istore (q := 68) X0 hx (L' := #[rv a0, iv (1 : Int32), iv (5 : Int32), iv v2, iv (3 : Int32), iv (128 : Int32), iv (191 : Int32), .unset, .unset, .unset, .unset]) (hb hby own_d1_66) rfl rfl ?_
          refine ow_iloadN (q := 69) X0 hx (hb hby own_d1_68) rfl rfl ?_
          refine ow_sipush (q := 72) X0 hx (224 : Int32) (hb hby own_d1_69) rfl rfl ?_
          by_cases hc72_46 : v2 = (224 : Int32)
          · refine ow_icmpNo (q := 75) X0 hx (hb hby own_d1_72) rfl (Jvm.Free.XT.ii_ne_f hc72_46) ?_
            refine ow_sipush (q := 78) X0 hx (160 : Int32) (hb hby own_d1_75) rfl rfl ?_
            refine ow_goto (q := 84) X0 hx (hb hby own_d1_78) (by decide) (by decide) ?_
            refine ow_istore (q := 86) X0 hx (L' := #[rv a0, iv (1 : Int32), iv (5 : Int32), iv v2, iv (3 : Int32), iv (160 : Int32), iv (191 : Int32), .unset, .unset, .unset, .unset]) (hb hby own_d1_84) rfl rfl ?_
            refine ow_iloadN (q := 87) X0 hx (hb hby own_d1_86) rfl rfl ?_
            refine ow_sipush (q := 90) X0 hx (237 : Int32) (hb hby own_d1_87) rfl rfl ?_
            by_cases hc90_47 : v2 = (237 : Int32)
            · refine ow_icmpNo (q := 93) X0 hx (hb hby own_d1_90) rfl (Jvm.Free.XT.ii_ne_f hc90_47) ?_
              refine ow_sipush (q := 96) X0 hx (159 : Int32) (hb hby own_d1_93) rfl rfl ?_
              refine ow_goto (q := 102) X0 hx (hb hby own_d1_96) (by decide) (by decide) ?_
              refine ow_istore (q := 104) X0 hx (L' := #[rv a0, iv (1 : Int32), iv (5 : Int32), iv v2, iv (3 : Int32), iv (160 : Int32), iv (159 : Int32), .unset, .unset, .unset, .unset]) (hb hby own_d1_102) rfl rfl ?_
              refine ow_goto (q := 165) X0 hx (hb hby own_d1_104) (by decide) (by decide) ?_
              exact cut165_3 (3 : Int32) (160 : Int32) (159 : Int32) _ _ X0 e0 N0 (by unfold own_H; simp only [Int32.lt_iff_toInt_lt, ← Int32.toInt_inj, Int32.reduceToInt, true_and, and_true] at hc22_32 hc35_33 hc55_34 hc62_40 hc72_46 hc90_47 ⊢; omega)
            · refine ow_icmpYes (q := 99) X0 hx (hb hby own_d1_90) (Jvm.Free.XT.ii_ne_t hc90_47) (by decide) (by decide) ?_
              refine ow_sipush (q := 102) X0 hx (191 : Int32) (hb hby own_d1_99) rfl rfl ?_
              refine ow_istore (q := 104) X0 hx (L' := #[rv a0, iv (1 : Int32), iv (5 : Int32), iv v2, iv (3 : Int32), iv (160 : Int32), iv (191 : Int32), .unset, .unset, .unset, .unset]) (hb hby own_d1_102) rfl rfl ?_
              refine ow_goto (q := 165) X0 hx (hb hby own_d1_104) (by decide) (by decide) ?_
              exact cut165_3 (3 : Int32) (160 : Int32) (191 : Int32) _ _ X0 e0 N0 (by unfold own_H; simp only [Int32.lt_iff_toInt_lt, ← Int32.toInt_inj, Int32.reduceToInt, true_and, and_true] at hc22_32 hc35_33 hc55_34 hc62_40 hc72_46 hc90_47 ⊢; omega)
          · refine ow_icmpYes (q := 81) X0 hx (hb hby own_d1_72) (Jvm.Free.XT.ii_ne_t hc72_46) (by decide) (by decide) ?_
            refine ow_sipush (q := 84) X0 hx (128 : Int32) (hb hby own_d1_81) rfl rfl ?_
            refine ow_istore (q := 86) X0 hx (L' := #[rv a0, iv (1 : Int32), iv (5 : Int32), iv v2, iv (3 : Int32), iv (128 : Int32), iv (191 : Int32), .unset, .unset, .unset, .unset]) (hb hby own_d1_84) rfl rfl ?_
            refine ow_iloadN (q := 87) X0 hx (hb hby own_d1_86) rfl rfl ?_
            refine ow_sipush (q := 90) X0 hx (237 : Int32) (hb hby own_d1_87) rfl rfl ?_
            by_cases hc90_48 : v2 = (237 : Int32)
            · refine ow_icmpNo (q := 93) X0 hx (hb hby own_d1_90) rfl (Jvm.Free.XT.ii_ne_f hc90_48) ?_
              refine ow_sipush (q := 96) X0 hx (159 : Int32) (hb hby own_d1_93) rfl rfl ?_
              refine ow_goto (q := 102) X0 hx (hb hby own_d1_96) (by decide) (by decide) ?_
              refine ow_istore (q := 104) X0 hx (L' := #[rv a0, iv (1 : Int32), iv (5 : Int32), iv v2, iv (3 : Int32), iv (128 : Int32), iv (159 : Int32), .unset, .unset, .unset, .unset]) (hb hby own_d1_102) rfl rfl ?_
              refine ow_goto (q := 165) X0 hx (hb hby own_d1_104) (by decide) (by decide) ?_
              exact cut165_3 (3 : Int32) (128 : Int32) (159 : Int32) _ _ X0 e0 N0 (by unfold own_H; simp only [Int32.lt_iff_toInt_lt, ← Int32.toInt_inj, Int32.reduceToInt, true_and, and_true] at hc22_32 hc35_33 hc55_34 hc62_40 hc72_46 hc90_48 ⊢; omega)
            · refine ow_icmpYes (q := 99) X0 hx (hb hby own_d1_90) (Jvm.Free.XT.ii_ne_t hc90_48) (by decide) (by decide) ?_
              refine ow_sipush (q := 102) X0 hx (191 : Int32) (hb hby own_d1_99) rfl rfl ?_
              refine ow_istore (q := 104) X0 hx (L' := #[rv a0, iv (1 : Int32), iv (5 : Int32), iv v2, iv (3 : Int32), iv (128 : Int32), iv (191 : Int32), .unset, .unset, .unset, .unset]) (hb hby own_d1_102) rfl rfl ?_
              refine ow_goto (q := 165) X0 hx (hb hby own_d1_104) (by decide) (by decide) ?_
              exact cut165_3 (3 : Int32) (128 : Int32) (191 : Int32) _ _ X0 e0 N0 (by unfold own_H; simp only [Int32.lt_iff_toInt_lt, ← Int32.toInt_inj, Int32.reduceToInt, true_and, and_true] at hc22_32 hc35_33 hc55_34 hc62_40 hc72_46 hc90_48 ⊢; omega)
    · refine ow_icmpNo (q := 38) X0 hx (hb hby own_d1_35) rfl (Jvm.Free.XT.ii_lt_f hc35_33) ?_
      refine ow_iloadN (q := 39) X0 hx (hb hby own_d1_38) rfl rfl ?_
      refine ow_sipush (q := 42) X0 hx (223 : Int32) (hb hby own_d1_39) rfl rfl ?_
      by_cases hc42_49 : (223 : Int32) < v2
      · refine ow_icmpYes (q := 51) X0 hx (hb hby own_d1_42) (Jvm.Free.XT.ii_gt_t hc42_49) (by decide) (by decide) ?_
        refine ow_iloadN (q := 52) X0 hx (hb hby own_d1_51) rfl rfl ?_
        refine ow_sipush (q := 55) X0 hx (224 : Int32) (hb hby own_d1_52) rfl rfl ?_
        by_cases hc55_50 : v2 < (224 : Int32)
        · refine ow_icmpYes (q := 107) X0 hx (hb hby own_d1_55) (Jvm.Free.XT.ii_lt_t hc55_50) (by decide) (by decide) ?_
          refine ow_iloadN (q := 108) X0 hx (hb hby own_d1_107) rfl rfl ?_
          refine ow_sipush (q := 111) X0 hx (240 : Int32) (hb hby own_d1_108) rfl rfl ?_
          by_cases hc111_51 : v2 < (240 : Int32)
          · refine ow_icmpYes (q := 163) X0 hx (hb hby own_d1_111) (Jvm.Free.XT.ii_lt_t hc111_51) (by decide) (by decide) ?_
            refine ow_iconst (q := 164) X0 hx (0 : Int32) (hb hby own_d1_163) rfl rfl ?_
            refine ownRetI X0 hx Bd.returns (hb hby own_d1_164) hlk (by decide) (by decide) ?_
            subst hv_v2 hv_v1
            rw [e0]
            refine ⟨(0 : Int32), rfl, N0, rfl, ?_⟩
            simp only [Int32.lt_iff_toInt_lt, ← Int32.toInt_inj, Int32.reduceToInt] at hc22_32 hc35_33 hc42_49 hc55_50 hc111_51 ⊢
            unfold own_sq
            (repeat' split) <;> omega
          · refine ow_icmpNo (q := 114) X0 hx (hb hby own_d1_111) rfl (Jvm.Free.XT.ii_lt_f hc111_51) ?_
            refine ow_iloadN (q := 115) X0 hx (hb hby own_d1_114) rfl rfl ?_
            refine ow_sipush (q := 118) X0 hx (244 : Int32) (hb hby own_d1_115) rfl rfl ?_
            by_cases hc118_52 : (244 : Int32) < v2
            · refine ow_icmpYes (q := 163) X0 hx (hb hby own_d1_118) (Jvm.Free.XT.ii_gt_t hc118_52) (by decide) (by decide) ?_
              refine ow_iconst (q := 164) X0 hx (0 : Int32) (hb hby own_d1_163) rfl rfl ?_
              refine ownRetI X0 hx Bd.returns (hb hby own_d1_164) hlk (by decide) (by decide) ?_
              subst hv_v2 hv_v1
              rw [e0]
              refine ⟨(0 : Int32), rfl, N0, rfl, ?_⟩
              simp only [Int32.lt_iff_toInt_lt, ← Int32.toInt_inj, Int32.reduceToInt] at hc22_32 hc35_33 hc42_49 hc55_50 hc111_51 hc118_52 ⊢
              unfold own_sq
              (repeat' split) <;> omega
            · refine ow_icmpNo (q := 121) X0 hx (hb hby own_d1_118) rfl (Jvm.Free.XT.ii_gt_f hc118_52) ?_
              refine ow_iconst (q := 122) X0 hx (4 : Int32) (hb hby own_d1_121) rfl rfl ?_
              refine ow_istore (q := 124) X0 hx (L' := #[rv a0, iv (1 : Int32), iv (5 : Int32), iv v2, iv (4 : Int32), iv (128 : Int32), iv (191 : Int32), .unset, .unset, .unset, .unset]) (hb hby own_d1_122) rfl rfl ?_
              refine ow_iloadN (q := 125) X0 hx (hb hby own_d1_124) rfl rfl ?_
              refine ow_sipush (q := 128) X0 hx (240 : Int32) (hb hby own_d1_125) rfl rfl ?_
              by_cases hc128_53 : v2 = (240 : Int32)
              · refine ow_icmpNo (q := 131) X0 hx (hb hby own_d1_128) rfl (Jvm.Free.XT.ii_ne_f hc128_53) ?_
                refine ow_sipush (q := 134) X0 hx (144 : Int32) (hb hby own_d1_131) rfl rfl ?_
                refine ow_goto (q := 140) X0 hx (hb hby own_d1_134) (by decide) (by decide) ?_
                refine ow_istore (q := 142) X0 hx (L' := #[rv a0, iv (1 : Int32), iv (5 : Int32), iv v2, iv (4 : Int32), iv (144 : Int32), iv (191 : Int32), .unset, .unset, .unset, .unset]) (hb hby own_d1_140) rfl rfl ?_
                refine ow_iloadN (q := 143) X0 hx (hb hby own_d1_142) rfl rfl ?_
                refine ow_sipush (q := 146) X0 hx (244 : Int32) (hb hby own_d1_143) rfl rfl ?_
                by_cases hc146_54 : v2 = (244 : Int32)
                · refine ow_icmpNo (q := 149) X0 hx (hb hby own_d1_146) rfl (Jvm.Free.XT.ii_ne_f hc146_54) ?_
                  refine ow_sipush (q := 152) X0 hx (143 : Int32) (hb hby own_d1_149) rfl rfl ?_
                  refine ow_goto (q := 158) X0 hx (hb hby own_d1_152) (by decide) (by decide) ?_
                  refine ow_istore (q := 160) X0 hx (L' := #[rv a0, iv (1 : Int32), iv (5 : Int32), iv v2, iv (4 : Int32), iv (144 : Int32), iv (143 : Int32), .unset, .unset, .unset, .unset]) (hb hby own_d1_158) rfl rfl ?_
                  refine ow_goto (q := 165) X0 hx (hb hby own_d1_160) (by decide) (by decide) ?_
                  exact cut165_3 (4 : Int32) (144 : Int32) (143 : Int32) _ _ X0 e0 N0 (by unfold own_H; simp only [Int32.lt_iff_toInt_lt, ← Int32.toInt_inj, Int32.reduceToInt, true_and, and_true] at hc22_32 hc35_33 hc42_49 hc55_50 hc111_51 hc118_52 hc128_53 hc146_54 ⊢; omega)
                · refine ow_icmpYes (q := 155) X0 hx (hb hby own_d1_146) (Jvm.Free.XT.ii_ne_t hc146_54) (by decide) (by decide) ?_
                  refine ow_sipush (q := 158) X0 hx (191 : Int32) (hb hby own_d1_155) rfl rfl ?_
                  refine ow_istore (q := 160) X0 hx (L' := #[rv a0, iv (1 : Int32), iv (5 : Int32), iv v2, iv (4 : Int32), iv (144 : Int32), iv (191 : Int32), .unset, .unset, .unset, .unset]) (hb hby own_d1_158) rfl rfl ?_
                  refine ow_goto (q := 165) X0 hx (hb hby own_d1_160) (by decide) (by decide) ?_
                  exact cut165_3 (4 : Int32) (144 : Int32) (191 : Int32) _ _ X0 e0 N0 (by unfold own_H; simp only [Int32.lt_iff_toInt_lt, ← Int32.toInt_inj, Int32.reduceToInt, true_and, and_true] at hc22_32 hc35_33 hc42_49 hc55_50 hc111_51 hc118_52 hc128_53 hc146_54 ⊢; omega)
              · refine ow_icmpYes (q := 137) X0 hx (hb hby own_d1_128) (Jvm.Free.XT.ii_ne_t hc128_53) (by decide) (by decide) ?_
                refine ow_sipush (q := 140) X0 hx (128 : Int32) (hb hby own_d1_137) rfl rfl ?_
                refine ow_istore (q := 142) X0 hx (L' := #[rv a0, iv (1 : Int32), iv (5 : Int32), iv v2, iv (4 : Int32), iv (128 : Int32), iv (191 : Int32), .unset, .unset, .unset, .unset]) (hb hby own_d1_140) rfl rfl ?_
                refine ow_iloadN (q := 143) X0 hx (hb hby own_d1_142) rfl rfl ?_
                refine ow_sipush (q := 146) X0 hx (244 : Int32) (hb hby own_d1_143) rfl rfl ?_
                by_cases hc146_55 : v2 = (244 : Int32)
                · refine ow_icmpNo (q := 149) X0 hx (hb hby own_d1_146) rfl (Jvm.Free.XT.ii_ne_f hc146_55) ?_
                  refine ow_sipush (q := 152) X0 hx (143 : Int32) (hb hby own_d1_149) rfl rfl ?_
                  refine ow_goto (q := 158) X0 hx (hb hby own_d1_152) (by decide) (by decide) ?_
                  refine ow_istore (q := 160) X0 hx (L' := #[rv a0, iv (1 : Int32), iv (5 : Int32), iv v2, iv (4 : Int32), iv (128 : Int32), iv (143 : Int32), .unset, .unset, .unset, .unset]) (hb hby own_d1_158) rfl rfl ?_
                  refine ow_goto (q := 165) X0 hx (hb hby own_d1_160) (by decide) (by decide) ?_
                  exact cut165_3 (4 : Int32) (128 : Int32) (143 : Int32) _ _ X0 e0 N0 (by unfold own_H; simp only [Int32.lt_iff_toInt_lt, ← Int32.toInt_inj, Int32.reduceToInt, true_and, and_true] at hc22_32 hc35_33 hc42_49 hc55_50 hc111_51 hc118_52 hc128_53 hc146_55 ⊢; omega)
                · refine ow_icmpYes (q := 155) X0 hx (hb hby own_d1_146) (Jvm.Free.XT.ii_ne_t hc146_55) (by decide) (by decide) ?_
                  refine ow_sipush (q := 158) X0 hx (191 : Int32) (hb hby own_d1_155) rfl rfl ?_
                  refine ow_istore (q := 160) X0 hx (L' := #[rv a0, iv (1 : Int32), iv (5 : Int32), iv v2, iv (4 : Int32), iv (128 : Int32), iv (191 : Int32), .unset, .unset, .unset, .unset]) (hb hby own_d1_158) rfl rfl ?_
                  refine ow_goto (q := 165) X0 hx (hb hby own_d1_160) (by decide) (by decide) ?_
                  exact cut165_3 (4 : Int32) (128 : Int32) (191 : Int32) _ _ X0 e0 N0 (by unfold own_H; simp only [Int32.lt_iff_toInt_lt, ← Int32.toInt_inj, Int32.reduceToInt, true_and, and_true] at hc22_32 hc35_33 hc42_49 hc55_50 hc111_51 hc118_52 hc128_53 hc146_55 ⊢; omega)
        · refine ow_icmpNo (q := 58) X0 hx (hb hby own_d1_55) rfl (Jvm.Free.XT.ii_lt_f hc55_50) ?_
          refine ow_iloadN (q := 59) X0 hx (hb hby own_d1_58) rfl rfl ?_
          refine ow_sipush (q := 62) X0 hx (239 : Int32) (hb hby own_d1_59) rfl rfl ?_
          by_cases hc62_56 : (239 : Int32) < v2
          · refine ow_icmpYes (q := 107) X0 hx (hb hby own_d1_62) (Jvm.Free.XT.ii_gt_t hc62_56) (by decide) (by decide) ?_
            refine ow_iloadN (q := 108) X0 hx (hb hby own_d1_107) rfl rfl ?_
            refine ow_sipush (q := 111) X0 hx (240 : Int32) (hb hby own_d1_108) rfl rfl ?_
            by_cases hc111_57 : v2 < (240 : Int32)
            · refine ow_icmpYes (q := 163) X0 hx (hb hby own_d1_111) (Jvm.Free.XT.ii_lt_t hc111_57) (by decide) (by decide) ?_
              refine ow_iconst (q := 164) X0 hx (0 : Int32) (hb hby own_d1_163) rfl rfl ?_
              refine ownRetI X0 hx Bd.returns (hb hby own_d1_164) hlk (by decide) (by decide) ?_
              subst hv_v2 hv_v1
              rw [e0]
              refine ⟨(0 : Int32), rfl, N0, rfl, ?_⟩
              simp only [Int32.lt_iff_toInt_lt, ← Int32.toInt_inj, Int32.reduceToInt] at hc22_32 hc35_33 hc42_49 hc55_50 hc62_56 hc111_57 ⊢
              unfold own_sq
              (repeat' split) <;> omega
            · refine ow_icmpNo (q := 114) X0 hx (hb hby own_d1_111) rfl (Jvm.Free.XT.ii_lt_f hc111_57) ?_
              refine ow_iloadN (q := 115) X0 hx (hb hby own_d1_114) rfl rfl ?_
              refine ow_sipush (q := 118) X0 hx (244 : Int32) (hb hby own_d1_115) rfl rfl ?_
              by_cases hc118_58 : (244 : Int32) < v2
              · refine ow_icmpYes (q := 163) X0 hx (hb hby own_d1_118) (Jvm.Free.XT.ii_gt_t hc118_58) (by decide) (by decide) ?_
                refine ow_iconst (q := 164) X0 hx (0 : Int32) (hb hby own_d1_163) rfl rfl ?_
                refine ownRetI X0 hx Bd.returns (hb hby own_d1_164) hlk (by decide) (by decide) ?_
                subst hv_v2 hv_v1
                rw [e0]
                refine ⟨(0 : Int32), rfl, N0, rfl, ?_⟩
                simp only [Int32.lt_iff_toInt_lt, ← Int32.toInt_inj, Int32.reduceToInt] at hc22_32 hc35_33 hc42_49 hc55_50 hc62_56 hc111_57 hc118_58 ⊢
                unfold own_sq
                (repeat' split) <;> omega
              · refine ow_icmpNo (q := 121) X0 hx (hb hby own_d1_118) rfl (Jvm.Free.XT.ii_gt_f hc118_58) ?_
                refine ow_iconst (q := 122) X0 hx (4 : Int32) (hb hby own_d1_121) rfl rfl ?_
                refine ow_istore (q := 124) X0 hx (L' := #[rv a0, iv (1 : Int32), iv (5 : Int32), iv v2, iv (4 : Int32), iv (128 : Int32), iv (191 : Int32), .unset, .unset, .unset, .unset]) (hb hby own_d1_122) rfl rfl ?_
                refine ow_iloadN (q := 125) X0 hx (hb hby own_d1_124) rfl rfl ?_
                refine ow_sipush (q := 128) X0 hx (240 : Int32) (hb hby own_d1_125) rfl rfl ?_
                by_cases hc128_59 : v2 = (240 : Int32)
                · refine ow_icmpNo (q := 131) X0 hx (hb hby own_d1_128) rfl (Jvm.Free.XT.ii_ne_f hc128_59) ?_
                  refine ow_sipush (q := 134) X0 hx (144 : Int32) (hb hby own_d1_131) rfl rfl ?_
                  refine ow_goto (q := 140) X0 hx (hb hby own_d1_134) (by decide) (by decide) ?_
                  refine ow_istore (q := 142) X0 hx (L' := #[rv a0, iv (1 : Int32), iv (5 : Int32), iv v2, iv (4 : Int32), iv (144 : Int32), iv (191 : Int32), .unset, .unset, .unset, .unset]) (hb hby own_d1_140) rfl rfl ?_
                  refine ow_iloadN (q := 143) X0 hx (hb hby own_d1_142) rfl rfl ?_
                  refine ow_sipush (q := 146) X0 hx (244 : Int32) (hb hby own_d1_143) rfl rfl ?_
                  by_cases hc146_60 : v2 = (244 : Int32)
                  · refine ow_icmpNo (q := 149) X0 hx (hb hby own_d1_146) rfl (Jvm.Free.XT.ii_ne_f hc146_60) ?_
                    refine ow_sipush (q := 152) X0 hx (143 : Int32) (hb hby own_d1_149) rfl rfl ?_
                    refine ow_goto (q := 158) X0 hx (hb hby own_d1_152) (by decide) (by decide) ?_
                    refine ow_istore (q := 160) X0 hx (L' := #[rv a0, iv (1 : Int32), iv (5 : Int32), iv v2, iv (4 : Int32), iv (144 : Int32), iv (143 : Int32), .unset, .unset, .unset, .unset]) (hb hby own_d1_158) rfl rfl ?_
                    refine ow_goto (q := 165) X0 hx (hb hby own_d1_160) (by decide) (by decide) ?_
                    exact cut165_3 (4 : Int32) (144 : Int32) (143 : Int32) _ _ X0 e0 N0 (by unfold own_H; simp only [Int32.lt_iff_toInt_lt, ← Int32.toInt_inj, Int32.reduceToInt, true_and, and_true] at hc22_32 hc35_33 hc42_49 hc55_50 hc62_56 hc111_57 hc118_58 hc128_59 hc146_60 ⊢; omega)
                  · refine ow_icmpYes (q := 155) X0 hx (hb hby own_d1_146) (Jvm.Free.XT.ii_ne_t hc146_60) (by decide) (by decide) ?_
                    refine ow_sipush (q := 158) X0 hx (191 : Int32) (hb hby own_d1_155) rfl rfl ?_
                    refine ow_istore (q := 160) X0 hx (L' := #[rv a0, iv (1 : Int32), iv (5 : Int32), iv v2, iv (4 : Int32), iv (144 : Int32), iv (191 : Int32), .unset, .unset, .unset, .unset]) (hb hby own_d1_158) rfl rfl ?_
                    refine ow_goto (q := 165) X0 hx (hb hby own_d1_160) (by decide) (by decide) ?_
                    exact cut165_3 (4 : Int32) (144 : Int32) (191 : Int32) _ _ X0 e0 N0 (by unfold own_H; simp only [Int32.lt_iff_toInt_lt, ← Int32.toInt_inj, Int32.reduceToInt, true_and, and_true] at hc22_32 hc35_33 hc42_49 hc55_50 hc62_56 hc111_57 hc118_58 hc128_59 hc146_60 ⊢; omega)
                · refine ow_icmpYes (q := 137) X0 hx (hb hby own_d1_128) (Jvm.Free.XT.ii_ne_t hc128_59) (by decide) (by decide) ?_
                  refine ow_sipush (q := 140) X0 hx (128 : Int32) (hb hby own_d1_137) rfl rfl ?_
                  refine ow_istore (q := 142) X0 hx (L' := #[rv a0, iv (1 : Int32), iv (5 : Int32), iv v2, iv (4 : Int32), iv (128 : Int32), iv (191 : Int32), .unset, .unset, .unset, .unset]) (hb hby own_d1_140) rfl rfl ?_
                  refine ow_iloadN (q := 143) X0 hx (hb hby own_d1_142) rfl rfl ?_
                  refine ow_sipush (q := 146) X0 hx (244 : Int32) (hb hby own_d1_143) rfl rfl ?_
                  by_cases hc146_61 : v2 = (244 : Int32)
                  · refine ow_icmpNo (q := 149) X0 hx (hb hby own_d1_146) rfl (Jvm.Free.XT.ii_ne_f hc146_61) ?_
                    refine ow_sipush (q := 152) X0 hx (143 : Int32) (hb hby own_d1_149) rfl rfl ?_
                    refine ow_goto (q := 158) X0 hx (hb hby own_d1_152) (by decide) (by decide) ?_
                    refine ow_istore (q := 160) X0 hx (L' := #[rv a0, iv (1 : Int32), iv (5 : Int32), iv v2, iv (4 : Int32), iv (128 : Int32), iv (143 : Int32), .unset, .unset, .unset, .unset]) (hb hby own_d1_158) rfl rfl ?_
                    refine ow_goto (q := 165) X0 hx (hb hby own_d1_160) (by decide) (by decide) ?_
                    exact cut165_3 (4 : Int32) (128 : Int32) (143 : Int32) _ _ X0 e0 N0 (by unfold own_H; simp only [Int32.lt_iff_toInt_lt, ← Int32.toInt_inj, Int32.reduceToInt, true_and, and_true] at hc22_32 hc35_33 hc42_49 hc55_50 hc62_56 hc111_57 hc118_58 hc128_59 hc146_61 ⊢; omega)
                  · refine ow_icmpYes (q := 155) X0 hx (hb hby own_d1_146) (Jvm.Free.XT.ii_ne_t hc146_61) (by decide) (by decide) ?_
                    refine ow_sipush (q := 158) X0 hx (191 : Int32) (hb hby own_d1_155) rfl rfl ?_
                    refine ow_istore (q := 160) X0 hx (L' := #[rv a0, iv (1 : Int32), iv (5 : Int32), iv v2, iv (4 : Int32), iv (128 : Int32), iv (191 : Int32), .unset, .unset, .unset, .unset]) (hb hby own_d1_158) rfl rfl ?_
                    refine ow_goto (q := 165) X0 hx (hb hby own_d1_160) (by decide) (by decide) ?_
                    exact cut165_3 (4 : Int32) (128 : Int32) (191 : Int32) _ _ X0 e0 N0 (by unfold own_H; simp only [Int32.lt_iff_toInt_lt, ← Int32.toInt_inj, Int32.reduceToInt, true_and, and_true] at hc22_32 hc35_33 hc42_49 hc55_50 hc62_56 hc111_57 hc118_58 hc128_59 hc146_61 ⊢; omega)
          · refine ow_icmpNo (q := 65) X0 hx (hb hby own_d1_62) rfl (Jvm.Free.XT.ii_gt_f hc62_56) ?_
            refine ow_iconst (q := 66) X0 hx (3 : Int32) (hb hby own_d1_65) rfl rfl ?_
            refine ow_istore (q := 68) X0 hx (L' := #[rv a0, iv (1 : Int32), iv (5 : Int32), iv v2, iv (3 : Int32), iv (128 : Int32), iv (191 : Int32), .unset, .unset, .unset, .unset]) (hb hby own_d1_66) rfl rfl ?_
            refine ow_iloadN (q := 69) X0 hx (hb hby own_d1_68) rfl rfl ?_
            refine ow_sipush (q := 72) X0 hx (224 : Int32) (hb hby own_d1_69) rfl rfl ?_
            by_cases hc72_62 : v2 = (224 : Int32)
            · refine ow_icmpNo (q := 75) X0 hx (hb hby own_d1_72) rfl (Jvm.Free.XT.ii_ne_f hc72_62) ?_
              refine ow_sipush (q := 78) X0 hx (160 : Int32) (hb hby own_d1_75) rfl rfl ?_
              refine ow_goto (q := 84) X0 hx (hb hby own_d1_78) (by decide) (by decide) ?_
              refine ow_istore (q := 86) X0 hx (L' := #[rv a0, iv (1 : Int32), iv (5 : Int32), iv v2, iv (3 : Int32), iv (160 : Int32), iv (191 : Int32), .unset, .unset, .unset, .unset]) (hb hby own_d1_84) rfl rfl ?_
              refine ow_iloadN (q := 87) X0 hx (hb hby own_d1_86) rfl rfl ?_
              refine ow_sipush (q := 90) X0 hx (237 : Int32) (hb hby own_d1_87) rfl rfl ?_
              by_cases hc90_63 : v2 = (237 : Int32)
              · refine ow_icmpNo (q := 93) X0 hx (hb hby own_d1_90) rfl (Jvm.Free.XT.ii_ne_f hc90_63) ?_
                refine ow_sipush (q := 96) X0 hx (159 : Int32) (hb hby own_d1_93) rfl rfl ?_
                refine ow_goto (q := 102) X0 hx (hb hby own_d1_96) (by decide) (by decide) ?_
                refine ow_istore (q := 104) X0 hx (L' := #[rv a0, iv (1 : Int32), iv (5 : Int32), iv v2, iv (3 : Int32), iv (160 : Int32), iv (159 : Int32), .unset, .unset, .unset, .unset]) (hb hby own_d1_102) rfl rfl ?_
                refine ow_goto (q := 165) X0 hx (hb hby own_d1_104) (by decide) (by decide) ?_
                exact cut165_3 (3 : Int32) (160 : Int32) (159 : Int32) _ _ X0 e0 N0 (by unfold own_H; simp only [Int32.lt_iff_toInt_lt, ← Int32.toInt_inj, Int32.reduceToInt, true_and, and_true] at hc22_32 hc35_33 hc42_49 hc55_50 hc62_56 hc72_62 hc90_63 ⊢; omega)
              · refine ow_icmpYes (q := 99) X0 hx (hb hby own_d1_90) (Jvm.Free.XT.ii_ne_t hc90_63) (by decide) (by decide) ?_
                refine ow_sipush (q := 102) X0 hx (191 : Int32) (hb hby own_d1_99) rfl rfl ?_
                refine ow_istore (q := 104) X0 hx (L' := #[rv a0, iv (1 : Int32), iv (5 : Int32), iv v2, iv (3 : Int32), iv (160 : Int32), iv (191 : Int32), .unset, .unset, .unset, .unset]) (hb hby own_d1_102) rfl rfl ?_
                refine ow_goto (q := 165) X0 hx (hb hby own_d1_104) (by decide) (by decide) ?_
                exact cut165_3 (3 : Int32) (160 : Int32) (191 : Int32) _ _ X0 e0 N0 (by unfold own_H; simp only [Int32.lt_iff_toInt_lt, ← Int32.toInt_inj, Int32.reduceToInt, true_and, and_true] at hc22_32 hc35_33 hc42_49 hc55_50 hc62_56 hc72_62 hc90_63 ⊢; omega)
            · refine ow_icmpYes (q := 81) X0 hx (hb hby own_d1_72) (Jvm.Free.XT.ii_ne_t hc72_62) (by decide) (by decide) ?_
              refine ow_sipush (q := 84) X0 hx (128 : Int32) (hb hby own_d1_81) rfl rfl ?_
              refine ow_istore (q := 86) X0 hx (L' := #[rv a0, iv (1 : Int32), iv (5 : Int32), iv v2, iv (3 : Int32), iv (128 : Int32), iv (191 : Int32), .unset, .unset, .unset, .unset]) (hb hby own_d1_84) rfl rfl ?_
              refine ow_iloadN (q := 87) X0 hx (hb hby own_d1_86) rfl rfl ?_
              refine ow_sipush (q := 90) X0 hx (237 : Int32) (hb hby own_d1_87) rfl rfl ?_
              by_cases hc90_64 : v2 = (237 : Int32)
              · refine ow_icmpNo (q := 93) X0 hx (hb hby own_d1_90) rfl (Jvm.Free.XT.ii_ne_f hc90_64) ?_
                refine ow_sipush (q := 96) X0 hx (159 : Int32) (hb hby own_d1_93) rfl rfl ?_
                refine ow_goto (q := 102) X0 hx (hb hby own_d1_96) (by decide) (by decide) ?_
                refine ow_istore (q := 104) X0 hx (L' := #[rv a0, iv (1 : Int32), iv (5 : Int32), iv v2, iv (3 : Int32), iv (128 : Int32), iv (159 : Int32), .unset, .unset, .unset, .unset]) (hb hby own_d1_102) rfl rfl ?_
                refine ow_goto (q := 165) X0 hx (hb hby own_d1_104) (by decide) (by decide) ?_
                exact cut165_3 (3 : Int32) (128 : Int32) (159 : Int32) _ _ X0 e0 N0 (by unfold own_H; simp only [Int32.lt_iff_toInt_lt, ← Int32.toInt_inj, Int32.reduceToInt, true_and, and_true] at hc22_32 hc35_33 hc42_49 hc55_50 hc62_56 hc72_62 hc90_64 ⊢; omega)
              · refine ow_icmpYes (q := 99) X0 hx (hb hby own_d1_90) (Jvm.Free.XT.ii_ne_t hc90_64) (by decide) (by decide) ?_
                refine ow_sipush (q := 102) X0 hx (191 : Int32) (hb hby own_d1_99) rfl rfl ?_
                refine ow_istore (q := 104) X0 hx (L' := #[rv a0, iv (1 : Int32), iv (5 : Int32), iv v2, iv (3 : Int32), iv (128 : Int32), iv (191 : Int32), .unset, .unset, .unset, .unset]) (hb hby own_d1_102) rfl rfl ?_
                refine ow_goto (q := 165) X0 hx (hb hby own_d1_104) (by decide) (by decide) ?_
                exact cut165_3 (3 : Int32) (128 : Int32) (191 : Int32) _ _ X0 e0 N0 (by unfold own_H; simp only [Int32.lt_iff_toInt_lt, ← Int32.toInt_inj, Int32.reduceToInt, true_and, and_true] at hc22_32 hc35_33 hc42_49 hc55_50 hc62_56 hc72_62 hc90_64 ⊢; omega)
      · refine ow_icmpNo (q := 45) X0 hx (hb hby own_d1_42) rfl (Jvm.Free.XT.ii_gt_f hc42_49) ?_
        refine ow_iconst (q := 46) X0 hx (2 : Int32) (hb hby own_d1_45) rfl rfl ?_
        refine ow_istore (q := 48) X0 hx (L' := #[rv a0, iv (1 : Int32), iv (5 : Int32), iv v2, iv (2 : Int32), iv (128 : Int32), iv (191 : Int32), .unset, .unset, .unset, .unset]) (hb hby own_d1_46) rfl rfl ?_
        refine ow_goto (q := 165) X0 hx (hb hby own_d1_48) (by decide) (by decide) ?_
        exact cut165_3 (2 : Int32) (128 : Int32) (191 : Int32) _ _ X0 e0 N0 (by unfold own_H; simp only [Int32.lt_iff_toInt_lt, ← Int32.toInt_inj, Int32.reduceToInt, true_and, and_true] at hc22_32 hc35_33 hc42_49 ⊢; omega)
theorem own_pn_XmlCharsSequenceLengthPinLaw : plainName "com/example/descend/descend/XmlCharsSequenceLengthPinLaw" = true := by first | (simp [plainName, overriddenIn]; done) | decide +kernel
theorem own_d2_0 : decode method_2_code 0 = .ok (.iload_n 0, 1) := by decide +kernel
theorem own_d2_1 : decode method_2_code 1 = .ok (.sipush 128, 3) := by decide +kernel
theorem own_d2_4 : decode method_2_code 4 = .ok (.if_icmp .ge 9, 3) := by decide +kernel
theorem own_d2_7 : decode method_2_code 7 = .ok (.iconst 1, 1) := by decide +kernel
theorem own_d2_8 : decode method_2_code 8 = .ok (.istore 5, 2) := by decide +kernel
theorem own_d2_10 : decode method_2_code 10 = .ok (.goto 56, 3) := by decide +kernel
theorem own_d2_66 : decode method_2_code 66 = .ok (.iload 5, 2) := by decide +kernel
theorem own_d2_68 : decode method_2_code 68 = .ok (.iload 4, 2) := by decide +kernel
theorem own_d2_70 : decode method_2_code 70 = .ok (.if_icmp .le 5, 3) := by decide +kernel
theorem own_d2_73 : decode method_2_code 73 = .ok (.iconst 0, 1) := by decide +kernel
theorem own_d2_74 : decode method_2_code 74 = .ok (.ireturn, 1) := by decide +kernel
theorem own_d2_75 : decode method_2_code 75 = .ok (.iload 5, 2) := by decide +kernel
theorem own_d2_77 : decode method_2_code 77 = .ok (.iconst 1, 1) := by decide +kernel
theorem own_d2_78 : decode method_2_code 78 = .ok (.if_icmp .ne 5, 3) := by decide +kernel
theorem own_d2_81 : decode method_2_code 81 = .ok (.iconst 1, 1) := by decide +kernel
theorem own_d2_82 : decode method_2_code 82 = .ok (.ireturn, 1) := by decide +kernel
theorem own_d2_13 : decode method_2_code 13 = .ok (.iload_n 0, 1) := by decide +kernel
theorem own_d2_14 : decode method_2_code 14 = .ok (.sipush 224, 3) := by decide +kernel
theorem own_d2_17 : decode method_2_code 17 = .ok (.iand, 1) := by decide +kernel
theorem own_d2_18 : decode method_2_code 18 = .ok (.sipush 192, 3) := by decide +kernel
theorem own_d2_21 : decode method_2_code 21 = .ok (.if_icmp .ne 9, 3) := by decide +kernel
theorem own_d2_24 : decode method_2_code 24 = .ok (.iconst 2, 1) := by decide +kernel
theorem own_d2_25 : decode method_2_code 25 = .ok (.istore 5, 2) := by decide +kernel
theorem own_d2_27 : decode method_2_code 27 = .ok (.goto 39, 3) := by decide +kernel
theorem own_d2_83 : decode method_2_code 83 = .ok (.iload_n 1, 1) := by decide +kernel
theorem own_d2_84 : decode method_2_code 84 = .ok (.sipush 192, 3) := by decide +kernel
theorem own_d2_87 : decode method_2_code 87 = .ok (.iand, 1) := by decide +kernel
theorem own_d2_88 : decode method_2_code 88 = .ok (.sipush 128, 3) := by decide +kernel
theorem own_d2_91 : decode method_2_code 91 = .ok (.if_icmp .eq 5, 3) := by decide +kernel
theorem own_d2_96 : decode method_2_code 96 = .ok (.iload 5, 2) := by decide +kernel
theorem own_d2_98 : decode method_2_code 98 = .ok (.iconst 2, 1) := by decide +kernel
theorem own_d2_99 : decode method_2_code 99 = .ok (.if_icmp .ne 31, 3) := by decide +kernel
theorem own_d2_102 : decode method_2_code 102 = .ok (.iload_n 0, 1) := by decide +kernel
theorem own_d2_103 : decode method_2_code 103 = .ok (.bipush 31, 2) := by decide +kernel
theorem own_d2_105 : decode method_2_code 105 = .ok (.iand, 1) := by decide +kernel
theorem own_d2_106 : decode method_2_code 106 = .ok (.bipush 6, 2) := by decide +kernel
theorem own_d2_108 : decode method_2_code 108 = .ok (.ishl, 1) := by decide +kernel
theorem own_d2_109 : decode method_2_code 109 = .ok (.iload_n 1, 1) := by decide +kernel
theorem own_d2_110 : decode method_2_code 110 = .ok (.bipush 63, 2) := by decide +kernel
theorem own_d2_112 : decode method_2_code 112 = .ok (.iand, 1) := by decide +kernel
theorem own_d2_113 : decode method_2_code 113 = .ok (.ior, 1) := by decide +kernel
theorem own_d2_114 : decode method_2_code 114 = .ok (.istore 6, 2) := by decide +kernel
theorem own_d2_116 : decode method_2_code 116 = .ok (.iload 6, 2) := by decide +kernel
theorem own_d2_118 : decode method_2_code 118 = .ok (.sipush 128, 3) := by decide +kernel
theorem own_d2_121 : decode method_2_code 121 = .ok (.if_icmp .lt 7, 3) := by decide +kernel
theorem own_d2_128 : decode method_2_code 128 = .ok (.iconst 0, 1) := by decide +kernel
theorem own_d2_129 : decode method_2_code 129 = .ok (.ireturn, 1) := by decide +kernel
theorem own_d2_124 : decode method_2_code 124 = .ok (.iconst 2, 1) := by decide +kernel
theorem own_d2_125 : decode method_2_code 125 = .ok (.goto 4, 3) := by decide +kernel
theorem own_d2_94 : decode method_2_code 94 = .ok (.iconst 0, 1) := by decide +kernel
theorem own_d2_95 : decode method_2_code 95 = .ok (.ireturn, 1) := by decide +kernel
theorem own_d2_30 : decode method_2_code 30 = .ok (.iload_n 0, 1) := by decide +kernel
theorem own_d2_31 : decode method_2_code 31 = .ok (.sipush 240, 3) := by decide +kernel
theorem own_d2_34 : decode method_2_code 34 = .ok (.iand, 1) := by decide +kernel
theorem own_d2_35 : decode method_2_code 35 = .ok (.sipush 224, 3) := by decide +kernel
theorem own_d2_38 : decode method_2_code 38 = .ok (.if_icmp .ne 9, 3) := by decide +kernel
theorem own_d2_41 : decode method_2_code 41 = .ok (.iconst 3, 1) := by decide +kernel
theorem own_d2_42 : decode method_2_code 42 = .ok (.istore 5, 2) := by decide +kernel
theorem own_d2_44 : decode method_2_code 44 = .ok (.goto 22, 3) := by decide +kernel
theorem own_d2_130 : decode method_2_code 130 = .ok (.iload_n 2, 1) := by decide +kernel
theorem own_d2_131 : decode method_2_code 131 = .ok (.sipush 192, 3) := by decide +kernel
theorem own_d2_134 : decode method_2_code 134 = .ok (.iand, 1) := by decide +kernel
theorem own_d2_135 : decode method_2_code 135 = .ok (.sipush 128, 3) := by decide +kernel
theorem own_d2_138 : decode method_2_code 138 = .ok (.if_icmp .eq 5, 3) := by decide +kernel
theorem own_d2_143 : decode method_2_code 143 = .ok (.iload 5, 2) := by decide +kernel
theorem own_d2_145 : decode method_2_code 145 = .ok (.iconst 3, 1) := by decide +kernel
theorem own_d2_146 : decode method_2_code 146 = .ok (.if_icmp .ne 53, 3) := by decide +kernel
theorem own_d2_149 : decode method_2_code 149 = .ok (.iload_n 0, 1) := by decide +kernel
theorem own_d2_150 : decode method_2_code 150 = .ok (.bipush 15, 2) := by decide +kernel
theorem own_d2_152 : decode method_2_code 152 = .ok (.iand, 1) := by decide +kernel
theorem own_d2_153 : decode method_2_code 153 = .ok (.bipush 12, 2) := by decide +kernel
theorem own_d2_155 : decode method_2_code 155 = .ok (.ishl, 1) := by decide +kernel
theorem own_d2_156 : decode method_2_code 156 = .ok (.iload_n 1, 1) := by decide +kernel
theorem own_d2_157 : decode method_2_code 157 = .ok (.bipush 63, 2) := by decide +kernel
theorem own_d2_159 : decode method_2_code 159 = .ok (.iand, 1) := by decide +kernel
theorem own_d2_160 : decode method_2_code 160 = .ok (.bipush 6, 2) := by decide +kernel
theorem own_d2_162 : decode method_2_code 162 = .ok (.ishl, 1) := by decide +kernel
theorem own_d2_163 : decode method_2_code 163 = .ok (.ior, 1) := by decide +kernel
theorem own_d2_164 : decode method_2_code 164 = .ok (.iload_n 2, 1) := by decide +kernel
theorem own_d2_165 : decode method_2_code 165 = .ok (.bipush 63, 2) := by decide +kernel
theorem own_d2_167 : decode method_2_code 167 = .ok (.iand, 1) := by decide +kernel
theorem own_d2_168 : decode method_2_code 168 = .ok (.ior, 1) := by decide +kernel
theorem own_d2_169 : decode method_2_code 169 = .ok (.istore 6, 2) := by decide +kernel
theorem own_d2_171 : decode method_2_code 171 = .ok (.iload 6, 2) := by decide +kernel
theorem own_d2_173 : decode method_2_code 173 = .ok (.sipush 2048, 3) := by decide +kernel
theorem own_d2_176 : decode method_2_code 176 = .ok (.if_icmp .lt 21, 3) := by decide +kernel
theorem own_d2_197 : decode method_2_code 197 = .ok (.iconst 0, 1) := by decide +kernel
theorem own_d2_198 : decode method_2_code 198 = .ok (.ireturn, 1) := by decide +kernel
theorem own_d2_179 : decode method_2_code 179 = .ok (.iload 6, 2) := by decide +kernel
theorem own_d2_181 : decode method_2_code 181 = .ok (.ldc 7, 2) := by decide +kernel
theorem own_d2_183 : decode method_2_code 183 = .ok (.if_icmp .lt 10, 3) := by decide +kernel
theorem own_d2_193 : decode method_2_code 193 = .ok (.iconst 3, 1) := by decide +kernel
theorem own_d2_194 : decode method_2_code 194 = .ok (.goto 4, 3) := by decide +kernel
theorem own_d2_186 : decode method_2_code 186 = .ok (.iload 6, 2) := by decide +kernel
theorem own_d2_188 : decode method_2_code 188 = .ok (.ldc 8, 2) := by decide +kernel
theorem own_d2_190 : decode method_2_code 190 = .ok (.if_icmp .le 7, 3) := by decide +kernel
theorem own_d2_141 : decode method_2_code 141 = .ok (.iconst 0, 1) := by decide +kernel
theorem own_d2_142 : decode method_2_code 142 = .ok (.ireturn, 1) := by decide +kernel
theorem own_d2_47 : decode method_2_code 47 = .ok (.iload_n 0, 1) := by decide +kernel
theorem own_d2_48 : decode method_2_code 48 = .ok (.sipush 248, 3) := by decide +kernel
theorem own_d2_51 : decode method_2_code 51 = .ok (.iand, 1) := by decide +kernel
theorem own_d2_52 : decode method_2_code 52 = .ok (.sipush 240, 3) := by decide +kernel
theorem own_d2_55 : decode method_2_code 55 = .ok (.if_icmp .ne 9, 3) := by decide +kernel
theorem own_d2_58 : decode method_2_code 58 = .ok (.iconst 4, 1) := by decide +kernel
theorem own_d2_59 : decode method_2_code 59 = .ok (.istore 5, 2) := by decide +kernel
theorem own_d2_61 : decode method_2_code 61 = .ok (.goto 5, 3) := by decide +kernel
theorem own_d2_199 : decode method_2_code 199 = .ok (.iload_n 3, 1) := by decide +kernel
theorem own_d2_200 : decode method_2_code 200 = .ok (.sipush 192, 3) := by decide +kernel
theorem own_d2_203 : decode method_2_code 203 = .ok (.iand, 1) := by decide +kernel
theorem own_d2_204 : decode method_2_code 204 = .ok (.sipush 128, 3) := by decide +kernel
theorem own_d2_207 : decode method_2_code 207 = .ok (.if_icmp .eq 5, 3) := by decide +kernel
theorem own_d2_212 : decode method_2_code 212 = .ok (.iload_n 0, 1) := by decide +kernel
theorem own_d2_213 : decode method_2_code 213 = .ok (.bipush 7, 2) := by decide +kernel
theorem own_d2_215 : decode method_2_code 215 = .ok (.iand, 1) := by decide +kernel
theorem own_d2_216 : decode method_2_code 216 = .ok (.bipush 18, 2) := by decide +kernel
theorem own_d2_218 : decode method_2_code 218 = .ok (.ishl, 1) := by decide +kernel
theorem own_d2_219 : decode method_2_code 219 = .ok (.iload_n 1, 1) := by decide +kernel
theorem own_d2_220 : decode method_2_code 220 = .ok (.bipush 63, 2) := by decide +kernel
theorem own_d2_222 : decode method_2_code 222 = .ok (.iand, 1) := by decide +kernel
theorem own_d2_223 : decode method_2_code 223 = .ok (.bipush 12, 2) := by decide +kernel
theorem own_d2_225 : decode method_2_code 225 = .ok (.ishl, 1) := by decide +kernel
theorem own_d2_226 : decode method_2_code 226 = .ok (.ior, 1) := by decide +kernel
theorem own_d2_227 : decode method_2_code 227 = .ok (.iload_n 2, 1) := by decide +kernel
theorem own_d2_228 : decode method_2_code 228 = .ok (.bipush 63, 2) := by decide +kernel
theorem own_d2_230 : decode method_2_code 230 = .ok (.iand, 1) := by decide +kernel
theorem own_d2_231 : decode method_2_code 231 = .ok (.bipush 6, 2) := by decide +kernel
theorem own_d2_233 : decode method_2_code 233 = .ok (.ishl, 1) := by decide +kernel
theorem own_d2_234 : decode method_2_code 234 = .ok (.ior, 1) := by decide +kernel
theorem own_d2_235 : decode method_2_code 235 = .ok (.iload_n 3, 1) := by decide +kernel
theorem own_d2_236 : decode method_2_code 236 = .ok (.bipush 63, 2) := by decide +kernel
theorem own_d2_238 : decode method_2_code 238 = .ok (.iand, 1) := by decide +kernel
theorem own_d2_239 : decode method_2_code 239 = .ok (.ior, 1) := by decide +kernel
theorem own_d2_240 : decode method_2_code 240 = .ok (.istore 6, 2) := by decide +kernel
theorem own_d2_242 : decode method_2_code 242 = .ok (.iload 6, 2) := by decide +kernel
theorem own_d2_244 : decode method_2_code 244 = .ok (.ldc 9, 2) := by decide +kernel
theorem own_d2_246 : decode method_2_code 246 = .ok (.if_icmp .lt 14, 3) := by decide +kernel
theorem own_d2_260 : decode method_2_code 260 = .ok (.iconst 0, 1) := by decide +kernel
theorem own_d2_261 : decode method_2_code 261 = .ok (.ireturn, 1) := by decide +kernel
theorem own_d2_249 : decode method_2_code 249 = .ok (.iload 6, 2) := by decide +kernel
theorem own_d2_251 : decode method_2_code 251 = .ok (.ldc 10, 2) := by decide +kernel
theorem own_d2_253 : decode method_2_code 253 = .ok (.if_icmp .gt 7, 3) := by decide +kernel
theorem own_d2_256 : decode method_2_code 256 = .ok (.iconst 4, 1) := by decide +kernel
theorem own_d2_257 : decode method_2_code 257 = .ok (.goto 4, 3) := by decide +kernel
theorem own_d2_210 : decode method_2_code 210 = .ok (.iconst 0, 1) := by decide +kernel
theorem own_d2_211 : decode method_2_code 211 = .ok (.ireturn, 1) := by decide +kernel
theorem own_d2_64 : decode method_2_code 64 = .ok (.iconst 0, 1) := by decide +kernel
theorem own_d2_65 : decode method_2_code 65 = .ok (.ireturn, 1) := by decide +kernel
theorem own_ef2_expected (m : MethodId) (p0 : Int32) (p1 : Int32) (p2 : Int32) (p3 : Int32) (p4 : Int32) : entryFrame m #[(.int p0), (.int p1), (.int p2), (.int p3), (.int p4)] 7 = mkF m 0 #[iv p0, iv p1, iv p2, iv p3, iv p4, .unset, .unset] [] := by first | (simp [entryFrame, mkF, argsToLocals, Value.category]; done) | rfl
def Q_expected (Z : State) (p0 : Int32) (p1 : Int32) (p2 : Int32) (p3 : Int32) (p4 : Int32) (h0 : Heap) (n0 : Nat) (v : Option Value) (h : Heap) (L : List Loc) : Prop := ∃ (r : Int32), v = some (.int r) ∧ Fr n0 L ∧ h = h0 ∧ (r.toInt = own_sq p0.toInt p1.toInt p2.toInt p3.toInt p4.toInt)
set_option maxRecDepth 65536 in
set_option maxHeartbeats 40000000 in
theorem rm_expected (l : Launch) (Z : State) (av0 : Array Value) (hw : ∀ d ∈ tables_1, d.before av0 Z = true) (ws : List Jvm.Cond) (p0 : Int32) (p1 : Int32) (p2 : Int32) (p3 : Int32) (p4 : Int32) (h0 : Heap) (n0 : Nat) (Z0 : n0 ≤ h0.size) (hb0 : 0 ≤ p0.toInt ∧ p0.toInt < 256) (hb1 : 0 ≤ p1.toInt ∧ p1.toInt < 256) (hb2 : 0 ≤ p2.toInt ∧ p2.toInt < 256) (hb3 : 0 ≤ p3.toInt ∧ p3.toInt < 256) (hav : 1 ≤ p4.toInt ∧ p4.toInt ≤ 4) :
    MetFree l (⟨"com/example/descend/descend/XmlCharsSequenceLengthPinLaw", "expected", "(IIIII)I"⟩ : MethodName) (head1 (Jvm.Cond.code (⟨"com/example/descend/descend/XmlCharsSequenceLengthPinLaw", "expected", "(IIIII)I"⟩ : MethodName) method_2_code 7 (some .int) :: ws) ({ frames := 0, cells := 0, slots := 0, locals := 0 } : Room)) (fun a U => a = #[(.int p0), (.int p1), (.int p2), (.int p3), (.int p4)] ∧ Z.Warmed39 U.vm ∧ U.heap = h0) (fun _ _ _ _ _ => True) (fun _ U o U' => ∃ v L, o = .returned v ∧ (Q_expected Z p0 p1 p2 p3 p4 h0 n0) v U'.heap L ∧ FrameEnd U o U' L ({ frames := 0, cells := 0, slots := 0, locals := 0 } : Room).cells ({ frames := 0, cells := 0, slots := 0, locals := 0 } : Room).slots) := by
  refine MetFree.of_bodySF (plainFor_of_name own_pn_XmlCharsSequenceLengthPinLaw) hisR ?_
  intro p e s m args below meth c s₁ Bd hml0 hP hK
  obtain ⟨rfl, hZ, hh⟩ := hP
  have hx := Bd.exec
  have hby := Bd.bytes
  have hml : c.maxLocals = 7 := hml0
  have hown : s.vm.findClass "com/example/descend/descend/XmlCharsSequenceLengthPinLaw" = some m.cls := findClass_of_methodNamed Bd.named
  have hnm := (name_of_methodNamed Bd.named Bd.method).1
  have hlk : meth.locks = false := BodyLoose.notSynchronized Bd
  have X0 : Stand p l e ({ frames := 0, cells := 0, slots := 0, locals := 0 } : Room) s m #[(.int p0), (.int p1), (.int p2), (.int p3), (.int p4)] below meth c s₁ [] 0 0 := Stand.of_body Bd
  have e0 : s₁.heap = h0 := by rw [← hh, Bd.state]; rfl
  have N0 := Fr.nil n0
  have K0 : Keep h0 h0 [] := Keep.refl _ _
  show ownEnds p e below s (Q_expected Z p0 p1 p2 p3 p4 h0 n0) ({ frames := 0, cells := 0, slots := 0, locals := 0 } : Room).cells ({ frames := 0, cells := 0, slots := 0, locals := 0 } : Room).slots s₁ (entryFrame m #[(.int p0), (.int p1), (.int p2), (.int p3), (.int p4)] 7)
  refine ownCast (own_ef2_expected m p0 p1 p2 p3 p4) ?_
  refine ow_iloadN (q := 1) X0 hx (hb hby own_d2_0) rfl rfl ?_
  refine ow_sipush (q := 4) X0 hx (128 : Int32) (hb hby own_d2_1) rfl rfl ?_
  by_cases hc4_1 : p0 < (128 : Int32)
  · refine ow_icmpNo (q := 7) X0 hx (hb hby own_d2_4) rfl (Jvm.Free.XT.ii_ge_f hc4_1) ?_
    refine ow_iconst (q := 8) X0 hx (1 : Int32) (hb hby own_d2_7) rfl rfl ?_
    refine ow_istore (q := 10) X0 hx (L' := #[iv p0, iv p1, iv p2, iv p3, iv p4, iv (1 : Int32), .unset]) (hb hby own_d2_8) rfl rfl ?_
    refine ow_goto (q := 66) X0 hx (hb hby own_d2_10) (by decide) (by decide) ?_
    refine ow_iload (q := 68) X0 hx (hb hby own_d2_66) rfl rfl ?_
    refine ow_iload (q := 70) X0 hx (hb hby own_d2_68) rfl rfl ?_
    by_cases hc70_2 : p4 < (1 : Int32)
    · refine ow_icmpNo (q := 73) X0 hx (hb hby own_d2_70) rfl (Jvm.Free.XT.ii_le_f hc70_2) ?_
      refine ow_iconst (q := 74) X0 hx (0 : Int32) (hb hby own_d2_73) rfl rfl ?_
      refine ownRetI X0 hx Bd.returns (hb hby own_d2_74) hlk (by decide) (by decide) ?_
      rw [e0]
      refine ⟨(0 : Int32), rfl, N0, rfl, ?_⟩
      have f1 := own_h224 hb0
      have f2 := own_h240 hb0
      have f3 := own_h248 hb0
      have f4 := own_h192 hb1
      have f5 := own_h192 hb2
      have f6 := own_h192 hb3
      simp only [Int32.lt_iff_toInt_lt, ← Int32.toInt_inj, Int32.reduceToInt] at hc4_1 hc70_2 ⊢
      unfold own_sq
      (repeat' split) <;> omega
    · refine ow_icmpYes (q := 75) X0 hx (hb hby own_d2_70) (Jvm.Free.XT.ii_le_t hc70_2) (by decide) (by decide) ?_
      refine ow_iload (q := 77) X0 hx (hb hby own_d2_75) rfl rfl ?_
      refine ow_iconst (q := 78) X0 hx (1 : Int32) (hb hby own_d2_77) rfl rfl ?_
      refine ow_icmpNo (q := 81) X0 hx (hb hby own_d2_78) rfl (Jvm.Free.XT.ii_ne_f (by decide)) ?_
      refine ow_iconst (q := 82) X0 hx (1 : Int32) (hb hby own_d2_81) rfl rfl ?_
      refine ownRetI X0 hx Bd.returns (hb hby own_d2_82) hlk (by decide) (by decide) ?_
      rw [e0]
      refine ⟨(1 : Int32), rfl, N0, rfl, ?_⟩
      have f1 := own_h224 hb0
      have f2 := own_h240 hb0
      have f3 := own_h248 hb0
      have f4 := own_h192 hb1
      have f5 := own_h192 hb2
      have f6 := own_h192 hb3
      simp only [Int32.lt_iff_toInt_lt, ← Int32.toInt_inj, Int32.reduceToInt] at hc4_1 hc70_2 ⊢
      unfold own_sq
      (repeat' split) <;> omega
  · refine ow_icmpYes (q := 13) X0 hx (hb hby own_d2_4) (Jvm.Free.XT.ii_ge_t hc4_1) (by decide) (by decide) ?_
    refine ow_iloadN (q := 14) X0 hx (hb hby own_d2_13) rfl rfl ?_
    refine ow_sipush (q := 17) X0 hx (224 : Int32) (hb hby own_d2_14) rfl rfl ?_
    refine ow_iand (q := 18) X0 hx _ (hb hby own_d2_17) rfl rfl ?_
    refine ow_sipush (q := 21) X0 hx (192 : Int32) (hb hby own_d2_18) rfl rfl ?_
    by_cases hc21_3 : (p0 &&& (224 : Int32)) = (192 : Int32)
    · refine ow_icmpNo (q := 24) X0 hx (hb hby own_d2_21) rfl (Jvm.Free.XT.ii_ne_f hc21_3) ?_
      refine ow_iconst (q := 25) X0 hx (2 : Int32) (hb hby own_d2_24) rfl rfl ?_
      refine ow_istore (q := 27) X0 hx (L' := #[iv p0, iv p1, iv p2, iv p3, iv p4, iv (2 : Int32), .unset]) (hb hby own_d2_25) rfl rfl ?_
      refine ow_goto (q := 66) X0 hx (hb hby own_d2_27) (by decide) (by decide) ?_
      refine ow_iload (q := 68) X0 hx (hb hby own_d2_66) rfl rfl ?_
      refine ow_iload (q := 70) X0 hx (hb hby own_d2_68) rfl rfl ?_
      by_cases hc70_4 : p4 < (2 : Int32)
      · refine ow_icmpNo (q := 73) X0 hx (hb hby own_d2_70) rfl (Jvm.Free.XT.ii_le_f hc70_4) ?_
        refine ow_iconst (q := 74) X0 hx (0 : Int32) (hb hby own_d2_73) rfl rfl ?_
        refine ownRetI X0 hx Bd.returns (hb hby own_d2_74) hlk (by decide) (by decide) ?_
        rw [e0]
        refine ⟨(0 : Int32), rfl, N0, rfl, ?_⟩
        have f1 := own_h224 hb0
        have f2 := own_h240 hb0
        have f3 := own_h248 hb0
        have f4 := own_h192 hb1
        have f5 := own_h192 hb2
        have f6 := own_h192 hb3
        simp only [Int32.lt_iff_toInt_lt, ← Int32.toInt_inj, Int32.reduceToInt] at hc4_1 hc21_3 hc70_4 ⊢
        unfold own_sq
        (repeat' split) <;> omega
      · refine ow_icmpYes (q := 75) X0 hx (hb hby own_d2_70) (Jvm.Free.XT.ii_le_t hc70_4) (by decide) (by decide) ?_
        refine ow_iload (q := 77) X0 hx (hb hby own_d2_75) rfl rfl ?_
        refine ow_iconst (q := 78) X0 hx (1 : Int32) (hb hby own_d2_77) rfl rfl ?_
        refine ow_icmpYes (q := 83) X0 hx (hb hby own_d2_78) (Jvm.Free.XT.ii_ne_t (by decide)) (by decide) (by decide) ?_
        refine ow_iloadN (q := 84) X0 hx (hb hby own_d2_83) rfl rfl ?_
        refine ow_sipush (q := 87) X0 hx (192 : Int32) (hb hby own_d2_84) rfl rfl ?_
        refine ow_iand (q := 88) X0 hx _ (hb hby own_d2_87) rfl rfl ?_
        refine ow_sipush (q := 91) X0 hx (128 : Int32) (hb hby own_d2_88) rfl rfl ?_
        by_cases hc91_5 : (p1 &&& (192 : Int32)) = (128 : Int32)
        · refine ow_icmpYes (q := 96) X0 hx (hb hby own_d2_91) (Jvm.Free.XT.ii_eq_t hc91_5) (by decide) (by decide) ?_
          refine ow_iload (q := 98) X0 hx (hb hby own_d2_96) rfl rfl ?_
          refine ow_iconst (q := 99) X0 hx (2 : Int32) (hb hby own_d2_98) rfl rfl ?_
          refine ow_icmpNo (q := 102) X0 hx (hb hby own_d2_99) rfl (Jvm.Free.XT.ii_ne_f (by decide)) ?_
          refine ow_iloadN (q := 103) X0 hx (hb hby own_d2_102) rfl rfl ?_
          refine ow_bipush (q := 105) X0 hx (31 : Int32) (hb hby own_d2_103) rfl rfl ?_
          refine ow_iand (q := 106) X0 hx _ (hb hby own_d2_105) rfl rfl ?_
          refine ow_bipush (q := 108) X0 hx (6 : Int32) (hb hby own_d2_106) rfl rfl ?_
          refine ow_ishl (q := 109) X0 hx _ (hb hby own_d2_108) rfl rfl ?_
          refine ow_iloadN (q := 110) X0 hx (hb hby own_d2_109) rfl rfl ?_
          refine ow_bipush (q := 112) X0 hx (63 : Int32) (hb hby own_d2_110) rfl rfl ?_
          refine ow_iand (q := 113) X0 hx _ (hb hby own_d2_112) rfl rfl ?_
          refine ow_ior (q := 114) X0 hx _ (hb hby own_d2_113) rfl rfl ?_
          generalize hv_v6 : (((p0 &&& (31 : Int32)) <<< ((6 : Int32) &&& 31)) ||| (p1 &&& (63 : Int32))) = v6
          refine ow_istore (q := 116) X0 hx (L' := #[iv p0, iv p1, iv p2, iv p3, iv p4, iv (2 : Int32), iv v6]) (hb hby own_d2_114) rfl rfl ?_
          refine ow_iload (q := 118) X0 hx (hb hby own_d2_116) rfl rfl ?_
          refine ow_sipush (q := 121) X0 hx (128 : Int32) (hb hby own_d2_118) rfl rfl ?_
          by_cases hc121_7 : v6 < (128 : Int32)
          · refine ow_icmpYes (q := 128) X0 hx (hb hby own_d2_121) (Jvm.Free.XT.ii_lt_t hc121_7) (by decide) (by decide) ?_
            refine ow_iconst (q := 129) X0 hx (0 : Int32) (hb hby own_d2_128) rfl rfl ?_
            refine ownRetI X0 hx Bd.returns (hb hby own_d2_129) hlk (by decide) (by decide) ?_
            rw [e0]
            refine ⟨(0 : Int32), rfl, N0, rfl, ?_⟩
            have f1 := own_h224 hb0
            have f2 := own_h240 hb0
            have f3 := own_h248 hb0
            have f4 := own_h192 hb1
            have f5 := own_h192 hb2
            have f6 := own_h192 hb3
            have cv6 := own_cp2 hb0 hb1 hv_v6
            simp only [Int32.lt_iff_toInt_lt, ← Int32.toInt_inj, Int32.reduceToInt] at hc4_1 hc21_3 hc70_4 hc91_5 hc121_7 ⊢
            unfold own_sq
            (repeat' split) <;> omega
          · refine ow_icmpNo (q := 124) X0 hx (hb hby own_d2_121) rfl (Jvm.Free.XT.ii_lt_f hc121_7) ?_
            refine ow_iconst (q := 125) X0 hx (2 : Int32) (hb hby own_d2_124) rfl rfl ?_
            refine ow_goto (q := 129) X0 hx (hb hby own_d2_125) (by decide) (by decide) ?_
            refine ownRetI X0 hx Bd.returns (hb hby own_d2_129) hlk (by decide) (by decide) ?_
            rw [e0]
            refine ⟨(2 : Int32), rfl, N0, rfl, ?_⟩
            have f1 := own_h224 hb0
            have f2 := own_h240 hb0
            have f3 := own_h248 hb0
            have f4 := own_h192 hb1
            have f5 := own_h192 hb2
            have f6 := own_h192 hb3
            have cv6 := own_cp2 hb0 hb1 hv_v6
            simp only [Int32.lt_iff_toInt_lt, ← Int32.toInt_inj, Int32.reduceToInt] at hc4_1 hc21_3 hc70_4 hc91_5 hc121_7 ⊢
            unfold own_sq
            (repeat' split) <;> omega
        · refine ow_icmpNo (q := 94) X0 hx (hb hby own_d2_91) rfl (Jvm.Free.XT.ii_eq_f hc91_5) ?_
          refine ow_iconst (q := 95) X0 hx (0 : Int32) (hb hby own_d2_94) rfl rfl ?_
          refine ownRetI X0 hx Bd.returns (hb hby own_d2_95) hlk (by decide) (by decide) ?_
          rw [e0]
          refine ⟨(0 : Int32), rfl, N0, rfl, ?_⟩
          have f1 := own_h224 hb0
          have f2 := own_h240 hb0
          have f3 := own_h248 hb0
          have f4 := own_h192 hb1
          have f5 := own_h192 hb2
          have f6 := own_h192 hb3
          simp only [Int32.lt_iff_toInt_lt, ← Int32.toInt_inj, Int32.reduceToInt] at hc4_1 hc21_3 hc70_4 hc91_5 ⊢
          unfold own_sq
          (repeat' split) <;> omega
    · refine ow_icmpYes (q := 30) X0 hx (hb hby own_d2_21) (Jvm.Free.XT.ii_ne_t hc21_3) (by decide) (by decide) ?_
      refine ow_iloadN (q := 31) X0 hx (hb hby own_d2_30) rfl rfl ?_
      refine ow_sipush (q := 34) X0 hx (240 : Int32) (hb hby own_d2_31) rfl rfl ?_
      refine ow_iand (q := 35) X0 hx _ (hb hby own_d2_34) rfl rfl ?_
      refine ow_sipush (q := 38) X0 hx (224 : Int32) (hb hby own_d2_35) rfl rfl ?_
      by_cases hc38_8 : (p0 &&& (240 : Int32)) = (224 : Int32)
      · refine ow_icmpNo (q := 41) X0 hx (hb hby own_d2_38) rfl (Jvm.Free.XT.ii_ne_f hc38_8) ?_
        refine ow_iconst (q := 42) X0 hx (3 : Int32) (hb hby own_d2_41) rfl rfl ?_
        refine ow_istore (q := 44) X0 hx (L' := #[iv p0, iv p1, iv p2, iv p3, iv p4, iv (3 : Int32), .unset]) (hb hby own_d2_42) rfl rfl ?_
        refine ow_goto (q := 66) X0 hx (hb hby own_d2_44) (by decide) (by decide) ?_
        refine ow_iload (q := 68) X0 hx (hb hby own_d2_66) rfl rfl ?_
        refine ow_iload (q := 70) X0 hx (hb hby own_d2_68) rfl rfl ?_
        by_cases hc70_9 : p4 < (3 : Int32)
        · refine ow_icmpNo (q := 73) X0 hx (hb hby own_d2_70) rfl (Jvm.Free.XT.ii_le_f hc70_9) ?_
          refine ow_iconst (q := 74) X0 hx (0 : Int32) (hb hby own_d2_73) rfl rfl ?_
          refine ownRetI X0 hx Bd.returns (hb hby own_d2_74) hlk (by decide) (by decide) ?_
          rw [e0]
          refine ⟨(0 : Int32), rfl, N0, rfl, ?_⟩
          have f1 := own_h224 hb0
          have f2 := own_h240 hb0
          have f3 := own_h248 hb0
          have f4 := own_h192 hb1
          have f5 := own_h192 hb2
          have f6 := own_h192 hb3
          simp only [Int32.lt_iff_toInt_lt, ← Int32.toInt_inj, Int32.reduceToInt] at hc4_1 hc21_3 hc38_8 hc70_9 ⊢
          unfold own_sq
          (repeat' split) <;> omega
        · refine ow_icmpYes (q := 75) X0 hx (hb hby own_d2_70) (Jvm.Free.XT.ii_le_t hc70_9) (by decide) (by decide) ?_
          refine ow_iload (q := 77) X0 hx (hb hby own_d2_75) rfl rfl ?_
          refine ow_iconst (q := 78) X0 hx (1 : Int32) (hb hby own_d2_77) rfl rfl ?_
          refine ow_icmpYes (q := 83) X0 hx (hb hby own_d2_78) (Jvm.Free.XT.ii_ne_t (by decide)) (by decide) (by decide) ?_
          refine ow_iloadN (q := 84) X0 hx (hb hby own_d2_83) rfl rfl ?_
          refine ow_sipush (q := 87) X0 hx (192 : Int32) (hb hby own_d2_84) rfl rfl ?_
          refine ow_iand (q := 88) X0 hx _ (hb hby own_d2_87) rfl rfl ?_
          refine ow_sipush (q := 91) X0 hx (128 : Int32) (hb hby own_d2_88) rfl rfl ?_
          by_cases hc91_10 : (p1 &&& (192 : Int32)) = (128 : Int32)
          · refine ow_icmpYes (q := 96) X0 hx (hb hby own_d2_91) (Jvm.Free.XT.ii_eq_t hc91_10) (by decide) (by decide) ?_
            refine ow_iload (q := 98) X0 hx (hb hby own_d2_96) rfl rfl ?_
            refine ow_iconst (q := 99) X0 hx (2 : Int32) (hb hby own_d2_98) rfl rfl ?_
            refine ow_icmpYes (q := 130) X0 hx (hb hby own_d2_99) (Jvm.Free.XT.ii_ne_t (by decide)) (by decide) (by decide) ?_
            refine ow_iloadN (q := 131) X0 hx (hb hby own_d2_130) rfl rfl ?_
            refine ow_sipush (q := 134) X0 hx (192 : Int32) (hb hby own_d2_131) rfl rfl ?_
            refine ow_iand (q := 135) X0 hx _ (hb hby own_d2_134) rfl rfl ?_
            refine ow_sipush (q := 138) X0 hx (128 : Int32) (hb hby own_d2_135) rfl rfl ?_
            by_cases hc138_11 : (p2 &&& (192 : Int32)) = (128 : Int32)
            · refine ow_icmpYes (q := 143) X0 hx (hb hby own_d2_138) (Jvm.Free.XT.ii_eq_t hc138_11) (by decide) (by decide) ?_
              refine ow_iload (q := 145) X0 hx (hb hby own_d2_143) rfl rfl ?_
              refine ow_iconst (q := 146) X0 hx (3 : Int32) (hb hby own_d2_145) rfl rfl ?_
              refine ow_icmpNo (q := 149) X0 hx (hb hby own_d2_146) rfl (Jvm.Free.XT.ii_ne_f (by decide)) ?_
              refine ow_iloadN (q := 150) X0 hx (hb hby own_d2_149) rfl rfl ?_
              refine ow_bipush (q := 152) X0 hx (15 : Int32) (hb hby own_d2_150) rfl rfl ?_
              refine ow_iand (q := 153) X0 hx _ (hb hby own_d2_152) rfl rfl ?_
              refine ow_bipush (q := 155) X0 hx (12 : Int32) (hb hby own_d2_153) rfl rfl ?_
              refine ow_ishl (q := 156) X0 hx _ (hb hby own_d2_155) rfl rfl ?_
              refine ow_iloadN (q := 157) X0 hx (hb hby own_d2_156) rfl rfl ?_
              refine ow_bipush (q := 159) X0 hx (63 : Int32) (hb hby own_d2_157) rfl rfl ?_
              refine ow_iand (q := 160) X0 hx _ (hb hby own_d2_159) rfl rfl ?_
              refine ow_bipush (q := 162) X0 hx (6 : Int32) (hb hby own_d2_160) rfl rfl ?_
              refine ow_ishl (q := 163) X0 hx _ (hb hby own_d2_162) rfl rfl ?_
              refine ow_ior (q := 164) X0 hx _ (hb hby own_d2_163) rfl rfl ?_
              refine ow_iloadN (q := 165) X0 hx (hb hby own_d2_164) rfl rfl ?_
              refine ow_bipush (q := 167) X0 hx (63 : Int32) (hb hby own_d2_165) rfl rfl ?_
              refine ow_iand (q := 168) X0 hx _ (hb hby own_d2_167) rfl rfl ?_
              refine ow_ior (q := 169) X0 hx _ (hb hby own_d2_168) rfl rfl ?_
              generalize hv_v12 : ((((p0 &&& (15 : Int32)) <<< ((12 : Int32) &&& 31)) ||| ((p1 &&& (63 : Int32)) <<< ((6 : Int32) &&& 31))) ||| (p2 &&& (63 : Int32))) = v12
              refine ow_istore (q := 171) X0 hx (L' := #[iv p0, iv p1, iv p2, iv p3, iv p4, iv (3 : Int32), iv v12]) (hb hby own_d2_169) rfl rfl ?_
              refine ow_iload (q := 173) X0 hx (hb hby own_d2_171) rfl rfl ?_
              refine ow_sipush (q := 176) X0 hx (2048 : Int32) (hb hby own_d2_173) rfl rfl ?_
              by_cases hc176_13 : v12 < (2048 : Int32)
              · refine ow_icmpYes (q := 197) X0 hx (hb hby own_d2_176) (Jvm.Free.XT.ii_lt_t hc176_13) (by decide) (by decide) ?_
                refine ow_iconst (q := 198) X0 hx (0 : Int32) (hb hby own_d2_197) rfl rfl ?_
                refine ownRetI X0 hx Bd.returns (hb hby own_d2_198) hlk (by decide) (by decide) ?_
                rw [e0]
                refine ⟨(0 : Int32), rfl, N0, rfl, ?_⟩
                have f1 := own_h224 hb0
                have f2 := own_h240 hb0
                have f3 := own_h248 hb0
                have f4 := own_h192 hb1
                have f5 := own_h192 hb2
                have f6 := own_h192 hb3
                have cv12 := own_cp3 hb0 hb1 hb2 hv_v12
                simp only [Int32.lt_iff_toInt_lt, ← Int32.toInt_inj, Int32.reduceToInt] at hc4_1 hc21_3 hc38_8 hc70_9 hc91_10 hc138_11 hc176_13 ⊢
                unfold own_sq
                (repeat' split) <;> omega
              · refine ow_icmpNo (q := 179) X0 hx (hb hby own_d2_176) rfl (Jvm.Free.XT.ii_lt_f hc176_13) ?_
                refine ow_iload (q := 181) X0 hx (hb hby own_d2_179) rfl rfl ?_
                refine ownGo (T' := s₁) (f' := (mkF m 183 #[iv p0, iv p1, iv p2, iv p3, iv p4, iv (3 : Int32), iv v12] [(.int (55296 : Int32)), (.int v12)])) (X0.ldcInt hx hown (mvT hZ (hw _ (List.mem_of_getElem? (i := 9) rfl))) (g := (mkF m 181 #[iv p0, iv p1, iv p2, iv p3, iv p4, iv (3 : Int32), iv v12] [(.int v12)])) rfl (hb hby own_d2_181)) ?_
                by_cases hc183_14 : v12 < (55296 : Int32)
                · refine ow_icmpYes (q := 193) X0 hx (hb hby own_d2_183) (Jvm.Free.XT.ii_lt_t hc183_14) (by decide) (by decide) ?_
                  refine ow_iconst (q := 194) X0 hx (3 : Int32) (hb hby own_d2_193) rfl rfl ?_
                  refine ow_goto (q := 198) X0 hx (hb hby own_d2_194) (by decide) (by decide) ?_
                  refine ownRetI X0 hx Bd.returns (hb hby own_d2_198) hlk (by decide) (by decide) ?_
                  rw [e0]
                  refine ⟨(3 : Int32), rfl, N0, rfl, ?_⟩
                  have f1 := own_h224 hb0
                  have f2 := own_h240 hb0
                  have f3 := own_h248 hb0
                  have f4 := own_h192 hb1
                  have f5 := own_h192 hb2
                  have f6 := own_h192 hb3
                  have cv12 := own_cp3 hb0 hb1 hb2 hv_v12
                  simp only [Int32.lt_iff_toInt_lt, ← Int32.toInt_inj, Int32.reduceToInt] at hc4_1 hc21_3 hc38_8 hc70_9 hc91_10 hc138_11 hc176_13 hc183_14 ⊢
                  unfold own_sq
                  (repeat' split) <;> omega
                · refine ow_icmpNo (q := 186) X0 hx (hb hby own_d2_183) rfl (Jvm.Free.XT.ii_lt_f hc183_14) ?_
                  refine ow_iload (q := 188) X0 hx (hb hby own_d2_186) rfl rfl ?_
                  refine ownGo (T' := s₁) (f' := (mkF m 190 #[iv p0, iv p1, iv p2, iv p3, iv p4, iv (3 : Int32), iv v12] [(.int (57343 : Int32)), (.int v12)])) (X0.ldcInt hx hown (mvT hZ (hw _ (List.mem_of_getElem? (i := 10) rfl))) (g := (mkF m 188 #[iv p0, iv p1, iv p2, iv p3, iv p4, iv (3 : Int32), iv v12] [(.int v12)])) rfl (hb hby own_d2_188)) ?_
                  by_cases hc190_15 : (57343 : Int32) < v12
                  · refine ow_icmpNo (q := 193) X0 hx (hb hby own_d2_190) rfl (Jvm.Free.XT.ii_le_f hc190_15) ?_
                    refine ow_iconst (q := 194) X0 hx (3 : Int32) (hb hby own_d2_193) rfl rfl ?_
                    refine ow_goto (q := 198) X0 hx (hb hby own_d2_194) (by decide) (by decide) ?_
                    refine ownRetI X0 hx Bd.returns (hb hby own_d2_198) hlk (by decide) (by decide) ?_
                    rw [e0]
                    refine ⟨(3 : Int32), rfl, N0, rfl, ?_⟩
                    have f1 := own_h224 hb0
                    have f2 := own_h240 hb0
                    have f3 := own_h248 hb0
                    have f4 := own_h192 hb1
                    have f5 := own_h192 hb2
                    have f6 := own_h192 hb3
                    have cv12 := own_cp3 hb0 hb1 hb2 hv_v12
                    simp only [Int32.lt_iff_toInt_lt, ← Int32.toInt_inj, Int32.reduceToInt] at hc4_1 hc21_3 hc38_8 hc70_9 hc91_10 hc138_11 hc176_13 hc183_14 hc190_15 ⊢
                    unfold own_sq
                    (repeat' split) <;> omega
                  · refine ow_icmpYes (q := 197) X0 hx (hb hby own_d2_190) (Jvm.Free.XT.ii_le_t hc190_15) (by decide) (by decide) ?_
                    refine ow_iconst (q := 198) X0 hx (0 : Int32) (hb hby own_d2_197) rfl rfl ?_
                    refine ownRetI X0 hx Bd.returns (hb hby own_d2_198) hlk (by decide) (by decide) ?_
                    rw [e0]
                    refine ⟨(0 : Int32), rfl, N0, rfl, ?_⟩
                    have f1 := own_h224 hb0
                    have f2 := own_h240 hb0
                    have f3 := own_h248 hb0
                    have f4 := own_h192 hb1
                    have f5 := own_h192 hb2
                    have f6 := own_h192 hb3
                    have cv12 := own_cp3 hb0 hb1 hb2 hv_v12
                    simp only [Int32.lt_iff_toInt_lt, ← Int32.toInt_inj, Int32.reduceToInt] at hc4_1 hc21_3 hc38_8 hc70_9 hc91_10 hc138_11 hc176_13 hc183_14 hc190_15 ⊢
                    unfold own_sq
                    (repeat' split) <;> omega
            · refine ow_icmpNo (q := 141) X0 hx (hb hby own_d2_138) rfl (Jvm.Free.XT.ii_eq_f hc138_11) ?_
              refine ow_iconst (q := 142) X0 hx (0 : Int32) (hb hby own_d2_141) rfl rfl ?_
              refine ownRetI X0 hx Bd.returns (hb hby own_d2_142) hlk (by decide) (by decide) ?_
              rw [e0]
              refine ⟨(0 : Int32), rfl, N0, rfl, ?_⟩
              have f1 := own_h224 hb0
              have f2 := own_h240 hb0
              have f3 := own_h248 hb0
              have f4 := own_h192 hb1
              have f5 := own_h192 hb2
              have f6 := own_h192 hb3
              simp only [Int32.lt_iff_toInt_lt, ← Int32.toInt_inj, Int32.reduceToInt] at hc4_1 hc21_3 hc38_8 hc70_9 hc91_10 hc138_11 ⊢
              unfold own_sq
              (repeat' split) <;> omega
          · refine ow_icmpNo (q := 94) X0 hx (hb hby own_d2_91) rfl (Jvm.Free.XT.ii_eq_f hc91_10) ?_
            refine ow_iconst (q := 95) X0 hx (0 : Int32) (hb hby own_d2_94) rfl rfl ?_
            refine ownRetI X0 hx Bd.returns (hb hby own_d2_95) hlk (by decide) (by decide) ?_
            rw [e0]
            refine ⟨(0 : Int32), rfl, N0, rfl, ?_⟩
            have f1 := own_h224 hb0
            have f2 := own_h240 hb0
            have f3 := own_h248 hb0
            have f4 := own_h192 hb1
            have f5 := own_h192 hb2
            have f6 := own_h192 hb3
            simp only [Int32.lt_iff_toInt_lt, ← Int32.toInt_inj, Int32.reduceToInt] at hc4_1 hc21_3 hc38_8 hc70_9 hc91_10 ⊢
            unfold own_sq
            (repeat' split) <;> omega
      · refine ow_icmpYes (q := 47) X0 hx (hb hby own_d2_38) (Jvm.Free.XT.ii_ne_t hc38_8) (by decide) (by decide) ?_
        refine ow_iloadN (q := 48) X0 hx (hb hby own_d2_47) rfl rfl ?_
        refine ow_sipush (q := 51) X0 hx (248 : Int32) (hb hby own_d2_48) rfl rfl ?_
        refine ow_iand (q := 52) X0 hx _ (hb hby own_d2_51) rfl rfl ?_
        refine ow_sipush (q := 55) X0 hx (240 : Int32) (hb hby own_d2_52) rfl rfl ?_
        by_cases hc55_16 : (p0 &&& (248 : Int32)) = (240 : Int32)
        · refine ow_icmpNo (q := 58) X0 hx (hb hby own_d2_55) rfl (Jvm.Free.XT.ii_ne_f hc55_16) ?_
          refine ow_iconst (q := 59) X0 hx (4 : Int32) (hb hby own_d2_58) rfl rfl ?_
          refine ow_istore (q := 61) X0 hx (L' := #[iv p0, iv p1, iv p2, iv p3, iv p4, iv (4 : Int32), .unset]) (hb hby own_d2_59) rfl rfl ?_
          refine ow_goto (q := 66) X0 hx (hb hby own_d2_61) (by decide) (by decide) ?_
          refine ow_iload (q := 68) X0 hx (hb hby own_d2_66) rfl rfl ?_
          refine ow_iload (q := 70) X0 hx (hb hby own_d2_68) rfl rfl ?_
          by_cases hc70_17 : p4 < (4 : Int32)
          · refine ow_icmpNo (q := 73) X0 hx (hb hby own_d2_70) rfl (Jvm.Free.XT.ii_le_f hc70_17) ?_
            refine ow_iconst (q := 74) X0 hx (0 : Int32) (hb hby own_d2_73) rfl rfl ?_
            refine ownRetI X0 hx Bd.returns (hb hby own_d2_74) hlk (by decide) (by decide) ?_
            rw [e0]
            refine ⟨(0 : Int32), rfl, N0, rfl, ?_⟩
            have f1 := own_h224 hb0
            have f2 := own_h240 hb0
            have f3 := own_h248 hb0
            have f4 := own_h192 hb1
            have f5 := own_h192 hb2
            have f6 := own_h192 hb3
            simp only [Int32.lt_iff_toInt_lt, ← Int32.toInt_inj, Int32.reduceToInt] at hc4_1 hc21_3 hc38_8 hc55_16 hc70_17 ⊢
            unfold own_sq
            (repeat' split) <;> omega
          · refine ow_icmpYes (q := 75) X0 hx (hb hby own_d2_70) (Jvm.Free.XT.ii_le_t hc70_17) (by decide) (by decide) ?_
            refine ow_iload (q := 77) X0 hx (hb hby own_d2_75) rfl rfl ?_
            refine ow_iconst (q := 78) X0 hx (1 : Int32) (hb hby own_d2_77) rfl rfl ?_
            refine ow_icmpYes (q := 83) X0 hx (hb hby own_d2_78) (Jvm.Free.XT.ii_ne_t (by decide)) (by decide) (by decide) ?_
            refine ow_iloadN (q := 84) X0 hx (hb hby own_d2_83) rfl rfl ?_
            refine ow_sipush (q := 87) X0 hx (192 : Int32) (hb hby own_d2_84) rfl rfl ?_
            refine ow_iand (q := 88) X0 hx _ (hb hby own_d2_87) rfl rfl ?_
            refine ow_sipush (q := 91) X0 hx (128 : Int32) (hb hby own_d2_88) rfl rfl ?_
            by_cases hc91_18 : (p1 &&& (192 : Int32)) = (128 : Int32)
            · refine ow_icmpYes (q := 96) X0 hx (hb hby own_d2_91) (Jvm.Free.XT.ii_eq_t hc91_18) (by decide) (by decide) ?_
              refine ow_iload (q := 98) X0 hx (hb hby own_d2_96) rfl rfl ?_
              refine ow_iconst (q := 99) X0 hx (2 : Int32) (hb hby own_d2_98) rfl rfl ?_
              refine ow_icmpYes (q := 130) X0 hx (hb hby own_d2_99) (Jvm.Free.XT.ii_ne_t (by decide)) (by decide) (by decide) ?_
              refine ow_iloadN (q := 131) X0 hx (hb hby own_d2_130) rfl rfl ?_
              refine ow_sipush (q := 134) X0 hx (192 : Int32) (hb hby own_d2_131) rfl rfl ?_
              refine ow_iand (q := 135) X0 hx _ (hb hby own_d2_134) rfl rfl ?_
              refine ow_sipush (q := 138) X0 hx (128 : Int32) (hb hby own_d2_135) rfl rfl ?_
              by_cases hc138_19 : (p2 &&& (192 : Int32)) = (128 : Int32)
              · refine ow_icmpYes (q := 143) X0 hx (hb hby own_d2_138) (Jvm.Free.XT.ii_eq_t hc138_19) (by decide) (by decide) ?_
                refine ow_iload (q := 145) X0 hx (hb hby own_d2_143) rfl rfl ?_
                refine ow_iconst (q := 146) X0 hx (3 : Int32) (hb hby own_d2_145) rfl rfl ?_
                refine ow_icmpYes (q := 199) X0 hx (hb hby own_d2_146) (Jvm.Free.XT.ii_ne_t (by decide)) (by decide) (by decide) ?_
                refine ow_iloadN (q := 200) X0 hx (hb hby own_d2_199) rfl rfl ?_
                refine ow_sipush (q := 203) X0 hx (192 : Int32) (hb hby own_d2_200) rfl rfl ?_
                refine ow_iand (q := 204) X0 hx _ (hb hby own_d2_203) rfl rfl ?_
                refine ow_sipush (q := 207) X0 hx (128 : Int32) (hb hby own_d2_204) rfl rfl ?_
                by_cases hc207_20 : (p3 &&& (192 : Int32)) = (128 : Int32)
                · refine ow_icmpYes (q := 212) X0 hx (hb hby own_d2_207) (Jvm.Free.XT.ii_eq_t hc207_20) (by decide) (by decide) ?_
                  refine ow_iloadN (q := 213) X0 hx (hb hby own_d2_212) rfl rfl ?_
                  refine ow_bipush (q := 215) X0 hx (7 : Int32) (hb hby own_d2_213) rfl rfl ?_
                  refine ow_iand (q := 216) X0 hx _ (hb hby own_d2_215) rfl rfl ?_
                  refine ow_bipush (q := 218) X0 hx (18 : Int32) (hb hby own_d2_216) rfl rfl ?_
                  refine ow_ishl (q := 219) X0 hx _ (hb hby own_d2_218) rfl rfl ?_
                  refine ow_iloadN (q := 220) X0 hx (hb hby own_d2_219) rfl rfl ?_
                  refine ow_bipush (q := 222) X0 hx (63 : Int32) (hb hby own_d2_220) rfl rfl ?_
                  refine ow_iand (q := 223) X0 hx _ (hb hby own_d2_222) rfl rfl ?_
                  refine ow_bipush (q := 225) X0 hx (12 : Int32) (hb hby own_d2_223) rfl rfl ?_
                  refine ow_ishl (q := 226) X0 hx _ (hb hby own_d2_225) rfl rfl ?_
                  refine ow_ior (q := 227) X0 hx _ (hb hby own_d2_226) rfl rfl ?_
                  refine ow_iloadN (q := 228) X0 hx (hb hby own_d2_227) rfl rfl ?_
                  refine ow_bipush (q := 230) X0 hx (63 : Int32) (hb hby own_d2_228) rfl rfl ?_
                  refine ow_iand (q := 231) X0 hx _ (hb hby own_d2_230) rfl rfl ?_
                  refine ow_bipush (q := 233) X0 hx (6 : Int32) (hb hby own_d2_231) rfl rfl ?_
                  refine ow_ishl (q := 234) X0 hx _ (hb hby own_d2_233) rfl rfl ?_
                  refine ow_ior (q := 235) X0 hx _ (hb hby own_d2_234) rfl rfl ?_
                  refine ow_iloadN (q := 236) X0 hx (hb hby own_d2_235) rfl rfl ?_
                  refine ow_bipush (q := 238) X0 hx (63 : Int32) (hb hby own_d2_236) rfl rfl ?_
                  refine ow_iand (q := 239) X0 hx _ (hb hby own_d2_238) rfl rfl ?_
                  refine ow_ior (q := 240) X0 hx _ (hb hby own_d2_239) rfl rfl ?_
                  generalize hv_v21 : (((((p0 &&& (7 : Int32)) <<< ((18 : Int32) &&& 31)) ||| ((p1 &&& (63 : Int32)) <<< ((12 : Int32) &&& 31))) ||| ((p2 &&& (63 : Int32)) <<< ((6 : Int32) &&& 31))) ||| (p3 &&& (63 : Int32))) = v21
                  refine ow_istore (q := 242) X0 hx (L' := #[iv p0, iv p1, iv p2, iv p3, iv p4, iv (4 : Int32), iv v21]) (hb hby own_d2_240) rfl rfl ?_
                  refine ow_iload (q := 244) X0 hx (hb hby own_d2_242) rfl rfl ?_
                  refine ownGo (T' := s₁) (f' := (mkF m 246 #[iv p0, iv p1, iv p2, iv p3, iv p4, iv (4 : Int32), iv v21] [(.int (65536 : Int32)), (.int v21)])) (X0.ldcInt hx hown (mvT hZ (hw _ (List.mem_of_getElem? (i := 11) rfl))) (g := (mkF m 244 #[iv p0, iv p1, iv p2, iv p3, iv p4, iv (4 : Int32), iv v21] [(.int v21)])) rfl (hb hby own_d2_244)) ?_
                  by_cases hc246_22 : v21 < (65536 : Int32)
                  · refine ow_icmpYes (q := 260) X0 hx (hb hby own_d2_246) (Jvm.Free.XT.ii_lt_t hc246_22) (by decide) (by decide) ?_
                    refine ow_iconst (q := 261) X0 hx (0 : Int32) (hb hby own_d2_260) rfl rfl ?_
                    refine ownRetI X0 hx Bd.returns (hb hby own_d2_261) hlk (by decide) (by decide) ?_
                    rw [e0]
                    refine ⟨(0 : Int32), rfl, N0, rfl, ?_⟩
                    have f1 := own_h224 hb0
                    have f2 := own_h240 hb0
                    have f3 := own_h248 hb0
                    have f4 := own_h192 hb1
                    have f5 := own_h192 hb2
                    have f6 := own_h192 hb3
                    have cv21 := own_cp4 hb0 hb1 hb2 hb3 hv_v21
                    simp only [Int32.lt_iff_toInt_lt, ← Int32.toInt_inj, Int32.reduceToInt] at hc4_1 hc21_3 hc38_8 hc55_16 hc70_17 hc91_18 hc138_19 hc207_20 hc246_22 ⊢
                    unfold own_sq
                    (repeat' split) <;> omega
                  · refine ow_icmpNo (q := 249) X0 hx (hb hby own_d2_246) rfl (Jvm.Free.XT.ii_lt_f hc246_22) ?_
                    refine ow_iload (q := 251) X0 hx (hb hby own_d2_249) rfl rfl ?_
                    refine ownGo (T' := s₁) (f' := (mkF m 253 #[iv p0, iv p1, iv p2, iv p3, iv p4, iv (4 : Int32), iv v21] [(.int (1114111 : Int32)), (.int v21)])) (X0.ldcInt hx hown (mvT hZ (hw _ (List.mem_of_getElem? (i := 12) rfl))) (g := (mkF m 251 #[iv p0, iv p1, iv p2, iv p3, iv p4, iv (4 : Int32), iv v21] [(.int v21)])) rfl (hb hby own_d2_251)) ?_
                    by_cases hc253_23 : (1114111 : Int32) < v21
                    · refine ow_icmpYes (q := 260) X0 hx (hb hby own_d2_253) (Jvm.Free.XT.ii_gt_t hc253_23) (by decide) (by decide) ?_
                      refine ow_iconst (q := 261) X0 hx (0 : Int32) (hb hby own_d2_260) rfl rfl ?_
                      refine ownRetI X0 hx Bd.returns (hb hby own_d2_261) hlk (by decide) (by decide) ?_
                      rw [e0]
                      refine ⟨(0 : Int32), rfl, N0, rfl, ?_⟩
                      have f1 := own_h224 hb0
                      have f2 := own_h240 hb0
                      have f3 := own_h248 hb0
                      have f4 := own_h192 hb1
                      have f5 := own_h192 hb2
                      have f6 := own_h192 hb3
                      have cv21 := own_cp4 hb0 hb1 hb2 hb3 hv_v21
                      simp only [Int32.lt_iff_toInt_lt, ← Int32.toInt_inj, Int32.reduceToInt] at hc4_1 hc21_3 hc38_8 hc55_16 hc70_17 hc91_18 hc138_19 hc207_20 hc246_22 hc253_23 ⊢
                      unfold own_sq
                      (repeat' split) <;> omega
                    · refine ow_icmpNo (q := 256) X0 hx (hb hby own_d2_253) rfl (Jvm.Free.XT.ii_gt_f hc253_23) ?_
                      refine ow_iconst (q := 257) X0 hx (4 : Int32) (hb hby own_d2_256) rfl rfl ?_
                      refine ow_goto (q := 261) X0 hx (hb hby own_d2_257) (by decide) (by decide) ?_
                      refine ownRetI X0 hx Bd.returns (hb hby own_d2_261) hlk (by decide) (by decide) ?_
                      rw [e0]
                      refine ⟨(4 : Int32), rfl, N0, rfl, ?_⟩
                      have f1 := own_h224 hb0
                      have f2 := own_h240 hb0
                      have f3 := own_h248 hb0
                      have f4 := own_h192 hb1
                      have f5 := own_h192 hb2
                      have f6 := own_h192 hb3
                      have cv21 := own_cp4 hb0 hb1 hb2 hb3 hv_v21
                      simp only [Int32.lt_iff_toInt_lt, ← Int32.toInt_inj, Int32.reduceToInt] at hc4_1 hc21_3 hc38_8 hc55_16 hc70_17 hc91_18 hc138_19 hc207_20 hc246_22 hc253_23 ⊢
                      unfold own_sq
                      (repeat' split) <;> omega
                · refine ow_icmpNo (q := 210) X0 hx (hb hby own_d2_207) rfl (Jvm.Free.XT.ii_eq_f hc207_20) ?_
                  refine ow_iconst (q := 211) X0 hx (0 : Int32) (hb hby own_d2_210) rfl rfl ?_
                  refine ownRetI X0 hx Bd.returns (hb hby own_d2_211) hlk (by decide) (by decide) ?_
                  rw [e0]
                  refine ⟨(0 : Int32), rfl, N0, rfl, ?_⟩
                  have f1 := own_h224 hb0
                  have f2 := own_h240 hb0
                  have f3 := own_h248 hb0
                  have f4 := own_h192 hb1
                  have f5 := own_h192 hb2
                  have f6 := own_h192 hb3
                  simp only [Int32.lt_iff_toInt_lt, ← Int32.toInt_inj, Int32.reduceToInt] at hc4_1 hc21_3 hc38_8 hc55_16 hc70_17 hc91_18 hc138_19 hc207_20 ⊢
                  unfold own_sq
                  (repeat' split) <;> omega
              · refine ow_icmpNo (q := 141) X0 hx (hb hby own_d2_138) rfl (Jvm.Free.XT.ii_eq_f hc138_19) ?_
                refine ow_iconst (q := 142) X0 hx (0 : Int32) (hb hby own_d2_141) rfl rfl ?_
                refine ownRetI X0 hx Bd.returns (hb hby own_d2_142) hlk (by decide) (by decide) ?_
                rw [e0]
                refine ⟨(0 : Int32), rfl, N0, rfl, ?_⟩
                have f1 := own_h224 hb0
                have f2 := own_h240 hb0
                have f3 := own_h248 hb0
                have f4 := own_h192 hb1
                have f5 := own_h192 hb2
                have f6 := own_h192 hb3
                simp only [Int32.lt_iff_toInt_lt, ← Int32.toInt_inj, Int32.reduceToInt] at hc4_1 hc21_3 hc38_8 hc55_16 hc70_17 hc91_18 hc138_19 ⊢
                unfold own_sq
                (repeat' split) <;> omega
            · refine ow_icmpNo (q := 94) X0 hx (hb hby own_d2_91) rfl (Jvm.Free.XT.ii_eq_f hc91_18) ?_
              refine ow_iconst (q := 95) X0 hx (0 : Int32) (hb hby own_d2_94) rfl rfl ?_
              refine ownRetI X0 hx Bd.returns (hb hby own_d2_95) hlk (by decide) (by decide) ?_
              rw [e0]
              refine ⟨(0 : Int32), rfl, N0, rfl, ?_⟩
              have f1 := own_h224 hb0
              have f2 := own_h240 hb0
              have f3 := own_h248 hb0
              have f4 := own_h192 hb1
              have f5 := own_h192 hb2
              have f6 := own_h192 hb3
              simp only [Int32.lt_iff_toInt_lt, ← Int32.toInt_inj, Int32.reduceToInt] at hc4_1 hc21_3 hc38_8 hc55_16 hc70_17 hc91_18 ⊢
              unfold own_sq
              (repeat' split) <;> omega
        · refine ow_icmpYes (q := 64) X0 hx (hb hby own_d2_55) (Jvm.Free.XT.ii_ne_t hc55_16) (by decide) (by decide) ?_
          refine ow_iconst (q := 65) X0 hx (0 : Int32) (hb hby own_d2_64) rfl rfl ?_
          refine ownRetI X0 hx Bd.returns (hb hby own_d2_65) hlk (by decide) (by decide) ?_
          rw [e0]
          refine ⟨(0 : Int32), rfl, N0, rfl, ?_⟩
          have f1 := own_h224 hb0
          have f2 := own_h240 hb0
          have f3 := own_h248 hb0
          have f4 := own_h192 hb1
          have f5 := own_h192 hb2
          have f6 := own_h192 hb3
          simp only [Int32.lt_iff_toInt_lt, ← Int32.toInt_inj, Int32.reduceToInt] at hc4_1 hc21_3 hc38_8 hc55_16 ⊢
          unfold own_sq
          (repeat' split) <;> omega
theorem own_pd0 : parseMethodDescriptor "([BII)I" = some ⟨[(.array .byte), .int, .int], some .int⟩ := by decide +kernel
theorem own_pd1 : parseMethodDescriptor "(IIIII)I" = some ⟨[.int, .int, .int, .int, .int], some .int⟩ := by decide +kernel
theorem own_ef0_law (m : MethodId) (p0 : Int32) (p1 : Int32) (p2 : Int32) (p3 : Int32) (p4 : Int32) : entryFrame m #[(.int p0), (.int p1), (.int p2), (.int p3), (.int p4)] maxLocals = mkF m 0 #[iv p0, iv p1, iv p2, iv p3, iv p4, .unset, .unset, .unset, .unset, .unset, .unset, .unset] [] := by first | (simp [entryFrame, mkF, argsToLocals, Value.category, maxLocals]; done) | rfl
def Q_law (Z : State) (p0 : Int32) (p1 : Int32) (p2 : Int32) (p3 : Int32) (p4 : Int32) (h0 : Heap) (n0 : Nat) (v : Option Value) (h : Heap) (L : List Loc) : Prop := v = some (.int 1) ∧ Fr n0 L
set_option maxRecDepth 65536 in
set_option maxHeartbeats 40000000 in
theorem rm_law (l : Launch) (Z : State) (av0 : Array Value) (hw : ∀ d ∈ tables_1, d.before av0 Z = true) (ws : List Jvm.Cond) (p0 : Int32) (p1 : Int32) (p2 : Int32) (p3 : Int32) (p4 : Int32) (h0 : Heap) (n0 : Nat) (Z0 : n0 ≤ h0.size) :
    MetFree l x (head1 (Jvm.Cond.code x code maxLocals ret :: ws) room_1) (fun a U => a = #[(.int p0), (.int p1), (.int p2), (.int p3), (.int p4)] ∧ Z.Warmed39 U.vm ∧ U.heap = h0) (fun _ _ _ _ _ => True) (fun _ U o U' => ∃ v L, o = .returned v ∧ (Q_law Z p0 p1 p2 p3 p4 h0 n0) v U'.heap L ∧ FrameEnd U o U' L 16 128) := by
  refine MetFree.of_bodySF (plainFor_of_name own_pn_XmlCharsSequenceLengthPinLaw) hisR ?_
  intro p e s m args below meth c s₁ Bd hml0 hP hK
  obtain ⟨rfl, hZ, hh⟩ := hP
  have hx := Bd.exec
  have hby := Bd.bytes
  have hml : c.maxLocals = 12 := hml0
  have hown : s.vm.findClass "com/example/descend/descend/XmlCharsSequenceLengthPinLaw" = some m.cls := findClass_of_methodNamed Bd.named
  have hnm := (name_of_methodNamed Bd.named Bd.method).1
  have hlk : meth.locks = false := BodyLoose.notSynchronized Bd
  have X0 : Stand p l e room_1 s m #[(.int p0), (.int p1), (.int p2), (.int p3), (.int p4)] below meth c s₁ [] 0 0 := Stand.of_body Bd
  have e0 : s₁.heap = h0 := by rw [← hh, Bd.state]; rfl
  have N0 := Fr.nil n0
  have K0 : Keep h0 h0 [] := Keep.refl _ _
  show ownEnds p e below s (Q_law Z p0 p1 p2 p3 p4 h0 n0) 16 128 s₁ (entryFrame m #[(.int p0), (.int p1), (.int p2), (.int p3), (.int p4)] maxLocals)
  refine ownCast (own_ef0_law m p0 p1 p2 p3 p4) ?_
  refine ow_iload (q := 2) X0 hx (hb hby at_0) rfl rfl ?_
  refine ow_iconst (q := 3) X0 hx (1 : Int32) (hb hby at_2) rfl rfl ?_
  refine ow_iand (q := 4) X0 hx _ (hb hby at_3) rfl rfl ?_
  generalize hv_v1 : (p4 &&& (1 : Int32)) = v1
  refine ow_istore (q := 6) X0 hx (L' := #[iv p0, iv p1, iv p2, iv p3, iv p4, iv v1, .unset, .unset, .unset, .unset, .unset, .unset]) (hb hby at_4) rfl rfl ?_
  refine ow_iload (q := 8) X0 hx (hb hby at_6) rfl rfl ?_
  refine ow_iconst (q := 9) X0 hx (1 : Int32) (hb hby at_8) rfl rfl ?_
  refine ow_ishr (q := 10) X0 hx _ (hb hby at_9) rfl rfl ?_
  refine ow_iconst (q := 11) X0 hx (3 : Int32) (hb hby at_10) rfl rfl ?_
  refine ow_iand (q := 12) X0 hx _ (hb hby at_11) rfl rfl ?_
  refine ow_iconst (q := 13) X0 hx (1 : Int32) (hb hby at_12) rfl rfl ?_
  refine ow_iadd (q := 14) X0 hx _ (hb hby at_13) rfl rfl ?_
  generalize hv_v2 : (((p4 >>> ((1 : Int32) &&& 31)) &&& (3 : Int32)) + (1 : Int32)) = v2
  refine ow_istore (q := 16) X0 hx (L' := #[iv p0, iv p1, iv p2, iv p3, iv p4, iv v1, iv v2, .unset, .unset, .unset, .unset, .unset]) (hb hby at_14) rfl rfl ?_
  rcases own_bit hv_v1 with hs3 | hs4
  · subst hs3
    rcases own_av hv_v2 with hs5 | hs6 | hs7 | hs8
    · subst hs5
      refine ow_iload (q := 18) X0 hx (hb hby at_16) rfl rfl ?_
      refine ow_iload (q := 20) X0 hx (hb hby at_18) rfl rfl ?_
      refine ow_iadd (q := 21) X0 hx (1 : Int32) (hb hby at_20) rfl (by decide) ?_
      refine ow_istore (q := 23) X0 hx (L' := #[iv p0, iv p1, iv p2, iv p3, iv p4, iv (0 : Int32), iv (1 : Int32), iv (1 : Int32), .unset, .unset, .unset, .unset]) (hb hby at_21) rfl rfl ?_
      refine ow_iload (q := 25) X0 hx (hb hby at_23) rfl rfl ?_
      refine ow_bipush (q := 27) X0 hx (8 : Int32) (hb hby at_25) rfl rfl ?_
      refine ow_iushr (q := 28) X0 hx _ (hb hby at_27) rfl rfl ?_
      refine ow_i2b (q := 29) X0 hx _ (hb hby at_28) rfl rfl ?_
      generalize hv_v9 : (((p4.toUInt32 >>> ((8 : Int32) &&& 31).toUInt32).toInt32).toInt8.toInt32) = v9
      refine ow_istore (q := 31) X0 hx (L' := #[iv p0, iv p1, iv p2, iv p3, iv p4, iv (0 : Int32), iv (1 : Int32), iv (1 : Int32), iv v9, .unset, .unset, .unset]) (hb hby at_29) rfl rfl ?_
      refine ow_iconst (q := 32) X0 hx (5 : Int32) (hb hby at_31) rfl rfl ?_
      obtain ⟨T10, h10, k10, X10, e10, E10, A10, st10⟩ := newP X0 hx hZ (hw _ (List.mem_of_getElem? (i := 0) rfl)) e0 (g := (mkF m 32 #[iv p0, iv p1, iv p2, iv p3, iv p4, iv (0 : Int32), iv (1 : Int32), iv (1 : Int32), iv v9, .unset, .unset, .unset] [(.int (5 : Int32))])) rfl (hb hby at_32) rfl (by decide) (cap := 5) (by decide) (by decide) (by decide) (by decide)
      obtain ⟨b10, g10⟩ : ∃ z, z = h0.size := ⟨_, rfl⟩
      rw [← g10] at A10 st10
      have sz_b10 : h0.size ≤ b10 := Nat.le_trans K0.1 (Nat.le_of_eq g10.symm)
      have G_b10 : n0 ≤ b10 := Nat.le_trans Z0 sz_b10
      have K10 : Keep h0 h10 [] := K0.ext E10
      have F11 : ownAI Z h10 b10 .byte 5 (fun _ => (0 : Int32)) := ownAI.new A10 (by decide) rfl (by decide)
      refine ownGo (T' := T10) (f' := (mkF m 34 #[iv p0, iv p1, iv p2, iv p3, iv p4, iv (0 : Int32), iv (1 : Int32), iv (1 : Int32), iv v9, .unset, .unset, .unset] [(.ref b10)])) (st10) ?_
      refine ow_astore (q := 36) X10 hx (L' := #[iv p0, iv p1, iv p2, iv p3, iv p4, iv (0 : Int32), iv (1 : Int32), iv (1 : Int32), iv v9, rv b10, .unset, .unset]) (hb hby at_34) rfl rfl rfl ?_
      refine ow_iload (q := 38) X10 hx (hb hby at_36) rfl rfl ?_
      refine ow_iconst (q := 39) X10 hx (1 : Int32) (hb hby at_38) rfl rfl ?_
      refine ow_icmpYes (q := 51) X10 hx (hb hby at_39) (Jvm.Free.XT.ii_ne_t (by decide)) (by decide) (by decide) ?_
      refine ow_aload (q := 53) X10 hx (hb hby at_51) rfl rfl rfl ?_
      refine ow_iconst (q := 54) X10 hx (4 : Int32) (hb hby at_53) rfl rfl ?_
      refine ow_iload (q := 56) X10 hx (hb hby at_54) rfl rfl ?_
      obtain ⟨T12, h12, X12, e12, W12, F12s, st12⟩ := ownBastore F11 X10 hx hZ e10 (j := (4 : Int32)) (by unfold ownIn; decide) (g := (mkF m 56 #[iv p0, iv p1, iv p2, iv p3, iv p4, iv (0 : Int32), iv (1 : Int32), iv (1 : Int32), iv v9, rv b10, .unset, .unset] [(.int v9), (.int (4 : Int32)), (.ref b10)])) rfl rfl (hb hby at_56)
      rw [own_narb hv_v9] at F12s
      have F12r : ownAI Z h12 b10 .byte 5 (ownUpd (fun _ => (0 : Int32)) 4 v9) := F12s
      have N12 := Fr.snoc X12 N0 G_b10
      have K12 : Keep h0 h12 [] := K10.wr W12 (Or.inr sz_b10)
      refine ownGo (T' := T12) (f' := (mkF m 57 #[iv p0, iv p1, iv p2, iv p3, iv p4, iv (0 : Int32), iv (1 : Int32), iv (1 : Int32), iv v9, rv b10, .unset, .unset] [])) (st12) ?_
      refine ow_aload (q := 59) X12 hx (hb hby at_57) rfl rfl rfl ?_
      refine ow_iload (q := 61) X12 hx (hb hby at_59) rfl rfl ?_
      refine ow_iloadN (q := 62) X12 hx (hb hby at_61) rfl rfl ?_
      refine ow_i2b (q := 63) X12 hx _ (hb hby at_62) rfl rfl ?_
      generalize hv_v13 : (p0.toInt8.toInt32) = v13
      obtain ⟨T14, h14, X14, e14, W14, F14s, st14⟩ := ownBastore F12r X12 hx hZ e12 (j := (0 : Int32)) (by unfold ownIn; decide) (g := (mkF m 63 #[iv p0, iv p1, iv p2, iv p3, iv p4, iv (0 : Int32), iv (1 : Int32), iv (1 : Int32), iv v9, rv b10, .unset, .unset] [(.int v13), (.int (0 : Int32)), (.ref b10)])) rfl rfl (hb hby at_63)
      rw [own_narb hv_v13] at F14s
      have F14r : ownAI Z h14 b10 .byte 5 (ownUpd (ownUpd (fun _ => (0 : Int32)) 4 v9) 0 v13) := F14s
      have N14 := Fr.snoc X14 N12 G_b10
      have K14 : Keep h0 h14 [] := K12.wr W14 (Or.inr sz_b10)
      refine ownGo (T' := T14) (f' := (mkF m 64 #[iv p0, iv p1, iv p2, iv p3, iv p4, iv (0 : Int32), iv (1 : Int32), iv (1 : Int32), iv v9, rv b10, .unset, .unset] [])) (st14) ?_
      refine ow_aload (q := 66) X14 hx (hb hby at_64) rfl rfl rfl ?_
      refine ow_iload (q := 68) X14 hx (hb hby at_66) rfl rfl ?_
      refine ow_iconst (q := 69) X14 hx (1 : Int32) (hb hby at_68) rfl rfl ?_
      refine ow_iadd (q := 70) X14 hx (1 : Int32) (hb hby at_69) rfl (by decide) ?_
      refine ow_iloadN (q := 71) X14 hx (hb hby at_70) rfl rfl ?_
      refine ow_i2b (q := 72) X14 hx _ (hb hby at_71) rfl rfl ?_
      generalize hv_v15 : (p1.toInt8.toInt32) = v15
      obtain ⟨T16, h16, X16, e16, W16, F16s, st16⟩ := ownBastore F14r X14 hx hZ e14 (j := (1 : Int32)) (by unfold ownIn; decide) (g := (mkF m 72 #[iv p0, iv p1, iv p2, iv p3, iv p4, iv (0 : Int32), iv (1 : Int32), iv (1 : Int32), iv v9, rv b10, .unset, .unset] [(.int v15), (.int (1 : Int32)), (.ref b10)])) rfl rfl (hb hby at_72)
      rw [own_narb hv_v15] at F16s
      have F16r : ownAI Z h16 b10 .byte 5 (ownUpd (ownUpd (ownUpd (fun _ => (0 : Int32)) 4 v9) 0 v13) 1 v15) := F16s
      have N16 := Fr.snoc X16 N14 G_b10
      have K16 : Keep h0 h16 [] := K14.wr W16 (Or.inr sz_b10)
      refine ownGo (T' := T16) (f' := (mkF m 73 #[iv p0, iv p1, iv p2, iv p3, iv p4, iv (0 : Int32), iv (1 : Int32), iv (1 : Int32), iv v9, rv b10, .unset, .unset] [])) (st16) ?_
      refine ow_aload (q := 75) X16 hx (hb hby at_73) rfl rfl rfl ?_
      refine ow_iload (q := 77) X16 hx (hb hby at_75) rfl rfl ?_
      refine ow_iconst (q := 78) X16 hx (2 : Int32) (hb hby at_77) rfl rfl ?_
      refine ow_iadd (q := 79) X16 hx (2 : Int32) (hb hby at_78) rfl (by decide) ?_
      refine ow_iloadN (q := 80) X16 hx (hb hby at_79) rfl rfl ?_
      refine ow_i2b (q := 81) X16 hx _ (hb hby at_80) rfl rfl ?_
      generalize hv_v17 : (p2.toInt8.toInt32) = v17
      obtain ⟨T18, h18, X18, e18, W18, F18s, st18⟩ := ownBastore F16r X16 hx hZ e16 (j := (2 : Int32)) (by unfold ownIn; decide) (g := (mkF m 81 #[iv p0, iv p1, iv p2, iv p3, iv p4, iv (0 : Int32), iv (1 : Int32), iv (1 : Int32), iv v9, rv b10, .unset, .unset] [(.int v17), (.int (2 : Int32)), (.ref b10)])) rfl rfl (hb hby at_81)
      rw [own_narb hv_v17] at F18s
      have F18r : ownAI Z h18 b10 .byte 5 (ownUpd (ownUpd (ownUpd (ownUpd (fun _ => (0 : Int32)) 4 v9) 0 v13) 1 v15) 2 v17) := F18s
      have N18 := Fr.snoc X18 N16 G_b10
      have K18 : Keep h0 h18 [] := K16.wr W18 (Or.inr sz_b10)
      refine ownGo (T' := T18) (f' := (mkF m 82 #[iv p0, iv p1, iv p2, iv p3, iv p4, iv (0 : Int32), iv (1 : Int32), iv (1 : Int32), iv v9, rv b10, .unset, .unset] [])) (st18) ?_
      refine ow_aload (q := 84) X18 hx (hb hby at_82) rfl rfl rfl ?_
      refine ow_iload (q := 86) X18 hx (hb hby at_84) rfl rfl ?_
      refine ow_iconst (q := 87) X18 hx (3 : Int32) (hb hby at_86) rfl rfl ?_
      refine ow_iadd (q := 88) X18 hx (3 : Int32) (hb hby at_87) rfl (by decide) ?_
      refine ow_iloadN (q := 89) X18 hx (hb hby at_88) rfl rfl ?_
      refine ow_i2b (q := 90) X18 hx _ (hb hby at_89) rfl rfl ?_
      generalize hv_v19 : (p3.toInt8.toInt32) = v19
      obtain ⟨T20, h20, X20, e20, W20, F20s, st20⟩ := ownBastore F18r X18 hx hZ e18 (j := (3 : Int32)) (by unfold ownIn; decide) (g := (mkF m 90 #[iv p0, iv p1, iv p2, iv p3, iv p4, iv (0 : Int32), iv (1 : Int32), iv (1 : Int32), iv v9, rv b10, .unset, .unset] [(.int v19), (.int (3 : Int32)), (.ref b10)])) rfl rfl (hb hby at_90)
      rw [own_narb hv_v19] at F20s
      have F20r : ownAI Z h20 b10 .byte 5 (ownUpd (ownUpd (ownUpd (ownUpd (ownUpd (fun _ => (0 : Int32)) 4 v9) 0 v13) 1 v15) 2 v17) 3 v19) := F20s
      have N20 := Fr.snoc X20 N18 G_b10
      have K20 : Keep h0 h20 [] := K18.wr W20 (Or.inr sz_b10)
      refine ownGo (T' := T20) (f' := (mkF m 91 #[iv p0, iv p1, iv p2, iv p3, iv p4, iv (0 : Int32), iv (1 : Int32), iv (1 : Int32), iv v9, rv b10, .unset, .unset] [])) (st20) ?_
      refine ow_aload (q := 93) X20 hx (hb hby at_91) rfl rfl rfl ?_
      refine ow_iload (q := 95) X20 hx (hb hby at_93) rfl rfl ?_
      refine ow_iload (q := 97) X20 hx (hb hby at_95) rfl rfl ?_
      obtain ⟨_, _, ⟨T21, L21, k21, n21⟩, -, X21, ⟨Lc21, hQ21, l21, y21, z21⟩, st21⟩ := Jvm.LawKit.callS X20 hx (y := (⟨"com/example/descend/descend/XmlChars", "sequenceLength", "([BII)I"⟩ : MethodName)) hown (mvT hZ (hw _ (List.mem_of_getElem? (i := 1) rfl))) (mvT hZ (hw _ (List.mem_of_getElem? (i := 2) rfl))) (mvT hZ (hw _ (List.mem_of_getElem? (i := 3) rfl))) (mvT hZ (hw _ (List.mem_of_getElem? (i := 4) rfl))) (by decide) (backOf (W := 0) (rm_seq_0_1 l Z av0 hw [] b10 (ownUpd (ownUpd (ownUpd (ownUpd (ownUpd (fun _ => (0 : Int32)) 4 v9) 0 v13) 1 v15) 2 v17) 3 v19) h20 n0 (Nat.le_trans Z0 K20.1) F20r) hZ (hw _ (List.mem_of_getElem? (i := 4) rfl)) (hw _ (List.mem_of_getElem? (i := 3) rfl)) (by decide) (by decide)) (g := (mkF m 97 #[iv p0, iv p1, iv p2, iv p3, iv p4, iv (0 : Int32), iv (1 : Int32), iv (1 : Int32), iv v9, rv b10, .unset, .unset] [(.int (1 : Int32)), (.int (0 : Int32)), (.ref b10)])) rfl (by rw [hml]; rfl) (argsL := [(.ref b10), (.int (0 : Int32)), (.int (1 : Int32))]) (rest := []) (lenOf own_pd0 rfl) rfl (by show 2 * 0 + _ ≤ _; exact Nat.le_of_eq rfl) (hb hby at_97) (fun _ _ => ⟨rfl, e20, (by decide : 1 + 0 ≤ _), (by decide : 5 + 0 ≤ _)⟩)
      dsimp only [Pt.U, Pt.locs, Pt.cells, Pt.slots] at X21 l21 y21 z21 st21 hQ21
      subst l21 y21 z21
      obtain ⟨r21, rfl, N21q, e21, hp21⟩ := hQ21
      have N21 := Fr.app N20 N21q
      refine ownGo (T' := T21) (f' := (mkF m 100 #[iv p0, iv p1, iv p2, iv p3, iv p4, iv (0 : Int32), iv (1 : Int32), iv (1 : Int32), iv v9, rv b10, .unset, .unset] [(.int r21)])) (st21) ?_
      refine ow_istore (q := 102) X21 hx (L' := #[iv p0, iv p1, iv p2, iv p3, iv p4, iv (0 : Int32), iv (1 : Int32), iv (1 : Int32), iv v9, rv b10, iv r21, .unset]) (hb hby at_100) rfl rfl ?_
      refine ow_iloadN (q := 103) X21 hx (hb hby at_102) rfl rfl ?_
      refine ow_sipush (q := 106) X21 hx (255 : Int32) (hb hby at_103) rfl rfl ?_
      refine ow_iand (q := 107) X21 hx _ (hb hby at_106) rfl rfl ?_
      refine ow_iloadN (q := 108) X21 hx (hb hby at_107) rfl rfl ?_
      refine ow_sipush (q := 111) X21 hx (255 : Int32) (hb hby at_108) rfl rfl ?_
      refine ow_iand (q := 112) X21 hx _ (hb hby at_111) rfl rfl ?_
      refine ow_iloadN (q := 113) X21 hx (hb hby at_112) rfl rfl ?_
      refine ow_sipush (q := 116) X21 hx (255 : Int32) (hb hby at_113) rfl rfl ?_
      refine ow_iand (q := 117) X21 hx _ (hb hby at_116) rfl rfl ?_
      refine ow_iloadN (q := 118) X21 hx (hb hby at_117) rfl rfl ?_
      refine ow_sipush (q := 121) X21 hx (255 : Int32) (hb hby at_118) rfl rfl ?_
      refine ow_iand (q := 122) X21 hx _ (hb hby at_121) rfl rfl ?_
      refine ow_iload (q := 124) X21 hx (hb hby at_122) rfl rfl ?_
      generalize hv_v22 : (p3 &&& (255 : Int32)) = v22
      generalize hv_v23 : (p2 &&& (255 : Int32)) = v23
      generalize hv_v24 : (p1 &&& (255 : Int32)) = v24
      generalize hv_v25 : (p0 &&& (255 : Int32)) = v25
      obtain ⟨_, _, ⟨T26, L26, k26, n26⟩, -, X26, ⟨Lc26, hQ26, l26, y26, z26⟩, st26⟩ := Jvm.LawKit.callS X21 hx (y := (⟨"com/example/descend/descend/XmlCharsSequenceLengthPinLaw", "expected", "(IIIII)I"⟩ : MethodName)) hown (mvT hZ (hw _ (List.mem_of_getElem? (i := 5) rfl))) (mvT hZ (hw _ (List.mem_of_getElem? (i := 6) rfl))) (mvT hZ (hw _ (List.mem_of_getElem? (i := 7) rfl))) (mvT hZ (hw _ (List.mem_of_getElem? (i := 8) rfl))) (by decide) (backOf (W := 0) (rm_expected l Z av0 hw [] v25 v24 v23 v22 (1 : Int32) h20 n0 (Nat.le_trans Z0 K20.1) (own_r255 hv_v25) (own_r255 hv_v24) (own_r255 hv_v23) (own_r255 hv_v22) (by decide)) hZ (hw _ (List.mem_of_getElem? (i := 8) rfl)) (hw _ (List.mem_of_getElem? (i := 7) rfl)) (by decide) (by decide)) (g := (mkF m 124 #[iv p0, iv p1, iv p2, iv p3, iv p4, iv (0 : Int32), iv (1 : Int32), iv (1 : Int32), iv v9, rv b10, iv r21, .unset] [(.int (1 : Int32)), (.int v22), (.int v23), (.int v24), (.int v25)])) rfl (by rw [hml]; rfl) (argsL := [(.int v25), (.int v24), (.int v23), (.int v22), (.int (1 : Int32))]) (rest := []) (lenOf own_pd1 rfl) rfl (by show 2 * 0 + _ ≤ _; exact Nat.le_of_eq rfl) (hb hby at_124) (fun _ _ => ⟨rfl, e21, (by decide : 1 + 0 ≤ _), (by decide : 5 + 0 ≤ _)⟩)
      dsimp only [Pt.U, Pt.locs, Pt.cells, Pt.slots] at X26 l26 y26 z26 st26 hQ26
      subst l26 y26 z26
      obtain ⟨r26, rfl, N26q, e26, hp26⟩ := hQ26
      have N26 := Fr.app N21 N26q
      refine ownGo (T' := T26) (f' := (mkF m 127 #[iv p0, iv p1, iv p2, iv p3, iv p4, iv (0 : Int32), iv (1 : Int32), iv (1 : Int32), iv v9, rv b10, iv r21, .unset] [(.int r26)])) (st26) ?_
      refine ow_istore (q := 129) X26 hx (L' := #[iv p0, iv p1, iv p2, iv p3, iv p4, iv (0 : Int32), iv (1 : Int32), iv (1 : Int32), iv v9, rv b10, iv r21, iv r26]) (hb hby at_127) rfl rfl ?_
      refine ow_iload (q := 131) X26 hx (hb hby at_129) rfl rfl ?_
      refine ow_iload (q := 133) X26 hx (hb hby at_131) rfl rfl ?_
      refine ow_icmpNo (q := 136) X26 hx (hb hby at_133) rfl (Jvm.Free.XT.ii_ne_f (by apply Int32.toInt_inj.mp; rw [hp26]; have q : r21.toInt = own_sq (v13 &&& (255 : Int32)).toInt (v15 &&& (255 : Int32)).toInt (v17 &&& (255 : Int32)).toInt (v19 &&& (255 : Int32)).toInt 1 := hp21; rw [q, own_b255 hv_v13, own_b255 hv_v15, own_b255 hv_v17, own_b255 hv_v19, own_m255 hv_v22, own_m255 hv_v23, own_m255 hv_v24, own_m255 hv_v25]; rfl)) ?_
      refine ow_iconst (q := 137) X26 hx (1 : Int32) (hb hby at_136) rfl rfl ?_
      refine ow_goto (q := 141) X26 hx (hb hby at_137) (by decide) (by decide) ?_
      refine ownRetN X26 hx (r := (1 : Int32)) (Or.inl rfl) Bd.returns (hb hby at_141) hlk (by decide) (by decide) (by decide) ?_
      exact ⟨rfl, N26⟩
    · subst hs6
      refine ow_iload (q := 18) X0 hx (hb hby at_16) rfl rfl ?_
      refine ow_iload (q := 20) X0 hx (hb hby at_18) rfl rfl ?_
      refine ow_iadd (q := 21) X0 hx (2 : Int32) (hb hby at_20) rfl (by decide) ?_
      refine ow_istore (q := 23) X0 hx (L' := #[iv p0, iv p1, iv p2, iv p3, iv p4, iv (0 : Int32), iv (2 : Int32), iv (2 : Int32), .unset, .unset, .unset, .unset]) (hb hby at_21) rfl rfl ?_
      refine ow_iload (q := 25) X0 hx (hb hby at_23) rfl rfl ?_
      refine ow_bipush (q := 27) X0 hx (8 : Int32) (hb hby at_25) rfl rfl ?_
      refine ow_iushr (q := 28) X0 hx _ (hb hby at_27) rfl rfl ?_
      refine ow_i2b (q := 29) X0 hx _ (hb hby at_28) rfl rfl ?_
      generalize hv_v27 : (((p4.toUInt32 >>> ((8 : Int32) &&& 31).toUInt32).toInt32).toInt8.toInt32) = v27
      refine ow_istore (q := 31) X0 hx (L' := #[iv p0, iv p1, iv p2, iv p3, iv p4, iv (0 : Int32), iv (2 : Int32), iv (2 : Int32), iv v27, .unset, .unset, .unset]) (hb hby at_29) rfl rfl ?_
      refine ow_iconst (q := 32) X0 hx (5 : Int32) (hb hby at_31) rfl rfl ?_
      obtain ⟨T28, h28, k28, X28, e28, E28, A28, st28⟩ := newP X0 hx hZ (hw _ (List.mem_of_getElem? (i := 0) rfl)) e0 (g := (mkF m 32 #[iv p0, iv p1, iv p2, iv p3, iv p4, iv (0 : Int32), iv (2 : Int32), iv (2 : Int32), iv v27, .unset, .unset, .unset] [(.int (5 : Int32))])) rfl (hb hby at_32) rfl (by decide) (cap := 5) (by decide) (by decide) (by decide) (by decide)
      obtain ⟨b28, g28⟩ : ∃ z, z = h0.size := ⟨_, rfl⟩
      rw [← g28] at A28 st28
      have sz_b28 : h0.size ≤ b28 := Nat.le_trans K0.1 (Nat.le_of_eq g28.symm)
      have G_b28 : n0 ≤ b28 := Nat.le_trans Z0 sz_b28
      have K28 : Keep h0 h28 [] := K0.ext E28
      have F29 : ownAI Z h28 b28 .byte 5 (fun _ => (0 : Int32)) := ownAI.new A28 (by decide) rfl (by decide)
      refine ownGo (T' := T28) (f' := (mkF m 34 #[iv p0, iv p1, iv p2, iv p3, iv p4, iv (0 : Int32), iv (2 : Int32), iv (2 : Int32), iv v27, .unset, .unset, .unset] [(.ref b28)])) (st28) ?_
      refine ow_astore (q := 36) X28 hx (L' := #[iv p0, iv p1, iv p2, iv p3, iv p4, iv (0 : Int32), iv (2 : Int32), iv (2 : Int32), iv v27, rv b28, .unset, .unset]) (hb hby at_34) rfl rfl rfl ?_
      refine ow_iload (q := 38) X28 hx (hb hby at_36) rfl rfl ?_
      refine ow_iconst (q := 39) X28 hx (1 : Int32) (hb hby at_38) rfl rfl ?_
      refine ow_icmpYes (q := 51) X28 hx (hb hby at_39) (Jvm.Free.XT.ii_ne_t (by decide)) (by decide) (by decide) ?_
      refine ow_aload (q := 53) X28 hx (hb hby at_51) rfl rfl rfl ?_
      refine ow_iconst (q := 54) X28 hx (4 : Int32) (hb hby at_53) rfl rfl ?_
      refine ow_iload (q := 56) X28 hx (hb hby at_54) rfl rfl ?_
      obtain ⟨T30, h30, X30, e30, W30, F30s, st30⟩ := ownBastore F29 X28 hx hZ e28 (j := (4 : Int32)) (by unfold ownIn; decide) (g := (mkF m 56 #[iv p0, iv p1, iv p2, iv p3, iv p4, iv (0 : Int32), iv (2 : Int32), iv (2 : Int32), iv v27, rv b28, .unset, .unset] [(.int v27), (.int (4 : Int32)), (.ref b28)])) rfl rfl (hb hby at_56)
      rw [own_narb hv_v27] at F30s
      have F30r : ownAI Z h30 b28 .byte 5 (ownUpd (fun _ => (0 : Int32)) 4 v27) := F30s
      have N30 := Fr.snoc X30 N0 G_b28
      have K30 : Keep h0 h30 [] := K28.wr W30 (Or.inr sz_b28)
      refine ownGo (T' := T30) (f' := (mkF m 57 #[iv p0, iv p1, iv p2, iv p3, iv p4, iv (0 : Int32), iv (2 : Int32), iv (2 : Int32), iv v27, rv b28, .unset, .unset] [])) (st30) ?_
      refine ow_aload (q := 59) X30 hx (hb hby at_57) rfl rfl rfl ?_
      refine ow_iload (q := 61) X30 hx (hb hby at_59) rfl rfl ?_
      refine ow_iloadN (q := 62) X30 hx (hb hby at_61) rfl rfl ?_
      refine ow_i2b (q := 63) X30 hx _ (hb hby at_62) rfl rfl ?_
      generalize hv_v31 : (p0.toInt8.toInt32) = v31
      obtain ⟨T32, h32, X32, e32, W32, F32s, st32⟩ := ownBastore F30r X30 hx hZ e30 (j := (0 : Int32)) (by unfold ownIn; decide) (g := (mkF m 63 #[iv p0, iv p1, iv p2, iv p3, iv p4, iv (0 : Int32), iv (2 : Int32), iv (2 : Int32), iv v27, rv b28, .unset, .unset] [(.int v31), (.int (0 : Int32)), (.ref b28)])) rfl rfl (hb hby at_63)
      rw [own_narb hv_v31] at F32s
      have F32r : ownAI Z h32 b28 .byte 5 (ownUpd (ownUpd (fun _ => (0 : Int32)) 4 v27) 0 v31) := F32s
      have N32 := Fr.snoc X32 N30 G_b28
      have K32 : Keep h0 h32 [] := K30.wr W32 (Or.inr sz_b28)
      refine ownGo (T' := T32) (f' := (mkF m 64 #[iv p0, iv p1, iv p2, iv p3, iv p4, iv (0 : Int32), iv (2 : Int32), iv (2 : Int32), iv v27, rv b28, .unset, .unset] [])) (st32) ?_
      refine ow_aload (q := 66) X32 hx (hb hby at_64) rfl rfl rfl ?_
      refine ow_iload (q := 68) X32 hx (hb hby at_66) rfl rfl ?_
      refine ow_iconst (q := 69) X32 hx (1 : Int32) (hb hby at_68) rfl rfl ?_
      refine ow_iadd (q := 70) X32 hx (1 : Int32) (hb hby at_69) rfl (by decide) ?_
      refine ow_iloadN (q := 71) X32 hx (hb hby at_70) rfl rfl ?_
      refine ow_i2b (q := 72) X32 hx _ (hb hby at_71) rfl rfl ?_
      generalize hv_v33 : (p1.toInt8.toInt32) = v33
      obtain ⟨T34, h34, X34, e34, W34, F34s, st34⟩ := ownBastore F32r X32 hx hZ e32 (j := (1 : Int32)) (by unfold ownIn; decide) (g := (mkF m 72 #[iv p0, iv p1, iv p2, iv p3, iv p4, iv (0 : Int32), iv (2 : Int32), iv (2 : Int32), iv v27, rv b28, .unset, .unset] [(.int v33), (.int (1 : Int32)), (.ref b28)])) rfl rfl (hb hby at_72)
      rw [own_narb hv_v33] at F34s
      have F34r : ownAI Z h34 b28 .byte 5 (ownUpd (ownUpd (ownUpd (fun _ => (0 : Int32)) 4 v27) 0 v31) 1 v33) := F34s
      have N34 := Fr.snoc X34 N32 G_b28
      have K34 : Keep h0 h34 [] := K32.wr W34 (Or.inr sz_b28)
      refine ownGo (T' := T34) (f' := (mkF m 73 #[iv p0, iv p1, iv p2, iv p3, iv p4, iv (0 : Int32), iv (2 : Int32), iv (2 : Int32), iv v27, rv b28, .unset, .unset] [])) (st34) ?_
      refine ow_aload (q := 75) X34 hx (hb hby at_73) rfl rfl rfl ?_
      refine ow_iload (q := 77) X34 hx (hb hby at_75) rfl rfl ?_
      refine ow_iconst (q := 78) X34 hx (2 : Int32) (hb hby at_77) rfl rfl ?_
      refine ow_iadd (q := 79) X34 hx (2 : Int32) (hb hby at_78) rfl (by decide) ?_
      refine ow_iloadN (q := 80) X34 hx (hb hby at_79) rfl rfl ?_
      refine ow_i2b (q := 81) X34 hx _ (hb hby at_80) rfl rfl ?_
      generalize hv_v35 : (p2.toInt8.toInt32) = v35
      obtain ⟨T36, h36, X36, e36, W36, F36s, st36⟩ := ownBastore F34r X34 hx hZ e34 (j := (2 : Int32)) (by unfold ownIn; decide) (g := (mkF m 81 #[iv p0, iv p1, iv p2, iv p3, iv p4, iv (0 : Int32), iv (2 : Int32), iv (2 : Int32), iv v27, rv b28, .unset, .unset] [(.int v35), (.int (2 : Int32)), (.ref b28)])) rfl rfl (hb hby at_81)
      rw [own_narb hv_v35] at F36s
      have F36r : ownAI Z h36 b28 .byte 5 (ownUpd (ownUpd (ownUpd (ownUpd (fun _ => (0 : Int32)) 4 v27) 0 v31) 1 v33) 2 v35) := F36s
      have N36 := Fr.snoc X36 N34 G_b28
      have K36 : Keep h0 h36 [] := K34.wr W36 (Or.inr sz_b28)
      refine ownGo (T' := T36) (f' := (mkF m 82 #[iv p0, iv p1, iv p2, iv p3, iv p4, iv (0 : Int32), iv (2 : Int32), iv (2 : Int32), iv v27, rv b28, .unset, .unset] [])) (st36) ?_
      refine ow_aload (q := 84) X36 hx (hb hby at_82) rfl rfl rfl ?_
      refine ow_iload (q := 86) X36 hx (hb hby at_84) rfl rfl ?_
      refine ow_iconst (q := 87) X36 hx (3 : Int32) (hb hby at_86) rfl rfl ?_
      refine ow_iadd (q := 88) X36 hx (3 : Int32) (hb hby at_87) rfl (by decide) ?_
      refine ow_iloadN (q := 89) X36 hx (hb hby at_88) rfl rfl ?_
      refine ow_i2b (q := 90) X36 hx _ (hb hby at_89) rfl rfl ?_
      generalize hv_v37 : (p3.toInt8.toInt32) = v37
      obtain ⟨T38, h38, X38, e38, W38, F38s, st38⟩ := ownBastore F36r X36 hx hZ e36 (j := (3 : Int32)) (by unfold ownIn; decide) (g := (mkF m 90 #[iv p0, iv p1, iv p2, iv p3, iv p4, iv (0 : Int32), iv (2 : Int32), iv (2 : Int32), iv v27, rv b28, .unset, .unset] [(.int v37), (.int (3 : Int32)), (.ref b28)])) rfl rfl (hb hby at_90)
      rw [own_narb hv_v37] at F38s
      have F38r : ownAI Z h38 b28 .byte 5 (ownUpd (ownUpd (ownUpd (ownUpd (ownUpd (fun _ => (0 : Int32)) 4 v27) 0 v31) 1 v33) 2 v35) 3 v37) := F38s
      have N38 := Fr.snoc X38 N36 G_b28
      have K38 : Keep h0 h38 [] := K36.wr W38 (Or.inr sz_b28)
      refine ownGo (T' := T38) (f' := (mkF m 91 #[iv p0, iv p1, iv p2, iv p3, iv p4, iv (0 : Int32), iv (2 : Int32), iv (2 : Int32), iv v27, rv b28, .unset, .unset] [])) (st38) ?_
      refine ow_aload (q := 93) X38 hx (hb hby at_91) rfl rfl rfl ?_
      refine ow_iload (q := 95) X38 hx (hb hby at_93) rfl rfl ?_
      refine ow_iload (q := 97) X38 hx (hb hby at_95) rfl rfl ?_
      obtain ⟨_, _, ⟨T39, L39, k39, n39⟩, -, X39, ⟨Lc39, hQ39, l39, y39, z39⟩, st39⟩ := Jvm.LawKit.callS X38 hx (y := (⟨"com/example/descend/descend/XmlChars", "sequenceLength", "([BII)I"⟩ : MethodName)) hown (mvT hZ (hw _ (List.mem_of_getElem? (i := 1) rfl))) (mvT hZ (hw _ (List.mem_of_getElem? (i := 2) rfl))) (mvT hZ (hw _ (List.mem_of_getElem? (i := 3) rfl))) (mvT hZ (hw _ (List.mem_of_getElem? (i := 4) rfl))) (by decide) (backOf (W := 0) (rm_seq_0_2 l Z av0 hw [] b28 (ownUpd (ownUpd (ownUpd (ownUpd (ownUpd (fun _ => (0 : Int32)) 4 v27) 0 v31) 1 v33) 2 v35) 3 v37) h38 n0 (Nat.le_trans Z0 K38.1) F38r) hZ (hw _ (List.mem_of_getElem? (i := 4) rfl)) (hw _ (List.mem_of_getElem? (i := 3) rfl)) (by decide) (by decide)) (g := (mkF m 97 #[iv p0, iv p1, iv p2, iv p3, iv p4, iv (0 : Int32), iv (2 : Int32), iv (2 : Int32), iv v27, rv b28, .unset, .unset] [(.int (2 : Int32)), (.int (0 : Int32)), (.ref b28)])) rfl (by rw [hml]; rfl) (argsL := [(.ref b28), (.int (0 : Int32)), (.int (2 : Int32))]) (rest := []) (lenOf own_pd0 rfl) rfl (by show 2 * 0 + _ ≤ _; exact Nat.le_of_eq rfl) (hb hby at_97) (fun _ _ => ⟨rfl, e38, (by decide : 1 + 0 ≤ _), (by decide : 5 + 0 ≤ _)⟩)
      dsimp only [Pt.U, Pt.locs, Pt.cells, Pt.slots] at X39 l39 y39 z39 st39 hQ39
      subst l39 y39 z39
      obtain ⟨r39, rfl, N39q, e39, hp39⟩ := hQ39
      have N39 := Fr.app N38 N39q
      refine ownGo (T' := T39) (f' := (mkF m 100 #[iv p0, iv p1, iv p2, iv p3, iv p4, iv (0 : Int32), iv (2 : Int32), iv (2 : Int32), iv v27, rv b28, .unset, .unset] [(.int r39)])) (st39) ?_
      refine ow_istore (q := 102) X39 hx (L' := #[iv p0, iv p1, iv p2, iv p3, iv p4, iv (0 : Int32), iv (2 : Int32), iv (2 : Int32), iv v27, rv b28, iv r39, .unset]) (hb hby at_100) rfl rfl ?_
      refine ow_iloadN (q := 103) X39 hx (hb hby at_102) rfl rfl ?_
      refine ow_sipush (q := 106) X39 hx (255 : Int32) (hb hby at_103) rfl rfl ?_
      refine ow_iand (q := 107) X39 hx _ (hb hby at_106) rfl rfl ?_
      refine ow_iloadN (q := 108) X39 hx (hb hby at_107) rfl rfl ?_
      refine ow_sipush (q := 111) X39 hx (255 : Int32) (hb hby at_108) rfl rfl ?_
      refine ow_iand (q := 112) X39 hx _ (hb hby at_111) rfl rfl ?_
      refine ow_iloadN (q := 113) X39 hx (hb hby at_112) rfl rfl ?_
      refine ow_sipush (q := 116) X39 hx (255 : Int32) (hb hby at_113) rfl rfl ?_
      refine ow_iand (q := 117) X39 hx _ (hb hby at_116) rfl rfl ?_
      refine ow_iloadN (q := 118) X39 hx (hb hby at_117) rfl rfl ?_
      refine ow_sipush (q := 121) X39 hx (255 : Int32) (hb hby at_118) rfl rfl ?_
      refine ow_iand (q := 122) X39 hx _ (hb hby at_121) rfl rfl ?_
      refine ow_iload (q := 124) X39 hx (hb hby at_122) rfl rfl ?_
      generalize hv_v40 : (p3 &&& (255 : Int32)) = v40
      generalize hv_v41 : (p2 &&& (255 : Int32)) = v41
      generalize hv_v42 : (p1 &&& (255 : Int32)) = v42
      generalize hv_v43 : (p0 &&& (255 : Int32)) = v43
      obtain ⟨_, _, ⟨T44, L44, k44, n44⟩, -, X44, ⟨Lc44, hQ44, l44, y44, z44⟩, st44⟩ := Jvm.LawKit.callS X39 hx (y := (⟨"com/example/descend/descend/XmlCharsSequenceLengthPinLaw", "expected", "(IIIII)I"⟩ : MethodName)) hown (mvT hZ (hw _ (List.mem_of_getElem? (i := 5) rfl))) (mvT hZ (hw _ (List.mem_of_getElem? (i := 6) rfl))) (mvT hZ (hw _ (List.mem_of_getElem? (i := 7) rfl))) (mvT hZ (hw _ (List.mem_of_getElem? (i := 8) rfl))) (by decide) (backOf (W := 0) (rm_expected l Z av0 hw [] v43 v42 v41 v40 (2 : Int32) h38 n0 (Nat.le_trans Z0 K38.1) (own_r255 hv_v43) (own_r255 hv_v42) (own_r255 hv_v41) (own_r255 hv_v40) (by decide)) hZ (hw _ (List.mem_of_getElem? (i := 8) rfl)) (hw _ (List.mem_of_getElem? (i := 7) rfl)) (by decide) (by decide)) (g := (mkF m 124 #[iv p0, iv p1, iv p2, iv p3, iv p4, iv (0 : Int32), iv (2 : Int32), iv (2 : Int32), iv v27, rv b28, iv r39, .unset] [(.int (2 : Int32)), (.int v40), (.int v41), (.int v42), (.int v43)])) rfl (by rw [hml]; rfl) (argsL := [(.int v43), (.int v42), (.int v41), (.int v40), (.int (2 : Int32))]) (rest := []) (lenOf own_pd1 rfl) rfl (by show 2 * 0 + _ ≤ _; exact Nat.le_of_eq rfl) (hb hby at_124) (fun _ _ => ⟨rfl, e39, (by decide : 1 + 0 ≤ _), (by decide : 5 + 0 ≤ _)⟩)
      dsimp only [Pt.U, Pt.locs, Pt.cells, Pt.slots] at X44 l44 y44 z44 st44 hQ44
      subst l44 y44 z44
      obtain ⟨r44, rfl, N44q, e44, hp44⟩ := hQ44
      have N44 := Fr.app N39 N44q
      refine ownGo (T' := T44) (f' := (mkF m 127 #[iv p0, iv p1, iv p2, iv p3, iv p4, iv (0 : Int32), iv (2 : Int32), iv (2 : Int32), iv v27, rv b28, iv r39, .unset] [(.int r44)])) (st44) ?_
      refine ow_istore (q := 129) X44 hx (L' := #[iv p0, iv p1, iv p2, iv p3, iv p4, iv (0 : Int32), iv (2 : Int32), iv (2 : Int32), iv v27, rv b28, iv r39, iv r44]) (hb hby at_127) rfl rfl ?_
      refine ow_iload (q := 131) X44 hx (hb hby at_129) rfl rfl ?_
      refine ow_iload (q := 133) X44 hx (hb hby at_131) rfl rfl ?_
      refine ow_icmpNo (q := 136) X44 hx (hb hby at_133) rfl (Jvm.Free.XT.ii_ne_f (by apply Int32.toInt_inj.mp; rw [hp44]; have q : r39.toInt = own_sq (v31 &&& (255 : Int32)).toInt (v33 &&& (255 : Int32)).toInt (v35 &&& (255 : Int32)).toInt (v37 &&& (255 : Int32)).toInt 2 := hp39; rw [q, own_b255 hv_v31, own_b255 hv_v33, own_b255 hv_v35, own_b255 hv_v37, own_m255 hv_v40, own_m255 hv_v41, own_m255 hv_v42, own_m255 hv_v43]; rfl)) ?_
      refine ow_iconst (q := 137) X44 hx (1 : Int32) (hb hby at_136) rfl rfl ?_
      refine ow_goto (q := 141) X44 hx (hb hby at_137) (by decide) (by decide) ?_
      refine ownRetN X44 hx (r := (1 : Int32)) (Or.inl rfl) Bd.returns (hb hby at_141) hlk (by decide) (by decide) (by decide) ?_
      exact ⟨rfl, N44⟩
    · subst hs7
      refine ow_iload (q := 18) X0 hx (hb hby at_16) rfl rfl ?_
      refine ow_iload (q := 20) X0 hx (hb hby at_18) rfl rfl ?_
      refine ow_iadd (q := 21) X0 hx (3 : Int32) (hb hby at_20) rfl (by decide) ?_
      refine ow_istore (q := 23) X0 hx (L' := #[iv p0, iv p1, iv p2, iv p3, iv p4, iv (0 : Int32), iv (3 : Int32), iv (3 : Int32), .unset, .unset, .unset, .unset]) (hb hby at_21) rfl rfl ?_
      refine ow_iload (q := 25) X0 hx (hb hby at_23) rfl rfl ?_
      refine ow_bipush (q := 27) X0 hx (8 : Int32) (hb hby at_25) rfl rfl ?_
      refine ow_iushr (q := 28) X0 hx _ (hb hby at_27) rfl rfl ?_
      refine ow_i2b (q := 29) X0 hx _ (hb hby at_28) rfl rfl ?_
      generalize hv_v45 : (((p4.toUInt32 >>> ((8 : Int32) &&& 31).toUInt32).toInt32).toInt8.toInt32) = v45
      refine ow_istore (q := 31) X0 hx (L' := #[iv p0, iv p1, iv p2, iv p3, iv p4, iv (0 : Int32), iv (3 : Int32), iv (3 : Int32), iv v45, .unset, .unset, .unset]) (hb hby at_29) rfl rfl ?_
      refine ow_iconst (q := 32) X0 hx (5 : Int32) (hb hby at_31) rfl rfl ?_
      obtain ⟨T46, h46, k46, X46, e46, E46, A46, st46⟩ := newP X0 hx hZ (hw _ (List.mem_of_getElem? (i := 0) rfl)) e0 (g := (mkF m 32 #[iv p0, iv p1, iv p2, iv p3, iv p4, iv (0 : Int32), iv (3 : Int32), iv (3 : Int32), iv v45, .unset, .unset, .unset] [(.int (5 : Int32))])) rfl (hb hby at_32) rfl (by decide) (cap := 5) (by decide) (by decide) (by decide) (by decide)
      obtain ⟨b46, g46⟩ : ∃ z, z = h0.size := ⟨_, rfl⟩
      rw [← g46] at A46 st46
      have sz_b46 : h0.size ≤ b46 := Nat.le_trans K0.1 (Nat.le_of_eq g46.symm)
      have G_b46 : n0 ≤ b46 := Nat.le_trans Z0 sz_b46
      have K46 : Keep h0 h46 [] := K0.ext E46
      have F47 : ownAI Z h46 b46 .byte 5 (fun _ => (0 : Int32)) := ownAI.new A46 (by decide) rfl (by decide)
      refine ownGo (T' := T46) (f' := (mkF m 34 #[iv p0, iv p1, iv p2, iv p3, iv p4, iv (0 : Int32), iv (3 : Int32), iv (3 : Int32), iv v45, .unset, .unset, .unset] [(.ref b46)])) (st46) ?_
      refine ow_astore (q := 36) X46 hx (L' := #[iv p0, iv p1, iv p2, iv p3, iv p4, iv (0 : Int32), iv (3 : Int32), iv (3 : Int32), iv v45, rv b46, .unset, .unset]) (hb hby at_34) rfl rfl rfl ?_
      refine ow_iload (q := 38) X46 hx (hb hby at_36) rfl rfl ?_
      refine ow_iconst (q := 39) X46 hx (1 : Int32) (hb hby at_38) rfl rfl ?_
      refine ow_icmpYes (q := 51) X46 hx (hb hby at_39) (Jvm.Free.XT.ii_ne_t (by decide)) (by decide) (by decide) ?_
      refine ow_aload (q := 53) X46 hx (hb hby at_51) rfl rfl rfl ?_
      refine ow_iconst (q := 54) X46 hx (4 : Int32) (hb hby at_53) rfl rfl ?_
      refine ow_iload (q := 56) X46 hx (hb hby at_54) rfl rfl ?_
      obtain ⟨T48, h48, X48, e48, W48, F48s, st48⟩ := ownBastore F47 X46 hx hZ e46 (j := (4 : Int32)) (by unfold ownIn; decide) (g := (mkF m 56 #[iv p0, iv p1, iv p2, iv p3, iv p4, iv (0 : Int32), iv (3 : Int32), iv (3 : Int32), iv v45, rv b46, .unset, .unset] [(.int v45), (.int (4 : Int32)), (.ref b46)])) rfl rfl (hb hby at_56)
      rw [own_narb hv_v45] at F48s
      have F48r : ownAI Z h48 b46 .byte 5 (ownUpd (fun _ => (0 : Int32)) 4 v45) := F48s
      have N48 := Fr.snoc X48 N0 G_b46
      have K48 : Keep h0 h48 [] := K46.wr W48 (Or.inr sz_b46)
      refine ownGo (T' := T48) (f' := (mkF m 57 #[iv p0, iv p1, iv p2, iv p3, iv p4, iv (0 : Int32), iv (3 : Int32), iv (3 : Int32), iv v45, rv b46, .unset, .unset] [])) (st48) ?_
      refine ow_aload (q := 59) X48 hx (hb hby at_57) rfl rfl rfl ?_
      refine ow_iload (q := 61) X48 hx (hb hby at_59) rfl rfl ?_
      refine ow_iloadN (q := 62) X48 hx (hb hby at_61) rfl rfl ?_
      refine ow_i2b (q := 63) X48 hx _ (hb hby at_62) rfl rfl ?_
      generalize hv_v49 : (p0.toInt8.toInt32) = v49
      obtain ⟨T50, h50, X50, e50, W50, F50s, st50⟩ := ownBastore F48r X48 hx hZ e48 (j := (0 : Int32)) (by unfold ownIn; decide) (g := (mkF m 63 #[iv p0, iv p1, iv p2, iv p3, iv p4, iv (0 : Int32), iv (3 : Int32), iv (3 : Int32), iv v45, rv b46, .unset, .unset] [(.int v49), (.int (0 : Int32)), (.ref b46)])) rfl rfl (hb hby at_63)
      rw [own_narb hv_v49] at F50s
      have F50r : ownAI Z h50 b46 .byte 5 (ownUpd (ownUpd (fun _ => (0 : Int32)) 4 v45) 0 v49) := F50s
      have N50 := Fr.snoc X50 N48 G_b46
      have K50 : Keep h0 h50 [] := K48.wr W50 (Or.inr sz_b46)
      refine ownGo (T' := T50) (f' := (mkF m 64 #[iv p0, iv p1, iv p2, iv p3, iv p4, iv (0 : Int32), iv (3 : Int32), iv (3 : Int32), iv v45, rv b46, .unset, .unset] [])) (st50) ?_
      refine ow_aload (q := 66) X50 hx (hb hby at_64) rfl rfl rfl ?_
      refine ow_iload (q := 68) X50 hx (hb hby at_66) rfl rfl ?_
      refine ow_iconst (q := 69) X50 hx (1 : Int32) (hb hby at_68) rfl rfl ?_
      refine ow_iadd (q := 70) X50 hx (1 : Int32) (hb hby at_69) rfl (by decide) ?_
      refine ow_iloadN (q := 71) X50 hx (hb hby at_70) rfl rfl ?_
      refine ow_i2b (q := 72) X50 hx _ (hb hby at_71) rfl rfl ?_
      generalize hv_v51 : (p1.toInt8.toInt32) = v51
      obtain ⟨T52, h52, X52, e52, W52, F52s, st52⟩ := ownBastore F50r X50 hx hZ e50 (j := (1 : Int32)) (by unfold ownIn; decide) (g := (mkF m 72 #[iv p0, iv p1, iv p2, iv p3, iv p4, iv (0 : Int32), iv (3 : Int32), iv (3 : Int32), iv v45, rv b46, .unset, .unset] [(.int v51), (.int (1 : Int32)), (.ref b46)])) rfl rfl (hb hby at_72)
      rw [own_narb hv_v51] at F52s
      have F52r : ownAI Z h52 b46 .byte 5 (ownUpd (ownUpd (ownUpd (fun _ => (0 : Int32)) 4 v45) 0 v49) 1 v51) := F52s
      have N52 := Fr.snoc X52 N50 G_b46
      have K52 : Keep h0 h52 [] := K50.wr W52 (Or.inr sz_b46)
      refine ownGo (T' := T52) (f' := (mkF m 73 #[iv p0, iv p1, iv p2, iv p3, iv p4, iv (0 : Int32), iv (3 : Int32), iv (3 : Int32), iv v45, rv b46, .unset, .unset] [])) (st52) ?_
      refine ow_aload (q := 75) X52 hx (hb hby at_73) rfl rfl rfl ?_
      refine ow_iload (q := 77) X52 hx (hb hby at_75) rfl rfl ?_
      refine ow_iconst (q := 78) X52 hx (2 : Int32) (hb hby at_77) rfl rfl ?_
      refine ow_iadd (q := 79) X52 hx (2 : Int32) (hb hby at_78) rfl (by decide) ?_
      refine ow_iloadN (q := 80) X52 hx (hb hby at_79) rfl rfl ?_
      refine ow_i2b (q := 81) X52 hx _ (hb hby at_80) rfl rfl ?_
      generalize hv_v53 : (p2.toInt8.toInt32) = v53
      obtain ⟨T54, h54, X54, e54, W54, F54s, st54⟩ := ownBastore F52r X52 hx hZ e52 (j := (2 : Int32)) (by unfold ownIn; decide) (g := (mkF m 81 #[iv p0, iv p1, iv p2, iv p3, iv p4, iv (0 : Int32), iv (3 : Int32), iv (3 : Int32), iv v45, rv b46, .unset, .unset] [(.int v53), (.int (2 : Int32)), (.ref b46)])) rfl rfl (hb hby at_81)
      rw [own_narb hv_v53] at F54s
      have F54r : ownAI Z h54 b46 .byte 5 (ownUpd (ownUpd (ownUpd (ownUpd (fun _ => (0 : Int32)) 4 v45) 0 v49) 1 v51) 2 v53) := F54s
      have N54 := Fr.snoc X54 N52 G_b46
      have K54 : Keep h0 h54 [] := K52.wr W54 (Or.inr sz_b46)
      refine ownGo (T' := T54) (f' := (mkF m 82 #[iv p0, iv p1, iv p2, iv p3, iv p4, iv (0 : Int32), iv (3 : Int32), iv (3 : Int32), iv v45, rv b46, .unset, .unset] [])) (st54) ?_
      refine ow_aload (q := 84) X54 hx (hb hby at_82) rfl rfl rfl ?_
      refine ow_iload (q := 86) X54 hx (hb hby at_84) rfl rfl ?_
      refine ow_iconst (q := 87) X54 hx (3 : Int32) (hb hby at_86) rfl rfl ?_
      refine ow_iadd (q := 88) X54 hx (3 : Int32) (hb hby at_87) rfl (by decide) ?_
      refine ow_iloadN (q := 89) X54 hx (hb hby at_88) rfl rfl ?_
      refine ow_i2b (q := 90) X54 hx _ (hb hby at_89) rfl rfl ?_
      generalize hv_v55 : (p3.toInt8.toInt32) = v55
      obtain ⟨T56, h56, X56, e56, W56, F56s, st56⟩ := ownBastore F54r X54 hx hZ e54 (j := (3 : Int32)) (by unfold ownIn; decide) (g := (mkF m 90 #[iv p0, iv p1, iv p2, iv p3, iv p4, iv (0 : Int32), iv (3 : Int32), iv (3 : Int32), iv v45, rv b46, .unset, .unset] [(.int v55), (.int (3 : Int32)), (.ref b46)])) rfl rfl (hb hby at_90)
      rw [own_narb hv_v55] at F56s
      have F56r : ownAI Z h56 b46 .byte 5 (ownUpd (ownUpd (ownUpd (ownUpd (ownUpd (fun _ => (0 : Int32)) 4 v45) 0 v49) 1 v51) 2 v53) 3 v55) := F56s
      have N56 := Fr.snoc X56 N54 G_b46
      have K56 : Keep h0 h56 [] := K54.wr W56 (Or.inr sz_b46)
      refine ownGo (T' := T56) (f' := (mkF m 91 #[iv p0, iv p1, iv p2, iv p3, iv p4, iv (0 : Int32), iv (3 : Int32), iv (3 : Int32), iv v45, rv b46, .unset, .unset] [])) (st56) ?_
      refine ow_aload (q := 93) X56 hx (hb hby at_91) rfl rfl rfl ?_
      refine ow_iload (q := 95) X56 hx (hb hby at_93) rfl rfl ?_
      refine ow_iload (q := 97) X56 hx (hb hby at_95) rfl rfl ?_
      obtain ⟨_, _, ⟨T57, L57, k57, n57⟩, -, X57, ⟨Lc57, hQ57, l57, y57, z57⟩, st57⟩ := Jvm.LawKit.callS X56 hx (y := (⟨"com/example/descend/descend/XmlChars", "sequenceLength", "([BII)I"⟩ : MethodName)) hown (mvT hZ (hw _ (List.mem_of_getElem? (i := 1) rfl))) (mvT hZ (hw _ (List.mem_of_getElem? (i := 2) rfl))) (mvT hZ (hw _ (List.mem_of_getElem? (i := 3) rfl))) (mvT hZ (hw _ (List.mem_of_getElem? (i := 4) rfl))) (by decide) (backOf (W := 0) (rm_seq_0_3 l Z av0 hw [] b46 (ownUpd (ownUpd (ownUpd (ownUpd (ownUpd (fun _ => (0 : Int32)) 4 v45) 0 v49) 1 v51) 2 v53) 3 v55) h56 n0 (Nat.le_trans Z0 K56.1) F56r) hZ (hw _ (List.mem_of_getElem? (i := 4) rfl)) (hw _ (List.mem_of_getElem? (i := 3) rfl)) (by decide) (by decide)) (g := (mkF m 97 #[iv p0, iv p1, iv p2, iv p3, iv p4, iv (0 : Int32), iv (3 : Int32), iv (3 : Int32), iv v45, rv b46, .unset, .unset] [(.int (3 : Int32)), (.int (0 : Int32)), (.ref b46)])) rfl (by rw [hml]; rfl) (argsL := [(.ref b46), (.int (0 : Int32)), (.int (3 : Int32))]) (rest := []) (lenOf own_pd0 rfl) rfl (by show 2 * 0 + _ ≤ _; exact Nat.le_of_eq rfl) (hb hby at_97) (fun _ _ => ⟨rfl, e56, (by decide : 1 + 0 ≤ _), (by decide : 5 + 0 ≤ _)⟩)
      dsimp only [Pt.U, Pt.locs, Pt.cells, Pt.slots] at X57 l57 y57 z57 st57 hQ57
      subst l57 y57 z57
      obtain ⟨r57, rfl, N57q, e57, hp57⟩ := hQ57
      have N57 := Fr.app N56 N57q
      refine ownGo (T' := T57) (f' := (mkF m 100 #[iv p0, iv p1, iv p2, iv p3, iv p4, iv (0 : Int32), iv (3 : Int32), iv (3 : Int32), iv v45, rv b46, .unset, .unset] [(.int r57)])) (st57) ?_
      refine ow_istore (q := 102) X57 hx (L' := #[iv p0, iv p1, iv p2, iv p3, iv p4, iv (0 : Int32), iv (3 : Int32), iv (3 : Int32), iv v45, rv b46, iv r57, .unset]) (hb hby at_100) rfl rfl ?_
      refine ow_iloadN (q := 103) X57 hx (hb hby at_102) rfl rfl ?_
      refine ow_sipush (q := 106) X57 hx (255 : Int32) (hb hby at_103) rfl rfl ?_
      refine ow_iand (q := 107) X57 hx _ (hb hby at_106) rfl rfl ?_
      refine ow_iloadN (q := 108) X57 hx (hb hby at_107) rfl rfl ?_
      refine ow_sipush (q := 111) X57 hx (255 : Int32) (hb hby at_108) rfl rfl ?_
      refine ow_iand (q := 112) X57 hx _ (hb hby at_111) rfl rfl ?_
      refine ow_iloadN (q := 113) X57 hx (hb hby at_112) rfl rfl ?_
      refine ow_sipush (q := 116) X57 hx (255 : Int32) (hb hby at_113) rfl rfl ?_
      refine ow_iand (q := 117) X57 hx _ (hb hby at_116) rfl rfl ?_
      refine ow_iloadN (q := 118) X57 hx (hb hby at_117) rfl rfl ?_
      refine ow_sipush (q := 121) X57 hx (255 : Int32) (hb hby at_118) rfl rfl ?_
      refine ow_iand (q := 122) X57 hx _ (hb hby at_121) rfl rfl ?_
      refine ow_iload (q := 124) X57 hx (hb hby at_122) rfl rfl ?_
      generalize hv_v58 : (p3 &&& (255 : Int32)) = v58
      generalize hv_v59 : (p2 &&& (255 : Int32)) = v59
      generalize hv_v60 : (p1 &&& (255 : Int32)) = v60
      generalize hv_v61 : (p0 &&& (255 : Int32)) = v61
      obtain ⟨_, _, ⟨T62, L62, k62, n62⟩, -, X62, ⟨Lc62, hQ62, l62, y62, z62⟩, st62⟩ := Jvm.LawKit.callS X57 hx (y := (⟨"com/example/descend/descend/XmlCharsSequenceLengthPinLaw", "expected", "(IIIII)I"⟩ : MethodName)) hown (mvT hZ (hw _ (List.mem_of_getElem? (i := 5) rfl))) (mvT hZ (hw _ (List.mem_of_getElem? (i := 6) rfl))) (mvT hZ (hw _ (List.mem_of_getElem? (i := 7) rfl))) (mvT hZ (hw _ (List.mem_of_getElem? (i := 8) rfl))) (by decide) (backOf (W := 0) (rm_expected l Z av0 hw [] v61 v60 v59 v58 (3 : Int32) h56 n0 (Nat.le_trans Z0 K56.1) (own_r255 hv_v61) (own_r255 hv_v60) (own_r255 hv_v59) (own_r255 hv_v58) (by decide)) hZ (hw _ (List.mem_of_getElem? (i := 8) rfl)) (hw _ (List.mem_of_getElem? (i := 7) rfl)) (by decide) (by decide)) (g := (mkF m 124 #[iv p0, iv p1, iv p2, iv p3, iv p4, iv (0 : Int32), iv (3 : Int32), iv (3 : Int32), iv v45, rv b46, iv r57, .unset] [(.int (3 : Int32)), (.int v58), (.int v59), (.int v60), (.int v61)])) rfl (by rw [hml]; rfl) (argsL := [(.int v61), (.int v60), (.int v59), (.int v58), (.int (3 : Int32))]) (rest := []) (lenOf own_pd1 rfl) rfl (by show 2 * 0 + _ ≤ _; exact Nat.le_of_eq rfl) (hb hby at_124) (fun _ _ => ⟨rfl, e57, (by decide : 1 + 0 ≤ _), (by decide : 5 + 0 ≤ _)⟩)
      dsimp only [Pt.U, Pt.locs, Pt.cells, Pt.slots] at X62 l62 y62 z62 st62 hQ62
      subst l62 y62 z62
      obtain ⟨r62, rfl, N62q, e62, hp62⟩ := hQ62
      have N62 := Fr.app N57 N62q
      refine ownGo (T' := T62) (f' := (mkF m 127 #[iv p0, iv p1, iv p2, iv p3, iv p4, iv (0 : Int32), iv (3 : Int32), iv (3 : Int32), iv v45, rv b46, iv r57, .unset] [(.int r62)])) (st62) ?_
      refine ow_istore (q := 129) X62 hx (L' := #[iv p0, iv p1, iv p2, iv p3, iv p4, iv (0 : Int32), iv (3 : Int32), iv (3 : Int32), iv v45, rv b46, iv r57, iv r62]) (hb hby at_127) rfl rfl ?_
      refine ow_iload (q := 131) X62 hx (hb hby at_129) rfl rfl ?_
      refine ow_iload (q := 133) X62 hx (hb hby at_131) rfl rfl ?_
      refine ow_icmpNo (q := 136) X62 hx (hb hby at_133) rfl (Jvm.Free.XT.ii_ne_f (by apply Int32.toInt_inj.mp; rw [hp62]; have q : r57.toInt = own_sq (v49 &&& (255 : Int32)).toInt (v51 &&& (255 : Int32)).toInt (v53 &&& (255 : Int32)).toInt (v55 &&& (255 : Int32)).toInt 3 := hp57; rw [q, own_b255 hv_v49, own_b255 hv_v51, own_b255 hv_v53, own_b255 hv_v55, own_m255 hv_v58, own_m255 hv_v59, own_m255 hv_v60, own_m255 hv_v61]; rfl)) ?_
      refine ow_iconst (q := 137) X62 hx (1 : Int32) (hb hby at_136) rfl rfl ?_
      refine ow_goto (q := 141) X62 hx (hb hby at_137) (by decide) (by decide) ?_
      refine ownRetN X62 hx (r := (1 : Int32)) (Or.inl rfl) Bd.returns (hb hby at_141) hlk (by decide) (by decide) (by decide) ?_
      exact ⟨rfl, N62⟩
    · subst hs8
      refine ow_iload (q := 18) X0 hx (hb hby at_16) rfl rfl ?_
      refine ow_iload (q := 20) X0 hx (hb hby at_18) rfl rfl ?_
      refine ow_iadd (q := 21) X0 hx (4 : Int32) (hb hby at_20) rfl (by decide) ?_
      refine ow_istore (q := 23) X0 hx (L' := #[iv p0, iv p1, iv p2, iv p3, iv p4, iv (0 : Int32), iv (4 : Int32), iv (4 : Int32), .unset, .unset, .unset, .unset]) (hb hby at_21) rfl rfl ?_
      refine ow_iload (q := 25) X0 hx (hb hby at_23) rfl rfl ?_
      refine ow_bipush (q := 27) X0 hx (8 : Int32) (hb hby at_25) rfl rfl ?_
      refine ow_iushr (q := 28) X0 hx _ (hb hby at_27) rfl rfl ?_
      refine ow_i2b (q := 29) X0 hx _ (hb hby at_28) rfl rfl ?_
      generalize hv_v63 : (((p4.toUInt32 >>> ((8 : Int32) &&& 31).toUInt32).toInt32).toInt8.toInt32) = v63
      refine ow_istore (q := 31) X0 hx (L' := #[iv p0, iv p1, iv p2, iv p3, iv p4, iv (0 : Int32), iv (4 : Int32), iv (4 : Int32), iv v63, .unset, .unset, .unset]) (hb hby at_29) rfl rfl ?_
      refine ow_iconst (q := 32) X0 hx (5 : Int32) (hb hby at_31) rfl rfl ?_
      obtain ⟨T64, h64, k64, X64, e64, E64, A64, st64⟩ := newP X0 hx hZ (hw _ (List.mem_of_getElem? (i := 0) rfl)) e0 (g := (mkF m 32 #[iv p0, iv p1, iv p2, iv p3, iv p4, iv (0 : Int32), iv (4 : Int32), iv (4 : Int32), iv v63, .unset, .unset, .unset] [(.int (5 : Int32))])) rfl (hb hby at_32) rfl (by decide) (cap := 5) (by decide) (by decide) (by decide) (by decide)
      obtain ⟨b64, g64⟩ : ∃ z, z = h0.size := ⟨_, rfl⟩
      rw [← g64] at A64 st64
      have sz_b64 : h0.size ≤ b64 := Nat.le_trans K0.1 (Nat.le_of_eq g64.symm)
      have G_b64 : n0 ≤ b64 := Nat.le_trans Z0 sz_b64
      have K64 : Keep h0 h64 [] := K0.ext E64
      have F65 : ownAI Z h64 b64 .byte 5 (fun _ => (0 : Int32)) := ownAI.new A64 (by decide) rfl (by decide)
      refine ownGo (T' := T64) (f' := (mkF m 34 #[iv p0, iv p1, iv p2, iv p3, iv p4, iv (0 : Int32), iv (4 : Int32), iv (4 : Int32), iv v63, .unset, .unset, .unset] [(.ref b64)])) (st64) ?_
      refine ow_astore (q := 36) X64 hx (L' := #[iv p0, iv p1, iv p2, iv p3, iv p4, iv (0 : Int32), iv (4 : Int32), iv (4 : Int32), iv v63, rv b64, .unset, .unset]) (hb hby at_34) rfl rfl rfl ?_
      refine ow_iload (q := 38) X64 hx (hb hby at_36) rfl rfl ?_
      refine ow_iconst (q := 39) X64 hx (1 : Int32) (hb hby at_38) rfl rfl ?_
      refine ow_icmpYes (q := 51) X64 hx (hb hby at_39) (Jvm.Free.XT.ii_ne_t (by decide)) (by decide) (by decide) ?_
      refine ow_aload (q := 53) X64 hx (hb hby at_51) rfl rfl rfl ?_
      refine ow_iconst (q := 54) X64 hx (4 : Int32) (hb hby at_53) rfl rfl ?_
      refine ow_iload (q := 56) X64 hx (hb hby at_54) rfl rfl ?_
      obtain ⟨T66, h66, X66, e66, W66, F66s, st66⟩ := ownBastore F65 X64 hx hZ e64 (j := (4 : Int32)) (by unfold ownIn; decide) (g := (mkF m 56 #[iv p0, iv p1, iv p2, iv p3, iv p4, iv (0 : Int32), iv (4 : Int32), iv (4 : Int32), iv v63, rv b64, .unset, .unset] [(.int v63), (.int (4 : Int32)), (.ref b64)])) rfl rfl (hb hby at_56)
      rw [own_narb hv_v63] at F66s
      have F66r : ownAI Z h66 b64 .byte 5 (ownUpd (fun _ => (0 : Int32)) 4 v63) := F66s
      have N66 := Fr.snoc X66 N0 G_b64
      have K66 : Keep h0 h66 [] := K64.wr W66 (Or.inr sz_b64)
      refine ownGo (T' := T66) (f' := (mkF m 57 #[iv p0, iv p1, iv p2, iv p3, iv p4, iv (0 : Int32), iv (4 : Int32), iv (4 : Int32), iv v63, rv b64, .unset, .unset] [])) (st66) ?_
      refine ow_aload (q := 59) X66 hx (hb hby at_57) rfl rfl rfl ?_
      refine ow_iload (q := 61) X66 hx (hb hby at_59) rfl rfl ?_
      refine ow_iloadN (q := 62) X66 hx (hb hby at_61) rfl rfl ?_
      refine ow_i2b (q := 63) X66 hx _ (hb hby at_62) rfl rfl ?_
      generalize hv_v67 : (p0.toInt8.toInt32) = v67
      obtain ⟨T68, h68, X68, e68, W68, F68s, st68⟩ := ownBastore F66r X66 hx hZ e66 (j := (0 : Int32)) (by unfold ownIn; decide) (g := (mkF m 63 #[iv p0, iv p1, iv p2, iv p3, iv p4, iv (0 : Int32), iv (4 : Int32), iv (4 : Int32), iv v63, rv b64, .unset, .unset] [(.int v67), (.int (0 : Int32)), (.ref b64)])) rfl rfl (hb hby at_63)
      rw [own_narb hv_v67] at F68s
      have F68r : ownAI Z h68 b64 .byte 5 (ownUpd (ownUpd (fun _ => (0 : Int32)) 4 v63) 0 v67) := F68s
      have N68 := Fr.snoc X68 N66 G_b64
      have K68 : Keep h0 h68 [] := K66.wr W68 (Or.inr sz_b64)
      refine ownGo (T' := T68) (f' := (mkF m 64 #[iv p0, iv p1, iv p2, iv p3, iv p4, iv (0 : Int32), iv (4 : Int32), iv (4 : Int32), iv v63, rv b64, .unset, .unset] [])) (st68) ?_
      refine ow_aload (q := 66) X68 hx (hb hby at_64) rfl rfl rfl ?_
      refine ow_iload (q := 68) X68 hx (hb hby at_66) rfl rfl ?_
      refine ow_iconst (q := 69) X68 hx (1 : Int32) (hb hby at_68) rfl rfl ?_
      refine ow_iadd (q := 70) X68 hx (1 : Int32) (hb hby at_69) rfl (by decide) ?_
      refine ow_iloadN (q := 71) X68 hx (hb hby at_70) rfl rfl ?_
      refine ow_i2b (q := 72) X68 hx _ (hb hby at_71) rfl rfl ?_
      generalize hv_v69 : (p1.toInt8.toInt32) = v69
      obtain ⟨T70, h70, X70, e70, W70, F70s, st70⟩ := ownBastore F68r X68 hx hZ e68 (j := (1 : Int32)) (by unfold ownIn; decide) (g := (mkF m 72 #[iv p0, iv p1, iv p2, iv p3, iv p4, iv (0 : Int32), iv (4 : Int32), iv (4 : Int32), iv v63, rv b64, .unset, .unset] [(.int v69), (.int (1 : Int32)), (.ref b64)])) rfl rfl (hb hby at_72)
      rw [own_narb hv_v69] at F70s
      have F70r : ownAI Z h70 b64 .byte 5 (ownUpd (ownUpd (ownUpd (fun _ => (0 : Int32)) 4 v63) 0 v67) 1 v69) := F70s
      have N70 := Fr.snoc X70 N68 G_b64
      have K70 : Keep h0 h70 [] := K68.wr W70 (Or.inr sz_b64)
      refine ownGo (T' := T70) (f' := (mkF m 73 #[iv p0, iv p1, iv p2, iv p3, iv p4, iv (0 : Int32), iv (4 : Int32), iv (4 : Int32), iv v63, rv b64, .unset, .unset] [])) (st70) ?_
      refine ow_aload (q := 75) X70 hx (hb hby at_73) rfl rfl rfl ?_
      refine ow_iload (q := 77) X70 hx (hb hby at_75) rfl rfl ?_
      refine ow_iconst (q := 78) X70 hx (2 : Int32) (hb hby at_77) rfl rfl ?_
      refine ow_iadd (q := 79) X70 hx (2 : Int32) (hb hby at_78) rfl (by decide) ?_
      refine ow_iloadN (q := 80) X70 hx (hb hby at_79) rfl rfl ?_
      refine ow_i2b (q := 81) X70 hx _ (hb hby at_80) rfl rfl ?_
      generalize hv_v71 : (p2.toInt8.toInt32) = v71
      obtain ⟨T72, h72, X72, e72, W72, F72s, st72⟩ := ownBastore F70r X70 hx hZ e70 (j := (2 : Int32)) (by unfold ownIn; decide) (g := (mkF m 81 #[iv p0, iv p1, iv p2, iv p3, iv p4, iv (0 : Int32), iv (4 : Int32), iv (4 : Int32), iv v63, rv b64, .unset, .unset] [(.int v71), (.int (2 : Int32)), (.ref b64)])) rfl rfl (hb hby at_81)
      rw [own_narb hv_v71] at F72s
      have F72r : ownAI Z h72 b64 .byte 5 (ownUpd (ownUpd (ownUpd (ownUpd (fun _ => (0 : Int32)) 4 v63) 0 v67) 1 v69) 2 v71) := F72s
      have N72 := Fr.snoc X72 N70 G_b64
      have K72 : Keep h0 h72 [] := K70.wr W72 (Or.inr sz_b64)
      refine ownGo (T' := T72) (f' := (mkF m 82 #[iv p0, iv p1, iv p2, iv p3, iv p4, iv (0 : Int32), iv (4 : Int32), iv (4 : Int32), iv v63, rv b64, .unset, .unset] [])) (st72) ?_
      refine ow_aload (q := 84) X72 hx (hb hby at_82) rfl rfl rfl ?_
      refine ow_iload (q := 86) X72 hx (hb hby at_84) rfl rfl ?_
      refine ow_iconst (q := 87) X72 hx (3 : Int32) (hb hby at_86) rfl rfl ?_
      refine ow_iadd (q := 88) X72 hx (3 : Int32) (hb hby at_87) rfl (by decide) ?_
      refine ow_iloadN (q := 89) X72 hx (hb hby at_88) rfl rfl ?_
      refine ow_i2b (q := 90) X72 hx _ (hb hby at_89) rfl rfl ?_
      generalize hv_v73 : (p3.toInt8.toInt32) = v73
      obtain ⟨T74, h74, X74, e74, W74, F74s, st74⟩ := ownBastore F72r X72 hx hZ e72 (j := (3 : Int32)) (by unfold ownIn; decide) (g := (mkF m 90 #[iv p0, iv p1, iv p2, iv p3, iv p4, iv (0 : Int32), iv (4 : Int32), iv (4 : Int32), iv v63, rv b64, .unset, .unset] [(.int v73), (.int (3 : Int32)), (.ref b64)])) rfl rfl (hb hby at_90)
      rw [own_narb hv_v73] at F74s
      have F74r : ownAI Z h74 b64 .byte 5 (ownUpd (ownUpd (ownUpd (ownUpd (ownUpd (fun _ => (0 : Int32)) 4 v63) 0 v67) 1 v69) 2 v71) 3 v73) := F74s
      have N74 := Fr.snoc X74 N72 G_b64
      have K74 : Keep h0 h74 [] := K72.wr W74 (Or.inr sz_b64)
      refine ownGo (T' := T74) (f' := (mkF m 91 #[iv p0, iv p1, iv p2, iv p3, iv p4, iv (0 : Int32), iv (4 : Int32), iv (4 : Int32), iv v63, rv b64, .unset, .unset] [])) (st74) ?_
      refine ow_aload (q := 93) X74 hx (hb hby at_91) rfl rfl rfl ?_
      refine ow_iload (q := 95) X74 hx (hb hby at_93) rfl rfl ?_
      refine ow_iload (q := 97) X74 hx (hb hby at_95) rfl rfl ?_
      obtain ⟨_, _, ⟨T75, L75, k75, n75⟩, -, X75, ⟨Lc75, hQ75, l75, y75, z75⟩, st75⟩ := Jvm.LawKit.callS X74 hx (y := (⟨"com/example/descend/descend/XmlChars", "sequenceLength", "([BII)I"⟩ : MethodName)) hown (mvT hZ (hw _ (List.mem_of_getElem? (i := 1) rfl))) (mvT hZ (hw _ (List.mem_of_getElem? (i := 2) rfl))) (mvT hZ (hw _ (List.mem_of_getElem? (i := 3) rfl))) (mvT hZ (hw _ (List.mem_of_getElem? (i := 4) rfl))) (by decide) (backOf (W := 0) (rm_seq_0_4 l Z av0 hw [] b64 (ownUpd (ownUpd (ownUpd (ownUpd (ownUpd (fun _ => (0 : Int32)) 4 v63) 0 v67) 1 v69) 2 v71) 3 v73) h74 n0 (Nat.le_trans Z0 K74.1) F74r) hZ (hw _ (List.mem_of_getElem? (i := 4) rfl)) (hw _ (List.mem_of_getElem? (i := 3) rfl)) (by decide) (by decide)) (g := (mkF m 97 #[iv p0, iv p1, iv p2, iv p3, iv p4, iv (0 : Int32), iv (4 : Int32), iv (4 : Int32), iv v63, rv b64, .unset, .unset] [(.int (4 : Int32)), (.int (0 : Int32)), (.ref b64)])) rfl (by rw [hml]; rfl) (argsL := [(.ref b64), (.int (0 : Int32)), (.int (4 : Int32))]) (rest := []) (lenOf own_pd0 rfl) rfl (by show 2 * 0 + _ ≤ _; exact Nat.le_of_eq rfl) (hb hby at_97) (fun _ _ => ⟨rfl, e74, (by decide : 1 + 0 ≤ _), (by decide : 5 + 0 ≤ _)⟩)
      dsimp only [Pt.U, Pt.locs, Pt.cells, Pt.slots] at X75 l75 y75 z75 st75 hQ75
      subst l75 y75 z75
      obtain ⟨r75, rfl, N75q, e75, hp75⟩ := hQ75
      have N75 := Fr.app N74 N75q
      refine ownGo (T' := T75) (f' := (mkF m 100 #[iv p0, iv p1, iv p2, iv p3, iv p4, iv (0 : Int32), iv (4 : Int32), iv (4 : Int32), iv v63, rv b64, .unset, .unset] [(.int r75)])) (st75) ?_
      refine ow_istore (q := 102) X75 hx (L' := #[iv p0, iv p1, iv p2, iv p3, iv p4, iv (0 : Int32), iv (4 : Int32), iv (4 : Int32), iv v63, rv b64, iv r75, .unset]) (hb hby at_100) rfl rfl ?_
      refine ow_iloadN (q := 103) X75 hx (hb hby at_102) rfl rfl ?_
      refine ow_sipush (q := 106) X75 hx (255 : Int32) (hb hby at_103) rfl rfl ?_
      refine ow_iand (q := 107) X75 hx _ (hb hby at_106) rfl rfl ?_
      refine ow_iloadN (q := 108) X75 hx (hb hby at_107) rfl rfl ?_
      refine ow_sipush (q := 111) X75 hx (255 : Int32) (hb hby at_108) rfl rfl ?_
      refine ow_iand (q := 112) X75 hx _ (hb hby at_111) rfl rfl ?_
      refine ow_iloadN (q := 113) X75 hx (hb hby at_112) rfl rfl ?_
      refine ow_sipush (q := 116) X75 hx (255 : Int32) (hb hby at_113) rfl rfl ?_
      refine ow_iand (q := 117) X75 hx _ (hb hby at_116) rfl rfl ?_
      refine ow_iloadN (q := 118) X75 hx (hb hby at_117) rfl rfl ?_
      refine ow_sipush (q := 121) X75 hx (255 : Int32) (hb hby at_118) rfl rfl ?_
      refine ow_iand (q := 122) X75 hx _ (hb hby at_121) rfl rfl ?_
      refine ow_iload (q := 124) X75 hx (hb hby at_122) rfl rfl ?_
      generalize hv_v76 : (p3 &&& (255 : Int32)) = v76
      generalize hv_v77 : (p2 &&& (255 : Int32)) = v77
      generalize hv_v78 : (p1 &&& (255 : Int32)) = v78
      generalize hv_v79 : (p0 &&& (255 : Int32)) = v79
      obtain ⟨_, _, ⟨T80, L80, k80, n80⟩, -, X80, ⟨Lc80, hQ80, l80, y80, z80⟩, st80⟩ := Jvm.LawKit.callS X75 hx (y := (⟨"com/example/descend/descend/XmlCharsSequenceLengthPinLaw", "expected", "(IIIII)I"⟩ : MethodName)) hown (mvT hZ (hw _ (List.mem_of_getElem? (i := 5) rfl))) (mvT hZ (hw _ (List.mem_of_getElem? (i := 6) rfl))) (mvT hZ (hw _ (List.mem_of_getElem? (i := 7) rfl))) (mvT hZ (hw _ (List.mem_of_getElem? (i := 8) rfl))) (by decide) (backOf (W := 0) (rm_expected l Z av0 hw [] v79 v78 v77 v76 (4 : Int32) h74 n0 (Nat.le_trans Z0 K74.1) (own_r255 hv_v79) (own_r255 hv_v78) (own_r255 hv_v77) (own_r255 hv_v76) (by decide)) hZ (hw _ (List.mem_of_getElem? (i := 8) rfl)) (hw _ (List.mem_of_getElem? (i := 7) rfl)) (by decide) (by decide)) (g := (mkF m 124 #[iv p0, iv p1, iv p2, iv p3, iv p4, iv (0 : Int32), iv (4 : Int32), iv (4 : Int32), iv v63, rv b64, iv r75, .unset] [(.int (4 : Int32)), (.int v76), (.int v77), (.int v78), (.int v79)])) rfl (by rw [hml]; rfl) (argsL := [(.int v79), (.int v78), (.int v77), (.int v76), (.int (4 : Int32))]) (rest := []) (lenOf own_pd1 rfl) rfl (by show 2 * 0 + _ ≤ _; exact Nat.le_of_eq rfl) (hb hby at_124) (fun _ _ => ⟨rfl, e75, (by decide : 1 + 0 ≤ _), (by decide : 5 + 0 ≤ _)⟩)
      dsimp only [Pt.U, Pt.locs, Pt.cells, Pt.slots] at X80 l80 y80 z80 st80 hQ80
      subst l80 y80 z80
      obtain ⟨r80, rfl, N80q, e80, hp80⟩ := hQ80
      have N80 := Fr.app N75 N80q
      refine ownGo (T' := T80) (f' := (mkF m 127 #[iv p0, iv p1, iv p2, iv p3, iv p4, iv (0 : Int32), iv (4 : Int32), iv (4 : Int32), iv v63, rv b64, iv r75, .unset] [(.int r80)])) (st80) ?_
      refine ow_istore (q := 129) X80 hx (L' := #[iv p0, iv p1, iv p2, iv p3, iv p4, iv (0 : Int32), iv (4 : Int32), iv (4 : Int32), iv v63, rv b64, iv r75, iv r80]) (hb hby at_127) rfl rfl ?_
      refine ow_iload (q := 131) X80 hx (hb hby at_129) rfl rfl ?_
      refine ow_iload (q := 133) X80 hx (hb hby at_131) rfl rfl ?_
      refine ow_icmpNo (q := 136) X80 hx (hb hby at_133) rfl (Jvm.Free.XT.ii_ne_f (by apply Int32.toInt_inj.mp; rw [hp80]; have q : r75.toInt = own_sq (v67 &&& (255 : Int32)).toInt (v69 &&& (255 : Int32)).toInt (v71 &&& (255 : Int32)).toInt (v73 &&& (255 : Int32)).toInt 4 := hp75; rw [q, own_b255 hv_v67, own_b255 hv_v69, own_b255 hv_v71, own_b255 hv_v73, own_m255 hv_v76, own_m255 hv_v77, own_m255 hv_v78, own_m255 hv_v79]; rfl)) ?_
      refine ow_iconst (q := 137) X80 hx (1 : Int32) (hb hby at_136) rfl rfl ?_
      refine ow_goto (q := 141) X80 hx (hb hby at_137) (by decide) (by decide) ?_
      refine ownRetN X80 hx (r := (1 : Int32)) (Or.inl rfl) Bd.returns (hb hby at_141) hlk (by decide) (by decide) (by decide) ?_
      exact ⟨rfl, N80⟩
  · subst hs4
    rcases own_av hv_v2 with hs81 | hs82 | hs83 | hs84
    · subst hs81
      refine ow_iload (q := 18) X0 hx (hb hby at_16) rfl rfl ?_
      refine ow_iload (q := 20) X0 hx (hb hby at_18) rfl rfl ?_
      refine ow_iadd (q := 21) X0 hx (2 : Int32) (hb hby at_20) rfl (by decide) ?_
      refine ow_istore (q := 23) X0 hx (L' := #[iv p0, iv p1, iv p2, iv p3, iv p4, iv (1 : Int32), iv (1 : Int32), iv (2 : Int32), .unset, .unset, .unset, .unset]) (hb hby at_21) rfl rfl ?_
      refine ow_iload (q := 25) X0 hx (hb hby at_23) rfl rfl ?_
      refine ow_bipush (q := 27) X0 hx (8 : Int32) (hb hby at_25) rfl rfl ?_
      refine ow_iushr (q := 28) X0 hx _ (hb hby at_27) rfl rfl ?_
      refine ow_i2b (q := 29) X0 hx _ (hb hby at_28) rfl rfl ?_
      generalize hv_v85 : (((p4.toUInt32 >>> ((8 : Int32) &&& 31).toUInt32).toInt32).toInt8.toInt32) = v85
      refine ow_istore (q := 31) X0 hx (L' := #[iv p0, iv p1, iv p2, iv p3, iv p4, iv (1 : Int32), iv (1 : Int32), iv (2 : Int32), iv v85, .unset, .unset, .unset]) (hb hby at_29) rfl rfl ?_
      refine ow_iconst (q := 32) X0 hx (5 : Int32) (hb hby at_31) rfl rfl ?_
      obtain ⟨T86, h86, k86, X86, e86, E86, A86, st86⟩ := newP X0 hx hZ (hw _ (List.mem_of_getElem? (i := 0) rfl)) e0 (g := (mkF m 32 #[iv p0, iv p1, iv p2, iv p3, iv p4, iv (1 : Int32), iv (1 : Int32), iv (2 : Int32), iv v85, .unset, .unset, .unset] [(.int (5 : Int32))])) rfl (hb hby at_32) rfl (by decide) (cap := 5) (by decide) (by decide) (by decide) (by decide)
      obtain ⟨b86, g86⟩ : ∃ z, z = h0.size := ⟨_, rfl⟩
      rw [← g86] at A86 st86
      have sz_b86 : h0.size ≤ b86 := Nat.le_trans K0.1 (Nat.le_of_eq g86.symm)
      have G_b86 : n0 ≤ b86 := Nat.le_trans Z0 sz_b86
      have K86 : Keep h0 h86 [] := K0.ext E86
      have F87 : ownAI Z h86 b86 .byte 5 (fun _ => (0 : Int32)) := ownAI.new A86 (by decide) rfl (by decide)
      refine ownGo (T' := T86) (f' := (mkF m 34 #[iv p0, iv p1, iv p2, iv p3, iv p4, iv (1 : Int32), iv (1 : Int32), iv (2 : Int32), iv v85, .unset, .unset, .unset] [(.ref b86)])) (st86) ?_
      refine ow_astore (q := 36) X86 hx (L' := #[iv p0, iv p1, iv p2, iv p3, iv p4, iv (1 : Int32), iv (1 : Int32), iv (2 : Int32), iv v85, rv b86, .unset, .unset]) (hb hby at_34) rfl rfl rfl ?_
      refine ow_iload (q := 38) X86 hx (hb hby at_36) rfl rfl ?_
      refine ow_iconst (q := 39) X86 hx (1 : Int32) (hb hby at_38) rfl rfl ?_
      refine ow_icmpNo (q := 42) X86 hx (hb hby at_39) rfl (Jvm.Free.XT.ii_ne_f (by decide)) ?_
      refine ow_aload (q := 44) X86 hx (hb hby at_42) rfl rfl rfl ?_
      refine ow_iconst (q := 45) X86 hx (0 : Int32) (hb hby at_44) rfl rfl ?_
      refine ow_iload (q := 47) X86 hx (hb hby at_45) rfl rfl ?_
      obtain ⟨T88, h88, X88, e88, W88, F88s, st88⟩ := ownBastore F87 X86 hx hZ e86 (j := (0 : Int32)) (by unfold ownIn; decide) (g := (mkF m 47 #[iv p0, iv p1, iv p2, iv p3, iv p4, iv (1 : Int32), iv (1 : Int32), iv (2 : Int32), iv v85, rv b86, .unset, .unset] [(.int v85), (.int (0 : Int32)), (.ref b86)])) rfl rfl (hb hby at_47)
      rw [own_narb hv_v85] at F88s
      have F88r : ownAI Z h88 b86 .byte 5 (ownUpd (fun _ => (0 : Int32)) 0 v85) := F88s
      have N88 := Fr.snoc X88 N0 G_b86
      have K88 : Keep h0 h88 [] := K86.wr W88 (Or.inr sz_b86)
      refine ownGo (T' := T88) (f' := (mkF m 48 #[iv p0, iv p1, iv p2, iv p3, iv p4, iv (1 : Int32), iv (1 : Int32), iv (2 : Int32), iv v85, rv b86, .unset, .unset] [])) (st88) ?_
      refine ow_goto (q := 57) X88 hx (hb hby at_48) (by decide) (by decide) ?_
      refine ow_aload (q := 59) X88 hx (hb hby at_57) rfl rfl rfl ?_
      refine ow_iload (q := 61) X88 hx (hb hby at_59) rfl rfl ?_
      refine ow_iloadN (q := 62) X88 hx (hb hby at_61) rfl rfl ?_
      refine ow_i2b (q := 63) X88 hx _ (hb hby at_62) rfl rfl ?_
      generalize hv_v89 : (p0.toInt8.toInt32) = v89
      obtain ⟨T90, h90, X90, e90, W90, F90s, st90⟩ := ownBastore F88r X88 hx hZ e88 (j := (1 : Int32)) (by unfold ownIn; decide) (g := (mkF m 63 #[iv p0, iv p1, iv p2, iv p3, iv p4, iv (1 : Int32), iv (1 : Int32), iv (2 : Int32), iv v85, rv b86, .unset, .unset] [(.int v89), (.int (1 : Int32)), (.ref b86)])) rfl rfl (hb hby at_63)
      rw [own_narb hv_v89] at F90s
      have F90r : ownAI Z h90 b86 .byte 5 (ownUpd (ownUpd (fun _ => (0 : Int32)) 0 v85) 1 v89) := F90s
      have N90 := Fr.snoc X90 N88 G_b86
      have K90 : Keep h0 h90 [] := K88.wr W90 (Or.inr sz_b86)
      refine ownGo (T' := T90) (f' := (mkF m 64 #[iv p0, iv p1, iv p2, iv p3, iv p4, iv (1 : Int32), iv (1 : Int32), iv (2 : Int32), iv v85, rv b86, .unset, .unset] [])) (st90) ?_
      refine ow_aload (q := 66) X90 hx (hb hby at_64) rfl rfl rfl ?_
      refine ow_iload (q := 68) X90 hx (hb hby at_66) rfl rfl ?_
      refine ow_iconst (q := 69) X90 hx (1 : Int32) (hb hby at_68) rfl rfl ?_
      refine ow_iadd (q := 70) X90 hx (2 : Int32) (hb hby at_69) rfl (by decide) ?_
      refine ow_iloadN (q := 71) X90 hx (hb hby at_70) rfl rfl ?_
      refine ow_i2b (q := 72) X90 hx _ (hb hby at_71) rfl rfl ?_
      generalize hv_v91 : (p1.toInt8.toInt32) = v91
      obtain ⟨T92, h92, X92, e92, W92, F92s, st92⟩ := ownBastore F90r X90 hx hZ e90 (j := (2 : Int32)) (by unfold ownIn; decide) (g := (mkF m 72 #[iv p0, iv p1, iv p2, iv p3, iv p4, iv (1 : Int32), iv (1 : Int32), iv (2 : Int32), iv v85, rv b86, .unset, .unset] [(.int v91), (.int (2 : Int32)), (.ref b86)])) rfl rfl (hb hby at_72)
      rw [own_narb hv_v91] at F92s
      have F92r : ownAI Z h92 b86 .byte 5 (ownUpd (ownUpd (ownUpd (fun _ => (0 : Int32)) 0 v85) 1 v89) 2 v91) := F92s
      have N92 := Fr.snoc X92 N90 G_b86
      have K92 : Keep h0 h92 [] := K90.wr W92 (Or.inr sz_b86)
      refine ownGo (T' := T92) (f' := (mkF m 73 #[iv p0, iv p1, iv p2, iv p3, iv p4, iv (1 : Int32), iv (1 : Int32), iv (2 : Int32), iv v85, rv b86, .unset, .unset] [])) (st92) ?_
      refine ow_aload (q := 75) X92 hx (hb hby at_73) rfl rfl rfl ?_
      refine ow_iload (q := 77) X92 hx (hb hby at_75) rfl rfl ?_
      refine ow_iconst (q := 78) X92 hx (2 : Int32) (hb hby at_77) rfl rfl ?_
      refine ow_iadd (q := 79) X92 hx (3 : Int32) (hb hby at_78) rfl (by decide) ?_
      refine ow_iloadN (q := 80) X92 hx (hb hby at_79) rfl rfl ?_
      refine ow_i2b (q := 81) X92 hx _ (hb hby at_80) rfl rfl ?_
      generalize hv_v93 : (p2.toInt8.toInt32) = v93
      obtain ⟨T94, h94, X94, e94, W94, F94s, st94⟩ := ownBastore F92r X92 hx hZ e92 (j := (3 : Int32)) (by unfold ownIn; decide) (g := (mkF m 81 #[iv p0, iv p1, iv p2, iv p3, iv p4, iv (1 : Int32), iv (1 : Int32), iv (2 : Int32), iv v85, rv b86, .unset, .unset] [(.int v93), (.int (3 : Int32)), (.ref b86)])) rfl rfl (hb hby at_81)
      rw [own_narb hv_v93] at F94s
      have F94r : ownAI Z h94 b86 .byte 5 (ownUpd (ownUpd (ownUpd (ownUpd (fun _ => (0 : Int32)) 0 v85) 1 v89) 2 v91) 3 v93) := F94s
      have N94 := Fr.snoc X94 N92 G_b86
      have K94 : Keep h0 h94 [] := K92.wr W94 (Or.inr sz_b86)
      refine ownGo (T' := T94) (f' := (mkF m 82 #[iv p0, iv p1, iv p2, iv p3, iv p4, iv (1 : Int32), iv (1 : Int32), iv (2 : Int32), iv v85, rv b86, .unset, .unset] [])) (st94) ?_
      refine ow_aload (q := 84) X94 hx (hb hby at_82) rfl rfl rfl ?_
      refine ow_iload (q := 86) X94 hx (hb hby at_84) rfl rfl ?_
      refine ow_iconst (q := 87) X94 hx (3 : Int32) (hb hby at_86) rfl rfl ?_
      refine ow_iadd (q := 88) X94 hx (4 : Int32) (hb hby at_87) rfl (by decide) ?_
      refine ow_iloadN (q := 89) X94 hx (hb hby at_88) rfl rfl ?_
      refine ow_i2b (q := 90) X94 hx _ (hb hby at_89) rfl rfl ?_
      generalize hv_v95 : (p3.toInt8.toInt32) = v95
      obtain ⟨T96, h96, X96, e96, W96, F96s, st96⟩ := ownBastore F94r X94 hx hZ e94 (j := (4 : Int32)) (by unfold ownIn; decide) (g := (mkF m 90 #[iv p0, iv p1, iv p2, iv p3, iv p4, iv (1 : Int32), iv (1 : Int32), iv (2 : Int32), iv v85, rv b86, .unset, .unset] [(.int v95), (.int (4 : Int32)), (.ref b86)])) rfl rfl (hb hby at_90)
      rw [own_narb hv_v95] at F96s
      have F96r : ownAI Z h96 b86 .byte 5 (ownUpd (ownUpd (ownUpd (ownUpd (ownUpd (fun _ => (0 : Int32)) 0 v85) 1 v89) 2 v91) 3 v93) 4 v95) := F96s
      have N96 := Fr.snoc X96 N94 G_b86
      have K96 : Keep h0 h96 [] := K94.wr W96 (Or.inr sz_b86)
      refine ownGo (T' := T96) (f' := (mkF m 91 #[iv p0, iv p1, iv p2, iv p3, iv p4, iv (1 : Int32), iv (1 : Int32), iv (2 : Int32), iv v85, rv b86, .unset, .unset] [])) (st96) ?_
      refine ow_aload (q := 93) X96 hx (hb hby at_91) rfl rfl rfl ?_
      refine ow_iload (q := 95) X96 hx (hb hby at_93) rfl rfl ?_
      refine ow_iload (q := 97) X96 hx (hb hby at_95) rfl rfl ?_
      obtain ⟨_, _, ⟨T97, L97, k97, n97⟩, -, X97, ⟨Lc97, hQ97, l97, y97, z97⟩, st97⟩ := Jvm.LawKit.callS X96 hx (y := (⟨"com/example/descend/descend/XmlChars", "sequenceLength", "([BII)I"⟩ : MethodName)) hown (mvT hZ (hw _ (List.mem_of_getElem? (i := 1) rfl))) (mvT hZ (hw _ (List.mem_of_getElem? (i := 2) rfl))) (mvT hZ (hw _ (List.mem_of_getElem? (i := 3) rfl))) (mvT hZ (hw _ (List.mem_of_getElem? (i := 4) rfl))) (by decide) (backOf (W := 0) (rm_seq_1_1 l Z av0 hw [] b86 (ownUpd (ownUpd (ownUpd (ownUpd (ownUpd (fun _ => (0 : Int32)) 0 v85) 1 v89) 2 v91) 3 v93) 4 v95) h96 n0 (Nat.le_trans Z0 K96.1) F96r) hZ (hw _ (List.mem_of_getElem? (i := 4) rfl)) (hw _ (List.mem_of_getElem? (i := 3) rfl)) (by decide) (by decide)) (g := (mkF m 97 #[iv p0, iv p1, iv p2, iv p3, iv p4, iv (1 : Int32), iv (1 : Int32), iv (2 : Int32), iv v85, rv b86, .unset, .unset] [(.int (2 : Int32)), (.int (1 : Int32)), (.ref b86)])) rfl (by rw [hml]; rfl) (argsL := [(.ref b86), (.int (1 : Int32)), (.int (2 : Int32))]) (rest := []) (lenOf own_pd0 rfl) rfl (by show 2 * 0 + _ ≤ _; exact Nat.le_of_eq rfl) (hb hby at_97) (fun _ _ => ⟨rfl, e96, (by decide : 1 + 0 ≤ _), (by decide : 5 + 0 ≤ _)⟩)
      dsimp only [Pt.U, Pt.locs, Pt.cells, Pt.slots] at X97 l97 y97 z97 st97 hQ97
      subst l97 y97 z97
      obtain ⟨r97, rfl, N97q, e97, hp97⟩ := hQ97
      have N97 := Fr.app N96 N97q
      refine ownGo (T' := T97) (f' := (mkF m 100 #[iv p0, iv p1, iv p2, iv p3, iv p4, iv (1 : Int32), iv (1 : Int32), iv (2 : Int32), iv v85, rv b86, .unset, .unset] [(.int r97)])) (st97) ?_
      refine ow_istore (q := 102) X97 hx (L' := #[iv p0, iv p1, iv p2, iv p3, iv p4, iv (1 : Int32), iv (1 : Int32), iv (2 : Int32), iv v85, rv b86, iv r97, .unset]) (hb hby at_100) rfl rfl ?_
      refine ow_iloadN (q := 103) X97 hx (hb hby at_102) rfl rfl ?_
      refine ow_sipush (q := 106) X97 hx (255 : Int32) (hb hby at_103) rfl rfl ?_
      refine ow_iand (q := 107) X97 hx _ (hb hby at_106) rfl rfl ?_
      refine ow_iloadN (q := 108) X97 hx (hb hby at_107) rfl rfl ?_
      refine ow_sipush (q := 111) X97 hx (255 : Int32) (hb hby at_108) rfl rfl ?_
      refine ow_iand (q := 112) X97 hx _ (hb hby at_111) rfl rfl ?_
      refine ow_iloadN (q := 113) X97 hx (hb hby at_112) rfl rfl ?_
      refine ow_sipush (q := 116) X97 hx (255 : Int32) (hb hby at_113) rfl rfl ?_
      refine ow_iand (q := 117) X97 hx _ (hb hby at_116) rfl rfl ?_
      refine ow_iloadN (q := 118) X97 hx (hb hby at_117) rfl rfl ?_
      refine ow_sipush (q := 121) X97 hx (255 : Int32) (hb hby at_118) rfl rfl ?_
      refine ow_iand (q := 122) X97 hx _ (hb hby at_121) rfl rfl ?_
      refine ow_iload (q := 124) X97 hx (hb hby at_122) rfl rfl ?_
      generalize hv_v98 : (p3 &&& (255 : Int32)) = v98
      generalize hv_v99 : (p2 &&& (255 : Int32)) = v99
      generalize hv_v100 : (p1 &&& (255 : Int32)) = v100
      generalize hv_v101 : (p0 &&& (255 : Int32)) = v101
      obtain ⟨_, _, ⟨T102, L102, k102, n102⟩, -, X102, ⟨Lc102, hQ102, l102, y102, z102⟩, st102⟩ := Jvm.LawKit.callS X97 hx (y := (⟨"com/example/descend/descend/XmlCharsSequenceLengthPinLaw", "expected", "(IIIII)I"⟩ : MethodName)) hown (mvT hZ (hw _ (List.mem_of_getElem? (i := 5) rfl))) (mvT hZ (hw _ (List.mem_of_getElem? (i := 6) rfl))) (mvT hZ (hw _ (List.mem_of_getElem? (i := 7) rfl))) (mvT hZ (hw _ (List.mem_of_getElem? (i := 8) rfl))) (by decide) (backOf (W := 0) (rm_expected l Z av0 hw [] v101 v100 v99 v98 (1 : Int32) h96 n0 (Nat.le_trans Z0 K96.1) (own_r255 hv_v101) (own_r255 hv_v100) (own_r255 hv_v99) (own_r255 hv_v98) (by decide)) hZ (hw _ (List.mem_of_getElem? (i := 8) rfl)) (hw _ (List.mem_of_getElem? (i := 7) rfl)) (by decide) (by decide)) (g := (mkF m 124 #[iv p0, iv p1, iv p2, iv p3, iv p4, iv (1 : Int32), iv (1 : Int32), iv (2 : Int32), iv v85, rv b86, iv r97, .unset] [(.int (1 : Int32)), (.int v98), (.int v99), (.int v100), (.int v101)])) rfl (by rw [hml]; rfl) (argsL := [(.int v101), (.int v100), (.int v99), (.int v98), (.int (1 : Int32))]) (rest := []) (lenOf own_pd1 rfl) rfl (by show 2 * 0 + _ ≤ _; exact Nat.le_of_eq rfl) (hb hby at_124) (fun _ _ => ⟨rfl, e97, (by decide : 1 + 0 ≤ _), (by decide : 5 + 0 ≤ _)⟩)
      dsimp only [Pt.U, Pt.locs, Pt.cells, Pt.slots] at X102 l102 y102 z102 st102 hQ102
      subst l102 y102 z102
      obtain ⟨r102, rfl, N102q, e102, hp102⟩ := hQ102
      have N102 := Fr.app N97 N102q
      refine ownGo (T' := T102) (f' := (mkF m 127 #[iv p0, iv p1, iv p2, iv p3, iv p4, iv (1 : Int32), iv (1 : Int32), iv (2 : Int32), iv v85, rv b86, iv r97, .unset] [(.int r102)])) (st102) ?_
      refine ow_istore (q := 129) X102 hx (L' := #[iv p0, iv p1, iv p2, iv p3, iv p4, iv (1 : Int32), iv (1 : Int32), iv (2 : Int32), iv v85, rv b86, iv r97, iv r102]) (hb hby at_127) rfl rfl ?_
      refine ow_iload (q := 131) X102 hx (hb hby at_129) rfl rfl ?_
      refine ow_iload (q := 133) X102 hx (hb hby at_131) rfl rfl ?_
      refine ow_icmpNo (q := 136) X102 hx (hb hby at_133) rfl (Jvm.Free.XT.ii_ne_f (by apply Int32.toInt_inj.mp; rw [hp102]; have q : r97.toInt = own_sq (v89 &&& (255 : Int32)).toInt (v91 &&& (255 : Int32)).toInt (v93 &&& (255 : Int32)).toInt (v95 &&& (255 : Int32)).toInt 1 := hp97; rw [q, own_b255 hv_v89, own_b255 hv_v91, own_b255 hv_v93, own_b255 hv_v95, own_m255 hv_v98, own_m255 hv_v99, own_m255 hv_v100, own_m255 hv_v101]; rfl)) ?_
      refine ow_iconst (q := 137) X102 hx (1 : Int32) (hb hby at_136) rfl rfl ?_
      refine ow_goto (q := 141) X102 hx (hb hby at_137) (by decide) (by decide) ?_
      refine ownRetN X102 hx (r := (1 : Int32)) (Or.inl rfl) Bd.returns (hb hby at_141) hlk (by decide) (by decide) (by decide) ?_
      exact ⟨rfl, N102⟩
    · subst hs82
      refine ow_iload (q := 18) X0 hx (hb hby at_16) rfl rfl ?_
      refine ow_iload (q := 20) X0 hx (hb hby at_18) rfl rfl ?_
      refine ow_iadd (q := 21) X0 hx (3 : Int32) (hb hby at_20) rfl (by decide) ?_
      refine ow_istore (q := 23) X0 hx (L' := #[iv p0, iv p1, iv p2, iv p3, iv p4, iv (1 : Int32), iv (2 : Int32), iv (3 : Int32), .unset, .unset, .unset, .unset]) (hb hby at_21) rfl rfl ?_
      refine ow_iload (q := 25) X0 hx (hb hby at_23) rfl rfl ?_
      refine ow_bipush (q := 27) X0 hx (8 : Int32) (hb hby at_25) rfl rfl ?_
      refine ow_iushr (q := 28) X0 hx _ (hb hby at_27) rfl rfl ?_
      refine ow_i2b (q := 29) X0 hx _ (hb hby at_28) rfl rfl ?_
      generalize hv_v103 : (((p4.toUInt32 >>> ((8 : Int32) &&& 31).toUInt32).toInt32).toInt8.toInt32) = v103
      refine ow_istore (q := 31) X0 hx (L' := #[iv p0, iv p1, iv p2, iv p3, iv p4, iv (1 : Int32), iv (2 : Int32), iv (3 : Int32), iv v103, .unset, .unset, .unset]) (hb hby at_29) rfl rfl ?_
      refine ow_iconst (q := 32) X0 hx (5 : Int32) (hb hby at_31) rfl rfl ?_
      obtain ⟨T104, h104, k104, X104, e104, E104, A104, st104⟩ := newP X0 hx hZ (hw _ (List.mem_of_getElem? (i := 0) rfl)) e0 (g := (mkF m 32 #[iv p0, iv p1, iv p2, iv p3, iv p4, iv (1 : Int32), iv (2 : Int32), iv (3 : Int32), iv v103, .unset, .unset, .unset] [(.int (5 : Int32))])) rfl (hb hby at_32) rfl (by decide) (cap := 5) (by decide) (by decide) (by decide) (by decide)
      obtain ⟨b104, g104⟩ : ∃ z, z = h0.size := ⟨_, rfl⟩
      rw [← g104] at A104 st104
      have sz_b104 : h0.size ≤ b104 := Nat.le_trans K0.1 (Nat.le_of_eq g104.symm)
      have G_b104 : n0 ≤ b104 := Nat.le_trans Z0 sz_b104
      have K104 : Keep h0 h104 [] := K0.ext E104
      have F105 : ownAI Z h104 b104 .byte 5 (fun _ => (0 : Int32)) := ownAI.new A104 (by decide) rfl (by decide)
      refine ownGo (T' := T104) (f' := (mkF m 34 #[iv p0, iv p1, iv p2, iv p3, iv p4, iv (1 : Int32), iv (2 : Int32), iv (3 : Int32), iv v103, .unset, .unset, .unset] [(.ref b104)])) (st104) ?_
      refine ow_astore (q := 36) X104 hx (L' := #[iv p0, iv p1, iv p2, iv p3, iv p4, iv (1 : Int32), iv (2 : Int32), iv (3 : Int32), iv v103, rv b104, .unset, .unset]) (hb hby at_34) rfl rfl rfl ?_
      refine ow_iload (q := 38) X104 hx (hb hby at_36) rfl rfl ?_
      refine ow_iconst (q := 39) X104 hx (1 : Int32) (hb hby at_38) rfl rfl ?_
      refine ow_icmpNo (q := 42) X104 hx (hb hby at_39) rfl (Jvm.Free.XT.ii_ne_f (by decide)) ?_
      refine ow_aload (q := 44) X104 hx (hb hby at_42) rfl rfl rfl ?_
      refine ow_iconst (q := 45) X104 hx (0 : Int32) (hb hby at_44) rfl rfl ?_
      refine ow_iload (q := 47) X104 hx (hb hby at_45) rfl rfl ?_
      obtain ⟨T106, h106, X106, e106, W106, F106s, st106⟩ := ownBastore F105 X104 hx hZ e104 (j := (0 : Int32)) (by unfold ownIn; decide) (g := (mkF m 47 #[iv p0, iv p1, iv p2, iv p3, iv p4, iv (1 : Int32), iv (2 : Int32), iv (3 : Int32), iv v103, rv b104, .unset, .unset] [(.int v103), (.int (0 : Int32)), (.ref b104)])) rfl rfl (hb hby at_47)
      rw [own_narb hv_v103] at F106s
      have F106r : ownAI Z h106 b104 .byte 5 (ownUpd (fun _ => (0 : Int32)) 0 v103) := F106s
      have N106 := Fr.snoc X106 N0 G_b104
      have K106 : Keep h0 h106 [] := K104.wr W106 (Or.inr sz_b104)
      refine ownGo (T' := T106) (f' := (mkF m 48 #[iv p0, iv p1, iv p2, iv p3, iv p4, iv (1 : Int32), iv (2 : Int32), iv (3 : Int32), iv v103, rv b104, .unset, .unset] [])) (st106) ?_
      refine ow_goto (q := 57) X106 hx (hb hby at_48) (by decide) (by decide) ?_
      refine ow_aload (q := 59) X106 hx (hb hby at_57) rfl rfl rfl ?_
      refine ow_iload (q := 61) X106 hx (hb hby at_59) rfl rfl ?_
      refine ow_iloadN (q := 62) X106 hx (hb hby at_61) rfl rfl ?_
      refine ow_i2b (q := 63) X106 hx _ (hb hby at_62) rfl rfl ?_
      generalize hv_v107 : (p0.toInt8.toInt32) = v107
      obtain ⟨T108, h108, X108, e108, W108, F108s, st108⟩ := ownBastore F106r X106 hx hZ e106 (j := (1 : Int32)) (by unfold ownIn; decide) (g := (mkF m 63 #[iv p0, iv p1, iv p2, iv p3, iv p4, iv (1 : Int32), iv (2 : Int32), iv (3 : Int32), iv v103, rv b104, .unset, .unset] [(.int v107), (.int (1 : Int32)), (.ref b104)])) rfl rfl (hb hby at_63)
      rw [own_narb hv_v107] at F108s
      have F108r : ownAI Z h108 b104 .byte 5 (ownUpd (ownUpd (fun _ => (0 : Int32)) 0 v103) 1 v107) := F108s
      have N108 := Fr.snoc X108 N106 G_b104
      have K108 : Keep h0 h108 [] := K106.wr W108 (Or.inr sz_b104)
      refine ownGo (T' := T108) (f' := (mkF m 64 #[iv p0, iv p1, iv p2, iv p3, iv p4, iv (1 : Int32), iv (2 : Int32), iv (3 : Int32), iv v103, rv b104, .unset, .unset] [])) (st108) ?_
      refine ow_aload (q := 66) X108 hx (hb hby at_64) rfl rfl rfl ?_
      refine ow_iload (q := 68) X108 hx (hb hby at_66) rfl rfl ?_
      refine ow_iconst (q := 69) X108 hx (1 : Int32) (hb hby at_68) rfl rfl ?_
      refine ow_iadd (q := 70) X108 hx (2 : Int32) (hb hby at_69) rfl (by decide) ?_
      refine ow_iloadN (q := 71) X108 hx (hb hby at_70) rfl rfl ?_
      refine ow_i2b (q := 72) X108 hx _ (hb hby at_71) rfl rfl ?_
      generalize hv_v109 : (p1.toInt8.toInt32) = v109
      obtain ⟨T110, h110, X110, e110, W110, F110s, st110⟩ := ownBastore F108r X108 hx hZ e108 (j := (2 : Int32)) (by unfold ownIn; decide) (g := (mkF m 72 #[iv p0, iv p1, iv p2, iv p3, iv p4, iv (1 : Int32), iv (2 : Int32), iv (3 : Int32), iv v103, rv b104, .unset, .unset] [(.int v109), (.int (2 : Int32)), (.ref b104)])) rfl rfl (hb hby at_72)
      rw [own_narb hv_v109] at F110s
      have F110r : ownAI Z h110 b104 .byte 5 (ownUpd (ownUpd (ownUpd (fun _ => (0 : Int32)) 0 v103) 1 v107) 2 v109) := F110s
      have N110 := Fr.snoc X110 N108 G_b104
      have K110 : Keep h0 h110 [] := K108.wr W110 (Or.inr sz_b104)
      refine ownGo (T' := T110) (f' := (mkF m 73 #[iv p0, iv p1, iv p2, iv p3, iv p4, iv (1 : Int32), iv (2 : Int32), iv (3 : Int32), iv v103, rv b104, .unset, .unset] [])) (st110) ?_
      refine ow_aload (q := 75) X110 hx (hb hby at_73) rfl rfl rfl ?_
      refine ow_iload (q := 77) X110 hx (hb hby at_75) rfl rfl ?_
      refine ow_iconst (q := 78) X110 hx (2 : Int32) (hb hby at_77) rfl rfl ?_
      refine ow_iadd (q := 79) X110 hx (3 : Int32) (hb hby at_78) rfl (by decide) ?_
      refine ow_iloadN (q := 80) X110 hx (hb hby at_79) rfl rfl ?_
      refine ow_i2b (q := 81) X110 hx _ (hb hby at_80) rfl rfl ?_
      generalize hv_v111 : (p2.toInt8.toInt32) = v111
      obtain ⟨T112, h112, X112, e112, W112, F112s, st112⟩ := ownBastore F110r X110 hx hZ e110 (j := (3 : Int32)) (by unfold ownIn; decide) (g := (mkF m 81 #[iv p0, iv p1, iv p2, iv p3, iv p4, iv (1 : Int32), iv (2 : Int32), iv (3 : Int32), iv v103, rv b104, .unset, .unset] [(.int v111), (.int (3 : Int32)), (.ref b104)])) rfl rfl (hb hby at_81)
      rw [own_narb hv_v111] at F112s
      have F112r : ownAI Z h112 b104 .byte 5 (ownUpd (ownUpd (ownUpd (ownUpd (fun _ => (0 : Int32)) 0 v103) 1 v107) 2 v109) 3 v111) := F112s
      have N112 := Fr.snoc X112 N110 G_b104
      have K112 : Keep h0 h112 [] := K110.wr W112 (Or.inr sz_b104)
      refine ownGo (T' := T112) (f' := (mkF m 82 #[iv p0, iv p1, iv p2, iv p3, iv p4, iv (1 : Int32), iv (2 : Int32), iv (3 : Int32), iv v103, rv b104, .unset, .unset] [])) (st112) ?_
      refine ow_aload (q := 84) X112 hx (hb hby at_82) rfl rfl rfl ?_
      refine ow_iload (q := 86) X112 hx (hb hby at_84) rfl rfl ?_
      refine ow_iconst (q := 87) X112 hx (3 : Int32) (hb hby at_86) rfl rfl ?_
      refine ow_iadd (q := 88) X112 hx (4 : Int32) (hb hby at_87) rfl (by decide) ?_
      refine ow_iloadN (q := 89) X112 hx (hb hby at_88) rfl rfl ?_
      refine ow_i2b (q := 90) X112 hx _ (hb hby at_89) rfl rfl ?_
      generalize hv_v113 : (p3.toInt8.toInt32) = v113
      obtain ⟨T114, h114, X114, e114, W114, F114s, st114⟩ := ownBastore F112r X112 hx hZ e112 (j := (4 : Int32)) (by unfold ownIn; decide) (g := (mkF m 90 #[iv p0, iv p1, iv p2, iv p3, iv p4, iv (1 : Int32), iv (2 : Int32), iv (3 : Int32), iv v103, rv b104, .unset, .unset] [(.int v113), (.int (4 : Int32)), (.ref b104)])) rfl rfl (hb hby at_90)
      rw [own_narb hv_v113] at F114s
      have F114r : ownAI Z h114 b104 .byte 5 (ownUpd (ownUpd (ownUpd (ownUpd (ownUpd (fun _ => (0 : Int32)) 0 v103) 1 v107) 2 v109) 3 v111) 4 v113) := F114s
      have N114 := Fr.snoc X114 N112 G_b104
      have K114 : Keep h0 h114 [] := K112.wr W114 (Or.inr sz_b104)
      refine ownGo (T' := T114) (f' := (mkF m 91 #[iv p0, iv p1, iv p2, iv p3, iv p4, iv (1 : Int32), iv (2 : Int32), iv (3 : Int32), iv v103, rv b104, .unset, .unset] [])) (st114) ?_
      refine ow_aload (q := 93) X114 hx (hb hby at_91) rfl rfl rfl ?_
      refine ow_iload (q := 95) X114 hx (hb hby at_93) rfl rfl ?_
      refine ow_iload (q := 97) X114 hx (hb hby at_95) rfl rfl ?_
      obtain ⟨_, _, ⟨T115, L115, k115, n115⟩, -, X115, ⟨Lc115, hQ115, l115, y115, z115⟩, st115⟩ := Jvm.LawKit.callS X114 hx (y := (⟨"com/example/descend/descend/XmlChars", "sequenceLength", "([BII)I"⟩ : MethodName)) hown (mvT hZ (hw _ (List.mem_of_getElem? (i := 1) rfl))) (mvT hZ (hw _ (List.mem_of_getElem? (i := 2) rfl))) (mvT hZ (hw _ (List.mem_of_getElem? (i := 3) rfl))) (mvT hZ (hw _ (List.mem_of_getElem? (i := 4) rfl))) (by decide) (backOf (W := 0) (rm_seq_1_2 l Z av0 hw [] b104 (ownUpd (ownUpd (ownUpd (ownUpd (ownUpd (fun _ => (0 : Int32)) 0 v103) 1 v107) 2 v109) 3 v111) 4 v113) h114 n0 (Nat.le_trans Z0 K114.1) F114r) hZ (hw _ (List.mem_of_getElem? (i := 4) rfl)) (hw _ (List.mem_of_getElem? (i := 3) rfl)) (by decide) (by decide)) (g := (mkF m 97 #[iv p0, iv p1, iv p2, iv p3, iv p4, iv (1 : Int32), iv (2 : Int32), iv (3 : Int32), iv v103, rv b104, .unset, .unset] [(.int (3 : Int32)), (.int (1 : Int32)), (.ref b104)])) rfl (by rw [hml]; rfl) (argsL := [(.ref b104), (.int (1 : Int32)), (.int (3 : Int32))]) (rest := []) (lenOf own_pd0 rfl) rfl (by show 2 * 0 + _ ≤ _; exact Nat.le_of_eq rfl) (hb hby at_97) (fun _ _ => ⟨rfl, e114, (by decide : 1 + 0 ≤ _), (by decide : 5 + 0 ≤ _)⟩)
      dsimp only [Pt.U, Pt.locs, Pt.cells, Pt.slots] at X115 l115 y115 z115 st115 hQ115
      subst l115 y115 z115
      obtain ⟨r115, rfl, N115q, e115, hp115⟩ := hQ115
      have N115 := Fr.app N114 N115q
      refine ownGo (T' := T115) (f' := (mkF m 100 #[iv p0, iv p1, iv p2, iv p3, iv p4, iv (1 : Int32), iv (2 : Int32), iv (3 : Int32), iv v103, rv b104, .unset, .unset] [(.int r115)])) (st115) ?_
      refine ow_istore (q := 102) X115 hx (L' := #[iv p0, iv p1, iv p2, iv p3, iv p4, iv (1 : Int32), iv (2 : Int32), iv (3 : Int32), iv v103, rv b104, iv r115, .unset]) (hb hby at_100) rfl rfl ?_
      refine ow_iloadN (q := 103) X115 hx (hb hby at_102) rfl rfl ?_
      refine ow_sipush (q := 106) X115 hx (255 : Int32) (hb hby at_103) rfl rfl ?_
      refine ow_iand (q := 107) X115 hx _ (hb hby at_106) rfl rfl ?_
      refine ow_iloadN (q := 108) X115 hx (hb hby at_107) rfl rfl ?_
      refine ow_sipush (q := 111) X115 hx (255 : Int32) (hb hby at_108) rfl rfl ?_
      refine ow_iand (q := 112) X115 hx _ (hb hby at_111) rfl rfl ?_
      refine ow_iloadN (q := 113) X115 hx (hb hby at_112) rfl rfl ?_
      refine ow_sipush (q := 116) X115 hx (255 : Int32) (hb hby at_113) rfl rfl ?_
      refine ow_iand (q := 117) X115 hx _ (hb hby at_116) rfl rfl ?_
      refine ow_iloadN (q := 118) X115 hx (hb hby at_117) rfl rfl ?_
      refine ow_sipush (q := 121) X115 hx (255 : Int32) (hb hby at_118) rfl rfl ?_
      refine ow_iand (q := 122) X115 hx _ (hb hby at_121) rfl rfl ?_
      refine ow_iload (q := 124) X115 hx (hb hby at_122) rfl rfl ?_
      generalize hv_v116 : (p3 &&& (255 : Int32)) = v116
      generalize hv_v117 : (p2 &&& (255 : Int32)) = v117
      generalize hv_v118 : (p1 &&& (255 : Int32)) = v118
      generalize hv_v119 : (p0 &&& (255 : Int32)) = v119
      obtain ⟨_, _, ⟨T120, L120, k120, n120⟩, -, X120, ⟨Lc120, hQ120, l120, y120, z120⟩, st120⟩ := Jvm.LawKit.callS X115 hx (y := (⟨"com/example/descend/descend/XmlCharsSequenceLengthPinLaw", "expected", "(IIIII)I"⟩ : MethodName)) hown (mvT hZ (hw _ (List.mem_of_getElem? (i := 5) rfl))) (mvT hZ (hw _ (List.mem_of_getElem? (i := 6) rfl))) (mvT hZ (hw _ (List.mem_of_getElem? (i := 7) rfl))) (mvT hZ (hw _ (List.mem_of_getElem? (i := 8) rfl))) (by decide) (backOf (W := 0) (rm_expected l Z av0 hw [] v119 v118 v117 v116 (2 : Int32) h114 n0 (Nat.le_trans Z0 K114.1) (own_r255 hv_v119) (own_r255 hv_v118) (own_r255 hv_v117) (own_r255 hv_v116) (by decide)) hZ (hw _ (List.mem_of_getElem? (i := 8) rfl)) (hw _ (List.mem_of_getElem? (i := 7) rfl)) (by decide) (by decide)) (g := (mkF m 124 #[iv p0, iv p1, iv p2, iv p3, iv p4, iv (1 : Int32), iv (2 : Int32), iv (3 : Int32), iv v103, rv b104, iv r115, .unset] [(.int (2 : Int32)), (.int v116), (.int v117), (.int v118), (.int v119)])) rfl (by rw [hml]; rfl) (argsL := [(.int v119), (.int v118), (.int v117), (.int v116), (.int (2 : Int32))]) (rest := []) (lenOf own_pd1 rfl) rfl (by show 2 * 0 + _ ≤ _; exact Nat.le_of_eq rfl) (hb hby at_124) (fun _ _ => ⟨rfl, e115, (by decide : 1 + 0 ≤ _), (by decide : 5 + 0 ≤ _)⟩)
      dsimp only [Pt.U, Pt.locs, Pt.cells, Pt.slots] at X120 l120 y120 z120 st120 hQ120
      subst l120 y120 z120
      obtain ⟨r120, rfl, N120q, e120, hp120⟩ := hQ120
      have N120 := Fr.app N115 N120q
      refine ownGo (T' := T120) (f' := (mkF m 127 #[iv p0, iv p1, iv p2, iv p3, iv p4, iv (1 : Int32), iv (2 : Int32), iv (3 : Int32), iv v103, rv b104, iv r115, .unset] [(.int r120)])) (st120) ?_
      refine ow_istore (q := 129) X120 hx (L' := #[iv p0, iv p1, iv p2, iv p3, iv p4, iv (1 : Int32), iv (2 : Int32), iv (3 : Int32), iv v103, rv b104, iv r115, iv r120]) (hb hby at_127) rfl rfl ?_
      refine ow_iload (q := 131) X120 hx (hb hby at_129) rfl rfl ?_
      refine ow_iload (q := 133) X120 hx (hb hby at_131) rfl rfl ?_
      refine ow_icmpNo (q := 136) X120 hx (hb hby at_133) rfl (Jvm.Free.XT.ii_ne_f (by apply Int32.toInt_inj.mp; rw [hp120]; have q : r115.toInt = own_sq (v107 &&& (255 : Int32)).toInt (v109 &&& (255 : Int32)).toInt (v111 &&& (255 : Int32)).toInt (v113 &&& (255 : Int32)).toInt 2 := hp115; rw [q, own_b255 hv_v107, own_b255 hv_v109, own_b255 hv_v111, own_b255 hv_v113, own_m255 hv_v116, own_m255 hv_v117, own_m255 hv_v118, own_m255 hv_v119]; rfl)) ?_
      refine ow_iconst (q := 137) X120 hx (1 : Int32) (hb hby at_136) rfl rfl ?_
      refine ow_goto (q := 141) X120 hx (hb hby at_137) (by decide) (by decide) ?_
      refine ownRetN X120 hx (r := (1 : Int32)) (Or.inl rfl) Bd.returns (hb hby at_141) hlk (by decide) (by decide) (by decide) ?_
      exact ⟨rfl, N120⟩
    · subst hs83
      refine ow_iload (q := 18) X0 hx (hb hby at_16) rfl rfl ?_
      refine ow_iload (q := 20) X0 hx (hb hby at_18) rfl rfl ?_
      refine ow_iadd (q := 21) X0 hx (4 : Int32) (hb hby at_20) rfl (by decide) ?_
      refine ow_istore (q := 23) X0 hx (L' := #[iv p0, iv p1, iv p2, iv p3, iv p4, iv (1 : Int32), iv (3 : Int32), iv (4 : Int32), .unset, .unset, .unset, .unset]) (hb hby at_21) rfl rfl ?_
      refine ow_iload (q := 25) X0 hx (hb hby at_23) rfl rfl ?_
      refine ow_bipush (q := 27) X0 hx (8 : Int32) (hb hby at_25) rfl rfl ?_
      refine ow_iushr (q := 28) X0 hx _ (hb hby at_27) rfl rfl ?_
      refine ow_i2b (q := 29) X0 hx _ (hb hby at_28) rfl rfl ?_
      generalize hv_v121 : (((p4.toUInt32 >>> ((8 : Int32) &&& 31).toUInt32).toInt32).toInt8.toInt32) = v121
      refine ow_istore (q := 31) X0 hx (L' := #[iv p0, iv p1, iv p2, iv p3, iv p4, iv (1 : Int32), iv (3 : Int32), iv (4 : Int32), iv v121, .unset, .unset, .unset]) (hb hby at_29) rfl rfl ?_
      refine ow_iconst (q := 32) X0 hx (5 : Int32) (hb hby at_31) rfl rfl ?_
      obtain ⟨T122, h122, k122, X122, e122, E122, A122, st122⟩ := newP X0 hx hZ (hw _ (List.mem_of_getElem? (i := 0) rfl)) e0 (g := (mkF m 32 #[iv p0, iv p1, iv p2, iv p3, iv p4, iv (1 : Int32), iv (3 : Int32), iv (4 : Int32), iv v121, .unset, .unset, .unset] [(.int (5 : Int32))])) rfl (hb hby at_32) rfl (by decide) (cap := 5) (by decide) (by decide) (by decide) (by decide)
      obtain ⟨b122, g122⟩ : ∃ z, z = h0.size := ⟨_, rfl⟩
      rw [← g122] at A122 st122
      have sz_b122 : h0.size ≤ b122 := Nat.le_trans K0.1 (Nat.le_of_eq g122.symm)
      have G_b122 : n0 ≤ b122 := Nat.le_trans Z0 sz_b122
      have K122 : Keep h0 h122 [] := K0.ext E122
      have F123 : ownAI Z h122 b122 .byte 5 (fun _ => (0 : Int32)) := ownAI.new A122 (by decide) rfl (by decide)
      refine ownGo (T' := T122) (f' := (mkF m 34 #[iv p0, iv p1, iv p2, iv p3, iv p4, iv (1 : Int32), iv (3 : Int32), iv (4 : Int32), iv v121, .unset, .unset, .unset] [(.ref b122)])) (st122) ?_
      refine ow_astore (q := 36) X122 hx (L' := #[iv p0, iv p1, iv p2, iv p3, iv p4, iv (1 : Int32), iv (3 : Int32), iv (4 : Int32), iv v121, rv b122, .unset, .unset]) (hb hby at_34) rfl rfl rfl ?_
      refine ow_iload (q := 38) X122 hx (hb hby at_36) rfl rfl ?_
      refine ow_iconst (q := 39) X122 hx (1 : Int32) (hb hby at_38) rfl rfl ?_
      refine ow_icmpNo (q := 42) X122 hx (hb hby at_39) rfl (Jvm.Free.XT.ii_ne_f (by decide)) ?_
      refine ow_aload (q := 44) X122 hx (hb hby at_42) rfl rfl rfl ?_
      refine ow_iconst (q := 45) X122 hx (0 : Int32) (hb hby at_44) rfl rfl ?_
      refine ow_iload (q := 47) X122 hx (hb hby at_45) rfl rfl ?_
      obtain ⟨T124, h124, X124, e124, W124, F124s, st124⟩ := ownBastore F123 X122 hx hZ e122 (j := (0 : Int32)) (by unfold ownIn; decide) (g := (mkF m 47 #[iv p0, iv p1, iv p2, iv p3, iv p4, iv (1 : Int32), iv (3 : Int32), iv (4 : Int32), iv v121, rv b122, .unset, .unset] [(.int v121), (.int (0 : Int32)), (.ref b122)])) rfl rfl (hb hby at_47)
      rw [own_narb hv_v121] at F124s
      have F124r : ownAI Z h124 b122 .byte 5 (ownUpd (fun _ => (0 : Int32)) 0 v121) := F124s
      have N124 := Fr.snoc X124 N0 G_b122
      have K124 : Keep h0 h124 [] := K122.wr W124 (Or.inr sz_b122)
      refine ownGo (T' := T124) (f' := (mkF m 48 #[iv p0, iv p1, iv p2, iv p3, iv p4, iv (1 : Int32), iv (3 : Int32), iv (4 : Int32), iv v121, rv b122, .unset, .unset] [])) (st124) ?_
      refine ow_goto (q := 57) X124 hx (hb hby at_48) (by decide) (by decide) ?_
      refine ow_aload (q := 59) X124 hx (hb hby at_57) rfl rfl rfl ?_
      refine ow_iload (q := 61) X124 hx (hb hby at_59) rfl rfl ?_
      refine ow_iloadN (q := 62) X124 hx (hb hby at_61) rfl rfl ?_
      refine ow_i2b (q := 63) X124 hx _ (hb hby at_62) rfl rfl ?_
      generalize hv_v125 : (p0.toInt8.toInt32) = v125
      obtain ⟨T126, h126, X126, e126, W126, F126s, st126⟩ := ownBastore F124r X124 hx hZ e124 (j := (1 : Int32)) (by unfold ownIn; decide) (g := (mkF m 63 #[iv p0, iv p1, iv p2, iv p3, iv p4, iv (1 : Int32), iv (3 : Int32), iv (4 : Int32), iv v121, rv b122, .unset, .unset] [(.int v125), (.int (1 : Int32)), (.ref b122)])) rfl rfl (hb hby at_63)
      rw [own_narb hv_v125] at F126s
      have F126r : ownAI Z h126 b122 .byte 5 (ownUpd (ownUpd (fun _ => (0 : Int32)) 0 v121) 1 v125) := F126s
      have N126 := Fr.snoc X126 N124 G_b122
      have K126 : Keep h0 h126 [] := K124.wr W126 (Or.inr sz_b122)
      refine ownGo (T' := T126) (f' := (mkF m 64 #[iv p0, iv p1, iv p2, iv p3, iv p4, iv (1 : Int32), iv (3 : Int32), iv (4 : Int32), iv v121, rv b122, .unset, .unset] [])) (st126) ?_
      refine ow_aload (q := 66) X126 hx (hb hby at_64) rfl rfl rfl ?_
      refine ow_iload (q := 68) X126 hx (hb hby at_66) rfl rfl ?_
      refine ow_iconst (q := 69) X126 hx (1 : Int32) (hb hby at_68) rfl rfl ?_
      refine ow_iadd (q := 70) X126 hx (2 : Int32) (hb hby at_69) rfl (by decide) ?_
      refine ow_iloadN (q := 71) X126 hx (hb hby at_70) rfl rfl ?_
      refine ow_i2b (q := 72) X126 hx _ (hb hby at_71) rfl rfl ?_
      generalize hv_v127 : (p1.toInt8.toInt32) = v127
      obtain ⟨T128, h128, X128, e128, W128, F128s, st128⟩ := ownBastore F126r X126 hx hZ e126 (j := (2 : Int32)) (by unfold ownIn; decide) (g := (mkF m 72 #[iv p0, iv p1, iv p2, iv p3, iv p4, iv (1 : Int32), iv (3 : Int32), iv (4 : Int32), iv v121, rv b122, .unset, .unset] [(.int v127), (.int (2 : Int32)), (.ref b122)])) rfl rfl (hb hby at_72)
      rw [own_narb hv_v127] at F128s
      have F128r : ownAI Z h128 b122 .byte 5 (ownUpd (ownUpd (ownUpd (fun _ => (0 : Int32)) 0 v121) 1 v125) 2 v127) := F128s
      have N128 := Fr.snoc X128 N126 G_b122
      have K128 : Keep h0 h128 [] := K126.wr W128 (Or.inr sz_b122)
      refine ownGo (T' := T128) (f' := (mkF m 73 #[iv p0, iv p1, iv p2, iv p3, iv p4, iv (1 : Int32), iv (3 : Int32), iv (4 : Int32), iv v121, rv b122, .unset, .unset] [])) (st128) ?_
      refine ow_aload (q := 75) X128 hx (hb hby at_73) rfl rfl rfl ?_
      refine ow_iload (q := 77) X128 hx (hb hby at_75) rfl rfl ?_
      refine ow_iconst (q := 78) X128 hx (2 : Int32) (hb hby at_77) rfl rfl ?_
      refine ow_iadd (q := 79) X128 hx (3 : Int32) (hb hby at_78) rfl (by decide) ?_
      refine ow_iloadN (q := 80) X128 hx (hb hby at_79) rfl rfl ?_
      refine ow_i2b (q := 81) X128 hx _ (hb hby at_80) rfl rfl ?_
      generalize hv_v129 : (p2.toInt8.toInt32) = v129
      obtain ⟨T130, h130, X130, e130, W130, F130s, st130⟩ := ownBastore F128r X128 hx hZ e128 (j := (3 : Int32)) (by unfold ownIn; decide) (g := (mkF m 81 #[iv p0, iv p1, iv p2, iv p3, iv p4, iv (1 : Int32), iv (3 : Int32), iv (4 : Int32), iv v121, rv b122, .unset, .unset] [(.int v129), (.int (3 : Int32)), (.ref b122)])) rfl rfl (hb hby at_81)
      rw [own_narb hv_v129] at F130s
      have F130r : ownAI Z h130 b122 .byte 5 (ownUpd (ownUpd (ownUpd (ownUpd (fun _ => (0 : Int32)) 0 v121) 1 v125) 2 v127) 3 v129) := F130s
      have N130 := Fr.snoc X130 N128 G_b122
      have K130 : Keep h0 h130 [] := K128.wr W130 (Or.inr sz_b122)
      refine ownGo (T' := T130) (f' := (mkF m 82 #[iv p0, iv p1, iv p2, iv p3, iv p4, iv (1 : Int32), iv (3 : Int32), iv (4 : Int32), iv v121, rv b122, .unset, .unset] [])) (st130) ?_
      refine ow_aload (q := 84) X130 hx (hb hby at_82) rfl rfl rfl ?_
      refine ow_iload (q := 86) X130 hx (hb hby at_84) rfl rfl ?_
      refine ow_iconst (q := 87) X130 hx (3 : Int32) (hb hby at_86) rfl rfl ?_
      refine ow_iadd (q := 88) X130 hx (4 : Int32) (hb hby at_87) rfl (by decide) ?_
      refine ow_iloadN (q := 89) X130 hx (hb hby at_88) rfl rfl ?_
      refine ow_i2b (q := 90) X130 hx _ (hb hby at_89) rfl rfl ?_
      generalize hv_v131 : (p3.toInt8.toInt32) = v131
      obtain ⟨T132, h132, X132, e132, W132, F132s, st132⟩ := ownBastore F130r X130 hx hZ e130 (j := (4 : Int32)) (by unfold ownIn; decide) (g := (mkF m 90 #[iv p0, iv p1, iv p2, iv p3, iv p4, iv (1 : Int32), iv (3 : Int32), iv (4 : Int32), iv v121, rv b122, .unset, .unset] [(.int v131), (.int (4 : Int32)), (.ref b122)])) rfl rfl (hb hby at_90)
      rw [own_narb hv_v131] at F132s
      have F132r : ownAI Z h132 b122 .byte 5 (ownUpd (ownUpd (ownUpd (ownUpd (ownUpd (fun _ => (0 : Int32)) 0 v121) 1 v125) 2 v127) 3 v129) 4 v131) := F132s
      have N132 := Fr.snoc X132 N130 G_b122
      have K132 : Keep h0 h132 [] := K130.wr W132 (Or.inr sz_b122)
      refine ownGo (T' := T132) (f' := (mkF m 91 #[iv p0, iv p1, iv p2, iv p3, iv p4, iv (1 : Int32), iv (3 : Int32), iv (4 : Int32), iv v121, rv b122, .unset, .unset] [])) (st132) ?_
      refine ow_aload (q := 93) X132 hx (hb hby at_91) rfl rfl rfl ?_
      refine ow_iload (q := 95) X132 hx (hb hby at_93) rfl rfl ?_
      refine ow_iload (q := 97) X132 hx (hb hby at_95) rfl rfl ?_
      obtain ⟨_, _, ⟨T133, L133, k133, n133⟩, -, X133, ⟨Lc133, hQ133, l133, y133, z133⟩, st133⟩ := Jvm.LawKit.callS X132 hx (y := (⟨"com/example/descend/descend/XmlChars", "sequenceLength", "([BII)I"⟩ : MethodName)) hown (mvT hZ (hw _ (List.mem_of_getElem? (i := 1) rfl))) (mvT hZ (hw _ (List.mem_of_getElem? (i := 2) rfl))) (mvT hZ (hw _ (List.mem_of_getElem? (i := 3) rfl))) (mvT hZ (hw _ (List.mem_of_getElem? (i := 4) rfl))) (by decide) (backOf (W := 0) (rm_seq_1_3 l Z av0 hw [] b122 (ownUpd (ownUpd (ownUpd (ownUpd (ownUpd (fun _ => (0 : Int32)) 0 v121) 1 v125) 2 v127) 3 v129) 4 v131) h132 n0 (Nat.le_trans Z0 K132.1) F132r) hZ (hw _ (List.mem_of_getElem? (i := 4) rfl)) (hw _ (List.mem_of_getElem? (i := 3) rfl)) (by decide) (by decide)) (g := (mkF m 97 #[iv p0, iv p1, iv p2, iv p3, iv p4, iv (1 : Int32), iv (3 : Int32), iv (4 : Int32), iv v121, rv b122, .unset, .unset] [(.int (4 : Int32)), (.int (1 : Int32)), (.ref b122)])) rfl (by rw [hml]; rfl) (argsL := [(.ref b122), (.int (1 : Int32)), (.int (4 : Int32))]) (rest := []) (lenOf own_pd0 rfl) rfl (by show 2 * 0 + _ ≤ _; exact Nat.le_of_eq rfl) (hb hby at_97) (fun _ _ => ⟨rfl, e132, (by decide : 1 + 0 ≤ _), (by decide : 5 + 0 ≤ _)⟩)
      dsimp only [Pt.U, Pt.locs, Pt.cells, Pt.slots] at X133 l133 y133 z133 st133 hQ133
      subst l133 y133 z133
      obtain ⟨r133, rfl, N133q, e133, hp133⟩ := hQ133
      have N133 := Fr.app N132 N133q
      refine ownGo (T' := T133) (f' := (mkF m 100 #[iv p0, iv p1, iv p2, iv p3, iv p4, iv (1 : Int32), iv (3 : Int32), iv (4 : Int32), iv v121, rv b122, .unset, .unset] [(.int r133)])) (st133) ?_
      refine ow_istore (q := 102) X133 hx (L' := #[iv p0, iv p1, iv p2, iv p3, iv p4, iv (1 : Int32), iv (3 : Int32), iv (4 : Int32), iv v121, rv b122, iv r133, .unset]) (hb hby at_100) rfl rfl ?_
      refine ow_iloadN (q := 103) X133 hx (hb hby at_102) rfl rfl ?_
      refine ow_sipush (q := 106) X133 hx (255 : Int32) (hb hby at_103) rfl rfl ?_
      refine ow_iand (q := 107) X133 hx _ (hb hby at_106) rfl rfl ?_
      refine ow_iloadN (q := 108) X133 hx (hb hby at_107) rfl rfl ?_
      refine ow_sipush (q := 111) X133 hx (255 : Int32) (hb hby at_108) rfl rfl ?_
      refine ow_iand (q := 112) X133 hx _ (hb hby at_111) rfl rfl ?_
      refine ow_iloadN (q := 113) X133 hx (hb hby at_112) rfl rfl ?_
      refine ow_sipush (q := 116) X133 hx (255 : Int32) (hb hby at_113) rfl rfl ?_
      refine ow_iand (q := 117) X133 hx _ (hb hby at_116) rfl rfl ?_
      refine ow_iloadN (q := 118) X133 hx (hb hby at_117) rfl rfl ?_
      refine ow_sipush (q := 121) X133 hx (255 : Int32) (hb hby at_118) rfl rfl ?_
      refine ow_iand (q := 122) X133 hx _ (hb hby at_121) rfl rfl ?_
      refine ow_iload (q := 124) X133 hx (hb hby at_122) rfl rfl ?_
      generalize hv_v134 : (p3 &&& (255 : Int32)) = v134
      generalize hv_v135 : (p2 &&& (255 : Int32)) = v135
      generalize hv_v136 : (p1 &&& (255 : Int32)) = v136
      generalize hv_v137 : (p0 &&& (255 : Int32)) = v137
      obtain ⟨_, _, ⟨T138, L138, k138, n138⟩, -, X138, ⟨Lc138, hQ138, l138, y138, z138⟩, st138⟩ := Jvm.LawKit.callS X133 hx (y := (⟨"com/example/descend/descend/XmlCharsSequenceLengthPinLaw", "expected", "(IIIII)I"⟩ : MethodName)) hown (mvT hZ (hw _ (List.mem_of_getElem? (i := 5) rfl))) (mvT hZ (hw _ (List.mem_of_getElem? (i := 6) rfl))) (mvT hZ (hw _ (List.mem_of_getElem? (i := 7) rfl))) (mvT hZ (hw _ (List.mem_of_getElem? (i := 8) rfl))) (by decide) (backOf (W := 0) (rm_expected l Z av0 hw [] v137 v136 v135 v134 (3 : Int32) h132 n0 (Nat.le_trans Z0 K132.1) (own_r255 hv_v137) (own_r255 hv_v136) (own_r255 hv_v135) (own_r255 hv_v134) (by decide)) hZ (hw _ (List.mem_of_getElem? (i := 8) rfl)) (hw _ (List.mem_of_getElem? (i := 7) rfl)) (by decide) (by decide)) (g := (mkF m 124 #[iv p0, iv p1, iv p2, iv p3, iv p4, iv (1 : Int32), iv (3 : Int32), iv (4 : Int32), iv v121, rv b122, iv r133, .unset] [(.int (3 : Int32)), (.int v134), (.int v135), (.int v136), (.int v137)])) rfl (by rw [hml]; rfl) (argsL := [(.int v137), (.int v136), (.int v135), (.int v134), (.int (3 : Int32))]) (rest := []) (lenOf own_pd1 rfl) rfl (by show 2 * 0 + _ ≤ _; exact Nat.le_of_eq rfl) (hb hby at_124) (fun _ _ => ⟨rfl, e133, (by decide : 1 + 0 ≤ _), (by decide : 5 + 0 ≤ _)⟩)
      dsimp only [Pt.U, Pt.locs, Pt.cells, Pt.slots] at X138 l138 y138 z138 st138 hQ138
      subst l138 y138 z138
      obtain ⟨r138, rfl, N138q, e138, hp138⟩ := hQ138
      have N138 := Fr.app N133 N138q
      refine ownGo (T' := T138) (f' := (mkF m 127 #[iv p0, iv p1, iv p2, iv p3, iv p4, iv (1 : Int32), iv (3 : Int32), iv (4 : Int32), iv v121, rv b122, iv r133, .unset] [(.int r138)])) (st138) ?_
      refine ow_istore (q := 129) X138 hx (L' := #[iv p0, iv p1, iv p2, iv p3, iv p4, iv (1 : Int32), iv (3 : Int32), iv (4 : Int32), iv v121, rv b122, iv r133, iv r138]) (hb hby at_127) rfl rfl ?_
      refine ow_iload (q := 131) X138 hx (hb hby at_129) rfl rfl ?_
      refine ow_iload (q := 133) X138 hx (hb hby at_131) rfl rfl ?_
      refine ow_icmpNo (q := 136) X138 hx (hb hby at_133) rfl (Jvm.Free.XT.ii_ne_f (by apply Int32.toInt_inj.mp; rw [hp138]; have q : r133.toInt = own_sq (v125 &&& (255 : Int32)).toInt (v127 &&& (255 : Int32)).toInt (v129 &&& (255 : Int32)).toInt (v131 &&& (255 : Int32)).toInt 3 := hp133; rw [q, own_b255 hv_v125, own_b255 hv_v127, own_b255 hv_v129, own_b255 hv_v131, own_m255 hv_v134, own_m255 hv_v135, own_m255 hv_v136, own_m255 hv_v137]; rfl)) ?_
      refine ow_iconst (q := 137) X138 hx (1 : Int32) (hb hby at_136) rfl rfl ?_
      refine ow_goto (q := 141) X138 hx (hb hby at_137) (by decide) (by decide) ?_
      refine ownRetN X138 hx (r := (1 : Int32)) (Or.inl rfl) Bd.returns (hb hby at_141) hlk (by decide) (by decide) (by decide) ?_
      exact ⟨rfl, N138⟩
    · subst hs84
      refine ow_iload (q := 18) X0 hx (hb hby at_16) rfl rfl ?_
      refine ow_iload (q := 20) X0 hx (hb hby at_18) rfl rfl ?_
      refine ow_iadd (q := 21) X0 hx (5 : Int32) (hb hby at_20) rfl (by decide) ?_
      refine ow_istore (q := 23) X0 hx (L' := #[iv p0, iv p1, iv p2, iv p3, iv p4, iv (1 : Int32), iv (4 : Int32), iv (5 : Int32), .unset, .unset, .unset, .unset]) (hb hby at_21) rfl rfl ?_
      refine ow_iload (q := 25) X0 hx (hb hby at_23) rfl rfl ?_
      refine ow_bipush (q := 27) X0 hx (8 : Int32) (hb hby at_25) rfl rfl ?_
      refine ow_iushr (q := 28) X0 hx _ (hb hby at_27) rfl rfl ?_
      refine ow_i2b (q := 29) X0 hx _ (hb hby at_28) rfl rfl ?_
      generalize hv_v139 : (((p4.toUInt32 >>> ((8 : Int32) &&& 31).toUInt32).toInt32).toInt8.toInt32) = v139
      refine ow_istore (q := 31) X0 hx (L' := #[iv p0, iv p1, iv p2, iv p3, iv p4, iv (1 : Int32), iv (4 : Int32), iv (5 : Int32), iv v139, .unset, .unset, .unset]) (hb hby at_29) rfl rfl ?_
      refine ow_iconst (q := 32) X0 hx (5 : Int32) (hb hby at_31) rfl rfl ?_
      obtain ⟨T140, h140, k140, X140, e140, E140, A140, st140⟩ := newP X0 hx hZ (hw _ (List.mem_of_getElem? (i := 0) rfl)) e0 (g := (mkF m 32 #[iv p0, iv p1, iv p2, iv p3, iv p4, iv (1 : Int32), iv (4 : Int32), iv (5 : Int32), iv v139, .unset, .unset, .unset] [(.int (5 : Int32))])) rfl (hb hby at_32) rfl (by decide) (cap := 5) (by decide) (by decide) (by decide) (by decide)
      obtain ⟨b140, g140⟩ : ∃ z, z = h0.size := ⟨_, rfl⟩
      rw [← g140] at A140 st140
      have sz_b140 : h0.size ≤ b140 := Nat.le_trans K0.1 (Nat.le_of_eq g140.symm)
      have G_b140 : n0 ≤ b140 := Nat.le_trans Z0 sz_b140
      have K140 : Keep h0 h140 [] := K0.ext E140
      have F141 : ownAI Z h140 b140 .byte 5 (fun _ => (0 : Int32)) := ownAI.new A140 (by decide) rfl (by decide)
      refine ownGo (T' := T140) (f' := (mkF m 34 #[iv p0, iv p1, iv p2, iv p3, iv p4, iv (1 : Int32), iv (4 : Int32), iv (5 : Int32), iv v139, .unset, .unset, .unset] [(.ref b140)])) (st140) ?_
      refine ow_astore (q := 36) X140 hx (L' := #[iv p0, iv p1, iv p2, iv p3, iv p4, iv (1 : Int32), iv (4 : Int32), iv (5 : Int32), iv v139, rv b140, .unset, .unset]) (hb hby at_34) rfl rfl rfl ?_
      refine ow_iload (q := 38) X140 hx (hb hby at_36) rfl rfl ?_
      refine ow_iconst (q := 39) X140 hx (1 : Int32) (hb hby at_38) rfl rfl ?_
      refine ow_icmpNo (q := 42) X140 hx (hb hby at_39) rfl (Jvm.Free.XT.ii_ne_f (by decide)) ?_
      refine ow_aload (q := 44) X140 hx (hb hby at_42) rfl rfl rfl ?_
      refine ow_iconst (q := 45) X140 hx (0 : Int32) (hb hby at_44) rfl rfl ?_
      refine ow_iload (q := 47) X140 hx (hb hby at_45) rfl rfl ?_
      obtain ⟨T142, h142, X142, e142, W142, F142s, st142⟩ := ownBastore F141 X140 hx hZ e140 (j := (0 : Int32)) (by unfold ownIn; decide) (g := (mkF m 47 #[iv p0, iv p1, iv p2, iv p3, iv p4, iv (1 : Int32), iv (4 : Int32), iv (5 : Int32), iv v139, rv b140, .unset, .unset] [(.int v139), (.int (0 : Int32)), (.ref b140)])) rfl rfl (hb hby at_47)
      rw [own_narb hv_v139] at F142s
      have F142r : ownAI Z h142 b140 .byte 5 (ownUpd (fun _ => (0 : Int32)) 0 v139) := F142s
      have N142 := Fr.snoc X142 N0 G_b140
      have K142 : Keep h0 h142 [] := K140.wr W142 (Or.inr sz_b140)
      refine ownGo (T' := T142) (f' := (mkF m 48 #[iv p0, iv p1, iv p2, iv p3, iv p4, iv (1 : Int32), iv (4 : Int32), iv (5 : Int32), iv v139, rv b140, .unset, .unset] [])) (st142) ?_
      refine ow_goto (q := 57) X142 hx (hb hby at_48) (by decide) (by decide) ?_
      refine ow_aload (q := 59) X142 hx (hb hby at_57) rfl rfl rfl ?_
      refine ow_iload (q := 61) X142 hx (hb hby at_59) rfl rfl ?_
      refine ow_iloadN (q := 62) X142 hx (hb hby at_61) rfl rfl ?_
      refine ow_i2b (q := 63) X142 hx _ (hb hby at_62) rfl rfl ?_
      generalize hv_v143 : (p0.toInt8.toInt32) = v143
      obtain ⟨T144, h144, X144, e144, W144, F144s, st144⟩ := ownBastore F142r X142 hx hZ e142 (j := (1 : Int32)) (by unfold ownIn; decide) (g := (mkF m 63 #[iv p0, iv p1, iv p2, iv p3, iv p4, iv (1 : Int32), iv (4 : Int32), iv (5 : Int32), iv v139, rv b140, .unset, .unset] [(.int v143), (.int (1 : Int32)), (.ref b140)])) rfl rfl (hb hby at_63)
      rw [own_narb hv_v143] at F144s
      have F144r : ownAI Z h144 b140 .byte 5 (ownUpd (ownUpd (fun _ => (0 : Int32)) 0 v139) 1 v143) := F144s
      have N144 := Fr.snoc X144 N142 G_b140
      have K144 : Keep h0 h144 [] := K142.wr W144 (Or.inr sz_b140)
      refine ownGo (T' := T144) (f' := (mkF m 64 #[iv p0, iv p1, iv p2, iv p3, iv p4, iv (1 : Int32), iv (4 : Int32), iv (5 : Int32), iv v139, rv b140, .unset, .unset] [])) (st144) ?_
      refine ow_aload (q := 66) X144 hx (hb hby at_64) rfl rfl rfl ?_
      refine ow_iload (q := 68) X144 hx (hb hby at_66) rfl rfl ?_
      refine ow_iconst (q := 69) X144 hx (1 : Int32) (hb hby at_68) rfl rfl ?_
      refine ow_iadd (q := 70) X144 hx (2 : Int32) (hb hby at_69) rfl (by decide) ?_
      refine ow_iloadN (q := 71) X144 hx (hb hby at_70) rfl rfl ?_
      refine ow_i2b (q := 72) X144 hx _ (hb hby at_71) rfl rfl ?_
      generalize hv_v145 : (p1.toInt8.toInt32) = v145
      obtain ⟨T146, h146, X146, e146, W146, F146s, st146⟩ := ownBastore F144r X144 hx hZ e144 (j := (2 : Int32)) (by unfold ownIn; decide) (g := (mkF m 72 #[iv p0, iv p1, iv p2, iv p3, iv p4, iv (1 : Int32), iv (4 : Int32), iv (5 : Int32), iv v139, rv b140, .unset, .unset] [(.int v145), (.int (2 : Int32)), (.ref b140)])) rfl rfl (hb hby at_72)
      rw [own_narb hv_v145] at F146s
      have F146r : ownAI Z h146 b140 .byte 5 (ownUpd (ownUpd (ownUpd (fun _ => (0 : Int32)) 0 v139) 1 v143) 2 v145) := F146s
      have N146 := Fr.snoc X146 N144 G_b140
      have K146 : Keep h0 h146 [] := K144.wr W146 (Or.inr sz_b140)
      refine ownGo (T' := T146) (f' := (mkF m 73 #[iv p0, iv p1, iv p2, iv p3, iv p4, iv (1 : Int32), iv (4 : Int32), iv (5 : Int32), iv v139, rv b140, .unset, .unset] [])) (st146) ?_
      refine ow_aload (q := 75) X146 hx (hb hby at_73) rfl rfl rfl ?_
      refine ow_iload (q := 77) X146 hx (hb hby at_75) rfl rfl ?_
      refine ow_iconst (q := 78) X146 hx (2 : Int32) (hb hby at_77) rfl rfl ?_
      refine ow_iadd (q := 79) X146 hx (3 : Int32) (hb hby at_78) rfl (by decide) ?_
      refine ow_iloadN (q := 80) X146 hx (hb hby at_79) rfl rfl ?_
      refine ow_i2b (q := 81) X146 hx _ (hb hby at_80) rfl rfl ?_
      generalize hv_v147 : (p2.toInt8.toInt32) = v147
      obtain ⟨T148, h148, X148, e148, W148, F148s, st148⟩ := ownBastore F146r X146 hx hZ e146 (j := (3 : Int32)) (by unfold ownIn; decide) (g := (mkF m 81 #[iv p0, iv p1, iv p2, iv p3, iv p4, iv (1 : Int32), iv (4 : Int32), iv (5 : Int32), iv v139, rv b140, .unset, .unset] [(.int v147), (.int (3 : Int32)), (.ref b140)])) rfl rfl (hb hby at_81)
      rw [own_narb hv_v147] at F148s
      have F148r : ownAI Z h148 b140 .byte 5 (ownUpd (ownUpd (ownUpd (ownUpd (fun _ => (0 : Int32)) 0 v139) 1 v143) 2 v145) 3 v147) := F148s
      have N148 := Fr.snoc X148 N146 G_b140
      have K148 : Keep h0 h148 [] := K146.wr W148 (Or.inr sz_b140)
      refine ownGo (T' := T148) (f' := (mkF m 82 #[iv p0, iv p1, iv p2, iv p3, iv p4, iv (1 : Int32), iv (4 : Int32), iv (5 : Int32), iv v139, rv b140, .unset, .unset] [])) (st148) ?_
      refine ow_aload (q := 84) X148 hx (hb hby at_82) rfl rfl rfl ?_
      refine ow_iload (q := 86) X148 hx (hb hby at_84) rfl rfl ?_
      refine ow_iconst (q := 87) X148 hx (3 : Int32) (hb hby at_86) rfl rfl ?_
      refine ow_iadd (q := 88) X148 hx (4 : Int32) (hb hby at_87) rfl (by decide) ?_
      refine ow_iloadN (q := 89) X148 hx (hb hby at_88) rfl rfl ?_
      refine ow_i2b (q := 90) X148 hx _ (hb hby at_89) rfl rfl ?_
      generalize hv_v149 : (p3.toInt8.toInt32) = v149
      obtain ⟨T150, h150, X150, e150, W150, F150s, st150⟩ := ownBastore F148r X148 hx hZ e148 (j := (4 : Int32)) (by unfold ownIn; decide) (g := (mkF m 90 #[iv p0, iv p1, iv p2, iv p3, iv p4, iv (1 : Int32), iv (4 : Int32), iv (5 : Int32), iv v139, rv b140, .unset, .unset] [(.int v149), (.int (4 : Int32)), (.ref b140)])) rfl rfl (hb hby at_90)
      rw [own_narb hv_v149] at F150s
      have F150r : ownAI Z h150 b140 .byte 5 (ownUpd (ownUpd (ownUpd (ownUpd (ownUpd (fun _ => (0 : Int32)) 0 v139) 1 v143) 2 v145) 3 v147) 4 v149) := F150s
      have N150 := Fr.snoc X150 N148 G_b140
      have K150 : Keep h0 h150 [] := K148.wr W150 (Or.inr sz_b140)
      refine ownGo (T' := T150) (f' := (mkF m 91 #[iv p0, iv p1, iv p2, iv p3, iv p4, iv (1 : Int32), iv (4 : Int32), iv (5 : Int32), iv v139, rv b140, .unset, .unset] [])) (st150) ?_
      refine ow_aload (q := 93) X150 hx (hb hby at_91) rfl rfl rfl ?_
      refine ow_iload (q := 95) X150 hx (hb hby at_93) rfl rfl ?_
      refine ow_iload (q := 97) X150 hx (hb hby at_95) rfl rfl ?_
      obtain ⟨_, _, ⟨T151, L151, k151, n151⟩, -, X151, ⟨Lc151, hQ151, l151, y151, z151⟩, st151⟩ := Jvm.LawKit.callS X150 hx (y := (⟨"com/example/descend/descend/XmlChars", "sequenceLength", "([BII)I"⟩ : MethodName)) hown (mvT hZ (hw _ (List.mem_of_getElem? (i := 1) rfl))) (mvT hZ (hw _ (List.mem_of_getElem? (i := 2) rfl))) (mvT hZ (hw _ (List.mem_of_getElem? (i := 3) rfl))) (mvT hZ (hw _ (List.mem_of_getElem? (i := 4) rfl))) (by decide) (backOf (W := 0) (rm_seq_1_4 l Z av0 hw [] b140 (ownUpd (ownUpd (ownUpd (ownUpd (ownUpd (fun _ => (0 : Int32)) 0 v139) 1 v143) 2 v145) 3 v147) 4 v149) h150 n0 (Nat.le_trans Z0 K150.1) F150r) hZ (hw _ (List.mem_of_getElem? (i := 4) rfl)) (hw _ (List.mem_of_getElem? (i := 3) rfl)) (by decide) (by decide)) (g := (mkF m 97 #[iv p0, iv p1, iv p2, iv p3, iv p4, iv (1 : Int32), iv (4 : Int32), iv (5 : Int32), iv v139, rv b140, .unset, .unset] [(.int (5 : Int32)), (.int (1 : Int32)), (.ref b140)])) rfl (by rw [hml]; rfl) (argsL := [(.ref b140), (.int (1 : Int32)), (.int (5 : Int32))]) (rest := []) (lenOf own_pd0 rfl) rfl (by show 2 * 0 + _ ≤ _; exact Nat.le_of_eq rfl) (hb hby at_97) (fun _ _ => ⟨rfl, e150, (by decide : 1 + 0 ≤ _), (by decide : 5 + 0 ≤ _)⟩)
      dsimp only [Pt.U, Pt.locs, Pt.cells, Pt.slots] at X151 l151 y151 z151 st151 hQ151
      subst l151 y151 z151
      obtain ⟨r151, rfl, N151q, e151, hp151⟩ := hQ151
      have N151 := Fr.app N150 N151q
      refine ownGo (T' := T151) (f' := (mkF m 100 #[iv p0, iv p1, iv p2, iv p3, iv p4, iv (1 : Int32), iv (4 : Int32), iv (5 : Int32), iv v139, rv b140, .unset, .unset] [(.int r151)])) (st151) ?_
      refine ow_istore (q := 102) X151 hx (L' := #[iv p0, iv p1, iv p2, iv p3, iv p4, iv (1 : Int32), iv (4 : Int32), iv (5 : Int32), iv v139, rv b140, iv r151, .unset]) (hb hby at_100) rfl rfl ?_
      refine ow_iloadN (q := 103) X151 hx (hb hby at_102) rfl rfl ?_
      refine ow_sipush (q := 106) X151 hx (255 : Int32) (hb hby at_103) rfl rfl ?_
      refine ow_iand (q := 107) X151 hx _ (hb hby at_106) rfl rfl ?_
      refine ow_iloadN (q := 108) X151 hx (hb hby at_107) rfl rfl ?_
      refine ow_sipush (q := 111) X151 hx (255 : Int32) (hb hby at_108) rfl rfl ?_
      refine ow_iand (q := 112) X151 hx _ (hb hby at_111) rfl rfl ?_
      refine ow_iloadN (q := 113) X151 hx (hb hby at_112) rfl rfl ?_
      refine ow_sipush (q := 116) X151 hx (255 : Int32) (hb hby at_113) rfl rfl ?_
      refine ow_iand (q := 117) X151 hx _ (hb hby at_116) rfl rfl ?_
      refine ow_iloadN (q := 118) X151 hx (hb hby at_117) rfl rfl ?_
      refine ow_sipush (q := 121) X151 hx (255 : Int32) (hb hby at_118) rfl rfl ?_
      refine ow_iand (q := 122) X151 hx _ (hb hby at_121) rfl rfl ?_
      refine ow_iload (q := 124) X151 hx (hb hby at_122) rfl rfl ?_
      generalize hv_v152 : (p3 &&& (255 : Int32)) = v152
      generalize hv_v153 : (p2 &&& (255 : Int32)) = v153
      generalize hv_v154 : (p1 &&& (255 : Int32)) = v154
      generalize hv_v155 : (p0 &&& (255 : Int32)) = v155
      obtain ⟨_, _, ⟨T156, L156, k156, n156⟩, -, X156, ⟨Lc156, hQ156, l156, y156, z156⟩, st156⟩ := Jvm.LawKit.callS X151 hx (y := (⟨"com/example/descend/descend/XmlCharsSequenceLengthPinLaw", "expected", "(IIIII)I"⟩ : MethodName)) hown (mvT hZ (hw _ (List.mem_of_getElem? (i := 5) rfl))) (mvT hZ (hw _ (List.mem_of_getElem? (i := 6) rfl))) (mvT hZ (hw _ (List.mem_of_getElem? (i := 7) rfl))) (mvT hZ (hw _ (List.mem_of_getElem? (i := 8) rfl))) (by decide) (backOf (W := 0) (rm_expected l Z av0 hw [] v155 v154 v153 v152 (4 : Int32) h150 n0 (Nat.le_trans Z0 K150.1) (own_r255 hv_v155) (own_r255 hv_v154) (own_r255 hv_v153) (own_r255 hv_v152) (by decide)) hZ (hw _ (List.mem_of_getElem? (i := 8) rfl)) (hw _ (List.mem_of_getElem? (i := 7) rfl)) (by decide) (by decide)) (g := (mkF m 124 #[iv p0, iv p1, iv p2, iv p3, iv p4, iv (1 : Int32), iv (4 : Int32), iv (5 : Int32), iv v139, rv b140, iv r151, .unset] [(.int (4 : Int32)), (.int v152), (.int v153), (.int v154), (.int v155)])) rfl (by rw [hml]; rfl) (argsL := [(.int v155), (.int v154), (.int v153), (.int v152), (.int (4 : Int32))]) (rest := []) (lenOf own_pd1 rfl) rfl (by show 2 * 0 + _ ≤ _; exact Nat.le_of_eq rfl) (hb hby at_124) (fun _ _ => ⟨rfl, e151, (by decide : 1 + 0 ≤ _), (by decide : 5 + 0 ≤ _)⟩)
      dsimp only [Pt.U, Pt.locs, Pt.cells, Pt.slots] at X156 l156 y156 z156 st156 hQ156
      subst l156 y156 z156
      obtain ⟨r156, rfl, N156q, e156, hp156⟩ := hQ156
      have N156 := Fr.app N151 N156q
      refine ownGo (T' := T156) (f' := (mkF m 127 #[iv p0, iv p1, iv p2, iv p3, iv p4, iv (1 : Int32), iv (4 : Int32), iv (5 : Int32), iv v139, rv b140, iv r151, .unset] [(.int r156)])) (st156) ?_
      refine ow_istore (q := 129) X156 hx (L' := #[iv p0, iv p1, iv p2, iv p3, iv p4, iv (1 : Int32), iv (4 : Int32), iv (5 : Int32), iv v139, rv b140, iv r151, iv r156]) (hb hby at_127) rfl rfl ?_
      refine ow_iload (q := 131) X156 hx (hb hby at_129) rfl rfl ?_
      refine ow_iload (q := 133) X156 hx (hb hby at_131) rfl rfl ?_
      refine ow_icmpNo (q := 136) X156 hx (hb hby at_133) rfl (Jvm.Free.XT.ii_ne_f (by apply Int32.toInt_inj.mp; rw [hp156]; have q : r151.toInt = own_sq (v143 &&& (255 : Int32)).toInt (v145 &&& (255 : Int32)).toInt (v147 &&& (255 : Int32)).toInt (v149 &&& (255 : Int32)).toInt 4 := hp151; rw [q, own_b255 hv_v143, own_b255 hv_v145, own_b255 hv_v147, own_b255 hv_v149, own_m255 hv_v152, own_m255 hv_v153, own_m255 hv_v154, own_m255 hv_v155]; rfl)) ?_
      refine ow_iconst (q := 137) X156 hx (1 : Int32) (hb hby at_136) rfl rfl ?_
      refine ow_goto (q := 141) X156 hx (hb hby at_137) (by decide) (by decide) ?_
      refine ownRetN X156 hx (r := (1 : Int32)) (Or.inl rfl) Bd.returns (hb hby at_141) hlk (by decide) (by decide) (by decide) ?_
      exact ⟨rfl, N156⟩
set_option maxRecDepth 65536 in
set_option maxHeartbeats 40000000 in
theorem comes_1 {Post : Tables → Env → Array Value → State → Outcome → State → Prop} (hpost : ∀ tb e args s v u, (limb_1_1.after args s (.returned v) u = true ∧ limb_1_2.after args s (.returned v) u = true ∧ True) → FrameEnd s (.returned v) u (Jvm.fieldLocs frame_1_writes args s ++ Jvm.arrayLocs frame_1_arrays args s ++ Jvm.staticLocs frame_1_statics s) 16 128 → Post tb e args s (.returned v) u) :
    ArmFor flags0 classFile x code maxLocals ret World_1 tables_1 room_1 Calls_1 rest_1 Pre_1 Post := by
  intro l hfl _ _ p e ha hc hk s m args below hf hA hF happ hP
  obtain ⟨hcalls, hrest, hpre⟩ := hP
  obtain ⟨-, -, -, hnamed, -, -, -, hat⟩ := (Spec.applies_iff hf).mp happ
  obtain ⟨hg, hn⟩ := and_e (Cond.before_iff.mp (show (Jvm.Cond.and given_1 narrow_1).before args s = true from hpre))
  obtain ⟨gg1, gg2⟩ := and_e hg
  obtain ⟨gg3, gg4⟩ := and_e gg2
  obtain ⟨gg5, gg6⟩ := and_e gg4
  obtain ⟨gg7, gg8⟩ := and_e gg6
  obtain ⟨gg9, gg10⟩ := and_e gg8
  obtain ⟨w0, w1, w2, w3, w4, rfl⟩ : ∃ w0 w1 w2 w3 w4 : Value, args = #[w0, w1, w2, w3, w4] := by
    have hs : args.size = 5 := by simpa [Cond.value, given_1] using gg1
    obtain ⟨L⟩ := args
    match L, hs with
    | [w0, w1, w2, w3, w4], _ => exact ⟨w0, w1, w2, w3, w4, rfl⟩
  have hw := fun d (hd : d ∈ tables_1) => atoms_spec (ws := Jvm.Cond.code x code maxLocals ret :: tables_1) hat d (List.mem_cons_of_mem _ hd)
  have hfit : Fit s := fun {y c} hc i hi => by
    obtain ⟨ha, rfl⟩ := Array.getElem?_eq_some_iff.mp hc
    have q := List.all_eq_true.mp ((Array.all_eq_true_iff_forall_mem.mp hF) _ (Array.getElem_mem ha)) i (List.mem_range.mpr hi)
    simpa [Array.getElem?_eq_getElem hi] using q
  obtain ⟨i0, ei0⟩ := is_v gg3
  obtain rfl : w0 = (.int i0) := Option.some.inj ei0
  obtain ⟨i1, ei1⟩ := is_v gg5
  obtain rfl : w1 = (.int i1) := Option.some.inj ei1
  obtain ⟨i2, ei2⟩ := is_v gg7
  obtain rfl : w2 = (.int i2) := Option.some.inj ei2
  obtain ⟨i3, ei3⟩ := is_v gg9
  obtain rfl : w3 = (.int i3) := Option.some.inj ei3
  obtain ⟨i4, ei4⟩ := is_v gg10
  obtain rfl : w4 = (.int i4) := Option.some.inj ei4
  obtain ⟨n, o, h1, h2, h3, _, L, rfl, ⟨rfl, N⟩, hq⟩ := rm_law l s _ hw tables_1 i0 i1 i2 i3 i4  s.heap s.heap.size (Nat.le_refl _)  p e ha hc hk s m _ below hf ((Spec.applies_iff_loose hf).mp happ).1 ⟨rfl, State.Warmed39.refl s, rfl⟩ trivial
  refine ⟨n, _, h1, h2, h3, hpost _ _ _ _ _ _ ⟨Cond.after_iff.mpr rfl, Cond.after_iff.mpr (eq_i res_at (Term.int_eval (1)) rfl), trivial⟩ ⟨hq.1, hq.2.1, (hq.2.2.sift fun y hy => Or.inr (N y hy)).mono (by decide) (by decide)⟩⟩
theorem main_1_1 : Claimed_1_1 := comes_1 fun _ _ _ _ _ _ h hF => ⟨h.1, hF⟩
theorem main_1_2 : Claimed_1_2 := comes_1 fun _ _ _ _ _ _ h hF => ⟨h.2.1, hF⟩
end Jvm.Pilot.@@N@@
namespace Jvm.Pilot.@@N@@
open Jvm Jvm.ClassFile Sem Op Lib Jvm.Free Jvm.Stand Jvm.Pilot.@@N@@.Jvm.D
/-! MADE BY PROGRAM (witnessworld.py) out of the Statement's table words and the real class files: 9 classes; the members and pool entries that the words name. The judged class is class 1, her method 2. -/
namespace start1
open Jvm.ClassFile
def u (s : String) : CpInfo := .utf8 (stringToUtf16 s)
/-- a pool by its gaps: so many unusable entries, then the entry; so many at the end -/
def gap : Nat → List CpInfo → List CpInfo
  | 0, r => r
  | n + 1, r => .unusable :: gap n r
def poolList (es : List (Nat × CpInfo)) (last : Nat) : List CpInfo := es.foldr (fun e r => gap e.1 (e.2 :: r)) (gap last [])
def pool (es : List (Nat × CpInfo)) (last : Nat) : Array CpInfo := ⟨poolList es last⟩
def fileOf (pool : Array CpInfo) (this : Nat) (attrs : Array Attribute := #[]) (ms : Array MethodInfo := #[]) (fl : Nat := 33) (sup : Nat := 0) (ifs : Array Nat := #[]) (fds : Array FieldInfo := #[]) : ClassFile where
  minorVersion := 0
  majorVersion := 65
  constantPool := pool
  accessFlags := fl
  thisClass := this
  superClass := sup
  interfaces := ifs
  fields := fds
  methods := ms
  attributes := attrs
def plain (name : String) (sup : Option ClassId) : Class where
  name := name
  kind := .ordinary
  loader := none
  accessFlags := 33
  super := sup
  interfaces := #[]
  cf := none
  fields := #[]
  methods := #[]
  instanceTypes := #[]
  staticTypes := #[]
  resolved := #[]
  callSites := []
  init := .initialized
  statics := none
  mirror := none

def pool0 : Array CpInfo := pool [(5, u "<init>"), (0, u "()V"), (1, .class_ 10), (1, u "java/lang/Object")] 113

def k0m0 : Method := { name := "<init>", desc := "()V", sig := { parameters := [], returnType := none }, accessFlags := 1, code := none }
/-- java/lang/Object -/
def k0 : Class := { plain "java/lang/Object" none with
  accessFlags := 33
  interfaces := #[]
  cf := some (fileOf pool0 8 #[] #[{ accessFlags := 1, nameIndex := 5, descriptorIndex := 6, attributes := #[] }] 33 0 #[] #[])
  fields := #[]
  methods := #[k0m0]
  instanceTypes := #[]
  staticTypes := #[]
  resolved := Array.replicate 124 none
  statics := none }

def pool1 : Array CpInfo := pool [(2, .class_ 4), (1, u "java/lang/Object"), (0, u "<init>"), (0, u "()V"), (0, .integer 55296), (0, .integer 57343), (0, .integer 65536), (0, .integer 1114111), (0, .methodref 12 13), (0, .class_ 14), (0, .nameAndType 15 16), (0, u "com/example/descend/descend/XmlChars"), (0, u "sequenceLength"), (0, u "([BII)I"), (0, .methodref 18 19), (0, .class_ 20), (0, .nameAndType 21 22), (0, u "com/example/descend/descend/XmlCharsSequenceLengthPinLaw"), (0, u "expected"), (0, u "(IIIII)I"), (3, u "law"), (0, u "(IIIII)Z")] 4

def k1m0 : Method := { name := "<init>", desc := "()V", sig := { parameters := [], returnType := none }, accessFlags := 2, code := none }
def k1c1 : Code := { maxStack := 3, maxLocals := 7, code := method_2_code, exceptionTable := #[], attributes := #[] }
def k1m1 : Method := { name := "expected", desc := "(IIIII)I", sig := { parameters := [.int, .int, .int, .int, .int], returnType := some .int }, accessFlags := 10, code := some k1c1 }
def k1c2 : Code := { maxStack := 5, maxLocals := 12, code := code, exceptionTable := #[], attributes := #[] }
def k1m2 : Method := { name := "law", desc := "(IIIII)Z", sig := { parameters := [.int, .int, .int, .int, .int], returnType := some .boolean }, accessFlags := 9, code := some k1c2 }
/-- com/example/descend/descend/XmlCharsSequenceLengthPinLaw -/
def k1 : Class := { plain "com/example/descend/descend/XmlCharsSequenceLengthPinLaw" (some 0) with
  accessFlags := 49
  interfaces := #[]
  cf := some (fileOf pool1 18 #[] #[{ accessFlags := 2, nameIndex := 5, descriptorIndex := 6, attributes := #[] }, { accessFlags := 10, nameIndex := 21, descriptorIndex := 22, attributes := #[] }, { accessFlags := 9, nameIndex := 26, descriptorIndex := 27, attributes := #[] }] 49 2 #[] #[])
  fields := #[]
  methods := #[k1m0, k1m1, k1m2]
  instanceTypes := #[]
  staticTypes := #[]
  resolved := Array.replicate 32 none
  statics := none }

def pool2 : Array CpInfo := pool [(2, .class_ 4), (1, u "java/lang/Object"), (0, u "<init>"), (0, u "()V"), (0, .class_ 8), (0, u "com/example/descend/descend/XmlChars"), (10, u "CHAR_RANGES"), (0, u "[I"), (7, u "([BII)I"), (6, u "ASCII_CLASSES"), (0, u "[B"), (2, u "NAME_START_RANGES"), (2, u "NAME_ONLY_RANGES"), (29, u "NAME_START"), (0, u "B"), (2, u "NAME"), (1, u "PUBLIC_ID"), (1, u "PUBLIC_ID_MARKS"), (0, u "Ljava/lang/String;"), (16, u "sequenceLength")] 18

def k2m0 : Method := { name := "<init>", desc := "()V", sig := { parameters := [], returnType := none }, accessFlags := 2, code := none }
def k2c1 : Code := { maxStack := 3, maxLocals := 11, code := prog_24_method_14_code, exceptionTable := #[], attributes := #[] }
def k2m1 : Method := { name := "sequenceLength", desc := "([BII)I", sig := { parameters := [(.array .byte), .int, .int], returnType := some .int }, accessFlags := 8, code := some k2c1 }
/-- com/example/descend/descend/XmlChars -/
def k2 : Class := { plain "com/example/descend/descend/XmlChars" (some 0) with
  accessFlags := 48
  interfaces := #[]
  cf := some (fileOf pool2 7 #[] #[{ accessFlags := 2, nameIndex := 5, descriptorIndex := 6, attributes := #[] }, { accessFlags := 8, nameIndex := 98, descriptorIndex := 28, attributes := #[] }] 48 2 #[] #[{ accessFlags := 26, nameIndex := 19, descriptorIndex := 20, attributes := #[] }, { accessFlags := 26, nameIndex := 39, descriptorIndex := 20, attributes := #[] }, { accessFlags := 26, nameIndex := 42, descriptorIndex := 20, attributes := #[] }, { accessFlags := 26, nameIndex := 72, descriptorIndex := 73, attributes := #[] }, { accessFlags := 26, nameIndex := 76, descriptorIndex := 73, attributes := #[] }, { accessFlags := 26, nameIndex := 78, descriptorIndex := 73, attributes := #[] }, { accessFlags := 26, nameIndex := 80, descriptorIndex := 81, attributes := #[] }, { accessFlags := 26, nameIndex := 35, descriptorIndex := 36, attributes := #[] }])
  fields := #[{ name := "CHAR_RANGES", type := (.array .int), accessFlags := 26, slot := 0, constantValue := 0 }, { name := "NAME_START_RANGES", type := (.array .int), accessFlags := 26, slot := 1, constantValue := 0 }, { name := "NAME_ONLY_RANGES", type := (.array .int), accessFlags := 26, slot := 2, constantValue := 0 }, { name := "NAME_START", type := .byte, accessFlags := 26, slot := 3, constantValue := 0 }, { name := "NAME", type := .byte, accessFlags := 26, slot := 4, constantValue := 0 }, { name := "PUBLIC_ID", type := .byte, accessFlags := 26, slot := 5, constantValue := 0 }, { name := "PUBLIC_ID_MARKS", type := (.object "java/lang/String"), accessFlags := 26, slot := 6, constantValue := 0 }, { name := "ASCII_CLASSES", type := (.array .byte), accessFlags := 26, slot := 7, constantValue := 0 }]
  methods := #[k2m0, k2m1]
  instanceTypes := #[]
  staticTypes := #[(.array .int), (.array .int), (.array .int), .byte, .byte, .byte, (.object "java/lang/String"), (.array .byte)]
  resolved := Array.replicate 117 none
  statics := none }

def pool3 : Array CpInfo := pool [(1, u "java/lang/Cloneable"), (0, .class_ 1), (0, u "java/lang/Object"), (0, .class_ 3)] 3

/-- java/lang/Cloneable -/
def k3 : Class := { plain "java/lang/Cloneable" (some 0) with
  accessFlags := 1537
  interfaces := #[]
  cf := some (fileOf pool3 2 #[] #[] 1537 4 #[] #[])
  fields := #[]
  methods := #[]
  instanceTypes := #[]
  staticTypes := #[]
  resolved := Array.replicate 8 none
  statics := none }

def pool4 : Array CpInfo := pool [(1, u "java/io/Serializable"), (0, .class_ 1), (0, u "java/lang/Object"), (0, .class_ 3)] 3

/-- java/io/Serializable -/
def k4 : Class := { plain "java/io/Serializable" (some 0) with
  accessFlags := 1537
  interfaces := #[]
  cf := some (fileOf pool4 2 #[] #[] 1537 4 #[] #[])
  fields := #[]
  methods := #[]
  instanceTypes := #[]
  staticTypes := #[]
  resolved := Array.replicate 8 none
  statics := none }

/-- the primitive byte -/
def k5 : Class := { plain "byte" none with kind := .primitive 'B', accessFlags := 0x411 }
/-- [B -/
def k6 : Class := { plain "[B" (some 0) with kind := .array 5 .byte, interfaces := #[3, 4], accessFlags := 1041 }

/-- the primitive int -/
def k7 : Class := { plain "int" none with kind := .primitive 'I', accessFlags := 0x411 }
/-- [I -/
def k8 : Class := { plain "[I" (some 0) with kind := .array 7 .int, interfaces := #[3, 4], accessFlags := 1041 }

def heap : Heap := #[]
def classes : Array Class := #[k0, k1, k2, k3, k4, k5, k6, k7, k8]
def interned : List (Array UInt16 × Addr) := []
def slotsUsed : Nat := 0
def theMethod : MethodId := ⟨1, 2⟩
def args0 : Array Value := #[.int 5, .int 6, .int 7, .int 8, .int 9]
def aboutOver (below : List Frame) : State where
  vm := { classes := classes, interned := interned.toArray }
  heap := heap
  slotsUsed := slotsUsed
  threads := #[{ frames := .invoking theMethod args0 :: below }]
def below0 : List Frame := [.native { method := ⟨0, 0⟩, args := #[] }]
def about1 : State := aboutOver below0
def p0 : Program := .bare "" "" ""
def e0 : Env := launch0.env 0 0 0
theorem w_frames : about1.frames = Frame.invoking theMethod args0 :: below0 := rfl
set_option maxRecDepth 65536 in
theorem w_args : argsFit about1.vm theMethod args0 = true := by decide +kernel
set_option maxRecDepth 65536 in
theorem w_heap : heapFits about1 = true := by decide +kernel
set_option maxRecDepth 65536 in
theorem w_runnable : about1.curStatus? = some .runnable := by decide +kernel
set_option maxRecDepth 65536 in
theorem w_alone : about1.alone = true := by decide +kernel
set_option maxRecDepth 65536 in
theorem w_named : about1.methodNamed? x = some theMethod := by decide +kernel
set_option maxRecDepth 65536 in
theorem w_hears : about1.hears theMethod below0 = true := by decide +kernel
set_option maxRecDepth 65536 in
theorem w_ripe : about1.ripe theMethod args0 below0 = true := by decide +kernel
theorem w_running : about1.status = .running := rfl
set_option maxRecDepth 65536 in
theorem w_room : about1.hasRoom e0.platform room_1 = true :=
  launch0.hasRoom_least _ room_1 (by decide +kernel) (by decide +kernel) (by decide +kernel) (by decide +kernel) (by decide +kernel) (by decide +kernel)
theorem allAtoms_all (ts : List Jvm.Cond) (a : Array Jvm.Value) (st : Jvm.State) : (allAtoms ts).before a st = ts.all (fun c => c.before a st) := by
  induction ts with
  | nil => rfl
  | cons c t ih =>
    show (Jvm.Cond.and c (allAtoms t)).before a st = _
    rw [Jvm.Cond.before_and, ih, List.all_cons]
def words1 : List Jvm.Cond := Jvm.Cond.code x code maxLocals ret :: tables_1
/-- a 'code' word, met by the world's own term for the bytes: nothing is compared byte by byte -/
theorem code_word {y : MethodName} {bytes : ByteArray} {mx : Nat} {rt : Option FieldType} {a : Array Value} {s : State} {m : MethodId} {meth : Method} {c : Code} (h1 : s.methodNamed? y = some m) (h2 : s.vm.method? m = some meth) (h3 : meth.code = some c) (h4 : c.code = bytes)
    (h5 : (c.maxLocals == mx && c.exceptionTable.isEmpty && decide (c.maxStack ≤ mostOperands) && decide (meth.sig.returnType = rt) && !meth.locks && decide (parseMethodDescriptor y.desc = some meth.sig)) = true) : (Jvm.Cond.code y bytes mx rt).before a s = true := by
  simp only [Bool.and_eq_true, beq_iff_eq, Bool.not_eq_true', decide_eq_true_eq] at h5
  obtain ⟨⟨⟨⟨⟨g1, g2⟩, g3⟩, g4⟩, g5⟩, g6⟩ := h5
  simp [Cond.before, Cond.holds, Cond.value, h1, h2, h3, h4, g1, g2, g3, g4, g5, g6]
def isCode : Jvm.Cond → Bool
  | .code _ _ _ _ => true
  | _ => false
theorem all_split {L : List Jvm.Cond} {P : Jvm.Cond → Bool} (h1 : L.all (fun c => isCode c || P c) = true) (h2 : ∀ c ∈ L.filter isCode, P c = true) : L.all P = true := by
  refine List.all_eq_true.mpr fun c hc => ?_
  have h := List.all_eq_true.mp h1 c hc
  rcases Bool.eq_false_or_eq_true (isCode c) with hi | hi
  · exact h2 c (List.mem_filter.mpr ⟨hc, hi⟩)
  · simpa [hi] using h
set_option maxRecDepth 65536 in
theorem w_c0 : (Jvm.Cond.code x code maxLocals ret).before args0 about1 = true := code_word (m := ⟨1, 2⟩) (meth := k1m2) (c := k1c2) (by decide +kernel) rfl rfl rfl (by decide +kernel)
set_option maxRecDepth 65536 in
theorem w_c1 : (Jvm.Cond.code ({ cls := "com/example/descend/descend/XmlChars", name := "sequenceLength", desc := "([BII)I" } : Jvm.MethodName) prog_24_method_14_code (11 : Nat) (Option.some Jvm.ClassFile.FieldType.int)).before args0 about1 = true := code_word (m := ⟨2, 1⟩) (meth := k2m1) (c := k2c1) (by decide +kernel) rfl rfl rfl (by decide +kernel)
set_option maxRecDepth 65536 in
theorem w_c2 : (Jvm.Cond.code ({ cls := "com/example/descend/descend/XmlCharsSequenceLengthPinLaw", name := "expected", desc := "(IIIII)I" } : Jvm.MethodName) method_2_code (7 : Nat) (Option.some Jvm.ClassFile.FieldType.int)).before args0 about1 = true := code_word (m := ⟨1, 1⟩) (meth := k1m1) (c := k1c1) (by decide +kernel) rfl rfl rfl (by decide +kernel)
def codes1 : List Jvm.Cond := [Jvm.Cond.code x code maxLocals ret, Jvm.Cond.code ({ cls := "com/example/descend/descend/XmlChars", name := "sequenceLength", desc := "([BII)I" } : Jvm.MethodName) prog_24_method_14_code (11 : Nat) (Option.some Jvm.ClassFile.FieldType.int), Jvm.Cond.code ({ cls := "com/example/descend/descend/XmlCharsSequenceLengthPinLaw", name := "expected", desc := "(IIIII)I" } : Jvm.MethodName) method_2_code (7 : Nat) (Option.some Jvm.ClassFile.FieldType.int)]
set_option maxRecDepth 65536 in
theorem codes_eq : words1.filter isCode = codes1 := rfl
theorem w_codes : ∀ c ∈ words1.filter isCode, c.before args0 about1 = true := by
  rw [codes_eq]
  intro c hc
  simp only [codes1, List.mem_cons, List.not_mem_nil, or_false] at hc
  rcases hc with rfl | rfl | rfl
  · exact w_c0
  · exact w_c1
  · exact w_c2
set_option maxRecDepth 65536 in
theorem w_t1 : words1.all (fun c => isCode c || c.before args0 about1) = true := by decide +kernel
theorem w_tables : (allAtoms (Jvm.Cond.code x code maxLocals ret :: tables_1)).before args0 about1 = true := by
  rw [allAtoms_all]
  show words1.all (fun c => c.before args0 about1) = true
  refine all_split ?_ w_codes
  rw [w_t1]
set_option maxRecDepth 65536 in
theorem w_case : (Jvm.Cond.and given_1 narrow_1).before args0 about1 = true := by decide +kernel
theorem w_applies : (headSpec (Jvm.Cond.code x code maxLocals ret :: tables_1) room_1).applies x e0.platform about1 = true :=
  (Spec.applies_iff w_frames).mpr ⟨w_running, w_runnable, w_alone, w_named, w_hears, w_ripe, w_room, w_tables⟩
theorem atStart : AtStart classFile x code maxLocals ret World_1 tables_1 room_1 Calls_1 rest_1 Pre_1 launch0 p0 e0 about1 theMethod args0 below0 :=
  ⟨lists_1, trivial, launch0.admits_env _ _ _, launch0.least_env, fairChoices_fair.cas, fairChoices_fair.clock, w_frames, w_args, w_heap, w_applies, trivial, trivial, w_case⟩
end start1
theorem witness_1 : WitnessClaimed_1 := ⟨start1.p0, start1.e0, start1.about1, start1.theMethod, start1.args0, start1.below0, start1.atStart⟩
end Jvm.Pilot.@@N@@
