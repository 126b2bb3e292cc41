import JvmDerived
import JvmDerived.Pilot.@@N@@Statement
import JvmDerived.Pilot.@@N@@Code
set_option linter.unusedVariables false
set_option linter.unusedSimpArgs false
@@BLOCK:NumsL.lean.txt@@
namespace Jvm.Pilot.@@N@@
open Jvm Jvm.ClassFile Sem Op Lib Jvm.Free Jvm.Stand Jvm.LawKit Jvm.RoadKit Bundle Jvm.Pilot.@@N@@.Jvm.D
/-! own layer: the walk in continuation form -/
section OwnWalk
variable {p : Program} {l : Launch} {e : Env} {R : Room} {s : State} {m : MethodId} {args : Array Value} {below : List Frame} {meth : Method} {c : Code} {T T' : State} {locs : List Loc} {cells slots : Nat} {Q : Option Value → Heap → List Loc → Prop} {ck sk : Nat} {f f' : JFrame} {Z : State} {a0 : Array Value} {h h' : Heap}
/-- from this state and frame the invocation returns, and what it leaves is told by Q -/
def ownEnds (p : Program) (e : Env) (below : List Frame) (s : State) (Q : Option Value → Heap → List Loc → Prop) (ck sk : Nat) (T : State) (f : JFrame) : Prop :=
  ∃ s₂ o, Steps p.tables e below (T.setTop f) s₂ ∧ s₂.status = .running ∧ Ended s₂ below o ∧ ∃ v L, o = .returned v ∧ Q v s₂.heap L ∧ FrameEnd s o s₂ L ck sk
theorem ownGo (st : ∀ target, Steps p.tables e below (T'.setTop f') target → Steps p.tables e below (T.setTop f) target) (k : ownEnds p e below s Q ck sk T' f') : ownEnds p e below s Q ck sk T f := by
  obtain ⟨a, b, h1, h2⟩ := k
  exact ⟨a, b, st _ h1, h2⟩
theorem ownRun (st : Steps p.tables e below (T.setTop f) (T'.setTop f')) (k : ownEnds p e below s Q ck sk T' f') : ownEnds p e below s Q ck sk T f :=
  ownGo (fun _ q => st.trans q) k
theorem ownCast (q : f = f') (k : ownEnds p e below s Q ck sk T f') : ownEnds p e below s Q ck sk T f := q ▸ k
theorem ownRetI (X : Stand p l e R s m args below meth c T locs cells slots) (hx : p.tables.exec = Jvm.exec) {pc : Nat} {Ls : Array Slot} {z : Int32} {rest : List Value} (hret : meth.sig.returnType = some .int) (hd : decode c.code pc = .ok (.ireturn, 1)) (hk : meth.locks = false) (hc : cells ≤ ck) (hs : slots ≤ sk)
    (hQ : Q (some (.int z)) T.heap locs) : ownEnds p e below s Q ck sk T (mkF m pc Ls (.int z :: rest)) := by
  obtain ⟨fs, hr, hrun, hended, hW, hsame⟩ := X.leave (v := some (.int z)) (fun h => by rw [hret] at h; cases h) hk
  exact ⟨_, _, retOut X hx hret rfl (Or.inl ⟨rfl, Or.inl rfl, _, rfl⟩) hd hr, hrun, hended, _, _, rfl, hQ, ⟨_, rfl⟩, hW, hsame.mono hc hs⟩
theorem ownRetN (X : Stand p l e R s m args below meth c T locs cells slots) (hx : p.tables.exec = Jvm.exec) {pc : Nat} {Ls : Array Slot} {z r : Int32} {rest : List Value} {t : FieldType} (ht : t = .boolean ∨ t = .byte ∨ t = .char ∨ t = .short) (hret : meth.sig.returnType = some t) (hd : decode c.code pc = .ok (.ireturn, 1)) (hk : meth.locks = false) (hc : cells ≤ ck) (hs : slots ≤ sk)
    (hz : nar t z = r) (hQ : Q (some (.int r)) T.heap locs) : ownEnds p e below s Q ck sk T (mkF m pc Ls (.int z :: rest)) := by
  subst hz
  obtain ⟨fs, hr, hrun, hended, hW, hsame⟩ := X.leave (v := some (.int (nar t z))) (fun h => by rw [hret] at h; cases h) hk
  exact ⟨_, _, retN X hx hret ht hd hr, hrun, hended, _, _, rfl, hQ, ⟨_, rfl⟩, hW, hsame.mono hc hs⟩
theorem ownRetJ (X : Stand p l e R s m args below meth c T locs cells slots) (hx : p.tables.exec = Jvm.exec) {pc : Nat} {Ls : Array Slot} {z : Int64} {rest : List Value} (hret : meth.sig.returnType = some .long) (hd : decode c.code pc = .ok (.lreturn, 1)) (hk : meth.locks = false) (hc : cells ≤ ck) (hs : slots ≤ sk)
    (hQ : Q (some (.long z)) T.heap locs) : ownEnds p e below s Q ck sk T (mkF m pc Ls (.long z :: rest)) := by
  obtain ⟨fs, hr, hrun, hended, hW, hsame⟩ := X.leave (v := some (.long z)) (fun h => by rw [hret] at h; cases h) hk
  exact ⟨_, _, retOut X hx hret rfl (Or.inr (Or.inl ⟨rfl, rfl, _, rfl⟩)) hd hr, hrun, hended, _, _, rfl, hQ, ⟨_, rfl⟩, hW, hsame.mono hc hs⟩
theorem ownRetR (X : Stand p l e R s m args below meth c T locs cells slots) (hx : p.tables.exec = Jvm.exec) {pc : Nat} {Ls : Array Slot} {w : Value} {rest : List Value} {t : FieldType} (ht : t.isReference = true) (hn : narrow t w = w) (hw : w.isRef = true) (hret : meth.sig.returnType = some t) (hd : decode c.code pc = .ok (.areturn, 1)) (hk : meth.locks = false) (hc : cells ≤ ck) (hs : slots ≤ sk)
    (hQ : Q (some w) T.heap locs) : ownEnds p e below s Q ck sk T (mkF m pc Ls (w :: rest)) := by
  obtain ⟨fs, hr, hrun, hended, hW, hsame⟩ := X.leave (v := some w) (fun h => by rw [hret] at h; cases h) hk
  exact ⟨_, _, retOut X hx hret hn (Or.inr (Or.inr (Or.inr (Or.inr ⟨rfl, ht, hw⟩)))) hd hr, hrun, hended, _, _, rfl, hQ, ⟨_, rfl⟩, hW, hsame.mono hc hs⟩
theorem ownRetV (X : Stand p l e R s m args below meth c T locs cells slots) (hx : p.tables.exec = Jvm.exec) {pc : Nat} {Ls : Array Slot} (hret : meth.sig.returnType = none) (hd : decode c.code pc = .ok (.return_, 1)) (hk : meth.locks = false) (hc : cells ≤ ck) (hs : slots ≤ sk)
    (hQ : Q none T.heap locs) : ownEnds p e below s Q ck sk T (mkF m pc Ls []) := by
  obtain ⟨fs, hr, hrun, hended, hW, hsame⟩ := X.leave (v := none) (fun _ => rfl) hk
  exact ⟨_, _, X.returnOut hx hret hd hr, hrun, hended, _, _, rfl, hQ, ⟨_, rfl⟩, hW, hsame.mono hc hs⟩
/-- one place of a function turned -/
def ownUpd {α : Type} (f : Nat → α) (j : Nat) (x : α) : Nat → α := fun i => if i = j then x else f i
theorem ownUpd_same {α : Type} (f : Nat → α) (j : Nat) (x : α) : ownUpd f j x j = x := if_pos rfl
theorem ownUpd_ne {α : Type} (f : Nat → α) {i j : Nat} (x : α) (q : i ≠ j) : ownUpd f j x i = f i := if_neg q
/-- an array of ints (or bytes, chars ..): its length and its components -/
def ownAI (Z : State) (h : Heap) (a : Addr) (ty : FieldType) (n : Nat) (g : Nat → Int32) : Prop := ∃ cl : Cell, Arr Z h a cl ty ∧ cl.slots.size = n ∧ n < 2 ^ 31 ∧ ∀ i, i < n → cl.slots[i]? = some (.int (g i))
/-- an array of longs -/
def ownAJ (Z : State) (h : Heap) (a : Addr) (n : Nat) (g : Nat → Int64) : Prop := ∃ cl : Cell, Arr Z h a cl .long ∧ cl.slots.size = n ∧ n < 2 ^ 31 ∧ ∀ i, i < n → cl.slots[i]? = some (.long (g i))
variable {a b : Addr} {ty : FieldType} {n : Nat} {gi : Nat → Int32} {gj : Nat → Int64} {ws : List Addr} {sl : Nat} {v : Value}
theorem ownAI.lt (F : ownAI Z h a ty n gi) : a < h.size := by obtain ⟨c, A, -⟩ := F; exact A.lt
theorem ownAI.ext (F : ownAI Z h a ty n gi) (E : Ext h h') : ownAI Z h' a ty n gi := by obtain ⟨c, A, r⟩ := F; exact ⟨c, A.ext E, r⟩
theorem ownAI.other (F : ownAI Z h b ty n gi) (W : Wr h h' a sl v) (q : b ≠ a) : ownAI Z h' b ty n gi := by obtain ⟨c, A, r⟩ := F; exact ⟨c, A.other W q, r⟩
theorem ownAI.keep (F : ownAI Z h a ty n gi) (K : Keep h h' ws) (q : a ∉ ws) : ownAI Z h' a ty n gi := by obtain ⟨c, A, r⟩ := F; exact ⟨c, ⟨K.2.1 a c A.1 q, A.2⟩, r⟩
theorem ownAJ.lt (F : ownAJ Z h a n gj) : a < h.size := by obtain ⟨c, A, -⟩ := F; exact A.lt
theorem ownAJ.ext (F : ownAJ Z h a n gj) (E : Ext h h') : ownAJ Z h' a n gj := by obtain ⟨c, A, r⟩ := F; exact ⟨c, A.ext E, r⟩
theorem ownAJ.other (F : ownAJ Z h b n gj) (W : Wr h h' a sl v) (q : b ≠ a) : ownAJ Z h' b n gj := by obtain ⟨c, A, r⟩ := F; exact ⟨c, A.other W q, r⟩
theorem ownAJ.keep (F : ownAJ Z h a n gj) (K : Keep h h' ws) (q : a ∉ ws) : ownAJ Z h' a n gj := by obtain ⟨c, A, r⟩ := F; exact ⟨c, ⟨K.2.1 a c A.1 q, A.2⟩, r⟩
theorem ownAI.new {k : ClassId} {z : Int32} (A : Arr Z h a (newA k ty z) ty) (q : ¬ z < 0) (d : defaultValue ty = .int 0) (N : z.toNatClampNeg = n) : ownAI Z h a ty n (fun _ => 0) := by
  subst N
  refine ⟨_, A, sz_new _ _ _, (back32 q).2, fun i hi => ?_⟩
  simp [newA, hi, d]
theorem ownAJ.new {k : ClassId} {z : Int32} (A : Arr Z h a (newA k .long z) .long) (q : ¬ z < 0) (N : z.toNatClampNeg = n) : ownAJ Z h a n (fun _ => 0) := by
  subst N
  refine ⟨_, A, sz_new _ _ _, (back32 q).2, fun i hi => ?_⟩
  simp [newA, hi, defaultValue]
theorem ownAI.set (F : ownAI Z h a ty n gi) {j : Nat} {x : Int32} (W : Wr h h' a j (.int x)) : ownAI Z h' a ty n (ownUpd gi j x) := by
  obtain ⟨cl, A, S, N, H⟩ := F
  refine ⟨_, A.same W, by simpa [Cell.setSlot] using S, N, fun i hi => ?_⟩
  by_cases e : i = j
  · subst e; simp [Cell.setSlot, ownUpd, S, hi]
  · rw [ownUpd_ne _ _ e]
    show (cl.slots.setIfInBounds j (.int x))[i]? = _
    rw [Array.getElem?_setIfInBounds_ne (Ne.symm e)]; exact H i hi
theorem ownAJ.set (F : ownAJ Z h a n gj) {j : Nat} {x : Int64} (W : Wr h h' a j (.long x)) : ownAJ Z h' a n (ownUpd gj j x) := by
  obtain ⟨cl, A, S, N, H⟩ := F
  refine ⟨_, A.same W, by simpa [Cell.setSlot] using S, N, fun i hi => ?_⟩
  by_cases e : i = j
  · subst e; simp [Cell.setSlot, ownUpd, S, hi]
  · rw [ownUpd_ne _ _ e]
    show (cl.slots.setIfInBounds j (.long x))[i]? = _
    rw [Array.getElem?_setIfInBounds_ne (Ne.symm e)]; exact H i hi
/-- an index is inside -/
def ownIn (j : Int32) (n : Nat) : Prop := ¬ (j < 0 ∨ n ≤ j.toNatClampNeg)
theorem ownIn_of {j : Int32} {n : Nat} (h1 : 0 ≤ j.toInt) (h2 : j.toInt < n) : ownIn j n := by
  intro q
  rcases q with q | q
  · rw [Int32.lt_iff_toInt_lt] at q; simp only [Int32.reduceToInt] at q; omega
  · simp only [Int32.toNatClampNeg] at q; omega
theorem ownIaload (F : ownAI Z h a .int n gi) (X : Stand p l e R s m args below meth c T locs cells slots) (hx : p.tables.exec = Jvm.exec) (hZ : Z.Warmed39 s.vm) (eT : T.heap = h) {j : Int32} (hin : ownIn j n) {g : JFrame} (hg : g.method = m) {rest : List Value} (hs : g.stack = .int j :: .ref a :: rest) (hd : decode c.code g.pc = .ok (.iaload, 1)) :
    ∀ target, Steps p.tables e below (T.setTop { g with pc := g.pc + 1, stack := .int (gi j.toNatClampNeg) :: rest }) target → Steps p.tables e below (T.setTop g) target := by
  obtain ⟨cl, A, S, N, H⟩ := F
  subst S
  exact fun t k => X.iaload hx (by rw [eT]; exact A.1) (State.isArrayOf_alike hZ.alike A.2.1) A.2.2 hin (H _ (Nat.lt_of_not_le fun q => hin (Or.inr q))) hg hs hd t k
theorem ownBaload (F : ownAI Z h a .byte n gi) (X : Stand p l e R s m args below meth c T locs cells slots) (hx : p.tables.exec = Jvm.exec) (hZ : Z.Warmed39 s.vm) (eT : T.heap = h) {j : Int32} (hin : ownIn j n) {g : JFrame} (hg : g.method = m) {rest : List Value} (hs : g.stack = .int j :: .ref a :: rest) (hd : decode c.code g.pc = .ok (.baload, 1)) :
    ∀ target, Steps p.tables e below (T.setTop { g with pc := g.pc + 1, stack := .int (gi j.toNatClampNeg) :: rest }) target → Steps p.tables e below (T.setTop g) target := by
  obtain ⟨cl, A, S, N, H⟩ := F
  subst S
  exact fun t k => X.baloadBytes hx (by rw [eT]; exact A.1) (State.isArrayOf_alike hZ.alike A.2.1) A.2.2 hin (H _ (Nat.lt_of_not_le fun q => hin (Or.inr q))) hg hs hd t k
theorem ownCaload (F : ownAI Z h a .char n gi) (X : Stand p l e R s m args below meth c T locs cells slots) (hx : p.tables.exec = Jvm.exec) (hZ : Z.Warmed39 s.vm) (eT : T.heap = h) {j : Int32} (hin : ownIn j n) {g : JFrame} (hg : g.method = m) {rest : List Value} (hs : g.stack = .int j :: .ref a :: rest) (hd : decode c.code g.pc = .ok (.caload, 1)) :
    ∀ target, Steps p.tables e below (T.setTop { g with pc := g.pc + 1, stack := .int (gi j.toNatClampNeg) :: rest }) target → Steps p.tables e below (T.setTop g) target := by
  obtain ⟨cl, A, S, N, H⟩ := F
  subst S
  exact fun t k => X.caload hx (by rw [eT]; exact A.1) (State.isArrayOf_alike hZ.alike A.2.1) A.2.2 hin (H _ (Nat.lt_of_not_le fun q => hin (Or.inr q))) hg hs hd t k
theorem ownLaload (F : ownAJ Z h a n gj) (X : Stand p l e R s m args below meth c T locs cells slots) (hx : p.tables.exec = Jvm.exec) (hZ : Z.Warmed39 s.vm) (eT : T.heap = h) {j : Int32} (hin : ownIn j n) {g : JFrame} (hg : g.method = m) {rest : List Value} (hs : g.stack = .int j :: .ref a :: rest) (hd : decode c.code g.pc = .ok (.laload, 1)) :
    ∀ target, Steps p.tables e below (T.setTop { g with pc := g.pc + 1, stack := .long (gj j.toNatClampNeg) :: rest }) target → Steps p.tables e below (T.setTop g) target := by
  obtain ⟨cl, A, S, N, H⟩ := F
  subst S
  exact fun t k => X.laload hx (by rw [eT]; exact A.1) (State.isArrayOf_alike hZ.alike A.2.1) A.2.2 hin (H _ (Nat.lt_of_not_le fun q => hin (Or.inr q))) hg hs hd t k
theorem ownLenI (F : ownAI Z h a ty n gi) (X : Stand p l e R s m args below meth c T locs cells slots) (hx : p.tables.exec = Jvm.exec) (hZ : Z.Warmed39 s.vm) (eT : T.heap = h) {z : Int32} (hz : n.toInt32 = z) {g : JFrame} (hg : g.method = m) {rest : List Value} (hs : g.stack = .ref a :: rest) (hd : decode c.code g.pc = .ok (.arraylength, 1)) :
    ∀ target, Steps p.tables e below (T.setTop { g with pc := g.pc + 1, stack := .int z :: rest }) target → Steps p.tables e below (T.setTop g) target := by
  obtain ⟨cl, A, S, N, H⟩ := F
  subst S hz
  exact fun t k => X.arraylength hx (by rw [eT]; exact A.1) (State.isArrayOf_alike hZ.alike A.2.1) hg hs hd t k
theorem ownLenJ (F : ownAJ Z h a n gj) (X : Stand p l e R s m args below meth c T locs cells slots) (hx : p.tables.exec = Jvm.exec) (hZ : Z.Warmed39 s.vm) (eT : T.heap = h) {z : Int32} (hz : n.toInt32 = z) {g : JFrame} (hg : g.method = m) {rest : List Value} (hs : g.stack = .ref a :: rest) (hd : decode c.code g.pc = .ok (.arraylength, 1)) :
    ∀ target, Steps p.tables e below (T.setTop { g with pc := g.pc + 1, stack := .int z :: rest }) target → Steps p.tables e below (T.setTop g) target := by
  obtain ⟨cl, A, S, N, H⟩ := F
  subst S hz
  exact fun t k => X.arraylength hx (by rw [eT]; exact A.1) (State.isArrayOf_alike hZ.alike A.2.1) hg hs hd t k
theorem ownIastore (F : ownAI Z h a .int n gi) (X : Stand p l e R s m args below meth c T locs cells slots) (hx : p.tables.exec = Jvm.exec) (hZ : Z.Warmed39 s.vm) (eT : T.heap = h) {j x : Int32} (hin : ownIn j n) {g : JFrame} (hg : g.method = m) {rest : List Value} (hs : g.stack = .int x :: .int j :: .ref a :: rest) (hd : decode c.code g.pc = .ok (.iastore, 1)) :
    ∃ T' h', Stand p l e R s m args below meth c T' (locs ++ [⟨a, j.toNatClampNeg⟩]) cells slots ∧ T'.heap = h' ∧ Wr h h' a j.toNatClampNeg (.int x) ∧ ownAI Z h' a .int n (ownUpd gi j.toNatClampNeg x) ∧ ∀ target, Steps p.tables e below (T'.setTop { g with pc := g.pc + 1, stack := rest }) target → Steps p.tables e below (T.setTop g) target := by
  obtain ⟨cl, A, S, r⟩ := id F
  obtain ⟨T', h', X', e', W, st⟩ := stI X hx hZ eT A (j := j) (by rw [S]; exact hin) hg hs hd
  exact ⟨T', h', X', e', W, F.set W, st⟩
theorem ownBastore (F : ownAI Z h a .byte n gi) (X : Stand p l e R s m args below meth c T locs cells slots) (hx : p.tables.exec = Jvm.exec) (hZ : Z.Warmed39 s.vm) (eT : T.heap = h) {j x : Int32} (hin : ownIn j n) {g : JFrame} (hg : g.method = m) {rest : List Value} (hs : g.stack = .int x :: .int j :: .ref a :: rest) (hd : decode c.code g.pc = .ok (.bastore, 1)) :
    ∃ T' h', Stand p l e R s m args below meth c T' (locs ++ [⟨a, j.toNatClampNeg⟩]) cells slots ∧ T'.heap = h' ∧ Wr h h' a j.toNatClampNeg (.int (nar .byte x)) ∧ ownAI Z h' a .byte n (ownUpd gi j.toNatClampNeg (nar .byte x)) ∧ ∀ target, Steps p.tables e below (T'.setTop { g with pc := g.pc + 1, stack := rest }) target → Steps p.tables e below (T.setTop g) target := by
  obtain ⟨cl, A, S, r⟩ := id F
  obtain ⟨T', h', X', e', W, st⟩ := stB X hx hZ eT A (j := j) (by rw [S]; exact hin) hg hs hd
  exact ⟨T', h', X', e', W, F.set W, st⟩
theorem ownCastore (F : ownAI Z h a .char n gi) (X : Stand p l e R s m args below meth c T locs cells slots) (hx : p.tables.exec = Jvm.exec) (hZ : Z.Warmed39 s.vm) (eT : T.heap = h) {j x : Int32} (hin : ownIn j n) {g : JFrame} (hg : g.method = m) {rest : List Value} (hs : g.stack = .int x :: .int j :: .ref a :: rest) (hd : decode c.code g.pc = .ok (.castore, 1)) :
    ∃ T' h', Stand p l e R s m args below meth c T' (locs ++ [⟨a, j.toNatClampNeg⟩]) cells slots ∧ T'.heap = h' ∧ Wr h h' a j.toNatClampNeg (.int (nar .char x)) ∧ ownAI Z h' a .char n (ownUpd gi j.toNatClampNeg (nar .char x)) ∧ ∀ target, Steps p.tables e below (T'.setTop { g with pc := g.pc + 1, stack := rest }) target → Steps p.tables e below (T.setTop g) target := by
  obtain ⟨cl, A, S, r⟩ := id F
  obtain ⟨T', h', X', e', W, st⟩ := stC X hx hZ eT A (j := j) (by rw [S]; exact hin) hg hs hd
  exact ⟨T', h', X', e', W, F.set W, st⟩
theorem ownLastore (F : ownAJ Z h a n gj) (X : Stand p l e R s m args below meth c T locs cells slots) (hx : p.tables.exec = Jvm.exec) (hZ : Z.Warmed39 s.vm) (eT : T.heap = h) {j : Int32} {x : Int64} (hin : ownIn j n) {g : JFrame} (hg : g.method = m) {rest : List Value} (hs : g.stack = .long x :: .int j :: .ref a :: rest) (hd : decode c.code g.pc = .ok (.lastore, 1)) :
    ∃ T' h', Stand p l e R s m args below meth c T' (locs ++ [⟨a, j.toNatClampNeg⟩]) cells slots ∧ T'.heap = h' ∧ Wr h h' a j.toNatClampNeg (.long x) ∧ ownAJ Z h' a n (ownUpd gj j.toNatClampNeg x) ∧ ∀ target, Steps p.tables e below (T'.setTop { g with pc := g.pc + 1, stack := rest }) target → Steps p.tables e below (T.setTop g) target := by
  obtain ⟨cl, A, S, r⟩ := id F
  obtain ⟨T', h', X', e', W, st⟩ := stJ X hx hZ eT A (j := j) (by rw [S]; exact hin) hg hs hd
  exact ⟨T', h', X', e', W, F.set W, st⟩
theorem own_narb {x v : Int32} (h : x.toInt8.toInt32 = v) : nar .byte v = v := by subst h; simp [nar]
theorem own_narc {x v : Int32} (h : x.toUInt32.toUInt16.toUInt32.toInt32 = v) : nar .char v = v := by subst h; simp only [nar, UInt32.toUInt32_toInt32, UInt16.toUInt16_toUInt32]
theorem own_evInt {args : Array Value} {t : Term} {k : Int32} (h : (Cond.eq t (.int k)).value args s none s [] = some true) : t.eval args s none [] s = some (.int k) := by
  simp only [Cond.value, Term.eval] at h
  cases ht : t.eval args s none [] s with
  | none => simp [ht] at h
  | some x => cases x <;> simp [ht] at h ⊢; exact h
theorem own_fldInt {args : Array Value} {t : Term} {C n d : String} {k : Int32} {x : Addr} (h : (Cond.eq (.field t C n d) (.int k)).value args s none s [] = some true) (ht : t.eval args s none [] s = some (.ref x)) : Fld s s.heap x C n d (.int k) :=
  Fld.start ((fld_at ht).symm.trans (own_evInt h))
end OwnWalk
section OwnSteps
variable {p : Program} {l : Launch} {e : Env} {R : Room} {s : State} {m : MethodId} {args : Array Value} {below : List Frame} {meth : Method} {c : Code} {T : State} {locs : List Loc} {cells slots : Nat} {Q : Option Value → Heap → List Loc → Prop} {ck sk : Nat}
theorem ow_iloadN (X : Stand p l e R s m args below meth c T locs cells slots) (hx : p.tables.exec = Jvm.exec) {pc q : Nat} {Ls : Array Slot} {S : List Value} {k : Fin 4} {v : Int32} (hd : decode c.code pc = .ok (.iload_n k, 1)) (hq : pc + 1 = q) (hl : Ls[k.val]? = some (.val (.int v))) (k : ownEnds p e below s Q ck sk T (mkF m q Ls (.int v :: S))) : ownEnds p e below s Q ck sk T (mkF m pc Ls S) := by
  subst hq
  exact ownGo (fun _ k => XS.iloadN X.here hx rfl hd hl k) k
theorem ow_iload (X : Stand p l e R s m args below meth c T locs cells slots) (hx : p.tables.exec = Jvm.exec) {pc q : Nat} {Ls : Array Slot} {S : List Value} {k : Nat} {v : Int32} (hd : decode c.code pc = .ok (.iload k, 2)) (hq : pc + 2 = q) (hl : Ls[k]? = some (.val (.int v))) (k : ownEnds p e below s Q ck sk T (mkF m q Ls (.int v :: S))) : ownEnds p e below s Q ck sk T (mkF m pc Ls S) := by
  subst hq
  exact ownGo (fun _ k => XS.iload X.here hx rfl hd hl k) k
theorem ow_istoreN (X : Stand p l e R s m args below meth c T locs cells slots) (hx : p.tables.exec = Jvm.exec) {pc q : Nat} {Ls : Array Slot} {S : List Value} {k : Fin 4} {v : Int32} {L' : Array Slot} (hd : decode c.code pc = .ok (.istore_n k, 1)) (hq : pc + 1 = q) (hl : storeLocals Ls k.val (.int v) = some L') (k : ownEnds p e below s Q ck sk T (mkF m q L' S)) : ownEnds p e below s Q ck sk T (mkF m pc Ls (.int v :: S)) := by
  subst hq
  exact ownGo (fun _ k => XS.istoreN X.here hx rfl hd rfl hl k) k
theorem ow_istore (X : Stand p l e R s m args below meth c T locs cells slots) (hx : p.tables.exec = Jvm.exec) {pc q : Nat} {Ls : Array Slot} {S : List Value} {k : Nat} {v : Int32} {L' : Array Slot} (hd : decode c.code pc = .ok (.istore k, 2)) (hq : pc + 2 = q) (hl : storeLocals Ls k (.int v) = some L') (k : ownEnds p e below s Q ck sk T (mkF m q L' S)) : ownEnds p e below s Q ck sk T (mkF m pc Ls (.int v :: S)) := by
  subst hq
  exact ownGo (fun _ k => XS.istore X.here hx rfl hd rfl hl k) k
theorem ow_lloadN (X : Stand p l e R s m args below meth c T locs cells slots) (hx : p.tables.exec = Jvm.exec) {pc q : Nat} {Ls : Array Slot} {S : List Value} {k : Fin 4} {v : Int64} (hd : decode c.code pc = .ok (.lload_n k, 1)) (hq : pc + 1 = q) (hl : Ls[k.val]? = some (.val (.long v))) (k : ownEnds p e below s Q ck sk T (mkF m q Ls (.long v :: S))) : ownEnds p e below s Q ck sk T (mkF m pc Ls S) := by
  subst hq
  exact ownGo (fun _ k => XS.lloadN X.here hx rfl hd hl k) k
theorem ow_lload (X : Stand p l e R s m args below meth c T locs cells slots) (hx : p.tables.exec = Jvm.exec) {pc q : Nat} {Ls : Array Slot} {S : List Value} {k : Nat} {v : Int64} (hd : decode c.code pc = .ok (.lload k, 2)) (hq : pc + 2 = q) (hl : Ls[k]? = some (.val (.long v))) (k : ownEnds p e below s Q ck sk T (mkF m q Ls (.long v :: S))) : ownEnds p e below s Q ck sk T (mkF m pc Ls S) := by
  subst hq
  exact ownGo (fun _ k => XS.lload X.here hx rfl hd hl k) k
theorem ow_lstoreN (X : Stand p l e R s m args below meth c T locs cells slots) (hx : p.tables.exec = Jvm.exec) {pc q : Nat} {Ls : Array Slot} {S : List Value} {k : Fin 4} {v : Int64} {L' : Array Slot} (hd : decode c.code pc = .ok (.lstore_n k, 1)) (hq : pc + 1 = q) (hl : storeLocals Ls k.val (.long v) = some L') (k : ownEnds p e below s Q ck sk T (mkF m q L' S)) : ownEnds p e below s Q ck sk T (mkF m pc Ls (.long v :: S)) := by
  subst hq
  exact ownGo (fun _ k => XS.lstoreN X.here hx rfl hd rfl hl k) k
theorem ow_lstore (X : Stand p l e R s m args below meth c T locs cells slots) (hx : p.tables.exec = Jvm.exec) {pc q : Nat} {Ls : Array Slot} {S : List Value} {k : Nat} {v : Int64} {L' : Array Slot} (hd : decode c.code pc = .ok (.lstore k, 2)) (hq : pc + 2 = q) (hl : storeLocals Ls k (.long v) = some L') (k : ownEnds p e below s Q ck sk T (mkF m q L' S)) : ownEnds p e below s Q ck sk T (mkF m pc Ls (.long v :: S)) := by
  subst hq
  exact ownGo (fun _ k => XS.lstore X.here hx rfl hd rfl hl k) k
theorem ow_aloadN (X : Stand p l e R s m args below meth c T locs cells slots) (hx : p.tables.exec = Jvm.exec) {pc q : Nat} {Ls : Array Slot} {S : List Value} {k : Fin 4} {v : Value} (hd : decode c.code pc = .ok (.aload_n k, 1)) (hq : pc + 1 = q) (hl : Ls[k.val]? = some (.val v)) (hv : v.isRef = true) (k : ownEnds p e below s Q ck sk T (mkF m q Ls (v :: S))) : ownEnds p e below s Q ck sk T (mkF m pc Ls S) := by
  subst hq
  exact ownGo (fun _ k => XS.aloadN X.here hx rfl hd hl hv k) k
theorem ow_aload (X : Stand p l e R s m args below meth c T locs cells slots) (hx : p.tables.exec = Jvm.exec) {pc q : Nat} {Ls : Array Slot} {S : List Value} {k : Nat} {v : Value} (hd : decode c.code pc = .ok (.aload k, 2)) (hq : pc + 2 = q) (hl : Ls[k]? = some (.val v)) (hv : v.isRef = true) (k : ownEnds p e below s Q ck sk T (mkF m q Ls (v :: S))) : ownEnds p e below s Q ck sk T (mkF m pc Ls S) := by
  subst hq
  exact ownGo (fun _ k => XS.aload X.here hx rfl hd hl hv k) k
theorem ow_astoreN (X : Stand p l e R s m args below meth c T locs cells slots) (hx : p.tables.exec = Jvm.exec) {pc q : Nat} {Ls : Array Slot} {S : List Value} {k : Fin 4} {v : Value} {L' : Array Slot} (hd : decode c.code pc = .ok (.astore_n k, 1)) (hq : pc + 1 = q) (hv : v.isRef = true) (hl : storeLocals Ls k.val v = some L') (k : ownEnds p e below s Q ck sk T (mkF m q L' S)) : ownEnds p e below s Q ck sk T (mkF m pc Ls (v :: S)) := by
  subst hq
  exact ownGo (fun _ k => XS.astoreN X.here hx rfl hd rfl hv hl k) k
theorem ow_astore (X : Stand p l e R s m args below meth c T locs cells slots) (hx : p.tables.exec = Jvm.exec) {pc q : Nat} {Ls : Array Slot} {S : List Value} {k : Nat} {v : Value} {L' : Array Slot} (hd : decode c.code pc = .ok (.astore k, 2)) (hq : pc + 2 = q) (hv : v.isRef = true) (hl : storeLocals Ls k v = some L') (k : ownEnds p e below s Q ck sk T (mkF m q L' S)) : ownEnds p e below s Q ck sk T (mkF m pc Ls (v :: S)) := by
  subst hq
  exact ownGo (fun _ k => XS.astore X.here hx rfl hd rfl hv hl k) k
theorem ow_iconst (X : Stand p l e R s m args below meth c T locs cells slots) (hx : p.tables.exec = Jvm.exec) {pc q : Nat} {Ls : Array Slot} {S : List Value} {i : Int} (v : Int32) (hd : decode c.code pc = .ok (.iconst i, 1)) (hq : pc + 1 = q) (hz : Int32.ofInt i = v) (k : ownEnds p e below s Q ck sk T (mkF m q Ls (.int v :: S))) : ownEnds p e below s Q ck sk T (mkF m pc Ls S) := by
  subst hq hz
  exact ownGo (fun _ k => XS.iconst X.here hx rfl hd k) k
theorem ow_bipush (X : Stand p l e R s m args below meth c T locs cells slots) (hx : p.tables.exec = Jvm.exec) {pc q : Nat} {Ls : Array Slot} {S : List Value} {i : Int} (v : Int32) (hd : decode c.code pc = .ok (.bipush i, 2)) (hq : pc + 2 = q) (hz : (Int8.ofInt i).toInt32 = v) (k : ownEnds p e below s Q ck sk T (mkF m q Ls (.int v :: S))) : ownEnds p e below s Q ck sk T (mkF m pc Ls S) := by
  subst hq hz
  exact ownGo (fun _ k => XS.bipush X.here hx rfl hd k) k
theorem ow_sipush (X : Stand p l e R s m args below meth c T locs cells slots) (hx : p.tables.exec = Jvm.exec) {pc q : Nat} {Ls : Array Slot} {S : List Value} {i : Int} (v : Int32) (hd : decode c.code pc = .ok (.sipush i, 3)) (hq : pc + 3 = q) (hz : (Int16.ofInt i).toInt32 = v) (k : ownEnds p e below s Q ck sk T (mkF m q Ls (.int v :: S))) : ownEnds p e below s Q ck sk T (mkF m pc Ls S) := by
  subst hq hz
  exact ownGo (fun _ k => XS.sipush X.here hx rfl hd k) k
theorem ow_lconst (X : Stand p l e R s m args below meth c T locs cells slots) (hx : p.tables.exec = Jvm.exec) {pc q : Nat} {Ls : Array Slot} {S : List Value} {i : Fin 2} (v : Int64) (hd : decode c.code pc = .ok (.lconst i, 1)) (hq : pc + 1 = q) (hz : Int64.ofNat i = v) (k : ownEnds p e below s Q ck sk T (mkF m q Ls (.long v :: S))) : ownEnds p e below s Q ck sk T (mkF m pc Ls S) := by
  subst hq hz
  exact ownGo (fun _ k => XS.lconst X.here hx rfl hd k) k
theorem ow_iadd (X : Stand p l e R s m args below meth c T locs cells slots) (hx : p.tables.exec = Jvm.exec) {pc q : Nat} {Ls : Array Slot} {S : List Value} {x y : Int32} (z : Int32) (hd : decode c.code pc = .ok (.iadd, 1)) (hq : pc + 1 = q) (hz : x + y = z) (k : ownEnds p e below s Q ck sk T (mkF m q Ls (.int z :: S))) : ownEnds p e below s Q ck sk T (mkF m pc Ls (.int y :: .int x :: S)) := by
  subst hq hz
  exact ownGo (fun _ k => XS.iadd X.here hx rfl hd rfl k) k
theorem ow_ladd (X : Stand p l e R s m args below meth c T locs cells slots) (hx : p.tables.exec = Jvm.exec) {pc q : Nat} {Ls : Array Slot} {S : List Value} {x y : Int64} (z : Int64) (hd : decode c.code pc = .ok (.ladd, 1)) (hq : pc + 1 = q) (hz : x + y = z) (k : ownEnds p e below s Q ck sk T (mkF m q Ls (.long z :: S))) : ownEnds p e below s Q ck sk T (mkF m pc Ls (.long y :: .long x :: S)) := by
  subst hq hz
  exact ownGo (fun _ k => XS.ladd X.here hx rfl hd rfl k) k
theorem ow_isub (X : Stand p l e R s m args below meth c T locs cells slots) (hx : p.tables.exec = Jvm.exec) {pc q : Nat} {Ls : Array Slot} {S : List Value} {x y : Int32} (z : Int32) (hd : decode c.code pc = .ok (.isub, 1)) (hq : pc + 1 = q) (hz : x - y = z) (k : ownEnds p e below s Q ck sk T (mkF m q Ls (.int z :: S))) : ownEnds p e below s Q ck sk T (mkF m pc Ls (.int y :: .int x :: S)) := by
  subst hq hz
  exact ownGo (fun _ k => XS.isub X.here hx rfl hd rfl k) k
theorem ow_lsub (X : Stand p l e R s m args below meth c T locs cells slots) (hx : p.tables.exec = Jvm.exec) {pc q : Nat} {Ls : Array Slot} {S : List Value} {x y : Int64} (z : Int64) (hd : decode c.code pc = .ok (.lsub, 1)) (hq : pc + 1 = q) (hz : x - y = z) (k : ownEnds p e below s Q ck sk T (mkF m q Ls (.long z :: S))) : ownEnds p e below s Q ck sk T (mkF m pc Ls (.long y :: .long x :: S)) := by
  subst hq hz
  exact ownGo (fun _ k => XS.lsub X.here hx rfl hd rfl k) k
theorem ow_imul (X : Stand p l e R s m args below meth c T locs cells slots) (hx : p.tables.exec = Jvm.exec) {pc q : Nat} {Ls : Array Slot} {S : List Value} {x y : Int32} (z : Int32) (hd : decode c.code pc = .ok (.imul, 1)) (hq : pc + 1 = q) (hz : x * y = z) (k : ownEnds p e below s Q ck sk T (mkF m q Ls (.int z :: S))) : ownEnds p e below s Q ck sk T (mkF m pc Ls (.int y :: .int x :: S)) := by
  subst hq hz
  exact ownGo (fun _ k => XS.imul X.here hx rfl hd rfl k) k
theorem ow_lmul (X : Stand p l e R s m args below meth c T locs cells slots) (hx : p.tables.exec = Jvm.exec) {pc q : Nat} {Ls : Array Slot} {S : List Value} {x y : Int64} (z : Int64) (hd : decode c.code pc = .ok (.lmul, 1)) (hq : pc + 1 = q) (hz : x * y = z) (k : ownEnds p e below s Q ck sk T (mkF m q Ls (.long z :: S))) : ownEnds p e below s Q ck sk T (mkF m pc Ls (.long y :: .long x :: S)) := by
  subst hq hz
  exact ownGo (fun _ k => XS.lmul X.here hx rfl hd rfl k) k
theorem ow_iand (X : Stand p l e R s m args below meth c T locs cells slots) (hx : p.tables.exec = Jvm.exec) {pc q : Nat} {Ls : Array Slot} {S : List Value} {x y : Int32} (z : Int32) (hd : decode c.code pc = .ok (.iand, 1)) (hq : pc + 1 = q) (hz : x &&& y = z) (k : ownEnds p e below s Q ck sk T (mkF m q Ls (.int z :: S))) : ownEnds p e below s Q ck sk T (mkF m pc Ls (.int y :: .int x :: S)) := by
  subst hq hz
  exact ownGo (fun _ k => XS.iand X.here hx rfl hd rfl k) k
theorem ow_land (X : Stand p l e R s m args below meth c T locs cells slots) (hx : p.tables.exec = Jvm.exec) {pc q : Nat} {Ls : Array Slot} {S : List Value} {x y : Int64} (z : Int64) (hd : decode c.code pc = .ok (.land, 1)) (hq : pc + 1 = q) (hz : x &&& y = z) (k : ownEnds p e below s Q ck sk T (mkF m q Ls (.long z :: S))) : ownEnds p e below s Q ck sk T (mkF m pc Ls (.long y :: .long x :: S)) := by
  subst hq hz
  exact ownGo (fun _ k => XS.land X.here hx rfl hd rfl k) k
theorem ow_ior (X : Stand p l e R s m args below meth c T locs cells slots) (hx : p.tables.exec = Jvm.exec) {pc q : Nat} {Ls : Array Slot} {S : List Value} {x y : Int32} (z : Int32) (hd : decode c.code pc = .ok (.ior, 1)) (hq : pc + 1 = q) (hz : x ||| y = z) (k : ownEnds p e below s Q ck sk T (mkF m q Ls (.int z :: S))) : ownEnds p e below s Q ck sk T (mkF m pc Ls (.int y :: .int x :: S)) := by
  subst hq hz
  exact ownGo (fun _ k => XS.ior X.here hx rfl hd rfl k) k
theorem ow_lor (X : Stand p l e R s m args below meth c T locs cells slots) (hx : p.tables.exec = Jvm.exec) {pc q : Nat} {Ls : Array Slot} {S : List Value} {x y : Int64} (z : Int64) (hd : decode c.code pc = .ok (.lor, 1)) (hq : pc + 1 = q) (hz : x ||| y = z) (k : ownEnds p e below s Q ck sk T (mkF m q Ls (.long z :: S))) : ownEnds p e below s Q ck sk T (mkF m pc Ls (.long y :: .long x :: S)) := by
  subst hq hz
  exact ownGo (fun _ k => XS.lor X.here hx rfl hd rfl k) k
theorem ow_ixor (X : Stand p l e R s m args below meth c T locs cells slots) (hx : p.tables.exec = Jvm.exec) {pc q : Nat} {Ls : Array Slot} {S : List Value} {x y : Int32} (z : Int32) (hd : decode c.code pc = .ok (.ixor, 1)) (hq : pc + 1 = q) (hz : x ^^^ y = z) (k : ownEnds p e below s Q ck sk T (mkF m q Ls (.int z :: S))) : ownEnds p e below s Q ck sk T (mkF m pc Ls (.int y :: .int x :: S)) := by
  subst hq hz
  exact ownGo (fun _ k => XS.ixor X.here hx rfl hd rfl k) k
theorem ow_lxor (X : Stand p l e R s m args below meth c T locs cells slots) (hx : p.tables.exec = Jvm.exec) {pc q : Nat} {Ls : Array Slot} {S : List Value} {x y : Int64} (z : Int64) (hd : decode c.code pc = .ok (.lxor, 1)) (hq : pc + 1 = q) (hz : x ^^^ y = z) (k : ownEnds p e below s Q ck sk T (mkF m q Ls (.long z :: S))) : ownEnds p e below s Q ck sk T (mkF m pc Ls (.long y :: .long x :: S)) := by
  subst hq hz
  exact ownGo (fun _ k => XS.lxor X.here hx rfl hd rfl k) k
theorem ow_ishl (X : Stand p l e R s m args below meth c T locs cells slots) (hx : p.tables.exec = Jvm.exec) {pc q : Nat} {Ls : Array Slot} {S : List Value} {x y : Int32} (z : Int32) (hd : decode c.code pc = .ok (.ishl, 1)) (hq : pc + 1 = q) (hz : x <<< (y &&& 31) = z) (k : ownEnds p e below s Q ck sk T (mkF m q Ls (.int z :: S))) : ownEnds p e below s Q ck sk T (mkF m pc Ls (.int y :: .int x :: S)) := by
  subst hq hz
  exact ownGo (fun _ k => XS.ishl X.here hx rfl hd rfl k) k
theorem ow_ishr (X : Stand p l e R s m args below meth c T locs cells slots) (hx : p.tables.exec = Jvm.exec) {pc q : Nat} {Ls : Array Slot} {S : List Value} {x y : Int32} (z : Int32) (hd : decode c.code pc = .ok (.ishr, 1)) (hq : pc + 1 = q) (hz : x >>> (y &&& 31) = z) (k : ownEnds p e below s Q ck sk T (mkF m q Ls (.int z :: S))) : ownEnds p e below s Q ck sk T (mkF m pc Ls (.int y :: .int x :: S)) := by
  subst hq hz
  exact ownGo (fun _ k => XS.ishr X.here hx rfl hd rfl k) k
theorem ow_iushr (X : Stand p l e R s m args below meth c T locs cells slots) (hx : p.tables.exec = Jvm.exec) {pc q : Nat} {Ls : Array Slot} {S : List Value} {x y : Int32} (z : Int32) (hd : decode c.code pc = .ok (.iushr, 1)) (hq : pc + 1 = q) (hz : (x.toUInt32 >>> (y &&& 31).toUInt32).toInt32 = z) (k : ownEnds p e below s Q ck sk T (mkF m q Ls (.int z :: S))) : ownEnds p e below s Q ck sk T (mkF m pc Ls (.int y :: .int x :: S)) := by
  subst hq hz
  exact ownGo (fun _ k => XS.iushr X.here hx rfl hd rfl k) k
theorem ow_lshl (X : Stand p l e R s m args below meth c T locs cells slots) (hx : p.tables.exec = Jvm.exec) {pc q : Nat} {Ls : Array Slot} {S : List Value} {x : Int64} {y : Int32} (z : Int64) (hd : decode c.code pc = .ok (.lshl, 1)) (hq : pc + 1 = q) (hz : x <<< (y &&& 0x3f).toInt64 = z) (k : ownEnds p e below s Q ck sk T (mkF m q Ls (.long z :: S))) : ownEnds p e below s Q ck sk T (mkF m pc Ls (.int y :: .long x :: S)) := by
  subst hq hz
  exact ownGo (fun _ k => XS.lshl X.here hx rfl hd rfl k) k
theorem ow_lshr (X : Stand p l e R s m args below meth c T locs cells slots) (hx : p.tables.exec = Jvm.exec) {pc q : Nat} {Ls : Array Slot} {S : List Value} {x : Int64} {y : Int32} (z : Int64) (hd : decode c.code pc = .ok (.lshr, 1)) (hq : pc + 1 = q) (hz : x >>> (y &&& 0x3f).toInt64 = z) (k : ownEnds p e below s Q ck sk T (mkF m q Ls (.long z :: S))) : ownEnds p e below s Q ck sk T (mkF m pc Ls (.int y :: .long x :: S)) := by
  subst hq hz
  exact ownGo (fun _ k => XS.lshr X.here hx rfl hd rfl k) k
theorem ow_lushr (X : Stand p l e R s m args below meth c T locs cells slots) (hx : p.tables.exec = Jvm.exec) {pc q : Nat} {Ls : Array Slot} {S : List Value} {x : Int64} {y : Int32} (z : Int64) (hd : decode c.code pc = .ok (.lushr, 1)) (hq : pc + 1 = q) (hz : (x.toUInt64 >>> (y &&& 0x3f).toInt64.toUInt64).toInt64 = z) (k : ownEnds p e below s Q ck sk T (mkF m q Ls (.long z :: S))) : ownEnds p e below s Q ck sk T (mkF m pc Ls (.int y :: .long x :: S)) := by
  subst hq hz
  exact ownGo (fun _ k => XS.lushr X.here hx rfl hd rfl k) k
theorem ow_ineg (X : Stand p l e R s m args below meth c T locs cells slots) (hx : p.tables.exec = Jvm.exec) {pc q : Nat} {Ls : Array Slot} {S : List Value} {x : Int32} (z : Int32) (hd : decode c.code pc = .ok (.ineg, 1)) (hq : pc + 1 = q) (hz : -x = z) (k : ownEnds p e below s Q ck sk T (mkF m q Ls (.int z :: S))) : ownEnds p e below s Q ck sk T (mkF m pc Ls (.int x :: S)) := by
  subst hq hz
  exact ownGo (fun _ k => XS.ineg X.here hx rfl hd rfl k) k
theorem ow_lneg (X : Stand p l e R s m args below meth c T locs cells slots) (hx : p.tables.exec = Jvm.exec) {pc q : Nat} {Ls : Array Slot} {S : List Value} {x : Int64} (z : Int64) (hd : decode c.code pc = .ok (.lneg, 1)) (hq : pc + 1 = q) (hz : -x = z) (k : ownEnds p e below s Q ck sk T (mkF m q Ls (.long z :: S))) : ownEnds p e below s Q ck sk T (mkF m pc Ls (.long x :: S)) := by
  subst hq hz
  exact ownGo (fun _ k => XS.lneg X.here hx rfl hd rfl k) k
theorem ow_i2l (X : Stand p l e R s m args below meth c T locs cells slots) (hx : p.tables.exec = Jvm.exec) {pc q : Nat} {Ls : Array Slot} {S : List Value} {x : Int32} (z : Int64) (hd : decode c.code pc = .ok (.i2l, 1)) (hq : pc + 1 = q) (hz : x.toInt64 = z) (k : ownEnds p e below s Q ck sk T (mkF m q Ls (.long z :: S))) : ownEnds p e below s Q ck sk T (mkF m pc Ls (.int x :: S)) := by
  subst hq hz
  exact ownGo (fun _ k => XS.i2l X.here hx rfl hd rfl k) k
theorem ow_l2i (X : Stand p l e R s m args below meth c T locs cells slots) (hx : p.tables.exec = Jvm.exec) {pc q : Nat} {Ls : Array Slot} {S : List Value} {x : Int64} (z : Int32) (hd : decode c.code pc = .ok (.l2i, 1)) (hq : pc + 1 = q) (hz : x.toInt32 = z) (k : ownEnds p e below s Q ck sk T (mkF m q Ls (.int z :: S))) : ownEnds p e below s Q ck sk T (mkF m pc Ls (.long x :: S)) := by
  subst hq hz
  exact ownGo (fun _ k => XS.l2i X.here hx rfl hd rfl k) k
theorem ow_i2b (X : Stand p l e R s m args below meth c T locs cells slots) (hx : p.tables.exec = Jvm.exec) {pc q : Nat} {Ls : Array Slot} {S : List Value} {x : Int32} (z : Int32) (hd : decode c.code pc = .ok (.i2b, 1)) (hq : pc + 1 = q) (hz : x.toInt8.toInt32 = z) (k : ownEnds p e below s Q ck sk T (mkF m q Ls (.int z :: S))) : ownEnds p e below s Q ck sk T (mkF m pc Ls (.int x :: S)) := by
  subst hq hz
  exact ownGo (fun _ k => XS.i2b X.here hx rfl hd rfl k) k
theorem ow_i2s (X : Stand p l e R s m args below meth c T locs cells slots) (hx : p.tables.exec = Jvm.exec) {pc q : Nat} {Ls : Array Slot} {S : List Value} {x : Int32} (z : Int32) (hd : decode c.code pc = .ok (.i2s, 1)) (hq : pc + 1 = q) (hz : x.toInt16.toInt32 = z) (k : ownEnds p e below s Q ck sk T (mkF m q Ls (.int z :: S))) : ownEnds p e below s Q ck sk T (mkF m pc Ls (.int x :: S)) := by
  subst hq hz
  exact ownGo (fun _ k => XS.i2s X.here hx rfl hd rfl k) k
theorem ow_i2c (X : Stand p l e R s m args below meth c T locs cells slots) (hx : p.tables.exec = Jvm.exec) {pc q : Nat} {Ls : Array Slot} {S : List Value} {x : Int32} (z : Int32) (hd : decode c.code pc = .ok (.i2c, 1)) (hq : pc + 1 = q) (hz : x.toUInt32.toUInt16.toUInt32.toInt32 = z) (k : ownEnds p e below s Q ck sk T (mkF m q Ls (.int z :: S))) : ownEnds p e below s Q ck sk T (mkF m pc Ls (.int x :: S)) := by
  subst hq hz
  exact ownGo (fun _ k => XS.i2c X.here hx rfl hd rfl k) k
theorem ow_lcmp (X : Stand p l e R s m args below meth c T locs cells slots) (hx : p.tables.exec = Jvm.exec) {pc q : Nat} {Ls : Array Slot} {S : List Value} {x y : Int64} (z : Int32) (hd : decode c.code pc = .ok (.lcmp, 1)) (hq : pc + 1 = q) (hz : Jvm.Free.XT.cmpL x y = z) (k : ownEnds p e below s Q ck sk T (mkF m q Ls (.int z :: S))) : ownEnds p e below s Q ck sk T (mkF m pc Ls (.long y :: .long x :: S)) := by
  subst hq hz
  exact ownGo (fun _ k => Jvm.Free.XT.lcmp X.here hx rfl hd rfl k) k
theorem ow_idiv (X : Stand p l e R s m args below meth c T locs cells slots) (hx : p.tables.exec = Jvm.exec) {pc q : Nat} {Ls : Array Slot} {S : List Value} {x y : Int32} (z : Int32) (hd : decode c.code pc = .ok (.idiv, 1)) (hq : pc + 1 = q) (hy : y ≠ 0) (hz : x / y = z) (k : ownEnds p e below s Q ck sk T (mkF m q Ls (.int z :: S))) : ownEnds p e below s Q ck sk T (mkF m pc Ls (.int y :: .int x :: S)) := by
  subst hq hz
  exact ownGo (fun _ k => XS.idiv X.here hx rfl hd rfl hy k) k
theorem ow_irem (X : Stand p l e R s m args below meth c T locs cells slots) (hx : p.tables.exec = Jvm.exec) {pc q : Nat} {Ls : Array Slot} {S : List Value} {x y : Int32} (z : Int32) (hd : decode c.code pc = .ok (.irem, 1)) (hq : pc + 1 = q) (hy : y ≠ 0) (hz : x % y = z) (k : ownEnds p e below s Q ck sk T (mkF m q Ls (.int z :: S))) : ownEnds p e below s Q ck sk T (mkF m pc Ls (.int y :: .int x :: S)) := by
  subst hq hz
  exact ownGo (fun _ k => iremM X hx rfl hd rfl hy k) k
theorem ow_ldiv (X : Stand p l e R s m args below meth c T locs cells slots) (hx : p.tables.exec = Jvm.exec) {pc q : Nat} {Ls : Array Slot} {S : List Value} {x y : Int64} (z : Int64) (hd : decode c.code pc = .ok (.ldiv, 1)) (hq : pc + 1 = q) (hy : y ≠ 0) (hz : x / y = z) (k : ownEnds p e below s Q ck sk T (mkF m q Ls (.long z :: S))) : ownEnds p e below s Q ck sk T (mkF m pc Ls (.long y :: .long x :: S)) := by
  subst hq hz
  exact ownGo (fun _ k => XS.ldiv X.here hx rfl hd rfl hy k) k
theorem ow_lrem (X : Stand p l e R s m args below meth c T locs cells slots) (hx : p.tables.exec = Jvm.exec) {pc q : Nat} {Ls : Array Slot} {S : List Value} {x y : Int64} (z : Int64) (hd : decode c.code pc = .ok (.lrem, 1)) (hq : pc + 1 = q) (hy : y ≠ 0) (hz : x - (x / y) * y = z) (k : ownEnds p e below s Q ck sk T (mkF m q Ls (.long z :: S))) : ownEnds p e below s Q ck sk T (mkF m pc Ls (.long y :: .long x :: S)) := by
  subst hq hz
  exact ownGo (fun _ k => XS.lrem X.here hx rfl hd rfl hy k) k
theorem ow_iinc (X : Stand p l e R s m args below meth c T locs cells slots) (hx : p.tables.exec = Jvm.exec) {pc q : Nat} {Ls : Array Slot} {S : List Value} {k : Nat} {i : Int} {x : Int32} {L' : Array Slot} (hd : decode c.code pc = .ok (.iinc k i, 3)) (hq : pc + 3 = q) (hl : Ls[k]? = some (.val (.int x))) (hl' : storeLocals Ls k (.int (x + Int32.ofInt i)) = some L') (k : ownEnds p e below s Q ck sk T (mkF m q L' S)) : ownEnds p e below s Q ck sk T (mkF m pc Ls S) := by
  subst hq
  exact ownGo (fun _ k => XS.iinc X.here hx rfl hd hl hl' k) k
theorem ow_dup (X : Stand p l e R s m args below meth c T locs cells slots) (hx : p.tables.exec = Jvm.exec) {pc q : Nat} {Ls : Array Slot} {S : List Value} {v : Value} (hd : decode c.code pc = .ok (.dup, 1)) (hq : pc + 1 = q) (hc : v.category = 1) (k : ownEnds p e below s Q ck sk T (mkF m q Ls (v :: v :: S))) : ownEnds p e below s Q ck sk T (mkF m pc Ls (v :: S)) := by
  subst hq
  exact ownGo (fun _ k => XS.dup X.here hx rfl hd rfl hc k) k
theorem ow_dupX1 (X : Stand p l e R s m args below meth c T locs cells slots) (hx : p.tables.exec = Jvm.exec) {pc q : Nat} {Ls : Array Slot} {S : List Value} {v w : Value} (hd : decode c.code pc = .ok (.dup_x1, 1)) (hq : pc + 1 = q) (hc : v.category = 1) (hc' : w.category = 1) (k : ownEnds p e below s Q ck sk T (mkF m q Ls (v :: w :: v :: S))) : ownEnds p e below s Q ck sk T (mkF m pc Ls (v :: w :: S)) := by
  subst hq
  exact ownGo (fun _ k => XS.dupX1 X.here hx rfl hd rfl hc hc' k) k
theorem ow_dup2 (X : Stand p l e R s m args below meth c T locs cells slots) (hx : p.tables.exec = Jvm.exec) {pc q : Nat} {Ls : Array Slot} {S : List Value} {v w : Value} (hd : decode c.code pc = .ok (.dup2, 1)) (hq : pc + 1 = q) (hc : v.category = 1) (hc' : w.category = 1) (k : ownEnds p e below s Q ck sk T (mkF m q Ls (v :: w :: v :: w :: S))) : ownEnds p e below s Q ck sk T (mkF m pc Ls (v :: w :: S)) := by
  subst hq
  exact ownGo (fun _ k => Jvm.Free.XT.dup2 X.here hx rfl hd rfl hc hc' k) k
theorem ow_dup2L (X : Stand p l e R s m args below meth c T locs cells slots) (hx : p.tables.exec = Jvm.exec) {pc q : Nat} {Ls : Array Slot} {S : List Value} {v : Int64} (hd : decode c.code pc = .ok (.dup2, 1)) (hq : pc + 1 = q) (k : ownEnds p e below s Q ck sk T (mkF m q Ls (.long v :: .long v :: S))) : ownEnds p e below s Q ck sk T (mkF m pc Ls (.long v :: S)) := by
  subst hq
  exact ownGo (fun _ k => Jvm.Free.XT.dup2L X.here hx rfl hd rfl k) k
theorem ow_pop (X : Stand p l e R s m args below meth c T locs cells slots) (hx : p.tables.exec = Jvm.exec) {pc q : Nat} {Ls : Array Slot} {S : List Value} {v : Value} (hd : decode c.code pc = .ok (.pop, 1)) (hq : pc + 1 = q) (hc : v.category = 1) (k : ownEnds p e below s Q ck sk T (mkF m q Ls S)) : ownEnds p e below s Q ck sk T (mkF m pc Ls (v :: S)) := by
  subst hq
  exact ownGo (fun _ k => XS.pop X.here hx rfl hd rfl hc k) k
theorem ow_aconstNull (X : Stand p l e R s m args below meth c T locs cells slots) (hx : p.tables.exec = Jvm.exec) {pc q : Nat} {Ls : Array Slot} {S : List Value}  (hd : decode c.code pc = .ok (.aconst_null, 1)) (hq : pc + 1 = q) (k : ownEnds p e below s Q ck sk T (mkF m q Ls (.null :: S))) : ownEnds p e below s Q ck sk T (mkF m pc Ls S) := by
  subst hq
  exact ownGo (fun _ k => XS.aconstNull X.here hx rfl hd k) k
theorem ow_goto (X : Stand p l e R s m args below meth c T locs cells slots) (hx : p.tables.exec = Jvm.exec) {pc q : Nat} {Ls : Array Slot} {S : List Value} {o : Int} (hd : decode c.code pc = .ok (.goto o, 3)) (ho : 0 ≤ (pc : Int) + o) (hp : ((pc : Int) + o).toNat = q) (k : ownEnds p e below s Q ck sk T (mkF m q Ls S)) : ownEnds p e below s Q ck sk T (mkF m pc Ls S) :=
  ownGo (fun _ k => XS.goto X.here hx rfl rfl hd ho hp k) k
theorem ow_ifYes (X : Stand p l e R s m args below meth c T locs cells slots) (hx : p.tables.exec = Jvm.exec) {pc q : Nat} {Ls : Array Slot} {S : List Value} {cd : ClassFile.Cond} {o : Int} {x : Int32} (hd : decode c.code pc = .ok (.ifCond cd o, 3)) (hc : ifCond.holds cd x = true) (ho : 0 ≤ (pc : Int) + o) (hp : ((pc : Int) + o).toNat = q) (k : ownEnds p e below s Q ck sk T (mkF m q Ls S)) : ownEnds p e below s Q ck sk T (mkF m pc Ls (.int x :: S)) :=
  ownGo (fun _ k => XS.ifYes X.here hx rfl rfl hd rfl hc ho hp k) k
theorem ow_ifNo (X : Stand p l e R s m args below meth c T locs cells slots) (hx : p.tables.exec = Jvm.exec) {pc q : Nat} {Ls : Array Slot} {S : List Value} {cd : ClassFile.Cond} {o : Int} {x : Int32} (hd : decode c.code pc = .ok (.ifCond cd o, 3)) (hq : pc + 3 = q) (hc : ifCond.holds cd x = false) (k : ownEnds p e below s Q ck sk T (mkF m q Ls S)) : ownEnds p e below s Q ck sk T (mkF m pc Ls (.int x :: S)) := by
  subst hq
  exact ownGo (fun _ k => XS.ifNo X.here hx rfl hd rfl hc k) k
theorem ow_icmpYes (X : Stand p l e R s m args below meth c T locs cells slots) (hx : p.tables.exec = Jvm.exec) {pc q : Nat} {Ls : Array Slot} {S : List Value} {cd : ClassFile.Cond} {o : Int} {x y : Int32} (hd : decode c.code pc = .ok (.if_icmp cd o, 3)) (hc : if_icmp.holds cd x y = true) (ho : 0 ≤ (pc : Int) + o) (hp : ((pc : Int) + o).toNat = q) (k : ownEnds p e below s Q ck sk T (mkF m q Ls S)) : ownEnds p e below s Q ck sk T (mkF m pc Ls (.int y :: .int x :: S)) :=
  ownGo (fun _ k => XS.icmpYes X.here hx rfl rfl hd rfl hc ho hp k) k
theorem ow_icmpNo (X : Stand p l e R s m args below meth c T locs cells slots) (hx : p.tables.exec = Jvm.exec) {pc q : Nat} {Ls : Array Slot} {S : List Value} {cd : ClassFile.Cond} {o : Int} {x y : Int32} (hd : decode c.code pc = .ok (.if_icmp cd o, 3)) (hq : pc + 3 = q) (hc : if_icmp.holds cd x y = false) (k : ownEnds p e below s Q ck sk T (mkF m q Ls S)) : ownEnds p e below s Q ck sk T (mkF m pc Ls (.int y :: .int x :: S)) := by
  subst hq
  exact ownGo (fun _ k => XS.icmpNo X.here hx rfl hd rfl hc k) k
end OwnSteps
theorem own_nn {x : Int32} (h : 0 ≤ x.toInt) : x.toInt = (x.toBitVec.toNat : Int) ∧ x.toBitVec.toNat < 2147483648 := by
  have h1 : x.toInt = x.toBitVec.toInt := rfl
  have h2 := x.toBitVec.isLt
  rw [BitVec.toInt_eq_toNat_cond] at h1
  split at h1 <;> omega
theorem own_of_small {x : Int32} (h : x.toBitVec.toNat < 2147483648) : x.toInt = (x.toBitVec.toNat : Int) := by
  have h1 : x.toInt = x.toBitVec.toInt := rfl
  rw [BitVec.toInt_eq_toNat_cond] at h1
  split at h1 <;> omega
theorem own_or {x y : Int32} (k : Nat) (hk : k ≤ 31) (hx : 0 ≤ x.toInt) (hxm : x.toInt % ((2 ^ k : Nat) : Int) = 0) (hy : 0 ≤ y.toInt) (hyl : y.toInt < ((2 ^ k : Nat) : Int)) : (x ||| y).toInt = x.toInt + y.toInt := by
  obtain ⟨ex, lx⟩ := own_nn hx
  obtain ⟨ey, ly⟩ := own_nn hy
  have hp : 0 < 2 ^ k := Nat.two_pow_pos k
  have hX : x.toBitVec.toNat % 2 ^ k = 0 := by
    rw [ex] at hxm
    exact_mod_cast hxm
  have hY : y.toBitVec.toNat < 2 ^ k := by rw [ey] at hyl; exact_mod_cast hyl
  have hdvd : 2 ^ k * (x.toBitVec.toNat / 2 ^ k) = x.toBitVec.toNat := by
    have := Nat.div_add_mod x.toBitVec.toNat (2 ^ k)
    omega
  have hor : (x ||| y).toBitVec.toNat = x.toBitVec.toNat + y.toBitVec.toNat := by
    rw [Int32.toBitVec_or, BitVec.toNat_or]
    have := Nat.two_pow_add_eq_or_of_lt hY (x.toBitVec.toNat / 2 ^ k)
    rw [hdvd] at this
    exact this.symm
  have hlt : x.toBitVec.toNat + y.toBitVec.toNat < 2147483648 := by
    have h31 : 2 ^ k * 2 ^ (31 - k) = 2147483648 := by rw [← Nat.pow_add, Nat.add_sub_cancel' hk]
    have h1 : x.toBitVec.toNat / 2 ^ k < 2 ^ (31 - k) := by
      rw [Nat.div_lt_iff_lt_mul hp, Nat.mul_comm, h31]; exact lx
    have h2 : 2 ^ k * (x.toBitVec.toNat / 2 ^ k + 1) ≤ 2 ^ k * 2 ^ (31 - k) := Nat.mul_le_mul_left _ h1
    rw [Nat.mul_add, hdvd, h31] at h2
    omega
  rw [own_of_small (by rw [hor]; exact hlt), hor, ex, ey]
  omega
theorem own_b255 {x b : Int32} (h : x.toInt8.toInt32 = b) : (b &&& (255 : Int32)).toInt = x.toInt % 256 := by
  have h1 := Jvm.Kit.i32_mask b 255 (k := 8) (by decide) (by decide)
  rw [h1, ← h, Int8.toInt_toInt32, Int32.toInt_toInt8]
  exact Int.bmod_emod
theorem own_b63 {x b : Int32} (h : x.toInt8.toInt32 = b) : (b &&& (63 : Int32)).toInt = x.toInt % 64 := by
  have h1 := Jvm.Kit.i32_mask b 63 (k := 6) (by decide) (by decide)
  have h2 := own_b255 h
  have h3 := Jvm.Kit.i32_mask b 255 (k := 8) (by decide) (by decide)
  rw [h1]
  omega
def own_step (c b : Int32) : Int32 := ((c <<< ((6 : Int32) &&& 31)) ||| (b &&& (63 : Int32)))
def own_dec1 (b0 : Int32) : Int32 := (b0 &&& (255 : Int32))
def own_dec2 (b0 b1 : Int32) : Int32 := own_step ((b0 &&& (255 : Int32)) &&& (31 : Int32)) b1
def own_dec3 (b0 b1 b2 : Int32) : Int32 := own_step (own_step ((b0 &&& (255 : Int32)) &&& (15 : Int32)) b1) b2
def own_dec4 (b0 b1 b2 b3 : Int32) : Int32 := own_step (own_step (own_step ((b0 &&& (255 : Int32)) &&& (7 : Int32)) b1) b2) b3
theorem own_stepv {c b x : Int32} (hb : x.toInt8.toInt32 = b) (h0 : 0 ≤ c.toInt) (h1 : c.toInt < 16777216) : (own_step c b).toInt = c.toInt * 64 + x.toInt % 64 := by
  unfold own_step
  have e1 := Jvm.Kit.i32_shl c ((6 : Int32) &&& 31) (k := 6) (by decide) (by omega) (by omega)
  have e2 := own_b63 hb
  rw [own_or 6 (by decide) (by rw [e1]; omega) (by rw [e1]; omega) (by rw [e2]; omega) (by rw [e2]; omega), e1, e2]
  rfl
theorem own_m31 (b m : Int32) {k : Nat} (hk : k < 32) (hm : m.toBitVec.toNat = 2 ^ k - 1) {x : Int32} (hb : x.toInt8.toInt32 = b) : ((b &&& (255 : Int32)) &&& m).toInt = x.toInt % 256 % 2 ^ k := by
  rw [Jvm.Kit.i32_mask _ m hk hm, own_b255 hb]
theorem own_128 (y : Int32) (h0 : 0 ≤ y.toInt) (h1 : y.toInt < 64) : ((128 : Int32) ||| y).toInt = 128 + y.toInt := own_or 6 (by decide) (by decide) (by decide) h0 (by omega)
theorem own_rt1 {cp b0 : Int32} (h : 0 ≤ cp.toInt ∧ cp.toInt < 256) (e0 : (cp.toInt8.toInt32) = b0) : own_dec1 b0 = cp := by
  apply Int32.toInt_inj.mp
  unfold own_dec1
  rw [own_b255 e0]
  omega
theorem own_rt2 {cp b0 b1 : Int32} (h : 128 ≤ cp.toInt ∧ cp.toInt < 2048) (e0 : (((192 : Int32) ||| (cp >>> ((6 : Int32) &&& 31))).toInt8.toInt32) = b0) (e1 : (((128 : Int32) ||| (cp &&& (63 : Int32))).toInt8.toInt32) = b1) : own_dec2 b0 b1 = cp := by
  have s1 := Jvm.Kit.i32_shr cp ((6 : Int32) &&& 31) (k := 6) (by decide)
  have m1 := Jvm.Kit.i32_mask cp 63 (k := 6) (by decide) (by decide)
  have o0 : ((192 : Int32) ||| (cp >>> ((6 : Int32) &&& 31))).toInt = 192 + (cp >>> ((6 : Int32) &&& 31)).toInt := own_or 6 (by decide) (by decide) (by decide) (by rw [s1]; omega) (by rw [s1]; omega)
  have o1 := own_128 (cp &&& 63) (by rw [m1]; omega) (by rw [m1]; omega)
  have c0 := own_m31 b0 31 (k := 5) (by decide) (by decide) e0
  apply Int32.toInt_inj.mp
  unfold own_dec2
  rw [own_stepv e1 (by rw [c0]; omega) (by rw [c0]; omega), c0, o0, o1, s1, m1]
  omega
theorem own_rt3 {cp b0 b1 b2 : Int32} (h : 2048 ≤ cp.toInt ∧ cp.toInt < 65536) (e0 : (((224 : Int32) ||| (cp >>> ((12 : Int32) &&& 31))).toInt8.toInt32) = b0) (e1 : (((128 : Int32) ||| ((cp >>> ((6 : Int32) &&& 31)) &&& (63 : Int32))).toInt8.toInt32) = b1) (e2 : (((128 : Int32) ||| (cp &&& (63 : Int32))).toInt8.toInt32) = b2) : own_dec3 b0 b1 b2 = cp := by
  have s0 := Jvm.Kit.i32_shr cp ((12 : Int32) &&& 31) (k := 12) (by decide)
  have s1 := Jvm.Kit.i32_shr cp ((6 : Int32) &&& 31) (k := 6) (by decide)
  have m1 := Jvm.Kit.i32_mask (cp >>> ((6 : Int32) &&& 31)) 63 (k := 6) (by decide) (by decide)
  have m2 := Jvm.Kit.i32_mask cp 63 (k := 6) (by decide) (by decide)
  have o0 : ((224 : Int32) ||| (cp >>> ((12 : Int32) &&& 31))).toInt = 224 + (cp >>> ((12 : Int32) &&& 31)).toInt := own_or 5 (by decide) (by decide) (by decide) (by rw [s0]; omega) (by rw [s0]; omega)
  have o1 := own_128 ((cp >>> ((6 : Int32) &&& 31)) &&& 63) (by rw [m1]; omega) (by rw [m1]; omega)
  have o2 := own_128 (cp &&& 63) (by rw [m2]; omega) (by rw [m2]; omega)
  have c0 := own_m31 b0 15 (k := 4) (by decide) (by decide) e0
  have t1 := own_stepv (c := (b0 &&& (255 : Int32)) &&& (15 : Int32)) e1 (by rw [c0]; omega) (by rw [c0]; omega)
  apply Int32.toInt_inj.mp
  unfold own_dec3
  rw [own_stepv e2 (by rw [t1, c0]; omega) (by rw [t1, c0]; omega), t1, c0, o0, o1, o2, s0, m1, m2, s1]
  omega
theorem own_rt4 {cp b0 b1 b2 b3 : Int32} (h : 65536 ≤ cp.toInt ∧ cp.toInt < 1114112) (e0 : (((240 : Int32) ||| (cp >>> ((18 : Int32) &&& 31))).toInt8.toInt32) = b0) (e1 : (((128 : Int32) ||| ((cp >>> ((12 : Int32) &&& 31)) &&& (63 : Int32))).toInt8.toInt32) = b1) (e2 : (((128 : Int32) ||| ((cp >>> ((6 : Int32) &&& 31)) &&& (63 : Int32))).toInt8.toInt32) = b2) (e3 : (((128 : Int32) ||| (cp &&& (63 : Int32))).toInt8.toInt32) = b3) : own_dec4 b0 b1 b2 b3 = cp := by
  have s0 := Jvm.Kit.i32_shr cp ((18 : Int32) &&& 31) (k := 18) (by decide)
  have s1 := Jvm.Kit.i32_shr cp ((12 : Int32) &&& 31) (k := 12) (by decide)
  have s2 := Jvm.Kit.i32_shr cp ((6 : Int32) &&& 31) (k := 6) (by decide)
  have m1 := Jvm.Kit.i32_mask (cp >>> ((12 : Int32) &&& 31)) 63 (k := 6) (by decide) (by decide)
  have m2 := Jvm.Kit.i32_mask (cp >>> ((6 : Int32) &&& 31)) 63 (k := 6) (by decide) (by decide)
  have m3 := Jvm.Kit.i32_mask cp 63 (k := 6) (by decide) (by decide)
  have o0 : ((240 : Int32) ||| (cp >>> ((18 : Int32) &&& 31))).toInt = 240 + (cp >>> ((18 : Int32) &&& 31)).toInt := own_or 4 (by decide) (by decide) (by decide) (by rw [s0]; omega) (by rw [s0]; omega)
  have o1 := own_128 ((cp >>> ((12 : Int32) &&& 31)) &&& 63) (by rw [m1]; omega) (by rw [m1]; omega)
  have o2 := own_128 ((cp >>> ((6 : Int32) &&& 31)) &&& 63) (by rw [m2]; omega) (by rw [m2]; omega)
  have o3 := own_128 (cp &&& 63) (by rw [m3]; omega) (by rw [m3]; omega)
  have c0 := own_m31 b0 7 (k := 3) (by decide) (by decide) e0
  have t1 := own_stepv (c := (b0 &&& (255 : Int32)) &&& (7 : Int32)) e1 (by rw [c0]; omega) (by rw [c0]; omega)
  have t2 := own_stepv (c := own_step ((b0 &&& (255 : Int32)) &&& (7 : Int32)) b1) e2 (by rw [t1, c0]; omega) (by rw [t1, c0]; omega)
  apply Int32.toInt_inj.mp
  unfold own_dec4
  rw [own_stepv e3 (by rw [t2, t1, c0]; omega) (by rw [t2, t1, c0]; omega), t2, t1, c0, o0, o1, o2, o3, s0, m1, m2, m3, s1, s2]
  omega
def own_R (ln cp : Int32) : Prop := (ln = 1 ∧ 0 ≤ cp.toInt ∧ cp.toInt < 256) ∨ (ln = 2 ∧ 128 ≤ cp.toInt ∧ cp.toInt < 2048) ∨ (ln = 3 ∧ 2048 ≤ cp.toInt ∧ cp.toInt < 65536) ∨ (ln = 4 ∧ 65536 ≤ cp.toInt ∧ cp.toInt < 1114112)
theorem own_lens {ln cp : Int32} (h : own_R ln cp) : ln = (1 : Int32) ∨ ln = (2 : Int32) ∨ ln = (3 : Int32) ∨ ln = (4 : Int32) := by
  rcases h with h | h | h | h
  · exact Or.inl h.1
  · exact Or.inr (Or.inl h.1)
  · exact Or.inr (Or.inr (Or.inl h.1))
  · exact Or.inr (Or.inr (Or.inr h.1))
theorem own_R1 {cp : Int32} (h : own_R (1 : Int32) cp) : 0 ≤ cp.toInt ∧ cp.toInt < 256 := by
  rcases h with h | h | h | h
  · exact h.2
  all_goals exact absurd h.1 (by decide)
theorem own_R2 {cp : Int32} (h : own_R (2 : Int32) cp) : 128 ≤ cp.toInt ∧ cp.toInt < 2048 := by
  rcases h with h | h | h | h
  · exact absurd h.1 (by decide)
  · exact h.2
  all_goals exact absurd h.1 (by decide)
theorem own_R3 {cp : Int32} (h : own_R (3 : Int32) cp) : 2048 ≤ cp.toInt ∧ cp.toInt < 65536 := by
  rcases h with h | h | h | h
  · exact absurd h.1 (by decide)
  · exact absurd h.1 (by decide)
  · exact h.2
  · exact absurd h.1 (by decide)
theorem own_R4 {cp : Int32} (h : own_R (4 : Int32) cp) : 65536 ≤ cp.toInt ∧ cp.toInt < 1114112 := by
  rcases h with h | h | h | h
  · exact absurd h.1 (by decide)
  · exact absurd h.1 (by decide)
  · exact absurd h.1 (by decide)
  · exact h.2
theorem own_c1 {p cp : Int32} (h : (p &&& (255 : Int32)) = cp) : own_R (1 : Int32) cp := by
  have m := Jvm.Kit.i32_mask p 255 (k := 8) (by decide) (by decide)
  rw [h] at m
  exact Or.inl ⟨rfl, by omega, by omega⟩
theorem own_u {p u m : Int32} (h : (p &&& (2147483647 : Int32)) = u) (hm : 0 < m.toInt) : 0 ≤ (u % m).toInt ∧ (u % m).toInt < m.toInt := by
  have h1 := Jvm.Kit.i32_mask p 2147483647 (k := 31) (by decide) (by decide)
  rw [h] at h1
  have h2 : 0 ≤ u.toInt := by rw [h1]; exact Int.emod_nonneg _ (by decide)
  rw [Jvm.Kit.i32_rem_nonneg h2]
  exact ⟨Int.emod_nonneg _ (by omega), Int.emod_lt_of_pos _ hm⟩
theorem own_sum {p u cp m k : Int32} (h : (p &&& (2147483647 : Int32)) = u) (hm : 0 < m.toInt) (hk : 0 ≤ k.toInt) (hs : k.toInt + m.toInt < 2147483648) (e : k + (u % m) = cp) : k.toInt ≤ cp.toInt ∧ cp.toInt < k.toInt + m.toInt := by
  have := own_u h hm
  rw [← e, Jvm.Kit.i32_add (by omega) (by omega)]
  omega
theorem own_c2 {p u cp : Int32} (h : (p &&& (2147483647 : Int32)) = u) (e : ((128 : Int32) + (u % (1920 : Int32))) = cp) : own_R (2 : Int32) cp := by
  have := own_sum h (by decide) (by decide) (by decide) e
  simp only [Int32.reduceToInt] at this
  exact Or.inr (Or.inl ⟨rfl, by omega, by omega⟩)
theorem own_c3 {p u cp : Int32} (h : (p &&& (2147483647 : Int32)) = u) (e : ((2048 : Int32) + (u % (63488 : Int32))) = cp) : own_R (3 : Int32) cp := by
  have := own_sum h (by decide) (by decide) (by decide) e
  simp only [Int32.reduceToInt] at this
  exact Or.inr (Or.inr (Or.inl ⟨rfl, by omega, by omega⟩))
theorem own_c3s {p u cp cq : Int32} (h : (p &&& (2147483647 : Int32)) = u) (e : ((2048 : Int32) + (u % (63488 : Int32))) = cp) (hc : ¬ cp < (55296 : Int32)) (e2 : (cp - (2048 : Int32)) = cq) : own_R (3 : Int32) cq := by
  have := own_sum h (by decide) (by decide) (by decide) e
  simp only [Int32.reduceToInt, Int32.lt_iff_toInt_lt] at this hc
  have h2 := Jvm.Kit.i32_sub (p := cp) (q := 2048) (by simp only [Int32.reduceToInt]; omega) (by simp only [Int32.reduceToInt]; omega)
  rw [e2] at h2
  simp only [Int32.reduceToInt] at h2
  exact Or.inr (Or.inr (Or.inl ⟨rfl, by omega, by omega⟩))
theorem own_c4 {p u cp : Int32} (h : (p &&& (2147483647 : Int32)) = u) (e : ((65536 : Int32) + (u % (1048576 : Int32))) = cp) : own_R (4 : Int32) cp := by
  have := own_sum h (by decide) (by decide) (by decide) e
  simp only [Int32.reduceToInt] at this
  exact Or.inr (Or.inr (Or.inr ⟨rfl, by omega, by omega⟩))
theorem own_four {a v : Int32} (h : (a &&& (2147483647 : Int32)) % (4 : Int32) = v) : v = (0 : Int32) ∨ v = (1 : Int32) ∨ v = (2 : Int32) ∨ v = (3 : Int32) := by
  have := own_u (m := 4) (rfl : (a &&& (2147483647 : Int32)) = _) (by decide)
  rw [h] at this
  simp only [← Int32.toInt_inj, Int32.reduceToInt] at this ⊢
  omega
theorem own_pn_XmlChars : plainName "com/example/descend/descend/XmlChars" = true := by first | (simp [plainName, overriddenIn]; done) | decide +kernel
theorem own_d1_0 : decode prog_24_method_15_code 0 = .ok (.aload_n 0, 1) := by decide +kernel
theorem own_d1_1 : decode prog_24_method_15_code 1 = .ok (.iload_n 1, 1) := by decide +kernel
theorem own_d1_2 : decode prog_24_method_15_code 2 = .ok (.baload, 1) := by decide +kernel
theorem own_d1_3 : decode prog_24_method_15_code 3 = .ok (.sipush 255, 3) := by decide +kernel
theorem own_d1_6 : decode prog_24_method_15_code 6 = .ok (.iand, 1) := by decide +kernel
theorem own_d1_7 : decode prog_24_method_15_code 7 = .ok (.istore_n 3, 1) := by decide +kernel
theorem own_d1_8 : decode prog_24_method_15_code 8 = .ok (.iload_n 2, 1) := by decide +kernel
theorem own_d1_9 : decode prog_24_method_15_code 9 = .ok (.iconst 1, 1) := by decide +kernel
theorem own_d1_10 : decode prog_24_method_15_code 10 = .ok (.if_icmp .ne 9, 3) := by decide +kernel
theorem own_d1_13 : decode prog_24_method_15_code 13 = .ok (.iload_n 3, 1) := by decide +kernel
theorem own_d1_14 : decode prog_24_method_15_code 14 = .ok (.istore 4, 2) := by decide +kernel
theorem own_d1_16 : decode prog_24_method_15_code 16 = .ok (.goto 46, 3) := by decide +kernel
theorem own_d1_62 : decode prog_24_method_15_code 62 = .ok (.iload 4, 2) := by decide +kernel
theorem own_d1_64 : decode prog_24_method_15_code 64 = .ok (.ireturn, 1) := by decide +kernel
theorem own_ef1_dec_1_0 (m : MethodId) (a0 : Addr) : entryFrame m #[(.ref a0), (.int (0 : Int32)), (.int (1 : Int32))] 6 = mkF m 0 #[rv a0, iv (0 : Int32), iv (1 : Int32), .unset, .unset, .unset] [] := by first | (simp [entryFrame, mkF, argsToLocals, Value.category]; done) | rfl
def Q_dec_1_0 (Z : State) (a0 : Addr) (g : Nat → Int32) (h0 : Heap) (n0 : Nat) (v : Option Value) (h : Heap) (L : List Loc) : Prop := v = some (.int (own_dec1 (g 0))) ∧ Fr n0 L ∧ h = h0
set_option maxRecDepth 65536 in
set_option maxHeartbeats 40000000 in
theorem rm_dec_1_0 (l : Launch) (Z : State) (a0 : Array Value) (hw : ∀ d ∈ tables_1, d.before a0 Z = true) (ws : List Jvm.Cond) (a0 : Addr) (g : Nat → Int32) (h0 : Heap) (n0 : Nat) (Z0 : n0 ≤ h0.size) (HF0 : ownAI Z h0 a0 .byte 7 g) :
    MetFree l (⟨"com/example/descend/descend/XmlChars", "decode", "([BII)I"⟩ : MethodName) (head1 (Jvm.Cond.code (⟨"com/example/descend/descend/XmlChars", "decode", "([BII)I"⟩ : MethodName) prog_24_method_15_code 6 (some .int) :: ws) ({ frames := 0, cells := 0, slots := 0, locals := 0 } : Room)) (fun a U => a = #[(.ref a0), (.int (0 : Int32)), (.int (1 : Int32))] ∧ Z.Warmed39 U.vm ∧ U.heap = h0) (fun _ _ _ _ _ => True) (fun _ U o U' => ∃ v L, o = .returned v ∧ (Q_dec_1_0 Z a0 g h0 n0) v U'.heap L ∧ FrameEnd U o U' L ({ frames := 0, cells := 0, slots := 0, locals := 0 } : Room).cells ({ frames := 0, cells := 0, slots := 0, locals := 0 } : Room).slots) := by
  refine MetFree.of_bodySF (plainFor_of_name own_pn_XmlChars) hisR ?_
  intro p e s m args below meth c s₁ Bd hml0 hP hK
  obtain ⟨rfl, hZ, hh⟩ := hP
  have hx := Bd.exec
  have hby := Bd.bytes
  have hml : c.maxLocals = 6 := hml0
  have hown : s.vm.findClass "com/example/descend/descend/XmlChars" = some m.cls := findClass_of_methodNamed Bd.named
  have hnm := (name_of_methodNamed Bd.named Bd.method).1
  have hlk : meth.locks = false := BodyLoose.notSynchronized Bd
  have X0 : Stand p l e ({ frames := 0, cells := 0, slots := 0, locals := 0 } : Room) s m #[(.ref a0), (.int (0 : Int32)), (.int (1 : Int32))] below meth c s₁ [] 0 0 := Stand.of_body Bd
  have e0 : s₁.heap = h0 := by rw [← hh, Bd.state]; rfl
  have N0 := Fr.nil n0
  have K0 : Keep h0 h0 [] := Keep.refl _ _
  show ownEnds p e below s (Q_dec_1_0 Z a0 g h0 n0) ({ frames := 0, cells := 0, slots := 0, locals := 0 } : Room).cells ({ frames := 0, cells := 0, slots := 0, locals := 0 } : Room).slots s₁ (entryFrame m #[(.ref a0), (.int (0 : Int32)), (.int (1 : Int32))] 6)
  refine ownCast (own_ef1_dec_1_0 m a0) ?_
  refine ow_aloadN (q := 1) X0 hx (hb hby own_d1_0) rfl rfl rfl ?_
  refine ow_iloadN (q := 2) X0 hx (hb hby own_d1_1) rfl rfl ?_
  refine ownGo (T' := s₁) (f' := (mkF m 3 #[rv a0, iv (0 : Int32), iv (1 : Int32), .unset, .unset, .unset] [(.int (g 0))])) (ownBaload HF0 X0 hx hZ e0 (j := (0 : Int32)) (by unfold ownIn; decide) (g := (mkF m 2 #[rv a0, iv (0 : Int32), iv (1 : Int32), .unset, .unset, .unset] [(.int (0 : Int32)), (.ref a0)])) rfl rfl (hb hby own_d1_2)) ?_
  generalize hv_v1 : (g 0) = v1
  refine ow_sipush (q := 6) X0 hx (255 : Int32) (hb hby own_d1_3) rfl rfl ?_
  refine ow_iand (q := 7) X0 hx _ (hb hby own_d1_6) rfl rfl ?_
  generalize hv_v2 : (v1 &&& (255 : Int32)) = v2
  refine ow_istoreN (q := 8) X0 hx (L' := #[rv a0, iv (0 : Int32), iv (1 : Int32), iv v2, .unset, .unset]) (hb hby own_d1_7) rfl rfl ?_
  refine ow_iloadN (q := 9) X0 hx (hb hby own_d1_8) rfl rfl ?_
  refine ow_iconst (q := 10) X0 hx (1 : Int32) (hb hby own_d1_9) rfl rfl ?_
  refine ow_icmpNo (q := 13) X0 hx (hb hby own_d1_10) rfl (Jvm.Free.XT.ii_ne_f (by decide)) ?_
  refine ow_iloadN (q := 14) X0 hx (hb hby own_d1_13) rfl rfl ?_
  refine ow_istore (q := 16) X0 hx (L' := #[rv a0, iv (0 : Int32), iv (1 : Int32), iv v2, iv v2, .unset]) (hb hby own_d1_14) rfl rfl ?_
  refine ow_goto (q := 62) X0 hx (hb hby own_d1_16) (by decide) (by decide) ?_
  refine ow_iload (q := 64) X0 hx (hb hby own_d1_62) rfl rfl ?_
  refine ownRetI X0 hx Bd.returns (hb hby own_d1_64) hlk (by decide) (by decide) ?_
  subst hv_v2 hv_v1
  rw [e0]
  refine ⟨congrArg (fun q => some (Value.int q)) ?_, N0, rfl⟩
  rfl
theorem own_ef1_dec_1_1 (m : MethodId) (a0 : Addr) : entryFrame m #[(.ref a0), (.int (1 : Int32)), (.int (1 : Int32))] 6 = mkF m 0 #[rv a0, iv (1 : Int32), iv (1 : Int32), .unset, .unset, .unset] [] := by first | (simp [entryFrame, mkF, argsToLocals, Value.category]; done) | rfl
def Q_dec_1_1 (Z : State) (a0 : Addr) (g : Nat → Int32) (h0 : Heap) (n0 : Nat) (v : Option Value) (h : Heap) (L : List Loc) : Prop := v = some (.int (own_dec1 (g 1))) ∧ Fr n0 L ∧ h = h0
set_option maxRecDepth 65536 in
set_option maxHeartbeats 40000000 in
theorem rm_dec_1_1 (l : Launch) (Z : State) (a0 : Array Value) (hw : ∀ d ∈ tables_1, d.before a0 Z = true) (ws : List Jvm.Cond) (a0 : Addr) (g : Nat → Int32) (h0 : Heap) (n0 : Nat) (Z0 : n0 ≤ h0.size) (HF0 : ownAI Z h0 a0 .byte 7 g) :
    MetFree l (⟨"com/example/descend/descend/XmlChars", "decode", "([BII)I"⟩ : MethodName) (head1 (Jvm.Cond.code (⟨"com/example/descend/descend/XmlChars", "decode", "([BII)I"⟩ : MethodName) prog_24_method_15_code 6 (some .int) :: ws) ({ frames := 0, cells := 0, slots := 0, locals := 0 } : Room)) (fun a U => a = #[(.ref a0), (.int (1 : Int32)), (.int (1 : Int32))] ∧ Z.Warmed39 U.vm ∧ U.heap = h0) (fun _ _ _ _ _ => True) (fun _ U o U' => ∃ v L, o = .returned v ∧ (Q_dec_1_1 Z a0 g h0 n0) v U'.heap L ∧ FrameEnd U o U' L ({ frames := 0, cells := 0, slots := 0, locals := 0 } : Room).cells ({ frames := 0, cells := 0, slots := 0, locals := 0 } : Room).slots) := by
  refine MetFree.of_bodySF (plainFor_of_name own_pn_XmlChars) hisR ?_
  intro p e s m args below meth c s₁ Bd hml0 hP hK
  obtain ⟨rfl, hZ, hh⟩ := hP
  have hx := Bd.exec
  have hby := Bd.bytes
  have hml : c.maxLocals = 6 := hml0
  have hown : s.vm.findClass "com/example/descend/descend/XmlChars" = some m.cls := findClass_of_methodNamed Bd.named
  have hnm := (name_of_methodNamed Bd.named Bd.method).1
  have hlk : meth.locks = false := BodyLoose.notSynchronized Bd
  have X0 : Stand p l e ({ frames := 0, cells := 0, slots := 0, locals := 0 } : Room) s m #[(.ref a0), (.int (1 : Int32)), (.int (1 : Int32))] below meth c s₁ [] 0 0 := Stand.of_body Bd
  have e0 : s₁.heap = h0 := by rw [← hh, Bd.state]; rfl
  have N0 := Fr.nil n0
  have K0 : Keep h0 h0 [] := Keep.refl _ _
  show ownEnds p e below s (Q_dec_1_1 Z a0 g h0 n0) ({ frames := 0, cells := 0, slots := 0, locals := 0 } : Room).cells ({ frames := 0, cells := 0, slots := 0, locals := 0 } : Room).slots s₁ (entryFrame m #[(.ref a0), (.int (1 : Int32)), (.int (1 : Int32))] 6)
  refine ownCast (own_ef1_dec_1_1 m a0) ?_
  refine ow_aloadN (q := 1) X0 hx (hb hby own_d1_0) rfl rfl rfl ?_
  refine ow_iloadN (q := 2) X0 hx (hb hby own_d1_1) rfl rfl ?_
  refine ownGo (T' := s₁) (f' := (mkF m 3 #[rv a0, iv (1 : Int32), iv (1 : Int32), .unset, .unset, .unset] [(.int (g 1))])) (ownBaload HF0 X0 hx hZ e0 (j := (1 : Int32)) (by unfold ownIn; decide) (g := (mkF m 2 #[rv a0, iv (1 : Int32), iv (1 : Int32), .unset, .unset, .unset] [(.int (1 : Int32)), (.ref a0)])) rfl rfl (hb hby own_d1_2)) ?_
  generalize hv_v1 : (g 1) = v1
  refine ow_sipush (q := 6) X0 hx (255 : Int32) (hb hby own_d1_3) rfl rfl ?_
  refine ow_iand (q := 7) X0 hx _ (hb hby own_d1_6) rfl rfl ?_
  generalize hv_v2 : (v1 &&& (255 : Int32)) = v2
  refine ow_istoreN (q := 8) X0 hx (L' := #[rv a0, iv (1 : Int32), iv (1 : Int32), iv v2, .unset, .unset]) (hb hby own_d1_7) rfl rfl ?_
  refine ow_iloadN (q := 9) X0 hx (hb hby own_d1_8) rfl rfl ?_
  refine ow_iconst (q := 10) X0 hx (1 : Int32) (hb hby own_d1_9) rfl rfl ?_
  refine ow_icmpNo (q := 13) X0 hx (hb hby own_d1_10) rfl (Jvm.Free.XT.ii_ne_f (by decide)) ?_
  refine ow_iloadN (q := 14) X0 hx (hb hby own_d1_13) rfl rfl ?_
  refine ow_istore (q := 16) X0 hx (L' := #[rv a0, iv (1 : Int32), iv (1 : Int32), iv v2, iv v2, .unset]) (hb hby own_d1_14) rfl rfl ?_
  refine ow_goto (q := 62) X0 hx (hb hby own_d1_16) (by decide) (by decide) ?_
  refine ow_iload (q := 64) X0 hx (hb hby own_d1_62) rfl rfl ?_
  refine ownRetI X0 hx Bd.returns (hb hby own_d1_64) hlk (by decide) (by decide) ?_
  subst hv_v2 hv_v1
  rw [e0]
  refine ⟨congrArg (fun q => some (Value.int q)) ?_, N0, rfl⟩
  rfl
theorem own_ef1_dec_1_2 (m : MethodId) (a0 : Addr) : entryFrame m #[(.ref a0), (.int (2 : Int32)), (.int (1 : Int32))] 6 = mkF m 0 #[rv a0, iv (2 : Int32), iv (1 : Int32), .unset, .unset, .unset] [] := by first | (simp [entryFrame, mkF, argsToLocals, Value.category]; done) | rfl
def Q_dec_1_2 (Z : State) (a0 : Addr) (g : Nat → Int32) (h0 : Heap) (n0 : Nat) (v : Option Value) (h : Heap) (L : List Loc) : Prop := v = some (.int (own_dec1 (g 2))) ∧ Fr n0 L ∧ h = h0
set_option maxRecDepth 65536 in
set_option maxHeartbeats 40000000 in
theorem rm_dec_1_2 (l : Launch) (Z : State) (a0 : Array Value) (hw : ∀ d ∈ tables_1, d.before a0 Z = true) (ws : List Jvm.Cond) (a0 : Addr) (g : Nat → Int32) (h0 : Heap) (n0 : Nat) (Z0 : n0 ≤ h0.size) (HF0 : ownAI Z h0 a0 .byte 7 g) :
    MetFree l (⟨"com/example/descend/descend/XmlChars", "decode", "([BII)I"⟩ : MethodName) (head1 (Jvm.Cond.code (⟨"com/example/descend/descend/XmlChars", "decode", "([BII)I"⟩ : MethodName) prog_24_method_15_code 6 (some .int) :: ws) ({ frames := 0, cells := 0, slots := 0, locals := 0 } : Room)) (fun a U => a = #[(.ref a0), (.int (2 : Int32)), (.int (1 : Int32))] ∧ Z.Warmed39 U.vm ∧ U.heap = h0) (fun _ _ _ _ _ => True) (fun _ U o U' => ∃ v L, o = .returned v ∧ (Q_dec_1_2 Z a0 g h0 n0) v U'.heap L ∧ FrameEnd U o U' L ({ frames := 0, cells := 0, slots := 0, locals := 0 } : Room).cells ({ frames := 0, cells := 0, slots := 0, locals := 0 } : Room).slots) := by
  refine MetFree.of_bodySF (plainFor_of_name own_pn_XmlChars) hisR ?_
  intro p e s m args below meth c s₁ Bd hml0 hP hK
  obtain ⟨rfl, hZ, hh⟩ := hP
  have hx := Bd.exec
  have hby := Bd.bytes
  have hml : c.maxLocals = 6 := hml0
  have hown : s.vm.findClass "com/example/descend/descend/XmlChars" = some m.cls := findClass_of_methodNamed Bd.named
  have hnm := (name_of_methodNamed Bd.named Bd.method).1
  have hlk : meth.locks = false := BodyLoose.notSynchronized Bd
  have X0 : Stand p l e ({ frames := 0, cells := 0, slots := 0, locals := 0 } : Room) s m #[(.ref a0), (.int (2 : Int32)), (.int (1 : Int32))] below meth c s₁ [] 0 0 := Stand.of_body Bd
  have e0 : s₁.heap = h0 := by rw [← hh, Bd.state]; rfl
  have N0 := Fr.nil n0
  have K0 : Keep h0 h0 [] := Keep.refl _ _
  show ownEnds p e below s (Q_dec_1_2 Z a0 g h0 n0) ({ frames := 0, cells := 0, slots := 0, locals := 0 } : Room).cells ({ frames := 0, cells := 0, slots := 0, locals := 0 } : Room).slots s₁ (entryFrame m #[(.ref a0), (.int (2 : Int32)), (.int (1 : Int32))] 6)
  refine ownCast (own_ef1_dec_1_2 m a0) ?_
  refine ow_aloadN (q := 1) X0 hx (hb hby own_d1_0) rfl rfl rfl ?_
  refine ow_iloadN (q := 2) X0 hx (hb hby own_d1_1) rfl rfl ?_
  refine ownGo (T' := s₁) (f' := (mkF m 3 #[rv a0, iv (2 : Int32), iv (1 : Int32), .unset, .unset, .unset] [(.int (g 2))])) (ownBaload HF0 X0 hx hZ e0 (j := (2 : Int32)) (by unfold ownIn; decide) (g := (mkF m 2 #[rv a0, iv (2 : Int32), iv (1 : Int32), .unset, .unset, .unset] [(.int (2 : Int32)), (.ref a0)])) rfl rfl (hb hby own_d1_2)) ?_
  generalize hv_v1 : (g 2) = v1
  refine ow_sipush (q := 6) X0 hx (255 : Int32) (hb hby own_d1_3) rfl rfl ?_
  refine ow_iand (q := 7) X0 hx _ (hb hby own_d1_6) rfl rfl ?_
  generalize hv_v2 : (v1 &&& (255 : Int32)) = v2
  refine ow_istoreN (q := 8) X0 hx (L' := #[rv a0, iv (2 : Int32), iv (1 : Int32), iv v2, .unset, .unset]) (hb hby own_d1_7) rfl rfl ?_
  refine ow_iloadN (q := 9) X0 hx (hb hby own_d1_8) rfl rfl ?_
  refine ow_iconst (q := 10) X0 hx (1 : Int32) (hb hby own_d1_9) rfl rfl ?_
  refine ow_icmpNo (q := 13) X0 hx (hb hby own_d1_10) rfl (Jvm.Free.XT.ii_ne_f (by decide)) ?_
  refine ow_iloadN (q := 14) X0 hx (hb hby own_d1_13) rfl rfl ?_
  refine ow_istore (q := 16) X0 hx (L' := #[rv a0, iv (2 : Int32), iv (1 : Int32), iv v2, iv v2, .unset]) (hb hby own_d1_14) rfl rfl ?_
  refine ow_goto (q := 62) X0 hx (hb hby own_d1_16) (by decide) (by decide) ?_
  refine ow_iload (q := 64) X0 hx (hb hby own_d1_62) rfl rfl ?_
  refine ownRetI X0 hx Bd.returns (hb hby own_d1_64) hlk (by decide) (by decide) ?_
  subst hv_v2 hv_v1
  rw [e0]
  refine ⟨congrArg (fun q => some (Value.int q)) ?_, N0, rfl⟩
  rfl
theorem own_ef1_dec_1_3 (m : MethodId) (a0 : Addr) : entryFrame m #[(.ref a0), (.int (3 : Int32)), (.int (1 : Int32))] 6 = mkF m 0 #[rv a0, iv (3 : Int32), iv (1 : Int32), .unset, .unset, .unset] [] := by first | (simp [entryFrame, mkF, argsToLocals, Value.category]; done) | rfl
def Q_dec_1_3 (Z : State) (a0 : Addr) (g : Nat → Int32) (h0 : Heap) (n0 : Nat) (v : Option Value) (h : Heap) (L : List Loc) : Prop := v = some (.int (own_dec1 (g 3))) ∧ Fr n0 L ∧ h = h0
set_option maxRecDepth 65536 in
set_option maxHeartbeats 40000000 in
theorem rm_dec_1_3 (l : Launch) (Z : State) (a0 : Array Value) (hw : ∀ d ∈ tables_1, d.before a0 Z = true) (ws : List Jvm.Cond) (a0 : Addr) (g : Nat → Int32) (h0 : Heap) (n0 : Nat) (Z0 : n0 ≤ h0.size) (HF0 : ownAI Z h0 a0 .byte 7 g) :
    MetFree l (⟨"com/example/descend/descend/XmlChars", "decode", "([BII)I"⟩ : MethodName) (head1 (Jvm.Cond.code (⟨"com/example/descend/descend/XmlChars", "decode", "([BII)I"⟩ : MethodName) prog_24_method_15_code 6 (some .int) :: ws) ({ frames := 0, cells := 0, slots := 0, locals := 0 } : Room)) (fun a U => a = #[(.ref a0), (.int (3 : Int32)), (.int (1 : Int32))] ∧ Z.Warmed39 U.vm ∧ U.heap = h0) (fun _ _ _ _ _ => True) (fun _ U o U' => ∃ v L, o = .returned v ∧ (Q_dec_1_3 Z a0 g h0 n0) v U'.heap L ∧ FrameEnd U o U' L ({ frames := 0, cells := 0, slots := 0, locals := 0 } : Room).cells ({ frames := 0, cells := 0, slots := 0, locals := 0 } : Room).slots) := by
  refine MetFree.of_bodySF (plainFor_of_name own_pn_XmlChars) hisR ?_
  intro p e s m args below meth c s₁ Bd hml0 hP hK
  obtain ⟨rfl, hZ, hh⟩ := hP
  have hx := Bd.exec
  have hby := Bd.bytes
  have hml : c.maxLocals = 6 := hml0
  have hown : s.vm.findClass "com/example/descend/descend/XmlChars" = some m.cls := findClass_of_methodNamed Bd.named
  have hnm := (name_of_methodNamed Bd.named Bd.method).1
  have hlk : meth.locks = false := BodyLoose.notSynchronized Bd
  have X0 : Stand p l e ({ frames := 0, cells := 0, slots := 0, locals := 0 } : Room) s m #[(.ref a0), (.int (3 : Int32)), (.int (1 : Int32))] below meth c s₁ [] 0 0 := Stand.of_body Bd
  have e0 : s₁.heap = h0 := by rw [← hh, Bd.state]; rfl
  have N0 := Fr.nil n0
  have K0 : Keep h0 h0 [] := Keep.refl _ _
  show ownEnds p e below s (Q_dec_1_3 Z a0 g h0 n0) ({ frames := 0, cells := 0, slots := 0, locals := 0 } : Room).cells ({ frames := 0, cells := 0, slots := 0, locals := 0 } : Room).slots s₁ (entryFrame m #[(.ref a0), (.int (3 : Int32)), (.int (1 : Int32))] 6)
  refine ownCast (own_ef1_dec_1_3 m a0) ?_
  refine ow_aloadN (q := 1) X0 hx (hb hby own_d1_0) rfl rfl rfl ?_
  refine ow_iloadN (q := 2) X0 hx (hb hby own_d1_1) rfl rfl ?_
  refine ownGo (T' := s₁) (f' := (mkF m 3 #[rv a0, iv (3 : Int32), iv (1 : Int32), .unset, .unset, .unset] [(.int (g 3))])) (ownBaload HF0 X0 hx hZ e0 (j := (3 : Int32)) (by unfold ownIn; decide) (g := (mkF m 2 #[rv a0, iv (3 : Int32), iv (1 : Int32), .unset, .unset, .unset] [(.int (3 : Int32)), (.ref a0)])) rfl rfl (hb hby own_d1_2)) ?_
  generalize hv_v1 : (g 3) = v1
  refine ow_sipush (q := 6) X0 hx (255 : Int32) (hb hby own_d1_3) rfl rfl ?_
  refine ow_iand (q := 7) X0 hx _ (hb hby own_d1_6) rfl rfl ?_
  generalize hv_v2 : (v1 &&& (255 : Int32)) = v2
  refine ow_istoreN (q := 8) X0 hx (L' := #[rv a0, iv (3 : Int32), iv (1 : Int32), iv v2, .unset, .unset]) (hb hby own_d1_7) rfl rfl ?_
  refine ow_iloadN (q := 9) X0 hx (hb hby own_d1_8) rfl rfl ?_
  refine ow_iconst (q := 10) X0 hx (1 : Int32) (hb hby own_d1_9) rfl rfl ?_
  refine ow_icmpNo (q := 13) X0 hx (hb hby own_d1_10) rfl (Jvm.Free.XT.ii_ne_f (by decide)) ?_
  refine ow_iloadN (q := 14) X0 hx (hb hby own_d1_13) rfl rfl ?_
  refine ow_istore (q := 16) X0 hx (L' := #[rv a0, iv (3 : Int32), iv (1 : Int32), iv v2, iv v2, .unset]) (hb hby own_d1_14) rfl rfl ?_
  refine ow_goto (q := 62) X0 hx (hb hby own_d1_16) (by decide) (by decide) ?_
  refine ow_iload (q := 64) X0 hx (hb hby own_d1_62) rfl rfl ?_
  refine ownRetI X0 hx Bd.returns (hb hby own_d1_64) hlk (by decide) (by decide) ?_
  subst hv_v2 hv_v1
  rw [e0]
  refine ⟨congrArg (fun q => some (Value.int q)) ?_, N0, rfl⟩
  rfl
theorem own_d1_19 : decode prog_24_method_15_code 19 = .ok (.iload_n 3, 1) := by decide +kernel
theorem own_d1_20 : decode prog_24_method_15_code 20 = .ok (.sipush 255, 3) := by decide +kernel
theorem own_d1_23 : decode prog_24_method_15_code 23 = .ok (.iload_n 2, 1) := by decide +kernel
theorem own_d1_24 : decode prog_24_method_15_code 24 = .ok (.iconst 1, 1) := by decide +kernel
theorem own_d1_25 : decode prog_24_method_15_code 25 = .ok (.iadd, 1) := by decide +kernel
theorem own_d1_26 : decode prog_24_method_15_code 26 = .ok (.ishr, 1) := by decide +kernel
theorem own_d1_27 : decode prog_24_method_15_code 27 = .ok (.iand, 1) := by decide +kernel
theorem own_d1_28 : decode prog_24_method_15_code 28 = .ok (.istore 4, 2) := by decide +kernel
theorem own_d1_30 : decode prog_24_method_15_code 30 = .ok (.iconst 1, 1) := by decide +kernel
theorem own_d1_31 : decode prog_24_method_15_code 31 = .ok (.istore 5, 2) := by decide +kernel
theorem own_d1_33 : decode prog_24_method_15_code 33 = .ok (.iload 5, 2) := by decide +kernel
theorem own_d1_35 : decode prog_24_method_15_code 35 = .ok (.iload_n 2, 1) := by decide +kernel
theorem own_d1_36 : decode prog_24_method_15_code 36 = .ok (.if_icmp .ge 26, 3) := by decide +kernel
theorem own_d1_39 : decode prog_24_method_15_code 39 = .ok (.iload 4, 2) := by decide +kernel
theorem own_d1_41 : decode prog_24_method_15_code 41 = .ok (.bipush 6, 2) := by decide +kernel
theorem own_d1_43 : decode prog_24_method_15_code 43 = .ok (.ishl, 1) := by decide +kernel
theorem own_d1_44 : decode prog_24_method_15_code 44 = .ok (.aload_n 0, 1) := by decide +kernel
theorem own_d1_45 : decode prog_24_method_15_code 45 = .ok (.iload_n 1, 1) := by decide +kernel
theorem own_d1_46 : decode prog_24_method_15_code 46 = .ok (.iload 5, 2) := by decide +kernel
theorem own_d1_48 : decode prog_24_method_15_code 48 = .ok (.iadd, 1) := by decide +kernel
theorem own_d1_49 : decode prog_24_method_15_code 49 = .ok (.baload, 1) := by decide +kernel
theorem own_d1_50 : decode prog_24_method_15_code 50 = .ok (.bipush 63, 2) := by decide +kernel
theorem own_d1_52 : decode prog_24_method_15_code 52 = .ok (.iand, 1) := by decide +kernel
theorem own_d1_53 : decode prog_24_method_15_code 53 = .ok (.ior, 1) := by decide +kernel
theorem own_d1_54 : decode prog_24_method_15_code 54 = .ok (.istore 4, 2) := by decide +kernel
theorem own_d1_56 : decode prog_24_method_15_code 56 = .ok (.iinc 5 1, 3) := by decide +kernel
theorem own_d1_59 : decode prog_24_method_15_code 59 = .ok (.goto (-26), 3) := by decide +kernel
theorem own_ef1_dec_2_0 (m : MethodId) (a0 : Addr) : entryFrame m #[(.ref a0), (.int (0 : Int32)), (.int (2 : Int32))] 6 = mkF m 0 #[rv a0, iv (0 : Int32), iv (2 : Int32), .unset, .unset, .unset] [] := by first | (simp [entryFrame, mkF, argsToLocals, Value.category]; done) | rfl
def Q_dec_2_0 (Z : State) (a0 : Addr) (g : Nat → Int32) (h0 : Heap) (n0 : Nat) (v : Option Value) (h : Heap) (L : List Loc) : Prop := v = some (.int (own_dec2 (g 0) (g 1))) ∧ Fr n0 L ∧ h = h0
set_option maxRecDepth 65536 in
set_option maxHeartbeats 40000000 in
theorem rm_dec_2_0 (l : Launch) (Z : State) (a0 : Array Value) (hw : ∀ d ∈ tables_1, d.before a0 Z = true) (ws : List Jvm.Cond) (a0 : Addr) (g : Nat → Int32) (h0 : Heap) (n0 : Nat) (Z0 : n0 ≤ h0.size) (HF0 : ownAI Z h0 a0 .byte 7 g) :
    MetFree l (⟨"com/example/descend/descend/XmlChars", "decode", "([BII)I"⟩ : MethodName) (head1 (Jvm.Cond.code (⟨"com/example/descend/descend/XmlChars", "decode", "([BII)I"⟩ : MethodName) prog_24_method_15_code 6 (some .int) :: ws) ({ frames := 0, cells := 0, slots := 0, locals := 0 } : Room)) (fun a U => a = #[(.ref a0), (.int (0 : Int32)), (.int (2 : Int32))] ∧ Z.Warmed39 U.vm ∧ U.heap = h0) (fun _ _ _ _ _ => True) (fun _ U o U' => ∃ v L, o = .returned v ∧ (Q_dec_2_0 Z a0 g h0 n0) v U'.heap L ∧ FrameEnd U o U' L ({ frames := 0, cells := 0, slots := 0, locals := 0 } : Room).cells ({ frames := 0, cells := 0, slots := 0, locals := 0 } : Room).slots) := by
  refine MetFree.of_bodySF (plainFor_of_name own_pn_XmlChars) hisR ?_
  intro p e s m args below meth c s₁ Bd hml0 hP hK
  obtain ⟨rfl, hZ, hh⟩ := hP
  have hx := Bd.exec
  have hby := Bd.bytes
  have hml : c.maxLocals = 6 := hml0
  have hown : s.vm.findClass "com/example/descend/descend/XmlChars" = some m.cls := findClass_of_methodNamed Bd.named
  have hnm := (name_of_methodNamed Bd.named Bd.method).1
  have hlk : meth.locks = false := BodyLoose.notSynchronized Bd
  have X0 : Stand p l e ({ frames := 0, cells := 0, slots := 0, locals := 0 } : Room) s m #[(.ref a0), (.int (0 : Int32)), (.int (2 : Int32))] below meth c s₁ [] 0 0 := Stand.of_body Bd
  have e0 : s₁.heap = h0 := by rw [← hh, Bd.state]; rfl
  have N0 := Fr.nil n0
  have K0 : Keep h0 h0 [] := Keep.refl _ _
  show ownEnds p e below s (Q_dec_2_0 Z a0 g h0 n0) ({ frames := 0, cells := 0, slots := 0, locals := 0 } : Room).cells ({ frames := 0, cells := 0, slots := 0, locals := 0 } : Room).slots s₁ (entryFrame m #[(.ref a0), (.int (0 : Int32)), (.int (2 : Int32))] 6)
  refine ownCast (own_ef1_dec_2_0 m a0) ?_
  refine ow_aloadN (q := 1) X0 hx (hb hby own_d1_0) rfl rfl rfl ?_
  refine ow_iloadN (q := 2) X0 hx (hb hby own_d1_1) rfl rfl ?_
  refine ownGo (T' := s₁) (f' := (mkF m 3 #[rv a0, iv (0 : Int32), iv (2 : Int32), .unset, .unset, .unset] [(.int (g 0))])) (ownBaload HF0 X0 hx hZ e0 (j := (0 : Int32)) (by unfold ownIn; decide) (g := (mkF m 2 #[rv a0, iv (0 : Int32), iv (2 : Int32), .unset, .unset, .unset] [(.int (0 : Int32)), (.ref a0)])) rfl rfl (hb hby own_d1_2)) ?_
  generalize hv_v1 : (g 0) = v1
  refine ow_sipush (q := 6) X0 hx (255 : Int32) (hb hby own_d1_3) rfl rfl ?_
  refine ow_iand (q := 7) X0 hx _ (hb hby own_d1_6) rfl rfl ?_
  generalize hv_v2 : (v1 &&& (255 : Int32)) = v2
  refine ow_istoreN (q := 8) X0 hx (L' := #[rv a0, iv (0 : Int32), iv (2 : Int32), iv v2, .unset, .unset]) (hb hby own_d1_7) rfl rfl ?_
  refine ow_iloadN (q := 9) X0 hx (hb hby own_d1_8) rfl rfl ?_
  refine ow_iconst (q := 10) X0 hx (1 : Int32) (hb hby own_d1_9) rfl rfl ?_
  refine ow_icmpYes (q := 19) X0 hx (hb hby own_d1_10) (Jvm.Free.XT.ii_ne_t (by decide)) (by decide) (by decide) ?_
  refine ow_iloadN (q := 20) X0 hx (hb hby own_d1_19) rfl rfl ?_
  refine ow_sipush (q := 23) X0 hx (255 : Int32) (hb hby own_d1_20) rfl rfl ?_
  refine ow_iloadN (q := 24) X0 hx (hb hby own_d1_23) rfl rfl ?_
  refine ow_iconst (q := 25) X0 hx (1 : Int32) (hb hby own_d1_24) rfl rfl ?_
  refine ow_iadd (q := 26) X0 hx (3 : Int32) (hb hby own_d1_25) rfl (by decide) ?_
  refine ow_ishr (q := 27) X0 hx (31 : Int32) (hb hby own_d1_26) rfl (by decide) ?_
  refine ow_iand (q := 28) X0 hx _ (hb hby own_d1_27) rfl rfl ?_
  generalize hv_v3 : (v2 &&& (31 : Int32)) = v3
  refine ow_istore (q := 30) X0 hx (L' := #[rv a0, iv (0 : Int32), iv (2 : Int32), iv v2, iv v3, .unset]) (hb hby own_d1_28) rfl rfl ?_
  refine ow_iconst (q := 31) X0 hx (1 : Int32) (hb hby own_d1_30) rfl rfl ?_
  refine ow_istore (q := 33) X0 hx (L' := #[rv a0, iv (0 : Int32), iv (2 : Int32), iv v2, iv v3, iv (1 : Int32)]) (hb hby own_d1_31) rfl rfl ?_
  refine ow_iload (q := 35) X0 hx (hb hby own_d1_33) rfl rfl ?_
  refine ow_iloadN (q := 36) X0 hx (hb hby own_d1_35) rfl rfl ?_
  refine ow_icmpNo (q := 39) X0 hx (hb hby own_d1_36) rfl (Jvm.Free.XT.ii_ge_f (by decide)) ?_
  refine ow_iload (q := 41) X0 hx (hb hby own_d1_39) rfl rfl ?_
  refine ow_bipush (q := 43) X0 hx (6 : Int32) (hb hby own_d1_41) rfl rfl ?_
  refine ow_ishl (q := 44) X0 hx _ (hb hby own_d1_43) rfl rfl ?_
  refine ow_aloadN (q := 45) X0 hx (hb hby own_d1_44) rfl rfl rfl ?_
  refine ow_iloadN (q := 46) X0 hx (hb hby own_d1_45) rfl rfl ?_
  refine ow_iload (q := 48) X0 hx (hb hby own_d1_46) rfl rfl ?_
  refine ow_iadd (q := 49) X0 hx (1 : Int32) (hb hby own_d1_48) rfl (by decide) ?_
  refine ownGo (T' := s₁) (f' := (mkF m 50 #[rv a0, iv (0 : Int32), iv (2 : Int32), iv v2, iv v3, iv (1 : Int32)] [(.int (g 1)), (.int (v3 <<< ((6 : Int32) &&& 31)))])) (ownBaload HF0 X0 hx hZ e0 (j := (1 : Int32)) (by unfold ownIn; decide) (g := (mkF m 49 #[rv a0, iv (0 : Int32), iv (2 : Int32), iv v2, iv v3, iv (1 : Int32)] [(.int (1 : Int32)), (.ref a0), (.int (v3 <<< ((6 : Int32) &&& 31)))])) rfl rfl (hb hby own_d1_49)) ?_
  generalize hv_v4 : (g 1) = v4
  refine ow_bipush (q := 52) X0 hx (63 : Int32) (hb hby own_d1_50) rfl rfl ?_
  refine ow_iand (q := 53) X0 hx _ (hb hby own_d1_52) rfl rfl ?_
  refine ow_ior (q := 54) X0 hx _ (hb hby own_d1_53) rfl rfl ?_
  generalize hv_v5 : ((v3 <<< ((6 : Int32) &&& 31)) ||| (v4 &&& (63 : Int32))) = v5
  refine ow_istore (q := 56) X0 hx (L' := #[rv a0, iv (0 : Int32), iv (2 : Int32), iv v2, iv v5, iv (1 : Int32)]) (hb hby own_d1_54) rfl rfl ?_
  refine ow_iinc (q := 59) X0 hx (L' := #[rv a0, iv (0 : Int32), iv (2 : Int32), iv v2, iv v5, iv (2 : Int32)]) (hb hby own_d1_56) rfl rfl rfl ?_
  refine ow_goto (q := 33) X0 hx (hb hby own_d1_59) (by decide) (by decide) ?_
  refine ow_iload (q := 35) X0 hx (hb hby own_d1_33) rfl rfl ?_
  refine ow_iloadN (q := 36) X0 hx (hb hby own_d1_35) rfl rfl ?_
  refine ow_icmpYes (q := 62) X0 hx (hb hby own_d1_36) (Jvm.Free.XT.ii_ge_t (by decide)) (by decide) (by decide) ?_
  refine ow_iload (q := 64) X0 hx (hb hby own_d1_62) rfl rfl ?_
  refine ownRetI X0 hx Bd.returns (hb hby own_d1_64) hlk (by decide) (by decide) ?_
  subst hv_v5 hv_v4 hv_v3 hv_v2 hv_v1
  rw [e0]
  refine ⟨congrArg (fun q => some (Value.int q)) ?_, N0, rfl⟩
  rfl
theorem own_ef1_dec_2_1 (m : MethodId) (a0 : Addr) : entryFrame m #[(.ref a0), (.int (1 : Int32)), (.int (2 : Int32))] 6 = mkF m 0 #[rv a0, iv (1 : Int32), iv (2 : Int32), .unset, .unset, .unset] [] := by first | (simp [entryFrame, mkF, argsToLocals, Value.category]; done) | rfl
def Q_dec_2_1 (Z : State) (a0 : Addr) (g : Nat → Int32) (h0 : Heap) (n0 : Nat) (v : Option Value) (h : Heap) (L : List Loc) : Prop := v = some (.int (own_dec2 (g 1) (g 2))) ∧ Fr n0 L ∧ h = h0
set_option maxRecDepth 65536 in
set_option maxHeartbeats 40000000 in
theorem rm_dec_2_1 (l : Launch) (Z : State) (a0 : Array Value) (hw : ∀ d ∈ tables_1, d.before a0 Z = true) (ws : List Jvm.Cond) (a0 : Addr) (g : Nat → Int32) (h0 : Heap) (n0 : Nat) (Z0 : n0 ≤ h0.size) (HF0 : ownAI Z h0 a0 .byte 7 g) :
    MetFree l (⟨"com/example/descend/descend/XmlChars", "decode", "([BII)I"⟩ : MethodName) (head1 (Jvm.Cond.code (⟨"com/example/descend/descend/XmlChars", "decode", "([BII)I"⟩ : MethodName) prog_24_method_15_code 6 (some .int) :: ws) ({ frames := 0, cells := 0, slots := 0, locals := 0 } : Room)) (fun a U => a = #[(.ref a0), (.int (1 : Int32)), (.int (2 : Int32))] ∧ Z.Warmed39 U.vm ∧ U.heap = h0) (fun _ _ _ _ _ => True) (fun _ U o U' => ∃ v L, o = .returned v ∧ (Q_dec_2_1 Z a0 g h0 n0) v U'.heap L ∧ FrameEnd U o U' L ({ frames := 0, cells := 0, slots := 0, locals := 0 } : Room).cells ({ frames := 0, cells := 0, slots := 0, locals := 0 } : Room).slots) := by
  refine MetFree.of_bodySF (plainFor_of_name own_pn_XmlChars) hisR ?_
  intro p e s m args below meth c s₁ Bd hml0 hP hK
  obtain ⟨rfl, hZ, hh⟩ := hP
  have hx := Bd.exec
  have hby := Bd.bytes
  have hml : c.maxLocals = 6 := hml0
  have hown : s.vm.findClass "com/example/descend/descend/XmlChars" = some m.cls := findClass_of_methodNamed Bd.named
  have hnm := (name_of_methodNamed Bd.named Bd.method).1
  have hlk : meth.locks = false := BodyLoose.notSynchronized Bd
  have X0 : Stand p l e ({ frames := 0, cells := 0, slots := 0, locals := 0 } : Room) s m #[(.ref a0), (.int (1 : Int32)), (.int (2 : Int32))] below meth c s₁ [] 0 0 := Stand.of_body Bd
  have e0 : s₁.heap = h0 := by rw [← hh, Bd.state]; rfl
  have N0 := Fr.nil n0
  have K0 : Keep h0 h0 [] := Keep.refl _ _
  show ownEnds p e below s (Q_dec_2_1 Z a0 g h0 n0) ({ frames := 0, cells := 0, slots := 0, locals := 0 } : Room).cells ({ frames := 0, cells := 0, slots := 0, locals := 0 } : Room).slots s₁ (entryFrame m #[(.ref a0), (.int (1 : Int32)), (.int (2 : Int32))] 6)
  refine ownCast (own_ef1_dec_2_1 m a0) ?_
  refine ow_aloadN (q := 1) X0 hx (hb hby own_d1_0) rfl rfl rfl ?_
  refine ow_iloadN (q := 2) X0 hx (hb hby own_d1_1) rfl rfl ?_
  refine ownGo (T' := s₁) (f' := (mkF m 3 #[rv a0, iv (1 : Int32), iv (2 : Int32), .unset, .unset, .unset] [(.int (g 1))])) (ownBaload HF0 X0 hx hZ e0 (j := (1 : Int32)) (by unfold ownIn; decide) (g := (mkF m 2 #[rv a0, iv (1 : Int32), iv (2 : Int32), .unset, .unset, .unset] [(.int (1 : Int32)), (.ref a0)])) rfl rfl (hb hby own_d1_2)) ?_
  generalize hv_v1 : (g 1) = v1
  refine ow_sipush (q := 6) X0 hx (255 : Int32) (hb hby own_d1_3) rfl rfl ?_
  refine ow_iand (q := 7) X0 hx _ (hb hby own_d1_6) rfl rfl ?_
  generalize hv_v2 : (v1 &&& (255 : Int32)) = v2
  refine ow_istoreN (q := 8) X0 hx (L' := #[rv a0, iv (1 : Int32), iv (2 : Int32), iv v2, .unset, .unset]) (hb hby own_d1_7) rfl rfl ?_
  refine ow_iloadN (q := 9) X0 hx (hb hby own_d1_8) rfl rfl ?_
  refine ow_iconst (q := 10) X0 hx (1 : Int32) (hb hby own_d1_9) rfl rfl ?_
  refine ow_icmpYes (q := 19) X0 hx (hb hby own_d1_10) (Jvm.Free.XT.ii_ne_t (by decide)) (by decide) (by decide) ?_
  refine ow_iloadN (q := 20) X0 hx (hb hby own_d1_19) rfl rfl ?_
  refine ow_sipush (q := 23) X0 hx (255 : Int32) (hb hby own_d1_20) rfl rfl ?_
  refine ow_iloadN (q := 24) X0 hx (hb hby own_d1_23) rfl rfl ?_
  refine ow_iconst (q := 25) X0 hx (1 : Int32) (hb hby own_d1_24) rfl rfl ?_
  refine ow_iadd (q := 26) X0 hx (3 : Int32) (hb hby own_d1_25) rfl (by decide) ?_
  refine ow_ishr (q := 27) X0 hx (31 : Int32) (hb hby own_d1_26) rfl (by decide) ?_
  refine ow_iand (q := 28) X0 hx _ (hb hby own_d1_27) rfl rfl ?_
  generalize hv_v3 : (v2 &&& (31 : Int32)) = v3
  refine ow_istore (q := 30) X0 hx (L' := #[rv a0, iv (1 : Int32), iv (2 : Int32), iv v2, iv v3, .unset]) (hb hby own_d1_28) rfl rfl ?_
  refine ow_iconst (q := 31) X0 hx (1 : Int32) (hb hby own_d1_30) rfl rfl ?_
  refine ow_istore (q := 33) X0 hx (L' := #[rv a0, iv (1 : Int32), iv (2 : Int32), iv v2, iv v3, iv (1 : Int32)]) (hb hby own_d1_31) rfl rfl ?_
  refine ow_iload (q := 35) X0 hx (hb hby own_d1_33) rfl rfl ?_
  refine ow_iloadN (q := 36) X0 hx (hb hby own_d1_35) rfl rfl ?_
  refine ow_icmpNo (q := 39) X0 hx (hb hby own_d1_36) rfl (Jvm.Free.XT.ii_ge_f (by decide)) ?_
  refine ow_iload (q := 41) X0 hx (hb hby own_d1_39) rfl rfl ?_
  refine ow_bipush (q := 43) X0 hx (6 : Int32) (hb hby own_d1_41) rfl rfl ?_
  refine ow_ishl (q := 44) X0 hx _ (hb hby own_d1_43) rfl rfl ?_
  refine ow_aloadN (q := 45) X0 hx (hb hby own_d1_44) rfl rfl rfl ?_
  refine ow_iloadN (q := 46) X0 hx (hb hby own_d1_45) rfl rfl ?_
  refine ow_iload (q := 48) X0 hx (hb hby own_d1_46) rfl rfl ?_
  refine ow_iadd (q := 49) X0 hx (2 : Int32) (hb hby own_d1_48) rfl (by decide) ?_
  refine ownGo (T' := s₁) (f' := (mkF m 50 #[rv a0, iv (1 : Int32), iv (2 : Int32), iv v2, iv v3, iv (1 : Int32)] [(.int (g 2)), (.int (v3 <<< ((6 : Int32) &&& 31)))])) (ownBaload HF0 X0 hx hZ e0 (j := (2 : Int32)) (by unfold ownIn; decide) (g := (mkF m 49 #[rv a0, iv (1 : Int32), iv (2 : Int32), iv v2, iv v3, iv (1 : Int32)] [(.int (2 : Int32)), (.ref a0), (.int (v3 <<< ((6 : Int32) &&& 31)))])) rfl rfl (hb hby own_d1_49)) ?_
  generalize hv_v4 : (g 2) = v4
  refine ow_bipush (q := 52) X0 hx (63 : Int32) (hb hby own_d1_50) rfl rfl ?_
  refine ow_iand (q := 53) X0 hx _ (hb hby own_d1_52) rfl rfl ?_
  refine ow_ior (q := 54) X0 hx _ (hb hby own_d1_53) rfl rfl ?_
  generalize hv_v5 : ((v3 <<< ((6 : Int32) &&& 31)) ||| (v4 &&& (63 : Int32))) = v5
  refine ow_istore (q := 56) X0 hx (L' := #[rv a0, iv (1 : Int32), iv (2 : Int32), iv v2, iv v5, iv (1 : Int32)]) (hb hby own_d1_54) rfl rfl ?_
  refine ow_iinc (q := 59) X0 hx (L' := #[rv a0, iv (1 : Int32), iv (2 : Int32), iv v2, iv v5, iv (2 : Int32)]) (hb hby own_d1_56) rfl rfl rfl ?_
  refine ow_goto (q := 33) X0 hx (hb hby own_d1_59) (by decide) (by decide) ?_
  refine ow_iload (q := 35) X0 hx (hb hby own_d1_33) rfl rfl ?_
  refine ow_iloadN (q := 36) X0 hx (hb hby own_d1_35) rfl rfl ?_
  refine ow_icmpYes (q := 62) X0 hx (hb hby own_d1_36) (Jvm.Free.XT.ii_ge_t (by decide)) (by decide) (by decide) ?_
  refine ow_iload (q := 64) X0 hx (hb hby own_d1_62) rfl rfl ?_
  refine ownRetI X0 hx Bd.returns (hb hby own_d1_64) hlk (by decide) (by decide) ?_
  subst hv_v5 hv_v4 hv_v3 hv_v2 hv_v1
  rw [e0]
  refine ⟨congrArg (fun q => some (Value.int q)) ?_, N0, rfl⟩
  rfl
theorem own_ef1_dec_2_2 (m : MethodId) (a0 : Addr) : entryFrame m #[(.ref a0), (.int (2 : Int32)), (.int (2 : Int32))] 6 = mkF m 0 #[rv a0, iv (2 : Int32), iv (2 : Int32), .unset, .unset, .unset] [] := by first | (simp [entryFrame, mkF, argsToLocals, Value.category]; done) | rfl
def Q_dec_2_2 (Z : State) (a0 : Addr) (g : Nat → Int32) (h0 : Heap) (n0 : Nat) (v : Option Value) (h : Heap) (L : List Loc) : Prop := v = some (.int (own_dec2 (g 2) (g 3))) ∧ Fr n0 L ∧ h = h0
set_option maxRecDepth 65536 in
set_option maxHeartbeats 40000000 in
theorem rm_dec_2_2 (l : Launch) (Z : State) (a0 : Array Value) (hw : ∀ d ∈ tables_1, d.before a0 Z = true) (ws : List Jvm.Cond) (a0 : Addr) (g : Nat → Int32) (h0 : Heap) (n0 : Nat) (Z0 : n0 ≤ h0.size) (HF0 : ownAI Z h0 a0 .byte 7 g) :
    MetFree l (⟨"com/example/descend/descend/XmlChars", "decode", "([BII)I"⟩ : MethodName) (head1 (Jvm.Cond.code (⟨"com/example/descend/descend/XmlChars", "decode", "([BII)I"⟩ : MethodName) prog_24_method_15_code 6 (some .int) :: ws) ({ frames := 0, cells := 0, slots := 0, locals := 0 } : Room)) (fun a U => a = #[(.ref a0), (.int (2 : Int32)), (.int (2 : Int32))] ∧ Z.Warmed39 U.vm ∧ U.heap = h0) (fun _ _ _ _ _ => True) (fun _ U o U' => ∃ v L, o = .returned v ∧ (Q_dec_2_2 Z a0 g h0 n0) v U'.heap L ∧ FrameEnd U o U' L ({ frames := 0, cells := 0, slots := 0, locals := 0 } : Room).cells ({ frames := 0, cells := 0, slots := 0, locals := 0 } : Room).slots) := by
  refine MetFree.of_bodySF (plainFor_of_name own_pn_XmlChars) hisR ?_
  intro p e s m args below meth c s₁ Bd hml0 hP hK
  obtain ⟨rfl, hZ, hh⟩ := hP
  have hx := Bd.exec
  have hby := Bd.bytes
  have hml : c.maxLocals = 6 := hml0
  have hown : s.vm.findClass "com/example/descend/descend/XmlChars" = some m.cls := findClass_of_methodNamed Bd.named
  have hnm := (name_of_methodNamed Bd.named Bd.method).1
  have hlk : meth.locks = false := BodyLoose.notSynchronized Bd
  have X0 : Stand p l e ({ frames := 0, cells := 0, slots := 0, locals := 0 } : Room) s m #[(.ref a0), (.int (2 : Int32)), (.int (2 : Int32))] below meth c s₁ [] 0 0 := Stand.of_body Bd
  have e0 : s₁.heap = h0 := by rw [← hh, Bd.state]; rfl
  have N0 := Fr.nil n0
  have K0 : Keep h0 h0 [] := Keep.refl _ _
  show ownEnds p e below s (Q_dec_2_2 Z a0 g h0 n0) ({ frames := 0, cells := 0, slots := 0, locals := 0 } : Room).cells ({ frames := 0, cells := 0, slots := 0, locals := 0 } : Room).slots s₁ (entryFrame m #[(.ref a0), (.int (2 : Int32)), (.int (2 : Int32))] 6)
  refine ownCast (own_ef1_dec_2_2 m a0) ?_
  refine ow_aloadN (q := 1) X0 hx (hb hby own_d1_0) rfl rfl rfl ?_
  refine ow_iloadN (q := 2) X0 hx (hb hby own_d1_1) rfl rfl ?_
  refine ownGo (T' := s₁) (f' := (mkF m 3 #[rv a0, iv (2 : Int32), iv (2 : Int32), .unset, .unset, .unset] [(.int (g 2))])) (ownBaload HF0 X0 hx hZ e0 (j := (2 : Int32)) (by unfold ownIn; decide) (g := (mkF m 2 #[rv a0, iv (2 : Int32), iv (2 : Int32), .unset, .unset, .unset] [(.int (2 : Int32)), (.ref a0)])) rfl rfl (hb hby own_d1_2)) ?_
  generalize hv_v1 : (g 2) = v1
  refine ow_sipush (q := 6) X0 hx (255 : Int32) (hb hby own_d1_3) rfl rfl ?_
  refine ow_iand (q := 7) X0 hx _ (hb hby own_d1_6) rfl rfl ?_
  generalize hv_v2 : (v1 &&& (255 : Int32)) = v2
  refine ow_istoreN (q := 8) X0 hx (L' := #[rv a0, iv (2 : Int32), iv (2 : Int32), iv v2, .unset, .unset]) (hb hby own_d1_7) rfl rfl ?_
  refine ow_iloadN (q := 9) X0 hx (hb hby own_d1_8) rfl rfl ?_
  refine ow_iconst (q := 10) X0 hx (1 : Int32) (hb hby own_d1_9) rfl rfl ?_
  refine ow_icmpYes (q := 19) X0 hx (hb hby own_d1_10) (Jvm.Free.XT.ii_ne_t (by decide)) (by decide) (by decide) ?_
  refine ow_iloadN (q := 20) X0 hx (hb hby own_d1_19) rfl rfl ?_
  refine ow_sipush (q := 23) X0 hx (255 : Int32) (hb hby own_d1_20) rfl rfl ?_
  refine ow_iloadN (q := 24) X0 hx (hb hby own_d1_23) rfl rfl ?_
  refine ow_iconst (q := 25) X0 hx (1 : Int32) (hb hby own_d1_24) rfl rfl ?_
  refine ow_iadd (q := 26) X0 hx (3 : Int32) (hb hby own_d1_25) rfl (by decide) ?_
  refine ow_ishr (q := 27) X0 hx (31 : Int32) (hb hby own_d1_26) rfl (by decide) ?_
  refine ow_iand (q := 28) X0 hx _ (hb hby own_d1_27) rfl rfl ?_
  generalize hv_v3 : (v2 &&& (31 : Int32)) = v3
  refine ow_istore (q := 30) X0 hx (L' := #[rv a0, iv (2 : Int32), iv (2 : Int32), iv v2, iv v3, .unset]) (hb hby own_d1_28) rfl rfl ?_
  refine ow_iconst (q := 31) X0 hx (1 : Int32) (hb hby own_d1_30) rfl rfl ?_
  refine ow_istore (q := 33) X0 hx (L' := #[rv a0, iv (2 : Int32), iv (2 : Int32), iv v2, iv v3, iv (1 : Int32)]) (hb hby own_d1_31) rfl rfl ?_
  refine ow_iload (q := 35) X0 hx (hb hby own_d1_33) rfl rfl ?_
  refine ow_iloadN (q := 36) X0 hx (hb hby own_d1_35) rfl rfl ?_
  refine ow_icmpNo (q := 39) X0 hx (hb hby own_d1_36) rfl (Jvm.Free.XT.ii_ge_f (by decide)) ?_
  refine ow_iload (q := 41) X0 hx (hb hby own_d1_39) rfl rfl ?_
  refine ow_bipush (q := 43) X0 hx (6 : Int32) (hb hby own_d1_41) rfl rfl ?_
  refine ow_ishl (q := 44) X0 hx _ (hb hby own_d1_43) rfl rfl ?_
  refine ow_aloadN (q := 45) X0 hx (hb hby own_d1_44) rfl rfl rfl ?_
  refine ow_iloadN (q := 46) X0 hx (hb hby own_d1_45) rfl rfl ?_
  refine ow_iload (q := 48) X0 hx (hb hby own_d1_46) rfl rfl ?_
  refine ow_iadd (q := 49) X0 hx (3 : Int32) (hb hby own_d1_48) rfl (by decide) ?_
  refine ownGo (T' := s₁) (f' := (mkF m 50 #[rv a0, iv (2 : Int32), iv (2 : Int32), iv v2, iv v3, iv (1 : Int32)] [(.int (g 3)), (.int (v3 <<< ((6 : Int32) &&& 31)))])) (ownBaload HF0 X0 hx hZ e0 (j := (3 : Int32)) (by unfold ownIn; decide) (g := (mkF m 49 #[rv a0, iv (2 : Int32), iv (2 : Int32), iv v2, iv v3, iv (1 : Int32)] [(.int (3 : Int32)), (.ref a0), (.int (v3 <<< ((6 : Int32) &&& 31)))])) rfl rfl (hb hby own_d1_49)) ?_
  generalize hv_v4 : (g 3) = v4
  refine ow_bipush (q := 52) X0 hx (63 : Int32) (hb hby own_d1_50) rfl rfl ?_
  refine ow_iand (q := 53) X0 hx _ (hb hby own_d1_52) rfl rfl ?_
  refine ow_ior (q := 54) X0 hx _ (hb hby own_d1_53) rfl rfl ?_
  generalize hv_v5 : ((v3 <<< ((6 : Int32) &&& 31)) ||| (v4 &&& (63 : Int32))) = v5
  refine ow_istore (q := 56) X0 hx (L' := #[rv a0, iv (2 : Int32), iv (2 : Int32), iv v2, iv v5, iv (1 : Int32)]) (hb hby own_d1_54) rfl rfl ?_
  refine ow_iinc (q := 59) X0 hx (L' := #[rv a0, iv (2 : Int32), iv (2 : Int32), iv v2, iv v5, iv (2 : Int32)]) (hb hby own_d1_56) rfl rfl rfl ?_
  refine ow_goto (q := 33) X0 hx (hb hby own_d1_59) (by decide) (by decide) ?_
  refine ow_iload (q := 35) X0 hx (hb hby own_d1_33) rfl rfl ?_
  refine ow_iloadN (q := 36) X0 hx (hb hby own_d1_35) rfl rfl ?_
  refine ow_icmpYes (q := 62) X0 hx (hb hby own_d1_36) (Jvm.Free.XT.ii_ge_t (by decide)) (by decide) (by decide) ?_
  refine ow_iload (q := 64) X0 hx (hb hby own_d1_62) rfl rfl ?_
  refine ownRetI X0 hx Bd.returns (hb hby own_d1_64) hlk (by decide) (by decide) ?_
  subst hv_v5 hv_v4 hv_v3 hv_v2 hv_v1
  rw [e0]
  refine ⟨congrArg (fun q => some (Value.int q)) ?_, N0, rfl⟩
  rfl
theorem own_ef1_dec_2_3 (m : MethodId) (a0 : Addr) : entryFrame m #[(.ref a0), (.int (3 : Int32)), (.int (2 : Int32))] 6 = mkF m 0 #[rv a0, iv (3 : Int32), iv (2 : Int32), .unset, .unset, .unset] [] := by first | (simp [entryFrame, mkF, argsToLocals, Value.category]; done) | rfl
def Q_dec_2_3 (Z : State) (a0 : Addr) (g : Nat → Int32) (h0 : Heap) (n0 : Nat) (v : Option Value) (h : Heap) (L : List Loc) : Prop := v = some (.int (own_dec2 (g 3) (g 4))) ∧ Fr n0 L ∧ h = h0
set_option maxRecDepth 65536 in
set_option maxHeartbeats 40000000 in
theorem rm_dec_2_3 (l : Launch) (Z : State) (a0 : Array Value) (hw : ∀ d ∈ tables_1, d.before a0 Z = true) (ws : List Jvm.Cond) (a0 : Addr) (g : Nat → Int32) (h0 : Heap) (n0 : Nat) (Z0 : n0 ≤ h0.size) (HF0 : ownAI Z h0 a0 .byte 7 g) :
    MetFree l (⟨"com/example/descend/descend/XmlChars", "decode", "([BII)I"⟩ : MethodName) (head1 (Jvm.Cond.code (⟨"com/example/descend/descend/XmlChars", "decode", "([BII)I"⟩ : MethodName) prog_24_method_15_code 6 (some .int) :: ws) ({ frames := 0, cells := 0, slots := 0, locals := 0 } : Room)) (fun a U => a = #[(.ref a0), (.int (3 : Int32)), (.int (2 : Int32))] ∧ Z.Warmed39 U.vm ∧ U.heap = h0) (fun _ _ _ _ _ => True) (fun _ U o U' => ∃ v L, o = .returned v ∧ (Q_dec_2_3 Z a0 g h0 n0) v U'.heap L ∧ FrameEnd U o U' L ({ frames := 0, cells := 0, slots := 0, locals := 0 } : Room).cells ({ frames := 0, cells := 0, slots := 0, locals := 0 } : Room).slots) := by
  refine MetFree.of_bodySF (plainFor_of_name own_pn_XmlChars) hisR ?_
  intro p e s m args below meth c s₁ Bd hml0 hP hK
  obtain ⟨rfl, hZ, hh⟩ := hP
  have hx := Bd.exec
  have hby := Bd.bytes
  have hml : c.maxLocals = 6 := hml0
  have hown : s.vm.findClass "com/example/descend/descend/XmlChars" = some m.cls := findClass_of_methodNamed Bd.named
  have hnm := (name_of_methodNamed Bd.named Bd.method).1
  have hlk : meth.locks = false := BodyLoose.notSynchronized Bd
  have X0 : Stand p l e ({ frames := 0, cells := 0, slots := 0, locals := 0 } : Room) s m #[(.ref a0), (.int (3 : Int32)), (.int (2 : Int32))] below meth c s₁ [] 0 0 := Stand.of_body Bd
  have e0 : s₁.heap = h0 := by rw [← hh, Bd.state]; rfl
  have N0 := Fr.nil n0
  have K0 : Keep h0 h0 [] := Keep.refl _ _
  show ownEnds p e below s (Q_dec_2_3 Z a0 g h0 n0) ({ frames := 0, cells := 0, slots := 0, locals := 0 } : Room).cells ({ frames := 0, cells := 0, slots := 0, locals := 0 } : Room).slots s₁ (entryFrame m #[(.ref a0), (.int (3 : Int32)), (.int (2 : Int32))] 6)
  refine ownCast (own_ef1_dec_2_3 m a0) ?_
  refine ow_aloadN (q := 1) X0 hx (hb hby own_d1_0) rfl rfl rfl ?_
  refine ow_iloadN (q := 2) X0 hx (hb hby own_d1_1) rfl rfl ?_
  refine ownGo (T' := s₁) (f' := (mkF m 3 #[rv a0, iv (3 : Int32), iv (2 : Int32), .unset, .unset, .unset] [(.int (g 3))])) (ownBaload HF0 X0 hx hZ e0 (j := (3 : Int32)) (by unfold ownIn; decide) (g := (mkF m 2 #[rv a0, iv (3 : Int32), iv (2 : Int32), .unset, .unset, .unset] [(.int (3 : Int32)), (.ref a0)])) rfl rfl (hb hby own_d1_2)) ?_
  generalize hv_v1 : (g 3) = v1
  refine ow_sipush (q := 6) X0 hx (255 : Int32) (hb hby own_d1_3) rfl rfl ?_
  refine ow_iand (q := 7) X0 hx _ (hb hby own_d1_6) rfl rfl ?_
  generalize hv_v2 : (v1 &&& (255 : Int32)) = v2
  refine ow_istoreN (q := 8) X0 hx (L' := #[rv a0, iv (3 : Int32), iv (2 : Int32), iv v2, .unset, .unset]) (hb hby own_d1_7) rfl rfl ?_
  refine ow_iloadN (q := 9) X0 hx (hb hby own_d1_8) rfl rfl ?_
  refine ow_iconst (q := 10) X0 hx (1 : Int32) (hb hby own_d1_9) rfl rfl ?_
  refine ow_icmpYes (q := 19) X0 hx (hb hby own_d1_10) (Jvm.Free.XT.ii_ne_t (by decide)) (by decide) (by decide) ?_
  refine ow_iloadN (q := 20) X0 hx (hb hby own_d1_19) rfl rfl ?_
  refine ow_sipush (q := 23) X0 hx (255 : Int32) (hb hby own_d1_20) rfl rfl ?_
  refine ow_iloadN (q := 24) X0 hx (hb hby own_d1_23) rfl rfl ?_
  refine ow_iconst (q := 25) X0 hx (1 : Int32) (hb hby own_d1_24) rfl rfl ?_
  refine ow_iadd (q := 26) X0 hx (3 : Int32) (hb hby own_d1_25) rfl (by decide) ?_
  refine ow_ishr (q := 27) X0 hx (31 : Int32) (hb hby own_d1_26) rfl (by decide) ?_
  refine ow_iand (q := 28) X0 hx _ (hb hby own_d1_27) rfl rfl ?_
  generalize hv_v3 : (v2 &&& (31 : Int32)) = v3
  refine ow_istore (q := 30) X0 hx (L' := #[rv a0, iv (3 : Int32), iv (2 : Int32), iv v2, iv v3, .unset]) (hb hby own_d1_28) rfl rfl ?_
  refine ow_iconst (q := 31) X0 hx (1 : Int32) (hb hby own_d1_30) rfl rfl ?_
  refine ow_istore (q := 33) X0 hx (L' := #[rv a0, iv (3 : Int32), iv (2 : Int32), iv v2, iv v3, iv (1 : Int32)]) (hb hby own_d1_31) rfl rfl ?_
  refine ow_iload (q := 35) X0 hx (hb hby own_d1_33) rfl rfl ?_
  refine ow_iloadN (q := 36) X0 hx (hb hby own_d1_35) rfl rfl ?_
  refine ow_icmpNo (q := 39) X0 hx (hb hby own_d1_36) rfl (Jvm.Free.XT.ii_ge_f (by decide)) ?_
  refine ow_iload (q := 41) X0 hx (hb hby own_d1_39) rfl rfl ?_
  refine ow_bipush (q := 43) X0 hx (6 : Int32) (hb hby own_d1_41) rfl rfl ?_
  refine ow_ishl (q := 44) X0 hx _ (hb hby own_d1_43) rfl rfl ?_
  refine ow_aloadN (q := 45) X0 hx (hb hby own_d1_44) rfl rfl rfl ?_
  refine ow_iloadN (q := 46) X0 hx (hb hby own_d1_45) rfl rfl ?_
  refine ow_iload (q := 48) X0 hx (hb hby own_d1_46) rfl rfl ?_
  refine ow_iadd (q := 49) X0 hx (4 : Int32) (hb hby own_d1_48) rfl (by decide) ?_
  refine ownGo (T' := s₁) (f' := (mkF m 50 #[rv a0, iv (3 : Int32), iv (2 : Int32), iv v2, iv v3, iv (1 : Int32)] [(.int (g 4)), (.int (v3 <<< ((6 : Int32) &&& 31)))])) (ownBaload HF0 X0 hx hZ e0 (j := (4 : Int32)) (by unfold ownIn; decide) (g := (mkF m 49 #[rv a0, iv (3 : Int32), iv (2 : Int32), iv v2, iv v3, iv (1 : Int32)] [(.int (4 : Int32)), (.ref a0), (.int (v3 <<< ((6 : Int32) &&& 31)))])) rfl rfl (hb hby own_d1_49)) ?_
  generalize hv_v4 : (g 4) = v4
  refine ow_bipush (q := 52) X0 hx (63 : Int32) (hb hby own_d1_50) rfl rfl ?_
  refine ow_iand (q := 53) X0 hx _ (hb hby own_d1_52) rfl rfl ?_
  refine ow_ior (q := 54) X0 hx _ (hb hby own_d1_53) rfl rfl ?_
  generalize hv_v5 : ((v3 <<< ((6 : Int32) &&& 31)) ||| (v4 &&& (63 : Int32))) = v5
  refine ow_istore (q := 56) X0 hx (L' := #[rv a0, iv (3 : Int32), iv (2 : Int32), iv v2, iv v5, iv (1 : Int32)]) (hb hby own_d1_54) rfl rfl ?_
  refine ow_iinc (q := 59) X0 hx (L' := #[rv a0, iv (3 : Int32), iv (2 : Int32), iv v2, iv v5, iv (2 : Int32)]) (hb hby own_d1_56) rfl rfl rfl ?_
  refine ow_goto (q := 33) X0 hx (hb hby own_d1_59) (by decide) (by decide) ?_
  refine ow_iload (q := 35) X0 hx (hb hby own_d1_33) rfl rfl ?_
  refine ow_iloadN (q := 36) X0 hx (hb hby own_d1_35) rfl rfl ?_
  refine ow_icmpYes (q := 62) X0 hx (hb hby own_d1_36) (Jvm.Free.XT.ii_ge_t (by decide)) (by decide) (by decide) ?_
  refine ow_iload (q := 64) X0 hx (hb hby own_d1_62) rfl rfl ?_
  refine ownRetI X0 hx Bd.returns (hb hby own_d1_64) hlk (by decide) (by decide) ?_
  subst hv_v5 hv_v4 hv_v3 hv_v2 hv_v1
  rw [e0]
  refine ⟨congrArg (fun q => some (Value.int q)) ?_, N0, rfl⟩
  rfl
theorem own_ef1_dec_3_0 (m : MethodId) (a0 : Addr) : entryFrame m #[(.ref a0), (.int (0 : Int32)), (.int (3 : Int32))] 6 = mkF m 0 #[rv a0, iv (0 : Int32), iv (3 : Int32), .unset, .unset, .unset] [] := by first | (simp [entryFrame, mkF, argsToLocals, Value.category]; done) | rfl
def Q_dec_3_0 (Z : State) (a0 : Addr) (g : Nat → Int32) (h0 : Heap) (n0 : Nat) (v : Option Value) (h : Heap) (L : List Loc) : Prop := v = some (.int (own_dec3 (g 0) (g 1) (g 2))) ∧ Fr n0 L ∧ h = h0
set_option maxRecDepth 65536 in
set_option maxHeartbeats 40000000 in
theorem rm_dec_3_0 (l : Launch) (Z : State) (a0 : Array Value) (hw : ∀ d ∈ tables_1, d.before a0 Z = true) (ws : List Jvm.Cond) (a0 : Addr) (g : Nat → Int32) (h0 : Heap) (n0 : Nat) (Z0 : n0 ≤ h0.size) (HF0 : ownAI Z h0 a0 .byte 7 g) :
    MetFree l (⟨"com/example/descend/descend/XmlChars", "decode", "([BII)I"⟩ : MethodName) (head1 (Jvm.Cond.code (⟨"com/example/descend/descend/XmlChars", "decode", "([BII)I"⟩ : MethodName) prog_24_method_15_code 6 (some .int) :: ws) ({ frames := 0, cells := 0, slots := 0, locals := 0 } : Room)) (fun a U => a = #[(.ref a0), (.int (0 : Int32)), (.int (3 : Int32))] ∧ Z.Warmed39 U.vm ∧ U.heap = h0) (fun _ _ _ _ _ => True) (fun _ U o U' => ∃ v L, o = .returned v ∧ (Q_dec_3_0 Z a0 g h0 n0) v U'.heap L ∧ FrameEnd U o U' L ({ frames := 0, cells := 0, slots := 0, locals := 0 } : Room).cells ({ frames := 0, cells := 0, slots := 0, locals := 0 } : Room).slots) := by
  refine MetFree.of_bodySF (plainFor_of_name own_pn_XmlChars) hisR ?_
  intro p e s m args below meth c s₁ Bd hml0 hP hK
  obtain ⟨rfl, hZ, hh⟩ := hP
  have hx := Bd.exec
  have hby := Bd.bytes
  have hml : c.maxLocals = 6 := hml0
  have hown : s.vm.findClass "com/example/descend/descend/XmlChars" = some m.cls := findClass_of_methodNamed Bd.named
  have hnm := (name_of_methodNamed Bd.named Bd.method).1
  have hlk : meth.locks = false := BodyLoose.notSynchronized Bd
  have X0 : Stand p l e ({ frames := 0, cells := 0, slots := 0, locals := 0 } : Room) s m #[(.ref a0), (.int (0 : Int32)), (.int (3 : Int32))] below meth c s₁ [] 0 0 := Stand.of_body Bd
  have e0 : s₁.heap = h0 := by rw [← hh, Bd.state]; rfl
  have N0 := Fr.nil n0
  have K0 : Keep h0 h0 [] := Keep.refl _ _
  show ownEnds p e below s (Q_dec_3_0 Z a0 g h0 n0) ({ frames := 0, cells := 0, slots := 0, locals := 0 } : Room).cells ({ frames := 0, cells := 0, slots := 0, locals := 0 } : Room).slots s₁ (entryFrame m #[(.ref a0), (.int (0 : Int32)), (.int (3 : Int32))] 6)
  refine ownCast (own_ef1_dec_3_0 m a0) ?_
  refine ow_aloadN (q := 1) X0 hx (hb hby own_d1_0) rfl rfl rfl ?_
  refine ow_iloadN (q := 2) X0 hx (hb hby own_d1_1) rfl rfl ?_
  refine ownGo (T' := s₁) (f' := (mkF m 3 #[rv a0, iv (0 : Int32), iv (3 : Int32), .unset, .unset, .unset] [(.int (g 0))])) (ownBaload HF0 X0 hx hZ e0 (j := (0 : Int32)) (by unfold ownIn; decide) (g := (mkF m 2 #[rv a0, iv (0 : Int32), iv (3 : Int32), .unset, .unset, .unset] [(.int (0 : Int32)), (.ref a0)])) rfl rfl (hb hby own_d1_2)) ?_
  generalize hv_v1 : (g 0) = v1
  refine ow_sipush (q := 6) X0 hx (255 : Int32) (hb hby own_d1_3) rfl rfl ?_
  refine ow_iand (q := 7) X0 hx _ (hb hby own_d1_6) rfl rfl ?_
  generalize hv_v2 : (v1 &&& (255 : Int32)) = v2
  refine ow_istoreN (q := 8) X0 hx (L' := #[rv a0, iv (0 : Int32), iv (3 : Int32), iv v2, .unset, .unset]) (hb hby own_d1_7) rfl rfl ?_
  refine ow_iloadN (q := 9) X0 hx (hb hby own_d1_8) rfl rfl ?_
  refine ow_iconst (q := 10) X0 hx (1 : Int32) (hb hby own_d1_9) rfl rfl ?_
  refine ow_icmpYes (q := 19) X0 hx (hb hby own_d1_10) (Jvm.Free.XT.ii_ne_t (by decide)) (by decide) (by decide) ?_
  refine ow_iloadN (q := 20) X0 hx (hb hby own_d1_19) rfl rfl ?_
  refine ow_sipush (q := 23) X0 hx (255 : Int32) (hb hby own_d1_20) rfl rfl ?_
  refine ow_iloadN (q := 24) X0 hx (hb hby own_d1_23) rfl rfl ?_
  refine ow_iconst (q := 25) X0 hx (1 : Int32) (hb hby own_d1_24) rfl rfl ?_
  refine ow_iadd (q := 26) X0 hx (4 : Int32) (hb hby own_d1_25) rfl (by decide) ?_
  refine ow_ishr (q := 27) X0 hx (15 : Int32) (hb hby own_d1_26) rfl (by decide) ?_
  refine ow_iand (q := 28) X0 hx _ (hb hby own_d1_27) rfl rfl ?_
  generalize hv_v3 : (v2 &&& (15 : Int32)) = v3
  refine ow_istore (q := 30) X0 hx (L' := #[rv a0, iv (0 : Int32), iv (3 : Int32), iv v2, iv v3, .unset]) (hb hby own_d1_28) rfl rfl ?_
  refine ow_iconst (q := 31) X0 hx (1 : Int32) (hb hby own_d1_30) rfl rfl ?_
  refine ow_istore (q := 33) X0 hx (L' := #[rv a0, iv (0 : Int32), iv (3 : Int32), iv v2, iv v3, iv (1 : Int32)]) (hb hby own_d1_31) rfl rfl ?_
  refine ow_iload (q := 35) X0 hx (hb hby own_d1_33) rfl rfl ?_
  refine ow_iloadN (q := 36) X0 hx (hb hby own_d1_35) rfl rfl ?_
  refine ow_icmpNo (q := 39) X0 hx (hb hby own_d1_36) rfl (Jvm.Free.XT.ii_ge_f (by decide)) ?_
  refine ow_iload (q := 41) X0 hx (hb hby own_d1_39) rfl rfl ?_
  refine ow_bipush (q := 43) X0 hx (6 : Int32) (hb hby own_d1_41) rfl rfl ?_
  refine ow_ishl (q := 44) X0 hx _ (hb hby own_d1_43) rfl rfl ?_
  refine ow_aloadN (q := 45) X0 hx (hb hby own_d1_44) rfl rfl rfl ?_
  refine ow_iloadN (q := 46) X0 hx (hb hby own_d1_45) rfl rfl ?_
  refine ow_iload (q := 48) X0 hx (hb hby own_d1_46) rfl rfl ?_
  refine ow_iadd (q := 49) X0 hx (1 : Int32) (hb hby own_d1_48) rfl (by decide) ?_
  refine ownGo (T' := s₁) (f' := (mkF m 50 #[rv a0, iv (0 : Int32), iv (3 : Int32), iv v2, iv v3, iv (1 : Int32)] [(.int (g 1)), (.int (v3 <<< ((6 : Int32) &&& 31)))])) (ownBaload HF0 X0 hx hZ e0 (j := (1 : Int32)) (by unfold ownIn; decide) (g := (mkF m 49 #[rv a0, iv (0 : Int32), iv (3 : Int32), iv v2, iv v3, iv (1 : Int32)] [(.int (1 : Int32)), (.ref a0), (.int (v3 <<< ((6 : Int32) &&& 31)))])) rfl rfl (hb hby own_d1_49)) ?_
  generalize hv_v4 : (g 1) = v4
  refine ow_bipush (q := 52) X0 hx (63 : Int32) (hb hby own_d1_50) rfl rfl ?_
  refine ow_iand (q := 53) X0 hx _ (hb hby own_d1_52) rfl rfl ?_
  refine ow_ior (q := 54) X0 hx _ (hb hby own_d1_53) rfl rfl ?_
  generalize hv_v5 : ((v3 <<< ((6 : Int32) &&& 31)) ||| (v4 &&& (63 : Int32))) = v5
  refine ow_istore (q := 56) X0 hx (L' := #[rv a0, iv (0 : Int32), iv (3 : Int32), iv v2, iv v5, iv (1 : Int32)]) (hb hby own_d1_54) rfl rfl ?_
  refine ow_iinc (q := 59) X0 hx (L' := #[rv a0, iv (0 : Int32), iv (3 : Int32), iv v2, iv v5, iv (2 : Int32)]) (hb hby own_d1_56) rfl rfl rfl ?_
  refine ow_goto (q := 33) X0 hx (hb hby own_d1_59) (by decide) (by decide) ?_
  refine ow_iload (q := 35) X0 hx (hb hby own_d1_33) rfl rfl ?_
  refine ow_iloadN (q := 36) X0 hx (hb hby own_d1_35) rfl rfl ?_
  refine ow_icmpNo (q := 39) X0 hx (hb hby own_d1_36) rfl (Jvm.Free.XT.ii_ge_f (by decide)) ?_
  refine ow_iload (q := 41) X0 hx (hb hby own_d1_39) rfl rfl ?_
  refine ow_bipush (q := 43) X0 hx (6 : Int32) (hb hby own_d1_41) rfl rfl ?_
  refine ow_ishl (q := 44) X0 hx _ (hb hby own_d1_43) rfl rfl ?_
  refine ow_aloadN (q := 45) X0 hx (hb hby own_d1_44) rfl rfl rfl ?_
  refine ow_iloadN (q := 46) X0 hx (hb hby own_d1_45) rfl rfl ?_
  refine ow_iload (q := 48) X0 hx (hb hby own_d1_46) rfl rfl ?_
  refine ow_iadd (q := 49) X0 hx (2 : Int32) (hb hby own_d1_48) rfl (by decide) ?_
  refine ownGo (T' := s₁) (f' := (mkF m 50 #[rv a0, iv (0 : Int32), iv (3 : Int32), iv v2, iv v5, iv (2 : Int32)] [(.int (g 2)), (.int (v5 <<< ((6 : Int32) &&& 31)))])) (ownBaload HF0 X0 hx hZ e0 (j := (2 : Int32)) (by unfold ownIn; decide) (g := (mkF m 49 #[rv a0, iv (0 : Int32), iv (3 : Int32), iv v2, iv v5, iv (2 : Int32)] [(.int (2 : Int32)), (.ref a0), (.int (v5 <<< ((6 : Int32) &&& 31)))])) rfl rfl (hb hby own_d1_49)) ?_
  generalize hv_v6 : (g 2) = v6
  refine ow_bipush (q := 52) X0 hx (63 : Int32) (hb hby own_d1_50) rfl rfl ?_
  refine ow_iand (q := 53) X0 hx _ (hb hby own_d1_52) rfl rfl ?_
  refine ow_ior (q := 54) X0 hx _ (hb hby own_d1_53) rfl rfl ?_
  generalize hv_v7 : ((v5 <<< ((6 : Int32) &&& 31)) ||| (v6 &&& (63 : Int32))) = v7
  refine ow_istore (q := 56) X0 hx (L' := #[rv a0, iv (0 : Int32), iv (3 : Int32), iv v2, iv v7, iv (2 : Int32)]) (hb hby own_d1_54) rfl rfl ?_
  refine ow_iinc (q := 59) X0 hx (L' := #[rv a0, iv (0 : Int32), iv (3 : Int32), iv v2, iv v7, iv (3 : Int32)]) (hb hby own_d1_56) rfl rfl rfl ?_
  refine ow_goto (q := 33) X0 hx (hb hby own_d1_59) (by decide) (by decide) ?_
  refine ow_iload (q := 35) X0 hx (hb hby own_d1_33) rfl rfl ?_
  refine ow_iloadN (q := 36) X0 hx (hb hby own_d1_35) rfl rfl ?_
  refine ow_icmpYes (q := 62) X0 hx (hb hby own_d1_36) (Jvm.Free.XT.ii_ge_t (by decide)) (by decide) (by decide) ?_
  refine ow_iload (q := 64) X0 hx (hb hby own_d1_62) rfl rfl ?_
  refine ownRetI X0 hx Bd.returns (hb hby own_d1_64) hlk (by decide) (by decide) ?_
  subst hv_v7 hv_v6 hv_v5 hv_v4 hv_v3 hv_v2 hv_v1
  rw [e0]
  refine ⟨congrArg (fun q => some (Value.int q)) ?_, N0, rfl⟩
  rfl
theorem own_ef1_dec_3_1 (m : MethodId) (a0 : Addr) : entryFrame m #[(.ref a0), (.int (1 : Int32)), (.int (3 : Int32))] 6 = mkF m 0 #[rv a0, iv (1 : Int32), iv (3 : Int32), .unset, .unset, .unset] [] := by first | (simp [entryFrame, mkF, argsToLocals, Value.category]; done) | rfl
def Q_dec_3_1 (Z : State) (a0 : Addr) (g : Nat → Int32) (h0 : Heap) (n0 : Nat) (v : Option Value) (h : Heap) (L : List Loc) : Prop := v = some (.int (own_dec3 (g 1) (g 2) (g 3))) ∧ Fr n0 L ∧ h = h0
set_option maxRecDepth 65536 in
set_option maxHeartbeats 40000000 in
theorem rm_dec_3_1 (l : Launch) (Z : State) (a0 : Array Value) (hw : ∀ d ∈ tables_1, d.before a0 Z = true) (ws : List Jvm.Cond) (a0 : Addr) (g : Nat → Int32) (h0 : Heap) (n0 : Nat) (Z0 : n0 ≤ h0.size) (HF0 : ownAI Z h0 a0 .byte 7 g) :
    MetFree l (⟨"com/example/descend/descend/XmlChars", "decode", "([BII)I"⟩ : MethodName) (head1 (Jvm.Cond.code (⟨"com/example/descend/descend/XmlChars", "decode", "([BII)I"⟩ : MethodName) prog_24_method_15_code 6 (some .int) :: ws) ({ frames := 0, cells := 0, slots := 0, locals := 0 } : Room)) (fun a U => a = #[(.ref a0), (.int (1 : Int32)), (.int (3 : Int32))] ∧ Z.Warmed39 U.vm ∧ U.heap = h0) (fun _ _ _ _ _ => True) (fun _ U o U' => ∃ v L, o = .returned v ∧ (Q_dec_3_1 Z a0 g h0 n0) v U'.heap L ∧ FrameEnd U o U' L ({ frames := 0, cells := 0, slots := 0, locals := 0 } : Room).cells ({ frames := 0, cells := 0, slots := 0, locals := 0 } : Room).slots) := by
  refine MetFree.of_bodySF (plainFor_of_name own_pn_XmlChars) hisR ?_
  intro p e s m args below meth c s₁ Bd hml0 hP hK
  obtain ⟨rfl, hZ, hh⟩ := hP
  have hx := Bd.exec
  have hby := Bd.bytes
  have hml : c.maxLocals = 6 := hml0
  have hown : s.vm.findClass "com/example/descend/descend/XmlChars" = some m.cls := findClass_of_methodNamed Bd.named
  have hnm := (name_of_methodNamed Bd.named Bd.method).1
  have hlk : meth.locks = false := BodyLoose.notSynchronized Bd
  have X0 : Stand p l e ({ frames := 0, cells := 0, slots := 0, locals := 0 } : Room) s m #[(.ref a0), (.int (1 : Int32)), (.int (3 : Int32))] below meth c s₁ [] 0 0 := Stand.of_body Bd
  have e0 : s₁.heap = h0 := by rw [← hh, Bd.state]; rfl
  have N0 := Fr.nil n0
  have K0 : Keep h0 h0 [] := Keep.refl _ _
  show ownEnds p e below s (Q_dec_3_1 Z a0 g h0 n0) ({ frames := 0, cells := 0, slots := 0, locals := 0 } : Room).cells ({ frames := 0, cells := 0, slots := 0, locals := 0 } : Room).slots s₁ (entryFrame m #[(.ref a0), (.int (1 : Int32)), (.int (3 : Int32))] 6)
  refine ownCast (own_ef1_dec_3_1 m a0) ?_
  refine ow_aloadN (q := 1) X0 hx (hb hby own_d1_0) rfl rfl rfl ?_
  refine ow_iloadN (q := 2) X0 hx (hb hby own_d1_1) rfl rfl ?_
  refine ownGo (T' := s₁) (f' := (mkF m 3 #[rv a0, iv (1 : Int32), iv (3 : Int32), .unset, .unset, .unset] [(.int (g 1))])) (ownBaload HF0 X0 hx hZ e0 (j := (1 : Int32)) (by unfold ownIn; decide) (g := (mkF m 2 #[rv a0, iv (1 : Int32), iv (3 : Int32), .unset, .unset, .unset] [(.int (1 : Int32)), (.ref a0)])) rfl rfl (hb hby own_d1_2)) ?_
  generalize hv_v1 : (g 1) = v1
  refine ow_sipush (q := 6) X0 hx (255 : Int32) (hb hby own_d1_3) rfl rfl ?_
  refine ow_iand (q := 7) X0 hx _ (hb hby own_d1_6) rfl rfl ?_
  generalize hv_v2 : (v1 &&& (255 : Int32)) = v2
  refine ow_istoreN (q := 8) X0 hx (L' := #[rv a0, iv (1 : Int32), iv (3 : Int32), iv v2, .unset, .unset]) (hb hby own_d1_7) rfl rfl ?_
  refine ow_iloadN (q := 9) X0 hx (hb hby own_d1_8) rfl rfl ?_
  refine ow_iconst (q := 10) X0 hx (1 : Int32) (hb hby own_d1_9) rfl rfl ?_
  refine ow_icmpYes (q := 19) X0 hx (hb hby own_d1_10) (Jvm.Free.XT.ii_ne_t (by decide)) (by decide) (by decide) ?_
  refine ow_iloadN (q := 20) X0 hx (hb hby own_d1_19) rfl rfl ?_
  refine ow_sipush (q := 23) X0 hx (255 : Int32) (hb hby own_d1_20) rfl rfl ?_
  refine ow_iloadN (q := 24) X0 hx (hb hby own_d1_23) rfl rfl ?_
  refine ow_iconst (q := 25) X0 hx (1 : Int32) (hb hby own_d1_24) rfl rfl ?_
  refine ow_iadd (q := 26) X0 hx (4 : Int32) (hb hby own_d1_25) rfl (by decide) ?_
  refine ow_ishr (q := 27) X0 hx (15 : Int32) (hb hby own_d1_26) rfl (by decide) ?_
  refine ow_iand (q := 28) X0 hx _ (hb hby own_d1_27) rfl rfl ?_
  generalize hv_v3 : (v2 &&& (15 : Int32)) = v3
  refine ow_istore (q := 30) X0 hx (L' := #[rv a0, iv (1 : Int32), iv (3 : Int32), iv v2, iv v3, .unset]) (hb hby own_d1_28) rfl rfl ?_
  refine ow_iconst (q := 31) X0 hx (1 : Int32) (hb hby own_d1_30) rfl rfl ?_
  refine ow_istore (q := 33) X0 hx (L' := #[rv a0, iv (1 : Int32), iv (3 : Int32), iv v2, iv v3, iv (1 : Int32)]) (hb hby own_d1_31) rfl rfl ?_
  refine ow_iload (q := 35) X0 hx (hb hby own_d1_33) rfl rfl ?_
  refine ow_iloadN (q := 36) X0 hx (hb hby own_d1_35) rfl rfl ?_
  refine ow_icmpNo (q := 39) X0 hx (hb hby own_d1_36) rfl (Jvm.Free.XT.ii_ge_f (by decide)) ?_
  refine ow_iload (q := 41) X0 hx (hb hby own_d1_39) rfl rfl ?_
  refine ow_bipush (q := 43) X0 hx (6 : Int32) (hb hby own_d1_41) rfl rfl ?_
  refine ow_ishl (q := 44) X0 hx _ (hb hby own_d1_43) rfl rfl ?_
  refine ow_aloadN (q := 45) X0 hx (hb hby own_d1_44) rfl rfl rfl ?_
  refine ow_iloadN (q := 46) X0 hx (hb hby own_d1_45) rfl rfl ?_
  refine ow_iload (q := 48) X0 hx (hb hby own_d1_46) rfl rfl ?_
  refine ow_iadd (q := 49) X0 hx (2 : Int32) (hb hby own_d1_48) rfl (by decide) ?_
  refine ownGo (T' := s₁) (f' := (mkF m 50 #[rv a0, iv (1 : Int32), iv (3 : Int32), iv v2, iv v3, iv (1 : Int32)] [(.int (g 2)), (.int (v3 <<< ((6 : Int32) &&& 31)))])) (ownBaload HF0 X0 hx hZ e0 (j := (2 : Int32)) (by unfold ownIn; decide) (g := (mkF m 49 #[rv a0, iv (1 : Int32), iv (3 : Int32), iv v2, iv v3, iv (1 : Int32)] [(.int (2 : Int32)), (.ref a0), (.int (v3 <<< ((6 : Int32) &&& 31)))])) rfl rfl (hb hby own_d1_49)) ?_
  generalize hv_v4 : (g 2) = v4
  refine ow_bipush (q := 52) X0 hx (63 : Int32) (hb hby own_d1_50) rfl rfl ?_
  refine ow_iand (q := 53) X0 hx _ (hb hby own_d1_52) rfl rfl ?_
  refine ow_ior (q := 54) X0 hx _ (hb hby own_d1_53) rfl rfl ?_
  generalize hv_v5 : ((v3 <<< ((6 : Int32) &&& 31)) ||| (v4 &&& (63 : Int32))) = v5
  refine ow_istore (q := 56) X0 hx (L' := #[rv a0, iv (1 : Int32), iv (3 : Int32), iv v2, iv v5, iv (1 : Int32)]) (hb hby own_d1_54) rfl rfl ?_
  refine ow_iinc (q := 59) X0 hx (L' := #[rv a0, iv (1 : Int32), iv (3 : Int32), iv v2, iv v5, iv (2 : Int32)]) (hb hby own_d1_56) rfl rfl rfl ?_
  refine ow_goto (q := 33) X0 hx (hb hby own_d1_59) (by decide) (by decide) ?_
  refine ow_iload (q := 35) X0 hx (hb hby own_d1_33) rfl rfl ?_
  refine ow_iloadN (q := 36) X0 hx (hb hby own_d1_35) rfl rfl ?_
  refine ow_icmpNo (q := 39) X0 hx (hb hby own_d1_36) rfl (Jvm.Free.XT.ii_ge_f (by decide)) ?_
  refine ow_iload (q := 41) X0 hx (hb hby own_d1_39) rfl rfl ?_
  refine ow_bipush (q := 43) X0 hx (6 : Int32) (hb hby own_d1_41) rfl rfl ?_
  refine ow_ishl (q := 44) X0 hx _ (hb hby own_d1_43) rfl rfl ?_
  refine ow_aloadN (q := 45) X0 hx (hb hby own_d1_44) rfl rfl rfl ?_
  refine ow_iloadN (q := 46) X0 hx (hb hby own_d1_45) rfl rfl ?_
  refine ow_iload (q := 48) X0 hx (hb hby own_d1_46) rfl rfl ?_
  refine ow_iadd (q := 49) X0 hx (3 : Int32) (hb hby own_d1_48) rfl (by decide) ?_
  refine ownGo (T' := s₁) (f' := (mkF m 50 #[rv a0, iv (1 : Int32), iv (3 : Int32), iv v2, iv v5, iv (2 : Int32)] [(.int (g 3)), (.int (v5 <<< ((6 : Int32) &&& 31)))])) (ownBaload HF0 X0 hx hZ e0 (j := (3 : Int32)) (by unfold ownIn; decide) (g := (mkF m 49 #[rv a0, iv (1 : Int32), iv (3 : Int32), iv v2, iv v5, iv (2 : Int32)] [(.int (3 : Int32)), (.ref a0), (.int (v5 <<< ((6 : Int32) &&& 31)))])) rfl rfl (hb hby own_d1_49)) ?_
  generalize hv_v6 : (g 3) = v6
  refine ow_bipush (q := 52) X0 hx (63 : Int32) (hb hby own_d1_50) rfl rfl ?_
  refine ow_iand (q := 53) X0 hx _ (hb hby own_d1_52) rfl rfl ?_
  refine ow_ior (q := 54) X0 hx _ (hb hby own_d1_53) rfl rfl ?_
  generalize hv_v7 : ((v5 <<< ((6 : Int32) &&& 31)) ||| (v6 &&& (63 : Int32))) = v7
  refine ow_istore (q := 56) X0 hx (L' := #[rv a0, iv (1 : Int32), iv (3 : Int32), iv v2, iv v7, iv (2 : Int32)]) (hb hby own_d1_54) rfl rfl ?_
  refine ow_iinc (q := 59) X0 hx (L' := #[rv a0, iv (1 : Int32), iv (3 : Int32), iv v2, iv v7, iv (3 : Int32)]) (hb hby own_d1_56) rfl rfl rfl ?_
  refine ow_goto (q := 33) X0 hx (hb hby own_d1_59) (by decide) (by decide) ?_
  refine ow_iload (q := 35) X0 hx (hb hby own_d1_33) rfl rfl ?_
  refine ow_iloadN (q := 36) X0 hx (hb hby own_d1_35) rfl rfl ?_
  refine ow_icmpYes (q := 62) X0 hx (hb hby own_d1_36) (Jvm.Free.XT.ii_ge_t (by decide)) (by decide) (by decide) ?_
  refine ow_iload (q := 64) X0 hx (hb hby own_d1_62) rfl rfl ?_
  refine ownRetI X0 hx Bd.returns (hb hby own_d1_64) hlk (by decide) (by decide) ?_
  subst hv_v7 hv_v6 hv_v5 hv_v4 hv_v3 hv_v2 hv_v1
  rw [e0]
  refine ⟨congrArg (fun q => some (Value.int q)) ?_, N0, rfl⟩
  rfl
theorem own_ef1_dec_3_2 (m : MethodId) (a0 : Addr) : entryFrame m #[(.ref a0), (.int (2 : Int32)), (.int (3 : Int32))] 6 = mkF m 0 #[rv a0, iv (2 : Int32), iv (3 : Int32), .unset, .unset, .unset] [] := by first | (simp [entryFrame, mkF, argsToLocals, Value.category]; done) | rfl
def Q_dec_3_2 (Z : State) (a0 : Addr) (g : Nat → Int32) (h0 : Heap) (n0 : Nat) (v : Option Value) (h : Heap) (L : List Loc) : Prop := v = some (.int (own_dec3 (g 2) (g 3) (g 4))) ∧ Fr n0 L ∧ h = h0
set_option maxRecDepth 65536 in
set_option maxHeartbeats 40000000 in
theorem rm_dec_3_2 (l : Launch) (Z : State) (a0 : Array Value) (hw : ∀ d ∈ tables_1, d.before a0 Z = true) (ws : List Jvm.Cond) (a0 : Addr) (g : Nat → Int32) (h0 : Heap) (n0 : Nat) (Z0 : n0 ≤ h0.size) (HF0 : ownAI Z h0 a0 .byte 7 g) :
    MetFree l (⟨"com/example/descend/descend/XmlChars", "decode", "([BII)I"⟩ : MethodName) (head1 (Jvm.Cond.code (⟨"com/example/descend/descend/XmlChars", "decode", "([BII)I"⟩ : MethodName) prog_24_method_15_code 6 (some .int) :: ws) ({ frames := 0, cells := 0, slots := 0, locals := 0 } : Room)) (fun a U => a = #[(.ref a0), (.int (2 : Int32)), (.int (3 : Int32))] ∧ Z.Warmed39 U.vm ∧ U.heap = h0) (fun _ _ _ _ _ => True) (fun _ U o U' => ∃ v L, o = .returned v ∧ (Q_dec_3_2 Z a0 g h0 n0) v U'.heap L ∧ FrameEnd U o U' L ({ frames := 0, cells := 0, slots := 0, locals := 0 } : Room).cells ({ frames := 0, cells := 0, slots := 0, locals := 0 } : Room).slots) := by
  refine MetFree.of_bodySF (plainFor_of_name own_pn_XmlChars) hisR ?_
  intro p e s m args below meth c s₁ Bd hml0 hP hK
  obtain ⟨rfl, hZ, hh⟩ := hP
  have hx := Bd.exec
  have hby := Bd.bytes
  have hml : c.maxLocals = 6 := hml0
  have hown : s.vm.findClass "com/example/descend/descend/XmlChars" = some m.cls := findClass_of_methodNamed Bd.named
  have hnm := (name_of_methodNamed Bd.named Bd.method).1
  have hlk : meth.locks = false := BodyLoose.notSynchronized Bd
  have X0 : Stand p l e ({ frames := 0, cells := 0, slots := 0, locals := 0 } : Room) s m #[(.ref a0), (.int (2 : Int32)), (.int (3 : Int32))] below meth c s₁ [] 0 0 := Stand.of_body Bd
  have e0 : s₁.heap = h0 := by rw [← hh, Bd.state]; rfl
  have N0 := Fr.nil n0
  have K0 : Keep h0 h0 [] := Keep.refl _ _
  show ownEnds p e below s (Q_dec_3_2 Z a0 g h0 n0) ({ frames := 0, cells := 0, slots := 0, locals := 0 } : Room).cells ({ frames := 0, cells := 0, slots := 0, locals := 0 } : Room).slots s₁ (entryFrame m #[(.ref a0), (.int (2 : Int32)), (.int (3 : Int32))] 6)
  refine ownCast (own_ef1_dec_3_2 m a0) ?_
  refine ow_aloadN (q := 1) X0 hx (hb hby own_d1_0) rfl rfl rfl ?_
  refine ow_iloadN (q := 2) X0 hx (hb hby own_d1_1) rfl rfl ?_
  refine ownGo (T' := s₁) (f' := (mkF m 3 #[rv a0, iv (2 : Int32), iv (3 : Int32), .unset, .unset, .unset] [(.int (g 2))])) (ownBaload HF0 X0 hx hZ e0 (j := (2 : Int32)) (by unfold ownIn; decide) (g := (mkF m 2 #[rv a0, iv (2 : Int32), iv (3 : Int32), .unset, .unset, .unset] [(.int (2 : Int32)), (.ref a0)])) rfl rfl (hb hby own_d1_2)) ?_
  generalize hv_v1 : (g 2) = v1
  refine ow_sipush (q := 6) X0 hx (255 : Int32) (hb hby own_d1_3) rfl rfl ?_
  refine ow_iand (q := 7) X0 hx _ (hb hby own_d1_6) rfl rfl ?_
  generalize hv_v2 : (v1 &&& (255 : Int32)) = v2
  refine ow_istoreN (q := 8) X0 hx (L' := #[rv a0, iv (2 : Int32), iv (3 : Int32), iv v2, .unset, .unset]) (hb hby own_d1_7) rfl rfl ?_
  refine ow_iloadN (q := 9) X0 hx (hb hby own_d1_8) rfl rfl ?_
  refine ow_iconst (q := 10) X0 hx (1 : Int32) (hb hby own_d1_9) rfl rfl ?_
  refine ow_icmpYes (q := 19) X0 hx (hb hby own_d1_10) (Jvm.Free.XT.ii_ne_t (by decide)) (by decide) (by decide) ?_
  refine ow_iloadN (q := 20) X0 hx (hb hby own_d1_19) rfl rfl ?_
  refine ow_sipush (q := 23) X0 hx (255 : Int32) (hb hby own_d1_20) rfl rfl ?_
  refine ow_iloadN (q := 24) X0 hx (hb hby own_d1_23) rfl rfl ?_
  refine ow_iconst (q := 25) X0 hx (1 : Int32) (hb hby own_d1_24) rfl rfl ?_
  refine ow_iadd (q := 26) X0 hx (4 : Int32) (hb hby own_d1_25) rfl (by decide) ?_
  refine ow_ishr (q := 27) X0 hx (15 : Int32) (hb hby own_d1_26) rfl (by decide) ?_
  refine ow_iand (q := 28) X0 hx _ (hb hby own_d1_27) rfl rfl ?_
  generalize hv_v3 : (v2 &&& (15 : Int32)) = v3
  refine ow_istore (q := 30) X0 hx (L' := #[rv a0, iv (2 : Int32), iv (3 : Int32), iv v2, iv v3, .unset]) (hb hby own_d1_28) rfl rfl ?_
  refine ow_iconst (q := 31) X0 hx (1 : Int32) (hb hby own_d1_30) rfl rfl ?_
  refine ow_istore (q := 33) X0 hx (L' := #[rv a0, iv (2 : Int32), iv (3 : Int32), iv v2, iv v3, iv (1 : Int32)]) (hb hby own_d1_31) rfl rfl ?_
  refine ow_iload (q := 35) X0 hx (hb hby own_d1_33) rfl rfl ?_
  refine ow_iloadN (q := 36) X0 hx (hb hby own_d1_35) rfl rfl ?_
  refine ow_icmpNo (q := 39) X0 hx (hb hby own_d1_36) rfl (Jvm.Free.XT.ii_ge_f (by decide)) ?_
  refine ow_iload (q := 41) X0 hx (hb hby own_d1_39) rfl rfl ?_
  refine ow_bipush (q := 43) X0 hx (6 : Int32) (hb hby own_d1_41) rfl rfl ?_
  refine ow_ishl (q := 44) X0 hx _ (hb hby own_d1_43) rfl rfl ?_
  refine ow_aloadN (q := 45) X0 hx (hb hby own_d1_44) rfl rfl rfl ?_
  refine ow_iloadN (q := 46) X0 hx (hb hby own_d1_45) rfl rfl ?_
  refine ow_iload (q := 48) X0 hx (hb hby own_d1_46) rfl rfl ?_
  refine ow_iadd (q := 49) X0 hx (3 : Int32) (hb hby own_d1_48) rfl (by decide) ?_
  refine ownGo (T' := s₁) (f' := (mkF m 50 #[rv a0, iv (2 : Int32), iv (3 : Int32), iv v2, iv v3, iv (1 : Int32)] [(.int (g 3)), (.int (v3 <<< ((6 : Int32) &&& 31)))])) (ownBaload HF0 X0 hx hZ e0 (j := (3 : Int32)) (by unfold ownIn; decide) (g := (mkF m 49 #[rv a0, iv (2 : Int32), iv (3 : Int32), iv v2, iv v3, iv (1 : Int32)] [(.int (3 : Int32)), (.ref a0), (.int (v3 <<< ((6 : Int32) &&& 31)))])) rfl rfl (hb hby own_d1_49)) ?_
  generalize hv_v4 : (g 3) = v4
  refine ow_bipush (q := 52) X0 hx (63 : Int32) (hb hby own_d1_50) rfl rfl ?_
  refine ow_iand (q := 53) X0 hx _ (hb hby own_d1_52) rfl rfl ?_
  refine ow_ior (q := 54) X0 hx _ (hb hby own_d1_53) rfl rfl ?_
  generalize hv_v5 : ((v3 <<< ((6 : Int32) &&& 31)) ||| (v4 &&& (63 : Int32))) = v5
  refine ow_istore (q := 56) X0 hx (L' := #[rv a0, iv (2 : Int32), iv (3 : Int32), iv v2, iv v5, iv (1 : Int32)]) (hb hby own_d1_54) rfl rfl ?_
  refine ow_iinc (q := 59) X0 hx (L' := #[rv a0, iv (2 : Int32), iv (3 : Int32), iv v2, iv v5, iv (2 : Int32)]) (hb hby own_d1_56) rfl rfl rfl ?_
  refine ow_goto (q := 33) X0 hx (hb hby own_d1_59) (by decide) (by decide) ?_
  refine ow_iload (q := 35) X0 hx (hb hby own_d1_33) rfl rfl ?_
  refine ow_iloadN (q := 36) X0 hx (hb hby own_d1_35) rfl rfl ?_
  refine ow_icmpNo (q := 39) X0 hx (hb hby own_d1_36) rfl (Jvm.Free.XT.ii_ge_f (by decide)) ?_
  refine ow_iload (q := 41) X0 hx (hb hby own_d1_39) rfl rfl ?_
  refine ow_bipush (q := 43) X0 hx (6 : Int32) (hb hby own_d1_41) rfl rfl ?_
  refine ow_ishl (q := 44) X0 hx _ (hb hby own_d1_43) rfl rfl ?_
  refine ow_aloadN (q := 45) X0 hx (hb hby own_d1_44) rfl rfl rfl ?_
  refine ow_iloadN (q := 46) X0 hx (hb hby own_d1_45) rfl rfl ?_
  refine ow_iload (q := 48) X0 hx (hb hby own_d1_46) rfl rfl ?_
  refine ow_iadd (q := 49) X0 hx (4 : Int32) (hb hby own_d1_48) rfl (by decide) ?_
  refine ownGo (T' := s₁) (f' := (mkF m 50 #[rv a0, iv (2 : Int32), iv (3 : Int32), iv v2, iv v5, iv (2 : Int32)] [(.int (g 4)), (.int (v5 <<< ((6 : Int32) &&& 31)))])) (ownBaload HF0 X0 hx hZ e0 (j := (4 : Int32)) (by unfold ownIn; decide) (g := (mkF m 49 #[rv a0, iv (2 : Int32), iv (3 : Int32), iv v2, iv v5, iv (2 : Int32)] [(.int (4 : Int32)), (.ref a0), (.int (v5 <<< ((6 : Int32) &&& 31)))])) rfl rfl (hb hby own_d1_49)) ?_
  generalize hv_v6 : (g 4) = v6
  refine ow_bipush (q := 52) X0 hx (63 : Int32) (hb hby own_d1_50) rfl rfl ?_
  refine ow_iand (q := 53) X0 hx _ (hb hby own_d1_52) rfl rfl ?_
  refine ow_ior (q := 54) X0 hx _ (hb hby own_d1_53) rfl rfl ?_
  generalize hv_v7 : ((v5 <<< ((6 : Int32) &&& 31)) ||| (v6 &&& (63 : Int32))) = v7
  refine ow_istore (q := 56) X0 hx (L' := #[rv a0, iv (2 : Int32), iv (3 : Int32), iv v2, iv v7, iv (2 : Int32)]) (hb hby own_d1_54) rfl rfl ?_
  refine ow_iinc (q := 59) X0 hx (L' := #[rv a0, iv (2 : Int32), iv (3 : Int32), iv v2, iv v7, iv (3 : Int32)]) (hb hby own_d1_56) rfl rfl rfl ?_
  refine ow_goto (q := 33) X0 hx (hb hby own_d1_59) (by decide) (by decide) ?_
  refine ow_iload (q := 35) X0 hx (hb hby own_d1_33) rfl rfl ?_
  refine ow_iloadN (q := 36) X0 hx (hb hby own_d1_35) rfl rfl ?_
  refine ow_icmpYes (q := 62) X0 hx (hb hby own_d1_36) (Jvm.Free.XT.ii_ge_t (by decide)) (by decide) (by decide) ?_
  refine ow_iload (q := 64) X0 hx (hb hby own_d1_62) rfl rfl ?_
  refine ownRetI X0 hx Bd.returns (hb hby own_d1_64) hlk (by decide) (by decide) ?_
  subst hv_v7 hv_v6 hv_v5 hv_v4 hv_v3 hv_v2 hv_v1
  rw [e0]
  refine ⟨congrArg (fun q => some (Value.int q)) ?_, N0, rfl⟩
  rfl
theorem own_ef1_dec_3_3 (m : MethodId) (a0 : Addr) : entryFrame m #[(.ref a0), (.int (3 : Int32)), (.int (3 : Int32))] 6 = mkF m 0 #[rv a0, iv (3 : Int32), iv (3 : Int32), .unset, .unset, .unset] [] := by first | (simp [entryFrame, mkF, argsToLocals, Value.category]; done) | rfl
def Q_dec_3_3 (Z : State) (a0 : Addr) (g : Nat → Int32) (h0 : Heap) (n0 : Nat) (v : Option Value) (h : Heap) (L : List Loc) : Prop := v = some (.int (own_dec3 (g 3) (g 4) (g 5))) ∧ Fr n0 L ∧ h = h0
set_option maxRecDepth 65536 in
set_option maxHeartbeats 40000000 in
theorem rm_dec_3_3 (l : Launch) (Z : State) (a0 : Array Value) (hw : ∀ d ∈ tables_1, d.before a0 Z = true) (ws : List Jvm.Cond) (a0 : Addr) (g : Nat → Int32) (h0 : Heap) (n0 : Nat) (Z0 : n0 ≤ h0.size) (HF0 : ownAI Z h0 a0 .byte 7 g) :
    MetFree l (⟨"com/example/descend/descend/XmlChars", "decode", "([BII)I"⟩ : MethodName) (head1 (Jvm.Cond.code (⟨"com/example/descend/descend/XmlChars", "decode", "([BII)I"⟩ : MethodName) prog_24_method_15_code 6 (some .int) :: ws) ({ frames := 0, cells := 0, slots := 0, locals := 0 } : Room)) (fun a U => a = #[(.ref a0), (.int (3 : Int32)), (.int (3 : Int32))] ∧ Z.Warmed39 U.vm ∧ U.heap = h0) (fun _ _ _ _ _ => True) (fun _ U o U' => ∃ v L, o = .returned v ∧ (Q_dec_3_3 Z a0 g h0 n0) v U'.heap L ∧ FrameEnd U o U' L ({ frames := 0, cells := 0, slots := 0, locals := 0 } : Room).cells ({ frames := 0, cells := 0, slots := 0, locals := 0 } : Room).slots) := by
  refine MetFree.of_bodySF (plainFor_of_name own_pn_XmlChars) hisR ?_
  intro p e s m args below meth c s₁ Bd hml0 hP hK
  obtain ⟨rfl, hZ, hh⟩ := hP
  have hx := Bd.exec
  have hby := Bd.bytes
  have hml : c.maxLocals = 6 := hml0
  have hown : s.vm.findClass "com/example/descend/descend/XmlChars" = some m.cls := findClass_of_methodNamed Bd.named
  have hnm := (name_of_methodNamed Bd.named Bd.method).1
  have hlk : meth.locks = false := BodyLoose.notSynchronized Bd
  have X0 : Stand p l e ({ frames := 0, cells := 0, slots := 0, locals := 0 } : Room) s m #[(.ref a0), (.int (3 : Int32)), (.int (3 : Int32))] below meth c s₁ [] 0 0 := Stand.of_body Bd
  have e0 : s₁.heap = h0 := by rw [← hh, Bd.state]; rfl
  have N0 := Fr.nil n0
  have K0 : Keep h0 h0 [] := Keep.refl _ _
  show ownEnds p e below s (Q_dec_3_3 Z a0 g h0 n0) ({ frames := 0, cells := 0, slots := 0, locals := 0 } : Room).cells ({ frames := 0, cells := 0, slots := 0, locals := 0 } : Room).slots s₁ (entryFrame m #[(.ref a0), (.int (3 : Int32)), (.int (3 : Int32))] 6)
  refine ownCast (own_ef1_dec_3_3 m a0) ?_
  refine ow_aloadN (q := 1) X0 hx (hb hby own_d1_0) rfl rfl rfl ?_
  refine ow_iloadN (q := 2) X0 hx (hb hby own_d1_1) rfl rfl ?_
  refine ownGo (T' := s₁) (f' := (mkF m 3 #[rv a0, iv (3 : Int32), iv (3 : Int32), .unset, .unset, .unset] [(.int (g 3))])) (ownBaload HF0 X0 hx hZ e0 (j := (3 : Int32)) (by unfold ownIn; decide) (g := (mkF m 2 #[rv a0, iv (3 : Int32), iv (3 : Int32), .unset, .unset, .unset] [(.int (3 : Int32)), (.ref a0)])) rfl rfl (hb hby own_d1_2)) ?_
  generalize hv_v1 : (g 3) = v1
  refine ow_sipush (q := 6) X0 hx (255 : Int32) (hb hby own_d1_3) rfl rfl ?_
  refine ow_iand (q := 7) X0 hx _ (hb hby own_d1_6) rfl rfl ?_
  generalize hv_v2 : (v1 &&& (255 : Int32)) = v2
  refine ow_istoreN (q := 8) X0 hx (L' := #[rv a0, iv (3 : Int32), iv (3 : Int32), iv v2, .unset, .unset]) (hb hby own_d1_7) rfl rfl ?_
  refine ow_iloadN (q := 9) X0 hx (hb hby own_d1_8) rfl rfl ?_
  refine ow_iconst (q := 10) X0 hx (1 : Int32) (hb hby own_d1_9) rfl rfl ?_
  refine ow_icmpYes (q := 19) X0 hx (hb hby own_d1_10) (Jvm.Free.XT.ii_ne_t (by decide)) (by decide) (by decide) ?_
  refine ow_iloadN (q := 20) X0 hx (hb hby own_d1_19) rfl rfl ?_
  refine ow_sipush (q := 23) X0 hx (255 : Int32) (hb hby own_d1_20) rfl rfl ?_
  refine ow_iloadN (q := 24) X0 hx (hb hby own_d1_23) rfl rfl ?_
  refine ow_iconst (q := 25) X0 hx (1 : Int32) (hb hby own_d1_24) rfl rfl ?_
  refine ow_iadd (q := 26) X0 hx (4 : Int32) (hb hby own_d1_25) rfl (by decide) ?_
  refine ow_ishr (q := 27) X0 hx (15 : Int32) (hb hby own_d1_26) rfl (by decide) ?_
  refine ow_iand (q := 28) X0 hx _ (hb hby own_d1_27) rfl rfl ?_
  generalize hv_v3 : (v2 &&& (15 : Int32)) = v3
  refine ow_istore (q := 30) X0 hx (L' := #[rv a0, iv (3 : Int32), iv (3 : Int32), iv v2, iv v3, .unset]) (hb hby own_d1_28) rfl rfl ?_
  refine ow_iconst (q := 31) X0 hx (1 : Int32) (hb hby own_d1_30) rfl rfl ?_
  refine ow_istore (q := 33) X0 hx (L' := #[rv a0, iv (3 : Int32), iv (3 : Int32), iv v2, iv v3, iv (1 : Int32)]) (hb hby own_d1_31) rfl rfl ?_
  refine ow_iload (q := 35) X0 hx (hb hby own_d1_33) rfl rfl ?_
  refine ow_iloadN (q := 36) X0 hx (hb hby own_d1_35) rfl rfl ?_
  refine ow_icmpNo (q := 39) X0 hx (hb hby own_d1_36) rfl (Jvm.Free.XT.ii_ge_f (by decide)) ?_
  refine ow_iload (q := 41) X0 hx (hb hby own_d1_39) rfl rfl ?_
  refine ow_bipush (q := 43) X0 hx (6 : Int32) (hb hby own_d1_41) rfl rfl ?_
  refine ow_ishl (q := 44) X0 hx _ (hb hby own_d1_43) rfl rfl ?_
  refine ow_aloadN (q := 45) X0 hx (hb hby own_d1_44) rfl rfl rfl ?_
  refine ow_iloadN (q := 46) X0 hx (hb hby own_d1_45) rfl rfl ?_
  refine ow_iload (q := 48) X0 hx (hb hby own_d1_46) rfl rfl ?_
  refine ow_iadd (q := 49) X0 hx (4 : Int32) (hb hby own_d1_48) rfl (by decide) ?_
  refine ownGo (T' := s₁) (f' := (mkF m 50 #[rv a0, iv (3 : Int32), iv (3 : Int32), iv v2, iv v3, iv (1 : Int32)] [(.int (g 4)), (.int (v3 <<< ((6 : Int32) &&& 31)))])) (ownBaload HF0 X0 hx hZ e0 (j := (4 : Int32)) (by unfold ownIn; decide) (g := (mkF m 49 #[rv a0, iv (3 : Int32), iv (3 : Int32), iv v2, iv v3, iv (1 : Int32)] [(.int (4 : Int32)), (.ref a0), (.int (v3 <<< ((6 : Int32) &&& 31)))])) rfl rfl (hb hby own_d1_49)) ?_
  generalize hv_v4 : (g 4) = v4
  refine ow_bipush (q := 52) X0 hx (63 : Int32) (hb hby own_d1_50) rfl rfl ?_
  refine ow_iand (q := 53) X0 hx _ (hb hby own_d1_52) rfl rfl ?_
  refine ow_ior (q := 54) X0 hx _ (hb hby own_d1_53) rfl rfl ?_
  generalize hv_v5 : ((v3 <<< ((6 : Int32) &&& 31)) ||| (v4 &&& (63 : Int32))) = v5
  refine ow_istore (q := 56) X0 hx (L' := #[rv a0, iv (3 : Int32), iv (3 : Int32), iv v2, iv v5, iv (1 : Int32)]) (hb hby own_d1_54) rfl rfl ?_
  refine ow_iinc (q := 59) X0 hx (L' := #[rv a0, iv (3 : Int32), iv (3 : Int32), iv v2, iv v5, iv (2 : Int32)]) (hb hby own_d1_56) rfl rfl rfl ?_
  refine ow_goto (q := 33) X0 hx (hb hby own_d1_59) (by decide) (by decide) ?_
  refine ow_iload (q := 35) X0 hx (hb hby own_d1_33) rfl rfl ?_
  refine ow_iloadN (q := 36) X0 hx (hb hby own_d1_35) rfl rfl ?_
  refine ow_icmpNo (q := 39) X0 hx (hb hby own_d1_36) rfl (Jvm.Free.XT.ii_ge_f (by decide)) ?_
  refine ow_iload (q := 41) X0 hx (hb hby own_d1_39) rfl rfl ?_
  refine ow_bipush (q := 43) X0 hx (6 : Int32) (hb hby own_d1_41) rfl rfl ?_
  refine ow_ishl (q := 44) X0 hx _ (hb hby own_d1_43) rfl rfl ?_
  refine ow_aloadN (q := 45) X0 hx (hb hby own_d1_44) rfl rfl rfl ?_
  refine ow_iloadN (q := 46) X0 hx (hb hby own_d1_45) rfl rfl ?_
  refine ow_iload (q := 48) X0 hx (hb hby own_d1_46) rfl rfl ?_
  refine ow_iadd (q := 49) X0 hx (5 : Int32) (hb hby own_d1_48) rfl (by decide) ?_
  refine ownGo (T' := s₁) (f' := (mkF m 50 #[rv a0, iv (3 : Int32), iv (3 : Int32), iv v2, iv v5, iv (2 : Int32)] [(.int (g 5)), (.int (v5 <<< ((6 : Int32) &&& 31)))])) (ownBaload HF0 X0 hx hZ e0 (j := (5 : Int32)) (by unfold ownIn; decide) (g := (mkF m 49 #[rv a0, iv (3 : Int32), iv (3 : Int32), iv v2, iv v5, iv (2 : Int32)] [(.int (5 : Int32)), (.ref a0), (.int (v5 <<< ((6 : Int32) &&& 31)))])) rfl rfl (hb hby own_d1_49)) ?_
  generalize hv_v6 : (g 5) = v6
  refine ow_bipush (q := 52) X0 hx (63 : Int32) (hb hby own_d1_50) rfl rfl ?_
  refine ow_iand (q := 53) X0 hx _ (hb hby own_d1_52) rfl rfl ?_
  refine ow_ior (q := 54) X0 hx _ (hb hby own_d1_53) rfl rfl ?_
  generalize hv_v7 : ((v5 <<< ((6 : Int32) &&& 31)) ||| (v6 &&& (63 : Int32))) = v7
  refine ow_istore (q := 56) X0 hx (L' := #[rv a0, iv (3 : Int32), iv (3 : Int32), iv v2, iv v7, iv (2 : Int32)]) (hb hby own_d1_54) rfl rfl ?_
  refine ow_iinc (q := 59) X0 hx (L' := #[rv a0, iv (3 : Int32), iv (3 : Int32), iv v2, iv v7, iv (3 : Int32)]) (hb hby own_d1_56) rfl rfl rfl ?_
  refine ow_goto (q := 33) X0 hx (hb hby own_d1_59) (by decide) (by decide) ?_
  refine ow_iload (q := 35) X0 hx (hb hby own_d1_33) rfl rfl ?_
  refine ow_iloadN (q := 36) X0 hx (hb hby own_d1_35) rfl rfl ?_
  refine ow_icmpYes (q := 62) X0 hx (hb hby own_d1_36) (Jvm.Free.XT.ii_ge_t (by decide)) (by decide) (by decide) ?_
  refine ow_iload (q := 64) X0 hx (hb hby own_d1_62) rfl rfl ?_
  refine ownRetI X0 hx Bd.returns (hb hby own_d1_64) hlk (by decide) (by decide) ?_
  subst hv_v7 hv_v6 hv_v5 hv_v4 hv_v3 hv_v2 hv_v1
  rw [e0]
  refine ⟨congrArg (fun q => some (Value.int q)) ?_, N0, rfl⟩
  rfl
theorem own_ef1_dec_4_0 (m : MethodId) (a0 : Addr) : entryFrame m #[(.ref a0), (.int (0 : Int32)), (.int (4 : Int32))] 6 = mkF m 0 #[rv a0, iv (0 : Int32), iv (4 : Int32), .unset, .unset, .unset] [] := by first | (simp [entryFrame, mkF, argsToLocals, Value.category]; done) | rfl
def Q_dec_4_0 (Z : State) (a0 : Addr) (g : Nat → Int32) (h0 : Heap) (n0 : Nat) (v : Option Value) (h : Heap) (L : List Loc) : Prop := v = some (.int (own_dec4 (g 0) (g 1) (g 2) (g 3))) ∧ Fr n0 L ∧ h = h0
set_option maxRecDepth 65536 in
set_option maxHeartbeats 40000000 in
theorem rm_dec_4_0 (l : Launch) (Z : State) (a0 : Array Value) (hw : ∀ d ∈ tables_1, d.before a0 Z = true) (ws : List Jvm.Cond) (a0 : Addr) (g : Nat → Int32) (h0 : Heap) (n0 : Nat) (Z0 : n0 ≤ h0.size) (HF0 : ownAI Z h0 a0 .byte 7 g) :
    MetFree l (⟨"com/example/descend/descend/XmlChars", "decode", "([BII)I"⟩ : MethodName) (head1 (Jvm.Cond.code (⟨"com/example/descend/descend/XmlChars", "decode", "([BII)I"⟩ : MethodName) prog_24_method_15_code 6 (some .int) :: ws) ({ frames := 0, cells := 0, slots := 0, locals := 0 } : Room)) (fun a U => a = #[(.ref a0), (.int (0 : Int32)), (.int (4 : Int32))] ∧ Z.Warmed39 U.vm ∧ U.heap = h0) (fun _ _ _ _ _ => True) (fun _ U o U' => ∃ v L, o = .returned v ∧ (Q_dec_4_0 Z a0 g h0 n0) v U'.heap L ∧ FrameEnd U o U' L ({ frames := 0, cells := 0, slots := 0, locals := 0 } : Room).cells ({ frames := 0, cells := 0, slots := 0, locals := 0 } : Room).slots) := by
  refine MetFree.of_bodySF (plainFor_of_name own_pn_XmlChars) hisR ?_
  intro p e s m args below meth c s₁ Bd hml0 hP hK
  obtain ⟨rfl, hZ, hh⟩ := hP
  have hx := Bd.exec
  have hby := Bd.bytes
  have hml : c.maxLocals = 6 := hml0
  have hown : s.vm.findClass "com/example/descend/descend/XmlChars" = some m.cls := findClass_of_methodNamed Bd.named
  have hnm := (name_of_methodNamed Bd.named Bd.method).1
  have hlk : meth.locks = false := BodyLoose.notSynchronized Bd
  have X0 : Stand p l e ({ frames := 0, cells := 0, slots := 0, locals := 0 } : Room) s m #[(.ref a0), (.int (0 : Int32)), (.int (4 : Int32))] below meth c s₁ [] 0 0 := Stand.of_body Bd
  have e0 : s₁.heap = h0 := by rw [← hh, Bd.state]; rfl
  have N0 := Fr.nil n0
  have K0 : Keep h0 h0 [] := Keep.refl _ _
  show ownEnds p e below s (Q_dec_4_0 Z a0 g h0 n0) ({ frames := 0, cells := 0, slots := 0, locals := 0 } : Room).cells ({ frames := 0, cells := 0, slots := 0, locals := 0 } : Room).slots s₁ (entryFrame m #[(.ref a0), (.int (0 : Int32)), (.int (4 : Int32))] 6)
  refine ownCast (own_ef1_dec_4_0 m a0) ?_
  refine ow_aloadN (q := 1) X0 hx (hb hby own_d1_0) rfl rfl rfl ?_
  refine ow_iloadN (q := 2) X0 hx (hb hby own_d1_1) rfl rfl ?_
  refine ownGo (T' := s₁) (f' := (mkF m 3 #[rv a0, iv (0 : Int32), iv (4 : Int32), .unset, .unset, .unset] [(.int (g 0))])) (ownBaload HF0 X0 hx hZ e0 (j := (0 : Int32)) (by unfold ownIn; decide) (g := (mkF m 2 #[rv a0, iv (0 : Int32), iv (4 : Int32), .unset, .unset, .unset] [(.int (0 : Int32)), (.ref a0)])) rfl rfl (hb hby own_d1_2)) ?_
  generalize hv_v1 : (g 0) = v1
  refine ow_sipush (q := 6) X0 hx (255 : Int32) (hb hby own_d1_3) rfl rfl ?_
  refine ow_iand (q := 7) X0 hx _ (hb hby own_d1_6) rfl rfl ?_
  generalize hv_v2 : (v1 &&& (255 : Int32)) = v2
  refine ow_istoreN (q := 8) X0 hx (L' := #[rv a0, iv (0 : Int32), iv (4 : Int32), iv v2, .unset, .unset]) (hb hby own_d1_7) rfl rfl ?_
  refine ow_iloadN (q := 9) X0 hx (hb hby own_d1_8) rfl rfl ?_
  refine ow_iconst (q := 10) X0 hx (1 : Int32) (hb hby own_d1_9) rfl rfl ?_
  refine ow_icmpYes (q := 19) X0 hx (hb hby own_d1_10) (Jvm.Free.XT.ii_ne_t (by decide)) (by decide) (by decide) ?_
  refine ow_iloadN (q := 20) X0 hx (hb hby own_d1_19) rfl rfl ?_
  refine ow_sipush (q := 23) X0 hx (255 : Int32) (hb hby own_d1_20) rfl rfl ?_
  refine ow_iloadN (q := 24) X0 hx (hb hby own_d1_23) rfl rfl ?_
  refine ow_iconst (q := 25) X0 hx (1 : Int32) (hb hby own_d1_24) rfl rfl ?_
  refine ow_iadd (q := 26) X0 hx (5 : Int32) (hb hby own_d1_25) rfl (by decide) ?_
  refine ow_ishr (q := 27) X0 hx (7 : Int32) (hb hby own_d1_26) rfl (by decide) ?_
  refine ow_iand (q := 28) X0 hx _ (hb hby own_d1_27) rfl rfl ?_
  generalize hv_v3 : (v2 &&& (7 : Int32)) = v3
  refine ow_istore (q := 30) X0 hx (L' := #[rv a0, iv (0 : Int32), iv (4 : Int32), iv v2, iv v3, .unset]) (hb hby own_d1_28) rfl rfl ?_
  refine ow_iconst (q := 31) X0 hx (1 : Int32) (hb hby own_d1_30) rfl rfl ?_
  refine ow_istore (q := 33) X0 hx (L' := #[rv a0, iv (0 : Int32), iv (4 : Int32), iv v2, iv v3, iv (1 : Int32)]) (hb hby own_d1_31) rfl rfl ?_
  refine ow_iload (q := 35) X0 hx (hb hby own_d1_33) rfl rfl ?_
  refine ow_iloadN (q := 36) X0 hx (hb hby own_d1_35) rfl rfl ?_
  refine ow_icmpNo (q := 39) X0 hx (hb hby own_d1_36) rfl (Jvm.Free.XT.ii_ge_f (by decide)) ?_
  refine ow_iload (q := 41) X0 hx (hb hby own_d1_39) rfl rfl ?_
  refine ow_bipush (q := 43) X0 hx (6 : Int32) (hb hby own_d1_41) rfl rfl ?_
  refine ow_ishl (q := 44) X0 hx _ (hb hby own_d1_43) rfl rfl ?_
  refine ow_aloadN (q := 45) X0 hx (hb hby own_d1_44) rfl rfl rfl ?_
  refine ow_iloadN (q := 46) X0 hx (hb hby own_d1_45) rfl rfl ?_
  refine ow_iload (q := 48) X0 hx (hb hby own_d1_46) rfl rfl ?_
  refine ow_iadd (q := 49) X0 hx (1 : Int32) (hb hby own_d1_48) rfl (by decide) ?_
  refine ownGo (T' := s₁) (f' := (mkF m 50 #[rv a0, iv (0 : Int32), iv (4 : Int32), iv v2, iv v3, iv (1 : Int32)] [(.int (g 1)), (.int (v3 <<< ((6 : Int32) &&& 31)))])) (ownBaload HF0 X0 hx hZ e0 (j := (1 : Int32)) (by unfold ownIn; decide) (g := (mkF m 49 #[rv a0, iv (0 : Int32), iv (4 : Int32), iv v2, iv v3, iv (1 : Int32)] [(.int (1 : Int32)), (.ref a0), (.int (v3 <<< ((6 : Int32) &&& 31)))])) rfl rfl (hb hby own_d1_49)) ?_
  generalize hv_v4 : (g 1) = v4
  refine ow_bipush (q := 52) X0 hx (63 : Int32) (hb hby own_d1_50) rfl rfl ?_
  refine ow_iand (q := 53) X0 hx _ (hb hby own_d1_52) rfl rfl ?_
  refine ow_ior (q := 54) X0 hx _ (hb hby own_d1_53) rfl rfl ?_
  generalize hv_v5 : ((v3 <<< ((6 : Int32) &&& 31)) ||| (v4 &&& (63 : Int32))) = v5
  refine ow_istore (q := 56) X0 hx (L' := #[rv a0, iv (0 : Int32), iv (4 : Int32), iv v2, iv v5, iv (1 : Int32)]) (hb hby own_d1_54) rfl rfl ?_
  refine ow_iinc (q := 59) X0 hx (L' := #[rv a0, iv (0 : Int32), iv (4 : Int32), iv v2, iv v5, iv (2 : Int32)]) (hb hby own_d1_56) rfl rfl rfl ?_
  refine ow_goto (q := 33) X0 hx (hb hby own_d1_59) (by decide) (by decide) ?_
  refine ow_iload (q := 35) X0 hx (hb hby own_d1_33) rfl rfl ?_
  refine ow_iloadN (q := 36) X0 hx (hb hby own_d1_35) rfl rfl ?_
  refine ow_icmpNo (q := 39) X0 hx (hb hby own_d1_36) rfl (Jvm.Free.XT.ii_ge_f (by decide)) ?_
  refine ow_iload (q := 41) X0 hx (hb hby own_d1_39) rfl rfl ?_
  refine ow_bipush (q := 43) X0 hx (6 : Int32) (hb hby own_d1_41) rfl rfl ?_
  refine ow_ishl (q := 44) X0 hx _ (hb hby own_d1_43) rfl rfl ?_
  refine ow_aloadN (q := 45) X0 hx (hb hby own_d1_44) rfl rfl rfl ?_
  refine ow_iloadN (q := 46) X0 hx (hb hby own_d1_45) rfl rfl ?_
  refine ow_iload (q := 48) X0 hx (hb hby own_d1_46) rfl rfl ?_
  refine ow_iadd (q := 49) X0 hx (2 : Int32) (hb hby own_d1_48) rfl (by decide) ?_
  refine ownGo (T' := s₁) (f' := (mkF m 50 #[rv a0, iv (0 : Int32), iv (4 : Int32), iv v2, iv v5, iv (2 : Int32)] [(.int (g 2)), (.int (v5 <<< ((6 : Int32) &&& 31)))])) (ownBaload HF0 X0 hx hZ e0 (j := (2 : Int32)) (by unfold ownIn; decide) (g := (mkF m 49 #[rv a0, iv (0 : Int32), iv (4 : Int32), iv v2, iv v5, iv (2 : Int32)] [(.int (2 : Int32)), (.ref a0), (.int (v5 <<< ((6 : Int32) &&& 31)))])) rfl rfl (hb hby own_d1_49)) ?_
  generalize hv_v6 : (g 2) = v6
  refine ow_bipush (q := 52) X0 hx (63 : Int32) (hb hby own_d1_50) rfl rfl ?_
  refine ow_iand (q := 53) X0 hx _ (hb hby own_d1_52) rfl rfl ?_
  refine ow_ior (q := 54) X0 hx _ (hb hby own_d1_53) rfl rfl ?_
  generalize hv_v7 : ((v5 <<< ((6 : Int32) &&& 31)) ||| (v6 &&& (63 : Int32))) = v7
  refine ow_istore (q := 56) X0 hx (L' := #[rv a0, iv (0 : Int32), iv (4 : Int32), iv v2, iv v7, iv (2 : Int32)]) (hb hby own_d1_54) rfl rfl ?_
  refine ow_iinc (q := 59) X0 hx (L' := #[rv a0, iv (0 : Int32), iv (4 : Int32), iv v2, iv v7, iv (3 : Int32)]) (hb hby own_d1_56) rfl rfl rfl ?_
  refine ow_goto (q := 33) X0 hx (hb hby own_d1_59) (by decide) (by decide) ?_
  refine ow_iload (q := 35) X0 hx (hb hby own_d1_33) rfl rfl ?_
  refine ow_iloadN (q := 36) X0 hx (hb hby own_d1_35) rfl rfl ?_
  refine ow_icmpNo (q := 39) X0 hx (hb hby own_d1_36) rfl (Jvm.Free.XT.ii_ge_f (by decide)) ?_
  refine ow_iload (q := 41) X0 hx (hb hby own_d1_39) rfl rfl ?_
  refine ow_bipush (q := 43) X0 hx (6 : Int32) (hb hby own_d1_41) rfl rfl ?_
  refine ow_ishl (q := 44) X0 hx _ (hb hby own_d1_43) rfl rfl ?_
  refine ow_aloadN (q := 45) X0 hx (hb hby own_d1_44) rfl rfl rfl ?_
  refine ow_iloadN (q := 46) X0 hx (hb hby own_d1_45) rfl rfl ?_
  refine ow_iload (q := 48) X0 hx (hb hby own_d1_46) rfl rfl ?_
  refine ow_iadd (q := 49) X0 hx (3 : Int32) (hb hby own_d1_48) rfl (by decide) ?_
  refine ownGo (T' := s₁) (f' := (mkF m 50 #[rv a0, iv (0 : Int32), iv (4 : Int32), iv v2, iv v7, iv (3 : Int32)] [(.int (g 3)), (.int (v7 <<< ((6 : Int32) &&& 31)))])) (ownBaload HF0 X0 hx hZ e0 (j := (3 : Int32)) (by unfold ownIn; decide) (g := (mkF m 49 #[rv a0, iv (0 : Int32), iv (4 : Int32), iv v2, iv v7, iv (3 : Int32)] [(.int (3 : Int32)), (.ref a0), (.int (v7 <<< ((6 : Int32) &&& 31)))])) rfl rfl (hb hby own_d1_49)) ?_
  generalize hv_v8 : (g 3) = v8
  refine ow_bipush (q := 52) X0 hx (63 : Int32) (hb hby own_d1_50) rfl rfl ?_
  refine ow_iand (q := 53) X0 hx _ (hb hby own_d1_52) rfl rfl ?_
  refine ow_ior (q := 54) X0 hx _ (hb hby own_d1_53) rfl rfl ?_
  generalize hv_v9 : ((v7 <<< ((6 : Int32) &&& 31)) ||| (v8 &&& (63 : Int32))) = v9
  refine ow_istore (q := 56) X0 hx (L' := #[rv a0, iv (0 : Int32), iv (4 : Int32), iv v2, iv v9, iv (3 : Int32)]) (hb hby own_d1_54) rfl rfl ?_
  refine ow_iinc (q := 59) X0 hx (L' := #[rv a0, iv (0 : Int32), iv (4 : Int32), iv v2, iv v9, iv (4 : Int32)]) (hb hby own_d1_56) rfl rfl rfl ?_
  refine ow_goto (q := 33) X0 hx (hb hby own_d1_59) (by decide) (by decide) ?_
  refine ow_iload (q := 35) X0 hx (hb hby own_d1_33) rfl rfl ?_
  refine ow_iloadN (q := 36) X0 hx (hb hby own_d1_35) rfl rfl ?_
  refine ow_icmpYes (q := 62) X0 hx (hb hby own_d1_36) (Jvm.Free.XT.ii_ge_t (by decide)) (by decide) (by decide) ?_
  refine ow_iload (q := 64) X0 hx (hb hby own_d1_62) rfl rfl ?_
  refine ownRetI X0 hx Bd.returns (hb hby own_d1_64) hlk (by decide) (by decide) ?_
  subst hv_v9 hv_v8 hv_v7 hv_v6 hv_v5 hv_v4 hv_v3 hv_v2 hv_v1
  rw [e0]
  refine ⟨congrArg (fun q => some (Value.int q)) ?_, N0, rfl⟩
  rfl
theorem own_ef1_dec_4_1 (m : MethodId) (a0 : Addr) : entryFrame m #[(.ref a0), (.int (1 : Int32)), (.int (4 : Int32))] 6 = mkF m 0 #[rv a0, iv (1 : Int32), iv (4 : Int32), .unset, .unset, .unset] [] := by first | (simp [entryFrame, mkF, argsToLocals, Value.category]; done) | rfl
def Q_dec_4_1 (Z : State) (a0 : Addr) (g : Nat → Int32) (h0 : Heap) (n0 : Nat) (v : Option Value) (h : Heap) (L : List Loc) : Prop := v = some (.int (own_dec4 (g 1) (g 2) (g 3) (g 4))) ∧ Fr n0 L ∧ h = h0
set_option maxRecDepth 65536 in
set_option maxHeartbeats 40000000 in
theorem rm_dec_4_1 (l : Launch) (Z : State) (a0 : Array Value) (hw : ∀ d ∈ tables_1, d.before a0 Z = true) (ws : List Jvm.Cond) (a0 : Addr) (g : Nat → Int32) (h0 : Heap) (n0 : Nat) (Z0 : n0 ≤ h0.size) (HF0 : ownAI Z h0 a0 .byte 7 g) :
    MetFree l (⟨"com/example/descend/descend/XmlChars", "decode", "([BII)I"⟩ : MethodName) (head1 (Jvm.Cond.code (⟨"com/example/descend/descend/XmlChars", "decode", "([BII)I"⟩ : MethodName) prog_24_method_15_code 6 (some .int) :: ws) ({ frames := 0, cells := 0, slots := 0, locals := 0 } : Room)) (fun a U => a = #[(.ref a0), (.int (1 : Int32)), (.int (4 : Int32))] ∧ Z.Warmed39 U.vm ∧ U.heap = h0) (fun _ _ _ _ _ => True) (fun _ U o U' => ∃ v L, o = .returned v ∧ (Q_dec_4_1 Z a0 g h0 n0) v U'.heap L ∧ FrameEnd U o U' L ({ frames := 0, cells := 0, slots := 0, locals := 0 } : Room).cells ({ frames := 0, cells := 0, slots := 0, locals := 0 } : Room).slots) := by
  refine MetFree.of_bodySF (plainFor_of_name own_pn_XmlChars) hisR ?_
  intro p e s m args below meth c s₁ Bd hml0 hP hK
  obtain ⟨rfl, hZ, hh⟩ := hP
  have hx := Bd.exec
  have hby := Bd.bytes
  have hml : c.maxLocals = 6 := hml0
  have hown : s.vm.findClass "com/example/descend/descend/XmlChars" = some m.cls := findClass_of_methodNamed Bd.named
  have hnm := (name_of_methodNamed Bd.named Bd.method).1
  have hlk : meth.locks = false := BodyLoose.notSynchronized Bd
  have X0 : Stand p l e ({ frames := 0, cells := 0, slots := 0, locals := 0 } : Room) s m #[(.ref a0), (.int (1 : Int32)), (.int (4 : Int32))] below meth c s₁ [] 0 0 := Stand.of_body Bd
  have e0 : s₁.heap = h0 := by rw [← hh, Bd.state]; rfl
  have N0 := Fr.nil n0
  have K0 : Keep h0 h0 [] := Keep.refl _ _
  show ownEnds p e below s (Q_dec_4_1 Z a0 g h0 n0) ({ frames := 0, cells := 0, slots := 0, locals := 0 } : Room).cells ({ frames := 0, cells := 0, slots := 0, locals := 0 } : Room).slots s₁ (entryFrame m #[(.ref a0), (.int (1 : Int32)), (.int (4 : Int32))] 6)
  refine ownCast (own_ef1_dec_4_1 m a0) ?_
  refine ow_aloadN (q := 1) X0 hx (hb hby own_d1_0) rfl rfl rfl ?_
  refine ow_iloadN (q := 2) X0 hx (hb hby own_d1_1) rfl rfl ?_
  refine ownGo (T' := s₁) (f' := (mkF m 3 #[rv a0, iv (1 : Int32), iv (4 : Int32), .unset, .unset, .unset] [(.int (g 1))])) (ownBaload HF0 X0 hx hZ e0 (j := (1 : Int32)) (by unfold ownIn; decide) (g := (mkF m 2 #[rv a0, iv (1 : Int32), iv (4 : Int32), .unset, .unset, .unset] [(.int (1 : Int32)), (.ref a0)])) rfl rfl (hb hby own_d1_2)) ?_
  generalize hv_v1 : (g 1) = v1
  refine ow_sipush (q := 6) X0 hx (255 : Int32) (hb hby own_d1_3) rfl rfl ?_
  refine ow_iand (q := 7) X0 hx _ (hb hby own_d1_6) rfl rfl ?_
  generalize hv_v2 : (v1 &&& (255 : Int32)) = v2
  refine ow_istoreN (q := 8) X0 hx (L' := #[rv a0, iv (1 : Int32), iv (4 : Int32), iv v2, .unset, .unset]) (hb hby own_d1_7) rfl rfl ?_
  refine ow_iloadN (q := 9) X0 hx (hb hby own_d1_8) rfl rfl ?_
  refine ow_iconst (q := 10) X0 hx (1 : Int32) (hb hby own_d1_9) rfl rfl ?_
  refine ow_icmpYes (q := 19) X0 hx (hb hby own_d1_10) (Jvm.Free.XT.ii_ne_t (by decide)) (by decide) (by decide) ?_
  refine ow_iloadN (q := 20) X0 hx (hb hby own_d1_19) rfl rfl ?_
  refine ow_sipush (q := 23) X0 hx (255 : Int32) (hb hby own_d1_20) rfl rfl ?_
  refine ow_iloadN (q := 24) X0 hx (hb hby own_d1_23) rfl rfl ?_
  refine ow_iconst (q := 25) X0 hx (1 : Int32) (hb hby own_d1_24) rfl rfl ?_
  refine ow_iadd (q := 26) X0 hx (5 : Int32) (hb hby own_d1_25) rfl (by decide) ?_
  refine ow_ishr (q := 27) X0 hx (7 : Int32) (hb hby own_d1_26) rfl (by decide) ?_
  refine ow_iand (q := 28) X0 hx _ (hb hby own_d1_27) rfl rfl ?_
  generalize hv_v3 : (v2 &&& (7 : Int32)) = v3
  refine ow_istore (q := 30) X0 hx (L' := #[rv a0, iv (1 : Int32), iv (4 : Int32), iv v2, iv v3, .unset]) (hb hby own_d1_28) rfl rfl ?_
  refine ow_iconst (q := 31) X0 hx (1 : Int32) (hb hby own_d1_30) rfl rfl ?_
  refine ow_istore (q := 33) X0 hx (L' := #[rv a0, iv (1 : Int32), iv (4 : Int32), iv v2, iv v3, iv (1 : Int32)]) (hb hby own_d1_31) rfl rfl ?_
  refine ow_iload (q := 35) X0 hx (hb hby own_d1_33) rfl rfl ?_
  refine ow_iloadN (q := 36) X0 hx (hb hby own_d1_35) rfl rfl ?_
  refine ow_icmpNo (q := 39) X0 hx (hb hby own_d1_36) rfl (Jvm.Free.XT.ii_ge_f (by decide)) ?_
  refine ow_iload (q := 41) X0 hx (hb hby own_d1_39) rfl rfl ?_
  refine ow_bipush (q := 43) X0 hx (6 : Int32) (hb hby own_d1_41) rfl rfl ?_
  refine ow_ishl (q := 44) X0 hx _ (hb hby own_d1_43) rfl rfl ?_
  refine ow_aloadN (q := 45) X0 hx (hb hby own_d1_44) rfl rfl rfl ?_
  refine ow_iloadN (q := 46) X0 hx (hb hby own_d1_45) rfl rfl ?_
  refine ow_iload (q := 48) X0 hx (hb hby own_d1_46) rfl rfl ?_
  refine ow_iadd (q := 49) X0 hx (2 : Int32) (hb hby own_d1_48) rfl (by decide) ?_
  refine ownGo (T' := s₁) (f' := (mkF m 50 #[rv a0, iv (1 : Int32), iv (4 : Int32), iv v2, iv v3, iv (1 : Int32)] [(.int (g 2)), (.int (v3 <<< ((6 : Int32) &&& 31)))])) (ownBaload HF0 X0 hx hZ e0 (j := (2 : Int32)) (by unfold ownIn; decide) (g := (mkF m 49 #[rv a0, iv (1 : Int32), iv (4 : Int32), iv v2, iv v3, iv (1 : Int32)] [(.int (2 : Int32)), (.ref a0), (.int (v3 <<< ((6 : Int32) &&& 31)))])) rfl rfl (hb hby own_d1_49)) ?_
  generalize hv_v4 : (g 2) = v4
  refine ow_bipush (q := 52) X0 hx (63 : Int32) (hb hby own_d1_50) rfl rfl ?_
  refine ow_iand (q := 53) X0 hx _ (hb hby own_d1_52) rfl rfl ?_
  refine ow_ior (q := 54) X0 hx _ (hb hby own_d1_53) rfl rfl ?_
  generalize hv_v5 : ((v3 <<< ((6 : Int32) &&& 31)) ||| (v4 &&& (63 : Int32))) = v5
  refine ow_istore (q := 56) X0 hx (L' := #[rv a0, iv (1 : Int32), iv (4 : Int32), iv v2, iv v5, iv (1 : Int32)]) (hb hby own_d1_54) rfl rfl ?_
  refine ow_iinc (q := 59) X0 hx (L' := #[rv a0, iv (1 : Int32), iv (4 : Int32), iv v2, iv v5, iv (2 : Int32)]) (hb hby own_d1_56) rfl rfl rfl ?_
  refine ow_goto (q := 33) X0 hx (hb hby own_d1_59) (by decide) (by decide) ?_
  refine ow_iload (q := 35) X0 hx (hb hby own_d1_33) rfl rfl ?_
  refine ow_iloadN (q := 36) X0 hx (hb hby own_d1_35) rfl rfl ?_
  refine ow_icmpNo (q := 39) X0 hx (hb hby own_d1_36) rfl (Jvm.Free.XT.ii_ge_f (by decide)) ?_
  refine ow_iload (q := 41) X0 hx (hb hby own_d1_39) rfl rfl ?_
  refine ow_bipush (q := 43) X0 hx (6 : Int32) (hb hby own_d1_41) rfl rfl ?_
  refine ow_ishl (q := 44) X0 hx _ (hb hby own_d1_43) rfl rfl ?_
  refine ow_aloadN (q := 45) X0 hx (hb hby own_d1_44) rfl rfl rfl ?_
  refine ow_iloadN (q := 46) X0 hx (hb hby own_d1_45) rfl rfl ?_
  refine ow_iload (q := 48) X0 hx (hb hby own_d1_46) rfl rfl ?_
  refine ow_iadd (q := 49) X0 hx (3 : Int32) (hb hby own_d1_48) rfl (by decide) ?_
  refine ownGo (T' := s₁) (f' := (mkF m 50 #[rv a0, iv (1 : Int32), iv (4 : Int32), iv v2, iv v5, iv (2 : Int32)] [(.int (g 3)), (.int (v5 <<< ((6 : Int32) &&& 31)))])) (ownBaload HF0 X0 hx hZ e0 (j := (3 : Int32)) (by unfold ownIn; decide) (g := (mkF m 49 #[rv a0, iv (1 : Int32), iv (4 : Int32), iv v2, iv v5, iv (2 : Int32)] [(.int (3 : Int32)), (.ref a0), (.int (v5 <<< ((6 : Int32) &&& 31)))])) rfl rfl (hb hby own_d1_49)) ?_
  generalize hv_v6 : (g 3) = v6
  refine ow_bipush (q := 52) X0 hx (63 : Int32) (hb hby own_d1_50) rfl rfl ?_
  refine ow_iand (q := 53) X0 hx _ (hb hby own_d1_52) rfl rfl ?_
  refine ow_ior (q := 54) X0 hx _ (hb hby own_d1_53) rfl rfl ?_
  generalize hv_v7 : ((v5 <<< ((6 : Int32) &&& 31)) ||| (v6 &&& (63 : Int32))) = v7
  refine ow_istore (q := 56) X0 hx (L' := #[rv a0, iv (1 : Int32), iv (4 : Int32), iv v2, iv v7, iv (2 : Int32)]) (hb hby own_d1_54) rfl rfl ?_
  refine ow_iinc (q := 59) X0 hx (L' := #[rv a0, iv (1 : Int32), iv (4 : Int32), iv v2, iv v7, iv (3 : Int32)]) (hb hby own_d1_56) rfl rfl rfl ?_
  refine ow_goto (q := 33) X0 hx (hb hby own_d1_59) (by decide) (by decide) ?_
  refine ow_iload (q := 35) X0 hx (hb hby own_d1_33) rfl rfl ?_
  refine ow_iloadN (q := 36) X0 hx (hb hby own_d1_35) rfl rfl ?_
  refine ow_icmpNo (q := 39) X0 hx (hb hby own_d1_36) rfl (Jvm.Free.XT.ii_ge_f (by decide)) ?_
  refine ow_iload (q := 41) X0 hx (hb hby own_d1_39) rfl rfl ?_
  refine ow_bipush (q := 43) X0 hx (6 : Int32) (hb hby own_d1_41) rfl rfl ?_
  refine ow_ishl (q := 44) X0 hx _ (hb hby own_d1_43) rfl rfl ?_
  refine ow_aloadN (q := 45) X0 hx (hb hby own_d1_44) rfl rfl rfl ?_
  refine ow_iloadN (q := 46) X0 hx (hb hby own_d1_45) rfl rfl ?_
  refine ow_iload (q := 48) X0 hx (hb hby own_d1_46) rfl rfl ?_
  refine ow_iadd (q := 49) X0 hx (4 : Int32) (hb hby own_d1_48) rfl (by decide) ?_
  refine ownGo (T' := s₁) (f' := (mkF m 50 #[rv a0, iv (1 : Int32), iv (4 : Int32), iv v2, iv v7, iv (3 : Int32)] [(.int (g 4)), (.int (v7 <<< ((6 : Int32) &&& 31)))])) (ownBaload HF0 X0 hx hZ e0 (j := (4 : Int32)) (by unfold ownIn; decide) (g := (mkF m 49 #[rv a0, iv (1 : Int32), iv (4 : Int32), iv v2, iv v7, iv (3 : Int32)] [(.int (4 : Int32)), (.ref a0), (.int (v7 <<< ((6 : Int32) &&& 31)))])) rfl rfl (hb hby own_d1_49)) ?_
  generalize hv_v8 : (g 4) = v8
  refine ow_bipush (q := 52) X0 hx (63 : Int32) (hb hby own_d1_50) rfl rfl ?_
  refine ow_iand (q := 53) X0 hx _ (hb hby own_d1_52) rfl rfl ?_
  refine ow_ior (q := 54) X0 hx _ (hb hby own_d1_53) rfl rfl ?_
  generalize hv_v9 : ((v7 <<< ((6 : Int32) &&& 31)) ||| (v8 &&& (63 : Int32))) = v9
  refine ow_istore (q := 56) X0 hx (L' := #[rv a0, iv (1 : Int32), iv (4 : Int32), iv v2, iv v9, iv (3 : Int32)]) (hb hby own_d1_54) rfl rfl ?_
  refine ow_iinc (q := 59) X0 hx (L' := #[rv a0, iv (1 : Int32), iv (4 : Int32), iv v2, iv v9, iv (4 : Int32)]) (hb hby own_d1_56) rfl rfl rfl ?_
  refine ow_goto (q := 33) X0 hx (hb hby own_d1_59) (by decide) (by decide) ?_
  refine ow_iload (q := 35) X0 hx (hb hby own_d1_33) rfl rfl ?_
  refine ow_iloadN (q := 36) X0 hx (hb hby own_d1_35) rfl rfl ?_
  refine ow_icmpYes (q := 62) X0 hx (hb hby own_d1_36) (Jvm.Free.XT.ii_ge_t (by decide)) (by decide) (by decide) ?_
  refine ow_iload (q := 64) X0 hx (hb hby own_d1_62) rfl rfl ?_
  refine ownRetI X0 hx Bd.returns (hb hby own_d1_64) hlk (by decide) (by decide) ?_
  subst hv_v9 hv_v8 hv_v7 hv_v6 hv_v5 hv_v4 hv_v3 hv_v2 hv_v1
  rw [e0]
  refine ⟨congrArg (fun q => some (Value.int q)) ?_, N0, rfl⟩
  rfl
theorem own_ef1_dec_4_2 (m : MethodId) (a0 : Addr) : entryFrame m #[(.ref a0), (.int (2 : Int32)), (.int (4 : Int32))] 6 = mkF m 0 #[rv a0, iv (2 : Int32), iv (4 : Int32), .unset, .unset, .unset] [] := by first | (simp [entryFrame, mkF, argsToLocals, Value.category]; done) | rfl
def Q_dec_4_2 (Z : State) (a0 : Addr) (g : Nat → Int32) (h0 : Heap) (n0 : Nat) (v : Option Value) (h : Heap) (L : List Loc) : Prop := v = some (.int (own_dec4 (g 2) (g 3) (g 4) (g 5))) ∧ Fr n0 L ∧ h = h0
set_option maxRecDepth 65536 in
set_option maxHeartbeats 40000000 in
theorem rm_dec_4_2 (l : Launch) (Z : State) (a0 : Array Value) (hw : ∀ d ∈ tables_1, d.before a0 Z = true) (ws : List Jvm.Cond) (a0 : Addr) (g : Nat → Int32) (h0 : Heap) (n0 : Nat) (Z0 : n0 ≤ h0.size) (HF0 : ownAI Z h0 a0 .byte 7 g) :
    MetFree l (⟨"com/example/descend/descend/XmlChars", "decode", "([BII)I"⟩ : MethodName) (head1 (Jvm.Cond.code (⟨"com/example/descend/descend/XmlChars", "decode", "([BII)I"⟩ : MethodName) prog_24_method_15_code 6 (some .int) :: ws) ({ frames := 0, cells := 0, slots := 0, locals := 0 } : Room)) (fun a U => a = #[(.ref a0), (.int (2 : Int32)), (.int (4 : Int32))] ∧ Z.Warmed39 U.vm ∧ U.heap = h0) (fun _ _ _ _ _ => True) (fun _ U o U' => ∃ v L, o = .returned v ∧ (Q_dec_4_2 Z a0 g h0 n0) v U'.heap L ∧ FrameEnd U o U' L ({ frames := 0, cells := 0, slots := 0, locals := 0 } : Room).cells ({ frames := 0, cells := 0, slots := 0, locals := 0 } : Room).slots) := by
  refine MetFree.of_bodySF (plainFor_of_name own_pn_XmlChars) hisR ?_
  intro p e s m args below meth c s₁ Bd hml0 hP hK
  obtain ⟨rfl, hZ, hh⟩ := hP
  have hx := Bd.exec
  have hby := Bd.bytes
  have hml : c.maxLocals = 6 := hml0
  have hown : s.vm.findClass "com/example/descend/descend/XmlChars" = some m.cls := findClass_of_methodNamed Bd.named
  have hnm := (name_of_methodNamed Bd.named Bd.method).1
  have hlk : meth.locks = false := BodyLoose.notSynchronized Bd
  have X0 : Stand p l e ({ frames := 0, cells := 0, slots := 0, locals := 0 } : Room) s m #[(.ref a0), (.int (2 : Int32)), (.int (4 : Int32))] below meth c s₁ [] 0 0 := Stand.of_body Bd
  have e0 : s₁.heap = h0 := by rw [← hh, Bd.state]; rfl
  have N0 := Fr.nil n0
  have K0 : Keep h0 h0 [] := Keep.refl _ _
  show ownEnds p e below s (Q_dec_4_2 Z a0 g h0 n0) ({ frames := 0, cells := 0, slots := 0, locals := 0 } : Room).cells ({ frames := 0, cells := 0, slots := 0, locals := 0 } : Room).slots s₁ (entryFrame m #[(.ref a0), (.int (2 : Int32)), (.int (4 : Int32))] 6)
  refine ownCast (own_ef1_dec_4_2 m a0) ?_
  refine ow_aloadN (q := 1) X0 hx (hb hby own_d1_0) rfl rfl rfl ?_
  refine ow_iloadN (q := 2) X0 hx (hb hby own_d1_1) rfl rfl ?_
  refine ownGo (T' := s₁) (f' := (mkF m 3 #[rv a0, iv (2 : Int32), iv (4 : Int32), .unset, .unset, .unset] [(.int (g 2))])) (ownBaload HF0 X0 hx hZ e0 (j := (2 : Int32)) (by unfold ownIn; decide) (g := (mkF m 2 #[rv a0, iv (2 : Int32), iv (4 : Int32), .unset, .unset, .unset] [(.int (2 : Int32)), (.ref a0)])) rfl rfl (hb hby own_d1_2)) ?_
  generalize hv_v1 : (g 2) = v1
  refine ow_sipush (q := 6) X0 hx (255 : Int32) (hb hby own_d1_3) rfl rfl ?_
  refine ow_iand (q := 7) X0 hx _ (hb hby own_d1_6) rfl rfl ?_
  generalize hv_v2 : (v1 &&& (255 : Int32)) = v2
  refine ow_istoreN (q := 8) X0 hx (L' := #[rv a0, iv (2 : Int32), iv (4 : Int32), iv v2, .unset, .unset]) (hb hby own_d1_7) rfl rfl ?_
  refine ow_iloadN (q := 9) X0 hx (hb hby own_d1_8) rfl rfl ?_
  refine ow_iconst (q := 10) X0 hx (1 : Int32) (hb hby own_d1_9) rfl rfl ?_
  refine ow_icmpYes (q := 19) X0 hx (hb hby own_d1_10) (Jvm.Free.XT.ii_ne_t (by decide)) (by decide) (by decide) ?_
  refine ow_iloadN (q := 20) X0 hx (hb hby own_d1_19) rfl rfl ?_
  refine ow_sipush (q := 23) X0 hx (255 : Int32) (hb hby own_d1_20) rfl rfl ?_
  refine ow_iloadN (q := 24) X0 hx (hb hby own_d1_23) rfl rfl ?_
  refine ow_iconst (q := 25) X0 hx (1 : Int32) (hb hby own_d1_24) rfl rfl ?_
  refine ow_iadd (q := 26) X0 hx (5 : Int32) (hb hby own_d1_25) rfl (by decide) ?_
  refine ow_ishr (q := 27) X0 hx (7 : Int32) (hb hby own_d1_26) rfl (by decide) ?_
  refine ow_iand (q := 28) X0 hx _ (hb hby own_d1_27) rfl rfl ?_
  generalize hv_v3 : (v2 &&& (7 : Int32)) = v3
  refine ow_istore (q := 30) X0 hx (L' := #[rv a0, iv (2 : Int32), iv (4 : Int32), iv v2, iv v3, .unset]) (hb hby own_d1_28) rfl rfl ?_
  refine ow_iconst (q := 31) X0 hx (1 : Int32) (hb hby own_d1_30) rfl rfl ?_
  refine ow_istore (q := 33) X0 hx (L' := #[rv a0, iv (2 : Int32), iv (4 : Int32), iv v2, iv v3, iv (1 : Int32)]) (hb hby own_d1_31) rfl rfl ?_
  refine ow_iload (q := 35) X0 hx (hb hby own_d1_33) rfl rfl ?_
  refine ow_iloadN (q := 36) X0 hx (hb hby own_d1_35) rfl rfl ?_
  refine ow_icmpNo (q := 39) X0 hx (hb hby own_d1_36) rfl (Jvm.Free.XT.ii_ge_f (by decide)) ?_
  refine ow_iload (q := 41) X0 hx (hb hby own_d1_39) rfl rfl ?_
  refine ow_bipush (q := 43) X0 hx (6 : Int32) (hb hby own_d1_41) rfl rfl ?_
  refine ow_ishl (q := 44) X0 hx _ (hb hby own_d1_43) rfl rfl ?_
  refine ow_aloadN (q := 45) X0 hx (hb hby own_d1_44) rfl rfl rfl ?_
  refine ow_iloadN (q := 46) X0 hx (hb hby own_d1_45) rfl rfl ?_
  refine ow_iload (q := 48) X0 hx (hb hby own_d1_46) rfl rfl ?_
  refine ow_iadd (q := 49) X0 hx (3 : Int32) (hb hby own_d1_48) rfl (by decide) ?_
  refine ownGo (T' := s₁) (f' := (mkF m 50 #[rv a0, iv (2 : Int32), iv (4 : Int32), iv v2, iv v3, iv (1 : Int32)] [(.int (g 3)), (.int (v3 <<< ((6 : Int32) &&& 31)))])) (ownBaload HF0 X0 hx hZ e0 (j := (3 : Int32)) (by unfold ownIn; decide) (g := (mkF m 49 #[rv a0, iv (2 : Int32), iv (4 : Int32), iv v2, iv v3, iv (1 : Int32)] [(.int (3 : Int32)), (.ref a0), (.int (v3 <<< ((6 : Int32) &&& 31)))])) rfl rfl (hb hby own_d1_49)) ?_
  generalize hv_v4 : (g 3) = v4
  refine ow_bipush (q := 52) X0 hx (63 : Int32) (hb hby own_d1_50) rfl rfl ?_
  refine ow_iand (q := 53) X0 hx _ (hb hby own_d1_52) rfl rfl ?_
  refine ow_ior (q := 54) X0 hx _ (hb hby own_d1_53) rfl rfl ?_
  generalize hv_v5 : ((v3 <<< ((6 : Int32) &&& 31)) ||| (v4 &&& (63 : Int32))) = v5
  refine ow_istore (q := 56) X0 hx (L' := #[rv a0, iv (2 : Int32), iv (4 : Int32), iv v2, iv v5, iv (1 : Int32)]) (hb hby own_d1_54) rfl rfl ?_
  refine ow_iinc (q := 59) X0 hx (L' := #[rv a0, iv (2 : Int32), iv (4 : Int32), iv v2, iv v5, iv (2 : Int32)]) (hb hby own_d1_56) rfl rfl rfl ?_
  refine ow_goto (q := 33) X0 hx (hb hby own_d1_59) (by decide) (by decide) ?_
  refine ow_iload (q := 35) X0 hx (hb hby own_d1_33) rfl rfl ?_
  refine ow_iloadN (q := 36) X0 hx (hb hby own_d1_35) rfl rfl ?_
  refine ow_icmpNo (q := 39) X0 hx (hb hby own_d1_36) rfl (Jvm.Free.XT.ii_ge_f (by decide)) ?_
  refine ow_iload (q := 41) X0 hx (hb hby own_d1_39) rfl rfl ?_
  refine ow_bipush (q := 43) X0 hx (6 : Int32) (hb hby own_d1_41) rfl rfl ?_
  refine ow_ishl (q := 44) X0 hx _ (hb hby own_d1_43) rfl rfl ?_
  refine ow_aloadN (q := 45) X0 hx (hb hby own_d1_44) rfl rfl rfl ?_
  refine ow_iloadN (q := 46) X0 hx (hb hby own_d1_45) rfl rfl ?_
  refine ow_iload (q := 48) X0 hx (hb hby own_d1_46) rfl rfl ?_
  refine ow_iadd (q := 49) X0 hx (4 : Int32) (hb hby own_d1_48) rfl (by decide) ?_
  refine ownGo (T' := s₁) (f' := (mkF m 50 #[rv a0, iv (2 : Int32), iv (4 : Int32), iv v2, iv v5, iv (2 : Int32)] [(.int (g 4)), (.int (v5 <<< ((6 : Int32) &&& 31)))])) (ownBaload HF0 X0 hx hZ e0 (j := (4 : Int32)) (by unfold ownIn; decide) (g := (mkF m 49 #[rv a0, iv (2 : Int32), iv (4 : Int32), iv v2, iv v5, iv (2 : Int32)] [(.int (4 : Int32)), (.ref a0), (.int (v5 <<< ((6 : Int32) &&& 31)))])) rfl rfl (hb hby own_d1_49)) ?_
  generalize hv_v6 : (g 4) = v6
  refine ow_bipush (q := 52) X0 hx (63 : Int32) (hb hby own_d1_50) rfl rfl ?_
  refine ow_iand (q := 53) X0 hx _ (hb hby own_d1_52) rfl rfl ?_
  refine ow_ior (q := 54) X0 hx _ (hb hby own_d1_53) rfl rfl ?_
  generalize hv_v7 : ((v5 <<< ((6 : Int32) &&& 31)) ||| (v6 &&& (63 : Int32))) = v7
  refine ow_istore (q := 56) X0 hx (L' := #[rv a0, iv (2 : Int32), iv (4 : Int32), iv v2, iv v7, iv (2 : Int32)]) (hb hby own_d1_54) rfl rfl ?_
  refine ow_iinc (q := 59) X0 hx (L' := #[rv a0, iv (2 : Int32), iv (4 : Int32), iv v2, iv v7, iv (3 : Int32)]) (hb hby own_d1_56) rfl rfl rfl ?_
  refine ow_goto (q := 33) X0 hx (hb hby own_d1_59) (by decide) (by decide) ?_
  refine ow_iload (q := 35) X0 hx (hb hby own_d1_33) rfl rfl ?_
  refine ow_iloadN (q := 36) X0 hx (hb hby own_d1_35) rfl rfl ?_
  refine ow_icmpNo (q := 39) X0 hx (hb hby own_d1_36) rfl (Jvm.Free.XT.ii_ge_f (by decide)) ?_
  refine ow_iload (q := 41) X0 hx (hb hby own_d1_39) rfl rfl ?_
  refine ow_bipush (q := 43) X0 hx (6 : Int32) (hb hby own_d1_41) rfl rfl ?_
  refine ow_ishl (q := 44) X0 hx _ (hb hby own_d1_43) rfl rfl ?_
  refine ow_aloadN (q := 45) X0 hx (hb hby own_d1_44) rfl rfl rfl ?_
  refine ow_iloadN (q := 46) X0 hx (hb hby own_d1_45) rfl rfl ?_
  refine ow_iload (q := 48) X0 hx (hb hby own_d1_46) rfl rfl ?_
  refine ow_iadd (q := 49) X0 hx (5 : Int32) (hb hby own_d1_48) rfl (by decide) ?_
  refine ownGo (T' := s₁) (f' := (mkF m 50 #[rv a0, iv (2 : Int32), iv (4 : Int32), iv v2, iv v7, iv (3 : Int32)] [(.int (g 5)), (.int (v7 <<< ((6 : Int32) &&& 31)))])) (ownBaload HF0 X0 hx hZ e0 (j := (5 : Int32)) (by unfold ownIn; decide) (g := (mkF m 49 #[rv a0, iv (2 : Int32), iv (4 : Int32), iv v2, iv v7, iv (3 : Int32)] [(.int (5 : Int32)), (.ref a0), (.int (v7 <<< ((6 : Int32) &&& 31)))])) rfl rfl (hb hby own_d1_49)) ?_
  generalize hv_v8 : (g 5) = v8
  refine ow_bipush (q := 52) X0 hx (63 : Int32) (hb hby own_d1_50) rfl rfl ?_
  refine ow_iand (q := 53) X0 hx _ (hb hby own_d1_52) rfl rfl ?_
  refine ow_ior (q := 54) X0 hx _ (hb hby own_d1_53) rfl rfl ?_
  generalize hv_v9 : ((v7 <<< ((6 : Int32) &&& 31)) ||| (v8 &&& (63 : Int32))) = v9
  refine ow_istore (q := 56) X0 hx (L' := #[rv a0, iv (2 : Int32), iv (4 : Int32), iv v2, iv v9, iv (3 : Int32)]) (hb hby own_d1_54) rfl rfl ?_
  refine ow_iinc (q := 59) X0 hx (L' := #[rv a0, iv (2 : Int32), iv (4 : Int32), iv v2, iv v9, iv (4 : Int32)]) (hb hby own_d1_56) rfl rfl rfl ?_
  refine ow_goto (q := 33) X0 hx (hb hby own_d1_59) (by decide) (by decide) ?_
  refine ow_iload (q := 35) X0 hx (hb hby own_d1_33) rfl rfl ?_
  refine ow_iloadN (q := 36) X0 hx (hb hby own_d1_35) rfl rfl ?_
  refine ow_icmpYes (q := 62) X0 hx (hb hby own_d1_36) (Jvm.Free.XT.ii_ge_t (by decide)) (by decide) (by decide) ?_
  refine ow_iload (q := 64) X0 hx (hb hby own_d1_62) rfl rfl ?_
  refine ownRetI X0 hx Bd.returns (hb hby own_d1_64) hlk (by decide) (by decide) ?_
  subst hv_v9 hv_v8 hv_v7 hv_v6 hv_v5 hv_v4 hv_v3 hv_v2 hv_v1
  rw [e0]
  refine ⟨congrArg (fun q => some (Value.int q)) ?_, N0, rfl⟩
  rfl
theorem own_ef1_dec_4_3 (m : MethodId) (a0 : Addr) : entryFrame m #[(.ref a0), (.int (3 : Int32)), (.int (4 : Int32))] 6 = mkF m 0 #[rv a0, iv (3 : Int32), iv (4 : Int32), .unset, .unset, .unset] [] := by first | (simp [entryFrame, mkF, argsToLocals, Value.category]; done) | rfl
def Q_dec_4_3 (Z : State) (a0 : Addr) (g : Nat → Int32) (h0 : Heap) (n0 : Nat) (v : Option Value) (h : Heap) (L : List Loc) : Prop := v = some (.int (own_dec4 (g 3) (g 4) (g 5) (g 6))) ∧ Fr n0 L ∧ h = h0
set_option maxRecDepth 65536 in
set_option maxHeartbeats 40000000 in
theorem rm_dec_4_3 (l : Launch) (Z : State) (a0 : Array Value) (hw : ∀ d ∈ tables_1, d.before a0 Z = true) (ws : List Jvm.Cond) (a0 : Addr) (g : Nat → Int32) (h0 : Heap) (n0 : Nat) (Z0 : n0 ≤ h0.size) (HF0 : ownAI Z h0 a0 .byte 7 g) :
    MetFree l (⟨"com/example/descend/descend/XmlChars", "decode", "([BII)I"⟩ : MethodName) (head1 (Jvm.Cond.code (⟨"com/example/descend/descend/XmlChars", "decode", "([BII)I"⟩ : MethodName) prog_24_method_15_code 6 (some .int) :: ws) ({ frames := 0, cells := 0, slots := 0, locals := 0 } : Room)) (fun a U => a = #[(.ref a0), (.int (3 : Int32)), (.int (4 : Int32))] ∧ Z.Warmed39 U.vm ∧ U.heap = h0) (fun _ _ _ _ _ => True) (fun _ U o U' => ∃ v L, o = .returned v ∧ (Q_dec_4_3 Z a0 g h0 n0) v U'.heap L ∧ FrameEnd U o U' L ({ frames := 0, cells := 0, slots := 0, locals := 0 } : Room).cells ({ frames := 0, cells := 0, slots := 0, locals := 0 } : Room).slots) := by
  refine MetFree.of_bodySF (plainFor_of_name own_pn_XmlChars) hisR ?_
  intro p e s m args below meth c s₁ Bd hml0 hP hK
  obtain ⟨rfl, hZ, hh⟩ := hP
  have hx := Bd.exec
  have hby := Bd.bytes
  have hml : c.maxLocals = 6 := hml0
  have hown : s.vm.findClass "com/example/descend/descend/XmlChars" = some m.cls := findClass_of_methodNamed Bd.named
  have hnm := (name_of_methodNamed Bd.named Bd.method).1
  have hlk : meth.locks = false := BodyLoose.notSynchronized Bd
  have X0 : Stand p l e ({ frames := 0, cells := 0, slots := 0, locals := 0 } : Room) s m #[(.ref a0), (.int (3 : Int32)), (.int (4 : Int32))] below meth c s₁ [] 0 0 := Stand.of_body Bd
  have e0 : s₁.heap = h0 := by rw [← hh, Bd.state]; rfl
  have N0 := Fr.nil n0
  have K0 : Keep h0 h0 [] := Keep.refl _ _
  show ownEnds p e below s (Q_dec_4_3 Z a0 g h0 n0) ({ frames := 0, cells := 0, slots := 0, locals := 0 } : Room).cells ({ frames := 0, cells := 0, slots := 0, locals := 0 } : Room).slots s₁ (entryFrame m #[(.ref a0), (.int (3 : Int32)), (.int (4 : Int32))] 6)
  refine ownCast (own_ef1_dec_4_3 m a0) ?_
  refine ow_aloadN (q := 1) X0 hx (hb hby own_d1_0) rfl rfl rfl ?_
  refine ow_iloadN (q := 2) X0 hx (hb hby own_d1_1) rfl rfl ?_
  refine ownGo (T' := s₁) (f' := (mkF m 3 #[rv a0, iv (3 : Int32), iv (4 : Int32), .unset, .unset, .unset] [(.int (g 3))])) (ownBaload HF0 X0 hx hZ e0 (j := (3 : Int32)) (by unfold ownIn; decide) (g := (mkF m 2 #[rv a0, iv (3 : Int32), iv (4 : Int32), .unset, .unset, .unset] [(.int (3 : Int32)), (.ref a0)])) rfl rfl (hb hby own_d1_2)) ?_
  generalize hv_v1 : (g 3) = v1
  refine ow_sipush (q := 6) X0 hx (255 : Int32) (hb hby own_d1_3) rfl rfl ?_
  refine ow_iand (q := 7) X0 hx _ (hb hby own_d1_6) rfl rfl ?_
  generalize hv_v2 : (v1 &&& (255 : Int32)) = v2
  refine ow_istoreN (q := 8) X0 hx (L' := #[rv a0, iv (3 : Int32), iv (4 : Int32), iv v2, .unset, .unset]) (hb hby own_d1_7) rfl rfl ?_
  refine ow_iloadN (q := 9) X0 hx (hb hby own_d1_8) rfl rfl ?_
  refine ow_iconst (q := 10) X0 hx (1 : Int32) (hb hby own_d1_9) rfl rfl ?_
  refine ow_icmpYes (q := 19) X0 hx (hb hby own_d1_10) (Jvm.Free.XT.ii_ne_t (by decide)) (by decide) (by decide) ?_
  refine ow_iloadN (q := 20) X0 hx (hb hby own_d1_19) rfl rfl ?_
  refine ow_sipush (q := 23) X0 hx (255 : Int32) (hb hby own_d1_20) rfl rfl ?_
  refine ow_iloadN (q := 24) X0 hx (hb hby own_d1_23) rfl rfl ?_
  refine ow_iconst (q := 25) X0 hx (1 : Int32) (hb hby own_d1_24) rfl rfl ?_
  refine ow_iadd (q := 26) X0 hx (5 : Int32) (hb hby own_d1_25) rfl (by decide) ?_
  refine ow_ishr (q := 27) X0 hx (7 : Int32) (hb hby own_d1_26) rfl (by decide) ?_
  refine ow_iand (q := 28) X0 hx _ (hb hby own_d1_27) rfl rfl ?_
  generalize hv_v3 : (v2 &&& (7 : Int32)) = v3
  refine ow_istore (q := 30) X0 hx (L' := #[rv a0, iv (3 : Int32), iv (4 : Int32), iv v2, iv v3, .unset]) (hb hby own_d1_28) rfl rfl ?_
  refine ow_iconst (q := 31) X0 hx (1 : Int32) (hb hby own_d1_30) rfl rfl ?_
  refine ow_istore (q := 33) X0 hx (L' := #[rv a0, iv (3 : Int32), iv (4 : Int32), iv v2, iv v3, iv (1 : Int32)]) (hb hby own_d1_31) rfl rfl ?_
  refine ow_iload (q := 35) X0 hx (hb hby own_d1_33) rfl rfl ?_
  refine ow_iloadN (q := 36) X0 hx (hb hby own_d1_35) rfl rfl ?_
  refine ow_icmpNo (q := 39) X0 hx (hb hby own_d1_36) rfl (Jvm.Free.XT.ii_ge_f (by decide)) ?_
  refine ow_iload (q := 41) X0 hx (hb hby own_d1_39) rfl rfl ?_
  refine ow_bipush (q := 43) X0 hx (6 : Int32) (hb hby own_d1_41) rfl rfl ?_
  refine ow_ishl (q := 44) X0 hx _ (hb hby own_d1_43) rfl rfl ?_
  refine ow_aloadN (q := 45) X0 hx (hb hby own_d1_44) rfl rfl rfl ?_
  refine ow_iloadN (q := 46) X0 hx (hb hby own_d1_45) rfl rfl ?_
  refine ow_iload (q := 48) X0 hx (hb hby own_d1_46) rfl rfl ?_
  refine ow_iadd (q := 49) X0 hx (4 : Int32) (hb hby own_d1_48) rfl (by decide) ?_
  refine ownGo (T' := s₁) (f' := (mkF m 50 #[rv a0, iv (3 : Int32), iv (4 : Int32), iv v2, iv v3, iv (1 : Int32)] [(.int (g 4)), (.int (v3 <<< ((6 : Int32) &&& 31)))])) (ownBaload HF0 X0 hx hZ e0 (j := (4 : Int32)) (by unfold ownIn; decide) (g := (mkF m 49 #[rv a0, iv (3 : Int32), iv (4 : Int32), iv v2, iv v3, iv (1 : Int32)] [(.int (4 : Int32)), (.ref a0), (.int (v3 <<< ((6 : Int32) &&& 31)))])) rfl rfl (hb hby own_d1_49)) ?_
  generalize hv_v4 : (g 4) = v4
  refine ow_bipush (q := 52) X0 hx (63 : Int32) (hb hby own_d1_50) rfl rfl ?_
  refine ow_iand (q := 53) X0 hx _ (hb hby own_d1_52) rfl rfl ?_
  refine ow_ior (q := 54) X0 hx _ (hb hby own_d1_53) rfl rfl ?_
  generalize hv_v5 : ((v3 <<< ((6 : Int32) &&& 31)) ||| (v4 &&& (63 : Int32))) = v5
  refine ow_istore (q := 56) X0 hx (L' := #[rv a0, iv (3 : Int32), iv (4 : Int32), iv v2, iv v5, iv (1 : Int32)]) (hb hby own_d1_54) rfl rfl ?_
  refine ow_iinc (q := 59) X0 hx (L' := #[rv a0, iv (3 : Int32), iv (4 : Int32), iv v2, iv v5, iv (2 : Int32)]) (hb hby own_d1_56) rfl rfl rfl ?_
  refine ow_goto (q := 33) X0 hx (hb hby own_d1_59) (by decide) (by decide) ?_
  refine ow_iload (q := 35) X0 hx (hb hby own_d1_33) rfl rfl ?_
  refine ow_iloadN (q := 36) X0 hx (hb hby own_d1_35) rfl rfl ?_
  refine ow_icmpNo (q := 39) X0 hx (hb hby own_d1_36) rfl (Jvm.Free.XT.ii_ge_f (by decide)) ?_
  refine ow_iload (q := 41) X0 hx (hb hby own_d1_39) rfl rfl ?_
  refine ow_bipush (q := 43) X0 hx (6 : Int32) (hb hby own_d1_41) rfl rfl ?_
  refine ow_ishl (q := 44) X0 hx _ (hb hby own_d1_43) rfl rfl ?_
  refine ow_aloadN (q := 45) X0 hx (hb hby own_d1_44) rfl rfl rfl ?_
  refine ow_iloadN (q := 46) X0 hx (hb hby own_d1_45) rfl rfl ?_
  refine ow_iload (q := 48) X0 hx (hb hby own_d1_46) rfl rfl ?_
  refine ow_iadd (q := 49) X0 hx (5 : Int32) (hb hby own_d1_48) rfl (by decide) ?_
  refine ownGo (T' := s₁) (f' := (mkF m 50 #[rv a0, iv (3 : Int32), iv (4 : Int32), iv v2, iv v5, iv (2 : Int32)] [(.int (g 5)), (.int (v5 <<< ((6 : Int32) &&& 31)))])) (ownBaload HF0 X0 hx hZ e0 (j := (5 : Int32)) (by unfold ownIn; decide) (g := (mkF m 49 #[rv a0, iv (3 : Int32), iv (4 : Int32), iv v2, iv v5, iv (2 : Int32)] [(.int (5 : Int32)), (.ref a0), (.int (v5 <<< ((6 : Int32) &&& 31)))])) rfl rfl (hb hby own_d1_49)) ?_
  generalize hv_v6 : (g 5) = v6
  refine ow_bipush (q := 52) X0 hx (63 : Int32) (hb hby own_d1_50) rfl rfl ?_
  refine ow_iand (q := 53) X0 hx _ (hb hby own_d1_52) rfl rfl ?_
  refine ow_ior (q := 54) X0 hx _ (hb hby own_d1_53) rfl rfl ?_
  generalize hv_v7 : ((v5 <<< ((6 : Int32) &&& 31)) ||| (v6 &&& (63 : Int32))) = v7
  refine ow_istore (q := 56) X0 hx (L' := #[rv a0, iv (3 : Int32), iv (4 : Int32), iv v2, iv v7, iv (2 : Int32)]) (hb hby own_d1_54) rfl rfl ?_
  refine ow_iinc (q := 59) X0 hx (L' := #[rv a0, iv (3 : Int32), iv (4 : Int32), iv v2, iv v7, iv (3 : Int32)]) (hb hby own_d1_56) rfl rfl rfl ?_
  refine ow_goto (q := 33) X0 hx (hb hby own_d1_59) (by decide) (by decide) ?_
  refine ow_iload (q := 35) X0 hx (hb hby own_d1_33) rfl rfl ?_
  refine ow_iloadN (q := 36) X0 hx (hb hby own_d1_35) rfl rfl ?_
  refine ow_icmpNo (q := 39) X0 hx (hb hby own_d1_36) rfl (Jvm.Free.XT.ii_ge_f (by decide)) ?_
  refine ow_iload (q := 41) X0 hx (hb hby own_d1_39) rfl rfl ?_
  refine ow_bipush (q := 43) X0 hx (6 : Int32) (hb hby own_d1_41) rfl rfl ?_
  refine ow_ishl (q := 44) X0 hx _ (hb hby own_d1_43) rfl rfl ?_
  refine ow_aloadN (q := 45) X0 hx (hb hby own_d1_44) rfl rfl rfl ?_
  refine ow_iloadN (q := 46) X0 hx (hb hby own_d1_45) rfl rfl ?_
  refine ow_iload (q := 48) X0 hx (hb hby own_d1_46) rfl rfl ?_
  refine ow_iadd (q := 49) X0 hx (6 : Int32) (hb hby own_d1_48) rfl (by decide) ?_
  refine ownGo (T' := s₁) (f' := (mkF m 50 #[rv a0, iv (3 : Int32), iv (4 : Int32), iv v2, iv v7, iv (3 : Int32)] [(.int (g 6)), (.int (v7 <<< ((6 : Int32) &&& 31)))])) (ownBaload HF0 X0 hx hZ e0 (j := (6 : Int32)) (by unfold ownIn; decide) (g := (mkF m 49 #[rv a0, iv (3 : Int32), iv (4 : Int32), iv v2, iv v7, iv (3 : Int32)] [(.int (6 : Int32)), (.ref a0), (.int (v7 <<< ((6 : Int32) &&& 31)))])) rfl rfl (hb hby own_d1_49)) ?_
  generalize hv_v8 : (g 6) = v8
  refine ow_bipush (q := 52) X0 hx (63 : Int32) (hb hby own_d1_50) rfl rfl ?_
  refine ow_iand (q := 53) X0 hx _ (hb hby own_d1_52) rfl rfl ?_
  refine ow_ior (q := 54) X0 hx _ (hb hby own_d1_53) rfl rfl ?_
  generalize hv_v9 : ((v7 <<< ((6 : Int32) &&& 31)) ||| (v8 &&& (63 : Int32))) = v9
  refine ow_istore (q := 56) X0 hx (L' := #[rv a0, iv (3 : Int32), iv (4 : Int32), iv v2, iv v9, iv (3 : Int32)]) (hb hby own_d1_54) rfl rfl ?_
  refine ow_iinc (q := 59) X0 hx (L' := #[rv a0, iv (3 : Int32), iv (4 : Int32), iv v2, iv v9, iv (4 : Int32)]) (hb hby own_d1_56) rfl rfl rfl ?_
  refine ow_goto (q := 33) X0 hx (hb hby own_d1_59) (by decide) (by decide) ?_
  refine ow_iload (q := 35) X0 hx (hb hby own_d1_33) rfl rfl ?_
  refine ow_iloadN (q := 36) X0 hx (hb hby own_d1_35) rfl rfl ?_
  refine ow_icmpYes (q := 62) X0 hx (hb hby own_d1_36) (Jvm.Free.XT.ii_ge_t (by decide)) (by decide) (by decide) ?_
  refine ow_iload (q := 64) X0 hx (hb hby own_d1_62) rfl rfl ?_
  refine ownRetI X0 hx Bd.returns (hb hby own_d1_64) hlk (by decide) (by decide) ?_
  subst hv_v9 hv_v8 hv_v7 hv_v6 hv_v5 hv_v4 hv_v3 hv_v2 hv_v1
  rw [e0]
  refine ⟨congrArg (fun q => some (Value.int q)) ?_, N0, rfl⟩
  rfl
theorem own_pn_XmlCharsDecodePinLaw : plainName "com/example/descend/descend/XmlCharsDecodePinLaw" = true := by first | (simp [plainName, overriddenIn]; done) | decide +kernel
theorem own_pd0 : parseMethodDescriptor "([BII)I" = some ⟨[(.array .byte), .int, .int], some .int⟩ := by decide +kernel
theorem own_ef0_law (m : MethodId) (p0 : Int32) (p1 : Int32) (p2 : Int32) (q3 : Int64) : entryFrame m #[(.int p0), (.int p1), (.int p2), (.long q3)] maxLocals = mkF m 0 #[iv p0, iv p1, iv p2, .val (.long q3), .second, .unset, .unset, .unset, .unset, .unset, .unset] [] := by first | (simp [entryFrame, mkF, argsToLocals, Value.category, maxLocals]; done) | rfl
def Q_law (Z : State) (p0 : Int32) (p1 : Int32) (p2 : Int32) (q3 : Int64) (h0 : Heap) (n0 : Nat) (v : Option Value) (h : Heap) (L : List Loc) : Prop := v = some (.int 1) ∧ Fr n0 L
set_option maxRecDepth 65536 in
set_option maxHeartbeats 40000000 in
theorem rm_law (l : Launch) (Z : State) (a0 : Array Value) (hw : ∀ d ∈ tables_1, d.before a0 Z = true) (ws : List Jvm.Cond) (p0 : Int32) (p1 : Int32) (p2 : Int32) (q3 : Int64) (h0 : Heap) (n0 : Nat) (Z0 : n0 ≤ h0.size) :
    MetFree l x (head1 (Jvm.Cond.code x code maxLocals ret :: ws) room_1) (fun a U => a = #[(.int p0), (.int p1), (.int p2), (.long q3)] ∧ Z.Warmed39 U.vm ∧ U.heap = h0) (fun _ _ _ _ _ => True) (fun _ U o U' => ∃ v L, o = .returned v ∧ (Q_law Z p0 p1 p2 q3 h0 n0) v U'.heap L ∧ FrameEnd U o U' L 16 128) := by
  refine MetFree.of_bodySF (plainFor_of_name own_pn_XmlCharsDecodePinLaw) hisR ?_
  intro p e s m args below meth c s₁ Bd hml0 hP hK
  obtain ⟨rfl, hZ, hh⟩ := hP
  have hx := Bd.exec
  have hby := Bd.bytes
  have hml : c.maxLocals = 11 := hml0
  have hown : s.vm.findClass "com/example/descend/descend/XmlCharsDecodePinLaw" = some m.cls := findClass_of_methodNamed Bd.named
  have hnm := (name_of_methodNamed Bd.named Bd.method).1
  have hlk : meth.locks = false := BodyLoose.notSynchronized Bd
  have X0 : Stand p l e room_1 s m #[(.int p0), (.int p1), (.int p2), (.long q3)] below meth c s₁ [] 0 0 := Stand.of_body Bd
  have e0 : s₁.heap = h0 := by rw [← hh, Bd.state]; rfl
  have N0 := Fr.nil n0
  have K0 : Keep h0 h0 [] := Keep.refl _ _
  show ownEnds p e below s (Q_law Z p0 p1 p2 q3 h0 n0) 16 128 s₁ (entryFrame m #[(.int p0), (.int p1), (.int p2), (.long q3)] maxLocals)
  refine ownCast (own_ef0_law m p0 p1 p2 q3) ?_
  refine ow_iloadN (q := 1) X0 hx (hb hby at_0) rfl rfl ?_
  refine ow_iconst (q := 2) X0 hx (3 : Int32) (hb hby at_1) rfl rfl ?_
  refine ow_iand (q := 3) X0 hx _ (hb hby at_2) rfl rfl ?_
  generalize hv_v1 : (p1 &&& (3 : Int32)) = v1
  refine ow_istore (q := 5) X0 hx (L' := #[iv p0, iv p1, iv p2, .val (.long q3), .second, iv v1, .unset, .unset, .unset, .unset, .unset]) (hb hby at_3) rfl rfl ?_
  refine ow_iloadN (q := 6) X0 hx (hb hby at_5) rfl rfl ?_
  refine ownGo (T' := s₁) (f' := (mkF m 8 #[iv p0, iv p1, iv p2, .val (.long q3), .second, iv v1, .unset, .unset, .unset, .unset, .unset] [(.int (2147483647 : Int32)), (.int p0)])) (X0.ldcInt hx hown (mvT hZ (hw _ (List.mem_of_getElem? (i := 0) rfl))) (g := (mkF m 6 #[iv p0, iv p1, iv p2, .val (.long q3), .second, iv v1, .unset, .unset, .unset, .unset, .unset] [(.int p0)])) rfl (hb hby at_6)) ?_
  refine ow_iand (q := 9) X0 hx _ (hb hby at_8) rfl rfl ?_
  generalize hv_v2 : (p0 &&& (2147483647 : Int32)) = v2
  refine ow_istore (q := 11) X0 hx (L' := #[iv p0, iv p1, iv p2, .val (.long q3), .second, iv v1, iv v2, .unset, .unset, .unset, .unset]) (hb hby at_9) rfl rfl ?_
  have cut111_3 : ∀ (cp : Int32) (ln : Int32) (Tc3 : State) (lc3 : List Loc), Stand p l e room_1 s m #[(.int p0), (.int p1), (.int p2), (.long q3)] below meth c Tc3 lc3 0 0 → Tc3.heap = h0 → Fr n0 lc3 → (own_R ln cp) → ownEnds p e below s (Q_law Z p0 p1 p2 q3 h0 n0) 16 128 Tc3 (mkF m 111 #[iv p0, iv p1, iv p2, .val (.long q3), .second, iv v1, iv v2, iv cp, iv ln, .unset, .unset] []) := by
    intro cp ln Tc3 lc3 Xc3 ec3 Nc3 hR
    refine ow_bipush (q := 113) Xc3 hx (7 : Int32) (hb hby at_111) rfl rfl ?_
    obtain ⟨T4, h4, k4, X4, e4, E4, A4, st4⟩ := newP Xc3 hx hZ (hw _ (List.mem_of_getElem? (i := 3) rfl)) ec3 (g := (mkF m 113 #[iv p0, iv p1, iv p2, .val (.long q3), .second, iv v1, iv v2, iv cp, iv ln, .unset, .unset] [(.int (7 : Int32))])) rfl (hb hby at_113) rfl (by decide) (cap := 7) (by decide) (by decide) (by decide) (by decide)
    obtain ⟨b4, g4⟩ : ∃ z, z = h0.size := ⟨_, rfl⟩
    rw [← g4] at A4 st4
    have sz_b4 : h0.size ≤ b4 := Nat.le_trans K0.1 (Nat.le_of_eq g4.symm)
    have G_b4 : n0 ≤ b4 := Nat.le_trans Z0 sz_b4
    have K4 : Keep h0 h4 [] := K0.ext E4
    have F5 : ownAI Z h4 b4 .byte 7 (fun _ => (0 : Int32)) := ownAI.new A4 (by decide) rfl (by decide)
    refine ownGo (T' := T4) (f' := (mkF m 115 #[iv p0, iv p1, iv p2, .val (.long q3), .second, iv v1, iv v2, iv cp, iv ln, .unset, .unset] [(.ref b4)])) (st4) ?_
    refine ow_astore (q := 117) X4 hx (L' := #[iv p0, iv p1, iv p2, .val (.long q3), .second, iv v1, iv v2, iv cp, iv ln, rv b4, .unset]) (hb hby at_115) rfl rfl rfl ?_
    refine ow_aload (q := 119) X4 hx (hb hby at_117) rfl rfl rfl ?_
    refine ow_iconst (q := 120) X4 hx (0 : Int32) (hb hby at_119) rfl rfl ?_
    refine ow_lloadN (q := 121) X4 hx (hb hby at_120) rfl rfl ?_
    refine ow_l2i (q := 122) X4 hx _ (hb hby at_121) rfl rfl ?_
    refine ow_i2b (q := 123) X4 hx _ (hb hby at_122) rfl rfl ?_
    generalize hv_v6 : ((q3.toInt32).toInt8.toInt32) = v6
    obtain ⟨T7, h7, X7, e7, W7, F7s, st7⟩ := ownBastore F5 X4 hx hZ e4 (j := (0 : Int32)) (by unfold ownIn; decide) (g := (mkF m 123 #[iv p0, iv p1, iv p2, .val (.long q3), .second, iv v1, iv v2, iv cp, iv ln, rv b4, .unset] [(.int v6), (.int (0 : Int32)), (.ref b4)])) rfl rfl (hb hby at_123)
    rw [own_narb hv_v6] at F7s
    have F7r : ownAI Z h7 b4 .byte 7 (ownUpd (fun _ => (0 : Int32)) 0 v6) := F7s
    have N7 := Fr.snoc X7 Nc3 G_b4
    have K7 : Keep h0 h7 [] := K4.wr W7 (Or.inr sz_b4)
    refine ownGo (T' := T7) (f' := (mkF m 124 #[iv p0, iv p1, iv p2, .val (.long q3), .second, iv v1, iv v2, iv cp, iv ln, rv b4, .unset] [])) (st7) ?_
    refine ow_aload (q := 126) X7 hx (hb hby at_124) rfl rfl rfl ?_
    refine ow_iconst (q := 127) X7 hx (1 : Int32) (hb hby at_126) rfl rfl ?_
    refine ow_lloadN (q := 128) X7 hx (hb hby at_127) rfl rfl ?_
    refine ow_bipush (q := 130) X7 hx (8 : Int32) (hb hby at_128) rfl rfl ?_
    refine ow_lushr (q := 131) X7 hx _ (hb hby at_130) rfl rfl ?_
    refine ow_l2i (q := 132) X7 hx _ (hb hby at_131) rfl rfl ?_
    refine ow_i2b (q := 133) X7 hx _ (hb hby at_132) rfl rfl ?_
    generalize hv_v8 : ((((q3.toUInt64 >>> ((8 : Int32) &&& 0x3f).toInt64.toUInt64).toInt64).toInt32).toInt8.toInt32) = v8
    obtain ⟨T9, h9, X9, e9, W9, F9s, st9⟩ := ownBastore F7r X7 hx hZ e7 (j := (1 : Int32)) (by unfold ownIn; decide) (g := (mkF m 133 #[iv p0, iv p1, iv p2, .val (.long q3), .second, iv v1, iv v2, iv cp, iv ln, rv b4, .unset] [(.int v8), (.int (1 : Int32)), (.ref b4)])) rfl rfl (hb hby at_133)
    rw [own_narb hv_v8] at F9s
    have F9r : ownAI Z h9 b4 .byte 7 (ownUpd (ownUpd (fun _ => (0 : Int32)) 0 v6) 1 v8) := F9s
    have N9 := Fr.snoc X9 N7 G_b4
    have K9 : Keep h0 h9 [] := K7.wr W9 (Or.inr sz_b4)
    refine ownGo (T' := T9) (f' := (mkF m 134 #[iv p0, iv p1, iv p2, .val (.long q3), .second, iv v1, iv v2, iv cp, iv ln, rv b4, .unset] [])) (st9) ?_
    refine ow_aload (q := 136) X9 hx (hb hby at_134) rfl rfl rfl ?_
    refine ow_iconst (q := 137) X9 hx (2 : Int32) (hb hby at_136) rfl rfl ?_
    refine ow_lloadN (q := 138) X9 hx (hb hby at_137) rfl rfl ?_
    refine ow_bipush (q := 140) X9 hx (16 : Int32) (hb hby at_138) rfl rfl ?_
    refine ow_lushr (q := 141) X9 hx _ (hb hby at_140) rfl rfl ?_
    refine ow_l2i (q := 142) X9 hx _ (hb hby at_141) rfl rfl ?_
    refine ow_i2b (q := 143) X9 hx _ (hb hby at_142) rfl rfl ?_
    generalize hv_v10 : ((((q3.toUInt64 >>> ((16 : Int32) &&& 0x3f).toInt64.toUInt64).toInt64).toInt32).toInt8.toInt32) = v10
    obtain ⟨T11, h11, X11, e11, W11, F11s, st11⟩ := ownBastore F9r X9 hx hZ e9 (j := (2 : Int32)) (by unfold ownIn; decide) (g := (mkF m 143 #[iv p0, iv p1, iv p2, .val (.long q3), .second, iv v1, iv v2, iv cp, iv ln, rv b4, .unset] [(.int v10), (.int (2 : Int32)), (.ref b4)])) rfl rfl (hb hby at_143)
    rw [own_narb hv_v10] at F11s
    have F11r : ownAI Z h11 b4 .byte 7 (ownUpd (ownUpd (ownUpd (fun _ => (0 : Int32)) 0 v6) 1 v8) 2 v10) := F11s
    have N11 := Fr.snoc X11 N9 G_b4
    have K11 : Keep h0 h11 [] := K9.wr W11 (Or.inr sz_b4)
    refine ownGo (T' := T11) (f' := (mkF m 144 #[iv p0, iv p1, iv p2, .val (.long q3), .second, iv v1, iv v2, iv cp, iv ln, rv b4, .unset] [])) (st11) ?_
    refine ow_aload (q := 146) X11 hx (hb hby at_144) rfl rfl rfl ?_
    refine ow_iconst (q := 147) X11 hx (3 : Int32) (hb hby at_146) rfl rfl ?_
    refine ow_lloadN (q := 148) X11 hx (hb hby at_147) rfl rfl ?_
    refine ow_bipush (q := 150) X11 hx (24 : Int32) (hb hby at_148) rfl rfl ?_
    refine ow_lushr (q := 151) X11 hx _ (hb hby at_150) rfl rfl ?_
    refine ow_l2i (q := 152) X11 hx _ (hb hby at_151) rfl rfl ?_
    refine ow_i2b (q := 153) X11 hx _ (hb hby at_152) rfl rfl ?_
    generalize hv_v12 : ((((q3.toUInt64 >>> ((24 : Int32) &&& 0x3f).toInt64.toUInt64).toInt64).toInt32).toInt8.toInt32) = v12
    obtain ⟨T13, h13, X13, e13, W13, F13s, st13⟩ := ownBastore F11r X11 hx hZ e11 (j := (3 : Int32)) (by unfold ownIn; decide) (g := (mkF m 153 #[iv p0, iv p1, iv p2, .val (.long q3), .second, iv v1, iv v2, iv cp, iv ln, rv b4, .unset] [(.int v12), (.int (3 : Int32)), (.ref b4)])) rfl rfl (hb hby at_153)
    rw [own_narb hv_v12] at F13s
    have F13r : ownAI Z h13 b4 .byte 7 (ownUpd (ownUpd (ownUpd (ownUpd (fun _ => (0 : Int32)) 0 v6) 1 v8) 2 v10) 3 v12) := F13s
    have N13 := Fr.snoc X13 N11 G_b4
    have K13 : Keep h0 h13 [] := K11.wr W13 (Or.inr sz_b4)
    refine ownGo (T' := T13) (f' := (mkF m 154 #[iv p0, iv p1, iv p2, .val (.long q3), .second, iv v1, iv v2, iv cp, iv ln, rv b4, .unset] [])) (st13) ?_
    refine ow_aload (q := 156) X13 hx (hb hby at_154) rfl rfl rfl ?_
    refine ow_iconst (q := 157) X13 hx (4 : Int32) (hb hby at_156) rfl rfl ?_
    refine ow_lloadN (q := 158) X13 hx (hb hby at_157) rfl rfl ?_
    refine ow_bipush (q := 160) X13 hx (32 : Int32) (hb hby at_158) rfl rfl ?_
    refine ow_lushr (q := 161) X13 hx _ (hb hby at_160) rfl rfl ?_
    refine ow_l2i (q := 162) X13 hx _ (hb hby at_161) rfl rfl ?_
    refine ow_i2b (q := 163) X13 hx _ (hb hby at_162) rfl rfl ?_
    generalize hv_v14 : ((((q3.toUInt64 >>> ((32 : Int32) &&& 0x3f).toInt64.toUInt64).toInt64).toInt32).toInt8.toInt32) = v14
    obtain ⟨T15, h15, X15, e15, W15, F15s, st15⟩ := ownBastore F13r X13 hx hZ e13 (j := (4 : Int32)) (by unfold ownIn; decide) (g := (mkF m 163 #[iv p0, iv p1, iv p2, .val (.long q3), .second, iv v1, iv v2, iv cp, iv ln, rv b4, .unset] [(.int v14), (.int (4 : Int32)), (.ref b4)])) rfl rfl (hb hby at_163)
    rw [own_narb hv_v14] at F15s
    have F15r : ownAI Z h15 b4 .byte 7 (ownUpd (ownUpd (ownUpd (ownUpd (ownUpd (fun _ => (0 : Int32)) 0 v6) 1 v8) 2 v10) 3 v12) 4 v14) := F15s
    have N15 := Fr.snoc X15 N13 G_b4
    have K15 : Keep h0 h15 [] := K13.wr W15 (Or.inr sz_b4)
    refine ownGo (T' := T15) (f' := (mkF m 164 #[iv p0, iv p1, iv p2, .val (.long q3), .second, iv v1, iv v2, iv cp, iv ln, rv b4, .unset] [])) (st15) ?_
    refine ow_aload (q := 166) X15 hx (hb hby at_164) rfl rfl rfl ?_
    refine ow_iconst (q := 167) X15 hx (5 : Int32) (hb hby at_166) rfl rfl ?_
    refine ow_lloadN (q := 168) X15 hx (hb hby at_167) rfl rfl ?_
    refine ow_bipush (q := 170) X15 hx (40 : Int32) (hb hby at_168) rfl rfl ?_
    refine ow_lushr (q := 171) X15 hx _ (hb hby at_170) rfl rfl ?_
    refine ow_l2i (q := 172) X15 hx _ (hb hby at_171) rfl rfl ?_
    refine ow_i2b (q := 173) X15 hx _ (hb hby at_172) rfl rfl ?_
    generalize hv_v16 : ((((q3.toUInt64 >>> ((40 : Int32) &&& 0x3f).toInt64.toUInt64).toInt64).toInt32).toInt8.toInt32) = v16
    obtain ⟨T17, h17, X17, e17, W17, F17s, st17⟩ := ownBastore F15r X15 hx hZ e15 (j := (5 : Int32)) (by unfold ownIn; decide) (g := (mkF m 173 #[iv p0, iv p1, iv p2, .val (.long q3), .second, iv v1, iv v2, iv cp, iv ln, rv b4, .unset] [(.int v16), (.int (5 : Int32)), (.ref b4)])) rfl rfl (hb hby at_173)
    rw [own_narb hv_v16] at F17s
    have F17r : ownAI Z h17 b4 .byte 7 (ownUpd (ownUpd (ownUpd (ownUpd (ownUpd (ownUpd (fun _ => (0 : Int32)) 0 v6) 1 v8) 2 v10) 3 v12) 4 v14) 5 v16) := F17s
    have N17 := Fr.snoc X17 N15 G_b4
    have K17 : Keep h0 h17 [] := K15.wr W17 (Or.inr sz_b4)
    refine ownGo (T' := T17) (f' := (mkF m 174 #[iv p0, iv p1, iv p2, .val (.long q3), .second, iv v1, iv v2, iv cp, iv ln, rv b4, .unset] [])) (st17) ?_
    refine ow_aload (q := 176) X17 hx (hb hby at_174) rfl rfl rfl ?_
    refine ow_bipush (q := 178) X17 hx (6 : Int32) (hb hby at_176) rfl rfl ?_
    refine ow_lloadN (q := 179) X17 hx (hb hby at_178) rfl rfl ?_
    refine ow_bipush (q := 181) X17 hx (48 : Int32) (hb hby at_179) rfl rfl ?_
    refine ow_lushr (q := 182) X17 hx _ (hb hby at_181) rfl rfl ?_
    refine ow_l2i (q := 183) X17 hx _ (hb hby at_182) rfl rfl ?_
    refine ow_i2b (q := 184) X17 hx _ (hb hby at_183) rfl rfl ?_
    generalize hv_v18 : ((((q3.toUInt64 >>> ((48 : Int32) &&& 0x3f).toInt64.toUInt64).toInt64).toInt32).toInt8.toInt32) = v18
    obtain ⟨T19, h19, X19, e19, W19, F19s, st19⟩ := ownBastore F17r X17 hx hZ e17 (j := (6 : Int32)) (by unfold ownIn; decide) (g := (mkF m 184 #[iv p0, iv p1, iv p2, .val (.long q3), .second, iv v1, iv v2, iv cp, iv ln, rv b4, .unset] [(.int v18), (.int (6 : Int32)), (.ref b4)])) rfl rfl (hb hby at_184)
    rw [own_narb hv_v18] at F19s
    have F19r : ownAI Z h19 b4 .byte 7 (ownUpd (ownUpd (ownUpd (ownUpd (ownUpd (ownUpd (ownUpd (fun _ => (0 : Int32)) 0 v6) 1 v8) 2 v10) 3 v12) 4 v14) 5 v16) 6 v18) := F19s
    have N19 := Fr.snoc X19 N17 G_b4
    have K19 : Keep h0 h19 [] := K17.wr W19 (Or.inr sz_b4)
    refine ownGo (T' := T19) (f' := (mkF m 185 #[iv p0, iv p1, iv p2, .val (.long q3), .second, iv v1, iv v2, iv cp, iv ln, rv b4, .unset] [])) (st19) ?_
    refine ow_iloadN (q := 186) X19 hx (hb hby at_185) rfl rfl ?_
    refine ownGo (T' := T19) (f' := (mkF m 188 #[iv p0, iv p1, iv p2, .val (.long q3), .second, iv v1, iv v2, iv cp, iv ln, rv b4, .unset] [(.int (2147483647 : Int32)), (.int p2)])) (X19.ldcInt hx hown (mvT hZ (hw _ (List.mem_of_getElem? (i := 0) rfl))) (g := (mkF m 186 #[iv p0, iv p1, iv p2, .val (.long q3), .second, iv v1, iv v2, iv cp, iv ln, rv b4, .unset] [(.int p2)])) rfl (hb hby at_186)) ?_
    refine ow_iand (q := 189) X19 hx _ (hb hby at_188) rfl rfl ?_
    refine ow_iconst (q := 190) X19 hx (4 : Int32) (hb hby at_189) rfl rfl ?_
    refine ow_irem (q := 191) X19 hx _ (hb hby at_190) rfl (by decide) rfl ?_
    generalize hv_v20 : ((p2 &&& (2147483647 : Int32)) % (4 : Int32)) = v20
    refine ow_istore (q := 193) X19 hx (L' := #[iv p0, iv p1, iv p2, .val (.long q3), .second, iv v1, iv v2, iv cp, iv ln, rv b4, iv v20]) (hb hby at_191) rfl rfl ?_
    rcases own_four hv_v20 with hs21 | hs22 | hs23 | hs24
    · subst hs21
      rcases own_lens hR with hs25 | hs26 | hs27 | hs28
      · subst hs25
        refine ow_iload (q := 195) X19 hx (hb hby at_193) rfl rfl ?_
        refine ow_iconst (q := 196) X19 hx (1 : Int32) (hb hby at_195) rfl rfl ?_
        refine ow_icmpNo (q := 199) X19 hx (hb hby at_196) rfl (Jvm.Free.XT.ii_ne_f (by decide)) ?_
        refine ow_aload (q := 201) X19 hx (hb hby at_199) rfl rfl rfl ?_
        refine ow_iload (q := 203) X19 hx (hb hby at_201) rfl rfl ?_
        refine ow_iload (q := 205) X19 hx (hb hby at_203) rfl rfl ?_
        refine ow_i2b (q := 206) X19 hx _ (hb hby at_205) rfl rfl ?_
        generalize hv_v29 : (cp.toInt8.toInt32) = v29
        obtain ⟨T30, h30, X30, e30, W30, F30s, st30⟩ := ownBastore F19r X19 hx hZ e19 (j := (0 : Int32)) (by unfold ownIn; decide) (g := (mkF m 206 #[iv p0, iv p1, iv p2, .val (.long q3), .second, iv v1, iv v2, iv cp, iv (1 : Int32), rv b4, iv (0 : Int32)] [(.int v29), (.int (0 : Int32)), (.ref b4)])) rfl rfl (hb hby at_206)
        rw [own_narb hv_v29] at F30s
        have F30r : ownAI Z h30 b4 .byte 7 (ownUpd (ownUpd (ownUpd (ownUpd (ownUpd (ownUpd (ownUpd (ownUpd (fun _ => (0 : Int32)) 0 v6) 1 v8) 2 v10) 3 v12) 4 v14) 5 v16) 6 v18) 0 v29) := F30s
        have N30 := Fr.snoc X30 N19 G_b4
        have K30 : Keep h0 h30 [] := K19.wr W30 (Or.inr sz_b4)
        refine ownGo (T' := T30) (f' := (mkF m 207 #[iv p0, iv p1, iv p2, .val (.long q3), .second, iv v1, iv v2, iv cp, iv (1 : Int32), rv b4, iv (0 : Int32)] [])) (st30) ?_
        refine ow_goto (q := 384) X30 hx (hb hby at_207) (by decide) (by decide) ?_
        refine ow_aload (q := 386) X30 hx (hb hby at_384) rfl rfl rfl ?_
        refine ow_iload (q := 388) X30 hx (hb hby at_386) rfl rfl ?_
        refine ow_iload (q := 390) X30 hx (hb hby at_388) rfl rfl ?_
        obtain ⟨_, _, ⟨T31, L31, k31, n31⟩, -, X31, ⟨Lc31, hQ31, l31, y31, z31⟩, st31⟩ := Jvm.LawKit.callS X30 hx (y := (⟨"com/example/descend/descend/XmlChars", "decode", "([BII)I"⟩ : MethodName)) hown (mvT hZ (hw _ (List.mem_of_getElem? (i := 4) rfl))) (mvT hZ (hw _ (List.mem_of_getElem? (i := 5) rfl))) (mvT hZ (hw _ (List.mem_of_getElem? (i := 6) rfl))) (mvT hZ (hw _ (List.mem_of_getElem? (i := 7) rfl))) (by decide) (backOf (W := 0) (rm_dec_1_0 l Z a0 hw [] b4 (ownUpd (ownUpd (ownUpd (ownUpd (ownUpd (ownUpd (ownUpd (ownUpd (fun _ => (0 : Int32)) 0 v6) 1 v8) 2 v10) 3 v12) 4 v14) 5 v16) 6 v18) 0 v29) h30 n0 (Nat.le_trans Z0 K30.1) F30r) hZ (hw _ (List.mem_of_getElem? (i := 7) rfl)) (hw _ (List.mem_of_getElem? (i := 6) rfl)) (by decide) (by decide)) (g := (mkF m 390 #[iv p0, iv p1, iv p2, .val (.long q3), .second, iv v1, iv v2, iv cp, iv (1 : Int32), rv b4, iv (0 : Int32)] [(.int (1 : Int32)), (.int (0 : Int32)), (.ref b4)])) rfl (by rw [hml]; rfl) (argsL := [(.ref b4), (.int (0 : Int32)), (.int (1 : Int32))]) (rest := []) (lenOf own_pd0 rfl) rfl (by show 2 * 0 + _ ≤ _; exact Nat.le_of_eq rfl) (hb hby at_390) (fun _ _ => ⟨rfl, e30, (by decide : 1 + 0 ≤ _), (by decide : 7 + 0 ≤ _)⟩)
        dsimp only [Pt.U, Pt.locs, Pt.cells, Pt.slots] at X31 l31 y31 z31 st31 hQ31
        subst l31 y31 z31
        obtain ⟨rfl, N31q, e31⟩ := hQ31
        have N31 := Fr.app N30 N31q
        refine ownGo (T' := T31) (f' := (mkF m 393 #[iv p0, iv p1, iv p2, .val (.long q3), .second, iv v1, iv v2, iv cp, iv (1 : Int32), rv b4, iv (0 : Int32)] [(.int (own_dec1 v29))])) (st31) ?_
        refine ow_iload (q := 395) X31 hx (hb hby at_393) rfl rfl ?_
        refine ow_icmpNo (q := 398) X31 hx (hb hby at_395) rfl (Jvm.Free.XT.ii_ne_f (own_rt1 (own_R1 hR) hv_v29)) ?_
        refine ow_iconst (q := 399) X31 hx (1 : Int32) (hb hby at_398) rfl rfl ?_
        refine ow_goto (q := 403) X31 hx (hb hby at_399) (by decide) (by decide) ?_
        refine ownRetN X31 hx (r := (1 : Int32)) (Or.inl rfl) Bd.returns (hb hby at_403) hlk (by decide) (by decide) (by decide) ?_
        exact ⟨rfl, N31⟩
      · subst hs26
        refine ow_iload (q := 195) X19 hx (hb hby at_193) rfl rfl ?_
        refine ow_iconst (q := 196) X19 hx (1 : Int32) (hb hby at_195) rfl rfl ?_
        refine ow_icmpYes (q := 210) X19 hx (hb hby at_196) (Jvm.Free.XT.ii_ne_t (by decide)) (by decide) (by decide) ?_
        refine ow_iload (q := 212) X19 hx (hb hby at_210) rfl rfl ?_
        refine ow_iconst (q := 213) X19 hx (2 : Int32) (hb hby at_212) rfl rfl ?_
        refine ow_icmpNo (q := 216) X19 hx (hb hby at_213) rfl (Jvm.Free.XT.ii_ne_f (by decide)) ?_
        refine ow_aload (q := 218) X19 hx (hb hby at_216) rfl rfl rfl ?_
        refine ow_iload (q := 220) X19 hx (hb hby at_218) rfl rfl ?_
        refine ow_sipush (q := 223) X19 hx (192 : Int32) (hb hby at_220) rfl rfl ?_
        refine ow_iload (q := 225) X19 hx (hb hby at_223) rfl rfl ?_
        refine ow_bipush (q := 227) X19 hx (6 : Int32) (hb hby at_225) rfl rfl ?_
        refine ow_ishr (q := 228) X19 hx _ (hb hby at_227) rfl rfl ?_
        refine ow_ior (q := 229) X19 hx _ (hb hby at_228) rfl rfl ?_
        refine ow_i2b (q := 230) X19 hx _ (hb hby at_229) rfl rfl ?_
        generalize hv_v32 : (((192 : Int32) ||| (cp >>> ((6 : Int32) &&& 31))).toInt8.toInt32) = v32
        obtain ⟨T33, h33, X33, e33, W33, F33s, st33⟩ := ownBastore F19r X19 hx hZ e19 (j := (0 : Int32)) (by unfold ownIn; decide) (g := (mkF m 230 #[iv p0, iv p1, iv p2, .val (.long q3), .second, iv v1, iv v2, iv cp, iv (2 : Int32), rv b4, iv (0 : Int32)] [(.int v32), (.int (0 : Int32)), (.ref b4)])) rfl rfl (hb hby at_230)
        rw [own_narb hv_v32] at F33s
        have F33r : ownAI Z h33 b4 .byte 7 (ownUpd (ownUpd (ownUpd (ownUpd (ownUpd (ownUpd (ownUpd (ownUpd (fun _ => (0 : Int32)) 0 v6) 1 v8) 2 v10) 3 v12) 4 v14) 5 v16) 6 v18) 0 v32) := F33s
        have N33 := Fr.snoc X33 N19 G_b4
        have K33 : Keep h0 h33 [] := K19.wr W33 (Or.inr sz_b4)
        refine ownGo (T' := T33) (f' := (mkF m 231 #[iv p0, iv p1, iv p2, .val (.long q3), .second, iv v1, iv v2, iv cp, iv (2 : Int32), rv b4, iv (0 : Int32)] [])) (st33) ?_
        refine ow_aload (q := 233) X33 hx (hb hby at_231) rfl rfl rfl ?_
        refine ow_iload (q := 235) X33 hx (hb hby at_233) rfl rfl ?_
        refine ow_iconst (q := 236) X33 hx (1 : Int32) (hb hby at_235) rfl rfl ?_
        refine ow_iadd (q := 237) X33 hx (1 : Int32) (hb hby at_236) rfl (by decide) ?_
        refine ow_sipush (q := 240) X33 hx (128 : Int32) (hb hby at_237) rfl rfl ?_
        refine ow_iload (q := 242) X33 hx (hb hby at_240) rfl rfl ?_
        refine ow_bipush (q := 244) X33 hx (63 : Int32) (hb hby at_242) rfl rfl ?_
        refine ow_iand (q := 245) X33 hx _ (hb hby at_244) rfl rfl ?_
        refine ow_ior (q := 246) X33 hx _ (hb hby at_245) rfl rfl ?_
        refine ow_i2b (q := 247) X33 hx _ (hb hby at_246) rfl rfl ?_
        generalize hv_v34 : (((128 : Int32) ||| (cp &&& (63 : Int32))).toInt8.toInt32) = v34
        obtain ⟨T35, h35, X35, e35, W35, F35s, st35⟩ := ownBastore F33r X33 hx hZ e33 (j := (1 : Int32)) (by unfold ownIn; decide) (g := (mkF m 247 #[iv p0, iv p1, iv p2, .val (.long q3), .second, iv v1, iv v2, iv cp, iv (2 : Int32), rv b4, iv (0 : Int32)] [(.int v34), (.int (1 : Int32)), (.ref b4)])) rfl rfl (hb hby at_247)
        rw [own_narb hv_v34] at F35s
        have F35r : ownAI Z h35 b4 .byte 7 (ownUpd (ownUpd (ownUpd (ownUpd (ownUpd (ownUpd (ownUpd (ownUpd (ownUpd (fun _ => (0 : Int32)) 0 v6) 1 v8) 2 v10) 3 v12) 4 v14) 5 v16) 6 v18) 0 v32) 1 v34) := F35s
        have N35 := Fr.snoc X35 N33 G_b4
        have K35 : Keep h0 h35 [] := K33.wr W35 (Or.inr sz_b4)
        refine ownGo (T' := T35) (f' := (mkF m 248 #[iv p0, iv p1, iv p2, .val (.long q3), .second, iv v1, iv v2, iv cp, iv (2 : Int32), rv b4, iv (0 : Int32)] [])) (st35) ?_
        refine ow_goto (q := 384) X35 hx (hb hby at_248) (by decide) (by decide) ?_
        refine ow_aload (q := 386) X35 hx (hb hby at_384) rfl rfl rfl ?_
        refine ow_iload (q := 388) X35 hx (hb hby at_386) rfl rfl ?_
        refine ow_iload (q := 390) X35 hx (hb hby at_388) rfl rfl ?_
        obtain ⟨_, _, ⟨T36, L36, k36, n36⟩, -, X36, ⟨Lc36, hQ36, l36, y36, z36⟩, st36⟩ := Jvm.LawKit.callS X35 hx (y := (⟨"com/example/descend/descend/XmlChars", "decode", "([BII)I"⟩ : MethodName)) hown (mvT hZ (hw _ (List.mem_of_getElem? (i := 4) rfl))) (mvT hZ (hw _ (List.mem_of_getElem? (i := 5) rfl))) (mvT hZ (hw _ (List.mem_of_getElem? (i := 6) rfl))) (mvT hZ (hw _ (List.mem_of_getElem? (i := 7) rfl))) (by decide) (backOf (W := 0) (rm_dec_2_0 l Z a0 hw [] b4 (ownUpd (ownUpd (ownUpd (ownUpd (ownUpd (ownUpd (ownUpd (ownUpd (ownUpd (fun _ => (0 : Int32)) 0 v6) 1 v8) 2 v10) 3 v12) 4 v14) 5 v16) 6 v18) 0 v32) 1 v34) h35 n0 (Nat.le_trans Z0 K35.1) F35r) hZ (hw _ (List.mem_of_getElem? (i := 7) rfl)) (hw _ (List.mem_of_getElem? (i := 6) rfl)) (by decide) (by decide)) (g := (mkF m 390 #[iv p0, iv p1, iv p2, .val (.long q3), .second, iv v1, iv v2, iv cp, iv (2 : Int32), rv b4, iv (0 : Int32)] [(.int (2 : Int32)), (.int (0 : Int32)), (.ref b4)])) rfl (by rw [hml]; rfl) (argsL := [(.ref b4), (.int (0 : Int32)), (.int (2 : Int32))]) (rest := []) (lenOf own_pd0 rfl) rfl (by show 2 * 0 + _ ≤ _; exact Nat.le_of_eq rfl) (hb hby at_390) (fun _ _ => ⟨rfl, e35, (by decide : 1 + 0 ≤ _), (by decide : 7 + 0 ≤ _)⟩)
        dsimp only [Pt.U, Pt.locs, Pt.cells, Pt.slots] at X36 l36 y36 z36 st36 hQ36
        subst l36 y36 z36
        obtain ⟨rfl, N36q, e36⟩ := hQ36
        have N36 := Fr.app N35 N36q
        refine ownGo (T' := T36) (f' := (mkF m 393 #[iv p0, iv p1, iv p2, .val (.long q3), .second, iv v1, iv v2, iv cp, iv (2 : Int32), rv b4, iv (0 : Int32)] [(.int (own_dec2 v32 v34))])) (st36) ?_
        refine ow_iload (q := 395) X36 hx (hb hby at_393) rfl rfl ?_
        refine ow_icmpNo (q := 398) X36 hx (hb hby at_395) rfl (Jvm.Free.XT.ii_ne_f (own_rt2 (own_R2 hR) hv_v32 hv_v34)) ?_
        refine ow_iconst (q := 399) X36 hx (1 : Int32) (hb hby at_398) rfl rfl ?_
        refine ow_goto (q := 403) X36 hx (hb hby at_399) (by decide) (by decide) ?_
        refine ownRetN X36 hx (r := (1 : Int32)) (Or.inl rfl) Bd.returns (hb hby at_403) hlk (by decide) (by decide) (by decide) ?_
        exact ⟨rfl, N36⟩
      · subst hs27
        refine ow_iload (q := 195) X19 hx (hb hby at_193) rfl rfl ?_
        refine ow_iconst (q := 196) X19 hx (1 : Int32) (hb hby at_195) rfl rfl ?_
        refine ow_icmpYes (q := 210) X19 hx (hb hby at_196) (Jvm.Free.XT.ii_ne_t (by decide)) (by decide) (by decide) ?_
        refine ow_iload (q := 212) X19 hx (hb hby at_210) rfl rfl ?_
        refine ow_iconst (q := 213) X19 hx (2 : Int32) (hb hby at_212) rfl rfl ?_
        refine ow_icmpYes (q := 251) X19 hx (hb hby at_213) (Jvm.Free.XT.ii_ne_t (by decide)) (by decide) (by decide) ?_
        refine ow_iload (q := 253) X19 hx (hb hby at_251) rfl rfl ?_
        refine ow_iconst (q := 254) X19 hx (3 : Int32) (hb hby at_253) rfl rfl ?_
        refine ow_icmpNo (q := 257) X19 hx (hb hby at_254) rfl (Jvm.Free.XT.ii_ne_f (by decide)) ?_
        refine ow_aload (q := 259) X19 hx (hb hby at_257) rfl rfl rfl ?_
        refine ow_iload (q := 261) X19 hx (hb hby at_259) rfl rfl ?_
        refine ow_sipush (q := 264) X19 hx (224 : Int32) (hb hby at_261) rfl rfl ?_
        refine ow_iload (q := 266) X19 hx (hb hby at_264) rfl rfl ?_
        refine ow_bipush (q := 268) X19 hx (12 : Int32) (hb hby at_266) rfl rfl ?_
        refine ow_ishr (q := 269) X19 hx _ (hb hby at_268) rfl rfl ?_
        refine ow_ior (q := 270) X19 hx _ (hb hby at_269) rfl rfl ?_
        refine ow_i2b (q := 271) X19 hx _ (hb hby at_270) rfl rfl ?_
        generalize hv_v37 : (((224 : Int32) ||| (cp >>> ((12 : Int32) &&& 31))).toInt8.toInt32) = v37
        obtain ⟨T38, h38, X38, e38, W38, F38s, st38⟩ := ownBastore F19r X19 hx hZ e19 (j := (0 : Int32)) (by unfold ownIn; decide) (g := (mkF m 271 #[iv p0, iv p1, iv p2, .val (.long q3), .second, iv v1, iv v2, iv cp, iv (3 : Int32), rv b4, iv (0 : Int32)] [(.int v37), (.int (0 : Int32)), (.ref b4)])) rfl rfl (hb hby at_271)
        rw [own_narb hv_v37] at F38s
        have F38r : ownAI Z h38 b4 .byte 7 (ownUpd (ownUpd (ownUpd (ownUpd (ownUpd (ownUpd (ownUpd (ownUpd (fun _ => (0 : Int32)) 0 v6) 1 v8) 2 v10) 3 v12) 4 v14) 5 v16) 6 v18) 0 v37) := F38s
        have N38 := Fr.snoc X38 N19 G_b4
        have K38 : Keep h0 h38 [] := K19.wr W38 (Or.inr sz_b4)
        refine ownGo (T' := T38) (f' := (mkF m 272 #[iv p0, iv p1, iv p2, .val (.long q3), .second, iv v1, iv v2, iv cp, iv (3 : Int32), rv b4, iv (0 : Int32)] [])) (st38) ?_
        refine ow_aload (q := 274) X38 hx (hb hby at_272) rfl rfl rfl ?_
        refine ow_iload (q := 276) X38 hx (hb hby at_274) rfl rfl ?_
        refine ow_iconst (q := 277) X38 hx (1 : Int32) (hb hby at_276) rfl rfl ?_
        refine ow_iadd (q := 278) X38 hx (1 : Int32) (hb hby at_277) rfl (by decide) ?_
        refine ow_sipush (q := 281) X38 hx (128 : Int32) (hb hby at_278) rfl rfl ?_
        refine ow_iload (q := 283) X38 hx (hb hby at_281) rfl rfl ?_
        refine ow_bipush (q := 285) X38 hx (6 : Int32) (hb hby at_283) rfl rfl ?_
        refine ow_ishr (q := 286) X38 hx _ (hb hby at_285) rfl rfl ?_
        refine ow_bipush (q := 288) X38 hx (63 : Int32) (hb hby at_286) rfl rfl ?_
        refine ow_iand (q := 289) X38 hx _ (hb hby at_288) rfl rfl ?_
        refine ow_ior (q := 290) X38 hx _ (hb hby at_289) rfl rfl ?_
        refine ow_i2b (q := 291) X38 hx _ (hb hby at_290) rfl rfl ?_
        generalize hv_v39 : (((128 : Int32) ||| ((cp >>> ((6 : Int32) &&& 31)) &&& (63 : Int32))).toInt8.toInt32) = v39
        obtain ⟨T40, h40, X40, e40, W40, F40s, st40⟩ := ownBastore F38r X38 hx hZ e38 (j := (1 : Int32)) (by unfold ownIn; decide) (g := (mkF m 291 #[iv p0, iv p1, iv p2, .val (.long q3), .second, iv v1, iv v2, iv cp, iv (3 : Int32), rv b4, iv (0 : Int32)] [(.int v39), (.int (1 : Int32)), (.ref b4)])) rfl rfl (hb hby at_291)
        rw [own_narb hv_v39] at F40s
        have F40r : ownAI Z h40 b4 .byte 7 (ownUpd (ownUpd (ownUpd (ownUpd (ownUpd (ownUpd (ownUpd (ownUpd (ownUpd (fun _ => (0 : Int32)) 0 v6) 1 v8) 2 v10) 3 v12) 4 v14) 5 v16) 6 v18) 0 v37) 1 v39) := F40s
        have N40 := Fr.snoc X40 N38 G_b4
        have K40 : Keep h0 h40 [] := K38.wr W40 (Or.inr sz_b4)
        refine ownGo (T' := T40) (f' := (mkF m 292 #[iv p0, iv p1, iv p2, .val (.long q3), .second, iv v1, iv v2, iv cp, iv (3 : Int32), rv b4, iv (0 : Int32)] [])) (st40) ?_
        refine ow_aload (q := 294) X40 hx (hb hby at_292) rfl rfl rfl ?_
        refine ow_iload (q := 296) X40 hx (hb hby at_294) rfl rfl ?_
        refine ow_iconst (q := 297) X40 hx (2 : Int32) (hb hby at_296) rfl rfl ?_
        refine ow_iadd (q := 298) X40 hx (2 : Int32) (hb hby at_297) rfl (by decide) ?_
        refine ow_sipush (q := 301) X40 hx (128 : Int32) (hb hby at_298) rfl rfl ?_
        refine ow_iload (q := 303) X40 hx (hb hby at_301) rfl rfl ?_
        refine ow_bipush (q := 305) X40 hx (63 : Int32) (hb hby at_303) rfl rfl ?_
        refine ow_iand (q := 306) X40 hx _ (hb hby at_305) rfl rfl ?_
        refine ow_ior (q := 307) X40 hx _ (hb hby at_306) rfl rfl ?_
        refine ow_i2b (q := 308) X40 hx _ (hb hby at_307) rfl rfl ?_
        generalize hv_v41 : (((128 : Int32) ||| (cp &&& (63 : Int32))).toInt8.toInt32) = v41
        obtain ⟨T42, h42, X42, e42, W42, F42s, st42⟩ := ownBastore F40r X40 hx hZ e40 (j := (2 : Int32)) (by unfold ownIn; decide) (g := (mkF m 308 #[iv p0, iv p1, iv p2, .val (.long q3), .second, iv v1, iv v2, iv cp, iv (3 : Int32), rv b4, iv (0 : Int32)] [(.int v41), (.int (2 : Int32)), (.ref b4)])) rfl rfl (hb hby at_308)
        rw [own_narb hv_v41] at F42s
        have F42r : ownAI Z h42 b4 .byte 7 (ownUpd (ownUpd (ownUpd (ownUpd (ownUpd (ownUpd (ownUpd (ownUpd (ownUpd (ownUpd (fun _ => (0 : Int32)) 0 v6) 1 v8) 2 v10) 3 v12) 4 v14) 5 v16) 6 v18) 0 v37) 1 v39) 2 v41) := F42s
        have N42 := Fr.snoc X42 N40 G_b4
        have K42 : Keep h0 h42 [] := K40.wr W42 (Or.inr sz_b4)
        refine ownGo (T' := T42) (f' := (mkF m 309 #[iv p0, iv p1, iv p2, .val (.long q3), .second, iv v1, iv v2, iv cp, iv (3 : Int32), rv b4, iv (0 : Int32)] [])) (st42) ?_
        refine ow_goto (q := 384) X42 hx (hb hby at_309) (by decide) (by decide) ?_
        refine ow_aload (q := 386) X42 hx (hb hby at_384) rfl rfl rfl ?_
        refine ow_iload (q := 388) X42 hx (hb hby at_386) rfl rfl ?_
        refine ow_iload (q := 390) X42 hx (hb hby at_388) rfl rfl ?_
        obtain ⟨_, _, ⟨T43, L43, k43, n43⟩, -, X43, ⟨Lc43, hQ43, l43, y43, z43⟩, st43⟩ := Jvm.LawKit.callS X42 hx (y := (⟨"com/example/descend/descend/XmlChars", "decode", "([BII)I"⟩ : MethodName)) hown (mvT hZ (hw _ (List.mem_of_getElem? (i := 4) rfl))) (mvT hZ (hw _ (List.mem_of_getElem? (i := 5) rfl))) (mvT hZ (hw _ (List.mem_of_getElem? (i := 6) rfl))) (mvT hZ (hw _ (List.mem_of_getElem? (i := 7) rfl))) (by decide) (backOf (W := 0) (rm_dec_3_0 l Z a0 hw [] b4 (ownUpd (ownUpd (ownUpd (ownUpd (ownUpd (ownUpd (ownUpd (ownUpd (ownUpd (ownUpd (fun _ => (0 : Int32)) 0 v6) 1 v8) 2 v10) 3 v12) 4 v14) 5 v16) 6 v18) 0 v37) 1 v39) 2 v41) h42 n0 (Nat.le_trans Z0 K42.1) F42r) hZ (hw _ (List.mem_of_getElem? (i := 7) rfl)) (hw _ (List.mem_of_getElem? (i := 6) rfl)) (by decide) (by decide)) (g := (mkF m 390 #[iv p0, iv p1, iv p2, .val (.long q3), .second, iv v1, iv v2, iv cp, iv (3 : Int32), rv b4, iv (0 : Int32)] [(.int (3 : Int32)), (.int (0 : Int32)), (.ref b4)])) rfl (by rw [hml]; rfl) (argsL := [(.ref b4), (.int (0 : Int32)), (.int (3 : Int32))]) (rest := []) (lenOf own_pd0 rfl) rfl (by show 2 * 0 + _ ≤ _; exact Nat.le_of_eq rfl) (hb hby at_390) (fun _ _ => ⟨rfl, e42, (by decide : 1 + 0 ≤ _), (by decide : 7 + 0 ≤ _)⟩)
        dsimp only [Pt.U, Pt.locs, Pt.cells, Pt.slots] at X43 l43 y43 z43 st43 hQ43
        subst l43 y43 z43
        obtain ⟨rfl, N43q, e43⟩ := hQ43
        have N43 := Fr.app N42 N43q
        refine ownGo (T' := T43) (f' := (mkF m 393 #[iv p0, iv p1, iv p2, .val (.long q3), .second, iv v1, iv v2, iv cp, iv (3 : Int32), rv b4, iv (0 : Int32)] [(.int (own_dec3 v37 v39 v41))])) (st43) ?_
        refine ow_iload (q := 395) X43 hx (hb hby at_393) rfl rfl ?_
        refine ow_icmpNo (q := 398) X43 hx (hb hby at_395) rfl (Jvm.Free.XT.ii_ne_f (own_rt3 (own_R3 hR) hv_v37 hv_v39 hv_v41)) ?_
        refine ow_iconst (q := 399) X43 hx (1 : Int32) (hb hby at_398) rfl rfl ?_
        refine ow_goto (q := 403) X43 hx (hb hby at_399) (by decide) (by decide) ?_
        refine ownRetN X43 hx (r := (1 : Int32)) (Or.inl rfl) Bd.returns (hb hby at_403) hlk (by decide) (by decide) (by decide) ?_
        exact ⟨rfl, N43⟩
      · subst hs28
        refine ow_iload (q := 195) X19 hx (hb hby at_193) rfl rfl ?_
        refine ow_iconst (q := 196) X19 hx (1 : Int32) (hb hby at_195) rfl rfl ?_
        refine ow_icmpYes (q := 210) X19 hx (hb hby at_196) (Jvm.Free.XT.ii_ne_t (by decide)) (by decide) (by decide) ?_
        refine ow_iload (q := 212) X19 hx (hb hby at_210) rfl rfl ?_
        refine ow_iconst (q := 213) X19 hx (2 : Int32) (hb hby at_212) rfl rfl ?_
        refine ow_icmpYes (q := 251) X19 hx (hb hby at_213) (Jvm.Free.XT.ii_ne_t (by decide)) (by decide) (by decide) ?_
        refine ow_iload (q := 253) X19 hx (hb hby at_251) rfl rfl ?_
        refine ow_iconst (q := 254) X19 hx (3 : Int32) (hb hby at_253) rfl rfl ?_
        refine ow_icmpYes (q := 312) X19 hx (hb hby at_254) (Jvm.Free.XT.ii_ne_t (by decide)) (by decide) (by decide) ?_
        refine ow_aload (q := 314) X19 hx (hb hby at_312) rfl rfl rfl ?_
        refine ow_iload (q := 316) X19 hx (hb hby at_314) rfl rfl ?_
        refine ow_sipush (q := 319) X19 hx (240 : Int32) (hb hby at_316) rfl rfl ?_
        refine ow_iload (q := 321) X19 hx (hb hby at_319) rfl rfl ?_
        refine ow_bipush (q := 323) X19 hx (18 : Int32) (hb hby at_321) rfl rfl ?_
        refine ow_ishr (q := 324) X19 hx _ (hb hby at_323) rfl rfl ?_
        refine ow_ior (q := 325) X19 hx _ (hb hby at_324) rfl rfl ?_
        refine ow_i2b (q := 326) X19 hx _ (hb hby at_325) rfl rfl ?_
        generalize hv_v44 : (((240 : Int32) ||| (cp >>> ((18 : Int32) &&& 31))).toInt8.toInt32) = v44
        obtain ⟨T45, h45, X45, e45, W45, F45s, st45⟩ := ownBastore F19r X19 hx hZ e19 (j := (0 : Int32)) (by unfold ownIn; decide) (g := (mkF m 326 #[iv p0, iv p1, iv p2, .val (.long q3), .second, iv v1, iv v2, iv cp, iv (4 : Int32), rv b4, iv (0 : Int32)] [(.int v44), (.int (0 : Int32)), (.ref b4)])) rfl rfl (hb hby at_326)
        rw [own_narb hv_v44] at F45s
        have F45r : ownAI Z h45 b4 .byte 7 (ownUpd (ownUpd (ownUpd (ownUpd (ownUpd (ownUpd (ownUpd (ownUpd (fun _ => (0 : Int32)) 0 v6) 1 v8) 2 v10) 3 v12) 4 v14) 5 v16) 6 v18) 0 v44) := F45s
        have N45 := Fr.snoc X45 N19 G_b4
        have K45 : Keep h0 h45 [] := K19.wr W45 (Or.inr sz_b4)
        refine ownGo (T' := T45) (f' := (mkF m 327 #[iv p0, iv p1, iv p2, .val (.long q3), .second, iv v1, iv v2, iv cp, iv (4 : Int32), rv b4, iv (0 : Int32)] [])) (st45) ?_
        refine ow_aload (q := 329) X45 hx (hb hby at_327) rfl rfl rfl ?_
        refine ow_iload (q := 331) X45 hx (hb hby at_329) rfl rfl ?_
        refine ow_iconst (q := 332) X45 hx (1 : Int32) (hb hby at_331) rfl rfl ?_
        refine ow_iadd (q := 333) X45 hx (1 : Int32) (hb hby at_332) rfl (by decide) ?_
        refine ow_sipush (q := 336) X45 hx (128 : Int32) (hb hby at_333) rfl rfl ?_
        refine ow_iload (q := 338) X45 hx (hb hby at_336) rfl rfl ?_
        refine ow_bipush (q := 340) X45 hx (12 : Int32) (hb hby at_338) rfl rfl ?_
        refine ow_ishr (q := 341) X45 hx _ (hb hby at_340) rfl rfl ?_
        refine ow_bipush (q := 343) X45 hx (63 : Int32) (hb hby at_341) rfl rfl ?_
        refine ow_iand (q := 344) X45 hx _ (hb hby at_343) rfl rfl ?_
        refine ow_ior (q := 345) X45 hx _ (hb hby at_344) rfl rfl ?_
        refine ow_i2b (q := 346) X45 hx _ (hb hby at_345) rfl rfl ?_
        generalize hv_v46 : (((128 : Int32) ||| ((cp >>> ((12 : Int32) &&& 31)) &&& (63 : Int32))).toInt8.toInt32) = v46
        obtain ⟨T47, h47, X47, e47, W47, F47s, st47⟩ := ownBastore F45r X45 hx hZ e45 (j := (1 : Int32)) (by unfold ownIn; decide) (g := (mkF m 346 #[iv p0, iv p1, iv p2, .val (.long q3), .second, iv v1, iv v2, iv cp, iv (4 : Int32), rv b4, iv (0 : Int32)] [(.int v46), (.int (1 : Int32)), (.ref b4)])) rfl rfl (hb hby at_346)
        rw [own_narb hv_v46] at F47s
        have F47r : ownAI Z h47 b4 .byte 7 (ownUpd (ownUpd (ownUpd (ownUpd (ownUpd (ownUpd (ownUpd (ownUpd (ownUpd (fun _ => (0 : Int32)) 0 v6) 1 v8) 2 v10) 3 v12) 4 v14) 5 v16) 6 v18) 0 v44) 1 v46) := F47s
        have N47 := Fr.snoc X47 N45 G_b4
        have K47 : Keep h0 h47 [] := K45.wr W47 (Or.inr sz_b4)
        refine ownGo (T' := T47) (f' := (mkF m 347 #[iv p0, iv p1, iv p2, .val (.long q3), .second, iv v1, iv v2, iv cp, iv (4 : Int32), rv b4, iv (0 : Int32)] [])) (st47) ?_
        refine ow_aload (q := 349) X47 hx (hb hby at_347) rfl rfl rfl ?_
        refine ow_iload (q := 351) X47 hx (hb hby at_349) rfl rfl ?_
        refine ow_iconst (q := 352) X47 hx (2 : Int32) (hb hby at_351) rfl rfl ?_
        refine ow_iadd (q := 353) X47 hx (2 : Int32) (hb hby at_352) rfl (by decide) ?_
        refine ow_sipush (q := 356) X47 hx (128 : Int32) (hb hby at_353) rfl rfl ?_
        refine ow_iload (q := 358) X47 hx (hb hby at_356) rfl rfl ?_
        refine ow_bipush (q := 360) X47 hx (6 : Int32) (hb hby at_358) rfl rfl ?_
        refine ow_ishr (q := 361) X47 hx _ (hb hby at_360) rfl rfl ?_
        refine ow_bipush (q := 363) X47 hx (63 : Int32) (hb hby at_361) rfl rfl ?_
        refine ow_iand (q := 364) X47 hx _ (hb hby at_363) rfl rfl ?_
        refine ow_ior (q := 365) X47 hx _ (hb hby at_364) rfl rfl ?_
        refine ow_i2b (q := 366) X47 hx _ (hb hby at_365) rfl rfl ?_
        generalize hv_v48 : (((128 : Int32) ||| ((cp >>> ((6 : Int32) &&& 31)) &&& (63 : Int32))).toInt8.toInt32) = v48
        obtain ⟨T49, h49, X49, e49, W49, F49s, st49⟩ := ownBastore F47r X47 hx hZ e47 (j := (2 : Int32)) (by unfold ownIn; decide) (g := (mkF m 366 #[iv p0, iv p1, iv p2, .val (.long q3), .second, iv v1, iv v2, iv cp, iv (4 : Int32), rv b4, iv (0 : Int32)] [(.int v48), (.int (2 : Int32)), (.ref b4)])) rfl rfl (hb hby at_366)
        rw [own_narb hv_v48] at F49s
        have F49r : ownAI Z h49 b4 .byte 7 (ownUpd (ownUpd (ownUpd (ownUpd (ownUpd (ownUpd (ownUpd (ownUpd (ownUpd (ownUpd (fun _ => (0 : Int32)) 0 v6) 1 v8) 2 v10) 3 v12) 4 v14) 5 v16) 6 v18) 0 v44) 1 v46) 2 v48) := F49s
        have N49 := Fr.snoc X49 N47 G_b4
        have K49 : Keep h0 h49 [] := K47.wr W49 (Or.inr sz_b4)
        refine ownGo (T' := T49) (f' := (mkF m 367 #[iv p0, iv p1, iv p2, .val (.long q3), .second, iv v1, iv v2, iv cp, iv (4 : Int32), rv b4, iv (0 : Int32)] [])) (st49) ?_
        refine ow_aload (q := 369) X49 hx (hb hby at_367) rfl rfl rfl ?_
        refine ow_iload (q := 371) X49 hx (hb hby at_369) rfl rfl ?_
        refine ow_iconst (q := 372) X49 hx (3 : Int32) (hb hby at_371) rfl rfl ?_
        refine ow_iadd (q := 373) X49 hx (3 : Int32) (hb hby at_372) rfl (by decide) ?_
        refine ow_sipush (q := 376) X49 hx (128 : Int32) (hb hby at_373) rfl rfl ?_
        refine ow_iload (q := 378) X49 hx (hb hby at_376) rfl rfl ?_
        refine ow_bipush (q := 380) X49 hx (63 : Int32) (hb hby at_378) rfl rfl ?_
        refine ow_iand (q := 381) X49 hx _ (hb hby at_380) rfl rfl ?_
        refine ow_ior (q := 382) X49 hx _ (hb hby at_381) rfl rfl ?_
        refine ow_i2b (q := 383) X49 hx _ (hb hby at_382) rfl rfl ?_
        generalize hv_v50 : (((128 : Int32) ||| (cp &&& (63 : Int32))).toInt8.toInt32) = v50
        obtain ⟨T51, h51, X51, e51, W51, F51s, st51⟩ := ownBastore F49r X49 hx hZ e49 (j := (3 : Int32)) (by unfold ownIn; decide) (g := (mkF m 383 #[iv p0, iv p1, iv p2, .val (.long q3), .second, iv v1, iv v2, iv cp, iv (4 : Int32), rv b4, iv (0 : Int32)] [(.int v50), (.int (3 : Int32)), (.ref b4)])) rfl rfl (hb hby at_383)
        rw [own_narb hv_v50] at F51s
        have F51r : ownAI Z h51 b4 .byte 7 (ownUpd (ownUpd (ownUpd (ownUpd (ownUpd (ownUpd (ownUpd (ownUpd (ownUpd (ownUpd (ownUpd (fun _ => (0 : Int32)) 0 v6) 1 v8) 2 v10) 3 v12) 4 v14) 5 v16) 6 v18) 0 v44) 1 v46) 2 v48) 3 v50) := F51s
        have N51 := Fr.snoc X51 N49 G_b4
        have K51 : Keep h0 h51 [] := K49.wr W51 (Or.inr sz_b4)
        refine ownGo (T' := T51) (f' := (mkF m 384 #[iv p0, iv p1, iv p2, .val (.long q3), .second, iv v1, iv v2, iv cp, iv (4 : Int32), rv b4, iv (0 : Int32)] [])) (st51) ?_
        refine ow_aload (q := 386) X51 hx (hb hby at_384) rfl rfl rfl ?_
        refine ow_iload (q := 388) X51 hx (hb hby at_386) rfl rfl ?_
        refine ow_iload (q := 390) X51 hx (hb hby at_388) rfl rfl ?_
        obtain ⟨_, _, ⟨T52, L52, k52, n52⟩, -, X52, ⟨Lc52, hQ52, l52, y52, z52⟩, st52⟩ := Jvm.LawKit.callS X51 hx (y := (⟨"com/example/descend/descend/XmlChars", "decode", "([BII)I"⟩ : MethodName)) hown (mvT hZ (hw _ (List.mem_of_getElem? (i := 4) rfl))) (mvT hZ (hw _ (List.mem_of_getElem? (i := 5) rfl))) (mvT hZ (hw _ (List.mem_of_getElem? (i := 6) rfl))) (mvT hZ (hw _ (List.mem_of_getElem? (i := 7) rfl))) (by decide) (backOf (W := 0) (rm_dec_4_0 l Z a0 hw [] b4 (ownUpd (ownUpd (ownUpd (ownUpd (ownUpd (ownUpd (ownUpd (ownUpd (ownUpd (ownUpd (ownUpd (fun _ => (0 : Int32)) 0 v6) 1 v8) 2 v10) 3 v12) 4 v14) 5 v16) 6 v18) 0 v44) 1 v46) 2 v48) 3 v50) h51 n0 (Nat.le_trans Z0 K51.1) F51r) hZ (hw _ (List.mem_of_getElem? (i := 7) rfl)) (hw _ (List.mem_of_getElem? (i := 6) rfl)) (by decide) (by decide)) (g := (mkF m 390 #[iv p0, iv p1, iv p2, .val (.long q3), .second, iv v1, iv v2, iv cp, iv (4 : Int32), rv b4, iv (0 : Int32)] [(.int (4 : Int32)), (.int (0 : Int32)), (.ref b4)])) rfl (by rw [hml]; rfl) (argsL := [(.ref b4), (.int (0 : Int32)), (.int (4 : Int32))]) (rest := []) (lenOf own_pd0 rfl) rfl (by show 2 * 0 + _ ≤ _; exact Nat.le_of_eq rfl) (hb hby at_390) (fun _ _ => ⟨rfl, e51, (by decide : 1 + 0 ≤ _), (by decide : 7 + 0 ≤ _)⟩)
        dsimp only [Pt.U, Pt.locs, Pt.cells, Pt.slots] at X52 l52 y52 z52 st52 hQ52
        subst l52 y52 z52
        obtain ⟨rfl, N52q, e52⟩ := hQ52
        have N52 := Fr.app N51 N52q
        refine ownGo (T' := T52) (f' := (mkF m 393 #[iv p0, iv p1, iv p2, .val (.long q3), .second, iv v1, iv v2, iv cp, iv (4 : Int32), rv b4, iv (0 : Int32)] [(.int (own_dec4 v44 v46 v48 v50))])) (st52) ?_
        refine ow_iload (q := 395) X52 hx (hb hby at_393) rfl rfl ?_
        refine ow_icmpNo (q := 398) X52 hx (hb hby at_395) rfl (Jvm.Free.XT.ii_ne_f (own_rt4 (own_R4 hR) hv_v44 hv_v46 hv_v48 hv_v50)) ?_
        refine ow_iconst (q := 399) X52 hx (1 : Int32) (hb hby at_398) rfl rfl ?_
        refine ow_goto (q := 403) X52 hx (hb hby at_399) (by decide) (by decide) ?_
        refine ownRetN X52 hx (r := (1 : Int32)) (Or.inl rfl) Bd.returns (hb hby at_403) hlk (by decide) (by decide) (by decide) ?_
        exact ⟨rfl, N52⟩
    · subst hs22
      rcases own_lens hR with hs53 | hs54 | hs55 | hs56
      · subst hs53
        refine ow_iload (q := 195) X19 hx (hb hby at_193) rfl rfl ?_
        refine ow_iconst (q := 196) X19 hx (1 : Int32) (hb hby at_195) rfl rfl ?_
        refine ow_icmpNo (q := 199) X19 hx (hb hby at_196) rfl (Jvm.Free.XT.ii_ne_f (by decide)) ?_
        refine ow_aload (q := 201) X19 hx (hb hby at_199) rfl rfl rfl ?_
        refine ow_iload (q := 203) X19 hx (hb hby at_201) rfl rfl ?_
        refine ow_iload (q := 205) X19 hx (hb hby at_203) rfl rfl ?_
        refine ow_i2b (q := 206) X19 hx _ (hb hby at_205) rfl rfl ?_
        generalize hv_v57 : (cp.toInt8.toInt32) = v57
        obtain ⟨T58, h58, X58, e58, W58, F58s, st58⟩ := ownBastore F19r X19 hx hZ e19 (j := (1 : Int32)) (by unfold ownIn; decide) (g := (mkF m 206 #[iv p0, iv p1, iv p2, .val (.long q3), .second, iv v1, iv v2, iv cp, iv (1 : Int32), rv b4, iv (1 : Int32)] [(.int v57), (.int (1 : Int32)), (.ref b4)])) rfl rfl (hb hby at_206)
        rw [own_narb hv_v57] at F58s
        have F58r : ownAI Z h58 b4 .byte 7 (ownUpd (ownUpd (ownUpd (ownUpd (ownUpd (ownUpd (ownUpd (ownUpd (fun _ => (0 : Int32)) 0 v6) 1 v8) 2 v10) 3 v12) 4 v14) 5 v16) 6 v18) 1 v57) := F58s
        have N58 := Fr.snoc X58 N19 G_b4
        have K58 : Keep h0 h58 [] := K19.wr W58 (Or.inr sz_b4)
        refine ownGo (T' := T58) (f' := (mkF m 207 #[iv p0, iv p1, iv p2, .val (.long q3), .second, iv v1, iv v2, iv cp, iv (1 : Int32), rv b4, iv (1 : Int32)] [])) (st58) ?_
        refine ow_goto (q := 384) X58 hx (hb hby at_207) (by decide) (by decide) ?_
        refine ow_aload (q := 386) X58 hx (hb hby at_384) rfl rfl rfl ?_
        refine ow_iload (q := 388) X58 hx (hb hby at_386) rfl rfl ?_
        refine ow_iload (q := 390) X58 hx (hb hby at_388) rfl rfl ?_
        obtain ⟨_, _, ⟨T59, L59, k59, n59⟩, -, X59, ⟨Lc59, hQ59, l59, y59, z59⟩, st59⟩ := Jvm.LawKit.callS X58 hx (y := (⟨"com/example/descend/descend/XmlChars", "decode", "([BII)I"⟩ : MethodName)) hown (mvT hZ (hw _ (List.mem_of_getElem? (i := 4) rfl))) (mvT hZ (hw _ (List.mem_of_getElem? (i := 5) rfl))) (mvT hZ (hw _ (List.mem_of_getElem? (i := 6) rfl))) (mvT hZ (hw _ (List.mem_of_getElem? (i := 7) rfl))) (by decide) (backOf (W := 0) (rm_dec_1_1 l Z a0 hw [] b4 (ownUpd (ownUpd (ownUpd (ownUpd (ownUpd (ownUpd (ownUpd (ownUpd (fun _ => (0 : Int32)) 0 v6) 1 v8) 2 v10) 3 v12) 4 v14) 5 v16) 6 v18) 1 v57) h58 n0 (Nat.le_trans Z0 K58.1) F58r) hZ (hw _ (List.mem_of_getElem? (i := 7) rfl)) (hw _ (List.mem_of_getElem? (i := 6) rfl)) (by decide) (by decide)) (g := (mkF m 390 #[iv p0, iv p1, iv p2, .val (.long q3), .second, iv v1, iv v2, iv cp, iv (1 : Int32), rv b4, iv (1 : Int32)] [(.int (1 : Int32)), (.int (1 : Int32)), (.ref b4)])) rfl (by rw [hml]; rfl) (argsL := [(.ref b4), (.int (1 : Int32)), (.int (1 : Int32))]) (rest := []) (lenOf own_pd0 rfl) rfl (by show 2 * 0 + _ ≤ _; exact Nat.le_of_eq rfl) (hb hby at_390) (fun _ _ => ⟨rfl, e58, (by decide : 1 + 0 ≤ _), (by decide : 7 + 0 ≤ _)⟩)
        dsimp only [Pt.U, Pt.locs, Pt.cells, Pt.slots] at X59 l59 y59 z59 st59 hQ59
        subst l59 y59 z59
        obtain ⟨rfl, N59q, e59⟩ := hQ59
        have N59 := Fr.app N58 N59q
        refine ownGo (T' := T59) (f' := (mkF m 393 #[iv p0, iv p1, iv p2, .val (.long q3), .second, iv v1, iv v2, iv cp, iv (1 : Int32), rv b4, iv (1 : Int32)] [(.int (own_dec1 v57))])) (st59) ?_
        refine ow_iload (q := 395) X59 hx (hb hby at_393) rfl rfl ?_
        refine ow_icmpNo (q := 398) X59 hx (hb hby at_395) rfl (Jvm.Free.XT.ii_ne_f (own_rt1 (own_R1 hR) hv_v57)) ?_
        refine ow_iconst (q := 399) X59 hx (1 : Int32) (hb hby at_398) rfl rfl ?_
        refine ow_goto (q := 403) X59 hx (hb hby at_399) (by decide) (by decide) ?_
        refine ownRetN X59 hx (r := (1 : Int32)) (Or.inl rfl) Bd.returns (hb hby at_403) hlk (by decide) (by decide) (by decide) ?_
        exact ⟨rfl, N59⟩
      · subst hs54
        refine ow_iload (q := 195) X19 hx (hb hby at_193) rfl rfl ?_
        refine ow_iconst (q := 196) X19 hx (1 : Int32) (hb hby at_195) rfl rfl ?_
        refine ow_icmpYes (q := 210) X19 hx (hb hby at_196) (Jvm.Free.XT.ii_ne_t (by decide)) (by decide) (by decide) ?_
        refine ow_iload (q := 212) X19 hx (hb hby at_210) rfl rfl ?_
        refine ow_iconst (q := 213) X19 hx (2 : Int32) (hb hby at_212) rfl rfl ?_
        refine ow_icmpNo (q := 216) X19 hx (hb hby at_213) rfl (Jvm.Free.XT.ii_ne_f (by decide)) ?_
        refine ow_aload (q := 218) X19 hx (hb hby at_216) rfl rfl rfl ?_
        refine ow_iload (q := 220) X19 hx (hb hby at_218) rfl rfl ?_
        refine ow_sipush (q := 223) X19 hx (192 : Int32) (hb hby at_220) rfl rfl ?_
        refine ow_iload (q := 225) X19 hx (hb hby at_223) rfl rfl ?_
        refine ow_bipush (q := 227) X19 hx (6 : Int32) (hb hby at_225) rfl rfl ?_
        refine ow_ishr (q := 228) X19 hx _ (hb hby at_227) rfl rfl ?_
        refine ow_ior (q := 229) X19 hx _ (hb hby at_228) rfl rfl ?_
        refine ow_i2b (q := 230) X19 hx _ (hb hby at_229) rfl rfl ?_
        generalize hv_v60 : (((192 : Int32) ||| (cp >>> ((6 : Int32) &&& 31))).toInt8.toInt32) = v60
        obtain ⟨T61, h61, X61, e61, W61, F61s, st61⟩ := ownBastore F19r X19 hx hZ e19 (j := (1 : Int32)) (by unfold ownIn; decide) (g := (mkF m 230 #[iv p0, iv p1, iv p2, .val (.long q3), .second, iv v1, iv v2, iv cp, iv (2 : Int32), rv b4, iv (1 : Int32)] [(.int v60), (.int (1 : Int32)), (.ref b4)])) rfl rfl (hb hby at_230)
        rw [own_narb hv_v60] at F61s
        have F61r : ownAI Z h61 b4 .byte 7 (ownUpd (ownUpd (ownUpd (ownUpd (ownUpd (ownUpd (ownUpd (ownUpd (fun _ => (0 : Int32)) 0 v6) 1 v8) 2 v10) 3 v12) 4 v14) 5 v16) 6 v18) 1 v60) := F61s
        have N61 := Fr.snoc X61 N19 G_b4
        have K61 : Keep h0 h61 [] := K19.wr W61 (Or.inr sz_b4)
        refine ownGo (T' := T61) (f' := (mkF m 231 #[iv p0, iv p1, iv p2, .val (.long q3), .second, iv v1, iv v2, iv cp, iv (2 : Int32), rv b4, iv (1 : Int32)] [])) (st61) ?_
        refine ow_aload (q := 233) X61 hx (hb hby at_231) rfl rfl rfl ?_
        refine ow_iload (q := 235) X61 hx (hb hby at_233) rfl rfl ?_
        refine ow_iconst (q := 236) X61 hx (1 : Int32) (hb hby at_235) rfl rfl ?_
        refine ow_iadd (q := 237) X61 hx (2 : Int32) (hb hby at_236) rfl (by decide) ?_
        refine ow_sipush (q := 240) X61 hx (128 : Int32) (hb hby at_237) rfl rfl ?_
        refine ow_iload (q := 242) X61 hx (hb hby at_240) rfl rfl ?_
        refine ow_bipush (q := 244) X61 hx (63 : Int32) (hb hby at_242) rfl rfl ?_
        refine ow_iand (q := 245) X61 hx _ (hb hby at_244) rfl rfl ?_
        refine ow_ior (q := 246) X61 hx _ (hb hby at_245) rfl rfl ?_
        refine ow_i2b (q := 247) X61 hx _ (hb hby at_246) rfl rfl ?_
        generalize hv_v62 : (((128 : Int32) ||| (cp &&& (63 : Int32))).toInt8.toInt32) = v62
        obtain ⟨T63, h63, X63, e63, W63, F63s, st63⟩ := ownBastore F61r X61 hx hZ e61 (j := (2 : Int32)) (by unfold ownIn; decide) (g := (mkF m 247 #[iv p0, iv p1, iv p2, .val (.long q3), .second, iv v1, iv v2, iv cp, iv (2 : Int32), rv b4, iv (1 : Int32)] [(.int v62), (.int (2 : Int32)), (.ref b4)])) rfl rfl (hb hby at_247)
        rw [own_narb hv_v62] at F63s
        have F63r : ownAI Z h63 b4 .byte 7 (ownUpd (ownUpd (ownUpd (ownUpd (ownUpd (ownUpd (ownUpd (ownUpd (ownUpd (fun _ => (0 : Int32)) 0 v6) 1 v8) 2 v10) 3 v12) 4 v14) 5 v16) 6 v18) 1 v60) 2 v62) := F63s
        have N63 := Fr.snoc X63 N61 G_b4
        have K63 : Keep h0 h63 [] := K61.wr W63 (Or.inr sz_b4)
        refine ownGo (T' := T63) (f' := (mkF m 248 #[iv p0, iv p1, iv p2, .val (.long q3), .second, iv v1, iv v2, iv cp, iv (2 : Int32), rv b4, iv (1 : Int32)] [])) (st63) ?_
        refine ow_goto (q := 384) X63 hx (hb hby at_248) (by decide) (by decide) ?_
        refine ow_aload (q := 386) X63 hx (hb hby at_384) rfl rfl rfl ?_
        refine ow_iload (q := 388) X63 hx (hb hby at_386) rfl rfl ?_
        refine ow_iload (q := 390) X63 hx (hb hby at_388) rfl rfl ?_
        obtain ⟨_, _, ⟨T64, L64, k64, n64⟩, -, X64, ⟨Lc64, hQ64, l64, y64, z64⟩, st64⟩ := Jvm.LawKit.callS X63 hx (y := (⟨"com/example/descend/descend/XmlChars", "decode", "([BII)I"⟩ : MethodName)) hown (mvT hZ (hw _ (List.mem_of_getElem? (i := 4) rfl))) (mvT hZ (hw _ (List.mem_of_getElem? (i := 5) rfl))) (mvT hZ (hw _ (List.mem_of_getElem? (i := 6) rfl))) (mvT hZ (hw _ (List.mem_of_getElem? (i := 7) rfl))) (by decide) (backOf (W := 0) (rm_dec_2_1 l Z a0 hw [] b4 (ownUpd (ownUpd (ownUpd (ownUpd (ownUpd (ownUpd (ownUpd (ownUpd (ownUpd (fun _ => (0 : Int32)) 0 v6) 1 v8) 2 v10) 3 v12) 4 v14) 5 v16) 6 v18) 1 v60) 2 v62) h63 n0 (Nat.le_trans Z0 K63.1) F63r) hZ (hw _ (List.mem_of_getElem? (i := 7) rfl)) (hw _ (List.mem_of_getElem? (i := 6) rfl)) (by decide) (by decide)) (g := (mkF m 390 #[iv p0, iv p1, iv p2, .val (.long q3), .second, iv v1, iv v2, iv cp, iv (2 : Int32), rv b4, iv (1 : Int32)] [(.int (2 : Int32)), (.int (1 : Int32)), (.ref b4)])) rfl (by rw [hml]; rfl) (argsL := [(.ref b4), (.int (1 : Int32)), (.int (2 : Int32))]) (rest := []) (lenOf own_pd0 rfl) rfl (by show 2 * 0 + _ ≤ _; exact Nat.le_of_eq rfl) (hb hby at_390) (fun _ _ => ⟨rfl, e63, (by decide : 1 + 0 ≤ _), (by decide : 7 + 0 ≤ _)⟩)
        dsimp only [Pt.U, Pt.locs, Pt.cells, Pt.slots] at X64 l64 y64 z64 st64 hQ64
        subst l64 y64 z64
        obtain ⟨rfl, N64q, e64⟩ := hQ64
        have N64 := Fr.app N63 N64q
        refine ownGo (T' := T64) (f' := (mkF m 393 #[iv p0, iv p1, iv p2, .val (.long q3), .second, iv v1, iv v2, iv cp, iv (2 : Int32), rv b4, iv (1 : Int32)] [(.int (own_dec2 v60 v62))])) (st64) ?_
        refine ow_iload (q := 395) X64 hx (hb hby at_393) rfl rfl ?_
        refine ow_icmpNo (q := 398) X64 hx (hb hby at_395) rfl (Jvm.Free.XT.ii_ne_f (own_rt2 (own_R2 hR) hv_v60 hv_v62)) ?_
        refine ow_iconst (q := 399) X64 hx (1 : Int32) (hb hby at_398) rfl rfl ?_
        refine ow_goto (q := 403) X64 hx (hb hby at_399) (by decide) (by decide) ?_
        refine ownRetN X64 hx (r := (1 : Int32)) (Or.inl rfl) Bd.returns (hb hby at_403) hlk (by decide) (by decide) (by decide) ?_
        exact ⟨rfl, N64⟩
      · subst hs55
        refine ow_iload (q := 195) X19 hx (hb hby at_193) rfl rfl ?_
        refine ow_iconst (q := 196) X19 hx (1 : Int32) (hb hby at_195) rfl rfl ?_
        refine ow_icmpYes (q := 210) X19 hx (hb hby at_196) (Jvm.Free.XT.ii_ne_t (by decide)) (by decide) (by decide) ?_
        refine ow_iload (q := 212) X19 hx (hb hby at_210) rfl rfl ?_
        refine ow_iconst (q := 213) X19 hx (2 : Int32) (hb hby at_212) rfl rfl ?_
        refine ow_icmpYes (q := 251) X19 hx (hb hby at_213) (Jvm.Free.XT.ii_ne_t (by decide)) (by decide) (by decide) ?_
        refine ow_iload (q := 253) X19 hx (hb hby at_251) rfl rfl ?_
        refine ow_iconst (q := 254) X19 hx (3 : Int32) (hb hby at_253) rfl rfl ?_
        refine ow_icmpNo (q := 257) X19 hx (hb hby at_254) rfl (Jvm.Free.XT.ii_ne_f (by decide)) ?_
        refine ow_aload (q := 259) X19 hx (hb hby at_257) rfl rfl rfl ?_
        refine ow_iload (q := 261) X19 hx (hb hby at_259) rfl rfl ?_
        refine ow_sipush (q := 264) X19 hx (224 : Int32) (hb hby at_261) rfl rfl ?_
        refine ow_iload (q := 266) X19 hx (hb hby at_264) rfl rfl ?_
        refine ow_bipush (q := 268) X19 hx (12 : Int32) (hb hby at_266) rfl rfl ?_
        refine ow_ishr (q := 269) X19 hx _ (hb hby at_268) rfl rfl ?_
        refine ow_ior (q := 270) X19 hx _ (hb hby at_269) rfl rfl ?_
        refine ow_i2b (q := 271) X19 hx _ (hb hby at_270) rfl rfl ?_
        generalize hv_v65 : (((224 : Int32) ||| (cp >>> ((12 : Int32) &&& 31))).toInt8.toInt32) = v65
        obtain ⟨T66, h66, X66, e66, W66, F66s, st66⟩ := ownBastore F19r X19 hx hZ e19 (j := (1 : Int32)) (by unfold ownIn; decide) (g := (mkF m 271 #[iv p0, iv p1, iv p2, .val (.long q3), .second, iv v1, iv v2, iv cp, iv (3 : Int32), rv b4, iv (1 : Int32)] [(.int v65), (.int (1 : Int32)), (.ref b4)])) rfl rfl (hb hby at_271)
        rw [own_narb hv_v65] at F66s
        have F66r : ownAI Z h66 b4 .byte 7 (ownUpd (ownUpd (ownUpd (ownUpd (ownUpd (ownUpd (ownUpd (ownUpd (fun _ => (0 : Int32)) 0 v6) 1 v8) 2 v10) 3 v12) 4 v14) 5 v16) 6 v18) 1 v65) := F66s
        have N66 := Fr.snoc X66 N19 G_b4
        have K66 : Keep h0 h66 [] := K19.wr W66 (Or.inr sz_b4)
        refine ownGo (T' := T66) (f' := (mkF m 272 #[iv p0, iv p1, iv p2, .val (.long q3), .second, iv v1, iv v2, iv cp, iv (3 : Int32), rv b4, iv (1 : Int32)] [])) (st66) ?_
        refine ow_aload (q := 274) X66 hx (hb hby at_272) rfl rfl rfl ?_
        refine ow_iload (q := 276) X66 hx (hb hby at_274) rfl rfl ?_
        refine ow_iconst (q := 277) X66 hx (1 : Int32) (hb hby at_276) rfl rfl ?_
        refine ow_iadd (q := 278) X66 hx (2 : Int32) (hb hby at_277) rfl (by decide) ?_
        refine ow_sipush (q := 281) X66 hx (128 : Int32) (hb hby at_278) rfl rfl ?_
        refine ow_iload (q := 283) X66 hx (hb hby at_281) rfl rfl ?_
        refine ow_bipush (q := 285) X66 hx (6 : Int32) (hb hby at_283) rfl rfl ?_
        refine ow_ishr (q := 286) X66 hx _ (hb hby at_285) rfl rfl ?_
        refine ow_bipush (q := 288) X66 hx (63 : Int32) (hb hby at_286) rfl rfl ?_
        refine ow_iand (q := 289) X66 hx _ (hb hby at_288) rfl rfl ?_
        refine ow_ior (q := 290) X66 hx _ (hb hby at_289) rfl rfl ?_
        refine ow_i2b (q := 291) X66 hx _ (hb hby at_290) rfl rfl ?_
        generalize hv_v67 : (((128 : Int32) ||| ((cp >>> ((6 : Int32) &&& 31)) &&& (63 : Int32))).toInt8.toInt32) = v67
        obtain ⟨T68, h68, X68, e68, W68, F68s, st68⟩ := ownBastore F66r X66 hx hZ e66 (j := (2 : Int32)) (by unfold ownIn; decide) (g := (mkF m 291 #[iv p0, iv p1, iv p2, .val (.long q3), .second, iv v1, iv v2, iv cp, iv (3 : Int32), rv b4, iv (1 : Int32)] [(.int v67), (.int (2 : Int32)), (.ref b4)])) rfl rfl (hb hby at_291)
        rw [own_narb hv_v67] at F68s
        have F68r : ownAI Z h68 b4 .byte 7 (ownUpd (ownUpd (ownUpd (ownUpd (ownUpd (ownUpd (ownUpd (ownUpd (ownUpd (fun _ => (0 : Int32)) 0 v6) 1 v8) 2 v10) 3 v12) 4 v14) 5 v16) 6 v18) 1 v65) 2 v67) := F68s
        have N68 := Fr.snoc X68 N66 G_b4
        have K68 : Keep h0 h68 [] := K66.wr W68 (Or.inr sz_b4)
        refine ownGo (T' := T68) (f' := (mkF m 292 #[iv p0, iv p1, iv p2, .val (.long q3), .second, iv v1, iv v2, iv cp, iv (3 : Int32), rv b4, iv (1 : Int32)] [])) (st68) ?_
        refine ow_aload (q := 294) X68 hx (hb hby at_292) rfl rfl rfl ?_
        refine ow_iload (q := 296) X68 hx (hb hby at_294) rfl rfl ?_
        refine ow_iconst (q := 297) X68 hx (2 : Int32) (hb hby at_296) rfl rfl ?_
        refine ow_iadd (q := 298) X68 hx (3 : Int32) (hb hby at_297) rfl (by decide) ?_
        refine ow_sipush (q := 301) X68 hx (128 : Int32) (hb hby at_298) rfl rfl ?_
        refine ow_iload (q := 303) X68 hx (hb hby at_301) rfl rfl ?_
        refine ow_bipush (q := 305) X68 hx (63 : Int32) (hb hby at_303) rfl rfl ?_
        refine ow_iand (q := 306) X68 hx _ (hb hby at_305) rfl rfl ?_
        refine ow_ior (q := 307) X68 hx _ (hb hby at_306) rfl rfl ?_
        refine ow_i2b (q := 308) X68 hx _ (hb hby at_307) rfl rfl ?_
        generalize hv_v69 : (((128 : Int32) ||| (cp &&& (63 : Int32))).toInt8.toInt32) = v69
        obtain ⟨T70, h70, X70, e70, W70, F70s, st70⟩ := ownBastore F68r X68 hx hZ e68 (j := (3 : Int32)) (by unfold ownIn; decide) (g := (mkF m 308 #[iv p0, iv p1, iv p2, .val (.long q3), .second, iv v1, iv v2, iv cp, iv (3 : Int32), rv b4, iv (1 : Int32)] [(.int v69), (.int (3 : Int32)), (.ref b4)])) rfl rfl (hb hby at_308)
        rw [own_narb hv_v69] at F70s
        have F70r : ownAI Z h70 b4 .byte 7 (ownUpd (ownUpd (ownUpd (ownUpd (ownUpd (ownUpd (ownUpd (ownUpd (ownUpd (ownUpd (fun _ => (0 : Int32)) 0 v6) 1 v8) 2 v10) 3 v12) 4 v14) 5 v16) 6 v18) 1 v65) 2 v67) 3 v69) := F70s
        have N70 := Fr.snoc X70 N68 G_b4
        have K70 : Keep h0 h70 [] := K68.wr W70 (Or.inr sz_b4)
        refine ownGo (T' := T70) (f' := (mkF m 309 #[iv p0, iv p1, iv p2, .val (.long q3), .second, iv v1, iv v2, iv cp, iv (3 : Int32), rv b4, iv (1 : Int32)] [])) (st70) ?_
        refine ow_goto (q := 384) X70 hx (hb hby at_309) (by decide) (by decide) ?_
        refine ow_aload (q := 386) X70 hx (hb hby at_384) rfl rfl rfl ?_
        refine ow_iload (q := 388) X70 hx (hb hby at_386) rfl rfl ?_
        refine ow_iload (q := 390) X70 hx (hb hby at_388) rfl rfl ?_
        obtain ⟨_, _, ⟨T71, L71, k71, n71⟩, -, X71, ⟨Lc71, hQ71, l71, y71, z71⟩, st71⟩ := Jvm.LawKit.callS X70 hx (y := (⟨"com/example/descend/descend/XmlChars", "decode", "([BII)I"⟩ : MethodName)) hown (mvT hZ (hw _ (List.mem_of_getElem? (i := 4) rfl))) (mvT hZ (hw _ (List.mem_of_getElem? (i := 5) rfl))) (mvT hZ (hw _ (List.mem_of_getElem? (i := 6) rfl))) (mvT hZ (hw _ (List.mem_of_getElem? (i := 7) rfl))) (by decide) (backOf (W := 0) (rm_dec_3_1 l Z a0 hw [] b4 (ownUpd (ownUpd (ownUpd (ownUpd (ownUpd (ownUpd (ownUpd (ownUpd (ownUpd (ownUpd (fun _ => (0 : Int32)) 0 v6) 1 v8) 2 v10) 3 v12) 4 v14) 5 v16) 6 v18) 1 v65) 2 v67) 3 v69) h70 n0 (Nat.le_trans Z0 K70.1) F70r) hZ (hw _ (List.mem_of_getElem? (i := 7) rfl)) (hw _ (List.mem_of_getElem? (i := 6) rfl)) (by decide) (by decide)) (g := (mkF m 390 #[iv p0, iv p1, iv p2, .val (.long q3), .second, iv v1, iv v2, iv cp, iv (3 : Int32), rv b4, iv (1 : Int32)] [(.int (3 : Int32)), (.int (1 : Int32)), (.ref b4)])) rfl (by rw [hml]; rfl) (argsL := [(.ref b4), (.int (1 : Int32)), (.int (3 : Int32))]) (rest := []) (lenOf own_pd0 rfl) rfl (by show 2 * 0 + _ ≤ _; exact Nat.le_of_eq rfl) (hb hby at_390) (fun _ _ => ⟨rfl, e70, (by decide : 1 + 0 ≤ _), (by decide : 7 + 0 ≤ _)⟩)
        dsimp only [Pt.U, Pt.locs, Pt.cells, Pt.slots] at X71 l71 y71 z71 st71 hQ71
        subst l71 y71 z71
        obtain ⟨rfl, N71q, e71⟩ := hQ71
        have N71 := Fr.app N70 N71q
        refine ownGo (T' := T71) (f' := (mkF m 393 #[iv p0, iv p1, iv p2, .val (.long q3), .second, iv v1, iv v2, iv cp, iv (3 : Int32), rv b4, iv (1 : Int32)] [(.int (own_dec3 v65 v67 v69))])) (st71) ?_
        refine ow_iload (q := 395) X71 hx (hb hby at_393) rfl rfl ?_
        refine ow_icmpNo (q := 398) X71 hx (hb hby at_395) rfl (Jvm.Free.XT.ii_ne_f (own_rt3 (own_R3 hR) hv_v65 hv_v67 hv_v69)) ?_
        refine ow_iconst (q := 399) X71 hx (1 : Int32) (hb hby at_398) rfl rfl ?_
        refine ow_goto (q := 403) X71 hx (hb hby at_399) (by decide) (by decide) ?_
        refine ownRetN X71 hx (r := (1 : Int32)) (Or.inl rfl) Bd.returns (hb hby at_403) hlk (by decide) (by decide) (by decide) ?_
        exact ⟨rfl, N71⟩
      · subst hs56
        refine ow_iload (q := 195) X19 hx (hb hby at_193) rfl rfl ?_
        refine ow_iconst (q := 196) X19 hx (1 : Int32) (hb hby at_195) rfl rfl ?_
        refine ow_icmpYes (q := 210) X19 hx (hb hby at_196) (Jvm.Free.XT.ii_ne_t (by decide)) (by decide) (by decide) ?_
        refine ow_iload (q := 212) X19 hx (hb hby at_210) rfl rfl ?_
        refine ow_iconst (q := 213) X19 hx (2 : Int32) (hb hby at_212) rfl rfl ?_
        refine ow_icmpYes (q := 251) X19 hx (hb hby at_213) (Jvm.Free.XT.ii_ne_t (by decide)) (by decide) (by decide) ?_
        refine ow_iload (q := 253) X19 hx (hb hby at_251) rfl rfl ?_
        refine ow_iconst (q := 254) X19 hx (3 : Int32) (hb hby at_253) rfl rfl ?_
        refine ow_icmpYes (q := 312) X19 hx (hb hby at_254) (Jvm.Free.XT.ii_ne_t (by decide)) (by decide) (by decide) ?_
        refine ow_aload (q := 314) X19 hx (hb hby at_312) rfl rfl rfl ?_
        refine ow_iload (q := 316) X19 hx (hb hby at_314) rfl rfl ?_
        refine ow_sipush (q := 319) X19 hx (240 : Int32) (hb hby at_316) rfl rfl ?_
        refine ow_iload (q := 321) X19 hx (hb hby at_319) rfl rfl ?_
        refine ow_bipush (q := 323) X19 hx (18 : Int32) (hb hby at_321) rfl rfl ?_
        refine ow_ishr (q := 324) X19 hx _ (hb hby at_323) rfl rfl ?_
        refine ow_ior (q := 325) X19 hx _ (hb hby at_324) rfl rfl ?_
        refine ow_i2b (q := 326) X19 hx _ (hb hby at_325) rfl rfl ?_
        generalize hv_v72 : (((240 : Int32) ||| (cp >>> ((18 : Int32) &&& 31))).toInt8.toInt32) = v72
        obtain ⟨T73, h73, X73, e73, W73, F73s, st73⟩ := ownBastore F19r X19 hx hZ e19 (j := (1 : Int32)) (by unfold ownIn; decide) (g := (mkF m 326 #[iv p0, iv p1, iv p2, .val (.long q3), .second, iv v1, iv v2, iv cp, iv (4 : Int32), rv b4, iv (1 : Int32)] [(.int v72), (.int (1 : Int32)), (.ref b4)])) rfl rfl (hb hby at_326)
        rw [own_narb hv_v72] at F73s
        have F73r : ownAI Z h73 b4 .byte 7 (ownUpd (ownUpd (ownUpd (ownUpd (ownUpd (ownUpd (ownUpd (ownUpd (fun _ => (0 : Int32)) 0 v6) 1 v8) 2 v10) 3 v12) 4 v14) 5 v16) 6 v18) 1 v72) := F73s
        have N73 := Fr.snoc X73 N19 G_b4
        have K73 : Keep h0 h73 [] := K19.wr W73 (Or.inr sz_b4)
        refine ownGo (T' := T73) (f' := (mkF m 327 #[iv p0, iv p1, iv p2, .val (.long q3), .second, iv v1, iv v2, iv cp, iv (4 : Int32), rv b4, iv (1 : Int32)] [])) (st73) ?_
        refine ow_aload (q := 329) X73 hx (hb hby at_327) rfl rfl rfl ?_
        refine ow_iload (q := 331) X73 hx (hb hby at_329) rfl rfl ?_
        refine ow_iconst (q := 332) X73 hx (1 : Int32) (hb hby at_331) rfl rfl ?_
        refine ow_iadd (q := 333) X73 hx (2 : Int32) (hb hby at_332) rfl (by decide) ?_
        refine ow_sipush (q := 336) X73 hx (128 : Int32) (hb hby at_333) rfl rfl ?_
        refine ow_iload (q := 338) X73 hx (hb hby at_336) rfl rfl ?_
        refine ow_bipush (q := 340) X73 hx (12 : Int32) (hb hby at_338) rfl rfl ?_
        refine ow_ishr (q := 341) X73 hx _ (hb hby at_340) rfl rfl ?_
        refine ow_bipush (q := 343) X73 hx (63 : Int32) (hb hby at_341) rfl rfl ?_
        refine ow_iand (q := 344) X73 hx _ (hb hby at_343) rfl rfl ?_
        refine ow_ior (q := 345) X73 hx _ (hb hby at_344) rfl rfl ?_
        refine ow_i2b (q := 346) X73 hx _ (hb hby at_345) rfl rfl ?_
        generalize hv_v74 : (((128 : Int32) ||| ((cp >>> ((12 : Int32) &&& 31)) &&& (63 : Int32))).toInt8.toInt32) = v74
        obtain ⟨T75, h75, X75, e75, W75, F75s, st75⟩ := ownBastore F73r X73 hx hZ e73 (j := (2 : Int32)) (by unfold ownIn; decide) (g := (mkF m 346 #[iv p0, iv p1, iv p2, .val (.long q3), .second, iv v1, iv v2, iv cp, iv (4 : Int32), rv b4, iv (1 : Int32)] [(.int v74), (.int (2 : Int32)), (.ref b4)])) rfl rfl (hb hby at_346)
        rw [own_narb hv_v74] at F75s
        have F75r : ownAI Z h75 b4 .byte 7 (ownUpd (ownUpd (ownUpd (ownUpd (ownUpd (ownUpd (ownUpd (ownUpd (ownUpd (fun _ => (0 : Int32)) 0 v6) 1 v8) 2 v10) 3 v12) 4 v14) 5 v16) 6 v18) 1 v72) 2 v74) := F75s
        have N75 := Fr.snoc X75 N73 G_b4
        have K75 : Keep h0 h75 [] := K73.wr W75 (Or.inr sz_b4)
        refine ownGo (T' := T75) (f' := (mkF m 347 #[iv p0, iv p1, iv p2, .val (.long q3), .second, iv v1, iv v2, iv cp, iv (4 : Int32), rv b4, iv (1 : Int32)] [])) (st75) ?_
        refine ow_aload (q := 349) X75 hx (hb hby at_347) rfl rfl rfl ?_
        refine ow_iload (q := 351) X75 hx (hb hby at_349) rfl rfl ?_
        refine ow_iconst (q := 352) X75 hx (2 : Int32) (hb hby at_351) rfl rfl ?_
        refine ow_iadd (q := 353) X75 hx (3 : Int32) (hb hby at_352) rfl (by decide) ?_
        refine ow_sipush (q := 356) X75 hx (128 : Int32) (hb hby at_353) rfl rfl ?_
        refine ow_iload (q := 358) X75 hx (hb hby at_356) rfl rfl ?_
        refine ow_bipush (q := 360) X75 hx (6 : Int32) (hb hby at_358) rfl rfl ?_
        refine ow_ishr (q := 361) X75 hx _ (hb hby at_360) rfl rfl ?_
        refine ow_bipush (q := 363) X75 hx (63 : Int32) (hb hby at_361) rfl rfl ?_
        refine ow_iand (q := 364) X75 hx _ (hb hby at_363) rfl rfl ?_
        refine ow_ior (q := 365) X75 hx _ (hb hby at_364) rfl rfl ?_
        refine ow_i2b (q := 366) X75 hx _ (hb hby at_365) rfl rfl ?_
        generalize hv_v76 : (((128 : Int32) ||| ((cp >>> ((6 : Int32) &&& 31)) &&& (63 : Int32))).toInt8.toInt32) = v76
        obtain ⟨T77, h77, X77, e77, W77, F77s, st77⟩ := ownBastore F75r X75 hx hZ e75 (j := (3 : Int32)) (by unfold ownIn; decide) (g := (mkF m 366 #[iv p0, iv p1, iv p2, .val (.long q3), .second, iv v1, iv v2, iv cp, iv (4 : Int32), rv b4, iv (1 : Int32)] [(.int v76), (.int (3 : Int32)), (.ref b4)])) rfl rfl (hb hby at_366)
        rw [own_narb hv_v76] at F77s
        have F77r : ownAI Z h77 b4 .byte 7 (ownUpd (ownUpd (ownUpd (ownUpd (ownUpd (ownUpd (ownUpd (ownUpd (ownUpd (ownUpd (fun _ => (0 : Int32)) 0 v6) 1 v8) 2 v10) 3 v12) 4 v14) 5 v16) 6 v18) 1 v72) 2 v74) 3 v76) := F77s
        have N77 := Fr.snoc X77 N75 G_b4
        have K77 : Keep h0 h77 [] := K75.wr W77 (Or.inr sz_b4)
        refine ownGo (T' := T77) (f' := (mkF m 367 #[iv p0, iv p1, iv p2, .val (.long q3), .second, iv v1, iv v2, iv cp, iv (4 : Int32), rv b4, iv (1 : Int32)] [])) (st77) ?_
        refine ow_aload (q := 369) X77 hx (hb hby at_367) rfl rfl rfl ?_
        refine ow_iload (q := 371) X77 hx (hb hby at_369) rfl rfl ?_
        refine ow_iconst (q := 372) X77 hx (3 : Int32) (hb hby at_371) rfl rfl ?_
        refine ow_iadd (q := 373) X77 hx (4 : Int32) (hb hby at_372) rfl (by decide) ?_
        refine ow_sipush (q := 376) X77 hx (128 : Int32) (hb hby at_373) rfl rfl ?_
        refine ow_iload (q := 378) X77 hx (hb hby at_376) rfl rfl ?_
        refine ow_bipush (q := 380) X77 hx (63 : Int32) (hb hby at_378) rfl rfl ?_
        refine ow_iand (q := 381) X77 hx _ (hb hby at_380) rfl rfl ?_
        refine ow_ior (q := 382) X77 hx _ (hb hby at_381) rfl rfl ?_
        refine ow_i2b (q := 383) X77 hx _ (hb hby at_382) rfl rfl ?_
        generalize hv_v78 : (((128 : Int32) ||| (cp &&& (63 : Int32))).toInt8.toInt32) = v78
        obtain ⟨T79, h79, X79, e79, W79, F79s, st79⟩ := ownBastore F77r X77 hx hZ e77 (j := (4 : Int32)) (by unfold ownIn; decide) (g := (mkF m 383 #[iv p0, iv p1, iv p2, .val (.long q3), .second, iv v1, iv v2, iv cp, iv (4 : Int32), rv b4, iv (1 : Int32)] [(.int v78), (.int (4 : Int32)), (.ref b4)])) rfl rfl (hb hby at_383)
        rw [own_narb hv_v78] at F79s
        have F79r : ownAI Z h79 b4 .byte 7 (ownUpd (ownUpd (ownUpd (ownUpd (ownUpd (ownUpd (ownUpd (ownUpd (ownUpd (ownUpd (ownUpd (fun _ => (0 : Int32)) 0 v6) 1 v8) 2 v10) 3 v12) 4 v14) 5 v16) 6 v18) 1 v72) 2 v74) 3 v76) 4 v78) := F79s
        have N79 := Fr.snoc X79 N77 G_b4
        have K79 : Keep h0 h79 [] := K77.wr W79 (Or.inr sz_b4)
        refine ownGo (T' := T79) (f' := (mkF m 384 #[iv p0, iv p1, iv p2, .val (.long q3), .second, iv v1, iv v2, iv cp, iv (4 : Int32), rv b4, iv (1 : Int32)] [])) (st79) ?_
        refine ow_aload (q := 386) X79 hx (hb hby at_384) rfl rfl rfl ?_
        refine ow_iload (q := 388) X79 hx (hb hby at_386) rfl rfl ?_
        refine ow_iload (q := 390) X79 hx (hb hby at_388) rfl rfl ?_
        obtain ⟨_, _, ⟨T80, L80, k80, n80⟩, -, X80, ⟨Lc80, hQ80, l80, y80, z80⟩, st80⟩ := Jvm.LawKit.callS X79 hx (y := (⟨"com/example/descend/descend/XmlChars", "decode", "([BII)I"⟩ : MethodName)) hown (mvT hZ (hw _ (List.mem_of_getElem? (i := 4) rfl))) (mvT hZ (hw _ (List.mem_of_getElem? (i := 5) rfl))) (mvT hZ (hw _ (List.mem_of_getElem? (i := 6) rfl))) (mvT hZ (hw _ (List.mem_of_getElem? (i := 7) rfl))) (by decide) (backOf (W := 0) (rm_dec_4_1 l Z a0 hw [] b4 (ownUpd (ownUpd (ownUpd (ownUpd (ownUpd (ownUpd (ownUpd (ownUpd (ownUpd (ownUpd (ownUpd (fun _ => (0 : Int32)) 0 v6) 1 v8) 2 v10) 3 v12) 4 v14) 5 v16) 6 v18) 1 v72) 2 v74) 3 v76) 4 v78) h79 n0 (Nat.le_trans Z0 K79.1) F79r) hZ (hw _ (List.mem_of_getElem? (i := 7) rfl)) (hw _ (List.mem_of_getElem? (i := 6) rfl)) (by decide) (by decide)) (g := (mkF m 390 #[iv p0, iv p1, iv p2, .val (.long q3), .second, iv v1, iv v2, iv cp, iv (4 : Int32), rv b4, iv (1 : Int32)] [(.int (4 : Int32)), (.int (1 : Int32)), (.ref b4)])) rfl (by rw [hml]; rfl) (argsL := [(.ref b4), (.int (1 : Int32)), (.int (4 : Int32))]) (rest := []) (lenOf own_pd0 rfl) rfl (by show 2 * 0 + _ ≤ _; exact Nat.le_of_eq rfl) (hb hby at_390) (fun _ _ => ⟨rfl, e79, (by decide : 1 + 0 ≤ _), (by decide : 7 + 0 ≤ _)⟩)
        dsimp only [Pt.U, Pt.locs, Pt.cells, Pt.slots] at X80 l80 y80 z80 st80 hQ80
        subst l80 y80 z80
        obtain ⟨rfl, N80q, e80⟩ := hQ80
        have N80 := Fr.app N79 N80q
        refine ownGo (T' := T80) (f' := (mkF m 393 #[iv p0, iv p1, iv p2, .val (.long q3), .second, iv v1, iv v2, iv cp, iv (4 : Int32), rv b4, iv (1 : Int32)] [(.int (own_dec4 v72 v74 v76 v78))])) (st80) ?_
        refine ow_iload (q := 395) X80 hx (hb hby at_393) rfl rfl ?_
        refine ow_icmpNo (q := 398) X80 hx (hb hby at_395) rfl (Jvm.Free.XT.ii_ne_f (own_rt4 (own_R4 hR) hv_v72 hv_v74 hv_v76 hv_v78)) ?_
        refine ow_iconst (q := 399) X80 hx (1 : Int32) (hb hby at_398) rfl rfl ?_
        refine ow_goto (q := 403) X80 hx (hb hby at_399) (by decide) (by decide) ?_
        refine ownRetN X80 hx (r := (1 : Int32)) (Or.inl rfl) Bd.returns (hb hby at_403) hlk (by decide) (by decide) (by decide) ?_
        exact ⟨rfl, N80⟩
    · subst hs23
      rcases own_lens hR with hs81 | hs82 | hs83 | hs84
      · subst hs81
        refine ow_iload (q := 195) X19 hx (hb hby at_193) rfl rfl ?_
        refine ow_iconst (q := 196) X19 hx (1 : Int32) (hb hby at_195) rfl rfl ?_
        refine ow_icmpNo (q := 199) X19 hx (hb hby at_196) rfl (Jvm.Free.XT.ii_ne_f (by decide)) ?_
        refine ow_aload (q := 201) X19 hx (hb hby at_199) rfl rfl rfl ?_
        refine ow_iload (q := 203) X19 hx (hb hby at_201) rfl rfl ?_
        refine ow_iload (q := 205) X19 hx (hb hby at_203) rfl rfl ?_
        refine ow_i2b (q := 206) X19 hx _ (hb hby at_205) rfl rfl ?_
        generalize hv_v85 : (cp.toInt8.toInt32) = v85
        obtain ⟨T86, h86, X86, e86, W86, F86s, st86⟩ := ownBastore F19r X19 hx hZ e19 (j := (2 : Int32)) (by unfold ownIn; decide) (g := (mkF m 206 #[iv p0, iv p1, iv p2, .val (.long q3), .second, iv v1, iv v2, iv cp, iv (1 : Int32), rv b4, iv (2 : Int32)] [(.int v85), (.int (2 : Int32)), (.ref b4)])) rfl rfl (hb hby at_206)
        rw [own_narb hv_v85] at F86s
        have F86r : ownAI Z h86 b4 .byte 7 (ownUpd (ownUpd (ownUpd (ownUpd (ownUpd (ownUpd (ownUpd (ownUpd (fun _ => (0 : Int32)) 0 v6) 1 v8) 2 v10) 3 v12) 4 v14) 5 v16) 6 v18) 2 v85) := F86s
        have N86 := Fr.snoc X86 N19 G_b4
        have K86 : Keep h0 h86 [] := K19.wr W86 (Or.inr sz_b4)
        refine ownGo (T' := T86) (f' := (mkF m 207 #[iv p0, iv p1, iv p2, .val (.long q3), .second, iv v1, iv v2, iv cp, iv (1 : Int32), rv b4, iv (2 : Int32)] [])) (st86) ?_
        refine ow_goto (q := 384) X86 hx (hb hby at_207) (by decide) (by decide) ?_
        refine ow_aload (q := 386) X86 hx (hb hby at_384) rfl rfl rfl ?_
        refine ow_iload (q := 388) X86 hx (hb hby at_386) rfl rfl ?_
        refine ow_iload (q := 390) X86 hx (hb hby at_388) rfl rfl ?_
        obtain ⟨_, _, ⟨T87, L87, k87, n87⟩, -, X87, ⟨Lc87, hQ87, l87, y87, z87⟩, st87⟩ := Jvm.LawKit.callS X86 hx (y := (⟨"com/example/descend/descend/XmlChars", "decode", "([BII)I"⟩ : MethodName)) hown (mvT hZ (hw _ (List.mem_of_getElem? (i := 4) rfl))) (mvT hZ (hw _ (List.mem_of_getElem? (i := 5) rfl))) (mvT hZ (hw _ (List.mem_of_getElem? (i := 6) rfl))) (mvT hZ (hw _ (List.mem_of_getElem? (i := 7) rfl))) (by decide) (backOf (W := 0) (rm_dec_1_2 l Z a0 hw [] b4 (ownUpd (ownUpd (ownUpd (ownUpd (ownUpd (ownUpd (ownUpd (ownUpd (fun _ => (0 : Int32)) 0 v6) 1 v8) 2 v10) 3 v12) 4 v14) 5 v16) 6 v18) 2 v85) h86 n0 (Nat.le_trans Z0 K86.1) F86r) hZ (hw _ (List.mem_of_getElem? (i := 7) rfl)) (hw _ (List.mem_of_getElem? (i := 6) rfl)) (by decide) (by decide)) (g := (mkF m 390 #[iv p0, iv p1, iv p2, .val (.long q3), .second, iv v1, iv v2, iv cp, iv (1 : Int32), rv b4, iv (2 : Int32)] [(.int (1 : Int32)), (.int (2 : Int32)), (.ref b4)])) rfl (by rw [hml]; rfl) (argsL := [(.ref b4), (.int (2 : Int32)), (.int (1 : Int32))]) (rest := []) (lenOf own_pd0 rfl) rfl (by show 2 * 0 + _ ≤ _; exact Nat.le_of_eq rfl) (hb hby at_390) (fun _ _ => ⟨rfl, e86, (by decide : 1 + 0 ≤ _), (by decide : 7 + 0 ≤ _)⟩)
        dsimp only [Pt.U, Pt.locs, Pt.cells, Pt.slots] at X87 l87 y87 z87 st87 hQ87
        subst l87 y87 z87
        obtain ⟨rfl, N87q, e87⟩ := hQ87
        have N87 := Fr.app N86 N87q
        refine ownGo (T' := T87) (f' := (mkF m 393 #[iv p0, iv p1, iv p2, .val (.long q3), .second, iv v1, iv v2, iv cp, iv (1 : Int32), rv b4, iv (2 : Int32)] [(.int (own_dec1 v85))])) (st87) ?_
        refine ow_iload (q := 395) X87 hx (hb hby at_393) rfl rfl ?_
        refine ow_icmpNo (q := 398) X87 hx (hb hby at_395) rfl (Jvm.Free.XT.ii_ne_f (own_rt1 (own_R1 hR) hv_v85)) ?_
        refine ow_iconst (q := 399) X87 hx (1 : Int32) (hb hby at_398) rfl rfl ?_
        refine ow_goto (q := 403) X87 hx (hb hby at_399) (by decide) (by decide) ?_
        refine ownRetN X87 hx (r := (1 : Int32)) (Or.inl rfl) Bd.returns (hb hby at_403) hlk (by decide) (by decide) (by decide) ?_
        exact ⟨rfl, N87⟩
      · subst hs82
        refine ow_iload (q := 195) X19 hx (hb hby at_193) rfl rfl ?_
        refine ow_iconst (q := 196) X19 hx (1 : Int32) (hb hby at_195) rfl rfl ?_
        refine ow_icmpYes (q := 210) X19 hx (hb hby at_196) (Jvm.Free.XT.ii_ne_t (by decide)) (by decide) (by decide) ?_
        refine ow_iload (q := 212) X19 hx (hb hby at_210) rfl rfl ?_
        refine ow_iconst (q := 213) X19 hx (2 : Int32) (hb hby at_212) rfl rfl ?_
        refine ow_icmpNo (q := 216) X19 hx (hb hby at_213) rfl (Jvm.Free.XT.ii_ne_f (by decide)) ?_
        refine ow_aload (q := 218) X19 hx (hb hby at_216) rfl rfl rfl ?_
        refine ow_iload (q := 220) X19 hx (hb hby at_218) rfl rfl ?_
        refine ow_sipush (q := 223) X19 hx (192 : Int32) (hb hby at_220) rfl rfl ?_
        refine ow_iload (q := 225) X19 hx (hb hby at_223) rfl rfl ?_
        refine ow_bipush (q := 227) X19 hx (6 : Int32) (hb hby at_225) rfl rfl ?_
        refine ow_ishr (q := 228) X19 hx _ (hb hby at_227) rfl rfl ?_
        refine ow_ior (q := 229) X19 hx _ (hb hby at_228) rfl rfl ?_
        refine ow_i2b (q := 230) X19 hx _ (hb hby at_229) rfl rfl ?_
        generalize hv_v88 : (((192 : Int32) ||| (cp >>> ((6 : Int32) &&& 31))).toInt8.toInt32) = v88
        obtain ⟨T89, h89, X89, e89, W89, F89s, st89⟩ := ownBastore F19r X19 hx hZ e19 (j := (2 : Int32)) (by unfold ownIn; decide) (g := (mkF m 230 #[iv p0, iv p1, iv p2, .val (.long q3), .second, iv v1, iv v2, iv cp, iv (2 : Int32), rv b4, iv (2 : Int32)] [(.int v88), (.int (2 : Int32)), (.ref b4)])) rfl rfl (hb hby at_230)
        rw [own_narb hv_v88] at F89s
        have F89r : ownAI Z h89 b4 .byte 7 (ownUpd (ownUpd (ownUpd (ownUpd (ownUpd (ownUpd (ownUpd (ownUpd (fun _ => (0 : Int32)) 0 v6) 1 v8) 2 v10) 3 v12) 4 v14) 5 v16) 6 v18) 2 v88) := F89s
        have N89 := Fr.snoc X89 N19 G_b4
        have K89 : Keep h0 h89 [] := K19.wr W89 (Or.inr sz_b4)
        refine ownGo (T' := T89) (f' := (mkF m 231 #[iv p0, iv p1, iv p2, .val (.long q3), .second, iv v1, iv v2, iv cp, iv (2 : Int32), rv b4, iv (2 : Int32)] [])) (st89) ?_
        refine ow_aload (q := 233) X89 hx (hb hby at_231) rfl rfl rfl ?_
        refine ow_iload (q := 235) X89 hx (hb hby at_233) rfl rfl ?_
        refine ow_iconst (q := 236) X89 hx (1 : Int32) (hb hby at_235) rfl rfl ?_
        refine ow_iadd (q := 237) X89 hx (3 : Int32) (hb hby at_236) rfl (by decide) ?_
        refine ow_sipush (q := 240) X89 hx (128 : Int32) (hb hby at_237) rfl rfl ?_
        refine ow_iload (q := 242) X89 hx (hb hby at_240) rfl rfl ?_
        refine ow_bipush (q := 244) X89 hx (63 : Int32) (hb hby at_242) rfl rfl ?_
        refine ow_iand (q := 245) X89 hx _ (hb hby at_244) rfl rfl ?_
        refine ow_ior (q := 246) X89 hx _ (hb hby at_245) rfl rfl ?_
        refine ow_i2b (q := 247) X89 hx _ (hb hby at_246) rfl rfl ?_
        generalize hv_v90 : (((128 : Int32) ||| (cp &&& (63 : Int32))).toInt8.toInt32) = v90
        obtain ⟨T91, h91, X91, e91, W91, F91s, st91⟩ := ownBastore F89r X89 hx hZ e89 (j := (3 : Int32)) (by unfold ownIn; decide) (g := (mkF m 247 #[iv p0, iv p1, iv p2, .val (.long q3), .second, iv v1, iv v2, iv cp, iv (2 : Int32), rv b4, iv (2 : Int32)] [(.int v90), (.int (3 : Int32)), (.ref b4)])) rfl rfl (hb hby at_247)
        rw [own_narb hv_v90] at F91s
        have F91r : ownAI Z h91 b4 .byte 7 (ownUpd (ownUpd (ownUpd (ownUpd (ownUpd (ownUpd (ownUpd (ownUpd (ownUpd (fun _ => (0 : Int32)) 0 v6) 1 v8) 2 v10) 3 v12) 4 v14) 5 v16) 6 v18) 2 v88) 3 v90) := F91s
        have N91 := Fr.snoc X91 N89 G_b4
        have K91 : Keep h0 h91 [] := K89.wr W91 (Or.inr sz_b4)
        refine ownGo (T' := T91) (f' := (mkF m 248 #[iv p0, iv p1, iv p2, .val (.long q3), .second, iv v1, iv v2, iv cp, iv (2 : Int32), rv b4, iv (2 : Int32)] [])) (st91) ?_
        refine ow_goto (q := 384) X91 hx (hb hby at_248) (by decide) (by decide) ?_
        refine ow_aload (q := 386) X91 hx (hb hby at_384) rfl rfl rfl ?_
        refine ow_iload (q := 388) X91 hx (hb hby at_386) rfl rfl ?_
        refine ow_iload (q := 390) X91 hx (hb hby at_388) rfl rfl ?_
        obtain ⟨_, _, ⟨T92, L92, k92, n92⟩, -, X92, ⟨Lc92, hQ92, l92, y92, z92⟩, st92⟩ := Jvm.LawKit.callS X91 hx (y := (⟨"com/example/descend/descend/XmlChars", "decode", "([BII)I"⟩ : MethodName)) hown (mvT hZ (hw _ (List.mem_of_getElem? (i := 4) rfl))) (mvT hZ (hw _ (List.mem_of_getElem? (i := 5) rfl))) (mvT hZ (hw _ (List.mem_of_getElem? (i := 6) rfl))) (mvT hZ (hw _ (List.mem_of_getElem? (i := 7) rfl))) (by decide) (backOf (W := 0) (rm_dec_2_2 l Z a0 hw [] b4 (ownUpd (ownUpd (ownUpd (ownUpd (ownUpd (ownUpd (ownUpd (ownUpd (ownUpd (fun _ => (0 : Int32)) 0 v6) 1 v8) 2 v10) 3 v12) 4 v14) 5 v16) 6 v18) 2 v88) 3 v90) h91 n0 (Nat.le_trans Z0 K91.1) F91r) hZ (hw _ (List.mem_of_getElem? (i := 7) rfl)) (hw _ (List.mem_of_getElem? (i := 6) rfl)) (by decide) (by decide)) (g := (mkF m 390 #[iv p0, iv p1, iv p2, .val (.long q3), .second, iv v1, iv v2, iv cp, iv (2 : Int32), rv b4, iv (2 : Int32)] [(.int (2 : Int32)), (.int (2 : Int32)), (.ref b4)])) rfl (by rw [hml]; rfl) (argsL := [(.ref b4), (.int (2 : Int32)), (.int (2 : Int32))]) (rest := []) (lenOf own_pd0 rfl) rfl (by show 2 * 0 + _ ≤ _; exact Nat.le_of_eq rfl) (hb hby at_390) (fun _ _ => ⟨rfl, e91, (by decide : 1 + 0 ≤ _), (by decide : 7 + 0 ≤ _)⟩)
        dsimp only [Pt.U, Pt.locs, Pt.cells, Pt.slots] at X92 l92 y92 z92 st92 hQ92
        subst l92 y92 z92
        obtain ⟨rfl, N92q, e92⟩ := hQ92
        have N92 := Fr.app N91 N92q
        refine ownGo (T' := T92) (f' := (mkF m 393 #[iv p0, iv p1, iv p2, .val (.long q3), .second, iv v1, iv v2, iv cp, iv (2 : Int32), rv b4, iv (2 : Int32)] [(.int (own_dec2 v88 v90))])) (st92) ?_
        refine ow_iload (q := 395) X92 hx (hb hby at_393) rfl rfl ?_
        refine ow_icmpNo (q := 398) X92 hx (hb hby at_395) rfl (Jvm.Free.XT.ii_ne_f (own_rt2 (own_R2 hR) hv_v88 hv_v90)) ?_
        refine ow_iconst (q := 399) X92 hx (1 : Int32) (hb hby at_398) rfl rfl ?_
        refine ow_goto (q := 403) X92 hx (hb hby at_399) (by decide) (by decide) ?_
        refine ownRetN X92 hx (r := (1 : Int32)) (Or.inl rfl) Bd.returns (hb hby at_403) hlk (by decide) (by decide) (by decide) ?_
        exact ⟨rfl, N92⟩
      · subst hs83
        refine ow_iload (q := 195) X19 hx (hb hby at_193) rfl rfl ?_
        refine ow_iconst (q := 196) X19 hx (1 : Int32) (hb hby at_195) rfl rfl ?_
        refine ow_icmpYes (q := 210) X19 hx (hb hby at_196) (Jvm.Free.XT.ii_ne_t (by decide)) (by decide) (by decide) ?_
        refine ow_iload (q := 212) X19 hx (hb hby at_210) rfl rfl ?_
        refine ow_iconst (q := 213) X19 hx (2 : Int32) (hb hby at_212) rfl rfl ?_
        refine ow_icmpYes (q := 251) X19 hx (hb hby at_213) (Jvm.Free.XT.ii_ne_t (by decide)) (by decide) (by decide) ?_
        refine ow_iload (q := 253) X19 hx (hb hby at_251) rfl rfl ?_
        refine ow_iconst (q := 254) X19 hx (3 : Int32) (hb hby at_253) rfl rfl ?_
        refine ow_icmpNo (q := 257) X19 hx (hb hby at_254) rfl (Jvm.Free.XT.ii_ne_f (by decide)) ?_
        refine ow_aload (q := 259) X19 hx (hb hby at_257) rfl rfl rfl ?_
        refine ow_iload (q := 261) X19 hx (hb hby at_259) rfl rfl ?_
        refine ow_sipush (q := 264) X19 hx (224 : Int32) (hb hby at_261) rfl rfl ?_
        refine ow_iload (q := 266) X19 hx (hb hby at_264) rfl rfl ?_
        refine ow_bipush (q := 268) X19 hx (12 : Int32) (hb hby at_266) rfl rfl ?_
        refine ow_ishr (q := 269) X19 hx _ (hb hby at_268) rfl rfl ?_
        refine ow_ior (q := 270) X19 hx _ (hb hby at_269) rfl rfl ?_
        refine ow_i2b (q := 271) X19 hx _ (hb hby at_270) rfl rfl ?_
        generalize hv_v93 : (((224 : Int32) ||| (cp >>> ((12 : Int32) &&& 31))).toInt8.toInt32) = v93
        obtain ⟨T94, h94, X94, e94, W94, F94s, st94⟩ := ownBastore F19r X19 hx hZ e19 (j := (2 : Int32)) (by unfold ownIn; decide) (g := (mkF m 271 #[iv p0, iv p1, iv p2, .val (.long q3), .second, iv v1, iv v2, iv cp, iv (3 : Int32), rv b4, iv (2 : Int32)] [(.int v93), (.int (2 : Int32)), (.ref b4)])) rfl rfl (hb hby at_271)
        rw [own_narb hv_v93] at F94s
        have F94r : ownAI Z h94 b4 .byte 7 (ownUpd (ownUpd (ownUpd (ownUpd (ownUpd (ownUpd (ownUpd (ownUpd (fun _ => (0 : Int32)) 0 v6) 1 v8) 2 v10) 3 v12) 4 v14) 5 v16) 6 v18) 2 v93) := F94s
        have N94 := Fr.snoc X94 N19 G_b4
        have K94 : Keep h0 h94 [] := K19.wr W94 (Or.inr sz_b4)
        refine ownGo (T' := T94) (f' := (mkF m 272 #[iv p0, iv p1, iv p2, .val (.long q3), .second, iv v1, iv v2, iv cp, iv (3 : Int32), rv b4, iv (2 : Int32)] [])) (st94) ?_
        refine ow_aload (q := 274) X94 hx (hb hby at_272) rfl rfl rfl ?_
        refine ow_iload (q := 276) X94 hx (hb hby at_274) rfl rfl ?_
        refine ow_iconst (q := 277) X94 hx (1 : Int32) (hb hby at_276) rfl rfl ?_
        refine ow_iadd (q := 278) X94 hx (3 : Int32) (hb hby at_277) rfl (by decide) ?_
        refine ow_sipush (q := 281) X94 hx (128 : Int32) (hb hby at_278) rfl rfl ?_
        refine ow_iload (q := 283) X94 hx (hb hby at_281) rfl rfl ?_
        refine ow_bipush (q := 285) X94 hx (6 : Int32) (hb hby at_283) rfl rfl ?_
        refine ow_ishr (q := 286) X94 hx _ (hb hby at_285) rfl rfl ?_
        refine ow_bipush (q := 288) X94 hx (63 : Int32) (hb hby at_286) rfl rfl ?_
        refine ow_iand (q := 289) X94 hx _ (hb hby at_288) rfl rfl ?_
        refine ow_ior (q := 290) X94 hx _ (hb hby at_289) rfl rfl ?_
        refine ow_i2b (q := 291) X94 hx _ (hb hby at_290) rfl rfl ?_
        generalize hv_v95 : (((128 : Int32) ||| ((cp >>> ((6 : Int32) &&& 31)) &&& (63 : Int32))).toInt8.toInt32) = v95
        obtain ⟨T96, h96, X96, e96, W96, F96s, st96⟩ := ownBastore F94r X94 hx hZ e94 (j := (3 : Int32)) (by unfold ownIn; decide) (g := (mkF m 291 #[iv p0, iv p1, iv p2, .val (.long q3), .second, iv v1, iv v2, iv cp, iv (3 : Int32), rv b4, iv (2 : Int32)] [(.int v95), (.int (3 : Int32)), (.ref b4)])) rfl rfl (hb hby at_291)
        rw [own_narb hv_v95] at F96s
        have F96r : ownAI Z h96 b4 .byte 7 (ownUpd (ownUpd (ownUpd (ownUpd (ownUpd (ownUpd (ownUpd (ownUpd (ownUpd (fun _ => (0 : Int32)) 0 v6) 1 v8) 2 v10) 3 v12) 4 v14) 5 v16) 6 v18) 2 v93) 3 v95) := F96s
        have N96 := Fr.snoc X96 N94 G_b4
        have K96 : Keep h0 h96 [] := K94.wr W96 (Or.inr sz_b4)
        refine ownGo (T' := T96) (f' := (mkF m 292 #[iv p0, iv p1, iv p2, .val (.long q3), .second, iv v1, iv v2, iv cp, iv (3 : Int32), rv b4, iv (2 : Int32)] [])) (st96) ?_
        refine ow_aload (q := 294) X96 hx (hb hby at_292) rfl rfl rfl ?_
        refine ow_iload (q := 296) X96 hx (hb hby at_294) rfl rfl ?_
        refine ow_iconst (q := 297) X96 hx (2 : Int32) (hb hby at_296) rfl rfl ?_
        refine ow_iadd (q := 298) X96 hx (4 : Int32) (hb hby at_297) rfl (by decide) ?_
        refine ow_sipush (q := 301) X96 hx (128 : Int32) (hb hby at_298) rfl rfl ?_
        refine ow_iload (q := 303) X96 hx (hb hby at_301) rfl rfl ?_
        refine ow_bipush (q := 305) X96 hx (63 : Int32) (hb hby at_303) rfl rfl ?_
        refine ow_iand (q := 306) X96 hx _ (hb hby at_305) rfl rfl ?_
        refine ow_ior (q := 307) X96 hx _ (hb hby at_306) rfl rfl ?_
        refine ow_i2b (q := 308) X96 hx _ (hb hby at_307) rfl rfl ?_
        generalize hv_v97 : (((128 : Int32) ||| (cp &&& (63 : Int32))).toInt8.toInt32) = v97
        obtain ⟨T98, h98, X98, e98, W98, F98s, st98⟩ := ownBastore F96r X96 hx hZ e96 (j := (4 : Int32)) (by unfold ownIn; decide) (g := (mkF m 308 #[iv p0, iv p1, iv p2, .val (.long q3), .second, iv v1, iv v2, iv cp, iv (3 : Int32), rv b4, iv (2 : Int32)] [(.int v97), (.int (4 : Int32)), (.ref b4)])) rfl rfl (hb hby at_308)
        rw [own_narb hv_v97] at F98s
        have F98r : ownAI Z h98 b4 .byte 7 (ownUpd (ownUpd (ownUpd (ownUpd (ownUpd (ownUpd (ownUpd (ownUpd (ownUpd (ownUpd (fun _ => (0 : Int32)) 0 v6) 1 v8) 2 v10) 3 v12) 4 v14) 5 v16) 6 v18) 2 v93) 3 v95) 4 v97) := F98s
        have N98 := Fr.snoc X98 N96 G_b4
        have K98 : Keep h0 h98 [] := K96.wr W98 (Or.inr sz_b4)
        refine ownGo (T' := T98) (f' := (mkF m 309 #[iv p0, iv p1, iv p2, .val (.long q3), .second, iv v1, iv v2, iv cp, iv (3 : Int32), rv b4, iv (2 : Int32)] [])) (st98) ?_
        refine ow_goto (q := 384) X98 hx (hb hby at_309) (by decide) (by decide) ?_
        refine ow_aload (q := 386) X98 hx (hb hby at_384) rfl rfl rfl ?_
        refine ow_iload (q := 388) X98 hx (hb hby at_386) rfl rfl ?_
        refine ow_iload (q := 390) X98 hx (hb hby at_388) rfl rfl ?_
        obtain ⟨_, _, ⟨T99, L99, k99, n99⟩, -, X99, ⟨Lc99, hQ99, l99, y99, z99⟩, st99⟩ := Jvm.LawKit.callS X98 hx (y := (⟨"com/example/descend/descend/XmlChars", "decode", "([BII)I"⟩ : MethodName)) hown (mvT hZ (hw _ (List.mem_of_getElem? (i := 4) rfl))) (mvT hZ (hw _ (List.mem_of_getElem? (i := 5) rfl))) (mvT hZ (hw _ (List.mem_of_getElem? (i := 6) rfl))) (mvT hZ (hw _ (List.mem_of_getElem? (i := 7) rfl))) (by decide) (backOf (W := 0) (rm_dec_3_2 l Z a0 hw [] b4 (ownUpd (ownUpd (ownUpd (ownUpd (ownUpd (ownUpd (ownUpd (ownUpd (ownUpd (ownUpd (fun _ => (0 : Int32)) 0 v6) 1 v8) 2 v10) 3 v12) 4 v14) 5 v16) 6 v18) 2 v93) 3 v95) 4 v97) h98 n0 (Nat.le_trans Z0 K98.1) F98r) hZ (hw _ (List.mem_of_getElem? (i := 7) rfl)) (hw _ (List.mem_of_getElem? (i := 6) rfl)) (by decide) (by decide)) (g := (mkF m 390 #[iv p0, iv p1, iv p2, .val (.long q3), .second, iv v1, iv v2, iv cp, iv (3 : Int32), rv b4, iv (2 : Int32)] [(.int (3 : Int32)), (.int (2 : Int32)), (.ref b4)])) rfl (by rw [hml]; rfl) (argsL := [(.ref b4), (.int (2 : Int32)), (.int (3 : Int32))]) (rest := []) (lenOf own_pd0 rfl) rfl (by show 2 * 0 + _ ≤ _; exact Nat.le_of_eq rfl) (hb hby at_390) (fun _ _ => ⟨rfl, e98, (by decide : 1 + 0 ≤ _), (by decide : 7 + 0 ≤ _)⟩)
        dsimp only [Pt.U, Pt.locs, Pt.cells, Pt.slots] at X99 l99 y99 z99 st99 hQ99
        subst l99 y99 z99
        obtain ⟨rfl, N99q, e99⟩ := hQ99
        have N99 := Fr.app N98 N99q
        refine ownGo (T' := T99) (f' := (mkF m 393 #[iv p0, iv p1, iv p2, .val (.long q3), .second, iv v1, iv v2, iv cp, iv (3 : Int32), rv b4, iv (2 : Int32)] [(.int (own_dec3 v93 v95 v97))])) (st99) ?_
        refine ow_iload (q := 395) X99 hx (hb hby at_393) rfl rfl ?_
        refine ow_icmpNo (q := 398) X99 hx (hb hby at_395) rfl (Jvm.Free.XT.ii_ne_f (own_rt3 (own_R3 hR) hv_v93 hv_v95 hv_v97)) ?_
        refine ow_iconst (q := 399) X99 hx (1 : Int32) (hb hby at_398) rfl rfl ?_
        refine ow_goto (q := 403) X99 hx (hb hby at_399) (by decide) (by decide) ?_
        refine ownRetN X99 hx (r := (1 : Int32)) (Or.inl rfl) Bd.returns (hb hby at_403) hlk (by decide) (by decide) (by decide) ?_
        exact ⟨rfl, N99⟩
      · subst hs84
        refine ow_iload (q := 195) X19 hx (hb hby at_193) rfl rfl ?_
        refine ow_iconst (q := 196) X19 hx (1 : Int32) (hb hby at_195) rfl rfl ?_
        refine ow_icmpYes (q := 210) X19 hx (hb hby at_196) (Jvm.Free.XT.ii_ne_t (by decide)) (by decide) (by decide) ?_
        refine ow_iload (q := 212) X19 hx (hb hby at_210) rfl rfl ?_
        refine ow_iconst (q := 213) X19 hx (2 : Int32) (hb hby at_212) rfl rfl ?_
        refine ow_icmpYes (q := 251) X19 hx (hb hby at_213) (Jvm.Free.XT.ii_ne_t (by decide)) (by decide) (by decide) ?_
        refine ow_iload (q := 253) X19 hx (hb hby at_251) rfl rfl ?_
        refine ow_iconst (q := 254) X19 hx (3 : Int32) (hb hby at_253) rfl rfl ?_
        refine ow_icmpYes (q := 312) X19 hx (hb hby at_254) (Jvm.Free.XT.ii_ne_t (by decide)) (by decide) (by decide) ?_
        refine ow_aload (q := 314) X19 hx (hb hby at_312) rfl rfl rfl ?_
        refine ow_iload (q := 316) X19 hx (hb hby at_314) rfl rfl ?_
        refine ow_sipush (q := 319) X19 hx (240 : Int32) (hb hby at_316) rfl rfl ?_
        refine ow_iload (q := 321) X19 hx (hb hby at_319) rfl rfl ?_
        refine ow_bipush (q := 323) X19 hx (18 : Int32) (hb hby at_321) rfl rfl ?_
        refine ow_ishr (q := 324) X19 hx _ (hb hby at_323) rfl rfl ?_
        refine ow_ior (q := 325) X19 hx _ (hb hby at_324) rfl rfl ?_
        refine ow_i2b (q := 326) X19 hx _ (hb hby at_325) rfl rfl ?_
        generalize hv_v100 : (((240 : Int32) ||| (cp >>> ((18 : Int32) &&& 31))).toInt8.toInt32) = v100
        obtain ⟨T101, h101, X101, e101, W101, F101s, st101⟩ := ownBastore F19r X19 hx hZ e19 (j := (2 : Int32)) (by unfold ownIn; decide) (g := (mkF m 326 #[iv p0, iv p1, iv p2, .val (.long q3), .second, iv v1, iv v2, iv cp, iv (4 : Int32), rv b4, iv (2 : Int32)] [(.int v100), (.int (2 : Int32)), (.ref b4)])) rfl rfl (hb hby at_326)
        rw [own_narb hv_v100] at F101s
        have F101r : ownAI Z h101 b4 .byte 7 (ownUpd (ownUpd (ownUpd (ownUpd (ownUpd (ownUpd (ownUpd (ownUpd (fun _ => (0 : Int32)) 0 v6) 1 v8) 2 v10) 3 v12) 4 v14) 5 v16) 6 v18) 2 v100) := F101s
        have N101 := Fr.snoc X101 N19 G_b4
        have K101 : Keep h0 h101 [] := K19.wr W101 (Or.inr sz_b4)
        refine ownGo (T' := T101) (f' := (mkF m 327 #[iv p0, iv p1, iv p2, .val (.long q3), .second, iv v1, iv v2, iv cp, iv (4 : Int32), rv b4, iv (2 : Int32)] [])) (st101) ?_
        refine ow_aload (q := 329) X101 hx (hb hby at_327) rfl rfl rfl ?_
        refine ow_iload (q := 331) X101 hx (hb hby at_329) rfl rfl ?_
        refine ow_iconst (q := 332) X101 hx (1 : Int32) (hb hby at_331) rfl rfl ?_
        refine ow_iadd (q := 333) X101 hx (3 : Int32) (hb hby at_332) rfl (by decide) ?_
        refine ow_sipush (q := 336) X101 hx (128 : Int32) (hb hby at_333) rfl rfl ?_
        refine ow_iload (q := 338) X101 hx (hb hby at_336) rfl rfl ?_
        refine ow_bipush (q := 340) X101 hx (12 : Int32) (hb hby at_338) rfl rfl ?_
        refine ow_ishr (q := 341) X101 hx _ (hb hby at_340) rfl rfl ?_
        refine ow_bipush (q := 343) X101 hx (63 : Int32) (hb hby at_341) rfl rfl ?_
        refine ow_iand (q := 344) X101 hx _ (hb hby at_343) rfl rfl ?_
        refine ow_ior (q := 345) X101 hx _ (hb hby at_344) rfl rfl ?_
        refine ow_i2b (q := 346) X101 hx _ (hb hby at_345) rfl rfl ?_
        generalize hv_v102 : (((128 : Int32) ||| ((cp >>> ((12 : Int32) &&& 31)) &&& (63 : Int32))).toInt8.toInt32) = v102
        obtain ⟨T103, h103, X103, e103, W103, F103s, st103⟩ := ownBastore F101r X101 hx hZ e101 (j := (3 : Int32)) (by unfold ownIn; decide) (g := (mkF m 346 #[iv p0, iv p1, iv p2, .val (.long q3), .second, iv v1, iv v2, iv cp, iv (4 : Int32), rv b4, iv (2 : Int32)] [(.int v102), (.int (3 : Int32)), (.ref b4)])) rfl rfl (hb hby at_346)
        rw [own_narb hv_v102] at F103s
        have F103r : ownAI Z h103 b4 .byte 7 (ownUpd (ownUpd (ownUpd (ownUpd (ownUpd (ownUpd (ownUpd (ownUpd (ownUpd (fun _ => (0 : Int32)) 0 v6) 1 v8) 2 v10) 3 v12) 4 v14) 5 v16) 6 v18) 2 v100) 3 v102) := F103s
        have N103 := Fr.snoc X103 N101 G_b4
        have K103 : Keep h0 h103 [] := K101.wr W103 (Or.inr sz_b4)
        refine ownGo (T' := T103) (f' := (mkF m 347 #[iv p0, iv p1, iv p2, .val (.long q3), .second, iv v1, iv v2, iv cp, iv (4 : Int32), rv b4, iv (2 : Int32)] [])) (st103) ?_
        refine ow_aload (q := 349) X103 hx (hb hby at_347) rfl rfl rfl ?_
        refine ow_iload (q := 351) X103 hx (hb hby at_349) rfl rfl ?_
        refine ow_iconst (q := 352) X103 hx (2 : Int32) (hb hby at_351) rfl rfl ?_
        refine ow_iadd (q := 353) X103 hx (4 : Int32) (hb hby at_352) rfl (by decide) ?_
        refine ow_sipush (q := 356) X103 hx (128 : Int32) (hb hby at_353) rfl rfl ?_
        refine ow_iload (q := 358) X103 hx (hb hby at_356) rfl rfl ?_
        refine ow_bipush (q := 360) X103 hx (6 : Int32) (hb hby at_358) rfl rfl ?_
        refine ow_ishr (q := 361) X103 hx _ (hb hby at_360) rfl rfl ?_
        refine ow_bipush (q := 363) X103 hx (63 : Int32) (hb hby at_361) rfl rfl ?_
        refine ow_iand (q := 364) X103 hx _ (hb hby at_363) rfl rfl ?_
        refine ow_ior (q := 365) X103 hx _ (hb hby at_364) rfl rfl ?_
        refine ow_i2b (q := 366) X103 hx _ (hb hby at_365) rfl rfl ?_
        generalize hv_v104 : (((128 : Int32) ||| ((cp >>> ((6 : Int32) &&& 31)) &&& (63 : Int32))).toInt8.toInt32) = v104
        obtain ⟨T105, h105, X105, e105, W105, F105s, st105⟩ := ownBastore F103r X103 hx hZ e103 (j := (4 : Int32)) (by unfold ownIn; decide) (g := (mkF m 366 #[iv p0, iv p1, iv p2, .val (.long q3), .second, iv v1, iv v2, iv cp, iv (4 : Int32), rv b4, iv (2 : Int32)] [(.int v104), (.int (4 : Int32)), (.ref b4)])) rfl rfl (hb hby at_366)
        rw [own_narb hv_v104] at F105s
        have F105r : ownAI Z h105 b4 .byte 7 (ownUpd (ownUpd (ownUpd (ownUpd (ownUpd (ownUpd (ownUpd (ownUpd (ownUpd (ownUpd (fun _ => (0 : Int32)) 0 v6) 1 v8) 2 v10) 3 v12) 4 v14) 5 v16) 6 v18) 2 v100) 3 v102) 4 v104) := F105s
        have N105 := Fr.snoc X105 N103 G_b4
        have K105 : Keep h0 h105 [] := K103.wr W105 (Or.inr sz_b4)
        refine ownGo (T' := T105) (f' := (mkF m 367 #[iv p0, iv p1, iv p2, .val (.long q3), .second, iv v1, iv v2, iv cp, iv (4 : Int32), rv b4, iv (2 : Int32)] [])) (st105) ?_
        refine ow_aload (q := 369) X105 hx (hb hby at_367) rfl rfl rfl ?_
        refine ow_iload (q := 371) X105 hx (hb hby at_369) rfl rfl ?_
        refine ow_iconst (q := 372) X105 hx (3 : Int32) (hb hby at_371) rfl rfl ?_
        refine ow_iadd (q := 373) X105 hx (5 : Int32) (hb hby at_372) rfl (by decide) ?_
        refine ow_sipush (q := 376) X105 hx (128 : Int32) (hb hby at_373) rfl rfl ?_
        refine ow_iload (q := 378) X105 hx (hb hby at_376) rfl rfl ?_
        refine ow_bipush (q := 380) X105 hx (63 : Int32) (hb hby at_378) rfl rfl ?_
        refine ow_iand (q := 381) X105 hx _ (hb hby at_380) rfl rfl ?_
        refine ow_ior (q := 382) X105 hx _ (hb hby at_381) rfl rfl ?_
        refine ow_i2b (q := 383) X105 hx _ (hb hby at_382) rfl rfl ?_
        generalize hv_v106 : (((128 : Int32) ||| (cp &&& (63 : Int32))).toInt8.toInt32) = v106
        obtain ⟨T107, h107, X107, e107, W107, F107s, st107⟩ := ownBastore F105r X105 hx hZ e105 (j := (5 : Int32)) (by unfold ownIn; decide) (g := (mkF m 383 #[iv p0, iv p1, iv p2, .val (.long q3), .second, iv v1, iv v2, iv cp, iv (4 : Int32), rv b4, iv (2 : Int32)] [(.int v106), (.int (5 : Int32)), (.ref b4)])) rfl rfl (hb hby at_383)
        rw [own_narb hv_v106] at F107s
        have F107r : ownAI Z h107 b4 .byte 7 (ownUpd (ownUpd (ownUpd (ownUpd (ownUpd (ownUpd (ownUpd (ownUpd (ownUpd (ownUpd (ownUpd (fun _ => (0 : Int32)) 0 v6) 1 v8) 2 v10) 3 v12) 4 v14) 5 v16) 6 v18) 2 v100) 3 v102) 4 v104) 5 v106) := F107s
        have N107 := Fr.snoc X107 N105 G_b4
        have K107 : Keep h0 h107 [] := K105.wr W107 (Or.inr sz_b4)
        refine ownGo (T' := T107) (f' := (mkF m 384 #[iv p0, iv p1, iv p2, .val (.long q3), .second, iv v1, iv v2, iv cp, iv (4 : Int32), rv b4, iv (2 : Int32)] [])) (st107) ?_
        refine ow_aload (q := 386) X107 hx (hb hby at_384) rfl rfl rfl ?_
        refine ow_iload (q := 388) X107 hx (hb hby at_386) rfl rfl ?_
        refine ow_iload (q := 390) X107 hx (hb hby at_388) rfl rfl ?_
        obtain ⟨_, _, ⟨T108, L108, k108, n108⟩, -, X108, ⟨Lc108, hQ108, l108, y108, z108⟩, st108⟩ := Jvm.LawKit.callS X107 hx (y := (⟨"com/example/descend/descend/XmlChars", "decode", "([BII)I"⟩ : MethodName)) hown (mvT hZ (hw _ (List.mem_of_getElem? (i := 4) rfl))) (mvT hZ (hw _ (List.mem_of_getElem? (i := 5) rfl))) (mvT hZ (hw _ (List.mem_of_getElem? (i := 6) rfl))) (mvT hZ (hw _ (List.mem_of_getElem? (i := 7) rfl))) (by decide) (backOf (W := 0) (rm_dec_4_2 l Z a0 hw [] b4 (ownUpd (ownUpd (ownUpd (ownUpd (ownUpd (ownUpd (ownUpd (ownUpd (ownUpd (ownUpd (ownUpd (fun _ => (0 : Int32)) 0 v6) 1 v8) 2 v10) 3 v12) 4 v14) 5 v16) 6 v18) 2 v100) 3 v102) 4 v104) 5 v106) h107 n0 (Nat.le_trans Z0 K107.1) F107r) hZ (hw _ (List.mem_of_getElem? (i := 7) rfl)) (hw _ (List.mem_of_getElem? (i := 6) rfl)) (by decide) (by decide)) (g := (mkF m 390 #[iv p0, iv p1, iv p2, .val (.long q3), .second, iv v1, iv v2, iv cp, iv (4 : Int32), rv b4, iv (2 : Int32)] [(.int (4 : Int32)), (.int (2 : Int32)), (.ref b4)])) rfl (by rw [hml]; rfl) (argsL := [(.ref b4), (.int (2 : Int32)), (.int (4 : Int32))]) (rest := []) (lenOf own_pd0 rfl) rfl (by show 2 * 0 + _ ≤ _; exact Nat.le_of_eq rfl) (hb hby at_390) (fun _ _ => ⟨rfl, e107, (by decide : 1 + 0 ≤ _), (by decide : 7 + 0 ≤ _)⟩)
        dsimp only [Pt.U, Pt.locs, Pt.cells, Pt.slots] at X108 l108 y108 z108 st108 hQ108
        subst l108 y108 z108
        obtain ⟨rfl, N108q, e108⟩ := hQ108
        have N108 := Fr.app N107 N108q
        refine ownGo (T' := T108) (f' := (mkF m 393 #[iv p0, iv p1, iv p2, .val (.long q3), .second, iv v1, iv v2, iv cp, iv (4 : Int32), rv b4, iv (2 : Int32)] [(.int (own_dec4 v100 v102 v104 v106))])) (st108) ?_
        refine ow_iload (q := 395) X108 hx (hb hby at_393) rfl rfl ?_
        refine ow_icmpNo (q := 398) X108 hx (hb hby at_395) rfl (Jvm.Free.XT.ii_ne_f (own_rt4 (own_R4 hR) hv_v100 hv_v102 hv_v104 hv_v106)) ?_
        refine ow_iconst (q := 399) X108 hx (1 : Int32) (hb hby at_398) rfl rfl ?_
        refine ow_goto (q := 403) X108 hx (hb hby at_399) (by decide) (by decide) ?_
        refine ownRetN X108 hx (r := (1 : Int32)) (Or.inl rfl) Bd.returns (hb hby at_403) hlk (by decide) (by decide) (by decide) ?_
        exact ⟨rfl, N108⟩
    · subst hs24
      rcases own_lens hR with hs109 | hs110 | hs111 | hs112
      · subst hs109
        refine ow_iload (q := 195) X19 hx (hb hby at_193) rfl rfl ?_
        refine ow_iconst (q := 196) X19 hx (1 : Int32) (hb hby at_195) rfl rfl ?_
        refine ow_icmpNo (q := 199) X19 hx (hb hby at_196) rfl (Jvm.Free.XT.ii_ne_f (by decide)) ?_
        refine ow_aload (q := 201) X19 hx (hb hby at_199) rfl rfl rfl ?_
        refine ow_iload (q := 203) X19 hx (hb hby at_201) rfl rfl ?_
        refine ow_iload (q := 205) X19 hx (hb hby at_203) rfl rfl ?_
        refine ow_i2b (q := 206) X19 hx _ (hb hby at_205) rfl rfl ?_
        generalize hv_v113 : (cp.toInt8.toInt32) = v113
        obtain ⟨T114, h114, X114, e114, W114, F114s, st114⟩ := ownBastore F19r X19 hx hZ e19 (j := (3 : Int32)) (by unfold ownIn; decide) (g := (mkF m 206 #[iv p0, iv p1, iv p2, .val (.long q3), .second, iv v1, iv v2, iv cp, iv (1 : Int32), rv b4, iv (3 : Int32)] [(.int v113), (.int (3 : Int32)), (.ref b4)])) rfl rfl (hb hby at_206)
        rw [own_narb hv_v113] at F114s
        have F114r : ownAI Z h114 b4 .byte 7 (ownUpd (ownUpd (ownUpd (ownUpd (ownUpd (ownUpd (ownUpd (ownUpd (fun _ => (0 : Int32)) 0 v6) 1 v8) 2 v10) 3 v12) 4 v14) 5 v16) 6 v18) 3 v113) := F114s
        have N114 := Fr.snoc X114 N19 G_b4
        have K114 : Keep h0 h114 [] := K19.wr W114 (Or.inr sz_b4)
        refine ownGo (T' := T114) (f' := (mkF m 207 #[iv p0, iv p1, iv p2, .val (.long q3), .second, iv v1, iv v2, iv cp, iv (1 : Int32), rv b4, iv (3 : Int32)] [])) (st114) ?_
        refine ow_goto (q := 384) X114 hx (hb hby at_207) (by decide) (by decide) ?_
        refine ow_aload (q := 386) X114 hx (hb hby at_384) rfl rfl rfl ?_
        refine ow_iload (q := 388) X114 hx (hb hby at_386) rfl rfl ?_
        refine ow_iload (q := 390) X114 hx (hb hby at_388) rfl rfl ?_
        obtain ⟨_, _, ⟨T115, L115, k115, n115⟩, -, X115, ⟨Lc115, hQ115, l115, y115, z115⟩, st115⟩ := Jvm.LawKit.callS X114 hx (y := (⟨"com/example/descend/descend/XmlChars", "decode", "([BII)I"⟩ : MethodName)) hown (mvT hZ (hw _ (List.mem_of_getElem? (i := 4) rfl))) (mvT hZ (hw _ (List.mem_of_getElem? (i := 5) rfl))) (mvT hZ (hw _ (List.mem_of_getElem? (i := 6) rfl))) (mvT hZ (hw _ (List.mem_of_getElem? (i := 7) rfl))) (by decide) (backOf (W := 0) (rm_dec_1_3 l Z a0 hw [] b4 (ownUpd (ownUpd (ownUpd (ownUpd (ownUpd (ownUpd (ownUpd (ownUpd (fun _ => (0 : Int32)) 0 v6) 1 v8) 2 v10) 3 v12) 4 v14) 5 v16) 6 v18) 3 v113) h114 n0 (Nat.le_trans Z0 K114.1) F114r) hZ (hw _ (List.mem_of_getElem? (i := 7) rfl)) (hw _ (List.mem_of_getElem? (i := 6) rfl)) (by decide) (by decide)) (g := (mkF m 390 #[iv p0, iv p1, iv p2, .val (.long q3), .second, iv v1, iv v2, iv cp, iv (1 : Int32), rv b4, iv (3 : Int32)] [(.int (1 : Int32)), (.int (3 : Int32)), (.ref b4)])) rfl (by rw [hml]; rfl) (argsL := [(.ref b4), (.int (3 : Int32)), (.int (1 : Int32))]) (rest := []) (lenOf own_pd0 rfl) rfl (by show 2 * 0 + _ ≤ _; exact Nat.le_of_eq rfl) (hb hby at_390) (fun _ _ => ⟨rfl, e114, (by decide : 1 + 0 ≤ _), (by decide : 7 + 0 ≤ _)⟩)
        dsimp only [Pt.U, Pt.locs, Pt.cells, Pt.slots] at X115 l115 y115 z115 st115 hQ115
        subst l115 y115 z115
        obtain ⟨rfl, N115q, e115⟩ := hQ115
        have N115 := Fr.app N114 N115q
        refine ownGo (T' := T115) (f' := (mkF m 393 #[iv p0, iv p1, iv p2, .val (.long q3), .second, iv v1, iv v2, iv cp, iv (1 : Int32), rv b4, iv (3 : Int32)] [(.int (own_dec1 v113))])) (st115) ?_
        refine ow_iload (q := 395) X115 hx (hb hby at_393) rfl rfl ?_
        refine ow_icmpNo (q := 398) X115 hx (hb hby at_395) rfl (Jvm.Free.XT.ii_ne_f (own_rt1 (own_R1 hR) hv_v113)) ?_
        refine ow_iconst (q := 399) X115 hx (1 : Int32) (hb hby at_398) rfl rfl ?_
        refine ow_goto (q := 403) X115 hx (hb hby at_399) (by decide) (by decide) ?_
        refine ownRetN X115 hx (r := (1 : Int32)) (Or.inl rfl) Bd.returns (hb hby at_403) hlk (by decide) (by decide) (by decide) ?_
        exact ⟨rfl, N115⟩
      · subst hs110
        refine ow_iload (q := 195) X19 hx (hb hby at_193) rfl rfl ?_
        refine ow_iconst (q := 196) X19 hx (1 : Int32) (hb hby at_195) rfl rfl ?_
        refine ow_icmpYes (q := 210) X19 hx (hb hby at_196) (Jvm.Free.XT.ii_ne_t (by decide)) (by decide) (by decide) ?_
        refine ow_iload (q := 212) X19 hx (hb hby at_210) rfl rfl ?_
        refine ow_iconst (q := 213) X19 hx (2 : Int32) (hb hby at_212) rfl rfl ?_
        refine ow_icmpNo (q := 216) X19 hx (hb hby at_213) rfl (Jvm.Free.XT.ii_ne_f (by decide)) ?_
        refine ow_aload (q := 218) X19 hx (hb hby at_216) rfl rfl rfl ?_
        refine ow_iload (q := 220) X19 hx (hb hby at_218) rfl rfl ?_
        refine ow_sipush (q := 223) X19 hx (192 : Int32) (hb hby at_220) rfl rfl ?_
        refine ow_iload (q := 225) X19 hx (hb hby at_223) rfl rfl ?_
        refine ow_bipush (q := 227) X19 hx (6 : Int32) (hb hby at_225) rfl rfl ?_
        refine ow_ishr (q := 228) X19 hx _ (hb hby at_227) rfl rfl ?_
        refine ow_ior (q := 229) X19 hx _ (hb hby at_228) rfl rfl ?_
        refine ow_i2b (q := 230) X19 hx _ (hb hby at_229) rfl rfl ?_
        generalize hv_v116 : (((192 : Int32) ||| (cp >>> ((6 : Int32) &&& 31))).toInt8.toInt32) = v116
        obtain ⟨T117, h117, X117, e117, W117, F117s, st117⟩ := ownBastore F19r X19 hx hZ e19 (j := (3 : Int32)) (by unfold ownIn; decide) (g := (mkF m 230 #[iv p0, iv p1, iv p2, .val (.long q3), .second, iv v1, iv v2, iv cp, iv (2 : Int32), rv b4, iv (3 : Int32)] [(.int v116), (.int (3 : Int32)), (.ref b4)])) rfl rfl (hb hby at_230)
        rw [own_narb hv_v116] at F117s
        have F117r : ownAI Z h117 b4 .byte 7 (ownUpd (ownUpd (ownUpd (ownUpd (ownUpd (ownUpd (ownUpd (ownUpd (fun _ => (0 : Int32)) 0 v6) 1 v8) 2 v10) 3 v12) 4 v14) 5 v16) 6 v18) 3 v116) := F117s
        have N117 := Fr.snoc X117 N19 G_b4
        have K117 : Keep h0 h117 [] := K19.wr W117 (Or.inr sz_b4)
        refine ownGo (T' := T117) (f' := (mkF m 231 #[iv p0, iv p1, iv p2, .val (.long q3), .second, iv v1, iv v2, iv cp, iv (2 : Int32), rv b4, iv (3 : Int32)] [])) (st117) ?_
        refine ow_aload (q := 233) X117 hx (hb hby at_231) rfl rfl rfl ?_
        refine ow_iload (q := 235) X117 hx (hb hby at_233) rfl rfl ?_
        refine ow_iconst (q := 236) X117 hx (1 : Int32) (hb hby at_235) rfl rfl ?_
        refine ow_iadd (q := 237) X117 hx (4 : Int32) (hb hby at_236) rfl (by decide) ?_
        refine ow_sipush (q := 240) X117 hx (128 : Int32) (hb hby at_237) rfl rfl ?_
        refine ow_iload (q := 242) X117 hx (hb hby at_240) rfl rfl ?_
        refine ow_bipush (q := 244) X117 hx (63 : Int32) (hb hby at_242) rfl rfl ?_
        refine ow_iand (q := 245) X117 hx _ (hb hby at_244) rfl rfl ?_
        refine ow_ior (q := 246) X117 hx _ (hb hby at_245) rfl rfl ?_
        refine ow_i2b (q := 247) X117 hx _ (hb hby at_246) rfl rfl ?_
        generalize hv_v118 : (((128 : Int32) ||| (cp &&& (63 : Int32))).toInt8.toInt32) = v118
        obtain ⟨T119, h119, X119, e119, W119, F119s, st119⟩ := ownBastore F117r X117 hx hZ e117 (j := (4 : Int32)) (by unfold ownIn; decide) (g := (mkF m 247 #[iv p0, iv p1, iv p2, .val (.long q3), .second, iv v1, iv v2, iv cp, iv (2 : Int32), rv b4, iv (3 : Int32)] [(.int v118), (.int (4 : Int32)), (.ref b4)])) rfl rfl (hb hby at_247)
        rw [own_narb hv_v118] at F119s
        have F119r : ownAI Z h119 b4 .byte 7 (ownUpd (ownUpd (ownUpd (ownUpd (ownUpd (ownUpd (ownUpd (ownUpd (ownUpd (fun _ => (0 : Int32)) 0 v6) 1 v8) 2 v10) 3 v12) 4 v14) 5 v16) 6 v18) 3 v116) 4 v118) := F119s
        have N119 := Fr.snoc X119 N117 G_b4
        have K119 : Keep h0 h119 [] := K117.wr W119 (Or.inr sz_b4)
        refine ownGo (T' := T119) (f' := (mkF m 248 #[iv p0, iv p1, iv p2, .val (.long q3), .second, iv v1, iv v2, iv cp, iv (2 : Int32), rv b4, iv (3 : Int32)] [])) (st119) ?_
        refine ow_goto (q := 384) X119 hx (hb hby at_248) (by decide) (by decide) ?_
        refine ow_aload (q := 386) X119 hx (hb hby at_384) rfl rfl rfl ?_
        refine ow_iload (q := 388) X119 hx (hb hby at_386) rfl rfl ?_
        refine ow_iload (q := 390) X119 hx (hb hby at_388) rfl rfl ?_
        obtain ⟨_, _, ⟨T120, L120, k120, n120⟩, -, X120, ⟨Lc120, hQ120, l120, y120, z120⟩, st120⟩ := Jvm.LawKit.callS X119 hx (y := (⟨"com/example/descend/descend/XmlChars", "decode", "([BII)I"⟩ : MethodName)) hown (mvT hZ (hw _ (List.mem_of_getElem? (i := 4) rfl))) (mvT hZ (hw _ (List.mem_of_getElem? (i := 5) rfl))) (mvT hZ (hw _ (List.mem_of_getElem? (i := 6) rfl))) (mvT hZ (hw _ (List.mem_of_getElem? (i := 7) rfl))) (by decide) (backOf (W := 0) (rm_dec_2_3 l Z a0 hw [] b4 (ownUpd (ownUpd (ownUpd (ownUpd (ownUpd (ownUpd (ownUpd (ownUpd (ownUpd (fun _ => (0 : Int32)) 0 v6) 1 v8) 2 v10) 3 v12) 4 v14) 5 v16) 6 v18) 3 v116) 4 v118) h119 n0 (Nat.le_trans Z0 K119.1) F119r) hZ (hw _ (List.mem_of_getElem? (i := 7) rfl)) (hw _ (List.mem_of_getElem? (i := 6) rfl)) (by decide) (by decide)) (g := (mkF m 390 #[iv p0, iv p1, iv p2, .val (.long q3), .second, iv v1, iv v2, iv cp, iv (2 : Int32), rv b4, iv (3 : Int32)] [(.int (2 : Int32)), (.int (3 : Int32)), (.ref b4)])) rfl (by rw [hml]; rfl) (argsL := [(.ref b4), (.int (3 : Int32)), (.int (2 : Int32))]) (rest := []) (lenOf own_pd0 rfl) rfl (by show 2 * 0 + _ ≤ _; exact Nat.le_of_eq rfl) (hb hby at_390) (fun _ _ => ⟨rfl, e119, (by decide : 1 + 0 ≤ _), (by decide : 7 + 0 ≤ _)⟩)
        dsimp only [Pt.U, Pt.locs, Pt.cells, Pt.slots] at X120 l120 y120 z120 st120 hQ120
        subst l120 y120 z120
        obtain ⟨rfl, N120q, e120⟩ := hQ120
        have N120 := Fr.app N119 N120q
        refine ownGo (T' := T120) (f' := (mkF m 393 #[iv p0, iv p1, iv p2, .val (.long q3), .second, iv v1, iv v2, iv cp, iv (2 : Int32), rv b4, iv (3 : Int32)] [(.int (own_dec2 v116 v118))])) (st120) ?_
        refine ow_iload (q := 395) X120 hx (hb hby at_393) rfl rfl ?_
        refine ow_icmpNo (q := 398) X120 hx (hb hby at_395) rfl (Jvm.Free.XT.ii_ne_f (own_rt2 (own_R2 hR) hv_v116 hv_v118)) ?_
        refine ow_iconst (q := 399) X120 hx (1 : Int32) (hb hby at_398) rfl rfl ?_
        refine ow_goto (q := 403) X120 hx (hb hby at_399) (by decide) (by decide) ?_
        refine ownRetN X120 hx (r := (1 : Int32)) (Or.inl rfl) Bd.returns (hb hby at_403) hlk (by decide) (by decide) (by decide) ?_
        exact ⟨rfl, N120⟩
      · subst hs111
        refine ow_iload (q := 195) X19 hx (hb hby at_193) rfl rfl ?_
        refine ow_iconst (q := 196) X19 hx (1 : Int32) (hb hby at_195) rfl rfl ?_
        refine ow_icmpYes (q := 210) X19 hx (hb hby at_196) (Jvm.Free.XT.ii_ne_t (by decide)) (by decide) (by decide) ?_
        refine ow_iload (q := 212) X19 hx (hb hby at_210) rfl rfl ?_
        refine ow_iconst (q := 213) X19 hx (2 : Int32) (hb hby at_212) rfl rfl ?_
        refine ow_icmpYes (q := 251) X19 hx (hb hby at_213) (Jvm.Free.XT.ii_ne_t (by decide)) (by decide) (by decide) ?_
        refine ow_iload (q := 253) X19 hx (hb hby at_251) rfl rfl ?_
        refine ow_iconst (q := 254) X19 hx (3 : Int32) (hb hby at_253) rfl rfl ?_
        refine ow_icmpNo (q := 257) X19 hx (hb hby at_254) rfl (Jvm.Free.XT.ii_ne_f (by decide)) ?_
        refine ow_aload (q := 259) X19 hx (hb hby at_257) rfl rfl rfl ?_
        refine ow_iload (q := 261) X19 hx (hb hby at_259) rfl rfl ?_
        refine ow_sipush (q := 264) X19 hx (224 : Int32) (hb hby at_261) rfl rfl ?_
        refine ow_iload (q := 266) X19 hx (hb hby at_264) rfl rfl ?_
        refine ow_bipush (q := 268) X19 hx (12 : Int32) (hb hby at_266) rfl rfl ?_
        refine ow_ishr (q := 269) X19 hx _ (hb hby at_268) rfl rfl ?_
        refine ow_ior (q := 270) X19 hx _ (hb hby at_269) rfl rfl ?_
        refine ow_i2b (q := 271) X19 hx _ (hb hby at_270) rfl rfl ?_
        generalize hv_v121 : (((224 : Int32) ||| (cp >>> ((12 : Int32) &&& 31))).toInt8.toInt32) = v121
        obtain ⟨T122, h122, X122, e122, W122, F122s, st122⟩ := ownBastore F19r X19 hx hZ e19 (j := (3 : Int32)) (by unfold ownIn; decide) (g := (mkF m 271 #[iv p0, iv p1, iv p2, .val (.long q3), .second, iv v1, iv v2, iv cp, iv (3 : Int32), rv b4, iv (3 : Int32)] [(.int v121), (.int (3 : Int32)), (.ref b4)])) rfl rfl (hb hby at_271)
        rw [own_narb hv_v121] at F122s
        have F122r : ownAI Z h122 b4 .byte 7 (ownUpd (ownUpd (ownUpd (ownUpd (ownUpd (ownUpd (ownUpd (ownUpd (fun _ => (0 : Int32)) 0 v6) 1 v8) 2 v10) 3 v12) 4 v14) 5 v16) 6 v18) 3 v121) := F122s
        have N122 := Fr.snoc X122 N19 G_b4
        have K122 : Keep h0 h122 [] := K19.wr W122 (Or.inr sz_b4)
        refine ownGo (T' := T122) (f' := (mkF m 272 #[iv p0, iv p1, iv p2, .val (.long q3), .second, iv v1, iv v2, iv cp, iv (3 : Int32), rv b4, iv (3 : Int32)] [])) (st122) ?_
        refine ow_aload (q := 274) X122 hx (hb hby at_272) rfl rfl rfl ?_
        refine ow_iload (q := 276) X122 hx (hb hby at_274) rfl rfl ?_
        refine ow_iconst (q := 277) X122 hx (1 : Int32) (hb hby at_276) rfl rfl ?_
        refine ow_iadd (q := 278) X122 hx (4 : Int32) (hb hby at_277) rfl (by decide) ?_
        refine ow_sipush (q := 281) X122 hx (128 : Int32) (hb hby at_278) rfl rfl ?_
        refine ow_iload (q := 283) X122 hx (hb hby at_281) rfl rfl ?_
        refine ow_bipush (q := 285) X122 hx (6 : Int32) (hb hby at_283) rfl rfl ?_
        refine ow_ishr (q := 286) X122 hx _ (hb hby at_285) rfl rfl ?_
        refine ow_bipush (q := 288) X122 hx (63 : Int32) (hb hby at_286) rfl rfl ?_
        refine ow_iand (q := 289) X122 hx _ (hb hby at_288) rfl rfl ?_
        refine ow_ior (q := 290) X122 hx _ (hb hby at_289) rfl rfl ?_
        refine ow_i2b (q := 291) X122 hx _ (hb hby at_290) rfl rfl ?_
        generalize hv_v123 : (((128 : Int32) ||| ((cp >>> ((6 : Int32) &&& 31)) &&& (63 : Int32))).toInt8.toInt32) = v123
        obtain ⟨T124, h124, X124, e124, W124, F124s, st124⟩ := ownBastore F122r X122 hx hZ e122 (j := (4 : Int32)) (by unfold ownIn; decide) (g := (mkF m 291 #[iv p0, iv p1, iv p2, .val (.long q3), .second, iv v1, iv v2, iv cp, iv (3 : Int32), rv b4, iv (3 : Int32)] [(.int v123), (.int (4 : Int32)), (.ref b4)])) rfl rfl (hb hby at_291)
        rw [own_narb hv_v123] at F124s
        have F124r : ownAI Z h124 b4 .byte 7 (ownUpd (ownUpd (ownUpd (ownUpd (ownUpd (ownUpd (ownUpd (ownUpd (ownUpd (fun _ => (0 : Int32)) 0 v6) 1 v8) 2 v10) 3 v12) 4 v14) 5 v16) 6 v18) 3 v121) 4 v123) := F124s
        have N124 := Fr.snoc X124 N122 G_b4
        have K124 : Keep h0 h124 [] := K122.wr W124 (Or.inr sz_b4)
        refine ownGo (T' := T124) (f' := (mkF m 292 #[iv p0, iv p1, iv p2, .val (.long q3), .second, iv v1, iv v2, iv cp, iv (3 : Int32), rv b4, iv (3 : Int32)] [])) (st124) ?_
        refine ow_aload (q := 294) X124 hx (hb hby at_292) rfl rfl rfl ?_
        refine ow_iload (q := 296) X124 hx (hb hby at_294) rfl rfl ?_
        refine ow_iconst (q := 297) X124 hx (2 : Int32) (hb hby at_296) rfl rfl ?_
        refine ow_iadd (q := 298) X124 hx (5 : Int32) (hb hby at_297) rfl (by decide) ?_
        refine ow_sipush (q := 301) X124 hx (128 : Int32) (hb hby at_298) rfl rfl ?_
        refine ow_iload (q := 303) X124 hx (hb hby at_301) rfl rfl ?_
        refine ow_bipush (q := 305) X124 hx (63 : Int32) (hb hby at_303) rfl rfl ?_
        refine ow_iand (q := 306) X124 hx _ (hb hby at_305) rfl rfl ?_
        refine ow_ior (q := 307) X124 hx _ (hb hby at_306) rfl rfl ?_
        refine ow_i2b (q := 308) X124 hx _ (hb hby at_307) rfl rfl ?_
        generalize hv_v125 : (((128 : Int32) ||| (cp &&& (63 : Int32))).toInt8.toInt32) = v125
        obtain ⟨T126, h126, X126, e126, W126, F126s, st126⟩ := ownBastore F124r X124 hx hZ e124 (j := (5 : Int32)) (by unfold ownIn; decide) (g := (mkF m 308 #[iv p0, iv p1, iv p2, .val (.long q3), .second, iv v1, iv v2, iv cp, iv (3 : Int32), rv b4, iv (3 : Int32)] [(.int v125), (.int (5 : Int32)), (.ref b4)])) rfl rfl (hb hby at_308)
        rw [own_narb hv_v125] at F126s
        have F126r : ownAI Z h126 b4 .byte 7 (ownUpd (ownUpd (ownUpd (ownUpd (ownUpd (ownUpd (ownUpd (ownUpd (ownUpd (ownUpd (fun _ => (0 : Int32)) 0 v6) 1 v8) 2 v10) 3 v12) 4 v14) 5 v16) 6 v18) 3 v121) 4 v123) 5 v125) := F126s
        have N126 := Fr.snoc X126 N124 G_b4
        have K126 : Keep h0 h126 [] := K124.wr W126 (Or.inr sz_b4)
        refine ownGo (T' := T126) (f' := (mkF m 309 #[iv p0, iv p1, iv p2, .val (.long q3), .second, iv v1, iv v2, iv cp, iv (3 : Int32), rv b4, iv (3 : Int32)] [])) (st126) ?_
        refine ow_goto (q := 384) X126 hx (hb hby at_309) (by decide) (by decide) ?_
        refine ow_aload (q := 386) X126 hx (hb hby at_384) rfl rfl rfl ?_
        refine ow_iload (q := 388) X126 hx (hb hby at_386) rfl rfl ?_
        refine ow_iload (q := 390) X126 hx (hb hby at_388) rfl rfl ?_
        obtain ⟨_, _, ⟨T127, L127, k127, n127⟩, -, X127, ⟨Lc127, hQ127, l127, y127, z127⟩, st127⟩ := Jvm.LawKit.callS X126 hx (y := (⟨"com/example/descend/descend/XmlChars", "decode", "([BII)I"⟩ : MethodName)) hown (mvT hZ (hw _ (List.mem_of_getElem? (i := 4) rfl))) (mvT hZ (hw _ (List.mem_of_getElem? (i := 5) rfl))) (mvT hZ (hw _ (List.mem_of_getElem? (i := 6) rfl))) (mvT hZ (hw _ (List.mem_of_getElem? (i := 7) rfl))) (by decide) (backOf (W := 0) (rm_dec_3_3 l Z a0 hw [] b4 (ownUpd (ownUpd (ownUpd (ownUpd (ownUpd (ownUpd (ownUpd (ownUpd (ownUpd (ownUpd (fun _ => (0 : Int32)) 0 v6) 1 v8) 2 v10) 3 v12) 4 v14) 5 v16) 6 v18) 3 v121) 4 v123) 5 v125) h126 n0 (Nat.le_trans Z0 K126.1) F126r) hZ (hw _ (List.mem_of_getElem? (i := 7) rfl)) (hw _ (List.mem_of_getElem? (i := 6) rfl)) (by decide) (by decide)) (g := (mkF m 390 #[iv p0, iv p1, iv p2, .val (.long q3), .second, iv v1, iv v2, iv cp, iv (3 : Int32), rv b4, iv (3 : Int32)] [(.int (3 : Int32)), (.int (3 : Int32)), (.ref b4)])) rfl (by rw [hml]; rfl) (argsL := [(.ref b4), (.int (3 : Int32)), (.int (3 : Int32))]) (rest := []) (lenOf own_pd0 rfl) rfl (by show 2 * 0 + _ ≤ _; exact Nat.le_of_eq rfl) (hb hby at_390) (fun _ _ => ⟨rfl, e126, (by decide : 1 + 0 ≤ _), (by decide : 7 + 0 ≤ _)⟩)
        dsimp only [Pt.U, Pt.locs, Pt.cells, Pt.slots] at X127 l127 y127 z127 st127 hQ127
        subst l127 y127 z127
        obtain ⟨rfl, N127q, e127⟩ := hQ127
        have N127 := Fr.app N126 N127q
        refine ownGo (T' := T127) (f' := (mkF m 393 #[iv p0, iv p1, iv p2, .val (.long q3), .second, iv v1, iv v2, iv cp, iv (3 : Int32), rv b4, iv (3 : Int32)] [(.int (own_dec3 v121 v123 v125))])) (st127) ?_
        refine ow_iload (q := 395) X127 hx (hb hby at_393) rfl rfl ?_
        refine ow_icmpNo (q := 398) X127 hx (hb hby at_395) rfl (Jvm.Free.XT.ii_ne_f (own_rt3 (own_R3 hR) hv_v121 hv_v123 hv_v125)) ?_
        refine ow_iconst (q := 399) X127 hx (1 : Int32) (hb hby at_398) rfl rfl ?_
        refine ow_goto (q := 403) X127 hx (hb hby at_399) (by decide) (by decide) ?_
        refine ownRetN X127 hx (r := (1 : Int32)) (Or.inl rfl) Bd.returns (hb hby at_403) hlk (by decide) (by decide) (by decide) ?_
        exact ⟨rfl, N127⟩
      · subst hs112
        refine ow_iload (q := 195) X19 hx (hb hby at_193) rfl rfl ?_
        refine ow_iconst (q := 196) X19 hx (1 : Int32) (hb hby at_195) rfl rfl ?_
        refine ow_icmpYes (q := 210) X19 hx (hb hby at_196) (Jvm.Free.XT.ii_ne_t (by decide)) (by decide) (by decide) ?_
        refine ow_iload (q := 212) X19 hx (hb hby at_210) rfl rfl ?_
        refine ow_iconst (q := 213) X19 hx (2 : Int32) (hb hby at_212) rfl rfl ?_
        refine ow_icmpYes (q := 251) X19 hx (hb hby at_213) (Jvm.Free.XT.ii_ne_t (by decide)) (by decide) (by decide) ?_
        refine ow_iload (q := 253) X19 hx (hb hby at_251) rfl rfl ?_
        refine ow_iconst (q := 254) X19 hx (3 : Int32) (hb hby at_253) rfl rfl ?_
        refine ow_icmpYes (q := 312) X19 hx (hb hby at_254) (Jvm.Free.XT.ii_ne_t (by decide)) (by decide) (by decide) ?_
        refine ow_aload (q := 314) X19 hx (hb hby at_312) rfl rfl rfl ?_
        refine ow_iload (q := 316) X19 hx (hb hby at_314) rfl rfl ?_
        refine ow_sipush (q := 319) X19 hx (240 : Int32) (hb hby at_316) rfl rfl ?_
        refine ow_iload (q := 321) X19 hx (hb hby at_319) rfl rfl ?_
        refine ow_bipush (q := 323) X19 hx (18 : Int32) (hb hby at_321) rfl rfl ?_
        refine ow_ishr (q := 324) X19 hx _ (hb hby at_323) rfl rfl ?_
        refine ow_ior (q := 325) X19 hx _ (hb hby at_324) rfl rfl ?_
        refine ow_i2b (q := 326) X19 hx _ (hb hby at_325) rfl rfl ?_
        generalize hv_v128 : (((240 : Int32) ||| (cp >>> ((18 : Int32) &&& 31))).toInt8.toInt32) = v128
        obtain ⟨T129, h129, X129, e129, W129, F129s, st129⟩ := ownBastore F19r X19 hx hZ e19 (j := (3 : Int32)) (by unfold ownIn; decide) (g := (mkF m 326 #[iv p0, iv p1, iv p2, .val (.long q3), .second, iv v1, iv v2, iv cp, iv (4 : Int32), rv b4, iv (3 : Int32)] [(.int v128), (.int (3 : Int32)), (.ref b4)])) rfl rfl (hb hby at_326)
        rw [own_narb hv_v128] at F129s
        have F129r : ownAI Z h129 b4 .byte 7 (ownUpd (ownUpd (ownUpd (ownUpd (ownUpd (ownUpd (ownUpd (ownUpd (fun _ => (0 : Int32)) 0 v6) 1 v8) 2 v10) 3 v12) 4 v14) 5 v16) 6 v18) 3 v128) := F129s
        have N129 := Fr.snoc X129 N19 G_b4
        have K129 : Keep h0 h129 [] := K19.wr W129 (Or.inr sz_b4)
        refine ownGo (T' := T129) (f' := (mkF m 327 #[iv p0, iv p1, iv p2, .val (.long q3), .second, iv v1, iv v2, iv cp, iv (4 : Int32), rv b4, iv (3 : Int32)] [])) (st129) ?_
        refine ow_aload (q := 329) X129 hx (hb hby at_327) rfl rfl rfl ?_
        refine ow_iload (q := 331) X129 hx (hb hby at_329) rfl rfl ?_
        refine ow_iconst (q := 332) X129 hx (1 : Int32) (hb hby at_331) rfl rfl ?_
        refine ow_iadd (q := 333) X129 hx (4 : Int32) (hb hby at_332) rfl (by decide) ?_
        refine ow_sipush (q := 336) X129 hx (128 : Int32) (hb hby at_333) rfl rfl ?_
        refine ow_iload (q := 338) X129 hx (hb hby at_336) rfl rfl ?_
        refine ow_bipush (q := 340) X129 hx (12 : Int32) (hb hby at_338) rfl rfl ?_
        refine ow_ishr (q := 341) X129 hx _ (hb hby at_340) rfl rfl ?_
        refine ow_bipush (q := 343) X129 hx (63 : Int32) (hb hby at_341) rfl rfl ?_
        refine ow_iand (q := 344) X129 hx _ (hb hby at_343) rfl rfl ?_
        refine ow_ior (q := 345) X129 hx _ (hb hby at_344) rfl rfl ?_
        refine ow_i2b (q := 346) X129 hx _ (hb hby at_345) rfl rfl ?_
        generalize hv_v130 : (((128 : Int32) ||| ((cp >>> ((12 : Int32) &&& 31)) &&& (63 : Int32))).toInt8.toInt32) = v130
        obtain ⟨T131, h131, X131, e131, W131, F131s, st131⟩ := ownBastore F129r X129 hx hZ e129 (j := (4 : Int32)) (by unfold ownIn; decide) (g := (mkF m 346 #[iv p0, iv p1, iv p2, .val (.long q3), .second, iv v1, iv v2, iv cp, iv (4 : Int32), rv b4, iv (3 : Int32)] [(.int v130), (.int (4 : Int32)), (.ref b4)])) rfl rfl (hb hby at_346)
        rw [own_narb hv_v130] at F131s
        have F131r : ownAI Z h131 b4 .byte 7 (ownUpd (ownUpd (ownUpd (ownUpd (ownUpd (ownUpd (ownUpd (ownUpd (ownUpd (fun _ => (0 : Int32)) 0 v6) 1 v8) 2 v10) 3 v12) 4 v14) 5 v16) 6 v18) 3 v128) 4 v130) := F131s
        have N131 := Fr.snoc X131 N129 G_b4
        have K131 : Keep h0 h131 [] := K129.wr W131 (Or.inr sz_b4)
        refine ownGo (T' := T131) (f' := (mkF m 347 #[iv p0, iv p1, iv p2, .val (.long q3), .second, iv v1, iv v2, iv cp, iv (4 : Int32), rv b4, iv (3 : Int32)] [])) (st131) ?_
        refine ow_aload (q := 349) X131 hx (hb hby at_347) rfl rfl rfl ?_
        refine ow_iload (q := 351) X131 hx (hb hby at_349) rfl rfl ?_
        refine ow_iconst (q := 352) X131 hx (2 : Int32) (hb hby at_351) rfl rfl ?_
        refine ow_iadd (q := 353) X131 hx (5 : Int32) (hb hby at_352) rfl (by decide) ?_
        refine ow_sipush (q := 356) X131 hx (128 : Int32) (hb hby at_353) rfl rfl ?_
        refine ow_iload (q := 358) X131 hx (hb hby at_356) rfl rfl ?_
        refine ow_bipush (q := 360) X131 hx (6 : Int32) (hb hby at_358) rfl rfl ?_
        refine ow_ishr (q := 361) X131 hx _ (hb hby at_360) rfl rfl ?_
        refine ow_bipush (q := 363) X131 hx (63 : Int32) (hb hby at_361) rfl rfl ?_
        refine ow_iand (q := 364) X131 hx _ (hb hby at_363) rfl rfl ?_
        refine ow_ior (q := 365) X131 hx _ (hb hby at_364) rfl rfl ?_
        refine ow_i2b (q := 366) X131 hx _ (hb hby at_365) rfl rfl ?_
        generalize hv_v132 : (((128 : Int32) ||| ((cp >>> ((6 : Int32) &&& 31)) &&& (63 : Int32))).toInt8.toInt32) = v132
        obtain ⟨T133, h133, X133, e133, W133, F133s, st133⟩ := ownBastore F131r X131 hx hZ e131 (j := (5 : Int32)) (by unfold ownIn; decide) (g := (mkF m 366 #[iv p0, iv p1, iv p2, .val (.long q3), .second, iv v1, iv v2, iv cp, iv (4 : Int32), rv b4, iv (3 : Int32)] [(.int v132), (.int (5 : Int32)), (.ref b4)])) rfl rfl (hb hby at_366)
        rw [own_narb hv_v132] at F133s
        have F133r : ownAI Z h133 b4 .byte 7 (ownUpd (ownUpd (ownUpd (ownUpd (ownUpd (ownUpd (ownUpd (ownUpd (ownUpd (ownUpd (fun _ => (0 : Int32)) 0 v6) 1 v8) 2 v10) 3 v12) 4 v14) 5 v16) 6 v18) 3 v128) 4 v130) 5 v132) := F133s
        have N133 := Fr.snoc X133 N131 G_b4
        have K133 : Keep h0 h133 [] := K131.wr W133 (Or.inr sz_b4)
        refine ownGo (T' := T133) (f' := (mkF m 367 #[iv p0, iv p1, iv p2, .val (.long q3), .second, iv v1, iv v2, iv cp, iv (4 : Int32), rv b4, iv (3 : Int32)] [])) (st133) ?_
        refine ow_aload (q := 369) X133 hx (hb hby at_367) rfl rfl rfl ?_
        refine ow_iload (q := 371) X133 hx (hb hby at_369) rfl rfl ?_
        refine ow_iconst (q := 372) X133 hx (3 : Int32) (hb hby at_371) rfl rfl ?_
        refine ow_iadd (q := 373) X133 hx (6 : Int32) (hb hby at_372) rfl (by decide) ?_
        refine ow_sipush (q := 376) X133 hx (128 : Int32) (hb hby at_373) rfl rfl ?_
        refine ow_iload (q := 378) X133 hx (hb hby at_376) rfl rfl ?_
        refine ow_bipush (q := 380) X133 hx (63 : Int32) (hb hby at_378) rfl rfl ?_
        refine ow_iand (q := 381) X133 hx _ (hb hby at_380) rfl rfl ?_
        refine ow_ior (q := 382) X133 hx _ (hb hby at_381) rfl rfl ?_
        refine ow_i2b (q := 383) X133 hx _ (hb hby at_382) rfl rfl ?_
        generalize hv_v134 : (((128 : Int32) ||| (cp &&& (63 : Int32))).toInt8.toInt32) = v134
        obtain ⟨T135, h135, X135, e135, W135, F135s, st135⟩ := ownBastore F133r X133 hx hZ e133 (j := (6 : Int32)) (by unfold ownIn; decide) (g := (mkF m 383 #[iv p0, iv p1, iv p2, .val (.long q3), .second, iv v1, iv v2, iv cp, iv (4 : Int32), rv b4, iv (3 : Int32)] [(.int v134), (.int (6 : Int32)), (.ref b4)])) rfl rfl (hb hby at_383)
        rw [own_narb hv_v134] at F135s
        have F135r : ownAI Z h135 b4 .byte 7 (ownUpd (ownUpd (ownUpd (ownUpd (ownUpd (ownUpd (ownUpd (ownUpd (ownUpd (ownUpd (ownUpd (fun _ => (0 : Int32)) 0 v6) 1 v8) 2 v10) 3 v12) 4 v14) 5 v16) 6 v18) 3 v128) 4 v130) 5 v132) 6 v134) := F135s
        have N135 := Fr.snoc X135 N133 G_b4
        have K135 : Keep h0 h135 [] := K133.wr W135 (Or.inr sz_b4)
        refine ownGo (T' := T135) (f' := (mkF m 384 #[iv p0, iv p1, iv p2, .val (.long q3), .second, iv v1, iv v2, iv cp, iv (4 : Int32), rv b4, iv (3 : Int32)] [])) (st135) ?_
        refine ow_aload (q := 386) X135 hx (hb hby at_384) rfl rfl rfl ?_
        refine ow_iload (q := 388) X135 hx (hb hby at_386) rfl rfl ?_
        refine ow_iload (q := 390) X135 hx (hb hby at_388) rfl rfl ?_
        obtain ⟨_, _, ⟨T136, L136, k136, n136⟩, -, X136, ⟨Lc136, hQ136, l136, y136, z136⟩, st136⟩ := Jvm.LawKit.callS X135 hx (y := (⟨"com/example/descend/descend/XmlChars", "decode", "([BII)I"⟩ : MethodName)) hown (mvT hZ (hw _ (List.mem_of_getElem? (i := 4) rfl))) (mvT hZ (hw _ (List.mem_of_getElem? (i := 5) rfl))) (mvT hZ (hw _ (List.mem_of_getElem? (i := 6) rfl))) (mvT hZ (hw _ (List.mem_of_getElem? (i := 7) rfl))) (by decide) (backOf (W := 0) (rm_dec_4_3 l Z a0 hw [] b4 (ownUpd (ownUpd (ownUpd (ownUpd (ownUpd (ownUpd (ownUpd (ownUpd (ownUpd (ownUpd (ownUpd (fun _ => (0 : Int32)) 0 v6) 1 v8) 2 v10) 3 v12) 4 v14) 5 v16) 6 v18) 3 v128) 4 v130) 5 v132) 6 v134) h135 n0 (Nat.le_trans Z0 K135.1) F135r) hZ (hw _ (List.mem_of_getElem? (i := 7) rfl)) (hw _ (List.mem_of_getElem? (i := 6) rfl)) (by decide) (by decide)) (g := (mkF m 390 #[iv p0, iv p1, iv p2, .val (.long q3), .second, iv v1, iv v2, iv cp, iv (4 : Int32), rv b4, iv (3 : Int32)] [(.int (4 : Int32)), (.int (3 : Int32)), (.ref b4)])) rfl (by rw [hml]; rfl) (argsL := [(.ref b4), (.int (3 : Int32)), (.int (4 : Int32))]) (rest := []) (lenOf own_pd0 rfl) rfl (by show 2 * 0 + _ ≤ _; exact Nat.le_of_eq rfl) (hb hby at_390) (fun _ _ => ⟨rfl, e135, (by decide : 1 + 0 ≤ _), (by decide : 7 + 0 ≤ _)⟩)
        dsimp only [Pt.U, Pt.locs, Pt.cells, Pt.slots] at X136 l136 y136 z136 st136 hQ136
        subst l136 y136 z136
        obtain ⟨rfl, N136q, e136⟩ := hQ136
        have N136 := Fr.app N135 N136q
        refine ownGo (T' := T136) (f' := (mkF m 393 #[iv p0, iv p1, iv p2, .val (.long q3), .second, iv v1, iv v2, iv cp, iv (4 : Int32), rv b4, iv (3 : Int32)] [(.int (own_dec4 v128 v130 v132 v134))])) (st136) ?_
        refine ow_iload (q := 395) X136 hx (hb hby at_393) rfl rfl ?_
        refine ow_icmpNo (q := 398) X136 hx (hb hby at_395) rfl (Jvm.Free.XT.ii_ne_f (own_rt4 (own_R4 hR) hv_v128 hv_v130 hv_v132 hv_v134)) ?_
        refine ow_iconst (q := 399) X136 hx (1 : Int32) (hb hby at_398) rfl rfl ?_
        refine ow_goto (q := 403) X136 hx (hb hby at_399) (by decide) (by decide) ?_
        refine ownRetN X136 hx (r := (1 : Int32)) (Or.inl rfl) Bd.returns (hb hby at_403) hlk (by decide) (by decide) (by decide) ?_
        exact ⟨rfl, N136⟩
  refine ow_iload (q := 13) X0 hx (hb hby at_11) rfl rfl ?_
  by_cases hc13_137 : v1 = (0 : Int32)
  · refine ow_ifNo (q := 16) X0 hx (hb hby at_13) rfl (Jvm.Free.XT.i0_ne_f hc13_137) ?_
    refine ow_iloadN (q := 17) X0 hx (hb hby at_16) rfl rfl ?_
    refine ow_sipush (q := 20) X0 hx (255 : Int32) (hb hby at_17) rfl rfl ?_
    refine ow_iand (q := 21) X0 hx _ (hb hby at_20) rfl rfl ?_
    generalize hv_v138 : (p0 &&& (255 : Int32)) = v138
    refine ow_istore (q := 23) X0 hx (L' := #[iv p0, iv p1, iv p2, .val (.long q3), .second, iv v1, iv v2, iv v138, .unset, .unset, .unset]) (hb hby at_21) rfl rfl ?_
    refine ow_iconst (q := 24) X0 hx (1 : Int32) (hb hby at_23) rfl rfl ?_
    refine ow_istore (q := 26) X0 hx (L' := #[iv p0, iv p1, iv p2, .val (.long q3), .second, iv v1, iv v2, iv v138, iv (1 : Int32), .unset, .unset]) (hb hby at_24) rfl rfl ?_
    refine ow_goto (q := 111) X0 hx (hb hby at_26) (by decide) (by decide) ?_
    exact cut111_3 v138 (1 : Int32) _ _ X0 e0 N0 (own_c1 hv_v138)
  · refine ow_ifYes (q := 29) X0 hx (hb hby at_13) (Jvm.Free.XT.i0_ne_t hc13_137) (by decide) (by decide) ?_
    refine ow_iload (q := 31) X0 hx (hb hby at_29) rfl rfl ?_
    refine ow_iconst (q := 32) X0 hx (1 : Int32) (hb hby at_31) rfl rfl ?_
    by_cases hc32_139 : v1 = (1 : Int32)
    · refine ow_icmpNo (q := 35) X0 hx (hb hby at_32) rfl (Jvm.Free.XT.ii_ne_f hc32_139) ?_
      refine ow_sipush (q := 38) X0 hx (128 : Int32) (hb hby at_35) rfl rfl ?_
      refine ow_iload (q := 40) X0 hx (hb hby at_38) rfl rfl ?_
      refine ow_sipush (q := 43) X0 hx (1920 : Int32) (hb hby at_40) rfl rfl ?_
      refine ow_irem (q := 44) X0 hx _ (hb hby at_43) rfl (by decide) rfl ?_
      refine ow_iadd (q := 45) X0 hx _ (hb hby at_44) rfl rfl ?_
      generalize hv_v140 : ((128 : Int32) + (v2 % (1920 : Int32))) = v140
      refine ow_istore (q := 47) X0 hx (L' := #[iv p0, iv p1, iv p2, .val (.long q3), .second, iv v1, iv v2, iv v140, .unset, .unset, .unset]) (hb hby at_45) rfl rfl ?_
      refine ow_iconst (q := 48) X0 hx (2 : Int32) (hb hby at_47) rfl rfl ?_
      refine ow_istore (q := 50) X0 hx (L' := #[iv p0, iv p1, iv p2, .val (.long q3), .second, iv v1, iv v2, iv v140, iv (2 : Int32), .unset, .unset]) (hb hby at_48) rfl rfl ?_
      refine ow_goto (q := 111) X0 hx (hb hby at_50) (by decide) (by decide) ?_
      exact cut111_3 v140 (2 : Int32) _ _ X0 e0 N0 (own_c2 hv_v2 hv_v140)
    · refine ow_icmpYes (q := 53) X0 hx (hb hby at_32) (Jvm.Free.XT.ii_ne_t hc32_139) (by decide) (by decide) ?_
      refine ow_iload (q := 55) X0 hx (hb hby at_53) rfl rfl ?_
      refine ow_iconst (q := 56) X0 hx (2 : Int32) (hb hby at_55) rfl rfl ?_
      by_cases hc56_141 : v1 = (2 : Int32)
      · refine ow_icmpNo (q := 59) X0 hx (hb hby at_56) rfl (Jvm.Free.XT.ii_ne_f hc56_141) ?_
        refine ow_sipush (q := 62) X0 hx (2048 : Int32) (hb hby at_59) rfl rfl ?_
        refine ow_iload (q := 64) X0 hx (hb hby at_62) rfl rfl ?_
        refine ownGo (T' := s₁) (f' := (mkF m 66 #[iv p0, iv p1, iv p2, .val (.long q3), .second, iv v1, iv v2, .unset, .unset, .unset, .unset] [(.int (63488 : Int32)), (.int v2), (.int (2048 : Int32))])) (X0.ldcInt hx hown (mvT hZ (hw _ (List.mem_of_getElem? (i := 8) rfl))) (g := (mkF m 64 #[iv p0, iv p1, iv p2, .val (.long q3), .second, iv v1, iv v2, .unset, .unset, .unset, .unset] [(.int v2), (.int (2048 : Int32))])) rfl (hb hby at_64)) ?_
        refine ow_irem (q := 67) X0 hx _ (hb hby at_66) rfl (by decide) rfl ?_
        refine ow_iadd (q := 68) X0 hx _ (hb hby at_67) rfl rfl ?_
        generalize hv_v142 : ((2048 : Int32) + (v2 % (63488 : Int32))) = v142
        refine ow_istore (q := 70) X0 hx (L' := #[iv p0, iv p1, iv p2, .val (.long q3), .second, iv v1, iv v2, iv v142, .unset, .unset, .unset]) (hb hby at_68) rfl rfl ?_
        refine ow_iload (q := 72) X0 hx (hb hby at_70) rfl rfl ?_
        refine ownGo (T' := s₁) (f' := (mkF m 74 #[iv p0, iv p1, iv p2, .val (.long q3), .second, iv v1, iv v2, iv v142, .unset, .unset, .unset] [(.int (55296 : Int32)), (.int v142)])) (X0.ldcInt hx hown (mvT hZ (hw _ (List.mem_of_getElem? (i := 9) rfl))) (g := (mkF m 72 #[iv p0, iv p1, iv p2, .val (.long q3), .second, iv v1, iv v2, iv v142, .unset, .unset, .unset] [(.int v142)])) rfl (hb hby at_72)) ?_
        by_cases hc74_143 : v142 < (55296 : Int32)
        · refine ow_icmpYes (q := 92) X0 hx (hb hby at_74) (Jvm.Free.XT.ii_lt_t hc74_143) (by decide) (by decide) ?_
          refine ow_iconst (q := 93) X0 hx (3 : Int32) (hb hby at_92) rfl rfl ?_
          refine ow_istore (q := 95) X0 hx (L' := #[iv p0, iv p1, iv p2, .val (.long q3), .second, iv v1, iv v2, iv v142, iv (3 : Int32), .unset, .unset]) (hb hby at_93) rfl rfl ?_
          refine ow_goto (q := 111) X0 hx (hb hby at_95) (by decide) (by decide) ?_
          exact cut111_3 v142 (3 : Int32) _ _ X0 e0 N0 (own_c3 hv_v2 hv_v142)
        · refine ow_icmpNo (q := 77) X0 hx (hb hby at_74) rfl (Jvm.Free.XT.ii_lt_f hc74_143) ?_
          refine ow_iload (q := 79) X0 hx (hb hby at_77) rfl rfl ?_
          refine ownGo (T' := s₁) (f' := (mkF m 81 #[iv p0, iv p1, iv p2, .val (.long q3), .second, iv v1, iv v2, iv v142, .unset, .unset, .unset] [(.int (57343 : Int32)), (.int v142)])) (X0.ldcInt hx hown (mvT hZ (hw _ (List.mem_of_getElem? (i := 10) rfl))) (g := (mkF m 79 #[iv p0, iv p1, iv p2, .val (.long q3), .second, iv v1, iv v2, iv v142, .unset, .unset, .unset] [(.int v142)])) rfl (hb hby at_79)) ?_
          by_cases hc81_144 : (57343 : Int32) < v142
          · refine ow_icmpYes (q := 92) X0 hx (hb hby at_81) (Jvm.Free.XT.ii_gt_t hc81_144) (by decide) (by decide) ?_
            refine ow_iconst (q := 93) X0 hx (3 : Int32) (hb hby at_92) rfl rfl ?_
            refine ow_istore (q := 95) X0 hx (L' := #[iv p0, iv p1, iv p2, .val (.long q3), .second, iv v1, iv v2, iv v142, iv (3 : Int32), .unset, .unset]) (hb hby at_93) rfl rfl ?_
            refine ow_goto (q := 111) X0 hx (hb hby at_95) (by decide) (by decide) ?_
            exact cut111_3 v142 (3 : Int32) _ _ X0 e0 N0 (own_c3 hv_v2 hv_v142)
          · refine ow_icmpNo (q := 84) X0 hx (hb hby at_81) rfl (Jvm.Free.XT.ii_gt_f hc81_144) ?_
            refine ow_iload (q := 86) X0 hx (hb hby at_84) rfl rfl ?_
            refine ow_sipush (q := 89) X0 hx (2048 : Int32) (hb hby at_86) rfl rfl ?_
            refine ow_isub (q := 90) X0 hx _ (hb hby at_89) rfl rfl ?_
            generalize hv_v145 : (v142 - (2048 : Int32)) = v145
            refine ow_istore (q := 92) X0 hx (L' := #[iv p0, iv p1, iv p2, .val (.long q3), .second, iv v1, iv v2, iv v145, .unset, .unset, .unset]) (hb hby at_90) rfl rfl ?_
            refine ow_iconst (q := 93) X0 hx (3 : Int32) (hb hby at_92) rfl rfl ?_
            refine ow_istore (q := 95) X0 hx (L' := #[iv p0, iv p1, iv p2, .val (.long q3), .second, iv v1, iv v2, iv v145, iv (3 : Int32), .unset, .unset]) (hb hby at_93) rfl rfl ?_
            refine ow_goto (q := 111) X0 hx (hb hby at_95) (by decide) (by decide) ?_
            exact cut111_3 v145 (3 : Int32) _ _ X0 e0 N0 (own_c3s hv_v2 hv_v142 hc74_143 hv_v145)
      · refine ow_icmpYes (q := 98) X0 hx (hb hby at_56) (Jvm.Free.XT.ii_ne_t hc56_141) (by decide) (by decide) ?_
        refine ownGo (T' := s₁) (f' := (mkF m 100 #[iv p0, iv p1, iv p2, .val (.long q3), .second, iv v1, iv v2, .unset, .unset, .unset, .unset] [(.int (65536 : Int32))])) (X0.ldcInt hx hown (mvT hZ (hw _ (List.mem_of_getElem? (i := 1) rfl))) (g := (mkF m 98 #[iv p0, iv p1, iv p2, .val (.long q3), .second, iv v1, iv v2, .unset, .unset, .unset, .unset] [])) rfl (hb hby at_98)) ?_
        refine ow_iload (q := 102) X0 hx (hb hby at_100) rfl rfl ?_
        refine ownGo (T' := s₁) (f' := (mkF m 104 #[iv p0, iv p1, iv p2, .val (.long q3), .second, iv v1, iv v2, .unset, .unset, .unset, .unset] [(.int (1048576 : Int32)), (.int v2), (.int (65536 : Int32))])) (X0.ldcInt hx hown (mvT hZ (hw _ (List.mem_of_getElem? (i := 2) rfl))) (g := (mkF m 102 #[iv p0, iv p1, iv p2, .val (.long q3), .second, iv v1, iv v2, .unset, .unset, .unset, .unset] [(.int v2), (.int (65536 : Int32))])) rfl (hb hby at_102)) ?_
        refine ow_irem (q := 105) X0 hx _ (hb hby at_104) rfl (by decide) rfl ?_
        refine ow_iadd (q := 106) X0 hx _ (hb hby at_105) rfl rfl ?_
        generalize hv_v146 : ((65536 : Int32) + (v2 % (1048576 : Int32))) = v146
        refine ow_istore (q := 108) X0 hx (L' := #[iv p0, iv p1, iv p2, .val (.long q3), .second, iv v1, iv v2, iv v146, .unset, .unset, .unset]) (hb hby at_106) rfl rfl ?_
        refine ow_iconst (q := 109) X0 hx (4 : Int32) (hb hby at_108) rfl rfl ?_
        refine ow_istore (q := 111) X0 hx (L' := #[iv p0, iv p1, iv p2, .val (.long q3), .second, iv v1, iv v2, iv v146, iv (4 : Int32), .unset, .unset]) (hb hby at_109) rfl rfl ?_
        exact cut111_3 v146 (4 : Int32) _ _ X0 e0 N0 (own_c4 hv_v2 hv_v146)
set_option maxRecDepth 65536 in
set_option maxHeartbeats 40000000 in
theorem comes_1 {Post : Tables → Env → Array Value → State → Outcome → State → Prop} (hpost : ∀ tb e args s v u, (limb_1_1.after args s (.returned v) u = true ∧ limb_1_2.after args s (.returned v) u = true ∧ True) → FrameEnd s (.returned v) u (Jvm.fieldLocs frame_1_writes args s ++ Jvm.arrayLocs frame_1_arrays args s ++ Jvm.staticLocs frame_1_statics s) 16 128 → Post tb e args s (.returned v) u) :
    ArmFor flags0 classFile x code maxLocals ret World_1 tables_1 room_1 Calls_1 rest_1 Pre_1 Post := by
  intro l hfl _ _ p e ha hc hk s m args below hf hA hF happ hP
  obtain ⟨hcalls, hrest, hpre⟩ := hP
  obtain ⟨-, -, -, hnamed, -, -, -, hat⟩ := (Spec.applies_iff hf).mp happ
  obtain ⟨hg, hn⟩ := and_e (Cond.before_iff.mp (show (Jvm.Cond.and given_1 narrow_1).before args s = true from hpre))
  obtain ⟨gg1, gg2⟩ := and_e hg
  obtain ⟨gg3, gg4⟩ := and_e gg2
  obtain ⟨gg5, gg6⟩ := and_e gg4
  obtain ⟨gg7, gg8⟩ := and_e gg6
  obtain ⟨w0, w1, w2, w3, rfl⟩ : ∃ w0 w1 w2 w3 : Value, args = #[w0, w1, w2, w3] := by
    have hs : args.size = 4 := by simpa [Cond.value, given_1] using gg1
    obtain ⟨L⟩ := args
    match L, hs with
    | [w0, w1, w2, w3], _ => exact ⟨w0, w1, w2, w3, rfl⟩
  have hw := fun d (hd : d ∈ tables_1) => atoms_spec (ws := Jvm.Cond.code x code maxLocals ret :: tables_1) hat d (List.mem_cons_of_mem _ hd)
  have hfit : Fit s := fun {y c} hc i hi => by
    obtain ⟨ha, rfl⟩ := Array.getElem?_eq_some_iff.mp hc
    have q := List.all_eq_true.mp ((Array.all_eq_true_iff_forall_mem.mp hF) _ (Array.getElem_mem ha)) i (List.mem_range.mpr hi)
    simpa [Array.getElem?_eq_getElem hi] using q
  obtain ⟨i0, ei0⟩ := is_v gg3
  obtain rfl : w0 = (.int i0) := Option.some.inj ei0
  obtain ⟨i1, ei1⟩ := is_v gg5
  obtain rfl : w1 = (.int i1) := Option.some.inj ei1
  obtain ⟨i2, ei2⟩ := is_v gg7
  obtain rfl : w2 = (.int i2) := Option.some.inj ei2
  obtain ⟨i3, ei3⟩ := isL_v gg8
  obtain rfl : w3 = (.long i3) := Option.some.inj ei3
  obtain ⟨n, o, h1, h2, h3, _, L, rfl, ⟨rfl, N⟩, hq⟩ := rm_law l s _ hw tables_1 i0 i1 i2 i3  s.heap s.heap.size (Nat.le_refl _)  p e ha hc hk s m _ below hf ((Spec.applies_iff_loose hf).mp happ).1 ⟨rfl, State.Warmed39.refl s, rfl⟩ trivial
  refine ⟨n, _, h1, h2, h3, hpost _ _ _ _ _ _ ⟨Cond.after_iff.mpr rfl, Cond.after_iff.mpr (eq_i res_at (Term.int_eval (1)) rfl), trivial⟩ ⟨hq.1, hq.2.1, (hq.2.2.sift fun y hy => Or.inr (N y hy)).mono (by decide) (by decide)⟩⟩
theorem main_1_1 : Claimed_1_1 := comes_1 fun _ _ _ _ _ _ h hF => ⟨h.1, hF⟩
theorem main_1_2 : Claimed_1_2 := comes_1 fun _ _ _ _ _ _ h hF => ⟨h.2.1, hF⟩
end Jvm.Pilot.@@N@@
namespace Jvm.Pilot.@@N@@
open Jvm Jvm.ClassFile Sem Op Lib Jvm.Free Jvm.Stand Jvm.Pilot.@@N@@.Jvm.D
/-! MADE BY PROGRAM (witnessworld.py) out of the Statement's table words and the real class files: 9 classes; the members and pool entries that the words name. The judged class is class 1, her method 1. -/
namespace start1
open Jvm.ClassFile
def u (s : String) : CpInfo := .utf8 (stringToUtf16 s)
/-- a pool by its gaps: so many unusable entries, then the entry; so many at the end -/
def gap : Nat → List CpInfo → List CpInfo
  | 0, r => r
  | n + 1, r => .unusable :: gap n r
def poolList (es : List (Nat × CpInfo)) (last : Nat) : List CpInfo := es.foldr (fun e r => gap e.1 (e.2 :: r)) (gap last [])
def pool (es : List (Nat × CpInfo)) (last : Nat) : Array CpInfo := ⟨poolList es last⟩
def fileOf (pool : Array CpInfo) (this : Nat) (attrs : Array Attribute := #[]) (ms : Array MethodInfo := #[]) (fl : Nat := 33) (sup : Nat := 0) (ifs : Array Nat := #[]) (fds : Array FieldInfo := #[]) : ClassFile where
  minorVersion := 0
  majorVersion := 65
  constantPool := pool
  accessFlags := fl
  thisClass := this
  superClass := sup
  interfaces := ifs
  fields := fds
  methods := ms
  attributes := attrs
def plain (name : String) (sup : Option ClassId) : Class where
  name := name
  kind := .ordinary
  loader := none
  accessFlags := 33
  super := sup
  interfaces := #[]
  cf := none
  fields := #[]
  methods := #[]
  instanceTypes := #[]
  staticTypes := #[]
  resolved := #[]
  callSites := []
  init := .initialized
  statics := none
  mirror := none

def pool0 : Array CpInfo := pool [(5, u "<init>"), (0, u "()V"), (1, .class_ 10), (1, u "java/lang/Object")] 113

def k0m0 : Method := { name := "<init>", desc := "()V", sig := { parameters := [], returnType := none }, accessFlags := 1, code := none }
/-- java/lang/Object -/
def k0 : Class := { plain "java/lang/Object" none with
  accessFlags := 33
  interfaces := #[]
  cf := some (fileOf pool0 8 #[] #[{ accessFlags := 1, nameIndex := 5, descriptorIndex := 6, attributes := #[] }] 33 0 #[] #[])
  fields := #[]
  methods := #[k0m0]
  instanceTypes := #[]
  staticTypes := #[]
  resolved := Array.replicate 124 none
  statics := none }

def pool1 : Array CpInfo := pool [(2, .class_ 4), (1, u "java/lang/Object"), (0, u "<init>"), (0, u "()V"), (0, .integer 2147483647), (0, .integer 63488), (0, .integer 55296), (0, .integer 57343), (0, .integer 65536), (0, .integer 1048576), (0, .methodref 14 15), (0, .class_ 16), (0, .nameAndType 17 18), (0, u "com/example/descend/descend/XmlChars"), (0, u "decode"), (0, u "([BII)I"), (0, .class_ 20), (0, u "com/example/descend/descend/XmlCharsDecodePinLaw"), (2, u "law"), (0, u "(IIIJ)Z")] 5

def k1m0 : Method := { name := "<init>", desc := "()V", sig := { parameters := [], returnType := none }, accessFlags := 2, code := none }
def k1c1 : Code := { maxStack := 5, maxLocals := 11, code := code, exceptionTable := #[], attributes := #[] }
def k1m1 : Method := { name := "law", desc := "(IIIJ)Z", sig := { parameters := [.int, .int, .int, .long], returnType := some .boolean }, accessFlags := 9, code := some k1c1 }
/-- com/example/descend/descend/XmlCharsDecodePinLaw -/
def k1 : Class := { plain "com/example/descend/descend/XmlCharsDecodePinLaw" (some 0) with
  accessFlags := 49
  interfaces := #[]
  cf := some (fileOf pool1 19 #[] #[{ accessFlags := 2, nameIndex := 5, descriptorIndex := 6, attributes := #[] }, { accessFlags := 9, nameIndex := 23, descriptorIndex := 24, attributes := #[] }] 49 2 #[] #[])
  fields := #[]
  methods := #[k1m0, k1m1]
  instanceTypes := #[]
  staticTypes := #[]
  resolved := Array.replicate 30 none
  statics := none }

def pool2 : Array CpInfo := pool [(2, .class_ 4), (1, u "java/lang/Object"), (0, u "<init>"), (0, u "()V"), (0, .class_ 8), (0, u "com/example/descend/descend/XmlChars"), (10, u "CHAR_RANGES"), (0, u "[I"), (6, u "decode"), (0, u "([BII)I"), (6, u "ASCII_CLASSES"), (0, u "[B"), (2, u "NAME_START_RANGES"), (2, u "NAME_ONLY_RANGES"), (29, u "NAME_START"), (0, u "B"), (2, u "NAME"), (1, u "PUBLIC_ID"), (1, u "PUBLIC_ID_MARKS"), (0, u "Ljava/lang/String;")] 35

def k2m0 : Method := { name := "<init>", desc := "()V", sig := { parameters := [], returnType := none }, accessFlags := 2, code := none }
def k2c1 : Code := { maxStack := 4, maxLocals := 6, code := prog_24_method_15_code, exceptionTable := #[], attributes := #[] }
def k2m1 : Method := { name := "decode", desc := "([BII)I", sig := { parameters := [(.array .byte), .int, .int], returnType := some .int }, accessFlags := 8, code := some k2c1 }
/-- com/example/descend/descend/XmlChars -/
def k2 : Class := { plain "com/example/descend/descend/XmlChars" (some 0) with
  accessFlags := 48
  interfaces := #[]
  cf := some (fileOf pool2 7 #[] #[{ accessFlags := 2, nameIndex := 5, descriptorIndex := 6, attributes := #[] }, { accessFlags := 8, nameIndex := 27, descriptorIndex := 28, attributes := #[] }] 48 2 #[] #[{ accessFlags := 26, nameIndex := 19, descriptorIndex := 20, attributes := #[] }, { accessFlags := 26, nameIndex := 39, descriptorIndex := 20, attributes := #[] }, { accessFlags := 26, nameIndex := 42, descriptorIndex := 20, attributes := #[] }, { accessFlags := 26, nameIndex := 72, descriptorIndex := 73, attributes := #[] }, { accessFlags := 26, nameIndex := 76, descriptorIndex := 73, attributes := #[] }, { accessFlags := 26, nameIndex := 78, descriptorIndex := 73, attributes := #[] }, { accessFlags := 26, nameIndex := 80, descriptorIndex := 81, attributes := #[] }, { accessFlags := 26, nameIndex := 35, descriptorIndex := 36, attributes := #[] }])
  fields := #[{ name := "CHAR_RANGES", type := (.array .int), accessFlags := 26, slot := 0, constantValue := 0 }, { name := "NAME_START_RANGES", type := (.array .int), accessFlags := 26, slot := 1, constantValue := 0 }, { name := "NAME_ONLY_RANGES", type := (.array .int), accessFlags := 26, slot := 2, constantValue := 0 }, { name := "NAME_START", type := .byte, accessFlags := 26, slot := 3, constantValue := 0 }, { name := "NAME", type := .byte, accessFlags := 26, slot := 4, constantValue := 0 }, { name := "PUBLIC_ID", type := .byte, accessFlags := 26, slot := 5, constantValue := 0 }, { name := "PUBLIC_ID_MARKS", type := (.object "java/lang/String"), accessFlags := 26, slot := 6, constantValue := 0 }, { name := "ASCII_CLASSES", type := (.array .byte), accessFlags := 26, slot := 7, constantValue := 0 }]
  methods := #[k2m0, k2m1]
  instanceTypes := #[]
  staticTypes := #[(.array .int), (.array .int), (.array .int), .byte, .byte, .byte, (.object "java/lang/String"), (.array .byte)]
  resolved := Array.replicate 117 none
  statics := none }

def pool3 : Array CpInfo := pool [(1, u "java/lang/Cloneable"), (0, .class_ 1), (0, u "java/lang/Object"), (0, .class_ 3)] 3

/-- java/lang/Cloneable -/
def k3 : Class := { plain "java/lang/Cloneable" (some 0) with
  accessFlags := 1537
  interfaces := #[]
  cf := some (fileOf pool3 2 #[] #[] 1537 4 #[] #[])
  fields := #[]
  methods := #[]
  instanceTypes := #[]
  staticTypes := #[]
  resolved := Array.replicate 8 none
  statics := none }

def pool4 : Array CpInfo := pool [(1, u "java/io/Serializable"), (0, .class_ 1), (0, u "java/lang/Object"), (0, .class_ 3)] 3

/-- java/io/Serializable -/
def k4 : Class := { plain "java/io/Serializable" (some 0) with
  accessFlags := 1537
  interfaces := #[]
  cf := some (fileOf pool4 2 #[] #[] 1537 4 #[] #[])
  fields := #[]
  methods := #[]
  instanceTypes := #[]
  staticTypes := #[]
  resolved := Array.replicate 8 none
  statics := none }

/-- the primitive byte -/
def k5 : Class := { plain "byte" none with kind := .primitive 'B', accessFlags := 0x411 }
/-- [B -/
def k6 : Class := { plain "[B" (some 0) with kind := .array 5 .byte, interfaces := #[3, 4], accessFlags := 1041 }

/-- the primitive int -/
def k7 : Class := { plain "int" none with kind := .primitive 'I', accessFlags := 0x411 }
/-- [I -/
def k8 : Class := { plain "[I" (some 0) with kind := .array 7 .int, interfaces := #[3, 4], accessFlags := 1041 }

def heap : Heap := #[]
def classes : Array Class := #[k0, k1, k2, k3, k4, k5, k6, k7, k8]
def interned : List (Array UInt16 × Addr) := []
def slotsUsed : Nat := 0
def theMethod : MethodId := ⟨1, 1⟩
def args0 : Array Value := #[.int 5, .int 6, .int 7, .long 8]
def aboutOver (below : List Frame) : State where
  vm := { classes := classes, interned := interned.toArray }
  heap := heap
  slotsUsed := slotsUsed
  threads := #[{ frames := .invoking theMethod args0 :: below }]
def below0 : List Frame := [.native { method := ⟨0, 0⟩, args := #[] }]
def about1 : State := aboutOver below0
def p0 : Program := .bare "" "" ""
def e0 : Env := launch0.env 0 0 0
theorem w_frames : about1.frames = Frame.invoking theMethod args0 :: below0 := rfl
set_option maxRecDepth 65536 in
theorem w_args : argsFit about1.vm theMethod args0 = true := by decide +kernel
set_option maxRecDepth 65536 in
theorem w_heap : heapFits about1 = true := by decide +kernel
set_option maxRecDepth 65536 in
theorem w_runnable : about1.curStatus? = some .runnable := by decide +kernel
set_option maxRecDepth 65536 in
theorem w_alone : about1.alone = true := by decide +kernel
set_option maxRecDepth 65536 in
theorem w_named : about1.methodNamed? x = some theMethod := by decide +kernel
set_option maxRecDepth 65536 in
theorem w_hears : about1.hears theMethod below0 = true := by decide +kernel
set_option maxRecDepth 65536 in
theorem w_ripe : about1.ripe theMethod args0 below0 = true := by decide +kernel
theorem w_running : about1.status = .running := rfl
set_option maxRecDepth 65536 in
theorem w_room : about1.hasRoom e0.platform room_1 = true :=
  launch0.hasRoom_least _ room_1 (by decide +kernel) (by decide +kernel) (by decide +kernel) (by decide +kernel) (by decide +kernel) (by decide +kernel)
theorem allAtoms_all (ts : List Jvm.Cond) (a : Array Jvm.Value) (st : Jvm.State) : (allAtoms ts).before a st = ts.all (fun c => c.before a st) := by
  induction ts with
  | nil => rfl
  | cons c t ih =>
    show (Jvm.Cond.and c (allAtoms t)).before a st = _
    rw [Jvm.Cond.before_and, ih, List.all_cons]
def words1 : List Jvm.Cond := Jvm.Cond.code x code maxLocals ret :: tables_1
/-- a 'code' word, met by the world's own term for the bytes: nothing is compared byte by byte -/
theorem code_word {y : MethodName} {bytes : ByteArray} {mx : Nat} {rt : Option FieldType} {a : Array Value} {s : State} {m : MethodId} {meth : Method} {c : Code} (h1 : s.methodNamed? y = some m) (h2 : s.vm.method? m = some meth) (h3 : meth.code = some c) (h4 : c.code = bytes)
    (h5 : (c.maxLocals == mx && c.exceptionTable.isEmpty && decide (c.maxStack ≤ mostOperands) && decide (meth.sig.returnType = rt) && !meth.locks && decide (parseMethodDescriptor y.desc = some meth.sig)) = true) : (Jvm.Cond.code y bytes mx rt).before a s = true := by
  simp only [Bool.and_eq_true, beq_iff_eq, Bool.not_eq_true', decide_eq_true_eq] at h5
  obtain ⟨⟨⟨⟨⟨g1, g2⟩, g3⟩, g4⟩, g5⟩, g6⟩ := h5
  simp [Cond.before, Cond.holds, Cond.value, h1, h2, h3, h4, g1, g2, g3, g4, g5, g6]
def isCode : Jvm.Cond → Bool
  | .code _ _ _ _ => true
  | _ => false
theorem all_split {L : List Jvm.Cond} {P : Jvm.Cond → Bool} (h1 : L.all (fun c => isCode c || P c) = true) (h2 : ∀ c ∈ L.filter isCode, P c = true) : L.all P = true := by
  refine List.all_eq_true.mpr fun c hc => ?_
  have h := List.all_eq_true.mp h1 c hc
  rcases Bool.eq_false_or_eq_true (isCode c) with hi | hi
  · exact h2 c (List.mem_filter.mpr ⟨hc, hi⟩)
  · simpa [hi] using h
set_option maxRecDepth 65536 in
theorem w_c0 : (Jvm.Cond.code x code maxLocals ret).before args0 about1 = true := code_word (m := ⟨1, 1⟩) (meth := k1m1) (c := k1c1) (by decide +kernel) rfl rfl rfl (by decide +kernel)
set_option maxRecDepth 65536 in
theorem w_c1 : (Jvm.Cond.code ({ cls := "com/example/descend/descend/XmlChars", name := "decode", desc := "([BII)I" } : Jvm.MethodName) prog_24_method_15_code (6 : Nat) (Option.some Jvm.ClassFile.FieldType.int)).before args0 about1 = true := code_word (m := ⟨2, 1⟩) (meth := k2m1) (c := k2c1) (by decide +kernel) rfl rfl rfl (by decide +kernel)
def codes1 : List Jvm.Cond := [Jvm.Cond.code x code maxLocals ret, Jvm.Cond.code ({ cls := "com/example/descend/descend/XmlChars", name := "decode", desc := "([BII)I" } : Jvm.MethodName) prog_24_method_15_code (6 : Nat) (Option.some Jvm.ClassFile.FieldType.int)]
set_option maxRecDepth 65536 in
theorem codes_eq : words1.filter isCode = codes1 := rfl
theorem w_codes : ∀ c ∈ words1.filter isCode, c.before args0 about1 = true := by
  rw [codes_eq]
  intro c hc
  simp only [codes1, List.mem_cons, List.not_mem_nil, or_false] at hc
  rcases hc with rfl | rfl
  · exact w_c0
  · exact w_c1
set_option maxRecDepth 65536 in
theorem w_t1 : words1.all (fun c => isCode c || c.before args0 about1) = true := by decide +kernel
theorem w_tables : (allAtoms (Jvm.Cond.code x code maxLocals ret :: tables_1)).before args0 about1 = true := by
  rw [allAtoms_all]
  show words1.all (fun c => c.before args0 about1) = true
  refine all_split ?_ w_codes
  rw [w_t1]
set_option maxRecDepth 65536 in
theorem w_case : (Jvm.Cond.and given_1 narrow_1).before args0 about1 = true := by decide +kernel
theorem w_applies : (headSpec (Jvm.Cond.code x code maxLocals ret :: tables_1) room_1).applies x e0.platform about1 = true :=
  (Spec.applies_iff w_frames).mpr ⟨w_running, w_runnable, w_alone, w_named, w_hears, w_ripe, w_room, w_tables⟩
theorem atStart : AtStart classFile x code maxLocals ret World_1 tables_1 room_1 Calls_1 rest_1 Pre_1 launch0 p0 e0 about1 theMethod args0 below0 :=
  ⟨lists_1, trivial, launch0.admits_env _ _ _, launch0.least_env, fairChoices_fair.cas, fairChoices_fair.clock, w_frames, w_args, w_heap, w_applies, trivial, trivial, w_case⟩
end start1
theorem witness_1 : WitnessClaimed_1 := ⟨start1.p0, start1.e0, start1.about1, start1.theMethod, start1.args0, start1.below0, start1.atStart⟩
end Jvm.Pilot.@@N@@
