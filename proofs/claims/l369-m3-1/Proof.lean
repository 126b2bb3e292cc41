import JvmDerived
import JvmDerived.Pilot.@@N@@Statement
import JvmDerived.Pilot.@@N@@Code
set_option linter.unusedVariables false
set_option linter.unusedSimpArgs false
@@BLOCK:NumsL.lean.txt@@
namespace Jvm.Pilot.@@N@@
open Jvm Jvm.ClassFile Sem Op Lib Jvm.Free Jvm.Stand Jvm.LawKit Jvm.RoadKit Bundle Jvm.Pilot.@@N@@.Jvm.D
/-! own layer: the walk in continuation form -/
section OwnWalk
variable {p : Program} {l : Launch} {e : Env} {R : Room} {s : State} {m : MethodId} {args : Array Value} {below : List Frame} {meth : Method} {c : Code} {T T' : State} {locs : List Loc} {cells slots : Nat} {Q : Option Value → Heap → List Loc → Prop} {ck sk : Nat} {f f' : JFrame} {Z : State} {a0 : Array Value} {h h' : Heap}
/-- from this state and frame the invocation returns, and what it leaves is told by Q -/
def ownEnds (p : Program) (e : Env) (below : List Frame) (s : State) (Q : Option Value → Heap → List Loc → Prop) (ck sk : Nat) (T : State) (f : JFrame) : Prop :=
  ∃ s₂ o, Steps p.tables e below (T.setTop f) s₂ ∧ s₂.status = .running ∧ Ended s₂ below o ∧ ∃ v L, o = .returned v ∧ Q v s₂.heap L ∧ FrameEnd s o s₂ L ck sk
theorem ownGo (st : ∀ target, Steps p.tables e below (T'.setTop f') target → Steps p.tables e below (T.setTop f) target) (k : ownEnds p e below s Q ck sk T' f') : ownEnds p e below s Q ck sk T f := by
  obtain ⟨a, b, h1, h2⟩ := k
  exact ⟨a, b, st _ h1, h2⟩
theorem ownRun (st : Steps p.tables e below (T.setTop f) (T'.setTop f')) (k : ownEnds p e below s Q ck sk T' f') : ownEnds p e below s Q ck sk T f :=
  ownGo (fun _ q => st.trans q) k
theorem ownCast (q : f = f') (k : ownEnds p e below s Q ck sk T f') : ownEnds p e below s Q ck sk T f := q ▸ k
theorem ownRetI (X : Stand p l e R s m args below meth c T locs cells slots) (hx : p.tables.exec = Jvm.exec) {pc : Nat} {Ls : Array Slot} {z : Int32} {rest : List Value} (hret : meth.sig.returnType = some .int) (hd : decode c.code pc = .ok (.ireturn, 1)) (hk : meth.locks = false) (hc : cells ≤ ck) (hs : slots ≤ sk)
    (hQ : Q (some (.int z)) T.heap locs) : ownEnds p e below s Q ck sk T (mkF m pc Ls (.int z :: rest)) := by
  obtain ⟨fs, hr, hrun, hended, hW, hsame⟩ := X.leave (v := some (.int z)) (fun h => by rw [hret] at h; cases h) hk
  exact ⟨_, _, retOut X hx hret rfl (Or.inl ⟨rfl, Or.inl rfl, _, rfl⟩) hd hr, hrun, hended, _, _, rfl, hQ, ⟨_, rfl⟩, hW, hsame.mono hc hs⟩
theorem ownRetN (X : Stand p l e R s m args below meth c T locs cells slots) (hx : p.tables.exec = Jvm.exec) {pc : Nat} {Ls : Array Slot} {z r : Int32} {rest : List Value} {t : FieldType} (ht : t = .boolean ∨ t = .byte ∨ t = .char ∨ t = .short) (hret : meth.sig.returnType = some t) (hd : decode c.code pc = .ok (.ireturn, 1)) (hk : meth.locks = false) (hc : cells ≤ ck) (hs : slots ≤ sk)
    (hz : nar t z = r) (hQ : Q (some (.int r)) T.heap locs) : ownEnds p e below s Q ck sk T (mkF m pc Ls (.int z :: rest)) := by
  subst hz
  obtain ⟨fs, hr, hrun, hended, hW, hsame⟩ := X.leave (v := some (.int (nar t z))) (fun h => by rw [hret] at h; cases h) hk
  exact ⟨_, _, retN X hx hret ht hd hr, hrun, hended, _, _, rfl, hQ, ⟨_, rfl⟩, hW, hsame.mono hc hs⟩
theorem ownRetJ (X : Stand p l e R s m args below meth c T locs cells slots) (hx : p.tables.exec = Jvm.exec) {pc : Nat} {Ls : Array Slot} {z : Int64} {rest : List Value} (hret : meth.sig.returnType = some .long) (hd : decode c.code pc = .ok (.lreturn, 1)) (hk : meth.locks = false) (hc : cells ≤ ck) (hs : slots ≤ sk)
    (hQ : Q (some (.long z)) T.heap locs) : ownEnds p e below s Q ck sk T (mkF m pc Ls (.long z :: rest)) := by
  obtain ⟨fs, hr, hrun, hended, hW, hsame⟩ := X.leave (v := some (.long z)) (fun h => by rw [hret] at h; cases h) hk
  exact ⟨_, _, retOut X hx hret rfl (Or.inr (Or.inl ⟨rfl, rfl, _, rfl⟩)) hd hr, hrun, hended, _, _, rfl, hQ, ⟨_, rfl⟩, hW, hsame.mono hc hs⟩
theorem ownRetR (X : Stand p l e R s m args below meth c T locs cells slots) (hx : p.tables.exec = Jvm.exec) {pc : Nat} {Ls : Array Slot} {w : Value} {rest : List Value} {t : FieldType} (ht : t.isReference = true) (hn : narrow t w = w) (hw : w.isRef = true) (hret : meth.sig.returnType = some t) (hd : decode c.code pc = .ok (.areturn, 1)) (hk : meth.locks = false) (hc : cells ≤ ck) (hs : slots ≤ sk)
    (hQ : Q (some w) T.heap locs) : ownEnds p e below s Q ck sk T (mkF m pc Ls (w :: rest)) := by
  obtain ⟨fs, hr, hrun, hended, hW, hsame⟩ := X.leave (v := some w) (fun h => by rw [hret] at h; cases h) hk
  exact ⟨_, _, retOut X hx hret hn (Or.inr (Or.inr (Or.inr (Or.inr ⟨rfl, ht, hw⟩)))) hd hr, hrun, hended, _, _, rfl, hQ, ⟨_, rfl⟩, hW, hsame.mono hc hs⟩
theorem ownRetV (X : Stand p l e R s m args below meth c T locs cells slots) (hx : p.tables.exec = Jvm.exec) {pc : Nat} {Ls : Array Slot} (hret : meth.sig.returnType = none) (hd : decode c.code pc = .ok (.return_, 1)) (hk : meth.locks = false) (hc : cells ≤ ck) (hs : slots ≤ sk)
    (hQ : Q none T.heap locs) : ownEnds p e below s Q ck sk T (mkF m pc Ls []) := by
  obtain ⟨fs, hr, hrun, hended, hW, hsame⟩ := X.leave (v := none) (fun _ => rfl) hk
  exact ⟨_, _, X.returnOut hx hret hd hr, hrun, hended, _, _, rfl, hQ, ⟨_, rfl⟩, hW, hsame.mono hc hs⟩
/-- one place of a function turned -/
def ownUpd {α : Type} (f : Nat → α) (j : Nat) (x : α) : Nat → α := fun i => if i = j then x else f i
theorem ownUpd_same {α : Type} (f : Nat → α) (j : Nat) (x : α) : ownUpd f j x j = x := if_pos rfl
theorem ownUpd_ne {α : Type} (f : Nat → α) {i j : Nat} (x : α) (q : i ≠ j) : ownUpd f j x i = f i := if_neg q
/-- an array of ints (or bytes, chars ..): its length and its components -/
def ownAI (Z : State) (h : Heap) (a : Addr) (ty : FieldType) (n : Nat) (g : Nat → Int32) : Prop := ∃ cl : Cell, Arr Z h a cl ty ∧ cl.slots.size = n ∧ n < 2 ^ 31 ∧ ∀ i, i < n → cl.slots[i]? = some (.int (g i))
/-- an array of longs -/
def ownAJ (Z : State) (h : Heap) (a : Addr) (n : Nat) (g : Nat → Int64) : Prop := ∃ cl : Cell, Arr Z h a cl .long ∧ cl.slots.size = n ∧ n < 2 ^ 31 ∧ ∀ i, i < n → cl.slots[i]? = some (.long (g i))
variable {a b : Addr} {ty : FieldType} {n : Nat} {gi : Nat → Int32} {gj : Nat → Int64} {ws : List Addr} {sl : Nat} {v : Value}
theorem ownAI.lt (F : ownAI Z h a ty n gi) : a < h.size := by obtain ⟨c, A, -⟩ := F; exact A.lt
theorem ownAI.ext (F : ownAI Z h a ty n gi) (E : Ext h h') : ownAI Z h' a ty n gi := by obtain ⟨c, A, r⟩ := F; exact ⟨c, A.ext E, r⟩
theorem ownAI.other (F : ownAI Z h b ty n gi) (W : Wr h h' a sl v) (q : b ≠ a) : ownAI Z h' b ty n gi := by obtain ⟨c, A, r⟩ := F; exact ⟨c, A.other W q, r⟩
theorem ownAI.keep (F : ownAI Z h a ty n gi) (K : Keep h h' ws) (q : a ∉ ws) : ownAI Z h' a ty n gi := by obtain ⟨c, A, r⟩ := F; exact ⟨c, ⟨K.2.1 a c A.1 q, A.2⟩, r⟩
theorem ownAJ.lt (F : ownAJ Z h a n gj) : a < h.size := by obtain ⟨c, A, -⟩ := F; exact A.lt
theorem ownAJ.ext (F : ownAJ Z h a n gj) (E : Ext h h') : ownAJ Z h' a n gj := by obtain ⟨c, A, r⟩ := F; exact ⟨c, A.ext E, r⟩
theorem ownAJ.other (F : ownAJ Z h b n gj) (W : Wr h h' a sl v) (q : b ≠ a) : ownAJ Z h' b n gj := by obtain ⟨c, A, r⟩ := F; exact ⟨c, A.other W q, r⟩
theorem ownAJ.keep (F : ownAJ Z h a n gj) (K : Keep h h' ws) (q : a ∉ ws) : ownAJ Z h' a n gj := by obtain ⟨c, A, r⟩ := F; exact ⟨c, ⟨K.2.1 a c A.1 q, A.2⟩, r⟩
theorem ownAI.new {k : ClassId} {z : Int32} (A : Arr Z h a (newA k ty z) ty) (q : ¬ z < 0) (d : defaultValue ty = .int 0) (N : z.toNatClampNeg = n) : ownAI Z h a ty n (fun _ => 0) := by
  subst N
  refine ⟨_, A, sz_new _ _ _, (back32 q).2, fun i hi => ?_⟩
  simp [newA, hi, d]
theorem ownAJ.new {k : ClassId} {z : Int32} (A : Arr Z h a (newA k .long z) .long) (q : ¬ z < 0) (N : z.toNatClampNeg = n) : ownAJ Z h a n (fun _ => 0) := by
  subst N
  refine ⟨_, A, sz_new _ _ _, (back32 q).2, fun i hi => ?_⟩
  simp [newA, hi, defaultValue]
theorem ownAI.set (F : ownAI Z h a ty n gi) {j : Nat} {x : Int32} (W : Wr h h' a j (.int x)) : ownAI Z h' a ty n (ownUpd gi j x) := by
  obtain ⟨cl, A, S, N, H⟩ := F
  refine ⟨_, A.same W, by simpa [Cell.setSlot] using S, N, fun i hi => ?_⟩
  by_cases e : i = j
  · subst e; simp [Cell.setSlot, ownUpd, S, hi]
  · rw [ownUpd_ne _ _ e]
    show (cl.slots.setIfInBounds j (.int x))[i]? = _
    rw [Array.getElem?_setIfInBounds_ne (Ne.symm e)]; exact H i hi
theorem ownAJ.set (F : ownAJ Z h a n gj) {j : Nat} {x : Int64} (W : Wr h h' a j (.long x)) : ownAJ Z h' a n (ownUpd gj j x) := by
  obtain ⟨cl, A, S, N, H⟩ := F
  refine ⟨_, A.same W, by simpa [Cell.setSlot] using S, N, fun i hi => ?_⟩
  by_cases e : i = j
  · subst e; simp [Cell.setSlot, ownUpd, S, hi]
  · rw [ownUpd_ne _ _ e]
    show (cl.slots.setIfInBounds j (.long x))[i]? = _
    rw [Array.getElem?_setIfInBounds_ne (Ne.symm e)]; exact H i hi
/-- an index is inside -/
def ownIn (j : Int32) (n : Nat) : Prop := ¬ (j < 0 ∨ n ≤ j.toNatClampNeg)
theorem ownIn_of {j : Int32} {n : Nat} (h1 : 0 ≤ j.toInt) (h2 : j.toInt < n) : ownIn j n := by
  intro q
  rcases q with q | q
  · rw [Int32.lt_iff_toInt_lt] at q; simp only [Int32.reduceToInt] at q; omega
  · simp only [Int32.toNatClampNeg] at q; omega
theorem ownIaload (F : ownAI Z h a .int n gi) (X : Stand p l e R s m args below meth c T locs cells slots) (hx : p.tables.exec = Jvm.exec) (hZ : Z.Warmed39 s.vm) (eT : T.heap = h) {j : Int32} (hin : ownIn j n) {g : JFrame} (hg : g.method = m) {rest : List Value} (hs : g.stack = .int j :: .ref a :: rest) (hd : decode c.code g.pc = .ok (.iaload, 1)) :
    ∀ target, Steps p.tables e below (T.setTop { g with pc := g.pc + 1, stack := .int (gi j.toNatClampNeg) :: rest }) target → Steps p.tables e below (T.setTop g) target := by
  obtain ⟨cl, A, S, N, H⟩ := F
  subst S
  exact fun t k => X.iaload hx (by rw [eT]; exact A.1) (State.isArrayOf_alike hZ.alike A.2.1) A.2.2 hin (H _ (Nat.lt_of_not_le fun q => hin (Or.inr q))) hg hs hd t k
theorem ownBaload (F : ownAI Z h a .byte n gi) (X : Stand p l e R s m args below meth c T locs cells slots) (hx : p.tables.exec = Jvm.exec) (hZ : Z.Warmed39 s.vm) (eT : T.heap = h) {j : Int32} (hin : ownIn j n) {g : JFrame} (hg : g.method = m) {rest : List Value} (hs : g.stack = .int j :: .ref a :: rest) (hd : decode c.code g.pc = .ok (.baload, 1)) :
    ∀ target, Steps p.tables e below (T.setTop { g with pc := g.pc + 1, stack := .int (gi j.toNatClampNeg) :: rest }) target → Steps p.tables e below (T.setTop g) target := by
  obtain ⟨cl, A, S, N, H⟩ := F
  subst S
  exact fun t k => X.baloadBytes hx (by rw [eT]; exact A.1) (State.isArrayOf_alike hZ.alike A.2.1) A.2.2 hin (H _ (Nat.lt_of_not_le fun q => hin (Or.inr q))) hg hs hd t k
theorem ownCaload (F : ownAI Z h a .char n gi) (X : Stand p l e R s m args below meth c T locs cells slots) (hx : p.tables.exec = Jvm.exec) (hZ : Z.Warmed39 s.vm) (eT : T.heap = h) {j : Int32} (hin : ownIn j n) {g : JFrame} (hg : g.method = m) {rest : List Value} (hs : g.stack = .int j :: .ref a :: rest) (hd : decode c.code g.pc = .ok (.caload, 1)) :
    ∀ target, Steps p.tables e below (T.setTop { g with pc := g.pc + 1, stack := .int (gi j.toNatClampNeg) :: rest }) target → Steps p.tables e below (T.setTop g) target := by
  obtain ⟨cl, A, S, N, H⟩ := F
  subst S
  exact fun t k => X.caload hx (by rw [eT]; exact A.1) (State.isArrayOf_alike hZ.alike A.2.1) A.2.2 hin (H _ (Nat.lt_of_not_le fun q => hin (Or.inr q))) hg hs hd t k
theorem ownLaload (F : ownAJ Z h a n gj) (X : Stand p l e R s m args below meth c T locs cells slots) (hx : p.tables.exec = Jvm.exec) (hZ : Z.Warmed39 s.vm) (eT : T.heap = h) {j : Int32} (hin : ownIn j n) {g : JFrame} (hg : g.method = m) {rest : List Value} (hs : g.stack = .int j :: .ref a :: rest) (hd : decode c.code g.pc = .ok (.laload, 1)) :
    ∀ target, Steps p.tables e below (T.setTop { g with pc := g.pc + 1, stack := .long (gj j.toNatClampNeg) :: rest }) target → Steps p.tables e below (T.setTop g) target := by
  obtain ⟨cl, A, S, N, H⟩ := F
  subst S
  exact fun t k => X.laload hx (by rw [eT]; exact A.1) (State.isArrayOf_alike hZ.alike A.2.1) A.2.2 hin (H _ (Nat.lt_of_not_le fun q => hin (Or.inr q))) hg hs hd t k
theorem ownLenI (F : ownAI Z h a ty n gi) (X : Stand p l e R s m args below meth c T locs cells slots) (hx : p.tables.exec = Jvm.exec) (hZ : Z.Warmed39 s.vm) (eT : T.heap = h) {z : Int32} (hz : n.toInt32 = z) {g : JFrame} (hg : g.method = m) {rest : List Value} (hs : g.stack = .ref a :: rest) (hd : decode c.code g.pc = .ok (.arraylength, 1)) :
    ∀ target, Steps p.tables e below (T.setTop { g with pc := g.pc + 1, stack := .int z :: rest }) target → Steps p.tables e below (T.setTop g) target := by
  obtain ⟨cl, A, S, N, H⟩ := F
  subst S hz
  exact fun t k => X.arraylength hx (by rw [eT]; exact A.1) (State.isArrayOf_alike hZ.alike A.2.1) hg hs hd t k
theorem ownLenJ (F : ownAJ Z h a n gj) (X : Stand p l e R s m args below meth c T locs cells slots) (hx : p.tables.exec = Jvm.exec) (hZ : Z.Warmed39 s.vm) (eT : T.heap = h) {z : Int32} (hz : n.toInt32 = z) {g : JFrame} (hg : g.method = m) {rest : List Value} (hs : g.stack = .ref a :: rest) (hd : decode c.code g.pc = .ok (.arraylength, 1)) :
    ∀ target, Steps p.tables e below (T.setTop { g with pc := g.pc + 1, stack := .int z :: rest }) target → Steps p.tables e below (T.setTop g) target := by
  obtain ⟨cl, A, S, N, H⟩ := F
  subst S hz
  exact fun t k => X.arraylength hx (by rw [eT]; exact A.1) (State.isArrayOf_alike hZ.alike A.2.1) hg hs hd t k
theorem ownIastore (F : ownAI Z h a .int n gi) (X : Stand p l e R s m args below meth c T locs cells slots) (hx : p.tables.exec = Jvm.exec) (hZ : Z.Warmed39 s.vm) (eT : T.heap = h) {j x : Int32} (hin : ownIn j n) {g : JFrame} (hg : g.method = m) {rest : List Value} (hs : g.stack = .int x :: .int j :: .ref a :: rest) (hd : decode c.code g.pc = .ok (.iastore, 1)) :
    ∃ T' h', Stand p l e R s m args below meth c T' (locs ++ [⟨a, j.toNatClampNeg⟩]) cells slots ∧ T'.heap = h' ∧ Wr h h' a j.toNatClampNeg (.int x) ∧ ownAI Z h' a .int n (ownUpd gi j.toNatClampNeg x) ∧ ∀ target, Steps p.tables e below (T'.setTop { g with pc := g.pc + 1, stack := rest }) target → Steps p.tables e below (T.setTop g) target := by
  obtain ⟨cl, A, S, r⟩ := id F
  obtain ⟨T', h', X', e', W, st⟩ := stI X hx hZ eT A (j := j) (by rw [S]; exact hin) hg hs hd
  exact ⟨T', h', X', e', W, F.set W, st⟩
theorem ownBastore (F : ownAI Z h a .byte n gi) (X : Stand p l e R s m args below meth c T locs cells slots) (hx : p.tables.exec = Jvm.exec) (hZ : Z.Warmed39 s.vm) (eT : T.heap = h) {j x : Int32} (hin : ownIn j n) {g : JFrame} (hg : g.method = m) {rest : List Value} (hs : g.stack = .int x :: .int j :: .ref a :: rest) (hd : decode c.code g.pc = .ok (.bastore, 1)) :
    ∃ T' h', Stand p l e R s m args below meth c T' (locs ++ [⟨a, j.toNatClampNeg⟩]) cells slots ∧ T'.heap = h' ∧ Wr h h' a j.toNatClampNeg (.int (nar .byte x)) ∧ ownAI Z h' a .byte n (ownUpd gi j.toNatClampNeg (nar .byte x)) ∧ ∀ target, Steps p.tables e below (T'.setTop { g with pc := g.pc + 1, stack := rest }) target → Steps p.tables e below (T.setTop g) target := by
  obtain ⟨cl, A, S, r⟩ := id F
  obtain ⟨T', h', X', e', W, st⟩ := stB X hx hZ eT A (j := j) (by rw [S]; exact hin) hg hs hd
  exact ⟨T', h', X', e', W, F.set W, st⟩
theorem ownCastore (F : ownAI Z h a .char n gi) (X : Stand p l e R s m args below meth c T locs cells slots) (hx : p.tables.exec = Jvm.exec) (hZ : Z.Warmed39 s.vm) (eT : T.heap = h) {j x : Int32} (hin : ownIn j n) {g : JFrame} (hg : g.method = m) {rest : List Value} (hs : g.stack = .int x :: .int j :: .ref a :: rest) (hd : decode c.code g.pc = .ok (.castore, 1)) :
    ∃ T' h', Stand p l e R s m args below meth c T' (locs ++ [⟨a, j.toNatClampNeg⟩]) cells slots ∧ T'.heap = h' ∧ Wr h h' a j.toNatClampNeg (.int (nar .char x)) ∧ ownAI Z h' a .char n (ownUpd gi j.toNatClampNeg (nar .char x)) ∧ ∀ target, Steps p.tables e below (T'.setTop { g with pc := g.pc + 1, stack := rest }) target → Steps p.tables e below (T.setTop g) target := by
  obtain ⟨cl, A, S, r⟩ := id F
  obtain ⟨T', h', X', e', W, st⟩ := stC X hx hZ eT A (j := j) (by rw [S]; exact hin) hg hs hd
  exact ⟨T', h', X', e', W, F.set W, st⟩
theorem ownLastore (F : ownAJ Z h a n gj) (X : Stand p l e R s m args below meth c T locs cells slots) (hx : p.tables.exec = Jvm.exec) (hZ : Z.Warmed39 s.vm) (eT : T.heap = h) {j : Int32} {x : Int64} (hin : ownIn j n) {g : JFrame} (hg : g.method = m) {rest : List Value} (hs : g.stack = .long x :: .int j :: .ref a :: rest) (hd : decode c.code g.pc = .ok (.lastore, 1)) :
    ∃ T' h', Stand p l e R s m args below meth c T' (locs ++ [⟨a, j.toNatClampNeg⟩]) cells slots ∧ T'.heap = h' ∧ Wr h h' a j.toNatClampNeg (.long x) ∧ ownAJ Z h' a n (ownUpd gj j.toNatClampNeg x) ∧ ∀ target, Steps p.tables e below (T'.setTop { g with pc := g.pc + 1, stack := rest }) target → Steps p.tables e below (T.setTop g) target := by
  obtain ⟨cl, A, S, r⟩ := id F
  obtain ⟨T', h', X', e', W, st⟩ := stJ X hx hZ eT A (j := j) (by rw [S]; exact hin) hg hs hd
  exact ⟨T', h', X', e', W, F.set W, st⟩
theorem own_narb {x v : Int32} (h : x.toInt8.toInt32 = v) : nar .byte v = v := by subst h; simp [nar]
theorem own_narc {x v : Int32} (h : x.toUInt32.toUInt16.toUInt32.toInt32 = v) : nar .char v = v := by subst h; simp only [nar, UInt32.toUInt32_toInt32, UInt16.toUInt16_toUInt32]
theorem own_evInt {args : Array Value} {t : Term} {k : Int32} (h : (Cond.eq t (.int k)).value args s none s [] = some true) : t.eval args s none [] s = some (.int k) := by
  simp only [Cond.value, Term.eval] at h
  cases ht : t.eval args s none [] s with
  | none => simp [ht] at h
  | some x => cases x <;> simp [ht] at h ⊢; exact h
theorem own_fldInt {args : Array Value} {t : Term} {C n d : String} {k : Int32} {x : Addr} (h : (Cond.eq (.field t C n d) (.int k)).value args s none s [] = some true) (ht : t.eval args s none [] s = some (.ref x)) : Fld s s.heap x C n d (.int k) :=
  Fld.start ((fld_at ht).symm.trans (own_evInt h))
end OwnWalk
section OwnSteps
variable {p : Program} {l : Launch} {e : Env} {R : Room} {s : State} {m : MethodId} {args : Array Value} {below : List Frame} {meth : Method} {c : Code} {T : State} {locs : List Loc} {cells slots : Nat} {Q : Option Value → Heap → List Loc → Prop} {ck sk : Nat}
theorem ow_iloadN (X : Stand p l e R s m args below meth c T locs cells slots) (hx : p.tables.exec = Jvm.exec) {pc q : Nat} {Ls : Array Slot} {S : List Value} {k : Fin 4} {v : Int32} (hd : decode c.code pc = .ok (.iload_n k, 1)) (hq : pc + 1 = q) (hl : Ls[k.val]? = some (.val (.int v))) (k : ownEnds p e below s Q ck sk T (mkF m q Ls (.int v :: S))) : ownEnds p e below s Q ck sk T (mkF m pc Ls S) := by
  subst hq
  exact ownGo (fun _ k => XS.iloadN X.here hx rfl hd hl k) k
theorem ow_iload (X : Stand p l e R s m args below meth c T locs cells slots) (hx : p.tables.exec = Jvm.exec) {pc q : Nat} {Ls : Array Slot} {S : List Value} {k : Nat} {v : Int32} (hd : decode c.code pc = .ok (.iload k, 2)) (hq : pc + 2 = q) (hl : Ls[k]? = some (.val (.int v))) (k : ownEnds p e below s Q ck sk T (mkF m q Ls (.int v :: S))) : ownEnds p e below s Q ck sk T (mkF m pc Ls S) := by
  subst hq
  exact ownGo (fun _ k => XS.iload X.here hx rfl hd hl k) k
theorem ow_istoreN (X : Stand p l e R s m args below meth c T locs cells slots) (hx : p.tables.exec = Jvm.exec) {pc q : Nat} {Ls : Array Slot} {S : List Value} {k : Fin 4} {v : Int32} {L' : Array Slot} (hd : decode c.code pc = .ok (.istore_n k, 1)) (hq : pc + 1 = q) (hl : storeLocals Ls k.val (.int v) = some L') (k : ownEnds p e below s Q ck sk T (mkF m q L' S)) : ownEnds p e below s Q ck sk T (mkF m pc Ls (.int v :: S)) := by
  subst hq
  exact ownGo (fun _ k => XS.istoreN X.here hx rfl hd rfl hl k) k
theorem ow_istore (X : Stand p l e R s m args below meth c T locs cells slots) (hx : p.tables.exec = Jvm.exec) {pc q : Nat} {Ls : Array Slot} {S : List Value} {k : Nat} {v : Int32} {L' : Array Slot} (hd : decode c.code pc = .ok (.istore k, 2)) (hq : pc + 2 = q) (hl : storeLocals Ls k (.int v) = some L') (k : ownEnds p e below s Q ck sk T (mkF m q L' S)) : ownEnds p e below s Q ck sk T (mkF m pc Ls (.int v :: S)) := by
  subst hq
  exact ownGo (fun _ k => XS.istore X.here hx rfl hd rfl hl k) k
theorem ow_lloadN (X : Stand p l e R s m args below meth c T locs cells slots) (hx : p.tables.exec = Jvm.exec) {pc q : Nat} {Ls : Array Slot} {S : List Value} {k : Fin 4} {v : Int64} (hd : decode c.code pc = .ok (.lload_n k, 1)) (hq : pc + 1 = q) (hl : Ls[k.val]? = some (.val (.long v))) (k : ownEnds p e below s Q ck sk T (mkF m q Ls (.long v :: S))) : ownEnds p e below s Q ck sk T (mkF m pc Ls S) := by
  subst hq
  exact ownGo (fun _ k => XS.lloadN X.here hx rfl hd hl k) k
theorem ow_lload (X : Stand p l e R s m args below meth c T locs cells slots) (hx : p.tables.exec = Jvm.exec) {pc q : Nat} {Ls : Array Slot} {S : List Value} {k : Nat} {v : Int64} (hd : decode c.code pc = .ok (.lload k, 2)) (hq : pc + 2 = q) (hl : Ls[k]? = some (.val (.long v))) (k : ownEnds p e below s Q ck sk T (mkF m q Ls (.long v :: S))) : ownEnds p e below s Q ck sk T (mkF m pc Ls S) := by
  subst hq
  exact ownGo (fun _ k => XS.lload X.here hx rfl hd hl k) k
theorem ow_lstoreN (X : Stand p l e R s m args below meth c T locs cells slots) (hx : p.tables.exec = Jvm.exec) {pc q : Nat} {Ls : Array Slot} {S : List Value} {k : Fin 4} {v : Int64} {L' : Array Slot} (hd : decode c.code pc = .ok (.lstore_n k, 1)) (hq : pc + 1 = q) (hl : storeLocals Ls k.val (.long v) = some L') (k : ownEnds p e below s Q ck sk T (mkF m q L' S)) : ownEnds p e below s Q ck sk T (mkF m pc Ls (.long v :: S)) := by
  subst hq
  exact ownGo (fun _ k => XS.lstoreN X.here hx rfl hd rfl hl k) k
theorem ow_lstore (X : Stand p l e R s m args below meth c T locs cells slots) (hx : p.tables.exec = Jvm.exec) {pc q : Nat} {Ls : Array Slot} {S : List Value} {k : Nat} {v : Int64} {L' : Array Slot} (hd : decode c.code pc = .ok (.lstore k, 2)) (hq : pc + 2 = q) (hl : storeLocals Ls k (.long v) = some L') (k : ownEnds p e below s Q ck sk T (mkF m q L' S)) : ownEnds p e below s Q ck sk T (mkF m pc Ls (.long v :: S)) := by
  subst hq
  exact ownGo (fun _ k => XS.lstore X.here hx rfl hd rfl hl k) k
theorem ow_aloadN (X : Stand p l e R s m args below meth c T locs cells slots) (hx : p.tables.exec = Jvm.exec) {pc q : Nat} {Ls : Array Slot} {S : List Value} {k : Fin 4} {v : Value} (hd : decode c.code pc = .ok (.aload_n k, 1)) (hq : pc + 1 = q) (hl : Ls[k.val]? = some (.val v)) (hv : v.isRef = true) (k : ownEnds p e below s Q ck sk T (mkF m q Ls (v :: S))) : ownEnds p e below s Q ck sk T (mkF m pc Ls S) := by
  subst hq
  exact ownGo (fun _ k => XS.aloadN X.here hx rfl hd hl hv k) k
theorem ow_aload (X : Stand p l e R s m args below meth c T locs cells slots) (hx : p.tables.exec = Jvm.exec) {pc q : Nat} {Ls : Array Slot} {S : List Value} {k : Nat} {v : Value} (hd : decode c.code pc = .ok (.aload k, 2)) (hq : pc + 2 = q) (hl : Ls[k]? = some (.val v)) (hv : v.isRef = true) (k : ownEnds p e below s Q ck sk T (mkF m q Ls (v :: S))) : ownEnds p e below s Q ck sk T (mkF m pc Ls S) := by
  subst hq
  exact ownGo (fun _ k => XS.aload X.here hx rfl hd hl hv k) k
theorem ow_astoreN (X : Stand p l e R s m args below meth c T locs cells slots) (hx : p.tables.exec = Jvm.exec) {pc q : Nat} {Ls : Array Slot} {S : List Value} {k : Fin 4} {v : Value} {L' : Array Slot} (hd : decode c.code pc = .ok (.astore_n k, 1)) (hq : pc + 1 = q) (hv : v.isRef = true) (hl : storeLocals Ls k.val v = some L') (k : ownEnds p e below s Q ck sk T (mkF m q L' S)) : ownEnds p e below s Q ck sk T (mkF m pc Ls (v :: S)) := by
  subst hq
  exact ownGo (fun _ k => XS.astoreN X.here hx rfl hd rfl hv hl k) k
theorem ow_astore (X : Stand p l e R s m args below meth c T locs cells slots) (hx : p.tables.exec = Jvm.exec) {pc q : Nat} {Ls : Array Slot} {S : List Value} {k : Nat} {v : Value} {L' : Array Slot} (hd : decode c.code pc = .ok (.astore k, 2)) (hq : pc + 2 = q) (hv : v.isRef = true) (hl : storeLocals Ls k v = some L') (k : ownEnds p e below s Q ck sk T (mkF m q L' S)) : ownEnds p e below s Q ck sk T (mkF m pc Ls (v :: S)) := by
  subst hq
  exact ownGo (fun _ k => XS.astore X.here hx rfl hd rfl hv hl k) k
theorem ow_iconst (X : Stand p l e R s m args below meth c T locs cells slots) (hx : p.tables.exec = Jvm.exec) {pc q : Nat} {Ls : Array Slot} {S : List Value} {i : Int} (v : Int32) (hd : decode c.code pc = .ok (.iconst i, 1)) (hq : pc + 1 = q) (hz : Int32.ofInt i = v) (k : ownEnds p e below s Q ck sk T (mkF m q Ls (.int v :: S))) : ownEnds p e below s Q ck sk T (mkF m pc Ls S) := by
  subst hq hz
  exact ownGo (fun _ k => XS.iconst X.here hx rfl hd k) k
theorem ow_bipush (X : Stand p l e R s m args below meth c T locs cells slots) (hx : p.tables.exec = Jvm.exec) {pc q : Nat} {Ls : Array Slot} {S : List Value} {i : Int} (v : Int32) (hd : decode c.code pc = .ok (.bipush i, 2)) (hq : pc + 2 = q) (hz : (Int8.ofInt i).toInt32 = v) (k : ownEnds p e below s Q ck sk T (mkF m q Ls (.int v :: S))) : ownEnds p e below s Q ck sk T (mkF m pc Ls S) := by
  subst hq hz
  exact ownGo (fun _ k => XS.bipush X.here hx rfl hd k) k
theorem ow_sipush (X : Stand p l e R s m args below meth c T locs cells slots) (hx : p.tables.exec = Jvm.exec) {pc q : Nat} {Ls : Array Slot} {S : List Value} {i : Int} (v : Int32) (hd : decode c.code pc = .ok (.sipush i, 3)) (hq : pc + 3 = q) (hz : (Int16.ofInt i).toInt32 = v) (k : ownEnds p e below s Q ck sk T (mkF m q Ls (.int v :: S))) : ownEnds p e below s Q ck sk T (mkF m pc Ls S) := by
  subst hq hz
  exact ownGo (fun _ k => XS.sipush X.here hx rfl hd k) k
theorem ow_lconst (X : Stand p l e R s m args below meth c T locs cells slots) (hx : p.tables.exec = Jvm.exec) {pc q : Nat} {Ls : Array Slot} {S : List Value} {i : Fin 2} (v : Int64) (hd : decode c.code pc = .ok (.lconst i, 1)) (hq : pc + 1 = q) (hz : Int64.ofNat i = v) (k : ownEnds p e below s Q ck sk T (mkF m q Ls (.long v :: S))) : ownEnds p e below s Q ck sk T (mkF m pc Ls S) := by
  subst hq hz
  exact ownGo (fun _ k => XS.lconst X.here hx rfl hd k) k
theorem ow_iadd (X : Stand p l e R s m args below meth c T locs cells slots) (hx : p.tables.exec = Jvm.exec) {pc q : Nat} {Ls : Array Slot} {S : List Value} {x y : Int32} (z : Int32) (hd : decode c.code pc = .ok (.iadd, 1)) (hq : pc + 1 = q) (hz : x + y = z) (k : ownEnds p e below s Q ck sk T (mkF m q Ls (.int z :: S))) : ownEnds p e below s Q ck sk T (mkF m pc Ls (.int y :: .int x :: S)) := by
  subst hq hz
  exact ownGo (fun _ k => XS.iadd X.here hx rfl hd rfl k) k
theorem ow_ladd (X : Stand p l e R s m args below meth c T locs cells slots) (hx : p.tables.exec = Jvm.exec) {pc q : Nat} {Ls : Array Slot} {S : List Value} {x y : Int64} (z : Int64) (hd : decode c.code pc = .ok (.ladd, 1)) (hq : pc + 1 = q) (hz : x + y = z) (k : ownEnds p e below s Q ck sk T (mkF m q Ls (.long z :: S))) : ownEnds p e below s Q ck sk T (mkF m pc Ls (.long y :: .long x :: S)) := by
  subst hq hz
  exact ownGo (fun _ k => XS.ladd X.here hx rfl hd rfl k) k
theorem ow_isub (X : Stand p l e R s m args below meth c T locs cells slots) (hx : p.tables.exec = Jvm.exec) {pc q : Nat} {Ls : Array Slot} {S : List Value} {x y : Int32} (z : Int32) (hd : decode c.code pc = .ok (.isub, 1)) (hq : pc + 1 = q) (hz : x - y = z) (k : ownEnds p e below s Q ck sk T (mkF m q Ls (.int z :: S))) : ownEnds p e below s Q ck sk T (mkF m pc Ls (.int y :: .int x :: S)) := by
  subst hq hz
  exact ownGo (fun _ k => XS.isub X.here hx rfl hd rfl k) k
theorem ow_lsub (X : Stand p l e R s m args below meth c T locs cells slots) (hx : p.tables.exec = Jvm.exec) {pc q : Nat} {Ls : Array Slot} {S : List Value} {x y : Int64} (z : Int64) (hd : decode c.code pc = .ok (.lsub, 1)) (hq : pc + 1 = q) (hz : x - y = z) (k : ownEnds p e below s Q ck sk T (mkF m q Ls (.long z :: S))) : ownEnds p e below s Q ck sk T (mkF m pc Ls (.long y :: .long x :: S)) := by
  subst hq hz
  exact ownGo (fun _ k => XS.lsub X.here hx rfl hd rfl k) k
theorem ow_imul (X : Stand p l e R s m args below meth c T locs cells slots) (hx : p.tables.exec = Jvm.exec) {pc q : Nat} {Ls : Array Slot} {S : List Value} {x y : Int32} (z : Int32) (hd : decode c.code pc = .ok (.imul, 1)) (hq : pc + 1 = q) (hz : x * y = z) (k : ownEnds p e below s Q ck sk T (mkF m q Ls (.int z :: S))) : ownEnds p e below s Q ck sk T (mkF m pc Ls (.int y :: .int x :: S)) := by
  subst hq hz
  exact ownGo (fun _ k => XS.imul X.here hx rfl hd rfl k) k
theorem ow_lmul (X : Stand p l e R s m args below meth c T locs cells slots) (hx : p.tables.exec = Jvm.exec) {pc q : Nat} {Ls : Array Slot} {S : List Value} {x y : Int64} (z : Int64) (hd : decode c.code pc = .ok (.lmul, 1)) (hq : pc + 1 = q) (hz : x * y = z) (k : ownEnds p e below s Q ck sk T (mkF m q Ls (.long z :: S))) : ownEnds p e below s Q ck sk T (mkF m pc Ls (.long y :: .long x :: S)) := by
  subst hq hz
  exact ownGo (fun _ k => XS.lmul X.here hx rfl hd rfl k) k
theorem ow_iand (X : Stand p l e R s m args below meth c T locs cells slots) (hx : p.tables.exec = Jvm.exec) {pc q : Nat} {Ls : Array Slot} {S : List Value} {x y : Int32} (z : Int32) (hd : decode c.code pc = .ok (.iand, 1)) (hq : pc + 1 = q) (hz : x &&& y = z) (k : ownEnds p e below s Q ck sk T (mkF m q Ls (.int z :: S))) : ownEnds p e below s Q ck sk T (mkF m pc Ls (.int y :: .int x :: S)) := by
  subst hq hz
  exact ownGo (fun _ k => XS.iand X.here hx rfl hd rfl k) k
theorem ow_land (X : Stand p l e R s m args below meth c T locs cells slots) (hx : p.tables.exec = Jvm.exec) {pc q : Nat} {Ls : Array Slot} {S : List Value} {x y : Int64} (z : Int64) (hd : decode c.code pc = .ok (.land, 1)) (hq : pc + 1 = q) (hz : x &&& y = z) (k : ownEnds p e below s Q ck sk T (mkF m q Ls (.long z :: S))) : ownEnds p e below s Q ck sk T (mkF m pc Ls (.long y :: .long x :: S)) := by
  subst hq hz
  exact ownGo (fun _ k => XS.land X.here hx rfl hd rfl k) k
theorem ow_ior (X : Stand p l e R s m args below meth c T locs cells slots) (hx : p.tables.exec = Jvm.exec) {pc q : Nat} {Ls : Array Slot} {S : List Value} {x y : Int32} (z : Int32) (hd : decode c.code pc = .ok (.ior, 1)) (hq : pc + 1 = q) (hz : x ||| y = z) (k : ownEnds p e below s Q ck sk T (mkF m q Ls (.int z :: S))) : ownEnds p e below s Q ck sk T (mkF m pc Ls (.int y :: .int x :: S)) := by
  subst hq hz
  exact ownGo (fun _ k => XS.ior X.here hx rfl hd rfl k) k
theorem ow_lor (X : Stand p l e R s m args below meth c T locs cells slots) (hx : p.tables.exec = Jvm.exec) {pc q : Nat} {Ls : Array Slot} {S : List Value} {x y : Int64} (z : Int64) (hd : decode c.code pc = .ok (.lor, 1)) (hq : pc + 1 = q) (hz : x ||| y = z) (k : ownEnds p e below s Q ck sk T (mkF m q Ls (.long z :: S))) : ownEnds p e below s Q ck sk T (mkF m pc Ls (.long y :: .long x :: S)) := by
  subst hq hz
  exact ownGo (fun _ k => XS.lor X.here hx rfl hd rfl k) k
theorem ow_ixor (X : Stand p l e R s m args below meth c T locs cells slots) (hx : p.tables.exec = Jvm.exec) {pc q : Nat} {Ls : Array Slot} {S : List Value} {x y : Int32} (z : Int32) (hd : decode c.code pc = .ok (.ixor, 1)) (hq : pc + 1 = q) (hz : x ^^^ y = z) (k : ownEnds p e below s Q ck sk T (mkF m q Ls (.int z :: S))) : ownEnds p e below s Q ck sk T (mkF m pc Ls (.int y :: .int x :: S)) := by
  subst hq hz
  exact ownGo (fun _ k => XS.ixor X.here hx rfl hd rfl k) k
theorem ow_lxor (X : Stand p l e R s m args below meth c T locs cells slots) (hx : p.tables.exec = Jvm.exec) {pc q : Nat} {Ls : Array Slot} {S : List Value} {x y : Int64} (z : Int64) (hd : decode c.code pc = .ok (.lxor, 1)) (hq : pc + 1 = q) (hz : x ^^^ y = z) (k : ownEnds p e below s Q ck sk T (mkF m q Ls (.long z :: S))) : ownEnds p e below s Q ck sk T (mkF m pc Ls (.long y :: .long x :: S)) := by
  subst hq hz
  exact ownGo (fun _ k => XS.lxor X.here hx rfl hd rfl k) k
theorem ow_ishl (X : Stand p l e R s m args below meth c T locs cells slots) (hx : p.tables.exec = Jvm.exec) {pc q : Nat} {Ls : Array Slot} {S : List Value} {x y : Int32} (z : Int32) (hd : decode c.code pc = .ok (.ishl, 1)) (hq : pc + 1 = q) (hz : x <<< (y &&& 31) = z) (k : ownEnds p e below s Q ck sk T (mkF m q Ls (.int z :: S))) : ownEnds p e below s Q ck sk T (mkF m pc Ls (.int y :: .int x :: S)) := by
  subst hq hz
  exact ownGo (fun _ k => XS.ishl X.here hx rfl hd rfl k) k
theorem ow_ishr (X : Stand p l e R s m args below meth c T locs cells slots) (hx : p.tables.exec = Jvm.exec) {pc q : Nat} {Ls : Array Slot} {S : List Value} {x y : Int32} (z : Int32) (hd : decode c.code pc = .ok (.ishr, 1)) (hq : pc + 1 = q) (hz : x >>> (y &&& 31) = z) (k : ownEnds p e below s Q ck sk T (mkF m q Ls (.int z :: S))) : ownEnds p e below s Q ck sk T (mkF m pc Ls (.int y :: .int x :: S)) := by
  subst hq hz
  exact ownGo (fun _ k => XS.ishr X.here hx rfl hd rfl k) k
theorem ow_iushr (X : Stand p l e R s m args below meth c T locs cells slots) (hx : p.tables.exec = Jvm.exec) {pc q : Nat} {Ls : Array Slot} {S : List Value} {x y : Int32} (z : Int32) (hd : decode c.code pc = .ok (.iushr, 1)) (hq : pc + 1 = q) (hz : (x.toUInt32 >>> (y &&& 31).toUInt32).toInt32 = z) (k : ownEnds p e below s Q ck sk T (mkF m q Ls (.int z :: S))) : ownEnds p e below s Q ck sk T (mkF m pc Ls (.int y :: .int x :: S)) := by
  subst hq hz
  exact ownGo (fun _ k => XS.iushr X.here hx rfl hd rfl k) k
theorem ow_lshl (X : Stand p l e R s m args below meth c T locs cells slots) (hx : p.tables.exec = Jvm.exec) {pc q : Nat} {Ls : Array Slot} {S : List Value} {x : Int64} {y : Int32} (z : Int64) (hd : decode c.code pc = .ok (.lshl, 1)) (hq : pc + 1 = q) (hz : x <<< (y &&& 0x3f).toInt64 = z) (k : ownEnds p e below s Q ck sk T (mkF m q Ls (.long z :: S))) : ownEnds p e below s Q ck sk T (mkF m pc Ls (.int y :: .long x :: S)) := by
  subst hq hz
  exact ownGo (fun _ k => XS.lshl X.here hx rfl hd rfl k) k
theorem ow_lshr (X : Stand p l e R s m args below meth c T locs cells slots) (hx : p.tables.exec = Jvm.exec) {pc q : Nat} {Ls : Array Slot} {S : List Value} {x : Int64} {y : Int32} (z : Int64) (hd : decode c.code pc = .ok (.lshr, 1)) (hq : pc + 1 = q) (hz : x >>> (y &&& 0x3f).toInt64 = z) (k : ownEnds p e below s Q ck sk T (mkF m q Ls (.long z :: S))) : ownEnds p e below s Q ck sk T (mkF m pc Ls (.int y :: .long x :: S)) := by
  subst hq hz
  exact ownGo (fun _ k => XS.lshr X.here hx rfl hd rfl k) k
theorem ow_lushr (X : Stand p l e R s m args below meth c T locs cells slots) (hx : p.tables.exec = Jvm.exec) {pc q : Nat} {Ls : Array Slot} {S : List Value} {x : Int64} {y : Int32} (z : Int64) (hd : decode c.code pc = .ok (.lushr, 1)) (hq : pc + 1 = q) (hz : (x.toUInt64 >>> (y &&& 0x3f).toInt64.toUInt64).toInt64 = z) (k : ownEnds p e below s Q ck sk T (mkF m q Ls (.long z :: S))) : ownEnds p e below s Q ck sk T (mkF m pc Ls (.int y :: .long x :: S)) := by
  subst hq hz
  exact ownGo (fun _ k => XS.lushr X.here hx rfl hd rfl k) k
theorem ow_ineg (X : Stand p l e R s m args below meth c T locs cells slots) (hx : p.tables.exec = Jvm.exec) {pc q : Nat} {Ls : Array Slot} {S : List Value} {x : Int32} (z : Int32) (hd : decode c.code pc = .ok (.ineg, 1)) (hq : pc + 1 = q) (hz : -x = z) (k : ownEnds p e below s Q ck sk T (mkF m q Ls (.int z :: S))) : ownEnds p e below s Q ck sk T (mkF m pc Ls (.int x :: S)) := by
  subst hq hz
  exact ownGo (fun _ k => XS.ineg X.here hx rfl hd rfl k) k
theorem ow_lneg (X : Stand p l e R s m args below meth c T locs cells slots) (hx : p.tables.exec = Jvm.exec) {pc q : Nat} {Ls : Array Slot} {S : List Value} {x : Int64} (z : Int64) (hd : decode c.code pc = .ok (.lneg, 1)) (hq : pc + 1 = q) (hz : -x = z) (k : ownEnds p e below s Q ck sk T (mkF m q Ls (.long z :: S))) : ownEnds p e below s Q ck sk T (mkF m pc Ls (.long x :: S)) := by
  subst hq hz
  exact ownGo (fun _ k => XS.lneg X.here hx rfl hd rfl k) k
theorem ow_i2l (X : Stand p l e R s m args below meth c T locs cells slots) (hx : p.tables.exec = Jvm.exec) {pc q : Nat} {Ls : Array Slot} {S : List Value} {x : Int32} (z : Int64) (hd : decode c.code pc = .ok (.i2l, 1)) (hq : pc + 1 = q) (hz : x.toInt64 = z) (k : ownEnds p e below s Q ck sk T (mkF m q Ls (.long z :: S))) : ownEnds p e below s Q ck sk T (mkF m pc Ls (.int x :: S)) := by
  subst hq hz
  exact ownGo (fun _ k => XS.i2l X.here hx rfl hd rfl k) k
theorem ow_l2i (X : Stand p l e R s m args below meth c T locs cells slots) (hx : p.tables.exec = Jvm.exec) {pc q : Nat} {Ls : Array Slot} {S : List Value} {x : Int64} (z : Int32) (hd : decode c.code pc = .ok (.l2i, 1)) (hq : pc + 1 = q) (hz : x.toInt32 = z) (k : ownEnds p e below s Q ck sk T (mkF m q Ls (.int z :: S))) : ownEnds p e below s Q ck sk T (mkF m pc Ls (.long x :: S)) := by
  subst hq hz
  exact ownGo (fun _ k => XS.l2i X.here hx rfl hd rfl k) k
theorem ow_i2b (X : Stand p l e R s m args below meth c T locs cells slots) (hx : p.tables.exec = Jvm.exec) {pc q : Nat} {Ls : Array Slot} {S : List Value} {x : Int32} (z : Int32) (hd : decode c.code pc = .ok (.i2b, 1)) (hq : pc + 1 = q) (hz : x.toInt8.toInt32 = z) (k : ownEnds p e below s Q ck sk T (mkF m q Ls (.int z :: S))) : ownEnds p e below s Q ck sk T (mkF m pc Ls (.int x :: S)) := by
  subst hq hz
  exact ownGo (fun _ k => XS.i2b X.here hx rfl hd rfl k) k
theorem ow_i2s (X : Stand p l e R s m args below meth c T locs cells slots) (hx : p.tables.exec = Jvm.exec) {pc q : Nat} {Ls : Array Slot} {S : List Value} {x : Int32} (z : Int32) (hd : decode c.code pc = .ok (.i2s, 1)) (hq : pc + 1 = q) (hz : x.toInt16.toInt32 = z) (k : ownEnds p e below s Q ck sk T (mkF m q Ls (.int z :: S))) : ownEnds p e below s Q ck sk T (mkF m pc Ls (.int x :: S)) := by
  subst hq hz
  exact ownGo (fun _ k => XS.i2s X.here hx rfl hd rfl k) k
theorem ow_i2c (X : Stand p l e R s m args below meth c T locs cells slots) (hx : p.tables.exec = Jvm.exec) {pc q : Nat} {Ls : Array Slot} {S : List Value} {x : Int32} (z : Int32) (hd : decode c.code pc = .ok (.i2c, 1)) (hq : pc + 1 = q) (hz : x.toUInt32.toUInt16.toUInt32.toInt32 = z) (k : ownEnds p e below s Q ck sk T (mkF m q Ls (.int z :: S))) : ownEnds p e below s Q ck sk T (mkF m pc Ls (.int x :: S)) := by
  subst hq hz
  exact ownGo (fun _ k => XS.i2c X.here hx rfl hd rfl k) k
theorem ow_lcmp (X : Stand p l e R s m args below meth c T locs cells slots) (hx : p.tables.exec = Jvm.exec) {pc q : Nat} {Ls : Array Slot} {S : List Value} {x y : Int64} (z : Int32) (hd : decode c.code pc = .ok (.lcmp, 1)) (hq : pc + 1 = q) (hz : Jvm.Free.XT.cmpL x y = z) (k : ownEnds p e below s Q ck sk T (mkF m q Ls (.int z :: S))) : ownEnds p e below s Q ck sk T (mkF m pc Ls (.long y :: .long x :: S)) := by
  subst hq hz
  exact ownGo (fun _ k => Jvm.Free.XT.lcmp X.here hx rfl hd rfl k) k
theorem ow_idiv (X : Stand p l e R s m args below meth c T locs cells slots) (hx : p.tables.exec = Jvm.exec) {pc q : Nat} {Ls : Array Slot} {S : List Value} {x y : Int32} (z : Int32) (hd : decode c.code pc = .ok (.idiv, 1)) (hq : pc + 1 = q) (hy : y ≠ 0) (hz : x / y = z) (k : ownEnds p e below s Q ck sk T (mkF m q Ls (.int z :: S))) : ownEnds p e below s Q ck sk T (mkF m pc Ls (.int y :: .int x :: S)) := by
  subst hq hz
  exact ownGo (fun _ k => XS.idiv X.here hx rfl hd rfl hy k) k
theorem ow_irem (X : Stand p l e R s m args below meth c T locs cells slots) (hx : p.tables.exec = Jvm.exec) {pc q : Nat} {Ls : Array Slot} {S : List Value} {x y : Int32} (z : Int32) (hd : decode c.code pc = .ok (.irem, 1)) (hq : pc + 1 = q) (hy : y ≠ 0) (hz : x % y = z) (k : ownEnds p e below s Q ck sk T (mkF m q Ls (.int z :: S))) : ownEnds p e below s Q ck sk T (mkF m pc Ls (.int y :: .int x :: S)) := by
  subst hq hz
  exact ownGo (fun _ k => iremM X hx rfl hd rfl hy k) k
theorem ow_ldiv (X : Stand p l e R s m args below meth c T locs cells slots) (hx : p.tables.exec = Jvm.exec) {pc q : Nat} {Ls : Array Slot} {S : List Value} {x y : Int64} (z : Int64) (hd : decode c.code pc = .ok (.ldiv, 1)) (hq : pc + 1 = q) (hy : y ≠ 0) (hz : x / y = z) (k : ownEnds p e below s Q ck sk T (mkF m q Ls (.long z :: S))) : ownEnds p e below s Q ck sk T (mkF m pc Ls (.long y :: .long x :: S)) := by
  subst hq hz
  exact ownGo (fun _ k => XS.ldiv X.here hx rfl hd rfl hy k) k
theorem ow_lrem (X : Stand p l e R s m args below meth c T locs cells slots) (hx : p.tables.exec = Jvm.exec) {pc q : Nat} {Ls : Array Slot} {S : List Value} {x y : Int64} (z : Int64) (hd : decode c.code pc = .ok (.lrem, 1)) (hq : pc + 1 = q) (hy : y ≠ 0) (hz : x - (x / y) * y = z) (k : ownEnds p e below s Q ck sk T (mkF m q Ls (.long z :: S))) : ownEnds p e below s Q ck sk T (mkF m pc Ls (.long y :: .long x :: S)) := by
  subst hq hz
  exact ownGo (fun _ k => XS.lrem X.here hx rfl hd rfl hy k) k
theorem ow_iinc (X : Stand p l e R s m args below meth c T locs cells slots) (hx : p.tables.exec = Jvm.exec) {pc q : Nat} {Ls : Array Slot} {S : List Value} {k : Nat} {i : Int} {x : Int32} {L' : Array Slot} (hd : decode c.code pc = .ok (.iinc k i, 3)) (hq : pc + 3 = q) (hl : Ls[k]? = some (.val (.int x))) (hl' : storeLocals Ls k (.int (x + Int32.ofInt i)) = some L') (k : ownEnds p e below s Q ck sk T (mkF m q L' S)) : ownEnds p e below s Q ck sk T (mkF m pc Ls S) := by
  subst hq
  exact ownGo (fun _ k => XS.iinc X.here hx rfl hd hl hl' k) k
theorem ow_dup (X : Stand p l e R s m args below meth c T locs cells slots) (hx : p.tables.exec = Jvm.exec) {pc q : Nat} {Ls : Array Slot} {S : List Value} {v : Value} (hd : decode c.code pc = .ok (.dup, 1)) (hq : pc + 1 = q) (hc : v.category = 1) (k : ownEnds p e below s Q ck sk T (mkF m q Ls (v :: v :: S))) : ownEnds p e below s Q ck sk T (mkF m pc Ls (v :: S)) := by
  subst hq
  exact ownGo (fun _ k => XS.dup X.here hx rfl hd rfl hc k) k
theorem ow_dupX1 (X : Stand p l e R s m args below meth c T locs cells slots) (hx : p.tables.exec = Jvm.exec) {pc q : Nat} {Ls : Array Slot} {S : List Value} {v w : Value} (hd : decode c.code pc = .ok (.dup_x1, 1)) (hq : pc + 1 = q) (hc : v.category = 1) (hc' : w.category = 1) (k : ownEnds p e below s Q ck sk T (mkF m q Ls (v :: w :: v :: S))) : ownEnds p e below s Q ck sk T (mkF m pc Ls (v :: w :: S)) := by
  subst hq
  exact ownGo (fun _ k => XS.dupX1 X.here hx rfl hd rfl hc hc' k) k
theorem ow_dup2 (X : Stand p l e R s m args below meth c T locs cells slots) (hx : p.tables.exec = Jvm.exec) {pc q : Nat} {Ls : Array Slot} {S : List Value} {v w : Value} (hd : decode c.code pc = .ok (.dup2, 1)) (hq : pc + 1 = q) (hc : v.category = 1) (hc' : w.category = 1) (k : ownEnds p e below s Q ck sk T (mkF m q Ls (v :: w :: v :: w :: S))) : ownEnds p e below s Q ck sk T (mkF m pc Ls (v :: w :: S)) := by
  subst hq
  exact ownGo (fun _ k => Jvm.Free.XT.dup2 X.here hx rfl hd rfl hc hc' k) k
theorem ow_dup2L (X : Stand p l e R s m args below meth c T locs cells slots) (hx : p.tables.exec = Jvm.exec) {pc q : Nat} {Ls : Array Slot} {S : List Value} {v : Int64} (hd : decode c.code pc = .ok (.dup2, 1)) (hq : pc + 1 = q) (k : ownEnds p e below s Q ck sk T (mkF m q Ls (.long v :: .long v :: S))) : ownEnds p e below s Q ck sk T (mkF m pc Ls (.long v :: S)) := by
  subst hq
  exact ownGo (fun _ k => Jvm.Free.XT.dup2L X.here hx rfl hd rfl k) k
theorem ow_pop (X : Stand p l e R s m args below meth c T locs cells slots) (hx : p.tables.exec = Jvm.exec) {pc q : Nat} {Ls : Array Slot} {S : List Value} {v : Value} (hd : decode c.code pc = .ok (.pop, 1)) (hq : pc + 1 = q) (hc : v.category = 1) (k : ownEnds p e below s Q ck sk T (mkF m q Ls S)) : ownEnds p e below s Q ck sk T (mkF m pc Ls (v :: S)) := by
  subst hq
  exact ownGo (fun _ k => XS.pop X.here hx rfl hd rfl hc k) k
theorem ow_aconstNull (X : Stand p l e R s m args below meth c T locs cells slots) (hx : p.tables.exec = Jvm.exec) {pc q : Nat} {Ls : Array Slot} {S : List Value}  (hd : decode c.code pc = .ok (.aconst_null, 1)) (hq : pc + 1 = q) (k : ownEnds p e below s Q ck sk T (mkF m q Ls (.null :: S))) : ownEnds p e below s Q ck sk T (mkF m pc Ls S) := by
  subst hq
  exact ownGo (fun _ k => XS.aconstNull X.here hx rfl hd k) k
theorem ow_goto (X : Stand p l e R s m args below meth c T locs cells slots) (hx : p.tables.exec = Jvm.exec) {pc q : Nat} {Ls : Array Slot} {S : List Value} {o : Int} (hd : decode c.code pc = .ok (.goto o, 3)) (ho : 0 ≤ (pc : Int) + o) (hp : ((pc : Int) + o).toNat = q) (k : ownEnds p e below s Q ck sk T (mkF m q Ls S)) : ownEnds p e below s Q ck sk T (mkF m pc Ls S) :=
  ownGo (fun _ k => XS.goto X.here hx rfl rfl hd ho hp k) k
theorem ow_ifYes (X : Stand p l e R s m args below meth c T locs cells slots) (hx : p.tables.exec = Jvm.exec) {pc q : Nat} {Ls : Array Slot} {S : List Value} {cd : ClassFile.Cond} {o : Int} {x : Int32} (hd : decode c.code pc = .ok (.ifCond cd o, 3)) (hc : ifCond.holds cd x = true) (ho : 0 ≤ (pc : Int) + o) (hp : ((pc : Int) + o).toNat = q) (k : ownEnds p e below s Q ck sk T (mkF m q Ls S)) : ownEnds p e below s Q ck sk T (mkF m pc Ls (.int x :: S)) :=
  ownGo (fun _ k => XS.ifYes X.here hx rfl rfl hd rfl hc ho hp k) k
theorem ow_ifNo (X : Stand p l e R s m args below meth c T locs cells slots) (hx : p.tables.exec = Jvm.exec) {pc q : Nat} {Ls : Array Slot} {S : List Value} {cd : ClassFile.Cond} {o : Int} {x : Int32} (hd : decode c.code pc = .ok (.ifCond cd o, 3)) (hq : pc + 3 = q) (hc : ifCond.holds cd x = false) (k : ownEnds p e below s Q ck sk T (mkF m q Ls S)) : ownEnds p e below s Q ck sk T (mkF m pc Ls (.int x :: S)) := by
  subst hq
  exact ownGo (fun _ k => XS.ifNo X.here hx rfl hd rfl hc k) k
theorem ow_icmpYes (X : Stand p l e R s m args below meth c T locs cells slots) (hx : p.tables.exec = Jvm.exec) {pc q : Nat} {Ls : Array Slot} {S : List Value} {cd : ClassFile.Cond} {o : Int} {x y : Int32} (hd : decode c.code pc = .ok (.if_icmp cd o, 3)) (hc : if_icmp.holds cd x y = true) (ho : 0 ≤ (pc : Int) + o) (hp : ((pc : Int) + o).toNat = q) (k : ownEnds p e below s Q ck sk T (mkF m q Ls S)) : ownEnds p e below s Q ck sk T (mkF m pc Ls (.int y :: .int x :: S)) :=
  ownGo (fun _ k => XS.icmpYes X.here hx rfl rfl hd rfl hc ho hp k) k
theorem ow_icmpNo (X : Stand p l e R s m args below meth c T locs cells slots) (hx : p.tables.exec = Jvm.exec) {pc q : Nat} {Ls : Array Slot} {S : List Value} {cd : ClassFile.Cond} {o : Int} {x y : Int32} (hd : decode c.code pc = .ok (.if_icmp cd o, 3)) (hq : pc + 3 = q) (hc : if_icmp.holds cd x y = false) (k : ownEnds p e below s Q ck sk T (mkF m q Ls S)) : ownEnds p e below s Q ck sk T (mkF m pc Ls (.int y :: .int x :: S)) := by
  subst hq
  exact ownGo (fun _ k => XS.icmpNo X.here hx rfl hd rfl hc k) k
end OwnSteps
def own_asc (b ii f t : Int32) : Int32 := if ¬ ii < f ∧ ii < t ∧ (127 : Int32) < (b &&& (255 : Int32)) then 0 else 1
def own_agr (g : Nat → Int32) (f t : Int32) : Int32 := if (¬ (0 : Int32) < f ∧ (0 : Int32) < t ∧ g 0 < (0 : Int32)) ∨ (¬ (1 : Int32) < f ∧ (1 : Int32) < t ∧ g 1 < (0 : Int32)) ∨ (¬ (2 : Int32) < f ∧ (2 : Int32) < t ∧ g 2 < (0 : Int32)) ∨ (¬ (3 : Int32) < f ∧ (3 : Int32) < t ∧ g 3 < (0 : Int32)) then 0 else 1
theorem own_byte {x v : Int32} (h : x.toInt8.toInt32 = v) : -128 ≤ v.toInt ∧ v.toInt < 128 := by
  rw [← h, Int8.toInt_toInt32]
  exact ⟨Int8.le_toInt _, Int8.toInt_lt _⟩
theorem own_neg {b : Int32} (h : -128 ≤ b.toInt ∧ b.toInt < 128) : ((127 : Int32) < (b &&& (255 : Int32))) ↔ b < (0 : Int32) := by
  have h1 := Jvm.Kit.i32_mask b 255 (k := 8) (by decide) (by decide)
  simp only [Int32.lt_iff_toInt_lt, Int32.reduceToInt]
  rw [h1]
  omega
theorem own_ascz {b ii f t : Int32} (h : -128 ≤ b.toInt ∧ b.toInt < 128) : own_asc b ii f t = (0 : Int32) ↔ (¬ ii < f ∧ ii < t ∧ b < (0 : Int32)) := by
  unfold own_asc
  simp only [own_neg h]
  split
  · simp_all
  · rename_i q
    exact ⟨fun w => absurd w (by decide), fun w => absurd w q⟩
theorem own_fin {g : Nat → Int32} {b0 b1 b2 b3 f t : Int32} (r0 : -128 ≤ b0.toInt ∧ b0.toInt < 128) (r1 : -128 ≤ b1.toInt ∧ b1.toInt < 128) (r2 : -128 ≤ b2.toInt ∧ b2.toInt < 128) (r3 : -128 ≤ b3.toInt ∧ b3.toInt < 128) (e0 : g 0 = b0) (e1 : g 1 = b1) (e2 : g 2 = b2) (e3 : g 3 = b3) :
    own_agr g f t = if own_asc b0 (0 : Int32) f t = (0 : Int32) ∨ own_asc b1 (1 : Int32) f t = (0 : Int32) ∨ own_asc b2 (2 : Int32) f t = (0 : Int32) ∨ own_asc b3 (3 : Int32) f t = (0 : Int32) then 0 else 1 := by
  subst e0 e1 e2 e3
  unfold own_agr
  simp only [own_ascz r0, own_ascz r1, own_ascz r2, own_ascz r3]
theorem own_five {a v : Int32} (h : (a &&& (2147483647 : Int32)) % (5 : Int32) = v) : v = (0 : Int32) ∨ v = (1 : Int32) ∨ v = (2 : Int32) ∨ v = (3 : Int32) ∨ v = (4 : Int32) := by
  have h1 := Jvm.Kit.i32_mask a 2147483647 (k := 31) (by decide) (by decide)
  have h2 : 0 ≤ (a &&& (2147483647 : Int32)).toInt := by rw [h1]; exact Int.emod_nonneg _ (by decide)
  have h3 := Jvm.Kit.i32_rem_nonneg (y := 5) h2
  rw [h] at h3
  simp only [← Int32.toInt_inj, Int32.reduceToInt] at h3 ⊢
  omega
theorem own_pn_EncodingAgreesWithUtf8PinLaw : plainName "com/example/descend/descend/EncodingAgreesWithUtf8PinLaw" = true := by first | (simp [plainName, overriddenIn]; done) | decide +kernel
theorem own_d2_0 : decode method_3_code 0 = .ok (.iload_n 1, 1) := by decide +kernel
theorem own_d2_1 : decode method_3_code 1 = .ok (.iload_n 2, 1) := by decide +kernel
theorem own_d2_2 : decode method_3_code 2 = .ok (.if_icmp .lt 8, 3) := by decide +kernel
theorem own_d2_10 : decode method_3_code 10 = .ok (.iconst 1, 1) := by decide +kernel
theorem own_d2_11 : decode method_3_code 11 = .ok (.ireturn, 1) := by decide +kernel
theorem own_d2_5 : decode method_3_code 5 = .ok (.iload_n 1, 1) := by decide +kernel
theorem own_d2_6 : decode method_3_code 6 = .ok (.iload_n 3, 1) := by decide +kernel
theorem own_d2_7 : decode method_3_code 7 = .ok (.if_icmp .lt 5, 3) := by decide +kernel
theorem own_d2_12 : decode method_3_code 12 = .ok (.aload_n 0, 1) := by decide +kernel
theorem own_d2_13 : decode method_3_code 13 = .ok (.iload_n 1, 1) := by decide +kernel
theorem own_d2_14 : decode method_3_code 14 = .ok (.baload, 1) := by decide +kernel
theorem own_d2_15 : decode method_3_code 15 = .ok (.sipush 255, 3) := by decide +kernel
theorem own_d2_18 : decode method_3_code 18 = .ok (.iand, 1) := by decide +kernel
theorem own_d2_19 : decode method_3_code 19 = .ok (.istore 4, 2) := by decide +kernel
theorem own_d2_21 : decode method_3_code 21 = .ok (.iload 4, 2) := by decide +kernel
theorem own_d2_23 : decode method_3_code 23 = .ok (.bipush 127, 2) := by decide +kernel
theorem own_d2_25 : decode method_3_code 25 = .ok (.if_icmp .gt 7, 3) := by decide +kernel
theorem own_d2_32 : decode method_3_code 32 = .ok (.iconst 0, 1) := by decide +kernel
theorem own_d2_33 : decode method_3_code 33 = .ok (.ireturn, 1) := by decide +kernel
theorem own_d2_28 : decode method_3_code 28 = .ok (.iconst 1, 1) := by decide +kernel
theorem own_d2_29 : decode method_3_code 29 = .ok (.goto 4, 3) := by decide +kernel
theorem own_ef2_asc_0 (m : MethodId) (a0 : Addr) (p2 : Int32) (p3 : Int32) : entryFrame m #[(.ref a0), (.int (0 : Int32)), (.int p2), (.int p3)] 5 = mkF m 0 #[rv a0, iv (0 : Int32), iv p2, iv p3, .unset] [] := by first | (simp [entryFrame, mkF, argsToLocals, Value.category]; done) | rfl
def Q_asc_0 (Z : State) (a0 : Addr) (p2 : Int32) (p3 : Int32) (g : Nat → Int32) (h0 : Heap) (n0 : Nat) (v : Option Value) (h : Heap) (L : List Loc) : Prop := v = some (.int (own_asc (g 0) (0 : Int32) p2 p3)) ∧ Fr n0 L ∧ h = h0
set_option maxRecDepth 65536 in
set_option maxHeartbeats 40000000 in
theorem rm_asc_0 (l : Launch) (Z : State) (av0 : Array Value) (hw : ∀ d ∈ tables_1, d.before av0 Z = true) (ws : List Jvm.Cond) (a0 : Addr) (p2 : Int32) (p3 : Int32) (g : Nat → Int32) (h0 : Heap) (n0 : Nat) (Z0 : n0 ≤ h0.size) (HF0 : ownAI Z h0 a0 .byte 4 g) :
    MetFree l (⟨"com/example/descend/descend/EncodingAgreesWithUtf8PinLaw", "asciiOrOutside", "([BIII)Z"⟩ : MethodName) (head1 (Jvm.Cond.code (⟨"com/example/descend/descend/EncodingAgreesWithUtf8PinLaw", "asciiOrOutside", "([BIII)Z"⟩ : MethodName) method_3_code 5 (some .boolean) :: ws) ({ frames := 0, cells := 0, slots := 0, locals := 0 } : Room)) (fun a U => a = #[(.ref a0), (.int (0 : Int32)), (.int p2), (.int p3)] ∧ Z.Warmed39 U.vm ∧ U.heap = h0) (fun _ _ _ _ _ => True) (fun _ U o U' => ∃ v L, o = .returned v ∧ (Q_asc_0 Z a0 p2 p3 g h0 n0) v U'.heap L ∧ FrameEnd U o U' L ({ frames := 0, cells := 0, slots := 0, locals := 0 } : Room).cells ({ frames := 0, cells := 0, slots := 0, locals := 0 } : Room).slots) := by
  refine MetFree.of_bodySF (plainFor_of_name own_pn_EncodingAgreesWithUtf8PinLaw) hisR ?_
  intro p e s m args below meth c s₁ Bd hml0 hP hK
  obtain ⟨rfl, hZ, hh⟩ := hP
  have hx := Bd.exec
  have hby := Bd.bytes
  have hml : c.maxLocals = 5 := hml0
  have hown : s.vm.findClass "com/example/descend/descend/EncodingAgreesWithUtf8PinLaw" = some m.cls := findClass_of_methodNamed Bd.named
  have hnm := (name_of_methodNamed Bd.named Bd.method).1
  have hlk : meth.locks = false := BodyLoose.notSynchronized Bd
  have X0 : Stand p l e ({ frames := 0, cells := 0, slots := 0, locals := 0 } : Room) s m #[(.ref a0), (.int (0 : Int32)), (.int p2), (.int p3)] below meth c s₁ [] 0 0 := Stand.of_body Bd
  have e0 : s₁.heap = h0 := by rw [← hh, Bd.state]; rfl
  have N0 := Fr.nil n0
  have K0 : Keep h0 h0 [] := Keep.refl _ _
  show ownEnds p e below s (Q_asc_0 Z a0 p2 p3 g h0 n0) ({ frames := 0, cells := 0, slots := 0, locals := 0 } : Room).cells ({ frames := 0, cells := 0, slots := 0, locals := 0 } : Room).slots s₁ (entryFrame m #[(.ref a0), (.int (0 : Int32)), (.int p2), (.int p3)] 5)
  refine ownCast (own_ef2_asc_0 m a0 p2 p3) ?_
  refine ow_iloadN (q := 1) X0 hx (hb hby own_d2_0) rfl rfl ?_
  refine ow_iloadN (q := 2) X0 hx (hb hby own_d2_1) rfl rfl ?_
  by_cases hc2_1 : (0 : Int32) < p2
  · refine ow_icmpYes (q := 10) X0 hx (hb hby own_d2_2) (Jvm.Free.XT.ii_lt_t hc2_1) (by decide) (by decide) ?_
    refine ow_iconst (q := 11) X0 hx (1 : Int32) (hb hby own_d2_10) rfl rfl ?_
    refine ownRetN X0 hx (r := (1 : Int32)) (Or.inl rfl) Bd.returns (hb hby own_d2_11) hlk (by decide) (by decide) (by decide) ?_
    rw [e0]
    refine ⟨congrArg (fun q => some (Value.int q)) ?_, N0, rfl⟩
    simp [own_asc, hc2_1]
  · refine ow_icmpNo (q := 5) X0 hx (hb hby own_d2_2) rfl (Jvm.Free.XT.ii_lt_f hc2_1) ?_
    refine ow_iloadN (q := 6) X0 hx (hb hby own_d2_5) rfl rfl ?_
    refine ow_iloadN (q := 7) X0 hx (hb hby own_d2_6) rfl rfl ?_
    by_cases hc7_2 : (0 : Int32) < p3
    · refine ow_icmpYes (q := 12) X0 hx (hb hby own_d2_7) (Jvm.Free.XT.ii_lt_t hc7_2) (by decide) (by decide) ?_
      refine ow_aloadN (q := 13) X0 hx (hb hby own_d2_12) rfl rfl rfl ?_
      refine ow_iloadN (q := 14) X0 hx (hb hby own_d2_13) rfl rfl ?_
      refine ownGo (T' := s₁) (f' := (mkF m 15 #[rv a0, iv (0 : Int32), iv p2, iv p3, .unset] [(.int (g 0))])) (ownBaload HF0 X0 hx hZ e0 (j := (0 : Int32)) (by unfold ownIn; decide) (g := (mkF m 14 #[rv a0, iv (0 : Int32), iv p2, iv p3, .unset] [(.int (0 : Int32)), (.ref a0)])) rfl rfl (hb hby own_d2_14)) ?_
      generalize hv_v3 : (g 0) = v3
      refine ow_sipush (q := 18) X0 hx (255 : Int32) (hb hby own_d2_15) rfl rfl ?_
      refine ow_iand (q := 19) X0 hx _ (hb hby own_d2_18) rfl rfl ?_
      generalize hv_v4 : (v3 &&& (255 : Int32)) = v4
      refine ow_istore (q := 21) X0 hx (L' := #[rv a0, iv (0 : Int32), iv p2, iv p3, iv v4]) (hb hby own_d2_19) rfl rfl ?_
      refine ow_iload (q := 23) X0 hx (hb hby own_d2_21) rfl rfl ?_
      refine ow_bipush (q := 25) X0 hx (127 : Int32) (hb hby own_d2_23) rfl rfl ?_
      by_cases hc25_5 : (127 : Int32) < v4
      · refine ow_icmpYes (q := 32) X0 hx (hb hby own_d2_25) (Jvm.Free.XT.ii_gt_t hc25_5) (by decide) (by decide) ?_
        refine ow_iconst (q := 33) X0 hx (0 : Int32) (hb hby own_d2_32) rfl rfl ?_
        refine ownRetN X0 hx (r := (0 : Int32)) (Or.inl rfl) Bd.returns (hb hby own_d2_33) hlk (by decide) (by decide) (by decide) ?_
        subst hv_v4 hv_v3
        rw [e0]
        refine ⟨congrArg (fun q => some (Value.int q)) ?_, N0, rfl⟩
        simp [own_asc, hc2_1, hc7_2, hc25_5]
      · refine ow_icmpNo (q := 28) X0 hx (hb hby own_d2_25) rfl (Jvm.Free.XT.ii_gt_f hc25_5) ?_
        refine ow_iconst (q := 29) X0 hx (1 : Int32) (hb hby own_d2_28) rfl rfl ?_
        refine ow_goto (q := 33) X0 hx (hb hby own_d2_29) (by decide) (by decide) ?_
        refine ownRetN X0 hx (r := (1 : Int32)) (Or.inl rfl) Bd.returns (hb hby own_d2_33) hlk (by decide) (by decide) (by decide) ?_
        subst hv_v4 hv_v3
        rw [e0]
        refine ⟨congrArg (fun q => some (Value.int q)) ?_, N0, rfl⟩
        simp [own_asc, hc2_1, hc7_2, hc25_5]
    · refine ow_icmpNo (q := 10) X0 hx (hb hby own_d2_7) rfl (Jvm.Free.XT.ii_lt_f hc7_2) ?_
      refine ow_iconst (q := 11) X0 hx (1 : Int32) (hb hby own_d2_10) rfl rfl ?_
      refine ownRetN X0 hx (r := (1 : Int32)) (Or.inl rfl) Bd.returns (hb hby own_d2_11) hlk (by decide) (by decide) (by decide) ?_
      rw [e0]
      refine ⟨congrArg (fun q => some (Value.int q)) ?_, N0, rfl⟩
      simp [own_asc, hc2_1, hc7_2]
theorem own_ef2_asc_1 (m : MethodId) (a0 : Addr) (p2 : Int32) (p3 : Int32) : entryFrame m #[(.ref a0), (.int (1 : Int32)), (.int p2), (.int p3)] 5 = mkF m 0 #[rv a0, iv (1 : Int32), iv p2, iv p3, .unset] [] := by first | (simp [entryFrame, mkF, argsToLocals, Value.category]; done) | rfl
def Q_asc_1 (Z : State) (a0 : Addr) (p2 : Int32) (p3 : Int32) (g : Nat → Int32) (h0 : Heap) (n0 : Nat) (v : Option Value) (h : Heap) (L : List Loc) : Prop := v = some (.int (own_asc (g 1) (1 : Int32) p2 p3)) ∧ Fr n0 L ∧ h = h0
set_option maxRecDepth 65536 in
set_option maxHeartbeats 40000000 in
theorem rm_asc_1 (l : Launch) (Z : State) (av0 : Array Value) (hw : ∀ d ∈ tables_1, d.before av0 Z = true) (ws : List Jvm.Cond) (a0 : Addr) (p2 : Int32) (p3 : Int32) (g : Nat → Int32) (h0 : Heap) (n0 : Nat) (Z0 : n0 ≤ h0.size) (HF0 : ownAI Z h0 a0 .byte 4 g) :
    MetFree l (⟨"com/example/descend/descend/EncodingAgreesWithUtf8PinLaw", "asciiOrOutside", "([BIII)Z"⟩ : MethodName) (head1 (Jvm.Cond.code (⟨"com/example/descend/descend/EncodingAgreesWithUtf8PinLaw", "asciiOrOutside", "([BIII)Z"⟩ : MethodName) method_3_code 5 (some .boolean) :: ws) ({ frames := 0, cells := 0, slots := 0, locals := 0 } : Room)) (fun a U => a = #[(.ref a0), (.int (1 : Int32)), (.int p2), (.int p3)] ∧ Z.Warmed39 U.vm ∧ U.heap = h0) (fun _ _ _ _ _ => True) (fun _ U o U' => ∃ v L, o = .returned v ∧ (Q_asc_1 Z a0 p2 p3 g h0 n0) v U'.heap L ∧ FrameEnd U o U' L ({ frames := 0, cells := 0, slots := 0, locals := 0 } : Room).cells ({ frames := 0, cells := 0, slots := 0, locals := 0 } : Room).slots) := by
  refine MetFree.of_bodySF (plainFor_of_name own_pn_EncodingAgreesWithUtf8PinLaw) hisR ?_
  intro p e s m args below meth c s₁ Bd hml0 hP hK
  obtain ⟨rfl, hZ, hh⟩ := hP
  have hx := Bd.exec
  have hby := Bd.bytes
  have hml : c.maxLocals = 5 := hml0
  have hown : s.vm.findClass "com/example/descend/descend/EncodingAgreesWithUtf8PinLaw" = some m.cls := findClass_of_methodNamed Bd.named
  have hnm := (name_of_methodNamed Bd.named Bd.method).1
  have hlk : meth.locks = false := BodyLoose.notSynchronized Bd
  have X0 : Stand p l e ({ frames := 0, cells := 0, slots := 0, locals := 0 } : Room) s m #[(.ref a0), (.int (1 : Int32)), (.int p2), (.int p3)] below meth c s₁ [] 0 0 := Stand.of_body Bd
  have e0 : s₁.heap = h0 := by rw [← hh, Bd.state]; rfl
  have N0 := Fr.nil n0
  have K0 : Keep h0 h0 [] := Keep.refl _ _
  show ownEnds p e below s (Q_asc_1 Z a0 p2 p3 g h0 n0) ({ frames := 0, cells := 0, slots := 0, locals := 0 } : Room).cells ({ frames := 0, cells := 0, slots := 0, locals := 0 } : Room).slots s₁ (entryFrame m #[(.ref a0), (.int (1 : Int32)), (.int p2), (.int p3)] 5)
  refine ownCast (own_ef2_asc_1 m a0 p2 p3) ?_
  refine ow_iloadN (q := 1) X0 hx (hb hby own_d2_0) rfl rfl ?_
  refine ow_iloadN (q := 2) X0 hx (hb hby own_d2_1) rfl rfl ?_
  by_cases hc2_1 : (1 : Int32) < p2
  · refine ow_icmpYes (q := 10) X0 hx (hb hby own_d2_2) (Jvm.Free.XT.ii_lt_t hc2_1) (by decide) (by decide) ?_
    refine ow_iconst (q := 11) X0 hx (1 : Int32) (hb hby own_d2_10) rfl rfl ?_
    refine ownRetN X0 hx (r := (1 : Int32)) (Or.inl rfl) Bd.returns (hb hby own_d2_11) hlk (by decide) (by decide) (by decide) ?_
    rw [e0]
    refine ⟨congrArg (fun q => some (Value.int q)) ?_, N0, rfl⟩
    simp [own_asc, hc2_1]
  · refine ow_icmpNo (q := 5) X0 hx (hb hby own_d2_2) rfl (Jvm.Free.XT.ii_lt_f hc2_1) ?_
    refine ow_iloadN (q := 6) X0 hx (hb hby own_d2_5) rfl rfl ?_
    refine ow_iloadN (q := 7) X0 hx (hb hby own_d2_6) rfl rfl ?_
    by_cases hc7_2 : (1 : Int32) < p3
    · refine ow_icmpYes (q := 12) X0 hx (hb hby own_d2_7) (Jvm.Free.XT.ii_lt_t hc7_2) (by decide) (by decide) ?_
      refine ow_aloadN (q := 13) X0 hx (hb hby own_d2_12) rfl rfl rfl ?_
      refine ow_iloadN (q := 14) X0 hx (hb hby own_d2_13) rfl rfl ?_
      refine ownGo (T' := s₁) (f' := (mkF m 15 #[rv a0, iv (1 : Int32), iv p2, iv p3, .unset] [(.int (g 1))])) (ownBaload HF0 X0 hx hZ e0 (j := (1 : Int32)) (by unfold ownIn; decide) (g := (mkF m 14 #[rv a0, iv (1 : Int32), iv p2, iv p3, .unset] [(.int (1 : Int32)), (.ref a0)])) rfl rfl (hb hby own_d2_14)) ?_
      generalize hv_v3 : (g 1) = v3
      refine ow_sipush (q := 18) X0 hx (255 : Int32) (hb hby own_d2_15) rfl rfl ?_
      refine ow_iand (q := 19) X0 hx _ (hb hby own_d2_18) rfl rfl ?_
      generalize hv_v4 : (v3 &&& (255 : Int32)) = v4
      refine ow_istore (q := 21) X0 hx (L' := #[rv a0, iv (1 : Int32), iv p2, iv p3, iv v4]) (hb hby own_d2_19) rfl rfl ?_
      refine ow_iload (q := 23) X0 hx (hb hby own_d2_21) rfl rfl ?_
      refine ow_bipush (q := 25) X0 hx (127 : Int32) (hb hby own_d2_23) rfl rfl ?_
      by_cases hc25_5 : (127 : Int32) < v4
      · refine ow_icmpYes (q := 32) X0 hx (hb hby own_d2_25) (Jvm.Free.XT.ii_gt_t hc25_5) (by decide) (by decide) ?_
        refine ow_iconst (q := 33) X0 hx (0 : Int32) (hb hby own_d2_32) rfl rfl ?_
        refine ownRetN X0 hx (r := (0 : Int32)) (Or.inl rfl) Bd.returns (hb hby own_d2_33) hlk (by decide) (by decide) (by decide) ?_
        subst hv_v4 hv_v3
        rw [e0]
        refine ⟨congrArg (fun q => some (Value.int q)) ?_, N0, rfl⟩
        simp [own_asc, hc2_1, hc7_2, hc25_5]
      · refine ow_icmpNo (q := 28) X0 hx (hb hby own_d2_25) rfl (Jvm.Free.XT.ii_gt_f hc25_5) ?_
        refine ow_iconst (q := 29) X0 hx (1 : Int32) (hb hby own_d2_28) rfl rfl ?_
        refine ow_goto (q := 33) X0 hx (hb hby own_d2_29) (by decide) (by decide) ?_
        refine ownRetN X0 hx (r := (1 : Int32)) (Or.inl rfl) Bd.returns (hb hby own_d2_33) hlk (by decide) (by decide) (by decide) ?_
        subst hv_v4 hv_v3
        rw [e0]
        refine ⟨congrArg (fun q => some (Value.int q)) ?_, N0, rfl⟩
        simp [own_asc, hc2_1, hc7_2, hc25_5]
    · refine ow_icmpNo (q := 10) X0 hx (hb hby own_d2_7) rfl (Jvm.Free.XT.ii_lt_f hc7_2) ?_
      refine ow_iconst (q := 11) X0 hx (1 : Int32) (hb hby own_d2_10) rfl rfl ?_
      refine ownRetN X0 hx (r := (1 : Int32)) (Or.inl rfl) Bd.returns (hb hby own_d2_11) hlk (by decide) (by decide) (by decide) ?_
      rw [e0]
      refine ⟨congrArg (fun q => some (Value.int q)) ?_, N0, rfl⟩
      simp [own_asc, hc2_1, hc7_2]
theorem own_ef2_asc_2 (m : MethodId) (a0 : Addr) (p2 : Int32) (p3 : Int32) : entryFrame m #[(.ref a0), (.int (2 : Int32)), (.int p2), (.int p3)] 5 = mkF m 0 #[rv a0, iv (2 : Int32), iv p2, iv p3, .unset] [] := by first | (simp [entryFrame, mkF, argsToLocals, Value.category]; done) | rfl
def Q_asc_2 (Z : State) (a0 : Addr) (p2 : Int32) (p3 : Int32) (g : Nat → Int32) (h0 : Heap) (n0 : Nat) (v : Option Value) (h : Heap) (L : List Loc) : Prop := v = some (.int (own_asc (g 2) (2 : Int32) p2 p3)) ∧ Fr n0 L ∧ h = h0
set_option maxRecDepth 65536 in
set_option maxHeartbeats 40000000 in
theorem rm_asc_2 (l : Launch) (Z : State) (av0 : Array Value) (hw : ∀ d ∈ tables_1, d.before av0 Z = true) (ws : List Jvm.Cond) (a0 : Addr) (p2 : Int32) (p3 : Int32) (g : Nat → Int32) (h0 : Heap) (n0 : Nat) (Z0 : n0 ≤ h0.size) (HF0 : ownAI Z h0 a0 .byte 4 g) :
    MetFree l (⟨"com/example/descend/descend/EncodingAgreesWithUtf8PinLaw", "asciiOrOutside", "([BIII)Z"⟩ : MethodName) (head1 (Jvm.Cond.code (⟨"com/example/descend/descend/EncodingAgreesWithUtf8PinLaw", "asciiOrOutside", "([BIII)Z"⟩ : MethodName) method_3_code 5 (some .boolean) :: ws) ({ frames := 0, cells := 0, slots := 0, locals := 0 } : Room)) (fun a U => a = #[(.ref a0), (.int (2 : Int32)), (.int p2), (.int p3)] ∧ Z.Warmed39 U.vm ∧ U.heap = h0) (fun _ _ _ _ _ => True) (fun _ U o U' => ∃ v L, o = .returned v ∧ (Q_asc_2 Z a0 p2 p3 g h0 n0) v U'.heap L ∧ FrameEnd U o U' L ({ frames := 0, cells := 0, slots := 0, locals := 0 } : Room).cells ({ frames := 0, cells := 0, slots := 0, locals := 0 } : Room).slots) := by
  refine MetFree.of_bodySF (plainFor_of_name own_pn_EncodingAgreesWithUtf8PinLaw) hisR ?_
  intro p e s m args below meth c s₁ Bd hml0 hP hK
  obtain ⟨rfl, hZ, hh⟩ := hP
  have hx := Bd.exec
  have hby := Bd.bytes
  have hml : c.maxLocals = 5 := hml0
  have hown : s.vm.findClass "com/example/descend/descend/EncodingAgreesWithUtf8PinLaw" = some m.cls := findClass_of_methodNamed Bd.named
  have hnm := (name_of_methodNamed Bd.named Bd.method).1
  have hlk : meth.locks = false := BodyLoose.notSynchronized Bd
  have X0 : Stand p l e ({ frames := 0, cells := 0, slots := 0, locals := 0 } : Room) s m #[(.ref a0), (.int (2 : Int32)), (.int p2), (.int p3)] below meth c s₁ [] 0 0 := Stand.of_body Bd
  have e0 : s₁.heap = h0 := by rw [← hh, Bd.state]; rfl
  have N0 := Fr.nil n0
  have K0 : Keep h0 h0 [] := Keep.refl _ _
  show ownEnds p e below s (Q_asc_2 Z a0 p2 p3 g h0 n0) ({ frames := 0, cells := 0, slots := 0, locals := 0 } : Room).cells ({ frames := 0, cells := 0, slots := 0, locals := 0 } : Room).slots s₁ (entryFrame m #[(.ref a0), (.int (2 : Int32)), (.int p2), (.int p3)] 5)
  refine ownCast (own_ef2_asc_2 m a0 p2 p3) ?_
  refine ow_iloadN (q := 1) X0 hx (hb hby own_d2_0) rfl rfl ?_
  refine ow_iloadN (q := 2) X0 hx (hb hby own_d2_1) rfl rfl ?_
  by_cases hc2_1 : (2 : Int32) < p2
  · refine ow_icmpYes (q := 10) X0 hx (hb hby own_d2_2) (Jvm.Free.XT.ii_lt_t hc2_1) (by decide) (by decide) ?_
    refine ow_iconst (q := 11) X0 hx (1 : Int32) (hb hby own_d2_10) rfl rfl ?_
    refine ownRetN X0 hx (r := (1 : Int32)) (Or.inl rfl) Bd.returns (hb hby own_d2_11) hlk (by decide) (by decide) (by decide) ?_
    rw [e0]
    refine ⟨congrArg (fun q => some (Value.int q)) ?_, N0, rfl⟩
    simp [own_asc, hc2_1]
  · refine ow_icmpNo (q := 5) X0 hx (hb hby own_d2_2) rfl (Jvm.Free.XT.ii_lt_f hc2_1) ?_
    refine ow_iloadN (q := 6) X0 hx (hb hby own_d2_5) rfl rfl ?_
    refine ow_iloadN (q := 7) X0 hx (hb hby own_d2_6) rfl rfl ?_
    by_cases hc7_2 : (2 : Int32) < p3
    · refine ow_icmpYes (q := 12) X0 hx (hb hby own_d2_7) (Jvm.Free.XT.ii_lt_t hc7_2) (by decide) (by decide) ?_
      refine ow_aloadN (q := 13) X0 hx (hb hby own_d2_12) rfl rfl rfl ?_
      refine ow_iloadN (q := 14) X0 hx (hb hby own_d2_13) rfl rfl ?_
      refine ownGo (T' := s₁) (f' := (mkF m 15 #[rv a0, iv (2 : Int32), iv p2, iv p3, .unset] [(.int (g 2))])) (ownBaload HF0 X0 hx hZ e0 (j := (2 : Int32)) (by unfold ownIn; decide) (g := (mkF m 14 #[rv a0, iv (2 : Int32), iv p2, iv p3, .unset] [(.int (2 : Int32)), (.ref a0)])) rfl rfl (hb hby own_d2_14)) ?_
      generalize hv_v3 : (g 2) = v3
      refine ow_sipush (q := 18) X0 hx (255 : Int32) (hb hby own_d2_15) rfl rfl ?_
      refine ow_iand (q := 19) X0 hx _ (hb hby own_d2_18) rfl rfl ?_
      generalize hv_v4 : (v3 &&& (255 : Int32)) = v4
      refine ow_istore (q := 21) X0 hx (L' := #[rv a0, iv (2 : Int32), iv p2, iv p3, iv v4]) (hb hby own_d2_19) rfl rfl ?_
      refine ow_iload (q := 23) X0 hx (hb hby own_d2_21) rfl rfl ?_
      refine ow_bipush (q := 25) X0 hx (127 : Int32) (hb hby own_d2_23) rfl rfl ?_
      by_cases hc25_5 : (127 : Int32) < v4
      · refine ow_icmpYes (q := 32) X0 hx (hb hby own_d2_25) (Jvm.Free.XT.ii_gt_t hc25_5) (by decide) (by decide) ?_
        refine ow_iconst (q := 33) X0 hx (0 : Int32) (hb hby own_d2_32) rfl rfl ?_
        refine ownRetN X0 hx (r := (0 : Int32)) (Or.inl rfl) Bd.returns (hb hby own_d2_33) hlk (by decide) (by decide) (by decide) ?_
        subst hv_v4 hv_v3
        rw [e0]
        refine ⟨congrArg (fun q => some (Value.int q)) ?_, N0, rfl⟩
        simp [own_asc, hc2_1, hc7_2, hc25_5]
      · refine ow_icmpNo (q := 28) X0 hx (hb hby own_d2_25) rfl (Jvm.Free.XT.ii_gt_f hc25_5) ?_
        refine ow_iconst (q := 29) X0 hx (1 : Int32) (hb hby own_d2_28) rfl rfl ?_
        refine ow_goto (q := 33) X0 hx (hb hby own_d2_29) (by decide) (by decide) ?_
        refine ownRetN X0 hx (r := (1 : Int32)) (Or.inl rfl) Bd.returns (hb hby own_d2_33) hlk (by decide) (by decide) (by decide) ?_
        subst hv_v4 hv_v3
        rw [e0]
        refine ⟨congrArg (fun q => some (Value.int q)) ?_, N0, rfl⟩
        simp [own_asc, hc2_1, hc7_2, hc25_5]
    · refine ow_icmpNo (q := 10) X0 hx (hb hby own_d2_7) rfl (Jvm.Free.XT.ii_lt_f hc7_2) ?_
      refine ow_iconst (q := 11) X0 hx (1 : Int32) (hb hby own_d2_10) rfl rfl ?_
      refine ownRetN X0 hx (r := (1 : Int32)) (Or.inl rfl) Bd.returns (hb hby own_d2_11) hlk (by decide) (by decide) (by decide) ?_
      rw [e0]
      refine ⟨congrArg (fun q => some (Value.int q)) ?_, N0, rfl⟩
      simp [own_asc, hc2_1, hc7_2]
theorem own_ef2_asc_3 (m : MethodId) (a0 : Addr) (p2 : Int32) (p3 : Int32) : entryFrame m #[(.ref a0), (.int (3 : Int32)), (.int p2), (.int p3)] 5 = mkF m 0 #[rv a0, iv (3 : Int32), iv p2, iv p3, .unset] [] := by first | (simp [entryFrame, mkF, argsToLocals, Value.category]; done) | rfl
def Q_asc_3 (Z : State) (a0 : Addr) (p2 : Int32) (p3 : Int32) (g : Nat → Int32) (h0 : Heap) (n0 : Nat) (v : Option Value) (h : Heap) (L : List Loc) : Prop := v = some (.int (own_asc (g 3) (3 : Int32) p2 p3)) ∧ Fr n0 L ∧ h = h0
set_option maxRecDepth 65536 in
set_option maxHeartbeats 40000000 in
theorem rm_asc_3 (l : Launch) (Z : State) (av0 : Array Value) (hw : ∀ d ∈ tables_1, d.before av0 Z = true) (ws : List Jvm.Cond) (a0 : Addr) (p2 : Int32) (p3 : Int32) (g : Nat → Int32) (h0 : Heap) (n0 : Nat) (Z0 : n0 ≤ h0.size) (HF0 : ownAI Z h0 a0 .byte 4 g) :
    MetFree l (⟨"com/example/descend/descend/EncodingAgreesWithUtf8PinLaw", "asciiOrOutside", "([BIII)Z"⟩ : MethodName) (head1 (Jvm.Cond.code (⟨"com/example/descend/descend/EncodingAgreesWithUtf8PinLaw", "asciiOrOutside", "([BIII)Z"⟩ : MethodName) method_3_code 5 (some .boolean) :: ws) ({ frames := 0, cells := 0, slots := 0, locals := 0 } : Room)) (fun a U => a = #[(.ref a0), (.int (3 : Int32)), (.int p2), (.int p3)] ∧ Z.Warmed39 U.vm ∧ U.heap = h0) (fun _ _ _ _ _ => True) (fun _ U o U' => ∃ v L, o = .returned v ∧ (Q_asc_3 Z a0 p2 p3 g h0 n0) v U'.heap L ∧ FrameEnd U o U' L ({ frames := 0, cells := 0, slots := 0, locals := 0 } : Room).cells ({ frames := 0, cells := 0, slots := 0, locals := 0 } : Room).slots) := by
  refine MetFree.of_bodySF (plainFor_of_name own_pn_EncodingAgreesWithUtf8PinLaw) hisR ?_
  intro p e s m args below meth c s₁ Bd hml0 hP hK
  obtain ⟨rfl, hZ, hh⟩ := hP
  have hx := Bd.exec
  have hby := Bd.bytes
  have hml : c.maxLocals = 5 := hml0
  have hown : s.vm.findClass "com/example/descend/descend/EncodingAgreesWithUtf8PinLaw" = some m.cls := findClass_of_methodNamed Bd.named
  have hnm := (name_of_methodNamed Bd.named Bd.method).1
  have hlk : meth.locks = false := BodyLoose.notSynchronized Bd
  have X0 : Stand p l e ({ frames := 0, cells := 0, slots := 0, locals := 0 } : Room) s m #[(.ref a0), (.int (3 : Int32)), (.int p2), (.int p3)] below meth c s₁ [] 0 0 := Stand.of_body Bd
  have e0 : s₁.heap = h0 := by rw [← hh, Bd.state]; rfl
  have N0 := Fr.nil n0
  have K0 : Keep h0 h0 [] := Keep.refl _ _
  show ownEnds p e below s (Q_asc_3 Z a0 p2 p3 g h0 n0) ({ frames := 0, cells := 0, slots := 0, locals := 0 } : Room).cells ({ frames := 0, cells := 0, slots := 0, locals := 0 } : Room).slots s₁ (entryFrame m #[(.ref a0), (.int (3 : Int32)), (.int p2), (.int p3)] 5)
  refine ownCast (own_ef2_asc_3 m a0 p2 p3) ?_
  refine ow_iloadN (q := 1) X0 hx (hb hby own_d2_0) rfl rfl ?_
  refine ow_iloadN (q := 2) X0 hx (hb hby own_d2_1) rfl rfl ?_
  by_cases hc2_1 : (3 : Int32) < p2
  · refine ow_icmpYes (q := 10) X0 hx (hb hby own_d2_2) (Jvm.Free.XT.ii_lt_t hc2_1) (by decide) (by decide) ?_
    refine ow_iconst (q := 11) X0 hx (1 : Int32) (hb hby own_d2_10) rfl rfl ?_
    refine ownRetN X0 hx (r := (1 : Int32)) (Or.inl rfl) Bd.returns (hb hby own_d2_11) hlk (by decide) (by decide) (by decide) ?_
    rw [e0]
    refine ⟨congrArg (fun q => some (Value.int q)) ?_, N0, rfl⟩
    simp [own_asc, hc2_1]
  · refine ow_icmpNo (q := 5) X0 hx (hb hby own_d2_2) rfl (Jvm.Free.XT.ii_lt_f hc2_1) ?_
    refine ow_iloadN (q := 6) X0 hx (hb hby own_d2_5) rfl rfl ?_
    refine ow_iloadN (q := 7) X0 hx (hb hby own_d2_6) rfl rfl ?_
    by_cases hc7_2 : (3 : Int32) < p3
    · refine ow_icmpYes (q := 12) X0 hx (hb hby own_d2_7) (Jvm.Free.XT.ii_lt_t hc7_2) (by decide) (by decide) ?_
      refine ow_aloadN (q := 13) X0 hx (hb hby own_d2_12) rfl rfl rfl ?_
      refine ow_iloadN (q := 14) X0 hx (hb hby own_d2_13) rfl rfl ?_
      refine ownGo (T' := s₁) (f' := (mkF m 15 #[rv a0, iv (3 : Int32), iv p2, iv p3, .unset] [(.int (g 3))])) (ownBaload HF0 X0 hx hZ e0 (j := (3 : Int32)) (by unfold ownIn; decide) (g := (mkF m 14 #[rv a0, iv (3 : Int32), iv p2, iv p3, .unset] [(.int (3 : Int32)), (.ref a0)])) rfl rfl (hb hby own_d2_14)) ?_
      generalize hv_v3 : (g 3) = v3
      refine ow_sipush (q := 18) X0 hx (255 : Int32) (hb hby own_d2_15) rfl rfl ?_
      refine ow_iand (q := 19) X0 hx _ (hb hby own_d2_18) rfl rfl ?_
      generalize hv_v4 : (v3 &&& (255 : Int32)) = v4
      refine ow_istore (q := 21) X0 hx (L' := #[rv a0, iv (3 : Int32), iv p2, iv p3, iv v4]) (hb hby own_d2_19) rfl rfl ?_
      refine ow_iload (q := 23) X0 hx (hb hby own_d2_21) rfl rfl ?_
      refine ow_bipush (q := 25) X0 hx (127 : Int32) (hb hby own_d2_23) rfl rfl ?_
      by_cases hc25_5 : (127 : Int32) < v4
      · refine ow_icmpYes (q := 32) X0 hx (hb hby own_d2_25) (Jvm.Free.XT.ii_gt_t hc25_5) (by decide) (by decide) ?_
        refine ow_iconst (q := 33) X0 hx (0 : Int32) (hb hby own_d2_32) rfl rfl ?_
        refine ownRetN X0 hx (r := (0 : Int32)) (Or.inl rfl) Bd.returns (hb hby own_d2_33) hlk (by decide) (by decide) (by decide) ?_
        subst hv_v4 hv_v3
        rw [e0]
        refine ⟨congrArg (fun q => some (Value.int q)) ?_, N0, rfl⟩
        simp [own_asc, hc2_1, hc7_2, hc25_5]
      · refine ow_icmpNo (q := 28) X0 hx (hb hby own_d2_25) rfl (Jvm.Free.XT.ii_gt_f hc25_5) ?_
        refine ow_iconst (q := 29) X0 hx (1 : Int32) (hb hby own_d2_28) rfl rfl ?_
        refine ow_goto (q := 33) X0 hx (hb hby own_d2_29) (by decide) (by decide) ?_
        refine ownRetN X0 hx (r := (1 : Int32)) (Or.inl rfl) Bd.returns (hb hby own_d2_33) hlk (by decide) (by decide) (by decide) ?_
        subst hv_v4 hv_v3
        rw [e0]
        refine ⟨congrArg (fun q => some (Value.int q)) ?_, N0, rfl⟩
        simp [own_asc, hc2_1, hc7_2, hc25_5]
    · refine ow_icmpNo (q := 10) X0 hx (hb hby own_d2_7) rfl (Jvm.Free.XT.ii_lt_f hc7_2) ?_
      refine ow_iconst (q := 11) X0 hx (1 : Int32) (hb hby own_d2_10) rfl rfl ?_
      refine ownRetN X0 hx (r := (1 : Int32)) (Or.inl rfl) Bd.returns (hb hby own_d2_11) hlk (by decide) (by decide) (by decide) ?_
      rw [e0]
      refine ⟨congrArg (fun q => some (Value.int q)) ?_, N0, rfl⟩
      simp [own_asc, hc2_1, hc7_2]
theorem own_pn_Encoding : plainName "com/example/descend/descend/Encoding" = true := by first | (simp [plainName, overriddenIn]; done) | decide +kernel
theorem own_d1_0 : decode prog_10_method_7_code 0 = .ok (.iconst 1, 1) := by decide +kernel
theorem own_d1_1 : decode prog_10_method_7_code 1 = .ok (.istore 4, 2) := by decide +kernel
theorem own_d1_3 : decode prog_10_method_7_code 3 = .ok (.aload_n 0, 1) := by decide +kernel
theorem own_d1_4 : decode prog_10_method_7_code 4 = .ok (.getstatic 3, 3) := by decide +kernel
theorem own_d1_7 : decode prog_10_method_7_code 7 = .ok (.if_acmp .eq 37, 3) := by decide +kernel
theorem own_d1_44 : decode prog_10_method_7_code 44 = .ok (.iload 4, 2) := by decide +kernel
theorem own_d1_46 : decode prog_10_method_7_code 46 = .ok (.ireturn, 1) := by decide +kernel
theorem own_ef1_agrU (m : MethodId) (aU : Addr) (a1 : Addr) (p2 : Int32) (p3 : Int32) : entryFrame m #[(.ref aU), (.ref a1), (.int p2), (.int p3)] 6 = mkF m 0 #[rv aU, rv a1, iv p2, iv p3, .unset, .unset] [] := by first | (simp [entryFrame, mkF, argsToLocals, Value.category]; done) | rfl
def Q_agrU (Z : State) (aU : Addr) (a1 : Addr) (p2 : Int32) (p3 : Int32) (h0 : Heap) (n0 : Nat) (v : Option Value) (h : Heap) (L : List Loc) : Prop := v = some (.int (1 : Int32)) ∧ Fr n0 L ∧ h = h0
set_option maxRecDepth 65536 in
set_option maxHeartbeats 40000000 in
theorem rm_agrU (l : Launch) (Z : State) (av0 : Array Value) (hw : ∀ d ∈ tables_1, d.before av0 Z = true) (ws : List Jvm.Cond) (aU : Addr) (a1 : Addr) (p2 : Int32) (p3 : Int32) (h0 : Heap) (n0 : Nat) (Z0 : n0 ≤ h0.size) (HF0 : Sta Z h0 "com/example/descend/descend/Encoding" "UTF_8" "Lcom/example/descend/descend/Encoding;" (.ref aU)) :
    MetFree l (⟨"com/example/descend/descend/Encoding", "agreesWithUtf8", "([BII)Z"⟩ : MethodName) (head1 (Jvm.Cond.code (⟨"com/example/descend/descend/Encoding", "agreesWithUtf8", "([BII)Z"⟩ : MethodName) prog_10_method_7_code 6 (some .boolean) :: ws) ({ frames := 0, cells := 0, slots := 0, locals := 0 } : Room)) (fun a U => a = #[(.ref aU), (.ref a1), (.int p2), (.int p3)] ∧ Z.Warmed39 U.vm ∧ U.heap = h0) (fun _ _ _ _ _ => True) (fun _ U o U' => ∃ v L, o = .returned v ∧ (Q_agrU Z aU a1 p2 p3 h0 n0) v U'.heap L ∧ FrameEnd U o U' L ({ frames := 0, cells := 0, slots := 0, locals := 0 } : Room).cells ({ frames := 0, cells := 0, slots := 0, locals := 0 } : Room).slots) := by
  refine MetFree.of_bodySF (plainFor_of_name own_pn_Encoding) hisR ?_
  intro p e s m args below meth c s₁ Bd hml0 hP hK
  obtain ⟨rfl, hZ, hh⟩ := hP
  have hx := Bd.exec
  have hby := Bd.bytes
  have hml : c.maxLocals = 6 := hml0
  have hown : s.vm.findClass "com/example/descend/descend/Encoding" = some m.cls := findClass_of_methodNamed Bd.named
  have hnm := (name_of_methodNamed Bd.named Bd.method).1
  have hlk : meth.locks = false := BodyLoose.notSynchronized Bd
  have X0 : Stand p l e ({ frames := 0, cells := 0, slots := 0, locals := 0 } : Room) s m #[(.ref aU), (.ref a1), (.int p2), (.int p3)] below meth c s₁ [] 0 0 := Stand.of_body Bd
  have e0 : s₁.heap = h0 := by rw [← hh, Bd.state]; rfl
  have N0 := Fr.nil n0
  have K0 : Keep h0 h0 [] := Keep.refl _ _
  show ownEnds p e below s (Q_agrU Z aU a1 p2 p3 h0 n0) ({ frames := 0, cells := 0, slots := 0, locals := 0 } : Room).cells ({ frames := 0, cells := 0, slots := 0, locals := 0 } : Room).slots s₁ (entryFrame m #[(.ref aU), (.ref a1), (.int p2), (.int p3)] 6)
  refine ownCast (own_ef1_agrU m aU a1 p2 p3) ?_
  refine ow_iconst (q := 1) X0 hx (1 : Int32) (hb hby own_d1_0) rfl rfl ?_
  refine ow_istore (q := 3) X0 hx (L' := #[rv aU, rv a1, iv p2, iv p3, iv (1 : Int32), .unset]) (hb hby own_d1_1) rfl rfl ?_
  refine ow_aloadN (q := 4) X0 hx (hb hby own_d1_3) rfl rfl rfl ?_
  obtain ⟨T1, X1, e1, st1⟩ := getS2 X0 hx hZ hown (host := "") (Or.inl (hw _ (List.mem_of_getElem? (i := 10) rfl))) Via.refl e0 HF0 (g := (mkF m 4 #[rv aU, rv a1, iv p2, iv p3, iv (1 : Int32), .unset] [(.ref aU)])) rfl (hb hby own_d1_4)
  refine ownGo (T' := T1) (f' := (mkF m 7 #[rv aU, rv a1, iv p2, iv p3, iv (1 : Int32), .unset] [(.ref aU), (.ref aU)])) (st1) ?_
  refine ownGo (T' := T1) (f' := (mkF m 44 #[rv aU, rv a1, iv p2, iv p3, iv (1 : Int32), .unset] [])) (fun _ k => Jvm.RoadKit.acmp (g := (mkF m 7 #[rv aU, rv a1, iv p2, iv p3, iv (1 : Int32), .unset] [(.ref aU), (.ref aU)])) X1 hx rfl rfl rfl (pc0 := 7) (pc' := 44) (same := true) rfl (hb hby own_d1_7) rfl (decide_eq_true rfl) (by decide) (by decide) k) ?_
  refine ow_iload (q := 46) X1 hx (hb hby own_d1_44) rfl rfl ?_
  refine ownRetN X1 hx (r := (1 : Int32)) (Or.inl rfl) Bd.returns (hb hby own_d1_46) hlk (by decide) (by decide) (by decide) ?_
  rw [e1]
  exact ⟨rfl, N0, rfl⟩
theorem own_d1_10 : decode prog_10_method_7_code 10 = .ok (.iload_n 2, 1) := by decide +kernel
theorem own_d1_11 : decode prog_10_method_7_code 11 = .ok (.istore 5, 2) := by decide +kernel
theorem own_d1_13 : decode prog_10_method_7_code 13 = .ok (.iload 5, 2) := by decide +kernel
theorem own_d1_15 : decode prog_10_method_7_code 15 = .ok (.iload_n 3, 1) := by decide +kernel
theorem own_d1_16 : decode prog_10_method_7_code 16 = .ok (.if_icmp .ge 28, 3) := by decide +kernel
theorem own_d1_19 : decode prog_10_method_7_code 19 = .ok (.iload 4, 2) := by decide +kernel
theorem own_d1_21 : decode prog_10_method_7_code 21 = .ok (.ifCond .eq 23, 3) := by decide +kernel
theorem own_d1_24 : decode prog_10_method_7_code 24 = .ok (.aload_n 1, 1) := by decide +kernel
theorem own_d1_25 : decode prog_10_method_7_code 25 = .ok (.iload 5, 2) := by decide +kernel
theorem own_d1_27 : decode prog_10_method_7_code 27 = .ok (.baload, 1) := by decide +kernel
theorem own_d1_28 : decode prog_10_method_7_code 28 = .ok (.ifCond .lt 7, 3) := by decide +kernel
theorem own_d1_35 : decode prog_10_method_7_code 35 = .ok (.iconst 0, 1) := by decide +kernel
theorem own_d1_36 : decode prog_10_method_7_code 36 = .ok (.istore 4, 2) := by decide +kernel
theorem own_d1_38 : decode prog_10_method_7_code 38 = .ok (.iinc 5 1, 3) := by decide +kernel
theorem own_d1_41 : decode prog_10_method_7_code 41 = .ok (.goto (-28), 3) := by decide +kernel
theorem own_d1_31 : decode prog_10_method_7_code 31 = .ok (.iconst 1, 1) := by decide +kernel
theorem own_d1_32 : decode prog_10_method_7_code 32 = .ok (.goto 4, 3) := by decide +kernel
theorem own_ef1_agr (m : MethodId) (a0 : Addr) (a1 : Addr) (p2 : Int32) (p3 : Int32) : entryFrame m #[(.ref a0), (.ref a1), (.int p2), (.int p3)] 6 = mkF m 0 #[rv a0, rv a1, iv p2, iv p3, .unset, .unset] [] := by first | (simp [entryFrame, mkF, argsToLocals, Value.category]; done) | rfl
def Q_agr (Z : State) (a0 : Addr) (a1 : Addr) (p2 : Int32) (p3 : Int32) (aU : Addr) (g : Nat → Int32) (h0 : Heap) (n0 : Nat) (v : Option Value) (h : Heap) (L : List Loc) : Prop := v = some (.int (own_agr g p2 p3)) ∧ Fr n0 L ∧ h = h0
set_option maxRecDepth 65536 in
set_option maxHeartbeats 40000000 in
theorem rm_agr (l : Launch) (Z : State) (av0 : Array Value) (hw : ∀ d ∈ tables_1, d.before av0 Z = true) (ws : List Jvm.Cond) (a0 : Addr) (a1 : Addr) (p2 : Int32) (p3 : Int32) (aU : Addr) (g : Nat → Int32) (h0 : Heap) (n0 : Nat) (Z0 : n0 ≤ h0.size) (HF0 : Sta Z h0 "com/example/descend/descend/Encoding" "UTF_8" "Lcom/example/descend/descend/Encoding;" (.ref aU)) (HF1 : ownAI Z h0 a1 .byte 4 g) (hne : a0 ≠ aU) (hf : p2 = (0 : Int32) ∨ p2 = (1 : Int32) ∨ p2 = (2 : Int32) ∨ p2 = (3 : Int32) ∨ p2 = (4 : Int32)) (ht : p3 = (0 : Int32) ∨ p3 = (1 : Int32) ∨ p3 = (2 : Int32) ∨ p3 = (3 : Int32) ∨ p3 = (4 : Int32)) :
    MetFree l (⟨"com/example/descend/descend/Encoding", "agreesWithUtf8", "([BII)Z"⟩ : MethodName) (head1 (Jvm.Cond.code (⟨"com/example/descend/descend/Encoding", "agreesWithUtf8", "([BII)Z"⟩ : MethodName) prog_10_method_7_code 6 (some .boolean) :: ws) ({ frames := 0, cells := 0, slots := 0, locals := 0 } : Room)) (fun a U => a = #[(.ref a0), (.ref a1), (.int p2), (.int p3)] ∧ Z.Warmed39 U.vm ∧ U.heap = h0) (fun _ _ _ _ _ => True) (fun _ U o U' => ∃ v L, o = .returned v ∧ (Q_agr Z a0 a1 p2 p3 aU g h0 n0) v U'.heap L ∧ FrameEnd U o U' L ({ frames := 0, cells := 0, slots := 0, locals := 0 } : Room).cells ({ frames := 0, cells := 0, slots := 0, locals := 0 } : Room).slots) := by
  refine MetFree.of_bodySF (plainFor_of_name own_pn_Encoding) hisR ?_
  intro p e s m args below meth c s₁ Bd hml0 hP hK
  obtain ⟨rfl, hZ, hh⟩ := hP
  have hx := Bd.exec
  have hby := Bd.bytes
  have hml : c.maxLocals = 6 := hml0
  have hown : s.vm.findClass "com/example/descend/descend/Encoding" = some m.cls := findClass_of_methodNamed Bd.named
  have hnm := (name_of_methodNamed Bd.named Bd.method).1
  have hlk : meth.locks = false := BodyLoose.notSynchronized Bd
  have X0 : Stand p l e ({ frames := 0, cells := 0, slots := 0, locals := 0 } : Room) s m #[(.ref a0), (.ref a1), (.int p2), (.int p3)] below meth c s₁ [] 0 0 := Stand.of_body Bd
  have e0 : s₁.heap = h0 := by rw [← hh, Bd.state]; rfl
  have N0 := Fr.nil n0
  have K0 : Keep h0 h0 [] := Keep.refl _ _
  show ownEnds p e below s (Q_agr Z a0 a1 p2 p3 aU g h0 n0) ({ frames := 0, cells := 0, slots := 0, locals := 0 } : Room).cells ({ frames := 0, cells := 0, slots := 0, locals := 0 } : Room).slots s₁ (entryFrame m #[(.ref a0), (.ref a1), (.int p2), (.int p3)] 6)
  refine ownCast (own_ef1_agr m a0 a1 p2 p3) ?_
  refine ow_iconst (q := 1) X0 hx (1 : Int32) (hb hby own_d1_0) rfl rfl ?_
  refine ow_istore (q := 3) X0 hx (L' := #[rv a0, rv a1, iv p2, iv p3, iv (1 : Int32), .unset]) (hb hby own_d1_1) rfl rfl ?_
  refine ow_aloadN (q := 4) X0 hx (hb hby own_d1_3) rfl rfl rfl ?_
  obtain ⟨T1, X1, e1, st1⟩ := getS2 X0 hx hZ hown (host := "") (Or.inl (hw _ (List.mem_of_getElem? (i := 10) rfl))) Via.refl e0 HF0 (g := (mkF m 4 #[rv a0, rv a1, iv p2, iv p3, iv (1 : Int32), .unset] [(.ref a0)])) rfl (hb hby own_d1_4)
  refine ownGo (T' := T1) (f' := (mkF m 7 #[rv a0, rv a1, iv p2, iv p3, iv (1 : Int32), .unset] [(.ref aU), (.ref a0)])) (st1) ?_
  refine ownGo (T' := T1) (f' := (mkF m 10 #[rv a0, rv a1, iv p2, iv p3, iv (1 : Int32), .unset] [])) (fun _ k => Jvm.RoadKit.acmp (g := (mkF m 7 #[rv a0, rv a1, iv p2, iv p3, iv (1 : Int32), .unset] [(.ref aU), (.ref a0)])) X1 hx rfl rfl rfl (pc0 := 7) (pc' := 10) (same := false) rfl (hb hby own_d1_7) rfl (decide_eq_false fun q => hne (Value.ref.inj q)) (by decide) (by decide) k) ?_
  rcases hf with hs2 | hs3 | hs4 | hs5 | hs6
  · subst hs2
    rcases ht with hs7 | hs8 | hs9 | hs10 | hs11
    · subst hs7
      refine ow_iloadN (q := 11) X1 hx (hb hby own_d1_10) rfl rfl ?_
      refine ow_istore (q := 13) X1 hx (L' := #[rv a0, rv a1, iv (0 : Int32), iv (0 : Int32), iv (1 : Int32), iv (0 : Int32)]) (hb hby own_d1_11) rfl rfl ?_
      refine ow_iload (q := 15) X1 hx (hb hby own_d1_13) rfl rfl ?_
      refine ow_iloadN (q := 16) X1 hx (hb hby own_d1_15) rfl rfl ?_
      refine ow_icmpYes (q := 44) X1 hx (hb hby own_d1_16) (Jvm.Free.XT.ii_ge_t (by decide)) (by decide) (by decide) ?_
      refine ow_iload (q := 46) X1 hx (hb hby own_d1_44) rfl rfl ?_
      refine ownRetN X1 hx (r := (1 : Int32)) (Or.inl rfl) Bd.returns (hb hby own_d1_46) hlk (by decide) (by decide) (by decide) ?_
      rw [e1]
      refine ⟨congrArg (fun q => some (Value.int q)) ?_, N0, rfl⟩
      simp [own_agr]
    · subst hs8
      refine ow_iloadN (q := 11) X1 hx (hb hby own_d1_10) rfl rfl ?_
      refine ow_istore (q := 13) X1 hx (L' := #[rv a0, rv a1, iv (0 : Int32), iv (1 : Int32), iv (1 : Int32), iv (0 : Int32)]) (hb hby own_d1_11) rfl rfl ?_
      refine ow_iload (q := 15) X1 hx (hb hby own_d1_13) rfl rfl ?_
      refine ow_iloadN (q := 16) X1 hx (hb hby own_d1_15) rfl rfl ?_
      refine ow_icmpNo (q := 19) X1 hx (hb hby own_d1_16) rfl (Jvm.Free.XT.ii_ge_f (by decide)) ?_
      refine ow_iload (q := 21) X1 hx (hb hby own_d1_19) rfl rfl ?_
      refine ow_ifNo (q := 24) X1 hx (hb hby own_d1_21) rfl (Jvm.Free.XT.i0_eq_f (by decide)) ?_
      refine ow_aloadN (q := 25) X1 hx (hb hby own_d1_24) rfl rfl rfl ?_
      refine ow_iload (q := 27) X1 hx (hb hby own_d1_25) rfl rfl ?_
      refine ownGo (T' := T1) (f' := (mkF m 28 #[rv a0, rv a1, iv (0 : Int32), iv (1 : Int32), iv (1 : Int32), iv (0 : Int32)] [(.int (g 0))])) (ownBaload HF1 X1 hx hZ e1 (j := (0 : Int32)) (by unfold ownIn; decide) (g := (mkF m 27 #[rv a0, rv a1, iv (0 : Int32), iv (1 : Int32), iv (1 : Int32), iv (0 : Int32)] [(.int (0 : Int32)), (.ref a1)])) rfl rfl (hb hby own_d1_27)) ?_
      generalize hv_v12 : (g 0) = v12
      by_cases hc28_13 : v12 < (0 : Int32)
      · refine ow_ifYes (q := 35) X1 hx (hb hby own_d1_28) (Jvm.Free.XT.i0_lt_t hc28_13) (by decide) (by decide) ?_
        refine ow_iconst (q := 36) X1 hx (0 : Int32) (hb hby own_d1_35) rfl rfl ?_
        refine ow_istore (q := 38) X1 hx (L' := #[rv a0, rv a1, iv (0 : Int32), iv (1 : Int32), iv (0 : Int32), iv (0 : Int32)]) (hb hby own_d1_36) rfl rfl ?_
        refine ow_iinc (q := 41) X1 hx (L' := #[rv a0, rv a1, iv (0 : Int32), iv (1 : Int32), iv (0 : Int32), iv (1 : Int32)]) (hb hby own_d1_38) rfl rfl rfl ?_
        refine ow_goto (q := 13) X1 hx (hb hby own_d1_41) (by decide) (by decide) ?_
        refine ow_iload (q := 15) X1 hx (hb hby own_d1_13) rfl rfl ?_
        refine ow_iloadN (q := 16) X1 hx (hb hby own_d1_15) rfl rfl ?_
        refine ow_icmpYes (q := 44) X1 hx (hb hby own_d1_16) (Jvm.Free.XT.ii_ge_t (by decide)) (by decide) (by decide) ?_
        refine ow_iload (q := 46) X1 hx (hb hby own_d1_44) rfl rfl ?_
        refine ownRetN X1 hx (r := (0 : Int32)) (Or.inl rfl) Bd.returns (hb hby own_d1_46) hlk (by decide) (by decide) (by decide) ?_
        subst hv_v12
        rw [e1]
        refine ⟨congrArg (fun q => some (Value.int q)) ?_, N0, rfl⟩
        simp [own_agr, hc28_13]
      · refine ow_ifNo (q := 31) X1 hx (hb hby own_d1_28) rfl (Jvm.Free.XT.i0_lt_f hc28_13) ?_
        refine ow_iconst (q := 32) X1 hx (1 : Int32) (hb hby own_d1_31) rfl rfl ?_
        refine ow_goto (q := 36) X1 hx (hb hby own_d1_32) (by decide) (by decide) ?_
        refine ow_istore (q := 38) X1 hx (L' := #[rv a0, rv a1, iv (0 : Int32), iv (1 : Int32), iv (1 : Int32), iv (0 : Int32)]) (hb hby own_d1_36) rfl rfl ?_
        refine ow_iinc (q := 41) X1 hx (L' := #[rv a0, rv a1, iv (0 : Int32), iv (1 : Int32), iv (1 : Int32), iv (1 : Int32)]) (hb hby own_d1_38) rfl rfl rfl ?_
        refine ow_goto (q := 13) X1 hx (hb hby own_d1_41) (by decide) (by decide) ?_
        refine ow_iload (q := 15) X1 hx (hb hby own_d1_13) rfl rfl ?_
        refine ow_iloadN (q := 16) X1 hx (hb hby own_d1_15) rfl rfl ?_
        refine ow_icmpYes (q := 44) X1 hx (hb hby own_d1_16) (Jvm.Free.XT.ii_ge_t (by decide)) (by decide) (by decide) ?_
        refine ow_iload (q := 46) X1 hx (hb hby own_d1_44) rfl rfl ?_
        refine ownRetN X1 hx (r := (1 : Int32)) (Or.inl rfl) Bd.returns (hb hby own_d1_46) hlk (by decide) (by decide) (by decide) ?_
        subst hv_v12
        rw [e1]
        refine ⟨congrArg (fun q => some (Value.int q)) ?_, N0, rfl⟩
        simp [own_agr, hc28_13]
    · subst hs9
      refine ow_iloadN (q := 11) X1 hx (hb hby own_d1_10) rfl rfl ?_
      refine ow_istore (q := 13) X1 hx (L' := #[rv a0, rv a1, iv (0 : Int32), iv (2 : Int32), iv (1 : Int32), iv (0 : Int32)]) (hb hby own_d1_11) rfl rfl ?_
      refine ow_iload (q := 15) X1 hx (hb hby own_d1_13) rfl rfl ?_
      refine ow_iloadN (q := 16) X1 hx (hb hby own_d1_15) rfl rfl ?_
      refine ow_icmpNo (q := 19) X1 hx (hb hby own_d1_16) rfl (Jvm.Free.XT.ii_ge_f (by decide)) ?_
      refine ow_iload (q := 21) X1 hx (hb hby own_d1_19) rfl rfl ?_
      refine ow_ifNo (q := 24) X1 hx (hb hby own_d1_21) rfl (Jvm.Free.XT.i0_eq_f (by decide)) ?_
      refine ow_aloadN (q := 25) X1 hx (hb hby own_d1_24) rfl rfl rfl ?_
      refine ow_iload (q := 27) X1 hx (hb hby own_d1_25) rfl rfl ?_
      refine ownGo (T' := T1) (f' := (mkF m 28 #[rv a0, rv a1, iv (0 : Int32), iv (2 : Int32), iv (1 : Int32), iv (0 : Int32)] [(.int (g 0))])) (ownBaload HF1 X1 hx hZ e1 (j := (0 : Int32)) (by unfold ownIn; decide) (g := (mkF m 27 #[rv a0, rv a1, iv (0 : Int32), iv (2 : Int32), iv (1 : Int32), iv (0 : Int32)] [(.int (0 : Int32)), (.ref a1)])) rfl rfl (hb hby own_d1_27)) ?_
      generalize hv_v14 : (g 0) = v14
      by_cases hc28_15 : v14 < (0 : Int32)
      · refine ow_ifYes (q := 35) X1 hx (hb hby own_d1_28) (Jvm.Free.XT.i0_lt_t hc28_15) (by decide) (by decide) ?_
        refine ow_iconst (q := 36) X1 hx (0 : Int32) (hb hby own_d1_35) rfl rfl ?_
        refine ow_istore (q := 38) X1 hx (L' := #[rv a0, rv a1, iv (0 : Int32), iv (2 : Int32), iv (0 : Int32), iv (0 : Int32)]) (hb hby own_d1_36) rfl rfl ?_
        refine ow_iinc (q := 41) X1 hx (L' := #[rv a0, rv a1, iv (0 : Int32), iv (2 : Int32), iv (0 : Int32), iv (1 : Int32)]) (hb hby own_d1_38) rfl rfl rfl ?_
        refine ow_goto (q := 13) X1 hx (hb hby own_d1_41) (by decide) (by decide) ?_
        refine ow_iload (q := 15) X1 hx (hb hby own_d1_13) rfl rfl ?_
        refine ow_iloadN (q := 16) X1 hx (hb hby own_d1_15) rfl rfl ?_
        refine ow_icmpNo (q := 19) X1 hx (hb hby own_d1_16) rfl (Jvm.Free.XT.ii_ge_f (by decide)) ?_
        refine ow_iload (q := 21) X1 hx (hb hby own_d1_19) rfl rfl ?_
        refine ow_ifYes (q := 44) X1 hx (hb hby own_d1_21) (Jvm.Free.XT.i0_eq_t (by decide)) (by decide) (by decide) ?_
        refine ow_iload (q := 46) X1 hx (hb hby own_d1_44) rfl rfl ?_
        refine ownRetN X1 hx (r := (0 : Int32)) (Or.inl rfl) Bd.returns (hb hby own_d1_46) hlk (by decide) (by decide) (by decide) ?_
        subst hv_v14
        rw [e1]
        refine ⟨congrArg (fun q => some (Value.int q)) ?_, N0, rfl⟩
        simp [own_agr, hc28_15]
      · refine ow_ifNo (q := 31) X1 hx (hb hby own_d1_28) rfl (Jvm.Free.XT.i0_lt_f hc28_15) ?_
        refine ow_iconst (q := 32) X1 hx (1 : Int32) (hb hby own_d1_31) rfl rfl ?_
        refine ow_goto (q := 36) X1 hx (hb hby own_d1_32) (by decide) (by decide) ?_
        refine ow_istore (q := 38) X1 hx (L' := #[rv a0, rv a1, iv (0 : Int32), iv (2 : Int32), iv (1 : Int32), iv (0 : Int32)]) (hb hby own_d1_36) rfl rfl ?_
        refine ow_iinc (q := 41) X1 hx (L' := #[rv a0, rv a1, iv (0 : Int32), iv (2 : Int32), iv (1 : Int32), iv (1 : Int32)]) (hb hby own_d1_38) rfl rfl rfl ?_
        refine ow_goto (q := 13) X1 hx (hb hby own_d1_41) (by decide) (by decide) ?_
        refine ow_iload (q := 15) X1 hx (hb hby own_d1_13) rfl rfl ?_
        refine ow_iloadN (q := 16) X1 hx (hb hby own_d1_15) rfl rfl ?_
        refine ow_icmpNo (q := 19) X1 hx (hb hby own_d1_16) rfl (Jvm.Free.XT.ii_ge_f (by decide)) ?_
        refine ow_iload (q := 21) X1 hx (hb hby own_d1_19) rfl rfl ?_
        refine ow_ifNo (q := 24) X1 hx (hb hby own_d1_21) rfl (Jvm.Free.XT.i0_eq_f (by decide)) ?_
        refine ow_aloadN (q := 25) X1 hx (hb hby own_d1_24) rfl rfl rfl ?_
        refine ow_iload (q := 27) X1 hx (hb hby own_d1_25) rfl rfl ?_
        refine ownGo (T' := T1) (f' := (mkF m 28 #[rv a0, rv a1, iv (0 : Int32), iv (2 : Int32), iv (1 : Int32), iv (1 : Int32)] [(.int (g 1))])) (ownBaload HF1 X1 hx hZ e1 (j := (1 : Int32)) (by unfold ownIn; decide) (g := (mkF m 27 #[rv a0, rv a1, iv (0 : Int32), iv (2 : Int32), iv (1 : Int32), iv (1 : Int32)] [(.int (1 : Int32)), (.ref a1)])) rfl rfl (hb hby own_d1_27)) ?_
        generalize hv_v16 : (g 1) = v16
        by_cases hc28_17 : v16 < (0 : Int32)
        · refine ow_ifYes (q := 35) X1 hx (hb hby own_d1_28) (Jvm.Free.XT.i0_lt_t hc28_17) (by decide) (by decide) ?_
          refine ow_iconst (q := 36) X1 hx (0 : Int32) (hb hby own_d1_35) rfl rfl ?_
          refine ow_istore (q := 38) X1 hx (L' := #[rv a0, rv a1, iv (0 : Int32), iv (2 : Int32), iv (0 : Int32), iv (1 : Int32)]) (hb hby own_d1_36) rfl rfl ?_
          refine ow_iinc (q := 41) X1 hx (L' := #[rv a0, rv a1, iv (0 : Int32), iv (2 : Int32), iv (0 : Int32), iv (2 : Int32)]) (hb hby own_d1_38) rfl rfl rfl ?_
          refine ow_goto (q := 13) X1 hx (hb hby own_d1_41) (by decide) (by decide) ?_
          refine ow_iload (q := 15) X1 hx (hb hby own_d1_13) rfl rfl ?_
          refine ow_iloadN (q := 16) X1 hx (hb hby own_d1_15) rfl rfl ?_
          refine ow_icmpYes (q := 44) X1 hx (hb hby own_d1_16) (Jvm.Free.XT.ii_ge_t (by decide)) (by decide) (by decide) ?_
          refine ow_iload (q := 46) X1 hx (hb hby own_d1_44) rfl rfl ?_
          refine ownRetN X1 hx (r := (0 : Int32)) (Or.inl rfl) Bd.returns (hb hby own_d1_46) hlk (by decide) (by decide) (by decide) ?_
          subst hv_v16 hv_v14
          rw [e1]
          refine ⟨congrArg (fun q => some (Value.int q)) ?_, N0, rfl⟩
          simp [own_agr, hc28_15, hc28_17]
        · refine ow_ifNo (q := 31) X1 hx (hb hby own_d1_28) rfl (Jvm.Free.XT.i0_lt_f hc28_17) ?_
          refine ow_iconst (q := 32) X1 hx (1 : Int32) (hb hby own_d1_31) rfl rfl ?_
          refine ow_goto (q := 36) X1 hx (hb hby own_d1_32) (by decide) (by decide) ?_
          refine ow_istore (q := 38) X1 hx (L' := #[rv a0, rv a1, iv (0 : Int32), iv (2 : Int32), iv (1 : Int32), iv (1 : Int32)]) (hb hby own_d1_36) rfl rfl ?_
          refine ow_iinc (q := 41) X1 hx (L' := #[rv a0, rv a1, iv (0 : Int32), iv (2 : Int32), iv (1 : Int32), iv (2 : Int32)]) (hb hby own_d1_38) rfl rfl rfl ?_
          refine ow_goto (q := 13) X1 hx (hb hby own_d1_41) (by decide) (by decide) ?_
          refine ow_iload (q := 15) X1 hx (hb hby own_d1_13) rfl rfl ?_
          refine ow_iloadN (q := 16) X1 hx (hb hby own_d1_15) rfl rfl ?_
          refine ow_icmpYes (q := 44) X1 hx (hb hby own_d1_16) (Jvm.Free.XT.ii_ge_t (by decide)) (by decide) (by decide) ?_
          refine ow_iload (q := 46) X1 hx (hb hby own_d1_44) rfl rfl ?_
          refine ownRetN X1 hx (r := (1 : Int32)) (Or.inl rfl) Bd.returns (hb hby own_d1_46) hlk (by decide) (by decide) (by decide) ?_
          subst hv_v16 hv_v14
          rw [e1]
          refine ⟨congrArg (fun q => some (Value.int q)) ?_, N0, rfl⟩
          simp [own_agr, hc28_15, hc28_17]
    · subst hs10
      refine ow_iloadN (q := 11) X1 hx (hb hby own_d1_10) rfl rfl ?_
      refine ow_istore (q := 13) X1 hx (L' := #[rv a0, rv a1, iv (0 : Int32), iv (3 : Int32), iv (1 : Int32), iv (0 : Int32)]) (hb hby own_d1_11) rfl rfl ?_
      refine ow_iload (q := 15) X1 hx (hb hby own_d1_13) rfl rfl ?_
      refine ow_iloadN (q := 16) X1 hx (hb hby own_d1_15) rfl rfl ?_
      refine ow_icmpNo (q := 19) X1 hx (hb hby own_d1_16) rfl (Jvm.Free.XT.ii_ge_f (by decide)) ?_
      refine ow_iload (q := 21) X1 hx (hb hby own_d1_19) rfl rfl ?_
      refine ow_ifNo (q := 24) X1 hx (hb hby own_d1_21) rfl (Jvm.Free.XT.i0_eq_f (by decide)) ?_
      refine ow_aloadN (q := 25) X1 hx (hb hby own_d1_24) rfl rfl rfl ?_
      refine ow_iload (q := 27) X1 hx (hb hby own_d1_25) rfl rfl ?_
      refine ownGo (T' := T1) (f' := (mkF m 28 #[rv a0, rv a1, iv (0 : Int32), iv (3 : Int32), iv (1 : Int32), iv (0 : Int32)] [(.int (g 0))])) (ownBaload HF1 X1 hx hZ e1 (j := (0 : Int32)) (by unfold ownIn; decide) (g := (mkF m 27 #[rv a0, rv a1, iv (0 : Int32), iv (3 : Int32), iv (1 : Int32), iv (0 : Int32)] [(.int (0 : Int32)), (.ref a1)])) rfl rfl (hb hby own_d1_27)) ?_
      generalize hv_v18 : (g 0) = v18
      by_cases hc28_19 : v18 < (0 : Int32)
      · refine ow_ifYes (q := 35) X1 hx (hb hby own_d1_28) (Jvm.Free.XT.i0_lt_t hc28_19) (by decide) (by decide) ?_
        refine ow_iconst (q := 36) X1 hx (0 : Int32) (hb hby own_d1_35) rfl rfl ?_
        refine ow_istore (q := 38) X1 hx (L' := #[rv a0, rv a1, iv (0 : Int32), iv (3 : Int32), iv (0 : Int32), iv (0 : Int32)]) (hb hby own_d1_36) rfl rfl ?_
        refine ow_iinc (q := 41) X1 hx (L' := #[rv a0, rv a1, iv (0 : Int32), iv (3 : Int32), iv (0 : Int32), iv (1 : Int32)]) (hb hby own_d1_38) rfl rfl rfl ?_
        refine ow_goto (q := 13) X1 hx (hb hby own_d1_41) (by decide) (by decide) ?_
        refine ow_iload (q := 15) X1 hx (hb hby own_d1_13) rfl rfl ?_
        refine ow_iloadN (q := 16) X1 hx (hb hby own_d1_15) rfl rfl ?_
        refine ow_icmpNo (q := 19) X1 hx (hb hby own_d1_16) rfl (Jvm.Free.XT.ii_ge_f (by decide)) ?_
        refine ow_iload (q := 21) X1 hx (hb hby own_d1_19) rfl rfl ?_
        refine ow_ifYes (q := 44) X1 hx (hb hby own_d1_21) (Jvm.Free.XT.i0_eq_t (by decide)) (by decide) (by decide) ?_
        refine ow_iload (q := 46) X1 hx (hb hby own_d1_44) rfl rfl ?_
        refine ownRetN X1 hx (r := (0 : Int32)) (Or.inl rfl) Bd.returns (hb hby own_d1_46) hlk (by decide) (by decide) (by decide) ?_
        subst hv_v18
        rw [e1]
        refine ⟨congrArg (fun q => some (Value.int q)) ?_, N0, rfl⟩
        simp [own_agr, hc28_19]
      · refine ow_ifNo (q := 31) X1 hx (hb hby own_d1_28) rfl (Jvm.Free.XT.i0_lt_f hc28_19) ?_
        refine ow_iconst (q := 32) X1 hx (1 : Int32) (hb hby own_d1_31) rfl rfl ?_
        refine ow_goto (q := 36) X1 hx (hb hby own_d1_32) (by decide) (by decide) ?_
        refine ow_istore (q := 38) X1 hx (L' := #[rv a0, rv a1, iv (0 : Int32), iv (3 : Int32), iv (1 : Int32), iv (0 : Int32)]) (hb hby own_d1_36) rfl rfl ?_
        refine ow_iinc (q := 41) X1 hx (L' := #[rv a0, rv a1, iv (0 : Int32), iv (3 : Int32), iv (1 : Int32), iv (1 : Int32)]) (hb hby own_d1_38) rfl rfl rfl ?_
        refine ow_goto (q := 13) X1 hx (hb hby own_d1_41) (by decide) (by decide) ?_
        refine ow_iload (q := 15) X1 hx (hb hby own_d1_13) rfl rfl ?_
        refine ow_iloadN (q := 16) X1 hx (hb hby own_d1_15) rfl rfl ?_
        refine ow_icmpNo (q := 19) X1 hx (hb hby own_d1_16) rfl (Jvm.Free.XT.ii_ge_f (by decide)) ?_
        refine ow_iload (q := 21) X1 hx (hb hby own_d1_19) rfl rfl ?_
        refine ow_ifNo (q := 24) X1 hx (hb hby own_d1_21) rfl (Jvm.Free.XT.i0_eq_f (by decide)) ?_
        refine ow_aloadN (q := 25) X1 hx (hb hby own_d1_24) rfl rfl rfl ?_
        refine ow_iload (q := 27) X1 hx (hb hby own_d1_25) rfl rfl ?_
        refine ownGo (T' := T1) (f' := (mkF m 28 #[rv a0, rv a1, iv (0 : Int32), iv (3 : Int32), iv (1 : Int32), iv (1 : Int32)] [(.int (g 1))])) (ownBaload HF1 X1 hx hZ e1 (j := (1 : Int32)) (by unfold ownIn; decide) (g := (mkF m 27 #[rv a0, rv a1, iv (0 : Int32), iv (3 : Int32), iv (1 : Int32), iv (1 : Int32)] [(.int (1 : Int32)), (.ref a1)])) rfl rfl (hb hby own_d1_27)) ?_
        generalize hv_v20 : (g 1) = v20
        by_cases hc28_21 : v20 < (0 : Int32)
        · refine ow_ifYes (q := 35) X1 hx (hb hby own_d1_28) (Jvm.Free.XT.i0_lt_t hc28_21) (by decide) (by decide) ?_
          refine ow_iconst (q := 36) X1 hx (0 : Int32) (hb hby own_d1_35) rfl rfl ?_
          refine ow_istore (q := 38) X1 hx (L' := #[rv a0, rv a1, iv (0 : Int32), iv (3 : Int32), iv (0 : Int32), iv (1 : Int32)]) (hb hby own_d1_36) rfl rfl ?_
          refine ow_iinc (q := 41) X1 hx (L' := #[rv a0, rv a1, iv (0 : Int32), iv (3 : Int32), iv (0 : Int32), iv (2 : Int32)]) (hb hby own_d1_38) rfl rfl rfl ?_
          refine ow_goto (q := 13) X1 hx (hb hby own_d1_41) (by decide) (by decide) ?_
          refine ow_iload (q := 15) X1 hx (hb hby own_d1_13) rfl rfl ?_
          refine ow_iloadN (q := 16) X1 hx (hb hby own_d1_15) rfl rfl ?_
          refine ow_icmpNo (q := 19) X1 hx (hb hby own_d1_16) rfl (Jvm.Free.XT.ii_ge_f (by decide)) ?_
          refine ow_iload (q := 21) X1 hx (hb hby own_d1_19) rfl rfl ?_
          refine ow_ifYes (q := 44) X1 hx (hb hby own_d1_21) (Jvm.Free.XT.i0_eq_t (by decide)) (by decide) (by decide) ?_
          refine ow_iload (q := 46) X1 hx (hb hby own_d1_44) rfl rfl ?_
          refine ownRetN X1 hx (r := (0 : Int32)) (Or.inl rfl) Bd.returns (hb hby own_d1_46) hlk (by decide) (by decide) (by decide) ?_
          subst hv_v20 hv_v18
          rw [e1]
          refine ⟨congrArg (fun q => some (Value.int q)) ?_, N0, rfl⟩
          simp [own_agr, hc28_19, hc28_21]
        · refine ow_ifNo (q := 31) X1 hx (hb hby own_d1_28) rfl (Jvm.Free.XT.i0_lt_f hc28_21) ?_
          refine ow_iconst (q := 32) X1 hx (1 : Int32) (hb hby own_d1_31) rfl rfl ?_
          refine ow_goto (q := 36) X1 hx (hb hby own_d1_32) (by decide) (by decide) ?_
          refine ow_istore (q := 38) X1 hx (L' := #[rv a0, rv a1, iv (0 : Int32), iv (3 : Int32), iv (1 : Int32), iv (1 : Int32)]) (hb hby own_d1_36) rfl rfl ?_
          refine ow_iinc (q := 41) X1 hx (L' := #[rv a0, rv a1, iv (0 : Int32), iv (3 : Int32), iv (1 : Int32), iv (2 : Int32)]) (hb hby own_d1_38) rfl rfl rfl ?_
          refine ow_goto (q := 13) X1 hx (hb hby own_d1_41) (by decide) (by decide) ?_
          refine ow_iload (q := 15) X1 hx (hb hby own_d1_13) rfl rfl ?_
          refine ow_iloadN (q := 16) X1 hx (hb hby own_d1_15) rfl rfl ?_
          refine ow_icmpNo (q := 19) X1 hx (hb hby own_d1_16) rfl (Jvm.Free.XT.ii_ge_f (by decide)) ?_
          refine ow_iload (q := 21) X1 hx (hb hby own_d1_19) rfl rfl ?_
          refine ow_ifNo (q := 24) X1 hx (hb hby own_d1_21) rfl (Jvm.Free.XT.i0_eq_f (by decide)) ?_
          refine ow_aloadN (q := 25) X1 hx (hb hby own_d1_24) rfl rfl rfl ?_
          refine ow_iload (q := 27) X1 hx (hb hby own_d1_25) rfl rfl ?_
          refine ownGo (T' := T1) (f' := (mkF m 28 #[rv a0, rv a1, iv (0 : Int32), iv (3 : Int32), iv (1 : Int32), iv (2 : Int32)] [(.int (g 2))])) (ownBaload HF1 X1 hx hZ e1 (j := (2 : Int32)) (by unfold ownIn; decide) (g := (mkF m 27 #[rv a0, rv a1, iv (0 : Int32), iv (3 : Int32), iv (1 : Int32), iv (2 : Int32)] [(.int (2 : Int32)), (.ref a1)])) rfl rfl (hb hby own_d1_27)) ?_
          generalize hv_v22 : (g 2) = v22
          by_cases hc28_23 : v22 < (0 : Int32)
          · refine ow_ifYes (q := 35) X1 hx (hb hby own_d1_28) (Jvm.Free.XT.i0_lt_t hc28_23) (by decide) (by decide) ?_
            refine ow_iconst (q := 36) X1 hx (0 : Int32) (hb hby own_d1_35) rfl rfl ?_
            refine ow_istore (q := 38) X1 hx (L' := #[rv a0, rv a1, iv (0 : Int32), iv (3 : Int32), iv (0 : Int32), iv (2 : Int32)]) (hb hby own_d1_36) rfl rfl ?_
            refine ow_iinc (q := 41) X1 hx (L' := #[rv a0, rv a1, iv (0 : Int32), iv (3 : Int32), iv (0 : Int32), iv (3 : Int32)]) (hb hby own_d1_38) rfl rfl rfl ?_
            refine ow_goto (q := 13) X1 hx (hb hby own_d1_41) (by decide) (by decide) ?_
            refine ow_iload (q := 15) X1 hx (hb hby own_d1_13) rfl rfl ?_
            refine ow_iloadN (q := 16) X1 hx (hb hby own_d1_15) rfl rfl ?_
            refine ow_icmpYes (q := 44) X1 hx (hb hby own_d1_16) (Jvm.Free.XT.ii_ge_t (by decide)) (by decide) (by decide) ?_
            refine ow_iload (q := 46) X1 hx (hb hby own_d1_44) rfl rfl ?_
            refine ownRetN X1 hx (r := (0 : Int32)) (Or.inl rfl) Bd.returns (hb hby own_d1_46) hlk (by decide) (by decide) (by decide) ?_
            subst hv_v22 hv_v20 hv_v18
            rw [e1]
            refine ⟨congrArg (fun q => some (Value.int q)) ?_, N0, rfl⟩
            simp [own_agr, hc28_19, hc28_21, hc28_23]
          · refine ow_ifNo (q := 31) X1 hx (hb hby own_d1_28) rfl (Jvm.Free.XT.i0_lt_f hc28_23) ?_
            refine ow_iconst (q := 32) X1 hx (1 : Int32) (hb hby own_d1_31) rfl rfl ?_
            refine ow_goto (q := 36) X1 hx (hb hby own_d1_32) (by decide) (by decide) ?_
            refine ow_istore (q := 38) X1 hx (L' := #[rv a0, rv a1, iv (0 : Int32), iv (3 : Int32), iv (1 : Int32), iv (2 : Int32)]) (hb hby own_d1_36) rfl rfl ?_
            refine ow_iinc (q := 41) X1 hx (L' := #[rv a0, rv a1, iv (0 : Int32), iv (3 : Int32), iv (1 : Int32), iv (3 : Int32)]) (hb hby own_d1_38) rfl rfl rfl ?_
            refine ow_goto (q := 13) X1 hx (hb hby own_d1_41) (by decide) (by decide) ?_
            refine ow_iload (q := 15) X1 hx (hb hby own_d1_13) rfl rfl ?_
            refine ow_iloadN (q := 16) X1 hx (hb hby own_d1_15) rfl rfl ?_
            refine ow_icmpYes (q := 44) X1 hx (hb hby own_d1_16) (Jvm.Free.XT.ii_ge_t (by decide)) (by decide) (by decide) ?_
            refine ow_iload (q := 46) X1 hx (hb hby own_d1_44) rfl rfl ?_
            refine ownRetN X1 hx (r := (1 : Int32)) (Or.inl rfl) Bd.returns (hb hby own_d1_46) hlk (by decide) (by decide) (by decide) ?_
            subst hv_v22 hv_v20 hv_v18
            rw [e1]
            refine ⟨congrArg (fun q => some (Value.int q)) ?_, N0, rfl⟩
            simp [own_agr, hc28_19, hc28_21, hc28_23]
    · subst hs11
      refine ow_iloadN (q := 11) X1 hx (hb hby own_d1_10) rfl rfl ?_
      refine ow_istore (q := 13) X1 hx (L' := #[rv a0, rv a1, iv (0 : Int32), iv (4 : Int32), iv (1 : Int32), iv (0 : Int32)]) (hb hby own_d1_11) rfl rfl ?_
      refine ow_iload (q := 15) X1 hx (hb hby own_d1_13) rfl rfl ?_
      refine ow_iloadN (q := 16) X1 hx (hb hby own_d1_15) rfl rfl ?_
      refine ow_icmpNo (q := 19) X1 hx (hb hby own_d1_16) rfl (Jvm.Free.XT.ii_ge_f (by decide)) ?_
      refine ow_iload (q := 21) X1 hx (hb hby own_d1_19) rfl rfl ?_
      refine ow_ifNo (q := 24) X1 hx (hb hby own_d1_21) rfl (Jvm.Free.XT.i0_eq_f (by decide)) ?_
      refine ow_aloadN (q := 25) X1 hx (hb hby own_d1_24) rfl rfl rfl ?_
      refine ow_iload (q := 27) X1 hx (hb hby own_d1_25) rfl rfl ?_
      refine ownGo (T' := T1) (f' := (mkF m 28 #[rv a0, rv a1, iv (0 : Int32), iv (4 : Int32), iv (1 : Int32), iv (0 : Int32)] [(.int (g 0))])) (ownBaload HF1 X1 hx hZ e1 (j := (0 : Int32)) (by unfold ownIn; decide) (g := (mkF m 27 #[rv a0, rv a1, iv (0 : Int32), iv (4 : Int32), iv (1 : Int32), iv (0 : Int32)] [(.int (0 : Int32)), (.ref a1)])) rfl rfl (hb hby own_d1_27)) ?_
      generalize hv_v24 : (g 0) = v24
      by_cases hc28_25 : v24 < (0 : Int32)
      · refine ow_ifYes (q := 35) X1 hx (hb hby own_d1_28) (Jvm.Free.XT.i0_lt_t hc28_25) (by decide) (by decide) ?_
        refine ow_iconst (q := 36) X1 hx (0 : Int32) (hb hby own_d1_35) rfl rfl ?_
        refine ow_istore (q := 38) X1 hx (L' := #[rv a0, rv a1, iv (0 : Int32), iv (4 : Int32), iv (0 : Int32), iv (0 : Int32)]) (hb hby own_d1_36) rfl rfl ?_
        refine ow_iinc (q := 41) X1 hx (L' := #[rv a0, rv a1, iv (0 : Int32), iv (4 : Int32), iv (0 : Int32), iv (1 : Int32)]) (hb hby own_d1_38) rfl rfl rfl ?_
        refine ow_goto (q := 13) X1 hx (hb hby own_d1_41) (by decide) (by decide) ?_
        refine ow_iload (q := 15) X1 hx (hb hby own_d1_13) rfl rfl ?_
        refine ow_iloadN (q := 16) X1 hx (hb hby own_d1_15) rfl rfl ?_
        refine ow_icmpNo (q := 19) X1 hx (hb hby own_d1_16) rfl (Jvm.Free.XT.ii_ge_f (by decide)) ?_
        refine ow_iload (q := 21) X1 hx (hb hby own_d1_19) rfl rfl ?_
        refine ow_ifYes (q := 44) X1 hx (hb hby own_d1_21) (Jvm.Free.XT.i0_eq_t (by decide)) (by decide) (by decide) ?_
        refine ow_iload (q := 46) X1 hx (hb hby own_d1_44) rfl rfl ?_
        refine ownRetN X1 hx (r := (0 : Int32)) (Or.inl rfl) Bd.returns (hb hby own_d1_46) hlk (by decide) (by decide) (by decide) ?_
        subst hv_v24
        rw [e1]
        refine ⟨congrArg (fun q => some (Value.int q)) ?_, N0, rfl⟩
        simp [own_agr, hc28_25]
      · refine ow_ifNo (q := 31) X1 hx (hb hby own_d1_28) rfl (Jvm.Free.XT.i0_lt_f hc28_25) ?_
        refine ow_iconst (q := 32) X1 hx (1 : Int32) (hb hby own_d1_31) rfl rfl ?_
        refine ow_goto (q := 36) X1 hx (hb hby own_d1_32) (by decide) (by decide) ?_
        refine ow_istore (q := 38) X1 hx (L' := #[rv a0, rv a1, iv (0 : Int32), iv (4 : Int32), iv (1 : Int32), iv (0 : Int32)]) (hb hby own_d1_36) rfl rfl ?_
        refine ow_iinc (q := 41) X1 hx (L' := #[rv a0, rv a1, iv (0 : Int32), iv (4 : Int32), iv (1 : Int32), iv (1 : Int32)]) (hb hby own_d1_38) rfl rfl rfl ?_
        refine ow_goto (q := 13) X1 hx (hb hby own_d1_41) (by decide) (by decide) ?_
        refine ow_iload (q := 15) X1 hx (hb hby own_d1_13) rfl rfl ?_
        refine ow_iloadN (q := 16) X1 hx (hb hby own_d1_15) rfl rfl ?_
        refine ow_icmpNo (q := 19) X1 hx (hb hby own_d1_16) rfl (Jvm.Free.XT.ii_ge_f (by decide)) ?_
        refine ow_iload (q := 21) X1 hx (hb hby own_d1_19) rfl rfl ?_
        refine ow_ifNo (q := 24) X1 hx (hb hby own_d1_21) rfl (Jvm.Free.XT.i0_eq_f (by decide)) ?_
        refine ow_aloadN (q := 25) X1 hx (hb hby own_d1_24) rfl rfl rfl ?_
        refine ow_iload (q := 27) X1 hx (hb hby own_d1_25) rfl rfl ?_
        refine ownGo (T' := T1) (f' := (mkF m 28 #[rv a0, rv a1, iv (0 : Int32), iv (4 : Int32), iv (1 : Int32), iv (1 : Int32)] [(.int (g 1))])) (ownBaload HF1 X1 hx hZ e1 (j := (1 : Int32)) (by unfold ownIn; decide) (g := (mkF m 27 #[rv a0, rv a1, iv (0 : Int32), iv (4 : Int32), iv (1 : Int32), iv (1 : Int32)] [(.int (1 : Int32)), (.ref a1)])) rfl rfl (hb hby own_d1_27)) ?_
        generalize hv_v26 : (g 1) = v26
        by_cases hc28_27 : v26 < (0 : Int32)
        · refine ow_ifYes (q := 35) X1 hx (hb hby own_d1_28) (Jvm.Free.XT.i0_lt_t hc28_27) (by decide) (by decide) ?_
          refine ow_iconst (q := 36) X1 hx (0 : Int32) (hb hby own_d1_35) rfl rfl ?_
          refine ow_istore (q := 38) X1 hx (L' := #[rv a0, rv a1, iv (0 : Int32), iv (4 : Int32), iv (0 : Int32), iv (1 : Int32)]) (hb hby own_d1_36) rfl rfl ?_
          refine ow_iinc (q := 41) X1 hx (L' := #[rv a0, rv a1, iv (0 : Int32), iv (4 : Int32), iv (0 : Int32), iv (2 : Int32)]) (hb hby own_d1_38) rfl rfl rfl ?_
          refine ow_goto (q := 13) X1 hx (hb hby own_d1_41) (by decide) (by decide) ?_
          refine ow_iload (q := 15) X1 hx (hb hby own_d1_13) rfl rfl ?_
          refine ow_iloadN (q := 16) X1 hx (hb hby own_d1_15) rfl rfl ?_
          refine ow_icmpNo (q := 19) X1 hx (hb hby own_d1_16) rfl (Jvm.Free.XT.ii_ge_f (by decide)) ?_
          refine ow_iload (q := 21) X1 hx (hb hby own_d1_19) rfl rfl ?_
          refine ow_ifYes (q := 44) X1 hx (hb hby own_d1_21) (Jvm.Free.XT.i0_eq_t (by decide)) (by decide) (by decide) ?_
          refine ow_iload (q := 46) X1 hx (hb hby own_d1_44) rfl rfl ?_
          refine ownRetN X1 hx (r := (0 : Int32)) (Or.inl rfl) Bd.returns (hb hby own_d1_46) hlk (by decide) (by decide) (by decide) ?_
          subst hv_v26 hv_v24
          rw [e1]
          refine ⟨congrArg (fun q => some (Value.int q)) ?_, N0, rfl⟩
          simp [own_agr, hc28_25, hc28_27]
        · refine ow_ifNo (q := 31) X1 hx (hb hby own_d1_28) rfl (Jvm.Free.XT.i0_lt_f hc28_27) ?_
          refine ow_iconst (q := 32) X1 hx (1 : Int32) (hb hby own_d1_31) rfl rfl ?_
          refine ow_goto (q := 36) X1 hx (hb hby own_d1_32) (by decide) (by decide) ?_
          refine ow_istore (q := 38) X1 hx (L' := #[rv a0, rv a1, iv (0 : Int32), iv (4 : Int32), iv (1 : Int32), iv (1 : Int32)]) (hb hby own_d1_36) rfl rfl ?_
          refine ow_iinc (q := 41) X1 hx (L' := #[rv a0, rv a1, iv (0 : Int32), iv (4 : Int32), iv (1 : Int32), iv (2 : Int32)]) (hb hby own_d1_38) rfl rfl rfl ?_
          refine ow_goto (q := 13) X1 hx (hb hby own_d1_41) (by decide) (by decide) ?_
          refine ow_iload (q := 15) X1 hx (hb hby own_d1_13) rfl rfl ?_
          refine ow_iloadN (q := 16) X1 hx (hb hby own_d1_15) rfl rfl ?_
          refine ow_icmpNo (q := 19) X1 hx (hb hby own_d1_16) rfl (Jvm.Free.XT.ii_ge_f (by decide)) ?_
          refine ow_iload (q := 21) X1 hx (hb hby own_d1_19) rfl rfl ?_
          refine ow_ifNo (q := 24) X1 hx (hb hby own_d1_21) rfl (Jvm.Free.XT.i0_eq_f (by decide)) ?_
          refine ow_aloadN (q := 25) X1 hx (hb hby own_d1_24) rfl rfl rfl ?_
          refine ow_iload (q := 27) X1 hx (hb hby own_d1_25) rfl rfl ?_
          refine ownGo (T' := T1) (f' := (mkF m 28 #[rv a0, rv a1, iv (0 : Int32), iv (4 : Int32), iv (1 : Int32), iv (2 : Int32)] [(.int (g 2))])) (ownBaload HF1 X1 hx hZ e1 (j := (2 : Int32)) (by unfold ownIn; decide) (g := (mkF m 27 #[rv a0, rv a1, iv (0 : Int32), iv (4 : Int32), iv (1 : Int32), iv (2 : Int32)] [(.int (2 : Int32)), (.ref a1)])) rfl rfl (hb hby own_d1_27)) ?_
          generalize hv_v28 : (g 2) = v28
          by_cases hc28_29 : v28 < (0 : Int32)
          · refine ow_ifYes (q := 35) X1 hx (hb hby own_d1_28) (Jvm.Free.XT.i0_lt_t hc28_29) (by decide) (by decide) ?_
            refine ow_iconst (q := 36) X1 hx (0 : Int32) (hb hby own_d1_35) rfl rfl ?_
            refine ow_istore (q := 38) X1 hx (L' := #[rv a0, rv a1, iv (0 : Int32), iv (4 : Int32), iv (0 : Int32), iv (2 : Int32)]) (hb hby own_d1_36) rfl rfl ?_
            refine ow_iinc (q := 41) X1 hx (L' := #[rv a0, rv a1, iv (0 : Int32), iv (4 : Int32), iv (0 : Int32), iv (3 : Int32)]) (hb hby own_d1_38) rfl rfl rfl ?_
            refine ow_goto (q := 13) X1 hx (hb hby own_d1_41) (by decide) (by decide) ?_
            refine ow_iload (q := 15) X1 hx (hb hby own_d1_13) rfl rfl ?_
            refine ow_iloadN (q := 16) X1 hx (hb hby own_d1_15) rfl rfl ?_
            refine ow_icmpNo (q := 19) X1 hx (hb hby own_d1_16) rfl (Jvm.Free.XT.ii_ge_f (by decide)) ?_
            refine ow_iload (q := 21) X1 hx (hb hby own_d1_19) rfl rfl ?_
            refine ow_ifYes (q := 44) X1 hx (hb hby own_d1_21) (Jvm.Free.XT.i0_eq_t (by decide)) (by decide) (by decide) ?_
            refine ow_iload (q := 46) X1 hx (hb hby own_d1_44) rfl rfl ?_
            refine ownRetN X1 hx (r := (0 : Int32)) (Or.inl rfl) Bd.returns (hb hby own_d1_46) hlk (by decide) (by decide) (by decide) ?_
            subst hv_v28 hv_v26 hv_v24
            rw [e1]
            refine ⟨congrArg (fun q => some (Value.int q)) ?_, N0, rfl⟩
            simp [own_agr, hc28_25, hc28_27, hc28_29]
          · refine ow_ifNo (q := 31) X1 hx (hb hby own_d1_28) rfl (Jvm.Free.XT.i0_lt_f hc28_29) ?_
            refine ow_iconst (q := 32) X1 hx (1 : Int32) (hb hby own_d1_31) rfl rfl ?_
            refine ow_goto (q := 36) X1 hx (hb hby own_d1_32) (by decide) (by decide) ?_
            refine ow_istore (q := 38) X1 hx (L' := #[rv a0, rv a1, iv (0 : Int32), iv (4 : Int32), iv (1 : Int32), iv (2 : Int32)]) (hb hby own_d1_36) rfl rfl ?_
            refine ow_iinc (q := 41) X1 hx (L' := #[rv a0, rv a1, iv (0 : Int32), iv (4 : Int32), iv (1 : Int32), iv (3 : Int32)]) (hb hby own_d1_38) rfl rfl rfl ?_
            refine ow_goto (q := 13) X1 hx (hb hby own_d1_41) (by decide) (by decide) ?_
            refine ow_iload (q := 15) X1 hx (hb hby own_d1_13) rfl rfl ?_
            refine ow_iloadN (q := 16) X1 hx (hb hby own_d1_15) rfl rfl ?_
            refine ow_icmpNo (q := 19) X1 hx (hb hby own_d1_16) rfl (Jvm.Free.XT.ii_ge_f (by decide)) ?_
            refine ow_iload (q := 21) X1 hx (hb hby own_d1_19) rfl rfl ?_
            refine ow_ifNo (q := 24) X1 hx (hb hby own_d1_21) rfl (Jvm.Free.XT.i0_eq_f (by decide)) ?_
            refine ow_aloadN (q := 25) X1 hx (hb hby own_d1_24) rfl rfl rfl ?_
            refine ow_iload (q := 27) X1 hx (hb hby own_d1_25) rfl rfl ?_
            refine ownGo (T' := T1) (f' := (mkF m 28 #[rv a0, rv a1, iv (0 : Int32), iv (4 : Int32), iv (1 : Int32), iv (3 : Int32)] [(.int (g 3))])) (ownBaload HF1 X1 hx hZ e1 (j := (3 : Int32)) (by unfold ownIn; decide) (g := (mkF m 27 #[rv a0, rv a1, iv (0 : Int32), iv (4 : Int32), iv (1 : Int32), iv (3 : Int32)] [(.int (3 : Int32)), (.ref a1)])) rfl rfl (hb hby own_d1_27)) ?_
            generalize hv_v30 : (g 3) = v30
            by_cases hc28_31 : v30 < (0 : Int32)
            · refine ow_ifYes (q := 35) X1 hx (hb hby own_d1_28) (Jvm.Free.XT.i0_lt_t hc28_31) (by decide) (by decide) ?_
              refine ow_iconst (q := 36) X1 hx (0 : Int32) (hb hby own_d1_35) rfl rfl ?_
              refine ow_istore (q := 38) X1 hx (L' := #[rv a0, rv a1, iv (0 : Int32), iv (4 : Int32), iv (0 : Int32), iv (3 : Int32)]) (hb hby own_d1_36) rfl rfl ?_
              refine ow_iinc (q := 41) X1 hx (L' := #[rv a0, rv a1, iv (0 : Int32), iv (4 : Int32), iv (0 : Int32), iv (4 : Int32)]) (hb hby own_d1_38) rfl rfl rfl ?_
              refine ow_goto (q := 13) X1 hx (hb hby own_d1_41) (by decide) (by decide) ?_
              refine ow_iload (q := 15) X1 hx (hb hby own_d1_13) rfl rfl ?_
              refine ow_iloadN (q := 16) X1 hx (hb hby own_d1_15) rfl rfl ?_
              refine ow_icmpYes (q := 44) X1 hx (hb hby own_d1_16) (Jvm.Free.XT.ii_ge_t (by decide)) (by decide) (by decide) ?_
              refine ow_iload (q := 46) X1 hx (hb hby own_d1_44) rfl rfl ?_
              refine ownRetN X1 hx (r := (0 : Int32)) (Or.inl rfl) Bd.returns (hb hby own_d1_46) hlk (by decide) (by decide) (by decide) ?_
              subst hv_v30 hv_v28 hv_v26 hv_v24
              rw [e1]
              refine ⟨congrArg (fun q => some (Value.int q)) ?_, N0, rfl⟩
              simp [own_agr, hc28_25, hc28_27, hc28_29, hc28_31]
            · refine ow_ifNo (q := 31) X1 hx (hb hby own_d1_28) rfl (Jvm.Free.XT.i0_lt_f hc28_31) ?_
              refine ow_iconst (q := 32) X1 hx (1 : Int32) (hb hby own_d1_31) rfl rfl ?_
              refine ow_goto (q := 36) X1 hx (hb hby own_d1_32) (by decide) (by decide) ?_
              refine ow_istore (q := 38) X1 hx (L' := #[rv a0, rv a1, iv (0 : Int32), iv (4 : Int32), iv (1 : Int32), iv (3 : Int32)]) (hb hby own_d1_36) rfl rfl ?_
              refine ow_iinc (q := 41) X1 hx (L' := #[rv a0, rv a1, iv (0 : Int32), iv (4 : Int32), iv (1 : Int32), iv (4 : Int32)]) (hb hby own_d1_38) rfl rfl rfl ?_
              refine ow_goto (q := 13) X1 hx (hb hby own_d1_41) (by decide) (by decide) ?_
              refine ow_iload (q := 15) X1 hx (hb hby own_d1_13) rfl rfl ?_
              refine ow_iloadN (q := 16) X1 hx (hb hby own_d1_15) rfl rfl ?_
              refine ow_icmpYes (q := 44) X1 hx (hb hby own_d1_16) (Jvm.Free.XT.ii_ge_t (by decide)) (by decide) (by decide) ?_
              refine ow_iload (q := 46) X1 hx (hb hby own_d1_44) rfl rfl ?_
              refine ownRetN X1 hx (r := (1 : Int32)) (Or.inl rfl) Bd.returns (hb hby own_d1_46) hlk (by decide) (by decide) (by decide) ?_
              subst hv_v30 hv_v28 hv_v26 hv_v24
              rw [e1]
              refine ⟨congrArg (fun q => some (Value.int q)) ?_, N0, rfl⟩
              simp [own_agr, hc28_25, hc28_27, hc28_29, hc28_31]
  · subst hs3
    rcases ht with hs32 | hs33 | hs34 | hs35 | hs36
    · subst hs32
      refine ow_iloadN (q := 11) X1 hx (hb hby own_d1_10) rfl rfl ?_
      refine ow_istore (q := 13) X1 hx (L' := #[rv a0, rv a1, iv (1 : Int32), iv (0 : Int32), iv (1 : Int32), iv (1 : Int32)]) (hb hby own_d1_11) rfl rfl ?_
      refine ow_iload (q := 15) X1 hx (hb hby own_d1_13) rfl rfl ?_
      refine ow_iloadN (q := 16) X1 hx (hb hby own_d1_15) rfl rfl ?_
      refine ow_icmpYes (q := 44) X1 hx (hb hby own_d1_16) (Jvm.Free.XT.ii_ge_t (by decide)) (by decide) (by decide) ?_
      refine ow_iload (q := 46) X1 hx (hb hby own_d1_44) rfl rfl ?_
      refine ownRetN X1 hx (r := (1 : Int32)) (Or.inl rfl) Bd.returns (hb hby own_d1_46) hlk (by decide) (by decide) (by decide) ?_
      rw [e1]
      refine ⟨congrArg (fun q => some (Value.int q)) ?_, N0, rfl⟩
      simp [own_agr]
    · subst hs33
      refine ow_iloadN (q := 11) X1 hx (hb hby own_d1_10) rfl rfl ?_
      refine ow_istore (q := 13) X1 hx (L' := #[rv a0, rv a1, iv (1 : Int32), iv (1 : Int32), iv (1 : Int32), iv (1 : Int32)]) (hb hby own_d1_11) rfl rfl ?_
      refine ow_iload (q := 15) X1 hx (hb hby own_d1_13) rfl rfl ?_
      refine ow_iloadN (q := 16) X1 hx (hb hby own_d1_15) rfl rfl ?_
      refine ow_icmpYes (q := 44) X1 hx (hb hby own_d1_16) (Jvm.Free.XT.ii_ge_t (by decide)) (by decide) (by decide) ?_
      refine ow_iload (q := 46) X1 hx (hb hby own_d1_44) rfl rfl ?_
      refine ownRetN X1 hx (r := (1 : Int32)) (Or.inl rfl) Bd.returns (hb hby own_d1_46) hlk (by decide) (by decide) (by decide) ?_
      rw [e1]
      refine ⟨congrArg (fun q => some (Value.int q)) ?_, N0, rfl⟩
      simp [own_agr]
    · subst hs34
      refine ow_iloadN (q := 11) X1 hx (hb hby own_d1_10) rfl rfl ?_
      refine ow_istore (q := 13) X1 hx (L' := #[rv a0, rv a1, iv (1 : Int32), iv (2 : Int32), iv (1 : Int32), iv (1 : Int32)]) (hb hby own_d1_11) rfl rfl ?_
      refine ow_iload (q := 15) X1 hx (hb hby own_d1_13) rfl rfl ?_
      refine ow_iloadN (q := 16) X1 hx (hb hby own_d1_15) rfl rfl ?_
      refine ow_icmpNo (q := 19) X1 hx (hb hby own_d1_16) rfl (Jvm.Free.XT.ii_ge_f (by decide)) ?_
      refine ow_iload (q := 21) X1 hx (hb hby own_d1_19) rfl rfl ?_
      refine ow_ifNo (q := 24) X1 hx (hb hby own_d1_21) rfl (Jvm.Free.XT.i0_eq_f (by decide)) ?_
      refine ow_aloadN (q := 25) X1 hx (hb hby own_d1_24) rfl rfl rfl ?_
      refine ow_iload (q := 27) X1 hx (hb hby own_d1_25) rfl rfl ?_
      refine ownGo (T' := T1) (f' := (mkF m 28 #[rv a0, rv a1, iv (1 : Int32), iv (2 : Int32), iv (1 : Int32), iv (1 : Int32)] [(.int (g 1))])) (ownBaload HF1 X1 hx hZ e1 (j := (1 : Int32)) (by unfold ownIn; decide) (g := (mkF m 27 #[rv a0, rv a1, iv (1 : Int32), iv (2 : Int32), iv (1 : Int32), iv (1 : Int32)] [(.int (1 : Int32)), (.ref a1)])) rfl rfl (hb hby own_d1_27)) ?_
      generalize hv_v37 : (g 1) = v37
      by_cases hc28_38 : v37 < (0 : Int32)
      · refine ow_ifYes (q := 35) X1 hx (hb hby own_d1_28) (Jvm.Free.XT.i0_lt_t hc28_38) (by decide) (by decide) ?_
        refine ow_iconst (q := 36) X1 hx (0 : Int32) (hb hby own_d1_35) rfl rfl ?_
        refine ow_istore (q := 38) X1 hx (L' := #[rv a0, rv a1, iv (1 : Int32), iv (2 : Int32), iv (0 : Int32), iv (1 : Int32)]) (hb hby own_d1_36) rfl rfl ?_
        refine ow_iinc (q := 41) X1 hx (L' := #[rv a0, rv a1, iv (1 : Int32), iv (2 : Int32), iv (0 : Int32), iv (2 : Int32)]) (hb hby own_d1_38) rfl rfl rfl ?_
        refine ow_goto (q := 13) X1 hx (hb hby own_d1_41) (by decide) (by decide) ?_
        refine ow_iload (q := 15) X1 hx (hb hby own_d1_13) rfl rfl ?_
        refine ow_iloadN (q := 16) X1 hx (hb hby own_d1_15) rfl rfl ?_
        refine ow_icmpYes (q := 44) X1 hx (hb hby own_d1_16) (Jvm.Free.XT.ii_ge_t (by decide)) (by decide) (by decide) ?_
        refine ow_iload (q := 46) X1 hx (hb hby own_d1_44) rfl rfl ?_
        refine ownRetN X1 hx (r := (0 : Int32)) (Or.inl rfl) Bd.returns (hb hby own_d1_46) hlk (by decide) (by decide) (by decide) ?_
        subst hv_v37
        rw [e1]
        refine ⟨congrArg (fun q => some (Value.int q)) ?_, N0, rfl⟩
        simp [own_agr, hc28_38]
      · refine ow_ifNo (q := 31) X1 hx (hb hby own_d1_28) rfl (Jvm.Free.XT.i0_lt_f hc28_38) ?_
        refine ow_iconst (q := 32) X1 hx (1 : Int32) (hb hby own_d1_31) rfl rfl ?_
        refine ow_goto (q := 36) X1 hx (hb hby own_d1_32) (by decide) (by decide) ?_
        refine ow_istore (q := 38) X1 hx (L' := #[rv a0, rv a1, iv (1 : Int32), iv (2 : Int32), iv (1 : Int32), iv (1 : Int32)]) (hb hby own_d1_36) rfl rfl ?_
        refine ow_iinc (q := 41) X1 hx (L' := #[rv a0, rv a1, iv (1 : Int32), iv (2 : Int32), iv (1 : Int32), iv (2 : Int32)]) (hb hby own_d1_38) rfl rfl rfl ?_
        refine ow_goto (q := 13) X1 hx (hb hby own_d1_41) (by decide) (by decide) ?_
        refine ow_iload (q := 15) X1 hx (hb hby own_d1_13) rfl rfl ?_
        refine ow_iloadN (q := 16) X1 hx (hb hby own_d1_15) rfl rfl ?_
        refine ow_icmpYes (q := 44) X1 hx (hb hby own_d1_16) (Jvm.Free.XT.ii_ge_t (by decide)) (by decide) (by decide) ?_
        refine ow_iload (q := 46) X1 hx (hb hby own_d1_44) rfl rfl ?_
        refine ownRetN X1 hx (r := (1 : Int32)) (Or.inl rfl) Bd.returns (hb hby own_d1_46) hlk (by decide) (by decide) (by decide) ?_
        subst hv_v37
        rw [e1]
        refine ⟨congrArg (fun q => some (Value.int q)) ?_, N0, rfl⟩
        simp [own_agr, hc28_38]
    · subst hs35
      refine ow_iloadN (q := 11) X1 hx (hb hby own_d1_10) rfl rfl ?_
      refine ow_istore (q := 13) X1 hx (L' := #[rv a0, rv a1, iv (1 : Int32), iv (3 : Int32), iv (1 : Int32), iv (1 : Int32)]) (hb hby own_d1_11) rfl rfl ?_
      refine ow_iload (q := 15) X1 hx (hb hby own_d1_13) rfl rfl ?_
      refine ow_iloadN (q := 16) X1 hx (hb hby own_d1_15) rfl rfl ?_
      refine ow_icmpNo (q := 19) X1 hx (hb hby own_d1_16) rfl (Jvm.Free.XT.ii_ge_f (by decide)) ?_
      refine ow_iload (q := 21) X1 hx (hb hby own_d1_19) rfl rfl ?_
      refine ow_ifNo (q := 24) X1 hx (hb hby own_d1_21) rfl (Jvm.Free.XT.i0_eq_f (by decide)) ?_
      refine ow_aloadN (q := 25) X1 hx (hb hby own_d1_24) rfl rfl rfl ?_
      refine ow_iload (q := 27) X1 hx (hb hby own_d1_25) rfl rfl ?_
      refine ownGo (T' := T1) (f' := (mkF m 28 #[rv a0, rv a1, iv (1 : Int32), iv (3 : Int32), iv (1 : Int32), iv (1 : Int32)] [(.int (g 1))])) (ownBaload HF1 X1 hx hZ e1 (j := (1 : Int32)) (by unfold ownIn; decide) (g := (mkF m 27 #[rv a0, rv a1, iv (1 : Int32), iv (3 : Int32), iv (1 : Int32), iv (1 : Int32)] [(.int (1 : Int32)), (.ref a1)])) rfl rfl (hb hby own_d1_27)) ?_
      generalize hv_v39 : (g 1) = v39
      by_cases hc28_40 : v39 < (0 : Int32)
      · refine ow_ifYes (q := 35) X1 hx (hb hby own_d1_28) (Jvm.Free.XT.i0_lt_t hc28_40) (by decide) (by decide) ?_
        refine ow_iconst (q := 36) X1 hx (0 : Int32) (hb hby own_d1_35) rfl rfl ?_
        refine ow_istore (q := 38) X1 hx (L' := #[rv a0, rv a1, iv (1 : Int32), iv (3 : Int32), iv (0 : Int32), iv (1 : Int32)]) (hb hby own_d1_36) rfl rfl ?_
        refine ow_iinc (q := 41) X1 hx (L' := #[rv a0, rv a1, iv (1 : Int32), iv (3 : Int32), iv (0 : Int32), iv (2 : Int32)]) (hb hby own_d1_38) rfl rfl rfl ?_
        refine ow_goto (q := 13) X1 hx (hb hby own_d1_41) (by decide) (by decide) ?_
        refine ow_iload (q := 15) X1 hx (hb hby own_d1_13) rfl rfl ?_
        refine ow_iloadN (q := 16) X1 hx (hb hby own_d1_15) rfl rfl ?_
        refine ow_icmpNo (q := 19) X1 hx (hb hby own_d1_16) rfl (Jvm.Free.XT.ii_ge_f (by decide)) ?_
        refine ow_iload (q := 21) X1 hx (hb hby own_d1_19) rfl rfl ?_
        refine ow_ifYes (q := 44) X1 hx (hb hby own_d1_21) (Jvm.Free.XT.i0_eq_t (by decide)) (by decide) (by decide) ?_
        refine ow_iload (q := 46) X1 hx (hb hby own_d1_44) rfl rfl ?_
        refine ownRetN X1 hx (r := (0 : Int32)) (Or.inl rfl) Bd.returns (hb hby own_d1_46) hlk (by decide) (by decide) (by decide) ?_
        subst hv_v39
        rw [e1]
        refine ⟨congrArg (fun q => some (Value.int q)) ?_, N0, rfl⟩
        simp [own_agr, hc28_40]
      · refine ow_ifNo (q := 31) X1 hx (hb hby own_d1_28) rfl (Jvm.Free.XT.i0_lt_f hc28_40) ?_
        refine ow_iconst (q := 32) X1 hx (1 : Int32) (hb hby own_d1_31) rfl rfl ?_
        refine ow_goto (q := 36) X1 hx (hb hby own_d1_32) (by decide) (by decide) ?_
        refine ow_istore (q := 38) X1 hx (L' := #[rv a0, rv a1, iv (1 : Int32), iv (3 : Int32), iv (1 : Int32), iv (1 : Int32)]) (hb hby own_d1_36) rfl rfl ?_
        refine ow_iinc (q := 41) X1 hx (L' := #[rv a0, rv a1, iv (1 : Int32), iv (3 : Int32), iv (1 : Int32), iv (2 : Int32)]) (hb hby own_d1_38) rfl rfl rfl ?_
        refine ow_goto (q := 13) X1 hx (hb hby own_d1_41) (by decide) (by decide) ?_
        refine ow_iload (q := 15) X1 hx (hb hby own_d1_13) rfl rfl ?_
        refine ow_iloadN (q := 16) X1 hx (hb hby own_d1_15) rfl rfl ?_
        refine ow_icmpNo (q := 19) X1 hx (hb hby own_d1_16) rfl (Jvm.Free.XT.ii_ge_f (by decide)) ?_
        refine ow_iload (q := 21) X1 hx (hb hby own_d1_19) rfl rfl ?_
        refine ow_ifNo (q := 24) X1 hx (hb hby own_d1_21) rfl (Jvm.Free.XT.i0_eq_f (by decide)) ?_
        refine ow_aloadN (q := 25) X1 hx (hb hby own_d1_24) rfl rfl rfl ?_
        refine ow_iload (q := 27) X1 hx (hb hby own_d1_25) rfl rfl ?_
        refine ownGo (T' := T1) (f' := (mkF m 28 #[rv a0, rv a1, iv (1 : Int32), iv (3 : Int32), iv (1 : Int32), iv (2 : Int32)] [(.int (g 2))])) (ownBaload HF1 X1 hx hZ e1 (j := (2 : Int32)) (by unfold ownIn; decide) (g := (mkF m 27 #[rv a0, rv a1, iv (1 : Int32), iv (3 : Int32), iv (1 : Int32), iv (2 : Int32)] [(.int (2 : Int32)), (.ref a1)])) rfl rfl (hb hby own_d1_27)) ?_
        generalize hv_v41 : (g 2) = v41
        by_cases hc28_42 : v41 < (0 : Int32)
        · refine ow_ifYes (q := 35) X1 hx (hb hby own_d1_28) (Jvm.Free.XT.i0_lt_t hc28_42) (by decide) (by decide) ?_
          refine ow_iconst (q := 36) X1 hx (0 : Int32) (hb hby own_d1_35) rfl rfl ?_
          refine ow_istore (q := 38) X1 hx (L' := #[rv a0, rv a1, iv (1 : Int32), iv (3 : Int32), iv (0 : Int32), iv (2 : Int32)]) (hb hby own_d1_36) rfl rfl ?_
          refine ow_iinc (q := 41) X1 hx (L' := #[rv a0, rv a1, iv (1 : Int32), iv (3 : Int32), iv (0 : Int32), iv (3 : Int32)]) (hb hby own_d1_38) rfl rfl rfl ?_
          refine ow_goto (q := 13) X1 hx (hb hby own_d1_41) (by decide) (by decide) ?_
          refine ow_iload (q := 15) X1 hx (hb hby own_d1_13) rfl rfl ?_
          refine ow_iloadN (q := 16) X1 hx (hb hby own_d1_15) rfl rfl ?_
          refine ow_icmpYes (q := 44) X1 hx (hb hby own_d1_16) (Jvm.Free.XT.ii_ge_t (by decide)) (by decide) (by decide) ?_
          refine ow_iload (q := 46) X1 hx (hb hby own_d1_44) rfl rfl ?_
          refine ownRetN X1 hx (r := (0 : Int32)) (Or.inl rfl) Bd.returns (hb hby own_d1_46) hlk (by decide) (by decide) (by decide) ?_
          subst hv_v41 hv_v39
          rw [e1]
          refine ⟨congrArg (fun q => some (Value.int q)) ?_, N0, rfl⟩
          simp [own_agr, hc28_40, hc28_42]
        · refine ow_ifNo (q := 31) X1 hx (hb hby own_d1_28) rfl (Jvm.Free.XT.i0_lt_f hc28_42) ?_
          refine ow_iconst (q := 32) X1 hx (1 : Int32) (hb hby own_d1_31) rfl rfl ?_
          refine ow_goto (q := 36) X1 hx (hb hby own_d1_32) (by decide) (by decide) ?_
          refine ow_istore (q := 38) X1 hx (L' := #[rv a0, rv a1, iv (1 : Int32), iv (3 : Int32), iv (1 : Int32), iv (2 : Int32)]) (hb hby own_d1_36) rfl rfl ?_
          refine ow_iinc (q := 41) X1 hx (L' := #[rv a0, rv a1, iv (1 : Int32), iv (3 : Int32), iv (1 : Int32), iv (3 : Int32)]) (hb hby own_d1_38) rfl rfl rfl ?_
          refine ow_goto (q := 13) X1 hx (hb hby own_d1_41) (by decide) (by decide) ?_
          refine ow_iload (q := 15) X1 hx (hb hby own_d1_13) rfl rfl ?_
          refine ow_iloadN (q := 16) X1 hx (hb hby own_d1_15) rfl rfl ?_
          refine ow_icmpYes (q := 44) X1 hx (hb hby own_d1_16) (Jvm.Free.XT.ii_ge_t (by decide)) (by decide) (by decide) ?_
          refine ow_iload (q := 46) X1 hx (hb hby own_d1_44) rfl rfl ?_
          refine ownRetN X1 hx (r := (1 : Int32)) (Or.inl rfl) Bd.returns (hb hby own_d1_46) hlk (by decide) (by decide) (by decide) ?_
          subst hv_v41 hv_v39
          rw [e1]
          refine ⟨congrArg (fun q => some (Value.int q)) ?_, N0, rfl⟩
          simp [own_agr, hc28_40, hc28_42]
    · subst hs36
      refine ow_iloadN (q := 11) X1 hx (hb hby own_d1_10) rfl rfl ?_
      refine ow_istore (q := 13) X1 hx (L' := #[rv a0, rv a1, iv (1 : Int32), iv (4 : Int32), iv (1 : Int32), iv (1 : Int32)]) (hb hby own_d1_11) rfl rfl ?_
      refine ow_iload (q := 15) X1 hx (hb hby own_d1_13) rfl rfl ?_
      refine ow_iloadN (q := 16) X1 hx (hb hby own_d1_15) rfl rfl ?_
      refine ow_icmpNo (q := 19) X1 hx (hb hby own_d1_16) rfl (Jvm.Free.XT.ii_ge_f (by decide)) ?_
      refine ow_iload (q := 21) X1 hx (hb hby own_d1_19) rfl rfl ?_
      refine ow_ifNo (q := 24) X1 hx (hb hby own_d1_21) rfl (Jvm.Free.XT.i0_eq_f (by decide)) ?_
      refine ow_aloadN (q := 25) X1 hx (hb hby own_d1_24) rfl rfl rfl ?_
      refine ow_iload (q := 27) X1 hx (hb hby own_d1_25) rfl rfl ?_
      refine ownGo (T' := T1) (f' := (mkF m 28 #[rv a0, rv a1, iv (1 : Int32), iv (4 : Int32), iv (1 : Int32), iv (1 : Int32)] [(.int (g 1))])) (ownBaload HF1 X1 hx hZ e1 (j := (1 : Int32)) (by unfold ownIn; decide) (g := (mkF m 27 #[rv a0, rv a1, iv (1 : Int32), iv (4 : Int32), iv (1 : Int32), iv (1 : Int32)] [(.int (1 : Int32)), (.ref a1)])) rfl rfl (hb hby own_d1_27)) ?_
      generalize hv_v43 : (g 1) = v43
      by_cases hc28_44 : v43 < (0 : Int32)
      · refine ow_ifYes (q := 35) X1 hx (hb hby own_d1_28) (Jvm.Free.XT.i0_lt_t hc28_44) (by decide) (by decide) ?_
        refine ow_iconst (q := 36) X1 hx (0 : Int32) (hb hby own_d1_35) rfl rfl ?_
        refine ow_istore (q := 38) X1 hx (L' := #[rv a0, rv a1, iv (1 : Int32), iv (4 : Int32), iv (0 : Int32), iv (1 : Int32)]) (hb hby own_d1_36) rfl rfl ?_
        refine ow_iinc (q := 41) X1 hx (L' := #[rv a0, rv a1, iv (1 : Int32), iv (4 : Int32), iv (0 : Int32), iv (2 : Int32)]) (hb hby own_d1_38) rfl rfl rfl ?_
        refine ow_goto (q := 13) X1 hx (hb hby own_d1_41) (by decide) (by decide) ?_
        refine ow_iload (q := 15) X1 hx (hb hby own_d1_13) rfl rfl ?_
        refine ow_iloadN (q := 16) X1 hx (hb hby own_d1_15) rfl rfl ?_
        refine ow_icmpNo (q := 19) X1 hx (hb hby own_d1_16) rfl (Jvm.Free.XT.ii_ge_f (by decide)) ?_
        refine ow_iload (q := 21) X1 hx (hb hby own_d1_19) rfl rfl ?_
        refine ow_ifYes (q := 44) X1 hx (hb hby own_d1_21) (Jvm.Free.XT.i0_eq_t (by decide)) (by decide) (by decide) ?_
        refine ow_iload (q := 46) X1 hx (hb hby own_d1_44) rfl rfl ?_
        refine ownRetN X1 hx (r := (0 : Int32)) (Or.inl rfl) Bd.returns (hb hby own_d1_46) hlk (by decide) (by decide) (by decide) ?_
        subst hv_v43
        rw [e1]
        refine ⟨congrArg (fun q => some (Value.int q)) ?_, N0, rfl⟩
        simp [own_agr, hc28_44]
      · refine ow_ifNo (q := 31) X1 hx (hb hby own_d1_28) rfl (Jvm.Free.XT.i0_lt_f hc28_44) ?_
        refine ow_iconst (q := 32) X1 hx (1 : Int32) (hb hby own_d1_31) rfl rfl ?_
        refine ow_goto (q := 36) X1 hx (hb hby own_d1_32) (by decide) (by decide) ?_
        refine ow_istore (q := 38) X1 hx (L' := #[rv a0, rv a1, iv (1 : Int32), iv (4 : Int32), iv (1 : Int32), iv (1 : Int32)]) (hb hby own_d1_36) rfl rfl ?_
        refine ow_iinc (q := 41) X1 hx (L' := #[rv a0, rv a1, iv (1 : Int32), iv (4 : Int32), iv (1 : Int32), iv (2 : Int32)]) (hb hby own_d1_38) rfl rfl rfl ?_
        refine ow_goto (q := 13) X1 hx (hb hby own_d1_41) (by decide) (by decide) ?_
        refine ow_iload (q := 15) X1 hx (hb hby own_d1_13) rfl rfl ?_
        refine ow_iloadN (q := 16) X1 hx (hb hby own_d1_15) rfl rfl ?_
        refine ow_icmpNo (q := 19) X1 hx (hb hby own_d1_16) rfl (Jvm.Free.XT.ii_ge_f (by decide)) ?_
        refine ow_iload (q := 21) X1 hx (hb hby own_d1_19) rfl rfl ?_
        refine ow_ifNo (q := 24) X1 hx (hb hby own_d1_21) rfl (Jvm.Free.XT.i0_eq_f (by decide)) ?_
        refine ow_aloadN (q := 25) X1 hx (hb hby own_d1_24) rfl rfl rfl ?_
        refine ow_iload (q := 27) X1 hx (hb hby own_d1_25) rfl rfl ?_
        refine ownGo (T' := T1) (f' := (mkF m 28 #[rv a0, rv a1, iv (1 : Int32), iv (4 : Int32), iv (1 : Int32), iv (2 : Int32)] [(.int (g 2))])) (ownBaload HF1 X1 hx hZ e1 (j := (2 : Int32)) (by unfold ownIn; decide) (g := (mkF m 27 #[rv a0, rv a1, iv (1 : Int32), iv (4 : Int32), iv (1 : Int32), iv (2 : Int32)] [(.int (2 : Int32)), (.ref a1)])) rfl rfl (hb hby own_d1_27)) ?_
        generalize hv_v45 : (g 2) = v45
        by_cases hc28_46 : v45 < (0 : Int32)
        · refine ow_ifYes (q := 35) X1 hx (hb hby own_d1_28) (Jvm.Free.XT.i0_lt_t hc28_46) (by decide) (by decide) ?_
          refine ow_iconst (q := 36) X1 hx (0 : Int32) (hb hby own_d1_35) rfl rfl ?_
          refine ow_istore (q := 38) X1 hx (L' := #[rv a0, rv a1, iv (1 : Int32), iv (4 : Int32), iv (0 : Int32), iv (2 : Int32)]) (hb hby own_d1_36) rfl rfl ?_
          refine ow_iinc (q := 41) X1 hx (L' := #[rv a0, rv a1, iv (1 : Int32), iv (4 : Int32), iv (0 : Int32), iv (3 : Int32)]) (hb hby own_d1_38) rfl rfl rfl ?_
          refine ow_goto (q := 13) X1 hx (hb hby own_d1_41) (by decide) (by decide) ?_
          refine ow_iload (q := 15) X1 hx (hb hby own_d1_13) rfl rfl ?_
          refine ow_iloadN (q := 16) X1 hx (hb hby own_d1_15) rfl rfl ?_
          refine ow_icmpNo (q := 19) X1 hx (hb hby own_d1_16) rfl (Jvm.Free.XT.ii_ge_f (by decide)) ?_
          refine ow_iload (q := 21) X1 hx (hb hby own_d1_19) rfl rfl ?_
          refine ow_ifYes (q := 44) X1 hx (hb hby own_d1_21) (Jvm.Free.XT.i0_eq_t (by decide)) (by decide) (by decide) ?_
          refine ow_iload (q := 46) X1 hx (hb hby own_d1_44) rfl rfl ?_
          refine ownRetN X1 hx (r := (0 : Int32)) (Or.inl rfl) Bd.returns (hb hby own_d1_46) hlk (by decide) (by decide) (by decide) ?_
          subst hv_v45 hv_v43
          rw [e1]
          refine ⟨congrArg (fun q => some (Value.int q)) ?_, N0, rfl⟩
          simp [own_agr, hc28_44, hc28_46]
        · refine ow_ifNo (q := 31) X1 hx (hb hby own_d1_28) rfl (Jvm.Free.XT.i0_lt_f hc28_46) ?_
          refine ow_iconst (q := 32) X1 hx (1 : Int32) (hb hby own_d1_31) rfl rfl ?_
          refine ow_goto (q := 36) X1 hx (hb hby own_d1_32) (by decide) (by decide) ?_
          refine ow_istore (q := 38) X1 hx (L' := #[rv a0, rv a1, iv (1 : Int32), iv (4 : Int32), iv (1 : Int32), iv (2 : Int32)]) (hb hby own_d1_36) rfl rfl ?_
          refine ow_iinc (q := 41) X1 hx (L' := #[rv a0, rv a1, iv (1 : Int32), iv (4 : Int32), iv (1 : Int32), iv (3 : Int32)]) (hb hby own_d1_38) rfl rfl rfl ?_
          refine ow_goto (q := 13) X1 hx (hb hby own_d1_41) (by decide) (by decide) ?_
          refine ow_iload (q := 15) X1 hx (hb hby own_d1_13) rfl rfl ?_
          refine ow_iloadN (q := 16) X1 hx (hb hby own_d1_15) rfl rfl ?_
          refine ow_icmpNo (q := 19) X1 hx (hb hby own_d1_16) rfl (Jvm.Free.XT.ii_ge_f (by decide)) ?_
          refine ow_iload (q := 21) X1 hx (hb hby own_d1_19) rfl rfl ?_
          refine ow_ifNo (q := 24) X1 hx (hb hby own_d1_21) rfl (Jvm.Free.XT.i0_eq_f (by decide)) ?_
          refine ow_aloadN (q := 25) X1 hx (hb hby own_d1_24) rfl rfl rfl ?_
          refine ow_iload (q := 27) X1 hx (hb hby own_d1_25) rfl rfl ?_
          refine ownGo (T' := T1) (f' := (mkF m 28 #[rv a0, rv a1, iv (1 : Int32), iv (4 : Int32), iv (1 : Int32), iv (3 : Int32)] [(.int (g 3))])) (ownBaload HF1 X1 hx hZ e1 (j := (3 : Int32)) (by unfold ownIn; decide) (g := (mkF m 27 #[rv a0, rv a1, iv (1 : Int32), iv (4 : Int32), iv (1 : Int32), iv (3 : Int32)] [(.int (3 : Int32)), (.ref a1)])) rfl rfl (hb hby own_d1_27)) ?_
          generalize hv_v47 : (g 3) = v47
          by_cases hc28_48 : v47 < (0 : Int32)
          · refine ow_ifYes (q := 35) X1 hx (hb hby own_d1_28) (Jvm.Free.XT.i0_lt_t hc28_48) (by decide) (by decide) ?_
            refine ow_iconst (q := 36) X1 hx (0 : Int32) (hb hby own_d1_35) rfl rfl ?_
            refine ow_istore (q := 38) X1 hx (L' := #[rv a0, rv a1, iv (1 : Int32), iv (4 : Int32), iv (0 : Int32), iv (3 : Int32)]) (hb hby own_d1_36) rfl rfl ?_
            refine ow_iinc (q := 41) X1 hx (L' := #[rv a0, rv a1, iv (1 : Int32), iv (4 : Int32), iv (0 : Int32), iv (4 : Int32)]) (hb hby own_d1_38) rfl rfl rfl ?_
            refine ow_goto (q := 13) X1 hx (hb hby own_d1_41) (by decide) (by decide) ?_
            refine ow_iload (q := 15) X1 hx (hb hby own_d1_13) rfl rfl ?_
            refine ow_iloadN (q := 16) X1 hx (hb hby own_d1_15) rfl rfl ?_
            refine ow_icmpYes (q := 44) X1 hx (hb hby own_d1_16) (Jvm.Free.XT.ii_ge_t (by decide)) (by decide) (by decide) ?_
            refine ow_iload (q := 46) X1 hx (hb hby own_d1_44) rfl rfl ?_
            refine ownRetN X1 hx (r := (0 : Int32)) (Or.inl rfl) Bd.returns (hb hby own_d1_46) hlk (by decide) (by decide) (by decide) ?_
            subst hv_v47 hv_v45 hv_v43
            rw [e1]
            refine ⟨congrArg (fun q => some (Value.int q)) ?_, N0, rfl⟩
            simp [own_agr, hc28_44, hc28_46, hc28_48]
          · refine ow_ifNo (q := 31) X1 hx (hb hby own_d1_28) rfl (Jvm.Free.XT.i0_lt_f hc28_48) ?_
            refine ow_iconst (q := 32) X1 hx (1 : Int32) (hb hby own_d1_31) rfl rfl ?_
            refine ow_goto (q := 36) X1 hx (hb hby own_d1_32) (by decide) (by decide) ?_
            refine ow_istore (q := 38) X1 hx (L' := #[rv a0, rv a1, iv (1 : Int32), iv (4 : Int32), iv (1 : Int32), iv (3 : Int32)]) (hb hby own_d1_36) rfl rfl ?_
            refine ow_iinc (q := 41) X1 hx (L' := #[rv a0, rv a1, iv (1 : Int32), iv (4 : Int32), iv (1 : Int32), iv (4 : Int32)]) (hb hby own_d1_38) rfl rfl rfl ?_
            refine ow_goto (q := 13) X1 hx (hb hby own_d1_41) (by decide) (by decide) ?_
            refine ow_iload (q := 15) X1 hx (hb hby own_d1_13) rfl rfl ?_
            refine ow_iloadN (q := 16) X1 hx (hb hby own_d1_15) rfl rfl ?_
            refine ow_icmpYes (q := 44) X1 hx (hb hby own_d1_16) (Jvm.Free.XT.ii_ge_t (by decide)) (by decide) (by decide) ?_
            refine ow_iload (q := 46) X1 hx (hb hby own_d1_44) rfl rfl ?_
            refine ownRetN X1 hx (r := (1 : Int32)) (Or.inl rfl) Bd.returns (hb hby own_d1_46) hlk (by decide) (by decide) (by decide) ?_
            subst hv_v47 hv_v45 hv_v43
            rw [e1]
            refine ⟨congrArg (fun q => some (Value.int q)) ?_, N0, rfl⟩
            simp [own_agr, hc28_44, hc28_46, hc28_48]
  · subst hs4
    rcases ht with hs49 | hs50 | hs51 | hs52 | hs53
    · subst hs49
      refine ow_iloadN (q := 11) X1 hx (hb hby own_d1_10) rfl rfl ?_
      refine ow_istore (q := 13) X1 hx (L' := #[rv a0, rv a1, iv (2 : Int32), iv (0 : Int32), iv (1 : Int32), iv (2 : Int32)]) (hb hby own_d1_11) rfl rfl ?_
      refine ow_iload (q := 15) X1 hx (hb hby own_d1_13) rfl rfl ?_
      refine ow_iloadN (q := 16) X1 hx (hb hby own_d1_15) rfl rfl ?_
      refine ow_icmpYes (q := 44) X1 hx (hb hby own_d1_16) (Jvm.Free.XT.ii_ge_t (by decide)) (by decide) (by decide) ?_
      refine ow_iload (q := 46) X1 hx (hb hby own_d1_44) rfl rfl ?_
      refine ownRetN X1 hx (r := (1 : Int32)) (Or.inl rfl) Bd.returns (hb hby own_d1_46) hlk (by decide) (by decide) (by decide) ?_
      rw [e1]
      refine ⟨congrArg (fun q => some (Value.int q)) ?_, N0, rfl⟩
      simp [own_agr]
    · subst hs50
      refine ow_iloadN (q := 11) X1 hx (hb hby own_d1_10) rfl rfl ?_
      refine ow_istore (q := 13) X1 hx (L' := #[rv a0, rv a1, iv (2 : Int32), iv (1 : Int32), iv (1 : Int32), iv (2 : Int32)]) (hb hby own_d1_11) rfl rfl ?_
      refine ow_iload (q := 15) X1 hx (hb hby own_d1_13) rfl rfl ?_
      refine ow_iloadN (q := 16) X1 hx (hb hby own_d1_15) rfl rfl ?_
      refine ow_icmpYes (q := 44) X1 hx (hb hby own_d1_16) (Jvm.Free.XT.ii_ge_t (by decide)) (by decide) (by decide) ?_
      refine ow_iload (q := 46) X1 hx (hb hby own_d1_44) rfl rfl ?_
      refine ownRetN X1 hx (r := (1 : Int32)) (Or.inl rfl) Bd.returns (hb hby own_d1_46) hlk (by decide) (by decide) (by decide) ?_
      rw [e1]
      refine ⟨congrArg (fun q => some (Value.int q)) ?_, N0, rfl⟩
      simp [own_agr]
    · subst hs51
      refine ow_iloadN (q := 11) X1 hx (hb hby own_d1_10) rfl rfl ?_
      refine ow_istore (q := 13) X1 hx (L' := #[rv a0, rv a1, iv (2 : Int32), iv (2 : Int32), iv (1 : Int32), iv (2 : Int32)]) (hb hby own_d1_11) rfl rfl ?_
      refine ow_iload (q := 15) X1 hx (hb hby own_d1_13) rfl rfl ?_
      refine ow_iloadN (q := 16) X1 hx (hb hby own_d1_15) rfl rfl ?_
      refine ow_icmpYes (q := 44) X1 hx (hb hby own_d1_16) (Jvm.Free.XT.ii_ge_t (by decide)) (by decide) (by decide) ?_
      refine ow_iload (q := 46) X1 hx (hb hby own_d1_44) rfl rfl ?_
      refine ownRetN X1 hx (r := (1 : Int32)) (Or.inl rfl) Bd.returns (hb hby own_d1_46) hlk (by decide) (by decide) (by decide) ?_
      rw [e1]
      refine ⟨congrArg (fun q => some (Value.int q)) ?_, N0, rfl⟩
      simp [own_agr]
    · subst hs52
      refine ow_iloadN (q := 11) X1 hx (hb hby own_d1_10) rfl rfl ?_
      refine ow_istore (q := 13) X1 hx (L' := #[rv a0, rv a1, iv (2 : Int32), iv (3 : Int32), iv (1 : Int32), iv (2 : Int32)]) (hb hby own_d1_11) rfl rfl ?_
      refine ow_iload (q := 15) X1 hx (hb hby own_d1_13) rfl rfl ?_
      refine ow_iloadN (q := 16) X1 hx (hb hby own_d1_15) rfl rfl ?_
      refine ow_icmpNo (q := 19) X1 hx (hb hby own_d1_16) rfl (Jvm.Free.XT.ii_ge_f (by decide)) ?_
      refine ow_iload (q := 21) X1 hx (hb hby own_d1_19) rfl rfl ?_
      refine ow_ifNo (q := 24) X1 hx (hb hby own_d1_21) rfl (Jvm.Free.XT.i0_eq_f (by decide)) ?_
      refine ow_aloadN (q := 25) X1 hx (hb hby own_d1_24) rfl rfl rfl ?_
      refine ow_iload (q := 27) X1 hx (hb hby own_d1_25) rfl rfl ?_
      refine ownGo (T' := T1) (f' := (mkF m 28 #[rv a0, rv a1, iv (2 : Int32), iv (3 : Int32), iv (1 : Int32), iv (2 : Int32)] [(.int (g 2))])) (ownBaload HF1 X1 hx hZ e1 (j := (2 : Int32)) (by unfold ownIn; decide) (g := (mkF m 27 #[rv a0, rv a1, iv (2 : Int32), iv (3 : Int32), iv (1 : Int32), iv (2 : Int32)] [(.int (2 : Int32)), (.ref a1)])) rfl rfl (hb hby own_d1_27)) ?_
      generalize hv_v54 : (g 2) = v54
      by_cases hc28_55 : v54 < (0 : Int32)
      · refine ow_ifYes (q := 35) X1 hx (hb hby own_d1_28) (Jvm.Free.XT.i0_lt_t hc28_55) (by decide) (by decide) ?_
        refine ow_iconst (q := 36) X1 hx (0 : Int32) (hb hby own_d1_35) rfl rfl ?_
        refine ow_istore (q := 38) X1 hx (L' := #[rv a0, rv a1, iv (2 : Int32), iv (3 : Int32), iv (0 : Int32), iv (2 : Int32)]) (hb hby own_d1_36) rfl rfl ?_
        refine ow_iinc (q := 41) X1 hx (L' := #[rv a0, rv a1, iv (2 : Int32), iv (3 : Int32), iv (0 : Int32), iv (3 : Int32)]) (hb hby own_d1_38) rfl rfl rfl ?_
        refine ow_goto (q := 13) X1 hx (hb hby own_d1_41) (by decide) (by decide) ?_
        refine ow_iload (q := 15) X1 hx (hb hby own_d1_13) rfl rfl ?_
        refine ow_iloadN (q := 16) X1 hx (hb hby own_d1_15) rfl rfl ?_
        refine ow_icmpYes (q := 44) X1 hx (hb hby own_d1_16) (Jvm.Free.XT.ii_ge_t (by decide)) (by decide) (by decide) ?_
        refine ow_iload (q := 46) X1 hx (hb hby own_d1_44) rfl rfl ?_
        refine ownRetN X1 hx (r := (0 : Int32)) (Or.inl rfl) Bd.returns (hb hby own_d1_46) hlk (by decide) (by decide) (by decide) ?_
        subst hv_v54
        rw [e1]
        refine ⟨congrArg (fun q => some (Value.int q)) ?_, N0, rfl⟩
        simp [own_agr, hc28_55]
      · refine ow_ifNo (q := 31) X1 hx (hb hby own_d1_28) rfl (Jvm.Free.XT.i0_lt_f hc28_55) ?_
        refine ow_iconst (q := 32) X1 hx (1 : Int32) (hb hby own_d1_31) rfl rfl ?_
        refine ow_goto (q := 36) X1 hx (hb hby own_d1_32) (by decide) (by decide) ?_
        refine ow_istore (q := 38) X1 hx (L' := #[rv a0, rv a1, iv (2 : Int32), iv (3 : Int32), iv (1 : Int32), iv (2 : Int32)]) (hb hby own_d1_36) rfl rfl ?_
        refine ow_iinc (q := 41) X1 hx (L' := #[rv a0, rv a1, iv (2 : Int32), iv (3 : Int32), iv (1 : Int32), iv (3 : Int32)]) (hb hby own_d1_38) rfl rfl rfl ?_
        refine ow_goto (q := 13) X1 hx (hb hby own_d1_41) (by decide) (by decide) ?_
        refine ow_iload (q := 15) X1 hx (hb hby own_d1_13) rfl rfl ?_
        refine ow_iloadN (q := 16) X1 hx (hb hby own_d1_15) rfl rfl ?_
        refine ow_icmpYes (q := 44) X1 hx (hb hby own_d1_16) (Jvm.Free.XT.ii_ge_t (by decide)) (by decide) (by decide) ?_
        refine ow_iload (q := 46) X1 hx (hb hby own_d1_44) rfl rfl ?_
        refine ownRetN X1 hx (r := (1 : Int32)) (Or.inl rfl) Bd.returns (hb hby own_d1_46) hlk (by decide) (by decide) (by decide) ?_
        subst hv_v54
        rw [e1]
        refine ⟨congrArg (fun q => some (Value.int q)) ?_, N0, rfl⟩
        simp [own_agr, hc28_55]
    · subst hs53
      refine ow_iloadN (q := 11) X1 hx (hb hby own_d1_10) rfl rfl ?_
      refine ow_istore (q := 13) X1 hx (L' := #[rv a0, rv a1, iv (2 : Int32), iv (4 : Int32), iv (1 : Int32), iv (2 : Int32)]) (hb hby own_d1_11) rfl rfl ?_
      refine ow_iload (q := 15) X1 hx (hb hby own_d1_13) rfl rfl ?_
      refine ow_iloadN (q := 16) X1 hx (hb hby own_d1_15) rfl rfl ?_
      refine ow_icmpNo (q := 19) X1 hx (hb hby own_d1_16) rfl (Jvm.Free.XT.ii_ge_f (by decide)) ?_
      refine ow_iload (q := 21) X1 hx (hb hby own_d1_19) rfl rfl ?_
      refine ow_ifNo (q := 24) X1 hx (hb hby own_d1_21) rfl (Jvm.Free.XT.i0_eq_f (by decide)) ?_
      refine ow_aloadN (q := 25) X1 hx (hb hby own_d1_24) rfl rfl rfl ?_
      refine ow_iload (q := 27) X1 hx (hb hby own_d1_25) rfl rfl ?_
      refine ownGo (T' := T1) (f' := (mkF m 28 #[rv a0, rv a1, iv (2 : Int32), iv (4 : Int32), iv (1 : Int32), iv (2 : Int32)] [(.int (g 2))])) (ownBaload HF1 X1 hx hZ e1 (j := (2 : Int32)) (by unfold ownIn; decide) (g := (mkF m 27 #[rv a0, rv a1, iv (2 : Int32), iv (4 : Int32), iv (1 : Int32), iv (2 : Int32)] [(.int (2 : Int32)), (.ref a1)])) rfl rfl (hb hby own_d1_27)) ?_
      generalize hv_v56 : (g 2) = v56
      by_cases hc28_57 : v56 < (0 : Int32)
      · refine ow_ifYes (q := 35) X1 hx (hb hby own_d1_28) (Jvm.Free.XT.i0_lt_t hc28_57) (by decide) (by decide) ?_
        refine ow_iconst (q := 36) X1 hx (0 : Int32) (hb hby own_d1_35) rfl rfl ?_
        refine ow_istore (q := 38) X1 hx (L' := #[rv a0, rv a1, iv (2 : Int32), iv (4 : Int32), iv (0 : Int32), iv (2 : Int32)]) (hb hby own_d1_36) rfl rfl ?_
        refine ow_iinc (q := 41) X1 hx (L' := #[rv a0, rv a1, iv (2 : Int32), iv (4 : Int32), iv (0 : Int32), iv (3 : Int32)]) (hb hby own_d1_38) rfl rfl rfl ?_
        refine ow_goto (q := 13) X1 hx (hb hby own_d1_41) (by decide) (by decide) ?_
        refine ow_iload (q := 15) X1 hx (hb hby own_d1_13) rfl rfl ?_
        refine ow_iloadN (q := 16) X1 hx (hb hby own_d1_15) rfl rfl ?_
        refine ow_icmpNo (q := 19) X1 hx (hb hby own_d1_16) rfl (Jvm.Free.XT.ii_ge_f (by decide)) ?_
        refine ow_iload (q := 21) X1 hx (hb hby own_d1_19) rfl rfl ?_
        refine ow_ifYes (q := 44) X1 hx (hb hby own_d1_21) (Jvm.Free.XT.i0_eq_t (by decide)) (by decide) (by decide) ?_
        refine ow_iload (q := 46) X1 hx (hb hby own_d1_44) rfl rfl ?_
        refine ownRetN X1 hx (r := (0 : Int32)) (Or.inl rfl) Bd.returns (hb hby own_d1_46) hlk (by decide) (by decide) (by decide) ?_
        subst hv_v56
        rw [e1]
        refine ⟨congrArg (fun q => some (Value.int q)) ?_, N0, rfl⟩
        simp [own_agr, hc28_57]
      · refine ow_ifNo (q := 31) X1 hx (hb hby own_d1_28) rfl (Jvm.Free.XT.i0_lt_f hc28_57) ?_
        refine ow_iconst (q := 32) X1 hx (1 : Int32) (hb hby own_d1_31) rfl rfl ?_
        refine ow_goto (q := 36) X1 hx (hb hby own_d1_32) (by decide) (by decide) ?_
        refine ow_istore (q := 38) X1 hx (L' := #[rv a0, rv a1, iv (2 : Int32), iv (4 : Int32), iv (1 : Int32), iv (2 : Int32)]) (hb hby own_d1_36) rfl rfl ?_
        refine ow_iinc (q := 41) X1 hx (L' := #[rv a0, rv a1, iv (2 : Int32), iv (4 : Int32), iv (1 : Int32), iv (3 : Int32)]) (hb hby own_d1_38) rfl rfl rfl ?_
        refine ow_goto (q := 13) X1 hx (hb hby own_d1_41) (by decide) (by decide) ?_
        refine ow_iload (q := 15) X1 hx (hb hby own_d1_13) rfl rfl ?_
        refine ow_iloadN (q := 16) X1 hx (hb hby own_d1_15) rfl rfl ?_
        refine ow_icmpNo (q := 19) X1 hx (hb hby own_d1_16) rfl (Jvm.Free.XT.ii_ge_f (by decide)) ?_
        refine ow_iload (q := 21) X1 hx (hb hby own_d1_19) rfl rfl ?_
        refine ow_ifNo (q := 24) X1 hx (hb hby own_d1_21) rfl (Jvm.Free.XT.i0_eq_f (by decide)) ?_
        refine ow_aloadN (q := 25) X1 hx (hb hby own_d1_24) rfl rfl rfl ?_
        refine ow_iload (q := 27) X1 hx (hb hby own_d1_25) rfl rfl ?_
        refine ownGo (T' := T1) (f' := (mkF m 28 #[rv a0, rv a1, iv (2 : Int32), iv (4 : Int32), iv (1 : Int32), iv (3 : Int32)] [(.int (g 3))])) (ownBaload HF1 X1 hx hZ e1 (j := (3 : Int32)) (by unfold ownIn; decide) (g := (mkF m 27 #[rv a0, rv a1, iv (2 : Int32), iv (4 : Int32), iv (1 : Int32), iv (3 : Int32)] [(.int (3 : Int32)), (.ref a1)])) rfl rfl (hb hby own_d1_27)) ?_
        generalize hv_v58 : (g 3) = v58
        by_cases hc28_59 : v58 < (0 : Int32)
        · refine ow_ifYes (q := 35) X1 hx (hb hby own_d1_28) (Jvm.Free.XT.i0_lt_t hc28_59) (by decide) (by decide) ?_
          refine ow_iconst (q := 36) X1 hx (0 : Int32) (hb hby own_d1_35) rfl rfl ?_
          refine ow_istore (q := 38) X1 hx (L' := #[rv a0, rv a1, iv (2 : Int32), iv (4 : Int32), iv (0 : Int32), iv (3 : Int32)]) (hb hby own_d1_36) rfl rfl ?_
          refine ow_iinc (q := 41) X1 hx (L' := #[rv a0, rv a1, iv (2 : Int32), iv (4 : Int32), iv (0 : Int32), iv (4 : Int32)]) (hb hby own_d1_38) rfl rfl rfl ?_
          refine ow_goto (q := 13) X1 hx (hb hby own_d1_41) (by decide) (by decide) ?_
          refine ow_iload (q := 15) X1 hx (hb hby own_d1_13) rfl rfl ?_
          refine ow_iloadN (q := 16) X1 hx (hb hby own_d1_15) rfl rfl ?_
          refine ow_icmpYes (q := 44) X1 hx (hb hby own_d1_16) (Jvm.Free.XT.ii_ge_t (by decide)) (by decide) (by decide) ?_
          refine ow_iload (q := 46) X1 hx (hb hby own_d1_44) rfl rfl ?_
          refine ownRetN X1 hx (r := (0 : Int32)) (Or.inl rfl) Bd.returns (hb hby own_d1_46) hlk (by decide) (by decide) (by decide) ?_
          subst hv_v58 hv_v56
          rw [e1]
          refine ⟨congrArg (fun q => some (Value.int q)) ?_, N0, rfl⟩
          simp [own_agr, hc28_57, hc28_59]
        · refine ow_ifNo (q := 31) X1 hx (hb hby own_d1_28) rfl (Jvm.Free.XT.i0_lt_f hc28_59) ?_
          refine ow_iconst (q := 32) X1 hx (1 : Int32) (hb hby own_d1_31) rfl rfl ?_
          refine ow_goto (q := 36) X1 hx (hb hby own_d1_32) (by decide) (by decide) ?_
          refine ow_istore (q := 38) X1 hx (L' := #[rv a0, rv a1, iv (2 : Int32), iv (4 : Int32), iv (1 : Int32), iv (3 : Int32)]) (hb hby own_d1_36) rfl rfl ?_
          refine ow_iinc (q := 41) X1 hx (L' := #[rv a0, rv a1, iv (2 : Int32), iv (4 : Int32), iv (1 : Int32), iv (4 : Int32)]) (hb hby own_d1_38) rfl rfl rfl ?_
          refine ow_goto (q := 13) X1 hx (hb hby own_d1_41) (by decide) (by decide) ?_
          refine ow_iload (q := 15) X1 hx (hb hby own_d1_13) rfl rfl ?_
          refine ow_iloadN (q := 16) X1 hx (hb hby own_d1_15) rfl rfl ?_
          refine ow_icmpYes (q := 44) X1 hx (hb hby own_d1_16) (Jvm.Free.XT.ii_ge_t (by decide)) (by decide) (by decide) ?_
          refine ow_iload (q := 46) X1 hx (hb hby own_d1_44) rfl rfl ?_
          refine ownRetN X1 hx (r := (1 : Int32)) (Or.inl rfl) Bd.returns (hb hby own_d1_46) hlk (by decide) (by decide) (by decide) ?_
          subst hv_v58 hv_v56
          rw [e1]
          refine ⟨congrArg (fun q => some (Value.int q)) ?_, N0, rfl⟩
          simp [own_agr, hc28_57, hc28_59]
  · subst hs5
    rcases ht with hs60 | hs61 | hs62 | hs63 | hs64
    · subst hs60
      refine ow_iloadN (q := 11) X1 hx (hb hby own_d1_10) rfl rfl ?_
      refine ow_istore (q := 13) X1 hx (L' := #[rv a0, rv a1, iv (3 : Int32), iv (0 : Int32), iv (1 : Int32), iv (3 : Int32)]) (hb hby own_d1_11) rfl rfl ?_
      refine ow_iload (q := 15) X1 hx (hb hby own_d1_13) rfl rfl ?_
      refine ow_iloadN (q := 16) X1 hx (hb hby own_d1_15) rfl rfl ?_
      refine ow_icmpYes (q := 44) X1 hx (hb hby own_d1_16) (Jvm.Free.XT.ii_ge_t (by decide)) (by decide) (by decide) ?_
      refine ow_iload (q := 46) X1 hx (hb hby own_d1_44) rfl rfl ?_
      refine ownRetN X1 hx (r := (1 : Int32)) (Or.inl rfl) Bd.returns (hb hby own_d1_46) hlk (by decide) (by decide) (by decide) ?_
      rw [e1]
      refine ⟨congrArg (fun q => some (Value.int q)) ?_, N0, rfl⟩
      simp [own_agr]
    · subst hs61
      refine ow_iloadN (q := 11) X1 hx (hb hby own_d1_10) rfl rfl ?_
      refine ow_istore (q := 13) X1 hx (L' := #[rv a0, rv a1, iv (3 : Int32), iv (1 : Int32), iv (1 : Int32), iv (3 : Int32)]) (hb hby own_d1_11) rfl rfl ?_
      refine ow_iload (q := 15) X1 hx (hb hby own_d1_13) rfl rfl ?_
      refine ow_iloadN (q := 16) X1 hx (hb hby own_d1_15) rfl rfl ?_
      refine ow_icmpYes (q := 44) X1 hx (hb hby own_d1_16) (Jvm.Free.XT.ii_ge_t (by decide)) (by decide) (by decide) ?_
      refine ow_iload (q := 46) X1 hx (hb hby own_d1_44) rfl rfl ?_
      refine ownRetN X1 hx (r := (1 : Int32)) (Or.inl rfl) Bd.returns (hb hby own_d1_46) hlk (by decide) (by decide) (by decide) ?_
      rw [e1]
      refine ⟨congrArg (fun q => some (Value.int q)) ?_, N0, rfl⟩
      simp [own_agr]
    · subst hs62
      refine ow_iloadN (q := 11) X1 hx (hb hby own_d1_10) rfl rfl ?_
      refine ow_istore (q := 13) X1 hx (L' := #[rv a0, rv a1, iv (3 : Int32), iv (2 : Int32), iv (1 : Int32), iv (3 : Int32)]) (hb hby own_d1_11) rfl rfl ?_
      refine ow_iload (q := 15) X1 hx (hb hby own_d1_13) rfl rfl ?_
      refine ow_iloadN (q := 16) X1 hx (hb hby own_d1_15) rfl rfl ?_
      refine ow_icmpYes (q := 44) X1 hx (hb hby own_d1_16) (Jvm.Free.XT.ii_ge_t (by decide)) (by decide) (by decide) ?_
      refine ow_iload (q := 46) X1 hx (hb hby own_d1_44) rfl rfl ?_
      refine ownRetN X1 hx (r := (1 : Int32)) (Or.inl rfl) Bd.returns (hb hby own_d1_46) hlk (by decide) (by decide) (by decide) ?_
      rw [e1]
      refine ⟨congrArg (fun q => some (Value.int q)) ?_, N0, rfl⟩
      simp [own_agr]
    · subst hs63
      refine ow_iloadN (q := 11) X1 hx (hb hby own_d1_10) rfl rfl ?_
      refine ow_istore (q := 13) X1 hx (L' := #[rv a0, rv a1, iv (3 : Int32), iv (3 : Int32), iv (1 : Int32), iv (3 : Int32)]) (hb hby own_d1_11) rfl rfl ?_
      refine ow_iload (q := 15) X1 hx (hb hby own_d1_13) rfl rfl ?_
      refine ow_iloadN (q := 16) X1 hx (hb hby own_d1_15) rfl rfl ?_
      refine ow_icmpYes (q := 44) X1 hx (hb hby own_d1_16) (Jvm.Free.XT.ii_ge_t (by decide)) (by decide) (by decide) ?_
      refine ow_iload (q := 46) X1 hx (hb hby own_d1_44) rfl rfl ?_
      refine ownRetN X1 hx (r := (1 : Int32)) (Or.inl rfl) Bd.returns (hb hby own_d1_46) hlk (by decide) (by decide) (by decide) ?_
      rw [e1]
      refine ⟨congrArg (fun q => some (Value.int q)) ?_, N0, rfl⟩
      simp [own_agr]
    · subst hs64
      refine ow_iloadN (q := 11) X1 hx (hb hby own_d1_10) rfl rfl ?_
      refine ow_istore (q := 13) X1 hx (L' := #[rv a0, rv a1, iv (3 : Int32), iv (4 : Int32), iv (1 : Int32), iv (3 : Int32)]) (hb hby own_d1_11) rfl rfl ?_
      refine ow_iload (q := 15) X1 hx (hb hby own_d1_13) rfl rfl ?_
      refine ow_iloadN (q := 16) X1 hx (hb hby own_d1_15) rfl rfl ?_
      refine ow_icmpNo (q := 19) X1 hx (hb hby own_d1_16) rfl (Jvm.Free.XT.ii_ge_f (by decide)) ?_
      refine ow_iload (q := 21) X1 hx (hb hby own_d1_19) rfl rfl ?_
      refine ow_ifNo (q := 24) X1 hx (hb hby own_d1_21) rfl (Jvm.Free.XT.i0_eq_f (by decide)) ?_
      refine ow_aloadN (q := 25) X1 hx (hb hby own_d1_24) rfl rfl rfl ?_
      refine ow_iload (q := 27) X1 hx (hb hby own_d1_25) rfl rfl ?_
      refine ownGo (T' := T1) (f' := (mkF m 28 #[rv a0, rv a1, iv (3 : Int32), iv (4 : Int32), iv (1 : Int32), iv (3 : Int32)] [(.int (g 3))])) (ownBaload HF1 X1 hx hZ e1 (j := (3 : Int32)) (by unfold ownIn; decide) (g := (mkF m 27 #[rv a0, rv a1, iv (3 : Int32), iv (4 : Int32), iv (1 : Int32), iv (3 : Int32)] [(.int (3 : Int32)), (.ref a1)])) rfl rfl (hb hby own_d1_27)) ?_
      generalize hv_v65 : (g 3) = v65
      by_cases hc28_66 : v65 < (0 : Int32)
      · refine ow_ifYes (q := 35) X1 hx (hb hby own_d1_28) (Jvm.Free.XT.i0_lt_t hc28_66) (by decide) (by decide) ?_
        refine ow_iconst (q := 36) X1 hx (0 : Int32) (hb hby own_d1_35) rfl rfl ?_
        refine ow_istore (q := 38) X1 hx (L' := #[rv a0, rv a1, iv (3 : Int32), iv (4 : Int32), iv (0 : Int32), iv (3 : Int32)]) (hb hby own_d1_36) rfl rfl ?_
        refine ow_iinc (q := 41) X1 hx (L' := #[rv a0, rv a1, iv (3 : Int32), iv (4 : Int32), iv (0 : Int32), iv (4 : Int32)]) (hb hby own_d1_38) rfl rfl rfl ?_
        refine ow_goto (q := 13) X1 hx (hb hby own_d1_41) (by decide) (by decide) ?_
        refine ow_iload (q := 15) X1 hx (hb hby own_d1_13) rfl rfl ?_
        refine ow_iloadN (q := 16) X1 hx (hb hby own_d1_15) rfl rfl ?_
        refine ow_icmpYes (q := 44) X1 hx (hb hby own_d1_16) (Jvm.Free.XT.ii_ge_t (by decide)) (by decide) (by decide) ?_
        refine ow_iload (q := 46) X1 hx (hb hby own_d1_44) rfl rfl ?_
        refine ownRetN X1 hx (r := (0 : Int32)) (Or.inl rfl) Bd.returns (hb hby own_d1_46) hlk (by decide) (by decide) (by decide) ?_
        subst hv_v65
        rw [e1]
        refine ⟨congrArg (fun q => some (Value.int q)) ?_, N0, rfl⟩
        simp [own_agr, hc28_66]
      · refine ow_ifNo (q := 31) X1 hx (hb hby own_d1_28) rfl (Jvm.Free.XT.i0_lt_f hc28_66) ?_
        refine ow_iconst (q := 32) X1 hx (1 : Int32) (hb hby own_d1_31) rfl rfl ?_
        refine ow_goto (q := 36) X1 hx (hb hby own_d1_32) (by decide) (by decide) ?_
        refine ow_istore (q := 38) X1 hx (L' := #[rv a0, rv a1, iv (3 : Int32), iv (4 : Int32), iv (1 : Int32), iv (3 : Int32)]) (hb hby own_d1_36) rfl rfl ?_
        refine ow_iinc (q := 41) X1 hx (L' := #[rv a0, rv a1, iv (3 : Int32), iv (4 : Int32), iv (1 : Int32), iv (4 : Int32)]) (hb hby own_d1_38) rfl rfl rfl ?_
        refine ow_goto (q := 13) X1 hx (hb hby own_d1_41) (by decide) (by decide) ?_
        refine ow_iload (q := 15) X1 hx (hb hby own_d1_13) rfl rfl ?_
        refine ow_iloadN (q := 16) X1 hx (hb hby own_d1_15) rfl rfl ?_
        refine ow_icmpYes (q := 44) X1 hx (hb hby own_d1_16) (Jvm.Free.XT.ii_ge_t (by decide)) (by decide) (by decide) ?_
        refine ow_iload (q := 46) X1 hx (hb hby own_d1_44) rfl rfl ?_
        refine ownRetN X1 hx (r := (1 : Int32)) (Or.inl rfl) Bd.returns (hb hby own_d1_46) hlk (by decide) (by decide) (by decide) ?_
        subst hv_v65
        rw [e1]
        refine ⟨congrArg (fun q => some (Value.int q)) ?_, N0, rfl⟩
        simp [own_agr, hc28_66]
  · subst hs6
    rcases ht with hs67 | hs68 | hs69 | hs70 | hs71
    · subst hs67
      refine ow_iloadN (q := 11) X1 hx (hb hby own_d1_10) rfl rfl ?_
      refine ow_istore (q := 13) X1 hx (L' := #[rv a0, rv a1, iv (4 : Int32), iv (0 : Int32), iv (1 : Int32), iv (4 : Int32)]) (hb hby own_d1_11) rfl rfl ?_
      refine ow_iload (q := 15) X1 hx (hb hby own_d1_13) rfl rfl ?_
      refine ow_iloadN (q := 16) X1 hx (hb hby own_d1_15) rfl rfl ?_
      refine ow_icmpYes (q := 44) X1 hx (hb hby own_d1_16) (Jvm.Free.XT.ii_ge_t (by decide)) (by decide) (by decide) ?_
      refine ow_iload (q := 46) X1 hx (hb hby own_d1_44) rfl rfl ?_
      refine ownRetN X1 hx (r := (1 : Int32)) (Or.inl rfl) Bd.returns (hb hby own_d1_46) hlk (by decide) (by decide) (by decide) ?_
      rw [e1]
      refine ⟨congrArg (fun q => some (Value.int q)) ?_, N0, rfl⟩
      simp [own_agr]
    · subst hs68
      refine ow_iloadN (q := 11) X1 hx (hb hby own_d1_10) rfl rfl ?_
      refine ow_istore (q := 13) X1 hx (L' := #[rv a0, rv a1, iv (4 : Int32), iv (1 : Int32), iv (1 : Int32), iv (4 : Int32)]) (hb hby own_d1_11) rfl rfl ?_
      refine ow_iload (q := 15) X1 hx (hb hby own_d1_13) rfl rfl ?_
      refine ow_iloadN (q := 16) X1 hx (hb hby own_d1_15) rfl rfl ?_
      refine ow_icmpYes (q := 44) X1 hx (hb hby own_d1_16) (Jvm.Free.XT.ii_ge_t (by decide)) (by decide) (by decide) ?_
      refine ow_iload (q := 46) X1 hx (hb hby own_d1_44) rfl rfl ?_
      refine ownRetN X1 hx (r := (1 : Int32)) (Or.inl rfl) Bd.returns (hb hby own_d1_46) hlk (by decide) (by decide) (by decide) ?_
      rw [e1]
      refine ⟨congrArg (fun q => some (Value.int q)) ?_, N0, rfl⟩
      simp [own_agr]
    · subst hs69
      refine ow_iloadN (q := 11) X1 hx (hb hby own_d1_10) rfl rfl ?_
      refine ow_istore (q := 13) X1 hx (L' := #[rv a0, rv a1, iv (4 : Int32), iv (2 : Int32), iv (1 : Int32), iv (4 : Int32)]) (hb hby own_d1_11) rfl rfl ?_
      refine ow_iload (q := 15) X1 hx (hb hby own_d1_13) rfl rfl ?_
      refine ow_iloadN (q := 16) X1 hx (hb hby own_d1_15) rfl rfl ?_
      refine ow_icmpYes (q := 44) X1 hx (hb hby own_d1_16) (Jvm.Free.XT.ii_ge_t (by decide)) (by decide) (by decide) ?_
      refine ow_iload (q := 46) X1 hx (hb hby own_d1_44) rfl rfl ?_
      refine ownRetN X1 hx (r := (1 : Int32)) (Or.inl rfl) Bd.returns (hb hby own_d1_46) hlk (by decide) (by decide) (by decide) ?_
      rw [e1]
      refine ⟨congrArg (fun q => some (Value.int q)) ?_, N0, rfl⟩
      simp [own_agr]
    · subst hs70
      refine ow_iloadN (q := 11) X1 hx (hb hby own_d1_10) rfl rfl ?_
      refine ow_istore (q := 13) X1 hx (L' := #[rv a0, rv a1, iv (4 : Int32), iv (3 : Int32), iv (1 : Int32), iv (4 : Int32)]) (hb hby own_d1_11) rfl rfl ?_
      refine ow_iload (q := 15) X1 hx (hb hby own_d1_13) rfl rfl ?_
      refine ow_iloadN (q := 16) X1 hx (hb hby own_d1_15) rfl rfl ?_
      refine ow_icmpYes (q := 44) X1 hx (hb hby own_d1_16) (Jvm.Free.XT.ii_ge_t (by decide)) (by decide) (by decide) ?_
      refine ow_iload (q := 46) X1 hx (hb hby own_d1_44) rfl rfl ?_
      refine ownRetN X1 hx (r := (1 : Int32)) (Or.inl rfl) Bd.returns (hb hby own_d1_46) hlk (by decide) (by decide) (by decide) ?_
      rw [e1]
      refine ⟨congrArg (fun q => some (Value.int q)) ?_, N0, rfl⟩
      simp [own_agr]
    · subst hs71
      refine ow_iloadN (q := 11) X1 hx (hb hby own_d1_10) rfl rfl ?_
      refine ow_istore (q := 13) X1 hx (L' := #[rv a0, rv a1, iv (4 : Int32), iv (4 : Int32), iv (1 : Int32), iv (4 : Int32)]) (hb hby own_d1_11) rfl rfl ?_
      refine ow_iload (q := 15) X1 hx (hb hby own_d1_13) rfl rfl ?_
      refine ow_iloadN (q := 16) X1 hx (hb hby own_d1_15) rfl rfl ?_
      refine ow_icmpYes (q := 44) X1 hx (hb hby own_d1_16) (Jvm.Free.XT.ii_ge_t (by decide)) (by decide) (by decide) ?_
      refine ow_iload (q := 46) X1 hx (hb hby own_d1_44) rfl rfl ?_
      refine ownRetN X1 hx (r := (1 : Int32)) (Or.inl rfl) Bd.returns (hb hby own_d1_46) hlk (by decide) (by decide) (by decide) ?_
      rw [e1]
      refine ⟨congrArg (fun q => some (Value.int q)) ?_, N0, rfl⟩
      simp [own_agr]
theorem own_pd0 : parseMethodDescriptor "([BII)Z" = some ⟨[(.array .byte), .int, .int], some .boolean⟩ := by decide +kernel
theorem own_pd1 : parseMethodDescriptor "([BIII)Z" = some ⟨[(.array .byte), .int, .int, .int], some .boolean⟩ := by decide +kernel
theorem own_ef0_law (m : MethodId) (p0 : Int32) (p1 : Int32) (p2 : Int32) (p3 : Int32) : entryFrame m #[(.int p0), (.int p1), (.int p2), (.int p3)] maxLocals = mkF m 0 #[iv p0, iv p1, iv p2, iv p3, .unset, .unset, .unset, .unset, .unset, .unset] [] := by first | (simp [entryFrame, mkF, argsToLocals, Value.category, maxLocals]; done) | rfl
def Q_law (Z : State) (p0 : Int32) (p1 : Int32) (p2 : Int32) (p3 : Int32) (aU : Addr) (aA : Addr) (aI : Addr) (h0 : Heap) (n0 : Nat) (v : Option Value) (h : Heap) (L : List Loc) : Prop := v = some (.int 1) ∧ Fr n0 L
set_option maxRecDepth 65536 in
set_option maxHeartbeats 40000000 in
theorem rm_law (l : Launch) (Z : State) (av0 : Array Value) (hw : ∀ d ∈ tables_1, d.before av0 Z = true) (ws : List Jvm.Cond) (p0 : Int32) (p1 : Int32) (p2 : Int32) (p3 : Int32) (aU : Addr) (aA : Addr) (aI : Addr) (h0 : Heap) (n0 : Nat) (Z0 : n0 ≤ h0.size) (HF0 : Sta Z h0 "com/example/descend/descend/Encoding" "UTF_8" "Lcom/example/descend/descend/Encoding;" (.ref aU)) (HF1 : Sta Z h0 "com/example/descend/descend/Encoding" "US_ASCII" "Lcom/example/descend/descend/Encoding;" (.ref aA)) (HF2 : Sta Z h0 "com/example/descend/descend/Encoding" "ISO_8859_1" "Lcom/example/descend/descend/Encoding;" (.ref aI)) (HF3 : Exa Z h0 aU "com/example/descend/descend/Encoding") (HF4 : Exa Z h0 aA "com/example/descend/descend/Encoding") (HF5 : Exa Z h0 aI "com/example/descend/descend/Encoding") (hneA : aA ≠ aU) (hneI : aI ≠ aU) :
    MetFree l x (head1 (Jvm.Cond.code x code maxLocals ret :: ws) room_1) (fun a U => a = #[(.int p0), (.int p1), (.int p2), (.int p3)] ∧ Z.Warmed39 U.vm ∧ U.heap = h0) (fun _ _ _ _ _ => True) (fun _ U o U' => ∃ v L, o = .returned v ∧ (Q_law Z p0 p1 p2 p3 aU aA aI h0 n0) v U'.heap L ∧ FrameEnd U o U' L 16 128) := by
  refine MetFree.of_bodySF (plainFor_of_name own_pn_EncodingAgreesWithUtf8PinLaw) hisR ?_
  intro p e s m args below meth c s₁ Bd hml0 hP hK
  obtain ⟨rfl, hZ, hh⟩ := hP
  have hx := Bd.exec
  have hby := Bd.bytes
  have hml : c.maxLocals = 10 := hml0
  have hown : s.vm.findClass "com/example/descend/descend/EncodingAgreesWithUtf8PinLaw" = some m.cls := findClass_of_methodNamed Bd.named
  have hnm := (name_of_methodNamed Bd.named Bd.method).1
  have hlk : meth.locks = false := BodyLoose.notSynchronized Bd
  have X0 : Stand p l e room_1 s m #[(.int p0), (.int p1), (.int p2), (.int p3)] below meth c s₁ [] 0 0 := Stand.of_body Bd
  have e0 : s₁.heap = h0 := by rw [← hh, Bd.state]; rfl
  have N0 := Fr.nil n0
  have K0 : Keep h0 h0 [] := Keep.refl _ _
  show ownEnds p e below s (Q_law Z p0 p1 p2 p3 aU aA aI h0 n0) 16 128 s₁ (entryFrame m #[(.int p0), (.int p1), (.int p2), (.int p3)] maxLocals)
  refine ownCast (own_ef0_law m p0 p1 p2 p3) ?_
  refine ow_iloadN (q := 1) X0 hx (hb hby at_0) rfl rfl ?_
  refine ownGo (T' := s₁) (f' := (mkF m 3 #[iv p0, iv p1, iv p2, iv p3, .unset, .unset, .unset, .unset, .unset, .unset] [(.int (2147483647 : Int32)), (.int p0)])) (X0.ldcInt hx hown (mvT hZ (hw _ (List.mem_of_getElem? (i := 0) rfl))) (g := (mkF m 1 #[iv p0, iv p1, iv p2, iv p3, .unset, .unset, .unset, .unset, .unset, .unset] [(.int p0)])) rfl (hb hby at_1)) ?_
  refine ow_iand (q := 4) X0 hx _ (hb hby at_3) rfl rfl ?_
  refine ow_iconst (q := 5) X0 hx (3 : Int32) (hb hby at_4) rfl rfl ?_
  refine ow_irem (q := 6) X0 hx _ (hb hby at_5) rfl (by decide) rfl ?_
  generalize hv_v1 : ((p0 &&& (2147483647 : Int32)) % (3 : Int32)) = v1
  refine ow_istore (q := 8) X0 hx (L' := #[iv p0, iv p1, iv p2, iv p3, iv v1, .unset, .unset, .unset, .unset, .unset]) (hb hby at_6) rfl rfl ?_
  refine ow_iload (q := 10) X0 hx (hb hby at_8) rfl rfl ?_
  by_cases hc10_2 : v1 = (0 : Int32)
  · refine ow_ifNo (q := 13) X0 hx (hb hby at_10) rfl (Jvm.Free.XT.i0_ne_f hc10_2) ?_
    obtain ⟨T3, X3, e3, st3⟩ := getS2 X0 hx hZ hown (host := "") (Or.inl (hw _ (List.mem_of_getElem? (i := 1) rfl))) Via.refl e0 HF0 (g := (mkF m 13 #[iv p0, iv p1, iv p2, iv p3, iv v1, .unset, .unset, .unset, .unset, .unset] [])) rfl (hb hby at_13)
    refine ownGo (T' := T3) (f' := (mkF m 16 #[iv p0, iv p1, iv p2, iv p3, iv v1, .unset, .unset, .unset, .unset, .unset] [(.ref aU)])) (st3) ?_
    refine ow_goto (q := 34) X3 hx (hb hby at_16) (by decide) (by decide) ?_
    refine ow_astore (q := 36) X3 hx (L' := #[iv p0, iv p1, iv p2, iv p3, iv v1, rv aU, .unset, .unset, .unset, .unset]) (hb hby at_34) rfl rfl rfl ?_
    refine ow_iconst (q := 37) X3 hx (4 : Int32) (hb hby at_36) rfl rfl ?_
    obtain ⟨T4, h4, k4, X4, e4, E4, A4, st4⟩ := newP X3 hx hZ (hw _ (List.mem_of_getElem? (i := 4) rfl)) e3 (g := (mkF m 37 #[iv p0, iv p1, iv p2, iv p3, iv v1, rv aU, .unset, .unset, .unset, .unset] [(.int (4 : Int32))])) rfl (hb hby at_37) rfl (by decide) (cap := 4) (by decide) (by decide) (by decide) (by decide)
    obtain ⟨b4, g4⟩ : ∃ z, z = h0.size := ⟨_, rfl⟩
    rw [← g4] at A4 st4
    have ne_aU_b4 : aU ≠ b4 := Nat.ne_of_lt (Nat.lt_of_lt_of_le HF3.lt (Nat.le_of_eq g4.symm))
    have ne_aA_b4 : aA ≠ b4 := Nat.ne_of_lt (Nat.lt_of_lt_of_le HF4.lt (Nat.le_of_eq g4.symm))
    have ne_aI_b4 : aI ≠ b4 := Nat.ne_of_lt (Nat.lt_of_lt_of_le HF5.lt (Nat.le_of_eq g4.symm))
    have sz_b4 : h0.size ≤ b4 := Nat.le_trans K0.1 (Nat.le_of_eq g4.symm)
    have G_b4 : n0 ≤ b4 := Nat.le_trans Z0 sz_b4
    have K4 : Keep h0 h4 [] := K0.ext E4
    have F5 : Sta Z h4 "com/example/descend/descend/Encoding" "UTF_8" "Lcom/example/descend/descend/Encoding;" (.ref aU) := HF0.ext E4
    have F6 : Sta Z h4 "com/example/descend/descend/Encoding" "US_ASCII" "Lcom/example/descend/descend/Encoding;" (.ref aA) := HF1.ext E4
    have F7 : Sta Z h4 "com/example/descend/descend/Encoding" "ISO_8859_1" "Lcom/example/descend/descend/Encoding;" (.ref aI) := HF2.ext E4
    have F8 : Exa Z h4 aU "com/example/descend/descend/Encoding" := HF3.ext E4
    have F9 : Exa Z h4 aA "com/example/descend/descend/Encoding" := HF4.ext E4
    have F10 : Exa Z h4 aI "com/example/descend/descend/Encoding" := HF5.ext E4
    have F11 : ownAI Z h4 b4 .byte 4 (fun _ => (0 : Int32)) := ownAI.new A4 (by decide) rfl (by decide)
    refine ownGo (T' := T4) (f' := (mkF m 39 #[iv p0, iv p1, iv p2, iv p3, iv v1, rv aU, .unset, .unset, .unset, .unset] [(.ref b4)])) (st4) ?_
    refine ow_astore (q := 41) X4 hx (L' := #[iv p0, iv p1, iv p2, iv p3, iv v1, rv aU, rv b4, .unset, .unset, .unset]) (hb hby at_39) rfl rfl rfl ?_
    refine ow_aload (q := 43) X4 hx (hb hby at_41) rfl rfl rfl ?_
    refine ow_iconst (q := 44) X4 hx (0 : Int32) (hb hby at_43) rfl rfl ?_
    refine ow_iloadN (q := 45) X4 hx (hb hby at_44) rfl rfl ?_
    refine ow_i2b (q := 46) X4 hx _ (hb hby at_45) rfl rfl ?_
    generalize hv_v12 : (p1.toInt8.toInt32) = v12
    obtain ⟨T13, h13, X13, e13, W13, F13s, st13⟩ := ownBastore F11 X4 hx hZ e4 (j := (0 : Int32)) (by unfold ownIn; decide) (g := (mkF m 46 #[iv p0, iv p1, iv p2, iv p3, iv v1, rv aU, rv b4, .unset, .unset, .unset] [(.int v12), (.int (0 : Int32)), (.ref b4)])) rfl rfl (hb hby at_46)
    rw [own_narb hv_v12] at F13s
    have F13r : ownAI Z h13 b4 .byte 4 (ownUpd (fun _ => (0 : Int32)) 0 v12) := F13s
    have N13 := Fr.snoc X13 N0 G_b4
    have K13 : Keep h0 h13 [] := K4.wr W13 (Or.inr sz_b4)
    have F14 : Sta Z h13 "com/example/descend/descend/Encoding" "UTF_8" "Lcom/example/descend/descend/Encoding;" (.ref aU) := F5.wr W13
    have F15 : Sta Z h13 "com/example/descend/descend/Encoding" "US_ASCII" "Lcom/example/descend/descend/Encoding;" (.ref aA) := F6.wr W13
    have F16 : Sta Z h13 "com/example/descend/descend/Encoding" "ISO_8859_1" "Lcom/example/descend/descend/Encoding;" (.ref aI) := F7.wr W13
    have F17 : Exa Z h13 aU "com/example/descend/descend/Encoding" := F8.wr W13
    have F18 : Exa Z h13 aA "com/example/descend/descend/Encoding" := F9.wr W13
    have F19 : Exa Z h13 aI "com/example/descend/descend/Encoding" := F10.wr W13
    refine ownGo (T' := T13) (f' := (mkF m 47 #[iv p0, iv p1, iv p2, iv p3, iv v1, rv aU, rv b4, .unset, .unset, .unset] [])) (st13) ?_
    refine ow_aload (q := 49) X13 hx (hb hby at_47) rfl rfl rfl ?_
    refine ow_iconst (q := 50) X13 hx (1 : Int32) (hb hby at_49) rfl rfl ?_
    refine ow_iloadN (q := 51) X13 hx (hb hby at_50) rfl rfl ?_
    refine ow_bipush (q := 53) X13 hx (8 : Int32) (hb hby at_51) rfl rfl ?_
    refine ow_ishr (q := 54) X13 hx _ (hb hby at_53) rfl rfl ?_
    refine ow_i2b (q := 55) X13 hx _ (hb hby at_54) rfl rfl ?_
    generalize hv_v20 : ((p1 >>> ((8 : Int32) &&& 31)).toInt8.toInt32) = v20
    obtain ⟨T21, h21, X21, e21, W21, F21s, st21⟩ := ownBastore F13r X13 hx hZ e13 (j := (1 : Int32)) (by unfold ownIn; decide) (g := (mkF m 55 #[iv p0, iv p1, iv p2, iv p3, iv v1, rv aU, rv b4, .unset, .unset, .unset] [(.int v20), (.int (1 : Int32)), (.ref b4)])) rfl rfl (hb hby at_55)
    rw [own_narb hv_v20] at F21s
    have F21r : ownAI Z h21 b4 .byte 4 (ownUpd (ownUpd (fun _ => (0 : Int32)) 0 v12) 1 v20) := F21s
    have N21 := Fr.snoc X21 N13 G_b4
    have K21 : Keep h0 h21 [] := K13.wr W21 (Or.inr sz_b4)
    have F22 : Sta Z h21 "com/example/descend/descend/Encoding" "UTF_8" "Lcom/example/descend/descend/Encoding;" (.ref aU) := F14.wr W21
    have F23 : Sta Z h21 "com/example/descend/descend/Encoding" "US_ASCII" "Lcom/example/descend/descend/Encoding;" (.ref aA) := F15.wr W21
    have F24 : Sta Z h21 "com/example/descend/descend/Encoding" "ISO_8859_1" "Lcom/example/descend/descend/Encoding;" (.ref aI) := F16.wr W21
    have F25 : Exa Z h21 aU "com/example/descend/descend/Encoding" := F17.wr W21
    have F26 : Exa Z h21 aA "com/example/descend/descend/Encoding" := F18.wr W21
    have F27 : Exa Z h21 aI "com/example/descend/descend/Encoding" := F19.wr W21
    refine ownGo (T' := T21) (f' := (mkF m 56 #[iv p0, iv p1, iv p2, iv p3, iv v1, rv aU, rv b4, .unset, .unset, .unset] [])) (st21) ?_
    refine ow_aload (q := 58) X21 hx (hb hby at_56) rfl rfl rfl ?_
    refine ow_iconst (q := 59) X21 hx (2 : Int32) (hb hby at_58) rfl rfl ?_
    refine ow_iloadN (q := 60) X21 hx (hb hby at_59) rfl rfl ?_
    refine ow_bipush (q := 62) X21 hx (16 : Int32) (hb hby at_60) rfl rfl ?_
    refine ow_ishr (q := 63) X21 hx _ (hb hby at_62) rfl rfl ?_
    refine ow_i2b (q := 64) X21 hx _ (hb hby at_63) rfl rfl ?_
    generalize hv_v28 : ((p1 >>> ((16 : Int32) &&& 31)).toInt8.toInt32) = v28
    obtain ⟨T29, h29, X29, e29, W29, F29s, st29⟩ := ownBastore F21r X21 hx hZ e21 (j := (2 : Int32)) (by unfold ownIn; decide) (g := (mkF m 64 #[iv p0, iv p1, iv p2, iv p3, iv v1, rv aU, rv b4, .unset, .unset, .unset] [(.int v28), (.int (2 : Int32)), (.ref b4)])) rfl rfl (hb hby at_64)
    rw [own_narb hv_v28] at F29s
    have F29r : ownAI Z h29 b4 .byte 4 (ownUpd (ownUpd (ownUpd (fun _ => (0 : Int32)) 0 v12) 1 v20) 2 v28) := F29s
    have N29 := Fr.snoc X29 N21 G_b4
    have K29 : Keep h0 h29 [] := K21.wr W29 (Or.inr sz_b4)
    have F30 : Sta Z h29 "com/example/descend/descend/Encoding" "UTF_8" "Lcom/example/descend/descend/Encoding;" (.ref aU) := F22.wr W29
    have F31 : Sta Z h29 "com/example/descend/descend/Encoding" "US_ASCII" "Lcom/example/descend/descend/Encoding;" (.ref aA) := F23.wr W29
    have F32 : Sta Z h29 "com/example/descend/descend/Encoding" "ISO_8859_1" "Lcom/example/descend/descend/Encoding;" (.ref aI) := F24.wr W29
    have F33 : Exa Z h29 aU "com/example/descend/descend/Encoding" := F25.wr W29
    have F34 : Exa Z h29 aA "com/example/descend/descend/Encoding" := F26.wr W29
    have F35 : Exa Z h29 aI "com/example/descend/descend/Encoding" := F27.wr W29
    refine ownGo (T' := T29) (f' := (mkF m 65 #[iv p0, iv p1, iv p2, iv p3, iv v1, rv aU, rv b4, .unset, .unset, .unset] [])) (st29) ?_
    refine ow_aload (q := 67) X29 hx (hb hby at_65) rfl rfl rfl ?_
    refine ow_iconst (q := 68) X29 hx (3 : Int32) (hb hby at_67) rfl rfl ?_
    refine ow_iloadN (q := 69) X29 hx (hb hby at_68) rfl rfl ?_
    refine ow_bipush (q := 71) X29 hx (24 : Int32) (hb hby at_69) rfl rfl ?_
    refine ow_ishr (q := 72) X29 hx _ (hb hby at_71) rfl rfl ?_
    refine ow_i2b (q := 73) X29 hx _ (hb hby at_72) rfl rfl ?_
    generalize hv_v36 : ((p1 >>> ((24 : Int32) &&& 31)).toInt8.toInt32) = v36
    obtain ⟨T37, h37, X37, e37, W37, F37s, st37⟩ := ownBastore F29r X29 hx hZ e29 (j := (3 : Int32)) (by unfold ownIn; decide) (g := (mkF m 73 #[iv p0, iv p1, iv p2, iv p3, iv v1, rv aU, rv b4, .unset, .unset, .unset] [(.int v36), (.int (3 : Int32)), (.ref b4)])) rfl rfl (hb hby at_73)
    rw [own_narb hv_v36] at F37s
    have F37r : ownAI Z h37 b4 .byte 4 (ownUpd (ownUpd (ownUpd (ownUpd (fun _ => (0 : Int32)) 0 v12) 1 v20) 2 v28) 3 v36) := F37s
    have N37 := Fr.snoc X37 N29 G_b4
    have K37 : Keep h0 h37 [] := K29.wr W37 (Or.inr sz_b4)
    have F38 : Sta Z h37 "com/example/descend/descend/Encoding" "UTF_8" "Lcom/example/descend/descend/Encoding;" (.ref aU) := F30.wr W37
    have F39 : Sta Z h37 "com/example/descend/descend/Encoding" "US_ASCII" "Lcom/example/descend/descend/Encoding;" (.ref aA) := F31.wr W37
    have F40 : Sta Z h37 "com/example/descend/descend/Encoding" "ISO_8859_1" "Lcom/example/descend/descend/Encoding;" (.ref aI) := F32.wr W37
    have F41 : Exa Z h37 aU "com/example/descend/descend/Encoding" := F33.wr W37
    have F42 : Exa Z h37 aA "com/example/descend/descend/Encoding" := F34.wr W37
    have F43 : Exa Z h37 aI "com/example/descend/descend/Encoding" := F35.wr W37
    refine ownGo (T' := T37) (f' := (mkF m 74 #[iv p0, iv p1, iv p2, iv p3, iv v1, rv aU, rv b4, .unset, .unset, .unset] [])) (st37) ?_
    refine ow_iloadN (q := 75) X37 hx (hb hby at_74) rfl rfl ?_
    refine ownGo (T' := T37) (f' := (mkF m 77 #[iv p0, iv p1, iv p2, iv p3, iv v1, rv aU, rv b4, .unset, .unset, .unset] [(.int (2147483647 : Int32)), (.int p2)])) (X37.ldcInt hx hown (mvT hZ (hw _ (List.mem_of_getElem? (i := 0) rfl))) (g := (mkF m 75 #[iv p0, iv p1, iv p2, iv p3, iv v1, rv aU, rv b4, .unset, .unset, .unset] [(.int p2)])) rfl (hb hby at_75)) ?_
    refine ow_iand (q := 78) X37 hx _ (hb hby at_77) rfl rfl ?_
    refine ow_iconst (q := 79) X37 hx (5 : Int32) (hb hby at_78) rfl rfl ?_
    refine ow_irem (q := 80) X37 hx _ (hb hby at_79) rfl (by decide) rfl ?_
    generalize hv_v44 : ((p2 &&& (2147483647 : Int32)) % (5 : Int32)) = v44
    refine ow_istore (q := 82) X37 hx (L' := #[iv p0, iv p1, iv p2, iv p3, iv v1, rv aU, rv b4, iv v44, .unset, .unset]) (hb hby at_80) rfl rfl ?_
    refine ow_iloadN (q := 83) X37 hx (hb hby at_82) rfl rfl ?_
    refine ownGo (T' := T37) (f' := (mkF m 85 #[iv p0, iv p1, iv p2, iv p3, iv v1, rv aU, rv b4, iv v44, .unset, .unset] [(.int (2147483647 : Int32)), (.int p3)])) (X37.ldcInt hx hown (mvT hZ (hw _ (List.mem_of_getElem? (i := 0) rfl))) (g := (mkF m 83 #[iv p0, iv p1, iv p2, iv p3, iv v1, rv aU, rv b4, iv v44, .unset, .unset] [(.int p3)])) rfl (hb hby at_83)) ?_
    refine ow_iand (q := 86) X37 hx _ (hb hby at_85) rfl rfl ?_
    refine ow_iconst (q := 87) X37 hx (5 : Int32) (hb hby at_86) rfl rfl ?_
    refine ow_irem (q := 88) X37 hx _ (hb hby at_87) rfl (by decide) rfl ?_
    generalize hv_v45 : ((p3 &&& (2147483647 : Int32)) % (5 : Int32)) = v45
    refine ow_istore (q := 90) X37 hx (L' := #[iv p0, iv p1, iv p2, iv p3, iv v1, rv aU, rv b4, iv v44, iv v45, .unset]) (hb hby at_88) rfl rfl ?_
    refine ow_aload (q := 92) X37 hx (hb hby at_90) rfl rfl rfl ?_
    obtain ⟨T46, X46, e46, st46⟩ := getS2 X37 hx hZ hown (host := "") (Or.inl (hw _ (List.mem_of_getElem? (i := 1) rfl))) Via.refl e37 F38 (g := (mkF m 92 #[iv p0, iv p1, iv p2, iv p3, iv v1, rv aU, rv b4, iv v44, iv v45, .unset] [(.ref aU)])) rfl (hb hby at_92)
    refine ownGo (T' := T46) (f' := (mkF m 95 #[iv p0, iv p1, iv p2, iv p3, iv v1, rv aU, rv b4, iv v44, iv v45, .unset] [(.ref aU), (.ref aU)])) (st46) ?_
    refine ownGo (T' := T46) (f' := (mkF m 150 #[iv p0, iv p1, iv p2, iv p3, iv v1, rv aU, rv b4, iv v44, iv v45, .unset] [])) (fun _ k => Jvm.RoadKit.acmp (g := (mkF m 95 #[iv p0, iv p1, iv p2, iv p3, iv v1, rv aU, rv b4, iv v44, iv v45, .unset] [(.ref aU), (.ref aU)])) X46 hx rfl rfl rfl (pc0 := 95) (pc' := 150) (same := true) rfl (hb hby at_95) rfl (decide_eq_true rfl) (by decide) (by decide) k) ?_
    refine ow_iconst (q := 151) X46 hx (1 : Int32) (hb hby at_150) rfl rfl ?_
    refine ow_goto (q := 155) X46 hx (hb hby at_151) (by decide) (by decide) ?_
    refine ow_istore (q := 157) X46 hx (L' := #[iv p0, iv p1, iv p2, iv p3, iv v1, rv aU, rv b4, iv v44, iv v45, iv (1 : Int32)]) (hb hby at_155) rfl rfl ?_
    refine ow_aload (q := 159) X46 hx (hb hby at_157) rfl rfl rfl ?_
    refine ow_aload (q := 161) X46 hx (hb hby at_159) rfl rfl rfl ?_
    refine ow_iload (q := 163) X46 hx (hb hby at_161) rfl rfl ?_
    refine ow_iload (q := 165) X46 hx (hb hby at_163) rfl rfl ?_
    obtain ⟨cq47, kq47, q47a, q47b, q47c⟩ := isOf hZ e46 F41
    obtain ⟨_, _, ⟨T47, L47, k47, n47⟩, -, X47, ⟨Lc47, hQ47, l47, y47, z47⟩, st47⟩ := X46.virtualBack hx (y := (⟨"com/example/descend/descend/Encoding", "agreesWithUtf8", "([BII)Z"⟩ : MethodName)) (z := (⟨"com/example/descend/descend/Encoding", "agreesWithUtf8", "([BII)Z"⟩ : MethodName)) hown (mvT hZ (hw _ (List.mem_of_getElem? (i := 5) rfl))) (mvT hZ (hw _ (List.mem_of_getElem? (i := 6) rfl))) (notFace_of_selects (args := #[]) (mvT hZ (hw _ (List.mem_of_getElem? (i := 8) rfl)))) (mvT hZ (hw _ (List.mem_of_getElem? (i := 8) rfl))) (mvT hZ (hw _ (List.mem_of_getElem? (i := 7) rfl))) (by decide) (backOf (W := 0) (rm_agrU l Z av0 hw [] aU b4 v44 v45 h37 n0 (Nat.le_trans Z0 K37.1) F38) hZ (hw _ (List.mem_of_getElem? (i := 9) rfl)) (hw _ (List.mem_of_getElem? (i := 2) rfl)) (by decide) (by decide)) q47a q47c (g := (mkF m 165 #[iv p0, iv p1, iv p2, iv p3, iv v1, rv aU, rv b4, iv v44, iv v45, iv (1 : Int32)] [(.int v45), (.int v44), (.ref b4), (.ref aU)])) rfl (by rw [hml]; rfl) (Steps.refl _) (argsL := [(.ref b4), (.int v44), (.int v45)]) (rest := []) (lenOf own_pd0 rfl) rfl (by show 2 * 0 + _ ≤ _; exact Nat.le_of_eq rfl) (hb hby at_165) (fun _ _ => ⟨rfl, e46, (by decide : 1 + 0 ≤ _), (by decide : 4 + 0 ≤ _)⟩)
    dsimp only [Pt.U, Pt.locs, Pt.cells, Pt.slots] at X47 l47 y47 z47 st47 hQ47
    subst l47 y47 z47
    obtain ⟨rfl, N47q, e47⟩ := hQ47
    have N47 := Fr.app N37 N47q
    refine ownRun (T' := T47) (f' := (mkF m 168 #[iv p0, iv p1, iv p2, iv p3, iv v1, rv aU, rv b4, iv v44, iv v45, iv (1 : Int32)] [(.int (1 : Int32))])) st47 ?_
    refine ow_iload (q := 170) X47 hx (hb hby at_168) rfl rfl ?_
    refine ow_icmpNo (q := 173) X47 hx (hb hby at_170) rfl (Jvm.Free.XT.ii_ne_f (by decide)) ?_
    refine ow_iconst (q := 174) X47 hx (1 : Int32) (hb hby at_173) rfl rfl ?_
    refine ow_goto (q := 178) X47 hx (hb hby at_174) (by decide) (by decide) ?_
    refine ownRetN X47 hx (r := (1 : Int32)) (Or.inl rfl) Bd.returns (hb hby at_178) hlk (by decide) (by decide) (by decide) ?_
    exact ⟨rfl, N47⟩
  · refine ow_ifYes (q := 19) X0 hx (hb hby at_10) (Jvm.Free.XT.i0_ne_t hc10_2) (by decide) (by decide) ?_
    refine ow_iload (q := 21) X0 hx (hb hby at_19) rfl rfl ?_
    refine ow_iconst (q := 22) X0 hx (1 : Int32) (hb hby at_21) rfl rfl ?_
    by_cases hc22_48 : v1 = (1 : Int32)
    · refine ow_icmpNo (q := 25) X0 hx (hb hby at_22) rfl (Jvm.Free.XT.ii_ne_f hc22_48) ?_
      obtain ⟨T49, X49, e49, st49⟩ := getS2 X0 hx hZ hown (host := "") (Or.inl (hw _ (List.mem_of_getElem? (i := 11) rfl))) Via.refl e0 HF1 (g := (mkF m 25 #[iv p0, iv p1, iv p2, iv p3, iv v1, .unset, .unset, .unset, .unset, .unset] [])) rfl (hb hby at_25)
      refine ownGo (T' := T49) (f' := (mkF m 28 #[iv p0, iv p1, iv p2, iv p3, iv v1, .unset, .unset, .unset, .unset, .unset] [(.ref aA)])) (st49) ?_
      refine ow_goto (q := 34) X49 hx (hb hby at_28) (by decide) (by decide) ?_
      refine ow_astore (q := 36) X49 hx (L' := #[iv p0, iv p1, iv p2, iv p3, iv v1, rv aA, .unset, .unset, .unset, .unset]) (hb hby at_34) rfl rfl rfl ?_
      refine ow_iconst (q := 37) X49 hx (4 : Int32) (hb hby at_36) rfl rfl ?_
      obtain ⟨T50, h50, k50, X50, e50, E50, A50, st50⟩ := newP X49 hx hZ (hw _ (List.mem_of_getElem? (i := 4) rfl)) e49 (g := (mkF m 37 #[iv p0, iv p1, iv p2, iv p3, iv v1, rv aA, .unset, .unset, .unset, .unset] [(.int (4 : Int32))])) rfl (hb hby at_37) rfl (by decide) (cap := 4) (by decide) (by decide) (by decide) (by decide)
      obtain ⟨b50, g50⟩ : ∃ z, z = h0.size := ⟨_, rfl⟩
      rw [← g50] at A50 st50
      have ne_aU_b50 : aU ≠ b50 := Nat.ne_of_lt (Nat.lt_of_lt_of_le HF3.lt (Nat.le_of_eq g50.symm))
      have ne_aA_b50 : aA ≠ b50 := Nat.ne_of_lt (Nat.lt_of_lt_of_le HF4.lt (Nat.le_of_eq g50.symm))
      have ne_aI_b50 : aI ≠ b50 := Nat.ne_of_lt (Nat.lt_of_lt_of_le HF5.lt (Nat.le_of_eq g50.symm))
      have sz_b50 : h0.size ≤ b50 := Nat.le_trans K0.1 (Nat.le_of_eq g50.symm)
      have G_b50 : n0 ≤ b50 := Nat.le_trans Z0 sz_b50
      have K50 : Keep h0 h50 [] := K0.ext E50
      have F51 : Sta Z h50 "com/example/descend/descend/Encoding" "UTF_8" "Lcom/example/descend/descend/Encoding;" (.ref aU) := HF0.ext E50
      have F52 : Sta Z h50 "com/example/descend/descend/Encoding" "US_ASCII" "Lcom/example/descend/descend/Encoding;" (.ref aA) := HF1.ext E50
      have F53 : Sta Z h50 "com/example/descend/descend/Encoding" "ISO_8859_1" "Lcom/example/descend/descend/Encoding;" (.ref aI) := HF2.ext E50
      have F54 : Exa Z h50 aU "com/example/descend/descend/Encoding" := HF3.ext E50
      have F55 : Exa Z h50 aA "com/example/descend/descend/Encoding" := HF4.ext E50
      have F56 : Exa Z h50 aI "com/example/descend/descend/Encoding" := HF5.ext E50
      have F57 : ownAI Z h50 b50 .byte 4 (fun _ => (0 : Int32)) := ownAI.new A50 (by decide) rfl (by decide)
      refine ownGo (T' := T50) (f' := (mkF m 39 #[iv p0, iv p1, iv p2, iv p3, iv v1, rv aA, .unset, .unset, .unset, .unset] [(.ref b50)])) (st50) ?_
      refine ow_astore (q := 41) X50 hx (L' := #[iv p0, iv p1, iv p2, iv p3, iv v1, rv aA, rv b50, .unset, .unset, .unset]) (hb hby at_39) rfl rfl rfl ?_
      refine ow_aload (q := 43) X50 hx (hb hby at_41) rfl rfl rfl ?_
      refine ow_iconst (q := 44) X50 hx (0 : Int32) (hb hby at_43) rfl rfl ?_
      refine ow_iloadN (q := 45) X50 hx (hb hby at_44) rfl rfl ?_
      refine ow_i2b (q := 46) X50 hx _ (hb hby at_45) rfl rfl ?_
      generalize hv_v58 : (p1.toInt8.toInt32) = v58
      obtain ⟨T59, h59, X59, e59, W59, F59s, st59⟩ := ownBastore F57 X50 hx hZ e50 (j := (0 : Int32)) (by unfold ownIn; decide) (g := (mkF m 46 #[iv p0, iv p1, iv p2, iv p3, iv v1, rv aA, rv b50, .unset, .unset, .unset] [(.int v58), (.int (0 : Int32)), (.ref b50)])) rfl rfl (hb hby at_46)
      rw [own_narb hv_v58] at F59s
      have F59r : ownAI Z h59 b50 .byte 4 (ownUpd (fun _ => (0 : Int32)) 0 v58) := F59s
      have N59 := Fr.snoc X59 N0 G_b50
      have K59 : Keep h0 h59 [] := K50.wr W59 (Or.inr sz_b50)
      have F60 : Sta Z h59 "com/example/descend/descend/Encoding" "UTF_8" "Lcom/example/descend/descend/Encoding;" (.ref aU) := F51.wr W59
      have F61 : Sta Z h59 "com/example/descend/descend/Encoding" "US_ASCII" "Lcom/example/descend/descend/Encoding;" (.ref aA) := F52.wr W59
      have F62 : Sta Z h59 "com/example/descend/descend/Encoding" "ISO_8859_1" "Lcom/example/descend/descend/Encoding;" (.ref aI) := F53.wr W59
      have F63 : Exa Z h59 aU "com/example/descend/descend/Encoding" := F54.wr W59
      have F64 : Exa Z h59 aA "com/example/descend/descend/Encoding" := F55.wr W59
      have F65 : Exa Z h59 aI "com/example/descend/descend/Encoding" := F56.wr W59
      refine ownGo (T' := T59) (f' := (mkF m 47 #[iv p0, iv p1, iv p2, iv p3, iv v1, rv aA, rv b50, .unset, .unset, .unset] [])) (st59) ?_
      refine ow_aload (q := 49) X59 hx (hb hby at_47) rfl rfl rfl ?_
      refine ow_iconst (q := 50) X59 hx (1 : Int32) (hb hby at_49) rfl rfl ?_
      refine ow_iloadN (q := 51) X59 hx (hb hby at_50) rfl rfl ?_
      refine ow_bipush (q := 53) X59 hx (8 : Int32) (hb hby at_51) rfl rfl ?_
      refine ow_ishr (q := 54) X59 hx _ (hb hby at_53) rfl rfl ?_
      refine ow_i2b (q := 55) X59 hx _ (hb hby at_54) rfl rfl ?_
      generalize hv_v66 : ((p1 >>> ((8 : Int32) &&& 31)).toInt8.toInt32) = v66
      obtain ⟨T67, h67, X67, e67, W67, F67s, st67⟩ := ownBastore F59r X59 hx hZ e59 (j := (1 : Int32)) (by unfold ownIn; decide) (g := (mkF m 55 #[iv p0, iv p1, iv p2, iv p3, iv v1, rv aA, rv b50, .unset, .unset, .unset] [(.int v66), (.int (1 : Int32)), (.ref b50)])) rfl rfl (hb hby at_55)
      rw [own_narb hv_v66] at F67s
      have F67r : ownAI Z h67 b50 .byte 4 (ownUpd (ownUpd (fun _ => (0 : Int32)) 0 v58) 1 v66) := F67s
      have N67 := Fr.snoc X67 N59 G_b50
      have K67 : Keep h0 h67 [] := K59.wr W67 (Or.inr sz_b50)
      have F68 : Sta Z h67 "com/example/descend/descend/Encoding" "UTF_8" "Lcom/example/descend/descend/Encoding;" (.ref aU) := F60.wr W67
      have F69 : Sta Z h67 "com/example/descend/descend/Encoding" "US_ASCII" "Lcom/example/descend/descend/Encoding;" (.ref aA) := F61.wr W67
      have F70 : Sta Z h67 "com/example/descend/descend/Encoding" "ISO_8859_1" "Lcom/example/descend/descend/Encoding;" (.ref aI) := F62.wr W67
      have F71 : Exa Z h67 aU "com/example/descend/descend/Encoding" := F63.wr W67
      have F72 : Exa Z h67 aA "com/example/descend/descend/Encoding" := F64.wr W67
      have F73 : Exa Z h67 aI "com/example/descend/descend/Encoding" := F65.wr W67
      refine ownGo (T' := T67) (f' := (mkF m 56 #[iv p0, iv p1, iv p2, iv p3, iv v1, rv aA, rv b50, .unset, .unset, .unset] [])) (st67) ?_
      refine ow_aload (q := 58) X67 hx (hb hby at_56) rfl rfl rfl ?_
      refine ow_iconst (q := 59) X67 hx (2 : Int32) (hb hby at_58) rfl rfl ?_
      refine ow_iloadN (q := 60) X67 hx (hb hby at_59) rfl rfl ?_
      refine ow_bipush (q := 62) X67 hx (16 : Int32) (hb hby at_60) rfl rfl ?_
      refine ow_ishr (q := 63) X67 hx _ (hb hby at_62) rfl rfl ?_
      refine ow_i2b (q := 64) X67 hx _ (hb hby at_63) rfl rfl ?_
      generalize hv_v74 : ((p1 >>> ((16 : Int32) &&& 31)).toInt8.toInt32) = v74
      obtain ⟨T75, h75, X75, e75, W75, F75s, st75⟩ := ownBastore F67r X67 hx hZ e67 (j := (2 : Int32)) (by unfold ownIn; decide) (g := (mkF m 64 #[iv p0, iv p1, iv p2, iv p3, iv v1, rv aA, rv b50, .unset, .unset, .unset] [(.int v74), (.int (2 : Int32)), (.ref b50)])) rfl rfl (hb hby at_64)
      rw [own_narb hv_v74] at F75s
      have F75r : ownAI Z h75 b50 .byte 4 (ownUpd (ownUpd (ownUpd (fun _ => (0 : Int32)) 0 v58) 1 v66) 2 v74) := F75s
      have N75 := Fr.snoc X75 N67 G_b50
      have K75 : Keep h0 h75 [] := K67.wr W75 (Or.inr sz_b50)
      have F76 : Sta Z h75 "com/example/descend/descend/Encoding" "UTF_8" "Lcom/example/descend/descend/Encoding;" (.ref aU) := F68.wr W75
      have F77 : Sta Z h75 "com/example/descend/descend/Encoding" "US_ASCII" "Lcom/example/descend/descend/Encoding;" (.ref aA) := F69.wr W75
      have F78 : Sta Z h75 "com/example/descend/descend/Encoding" "ISO_8859_1" "Lcom/example/descend/descend/Encoding;" (.ref aI) := F70.wr W75
      have F79 : Exa Z h75 aU "com/example/descend/descend/Encoding" := F71.wr W75
      have F80 : Exa Z h75 aA "com/example/descend/descend/Encoding" := F72.wr W75
      have F81 : Exa Z h75 aI "com/example/descend/descend/Encoding" := F73.wr W75
      refine ownGo (T' := T75) (f' := (mkF m 65 #[iv p0, iv p1, iv p2, iv p3, iv v1, rv aA, rv b50, .unset, .unset, .unset] [])) (st75) ?_
      refine ow_aload (q := 67) X75 hx (hb hby at_65) rfl rfl rfl ?_
      refine ow_iconst (q := 68) X75 hx (3 : Int32) (hb hby at_67) rfl rfl ?_
      refine ow_iloadN (q := 69) X75 hx (hb hby at_68) rfl rfl ?_
      refine ow_bipush (q := 71) X75 hx (24 : Int32) (hb hby at_69) rfl rfl ?_
      refine ow_ishr (q := 72) X75 hx _ (hb hby at_71) rfl rfl ?_
      refine ow_i2b (q := 73) X75 hx _ (hb hby at_72) rfl rfl ?_
      generalize hv_v82 : ((p1 >>> ((24 : Int32) &&& 31)).toInt8.toInt32) = v82
      obtain ⟨T83, h83, X83, e83, W83, F83s, st83⟩ := ownBastore F75r X75 hx hZ e75 (j := (3 : Int32)) (by unfold ownIn; decide) (g := (mkF m 73 #[iv p0, iv p1, iv p2, iv p3, iv v1, rv aA, rv b50, .unset, .unset, .unset] [(.int v82), (.int (3 : Int32)), (.ref b50)])) rfl rfl (hb hby at_73)
      rw [own_narb hv_v82] at F83s
      have F83r : ownAI Z h83 b50 .byte 4 (ownUpd (ownUpd (ownUpd (ownUpd (fun _ => (0 : Int32)) 0 v58) 1 v66) 2 v74) 3 v82) := F83s
      have N83 := Fr.snoc X83 N75 G_b50
      have K83 : Keep h0 h83 [] := K75.wr W83 (Or.inr sz_b50)
      have F84 : Sta Z h83 "com/example/descend/descend/Encoding" "UTF_8" "Lcom/example/descend/descend/Encoding;" (.ref aU) := F76.wr W83
      have F85 : Sta Z h83 "com/example/descend/descend/Encoding" "US_ASCII" "Lcom/example/descend/descend/Encoding;" (.ref aA) := F77.wr W83
      have F86 : Sta Z h83 "com/example/descend/descend/Encoding" "ISO_8859_1" "Lcom/example/descend/descend/Encoding;" (.ref aI) := F78.wr W83
      have F87 : Exa Z h83 aU "com/example/descend/descend/Encoding" := F79.wr W83
      have F88 : Exa Z h83 aA "com/example/descend/descend/Encoding" := F80.wr W83
      have F89 : Exa Z h83 aI "com/example/descend/descend/Encoding" := F81.wr W83
      refine ownGo (T' := T83) (f' := (mkF m 74 #[iv p0, iv p1, iv p2, iv p3, iv v1, rv aA, rv b50, .unset, .unset, .unset] [])) (st83) ?_
      refine ow_iloadN (q := 75) X83 hx (hb hby at_74) rfl rfl ?_
      refine ownGo (T' := T83) (f' := (mkF m 77 #[iv p0, iv p1, iv p2, iv p3, iv v1, rv aA, rv b50, .unset, .unset, .unset] [(.int (2147483647 : Int32)), (.int p2)])) (X83.ldcInt hx hown (mvT hZ (hw _ (List.mem_of_getElem? (i := 0) rfl))) (g := (mkF m 75 #[iv p0, iv p1, iv p2, iv p3, iv v1, rv aA, rv b50, .unset, .unset, .unset] [(.int p2)])) rfl (hb hby at_75)) ?_
      refine ow_iand (q := 78) X83 hx _ (hb hby at_77) rfl rfl ?_
      refine ow_iconst (q := 79) X83 hx (5 : Int32) (hb hby at_78) rfl rfl ?_
      refine ow_irem (q := 80) X83 hx _ (hb hby at_79) rfl (by decide) rfl ?_
      generalize hv_v90 : ((p2 &&& (2147483647 : Int32)) % (5 : Int32)) = v90
      refine ow_istore (q := 82) X83 hx (L' := #[iv p0, iv p1, iv p2, iv p3, iv v1, rv aA, rv b50, iv v90, .unset, .unset]) (hb hby at_80) rfl rfl ?_
      refine ow_iloadN (q := 83) X83 hx (hb hby at_82) rfl rfl ?_
      refine ownGo (T' := T83) (f' := (mkF m 85 #[iv p0, iv p1, iv p2, iv p3, iv v1, rv aA, rv b50, iv v90, .unset, .unset] [(.int (2147483647 : Int32)), (.int p3)])) (X83.ldcInt hx hown (mvT hZ (hw _ (List.mem_of_getElem? (i := 0) rfl))) (g := (mkF m 83 #[iv p0, iv p1, iv p2, iv p3, iv v1, rv aA, rv b50, iv v90, .unset, .unset] [(.int p3)])) rfl (hb hby at_83)) ?_
      refine ow_iand (q := 86) X83 hx _ (hb hby at_85) rfl rfl ?_
      refine ow_iconst (q := 87) X83 hx (5 : Int32) (hb hby at_86) rfl rfl ?_
      refine ow_irem (q := 88) X83 hx _ (hb hby at_87) rfl (by decide) rfl ?_
      generalize hv_v91 : ((p3 &&& (2147483647 : Int32)) % (5 : Int32)) = v91
      refine ow_istore (q := 90) X83 hx (L' := #[iv p0, iv p1, iv p2, iv p3, iv v1, rv aA, rv b50, iv v90, iv v91, .unset]) (hb hby at_88) rfl rfl ?_
      refine ow_aload (q := 92) X83 hx (hb hby at_90) rfl rfl rfl ?_
      obtain ⟨T92, X92, e92, st92⟩ := getS2 X83 hx hZ hown (host := "") (Or.inl (hw _ (List.mem_of_getElem? (i := 1) rfl))) Via.refl e83 F84 (g := (mkF m 92 #[iv p0, iv p1, iv p2, iv p3, iv v1, rv aA, rv b50, iv v90, iv v91, .unset] [(.ref aA)])) rfl (hb hby at_92)
      refine ownGo (T' := T92) (f' := (mkF m 95 #[iv p0, iv p1, iv p2, iv p3, iv v1, rv aA, rv b50, iv v90, iv v91, .unset] [(.ref aU), (.ref aA)])) (st92) ?_
      refine ownGo (T' := T92) (f' := (mkF m 98 #[iv p0, iv p1, iv p2, iv p3, iv v1, rv aA, rv b50, iv v90, iv v91, .unset] [])) (fun _ k => Jvm.RoadKit.acmp (g := (mkF m 95 #[iv p0, iv p1, iv p2, iv p3, iv v1, rv aA, rv b50, iv v90, iv v91, .unset] [(.ref aU), (.ref aA)])) X92 hx rfl rfl rfl (pc0 := 95) (pc' := 98) (same := false) rfl (hb hby at_95) rfl (decide_eq_false fun q => hneA (Value.ref.inj q)) (by decide) (by decide) k) ?_
      refine ow_aload (q := 100) X92 hx (hb hby at_98) rfl rfl rfl ?_
      refine ow_iconst (q := 101) X92 hx (0 : Int32) (hb hby at_100) rfl rfl ?_
      refine ow_iload (q := 103) X92 hx (hb hby at_101) rfl rfl ?_
      refine ow_iload (q := 105) X92 hx (hb hby at_103) rfl rfl ?_
      obtain ⟨_, _, ⟨T93, L93, k93, n93⟩, -, X93, ⟨Lc93, hQ93, l93, y93, z93⟩, st93⟩ := Jvm.LawKit.callS X92 hx (y := (⟨"com/example/descend/descend/EncodingAgreesWithUtf8PinLaw", "asciiOrOutside", "([BIII)Z"⟩ : MethodName)) hown (mvT hZ (hw _ (List.mem_of_getElem? (i := 13) rfl))) (mvT hZ (hw _ (List.mem_of_getElem? (i := 14) rfl))) (mvT hZ (hw _ (List.mem_of_getElem? (i := 15) rfl))) (mvT hZ (hw _ (List.mem_of_getElem? (i := 16) rfl))) (by decide) (backOf (W := 0) (rm_asc_0 l Z av0 hw [] b50 v90 v91 (ownUpd (ownUpd (ownUpd (ownUpd (fun _ => (0 : Int32)) 0 v58) 1 v66) 2 v74) 3 v82) h83 n0 (Nat.le_trans Z0 K83.1) F83r) hZ (hw _ (List.mem_of_getElem? (i := 16) rfl)) (hw _ (List.mem_of_getElem? (i := 15) rfl)) (by decide) (by decide)) (g := (mkF m 105 #[iv p0, iv p1, iv p2, iv p3, iv v1, rv aA, rv b50, iv v90, iv v91, .unset] [(.int v91), (.int v90), (.int (0 : Int32)), (.ref b50)])) rfl (by rw [hml]; rfl) (argsL := [(.ref b50), (.int (0 : Int32)), (.int v90), (.int v91)]) (rest := []) (lenOf own_pd1 rfl) rfl (by show 2 * 0 + _ ≤ _; exact Nat.le_of_eq rfl) (hb hby at_105) (fun _ _ => ⟨rfl, e92, (by decide : 1 + 0 ≤ _), (by decide : 4 + 0 ≤ _)⟩)
      dsimp only [Pt.U, Pt.locs, Pt.cells, Pt.slots] at X93 l93 y93 z93 st93 hQ93
      subst l93 y93 z93
      obtain ⟨rfl, N93q, e93⟩ := hQ93
      have N93 := Fr.app N83 N93q
      refine ownGo (T' := T93) (f' := (mkF m 108 #[iv p0, iv p1, iv p2, iv p3, iv v1, rv aA, rv b50, iv v90, iv v91, .unset] [(.int (own_asc v58 (0 : Int32) v90 v91))])) (st93) ?_
      by_cases hc108_94 : (own_asc v58 (0 : Int32) v90 v91) = (0 : Int32)
      · refine ow_ifYes (q := 154) X93 hx (hb hby at_108) (Jvm.Free.XT.i0_eq_t hc108_94) (by decide) (by decide) ?_
        refine ow_iconst (q := 155) X93 hx (0 : Int32) (hb hby at_154) rfl rfl ?_
        refine ow_istore (q := 157) X93 hx (L' := #[iv p0, iv p1, iv p2, iv p3, iv v1, rv aA, rv b50, iv v90, iv v91, iv (0 : Int32)]) (hb hby at_155) rfl rfl ?_
        refine ow_aload (q := 159) X93 hx (hb hby at_157) rfl rfl rfl ?_
        refine ow_aload (q := 161) X93 hx (hb hby at_159) rfl rfl rfl ?_
        refine ow_iload (q := 163) X93 hx (hb hby at_161) rfl rfl ?_
        refine ow_iload (q := 165) X93 hx (hb hby at_163) rfl rfl ?_
        obtain ⟨cq95, kq95, q95a, q95b, q95c⟩ := isOf hZ e93 F88
        obtain ⟨_, _, ⟨T95, L95, k95, n95⟩, -, X95, ⟨Lc95, hQ95, l95, y95, z95⟩, st95⟩ := X93.virtualBack hx (y := (⟨"com/example/descend/descend/Encoding", "agreesWithUtf8", "([BII)Z"⟩ : MethodName)) (z := (⟨"com/example/descend/descend/Encoding", "agreesWithUtf8", "([BII)Z"⟩ : MethodName)) hown (mvT hZ (hw _ (List.mem_of_getElem? (i := 5) rfl))) (mvT hZ (hw _ (List.mem_of_getElem? (i := 6) rfl))) (notFace_of_selects (args := #[]) (mvT hZ (hw _ (List.mem_of_getElem? (i := 8) rfl)))) (mvT hZ (hw _ (List.mem_of_getElem? (i := 8) rfl))) (mvT hZ (hw _ (List.mem_of_getElem? (i := 7) rfl))) (by decide) (backOf (W := 0) (rm_agr l Z av0 hw [] aA b50 v90 v91 aU (ownUpd (ownUpd (ownUpd (ownUpd (fun _ => (0 : Int32)) 0 v58) 1 v66) 2 v74) 3 v82) h83 n0 (Nat.le_trans Z0 K83.1) F84 F83r hneA (own_five hv_v90) (own_five hv_v91)) hZ (hw _ (List.mem_of_getElem? (i := 9) rfl)) (hw _ (List.mem_of_getElem? (i := 2) rfl)) (by decide) (by decide)) q95a q95c (g := (mkF m 165 #[iv p0, iv p1, iv p2, iv p3, iv v1, rv aA, rv b50, iv v90, iv v91, iv (0 : Int32)] [(.int v91), (.int v90), (.ref b50), (.ref aA)])) rfl (by rw [hml]; rfl) (Steps.refl _) (argsL := [(.ref b50), (.int v90), (.int v91)]) (rest := []) (lenOf own_pd0 rfl) rfl (by show 2 * 0 + _ ≤ _; exact Nat.le_of_eq rfl) (hb hby at_165) (fun _ _ => ⟨rfl, e93, (by decide : 1 + 0 ≤ _), (by decide : 4 + 0 ≤ _)⟩)
        dsimp only [Pt.U, Pt.locs, Pt.cells, Pt.slots] at X95 l95 y95 z95 st95 hQ95
        subst l95 y95 z95
        obtain ⟨rfl, N95q, e95⟩ := hQ95
        have N95 := Fr.app N93 N95q
        refine ownRun (T' := T95) (f' := (mkF m 168 #[iv p0, iv p1, iv p2, iv p3, iv v1, rv aA, rv b50, iv v90, iv v91, iv (0 : Int32)] [(.int (own_agr (ownUpd (ownUpd (ownUpd (ownUpd (fun _ => (0 : Int32)) 0 v58) 1 v66) 2 v74) 3 v82) v90 v91))])) st95 ?_
        refine ow_iload (q := 170) X95 hx (hb hby at_168) rfl rfl ?_
        refine ow_icmpNo (q := 173) X95 hx (hb hby at_170) rfl (Jvm.Free.XT.ii_ne_f (by rw [own_fin (g := (ownUpd (ownUpd (ownUpd (ownUpd (fun _ => (0 : Int32)) 0 v58) 1 v66) 2 v74) 3 v82)) (own_byte hv_v58) (own_byte hv_v66) (own_byte hv_v74) (own_byte hv_v82) rfl rfl rfl rfl]; simp [hc108_94])) ?_
        refine ow_iconst (q := 174) X95 hx (1 : Int32) (hb hby at_173) rfl rfl ?_
        refine ow_goto (q := 178) X95 hx (hb hby at_174) (by decide) (by decide) ?_
        refine ownRetN X95 hx (r := (1 : Int32)) (Or.inl rfl) Bd.returns (hb hby at_178) hlk (by decide) (by decide) (by decide) ?_
        exact ⟨rfl, N95⟩
      · refine ow_ifNo (q := 111) X93 hx (hb hby at_108) rfl (Jvm.Free.XT.i0_eq_f hc108_94) ?_
        refine ow_aload (q := 113) X93 hx (hb hby at_111) rfl rfl rfl ?_
        refine ow_iconst (q := 114) X93 hx (1 : Int32) (hb hby at_113) rfl rfl ?_
        refine ow_iload (q := 116) X93 hx (hb hby at_114) rfl rfl ?_
        refine ow_iload (q := 118) X93 hx (hb hby at_116) rfl rfl ?_
        obtain ⟨_, _, ⟨T96, L96, k96, n96⟩, -, X96, ⟨Lc96, hQ96, l96, y96, z96⟩, st96⟩ := Jvm.LawKit.callS X93 hx (y := (⟨"com/example/descend/descend/EncodingAgreesWithUtf8PinLaw", "asciiOrOutside", "([BIII)Z"⟩ : MethodName)) hown (mvT hZ (hw _ (List.mem_of_getElem? (i := 13) rfl))) (mvT hZ (hw _ (List.mem_of_getElem? (i := 14) rfl))) (mvT hZ (hw _ (List.mem_of_getElem? (i := 15) rfl))) (mvT hZ (hw _ (List.mem_of_getElem? (i := 16) rfl))) (by decide) (backOf (W := 0) (rm_asc_1 l Z av0 hw [] b50 v90 v91 (ownUpd (ownUpd (ownUpd (ownUpd (fun _ => (0 : Int32)) 0 v58) 1 v66) 2 v74) 3 v82) h83 n0 (Nat.le_trans Z0 K83.1) F83r) hZ (hw _ (List.mem_of_getElem? (i := 16) rfl)) (hw _ (List.mem_of_getElem? (i := 15) rfl)) (by decide) (by decide)) (g := (mkF m 118 #[iv p0, iv p1, iv p2, iv p3, iv v1, rv aA, rv b50, iv v90, iv v91, .unset] [(.int v91), (.int v90), (.int (1 : Int32)), (.ref b50)])) rfl (by rw [hml]; rfl) (argsL := [(.ref b50), (.int (1 : Int32)), (.int v90), (.int v91)]) (rest := []) (lenOf own_pd1 rfl) rfl (by show 2 * 0 + _ ≤ _; exact Nat.le_of_eq rfl) (hb hby at_118) (fun _ _ => ⟨rfl, e93, (by decide : 1 + 0 ≤ _), (by decide : 4 + 0 ≤ _)⟩)
        dsimp only [Pt.U, Pt.locs, Pt.cells, Pt.slots] at X96 l96 y96 z96 st96 hQ96
        subst l96 y96 z96
        obtain ⟨rfl, N96q, e96⟩ := hQ96
        have N96 := Fr.app N93 N96q
        refine ownGo (T' := T96) (f' := (mkF m 121 #[iv p0, iv p1, iv p2, iv p3, iv v1, rv aA, rv b50, iv v90, iv v91, .unset] [(.int (own_asc v66 (1 : Int32) v90 v91))])) (st96) ?_
        by_cases hc121_97 : (own_asc v66 (1 : Int32) v90 v91) = (0 : Int32)
        · refine ow_ifYes (q := 154) X96 hx (hb hby at_121) (Jvm.Free.XT.i0_eq_t hc121_97) (by decide) (by decide) ?_
          refine ow_iconst (q := 155) X96 hx (0 : Int32) (hb hby at_154) rfl rfl ?_
          refine ow_istore (q := 157) X96 hx (L' := #[iv p0, iv p1, iv p2, iv p3, iv v1, rv aA, rv b50, iv v90, iv v91, iv (0 : Int32)]) (hb hby at_155) rfl rfl ?_
          refine ow_aload (q := 159) X96 hx (hb hby at_157) rfl rfl rfl ?_
          refine ow_aload (q := 161) X96 hx (hb hby at_159) rfl rfl rfl ?_
          refine ow_iload (q := 163) X96 hx (hb hby at_161) rfl rfl ?_
          refine ow_iload (q := 165) X96 hx (hb hby at_163) rfl rfl ?_
          obtain ⟨cq98, kq98, q98a, q98b, q98c⟩ := isOf hZ e96 F88
          obtain ⟨_, _, ⟨T98, L98, k98, n98⟩, -, X98, ⟨Lc98, hQ98, l98, y98, z98⟩, st98⟩ := X96.virtualBack hx (y := (⟨"com/example/descend/descend/Encoding", "agreesWithUtf8", "([BII)Z"⟩ : MethodName)) (z := (⟨"com/example/descend/descend/Encoding", "agreesWithUtf8", "([BII)Z"⟩ : MethodName)) hown (mvT hZ (hw _ (List.mem_of_getElem? (i := 5) rfl))) (mvT hZ (hw _ (List.mem_of_getElem? (i := 6) rfl))) (notFace_of_selects (args := #[]) (mvT hZ (hw _ (List.mem_of_getElem? (i := 8) rfl)))) (mvT hZ (hw _ (List.mem_of_getElem? (i := 8) rfl))) (mvT hZ (hw _ (List.mem_of_getElem? (i := 7) rfl))) (by decide) (backOf (W := 0) (rm_agr l Z av0 hw [] aA b50 v90 v91 aU (ownUpd (ownUpd (ownUpd (ownUpd (fun _ => (0 : Int32)) 0 v58) 1 v66) 2 v74) 3 v82) h83 n0 (Nat.le_trans Z0 K83.1) F84 F83r hneA (own_five hv_v90) (own_five hv_v91)) hZ (hw _ (List.mem_of_getElem? (i := 9) rfl)) (hw _ (List.mem_of_getElem? (i := 2) rfl)) (by decide) (by decide)) q98a q98c (g := (mkF m 165 #[iv p0, iv p1, iv p2, iv p3, iv v1, rv aA, rv b50, iv v90, iv v91, iv (0 : Int32)] [(.int v91), (.int v90), (.ref b50), (.ref aA)])) rfl (by rw [hml]; rfl) (Steps.refl _) (argsL := [(.ref b50), (.int v90), (.int v91)]) (rest := []) (lenOf own_pd0 rfl) rfl (by show 2 * 0 + _ ≤ _; exact Nat.le_of_eq rfl) (hb hby at_165) (fun _ _ => ⟨rfl, e96, (by decide : 1 + 0 ≤ _), (by decide : 4 + 0 ≤ _)⟩)
          dsimp only [Pt.U, Pt.locs, Pt.cells, Pt.slots] at X98 l98 y98 z98 st98 hQ98
          subst l98 y98 z98
          obtain ⟨rfl, N98q, e98⟩ := hQ98
          have N98 := Fr.app N96 N98q
          refine ownRun (T' := T98) (f' := (mkF m 168 #[iv p0, iv p1, iv p2, iv p3, iv v1, rv aA, rv b50, iv v90, iv v91, iv (0 : Int32)] [(.int (own_agr (ownUpd (ownUpd (ownUpd (ownUpd (fun _ => (0 : Int32)) 0 v58) 1 v66) 2 v74) 3 v82) v90 v91))])) st98 ?_
          refine ow_iload (q := 170) X98 hx (hb hby at_168) rfl rfl ?_
          refine ow_icmpNo (q := 173) X98 hx (hb hby at_170) rfl (Jvm.Free.XT.ii_ne_f (by rw [own_fin (g := (ownUpd (ownUpd (ownUpd (ownUpd (fun _ => (0 : Int32)) 0 v58) 1 v66) 2 v74) 3 v82)) (own_byte hv_v58) (own_byte hv_v66) (own_byte hv_v74) (own_byte hv_v82) rfl rfl rfl rfl]; simp [hc108_94, hc121_97])) ?_
          refine ow_iconst (q := 174) X98 hx (1 : Int32) (hb hby at_173) rfl rfl ?_
          refine ow_goto (q := 178) X98 hx (hb hby at_174) (by decide) (by decide) ?_
          refine ownRetN X98 hx (r := (1 : Int32)) (Or.inl rfl) Bd.returns (hb hby at_178) hlk (by decide) (by decide) (by decide) ?_
          exact ⟨rfl, N98⟩
        · refine ow_ifNo (q := 124) X96 hx (hb hby at_121) rfl (Jvm.Free.XT.i0_eq_f hc121_97) ?_
          refine ow_aload (q := 126) X96 hx (hb hby at_124) rfl rfl rfl ?_
          refine ow_iconst (q := 127) X96 hx (2 : Int32) (hb hby at_126) rfl rfl ?_
          refine ow_iload (q := 129) X96 hx (hb hby at_127) rfl rfl ?_
          refine ow_iload (q := 131) X96 hx (hb hby at_129) rfl rfl ?_
          obtain ⟨_, _, ⟨T99, L99, k99, n99⟩, -, X99, ⟨Lc99, hQ99, l99, y99, z99⟩, st99⟩ := Jvm.LawKit.callS X96 hx (y := (⟨"com/example/descend/descend/EncodingAgreesWithUtf8PinLaw", "asciiOrOutside", "([BIII)Z"⟩ : MethodName)) hown (mvT hZ (hw _ (List.mem_of_getElem? (i := 13) rfl))) (mvT hZ (hw _ (List.mem_of_getElem? (i := 14) rfl))) (mvT hZ (hw _ (List.mem_of_getElem? (i := 15) rfl))) (mvT hZ (hw _ (List.mem_of_getElem? (i := 16) rfl))) (by decide) (backOf (W := 0) (rm_asc_2 l Z av0 hw [] b50 v90 v91 (ownUpd (ownUpd (ownUpd (ownUpd (fun _ => (0 : Int32)) 0 v58) 1 v66) 2 v74) 3 v82) h83 n0 (Nat.le_trans Z0 K83.1) F83r) hZ (hw _ (List.mem_of_getElem? (i := 16) rfl)) (hw _ (List.mem_of_getElem? (i := 15) rfl)) (by decide) (by decide)) (g := (mkF m 131 #[iv p0, iv p1, iv p2, iv p3, iv v1, rv aA, rv b50, iv v90, iv v91, .unset] [(.int v91), (.int v90), (.int (2 : Int32)), (.ref b50)])) rfl (by rw [hml]; rfl) (argsL := [(.ref b50), (.int (2 : Int32)), (.int v90), (.int v91)]) (rest := []) (lenOf own_pd1 rfl) rfl (by show 2 * 0 + _ ≤ _; exact Nat.le_of_eq rfl) (hb hby at_131) (fun _ _ => ⟨rfl, e96, (by decide : 1 + 0 ≤ _), (by decide : 4 + 0 ≤ _)⟩)
          dsimp only [Pt.U, Pt.locs, Pt.cells, Pt.slots] at X99 l99 y99 z99 st99 hQ99
          subst l99 y99 z99
          obtain ⟨rfl, N99q, e99⟩ := hQ99
          have N99 := Fr.app N96 N99q
          refine ownGo (T' := T99) (f' := (mkF m 134 #[iv p0, iv p1, iv p2, iv p3, iv v1, rv aA, rv b50, iv v90, iv v91, .unset] [(.int (own_asc v74 (2 : Int32) v90 v91))])) (st99) ?_
          by_cases hc134_100 : (own_asc v74 (2 : Int32) v90 v91) = (0 : Int32)
          · refine ow_ifYes (q := 154) X99 hx (hb hby at_134) (Jvm.Free.XT.i0_eq_t hc134_100) (by decide) (by decide) ?_
            refine ow_iconst (q := 155) X99 hx (0 : Int32) (hb hby at_154) rfl rfl ?_
            refine ow_istore (q := 157) X99 hx (L' := #[iv p0, iv p1, iv p2, iv p3, iv v1, rv aA, rv b50, iv v90, iv v91, iv (0 : Int32)]) (hb hby at_155) rfl rfl ?_
            refine ow_aload (q := 159) X99 hx (hb hby at_157) rfl rfl rfl ?_
            refine ow_aload (q := 161) X99 hx (hb hby at_159) rfl rfl rfl ?_
            refine ow_iload (q := 163) X99 hx (hb hby at_161) rfl rfl ?_
            refine ow_iload (q := 165) X99 hx (hb hby at_163) rfl rfl ?_
            obtain ⟨cq101, kq101, q101a, q101b, q101c⟩ := isOf hZ e99 F88
            obtain ⟨_, _, ⟨T101, L101, k101, n101⟩, -, X101, ⟨Lc101, hQ101, l101, y101, z101⟩, st101⟩ := X99.virtualBack hx (y := (⟨"com/example/descend/descend/Encoding", "agreesWithUtf8", "([BII)Z"⟩ : MethodName)) (z := (⟨"com/example/descend/descend/Encoding", "agreesWithUtf8", "([BII)Z"⟩ : MethodName)) hown (mvT hZ (hw _ (List.mem_of_getElem? (i := 5) rfl))) (mvT hZ (hw _ (List.mem_of_getElem? (i := 6) rfl))) (notFace_of_selects (args := #[]) (mvT hZ (hw _ (List.mem_of_getElem? (i := 8) rfl)))) (mvT hZ (hw _ (List.mem_of_getElem? (i := 8) rfl))) (mvT hZ (hw _ (List.mem_of_getElem? (i := 7) rfl))) (by decide) (backOf (W := 0) (rm_agr l Z av0 hw [] aA b50 v90 v91 aU (ownUpd (ownUpd (ownUpd (ownUpd (fun _ => (0 : Int32)) 0 v58) 1 v66) 2 v74) 3 v82) h83 n0 (Nat.le_trans Z0 K83.1) F84 F83r hneA (own_five hv_v90) (own_five hv_v91)) hZ (hw _ (List.mem_of_getElem? (i := 9) rfl)) (hw _ (List.mem_of_getElem? (i := 2) rfl)) (by decide) (by decide)) q101a q101c (g := (mkF m 165 #[iv p0, iv p1, iv p2, iv p3, iv v1, rv aA, rv b50, iv v90, iv v91, iv (0 : Int32)] [(.int v91), (.int v90), (.ref b50), (.ref aA)])) rfl (by rw [hml]; rfl) (Steps.refl _) (argsL := [(.ref b50), (.int v90), (.int v91)]) (rest := []) (lenOf own_pd0 rfl) rfl (by show 2 * 0 + _ ≤ _; exact Nat.le_of_eq rfl) (hb hby at_165) (fun _ _ => ⟨rfl, e99, (by decide : 1 + 0 ≤ _), (by decide : 4 + 0 ≤ _)⟩)
            dsimp only [Pt.U, Pt.locs, Pt.cells, Pt.slots] at X101 l101 y101 z101 st101 hQ101
            subst l101 y101 z101
            obtain ⟨rfl, N101q, e101⟩ := hQ101
            have N101 := Fr.app N99 N101q
            refine ownRun (T' := T101) (f' := (mkF m 168 #[iv p0, iv p1, iv p2, iv p3, iv v1, rv aA, rv b50, iv v90, iv v91, iv (0 : Int32)] [(.int (own_agr (ownUpd (ownUpd (ownUpd (ownUpd (fun _ => (0 : Int32)) 0 v58) 1 v66) 2 v74) 3 v82) v90 v91))])) st101 ?_
            refine ow_iload (q := 170) X101 hx (hb hby at_168) rfl rfl ?_
            refine ow_icmpNo (q := 173) X101 hx (hb hby at_170) rfl (Jvm.Free.XT.ii_ne_f (by rw [own_fin (g := (ownUpd (ownUpd (ownUpd (ownUpd (fun _ => (0 : Int32)) 0 v58) 1 v66) 2 v74) 3 v82)) (own_byte hv_v58) (own_byte hv_v66) (own_byte hv_v74) (own_byte hv_v82) rfl rfl rfl rfl]; simp [hc108_94, hc121_97, hc134_100])) ?_
            refine ow_iconst (q := 174) X101 hx (1 : Int32) (hb hby at_173) rfl rfl ?_
            refine ow_goto (q := 178) X101 hx (hb hby at_174) (by decide) (by decide) ?_
            refine ownRetN X101 hx (r := (1 : Int32)) (Or.inl rfl) Bd.returns (hb hby at_178) hlk (by decide) (by decide) (by decide) ?_
            exact ⟨rfl, N101⟩
          · refine ow_ifNo (q := 137) X99 hx (hb hby at_134) rfl (Jvm.Free.XT.i0_eq_f hc134_100) ?_
            refine ow_aload (q := 139) X99 hx (hb hby at_137) rfl rfl rfl ?_
            refine ow_iconst (q := 140) X99 hx (3 : Int32) (hb hby at_139) rfl rfl ?_
            refine ow_iload (q := 142) X99 hx (hb hby at_140) rfl rfl ?_
            refine ow_iload (q := 144) X99 hx (hb hby at_142) rfl rfl ?_
            obtain ⟨_, _, ⟨T102, L102, k102, n102⟩, -, X102, ⟨Lc102, hQ102, l102, y102, z102⟩, st102⟩ := Jvm.LawKit.callS X99 hx (y := (⟨"com/example/descend/descend/EncodingAgreesWithUtf8PinLaw", "asciiOrOutside", "([BIII)Z"⟩ : MethodName)) hown (mvT hZ (hw _ (List.mem_of_getElem? (i := 13) rfl))) (mvT hZ (hw _ (List.mem_of_getElem? (i := 14) rfl))) (mvT hZ (hw _ (List.mem_of_getElem? (i := 15) rfl))) (mvT hZ (hw _ (List.mem_of_getElem? (i := 16) rfl))) (by decide) (backOf (W := 0) (rm_asc_3 l Z av0 hw [] b50 v90 v91 (ownUpd (ownUpd (ownUpd (ownUpd (fun _ => (0 : Int32)) 0 v58) 1 v66) 2 v74) 3 v82) h83 n0 (Nat.le_trans Z0 K83.1) F83r) hZ (hw _ (List.mem_of_getElem? (i := 16) rfl)) (hw _ (List.mem_of_getElem? (i := 15) rfl)) (by decide) (by decide)) (g := (mkF m 144 #[iv p0, iv p1, iv p2, iv p3, iv v1, rv aA, rv b50, iv v90, iv v91, .unset] [(.int v91), (.int v90), (.int (3 : Int32)), (.ref b50)])) rfl (by rw [hml]; rfl) (argsL := [(.ref b50), (.int (3 : Int32)), (.int v90), (.int v91)]) (rest := []) (lenOf own_pd1 rfl) rfl (by show 2 * 0 + _ ≤ _; exact Nat.le_of_eq rfl) (hb hby at_144) (fun _ _ => ⟨rfl, e99, (by decide : 1 + 0 ≤ _), (by decide : 4 + 0 ≤ _)⟩)
            dsimp only [Pt.U, Pt.locs, Pt.cells, Pt.slots] at X102 l102 y102 z102 st102 hQ102
            subst l102 y102 z102
            obtain ⟨rfl, N102q, e102⟩ := hQ102
            have N102 := Fr.app N99 N102q
            refine ownGo (T' := T102) (f' := (mkF m 147 #[iv p0, iv p1, iv p2, iv p3, iv v1, rv aA, rv b50, iv v90, iv v91, .unset] [(.int (own_asc v82 (3 : Int32) v90 v91))])) (st102) ?_
            by_cases hc147_103 : (own_asc v82 (3 : Int32) v90 v91) = (0 : Int32)
            · refine ow_ifYes (q := 154) X102 hx (hb hby at_147) (Jvm.Free.XT.i0_eq_t hc147_103) (by decide) (by decide) ?_
              refine ow_iconst (q := 155) X102 hx (0 : Int32) (hb hby at_154) rfl rfl ?_
              refine ow_istore (q := 157) X102 hx (L' := #[iv p0, iv p1, iv p2, iv p3, iv v1, rv aA, rv b50, iv v90, iv v91, iv (0 : Int32)]) (hb hby at_155) rfl rfl ?_
              refine ow_aload (q := 159) X102 hx (hb hby at_157) rfl rfl rfl ?_
              refine ow_aload (q := 161) X102 hx (hb hby at_159) rfl rfl rfl ?_
              refine ow_iload (q := 163) X102 hx (hb hby at_161) rfl rfl ?_
              refine ow_iload (q := 165) X102 hx (hb hby at_163) rfl rfl ?_
              obtain ⟨cq104, kq104, q104a, q104b, q104c⟩ := isOf hZ e102 F88
              obtain ⟨_, _, ⟨T104, L104, k104, n104⟩, -, X104, ⟨Lc104, hQ104, l104, y104, z104⟩, st104⟩ := X102.virtualBack hx (y := (⟨"com/example/descend/descend/Encoding", "agreesWithUtf8", "([BII)Z"⟩ : MethodName)) (z := (⟨"com/example/descend/descend/Encoding", "agreesWithUtf8", "([BII)Z"⟩ : MethodName)) hown (mvT hZ (hw _ (List.mem_of_getElem? (i := 5) rfl))) (mvT hZ (hw _ (List.mem_of_getElem? (i := 6) rfl))) (notFace_of_selects (args := #[]) (mvT hZ (hw _ (List.mem_of_getElem? (i := 8) rfl)))) (mvT hZ (hw _ (List.mem_of_getElem? (i := 8) rfl))) (mvT hZ (hw _ (List.mem_of_getElem? (i := 7) rfl))) (by decide) (backOf (W := 0) (rm_agr l Z av0 hw [] aA b50 v90 v91 aU (ownUpd (ownUpd (ownUpd (ownUpd (fun _ => (0 : Int32)) 0 v58) 1 v66) 2 v74) 3 v82) h83 n0 (Nat.le_trans Z0 K83.1) F84 F83r hneA (own_five hv_v90) (own_five hv_v91)) hZ (hw _ (List.mem_of_getElem? (i := 9) rfl)) (hw _ (List.mem_of_getElem? (i := 2) rfl)) (by decide) (by decide)) q104a q104c (g := (mkF m 165 #[iv p0, iv p1, iv p2, iv p3, iv v1, rv aA, rv b50, iv v90, iv v91, iv (0 : Int32)] [(.int v91), (.int v90), (.ref b50), (.ref aA)])) rfl (by rw [hml]; rfl) (Steps.refl _) (argsL := [(.ref b50), (.int v90), (.int v91)]) (rest := []) (lenOf own_pd0 rfl) rfl (by show 2 * 0 + _ ≤ _; exact Nat.le_of_eq rfl) (hb hby at_165) (fun _ _ => ⟨rfl, e102, (by decide : 1 + 0 ≤ _), (by decide : 4 + 0 ≤ _)⟩)
              dsimp only [Pt.U, Pt.locs, Pt.cells, Pt.slots] at X104 l104 y104 z104 st104 hQ104
              subst l104 y104 z104
              obtain ⟨rfl, N104q, e104⟩ := hQ104
              have N104 := Fr.app N102 N104q
              refine ownRun (T' := T104) (f' := (mkF m 168 #[iv p0, iv p1, iv p2, iv p3, iv v1, rv aA, rv b50, iv v90, iv v91, iv (0 : Int32)] [(.int (own_agr (ownUpd (ownUpd (ownUpd (ownUpd (fun _ => (0 : Int32)) 0 v58) 1 v66) 2 v74) 3 v82) v90 v91))])) st104 ?_
              refine ow_iload (q := 170) X104 hx (hb hby at_168) rfl rfl ?_
              refine ow_icmpNo (q := 173) X104 hx (hb hby at_170) rfl (Jvm.Free.XT.ii_ne_f (by rw [own_fin (g := (ownUpd (ownUpd (ownUpd (ownUpd (fun _ => (0 : Int32)) 0 v58) 1 v66) 2 v74) 3 v82)) (own_byte hv_v58) (own_byte hv_v66) (own_byte hv_v74) (own_byte hv_v82) rfl rfl rfl rfl]; simp [hc108_94, hc121_97, hc134_100, hc147_103])) ?_
              refine ow_iconst (q := 174) X104 hx (1 : Int32) (hb hby at_173) rfl rfl ?_
              refine ow_goto (q := 178) X104 hx (hb hby at_174) (by decide) (by decide) ?_
              refine ownRetN X104 hx (r := (1 : Int32)) (Or.inl rfl) Bd.returns (hb hby at_178) hlk (by decide) (by decide) (by decide) ?_
              exact ⟨rfl, N104⟩
            · refine ow_ifNo (q := 150) X102 hx (hb hby at_147) rfl (Jvm.Free.XT.i0_eq_f hc147_103) ?_
              refine ow_iconst (q := 151) X102 hx (1 : Int32) (hb hby at_150) rfl rfl ?_
              refine ow_goto (q := 155) X102 hx (hb hby at_151) (by decide) (by decide) ?_
              refine ow_istore (q := 157) X102 hx (L' := #[iv p0, iv p1, iv p2, iv p3, iv v1, rv aA, rv b50, iv v90, iv v91, iv (1 : Int32)]) (hb hby at_155) rfl rfl ?_
              refine ow_aload (q := 159) X102 hx (hb hby at_157) rfl rfl rfl ?_
              refine ow_aload (q := 161) X102 hx (hb hby at_159) rfl rfl rfl ?_
              refine ow_iload (q := 163) X102 hx (hb hby at_161) rfl rfl ?_
              refine ow_iload (q := 165) X102 hx (hb hby at_163) rfl rfl ?_
              obtain ⟨cq105, kq105, q105a, q105b, q105c⟩ := isOf hZ e102 F88
              obtain ⟨_, _, ⟨T105, L105, k105, n105⟩, -, X105, ⟨Lc105, hQ105, l105, y105, z105⟩, st105⟩ := X102.virtualBack hx (y := (⟨"com/example/descend/descend/Encoding", "agreesWithUtf8", "([BII)Z"⟩ : MethodName)) (z := (⟨"com/example/descend/descend/Encoding", "agreesWithUtf8", "([BII)Z"⟩ : MethodName)) hown (mvT hZ (hw _ (List.mem_of_getElem? (i := 5) rfl))) (mvT hZ (hw _ (List.mem_of_getElem? (i := 6) rfl))) (notFace_of_selects (args := #[]) (mvT hZ (hw _ (List.mem_of_getElem? (i := 8) rfl)))) (mvT hZ (hw _ (List.mem_of_getElem? (i := 8) rfl))) (mvT hZ (hw _ (List.mem_of_getElem? (i := 7) rfl))) (by decide) (backOf (W := 0) (rm_agr l Z av0 hw [] aA b50 v90 v91 aU (ownUpd (ownUpd (ownUpd (ownUpd (fun _ => (0 : Int32)) 0 v58) 1 v66) 2 v74) 3 v82) h83 n0 (Nat.le_trans Z0 K83.1) F84 F83r hneA (own_five hv_v90) (own_five hv_v91)) hZ (hw _ (List.mem_of_getElem? (i := 9) rfl)) (hw _ (List.mem_of_getElem? (i := 2) rfl)) (by decide) (by decide)) q105a q105c (g := (mkF m 165 #[iv p0, iv p1, iv p2, iv p3, iv v1, rv aA, rv b50, iv v90, iv v91, iv (1 : Int32)] [(.int v91), (.int v90), (.ref b50), (.ref aA)])) rfl (by rw [hml]; rfl) (Steps.refl _) (argsL := [(.ref b50), (.int v90), (.int v91)]) (rest := []) (lenOf own_pd0 rfl) rfl (by show 2 * 0 + _ ≤ _; exact Nat.le_of_eq rfl) (hb hby at_165) (fun _ _ => ⟨rfl, e102, (by decide : 1 + 0 ≤ _), (by decide : 4 + 0 ≤ _)⟩)
              dsimp only [Pt.U, Pt.locs, Pt.cells, Pt.slots] at X105 l105 y105 z105 st105 hQ105
              subst l105 y105 z105
              obtain ⟨rfl, N105q, e105⟩ := hQ105
              have N105 := Fr.app N102 N105q
              refine ownRun (T' := T105) (f' := (mkF m 168 #[iv p0, iv p1, iv p2, iv p3, iv v1, rv aA, rv b50, iv v90, iv v91, iv (1 : Int32)] [(.int (own_agr (ownUpd (ownUpd (ownUpd (ownUpd (fun _ => (0 : Int32)) 0 v58) 1 v66) 2 v74) 3 v82) v90 v91))])) st105 ?_
              refine ow_iload (q := 170) X105 hx (hb hby at_168) rfl rfl ?_
              refine ow_icmpNo (q := 173) X105 hx (hb hby at_170) rfl (Jvm.Free.XT.ii_ne_f (by rw [own_fin (g := (ownUpd (ownUpd (ownUpd (ownUpd (fun _ => (0 : Int32)) 0 v58) 1 v66) 2 v74) 3 v82)) (own_byte hv_v58) (own_byte hv_v66) (own_byte hv_v74) (own_byte hv_v82) rfl rfl rfl rfl]; simp [hc108_94, hc121_97, hc134_100, hc147_103])) ?_
              refine ow_iconst (q := 174) X105 hx (1 : Int32) (hb hby at_173) rfl rfl ?_
              refine ow_goto (q := 178) X105 hx (hb hby at_174) (by decide) (by decide) ?_
              refine ownRetN X105 hx (r := (1 : Int32)) (Or.inl rfl) Bd.returns (hb hby at_178) hlk (by decide) (by decide) (by decide) ?_
              exact ⟨rfl, N105⟩
    · refine ow_icmpYes (q := 31) X0 hx (hb hby at_22) (Jvm.Free.XT.ii_ne_t hc22_48) (by decide) (by decide) ?_
      obtain ⟨T106, X106, e106, st106⟩ := getS2 X0 hx hZ hown (host := "") (Or.inl (hw _ (List.mem_of_getElem? (i := 17) rfl))) Via.refl e0 HF2 (g := (mkF m 31 #[iv p0, iv p1, iv p2, iv p3, iv v1, .unset, .unset, .unset, .unset, .unset] [])) rfl (hb hby at_31)
      refine ownGo (T' := T106) (f' := (mkF m 34 #[iv p0, iv p1, iv p2, iv p3, iv v1, .unset, .unset, .unset, .unset, .unset] [(.ref aI)])) (st106) ?_
      refine ow_astore (q := 36) X106 hx (L' := #[iv p0, iv p1, iv p2, iv p3, iv v1, rv aI, .unset, .unset, .unset, .unset]) (hb hby at_34) rfl rfl rfl ?_
      refine ow_iconst (q := 37) X106 hx (4 : Int32) (hb hby at_36) rfl rfl ?_
      obtain ⟨T107, h107, k107, X107, e107, E107, A107, st107⟩ := newP X106 hx hZ (hw _ (List.mem_of_getElem? (i := 4) rfl)) e106 (g := (mkF m 37 #[iv p0, iv p1, iv p2, iv p3, iv v1, rv aI, .unset, .unset, .unset, .unset] [(.int (4 : Int32))])) rfl (hb hby at_37) rfl (by decide) (cap := 4) (by decide) (by decide) (by decide) (by decide)
      obtain ⟨b107, g107⟩ : ∃ z, z = h0.size := ⟨_, rfl⟩
      rw [← g107] at A107 st107
      have ne_aU_b107 : aU ≠ b107 := Nat.ne_of_lt (Nat.lt_of_lt_of_le HF3.lt (Nat.le_of_eq g107.symm))
      have ne_aA_b107 : aA ≠ b107 := Nat.ne_of_lt (Nat.lt_of_lt_of_le HF4.lt (Nat.le_of_eq g107.symm))
      have ne_aI_b107 : aI ≠ b107 := Nat.ne_of_lt (Nat.lt_of_lt_of_le HF5.lt (Nat.le_of_eq g107.symm))
      have sz_b107 : h0.size ≤ b107 := Nat.le_trans K0.1 (Nat.le_of_eq g107.symm)
      have G_b107 : n0 ≤ b107 := Nat.le_trans Z0 sz_b107
      have K107 : Keep h0 h107 [] := K0.ext E107
      have F108 : Sta Z h107 "com/example/descend/descend/Encoding" "UTF_8" "Lcom/example/descend/descend/Encoding;" (.ref aU) := HF0.ext E107
      have F109 : Sta Z h107 "com/example/descend/descend/Encoding" "US_ASCII" "Lcom/example/descend/descend/Encoding;" (.ref aA) := HF1.ext E107
      have F110 : Sta Z h107 "com/example/descend/descend/Encoding" "ISO_8859_1" "Lcom/example/descend/descend/Encoding;" (.ref aI) := HF2.ext E107
      have F111 : Exa Z h107 aU "com/example/descend/descend/Encoding" := HF3.ext E107
      have F112 : Exa Z h107 aA "com/example/descend/descend/Encoding" := HF4.ext E107
      have F113 : Exa Z h107 aI "com/example/descend/descend/Encoding" := HF5.ext E107
      have F114 : ownAI Z h107 b107 .byte 4 (fun _ => (0 : Int32)) := ownAI.new A107 (by decide) rfl (by decide)
      refine ownGo (T' := T107) (f' := (mkF m 39 #[iv p0, iv p1, iv p2, iv p3, iv v1, rv aI, .unset, .unset, .unset, .unset] [(.ref b107)])) (st107) ?_
      refine ow_astore (q := 41) X107 hx (L' := #[iv p0, iv p1, iv p2, iv p3, iv v1, rv aI, rv b107, .unset, .unset, .unset]) (hb hby at_39) rfl rfl rfl ?_
      refine ow_aload (q := 43) X107 hx (hb hby at_41) rfl rfl rfl ?_
      refine ow_iconst (q := 44) X107 hx (0 : Int32) (hb hby at_43) rfl rfl ?_
      refine ow_iloadN (q := 45) X107 hx (hb hby at_44) rfl rfl ?_
      refine ow_i2b (q := 46) X107 hx _ (hb hby at_45) rfl rfl ?_
      generalize hv_v115 : (p1.toInt8.toInt32) = v115
      obtain ⟨T116, h116, X116, e116, W116, F116s, st116⟩ := ownBastore F114 X107 hx hZ e107 (j := (0 : Int32)) (by unfold ownIn; decide) (g := (mkF m 46 #[iv p0, iv p1, iv p2, iv p3, iv v1, rv aI, rv b107, .unset, .unset, .unset] [(.int v115), (.int (0 : Int32)), (.ref b107)])) rfl rfl (hb hby at_46)
      rw [own_narb hv_v115] at F116s
      have F116r : ownAI Z h116 b107 .byte 4 (ownUpd (fun _ => (0 : Int32)) 0 v115) := F116s
      have N116 := Fr.snoc X116 N0 G_b107
      have K116 : Keep h0 h116 [] := K107.wr W116 (Or.inr sz_b107)
      have F117 : Sta Z h116 "com/example/descend/descend/Encoding" "UTF_8" "Lcom/example/descend/descend/Encoding;" (.ref aU) := F108.wr W116
      have F118 : Sta Z h116 "com/example/descend/descend/Encoding" "US_ASCII" "Lcom/example/descend/descend/Encoding;" (.ref aA) := F109.wr W116
      have F119 : Sta Z h116 "com/example/descend/descend/Encoding" "ISO_8859_1" "Lcom/example/descend/descend/Encoding;" (.ref aI) := F110.wr W116
      have F120 : Exa Z h116 aU "com/example/descend/descend/Encoding" := F111.wr W116
      have F121 : Exa Z h116 aA "com/example/descend/descend/Encoding" := F112.wr W116
      have F122 : Exa Z h116 aI "com/example/descend/descend/Encoding" := F113.wr W116
      refine ownGo (T' := T116) (f' := (mkF m 47 #[iv p0, iv p1, iv p2, iv p3, iv v1, rv aI, rv b107, .unset, .unset, .unset] [])) (st116) ?_
      refine ow_aload (q := 49) X116 hx (hb hby at_47) rfl rfl rfl ?_
      refine ow_iconst (q := 50) X116 hx (1 : Int32) (hb hby at_49) rfl rfl ?_
      refine ow_iloadN (q := 51) X116 hx (hb hby at_50) rfl rfl ?_
      refine ow_bipush (q := 53) X116 hx (8 : Int32) (hb hby at_51) rfl rfl ?_
      refine ow_ishr (q := 54) X116 hx _ (hb hby at_53) rfl rfl ?_
      refine ow_i2b (q := 55) X116 hx _ (hb hby at_54) rfl rfl ?_
      generalize hv_v123 : ((p1 >>> ((8 : Int32) &&& 31)).toInt8.toInt32) = v123
      obtain ⟨T124, h124, X124, e124, W124, F124s, st124⟩ := ownBastore F116r X116 hx hZ e116 (j := (1 : Int32)) (by unfold ownIn; decide) (g := (mkF m 55 #[iv p0, iv p1, iv p2, iv p3, iv v1, rv aI, rv b107, .unset, .unset, .unset] [(.int v123), (.int (1 : Int32)), (.ref b107)])) rfl rfl (hb hby at_55)
      rw [own_narb hv_v123] at F124s
      have F124r : ownAI Z h124 b107 .byte 4 (ownUpd (ownUpd (fun _ => (0 : Int32)) 0 v115) 1 v123) := F124s
      have N124 := Fr.snoc X124 N116 G_b107
      have K124 : Keep h0 h124 [] := K116.wr W124 (Or.inr sz_b107)
      have F125 : Sta Z h124 "com/example/descend/descend/Encoding" "UTF_8" "Lcom/example/descend/descend/Encoding;" (.ref aU) := F117.wr W124
      have F126 : Sta Z h124 "com/example/descend/descend/Encoding" "US_ASCII" "Lcom/example/descend/descend/Encoding;" (.ref aA) := F118.wr W124
      have F127 : Sta Z h124 "com/example/descend/descend/Encoding" "ISO_8859_1" "Lcom/example/descend/descend/Encoding;" (.ref aI) := F119.wr W124
      have F128 : Exa Z h124 aU "com/example/descend/descend/Encoding" := F120.wr W124
      have F129 : Exa Z h124 aA "com/example/descend/descend/Encoding" := F121.wr W124
      have F130 : Exa Z h124 aI "com/example/descend/descend/Encoding" := F122.wr W124
      refine ownGo (T' := T124) (f' := (mkF m 56 #[iv p0, iv p1, iv p2, iv p3, iv v1, rv aI, rv b107, .unset, .unset, .unset] [])) (st124) ?_
      refine ow_aload (q := 58) X124 hx (hb hby at_56) rfl rfl rfl ?_
      refine ow_iconst (q := 59) X124 hx (2 : Int32) (hb hby at_58) rfl rfl ?_
      refine ow_iloadN (q := 60) X124 hx (hb hby at_59) rfl rfl ?_
      refine ow_bipush (q := 62) X124 hx (16 : Int32) (hb hby at_60) rfl rfl ?_
      refine ow_ishr (q := 63) X124 hx _ (hb hby at_62) rfl rfl ?_
      refine ow_i2b (q := 64) X124 hx _ (hb hby at_63) rfl rfl ?_
      generalize hv_v131 : ((p1 >>> ((16 : Int32) &&& 31)).toInt8.toInt32) = v131
      obtain ⟨T132, h132, X132, e132, W132, F132s, st132⟩ := ownBastore F124r X124 hx hZ e124 (j := (2 : Int32)) (by unfold ownIn; decide) (g := (mkF m 64 #[iv p0, iv p1, iv p2, iv p3, iv v1, rv aI, rv b107, .unset, .unset, .unset] [(.int v131), (.int (2 : Int32)), (.ref b107)])) rfl rfl (hb hby at_64)
      rw [own_narb hv_v131] at F132s
      have F132r : ownAI Z h132 b107 .byte 4 (ownUpd (ownUpd (ownUpd (fun _ => (0 : Int32)) 0 v115) 1 v123) 2 v131) := F132s
      have N132 := Fr.snoc X132 N124 G_b107
      have K132 : Keep h0 h132 [] := K124.wr W132 (Or.inr sz_b107)
      have F133 : Sta Z h132 "com/example/descend/descend/Encoding" "UTF_8" "Lcom/example/descend/descend/Encoding;" (.ref aU) := F125.wr W132
      have F134 : Sta Z h132 "com/example/descend/descend/Encoding" "US_ASCII" "Lcom/example/descend/descend/Encoding;" (.ref aA) := F126.wr W132
      have F135 : Sta Z h132 "com/example/descend/descend/Encoding" "ISO_8859_1" "Lcom/example/descend/descend/Encoding;" (.ref aI) := F127.wr W132
      have F136 : Exa Z h132 aU "com/example/descend/descend/Encoding" := F128.wr W132
      have F137 : Exa Z h132 aA "com/example/descend/descend/Encoding" := F129.wr W132
      have F138 : Exa Z h132 aI "com/example/descend/descend/Encoding" := F130.wr W132
      refine ownGo (T' := T132) (f' := (mkF m 65 #[iv p0, iv p1, iv p2, iv p3, iv v1, rv aI, rv b107, .unset, .unset, .unset] [])) (st132) ?_
      refine ow_aload (q := 67) X132 hx (hb hby at_65) rfl rfl rfl ?_
      refine ow_iconst (q := 68) X132 hx (3 : Int32) (hb hby at_67) rfl rfl ?_
      refine ow_iloadN (q := 69) X132 hx (hb hby at_68) rfl rfl ?_
      refine ow_bipush (q := 71) X132 hx (24 : Int32) (hb hby at_69) rfl rfl ?_
      refine ow_ishr (q := 72) X132 hx _ (hb hby at_71) rfl rfl ?_
      refine ow_i2b (q := 73) X132 hx _ (hb hby at_72) rfl rfl ?_
      generalize hv_v139 : ((p1 >>> ((24 : Int32) &&& 31)).toInt8.toInt32) = v139
      obtain ⟨T140, h140, X140, e140, W140, F140s, st140⟩ := ownBastore F132r X132 hx hZ e132 (j := (3 : Int32)) (by unfold ownIn; decide) (g := (mkF m 73 #[iv p0, iv p1, iv p2, iv p3, iv v1, rv aI, rv b107, .unset, .unset, .unset] [(.int v139), (.int (3 : Int32)), (.ref b107)])) rfl rfl (hb hby at_73)
      rw [own_narb hv_v139] at F140s
      have F140r : ownAI Z h140 b107 .byte 4 (ownUpd (ownUpd (ownUpd (ownUpd (fun _ => (0 : Int32)) 0 v115) 1 v123) 2 v131) 3 v139) := F140s
      have N140 := Fr.snoc X140 N132 G_b107
      have K140 : Keep h0 h140 [] := K132.wr W140 (Or.inr sz_b107)
      have F141 : Sta Z h140 "com/example/descend/descend/Encoding" "UTF_8" "Lcom/example/descend/descend/Encoding;" (.ref aU) := F133.wr W140
      have F142 : Sta Z h140 "com/example/descend/descend/Encoding" "US_ASCII" "Lcom/example/descend/descend/Encoding;" (.ref aA) := F134.wr W140
      have F143 : Sta Z h140 "com/example/descend/descend/Encoding" "ISO_8859_1" "Lcom/example/descend/descend/Encoding;" (.ref aI) := F135.wr W140
      have F144 : Exa Z h140 aU "com/example/descend/descend/Encoding" := F136.wr W140
      have F145 : Exa Z h140 aA "com/example/descend/descend/Encoding" := F137.wr W140
      have F146 : Exa Z h140 aI "com/example/descend/descend/Encoding" := F138.wr W140
      refine ownGo (T' := T140) (f' := (mkF m 74 #[iv p0, iv p1, iv p2, iv p3, iv v1, rv aI, rv b107, .unset, .unset, .unset] [])) (st140) ?_
      refine ow_iloadN (q := 75) X140 hx (hb hby at_74) rfl rfl ?_
      refine ownGo (T' := T140) (f' := (mkF m 77 #[iv p0, iv p1, iv p2, iv p3, iv v1, rv aI, rv b107, .unset, .unset, .unset] [(.int (2147483647 : Int32)), (.int p2)])) (X140.ldcInt hx hown (mvT hZ (hw _ (List.mem_of_getElem? (i := 0) rfl))) (g := (mkF m 75 #[iv p0, iv p1, iv p2, iv p3, iv v1, rv aI, rv b107, .unset, .unset, .unset] [(.int p2)])) rfl (hb hby at_75)) ?_
      refine ow_iand (q := 78) X140 hx _ (hb hby at_77) rfl rfl ?_
      refine ow_iconst (q := 79) X140 hx (5 : Int32) (hb hby at_78) rfl rfl ?_
      refine ow_irem (q := 80) X140 hx _ (hb hby at_79) rfl (by decide) rfl ?_
      generalize hv_v147 : ((p2 &&& (2147483647 : Int32)) % (5 : Int32)) = v147
      refine ow_istore (q := 82) X140 hx (L' := #[iv p0, iv p1, iv p2, iv p3, iv v1, rv aI, rv b107, iv v147, .unset, .unset]) (hb hby at_80) rfl rfl ?_
      refine ow_iloadN (q := 83) X140 hx (hb hby at_82) rfl rfl ?_
      refine ownGo (T' := T140) (f' := (mkF m 85 #[iv p0, iv p1, iv p2, iv p3, iv v1, rv aI, rv b107, iv v147, .unset, .unset] [(.int (2147483647 : Int32)), (.int p3)])) (X140.ldcInt hx hown (mvT hZ (hw _ (List.mem_of_getElem? (i := 0) rfl))) (g := (mkF m 83 #[iv p0, iv p1, iv p2, iv p3, iv v1, rv aI, rv b107, iv v147, .unset, .unset] [(.int p3)])) rfl (hb hby at_83)) ?_
      refine ow_iand (q := 86) X140 hx _ (hb hby at_85) rfl rfl ?_
      refine ow_iconst (q := 87) X140 hx (5 : Int32) (hb hby at_86) rfl rfl ?_
      refine ow_irem (q := 88) X140 hx _ (hb hby at_87) rfl (by decide) rfl ?_
      generalize hv_v148 : ((p3 &&& (2147483647 : Int32)) % (5 : Int32)) = v148
      refine ow_istore (q := 90) X140 hx (L' := #[iv p0, iv p1, iv p2, iv p3, iv v1, rv aI, rv b107, iv v147, iv v148, .unset]) (hb hby at_88) rfl rfl ?_
      refine ow_aload (q := 92) X140 hx (hb hby at_90) rfl rfl rfl ?_
      obtain ⟨T149, X149, e149, st149⟩ := getS2 X140 hx hZ hown (host := "") (Or.inl (hw _ (List.mem_of_getElem? (i := 1) rfl))) Via.refl e140 F141 (g := (mkF m 92 #[iv p0, iv p1, iv p2, iv p3, iv v1, rv aI, rv b107, iv v147, iv v148, .unset] [(.ref aI)])) rfl (hb hby at_92)
      refine ownGo (T' := T149) (f' := (mkF m 95 #[iv p0, iv p1, iv p2, iv p3, iv v1, rv aI, rv b107, iv v147, iv v148, .unset] [(.ref aU), (.ref aI)])) (st149) ?_
      refine ownGo (T' := T149) (f' := (mkF m 98 #[iv p0, iv p1, iv p2, iv p3, iv v1, rv aI, rv b107, iv v147, iv v148, .unset] [])) (fun _ k => Jvm.RoadKit.acmp (g := (mkF m 95 #[iv p0, iv p1, iv p2, iv p3, iv v1, rv aI, rv b107, iv v147, iv v148, .unset] [(.ref aU), (.ref aI)])) X149 hx rfl rfl rfl (pc0 := 95) (pc' := 98) (same := false) rfl (hb hby at_95) rfl (decide_eq_false fun q => hneI (Value.ref.inj q)) (by decide) (by decide) k) ?_
      refine ow_aload (q := 100) X149 hx (hb hby at_98) rfl rfl rfl ?_
      refine ow_iconst (q := 101) X149 hx (0 : Int32) (hb hby at_100) rfl rfl ?_
      refine ow_iload (q := 103) X149 hx (hb hby at_101) rfl rfl ?_
      refine ow_iload (q := 105) X149 hx (hb hby at_103) rfl rfl ?_
      obtain ⟨_, _, ⟨T150, L150, k150, n150⟩, -, X150, ⟨Lc150, hQ150, l150, y150, z150⟩, st150⟩ := Jvm.LawKit.callS X149 hx (y := (⟨"com/example/descend/descend/EncodingAgreesWithUtf8PinLaw", "asciiOrOutside", "([BIII)Z"⟩ : MethodName)) hown (mvT hZ (hw _ (List.mem_of_getElem? (i := 13) rfl))) (mvT hZ (hw _ (List.mem_of_getElem? (i := 14) rfl))) (mvT hZ (hw _ (List.mem_of_getElem? (i := 15) rfl))) (mvT hZ (hw _ (List.mem_of_getElem? (i := 16) rfl))) (by decide) (backOf (W := 0) (rm_asc_0 l Z av0 hw [] b107 v147 v148 (ownUpd (ownUpd (ownUpd (ownUpd (fun _ => (0 : Int32)) 0 v115) 1 v123) 2 v131) 3 v139) h140 n0 (Nat.le_trans Z0 K140.1) F140r) hZ (hw _ (List.mem_of_getElem? (i := 16) rfl)) (hw _ (List.mem_of_getElem? (i := 15) rfl)) (by decide) (by decide)) (g := (mkF m 105 #[iv p0, iv p1, iv p2, iv p3, iv v1, rv aI, rv b107, iv v147, iv v148, .unset] [(.int v148), (.int v147), (.int (0 : Int32)), (.ref b107)])) rfl (by rw [hml]; rfl) (argsL := [(.ref b107), (.int (0 : Int32)), (.int v147), (.int v148)]) (rest := []) (lenOf own_pd1 rfl) rfl (by show 2 * 0 + _ ≤ _; exact Nat.le_of_eq rfl) (hb hby at_105) (fun _ _ => ⟨rfl, e149, (by decide : 1 + 0 ≤ _), (by decide : 4 + 0 ≤ _)⟩)
      dsimp only [Pt.U, Pt.locs, Pt.cells, Pt.slots] at X150 l150 y150 z150 st150 hQ150
      subst l150 y150 z150
      obtain ⟨rfl, N150q, e150⟩ := hQ150
      have N150 := Fr.app N140 N150q
      refine ownGo (T' := T150) (f' := (mkF m 108 #[iv p0, iv p1, iv p2, iv p3, iv v1, rv aI, rv b107, iv v147, iv v148, .unset] [(.int (own_asc v115 (0 : Int32) v147 v148))])) (st150) ?_
      by_cases hc108_151 : (own_asc v115 (0 : Int32) v147 v148) = (0 : Int32)
      · refine ow_ifYes (q := 154) X150 hx (hb hby at_108) (Jvm.Free.XT.i0_eq_t hc108_151) (by decide) (by decide) ?_
        refine ow_iconst (q := 155) X150 hx (0 : Int32) (hb hby at_154) rfl rfl ?_
        refine ow_istore (q := 157) X150 hx (L' := #[iv p0, iv p1, iv p2, iv p3, iv v1, rv aI, rv b107, iv v147, iv v148, iv (0 : Int32)]) (hb hby at_155) rfl rfl ?_
        refine ow_aload (q := 159) X150 hx (hb hby at_157) rfl rfl rfl ?_
        refine ow_aload (q := 161) X150 hx (hb hby at_159) rfl rfl rfl ?_
        refine ow_iload (q := 163) X150 hx (hb hby at_161) rfl rfl ?_
        refine ow_iload (q := 165) X150 hx (hb hby at_163) rfl rfl ?_
        obtain ⟨cq152, kq152, q152a, q152b, q152c⟩ := isOf hZ e150 F146
        obtain ⟨_, _, ⟨T152, L152, k152, n152⟩, -, X152, ⟨Lc152, hQ152, l152, y152, z152⟩, st152⟩ := X150.virtualBack hx (y := (⟨"com/example/descend/descend/Encoding", "agreesWithUtf8", "([BII)Z"⟩ : MethodName)) (z := (⟨"com/example/descend/descend/Encoding", "agreesWithUtf8", "([BII)Z"⟩ : MethodName)) hown (mvT hZ (hw _ (List.mem_of_getElem? (i := 5) rfl))) (mvT hZ (hw _ (List.mem_of_getElem? (i := 6) rfl))) (notFace_of_selects (args := #[]) (mvT hZ (hw _ (List.mem_of_getElem? (i := 8) rfl)))) (mvT hZ (hw _ (List.mem_of_getElem? (i := 8) rfl))) (mvT hZ (hw _ (List.mem_of_getElem? (i := 7) rfl))) (by decide) (backOf (W := 0) (rm_agr l Z av0 hw [] aI b107 v147 v148 aU (ownUpd (ownUpd (ownUpd (ownUpd (fun _ => (0 : Int32)) 0 v115) 1 v123) 2 v131) 3 v139) h140 n0 (Nat.le_trans Z0 K140.1) F141 F140r hneI (own_five hv_v147) (own_five hv_v148)) hZ (hw _ (List.mem_of_getElem? (i := 9) rfl)) (hw _ (List.mem_of_getElem? (i := 2) rfl)) (by decide) (by decide)) q152a q152c (g := (mkF m 165 #[iv p0, iv p1, iv p2, iv p3, iv v1, rv aI, rv b107, iv v147, iv v148, iv (0 : Int32)] [(.int v148), (.int v147), (.ref b107), (.ref aI)])) rfl (by rw [hml]; rfl) (Steps.refl _) (argsL := [(.ref b107), (.int v147), (.int v148)]) (rest := []) (lenOf own_pd0 rfl) rfl (by show 2 * 0 + _ ≤ _; exact Nat.le_of_eq rfl) (hb hby at_165) (fun _ _ => ⟨rfl, e150, (by decide : 1 + 0 ≤ _), (by decide : 4 + 0 ≤ _)⟩)
        dsimp only [Pt.U, Pt.locs, Pt.cells, Pt.slots] at X152 l152 y152 z152 st152 hQ152
        subst l152 y152 z152
        obtain ⟨rfl, N152q, e152⟩ := hQ152
        have N152 := Fr.app N150 N152q
        refine ownRun (T' := T152) (f' := (mkF m 168 #[iv p0, iv p1, iv p2, iv p3, iv v1, rv aI, rv b107, iv v147, iv v148, iv (0 : Int32)] [(.int (own_agr (ownUpd (ownUpd (ownUpd (ownUpd (fun _ => (0 : Int32)) 0 v115) 1 v123) 2 v131) 3 v139) v147 v148))])) st152 ?_
        refine ow_iload (q := 170) X152 hx (hb hby at_168) rfl rfl ?_
        refine ow_icmpNo (q := 173) X152 hx (hb hby at_170) rfl (Jvm.Free.XT.ii_ne_f (by rw [own_fin (g := (ownUpd (ownUpd (ownUpd (ownUpd (fun _ => (0 : Int32)) 0 v115) 1 v123) 2 v131) 3 v139)) (own_byte hv_v115) (own_byte hv_v123) (own_byte hv_v131) (own_byte hv_v139) rfl rfl rfl rfl]; simp [hc108_151])) ?_
        refine ow_iconst (q := 174) X152 hx (1 : Int32) (hb hby at_173) rfl rfl ?_
        refine ow_goto (q := 178) X152 hx (hb hby at_174) (by decide) (by decide) ?_
        refine ownRetN X152 hx (r := (1 : Int32)) (Or.inl rfl) Bd.returns (hb hby at_178) hlk (by decide) (by decide) (by decide) ?_
        exact ⟨rfl, N152⟩
      · refine ow_ifNo (q := 111) X150 hx (hb hby at_108) rfl (Jvm.Free.XT.i0_eq_f hc108_151) ?_
        refine ow_aload (q := 113) X150 hx (hb hby at_111) rfl rfl rfl ?_
        refine ow_iconst (q := 114) X150 hx (1 : Int32) (hb hby at_113) rfl rfl ?_
        refine ow_iload (q := 116) X150 hx (hb hby at_114) rfl rfl ?_
        refine ow_iload (q := 118) X150 hx (hb hby at_116) rfl rfl ?_
        obtain ⟨_, _, ⟨T153, L153, k153, n153⟩, -, X153, ⟨Lc153, hQ153, l153, y153, z153⟩, st153⟩ := Jvm.LawKit.callS X150 hx (y := (⟨"com/example/descend/descend/EncodingAgreesWithUtf8PinLaw", "asciiOrOutside", "([BIII)Z"⟩ : MethodName)) hown (mvT hZ (hw _ (List.mem_of_getElem? (i := 13) rfl))) (mvT hZ (hw _ (List.mem_of_getElem? (i := 14) rfl))) (mvT hZ (hw _ (List.mem_of_getElem? (i := 15) rfl))) (mvT hZ (hw _ (List.mem_of_getElem? (i := 16) rfl))) (by decide) (backOf (W := 0) (rm_asc_1 l Z av0 hw [] b107 v147 v148 (ownUpd (ownUpd (ownUpd (ownUpd (fun _ => (0 : Int32)) 0 v115) 1 v123) 2 v131) 3 v139) h140 n0 (Nat.le_trans Z0 K140.1) F140r) hZ (hw _ (List.mem_of_getElem? (i := 16) rfl)) (hw _ (List.mem_of_getElem? (i := 15) rfl)) (by decide) (by decide)) (g := (mkF m 118 #[iv p0, iv p1, iv p2, iv p3, iv v1, rv aI, rv b107, iv v147, iv v148, .unset] [(.int v148), (.int v147), (.int (1 : Int32)), (.ref b107)])) rfl (by rw [hml]; rfl) (argsL := [(.ref b107), (.int (1 : Int32)), (.int v147), (.int v148)]) (rest := []) (lenOf own_pd1 rfl) rfl (by show 2 * 0 + _ ≤ _; exact Nat.le_of_eq rfl) (hb hby at_118) (fun _ _ => ⟨rfl, e150, (by decide : 1 + 0 ≤ _), (by decide : 4 + 0 ≤ _)⟩)
        dsimp only [Pt.U, Pt.locs, Pt.cells, Pt.slots] at X153 l153 y153 z153 st153 hQ153
        subst l153 y153 z153
        obtain ⟨rfl, N153q, e153⟩ := hQ153
        have N153 := Fr.app N150 N153q
        refine ownGo (T' := T153) (f' := (mkF m 121 #[iv p0, iv p1, iv p2, iv p3, iv v1, rv aI, rv b107, iv v147, iv v148, .unset] [(.int (own_asc v123 (1 : Int32) v147 v148))])) (st153) ?_
        by_cases hc121_154 : (own_asc v123 (1 : Int32) v147 v148) = (0 : Int32)
        · refine ow_ifYes (q := 154) X153 hx (hb hby at_121) (Jvm.Free.XT.i0_eq_t hc121_154) (by decide) (by decide) ?_
          refine ow_iconst (q := 155) X153 hx (0 : Int32) (hb hby at_154) rfl rfl ?_
          refine ow_istore (q := 157) X153 hx (L' := #[iv p0, iv p1, iv p2, iv p3, iv v1, rv aI, rv b107, iv v147, iv v148, iv (0 : Int32)]) (hb hby at_155) rfl rfl ?_
          refine ow_aload (q := 159) X153 hx (hb hby at_157) rfl rfl rfl ?_
          refine ow_aload (q := 161) X153 hx (hb hby at_159) rfl rfl rfl ?_
          refine ow_iload (q := 163) X153 hx (hb hby at_161) rfl rfl ?_
          refine ow_iload (q := 165) X153 hx (hb hby at_163) rfl rfl ?_
          obtain ⟨cq155, kq155, q155a, q155b, q155c⟩ := isOf hZ e153 F146
          obtain ⟨_, _, ⟨T155, L155, k155, n155⟩, -, X155, ⟨Lc155, hQ155, l155, y155, z155⟩, st155⟩ := X153.virtualBack hx (y := (⟨"com/example/descend/descend/Encoding", "agreesWithUtf8", "([BII)Z"⟩ : MethodName)) (z := (⟨"com/example/descend/descend/Encoding", "agreesWithUtf8", "([BII)Z"⟩ : MethodName)) hown (mvT hZ (hw _ (List.mem_of_getElem? (i := 5) rfl))) (mvT hZ (hw _ (List.mem_of_getElem? (i := 6) rfl))) (notFace_of_selects (args := #[]) (mvT hZ (hw _ (List.mem_of_getElem? (i := 8) rfl)))) (mvT hZ (hw _ (List.mem_of_getElem? (i := 8) rfl))) (mvT hZ (hw _ (List.mem_of_getElem? (i := 7) rfl))) (by decide) (backOf (W := 0) (rm_agr l Z av0 hw [] aI b107 v147 v148 aU (ownUpd (ownUpd (ownUpd (ownUpd (fun _ => (0 : Int32)) 0 v115) 1 v123) 2 v131) 3 v139) h140 n0 (Nat.le_trans Z0 K140.1) F141 F140r hneI (own_five hv_v147) (own_five hv_v148)) hZ (hw _ (List.mem_of_getElem? (i := 9) rfl)) (hw _ (List.mem_of_getElem? (i := 2) rfl)) (by decide) (by decide)) q155a q155c (g := (mkF m 165 #[iv p0, iv p1, iv p2, iv p3, iv v1, rv aI, rv b107, iv v147, iv v148, iv (0 : Int32)] [(.int v148), (.int v147), (.ref b107), (.ref aI)])) rfl (by rw [hml]; rfl) (Steps.refl _) (argsL := [(.ref b107), (.int v147), (.int v148)]) (rest := []) (lenOf own_pd0 rfl) rfl (by show 2 * 0 + _ ≤ _; exact Nat.le_of_eq rfl) (hb hby at_165) (fun _ _ => ⟨rfl, e153, (by decide : 1 + 0 ≤ _), (by decide : 4 + 0 ≤ _)⟩)
          dsimp only [Pt.U, Pt.locs, Pt.cells, Pt.slots] at X155 l155 y155 z155 st155 hQ155
          subst l155 y155 z155
          obtain ⟨rfl, N155q, e155⟩ := hQ155
          have N155 := Fr.app N153 N155q
          refine ownRun (T' := T155) (f' := (mkF m 168 #[iv p0, iv p1, iv p2, iv p3, iv v1, rv aI, rv b107, iv v147, iv v148, iv (0 : Int32)] [(.int (own_agr (ownUpd (ownUpd (ownUpd (ownUpd (fun _ => (0 : Int32)) 0 v115) 1 v123) 2 v131) 3 v139) v147 v148))])) st155 ?_
          refine ow_iload (q := 170) X155 hx (hb hby at_168) rfl rfl ?_
          refine ow_icmpNo (q := 173) X155 hx (hb hby at_170) rfl (Jvm.Free.XT.ii_ne_f (by rw [own_fin (g := (ownUpd (ownUpd (ownUpd (ownUpd (fun _ => (0 : Int32)) 0 v115) 1 v123) 2 v131) 3 v139)) (own_byte hv_v115) (own_byte hv_v123) (own_byte hv_v131) (own_byte hv_v139) rfl rfl rfl rfl]; simp [hc108_151, hc121_154])) ?_
          refine ow_iconst (q := 174) X155 hx (1 : Int32) (hb hby at_173) rfl rfl ?_
          refine ow_goto (q := 178) X155 hx (hb hby at_174) (by decide) (by decide) ?_
          refine ownRetN X155 hx (r := (1 : Int32)) (Or.inl rfl) Bd.returns (hb hby at_178) hlk (by decide) (by decide) (by decide) ?_
          exact ⟨rfl, N155⟩
        · refine ow_ifNo (q := 124) X153 hx (hb hby at_121) rfl (Jvm.Free.XT.i0_eq_f hc121_154) ?_
          refine ow_aload (q := 126) X153 hx (hb hby at_124) rfl rfl rfl ?_
          refine ow_iconst (q := 127) X153 hx (2 : Int32) (hb hby at_126) rfl rfl ?_
          refine ow_iload (q := 129) X153 hx (hb hby at_127) rfl rfl ?_
          refine ow_iload (q := 131) X153 hx (hb hby at_129) rfl rfl ?_
          obtain ⟨_, _, ⟨T156, L156, k156, n156⟩, -, X156, ⟨Lc156, hQ156, l156, y156, z156⟩, st156⟩ := Jvm.LawKit.callS X153 hx (y := (⟨"com/example/descend/descend/EncodingAgreesWithUtf8PinLaw", "asciiOrOutside", "([BIII)Z"⟩ : MethodName)) hown (mvT hZ (hw _ (List.mem_of_getElem? (i := 13) rfl))) (mvT hZ (hw _ (List.mem_of_getElem? (i := 14) rfl))) (mvT hZ (hw _ (List.mem_of_getElem? (i := 15) rfl))) (mvT hZ (hw _ (List.mem_of_getElem? (i := 16) rfl))) (by decide) (backOf (W := 0) (rm_asc_2 l Z av0 hw [] b107 v147 v148 (ownUpd (ownUpd (ownUpd (ownUpd (fun _ => (0 : Int32)) 0 v115) 1 v123) 2 v131) 3 v139) h140 n0 (Nat.le_trans Z0 K140.1) F140r) hZ (hw _ (List.mem_of_getElem? (i := 16) rfl)) (hw _ (List.mem_of_getElem? (i := 15) rfl)) (by decide) (by decide)) (g := (mkF m 131 #[iv p0, iv p1, iv p2, iv p3, iv v1, rv aI, rv b107, iv v147, iv v148, .unset] [(.int v148), (.int v147), (.int (2 : Int32)), (.ref b107)])) rfl (by rw [hml]; rfl) (argsL := [(.ref b107), (.int (2 : Int32)), (.int v147), (.int v148)]) (rest := []) (lenOf own_pd1 rfl) rfl (by show 2 * 0 + _ ≤ _; exact Nat.le_of_eq rfl) (hb hby at_131) (fun _ _ => ⟨rfl, e153, (by decide : 1 + 0 ≤ _), (by decide : 4 + 0 ≤ _)⟩)
          dsimp only [Pt.U, Pt.locs, Pt.cells, Pt.slots] at X156 l156 y156 z156 st156 hQ156
          subst l156 y156 z156
          obtain ⟨rfl, N156q, e156⟩ := hQ156
          have N156 := Fr.app N153 N156q
          refine ownGo (T' := T156) (f' := (mkF m 134 #[iv p0, iv p1, iv p2, iv p3, iv v1, rv aI, rv b107, iv v147, iv v148, .unset] [(.int (own_asc v131 (2 : Int32) v147 v148))])) (st156) ?_
          by_cases hc134_157 : (own_asc v131 (2 : Int32) v147 v148) = (0 : Int32)
          · refine ow_ifYes (q := 154) X156 hx (hb hby at_134) (Jvm.Free.XT.i0_eq_t hc134_157) (by decide) (by decide) ?_
            refine ow_iconst (q := 155) X156 hx (0 : Int32) (hb hby at_154) rfl rfl ?_
            refine ow_istore (q := 157) X156 hx (L' := #[iv p0, iv p1, iv p2, iv p3, iv v1, rv aI, rv b107, iv v147, iv v148, iv (0 : Int32)]) (hb hby at_155) rfl rfl ?_
            refine ow_aload (q := 159) X156 hx (hb hby at_157) rfl rfl rfl ?_
            refine ow_aload (q := 161) X156 hx (hb hby at_159) rfl rfl rfl ?_
            refine ow_iload (q := 163) X156 hx (hb hby at_161) rfl rfl ?_
            refine ow_iload (q := 165) X156 hx (hb hby at_163) rfl rfl ?_
            obtain ⟨cq158, kq158, q158a, q158b, q158c⟩ := isOf hZ e156 F146
            obtain ⟨_, _, ⟨T158, L158, k158, n158⟩, -, X158, ⟨Lc158, hQ158, l158, y158, z158⟩, st158⟩ := X156.virtualBack hx (y := (⟨"com/example/descend/descend/Encoding", "agreesWithUtf8", "([BII)Z"⟩ : MethodName)) (z := (⟨"com/example/descend/descend/Encoding", "agreesWithUtf8", "([BII)Z"⟩ : MethodName)) hown (mvT hZ (hw _ (List.mem_of_getElem? (i := 5) rfl))) (mvT hZ (hw _ (List.mem_of_getElem? (i := 6) rfl))) (notFace_of_selects (args := #[]) (mvT hZ (hw _ (List.mem_of_getElem? (i := 8) rfl)))) (mvT hZ (hw _ (List.mem_of_getElem? (i := 8) rfl))) (mvT hZ (hw _ (List.mem_of_getElem? (i := 7) rfl))) (by decide) (backOf (W := 0) (rm_agr l Z av0 hw [] aI b107 v147 v148 aU (ownUpd (ownUpd (ownUpd (ownUpd (fun _ => (0 : Int32)) 0 v115) 1 v123) 2 v131) 3 v139) h140 n0 (Nat.le_trans Z0 K140.1) F141 F140r hneI (own_five hv_v147) (own_five hv_v148)) hZ (hw _ (List.mem_of_getElem? (i := 9) rfl)) (hw _ (List.mem_of_getElem? (i := 2) rfl)) (by decide) (by decide)) q158a q158c (g := (mkF m 165 #[iv p0, iv p1, iv p2, iv p3, iv v1, rv aI, rv b107, iv v147, iv v148, iv (0 : Int32)] [(.int v148), (.int v147), (.ref b107), (.ref aI)])) rfl (by rw [hml]; rfl) (Steps.refl _) (argsL := [(.ref b107), (.int v147), (.int v148)]) (rest := []) (lenOf own_pd0 rfl) rfl (by show 2 * 0 + _ ≤ _; exact Nat.le_of_eq rfl) (hb hby at_165) (fun _ _ => ⟨rfl, e156, (by decide : 1 + 0 ≤ _), (by decide : 4 + 0 ≤ _)⟩)
            dsimp only [Pt.U, Pt.locs, Pt.cells, Pt.slots] at X158 l158 y158 z158 st158 hQ158
            subst l158 y158 z158
            obtain ⟨rfl, N158q, e158⟩ := hQ158
            have N158 := Fr.app N156 N158q
            refine ownRun (T' := T158) (f' := (mkF m 168 #[iv p0, iv p1, iv p2, iv p3, iv v1, rv aI, rv b107, iv v147, iv v148, iv (0 : Int32)] [(.int (own_agr (ownUpd (ownUpd (ownUpd (ownUpd (fun _ => (0 : Int32)) 0 v115) 1 v123) 2 v131) 3 v139) v147 v148))])) st158 ?_
            refine ow_iload (q := 170) X158 hx (hb hby at_168) rfl rfl ?_
            refine ow_icmpNo (q := 173) X158 hx (hb hby at_170) rfl (Jvm.Free.XT.ii_ne_f (by rw [own_fin (g := (ownUpd (ownUpd (ownUpd (ownUpd (fun _ => (0 : Int32)) 0 v115) 1 v123) 2 v131) 3 v139)) (own_byte hv_v115) (own_byte hv_v123) (own_byte hv_v131) (own_byte hv_v139) rfl rfl rfl rfl]; simp [hc108_151, hc121_154, hc134_157])) ?_
            refine ow_iconst (q := 174) X158 hx (1 : Int32) (hb hby at_173) rfl rfl ?_
            refine ow_goto (q := 178) X158 hx (hb hby at_174) (by decide) (by decide) ?_
            refine ownRetN X158 hx (r := (1 : Int32)) (Or.inl rfl) Bd.returns (hb hby at_178) hlk (by decide) (by decide) (by decide) ?_
            exact ⟨rfl, N158⟩
          · refine ow_ifNo (q := 137) X156 hx (hb hby at_134) rfl (Jvm.Free.XT.i0_eq_f hc134_157) ?_
            refine ow_aload (q := 139) X156 hx (hb hby at_137) rfl rfl rfl ?_
            refine ow_iconst (q := 140) X156 hx (3 : Int32) (hb hby at_139) rfl rfl ?_
            refine ow_iload (q := 142) X156 hx (hb hby at_140) rfl rfl ?_
            refine ow_iload (q := 144) X156 hx (hb hby at_142) rfl rfl ?_
            obtain ⟨_, _, ⟨T159, L159, k159, n159⟩, -, X159, ⟨Lc159, hQ159, l159, y159, z159⟩, st159⟩ := Jvm.LawKit.callS X156 hx (y := (⟨"com/example/descend/descend/EncodingAgreesWithUtf8PinLaw", "asciiOrOutside", "([BIII)Z"⟩ : MethodName)) hown (mvT hZ (hw _ (List.mem_of_getElem? (i := 13) rfl))) (mvT hZ (hw _ (List.mem_of_getElem? (i := 14) rfl))) (mvT hZ (hw _ (List.mem_of_getElem? (i := 15) rfl))) (mvT hZ (hw _ (List.mem_of_getElem? (i := 16) rfl))) (by decide) (backOf (W := 0) (rm_asc_3 l Z av0 hw [] b107 v147 v148 (ownUpd (ownUpd (ownUpd (ownUpd (fun _ => (0 : Int32)) 0 v115) 1 v123) 2 v131) 3 v139) h140 n0 (Nat.le_trans Z0 K140.1) F140r) hZ (hw _ (List.mem_of_getElem? (i := 16) rfl)) (hw _ (List.mem_of_getElem? (i := 15) rfl)) (by decide) (by decide)) (g := (mkF m 144 #[iv p0, iv p1, iv p2, iv p3, iv v1, rv aI, rv b107, iv v147, iv v148, .unset] [(.int v148), (.int v147), (.int (3 : Int32)), (.ref b107)])) rfl (by rw [hml]; rfl) (argsL := [(.ref b107), (.int (3 : Int32)), (.int v147), (.int v148)]) (rest := []) (lenOf own_pd1 rfl) rfl (by show 2 * 0 + _ ≤ _; exact Nat.le_of_eq rfl) (hb hby at_144) (fun _ _ => ⟨rfl, e156, (by decide : 1 + 0 ≤ _), (by decide : 4 + 0 ≤ _)⟩)
            dsimp only [Pt.U, Pt.locs, Pt.cells, Pt.slots] at X159 l159 y159 z159 st159 hQ159
            subst l159 y159 z159
            obtain ⟨rfl, N159q, e159⟩ := hQ159
            have N159 := Fr.app N156 N159q
            refine ownGo (T' := T159) (f' := (mkF m 147 #[iv p0, iv p1, iv p2, iv p3, iv v1, rv aI, rv b107, iv v147, iv v148, .unset] [(.int (own_asc v139 (3 : Int32) v147 v148))])) (st159) ?_
            by_cases hc147_160 : (own_asc v139 (3 : Int32) v147 v148) = (0 : Int32)
            · refine ow_ifYes (q := 154) X159 hx (hb hby at_147) (Jvm.Free.XT.i0_eq_t hc147_160) (by decide) (by decide) ?_
              refine ow_iconst (q := 155) X159 hx (0 : Int32) (hb hby at_154) rfl rfl ?_
              refine ow_istore (q := 157) X159 hx (L' := #[iv p0, iv p1, iv p2, iv p3, iv v1, rv aI, rv b107, iv v147, iv v148, iv (0 : Int32)]) (hb hby at_155) rfl rfl ?_
              refine ow_aload (q := 159) X159 hx (hb hby at_157) rfl rfl rfl ?_
              refine ow_aload (q := 161) X159 hx (hb hby at_159) rfl rfl rfl ?_
              refine ow_iload (q := 163) X159 hx (hb hby at_161) rfl rfl ?_
              refine ow_iload (q := 165) X159 hx (hb hby at_163) rfl rfl ?_
              obtain ⟨cq161, kq161, q161a, q161b, q161c⟩ := isOf hZ e159 F146
              obtain ⟨_, _, ⟨T161, L161, k161, n161⟩, -, X161, ⟨Lc161, hQ161, l161, y161, z161⟩, st161⟩ := X159.virtualBack hx (y := (⟨"com/example/descend/descend/Encoding", "agreesWithUtf8", "([BII)Z"⟩ : MethodName)) (z := (⟨"com/example/descend/descend/Encoding", "agreesWithUtf8", "([BII)Z"⟩ : MethodName)) hown (mvT hZ (hw _ (List.mem_of_getElem? (i := 5) rfl))) (mvT hZ (hw _ (List.mem_of_getElem? (i := 6) rfl))) (notFace_of_selects (args := #[]) (mvT hZ (hw _ (List.mem_of_getElem? (i := 8) rfl)))) (mvT hZ (hw _ (List.mem_of_getElem? (i := 8) rfl))) (mvT hZ (hw _ (List.mem_of_getElem? (i := 7) rfl))) (by decide) (backOf (W := 0) (rm_agr l Z av0 hw [] aI b107 v147 v148 aU (ownUpd (ownUpd (ownUpd (ownUpd (fun _ => (0 : Int32)) 0 v115) 1 v123) 2 v131) 3 v139) h140 n0 (Nat.le_trans Z0 K140.1) F141 F140r hneI (own_five hv_v147) (own_five hv_v148)) hZ (hw _ (List.mem_of_getElem? (i := 9) rfl)) (hw _ (List.mem_of_getElem? (i := 2) rfl)) (by decide) (by decide)) q161a q161c (g := (mkF m 165 #[iv p0, iv p1, iv p2, iv p3, iv v1, rv aI, rv b107, iv v147, iv v148, iv (0 : Int32)] [(.int v148), (.int v147), (.ref b107), (.ref aI)])) rfl (by rw [hml]; rfl) (Steps.refl _) (argsL := [(.ref b107), (.int v147), (.int v148)]) (rest := []) (lenOf own_pd0 rfl) rfl (by show 2 * 0 + _ ≤ _; exact Nat.le_of_eq rfl) (hb hby at_165) (fun _ _ => ⟨rfl, e159, (by decide : 1 + 0 ≤ _), (by decide : 4 + 0 ≤ _)⟩)
              dsimp only [Pt.U, Pt.locs, Pt.cells, Pt.slots] at X161 l161 y161 z161 st161 hQ161
              subst l161 y161 z161
              obtain ⟨rfl, N161q, e161⟩ := hQ161
              have N161 := Fr.app N159 N161q
              refine ownRun (T' := T161) (f' := (mkF m 168 #[iv p0, iv p1, iv p2, iv p3, iv v1, rv aI, rv b107, iv v147, iv v148, iv (0 : Int32)] [(.int (own_agr (ownUpd (ownUpd (ownUpd (ownUpd (fun _ => (0 : Int32)) 0 v115) 1 v123) 2 v131) 3 v139) v147 v148))])) st161 ?_
              refine ow_iload (q := 170) X161 hx (hb hby at_168) rfl rfl ?_
              refine ow_icmpNo (q := 173) X161 hx (hb hby at_170) rfl (Jvm.Free.XT.ii_ne_f (by rw [own_fin (g := (ownUpd (ownUpd (ownUpd (ownUpd (fun _ => (0 : Int32)) 0 v115) 1 v123) 2 v131) 3 v139)) (own_byte hv_v115) (own_byte hv_v123) (own_byte hv_v131) (own_byte hv_v139) rfl rfl rfl rfl]; simp [hc108_151, hc121_154, hc134_157, hc147_160])) ?_
              refine ow_iconst (q := 174) X161 hx (1 : Int32) (hb hby at_173) rfl rfl ?_
              refine ow_goto (q := 178) X161 hx (hb hby at_174) (by decide) (by decide) ?_
              refine ownRetN X161 hx (r := (1 : Int32)) (Or.inl rfl) Bd.returns (hb hby at_178) hlk (by decide) (by decide) (by decide) ?_
              exact ⟨rfl, N161⟩
            · refine ow_ifNo (q := 150) X159 hx (hb hby at_147) rfl (Jvm.Free.XT.i0_eq_f hc147_160) ?_
              refine ow_iconst (q := 151) X159 hx (1 : Int32) (hb hby at_150) rfl rfl ?_
              refine ow_goto (q := 155) X159 hx (hb hby at_151) (by decide) (by decide) ?_
              refine ow_istore (q := 157) X159 hx (L' := #[iv p0, iv p1, iv p2, iv p3, iv v1, rv aI, rv b107, iv v147, iv v148, iv (1 : Int32)]) (hb hby at_155) rfl rfl ?_
              refine ow_aload (q := 159) X159 hx (hb hby at_157) rfl rfl rfl ?_
              refine ow_aload (q := 161) X159 hx (hb hby at_159) rfl rfl rfl ?_
              refine ow_iload (q := 163) X159 hx (hb hby at_161) rfl rfl ?_
              refine ow_iload (q := 165) X159 hx (hb hby at_163) rfl rfl ?_
              obtain ⟨cq162, kq162, q162a, q162b, q162c⟩ := isOf hZ e159 F146
              obtain ⟨_, _, ⟨T162, L162, k162, n162⟩, -, X162, ⟨Lc162, hQ162, l162, y162, z162⟩, st162⟩ := X159.virtualBack hx (y := (⟨"com/example/descend/descend/Encoding", "agreesWithUtf8", "([BII)Z"⟩ : MethodName)) (z := (⟨"com/example/descend/descend/Encoding", "agreesWithUtf8", "([BII)Z"⟩ : MethodName)) hown (mvT hZ (hw _ (List.mem_of_getElem? (i := 5) rfl))) (mvT hZ (hw _ (List.mem_of_getElem? (i := 6) rfl))) (notFace_of_selects (args := #[]) (mvT hZ (hw _ (List.mem_of_getElem? (i := 8) rfl)))) (mvT hZ (hw _ (List.mem_of_getElem? (i := 8) rfl))) (mvT hZ (hw _ (List.mem_of_getElem? (i := 7) rfl))) (by decide) (backOf (W := 0) (rm_agr l Z av0 hw [] aI b107 v147 v148 aU (ownUpd (ownUpd (ownUpd (ownUpd (fun _ => (0 : Int32)) 0 v115) 1 v123) 2 v131) 3 v139) h140 n0 (Nat.le_trans Z0 K140.1) F141 F140r hneI (own_five hv_v147) (own_five hv_v148)) hZ (hw _ (List.mem_of_getElem? (i := 9) rfl)) (hw _ (List.mem_of_getElem? (i := 2) rfl)) (by decide) (by decide)) q162a q162c (g := (mkF m 165 #[iv p0, iv p1, iv p2, iv p3, iv v1, rv aI, rv b107, iv v147, iv v148, iv (1 : Int32)] [(.int v148), (.int v147), (.ref b107), (.ref aI)])) rfl (by rw [hml]; rfl) (Steps.refl _) (argsL := [(.ref b107), (.int v147), (.int v148)]) (rest := []) (lenOf own_pd0 rfl) rfl (by show 2 * 0 + _ ≤ _; exact Nat.le_of_eq rfl) (hb hby at_165) (fun _ _ => ⟨rfl, e159, (by decide : 1 + 0 ≤ _), (by decide : 4 + 0 ≤ _)⟩)
              dsimp only [Pt.U, Pt.locs, Pt.cells, Pt.slots] at X162 l162 y162 z162 st162 hQ162
              subst l162 y162 z162
              obtain ⟨rfl, N162q, e162⟩ := hQ162
              have N162 := Fr.app N159 N162q
              refine ownRun (T' := T162) (f' := (mkF m 168 #[iv p0, iv p1, iv p2, iv p3, iv v1, rv aI, rv b107, iv v147, iv v148, iv (1 : Int32)] [(.int (own_agr (ownUpd (ownUpd (ownUpd (ownUpd (fun _ => (0 : Int32)) 0 v115) 1 v123) 2 v131) 3 v139) v147 v148))])) st162 ?_
              refine ow_iload (q := 170) X162 hx (hb hby at_168) rfl rfl ?_
              refine ow_icmpNo (q := 173) X162 hx (hb hby at_170) rfl (Jvm.Free.XT.ii_ne_f (by rw [own_fin (g := (ownUpd (ownUpd (ownUpd (ownUpd (fun _ => (0 : Int32)) 0 v115) 1 v123) 2 v131) 3 v139)) (own_byte hv_v115) (own_byte hv_v123) (own_byte hv_v131) (own_byte hv_v139) rfl rfl rfl rfl]; simp [hc108_151, hc121_154, hc134_157, hc147_160])) ?_
              refine ow_iconst (q := 174) X162 hx (1 : Int32) (hb hby at_173) rfl rfl ?_
              refine ow_goto (q := 178) X162 hx (hb hby at_174) (by decide) (by decide) ?_
              refine ownRetN X162 hx (r := (1 : Int32)) (Or.inl rfl) Bd.returns (hb hby at_178) hlk (by decide) (by decide) (by decide) ?_
              exact ⟨rfl, N162⟩
set_option maxRecDepth 65536 in
set_option maxHeartbeats 40000000 in
theorem comes_1 {Post : Tables → Env → Array Value → State → Outcome → State → Prop} (hpost : ∀ tb e args s v u, (limb_1_1.after args s (.returned v) u = true ∧ limb_1_2.after args s (.returned v) u = true ∧ True) → FrameEnd s (.returned v) u (Jvm.fieldLocs frame_1_writes args s ++ Jvm.arrayLocs frame_1_arrays args s ++ Jvm.staticLocs frame_1_statics s) 16 128 → Post tb e args s (.returned v) u) :
    ArmFor flags0 classFile x code maxLocals ret World_1 tables_1 room_1 Calls_1 rest_1 Pre_1 Post := by
  intro l hfl _ _ p e ha hc hk s m args below hf hA hF happ hP
  obtain ⟨hcalls, hrest, hpre⟩ := hP
  obtain ⟨-, -, -, hnamed, -, -, -, hat⟩ := (Spec.applies_iff hf).mp happ
  obtain ⟨hg, hn⟩ := and_e (Cond.before_iff.mp (show (Jvm.Cond.and given_1 narrow_1).before args s = true from hpre))
  obtain ⟨gg1, gg2⟩ := and_e hg
  obtain ⟨gg3, gg4⟩ := and_e gg2
  obtain ⟨gg5, gg6⟩ := and_e gg4
  obtain ⟨gg7, gg8⟩ := and_e gg6
  obtain ⟨w0, w1, w2, w3, rfl⟩ : ∃ w0 w1 w2 w3 : Value, args = #[w0, w1, w2, w3] := by
    have hs : args.size = 4 := by simpa [Cond.value, given_1] using gg1
    obtain ⟨L⟩ := args
    match L, hs with
    | [w0, w1, w2, w3], _ => exact ⟨w0, w1, w2, w3, rfl⟩
  have hw := fun d (hd : d ∈ tables_1) => atoms_spec (ws := Jvm.Cond.code x code maxLocals ret :: tables_1) hat d (List.mem_cons_of_mem _ hd)
  have hfit : Fit s := fun {y c} hc i hi => by
    obtain ⟨ha, rfl⟩ := Array.getElem?_eq_some_iff.mp hc
    have q := List.all_eq_true.mp ((Array.all_eq_true_iff_forall_mem.mp hF) _ (Array.getElem_mem ha)) i (List.mem_range.mpr hi)
    simpa [Array.getElem?_eq_getElem hi] using q
  obtain ⟨i0, ei0⟩ := is_v gg3
  obtain rfl : w0 = (.int i0) := Option.some.inj ei0
  obtain ⟨i1, ei1⟩ := is_v gg5
  obtain rfl : w1 = (.int i1) := Option.some.inj ei1
  obtain ⟨i2, ei2⟩ := is_v gg7
  obtain rfl : w2 = (.int i2) := Option.some.inj ei2
  obtain ⟨i3, ei3⟩ := is_v gg8
  obtain rfl : w3 = (.int i3) := Option.some.inj ei3
  obtain ⟨nn1, nn2⟩ := and_e hn
  obtain ⟨x_UTF_8, ev_UTF_8⟩ := exa_v nn1
  have E_UTF_8 := Exa.start ev_UTF_8 nn1
  have S_UTF_8 := Sta.start ev_UTF_8 (Or.inr ⟨(hw _ (List.mem_of_getElem? (i := 2) rfl)), (hw _ (List.mem_of_getElem? (i := 3) rfl))⟩)
  obtain ⟨nn3, nn4⟩ := and_e nn2
  obtain ⟨x_US_ASCII, ev_US_ASCII⟩ := exa_v nn3
  have E_US_ASCII := Exa.start ev_US_ASCII nn3
  have S_US_ASCII := Sta.start ev_US_ASCII (Or.inr ⟨(hw _ (List.mem_of_getElem? (i := 2) rfl)), (hw _ (List.mem_of_getElem? (i := 12) rfl))⟩)
  obtain ⟨nn5, nn6⟩ := and_e nn4
  have F_US_ASCII_ordinal := own_fldInt nn5 ev_US_ASCII
  obtain ⟨nn7, nn8⟩ := and_e nn6
  have F_UTF_8_ordinal := own_fldInt nn7 ev_UTF_8
  obtain ⟨nn9, nn10⟩ := and_e nn8
  obtain ⟨x_ISO_8859_1, ev_ISO_8859_1⟩ := exa_v nn9
  have E_ISO_8859_1 := Exa.start ev_ISO_8859_1 nn9
  have S_ISO_8859_1 := Sta.start ev_ISO_8859_1 (Or.inr ⟨(hw _ (List.mem_of_getElem? (i := 2) rfl)), (hw _ (List.mem_of_getElem? (i := 18) rfl))⟩)
  have F_ISO_8859_1_ordinal := own_fldInt nn10 ev_ISO_8859_1
  obtain ⟨n, o, h1, h2, h3, _, L, rfl, ⟨rfl, N⟩, hq⟩ := rm_law l s _ hw tables_1 i0 i1 i2 i3 x_UTF_8 x_US_ASCII x_ISO_8859_1 s.heap s.heap.size (Nat.le_refl _) S_UTF_8 S_US_ASCII S_ISO_8859_1 E_UTF_8 E_US_ASCII E_ISO_8859_1 (F_US_ASCII_ordinal.ne F_UTF_8_ordinal (by decide)) (F_ISO_8859_1_ordinal.ne F_UTF_8_ordinal (by decide)) p e ha hc hk s m _ below hf ((Spec.applies_iff_loose hf).mp happ).1 ⟨rfl, State.Warmed39.refl s, rfl⟩ trivial
  refine ⟨n, _, h1, h2, h3, hpost _ _ _ _ _ _ ⟨Cond.after_iff.mpr rfl, Cond.after_iff.mpr (eq_i res_at (Term.int_eval (1)) rfl), trivial⟩ ⟨hq.1, hq.2.1, (hq.2.2.sift fun y hy => Or.inr (N y hy)).mono (by decide) (by decide)⟩⟩
theorem main_1_1 : Claimed_1_1 := comes_1 fun _ _ _ _ _ _ h hF => ⟨h.1, hF⟩
theorem main_1_2 : Claimed_1_2 := comes_1 fun _ _ _ _ _ _ h hF => ⟨h.2.1, hF⟩
end Jvm.Pilot.@@N@@
namespace Jvm.Pilot.@@N@@
open Jvm Jvm.ClassFile Sem Op Lib Jvm.Free Jvm.Stand Jvm.Pilot.@@N@@.Jvm.D
/-! MADE BY PROGRAM (witnessworld.py) out of the Statement's table words and the real class files: 12 classes; the members and pool entries that the words name. The judged class is class 1, her method 1. -/
namespace start1
open Jvm.ClassFile
def u (s : String) : CpInfo := .utf8 (stringToUtf16 s)
/-- a pool by its gaps: so many unusable entries, then the entry; so many at the end -/
def gap : Nat → List CpInfo → List CpInfo
  | 0, r => r
  | n + 1, r => .unusable :: gap n r
def poolList (es : List (Nat × CpInfo)) (last : Nat) : List CpInfo := es.foldr (fun e r => gap e.1 (e.2 :: r)) (gap last [])
def pool (es : List (Nat × CpInfo)) (last : Nat) : Array CpInfo := ⟨poolList es last⟩
def fileOf (pool : Array CpInfo) (this : Nat) (attrs : Array Attribute := #[]) (ms : Array MethodInfo := #[]) (fl : Nat := 33) (sup : Nat := 0) (ifs : Array Nat := #[]) (fds : Array FieldInfo := #[]) : ClassFile where
  minorVersion := 0
  majorVersion := 65
  constantPool := pool
  accessFlags := fl
  thisClass := this
  superClass := sup
  interfaces := ifs
  fields := fds
  methods := ms
  attributes := attrs
def plain (name : String) (sup : Option ClassId) : Class where
  name := name
  kind := .ordinary
  loader := none
  accessFlags := 33
  super := sup
  interfaces := #[]
  cf := none
  fields := #[]
  methods := #[]
  instanceTypes := #[]
  staticTypes := #[]
  resolved := #[]
  callSites := []
  init := .initialized
  statics := none
  mirror := none

def pool0 : Array CpInfo := pool [(5, u "<init>"), (0, u "()V"), (1, .class_ 10), (1, u "java/lang/Object")] 113

def k0m0 : Method := { name := "<init>", desc := "()V", sig := { parameters := [], returnType := none }, accessFlags := 1, code := none }
/-- java/lang/Object -/
def k0 : Class := { plain "java/lang/Object" none with
  accessFlags := 33
  interfaces := #[]
  cf := some (fileOf pool0 8 #[] #[{ accessFlags := 1, nameIndex := 5, descriptorIndex := 6, attributes := #[] }] 33 0 #[] #[])
  fields := #[]
  methods := #[k0m0]
  instanceTypes := #[]
  staticTypes := #[]
  resolved := Array.replicate 124 none
  statics := none }

def pool1 : Array CpInfo := pool [(2, .class_ 4), (1, u "java/lang/Object"), (0, u "<init>"), (0, u "()V"), (0, .integer 2147483647), (0, .fieldref 9 10), (0, .class_ 11), (0, .nameAndType 12 13), (0, u "com/example/descend/descend/Encoding"), (0, u "UTF_8"), (0, u "Lcom/example/descend/descend/Encoding;"), (0, .fieldref 9 15), (0, .nameAndType 16 13), (0, u "US_ASCII"), (0, .fieldref 9 18), (0, .nameAndType 19 13), (0, u "ISO_8859_1"), (0, .methodref 21 22), (0, .class_ 23), (0, .nameAndType 24 25), (0, u "com/example/descend/descend/EncodingAgreesWithUtf8PinLaw"), (0, u "asciiOrOutside"), (0, u "([BIII)Z"), (0, .methodref 9 27), (0, .nameAndType 28 29), (0, u "agreesWithUtf8"), (0, u "([BII)Z"), (2, u "law"), (0, u "(IIII)Z")] 5

def k1m0 : Method := { name := "<init>", desc := "()V", sig := { parameters := [], returnType := none }, accessFlags := 1, code := none }
def k1c1 : Code := { maxStack := 4, maxLocals := 10, code := code, exceptionTable := #[], attributes := #[] }
def k1m1 : Method := { name := "law", desc := "(IIII)Z", sig := { parameters := [.int, .int, .int, .int], returnType := some .boolean }, accessFlags := 9, code := some k1c1 }
def k1c2 : Code := { maxStack := 2, maxLocals := 5, code := method_3_code, exceptionTable := #[], attributes := #[] }
def k1m2 : Method := { name := "asciiOrOutside", desc := "([BIII)Z", sig := { parameters := [(.array .byte), .int, .int, .int], returnType := some .boolean }, accessFlags := 10, code := some k1c2 }
/-- com/example/descend/descend/EncodingAgreesWithUtf8PinLaw -/
def k1 : Class := { plain "com/example/descend/descend/EncodingAgreesWithUtf8PinLaw" (some 0) with
  accessFlags := 49
  interfaces := #[]
  cf := some (fileOf pool1 21 #[] #[{ accessFlags := 1, nameIndex := 5, descriptorIndex := 6, attributes := #[] }, { accessFlags := 9, nameIndex := 32, descriptorIndex := 33, attributes := #[] }, { accessFlags := 10, nameIndex := 24, descriptorIndex := 25, attributes := #[] }] 49 2 #[] #[])
  fields := #[]
  methods := #[k1m0, k1m1, k1m2]
  instanceTypes := #[]
  staticTypes := #[]
  resolved := Array.replicate 39 none
  statics := none }

def pool2 : Array CpInfo := pool [(1, .class_ 2), (0, u "java/lang/constant/Constable"), (0, .class_ 4), (0, u "java/lang/Object")] 6

/-- java/lang/constant/Constable -/
def k2 : Class := { plain "java/lang/constant/Constable" (some 0) with
  accessFlags := 1537
  interfaces := #[]
  cf := some (fileOf pool2 1 #[] #[] 1537 3 #[] #[])
  fields := #[]
  methods := #[]
  instanceTypes := #[]
  staticTypes := #[]
  resolved := Array.replicate 11 none
  statics := none }

def pool3 : Array CpInfo := pool [(1, .class_ 2), (0, u "java/lang/Comparable"), (0, .class_ 4), (0, u "java/lang/Object")] 7

/-- java/lang/Comparable -/
def k3 : Class := { plain "java/lang/Comparable" (some 0) with
  accessFlags := 1537
  interfaces := #[]
  cf := some (fileOf pool3 1 #[] #[] 1537 3 #[] #[])
  fields := #[]
  methods := #[]
  instanceTypes := #[]
  staticTypes := #[]
  resolved := Array.replicate 12 none
  statics := none }

def pool4 : Array CpInfo := pool [(1, .class_ 2), (0, u "java/io/Serializable"), (0, .class_ 4), (0, u "java/lang/Object")] 2

/-- java/io/Serializable -/
def k4 : Class := { plain "java/io/Serializable" (some 0) with
  accessFlags := 1537
  interfaces := #[]
  cf := some (fileOf pool4 1 #[] #[] 1537 3 #[] #[])
  fields := #[]
  methods := #[]
  instanceTypes := #[]
  staticTypes := #[]
  resolved := Array.replicate 7 none
  statics := none }

def pool5 : Array CpInfo := pool [(2, .class_ 4), (1, u "java/lang/Enum"), (0, u "name"), (0, u "Ljava/lang/String;"), (2, u "ordinal"), (0, u "I"), (1, .class_ 14), (1, u "java/lang/Object"), (4, u "hash"), (86, .class_ 108), (1, u "java/lang/Enum$EnumDesc"), (2, .class_ 112), (0, u "java/lang/constant/Constable"), (0, .class_ 114), (0, u "java/lang/Comparable"), (0, .class_ 116), (0, u "java/io/Serializable")] 87

/-- java/lang/Enum -/
def k5 : Class := { plain "java/lang/Enum" (some 0) with
  accessFlags := 1057
  interfaces := #[2, 3, 4]
  cf := some (fileOf pool5 2 #[.nestMembers #[106]] #[] 1057 12 #[111, 113, 115] #[{ accessFlags := 18, nameIndex := 5, descriptorIndex := 6, attributes := #[] }, { accessFlags := 18, nameIndex := 9, descriptorIndex := 10, attributes := #[] }, { accessFlags := 2, nameIndex := 19, descriptorIndex := 10, attributes := #[] }])
  fields := #[{ name := "name", type := (.object "java/lang/String"), accessFlags := 18, slot := 0, constantValue := 0 }, { name := "ordinal", type := .int, accessFlags := 18, slot := 1, constantValue := 0 }, { name := "hash", type := .int, accessFlags := 2, slot := 2, constantValue := 0 }]
  methods := #[]
  instanceTypes := #[(.object "java/lang/String"), .int, .int]
  staticTypes := #[]
  resolved := Array.replicate 204 none
  statics := none }

def pool6 : Array CpInfo := pool [(1, .class_ 2), (0, u "com/example/descend/descend/Encoding"), (0, .fieldref 1 4), (0, .nameAndType 5 6), (0, u "UTF_8"), (0, u "Lcom/example/descend/descend/Encoding;"), (2, u "US_ASCII"), (2, u "ISO_8859_1"), (2, u "$VALUES"), (0, u "[Lcom/example/descend/descend/Encoding;"), (6, .class_ 25), (1, u "java/lang/Enum"), (8, u "charset"), (0, u "Ljava/nio/charset/Charset;"), (2, u "names"), (0, u "Ljava/lang/String;"), (37, u "agreesWithUtf8"), (0, u "([BII)Z")] 53

def k6c0 : Code := { maxStack := 2, maxLocals := 6, code := prog_10_method_7_code, exceptionTable := #[], attributes := #[] }
def k6m0 : Method := { name := "agreesWithUtf8", desc := "([BII)Z", sig := { parameters := [(.array .byte), .int, .int], returnType := some .boolean }, accessFlags := 0, code := some k6c0 }
/-- com/example/descend/descend/Encoding -/
def k6 : Class := { plain "com/example/descend/descend/Encoding" (some 5) with
  accessFlags := 16432
  interfaces := #[]
  cf := some (fileOf pool6 1 #[] #[{ accessFlags := 0, nameIndex := 77, descriptorIndex := 78, attributes := #[] }] 16432 23 #[] #[{ accessFlags := 16409, nameIndex := 5, descriptorIndex := 6, attributes := #[] }, { accessFlags := 16409, nameIndex := 9, descriptorIndex := 6, attributes := #[] }, { accessFlags := 16409, nameIndex := 12, descriptorIndex := 6, attributes := #[] }, { accessFlags := 18, nameIndex := 34, descriptorIndex := 35, attributes := #[] }, { accessFlags := 18, nameIndex := 38, descriptorIndex := 39, attributes := #[] }, { accessFlags := 4122, nameIndex := 15, descriptorIndex := 16, attributes := #[] }])
  fields := #[{ name := "UTF_8", type := (.object "com/example/descend/descend/Encoding"), accessFlags := 16409, slot := 0, constantValue := 0 }, { name := "US_ASCII", type := (.object "com/example/descend/descend/Encoding"), accessFlags := 16409, slot := 1, constantValue := 0 }, { name := "ISO_8859_1", type := (.object "com/example/descend/descend/Encoding"), accessFlags := 16409, slot := 2, constantValue := 0 }, { name := "charset", type := (.object "java/nio/charset/Charset"), accessFlags := 18, slot := 3, constantValue := 0 }, { name := "names", type := (.object "java/lang/String"), accessFlags := 18, slot := 4, constantValue := 0 }, { name := "$VALUES", type := (.array (.object "com/example/descend/descend/Encoding")), accessFlags := 4122, slot := 3, constantValue := 0 }]
  methods := #[k6m0]
  instanceTypes := #[(.object "java/lang/String"), .int, .int, (.object "java/nio/charset/Charset"), (.object "java/lang/String")]
  staticTypes := #[(.object "com/example/descend/descend/Encoding"), (.object "com/example/descend/descend/Encoding"), (.object "com/example/descend/descend/Encoding"), (.array (.object "com/example/descend/descend/Encoding"))]
  resolved := Array.replicate 132 none
  statics := some 0 }

def pool7 : Array CpInfo := pool [(1, u "java/lang/Cloneable"), (0, .class_ 1), (0, u "java/lang/Object"), (0, .class_ 3)] 3

/-- java/lang/Cloneable -/
def k7 : Class := { plain "java/lang/Cloneable" (some 0) with
  accessFlags := 1537
  interfaces := #[]
  cf := some (fileOf pool7 2 #[] #[] 1537 4 #[] #[])
  fields := #[]
  methods := #[]
  instanceTypes := #[]
  staticTypes := #[]
  resolved := Array.replicate 8 none
  statics := none }

/-- the primitive byte -/
def k8 : Class := { plain "byte" none with kind := .primitive 'B', accessFlags := 0x411 }
/-- [B -/
def k9 : Class := { plain "[B" (some 0) with kind := .array 8 .byte, interfaces := #[7, 4], accessFlags := 1041 }

/-- the primitive int -/
def k10 : Class := { plain "int" none with kind := .primitive 'I', accessFlags := 0x411 }
/-- [I -/
def k11 : Class := { plain "[I" (some 0) with kind := .array 10 .int, interfaces := #[7, 4], accessFlags := 1041 }

def heap : Heap := #[{ cls := 6, slots := #[.ref 1, .ref 2, .ref 3, .null], vm := .statics 6 },
  { cls := 6, slots := #[.null, .int 0, .int 0, .null, .null], vm := .none },
  { cls := 6, slots := #[.null, .int 1, .int 0, .null, .null], vm := .none },
  { cls := 6, slots := #[.null, .int 2, .int 0, .null, .null], vm := .none }]
def classes : Array Class := #[k0, k1, k2, k3, k4, k5, k6, k7, k8, k9, k10, k11]
def interned : List (Array UInt16 × Addr) := []
def slotsUsed : Nat := 19
def theMethod : MethodId := ⟨1, 1⟩
def args0 : Array Value := #[.int 5, .int 5, .int 5, .int 5]
def aboutOver (below : List Frame) : State where
  vm := { classes := classes, interned := interned.toArray }
  heap := heap
  slotsUsed := slotsUsed
  threads := #[{ frames := .invoking theMethod args0 :: below }]
def below0 : List Frame := [.native { method := ⟨0, 0⟩, args := #[] }]
def about1 : State := aboutOver below0
def p0 : Program := .bare "" "" ""
def e0 : Env := launch0.env 0 0 0
theorem w_frames : about1.frames = Frame.invoking theMethod args0 :: below0 := rfl
set_option maxRecDepth 65536 in
theorem w_args : argsFit about1.vm theMethod args0 = true := by decide +kernel
set_option maxRecDepth 65536 in
theorem w_heap : heapFits about1 = true := by decide +kernel
set_option maxRecDepth 65536 in
theorem w_runnable : about1.curStatus? = some .runnable := by decide +kernel
set_option maxRecDepth 65536 in
theorem w_alone : about1.alone = true := by decide +kernel
set_option maxRecDepth 65536 in
theorem w_named : about1.methodNamed? x = some theMethod := by decide +kernel
set_option maxRecDepth 65536 in
theorem w_hears : about1.hears theMethod below0 = true := by decide +kernel
set_option maxRecDepth 65536 in
theorem w_ripe : about1.ripe theMethod args0 below0 = true := by decide +kernel
theorem w_running : about1.status = .running := rfl
set_option maxRecDepth 65536 in
theorem w_room : about1.hasRoom e0.platform room_1 = true :=
  launch0.hasRoom_least _ room_1 (by decide +kernel) (by decide +kernel) (by decide +kernel) (by decide +kernel) (by decide +kernel) (by decide +kernel)
theorem allAtoms_all (ts : List Jvm.Cond) (a : Array Jvm.Value) (st : Jvm.State) : (allAtoms ts).before a st = ts.all (fun c => c.before a st) := by
  induction ts with
  | nil => rfl
  | cons c t ih =>
    show (Jvm.Cond.and c (allAtoms t)).before a st = _
    rw [Jvm.Cond.before_and, ih, List.all_cons]
def words1 : List Jvm.Cond := Jvm.Cond.code x code maxLocals ret :: tables_1
/-- a 'code' word, met by the world's own term for the bytes: nothing is compared byte by byte -/
theorem code_word {y : MethodName} {bytes : ByteArray} {mx : Nat} {rt : Option FieldType} {a : Array Value} {s : State} {m : MethodId} {meth : Method} {c : Code} (h1 : s.methodNamed? y = some m) (h2 : s.vm.method? m = some meth) (h3 : meth.code = some c) (h4 : c.code = bytes)
    (h5 : (c.maxLocals == mx && c.exceptionTable.isEmpty && decide (c.maxStack ≤ mostOperands) && decide (meth.sig.returnType = rt) && !meth.locks && decide (parseMethodDescriptor y.desc = some meth.sig)) = true) : (Jvm.Cond.code y bytes mx rt).before a s = true := by
  simp only [Bool.and_eq_true, beq_iff_eq, Bool.not_eq_true', decide_eq_true_eq] at h5
  obtain ⟨⟨⟨⟨⟨g1, g2⟩, g3⟩, g4⟩, g5⟩, g6⟩ := h5
  simp [Cond.before, Cond.holds, Cond.value, h1, h2, h3, h4, g1, g2, g3, g4, g5, g6]
def isCode : Jvm.Cond → Bool
  | .code _ _ _ _ => true
  | _ => false
theorem all_split {L : List Jvm.Cond} {P : Jvm.Cond → Bool} (h1 : L.all (fun c => isCode c || P c) = true) (h2 : ∀ c ∈ L.filter isCode, P c = true) : L.all P = true := by
  refine List.all_eq_true.mpr fun c hc => ?_
  have h := List.all_eq_true.mp h1 c hc
  rcases Bool.eq_false_or_eq_true (isCode c) with hi | hi
  · exact h2 c (List.mem_filter.mpr ⟨hc, hi⟩)
  · simpa [hi] using h
set_option maxRecDepth 65536 in
theorem w_c0 : (Jvm.Cond.code x code maxLocals ret).before args0 about1 = true := code_word (m := ⟨1, 1⟩) (meth := k1m1) (c := k1c1) (by decide +kernel) rfl rfl rfl (by decide +kernel)
set_option maxRecDepth 65536 in
theorem w_c1 : (Jvm.Cond.code ({ cls := "com/example/descend/descend/Encoding", name := "agreesWithUtf8", desc := "([BII)Z" } : Jvm.MethodName) prog_10_method_7_code (6 : Nat) (Option.some Jvm.ClassFile.FieldType.boolean)).before args0 about1 = true := code_word (m := ⟨6, 0⟩) (meth := k6m0) (c := k6c0) (by decide +kernel) rfl rfl rfl (by decide +kernel)
set_option maxRecDepth 65536 in
theorem w_c2 : (Jvm.Cond.code ({ cls := "com/example/descend/descend/EncodingAgreesWithUtf8PinLaw", name := "asciiOrOutside", desc := "([BIII)Z" } : Jvm.MethodName) method_3_code (5 : Nat) (Option.some Jvm.ClassFile.FieldType.boolean)).before args0 about1 = true := code_word (m := ⟨1, 2⟩) (meth := k1m2) (c := k1c2) (by decide +kernel) rfl rfl rfl (by decide +kernel)
def codes1 : List Jvm.Cond := [Jvm.Cond.code x code maxLocals ret, Jvm.Cond.code ({ cls := "com/example/descend/descend/Encoding", name := "agreesWithUtf8", desc := "([BII)Z" } : Jvm.MethodName) prog_10_method_7_code (6 : Nat) (Option.some Jvm.ClassFile.FieldType.boolean), Jvm.Cond.code ({ cls := "com/example/descend/descend/EncodingAgreesWithUtf8PinLaw", name := "asciiOrOutside", desc := "([BIII)Z" } : Jvm.MethodName) method_3_code (5 : Nat) (Option.some Jvm.ClassFile.FieldType.boolean)]
set_option maxRecDepth 65536 in
theorem codes_eq : words1.filter isCode = codes1 := rfl
theorem w_codes : ∀ c ∈ words1.filter isCode, c.before args0 about1 = true := by
  rw [codes_eq]
  intro c hc
  simp only [codes1, List.mem_cons, List.not_mem_nil, or_false] at hc
  rcases hc with rfl | rfl | rfl
  · exact w_c0
  · exact w_c1
  · exact w_c2
set_option maxRecDepth 65536 in
theorem w_t1 : words1.all (fun c => isCode c || c.before args0 about1) = true := by decide +kernel
theorem w_tables : (allAtoms (Jvm.Cond.code x code maxLocals ret :: tables_1)).before args0 about1 = true := by
  rw [allAtoms_all]
  show words1.all (fun c => c.before args0 about1) = true
  refine all_split ?_ w_codes
  rw [w_t1]
set_option maxRecDepth 65536 in
theorem w_case : (Jvm.Cond.and given_1 narrow_1).before args0 about1 = true := by decide +kernel
theorem w_applies : (headSpec (Jvm.Cond.code x code maxLocals ret :: tables_1) room_1).applies x e0.platform about1 = true :=
  (Spec.applies_iff w_frames).mpr ⟨w_running, w_runnable, w_alone, w_named, w_hears, w_ripe, w_room, w_tables⟩
theorem atStart : AtStart classFile x code maxLocals ret World_1 tables_1 room_1 Calls_1 rest_1 Pre_1 launch0 p0 e0 about1 theMethod args0 below0 :=
  ⟨lists_1, trivial, launch0.admits_env _ _ _, launch0.least_env, fairChoices_fair.cas, fairChoices_fair.clock, w_frames, w_args, w_heap, w_applies, trivial, trivial, w_case⟩
end start1
theorem witness_1 : WitnessClaimed_1 := ⟨start1.p0, start1.e0, start1.about1, start1.theMethod, start1.args0, start1.below0, start1.atStart⟩
end Jvm.Pilot.@@N@@
