import JvmDerived
import JvmDerived.Pilot.@@N@@Statement
import JvmDerived.Pilot.@@N@@Code
set_option linter.unusedVariables false
set_option linter.unusedSimpArgs false
@@BLOCK:NumsL.lean.txt@@
namespace Jvm.Pilot.@@N@@
open Jvm Jvm.ClassFile Sem Op Lib Jvm.Free Jvm.Stand Jvm.LawKit Jvm.RoadKit Bundle Jvm.Pilot.@@N@@.Jvm.D
/-! own layer: the walk in continuation form -/
section OwnWalk
variable {p : Program} {l : Launch} {e : Env} {R : Room} {s : State} {m : MethodId} {args : Array Value} {below : List Frame} {meth : Method} {c : Code} {T T' : State} {locs : List Loc} {cells slots : Nat} {Q : Option Value → Heap → List Loc → Prop} {ck sk : Nat} {f f' : JFrame} {Z : State} {a0 : Array Value} {h h' : Heap}
/-- from this state and frame the invocation returns, and what it leaves is told by Q -/
def ownEnds (p : Program) (e : Env) (below : List Frame) (s : State) (Q : Option Value → Heap → List Loc → Prop) (ck sk : Nat) (T : State) (f : JFrame) : Prop :=
  ∃ s₂ o, Steps p.tables e below (T.setTop f) s₂ ∧ s₂.status = .running ∧ Ended s₂ below o ∧ ∃ v L, o = .returned v ∧ Q v s₂.heap L ∧ FrameEnd s o s₂ L ck sk
theorem ownGo (st : ∀ target, Steps p.tables e below (T'.setTop f') target → Steps p.tables e below (T.setTop f) target) (k : ownEnds p e below s Q ck sk T' f') : ownEnds p e below s Q ck sk T f := by
  obtain ⟨a, b, h1, h2⟩ := k
  exact ⟨a, b, st _ h1, h2⟩
theorem ownRun (st : Steps p.tables e below (T.setTop f) (T'.setTop f')) (k : ownEnds p e below s Q ck sk T' f') : ownEnds p e below s Q ck sk T f :=
  ownGo (fun _ q => st.trans q) k
theorem ownCast (q : f = f') (k : ownEnds p e below s Q ck sk T f') : ownEnds p e below s Q ck sk T f := q ▸ k
theorem ownRetI (X : Stand p l e R s m args below meth c T locs cells slots) (hx : p.tables.exec = Jvm.exec) {pc : Nat} {Ls : Array Slot} {z : Int32} {rest : List Value} (hret : meth.sig.returnType = some .int) (hd : decode c.code pc = .ok (.ireturn, 1)) (hk : meth.locks = false) (hc : cells ≤ ck) (hs : slots ≤ sk)
    (hQ : Q (some (.int z)) T.heap locs) : ownEnds p e below s Q ck sk T (mkF m pc Ls (.int z :: rest)) := by
  obtain ⟨fs, hr, hrun, hended, hW, hsame⟩ := X.leave (v := some (.int z)) (fun h => by rw [hret] at h; cases h) hk
  exact ⟨_, _, retOut X hx hret rfl (Or.inl ⟨rfl, Or.inl rfl, _, rfl⟩) hd hr, hrun, hended, _, _, rfl, hQ, ⟨_, rfl⟩, hW, hsame.mono hc hs⟩
theorem ownRetN (X : Stand p l e R s m args below meth c T locs cells slots) (hx : p.tables.exec = Jvm.exec) {pc : Nat} {Ls : Array Slot} {z r : Int32} {rest : List Value} {t : FieldType} (ht : t = .boolean ∨ t = .byte ∨ t = .char ∨ t = .short) (hret : meth.sig.returnType = some t) (hd : decode c.code pc = .ok (.ireturn, 1)) (hk : meth.locks = false) (hc : cells ≤ ck) (hs : slots ≤ sk)
    (hz : nar t z = r) (hQ : Q (some (.int r)) T.heap locs) : ownEnds p e below s Q ck sk T (mkF m pc Ls (.int z :: rest)) := by
  subst hz
  obtain ⟨fs, hr, hrun, hended, hW, hsame⟩ := X.leave (v := some (.int (nar t z))) (fun h => by rw [hret] at h; cases h) hk
  exact ⟨_, _, retN X hx hret ht hd hr, hrun, hended, _, _, rfl, hQ, ⟨_, rfl⟩, hW, hsame.mono hc hs⟩
theorem ownRetJ (X : Stand p l e R s m args below meth c T locs cells slots) (hx : p.tables.exec = Jvm.exec) {pc : Nat} {Ls : Array Slot} {z : Int64} {rest : List Value} (hret : meth.sig.returnType = some .long) (hd : decode c.code pc = .ok (.lreturn, 1)) (hk : meth.locks = false) (hc : cells ≤ ck) (hs : slots ≤ sk)
    (hQ : Q (some (.long z)) T.heap locs) : ownEnds p e below s Q ck sk T (mkF m pc Ls (.long z :: rest)) := by
  obtain ⟨fs, hr, hrun, hended, hW, hsame⟩ := X.leave (v := some (.long z)) (fun h => by rw [hret] at h; cases h) hk
  exact ⟨_, _, retOut X hx hret rfl (Or.inr (Or.inl ⟨rfl, rfl, _, rfl⟩)) hd hr, hrun, hended, _, _, rfl, hQ, ⟨_, rfl⟩, hW, hsame.mono hc hs⟩
theorem ownRetR (X : Stand p l e R s m args below meth c T locs cells slots) (hx : p.tables.exec = Jvm.exec) {pc : Nat} {Ls : Array Slot} {w : Value} {rest : List Value} {t : FieldType} (ht : t.isReference = true) (hn : narrow t w = w) (hw : w.isRef = true) (hret : meth.sig.returnType = some t) (hd : decode c.code pc = .ok (.areturn, 1)) (hk : meth.locks = false) (hc : cells ≤ ck) (hs : slots ≤ sk)
    (hQ : Q (some w) T.heap locs) : ownEnds p e below s Q ck sk T (mkF m pc Ls (w :: rest)) := by
  obtain ⟨fs, hr, hrun, hended, hW, hsame⟩ := X.leave (v := some w) (fun h => by rw [hret] at h; cases h) hk
  exact ⟨_, _, retOut X hx hret hn (Or.inr (Or.inr (Or.inr (Or.inr ⟨rfl, ht, hw⟩)))) hd hr, hrun, hended, _, _, rfl, hQ, ⟨_, rfl⟩, hW, hsame.mono hc hs⟩
theorem ownRetV (X : Stand p l e R s m args below meth c T locs cells slots) (hx : p.tables.exec = Jvm.exec) {pc : Nat} {Ls : Array Slot} (hret : meth.sig.returnType = none) (hd : decode c.code pc = .ok (.return_, 1)) (hk : meth.locks = false) (hc : cells ≤ ck) (hs : slots ≤ sk)
    (hQ : Q none T.heap locs) : ownEnds p e below s Q ck sk T (mkF m pc Ls []) := by
  obtain ⟨fs, hr, hrun, hended, hW, hsame⟩ := X.leave (v := none) (fun _ => rfl) hk
  exact ⟨_, _, X.returnOut hx hret hd hr, hrun, hended, _, _, rfl, hQ, ⟨_, rfl⟩, hW, hsame.mono hc hs⟩
/-- one place of a function turned -/
def ownUpd {α : Type} (f : Nat → α) (j : Nat) (x : α) : Nat → α := fun i => if i = j then x else f i
theorem ownUpd_same {α : Type} (f : Nat → α) (j : Nat) (x : α) : ownUpd f j x j = x := if_pos rfl
theorem ownUpd_ne {α : Type} (f : Nat → α) {i j : Nat} (x : α) (q : i ≠ j) : ownUpd f j x i = f i := if_neg q
/-- an array of ints (or bytes, chars ..): its length and its components -/
def ownAI (Z : State) (h : Heap) (a : Addr) (ty : FieldType) (n : Nat) (g : Nat → Int32) : Prop := ∃ cl : Cell, Arr Z h a cl ty ∧ cl.slots.size = n ∧ n < 2 ^ 31 ∧ ∀ i, i < n → cl.slots[i]? = some (.int (g i))
/-- an array of longs -/
def ownAJ (Z : State) (h : Heap) (a : Addr) (n : Nat) (g : Nat → Int64) : Prop := ∃ cl : Cell, Arr Z h a cl .long ∧ cl.slots.size = n ∧ n < 2 ^ 31 ∧ ∀ i, i < n → cl.slots[i]? = some (.long (g i))
variable {a b : Addr} {ty : FieldType} {n : Nat} {gi : Nat → Int32} {gj : Nat → Int64} {ws : List Addr} {sl : Nat} {v : Value}
theorem ownAI.lt (F : ownAI Z h a ty n gi) : a < h.size := by obtain ⟨c, A, -⟩ := F; exact A.lt
theorem ownAI.ext (F : ownAI Z h a ty n gi) (E : Ext h h') : ownAI Z h' a ty n gi := by obtain ⟨c, A, r⟩ := F; exact ⟨c, A.ext E, r⟩
theorem ownAI.other (F : ownAI Z h b ty n gi) (W : Wr h h' a sl v) (q : b ≠ a) : ownAI Z h' b ty n gi := by obtain ⟨c, A, r⟩ := F; exact ⟨c, A.other W q, r⟩
theorem ownAI.keep (F : ownAI Z h a ty n gi) (K : Keep h h' ws) (q : a ∉ ws) : ownAI Z h' a ty n gi := by obtain ⟨c, A, r⟩ := F; exact ⟨c, ⟨K.2.1 a c A.1 q, A.2⟩, r⟩
theorem ownAJ.lt (F : ownAJ Z h a n gj) : a < h.size := by obtain ⟨c, A, -⟩ := F; exact A.lt
theorem ownAJ.ext (F : ownAJ Z h a n gj) (E : Ext h h') : ownAJ Z h' a n gj := by obtain ⟨c, A, r⟩ := F; exact ⟨c, A.ext E, r⟩
theorem ownAJ.other (F : ownAJ Z h b n gj) (W : Wr h h' a sl v) (q : b ≠ a) : ownAJ Z h' b n gj := by obtain ⟨c, A, r⟩ := F; exact ⟨c, A.other W q, r⟩
theorem ownAJ.keep (F : ownAJ Z h a n gj) (K : Keep h h' ws) (q : a ∉ ws) : ownAJ Z h' a n gj := by obtain ⟨c, A, r⟩ := F; exact ⟨c, ⟨K.2.1 a c A.1 q, A.2⟩, r⟩
theorem ownAI.new {k : ClassId} {z : Int32} (A : Arr Z h a (newA k ty z) ty) (q : ¬ z < 0) (d : defaultValue ty = .int 0) (N : z.toNatClampNeg = n) : ownAI Z h a ty n (fun _ => 0) := by
  subst N
  refine ⟨_, A, sz_new _ _ _, (back32 q).2, fun i hi => ?_⟩
  simp [newA, hi, d]
theorem ownAJ.new {k : ClassId} {z : Int32} (A : Arr Z h a (newA k .long z) .long) (q : ¬ z < 0) (N : z.toNatClampNeg = n) : ownAJ Z h a n (fun _ => 0) := by
  subst N
  refine ⟨_, A, sz_new _ _ _, (back32 q).2, fun i hi => ?_⟩
  simp [newA, hi, defaultValue]
theorem ownAI.set (F : ownAI Z h a ty n gi) {j : Nat} {x : Int32} (W : Wr h h' a j (.int x)) : ownAI Z h' a ty n (ownUpd gi j x) := by
  obtain ⟨cl, A, S, N, H⟩ := F
  refine ⟨_, A.same W, by simpa [Cell.setSlot] using S, N, fun i hi => ?_⟩
  by_cases e : i = j
  · subst e; simp [Cell.setSlot, ownUpd, S, hi]
  · rw [ownUpd_ne _ _ e]
    show (cl.slots.setIfInBounds j (.int x))[i]? = _
    rw [Array.getElem?_setIfInBounds_ne (Ne.symm e)]; exact H i hi
theorem ownAJ.set (F : ownAJ Z h a n gj) {j : Nat} {x : Int64} (W : Wr h h' a j (.long x)) : ownAJ Z h' a n (ownUpd gj j x) := by
  obtain ⟨cl, A, S, N, H⟩ := F
  refine ⟨_, A.same W, by simpa [Cell.setSlot] using S, N, fun i hi => ?_⟩
  by_cases e : i = j
  · subst e; simp [Cell.setSlot, ownUpd, S, hi]
  · rw [ownUpd_ne _ _ e]
    show (cl.slots.setIfInBounds j (.long x))[i]? = _
    rw [Array.getElem?_setIfInBounds_ne (Ne.symm e)]; exact H i hi
/-- an index is inside -/
def ownIn (j : Int32) (n : Nat) : Prop := ¬ (j < 0 ∨ n ≤ j.toNatClampNeg)
theorem ownIn_of {j : Int32} {n : Nat} (h1 : 0 ≤ j.toInt) (h2 : j.toInt < n) : ownIn j n := by
  intro q
  rcases q with q | q
  · rw [Int32.lt_iff_toInt_lt] at q; simp only [Int32.reduceToInt] at q; omega
  · simp only [Int32.toNatClampNeg] at q; omega
theorem ownIaload (F : ownAI Z h a .int n gi) (X : Stand p l e R s m args below meth c T locs cells slots) (hx : p.tables.exec = Jvm.exec) (hZ : Z.Warmed39 s.vm) (eT : T.heap = h) {j : Int32} (hin : ownIn j n) {g : JFrame} (hg : g.method = m) {rest : List Value} (hs : g.stack = .int j :: .ref a :: rest) (hd : decode c.code g.pc = .ok (.iaload, 1)) :
    ∀ target, Steps p.tables e below (T.setTop { g with pc := g.pc + 1, stack := .int (gi j.toNatClampNeg) :: rest }) target → Steps p.tables e below (T.setTop g) target := by
  obtain ⟨cl, A, S, N, H⟩ := F
  subst S
  exact fun t k => X.iaload hx (by rw [eT]; exact A.1) (State.isArrayOf_alike hZ.alike A.2.1) A.2.2 hin (H _ (Nat.lt_of_not_le fun q => hin (Or.inr q))) hg hs hd t k
theorem ownBaload (F : ownAI Z h a .byte n gi) (X : Stand p l e R s m args below meth c T locs cells slots) (hx : p.tables.exec = Jvm.exec) (hZ : Z.Warmed39 s.vm) (eT : T.heap = h) {j : Int32} (hin : ownIn j n) {g : JFrame} (hg : g.method = m) {rest : List Value} (hs : g.stack = .int j :: .ref a :: rest) (hd : decode c.code g.pc = .ok (.baload, 1)) :
    ∀ target, Steps p.tables e below (T.setTop { g with pc := g.pc + 1, stack := .int (gi j.toNatClampNeg) :: rest }) target → Steps p.tables e below (T.setTop g) target := by
  obtain ⟨cl, A, S, N, H⟩ := F
  subst S
  exact fun t k => X.baloadBytes hx (by rw [eT]; exact A.1) (State.isArrayOf_alike hZ.alike A.2.1) A.2.2 hin (H _ (Nat.lt_of_not_le fun q => hin (Or.inr q))) hg hs hd t k
theorem ownCaload (F : ownAI Z h a .char n gi) (X : Stand p l e R s m args below meth c T locs cells slots) (hx : p.tables.exec = Jvm.exec) (hZ : Z.Warmed39 s.vm) (eT : T.heap = h) {j : Int32} (hin : ownIn j n) {g : JFrame} (hg : g.method = m) {rest : List Value} (hs : g.stack = .int j :: .ref a :: rest) (hd : decode c.code g.pc = .ok (.caload, 1)) :
    ∀ target, Steps p.tables e below (T.setTop { g with pc := g.pc + 1, stack := .int (gi j.toNatClampNeg) :: rest }) target → Steps p.tables e below (T.setTop g) target := by
  obtain ⟨cl, A, S, N, H⟩ := F
  subst S
  exact fun t k => X.caload hx (by rw [eT]; exact A.1) (State.isArrayOf_alike hZ.alike A.2.1) A.2.2 hin (H _ (Nat.lt_of_not_le fun q => hin (Or.inr q))) hg hs hd t k
theorem ownLaload (F : ownAJ Z h a n gj) (X : Stand p l e R s m args below meth c T locs cells slots) (hx : p.tables.exec = Jvm.exec) (hZ : Z.Warmed39 s.vm) (eT : T.heap = h) {j : Int32} (hin : ownIn j n) {g : JFrame} (hg : g.method = m) {rest : List Value} (hs : g.stack = .int j :: .ref a :: rest) (hd : decode c.code g.pc = .ok (.laload, 1)) :
    ∀ target, Steps p.tables e below (T.setTop { g with pc := g.pc + 1, stack := .long (gj j.toNatClampNeg) :: rest }) target → Steps p.tables e below (T.setTop g) target := by
  obtain ⟨cl, A, S, N, H⟩ := F
  subst S
  exact fun t k => X.laload hx (by rw [eT]; exact A.1) (State.isArrayOf_alike hZ.alike A.2.1) A.2.2 hin (H _ (Nat.lt_of_not_le fun q => hin (Or.inr q))) hg hs hd t k
theorem ownLenI (F : ownAI Z h a ty n gi) (X : Stand p l e R s m args below meth c T locs cells slots) (hx : p.tables.exec = Jvm.exec) (hZ : Z.Warmed39 s.vm) (eT : T.heap = h) {z : Int32} (hz : n.toInt32 = z) {g : JFrame} (hg : g.method = m) {rest : List Value} (hs : g.stack = .ref a :: rest) (hd : decode c.code g.pc = .ok (.arraylength, 1)) :
    ∀ target, Steps p.tables e below (T.setTop { g with pc := g.pc + 1, stack := .int z :: rest }) target → Steps p.tables e below (T.setTop g) target := by
  obtain ⟨cl, A, S, N, H⟩ := F
  subst S hz
  exact fun t k => X.arraylength hx (by rw [eT]; exact A.1) (State.isArrayOf_alike hZ.alike A.2.1) hg hs hd t k
theorem ownLenJ (F : ownAJ Z h a n gj) (X : Stand p l e R s m args below meth c T locs cells slots) (hx : p.tables.exec = Jvm.exec) (hZ : Z.Warmed39 s.vm) (eT : T.heap = h) {z : Int32} (hz : n.toInt32 = z) {g : JFrame} (hg : g.method = m) {rest : List Value} (hs : g.stack = .ref a :: rest) (hd : decode c.code g.pc = .ok (.arraylength, 1)) :
    ∀ target, Steps p.tables e below (T.setTop { g with pc := g.pc + 1, stack := .int z :: rest }) target → Steps p.tables e below (T.setTop g) target := by
  obtain ⟨cl, A, S, N, H⟩ := F
  subst S hz
  exact fun t k => X.arraylength hx (by rw [eT]; exact A.1) (State.isArrayOf_alike hZ.alike A.2.1) hg hs hd t k
theorem ownIastore (F : ownAI Z h a .int n gi) (X : Stand p l e R s m args below meth c T locs cells slots) (hx : p.tables.exec = Jvm.exec) (hZ : Z.Warmed39 s.vm) (eT : T.heap = h) {j x : Int32} (hin : ownIn j n) {g : JFrame} (hg : g.method = m) {rest : List Value} (hs : g.stack = .int x :: .int j :: .ref a :: rest) (hd : decode c.code g.pc = .ok (.iastore, 1)) :
    ∃ T' h', Stand p l e R s m args below meth c T' (locs ++ [⟨a, j.toNatClampNeg⟩]) cells slots ∧ T'.heap = h' ∧ Wr h h' a j.toNatClampNeg (.int x) ∧ ownAI Z h' a .int n (ownUpd gi j.toNatClampNeg x) ∧ ∀ target, Steps p.tables e below (T'.setTop { g with pc := g.pc + 1, stack := rest }) target → Steps p.tables e below (T.setTop g) target := by
  obtain ⟨cl, A, S, r⟩ := id F
  obtain ⟨T', h', X', e', W, st⟩ := stI X hx hZ eT A (j := j) (by rw [S]; exact hin) hg hs hd
  exact ⟨T', h', X', e', W, F.set W, st⟩
theorem ownBastore (F : ownAI Z h a .byte n gi) (X : Stand p l e R s m args below meth c T locs cells slots) (hx : p.tables.exec = Jvm.exec) (hZ : Z.Warmed39 s.vm) (eT : T.heap = h) {j x : Int32} (hin : ownIn j n) {g : JFrame} (hg : g.method = m) {rest : List Value} (hs : g.stack = .int x :: .int j :: .ref a :: rest) (hd : decode c.code g.pc = .ok (.bastore, 1)) :
    ∃ T' h', Stand p l e R s m args below meth c T' (locs ++ [⟨a, j.toNatClampNeg⟩]) cells slots ∧ T'.heap = h' ∧ Wr h h' a j.toNatClampNeg (.int (nar .byte x)) ∧ ownAI Z h' a .byte n (ownUpd gi j.toNatClampNeg (nar .byte x)) ∧ ∀ target, Steps p.tables e below (T'.setTop { g with pc := g.pc + 1, stack := rest }) target → Steps p.tables e below (T.setTop g) target := by
  obtain ⟨cl, A, S, r⟩ := id F
  obtain ⟨T', h', X', e', W, st⟩ := stB X hx hZ eT A (j := j) (by rw [S]; exact hin) hg hs hd
  exact ⟨T', h', X', e', W, F.set W, st⟩
theorem ownCastore (F : ownAI Z h a .char n gi) (X : Stand p l e R s m args below meth c T locs cells slots) (hx : p.tables.exec = Jvm.exec) (hZ : Z.Warmed39 s.vm) (eT : T.heap = h) {j x : Int32} (hin : ownIn j n) {g : JFrame} (hg : g.method = m) {rest : List Value} (hs : g.stack = .int x :: .int j :: .ref a :: rest) (hd : decode c.code g.pc = .ok (.castore, 1)) :
    ∃ T' h', Stand p l e R s m args below meth c T' (locs ++ [⟨a, j.toNatClampNeg⟩]) cells slots ∧ T'.heap = h' ∧ Wr h h' a j.toNatClampNeg (.int (nar .char x)) ∧ ownAI Z h' a .char n (ownUpd gi j.toNatClampNeg (nar .char x)) ∧ ∀ target, Steps p.tables e below (T'.setTop { g with pc := g.pc + 1, stack := rest }) target → Steps p.tables e below (T.setTop g) target := by
  obtain ⟨cl, A, S, r⟩ := id F
  obtain ⟨T', h', X', e', W, st⟩ := stC X hx hZ eT A (j := j) (by rw [S]; exact hin) hg hs hd
  exact ⟨T', h', X', e', W, F.set W, st⟩
theorem ownLastore (F : ownAJ Z h a n gj) (X : Stand p l e R s m args below meth c T locs cells slots) (hx : p.tables.exec = Jvm.exec) (hZ : Z.Warmed39 s.vm) (eT : T.heap = h) {j : Int32} {x : Int64} (hin : ownIn j n) {g : JFrame} (hg : g.method = m) {rest : List Value} (hs : g.stack = .long x :: .int j :: .ref a :: rest) (hd : decode c.code g.pc = .ok (.lastore, 1)) :
    ∃ T' h', Stand p l e R s m args below meth c T' (locs ++ [⟨a, j.toNatClampNeg⟩]) cells slots ∧ T'.heap = h' ∧ Wr h h' a j.toNatClampNeg (.long x) ∧ ownAJ Z h' a n (ownUpd gj j.toNatClampNeg x) ∧ ∀ target, Steps p.tables e below (T'.setTop { g with pc := g.pc + 1, stack := rest }) target → Steps p.tables e below (T.setTop g) target := by
  obtain ⟨cl, A, S, r⟩ := id F
  obtain ⟨T', h', X', e', W, st⟩ := stJ X hx hZ eT A (j := j) (by rw [S]; exact hin) hg hs hd
  exact ⟨T', h', X', e', W, F.set W, st⟩
theorem ownAI.arv (F : ownAI Z h a ty n gi) {z : Int32} (hz : z.toNatClampNeg = n) (hn : ¬ z < 0) (hf : ∀ i, i < n → fits ty (.int (gi i)) = true) : ∃ k, Arv Z h a k ty z ((List.range n).map fun i => Value.int (gi i)) (.int 0) := by
  obtain ⟨cl, A, S, N, H⟩ := F
  refine ⟨cl.cls, cl, A, rfl, by rw [S, hz], hn, fun i hi => ?_, fun i hi => ?_⟩
  · rw [S] at hi; rw [H i hi]; simp [List.getD_eq_getElem?_getD, hi]
  · rw [S] at hi; have := hf i hi; simpa [List.getD_eq_getElem?_getD, hi] using this
theorem ownAI.of_arv {k : ClassId} {z : Int32} {vs : List Value} {dv : Value} (F : Arv Z h a k ty z vs dv) (hz : z.toNatClampNeg = n) (hv : ∀ i, i < n → vs.getD i dv = .int (gi i)) : ownAI Z h a ty n gi := by
  obtain ⟨cl, A, q, S, N, H, G⟩ := F
  refine ⟨cl, A, by rw [S, hz], by rw [← hz]; exact (back32 N).2, fun i hi => ?_⟩
  rw [H i (by rw [S, hz]; exact hi), hv i hi]
theorem ownCopyI {n' : Nat} {gi' gr : Nat → Int32} {z z' nn : Int32} (A : ownAI Z h a ty n gi) (B : ownAI Z h b ty n' gi') (hz : z.toNatClampNeg = n) (hn : ¬ z < 0) (hz' : z'.toNatClampNeg = n') (hn' : ¬ z' < 0) (hty : refKind ty = false) (hfa : ∀ i, i < n → fits ty (.int (gi i)) = true) (hfb : ∀ i, i < n' → fits ty (.int (gi' i)) = true)
    (X : Stand p l e R s m args below meth c T locs cells slots) (hx : p.tables.exec = Jvm.exec) (hZ : Z.Warmed39 s.vm) {own : String} {index : Nat} (hown : s.vm.findClass own = some m.cls)
    (w1 : (Cond.methodLink own index Jvm.Stand.acN).before a0 Z = true) (w2 : (Cond.native Jvm.Stand.acN).before a0 Z = true) (w3 : (Cond.static Jvm.Stand.acN).before a0 Z = true) (w4 : (Cond.initialized "java/lang/System").before a0 Z = true) (eT : T.heap = h)
    (h3 : ¬ nn < 0) (h4 : nn.toNatClampNeg ≤ n) (h5 : nn.toNatClampNeg ≤ n') (hgr : ∀ i, i < n' → (if i < nn.toNatClampNeg then gi i else gi' i) = gr i) {n0 : Nat} (N : Fr n0 locs) (ge : n0 ≤ b)
    {g : JFrame} (hg : g.method = m) (hsize : g.locals.size = c.maxLocals) {rest : List Value} (hs : g.stack = .int nn :: .int 0 :: .ref b :: .int 0 :: .ref a :: rest) (hd : decode c.code g.pc = .ok (.invokestatic index, 3))
    (hf : 1 ≤ R.frames) {W : Nat} (hW : 2 * g.monitorRoom + (rest.map fun v => v.category).sum ≤ W) (hlo : W + (nativeFrameWords "java/lang/System" "arraycopy" 5 + 11) ≤ R.locals) :
    ∃ T' h' L, Stand p l e R s m args below meth c T' L cells slots ∧ T'.heap = h' ∧ Fr n0 L ∧ Keep h h' [b] ∧ ownAI Z h' b ty n' gr ∧
      ∀ target, Steps p.tables e below (T'.setTop { g with pc := g.pc + 3, stack := rest }) target → Steps p.tables e below (T.setTop g) target := by
  obtain ⟨k1, A1⟩ := A.arv hz hn hfa
  obtain ⟨k2, B1⟩ := B.arv hz' hn' hfb
  obtain ⟨T', h', L, X', e', N', K', F', st⟩ := cpA X hx hZ hown w1 w2 w3 w4 eT (sp := 0) (dp := 0) A1 B1 (Or.inl ⟨rfl, hty⟩) (by decide) (by decide) h3 (by show 0 + _ ≤ _; rw [hz]; omega) (by show 0 + _ ≤ _; rw [hz']; omega) rfl (by show 0 + _ ≤ _; simp; exact h5) N ge hg hsize hs hd hf hW hlo
  refine ⟨T', h', L, X', e', N', K', ownAI.of_arv F' hz' (fun i hi => ?_), st⟩
  rw [← hgr i hi]
  show (List.take 0 _ ++ (List.range nn.toNatClampNeg).map (fun i => ((List.range n).map fun i => Value.int (gi i)).getD (0 + i) (.int 0)) ++ List.drop (0 + nn.toNatClampNeg) _).getD i (.int 0) = _
  by_cases q : i < nn.toNatClampNeg
  · rw [if_pos q]
    have : i < n := by omega
    simp [List.getD_eq_getElem?_getD, List.getElem?_append, q, this]
  · rw [if_neg q]
    have h6 : nn.toNatClampNeg + (i - nn.toNatClampNeg) = i := by omega
    simp [List.getD_eq_getElem?_getD, List.getElem?_append, q, hi, h6]
theorem ownCloneI {z : Int32} (F : ownAI Z h a ty n gi) (hz : z.toNatClampNeg = n) (hn : ¬ z < 0) (hfa : ∀ i, i < n → fits ty (.int (gi i)) = true) (X : Stand p l e R s m args below meth c T locs cells slots) (hx : p.tables.exec = Jvm.exec) (hZ : Z.Warmed39 s.vm) {own ad : String} {index : Nat} (hown : s.vm.findClass own = some m.cls)
    (w1 : (Cond.methodLink own index ⟨ad, "clone", "()Ljava/lang/Object;"⟩).before a0 Z = true) (w2 : (Cond.sameMethod ad "java/lang/Object" "clone" "()Ljava/lang/Object;").before a0 Z = true) (w3 : (Cond.native ⟨"java/lang/Object", "clone", "()Ljava/lang/Object;"⟩).before a0 Z = true)
    (w4 : (Cond.instanceMethod ⟨"java/lang/Object", "clone", "()Ljava/lang/Object;"⟩).before a0 Z = true) (w5 : (Cond.selects ad ⟨ad, "clone", "()Ljava/lang/Object;"⟩ ⟨"java/lang/Object", "clone", "()Ljava/lang/Object;"⟩).before a0 Z = true) (w6 : (Cond.castable ad "java/lang/Cloneable").before a0 Z = true)
    (eT : T.heap = h) (E : Exa Z h a ad) {g : JFrame} (hg : g.method = m) (hsize : g.locals.size = c.maxLocals) {rest : List Value} (hst : g.stack = .ref a :: rest) (hd : decode c.code g.pc = .ok (.invokevirtual index, 3))
    (hf : 1 ≤ R.frames) {W cap : Nat} (hW : 2 * g.monitorRoom + (rest.map fun v => v.category).sum ≤ W) (hl : W + 14 ≤ R.locals) (hcap : n ≤ cap) (hc : cells + 1 ≤ R.cells) (hsl : slots + cap ≤ R.slots) :
    ∃ T' h', Stand p l e R s m args below meth c T' locs (cells + 1) (slots + cap) ∧ T'.heap = h' ∧ Ext h h' ∧ ownAI Z h' h.size ty n gi ∧ Exa Z h' h.size ad ∧
      ∀ target, Steps p.tables e below (T'.setTop { g with pc := g.pc + 3, stack := .ref h.size :: rest }) target → Steps p.tables e below (T.setTop g) target := by
  obtain ⟨k1, A1⟩ := F.arv hz hn hfa
  obtain ⟨T', h', X', e', ex, A', E', st⟩ := cloneH X hx hZ hown w1 w2 w3 w4 w5 w6 eT A1.arh E hg hsize hst hd hf hW hl (by rw [hz]; exact hcap) hc hsl
  refine ⟨T', h', X', e', ex, ownAI.of_arv (k := k1) (z := z) (vs := (List.range n).map fun i => Value.int (gi i)) (dv := .int 0) A' hz (fun i hi => ?_), E', st⟩
  simp [List.getD_eq_getElem?_getD, hi]
theorem ownZaload (F : ownAI Z h a .boolean n gi) (X : Stand p l e R s m args below meth c T locs cells slots) (hx : p.tables.exec = Jvm.exec) (hZ : Z.Warmed39 s.vm) (eT : T.heap = h) {j : Int32} (hin : ownIn j n) {g : JFrame} (hg : g.method = m) {rest : List Value} (hs : g.stack = .int j :: .ref a :: rest) (hd : decode c.code g.pc = .ok (.baload, 1)) :
    ∀ target, Steps p.tables e below (T.setTop { g with pc := g.pc + 1, stack := .int (gi j.toNatClampNeg) :: rest }) target → Steps p.tables e below (T.setTop g) target := by
  obtain ⟨cl, A, S, N, H⟩ := F
  subst S
  exact fun t k => X.baloadBooleans hx (by rw [eT]; exact A.1) (State.isArrayOf_alike hZ.alike A.2.1) A.2.2 hin (H _ (Nat.lt_of_not_le fun q => hin (Or.inr q))) hg hs hd t k
theorem ownZastore (F : ownAI Z h a .boolean n gi) (X : Stand p l e R s m args below meth c T locs cells slots) (hx : p.tables.exec = Jvm.exec) (hZ : Z.Warmed39 s.vm) (eT : T.heap = h) {j x : Int32} (hin : ownIn j n) {g : JFrame} (hg : g.method = m) {rest : List Value} (hs : g.stack = .int x :: .int j :: .ref a :: rest) (hd : decode c.code g.pc = .ok (.bastore, 1)) :
    ∃ T' h', Stand p l e R s m args below meth c T' (locs ++ [⟨a, j.toNatClampNeg⟩]) cells slots ∧ T'.heap = h' ∧ Wr h h' a j.toNatClampNeg (.int (nar .boolean x)) ∧ ownAI Z h' a .boolean n (ownUpd gi j.toNatClampNeg (nar .boolean x)) ∧ ∀ target, Steps p.tables e below (T'.setTop { g with pc := g.pc + 1, stack := rest }) target → Steps p.tables e below (T.setTop g) target := by
  obtain ⟨cl, A, S, r⟩ := id F
  obtain ⟨T', h', X', e', W, st⟩ := stZ X hx hZ eT A (j := j) (by rw [S]; exact hin) hg hs hd
  exact ⟨T', h', X', e', W, F.set W, st⟩
theorem ownNstE {C : String} (F : Exa Z h a C) : ∀ c, h[a]? = some c → c.vm.isStatics = false := fun c q => by obtain ⟨cell, k, h1, -, -, h4, -⟩ := F; cases h1.symm.trans q; exact h4
theorem ownNstI (F : ownAI Z h a ty n gi) : ∀ c, h[a]? = some c → c.vm.isStatics = false := fun c q => by obtain ⟨cell, A, -⟩ := F; cases A.1.symm.trans q; exact A.plain
theorem ownNstJ (F : ownAJ Z h a n gj) : ∀ c, h[a]? = some c → c.vm.isStatics = false := fun c q => by obtain ⟨cell, A, -⟩ := F; cases A.1.symm.trans q; exact A.plain
theorem ownStaKeep {C nm d : String} (F : Sta Z h C nm d v) (K : Keep h h' ws) (q : ∀ x ∈ ws, ∀ c, h[x]? = some c → c.vm.isStatics = false) : Sta Z h' C nm d v := by
  obtain ⟨cf, i, k, f, st, cell, h1, h2, h3, h4, h5, h6, h7⟩ := F
  refine ⟨cf, i, k, f, st, cell, h1, h2, h3, h4, K.2.1 st cell h5 (fun w => ?_), h6, h7⟩
  rw [q st w cell h5] at h6; cases h6
theorem own_narb {x v : Int32} (h : x.toInt8.toInt32 = v) : nar .byte v = v := by subst h; simp [nar]
theorem own_narc {x v : Int32} (h : x.toUInt32.toUInt16.toUInt32.toInt32 = v) : nar .char v = v := by subst h; simp only [nar, UInt32.toUInt32_toInt32, UInt16.toUInt16_toUInt32]
theorem own_evInt {args : Array Value} {t : Term} {k : Int32} (h : (Cond.eq t (.int k)).value args s none s [] = some true) : t.eval args s none [] s = some (.int k) := by
  simp only [Cond.value, Term.eval] at h
  cases ht : t.eval args s none [] s with
  | none => simp [ht] at h
  | some x => cases x <;> simp [ht] at h ⊢; exact h
theorem own_fldInt {args : Array Value} {t : Term} {C n d : String} {k : Int32} {x : Addr} (h : (Cond.eq (.field t C n d) (.int k)).value args s none s [] = some true) (ht : t.eval args s none [] s = some (.ref x)) : Fld s s.heap x C n d (.int k) :=
  Fld.start ((fld_at ht).symm.trans (own_evInt h))
end OwnWalk
section OwnSteps
variable {p : Program} {l : Launch} {e : Env} {R : Room} {s : State} {m : MethodId} {args : Array Value} {below : List Frame} {meth : Method} {c : Code} {T : State} {locs : List Loc} {cells slots : Nat} {Q : Option Value → Heap → List Loc → Prop} {ck sk : Nat}
theorem ow_iloadN (X : Stand p l e R s m args below meth c T locs cells slots) (hx : p.tables.exec = Jvm.exec) {pc q : Nat} {Ls : Array Slot} {S : List Value} {k : Fin 4} {v : Int32} (hd : decode c.code pc = .ok (.iload_n k, 1)) (hq : pc + 1 = q) (hl : Ls[k.val]? = some (.val (.int v))) (k : ownEnds p e below s Q ck sk T (mkF m q Ls (.int v :: S))) : ownEnds p e below s Q ck sk T (mkF m pc Ls S) := by
  subst hq
  exact ownGo (fun _ k => XS.iloadN X.here hx rfl hd hl k) k
theorem ow_iload (X : Stand p l e R s m args below meth c T locs cells slots) (hx : p.tables.exec = Jvm.exec) {pc q : Nat} {Ls : Array Slot} {S : List Value} {k : Nat} {v : Int32} (hd : decode c.code pc = .ok (.iload k, 2)) (hq : pc + 2 = q) (hl : Ls[k]? = some (.val (.int v))) (k : ownEnds p e below s Q ck sk T (mkF m q Ls (.int v :: S))) : ownEnds p e below s Q ck sk T (mkF m pc Ls S) := by
  subst hq
  exact ownGo (fun _ k => XS.iload X.here hx rfl hd hl k) k
theorem ow_istoreN (X : Stand p l e R s m args below meth c T locs cells slots) (hx : p.tables.exec = Jvm.exec) {pc q : Nat} {Ls : Array Slot} {S : List Value} {k : Fin 4} {v : Int32} {L' : Array Slot} (hd : decode c.code pc = .ok (.istore_n k, 1)) (hq : pc + 1 = q) (hl : storeLocals Ls k.val (.int v) = some L') (k : ownEnds p e below s Q ck sk T (mkF m q L' S)) : ownEnds p e below s Q ck sk T (mkF m pc Ls (.int v :: S)) := by
  subst hq
  exact ownGo (fun _ k => XS.istoreN X.here hx rfl hd rfl hl k) k
theorem ow_istore (X : Stand p l e R s m args below meth c T locs cells slots) (hx : p.tables.exec = Jvm.exec) {pc q : Nat} {Ls : Array Slot} {S : List Value} {k : Nat} {v : Int32} {L' : Array Slot} (hd : decode c.code pc = .ok (.istore k, 2)) (hq : pc + 2 = q) (hl : storeLocals Ls k (.int v) = some L') (k : ownEnds p e below s Q ck sk T (mkF m q L' S)) : ownEnds p e below s Q ck sk T (mkF m pc Ls (.int v :: S)) := by
  subst hq
  exact ownGo (fun _ k => XS.istore X.here hx rfl hd rfl hl k) k
theorem ow_lloadN (X : Stand p l e R s m args below meth c T locs cells slots) (hx : p.tables.exec = Jvm.exec) {pc q : Nat} {Ls : Array Slot} {S : List Value} {k : Fin 4} {v : Int64} (hd : decode c.code pc = .ok (.lload_n k, 1)) (hq : pc + 1 = q) (hl : Ls[k.val]? = some (.val (.long v))) (k : ownEnds p e below s Q ck sk T (mkF m q Ls (.long v :: S))) : ownEnds p e below s Q ck sk T (mkF m pc Ls S) := by
  subst hq
  exact ownGo (fun _ k => XS.lloadN X.here hx rfl hd hl k) k
theorem ow_lload (X : Stand p l e R s m args below meth c T locs cells slots) (hx : p.tables.exec = Jvm.exec) {pc q : Nat} {Ls : Array Slot} {S : List Value} {k : Nat} {v : Int64} (hd : decode c.code pc = .ok (.lload k, 2)) (hq : pc + 2 = q) (hl : Ls[k]? = some (.val (.long v))) (k : ownEnds p e below s Q ck sk T (mkF m q Ls (.long v :: S))) : ownEnds p e below s Q ck sk T (mkF m pc Ls S) := by
  subst hq
  exact ownGo (fun _ k => XS.lload X.here hx rfl hd hl k) k
theorem ow_lstoreN (X : Stand p l e R s m args below meth c T locs cells slots) (hx : p.tables.exec = Jvm.exec) {pc q : Nat} {Ls : Array Slot} {S : List Value} {k : Fin 4} {v : Int64} {L' : Array Slot} (hd : decode c.code pc = .ok (.lstore_n k, 1)) (hq : pc + 1 = q) (hl : storeLocals Ls k.val (.long v) = some L') (k : ownEnds p e below s Q ck sk T (mkF m q L' S)) : ownEnds p e below s Q ck sk T (mkF m pc Ls (.long v :: S)) := by
  subst hq
  exact ownGo (fun _ k => XS.lstoreN X.here hx rfl hd rfl hl k) k
theorem ow_lstore (X : Stand p l e R s m args below meth c T locs cells slots) (hx : p.tables.exec = Jvm.exec) {pc q : Nat} {Ls : Array Slot} {S : List Value} {k : Nat} {v : Int64} {L' : Array Slot} (hd : decode c.code pc = .ok (.lstore k, 2)) (hq : pc + 2 = q) (hl : storeLocals Ls k (.long v) = some L') (k : ownEnds p e below s Q ck sk T (mkF m q L' S)) : ownEnds p e below s Q ck sk T (mkF m pc Ls (.long v :: S)) := by
  subst hq
  exact ownGo (fun _ k => XS.lstore X.here hx rfl hd rfl hl k) k
theorem ow_aloadN (X : Stand p l e R s m args below meth c T locs cells slots) (hx : p.tables.exec = Jvm.exec) {pc q : Nat} {Ls : Array Slot} {S : List Value} {k : Fin 4} {v : Value} (hd : decode c.code pc = .ok (.aload_n k, 1)) (hq : pc + 1 = q) (hl : Ls[k.val]? = some (.val v)) (hv : v.isRef = true) (k : ownEnds p e below s Q ck sk T (mkF m q Ls (v :: S))) : ownEnds p e below s Q ck sk T (mkF m pc Ls S) := by
  subst hq
  exact ownGo (fun _ k => XS.aloadN X.here hx rfl hd hl hv k) k
theorem ow_aload (X : Stand p l e R s m args below meth c T locs cells slots) (hx : p.tables.exec = Jvm.exec) {pc q : Nat} {Ls : Array Slot} {S : List Value} {k : Nat} {v : Value} (hd : decode c.code pc = .ok (.aload k, 2)) (hq : pc + 2 = q) (hl : Ls[k]? = some (.val v)) (hv : v.isRef = true) (k : ownEnds p e below s Q ck sk T (mkF m q Ls (v :: S))) : ownEnds p e below s Q ck sk T (mkF m pc Ls S) := by
  subst hq
  exact ownGo (fun _ k => XS.aload X.here hx rfl hd hl hv k) k
theorem ow_astoreN (X : Stand p l e R s m args below meth c T locs cells slots) (hx : p.tables.exec = Jvm.exec) {pc q : Nat} {Ls : Array Slot} {S : List Value} {k : Fin 4} {v : Value} {L' : Array Slot} (hd : decode c.code pc = .ok (.astore_n k, 1)) (hq : pc + 1 = q) (hv : v.isRef = true) (hl : storeLocals Ls k.val v = some L') (k : ownEnds p e below s Q ck sk T (mkF m q L' S)) : ownEnds p e below s Q ck sk T (mkF m pc Ls (v :: S)) := by
  subst hq
  exact ownGo (fun _ k => XS.astoreN X.here hx rfl hd rfl hv hl k) k
theorem ow_astore (X : Stand p l e R s m args below meth c T locs cells slots) (hx : p.tables.exec = Jvm.exec) {pc q : Nat} {Ls : Array Slot} {S : List Value} {k : Nat} {v : Value} {L' : Array Slot} (hd : decode c.code pc = .ok (.astore k, 2)) (hq : pc + 2 = q) (hv : v.isRef = true) (hl : storeLocals Ls k v = some L') (k : ownEnds p e below s Q ck sk T (mkF m q L' S)) : ownEnds p e below s Q ck sk T (mkF m pc Ls (v :: S)) := by
  subst hq
  exact ownGo (fun _ k => XS.astore X.here hx rfl hd rfl hv hl k) k
theorem ow_iconst (X : Stand p l e R s m args below meth c T locs cells slots) (hx : p.tables.exec = Jvm.exec) {pc q : Nat} {Ls : Array Slot} {S : List Value} {i : Int} (v : Int32) (hd : decode c.code pc = .ok (.iconst i, 1)) (hq : pc + 1 = q) (hz : Int32.ofInt i = v) (k : ownEnds p e below s Q ck sk T (mkF m q Ls (.int v :: S))) : ownEnds p e below s Q ck sk T (mkF m pc Ls S) := by
  subst hq hz
  exact ownGo (fun _ k => XS.iconst X.here hx rfl hd k) k
theorem ow_bipush (X : Stand p l e R s m args below meth c T locs cells slots) (hx : p.tables.exec = Jvm.exec) {pc q : Nat} {Ls : Array Slot} {S : List Value} {i : Int} (v : Int32) (hd : decode c.code pc = .ok (.bipush i, 2)) (hq : pc + 2 = q) (hz : (Int8.ofInt i).toInt32 = v) (k : ownEnds p e below s Q ck sk T (mkF m q Ls (.int v :: S))) : ownEnds p e below s Q ck sk T (mkF m pc Ls S) := by
  subst hq hz
  exact ownGo (fun _ k => XS.bipush X.here hx rfl hd k) k
theorem ow_sipush (X : Stand p l e R s m args below meth c T locs cells slots) (hx : p.tables.exec = Jvm.exec) {pc q : Nat} {Ls : Array Slot} {S : List Value} {i : Int} (v : Int32) (hd : decode c.code pc = .ok (.sipush i, 3)) (hq : pc + 3 = q) (hz : (Int16.ofInt i).toInt32 = v) (k : ownEnds p e below s Q ck sk T (mkF m q Ls (.int v :: S))) : ownEnds p e below s Q ck sk T (mkF m pc Ls S) := by
  subst hq hz
  exact ownGo (fun _ k => XS.sipush X.here hx rfl hd k) k
theorem ow_lconst (X : Stand p l e R s m args below meth c T locs cells slots) (hx : p.tables.exec = Jvm.exec) {pc q : Nat} {Ls : Array Slot} {S : List Value} {i : Fin 2} (v : Int64) (hd : decode c.code pc = .ok (.lconst i, 1)) (hq : pc + 1 = q) (hz : Int64.ofNat i = v) (k : ownEnds p e below s Q ck sk T (mkF m q Ls (.long v :: S))) : ownEnds p e below s Q ck sk T (mkF m pc Ls S) := by
  subst hq hz
  exact ownGo (fun _ k => XS.lconst X.here hx rfl hd k) k
theorem ow_iadd (X : Stand p l e R s m args below meth c T locs cells slots) (hx : p.tables.exec = Jvm.exec) {pc q : Nat} {Ls : Array Slot} {S : List Value} {x y : Int32} (z : Int32) (hd : decode c.code pc = .ok (.iadd, 1)) (hq : pc + 1 = q) (hz : x + y = z) (k : ownEnds p e below s Q ck sk T (mkF m q Ls (.int z :: S))) : ownEnds p e below s Q ck sk T (mkF m pc Ls (.int y :: .int x :: S)) := by
  subst hq hz
  exact ownGo (fun _ k => XS.iadd X.here hx rfl hd rfl k) k
theorem ow_ladd (X : Stand p l e R s m args below meth c T locs cells slots) (hx : p.tables.exec = Jvm.exec) {pc q : Nat} {Ls : Array Slot} {S : List Value} {x y : Int64} (z : Int64) (hd : decode c.code pc = .ok (.ladd, 1)) (hq : pc + 1 = q) (hz : x + y = z) (k : ownEnds p e below s Q ck sk T (mkF m q Ls (.long z :: S))) : ownEnds p e below s Q ck sk T (mkF m pc Ls (.long y :: .long x :: S)) := by
  subst hq hz
  exact ownGo (fun _ k => XS.ladd X.here hx rfl hd rfl k) k
theorem ow_isub (X : Stand p l e R s m args below meth c T locs cells slots) (hx : p.tables.exec = Jvm.exec) {pc q : Nat} {Ls : Array Slot} {S : List Value} {x y : Int32} (z : Int32) (hd : decode c.code pc = .ok (.isub, 1)) (hq : pc + 1 = q) (hz : x - y = z) (k : ownEnds p e below s Q ck sk T (mkF m q Ls (.int z :: S))) : ownEnds p e below s Q ck sk T (mkF m pc Ls (.int y :: .int x :: S)) := by
  subst hq hz
  exact ownGo (fun _ k => XS.isub X.here hx rfl hd rfl k) k
theorem ow_lsub (X : Stand p l e R s m args below meth c T locs cells slots) (hx : p.tables.exec = Jvm.exec) {pc q : Nat} {Ls : Array Slot} {S : List Value} {x y : Int64} (z : Int64) (hd : decode c.code pc = .ok (.lsub, 1)) (hq : pc + 1 = q) (hz : x - y = z) (k : ownEnds p e below s Q ck sk T (mkF m q Ls (.long z :: S))) : ownEnds p e below s Q ck sk T (mkF m pc Ls (.long y :: .long x :: S)) := by
  subst hq hz
  exact ownGo (fun _ k => XS.lsub X.here hx rfl hd rfl k) k
theorem ow_imul (X : Stand p l e R s m args below meth c T locs cells slots) (hx : p.tables.exec = Jvm.exec) {pc q : Nat} {Ls : Array Slot} {S : List Value} {x y : Int32} (z : Int32) (hd : decode c.code pc = .ok (.imul, 1)) (hq : pc + 1 = q) (hz : x * y = z) (k : ownEnds p e below s Q ck sk T (mkF m q Ls (.int z :: S))) : ownEnds p e below s Q ck sk T (mkF m pc Ls (.int y :: .int x :: S)) := by
  subst hq hz
  exact ownGo (fun _ k => XS.imul X.here hx rfl hd rfl k) k
theorem ow_lmul (X : Stand p l e R s m args below meth c T locs cells slots) (hx : p.tables.exec = Jvm.exec) {pc q : Nat} {Ls : Array Slot} {S : List Value} {x y : Int64} (z : Int64) (hd : decode c.code pc = .ok (.lmul, 1)) (hq : pc + 1 = q) (hz : x * y = z) (k : ownEnds p e below s Q ck sk T (mkF m q Ls (.long z :: S))) : ownEnds p e below s Q ck sk T (mkF m pc Ls (.long y :: .long x :: S)) := by
  subst hq hz
  exact ownGo (fun _ k => XS.lmul X.here hx rfl hd rfl k) k
theorem ow_iand (X : Stand p l e R s m args below meth c T locs cells slots) (hx : p.tables.exec = Jvm.exec) {pc q : Nat} {Ls : Array Slot} {S : List Value} {x y : Int32} (z : Int32) (hd : decode c.code pc = .ok (.iand, 1)) (hq : pc + 1 = q) (hz : x &&& y = z) (k : ownEnds p e below s Q ck sk T (mkF m q Ls (.int z :: S))) : ownEnds p e below s Q ck sk T (mkF m pc Ls (.int y :: .int x :: S)) := by
  subst hq hz
  exact ownGo (fun _ k => XS.iand X.here hx rfl hd rfl k) k
theorem ow_land (X : Stand p l e R s m args below meth c T locs cells slots) (hx : p.tables.exec = Jvm.exec) {pc q : Nat} {Ls : Array Slot} {S : List Value} {x y : Int64} (z : Int64) (hd : decode c.code pc = .ok (.land, 1)) (hq : pc + 1 = q) (hz : x &&& y = z) (k : ownEnds p e below s Q ck sk T (mkF m q Ls (.long z :: S))) : ownEnds p e below s Q ck sk T (mkF m pc Ls (.long y :: .long x :: S)) := by
  subst hq hz
  exact ownGo (fun _ k => XS.land X.here hx rfl hd rfl k) k
theorem ow_ior (X : Stand p l e R s m args below meth c T locs cells slots) (hx : p.tables.exec = Jvm.exec) {pc q : Nat} {Ls : Array Slot} {S : List Value} {x y : Int32} (z : Int32) (hd : decode c.code pc = .ok (.ior, 1)) (hq : pc + 1 = q) (hz : x ||| y = z) (k : ownEnds p e below s Q ck sk T (mkF m q Ls (.int z :: S))) : ownEnds p e below s Q ck sk T (mkF m pc Ls (.int y :: .int x :: S)) := by
  subst hq hz
  exact ownGo (fun _ k => XS.ior X.here hx rfl hd rfl k) k
theorem ow_lor (X : Stand p l e R s m args below meth c T locs cells slots) (hx : p.tables.exec = Jvm.exec) {pc q : Nat} {Ls : Array Slot} {S : List Value} {x y : Int64} (z : Int64) (hd : decode c.code pc = .ok (.lor, 1)) (hq : pc + 1 = q) (hz : x ||| y = z) (k : ownEnds p e below s Q ck sk T (mkF m q Ls (.long z :: S))) : ownEnds p e below s Q ck sk T (mkF m pc Ls (.long y :: .long x :: S)) := by
  subst hq hz
  exact ownGo (fun _ k => XS.lor X.here hx rfl hd rfl k) k
theorem ow_ixor (X : Stand p l e R s m args below meth c T locs cells slots) (hx : p.tables.exec = Jvm.exec) {pc q : Nat} {Ls : Array Slot} {S : List Value} {x y : Int32} (z : Int32) (hd : decode c.code pc = .ok (.ixor, 1)) (hq : pc + 1 = q) (hz : x ^^^ y = z) (k : ownEnds p e below s Q ck sk T (mkF m q Ls (.int z :: S))) : ownEnds p e below s Q ck sk T (mkF m pc Ls (.int y :: .int x :: S)) := by
  subst hq hz
  exact ownGo (fun _ k => XS.ixor X.here hx rfl hd rfl k) k
theorem ow_lxor (X : Stand p l e R s m args below meth c T locs cells slots) (hx : p.tables.exec = Jvm.exec) {pc q : Nat} {Ls : Array Slot} {S : List Value} {x y : Int64} (z : Int64) (hd : decode c.code pc = .ok (.lxor, 1)) (hq : pc + 1 = q) (hz : x ^^^ y = z) (k : ownEnds p e below s Q ck sk T (mkF m q Ls (.long z :: S))) : ownEnds p e below s Q ck sk T (mkF m pc Ls (.long y :: .long x :: S)) := by
  subst hq hz
  exact ownGo (fun _ k => XS.lxor X.here hx rfl hd rfl k) k
theorem ow_ishl (X : Stand p l e R s m args below meth c T locs cells slots) (hx : p.tables.exec = Jvm.exec) {pc q : Nat} {Ls : Array Slot} {S : List Value} {x y : Int32} (z : Int32) (hd : decode c.code pc = .ok (.ishl, 1)) (hq : pc + 1 = q) (hz : x <<< (y &&& 31) = z) (k : ownEnds p e below s Q ck sk T (mkF m q Ls (.int z :: S))) : ownEnds p e below s Q ck sk T (mkF m pc Ls (.int y :: .int x :: S)) := by
  subst hq hz
  exact ownGo (fun _ k => XS.ishl X.here hx rfl hd rfl k) k
theorem ow_ishr (X : Stand p l e R s m args below meth c T locs cells slots) (hx : p.tables.exec = Jvm.exec) {pc q : Nat} {Ls : Array Slot} {S : List Value} {x y : Int32} (z : Int32) (hd : decode c.code pc = .ok (.ishr, 1)) (hq : pc + 1 = q) (hz : x >>> (y &&& 31) = z) (k : ownEnds p e below s Q ck sk T (mkF m q Ls (.int z :: S))) : ownEnds p e below s Q ck sk T (mkF m pc Ls (.int y :: .int x :: S)) := by
  subst hq hz
  exact ownGo (fun _ k => XS.ishr X.here hx rfl hd rfl k) k
theorem ow_iushr (X : Stand p l e R s m args below meth c T locs cells slots) (hx : p.tables.exec = Jvm.exec) {pc q : Nat} {Ls : Array Slot} {S : List Value} {x y : Int32} (z : Int32) (hd : decode c.code pc = .ok (.iushr, 1)) (hq : pc + 1 = q) (hz : (x.toUInt32 >>> (y &&& 31).toUInt32).toInt32 = z) (k : ownEnds p e below s Q ck sk T (mkF m q Ls (.int z :: S))) : ownEnds p e below s Q ck sk T (mkF m pc Ls (.int y :: .int x :: S)) := by
  subst hq hz
  exact ownGo (fun _ k => XS.iushr X.here hx rfl hd rfl k) k
theorem ow_lshl (X : Stand p l e R s m args below meth c T locs cells slots) (hx : p.tables.exec = Jvm.exec) {pc q : Nat} {Ls : Array Slot} {S : List Value} {x : Int64} {y : Int32} (z : Int64) (hd : decode c.code pc = .ok (.lshl, 1)) (hq : pc + 1 = q) (hz : x <<< (y &&& 0x3f).toInt64 = z) (k : ownEnds p e below s Q ck sk T (mkF m q Ls (.long z :: S))) : ownEnds p e below s Q ck sk T (mkF m pc Ls (.int y :: .long x :: S)) := by
  subst hq hz
  exact ownGo (fun _ k => XS.lshl X.here hx rfl hd rfl k) k
theorem ow_lshr (X : Stand p l e R s m args below meth c T locs cells slots) (hx : p.tables.exec = Jvm.exec) {pc q : Nat} {Ls : Array Slot} {S : List Value} {x : Int64} {y : Int32} (z : Int64) (hd : decode c.code pc = .ok (.lshr, 1)) (hq : pc + 1 = q) (hz : x >>> (y &&& 0x3f).toInt64 = z) (k : ownEnds p e below s Q ck sk T (mkF m q Ls (.long z :: S))) : ownEnds p e below s Q ck sk T (mkF m pc Ls (.int y :: .long x :: S)) := by
  subst hq hz
  exact ownGo (fun _ k => XS.lshr X.here hx rfl hd rfl k) k
theorem ow_lushr (X : Stand p l e R s m args below meth c T locs cells slots) (hx : p.tables.exec = Jvm.exec) {pc q : Nat} {Ls : Array Slot} {S : List Value} {x : Int64} {y : Int32} (z : Int64) (hd : decode c.code pc = .ok (.lushr, 1)) (hq : pc + 1 = q) (hz : (x.toUInt64 >>> (y &&& 0x3f).toInt64.toUInt64).toInt64 = z) (k : ownEnds p e below s Q ck sk T (mkF m q Ls (.long z :: S))) : ownEnds p e below s Q ck sk T (mkF m pc Ls (.int y :: .long x :: S)) := by
  subst hq hz
  exact ownGo (fun _ k => XS.lushr X.here hx rfl hd rfl k) k
theorem ow_ineg (X : Stand p l e R s m args below meth c T locs cells slots) (hx : p.tables.exec = Jvm.exec) {pc q : Nat} {Ls : Array Slot} {S : List Value} {x : Int32} (z : Int32) (hd : decode c.code pc = .ok (.ineg, 1)) (hq : pc + 1 = q) (hz : -x = z) (k : ownEnds p e below s Q ck sk T (mkF m q Ls (.int z :: S))) : ownEnds p e below s Q ck sk T (mkF m pc Ls (.int x :: S)) := by
  subst hq hz
  exact ownGo (fun _ k => XS.ineg X.here hx rfl hd rfl k) k
theorem ow_lneg (X : Stand p l e R s m args below meth c T locs cells slots) (hx : p.tables.exec = Jvm.exec) {pc q : Nat} {Ls : Array Slot} {S : List Value} {x : Int64} (z : Int64) (hd : decode c.code pc = .ok (.lneg, 1)) (hq : pc + 1 = q) (hz : -x = z) (k : ownEnds p e below s Q ck sk T (mkF m q Ls (.long z :: S))) : ownEnds p e below s Q ck sk T (mkF m pc Ls (.long x :: S)) := by
  subst hq hz
  exact ownGo (fun _ k => XS.lneg X.here hx rfl hd rfl k) k
theorem ow_i2l (X : Stand p l e R s m args below meth c T locs cells slots) (hx : p.tables.exec = Jvm.exec) {pc q : Nat} {Ls : Array Slot} {S : List Value} {x : Int32} (z : Int64) (hd : decode c.code pc = .ok (.i2l, 1)) (hq : pc + 1 = q) (hz : x.toInt64 = z) (k : ownEnds p e below s Q ck sk T (mkF m q Ls (.long z :: S))) : ownEnds p e below s Q ck sk T (mkF m pc Ls (.int x :: S)) := by
  subst hq hz
  exact ownGo (fun _ k => XS.i2l X.here hx rfl hd rfl k) k
theorem ow_l2i (X : Stand p l e R s m args below meth c T locs cells slots) (hx : p.tables.exec = Jvm.exec) {pc q : Nat} {Ls : Array Slot} {S : List Value} {x : Int64} (z : Int32) (hd : decode c.code pc = .ok (.l2i, 1)) (hq : pc + 1 = q) (hz : x.toInt32 = z) (k : ownEnds p e below s Q ck sk T (mkF m q Ls (.int z :: S))) : ownEnds p e below s Q ck sk T (mkF m pc Ls (.long x :: S)) := by
  subst hq hz
  exact ownGo (fun _ k => XS.l2i X.here hx rfl hd rfl k) k
theorem ow_i2b (X : Stand p l e R s m args below meth c T locs cells slots) (hx : p.tables.exec = Jvm.exec) {pc q : Nat} {Ls : Array Slot} {S : List Value} {x : Int32} (z : Int32) (hd : decode c.code pc = .ok (.i2b, 1)) (hq : pc + 1 = q) (hz : x.toInt8.toInt32 = z) (k : ownEnds p e below s Q ck sk T (mkF m q Ls (.int z :: S))) : ownEnds p e below s Q ck sk T (mkF m pc Ls (.int x :: S)) := by
  subst hq hz
  exact ownGo (fun _ k => XS.i2b X.here hx rfl hd rfl k) k
theorem ow_i2s (X : Stand p l e R s m args below meth c T locs cells slots) (hx : p.tables.exec = Jvm.exec) {pc q : Nat} {Ls : Array Slot} {S : List Value} {x : Int32} (z : Int32) (hd : decode c.code pc = .ok (.i2s, 1)) (hq : pc + 1 = q) (hz : x.toInt16.toInt32 = z) (k : ownEnds p e below s Q ck sk T (mkF m q Ls (.int z :: S))) : ownEnds p e below s Q ck sk T (mkF m pc Ls (.int x :: S)) := by
  subst hq hz
  exact ownGo (fun _ k => XS.i2s X.here hx rfl hd rfl k) k
theorem ow_i2c (X : Stand p l e R s m args below meth c T locs cells slots) (hx : p.tables.exec = Jvm.exec) {pc q : Nat} {Ls : Array Slot} {S : List Value} {x : Int32} (z : Int32) (hd : decode c.code pc = .ok (.i2c, 1)) (hq : pc + 1 = q) (hz : x.toUInt32.toUInt16.toUInt32.toInt32 = z) (k : ownEnds p e below s Q ck sk T (mkF m q Ls (.int z :: S))) : ownEnds p e below s Q ck sk T (mkF m pc Ls (.int x :: S)) := by
  subst hq hz
  exact ownGo (fun _ k => XS.i2c X.here hx rfl hd rfl k) k
theorem ow_lcmp (X : Stand p l e R s m args below meth c T locs cells slots) (hx : p.tables.exec = Jvm.exec) {pc q : Nat} {Ls : Array Slot} {S : List Value} {x y : Int64} (z : Int32) (hd : decode c.code pc = .ok (.lcmp, 1)) (hq : pc + 1 = q) (hz : Jvm.Free.XT.cmpL x y = z) (k : ownEnds p e below s Q ck sk T (mkF m q Ls (.int z :: S))) : ownEnds p e below s Q ck sk T (mkF m pc Ls (.long y :: .long x :: S)) := by
  subst hq hz
  exact ownGo (fun _ k => Jvm.Free.XT.lcmp X.here hx rfl hd rfl k) k
theorem ow_idiv (X : Stand p l e R s m args below meth c T locs cells slots) (hx : p.tables.exec = Jvm.exec) {pc q : Nat} {Ls : Array Slot} {S : List Value} {x y : Int32} (z : Int32) (hd : decode c.code pc = .ok (.idiv, 1)) (hq : pc + 1 = q) (hy : y ≠ 0) (hz : x / y = z) (k : ownEnds p e below s Q ck sk T (mkF m q Ls (.int z :: S))) : ownEnds p e below s Q ck sk T (mkF m pc Ls (.int y :: .int x :: S)) := by
  subst hq hz
  exact ownGo (fun _ k => XS.idiv X.here hx rfl hd rfl hy k) k
theorem ow_irem (X : Stand p l e R s m args below meth c T locs cells slots) (hx : p.tables.exec = Jvm.exec) {pc q : Nat} {Ls : Array Slot} {S : List Value} {x y : Int32} (z : Int32) (hd : decode c.code pc = .ok (.irem, 1)) (hq : pc + 1 = q) (hy : y ≠ 0) (hz : x % y = z) (k : ownEnds p e below s Q ck sk T (mkF m q Ls (.int z :: S))) : ownEnds p e below s Q ck sk T (mkF m pc Ls (.int y :: .int x :: S)) := by
  subst hq hz
  exact ownGo (fun _ k => iremM X hx rfl hd rfl hy k) k
theorem ow_ldiv (X : Stand p l e R s m args below meth c T locs cells slots) (hx : p.tables.exec = Jvm.exec) {pc q : Nat} {Ls : Array Slot} {S : List Value} {x y : Int64} (z : Int64) (hd : decode c.code pc = .ok (.ldiv, 1)) (hq : pc + 1 = q) (hy : y ≠ 0) (hz : x / y = z) (k : ownEnds p e below s Q ck sk T (mkF m q Ls (.long z :: S))) : ownEnds p e below s Q ck sk T (mkF m pc Ls (.long y :: .long x :: S)) := by
  subst hq hz
  exact ownGo (fun _ k => XS.ldiv X.here hx rfl hd rfl hy k) k
theorem ow_lrem (X : Stand p l e R s m args below meth c T locs cells slots) (hx : p.tables.exec = Jvm.exec) {pc q : Nat} {Ls : Array Slot} {S : List Value} {x y : Int64} (z : Int64) (hd : decode c.code pc = .ok (.lrem, 1)) (hq : pc + 1 = q) (hy : y ≠ 0) (hz : x - (x / y) * y = z) (k : ownEnds p e below s Q ck sk T (mkF m q Ls (.long z :: S))) : ownEnds p e below s Q ck sk T (mkF m pc Ls (.long y :: .long x :: S)) := by
  subst hq hz
  exact ownGo (fun _ k => XS.lrem X.here hx rfl hd rfl hy k) k
theorem ow_iinc (X : Stand p l e R s m args below meth c T locs cells slots) (hx : p.tables.exec = Jvm.exec) {pc q : Nat} {Ls : Array Slot} {S : List Value} {k : Nat} {i : Int} {x : Int32} {L' : Array Slot} (hd : decode c.code pc = .ok (.iinc k i, 3)) (hq : pc + 3 = q) (hl : Ls[k]? = some (.val (.int x))) (hl' : storeLocals Ls k (.int (x + Int32.ofInt i)) = some L') (k : ownEnds p e below s Q ck sk T (mkF m q L' S)) : ownEnds p e below s Q ck sk T (mkF m pc Ls S) := by
  subst hq
  exact ownGo (fun _ k => XS.iinc X.here hx rfl hd hl hl' k) k
theorem ow_dup (X : Stand p l e R s m args below meth c T locs cells slots) (hx : p.tables.exec = Jvm.exec) {pc q : Nat} {Ls : Array Slot} {S : List Value} {v : Value} (hd : decode c.code pc = .ok (.dup, 1)) (hq : pc + 1 = q) (hc : v.category = 1) (k : ownEnds p e below s Q ck sk T (mkF m q Ls (v :: v :: S))) : ownEnds p e below s Q ck sk T (mkF m pc Ls (v :: S)) := by
  subst hq
  exact ownGo (fun _ k => XS.dup X.here hx rfl hd rfl hc k) k
theorem ow_dupX1 (X : Stand p l e R s m args below meth c T locs cells slots) (hx : p.tables.exec = Jvm.exec) {pc q : Nat} {Ls : Array Slot} {S : List Value} {v w : Value} (hd : decode c.code pc = .ok (.dup_x1, 1)) (hq : pc + 1 = q) (hc : v.category = 1) (hc' : w.category = 1) (k : ownEnds p e below s Q ck sk T (mkF m q Ls (v :: w :: v :: S))) : ownEnds p e below s Q ck sk T (mkF m pc Ls (v :: w :: S)) := by
  subst hq
  exact ownGo (fun _ k => XS.dupX1 X.here hx rfl hd rfl hc hc' k) k
theorem ow_dup2 (X : Stand p l e R s m args below meth c T locs cells slots) (hx : p.tables.exec = Jvm.exec) {pc q : Nat} {Ls : Array Slot} {S : List Value} {v w : Value} (hd : decode c.code pc = .ok (.dup2, 1)) (hq : pc + 1 = q) (hc : v.category = 1) (hc' : w.category = 1) (k : ownEnds p e below s Q ck sk T (mkF m q Ls (v :: w :: v :: w :: S))) : ownEnds p e below s Q ck sk T (mkF m pc Ls (v :: w :: S)) := by
  subst hq
  exact ownGo (fun _ k => Jvm.Free.XT.dup2 X.here hx rfl hd rfl hc hc' k) k
theorem ow_dup2L (X : Stand p l e R s m args below meth c T locs cells slots) (hx : p.tables.exec = Jvm.exec) {pc q : Nat} {Ls : Array Slot} {S : List Value} {v : Int64} (hd : decode c.code pc = .ok (.dup2, 1)) (hq : pc + 1 = q) (k : ownEnds p e below s Q ck sk T (mkF m q Ls (.long v :: .long v :: S))) : ownEnds p e below s Q ck sk T (mkF m pc Ls (.long v :: S)) := by
  subst hq
  exact ownGo (fun _ k => Jvm.Free.XT.dup2L X.here hx rfl hd rfl k) k
theorem ow_pop (X : Stand p l e R s m args below meth c T locs cells slots) (hx : p.tables.exec = Jvm.exec) {pc q : Nat} {Ls : Array Slot} {S : List Value} {v : Value} (hd : decode c.code pc = .ok (.pop, 1)) (hq : pc + 1 = q) (hc : v.category = 1) (k : ownEnds p e below s Q ck sk T (mkF m q Ls S)) : ownEnds p e below s Q ck sk T (mkF m pc Ls (v :: S)) := by
  subst hq
  exact ownGo (fun _ k => XS.pop X.here hx rfl hd rfl hc k) k
theorem ow_aconstNull (X : Stand p l e R s m args below meth c T locs cells slots) (hx : p.tables.exec = Jvm.exec) {pc q : Nat} {Ls : Array Slot} {S : List Value}  (hd : decode c.code pc = .ok (.aconst_null, 1)) (hq : pc + 1 = q) (k : ownEnds p e below s Q ck sk T (mkF m q Ls (.null :: S))) : ownEnds p e below s Q ck sk T (mkF m pc Ls S) := by
  subst hq
  exact ownGo (fun _ k => XS.aconstNull X.here hx rfl hd k) k
theorem ow_goto (X : Stand p l e R s m args below meth c T locs cells slots) (hx : p.tables.exec = Jvm.exec) {pc q : Nat} {Ls : Array Slot} {S : List Value} {o : Int} (hd : decode c.code pc = .ok (.goto o, 3)) (ho : 0 ≤ (pc : Int) + o) (hp : ((pc : Int) + o).toNat = q) (k : ownEnds p e below s Q ck sk T (mkF m q Ls S)) : ownEnds p e below s Q ck sk T (mkF m pc Ls S) :=
  ownGo (fun _ k => XS.goto X.here hx rfl rfl hd ho hp k) k
theorem ow_ifYes (X : Stand p l e R s m args below meth c T locs cells slots) (hx : p.tables.exec = Jvm.exec) {pc q : Nat} {Ls : Array Slot} {S : List Value} {cd : ClassFile.Cond} {o : Int} {x : Int32} (hd : decode c.code pc = .ok (.ifCond cd o, 3)) (hc : ifCond.holds cd x = true) (ho : 0 ≤ (pc : Int) + o) (hp : ((pc : Int) + o).toNat = q) (k : ownEnds p e below s Q ck sk T (mkF m q Ls S)) : ownEnds p e below s Q ck sk T (mkF m pc Ls (.int x :: S)) :=
  ownGo (fun _ k => XS.ifYes X.here hx rfl rfl hd rfl hc ho hp k) k
theorem ow_ifNo (X : Stand p l e R s m args below meth c T locs cells slots) (hx : p.tables.exec = Jvm.exec) {pc q : Nat} {Ls : Array Slot} {S : List Value} {cd : ClassFile.Cond} {o : Int} {x : Int32} (hd : decode c.code pc = .ok (.ifCond cd o, 3)) (hq : pc + 3 = q) (hc : ifCond.holds cd x = false) (k : ownEnds p e below s Q ck sk T (mkF m q Ls S)) : ownEnds p e below s Q ck sk T (mkF m pc Ls (.int x :: S)) := by
  subst hq
  exact ownGo (fun _ k => XS.ifNo X.here hx rfl hd rfl hc k) k
theorem ow_icmpYes (X : Stand p l e R s m args below meth c T locs cells slots) (hx : p.tables.exec = Jvm.exec) {pc q : Nat} {Ls : Array Slot} {S : List Value} {cd : ClassFile.Cond} {o : Int} {x y : Int32} (hd : decode c.code pc = .ok (.if_icmp cd o, 3)) (hc : if_icmp.holds cd x y = true) (ho : 0 ≤ (pc : Int) + o) (hp : ((pc : Int) + o).toNat = q) (k : ownEnds p e below s Q ck sk T (mkF m q Ls S)) : ownEnds p e below s Q ck sk T (mkF m pc Ls (.int y :: .int x :: S)) :=
  ownGo (fun _ k => XS.icmpYes X.here hx rfl rfl hd rfl hc ho hp k) k
theorem ow_icmpNo (X : Stand p l e R s m args below meth c T locs cells slots) (hx : p.tables.exec = Jvm.exec) {pc q : Nat} {Ls : Array Slot} {S : List Value} {cd : ClassFile.Cond} {o : Int} {x y : Int32} (hd : decode c.code pc = .ok (.if_icmp cd o, 3)) (hq : pc + 3 = q) (hc : if_icmp.holds cd x y = false) (k : ownEnds p e below s Q ck sk T (mkF m q Ls S)) : ownEnds p e below s Q ck sk T (mkF m pc Ls (.int y :: .int x :: S)) := by
  subst hq
  exact ownGo (fun _ k => XS.icmpNo X.here hx rfl hd rfl hc k) k
end OwnSteps
def own_min (a b : Int32) : Int32 := if b < a then b else a
def own_cont (f l x : Int32) : Int32 := if x < f then 0 else if l < x then 0 else 1
theorem own_u {a v m : Int32} (h : (a &&& (2147483647 : Int32)) % m = v) (hm : 0 < m.toInt) : 0 ≤ v.toInt ∧ v.toInt < m.toInt := by
  have h1 := Jvm.Kit.i32_mask a 2147483647 (k := 31) (by decide) (by decide)
  have h2 : 0 ≤ (a &&& (2147483647 : Int32)).toInt := by rw [h1]; exact Int.emod_nonneg _ (by decide)
  rw [← h, Jvm.Kit.i32_rem_nonneg h2]
  exact ⟨Int.emod_nonneg _ (by omega), Int.emod_lt_of_pos _ hm⟩
theorem own_f {a f : Int32} (h : (a &&& (2147483647 : Int32)) % (1114112 : Int32) = f) : 0 ≤ f.toInt ∧ f.toInt ≤ 1114111 := by
  have := own_u h (by decide)
  simp only [Int32.reduceToInt] at this
  omega
theorem own_sub {f : Int32} (h : 0 ≤ f.toInt ∧ f.toInt ≤ 1114111) : ((1114112 : Int32) - f).toInt = 1114112 - f.toInt := by
  rw [Jvm.Kit.i32_sub (by simp only [Int32.reduceToInt]; omega) (by simp only [Int32.reduceToInt]; omega)]
  simp only [Int32.reduceToInt]
theorem own_nz {a f : Int32} (h : (a &&& (2147483647 : Int32)) % (1114112 : Int32) = f) : ((1114112 : Int32) - f) ≠ 0 := by
  intro q
  have h1 := own_f h
  have h2 := own_sub h1
  rw [q] at h2
  simp only [Int32.reduceToInt] at h2
  omega
theorem own_l0 {a f : Int32} (h : (a &&& (2147483647 : Int32)) % (1114112 : Int32) = f) : 0 ≤ f.toInt ∧ f.toInt ≤ (1114111 : Int32).toInt ∧ (1114111 : Int32).toInt ≤ 1114111 := by
  have := own_f h
  simp only [Int32.reduceToInt]
  omega
theorem own_l1 {a f : Int32} (h : (a &&& (2147483647 : Int32)) % (1114112 : Int32) = f) : 0 ≤ f.toInt ∧ f.toInt ≤ f.toInt ∧ f.toInt ≤ 1114111 := by
  have := own_f h
  omega
theorem own_l2 {a b f l : Int32} (h : (a &&& (2147483647 : Int32)) % (1114112 : Int32) = f) (e : (f + ((b &&& (2147483647 : Int32)) % ((1114112 : Int32) - f))) = l) : 0 ≤ f.toInt ∧ f.toInt ≤ l.toInt ∧ l.toInt ≤ 1114111 := by
  have h1 := own_f h
  have h2 := own_sub h1
  have h3 := own_u (a := b) (m := (1114112 : Int32) - f) rfl (by omega)
  rw [h2] at h3
  rw [← e, Jvm.Kit.i32_add (by omega) (by omega)]
  omega
theorem own_k1 {f l : Int32} (h : 0 ≤ f.toInt ∧ f.toInt ≤ l.toInt ∧ l.toInt ≤ 1114111) : ¬ own_cont f l f = (0 : Int32) := by
  unfold own_cont
  rw [if_neg (by simp only [Int32.lt_iff_toInt_lt]; omega), if_neg (by simp only [Int32.lt_iff_toInt_lt]; omega)]
  decide
theorem own_k2 {f l : Int32} (h : 0 ≤ f.toInt ∧ f.toInt ≤ l.toInt ∧ l.toInt ≤ 1114111) : ¬ own_cont f l l = (0 : Int32) := by
  unfold own_cont
  rw [if_neg (by simp only [Int32.lt_iff_toInt_lt]; omega), if_neg (by simp only [Int32.lt_iff_toInt_lt]; omega)]
  decide
theorem own_k3 {f l v : Int32} (h : 0 ≤ f.toInt ∧ f.toInt ≤ l.toInt ∧ l.toInt ≤ 1114111) (e : (f - (1 : Int32)) = v) : own_cont f l v = (0 : Int32) := by
  unfold own_cont
  have := Jvm.Kit.i32_sub (p := f) (q := 1) (by simp only [Int32.reduceToInt]; omega) (by simp only [Int32.reduceToInt]; omega)
  rw [e] at this
  simp only [Int32.reduceToInt] at this
  rw [if_pos (by simp only [Int32.lt_iff_toInt_lt]; omega)]
theorem own_k4 {f l v : Int32} (h : 0 ≤ f.toInt ∧ f.toInt ≤ l.toInt ∧ l.toInt ≤ 1114111) (e : (l + (1 : Int32)) = v) : own_cont f l v = (0 : Int32) := by
  unfold own_cont
  have := Jvm.Kit.i32_add (p := l) (q := 1) (by simp only [Int32.reduceToInt]; omega) (by simp only [Int32.reduceToInt]; omega)
  rw [e] at this
  simp only [Int32.reduceToInt] at this
  rw [if_neg (by simp only [Int32.lt_iff_toInt_lt]; omega), if_pos (by simp only [Int32.lt_iff_toInt_lt]; omega)]
theorem own_mx {f l : Int32} (h : 0 ≤ f.toInt ∧ f.toInt ≤ l.toInt ∧ l.toInt ≤ 1114111) (hm : ¬ l < (1114111 : Int32)) : l = (1114111 : Int32) := by
  simp only [← Int32.toInt_inj, Int32.lt_iff_toInt_lt, Int32.reduceToInt] at hm ⊢
  omega
theorem own_nmx {l : Int32} (hm : l < (1114111 : Int32)) : ¬ l = (1114111 : Int32) := fun q => by
  subst q; exact absurd hm (by decide)
theorem own_d8_0 : decode jdk_29_method_69_code 0 = .ok (.iload_n 0, 1) := by decide +kernel
theorem own_d8_1 : decode jdk_29_method_69_code 1 = .ok (.iload_n 1, 1) := by decide +kernel
theorem own_d8_2 : decode jdk_29_method_69_code 2 = .ok (.if_icmp .gt 7, 3) := by decide +kernel
theorem own_d8_9 : decode jdk_29_method_69_code 9 = .ok (.iload_n 1, 1) := by decide +kernel
theorem own_d8_10 : decode jdk_29_method_69_code 10 = .ok (.ireturn, 1) := by decide +kernel
theorem own_d8_5 : decode jdk_29_method_69_code 5 = .ok (.iload_n 0, 1) := by decide +kernel
theorem own_d8_6 : decode jdk_29_method_69_code 6 = .ok (.goto 4, 3) := by decide +kernel
theorem own_ef8_min (m : MethodId) (p0 : Int32) (p1 : Int32) : entryFrame m #[(.int p0), (.int p1)] 2 = mkF m 0 #[iv p0, iv p1] [] := by first | (simp [entryFrame, mkF, argsToLocals, Value.category]; done) | rfl
def Q_min (Z : State) (p0 : Int32) (p1 : Int32) (h0 : Heap) (n0 : Nat) (v : Option Value) (h : Heap) (L : List Loc) : Prop := v = some (.int (own_min p0 p1)) ∧ Fr n0 L ∧ h = h0
set_option maxRecDepth 65536 in
set_option maxHeartbeats 40000000 in
theorem rm_min (l : Launch) (Z : State) (av0 : Array Value) (hw : ∀ d ∈ tables_1, d.before av0 Z = true) (ws : List Jvm.Cond) (p0 : Int32) (p1 : Int32) (h0 : Heap) (n0 : Nat) (Z0 : n0 ≤ h0.size) :
    MetFree l (⟨"java/lang/Math", "min", "(II)I"⟩ : MethodName) (head1 (Jvm.Cond.code (⟨"java/lang/Math", "min", "(II)I"⟩ : MethodName) jdk_29_method_69_code 2 (some .int) :: ws) ({ frames := 0, cells := 0, slots := 0, locals := 0 } : Room)) (fun a U => a = #[(.int p0), (.int p1)] ∧ Z.Warmed39 U.vm ∧ U.heap = h0) (fun _ _ _ _ _ => True) (fun _ U o U' => ∃ v L, o = .returned v ∧ (Q_min Z p0 p1 h0 n0) v U'.heap L ∧ FrameEnd U o U' L ({ frames := 0, cells := 0, slots := 0, locals := 0 } : Room).cells ({ frames := 0, cells := 0, slots := 0, locals := 0 } : Room).slots) := by
  refine MetFree.of_bodySF (Jvm.Free.JP.mathPlain rfl (by decide +kernel)) hisR ?_
  intro p e s m args below meth c s₁ Bd hml0 hP hK
  obtain ⟨rfl, hZ, hh⟩ := hP
  have hx := Bd.exec
  have hby := Bd.bytes
  have hml : c.maxLocals = 2 := hml0
  have hown : s.vm.findClass "java/lang/Math" = some m.cls := findClass_of_methodNamed Bd.named
  have hnm := (name_of_methodNamed Bd.named Bd.method).1
  have hlk : meth.locks = false := BodyLoose.notSynchronized Bd
  have X0 : Stand p l e ({ frames := 0, cells := 0, slots := 0, locals := 0 } : Room) s m #[(.int p0), (.int p1)] below meth c s₁ [] 0 0 := Stand.of_body Bd
  have e0 : s₁.heap = h0 := by rw [← hh, Bd.state]; rfl
  have N0 := Fr.nil n0
  have K0 : Keep h0 h0 [] := Keep.refl _ _
  show ownEnds p e below s (Q_min Z p0 p1 h0 n0) ({ frames := 0, cells := 0, slots := 0, locals := 0 } : Room).cells ({ frames := 0, cells := 0, slots := 0, locals := 0 } : Room).slots s₁ (entryFrame m #[(.int p0), (.int p1)] 2)
  refine ownCast (own_ef8_min m p0 p1) ?_
  refine ow_iloadN (q := 1) X0 hx (hb hby own_d8_0) rfl rfl ?_
  refine ow_iloadN (q := 2) X0 hx (hb hby own_d8_1) rfl rfl ?_
  by_cases hc2_1 : p1 < p0
  · refine ow_icmpYes (q := 9) X0 hx (hb hby own_d8_2) (Jvm.Free.XT.ii_gt_t hc2_1) (by decide) (by decide) ?_
    refine ow_iloadN (q := 10) X0 hx (hb hby own_d8_9) rfl rfl ?_
    refine ownRetI X0 hx Bd.returns (hb hby own_d8_10) hlk (by decide) (by decide) ?_
    rw [e0]
    refine ⟨congrArg (fun q => some (Value.int q)) ?_, N0, rfl⟩
    simp [own_min, hc2_1]
  · refine ow_icmpNo (q := 5) X0 hx (hb hby own_d8_2) rfl (Jvm.Free.XT.ii_gt_f hc2_1) ?_
    refine ow_iloadN (q := 6) X0 hx (hb hby own_d8_5) rfl rfl ?_
    refine ow_goto (q := 10) X0 hx (hb hby own_d8_6) (by decide) (by decide) ?_
    refine ownRetI X0 hx Bd.returns (hb hby own_d8_10) hlk (by decide) (by decide) ?_
    rw [e0]
    refine ⟨congrArg (fun q => some (Value.int q)) ?_, N0, rfl⟩
    simp [own_min, hc2_1]
theorem own_ef8_min_2_0 (m : MethodId)  : entryFrame m #[(.int (2 : Int32)), (.int (0 : Int32))] 2 = mkF m 0 #[iv (2 : Int32), iv (0 : Int32)] [] := by first | (simp [entryFrame, mkF, argsToLocals, Value.category]; done) | rfl
def Q_min_2_0 (Z : State)  (h0 : Heap) (n0 : Nat) (v : Option Value) (h : Heap) (L : List Loc) : Prop := v = some (.int (0 : Int32)) ∧ Fr n0 L ∧ h = h0
set_option maxRecDepth 65536 in
set_option maxHeartbeats 40000000 in
theorem rm_min_2_0 (l : Launch) (Z : State) (av0 : Array Value) (hw : ∀ d ∈ tables_1, d.before av0 Z = true) (ws : List Jvm.Cond)  (h0 : Heap) (n0 : Nat) (Z0 : n0 ≤ h0.size) :
    MetFree l (⟨"java/lang/Math", "min", "(II)I"⟩ : MethodName) (head1 (Jvm.Cond.code (⟨"java/lang/Math", "min", "(II)I"⟩ : MethodName) jdk_29_method_69_code 2 (some .int) :: ws) ({ frames := 0, cells := 0, slots := 0, locals := 0 } : Room)) (fun a U => a = #[(.int (2 : Int32)), (.int (0 : Int32))] ∧ Z.Warmed39 U.vm ∧ U.heap = h0) (fun _ _ _ _ _ => True) (fun _ U o U' => ∃ v L, o = .returned v ∧ (Q_min_2_0 Z  h0 n0) v U'.heap L ∧ FrameEnd U o U' L ({ frames := 0, cells := 0, slots := 0, locals := 0 } : Room).cells ({ frames := 0, cells := 0, slots := 0, locals := 0 } : Room).slots) := by
  refine MetFree.of_bodySF (Jvm.Free.JP.mathPlain rfl (by decide +kernel)) hisR ?_
  intro p e s m args below meth c s₁ Bd hml0 hP hK
  obtain ⟨rfl, hZ, hh⟩ := hP
  have hx := Bd.exec
  have hby := Bd.bytes
  have hml : c.maxLocals = 2 := hml0
  have hown : s.vm.findClass "java/lang/Math" = some m.cls := findClass_of_methodNamed Bd.named
  have hnm := (name_of_methodNamed Bd.named Bd.method).1
  have hlk : meth.locks = false := BodyLoose.notSynchronized Bd
  have X0 : Stand p l e ({ frames := 0, cells := 0, slots := 0, locals := 0 } : Room) s m #[(.int (2 : Int32)), (.int (0 : Int32))] below meth c s₁ [] 0 0 := Stand.of_body Bd
  have e0 : s₁.heap = h0 := by rw [← hh, Bd.state]; rfl
  have N0 := Fr.nil n0
  have K0 : Keep h0 h0 [] := Keep.refl _ _
  show ownEnds p e below s (Q_min_2_0 Z  h0 n0) ({ frames := 0, cells := 0, slots := 0, locals := 0 } : Room).cells ({ frames := 0, cells := 0, slots := 0, locals := 0 } : Room).slots s₁ (entryFrame m #[(.int (2 : Int32)), (.int (0 : Int32))] 2)
  refine ownCast (own_ef8_min_2_0 m ) ?_
  refine ow_iloadN (q := 1) X0 hx (hb hby own_d8_0) rfl rfl ?_
  refine ow_iloadN (q := 2) X0 hx (hb hby own_d8_1) rfl rfl ?_
  refine ow_icmpYes (q := 9) X0 hx (hb hby own_d8_2) (Jvm.Free.XT.ii_gt_t (by decide)) (by decide) (by decide) ?_
  refine ow_iloadN (q := 10) X0 hx (hb hby own_d8_9) rfl rfl ?_
  refine ownRetI X0 hx Bd.returns (hb hby own_d8_10) hlk (by decide) (by decide) ?_
  rw [e0]
  exact ⟨rfl, N0, rfl⟩
theorem own_ef8_min_2_1 (m : MethodId)  : entryFrame m #[(.int (2 : Int32)), (.int (1 : Int32))] 2 = mkF m 0 #[iv (2 : Int32), iv (1 : Int32)] [] := by first | (simp [entryFrame, mkF, argsToLocals, Value.category]; done) | rfl
def Q_min_2_1 (Z : State)  (h0 : Heap) (n0 : Nat) (v : Option Value) (h : Heap) (L : List Loc) : Prop := v = some (.int (1 : Int32)) ∧ Fr n0 L ∧ h = h0
set_option maxRecDepth 65536 in
set_option maxHeartbeats 40000000 in
theorem rm_min_2_1 (l : Launch) (Z : State) (av0 : Array Value) (hw : ∀ d ∈ tables_1, d.before av0 Z = true) (ws : List Jvm.Cond)  (h0 : Heap) (n0 : Nat) (Z0 : n0 ≤ h0.size) :
    MetFree l (⟨"java/lang/Math", "min", "(II)I"⟩ : MethodName) (head1 (Jvm.Cond.code (⟨"java/lang/Math", "min", "(II)I"⟩ : MethodName) jdk_29_method_69_code 2 (some .int) :: ws) ({ frames := 0, cells := 0, slots := 0, locals := 0 } : Room)) (fun a U => a = #[(.int (2 : Int32)), (.int (1 : Int32))] ∧ Z.Warmed39 U.vm ∧ U.heap = h0) (fun _ _ _ _ _ => True) (fun _ U o U' => ∃ v L, o = .returned v ∧ (Q_min_2_1 Z  h0 n0) v U'.heap L ∧ FrameEnd U o U' L ({ frames := 0, cells := 0, slots := 0, locals := 0 } : Room).cells ({ frames := 0, cells := 0, slots := 0, locals := 0 } : Room).slots) := by
  refine MetFree.of_bodySF (Jvm.Free.JP.mathPlain rfl (by decide +kernel)) hisR ?_
  intro p e s m args below meth c s₁ Bd hml0 hP hK
  obtain ⟨rfl, hZ, hh⟩ := hP
  have hx := Bd.exec
  have hby := Bd.bytes
  have hml : c.maxLocals = 2 := hml0
  have hown : s.vm.findClass "java/lang/Math" = some m.cls := findClass_of_methodNamed Bd.named
  have hnm := (name_of_methodNamed Bd.named Bd.method).1
  have hlk : meth.locks = false := BodyLoose.notSynchronized Bd
  have X0 : Stand p l e ({ frames := 0, cells := 0, slots := 0, locals := 0 } : Room) s m #[(.int (2 : Int32)), (.int (1 : Int32))] below meth c s₁ [] 0 0 := Stand.of_body Bd
  have e0 : s₁.heap = h0 := by rw [← hh, Bd.state]; rfl
  have N0 := Fr.nil n0
  have K0 : Keep h0 h0 [] := Keep.refl _ _
  show ownEnds p e below s (Q_min_2_1 Z  h0 n0) ({ frames := 0, cells := 0, slots := 0, locals := 0 } : Room).cells ({ frames := 0, cells := 0, slots := 0, locals := 0 } : Room).slots s₁ (entryFrame m #[(.int (2 : Int32)), (.int (1 : Int32))] 2)
  refine ownCast (own_ef8_min_2_1 m ) ?_
  refine ow_iloadN (q := 1) X0 hx (hb hby own_d8_0) rfl rfl ?_
  refine ow_iloadN (q := 2) X0 hx (hb hby own_d8_1) rfl rfl ?_
  refine ow_icmpYes (q := 9) X0 hx (hb hby own_d8_2) (Jvm.Free.XT.ii_gt_t (by decide)) (by decide) (by decide) ?_
  refine ow_iloadN (q := 10) X0 hx (hb hby own_d8_9) rfl rfl ?_
  refine ownRetI X0 hx Bd.returns (hb hby own_d8_10) hlk (by decide) (by decide) ?_
  rw [e0]
  exact ⟨rfl, N0, rfl⟩
theorem own_ef8_min_2_2 (m : MethodId)  : entryFrame m #[(.int (2 : Int32)), (.int (2 : Int32))] 2 = mkF m 0 #[iv (2 : Int32), iv (2 : Int32)] [] := by first | (simp [entryFrame, mkF, argsToLocals, Value.category]; done) | rfl
def Q_min_2_2 (Z : State)  (h0 : Heap) (n0 : Nat) (v : Option Value) (h : Heap) (L : List Loc) : Prop := v = some (.int (2 : Int32)) ∧ Fr n0 L ∧ h = h0
set_option maxRecDepth 65536 in
set_option maxHeartbeats 40000000 in
theorem rm_min_2_2 (l : Launch) (Z : State) (av0 : Array Value) (hw : ∀ d ∈ tables_1, d.before av0 Z = true) (ws : List Jvm.Cond)  (h0 : Heap) (n0 : Nat) (Z0 : n0 ≤ h0.size) :
    MetFree l (⟨"java/lang/Math", "min", "(II)I"⟩ : MethodName) (head1 (Jvm.Cond.code (⟨"java/lang/Math", "min", "(II)I"⟩ : MethodName) jdk_29_method_69_code 2 (some .int) :: ws) ({ frames := 0, cells := 0, slots := 0, locals := 0 } : Room)) (fun a U => a = #[(.int (2 : Int32)), (.int (2 : Int32))] ∧ Z.Warmed39 U.vm ∧ U.heap = h0) (fun _ _ _ _ _ => True) (fun _ U o U' => ∃ v L, o = .returned v ∧ (Q_min_2_2 Z  h0 n0) v U'.heap L ∧ FrameEnd U o U' L ({ frames := 0, cells := 0, slots := 0, locals := 0 } : Room).cells ({ frames := 0, cells := 0, slots := 0, locals := 0 } : Room).slots) := by
  refine MetFree.of_bodySF (Jvm.Free.JP.mathPlain rfl (by decide +kernel)) hisR ?_
  intro p e s m args below meth c s₁ Bd hml0 hP hK
  obtain ⟨rfl, hZ, hh⟩ := hP
  have hx := Bd.exec
  have hby := Bd.bytes
  have hml : c.maxLocals = 2 := hml0
  have hown : s.vm.findClass "java/lang/Math" = some m.cls := findClass_of_methodNamed Bd.named
  have hnm := (name_of_methodNamed Bd.named Bd.method).1
  have hlk : meth.locks = false := BodyLoose.notSynchronized Bd
  have X0 : Stand p l e ({ frames := 0, cells := 0, slots := 0, locals := 0 } : Room) s m #[(.int (2 : Int32)), (.int (2 : Int32))] below meth c s₁ [] 0 0 := Stand.of_body Bd
  have e0 : s₁.heap = h0 := by rw [← hh, Bd.state]; rfl
  have N0 := Fr.nil n0
  have K0 : Keep h0 h0 [] := Keep.refl _ _
  show ownEnds p e below s (Q_min_2_2 Z  h0 n0) ({ frames := 0, cells := 0, slots := 0, locals := 0 } : Room).cells ({ frames := 0, cells := 0, slots := 0, locals := 0 } : Room).slots s₁ (entryFrame m #[(.int (2 : Int32)), (.int (2 : Int32))] 2)
  refine ownCast (own_ef8_min_2_2 m ) ?_
  refine ow_iloadN (q := 1) X0 hx (hb hby own_d8_0) rfl rfl ?_
  refine ow_iloadN (q := 2) X0 hx (hb hby own_d8_1) rfl rfl ?_
  refine ow_icmpNo (q := 5) X0 hx (hb hby own_d8_2) rfl (Jvm.Free.XT.ii_gt_f (by decide)) ?_
  refine ow_iloadN (q := 6) X0 hx (hb hby own_d8_5) rfl rfl ?_
  refine ow_goto (q := 10) X0 hx (hb hby own_d8_6) (by decide) (by decide) ?_
  refine ownRetI X0 hx Bd.returns (hb hby own_d8_10) hlk (by decide) (by decide) ?_
  rw [e0]
  exact ⟨rfl, N0, rfl⟩
theorem own_pn_CodePointSet : plainName "com/example/shapewright/shapewright/regex/CodePointSet" = true := by first | (simp [plainName, overriddenIn]; done) | decide +kernel
theorem own_d2_0 : decode prog_17_method_1_code 0 = .ok (.aload_n 0, 1) := by decide +kernel
theorem own_d2_1 : decode prog_17_method_1_code 1 = .ok (.invokespecial 3, 3) := by decide +kernel
theorem own_d2_4 : decode prog_17_method_1_code 4 = .ok (.aload_n 0, 1) := by decide +kernel
theorem own_d2_5 : decode prog_17_method_1_code 5 = .ok (.aload_n 1, 1) := by decide +kernel
theorem own_d2_6 : decode prog_17_method_1_code 6 = .ok (.putfield 9, 3) := by decide +kernel
theorem own_d2_9 : decode prog_17_method_1_code 9 = .ok (.return_, 1) := by decide +kernel
theorem own_ef2_init (m : MethodId) (a0 : Addr) (a1 : Addr) : entryFrame m #[(.ref a0), (.ref a1)] 2 = mkF m 0 #[rv a0, rv a1] [] := by first | (simp [entryFrame, mkF, argsToLocals, Value.category]; done) | rfl
def Q_init (Z : State) (a0 : Addr) (a1 : Addr) (h0 : Heap) (n0 : Nat) (v : Option Value) (h : Heap) (L : List Loc) : Prop := v = none ∧ Fr n0 L ∧ Keep h0 h [a0] ∧ Exa Z h a0 "com/example/shapewright/shapewright/regex/CodePointSet" ∧ Fld Z h a0 "com/example/shapewright/shapewright/regex/CodePointSet" "ranges" "[I" (.ref a1)
set_option maxRecDepth 65536 in
set_option maxHeartbeats 40000000 in
theorem rm_init (l : Launch) (Z : State) (av0 : Array Value) (hw : ∀ d ∈ tables_1, d.before av0 Z = true) (ws : List Jvm.Cond) (a0 : Addr) (a1 : Addr) (h0 : Heap) (n0 : Nat) (Z0 : n0 ≤ h0.size) (HF0 : Exa Z h0 a0 "com/example/shapewright/shapewright/regex/CodePointSet") (HF1 : Fld Z h0 a0 "com/example/shapewright/shapewright/regex/CodePointSet" "ranges" "[I" .null) (G_a0 : n0 ≤ a0) :
    MetFree l (⟨"com/example/shapewright/shapewright/regex/CodePointSet", "<init>", "([I)V"⟩ : MethodName) (head1 (Jvm.Cond.code (⟨"com/example/shapewright/shapewright/regex/CodePointSet", "<init>", "([I)V"⟩ : MethodName) prog_17_method_1_code 2 none :: ws) ({ frames := 1, cells := 0, slots := 0, locals := 12 } : Room)) (fun a U => a = #[(.ref a0), (.ref a1)] ∧ Z.Warmed39 U.vm ∧ U.heap = h0) (fun _ _ _ _ _ => True) (fun _ U o U' => ∃ v L, o = .returned v ∧ (Q_init Z a0 a1 h0 n0) v U'.heap L ∧ FrameEnd U o U' L ({ frames := 1, cells := 0, slots := 0, locals := 12 } : Room).cells ({ frames := 1, cells := 0, slots := 0, locals := 12 } : Room).slots) := by
  refine MetFree.of_bodySF (plainFor_of_name own_pn_CodePointSet) hisR ?_
  intro p e s m args below meth c s₁ Bd hml0 hP hK
  obtain ⟨rfl, hZ, hh⟩ := hP
  have hx := Bd.exec
  have hby := Bd.bytes
  have hml : c.maxLocals = 2 := hml0
  have hown : s.vm.findClass "com/example/shapewright/shapewright/regex/CodePointSet" = some m.cls := findClass_of_methodNamed Bd.named
  have hnm := (name_of_methodNamed Bd.named Bd.method).1
  have hlk : meth.locks = false := BodyLoose.notSynchronized Bd
  have X0 : Stand p l e ({ frames := 1, cells := 0, slots := 0, locals := 12 } : Room) s m #[(.ref a0), (.ref a1)] below meth c s₁ [] 0 0 := Stand.of_body Bd
  have e0 : s₁.heap = h0 := by rw [← hh, Bd.state]; rfl
  have N0 := Fr.nil n0
  have K0 : Keep h0 h0 [a0] := Keep.refl _ _
  show ownEnds p e below s (Q_init Z a0 a1 h0 n0) ({ frames := 1, cells := 0, slots := 0, locals := 12 } : Room).cells ({ frames := 1, cells := 0, slots := 0, locals := 12 } : Room).slots s₁ (entryFrame m #[(.ref a0), (.ref a1)] 2)
  refine ownCast (own_ef2_init m a0 a1) ?_
  refine ow_aloadN (q := 1) X0 hx (hb hby own_d2_0) rfl rfl rfl ?_
  obtain ⟨T1, X1, e1, st1⟩ := initO X0 hx hZ hown (hw _ (List.mem_of_getElem? (i := 12) rfl)) (hw _ (List.mem_of_getElem? (i := 13) rfl)) (hw _ (List.mem_of_getElem? (i := 14) rfl)) e0 (g := (mkF m 1 #[rv a0, rv a1] [(.ref a0)])) rfl (by rw [hml]; rfl) rfl (hb hby own_d2_1) (by decide) (W := 0) (by show 2 * 0 + _ ≤ _; exact Nat.le_of_eq rfl) (by decide)
  refine ownGo (T' := T1) (f' := (mkF m 4 #[rv a0, rv a1] [])) (st1) ?_
  refine ow_aloadN (q := 5) X1 hx (hb hby own_d2_4) rfl rfl rfl ?_
  refine ow_aloadN (q := 6) X1 hx (hb hby own_d2_5) rfl rfl rfl ?_
  obtain ⟨T2, h2, X2, e2, W2, st2⟩ := putF X1 hx hZ hown (host := "") (Or.inl (hw _ (List.mem_of_getElem? (i := 15) rfl))) Via.refl e1 HF1 HF0 (Or.inr ⟨(hw _ (List.mem_of_getElem? (i := 16) rfl)), rfl, hnm⟩) (hw _ (List.mem_of_getElem? (i := 7) rfl)) (ty := (.array .int)) (by decide) rfl rfl (g := (mkF m 6 #[rv a0, rv a1] [(.ref a1), (.ref a0)])) rfl rfl (hb hby own_d2_6)
  have N2 := Fr.snoc X2 N0 G_a0
  have K2 : Keep h0 h2 [a0] := K0.wr W2 (Or.inl (List.mem_of_getElem? (i := 0) rfl))
  have F3 : Exa Z h2 a0 "com/example/shapewright/shapewright/regex/CodePointSet" := HF0.wr W2
  have F4 : Fld Z h2 a0 "com/example/shapewright/shapewright/regex/CodePointSet" "ranges" "[I" (.ref a1) := HF1.same W2
  refine ownGo (T' := T2) (f' := (mkF m 9 #[rv a0, rv a1] [])) (st2) ?_
  refine ownRetV X2 hx Bd.returns (hb hby own_d2_9) hlk (by decide) (by decide) ?_
  rw [e2]
  exact ⟨rfl, N2, K2, F3, F4⟩
theorem own_d1_0 : decode prog_17_method_2_code 0 = .ok (.new 10, 3) := by decide +kernel
theorem own_d1_3 : decode prog_17_method_2_code 3 = .ok (.dup, 1) := by decide +kernel
theorem own_d1_4 : decode prog_17_method_2_code 4 = .ok (.iconst 2, 1) := by decide +kernel
theorem own_d1_5 : decode prog_17_method_2_code 5 = .ok (.newarray .int, 2) := by decide +kernel
theorem own_d1_7 : decode prog_17_method_2_code 7 = .ok (.dup, 1) := by decide +kernel
theorem own_d1_8 : decode prog_17_method_2_code 8 = .ok (.iconst 0, 1) := by decide +kernel
theorem own_d1_9 : decode prog_17_method_2_code 9 = .ok (.iload_n 0, 1) := by decide +kernel
theorem own_d1_10 : decode prog_17_method_2_code 10 = .ok (.iastore, 1) := by decide +kernel
theorem own_d1_11 : decode prog_17_method_2_code 11 = .ok (.dup, 1) := by decide +kernel
theorem own_d1_12 : decode prog_17_method_2_code 12 = .ok (.iconst 1, 1) := by decide +kernel
theorem own_d1_13 : decode prog_17_method_2_code 13 = .ok (.iload_n 1, 1) := by decide +kernel
theorem own_d1_14 : decode prog_17_method_2_code 14 = .ok (.iastore, 1) := by decide +kernel
theorem own_d1_15 : decode prog_17_method_2_code 15 = .ok (.invokespecial 15, 3) := by decide +kernel
theorem own_pd0 : parseMethodDescriptor "([I)V" = some ⟨[(.array .int)], none⟩ := by decide +kernel
theorem own_d1_18 : decode prog_17_method_2_code 18 = .ok (.areturn, 1) := by decide +kernel
theorem own_ef1_range (m : MethodId) (p0 : Int32) (p1 : Int32) : entryFrame m #[(.int p0), (.int p1)] 2 = mkF m 0 #[iv p0, iv p1] [] := by first | (simp [entryFrame, mkF, argsToLocals, Value.category]; done) | rfl
def Q_range (Z : State) (p0 : Int32) (p1 : Int32) (h0 : Heap) (n0 : Nat) (v : Option Value) (h : Heap) (L : List Loc) : Prop := ∃ (r : Addr) (ar : Addr), v = some (.ref r) ∧ Fr n0 L ∧ Keep h0 h [] ∧ h0.size ≤ r ∧ h0.size ≤ ar ∧ Exa Z h r "com/example/shapewright/shapewright/regex/CodePointSet" ∧ Fld Z h r "com/example/shapewright/shapewright/regex/CodePointSet" "ranges" "[I" (.ref ar) ∧ ownAI Z h ar .int 2 (ownUpd (ownUpd (fun _ => (0 : Int32)) 0 p0) 1 p1) ∧ (r ≠ ar)
set_option maxRecDepth 65536 in
set_option maxHeartbeats 40000000 in
theorem rm_range (l : Launch) (Z : State) (av0 : Array Value) (hw : ∀ d ∈ tables_1, d.before av0 Z = true) (ws : List Jvm.Cond) (p0 : Int32) (p1 : Int32) (h0 : Heap) (n0 : Nat) (Z0 : n0 ≤ h0.size) :
    MetFree l (⟨"com/example/shapewright/shapewright/regex/CodePointSet", "range", "(II)Lcom/example/shapewright/shapewright/regex/CodePointSet;"⟩ : MethodName) (head1 (Jvm.Cond.code (⟨"com/example/shapewright/shapewright/regex/CodePointSet", "range", "(II)Lcom/example/shapewright/shapewright/regex/CodePointSet;"⟩ : MethodName) prog_17_method_2_code 2 (some (.object "com/example/shapewright/shapewright/regex/CodePointSet")) :: ws) ({ frames := 2, cells := 2, slots := 3, locals := 26 } : Room)) (fun a U => a = #[(.int p0), (.int p1)] ∧ Z.Warmed39 U.vm ∧ U.heap = h0) (fun _ _ _ _ _ => True) (fun _ U o U' => ∃ v L, o = .returned v ∧ (Q_range Z p0 p1 h0 n0) v U'.heap L ∧ FrameEnd U o U' L ({ frames := 2, cells := 2, slots := 3, locals := 26 } : Room).cells ({ frames := 2, cells := 2, slots := 3, locals := 26 } : Room).slots) := by
  refine MetFree.of_bodySF (plainFor_of_name own_pn_CodePointSet) hisR ?_
  intro p e s m args below meth c s₁ Bd hml0 hP hK
  obtain ⟨rfl, hZ, hh⟩ := hP
  have hx := Bd.exec
  have hby := Bd.bytes
  have hml : c.maxLocals = 2 := hml0
  have hown : s.vm.findClass "com/example/shapewright/shapewright/regex/CodePointSet" = some m.cls := findClass_of_methodNamed Bd.named
  have hnm := (name_of_methodNamed Bd.named Bd.method).1
  have hlk : meth.locks = false := BodyLoose.notSynchronized Bd
  have X0 : Stand p l e ({ frames := 2, cells := 2, slots := 3, locals := 26 } : Room) s m #[(.int p0), (.int p1)] below meth c s₁ [] 0 0 := Stand.of_body Bd
  have e0 : s₁.heap = h0 := by rw [← hh, Bd.state]; rfl
  have N0 := Fr.nil n0
  have K0 : Keep h0 h0 [] := Keep.refl _ _
  show ownEnds p e below s (Q_range Z p0 p1 h0 n0) ({ frames := 2, cells := 2, slots := 3, locals := 26 } : Room).cells ({ frames := 2, cells := 2, slots := 3, locals := 26 } : Room).slots s₁ (entryFrame m #[(.int p0), (.int p1)] 2)
  refine ownCast (own_ef1_range m p0 p1) ?_
  obtain ⟨T1, h1, X1, e1, E1, A1, D1, -, st1⟩ := newO X0 hx hZ hown (hw _ (List.mem_of_getElem? (i := 6) rfl)) (hw _ (List.mem_of_getElem? (i := 7) rfl)) (hw _ (List.mem_of_getElem? (i := 4) rfl)) e0 (g := (mkF m 0 #[iv p0, iv p1] [])) rfl (hb hby own_d1_0) (by decide) (by decide)
  obtain ⟨b1, g1⟩ : ∃ z, z = h0.size := ⟨_, rfl⟩
  rw [← g1] at A1 D1 st1
  have sz_b1 : h0.size ≤ b1 := Nat.le_trans K0.1 (Nat.le_of_eq g1.symm)
  have G_b1 : n0 ≤ b1 := Nat.le_trans Z0 sz_b1
  have K1 : Keep h0 h1 [] := K0.ext E1
  have F2 : Fld Z h1 b1 "com/example/shapewright/shapewright/regex/CodePointSet" "ranges" "[I" .null := D1 (Or.inr (hw _ (List.mem_of_getElem? (i := 16) rfl))) (ty := (.array .int)) (by decide)
  refine ownGo (T' := T1) (f' := (mkF m 3 #[iv p0, iv p1] [(.ref b1)])) (st1) ?_
  refine ow_dup (q := 4) X1 hx (hb hby own_d1_3) rfl rfl ?_
  refine ow_iconst (q := 5) X1 hx (2 : Int32) (hb hby own_d1_4) rfl rfl ?_
  obtain ⟨T3, h3, k3, X3, e3, E3, A3, EA3, st3⟩ := newPE X1 hx hZ (hw _ (List.mem_of_getElem? (i := 8) rfl)) e1 (g := (mkF m 5 #[iv p0, iv p1] [(.int (2 : Int32)), (.ref b1), (.ref b1)])) rfl (hb hby own_d1_5) rfl (by decide) (cap := 2) (by decide) (by decide) (by decide) (by decide) (ad := "[I") (by decide)
  obtain ⟨b3, g3⟩ : ∃ z, z = h1.size := ⟨_, rfl⟩
  rw [← g3] at A3 st3 EA3
  have ne_b1_b3 : b1 ≠ b3 := Nat.ne_of_lt (Nat.lt_of_lt_of_le A1.lt (Nat.le_of_eq g3.symm))
  have sz_b3 : h0.size ≤ b3 := Nat.le_trans K1.1 (Nat.le_of_eq g3.symm)
  have G_b3 : n0 ≤ b3 := Nat.le_trans Z0 sz_b3
  have K3 : Keep h0 h3 [] := K1.ext E3
  have F4 : Exa Z h3 b1 "com/example/shapewright/shapewright/regex/CodePointSet" := A1.ext E3
  have F5 : Fld Z h3 b1 "com/example/shapewright/shapewright/regex/CodePointSet" "ranges" "[I" .null := F2.ext E3
  have F6 : ownAI Z h3 b3 .int 2 (fun _ => (0 : Int32)) := ownAI.new A3 (by decide) rfl (by decide)
  refine ownGo (T' := T3) (f' := (mkF m 7 #[iv p0, iv p1] [(.ref b3), (.ref b1), (.ref b1)])) (st3) ?_
  refine ow_dup (q := 8) X3 hx (hb hby own_d1_7) rfl rfl ?_
  refine ow_iconst (q := 9) X3 hx (0 : Int32) (hb hby own_d1_8) rfl rfl ?_
  refine ow_iloadN (q := 10) X3 hx (hb hby own_d1_9) rfl rfl ?_
  obtain ⟨T7, h7, X7, e7, W7, F7s, st7⟩ := ownIastore F6 X3 hx hZ e3 (j := (0 : Int32)) (by unfold ownIn; decide) (g := (mkF m 10 #[iv p0, iv p1] [(.int p0), (.int (0 : Int32)), (.ref b3), (.ref b3), (.ref b1), (.ref b1)])) rfl rfl (hb hby own_d1_10)
  have F7r : ownAI Z h7 b3 .int 2 (ownUpd (fun _ => (0 : Int32)) 0 p0) := F7s
  have N7 := Fr.snoc X7 N0 G_b3
  have K7 : Keep h0 h7 [] := K3.wr W7 (Or.inr sz_b3)
  have F8 : Exa Z h7 b1 "com/example/shapewright/shapewright/regex/CodePointSet" := F4.wr W7
  have F9 : Fld Z h7 b1 "com/example/shapewright/shapewright/regex/CodePointSet" "ranges" "[I" .null := F5.other W7 (Or.inl ne_b1_b3)
  have F10 : Exa Z h7 b3 "[I" := EA3.wr W7
  refine ownGo (T' := T7) (f' := (mkF m 11 #[iv p0, iv p1] [(.ref b3), (.ref b1), (.ref b1)])) (st7) ?_
  refine ow_dup (q := 12) X7 hx (hb hby own_d1_11) rfl rfl ?_
  refine ow_iconst (q := 13) X7 hx (1 : Int32) (hb hby own_d1_12) rfl rfl ?_
  refine ow_iloadN (q := 14) X7 hx (hb hby own_d1_13) rfl rfl ?_
  obtain ⟨T11, h11, X11, e11, W11, F11s, st11⟩ := ownIastore F7r X7 hx hZ e7 (j := (1 : Int32)) (by unfold ownIn; decide) (g := (mkF m 14 #[iv p0, iv p1] [(.int p1), (.int (1 : Int32)), (.ref b3), (.ref b3), (.ref b1), (.ref b1)])) rfl rfl (hb hby own_d1_14)
  have F11r : ownAI Z h11 b3 .int 2 (ownUpd (ownUpd (fun _ => (0 : Int32)) 0 p0) 1 p1) := F11s
  have N11 := Fr.snoc X11 N7 G_b3
  have K11 : Keep h0 h11 [] := K7.wr W11 (Or.inr sz_b3)
  have F12 : Exa Z h11 b1 "com/example/shapewright/shapewright/regex/CodePointSet" := F8.wr W11
  have F13 : Fld Z h11 b1 "com/example/shapewright/shapewright/regex/CodePointSet" "ranges" "[I" .null := F9.other W11 (Or.inl ne_b1_b3)
  have F14 : Exa Z h11 b3 "[I" := F10.wr W11
  refine ownGo (T' := T11) (f' := (mkF m 15 #[iv p0, iv p1] [(.ref b3), (.ref b1), (.ref b1)])) (st11) ?_
  obtain ⟨_, _, ⟨T15, L15, k15, n15⟩, -, X15, ⟨Lc15, hQ15, l15, y15, z15⟩, st15⟩ := X11.specialBack hx (y := (⟨"com/example/shapewright/shapewright/regex/CodePointSet", "<init>", "([I)V"⟩ : MethodName)) rfl hown (mvT hZ (hw _ (List.mem_of_getElem? (i := 9) rfl))) (mvT hZ (hw _ (List.mem_of_getElem? (i := 10) rfl))) (mvT hZ (hw _ (List.mem_of_getElem? (i := 11) rfl))) (by decide) (backOf (W := 1) (rm_init l Z av0 hw [] b1 b3 h11 n0 (Nat.le_trans Z0 K11.1) F12 F13 G_b1) hZ (hw _ (List.mem_of_getElem? (i := 11) rfl)) (hw _ (List.mem_of_getElem? (i := 4) rfl)) (by decide) (by decide)) (g := (mkF m 15 #[iv p0, iv p1] [(.ref b3), (.ref b1), (.ref b1)])) rfl (by rw [hml]; rfl) (Steps.refl _) (a := b1) (argsL := [(.ref b3)]) (rest := [(.ref b1)]) (lenOf own_pd0 rfl) rfl (by show 2 * 0 + _ ≤ _; exact Nat.le_of_eq rfl) (hb hby own_d1_15) (fun _ _ => ⟨rfl, e11, (by decide : 2 + 0 ≤ _), (by decide : 3 + 0 ≤ _)⟩)
  dsimp only [Pt.U, Pt.locs, Pt.cells, Pt.slots] at X15 l15 y15 z15 st15 hQ15
  subst l15 y15 z15
  obtain ⟨rfl, N15q, Kq15, FP15_0, FP15_1⟩ := hQ15
  have N15 := Fr.app N11 N15q
  have K15 : Keep h0 T15.heap [] := K11.trans Kq15 (allS (Or.inr sz_b1) all0)
  have F16 : Exa Z T15.heap b1 "com/example/shapewright/shapewright/regex/CodePointSet" := F12.keep Kq15
  have F17 : Exa Z T15.heap b3 "[I" := F14.keep Kq15
  have F18 : ownAI Z T15.heap b3 .int 2 (ownUpd (ownUpd (fun _ => (0 : Int32)) 0 p0) 1 p1) := F11r.keep Kq15 (ninS (Ne.symm ne_b1_b3) nin0)
  refine ownRun (T' := T15) (f' := (mkF m 18 #[iv p0, iv p1] [(.ref b1)])) st15 ?_
  refine ownRetR X15 hx rfl rfl rfl Bd.returns (hb hby own_d1_18) hlk (by decide) (by decide) ?_
  refine ⟨b1, b3, rfl, N15, K15, sz_b1, sz_b3, FP15_0, FP15_1, F18, ?_⟩
  exact ne_b1_b3
theorem own_d4_0 : decode prog_17_method_6_code 0 = .ok (.aload_n 0, 1) := by decide +kernel
theorem own_d4_1 : decode prog_17_method_6_code 1 = .ok (.getfield 9, 3) := by decide +kernel
theorem own_d4_4 : decode prog_17_method_6_code 4 = .ok (.arraylength, 1) := by decide +kernel
theorem own_d4_5 : decode prog_17_method_6_code 5 = .ok (.ifCond .ne 7, 3) := by decide +kernel
theorem own_d4_12 : decode prog_17_method_6_code 12 = .ok (.iconst 0, 1) := by decide +kernel
theorem own_d4_13 : decode prog_17_method_6_code 13 = .ok (.ireturn, 1) := by decide +kernel
theorem own_ef4_isEmpty (m : MethodId) (a0 : Addr) : entryFrame m #[(.ref a0)] 1 = mkF m 0 #[rv a0] [] := by first | (simp [entryFrame, mkF, argsToLocals, Value.category]; done) | rfl
def Q_isEmpty (Z : State) (a0 : Addr) (ar : Addr) (g : Nat → Int32) (h0 : Heap) (n0 : Nat) (v : Option Value) (h : Heap) (L : List Loc) : Prop := v = some (.int (0 : Int32)) ∧ Fr n0 L ∧ h = h0
set_option maxRecDepth 65536 in
set_option maxHeartbeats 40000000 in
theorem rm_isEmpty (l : Launch) (Z : State) (av0 : Array Value) (hw : ∀ d ∈ tables_1, d.before av0 Z = true) (ws : List Jvm.Cond) (a0 : Addr) (ar : Addr) (g : Nat → Int32) (h0 : Heap) (n0 : Nat) (Z0 : n0 ≤ h0.size) (HF0 : Fld Z h0 a0 "com/example/shapewright/shapewright/regex/CodePointSet" "ranges" "[I" (.ref ar)) (HF1 : ownAI Z h0 ar .int 2 g) :
    MetFree l (⟨"com/example/shapewright/shapewright/regex/CodePointSet", "isEmpty", "()Z"⟩ : MethodName) (head1 (Jvm.Cond.code (⟨"com/example/shapewright/shapewright/regex/CodePointSet", "isEmpty", "()Z"⟩ : MethodName) prog_17_method_6_code 1 (some .boolean) :: ws) ({ frames := 0, cells := 0, slots := 0, locals := 0 } : Room)) (fun a U => a = #[(.ref a0)] ∧ Z.Warmed39 U.vm ∧ U.heap = h0) (fun _ _ _ _ _ => True) (fun _ U o U' => ∃ v L, o = .returned v ∧ (Q_isEmpty Z a0 ar g h0 n0) v U'.heap L ∧ FrameEnd U o U' L ({ frames := 0, cells := 0, slots := 0, locals := 0 } : Room).cells ({ frames := 0, cells := 0, slots := 0, locals := 0 } : Room).slots) := by
  refine MetFree.of_bodySF (plainFor_of_name own_pn_CodePointSet) hisR ?_
  intro p e s m args below meth c s₁ Bd hml0 hP hK
  obtain ⟨rfl, hZ, hh⟩ := hP
  have hx := Bd.exec
  have hby := Bd.bytes
  have hml : c.maxLocals = 1 := hml0
  have hown : s.vm.findClass "com/example/shapewright/shapewright/regex/CodePointSet" = some m.cls := findClass_of_methodNamed Bd.named
  have hnm := (name_of_methodNamed Bd.named Bd.method).1
  have hlk : meth.locks = false := BodyLoose.notSynchronized Bd
  have X0 : Stand p l e ({ frames := 0, cells := 0, slots := 0, locals := 0 } : Room) s m #[(.ref a0)] below meth c s₁ [] 0 0 := Stand.of_body Bd
  have e0 : s₁.heap = h0 := by rw [← hh, Bd.state]; rfl
  have N0 := Fr.nil n0
  have K0 : Keep h0 h0 [] := Keep.refl _ _
  show ownEnds p e below s (Q_isEmpty Z a0 ar g h0 n0) ({ frames := 0, cells := 0, slots := 0, locals := 0 } : Room).cells ({ frames := 0, cells := 0, slots := 0, locals := 0 } : Room).slots s₁ (entryFrame m #[(.ref a0)] 1)
  refine ownCast (own_ef4_isEmpty m a0) ?_
  refine ow_aloadN (q := 1) X0 hx (hb hby own_d4_0) rfl rfl rfl ?_
  obtain ⟨T1, X1, e1, st1⟩ := getF X0 hx hZ hown (host := "") (Or.inl (hw _ (List.mem_of_getElem? (i := 15) rfl))) Via.refl e0 HF0 (g := (mkF m 1 #[rv a0] [(.ref a0)])) rfl rfl (hb hby own_d4_1)
  refine ownGo (T' := T1) (f' := (mkF m 4 #[rv a0] [(.ref ar)])) (st1) ?_
  refine ownGo (T' := T1) (f' := (mkF m 5 #[rv a0] [(.int (2 : Int32))])) (ownLenI HF1 X1 hx hZ e1 (z := (2 : Int32)) (by decide) (g := (mkF m 4 #[rv a0] [(.ref ar)])) rfl rfl (hb hby own_d4_4)) ?_
  refine ow_ifYes (q := 12) X1 hx (hb hby own_d4_5) (Jvm.Free.XT.i0_ne_t (by decide)) (by decide) (by decide) ?_
  refine ow_iconst (q := 13) X1 hx (0 : Int32) (hb hby own_d4_12) rfl rfl ?_
  refine ownRetN X1 hx (r := (0 : Int32)) (Or.inl rfl) Bd.returns (hb hby own_d4_13) hlk (by decide) (by decide) (by decide) ?_
  rw [e1]
  exact ⟨rfl, N0, rfl⟩
theorem own_d5_0 : decode prog_17_method_5_code 0 = .ok (.iconst 0, 1) := by decide +kernel
theorem own_d5_1 : decode prog_17_method_5_code 1 = .ok (.istore_n 2, 1) := by decide +kernel
theorem own_d5_2 : decode prog_17_method_5_code 2 = .ok (.aload_n 0, 1) := by decide +kernel
theorem own_d5_3 : decode prog_17_method_5_code 3 = .ok (.getfield 9, 3) := by decide +kernel
theorem own_d5_6 : decode prog_17_method_5_code 6 = .ok (.arraylength, 1) := by decide +kernel
theorem own_d5_7 : decode prog_17_method_5_code 7 = .ok (.iconst 2, 1) := by decide +kernel
theorem own_d5_8 : decode prog_17_method_5_code 8 = .ok (.idiv, 1) := by decide +kernel
theorem own_d5_9 : decode prog_17_method_5_code 9 = .ok (.iconst 1, 1) := by decide +kernel
theorem own_d5_10 : decode prog_17_method_5_code 10 = .ok (.isub, 1) := by decide +kernel
theorem own_d5_11 : decode prog_17_method_5_code 11 = .ok (.istore_n 3, 1) := by decide +kernel
theorem own_d5_12 : decode prog_17_method_5_code 12 = .ok (.iload_n 2, 1) := by decide +kernel
theorem own_d5_13 : decode prog_17_method_5_code 13 = .ok (.iload_n 3, 1) := by decide +kernel
theorem own_d5_14 : decode prog_17_method_5_code 14 = .ok (.if_icmp .gt 59, 3) := by decide +kernel
theorem own_d5_17 : decode prog_17_method_5_code 17 = .ok (.iload_n 2, 1) := by decide +kernel
theorem own_d5_18 : decode prog_17_method_5_code 18 = .ok (.iload_n 3, 1) := by decide +kernel
theorem own_d5_19 : decode prog_17_method_5_code 19 = .ok (.iadd, 1) := by decide +kernel
theorem own_d5_20 : decode prog_17_method_5_code 20 = .ok (.iconst 1, 1) := by decide +kernel
theorem own_d5_21 : decode prog_17_method_5_code 21 = .ok (.iushr, 1) := by decide +kernel
theorem own_d5_22 : decode prog_17_method_5_code 22 = .ok (.istore 4, 2) := by decide +kernel
theorem own_d5_24 : decode prog_17_method_5_code 24 = .ok (.iload_n 1, 1) := by decide +kernel
theorem own_d5_25 : decode prog_17_method_5_code 25 = .ok (.aload_n 0, 1) := by decide +kernel
theorem own_d5_26 : decode prog_17_method_5_code 26 = .ok (.getfield 9, 3) := by decide +kernel
theorem own_d5_29 : decode prog_17_method_5_code 29 = .ok (.iconst 2, 1) := by decide +kernel
theorem own_d5_30 : decode prog_17_method_5_code 30 = .ok (.iload 4, 2) := by decide +kernel
theorem own_d5_32 : decode prog_17_method_5_code 32 = .ok (.imul, 1) := by decide +kernel
theorem own_d5_33 : decode prog_17_method_5_code 33 = .ok (.iaload, 1) := by decide +kernel
theorem own_d5_34 : decode prog_17_method_5_code 34 = .ok (.if_icmp .ge 11, 3) := by decide +kernel
theorem own_d5_37 : decode prog_17_method_5_code 37 = .ok (.iload 4, 2) := by decide +kernel
theorem own_d5_39 : decode prog_17_method_5_code 39 = .ok (.iconst 1, 1) := by decide +kernel
theorem own_d5_40 : decode prog_17_method_5_code 40 = .ok (.isub, 1) := by decide +kernel
theorem own_d5_41 : decode prog_17_method_5_code 41 = .ok (.istore_n 3, 1) := by decide +kernel
theorem own_d5_42 : decode prog_17_method_5_code 42 = .ok (.goto 28, 3) := by decide +kernel
theorem own_d5_70 : decode prog_17_method_5_code 70 = .ok (.goto (-58), 3) := by decide +kernel
theorem own_d5_73 : decode prog_17_method_5_code 73 = .ok (.iconst 0, 1) := by decide +kernel
theorem own_d5_74 : decode prog_17_method_5_code 74 = .ok (.ireturn, 1) := by decide +kernel
theorem own_d5_45 : decode prog_17_method_5_code 45 = .ok (.iload_n 1, 1) := by decide +kernel
theorem own_d5_46 : decode prog_17_method_5_code 46 = .ok (.aload_n 0, 1) := by decide +kernel
theorem own_d5_47 : decode prog_17_method_5_code 47 = .ok (.getfield 9, 3) := by decide +kernel
theorem own_d5_50 : decode prog_17_method_5_code 50 = .ok (.iconst 2, 1) := by decide +kernel
theorem own_d5_51 : decode prog_17_method_5_code 51 = .ok (.iload 4, 2) := by decide +kernel
theorem own_d5_53 : decode prog_17_method_5_code 53 = .ok (.imul, 1) := by decide +kernel
theorem own_d5_54 : decode prog_17_method_5_code 54 = .ok (.iconst 1, 1) := by decide +kernel
theorem own_d5_55 : decode prog_17_method_5_code 55 = .ok (.iadd, 1) := by decide +kernel
theorem own_d5_56 : decode prog_17_method_5_code 56 = .ok (.iaload, 1) := by decide +kernel
theorem own_d5_57 : decode prog_17_method_5_code 57 = .ok (.if_icmp .le 11, 3) := by decide +kernel
theorem own_d5_60 : decode prog_17_method_5_code 60 = .ok (.iload 4, 2) := by decide +kernel
theorem own_d5_62 : decode prog_17_method_5_code 62 = .ok (.iconst 1, 1) := by decide +kernel
theorem own_d5_63 : decode prog_17_method_5_code 63 = .ok (.iadd, 1) := by decide +kernel
theorem own_d5_64 : decode prog_17_method_5_code 64 = .ok (.istore_n 2, 1) := by decide +kernel
theorem own_d5_65 : decode prog_17_method_5_code 65 = .ok (.goto 5, 3) := by decide +kernel
theorem own_d5_68 : decode prog_17_method_5_code 68 = .ok (.iconst 1, 1) := by decide +kernel
theorem own_d5_69 : decode prog_17_method_5_code 69 = .ok (.ireturn, 1) := by decide +kernel
theorem own_ef5_contains (m : MethodId) (a0 : Addr) (p1 : Int32) : entryFrame m #[(.ref a0), (.int p1)] 5 = mkF m 0 #[rv a0, iv p1, .unset, .unset, .unset] [] := by first | (simp [entryFrame, mkF, argsToLocals, Value.category]; done) | rfl
def Q_contains (Z : State) (a0 : Addr) (p1 : Int32) (ar : Addr) (g : Nat → Int32) (h0 : Heap) (n0 : Nat) (v : Option Value) (h : Heap) (L : List Loc) : Prop := v = some (.int (own_cont (g 0) (g 1) p1)) ∧ Fr n0 L ∧ h = h0
set_option maxRecDepth 65536 in
set_option maxHeartbeats 40000000 in
theorem rm_contains (l : Launch) (Z : State) (av0 : Array Value) (hw : ∀ d ∈ tables_1, d.before av0 Z = true) (ws : List Jvm.Cond) (a0 : Addr) (p1 : Int32) (ar : Addr) (g : Nat → Int32) (h0 : Heap) (n0 : Nat) (Z0 : n0 ≤ h0.size) (HF0 : Fld Z h0 a0 "com/example/shapewright/shapewright/regex/CodePointSet" "ranges" "[I" (.ref ar)) (HF1 : ownAI Z h0 ar .int 2 g) :
    MetFree l (⟨"com/example/shapewright/shapewright/regex/CodePointSet", "contains", "(I)Z"⟩ : MethodName) (head1 (Jvm.Cond.code (⟨"com/example/shapewright/shapewright/regex/CodePointSet", "contains", "(I)Z"⟩ : MethodName) prog_17_method_5_code 5 (some .boolean) :: ws) ({ frames := 0, cells := 0, slots := 0, locals := 0 } : Room)) (fun a U => a = #[(.ref a0), (.int p1)] ∧ Z.Warmed39 U.vm ∧ U.heap = h0) (fun _ _ _ _ _ => True) (fun _ U o U' => ∃ v L, o = .returned v ∧ (Q_contains Z a0 p1 ar g h0 n0) v U'.heap L ∧ FrameEnd U o U' L ({ frames := 0, cells := 0, slots := 0, locals := 0 } : Room).cells ({ frames := 0, cells := 0, slots := 0, locals := 0 } : Room).slots) := by
  refine MetFree.of_bodySF (plainFor_of_name own_pn_CodePointSet) hisR ?_
  intro p e s m args below meth c s₁ Bd hml0 hP hK
  obtain ⟨rfl, hZ, hh⟩ := hP
  have hx := Bd.exec
  have hby := Bd.bytes
  have hml : c.maxLocals = 5 := hml0
  have hown : s.vm.findClass "com/example/shapewright/shapewright/regex/CodePointSet" = some m.cls := findClass_of_methodNamed Bd.named
  have hnm := (name_of_methodNamed Bd.named Bd.method).1
  have hlk : meth.locks = false := BodyLoose.notSynchronized Bd
  have X0 : Stand p l e ({ frames := 0, cells := 0, slots := 0, locals := 0 } : Room) s m #[(.ref a0), (.int p1)] below meth c s₁ [] 0 0 := Stand.of_body Bd
  have e0 : s₁.heap = h0 := by rw [← hh, Bd.state]; rfl
  have N0 := Fr.nil n0
  have K0 : Keep h0 h0 [] := Keep.refl _ _
  show ownEnds p e below s (Q_contains Z a0 p1 ar g h0 n0) ({ frames := 0, cells := 0, slots := 0, locals := 0 } : Room).cells ({ frames := 0, cells := 0, slots := 0, locals := 0 } : Room).slots s₁ (entryFrame m #[(.ref a0), (.int p1)] 5)
  refine ownCast (own_ef5_contains m a0 p1) ?_
  refine ow_iconst (q := 1) X0 hx (0 : Int32) (hb hby own_d5_0) rfl rfl ?_
  refine ow_istoreN (q := 2) X0 hx (L' := #[rv a0, iv p1, iv (0 : Int32), .unset, .unset]) (hb hby own_d5_1) rfl rfl ?_
  refine ow_aloadN (q := 3) X0 hx (hb hby own_d5_2) rfl rfl rfl ?_
  obtain ⟨T1, X1, e1, st1⟩ := getF X0 hx hZ hown (host := "") (Or.inl (hw _ (List.mem_of_getElem? (i := 15) rfl))) Via.refl e0 HF0 (g := (mkF m 3 #[rv a0, iv p1, iv (0 : Int32), .unset, .unset] [(.ref a0)])) rfl rfl (hb hby own_d5_3)
  refine ownGo (T' := T1) (f' := (mkF m 6 #[rv a0, iv p1, iv (0 : Int32), .unset, .unset] [(.ref ar)])) (st1) ?_
  refine ownGo (T' := T1) (f' := (mkF m 7 #[rv a0, iv p1, iv (0 : Int32), .unset, .unset] [(.int (2 : Int32))])) (ownLenI HF1 X1 hx hZ e1 (z := (2 : Int32)) (by decide) (g := (mkF m 6 #[rv a0, iv p1, iv (0 : Int32), .unset, .unset] [(.ref ar)])) rfl rfl (hb hby own_d5_6)) ?_
  refine ow_iconst (q := 8) X1 hx (2 : Int32) (hb hby own_d5_7) rfl rfl ?_
  refine ow_idiv (q := 9) X1 hx (1 : Int32) (hb hby own_d5_8) rfl (by decide) (by decide) ?_
  refine ow_iconst (q := 10) X1 hx (1 : Int32) (hb hby own_d5_9) rfl rfl ?_
  refine ow_isub (q := 11) X1 hx (0 : Int32) (hb hby own_d5_10) rfl (by decide) ?_
  refine ow_istoreN (q := 12) X1 hx (L' := #[rv a0, iv p1, iv (0 : Int32), iv (0 : Int32), .unset]) (hb hby own_d5_11) rfl rfl ?_
  refine ow_iloadN (q := 13) X1 hx (hb hby own_d5_12) rfl rfl ?_
  refine ow_iloadN (q := 14) X1 hx (hb hby own_d5_13) rfl rfl ?_
  refine ow_icmpNo (q := 17) X1 hx (hb hby own_d5_14) rfl (Jvm.Free.XT.ii_gt_f (by decide)) ?_
  refine ow_iloadN (q := 18) X1 hx (hb hby own_d5_17) rfl rfl ?_
  refine ow_iloadN (q := 19) X1 hx (hb hby own_d5_18) rfl rfl ?_
  refine ow_iadd (q := 20) X1 hx (0 : Int32) (hb hby own_d5_19) rfl (by decide) ?_
  refine ow_iconst (q := 21) X1 hx (1 : Int32) (hb hby own_d5_20) rfl rfl ?_
  refine ow_iushr (q := 22) X1 hx (0 : Int32) (hb hby own_d5_21) rfl (by decide) ?_
  refine ow_istore (q := 24) X1 hx (L' := #[rv a0, iv p1, iv (0 : Int32), iv (0 : Int32), iv (0 : Int32)]) (hb hby own_d5_22) rfl rfl ?_
  refine ow_iloadN (q := 25) X1 hx (hb hby own_d5_24) rfl rfl ?_
  refine ow_aloadN (q := 26) X1 hx (hb hby own_d5_25) rfl rfl rfl ?_
  obtain ⟨T2, X2, e2, st2⟩ := getF X1 hx hZ hown (host := "") (Or.inl (hw _ (List.mem_of_getElem? (i := 15) rfl))) Via.refl e1 HF0 (g := (mkF m 26 #[rv a0, iv p1, iv (0 : Int32), iv (0 : Int32), iv (0 : Int32)] [(.ref a0), (.int p1)])) rfl rfl (hb hby own_d5_26)
  refine ownGo (T' := T2) (f' := (mkF m 29 #[rv a0, iv p1, iv (0 : Int32), iv (0 : Int32), iv (0 : Int32)] [(.ref ar), (.int p1)])) (st2) ?_
  refine ow_iconst (q := 30) X2 hx (2 : Int32) (hb hby own_d5_29) rfl rfl ?_
  refine ow_iload (q := 32) X2 hx (hb hby own_d5_30) rfl rfl ?_
  refine ow_imul (q := 33) X2 hx (0 : Int32) (hb hby own_d5_32) rfl (by decide) ?_
  refine ownGo (T' := T2) (f' := (mkF m 34 #[rv a0, iv p1, iv (0 : Int32), iv (0 : Int32), iv (0 : Int32)] [(.int (g 0)), (.int p1)])) (ownIaload HF1 X2 hx hZ e2 (j := (0 : Int32)) (by unfold ownIn; decide) (g := (mkF m 33 #[rv a0, iv p1, iv (0 : Int32), iv (0 : Int32), iv (0 : Int32)] [(.int (0 : Int32)), (.ref ar), (.int p1)])) rfl rfl (hb hby own_d5_33)) ?_
  generalize hv_v3 : (g 0) = v3
  by_cases hc34_4 : p1 < v3
  · refine ow_icmpNo (q := 37) X2 hx (hb hby own_d5_34) rfl (Jvm.Free.XT.ii_ge_f hc34_4) ?_
    refine ow_iload (q := 39) X2 hx (hb hby own_d5_37) rfl rfl ?_
    refine ow_iconst (q := 40) X2 hx (1 : Int32) (hb hby own_d5_39) rfl rfl ?_
    refine ow_isub (q := 41) X2 hx (-1 : Int32) (hb hby own_d5_40) rfl (by decide) ?_
    refine ow_istoreN (q := 42) X2 hx (L' := #[rv a0, iv p1, iv (0 : Int32), iv (-1 : Int32), iv (0 : Int32)]) (hb hby own_d5_41) rfl rfl ?_
    refine ow_goto (q := 70) X2 hx (hb hby own_d5_42) (by decide) (by decide) ?_
    refine ow_goto (q := 12) X2 hx (hb hby own_d5_70) (by decide) (by decide) ?_
    refine ow_iloadN (q := 13) X2 hx (hb hby own_d5_12) rfl rfl ?_
    refine ow_iloadN (q := 14) X2 hx (hb hby own_d5_13) rfl rfl ?_
    refine ow_icmpYes (q := 73) X2 hx (hb hby own_d5_14) (Jvm.Free.XT.ii_gt_t (by decide)) (by decide) (by decide) ?_
    refine ow_iconst (q := 74) X2 hx (0 : Int32) (hb hby own_d5_73) rfl rfl ?_
    refine ownRetN X2 hx (r := (0 : Int32)) (Or.inl rfl) Bd.returns (hb hby own_d5_74) hlk (by decide) (by decide) (by decide) ?_
    subst hv_v3
    rw [e2]
    refine ⟨congrArg (fun q => some (Value.int q)) ?_, N0, rfl⟩
    simp [own_cont, hc34_4]
  · refine ow_icmpYes (q := 45) X2 hx (hb hby own_d5_34) (Jvm.Free.XT.ii_ge_t hc34_4) (by decide) (by decide) ?_
    refine ow_iloadN (q := 46) X2 hx (hb hby own_d5_45) rfl rfl ?_
    refine ow_aloadN (q := 47) X2 hx (hb hby own_d5_46) rfl rfl rfl ?_
    obtain ⟨T5, X5, e5, st5⟩ := getF X2 hx hZ hown (host := "") (Or.inl (hw _ (List.mem_of_getElem? (i := 15) rfl))) Via.refl e2 HF0 (g := (mkF m 47 #[rv a0, iv p1, iv (0 : Int32), iv (0 : Int32), iv (0 : Int32)] [(.ref a0), (.int p1)])) rfl rfl (hb hby own_d5_47)
    refine ownGo (T' := T5) (f' := (mkF m 50 #[rv a0, iv p1, iv (0 : Int32), iv (0 : Int32), iv (0 : Int32)] [(.ref ar), (.int p1)])) (st5) ?_
    refine ow_iconst (q := 51) X5 hx (2 : Int32) (hb hby own_d5_50) rfl rfl ?_
    refine ow_iload (q := 53) X5 hx (hb hby own_d5_51) rfl rfl ?_
    refine ow_imul (q := 54) X5 hx (0 : Int32) (hb hby own_d5_53) rfl (by decide) ?_
    refine ow_iconst (q := 55) X5 hx (1 : Int32) (hb hby own_d5_54) rfl rfl ?_
    refine ow_iadd (q := 56) X5 hx (1 : Int32) (hb hby own_d5_55) rfl (by decide) ?_
    refine ownGo (T' := T5) (f' := (mkF m 57 #[rv a0, iv p1, iv (0 : Int32), iv (0 : Int32), iv (0 : Int32)] [(.int (g 1)), (.int p1)])) (ownIaload HF1 X5 hx hZ e5 (j := (1 : Int32)) (by unfold ownIn; decide) (g := (mkF m 56 #[rv a0, iv p1, iv (0 : Int32), iv (0 : Int32), iv (0 : Int32)] [(.int (1 : Int32)), (.ref ar), (.int p1)])) rfl rfl (hb hby own_d5_56)) ?_
    generalize hv_v6 : (g 1) = v6
    by_cases hc57_7 : v6 < p1
    · refine ow_icmpNo (q := 60) X5 hx (hb hby own_d5_57) rfl (Jvm.Free.XT.ii_le_f hc57_7) ?_
      refine ow_iload (q := 62) X5 hx (hb hby own_d5_60) rfl rfl ?_
      refine ow_iconst (q := 63) X5 hx (1 : Int32) (hb hby own_d5_62) rfl rfl ?_
      refine ow_iadd (q := 64) X5 hx (1 : Int32) (hb hby own_d5_63) rfl (by decide) ?_
      refine ow_istoreN (q := 65) X5 hx (L' := #[rv a0, iv p1, iv (1 : Int32), iv (0 : Int32), iv (0 : Int32)]) (hb hby own_d5_64) rfl rfl ?_
      refine ow_goto (q := 70) X5 hx (hb hby own_d5_65) (by decide) (by decide) ?_
      refine ow_goto (q := 12) X5 hx (hb hby own_d5_70) (by decide) (by decide) ?_
      refine ow_iloadN (q := 13) X5 hx (hb hby own_d5_12) rfl rfl ?_
      refine ow_iloadN (q := 14) X5 hx (hb hby own_d5_13) rfl rfl ?_
      refine ow_icmpYes (q := 73) X5 hx (hb hby own_d5_14) (Jvm.Free.XT.ii_gt_t (by decide)) (by decide) (by decide) ?_
      refine ow_iconst (q := 74) X5 hx (0 : Int32) (hb hby own_d5_73) rfl rfl ?_
      refine ownRetN X5 hx (r := (0 : Int32)) (Or.inl rfl) Bd.returns (hb hby own_d5_74) hlk (by decide) (by decide) (by decide) ?_
      subst hv_v6 hv_v3
      rw [e5]
      refine ⟨congrArg (fun q => some (Value.int q)) ?_, N0, rfl⟩
      simp [own_cont, hc34_4, hc57_7]
    · refine ow_icmpYes (q := 68) X5 hx (hb hby own_d5_57) (Jvm.Free.XT.ii_le_t hc57_7) (by decide) (by decide) ?_
      refine ow_iconst (q := 69) X5 hx (1 : Int32) (hb hby own_d5_68) rfl rfl ?_
      refine ownRetN X5 hx (r := (1 : Int32)) (Or.inl rfl) Bd.returns (hb hby own_d5_69) hlk (by decide) (by decide) (by decide) ?_
      subst hv_v6 hv_v3
      rw [e5]
      refine ⟨congrArg (fun q => some (Value.int q)) ?_, N0, rfl⟩
      simp [own_cont, hc34_4, hc57_7]
theorem own_pn_Arrays : plainName "java/util/Arrays" = true := by first | (simp [plainName, overriddenIn]; done) | decide +kernel
theorem own_d7_0 : decode jdk_65_method_123_code 0 = .ok (.iload_n 1, 1) := by decide +kernel
theorem own_d7_1 : decode jdk_65_method_123_code 1 = .ok (.aload_n 0, 1) := by decide +kernel
theorem own_d7_2 : decode jdk_65_method_123_code 2 = .ok (.arraylength, 1) := by decide +kernel
theorem own_d7_3 : decode jdk_65_method_123_code 3 = .ok (.if_icmp .ne 11, 3) := by decide +kernel
theorem own_d7_14 : decode jdk_65_method_123_code 14 = .ok (.iload_n 1, 1) := by decide +kernel
theorem own_d7_15 : decode jdk_65_method_123_code 15 = .ok (.newarray .int, 2) := by decide +kernel
theorem own_d7_17 : decode jdk_65_method_123_code 17 = .ok (.astore_n 2, 1) := by decide +kernel
theorem own_d7_18 : decode jdk_65_method_123_code 18 = .ok (.aload_n 0, 1) := by decide +kernel
theorem own_d7_19 : decode jdk_65_method_123_code 19 = .ok (.iconst 0, 1) := by decide +kernel
theorem own_d7_20 : decode jdk_65_method_123_code 20 = .ok (.aload_n 2, 1) := by decide +kernel
theorem own_d7_21 : decode jdk_65_method_123_code 21 = .ok (.iconst 0, 1) := by decide +kernel
theorem own_d7_22 : decode jdk_65_method_123_code 22 = .ok (.aload_n 0, 1) := by decide +kernel
theorem own_d7_23 : decode jdk_65_method_123_code 23 = .ok (.arraylength, 1) := by decide +kernel
theorem own_d7_24 : decode jdk_65_method_123_code 24 = .ok (.iload_n 1, 1) := by decide +kernel
theorem own_d7_25 : decode jdk_65_method_123_code 25 = .ok (.invokestatic 304, 3) := by decide +kernel
theorem own_pd1 : parseMethodDescriptor "(II)I" = some ⟨[.int, .int], some .int⟩ := by decide +kernel
theorem own_d7_28 : decode jdk_65_method_123_code 28 = .ok (.invokestatic 150, 3) := by decide +kernel
theorem own_d7_31 : decode jdk_65_method_123_code 31 = .ok (.aload_n 2, 1) := by decide +kernel
theorem own_d7_32 : decode jdk_65_method_123_code 32 = .ok (.areturn, 1) := by decide +kernel
theorem own_ef7_copyOf_1 (m : MethodId) (a0 : Addr) : entryFrame m #[(.ref a0), (.int (1 : Int32))] 3 = mkF m 0 #[rv a0, iv (1 : Int32), .unset] [] := by first | (simp [entryFrame, mkF, argsToLocals, Value.category]; done) | rfl
def Q_copyOf_1 (Z : State) (a0 : Addr) (g : Nat → Int32) (h0 : Heap) (n0 : Nat) (v : Option Value) (h : Heap) (L : List Loc) : Prop := ∃ (r : Addr), v = some (.ref r) ∧ Fr n0 L ∧ Keep h0 h [] ∧ h0.size ≤ r ∧ ownAI Z h r .int 1 g
set_option maxRecDepth 65536 in
set_option maxHeartbeats 40000000 in
theorem rm_copyOf_1 (l : Launch) (Z : State) (av0 : Array Value) (hw : ∀ d ∈ tables_1, d.before av0 Z = true) (ws : List Jvm.Cond) (a0 : Addr) (g : Nat → Int32) (h0 : Heap) (n0 : Nat) (Z0 : n0 ≤ h0.size) (HF0 : ownAI Z h0 a0 .int 2 g) (HF1 : Exa Z h0 a0 "[I") :
    MetFree l (⟨"java/util/Arrays", "copyOf", "([II)[I"⟩ : MethodName) (head1 (Jvm.Cond.code (⟨"java/util/Arrays", "copyOf", "([II)[I"⟩ : MethodName) jdk_65_method_123_code 3 (some (.array .int)) :: ws) ({ frames := 1, cells := 1, slots := 1, locals := 18 } : Room)) (fun a U => a = #[(.ref a0), (.int (1 : Int32))] ∧ Z.Warmed39 U.vm ∧ U.heap = h0) (fun _ _ _ _ _ => True) (fun _ U o U' => ∃ v L, o = .returned v ∧ (Q_copyOf_1 Z a0 g h0 n0) v U'.heap L ∧ FrameEnd U o U' L ({ frames := 1, cells := 1, slots := 1, locals := 18 } : Room).cells ({ frames := 1, cells := 1, slots := 1, locals := 18 } : Room).slots) := by
  refine MetFree.of_bodySF (plainFor_of_name own_pn_Arrays) hisR ?_
  intro p e s m args below meth c s₁ Bd hml0 hP hK
  obtain ⟨rfl, hZ, hh⟩ := hP
  have hx := Bd.exec
  have hby := Bd.bytes
  have hml : c.maxLocals = 3 := hml0
  have hown : s.vm.findClass "java/util/Arrays" = some m.cls := findClass_of_methodNamed Bd.named
  have hnm := (name_of_methodNamed Bd.named Bd.method).1
  have hlk : meth.locks = false := BodyLoose.notSynchronized Bd
  have X0 : Stand p l e ({ frames := 1, cells := 1, slots := 1, locals := 18 } : Room) s m #[(.ref a0), (.int (1 : Int32))] below meth c s₁ [] 0 0 := Stand.of_body Bd
  have e0 : s₁.heap = h0 := by rw [← hh, Bd.state]; rfl
  have N0 := Fr.nil n0
  have K0 : Keep h0 h0 [] := Keep.refl _ _
  show ownEnds p e below s (Q_copyOf_1 Z a0 g h0 n0) ({ frames := 1, cells := 1, slots := 1, locals := 18 } : Room).cells ({ frames := 1, cells := 1, slots := 1, locals := 18 } : Room).slots s₁ (entryFrame m #[(.ref a0), (.int (1 : Int32))] 3)
  refine ownCast (own_ef7_copyOf_1 m a0) ?_
  refine ow_iloadN (q := 1) X0 hx (hb hby own_d7_0) rfl rfl ?_
  refine ow_aloadN (q := 2) X0 hx (hb hby own_d7_1) rfl rfl rfl ?_
  refine ownGo (T' := s₁) (f' := (mkF m 3 #[rv a0, iv (1 : Int32), .unset] [(.int (2 : Int32)), (.int (1 : Int32))])) (ownLenI HF0 X0 hx hZ e0 (z := (2 : Int32)) (by decide) (g := (mkF m 2 #[rv a0, iv (1 : Int32), .unset] [(.ref a0), (.int (1 : Int32))])) rfl rfl (hb hby own_d7_2)) ?_
  refine ow_icmpYes (q := 14) X0 hx (hb hby own_d7_3) (Jvm.Free.XT.ii_ne_t (by decide)) (by decide) (by decide) ?_
  refine ow_iloadN (q := 15) X0 hx (hb hby own_d7_14) rfl rfl ?_
  obtain ⟨T1, h1, k1, X1, e1, E1, A1, EA1, st1⟩ := newPE X0 hx hZ (hw _ (List.mem_of_getElem? (i := 8) rfl)) e0 (g := (mkF m 15 #[rv a0, iv (1 : Int32), .unset] [(.int (1 : Int32))])) rfl (hb hby own_d7_15) rfl (by decide) (cap := 1) (by decide) (by decide) (by decide) (by decide) (ad := "[I") (by decide)
  obtain ⟨b1, g1⟩ : ∃ z, z = h0.size := ⟨_, rfl⟩
  rw [← g1] at A1 st1 EA1
  have ne_a0_b1 : a0 ≠ b1 := Nat.ne_of_lt (Nat.lt_of_lt_of_le HF0.lt (Nat.le_of_eq g1.symm))
  have sz_b1 : h0.size ≤ b1 := Nat.le_trans K0.1 (Nat.le_of_eq g1.symm)
  have G_b1 : n0 ≤ b1 := Nat.le_trans Z0 sz_b1
  have K1 : Keep h0 h1 [] := K0.ext E1
  have F2 : ownAI Z h1 a0 .int 2 g := HF0.ext E1
  have F3 : Exa Z h1 a0 "[I" := HF1.ext E1
  have F4 : ownAI Z h1 b1 .int 1 (fun _ => (0 : Int32)) := ownAI.new A1 (by decide) rfl (by decide)
  refine ownGo (T' := T1) (f' := (mkF m 17 #[rv a0, iv (1 : Int32), .unset] [(.ref b1)])) (st1) ?_
  refine ow_astoreN (q := 18) X1 hx (L' := #[rv a0, iv (1 : Int32), rv b1]) (hb hby own_d7_17) rfl rfl rfl ?_
  refine ow_aloadN (q := 19) X1 hx (hb hby own_d7_18) rfl rfl rfl ?_
  refine ow_iconst (q := 20) X1 hx (0 : Int32) (hb hby own_d7_19) rfl rfl ?_
  refine ow_aloadN (q := 21) X1 hx (hb hby own_d7_20) rfl rfl rfl ?_
  refine ow_iconst (q := 22) X1 hx (0 : Int32) (hb hby own_d7_21) rfl rfl ?_
  refine ow_aloadN (q := 23) X1 hx (hb hby own_d7_22) rfl rfl rfl ?_
  refine ownGo (T' := T1) (f' := (mkF m 24 #[rv a0, iv (1 : Int32), rv b1] [(.int (2 : Int32)), (.int (0 : Int32)), (.ref b1), (.int (0 : Int32)), (.ref a0)])) (ownLenI F2 X1 hx hZ e1 (z := (2 : Int32)) (by decide) (g := (mkF m 23 #[rv a0, iv (1 : Int32), rv b1] [(.ref a0), (.int (0 : Int32)), (.ref b1), (.int (0 : Int32)), (.ref a0)])) rfl rfl (hb hby own_d7_23)) ?_
  refine ow_iloadN (q := 25) X1 hx (hb hby own_d7_24) rfl rfl ?_
  obtain ⟨_, _, ⟨T5, L5, k5, n5⟩, -, X5, ⟨Lc5, hQ5, l5, y5, z5⟩, st5⟩ := Jvm.LawKit.callS X1 hx (y := (⟨"java/lang/Math", "min", "(II)I"⟩ : MethodName)) hown (mvT hZ (hw _ (List.mem_of_getElem? (i := 46) rfl))) (mvT hZ (hw _ (List.mem_of_getElem? (i := 47) rfl))) (mvT hZ (hw _ (List.mem_of_getElem? (i := 48) rfl))) (mvT hZ (hw _ (List.mem_of_getElem? (i := 49) rfl))) (by decide) (backOf (W := 4) (rm_min_2_1 l Z av0 hw []  h1 n0 (Nat.le_trans Z0 K1.1) ) hZ (hw _ (List.mem_of_getElem? (i := 49) rfl)) (hw _ (List.mem_of_getElem? (i := 48) rfl)) (by decide) (by decide)) (g := (mkF m 25 #[rv a0, iv (1 : Int32), rv b1] [(.int (1 : Int32)), (.int (2 : Int32)), (.int (0 : Int32)), (.ref b1), (.int (0 : Int32)), (.ref a0)])) rfl (by rw [hml]; rfl) (argsL := [(.int (2 : Int32)), (.int (1 : Int32))]) (rest := [(.int (0 : Int32)), (.ref b1), (.int (0 : Int32)), (.ref a0)]) (lenOf own_pd1 rfl) rfl (by show 2 * 0 + _ ≤ _; exact Nat.le_of_eq rfl) (hb hby own_d7_25) (fun _ _ => ⟨rfl, e1, (by decide : 1 + 0 ≤ _), (by decide : 1 + 0 ≤ _)⟩)
  dsimp only [Pt.U, Pt.locs, Pt.cells, Pt.slots] at X5 l5 y5 z5 st5 hQ5
  subst l5 y5 z5
  obtain ⟨rfl, N5q, e5⟩ := hQ5
  have N5 := Fr.app N0 N5q
  refine ownGo (T' := T5) (f' := (mkF m 28 #[rv a0, iv (1 : Int32), rv b1] [(.int (1 : Int32)), (.int (0 : Int32)), (.ref b1), (.int (0 : Int32)), (.ref a0)])) (st5) ?_
  obtain ⟨T6, h6, L6, X6, e6, N6, Kq6, FC6, st6⟩ := ownCopyI (gr := g) (z := (2 : Int32)) (z' := (1 : Int32)) (nn := (1 : Int32)) F2 F4 (by decide) (by decide) (by decide) (by decide) rfl (fun _ _ => rfl) (fun _ _ => rfl) X5 hx hZ hown (hw _ (List.mem_of_getElem? (i := 50) rfl)) (hw _ (List.mem_of_getElem? (i := 53) rfl)) (hw _ (List.mem_of_getElem? (i := 51) rfl)) (hw _ (List.mem_of_getElem? (i := 52) rfl)) e5 (by decide) (by decide) (by decide) (fun i hi => if_pos hi) N5 G_b1 (g := (mkF m 28 #[rv a0, iv (1 : Int32), rv b1] [(.int (1 : Int32)), (.int (0 : Int32)), (.ref b1), (.int (0 : Int32)), (.ref a0)])) rfl (by rw [hml]; rfl) rfl (hb hby own_d7_28) (by decide) (W := 0) (by show 2 * 0 + _ ≤ _; exact Nat.le_of_eq rfl) (by decide)
  have K6 : Keep h0 h6 [] := K1.trans Kq6 (allS (Or.inr sz_b1) all0)
  have F7 : ownAI Z h6 a0 .int 2 g := F2.keep Kq6 (ninS ne_a0_b1 nin0)
  have F8 : Exa Z h6 a0 "[I" := F3.keep Kq6
  have F9 : Exa Z h6 b1 "[I" := EA1.keep Kq6
  refine ownGo (T' := T6) (f' := (mkF m 31 #[rv a0, iv (1 : Int32), rv b1] [])) (st6) ?_
  refine ow_aloadN (q := 32) X6 hx (hb hby own_d7_31) rfl rfl rfl ?_
  refine ownRetR X6 hx rfl rfl rfl Bd.returns (hb hby own_d7_32) hlk (by decide) (by decide) ?_
  rw [e6]
  exact ⟨b1, rfl, N6, K6, sz_b1, FC6⟩
theorem own_d7_6 : decode jdk_65_method_123_code 6 = .ok (.aload_n 0, 1) := by decide +kernel
theorem own_d7_7 : decode jdk_65_method_123_code 7 = .ok (.invokevirtual 316, 3) := by decide +kernel
theorem own_d7_10 : decode jdk_65_method_123_code 10 = .ok (.checkcast 317, 3) := by decide +kernel
theorem own_d7_13 : decode jdk_65_method_123_code 13 = .ok (.areturn, 1) := by decide +kernel
theorem own_ef7_copyOf_2 (m : MethodId) (a0 : Addr) : entryFrame m #[(.ref a0), (.int (2 : Int32))] 3 = mkF m 0 #[rv a0, iv (2 : Int32), .unset] [] := by first | (simp [entryFrame, mkF, argsToLocals, Value.category]; done) | rfl
def Q_copyOf_2 (Z : State) (a0 : Addr) (g : Nat → Int32) (h0 : Heap) (n0 : Nat) (v : Option Value) (h : Heap) (L : List Loc) : Prop := ∃ (r : Addr), v = some (.ref r) ∧ Fr n0 L ∧ Keep h0 h [] ∧ h0.size ≤ r ∧ ownAI Z h r .int 2 g
set_option maxRecDepth 65536 in
set_option maxHeartbeats 40000000 in
theorem rm_copyOf_2 (l : Launch) (Z : State) (av0 : Array Value) (hw : ∀ d ∈ tables_1, d.before av0 Z = true) (ws : List Jvm.Cond) (a0 : Addr) (g : Nat → Int32) (h0 : Heap) (n0 : Nat) (Z0 : n0 ≤ h0.size) (HF0 : ownAI Z h0 a0 .int 2 g) (HF1 : Exa Z h0 a0 "[I") :
    MetFree l (⟨"java/util/Arrays", "copyOf", "([II)[I"⟩ : MethodName) (head1 (Jvm.Cond.code (⟨"java/util/Arrays", "copyOf", "([II)[I"⟩ : MethodName) jdk_65_method_123_code 3 (some (.array .int)) :: ws) ({ frames := 1, cells := 1, slots := 2, locals := 14 } : Room)) (fun a U => a = #[(.ref a0), (.int (2 : Int32))] ∧ Z.Warmed39 U.vm ∧ U.heap = h0) (fun _ _ _ _ _ => True) (fun _ U o U' => ∃ v L, o = .returned v ∧ (Q_copyOf_2 Z a0 g h0 n0) v U'.heap L ∧ FrameEnd U o U' L ({ frames := 1, cells := 1, slots := 2, locals := 14 } : Room).cells ({ frames := 1, cells := 1, slots := 2, locals := 14 } : Room).slots) := by
  refine MetFree.of_bodySF (plainFor_of_name own_pn_Arrays) hisR ?_
  intro p e s m args below meth c s₁ Bd hml0 hP hK
  obtain ⟨rfl, hZ, hh⟩ := hP
  have hx := Bd.exec
  have hby := Bd.bytes
  have hml : c.maxLocals = 3 := hml0
  have hown : s.vm.findClass "java/util/Arrays" = some m.cls := findClass_of_methodNamed Bd.named
  have hnm := (name_of_methodNamed Bd.named Bd.method).1
  have hlk : meth.locks = false := BodyLoose.notSynchronized Bd
  have X0 : Stand p l e ({ frames := 1, cells := 1, slots := 2, locals := 14 } : Room) s m #[(.ref a0), (.int (2 : Int32))] below meth c s₁ [] 0 0 := Stand.of_body Bd
  have e0 : s₁.heap = h0 := by rw [← hh, Bd.state]; rfl
  have N0 := Fr.nil n0
  have K0 : Keep h0 h0 [] := Keep.refl _ _
  show ownEnds p e below s (Q_copyOf_2 Z a0 g h0 n0) ({ frames := 1, cells := 1, slots := 2, locals := 14 } : Room).cells ({ frames := 1, cells := 1, slots := 2, locals := 14 } : Room).slots s₁ (entryFrame m #[(.ref a0), (.int (2 : Int32))] 3)
  refine ownCast (own_ef7_copyOf_2 m a0) ?_
  refine ow_iloadN (q := 1) X0 hx (hb hby own_d7_0) rfl rfl ?_
  refine ow_aloadN (q := 2) X0 hx (hb hby own_d7_1) rfl rfl rfl ?_
  refine ownGo (T' := s₁) (f' := (mkF m 3 #[rv a0, iv (2 : Int32), .unset] [(.int (2 : Int32)), (.int (2 : Int32))])) (ownLenI HF0 X0 hx hZ e0 (z := (2 : Int32)) (by decide) (g := (mkF m 2 #[rv a0, iv (2 : Int32), .unset] [(.ref a0), (.int (2 : Int32))])) rfl rfl (hb hby own_d7_2)) ?_
  refine ow_icmpNo (q := 6) X0 hx (hb hby own_d7_3) rfl (Jvm.Free.XT.ii_ne_f (by decide)) ?_
  refine ow_aloadN (q := 7) X0 hx (hb hby own_d7_6) rfl rfl rfl ?_
  obtain ⟨T1, h1, X1, e1, E1, A1, EA1, st1⟩ := ownCloneI (z := (2 : Int32)) HF0 (by decide) (by decide) (fun _ _ => rfl) X0 hx hZ hown (hw _ (List.mem_of_getElem? (i := 37) rfl)) (hw _ (List.mem_of_getElem? (i := 38) rfl)) (hw _ (List.mem_of_getElem? (i := 42) rfl)) (hw _ (List.mem_of_getElem? (i := 40) rfl)) (hw _ (List.mem_of_getElem? (i := 41) rfl)) (hw _ (List.mem_of_getElem? (i := 43) rfl)) e0 HF1 (g := (mkF m 7 #[rv a0, iv (2 : Int32), .unset] [(.ref a0)])) rfl (by rw [hml]; rfl) rfl (hb hby own_d7_7) (by decide) (W := 0) (cap := 2) (by show 2 * 0 + _ ≤ _; exact Nat.le_of_eq rfl) (by decide) (by decide) (by decide) (by decide)
  obtain ⟨b1, g1⟩ : ∃ z, z = h0.size := ⟨_, rfl⟩
  rw [← g1] at A1 EA1 st1
  have ne_a0_b1 : a0 ≠ b1 := Nat.ne_of_lt (Nat.lt_of_lt_of_le HF0.lt (Nat.le_of_eq g1.symm))
  have sz_b1 : h0.size ≤ b1 := Nat.le_trans K0.1 (Nat.le_of_eq g1.symm)
  have G_b1 : n0 ≤ b1 := Nat.le_trans Z0 sz_b1
  have K1 : Keep h0 h1 [] := K0.ext E1
  have F2 : ownAI Z h1 a0 .int 2 g := HF0.ext E1
  have F3 : Exa Z h1 a0 "[I" := HF1.ext E1
  refine ownGo (T' := T1) (f' := (mkF m 10 #[rv a0, iv (2 : Int32), .unset] [(.ref b1)])) (st1) ?_
  obtain ⟨T4, X4, e4, st4⟩ := castY X1 hx hZ hown (hw _ (List.mem_of_getElem? (i := 44) rfl)) e1 (Ins.self EA1) (g := (mkF m 10 #[rv a0, iv (2 : Int32), .unset] [(.ref b1)])) rfl rfl (hb hby own_d7_10)
  refine ownGo (T' := T4) (f' := (mkF m 13 #[rv a0, iv (2 : Int32), .unset] [(.ref b1)])) (st4) ?_
  refine ownRetR X4 hx rfl rfl rfl Bd.returns (hb hby own_d7_13) hlk (by decide) (by decide) ?_
  rw [e4]
  exact ⟨b1, rfl, N0, K1, sz_b1, A1⟩
theorem own_d6_0 : decode prog_17_method_7_code 0 = .ok (.aload_n 0, 1) := by decide +kernel
theorem own_d6_1 : decode prog_17_method_7_code 1 = .ok (.getfield 9, 3) := by decide +kernel
theorem own_d6_4 : decode prog_17_method_7_code 4 = .ok (.arraylength, 1) := by decide +kernel
theorem own_d6_5 : decode prog_17_method_7_code 5 = .ok (.newarray .int, 2) := by decide +kernel
theorem own_d6_7 : decode prog_17_method_7_code 7 = .ok (.astore_n 1, 1) := by decide +kernel
theorem own_d6_8 : decode prog_17_method_7_code 8 = .ok (.iconst 0, 1) := by decide +kernel
theorem own_d6_9 : decode prog_17_method_7_code 9 = .ok (.istore_n 2, 1) := by decide +kernel
theorem own_d6_10 : decode prog_17_method_7_code 10 = .ok (.iconst 0, 1) := by decide +kernel
theorem own_d6_11 : decode prog_17_method_7_code 11 = .ok (.istore_n 3, 1) := by decide +kernel
theorem own_d6_12 : decode prog_17_method_7_code 12 = .ok (.iload_n 3, 1) := by decide +kernel
theorem own_d6_13 : decode prog_17_method_7_code 13 = .ok (.aload_n 0, 1) := by decide +kernel
theorem own_d6_14 : decode prog_17_method_7_code 14 = .ok (.getfield 9, 3) := by decide +kernel
theorem own_d6_17 : decode prog_17_method_7_code 17 = .ok (.arraylength, 1) := by decide +kernel
theorem own_d6_18 : decode prog_17_method_7_code 18 = .ok (.if_icmp .ge 50, 3) := by decide +kernel
theorem own_d6_21 : decode prog_17_method_7_code 21 = .ok (.aload_n 1, 1) := by decide +kernel
theorem own_d6_22 : decode prog_17_method_7_code 22 = .ok (.iload_n 2, 1) := by decide +kernel
theorem own_d6_23 : decode prog_17_method_7_code 23 = .ok (.iinc 2 1, 3) := by decide +kernel
theorem own_d6_26 : decode prog_17_method_7_code 26 = .ok (.aload_n 0, 1) := by decide +kernel
theorem own_d6_27 : decode prog_17_method_7_code 27 = .ok (.getfield 9, 3) := by decide +kernel
theorem own_d6_30 : decode prog_17_method_7_code 30 = .ok (.iload_n 3, 1) := by decide +kernel
theorem own_d6_31 : decode prog_17_method_7_code 31 = .ok (.iaload, 1) := by decide +kernel
theorem own_d6_32 : decode prog_17_method_7_code 32 = .ok (.iastore, 1) := by decide +kernel
theorem own_d6_33 : decode prog_17_method_7_code 33 = .ok (.aload_n 0, 1) := by decide +kernel
theorem own_d6_34 : decode prog_17_method_7_code 34 = .ok (.getfield 9, 3) := by decide +kernel
theorem own_d6_37 : decode prog_17_method_7_code 37 = .ok (.iload_n 3, 1) := by decide +kernel
theorem own_d6_38 : decode prog_17_method_7_code 38 = .ok (.iconst 1, 1) := by decide +kernel
theorem own_d6_39 : decode prog_17_method_7_code 39 = .ok (.iadd, 1) := by decide +kernel
theorem own_d6_40 : decode prog_17_method_7_code 40 = .ok (.iaload, 1) := by decide +kernel
theorem own_d6_41 : decode prog_17_method_7_code 41 = .ok (.ldc 43, 2) := by decide +kernel
theorem own_d6_43 : decode prog_17_method_7_code 43 = .ok (.if_icmp .ge 19, 3) := by decide +kernel
theorem own_d6_46 : decode prog_17_method_7_code 46 = .ok (.aload_n 1, 1) := by decide +kernel
theorem own_d6_47 : decode prog_17_method_7_code 47 = .ok (.iload_n 2, 1) := by decide +kernel
theorem own_d6_48 : decode prog_17_method_7_code 48 = .ok (.iinc 2 1, 3) := by decide +kernel
theorem own_d6_51 : decode prog_17_method_7_code 51 = .ok (.aload_n 0, 1) := by decide +kernel
theorem own_d6_52 : decode prog_17_method_7_code 52 = .ok (.getfield 9, 3) := by decide +kernel
theorem own_d6_55 : decode prog_17_method_7_code 55 = .ok (.iload_n 3, 1) := by decide +kernel
theorem own_d6_56 : decode prog_17_method_7_code 56 = .ok (.iconst 1, 1) := by decide +kernel
theorem own_d6_57 : decode prog_17_method_7_code 57 = .ok (.iadd, 1) := by decide +kernel
theorem own_d6_58 : decode prog_17_method_7_code 58 = .ok (.iaload, 1) := by decide +kernel
theorem own_d6_59 : decode prog_17_method_7_code 59 = .ok (.iconst 1, 1) := by decide +kernel
theorem own_d6_60 : decode prog_17_method_7_code 60 = .ok (.iadd, 1) := by decide +kernel
theorem own_d6_61 : decode prog_17_method_7_code 61 = .ok (.iastore, 1) := by decide +kernel
theorem own_d6_62 : decode prog_17_method_7_code 62 = .ok (.iinc 3 2, 3) := by decide +kernel
theorem own_d6_65 : decode prog_17_method_7_code 65 = .ok (.goto (-53), 3) := by decide +kernel
theorem own_d6_68 : decode prog_17_method_7_code 68 = .ok (.aload_n 1, 1) := by decide +kernel
theorem own_d6_69 : decode prog_17_method_7_code 69 = .ok (.iload_n 2, 1) := by decide +kernel
theorem own_d6_70 : decode prog_17_method_7_code 70 = .ok (.invokestatic 44, 3) := by decide +kernel
theorem own_pd2 : parseMethodDescriptor "([II)[I" = some ⟨[(.array .int), .int], some (.array .int)⟩ := by decide +kernel
theorem own_d6_73 : decode prog_17_method_7_code 73 = .ok (.areturn, 1) := by decide +kernel
theorem own_ef6_edges_2 (m : MethodId) (a0 : Addr) : entryFrame m #[(.ref a0)] 4 = mkF m 0 #[rv a0, .unset, .unset, .unset] [] := by first | (simp [entryFrame, mkF, argsToLocals, Value.category]; done) | rfl
def Q_edges_2 (Z : State) (a0 : Addr) (ar : Addr) (g : Nat → Int32) (h0 : Heap) (n0 : Nat) (v : Option Value) (h : Heap) (L : List Loc) : Prop := ∃ (r : Addr), v = some (.ref r) ∧ Fr n0 L ∧ Keep h0 h [] ∧ h0.size ≤ r ∧ ownAI Z h r .int 2 (ownUpd (ownUpd (fun _ => (0 : Int32)) 0 (g 0)) 1 ((g 1) + (1 : Int32)))
set_option maxRecDepth 65536 in
set_option maxHeartbeats 40000000 in
theorem rm_edges_2 (l : Launch) (Z : State) (av0 : Array Value) (hw : ∀ d ∈ tables_1, d.before av0 Z = true) (ws : List Jvm.Cond) (a0 : Addr) (ar : Addr) (g : Nat → Int32) (h0 : Heap) (n0 : Nat) (Z0 : n0 ≤ h0.size) (HF0 : Fld Z h0 a0 "com/example/shapewright/shapewright/regex/CodePointSet" "ranges" "[I" (.ref ar)) (HF1 : ownAI Z h0 ar .int 2 g) (hlt : (g 1) < (1114111 : Int32)) :
    MetFree l (⟨"com/example/shapewright/shapewright/regex/CodePointSet", "edges", "()[I"⟩ : MethodName) (head1 (Jvm.Cond.code (⟨"com/example/shapewright/shapewright/regex/CodePointSet", "edges", "()[I"⟩ : MethodName) prog_17_method_7_code 4 (some (.array .int)) :: ws) ({ frames := 2, cells := 2, slots := 4, locals := 28 } : Room)) (fun a U => a = #[(.ref a0)] ∧ Z.Warmed39 U.vm ∧ U.heap = h0) (fun _ _ _ _ _ => True) (fun _ U o U' => ∃ v L, o = .returned v ∧ (Q_edges_2 Z a0 ar g h0 n0) v U'.heap L ∧ FrameEnd U o U' L ({ frames := 2, cells := 2, slots := 4, locals := 28 } : Room).cells ({ frames := 2, cells := 2, slots := 4, locals := 28 } : Room).slots) := by
  refine MetFree.of_bodySF (plainFor_of_name own_pn_CodePointSet) hisR ?_
  intro p e s m args below meth c s₁ Bd hml0 hP hK
  obtain ⟨rfl, hZ, hh⟩ := hP
  have hx := Bd.exec
  have hby := Bd.bytes
  have hml : c.maxLocals = 4 := hml0
  have hown : s.vm.findClass "com/example/shapewright/shapewright/regex/CodePointSet" = some m.cls := findClass_of_methodNamed Bd.named
  have hnm := (name_of_methodNamed Bd.named Bd.method).1
  have hlk : meth.locks = false := BodyLoose.notSynchronized Bd
  have X0 : Stand p l e ({ frames := 2, cells := 2, slots := 4, locals := 28 } : Room) s m #[(.ref a0)] below meth c s₁ [] 0 0 := Stand.of_body Bd
  have e0 : s₁.heap = h0 := by rw [← hh, Bd.state]; rfl
  have N0 := Fr.nil n0
  have K0 : Keep h0 h0 [] := Keep.refl _ _
  show ownEnds p e below s (Q_edges_2 Z a0 ar g h0 n0) ({ frames := 2, cells := 2, slots := 4, locals := 28 } : Room).cells ({ frames := 2, cells := 2, slots := 4, locals := 28 } : Room).slots s₁ (entryFrame m #[(.ref a0)] 4)
  refine ownCast (own_ef6_edges_2 m a0) ?_
  refine ow_aloadN (q := 1) X0 hx (hb hby own_d6_0) rfl rfl rfl ?_
  obtain ⟨T1, X1, e1, st1⟩ := getF X0 hx hZ hown (host := "") (Or.inl (hw _ (List.mem_of_getElem? (i := 15) rfl))) Via.refl e0 HF0 (g := (mkF m 1 #[rv a0, .unset, .unset, .unset] [(.ref a0)])) rfl rfl (hb hby own_d6_1)
  refine ownGo (T' := T1) (f' := (mkF m 4 #[rv a0, .unset, .unset, .unset] [(.ref ar)])) (st1) ?_
  refine ownGo (T' := T1) (f' := (mkF m 5 #[rv a0, .unset, .unset, .unset] [(.int (2 : Int32))])) (ownLenI HF1 X1 hx hZ e1 (z := (2 : Int32)) (by decide) (g := (mkF m 4 #[rv a0, .unset, .unset, .unset] [(.ref ar)])) rfl rfl (hb hby own_d6_4)) ?_
  obtain ⟨T2, h2, k2, X2, e2, E2, A2, EA2, st2⟩ := newPE X1 hx hZ (hw _ (List.mem_of_getElem? (i := 8) rfl)) e1 (g := (mkF m 5 #[rv a0, .unset, .unset, .unset] [(.int (2 : Int32))])) rfl (hb hby own_d6_5) rfl (by decide) (cap := 2) (by decide) (by decide) (by decide) (by decide) (ad := "[I") (by decide)
  obtain ⟨b2, g2⟩ : ∃ z, z = h0.size := ⟨_, rfl⟩
  rw [← g2] at A2 st2 EA2
  have ne_a0_b2 : a0 ≠ b2 := Nat.ne_of_lt (Nat.lt_of_lt_of_le HF0.lt (Nat.le_of_eq g2.symm))
  have ne_ar_b2 : ar ≠ b2 := Nat.ne_of_lt (Nat.lt_of_lt_of_le HF1.lt (Nat.le_of_eq g2.symm))
  have sz_b2 : h0.size ≤ b2 := Nat.le_trans K0.1 (Nat.le_of_eq g2.symm)
  have G_b2 : n0 ≤ b2 := Nat.le_trans Z0 sz_b2
  have K2 : Keep h0 h2 [] := K0.ext E2
  have F3 : Fld Z h2 a0 "com/example/shapewright/shapewright/regex/CodePointSet" "ranges" "[I" (.ref ar) := HF0.ext E2
  have F4 : ownAI Z h2 ar .int 2 g := HF1.ext E2
  have F5 : ownAI Z h2 b2 .int 2 (fun _ => (0 : Int32)) := ownAI.new A2 (by decide) rfl (by decide)
  refine ownGo (T' := T2) (f' := (mkF m 7 #[rv a0, .unset, .unset, .unset] [(.ref b2)])) (st2) ?_
  refine ow_astoreN (q := 8) X2 hx (L' := #[rv a0, rv b2, .unset, .unset]) (hb hby own_d6_7) rfl rfl rfl ?_
  refine ow_iconst (q := 9) X2 hx (0 : Int32) (hb hby own_d6_8) rfl rfl ?_
  refine ow_istoreN (q := 10) X2 hx (L' := #[rv a0, rv b2, iv (0 : Int32), .unset]) (hb hby own_d6_9) rfl rfl ?_
  refine ow_iconst (q := 11) X2 hx (0 : Int32) (hb hby own_d6_10) rfl rfl ?_
  refine ow_istoreN (q := 12) X2 hx (L' := #[rv a0, rv b2, iv (0 : Int32), iv (0 : Int32)]) (hb hby own_d6_11) rfl rfl ?_
  refine ow_iloadN (q := 13) X2 hx (hb hby own_d6_12) rfl rfl ?_
  refine ow_aloadN (q := 14) X2 hx (hb hby own_d6_13) rfl rfl rfl ?_
  obtain ⟨T6, X6, e6, st6⟩ := getF X2 hx hZ hown (host := "") (Or.inl (hw _ (List.mem_of_getElem? (i := 15) rfl))) Via.refl e2 F3 (g := (mkF m 14 #[rv a0, rv b2, iv (0 : Int32), iv (0 : Int32)] [(.ref a0), (.int (0 : Int32))])) rfl rfl (hb hby own_d6_14)
  refine ownGo (T' := T6) (f' := (mkF m 17 #[rv a0, rv b2, iv (0 : Int32), iv (0 : Int32)] [(.ref ar), (.int (0 : Int32))])) (st6) ?_
  refine ownGo (T' := T6) (f' := (mkF m 18 #[rv a0, rv b2, iv (0 : Int32), iv (0 : Int32)] [(.int (2 : Int32)), (.int (0 : Int32))])) (ownLenI F4 X6 hx hZ e6 (z := (2 : Int32)) (by decide) (g := (mkF m 17 #[rv a0, rv b2, iv (0 : Int32), iv (0 : Int32)] [(.ref ar), (.int (0 : Int32))])) rfl rfl (hb hby own_d6_17)) ?_
  refine ow_icmpNo (q := 21) X6 hx (hb hby own_d6_18) rfl (Jvm.Free.XT.ii_ge_f (by decide)) ?_
  refine ow_aloadN (q := 22) X6 hx (hb hby own_d6_21) rfl rfl rfl ?_
  refine ow_iloadN (q := 23) X6 hx (hb hby own_d6_22) rfl rfl ?_
  refine ow_iinc (q := 26) X6 hx (L' := #[rv a0, rv b2, iv (1 : Int32), iv (0 : Int32)]) (hb hby own_d6_23) rfl rfl rfl ?_
  refine ow_aloadN (q := 27) X6 hx (hb hby own_d6_26) rfl rfl rfl ?_
  obtain ⟨T7, X7, e7, st7⟩ := getF X6 hx hZ hown (host := "") (Or.inl (hw _ (List.mem_of_getElem? (i := 15) rfl))) Via.refl e6 F3 (g := (mkF m 27 #[rv a0, rv b2, iv (1 : Int32), iv (0 : Int32)] [(.ref a0), (.int (0 : Int32)), (.ref b2)])) rfl rfl (hb hby own_d6_27)
  refine ownGo (T' := T7) (f' := (mkF m 30 #[rv a0, rv b2, iv (1 : Int32), iv (0 : Int32)] [(.ref ar), (.int (0 : Int32)), (.ref b2)])) (st7) ?_
  refine ow_iloadN (q := 31) X7 hx (hb hby own_d6_30) rfl rfl ?_
  refine ownGo (T' := T7) (f' := (mkF m 32 #[rv a0, rv b2, iv (1 : Int32), iv (0 : Int32)] [(.int (g 0)), (.int (0 : Int32)), (.ref b2)])) (ownIaload F4 X7 hx hZ e7 (j := (0 : Int32)) (by unfold ownIn; decide) (g := (mkF m 31 #[rv a0, rv b2, iv (1 : Int32), iv (0 : Int32)] [(.int (0 : Int32)), (.ref ar), (.int (0 : Int32)), (.ref b2)])) rfl rfl (hb hby own_d6_31)) ?_
  generalize hv_v8 : (g 0) = v8
  obtain ⟨T9, h9, X9, e9, W9, F9s, st9⟩ := ownIastore F5 X7 hx hZ e7 (j := (0 : Int32)) (by unfold ownIn; decide) (g := (mkF m 32 #[rv a0, rv b2, iv (1 : Int32), iv (0 : Int32)] [(.int v8), (.int (0 : Int32)), (.ref b2)])) rfl rfl (hb hby own_d6_32)
  have F9r : ownAI Z h9 b2 .int 2 (ownUpd (fun _ => (0 : Int32)) 0 v8) := F9s
  have N9 := Fr.snoc X9 N0 G_b2
  have K9 : Keep h0 h9 [] := K2.wr W9 (Or.inr sz_b2)
  have F10 : Fld Z h9 a0 "com/example/shapewright/shapewright/regex/CodePointSet" "ranges" "[I" (.ref ar) := F3.other W9 (Or.inl ne_a0_b2)
  have F11 : ownAI Z h9 ar .int 2 g := F4.other W9 ne_ar_b2
  have F12 : Exa Z h9 b2 "[I" := EA2.wr W9
  refine ownGo (T' := T9) (f' := (mkF m 33 #[rv a0, rv b2, iv (1 : Int32), iv (0 : Int32)] [])) (st9) ?_
  refine ow_aloadN (q := 34) X9 hx (hb hby own_d6_33) rfl rfl rfl ?_
  obtain ⟨T13, X13, e13, st13⟩ := getF X9 hx hZ hown (host := "") (Or.inl (hw _ (List.mem_of_getElem? (i := 15) rfl))) Via.refl e9 F10 (g := (mkF m 34 #[rv a0, rv b2, iv (1 : Int32), iv (0 : Int32)] [(.ref a0)])) rfl rfl (hb hby own_d6_34)
  refine ownGo (T' := T13) (f' := (mkF m 37 #[rv a0, rv b2, iv (1 : Int32), iv (0 : Int32)] [(.ref ar)])) (st13) ?_
  refine ow_iloadN (q := 38) X13 hx (hb hby own_d6_37) rfl rfl ?_
  refine ow_iconst (q := 39) X13 hx (1 : Int32) (hb hby own_d6_38) rfl rfl ?_
  refine ow_iadd (q := 40) X13 hx (1 : Int32) (hb hby own_d6_39) rfl (by decide) ?_
  refine ownGo (T' := T13) (f' := (mkF m 41 #[rv a0, rv b2, iv (1 : Int32), iv (0 : Int32)] [(.int (g 1))])) (ownIaload F11 X13 hx hZ e13 (j := (1 : Int32)) (by unfold ownIn; decide) (g := (mkF m 40 #[rv a0, rv b2, iv (1 : Int32), iv (0 : Int32)] [(.int (1 : Int32)), (.ref ar)])) rfl rfl (hb hby own_d6_40)) ?_
  generalize hv_v14 : (g 1) = v14
  refine ownGo (T' := T13) (f' := (mkF m 43 #[rv a0, rv b2, iv (1 : Int32), iv (0 : Int32)] [(.int (1114111 : Int32)), (.int v14)])) (X13.ldcInt hx hown (mvT hZ (hw _ (List.mem_of_getElem? (i := 32) rfl))) (g := (mkF m 41 #[rv a0, rv b2, iv (1 : Int32), iv (0 : Int32)] [(.int v14)])) rfl (hb hby own_d6_41)) ?_
  refine ow_icmpNo (q := 46) X13 hx (hb hby own_d6_43) rfl (Jvm.Free.XT.ii_ge_f (by first | exact hlt | (rw [hv_v14] at hlt; exact hlt))) ?_
  refine ow_aloadN (q := 47) X13 hx (hb hby own_d6_46) rfl rfl rfl ?_
  refine ow_iloadN (q := 48) X13 hx (hb hby own_d6_47) rfl rfl ?_
  refine ow_iinc (q := 51) X13 hx (L' := #[rv a0, rv b2, iv (2 : Int32), iv (0 : Int32)]) (hb hby own_d6_48) rfl rfl rfl ?_
  refine ow_aloadN (q := 52) X13 hx (hb hby own_d6_51) rfl rfl rfl ?_
  obtain ⟨T15, X15, e15, st15⟩ := getF X13 hx hZ hown (host := "") (Or.inl (hw _ (List.mem_of_getElem? (i := 15) rfl))) Via.refl e13 F10 (g := (mkF m 52 #[rv a0, rv b2, iv (2 : Int32), iv (0 : Int32)] [(.ref a0), (.int (1 : Int32)), (.ref b2)])) rfl rfl (hb hby own_d6_52)
  refine ownGo (T' := T15) (f' := (mkF m 55 #[rv a0, rv b2, iv (2 : Int32), iv (0 : Int32)] [(.ref ar), (.int (1 : Int32)), (.ref b2)])) (st15) ?_
  refine ow_iloadN (q := 56) X15 hx (hb hby own_d6_55) rfl rfl ?_
  refine ow_iconst (q := 57) X15 hx (1 : Int32) (hb hby own_d6_56) rfl rfl ?_
  refine ow_iadd (q := 58) X15 hx (1 : Int32) (hb hby own_d6_57) rfl (by decide) ?_
  refine ownGo (T' := T15) (f' := (mkF m 59 #[rv a0, rv b2, iv (2 : Int32), iv (0 : Int32)] [(.int (g 1)), (.int (1 : Int32)), (.ref b2)])) (ownIaload F11 X15 hx hZ e15 (j := (1 : Int32)) (by unfold ownIn; decide) (g := (mkF m 58 #[rv a0, rv b2, iv (2 : Int32), iv (0 : Int32)] [(.int (1 : Int32)), (.ref ar), (.int (1 : Int32)), (.ref b2)])) rfl rfl (hb hby own_d6_58)) ?_
  generalize hv_v16 : (g 1) = v16
  refine ow_iconst (q := 60) X15 hx (1 : Int32) (hb hby own_d6_59) rfl rfl ?_
  refine ow_iadd (q := 61) X15 hx _ (hb hby own_d6_60) rfl rfl ?_
  generalize hv_v17 : (v16 + (1 : Int32)) = v17
  obtain ⟨T18, h18, X18, e18, W18, F18s, st18⟩ := ownIastore F9r X15 hx hZ e15 (j := (1 : Int32)) (by unfold ownIn; decide) (g := (mkF m 61 #[rv a0, rv b2, iv (2 : Int32), iv (0 : Int32)] [(.int v17), (.int (1 : Int32)), (.ref b2)])) rfl rfl (hb hby own_d6_61)
  have F18r : ownAI Z h18 b2 .int 2 (ownUpd (ownUpd (fun _ => (0 : Int32)) 0 v8) 1 v17) := F18s
  have N18 := Fr.snoc X18 N9 G_b2
  have K18 : Keep h0 h18 [] := K9.wr W18 (Or.inr sz_b2)
  have F19 : Fld Z h18 a0 "com/example/shapewright/shapewright/regex/CodePointSet" "ranges" "[I" (.ref ar) := F10.other W18 (Or.inl ne_a0_b2)
  have F20 : ownAI Z h18 ar .int 2 g := F11.other W18 ne_ar_b2
  have F21 : Exa Z h18 b2 "[I" := F12.wr W18
  refine ownGo (T' := T18) (f' := (mkF m 62 #[rv a0, rv b2, iv (2 : Int32), iv (0 : Int32)] [])) (st18) ?_
  refine ow_iinc (q := 65) X18 hx (L' := #[rv a0, rv b2, iv (2 : Int32), iv (2 : Int32)]) (hb hby own_d6_62) rfl rfl rfl ?_
  refine ow_goto (q := 12) X18 hx (hb hby own_d6_65) (by decide) (by decide) ?_
  refine ow_iloadN (q := 13) X18 hx (hb hby own_d6_12) rfl rfl ?_
  refine ow_aloadN (q := 14) X18 hx (hb hby own_d6_13) rfl rfl rfl ?_
  obtain ⟨T22, X22, e22, st22⟩ := getF X18 hx hZ hown (host := "") (Or.inl (hw _ (List.mem_of_getElem? (i := 15) rfl))) Via.refl e18 F19 (g := (mkF m 14 #[rv a0, rv b2, iv (2 : Int32), iv (2 : Int32)] [(.ref a0), (.int (2 : Int32))])) rfl rfl (hb hby own_d6_14)
  refine ownGo (T' := T22) (f' := (mkF m 17 #[rv a0, rv b2, iv (2 : Int32), iv (2 : Int32)] [(.ref ar), (.int (2 : Int32))])) (st22) ?_
  refine ownGo (T' := T22) (f' := (mkF m 18 #[rv a0, rv b2, iv (2 : Int32), iv (2 : Int32)] [(.int (2 : Int32)), (.int (2 : Int32))])) (ownLenI F20 X22 hx hZ e22 (z := (2 : Int32)) (by decide) (g := (mkF m 17 #[rv a0, rv b2, iv (2 : Int32), iv (2 : Int32)] [(.ref ar), (.int (2 : Int32))])) rfl rfl (hb hby own_d6_17)) ?_
  refine ow_icmpYes (q := 68) X22 hx (hb hby own_d6_18) (Jvm.Free.XT.ii_ge_t (by decide)) (by decide) (by decide) ?_
  refine ow_aloadN (q := 69) X22 hx (hb hby own_d6_68) rfl rfl rfl ?_
  refine ow_iloadN (q := 70) X22 hx (hb hby own_d6_69) rfl rfl ?_
  obtain ⟨_, _, ⟨T23, L23, k23, n23⟩, -, X23, ⟨Lc23, hQ23, l23, y23, z23⟩, st23⟩ := Jvm.LawKit.callS X22 hx (y := (⟨"java/util/Arrays", "copyOf", "([II)[I"⟩ : MethodName)) hown (mvT hZ (hw _ (List.mem_of_getElem? (i := 33) rfl))) (mvT hZ (hw _ (List.mem_of_getElem? (i := 34) rfl))) (mvT hZ (hw _ (List.mem_of_getElem? (i := 35) rfl))) (mvT hZ (hw _ (List.mem_of_getElem? (i := 36) rfl))) (by decide) (backOf (W := 0) (rm_copyOf_2 l Z av0 hw [] b2 (ownUpd (ownUpd (fun _ => (0 : Int32)) 0 v8) 1 v17) h18 n0 (Nat.le_trans Z0 K18.1) F18r F21) hZ (hw _ (List.mem_of_getElem? (i := 36) rfl)) (hw _ (List.mem_of_getElem? (i := 35) rfl)) (by decide) (by decide)) (g := (mkF m 70 #[rv a0, rv b2, iv (2 : Int32), iv (2 : Int32)] [(.int (2 : Int32)), (.ref b2)])) rfl (by rw [hml]; rfl) (argsL := [(.ref b2), (.int (2 : Int32))]) (rest := []) (lenOf own_pd2 rfl) rfl (by show 2 * 0 + _ ≤ _; exact Nat.le_of_eq rfl) (hb hby own_d6_70) (fun _ _ => ⟨rfl, e22, (by decide : 1 + 1 ≤ _), (by decide : 2 + 2 ≤ _)⟩)
  dsimp only [Pt.U, Pt.locs, Pt.cells, Pt.slots] at X23 l23 y23 z23 st23 hQ23
  subst l23 y23 z23
  obtain ⟨b23, rfl, N23q, Kq23, sq23_b23, FP23_0⟩ := hQ23
  have N23 := Fr.app N18 N23q
  have K23 : Keep h0 T23.heap [] := K18.trans Kq23 all0
  have ne_a0_b23 : a0 ≠ b23 := Nat.ne_of_lt (Nat.lt_of_lt_of_le F19.lt sq23_b23)
  have ne_ar_b23 : ar ≠ b23 := Nat.ne_of_lt (Nat.lt_of_lt_of_le F20.lt sq23_b23)
  have ne_b2_b23 : b2 ≠ b23 := Nat.ne_of_lt (Nat.lt_of_lt_of_le F21.lt sq23_b23)
  have sz_b23 : h0.size ≤ b23 := Nat.le_trans K18.1 sq23_b23
  have G_b23 : n0 ≤ b23 := Nat.le_trans Z0 sz_b23
  have F24 : Fld Z T23.heap a0 "com/example/shapewright/shapewright/regex/CodePointSet" "ranges" "[I" (.ref ar) := F19.keep Kq23 nin0
  have F25 : ownAI Z T23.heap ar .int 2 g := F20.keep Kq23 nin0
  have F26 : Exa Z T23.heap b2 "[I" := F21.keep Kq23
  have F27 : ownAI Z T23.heap b2 .int 2 (ownUpd (ownUpd (fun _ => (0 : Int32)) 0 v8) 1 v17) := F18r.keep Kq23 nin0
  refine ownGo (T' := T23) (f' := (mkF m 73 #[rv a0, rv b2, iv (2 : Int32), iv (2 : Int32)] [(.ref b23)])) (st23) ?_
  refine ownRetR X23 hx rfl rfl rfl Bd.returns (hb hby own_d6_73) hlk (by decide) (by decide) ?_
  subst hv_v17 hv_v16 hv_v14 hv_v8
  exact ⟨b23, rfl, N23, K23, sz_b23, FP23_0⟩
theorem own_ef6_edges_1 (m : MethodId) (a0 : Addr) : entryFrame m #[(.ref a0)] 4 = mkF m 0 #[rv a0, .unset, .unset, .unset] [] := by first | (simp [entryFrame, mkF, argsToLocals, Value.category]; done) | rfl
def Q_edges_1 (Z : State) (a0 : Addr) (ar : Addr) (g : Nat → Int32) (h0 : Heap) (n0 : Nat) (v : Option Value) (h : Heap) (L : List Loc) : Prop := ∃ (r : Addr), v = some (.ref r) ∧ Fr n0 L ∧ Keep h0 h [] ∧ h0.size ≤ r ∧ ownAI Z h r .int 1 (ownUpd (fun _ => (0 : Int32)) 0 (g 0))
set_option maxRecDepth 65536 in
set_option maxHeartbeats 40000000 in
theorem rm_edges_1 (l : Launch) (Z : State) (av0 : Array Value) (hw : ∀ d ∈ tables_1, d.before av0 Z = true) (ws : List Jvm.Cond) (a0 : Addr) (ar : Addr) (g : Nat → Int32) (h0 : Heap) (n0 : Nat) (Z0 : n0 ≤ h0.size) (HF0 : Fld Z h0 a0 "com/example/shapewright/shapewright/regex/CodePointSet" "ranges" "[I" (.ref ar)) (HF1 : ownAI Z h0 ar .int 2 g) (hlt : ¬ (g 1) < (1114111 : Int32)) :
    MetFree l (⟨"com/example/shapewright/shapewright/regex/CodePointSet", "edges", "()[I"⟩ : MethodName) (head1 (Jvm.Cond.code (⟨"com/example/shapewright/shapewright/regex/CodePointSet", "edges", "()[I"⟩ : MethodName) prog_17_method_7_code 4 (some (.array .int)) :: ws) ({ frames := 2, cells := 2, slots := 3, locals := 32 } : Room)) (fun a U => a = #[(.ref a0)] ∧ Z.Warmed39 U.vm ∧ U.heap = h0) (fun _ _ _ _ _ => True) (fun _ U o U' => ∃ v L, o = .returned v ∧ (Q_edges_1 Z a0 ar g h0 n0) v U'.heap L ∧ FrameEnd U o U' L ({ frames := 2, cells := 2, slots := 3, locals := 32 } : Room).cells ({ frames := 2, cells := 2, slots := 3, locals := 32 } : Room).slots) := by
  refine MetFree.of_bodySF (plainFor_of_name own_pn_CodePointSet) hisR ?_
  intro p e s m args below meth c s₁ Bd hml0 hP hK
  obtain ⟨rfl, hZ, hh⟩ := hP
  have hx := Bd.exec
  have hby := Bd.bytes
  have hml : c.maxLocals = 4 := hml0
  have hown : s.vm.findClass "com/example/shapewright/shapewright/regex/CodePointSet" = some m.cls := findClass_of_methodNamed Bd.named
  have hnm := (name_of_methodNamed Bd.named Bd.method).1
  have hlk : meth.locks = false := BodyLoose.notSynchronized Bd
  have X0 : Stand p l e ({ frames := 2, cells := 2, slots := 3, locals := 32 } : Room) s m #[(.ref a0)] below meth c s₁ [] 0 0 := Stand.of_body Bd
  have e0 : s₁.heap = h0 := by rw [← hh, Bd.state]; rfl
  have N0 := Fr.nil n0
  have K0 : Keep h0 h0 [] := Keep.refl _ _
  show ownEnds p e below s (Q_edges_1 Z a0 ar g h0 n0) ({ frames := 2, cells := 2, slots := 3, locals := 32 } : Room).cells ({ frames := 2, cells := 2, slots := 3, locals := 32 } : Room).slots s₁ (entryFrame m #[(.ref a0)] 4)
  refine ownCast (own_ef6_edges_1 m a0) ?_
  refine ow_aloadN (q := 1) X0 hx (hb hby own_d6_0) rfl rfl rfl ?_
  obtain ⟨T1, X1, e1, st1⟩ := getF X0 hx hZ hown (host := "") (Or.inl (hw _ (List.mem_of_getElem? (i := 15) rfl))) Via.refl e0 HF0 (g := (mkF m 1 #[rv a0, .unset, .unset, .unset] [(.ref a0)])) rfl rfl (hb hby own_d6_1)
  refine ownGo (T' := T1) (f' := (mkF m 4 #[rv a0, .unset, .unset, .unset] [(.ref ar)])) (st1) ?_
  refine ownGo (T' := T1) (f' := (mkF m 5 #[rv a0, .unset, .unset, .unset] [(.int (2 : Int32))])) (ownLenI HF1 X1 hx hZ e1 (z := (2 : Int32)) (by decide) (g := (mkF m 4 #[rv a0, .unset, .unset, .unset] [(.ref ar)])) rfl rfl (hb hby own_d6_4)) ?_
  obtain ⟨T2, h2, k2, X2, e2, E2, A2, EA2, st2⟩ := newPE X1 hx hZ (hw _ (List.mem_of_getElem? (i := 8) rfl)) e1 (g := (mkF m 5 #[rv a0, .unset, .unset, .unset] [(.int (2 : Int32))])) rfl (hb hby own_d6_5) rfl (by decide) (cap := 2) (by decide) (by decide) (by decide) (by decide) (ad := "[I") (by decide)
  obtain ⟨b2, g2⟩ : ∃ z, z = h0.size := ⟨_, rfl⟩
  rw [← g2] at A2 st2 EA2
  have ne_a0_b2 : a0 ≠ b2 := Nat.ne_of_lt (Nat.lt_of_lt_of_le HF0.lt (Nat.le_of_eq g2.symm))
  have ne_ar_b2 : ar ≠ b2 := Nat.ne_of_lt (Nat.lt_of_lt_of_le HF1.lt (Nat.le_of_eq g2.symm))
  have sz_b2 : h0.size ≤ b2 := Nat.le_trans K0.1 (Nat.le_of_eq g2.symm)
  have G_b2 : n0 ≤ b2 := Nat.le_trans Z0 sz_b2
  have K2 : Keep h0 h2 [] := K0.ext E2
  have F3 : Fld Z h2 a0 "com/example/shapewright/shapewright/regex/CodePointSet" "ranges" "[I" (.ref ar) := HF0.ext E2
  have F4 : ownAI Z h2 ar .int 2 g := HF1.ext E2
  have F5 : ownAI Z h2 b2 .int 2 (fun _ => (0 : Int32)) := ownAI.new A2 (by decide) rfl (by decide)
  refine ownGo (T' := T2) (f' := (mkF m 7 #[rv a0, .unset, .unset, .unset] [(.ref b2)])) (st2) ?_
  refine ow_astoreN (q := 8) X2 hx (L' := #[rv a0, rv b2, .unset, .unset]) (hb hby own_d6_7) rfl rfl rfl ?_
  refine ow_iconst (q := 9) X2 hx (0 : Int32) (hb hby own_d6_8) rfl rfl ?_
  refine ow_istoreN (q := 10) X2 hx (L' := #[rv a0, rv b2, iv (0 : Int32), .unset]) (hb hby own_d6_9) rfl rfl ?_
  refine ow_iconst (q := 11) X2 hx (0 : Int32) (hb hby own_d6_10) rfl rfl ?_
  refine ow_istoreN (q := 12) X2 hx (L' := #[rv a0, rv b2, iv (0 : Int32), iv (0 : Int32)]) (hb hby own_d6_11) rfl rfl ?_
  refine ow_iloadN (q := 13) X2 hx (hb hby own_d6_12) rfl rfl ?_
  refine ow_aloadN (q := 14) X2 hx (hb hby own_d6_13) rfl rfl rfl ?_
  obtain ⟨T6, X6, e6, st6⟩ := getF X2 hx hZ hown (host := "") (Or.inl (hw _ (List.mem_of_getElem? (i := 15) rfl))) Via.refl e2 F3 (g := (mkF m 14 #[rv a0, rv b2, iv (0 : Int32), iv (0 : Int32)] [(.ref a0), (.int (0 : Int32))])) rfl rfl (hb hby own_d6_14)
  refine ownGo (T' := T6) (f' := (mkF m 17 #[rv a0, rv b2, iv (0 : Int32), iv (0 : Int32)] [(.ref ar), (.int (0 : Int32))])) (st6) ?_
  refine ownGo (T' := T6) (f' := (mkF m 18 #[rv a0, rv b2, iv (0 : Int32), iv (0 : Int32)] [(.int (2 : Int32)), (.int (0 : Int32))])) (ownLenI F4 X6 hx hZ e6 (z := (2 : Int32)) (by decide) (g := (mkF m 17 #[rv a0, rv b2, iv (0 : Int32), iv (0 : Int32)] [(.ref ar), (.int (0 : Int32))])) rfl rfl (hb hby own_d6_17)) ?_
  refine ow_icmpNo (q := 21) X6 hx (hb hby own_d6_18) rfl (Jvm.Free.XT.ii_ge_f (by decide)) ?_
  refine ow_aloadN (q := 22) X6 hx (hb hby own_d6_21) rfl rfl rfl ?_
  refine ow_iloadN (q := 23) X6 hx (hb hby own_d6_22) rfl rfl ?_
  refine ow_iinc (q := 26) X6 hx (L' := #[rv a0, rv b2, iv (1 : Int32), iv (0 : Int32)]) (hb hby own_d6_23) rfl rfl rfl ?_
  refine ow_aloadN (q := 27) X6 hx (hb hby own_d6_26) rfl rfl rfl ?_
  obtain ⟨T7, X7, e7, st7⟩ := getF X6 hx hZ hown (host := "") (Or.inl (hw _ (List.mem_of_getElem? (i := 15) rfl))) Via.refl e6 F3 (g := (mkF m 27 #[rv a0, rv b2, iv (1 : Int32), iv (0 : Int32)] [(.ref a0), (.int (0 : Int32)), (.ref b2)])) rfl rfl (hb hby own_d6_27)
  refine ownGo (T' := T7) (f' := (mkF m 30 #[rv a0, rv b2, iv (1 : Int32), iv (0 : Int32)] [(.ref ar), (.int (0 : Int32)), (.ref b2)])) (st7) ?_
  refine ow_iloadN (q := 31) X7 hx (hb hby own_d6_30) rfl rfl ?_
  refine ownGo (T' := T7) (f' := (mkF m 32 #[rv a0, rv b2, iv (1 : Int32), iv (0 : Int32)] [(.int (g 0)), (.int (0 : Int32)), (.ref b2)])) (ownIaload F4 X7 hx hZ e7 (j := (0 : Int32)) (by unfold ownIn; decide) (g := (mkF m 31 #[rv a0, rv b2, iv (1 : Int32), iv (0 : Int32)] [(.int (0 : Int32)), (.ref ar), (.int (0 : Int32)), (.ref b2)])) rfl rfl (hb hby own_d6_31)) ?_
  generalize hv_v8 : (g 0) = v8
  obtain ⟨T9, h9, X9, e9, W9, F9s, st9⟩ := ownIastore F5 X7 hx hZ e7 (j := (0 : Int32)) (by unfold ownIn; decide) (g := (mkF m 32 #[rv a0, rv b2, iv (1 : Int32), iv (0 : Int32)] [(.int v8), (.int (0 : Int32)), (.ref b2)])) rfl rfl (hb hby own_d6_32)
  have F9r : ownAI Z h9 b2 .int 2 (ownUpd (fun _ => (0 : Int32)) 0 v8) := F9s
  have N9 := Fr.snoc X9 N0 G_b2
  have K9 : Keep h0 h9 [] := K2.wr W9 (Or.inr sz_b2)
  have F10 : Fld Z h9 a0 "com/example/shapewright/shapewright/regex/CodePointSet" "ranges" "[I" (.ref ar) := F3.other W9 (Or.inl ne_a0_b2)
  have F11 : ownAI Z h9 ar .int 2 g := F4.other W9 ne_ar_b2
  have F12 : Exa Z h9 b2 "[I" := EA2.wr W9
  refine ownGo (T' := T9) (f' := (mkF m 33 #[rv a0, rv b2, iv (1 : Int32), iv (0 : Int32)] [])) (st9) ?_
  refine ow_aloadN (q := 34) X9 hx (hb hby own_d6_33) rfl rfl rfl ?_
  obtain ⟨T13, X13, e13, st13⟩ := getF X9 hx hZ hown (host := "") (Or.inl (hw _ (List.mem_of_getElem? (i := 15) rfl))) Via.refl e9 F10 (g := (mkF m 34 #[rv a0, rv b2, iv (1 : Int32), iv (0 : Int32)] [(.ref a0)])) rfl rfl (hb hby own_d6_34)
  refine ownGo (T' := T13) (f' := (mkF m 37 #[rv a0, rv b2, iv (1 : Int32), iv (0 : Int32)] [(.ref ar)])) (st13) ?_
  refine ow_iloadN (q := 38) X13 hx (hb hby own_d6_37) rfl rfl ?_
  refine ow_iconst (q := 39) X13 hx (1 : Int32) (hb hby own_d6_38) rfl rfl ?_
  refine ow_iadd (q := 40) X13 hx (1 : Int32) (hb hby own_d6_39) rfl (by decide) ?_
  refine ownGo (T' := T13) (f' := (mkF m 41 #[rv a0, rv b2, iv (1 : Int32), iv (0 : Int32)] [(.int (g 1))])) (ownIaload F11 X13 hx hZ e13 (j := (1 : Int32)) (by unfold ownIn; decide) (g := (mkF m 40 #[rv a0, rv b2, iv (1 : Int32), iv (0 : Int32)] [(.int (1 : Int32)), (.ref ar)])) rfl rfl (hb hby own_d6_40)) ?_
  generalize hv_v14 : (g 1) = v14
  refine ownGo (T' := T13) (f' := (mkF m 43 #[rv a0, rv b2, iv (1 : Int32), iv (0 : Int32)] [(.int (1114111 : Int32)), (.int v14)])) (X13.ldcInt hx hown (mvT hZ (hw _ (List.mem_of_getElem? (i := 32) rfl))) (g := (mkF m 41 #[rv a0, rv b2, iv (1 : Int32), iv (0 : Int32)] [(.int v14)])) rfl (hb hby own_d6_41)) ?_
  refine ow_icmpYes (q := 62) X13 hx (hb hby own_d6_43) (Jvm.Free.XT.ii_ge_t (by first | exact hlt | (rw [hv_v14] at hlt; exact hlt))) (by decide) (by decide) ?_
  refine ow_iinc (q := 65) X13 hx (L' := #[rv a0, rv b2, iv (1 : Int32), iv (2 : Int32)]) (hb hby own_d6_62) rfl rfl rfl ?_
  refine ow_goto (q := 12) X13 hx (hb hby own_d6_65) (by decide) (by decide) ?_
  refine ow_iloadN (q := 13) X13 hx (hb hby own_d6_12) rfl rfl ?_
  refine ow_aloadN (q := 14) X13 hx (hb hby own_d6_13) rfl rfl rfl ?_
  obtain ⟨T15, X15, e15, st15⟩ := getF X13 hx hZ hown (host := "") (Or.inl (hw _ (List.mem_of_getElem? (i := 15) rfl))) Via.refl e13 F10 (g := (mkF m 14 #[rv a0, rv b2, iv (1 : Int32), iv (2 : Int32)] [(.ref a0), (.int (2 : Int32))])) rfl rfl (hb hby own_d6_14)
  refine ownGo (T' := T15) (f' := (mkF m 17 #[rv a0, rv b2, iv (1 : Int32), iv (2 : Int32)] [(.ref ar), (.int (2 : Int32))])) (st15) ?_
  refine ownGo (T' := T15) (f' := (mkF m 18 #[rv a0, rv b2, iv (1 : Int32), iv (2 : Int32)] [(.int (2 : Int32)), (.int (2 : Int32))])) (ownLenI F11 X15 hx hZ e15 (z := (2 : Int32)) (by decide) (g := (mkF m 17 #[rv a0, rv b2, iv (1 : Int32), iv (2 : Int32)] [(.ref ar), (.int (2 : Int32))])) rfl rfl (hb hby own_d6_17)) ?_
  refine ow_icmpYes (q := 68) X15 hx (hb hby own_d6_18) (Jvm.Free.XT.ii_ge_t (by decide)) (by decide) (by decide) ?_
  refine ow_aloadN (q := 69) X15 hx (hb hby own_d6_68) rfl rfl rfl ?_
  refine ow_iloadN (q := 70) X15 hx (hb hby own_d6_69) rfl rfl ?_
  obtain ⟨_, _, ⟨T16, L16, k16, n16⟩, -, X16, ⟨Lc16, hQ16, l16, y16, z16⟩, st16⟩ := Jvm.LawKit.callS X15 hx (y := (⟨"java/util/Arrays", "copyOf", "([II)[I"⟩ : MethodName)) hown (mvT hZ (hw _ (List.mem_of_getElem? (i := 33) rfl))) (mvT hZ (hw _ (List.mem_of_getElem? (i := 34) rfl))) (mvT hZ (hw _ (List.mem_of_getElem? (i := 35) rfl))) (mvT hZ (hw _ (List.mem_of_getElem? (i := 36) rfl))) (by decide) (backOf (W := 0) (rm_copyOf_1 l Z av0 hw [] b2 (ownUpd (fun _ => (0 : Int32)) 0 v8) h9 n0 (Nat.le_trans Z0 K9.1) F9r F12) hZ (hw _ (List.mem_of_getElem? (i := 36) rfl)) (hw _ (List.mem_of_getElem? (i := 35) rfl)) (by decide) (by decide)) (g := (mkF m 70 #[rv a0, rv b2, iv (1 : Int32), iv (2 : Int32)] [(.int (1 : Int32)), (.ref b2)])) rfl (by rw [hml]; rfl) (argsL := [(.ref b2), (.int (1 : Int32))]) (rest := []) (lenOf own_pd2 rfl) rfl (by show 2 * 0 + _ ≤ _; exact Nat.le_of_eq rfl) (hb hby own_d6_70) (fun _ _ => ⟨rfl, e15, (by decide : 1 + 1 ≤ _), (by decide : 2 + 1 ≤ _)⟩)
  dsimp only [Pt.U, Pt.locs, Pt.cells, Pt.slots] at X16 l16 y16 z16 st16 hQ16
  subst l16 y16 z16
  obtain ⟨b16, rfl, N16q, Kq16, sq16_b16, FP16_0⟩ := hQ16
  have N16 := Fr.app N9 N16q
  have K16 : Keep h0 T16.heap [] := K9.trans Kq16 all0
  have ne_a0_b16 : a0 ≠ b16 := Nat.ne_of_lt (Nat.lt_of_lt_of_le F10.lt sq16_b16)
  have ne_ar_b16 : ar ≠ b16 := Nat.ne_of_lt (Nat.lt_of_lt_of_le F11.lt sq16_b16)
  have ne_b2_b16 : b2 ≠ b16 := Nat.ne_of_lt (Nat.lt_of_lt_of_le F12.lt sq16_b16)
  have sz_b16 : h0.size ≤ b16 := Nat.le_trans K9.1 sq16_b16
  have G_b16 : n0 ≤ b16 := Nat.le_trans Z0 sz_b16
  have F17 : Fld Z T16.heap a0 "com/example/shapewright/shapewright/regex/CodePointSet" "ranges" "[I" (.ref ar) := F10.keep Kq16 nin0
  have F18 : ownAI Z T16.heap ar .int 2 g := F11.keep Kq16 nin0
  have F19 : Exa Z T16.heap b2 "[I" := F12.keep Kq16
  have F20 : ownAI Z T16.heap b2 .int 2 (ownUpd (fun _ => (0 : Int32)) 0 v8) := F9r.keep Kq16 nin0
  refine ownGo (T' := T16) (f' := (mkF m 73 #[rv a0, rv b2, iv (1 : Int32), iv (2 : Int32)] [(.ref b16)])) (st16) ?_
  refine ownRetR X16 hx rfl rfl rfl Bd.returns (hb hby own_d6_73) hlk (by decide) (by decide) ?_
  subst hv_v14 hv_v8
  exact ⟨b16, rfl, N16, K16, sz_b16, FP16_0⟩
theorem own_pn_CodePointSetRangePinLaw : plainName "com/example/shapewright/shapewright/regex/CodePointSetRangePinLaw" = true := by first | (simp [plainName, overriddenIn]; done) | decide +kernel
theorem own_pd3 : parseMethodDescriptor "(II)Lcom/example/shapewright/shapewright/regex/CodePointSet;" = some ⟨[.int, .int], some (.object "com/example/shapewright/shapewright/regex/CodePointSet")⟩ := by decide +kernel
theorem own_pd4 : parseMethodDescriptor "()Z" = some ⟨[], some .boolean⟩ := by decide +kernel
theorem own_pd5 : parseMethodDescriptor "(I)Z" = some ⟨[.int], some .boolean⟩ := by decide +kernel
theorem own_pd6 : parseMethodDescriptor "()[I" = some ⟨[], some (.array .int)⟩ := by decide +kernel
theorem own_ef0_law (m : MethodId) (p0 : Int32) (p1 : Int32) (p2 : Int32) (p3 : Int32) : entryFrame m #[(.int p0), (.int p1), (.int p2), (.int p3)] maxLocals = mkF m 0 #[iv p0, iv p1, iv p2, iv p3, .unset, .unset, .unset, .unset, .unset, .unset, .unset, .unset] [] := by first | (simp [entryFrame, mkF, argsToLocals, Value.category, maxLocals]; done) | rfl
def Q_law (Z : State) (p0 : Int32) (p1 : Int32) (p2 : Int32) (p3 : Int32) (h0 : Heap) (n0 : Nat) (v : Option Value) (h : Heap) (L : List Loc) : Prop := v = some (.int 1) ∧ Fr n0 L
set_option maxRecDepth 65536 in
set_option maxHeartbeats 40000000 in
theorem rm_law (l : Launch) (Z : State) (av0 : Array Value) (hw : ∀ d ∈ tables_1, d.before av0 Z = true) (ws : List Jvm.Cond) (p0 : Int32) (p1 : Int32) (p2 : Int32) (p3 : Int32) (h0 : Heap) (n0 : Nat) (Z0 : n0 ≤ h0.size) :
    MetFree l x (head1 (Jvm.Cond.code x code maxLocals ret :: ws) room_1) (fun a U => a = #[(.int p0), (.int p1), (.int p2), (.int p3)] ∧ Z.Warmed39 U.vm ∧ U.heap = h0) (fun _ _ _ _ _ => True) (fun _ U o U' => ∃ v L, o = .returned v ∧ (Q_law Z p0 p1 p2 p3 h0 n0) v U'.heap L ∧ FrameEnd U o U' L 16 128) := by
  refine MetFree.of_bodySF (plainFor_of_name own_pn_CodePointSetRangePinLaw) hisR ?_
  intro p e s m args below meth c s₁ Bd hml0 hP hK
  obtain ⟨rfl, hZ, hh⟩ := hP
  have hx := Bd.exec
  have hby := Bd.bytes
  have hml : c.maxLocals = 12 := hml0
  have hown : s.vm.findClass "com/example/shapewright/shapewright/regex/CodePointSetRangePinLaw" = some m.cls := findClass_of_methodNamed Bd.named
  have hnm := (name_of_methodNamed Bd.named Bd.method).1
  have hlk : meth.locks = false := BodyLoose.notSynchronized Bd
  have X0 : Stand p l e room_1 s m #[(.int p0), (.int p1), (.int p2), (.int p3)] below meth c s₁ [] 0 0 := Stand.of_body Bd
  have e0 : s₁.heap = h0 := by rw [← hh, Bd.state]; rfl
  have N0 := Fr.nil n0
  have K0 : Keep h0 h0 [] := Keep.refl _ _
  show ownEnds p e below s (Q_law Z p0 p1 p2 p3 h0 n0) 16 128 s₁ (entryFrame m #[(.int p0), (.int p1), (.int p2), (.int p3)] maxLocals)
  refine ownCast (own_ef0_law m p0 p1 p2 p3) ?_
  refine ownGo (T' := s₁) (f' := (mkF m 2 #[iv p0, iv p1, iv p2, iv p3, .unset, .unset, .unset, .unset, .unset, .unset, .unset, .unset] [(.int (1114111 : Int32))])) (X0.ldcInt hx hown (mvT hZ (hw _ (List.mem_of_getElem? (i := 0) rfl))) (g := (mkF m 0 #[iv p0, iv p1, iv p2, iv p3, .unset, .unset, .unset, .unset, .unset, .unset, .unset, .unset] [])) rfl (hb hby at_0)) ?_
  refine ow_istore (q := 4) X0 hx (L' := #[iv p0, iv p1, iv p2, iv p3, iv (1114111 : Int32), .unset, .unset, .unset, .unset, .unset, .unset, .unset]) (hb hby at_2) rfl rfl ?_
  refine ow_iloadN (q := 5) X0 hx (hb hby at_4) rfl rfl ?_
  refine ownGo (T' := s₁) (f' := (mkF m 7 #[iv p0, iv p1, iv p2, iv p3, iv (1114111 : Int32), .unset, .unset, .unset, .unset, .unset, .unset, .unset] [(.int (2147483647 : Int32)), (.int p0)])) (X0.ldcInt hx hown (mvT hZ (hw _ (List.mem_of_getElem? (i := 1) rfl))) (g := (mkF m 5 #[iv p0, iv p1, iv p2, iv p3, iv (1114111 : Int32), .unset, .unset, .unset, .unset, .unset, .unset, .unset] [(.int p0)])) rfl (hb hby at_5)) ?_
  refine ow_iand (q := 8) X0 hx _ (hb hby at_7) rfl rfl ?_
  refine ow_iload (q := 10) X0 hx (hb hby at_8) rfl rfl ?_
  refine ow_iconst (q := 11) X0 hx (1 : Int32) (hb hby at_10) rfl rfl ?_
  refine ow_iadd (q := 12) X0 hx (1114112 : Int32) (hb hby at_11) rfl (by decide) ?_
  refine ow_irem (q := 13) X0 hx _ (hb hby at_12) rfl (by decide) rfl ?_
  generalize hv_v1 : ((p0 &&& (2147483647 : Int32)) % (1114112 : Int32)) = v1
  refine ow_istore (q := 15) X0 hx (L' := #[iv p0, iv p1, iv p2, iv p3, iv (1114111 : Int32), iv v1, .unset, .unset, .unset, .unset, .unset, .unset]) (hb hby at_13) rfl rfl ?_
  refine ow_iloadN (q := 16) X0 hx (hb hby at_15) rfl rfl ?_
  refine ow_iconst (q := 17) X0 hx (3 : Int32) (hb hby at_16) rfl rfl ?_
  refine ow_iand (q := 18) X0 hx _ (hb hby at_17) rfl rfl ?_
  generalize hv_v2 : (p2 &&& (3 : Int32)) = v2
  refine ow_istore (q := 20) X0 hx (L' := #[iv p0, iv p1, iv p2, iv p3, iv (1114111 : Int32), iv v1, iv v2, .unset, .unset, .unset, .unset, .unset]) (hb hby at_18) rfl rfl ?_
  have cut62_3 : ∀ (la : Int32) (Tc3 : State) (lc3 : List Loc), Stand p l e room_1 s m #[(.int p0), (.int p1), (.int p2), (.int p3)] below meth c Tc3 lc3 0 0 → Tc3.heap = h0 → Fr n0 lc3 → (0 ≤ v1.toInt ∧ v1.toInt ≤ la.toInt ∧ la.toInt ≤ 1114111) → ownEnds p e below s (Q_law Z p0 p1 p2 p3 h0 n0) 16 128 Tc3 (mkF m 62 #[iv p0, iv p1, iv p2, iv p3, iv (1114111 : Int32), iv v1, iv v2, iv la, .unset, .unset, .unset, .unset] []) := by
    intro la Tc3 lc3 Xc3 ec3 Nc3 hl
    refine ow_iload (q := 64) Xc3 hx (hb hby at_62) rfl rfl ?_
    refine ow_iload (q := 66) Xc3 hx (hb hby at_64) rfl rfl ?_
    obtain ⟨_, _, ⟨T4, L4, k4, n4⟩, -, X4, ⟨Lc4, hQ4, l4, y4, z4⟩, st4⟩ := Jvm.LawKit.callS Xc3 hx (y := (⟨"com/example/shapewright/shapewright/regex/CodePointSet", "range", "(II)Lcom/example/shapewright/shapewright/regex/CodePointSet;"⟩ : MethodName)) hown (mvT hZ (hw _ (List.mem_of_getElem? (i := 2) rfl))) (mvT hZ (hw _ (List.mem_of_getElem? (i := 3) rfl))) (mvT hZ (hw _ (List.mem_of_getElem? (i := 4) rfl))) (mvT hZ (hw _ (List.mem_of_getElem? (i := 5) rfl))) (by decide) (backOf (W := 0) (rm_range l Z av0 hw [] v1 la h0 n0 (Nat.le_trans Z0 K0.1) ) hZ (hw _ (List.mem_of_getElem? (i := 5) rfl)) (hw _ (List.mem_of_getElem? (i := 4) rfl)) (by decide) (by decide)) (g := (mkF m 66 #[iv p0, iv p1, iv p2, iv p3, iv (1114111 : Int32), iv v1, iv v2, iv la, .unset, .unset, .unset, .unset] [(.int la), (.int v1)])) rfl (by rw [hml]; rfl) (argsL := [(.int v1), (.int la)]) (rest := []) (lenOf own_pd3 rfl) rfl (by show 2 * 0 + _ ≤ _; exact Nat.le_of_eq rfl) (hb hby at_66) (fun _ _ => ⟨rfl, ec3, (by decide : 0 + 2 ≤ _), (by decide : 0 + 3 ≤ _)⟩)
    dsimp only [Pt.U, Pt.locs, Pt.cells, Pt.slots] at X4 l4 y4 z4 st4 hQ4
    subst l4 y4 z4
    obtain ⟨b4, ar_4, rfl, N4q, Kq4, sq4_b4, sq4_ar_4, FP4_0, FP4_1, FP4_2, hp4⟩ := hQ4
    have N4 := Fr.app Nc3 N4q
    have K4 : Keep h0 T4.heap [] := K0.trans Kq4 all0
    have sz_b4 : h0.size ≤ b4 := Nat.le_trans K0.1 sq4_b4
    have G_b4 : n0 ≤ b4 := Nat.le_trans Z0 sz_b4
    have sz_ar_4 : h0.size ≤ ar_4 := Nat.le_trans K0.1 sq4_ar_4
    have G_ar_4 : n0 ≤ ar_4 := Nat.le_trans Z0 sz_ar_4
    refine ownGo (T' := T4) (f' := (mkF m 69 #[iv p0, iv p1, iv p2, iv p3, iv (1114111 : Int32), iv v1, iv v2, iv la, .unset, .unset, .unset, .unset] [(.ref b4)])) (st4) ?_
    refine ow_astore (q := 71) X4 hx (L' := #[iv p0, iv p1, iv p2, iv p3, iv (1114111 : Int32), iv v1, iv v2, iv la, rv b4, .unset, .unset, .unset]) (hb hby at_69) rfl rfl rfl ?_
    refine ow_aload (q := 73) X4 hx (hb hby at_71) rfl rfl rfl ?_
    obtain ⟨cq5, kq5, q5a, q5b, q5c⟩ := isOf hZ rfl FP4_0
    obtain ⟨_, _, ⟨T5, L5, k5, n5⟩, -, X5, ⟨Lc5, hQ5, l5, y5, z5⟩, st5⟩ := X4.virtualBack hx (y := (⟨"com/example/shapewright/shapewright/regex/CodePointSet", "isEmpty", "()Z"⟩ : MethodName)) (z := (⟨"com/example/shapewright/shapewright/regex/CodePointSet", "isEmpty", "()Z"⟩ : MethodName)) hown (mvT hZ (hw _ (List.mem_of_getElem? (i := 17) rfl))) (mvT hZ (hw _ (List.mem_of_getElem? (i := 18) rfl))) (notFace_of_selects (args := #[]) (mvT hZ (hw _ (List.mem_of_getElem? (i := 20) rfl)))) (mvT hZ (hw _ (List.mem_of_getElem? (i := 20) rfl))) (mvT hZ (hw _ (List.mem_of_getElem? (i := 19) rfl))) (by decide) (backOf (W := 0) (rm_isEmpty l Z av0 hw [] b4 ar_4 (ownUpd (ownUpd (fun _ => (0 : Int32)) 0 v1) 1 la) T4.heap n0 (Nat.le_trans Z0 K4.1) FP4_1 FP4_2) hZ (hw _ (List.mem_of_getElem? (i := 21) rfl)) (hw _ (List.mem_of_getElem? (i := 4) rfl)) (by decide) (by decide)) q5a q5c (g := (mkF m 73 #[iv p0, iv p1, iv p2, iv p3, iv (1114111 : Int32), iv v1, iv v2, iv la, rv b4, .unset, .unset, .unset] [(.ref b4)])) rfl (by rw [hml]; rfl) (Steps.refl _) (argsL := []) (rest := []) (lenOf own_pd4 rfl) rfl (by show 2 * 0 + _ ≤ _; exact Nat.le_of_eq rfl) (hb hby at_73) (fun _ _ => ⟨rfl, rfl, (by decide : 2 + 0 ≤ _), (by decide : 3 + 0 ≤ _)⟩)
    dsimp only [Pt.U, Pt.locs, Pt.cells, Pt.slots] at X5 l5 y5 z5 st5 hQ5
    subst l5 y5 z5
    obtain ⟨rfl, N5q, e5⟩ := hQ5
    have N5 := Fr.app N4 N5q
    refine ownRun (T' := T5) (f' := (mkF m 76 #[iv p0, iv p1, iv p2, iv p3, iv (1114111 : Int32), iv v1, iv v2, iv la, rv b4, .unset, .unset, .unset] [(.int (0 : Int32))])) st5 ?_
    refine ow_ifNo (q := 79) X5 hx (hb hby at_76) rfl (Jvm.Free.XT.i0_ne_f (by decide)) ?_
    refine ow_iconst (q := 80) X5 hx (1 : Int32) (hb hby at_79) rfl rfl ?_
    refine ow_goto (q := 84) X5 hx (hb hby at_80) (by decide) (by decide) ?_
    refine ow_istore (q := 86) X5 hx (L' := #[iv p0, iv p1, iv p2, iv p3, iv (1114111 : Int32), iv v1, iv v2, iv la, rv b4, iv (1 : Int32), .unset, .unset]) (hb hby at_84) rfl rfl ?_
    refine ow_iload (q := 88) X5 hx (hb hby at_86) rfl rfl ?_
    refine ow_ifNo (q := 91) X5 hx (hb hby at_88) rfl (Jvm.Free.XT.i0_eq_f (by decide)) ?_
    refine ow_aload (q := 93) X5 hx (hb hby at_91) rfl rfl rfl ?_
    refine ow_iload (q := 95) X5 hx (hb hby at_93) rfl rfl ?_
    obtain ⟨cq6, kq6, q6a, q6b, q6c⟩ := isOf hZ e5 FP4_0
    obtain ⟨_, _, ⟨T6, L6, k6, n6⟩, -, X6, ⟨Lc6, hQ6, l6, y6, z6⟩, st6⟩ := X5.virtualBack hx (y := (⟨"com/example/shapewright/shapewright/regex/CodePointSet", "contains", "(I)Z"⟩ : MethodName)) (z := (⟨"com/example/shapewright/shapewright/regex/CodePointSet", "contains", "(I)Z"⟩ : MethodName)) hown (mvT hZ (hw _ (List.mem_of_getElem? (i := 22) rfl))) (mvT hZ (hw _ (List.mem_of_getElem? (i := 23) rfl))) (notFace_of_selects (args := #[]) (mvT hZ (hw _ (List.mem_of_getElem? (i := 25) rfl)))) (mvT hZ (hw _ (List.mem_of_getElem? (i := 25) rfl))) (mvT hZ (hw _ (List.mem_of_getElem? (i := 24) rfl))) (by decide) (backOf (W := 0) (rm_contains l Z av0 hw [] b4 v1 ar_4 (ownUpd (ownUpd (fun _ => (0 : Int32)) 0 v1) 1 la) T4.heap n0 (Nat.le_trans Z0 K4.1) FP4_1 FP4_2) hZ (hw _ (List.mem_of_getElem? (i := 26) rfl)) (hw _ (List.mem_of_getElem? (i := 4) rfl)) (by decide) (by decide)) q6a q6c (g := (mkF m 95 #[iv p0, iv p1, iv p2, iv p3, iv (1114111 : Int32), iv v1, iv v2, iv la, rv b4, iv (1 : Int32), .unset, .unset] [(.int v1), (.ref b4)])) rfl (by rw [hml]; rfl) (Steps.refl _) (argsL := [(.int v1)]) (rest := []) (lenOf own_pd5 rfl) rfl (by show 2 * 0 + _ ≤ _; exact Nat.le_of_eq rfl) (hb hby at_95) (fun _ _ => ⟨rfl, e5, (by decide : 2 + 0 ≤ _), (by decide : 3 + 0 ≤ _)⟩)
    dsimp only [Pt.U, Pt.locs, Pt.cells, Pt.slots] at X6 l6 y6 z6 st6 hQ6
    subst l6 y6 z6
    obtain ⟨rfl, N6q, e6⟩ := hQ6
    have N6 := Fr.app N5 N6q
    refine ownRun (T' := T6) (f' := (mkF m 98 #[iv p0, iv p1, iv p2, iv p3, iv (1114111 : Int32), iv v1, iv v2, iv la, rv b4, iv (1 : Int32), .unset, .unset] [(.int (own_cont v1 la v1))])) st6 ?_
    refine ow_ifNo (q := 101) X6 hx (hb hby at_98) rfl (Jvm.Free.XT.i0_eq_f (own_k1 hl)) ?_
    refine ow_aload (q := 103) X6 hx (hb hby at_101) rfl rfl rfl ?_
    refine ow_iload (q := 105) X6 hx (hb hby at_103) rfl rfl ?_
    obtain ⟨cq7, kq7, q7a, q7b, q7c⟩ := isOf hZ e6 FP4_0
    obtain ⟨_, _, ⟨T7, L7, k7, n7⟩, -, X7, ⟨Lc7, hQ7, l7, y7, z7⟩, st7⟩ := X6.virtualBack hx (y := (⟨"com/example/shapewright/shapewright/regex/CodePointSet", "contains", "(I)Z"⟩ : MethodName)) (z := (⟨"com/example/shapewright/shapewright/regex/CodePointSet", "contains", "(I)Z"⟩ : MethodName)) hown (mvT hZ (hw _ (List.mem_of_getElem? (i := 22) rfl))) (mvT hZ (hw _ (List.mem_of_getElem? (i := 23) rfl))) (notFace_of_selects (args := #[]) (mvT hZ (hw _ (List.mem_of_getElem? (i := 25) rfl)))) (mvT hZ (hw _ (List.mem_of_getElem? (i := 25) rfl))) (mvT hZ (hw _ (List.mem_of_getElem? (i := 24) rfl))) (by decide) (backOf (W := 0) (rm_contains l Z av0 hw [] b4 la ar_4 (ownUpd (ownUpd (fun _ => (0 : Int32)) 0 v1) 1 la) T4.heap n0 (Nat.le_trans Z0 K4.1) FP4_1 FP4_2) hZ (hw _ (List.mem_of_getElem? (i := 26) rfl)) (hw _ (List.mem_of_getElem? (i := 4) rfl)) (by decide) (by decide)) q7a q7c (g := (mkF m 105 #[iv p0, iv p1, iv p2, iv p3, iv (1114111 : Int32), iv v1, iv v2, iv la, rv b4, iv (1 : Int32), .unset, .unset] [(.int la), (.ref b4)])) rfl (by rw [hml]; rfl) (Steps.refl _) (argsL := [(.int la)]) (rest := []) (lenOf own_pd5 rfl) rfl (by show 2 * 0 + _ ≤ _; exact Nat.le_of_eq rfl) (hb hby at_105) (fun _ _ => ⟨rfl, e6, (by decide : 2 + 0 ≤ _), (by decide : 3 + 0 ≤ _)⟩)
    dsimp only [Pt.U, Pt.locs, Pt.cells, Pt.slots] at X7 l7 y7 z7 st7 hQ7
    subst l7 y7 z7
    obtain ⟨rfl, N7q, e7⟩ := hQ7
    have N7 := Fr.app N6 N7q
    refine ownRun (T' := T7) (f' := (mkF m 108 #[iv p0, iv p1, iv p2, iv p3, iv (1114111 : Int32), iv v1, iv v2, iv la, rv b4, iv (1 : Int32), .unset, .unset] [(.int (own_cont v1 la la))])) st7 ?_
    refine ow_ifNo (q := 111) X7 hx (hb hby at_108) rfl (Jvm.Free.XT.i0_eq_f (own_k2 hl)) ?_
    refine ow_iconst (q := 112) X7 hx (1 : Int32) (hb hby at_111) rfl rfl ?_
    refine ow_goto (q := 116) X7 hx (hb hby at_112) (by decide) (by decide) ?_
    refine ow_istore (q := 118) X7 hx (L' := #[iv p0, iv p1, iv p2, iv p3, iv (1114111 : Int32), iv v1, iv v2, iv la, rv b4, iv (1 : Int32), .unset, .unset]) (hb hby at_116) rfl rfl ?_
    refine ow_iload (q := 120) X7 hx (hb hby at_118) rfl rfl ?_
    refine ow_ifNo (q := 123) X7 hx (hb hby at_120) rfl (Jvm.Free.XT.i0_eq_f (by decide)) ?_
    refine ow_aload (q := 125) X7 hx (hb hby at_123) rfl rfl rfl ?_
    refine ow_iload (q := 127) X7 hx (hb hby at_125) rfl rfl ?_
    refine ow_iconst (q := 128) X7 hx (1 : Int32) (hb hby at_127) rfl rfl ?_
    refine ow_isub (q := 129) X7 hx _ (hb hby at_128) rfl rfl ?_
    generalize hv_v8 : (v1 - (1 : Int32)) = v8
    obtain ⟨cq9, kq9, q9a, q9b, q9c⟩ := isOf hZ e7 FP4_0
    obtain ⟨_, _, ⟨T9, L9, k9, n9⟩, -, X9, ⟨Lc9, hQ9, l9, y9, z9⟩, st9⟩ := X7.virtualBack hx (y := (⟨"com/example/shapewright/shapewright/regex/CodePointSet", "contains", "(I)Z"⟩ : MethodName)) (z := (⟨"com/example/shapewright/shapewright/regex/CodePointSet", "contains", "(I)Z"⟩ : MethodName)) hown (mvT hZ (hw _ (List.mem_of_getElem? (i := 22) rfl))) (mvT hZ (hw _ (List.mem_of_getElem? (i := 23) rfl))) (notFace_of_selects (args := #[]) (mvT hZ (hw _ (List.mem_of_getElem? (i := 25) rfl)))) (mvT hZ (hw _ (List.mem_of_getElem? (i := 25) rfl))) (mvT hZ (hw _ (List.mem_of_getElem? (i := 24) rfl))) (by decide) (backOf (W := 0) (rm_contains l Z av0 hw [] b4 v8 ar_4 (ownUpd (ownUpd (fun _ => (0 : Int32)) 0 v1) 1 la) T4.heap n0 (Nat.le_trans Z0 K4.1) FP4_1 FP4_2) hZ (hw _ (List.mem_of_getElem? (i := 26) rfl)) (hw _ (List.mem_of_getElem? (i := 4) rfl)) (by decide) (by decide)) q9a q9c (g := (mkF m 129 #[iv p0, iv p1, iv p2, iv p3, iv (1114111 : Int32), iv v1, iv v2, iv la, rv b4, iv (1 : Int32), .unset, .unset] [(.int v8), (.ref b4)])) rfl (by rw [hml]; rfl) (Steps.refl _) (argsL := [(.int v8)]) (rest := []) (lenOf own_pd5 rfl) rfl (by show 2 * 0 + _ ≤ _; exact Nat.le_of_eq rfl) (hb hby at_129) (fun _ _ => ⟨rfl, e7, (by decide : 2 + 0 ≤ _), (by decide : 3 + 0 ≤ _)⟩)
    dsimp only [Pt.U, Pt.locs, Pt.cells, Pt.slots] at X9 l9 y9 z9 st9 hQ9
    subst l9 y9 z9
    obtain ⟨rfl, N9q, e9⟩ := hQ9
    have N9 := Fr.app N7 N9q
    refine ownRun (T' := T9) (f' := (mkF m 132 #[iv p0, iv p1, iv p2, iv p3, iv (1114111 : Int32), iv v1, iv v2, iv la, rv b4, iv (1 : Int32), .unset, .unset] [(.int (own_cont v1 la v8))])) st9 ?_
    refine ow_ifNo (q := 135) X9 hx (hb hby at_132) rfl (Jvm.Free.XT.i0_ne_f (own_k3 hl hv_v8)) ?_
    refine ow_aload (q := 137) X9 hx (hb hby at_135) rfl rfl rfl ?_
    refine ow_iload (q := 139) X9 hx (hb hby at_137) rfl rfl ?_
    refine ow_iconst (q := 140) X9 hx (1 : Int32) (hb hby at_139) rfl rfl ?_
    refine ow_iadd (q := 141) X9 hx _ (hb hby at_140) rfl rfl ?_
    generalize hv_v10 : (la + (1 : Int32)) = v10
    obtain ⟨cq11, kq11, q11a, q11b, q11c⟩ := isOf hZ e9 FP4_0
    obtain ⟨_, _, ⟨T11, L11, k11, n11⟩, -, X11, ⟨Lc11, hQ11, l11, y11, z11⟩, st11⟩ := X9.virtualBack hx (y := (⟨"com/example/shapewright/shapewright/regex/CodePointSet", "contains", "(I)Z"⟩ : MethodName)) (z := (⟨"com/example/shapewright/shapewright/regex/CodePointSet", "contains", "(I)Z"⟩ : MethodName)) hown (mvT hZ (hw _ (List.mem_of_getElem? (i := 22) rfl))) (mvT hZ (hw _ (List.mem_of_getElem? (i := 23) rfl))) (notFace_of_selects (args := #[]) (mvT hZ (hw _ (List.mem_of_getElem? (i := 25) rfl)))) (mvT hZ (hw _ (List.mem_of_getElem? (i := 25) rfl))) (mvT hZ (hw _ (List.mem_of_getElem? (i := 24) rfl))) (by decide) (backOf (W := 0) (rm_contains l Z av0 hw [] b4 v10 ar_4 (ownUpd (ownUpd (fun _ => (0 : Int32)) 0 v1) 1 la) T4.heap n0 (Nat.le_trans Z0 K4.1) FP4_1 FP4_2) hZ (hw _ (List.mem_of_getElem? (i := 26) rfl)) (hw _ (List.mem_of_getElem? (i := 4) rfl)) (by decide) (by decide)) q11a q11c (g := (mkF m 141 #[iv p0, iv p1, iv p2, iv p3, iv (1114111 : Int32), iv v1, iv v2, iv la, rv b4, iv (1 : Int32), .unset, .unset] [(.int v10), (.ref b4)])) rfl (by rw [hml]; rfl) (Steps.refl _) (argsL := [(.int v10)]) (rest := []) (lenOf own_pd5 rfl) rfl (by show 2 * 0 + _ ≤ _; exact Nat.le_of_eq rfl) (hb hby at_141) (fun _ _ => ⟨rfl, e9, (by decide : 2 + 0 ≤ _), (by decide : 3 + 0 ≤ _)⟩)
    dsimp only [Pt.U, Pt.locs, Pt.cells, Pt.slots] at X11 l11 y11 z11 st11 hQ11
    subst l11 y11 z11
    obtain ⟨rfl, N11q, e11⟩ := hQ11
    have N11 := Fr.app N9 N11q
    refine ownRun (T' := T11) (f' := (mkF m 144 #[iv p0, iv p1, iv p2, iv p3, iv (1114111 : Int32), iv v1, iv v2, iv la, rv b4, iv (1 : Int32), .unset, .unset] [(.int (own_cont v1 la v10))])) st11 ?_
    refine ow_ifNo (q := 147) X11 hx (hb hby at_144) rfl (Jvm.Free.XT.i0_ne_f (own_k4 hl hv_v10)) ?_
    refine ow_iconst (q := 148) X11 hx (1 : Int32) (hb hby at_147) rfl rfl ?_
    refine ow_goto (q := 152) X11 hx (hb hby at_148) (by decide) (by decide) ?_
    refine ow_istore (q := 154) X11 hx (L' := #[iv p0, iv p1, iv p2, iv p3, iv (1114111 : Int32), iv v1, iv v2, iv la, rv b4, iv (1 : Int32), .unset, .unset]) (hb hby at_152) rfl rfl ?_
    refine ow_iload (q := 156) X11 hx (hb hby at_154) rfl rfl ?_
    refine ow_ifNo (q := 159) X11 hx (hb hby at_156) rfl (Jvm.Free.XT.i0_eq_f (by decide)) ?_
    refine ow_aload (q := 161) X11 hx (hb hby at_159) rfl rfl rfl ?_
    refine ow_iloadN (q := 162) X11 hx (hb hby at_161) rfl rfl ?_
    obtain ⟨cq12, kq12, q12a, q12b, q12c⟩ := isOf hZ e11 FP4_0
    obtain ⟨_, _, ⟨T12, L12, k12, n12⟩, -, X12, ⟨Lc12, hQ12, l12, y12, z12⟩, st12⟩ := X11.virtualBack hx (y := (⟨"com/example/shapewright/shapewright/regex/CodePointSet", "contains", "(I)Z"⟩ : MethodName)) (z := (⟨"com/example/shapewright/shapewright/regex/CodePointSet", "contains", "(I)Z"⟩ : MethodName)) hown (mvT hZ (hw _ (List.mem_of_getElem? (i := 22) rfl))) (mvT hZ (hw _ (List.mem_of_getElem? (i := 23) rfl))) (notFace_of_selects (args := #[]) (mvT hZ (hw _ (List.mem_of_getElem? (i := 25) rfl)))) (mvT hZ (hw _ (List.mem_of_getElem? (i := 25) rfl))) (mvT hZ (hw _ (List.mem_of_getElem? (i := 24) rfl))) (by decide) (backOf (W := 0) (rm_contains l Z av0 hw [] b4 p3 ar_4 (ownUpd (ownUpd (fun _ => (0 : Int32)) 0 v1) 1 la) T4.heap n0 (Nat.le_trans Z0 K4.1) FP4_1 FP4_2) hZ (hw _ (List.mem_of_getElem? (i := 26) rfl)) (hw _ (List.mem_of_getElem? (i := 4) rfl)) (by decide) (by decide)) q12a q12c (g := (mkF m 162 #[iv p0, iv p1, iv p2, iv p3, iv (1114111 : Int32), iv v1, iv v2, iv la, rv b4, iv (1 : Int32), .unset, .unset] [(.int p3), (.ref b4)])) rfl (by rw [hml]; rfl) (Steps.refl _) (argsL := [(.int p3)]) (rest := []) (lenOf own_pd5 rfl) rfl (by show 2 * 0 + _ ≤ _; exact Nat.le_of_eq rfl) (hb hby at_162) (fun _ _ => ⟨rfl, e11, (by decide : 2 + 0 ≤ _), (by decide : 3 + 0 ≤ _)⟩)
    dsimp only [Pt.U, Pt.locs, Pt.cells, Pt.slots] at X12 l12 y12 z12 st12 hQ12
    subst l12 y12 z12
    obtain ⟨rfl, N12q, e12⟩ := hQ12
    have N12 := Fr.app N11 N12q
    refine ownRun (T' := T12) (f' := (mkF m 165 #[iv p0, iv p1, iv p2, iv p3, iv (1114111 : Int32), iv v1, iv v2, iv la, rv b4, iv (1 : Int32), .unset, .unset] [(.int (own_cont v1 la p3))])) st12 ?_
    refine ow_iload (q := 167) X12 hx (hb hby at_165) rfl rfl ?_
    refine ow_iloadN (q := 168) X12 hx (hb hby at_167) rfl rfl ?_
    by_cases hc168_13 : p3 < v1
    · refine ow_icmpYes (q := 181) X12 hx (hb hby at_168) (Jvm.Free.XT.ii_gt_t hc168_13) (by decide) (by decide) ?_
      refine ow_iconst (q := 182) X12 hx (0 : Int32) (hb hby at_181) rfl rfl ?_
      refine ow_icmpNo (q := 185) X12 hx (hb hby at_182) rfl (Jvm.Free.XT.ii_ne_f (by simp [own_cont, hc168_13])) ?_
      refine ow_iconst (q := 186) X12 hx (1 : Int32) (hb hby at_185) rfl rfl ?_
      refine ow_goto (q := 190) X12 hx (hb hby at_186) (by decide) (by decide) ?_
      refine ow_istore (q := 192) X12 hx (L' := #[iv p0, iv p1, iv p2, iv p3, iv (1114111 : Int32), iv v1, iv v2, iv la, rv b4, iv (1 : Int32), .unset, .unset]) (hb hby at_190) rfl rfl ?_
      refine ow_iloadN (q := 193) X12 hx (hb hby at_192) rfl rfl ?_
      refine ownGo (T' := T12) (f' := (mkF m 195 #[iv p0, iv p1, iv p2, iv p3, iv (1114111 : Int32), iv v1, iv v2, iv la, rv b4, iv (1 : Int32), .unset, .unset] [(.int (2147483647 : Int32)), (.int p3)])) (X12.ldcInt hx hown (mvT hZ (hw _ (List.mem_of_getElem? (i := 1) rfl))) (g := (mkF m 193 #[iv p0, iv p1, iv p2, iv p3, iv (1114111 : Int32), iv v1, iv v2, iv la, rv b4, iv (1 : Int32), .unset, .unset] [(.int p3)])) rfl (hb hby at_193)) ?_
      refine ow_iand (q := 196) X12 hx _ (hb hby at_195) rfl rfl ?_
      refine ow_iload (q := 198) X12 hx (hb hby at_196) rfl rfl ?_
      refine ow_iconst (q := 199) X12 hx (2 : Int32) (hb hby at_198) rfl rfl ?_
      refine ow_iadd (q := 200) X12 hx (1114113 : Int32) (hb hby at_199) rfl (by decide) ?_
      refine ow_irem (q := 201) X12 hx _ (hb hby at_200) rfl (by decide) rfl ?_
      generalize hv_v14 : ((p3 &&& (2147483647 : Int32)) % (1114113 : Int32)) = v14
      refine ow_istore (q := 203) X12 hx (L' := #[iv p0, iv p1, iv p2, iv p3, iv (1114111 : Int32), iv v1, iv v2, iv la, rv b4, iv (1 : Int32), iv v14, .unset]) (hb hby at_201) rfl rfl ?_
      refine ow_iload (q := 205) X12 hx (hb hby at_203) rfl rfl ?_
      refine ow_ifNo (q := 208) X12 hx (hb hby at_205) rfl (Jvm.Free.XT.i0_eq_f (by decide)) ?_
      refine ow_aload (q := 210) X12 hx (hb hby at_208) rfl rfl rfl ?_
      refine ow_iload (q := 212) X12 hx (hb hby at_210) rfl rfl ?_
      obtain ⟨cq15, kq15, q15a, q15b, q15c⟩ := isOf hZ e12 FP4_0
      obtain ⟨_, _, ⟨T15, L15, k15, n15⟩, -, X15, ⟨Lc15, hQ15, l15, y15, z15⟩, st15⟩ := X12.virtualBack hx (y := (⟨"com/example/shapewright/shapewright/regex/CodePointSet", "contains", "(I)Z"⟩ : MethodName)) (z := (⟨"com/example/shapewright/shapewright/regex/CodePointSet", "contains", "(I)Z"⟩ : MethodName)) hown (mvT hZ (hw _ (List.mem_of_getElem? (i := 22) rfl))) (mvT hZ (hw _ (List.mem_of_getElem? (i := 23) rfl))) (notFace_of_selects (args := #[]) (mvT hZ (hw _ (List.mem_of_getElem? (i := 25) rfl)))) (mvT hZ (hw _ (List.mem_of_getElem? (i := 25) rfl))) (mvT hZ (hw _ (List.mem_of_getElem? (i := 24) rfl))) (by decide) (backOf (W := 0) (rm_contains l Z av0 hw [] b4 v14 ar_4 (ownUpd (ownUpd (fun _ => (0 : Int32)) 0 v1) 1 la) T4.heap n0 (Nat.le_trans Z0 K4.1) FP4_1 FP4_2) hZ (hw _ (List.mem_of_getElem? (i := 26) rfl)) (hw _ (List.mem_of_getElem? (i := 4) rfl)) (by decide) (by decide)) q15a q15c (g := (mkF m 212 #[iv p0, iv p1, iv p2, iv p3, iv (1114111 : Int32), iv v1, iv v2, iv la, rv b4, iv (1 : Int32), iv v14, .unset] [(.int v14), (.ref b4)])) rfl (by rw [hml]; rfl) (Steps.refl _) (argsL := [(.int v14)]) (rest := []) (lenOf own_pd5 rfl) rfl (by show 2 * 0 + _ ≤ _; exact Nat.le_of_eq rfl) (hb hby at_212) (fun _ _ => ⟨rfl, e12, (by decide : 2 + 0 ≤ _), (by decide : 3 + 0 ≤ _)⟩)
      dsimp only [Pt.U, Pt.locs, Pt.cells, Pt.slots] at X15 l15 y15 z15 st15 hQ15
      subst l15 y15 z15
      obtain ⟨rfl, N15q, e15⟩ := hQ15
      have N15 := Fr.app N12 N15q
      refine ownRun (T' := T15) (f' := (mkF m 215 #[iv p0, iv p1, iv p2, iv p3, iv (1114111 : Int32), iv v1, iv v2, iv la, rv b4, iv (1 : Int32), iv v14, .unset] [(.int (own_cont v1 la v14))])) st15 ?_
      refine ow_iload (q := 217) X15 hx (hb hby at_215) rfl rfl ?_
      refine ow_iload (q := 219) X15 hx (hb hby at_217) rfl rfl ?_
      by_cases hc219_16 : v14 < v1
      · refine ow_icmpYes (q := 233) X15 hx (hb hby at_219) (Jvm.Free.XT.ii_gt_t hc219_16) (by decide) (by decide) ?_
        refine ow_iconst (q := 234) X15 hx (0 : Int32) (hb hby at_233) rfl rfl ?_
        refine ow_icmpNo (q := 237) X15 hx (hb hby at_234) rfl (Jvm.Free.XT.ii_ne_f (by simp [own_cont, hc219_16])) ?_
        refine ow_iconst (q := 238) X15 hx (1 : Int32) (hb hby at_237) rfl rfl ?_
        refine ow_goto (q := 242) X15 hx (hb hby at_238) (by decide) (by decide) ?_
        refine ow_istore (q := 244) X15 hx (L' := #[iv p0, iv p1, iv p2, iv p3, iv (1114111 : Int32), iv v1, iv v2, iv la, rv b4, iv (1 : Int32), iv v14, .unset]) (hb hby at_242) rfl rfl ?_
        by_cases hmx : la < (1114111 : Int32)
        · refine ow_aload (q := 246) X15 hx (hb hby at_244) rfl rfl rfl ?_
          obtain ⟨cq17, kq17, q17a, q17b, q17c⟩ := isOf hZ e15 FP4_0
          obtain ⟨_, _, ⟨T17, L17, k17, n17⟩, -, X17, ⟨Lc17, hQ17, l17, y17, z17⟩, st17⟩ := X15.virtualBack hx (y := (⟨"com/example/shapewright/shapewright/regex/CodePointSet", "edges", "()[I"⟩ : MethodName)) (z := (⟨"com/example/shapewright/shapewright/regex/CodePointSet", "edges", "()[I"⟩ : MethodName)) hown (mvT hZ (hw _ (List.mem_of_getElem? (i := 27) rfl))) (mvT hZ (hw _ (List.mem_of_getElem? (i := 28) rfl))) (notFace_of_selects (args := #[]) (mvT hZ (hw _ (List.mem_of_getElem? (i := 30) rfl)))) (mvT hZ (hw _ (List.mem_of_getElem? (i := 30) rfl))) (mvT hZ (hw _ (List.mem_of_getElem? (i := 29) rfl))) (by decide) (backOf (W := 0) (rm_edges_2 l Z av0 hw [] b4 ar_4 (ownUpd (ownUpd (fun _ => (0 : Int32)) 0 v1) 1 la) T4.heap n0 (Nat.le_trans Z0 K4.1) FP4_1 FP4_2 hmx) hZ (hw _ (List.mem_of_getElem? (i := 31) rfl)) (hw _ (List.mem_of_getElem? (i := 4) rfl)) (by decide) (by decide)) q17a q17c (g := (mkF m 246 #[iv p0, iv p1, iv p2, iv p3, iv (1114111 : Int32), iv v1, iv v2, iv la, rv b4, iv (1 : Int32), iv v14, .unset] [(.ref b4)])) rfl (by rw [hml]; rfl) (Steps.refl _) (argsL := []) (rest := []) (lenOf own_pd6 rfl) rfl (by show 2 * 0 + _ ≤ _; exact Nat.le_of_eq rfl) (hb hby at_246) (fun _ _ => ⟨rfl, e15, (by decide : 2 + 2 ≤ _), (by decide : 3 + 4 ≤ _)⟩)
          dsimp only [Pt.U, Pt.locs, Pt.cells, Pt.slots] at X17 l17 y17 z17 st17 hQ17
          subst l17 y17 z17
          obtain ⟨b17, rfl, N17q, Kq17, sq17_b17, FP17_0⟩ := hQ17
          have N17 := Fr.app N15 N17q
          have K17 : Keep h0 T17.heap [] := K4.trans Kq17 all0
          have ne_b4_b17 : b4 ≠ b17 := Nat.ne_of_lt (Nat.lt_of_lt_of_le FP4_0.lt sq17_b17)
          have ne_ar_4_b17 : ar_4 ≠ b17 := Nat.ne_of_lt (Nat.lt_of_lt_of_le FP4_2.lt sq17_b17)
          have sz_b17 : h0.size ≤ b17 := Nat.le_trans K4.1 sq17_b17
          have G_b17 : n0 ≤ b17 := Nat.le_trans Z0 sz_b17
          have F18 : Exa Z T17.heap b4 "com/example/shapewright/shapewright/regex/CodePointSet" := FP4_0.keep Kq17
          have F19 : Fld Z T17.heap b4 "com/example/shapewright/shapewright/regex/CodePointSet" "ranges" "[I" (.ref ar_4) := FP4_1.keep Kq17 nin0
          have F20 : ownAI Z T17.heap ar_4 .int 2 (ownUpd (ownUpd (fun _ => (0 : Int32)) 0 v1) 1 la) := FP4_2.keep Kq17 nin0
          refine ownRun (T' := T17) (f' := (mkF m 249 #[iv p0, iv p1, iv p2, iv p3, iv (1114111 : Int32), iv v1, iv v2, iv la, rv b4, iv (1 : Int32), iv v14, .unset] [(.ref b17)])) st17 ?_
          refine ow_astore (q := 251) X17 hx (L' := #[iv p0, iv p1, iv p2, iv p3, iv (1114111 : Int32), iv v1, iv v2, iv la, rv b4, iv (1 : Int32), iv v14, rv b17]) (hb hby at_249) rfl rfl rfl ?_
          refine ow_iload (q := 253) X17 hx (hb hby at_251) rfl rfl ?_
          refine ow_iload (q := 255) X17 hx (hb hby at_253) rfl rfl ?_
          refine ow_icmpYes (q := 289) X17 hx (hb hby at_255) (Jvm.Free.XT.ii_ne_t (own_nmx hmx)) (by decide) (by decide) ?_
          refine ow_iload (q := 291) X17 hx (hb hby at_289) rfl rfl ?_
          refine ow_ifNo (q := 294) X17 hx (hb hby at_291) rfl (Jvm.Free.XT.i0_eq_f (by decide)) ?_
          refine ow_aload (q := 296) X17 hx (hb hby at_294) rfl rfl rfl ?_
          refine ownGo (T' := T17) (f' := (mkF m 297 #[iv p0, iv p1, iv p2, iv p3, iv (1114111 : Int32), iv v1, iv v2, iv la, rv b4, iv (1 : Int32), iv v14, rv b17] [(.int (2 : Int32))])) (ownLenI FP17_0 X17 hx hZ rfl (z := (2 : Int32)) (by decide) (g := (mkF m 296 #[iv p0, iv p1, iv p2, iv p3, iv (1114111 : Int32), iv v1, iv v2, iv la, rv b4, iv (1 : Int32), iv v14, rv b17] [(.ref b17)])) rfl rfl (hb hby at_296)) ?_
          refine ow_iconst (q := 298) X17 hx (2 : Int32) (hb hby at_297) rfl rfl ?_
          refine ow_icmpNo (q := 301) X17 hx (hb hby at_298) rfl (Jvm.Free.XT.ii_ne_f (by decide)) ?_
          refine ow_aload (q := 303) X17 hx (hb hby at_301) rfl rfl rfl ?_
          refine ow_iconst (q := 304) X17 hx (0 : Int32) (hb hby at_303) rfl rfl ?_
          refine ownGo (T' := T17) (f' := (mkF m 305 #[iv p0, iv p1, iv p2, iv p3, iv (1114111 : Int32), iv v1, iv v2, iv la, rv b4, iv (1 : Int32), iv v14, rv b17] [(.int v1)])) (ownIaload FP17_0 X17 hx hZ rfl (j := (0 : Int32)) (by unfold ownIn; decide) (g := (mkF m 304 #[iv p0, iv p1, iv p2, iv p3, iv (1114111 : Int32), iv v1, iv v2, iv la, rv b4, iv (1 : Int32), iv v14, rv b17] [(.int (0 : Int32)), (.ref b17)])) rfl rfl (hb hby at_304)) ?_
          refine ow_iload (q := 307) X17 hx (hb hby at_305) rfl rfl ?_
          refine ow_icmpNo (q := 310) X17 hx (hb hby at_307) rfl (Jvm.Free.XT.ii_ne_f rfl) ?_
          refine ow_aload (q := 312) X17 hx (hb hby at_310) rfl rfl rfl ?_
          refine ow_iconst (q := 313) X17 hx (1 : Int32) (hb hby at_312) rfl rfl ?_
          refine ownGo (T' := T17) (f' := (mkF m 314 #[iv p0, iv p1, iv p2, iv p3, iv (1114111 : Int32), iv v1, iv v2, iv la, rv b4, iv (1 : Int32), iv v14, rv b17] [(.int (la + (1 : Int32)))])) (ownIaload FP17_0 X17 hx hZ rfl (j := (1 : Int32)) (by unfold ownIn; decide) (g := (mkF m 313 #[iv p0, iv p1, iv p2, iv p3, iv (1114111 : Int32), iv v1, iv v2, iv la, rv b4, iv (1 : Int32), iv v14, rv b17] [(.int (1 : Int32)), (.ref b17)])) rfl rfl (hb hby at_313)) ?_
          refine ow_iload (q := 316) X17 hx (hb hby at_314) rfl rfl ?_
          refine ow_iconst (q := 317) X17 hx (1 : Int32) (hb hby at_316) rfl rfl ?_
          refine ow_iadd (q := 318) X17 hx _ (hb hby at_317) rfl rfl ?_
          refine ow_icmpNo (q := 321) X17 hx (hb hby at_318) rfl (Jvm.Free.XT.ii_ne_f rfl) ?_
          refine ow_iconst (q := 322) X17 hx (1 : Int32) (hb hby at_321) rfl rfl ?_
          refine ow_goto (q := 326) X17 hx (hb hby at_322) (by decide) (by decide) ?_
          refine ow_istore (q := 328) X17 hx (L' := #[iv p0, iv p1, iv p2, iv p3, iv (1114111 : Int32), iv v1, iv v2, iv la, rv b4, iv (1 : Int32), iv v14, rv b17]) (hb hby at_326) rfl rfl ?_
          refine ow_iload (q := 330) X17 hx (hb hby at_328) rfl rfl ?_
          refine ownRetN X17 hx (r := (1 : Int32)) (Or.inl rfl) Bd.returns (hb hby at_330) hlk (by decide) (by decide) (by decide) ?_
          exact ⟨rfl, N17⟩
        · refine ow_aload (q := 246) X15 hx (hb hby at_244) rfl rfl rfl ?_
          obtain ⟨cq21, kq21, q21a, q21b, q21c⟩ := isOf hZ e15 FP4_0
          obtain ⟨_, _, ⟨T21, L21, k21, n21⟩, -, X21, ⟨Lc21, hQ21, l21, y21, z21⟩, st21⟩ := X15.virtualBack hx (y := (⟨"com/example/shapewright/shapewright/regex/CodePointSet", "edges", "()[I"⟩ : MethodName)) (z := (⟨"com/example/shapewright/shapewright/regex/CodePointSet", "edges", "()[I"⟩ : MethodName)) hown (mvT hZ (hw _ (List.mem_of_getElem? (i := 27) rfl))) (mvT hZ (hw _ (List.mem_of_getElem? (i := 28) rfl))) (notFace_of_selects (args := #[]) (mvT hZ (hw _ (List.mem_of_getElem? (i := 30) rfl)))) (mvT hZ (hw _ (List.mem_of_getElem? (i := 30) rfl))) (mvT hZ (hw _ (List.mem_of_getElem? (i := 29) rfl))) (by decide) (backOf (W := 0) (rm_edges_1 l Z av0 hw [] b4 ar_4 (ownUpd (ownUpd (fun _ => (0 : Int32)) 0 v1) 1 la) T4.heap n0 (Nat.le_trans Z0 K4.1) FP4_1 FP4_2 hmx) hZ (hw _ (List.mem_of_getElem? (i := 31) rfl)) (hw _ (List.mem_of_getElem? (i := 4) rfl)) (by decide) (by decide)) q21a q21c (g := (mkF m 246 #[iv p0, iv p1, iv p2, iv p3, iv (1114111 : Int32), iv v1, iv v2, iv la, rv b4, iv (1 : Int32), iv v14, .unset] [(.ref b4)])) rfl (by rw [hml]; rfl) (Steps.refl _) (argsL := []) (rest := []) (lenOf own_pd6 rfl) rfl (by show 2 * 0 + _ ≤ _; exact Nat.le_of_eq rfl) (hb hby at_246) (fun _ _ => ⟨rfl, e15, (by decide : 2 + 2 ≤ _), (by decide : 3 + 3 ≤ _)⟩)
          dsimp only [Pt.U, Pt.locs, Pt.cells, Pt.slots] at X21 l21 y21 z21 st21 hQ21
          subst l21 y21 z21
          obtain ⟨b21, rfl, N21q, Kq21, sq21_b21, FP21_0⟩ := hQ21
          have N21 := Fr.app N15 N21q
          have K21 : Keep h0 T21.heap [] := K4.trans Kq21 all0
          have ne_b4_b21 : b4 ≠ b21 := Nat.ne_of_lt (Nat.lt_of_lt_of_le FP4_0.lt sq21_b21)
          have ne_ar_4_b21 : ar_4 ≠ b21 := Nat.ne_of_lt (Nat.lt_of_lt_of_le FP4_2.lt sq21_b21)
          have sz_b21 : h0.size ≤ b21 := Nat.le_trans K4.1 sq21_b21
          have G_b21 : n0 ≤ b21 := Nat.le_trans Z0 sz_b21
          have F22 : Exa Z T21.heap b4 "com/example/shapewright/shapewright/regex/CodePointSet" := FP4_0.keep Kq21
          have F23 : Fld Z T21.heap b4 "com/example/shapewright/shapewright/regex/CodePointSet" "ranges" "[I" (.ref ar_4) := FP4_1.keep Kq21 nin0
          have F24 : ownAI Z T21.heap ar_4 .int 2 (ownUpd (ownUpd (fun _ => (0 : Int32)) 0 v1) 1 la) := FP4_2.keep Kq21 nin0
          refine ownRun (T' := T21) (f' := (mkF m 249 #[iv p0, iv p1, iv p2, iv p3, iv (1114111 : Int32), iv v1, iv v2, iv la, rv b4, iv (1 : Int32), iv v14, .unset] [(.ref b21)])) st21 ?_
          refine ow_astore (q := 251) X21 hx (L' := #[iv p0, iv p1, iv p2, iv p3, iv (1114111 : Int32), iv v1, iv v2, iv la, rv b4, iv (1 : Int32), iv v14, rv b21]) (hb hby at_249) rfl rfl rfl ?_
          refine ow_iload (q := 253) X21 hx (hb hby at_251) rfl rfl ?_
          refine ow_iload (q := 255) X21 hx (hb hby at_253) rfl rfl ?_
          refine ow_icmpNo (q := 258) X21 hx (hb hby at_255) rfl (Jvm.Free.XT.ii_ne_f (own_mx hl hmx)) ?_
          refine ow_iload (q := 260) X21 hx (hb hby at_258) rfl rfl ?_
          refine ow_ifNo (q := 263) X21 hx (hb hby at_260) rfl (Jvm.Free.XT.i0_eq_f (by decide)) ?_
          refine ow_aload (q := 265) X21 hx (hb hby at_263) rfl rfl rfl ?_
          refine ownGo (T' := T21) (f' := (mkF m 266 #[iv p0, iv p1, iv p2, iv p3, iv (1114111 : Int32), iv v1, iv v2, iv la, rv b4, iv (1 : Int32), iv v14, rv b21] [(.int (1 : Int32))])) (ownLenI FP21_0 X21 hx hZ rfl (z := (1 : Int32)) (by decide) (g := (mkF m 265 #[iv p0, iv p1, iv p2, iv p3, iv (1114111 : Int32), iv v1, iv v2, iv la, rv b4, iv (1 : Int32), iv v14, rv b21] [(.ref b21)])) rfl rfl (hb hby at_265)) ?_
          refine ow_iconst (q := 267) X21 hx (1 : Int32) (hb hby at_266) rfl rfl ?_
          refine ow_icmpNo (q := 270) X21 hx (hb hby at_267) rfl (Jvm.Free.XT.ii_ne_f (by decide)) ?_
          refine ow_aload (q := 272) X21 hx (hb hby at_270) rfl rfl rfl ?_
          refine ow_iconst (q := 273) X21 hx (0 : Int32) (hb hby at_272) rfl rfl ?_
          refine ownGo (T' := T21) (f' := (mkF m 274 #[iv p0, iv p1, iv p2, iv p3, iv (1114111 : Int32), iv v1, iv v2, iv la, rv b4, iv (1 : Int32), iv v14, rv b21] [(.int v1)])) (ownIaload FP21_0 X21 hx hZ rfl (j := (0 : Int32)) (by unfold ownIn; decide) (g := (mkF m 273 #[iv p0, iv p1, iv p2, iv p3, iv (1114111 : Int32), iv v1, iv v2, iv la, rv b4, iv (1 : Int32), iv v14, rv b21] [(.int (0 : Int32)), (.ref b21)])) rfl rfl (hb hby at_273)) ?_
          refine ow_iload (q := 276) X21 hx (hb hby at_274) rfl rfl ?_
          refine ow_icmpNo (q := 279) X21 hx (hb hby at_276) rfl (Jvm.Free.XT.ii_ne_f rfl) ?_
          refine ow_iconst (q := 280) X21 hx (1 : Int32) (hb hby at_279) rfl rfl ?_
          refine ow_goto (q := 284) X21 hx (hb hby at_280) (by decide) (by decide) ?_
          refine ow_istore (q := 286) X21 hx (L' := #[iv p0, iv p1, iv p2, iv p3, iv (1114111 : Int32), iv v1, iv v2, iv la, rv b4, iv (1 : Int32), iv v14, rv b21]) (hb hby at_284) rfl rfl ?_
          refine ow_goto (q := 328) X21 hx (hb hby at_286) (by decide) (by decide) ?_
          refine ow_iload (q := 330) X21 hx (hb hby at_328) rfl rfl ?_
          refine ownRetN X21 hx (r := (1 : Int32)) (Or.inl rfl) Bd.returns (hb hby at_330) hlk (by decide) (by decide) (by decide) ?_
          exact ⟨rfl, N21⟩
      · refine ow_icmpNo (q := 222) X15 hx (hb hby at_219) rfl (Jvm.Free.XT.ii_gt_f hc219_16) ?_
        refine ow_iload (q := 224) X15 hx (hb hby at_222) rfl rfl ?_
        refine ow_iload (q := 226) X15 hx (hb hby at_224) rfl rfl ?_
        by_cases hc226_25 : la < v14
        · refine ow_icmpYes (q := 233) X15 hx (hb hby at_226) (Jvm.Free.XT.ii_gt_t hc226_25) (by decide) (by decide) ?_
          refine ow_iconst (q := 234) X15 hx (0 : Int32) (hb hby at_233) rfl rfl ?_
          refine ow_icmpNo (q := 237) X15 hx (hb hby at_234) rfl (Jvm.Free.XT.ii_ne_f (by simp [own_cont, hc219_16, hc226_25])) ?_
          refine ow_iconst (q := 238) X15 hx (1 : Int32) (hb hby at_237) rfl rfl ?_
          refine ow_goto (q := 242) X15 hx (hb hby at_238) (by decide) (by decide) ?_
          refine ow_istore (q := 244) X15 hx (L' := #[iv p0, iv p1, iv p2, iv p3, iv (1114111 : Int32), iv v1, iv v2, iv la, rv b4, iv (1 : Int32), iv v14, .unset]) (hb hby at_242) rfl rfl ?_
          by_cases hmx : la < (1114111 : Int32)
          · refine ow_aload (q := 246) X15 hx (hb hby at_244) rfl rfl rfl ?_
            obtain ⟨cq26, kq26, q26a, q26b, q26c⟩ := isOf hZ e15 FP4_0
            obtain ⟨_, _, ⟨T26, L26, k26, n26⟩, -, X26, ⟨Lc26, hQ26, l26, y26, z26⟩, st26⟩ := X15.virtualBack hx (y := (⟨"com/example/shapewright/shapewright/regex/CodePointSet", "edges", "()[I"⟩ : MethodName)) (z := (⟨"com/example/shapewright/shapewright/regex/CodePointSet", "edges", "()[I"⟩ : MethodName)) hown (mvT hZ (hw _ (List.mem_of_getElem? (i := 27) rfl))) (mvT hZ (hw _ (List.mem_of_getElem? (i := 28) rfl))) (notFace_of_selects (args := #[]) (mvT hZ (hw _ (List.mem_of_getElem? (i := 30) rfl)))) (mvT hZ (hw _ (List.mem_of_getElem? (i := 30) rfl))) (mvT hZ (hw _ (List.mem_of_getElem? (i := 29) rfl))) (by decide) (backOf (W := 0) (rm_edges_2 l Z av0 hw [] b4 ar_4 (ownUpd (ownUpd (fun _ => (0 : Int32)) 0 v1) 1 la) T4.heap n0 (Nat.le_trans Z0 K4.1) FP4_1 FP4_2 hmx) hZ (hw _ (List.mem_of_getElem? (i := 31) rfl)) (hw _ (List.mem_of_getElem? (i := 4) rfl)) (by decide) (by decide)) q26a q26c (g := (mkF m 246 #[iv p0, iv p1, iv p2, iv p3, iv (1114111 : Int32), iv v1, iv v2, iv la, rv b4, iv (1 : Int32), iv v14, .unset] [(.ref b4)])) rfl (by rw [hml]; rfl) (Steps.refl _) (argsL := []) (rest := []) (lenOf own_pd6 rfl) rfl (by show 2 * 0 + _ ≤ _; exact Nat.le_of_eq rfl) (hb hby at_246) (fun _ _ => ⟨rfl, e15, (by decide : 2 + 2 ≤ _), (by decide : 3 + 4 ≤ _)⟩)
            dsimp only [Pt.U, Pt.locs, Pt.cells, Pt.slots] at X26 l26 y26 z26 st26 hQ26
            subst l26 y26 z26
            obtain ⟨b26, rfl, N26q, Kq26, sq26_b26, FP26_0⟩ := hQ26
            have N26 := Fr.app N15 N26q
            have K26 : Keep h0 T26.heap [] := K4.trans Kq26 all0
            have ne_b4_b26 : b4 ≠ b26 := Nat.ne_of_lt (Nat.lt_of_lt_of_le FP4_0.lt sq26_b26)
            have ne_ar_4_b26 : ar_4 ≠ b26 := Nat.ne_of_lt (Nat.lt_of_lt_of_le FP4_2.lt sq26_b26)
            have sz_b26 : h0.size ≤ b26 := Nat.le_trans K4.1 sq26_b26
            have G_b26 : n0 ≤ b26 := Nat.le_trans Z0 sz_b26
            have F27 : Exa Z T26.heap b4 "com/example/shapewright/shapewright/regex/CodePointSet" := FP4_0.keep Kq26
            have F28 : Fld Z T26.heap b4 "com/example/shapewright/shapewright/regex/CodePointSet" "ranges" "[I" (.ref ar_4) := FP4_1.keep Kq26 nin0
            have F29 : ownAI Z T26.heap ar_4 .int 2 (ownUpd (ownUpd (fun _ => (0 : Int32)) 0 v1) 1 la) := FP4_2.keep Kq26 nin0
            refine ownRun (T' := T26) (f' := (mkF m 249 #[iv p0, iv p1, iv p2, iv p3, iv (1114111 : Int32), iv v1, iv v2, iv la, rv b4, iv (1 : Int32), iv v14, .unset] [(.ref b26)])) st26 ?_
            refine ow_astore (q := 251) X26 hx (L' := #[iv p0, iv p1, iv p2, iv p3, iv (1114111 : Int32), iv v1, iv v2, iv la, rv b4, iv (1 : Int32), iv v14, rv b26]) (hb hby at_249) rfl rfl rfl ?_
            refine ow_iload (q := 253) X26 hx (hb hby at_251) rfl rfl ?_
            refine ow_iload (q := 255) X26 hx (hb hby at_253) rfl rfl ?_
            refine ow_icmpYes (q := 289) X26 hx (hb hby at_255) (Jvm.Free.XT.ii_ne_t (own_nmx hmx)) (by decide) (by decide) ?_
            refine ow_iload (q := 291) X26 hx (hb hby at_289) rfl rfl ?_
            refine ow_ifNo (q := 294) X26 hx (hb hby at_291) rfl (Jvm.Free.XT.i0_eq_f (by decide)) ?_
            refine ow_aload (q := 296) X26 hx (hb hby at_294) rfl rfl rfl ?_
            refine ownGo (T' := T26) (f' := (mkF m 297 #[iv p0, iv p1, iv p2, iv p3, iv (1114111 : Int32), iv v1, iv v2, iv la, rv b4, iv (1 : Int32), iv v14, rv b26] [(.int (2 : Int32))])) (ownLenI FP26_0 X26 hx hZ rfl (z := (2 : Int32)) (by decide) (g := (mkF m 296 #[iv p0, iv p1, iv p2, iv p3, iv (1114111 : Int32), iv v1, iv v2, iv la, rv b4, iv (1 : Int32), iv v14, rv b26] [(.ref b26)])) rfl rfl (hb hby at_296)) ?_
            refine ow_iconst (q := 298) X26 hx (2 : Int32) (hb hby at_297) rfl rfl ?_
            refine ow_icmpNo (q := 301) X26 hx (hb hby at_298) rfl (Jvm.Free.XT.ii_ne_f (by decide)) ?_
            refine ow_aload (q := 303) X26 hx (hb hby at_301) rfl rfl rfl ?_
            refine ow_iconst (q := 304) X26 hx (0 : Int32) (hb hby at_303) rfl rfl ?_
            refine ownGo (T' := T26) (f' := (mkF m 305 #[iv p0, iv p1, iv p2, iv p3, iv (1114111 : Int32), iv v1, iv v2, iv la, rv b4, iv (1 : Int32), iv v14, rv b26] [(.int v1)])) (ownIaload FP26_0 X26 hx hZ rfl (j := (0 : Int32)) (by unfold ownIn; decide) (g := (mkF m 304 #[iv p0, iv p1, iv p2, iv p3, iv (1114111 : Int32), iv v1, iv v2, iv la, rv b4, iv (1 : Int32), iv v14, rv b26] [(.int (0 : Int32)), (.ref b26)])) rfl rfl (hb hby at_304)) ?_
            refine ow_iload (q := 307) X26 hx (hb hby at_305) rfl rfl ?_
            refine ow_icmpNo (q := 310) X26 hx (hb hby at_307) rfl (Jvm.Free.XT.ii_ne_f rfl) ?_
            refine ow_aload (q := 312) X26 hx (hb hby at_310) rfl rfl rfl ?_
            refine ow_iconst (q := 313) X26 hx (1 : Int32) (hb hby at_312) rfl rfl ?_
            refine ownGo (T' := T26) (f' := (mkF m 314 #[iv p0, iv p1, iv p2, iv p3, iv (1114111 : Int32), iv v1, iv v2, iv la, rv b4, iv (1 : Int32), iv v14, rv b26] [(.int (la + (1 : Int32)))])) (ownIaload FP26_0 X26 hx hZ rfl (j := (1 : Int32)) (by unfold ownIn; decide) (g := (mkF m 313 #[iv p0, iv p1, iv p2, iv p3, iv (1114111 : Int32), iv v1, iv v2, iv la, rv b4, iv (1 : Int32), iv v14, rv b26] [(.int (1 : Int32)), (.ref b26)])) rfl rfl (hb hby at_313)) ?_
            refine ow_iload (q := 316) X26 hx (hb hby at_314) rfl rfl ?_
            refine ow_iconst (q := 317) X26 hx (1 : Int32) (hb hby at_316) rfl rfl ?_
            refine ow_iadd (q := 318) X26 hx _ (hb hby at_317) rfl rfl ?_
            refine ow_icmpNo (q := 321) X26 hx (hb hby at_318) rfl (Jvm.Free.XT.ii_ne_f rfl) ?_
            refine ow_iconst (q := 322) X26 hx (1 : Int32) (hb hby at_321) rfl rfl ?_
            refine ow_goto (q := 326) X26 hx (hb hby at_322) (by decide) (by decide) ?_
            refine ow_istore (q := 328) X26 hx (L' := #[iv p0, iv p1, iv p2, iv p3, iv (1114111 : Int32), iv v1, iv v2, iv la, rv b4, iv (1 : Int32), iv v14, rv b26]) (hb hby at_326) rfl rfl ?_
            refine ow_iload (q := 330) X26 hx (hb hby at_328) rfl rfl ?_
            refine ownRetN X26 hx (r := (1 : Int32)) (Or.inl rfl) Bd.returns (hb hby at_330) hlk (by decide) (by decide) (by decide) ?_
            exact ⟨rfl, N26⟩
          · refine ow_aload (q := 246) X15 hx (hb hby at_244) rfl rfl rfl ?_
            obtain ⟨cq30, kq30, q30a, q30b, q30c⟩ := isOf hZ e15 FP4_0
            obtain ⟨_, _, ⟨T30, L30, k30, n30⟩, -, X30, ⟨Lc30, hQ30, l30, y30, z30⟩, st30⟩ := X15.virtualBack hx (y := (⟨"com/example/shapewright/shapewright/regex/CodePointSet", "edges", "()[I"⟩ : MethodName)) (z := (⟨"com/example/shapewright/shapewright/regex/CodePointSet", "edges", "()[I"⟩ : MethodName)) hown (mvT hZ (hw _ (List.mem_of_getElem? (i := 27) rfl))) (mvT hZ (hw _ (List.mem_of_getElem? (i := 28) rfl))) (notFace_of_selects (args := #[]) (mvT hZ (hw _ (List.mem_of_getElem? (i := 30) rfl)))) (mvT hZ (hw _ (List.mem_of_getElem? (i := 30) rfl))) (mvT hZ (hw _ (List.mem_of_getElem? (i := 29) rfl))) (by decide) (backOf (W := 0) (rm_edges_1 l Z av0 hw [] b4 ar_4 (ownUpd (ownUpd (fun _ => (0 : Int32)) 0 v1) 1 la) T4.heap n0 (Nat.le_trans Z0 K4.1) FP4_1 FP4_2 hmx) hZ (hw _ (List.mem_of_getElem? (i := 31) rfl)) (hw _ (List.mem_of_getElem? (i := 4) rfl)) (by decide) (by decide)) q30a q30c (g := (mkF m 246 #[iv p0, iv p1, iv p2, iv p3, iv (1114111 : Int32), iv v1, iv v2, iv la, rv b4, iv (1 : Int32), iv v14, .unset] [(.ref b4)])) rfl (by rw [hml]; rfl) (Steps.refl _) (argsL := []) (rest := []) (lenOf own_pd6 rfl) rfl (by show 2 * 0 + _ ≤ _; exact Nat.le_of_eq rfl) (hb hby at_246) (fun _ _ => ⟨rfl, e15, (by decide : 2 + 2 ≤ _), (by decide : 3 + 3 ≤ _)⟩)
            dsimp only [Pt.U, Pt.locs, Pt.cells, Pt.slots] at X30 l30 y30 z30 st30 hQ30
            subst l30 y30 z30
            obtain ⟨b30, rfl, N30q, Kq30, sq30_b30, FP30_0⟩ := hQ30
            have N30 := Fr.app N15 N30q
            have K30 : Keep h0 T30.heap [] := K4.trans Kq30 all0
            have ne_b4_b30 : b4 ≠ b30 := Nat.ne_of_lt (Nat.lt_of_lt_of_le FP4_0.lt sq30_b30)
            have ne_ar_4_b30 : ar_4 ≠ b30 := Nat.ne_of_lt (Nat.lt_of_lt_of_le FP4_2.lt sq30_b30)
            have sz_b30 : h0.size ≤ b30 := Nat.le_trans K4.1 sq30_b30
            have G_b30 : n0 ≤ b30 := Nat.le_trans Z0 sz_b30
            have F31 : Exa Z T30.heap b4 "com/example/shapewright/shapewright/regex/CodePointSet" := FP4_0.keep Kq30
            have F32 : Fld Z T30.heap b4 "com/example/shapewright/shapewright/regex/CodePointSet" "ranges" "[I" (.ref ar_4) := FP4_1.keep Kq30 nin0
            have F33 : ownAI Z T30.heap ar_4 .int 2 (ownUpd (ownUpd (fun _ => (0 : Int32)) 0 v1) 1 la) := FP4_2.keep Kq30 nin0
            refine ownRun (T' := T30) (f' := (mkF m 249 #[iv p0, iv p1, iv p2, iv p3, iv (1114111 : Int32), iv v1, iv v2, iv la, rv b4, iv (1 : Int32), iv v14, .unset] [(.ref b30)])) st30 ?_
            refine ow_astore (q := 251) X30 hx (L' := #[iv p0, iv p1, iv p2, iv p3, iv (1114111 : Int32), iv v1, iv v2, iv la, rv b4, iv (1 : Int32), iv v14, rv b30]) (hb hby at_249) rfl rfl rfl ?_
            refine ow_iload (q := 253) X30 hx (hb hby at_251) rfl rfl ?_
            refine ow_iload (q := 255) X30 hx (hb hby at_253) rfl rfl ?_
            refine ow_icmpNo (q := 258) X30 hx (hb hby at_255) rfl (Jvm.Free.XT.ii_ne_f (own_mx hl hmx)) ?_
            refine ow_iload (q := 260) X30 hx (hb hby at_258) rfl rfl ?_
            refine ow_ifNo (q := 263) X30 hx (hb hby at_260) rfl (Jvm.Free.XT.i0_eq_f (by decide)) ?_
            refine ow_aload (q := 265) X30 hx (hb hby at_263) rfl rfl rfl ?_
            refine ownGo (T' := T30) (f' := (mkF m 266 #[iv p0, iv p1, iv p2, iv p3, iv (1114111 : Int32), iv v1, iv v2, iv la, rv b4, iv (1 : Int32), iv v14, rv b30] [(.int (1 : Int32))])) (ownLenI FP30_0 X30 hx hZ rfl (z := (1 : Int32)) (by decide) (g := (mkF m 265 #[iv p0, iv p1, iv p2, iv p3, iv (1114111 : Int32), iv v1, iv v2, iv la, rv b4, iv (1 : Int32), iv v14, rv b30] [(.ref b30)])) rfl rfl (hb hby at_265)) ?_
            refine ow_iconst (q := 267) X30 hx (1 : Int32) (hb hby at_266) rfl rfl ?_
            refine ow_icmpNo (q := 270) X30 hx (hb hby at_267) rfl (Jvm.Free.XT.ii_ne_f (by decide)) ?_
            refine ow_aload (q := 272) X30 hx (hb hby at_270) rfl rfl rfl ?_
            refine ow_iconst (q := 273) X30 hx (0 : Int32) (hb hby at_272) rfl rfl ?_
            refine ownGo (T' := T30) (f' := (mkF m 274 #[iv p0, iv p1, iv p2, iv p3, iv (1114111 : Int32), iv v1, iv v2, iv la, rv b4, iv (1 : Int32), iv v14, rv b30] [(.int v1)])) (ownIaload FP30_0 X30 hx hZ rfl (j := (0 : Int32)) (by unfold ownIn; decide) (g := (mkF m 273 #[iv p0, iv p1, iv p2, iv p3, iv (1114111 : Int32), iv v1, iv v2, iv la, rv b4, iv (1 : Int32), iv v14, rv b30] [(.int (0 : Int32)), (.ref b30)])) rfl rfl (hb hby at_273)) ?_
            refine ow_iload (q := 276) X30 hx (hb hby at_274) rfl rfl ?_
            refine ow_icmpNo (q := 279) X30 hx (hb hby at_276) rfl (Jvm.Free.XT.ii_ne_f rfl) ?_
            refine ow_iconst (q := 280) X30 hx (1 : Int32) (hb hby at_279) rfl rfl ?_
            refine ow_goto (q := 284) X30 hx (hb hby at_280) (by decide) (by decide) ?_
            refine ow_istore (q := 286) X30 hx (L' := #[iv p0, iv p1, iv p2, iv p3, iv (1114111 : Int32), iv v1, iv v2, iv la, rv b4, iv (1 : Int32), iv v14, rv b30]) (hb hby at_284) rfl rfl ?_
            refine ow_goto (q := 328) X30 hx (hb hby at_286) (by decide) (by decide) ?_
            refine ow_iload (q := 330) X30 hx (hb hby at_328) rfl rfl ?_
            refine ownRetN X30 hx (r := (1 : Int32)) (Or.inl rfl) Bd.returns (hb hby at_330) hlk (by decide) (by decide) (by decide) ?_
            exact ⟨rfl, N30⟩
        · refine ow_icmpNo (q := 229) X15 hx (hb hby at_226) rfl (Jvm.Free.XT.ii_gt_f hc226_25) ?_
          refine ow_iconst (q := 230) X15 hx (1 : Int32) (hb hby at_229) rfl rfl ?_
          refine ow_goto (q := 234) X15 hx (hb hby at_230) (by decide) (by decide) ?_
          refine ow_icmpNo (q := 237) X15 hx (hb hby at_234) rfl (Jvm.Free.XT.ii_ne_f (by simp [own_cont, hc219_16, hc226_25])) ?_
          refine ow_iconst (q := 238) X15 hx (1 : Int32) (hb hby at_237) rfl rfl ?_
          refine ow_goto (q := 242) X15 hx (hb hby at_238) (by decide) (by decide) ?_
          refine ow_istore (q := 244) X15 hx (L' := #[iv p0, iv p1, iv p2, iv p3, iv (1114111 : Int32), iv v1, iv v2, iv la, rv b4, iv (1 : Int32), iv v14, .unset]) (hb hby at_242) rfl rfl ?_
          by_cases hmx : la < (1114111 : Int32)
          · refine ow_aload (q := 246) X15 hx (hb hby at_244) rfl rfl rfl ?_
            obtain ⟨cq34, kq34, q34a, q34b, q34c⟩ := isOf hZ e15 FP4_0
            obtain ⟨_, _, ⟨T34, L34, k34, n34⟩, -, X34, ⟨Lc34, hQ34, l34, y34, z34⟩, st34⟩ := X15.virtualBack hx (y := (⟨"com/example/shapewright/shapewright/regex/CodePointSet", "edges", "()[I"⟩ : MethodName)) (z := (⟨"com/example/shapewright/shapewright/regex/CodePointSet", "edges", "()[I"⟩ : MethodName)) hown (mvT hZ (hw _ (List.mem_of_getElem? (i := 27) rfl))) (mvT hZ (hw _ (List.mem_of_getElem? (i := 28) rfl))) (notFace_of_selects (args := #[]) (mvT hZ (hw _ (List.mem_of_getElem? (i := 30) rfl)))) (mvT hZ (hw _ (List.mem_of_getElem? (i := 30) rfl))) (mvT hZ (hw _ (List.mem_of_getElem? (i := 29) rfl))) (by decide) (backOf (W := 0) (rm_edges_2 l Z av0 hw [] b4 ar_4 (ownUpd (ownUpd (fun _ => (0 : Int32)) 0 v1) 1 la) T4.heap n0 (Nat.le_trans Z0 K4.1) FP4_1 FP4_2 hmx) hZ (hw _ (List.mem_of_getElem? (i := 31) rfl)) (hw _ (List.mem_of_getElem? (i := 4) rfl)) (by decide) (by decide)) q34a q34c (g := (mkF m 246 #[iv p0, iv p1, iv p2, iv p3, iv (1114111 : Int32), iv v1, iv v2, iv la, rv b4, iv (1 : Int32), iv v14, .unset] [(.ref b4)])) rfl (by rw [hml]; rfl) (Steps.refl _) (argsL := []) (rest := []) (lenOf own_pd6 rfl) rfl (by show 2 * 0 + _ ≤ _; exact Nat.le_of_eq rfl) (hb hby at_246) (fun _ _ => ⟨rfl, e15, (by decide : 2 + 2 ≤ _), (by decide : 3 + 4 ≤ _)⟩)
            dsimp only [Pt.U, Pt.locs, Pt.cells, Pt.slots] at X34 l34 y34 z34 st34 hQ34
            subst l34 y34 z34
            obtain ⟨b34, rfl, N34q, Kq34, sq34_b34, FP34_0⟩ := hQ34
            have N34 := Fr.app N15 N34q
            have K34 : Keep h0 T34.heap [] := K4.trans Kq34 all0
            have ne_b4_b34 : b4 ≠ b34 := Nat.ne_of_lt (Nat.lt_of_lt_of_le FP4_0.lt sq34_b34)
            have ne_ar_4_b34 : ar_4 ≠ b34 := Nat.ne_of_lt (Nat.lt_of_lt_of_le FP4_2.lt sq34_b34)
            have sz_b34 : h0.size ≤ b34 := Nat.le_trans K4.1 sq34_b34
            have G_b34 : n0 ≤ b34 := Nat.le_trans Z0 sz_b34
            have F35 : Exa Z T34.heap b4 "com/example/shapewright/shapewright/regex/CodePointSet" := FP4_0.keep Kq34
            have F36 : Fld Z T34.heap b4 "com/example/shapewright/shapewright/regex/CodePointSet" "ranges" "[I" (.ref ar_4) := FP4_1.keep Kq34 nin0
            have F37 : ownAI Z T34.heap ar_4 .int 2 (ownUpd (ownUpd (fun _ => (0 : Int32)) 0 v1) 1 la) := FP4_2.keep Kq34 nin0
            refine ownRun (T' := T34) (f' := (mkF m 249 #[iv p0, iv p1, iv p2, iv p3, iv (1114111 : Int32), iv v1, iv v2, iv la, rv b4, iv (1 : Int32), iv v14, .unset] [(.ref b34)])) st34 ?_
            refine ow_astore (q := 251) X34 hx (L' := #[iv p0, iv p1, iv p2, iv p3, iv (1114111 : Int32), iv v1, iv v2, iv la, rv b4, iv (1 : Int32), iv v14, rv b34]) (hb hby at_249) rfl rfl rfl ?_
            refine ow_iload (q := 253) X34 hx (hb hby at_251) rfl rfl ?_
            refine ow_iload (q := 255) X34 hx (hb hby at_253) rfl rfl ?_
            refine ow_icmpYes (q := 289) X34 hx (hb hby at_255) (Jvm.Free.XT.ii_ne_t (own_nmx hmx)) (by decide) (by decide) ?_
            refine ow_iload (q := 291) X34 hx (hb hby at_289) rfl rfl ?_
            refine ow_ifNo (q := 294) X34 hx (hb hby at_291) rfl (Jvm.Free.XT.i0_eq_f (by decide)) ?_
            refine ow_aload (q := 296) X34 hx (hb hby at_294) rfl rfl rfl ?_
            refine ownGo (T' := T34) (f' := (mkF m 297 #[iv p0, iv p1, iv p2, iv p3, iv (1114111 : Int32), iv v1, iv v2, iv la, rv b4, iv (1 : Int32), iv v14, rv b34] [(.int (2 : Int32))])) (ownLenI FP34_0 X34 hx hZ rfl (z := (2 : Int32)) (by decide) (g := (mkF m 296 #[iv p0, iv p1, iv p2, iv p3, iv (1114111 : Int32), iv v1, iv v2, iv la, rv b4, iv (1 : Int32), iv v14, rv b34] [(.ref b34)])) rfl rfl (hb hby at_296)) ?_
            refine ow_iconst (q := 298) X34 hx (2 : Int32) (hb hby at_297) rfl rfl ?_
            refine ow_icmpNo (q := 301) X34 hx (hb hby at_298) rfl (Jvm.Free.XT.ii_ne_f (by decide)) ?_
            refine ow_aload (q := 303) X34 hx (hb hby at_301) rfl rfl rfl ?_
            refine ow_iconst (q := 304) X34 hx (0 : Int32) (hb hby at_303) rfl rfl ?_
            refine ownGo (T' := T34) (f' := (mkF m 305 #[iv p0, iv p1, iv p2, iv p3, iv (1114111 : Int32), iv v1, iv v2, iv la, rv b4, iv (1 : Int32), iv v14, rv b34] [(.int v1)])) (ownIaload FP34_0 X34 hx hZ rfl (j := (0 : Int32)) (by unfold ownIn; decide) (g := (mkF m 304 #[iv p0, iv p1, iv p2, iv p3, iv (1114111 : Int32), iv v1, iv v2, iv la, rv b4, iv (1 : Int32), iv v14, rv b34] [(.int (0 : Int32)), (.ref b34)])) rfl rfl (hb hby at_304)) ?_
            refine ow_iload (q := 307) X34 hx (hb hby at_305) rfl rfl ?_
            refine ow_icmpNo (q := 310) X34 hx (hb hby at_307) rfl (Jvm.Free.XT.ii_ne_f rfl) ?_
            refine ow_aload (q := 312) X34 hx (hb hby at_310) rfl rfl rfl ?_
            refine ow_iconst (q := 313) X34 hx (1 : Int32) (hb hby at_312) rfl rfl ?_
            refine ownGo (T' := T34) (f' := (mkF m 314 #[iv p0, iv p1, iv p2, iv p3, iv (1114111 : Int32), iv v1, iv v2, iv la, rv b4, iv (1 : Int32), iv v14, rv b34] [(.int (la + (1 : Int32)))])) (ownIaload FP34_0 X34 hx hZ rfl (j := (1 : Int32)) (by unfold ownIn; decide) (g := (mkF m 313 #[iv p0, iv p1, iv p2, iv p3, iv (1114111 : Int32), iv v1, iv v2, iv la, rv b4, iv (1 : Int32), iv v14, rv b34] [(.int (1 : Int32)), (.ref b34)])) rfl rfl (hb hby at_313)) ?_
            refine ow_iload (q := 316) X34 hx (hb hby at_314) rfl rfl ?_
            refine ow_iconst (q := 317) X34 hx (1 : Int32) (hb hby at_316) rfl rfl ?_
            refine ow_iadd (q := 318) X34 hx _ (hb hby at_317) rfl rfl ?_
            refine ow_icmpNo (q := 321) X34 hx (hb hby at_318) rfl (Jvm.Free.XT.ii_ne_f rfl) ?_
            refine ow_iconst (q := 322) X34 hx (1 : Int32) (hb hby at_321) rfl rfl ?_
            refine ow_goto (q := 326) X34 hx (hb hby at_322) (by decide) (by decide) ?_
            refine ow_istore (q := 328) X34 hx (L' := #[iv p0, iv p1, iv p2, iv p3, iv (1114111 : Int32), iv v1, iv v2, iv la, rv b4, iv (1 : Int32), iv v14, rv b34]) (hb hby at_326) rfl rfl ?_
            refine ow_iload (q := 330) X34 hx (hb hby at_328) rfl rfl ?_
            refine ownRetN X34 hx (r := (1 : Int32)) (Or.inl rfl) Bd.returns (hb hby at_330) hlk (by decide) (by decide) (by decide) ?_
            exact ⟨rfl, N34⟩
          · refine ow_aload (q := 246) X15 hx (hb hby at_244) rfl rfl rfl ?_
            obtain ⟨cq38, kq38, q38a, q38b, q38c⟩ := isOf hZ e15 FP4_0
            obtain ⟨_, _, ⟨T38, L38, k38, n38⟩, -, X38, ⟨Lc38, hQ38, l38, y38, z38⟩, st38⟩ := X15.virtualBack hx (y := (⟨"com/example/shapewright/shapewright/regex/CodePointSet", "edges", "()[I"⟩ : MethodName)) (z := (⟨"com/example/shapewright/shapewright/regex/CodePointSet", "edges", "()[I"⟩ : MethodName)) hown (mvT hZ (hw _ (List.mem_of_getElem? (i := 27) rfl))) (mvT hZ (hw _ (List.mem_of_getElem? (i := 28) rfl))) (notFace_of_selects (args := #[]) (mvT hZ (hw _ (List.mem_of_getElem? (i := 30) rfl)))) (mvT hZ (hw _ (List.mem_of_getElem? (i := 30) rfl))) (mvT hZ (hw _ (List.mem_of_getElem? (i := 29) rfl))) (by decide) (backOf (W := 0) (rm_edges_1 l Z av0 hw [] b4 ar_4 (ownUpd (ownUpd (fun _ => (0 : Int32)) 0 v1) 1 la) T4.heap n0 (Nat.le_trans Z0 K4.1) FP4_1 FP4_2 hmx) hZ (hw _ (List.mem_of_getElem? (i := 31) rfl)) (hw _ (List.mem_of_getElem? (i := 4) rfl)) (by decide) (by decide)) q38a q38c (g := (mkF m 246 #[iv p0, iv p1, iv p2, iv p3, iv (1114111 : Int32), iv v1, iv v2, iv la, rv b4, iv (1 : Int32), iv v14, .unset] [(.ref b4)])) rfl (by rw [hml]; rfl) (Steps.refl _) (argsL := []) (rest := []) (lenOf own_pd6 rfl) rfl (by show 2 * 0 + _ ≤ _; exact Nat.le_of_eq rfl) (hb hby at_246) (fun _ _ => ⟨rfl, e15, (by decide : 2 + 2 ≤ _), (by decide : 3 + 3 ≤ _)⟩)
            dsimp only [Pt.U, Pt.locs, Pt.cells, Pt.slots] at X38 l38 y38 z38 st38 hQ38
            subst l38 y38 z38
            obtain ⟨b38, rfl, N38q, Kq38, sq38_b38, FP38_0⟩ := hQ38
            have N38 := Fr.app N15 N38q
            have K38 : Keep h0 T38.heap [] := K4.trans Kq38 all0
            have ne_b4_b38 : b4 ≠ b38 := Nat.ne_of_lt (Nat.lt_of_lt_of_le FP4_0.lt sq38_b38)
            have ne_ar_4_b38 : ar_4 ≠ b38 := Nat.ne_of_lt (Nat.lt_of_lt_of_le FP4_2.lt sq38_b38)
            have sz_b38 : h0.size ≤ b38 := Nat.le_trans K4.1 sq38_b38
            have G_b38 : n0 ≤ b38 := Nat.le_trans Z0 sz_b38
            have F39 : Exa Z T38.heap b4 "com/example/shapewright/shapewright/regex/CodePointSet" := FP4_0.keep Kq38
            have F40 : Fld Z T38.heap b4 "com/example/shapewright/shapewright/regex/CodePointSet" "ranges" "[I" (.ref ar_4) := FP4_1.keep Kq38 nin0
            have F41 : ownAI Z T38.heap ar_4 .int 2 (ownUpd (ownUpd (fun _ => (0 : Int32)) 0 v1) 1 la) := FP4_2.keep Kq38 nin0
            refine ownRun (T' := T38) (f' := (mkF m 249 #[iv p0, iv p1, iv p2, iv p3, iv (1114111 : Int32), iv v1, iv v2, iv la, rv b4, iv (1 : Int32), iv v14, .unset] [(.ref b38)])) st38 ?_
            refine ow_astore (q := 251) X38 hx (L' := #[iv p0, iv p1, iv p2, iv p3, iv (1114111 : Int32), iv v1, iv v2, iv la, rv b4, iv (1 : Int32), iv v14, rv b38]) (hb hby at_249) rfl rfl rfl ?_
            refine ow_iload (q := 253) X38 hx (hb hby at_251) rfl rfl ?_
            refine ow_iload (q := 255) X38 hx (hb hby at_253) rfl rfl ?_
            refine ow_icmpNo (q := 258) X38 hx (hb hby at_255) rfl (Jvm.Free.XT.ii_ne_f (own_mx hl hmx)) ?_
            refine ow_iload (q := 260) X38 hx (hb hby at_258) rfl rfl ?_
            refine ow_ifNo (q := 263) X38 hx (hb hby at_260) rfl (Jvm.Free.XT.i0_eq_f (by decide)) ?_
            refine ow_aload (q := 265) X38 hx (hb hby at_263) rfl rfl rfl ?_
            refine ownGo (T' := T38) (f' := (mkF m 266 #[iv p0, iv p1, iv p2, iv p3, iv (1114111 : Int32), iv v1, iv v2, iv la, rv b4, iv (1 : Int32), iv v14, rv b38] [(.int (1 : Int32))])) (ownLenI FP38_0 X38 hx hZ rfl (z := (1 : Int32)) (by decide) (g := (mkF m 265 #[iv p0, iv p1, iv p2, iv p3, iv (1114111 : Int32), iv v1, iv v2, iv la, rv b4, iv (1 : Int32), iv v14, rv b38] [(.ref b38)])) rfl rfl (hb hby at_265)) ?_
            refine ow_iconst (q := 267) X38 hx (1 : Int32) (hb hby at_266) rfl rfl ?_
            refine ow_icmpNo (q := 270) X38 hx (hb hby at_267) rfl (Jvm.Free.XT.ii_ne_f (by decide)) ?_
            refine ow_aload (q := 272) X38 hx (hb hby at_270) rfl rfl rfl ?_
            refine ow_iconst (q := 273) X38 hx (0 : Int32) (hb hby at_272) rfl rfl ?_
            refine ownGo (T' := T38) (f' := (mkF m 274 #[iv p0, iv p1, iv p2, iv p3, iv (1114111 : Int32), iv v1, iv v2, iv la, rv b4, iv (1 : Int32), iv v14, rv b38] [(.int v1)])) (ownIaload FP38_0 X38 hx hZ rfl (j := (0 : Int32)) (by unfold ownIn; decide) (g := (mkF m 273 #[iv p0, iv p1, iv p2, iv p3, iv (1114111 : Int32), iv v1, iv v2, iv la, rv b4, iv (1 : Int32), iv v14, rv b38] [(.int (0 : Int32)), (.ref b38)])) rfl rfl (hb hby at_273)) ?_
            refine ow_iload (q := 276) X38 hx (hb hby at_274) rfl rfl ?_
            refine ow_icmpNo (q := 279) X38 hx (hb hby at_276) rfl (Jvm.Free.XT.ii_ne_f rfl) ?_
            refine ow_iconst (q := 280) X38 hx (1 : Int32) (hb hby at_279) rfl rfl ?_
            refine ow_goto (q := 284) X38 hx (hb hby at_280) (by decide) (by decide) ?_
            refine ow_istore (q := 286) X38 hx (L' := #[iv p0, iv p1, iv p2, iv p3, iv (1114111 : Int32), iv v1, iv v2, iv la, rv b4, iv (1 : Int32), iv v14, rv b38]) (hb hby at_284) rfl rfl ?_
            refine ow_goto (q := 328) X38 hx (hb hby at_286) (by decide) (by decide) ?_
            refine ow_iload (q := 330) X38 hx (hb hby at_328) rfl rfl ?_
            refine ownRetN X38 hx (r := (1 : Int32)) (Or.inl rfl) Bd.returns (hb hby at_330) hlk (by decide) (by decide) (by decide) ?_
            exact ⟨rfl, N38⟩
    · refine ow_icmpNo (q := 171) X12 hx (hb hby at_168) rfl (Jvm.Free.XT.ii_gt_f hc168_13) ?_
      refine ow_iloadN (q := 172) X12 hx (hb hby at_171) rfl rfl ?_
      refine ow_iload (q := 174) X12 hx (hb hby at_172) rfl rfl ?_
      by_cases hc174_42 : la < p3
      · refine ow_icmpYes (q := 181) X12 hx (hb hby at_174) (Jvm.Free.XT.ii_gt_t hc174_42) (by decide) (by decide) ?_
        refine ow_iconst (q := 182) X12 hx (0 : Int32) (hb hby at_181) rfl rfl ?_
        refine ow_icmpNo (q := 185) X12 hx (hb hby at_182) rfl (Jvm.Free.XT.ii_ne_f (by simp [own_cont, hc168_13, hc174_42])) ?_
        refine ow_iconst (q := 186) X12 hx (1 : Int32) (hb hby at_185) rfl rfl ?_
        refine ow_goto (q := 190) X12 hx (hb hby at_186) (by decide) (by decide) ?_
        refine ow_istore (q := 192) X12 hx (L' := #[iv p0, iv p1, iv p2, iv p3, iv (1114111 : Int32), iv v1, iv v2, iv la, rv b4, iv (1 : Int32), .unset, .unset]) (hb hby at_190) rfl rfl ?_
        refine ow_iloadN (q := 193) X12 hx (hb hby at_192) rfl rfl ?_
        refine ownGo (T' := T12) (f' := (mkF m 195 #[iv p0, iv p1, iv p2, iv p3, iv (1114111 : Int32), iv v1, iv v2, iv la, rv b4, iv (1 : Int32), .unset, .unset] [(.int (2147483647 : Int32)), (.int p3)])) (X12.ldcInt hx hown (mvT hZ (hw _ (List.mem_of_getElem? (i := 1) rfl))) (g := (mkF m 193 #[iv p0, iv p1, iv p2, iv p3, iv (1114111 : Int32), iv v1, iv v2, iv la, rv b4, iv (1 : Int32), .unset, .unset] [(.int p3)])) rfl (hb hby at_193)) ?_
        refine ow_iand (q := 196) X12 hx _ (hb hby at_195) rfl rfl ?_
        refine ow_iload (q := 198) X12 hx (hb hby at_196) rfl rfl ?_
        refine ow_iconst (q := 199) X12 hx (2 : Int32) (hb hby at_198) rfl rfl ?_
        refine ow_iadd (q := 200) X12 hx (1114113 : Int32) (hb hby at_199) rfl (by decide) ?_
        refine ow_irem (q := 201) X12 hx _ (hb hby at_200) rfl (by decide) rfl ?_
        generalize hv_v43 : ((p3 &&& (2147483647 : Int32)) % (1114113 : Int32)) = v43
        refine ow_istore (q := 203) X12 hx (L' := #[iv p0, iv p1, iv p2, iv p3, iv (1114111 : Int32), iv v1, iv v2, iv la, rv b4, iv (1 : Int32), iv v43, .unset]) (hb hby at_201) rfl rfl ?_
        refine ow_iload (q := 205) X12 hx (hb hby at_203) rfl rfl ?_
        refine ow_ifNo (q := 208) X12 hx (hb hby at_205) rfl (Jvm.Free.XT.i0_eq_f (by decide)) ?_
        refine ow_aload (q := 210) X12 hx (hb hby at_208) rfl rfl rfl ?_
        refine ow_iload (q := 212) X12 hx (hb hby at_210) rfl rfl ?_
        obtain ⟨cq44, kq44, q44a, q44b, q44c⟩ := isOf hZ e12 FP4_0
        obtain ⟨_, _, ⟨T44, L44, k44, n44⟩, -, X44, ⟨Lc44, hQ44, l44, y44, z44⟩, st44⟩ := X12.virtualBack hx (y := (⟨"com/example/shapewright/shapewright/regex/CodePointSet", "contains", "(I)Z"⟩ : MethodName)) (z := (⟨"com/example/shapewright/shapewright/regex/CodePointSet", "contains", "(I)Z"⟩ : MethodName)) hown (mvT hZ (hw _ (List.mem_of_getElem? (i := 22) rfl))) (mvT hZ (hw _ (List.mem_of_getElem? (i := 23) rfl))) (notFace_of_selects (args := #[]) (mvT hZ (hw _ (List.mem_of_getElem? (i := 25) rfl)))) (mvT hZ (hw _ (List.mem_of_getElem? (i := 25) rfl))) (mvT hZ (hw _ (List.mem_of_getElem? (i := 24) rfl))) (by decide) (backOf (W := 0) (rm_contains l Z av0 hw [] b4 v43 ar_4 (ownUpd (ownUpd (fun _ => (0 : Int32)) 0 v1) 1 la) T4.heap n0 (Nat.le_trans Z0 K4.1) FP4_1 FP4_2) hZ (hw _ (List.mem_of_getElem? (i := 26) rfl)) (hw _ (List.mem_of_getElem? (i := 4) rfl)) (by decide) (by decide)) q44a q44c (g := (mkF m 212 #[iv p0, iv p1, iv p2, iv p3, iv (1114111 : Int32), iv v1, iv v2, iv la, rv b4, iv (1 : Int32), iv v43, .unset] [(.int v43), (.ref b4)])) rfl (by rw [hml]; rfl) (Steps.refl _) (argsL := [(.int v43)]) (rest := []) (lenOf own_pd5 rfl) rfl (by show 2 * 0 + _ ≤ _; exact Nat.le_of_eq rfl) (hb hby at_212) (fun _ _ => ⟨rfl, e12, (by decide : 2 + 0 ≤ _), (by decide : 3 + 0 ≤ _)⟩)
        dsimp only [Pt.U, Pt.locs, Pt.cells, Pt.slots] at X44 l44 y44 z44 st44 hQ44
        subst l44 y44 z44
        obtain ⟨rfl, N44q, e44⟩ := hQ44
        have N44 := Fr.app N12 N44q
        refine ownRun (T' := T44) (f' := (mkF m 215 #[iv p0, iv p1, iv p2, iv p3, iv (1114111 : Int32), iv v1, iv v2, iv la, rv b4, iv (1 : Int32), iv v43, .unset] [(.int (own_cont v1 la v43))])) st44 ?_
        refine ow_iload (q := 217) X44 hx (hb hby at_215) rfl rfl ?_
        refine ow_iload (q := 219) X44 hx (hb hby at_217) rfl rfl ?_
        by_cases hc219_45 : v43 < v1
        · refine ow_icmpYes (q := 233) X44 hx (hb hby at_219) (Jvm.Free.XT.ii_gt_t hc219_45) (by decide) (by decide) ?_
          refine ow_iconst (q := 234) X44 hx (0 : Int32) (hb hby at_233) rfl rfl ?_
          refine ow_icmpNo (q := 237) X44 hx (hb hby at_234) rfl (Jvm.Free.XT.ii_ne_f (by simp [own_cont, hc219_45])) ?_
          refine ow_iconst (q := 238) X44 hx (1 : Int32) (hb hby at_237) rfl rfl ?_
          refine ow_goto (q := 242) X44 hx (hb hby at_238) (by decide) (by decide) ?_
          refine ow_istore (q := 244) X44 hx (L' := #[iv p0, iv p1, iv p2, iv p3, iv (1114111 : Int32), iv v1, iv v2, iv la, rv b4, iv (1 : Int32), iv v43, .unset]) (hb hby at_242) rfl rfl ?_
          by_cases hmx : la < (1114111 : Int32)
          · refine ow_aload (q := 246) X44 hx (hb hby at_244) rfl rfl rfl ?_
            obtain ⟨cq46, kq46, q46a, q46b, q46c⟩ := isOf hZ e44 FP4_0
            obtain ⟨_, _, ⟨T46, L46, k46, n46⟩, -, X46, ⟨Lc46, hQ46, l46, y46, z46⟩, st46⟩ := X44.virtualBack hx (y := (⟨"com/example/shapewright/shapewright/regex/CodePointSet", "edges", "()[I"⟩ : MethodName)) (z := (⟨"com/example/shapewright/shapewright/regex/CodePointSet", "edges", "()[I"⟩ : MethodName)) hown (mvT hZ (hw _ (List.mem_of_getElem? (i := 27) rfl))) (mvT hZ (hw _ (List.mem_of_getElem? (i := 28) rfl))) (notFace_of_selects (args := #[]) (mvT hZ (hw _ (List.mem_of_getElem? (i := 30) rfl)))) (mvT hZ (hw _ (List.mem_of_getElem? (i := 30) rfl))) (mvT hZ (hw _ (List.mem_of_getElem? (i := 29) rfl))) (by decide) (backOf (W := 0) (rm_edges_2 l Z av0 hw [] b4 ar_4 (ownUpd (ownUpd (fun _ => (0 : Int32)) 0 v1) 1 la) T4.heap n0 (Nat.le_trans Z0 K4.1) FP4_1 FP4_2 hmx) hZ (hw _ (List.mem_of_getElem? (i := 31) rfl)) (hw _ (List.mem_of_getElem? (i := 4) rfl)) (by decide) (by decide)) q46a q46c (g := (mkF m 246 #[iv p0, iv p1, iv p2, iv p3, iv (1114111 : Int32), iv v1, iv v2, iv la, rv b4, iv (1 : Int32), iv v43, .unset] [(.ref b4)])) rfl (by rw [hml]; rfl) (Steps.refl _) (argsL := []) (rest := []) (lenOf own_pd6 rfl) rfl (by show 2 * 0 + _ ≤ _; exact Nat.le_of_eq rfl) (hb hby at_246) (fun _ _ => ⟨rfl, e44, (by decide : 2 + 2 ≤ _), (by decide : 3 + 4 ≤ _)⟩)
            dsimp only [Pt.U, Pt.locs, Pt.cells, Pt.slots] at X46 l46 y46 z46 st46 hQ46
            subst l46 y46 z46
            obtain ⟨b46, rfl, N46q, Kq46, sq46_b46, FP46_0⟩ := hQ46
            have N46 := Fr.app N44 N46q
            have K46 : Keep h0 T46.heap [] := K4.trans Kq46 all0
            have ne_b4_b46 : b4 ≠ b46 := Nat.ne_of_lt (Nat.lt_of_lt_of_le FP4_0.lt sq46_b46)
            have ne_ar_4_b46 : ar_4 ≠ b46 := Nat.ne_of_lt (Nat.lt_of_lt_of_le FP4_2.lt sq46_b46)
            have sz_b46 : h0.size ≤ b46 := Nat.le_trans K4.1 sq46_b46
            have G_b46 : n0 ≤ b46 := Nat.le_trans Z0 sz_b46
            have F47 : Exa Z T46.heap b4 "com/example/shapewright/shapewright/regex/CodePointSet" := FP4_0.keep Kq46
            have F48 : Fld Z T46.heap b4 "com/example/shapewright/shapewright/regex/CodePointSet" "ranges" "[I" (.ref ar_4) := FP4_1.keep Kq46 nin0
            have F49 : ownAI Z T46.heap ar_4 .int 2 (ownUpd (ownUpd (fun _ => (0 : Int32)) 0 v1) 1 la) := FP4_2.keep Kq46 nin0
            refine ownRun (T' := T46) (f' := (mkF m 249 #[iv p0, iv p1, iv p2, iv p3, iv (1114111 : Int32), iv v1, iv v2, iv la, rv b4, iv (1 : Int32), iv v43, .unset] [(.ref b46)])) st46 ?_
            refine ow_astore (q := 251) X46 hx (L' := #[iv p0, iv p1, iv p2, iv p3, iv (1114111 : Int32), iv v1, iv v2, iv la, rv b4, iv (1 : Int32), iv v43, rv b46]) (hb hby at_249) rfl rfl rfl ?_
            refine ow_iload (q := 253) X46 hx (hb hby at_251) rfl rfl ?_
            refine ow_iload (q := 255) X46 hx (hb hby at_253) rfl rfl ?_
            refine ow_icmpYes (q := 289) X46 hx (hb hby at_255) (Jvm.Free.XT.ii_ne_t (own_nmx hmx)) (by decide) (by decide) ?_
            refine ow_iload (q := 291) X46 hx (hb hby at_289) rfl rfl ?_
            refine ow_ifNo (q := 294) X46 hx (hb hby at_291) rfl (Jvm.Free.XT.i0_eq_f (by decide)) ?_
            refine ow_aload (q := 296) X46 hx (hb hby at_294) rfl rfl rfl ?_
            refine ownGo (T' := T46) (f' := (mkF m 297 #[iv p0, iv p1, iv p2, iv p3, iv (1114111 : Int32), iv v1, iv v2, iv la, rv b4, iv (1 : Int32), iv v43, rv b46] [(.int (2 : Int32))])) (ownLenI FP46_0 X46 hx hZ rfl (z := (2 : Int32)) (by decide) (g := (mkF m 296 #[iv p0, iv p1, iv p2, iv p3, iv (1114111 : Int32), iv v1, iv v2, iv la, rv b4, iv (1 : Int32), iv v43, rv b46] [(.ref b46)])) rfl rfl (hb hby at_296)) ?_
            refine ow_iconst (q := 298) X46 hx (2 : Int32) (hb hby at_297) rfl rfl ?_
            refine ow_icmpNo (q := 301) X46 hx (hb hby at_298) rfl (Jvm.Free.XT.ii_ne_f (by decide)) ?_
            refine ow_aload (q := 303) X46 hx (hb hby at_301) rfl rfl rfl ?_
            refine ow_iconst (q := 304) X46 hx (0 : Int32) (hb hby at_303) rfl rfl ?_
            refine ownGo (T' := T46) (f' := (mkF m 305 #[iv p0, iv p1, iv p2, iv p3, iv (1114111 : Int32), iv v1, iv v2, iv la, rv b4, iv (1 : Int32), iv v43, rv b46] [(.int v1)])) (ownIaload FP46_0 X46 hx hZ rfl (j := (0 : Int32)) (by unfold ownIn; decide) (g := (mkF m 304 #[iv p0, iv p1, iv p2, iv p3, iv (1114111 : Int32), iv v1, iv v2, iv la, rv b4, iv (1 : Int32), iv v43, rv b46] [(.int (0 : Int32)), (.ref b46)])) rfl rfl (hb hby at_304)) ?_
            refine ow_iload (q := 307) X46 hx (hb hby at_305) rfl rfl ?_
            refine ow_icmpNo (q := 310) X46 hx (hb hby at_307) rfl (Jvm.Free.XT.ii_ne_f rfl) ?_
            refine ow_aload (q := 312) X46 hx (hb hby at_310) rfl rfl rfl ?_
            refine ow_iconst (q := 313) X46 hx (1 : Int32) (hb hby at_312) rfl rfl ?_
            refine ownGo (T' := T46) (f' := (mkF m 314 #[iv p0, iv p1, iv p2, iv p3, iv (1114111 : Int32), iv v1, iv v2, iv la, rv b4, iv (1 : Int32), iv v43, rv b46] [(.int (la + (1 : Int32)))])) (ownIaload FP46_0 X46 hx hZ rfl (j := (1 : Int32)) (by unfold ownIn; decide) (g := (mkF m 313 #[iv p0, iv p1, iv p2, iv p3, iv (1114111 : Int32), iv v1, iv v2, iv la, rv b4, iv (1 : Int32), iv v43, rv b46] [(.int (1 : Int32)), (.ref b46)])) rfl rfl (hb hby at_313)) ?_
            refine ow_iload (q := 316) X46 hx (hb hby at_314) rfl rfl ?_
            refine ow_iconst (q := 317) X46 hx (1 : Int32) (hb hby at_316) rfl rfl ?_
            refine ow_iadd (q := 318) X46 hx _ (hb hby at_317) rfl rfl ?_
            refine ow_icmpNo (q := 321) X46 hx (hb hby at_318) rfl (Jvm.Free.XT.ii_ne_f rfl) ?_
            refine ow_iconst (q := 322) X46 hx (1 : Int32) (hb hby at_321) rfl rfl ?_
            refine ow_goto (q := 326) X46 hx (hb hby at_322) (by decide) (by decide) ?_
            refine ow_istore (q := 328) X46 hx (L' := #[iv p0, iv p1, iv p2, iv p3, iv (1114111 : Int32), iv v1, iv v2, iv la, rv b4, iv (1 : Int32), iv v43, rv b46]) (hb hby at_326) rfl rfl ?_
            refine ow_iload (q := 330) X46 hx (hb hby at_328) rfl rfl ?_
            refine ownRetN X46 hx (r := (1 : Int32)) (Or.inl rfl) Bd.returns (hb hby at_330) hlk (by decide) (by decide) (by decide) ?_
            exact ⟨rfl, N46⟩
          · refine ow_aload (q := 246) X44 hx (hb hby at_244) rfl rfl rfl ?_
            obtain ⟨cq50, kq50, q50a, q50b, q50c⟩ := isOf hZ e44 FP4_0
            obtain ⟨_, _, ⟨T50, L50, k50, n50⟩, -, X50, ⟨Lc50, hQ50, l50, y50, z50⟩, st50⟩ := X44.virtualBack hx (y := (⟨"com/example/shapewright/shapewright/regex/CodePointSet", "edges", "()[I"⟩ : MethodName)) (z := (⟨"com/example/shapewright/shapewright/regex/CodePointSet", "edges", "()[I"⟩ : MethodName)) hown (mvT hZ (hw _ (List.mem_of_getElem? (i := 27) rfl))) (mvT hZ (hw _ (List.mem_of_getElem? (i := 28) rfl))) (notFace_of_selects (args := #[]) (mvT hZ (hw _ (List.mem_of_getElem? (i := 30) rfl)))) (mvT hZ (hw _ (List.mem_of_getElem? (i := 30) rfl))) (mvT hZ (hw _ (List.mem_of_getElem? (i := 29) rfl))) (by decide) (backOf (W := 0) (rm_edges_1 l Z av0 hw [] b4 ar_4 (ownUpd (ownUpd (fun _ => (0 : Int32)) 0 v1) 1 la) T4.heap n0 (Nat.le_trans Z0 K4.1) FP4_1 FP4_2 hmx) hZ (hw _ (List.mem_of_getElem? (i := 31) rfl)) (hw _ (List.mem_of_getElem? (i := 4) rfl)) (by decide) (by decide)) q50a q50c (g := (mkF m 246 #[iv p0, iv p1, iv p2, iv p3, iv (1114111 : Int32), iv v1, iv v2, iv la, rv b4, iv (1 : Int32), iv v43, .unset] [(.ref b4)])) rfl (by rw [hml]; rfl) (Steps.refl _) (argsL := []) (rest := []) (lenOf own_pd6 rfl) rfl (by show 2 * 0 + _ ≤ _; exact Nat.le_of_eq rfl) (hb hby at_246) (fun _ _ => ⟨rfl, e44, (by decide : 2 + 2 ≤ _), (by decide : 3 + 3 ≤ _)⟩)
            dsimp only [Pt.U, Pt.locs, Pt.cells, Pt.slots] at X50 l50 y50 z50 st50 hQ50
            subst l50 y50 z50
            obtain ⟨b50, rfl, N50q, Kq50, sq50_b50, FP50_0⟩ := hQ50
            have N50 := Fr.app N44 N50q
            have K50 : Keep h0 T50.heap [] := K4.trans Kq50 all0
            have ne_b4_b50 : b4 ≠ b50 := Nat.ne_of_lt (Nat.lt_of_lt_of_le FP4_0.lt sq50_b50)
            have ne_ar_4_b50 : ar_4 ≠ b50 := Nat.ne_of_lt (Nat.lt_of_lt_of_le FP4_2.lt sq50_b50)
            have sz_b50 : h0.size ≤ b50 := Nat.le_trans K4.1 sq50_b50
            have G_b50 : n0 ≤ b50 := Nat.le_trans Z0 sz_b50
            have F51 : Exa Z T50.heap b4 "com/example/shapewright/shapewright/regex/CodePointSet" := FP4_0.keep Kq50
            have F52 : Fld Z T50.heap b4 "com/example/shapewright/shapewright/regex/CodePointSet" "ranges" "[I" (.ref ar_4) := FP4_1.keep Kq50 nin0
            have F53 : ownAI Z T50.heap ar_4 .int 2 (ownUpd (ownUpd (fun _ => (0 : Int32)) 0 v1) 1 la) := FP4_2.keep Kq50 nin0
            refine ownRun (T' := T50) (f' := (mkF m 249 #[iv p0, iv p1, iv p2, iv p3, iv (1114111 : Int32), iv v1, iv v2, iv la, rv b4, iv (1 : Int32), iv v43, .unset] [(.ref b50)])) st50 ?_
            refine ow_astore (q := 251) X50 hx (L' := #[iv p0, iv p1, iv p2, iv p3, iv (1114111 : Int32), iv v1, iv v2, iv la, rv b4, iv (1 : Int32), iv v43, rv b50]) (hb hby at_249) rfl rfl rfl ?_
            refine ow_iload (q := 253) X50 hx (hb hby at_251) rfl rfl ?_
            refine ow_iload (q := 255) X50 hx (hb hby at_253) rfl rfl ?_
            refine ow_icmpNo (q := 258) X50 hx (hb hby at_255) rfl (Jvm.Free.XT.ii_ne_f (own_mx hl hmx)) ?_
            refine ow_iload (q := 260) X50 hx (hb hby at_258) rfl rfl ?_
            refine ow_ifNo (q := 263) X50 hx (hb hby at_260) rfl (Jvm.Free.XT.i0_eq_f (by decide)) ?_
            refine ow_aload (q := 265) X50 hx (hb hby at_263) rfl rfl rfl ?_
            refine ownGo (T' := T50) (f' := (mkF m 266 #[iv p0, iv p1, iv p2, iv p3, iv (1114111 : Int32), iv v1, iv v2, iv la, rv b4, iv (1 : Int32), iv v43, rv b50] [(.int (1 : Int32))])) (ownLenI FP50_0 X50 hx hZ rfl (z := (1 : Int32)) (by decide) (g := (mkF m 265 #[iv p0, iv p1, iv p2, iv p3, iv (1114111 : Int32), iv v1, iv v2, iv la, rv b4, iv (1 : Int32), iv v43, rv b50] [(.ref b50)])) rfl rfl (hb hby at_265)) ?_
            refine ow_iconst (q := 267) X50 hx (1 : Int32) (hb hby at_266) rfl rfl ?_
            refine ow_icmpNo (q := 270) X50 hx (hb hby at_267) rfl (Jvm.Free.XT.ii_ne_f (by decide)) ?_
            refine ow_aload (q := 272) X50 hx (hb hby at_270) rfl rfl rfl ?_
            refine ow_iconst (q := 273) X50 hx (0 : Int32) (hb hby at_272) rfl rfl ?_
            refine ownGo (T' := T50) (f' := (mkF m 274 #[iv p0, iv p1, iv p2, iv p3, iv (1114111 : Int32), iv v1, iv v2, iv la, rv b4, iv (1 : Int32), iv v43, rv b50] [(.int v1)])) (ownIaload FP50_0 X50 hx hZ rfl (j := (0 : Int32)) (by unfold ownIn; decide) (g := (mkF m 273 #[iv p0, iv p1, iv p2, iv p3, iv (1114111 : Int32), iv v1, iv v2, iv la, rv b4, iv (1 : Int32), iv v43, rv b50] [(.int (0 : Int32)), (.ref b50)])) rfl rfl (hb hby at_273)) ?_
            refine ow_iload (q := 276) X50 hx (hb hby at_274) rfl rfl ?_
            refine ow_icmpNo (q := 279) X50 hx (hb hby at_276) rfl (Jvm.Free.XT.ii_ne_f rfl) ?_
            refine ow_iconst (q := 280) X50 hx (1 : Int32) (hb hby at_279) rfl rfl ?_
            refine ow_goto (q := 284) X50 hx (hb hby at_280) (by decide) (by decide) ?_
            refine ow_istore (q := 286) X50 hx (L' := #[iv p0, iv p1, iv p2, iv p3, iv (1114111 : Int32), iv v1, iv v2, iv la, rv b4, iv (1 : Int32), iv v43, rv b50]) (hb hby at_284) rfl rfl ?_
            refine ow_goto (q := 328) X50 hx (hb hby at_286) (by decide) (by decide) ?_
            refine ow_iload (q := 330) X50 hx (hb hby at_328) rfl rfl ?_
            refine ownRetN X50 hx (r := (1 : Int32)) (Or.inl rfl) Bd.returns (hb hby at_330) hlk (by decide) (by decide) (by decide) ?_
            exact ⟨rfl, N50⟩
        · refine ow_icmpNo (q := 222) X44 hx (hb hby at_219) rfl (Jvm.Free.XT.ii_gt_f hc219_45) ?_
          refine ow_iload (q := 224) X44 hx (hb hby at_222) rfl rfl ?_
          refine ow_iload (q := 226) X44 hx (hb hby at_224) rfl rfl ?_
          by_cases hc226_54 : la < v43
          · refine ow_icmpYes (q := 233) X44 hx (hb hby at_226) (Jvm.Free.XT.ii_gt_t hc226_54) (by decide) (by decide) ?_
            refine ow_iconst (q := 234) X44 hx (0 : Int32) (hb hby at_233) rfl rfl ?_
            refine ow_icmpNo (q := 237) X44 hx (hb hby at_234) rfl (Jvm.Free.XT.ii_ne_f (by simp [own_cont, hc219_45, hc226_54])) ?_
            refine ow_iconst (q := 238) X44 hx (1 : Int32) (hb hby at_237) rfl rfl ?_
            refine ow_goto (q := 242) X44 hx (hb hby at_238) (by decide) (by decide) ?_
            refine ow_istore (q := 244) X44 hx (L' := #[iv p0, iv p1, iv p2, iv p3, iv (1114111 : Int32), iv v1, iv v2, iv la, rv b4, iv (1 : Int32), iv v43, .unset]) (hb hby at_242) rfl rfl ?_
            by_cases hmx : la < (1114111 : Int32)
            · refine ow_aload (q := 246) X44 hx (hb hby at_244) rfl rfl rfl ?_
              obtain ⟨cq55, kq55, q55a, q55b, q55c⟩ := isOf hZ e44 FP4_0
              obtain ⟨_, _, ⟨T55, L55, k55, n55⟩, -, X55, ⟨Lc55, hQ55, l55, y55, z55⟩, st55⟩ := X44.virtualBack hx (y := (⟨"com/example/shapewright/shapewright/regex/CodePointSet", "edges", "()[I"⟩ : MethodName)) (z := (⟨"com/example/shapewright/shapewright/regex/CodePointSet", "edges", "()[I"⟩ : MethodName)) hown (mvT hZ (hw _ (List.mem_of_getElem? (i := 27) rfl))) (mvT hZ (hw _ (List.mem_of_getElem? (i := 28) rfl))) (notFace_of_selects (args := #[]) (mvT hZ (hw _ (List.mem_of_getElem? (i := 30) rfl)))) (mvT hZ (hw _ (List.mem_of_getElem? (i := 30) rfl))) (mvT hZ (hw _ (List.mem_of_getElem? (i := 29) rfl))) (by decide) (backOf (W := 0) (rm_edges_2 l Z av0 hw [] b4 ar_4 (ownUpd (ownUpd (fun _ => (0 : Int32)) 0 v1) 1 la) T4.heap n0 (Nat.le_trans Z0 K4.1) FP4_1 FP4_2 hmx) hZ (hw _ (List.mem_of_getElem? (i := 31) rfl)) (hw _ (List.mem_of_getElem? (i := 4) rfl)) (by decide) (by decide)) q55a q55c (g := (mkF m 246 #[iv p0, iv p1, iv p2, iv p3, iv (1114111 : Int32), iv v1, iv v2, iv la, rv b4, iv (1 : Int32), iv v43, .unset] [(.ref b4)])) rfl (by rw [hml]; rfl) (Steps.refl _) (argsL := []) (rest := []) (lenOf own_pd6 rfl) rfl (by show 2 * 0 + _ ≤ _; exact Nat.le_of_eq rfl) (hb hby at_246) (fun _ _ => ⟨rfl, e44, (by decide : 2 + 2 ≤ _), (by decide : 3 + 4 ≤ _)⟩)
              dsimp only [Pt.U, Pt.locs, Pt.cells, Pt.slots] at X55 l55 y55 z55 st55 hQ55
              subst l55 y55 z55
              obtain ⟨b55, rfl, N55q, Kq55, sq55_b55, FP55_0⟩ := hQ55
              have N55 := Fr.app N44 N55q
              have K55 : Keep h0 T55.heap [] := K4.trans Kq55 all0
              have ne_b4_b55 : b4 ≠ b55 := Nat.ne_of_lt (Nat.lt_of_lt_of_le FP4_0.lt sq55_b55)
              have ne_ar_4_b55 : ar_4 ≠ b55 := Nat.ne_of_lt (Nat.lt_of_lt_of_le FP4_2.lt sq55_b55)
              have sz_b55 : h0.size ≤ b55 := Nat.le_trans K4.1 sq55_b55
              have G_b55 : n0 ≤ b55 := Nat.le_trans Z0 sz_b55
              have F56 : Exa Z T55.heap b4 "com/example/shapewright/shapewright/regex/CodePointSet" := FP4_0.keep Kq55
              have F57 : Fld Z T55.heap b4 "com/example/shapewright/shapewright/regex/CodePointSet" "ranges" "[I" (.ref ar_4) := FP4_1.keep Kq55 nin0
              have F58 : ownAI Z T55.heap ar_4 .int 2 (ownUpd (ownUpd (fun _ => (0 : Int32)) 0 v1) 1 la) := FP4_2.keep Kq55 nin0
              refine ownRun (T' := T55) (f' := (mkF m 249 #[iv p0, iv p1, iv p2, iv p3, iv (1114111 : Int32), iv v1, iv v2, iv la, rv b4, iv (1 : Int32), iv v43, .unset] [(.ref b55)])) st55 ?_
              refine ow_astore (q := 251) X55 hx (L' := #[iv p0, iv p1, iv p2, iv p3, iv (1114111 : Int32), iv v1, iv v2, iv la, rv b4, iv (1 : Int32), iv v43, rv b55]) (hb hby at_249) rfl rfl rfl ?_
              refine ow_iload (q := 253) X55 hx (hb hby at_251) rfl rfl ?_
              refine ow_iload (q := 255) X55 hx (hb hby at_253) rfl rfl ?_
              refine ow_icmpYes (q := 289) X55 hx (hb hby at_255) (Jvm.Free.XT.ii_ne_t (own_nmx hmx)) (by decide) (by decide) ?_
              refine ow_iload (q := 291) X55 hx (hb hby at_289) rfl rfl ?_
              refine ow_ifNo (q := 294) X55 hx (hb hby at_291) rfl (Jvm.Free.XT.i0_eq_f (by decide)) ?_
              refine ow_aload (q := 296) X55 hx (hb hby at_294) rfl rfl rfl ?_
              refine ownGo (T' := T55) (f' := (mkF m 297 #[iv p0, iv p1, iv p2, iv p3, iv (1114111 : Int32), iv v1, iv v2, iv la, rv b4, iv (1 : Int32), iv v43, rv b55] [(.int (2 : Int32))])) (ownLenI FP55_0 X55 hx hZ rfl (z := (2 : Int32)) (by decide) (g := (mkF m 296 #[iv p0, iv p1, iv p2, iv p3, iv (1114111 : Int32), iv v1, iv v2, iv la, rv b4, iv (1 : Int32), iv v43, rv b55] [(.ref b55)])) rfl rfl (hb hby at_296)) ?_
              refine ow_iconst (q := 298) X55 hx (2 : Int32) (hb hby at_297) rfl rfl ?_
              refine ow_icmpNo (q := 301) X55 hx (hb hby at_298) rfl (Jvm.Free.XT.ii_ne_f (by decide)) ?_
              refine ow_aload (q := 303) X55 hx (hb hby at_301) rfl rfl rfl ?_
              refine ow_iconst (q := 304) X55 hx (0 : Int32) (hb hby at_303) rfl rfl ?_
              refine ownGo (T' := T55) (f' := (mkF m 305 #[iv p0, iv p1, iv p2, iv p3, iv (1114111 : Int32), iv v1, iv v2, iv la, rv b4, iv (1 : Int32), iv v43, rv b55] [(.int v1)])) (ownIaload FP55_0 X55 hx hZ rfl (j := (0 : Int32)) (by unfold ownIn; decide) (g := (mkF m 304 #[iv p0, iv p1, iv p2, iv p3, iv (1114111 : Int32), iv v1, iv v2, iv la, rv b4, iv (1 : Int32), iv v43, rv b55] [(.int (0 : Int32)), (.ref b55)])) rfl rfl (hb hby at_304)) ?_
              refine ow_iload (q := 307) X55 hx (hb hby at_305) rfl rfl ?_
              refine ow_icmpNo (q := 310) X55 hx (hb hby at_307) rfl (Jvm.Free.XT.ii_ne_f rfl) ?_
              refine ow_aload (q := 312) X55 hx (hb hby at_310) rfl rfl rfl ?_
              refine ow_iconst (q := 313) X55 hx (1 : Int32) (hb hby at_312) rfl rfl ?_
              refine ownGo (T' := T55) (f' := (mkF m 314 #[iv p0, iv p1, iv p2, iv p3, iv (1114111 : Int32), iv v1, iv v2, iv la, rv b4, iv (1 : Int32), iv v43, rv b55] [(.int (la + (1 : Int32)))])) (ownIaload FP55_0 X55 hx hZ rfl (j := (1 : Int32)) (by unfold ownIn; decide) (g := (mkF m 313 #[iv p0, iv p1, iv p2, iv p3, iv (1114111 : Int32), iv v1, iv v2, iv la, rv b4, iv (1 : Int32), iv v43, rv b55] [(.int (1 : Int32)), (.ref b55)])) rfl rfl (hb hby at_313)) ?_
              refine ow_iload (q := 316) X55 hx (hb hby at_314) rfl rfl ?_
              refine ow_iconst (q := 317) X55 hx (1 : Int32) (hb hby at_316) rfl rfl ?_
              refine ow_iadd (q := 318) X55 hx _ (hb hby at_317) rfl rfl ?_
              refine ow_icmpNo (q := 321) X55 hx (hb hby at_318) rfl (Jvm.Free.XT.ii_ne_f rfl) ?_
              refine ow_iconst (q := 322) X55 hx (1 : Int32) (hb hby at_321) rfl rfl ?_
              refine ow_goto (q := 326) X55 hx (hb hby at_322) (by decide) (by decide) ?_
              refine ow_istore (q := 328) X55 hx (L' := #[iv p0, iv p1, iv p2, iv p3, iv (1114111 : Int32), iv v1, iv v2, iv la, rv b4, iv (1 : Int32), iv v43, rv b55]) (hb hby at_326) rfl rfl ?_
              refine ow_iload (q := 330) X55 hx (hb hby at_328) rfl rfl ?_
              refine ownRetN X55 hx (r := (1 : Int32)) (Or.inl rfl) Bd.returns (hb hby at_330) hlk (by decide) (by decide) (by decide) ?_
              exact ⟨rfl, N55⟩
            · refine ow_aload (q := 246) X44 hx (hb hby at_244) rfl rfl rfl ?_
              obtain ⟨cq59, kq59, q59a, q59b, q59c⟩ := isOf hZ e44 FP4_0
              obtain ⟨_, _, ⟨T59, L59, k59, n59⟩, -, X59, ⟨Lc59, hQ59, l59, y59, z59⟩, st59⟩ := X44.virtualBack hx (y := (⟨"com/example/shapewright/shapewright/regex/CodePointSet", "edges", "()[I"⟩ : MethodName)) (z := (⟨"com/example/shapewright/shapewright/regex/CodePointSet", "edges", "()[I"⟩ : MethodName)) hown (mvT hZ (hw _ (List.mem_of_getElem? (i := 27) rfl))) (mvT hZ (hw _ (List.mem_of_getElem? (i := 28) rfl))) (notFace_of_selects (args := #[]) (mvT hZ (hw _ (List.mem_of_getElem? (i := 30) rfl)))) (mvT hZ (hw _ (List.mem_of_getElem? (i := 30) rfl))) (mvT hZ (hw _ (List.mem_of_getElem? (i := 29) rfl))) (by decide) (backOf (W := 0) (rm_edges_1 l Z av0 hw [] b4 ar_4 (ownUpd (ownUpd (fun _ => (0 : Int32)) 0 v1) 1 la) T4.heap n0 (Nat.le_trans Z0 K4.1) FP4_1 FP4_2 hmx) hZ (hw _ (List.mem_of_getElem? (i := 31) rfl)) (hw _ (List.mem_of_getElem? (i := 4) rfl)) (by decide) (by decide)) q59a q59c (g := (mkF m 246 #[iv p0, iv p1, iv p2, iv p3, iv (1114111 : Int32), iv v1, iv v2, iv la, rv b4, iv (1 : Int32), iv v43, .unset] [(.ref b4)])) rfl (by rw [hml]; rfl) (Steps.refl _) (argsL := []) (rest := []) (lenOf own_pd6 rfl) rfl (by show 2 * 0 + _ ≤ _; exact Nat.le_of_eq rfl) (hb hby at_246) (fun _ _ => ⟨rfl, e44, (by decide : 2 + 2 ≤ _), (by decide : 3 + 3 ≤ _)⟩)
              dsimp only [Pt.U, Pt.locs, Pt.cells, Pt.slots] at X59 l59 y59 z59 st59 hQ59
              subst l59 y59 z59
              obtain ⟨b59, rfl, N59q, Kq59, sq59_b59, FP59_0⟩ := hQ59
              have N59 := Fr.app N44 N59q
              have K59 : Keep h0 T59.heap [] := K4.trans Kq59 all0
              have ne_b4_b59 : b4 ≠ b59 := Nat.ne_of_lt (Nat.lt_of_lt_of_le FP4_0.lt sq59_b59)
              have ne_ar_4_b59 : ar_4 ≠ b59 := Nat.ne_of_lt (Nat.lt_of_lt_of_le FP4_2.lt sq59_b59)
              have sz_b59 : h0.size ≤ b59 := Nat.le_trans K4.1 sq59_b59
              have G_b59 : n0 ≤ b59 := Nat.le_trans Z0 sz_b59
              have F60 : Exa Z T59.heap b4 "com/example/shapewright/shapewright/regex/CodePointSet" := FP4_0.keep Kq59
              have F61 : Fld Z T59.heap b4 "com/example/shapewright/shapewright/regex/CodePointSet" "ranges" "[I" (.ref ar_4) := FP4_1.keep Kq59 nin0
              have F62 : ownAI Z T59.heap ar_4 .int 2 (ownUpd (ownUpd (fun _ => (0 : Int32)) 0 v1) 1 la) := FP4_2.keep Kq59 nin0
              refine ownRun (T' := T59) (f' := (mkF m 249 #[iv p0, iv p1, iv p2, iv p3, iv (1114111 : Int32), iv v1, iv v2, iv la, rv b4, iv (1 : Int32), iv v43, .unset] [(.ref b59)])) st59 ?_
              refine ow_astore (q := 251) X59 hx (L' := #[iv p0, iv p1, iv p2, iv p3, iv (1114111 : Int32), iv v1, iv v2, iv la, rv b4, iv (1 : Int32), iv v43, rv b59]) (hb hby at_249) rfl rfl rfl ?_
              refine ow_iload (q := 253) X59 hx (hb hby at_251) rfl rfl ?_
              refine ow_iload (q := 255) X59 hx (hb hby at_253) rfl rfl ?_
              refine ow_icmpNo (q := 258) X59 hx (hb hby at_255) rfl (Jvm.Free.XT.ii_ne_f (own_mx hl hmx)) ?_
              refine ow_iload (q := 260) X59 hx (hb hby at_258) rfl rfl ?_
              refine ow_ifNo (q := 263) X59 hx (hb hby at_260) rfl (Jvm.Free.XT.i0_eq_f (by decide)) ?_
              refine ow_aload (q := 265) X59 hx (hb hby at_263) rfl rfl rfl ?_
              refine ownGo (T' := T59) (f' := (mkF m 266 #[iv p0, iv p1, iv p2, iv p3, iv (1114111 : Int32), iv v1, iv v2, iv la, rv b4, iv (1 : Int32), iv v43, rv b59] [(.int (1 : Int32))])) (ownLenI FP59_0 X59 hx hZ rfl (z := (1 : Int32)) (by decide) (g := (mkF m 265 #[iv p0, iv p1, iv p2, iv p3, iv (1114111 : Int32), iv v1, iv v2, iv la, rv b4, iv (1 : Int32), iv v43, rv b59] [(.ref b59)])) rfl rfl (hb hby at_265)) ?_
              refine ow_iconst (q := 267) X59 hx (1 : Int32) (hb hby at_266) rfl rfl ?_
              refine ow_icmpNo (q := 270) X59 hx (hb hby at_267) rfl (Jvm.Free.XT.ii_ne_f (by decide)) ?_
              refine ow_aload (q := 272) X59 hx (hb hby at_270) rfl rfl rfl ?_
              refine ow_iconst (q := 273) X59 hx (0 : Int32) (hb hby at_272) rfl rfl ?_
              refine ownGo (T' := T59) (f' := (mkF m 274 #[iv p0, iv p1, iv p2, iv p3, iv (1114111 : Int32), iv v1, iv v2, iv la, rv b4, iv (1 : Int32), iv v43, rv b59] [(.int v1)])) (ownIaload FP59_0 X59 hx hZ rfl (j := (0 : Int32)) (by unfold ownIn; decide) (g := (mkF m 273 #[iv p0, iv p1, iv p2, iv p3, iv (1114111 : Int32), iv v1, iv v2, iv la, rv b4, iv (1 : Int32), iv v43, rv b59] [(.int (0 : Int32)), (.ref b59)])) rfl rfl (hb hby at_273)) ?_
              refine ow_iload (q := 276) X59 hx (hb hby at_274) rfl rfl ?_
              refine ow_icmpNo (q := 279) X59 hx (hb hby at_276) rfl (Jvm.Free.XT.ii_ne_f rfl) ?_
              refine ow_iconst (q := 280) X59 hx (1 : Int32) (hb hby at_279) rfl rfl ?_
              refine ow_goto (q := 284) X59 hx (hb hby at_280) (by decide) (by decide) ?_
              refine ow_istore (q := 286) X59 hx (L' := #[iv p0, iv p1, iv p2, iv p3, iv (1114111 : Int32), iv v1, iv v2, iv la, rv b4, iv (1 : Int32), iv v43, rv b59]) (hb hby at_284) rfl rfl ?_
              refine ow_goto (q := 328) X59 hx (hb hby at_286) (by decide) (by decide) ?_
              refine ow_iload (q := 330) X59 hx (hb hby at_328) rfl rfl ?_
              refine ownRetN X59 hx (r := (1 : Int32)) (Or.inl rfl) Bd.returns (hb hby at_330) hlk (by decide) (by decide) (by decide) ?_
              exact ⟨rfl, N59⟩
          · refine ow_icmpNo (q := 229) X44 hx (hb hby at_226) rfl (Jvm.Free.XT.ii_gt_f hc226_54) ?_
            refine ow_iconst (q := 230) X44 hx (1 : Int32) (hb hby at_229) rfl rfl ?_
            refine ow_goto (q := 234) X44 hx (hb hby at_230) (by decide) (by decide) ?_
            refine ow_icmpNo (q := 237) X44 hx (hb hby at_234) rfl (Jvm.Free.XT.ii_ne_f (by simp [own_cont, hc219_45, hc226_54])) ?_
            refine ow_iconst (q := 238) X44 hx (1 : Int32) (hb hby at_237) rfl rfl ?_
            refine ow_goto (q := 242) X44 hx (hb hby at_238) (by decide) (by decide) ?_
            refine ow_istore (q := 244) X44 hx (L' := #[iv p0, iv p1, iv p2, iv p3, iv (1114111 : Int32), iv v1, iv v2, iv la, rv b4, iv (1 : Int32), iv v43, .unset]) (hb hby at_242) rfl rfl ?_
            by_cases hmx : la < (1114111 : Int32)
            · refine ow_aload (q := 246) X44 hx (hb hby at_244) rfl rfl rfl ?_
              obtain ⟨cq63, kq63, q63a, q63b, q63c⟩ := isOf hZ e44 FP4_0
              obtain ⟨_, _, ⟨T63, L63, k63, n63⟩, -, X63, ⟨Lc63, hQ63, l63, y63, z63⟩, st63⟩ := X44.virtualBack hx (y := (⟨"com/example/shapewright/shapewright/regex/CodePointSet", "edges", "()[I"⟩ : MethodName)) (z := (⟨"com/example/shapewright/shapewright/regex/CodePointSet", "edges", "()[I"⟩ : MethodName)) hown (mvT hZ (hw _ (List.mem_of_getElem? (i := 27) rfl))) (mvT hZ (hw _ (List.mem_of_getElem? (i := 28) rfl))) (notFace_of_selects (args := #[]) (mvT hZ (hw _ (List.mem_of_getElem? (i := 30) rfl)))) (mvT hZ (hw _ (List.mem_of_getElem? (i := 30) rfl))) (mvT hZ (hw _ (List.mem_of_getElem? (i := 29) rfl))) (by decide) (backOf (W := 0) (rm_edges_2 l Z av0 hw [] b4 ar_4 (ownUpd (ownUpd (fun _ => (0 : Int32)) 0 v1) 1 la) T4.heap n0 (Nat.le_trans Z0 K4.1) FP4_1 FP4_2 hmx) hZ (hw _ (List.mem_of_getElem? (i := 31) rfl)) (hw _ (List.mem_of_getElem? (i := 4) rfl)) (by decide) (by decide)) q63a q63c (g := (mkF m 246 #[iv p0, iv p1, iv p2, iv p3, iv (1114111 : Int32), iv v1, iv v2, iv la, rv b4, iv (1 : Int32), iv v43, .unset] [(.ref b4)])) rfl (by rw [hml]; rfl) (Steps.refl _) (argsL := []) (rest := []) (lenOf own_pd6 rfl) rfl (by show 2 * 0 + _ ≤ _; exact Nat.le_of_eq rfl) (hb hby at_246) (fun _ _ => ⟨rfl, e44, (by decide : 2 + 2 ≤ _), (by decide : 3 + 4 ≤ _)⟩)
              dsimp only [Pt.U, Pt.locs, Pt.cells, Pt.slots] at X63 l63 y63 z63 st63 hQ63
              subst l63 y63 z63
              obtain ⟨b63, rfl, N63q, Kq63, sq63_b63, FP63_0⟩ := hQ63
              have N63 := Fr.app N44 N63q
              have K63 : Keep h0 T63.heap [] := K4.trans Kq63 all0
              have ne_b4_b63 : b4 ≠ b63 := Nat.ne_of_lt (Nat.lt_of_lt_of_le FP4_0.lt sq63_b63)
              have ne_ar_4_b63 : ar_4 ≠ b63 := Nat.ne_of_lt (Nat.lt_of_lt_of_le FP4_2.lt sq63_b63)
              have sz_b63 : h0.size ≤ b63 := Nat.le_trans K4.1 sq63_b63
              have G_b63 : n0 ≤ b63 := Nat.le_trans Z0 sz_b63
              have F64 : Exa Z T63.heap b4 "com/example/shapewright/shapewright/regex/CodePointSet" := FP4_0.keep Kq63
              have F65 : Fld Z T63.heap b4 "com/example/shapewright/shapewright/regex/CodePointSet" "ranges" "[I" (.ref ar_4) := FP4_1.keep Kq63 nin0
              have F66 : ownAI Z T63.heap ar_4 .int 2 (ownUpd (ownUpd (fun _ => (0 : Int32)) 0 v1) 1 la) := FP4_2.keep Kq63 nin0
              refine ownRun (T' := T63) (f' := (mkF m 249 #[iv p0, iv p1, iv p2, iv p3, iv (1114111 : Int32), iv v1, iv v2, iv la, rv b4, iv (1 : Int32), iv v43, .unset] [(.ref b63)])) st63 ?_
              refine ow_astore (q := 251) X63 hx (L' := #[iv p0, iv p1, iv p2, iv p3, iv (1114111 : Int32), iv v1, iv v2, iv la, rv b4, iv (1 : Int32), iv v43, rv b63]) (hb hby at_249) rfl rfl rfl ?_
              refine ow_iload (q := 253) X63 hx (hb hby at_251) rfl rfl ?_
              refine ow_iload (q := 255) X63 hx (hb hby at_253) rfl rfl ?_
              refine ow_icmpYes (q := 289) X63 hx (hb hby at_255) (Jvm.Free.XT.ii_ne_t (own_nmx hmx)) (by decide) (by decide) ?_
              refine ow_iload (q := 291) X63 hx (hb hby at_289) rfl rfl ?_
              refine ow_ifNo (q := 294) X63 hx (hb hby at_291) rfl (Jvm.Free.XT.i0_eq_f (by decide)) ?_
              refine ow_aload (q := 296) X63 hx (hb hby at_294) rfl rfl rfl ?_
              refine ownGo (T' := T63) (f' := (mkF m 297 #[iv p0, iv p1, iv p2, iv p3, iv (1114111 : Int32), iv v1, iv v2, iv la, rv b4, iv (1 : Int32), iv v43, rv b63] [(.int (2 : Int32))])) (ownLenI FP63_0 X63 hx hZ rfl (z := (2 : Int32)) (by decide) (g := (mkF m 296 #[iv p0, iv p1, iv p2, iv p3, iv (1114111 : Int32), iv v1, iv v2, iv la, rv b4, iv (1 : Int32), iv v43, rv b63] [(.ref b63)])) rfl rfl (hb hby at_296)) ?_
              refine ow_iconst (q := 298) X63 hx (2 : Int32) (hb hby at_297) rfl rfl ?_
              refine ow_icmpNo (q := 301) X63 hx (hb hby at_298) rfl (Jvm.Free.XT.ii_ne_f (by decide)) ?_
              refine ow_aload (q := 303) X63 hx (hb hby at_301) rfl rfl rfl ?_
              refine ow_iconst (q := 304) X63 hx (0 : Int32) (hb hby at_303) rfl rfl ?_
              refine ownGo (T' := T63) (f' := (mkF m 305 #[iv p0, iv p1, iv p2, iv p3, iv (1114111 : Int32), iv v1, iv v2, iv la, rv b4, iv (1 : Int32), iv v43, rv b63] [(.int v1)])) (ownIaload FP63_0 X63 hx hZ rfl (j := (0 : Int32)) (by unfold ownIn; decide) (g := (mkF m 304 #[iv p0, iv p1, iv p2, iv p3, iv (1114111 : Int32), iv v1, iv v2, iv la, rv b4, iv (1 : Int32), iv v43, rv b63] [(.int (0 : Int32)), (.ref b63)])) rfl rfl (hb hby at_304)) ?_
              refine ow_iload (q := 307) X63 hx (hb hby at_305) rfl rfl ?_
              refine ow_icmpNo (q := 310) X63 hx (hb hby at_307) rfl (Jvm.Free.XT.ii_ne_f rfl) ?_
              refine ow_aload (q := 312) X63 hx (hb hby at_310) rfl rfl rfl ?_
              refine ow_iconst (q := 313) X63 hx (1 : Int32) (hb hby at_312) rfl rfl ?_
              refine ownGo (T' := T63) (f' := (mkF m 314 #[iv p0, iv p1, iv p2, iv p3, iv (1114111 : Int32), iv v1, iv v2, iv la, rv b4, iv (1 : Int32), iv v43, rv b63] [(.int (la + (1 : Int32)))])) (ownIaload FP63_0 X63 hx hZ rfl (j := (1 : Int32)) (by unfold ownIn; decide) (g := (mkF m 313 #[iv p0, iv p1, iv p2, iv p3, iv (1114111 : Int32), iv v1, iv v2, iv la, rv b4, iv (1 : Int32), iv v43, rv b63] [(.int (1 : Int32)), (.ref b63)])) rfl rfl (hb hby at_313)) ?_
              refine ow_iload (q := 316) X63 hx (hb hby at_314) rfl rfl ?_
              refine ow_iconst (q := 317) X63 hx (1 : Int32) (hb hby at_316) rfl rfl ?_
              refine ow_iadd (q := 318) X63 hx _ (hb hby at_317) rfl rfl ?_
              refine ow_icmpNo (q := 321) X63 hx (hb hby at_318) rfl (Jvm.Free.XT.ii_ne_f rfl) ?_
              refine ow_iconst (q := 322) X63 hx (1 : Int32) (hb hby at_321) rfl rfl ?_
              refine ow_goto (q := 326) X63 hx (hb hby at_322) (by decide) (by decide) ?_
              refine ow_istore (q := 328) X63 hx (L' := #[iv p0, iv p1, iv p2, iv p3, iv (1114111 : Int32), iv v1, iv v2, iv la, rv b4, iv (1 : Int32), iv v43, rv b63]) (hb hby at_326) rfl rfl ?_
              refine ow_iload (q := 330) X63 hx (hb hby at_328) rfl rfl ?_
              refine ownRetN X63 hx (r := (1 : Int32)) (Or.inl rfl) Bd.returns (hb hby at_330) hlk (by decide) (by decide) (by decide) ?_
              exact ⟨rfl, N63⟩
            · refine ow_aload (q := 246) X44 hx (hb hby at_244) rfl rfl rfl ?_
              obtain ⟨cq67, kq67, q67a, q67b, q67c⟩ := isOf hZ e44 FP4_0
              obtain ⟨_, _, ⟨T67, L67, k67, n67⟩, -, X67, ⟨Lc67, hQ67, l67, y67, z67⟩, st67⟩ := X44.virtualBack hx (y := (⟨"com/example/shapewright/shapewright/regex/CodePointSet", "edges", "()[I"⟩ : MethodName)) (z := (⟨"com/example/shapewright/shapewright/regex/CodePointSet", "edges", "()[I"⟩ : MethodName)) hown (mvT hZ (hw _ (List.mem_of_getElem? (i := 27) rfl))) (mvT hZ (hw _ (List.mem_of_getElem? (i := 28) rfl))) (notFace_of_selects (args := #[]) (mvT hZ (hw _ (List.mem_of_getElem? (i := 30) rfl)))) (mvT hZ (hw _ (List.mem_of_getElem? (i := 30) rfl))) (mvT hZ (hw _ (List.mem_of_getElem? (i := 29) rfl))) (by decide) (backOf (W := 0) (rm_edges_1 l Z av0 hw [] b4 ar_4 (ownUpd (ownUpd (fun _ => (0 : Int32)) 0 v1) 1 la) T4.heap n0 (Nat.le_trans Z0 K4.1) FP4_1 FP4_2 hmx) hZ (hw _ (List.mem_of_getElem? (i := 31) rfl)) (hw _ (List.mem_of_getElem? (i := 4) rfl)) (by decide) (by decide)) q67a q67c (g := (mkF m 246 #[iv p0, iv p1, iv p2, iv p3, iv (1114111 : Int32), iv v1, iv v2, iv la, rv b4, iv (1 : Int32), iv v43, .unset] [(.ref b4)])) rfl (by rw [hml]; rfl) (Steps.refl _) (argsL := []) (rest := []) (lenOf own_pd6 rfl) rfl (by show 2 * 0 + _ ≤ _; exact Nat.le_of_eq rfl) (hb hby at_246) (fun _ _ => ⟨rfl, e44, (by decide : 2 + 2 ≤ _), (by decide : 3 + 3 ≤ _)⟩)
              dsimp only [Pt.U, Pt.locs, Pt.cells, Pt.slots] at X67 l67 y67 z67 st67 hQ67
              subst l67 y67 z67
              obtain ⟨b67, rfl, N67q, Kq67, sq67_b67, FP67_0⟩ := hQ67
              have N67 := Fr.app N44 N67q
              have K67 : Keep h0 T67.heap [] := K4.trans Kq67 all0
              have ne_b4_b67 : b4 ≠ b67 := Nat.ne_of_lt (Nat.lt_of_lt_of_le FP4_0.lt sq67_b67)
              have ne_ar_4_b67 : ar_4 ≠ b67 := Nat.ne_of_lt (Nat.lt_of_lt_of_le FP4_2.lt sq67_b67)
              have sz_b67 : h0.size ≤ b67 := Nat.le_trans K4.1 sq67_b67
              have G_b67 : n0 ≤ b67 := Nat.le_trans Z0 sz_b67
              have F68 : Exa Z T67.heap b4 "com/example/shapewright/shapewright/regex/CodePointSet" := FP4_0.keep Kq67
              have F69 : Fld Z T67.heap b4 "com/example/shapewright/shapewright/regex/CodePointSet" "ranges" "[I" (.ref ar_4) := FP4_1.keep Kq67 nin0
              have F70 : ownAI Z T67.heap ar_4 .int 2 (ownUpd (ownUpd (fun _ => (0 : Int32)) 0 v1) 1 la) := FP4_2.keep Kq67 nin0
              refine ownRun (T' := T67) (f' := (mkF m 249 #[iv p0, iv p1, iv p2, iv p3, iv (1114111 : Int32), iv v1, iv v2, iv la, rv b4, iv (1 : Int32), iv v43, .unset] [(.ref b67)])) st67 ?_
              refine ow_astore (q := 251) X67 hx (L' := #[iv p0, iv p1, iv p2, iv p3, iv (1114111 : Int32), iv v1, iv v2, iv la, rv b4, iv (1 : Int32), iv v43, rv b67]) (hb hby at_249) rfl rfl rfl ?_
              refine ow_iload (q := 253) X67 hx (hb hby at_251) rfl rfl ?_
              refine ow_iload (q := 255) X67 hx (hb hby at_253) rfl rfl ?_
              refine ow_icmpNo (q := 258) X67 hx (hb hby at_255) rfl (Jvm.Free.XT.ii_ne_f (own_mx hl hmx)) ?_
              refine ow_iload (q := 260) X67 hx (hb hby at_258) rfl rfl ?_
              refine ow_ifNo (q := 263) X67 hx (hb hby at_260) rfl (Jvm.Free.XT.i0_eq_f (by decide)) ?_
              refine ow_aload (q := 265) X67 hx (hb hby at_263) rfl rfl rfl ?_
              refine ownGo (T' := T67) (f' := (mkF m 266 #[iv p0, iv p1, iv p2, iv p3, iv (1114111 : Int32), iv v1, iv v2, iv la, rv b4, iv (1 : Int32), iv v43, rv b67] [(.int (1 : Int32))])) (ownLenI FP67_0 X67 hx hZ rfl (z := (1 : Int32)) (by decide) (g := (mkF m 265 #[iv p0, iv p1, iv p2, iv p3, iv (1114111 : Int32), iv v1, iv v2, iv la, rv b4, iv (1 : Int32), iv v43, rv b67] [(.ref b67)])) rfl rfl (hb hby at_265)) ?_
              refine ow_iconst (q := 267) X67 hx (1 : Int32) (hb hby at_266) rfl rfl ?_
              refine ow_icmpNo (q := 270) X67 hx (hb hby at_267) rfl (Jvm.Free.XT.ii_ne_f (by decide)) ?_
              refine ow_aload (q := 272) X67 hx (hb hby at_270) rfl rfl rfl ?_
              refine ow_iconst (q := 273) X67 hx (0 : Int32) (hb hby at_272) rfl rfl ?_
              refine ownGo (T' := T67) (f' := (mkF m 274 #[iv p0, iv p1, iv p2, iv p3, iv (1114111 : Int32), iv v1, iv v2, iv la, rv b4, iv (1 : Int32), iv v43, rv b67] [(.int v1)])) (ownIaload FP67_0 X67 hx hZ rfl (j := (0 : Int32)) (by unfold ownIn; decide) (g := (mkF m 273 #[iv p0, iv p1, iv p2, iv p3, iv (1114111 : Int32), iv v1, iv v2, iv la, rv b4, iv (1 : Int32), iv v43, rv b67] [(.int (0 : Int32)), (.ref b67)])) rfl rfl (hb hby at_273)) ?_
              refine ow_iload (q := 276) X67 hx (hb hby at_274) rfl rfl ?_
              refine ow_icmpNo (q := 279) X67 hx (hb hby at_276) rfl (Jvm.Free.XT.ii_ne_f rfl) ?_
              refine ow_iconst (q := 280) X67 hx (1 : Int32) (hb hby at_279) rfl rfl ?_
              refine ow_goto (q := 284) X67 hx (hb hby at_280) (by decide) (by decide) ?_
              refine ow_istore (q := 286) X67 hx (L' := #[iv p0, iv p1, iv p2, iv p3, iv (1114111 : Int32), iv v1, iv v2, iv la, rv b4, iv (1 : Int32), iv v43, rv b67]) (hb hby at_284) rfl rfl ?_
              refine ow_goto (q := 328) X67 hx (hb hby at_286) (by decide) (by decide) ?_
              refine ow_iload (q := 330) X67 hx (hb hby at_328) rfl rfl ?_
              refine ownRetN X67 hx (r := (1 : Int32)) (Or.inl rfl) Bd.returns (hb hby at_330) hlk (by decide) (by decide) (by decide) ?_
              exact ⟨rfl, N67⟩
      · refine ow_icmpNo (q := 177) X12 hx (hb hby at_174) rfl (Jvm.Free.XT.ii_gt_f hc174_42) ?_
        refine ow_iconst (q := 178) X12 hx (1 : Int32) (hb hby at_177) rfl rfl ?_
        refine ow_goto (q := 182) X12 hx (hb hby at_178) (by decide) (by decide) ?_
        refine ow_icmpNo (q := 185) X12 hx (hb hby at_182) rfl (Jvm.Free.XT.ii_ne_f (by simp [own_cont, hc168_13, hc174_42])) ?_
        refine ow_iconst (q := 186) X12 hx (1 : Int32) (hb hby at_185) rfl rfl ?_
        refine ow_goto (q := 190) X12 hx (hb hby at_186) (by decide) (by decide) ?_
        refine ow_istore (q := 192) X12 hx (L' := #[iv p0, iv p1, iv p2, iv p3, iv (1114111 : Int32), iv v1, iv v2, iv la, rv b4, iv (1 : Int32), .unset, .unset]) (hb hby at_190) rfl rfl ?_
        refine ow_iloadN (q := 193) X12 hx (hb hby at_192) rfl rfl ?_
        refine ownGo (T' := T12) (f' := (mkF m 195 #[iv p0, iv p1, iv p2, iv p3, iv (1114111 : Int32), iv v1, iv v2, iv la, rv b4, iv (1 : Int32), .unset, .unset] [(.int (2147483647 : Int32)), (.int p3)])) (X12.ldcInt hx hown (mvT hZ (hw _ (List.mem_of_getElem? (i := 1) rfl))) (g := (mkF m 193 #[iv p0, iv p1, iv p2, iv p3, iv (1114111 : Int32), iv v1, iv v2, iv la, rv b4, iv (1 : Int32), .unset, .unset] [(.int p3)])) rfl (hb hby at_193)) ?_
        refine ow_iand (q := 196) X12 hx _ (hb hby at_195) rfl rfl ?_
        refine ow_iload (q := 198) X12 hx (hb hby at_196) rfl rfl ?_
        refine ow_iconst (q := 199) X12 hx (2 : Int32) (hb hby at_198) rfl rfl ?_
        refine ow_iadd (q := 200) X12 hx (1114113 : Int32) (hb hby at_199) rfl (by decide) ?_
        refine ow_irem (q := 201) X12 hx _ (hb hby at_200) rfl (by decide) rfl ?_
        generalize hv_v71 : ((p3 &&& (2147483647 : Int32)) % (1114113 : Int32)) = v71
        refine ow_istore (q := 203) X12 hx (L' := #[iv p0, iv p1, iv p2, iv p3, iv (1114111 : Int32), iv v1, iv v2, iv la, rv b4, iv (1 : Int32), iv v71, .unset]) (hb hby at_201) rfl rfl ?_
        refine ow_iload (q := 205) X12 hx (hb hby at_203) rfl rfl ?_
        refine ow_ifNo (q := 208) X12 hx (hb hby at_205) rfl (Jvm.Free.XT.i0_eq_f (by decide)) ?_
        refine ow_aload (q := 210) X12 hx (hb hby at_208) rfl rfl rfl ?_
        refine ow_iload (q := 212) X12 hx (hb hby at_210) rfl rfl ?_
        obtain ⟨cq72, kq72, q72a, q72b, q72c⟩ := isOf hZ e12 FP4_0
        obtain ⟨_, _, ⟨T72, L72, k72, n72⟩, -, X72, ⟨Lc72, hQ72, l72, y72, z72⟩, st72⟩ := X12.virtualBack hx (y := (⟨"com/example/shapewright/shapewright/regex/CodePointSet", "contains", "(I)Z"⟩ : MethodName)) (z := (⟨"com/example/shapewright/shapewright/regex/CodePointSet", "contains", "(I)Z"⟩ : MethodName)) hown (mvT hZ (hw _ (List.mem_of_getElem? (i := 22) rfl))) (mvT hZ (hw _ (List.mem_of_getElem? (i := 23) rfl))) (notFace_of_selects (args := #[]) (mvT hZ (hw _ (List.mem_of_getElem? (i := 25) rfl)))) (mvT hZ (hw _ (List.mem_of_getElem? (i := 25) rfl))) (mvT hZ (hw _ (List.mem_of_getElem? (i := 24) rfl))) (by decide) (backOf (W := 0) (rm_contains l Z av0 hw [] b4 v71 ar_4 (ownUpd (ownUpd (fun _ => (0 : Int32)) 0 v1) 1 la) T4.heap n0 (Nat.le_trans Z0 K4.1) FP4_1 FP4_2) hZ (hw _ (List.mem_of_getElem? (i := 26) rfl)) (hw _ (List.mem_of_getElem? (i := 4) rfl)) (by decide) (by decide)) q72a q72c (g := (mkF m 212 #[iv p0, iv p1, iv p2, iv p3, iv (1114111 : Int32), iv v1, iv v2, iv la, rv b4, iv (1 : Int32), iv v71, .unset] [(.int v71), (.ref b4)])) rfl (by rw [hml]; rfl) (Steps.refl _) (argsL := [(.int v71)]) (rest := []) (lenOf own_pd5 rfl) rfl (by show 2 * 0 + _ ≤ _; exact Nat.le_of_eq rfl) (hb hby at_212) (fun _ _ => ⟨rfl, e12, (by decide : 2 + 0 ≤ _), (by decide : 3 + 0 ≤ _)⟩)
        dsimp only [Pt.U, Pt.locs, Pt.cells, Pt.slots] at X72 l72 y72 z72 st72 hQ72
        subst l72 y72 z72
        obtain ⟨rfl, N72q, e72⟩ := hQ72
        have N72 := Fr.app N12 N72q
        refine ownRun (T' := T72) (f' := (mkF m 215 #[iv p0, iv p1, iv p2, iv p3, iv (1114111 : Int32), iv v1, iv v2, iv la, rv b4, iv (1 : Int32), iv v71, .unset] [(.int (own_cont v1 la v71))])) st72 ?_
        refine ow_iload (q := 217) X72 hx (hb hby at_215) rfl rfl ?_
        refine ow_iload (q := 219) X72 hx (hb hby at_217) rfl rfl ?_
        by_cases hc219_73 : v71 < v1
        · refine ow_icmpYes (q := 233) X72 hx (hb hby at_219) (Jvm.Free.XT.ii_gt_t hc219_73) (by decide) (by decide) ?_
          refine ow_iconst (q := 234) X72 hx (0 : Int32) (hb hby at_233) rfl rfl ?_
          refine ow_icmpNo (q := 237) X72 hx (hb hby at_234) rfl (Jvm.Free.XT.ii_ne_f (by simp [own_cont, hc219_73])) ?_
          refine ow_iconst (q := 238) X72 hx (1 : Int32) (hb hby at_237) rfl rfl ?_
          refine ow_goto (q := 242) X72 hx (hb hby at_238) (by decide) (by decide) ?_
          refine ow_istore (q := 244) X72 hx (L' := #[iv p0, iv p1, iv p2, iv p3, iv (1114111 : Int32), iv v1, iv v2, iv la, rv b4, iv (1 : Int32), iv v71, .unset]) (hb hby at_242) rfl rfl ?_
          by_cases hmx : la < (1114111 : Int32)
          · refine ow_aload (q := 246) X72 hx (hb hby at_244) rfl rfl rfl ?_
            obtain ⟨cq74, kq74, q74a, q74b, q74c⟩ := isOf hZ e72 FP4_0
            obtain ⟨_, _, ⟨T74, L74, k74, n74⟩, -, X74, ⟨Lc74, hQ74, l74, y74, z74⟩, st74⟩ := X72.virtualBack hx (y := (⟨"com/example/shapewright/shapewright/regex/CodePointSet", "edges", "()[I"⟩ : MethodName)) (z := (⟨"com/example/shapewright/shapewright/regex/CodePointSet", "edges", "()[I"⟩ : MethodName)) hown (mvT hZ (hw _ (List.mem_of_getElem? (i := 27) rfl))) (mvT hZ (hw _ (List.mem_of_getElem? (i := 28) rfl))) (notFace_of_selects (args := #[]) (mvT hZ (hw _ (List.mem_of_getElem? (i := 30) rfl)))) (mvT hZ (hw _ (List.mem_of_getElem? (i := 30) rfl))) (mvT hZ (hw _ (List.mem_of_getElem? (i := 29) rfl))) (by decide) (backOf (W := 0) (rm_edges_2 l Z av0 hw [] b4 ar_4 (ownUpd (ownUpd (fun _ => (0 : Int32)) 0 v1) 1 la) T4.heap n0 (Nat.le_trans Z0 K4.1) FP4_1 FP4_2 hmx) hZ (hw _ (List.mem_of_getElem? (i := 31) rfl)) (hw _ (List.mem_of_getElem? (i := 4) rfl)) (by decide) (by decide)) q74a q74c (g := (mkF m 246 #[iv p0, iv p1, iv p2, iv p3, iv (1114111 : Int32), iv v1, iv v2, iv la, rv b4, iv (1 : Int32), iv v71, .unset] [(.ref b4)])) rfl (by rw [hml]; rfl) (Steps.refl _) (argsL := []) (rest := []) (lenOf own_pd6 rfl) rfl (by show 2 * 0 + _ ≤ _; exact Nat.le_of_eq rfl) (hb hby at_246) (fun _ _ => ⟨rfl, e72, (by decide : 2 + 2 ≤ _), (by decide : 3 + 4 ≤ _)⟩)
            dsimp only [Pt.U, Pt.locs, Pt.cells, Pt.slots] at X74 l74 y74 z74 st74 hQ74
            subst l74 y74 z74
            obtain ⟨b74, rfl, N74q, Kq74, sq74_b74, FP74_0⟩ := hQ74
            have N74 := Fr.app N72 N74q
            have K74 : Keep h0 T74.heap [] := K4.trans Kq74 all0
            have ne_b4_b74 : b4 ≠ b74 := Nat.ne_of_lt (Nat.lt_of_lt_of_le FP4_0.lt sq74_b74)
            have ne_ar_4_b74 : ar_4 ≠ b74 := Nat.ne_of_lt (Nat.lt_of_lt_of_le FP4_2.lt sq74_b74)
            have sz_b74 : h0.size ≤ b74 := Nat.le_trans K4.1 sq74_b74
            have G_b74 : n0 ≤ b74 := Nat.le_trans Z0 sz_b74
            have F75 : Exa Z T74.heap b4 "com/example/shapewright/shapewright/regex/CodePointSet" := FP4_0.keep Kq74
            have F76 : Fld Z T74.heap b4 "com/example/shapewright/shapewright/regex/CodePointSet" "ranges" "[I" (.ref ar_4) := FP4_1.keep Kq74 nin0
            have F77 : ownAI Z T74.heap ar_4 .int 2 (ownUpd (ownUpd (fun _ => (0 : Int32)) 0 v1) 1 la) := FP4_2.keep Kq74 nin0
            refine ownRun (T' := T74) (f' := (mkF m 249 #[iv p0, iv p1, iv p2, iv p3, iv (1114111 : Int32), iv v1, iv v2, iv la, rv b4, iv (1 : Int32), iv v71, .unset] [(.ref b74)])) st74 ?_
            refine ow_astore (q := 251) X74 hx (L' := #[iv p0, iv p1, iv p2, iv p3, iv (1114111 : Int32), iv v1, iv v2, iv la, rv b4, iv (1 : Int32), iv v71, rv b74]) (hb hby at_249) rfl rfl rfl ?_
            refine ow_iload (q := 253) X74 hx (hb hby at_251) rfl rfl ?_
            refine ow_iload (q := 255) X74 hx (hb hby at_253) rfl rfl ?_
            refine ow_icmpYes (q := 289) X74 hx (hb hby at_255) (Jvm.Free.XT.ii_ne_t (own_nmx hmx)) (by decide) (by decide) ?_
            refine ow_iload (q := 291) X74 hx (hb hby at_289) rfl rfl ?_
            refine ow_ifNo (q := 294) X74 hx (hb hby at_291) rfl (Jvm.Free.XT.i0_eq_f (by decide)) ?_
            refine ow_aload (q := 296) X74 hx (hb hby at_294) rfl rfl rfl ?_
            refine ownGo (T' := T74) (f' := (mkF m 297 #[iv p0, iv p1, iv p2, iv p3, iv (1114111 : Int32), iv v1, iv v2, iv la, rv b4, iv (1 : Int32), iv v71, rv b74] [(.int (2 : Int32))])) (ownLenI FP74_0 X74 hx hZ rfl (z := (2 : Int32)) (by decide) (g := (mkF m 296 #[iv p0, iv p1, iv p2, iv p3, iv (1114111 : Int32), iv v1, iv v2, iv la, rv b4, iv (1 : Int32), iv v71, rv b74] [(.ref b74)])) rfl rfl (hb hby at_296)) ?_
            refine ow_iconst (q := 298) X74 hx (2 : Int32) (hb hby at_297) rfl rfl ?_
            refine ow_icmpNo (q := 301) X74 hx (hb hby at_298) rfl (Jvm.Free.XT.ii_ne_f (by decide)) ?_
            refine ow_aload (q := 303) X74 hx (hb hby at_301) rfl rfl rfl ?_
            refine ow_iconst (q := 304) X74 hx (0 : Int32) (hb hby at_303) rfl rfl ?_
            refine ownGo (T' := T74) (f' := (mkF m 305 #[iv p0, iv p1, iv p2, iv p3, iv (1114111 : Int32), iv v1, iv v2, iv la, rv b4, iv (1 : Int32), iv v71, rv b74] [(.int v1)])) (ownIaload FP74_0 X74 hx hZ rfl (j := (0 : Int32)) (by unfold ownIn; decide) (g := (mkF m 304 #[iv p0, iv p1, iv p2, iv p3, iv (1114111 : Int32), iv v1, iv v2, iv la, rv b4, iv (1 : Int32), iv v71, rv b74] [(.int (0 : Int32)), (.ref b74)])) rfl rfl (hb hby at_304)) ?_
            refine ow_iload (q := 307) X74 hx (hb hby at_305) rfl rfl ?_
            refine ow_icmpNo (q := 310) X74 hx (hb hby at_307) rfl (Jvm.Free.XT.ii_ne_f rfl) ?_
            refine ow_aload (q := 312) X74 hx (hb hby at_310) rfl rfl rfl ?_
            refine ow_iconst (q := 313) X74 hx (1 : Int32) (hb hby at_312) rfl rfl ?_
            refine ownGo (T' := T74) (f' := (mkF m 314 #[iv p0, iv p1, iv p2, iv p3, iv (1114111 : Int32), iv v1, iv v2, iv la, rv b4, iv (1 : Int32), iv v71, rv b74] [(.int (la + (1 : Int32)))])) (ownIaload FP74_0 X74 hx hZ rfl (j := (1 : Int32)) (by unfold ownIn; decide) (g := (mkF m 313 #[iv p0, iv p1, iv p2, iv p3, iv (1114111 : Int32), iv v1, iv v2, iv la, rv b4, iv (1 : Int32), iv v71, rv b74] [(.int (1 : Int32)), (.ref b74)])) rfl rfl (hb hby at_313)) ?_
            refine ow_iload (q := 316) X74 hx (hb hby at_314) rfl rfl ?_
            refine ow_iconst (q := 317) X74 hx (1 : Int32) (hb hby at_316) rfl rfl ?_
            refine ow_iadd (q := 318) X74 hx _ (hb hby at_317) rfl rfl ?_
            refine ow_icmpNo (q := 321) X74 hx (hb hby at_318) rfl (Jvm.Free.XT.ii_ne_f rfl) ?_
            refine ow_iconst (q := 322) X74 hx (1 : Int32) (hb hby at_321) rfl rfl ?_
            refine ow_goto (q := 326) X74 hx (hb hby at_322) (by decide) (by decide) ?_
            refine ow_istore (q := 328) X74 hx (L' := #[iv p0, iv p1, iv p2, iv p3, iv (1114111 : Int32), iv v1, iv v2, iv la, rv b4, iv (1 : Int32), iv v71, rv b74]) (hb hby at_326) rfl rfl ?_
            refine ow_iload (q := 330) X74 hx (hb hby at_328) rfl rfl ?_
            refine ownRetN X74 hx (r := (1 : Int32)) (Or.inl rfl) Bd.returns (hb hby at_330) hlk (by decide) (by decide) (by decide) ?_
            exact ⟨rfl, N74⟩
          · refine ow_aload (q := 246) X72 hx (hb hby at_244) rfl rfl rfl ?_
            obtain ⟨cq78, kq78, q78a, q78b, q78c⟩ := isOf hZ e72 FP4_0
            obtain ⟨_, _, ⟨T78, L78, k78, n78⟩, -, X78, ⟨Lc78, hQ78, l78, y78, z78⟩, st78⟩ := X72.virtualBack hx (y := (⟨"com/example/shapewright/shapewright/regex/CodePointSet", "edges", "()[I"⟩ : MethodName)) (z := (⟨"com/example/shapewright/shapewright/regex/CodePointSet", "edges", "()[I"⟩ : MethodName)) hown (mvT hZ (hw _ (List.mem_of_getElem? (i := 27) rfl))) (mvT hZ (hw _ (List.mem_of_getElem? (i := 28) rfl))) (notFace_of_selects (args := #[]) (mvT hZ (hw _ (List.mem_of_getElem? (i := 30) rfl)))) (mvT hZ (hw _ (List.mem_of_getElem? (i := 30) rfl))) (mvT hZ (hw _ (List.mem_of_getElem? (i := 29) rfl))) (by decide) (backOf (W := 0) (rm_edges_1 l Z av0 hw [] b4 ar_4 (ownUpd (ownUpd (fun _ => (0 : Int32)) 0 v1) 1 la) T4.heap n0 (Nat.le_trans Z0 K4.1) FP4_1 FP4_2 hmx) hZ (hw _ (List.mem_of_getElem? (i := 31) rfl)) (hw _ (List.mem_of_getElem? (i := 4) rfl)) (by decide) (by decide)) q78a q78c (g := (mkF m 246 #[iv p0, iv p1, iv p2, iv p3, iv (1114111 : Int32), iv v1, iv v2, iv la, rv b4, iv (1 : Int32), iv v71, .unset] [(.ref b4)])) rfl (by rw [hml]; rfl) (Steps.refl _) (argsL := []) (rest := []) (lenOf own_pd6 rfl) rfl (by show 2 * 0 + _ ≤ _; exact Nat.le_of_eq rfl) (hb hby at_246) (fun _ _ => ⟨rfl, e72, (by decide : 2 + 2 ≤ _), (by decide : 3 + 3 ≤ _)⟩)
            dsimp only [Pt.U, Pt.locs, Pt.cells, Pt.slots] at X78 l78 y78 z78 st78 hQ78
            subst l78 y78 z78
            obtain ⟨b78, rfl, N78q, Kq78, sq78_b78, FP78_0⟩ := hQ78
            have N78 := Fr.app N72 N78q
            have K78 : Keep h0 T78.heap [] := K4.trans Kq78 all0
            have ne_b4_b78 : b4 ≠ b78 := Nat.ne_of_lt (Nat.lt_of_lt_of_le FP4_0.lt sq78_b78)
            have ne_ar_4_b78 : ar_4 ≠ b78 := Nat.ne_of_lt (Nat.lt_of_lt_of_le FP4_2.lt sq78_b78)
            have sz_b78 : h0.size ≤ b78 := Nat.le_trans K4.1 sq78_b78
            have G_b78 : n0 ≤ b78 := Nat.le_trans Z0 sz_b78
            have F79 : Exa Z T78.heap b4 "com/example/shapewright/shapewright/regex/CodePointSet" := FP4_0.keep Kq78
            have F80 : Fld Z T78.heap b4 "com/example/shapewright/shapewright/regex/CodePointSet" "ranges" "[I" (.ref ar_4) := FP4_1.keep Kq78 nin0
            have F81 : ownAI Z T78.heap ar_4 .int 2 (ownUpd (ownUpd (fun _ => (0 : Int32)) 0 v1) 1 la) := FP4_2.keep Kq78 nin0
            refine ownRun (T' := T78) (f' := (mkF m 249 #[iv p0, iv p1, iv p2, iv p3, iv (1114111 : Int32), iv v1, iv v2, iv la, rv b4, iv (1 : Int32), iv v71, .unset] [(.ref b78)])) st78 ?_
            refine ow_astore (q := 251) X78 hx (L' := #[iv p0, iv p1, iv p2, iv p3, iv (1114111 : Int32), iv v1, iv v2, iv la, rv b4, iv (1 : Int32), iv v71, rv b78]) (hb hby at_249) rfl rfl rfl ?_
            refine ow_iload (q := 253) X78 hx (hb hby at_251) rfl rfl ?_
            refine ow_iload (q := 255) X78 hx (hb hby at_253) rfl rfl ?_
            refine ow_icmpNo (q := 258) X78 hx (hb hby at_255) rfl (Jvm.Free.XT.ii_ne_f (own_mx hl hmx)) ?_
            refine ow_iload (q := 260) X78 hx (hb hby at_258) rfl rfl ?_
            refine ow_ifNo (q := 263) X78 hx (hb hby at_260) rfl (Jvm.Free.XT.i0_eq_f (by decide)) ?_
            refine ow_aload (q := 265) X78 hx (hb hby at_263) rfl rfl rfl ?_
            refine ownGo (T' := T78) (f' := (mkF m 266 #[iv p0, iv p1, iv p2, iv p3, iv (1114111 : Int32), iv v1, iv v2, iv la, rv b4, iv (1 : Int32), iv v71, rv b78] [(.int (1 : Int32))])) (ownLenI FP78_0 X78 hx hZ rfl (z := (1 : Int32)) (by decide) (g := (mkF m 265 #[iv p0, iv p1, iv p2, iv p3, iv (1114111 : Int32), iv v1, iv v2, iv la, rv b4, iv (1 : Int32), iv v71, rv b78] [(.ref b78)])) rfl rfl (hb hby at_265)) ?_
            refine ow_iconst (q := 267) X78 hx (1 : Int32) (hb hby at_266) rfl rfl ?_
            refine ow_icmpNo (q := 270) X78 hx (hb hby at_267) rfl (Jvm.Free.XT.ii_ne_f (by decide)) ?_
            refine ow_aload (q := 272) X78 hx (hb hby at_270) rfl rfl rfl ?_
            refine ow_iconst (q := 273) X78 hx (0 : Int32) (hb hby at_272) rfl rfl ?_
            refine ownGo (T' := T78) (f' := (mkF m 274 #[iv p0, iv p1, iv p2, iv p3, iv (1114111 : Int32), iv v1, iv v2, iv la, rv b4, iv (1 : Int32), iv v71, rv b78] [(.int v1)])) (ownIaload FP78_0 X78 hx hZ rfl (j := (0 : Int32)) (by unfold ownIn; decide) (g := (mkF m 273 #[iv p0, iv p1, iv p2, iv p3, iv (1114111 : Int32), iv v1, iv v2, iv la, rv b4, iv (1 : Int32), iv v71, rv b78] [(.int (0 : Int32)), (.ref b78)])) rfl rfl (hb hby at_273)) ?_
            refine ow_iload (q := 276) X78 hx (hb hby at_274) rfl rfl ?_
            refine ow_icmpNo (q := 279) X78 hx (hb hby at_276) rfl (Jvm.Free.XT.ii_ne_f rfl) ?_
            refine ow_iconst (q := 280) X78 hx (1 : Int32) (hb hby at_279) rfl rfl ?_
            refine ow_goto (q := 284) X78 hx (hb hby at_280) (by decide) (by decide) ?_
            refine ow_istore (q := 286) X78 hx (L' := #[iv p0, iv p1, iv p2, iv p3, iv (1114111 : Int32), iv v1, iv v2, iv la, rv b4, iv (1 : Int32), iv v71, rv b78]) (hb hby at_284) rfl rfl ?_
            refine ow_goto (q := 328) X78 hx (hb hby at_286) (by decide) (by decide) ?_
            refine ow_iload (q := 330) X78 hx (hb hby at_328) rfl rfl ?_
            refine ownRetN X78 hx (r := (1 : Int32)) (Or.inl rfl) Bd.returns (hb hby at_330) hlk (by decide) (by decide) (by decide) ?_
            exact ⟨rfl, N78⟩
        · refine ow_icmpNo (q := 222) X72 hx (hb hby at_219) rfl (Jvm.Free.XT.ii_gt_f hc219_73) ?_
          refine ow_iload (q := 224) X72 hx (hb hby at_222) rfl rfl ?_
          refine ow_iload (q := 226) X72 hx (hb hby at_224) rfl rfl ?_
          by_cases hc226_82 : la < v71
          · refine ow_icmpYes (q := 233) X72 hx (hb hby at_226) (Jvm.Free.XT.ii_gt_t hc226_82) (by decide) (by decide) ?_
            refine ow_iconst (q := 234) X72 hx (0 : Int32) (hb hby at_233) rfl rfl ?_
            refine ow_icmpNo (q := 237) X72 hx (hb hby at_234) rfl (Jvm.Free.XT.ii_ne_f (by simp [own_cont, hc219_73, hc226_82])) ?_
            refine ow_iconst (q := 238) X72 hx (1 : Int32) (hb hby at_237) rfl rfl ?_
            refine ow_goto (q := 242) X72 hx (hb hby at_238) (by decide) (by decide) ?_
            refine ow_istore (q := 244) X72 hx (L' := #[iv p0, iv p1, iv p2, iv p3, iv (1114111 : Int32), iv v1, iv v2, iv la, rv b4, iv (1 : Int32), iv v71, .unset]) (hb hby at_242) rfl rfl ?_
            by_cases hmx : la < (1114111 : Int32)
            · refine ow_aload (q := 246) X72 hx (hb hby at_244) rfl rfl rfl ?_
              obtain ⟨cq83, kq83, q83a, q83b, q83c⟩ := isOf hZ e72 FP4_0
              obtain ⟨_, _, ⟨T83, L83, k83, n83⟩, -, X83, ⟨Lc83, hQ83, l83, y83, z83⟩, st83⟩ := X72.virtualBack hx (y := (⟨"com/example/shapewright/shapewright/regex/CodePointSet", "edges", "()[I"⟩ : MethodName)) (z := (⟨"com/example/shapewright/shapewright/regex/CodePointSet", "edges", "()[I"⟩ : MethodName)) hown (mvT hZ (hw _ (List.mem_of_getElem? (i := 27) rfl))) (mvT hZ (hw _ (List.mem_of_getElem? (i := 28) rfl))) (notFace_of_selects (args := #[]) (mvT hZ (hw _ (List.mem_of_getElem? (i := 30) rfl)))) (mvT hZ (hw _ (List.mem_of_getElem? (i := 30) rfl))) (mvT hZ (hw _ (List.mem_of_getElem? (i := 29) rfl))) (by decide) (backOf (W := 0) (rm_edges_2 l Z av0 hw [] b4 ar_4 (ownUpd (ownUpd (fun _ => (0 : Int32)) 0 v1) 1 la) T4.heap n0 (Nat.le_trans Z0 K4.1) FP4_1 FP4_2 hmx) hZ (hw _ (List.mem_of_getElem? (i := 31) rfl)) (hw _ (List.mem_of_getElem? (i := 4) rfl)) (by decide) (by decide)) q83a q83c (g := (mkF m 246 #[iv p0, iv p1, iv p2, iv p3, iv (1114111 : Int32), iv v1, iv v2, iv la, rv b4, iv (1 : Int32), iv v71, .unset] [(.ref b4)])) rfl (by rw [hml]; rfl) (Steps.refl _) (argsL := []) (rest := []) (lenOf own_pd6 rfl) rfl (by show 2 * 0 + _ ≤ _; exact Nat.le_of_eq rfl) (hb hby at_246) (fun _ _ => ⟨rfl, e72, (by decide : 2 + 2 ≤ _), (by decide : 3 + 4 ≤ _)⟩)
              dsimp only [Pt.U, Pt.locs, Pt.cells, Pt.slots] at X83 l83 y83 z83 st83 hQ83
              subst l83 y83 z83
              obtain ⟨b83, rfl, N83q, Kq83, sq83_b83, FP83_0⟩ := hQ83
              have N83 := Fr.app N72 N83q
              have K83 : Keep h0 T83.heap [] := K4.trans Kq83 all0
              have ne_b4_b83 : b4 ≠ b83 := Nat.ne_of_lt (Nat.lt_of_lt_of_le FP4_0.lt sq83_b83)
              have ne_ar_4_b83 : ar_4 ≠ b83 := Nat.ne_of_lt (Nat.lt_of_lt_of_le FP4_2.lt sq83_b83)
              have sz_b83 : h0.size ≤ b83 := Nat.le_trans K4.1 sq83_b83
              have G_b83 : n0 ≤ b83 := Nat.le_trans Z0 sz_b83
              have F84 : Exa Z T83.heap b4 "com/example/shapewright/shapewright/regex/CodePointSet" := FP4_0.keep Kq83
              have F85 : Fld Z T83.heap b4 "com/example/shapewright/shapewright/regex/CodePointSet" "ranges" "[I" (.ref ar_4) := FP4_1.keep Kq83 nin0
              have F86 : ownAI Z T83.heap ar_4 .int 2 (ownUpd (ownUpd (fun _ => (0 : Int32)) 0 v1) 1 la) := FP4_2.keep Kq83 nin0
              refine ownRun (T' := T83) (f' := (mkF m 249 #[iv p0, iv p1, iv p2, iv p3, iv (1114111 : Int32), iv v1, iv v2, iv la, rv b4, iv (1 : Int32), iv v71, .unset] [(.ref b83)])) st83 ?_
              refine ow_astore (q := 251) X83 hx (L' := #[iv p0, iv p1, iv p2, iv p3, iv (1114111 : Int32), iv v1, iv v2, iv la, rv b4, iv (1 : Int32), iv v71, rv b83]) (hb hby at_249) rfl rfl rfl ?_
              refine ow_iload (q := 253) X83 hx (hb hby at_251) rfl rfl ?_
              refine ow_iload (q := 255) X83 hx (hb hby at_253) rfl rfl ?_
              refine ow_icmpYes (q := 289) X83 hx (hb hby at_255) (Jvm.Free.XT.ii_ne_t (own_nmx hmx)) (by decide) (by decide) ?_
              refine ow_iload (q := 291) X83 hx (hb hby at_289) rfl rfl ?_
              refine ow_ifNo (q := 294) X83 hx (hb hby at_291) rfl (Jvm.Free.XT.i0_eq_f (by decide)) ?_
              refine ow_aload (q := 296) X83 hx (hb hby at_294) rfl rfl rfl ?_
              refine ownGo (T' := T83) (f' := (mkF m 297 #[iv p0, iv p1, iv p2, iv p3, iv (1114111 : Int32), iv v1, iv v2, iv la, rv b4, iv (1 : Int32), iv v71, rv b83] [(.int (2 : Int32))])) (ownLenI FP83_0 X83 hx hZ rfl (z := (2 : Int32)) (by decide) (g := (mkF m 296 #[iv p0, iv p1, iv p2, iv p3, iv (1114111 : Int32), iv v1, iv v2, iv la, rv b4, iv (1 : Int32), iv v71, rv b83] [(.ref b83)])) rfl rfl (hb hby at_296)) ?_
              refine ow_iconst (q := 298) X83 hx (2 : Int32) (hb hby at_297) rfl rfl ?_
              refine ow_icmpNo (q := 301) X83 hx (hb hby at_298) rfl (Jvm.Free.XT.ii_ne_f (by decide)) ?_
              refine ow_aload (q := 303) X83 hx (hb hby at_301) rfl rfl rfl ?_
              refine ow_iconst (q := 304) X83 hx (0 : Int32) (hb hby at_303) rfl rfl ?_
              refine ownGo (T' := T83) (f' := (mkF m 305 #[iv p0, iv p1, iv p2, iv p3, iv (1114111 : Int32), iv v1, iv v2, iv la, rv b4, iv (1 : Int32), iv v71, rv b83] [(.int v1)])) (ownIaload FP83_0 X83 hx hZ rfl (j := (0 : Int32)) (by unfold ownIn; decide) (g := (mkF m 304 #[iv p0, iv p1, iv p2, iv p3, iv (1114111 : Int32), iv v1, iv v2, iv la, rv b4, iv (1 : Int32), iv v71, rv b83] [(.int (0 : Int32)), (.ref b83)])) rfl rfl (hb hby at_304)) ?_
              refine ow_iload (q := 307) X83 hx (hb hby at_305) rfl rfl ?_
              refine ow_icmpNo (q := 310) X83 hx (hb hby at_307) rfl (Jvm.Free.XT.ii_ne_f rfl) ?_
              refine ow_aload (q := 312) X83 hx (hb hby at_310) rfl rfl rfl ?_
              refine ow_iconst (q := 313) X83 hx (1 : Int32) (hb hby at_312) rfl rfl ?_
              refine ownGo (T' := T83) (f' := (mkF m 314 #[iv p0, iv p1, iv p2, iv p3, iv (1114111 : Int32), iv v1, iv v2, iv la, rv b4, iv (1 : Int32), iv v71, rv b83] [(.int (la + (1 : Int32)))])) (ownIaload FP83_0 X83 hx hZ rfl (j := (1 : Int32)) (by unfold ownIn; decide) (g := (mkF m 313 #[iv p0, iv p1, iv p2, iv p3, iv (1114111 : Int32), iv v1, iv v2, iv la, rv b4, iv (1 : Int32), iv v71, rv b83] [(.int (1 : Int32)), (.ref b83)])) rfl rfl (hb hby at_313)) ?_
              refine ow_iload (q := 316) X83 hx (hb hby at_314) rfl rfl ?_
              refine ow_iconst (q := 317) X83 hx (1 : Int32) (hb hby at_316) rfl rfl ?_
              refine ow_iadd (q := 318) X83 hx _ (hb hby at_317) rfl rfl ?_
              refine ow_icmpNo (q := 321) X83 hx (hb hby at_318) rfl (Jvm.Free.XT.ii_ne_f rfl) ?_
              refine ow_iconst (q := 322) X83 hx (1 : Int32) (hb hby at_321) rfl rfl ?_
              refine ow_goto (q := 326) X83 hx (hb hby at_322) (by decide) (by decide) ?_
              refine ow_istore (q := 328) X83 hx (L' := #[iv p0, iv p1, iv p2, iv p3, iv (1114111 : Int32), iv v1, iv v2, iv la, rv b4, iv (1 : Int32), iv v71, rv b83]) (hb hby at_326) rfl rfl ?_
              refine ow_iload (q := 330) X83 hx (hb hby at_328) rfl rfl ?_
              refine ownRetN X83 hx (r := (1 : Int32)) (Or.inl rfl) Bd.returns (hb hby at_330) hlk (by decide) (by decide) (by decide) ?_
              exact ⟨rfl, N83⟩
            · refine ow_aload (q := 246) X72 hx (hb hby at_244) rfl rfl rfl ?_
              obtain ⟨cq87, kq87, q87a, q87b, q87c⟩ := isOf hZ e72 FP4_0
              obtain ⟨_, _, ⟨T87, L87, k87, n87⟩, -, X87, ⟨Lc87, hQ87, l87, y87, z87⟩, st87⟩ := X72.virtualBack hx (y := (⟨"com/example/shapewright/shapewright/regex/CodePointSet", "edges", "()[I"⟩ : MethodName)) (z := (⟨"com/example/shapewright/shapewright/regex/CodePointSet", "edges", "()[I"⟩ : MethodName)) hown (mvT hZ (hw _ (List.mem_of_getElem? (i := 27) rfl))) (mvT hZ (hw _ (List.mem_of_getElem? (i := 28) rfl))) (notFace_of_selects (args := #[]) (mvT hZ (hw _ (List.mem_of_getElem? (i := 30) rfl)))) (mvT hZ (hw _ (List.mem_of_getElem? (i := 30) rfl))) (mvT hZ (hw _ (List.mem_of_getElem? (i := 29) rfl))) (by decide) (backOf (W := 0) (rm_edges_1 l Z av0 hw [] b4 ar_4 (ownUpd (ownUpd (fun _ => (0 : Int32)) 0 v1) 1 la) T4.heap n0 (Nat.le_trans Z0 K4.1) FP4_1 FP4_2 hmx) hZ (hw _ (List.mem_of_getElem? (i := 31) rfl)) (hw _ (List.mem_of_getElem? (i := 4) rfl)) (by decide) (by decide)) q87a q87c (g := (mkF m 246 #[iv p0, iv p1, iv p2, iv p3, iv (1114111 : Int32), iv v1, iv v2, iv la, rv b4, iv (1 : Int32), iv v71, .unset] [(.ref b4)])) rfl (by rw [hml]; rfl) (Steps.refl _) (argsL := []) (rest := []) (lenOf own_pd6 rfl) rfl (by show 2 * 0 + _ ≤ _; exact Nat.le_of_eq rfl) (hb hby at_246) (fun _ _ => ⟨rfl, e72, (by decide : 2 + 2 ≤ _), (by decide : 3 + 3 ≤ _)⟩)
              dsimp only [Pt.U, Pt.locs, Pt.cells, Pt.slots] at X87 l87 y87 z87 st87 hQ87
              subst l87 y87 z87
              obtain ⟨b87, rfl, N87q, Kq87, sq87_b87, FP87_0⟩ := hQ87
              have N87 := Fr.app N72 N87q
              have K87 : Keep h0 T87.heap [] := K4.trans Kq87 all0
              have ne_b4_b87 : b4 ≠ b87 := Nat.ne_of_lt (Nat.lt_of_lt_of_le FP4_0.lt sq87_b87)
              have ne_ar_4_b87 : ar_4 ≠ b87 := Nat.ne_of_lt (Nat.lt_of_lt_of_le FP4_2.lt sq87_b87)
              have sz_b87 : h0.size ≤ b87 := Nat.le_trans K4.1 sq87_b87
              have G_b87 : n0 ≤ b87 := Nat.le_trans Z0 sz_b87
              have F88 : Exa Z T87.heap b4 "com/example/shapewright/shapewright/regex/CodePointSet" := FP4_0.keep Kq87
              have F89 : Fld Z T87.heap b4 "com/example/shapewright/shapewright/regex/CodePointSet" "ranges" "[I" (.ref ar_4) := FP4_1.keep Kq87 nin0
              have F90 : ownAI Z T87.heap ar_4 .int 2 (ownUpd (ownUpd (fun _ => (0 : Int32)) 0 v1) 1 la) := FP4_2.keep Kq87 nin0
              refine ownRun (T' := T87) (f' := (mkF m 249 #[iv p0, iv p1, iv p2, iv p3, iv (1114111 : Int32), iv v1, iv v2, iv la, rv b4, iv (1 : Int32), iv v71, .unset] [(.ref b87)])) st87 ?_
              refine ow_astore (q := 251) X87 hx (L' := #[iv p0, iv p1, iv p2, iv p3, iv (1114111 : Int32), iv v1, iv v2, iv la, rv b4, iv (1 : Int32), iv v71, rv b87]) (hb hby at_249) rfl rfl rfl ?_
              refine ow_iload (q := 253) X87 hx (hb hby at_251) rfl rfl ?_
              refine ow_iload (q := 255) X87 hx (hb hby at_253) rfl rfl ?_
              refine ow_icmpNo (q := 258) X87 hx (hb hby at_255) rfl (Jvm.Free.XT.ii_ne_f (own_mx hl hmx)) ?_
              refine ow_iload (q := 260) X87 hx (hb hby at_258) rfl rfl ?_
              refine ow_ifNo (q := 263) X87 hx (hb hby at_260) rfl (Jvm.Free.XT.i0_eq_f (by decide)) ?_
              refine ow_aload (q := 265) X87 hx (hb hby at_263) rfl rfl rfl ?_
              refine ownGo (T' := T87) (f' := (mkF m 266 #[iv p0, iv p1, iv p2, iv p3, iv (1114111 : Int32), iv v1, iv v2, iv la, rv b4, iv (1 : Int32), iv v71, rv b87] [(.int (1 : Int32))])) (ownLenI FP87_0 X87 hx hZ rfl (z := (1 : Int32)) (by decide) (g := (mkF m 265 #[iv p0, iv p1, iv p2, iv p3, iv (1114111 : Int32), iv v1, iv v2, iv la, rv b4, iv (1 : Int32), iv v71, rv b87] [(.ref b87)])) rfl rfl (hb hby at_265)) ?_
              refine ow_iconst (q := 267) X87 hx (1 : Int32) (hb hby at_266) rfl rfl ?_
              refine ow_icmpNo (q := 270) X87 hx (hb hby at_267) rfl (Jvm.Free.XT.ii_ne_f (by decide)) ?_
              refine ow_aload (q := 272) X87 hx (hb hby at_270) rfl rfl rfl ?_
              refine ow_iconst (q := 273) X87 hx (0 : Int32) (hb hby at_272) rfl rfl ?_
              refine ownGo (T' := T87) (f' := (mkF m 274 #[iv p0, iv p1, iv p2, iv p3, iv (1114111 : Int32), iv v1, iv v2, iv la, rv b4, iv (1 : Int32), iv v71, rv b87] [(.int v1)])) (ownIaload FP87_0 X87 hx hZ rfl (j := (0 : Int32)) (by unfold ownIn; decide) (g := (mkF m 273 #[iv p0, iv p1, iv p2, iv p3, iv (1114111 : Int32), iv v1, iv v2, iv la, rv b4, iv (1 : Int32), iv v71, rv b87] [(.int (0 : Int32)), (.ref b87)])) rfl rfl (hb hby at_273)) ?_
              refine ow_iload (q := 276) X87 hx (hb hby at_274) rfl rfl ?_
              refine ow_icmpNo (q := 279) X87 hx (hb hby at_276) rfl (Jvm.Free.XT.ii_ne_f rfl) ?_
              refine ow_iconst (q := 280) X87 hx (1 : Int32) (hb hby at_279) rfl rfl ?_
              refine ow_goto (q := 284) X87 hx (hb hby at_280) (by decide) (by decide) ?_
              refine ow_istore (q := 286) X87 hx (L' := #[iv p0, iv p1, iv p2, iv p3, iv (1114111 : Int32), iv v1, iv v2, iv la, rv b4, iv (1 : Int32), iv v71, rv b87]) (hb hby at_284) rfl rfl ?_
              refine ow_goto (q := 328) X87 hx (hb hby at_286) (by decide) (by decide) ?_
              refine ow_iload (q := 330) X87 hx (hb hby at_328) rfl rfl ?_
              refine ownRetN X87 hx (r := (1 : Int32)) (Or.inl rfl) Bd.returns (hb hby at_330) hlk (by decide) (by decide) (by decide) ?_
              exact ⟨rfl, N87⟩
          · refine ow_icmpNo (q := 229) X72 hx (hb hby at_226) rfl (Jvm.Free.XT.ii_gt_f hc226_82) ?_
            refine ow_iconst (q := 230) X72 hx (1 : Int32) (hb hby at_229) rfl rfl ?_
            refine ow_goto (q := 234) X72 hx (hb hby at_230) (by decide) (by decide) ?_
            refine ow_icmpNo (q := 237) X72 hx (hb hby at_234) rfl (Jvm.Free.XT.ii_ne_f (by simp [own_cont, hc219_73, hc226_82])) ?_
            refine ow_iconst (q := 238) X72 hx (1 : Int32) (hb hby at_237) rfl rfl ?_
            refine ow_goto (q := 242) X72 hx (hb hby at_238) (by decide) (by decide) ?_
            refine ow_istore (q := 244) X72 hx (L' := #[iv p0, iv p1, iv p2, iv p3, iv (1114111 : Int32), iv v1, iv v2, iv la, rv b4, iv (1 : Int32), iv v71, .unset]) (hb hby at_242) rfl rfl ?_
            by_cases hmx : la < (1114111 : Int32)
            · refine ow_aload (q := 246) X72 hx (hb hby at_244) rfl rfl rfl ?_
              obtain ⟨cq91, kq91, q91a, q91b, q91c⟩ := isOf hZ e72 FP4_0
              obtain ⟨_, _, ⟨T91, L91, k91, n91⟩, -, X91, ⟨Lc91, hQ91, l91, y91, z91⟩, st91⟩ := X72.virtualBack hx (y := (⟨"com/example/shapewright/shapewright/regex/CodePointSet", "edges", "()[I"⟩ : MethodName)) (z := (⟨"com/example/shapewright/shapewright/regex/CodePointSet", "edges", "()[I"⟩ : MethodName)) hown (mvT hZ (hw _ (List.mem_of_getElem? (i := 27) rfl))) (mvT hZ (hw _ (List.mem_of_getElem? (i := 28) rfl))) (notFace_of_selects (args := #[]) (mvT hZ (hw _ (List.mem_of_getElem? (i := 30) rfl)))) (mvT hZ (hw _ (List.mem_of_getElem? (i := 30) rfl))) (mvT hZ (hw _ (List.mem_of_getElem? (i := 29) rfl))) (by decide) (backOf (W := 0) (rm_edges_2 l Z av0 hw [] b4 ar_4 (ownUpd (ownUpd (fun _ => (0 : Int32)) 0 v1) 1 la) T4.heap n0 (Nat.le_trans Z0 K4.1) FP4_1 FP4_2 hmx) hZ (hw _ (List.mem_of_getElem? (i := 31) rfl)) (hw _ (List.mem_of_getElem? (i := 4) rfl)) (by decide) (by decide)) q91a q91c (g := (mkF m 246 #[iv p0, iv p1, iv p2, iv p3, iv (1114111 : Int32), iv v1, iv v2, iv la, rv b4, iv (1 : Int32), iv v71, .unset] [(.ref b4)])) rfl (by rw [hml]; rfl) (Steps.refl _) (argsL := []) (rest := []) (lenOf own_pd6 rfl) rfl (by show 2 * 0 + _ ≤ _; exact Nat.le_of_eq rfl) (hb hby at_246) (fun _ _ => ⟨rfl, e72, (by decide : 2 + 2 ≤ _), (by decide : 3 + 4 ≤ _)⟩)
              dsimp only [Pt.U, Pt.locs, Pt.cells, Pt.slots] at X91 l91 y91 z91 st91 hQ91
              subst l91 y91 z91
              obtain ⟨b91, rfl, N91q, Kq91, sq91_b91, FP91_0⟩ := hQ91
              have N91 := Fr.app N72 N91q
              have K91 : Keep h0 T91.heap [] := K4.trans Kq91 all0
              have ne_b4_b91 : b4 ≠ b91 := Nat.ne_of_lt (Nat.lt_of_lt_of_le FP4_0.lt sq91_b91)
              have ne_ar_4_b91 : ar_4 ≠ b91 := Nat.ne_of_lt (Nat.lt_of_lt_of_le FP4_2.lt sq91_b91)
              have sz_b91 : h0.size ≤ b91 := Nat.le_trans K4.1 sq91_b91
              have G_b91 : n0 ≤ b91 := Nat.le_trans Z0 sz_b91
              have F92 : Exa Z T91.heap b4 "com/example/shapewright/shapewright/regex/CodePointSet" := FP4_0.keep Kq91
              have F93 : Fld Z T91.heap b4 "com/example/shapewright/shapewright/regex/CodePointSet" "ranges" "[I" (.ref ar_4) := FP4_1.keep Kq91 nin0
              have F94 : ownAI Z T91.heap ar_4 .int 2 (ownUpd (ownUpd (fun _ => (0 : Int32)) 0 v1) 1 la) := FP4_2.keep Kq91 nin0
              refine ownRun (T' := T91) (f' := (mkF m 249 #[iv p0, iv p1, iv p2, iv p3, iv (1114111 : Int32), iv v1, iv v2, iv la, rv b4, iv (1 : Int32), iv v71, .unset] [(.ref b91)])) st91 ?_
              refine ow_astore (q := 251) X91 hx (L' := #[iv p0, iv p1, iv p2, iv p3, iv (1114111 : Int32), iv v1, iv v2, iv la, rv b4, iv (1 : Int32), iv v71, rv b91]) (hb hby at_249) rfl rfl rfl ?_
              refine ow_iload (q := 253) X91 hx (hb hby at_251) rfl rfl ?_
              refine ow_iload (q := 255) X91 hx (hb hby at_253) rfl rfl ?_
              refine ow_icmpYes (q := 289) X91 hx (hb hby at_255) (Jvm.Free.XT.ii_ne_t (own_nmx hmx)) (by decide) (by decide) ?_
              refine ow_iload (q := 291) X91 hx (hb hby at_289) rfl rfl ?_
              refine ow_ifNo (q := 294) X91 hx (hb hby at_291) rfl (Jvm.Free.XT.i0_eq_f (by decide)) ?_
              refine ow_aload (q := 296) X91 hx (hb hby at_294) rfl rfl rfl ?_
              refine ownGo (T' := T91) (f' := (mkF m 297 #[iv p0, iv p1, iv p2, iv p3, iv (1114111 : Int32), iv v1, iv v2, iv la, rv b4, iv (1 : Int32), iv v71, rv b91] [(.int (2 : Int32))])) (ownLenI FP91_0 X91 hx hZ rfl (z := (2 : Int32)) (by decide) (g := (mkF m 296 #[iv p0, iv p1, iv p2, iv p3, iv (1114111 : Int32), iv v1, iv v2, iv la, rv b4, iv (1 : Int32), iv v71, rv b91] [(.ref b91)])) rfl rfl (hb hby at_296)) ?_
              refine ow_iconst (q := 298) X91 hx (2 : Int32) (hb hby at_297) rfl rfl ?_
              refine ow_icmpNo (q := 301) X91 hx (hb hby at_298) rfl (Jvm.Free.XT.ii_ne_f (by decide)) ?_
              refine ow_aload (q := 303) X91 hx (hb hby at_301) rfl rfl rfl ?_
              refine ow_iconst (q := 304) X91 hx (0 : Int32) (hb hby at_303) rfl rfl ?_
              refine ownGo (T' := T91) (f' := (mkF m 305 #[iv p0, iv p1, iv p2, iv p3, iv (1114111 : Int32), iv v1, iv v2, iv la, rv b4, iv (1 : Int32), iv v71, rv b91] [(.int v1)])) (ownIaload FP91_0 X91 hx hZ rfl (j := (0 : Int32)) (by unfold ownIn; decide) (g := (mkF m 304 #[iv p0, iv p1, iv p2, iv p3, iv (1114111 : Int32), iv v1, iv v2, iv la, rv b4, iv (1 : Int32), iv v71, rv b91] [(.int (0 : Int32)), (.ref b91)])) rfl rfl (hb hby at_304)) ?_
              refine ow_iload (q := 307) X91 hx (hb hby at_305) rfl rfl ?_
              refine ow_icmpNo (q := 310) X91 hx (hb hby at_307) rfl (Jvm.Free.XT.ii_ne_f rfl) ?_
              refine ow_aload (q := 312) X91 hx (hb hby at_310) rfl rfl rfl ?_
              refine ow_iconst (q := 313) X91 hx (1 : Int32) (hb hby at_312) rfl rfl ?_
              refine ownGo (T' := T91) (f' := (mkF m 314 #[iv p0, iv p1, iv p2, iv p3, iv (1114111 : Int32), iv v1, iv v2, iv la, rv b4, iv (1 : Int32), iv v71, rv b91] [(.int (la + (1 : Int32)))])) (ownIaload FP91_0 X91 hx hZ rfl (j := (1 : Int32)) (by unfold ownIn; decide) (g := (mkF m 313 #[iv p0, iv p1, iv p2, iv p3, iv (1114111 : Int32), iv v1, iv v2, iv la, rv b4, iv (1 : Int32), iv v71, rv b91] [(.int (1 : Int32)), (.ref b91)])) rfl rfl (hb hby at_313)) ?_
              refine ow_iload (q := 316) X91 hx (hb hby at_314) rfl rfl ?_
              refine ow_iconst (q := 317) X91 hx (1 : Int32) (hb hby at_316) rfl rfl ?_
              refine ow_iadd (q := 318) X91 hx _ (hb hby at_317) rfl rfl ?_
              refine ow_icmpNo (q := 321) X91 hx (hb hby at_318) rfl (Jvm.Free.XT.ii_ne_f rfl) ?_
              refine ow_iconst (q := 322) X91 hx (1 : Int32) (hb hby at_321) rfl rfl ?_
              refine ow_goto (q := 326) X91 hx (hb hby at_322) (by decide) (by decide) ?_
              refine ow_istore (q := 328) X91 hx (L' := #[iv p0, iv p1, iv p2, iv p3, iv (1114111 : Int32), iv v1, iv v2, iv la, rv b4, iv (1 : Int32), iv v71, rv b91]) (hb hby at_326) rfl rfl ?_
              refine ow_iload (q := 330) X91 hx (hb hby at_328) rfl rfl ?_
              refine ownRetN X91 hx (r := (1 : Int32)) (Or.inl rfl) Bd.returns (hb hby at_330) hlk (by decide) (by decide) (by decide) ?_
              exact ⟨rfl, N91⟩
            · refine ow_aload (q := 246) X72 hx (hb hby at_244) rfl rfl rfl ?_
              obtain ⟨cq95, kq95, q95a, q95b, q95c⟩ := isOf hZ e72 FP4_0
              obtain ⟨_, _, ⟨T95, L95, k95, n95⟩, -, X95, ⟨Lc95, hQ95, l95, y95, z95⟩, st95⟩ := X72.virtualBack hx (y := (⟨"com/example/shapewright/shapewright/regex/CodePointSet", "edges", "()[I"⟩ : MethodName)) (z := (⟨"com/example/shapewright/shapewright/regex/CodePointSet", "edges", "()[I"⟩ : MethodName)) hown (mvT hZ (hw _ (List.mem_of_getElem? (i := 27) rfl))) (mvT hZ (hw _ (List.mem_of_getElem? (i := 28) rfl))) (notFace_of_selects (args := #[]) (mvT hZ (hw _ (List.mem_of_getElem? (i := 30) rfl)))) (mvT hZ (hw _ (List.mem_of_getElem? (i := 30) rfl))) (mvT hZ (hw _ (List.mem_of_getElem? (i := 29) rfl))) (by decide) (backOf (W := 0) (rm_edges_1 l Z av0 hw [] b4 ar_4 (ownUpd (ownUpd (fun _ => (0 : Int32)) 0 v1) 1 la) T4.heap n0 (Nat.le_trans Z0 K4.1) FP4_1 FP4_2 hmx) hZ (hw _ (List.mem_of_getElem? (i := 31) rfl)) (hw _ (List.mem_of_getElem? (i := 4) rfl)) (by decide) (by decide)) q95a q95c (g := (mkF m 246 #[iv p0, iv p1, iv p2, iv p3, iv (1114111 : Int32), iv v1, iv v2, iv la, rv b4, iv (1 : Int32), iv v71, .unset] [(.ref b4)])) rfl (by rw [hml]; rfl) (Steps.refl _) (argsL := []) (rest := []) (lenOf own_pd6 rfl) rfl (by show 2 * 0 + _ ≤ _; exact Nat.le_of_eq rfl) (hb hby at_246) (fun _ _ => ⟨rfl, e72, (by decide : 2 + 2 ≤ _), (by decide : 3 + 3 ≤ _)⟩)
              dsimp only [Pt.U, Pt.locs, Pt.cells, Pt.slots] at X95 l95 y95 z95 st95 hQ95
              subst l95 y95 z95
              obtain ⟨b95, rfl, N95q, Kq95, sq95_b95, FP95_0⟩ := hQ95
              have N95 := Fr.app N72 N95q
              have K95 : Keep h0 T95.heap [] := K4.trans Kq95 all0
              have ne_b4_b95 : b4 ≠ b95 := Nat.ne_of_lt (Nat.lt_of_lt_of_le FP4_0.lt sq95_b95)
              have ne_ar_4_b95 : ar_4 ≠ b95 := Nat.ne_of_lt (Nat.lt_of_lt_of_le FP4_2.lt sq95_b95)
              have sz_b95 : h0.size ≤ b95 := Nat.le_trans K4.1 sq95_b95
              have G_b95 : n0 ≤ b95 := Nat.le_trans Z0 sz_b95
              have F96 : Exa Z T95.heap b4 "com/example/shapewright/shapewright/regex/CodePointSet" := FP4_0.keep Kq95
              have F97 : Fld Z T95.heap b4 "com/example/shapewright/shapewright/regex/CodePointSet" "ranges" "[I" (.ref ar_4) := FP4_1.keep Kq95 nin0
              have F98 : ownAI Z T95.heap ar_4 .int 2 (ownUpd (ownUpd (fun _ => (0 : Int32)) 0 v1) 1 la) := FP4_2.keep Kq95 nin0
              refine ownRun (T' := T95) (f' := (mkF m 249 #[iv p0, iv p1, iv p2, iv p3, iv (1114111 : Int32), iv v1, iv v2, iv la, rv b4, iv (1 : Int32), iv v71, .unset] [(.ref b95)])) st95 ?_
              refine ow_astore (q := 251) X95 hx (L' := #[iv p0, iv p1, iv p2, iv p3, iv (1114111 : Int32), iv v1, iv v2, iv la, rv b4, iv (1 : Int32), iv v71, rv b95]) (hb hby at_249) rfl rfl rfl ?_
              refine ow_iload (q := 253) X95 hx (hb hby at_251) rfl rfl ?_
              refine ow_iload (q := 255) X95 hx (hb hby at_253) rfl rfl ?_
              refine ow_icmpNo (q := 258) X95 hx (hb hby at_255) rfl (Jvm.Free.XT.ii_ne_f (own_mx hl hmx)) ?_
              refine ow_iload (q := 260) X95 hx (hb hby at_258) rfl rfl ?_
              refine ow_ifNo (q := 263) X95 hx (hb hby at_260) rfl (Jvm.Free.XT.i0_eq_f (by decide)) ?_
              refine ow_aload (q := 265) X95 hx (hb hby at_263) rfl rfl rfl ?_
              refine ownGo (T' := T95) (f' := (mkF m 266 #[iv p0, iv p1, iv p2, iv p3, iv (1114111 : Int32), iv v1, iv v2, iv la, rv b4, iv (1 : Int32), iv v71, rv b95] [(.int (1 : Int32))])) (ownLenI FP95_0 X95 hx hZ rfl (z := (1 : Int32)) (by decide) (g := (mkF m 265 #[iv p0, iv p1, iv p2, iv p3, iv (1114111 : Int32), iv v1, iv v2, iv la, rv b4, iv (1 : Int32), iv v71, rv b95] [(.ref b95)])) rfl rfl (hb hby at_265)) ?_
              refine ow_iconst (q := 267) X95 hx (1 : Int32) (hb hby at_266) rfl rfl ?_
              refine ow_icmpNo (q := 270) X95 hx (hb hby at_267) rfl (Jvm.Free.XT.ii_ne_f (by decide)) ?_
              refine ow_aload (q := 272) X95 hx (hb hby at_270) rfl rfl rfl ?_
              refine ow_iconst (q := 273) X95 hx (0 : Int32) (hb hby at_272) rfl rfl ?_
              refine ownGo (T' := T95) (f' := (mkF m 274 #[iv p0, iv p1, iv p2, iv p3, iv (1114111 : Int32), iv v1, iv v2, iv la, rv b4, iv (1 : Int32), iv v71, rv b95] [(.int v1)])) (ownIaload FP95_0 X95 hx hZ rfl (j := (0 : Int32)) (by unfold ownIn; decide) (g := (mkF m 273 #[iv p0, iv p1, iv p2, iv p3, iv (1114111 : Int32), iv v1, iv v2, iv la, rv b4, iv (1 : Int32), iv v71, rv b95] [(.int (0 : Int32)), (.ref b95)])) rfl rfl (hb hby at_273)) ?_
              refine ow_iload (q := 276) X95 hx (hb hby at_274) rfl rfl ?_
              refine ow_icmpNo (q := 279) X95 hx (hb hby at_276) rfl (Jvm.Free.XT.ii_ne_f rfl) ?_
              refine ow_iconst (q := 280) X95 hx (1 : Int32) (hb hby at_279) rfl rfl ?_
              refine ow_goto (q := 284) X95 hx (hb hby at_280) (by decide) (by decide) ?_
              refine ow_istore (q := 286) X95 hx (L' := #[iv p0, iv p1, iv p2, iv p3, iv (1114111 : Int32), iv v1, iv v2, iv la, rv b4, iv (1 : Int32), iv v71, rv b95]) (hb hby at_284) rfl rfl ?_
              refine ow_goto (q := 328) X95 hx (hb hby at_286) (by decide) (by decide) ?_
              refine ow_iload (q := 330) X95 hx (hb hby at_328) rfl rfl ?_
              refine ownRetN X95 hx (r := (1 : Int32)) (Or.inl rfl) Bd.returns (hb hby at_330) hlk (by decide) (by decide) (by decide) ?_
              exact ⟨rfl, N95⟩
  refine ow_iload (q := 22) X0 hx (hb hby at_20) rfl rfl ?_
  by_cases hc22_99 : v2 = (0 : Int32)
  · refine ow_ifNo (q := 25) X0 hx (hb hby at_22) rfl (Jvm.Free.XT.i0_ne_f hc22_99) ?_
    refine ow_iload (q := 27) X0 hx (hb hby at_25) rfl rfl ?_
    refine ow_istore (q := 29) X0 hx (L' := #[iv p0, iv p1, iv p2, iv p3, iv (1114111 : Int32), iv v1, iv v2, iv (1114111 : Int32), .unset, .unset, .unset, .unset]) (hb hby at_27) rfl rfl ?_
    refine ow_goto (q := 62) X0 hx (hb hby at_29) (by decide) (by decide) ?_
    exact cut62_3 (1114111 : Int32) _ _ X0 e0 N0 (own_l0 hv_v1)
  · refine ow_ifYes (q := 32) X0 hx (hb hby at_22) (Jvm.Free.XT.i0_ne_t hc22_99) (by decide) (by decide) ?_
    refine ow_iload (q := 34) X0 hx (hb hby at_32) rfl rfl ?_
    refine ow_iconst (q := 35) X0 hx (1 : Int32) (hb hby at_34) rfl rfl ?_
    by_cases hc35_100 : v2 = (1 : Int32)
    · refine ow_icmpNo (q := 38) X0 hx (hb hby at_35) rfl (Jvm.Free.XT.ii_ne_f hc35_100) ?_
      refine ow_iload (q := 40) X0 hx (hb hby at_38) rfl rfl ?_
      refine ow_istore (q := 42) X0 hx (L' := #[iv p0, iv p1, iv p2, iv p3, iv (1114111 : Int32), iv v1, iv v2, iv v1, .unset, .unset, .unset, .unset]) (hb hby at_40) rfl rfl ?_
      refine ow_goto (q := 62) X0 hx (hb hby at_42) (by decide) (by decide) ?_
      exact cut62_3 v1 _ _ X0 e0 N0 (own_l1 hv_v1)
    · refine ow_icmpYes (q := 45) X0 hx (hb hby at_35) (Jvm.Free.XT.ii_ne_t hc35_100) (by decide) (by decide) ?_
      refine ow_iload (q := 47) X0 hx (hb hby at_45) rfl rfl ?_
      refine ow_iloadN (q := 48) X0 hx (hb hby at_47) rfl rfl ?_
      refine ownGo (T' := s₁) (f' := (mkF m 50 #[iv p0, iv p1, iv p2, iv p3, iv (1114111 : Int32), iv v1, iv v2, .unset, .unset, .unset, .unset, .unset] [(.int (2147483647 : Int32)), (.int p1), (.int v1)])) (X0.ldcInt hx hown (mvT hZ (hw _ (List.mem_of_getElem? (i := 1) rfl))) (g := (mkF m 48 #[iv p0, iv p1, iv p2, iv p3, iv (1114111 : Int32), iv v1, iv v2, .unset, .unset, .unset, .unset, .unset] [(.int p1), (.int v1)])) rfl (hb hby at_48)) ?_
      refine ow_iand (q := 51) X0 hx _ (hb hby at_50) rfl rfl ?_
      refine ow_iload (q := 53) X0 hx (hb hby at_51) rfl rfl ?_
      refine ow_iconst (q := 54) X0 hx (1 : Int32) (hb hby at_53) rfl rfl ?_
      refine ow_iadd (q := 55) X0 hx (1114112 : Int32) (hb hby at_54) rfl (by decide) ?_
      refine ow_iload (q := 57) X0 hx (hb hby at_55) rfl rfl ?_
      refine ow_isub (q := 58) X0 hx _ (hb hby at_57) rfl rfl ?_
      refine ow_irem (q := 59) X0 hx _ (hb hby at_58) rfl (own_nz hv_v1) rfl ?_
      refine ow_iadd (q := 60) X0 hx _ (hb hby at_59) rfl rfl ?_
      generalize hv_v101 : (v1 + ((p1 &&& (2147483647 : Int32)) % ((1114112 : Int32) - v1))) = v101
      refine ow_istore (q := 62) X0 hx (L' := #[iv p0, iv p1, iv p2, iv p3, iv (1114111 : Int32), iv v1, iv v2, iv v101, .unset, .unset, .unset, .unset]) (hb hby at_60) rfl rfl ?_
      exact cut62_3 v101 _ _ X0 e0 N0 (own_l2 hv_v1 hv_v101)
set_option maxRecDepth 65536 in
set_option maxHeartbeats 40000000 in
theorem comes_1 {Post : Tables → Env → Array Value → State → Outcome → State → Prop} (hpost : ∀ tb e args s v u, (limb_1_1.after args s (.returned v) u = true ∧ limb_1_2.after args s (.returned v) u = true ∧ True) → FrameEnd s (.returned v) u (Jvm.fieldLocs frame_1_writes args s ++ Jvm.arrayLocs frame_1_arrays args s ++ Jvm.staticLocs frame_1_statics s) 16 128 → Post tb e args s (.returned v) u) :
    ArmFor flags0 classFile x code maxLocals ret World_1 tables_1 room_1 Calls_1 rest_1 Pre_1 Post := by
  intro l hfl _ _ p e ha hc hk s m args below hf hA hF happ hP
  obtain ⟨hcalls, hrest, hpre⟩ := hP
  obtain ⟨-, -, -, hnamed, -, -, -, hat⟩ := (Spec.applies_iff hf).mp happ
  obtain ⟨hg, hn⟩ := and_e (Cond.before_iff.mp (show (Jvm.Cond.and given_1 narrow_1).before args s = true from hpre))
  obtain ⟨gg1, gg2⟩ := and_e hg
  obtain ⟨gg3, gg4⟩ := and_e gg2
  obtain ⟨gg5, gg6⟩ := and_e gg4
  obtain ⟨gg7, gg8⟩ := and_e gg6
  obtain ⟨w0, w1, w2, w3, rfl⟩ : ∃ w0 w1 w2 w3 : Value, args = #[w0, w1, w2, w3] := by
    have hs : args.size = 4 := by simpa [Cond.value, given_1] using gg1
    obtain ⟨L⟩ := args
    match L, hs with
    | [w0, w1, w2, w3], _ => exact ⟨w0, w1, w2, w3, rfl⟩
  have hw := fun d (hd : d ∈ tables_1) => atoms_spec (ws := Jvm.Cond.code x code maxLocals ret :: tables_1) hat d (List.mem_cons_of_mem _ hd)
  have hfit : Fit s := fun {y c} hc i hi => by
    obtain ⟨ha, rfl⟩ := Array.getElem?_eq_some_iff.mp hc
    have q := List.all_eq_true.mp ((Array.all_eq_true_iff_forall_mem.mp hF) _ (Array.getElem_mem ha)) i (List.mem_range.mpr hi)
    simpa [Array.getElem?_eq_getElem hi] using q
  obtain ⟨i0, ei0⟩ := is_v gg3
  obtain rfl : w0 = (.int i0) := Option.some.inj ei0
  obtain ⟨i1, ei1⟩ := is_v gg5
  obtain rfl : w1 = (.int i1) := Option.some.inj ei1
  obtain ⟨i2, ei2⟩ := is_v gg7
  obtain rfl : w2 = (.int i2) := Option.some.inj ei2
  obtain ⟨i3, ei3⟩ := is_v gg8
  obtain rfl : w3 = (.int i3) := Option.some.inj ei3
  obtain ⟨n, o, h1, h2, h3, _, L, rfl, ⟨rfl, N⟩, hq⟩ := rm_law l s _ hw tables_1 i0 i1 i2 i3  s.heap s.heap.size (Nat.le_refl _)  p e ha hc hk s m _ below hf ((Spec.applies_iff_loose hf).mp happ).1 ⟨rfl, State.Warmed39.refl s, rfl⟩ trivial
  refine ⟨n, _, h1, h2, h3, hpost _ _ _ _ _ _ ⟨Cond.after_iff.mpr rfl, Cond.after_iff.mpr (eq_i res_at (Term.int_eval (1)) rfl), trivial⟩ ⟨hq.1, hq.2.1, (hq.2.2.sift fun y hy => Or.inr (N y hy)).mono (by decide) (by decide)⟩⟩
theorem main_1_1 : Claimed_1_1 := comes_1 fun _ _ _ _ _ _ h hF => ⟨h.1, hF⟩
theorem main_1_2 : Claimed_1_2 := comes_1 fun _ _ _ _ _ _ h hF => ⟨h.2.1, hF⟩
end Jvm.Pilot.@@N@@
namespace Jvm.Pilot.@@N@@
open Jvm Jvm.ClassFile Sem Op Lib Jvm.Free Jvm.Stand Jvm.Pilot.@@N@@.Jvm.D
/-! MADE BY PROGRAM (witnessworld.py) out of the Statement's table words and the real class files: 12 classes; the members and pool entries that the words name. The judged class is class 1, her method 1. -/
namespace start1
open Jvm.ClassFile
def u (s : String) : CpInfo := .utf8 (stringToUtf16 s)
/-- a pool by its gaps: so many unusable entries, then the entry; so many at the end -/
def gap : Nat → List CpInfo → List CpInfo
  | 0, r => r
  | n + 1, r => .unusable :: gap n r
def poolList (es : List (Nat × CpInfo)) (last : Nat) : List CpInfo := es.foldr (fun e r => gap e.1 (e.2 :: r)) (gap last [])
def pool (es : List (Nat × CpInfo)) (last : Nat) : Array CpInfo := ⟨poolList es last⟩
def fileOf (pool : Array CpInfo) (this : Nat) (attrs : Array Attribute := #[]) (ms : Array MethodInfo := #[]) (fl : Nat := 33) (sup : Nat := 0) (ifs : Array Nat := #[]) (fds : Array FieldInfo := #[]) : ClassFile where
  minorVersion := 0
  majorVersion := 65
  constantPool := pool
  accessFlags := fl
  thisClass := this
  superClass := sup
  interfaces := ifs
  fields := fds
  methods := ms
  attributes := attrs
def plain (name : String) (sup : Option ClassId) : Class where
  name := name
  kind := .ordinary
  loader := none
  accessFlags := 33
  super := sup
  interfaces := #[]
  cf := none
  fields := #[]
  methods := #[]
  instanceTypes := #[]
  staticTypes := #[]
  resolved := #[]
  callSites := []
  init := .initialized
  statics := none
  mirror := none

def pool0 : Array CpInfo := pool [(5, u "<init>"), (0, u "()V"), (1, .class_ 10), (1, u "java/lang/Object"), (85, u "clone"), (0, u "()Ljava/lang/Object;")] 26

def k0c0 : Code := { maxStack := 0, maxLocals := 1, code := object_method_1_code, exceptionTable := #[], attributes := #[] }
def k0m0 : Method := { name := "<init>", desc := "()V", sig := { parameters := [], returnType := none }, accessFlags := 1, code := some k0c0 }
def k0m1 : Method := { name := "clone", desc := "()Ljava/lang/Object;", sig := { parameters := [], returnType := some (.object "java/lang/Object") }, accessFlags := 260, code := none }
/-- java/lang/Object -/
def k0 : Class := { plain "java/lang/Object" none with
  accessFlags := 33
  interfaces := #[]
  cf := some (fileOf pool0 8 #[] #[{ accessFlags := 1, nameIndex := 5, descriptorIndex := 6, attributes := #[] }, { accessFlags := 260, nameIndex := 96, descriptorIndex := 97, attributes := #[] }] 33 0 #[] #[])
  fields := #[]
  methods := #[k0m0, k0m1]
  instanceTypes := #[]
  staticTypes := #[]
  resolved := Array.replicate 124 none
  statics := none }

def pool1 : Array CpInfo := pool [(2, .class_ 4), (1, u "java/lang/Object"), (0, u "<init>"), (0, u "()V"), (0, .integer 1114111), (0, .integer 2147483647), (0, .methodref 10 11), (0, .class_ 12), (0, .nameAndType 13 14), (0, u "com/example/shapewright/shapewright/regex/CodePointSet"), (0, u "range"), (0, u "(II)Lcom/example/shapewright/shapewright/regex/CodePointSet;"), (0, .methodref 10 16), (0, .nameAndType 17 18), (0, u "isEmpty"), (0, u "()Z"), (0, .methodref 10 20), (0, .nameAndType 21 22), (0, u "contains"), (0, u "(I)Z"), (0, .methodref 10 24), (0, .nameAndType 25 26), (0, u "edges"), (0, u "()[I"), (0, .class_ 28), (0, u "com/example/shapewright/shapewright/regex/CodePointSetRangePinLaw"), (2, u "law"), (0, u "(IIII)Z")] 5

def k1m0 : Method := { name := "<init>", desc := "()V", sig := { parameters := [], returnType := none }, accessFlags := 1, code := none }
def k1c1 : Code := { maxStack := 4, maxLocals := 12, code := code, exceptionTable := #[], attributes := #[] }
def k1m1 : Method := { name := "law", desc := "(IIII)Z", sig := { parameters := [.int, .int, .int, .int], returnType := some .boolean }, accessFlags := 9, code := some k1c1 }
/-- com/example/shapewright/shapewright/regex/CodePointSetRangePinLaw -/
def k1 : Class := { plain "com/example/shapewright/shapewright/regex/CodePointSetRangePinLaw" (some 0) with
  accessFlags := 49
  interfaces := #[]
  cf := some (fileOf pool1 27 #[] #[{ accessFlags := 1, nameIndex := 5, descriptorIndex := 6, attributes := #[] }, { accessFlags := 9, nameIndex := 31, descriptorIndex := 32, attributes := #[] }] 49 2 #[] #[])
  fields := #[]
  methods := #[k1m0, k1m1]
  instanceTypes := #[]
  staticTypes := #[]
  resolved := Array.replicate 38 none
  statics := none }

def pool2 : Array CpInfo := pool [(3, .methodref 4 5), (0, .class_ 6), (0, .nameAndType 7 8), (0, u "java/lang/Object"), (0, u "<init>"), (0, u "()V"), (0, .fieldref 10 11), (0, .class_ 12), (0, .nameAndType 13 14), (0, u "com/example/shapewright/shapewright/regex/CodePointSet"), (0, u "ranges"), (0, u "[I"), (0, .methodref 10 16), (0, .nameAndType 7 17), (0, u "([I)V"), (2, u "range"), (0, u "(II)Lcom/example/shapewright/shapewright/regex/CodePointSet;"), (6, .class_ 30), (1, u "java/util/Arrays"), (1, .class_ 33), (0, u "com/example/shapewright/shapewright/regex/CodePointSet$Builder"), (9, .integer 1114111), (0, .methodref 28 45), (0, .nameAndType 46 47), (0, u "copyOf"), (0, u "([II)[I"), (2, u "isEmpty"), (0, u "()Z"), (54, u "EMPTY"), (0, u "Lcom/example/shapewright/shapewright/regex/CodePointSet;"), (2, u "ALL"), (0, u "MAX"), (0, u "I"), (7, u "contains"), (0, u "(I)Z"), (0, u "edges"), (0, u "()[I")] 35

def k2c0 : Code := { maxStack := 2, maxLocals := 2, code := prog_17_method_1_code, exceptionTable := #[], attributes := #[] }
def k2m0 : Method := { name := "<init>", desc := "([I)V", sig := { parameters := [(.array .int)], returnType := none }, accessFlags := 2, code := some k2c0 }
def k2c1 : Code := { maxStack := 6, maxLocals := 2, code := prog_17_method_2_code, exceptionTable := #[], attributes := #[] }
def k2m1 : Method := { name := "range", desc := "(II)Lcom/example/shapewright/shapewright/regex/CodePointSet;", sig := { parameters := [.int, .int], returnType := some (.object "com/example/shapewright/shapewright/regex/CodePointSet") }, accessFlags := 8, code := some k2c1 }
def k2c2 : Code := { maxStack := 4, maxLocals := 5, code := prog_17_method_5_code, exceptionTable := #[], attributes := #[] }
def k2m2 : Method := { name := "contains", desc := "(I)Z", sig := { parameters := [.int], returnType := some .boolean }, accessFlags := 0, code := some k2c2 }
def k2c3 : Code := { maxStack := 1, maxLocals := 1, code := prog_17_method_6_code, exceptionTable := #[], attributes := #[] }
def k2m3 : Method := { name := "isEmpty", desc := "()Z", sig := { parameters := [], returnType := some .boolean }, accessFlags := 0, code := some k2c3 }
def k2c4 : Code := { maxStack := 5, maxLocals := 4, code := prog_17_method_7_code, exceptionTable := #[], attributes := #[] }
def k2m4 : Method := { name := "edges", desc := "()[I", sig := { parameters := [], returnType := some (.array .int) }, accessFlags := 0, code := some k2c4 }
/-- com/example/shapewright/shapewright/regex/CodePointSet -/
def k2 : Class := { plain "com/example/shapewright/shapewright/regex/CodePointSet" (some 0) with
  accessFlags := 48
  interfaces := #[]
  cf := some (fileOf pool2 10 #[.nestMembers #[32]] #[{ accessFlags := 2, nameIndex := 7, descriptorIndex := 17, attributes := #[] }, { accessFlags := 8, nameIndex := 20, descriptorIndex := 21, attributes := #[] }, { accessFlags := 0, nameIndex := 120, descriptorIndex := 121, attributes := #[] }, { accessFlags := 0, nameIndex := 50, descriptorIndex := 51, attributes := #[] }, { accessFlags := 0, nameIndex := 122, descriptorIndex := 123, attributes := #[] }] 48 4 #[] #[{ accessFlags := 24, nameIndex := 111, descriptorIndex := 112, attributes := #[] }, { accessFlags := 24, nameIndex := 106, descriptorIndex := 107, attributes := #[] }, { accessFlags := 24, nameIndex := 110, descriptorIndex := 107, attributes := #[] }, { accessFlags := 18, nameIndex := 13, descriptorIndex := 14, attributes := #[] }])
  fields := #[{ name := "MAX", type := .int, accessFlags := 24, slot := 0, constantValue := 0 }, { name := "EMPTY", type := (.object "com/example/shapewright/shapewright/regex/CodePointSet"), accessFlags := 24, slot := 1, constantValue := 0 }, { name := "ALL", type := (.object "com/example/shapewright/shapewright/regex/CodePointSet"), accessFlags := 24, slot := 2, constantValue := 0 }, { name := "ranges", type := (.array .int), accessFlags := 18, slot := 0, constantValue := 0 }]
  methods := #[k2m0, k2m1, k2m2, k2m3, k2m4]
  instanceTypes := #[(.array .int)]
  staticTypes := #[.int, (.object "com/example/shapewright/shapewright/regex/CodePointSet"), (.object "com/example/shapewright/shapewright/regex/CodePointSet")]
  resolved := Array.replicate 159 none
  statics := none }

def pool3 : Array CpInfo := pool [(2, .class_ 4), (1, u "java/lang/Object"), (0, u "<init>"), (0, u "()V"), (7, .class_ 16), (1, u "java/util/Arrays"), (57, .class_ 76), (1, u "java/util/Arrays$NaturalOrder"), (32, u "()Ljava/lang/Object;"), (3, .class_ 115), (1, u "java/util/Arrays$LegacyMergeSort"), (1, u "Z"), (10, .nameAndType 129 109), (0, u "clone"), (20, .methodref 151 152), (0, .class_ 153), (0, .nameAndType 154 155), (0, u "java/lang/System"), (0, u "arraycopy"), (0, u "(Ljava/lang/Object;ILjava/lang/Object;II)V"), (146, u "copyOf"), (1, .methodref 305 306), (0, .class_ 307), (0, .nameAndType 308 309), (0, u "java/lang/Math"), (0, u "min"), (0, u "(II)I"), (6, .methodref 317 128), (0, .class_ 318), (0, u "[I"), (56, .class_ 376), (0, u "java/util/Arrays$ArrayList"), (68, u "$assertionsDisabled"), (269, u "MIN_ARRAY_SORT_GRAN"), (0, u "I"), (2, u "INSERTIONSORT_THRESHOLD"), (151, u "([II)[I"), (103, .class_ 976), (0, u "java/util/Arrays$ArrayItr")] 52

def k3m0 : Method := { name := "<init>", desc := "()V", sig := { parameters := [], returnType := none }, accessFlags := 2, code := none }
def k3c1 : Code := { maxStack := 6, maxLocals := 3, code := jdk_65_method_123_code, exceptionTable := #[], attributes := #[] }
def k3m1 : Method := { name := "copyOf", desc := "([II)[I", sig := { parameters := [(.array .int), .int], returnType := some (.array .int) }, accessFlags := 9, code := some k3c1 }
/-- java/util/Arrays -/
def k3 : Class := { plain "java/util/Arrays" (some 0) with
  accessFlags := 49
  interfaces := #[]
  cf := some (fileOf pool3 14 #[.nestMembers #[975, 375, 113, 74]] #[{ accessFlags := 2, nameIndex := 5, descriptorIndex := 6, attributes := #[] }, { accessFlags := 9, nameIndex := 302, descriptorIndex := 871, attributes := #[] }] 49 2 #[] #[{ accessFlags := 26, nameIndex := 715, descriptorIndex := 716, attributes := #[] }, { accessFlags := 26, nameIndex := 719, descriptorIndex := 716, attributes := #[] }, { accessFlags := 4120, nameIndex := 445, descriptorIndex := 117, attributes := #[] }])
  fields := #[{ name := "MIN_ARRAY_SORT_GRAN", type := .int, accessFlags := 26, slot := 0, constantValue := 0 }, { name := "INSERTIONSORT_THRESHOLD", type := .int, accessFlags := 26, slot := 1, constantValue := 0 }, { name := "$assertionsDisabled", type := .boolean, accessFlags := 4120, slot := 2, constantValue := 0 }]
  methods := #[k3m0, k3m1]
  instanceTypes := #[]
  staticTypes := #[.int, .int, .boolean]
  resolved := Array.replicate 1029 none
  statics := none }

def pool4 : Array CpInfo := pool [(1, .class_ 2), (0, u "java/lang/Cloneable"), (0, .class_ 4), (0, u "java/lang/Object")] 2

/-- java/lang/Cloneable -/
def k4 : Class := { plain "java/lang/Cloneable" (some 0) with
  accessFlags := 1537
  interfaces := #[]
  cf := some (fileOf pool4 1 #[] #[] 1537 3 #[] #[])
  fields := #[]
  methods := #[]
  instanceTypes := #[]
  staticTypes := #[]
  resolved := Array.replicate 7 none
  statics := none }

def pool5 : Array CpInfo := pool [(1, .class_ 2), (0, u "java/lang/Math"), (1, .class_ 6), (1, u "java/lang/Object"), (0, u "<init>"), (0, u "()V"), (89, .class_ 100), (1, u "java/lang/Math$RandomNumberGeneratorHolder"), (71, u "negativeZeroFloatBits"), (0, u "J"), (2, u "negativeZeroDoubleBits"), (24, u "min"), (43, u "$assertionsDisabled"), (0, u "Z"), (88, u "(II)I"), (2, u "twoToTheDoubleScaleDown"), (0, u "D"), (4, u "twoToTheDoubleScaleUp"), (9, u "E"), (3, u "PI"), (2, u "TAU"), (2, u "DEGREES_TO_RADIANS"), (0, u "RADIANS_TO_DEGREES")] 94

def k5m0 : Method := { name := "<init>", desc := "()V", sig := { parameters := [], returnType := none }, accessFlags := 2, code := none }
def k5c1 : Code := { maxStack := 2, maxLocals := 2, code := jdk_29_method_69_code, exceptionTable := #[], attributes := #[] }
def k5m1 : Method := { name := "min", desc := "(II)I", sig := { parameters := [.int, .int], returnType := some .int }, accessFlags := 9, code := some k5c1 }
/-- java/lang/Math -/
def k5 : Class := { plain "java/lang/Math" (some 0) with
  accessFlags := 49
  interfaces := #[]
  cf := some (fileOf pool5 1 #[.nestMembers #[98]] #[{ accessFlags := 2, nameIndex := 7, descriptorIndex := 8, attributes := #[] }, { accessFlags := 9, nameIndex := 201, descriptorIndex := 335, attributes := #[] }] 49 4 #[] #[{ accessFlags := 25, nameIndex := 354, descriptorIndex := 339, attributes := #[] }, { accessFlags := 25, nameIndex := 358, descriptorIndex := 339, attributes := #[] }, { accessFlags := 25, nameIndex := 361, descriptorIndex := 339, attributes := #[] }, { accessFlags := 26, nameIndex := 364, descriptorIndex := 339, attributes := #[] }, { accessFlags := 26, nameIndex := 365, descriptorIndex := 339, attributes := #[] }, { accessFlags := 26, nameIndex := 172, descriptorIndex := 173, attributes := #[] }, { accessFlags := 26, nameIndex := 176, descriptorIndex := 173, attributes := #[] }, { accessFlags := 8, nameIndex := 344, descriptorIndex := 339, attributes := #[] }, { accessFlags := 8, nameIndex := 338, descriptorIndex := 339, attributes := #[] }, { accessFlags := 4120, nameIndex := 245, descriptorIndex := 246, attributes := #[] }])
  fields := #[{ name := "E", type := .double, accessFlags := 25, slot := 0, constantValue := 0 }, { name := "PI", type := .double, accessFlags := 25, slot := 1, constantValue := 0 }, { name := "TAU", type := .double, accessFlags := 25, slot := 2, constantValue := 0 }, { name := "DEGREES_TO_RADIANS", type := .double, accessFlags := 26, slot := 3, constantValue := 0 }, { name := "RADIANS_TO_DEGREES", type := .double, accessFlags := 26, slot := 4, constantValue := 0 }, { name := "negativeZeroFloatBits", type := .long, accessFlags := 26, slot := 5, constantValue := 0 }, { name := "negativeZeroDoubleBits", type := .long, accessFlags := 26, slot := 6, constantValue := 0 }, { name := "twoToTheDoubleScaleUp", type := .double, accessFlags := 8, slot := 7, constantValue := 0 }, { name := "twoToTheDoubleScaleDown", type := .double, accessFlags := 8, slot := 8, constantValue := 0 }, { name := "$assertionsDisabled", type := .boolean, accessFlags := 4120, slot := 9, constantValue := 0 }]
  methods := #[k5m0, k5m1]
  instanceTypes := #[]
  staticTypes := #[.double, .double, .double, .double, .double, .long, .long, .double, .double, .boolean]
  resolved := Array.replicate 460 none
  statics := none }

def pool6 : Array CpInfo := pool [(2, .class_ 4), (1, u "java/lang/Object"), (0, u "<init>"), (0, u "()V"), (1, .class_ 10), (1, u "java/lang/System"), (0, u "allowSecurityManager"), (0, u "I"), (16, u "cons"), (0, u "Ljava/io/Console;"), (77, .class_ 110), (1, u "java/lang/System$CallersHolder"), (43, u "initialErrStream"), (0, u "Ljava/io/PrintStream;"), (19, u "security"), (0, u "Ljava/lang/SecurityManager;"), (31, .class_ 209), (0, u "java/lang/System$1"), (7, u "props"), (0, u "Ljava/util/Properties;"), (2, u "lineSeparator"), (0, u "Ljava/lang/String;"), (96, .class_ 321), (1, u "java/lang/System$LoggerFinder"), (5, .class_ 328), (0, u "java/lang/System$Logger"), (67, u "err"), (2, u "out"), (91, u "notSupportedJnuEncoding"), (15, u "in"), (17, u "initialIn"), (0, u "Ljava/io/InputStream;"), (35, u "bootLayer"), (0, u "Ljava/lang/ModuleLayer;"), (99, .class_ 664), (0, u "java/lang/System$2"), (9, u "NEVER"), (2, u "MAYBE"), (49, u "arraycopy"), (0, u "(Ljava/lang/Object;ILjava/lang/Object;II)V"), (72, .class_ 802), (0, u "java/lang/System$Logger$Level")] 31

def k6m0 : Method := { name := "<init>", desc := "()V", sig := { parameters := [], returnType := none }, accessFlags := 2, code := none }
def k6m1 : Method := { name := "arraycopy", desc := "(Ljava/lang/Object;ILjava/lang/Object;II)V", sig := { parameters := [(.object "java/lang/Object"), .int, (.object "java/lang/Object"), .int, .int], returnType := none }, accessFlags := 265, code := none }
/-- java/lang/System -/
def k6 : Class := { plain "java/lang/System" (some 0) with
  accessFlags := 49
  interfaces := #[]
  cf := some (fileOf pool6 8 #[.nestMembers #[319, 327, 801, 108, 663, 208]] #[{ accessFlags := 2, nameIndex := 5, descriptorIndex := 6, attributes := #[] }, { accessFlags := 265, nameIndex := 727, descriptorIndex := 728, attributes := #[] }] 49 2 #[] #[{ accessFlags := 25, nameIndex := 507, descriptorIndex := 526, attributes := #[] }, { accessFlags := 25, nameIndex := 399, descriptorIndex := 155, attributes := #[] }, { accessFlags := 25, nameIndex := 396, descriptorIndex := 155, attributes := #[] }, { accessFlags := 10, nameIndex := 525, descriptorIndex := 526, attributes := #[] }, { accessFlags := 26, nameIndex := 674, descriptorIndex := 12, attributes := #[] }, { accessFlags := 26, nameIndex := 677, descriptorIndex := 12, attributes := #[] }, { accessFlags := 10, nameIndex := 11, descriptorIndex := 12, attributes := #[] }, { accessFlags := 74, nameIndex := 175, descriptorIndex := 176, attributes := #[] }, { accessFlags := 10, nameIndex := 491, descriptorIndex := 222, attributes := #[] }, { accessFlags := 74, nameIndex := 29, descriptorIndex := 30, attributes := #[] }, { accessFlags := 74, nameIndex := 154, descriptorIndex := 155, attributes := #[] }, { accessFlags := 10, nameIndex := 217, descriptorIndex := 218, attributes := #[] }, { accessFlags := 10, nameIndex := 221, descriptorIndex := 222, attributes := #[] }, { accessFlags := 8, nameIndex := 562, descriptorIndex := 563, attributes := #[] }])
  fields := #[{ name := "in", type := (.object "java/io/InputStream"), accessFlags := 25, slot := 0, constantValue := 0 }, { name := "out", type := (.object "java/io/PrintStream"), accessFlags := 25, slot := 1, constantValue := 0 }, { name := "err", type := (.object "java/io/PrintStream"), accessFlags := 25, slot := 2, constantValue := 0 }, { name := "initialIn", type := (.object "java/io/InputStream"), accessFlags := 10, slot := 3, constantValue := 0 }, { name := "NEVER", type := .int, accessFlags := 26, slot := 4, constantValue := 0 }, { name := "MAYBE", type := .int, accessFlags := 26, slot := 5, constantValue := 0 }, { name := "allowSecurityManager", type := .int, accessFlags := 10, slot := 6, constantValue := 0 }, { name := "security", type := (.object "java/lang/SecurityManager"), accessFlags := 74, slot := 7, constantValue := 0 }, { name := "notSupportedJnuEncoding", type := (.object "java/lang/String"), accessFlags := 10, slot := 8, constantValue := 0 }, { name := "cons", type := (.object "java/io/Console"), accessFlags := 74, slot := 9, constantValue := 0 }, { name := "initialErrStream", type := (.object "java/io/PrintStream"), accessFlags := 74, slot := 10, constantValue := 0 }, { name := "props", type := (.object "java/util/Properties"), accessFlags := 10, slot := 11, constantValue := 0 }, { name := "lineSeparator", type := (.object "java/lang/String"), accessFlags := 10, slot := 12, constantValue := 0 }, { name := "bootLayer", type := (.object "java/lang/ModuleLayer"), accessFlags := 8, slot := 13, constantValue := 0 }]
  methods := #[k6m0, k6m1]
  instanceTypes := #[]
  staticTypes := #[(.object "java/io/InputStream"), (.object "java/io/PrintStream"), (.object "java/io/PrintStream"), (.object "java/io/InputStream"), .int, .int, .int, (.object "java/lang/SecurityManager"), (.object "java/lang/String"), (.object "java/io/Console"), (.object "java/io/PrintStream"), (.object "java/util/Properties"), (.object "java/lang/String"), (.object "java/lang/ModuleLayer")]
  resolved := Array.replicate 834 none
  statics := none }

def pool7 : Array CpInfo := pool [(1, u "java/io/Serializable"), (0, .class_ 1), (0, u "java/lang/Object"), (0, .class_ 3)] 3

/-- java/io/Serializable -/
def k7 : Class := { plain "java/io/Serializable" (some 0) with
  accessFlags := 1537
  interfaces := #[]
  cf := some (fileOf pool7 2 #[] #[] 1537 4 #[] #[])
  fields := #[]
  methods := #[]
  instanceTypes := #[]
  staticTypes := #[]
  resolved := Array.replicate 8 none
  statics := none }

/-- the primitive byte -/
def k8 : Class := { plain "byte" none with kind := .primitive 'B', accessFlags := 0x411 }
/-- [B -/
def k9 : Class := { plain "[B" (some 0) with kind := .array 8 .byte, interfaces := #[4, 7], accessFlags := 1041 }

/-- the primitive int -/
def k10 : Class := { plain "int" none with kind := .primitive 'I', accessFlags := 0x411 }
/-- [I -/
def k11 : Class := { plain "[I" (some 0) with kind := .array 10 .int, interfaces := #[4, 7], accessFlags := 1041 }

def heap : Heap := #[]
def classes : Array Class := #[k0, k1, k2, k3, k4, k5, k6, k7, k8, k9, k10, k11]
def interned : List (Array UInt16 × Addr) := []
def slotsUsed : Nat := 0
def theMethod : MethodId := ⟨1, 1⟩
def args0 : Array Value := #[.int 5, .int 6, .int 7, .int 8]
def aboutOver (below : List Frame) : State where
  vm := { classes := classes, interned := interned.toArray }
  heap := heap
  slotsUsed := slotsUsed
  threads := #[{ frames := .invoking theMethod args0 :: below }]
def below0 : List Frame := [.native { method := ⟨0, 0⟩, args := #[] }]
def about1 : State := aboutOver below0
def p0 : Program := .bare "" "" ""
def e0 : Env := launch0.env 0 0 0
theorem w_frames : about1.frames = Frame.invoking theMethod args0 :: below0 := rfl
set_option maxRecDepth 65536 in
theorem w_args : argsFit about1.vm theMethod args0 = true := by decide +kernel
set_option maxRecDepth 65536 in
theorem w_heap : heapFits about1 = true := by decide +kernel
set_option maxRecDepth 65536 in
theorem w_runnable : about1.curStatus? = some .runnable := by decide +kernel
set_option maxRecDepth 65536 in
theorem w_alone : about1.alone = true := by decide +kernel
set_option maxRecDepth 65536 in
theorem w_named : about1.methodNamed? x = some theMethod := by decide +kernel
set_option maxRecDepth 65536 in
theorem w_hears : about1.hears theMethod below0 = true := by decide +kernel
set_option maxRecDepth 65536 in
theorem w_ripe : about1.ripe theMethod args0 below0 = true := by decide +kernel
theorem w_running : about1.status = .running := rfl
set_option maxRecDepth 65536 in
theorem w_room : about1.hasRoom e0.platform room_1 = true :=
  launch0.hasRoom_least _ room_1 (by decide +kernel) (by decide +kernel) (by decide +kernel) (by decide +kernel) (by decide +kernel) (by decide +kernel)
theorem allAtoms_all (ts : List Jvm.Cond) (a : Array Jvm.Value) (st : Jvm.State) : (allAtoms ts).before a st = ts.all (fun c => c.before a st) := by
  induction ts with
  | nil => rfl
  | cons c t ih =>
    show (Jvm.Cond.and c (allAtoms t)).before a st = _
    rw [Jvm.Cond.before_and, ih, List.all_cons]
def words1 : List Jvm.Cond := Jvm.Cond.code x code maxLocals ret :: tables_1
/-- a 'code' word, met by the world's own term for the bytes: nothing is compared byte by byte -/
theorem code_word {y : MethodName} {bytes : ByteArray} {mx : Nat} {rt : Option FieldType} {a : Array Value} {s : State} {m : MethodId} {meth : Method} {c : Code} (h1 : s.methodNamed? y = some m) (h2 : s.vm.method? m = some meth) (h3 : meth.code = some c) (h4 : c.code = bytes)
    (h5 : (c.maxLocals == mx && c.exceptionTable.isEmpty && decide (c.maxStack ≤ mostOperands) && decide (meth.sig.returnType = rt) && !meth.locks && decide (parseMethodDescriptor y.desc = some meth.sig)) = true) : (Jvm.Cond.code y bytes mx rt).before a s = true := by
  simp only [Bool.and_eq_true, beq_iff_eq, Bool.not_eq_true', decide_eq_true_eq] at h5
  obtain ⟨⟨⟨⟨⟨g1, g2⟩, g3⟩, g4⟩, g5⟩, g6⟩ := h5
  simp [Cond.before, Cond.holds, Cond.value, h1, h2, h3, h4, g1, g2, g3, g4, g5, g6]
def isCode : Jvm.Cond → Bool
  | .code _ _ _ _ => true
  | _ => false
theorem all_split {L : List Jvm.Cond} {P : Jvm.Cond → Bool} (h1 : L.all (fun c => isCode c || P c) = true) (h2 : ∀ c ∈ L.filter isCode, P c = true) : L.all P = true := by
  refine List.all_eq_true.mpr fun c hc => ?_
  have h := List.all_eq_true.mp h1 c hc
  rcases Bool.eq_false_or_eq_true (isCode c) with hi | hi
  · exact h2 c (List.mem_filter.mpr ⟨hc, hi⟩)
  · simpa [hi] using h
set_option maxRecDepth 65536 in
theorem w_c0 : (Jvm.Cond.code x code maxLocals ret).before args0 about1 = true := code_word (m := ⟨1, 1⟩) (meth := k1m1) (c := k1c1) (by decide +kernel) rfl rfl rfl (by decide +kernel)
set_option maxRecDepth 65536 in
theorem w_c1 : (Jvm.Cond.code ({ cls := "com/example/shapewright/shapewright/regex/CodePointSet", name := "range", desc := "(II)Lcom/example/shapewright/shapewright/regex/CodePointSet;" } : Jvm.MethodName) prog_17_method_2_code (2 : Nat) (Option.some (Jvm.ClassFile.FieldType.object "com/example/shapewright/shapewright/regex/CodePointSet"))).before args0 about1 = true := code_word (m := ⟨2, 1⟩) (meth := k2m1) (c := k2c1) (by decide +kernel) rfl rfl rfl (by decide +kernel)
set_option maxRecDepth 65536 in
theorem w_c2 : (Jvm.Cond.code ({ cls := "com/example/shapewright/shapewright/regex/CodePointSet", name := "<init>", desc := "([I)V" } : Jvm.MethodName) prog_17_method_1_code (2 : Nat) (Option.none : Option Jvm.ClassFile.FieldType)).before args0 about1 = true := code_word (m := ⟨2, 0⟩) (meth := k2m0) (c := k2c0) (by decide +kernel) rfl rfl rfl (by decide +kernel)
set_option maxRecDepth 65536 in
theorem w_c3 : (Jvm.Cond.code ({ cls := "java/lang/Object", name := "<init>", desc := "()V" } : Jvm.MethodName) object_method_1_code (1 : Nat) (Option.none : Option Jvm.ClassFile.FieldType)).before args0 about1 = true := code_word (m := ⟨0, 0⟩) (meth := k0m0) (c := k0c0) (by decide +kernel) rfl rfl rfl (by decide +kernel)
set_option maxRecDepth 65536 in
theorem w_c4 : (Jvm.Cond.code ({ cls := "com/example/shapewright/shapewright/regex/CodePointSet", name := "isEmpty", desc := "()Z" } : Jvm.MethodName) prog_17_method_6_code (1 : Nat) (Option.some Jvm.ClassFile.FieldType.boolean)).before args0 about1 = true := code_word (m := ⟨2, 3⟩) (meth := k2m3) (c := k2c3) (by decide +kernel) rfl rfl rfl (by decide +kernel)
set_option maxRecDepth 65536 in
theorem w_c5 : (Jvm.Cond.code ({ cls := "com/example/shapewright/shapewright/regex/CodePointSet", name := "contains", desc := "(I)Z" } : Jvm.MethodName) prog_17_method_5_code (5 : Nat) (Option.some Jvm.ClassFile.FieldType.boolean)).before args0 about1 = true := code_word (m := ⟨2, 2⟩) (meth := k2m2) (c := k2c2) (by decide +kernel) rfl rfl rfl (by decide +kernel)
set_option maxRecDepth 65536 in
theorem w_c6 : (Jvm.Cond.code ({ cls := "com/example/shapewright/shapewright/regex/CodePointSet", name := "edges", desc := "()[I" } : Jvm.MethodName) prog_17_method_7_code (4 : Nat) (Option.some (Jvm.ClassFile.FieldType.array Jvm.ClassFile.FieldType.int))).before args0 about1 = true := code_word (m := ⟨2, 4⟩) (meth := k2m4) (c := k2c4) (by decide +kernel) rfl rfl rfl (by decide +kernel)
set_option maxRecDepth 65536 in
theorem w_c7 : (Jvm.Cond.code ({ cls := "java/util/Arrays", name := "copyOf", desc := "([II)[I" } : Jvm.MethodName) jdk_65_method_123_code (3 : Nat) (Option.some (Jvm.ClassFile.FieldType.array Jvm.ClassFile.FieldType.int))).before args0 about1 = true := code_word (m := ⟨3, 1⟩) (meth := k3m1) (c := k3c1) (by decide +kernel) rfl rfl rfl (by decide +kernel)
set_option maxRecDepth 65536 in
theorem w_c8 : (Jvm.Cond.code ({ cls := "java/lang/Math", name := "min", desc := "(II)I" } : Jvm.MethodName) jdk_29_method_69_code (2 : Nat) (Option.some Jvm.ClassFile.FieldType.int)).before args0 about1 = true := code_word (m := ⟨5, 1⟩) (meth := k5m1) (c := k5c1) (by decide +kernel) rfl rfl rfl (by decide +kernel)
def codes1 : List Jvm.Cond := [Jvm.Cond.code x code maxLocals ret, Jvm.Cond.code ({ cls := "com/example/shapewright/shapewright/regex/CodePointSet", name := "range", desc := "(II)Lcom/example/shapewright/shapewright/regex/CodePointSet;" } : Jvm.MethodName) prog_17_method_2_code (2 : Nat) (Option.some (Jvm.ClassFile.FieldType.object "com/example/shapewright/shapewright/regex/CodePointSet")), Jvm.Cond.code ({ cls := "com/example/shapewright/shapewright/regex/CodePointSet", name := "<init>", desc := "([I)V" } : Jvm.MethodName) prog_17_method_1_code (2 : Nat) (Option.none : Option Jvm.ClassFile.FieldType), Jvm.Cond.code ({ cls := "java/lang/Object", name := "<init>", desc := "()V" } : Jvm.MethodName) object_method_1_code (1 : Nat) (Option.none : Option Jvm.ClassFile.FieldType), Jvm.Cond.code ({ cls := "com/example/shapewright/shapewright/regex/CodePointSet", name := "isEmpty", desc := "()Z" } : Jvm.MethodName) prog_17_method_6_code (1 : Nat) (Option.some Jvm.ClassFile.FieldType.boolean), Jvm.Cond.code ({ cls := "com/example/shapewright/shapewright/regex/CodePointSet", name := "contains", desc := "(I)Z" } : Jvm.MethodName) prog_17_method_5_code (5 : Nat) (Option.some Jvm.ClassFile.FieldType.boolean), Jvm.Cond.code ({ cls := "com/example/shapewright/shapewright/regex/CodePointSet", name := "edges", desc := "()[I" } : Jvm.MethodName) prog_17_method_7_code (4 : Nat) (Option.some (Jvm.ClassFile.FieldType.array Jvm.ClassFile.FieldType.int)), Jvm.Cond.code ({ cls := "java/util/Arrays", name := "copyOf", desc := "([II)[I" } : Jvm.MethodName) jdk_65_method_123_code (3 : Nat) (Option.some (Jvm.ClassFile.FieldType.array Jvm.ClassFile.FieldType.int)), Jvm.Cond.code ({ cls := "java/lang/Math", name := "min", desc := "(II)I" } : Jvm.MethodName) jdk_29_method_69_code (2 : Nat) (Option.some Jvm.ClassFile.FieldType.int)]
set_option maxRecDepth 65536 in
theorem codes_eq : words1.filter isCode = codes1 := rfl
theorem w_codes : ∀ c ∈ words1.filter isCode, c.before args0 about1 = true := by
  rw [codes_eq]
  intro c hc
  simp only [codes1, List.mem_cons, List.not_mem_nil, or_false] at hc
  rcases hc with rfl | rfl | rfl | rfl | rfl | rfl | rfl | rfl | rfl
  · exact w_c0
  · exact w_c1
  · exact w_c2
  · exact w_c3
  · exact w_c4
  · exact w_c5
  · exact w_c6
  · exact w_c7
  · exact w_c8
set_option maxRecDepth 65536 in
theorem w_t1 : (words1.take 24).all (fun c => isCode c || c.before args0 about1) = true := by decide +kernel
set_option maxRecDepth 65536 in
theorem w_t2 : ((words1.drop 24).take 24).all (fun c => isCode c || c.before args0 about1) = true := by decide +kernel
set_option maxRecDepth 65536 in
theorem w_t3 : ((words1.drop 24).drop 24).all (fun c => isCode c || c.before args0 about1) = true := by decide +kernel
theorem w_tables : (allAtoms (Jvm.Cond.code x code maxLocals ret :: tables_1)).before args0 about1 = true := by
  rw [allAtoms_all]
  show words1.all (fun c => c.before args0 about1) = true
  refine all_split ?_ w_codes
  rw [← List.take_append_drop 24 words1, List.all_append, w_t1, ← List.take_append_drop 24 (words1.drop 24), List.all_append, w_t2, w_t3]
  rfl
set_option maxRecDepth 65536 in
theorem w_case : (Jvm.Cond.and given_1 narrow_1).before args0 about1 = true := by decide +kernel
theorem w_applies : (headSpec (Jvm.Cond.code x code maxLocals ret :: tables_1) room_1).applies x e0.platform about1 = true :=
  (Spec.applies_iff w_frames).mpr ⟨w_running, w_runnable, w_alone, w_named, w_hears, w_ripe, w_room, w_tables⟩
theorem atStart : AtStart classFile x code maxLocals ret World_1 tables_1 room_1 Calls_1 rest_1 Pre_1 launch0 p0 e0 about1 theMethod args0 below0 :=
  ⟨lists_1, trivial, launch0.admits_env _ _ _, launch0.least_env, fairChoices_fair.cas, fairChoices_fair.clock, w_frames, w_args, w_heap, w_applies, trivial, trivial, w_case⟩
end start1
theorem witness_1 : WitnessClaimed_1 := ⟨start1.p0, start1.e0, start1.about1, start1.theMethod, start1.args0, start1.below0, start1.atStart⟩
end Jvm.Pilot.@@N@@
