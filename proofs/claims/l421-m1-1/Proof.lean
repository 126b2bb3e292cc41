import JvmDerived
import JvmDerived.Pilot.@@N@@Statement
import JvmDerived.Pilot.@@N@@Code
set_option linter.unusedVariables false
set_option linter.unusedSimpArgs false
@@BLOCK:NumsL.lean.txt@@
namespace Jvm.Pilot.@@N@@
open Jvm Jvm.ClassFile Sem Op Lib Jvm.Free Jvm.Stand Jvm.LawKit Jvm.RoadKit Bundle Jvm.Pilot.@@N@@.Jvm.D
/-! own layer: the walk in continuation form -/
section OwnWalk
variable {p : Program} {l : Launch} {e : Env} {R : Room} {s : State} {m : MethodId} {args : Array Value} {below : List Frame} {meth : Method} {c : Code} {T T' : State} {locs : List Loc} {cells slots : Nat} {Q : Option Value → Heap → List Loc → Prop} {ck sk : Nat} {f f' : JFrame} {Z : State} {a0 : Array Value} {h h' : Heap}
/-- from this state and frame the invocation returns, and what it leaves is told by Q -/
def ownEnds (p : Program) (e : Env) (below : List Frame) (s : State) (Q : Option Value → Heap → List Loc → Prop) (ck sk : Nat) (T : State) (f : JFrame) : Prop :=
  ∃ s₂ o, Steps p.tables e below (T.setTop f) s₂ ∧ s₂.status = .running ∧ Ended s₂ below o ∧ ∃ v L, o = .returned v ∧ Q v s₂.heap L ∧ FrameEnd s o s₂ L ck sk
theorem ownGo (st : ∀ target, Steps p.tables e below (T'.setTop f') target → Steps p.tables e below (T.setTop f) target) (k : ownEnds p e below s Q ck sk T' f') : ownEnds p e below s Q ck sk T f := by
  obtain ⟨a, b, h1, h2⟩ := k
  exact ⟨a, b, st _ h1, h2⟩
theorem ownRun (st : Steps p.tables e below (T.setTop f) (T'.setTop f')) (k : ownEnds p e below s Q ck sk T' f') : ownEnds p e below s Q ck sk T f :=
  ownGo (fun _ q => st.trans q) k
theorem ownCast (q : f = f') (k : ownEnds p e below s Q ck sk T f') : ownEnds p e below s Q ck sk T f := q ▸ k
theorem ownRetI (X : Stand p l e R s m args below meth c T locs cells slots) (hx : p.tables.exec = Jvm.exec) {pc : Nat} {Ls : Array Slot} {z : Int32} {rest : List Value} (hret : meth.sig.returnType = some .int) (hd : decode c.code pc = .ok (.ireturn, 1)) (hk : meth.locks = false) (hc : cells ≤ ck) (hs : slots ≤ sk)
    (hQ : Q (some (.int z)) T.heap locs) : ownEnds p e below s Q ck sk T (mkF m pc Ls (.int z :: rest)) := by
  obtain ⟨fs, hr, hrun, hended, hW, hsame⟩ := X.leave (v := some (.int z)) (fun h => by rw [hret] at h; cases h) hk
  exact ⟨_, _, retOut X hx hret rfl (Or.inl ⟨rfl, Or.inl rfl, _, rfl⟩) hd hr, hrun, hended, _, _, rfl, hQ, ⟨_, rfl⟩, hW, hsame.mono hc hs⟩
theorem ownRetN (X : Stand p l e R s m args below meth c T locs cells slots) (hx : p.tables.exec = Jvm.exec) {pc : Nat} {Ls : Array Slot} {z r : Int32} {rest : List Value} {t : FieldType} (ht : t = .boolean ∨ t = .byte ∨ t = .char ∨ t = .short) (hret : meth.sig.returnType = some t) (hd : decode c.code pc = .ok (.ireturn, 1)) (hk : meth.locks = false) (hc : cells ≤ ck) (hs : slots ≤ sk)
    (hz : nar t z = r) (hQ : Q (some (.int r)) T.heap locs) : ownEnds p e below s Q ck sk T (mkF m pc Ls (.int z :: rest)) := by
  subst hz
  obtain ⟨fs, hr, hrun, hended, hW, hsame⟩ := X.leave (v := some (.int (nar t z))) (fun h => by rw [hret] at h; cases h) hk
  exact ⟨_, _, retN X hx hret ht hd hr, hrun, hended, _, _, rfl, hQ, ⟨_, rfl⟩, hW, hsame.mono hc hs⟩
theorem ownRetJ (X : Stand p l e R s m args below meth c T locs cells slots) (hx : p.tables.exec = Jvm.exec) {pc : Nat} {Ls : Array Slot} {z : Int64} {rest : List Value} (hret : meth.sig.returnType = some .long) (hd : decode c.code pc = .ok (.lreturn, 1)) (hk : meth.locks = false) (hc : cells ≤ ck) (hs : slots ≤ sk)
    (hQ : Q (some (.long z)) T.heap locs) : ownEnds p e below s Q ck sk T (mkF m pc Ls (.long z :: rest)) := by
  obtain ⟨fs, hr, hrun, hended, hW, hsame⟩ := X.leave (v := some (.long z)) (fun h => by rw [hret] at h; cases h) hk
  exact ⟨_, _, retOut X hx hret rfl (Or.inr (Or.inl ⟨rfl, rfl, _, rfl⟩)) hd hr, hrun, hended, _, _, rfl, hQ, ⟨_, rfl⟩, hW, hsame.mono hc hs⟩
theorem ownRetR (X : Stand p l e R s m args below meth c T locs cells slots) (hx : p.tables.exec = Jvm.exec) {pc : Nat} {Ls : Array Slot} {w : Value} {rest : List Value} {t : FieldType} (ht : t.isReference = true) (hn : narrow t w = w) (hw : w.isRef = true) (hret : meth.sig.returnType = some t) (hd : decode c.code pc = .ok (.areturn, 1)) (hk : meth.locks = false) (hc : cells ≤ ck) (hs : slots ≤ sk)
    (hQ : Q (some w) T.heap locs) : ownEnds p e below s Q ck sk T (mkF m pc Ls (w :: rest)) := by
  obtain ⟨fs, hr, hrun, hended, hW, hsame⟩ := X.leave (v := some w) (fun h => by rw [hret] at h; cases h) hk
  exact ⟨_, _, retOut X hx hret hn (Or.inr (Or.inr (Or.inr (Or.inr ⟨rfl, ht, hw⟩)))) hd hr, hrun, hended, _, _, rfl, hQ, ⟨_, rfl⟩, hW, hsame.mono hc hs⟩
theorem ownRetV (X : Stand p l e R s m args below meth c T locs cells slots) (hx : p.tables.exec = Jvm.exec) {pc : Nat} {Ls : Array Slot} (hret : meth.sig.returnType = none) (hd : decode c.code pc = .ok (.return_, 1)) (hk : meth.locks = false) (hc : cells ≤ ck) (hs : slots ≤ sk)
    (hQ : Q none T.heap locs) : ownEnds p e below s Q ck sk T (mkF m pc Ls []) := by
  obtain ⟨fs, hr, hrun, hended, hW, hsame⟩ := X.leave (v := none) (fun _ => rfl) hk
  exact ⟨_, _, X.returnOut hx hret hd hr, hrun, hended, _, _, rfl, hQ, ⟨_, rfl⟩, hW, hsame.mono hc hs⟩
/-- one place of a function turned -/
def ownUpd {α : Type} (f : Nat → α) (j : Nat) (x : α) : Nat → α := fun i => if i = j then x else f i
theorem ownUpd_same {α : Type} (f : Nat → α) (j : Nat) (x : α) : ownUpd f j x j = x := if_pos rfl
theorem ownUpd_ne {α : Type} (f : Nat → α) {i j : Nat} (x : α) (q : i ≠ j) : ownUpd f j x i = f i := if_neg q
/-- an array of ints (or bytes, chars ..): its length and its components -/
def ownAI (Z : State) (h : Heap) (a : Addr) (ty : FieldType) (n : Nat) (g : Nat → Int32) : Prop := ∃ cl : Cell, Arr Z h a cl ty ∧ cl.slots.size = n ∧ n < 2 ^ 31 ∧ ∀ i, i < n → cl.slots[i]? = some (.int (g i))
/-- an array of longs -/
def ownAJ (Z : State) (h : Heap) (a : Addr) (n : Nat) (g : Nat → Int64) : Prop := ∃ cl : Cell, Arr Z h a cl .long ∧ cl.slots.size = n ∧ n < 2 ^ 31 ∧ ∀ i, i < n → cl.slots[i]? = some (.long (g i))
variable {a b : Addr} {ty : FieldType} {n : Nat} {gi : Nat → Int32} {gj : Nat → Int64} {ws : List Addr} {sl : Nat} {v : Value}
theorem ownAI.lt (F : ownAI Z h a ty n gi) : a < h.size := by obtain ⟨c, A, -⟩ := F; exact A.lt
theorem ownAI.ext (F : ownAI Z h a ty n gi) (E : Ext h h') : ownAI Z h' a ty n gi := by obtain ⟨c, A, r⟩ := F; exact ⟨c, A.ext E, r⟩
theorem ownAI.other (F : ownAI Z h b ty n gi) (W : Wr h h' a sl v) (q : b ≠ a) : ownAI Z h' b ty n gi := by obtain ⟨c, A, r⟩ := F; exact ⟨c, A.other W q, r⟩
theorem ownAI.keep (F : ownAI Z h a ty n gi) (K : Keep h h' ws) (q : a ∉ ws) : ownAI Z h' a ty n gi := by obtain ⟨c, A, r⟩ := F; exact ⟨c, ⟨K.2.1 a c A.1 q, A.2⟩, r⟩
theorem ownAJ.lt (F : ownAJ Z h a n gj) : a < h.size := by obtain ⟨c, A, -⟩ := F; exact A.lt
theorem ownAJ.ext (F : ownAJ Z h a n gj) (E : Ext h h') : ownAJ Z h' a n gj := by obtain ⟨c, A, r⟩ := F; exact ⟨c, A.ext E, r⟩
theorem ownAJ.other (F : ownAJ Z h b n gj) (W : Wr h h' a sl v) (q : b ≠ a) : ownAJ Z h' b n gj := by obtain ⟨c, A, r⟩ := F; exact ⟨c, A.other W q, r⟩
theorem ownAJ.keep (F : ownAJ Z h a n gj) (K : Keep h h' ws) (q : a ∉ ws) : ownAJ Z h' a n gj := by obtain ⟨c, A, r⟩ := F; exact ⟨c, ⟨K.2.1 a c A.1 q, A.2⟩, r⟩
theorem ownAI.new {k : ClassId} {z : Int32} (A : Arr Z h a (newA k ty z) ty) (q : ¬ z < 0) (d : defaultValue ty = .int 0) (N : z.toNatClampNeg = n) : ownAI Z h a ty n (fun _ => 0) := by
  subst N
  refine ⟨_, A, sz_new _ _ _, (back32 q).2, fun i hi => ?_⟩
  simp [newA, hi, d]
theorem ownAJ.new {k : ClassId} {z : Int32} (A : Arr Z h a (newA k .long z) .long) (q : ¬ z < 0) (N : z.toNatClampNeg = n) : ownAJ Z h a n (fun _ => 0) := by
  subst N
  refine ⟨_, A, sz_new _ _ _, (back32 q).2, fun i hi => ?_⟩
  simp [newA, hi, defaultValue]
theorem ownAI.set (F : ownAI Z h a ty n gi) {j : Nat} {x : Int32} (W : Wr h h' a j (.int x)) : ownAI Z h' a ty n (ownUpd gi j x) := by
  obtain ⟨cl, A, S, N, H⟩ := F
  refine ⟨_, A.same W, by simpa [Cell.setSlot] using S, N, fun i hi => ?_⟩
  by_cases e : i = j
  · subst e; simp [Cell.setSlot, ownUpd, S, hi]
  · rw [ownUpd_ne _ _ e]
    show (cl.slots.setIfInBounds j (.int x))[i]? = _
    rw [Array.getElem?_setIfInBounds_ne (Ne.symm e)]; exact H i hi
theorem ownAJ.set (F : ownAJ Z h a n gj) {j : Nat} {x : Int64} (W : Wr h h' a j (.long x)) : ownAJ Z h' a n (ownUpd gj j x) := by
  obtain ⟨cl, A, S, N, H⟩ := F
  refine ⟨_, A.same W, by simpa [Cell.setSlot] using S, N, fun i hi => ?_⟩
  by_cases e : i = j
  · subst e; simp [Cell.setSlot, ownUpd, S, hi]
  · rw [ownUpd_ne _ _ e]
    show (cl.slots.setIfInBounds j (.long x))[i]? = _
    rw [Array.getElem?_setIfInBounds_ne (Ne.symm e)]; exact H i hi
/-- an index is inside -/
def ownIn (j : Int32) (n : Nat) : Prop := ¬ (j < 0 ∨ n ≤ j.toNatClampNeg)
theorem ownIn_of {j : Int32} {n : Nat} (h1 : 0 ≤ j.toInt) (h2 : j.toInt < n) : ownIn j n := by
  intro q
  rcases q with q | q
  · rw [Int32.lt_iff_toInt_lt] at q; simp only [Int32.reduceToInt] at q; omega
  · simp only [Int32.toNatClampNeg] at q; omega
theorem ownIaload (F : ownAI Z h a .int n gi) (X : Stand p l e R s m args below meth c T locs cells slots) (hx : p.tables.exec = Jvm.exec) (hZ : Z.Warmed39 s.vm) (eT : T.heap = h) {j : Int32} (hin : ownIn j n) {g : JFrame} (hg : g.method = m) {rest : List Value} (hs : g.stack = .int j :: .ref a :: rest) (hd : decode c.code g.pc = .ok (.iaload, 1)) :
    ∀ target, Steps p.tables e below (T.setTop { g with pc := g.pc + 1, stack := .int (gi j.toNatClampNeg) :: rest }) target → Steps p.tables e below (T.setTop g) target := by
  obtain ⟨cl, A, S, N, H⟩ := F
  subst S
  exact fun t k => X.iaload hx (by rw [eT]; exact A.1) (State.isArrayOf_alike hZ.alike A.2.1) A.2.2 hin (H _ (Nat.lt_of_not_le fun q => hin (Or.inr q))) hg hs hd t k
theorem ownBaload (F : ownAI Z h a .byte n gi) (X : Stand p l e R s m args below meth c T locs cells slots) (hx : p.tables.exec = Jvm.exec) (hZ : Z.Warmed39 s.vm) (eT : T.heap = h) {j : Int32} (hin : ownIn j n) {g : JFrame} (hg : g.method = m) {rest : List Value} (hs : g.stack = .int j :: .ref a :: rest) (hd : decode c.code g.pc = .ok (.baload, 1)) :
    ∀ target, Steps p.tables e below (T.setTop { g with pc := g.pc + 1, stack := .int (gi j.toNatClampNeg) :: rest }) target → Steps p.tables e below (T.setTop g) target := by
  obtain ⟨cl, A, S, N, H⟩ := F
  subst S
  exact fun t k => X.baloadBytes hx (by rw [eT]; exact A.1) (State.isArrayOf_alike hZ.alike A.2.1) A.2.2 hin (H _ (Nat.lt_of_not_le fun q => hin (Or.inr q))) hg hs hd t k
theorem ownCaload (F : ownAI Z h a .char n gi) (X : Stand p l e R s m args below meth c T locs cells slots) (hx : p.tables.exec = Jvm.exec) (hZ : Z.Warmed39 s.vm) (eT : T.heap = h) {j : Int32} (hin : ownIn j n) {g : JFrame} (hg : g.method = m) {rest : List Value} (hs : g.stack = .int j :: .ref a :: rest) (hd : decode c.code g.pc = .ok (.caload, 1)) :
    ∀ target, Steps p.tables e below (T.setTop { g with pc := g.pc + 1, stack := .int (gi j.toNatClampNeg) :: rest }) target → Steps p.tables e below (T.setTop g) target := by
  obtain ⟨cl, A, S, N, H⟩ := F
  subst S
  exact fun t k => X.caload hx (by rw [eT]; exact A.1) (State.isArrayOf_alike hZ.alike A.2.1) A.2.2 hin (H _ (Nat.lt_of_not_le fun q => hin (Or.inr q))) hg hs hd t k
theorem ownLaload (F : ownAJ Z h a n gj) (X : Stand p l e R s m args below meth c T locs cells slots) (hx : p.tables.exec = Jvm.exec) (hZ : Z.Warmed39 s.vm) (eT : T.heap = h) {j : Int32} (hin : ownIn j n) {g : JFrame} (hg : g.method = m) {rest : List Value} (hs : g.stack = .int j :: .ref a :: rest) (hd : decode c.code g.pc = .ok (.laload, 1)) :
    ∀ target, Steps p.tables e below (T.setTop { g with pc := g.pc + 1, stack := .long (gj j.toNatClampNeg) :: rest }) target → Steps p.tables e below (T.setTop g) target := by
  obtain ⟨cl, A, S, N, H⟩ := F
  subst S
  exact fun t k => X.laload hx (by rw [eT]; exact A.1) (State.isArrayOf_alike hZ.alike A.2.1) A.2.2 hin (H _ (Nat.lt_of_not_le fun q => hin (Or.inr q))) hg hs hd t k
theorem ownLenI (F : ownAI Z h a ty n gi) (X : Stand p l e R s m args below meth c T locs cells slots) (hx : p.tables.exec = Jvm.exec) (hZ : Z.Warmed39 s.vm) (eT : T.heap = h) {z : Int32} (hz : n.toInt32 = z) {g : JFrame} (hg : g.method = m) {rest : List Value} (hs : g.stack = .ref a :: rest) (hd : decode c.code g.pc = .ok (.arraylength, 1)) :
    ∀ target, Steps p.tables e below (T.setTop { g with pc := g.pc + 1, stack := .int z :: rest }) target → Steps p.tables e below (T.setTop g) target := by
  obtain ⟨cl, A, S, N, H⟩ := F
  subst S hz
  exact fun t k => X.arraylength hx (by rw [eT]; exact A.1) (State.isArrayOf_alike hZ.alike A.2.1) hg hs hd t k
theorem ownLenJ (F : ownAJ Z h a n gj) (X : Stand p l e R s m args below meth c T locs cells slots) (hx : p.tables.exec = Jvm.exec) (hZ : Z.Warmed39 s.vm) (eT : T.heap = h) {z : Int32} (hz : n.toInt32 = z) {g : JFrame} (hg : g.method = m) {rest : List Value} (hs : g.stack = .ref a :: rest) (hd : decode c.code g.pc = .ok (.arraylength, 1)) :
    ∀ target, Steps p.tables e below (T.setTop { g with pc := g.pc + 1, stack := .int z :: rest }) target → Steps p.tables e below (T.setTop g) target := by
  obtain ⟨cl, A, S, N, H⟩ := F
  subst S hz
  exact fun t k => X.arraylength hx (by rw [eT]; exact A.1) (State.isArrayOf_alike hZ.alike A.2.1) hg hs hd t k
theorem ownIastore (F : ownAI Z h a .int n gi) (X : Stand p l e R s m args below meth c T locs cells slots) (hx : p.tables.exec = Jvm.exec) (hZ : Z.Warmed39 s.vm) (eT : T.heap = h) {j x : Int32} (hin : ownIn j n) {g : JFrame} (hg : g.method = m) {rest : List Value} (hs : g.stack = .int x :: .int j :: .ref a :: rest) (hd : decode c.code g.pc = .ok (.iastore, 1)) :
    ∃ T' h', Stand p l e R s m args below meth c T' (locs ++ [⟨a, j.toNatClampNeg⟩]) cells slots ∧ T'.heap = h' ∧ Wr h h' a j.toNatClampNeg (.int x) ∧ ownAI Z h' a .int n (ownUpd gi j.toNatClampNeg x) ∧ ∀ target, Steps p.tables e below (T'.setTop { g with pc := g.pc + 1, stack := rest }) target → Steps p.tables e below (T.setTop g) target := by
  obtain ⟨cl, A, S, r⟩ := id F
  obtain ⟨T', h', X', e', W, st⟩ := stI X hx hZ eT A (j := j) (by rw [S]; exact hin) hg hs hd
  exact ⟨T', h', X', e', W, F.set W, st⟩
theorem ownBastore (F : ownAI Z h a .byte n gi) (X : Stand p l e R s m args below meth c T locs cells slots) (hx : p.tables.exec = Jvm.exec) (hZ : Z.Warmed39 s.vm) (eT : T.heap = h) {j x : Int32} (hin : ownIn j n) {g : JFrame} (hg : g.method = m) {rest : List Value} (hs : g.stack = .int x :: .int j :: .ref a :: rest) (hd : decode c.code g.pc = .ok (.bastore, 1)) :
    ∃ T' h', Stand p l e R s m args below meth c T' (locs ++ [⟨a, j.toNatClampNeg⟩]) cells slots ∧ T'.heap = h' ∧ Wr h h' a j.toNatClampNeg (.int (nar .byte x)) ∧ ownAI Z h' a .byte n (ownUpd gi j.toNatClampNeg (nar .byte x)) ∧ ∀ target, Steps p.tables e below (T'.setTop { g with pc := g.pc + 1, stack := rest }) target → Steps p.tables e below (T.setTop g) target := by
  obtain ⟨cl, A, S, r⟩ := id F
  obtain ⟨T', h', X', e', W, st⟩ := stB X hx hZ eT A (j := j) (by rw [S]; exact hin) hg hs hd
  exact ⟨T', h', X', e', W, F.set W, st⟩
theorem ownCastore (F : ownAI Z h a .char n gi) (X : Stand p l e R s m args below meth c T locs cells slots) (hx : p.tables.exec = Jvm.exec) (hZ : Z.Warmed39 s.vm) (eT : T.heap = h) {j x : Int32} (hin : ownIn j n) {g : JFrame} (hg : g.method = m) {rest : List Value} (hs : g.stack = .int x :: .int j :: .ref a :: rest) (hd : decode c.code g.pc = .ok (.castore, 1)) :
    ∃ T' h', Stand p l e R s m args below meth c T' (locs ++ [⟨a, j.toNatClampNeg⟩]) cells slots ∧ T'.heap = h' ∧ Wr h h' a j.toNatClampNeg (.int (nar .char x)) ∧ ownAI Z h' a .char n (ownUpd gi j.toNatClampNeg (nar .char x)) ∧ ∀ target, Steps p.tables e below (T'.setTop { g with pc := g.pc + 1, stack := rest }) target → Steps p.tables e below (T.setTop g) target := by
  obtain ⟨cl, A, S, r⟩ := id F
  obtain ⟨T', h', X', e', W, st⟩ := stC X hx hZ eT A (j := j) (by rw [S]; exact hin) hg hs hd
  exact ⟨T', h', X', e', W, F.set W, st⟩
theorem ownLastore (F : ownAJ Z h a n gj) (X : Stand p l e R s m args below meth c T locs cells slots) (hx : p.tables.exec = Jvm.exec) (hZ : Z.Warmed39 s.vm) (eT : T.heap = h) {j : Int32} {x : Int64} (hin : ownIn j n) {g : JFrame} (hg : g.method = m) {rest : List Value} (hs : g.stack = .long x :: .int j :: .ref a :: rest) (hd : decode c.code g.pc = .ok (.lastore, 1)) :
    ∃ T' h', Stand p l e R s m args below meth c T' (locs ++ [⟨a, j.toNatClampNeg⟩]) cells slots ∧ T'.heap = h' ∧ Wr h h' a j.toNatClampNeg (.long x) ∧ ownAJ Z h' a n (ownUpd gj j.toNatClampNeg x) ∧ ∀ target, Steps p.tables e below (T'.setTop { g with pc := g.pc + 1, stack := rest }) target → Steps p.tables e below (T.setTop g) target := by
  obtain ⟨cl, A, S, r⟩ := id F
  obtain ⟨T', h', X', e', W, st⟩ := stJ X hx hZ eT A (j := j) (by rw [S]; exact hin) hg hs hd
  exact ⟨T', h', X', e', W, F.set W, st⟩
theorem own_narb {x v : Int32} (h : x.toInt8.toInt32 = v) : nar .byte v = v := by subst h; simp [nar]
theorem own_narc {x v : Int32} (h : x.toUInt32.toUInt16.toUInt32.toInt32 = v) : nar .char v = v := by subst h; simp only [nar, UInt32.toUInt32_toInt32, UInt16.toUInt16_toUInt32]
theorem own_evInt {args : Array Value} {t : Term} {k : Int32} (h : (Cond.eq t (.int k)).value args s none s [] = some true) : t.eval args s none [] s = some (.int k) := by
  simp only [Cond.value, Term.eval] at h
  cases ht : t.eval args s none [] s with
  | none => simp [ht] at h
  | some x => cases x <;> simp [ht] at h ⊢; exact h
theorem own_fldInt {args : Array Value} {t : Term} {C n d : String} {k : Int32} {x : Addr} (h : (Cond.eq (.field t C n d) (.int k)).value args s none s [] = some true) (ht : t.eval args s none [] s = some (.ref x)) : Fld s s.heap x C n d (.int k) :=
  Fld.start ((fld_at ht).symm.trans (own_evInt h))
end OwnWalk
section OwnSteps
variable {p : Program} {l : Launch} {e : Env} {R : Room} {s : State} {m : MethodId} {args : Array Value} {below : List Frame} {meth : Method} {c : Code} {T : State} {locs : List Loc} {cells slots : Nat} {Q : Option Value → Heap → List Loc → Prop} {ck sk : Nat}
theorem ow_iloadN (X : Stand p l e R s m args below meth c T locs cells slots) (hx : p.tables.exec = Jvm.exec) {pc q : Nat} {Ls : Array Slot} {S : List Value} {k : Fin 4} {v : Int32} (hd : decode c.code pc = .ok (.iload_n k, 1)) (hq : pc + 1 = q) (hl : Ls[k.val]? = some (.val (.int v))) (k : ownEnds p e below s Q ck sk T (mkF m q Ls (.int v :: S))) : ownEnds p e below s Q ck sk T (mkF m pc Ls S) := by
  subst hq
  exact ownGo (fun _ k => XS.iloadN X.here hx rfl hd hl k) k
theorem ow_iload (X : Stand p l e R s m args below meth c T locs cells slots) (hx : p.tables.exec = Jvm.exec) {pc q : Nat} {Ls : Array Slot} {S : List Value} {k : Nat} {v : Int32} (hd : decode c.code pc = .ok (.iload k, 2)) (hq : pc + 2 = q) (hl : Ls[k]? = some (.val (.int v))) (k : ownEnds p e below s Q ck sk T (mkF m q Ls (.int v :: S))) : ownEnds p e below s Q ck sk T (mkF m pc Ls S) := by
  subst hq
  exact ownGo (fun _ k => XS.iload X.here hx rfl hd hl k) k
theorem ow_istoreN (X : Stand p l e R s m args below meth c T locs cells slots) (hx : p.tables.exec = Jvm.exec) {pc q : Nat} {Ls : Array Slot} {S : List Value} {k : Fin 4} {v : Int32} {L' : Array Slot} (hd : decode c.code pc = .ok (.istore_n k, 1)) (hq : pc + 1 = q) (hl : storeLocals Ls k.val (.int v) = some L') (k : ownEnds p e below s Q ck sk T (mkF m q L' S)) : ownEnds p e below s Q ck sk T (mkF m pc Ls (.int v :: S)) := by
  subst hq
  exact ownGo (fun _ k => XS.istoreN X.here hx rfl hd rfl hl k) k
theorem ow_istore (X : Stand p l e R s m args below meth c T locs cells slots) (hx : p.tables.exec = Jvm.exec) {pc q : Nat} {Ls : Array Slot} {S : List Value} {k : Nat} {v : Int32} {L' : Array Slot} (hd : decode c.code pc = .ok (.istore k, 2)) (hq : pc + 2 = q) (hl : storeLocals Ls k (.int v) = some L') (k : ownEnds p e below s Q ck sk T (mkF m q L' S)) : ownEnds p e below s Q ck sk T (mkF m pc Ls (.int v :: S)) := by
  subst hq
  exact ownGo (fun _ k => XS.istore X.here hx rfl hd rfl hl k) k
theorem ow_lloadN (X : Stand p l e R s m args below meth c T locs cells slots) (hx : p.tables.exec = Jvm.exec) {pc q : Nat} {Ls : Array Slot} {S : List Value} {k : Fin 4} {v : Int64} (hd : decode c.code pc = .ok (.lload_n k, 1)) (hq : pc + 1 = q) (hl : Ls[k.val]? = some (.val (.long v))) (k : ownEnds p e below s Q ck sk T (mkF m q Ls (.long v :: S))) : ownEnds p e below s Q ck sk T (mkF m pc Ls S) := by
  subst hq
  exact ownGo (fun _ k => XS.lloadN X.here hx rfl hd hl k) k
theorem ow_lload (X : Stand p l e R s m args below meth c T locs cells slots) (hx : p.tables.exec = Jvm.exec) {pc q : Nat} {Ls : Array Slot} {S : List Value} {k : Nat} {v : Int64} (hd : decode c.code pc = .ok (.lload k, 2)) (hq : pc + 2 = q) (hl : Ls[k]? = some (.val (.long v))) (k : ownEnds p e below s Q ck sk T (mkF m q Ls (.long v :: S))) : ownEnds p e below s Q ck sk T (mkF m pc Ls S) := by
  subst hq
  exact ownGo (fun _ k => XS.lload X.here hx rfl hd hl k) k
theorem ow_lstoreN (X : Stand p l e R s m args below meth c T locs cells slots) (hx : p.tables.exec = Jvm.exec) {pc q : Nat} {Ls : Array Slot} {S : List Value} {k : Fin 4} {v : Int64} {L' : Array Slot} (hd : decode c.code pc = .ok (.lstore_n k, 1)) (hq : pc + 1 = q) (hl : storeLocals Ls k.val (.long v) = some L') (k : ownEnds p e below s Q ck sk T (mkF m q L' S)) : ownEnds p e below s Q ck sk T (mkF m pc Ls (.long v :: S)) := by
  subst hq
  exact ownGo (fun _ k => XS.lstoreN X.here hx rfl hd rfl hl k) k
theorem ow_lstore (X : Stand p l e R s m args below meth c T locs cells slots) (hx : p.tables.exec = Jvm.exec) {pc q : Nat} {Ls : Array Slot} {S : List Value} {k : Nat} {v : Int64} {L' : Array Slot} (hd : decode c.code pc = .ok (.lstore k, 2)) (hq : pc + 2 = q) (hl : storeLocals Ls k (.long v) = some L') (k : ownEnds p e below s Q ck sk T (mkF m q L' S)) : ownEnds p e below s Q ck sk T (mkF m pc Ls (.long v :: S)) := by
  subst hq
  exact ownGo (fun _ k => XS.lstore X.here hx rfl hd rfl hl k) k
theorem ow_aloadN (X : Stand p l e R s m args below meth c T locs cells slots) (hx : p.tables.exec = Jvm.exec) {pc q : Nat} {Ls : Array Slot} {S : List Value} {k : Fin 4} {v : Value} (hd : decode c.code pc = .ok (.aload_n k, 1)) (hq : pc + 1 = q) (hl : Ls[k.val]? = some (.val v)) (hv : v.isRef = true) (k : ownEnds p e below s Q ck sk T (mkF m q Ls (v :: S))) : ownEnds p e below s Q ck sk T (mkF m pc Ls S) := by
  subst hq
  exact ownGo (fun _ k => XS.aloadN X.here hx rfl hd hl hv k) k
theorem ow_aload (X : Stand p l e R s m args below meth c T locs cells slots) (hx : p.tables.exec = Jvm.exec) {pc q : Nat} {Ls : Array Slot} {S : List Value} {k : Nat} {v : Value} (hd : decode c.code pc = .ok (.aload k, 2)) (hq : pc + 2 = q) (hl : Ls[k]? = some (.val v)) (hv : v.isRef = true) (k : ownEnds p e below s Q ck sk T (mkF m q Ls (v :: S))) : ownEnds p e below s Q ck sk T (mkF m pc Ls S) := by
  subst hq
  exact ownGo (fun _ k => XS.aload X.here hx rfl hd hl hv k) k
theorem ow_astoreN (X : Stand p l e R s m args below meth c T locs cells slots) (hx : p.tables.exec = Jvm.exec) {pc q : Nat} {Ls : Array Slot} {S : List Value} {k : Fin 4} {v : Value} {L' : Array Slot} (hd : decode c.code pc = .ok (.astore_n k, 1)) (hq : pc + 1 = q) (hv : v.isRef = true) (hl : storeLocals Ls k.val v = some L') (k : ownEnds p e below s Q ck sk T (mkF m q L' S)) : ownEnds p e below s Q ck sk T (mkF m pc Ls (v :: S)) := by
  subst hq
  exact ownGo (fun _ k => XS.astoreN X.here hx rfl hd rfl hv hl k) k
theorem ow_astore (X : Stand p l e R s m args below meth c T locs cells slots) (hx : p.tables.exec = Jvm.exec) {pc q : Nat} {Ls : Array Slot} {S : List Value} {k : Nat} {v : Value} {L' : Array Slot} (hd : decode c.code pc = .ok (.astore k, 2)) (hq : pc + 2 = q) (hv : v.isRef = true) (hl : storeLocals Ls k v = some L') (k : ownEnds p e below s Q ck sk T (mkF m q L' S)) : ownEnds p e below s Q ck sk T (mkF m pc Ls (v :: S)) := by
  subst hq
  exact ownGo (fun _ k => XS.astore X.here hx rfl hd rfl hv hl k) k
theorem ow_iconst (X : Stand p l e R s m args below meth c T locs cells slots) (hx : p.tables.exec = Jvm.exec) {pc q : Nat} {Ls : Array Slot} {S : List Value} {i : Int} (v : Int32) (hd : decode c.code pc = .ok (.iconst i, 1)) (hq : pc + 1 = q) (hz : Int32.ofInt i = v) (k : ownEnds p e below s Q ck sk T (mkF m q Ls (.int v :: S))) : ownEnds p e below s Q ck sk T (mkF m pc Ls S) := by
  subst hq hz
  exact ownGo (fun _ k => XS.iconst X.here hx rfl hd k) k
theorem ow_bipush (X : Stand p l e R s m args below meth c T locs cells slots) (hx : p.tables.exec = Jvm.exec) {pc q : Nat} {Ls : Array Slot} {S : List Value} {i : Int} (v : Int32) (hd : decode c.code pc = .ok (.bipush i, 2)) (hq : pc + 2 = q) (hz : (Int8.ofInt i).toInt32 = v) (k : ownEnds p e below s Q ck sk T (mkF m q Ls (.int v :: S))) : ownEnds p e below s Q ck sk T (mkF m pc Ls S) := by
  subst hq hz
  exact ownGo (fun _ k => XS.bipush X.here hx rfl hd k) k
theorem ow_sipush (X : Stand p l e R s m args below meth c T locs cells slots) (hx : p.tables.exec = Jvm.exec) {pc q : Nat} {Ls : Array Slot} {S : List Value} {i : Int} (v : Int32) (hd : decode c.code pc = .ok (.sipush i, 3)) (hq : pc + 3 = q) (hz : (Int16.ofInt i).toInt32 = v) (k : ownEnds p e below s Q ck sk T (mkF m q Ls (.int v :: S))) : ownEnds p e below s Q ck sk T (mkF m pc Ls S) := by
  subst hq hz
  exact ownGo (fun _ k => XS.sipush X.here hx rfl hd k) k
theorem ow_lconst (X : Stand p l e R s m args below meth c T locs cells slots) (hx : p.tables.exec = Jvm.exec) {pc q : Nat} {Ls : Array Slot} {S : List Value} {i : Fin 2} (v : Int64) (hd : decode c.code pc = .ok (.lconst i, 1)) (hq : pc + 1 = q) (hz : Int64.ofNat i = v) (k : ownEnds p e below s Q ck sk T (mkF m q Ls (.long v :: S))) : ownEnds p e below s Q ck sk T (mkF m pc Ls S) := by
  subst hq hz
  exact ownGo (fun _ k => XS.lconst X.here hx rfl hd k) k
theorem ow_iadd (X : Stand p l e R s m args below meth c T locs cells slots) (hx : p.tables.exec = Jvm.exec) {pc q : Nat} {Ls : Array Slot} {S : List Value} {x y : Int32} (z : Int32) (hd : decode c.code pc = .ok (.iadd, 1)) (hq : pc + 1 = q) (hz : x + y = z) (k : ownEnds p e below s Q ck sk T (mkF m q Ls (.int z :: S))) : ownEnds p e below s Q ck sk T (mkF m pc Ls (.int y :: .int x :: S)) := by
  subst hq hz
  exact ownGo (fun _ k => XS.iadd X.here hx rfl hd rfl k) k
theorem ow_ladd (X : Stand p l e R s m args below meth c T locs cells slots) (hx : p.tables.exec = Jvm.exec) {pc q : Nat} {Ls : Array Slot} {S : List Value} {x y : Int64} (z : Int64) (hd : decode c.code pc = .ok (.ladd, 1)) (hq : pc + 1 = q) (hz : x + y = z) (k : ownEnds p e below s Q ck sk T (mkF m q Ls (.long z :: S))) : ownEnds p e below s Q ck sk T (mkF m pc Ls (.long y :: .long x :: S)) := by
  subst hq hz
  exact ownGo (fun _ k => XS.ladd X.here hx rfl hd rfl k) k
theorem ow_isub (X : Stand p l e R s m args below meth c T locs cells slots) (hx : p.tables.exec = Jvm.exec) {pc q : Nat} {Ls : Array Slot} {S : List Value} {x y : Int32} (z : Int32) (hd : decode c.code pc = .ok (.isub, 1)) (hq : pc + 1 = q) (hz : x - y = z) (k : ownEnds p e below s Q ck sk T (mkF m q Ls (.int z :: S))) : ownEnds p e below s Q ck sk T (mkF m pc Ls (.int y :: .int x :: S)) := by
  subst hq hz
  exact ownGo (fun _ k => XS.isub X.here hx rfl hd rfl k) k
theorem ow_lsub (X : Stand p l e R s m args below meth c T locs cells slots) (hx : p.tables.exec = Jvm.exec) {pc q : Nat} {Ls : Array Slot} {S : List Value} {x y : Int64} (z : Int64) (hd : decode c.code pc = .ok (.lsub, 1)) (hq : pc + 1 = q) (hz : x - y = z) (k : ownEnds p e below s Q ck sk T (mkF m q Ls (.long z :: S))) : ownEnds p e below s Q ck sk T (mkF m pc Ls (.long y :: .long x :: S)) := by
  subst hq hz
  exact ownGo (fun _ k => XS.lsub X.here hx rfl hd rfl k) k
theorem ow_imul (X : Stand p l e R s m args below meth c T locs cells slots) (hx : p.tables.exec = Jvm.exec) {pc q : Nat} {Ls : Array Slot} {S : List Value} {x y : Int32} (z : Int32) (hd : decode c.code pc = .ok (.imul, 1)) (hq : pc + 1 = q) (hz : x * y = z) (k : ownEnds p e below s Q ck sk T (mkF m q Ls (.int z :: S))) : ownEnds p e below s Q ck sk T (mkF m pc Ls (.int y :: .int x :: S)) := by
  subst hq hz
  exact ownGo (fun _ k => XS.imul X.here hx rfl hd rfl k) k
theorem ow_lmul (X : Stand p l e R s m args below meth c T locs cells slots) (hx : p.tables.exec = Jvm.exec) {pc q : Nat} {Ls : Array Slot} {S : List Value} {x y : Int64} (z : Int64) (hd : decode c.code pc = .ok (.lmul, 1)) (hq : pc + 1 = q) (hz : x * y = z) (k : ownEnds p e below s Q ck sk T (mkF m q Ls (.long z :: S))) : ownEnds p e below s Q ck sk T (mkF m pc Ls (.long y :: .long x :: S)) := by
  subst hq hz
  exact ownGo (fun _ k => XS.lmul X.here hx rfl hd rfl k) k
theorem ow_iand (X : Stand p l e R s m args below meth c T locs cells slots) (hx : p.tables.exec = Jvm.exec) {pc q : Nat} {Ls : Array Slot} {S : List Value} {x y : Int32} (z : Int32) (hd : decode c.code pc = .ok (.iand, 1)) (hq : pc + 1 = q) (hz : x &&& y = z) (k : ownEnds p e below s Q ck sk T (mkF m q Ls (.int z :: S))) : ownEnds p e below s Q ck sk T (mkF m pc Ls (.int y :: .int x :: S)) := by
  subst hq hz
  exact ownGo (fun _ k => XS.iand X.here hx rfl hd rfl k) k
theorem ow_land (X : Stand p l e R s m args below meth c T locs cells slots) (hx : p.tables.exec = Jvm.exec) {pc q : Nat} {Ls : Array Slot} {S : List Value} {x y : Int64} (z : Int64) (hd : decode c.code pc = .ok (.land, 1)) (hq : pc + 1 = q) (hz : x &&& y = z) (k : ownEnds p e below s Q ck sk T (mkF m q Ls (.long z :: S))) : ownEnds p e below s Q ck sk T (mkF m pc Ls (.long y :: .long x :: S)) := by
  subst hq hz
  exact ownGo (fun _ k => XS.land X.here hx rfl hd rfl k) k
theorem ow_ior (X : Stand p l e R s m args below meth c T locs cells slots) (hx : p.tables.exec = Jvm.exec) {pc q : Nat} {Ls : Array Slot} {S : List Value} {x y : Int32} (z : Int32) (hd : decode c.code pc = .ok (.ior, 1)) (hq : pc + 1 = q) (hz : x ||| y = z) (k : ownEnds p e below s Q ck sk T (mkF m q Ls (.int z :: S))) : ownEnds p e below s Q ck sk T (mkF m pc Ls (.int y :: .int x :: S)) := by
  subst hq hz
  exact ownGo (fun _ k => XS.ior X.here hx rfl hd rfl k) k
theorem ow_lor (X : Stand p l e R s m args below meth c T locs cells slots) (hx : p.tables.exec = Jvm.exec) {pc q : Nat} {Ls : Array Slot} {S : List Value} {x y : Int64} (z : Int64) (hd : decode c.code pc = .ok (.lor, 1)) (hq : pc + 1 = q) (hz : x ||| y = z) (k : ownEnds p e below s Q ck sk T (mkF m q Ls (.long z :: S))) : ownEnds p e below s Q ck sk T (mkF m pc Ls (.long y :: .long x :: S)) := by
  subst hq hz
  exact ownGo (fun _ k => XS.lor X.here hx rfl hd rfl k) k
theorem ow_ixor (X : Stand p l e R s m args below meth c T locs cells slots) (hx : p.tables.exec = Jvm.exec) {pc q : Nat} {Ls : Array Slot} {S : List Value} {x y : Int32} (z : Int32) (hd : decode c.code pc = .ok (.ixor, 1)) (hq : pc + 1 = q) (hz : x ^^^ y = z) (k : ownEnds p e below s Q ck sk T (mkF m q Ls (.int z :: S))) : ownEnds p e below s Q ck sk T (mkF m pc Ls (.int y :: .int x :: S)) := by
  subst hq hz
  exact ownGo (fun _ k => XS.ixor X.here hx rfl hd rfl k) k
theorem ow_lxor (X : Stand p l e R s m args below meth c T locs cells slots) (hx : p.tables.exec = Jvm.exec) {pc q : Nat} {Ls : Array Slot} {S : List Value} {x y : Int64} (z : Int64) (hd : decode c.code pc = .ok (.lxor, 1)) (hq : pc + 1 = q) (hz : x ^^^ y = z) (k : ownEnds p e below s Q ck sk T (mkF m q Ls (.long z :: S))) : ownEnds p e below s Q ck sk T (mkF m pc Ls (.long y :: .long x :: S)) := by
  subst hq hz
  exact ownGo (fun _ k => XS.lxor X.here hx rfl hd rfl k) k
theorem ow_ishl (X : Stand p l e R s m args below meth c T locs cells slots) (hx : p.tables.exec = Jvm.exec) {pc q : Nat} {Ls : Array Slot} {S : List Value} {x y : Int32} (z : Int32) (hd : decode c.code pc = .ok (.ishl, 1)) (hq : pc + 1 = q) (hz : x <<< (y &&& 31) = z) (k : ownEnds p e below s Q ck sk T (mkF m q Ls (.int z :: S))) : ownEnds p e below s Q ck sk T (mkF m pc Ls (.int y :: .int x :: S)) := by
  subst hq hz
  exact ownGo (fun _ k => XS.ishl X.here hx rfl hd rfl k) k
theorem ow_ishr (X : Stand p l e R s m args below meth c T locs cells slots) (hx : p.tables.exec = Jvm.exec) {pc q : Nat} {Ls : Array Slot} {S : List Value} {x y : Int32} (z : Int32) (hd : decode c.code pc = .ok (.ishr, 1)) (hq : pc + 1 = q) (hz : x >>> (y &&& 31) = z) (k : ownEnds p e below s Q ck sk T (mkF m q Ls (.int z :: S))) : ownEnds p e below s Q ck sk T (mkF m pc Ls (.int y :: .int x :: S)) := by
  subst hq hz
  exact ownGo (fun _ k => XS.ishr X.here hx rfl hd rfl k) k
theorem ow_iushr (X : Stand p l e R s m args below meth c T locs cells slots) (hx : p.tables.exec = Jvm.exec) {pc q : Nat} {Ls : Array Slot} {S : List Value} {x y : Int32} (z : Int32) (hd : decode c.code pc = .ok (.iushr, 1)) (hq : pc + 1 = q) (hz : (x.toUInt32 >>> (y &&& 31).toUInt32).toInt32 = z) (k : ownEnds p e below s Q ck sk T (mkF m q Ls (.int z :: S))) : ownEnds p e below s Q ck sk T (mkF m pc Ls (.int y :: .int x :: S)) := by
  subst hq hz
  exact ownGo (fun _ k => XS.iushr X.here hx rfl hd rfl k) k
theorem ow_lshl (X : Stand p l e R s m args below meth c T locs cells slots) (hx : p.tables.exec = Jvm.exec) {pc q : Nat} {Ls : Array Slot} {S : List Value} {x : Int64} {y : Int32} (z : Int64) (hd : decode c.code pc = .ok (.lshl, 1)) (hq : pc + 1 = q) (hz : x <<< (y &&& 0x3f).toInt64 = z) (k : ownEnds p e below s Q ck sk T (mkF m q Ls (.long z :: S))) : ownEnds p e below s Q ck sk T (mkF m pc Ls (.int y :: .long x :: S)) := by
  subst hq hz
  exact ownGo (fun _ k => XS.lshl X.here hx rfl hd rfl k) k
theorem ow_lshr (X : Stand p l e R s m args below meth c T locs cells slots) (hx : p.tables.exec = Jvm.exec) {pc q : Nat} {Ls : Array Slot} {S : List Value} {x : Int64} {y : Int32} (z : Int64) (hd : decode c.code pc = .ok (.lshr, 1)) (hq : pc + 1 = q) (hz : x >>> (y &&& 0x3f).toInt64 = z) (k : ownEnds p e below s Q ck sk T (mkF m q Ls (.long z :: S))) : ownEnds p e below s Q ck sk T (mkF m pc Ls (.int y :: .long x :: S)) := by
  subst hq hz
  exact ownGo (fun _ k => XS.lshr X.here hx rfl hd rfl k) k
theorem ow_lushr (X : Stand p l e R s m args below meth c T locs cells slots) (hx : p.tables.exec = Jvm.exec) {pc q : Nat} {Ls : Array Slot} {S : List Value} {x : Int64} {y : Int32} (z : Int64) (hd : decode c.code pc = .ok (.lushr, 1)) (hq : pc + 1 = q) (hz : (x.toUInt64 >>> (y &&& 0x3f).toInt64.toUInt64).toInt64 = z) (k : ownEnds p e below s Q ck sk T (mkF m q Ls (.long z :: S))) : ownEnds p e below s Q ck sk T (mkF m pc Ls (.int y :: .long x :: S)) := by
  subst hq hz
  exact ownGo (fun _ k => XS.lushr X.here hx rfl hd rfl k) k
theorem ow_ineg (X : Stand p l e R s m args below meth c T locs cells slots) (hx : p.tables.exec = Jvm.exec) {pc q : Nat} {Ls : Array Slot} {S : List Value} {x : Int32} (z : Int32) (hd : decode c.code pc = .ok (.ineg, 1)) (hq : pc + 1 = q) (hz : -x = z) (k : ownEnds p e below s Q ck sk T (mkF m q Ls (.int z :: S))) : ownEnds p e below s Q ck sk T (mkF m pc Ls (.int x :: S)) := by
  subst hq hz
  exact ownGo (fun _ k => XS.ineg X.here hx rfl hd rfl k) k
theorem ow_lneg (X : Stand p l e R s m args below meth c T locs cells slots) (hx : p.tables.exec = Jvm.exec) {pc q : Nat} {Ls : Array Slot} {S : List Value} {x : Int64} (z : Int64) (hd : decode c.code pc = .ok (.lneg, 1)) (hq : pc + 1 = q) (hz : -x = z) (k : ownEnds p e below s Q ck sk T (mkF m q Ls (.long z :: S))) : ownEnds p e below s Q ck sk T (mkF m pc Ls (.long x :: S)) := by
  subst hq hz
  exact ownGo (fun _ k => XS.lneg X.here hx rfl hd rfl k) k
theorem ow_i2l (X : Stand p l e R s m args below meth c T locs cells slots) (hx : p.tables.exec = Jvm.exec) {pc q : Nat} {Ls : Array Slot} {S : List Value} {x : Int32} (z : Int64) (hd : decode c.code pc = .ok (.i2l, 1)) (hq : pc + 1 = q) (hz : x.toInt64 = z) (k : ownEnds p e below s Q ck sk T (mkF m q Ls (.long z :: S))) : ownEnds p e below s Q ck sk T (mkF m pc Ls (.int x :: S)) := by
  subst hq hz
  exact ownGo (fun _ k => XS.i2l X.here hx rfl hd rfl k) k
theorem ow_l2i (X : Stand p l e R s m args below meth c T locs cells slots) (hx : p.tables.exec = Jvm.exec) {pc q : Nat} {Ls : Array Slot} {S : List Value} {x : Int64} (z : Int32) (hd : decode c.code pc = .ok (.l2i, 1)) (hq : pc + 1 = q) (hz : x.toInt32 = z) (k : ownEnds p e below s Q ck sk T (mkF m q Ls (.int z :: S))) : ownEnds p e below s Q ck sk T (mkF m pc Ls (.long x :: S)) := by
  subst hq hz
  exact ownGo (fun _ k => XS.l2i X.here hx rfl hd rfl k) k
theorem ow_i2b (X : Stand p l e R s m args below meth c T locs cells slots) (hx : p.tables.exec = Jvm.exec) {pc q : Nat} {Ls : Array Slot} {S : List Value} {x : Int32} (z : Int32) (hd : decode c.code pc = .ok (.i2b, 1)) (hq : pc + 1 = q) (hz : x.toInt8.toInt32 = z) (k : ownEnds p e below s Q ck sk T (mkF m q Ls (.int z :: S))) : ownEnds p e below s Q ck sk T (mkF m pc Ls (.int x :: S)) := by
  subst hq hz
  exact ownGo (fun _ k => XS.i2b X.here hx rfl hd rfl k) k
theorem ow_i2s (X : Stand p l e R s m args below meth c T locs cells slots) (hx : p.tables.exec = Jvm.exec) {pc q : Nat} {Ls : Array Slot} {S : List Value} {x : Int32} (z : Int32) (hd : decode c.code pc = .ok (.i2s, 1)) (hq : pc + 1 = q) (hz : x.toInt16.toInt32 = z) (k : ownEnds p e below s Q ck sk T (mkF m q Ls (.int z :: S))) : ownEnds p e below s Q ck sk T (mkF m pc Ls (.int x :: S)) := by
  subst hq hz
  exact ownGo (fun _ k => XS.i2s X.here hx rfl hd rfl k) k
theorem ow_i2c (X : Stand p l e R s m args below meth c T locs cells slots) (hx : p.tables.exec = Jvm.exec) {pc q : Nat} {Ls : Array Slot} {S : List Value} {x : Int32} (z : Int32) (hd : decode c.code pc = .ok (.i2c, 1)) (hq : pc + 1 = q) (hz : x.toUInt32.toUInt16.toUInt32.toInt32 = z) (k : ownEnds p e below s Q ck sk T (mkF m q Ls (.int z :: S))) : ownEnds p e below s Q ck sk T (mkF m pc Ls (.int x :: S)) := by
  subst hq hz
  exact ownGo (fun _ k => XS.i2c X.here hx rfl hd rfl k) k
theorem ow_lcmp (X : Stand p l e R s m args below meth c T locs cells slots) (hx : p.tables.exec = Jvm.exec) {pc q : Nat} {Ls : Array Slot} {S : List Value} {x y : Int64} (z : Int32) (hd : decode c.code pc = .ok (.lcmp, 1)) (hq : pc + 1 = q) (hz : Jvm.Free.XT.cmpL x y = z) (k : ownEnds p e below s Q ck sk T (mkF m q Ls (.int z :: S))) : ownEnds p e below s Q ck sk T (mkF m pc Ls (.long y :: .long x :: S)) := by
  subst hq hz
  exact ownGo (fun _ k => Jvm.Free.XT.lcmp X.here hx rfl hd rfl k) k
theorem ow_idiv (X : Stand p l e R s m args below meth c T locs cells slots) (hx : p.tables.exec = Jvm.exec) {pc q : Nat} {Ls : Array Slot} {S : List Value} {x y : Int32} (z : Int32) (hd : decode c.code pc = .ok (.idiv, 1)) (hq : pc + 1 = q) (hy : y ≠ 0) (hz : x / y = z) (k : ownEnds p e below s Q ck sk T (mkF m q Ls (.int z :: S))) : ownEnds p e below s Q ck sk T (mkF m pc Ls (.int y :: .int x :: S)) := by
  subst hq hz
  exact ownGo (fun _ k => XS.idiv X.here hx rfl hd rfl hy k) k
theorem ow_irem (X : Stand p l e R s m args below meth c T locs cells slots) (hx : p.tables.exec = Jvm.exec) {pc q : Nat} {Ls : Array Slot} {S : List Value} {x y : Int32} (z : Int32) (hd : decode c.code pc = .ok (.irem, 1)) (hq : pc + 1 = q) (hy : y ≠ 0) (hz : x % y = z) (k : ownEnds p e below s Q ck sk T (mkF m q Ls (.int z :: S))) : ownEnds p e below s Q ck sk T (mkF m pc Ls (.int y :: .int x :: S)) := by
  subst hq hz
  exact ownGo (fun _ k => iremM X hx rfl hd rfl hy k) k
theorem ow_ldiv (X : Stand p l e R s m args below meth c T locs cells slots) (hx : p.tables.exec = Jvm.exec) {pc q : Nat} {Ls : Array Slot} {S : List Value} {x y : Int64} (z : Int64) (hd : decode c.code pc = .ok (.ldiv, 1)) (hq : pc + 1 = q) (hy : y ≠ 0) (hz : x / y = z) (k : ownEnds p e below s Q ck sk T (mkF m q Ls (.long z :: S))) : ownEnds p e below s Q ck sk T (mkF m pc Ls (.long y :: .long x :: S)) := by
  subst hq hz
  exact ownGo (fun _ k => XS.ldiv X.here hx rfl hd rfl hy k) k
theorem ow_lrem (X : Stand p l e R s m args below meth c T locs cells slots) (hx : p.tables.exec = Jvm.exec) {pc q : Nat} {Ls : Array Slot} {S : List Value} {x y : Int64} (z : Int64) (hd : decode c.code pc = .ok (.lrem, 1)) (hq : pc + 1 = q) (hy : y ≠ 0) (hz : x - (x / y) * y = z) (k : ownEnds p e below s Q ck sk T (mkF m q Ls (.long z :: S))) : ownEnds p e below s Q ck sk T (mkF m pc Ls (.long y :: .long x :: S)) := by
  subst hq hz
  exact ownGo (fun _ k => XS.lrem X.here hx rfl hd rfl hy k) k
theorem ow_iinc (X : Stand p l e R s m args below meth c T locs cells slots) (hx : p.tables.exec = Jvm.exec) {pc q : Nat} {Ls : Array Slot} {S : List Value} {k : Nat} {i : Int} {x : Int32} {L' : Array Slot} (hd : decode c.code pc = .ok (.iinc k i, 3)) (hq : pc + 3 = q) (hl : Ls[k]? = some (.val (.int x))) (hl' : storeLocals Ls k (.int (x + Int32.ofInt i)) = some L') (k : ownEnds p e below s Q ck sk T (mkF m q L' S)) : ownEnds p e below s Q ck sk T (mkF m pc Ls S) := by
  subst hq
  exact ownGo (fun _ k => XS.iinc X.here hx rfl hd hl hl' k) k
theorem ow_dup (X : Stand p l e R s m args below meth c T locs cells slots) (hx : p.tables.exec = Jvm.exec) {pc q : Nat} {Ls : Array Slot} {S : List Value} {v : Value} (hd : decode c.code pc = .ok (.dup, 1)) (hq : pc + 1 = q) (hc : v.category = 1) (k : ownEnds p e below s Q ck sk T (mkF m q Ls (v :: v :: S))) : ownEnds p e below s Q ck sk T (mkF m pc Ls (v :: S)) := by
  subst hq
  exact ownGo (fun _ k => XS.dup X.here hx rfl hd rfl hc k) k
theorem ow_dupX1 (X : Stand p l e R s m args below meth c T locs cells slots) (hx : p.tables.exec = Jvm.exec) {pc q : Nat} {Ls : Array Slot} {S : List Value} {v w : Value} (hd : decode c.code pc = .ok (.dup_x1, 1)) (hq : pc + 1 = q) (hc : v.category = 1) (hc' : w.category = 1) (k : ownEnds p e below s Q ck sk T (mkF m q Ls (v :: w :: v :: S))) : ownEnds p e below s Q ck sk T (mkF m pc Ls (v :: w :: S)) := by
  subst hq
  exact ownGo (fun _ k => XS.dupX1 X.here hx rfl hd rfl hc hc' k) k
theorem ow_dup2 (X : Stand p l e R s m args below meth c T locs cells slots) (hx : p.tables.exec = Jvm.exec) {pc q : Nat} {Ls : Array Slot} {S : List Value} {v w : Value} (hd : decode c.code pc = .ok (.dup2, 1)) (hq : pc + 1 = q) (hc : v.category = 1) (hc' : w.category = 1) (k : ownEnds p e below s Q ck sk T (mkF m q Ls (v :: w :: v :: w :: S))) : ownEnds p e below s Q ck sk T (mkF m pc Ls (v :: w :: S)) := by
  subst hq
  exact ownGo (fun _ k => Jvm.Free.XT.dup2 X.here hx rfl hd rfl hc hc' k) k
theorem ow_dup2L (X : Stand p l e R s m args below meth c T locs cells slots) (hx : p.tables.exec = Jvm.exec) {pc q : Nat} {Ls : Array Slot} {S : List Value} {v : Int64} (hd : decode c.code pc = .ok (.dup2, 1)) (hq : pc + 1 = q) (k : ownEnds p e below s Q ck sk T (mkF m q Ls (.long v :: .long v :: S))) : ownEnds p e below s Q ck sk T (mkF m pc Ls (.long v :: S)) := by
  subst hq
  exact ownGo (fun _ k => Jvm.Free.XT.dup2L X.here hx rfl hd rfl k) k
theorem ow_pop (X : Stand p l e R s m args below meth c T locs cells slots) (hx : p.tables.exec = Jvm.exec) {pc q : Nat} {Ls : Array Slot} {S : List Value} {v : Value} (hd : decode c.code pc = .ok (.pop, 1)) (hq : pc + 1 = q) (hc : v.category = 1) (k : ownEnds p e below s Q ck sk T (mkF m q Ls S)) : ownEnds p e below s Q ck sk T (mkF m pc Ls (v :: S)) := by
  subst hq
  exact ownGo (fun _ k => XS.pop X.here hx rfl hd rfl hc k) k
theorem ow_aconstNull (X : Stand p l e R s m args below meth c T locs cells slots) (hx : p.tables.exec = Jvm.exec) {pc q : Nat} {Ls : Array Slot} {S : List Value}  (hd : decode c.code pc = .ok (.aconst_null, 1)) (hq : pc + 1 = q) (k : ownEnds p e below s Q ck sk T (mkF m q Ls (.null :: S))) : ownEnds p e below s Q ck sk T (mkF m pc Ls S) := by
  subst hq
  exact ownGo (fun _ k => XS.aconstNull X.here hx rfl hd k) k
theorem ow_goto (X : Stand p l e R s m args below meth c T locs cells slots) (hx : p.tables.exec = Jvm.exec) {pc q : Nat} {Ls : Array Slot} {S : List Value} {o : Int} (hd : decode c.code pc = .ok (.goto o, 3)) (ho : 0 ≤ (pc : Int) + o) (hp : ((pc : Int) + o).toNat = q) (k : ownEnds p e below s Q ck sk T (mkF m q Ls S)) : ownEnds p e below s Q ck sk T (mkF m pc Ls S) :=
  ownGo (fun _ k => XS.goto X.here hx rfl rfl hd ho hp k) k
theorem ow_ifYes (X : Stand p l e R s m args below meth c T locs cells slots) (hx : p.tables.exec = Jvm.exec) {pc q : Nat} {Ls : Array Slot} {S : List Value} {cd : ClassFile.Cond} {o : Int} {x : Int32} (hd : decode c.code pc = .ok (.ifCond cd o, 3)) (hc : ifCond.holds cd x = true) (ho : 0 ≤ (pc : Int) + o) (hp : ((pc : Int) + o).toNat = q) (k : ownEnds p e below s Q ck sk T (mkF m q Ls S)) : ownEnds p e below s Q ck sk T (mkF m pc Ls (.int x :: S)) :=
  ownGo (fun _ k => XS.ifYes X.here hx rfl rfl hd rfl hc ho hp k) k
theorem ow_ifNo (X : Stand p l e R s m args below meth c T locs cells slots) (hx : p.tables.exec = Jvm.exec) {pc q : Nat} {Ls : Array Slot} {S : List Value} {cd : ClassFile.Cond} {o : Int} {x : Int32} (hd : decode c.code pc = .ok (.ifCond cd o, 3)) (hq : pc + 3 = q) (hc : ifCond.holds cd x = false) (k : ownEnds p e below s Q ck sk T (mkF m q Ls S)) : ownEnds p e below s Q ck sk T (mkF m pc Ls (.int x :: S)) := by
  subst hq
  exact ownGo (fun _ k => XS.ifNo X.here hx rfl hd rfl hc k) k
theorem ow_icmpYes (X : Stand p l e R s m args below meth c T locs cells slots) (hx : p.tables.exec = Jvm.exec) {pc q : Nat} {Ls : Array Slot} {S : List Value} {cd : ClassFile.Cond} {o : Int} {x y : Int32} (hd : decode c.code pc = .ok (.if_icmp cd o, 3)) (hc : if_icmp.holds cd x y = true) (ho : 0 ≤ (pc : Int) + o) (hp : ((pc : Int) + o).toNat = q) (k : ownEnds p e below s Q ck sk T (mkF m q Ls S)) : ownEnds p e below s Q ck sk T (mkF m pc Ls (.int y :: .int x :: S)) :=
  ownGo (fun _ k => XS.icmpYes X.here hx rfl rfl hd rfl hc ho hp k) k
theorem ow_icmpNo (X : Stand p l e R s m args below meth c T locs cells slots) (hx : p.tables.exec = Jvm.exec) {pc q : Nat} {Ls : Array Slot} {S : List Value} {cd : ClassFile.Cond} {o : Int} {x y : Int32} (hd : decode c.code pc = .ok (.if_icmp cd o, 3)) (hq : pc + 3 = q) (hc : if_icmp.holds cd x y = false) (k : ownEnds p e below s Q ck sk T (mkF m q Ls S)) : ownEnds p e below s Q ck sk T (mkF m pc Ls (.int y :: .int x :: S)) := by
  subst hq
  exact ownGo (fun _ k => XS.icmpNo X.here hx rfl hd rfl hc k) k
end OwnSteps
def own_s1 (v : Int32) : Int64 := (1 : Int64) <<< (v &&& 0x3f).toInt64
def own_or1 (g : Nat → Int64) (v : Int32) : Nat → Int64 := ownUpd g (v / (64 : Int32)).toNatClampNeg ((g (v / (64 : Int32)).toNatClampNeg) ||| ((1 : Int64) <<< (v &&& 0x3f).toInt64))
def own_Bw (lo hi v : Int32) : Int64 := if v < lo then 0 else if v < hi then ((1 : Int64) <<< ((v - lo) &&& 0x3f).toInt64) else 0
theorem own_or1w (g : Nat → Int64) (v : Int32) (w : Nat) : own_or1 g v w = (g w ||| (if (v / (64 : Int32)).toNatClampNeg = w then own_s1 v else 0)) := by
  unfold own_or1 ownUpd own_s1
  by_cases h : w = (v / (64 : Int32)).toNatClampNeg
  · subst h; simp
  · simp [h, Ne.symm h]
theorem own_small {p : Int32} {n : Nat} (h1 : 0 ≤ p.toInt) (h2 : p.toInt < n) (hn : n ≤ 2147483648) : ∃ k : Fin n, p = Int32.ofNat k.val := by
  refine ⟨⟨p.toInt.toNat, by omega⟩, ?_⟩
  apply Int32.toInt_inj.mp
  rw [Int32.toInt_ofNat_of_lt (by simp only; omega)]
  simp only
  omega
theorem own_and3 {p v : Int32} (h : (p &&& (3 : Int32)) = v) : v = (0 : Int32) ∨ v = (1 : Int32) ∨ v = (2 : Int32) ∨ v = (3 : Int32) := by
  have h1 := Jvm.Kit.i32_mask p 3 (k := 2) (by decide) (by decide)
  rw [h] at h1
  simp only [← Int32.toInt_inj, Int32.reduceToInt]
  omega
theorem own_clsk : ∀ k : Fin 256, Int32.ofNat k.val = (0 : Int32) ∨ ((((Int32.ofNat k.val + (64 : Int32)) - (1 : Int32)) / (64 : Int32)) = (1 : Int32) ∧ 0 < (Int32.ofNat k.val).toInt ∧ (Int32.ofNat k.val).toInt ≤ 64) ∨ ((((Int32.ofNat k.val + (64 : Int32)) - (1 : Int32)) / (64 : Int32)) = (2 : Int32) ∧ 64 < (Int32.ofNat k.val).toInt ∧ (Int32.ofNat k.val).toInt ≤ 128) ∨ ((((Int32.ofNat k.val + (64 : Int32)) - (1 : Int32)) / (64 : Int32)) = (3 : Int32) ∧ 128 < (Int32.ofNat k.val).toInt ∧ (Int32.ofNat k.val).toInt ≤ 192) ∨ ((((Int32.ofNat k.val + (64 : Int32)) - (1 : Int32)) / (64 : Int32)) = (4 : Int32) ∧ 192 < (Int32.ofNat k.val).toInt ∧ (Int32.ofNat k.val).toInt ≤ 256) := by decide +kernel
theorem own_cls {p c : Int32} (h : (p &&& (255 : Int32)) = c) (hn : ¬ c = (0 : Int32)) : ((((c + (64 : Int32)) - (1 : Int32)) / (64 : Int32)) = (1 : Int32) ∧ 0 < c.toInt ∧ c.toInt ≤ 64) ∨ ((((c + (64 : Int32)) - (1 : Int32)) / (64 : Int32)) = (2 : Int32) ∧ 64 < c.toInt ∧ c.toInt ≤ 128) ∨ ((((c + (64 : Int32)) - (1 : Int32)) / (64 : Int32)) = (3 : Int32) ∧ 128 < c.toInt ∧ c.toInt ≤ 192) ∨ ((((c + (64 : Int32)) - (1 : Int32)) / (64 : Int32)) = (4 : Int32) ∧ 192 < c.toInt ∧ c.toInt ≤ 256) := by
  have h1 := Jvm.Kit.i32_mask p 255 (k := 8) (by decide) (by decide)
  rw [h] at h1
  obtain ⟨k, rfl⟩ := own_small (p := c) (n := 256) (by omega) (by omega) (by decide)
  exact (own_clsk k).resolve_left hn
theorem own_val {a c v p : Int32} {m : Int} (h : ((a &&& (2147483647 : Int32)) % c) = v) (hc : (p &&& (255 : Int32)) = c) (hn : ¬ c = (0 : Int32)) (hm : c.toInt ≤ m) : 0 ≤ v.toInt ∧ v.toInt < m := by
  have h0 := Jvm.Kit.i32_mask p 255 (k := 8) (by decide) (by decide)
  rw [hc] at h0
  rw [← Int32.toInt_inj] at hn
  simp only [Int32.reduceToInt] at hn
  have h1 := Jvm.Kit.i32_mask a 2147483647 (k := 31) (by decide) (by decide)
  have h2 : 0 ≤ (a &&& (2147483647 : Int32)).toInt := by rw [h1]; exact Int.emod_nonneg _ (by decide)
  have h3 := Jvm.Kit.i32_rem_nonneg (y := c) h2
  rw [h] at h3
  have h4 := Int.emod_nonneg (a &&& (2147483647 : Int32)).toInt (show c.toInt ≠ 0 from hn)
  have h5 := Int.emod_lt_of_pos (a &&& (2147483647 : Int32)).toInt (show 0 < c.toInt by omega)
  omega
theorem own_lt {v : Int32} {m : Int} (h : 0 ≤ v.toInt ∧ v.toInt < m) (hm : m ≤ 256 := by decide) : 0 ≤ v.toInt ∧ v.toInt < 256 := ⟨h.1, Int.lt_of_lt_of_le h.2 hm⟩
theorem own_ixw {v w : Int32} {L : Nat} (h : (v / (64 : Int32)) = w) (hv : 0 ≤ v.toInt ∧ v.toInt < 64 * L) : ownIn w L := by
  have h1 := Jvm.Kit.i32_div (x := v) (y := 64) (by intro q; exact absurd q.2 (by decide))
  rw [h] at h1
  simp only [Int32.reduceToInt] at h1
  rw [Int.tdiv_eq_ediv_of_nonneg hv.1] at h1
  refine ownIn_of ?_ ?_ <;> omega
theorem own_bwk_0 : ∀ k : Fin 256, own_Bw (0 : Int32) (64 : Int32) (Int32.ofNat k.val) = (if ((Int32.ofNat k.val) / (64 : Int32)).toNatClampNeg = 0 then own_s1 (Int32.ofNat k.val) else 0) := by decide +kernel
theorem own_bw_0 {v : Int32} (h : 0 ≤ v.toInt ∧ v.toInt < 256) : own_Bw (0 : Int32) (64 : Int32) v = (if (v / (64 : Int32)).toNatClampNeg = 0 then own_s1 v else 0) := by
  obtain ⟨k, rfl⟩ := own_small (p := v) (n := 256) h.1 h.2 (by decide)
  exact own_bwk_0 k
theorem own_cmp_0_0  : (fun _ => (0 : Int64)) 0 = (0 : Int64) := by
  rfl
theorem own_cmp_0_1 {a : Int32} (ha : 0 ≤ a.toInt ∧ a.toInt < 256) : (own_or1 (fun _ => (0 : Int64)) a) 0 = ((0 : Int64) ||| (own_Bw (0 : Int32) (64 : Int32) a)) := by
  rw [own_bw_0 ha]
  simp only [own_or1w]
theorem own_cmp_0_2 {a b : Int32} (ha : 0 ≤ a.toInt ∧ a.toInt < 256) (hb : 0 ≤ b.toInt ∧ b.toInt < 256) : (own_or1 (own_or1 (fun _ => (0 : Int64)) a) b) 0 = (((0 : Int64) ||| (own_Bw (0 : Int32) (64 : Int32) a)) ||| (own_Bw (0 : Int32) (64 : Int32) b)) := by
  rw [own_bw_0 ha, own_bw_0 hb]
  simp only [own_or1w]
theorem own_cmp_0_3 {a b d : Int32} (ha : 0 ≤ a.toInt ∧ a.toInt < 256) (hb : 0 ≤ b.toInt ∧ b.toInt < 256) (hd : 0 ≤ d.toInt ∧ d.toInt < 256) : (own_or1 (own_or1 (own_or1 (fun _ => (0 : Int64)) a) b) d) 0 = ((((0 : Int64) ||| (own_Bw (0 : Int32) (64 : Int32) a)) ||| (own_Bw (0 : Int32) (64 : Int32) b)) ||| (own_Bw (0 : Int32) (64 : Int32) d)) := by
  rw [own_bw_0 ha, own_bw_0 hb, own_bw_0 hd]
  simp only [own_or1w]
theorem own_bwk_1 : ∀ k : Fin 256, own_Bw (64 : Int32) (128 : Int32) (Int32.ofNat k.val) = (if ((Int32.ofNat k.val) / (64 : Int32)).toNatClampNeg = 1 then own_s1 (Int32.ofNat k.val) else 0) := by decide +kernel
theorem own_bw_1 {v : Int32} (h : 0 ≤ v.toInt ∧ v.toInt < 256) : own_Bw (64 : Int32) (128 : Int32) v = (if (v / (64 : Int32)).toNatClampNeg = 1 then own_s1 v else 0) := by
  obtain ⟨k, rfl⟩ := own_small (p := v) (n := 256) h.1 h.2 (by decide)
  exact own_bwk_1 k
theorem own_cmp_1_0  : (fun _ => (0 : Int64)) 1 = (0 : Int64) := by
  rfl
theorem own_cmp_1_1 {a : Int32} (ha : 0 ≤ a.toInt ∧ a.toInt < 256) : (own_or1 (fun _ => (0 : Int64)) a) 1 = ((0 : Int64) ||| (own_Bw (64 : Int32) (128 : Int32) a)) := by
  rw [own_bw_1 ha]
  simp only [own_or1w]
theorem own_cmp_1_2 {a b : Int32} (ha : 0 ≤ a.toInt ∧ a.toInt < 256) (hb : 0 ≤ b.toInt ∧ b.toInt < 256) : (own_or1 (own_or1 (fun _ => (0 : Int64)) a) b) 1 = (((0 : Int64) ||| (own_Bw (64 : Int32) (128 : Int32) a)) ||| (own_Bw (64 : Int32) (128 : Int32) b)) := by
  rw [own_bw_1 ha, own_bw_1 hb]
  simp only [own_or1w]
theorem own_cmp_1_3 {a b d : Int32} (ha : 0 ≤ a.toInt ∧ a.toInt < 256) (hb : 0 ≤ b.toInt ∧ b.toInt < 256) (hd : 0 ≤ d.toInt ∧ d.toInt < 256) : (own_or1 (own_or1 (own_or1 (fun _ => (0 : Int64)) a) b) d) 1 = ((((0 : Int64) ||| (own_Bw (64 : Int32) (128 : Int32) a)) ||| (own_Bw (64 : Int32) (128 : Int32) b)) ||| (own_Bw (64 : Int32) (128 : Int32) d)) := by
  rw [own_bw_1 ha, own_bw_1 hb, own_bw_1 hd]
  simp only [own_or1w]
theorem own_bwk_2 : ∀ k : Fin 256, own_Bw (128 : Int32) (192 : Int32) (Int32.ofNat k.val) = (if ((Int32.ofNat k.val) / (64 : Int32)).toNatClampNeg = 2 then own_s1 (Int32.ofNat k.val) else 0) := by decide +kernel
theorem own_bw_2 {v : Int32} (h : 0 ≤ v.toInt ∧ v.toInt < 256) : own_Bw (128 : Int32) (192 : Int32) v = (if (v / (64 : Int32)).toNatClampNeg = 2 then own_s1 v else 0) := by
  obtain ⟨k, rfl⟩ := own_small (p := v) (n := 256) h.1 h.2 (by decide)
  exact own_bwk_2 k
theorem own_cmp_2_0  : (fun _ => (0 : Int64)) 2 = (0 : Int64) := by
  rfl
theorem own_cmp_2_1 {a : Int32} (ha : 0 ≤ a.toInt ∧ a.toInt < 256) : (own_or1 (fun _ => (0 : Int64)) a) 2 = ((0 : Int64) ||| (own_Bw (128 : Int32) (192 : Int32) a)) := by
  rw [own_bw_2 ha]
  simp only [own_or1w]
theorem own_cmp_2_2 {a b : Int32} (ha : 0 ≤ a.toInt ∧ a.toInt < 256) (hb : 0 ≤ b.toInt ∧ b.toInt < 256) : (own_or1 (own_or1 (fun _ => (0 : Int64)) a) b) 2 = (((0 : Int64) ||| (own_Bw (128 : Int32) (192 : Int32) a)) ||| (own_Bw (128 : Int32) (192 : Int32) b)) := by
  rw [own_bw_2 ha, own_bw_2 hb]
  simp only [own_or1w]
theorem own_cmp_2_3 {a b d : Int32} (ha : 0 ≤ a.toInt ∧ a.toInt < 256) (hb : 0 ≤ b.toInt ∧ b.toInt < 256) (hd : 0 ≤ d.toInt ∧ d.toInt < 256) : (own_or1 (own_or1 (own_or1 (fun _ => (0 : Int64)) a) b) d) 2 = ((((0 : Int64) ||| (own_Bw (128 : Int32) (192 : Int32) a)) ||| (own_Bw (128 : Int32) (192 : Int32) b)) ||| (own_Bw (128 : Int32) (192 : Int32) d)) := by
  rw [own_bw_2 ha, own_bw_2 hb, own_bw_2 hd]
  simp only [own_or1w]
theorem own_bwk_3 : ∀ k : Fin 256, own_Bw (192 : Int32) (256 : Int32) (Int32.ofNat k.val) = (if ((Int32.ofNat k.val) / (64 : Int32)).toNatClampNeg = 3 then own_s1 (Int32.ofNat k.val) else 0) := by decide +kernel
theorem own_bw_3 {v : Int32} (h : 0 ≤ v.toInt ∧ v.toInt < 256) : own_Bw (192 : Int32) (256 : Int32) v = (if (v / (64 : Int32)).toNatClampNeg = 3 then own_s1 v else 0) := by
  obtain ⟨k, rfl⟩ := own_small (p := v) (n := 256) h.1 h.2 (by decide)
  exact own_bwk_3 k
theorem own_cmp_3_0  : (fun _ => (0 : Int64)) 3 = (0 : Int64) := by
  rfl
theorem own_cmp_3_1 {a : Int32} (ha : 0 ≤ a.toInt ∧ a.toInt < 256) : (own_or1 (fun _ => (0 : Int64)) a) 3 = ((0 : Int64) ||| (own_Bw (192 : Int32) (256 : Int32) a)) := by
  rw [own_bw_3 ha]
  simp only [own_or1w]
theorem own_cmp_3_2 {a b : Int32} (ha : 0 ≤ a.toInt ∧ a.toInt < 256) (hb : 0 ≤ b.toInt ∧ b.toInt < 256) : (own_or1 (own_or1 (fun _ => (0 : Int64)) a) b) 3 = (((0 : Int64) ||| (own_Bw (192 : Int32) (256 : Int32) a)) ||| (own_Bw (192 : Int32) (256 : Int32) b)) := by
  rw [own_bw_3 ha, own_bw_3 hb]
  simp only [own_or1w]
theorem own_cmp_3_3 {a b d : Int32} (ha : 0 ≤ a.toInt ∧ a.toInt < 256) (hb : 0 ≤ b.toInt ∧ b.toInt < 256) (hd : 0 ≤ d.toInt ∧ d.toInt < 256) : (own_or1 (own_or1 (own_or1 (fun _ => (0 : Int64)) a) b) d) 3 = ((((0 : Int64) ||| (own_Bw (192 : Int32) (256 : Int32) a)) ||| (own_Bw (192 : Int32) (256 : Int32) b)) ||| (own_Bw (192 : Int32) (256 : Int32) d)) := by
  rw [own_bw_3 ha, own_bw_3 hb, own_bw_3 hd]
  simp only [own_or1w]
theorem own_pn_BitMatrix : plainName "com/example/sieveline/sieveline/solver/BitMatrix" = true := by first | (simp [plainName, overriddenIn]; done) | decide +kernel
theorem own_d3_0 : decode prog_49_method_12_code 0 = .ok (.iload_n 0, 1) := by decide +kernel
theorem own_d3_1 : decode prog_49_method_12_code 1 = .ok (.bipush 64, 2) := by decide +kernel
theorem own_d3_3 : decode prog_49_method_12_code 3 = .ok (.iadd, 1) := by decide +kernel
theorem own_d3_4 : decode prog_49_method_12_code 4 = .ok (.iconst 1, 1) := by decide +kernel
theorem own_d3_5 : decode prog_49_method_12_code 5 = .ok (.isub, 1) := by decide +kernel
theorem own_d3_6 : decode prog_49_method_12_code 6 = .ok (.bipush 64, 2) := by decide +kernel
theorem own_d3_8 : decode prog_49_method_12_code 8 = .ok (.idiv, 1) := by decide +kernel
theorem own_d3_9 : decode prog_49_method_12_code 9 = .ok (.ireturn, 1) := by decide +kernel
theorem own_ef3_rw_0 (m : MethodId) (p0 : Int32) : entryFrame m #[(.int p0)] 1 = mkF m 0 #[iv p0] [] := by first | (simp [entryFrame, mkF, argsToLocals, Value.category]; done) | rfl
def Q_rw_0 (Z : State) (p0 : Int32) (h0 : Heap) (n0 : Nat) (v : Option Value) (h : Heap) (L : List Loc) : Prop := v = some (.int (0 : Int32)) ∧ Fr n0 L ∧ h = h0
set_option maxRecDepth 65536 in
set_option maxHeartbeats 40000000 in
theorem rm_rw_0 (l : Launch) (Z : State) (av0 : Array Value) (hw : ∀ d ∈ tables_1, d.before av0 Z = true) (ws : List Jvm.Cond) (p0 : Int32) (h0 : Heap) (n0 : Nat) (Z0 : n0 ≤ h0.size) (hL : (((p0 + (64 : Int32)) - (1 : Int32)) / (64 : Int32)) = (0 : Int32)) :
    MetFree l (⟨"com/example/sieveline/sieveline/solver/BitMatrix", "rowWords", "(I)I"⟩ : MethodName) (head1 (Jvm.Cond.code (⟨"com/example/sieveline/sieveline/solver/BitMatrix", "rowWords", "(I)I"⟩ : MethodName) prog_49_method_12_code 1 (some .int) :: ws) ({ frames := 0, cells := 0, slots := 0, locals := 0 } : Room)) (fun a U => a = #[(.int p0)] ∧ Z.Warmed39 U.vm ∧ U.heap = h0) (fun _ _ _ _ _ => True) (fun _ U o U' => ∃ v L, o = .returned v ∧ (Q_rw_0 Z p0 h0 n0) v U'.heap L ∧ FrameEnd U o U' L ({ frames := 0, cells := 0, slots := 0, locals := 0 } : Room).cells ({ frames := 0, cells := 0, slots := 0, locals := 0 } : Room).slots) := by
  refine MetFree.of_bodySF (plainFor_of_name own_pn_BitMatrix) hisR ?_
  intro p e s m args below meth c s₁ Bd hml0 hP hK
  obtain ⟨rfl, hZ, hh⟩ := hP
  have hx := Bd.exec
  have hby := Bd.bytes
  have hml : c.maxLocals = 1 := hml0
  have hown : s.vm.findClass "com/example/sieveline/sieveline/solver/BitMatrix" = some m.cls := findClass_of_methodNamed Bd.named
  have hnm := (name_of_methodNamed Bd.named Bd.method).1
  have hlk : meth.locks = false := BodyLoose.notSynchronized Bd
  have X0 : Stand p l e ({ frames := 0, cells := 0, slots := 0, locals := 0 } : Room) s m #[(.int p0)] below meth c s₁ [] 0 0 := Stand.of_body Bd
  have e0 : s₁.heap = h0 := by rw [← hh, Bd.state]; rfl
  have N0 := Fr.nil n0
  have K0 : Keep h0 h0 [] := Keep.refl _ _
  show ownEnds p e below s (Q_rw_0 Z p0 h0 n0) ({ frames := 0, cells := 0, slots := 0, locals := 0 } : Room).cells ({ frames := 0, cells := 0, slots := 0, locals := 0 } : Room).slots s₁ (entryFrame m #[(.int p0)] 1)
  refine ownCast (own_ef3_rw_0 m p0) ?_
  refine ow_iloadN (q := 1) X0 hx (hb hby own_d3_0) rfl rfl ?_
  refine ow_bipush (q := 3) X0 hx (64 : Int32) (hb hby own_d3_1) rfl rfl ?_
  refine ow_iadd (q := 4) X0 hx _ (hb hby own_d3_3) rfl rfl ?_
  refine ow_iconst (q := 5) X0 hx (1 : Int32) (hb hby own_d3_4) rfl rfl ?_
  refine ow_isub (q := 6) X0 hx _ (hb hby own_d3_5) rfl rfl ?_
  refine ow_bipush (q := 8) X0 hx (64 : Int32) (hb hby own_d3_6) rfl rfl ?_
  refine ow_idiv (q := 9) X0 hx _ (hb hby own_d3_8) rfl (by decide) rfl ?_
  refine ownRetI X0 hx Bd.returns (hb hby own_d3_9) hlk (by decide) (by decide) ?_
  rw [e0]
  refine ⟨congrArg (fun q => some (Value.int q)) ?_, N0, rfl⟩
  exact hL
theorem own_d4_0 : decode prog_49_method_2_code 0 = .ok (.iload_n 0, 1) := by decide +kernel
theorem own_d4_1 : decode prog_49_method_2_code 1 = .ok (.i2l, 1) := by decide +kernel
theorem own_d4_2 : decode prog_49_method_2_code 2 = .ok (.iload_n 1, 1) := by decide +kernel
theorem own_d4_3 : decode prog_49_method_2_code 3 = .ok (.invokestatic 7, 3) := by decide +kernel
theorem own_pd0 : parseMethodDescriptor "(I)I" = some ⟨[.int], some .int⟩ := by decide +kernel
theorem own_d4_6 : decode prog_49_method_2_code 6 = .ok (.i2l, 1) := by decide +kernel
theorem own_d4_7 : decode prog_49_method_2_code 7 = .ok (.lmul, 1) := by decide +kernel
theorem own_d4_8 : decode prog_49_method_2_code 8 = .ok (.lreturn, 1) := by decide +kernel
theorem own_ef4_words_0 (m : MethodId) (p1 : Int32) : entryFrame m #[(.int (1 : Int32)), (.int p1)] 2 = mkF m 0 #[iv (1 : Int32), iv p1] [] := by first | (simp [entryFrame, mkF, argsToLocals, Value.category]; done) | rfl
def Q_words_0 (Z : State) (p1 : Int32) (h0 : Heap) (n0 : Nat) (v : Option Value) (h : Heap) (L : List Loc) : Prop := v = some (.long (0 : Int64)) ∧ Fr n0 L ∧ h = h0
set_option maxRecDepth 65536 in
set_option maxHeartbeats 40000000 in
theorem rm_words_0 (l : Launch) (Z : State) (av0 : Array Value) (hw : ∀ d ∈ tables_1, d.before av0 Z = true) (ws : List Jvm.Cond) (p1 : Int32) (h0 : Heap) (n0 : Nat) (Z0 : n0 ≤ h0.size) (hL : (((p1 + (64 : Int32)) - (1 : Int32)) / (64 : Int32)) = (0 : Int32)) :
    MetFree l (⟨"com/example/sieveline/sieveline/solver/BitMatrix", "words", "(II)J"⟩ : MethodName) (head1 (Jvm.Cond.code (⟨"com/example/sieveline/sieveline/solver/BitMatrix", "words", "(II)J"⟩ : MethodName) prog_49_method_2_code 2 (some .long) :: ws) ({ frames := 1, cells := 0, slots := 0, locals := 14 } : Room)) (fun a U => a = #[(.int (1 : Int32)), (.int p1)] ∧ Z.Warmed39 U.vm ∧ U.heap = h0) (fun _ _ _ _ _ => True) (fun _ U o U' => ∃ v L, o = .returned v ∧ (Q_words_0 Z p1 h0 n0) v U'.heap L ∧ FrameEnd U o U' L ({ frames := 1, cells := 0, slots := 0, locals := 14 } : Room).cells ({ frames := 1, cells := 0, slots := 0, locals := 14 } : Room).slots) := by
  refine MetFree.of_bodySF (plainFor_of_name own_pn_BitMatrix) hisR ?_
  intro p e s m args below meth c s₁ Bd hml0 hP hK
  obtain ⟨rfl, hZ, hh⟩ := hP
  have hx := Bd.exec
  have hby := Bd.bytes
  have hml : c.maxLocals = 2 := hml0
  have hown : s.vm.findClass "com/example/sieveline/sieveline/solver/BitMatrix" = some m.cls := findClass_of_methodNamed Bd.named
  have hnm := (name_of_methodNamed Bd.named Bd.method).1
  have hlk : meth.locks = false := BodyLoose.notSynchronized Bd
  have X0 : Stand p l e ({ frames := 1, cells := 0, slots := 0, locals := 14 } : Room) s m #[(.int (1 : Int32)), (.int p1)] below meth c s₁ [] 0 0 := Stand.of_body Bd
  have e0 : s₁.heap = h0 := by rw [← hh, Bd.state]; rfl
  have N0 := Fr.nil n0
  have K0 : Keep h0 h0 [] := Keep.refl _ _
  show ownEnds p e below s (Q_words_0 Z p1 h0 n0) ({ frames := 1, cells := 0, slots := 0, locals := 14 } : Room).cells ({ frames := 1, cells := 0, slots := 0, locals := 14 } : Room).slots s₁ (entryFrame m #[(.int (1 : Int32)), (.int p1)] 2)
  refine ownCast (own_ef4_words_0 m p1) ?_
  refine ow_iloadN (q := 1) X0 hx (hb hby own_d4_0) rfl rfl ?_
  refine ow_i2l (q := 2) X0 hx (1 : Int64) (hb hby own_d4_1) rfl (by decide) ?_
  refine ow_iloadN (q := 3) X0 hx (hb hby own_d4_2) rfl rfl ?_
  obtain ⟨_, _, ⟨T1, L1, k1, n1⟩, -, X1, ⟨Lc1, hQ1, l1, y1, z1⟩, st1⟩ := Jvm.LawKit.callS X0 hx (y := (⟨"com/example/sieveline/sieveline/solver/BitMatrix", "rowWords", "(I)I"⟩ : MethodName)) hown (mvT hZ (hw _ (List.mem_of_getElem? (i := 10) rfl))) (mvT hZ (hw _ (List.mem_of_getElem? (i := 11) rfl))) (mvT hZ (hw _ (List.mem_of_getElem? (i := 3) rfl))) (mvT hZ (hw _ (List.mem_of_getElem? (i := 12) rfl))) (by decide) (backOf (W := 2) (rm_rw_0 l Z av0 hw [] p1 h0 n0 (Nat.le_trans Z0 K0.1) (by assumption)) hZ (hw _ (List.mem_of_getElem? (i := 12) rfl)) (hw _ (List.mem_of_getElem? (i := 3) rfl)) (by decide) (by decide)) (g := (mkF m 3 #[iv (1 : Int32), iv p1] [(.int p1), (.long (1 : Int64))])) rfl (by rw [hml]; rfl) (argsL := [(.int p1)]) (rest := [(.long (1 : Int64))]) (lenOf own_pd0 rfl) rfl (by show 2 * 0 + _ ≤ _; exact Nat.le_of_eq rfl) (hb hby own_d4_3) (fun _ _ => ⟨rfl, e0, (by decide : 0 + 0 ≤ _), (by decide : 0 + 0 ≤ _)⟩)
  dsimp only [Pt.U, Pt.locs, Pt.cells, Pt.slots] at X1 l1 y1 z1 st1 hQ1
  subst l1 y1 z1
  obtain ⟨rfl, N1q, e1⟩ := hQ1
  have N1 := Fr.app N0 N1q
  refine ownGo (T' := T1) (f' := (mkF m 6 #[iv (1 : Int32), iv p1] [(.int (0 : Int32)), (.long (1 : Int64))])) (st1) ?_
  refine ow_i2l (q := 7) X1 hx (0 : Int64) (hb hby own_d4_6) rfl (by decide) ?_
  refine ow_lmul (q := 8) X1 hx (0 : Int64) (hb hby own_d4_7) rfl (by decide) ?_
  refine ownRetJ X1 hx Bd.returns (hb hby own_d4_8) hlk (by decide) (by decide) ?_
  rw [e1]
  exact ⟨rfl, N1, rfl⟩
theorem own_d5_0 : decode jdk_29_method_43_code 0 = .ok (.lload_n 0, 1) := by decide +kernel
theorem own_d5_1 : decode jdk_29_method_43_code 1 = .ok (.l2i, 1) := by decide +kernel
theorem own_d5_2 : decode jdk_29_method_43_code 2 = .ok (.i2l, 1) := by decide +kernel
theorem own_d5_3 : decode jdk_29_method_43_code 3 = .ok (.lload_n 0, 1) := by decide +kernel
theorem own_d5_4 : decode jdk_29_method_43_code 4 = .ok (.lcmp, 1) := by decide +kernel
theorem own_d5_5 : decode jdk_29_method_43_code 5 = .ok (.ifCond .eq 13, 3) := by decide +kernel
theorem own_d5_18 : decode jdk_29_method_43_code 18 = .ok (.lload_n 0, 1) := by decide +kernel
theorem own_d5_19 : decode jdk_29_method_43_code 19 = .ok (.l2i, 1) := by decide +kernel
theorem own_d5_20 : decode jdk_29_method_43_code 20 = .ok (.ireturn, 1) := by decide +kernel
theorem own_ef5_tie_0 (m : MethodId)  : entryFrame m #[(.long (0 : Int64))] 2 = mkF m 0 #[.val (.long (0 : Int64)), .second] [] := by first | (simp [entryFrame, mkF, argsToLocals, Value.category]; done) | rfl
def Q_tie_0 (Z : State)  (h0 : Heap) (n0 : Nat) (v : Option Value) (h : Heap) (L : List Loc) : Prop := v = some (.int (0 : Int32)) ∧ Fr n0 L ∧ h = h0
set_option maxRecDepth 65536 in
set_option maxHeartbeats 40000000 in
theorem rm_tie_0 (l : Launch) (Z : State) (av0 : Array Value) (hw : ∀ d ∈ tables_1, d.before av0 Z = true) (ws : List Jvm.Cond)  (h0 : Heap) (n0 : Nat) (Z0 : n0 ≤ h0.size) :
    MetFree l (⟨"java/lang/Math", "toIntExact", "(J)I"⟩ : MethodName) (head1 (Jvm.Cond.code (⟨"java/lang/Math", "toIntExact", "(J)I"⟩ : MethodName) jdk_29_method_43_code 2 (some .int) :: ws) ({ frames := 0, cells := 0, slots := 0, locals := 0 } : Room)) (fun a U => a = #[(.long (0 : Int64))] ∧ Z.Warmed39 U.vm ∧ U.heap = h0) (fun _ _ _ _ _ => True) (fun _ U o U' => ∃ v L, o = .returned v ∧ (Q_tie_0 Z  h0 n0) v U'.heap L ∧ FrameEnd U o U' L ({ frames := 0, cells := 0, slots := 0, locals := 0 } : Room).cells ({ frames := 0, cells := 0, slots := 0, locals := 0 } : Room).slots) := by
  refine MetFree.of_bodySF (Jvm.Free.JP.mathPlain rfl (by decide +kernel)) hisR ?_
  intro p e s m args below meth c s₁ Bd hml0 hP hK
  obtain ⟨rfl, hZ, hh⟩ := hP
  have hx := Bd.exec
  have hby := Bd.bytes
  have hml : c.maxLocals = 2 := hml0
  have hown : s.vm.findClass "java/lang/Math" = some m.cls := findClass_of_methodNamed Bd.named
  have hnm := (name_of_methodNamed Bd.named Bd.method).1
  have hlk : meth.locks = false := BodyLoose.notSynchronized Bd
  have X0 : Stand p l e ({ frames := 0, cells := 0, slots := 0, locals := 0 } : Room) s m #[(.long (0 : Int64))] below meth c s₁ [] 0 0 := Stand.of_body Bd
  have e0 : s₁.heap = h0 := by rw [← hh, Bd.state]; rfl
  have N0 := Fr.nil n0
  have K0 : Keep h0 h0 [] := Keep.refl _ _
  show ownEnds p e below s (Q_tie_0 Z  h0 n0) ({ frames := 0, cells := 0, slots := 0, locals := 0 } : Room).cells ({ frames := 0, cells := 0, slots := 0, locals := 0 } : Room).slots s₁ (entryFrame m #[(.long (0 : Int64))] 2)
  refine ownCast (own_ef5_tie_0 m ) ?_
  refine ow_lloadN (q := 1) X0 hx (hb hby own_d5_0) rfl rfl ?_
  refine ow_l2i (q := 2) X0 hx (0 : Int32) (hb hby own_d5_1) rfl (by decide) ?_
  refine ow_i2l (q := 3) X0 hx (0 : Int64) (hb hby own_d5_2) rfl (by decide) ?_
  refine ow_lloadN (q := 4) X0 hx (hb hby own_d5_3) rfl rfl ?_
  refine ow_lcmp (q := 5) X0 hx _ (hb hby own_d5_4) rfl rfl ?_
  refine ow_ifYes (q := 18) X0 hx (hb hby own_d5_5) (Jvm.Free.XT.ll_eq_t (by decide)) (by decide) (by decide) ?_
  refine ow_lloadN (q := 19) X0 hx (hb hby own_d5_18) rfl rfl ?_
  refine ow_l2i (q := 20) X0 hx (0 : Int32) (hb hby own_d5_19) rfl (by decide) ?_
  refine ownRetI X0 hx Bd.returns (hb hby own_d5_20) hlk (by decide) (by decide) ?_
  rw [e0]
  exact ⟨rfl, N0, rfl⟩
theorem own_d1_0 : decode prog_49_method_1_code 0 = .ok (.aload_n 0, 1) := by decide +kernel
theorem own_d1_1 : decode prog_49_method_1_code 1 = .ok (.invokespecial 1, 3) := by decide +kernel
theorem own_d1_4 : decode prog_49_method_1_code 4 = .ok (.aload_n 0, 1) := by decide +kernel
theorem own_d1_5 : decode prog_49_method_1_code 5 = .ok (.iload_n 2, 1) := by decide +kernel
theorem own_d1_6 : decode prog_49_method_1_code 6 = .ok (.invokestatic 7, 3) := by decide +kernel
theorem own_d1_9 : decode prog_49_method_1_code 9 = .ok (.putfield 13, 3) := by decide +kernel
theorem own_d1_12 : decode prog_49_method_1_code 12 = .ok (.aload_n 0, 1) := by decide +kernel
theorem own_d1_13 : decode prog_49_method_1_code 13 = .ok (.iload_n 1, 1) := by decide +kernel
theorem own_d1_14 : decode prog_49_method_1_code 14 = .ok (.iload_n 2, 1) := by decide +kernel
theorem own_d1_15 : decode prog_49_method_1_code 15 = .ok (.invokestatic 16, 3) := by decide +kernel
theorem own_pd1 : parseMethodDescriptor "(II)J" = some ⟨[.int, .int], some .long⟩ := by decide +kernel
theorem own_d1_18 : decode prog_49_method_1_code 18 = .ok (.invokestatic 20, 3) := by decide +kernel
theorem own_pd2 : parseMethodDescriptor "(J)I" = some ⟨[.long], some .int⟩ := by decide +kernel
theorem own_d1_21 : decode prog_49_method_1_code 21 = .ok (.newarray .long, 2) := by decide +kernel
theorem own_d1_23 : decode prog_49_method_1_code 23 = .ok (.putfield 26, 3) := by decide +kernel
theorem own_d1_26 : decode prog_49_method_1_code 26 = .ok (.aload_n 0, 1) := by decide +kernel
theorem own_d1_27 : decode prog_49_method_1_code 27 = .ok (.iload_n 1, 1) := by decide +kernel
theorem own_d1_28 : decode prog_49_method_1_code 28 = .ok (.putfield 29, 3) := by decide +kernel
theorem own_d1_31 : decode prog_49_method_1_code 31 = .ok (.aload_n 0, 1) := by decide +kernel
theorem own_d1_32 : decode prog_49_method_1_code 32 = .ok (.iload_n 2, 1) := by decide +kernel
theorem own_d1_33 : decode prog_49_method_1_code 33 = .ok (.putfield 32, 3) := by decide +kernel
theorem own_d1_36 : decode prog_49_method_1_code 36 = .ok (.return_, 1) := by decide +kernel
theorem own_ef1_init_0 (m : MethodId) (a0 : Addr) (p2 : Int32) : entryFrame m #[(.ref a0), (.int (1 : Int32)), (.int p2)] 3 = mkF m 0 #[rv a0, iv (1 : Int32), iv p2] [] := by first | (simp [entryFrame, mkF, argsToLocals, Value.category]; done) | rfl
def Q_init_0 (Z : State) (a0 : Addr) (p2 : Int32) (h0 : Heap) (n0 : Nat) (v : Option Value) (h : Heap) (L : List Loc) : Prop := v = none ∧ Fr n0 L ∧ Keep h0 h [a0] ∧ Exa Z h a0 "com/example/sieveline/sieveline/solver/BitMatrix" ∧ Fld Z h a0 "com/example/sieveline/sieveline/solver/BitMatrix" "rowWords" "I" (.int (0 : Int32))
set_option maxRecDepth 65536 in
set_option maxHeartbeats 40000000 in
theorem rm_init_0 (l : Launch) (Z : State) (av0 : Array Value) (hw : ∀ d ∈ tables_1, d.before av0 Z = true) (ws : List Jvm.Cond) (a0 : Addr) (p2 : Int32) (h0 : Heap) (n0 : Nat) (Z0 : n0 ≤ h0.size) (HF0 : Exa Z h0 a0 "com/example/sieveline/sieveline/solver/BitMatrix") (HF1 : Fld Z h0 a0 "com/example/sieveline/sieveline/solver/BitMatrix" "rowWords" "I" (.int (0 : Int32))) (HF2 : Fld Z h0 a0 "com/example/sieveline/sieveline/solver/BitMatrix" "words" "[J" .null) (HF3 : Fld Z h0 a0 "com/example/sieveline/sieveline/solver/BitMatrix" "rows" "I" (.int (0 : Int32))) (HF4 : Fld Z h0 a0 "com/example/sieveline/sieveline/solver/BitMatrix" "columns" "I" (.int (0 : Int32))) (G_a0 : n0 ≤ a0) (hL : (((p2 + (64 : Int32)) - (1 : Int32)) / (64 : Int32)) = (0 : Int32)) :
    MetFree l (⟨"com/example/sieveline/sieveline/solver/BitMatrix", "<init>", "(II)V"⟩ : MethodName) (head1 (Jvm.Cond.code (⟨"com/example/sieveline/sieveline/solver/BitMatrix", "<init>", "(II)V"⟩ : MethodName) prog_49_method_1_code 3 none :: ws) ({ frames := 2, cells := 1, slots := 0, locals := 28 } : Room)) (fun a U => a = #[(.ref a0), (.int (1 : Int32)), (.int p2)] ∧ Z.Warmed39 U.vm ∧ U.heap = h0) (fun _ _ _ _ _ => True) (fun _ U o U' => ∃ v L, o = .returned v ∧ (Q_init_0 Z a0 p2 h0 n0) v U'.heap L ∧ FrameEnd U o U' L ({ frames := 2, cells := 1, slots := 0, locals := 28 } : Room).cells ({ frames := 2, cells := 1, slots := 0, locals := 28 } : Room).slots) := by
  refine MetFree.of_bodySF (plainFor_of_name own_pn_BitMatrix) hisR ?_
  intro p e s m args below meth c s₁ Bd hml0 hP hK
  obtain ⟨rfl, hZ, hh⟩ := hP
  have hx := Bd.exec
  have hby := Bd.bytes
  have hml : c.maxLocals = 3 := hml0
  have hown : s.vm.findClass "com/example/sieveline/sieveline/solver/BitMatrix" = some m.cls := findClass_of_methodNamed Bd.named
  have hnm := (name_of_methodNamed Bd.named Bd.method).1
  have hlk : meth.locks = false := BodyLoose.notSynchronized Bd
  have X0 : Stand p l e ({ frames := 2, cells := 1, slots := 0, locals := 28 } : Room) s m #[(.ref a0), (.int (1 : Int32)), (.int p2)] below meth c s₁ [] 0 0 := Stand.of_body Bd
  have e0 : s₁.heap = h0 := by rw [← hh, Bd.state]; rfl
  have N0 := Fr.nil n0
  have K0 : Keep h0 h0 [a0] := Keep.refl _ _
  show ownEnds p e below s (Q_init_0 Z a0 p2 h0 n0) ({ frames := 2, cells := 1, slots := 0, locals := 28 } : Room).cells ({ frames := 2, cells := 1, slots := 0, locals := 28 } : Room).slots s₁ (entryFrame m #[(.ref a0), (.int (1 : Int32)), (.int p2)] 3)
  refine ownCast (own_ef1_init_0 m a0 p2) ?_
  refine ow_aloadN (q := 1) X0 hx (hb hby own_d1_0) rfl rfl rfl ?_
  obtain ⟨T1, X1, e1, st1⟩ := initO X0 hx hZ hown (hw _ (List.mem_of_getElem? (i := 7) rfl)) (hw _ (List.mem_of_getElem? (i := 8) rfl)) (hw _ (List.mem_of_getElem? (i := 9) rfl)) e0 (g := (mkF m 1 #[rv a0, iv (1 : Int32), iv p2] [(.ref a0)])) rfl (by rw [hml]; rfl) rfl (hb hby own_d1_1) (by decide) (W := 0) (by show 2 * 0 + _ ≤ _; exact Nat.le_of_eq rfl) (by decide)
  refine ownGo (T' := T1) (f' := (mkF m 4 #[rv a0, iv (1 : Int32), iv p2] [])) (st1) ?_
  refine ow_aloadN (q := 5) X1 hx (hb hby own_d1_4) rfl rfl rfl ?_
  refine ow_iloadN (q := 6) X1 hx (hb hby own_d1_5) rfl rfl ?_
  obtain ⟨_, _, ⟨T2, L2, k2, n2⟩, -, X2, ⟨Lc2, hQ2, l2, y2, z2⟩, st2⟩ := Jvm.LawKit.callS X1 hx (y := (⟨"com/example/sieveline/sieveline/solver/BitMatrix", "rowWords", "(I)I"⟩ : MethodName)) hown (mvT hZ (hw _ (List.mem_of_getElem? (i := 10) rfl))) (mvT hZ (hw _ (List.mem_of_getElem? (i := 11) rfl))) (mvT hZ (hw _ (List.mem_of_getElem? (i := 3) rfl))) (mvT hZ (hw _ (List.mem_of_getElem? (i := 12) rfl))) (by decide) (backOf (W := 1) (rm_rw_0 l Z av0 hw [] p2 h0 n0 (Nat.le_trans Z0 K0.1) (by assumption)) hZ (hw _ (List.mem_of_getElem? (i := 12) rfl)) (hw _ (List.mem_of_getElem? (i := 3) rfl)) (by decide) (by decide)) (g := (mkF m 6 #[rv a0, iv (1 : Int32), iv p2] [(.int p2), (.ref a0)])) rfl (by rw [hml]; rfl) (argsL := [(.int p2)]) (rest := [(.ref a0)]) (lenOf own_pd0 rfl) rfl (by show 2 * 0 + _ ≤ _; exact Nat.le_of_eq rfl) (hb hby own_d1_6) (fun _ _ => ⟨rfl, e1, (by decide : 0 + 0 ≤ _), (by decide : 0 + 0 ≤ _)⟩)
  dsimp only [Pt.U, Pt.locs, Pt.cells, Pt.slots] at X2 l2 y2 z2 st2 hQ2
  subst l2 y2 z2
  obtain ⟨rfl, N2q, e2⟩ := hQ2
  have N2 := Fr.app N0 N2q
  refine ownGo (T' := T2) (f' := (mkF m 9 #[rv a0, iv (1 : Int32), iv p2] [(.int (0 : Int32)), (.ref a0)])) (st2) ?_
  obtain ⟨T3, h3, X3, e3, W3, st3⟩ := putF X2 hx hZ hown (host := "") (Or.inl (hw _ (List.mem_of_getElem? (i := 13) rfl))) Via.refl e2 HF1 HF0 (Or.inr ⟨(hw _ (List.mem_of_getElem? (i := 14) rfl)), rfl, hnm⟩) (hw _ (List.mem_of_getElem? (i := 2) rfl)) (ty := .int) (by decide) rfl rfl (g := (mkF m 9 #[rv a0, iv (1 : Int32), iv p2] [(.int (0 : Int32)), (.ref a0)])) rfl rfl (hb hby own_d1_9)
  have N3 := Fr.snoc X3 N2 G_a0
  have K3 : Keep h0 h3 [a0] := K0.wr W3 (Or.inl (List.mem_of_getElem? (i := 0) rfl))
  have F4 : Exa Z h3 a0 "com/example/sieveline/sieveline/solver/BitMatrix" := HF0.wr W3
  have F5 : Fld Z h3 a0 "com/example/sieveline/sieveline/solver/BitMatrix" "rowWords" "I" (.int (0 : Int32)) := HF1.same W3
  have F6 : Fld Z h3 a0 "com/example/sieveline/sieveline/solver/BitMatrix" "words" "[J" .null := HF2.other W3 (Or.inr (slot_ne (Or.inr (hw _ (List.mem_of_getElem? (i := 24) rfl))) (Or.inr (hw _ (List.mem_of_getElem? (i := 14) rfl))) (by decide) (t := (.array .long)) (t' := .int) (by decide) (by decide)))
  have F7 : Fld Z h3 a0 "com/example/sieveline/sieveline/solver/BitMatrix" "rows" "I" (.int (0 : Int32)) := HF3.other W3 (Or.inr (slot_ne (Or.inr (hw _ (List.mem_of_getElem? (i := 26) rfl))) (Or.inr (hw _ (List.mem_of_getElem? (i := 14) rfl))) (by decide) (t := .int) (t' := .int) (by decide) (by decide)))
  have F8 : Fld Z h3 a0 "com/example/sieveline/sieveline/solver/BitMatrix" "columns" "I" (.int (0 : Int32)) := HF4.other W3 (Or.inr (slot_ne (Or.inr (hw _ (List.mem_of_getElem? (i := 28) rfl))) (Or.inr (hw _ (List.mem_of_getElem? (i := 14) rfl))) (by decide) (t := .int) (t' := .int) (by decide) (by decide)))
  refine ownGo (T' := T3) (f' := (mkF m 12 #[rv a0, iv (1 : Int32), iv p2] [])) (st3) ?_
  refine ow_aloadN (q := 13) X3 hx (hb hby own_d1_12) rfl rfl rfl ?_
  refine ow_iloadN (q := 14) X3 hx (hb hby own_d1_13) rfl rfl ?_
  refine ow_iloadN (q := 15) X3 hx (hb hby own_d1_14) rfl rfl ?_
  obtain ⟨_, _, ⟨T9, L9, k9, n9⟩, -, X9, ⟨Lc9, hQ9, l9, y9, z9⟩, st9⟩ := Jvm.LawKit.callS X3 hx (y := (⟨"com/example/sieveline/sieveline/solver/BitMatrix", "words", "(II)J"⟩ : MethodName)) hown (mvT hZ (hw _ (List.mem_of_getElem? (i := 15) rfl))) (mvT hZ (hw _ (List.mem_of_getElem? (i := 16) rfl))) (mvT hZ (hw _ (List.mem_of_getElem? (i := 3) rfl))) (mvT hZ (hw _ (List.mem_of_getElem? (i := 17) rfl))) (by decide) (backOf (W := 1) (rm_words_0 l Z av0 hw [] p2 h3 n0 (Nat.le_trans Z0 K3.1) (by assumption)) hZ (hw _ (List.mem_of_getElem? (i := 17) rfl)) (hw _ (List.mem_of_getElem? (i := 3) rfl)) (by decide) (by decide)) (g := (mkF m 15 #[rv a0, iv (1 : Int32), iv p2] [(.int p2), (.int (1 : Int32)), (.ref a0)])) rfl (by rw [hml]; rfl) (argsL := [(.int (1 : Int32)), (.int p2)]) (rest := [(.ref a0)]) (lenOf own_pd1 rfl) rfl (by show 2 * 0 + _ ≤ _; exact Nat.le_of_eq rfl) (hb hby own_d1_15) (fun _ _ => ⟨rfl, e3, (by decide : 0 + 0 ≤ _), (by decide : 0 + 0 ≤ _)⟩)
  dsimp only [Pt.U, Pt.locs, Pt.cells, Pt.slots] at X9 l9 y9 z9 st9 hQ9
  subst l9 y9 z9
  obtain ⟨rfl, N9q, e9⟩ := hQ9
  have N9 := Fr.app N3 N9q
  refine ownGo (T' := T9) (f' := (mkF m 18 #[rv a0, iv (1 : Int32), iv p2] [(.long (0 : Int64)), (.ref a0)])) (st9) ?_
  obtain ⟨_, _, ⟨T10, L10, k10, n10⟩, -, X10, ⟨Lc10, hQ10, l10, y10, z10⟩, st10⟩ := Jvm.LawKit.callS X9 hx (y := (⟨"java/lang/Math", "toIntExact", "(J)I"⟩ : MethodName)) hown (mvT hZ (hw _ (List.mem_of_getElem? (i := 18) rfl))) (mvT hZ (hw _ (List.mem_of_getElem? (i := 19) rfl))) (mvT hZ (hw _ (List.mem_of_getElem? (i := 20) rfl))) (mvT hZ (hw _ (List.mem_of_getElem? (i := 21) rfl))) (by decide) (backOf (W := 1) (rm_tie_0 l Z av0 hw []  h3 n0 (Nat.le_trans Z0 K3.1) ) hZ (hw _ (List.mem_of_getElem? (i := 21) rfl)) (hw _ (List.mem_of_getElem? (i := 20) rfl)) (by decide) (by decide)) (g := (mkF m 18 #[rv a0, iv (1 : Int32), iv p2] [(.long (0 : Int64)), (.ref a0)])) rfl (by rw [hml]; rfl) (argsL := [(.long (0 : Int64))]) (rest := [(.ref a0)]) (lenOf own_pd2 rfl) rfl (by show 2 * 0 + _ ≤ _; exact Nat.le_of_eq rfl) (hb hby own_d1_18) (fun _ _ => ⟨rfl, e9, (by decide : 0 + 0 ≤ _), (by decide : 0 + 0 ≤ _)⟩)
  dsimp only [Pt.U, Pt.locs, Pt.cells, Pt.slots] at X10 l10 y10 z10 st10 hQ10
  subst l10 y10 z10
  obtain ⟨rfl, N10q, e10⟩ := hQ10
  have N10 := Fr.app N9 N10q
  refine ownGo (T' := T10) (f' := (mkF m 21 #[rv a0, iv (1 : Int32), iv p2] [(.int (0 : Int32)), (.ref a0)])) (st10) ?_
  obtain ⟨T11, h11, k11, X11, e11, E11, A11, st11⟩ := newP X10 hx hZ (hw _ (List.mem_of_getElem? (i := 22) rfl)) e10 (g := (mkF m 21 #[rv a0, iv (1 : Int32), iv p2] [(.int (0 : Int32)), (.ref a0)])) rfl (hb hby own_d1_21) rfl (by decide) (cap := 0) (by decide) (by decide) (by decide) (by decide)
  obtain ⟨b11, g11⟩ : ∃ z, z = h3.size := ⟨_, rfl⟩
  rw [← g11] at A11 st11
  have ne_a0_b11 : a0 ≠ b11 := Nat.ne_of_lt (Nat.lt_of_lt_of_le F4.lt (Nat.le_of_eq g11.symm))
  have sz_b11 : h0.size ≤ b11 := Nat.le_trans K3.1 (Nat.le_of_eq g11.symm)
  have G_b11 : n0 ≤ b11 := Nat.le_trans Z0 sz_b11
  have K11 : Keep h0 h11 [a0] := K3.ext E11
  have F12 : Exa Z h11 a0 "com/example/sieveline/sieveline/solver/BitMatrix" := F4.ext E11
  have F13 : Fld Z h11 a0 "com/example/sieveline/sieveline/solver/BitMatrix" "rowWords" "I" (.int (0 : Int32)) := F5.ext E11
  have F14 : Fld Z h11 a0 "com/example/sieveline/sieveline/solver/BitMatrix" "words" "[J" .null := F6.ext E11
  have F15 : Fld Z h11 a0 "com/example/sieveline/sieveline/solver/BitMatrix" "rows" "I" (.int (0 : Int32)) := F7.ext E11
  have F16 : Fld Z h11 a0 "com/example/sieveline/sieveline/solver/BitMatrix" "columns" "I" (.int (0 : Int32)) := F8.ext E11
  have F17 : ownAJ Z h11 b11 0 (fun _ => (0 : Int64)) := ownAJ.new A11 (by decide) (by decide)
  refine ownGo (T' := T11) (f' := (mkF m 23 #[rv a0, iv (1 : Int32), iv p2] [(.ref b11), (.ref a0)])) (st11) ?_
  obtain ⟨T18, h18, X18, e18, W18, st18⟩ := putF X11 hx hZ hown (host := "") (Or.inl (hw _ (List.mem_of_getElem? (i := 23) rfl))) Via.refl e11 F14 F12 (Or.inr ⟨(hw _ (List.mem_of_getElem? (i := 24) rfl)), rfl, hnm⟩) (hw _ (List.mem_of_getElem? (i := 2) rfl)) (ty := (.array .long)) (by decide) rfl rfl (g := (mkF m 23 #[rv a0, iv (1 : Int32), iv p2] [(.ref b11), (.ref a0)])) rfl rfl (hb hby own_d1_23)
  have N18 := Fr.snoc X18 N10 G_a0
  have K18 : Keep h0 h18 [a0] := K11.wr W18 (Or.inl (List.mem_of_getElem? (i := 0) rfl))
  have F19 : Exa Z h18 a0 "com/example/sieveline/sieveline/solver/BitMatrix" := F12.wr W18
  have F20 : Fld Z h18 a0 "com/example/sieveline/sieveline/solver/BitMatrix" "rowWords" "I" (.int (0 : Int32)) := F13.other W18 (Or.inr (slot_ne (Or.inr (hw _ (List.mem_of_getElem? (i := 14) rfl))) (Or.inr (hw _ (List.mem_of_getElem? (i := 24) rfl))) (by decide) (t := .int) (t' := (.array .long)) (by decide) (by decide)))
  have F21 : Fld Z h18 a0 "com/example/sieveline/sieveline/solver/BitMatrix" "words" "[J" (.ref b11) := F14.same W18
  have F22 : Fld Z h18 a0 "com/example/sieveline/sieveline/solver/BitMatrix" "rows" "I" (.int (0 : Int32)) := F15.other W18 (Or.inr (slot_ne (Or.inr (hw _ (List.mem_of_getElem? (i := 26) rfl))) (Or.inr (hw _ (List.mem_of_getElem? (i := 24) rfl))) (by decide) (t := .int) (t' := (.array .long)) (by decide) (by decide)))
  have F23 : Fld Z h18 a0 "com/example/sieveline/sieveline/solver/BitMatrix" "columns" "I" (.int (0 : Int32)) := F16.other W18 (Or.inr (slot_ne (Or.inr (hw _ (List.mem_of_getElem? (i := 28) rfl))) (Or.inr (hw _ (List.mem_of_getElem? (i := 24) rfl))) (by decide) (t := .int) (t' := (.array .long)) (by decide) (by decide)))
  have F24 : ownAJ Z h18 b11 0 (fun _ => (0 : Int64)) := F17.other W18 (Ne.symm ne_a0_b11)
  refine ownGo (T' := T18) (f' := (mkF m 26 #[rv a0, iv (1 : Int32), iv p2] [])) (st18) ?_
  refine ow_aloadN (q := 27) X18 hx (hb hby own_d1_26) rfl rfl rfl ?_
  refine ow_iloadN (q := 28) X18 hx (hb hby own_d1_27) rfl rfl ?_
  obtain ⟨T25, h25, X25, e25, W25, st25⟩ := putF X18 hx hZ hown (host := "") (Or.inl (hw _ (List.mem_of_getElem? (i := 25) rfl))) Via.refl e18 F22 F19 (Or.inr ⟨(hw _ (List.mem_of_getElem? (i := 26) rfl)), rfl, hnm⟩) (hw _ (List.mem_of_getElem? (i := 2) rfl)) (ty := .int) (by decide) rfl rfl (g := (mkF m 28 #[rv a0, iv (1 : Int32), iv p2] [(.int (1 : Int32)), (.ref a0)])) rfl rfl (hb hby own_d1_28)
  have N25 := Fr.snoc X25 N18 G_a0
  have K25 : Keep h0 h25 [a0] := K18.wr W25 (Or.inl (List.mem_of_getElem? (i := 0) rfl))
  have F26 : Exa Z h25 a0 "com/example/sieveline/sieveline/solver/BitMatrix" := F19.wr W25
  have F27 : Fld Z h25 a0 "com/example/sieveline/sieveline/solver/BitMatrix" "rowWords" "I" (.int (0 : Int32)) := F20.other W25 (Or.inr (slot_ne (Or.inr (hw _ (List.mem_of_getElem? (i := 14) rfl))) (Or.inr (hw _ (List.mem_of_getElem? (i := 26) rfl))) (by decide) (t := .int) (t' := .int) (by decide) (by decide)))
  have F28 : Fld Z h25 a0 "com/example/sieveline/sieveline/solver/BitMatrix" "words" "[J" (.ref b11) := F21.other W25 (Or.inr (slot_ne (Or.inr (hw _ (List.mem_of_getElem? (i := 24) rfl))) (Or.inr (hw _ (List.mem_of_getElem? (i := 26) rfl))) (by decide) (t := (.array .long)) (t' := .int) (by decide) (by decide)))
  have F29 : Fld Z h25 a0 "com/example/sieveline/sieveline/solver/BitMatrix" "rows" "I" (.int (1 : Int32)) := F22.same W25
  have F30 : Fld Z h25 a0 "com/example/sieveline/sieveline/solver/BitMatrix" "columns" "I" (.int (0 : Int32)) := F23.other W25 (Or.inr (slot_ne (Or.inr (hw _ (List.mem_of_getElem? (i := 28) rfl))) (Or.inr (hw _ (List.mem_of_getElem? (i := 26) rfl))) (by decide) (t := .int) (t' := .int) (by decide) (by decide)))
  have F31 : ownAJ Z h25 b11 0 (fun _ => (0 : Int64)) := F24.other W25 (Ne.symm ne_a0_b11)
  refine ownGo (T' := T25) (f' := (mkF m 31 #[rv a0, iv (1 : Int32), iv p2] [])) (st25) ?_
  refine ow_aloadN (q := 32) X25 hx (hb hby own_d1_31) rfl rfl rfl ?_
  refine ow_iloadN (q := 33) X25 hx (hb hby own_d1_32) rfl rfl ?_
  obtain ⟨T32, h32, X32, e32, W32, st32⟩ := putF X25 hx hZ hown (host := "") (Or.inl (hw _ (List.mem_of_getElem? (i := 27) rfl))) Via.refl e25 F30 F26 (Or.inr ⟨(hw _ (List.mem_of_getElem? (i := 28) rfl)), rfl, hnm⟩) (hw _ (List.mem_of_getElem? (i := 2) rfl)) (ty := .int) (by decide) rfl rfl (g := (mkF m 33 #[rv a0, iv (1 : Int32), iv p2] [(.int p2), (.ref a0)])) rfl rfl (hb hby own_d1_33)
  have N32 := Fr.snoc X32 N25 G_a0
  have K32 : Keep h0 h32 [a0] := K25.wr W32 (Or.inl (List.mem_of_getElem? (i := 0) rfl))
  have F33 : Exa Z h32 a0 "com/example/sieveline/sieveline/solver/BitMatrix" := F26.wr W32
  have F34 : Fld Z h32 a0 "com/example/sieveline/sieveline/solver/BitMatrix" "rowWords" "I" (.int (0 : Int32)) := F27.other W32 (Or.inr (slot_ne (Or.inr (hw _ (List.mem_of_getElem? (i := 14) rfl))) (Or.inr (hw _ (List.mem_of_getElem? (i := 28) rfl))) (by decide) (t := .int) (t' := .int) (by decide) (by decide)))
  have F35 : Fld Z h32 a0 "com/example/sieveline/sieveline/solver/BitMatrix" "words" "[J" (.ref b11) := F28.other W32 (Or.inr (slot_ne (Or.inr (hw _ (List.mem_of_getElem? (i := 24) rfl))) (Or.inr (hw _ (List.mem_of_getElem? (i := 28) rfl))) (by decide) (t := (.array .long)) (t' := .int) (by decide) (by decide)))
  have F36 : Fld Z h32 a0 "com/example/sieveline/sieveline/solver/BitMatrix" "rows" "I" (.int (1 : Int32)) := F29.other W32 (Or.inr (slot_ne (Or.inr (hw _ (List.mem_of_getElem? (i := 26) rfl))) (Or.inr (hw _ (List.mem_of_getElem? (i := 28) rfl))) (by decide) (t := .int) (t' := .int) (by decide) (by decide)))
  have F37 : Fld Z h32 a0 "com/example/sieveline/sieveline/solver/BitMatrix" "columns" "I" (.int p2) := F30.same W32
  have F38 : ownAJ Z h32 b11 0 (fun _ => (0 : Int64)) := F31.other W32 (Ne.symm ne_a0_b11)
  refine ownGo (T' := T32) (f' := (mkF m 36 #[rv a0, iv (1 : Int32), iv p2] [])) (st32) ?_
  refine ownRetV X32 hx Bd.returns (hb hby own_d1_36) hlk (by decide) (by decide) ?_
  rw [e32]
  exact ⟨rfl, N32, K32, F33, F34⟩
theorem own_ef3_rw_1 (m : MethodId) (p0 : Int32) : entryFrame m #[(.int p0)] 1 = mkF m 0 #[iv p0] [] := by first | (simp [entryFrame, mkF, argsToLocals, Value.category]; done) | rfl
def Q_rw_1 (Z : State) (p0 : Int32) (h0 : Heap) (n0 : Nat) (v : Option Value) (h : Heap) (L : List Loc) : Prop := v = some (.int (1 : Int32)) ∧ Fr n0 L ∧ h = h0
set_option maxRecDepth 65536 in
set_option maxHeartbeats 40000000 in
theorem rm_rw_1 (l : Launch) (Z : State) (av0 : Array Value) (hw : ∀ d ∈ tables_1, d.before av0 Z = true) (ws : List Jvm.Cond) (p0 : Int32) (h0 : Heap) (n0 : Nat) (Z0 : n0 ≤ h0.size) (hL : (((p0 + (64 : Int32)) - (1 : Int32)) / (64 : Int32)) = (1 : Int32)) :
    MetFree l (⟨"com/example/sieveline/sieveline/solver/BitMatrix", "rowWords", "(I)I"⟩ : MethodName) (head1 (Jvm.Cond.code (⟨"com/example/sieveline/sieveline/solver/BitMatrix", "rowWords", "(I)I"⟩ : MethodName) prog_49_method_12_code 1 (some .int) :: ws) ({ frames := 0, cells := 0, slots := 0, locals := 0 } : Room)) (fun a U => a = #[(.int p0)] ∧ Z.Warmed39 U.vm ∧ U.heap = h0) (fun _ _ _ _ _ => True) (fun _ U o U' => ∃ v L, o = .returned v ∧ (Q_rw_1 Z p0 h0 n0) v U'.heap L ∧ FrameEnd U o U' L ({ frames := 0, cells := 0, slots := 0, locals := 0 } : Room).cells ({ frames := 0, cells := 0, slots := 0, locals := 0 } : Room).slots) := by
  refine MetFree.of_bodySF (plainFor_of_name own_pn_BitMatrix) hisR ?_
  intro p e s m args below meth c s₁ Bd hml0 hP hK
  obtain ⟨rfl, hZ, hh⟩ := hP
  have hx := Bd.exec
  have hby := Bd.bytes
  have hml : c.maxLocals = 1 := hml0
  have hown : s.vm.findClass "com/example/sieveline/sieveline/solver/BitMatrix" = some m.cls := findClass_of_methodNamed Bd.named
  have hnm := (name_of_methodNamed Bd.named Bd.method).1
  have hlk : meth.locks = false := BodyLoose.notSynchronized Bd
  have X0 : Stand p l e ({ frames := 0, cells := 0, slots := 0, locals := 0 } : Room) s m #[(.int p0)] below meth c s₁ [] 0 0 := Stand.of_body Bd
  have e0 : s₁.heap = h0 := by rw [← hh, Bd.state]; rfl
  have N0 := Fr.nil n0
  have K0 : Keep h0 h0 [] := Keep.refl _ _
  show ownEnds p e below s (Q_rw_1 Z p0 h0 n0) ({ frames := 0, cells := 0, slots := 0, locals := 0 } : Room).cells ({ frames := 0, cells := 0, slots := 0, locals := 0 } : Room).slots s₁ (entryFrame m #[(.int p0)] 1)
  refine ownCast (own_ef3_rw_1 m p0) ?_
  refine ow_iloadN (q := 1) X0 hx (hb hby own_d3_0) rfl rfl ?_
  refine ow_bipush (q := 3) X0 hx (64 : Int32) (hb hby own_d3_1) rfl rfl ?_
  refine ow_iadd (q := 4) X0 hx _ (hb hby own_d3_3) rfl rfl ?_
  refine ow_iconst (q := 5) X0 hx (1 : Int32) (hb hby own_d3_4) rfl rfl ?_
  refine ow_isub (q := 6) X0 hx _ (hb hby own_d3_5) rfl rfl ?_
  refine ow_bipush (q := 8) X0 hx (64 : Int32) (hb hby own_d3_6) rfl rfl ?_
  refine ow_idiv (q := 9) X0 hx _ (hb hby own_d3_8) rfl (by decide) rfl ?_
  refine ownRetI X0 hx Bd.returns (hb hby own_d3_9) hlk (by decide) (by decide) ?_
  rw [e0]
  refine ⟨congrArg (fun q => some (Value.int q)) ?_, N0, rfl⟩
  exact hL
theorem own_ef4_words_1 (m : MethodId) (p1 : Int32) : entryFrame m #[(.int (1 : Int32)), (.int p1)] 2 = mkF m 0 #[iv (1 : Int32), iv p1] [] := by first | (simp [entryFrame, mkF, argsToLocals, Value.category]; done) | rfl
def Q_words_1 (Z : State) (p1 : Int32) (h0 : Heap) (n0 : Nat) (v : Option Value) (h : Heap) (L : List Loc) : Prop := v = some (.long (1 : Int64)) ∧ Fr n0 L ∧ h = h0
set_option maxRecDepth 65536 in
set_option maxHeartbeats 40000000 in
theorem rm_words_1 (l : Launch) (Z : State) (av0 : Array Value) (hw : ∀ d ∈ tables_1, d.before av0 Z = true) (ws : List Jvm.Cond) (p1 : Int32) (h0 : Heap) (n0 : Nat) (Z0 : n0 ≤ h0.size) (hL : (((p1 + (64 : Int32)) - (1 : Int32)) / (64 : Int32)) = (1 : Int32)) :
    MetFree l (⟨"com/example/sieveline/sieveline/solver/BitMatrix", "words", "(II)J"⟩ : MethodName) (head1 (Jvm.Cond.code (⟨"com/example/sieveline/sieveline/solver/BitMatrix", "words", "(II)J"⟩ : MethodName) prog_49_method_2_code 2 (some .long) :: ws) ({ frames := 1, cells := 0, slots := 0, locals := 14 } : Room)) (fun a U => a = #[(.int (1 : Int32)), (.int p1)] ∧ Z.Warmed39 U.vm ∧ U.heap = h0) (fun _ _ _ _ _ => True) (fun _ U o U' => ∃ v L, o = .returned v ∧ (Q_words_1 Z p1 h0 n0) v U'.heap L ∧ FrameEnd U o U' L ({ frames := 1, cells := 0, slots := 0, locals := 14 } : Room).cells ({ frames := 1, cells := 0, slots := 0, locals := 14 } : Room).slots) := by
  refine MetFree.of_bodySF (plainFor_of_name own_pn_BitMatrix) hisR ?_
  intro p e s m args below meth c s₁ Bd hml0 hP hK
  obtain ⟨rfl, hZ, hh⟩ := hP
  have hx := Bd.exec
  have hby := Bd.bytes
  have hml : c.maxLocals = 2 := hml0
  have hown : s.vm.findClass "com/example/sieveline/sieveline/solver/BitMatrix" = some m.cls := findClass_of_methodNamed Bd.named
  have hnm := (name_of_methodNamed Bd.named Bd.method).1
  have hlk : meth.locks = false := BodyLoose.notSynchronized Bd
  have X0 : Stand p l e ({ frames := 1, cells := 0, slots := 0, locals := 14 } : Room) s m #[(.int (1 : Int32)), (.int p1)] below meth c s₁ [] 0 0 := Stand.of_body Bd
  have e0 : s₁.heap = h0 := by rw [← hh, Bd.state]; rfl
  have N0 := Fr.nil n0
  have K0 : Keep h0 h0 [] := Keep.refl _ _
  show ownEnds p e below s (Q_words_1 Z p1 h0 n0) ({ frames := 1, cells := 0, slots := 0, locals := 14 } : Room).cells ({ frames := 1, cells := 0, slots := 0, locals := 14 } : Room).slots s₁ (entryFrame m #[(.int (1 : Int32)), (.int p1)] 2)
  refine ownCast (own_ef4_words_1 m p1) ?_
  refine ow_iloadN (q := 1) X0 hx (hb hby own_d4_0) rfl rfl ?_
  refine ow_i2l (q := 2) X0 hx (1 : Int64) (hb hby own_d4_1) rfl (by decide) ?_
  refine ow_iloadN (q := 3) X0 hx (hb hby own_d4_2) rfl rfl ?_
  obtain ⟨_, _, ⟨T1, L1, k1, n1⟩, -, X1, ⟨Lc1, hQ1, l1, y1, z1⟩, st1⟩ := Jvm.LawKit.callS X0 hx (y := (⟨"com/example/sieveline/sieveline/solver/BitMatrix", "rowWords", "(I)I"⟩ : MethodName)) hown (mvT hZ (hw _ (List.mem_of_getElem? (i := 10) rfl))) (mvT hZ (hw _ (List.mem_of_getElem? (i := 11) rfl))) (mvT hZ (hw _ (List.mem_of_getElem? (i := 3) rfl))) (mvT hZ (hw _ (List.mem_of_getElem? (i := 12) rfl))) (by decide) (backOf (W := 2) (rm_rw_1 l Z av0 hw [] p1 h0 n0 (Nat.le_trans Z0 K0.1) (by assumption)) hZ (hw _ (List.mem_of_getElem? (i := 12) rfl)) (hw _ (List.mem_of_getElem? (i := 3) rfl)) (by decide) (by decide)) (g := (mkF m 3 #[iv (1 : Int32), iv p1] [(.int p1), (.long (1 : Int64))])) rfl (by rw [hml]; rfl) (argsL := [(.int p1)]) (rest := [(.long (1 : Int64))]) (lenOf own_pd0 rfl) rfl (by show 2 * 0 + _ ≤ _; exact Nat.le_of_eq rfl) (hb hby own_d4_3) (fun _ _ => ⟨rfl, e0, (by decide : 0 + 0 ≤ _), (by decide : 0 + 0 ≤ _)⟩)
  dsimp only [Pt.U, Pt.locs, Pt.cells, Pt.slots] at X1 l1 y1 z1 st1 hQ1
  subst l1 y1 z1
  obtain ⟨rfl, N1q, e1⟩ := hQ1
  have N1 := Fr.app N0 N1q
  refine ownGo (T' := T1) (f' := (mkF m 6 #[iv (1 : Int32), iv p1] [(.int (1 : Int32)), (.long (1 : Int64))])) (st1) ?_
  refine ow_i2l (q := 7) X1 hx (1 : Int64) (hb hby own_d4_6) rfl (by decide) ?_
  refine ow_lmul (q := 8) X1 hx (1 : Int64) (hb hby own_d4_7) rfl (by decide) ?_
  refine ownRetJ X1 hx Bd.returns (hb hby own_d4_8) hlk (by decide) (by decide) ?_
  rw [e1]
  exact ⟨rfl, N1, rfl⟩
theorem own_ef5_tie_1 (m : MethodId)  : entryFrame m #[(.long (1 : Int64))] 2 = mkF m 0 #[.val (.long (1 : Int64)), .second] [] := by first | (simp [entryFrame, mkF, argsToLocals, Value.category]; done) | rfl
def Q_tie_1 (Z : State)  (h0 : Heap) (n0 : Nat) (v : Option Value) (h : Heap) (L : List Loc) : Prop := v = some (.int (1 : Int32)) ∧ Fr n0 L ∧ h = h0
set_option maxRecDepth 65536 in
set_option maxHeartbeats 40000000 in
theorem rm_tie_1 (l : Launch) (Z : State) (av0 : Array Value) (hw : ∀ d ∈ tables_1, d.before av0 Z = true) (ws : List Jvm.Cond)  (h0 : Heap) (n0 : Nat) (Z0 : n0 ≤ h0.size) :
    MetFree l (⟨"java/lang/Math", "toIntExact", "(J)I"⟩ : MethodName) (head1 (Jvm.Cond.code (⟨"java/lang/Math", "toIntExact", "(J)I"⟩ : MethodName) jdk_29_method_43_code 2 (some .int) :: ws) ({ frames := 0, cells := 0, slots := 0, locals := 0 } : Room)) (fun a U => a = #[(.long (1 : Int64))] ∧ Z.Warmed39 U.vm ∧ U.heap = h0) (fun _ _ _ _ _ => True) (fun _ U o U' => ∃ v L, o = .returned v ∧ (Q_tie_1 Z  h0 n0) v U'.heap L ∧ FrameEnd U o U' L ({ frames := 0, cells := 0, slots := 0, locals := 0 } : Room).cells ({ frames := 0, cells := 0, slots := 0, locals := 0 } : Room).slots) := by
  refine MetFree.of_bodySF (Jvm.Free.JP.mathPlain rfl (by decide +kernel)) hisR ?_
  intro p e s m args below meth c s₁ Bd hml0 hP hK
  obtain ⟨rfl, hZ, hh⟩ := hP
  have hx := Bd.exec
  have hby := Bd.bytes
  have hml : c.maxLocals = 2 := hml0
  have hown : s.vm.findClass "java/lang/Math" = some m.cls := findClass_of_methodNamed Bd.named
  have hnm := (name_of_methodNamed Bd.named Bd.method).1
  have hlk : meth.locks = false := BodyLoose.notSynchronized Bd
  have X0 : Stand p l e ({ frames := 0, cells := 0, slots := 0, locals := 0 } : Room) s m #[(.long (1 : Int64))] below meth c s₁ [] 0 0 := Stand.of_body Bd
  have e0 : s₁.heap = h0 := by rw [← hh, Bd.state]; rfl
  have N0 := Fr.nil n0
  have K0 : Keep h0 h0 [] := Keep.refl _ _
  show ownEnds p e below s (Q_tie_1 Z  h0 n0) ({ frames := 0, cells := 0, slots := 0, locals := 0 } : Room).cells ({ frames := 0, cells := 0, slots := 0, locals := 0 } : Room).slots s₁ (entryFrame m #[(.long (1 : Int64))] 2)
  refine ownCast (own_ef5_tie_1 m ) ?_
  refine ow_lloadN (q := 1) X0 hx (hb hby own_d5_0) rfl rfl ?_
  refine ow_l2i (q := 2) X0 hx (1 : Int32) (hb hby own_d5_1) rfl (by decide) ?_
  refine ow_i2l (q := 3) X0 hx (1 : Int64) (hb hby own_d5_2) rfl (by decide) ?_
  refine ow_lloadN (q := 4) X0 hx (hb hby own_d5_3) rfl rfl ?_
  refine ow_lcmp (q := 5) X0 hx _ (hb hby own_d5_4) rfl rfl ?_
  refine ow_ifYes (q := 18) X0 hx (hb hby own_d5_5) (Jvm.Free.XT.ll_eq_t (by decide)) (by decide) (by decide) ?_
  refine ow_lloadN (q := 19) X0 hx (hb hby own_d5_18) rfl rfl ?_
  refine ow_l2i (q := 20) X0 hx (1 : Int32) (hb hby own_d5_19) rfl (by decide) ?_
  refine ownRetI X0 hx Bd.returns (hb hby own_d5_20) hlk (by decide) (by decide) ?_
  rw [e0]
  exact ⟨rfl, N0, rfl⟩
theorem own_ef1_init_1 (m : MethodId) (a0 : Addr) (p2 : Int32) : entryFrame m #[(.ref a0), (.int (1 : Int32)), (.int p2)] 3 = mkF m 0 #[rv a0, iv (1 : Int32), iv p2] [] := by first | (simp [entryFrame, mkF, argsToLocals, Value.category]; done) | rfl
def Q_init_1 (Z : State) (a0 : Addr) (p2 : Int32) (h0 : Heap) (n0 : Nat) (v : Option Value) (h : Heap) (L : List Loc) : Prop := v = none ∧ Fr n0 L ∧ Keep h0 h [a0] ∧ Exa Z h a0 "com/example/sieveline/sieveline/solver/BitMatrix" ∧ Fld Z h a0 "com/example/sieveline/sieveline/solver/BitMatrix" "rowWords" "I" (.int (1 : Int32))
set_option maxRecDepth 65536 in
set_option maxHeartbeats 40000000 in
theorem rm_init_1 (l : Launch) (Z : State) (av0 : Array Value) (hw : ∀ d ∈ tables_1, d.before av0 Z = true) (ws : List Jvm.Cond) (a0 : Addr) (p2 : Int32) (h0 : Heap) (n0 : Nat) (Z0 : n0 ≤ h0.size) (HF0 : Exa Z h0 a0 "com/example/sieveline/sieveline/solver/BitMatrix") (HF1 : Fld Z h0 a0 "com/example/sieveline/sieveline/solver/BitMatrix" "rowWords" "I" (.int (0 : Int32))) (HF2 : Fld Z h0 a0 "com/example/sieveline/sieveline/solver/BitMatrix" "words" "[J" .null) (HF3 : Fld Z h0 a0 "com/example/sieveline/sieveline/solver/BitMatrix" "rows" "I" (.int (0 : Int32))) (HF4 : Fld Z h0 a0 "com/example/sieveline/sieveline/solver/BitMatrix" "columns" "I" (.int (0 : Int32))) (G_a0 : n0 ≤ a0) (hL : (((p2 + (64 : Int32)) - (1 : Int32)) / (64 : Int32)) = (1 : Int32)) :
    MetFree l (⟨"com/example/sieveline/sieveline/solver/BitMatrix", "<init>", "(II)V"⟩ : MethodName) (head1 (Jvm.Cond.code (⟨"com/example/sieveline/sieveline/solver/BitMatrix", "<init>", "(II)V"⟩ : MethodName) prog_49_method_1_code 3 none :: ws) ({ frames := 2, cells := 1, slots := 1, locals := 28 } : Room)) (fun a U => a = #[(.ref a0), (.int (1 : Int32)), (.int p2)] ∧ Z.Warmed39 U.vm ∧ U.heap = h0) (fun _ _ _ _ _ => True) (fun _ U o U' => ∃ v L, o = .returned v ∧ (Q_init_1 Z a0 p2 h0 n0) v U'.heap L ∧ FrameEnd U o U' L ({ frames := 2, cells := 1, slots := 1, locals := 28 } : Room).cells ({ frames := 2, cells := 1, slots := 1, locals := 28 } : Room).slots) := by
  refine MetFree.of_bodySF (plainFor_of_name own_pn_BitMatrix) hisR ?_
  intro p e s m args below meth c s₁ Bd hml0 hP hK
  obtain ⟨rfl, hZ, hh⟩ := hP
  have hx := Bd.exec
  have hby := Bd.bytes
  have hml : c.maxLocals = 3 := hml0
  have hown : s.vm.findClass "com/example/sieveline/sieveline/solver/BitMatrix" = some m.cls := findClass_of_methodNamed Bd.named
  have hnm := (name_of_methodNamed Bd.named Bd.method).1
  have hlk : meth.locks = false := BodyLoose.notSynchronized Bd
  have X0 : Stand p l e ({ frames := 2, cells := 1, slots := 1, locals := 28 } : Room) s m #[(.ref a0), (.int (1 : Int32)), (.int p2)] below meth c s₁ [] 0 0 := Stand.of_body Bd
  have e0 : s₁.heap = h0 := by rw [← hh, Bd.state]; rfl
  have N0 := Fr.nil n0
  have K0 : Keep h0 h0 [a0] := Keep.refl _ _
  show ownEnds p e below s (Q_init_1 Z a0 p2 h0 n0) ({ frames := 2, cells := 1, slots := 1, locals := 28 } : Room).cells ({ frames := 2, cells := 1, slots := 1, locals := 28 } : Room).slots s₁ (entryFrame m #[(.ref a0), (.int (1 : Int32)), (.int p2)] 3)
  refine ownCast (own_ef1_init_1 m a0 p2) ?_
  refine ow_aloadN (q := 1) X0 hx (hb hby own_d1_0) rfl rfl rfl ?_
  obtain ⟨T1, X1, e1, st1⟩ := initO X0 hx hZ hown (hw _ (List.mem_of_getElem? (i := 7) rfl)) (hw _ (List.mem_of_getElem? (i := 8) rfl)) (hw _ (List.mem_of_getElem? (i := 9) rfl)) e0 (g := (mkF m 1 #[rv a0, iv (1 : Int32), iv p2] [(.ref a0)])) rfl (by rw [hml]; rfl) rfl (hb hby own_d1_1) (by decide) (W := 0) (by show 2 * 0 + _ ≤ _; exact Nat.le_of_eq rfl) (by decide)
  refine ownGo (T' := T1) (f' := (mkF m 4 #[rv a0, iv (1 : Int32), iv p2] [])) (st1) ?_
  refine ow_aloadN (q := 5) X1 hx (hb hby own_d1_4) rfl rfl rfl ?_
  refine ow_iloadN (q := 6) X1 hx (hb hby own_d1_5) rfl rfl ?_
  obtain ⟨_, _, ⟨T2, L2, k2, n2⟩, -, X2, ⟨Lc2, hQ2, l2, y2, z2⟩, st2⟩ := Jvm.LawKit.callS X1 hx (y := (⟨"com/example/sieveline/sieveline/solver/BitMatrix", "rowWords", "(I)I"⟩ : MethodName)) hown (mvT hZ (hw _ (List.mem_of_getElem? (i := 10) rfl))) (mvT hZ (hw _ (List.mem_of_getElem? (i := 11) rfl))) (mvT hZ (hw _ (List.mem_of_getElem? (i := 3) rfl))) (mvT hZ (hw _ (List.mem_of_getElem? (i := 12) rfl))) (by decide) (backOf (W := 1) (rm_rw_1 l Z av0 hw [] p2 h0 n0 (Nat.le_trans Z0 K0.1) (by assumption)) hZ (hw _ (List.mem_of_getElem? (i := 12) rfl)) (hw _ (List.mem_of_getElem? (i := 3) rfl)) (by decide) (by decide)) (g := (mkF m 6 #[rv a0, iv (1 : Int32), iv p2] [(.int p2), (.ref a0)])) rfl (by rw [hml]; rfl) (argsL := [(.int p2)]) (rest := [(.ref a0)]) (lenOf own_pd0 rfl) rfl (by show 2 * 0 + _ ≤ _; exact Nat.le_of_eq rfl) (hb hby own_d1_6) (fun _ _ => ⟨rfl, e1, (by decide : 0 + 0 ≤ _), (by decide : 0 + 0 ≤ _)⟩)
  dsimp only [Pt.U, Pt.locs, Pt.cells, Pt.slots] at X2 l2 y2 z2 st2 hQ2
  subst l2 y2 z2
  obtain ⟨rfl, N2q, e2⟩ := hQ2
  have N2 := Fr.app N0 N2q
  refine ownGo (T' := T2) (f' := (mkF m 9 #[rv a0, iv (1 : Int32), iv p2] [(.int (1 : Int32)), (.ref a0)])) (st2) ?_
  obtain ⟨T3, h3, X3, e3, W3, st3⟩ := putF X2 hx hZ hown (host := "") (Or.inl (hw _ (List.mem_of_getElem? (i := 13) rfl))) Via.refl e2 HF1 HF0 (Or.inr ⟨(hw _ (List.mem_of_getElem? (i := 14) rfl)), rfl, hnm⟩) (hw _ (List.mem_of_getElem? (i := 2) rfl)) (ty := .int) (by decide) rfl rfl (g := (mkF m 9 #[rv a0, iv (1 : Int32), iv p2] [(.int (1 : Int32)), (.ref a0)])) rfl rfl (hb hby own_d1_9)
  have N3 := Fr.snoc X3 N2 G_a0
  have K3 : Keep h0 h3 [a0] := K0.wr W3 (Or.inl (List.mem_of_getElem? (i := 0) rfl))
  have F4 : Exa Z h3 a0 "com/example/sieveline/sieveline/solver/BitMatrix" := HF0.wr W3
  have F5 : Fld Z h3 a0 "com/example/sieveline/sieveline/solver/BitMatrix" "rowWords" "I" (.int (1 : Int32)) := HF1.same W3
  have F6 : Fld Z h3 a0 "com/example/sieveline/sieveline/solver/BitMatrix" "words" "[J" .null := HF2.other W3 (Or.inr (slot_ne (Or.inr (hw _ (List.mem_of_getElem? (i := 24) rfl))) (Or.inr (hw _ (List.mem_of_getElem? (i := 14) rfl))) (by decide) (t := (.array .long)) (t' := .int) (by decide) (by decide)))
  have F7 : Fld Z h3 a0 "com/example/sieveline/sieveline/solver/BitMatrix" "rows" "I" (.int (0 : Int32)) := HF3.other W3 (Or.inr (slot_ne (Or.inr (hw _ (List.mem_of_getElem? (i := 26) rfl))) (Or.inr (hw _ (List.mem_of_getElem? (i := 14) rfl))) (by decide) (t := .int) (t' := .int) (by decide) (by decide)))
  have F8 : Fld Z h3 a0 "com/example/sieveline/sieveline/solver/BitMatrix" "columns" "I" (.int (0 : Int32)) := HF4.other W3 (Or.inr (slot_ne (Or.inr (hw _ (List.mem_of_getElem? (i := 28) rfl))) (Or.inr (hw _ (List.mem_of_getElem? (i := 14) rfl))) (by decide) (t := .int) (t' := .int) (by decide) (by decide)))
  refine ownGo (T' := T3) (f' := (mkF m 12 #[rv a0, iv (1 : Int32), iv p2] [])) (st3) ?_
  refine ow_aloadN (q := 13) X3 hx (hb hby own_d1_12) rfl rfl rfl ?_
  refine ow_iloadN (q := 14) X3 hx (hb hby own_d1_13) rfl rfl ?_
  refine ow_iloadN (q := 15) X3 hx (hb hby own_d1_14) rfl rfl ?_
  obtain ⟨_, _, ⟨T9, L9, k9, n9⟩, -, X9, ⟨Lc9, hQ9, l9, y9, z9⟩, st9⟩ := Jvm.LawKit.callS X3 hx (y := (⟨"com/example/sieveline/sieveline/solver/BitMatrix", "words", "(II)J"⟩ : MethodName)) hown (mvT hZ (hw _ (List.mem_of_getElem? (i := 15) rfl))) (mvT hZ (hw _ (List.mem_of_getElem? (i := 16) rfl))) (mvT hZ (hw _ (List.mem_of_getElem? (i := 3) rfl))) (mvT hZ (hw _ (List.mem_of_getElem? (i := 17) rfl))) (by decide) (backOf (W := 1) (rm_words_1 l Z av0 hw [] p2 h3 n0 (Nat.le_trans Z0 K3.1) (by assumption)) hZ (hw _ (List.mem_of_getElem? (i := 17) rfl)) (hw _ (List.mem_of_getElem? (i := 3) rfl)) (by decide) (by decide)) (g := (mkF m 15 #[rv a0, iv (1 : Int32), iv p2] [(.int p2), (.int (1 : Int32)), (.ref a0)])) rfl (by rw [hml]; rfl) (argsL := [(.int (1 : Int32)), (.int p2)]) (rest := [(.ref a0)]) (lenOf own_pd1 rfl) rfl (by show 2 * 0 + _ ≤ _; exact Nat.le_of_eq rfl) (hb hby own_d1_15) (fun _ _ => ⟨rfl, e3, (by decide : 0 + 0 ≤ _), (by decide : 0 + 0 ≤ _)⟩)
  dsimp only [Pt.U, Pt.locs, Pt.cells, Pt.slots] at X9 l9 y9 z9 st9 hQ9
  subst l9 y9 z9
  obtain ⟨rfl, N9q, e9⟩ := hQ9
  have N9 := Fr.app N3 N9q
  refine ownGo (T' := T9) (f' := (mkF m 18 #[rv a0, iv (1 : Int32), iv p2] [(.long (1 : Int64)), (.ref a0)])) (st9) ?_
  obtain ⟨_, _, ⟨T10, L10, k10, n10⟩, -, X10, ⟨Lc10, hQ10, l10, y10, z10⟩, st10⟩ := Jvm.LawKit.callS X9 hx (y := (⟨"java/lang/Math", "toIntExact", "(J)I"⟩ : MethodName)) hown (mvT hZ (hw _ (List.mem_of_getElem? (i := 18) rfl))) (mvT hZ (hw _ (List.mem_of_getElem? (i := 19) rfl))) (mvT hZ (hw _ (List.mem_of_getElem? (i := 20) rfl))) (mvT hZ (hw _ (List.mem_of_getElem? (i := 21) rfl))) (by decide) (backOf (W := 1) (rm_tie_1 l Z av0 hw []  h3 n0 (Nat.le_trans Z0 K3.1) ) hZ (hw _ (List.mem_of_getElem? (i := 21) rfl)) (hw _ (List.mem_of_getElem? (i := 20) rfl)) (by decide) (by decide)) (g := (mkF m 18 #[rv a0, iv (1 : Int32), iv p2] [(.long (1 : Int64)), (.ref a0)])) rfl (by rw [hml]; rfl) (argsL := [(.long (1 : Int64))]) (rest := [(.ref a0)]) (lenOf own_pd2 rfl) rfl (by show 2 * 0 + _ ≤ _; exact Nat.le_of_eq rfl) (hb hby own_d1_18) (fun _ _ => ⟨rfl, e9, (by decide : 0 + 0 ≤ _), (by decide : 0 + 0 ≤ _)⟩)
  dsimp only [Pt.U, Pt.locs, Pt.cells, Pt.slots] at X10 l10 y10 z10 st10 hQ10
  subst l10 y10 z10
  obtain ⟨rfl, N10q, e10⟩ := hQ10
  have N10 := Fr.app N9 N10q
  refine ownGo (T' := T10) (f' := (mkF m 21 #[rv a0, iv (1 : Int32), iv p2] [(.int (1 : Int32)), (.ref a0)])) (st10) ?_
  obtain ⟨T11, h11, k11, X11, e11, E11, A11, st11⟩ := newP X10 hx hZ (hw _ (List.mem_of_getElem? (i := 22) rfl)) e10 (g := (mkF m 21 #[rv a0, iv (1 : Int32), iv p2] [(.int (1 : Int32)), (.ref a0)])) rfl (hb hby own_d1_21) rfl (by decide) (cap := 1) (by decide) (by decide) (by decide) (by decide)
  obtain ⟨b11, g11⟩ : ∃ z, z = h3.size := ⟨_, rfl⟩
  rw [← g11] at A11 st11
  have ne_a0_b11 : a0 ≠ b11 := Nat.ne_of_lt (Nat.lt_of_lt_of_le F4.lt (Nat.le_of_eq g11.symm))
  have sz_b11 : h0.size ≤ b11 := Nat.le_trans K3.1 (Nat.le_of_eq g11.symm)
  have G_b11 : n0 ≤ b11 := Nat.le_trans Z0 sz_b11
  have K11 : Keep h0 h11 [a0] := K3.ext E11
  have F12 : Exa Z h11 a0 "com/example/sieveline/sieveline/solver/BitMatrix" := F4.ext E11
  have F13 : Fld Z h11 a0 "com/example/sieveline/sieveline/solver/BitMatrix" "rowWords" "I" (.int (1 : Int32)) := F5.ext E11
  have F14 : Fld Z h11 a0 "com/example/sieveline/sieveline/solver/BitMatrix" "words" "[J" .null := F6.ext E11
  have F15 : Fld Z h11 a0 "com/example/sieveline/sieveline/solver/BitMatrix" "rows" "I" (.int (0 : Int32)) := F7.ext E11
  have F16 : Fld Z h11 a0 "com/example/sieveline/sieveline/solver/BitMatrix" "columns" "I" (.int (0 : Int32)) := F8.ext E11
  have F17 : ownAJ Z h11 b11 1 (fun _ => (0 : Int64)) := ownAJ.new A11 (by decide) (by decide)
  refine ownGo (T' := T11) (f' := (mkF m 23 #[rv a0, iv (1 : Int32), iv p2] [(.ref b11), (.ref a0)])) (st11) ?_
  obtain ⟨T18, h18, X18, e18, W18, st18⟩ := putF X11 hx hZ hown (host := "") (Or.inl (hw _ (List.mem_of_getElem? (i := 23) rfl))) Via.refl e11 F14 F12 (Or.inr ⟨(hw _ (List.mem_of_getElem? (i := 24) rfl)), rfl, hnm⟩) (hw _ (List.mem_of_getElem? (i := 2) rfl)) (ty := (.array .long)) (by decide) rfl rfl (g := (mkF m 23 #[rv a0, iv (1 : Int32), iv p2] [(.ref b11), (.ref a0)])) rfl rfl (hb hby own_d1_23)
  have N18 := Fr.snoc X18 N10 G_a0
  have K18 : Keep h0 h18 [a0] := K11.wr W18 (Or.inl (List.mem_of_getElem? (i := 0) rfl))
  have F19 : Exa Z h18 a0 "com/example/sieveline/sieveline/solver/BitMatrix" := F12.wr W18
  have F20 : Fld Z h18 a0 "com/example/sieveline/sieveline/solver/BitMatrix" "rowWords" "I" (.int (1 : Int32)) := F13.other W18 (Or.inr (slot_ne (Or.inr (hw _ (List.mem_of_getElem? (i := 14) rfl))) (Or.inr (hw _ (List.mem_of_getElem? (i := 24) rfl))) (by decide) (t := .int) (t' := (.array .long)) (by decide) (by decide)))
  have F21 : Fld Z h18 a0 "com/example/sieveline/sieveline/solver/BitMatrix" "words" "[J" (.ref b11) := F14.same W18
  have F22 : Fld Z h18 a0 "com/example/sieveline/sieveline/solver/BitMatrix" "rows" "I" (.int (0 : Int32)) := F15.other W18 (Or.inr (slot_ne (Or.inr (hw _ (List.mem_of_getElem? (i := 26) rfl))) (Or.inr (hw _ (List.mem_of_getElem? (i := 24) rfl))) (by decide) (t := .int) (t' := (.array .long)) (by decide) (by decide)))
  have F23 : Fld Z h18 a0 "com/example/sieveline/sieveline/solver/BitMatrix" "columns" "I" (.int (0 : Int32)) := F16.other W18 (Or.inr (slot_ne (Or.inr (hw _ (List.mem_of_getElem? (i := 28) rfl))) (Or.inr (hw _ (List.mem_of_getElem? (i := 24) rfl))) (by decide) (t := .int) (t' := (.array .long)) (by decide) (by decide)))
  have F24 : ownAJ Z h18 b11 1 (fun _ => (0 : Int64)) := F17.other W18 (Ne.symm ne_a0_b11)
  refine ownGo (T' := T18) (f' := (mkF m 26 #[rv a0, iv (1 : Int32), iv p2] [])) (st18) ?_
  refine ow_aloadN (q := 27) X18 hx (hb hby own_d1_26) rfl rfl rfl ?_
  refine ow_iloadN (q := 28) X18 hx (hb hby own_d1_27) rfl rfl ?_
  obtain ⟨T25, h25, X25, e25, W25, st25⟩ := putF X18 hx hZ hown (host := "") (Or.inl (hw _ (List.mem_of_getElem? (i := 25) rfl))) Via.refl e18 F22 F19 (Or.inr ⟨(hw _ (List.mem_of_getElem? (i := 26) rfl)), rfl, hnm⟩) (hw _ (List.mem_of_getElem? (i := 2) rfl)) (ty := .int) (by decide) rfl rfl (g := (mkF m 28 #[rv a0, iv (1 : Int32), iv p2] [(.int (1 : Int32)), (.ref a0)])) rfl rfl (hb hby own_d1_28)
  have N25 := Fr.snoc X25 N18 G_a0
  have K25 : Keep h0 h25 [a0] := K18.wr W25 (Or.inl (List.mem_of_getElem? (i := 0) rfl))
  have F26 : Exa Z h25 a0 "com/example/sieveline/sieveline/solver/BitMatrix" := F19.wr W25
  have F27 : Fld Z h25 a0 "com/example/sieveline/sieveline/solver/BitMatrix" "rowWords" "I" (.int (1 : Int32)) := F20.other W25 (Or.inr (slot_ne (Or.inr (hw _ (List.mem_of_getElem? (i := 14) rfl))) (Or.inr (hw _ (List.mem_of_getElem? (i := 26) rfl))) (by decide) (t := .int) (t' := .int) (by decide) (by decide)))
  have F28 : Fld Z h25 a0 "com/example/sieveline/sieveline/solver/BitMatrix" "words" "[J" (.ref b11) := F21.other W25 (Or.inr (slot_ne (Or.inr (hw _ (List.mem_of_getElem? (i := 24) rfl))) (Or.inr (hw _ (List.mem_of_getElem? (i := 26) rfl))) (by decide) (t := (.array .long)) (t' := .int) (by decide) (by decide)))
  have F29 : Fld Z h25 a0 "com/example/sieveline/sieveline/solver/BitMatrix" "rows" "I" (.int (1 : Int32)) := F22.same W25
  have F30 : Fld Z h25 a0 "com/example/sieveline/sieveline/solver/BitMatrix" "columns" "I" (.int (0 : Int32)) := F23.other W25 (Or.inr (slot_ne (Or.inr (hw _ (List.mem_of_getElem? (i := 28) rfl))) (Or.inr (hw _ (List.mem_of_getElem? (i := 26) rfl))) (by decide) (t := .int) (t' := .int) (by decide) (by decide)))
  have F31 : ownAJ Z h25 b11 1 (fun _ => (0 : Int64)) := F24.other W25 (Ne.symm ne_a0_b11)
  refine ownGo (T' := T25) (f' := (mkF m 31 #[rv a0, iv (1 : Int32), iv p2] [])) (st25) ?_
  refine ow_aloadN (q := 32) X25 hx (hb hby own_d1_31) rfl rfl rfl ?_
  refine ow_iloadN (q := 33) X25 hx (hb hby own_d1_32) rfl rfl ?_
  obtain ⟨T32, h32, X32, e32, W32, st32⟩ := putF X25 hx hZ hown (host := "") (Or.inl (hw _ (List.mem_of_getElem? (i := 27) rfl))) Via.refl e25 F30 F26 (Or.inr ⟨(hw _ (List.mem_of_getElem? (i := 28) rfl)), rfl, hnm⟩) (hw _ (List.mem_of_getElem? (i := 2) rfl)) (ty := .int) (by decide) rfl rfl (g := (mkF m 33 #[rv a0, iv (1 : Int32), iv p2] [(.int p2), (.ref a0)])) rfl rfl (hb hby own_d1_33)
  have N32 := Fr.snoc X32 N25 G_a0
  have K32 : Keep h0 h32 [a0] := K25.wr W32 (Or.inl (List.mem_of_getElem? (i := 0) rfl))
  have F33 : Exa Z h32 a0 "com/example/sieveline/sieveline/solver/BitMatrix" := F26.wr W32
  have F34 : Fld Z h32 a0 "com/example/sieveline/sieveline/solver/BitMatrix" "rowWords" "I" (.int (1 : Int32)) := F27.other W32 (Or.inr (slot_ne (Or.inr (hw _ (List.mem_of_getElem? (i := 14) rfl))) (Or.inr (hw _ (List.mem_of_getElem? (i := 28) rfl))) (by decide) (t := .int) (t' := .int) (by decide) (by decide)))
  have F35 : Fld Z h32 a0 "com/example/sieveline/sieveline/solver/BitMatrix" "words" "[J" (.ref b11) := F28.other W32 (Or.inr (slot_ne (Or.inr (hw _ (List.mem_of_getElem? (i := 24) rfl))) (Or.inr (hw _ (List.mem_of_getElem? (i := 28) rfl))) (by decide) (t := (.array .long)) (t' := .int) (by decide) (by decide)))
  have F36 : Fld Z h32 a0 "com/example/sieveline/sieveline/solver/BitMatrix" "rows" "I" (.int (1 : Int32)) := F29.other W32 (Or.inr (slot_ne (Or.inr (hw _ (List.mem_of_getElem? (i := 26) rfl))) (Or.inr (hw _ (List.mem_of_getElem? (i := 28) rfl))) (by decide) (t := .int) (t' := .int) (by decide) (by decide)))
  have F37 : Fld Z h32 a0 "com/example/sieveline/sieveline/solver/BitMatrix" "columns" "I" (.int p2) := F30.same W32
  have F38 : ownAJ Z h32 b11 1 (fun _ => (0 : Int64)) := F31.other W32 (Ne.symm ne_a0_b11)
  refine ownGo (T' := T32) (f' := (mkF m 36 #[rv a0, iv (1 : Int32), iv p2] [])) (st32) ?_
  refine ownRetV X32 hx Bd.returns (hb hby own_d1_36) hlk (by decide) (by decide) ?_
  rw [e32]
  exact ⟨rfl, N32, K32, F33, F34⟩
theorem own_ef3_rw_2 (m : MethodId) (p0 : Int32) : entryFrame m #[(.int p0)] 1 = mkF m 0 #[iv p0] [] := by first | (simp [entryFrame, mkF, argsToLocals, Value.category]; done) | rfl
def Q_rw_2 (Z : State) (p0 : Int32) (h0 : Heap) (n0 : Nat) (v : Option Value) (h : Heap) (L : List Loc) : Prop := v = some (.int (2 : Int32)) ∧ Fr n0 L ∧ h = h0
set_option maxRecDepth 65536 in
set_option maxHeartbeats 40000000 in
theorem rm_rw_2 (l : Launch) (Z : State) (av0 : Array Value) (hw : ∀ d ∈ tables_1, d.before av0 Z = true) (ws : List Jvm.Cond) (p0 : Int32) (h0 : Heap) (n0 : Nat) (Z0 : n0 ≤ h0.size) (hL : (((p0 + (64 : Int32)) - (1 : Int32)) / (64 : Int32)) = (2 : Int32)) :
    MetFree l (⟨"com/example/sieveline/sieveline/solver/BitMatrix", "rowWords", "(I)I"⟩ : MethodName) (head1 (Jvm.Cond.code (⟨"com/example/sieveline/sieveline/solver/BitMatrix", "rowWords", "(I)I"⟩ : MethodName) prog_49_method_12_code 1 (some .int) :: ws) ({ frames := 0, cells := 0, slots := 0, locals := 0 } : Room)) (fun a U => a = #[(.int p0)] ∧ Z.Warmed39 U.vm ∧ U.heap = h0) (fun _ _ _ _ _ => True) (fun _ U o U' => ∃ v L, o = .returned v ∧ (Q_rw_2 Z p0 h0 n0) v U'.heap L ∧ FrameEnd U o U' L ({ frames := 0, cells := 0, slots := 0, locals := 0 } : Room).cells ({ frames := 0, cells := 0, slots := 0, locals := 0 } : Room).slots) := by
  refine MetFree.of_bodySF (plainFor_of_name own_pn_BitMatrix) hisR ?_
  intro p e s m args below meth c s₁ Bd hml0 hP hK
  obtain ⟨rfl, hZ, hh⟩ := hP
  have hx := Bd.exec
  have hby := Bd.bytes
  have hml : c.maxLocals = 1 := hml0
  have hown : s.vm.findClass "com/example/sieveline/sieveline/solver/BitMatrix" = some m.cls := findClass_of_methodNamed Bd.named
  have hnm := (name_of_methodNamed Bd.named Bd.method).1
  have hlk : meth.locks = false := BodyLoose.notSynchronized Bd
  have X0 : Stand p l e ({ frames := 0, cells := 0, slots := 0, locals := 0 } : Room) s m #[(.int p0)] below meth c s₁ [] 0 0 := Stand.of_body Bd
  have e0 : s₁.heap = h0 := by rw [← hh, Bd.state]; rfl
  have N0 := Fr.nil n0
  have K0 : Keep h0 h0 [] := Keep.refl _ _
  show ownEnds p e below s (Q_rw_2 Z p0 h0 n0) ({ frames := 0, cells := 0, slots := 0, locals := 0 } : Room).cells ({ frames := 0, cells := 0, slots := 0, locals := 0 } : Room).slots s₁ (entryFrame m #[(.int p0)] 1)
  refine ownCast (own_ef3_rw_2 m p0) ?_
  refine ow_iloadN (q := 1) X0 hx (hb hby own_d3_0) rfl rfl ?_
  refine ow_bipush (q := 3) X0 hx (64 : Int32) (hb hby own_d3_1) rfl rfl ?_
  refine ow_iadd (q := 4) X0 hx _ (hb hby own_d3_3) rfl rfl ?_
  refine ow_iconst (q := 5) X0 hx (1 : Int32) (hb hby own_d3_4) rfl rfl ?_
  refine ow_isub (q := 6) X0 hx _ (hb hby own_d3_5) rfl rfl ?_
  refine ow_bipush (q := 8) X0 hx (64 : Int32) (hb hby own_d3_6) rfl rfl ?_
  refine ow_idiv (q := 9) X0 hx _ (hb hby own_d3_8) rfl (by decide) rfl ?_
  refine ownRetI X0 hx Bd.returns (hb hby own_d3_9) hlk (by decide) (by decide) ?_
  rw [e0]
  refine ⟨congrArg (fun q => some (Value.int q)) ?_, N0, rfl⟩
  exact hL
theorem own_ef4_words_2 (m : MethodId) (p1 : Int32) : entryFrame m #[(.int (1 : Int32)), (.int p1)] 2 = mkF m 0 #[iv (1 : Int32), iv p1] [] := by first | (simp [entryFrame, mkF, argsToLocals, Value.category]; done) | rfl
def Q_words_2 (Z : State) (p1 : Int32) (h0 : Heap) (n0 : Nat) (v : Option Value) (h : Heap) (L : List Loc) : Prop := v = some (.long (2 : Int64)) ∧ Fr n0 L ∧ h = h0
set_option maxRecDepth 65536 in
set_option maxHeartbeats 40000000 in
theorem rm_words_2 (l : Launch) (Z : State) (av0 : Array Value) (hw : ∀ d ∈ tables_1, d.before av0 Z = true) (ws : List Jvm.Cond) (p1 : Int32) (h0 : Heap) (n0 : Nat) (Z0 : n0 ≤ h0.size) (hL : (((p1 + (64 : Int32)) - (1 : Int32)) / (64 : Int32)) = (2 : Int32)) :
    MetFree l (⟨"com/example/sieveline/sieveline/solver/BitMatrix", "words", "(II)J"⟩ : MethodName) (head1 (Jvm.Cond.code (⟨"com/example/sieveline/sieveline/solver/BitMatrix", "words", "(II)J"⟩ : MethodName) prog_49_method_2_code 2 (some .long) :: ws) ({ frames := 1, cells := 0, slots := 0, locals := 14 } : Room)) (fun a U => a = #[(.int (1 : Int32)), (.int p1)] ∧ Z.Warmed39 U.vm ∧ U.heap = h0) (fun _ _ _ _ _ => True) (fun _ U o U' => ∃ v L, o = .returned v ∧ (Q_words_2 Z p1 h0 n0) v U'.heap L ∧ FrameEnd U o U' L ({ frames := 1, cells := 0, slots := 0, locals := 14 } : Room).cells ({ frames := 1, cells := 0, slots := 0, locals := 14 } : Room).slots) := by
  refine MetFree.of_bodySF (plainFor_of_name own_pn_BitMatrix) hisR ?_
  intro p e s m args below meth c s₁ Bd hml0 hP hK
  obtain ⟨rfl, hZ, hh⟩ := hP
  have hx := Bd.exec
  have hby := Bd.bytes
  have hml : c.maxLocals = 2 := hml0
  have hown : s.vm.findClass "com/example/sieveline/sieveline/solver/BitMatrix" = some m.cls := findClass_of_methodNamed Bd.named
  have hnm := (name_of_methodNamed Bd.named Bd.method).1
  have hlk : meth.locks = false := BodyLoose.notSynchronized Bd
  have X0 : Stand p l e ({ frames := 1, cells := 0, slots := 0, locals := 14 } : Room) s m #[(.int (1 : Int32)), (.int p1)] below meth c s₁ [] 0 0 := Stand.of_body Bd
  have e0 : s₁.heap = h0 := by rw [← hh, Bd.state]; rfl
  have N0 := Fr.nil n0
  have K0 : Keep h0 h0 [] := Keep.refl _ _
  show ownEnds p e below s (Q_words_2 Z p1 h0 n0) ({ frames := 1, cells := 0, slots := 0, locals := 14 } : Room).cells ({ frames := 1, cells := 0, slots := 0, locals := 14 } : Room).slots s₁ (entryFrame m #[(.int (1 : Int32)), (.int p1)] 2)
  refine ownCast (own_ef4_words_2 m p1) ?_
  refine ow_iloadN (q := 1) X0 hx (hb hby own_d4_0) rfl rfl ?_
  refine ow_i2l (q := 2) X0 hx (1 : Int64) (hb hby own_d4_1) rfl (by decide) ?_
  refine ow_iloadN (q := 3) X0 hx (hb hby own_d4_2) rfl rfl ?_
  obtain ⟨_, _, ⟨T1, L1, k1, n1⟩, -, X1, ⟨Lc1, hQ1, l1, y1, z1⟩, st1⟩ := Jvm.LawKit.callS X0 hx (y := (⟨"com/example/sieveline/sieveline/solver/BitMatrix", "rowWords", "(I)I"⟩ : MethodName)) hown (mvT hZ (hw _ (List.mem_of_getElem? (i := 10) rfl))) (mvT hZ (hw _ (List.mem_of_getElem? (i := 11) rfl))) (mvT hZ (hw _ (List.mem_of_getElem? (i := 3) rfl))) (mvT hZ (hw _ (List.mem_of_getElem? (i := 12) rfl))) (by decide) (backOf (W := 2) (rm_rw_2 l Z av0 hw [] p1 h0 n0 (Nat.le_trans Z0 K0.1) (by assumption)) hZ (hw _ (List.mem_of_getElem? (i := 12) rfl)) (hw _ (List.mem_of_getElem? (i := 3) rfl)) (by decide) (by decide)) (g := (mkF m 3 #[iv (1 : Int32), iv p1] [(.int p1), (.long (1 : Int64))])) rfl (by rw [hml]; rfl) (argsL := [(.int p1)]) (rest := [(.long (1 : Int64))]) (lenOf own_pd0 rfl) rfl (by show 2 * 0 + _ ≤ _; exact Nat.le_of_eq rfl) (hb hby own_d4_3) (fun _ _ => ⟨rfl, e0, (by decide : 0 + 0 ≤ _), (by decide : 0 + 0 ≤ _)⟩)
  dsimp only [Pt.U, Pt.locs, Pt.cells, Pt.slots] at X1 l1 y1 z1 st1 hQ1
  subst l1 y1 z1
  obtain ⟨rfl, N1q, e1⟩ := hQ1
  have N1 := Fr.app N0 N1q
  refine ownGo (T' := T1) (f' := (mkF m 6 #[iv (1 : Int32), iv p1] [(.int (2 : Int32)), (.long (1 : Int64))])) (st1) ?_
  refine ow_i2l (q := 7) X1 hx (2 : Int64) (hb hby own_d4_6) rfl (by decide) ?_
  refine ow_lmul (q := 8) X1 hx (2 : Int64) (hb hby own_d4_7) rfl (by decide) ?_
  refine ownRetJ X1 hx Bd.returns (hb hby own_d4_8) hlk (by decide) (by decide) ?_
  rw [e1]
  exact ⟨rfl, N1, rfl⟩
theorem own_ef5_tie_2 (m : MethodId)  : entryFrame m #[(.long (2 : Int64))] 2 = mkF m 0 #[.val (.long (2 : Int64)), .second] [] := by first | (simp [entryFrame, mkF, argsToLocals, Value.category]; done) | rfl
def Q_tie_2 (Z : State)  (h0 : Heap) (n0 : Nat) (v : Option Value) (h : Heap) (L : List Loc) : Prop := v = some (.int (2 : Int32)) ∧ Fr n0 L ∧ h = h0
set_option maxRecDepth 65536 in
set_option maxHeartbeats 40000000 in
theorem rm_tie_2 (l : Launch) (Z : State) (av0 : Array Value) (hw : ∀ d ∈ tables_1, d.before av0 Z = true) (ws : List Jvm.Cond)  (h0 : Heap) (n0 : Nat) (Z0 : n0 ≤ h0.size) :
    MetFree l (⟨"java/lang/Math", "toIntExact", "(J)I"⟩ : MethodName) (head1 (Jvm.Cond.code (⟨"java/lang/Math", "toIntExact", "(J)I"⟩ : MethodName) jdk_29_method_43_code 2 (some .int) :: ws) ({ frames := 0, cells := 0, slots := 0, locals := 0 } : Room)) (fun a U => a = #[(.long (2 : Int64))] ∧ Z.Warmed39 U.vm ∧ U.heap = h0) (fun _ _ _ _ _ => True) (fun _ U o U' => ∃ v L, o = .returned v ∧ (Q_tie_2 Z  h0 n0) v U'.heap L ∧ FrameEnd U o U' L ({ frames := 0, cells := 0, slots := 0, locals := 0 } : Room).cells ({ frames := 0, cells := 0, slots := 0, locals := 0 } : Room).slots) := by
  refine MetFree.of_bodySF (Jvm.Free.JP.mathPlain rfl (by decide +kernel)) hisR ?_
  intro p e s m args below meth c s₁ Bd hml0 hP hK
  obtain ⟨rfl, hZ, hh⟩ := hP
  have hx := Bd.exec
  have hby := Bd.bytes
  have hml : c.maxLocals = 2 := hml0
  have hown : s.vm.findClass "java/lang/Math" = some m.cls := findClass_of_methodNamed Bd.named
  have hnm := (name_of_methodNamed Bd.named Bd.method).1
  have hlk : meth.locks = false := BodyLoose.notSynchronized Bd
  have X0 : Stand p l e ({ frames := 0, cells := 0, slots := 0, locals := 0 } : Room) s m #[(.long (2 : Int64))] below meth c s₁ [] 0 0 := Stand.of_body Bd
  have e0 : s₁.heap = h0 := by rw [← hh, Bd.state]; rfl
  have N0 := Fr.nil n0
  have K0 : Keep h0 h0 [] := Keep.refl _ _
  show ownEnds p e below s (Q_tie_2 Z  h0 n0) ({ frames := 0, cells := 0, slots := 0, locals := 0 } : Room).cells ({ frames := 0, cells := 0, slots := 0, locals := 0 } : Room).slots s₁ (entryFrame m #[(.long (2 : Int64))] 2)
  refine ownCast (own_ef5_tie_2 m ) ?_
  refine ow_lloadN (q := 1) X0 hx (hb hby own_d5_0) rfl rfl ?_
  refine ow_l2i (q := 2) X0 hx (2 : Int32) (hb hby own_d5_1) rfl (by decide) ?_
  refine ow_i2l (q := 3) X0 hx (2 : Int64) (hb hby own_d5_2) rfl (by decide) ?_
  refine ow_lloadN (q := 4) X0 hx (hb hby own_d5_3) rfl rfl ?_
  refine ow_lcmp (q := 5) X0 hx _ (hb hby own_d5_4) rfl rfl ?_
  refine ow_ifYes (q := 18) X0 hx (hb hby own_d5_5) (Jvm.Free.XT.ll_eq_t (by decide)) (by decide) (by decide) ?_
  refine ow_lloadN (q := 19) X0 hx (hb hby own_d5_18) rfl rfl ?_
  refine ow_l2i (q := 20) X0 hx (2 : Int32) (hb hby own_d5_19) rfl (by decide) ?_
  refine ownRetI X0 hx Bd.returns (hb hby own_d5_20) hlk (by decide) (by decide) ?_
  rw [e0]
  exact ⟨rfl, N0, rfl⟩
theorem own_ef1_init_2 (m : MethodId) (a0 : Addr) (p2 : Int32) : entryFrame m #[(.ref a0), (.int (1 : Int32)), (.int p2)] 3 = mkF m 0 #[rv a0, iv (1 : Int32), iv p2] [] := by first | (simp [entryFrame, mkF, argsToLocals, Value.category]; done) | rfl
def Q_init_2 (Z : State) (a0 : Addr) (p2 : Int32) (h0 : Heap) (n0 : Nat) (v : Option Value) (h : Heap) (L : List Loc) : Prop := v = none ∧ Fr n0 L ∧ Keep h0 h [a0] ∧ Exa Z h a0 "com/example/sieveline/sieveline/solver/BitMatrix" ∧ Fld Z h a0 "com/example/sieveline/sieveline/solver/BitMatrix" "rowWords" "I" (.int (2 : Int32))
set_option maxRecDepth 65536 in
set_option maxHeartbeats 40000000 in
theorem rm_init_2 (l : Launch) (Z : State) (av0 : Array Value) (hw : ∀ d ∈ tables_1, d.before av0 Z = true) (ws : List Jvm.Cond) (a0 : Addr) (p2 : Int32) (h0 : Heap) (n0 : Nat) (Z0 : n0 ≤ h0.size) (HF0 : Exa Z h0 a0 "com/example/sieveline/sieveline/solver/BitMatrix") (HF1 : Fld Z h0 a0 "com/example/sieveline/sieveline/solver/BitMatrix" "rowWords" "I" (.int (0 : Int32))) (HF2 : Fld Z h0 a0 "com/example/sieveline/sieveline/solver/BitMatrix" "words" "[J" .null) (HF3 : Fld Z h0 a0 "com/example/sieveline/sieveline/solver/BitMatrix" "rows" "I" (.int (0 : Int32))) (HF4 : Fld Z h0 a0 "com/example/sieveline/sieveline/solver/BitMatrix" "columns" "I" (.int (0 : Int32))) (G_a0 : n0 ≤ a0) (hL : (((p2 + (64 : Int32)) - (1 : Int32)) / (64 : Int32)) = (2 : Int32)) :
    MetFree l (⟨"com/example/sieveline/sieveline/solver/BitMatrix", "<init>", "(II)V"⟩ : MethodName) (head1 (Jvm.Cond.code (⟨"com/example/sieveline/sieveline/solver/BitMatrix", "<init>", "(II)V"⟩ : MethodName) prog_49_method_1_code 3 none :: ws) ({ frames := 2, cells := 1, slots := 2, locals := 28 } : Room)) (fun a U => a = #[(.ref a0), (.int (1 : Int32)), (.int p2)] ∧ Z.Warmed39 U.vm ∧ U.heap = h0) (fun _ _ _ _ _ => True) (fun _ U o U' => ∃ v L, o = .returned v ∧ (Q_init_2 Z a0 p2 h0 n0) v U'.heap L ∧ FrameEnd U o U' L ({ frames := 2, cells := 1, slots := 2, locals := 28 } : Room).cells ({ frames := 2, cells := 1, slots := 2, locals := 28 } : Room).slots) := by
  refine MetFree.of_bodySF (plainFor_of_name own_pn_BitMatrix) hisR ?_
  intro p e s m args below meth c s₁ Bd hml0 hP hK
  obtain ⟨rfl, hZ, hh⟩ := hP
  have hx := Bd.exec
  have hby := Bd.bytes
  have hml : c.maxLocals = 3 := hml0
  have hown : s.vm.findClass "com/example/sieveline/sieveline/solver/BitMatrix" = some m.cls := findClass_of_methodNamed Bd.named
  have hnm := (name_of_methodNamed Bd.named Bd.method).1
  have hlk : meth.locks = false := BodyLoose.notSynchronized Bd
  have X0 : Stand p l e ({ frames := 2, cells := 1, slots := 2, locals := 28 } : Room) s m #[(.ref a0), (.int (1 : Int32)), (.int p2)] below meth c s₁ [] 0 0 := Stand.of_body Bd
  have e0 : s₁.heap = h0 := by rw [← hh, Bd.state]; rfl
  have N0 := Fr.nil n0
  have K0 : Keep h0 h0 [a0] := Keep.refl _ _
  show ownEnds p e below s (Q_init_2 Z a0 p2 h0 n0) ({ frames := 2, cells := 1, slots := 2, locals := 28 } : Room).cells ({ frames := 2, cells := 1, slots := 2, locals := 28 } : Room).slots s₁ (entryFrame m #[(.ref a0), (.int (1 : Int32)), (.int p2)] 3)
  refine ownCast (own_ef1_init_2 m a0 p2) ?_
  refine ow_aloadN (q := 1) X0 hx (hb hby own_d1_0) rfl rfl rfl ?_
  obtain ⟨T1, X1, e1, st1⟩ := initO X0 hx hZ hown (hw _ (List.mem_of_getElem? (i := 7) rfl)) (hw _ (List.mem_of_getElem? (i := 8) rfl)) (hw _ (List.mem_of_getElem? (i := 9) rfl)) e0 (g := (mkF m 1 #[rv a0, iv (1 : Int32), iv p2] [(.ref a0)])) rfl (by rw [hml]; rfl) rfl (hb hby own_d1_1) (by decide) (W := 0) (by show 2 * 0 + _ ≤ _; exact Nat.le_of_eq rfl) (by decide)
  refine ownGo (T' := T1) (f' := (mkF m 4 #[rv a0, iv (1 : Int32), iv p2] [])) (st1) ?_
  refine ow_aloadN (q := 5) X1 hx (hb hby own_d1_4) rfl rfl rfl ?_
  refine ow_iloadN (q := 6) X1 hx (hb hby own_d1_5) rfl rfl ?_
  obtain ⟨_, _, ⟨T2, L2, k2, n2⟩, -, X2, ⟨Lc2, hQ2, l2, y2, z2⟩, st2⟩ := Jvm.LawKit.callS X1 hx (y := (⟨"com/example/sieveline/sieveline/solver/BitMatrix", "rowWords", "(I)I"⟩ : MethodName)) hown (mvT hZ (hw _ (List.mem_of_getElem? (i := 10) rfl))) (mvT hZ (hw _ (List.mem_of_getElem? (i := 11) rfl))) (mvT hZ (hw _ (List.mem_of_getElem? (i := 3) rfl))) (mvT hZ (hw _ (List.mem_of_getElem? (i := 12) rfl))) (by decide) (backOf (W := 1) (rm_rw_2 l Z av0 hw [] p2 h0 n0 (Nat.le_trans Z0 K0.1) (by assumption)) hZ (hw _ (List.mem_of_getElem? (i := 12) rfl)) (hw _ (List.mem_of_getElem? (i := 3) rfl)) (by decide) (by decide)) (g := (mkF m 6 #[rv a0, iv (1 : Int32), iv p2] [(.int p2), (.ref a0)])) rfl (by rw [hml]; rfl) (argsL := [(.int p2)]) (rest := [(.ref a0)]) (lenOf own_pd0 rfl) rfl (by show 2 * 0 + _ ≤ _; exact Nat.le_of_eq rfl) (hb hby own_d1_6) (fun _ _ => ⟨rfl, e1, (by decide : 0 + 0 ≤ _), (by decide : 0 + 0 ≤ _)⟩)
  dsimp only [Pt.U, Pt.locs, Pt.cells, Pt.slots] at X2 l2 y2 z2 st2 hQ2
  subst l2 y2 z2
  obtain ⟨rfl, N2q, e2⟩ := hQ2
  have N2 := Fr.app N0 N2q
  refine ownGo (T' := T2) (f' := (mkF m 9 #[rv a0, iv (1 : Int32), iv p2] [(.int (2 : Int32)), (.ref a0)])) (st2) ?_
  obtain ⟨T3, h3, X3, e3, W3, st3⟩ := putF X2 hx hZ hown (host := "") (Or.inl (hw _ (List.mem_of_getElem? (i := 13) rfl))) Via.refl e2 HF1 HF0 (Or.inr ⟨(hw _ (List.mem_of_getElem? (i := 14) rfl)), rfl, hnm⟩) (hw _ (List.mem_of_getElem? (i := 2) rfl)) (ty := .int) (by decide) rfl rfl (g := (mkF m 9 #[rv a0, iv (1 : Int32), iv p2] [(.int (2 : Int32)), (.ref a0)])) rfl rfl (hb hby own_d1_9)
  have N3 := Fr.snoc X3 N2 G_a0
  have K3 : Keep h0 h3 [a0] := K0.wr W3 (Or.inl (List.mem_of_getElem? (i := 0) rfl))
  have F4 : Exa Z h3 a0 "com/example/sieveline/sieveline/solver/BitMatrix" := HF0.wr W3
  have F5 : Fld Z h3 a0 "com/example/sieveline/sieveline/solver/BitMatrix" "rowWords" "I" (.int (2 : Int32)) := HF1.same W3
  have F6 : Fld Z h3 a0 "com/example/sieveline/sieveline/solver/BitMatrix" "words" "[J" .null := HF2.other W3 (Or.inr (slot_ne (Or.inr (hw _ (List.mem_of_getElem? (i := 24) rfl))) (Or.inr (hw _ (List.mem_of_getElem? (i := 14) rfl))) (by decide) (t := (.array .long)) (t' := .int) (by decide) (by decide)))
  have F7 : Fld Z h3 a0 "com/example/sieveline/sieveline/solver/BitMatrix" "rows" "I" (.int (0 : Int32)) := HF3.other W3 (Or.inr (slot_ne (Or.inr (hw _ (List.mem_of_getElem? (i := 26) rfl))) (Or.inr (hw _ (List.mem_of_getElem? (i := 14) rfl))) (by decide) (t := .int) (t' := .int) (by decide) (by decide)))
  have F8 : Fld Z h3 a0 "com/example/sieveline/sieveline/solver/BitMatrix" "columns" "I" (.int (0 : Int32)) := HF4.other W3 (Or.inr (slot_ne (Or.inr (hw _ (List.mem_of_getElem? (i := 28) rfl))) (Or.inr (hw _ (List.mem_of_getElem? (i := 14) rfl))) (by decide) (t := .int) (t' := .int) (by decide) (by decide)))
  refine ownGo (T' := T3) (f' := (mkF m 12 #[rv a0, iv (1 : Int32), iv p2] [])) (st3) ?_
  refine ow_aloadN (q := 13) X3 hx (hb hby own_d1_12) rfl rfl rfl ?_
  refine ow_iloadN (q := 14) X3 hx (hb hby own_d1_13) rfl rfl ?_
  refine ow_iloadN (q := 15) X3 hx (hb hby own_d1_14) rfl rfl ?_
  obtain ⟨_, _, ⟨T9, L9, k9, n9⟩, -, X9, ⟨Lc9, hQ9, l9, y9, z9⟩, st9⟩ := Jvm.LawKit.callS X3 hx (y := (⟨"com/example/sieveline/sieveline/solver/BitMatrix", "words", "(II)J"⟩ : MethodName)) hown (mvT hZ (hw _ (List.mem_of_getElem? (i := 15) rfl))) (mvT hZ (hw _ (List.mem_of_getElem? (i := 16) rfl))) (mvT hZ (hw _ (List.mem_of_getElem? (i := 3) rfl))) (mvT hZ (hw _ (List.mem_of_getElem? (i := 17) rfl))) (by decide) (backOf (W := 1) (rm_words_2 l Z av0 hw [] p2 h3 n0 (Nat.le_trans Z0 K3.1) (by assumption)) hZ (hw _ (List.mem_of_getElem? (i := 17) rfl)) (hw _ (List.mem_of_getElem? (i := 3) rfl)) (by decide) (by decide)) (g := (mkF m 15 #[rv a0, iv (1 : Int32), iv p2] [(.int p2), (.int (1 : Int32)), (.ref a0)])) rfl (by rw [hml]; rfl) (argsL := [(.int (1 : Int32)), (.int p2)]) (rest := [(.ref a0)]) (lenOf own_pd1 rfl) rfl (by show 2 * 0 + _ ≤ _; exact Nat.le_of_eq rfl) (hb hby own_d1_15) (fun _ _ => ⟨rfl, e3, (by decide : 0 + 0 ≤ _), (by decide : 0 + 0 ≤ _)⟩)
  dsimp only [Pt.U, Pt.locs, Pt.cells, Pt.slots] at X9 l9 y9 z9 st9 hQ9
  subst l9 y9 z9
  obtain ⟨rfl, N9q, e9⟩ := hQ9
  have N9 := Fr.app N3 N9q
  refine ownGo (T' := T9) (f' := (mkF m 18 #[rv a0, iv (1 : Int32), iv p2] [(.long (2 : Int64)), (.ref a0)])) (st9) ?_
  obtain ⟨_, _, ⟨T10, L10, k10, n10⟩, -, X10, ⟨Lc10, hQ10, l10, y10, z10⟩, st10⟩ := Jvm.LawKit.callS X9 hx (y := (⟨"java/lang/Math", "toIntExact", "(J)I"⟩ : MethodName)) hown (mvT hZ (hw _ (List.mem_of_getElem? (i := 18) rfl))) (mvT hZ (hw _ (List.mem_of_getElem? (i := 19) rfl))) (mvT hZ (hw _ (List.mem_of_getElem? (i := 20) rfl))) (mvT hZ (hw _ (List.mem_of_getElem? (i := 21) rfl))) (by decide) (backOf (W := 1) (rm_tie_2 l Z av0 hw []  h3 n0 (Nat.le_trans Z0 K3.1) ) hZ (hw _ (List.mem_of_getElem? (i := 21) rfl)) (hw _ (List.mem_of_getElem? (i := 20) rfl)) (by decide) (by decide)) (g := (mkF m 18 #[rv a0, iv (1 : Int32), iv p2] [(.long (2 : Int64)), (.ref a0)])) rfl (by rw [hml]; rfl) (argsL := [(.long (2 : Int64))]) (rest := [(.ref a0)]) (lenOf own_pd2 rfl) rfl (by show 2 * 0 + _ ≤ _; exact Nat.le_of_eq rfl) (hb hby own_d1_18) (fun _ _ => ⟨rfl, e9, (by decide : 0 + 0 ≤ _), (by decide : 0 + 0 ≤ _)⟩)
  dsimp only [Pt.U, Pt.locs, Pt.cells, Pt.slots] at X10 l10 y10 z10 st10 hQ10
  subst l10 y10 z10
  obtain ⟨rfl, N10q, e10⟩ := hQ10
  have N10 := Fr.app N9 N10q
  refine ownGo (T' := T10) (f' := (mkF m 21 #[rv a0, iv (1 : Int32), iv p2] [(.int (2 : Int32)), (.ref a0)])) (st10) ?_
  obtain ⟨T11, h11, k11, X11, e11, E11, A11, st11⟩ := newP X10 hx hZ (hw _ (List.mem_of_getElem? (i := 22) rfl)) e10 (g := (mkF m 21 #[rv a0, iv (1 : Int32), iv p2] [(.int (2 : Int32)), (.ref a0)])) rfl (hb hby own_d1_21) rfl (by decide) (cap := 2) (by decide) (by decide) (by decide) (by decide)
  obtain ⟨b11, g11⟩ : ∃ z, z = h3.size := ⟨_, rfl⟩
  rw [← g11] at A11 st11
  have ne_a0_b11 : a0 ≠ b11 := Nat.ne_of_lt (Nat.lt_of_lt_of_le F4.lt (Nat.le_of_eq g11.symm))
  have sz_b11 : h0.size ≤ b11 := Nat.le_trans K3.1 (Nat.le_of_eq g11.symm)
  have G_b11 : n0 ≤ b11 := Nat.le_trans Z0 sz_b11
  have K11 : Keep h0 h11 [a0] := K3.ext E11
  have F12 : Exa Z h11 a0 "com/example/sieveline/sieveline/solver/BitMatrix" := F4.ext E11
  have F13 : Fld Z h11 a0 "com/example/sieveline/sieveline/solver/BitMatrix" "rowWords" "I" (.int (2 : Int32)) := F5.ext E11
  have F14 : Fld Z h11 a0 "com/example/sieveline/sieveline/solver/BitMatrix" "words" "[J" .null := F6.ext E11
  have F15 : Fld Z h11 a0 "com/example/sieveline/sieveline/solver/BitMatrix" "rows" "I" (.int (0 : Int32)) := F7.ext E11
  have F16 : Fld Z h11 a0 "com/example/sieveline/sieveline/solver/BitMatrix" "columns" "I" (.int (0 : Int32)) := F8.ext E11
  have F17 : ownAJ Z h11 b11 2 (fun _ => (0 : Int64)) := ownAJ.new A11 (by decide) (by decide)
  refine ownGo (T' := T11) (f' := (mkF m 23 #[rv a0, iv (1 : Int32), iv p2] [(.ref b11), (.ref a0)])) (st11) ?_
  obtain ⟨T18, h18, X18, e18, W18, st18⟩ := putF X11 hx hZ hown (host := "") (Or.inl (hw _ (List.mem_of_getElem? (i := 23) rfl))) Via.refl e11 F14 F12 (Or.inr ⟨(hw _ (List.mem_of_getElem? (i := 24) rfl)), rfl, hnm⟩) (hw _ (List.mem_of_getElem? (i := 2) rfl)) (ty := (.array .long)) (by decide) rfl rfl (g := (mkF m 23 #[rv a0, iv (1 : Int32), iv p2] [(.ref b11), (.ref a0)])) rfl rfl (hb hby own_d1_23)
  have N18 := Fr.snoc X18 N10 G_a0
  have K18 : Keep h0 h18 [a0] := K11.wr W18 (Or.inl (List.mem_of_getElem? (i := 0) rfl))
  have F19 : Exa Z h18 a0 "com/example/sieveline/sieveline/solver/BitMatrix" := F12.wr W18
  have F20 : Fld Z h18 a0 "com/example/sieveline/sieveline/solver/BitMatrix" "rowWords" "I" (.int (2 : Int32)) := F13.other W18 (Or.inr (slot_ne (Or.inr (hw _ (List.mem_of_getElem? (i := 14) rfl))) (Or.inr (hw _ (List.mem_of_getElem? (i := 24) rfl))) (by decide) (t := .int) (t' := (.array .long)) (by decide) (by decide)))
  have F21 : Fld Z h18 a0 "com/example/sieveline/sieveline/solver/BitMatrix" "words" "[J" (.ref b11) := F14.same W18
  have F22 : Fld Z h18 a0 "com/example/sieveline/sieveline/solver/BitMatrix" "rows" "I" (.int (0 : Int32)) := F15.other W18 (Or.inr (slot_ne (Or.inr (hw _ (List.mem_of_getElem? (i := 26) rfl))) (Or.inr (hw _ (List.mem_of_getElem? (i := 24) rfl))) (by decide) (t := .int) (t' := (.array .long)) (by decide) (by decide)))
  have F23 : Fld Z h18 a0 "com/example/sieveline/sieveline/solver/BitMatrix" "columns" "I" (.int (0 : Int32)) := F16.other W18 (Or.inr (slot_ne (Or.inr (hw _ (List.mem_of_getElem? (i := 28) rfl))) (Or.inr (hw _ (List.mem_of_getElem? (i := 24) rfl))) (by decide) (t := .int) (t' := (.array .long)) (by decide) (by decide)))
  have F24 : ownAJ Z h18 b11 2 (fun _ => (0 : Int64)) := F17.other W18 (Ne.symm ne_a0_b11)
  refine ownGo (T' := T18) (f' := (mkF m 26 #[rv a0, iv (1 : Int32), iv p2] [])) (st18) ?_
  refine ow_aloadN (q := 27) X18 hx (hb hby own_d1_26) rfl rfl rfl ?_
  refine ow_iloadN (q := 28) X18 hx (hb hby own_d1_27) rfl rfl ?_
  obtain ⟨T25, h25, X25, e25, W25, st25⟩ := putF X18 hx hZ hown (host := "") (Or.inl (hw _ (List.mem_of_getElem? (i := 25) rfl))) Via.refl e18 F22 F19 (Or.inr ⟨(hw _ (List.mem_of_getElem? (i := 26) rfl)), rfl, hnm⟩) (hw _ (List.mem_of_getElem? (i := 2) rfl)) (ty := .int) (by decide) rfl rfl (g := (mkF m 28 #[rv a0, iv (1 : Int32), iv p2] [(.int (1 : Int32)), (.ref a0)])) rfl rfl (hb hby own_d1_28)
  have N25 := Fr.snoc X25 N18 G_a0
  have K25 : Keep h0 h25 [a0] := K18.wr W25 (Or.inl (List.mem_of_getElem? (i := 0) rfl))
  have F26 : Exa Z h25 a0 "com/example/sieveline/sieveline/solver/BitMatrix" := F19.wr W25
  have F27 : Fld Z h25 a0 "com/example/sieveline/sieveline/solver/BitMatrix" "rowWords" "I" (.int (2 : Int32)) := F20.other W25 (Or.inr (slot_ne (Or.inr (hw _ (List.mem_of_getElem? (i := 14) rfl))) (Or.inr (hw _ (List.mem_of_getElem? (i := 26) rfl))) (by decide) (t := .int) (t' := .int) (by decide) (by decide)))
  have F28 : Fld Z h25 a0 "com/example/sieveline/sieveline/solver/BitMatrix" "words" "[J" (.ref b11) := F21.other W25 (Or.inr (slot_ne (Or.inr (hw _ (List.mem_of_getElem? (i := 24) rfl))) (Or.inr (hw _ (List.mem_of_getElem? (i := 26) rfl))) (by decide) (t := (.array .long)) (t' := .int) (by decide) (by decide)))
  have F29 : Fld Z h25 a0 "com/example/sieveline/sieveline/solver/BitMatrix" "rows" "I" (.int (1 : Int32)) := F22.same W25
  have F30 : Fld Z h25 a0 "com/example/sieveline/sieveline/solver/BitMatrix" "columns" "I" (.int (0 : Int32)) := F23.other W25 (Or.inr (slot_ne (Or.inr (hw _ (List.mem_of_getElem? (i := 28) rfl))) (Or.inr (hw _ (List.mem_of_getElem? (i := 26) rfl))) (by decide) (t := .int) (t' := .int) (by decide) (by decide)))
  have F31 : ownAJ Z h25 b11 2 (fun _ => (0 : Int64)) := F24.other W25 (Ne.symm ne_a0_b11)
  refine ownGo (T' := T25) (f' := (mkF m 31 #[rv a0, iv (1 : Int32), iv p2] [])) (st25) ?_
  refine ow_aloadN (q := 32) X25 hx (hb hby own_d1_31) rfl rfl rfl ?_
  refine ow_iloadN (q := 33) X25 hx (hb hby own_d1_32) rfl rfl ?_
  obtain ⟨T32, h32, X32, e32, W32, st32⟩ := putF X25 hx hZ hown (host := "") (Or.inl (hw _ (List.mem_of_getElem? (i := 27) rfl))) Via.refl e25 F30 F26 (Or.inr ⟨(hw _ (List.mem_of_getElem? (i := 28) rfl)), rfl, hnm⟩) (hw _ (List.mem_of_getElem? (i := 2) rfl)) (ty := .int) (by decide) rfl rfl (g := (mkF m 33 #[rv a0, iv (1 : Int32), iv p2] [(.int p2), (.ref a0)])) rfl rfl (hb hby own_d1_33)
  have N32 := Fr.snoc X32 N25 G_a0
  have K32 : Keep h0 h32 [a0] := K25.wr W32 (Or.inl (List.mem_of_getElem? (i := 0) rfl))
  have F33 : Exa Z h32 a0 "com/example/sieveline/sieveline/solver/BitMatrix" := F26.wr W32
  have F34 : Fld Z h32 a0 "com/example/sieveline/sieveline/solver/BitMatrix" "rowWords" "I" (.int (2 : Int32)) := F27.other W32 (Or.inr (slot_ne (Or.inr (hw _ (List.mem_of_getElem? (i := 14) rfl))) (Or.inr (hw _ (List.mem_of_getElem? (i := 28) rfl))) (by decide) (t := .int) (t' := .int) (by decide) (by decide)))
  have F35 : Fld Z h32 a0 "com/example/sieveline/sieveline/solver/BitMatrix" "words" "[J" (.ref b11) := F28.other W32 (Or.inr (slot_ne (Or.inr (hw _ (List.mem_of_getElem? (i := 24) rfl))) (Or.inr (hw _ (List.mem_of_getElem? (i := 28) rfl))) (by decide) (t := (.array .long)) (t' := .int) (by decide) (by decide)))
  have F36 : Fld Z h32 a0 "com/example/sieveline/sieveline/solver/BitMatrix" "rows" "I" (.int (1 : Int32)) := F29.other W32 (Or.inr (slot_ne (Or.inr (hw _ (List.mem_of_getElem? (i := 26) rfl))) (Or.inr (hw _ (List.mem_of_getElem? (i := 28) rfl))) (by decide) (t := .int) (t' := .int) (by decide) (by decide)))
  have F37 : Fld Z h32 a0 "com/example/sieveline/sieveline/solver/BitMatrix" "columns" "I" (.int p2) := F30.same W32
  have F38 : ownAJ Z h32 b11 2 (fun _ => (0 : Int64)) := F31.other W32 (Ne.symm ne_a0_b11)
  refine ownGo (T' := T32) (f' := (mkF m 36 #[rv a0, iv (1 : Int32), iv p2] [])) (st32) ?_
  refine ownRetV X32 hx Bd.returns (hb hby own_d1_36) hlk (by decide) (by decide) ?_
  rw [e32]
  exact ⟨rfl, N32, K32, F33, F34⟩
theorem own_ef3_rw_3 (m : MethodId) (p0 : Int32) : entryFrame m #[(.int p0)] 1 = mkF m 0 #[iv p0] [] := by first | (simp [entryFrame, mkF, argsToLocals, Value.category]; done) | rfl
def Q_rw_3 (Z : State) (p0 : Int32) (h0 : Heap) (n0 : Nat) (v : Option Value) (h : Heap) (L : List Loc) : Prop := v = some (.int (3 : Int32)) ∧ Fr n0 L ∧ h = h0
set_option maxRecDepth 65536 in
set_option maxHeartbeats 40000000 in
theorem rm_rw_3 (l : Launch) (Z : State) (av0 : Array Value) (hw : ∀ d ∈ tables_1, d.before av0 Z = true) (ws : List Jvm.Cond) (p0 : Int32) (h0 : Heap) (n0 : Nat) (Z0 : n0 ≤ h0.size) (hL : (((p0 + (64 : Int32)) - (1 : Int32)) / (64 : Int32)) = (3 : Int32)) :
    MetFree l (⟨"com/example/sieveline/sieveline/solver/BitMatrix", "rowWords", "(I)I"⟩ : MethodName) (head1 (Jvm.Cond.code (⟨"com/example/sieveline/sieveline/solver/BitMatrix", "rowWords", "(I)I"⟩ : MethodName) prog_49_method_12_code 1 (some .int) :: ws) ({ frames := 0, cells := 0, slots := 0, locals := 0 } : Room)) (fun a U => a = #[(.int p0)] ∧ Z.Warmed39 U.vm ∧ U.heap = h0) (fun _ _ _ _ _ => True) (fun _ U o U' => ∃ v L, o = .returned v ∧ (Q_rw_3 Z p0 h0 n0) v U'.heap L ∧ FrameEnd U o U' L ({ frames := 0, cells := 0, slots := 0, locals := 0 } : Room).cells ({ frames := 0, cells := 0, slots := 0, locals := 0 } : Room).slots) := by
  refine MetFree.of_bodySF (plainFor_of_name own_pn_BitMatrix) hisR ?_
  intro p e s m args below meth c s₁ Bd hml0 hP hK
  obtain ⟨rfl, hZ, hh⟩ := hP
  have hx := Bd.exec
  have hby := Bd.bytes
  have hml : c.maxLocals = 1 := hml0
  have hown : s.vm.findClass "com/example/sieveline/sieveline/solver/BitMatrix" = some m.cls := findClass_of_methodNamed Bd.named
  have hnm := (name_of_methodNamed Bd.named Bd.method).1
  have hlk : meth.locks = false := BodyLoose.notSynchronized Bd
  have X0 : Stand p l e ({ frames := 0, cells := 0, slots := 0, locals := 0 } : Room) s m #[(.int p0)] below meth c s₁ [] 0 0 := Stand.of_body Bd
  have e0 : s₁.heap = h0 := by rw [← hh, Bd.state]; rfl
  have N0 := Fr.nil n0
  have K0 : Keep h0 h0 [] := Keep.refl _ _
  show ownEnds p e below s (Q_rw_3 Z p0 h0 n0) ({ frames := 0, cells := 0, slots := 0, locals := 0 } : Room).cells ({ frames := 0, cells := 0, slots := 0, locals := 0 } : Room).slots s₁ (entryFrame m #[(.int p0)] 1)
  refine ownCast (own_ef3_rw_3 m p0) ?_
  refine ow_iloadN (q := 1) X0 hx (hb hby own_d3_0) rfl rfl ?_
  refine ow_bipush (q := 3) X0 hx (64 : Int32) (hb hby own_d3_1) rfl rfl ?_
  refine ow_iadd (q := 4) X0 hx _ (hb hby own_d3_3) rfl rfl ?_
  refine ow_iconst (q := 5) X0 hx (1 : Int32) (hb hby own_d3_4) rfl rfl ?_
  refine ow_isub (q := 6) X0 hx _ (hb hby own_d3_5) rfl rfl ?_
  refine ow_bipush (q := 8) X0 hx (64 : Int32) (hb hby own_d3_6) rfl rfl ?_
  refine ow_idiv (q := 9) X0 hx _ (hb hby own_d3_8) rfl (by decide) rfl ?_
  refine ownRetI X0 hx Bd.returns (hb hby own_d3_9) hlk (by decide) (by decide) ?_
  rw [e0]
  refine ⟨congrArg (fun q => some (Value.int q)) ?_, N0, rfl⟩
  exact hL
theorem own_ef4_words_3 (m : MethodId) (p1 : Int32) : entryFrame m #[(.int (1 : Int32)), (.int p1)] 2 = mkF m 0 #[iv (1 : Int32), iv p1] [] := by first | (simp [entryFrame, mkF, argsToLocals, Value.category]; done) | rfl
def Q_words_3 (Z : State) (p1 : Int32) (h0 : Heap) (n0 : Nat) (v : Option Value) (h : Heap) (L : List Loc) : Prop := v = some (.long (3 : Int64)) ∧ Fr n0 L ∧ h = h0
set_option maxRecDepth 65536 in
set_option maxHeartbeats 40000000 in
theorem rm_words_3 (l : Launch) (Z : State) (av0 : Array Value) (hw : ∀ d ∈ tables_1, d.before av0 Z = true) (ws : List Jvm.Cond) (p1 : Int32) (h0 : Heap) (n0 : Nat) (Z0 : n0 ≤ h0.size) (hL : (((p1 + (64 : Int32)) - (1 : Int32)) / (64 : Int32)) = (3 : Int32)) :
    MetFree l (⟨"com/example/sieveline/sieveline/solver/BitMatrix", "words", "(II)J"⟩ : MethodName) (head1 (Jvm.Cond.code (⟨"com/example/sieveline/sieveline/solver/BitMatrix", "words", "(II)J"⟩ : MethodName) prog_49_method_2_code 2 (some .long) :: ws) ({ frames := 1, cells := 0, slots := 0, locals := 14 } : Room)) (fun a U => a = #[(.int (1 : Int32)), (.int p1)] ∧ Z.Warmed39 U.vm ∧ U.heap = h0) (fun _ _ _ _ _ => True) (fun _ U o U' => ∃ v L, o = .returned v ∧ (Q_words_3 Z p1 h0 n0) v U'.heap L ∧ FrameEnd U o U' L ({ frames := 1, cells := 0, slots := 0, locals := 14 } : Room).cells ({ frames := 1, cells := 0, slots := 0, locals := 14 } : Room).slots) := by
  refine MetFree.of_bodySF (plainFor_of_name own_pn_BitMatrix) hisR ?_
  intro p e s m args below meth c s₁ Bd hml0 hP hK
  obtain ⟨rfl, hZ, hh⟩ := hP
  have hx := Bd.exec
  have hby := Bd.bytes
  have hml : c.maxLocals = 2 := hml0
  have hown : s.vm.findClass "com/example/sieveline/sieveline/solver/BitMatrix" = some m.cls := findClass_of_methodNamed Bd.named
  have hnm := (name_of_methodNamed Bd.named Bd.method).1
  have hlk : meth.locks = false := BodyLoose.notSynchronized Bd
  have X0 : Stand p l e ({ frames := 1, cells := 0, slots := 0, locals := 14 } : Room) s m #[(.int (1 : Int32)), (.int p1)] below meth c s₁ [] 0 0 := Stand.of_body Bd
  have e0 : s₁.heap = h0 := by rw [← hh, Bd.state]; rfl
  have N0 := Fr.nil n0
  have K0 : Keep h0 h0 [] := Keep.refl _ _
  show ownEnds p e below s (Q_words_3 Z p1 h0 n0) ({ frames := 1, cells := 0, slots := 0, locals := 14 } : Room).cells ({ frames := 1, cells := 0, slots := 0, locals := 14 } : Room).slots s₁ (entryFrame m #[(.int (1 : Int32)), (.int p1)] 2)
  refine ownCast (own_ef4_words_3 m p1) ?_
  refine ow_iloadN (q := 1) X0 hx (hb hby own_d4_0) rfl rfl ?_
  refine ow_i2l (q := 2) X0 hx (1 : Int64) (hb hby own_d4_1) rfl (by decide) ?_
  refine ow_iloadN (q := 3) X0 hx (hb hby own_d4_2) rfl rfl ?_
  obtain ⟨_, _, ⟨T1, L1, k1, n1⟩, -, X1, ⟨Lc1, hQ1, l1, y1, z1⟩, st1⟩ := Jvm.LawKit.callS X0 hx (y := (⟨"com/example/sieveline/sieveline/solver/BitMatrix", "rowWords", "(I)I"⟩ : MethodName)) hown (mvT hZ (hw _ (List.mem_of_getElem? (i := 10) rfl))) (mvT hZ (hw _ (List.mem_of_getElem? (i := 11) rfl))) (mvT hZ (hw _ (List.mem_of_getElem? (i := 3) rfl))) (mvT hZ (hw _ (List.mem_of_getElem? (i := 12) rfl))) (by decide) (backOf (W := 2) (rm_rw_3 l Z av0 hw [] p1 h0 n0 (Nat.le_trans Z0 K0.1) (by assumption)) hZ (hw _ (List.mem_of_getElem? (i := 12) rfl)) (hw _ (List.mem_of_getElem? (i := 3) rfl)) (by decide) (by decide)) (g := (mkF m 3 #[iv (1 : Int32), iv p1] [(.int p1), (.long (1 : Int64))])) rfl (by rw [hml]; rfl) (argsL := [(.int p1)]) (rest := [(.long (1 : Int64))]) (lenOf own_pd0 rfl) rfl (by show 2 * 0 + _ ≤ _; exact Nat.le_of_eq rfl) (hb hby own_d4_3) (fun _ _ => ⟨rfl, e0, (by decide : 0 + 0 ≤ _), (by decide : 0 + 0 ≤ _)⟩)
  dsimp only [Pt.U, Pt.locs, Pt.cells, Pt.slots] at X1 l1 y1 z1 st1 hQ1
  subst l1 y1 z1
  obtain ⟨rfl, N1q, e1⟩ := hQ1
  have N1 := Fr.app N0 N1q
  refine ownGo (T' := T1) (f' := (mkF m 6 #[iv (1 : Int32), iv p1] [(.int (3 : Int32)), (.long (1 : Int64))])) (st1) ?_
  refine ow_i2l (q := 7) X1 hx (3 : Int64) (hb hby own_d4_6) rfl (by decide) ?_
  refine ow_lmul (q := 8) X1 hx (3 : Int64) (hb hby own_d4_7) rfl (by decide) ?_
  refine ownRetJ X1 hx Bd.returns (hb hby own_d4_8) hlk (by decide) (by decide) ?_
  rw [e1]
  exact ⟨rfl, N1, rfl⟩
theorem own_ef5_tie_3 (m : MethodId)  : entryFrame m #[(.long (3 : Int64))] 2 = mkF m 0 #[.val (.long (3 : Int64)), .second] [] := by first | (simp [entryFrame, mkF, argsToLocals, Value.category]; done) | rfl
def Q_tie_3 (Z : State)  (h0 : Heap) (n0 : Nat) (v : Option Value) (h : Heap) (L : List Loc) : Prop := v = some (.int (3 : Int32)) ∧ Fr n0 L ∧ h = h0
set_option maxRecDepth 65536 in
set_option maxHeartbeats 40000000 in
theorem rm_tie_3 (l : Launch) (Z : State) (av0 : Array Value) (hw : ∀ d ∈ tables_1, d.before av0 Z = true) (ws : List Jvm.Cond)  (h0 : Heap) (n0 : Nat) (Z0 : n0 ≤ h0.size) :
    MetFree l (⟨"java/lang/Math", "toIntExact", "(J)I"⟩ : MethodName) (head1 (Jvm.Cond.code (⟨"java/lang/Math", "toIntExact", "(J)I"⟩ : MethodName) jdk_29_method_43_code 2 (some .int) :: ws) ({ frames := 0, cells := 0, slots := 0, locals := 0 } : Room)) (fun a U => a = #[(.long (3 : Int64))] ∧ Z.Warmed39 U.vm ∧ U.heap = h0) (fun _ _ _ _ _ => True) (fun _ U o U' => ∃ v L, o = .returned v ∧ (Q_tie_3 Z  h0 n0) v U'.heap L ∧ FrameEnd U o U' L ({ frames := 0, cells := 0, slots := 0, locals := 0 } : Room).cells ({ frames := 0, cells := 0, slots := 0, locals := 0 } : Room).slots) := by
  refine MetFree.of_bodySF (Jvm.Free.JP.mathPlain rfl (by decide +kernel)) hisR ?_
  intro p e s m args below meth c s₁ Bd hml0 hP hK
  obtain ⟨rfl, hZ, hh⟩ := hP
  have hx := Bd.exec
  have hby := Bd.bytes
  have hml : c.maxLocals = 2 := hml0
  have hown : s.vm.findClass "java/lang/Math" = some m.cls := findClass_of_methodNamed Bd.named
  have hnm := (name_of_methodNamed Bd.named Bd.method).1
  have hlk : meth.locks = false := BodyLoose.notSynchronized Bd
  have X0 : Stand p l e ({ frames := 0, cells := 0, slots := 0, locals := 0 } : Room) s m #[(.long (3 : Int64))] below meth c s₁ [] 0 0 := Stand.of_body Bd
  have e0 : s₁.heap = h0 := by rw [← hh, Bd.state]; rfl
  have N0 := Fr.nil n0
  have K0 : Keep h0 h0 [] := Keep.refl _ _
  show ownEnds p e below s (Q_tie_3 Z  h0 n0) ({ frames := 0, cells := 0, slots := 0, locals := 0 } : Room).cells ({ frames := 0, cells := 0, slots := 0, locals := 0 } : Room).slots s₁ (entryFrame m #[(.long (3 : Int64))] 2)
  refine ownCast (own_ef5_tie_3 m ) ?_
  refine ow_lloadN (q := 1) X0 hx (hb hby own_d5_0) rfl rfl ?_
  refine ow_l2i (q := 2) X0 hx (3 : Int32) (hb hby own_d5_1) rfl (by decide) ?_
  refine ow_i2l (q := 3) X0 hx (3 : Int64) (hb hby own_d5_2) rfl (by decide) ?_
  refine ow_lloadN (q := 4) X0 hx (hb hby own_d5_3) rfl rfl ?_
  refine ow_lcmp (q := 5) X0 hx _ (hb hby own_d5_4) rfl rfl ?_
  refine ow_ifYes (q := 18) X0 hx (hb hby own_d5_5) (Jvm.Free.XT.ll_eq_t (by decide)) (by decide) (by decide) ?_
  refine ow_lloadN (q := 19) X0 hx (hb hby own_d5_18) rfl rfl ?_
  refine ow_l2i (q := 20) X0 hx (3 : Int32) (hb hby own_d5_19) rfl (by decide) ?_
  refine ownRetI X0 hx Bd.returns (hb hby own_d5_20) hlk (by decide) (by decide) ?_
  rw [e0]
  exact ⟨rfl, N0, rfl⟩
theorem own_ef1_init_3 (m : MethodId) (a0 : Addr) (p2 : Int32) : entryFrame m #[(.ref a0), (.int (1 : Int32)), (.int p2)] 3 = mkF m 0 #[rv a0, iv (1 : Int32), iv p2] [] := by first | (simp [entryFrame, mkF, argsToLocals, Value.category]; done) | rfl
def Q_init_3 (Z : State) (a0 : Addr) (p2 : Int32) (h0 : Heap) (n0 : Nat) (v : Option Value) (h : Heap) (L : List Loc) : Prop := v = none ∧ Fr n0 L ∧ Keep h0 h [a0] ∧ Exa Z h a0 "com/example/sieveline/sieveline/solver/BitMatrix" ∧ Fld Z h a0 "com/example/sieveline/sieveline/solver/BitMatrix" "rowWords" "I" (.int (3 : Int32))
set_option maxRecDepth 65536 in
set_option maxHeartbeats 40000000 in
theorem rm_init_3 (l : Launch) (Z : State) (av0 : Array Value) (hw : ∀ d ∈ tables_1, d.before av0 Z = true) (ws : List Jvm.Cond) (a0 : Addr) (p2 : Int32) (h0 : Heap) (n0 : Nat) (Z0 : n0 ≤ h0.size) (HF0 : Exa Z h0 a0 "com/example/sieveline/sieveline/solver/BitMatrix") (HF1 : Fld Z h0 a0 "com/example/sieveline/sieveline/solver/BitMatrix" "rowWords" "I" (.int (0 : Int32))) (HF2 : Fld Z h0 a0 "com/example/sieveline/sieveline/solver/BitMatrix" "words" "[J" .null) (HF3 : Fld Z h0 a0 "com/example/sieveline/sieveline/solver/BitMatrix" "rows" "I" (.int (0 : Int32))) (HF4 : Fld Z h0 a0 "com/example/sieveline/sieveline/solver/BitMatrix" "columns" "I" (.int (0 : Int32))) (G_a0 : n0 ≤ a0) (hL : (((p2 + (64 : Int32)) - (1 : Int32)) / (64 : Int32)) = (3 : Int32)) :
    MetFree l (⟨"com/example/sieveline/sieveline/solver/BitMatrix", "<init>", "(II)V"⟩ : MethodName) (head1 (Jvm.Cond.code (⟨"com/example/sieveline/sieveline/solver/BitMatrix", "<init>", "(II)V"⟩ : MethodName) prog_49_method_1_code 3 none :: ws) ({ frames := 2, cells := 1, slots := 3, locals := 28 } : Room)) (fun a U => a = #[(.ref a0), (.int (1 : Int32)), (.int p2)] ∧ Z.Warmed39 U.vm ∧ U.heap = h0) (fun _ _ _ _ _ => True) (fun _ U o U' => ∃ v L, o = .returned v ∧ (Q_init_3 Z a0 p2 h0 n0) v U'.heap L ∧ FrameEnd U o U' L ({ frames := 2, cells := 1, slots := 3, locals := 28 } : Room).cells ({ frames := 2, cells := 1, slots := 3, locals := 28 } : Room).slots) := by
  refine MetFree.of_bodySF (plainFor_of_name own_pn_BitMatrix) hisR ?_
  intro p e s m args below meth c s₁ Bd hml0 hP hK
  obtain ⟨rfl, hZ, hh⟩ := hP
  have hx := Bd.exec
  have hby := Bd.bytes
  have hml : c.maxLocals = 3 := hml0
  have hown : s.vm.findClass "com/example/sieveline/sieveline/solver/BitMatrix" = some m.cls := findClass_of_methodNamed Bd.named
  have hnm := (name_of_methodNamed Bd.named Bd.method).1
  have hlk : meth.locks = false := BodyLoose.notSynchronized Bd
  have X0 : Stand p l e ({ frames := 2, cells := 1, slots := 3, locals := 28 } : Room) s m #[(.ref a0), (.int (1 : Int32)), (.int p2)] below meth c s₁ [] 0 0 := Stand.of_body Bd
  have e0 : s₁.heap = h0 := by rw [← hh, Bd.state]; rfl
  have N0 := Fr.nil n0
  have K0 : Keep h0 h0 [a0] := Keep.refl _ _
  show ownEnds p e below s (Q_init_3 Z a0 p2 h0 n0) ({ frames := 2, cells := 1, slots := 3, locals := 28 } : Room).cells ({ frames := 2, cells := 1, slots := 3, locals := 28 } : Room).slots s₁ (entryFrame m #[(.ref a0), (.int (1 : Int32)), (.int p2)] 3)
  refine ownCast (own_ef1_init_3 m a0 p2) ?_
  refine ow_aloadN (q := 1) X0 hx (hb hby own_d1_0) rfl rfl rfl ?_
  obtain ⟨T1, X1, e1, st1⟩ := initO X0 hx hZ hown (hw _ (List.mem_of_getElem? (i := 7) rfl)) (hw _ (List.mem_of_getElem? (i := 8) rfl)) (hw _ (List.mem_of_getElem? (i := 9) rfl)) e0 (g := (mkF m 1 #[rv a0, iv (1 : Int32), iv p2] [(.ref a0)])) rfl (by rw [hml]; rfl) rfl (hb hby own_d1_1) (by decide) (W := 0) (by show 2 * 0 + _ ≤ _; exact Nat.le_of_eq rfl) (by decide)
  refine ownGo (T' := T1) (f' := (mkF m 4 #[rv a0, iv (1 : Int32), iv p2] [])) (st1) ?_
  refine ow_aloadN (q := 5) X1 hx (hb hby own_d1_4) rfl rfl rfl ?_
  refine ow_iloadN (q := 6) X1 hx (hb hby own_d1_5) rfl rfl ?_
  obtain ⟨_, _, ⟨T2, L2, k2, n2⟩, -, X2, ⟨Lc2, hQ2, l2, y2, z2⟩, st2⟩ := Jvm.LawKit.callS X1 hx (y := (⟨"com/example/sieveline/sieveline/solver/BitMatrix", "rowWords", "(I)I"⟩ : MethodName)) hown (mvT hZ (hw _ (List.mem_of_getElem? (i := 10) rfl))) (mvT hZ (hw _ (List.mem_of_getElem? (i := 11) rfl))) (mvT hZ (hw _ (List.mem_of_getElem? (i := 3) rfl))) (mvT hZ (hw _ (List.mem_of_getElem? (i := 12) rfl))) (by decide) (backOf (W := 1) (rm_rw_3 l Z av0 hw [] p2 h0 n0 (Nat.le_trans Z0 K0.1) (by assumption)) hZ (hw _ (List.mem_of_getElem? (i := 12) rfl)) (hw _ (List.mem_of_getElem? (i := 3) rfl)) (by decide) (by decide)) (g := (mkF m 6 #[rv a0, iv (1 : Int32), iv p2] [(.int p2), (.ref a0)])) rfl (by rw [hml]; rfl) (argsL := [(.int p2)]) (rest := [(.ref a0)]) (lenOf own_pd0 rfl) rfl (by show 2 * 0 + _ ≤ _; exact Nat.le_of_eq rfl) (hb hby own_d1_6) (fun _ _ => ⟨rfl, e1, (by decide : 0 + 0 ≤ _), (by decide : 0 + 0 ≤ _)⟩)
  dsimp only [Pt.U, Pt.locs, Pt.cells, Pt.slots] at X2 l2 y2 z2 st2 hQ2
  subst l2 y2 z2
  obtain ⟨rfl, N2q, e2⟩ := hQ2
  have N2 := Fr.app N0 N2q
  refine ownGo (T' := T2) (f' := (mkF m 9 #[rv a0, iv (1 : Int32), iv p2] [(.int (3 : Int32)), (.ref a0)])) (st2) ?_
  obtain ⟨T3, h3, X3, e3, W3, st3⟩ := putF X2 hx hZ hown (host := "") (Or.inl (hw _ (List.mem_of_getElem? (i := 13) rfl))) Via.refl e2 HF1 HF0 (Or.inr ⟨(hw _ (List.mem_of_getElem? (i := 14) rfl)), rfl, hnm⟩) (hw _ (List.mem_of_getElem? (i := 2) rfl)) (ty := .int) (by decide) rfl rfl (g := (mkF m 9 #[rv a0, iv (1 : Int32), iv p2] [(.int (3 : Int32)), (.ref a0)])) rfl rfl (hb hby own_d1_9)
  have N3 := Fr.snoc X3 N2 G_a0
  have K3 : Keep h0 h3 [a0] := K0.wr W3 (Or.inl (List.mem_of_getElem? (i := 0) rfl))
  have F4 : Exa Z h3 a0 "com/example/sieveline/sieveline/solver/BitMatrix" := HF0.wr W3
  have F5 : Fld Z h3 a0 "com/example/sieveline/sieveline/solver/BitMatrix" "rowWords" "I" (.int (3 : Int32)) := HF1.same W3
  have F6 : Fld Z h3 a0 "com/example/sieveline/sieveline/solver/BitMatrix" "words" "[J" .null := HF2.other W3 (Or.inr (slot_ne (Or.inr (hw _ (List.mem_of_getElem? (i := 24) rfl))) (Or.inr (hw _ (List.mem_of_getElem? (i := 14) rfl))) (by decide) (t := (.array .long)) (t' := .int) (by decide) (by decide)))
  have F7 : Fld Z h3 a0 "com/example/sieveline/sieveline/solver/BitMatrix" "rows" "I" (.int (0 : Int32)) := HF3.other W3 (Or.inr (slot_ne (Or.inr (hw _ (List.mem_of_getElem? (i := 26) rfl))) (Or.inr (hw _ (List.mem_of_getElem? (i := 14) rfl))) (by decide) (t := .int) (t' := .int) (by decide) (by decide)))
  have F8 : Fld Z h3 a0 "com/example/sieveline/sieveline/solver/BitMatrix" "columns" "I" (.int (0 : Int32)) := HF4.other W3 (Or.inr (slot_ne (Or.inr (hw _ (List.mem_of_getElem? (i := 28) rfl))) (Or.inr (hw _ (List.mem_of_getElem? (i := 14) rfl))) (by decide) (t := .int) (t' := .int) (by decide) (by decide)))
  refine ownGo (T' := T3) (f' := (mkF m 12 #[rv a0, iv (1 : Int32), iv p2] [])) (st3) ?_
  refine ow_aloadN (q := 13) X3 hx (hb hby own_d1_12) rfl rfl rfl ?_
  refine ow_iloadN (q := 14) X3 hx (hb hby own_d1_13) rfl rfl ?_
  refine ow_iloadN (q := 15) X3 hx (hb hby own_d1_14) rfl rfl ?_
  obtain ⟨_, _, ⟨T9, L9, k9, n9⟩, -, X9, ⟨Lc9, hQ9, l9, y9, z9⟩, st9⟩ := Jvm.LawKit.callS X3 hx (y := (⟨"com/example/sieveline/sieveline/solver/BitMatrix", "words", "(II)J"⟩ : MethodName)) hown (mvT hZ (hw _ (List.mem_of_getElem? (i := 15) rfl))) (mvT hZ (hw _ (List.mem_of_getElem? (i := 16) rfl))) (mvT hZ (hw _ (List.mem_of_getElem? (i := 3) rfl))) (mvT hZ (hw _ (List.mem_of_getElem? (i := 17) rfl))) (by decide) (backOf (W := 1) (rm_words_3 l Z av0 hw [] p2 h3 n0 (Nat.le_trans Z0 K3.1) (by assumption)) hZ (hw _ (List.mem_of_getElem? (i := 17) rfl)) (hw _ (List.mem_of_getElem? (i := 3) rfl)) (by decide) (by decide)) (g := (mkF m 15 #[rv a0, iv (1 : Int32), iv p2] [(.int p2), (.int (1 : Int32)), (.ref a0)])) rfl (by rw [hml]; rfl) (argsL := [(.int (1 : Int32)), (.int p2)]) (rest := [(.ref a0)]) (lenOf own_pd1 rfl) rfl (by show 2 * 0 + _ ≤ _; exact Nat.le_of_eq rfl) (hb hby own_d1_15) (fun _ _ => ⟨rfl, e3, (by decide : 0 + 0 ≤ _), (by decide : 0 + 0 ≤ _)⟩)
  dsimp only [Pt.U, Pt.locs, Pt.cells, Pt.slots] at X9 l9 y9 z9 st9 hQ9
  subst l9 y9 z9
  obtain ⟨rfl, N9q, e9⟩ := hQ9
  have N9 := Fr.app N3 N9q
  refine ownGo (T' := T9) (f' := (mkF m 18 #[rv a0, iv (1 : Int32), iv p2] [(.long (3 : Int64)), (.ref a0)])) (st9) ?_
  obtain ⟨_, _, ⟨T10, L10, k10, n10⟩, -, X10, ⟨Lc10, hQ10, l10, y10, z10⟩, st10⟩ := Jvm.LawKit.callS X9 hx (y := (⟨"java/lang/Math", "toIntExact", "(J)I"⟩ : MethodName)) hown (mvT hZ (hw _ (List.mem_of_getElem? (i := 18) rfl))) (mvT hZ (hw _ (List.mem_of_getElem? (i := 19) rfl))) (mvT hZ (hw _ (List.mem_of_getElem? (i := 20) rfl))) (mvT hZ (hw _ (List.mem_of_getElem? (i := 21) rfl))) (by decide) (backOf (W := 1) (rm_tie_3 l Z av0 hw []  h3 n0 (Nat.le_trans Z0 K3.1) ) hZ (hw _ (List.mem_of_getElem? (i := 21) rfl)) (hw _ (List.mem_of_getElem? (i := 20) rfl)) (by decide) (by decide)) (g := (mkF m 18 #[rv a0, iv (1 : Int32), iv p2] [(.long (3 : Int64)), (.ref a0)])) rfl (by rw [hml]; rfl) (argsL := [(.long (3 : Int64))]) (rest := [(.ref a0)]) (lenOf own_pd2 rfl) rfl (by show 2 * 0 + _ ≤ _; exact Nat.le_of_eq rfl) (hb hby own_d1_18) (fun _ _ => ⟨rfl, e9, (by decide : 0 + 0 ≤ _), (by decide : 0 + 0 ≤ _)⟩)
  dsimp only [Pt.U, Pt.locs, Pt.cells, Pt.slots] at X10 l10 y10 z10 st10 hQ10
  subst l10 y10 z10
  obtain ⟨rfl, N10q, e10⟩ := hQ10
  have N10 := Fr.app N9 N10q
  refine ownGo (T' := T10) (f' := (mkF m 21 #[rv a0, iv (1 : Int32), iv p2] [(.int (3 : Int32)), (.ref a0)])) (st10) ?_
  obtain ⟨T11, h11, k11, X11, e11, E11, A11, st11⟩ := newP X10 hx hZ (hw _ (List.mem_of_getElem? (i := 22) rfl)) e10 (g := (mkF m 21 #[rv a0, iv (1 : Int32), iv p2] [(.int (3 : Int32)), (.ref a0)])) rfl (hb hby own_d1_21) rfl (by decide) (cap := 3) (by decide) (by decide) (by decide) (by decide)
  obtain ⟨b11, g11⟩ : ∃ z, z = h3.size := ⟨_, rfl⟩
  rw [← g11] at A11 st11
  have ne_a0_b11 : a0 ≠ b11 := Nat.ne_of_lt (Nat.lt_of_lt_of_le F4.lt (Nat.le_of_eq g11.symm))
  have sz_b11 : h0.size ≤ b11 := Nat.le_trans K3.1 (Nat.le_of_eq g11.symm)
  have G_b11 : n0 ≤ b11 := Nat.le_trans Z0 sz_b11
  have K11 : Keep h0 h11 [a0] := K3.ext E11
  have F12 : Exa Z h11 a0 "com/example/sieveline/sieveline/solver/BitMatrix" := F4.ext E11
  have F13 : Fld Z h11 a0 "com/example/sieveline/sieveline/solver/BitMatrix" "rowWords" "I" (.int (3 : Int32)) := F5.ext E11
  have F14 : Fld Z h11 a0 "com/example/sieveline/sieveline/solver/BitMatrix" "words" "[J" .null := F6.ext E11
  have F15 : Fld Z h11 a0 "com/example/sieveline/sieveline/solver/BitMatrix" "rows" "I" (.int (0 : Int32)) := F7.ext E11
  have F16 : Fld Z h11 a0 "com/example/sieveline/sieveline/solver/BitMatrix" "columns" "I" (.int (0 : Int32)) := F8.ext E11
  have F17 : ownAJ Z h11 b11 3 (fun _ => (0 : Int64)) := ownAJ.new A11 (by decide) (by decide)
  refine ownGo (T' := T11) (f' := (mkF m 23 #[rv a0, iv (1 : Int32), iv p2] [(.ref b11), (.ref a0)])) (st11) ?_
  obtain ⟨T18, h18, X18, e18, W18, st18⟩ := putF X11 hx hZ hown (host := "") (Or.inl (hw _ (List.mem_of_getElem? (i := 23) rfl))) Via.refl e11 F14 F12 (Or.inr ⟨(hw _ (List.mem_of_getElem? (i := 24) rfl)), rfl, hnm⟩) (hw _ (List.mem_of_getElem? (i := 2) rfl)) (ty := (.array .long)) (by decide) rfl rfl (g := (mkF m 23 #[rv a0, iv (1 : Int32), iv p2] [(.ref b11), (.ref a0)])) rfl rfl (hb hby own_d1_23)
  have N18 := Fr.snoc X18 N10 G_a0
  have K18 : Keep h0 h18 [a0] := K11.wr W18 (Or.inl (List.mem_of_getElem? (i := 0) rfl))
  have F19 : Exa Z h18 a0 "com/example/sieveline/sieveline/solver/BitMatrix" := F12.wr W18
  have F20 : Fld Z h18 a0 "com/example/sieveline/sieveline/solver/BitMatrix" "rowWords" "I" (.int (3 : Int32)) := F13.other W18 (Or.inr (slot_ne (Or.inr (hw _ (List.mem_of_getElem? (i := 14) rfl))) (Or.inr (hw _ (List.mem_of_getElem? (i := 24) rfl))) (by decide) (t := .int) (t' := (.array .long)) (by decide) (by decide)))
  have F21 : Fld Z h18 a0 "com/example/sieveline/sieveline/solver/BitMatrix" "words" "[J" (.ref b11) := F14.same W18
  have F22 : Fld Z h18 a0 "com/example/sieveline/sieveline/solver/BitMatrix" "rows" "I" (.int (0 : Int32)) := F15.other W18 (Or.inr (slot_ne (Or.inr (hw _ (List.mem_of_getElem? (i := 26) rfl))) (Or.inr (hw _ (List.mem_of_getElem? (i := 24) rfl))) (by decide) (t := .int) (t' := (.array .long)) (by decide) (by decide)))
  have F23 : Fld Z h18 a0 "com/example/sieveline/sieveline/solver/BitMatrix" "columns" "I" (.int (0 : Int32)) := F16.other W18 (Or.inr (slot_ne (Or.inr (hw _ (List.mem_of_getElem? (i := 28) rfl))) (Or.inr (hw _ (List.mem_of_getElem? (i := 24) rfl))) (by decide) (t := .int) (t' := (.array .long)) (by decide) (by decide)))
  have F24 : ownAJ Z h18 b11 3 (fun _ => (0 : Int64)) := F17.other W18 (Ne.symm ne_a0_b11)
  refine ownGo (T' := T18) (f' := (mkF m 26 #[rv a0, iv (1 : Int32), iv p2] [])) (st18) ?_
  refine ow_aloadN (q := 27) X18 hx (hb hby own_d1_26) rfl rfl rfl ?_
  refine ow_iloadN (q := 28) X18 hx (hb hby own_d1_27) rfl rfl ?_
  obtain ⟨T25, h25, X25, e25, W25, st25⟩ := putF X18 hx hZ hown (host := "") (Or.inl (hw _ (List.mem_of_getElem? (i := 25) rfl))) Via.refl e18 F22 F19 (Or.inr ⟨(hw _ (List.mem_of_getElem? (i := 26) rfl)), rfl, hnm⟩) (hw _ (List.mem_of_getElem? (i := 2) rfl)) (ty := .int) (by decide) rfl rfl (g := (mkF m 28 #[rv a0, iv (1 : Int32), iv p2] [(.int (1 : Int32)), (.ref a0)])) rfl rfl (hb hby own_d1_28)
  have N25 := Fr.snoc X25 N18 G_a0
  have K25 : Keep h0 h25 [a0] := K18.wr W25 (Or.inl (List.mem_of_getElem? (i := 0) rfl))
  have F26 : Exa Z h25 a0 "com/example/sieveline/sieveline/solver/BitMatrix" := F19.wr W25
  have F27 : Fld Z h25 a0 "com/example/sieveline/sieveline/solver/BitMatrix" "rowWords" "I" (.int (3 : Int32)) := F20.other W25 (Or.inr (slot_ne (Or.inr (hw _ (List.mem_of_getElem? (i := 14) rfl))) (Or.inr (hw _ (List.mem_of_getElem? (i := 26) rfl))) (by decide) (t := .int) (t' := .int) (by decide) (by decide)))
  have F28 : Fld Z h25 a0 "com/example/sieveline/sieveline/solver/BitMatrix" "words" "[J" (.ref b11) := F21.other W25 (Or.inr (slot_ne (Or.inr (hw _ (List.mem_of_getElem? (i := 24) rfl))) (Or.inr (hw _ (List.mem_of_getElem? (i := 26) rfl))) (by decide) (t := (.array .long)) (t' := .int) (by decide) (by decide)))
  have F29 : Fld Z h25 a0 "com/example/sieveline/sieveline/solver/BitMatrix" "rows" "I" (.int (1 : Int32)) := F22.same W25
  have F30 : Fld Z h25 a0 "com/example/sieveline/sieveline/solver/BitMatrix" "columns" "I" (.int (0 : Int32)) := F23.other W25 (Or.inr (slot_ne (Or.inr (hw _ (List.mem_of_getElem? (i := 28) rfl))) (Or.inr (hw _ (List.mem_of_getElem? (i := 26) rfl))) (by decide) (t := .int) (t' := .int) (by decide) (by decide)))
  have F31 : ownAJ Z h25 b11 3 (fun _ => (0 : Int64)) := F24.other W25 (Ne.symm ne_a0_b11)
  refine ownGo (T' := T25) (f' := (mkF m 31 #[rv a0, iv (1 : Int32), iv p2] [])) (st25) ?_
  refine ow_aloadN (q := 32) X25 hx (hb hby own_d1_31) rfl rfl rfl ?_
  refine ow_iloadN (q := 33) X25 hx (hb hby own_d1_32) rfl rfl ?_
  obtain ⟨T32, h32, X32, e32, W32, st32⟩ := putF X25 hx hZ hown (host := "") (Or.inl (hw _ (List.mem_of_getElem? (i := 27) rfl))) Via.refl e25 F30 F26 (Or.inr ⟨(hw _ (List.mem_of_getElem? (i := 28) rfl)), rfl, hnm⟩) (hw _ (List.mem_of_getElem? (i := 2) rfl)) (ty := .int) (by decide) rfl rfl (g := (mkF m 33 #[rv a0, iv (1 : Int32), iv p2] [(.int p2), (.ref a0)])) rfl rfl (hb hby own_d1_33)
  have N32 := Fr.snoc X32 N25 G_a0
  have K32 : Keep h0 h32 [a0] := K25.wr W32 (Or.inl (List.mem_of_getElem? (i := 0) rfl))
  have F33 : Exa Z h32 a0 "com/example/sieveline/sieveline/solver/BitMatrix" := F26.wr W32
  have F34 : Fld Z h32 a0 "com/example/sieveline/sieveline/solver/BitMatrix" "rowWords" "I" (.int (3 : Int32)) := F27.other W32 (Or.inr (slot_ne (Or.inr (hw _ (List.mem_of_getElem? (i := 14) rfl))) (Or.inr (hw _ (List.mem_of_getElem? (i := 28) rfl))) (by decide) (t := .int) (t' := .int) (by decide) (by decide)))
  have F35 : Fld Z h32 a0 "com/example/sieveline/sieveline/solver/BitMatrix" "words" "[J" (.ref b11) := F28.other W32 (Or.inr (slot_ne (Or.inr (hw _ (List.mem_of_getElem? (i := 24) rfl))) (Or.inr (hw _ (List.mem_of_getElem? (i := 28) rfl))) (by decide) (t := (.array .long)) (t' := .int) (by decide) (by decide)))
  have F36 : Fld Z h32 a0 "com/example/sieveline/sieveline/solver/BitMatrix" "rows" "I" (.int (1 : Int32)) := F29.other W32 (Or.inr (slot_ne (Or.inr (hw _ (List.mem_of_getElem? (i := 26) rfl))) (Or.inr (hw _ (List.mem_of_getElem? (i := 28) rfl))) (by decide) (t := .int) (t' := .int) (by decide) (by decide)))
  have F37 : Fld Z h32 a0 "com/example/sieveline/sieveline/solver/BitMatrix" "columns" "I" (.int p2) := F30.same W32
  have F38 : ownAJ Z h32 b11 3 (fun _ => (0 : Int64)) := F31.other W32 (Ne.symm ne_a0_b11)
  refine ownGo (T' := T32) (f' := (mkF m 36 #[rv a0, iv (1 : Int32), iv p2] [])) (st32) ?_
  refine ownRetV X32 hx Bd.returns (hb hby own_d1_36) hlk (by decide) (by decide) ?_
  rw [e32]
  exact ⟨rfl, N32, K32, F33, F34⟩
theorem own_ef3_rw_4 (m : MethodId) (p0 : Int32) : entryFrame m #[(.int p0)] 1 = mkF m 0 #[iv p0] [] := by first | (simp [entryFrame, mkF, argsToLocals, Value.category]; done) | rfl
def Q_rw_4 (Z : State) (p0 : Int32) (h0 : Heap) (n0 : Nat) (v : Option Value) (h : Heap) (L : List Loc) : Prop := v = some (.int (4 : Int32)) ∧ Fr n0 L ∧ h = h0
set_option maxRecDepth 65536 in
set_option maxHeartbeats 40000000 in
theorem rm_rw_4 (l : Launch) (Z : State) (av0 : Array Value) (hw : ∀ d ∈ tables_1, d.before av0 Z = true) (ws : List Jvm.Cond) (p0 : Int32) (h0 : Heap) (n0 : Nat) (Z0 : n0 ≤ h0.size) (hL : (((p0 + (64 : Int32)) - (1 : Int32)) / (64 : Int32)) = (4 : Int32)) :
    MetFree l (⟨"com/example/sieveline/sieveline/solver/BitMatrix", "rowWords", "(I)I"⟩ : MethodName) (head1 (Jvm.Cond.code (⟨"com/example/sieveline/sieveline/solver/BitMatrix", "rowWords", "(I)I"⟩ : MethodName) prog_49_method_12_code 1 (some .int) :: ws) ({ frames := 0, cells := 0, slots := 0, locals := 0 } : Room)) (fun a U => a = #[(.int p0)] ∧ Z.Warmed39 U.vm ∧ U.heap = h0) (fun _ _ _ _ _ => True) (fun _ U o U' => ∃ v L, o = .returned v ∧ (Q_rw_4 Z p0 h0 n0) v U'.heap L ∧ FrameEnd U o U' L ({ frames := 0, cells := 0, slots := 0, locals := 0 } : Room).cells ({ frames := 0, cells := 0, slots := 0, locals := 0 } : Room).slots) := by
  refine MetFree.of_bodySF (plainFor_of_name own_pn_BitMatrix) hisR ?_
  intro p e s m args below meth c s₁ Bd hml0 hP hK
  obtain ⟨rfl, hZ, hh⟩ := hP
  have hx := Bd.exec
  have hby := Bd.bytes
  have hml : c.maxLocals = 1 := hml0
  have hown : s.vm.findClass "com/example/sieveline/sieveline/solver/BitMatrix" = some m.cls := findClass_of_methodNamed Bd.named
  have hnm := (name_of_methodNamed Bd.named Bd.method).1
  have hlk : meth.locks = false := BodyLoose.notSynchronized Bd
  have X0 : Stand p l e ({ frames := 0, cells := 0, slots := 0, locals := 0 } : Room) s m #[(.int p0)] below meth c s₁ [] 0 0 := Stand.of_body Bd
  have e0 : s₁.heap = h0 := by rw [← hh, Bd.state]; rfl
  have N0 := Fr.nil n0
  have K0 : Keep h0 h0 [] := Keep.refl _ _
  show ownEnds p e below s (Q_rw_4 Z p0 h0 n0) ({ frames := 0, cells := 0, slots := 0, locals := 0 } : Room).cells ({ frames := 0, cells := 0, slots := 0, locals := 0 } : Room).slots s₁ (entryFrame m #[(.int p0)] 1)
  refine ownCast (own_ef3_rw_4 m p0) ?_
  refine ow_iloadN (q := 1) X0 hx (hb hby own_d3_0) rfl rfl ?_
  refine ow_bipush (q := 3) X0 hx (64 : Int32) (hb hby own_d3_1) rfl rfl ?_
  refine ow_iadd (q := 4) X0 hx _ (hb hby own_d3_3) rfl rfl ?_
  refine ow_iconst (q := 5) X0 hx (1 : Int32) (hb hby own_d3_4) rfl rfl ?_
  refine ow_isub (q := 6) X0 hx _ (hb hby own_d3_5) rfl rfl ?_
  refine ow_bipush (q := 8) X0 hx (64 : Int32) (hb hby own_d3_6) rfl rfl ?_
  refine ow_idiv (q := 9) X0 hx _ (hb hby own_d3_8) rfl (by decide) rfl ?_
  refine ownRetI X0 hx Bd.returns (hb hby own_d3_9) hlk (by decide) (by decide) ?_
  rw [e0]
  refine ⟨congrArg (fun q => some (Value.int q)) ?_, N0, rfl⟩
  exact hL
theorem own_ef4_words_4 (m : MethodId) (p1 : Int32) : entryFrame m #[(.int (1 : Int32)), (.int p1)] 2 = mkF m 0 #[iv (1 : Int32), iv p1] [] := by first | (simp [entryFrame, mkF, argsToLocals, Value.category]; done) | rfl
def Q_words_4 (Z : State) (p1 : Int32) (h0 : Heap) (n0 : Nat) (v : Option Value) (h : Heap) (L : List Loc) : Prop := v = some (.long (4 : Int64)) ∧ Fr n0 L ∧ h = h0
set_option maxRecDepth 65536 in
set_option maxHeartbeats 40000000 in
theorem rm_words_4 (l : Launch) (Z : State) (av0 : Array Value) (hw : ∀ d ∈ tables_1, d.before av0 Z = true) (ws : List Jvm.Cond) (p1 : Int32) (h0 : Heap) (n0 : Nat) (Z0 : n0 ≤ h0.size) (hL : (((p1 + (64 : Int32)) - (1 : Int32)) / (64 : Int32)) = (4 : Int32)) :
    MetFree l (⟨"com/example/sieveline/sieveline/solver/BitMatrix", "words", "(II)J"⟩ : MethodName) (head1 (Jvm.Cond.code (⟨"com/example/sieveline/sieveline/solver/BitMatrix", "words", "(II)J"⟩ : MethodName) prog_49_method_2_code 2 (some .long) :: ws) ({ frames := 1, cells := 0, slots := 0, locals := 14 } : Room)) (fun a U => a = #[(.int (1 : Int32)), (.int p1)] ∧ Z.Warmed39 U.vm ∧ U.heap = h0) (fun _ _ _ _ _ => True) (fun _ U o U' => ∃ v L, o = .returned v ∧ (Q_words_4 Z p1 h0 n0) v U'.heap L ∧ FrameEnd U o U' L ({ frames := 1, cells := 0, slots := 0, locals := 14 } : Room).cells ({ frames := 1, cells := 0, slots := 0, locals := 14 } : Room).slots) := by
  refine MetFree.of_bodySF (plainFor_of_name own_pn_BitMatrix) hisR ?_
  intro p e s m args below meth c s₁ Bd hml0 hP hK
  obtain ⟨rfl, hZ, hh⟩ := hP
  have hx := Bd.exec
  have hby := Bd.bytes
  have hml : c.maxLocals = 2 := hml0
  have hown : s.vm.findClass "com/example/sieveline/sieveline/solver/BitMatrix" = some m.cls := findClass_of_methodNamed Bd.named
  have hnm := (name_of_methodNamed Bd.named Bd.method).1
  have hlk : meth.locks = false := BodyLoose.notSynchronized Bd
  have X0 : Stand p l e ({ frames := 1, cells := 0, slots := 0, locals := 14 } : Room) s m #[(.int (1 : Int32)), (.int p1)] below meth c s₁ [] 0 0 := Stand.of_body Bd
  have e0 : s₁.heap = h0 := by rw [← hh, Bd.state]; rfl
  have N0 := Fr.nil n0
  have K0 : Keep h0 h0 [] := Keep.refl _ _
  show ownEnds p e below s (Q_words_4 Z p1 h0 n0) ({ frames := 1, cells := 0, slots := 0, locals := 14 } : Room).cells ({ frames := 1, cells := 0, slots := 0, locals := 14 } : Room).slots s₁ (entryFrame m #[(.int (1 : Int32)), (.int p1)] 2)
  refine ownCast (own_ef4_words_4 m p1) ?_
  refine ow_iloadN (q := 1) X0 hx (hb hby own_d4_0) rfl rfl ?_
  refine ow_i2l (q := 2) X0 hx (1 : Int64) (hb hby own_d4_1) rfl (by decide) ?_
  refine ow_iloadN (q := 3) X0 hx (hb hby own_d4_2) rfl rfl ?_
  obtain ⟨_, _, ⟨T1, L1, k1, n1⟩, -, X1, ⟨Lc1, hQ1, l1, y1, z1⟩, st1⟩ := Jvm.LawKit.callS X0 hx (y := (⟨"com/example/sieveline/sieveline/solver/BitMatrix", "rowWords", "(I)I"⟩ : MethodName)) hown (mvT hZ (hw _ (List.mem_of_getElem? (i := 10) rfl))) (mvT hZ (hw _ (List.mem_of_getElem? (i := 11) rfl))) (mvT hZ (hw _ (List.mem_of_getElem? (i := 3) rfl))) (mvT hZ (hw _ (List.mem_of_getElem? (i := 12) rfl))) (by decide) (backOf (W := 2) (rm_rw_4 l Z av0 hw [] p1 h0 n0 (Nat.le_trans Z0 K0.1) (by assumption)) hZ (hw _ (List.mem_of_getElem? (i := 12) rfl)) (hw _ (List.mem_of_getElem? (i := 3) rfl)) (by decide) (by decide)) (g := (mkF m 3 #[iv (1 : Int32), iv p1] [(.int p1), (.long (1 : Int64))])) rfl (by rw [hml]; rfl) (argsL := [(.int p1)]) (rest := [(.long (1 : Int64))]) (lenOf own_pd0 rfl) rfl (by show 2 * 0 + _ ≤ _; exact Nat.le_of_eq rfl) (hb hby own_d4_3) (fun _ _ => ⟨rfl, e0, (by decide : 0 + 0 ≤ _), (by decide : 0 + 0 ≤ _)⟩)
  dsimp only [Pt.U, Pt.locs, Pt.cells, Pt.slots] at X1 l1 y1 z1 st1 hQ1
  subst l1 y1 z1
  obtain ⟨rfl, N1q, e1⟩ := hQ1
  have N1 := Fr.app N0 N1q
  refine ownGo (T' := T1) (f' := (mkF m 6 #[iv (1 : Int32), iv p1] [(.int (4 : Int32)), (.long (1 : Int64))])) (st1) ?_
  refine ow_i2l (q := 7) X1 hx (4 : Int64) (hb hby own_d4_6) rfl (by decide) ?_
  refine ow_lmul (q := 8) X1 hx (4 : Int64) (hb hby own_d4_7) rfl (by decide) ?_
  refine ownRetJ X1 hx Bd.returns (hb hby own_d4_8) hlk (by decide) (by decide) ?_
  rw [e1]
  exact ⟨rfl, N1, rfl⟩
theorem own_ef5_tie_4 (m : MethodId)  : entryFrame m #[(.long (4 : Int64))] 2 = mkF m 0 #[.val (.long (4 : Int64)), .second] [] := by first | (simp [entryFrame, mkF, argsToLocals, Value.category]; done) | rfl
def Q_tie_4 (Z : State)  (h0 : Heap) (n0 : Nat) (v : Option Value) (h : Heap) (L : List Loc) : Prop := v = some (.int (4 : Int32)) ∧ Fr n0 L ∧ h = h0
set_option maxRecDepth 65536 in
set_option maxHeartbeats 40000000 in
theorem rm_tie_4 (l : Launch) (Z : State) (av0 : Array Value) (hw : ∀ d ∈ tables_1, d.before av0 Z = true) (ws : List Jvm.Cond)  (h0 : Heap) (n0 : Nat) (Z0 : n0 ≤ h0.size) :
    MetFree l (⟨"java/lang/Math", "toIntExact", "(J)I"⟩ : MethodName) (head1 (Jvm.Cond.code (⟨"java/lang/Math", "toIntExact", "(J)I"⟩ : MethodName) jdk_29_method_43_code 2 (some .int) :: ws) ({ frames := 0, cells := 0, slots := 0, locals := 0 } : Room)) (fun a U => a = #[(.long (4 : Int64))] ∧ Z.Warmed39 U.vm ∧ U.heap = h0) (fun _ _ _ _ _ => True) (fun _ U o U' => ∃ v L, o = .returned v ∧ (Q_tie_4 Z  h0 n0) v U'.heap L ∧ FrameEnd U o U' L ({ frames := 0, cells := 0, slots := 0, locals := 0 } : Room).cells ({ frames := 0, cells := 0, slots := 0, locals := 0 } : Room).slots) := by
  refine MetFree.of_bodySF (Jvm.Free.JP.mathPlain rfl (by decide +kernel)) hisR ?_
  intro p e s m args below meth c s₁ Bd hml0 hP hK
  obtain ⟨rfl, hZ, hh⟩ := hP
  have hx := Bd.exec
  have hby := Bd.bytes
  have hml : c.maxLocals = 2 := hml0
  have hown : s.vm.findClass "java/lang/Math" = some m.cls := findClass_of_methodNamed Bd.named
  have hnm := (name_of_methodNamed Bd.named Bd.method).1
  have hlk : meth.locks = false := BodyLoose.notSynchronized Bd
  have X0 : Stand p l e ({ frames := 0, cells := 0, slots := 0, locals := 0 } : Room) s m #[(.long (4 : Int64))] below meth c s₁ [] 0 0 := Stand.of_body Bd
  have e0 : s₁.heap = h0 := by rw [← hh, Bd.state]; rfl
  have N0 := Fr.nil n0
  have K0 : Keep h0 h0 [] := Keep.refl _ _
  show ownEnds p e below s (Q_tie_4 Z  h0 n0) ({ frames := 0, cells := 0, slots := 0, locals := 0 } : Room).cells ({ frames := 0, cells := 0, slots := 0, locals := 0 } : Room).slots s₁ (entryFrame m #[(.long (4 : Int64))] 2)
  refine ownCast (own_ef5_tie_4 m ) ?_
  refine ow_lloadN (q := 1) X0 hx (hb hby own_d5_0) rfl rfl ?_
  refine ow_l2i (q := 2) X0 hx (4 : Int32) (hb hby own_d5_1) rfl (by decide) ?_
  refine ow_i2l (q := 3) X0 hx (4 : Int64) (hb hby own_d5_2) rfl (by decide) ?_
  refine ow_lloadN (q := 4) X0 hx (hb hby own_d5_3) rfl rfl ?_
  refine ow_lcmp (q := 5) X0 hx _ (hb hby own_d5_4) rfl rfl ?_
  refine ow_ifYes (q := 18) X0 hx (hb hby own_d5_5) (Jvm.Free.XT.ll_eq_t (by decide)) (by decide) (by decide) ?_
  refine ow_lloadN (q := 19) X0 hx (hb hby own_d5_18) rfl rfl ?_
  refine ow_l2i (q := 20) X0 hx (4 : Int32) (hb hby own_d5_19) rfl (by decide) ?_
  refine ownRetI X0 hx Bd.returns (hb hby own_d5_20) hlk (by decide) (by decide) ?_
  rw [e0]
  exact ⟨rfl, N0, rfl⟩
theorem own_ef1_init_4 (m : MethodId) (a0 : Addr) (p2 : Int32) : entryFrame m #[(.ref a0), (.int (1 : Int32)), (.int p2)] 3 = mkF m 0 #[rv a0, iv (1 : Int32), iv p2] [] := by first | (simp [entryFrame, mkF, argsToLocals, Value.category]; done) | rfl
def Q_init_4 (Z : State) (a0 : Addr) (p2 : Int32) (h0 : Heap) (n0 : Nat) (v : Option Value) (h : Heap) (L : List Loc) : Prop := v = none ∧ Fr n0 L ∧ Keep h0 h [a0] ∧ Exa Z h a0 "com/example/sieveline/sieveline/solver/BitMatrix" ∧ Fld Z h a0 "com/example/sieveline/sieveline/solver/BitMatrix" "rowWords" "I" (.int (4 : Int32))
set_option maxRecDepth 65536 in
set_option maxHeartbeats 40000000 in
theorem rm_init_4 (l : Launch) (Z : State) (av0 : Array Value) (hw : ∀ d ∈ tables_1, d.before av0 Z = true) (ws : List Jvm.Cond) (a0 : Addr) (p2 : Int32) (h0 : Heap) (n0 : Nat) (Z0 : n0 ≤ h0.size) (HF0 : Exa Z h0 a0 "com/example/sieveline/sieveline/solver/BitMatrix") (HF1 : Fld Z h0 a0 "com/example/sieveline/sieveline/solver/BitMatrix" "rowWords" "I" (.int (0 : Int32))) (HF2 : Fld Z h0 a0 "com/example/sieveline/sieveline/solver/BitMatrix" "words" "[J" .null) (HF3 : Fld Z h0 a0 "com/example/sieveline/sieveline/solver/BitMatrix" "rows" "I" (.int (0 : Int32))) (HF4 : Fld Z h0 a0 "com/example/sieveline/sieveline/solver/BitMatrix" "columns" "I" (.int (0 : Int32))) (G_a0 : n0 ≤ a0) (hL : (((p2 + (64 : Int32)) - (1 : Int32)) / (64 : Int32)) = (4 : Int32)) :
    MetFree l (⟨"com/example/sieveline/sieveline/solver/BitMatrix", "<init>", "(II)V"⟩ : MethodName) (head1 (Jvm.Cond.code (⟨"com/example/sieveline/sieveline/solver/BitMatrix", "<init>", "(II)V"⟩ : MethodName) prog_49_method_1_code 3 none :: ws) ({ frames := 2, cells := 1, slots := 4, locals := 28 } : Room)) (fun a U => a = #[(.ref a0), (.int (1 : Int32)), (.int p2)] ∧ Z.Warmed39 U.vm ∧ U.heap = h0) (fun _ _ _ _ _ => True) (fun _ U o U' => ∃ v L, o = .returned v ∧ (Q_init_4 Z a0 p2 h0 n0) v U'.heap L ∧ FrameEnd U o U' L ({ frames := 2, cells := 1, slots := 4, locals := 28 } : Room).cells ({ frames := 2, cells := 1, slots := 4, locals := 28 } : Room).slots) := by
  refine MetFree.of_bodySF (plainFor_of_name own_pn_BitMatrix) hisR ?_
  intro p e s m args below meth c s₁ Bd hml0 hP hK
  obtain ⟨rfl, hZ, hh⟩ := hP
  have hx := Bd.exec
  have hby := Bd.bytes
  have hml : c.maxLocals = 3 := hml0
  have hown : s.vm.findClass "com/example/sieveline/sieveline/solver/BitMatrix" = some m.cls := findClass_of_methodNamed Bd.named
  have hnm := (name_of_methodNamed Bd.named Bd.method).1
  have hlk : meth.locks = false := BodyLoose.notSynchronized Bd
  have X0 : Stand p l e ({ frames := 2, cells := 1, slots := 4, locals := 28 } : Room) s m #[(.ref a0), (.int (1 : Int32)), (.int p2)] below meth c s₁ [] 0 0 := Stand.of_body Bd
  have e0 : s₁.heap = h0 := by rw [← hh, Bd.state]; rfl
  have N0 := Fr.nil n0
  have K0 : Keep h0 h0 [a0] := Keep.refl _ _
  show ownEnds p e below s (Q_init_4 Z a0 p2 h0 n0) ({ frames := 2, cells := 1, slots := 4, locals := 28 } : Room).cells ({ frames := 2, cells := 1, slots := 4, locals := 28 } : Room).slots s₁ (entryFrame m #[(.ref a0), (.int (1 : Int32)), (.int p2)] 3)
  refine ownCast (own_ef1_init_4 m a0 p2) ?_
  refine ow_aloadN (q := 1) X0 hx (hb hby own_d1_0) rfl rfl rfl ?_
  obtain ⟨T1, X1, e1, st1⟩ := initO X0 hx hZ hown (hw _ (List.mem_of_getElem? (i := 7) rfl)) (hw _ (List.mem_of_getElem? (i := 8) rfl)) (hw _ (List.mem_of_getElem? (i := 9) rfl)) e0 (g := (mkF m 1 #[rv a0, iv (1 : Int32), iv p2] [(.ref a0)])) rfl (by rw [hml]; rfl) rfl (hb hby own_d1_1) (by decide) (W := 0) (by show 2 * 0 + _ ≤ _; exact Nat.le_of_eq rfl) (by decide)
  refine ownGo (T' := T1) (f' := (mkF m 4 #[rv a0, iv (1 : Int32), iv p2] [])) (st1) ?_
  refine ow_aloadN (q := 5) X1 hx (hb hby own_d1_4) rfl rfl rfl ?_
  refine ow_iloadN (q := 6) X1 hx (hb hby own_d1_5) rfl rfl ?_
  obtain ⟨_, _, ⟨T2, L2, k2, n2⟩, -, X2, ⟨Lc2, hQ2, l2, y2, z2⟩, st2⟩ := Jvm.LawKit.callS X1 hx (y := (⟨"com/example/sieveline/sieveline/solver/BitMatrix", "rowWords", "(I)I"⟩ : MethodName)) hown (mvT hZ (hw _ (List.mem_of_getElem? (i := 10) rfl))) (mvT hZ (hw _ (List.mem_of_getElem? (i := 11) rfl))) (mvT hZ (hw _ (List.mem_of_getElem? (i := 3) rfl))) (mvT hZ (hw _ (List.mem_of_getElem? (i := 12) rfl))) (by decide) (backOf (W := 1) (rm_rw_4 l Z av0 hw [] p2 h0 n0 (Nat.le_trans Z0 K0.1) (by assumption)) hZ (hw _ (List.mem_of_getElem? (i := 12) rfl)) (hw _ (List.mem_of_getElem? (i := 3) rfl)) (by decide) (by decide)) (g := (mkF m 6 #[rv a0, iv (1 : Int32), iv p2] [(.int p2), (.ref a0)])) rfl (by rw [hml]; rfl) (argsL := [(.int p2)]) (rest := [(.ref a0)]) (lenOf own_pd0 rfl) rfl (by show 2 * 0 + _ ≤ _; exact Nat.le_of_eq rfl) (hb hby own_d1_6) (fun _ _ => ⟨rfl, e1, (by decide : 0 + 0 ≤ _), (by decide : 0 + 0 ≤ _)⟩)
  dsimp only [Pt.U, Pt.locs, Pt.cells, Pt.slots] at X2 l2 y2 z2 st2 hQ2
  subst l2 y2 z2
  obtain ⟨rfl, N2q, e2⟩ := hQ2
  have N2 := Fr.app N0 N2q
  refine ownGo (T' := T2) (f' := (mkF m 9 #[rv a0, iv (1 : Int32), iv p2] [(.int (4 : Int32)), (.ref a0)])) (st2) ?_
  obtain ⟨T3, h3, X3, e3, W3, st3⟩ := putF X2 hx hZ hown (host := "") (Or.inl (hw _ (List.mem_of_getElem? (i := 13) rfl))) Via.refl e2 HF1 HF0 (Or.inr ⟨(hw _ (List.mem_of_getElem? (i := 14) rfl)), rfl, hnm⟩) (hw _ (List.mem_of_getElem? (i := 2) rfl)) (ty := .int) (by decide) rfl rfl (g := (mkF m 9 #[rv a0, iv (1 : Int32), iv p2] [(.int (4 : Int32)), (.ref a0)])) rfl rfl (hb hby own_d1_9)
  have N3 := Fr.snoc X3 N2 G_a0
  have K3 : Keep h0 h3 [a0] := K0.wr W3 (Or.inl (List.mem_of_getElem? (i := 0) rfl))
  have F4 : Exa Z h3 a0 "com/example/sieveline/sieveline/solver/BitMatrix" := HF0.wr W3
  have F5 : Fld Z h3 a0 "com/example/sieveline/sieveline/solver/BitMatrix" "rowWords" "I" (.int (4 : Int32)) := HF1.same W3
  have F6 : Fld Z h3 a0 "com/example/sieveline/sieveline/solver/BitMatrix" "words" "[J" .null := HF2.other W3 (Or.inr (slot_ne (Or.inr (hw _ (List.mem_of_getElem? (i := 24) rfl))) (Or.inr (hw _ (List.mem_of_getElem? (i := 14) rfl))) (by decide) (t := (.array .long)) (t' := .int) (by decide) (by decide)))
  have F7 : Fld Z h3 a0 "com/example/sieveline/sieveline/solver/BitMatrix" "rows" "I" (.int (0 : Int32)) := HF3.other W3 (Or.inr (slot_ne (Or.inr (hw _ (List.mem_of_getElem? (i := 26) rfl))) (Or.inr (hw _ (List.mem_of_getElem? (i := 14) rfl))) (by decide) (t := .int) (t' := .int) (by decide) (by decide)))
  have F8 : Fld Z h3 a0 "com/example/sieveline/sieveline/solver/BitMatrix" "columns" "I" (.int (0 : Int32)) := HF4.other W3 (Or.inr (slot_ne (Or.inr (hw _ (List.mem_of_getElem? (i := 28) rfl))) (Or.inr (hw _ (List.mem_of_getElem? (i := 14) rfl))) (by decide) (t := .int) (t' := .int) (by decide) (by decide)))
  refine ownGo (T' := T3) (f' := (mkF m 12 #[rv a0, iv (1 : Int32), iv p2] [])) (st3) ?_
  refine ow_aloadN (q := 13) X3 hx (hb hby own_d1_12) rfl rfl rfl ?_
  refine ow_iloadN (q := 14) X3 hx (hb hby own_d1_13) rfl rfl ?_
  refine ow_iloadN (q := 15) X3 hx (hb hby own_d1_14) rfl rfl ?_
  obtain ⟨_, _, ⟨T9, L9, k9, n9⟩, -, X9, ⟨Lc9, hQ9, l9, y9, z9⟩, st9⟩ := Jvm.LawKit.callS X3 hx (y := (⟨"com/example/sieveline/sieveline/solver/BitMatrix", "words", "(II)J"⟩ : MethodName)) hown (mvT hZ (hw _ (List.mem_of_getElem? (i := 15) rfl))) (mvT hZ (hw _ (List.mem_of_getElem? (i := 16) rfl))) (mvT hZ (hw _ (List.mem_of_getElem? (i := 3) rfl))) (mvT hZ (hw _ (List.mem_of_getElem? (i := 17) rfl))) (by decide) (backOf (W := 1) (rm_words_4 l Z av0 hw [] p2 h3 n0 (Nat.le_trans Z0 K3.1) (by assumption)) hZ (hw _ (List.mem_of_getElem? (i := 17) rfl)) (hw _ (List.mem_of_getElem? (i := 3) rfl)) (by decide) (by decide)) (g := (mkF m 15 #[rv a0, iv (1 : Int32), iv p2] [(.int p2), (.int (1 : Int32)), (.ref a0)])) rfl (by rw [hml]; rfl) (argsL := [(.int (1 : Int32)), (.int p2)]) (rest := [(.ref a0)]) (lenOf own_pd1 rfl) rfl (by show 2 * 0 + _ ≤ _; exact Nat.le_of_eq rfl) (hb hby own_d1_15) (fun _ _ => ⟨rfl, e3, (by decide : 0 + 0 ≤ _), (by decide : 0 + 0 ≤ _)⟩)
  dsimp only [Pt.U, Pt.locs, Pt.cells, Pt.slots] at X9 l9 y9 z9 st9 hQ9
  subst l9 y9 z9
  obtain ⟨rfl, N9q, e9⟩ := hQ9
  have N9 := Fr.app N3 N9q
  refine ownGo (T' := T9) (f' := (mkF m 18 #[rv a0, iv (1 : Int32), iv p2] [(.long (4 : Int64)), (.ref a0)])) (st9) ?_
  obtain ⟨_, _, ⟨T10, L10, k10, n10⟩, -, X10, ⟨Lc10, hQ10, l10, y10, z10⟩, st10⟩ := Jvm.LawKit.callS X9 hx (y := (⟨"java/lang/Math", "toIntExact", "(J)I"⟩ : MethodName)) hown (mvT hZ (hw _ (List.mem_of_getElem? (i := 18) rfl))) (mvT hZ (hw _ (List.mem_of_getElem? (i := 19) rfl))) (mvT hZ (hw _ (List.mem_of_getElem? (i := 20) rfl))) (mvT hZ (hw _ (List.mem_of_getElem? (i := 21) rfl))) (by decide) (backOf (W := 1) (rm_tie_4 l Z av0 hw []  h3 n0 (Nat.le_trans Z0 K3.1) ) hZ (hw _ (List.mem_of_getElem? (i := 21) rfl)) (hw _ (List.mem_of_getElem? (i := 20) rfl)) (by decide) (by decide)) (g := (mkF m 18 #[rv a0, iv (1 : Int32), iv p2] [(.long (4 : Int64)), (.ref a0)])) rfl (by rw [hml]; rfl) (argsL := [(.long (4 : Int64))]) (rest := [(.ref a0)]) (lenOf own_pd2 rfl) rfl (by show 2 * 0 + _ ≤ _; exact Nat.le_of_eq rfl) (hb hby own_d1_18) (fun _ _ => ⟨rfl, e9, (by decide : 0 + 0 ≤ _), (by decide : 0 + 0 ≤ _)⟩)
  dsimp only [Pt.U, Pt.locs, Pt.cells, Pt.slots] at X10 l10 y10 z10 st10 hQ10
  subst l10 y10 z10
  obtain ⟨rfl, N10q, e10⟩ := hQ10
  have N10 := Fr.app N9 N10q
  refine ownGo (T' := T10) (f' := (mkF m 21 #[rv a0, iv (1 : Int32), iv p2] [(.int (4 : Int32)), (.ref a0)])) (st10) ?_
  obtain ⟨T11, h11, k11, X11, e11, E11, A11, st11⟩ := newP X10 hx hZ (hw _ (List.mem_of_getElem? (i := 22) rfl)) e10 (g := (mkF m 21 #[rv a0, iv (1 : Int32), iv p2] [(.int (4 : Int32)), (.ref a0)])) rfl (hb hby own_d1_21) rfl (by decide) (cap := 4) (by decide) (by decide) (by decide) (by decide)
  obtain ⟨b11, g11⟩ : ∃ z, z = h3.size := ⟨_, rfl⟩
  rw [← g11] at A11 st11
  have ne_a0_b11 : a0 ≠ b11 := Nat.ne_of_lt (Nat.lt_of_lt_of_le F4.lt (Nat.le_of_eq g11.symm))
  have sz_b11 : h0.size ≤ b11 := Nat.le_trans K3.1 (Nat.le_of_eq g11.symm)
  have G_b11 : n0 ≤ b11 := Nat.le_trans Z0 sz_b11
  have K11 : Keep h0 h11 [a0] := K3.ext E11
  have F12 : Exa Z h11 a0 "com/example/sieveline/sieveline/solver/BitMatrix" := F4.ext E11
  have F13 : Fld Z h11 a0 "com/example/sieveline/sieveline/solver/BitMatrix" "rowWords" "I" (.int (4 : Int32)) := F5.ext E11
  have F14 : Fld Z h11 a0 "com/example/sieveline/sieveline/solver/BitMatrix" "words" "[J" .null := F6.ext E11
  have F15 : Fld Z h11 a0 "com/example/sieveline/sieveline/solver/BitMatrix" "rows" "I" (.int (0 : Int32)) := F7.ext E11
  have F16 : Fld Z h11 a0 "com/example/sieveline/sieveline/solver/BitMatrix" "columns" "I" (.int (0 : Int32)) := F8.ext E11
  have F17 : ownAJ Z h11 b11 4 (fun _ => (0 : Int64)) := ownAJ.new A11 (by decide) (by decide)
  refine ownGo (T' := T11) (f' := (mkF m 23 #[rv a0, iv (1 : Int32), iv p2] [(.ref b11), (.ref a0)])) (st11) ?_
  obtain ⟨T18, h18, X18, e18, W18, st18⟩ := putF X11 hx hZ hown (host := "") (Or.inl (hw _ (List.mem_of_getElem? (i := 23) rfl))) Via.refl e11 F14 F12 (Or.inr ⟨(hw _ (List.mem_of_getElem? (i := 24) rfl)), rfl, hnm⟩) (hw _ (List.mem_of_getElem? (i := 2) rfl)) (ty := (.array .long)) (by decide) rfl rfl (g := (mkF m 23 #[rv a0, iv (1 : Int32), iv p2] [(.ref b11), (.ref a0)])) rfl rfl (hb hby own_d1_23)
  have N18 := Fr.snoc X18 N10 G_a0
  have K18 : Keep h0 h18 [a0] := K11.wr W18 (Or.inl (List.mem_of_getElem? (i := 0) rfl))
  have F19 : Exa Z h18 a0 "com/example/sieveline/sieveline/solver/BitMatrix" := F12.wr W18
  have F20 : Fld Z h18 a0 "com/example/sieveline/sieveline/solver/BitMatrix" "rowWords" "I" (.int (4 : Int32)) := F13.other W18 (Or.inr (slot_ne (Or.inr (hw _ (List.mem_of_getElem? (i := 14) rfl))) (Or.inr (hw _ (List.mem_of_getElem? (i := 24) rfl))) (by decide) (t := .int) (t' := (.array .long)) (by decide) (by decide)))
  have F21 : Fld Z h18 a0 "com/example/sieveline/sieveline/solver/BitMatrix" "words" "[J" (.ref b11) := F14.same W18
  have F22 : Fld Z h18 a0 "com/example/sieveline/sieveline/solver/BitMatrix" "rows" "I" (.int (0 : Int32)) := F15.other W18 (Or.inr (slot_ne (Or.inr (hw _ (List.mem_of_getElem? (i := 26) rfl))) (Or.inr (hw _ (List.mem_of_getElem? (i := 24) rfl))) (by decide) (t := .int) (t' := (.array .long)) (by decide) (by decide)))
  have F23 : Fld Z h18 a0 "com/example/sieveline/sieveline/solver/BitMatrix" "columns" "I" (.int (0 : Int32)) := F16.other W18 (Or.inr (slot_ne (Or.inr (hw _ (List.mem_of_getElem? (i := 28) rfl))) (Or.inr (hw _ (List.mem_of_getElem? (i := 24) rfl))) (by decide) (t := .int) (t' := (.array .long)) (by decide) (by decide)))
  have F24 : ownAJ Z h18 b11 4 (fun _ => (0 : Int64)) := F17.other W18 (Ne.symm ne_a0_b11)
  refine ownGo (T' := T18) (f' := (mkF m 26 #[rv a0, iv (1 : Int32), iv p2] [])) (st18) ?_
  refine ow_aloadN (q := 27) X18 hx (hb hby own_d1_26) rfl rfl rfl ?_
  refine ow_iloadN (q := 28) X18 hx (hb hby own_d1_27) rfl rfl ?_
  obtain ⟨T25, h25, X25, e25, W25, st25⟩ := putF X18 hx hZ hown (host := "") (Or.inl (hw _ (List.mem_of_getElem? (i := 25) rfl))) Via.refl e18 F22 F19 (Or.inr ⟨(hw _ (List.mem_of_getElem? (i := 26) rfl)), rfl, hnm⟩) (hw _ (List.mem_of_getElem? (i := 2) rfl)) (ty := .int) (by decide) rfl rfl (g := (mkF m 28 #[rv a0, iv (1 : Int32), iv p2] [(.int (1 : Int32)), (.ref a0)])) rfl rfl (hb hby own_d1_28)
  have N25 := Fr.snoc X25 N18 G_a0
  have K25 : Keep h0 h25 [a0] := K18.wr W25 (Or.inl (List.mem_of_getElem? (i := 0) rfl))
  have F26 : Exa Z h25 a0 "com/example/sieveline/sieveline/solver/BitMatrix" := F19.wr W25
  have F27 : Fld Z h25 a0 "com/example/sieveline/sieveline/solver/BitMatrix" "rowWords" "I" (.int (4 : Int32)) := F20.other W25 (Or.inr (slot_ne (Or.inr (hw _ (List.mem_of_getElem? (i := 14) rfl))) (Or.inr (hw _ (List.mem_of_getElem? (i := 26) rfl))) (by decide) (t := .int) (t' := .int) (by decide) (by decide)))
  have F28 : Fld Z h25 a0 "com/example/sieveline/sieveline/solver/BitMatrix" "words" "[J" (.ref b11) := F21.other W25 (Or.inr (slot_ne (Or.inr (hw _ (List.mem_of_getElem? (i := 24) rfl))) (Or.inr (hw _ (List.mem_of_getElem? (i := 26) rfl))) (by decide) (t := (.array .long)) (t' := .int) (by decide) (by decide)))
  have F29 : Fld Z h25 a0 "com/example/sieveline/sieveline/solver/BitMatrix" "rows" "I" (.int (1 : Int32)) := F22.same W25
  have F30 : Fld Z h25 a0 "com/example/sieveline/sieveline/solver/BitMatrix" "columns" "I" (.int (0 : Int32)) := F23.other W25 (Or.inr (slot_ne (Or.inr (hw _ (List.mem_of_getElem? (i := 28) rfl))) (Or.inr (hw _ (List.mem_of_getElem? (i := 26) rfl))) (by decide) (t := .int) (t' := .int) (by decide) (by decide)))
  have F31 : ownAJ Z h25 b11 4 (fun _ => (0 : Int64)) := F24.other W25 (Ne.symm ne_a0_b11)
  refine ownGo (T' := T25) (f' := (mkF m 31 #[rv a0, iv (1 : Int32), iv p2] [])) (st25) ?_
  refine ow_aloadN (q := 32) X25 hx (hb hby own_d1_31) rfl rfl rfl ?_
  refine ow_iloadN (q := 33) X25 hx (hb hby own_d1_32) rfl rfl ?_
  obtain ⟨T32, h32, X32, e32, W32, st32⟩ := putF X25 hx hZ hown (host := "") (Or.inl (hw _ (List.mem_of_getElem? (i := 27) rfl))) Via.refl e25 F30 F26 (Or.inr ⟨(hw _ (List.mem_of_getElem? (i := 28) rfl)), rfl, hnm⟩) (hw _ (List.mem_of_getElem? (i := 2) rfl)) (ty := .int) (by decide) rfl rfl (g := (mkF m 33 #[rv a0, iv (1 : Int32), iv p2] [(.int p2), (.ref a0)])) rfl rfl (hb hby own_d1_33)
  have N32 := Fr.snoc X32 N25 G_a0
  have K32 : Keep h0 h32 [a0] := K25.wr W32 (Or.inl (List.mem_of_getElem? (i := 0) rfl))
  have F33 : Exa Z h32 a0 "com/example/sieveline/sieveline/solver/BitMatrix" := F26.wr W32
  have F34 : Fld Z h32 a0 "com/example/sieveline/sieveline/solver/BitMatrix" "rowWords" "I" (.int (4 : Int32)) := F27.other W32 (Or.inr (slot_ne (Or.inr (hw _ (List.mem_of_getElem? (i := 14) rfl))) (Or.inr (hw _ (List.mem_of_getElem? (i := 28) rfl))) (by decide) (t := .int) (t' := .int) (by decide) (by decide)))
  have F35 : Fld Z h32 a0 "com/example/sieveline/sieveline/solver/BitMatrix" "words" "[J" (.ref b11) := F28.other W32 (Or.inr (slot_ne (Or.inr (hw _ (List.mem_of_getElem? (i := 24) rfl))) (Or.inr (hw _ (List.mem_of_getElem? (i := 28) rfl))) (by decide) (t := (.array .long)) (t' := .int) (by decide) (by decide)))
  have F36 : Fld Z h32 a0 "com/example/sieveline/sieveline/solver/BitMatrix" "rows" "I" (.int (1 : Int32)) := F29.other W32 (Or.inr (slot_ne (Or.inr (hw _ (List.mem_of_getElem? (i := 26) rfl))) (Or.inr (hw _ (List.mem_of_getElem? (i := 28) rfl))) (by decide) (t := .int) (t' := .int) (by decide) (by decide)))
  have F37 : Fld Z h32 a0 "com/example/sieveline/sieveline/solver/BitMatrix" "columns" "I" (.int p2) := F30.same W32
  have F38 : ownAJ Z h32 b11 4 (fun _ => (0 : Int64)) := F31.other W32 (Ne.symm ne_a0_b11)
  refine ownGo (T' := T32) (f' := (mkF m 36 #[rv a0, iv (1 : Int32), iv p2] [])) (st32) ?_
  refine ownRetV X32 hx Bd.returns (hb hby own_d1_36) hlk (by decide) (by decide) ?_
  rw [e32]
  exact ⟨rfl, N32, K32, F33, F34⟩
theorem own_d6_0 : decode prog_49_method_6_code 0 = .ok (.aload_n 0, 1) := by decide +kernel
theorem own_d6_1 : decode prog_49_method_6_code 1 = .ok (.getfield 13, 3) := by decide +kernel
theorem own_d6_4 : decode prog_49_method_6_code 4 = .ok (.newarray .long, 2) := by decide +kernel
theorem own_d6_6 : decode prog_49_method_6_code 6 = .ok (.astore_n 2, 1) := by decide +kernel
theorem own_d6_7 : decode prog_49_method_6_code 7 = .ok (.aload_n 1, 1) := by decide +kernel
theorem own_d6_8 : decode prog_49_method_6_code 8 = .ok (.astore_n 3, 1) := by decide +kernel
theorem own_d6_9 : decode prog_49_method_6_code 9 = .ok (.aload_n 3, 1) := by decide +kernel
theorem own_d6_10 : decode prog_49_method_6_code 10 = .ok (.arraylength, 1) := by decide +kernel
theorem own_d6_11 : decode prog_49_method_6_code 11 = .ok (.istore 4, 2) := by decide +kernel
theorem own_d6_13 : decode prog_49_method_6_code 13 = .ok (.iconst 0, 1) := by decide +kernel
theorem own_d6_14 : decode prog_49_method_6_code 14 = .ok (.istore 5, 2) := by decide +kernel
theorem own_d6_16 : decode prog_49_method_6_code 16 = .ok (.iload 5, 2) := by decide +kernel
theorem own_d6_18 : decode prog_49_method_6_code 18 = .ok (.iload 4, 2) := by decide +kernel
theorem own_d6_20 : decode prog_49_method_6_code 20 = .ok (.if_icmp .ge 29, 3) := by decide +kernel
theorem own_d6_49 : decode prog_49_method_6_code 49 = .ok (.aload_n 2, 1) := by decide +kernel
theorem own_d6_50 : decode prog_49_method_6_code 50 = .ok (.areturn, 1) := by decide +kernel
theorem own_ef6_row_0_0 (m : MethodId) (a0 : Addr) (a1 : Addr) : entryFrame m #[(.ref a0), (.ref a1)] 7 = mkF m 0 #[rv a0, rv a1, .unset, .unset, .unset, .unset, .unset] [] := by first | (simp [entryFrame, mkF, argsToLocals, Value.category]; done) | rfl
def Q_row_0_0 (Z : State) (a0 : Addr) (a1 : Addr) (gi : Nat → Int32) (h0 : Heap) (n0 : Nat) (v : Option Value) (h : Heap) (L : List Loc) : Prop := ∃ (r : Addr), v = some (.ref r) ∧ Fr n0 L ∧ Keep h0 h [] ∧ h0.size ≤ r ∧ ownAJ Z h r 0 (fun _ => (0 : Int64))
set_option maxRecDepth 65536 in
set_option maxHeartbeats 40000000 in
theorem rm_row_0_0 (l : Launch) (Z : State) (av0 : Array Value) (hw : ∀ d ∈ tables_1, d.before av0 Z = true) (ws : List Jvm.Cond) (a0 : Addr) (a1 : Addr) (gi : Nat → Int32) (h0 : Heap) (n0 : Nat) (Z0 : n0 ≤ h0.size) (HF0 : Fld Z h0 a0 "com/example/sieveline/sieveline/solver/BitMatrix" "rowWords" "I" (.int (0 : Int32))) (HF1 : ownAI Z h0 a1 .int 0 gi) :
    MetFree l (⟨"com/example/sieveline/sieveline/solver/BitMatrix", "row", "([I)[J"⟩ : MethodName) (head1 (Jvm.Cond.code (⟨"com/example/sieveline/sieveline/solver/BitMatrix", "row", "([I)[J"⟩ : MethodName) prog_49_method_6_code 7 (some (.array .long)) :: ws) ({ frames := 0, cells := 1, slots := 0, locals := 0 } : Room)) (fun a U => a = #[(.ref a0), (.ref a1)] ∧ Z.Warmed39 U.vm ∧ U.heap = h0) (fun _ _ _ _ _ => True) (fun _ U o U' => ∃ v L, o = .returned v ∧ (Q_row_0_0 Z a0 a1 gi h0 n0) v U'.heap L ∧ FrameEnd U o U' L ({ frames := 0, cells := 1, slots := 0, locals := 0 } : Room).cells ({ frames := 0, cells := 1, slots := 0, locals := 0 } : Room).slots) := by
  refine MetFree.of_bodySF (plainFor_of_name own_pn_BitMatrix) hisR ?_
  intro p e s m args below meth c s₁ Bd hml0 hP hK
  obtain ⟨rfl, hZ, hh⟩ := hP
  have hx := Bd.exec
  have hby := Bd.bytes
  have hml : c.maxLocals = 7 := hml0
  have hown : s.vm.findClass "com/example/sieveline/sieveline/solver/BitMatrix" = some m.cls := findClass_of_methodNamed Bd.named
  have hnm := (name_of_methodNamed Bd.named Bd.method).1
  have hlk : meth.locks = false := BodyLoose.notSynchronized Bd
  have X0 : Stand p l e ({ frames := 0, cells := 1, slots := 0, locals := 0 } : Room) s m #[(.ref a0), (.ref a1)] below meth c s₁ [] 0 0 := Stand.of_body Bd
  have e0 : s₁.heap = h0 := by rw [← hh, Bd.state]; rfl
  have N0 := Fr.nil n0
  have K0 : Keep h0 h0 [] := Keep.refl _ _
  show ownEnds p e below s (Q_row_0_0 Z a0 a1 gi h0 n0) ({ frames := 0, cells := 1, slots := 0, locals := 0 } : Room).cells ({ frames := 0, cells := 1, slots := 0, locals := 0 } : Room).slots s₁ (entryFrame m #[(.ref a0), (.ref a1)] 7)
  refine ownCast (own_ef6_row_0_0 m a0 a1) ?_
  refine ow_aloadN (q := 1) X0 hx (hb hby own_d6_0) rfl rfl rfl ?_
  obtain ⟨T1, X1, e1, st1⟩ := getF X0 hx hZ hown (host := "") (Or.inl (hw _ (List.mem_of_getElem? (i := 13) rfl))) Via.refl e0 HF0 (g := (mkF m 1 #[rv a0, rv a1, .unset, .unset, .unset, .unset, .unset] [(.ref a0)])) rfl rfl (hb hby own_d6_1)
  refine ownGo (T' := T1) (f' := (mkF m 4 #[rv a0, rv a1, .unset, .unset, .unset, .unset, .unset] [(.int (0 : Int32))])) (st1) ?_
  obtain ⟨T2, h2, k2, X2, e2, E2, A2, st2⟩ := newP X1 hx hZ (hw _ (List.mem_of_getElem? (i := 22) rfl)) e1 (g := (mkF m 4 #[rv a0, rv a1, .unset, .unset, .unset, .unset, .unset] [(.int (0 : Int32))])) rfl (hb hby own_d6_4) rfl (by decide) (cap := 0) (by decide) (by decide) (by decide) (by decide)
  obtain ⟨b2, g2⟩ : ∃ z, z = h0.size := ⟨_, rfl⟩
  rw [← g2] at A2 st2
  have ne_a0_b2 : a0 ≠ b2 := Nat.ne_of_lt (Nat.lt_of_lt_of_le HF0.lt (Nat.le_of_eq g2.symm))
  have ne_a1_b2 : a1 ≠ b2 := Nat.ne_of_lt (Nat.lt_of_lt_of_le HF1.lt (Nat.le_of_eq g2.symm))
  have sz_b2 : h0.size ≤ b2 := Nat.le_trans K0.1 (Nat.le_of_eq g2.symm)
  have G_b2 : n0 ≤ b2 := Nat.le_trans Z0 sz_b2
  have K2 : Keep h0 h2 [] := K0.ext E2
  have F3 : Fld Z h2 a0 "com/example/sieveline/sieveline/solver/BitMatrix" "rowWords" "I" (.int (0 : Int32)) := HF0.ext E2
  have F4 : ownAI Z h2 a1 .int 0 gi := HF1.ext E2
  have F5 : ownAJ Z h2 b2 0 (fun _ => (0 : Int64)) := ownAJ.new A2 (by decide) (by decide)
  refine ownGo (T' := T2) (f' := (mkF m 6 #[rv a0, rv a1, .unset, .unset, .unset, .unset, .unset] [(.ref b2)])) (st2) ?_
  refine ow_astoreN (q := 7) X2 hx (L' := #[rv a0, rv a1, rv b2, .unset, .unset, .unset, .unset]) (hb hby own_d6_6) rfl rfl rfl ?_
  refine ow_aloadN (q := 8) X2 hx (hb hby own_d6_7) rfl rfl rfl ?_
  refine ow_astoreN (q := 9) X2 hx (L' := #[rv a0, rv a1, rv b2, rv a1, .unset, .unset, .unset]) (hb hby own_d6_8) rfl rfl rfl ?_
  refine ow_aloadN (q := 10) X2 hx (hb hby own_d6_9) rfl rfl rfl ?_
  refine ownGo (T' := T2) (f' := (mkF m 11 #[rv a0, rv a1, rv b2, rv a1, .unset, .unset, .unset] [(.int (0 : Int32))])) (ownLenI F4 X2 hx hZ e2 (z := (0 : Int32)) (by decide) (g := (mkF m 10 #[rv a0, rv a1, rv b2, rv a1, .unset, .unset, .unset] [(.ref a1)])) rfl rfl (hb hby own_d6_10)) ?_
  refine ow_istore (q := 13) X2 hx (L' := #[rv a0, rv a1, rv b2, rv a1, iv (0 : Int32), .unset, .unset]) (hb hby own_d6_11) rfl rfl ?_
  refine ow_iconst (q := 14) X2 hx (0 : Int32) (hb hby own_d6_13) rfl rfl ?_
  refine ow_istore (q := 16) X2 hx (L' := #[rv a0, rv a1, rv b2, rv a1, iv (0 : Int32), iv (0 : Int32), .unset]) (hb hby own_d6_14) rfl rfl ?_
  refine ow_iload (q := 18) X2 hx (hb hby own_d6_16) rfl rfl ?_
  refine ow_iload (q := 20) X2 hx (hb hby own_d6_18) rfl rfl ?_
  refine ow_icmpYes (q := 49) X2 hx (hb hby own_d6_20) (Jvm.Free.XT.ii_ge_t (by decide)) (by decide) (by decide) ?_
  refine ow_aloadN (q := 50) X2 hx (hb hby own_d6_49) rfl rfl rfl ?_
  refine ownRetR X2 hx rfl rfl rfl Bd.returns (hb hby own_d6_50) hlk (by decide) (by decide) ?_
  rw [e2]
  exact ⟨b2, rfl, N0, K2, sz_b2, F5⟩
theorem own_ef6_row_0_1 (m : MethodId) (a0 : Addr) (a1 : Addr) : entryFrame m #[(.ref a0), (.ref a1)] 7 = mkF m 0 #[rv a0, rv a1, .unset, .unset, .unset, .unset, .unset] [] := by first | (simp [entryFrame, mkF, argsToLocals, Value.category]; done) | rfl
def Q_row_0_1 (Z : State) (a0 : Addr) (a1 : Addr) (gi : Nat → Int32) (h0 : Heap) (n0 : Nat) (v : Option Value) (h : Heap) (L : List Loc) : Prop := ∃ (r : Addr), v = some (.ref r) ∧ Fr n0 L ∧ Keep h0 h [] ∧ h0.size ≤ r ∧ ownAJ Z h r 1 (fun _ => (0 : Int64))
set_option maxRecDepth 65536 in
set_option maxHeartbeats 40000000 in
theorem rm_row_0_1 (l : Launch) (Z : State) (av0 : Array Value) (hw : ∀ d ∈ tables_1, d.before av0 Z = true) (ws : List Jvm.Cond) (a0 : Addr) (a1 : Addr) (gi : Nat → Int32) (h0 : Heap) (n0 : Nat) (Z0 : n0 ≤ h0.size) (HF0 : Fld Z h0 a0 "com/example/sieveline/sieveline/solver/BitMatrix" "rowWords" "I" (.int (1 : Int32))) (HF1 : ownAI Z h0 a1 .int 0 gi) :
    MetFree l (⟨"com/example/sieveline/sieveline/solver/BitMatrix", "row", "([I)[J"⟩ : MethodName) (head1 (Jvm.Cond.code (⟨"com/example/sieveline/sieveline/solver/BitMatrix", "row", "([I)[J"⟩ : MethodName) prog_49_method_6_code 7 (some (.array .long)) :: ws) ({ frames := 0, cells := 1, slots := 1, locals := 0 } : Room)) (fun a U => a = #[(.ref a0), (.ref a1)] ∧ Z.Warmed39 U.vm ∧ U.heap = h0) (fun _ _ _ _ _ => True) (fun _ U o U' => ∃ v L, o = .returned v ∧ (Q_row_0_1 Z a0 a1 gi h0 n0) v U'.heap L ∧ FrameEnd U o U' L ({ frames := 0, cells := 1, slots := 1, locals := 0 } : Room).cells ({ frames := 0, cells := 1, slots := 1, locals := 0 } : Room).slots) := by
  refine MetFree.of_bodySF (plainFor_of_name own_pn_BitMatrix) hisR ?_
  intro p e s m args below meth c s₁ Bd hml0 hP hK
  obtain ⟨rfl, hZ, hh⟩ := hP
  have hx := Bd.exec
  have hby := Bd.bytes
  have hml : c.maxLocals = 7 := hml0
  have hown : s.vm.findClass "com/example/sieveline/sieveline/solver/BitMatrix" = some m.cls := findClass_of_methodNamed Bd.named
  have hnm := (name_of_methodNamed Bd.named Bd.method).1
  have hlk : meth.locks = false := BodyLoose.notSynchronized Bd
  have X0 : Stand p l e ({ frames := 0, cells := 1, slots := 1, locals := 0 } : Room) s m #[(.ref a0), (.ref a1)] below meth c s₁ [] 0 0 := Stand.of_body Bd
  have e0 : s₁.heap = h0 := by rw [← hh, Bd.state]; rfl
  have N0 := Fr.nil n0
  have K0 : Keep h0 h0 [] := Keep.refl _ _
  show ownEnds p e below s (Q_row_0_1 Z a0 a1 gi h0 n0) ({ frames := 0, cells := 1, slots := 1, locals := 0 } : Room).cells ({ frames := 0, cells := 1, slots := 1, locals := 0 } : Room).slots s₁ (entryFrame m #[(.ref a0), (.ref a1)] 7)
  refine ownCast (own_ef6_row_0_1 m a0 a1) ?_
  refine ow_aloadN (q := 1) X0 hx (hb hby own_d6_0) rfl rfl rfl ?_
  obtain ⟨T1, X1, e1, st1⟩ := getF X0 hx hZ hown (host := "") (Or.inl (hw _ (List.mem_of_getElem? (i := 13) rfl))) Via.refl e0 HF0 (g := (mkF m 1 #[rv a0, rv a1, .unset, .unset, .unset, .unset, .unset] [(.ref a0)])) rfl rfl (hb hby own_d6_1)
  refine ownGo (T' := T1) (f' := (mkF m 4 #[rv a0, rv a1, .unset, .unset, .unset, .unset, .unset] [(.int (1 : Int32))])) (st1) ?_
  obtain ⟨T2, h2, k2, X2, e2, E2, A2, st2⟩ := newP X1 hx hZ (hw _ (List.mem_of_getElem? (i := 22) rfl)) e1 (g := (mkF m 4 #[rv a0, rv a1, .unset, .unset, .unset, .unset, .unset] [(.int (1 : Int32))])) rfl (hb hby own_d6_4) rfl (by decide) (cap := 1) (by decide) (by decide) (by decide) (by decide)
  obtain ⟨b2, g2⟩ : ∃ z, z = h0.size := ⟨_, rfl⟩
  rw [← g2] at A2 st2
  have ne_a0_b2 : a0 ≠ b2 := Nat.ne_of_lt (Nat.lt_of_lt_of_le HF0.lt (Nat.le_of_eq g2.symm))
  have ne_a1_b2 : a1 ≠ b2 := Nat.ne_of_lt (Nat.lt_of_lt_of_le HF1.lt (Nat.le_of_eq g2.symm))
  have sz_b2 : h0.size ≤ b2 := Nat.le_trans K0.1 (Nat.le_of_eq g2.symm)
  have G_b2 : n0 ≤ b2 := Nat.le_trans Z0 sz_b2
  have K2 : Keep h0 h2 [] := K0.ext E2
  have F3 : Fld Z h2 a0 "com/example/sieveline/sieveline/solver/BitMatrix" "rowWords" "I" (.int (1 : Int32)) := HF0.ext E2
  have F4 : ownAI Z h2 a1 .int 0 gi := HF1.ext E2
  have F5 : ownAJ Z h2 b2 1 (fun _ => (0 : Int64)) := ownAJ.new A2 (by decide) (by decide)
  refine ownGo (T' := T2) (f' := (mkF m 6 #[rv a0, rv a1, .unset, .unset, .unset, .unset, .unset] [(.ref b2)])) (st2) ?_
  refine ow_astoreN (q := 7) X2 hx (L' := #[rv a0, rv a1, rv b2, .unset, .unset, .unset, .unset]) (hb hby own_d6_6) rfl rfl rfl ?_
  refine ow_aloadN (q := 8) X2 hx (hb hby own_d6_7) rfl rfl rfl ?_
  refine ow_astoreN (q := 9) X2 hx (L' := #[rv a0, rv a1, rv b2, rv a1, .unset, .unset, .unset]) (hb hby own_d6_8) rfl rfl rfl ?_
  refine ow_aloadN (q := 10) X2 hx (hb hby own_d6_9) rfl rfl rfl ?_
  refine ownGo (T' := T2) (f' := (mkF m 11 #[rv a0, rv a1, rv b2, rv a1, .unset, .unset, .unset] [(.int (0 : Int32))])) (ownLenI F4 X2 hx hZ e2 (z := (0 : Int32)) (by decide) (g := (mkF m 10 #[rv a0, rv a1, rv b2, rv a1, .unset, .unset, .unset] [(.ref a1)])) rfl rfl (hb hby own_d6_10)) ?_
  refine ow_istore (q := 13) X2 hx (L' := #[rv a0, rv a1, rv b2, rv a1, iv (0 : Int32), .unset, .unset]) (hb hby own_d6_11) rfl rfl ?_
  refine ow_iconst (q := 14) X2 hx (0 : Int32) (hb hby own_d6_13) rfl rfl ?_
  refine ow_istore (q := 16) X2 hx (L' := #[rv a0, rv a1, rv b2, rv a1, iv (0 : Int32), iv (0 : Int32), .unset]) (hb hby own_d6_14) rfl rfl ?_
  refine ow_iload (q := 18) X2 hx (hb hby own_d6_16) rfl rfl ?_
  refine ow_iload (q := 20) X2 hx (hb hby own_d6_18) rfl rfl ?_
  refine ow_icmpYes (q := 49) X2 hx (hb hby own_d6_20) (Jvm.Free.XT.ii_ge_t (by decide)) (by decide) (by decide) ?_
  refine ow_aloadN (q := 50) X2 hx (hb hby own_d6_49) rfl rfl rfl ?_
  refine ownRetR X2 hx rfl rfl rfl Bd.returns (hb hby own_d6_50) hlk (by decide) (by decide) ?_
  rw [e2]
  exact ⟨b2, rfl, N0, K2, sz_b2, F5⟩
theorem own_ef6_row_0_2 (m : MethodId) (a0 : Addr) (a1 : Addr) : entryFrame m #[(.ref a0), (.ref a1)] 7 = mkF m 0 #[rv a0, rv a1, .unset, .unset, .unset, .unset, .unset] [] := by first | (simp [entryFrame, mkF, argsToLocals, Value.category]; done) | rfl
def Q_row_0_2 (Z : State) (a0 : Addr) (a1 : Addr) (gi : Nat → Int32) (h0 : Heap) (n0 : Nat) (v : Option Value) (h : Heap) (L : List Loc) : Prop := ∃ (r : Addr), v = some (.ref r) ∧ Fr n0 L ∧ Keep h0 h [] ∧ h0.size ≤ r ∧ ownAJ Z h r 2 (fun _ => (0 : Int64))
set_option maxRecDepth 65536 in
set_option maxHeartbeats 40000000 in
theorem rm_row_0_2 (l : Launch) (Z : State) (av0 : Array Value) (hw : ∀ d ∈ tables_1, d.before av0 Z = true) (ws : List Jvm.Cond) (a0 : Addr) (a1 : Addr) (gi : Nat → Int32) (h0 : Heap) (n0 : Nat) (Z0 : n0 ≤ h0.size) (HF0 : Fld Z h0 a0 "com/example/sieveline/sieveline/solver/BitMatrix" "rowWords" "I" (.int (2 : Int32))) (HF1 : ownAI Z h0 a1 .int 0 gi) :
    MetFree l (⟨"com/example/sieveline/sieveline/solver/BitMatrix", "row", "([I)[J"⟩ : MethodName) (head1 (Jvm.Cond.code (⟨"com/example/sieveline/sieveline/solver/BitMatrix", "row", "([I)[J"⟩ : MethodName) prog_49_method_6_code 7 (some (.array .long)) :: ws) ({ frames := 0, cells := 1, slots := 2, locals := 0 } : Room)) (fun a U => a = #[(.ref a0), (.ref a1)] ∧ Z.Warmed39 U.vm ∧ U.heap = h0) (fun _ _ _ _ _ => True) (fun _ U o U' => ∃ v L, o = .returned v ∧ (Q_row_0_2 Z a0 a1 gi h0 n0) v U'.heap L ∧ FrameEnd U o U' L ({ frames := 0, cells := 1, slots := 2, locals := 0 } : Room).cells ({ frames := 0, cells := 1, slots := 2, locals := 0 } : Room).slots) := by
  refine MetFree.of_bodySF (plainFor_of_name own_pn_BitMatrix) hisR ?_
  intro p e s m args below meth c s₁ Bd hml0 hP hK
  obtain ⟨rfl, hZ, hh⟩ := hP
  have hx := Bd.exec
  have hby := Bd.bytes
  have hml : c.maxLocals = 7 := hml0
  have hown : s.vm.findClass "com/example/sieveline/sieveline/solver/BitMatrix" = some m.cls := findClass_of_methodNamed Bd.named
  have hnm := (name_of_methodNamed Bd.named Bd.method).1
  have hlk : meth.locks = false := BodyLoose.notSynchronized Bd
  have X0 : Stand p l e ({ frames := 0, cells := 1, slots := 2, locals := 0 } : Room) s m #[(.ref a0), (.ref a1)] below meth c s₁ [] 0 0 := Stand.of_body Bd
  have e0 : s₁.heap = h0 := by rw [← hh, Bd.state]; rfl
  have N0 := Fr.nil n0
  have K0 : Keep h0 h0 [] := Keep.refl _ _
  show ownEnds p e below s (Q_row_0_2 Z a0 a1 gi h0 n0) ({ frames := 0, cells := 1, slots := 2, locals := 0 } : Room).cells ({ frames := 0, cells := 1, slots := 2, locals := 0 } : Room).slots s₁ (entryFrame m #[(.ref a0), (.ref a1)] 7)
  refine ownCast (own_ef6_row_0_2 m a0 a1) ?_
  refine ow_aloadN (q := 1) X0 hx (hb hby own_d6_0) rfl rfl rfl ?_
  obtain ⟨T1, X1, e1, st1⟩ := getF X0 hx hZ hown (host := "") (Or.inl (hw _ (List.mem_of_getElem? (i := 13) rfl))) Via.refl e0 HF0 (g := (mkF m 1 #[rv a0, rv a1, .unset, .unset, .unset, .unset, .unset] [(.ref a0)])) rfl rfl (hb hby own_d6_1)
  refine ownGo (T' := T1) (f' := (mkF m 4 #[rv a0, rv a1, .unset, .unset, .unset, .unset, .unset] [(.int (2 : Int32))])) (st1) ?_
  obtain ⟨T2, h2, k2, X2, e2, E2, A2, st2⟩ := newP X1 hx hZ (hw _ (List.mem_of_getElem? (i := 22) rfl)) e1 (g := (mkF m 4 #[rv a0, rv a1, .unset, .unset, .unset, .unset, .unset] [(.int (2 : Int32))])) rfl (hb hby own_d6_4) rfl (by decide) (cap := 2) (by decide) (by decide) (by decide) (by decide)
  obtain ⟨b2, g2⟩ : ∃ z, z = h0.size := ⟨_, rfl⟩
  rw [← g2] at A2 st2
  have ne_a0_b2 : a0 ≠ b2 := Nat.ne_of_lt (Nat.lt_of_lt_of_le HF0.lt (Nat.le_of_eq g2.symm))
  have ne_a1_b2 : a1 ≠ b2 := Nat.ne_of_lt (Nat.lt_of_lt_of_le HF1.lt (Nat.le_of_eq g2.symm))
  have sz_b2 : h0.size ≤ b2 := Nat.le_trans K0.1 (Nat.le_of_eq g2.symm)
  have G_b2 : n0 ≤ b2 := Nat.le_trans Z0 sz_b2
  have K2 : Keep h0 h2 [] := K0.ext E2
  have F3 : Fld Z h2 a0 "com/example/sieveline/sieveline/solver/BitMatrix" "rowWords" "I" (.int (2 : Int32)) := HF0.ext E2
  have F4 : ownAI Z h2 a1 .int 0 gi := HF1.ext E2
  have F5 : ownAJ Z h2 b2 2 (fun _ => (0 : Int64)) := ownAJ.new A2 (by decide) (by decide)
  refine ownGo (T' := T2) (f' := (mkF m 6 #[rv a0, rv a1, .unset, .unset, .unset, .unset, .unset] [(.ref b2)])) (st2) ?_
  refine ow_astoreN (q := 7) X2 hx (L' := #[rv a0, rv a1, rv b2, .unset, .unset, .unset, .unset]) (hb hby own_d6_6) rfl rfl rfl ?_
  refine ow_aloadN (q := 8) X2 hx (hb hby own_d6_7) rfl rfl rfl ?_
  refine ow_astoreN (q := 9) X2 hx (L' := #[rv a0, rv a1, rv b2, rv a1, .unset, .unset, .unset]) (hb hby own_d6_8) rfl rfl rfl ?_
  refine ow_aloadN (q := 10) X2 hx (hb hby own_d6_9) rfl rfl rfl ?_
  refine ownGo (T' := T2) (f' := (mkF m 11 #[rv a0, rv a1, rv b2, rv a1, .unset, .unset, .unset] [(.int (0 : Int32))])) (ownLenI F4 X2 hx hZ e2 (z := (0 : Int32)) (by decide) (g := (mkF m 10 #[rv a0, rv a1, rv b2, rv a1, .unset, .unset, .unset] [(.ref a1)])) rfl rfl (hb hby own_d6_10)) ?_
  refine ow_istore (q := 13) X2 hx (L' := #[rv a0, rv a1, rv b2, rv a1, iv (0 : Int32), .unset, .unset]) (hb hby own_d6_11) rfl rfl ?_
  refine ow_iconst (q := 14) X2 hx (0 : Int32) (hb hby own_d6_13) rfl rfl ?_
  refine ow_istore (q := 16) X2 hx (L' := #[rv a0, rv a1, rv b2, rv a1, iv (0 : Int32), iv (0 : Int32), .unset]) (hb hby own_d6_14) rfl rfl ?_
  refine ow_iload (q := 18) X2 hx (hb hby own_d6_16) rfl rfl ?_
  refine ow_iload (q := 20) X2 hx (hb hby own_d6_18) rfl rfl ?_
  refine ow_icmpYes (q := 49) X2 hx (hb hby own_d6_20) (Jvm.Free.XT.ii_ge_t (by decide)) (by decide) (by decide) ?_
  refine ow_aloadN (q := 50) X2 hx (hb hby own_d6_49) rfl rfl rfl ?_
  refine ownRetR X2 hx rfl rfl rfl Bd.returns (hb hby own_d6_50) hlk (by decide) (by decide) ?_
  rw [e2]
  exact ⟨b2, rfl, N0, K2, sz_b2, F5⟩
theorem own_ef6_row_0_3 (m : MethodId) (a0 : Addr) (a1 : Addr) : entryFrame m #[(.ref a0), (.ref a1)] 7 = mkF m 0 #[rv a0, rv a1, .unset, .unset, .unset, .unset, .unset] [] := by first | (simp [entryFrame, mkF, argsToLocals, Value.category]; done) | rfl
def Q_row_0_3 (Z : State) (a0 : Addr) (a1 : Addr) (gi : Nat → Int32) (h0 : Heap) (n0 : Nat) (v : Option Value) (h : Heap) (L : List Loc) : Prop := ∃ (r : Addr), v = some (.ref r) ∧ Fr n0 L ∧ Keep h0 h [] ∧ h0.size ≤ r ∧ ownAJ Z h r 3 (fun _ => (0 : Int64))
set_option maxRecDepth 65536 in
set_option maxHeartbeats 40000000 in
theorem rm_row_0_3 (l : Launch) (Z : State) (av0 : Array Value) (hw : ∀ d ∈ tables_1, d.before av0 Z = true) (ws : List Jvm.Cond) (a0 : Addr) (a1 : Addr) (gi : Nat → Int32) (h0 : Heap) (n0 : Nat) (Z0 : n0 ≤ h0.size) (HF0 : Fld Z h0 a0 "com/example/sieveline/sieveline/solver/BitMatrix" "rowWords" "I" (.int (3 : Int32))) (HF1 : ownAI Z h0 a1 .int 0 gi) :
    MetFree l (⟨"com/example/sieveline/sieveline/solver/BitMatrix", "row", "([I)[J"⟩ : MethodName) (head1 (Jvm.Cond.code (⟨"com/example/sieveline/sieveline/solver/BitMatrix", "row", "([I)[J"⟩ : MethodName) prog_49_method_6_code 7 (some (.array .long)) :: ws) ({ frames := 0, cells := 1, slots := 3, locals := 0 } : Room)) (fun a U => a = #[(.ref a0), (.ref a1)] ∧ Z.Warmed39 U.vm ∧ U.heap = h0) (fun _ _ _ _ _ => True) (fun _ U o U' => ∃ v L, o = .returned v ∧ (Q_row_0_3 Z a0 a1 gi h0 n0) v U'.heap L ∧ FrameEnd U o U' L ({ frames := 0, cells := 1, slots := 3, locals := 0 } : Room).cells ({ frames := 0, cells := 1, slots := 3, locals := 0 } : Room).slots) := by
  refine MetFree.of_bodySF (plainFor_of_name own_pn_BitMatrix) hisR ?_
  intro p e s m args below meth c s₁ Bd hml0 hP hK
  obtain ⟨rfl, hZ, hh⟩ := hP
  have hx := Bd.exec
  have hby := Bd.bytes
  have hml : c.maxLocals = 7 := hml0
  have hown : s.vm.findClass "com/example/sieveline/sieveline/solver/BitMatrix" = some m.cls := findClass_of_methodNamed Bd.named
  have hnm := (name_of_methodNamed Bd.named Bd.method).1
  have hlk : meth.locks = false := BodyLoose.notSynchronized Bd
  have X0 : Stand p l e ({ frames := 0, cells := 1, slots := 3, locals := 0 } : Room) s m #[(.ref a0), (.ref a1)] below meth c s₁ [] 0 0 := Stand.of_body Bd
  have e0 : s₁.heap = h0 := by rw [← hh, Bd.state]; rfl
  have N0 := Fr.nil n0
  have K0 : Keep h0 h0 [] := Keep.refl _ _
  show ownEnds p e below s (Q_row_0_3 Z a0 a1 gi h0 n0) ({ frames := 0, cells := 1, slots := 3, locals := 0 } : Room).cells ({ frames := 0, cells := 1, slots := 3, locals := 0 } : Room).slots s₁ (entryFrame m #[(.ref a0), (.ref a1)] 7)
  refine ownCast (own_ef6_row_0_3 m a0 a1) ?_
  refine ow_aloadN (q := 1) X0 hx (hb hby own_d6_0) rfl rfl rfl ?_
  obtain ⟨T1, X1, e1, st1⟩ := getF X0 hx hZ hown (host := "") (Or.inl (hw _ (List.mem_of_getElem? (i := 13) rfl))) Via.refl e0 HF0 (g := (mkF m 1 #[rv a0, rv a1, .unset, .unset, .unset, .unset, .unset] [(.ref a0)])) rfl rfl (hb hby own_d6_1)
  refine ownGo (T' := T1) (f' := (mkF m 4 #[rv a0, rv a1, .unset, .unset, .unset, .unset, .unset] [(.int (3 : Int32))])) (st1) ?_
  obtain ⟨T2, h2, k2, X2, e2, E2, A2, st2⟩ := newP X1 hx hZ (hw _ (List.mem_of_getElem? (i := 22) rfl)) e1 (g := (mkF m 4 #[rv a0, rv a1, .unset, .unset, .unset, .unset, .unset] [(.int (3 : Int32))])) rfl (hb hby own_d6_4) rfl (by decide) (cap := 3) (by decide) (by decide) (by decide) (by decide)
  obtain ⟨b2, g2⟩ : ∃ z, z = h0.size := ⟨_, rfl⟩
  rw [← g2] at A2 st2
  have ne_a0_b2 : a0 ≠ b2 := Nat.ne_of_lt (Nat.lt_of_lt_of_le HF0.lt (Nat.le_of_eq g2.symm))
  have ne_a1_b2 : a1 ≠ b2 := Nat.ne_of_lt (Nat.lt_of_lt_of_le HF1.lt (Nat.le_of_eq g2.symm))
  have sz_b2 : h0.size ≤ b2 := Nat.le_trans K0.1 (Nat.le_of_eq g2.symm)
  have G_b2 : n0 ≤ b2 := Nat.le_trans Z0 sz_b2
  have K2 : Keep h0 h2 [] := K0.ext E2
  have F3 : Fld Z h2 a0 "com/example/sieveline/sieveline/solver/BitMatrix" "rowWords" "I" (.int (3 : Int32)) := HF0.ext E2
  have F4 : ownAI Z h2 a1 .int 0 gi := HF1.ext E2
  have F5 : ownAJ Z h2 b2 3 (fun _ => (0 : Int64)) := ownAJ.new A2 (by decide) (by decide)
  refine ownGo (T' := T2) (f' := (mkF m 6 #[rv a0, rv a1, .unset, .unset, .unset, .unset, .unset] [(.ref b2)])) (st2) ?_
  refine ow_astoreN (q := 7) X2 hx (L' := #[rv a0, rv a1, rv b2, .unset, .unset, .unset, .unset]) (hb hby own_d6_6) rfl rfl rfl ?_
  refine ow_aloadN (q := 8) X2 hx (hb hby own_d6_7) rfl rfl rfl ?_
  refine ow_astoreN (q := 9) X2 hx (L' := #[rv a0, rv a1, rv b2, rv a1, .unset, .unset, .unset]) (hb hby own_d6_8) rfl rfl rfl ?_
  refine ow_aloadN (q := 10) X2 hx (hb hby own_d6_9) rfl rfl rfl ?_
  refine ownGo (T' := T2) (f' := (mkF m 11 #[rv a0, rv a1, rv b2, rv a1, .unset, .unset, .unset] [(.int (0 : Int32))])) (ownLenI F4 X2 hx hZ e2 (z := (0 : Int32)) (by decide) (g := (mkF m 10 #[rv a0, rv a1, rv b2, rv a1, .unset, .unset, .unset] [(.ref a1)])) rfl rfl (hb hby own_d6_10)) ?_
  refine ow_istore (q := 13) X2 hx (L' := #[rv a0, rv a1, rv b2, rv a1, iv (0 : Int32), .unset, .unset]) (hb hby own_d6_11) rfl rfl ?_
  refine ow_iconst (q := 14) X2 hx (0 : Int32) (hb hby own_d6_13) rfl rfl ?_
  refine ow_istore (q := 16) X2 hx (L' := #[rv a0, rv a1, rv b2, rv a1, iv (0 : Int32), iv (0 : Int32), .unset]) (hb hby own_d6_14) rfl rfl ?_
  refine ow_iload (q := 18) X2 hx (hb hby own_d6_16) rfl rfl ?_
  refine ow_iload (q := 20) X2 hx (hb hby own_d6_18) rfl rfl ?_
  refine ow_icmpYes (q := 49) X2 hx (hb hby own_d6_20) (Jvm.Free.XT.ii_ge_t (by decide)) (by decide) (by decide) ?_
  refine ow_aloadN (q := 50) X2 hx (hb hby own_d6_49) rfl rfl rfl ?_
  refine ownRetR X2 hx rfl rfl rfl Bd.returns (hb hby own_d6_50) hlk (by decide) (by decide) ?_
  rw [e2]
  exact ⟨b2, rfl, N0, K2, sz_b2, F5⟩
theorem own_ef6_row_0_4 (m : MethodId) (a0 : Addr) (a1 : Addr) : entryFrame m #[(.ref a0), (.ref a1)] 7 = mkF m 0 #[rv a0, rv a1, .unset, .unset, .unset, .unset, .unset] [] := by first | (simp [entryFrame, mkF, argsToLocals, Value.category]; done) | rfl
def Q_row_0_4 (Z : State) (a0 : Addr) (a1 : Addr) (gi : Nat → Int32) (h0 : Heap) (n0 : Nat) (v : Option Value) (h : Heap) (L : List Loc) : Prop := ∃ (r : Addr), v = some (.ref r) ∧ Fr n0 L ∧ Keep h0 h [] ∧ h0.size ≤ r ∧ ownAJ Z h r 4 (fun _ => (0 : Int64))
set_option maxRecDepth 65536 in
set_option maxHeartbeats 40000000 in
theorem rm_row_0_4 (l : Launch) (Z : State) (av0 : Array Value) (hw : ∀ d ∈ tables_1, d.before av0 Z = true) (ws : List Jvm.Cond) (a0 : Addr) (a1 : Addr) (gi : Nat → Int32) (h0 : Heap) (n0 : Nat) (Z0 : n0 ≤ h0.size) (HF0 : Fld Z h0 a0 "com/example/sieveline/sieveline/solver/BitMatrix" "rowWords" "I" (.int (4 : Int32))) (HF1 : ownAI Z h0 a1 .int 0 gi) :
    MetFree l (⟨"com/example/sieveline/sieveline/solver/BitMatrix", "row", "([I)[J"⟩ : MethodName) (head1 (Jvm.Cond.code (⟨"com/example/sieveline/sieveline/solver/BitMatrix", "row", "([I)[J"⟩ : MethodName) prog_49_method_6_code 7 (some (.array .long)) :: ws) ({ frames := 0, cells := 1, slots := 4, locals := 0 } : Room)) (fun a U => a = #[(.ref a0), (.ref a1)] ∧ Z.Warmed39 U.vm ∧ U.heap = h0) (fun _ _ _ _ _ => True) (fun _ U o U' => ∃ v L, o = .returned v ∧ (Q_row_0_4 Z a0 a1 gi h0 n0) v U'.heap L ∧ FrameEnd U o U' L ({ frames := 0, cells := 1, slots := 4, locals := 0 } : Room).cells ({ frames := 0, cells := 1, slots := 4, locals := 0 } : Room).slots) := by
  refine MetFree.of_bodySF (plainFor_of_name own_pn_BitMatrix) hisR ?_
  intro p e s m args below meth c s₁ Bd hml0 hP hK
  obtain ⟨rfl, hZ, hh⟩ := hP
  have hx := Bd.exec
  have hby := Bd.bytes
  have hml : c.maxLocals = 7 := hml0
  have hown : s.vm.findClass "com/example/sieveline/sieveline/solver/BitMatrix" = some m.cls := findClass_of_methodNamed Bd.named
  have hnm := (name_of_methodNamed Bd.named Bd.method).1
  have hlk : meth.locks = false := BodyLoose.notSynchronized Bd
  have X0 : Stand p l e ({ frames := 0, cells := 1, slots := 4, locals := 0 } : Room) s m #[(.ref a0), (.ref a1)] below meth c s₁ [] 0 0 := Stand.of_body Bd
  have e0 : s₁.heap = h0 := by rw [← hh, Bd.state]; rfl
  have N0 := Fr.nil n0
  have K0 : Keep h0 h0 [] := Keep.refl _ _
  show ownEnds p e below s (Q_row_0_4 Z a0 a1 gi h0 n0) ({ frames := 0, cells := 1, slots := 4, locals := 0 } : Room).cells ({ frames := 0, cells := 1, slots := 4, locals := 0 } : Room).slots s₁ (entryFrame m #[(.ref a0), (.ref a1)] 7)
  refine ownCast (own_ef6_row_0_4 m a0 a1) ?_
  refine ow_aloadN (q := 1) X0 hx (hb hby own_d6_0) rfl rfl rfl ?_
  obtain ⟨T1, X1, e1, st1⟩ := getF X0 hx hZ hown (host := "") (Or.inl (hw _ (List.mem_of_getElem? (i := 13) rfl))) Via.refl e0 HF0 (g := (mkF m 1 #[rv a0, rv a1, .unset, .unset, .unset, .unset, .unset] [(.ref a0)])) rfl rfl (hb hby own_d6_1)
  refine ownGo (T' := T1) (f' := (mkF m 4 #[rv a0, rv a1, .unset, .unset, .unset, .unset, .unset] [(.int (4 : Int32))])) (st1) ?_
  obtain ⟨T2, h2, k2, X2, e2, E2, A2, st2⟩ := newP X1 hx hZ (hw _ (List.mem_of_getElem? (i := 22) rfl)) e1 (g := (mkF m 4 #[rv a0, rv a1, .unset, .unset, .unset, .unset, .unset] [(.int (4 : Int32))])) rfl (hb hby own_d6_4) rfl (by decide) (cap := 4) (by decide) (by decide) (by decide) (by decide)
  obtain ⟨b2, g2⟩ : ∃ z, z = h0.size := ⟨_, rfl⟩
  rw [← g2] at A2 st2
  have ne_a0_b2 : a0 ≠ b2 := Nat.ne_of_lt (Nat.lt_of_lt_of_le HF0.lt (Nat.le_of_eq g2.symm))
  have ne_a1_b2 : a1 ≠ b2 := Nat.ne_of_lt (Nat.lt_of_lt_of_le HF1.lt (Nat.le_of_eq g2.symm))
  have sz_b2 : h0.size ≤ b2 := Nat.le_trans K0.1 (Nat.le_of_eq g2.symm)
  have G_b2 : n0 ≤ b2 := Nat.le_trans Z0 sz_b2
  have K2 : Keep h0 h2 [] := K0.ext E2
  have F3 : Fld Z h2 a0 "com/example/sieveline/sieveline/solver/BitMatrix" "rowWords" "I" (.int (4 : Int32)) := HF0.ext E2
  have F4 : ownAI Z h2 a1 .int 0 gi := HF1.ext E2
  have F5 : ownAJ Z h2 b2 4 (fun _ => (0 : Int64)) := ownAJ.new A2 (by decide) (by decide)
  refine ownGo (T' := T2) (f' := (mkF m 6 #[rv a0, rv a1, .unset, .unset, .unset, .unset, .unset] [(.ref b2)])) (st2) ?_
  refine ow_astoreN (q := 7) X2 hx (L' := #[rv a0, rv a1, rv b2, .unset, .unset, .unset, .unset]) (hb hby own_d6_6) rfl rfl rfl ?_
  refine ow_aloadN (q := 8) X2 hx (hb hby own_d6_7) rfl rfl rfl ?_
  refine ow_astoreN (q := 9) X2 hx (L' := #[rv a0, rv a1, rv b2, rv a1, .unset, .unset, .unset]) (hb hby own_d6_8) rfl rfl rfl ?_
  refine ow_aloadN (q := 10) X2 hx (hb hby own_d6_9) rfl rfl rfl ?_
  refine ownGo (T' := T2) (f' := (mkF m 11 #[rv a0, rv a1, rv b2, rv a1, .unset, .unset, .unset] [(.int (0 : Int32))])) (ownLenI F4 X2 hx hZ e2 (z := (0 : Int32)) (by decide) (g := (mkF m 10 #[rv a0, rv a1, rv b2, rv a1, .unset, .unset, .unset] [(.ref a1)])) rfl rfl (hb hby own_d6_10)) ?_
  refine ow_istore (q := 13) X2 hx (L' := #[rv a0, rv a1, rv b2, rv a1, iv (0 : Int32), .unset, .unset]) (hb hby own_d6_11) rfl rfl ?_
  refine ow_iconst (q := 14) X2 hx (0 : Int32) (hb hby own_d6_13) rfl rfl ?_
  refine ow_istore (q := 16) X2 hx (L' := #[rv a0, rv a1, rv b2, rv a1, iv (0 : Int32), iv (0 : Int32), .unset]) (hb hby own_d6_14) rfl rfl ?_
  refine ow_iload (q := 18) X2 hx (hb hby own_d6_16) rfl rfl ?_
  refine ow_iload (q := 20) X2 hx (hb hby own_d6_18) rfl rfl ?_
  refine ow_icmpYes (q := 49) X2 hx (hb hby own_d6_20) (Jvm.Free.XT.ii_ge_t (by decide)) (by decide) (by decide) ?_
  refine ow_aloadN (q := 50) X2 hx (hb hby own_d6_49) rfl rfl rfl ?_
  refine ownRetR X2 hx rfl rfl rfl Bd.returns (hb hby own_d6_50) hlk (by decide) (by decide) ?_
  rw [e2]
  exact ⟨b2, rfl, N0, K2, sz_b2, F5⟩
theorem own_d6_23 : decode prog_49_method_6_code 23 = .ok (.aload_n 3, 1) := by decide +kernel
theorem own_d6_24 : decode prog_49_method_6_code 24 = .ok (.iload 5, 2) := by decide +kernel
theorem own_d6_26 : decode prog_49_method_6_code 26 = .ok (.iaload, 1) := by decide +kernel
theorem own_d6_27 : decode prog_49_method_6_code 27 = .ok (.istore 6, 2) := by decide +kernel
theorem own_d6_29 : decode prog_49_method_6_code 29 = .ok (.aload_n 2, 1) := by decide +kernel
theorem own_d6_30 : decode prog_49_method_6_code 30 = .ok (.iload 6, 2) := by decide +kernel
theorem own_d6_32 : decode prog_49_method_6_code 32 = .ok (.bipush 64, 2) := by decide +kernel
theorem own_d6_34 : decode prog_49_method_6_code 34 = .ok (.idiv, 1) := by decide +kernel
theorem own_d6_35 : decode prog_49_method_6_code 35 = .ok (.dup2, 1) := by decide +kernel
theorem own_d6_36 : decode prog_49_method_6_code 36 = .ok (.laload, 1) := by decide +kernel
theorem own_d6_37 : decode prog_49_method_6_code 37 = .ok (.lconst 1, 1) := by decide +kernel
theorem own_d6_38 : decode prog_49_method_6_code 38 = .ok (.iload 6, 2) := by decide +kernel
theorem own_d6_40 : decode prog_49_method_6_code 40 = .ok (.lshl, 1) := by decide +kernel
theorem own_d6_41 : decode prog_49_method_6_code 41 = .ok (.lor, 1) := by decide +kernel
theorem own_d6_42 : decode prog_49_method_6_code 42 = .ok (.lastore, 1) := by decide +kernel
theorem own_d6_43 : decode prog_49_method_6_code 43 = .ok (.iinc 5 1, 3) := by decide +kernel
theorem own_d6_46 : decode prog_49_method_6_code 46 = .ok (.goto (-30), 3) := by decide +kernel
theorem own_ef6_row_1_1 (m : MethodId) (a0 : Addr) (a1 : Addr) : entryFrame m #[(.ref a0), (.ref a1)] 7 = mkF m 0 #[rv a0, rv a1, .unset, .unset, .unset, .unset, .unset] [] := by first | (simp [entryFrame, mkF, argsToLocals, Value.category]; done) | rfl
def Q_row_1_1 (Z : State) (a0 : Addr) (a1 : Addr) (gi : Nat → Int32) (h0 : Heap) (n0 : Nat) (v : Option Value) (h : Heap) (L : List Loc) : Prop := ∃ (r : Addr), v = some (.ref r) ∧ Fr n0 L ∧ Keep h0 h [] ∧ h0.size ≤ r ∧ ownAJ Z h r 1 (own_or1 (fun _ => (0 : Int64)) (gi 0))
set_option maxRecDepth 65536 in
set_option maxHeartbeats 40000000 in
theorem rm_row_1_1 (l : Launch) (Z : State) (av0 : Array Value) (hw : ∀ d ∈ tables_1, d.before av0 Z = true) (ws : List Jvm.Cond) (a0 : Addr) (a1 : Addr) (gi : Nat → Int32) (h0 : Heap) (n0 : Nat) (Z0 : n0 ≤ h0.size) (HF0 : Fld Z h0 a0 "com/example/sieveline/sieveline/solver/BitMatrix" "rowWords" "I" (.int (1 : Int32))) (HF1 : ownAI Z h0 a1 .int 1 gi) (hr0 : 0 ≤ (gi 0).toInt ∧ (gi 0).toInt < 64) :
    MetFree l (⟨"com/example/sieveline/sieveline/solver/BitMatrix", "row", "([I)[J"⟩ : MethodName) (head1 (Jvm.Cond.code (⟨"com/example/sieveline/sieveline/solver/BitMatrix", "row", "([I)[J"⟩ : MethodName) prog_49_method_6_code 7 (some (.array .long)) :: ws) ({ frames := 0, cells := 1, slots := 1, locals := 0 } : Room)) (fun a U => a = #[(.ref a0), (.ref a1)] ∧ Z.Warmed39 U.vm ∧ U.heap = h0) (fun _ _ _ _ _ => True) (fun _ U o U' => ∃ v L, o = .returned v ∧ (Q_row_1_1 Z a0 a1 gi h0 n0) v U'.heap L ∧ FrameEnd U o U' L ({ frames := 0, cells := 1, slots := 1, locals := 0 } : Room).cells ({ frames := 0, cells := 1, slots := 1, locals := 0 } : Room).slots) := by
  refine MetFree.of_bodySF (plainFor_of_name own_pn_BitMatrix) hisR ?_
  intro p e s m args below meth c s₁ Bd hml0 hP hK
  obtain ⟨rfl, hZ, hh⟩ := hP
  have hx := Bd.exec
  have hby := Bd.bytes
  have hml : c.maxLocals = 7 := hml0
  have hown : s.vm.findClass "com/example/sieveline/sieveline/solver/BitMatrix" = some m.cls := findClass_of_methodNamed Bd.named
  have hnm := (name_of_methodNamed Bd.named Bd.method).1
  have hlk : meth.locks = false := BodyLoose.notSynchronized Bd
  have X0 : Stand p l e ({ frames := 0, cells := 1, slots := 1, locals := 0 } : Room) s m #[(.ref a0), (.ref a1)] below meth c s₁ [] 0 0 := Stand.of_body Bd
  have e0 : s₁.heap = h0 := by rw [← hh, Bd.state]; rfl
  have N0 := Fr.nil n0
  have K0 : Keep h0 h0 [] := Keep.refl _ _
  show ownEnds p e below s (Q_row_1_1 Z a0 a1 gi h0 n0) ({ frames := 0, cells := 1, slots := 1, locals := 0 } : Room).cells ({ frames := 0, cells := 1, slots := 1, locals := 0 } : Room).slots s₁ (entryFrame m #[(.ref a0), (.ref a1)] 7)
  refine ownCast (own_ef6_row_1_1 m a0 a1) ?_
  refine ow_aloadN (q := 1) X0 hx (hb hby own_d6_0) rfl rfl rfl ?_
  obtain ⟨T1, X1, e1, st1⟩ := getF X0 hx hZ hown (host := "") (Or.inl (hw _ (List.mem_of_getElem? (i := 13) rfl))) Via.refl e0 HF0 (g := (mkF m 1 #[rv a0, rv a1, .unset, .unset, .unset, .unset, .unset] [(.ref a0)])) rfl rfl (hb hby own_d6_1)
  refine ownGo (T' := T1) (f' := (mkF m 4 #[rv a0, rv a1, .unset, .unset, .unset, .unset, .unset] [(.int (1 : Int32))])) (st1) ?_
  obtain ⟨T2, h2, k2, X2, e2, E2, A2, st2⟩ := newP X1 hx hZ (hw _ (List.mem_of_getElem? (i := 22) rfl)) e1 (g := (mkF m 4 #[rv a0, rv a1, .unset, .unset, .unset, .unset, .unset] [(.int (1 : Int32))])) rfl (hb hby own_d6_4) rfl (by decide) (cap := 1) (by decide) (by decide) (by decide) (by decide)
  obtain ⟨b2, g2⟩ : ∃ z, z = h0.size := ⟨_, rfl⟩
  rw [← g2] at A2 st2
  have ne_a0_b2 : a0 ≠ b2 := Nat.ne_of_lt (Nat.lt_of_lt_of_le HF0.lt (Nat.le_of_eq g2.symm))
  have ne_a1_b2 : a1 ≠ b2 := Nat.ne_of_lt (Nat.lt_of_lt_of_le HF1.lt (Nat.le_of_eq g2.symm))
  have sz_b2 : h0.size ≤ b2 := Nat.le_trans K0.1 (Nat.le_of_eq g2.symm)
  have G_b2 : n0 ≤ b2 := Nat.le_trans Z0 sz_b2
  have K2 : Keep h0 h2 [] := K0.ext E2
  have F3 : Fld Z h2 a0 "com/example/sieveline/sieveline/solver/BitMatrix" "rowWords" "I" (.int (1 : Int32)) := HF0.ext E2
  have F4 : ownAI Z h2 a1 .int 1 gi := HF1.ext E2
  have F5 : ownAJ Z h2 b2 1 (fun _ => (0 : Int64)) := ownAJ.new A2 (by decide) (by decide)
  refine ownGo (T' := T2) (f' := (mkF m 6 #[rv a0, rv a1, .unset, .unset, .unset, .unset, .unset] [(.ref b2)])) (st2) ?_
  refine ow_astoreN (q := 7) X2 hx (L' := #[rv a0, rv a1, rv b2, .unset, .unset, .unset, .unset]) (hb hby own_d6_6) rfl rfl rfl ?_
  refine ow_aloadN (q := 8) X2 hx (hb hby own_d6_7) rfl rfl rfl ?_
  refine ow_astoreN (q := 9) X2 hx (L' := #[rv a0, rv a1, rv b2, rv a1, .unset, .unset, .unset]) (hb hby own_d6_8) rfl rfl rfl ?_
  refine ow_aloadN (q := 10) X2 hx (hb hby own_d6_9) rfl rfl rfl ?_
  refine ownGo (T' := T2) (f' := (mkF m 11 #[rv a0, rv a1, rv b2, rv a1, .unset, .unset, .unset] [(.int (1 : Int32))])) (ownLenI F4 X2 hx hZ e2 (z := (1 : Int32)) (by decide) (g := (mkF m 10 #[rv a0, rv a1, rv b2, rv a1, .unset, .unset, .unset] [(.ref a1)])) rfl rfl (hb hby own_d6_10)) ?_
  refine ow_istore (q := 13) X2 hx (L' := #[rv a0, rv a1, rv b2, rv a1, iv (1 : Int32), .unset, .unset]) (hb hby own_d6_11) rfl rfl ?_
  refine ow_iconst (q := 14) X2 hx (0 : Int32) (hb hby own_d6_13) rfl rfl ?_
  refine ow_istore (q := 16) X2 hx (L' := #[rv a0, rv a1, rv b2, rv a1, iv (1 : Int32), iv (0 : Int32), .unset]) (hb hby own_d6_14) rfl rfl ?_
  refine ow_iload (q := 18) X2 hx (hb hby own_d6_16) rfl rfl ?_
  refine ow_iload (q := 20) X2 hx (hb hby own_d6_18) rfl rfl ?_
  refine ow_icmpNo (q := 23) X2 hx (hb hby own_d6_20) rfl (Jvm.Free.XT.ii_ge_f (by decide)) ?_
  refine ow_aloadN (q := 24) X2 hx (hb hby own_d6_23) rfl rfl rfl ?_
  refine ow_iload (q := 26) X2 hx (hb hby own_d6_24) rfl rfl ?_
  refine ownGo (T' := T2) (f' := (mkF m 27 #[rv a0, rv a1, rv b2, rv a1, iv (1 : Int32), iv (0 : Int32), .unset] [(.int (gi 0))])) (ownIaload F4 X2 hx hZ e2 (j := (0 : Int32)) (by unfold ownIn; decide) (g := (mkF m 26 #[rv a0, rv a1, rv b2, rv a1, iv (1 : Int32), iv (0 : Int32), .unset] [(.int (0 : Int32)), (.ref a1)])) rfl rfl (hb hby own_d6_26)) ?_
  generalize hv_v6 : (gi 0) = v6
  refine ow_istore (q := 29) X2 hx (L' := #[rv a0, rv a1, rv b2, rv a1, iv (1 : Int32), iv (0 : Int32), iv v6]) (hb hby own_d6_27) rfl rfl ?_
  refine ow_aloadN (q := 30) X2 hx (hb hby own_d6_29) rfl rfl rfl ?_
  refine ow_iload (q := 32) X2 hx (hb hby own_d6_30) rfl rfl ?_
  refine ow_bipush (q := 34) X2 hx (64 : Int32) (hb hby own_d6_32) rfl rfl ?_
  refine ow_idiv (q := 35) X2 hx _ (hb hby own_d6_34) rfl (by decide) rfl ?_
  refine ow_dup2 (q := 36) X2 hx (hb hby own_d6_35) rfl rfl rfl ?_
  generalize hv_v7 : (v6 / (64 : Int32)) = v7
  refine ownGo (T' := T2) (f' := (mkF m 37 #[rv a0, rv a1, rv b2, rv a1, iv (1 : Int32), iv (0 : Int32), iv v6] [(.long ((fun _ => (0 : Int64)) v7.toNatClampNeg)), (.int v7), (.ref b2)])) (ownLaload F5 X2 hx hZ e2 (j := v7) (own_ixw (L := 1) hv_v7 (by rw [← hv_v6]; first | exact hr0 | exact hr1 | exact hr2)) (g := (mkF m 36 #[rv a0, rv a1, rv b2, rv a1, iv (1 : Int32), iv (0 : Int32), iv v6] [(.int v7), (.ref b2), (.int v7), (.ref b2)])) rfl rfl (hb hby own_d6_36)) ?_
  generalize hv_v8 : ((fun _ => (0 : Int64)) v7.toNatClampNeg) = v8
  refine ow_lconst (q := 38) X2 hx (1 : Int64) (hb hby own_d6_37) rfl rfl ?_
  refine ow_iload (q := 40) X2 hx (hb hby own_d6_38) rfl rfl ?_
  refine ow_lshl (q := 41) X2 hx _ (hb hby own_d6_40) rfl rfl ?_
  refine ow_lor (q := 42) X2 hx _ (hb hby own_d6_41) rfl rfl ?_
  generalize hv_v9 : (v8 ||| ((1 : Int64) <<< (v6 &&& 0x3f).toInt64)) = v9
  obtain ⟨T10, h10, X10, e10, W10, F10s, st10⟩ := ownLastore F5 X2 hx hZ e2 (j := v7) (own_ixw (L := 1) hv_v7 (by rw [← hv_v6]; first | exact hr0 | exact hr1 | exact hr2)) (g := (mkF m 42 #[rv a0, rv a1, rv b2, rv a1, iv (1 : Int32), iv (0 : Int32), iv v6] [(.long v9), (.int v7), (.ref b2)])) rfl rfl (hb hby own_d6_42)
  generalize hg_gf10 : (ownUpd (fun _ => (0 : Int64)) v7.toNatClampNeg v9) = gf10 at F10s
  have N10 := Fr.snoc X10 N0 G_b2
  have K10 : Keep h0 h10 [] := K2.wr W10 (Or.inr sz_b2)
  have F11 : Fld Z h10 a0 "com/example/sieveline/sieveline/solver/BitMatrix" "rowWords" "I" (.int (1 : Int32)) := F3.other W10 (Or.inl ne_a0_b2)
  have F12 : ownAI Z h10 a1 .int 1 gi := F4.other W10 ne_a1_b2
  refine ownGo (T' := T10) (f' := (mkF m 43 #[rv a0, rv a1, rv b2, rv a1, iv (1 : Int32), iv (0 : Int32), iv v6] [])) (st10) ?_
  refine ow_iinc (q := 46) X10 hx (L' := #[rv a0, rv a1, rv b2, rv a1, iv (1 : Int32), iv (1 : Int32), iv v6]) (hb hby own_d6_43) rfl rfl rfl ?_
  refine ow_goto (q := 16) X10 hx (hb hby own_d6_46) (by decide) (by decide) ?_
  refine ow_iload (q := 18) X10 hx (hb hby own_d6_16) rfl rfl ?_
  refine ow_iload (q := 20) X10 hx (hb hby own_d6_18) rfl rfl ?_
  refine ow_icmpYes (q := 49) X10 hx (hb hby own_d6_20) (Jvm.Free.XT.ii_ge_t (by decide)) (by decide) (by decide) ?_
  refine ow_aloadN (q := 50) X10 hx (hb hby own_d6_49) rfl rfl rfl ?_
  refine ownRetR X10 hx rfl rfl rfl Bd.returns (hb hby own_d6_50) hlk (by decide) (by decide) ?_
  subst hg_gf10 hv_v9 hv_v8 hv_v7 hv_v6
  rw [e10]
  exact ⟨b2, rfl, N10, K10, sz_b2, F10s⟩
theorem own_ef6_row_1_2 (m : MethodId) (a0 : Addr) (a1 : Addr) : entryFrame m #[(.ref a0), (.ref a1)] 7 = mkF m 0 #[rv a0, rv a1, .unset, .unset, .unset, .unset, .unset] [] := by first | (simp [entryFrame, mkF, argsToLocals, Value.category]; done) | rfl
def Q_row_1_2 (Z : State) (a0 : Addr) (a1 : Addr) (gi : Nat → Int32) (h0 : Heap) (n0 : Nat) (v : Option Value) (h : Heap) (L : List Loc) : Prop := ∃ (r : Addr), v = some (.ref r) ∧ Fr n0 L ∧ Keep h0 h [] ∧ h0.size ≤ r ∧ ownAJ Z h r 2 (own_or1 (fun _ => (0 : Int64)) (gi 0))
set_option maxRecDepth 65536 in
set_option maxHeartbeats 40000000 in
theorem rm_row_1_2 (l : Launch) (Z : State) (av0 : Array Value) (hw : ∀ d ∈ tables_1, d.before av0 Z = true) (ws : List Jvm.Cond) (a0 : Addr) (a1 : Addr) (gi : Nat → Int32) (h0 : Heap) (n0 : Nat) (Z0 : n0 ≤ h0.size) (HF0 : Fld Z h0 a0 "com/example/sieveline/sieveline/solver/BitMatrix" "rowWords" "I" (.int (2 : Int32))) (HF1 : ownAI Z h0 a1 .int 1 gi) (hr0 : 0 ≤ (gi 0).toInt ∧ (gi 0).toInt < 128) :
    MetFree l (⟨"com/example/sieveline/sieveline/solver/BitMatrix", "row", "([I)[J"⟩ : MethodName) (head1 (Jvm.Cond.code (⟨"com/example/sieveline/sieveline/solver/BitMatrix", "row", "([I)[J"⟩ : MethodName) prog_49_method_6_code 7 (some (.array .long)) :: ws) ({ frames := 0, cells := 1, slots := 2, locals := 0 } : Room)) (fun a U => a = #[(.ref a0), (.ref a1)] ∧ Z.Warmed39 U.vm ∧ U.heap = h0) (fun _ _ _ _ _ => True) (fun _ U o U' => ∃ v L, o = .returned v ∧ (Q_row_1_2 Z a0 a1 gi h0 n0) v U'.heap L ∧ FrameEnd U o U' L ({ frames := 0, cells := 1, slots := 2, locals := 0 } : Room).cells ({ frames := 0, cells := 1, slots := 2, locals := 0 } : Room).slots) := by
  refine MetFree.of_bodySF (plainFor_of_name own_pn_BitMatrix) hisR ?_
  intro p e s m args below meth c s₁ Bd hml0 hP hK
  obtain ⟨rfl, hZ, hh⟩ := hP
  have hx := Bd.exec
  have hby := Bd.bytes
  have hml : c.maxLocals = 7 := hml0
  have hown : s.vm.findClass "com/example/sieveline/sieveline/solver/BitMatrix" = some m.cls := findClass_of_methodNamed Bd.named
  have hnm := (name_of_methodNamed Bd.named Bd.method).1
  have hlk : meth.locks = false := BodyLoose.notSynchronized Bd
  have X0 : Stand p l e ({ frames := 0, cells := 1, slots := 2, locals := 0 } : Room) s m #[(.ref a0), (.ref a1)] below meth c s₁ [] 0 0 := Stand.of_body Bd
  have e0 : s₁.heap = h0 := by rw [← hh, Bd.state]; rfl
  have N0 := Fr.nil n0
  have K0 : Keep h0 h0 [] := Keep.refl _ _
  show ownEnds p e below s (Q_row_1_2 Z a0 a1 gi h0 n0) ({ frames := 0, cells := 1, slots := 2, locals := 0 } : Room).cells ({ frames := 0, cells := 1, slots := 2, locals := 0 } : Room).slots s₁ (entryFrame m #[(.ref a0), (.ref a1)] 7)
  refine ownCast (own_ef6_row_1_2 m a0 a1) ?_
  refine ow_aloadN (q := 1) X0 hx (hb hby own_d6_0) rfl rfl rfl ?_
  obtain ⟨T1, X1, e1, st1⟩ := getF X0 hx hZ hown (host := "") (Or.inl (hw _ (List.mem_of_getElem? (i := 13) rfl))) Via.refl e0 HF0 (g := (mkF m 1 #[rv a0, rv a1, .unset, .unset, .unset, .unset, .unset] [(.ref a0)])) rfl rfl (hb hby own_d6_1)
  refine ownGo (T' := T1) (f' := (mkF m 4 #[rv a0, rv a1, .unset, .unset, .unset, .unset, .unset] [(.int (2 : Int32))])) (st1) ?_
  obtain ⟨T2, h2, k2, X2, e2, E2, A2, st2⟩ := newP X1 hx hZ (hw _ (List.mem_of_getElem? (i := 22) rfl)) e1 (g := (mkF m 4 #[rv a0, rv a1, .unset, .unset, .unset, .unset, .unset] [(.int (2 : Int32))])) rfl (hb hby own_d6_4) rfl (by decide) (cap := 2) (by decide) (by decide) (by decide) (by decide)
  obtain ⟨b2, g2⟩ : ∃ z, z = h0.size := ⟨_, rfl⟩
  rw [← g2] at A2 st2
  have ne_a0_b2 : a0 ≠ b2 := Nat.ne_of_lt (Nat.lt_of_lt_of_le HF0.lt (Nat.le_of_eq g2.symm))
  have ne_a1_b2 : a1 ≠ b2 := Nat.ne_of_lt (Nat.lt_of_lt_of_le HF1.lt (Nat.le_of_eq g2.symm))
  have sz_b2 : h0.size ≤ b2 := Nat.le_trans K0.1 (Nat.le_of_eq g2.symm)
  have G_b2 : n0 ≤ b2 := Nat.le_trans Z0 sz_b2
  have K2 : Keep h0 h2 [] := K0.ext E2
  have F3 : Fld Z h2 a0 "com/example/sieveline/sieveline/solver/BitMatrix" "rowWords" "I" (.int (2 : Int32)) := HF0.ext E2
  have F4 : ownAI Z h2 a1 .int 1 gi := HF1.ext E2
  have F5 : ownAJ Z h2 b2 2 (fun _ => (0 : Int64)) := ownAJ.new A2 (by decide) (by decide)
  refine ownGo (T' := T2) (f' := (mkF m 6 #[rv a0, rv a1, .unset, .unset, .unset, .unset, .unset] [(.ref b2)])) (st2) ?_
  refine ow_astoreN (q := 7) X2 hx (L' := #[rv a0, rv a1, rv b2, .unset, .unset, .unset, .unset]) (hb hby own_d6_6) rfl rfl rfl ?_
  refine ow_aloadN (q := 8) X2 hx (hb hby own_d6_7) rfl rfl rfl ?_
  refine ow_astoreN (q := 9) X2 hx (L' := #[rv a0, rv a1, rv b2, rv a1, .unset, .unset, .unset]) (hb hby own_d6_8) rfl rfl rfl ?_
  refine ow_aloadN (q := 10) X2 hx (hb hby own_d6_9) rfl rfl rfl ?_
  refine ownGo (T' := T2) (f' := (mkF m 11 #[rv a0, rv a1, rv b2, rv a1, .unset, .unset, .unset] [(.int (1 : Int32))])) (ownLenI F4 X2 hx hZ e2 (z := (1 : Int32)) (by decide) (g := (mkF m 10 #[rv a0, rv a1, rv b2, rv a1, .unset, .unset, .unset] [(.ref a1)])) rfl rfl (hb hby own_d6_10)) ?_
  refine ow_istore (q := 13) X2 hx (L' := #[rv a0, rv a1, rv b2, rv a1, iv (1 : Int32), .unset, .unset]) (hb hby own_d6_11) rfl rfl ?_
  refine ow_iconst (q := 14) X2 hx (0 : Int32) (hb hby own_d6_13) rfl rfl ?_
  refine ow_istore (q := 16) X2 hx (L' := #[rv a0, rv a1, rv b2, rv a1, iv (1 : Int32), iv (0 : Int32), .unset]) (hb hby own_d6_14) rfl rfl ?_
  refine ow_iload (q := 18) X2 hx (hb hby own_d6_16) rfl rfl ?_
  refine ow_iload (q := 20) X2 hx (hb hby own_d6_18) rfl rfl ?_
  refine ow_icmpNo (q := 23) X2 hx (hb hby own_d6_20) rfl (Jvm.Free.XT.ii_ge_f (by decide)) ?_
  refine ow_aloadN (q := 24) X2 hx (hb hby own_d6_23) rfl rfl rfl ?_
  refine ow_iload (q := 26) X2 hx (hb hby own_d6_24) rfl rfl ?_
  refine ownGo (T' := T2) (f' := (mkF m 27 #[rv a0, rv a1, rv b2, rv a1, iv (1 : Int32), iv (0 : Int32), .unset] [(.int (gi 0))])) (ownIaload F4 X2 hx hZ e2 (j := (0 : Int32)) (by unfold ownIn; decide) (g := (mkF m 26 #[rv a0, rv a1, rv b2, rv a1, iv (1 : Int32), iv (0 : Int32), .unset] [(.int (0 : Int32)), (.ref a1)])) rfl rfl (hb hby own_d6_26)) ?_
  generalize hv_v6 : (gi 0) = v6
  refine ow_istore (q := 29) X2 hx (L' := #[rv a0, rv a1, rv b2, rv a1, iv (1 : Int32), iv (0 : Int32), iv v6]) (hb hby own_d6_27) rfl rfl ?_
  refine ow_aloadN (q := 30) X2 hx (hb hby own_d6_29) rfl rfl rfl ?_
  refine ow_iload (q := 32) X2 hx (hb hby own_d6_30) rfl rfl ?_
  refine ow_bipush (q := 34) X2 hx (64 : Int32) (hb hby own_d6_32) rfl rfl ?_
  refine ow_idiv (q := 35) X2 hx _ (hb hby own_d6_34) rfl (by decide) rfl ?_
  refine ow_dup2 (q := 36) X2 hx (hb hby own_d6_35) rfl rfl rfl ?_
  generalize hv_v7 : (v6 / (64 : Int32)) = v7
  refine ownGo (T' := T2) (f' := (mkF m 37 #[rv a0, rv a1, rv b2, rv a1, iv (1 : Int32), iv (0 : Int32), iv v6] [(.long ((fun _ => (0 : Int64)) v7.toNatClampNeg)), (.int v7), (.ref b2)])) (ownLaload F5 X2 hx hZ e2 (j := v7) (own_ixw (L := 2) hv_v7 (by rw [← hv_v6]; first | exact hr0 | exact hr1 | exact hr2)) (g := (mkF m 36 #[rv a0, rv a1, rv b2, rv a1, iv (1 : Int32), iv (0 : Int32), iv v6] [(.int v7), (.ref b2), (.int v7), (.ref b2)])) rfl rfl (hb hby own_d6_36)) ?_
  generalize hv_v8 : ((fun _ => (0 : Int64)) v7.toNatClampNeg) = v8
  refine ow_lconst (q := 38) X2 hx (1 : Int64) (hb hby own_d6_37) rfl rfl ?_
  refine ow_iload (q := 40) X2 hx (hb hby own_d6_38) rfl rfl ?_
  refine ow_lshl (q := 41) X2 hx _ (hb hby own_d6_40) rfl rfl ?_
  refine ow_lor (q := 42) X2 hx _ (hb hby own_d6_41) rfl rfl ?_
  generalize hv_v9 : (v8 ||| ((1 : Int64) <<< (v6 &&& 0x3f).toInt64)) = v9
  obtain ⟨T10, h10, X10, e10, W10, F10s, st10⟩ := ownLastore F5 X2 hx hZ e2 (j := v7) (own_ixw (L := 2) hv_v7 (by rw [← hv_v6]; first | exact hr0 | exact hr1 | exact hr2)) (g := (mkF m 42 #[rv a0, rv a1, rv b2, rv a1, iv (1 : Int32), iv (0 : Int32), iv v6] [(.long v9), (.int v7), (.ref b2)])) rfl rfl (hb hby own_d6_42)
  generalize hg_gf10 : (ownUpd (fun _ => (0 : Int64)) v7.toNatClampNeg v9) = gf10 at F10s
  have N10 := Fr.snoc X10 N0 G_b2
  have K10 : Keep h0 h10 [] := K2.wr W10 (Or.inr sz_b2)
  have F11 : Fld Z h10 a0 "com/example/sieveline/sieveline/solver/BitMatrix" "rowWords" "I" (.int (2 : Int32)) := F3.other W10 (Or.inl ne_a0_b2)
  have F12 : ownAI Z h10 a1 .int 1 gi := F4.other W10 ne_a1_b2
  refine ownGo (T' := T10) (f' := (mkF m 43 #[rv a0, rv a1, rv b2, rv a1, iv (1 : Int32), iv (0 : Int32), iv v6] [])) (st10) ?_
  refine ow_iinc (q := 46) X10 hx (L' := #[rv a0, rv a1, rv b2, rv a1, iv (1 : Int32), iv (1 : Int32), iv v6]) (hb hby own_d6_43) rfl rfl rfl ?_
  refine ow_goto (q := 16) X10 hx (hb hby own_d6_46) (by decide) (by decide) ?_
  refine ow_iload (q := 18) X10 hx (hb hby own_d6_16) rfl rfl ?_
  refine ow_iload (q := 20) X10 hx (hb hby own_d6_18) rfl rfl ?_
  refine ow_icmpYes (q := 49) X10 hx (hb hby own_d6_20) (Jvm.Free.XT.ii_ge_t (by decide)) (by decide) (by decide) ?_
  refine ow_aloadN (q := 50) X10 hx (hb hby own_d6_49) rfl rfl rfl ?_
  refine ownRetR X10 hx rfl rfl rfl Bd.returns (hb hby own_d6_50) hlk (by decide) (by decide) ?_
  subst hg_gf10 hv_v9 hv_v8 hv_v7 hv_v6
  rw [e10]
  exact ⟨b2, rfl, N10, K10, sz_b2, F10s⟩
theorem own_ef6_row_1_3 (m : MethodId) (a0 : Addr) (a1 : Addr) : entryFrame m #[(.ref a0), (.ref a1)] 7 = mkF m 0 #[rv a0, rv a1, .unset, .unset, .unset, .unset, .unset] [] := by first | (simp [entryFrame, mkF, argsToLocals, Value.category]; done) | rfl
def Q_row_1_3 (Z : State) (a0 : Addr) (a1 : Addr) (gi : Nat → Int32) (h0 : Heap) (n0 : Nat) (v : Option Value) (h : Heap) (L : List Loc) : Prop := ∃ (r : Addr), v = some (.ref r) ∧ Fr n0 L ∧ Keep h0 h [] ∧ h0.size ≤ r ∧ ownAJ Z h r 3 (own_or1 (fun _ => (0 : Int64)) (gi 0))
set_option maxRecDepth 65536 in
set_option maxHeartbeats 40000000 in
theorem rm_row_1_3 (l : Launch) (Z : State) (av0 : Array Value) (hw : ∀ d ∈ tables_1, d.before av0 Z = true) (ws : List Jvm.Cond) (a0 : Addr) (a1 : Addr) (gi : Nat → Int32) (h0 : Heap) (n0 : Nat) (Z0 : n0 ≤ h0.size) (HF0 : Fld Z h0 a0 "com/example/sieveline/sieveline/solver/BitMatrix" "rowWords" "I" (.int (3 : Int32))) (HF1 : ownAI Z h0 a1 .int 1 gi) (hr0 : 0 ≤ (gi 0).toInt ∧ (gi 0).toInt < 192) :
    MetFree l (⟨"com/example/sieveline/sieveline/solver/BitMatrix", "row", "([I)[J"⟩ : MethodName) (head1 (Jvm.Cond.code (⟨"com/example/sieveline/sieveline/solver/BitMatrix", "row", "([I)[J"⟩ : MethodName) prog_49_method_6_code 7 (some (.array .long)) :: ws) ({ frames := 0, cells := 1, slots := 3, locals := 0 } : Room)) (fun a U => a = #[(.ref a0), (.ref a1)] ∧ Z.Warmed39 U.vm ∧ U.heap = h0) (fun _ _ _ _ _ => True) (fun _ U o U' => ∃ v L, o = .returned v ∧ (Q_row_1_3 Z a0 a1 gi h0 n0) v U'.heap L ∧ FrameEnd U o U' L ({ frames := 0, cells := 1, slots := 3, locals := 0 } : Room).cells ({ frames := 0, cells := 1, slots := 3, locals := 0 } : Room).slots) := by
  refine MetFree.of_bodySF (plainFor_of_name own_pn_BitMatrix) hisR ?_
  intro p e s m args below meth c s₁ Bd hml0 hP hK
  obtain ⟨rfl, hZ, hh⟩ := hP
  have hx := Bd.exec
  have hby := Bd.bytes
  have hml : c.maxLocals = 7 := hml0
  have hown : s.vm.findClass "com/example/sieveline/sieveline/solver/BitMatrix" = some m.cls := findClass_of_methodNamed Bd.named
  have hnm := (name_of_methodNamed Bd.named Bd.method).1
  have hlk : meth.locks = false := BodyLoose.notSynchronized Bd
  have X0 : Stand p l e ({ frames := 0, cells := 1, slots := 3, locals := 0 } : Room) s m #[(.ref a0), (.ref a1)] below meth c s₁ [] 0 0 := Stand.of_body Bd
  have e0 : s₁.heap = h0 := by rw [← hh, Bd.state]; rfl
  have N0 := Fr.nil n0
  have K0 : Keep h0 h0 [] := Keep.refl _ _
  show ownEnds p e below s (Q_row_1_3 Z a0 a1 gi h0 n0) ({ frames := 0, cells := 1, slots := 3, locals := 0 } : Room).cells ({ frames := 0, cells := 1, slots := 3, locals := 0 } : Room).slots s₁ (entryFrame m #[(.ref a0), (.ref a1)] 7)
  refine ownCast (own_ef6_row_1_3 m a0 a1) ?_
  refine ow_aloadN (q := 1) X0 hx (hb hby own_d6_0) rfl rfl rfl ?_
  obtain ⟨T1, X1, e1, st1⟩ := getF X0 hx hZ hown (host := "") (Or.inl (hw _ (List.mem_of_getElem? (i := 13) rfl))) Via.refl e0 HF0 (g := (mkF m 1 #[rv a0, rv a1, .unset, .unset, .unset, .unset, .unset] [(.ref a0)])) rfl rfl (hb hby own_d6_1)
  refine ownGo (T' := T1) (f' := (mkF m 4 #[rv a0, rv a1, .unset, .unset, .unset, .unset, .unset] [(.int (3 : Int32))])) (st1) ?_
  obtain ⟨T2, h2, k2, X2, e2, E2, A2, st2⟩ := newP X1 hx hZ (hw _ (List.mem_of_getElem? (i := 22) rfl)) e1 (g := (mkF m 4 #[rv a0, rv a1, .unset, .unset, .unset, .unset, .unset] [(.int (3 : Int32))])) rfl (hb hby own_d6_4) rfl (by decide) (cap := 3) (by decide) (by decide) (by decide) (by decide)
  obtain ⟨b2, g2⟩ : ∃ z, z = h0.size := ⟨_, rfl⟩
  rw [← g2] at A2 st2
  have ne_a0_b2 : a0 ≠ b2 := Nat.ne_of_lt (Nat.lt_of_lt_of_le HF0.lt (Nat.le_of_eq g2.symm))
  have ne_a1_b2 : a1 ≠ b2 := Nat.ne_of_lt (Nat.lt_of_lt_of_le HF1.lt (Nat.le_of_eq g2.symm))
  have sz_b2 : h0.size ≤ b2 := Nat.le_trans K0.1 (Nat.le_of_eq g2.symm)
  have G_b2 : n0 ≤ b2 := Nat.le_trans Z0 sz_b2
  have K2 : Keep h0 h2 [] := K0.ext E2
  have F3 : Fld Z h2 a0 "com/example/sieveline/sieveline/solver/BitMatrix" "rowWords" "I" (.int (3 : Int32)) := HF0.ext E2
  have F4 : ownAI Z h2 a1 .int 1 gi := HF1.ext E2
  have F5 : ownAJ Z h2 b2 3 (fun _ => (0 : Int64)) := ownAJ.new A2 (by decide) (by decide)
  refine ownGo (T' := T2) (f' := (mkF m 6 #[rv a0, rv a1, .unset, .unset, .unset, .unset, .unset] [(.ref b2)])) (st2) ?_
  refine ow_astoreN (q := 7) X2 hx (L' := #[rv a0, rv a1, rv b2, .unset, .unset, .unset, .unset]) (hb hby own_d6_6) rfl rfl rfl ?_
  refine ow_aloadN (q := 8) X2 hx (hb hby own_d6_7) rfl rfl rfl ?_
  refine ow_astoreN (q := 9) X2 hx (L' := #[rv a0, rv a1, rv b2, rv a1, .unset, .unset, .unset]) (hb hby own_d6_8) rfl rfl rfl ?_
  refine ow_aloadN (q := 10) X2 hx (hb hby own_d6_9) rfl rfl rfl ?_
  refine ownGo (T' := T2) (f' := (mkF m 11 #[rv a0, rv a1, rv b2, rv a1, .unset, .unset, .unset] [(.int (1 : Int32))])) (ownLenI F4 X2 hx hZ e2 (z := (1 : Int32)) (by decide) (g := (mkF m 10 #[rv a0, rv a1, rv b2, rv a1, .unset, .unset, .unset] [(.ref a1)])) rfl rfl (hb hby own_d6_10)) ?_
  refine ow_istore (q := 13) X2 hx (L' := #[rv a0, rv a1, rv b2, rv a1, iv (1 : Int32), .unset, .unset]) (hb hby own_d6_11) rfl rfl ?_
  refine ow_iconst (q := 14) X2 hx (0 : Int32) (hb hby own_d6_13) rfl rfl ?_
  refine ow_istore (q := 16) X2 hx (L' := #[rv a0, rv a1, rv b2, rv a1, iv (1 : Int32), iv (0 : Int32), .unset]) (hb hby own_d6_14) rfl rfl ?_
  refine ow_iload (q := 18) X2 hx (hb hby own_d6_16) rfl rfl ?_
  refine ow_iload (q := 20) X2 hx (hb hby own_d6_18) rfl rfl ?_
  refine ow_icmpNo (q := 23) X2 hx (hb hby own_d6_20) rfl (Jvm.Free.XT.ii_ge_f (by decide)) ?_
  refine ow_aloadN (q := 24) X2 hx (hb hby own_d6_23) rfl rfl rfl ?_
  refine ow_iload (q := 26) X2 hx (hb hby own_d6_24) rfl rfl ?_
  refine ownGo (T' := T2) (f' := (mkF m 27 #[rv a0, rv a1, rv b2, rv a1, iv (1 : Int32), iv (0 : Int32), .unset] [(.int (gi 0))])) (ownIaload F4 X2 hx hZ e2 (j := (0 : Int32)) (by unfold ownIn; decide) (g := (mkF m 26 #[rv a0, rv a1, rv b2, rv a1, iv (1 : Int32), iv (0 : Int32), .unset] [(.int (0 : Int32)), (.ref a1)])) rfl rfl (hb hby own_d6_26)) ?_
  generalize hv_v6 : (gi 0) = v6
  refine ow_istore (q := 29) X2 hx (L' := #[rv a0, rv a1, rv b2, rv a1, iv (1 : Int32), iv (0 : Int32), iv v6]) (hb hby own_d6_27) rfl rfl ?_
  refine ow_aloadN (q := 30) X2 hx (hb hby own_d6_29) rfl rfl rfl ?_
  refine ow_iload (q := 32) X2 hx (hb hby own_d6_30) rfl rfl ?_
  refine ow_bipush (q := 34) X2 hx (64 : Int32) (hb hby own_d6_32) rfl rfl ?_
  refine ow_idiv (q := 35) X2 hx _ (hb hby own_d6_34) rfl (by decide) rfl ?_
  refine ow_dup2 (q := 36) X2 hx (hb hby own_d6_35) rfl rfl rfl ?_
  generalize hv_v7 : (v6 / (64 : Int32)) = v7
  refine ownGo (T' := T2) (f' := (mkF m 37 #[rv a0, rv a1, rv b2, rv a1, iv (1 : Int32), iv (0 : Int32), iv v6] [(.long ((fun _ => (0 : Int64)) v7.toNatClampNeg)), (.int v7), (.ref b2)])) (ownLaload F5 X2 hx hZ e2 (j := v7) (own_ixw (L := 3) hv_v7 (by rw [← hv_v6]; first | exact hr0 | exact hr1 | exact hr2)) (g := (mkF m 36 #[rv a0, rv a1, rv b2, rv a1, iv (1 : Int32), iv (0 : Int32), iv v6] [(.int v7), (.ref b2), (.int v7), (.ref b2)])) rfl rfl (hb hby own_d6_36)) ?_
  generalize hv_v8 : ((fun _ => (0 : Int64)) v7.toNatClampNeg) = v8
  refine ow_lconst (q := 38) X2 hx (1 : Int64) (hb hby own_d6_37) rfl rfl ?_
  refine ow_iload (q := 40) X2 hx (hb hby own_d6_38) rfl rfl ?_
  refine ow_lshl (q := 41) X2 hx _ (hb hby own_d6_40) rfl rfl ?_
  refine ow_lor (q := 42) X2 hx _ (hb hby own_d6_41) rfl rfl ?_
  generalize hv_v9 : (v8 ||| ((1 : Int64) <<< (v6 &&& 0x3f).toInt64)) = v9
  obtain ⟨T10, h10, X10, e10, W10, F10s, st10⟩ := ownLastore F5 X2 hx hZ e2 (j := v7) (own_ixw (L := 3) hv_v7 (by rw [← hv_v6]; first | exact hr0 | exact hr1 | exact hr2)) (g := (mkF m 42 #[rv a0, rv a1, rv b2, rv a1, iv (1 : Int32), iv (0 : Int32), iv v6] [(.long v9), (.int v7), (.ref b2)])) rfl rfl (hb hby own_d6_42)
  generalize hg_gf10 : (ownUpd (fun _ => (0 : Int64)) v7.toNatClampNeg v9) = gf10 at F10s
  have N10 := Fr.snoc X10 N0 G_b2
  have K10 : Keep h0 h10 [] := K2.wr W10 (Or.inr sz_b2)
  have F11 : Fld Z h10 a0 "com/example/sieveline/sieveline/solver/BitMatrix" "rowWords" "I" (.int (3 : Int32)) := F3.other W10 (Or.inl ne_a0_b2)
  have F12 : ownAI Z h10 a1 .int 1 gi := F4.other W10 ne_a1_b2
  refine ownGo (T' := T10) (f' := (mkF m 43 #[rv a0, rv a1, rv b2, rv a1, iv (1 : Int32), iv (0 : Int32), iv v6] [])) (st10) ?_
  refine ow_iinc (q := 46) X10 hx (L' := #[rv a0, rv a1, rv b2, rv a1, iv (1 : Int32), iv (1 : Int32), iv v6]) (hb hby own_d6_43) rfl rfl rfl ?_
  refine ow_goto (q := 16) X10 hx (hb hby own_d6_46) (by decide) (by decide) ?_
  refine ow_iload (q := 18) X10 hx (hb hby own_d6_16) rfl rfl ?_
  refine ow_iload (q := 20) X10 hx (hb hby own_d6_18) rfl rfl ?_
  refine ow_icmpYes (q := 49) X10 hx (hb hby own_d6_20) (Jvm.Free.XT.ii_ge_t (by decide)) (by decide) (by decide) ?_
  refine ow_aloadN (q := 50) X10 hx (hb hby own_d6_49) rfl rfl rfl ?_
  refine ownRetR X10 hx rfl rfl rfl Bd.returns (hb hby own_d6_50) hlk (by decide) (by decide) ?_
  subst hg_gf10 hv_v9 hv_v8 hv_v7 hv_v6
  rw [e10]
  exact ⟨b2, rfl, N10, K10, sz_b2, F10s⟩
theorem own_ef6_row_1_4 (m : MethodId) (a0 : Addr) (a1 : Addr) : entryFrame m #[(.ref a0), (.ref a1)] 7 = mkF m 0 #[rv a0, rv a1, .unset, .unset, .unset, .unset, .unset] [] := by first | (simp [entryFrame, mkF, argsToLocals, Value.category]; done) | rfl
def Q_row_1_4 (Z : State) (a0 : Addr) (a1 : Addr) (gi : Nat → Int32) (h0 : Heap) (n0 : Nat) (v : Option Value) (h : Heap) (L : List Loc) : Prop := ∃ (r : Addr), v = some (.ref r) ∧ Fr n0 L ∧ Keep h0 h [] ∧ h0.size ≤ r ∧ ownAJ Z h r 4 (own_or1 (fun _ => (0 : Int64)) (gi 0))
set_option maxRecDepth 65536 in
set_option maxHeartbeats 40000000 in
theorem rm_row_1_4 (l : Launch) (Z : State) (av0 : Array Value) (hw : ∀ d ∈ tables_1, d.before av0 Z = true) (ws : List Jvm.Cond) (a0 : Addr) (a1 : Addr) (gi : Nat → Int32) (h0 : Heap) (n0 : Nat) (Z0 : n0 ≤ h0.size) (HF0 : Fld Z h0 a0 "com/example/sieveline/sieveline/solver/BitMatrix" "rowWords" "I" (.int (4 : Int32))) (HF1 : ownAI Z h0 a1 .int 1 gi) (hr0 : 0 ≤ (gi 0).toInt ∧ (gi 0).toInt < 256) :
    MetFree l (⟨"com/example/sieveline/sieveline/solver/BitMatrix", "row", "([I)[J"⟩ : MethodName) (head1 (Jvm.Cond.code (⟨"com/example/sieveline/sieveline/solver/BitMatrix", "row", "([I)[J"⟩ : MethodName) prog_49_method_6_code 7 (some (.array .long)) :: ws) ({ frames := 0, cells := 1, slots := 4, locals := 0 } : Room)) (fun a U => a = #[(.ref a0), (.ref a1)] ∧ Z.Warmed39 U.vm ∧ U.heap = h0) (fun _ _ _ _ _ => True) (fun _ U o U' => ∃ v L, o = .returned v ∧ (Q_row_1_4 Z a0 a1 gi h0 n0) v U'.heap L ∧ FrameEnd U o U' L ({ frames := 0, cells := 1, slots := 4, locals := 0 } : Room).cells ({ frames := 0, cells := 1, slots := 4, locals := 0 } : Room).slots) := by
  refine MetFree.of_bodySF (plainFor_of_name own_pn_BitMatrix) hisR ?_
  intro p e s m args below meth c s₁ Bd hml0 hP hK
  obtain ⟨rfl, hZ, hh⟩ := hP
  have hx := Bd.exec
  have hby := Bd.bytes
  have hml : c.maxLocals = 7 := hml0
  have hown : s.vm.findClass "com/example/sieveline/sieveline/solver/BitMatrix" = some m.cls := findClass_of_methodNamed Bd.named
  have hnm := (name_of_methodNamed Bd.named Bd.method).1
  have hlk : meth.locks = false := BodyLoose.notSynchronized Bd
  have X0 : Stand p l e ({ frames := 0, cells := 1, slots := 4, locals := 0 } : Room) s m #[(.ref a0), (.ref a1)] below meth c s₁ [] 0 0 := Stand.of_body Bd
  have e0 : s₁.heap = h0 := by rw [← hh, Bd.state]; rfl
  have N0 := Fr.nil n0
  have K0 : Keep h0 h0 [] := Keep.refl _ _
  show ownEnds p e below s (Q_row_1_4 Z a0 a1 gi h0 n0) ({ frames := 0, cells := 1, slots := 4, locals := 0 } : Room).cells ({ frames := 0, cells := 1, slots := 4, locals := 0 } : Room).slots s₁ (entryFrame m #[(.ref a0), (.ref a1)] 7)
  refine ownCast (own_ef6_row_1_4 m a0 a1) ?_
  refine ow_aloadN (q := 1) X0 hx (hb hby own_d6_0) rfl rfl rfl ?_
  obtain ⟨T1, X1, e1, st1⟩ := getF X0 hx hZ hown (host := "") (Or.inl (hw _ (List.mem_of_getElem? (i := 13) rfl))) Via.refl e0 HF0 (g := (mkF m 1 #[rv a0, rv a1, .unset, .unset, .unset, .unset, .unset] [(.ref a0)])) rfl rfl (hb hby own_d6_1)
  refine ownGo (T' := T1) (f' := (mkF m 4 #[rv a0, rv a1, .unset, .unset, .unset, .unset, .unset] [(.int (4 : Int32))])) (st1) ?_
  obtain ⟨T2, h2, k2, X2, e2, E2, A2, st2⟩ := newP X1 hx hZ (hw _ (List.mem_of_getElem? (i := 22) rfl)) e1 (g := (mkF m 4 #[rv a0, rv a1, .unset, .unset, .unset, .unset, .unset] [(.int (4 : Int32))])) rfl (hb hby own_d6_4) rfl (by decide) (cap := 4) (by decide) (by decide) (by decide) (by decide)
  obtain ⟨b2, g2⟩ : ∃ z, z = h0.size := ⟨_, rfl⟩
  rw [← g2] at A2 st2
  have ne_a0_b2 : a0 ≠ b2 := Nat.ne_of_lt (Nat.lt_of_lt_of_le HF0.lt (Nat.le_of_eq g2.symm))
  have ne_a1_b2 : a1 ≠ b2 := Nat.ne_of_lt (Nat.lt_of_lt_of_le HF1.lt (Nat.le_of_eq g2.symm))
  have sz_b2 : h0.size ≤ b2 := Nat.le_trans K0.1 (Nat.le_of_eq g2.symm)
  have G_b2 : n0 ≤ b2 := Nat.le_trans Z0 sz_b2
  have K2 : Keep h0 h2 [] := K0.ext E2
  have F3 : Fld Z h2 a0 "com/example/sieveline/sieveline/solver/BitMatrix" "rowWords" "I" (.int (4 : Int32)) := HF0.ext E2
  have F4 : ownAI Z h2 a1 .int 1 gi := HF1.ext E2
  have F5 : ownAJ Z h2 b2 4 (fun _ => (0 : Int64)) := ownAJ.new A2 (by decide) (by decide)
  refine ownGo (T' := T2) (f' := (mkF m 6 #[rv a0, rv a1, .unset, .unset, .unset, .unset, .unset] [(.ref b2)])) (st2) ?_
  refine ow_astoreN (q := 7) X2 hx (L' := #[rv a0, rv a1, rv b2, .unset, .unset, .unset, .unset]) (hb hby own_d6_6) rfl rfl rfl ?_
  refine ow_aloadN (q := 8) X2 hx (hb hby own_d6_7) rfl rfl rfl ?_
  refine ow_astoreN (q := 9) X2 hx (L' := #[rv a0, rv a1, rv b2, rv a1, .unset, .unset, .unset]) (hb hby own_d6_8) rfl rfl rfl ?_
  refine ow_aloadN (q := 10) X2 hx (hb hby own_d6_9) rfl rfl rfl ?_
  refine ownGo (T' := T2) (f' := (mkF m 11 #[rv a0, rv a1, rv b2, rv a1, .unset, .unset, .unset] [(.int (1 : Int32))])) (ownLenI F4 X2 hx hZ e2 (z := (1 : Int32)) (by decide) (g := (mkF m 10 #[rv a0, rv a1, rv b2, rv a1, .unset, .unset, .unset] [(.ref a1)])) rfl rfl (hb hby own_d6_10)) ?_
  refine ow_istore (q := 13) X2 hx (L' := #[rv a0, rv a1, rv b2, rv a1, iv (1 : Int32), .unset, .unset]) (hb hby own_d6_11) rfl rfl ?_
  refine ow_iconst (q := 14) X2 hx (0 : Int32) (hb hby own_d6_13) rfl rfl ?_
  refine ow_istore (q := 16) X2 hx (L' := #[rv a0, rv a1, rv b2, rv a1, iv (1 : Int32), iv (0 : Int32), .unset]) (hb hby own_d6_14) rfl rfl ?_
  refine ow_iload (q := 18) X2 hx (hb hby own_d6_16) rfl rfl ?_
  refine ow_iload (q := 20) X2 hx (hb hby own_d6_18) rfl rfl ?_
  refine ow_icmpNo (q := 23) X2 hx (hb hby own_d6_20) rfl (Jvm.Free.XT.ii_ge_f (by decide)) ?_
  refine ow_aloadN (q := 24) X2 hx (hb hby own_d6_23) rfl rfl rfl ?_
  refine ow_iload (q := 26) X2 hx (hb hby own_d6_24) rfl rfl ?_
  refine ownGo (T' := T2) (f' := (mkF m 27 #[rv a0, rv a1, rv b2, rv a1, iv (1 : Int32), iv (0 : Int32), .unset] [(.int (gi 0))])) (ownIaload F4 X2 hx hZ e2 (j := (0 : Int32)) (by unfold ownIn; decide) (g := (mkF m 26 #[rv a0, rv a1, rv b2, rv a1, iv (1 : Int32), iv (0 : Int32), .unset] [(.int (0 : Int32)), (.ref a1)])) rfl rfl (hb hby own_d6_26)) ?_
  generalize hv_v6 : (gi 0) = v6
  refine ow_istore (q := 29) X2 hx (L' := #[rv a0, rv a1, rv b2, rv a1, iv (1 : Int32), iv (0 : Int32), iv v6]) (hb hby own_d6_27) rfl rfl ?_
  refine ow_aloadN (q := 30) X2 hx (hb hby own_d6_29) rfl rfl rfl ?_
  refine ow_iload (q := 32) X2 hx (hb hby own_d6_30) rfl rfl ?_
  refine ow_bipush (q := 34) X2 hx (64 : Int32) (hb hby own_d6_32) rfl rfl ?_
  refine ow_idiv (q := 35) X2 hx _ (hb hby own_d6_34) rfl (by decide) rfl ?_
  refine ow_dup2 (q := 36) X2 hx (hb hby own_d6_35) rfl rfl rfl ?_
  generalize hv_v7 : (v6 / (64 : Int32)) = v7
  refine ownGo (T' := T2) (f' := (mkF m 37 #[rv a0, rv a1, rv b2, rv a1, iv (1 : Int32), iv (0 : Int32), iv v6] [(.long ((fun _ => (0 : Int64)) v7.toNatClampNeg)), (.int v7), (.ref b2)])) (ownLaload F5 X2 hx hZ e2 (j := v7) (own_ixw (L := 4) hv_v7 (by rw [← hv_v6]; first | exact hr0 | exact hr1 | exact hr2)) (g := (mkF m 36 #[rv a0, rv a1, rv b2, rv a1, iv (1 : Int32), iv (0 : Int32), iv v6] [(.int v7), (.ref b2), (.int v7), (.ref b2)])) rfl rfl (hb hby own_d6_36)) ?_
  generalize hv_v8 : ((fun _ => (0 : Int64)) v7.toNatClampNeg) = v8
  refine ow_lconst (q := 38) X2 hx (1 : Int64) (hb hby own_d6_37) rfl rfl ?_
  refine ow_iload (q := 40) X2 hx (hb hby own_d6_38) rfl rfl ?_
  refine ow_lshl (q := 41) X2 hx _ (hb hby own_d6_40) rfl rfl ?_
  refine ow_lor (q := 42) X2 hx _ (hb hby own_d6_41) rfl rfl ?_
  generalize hv_v9 : (v8 ||| ((1 : Int64) <<< (v6 &&& 0x3f).toInt64)) = v9
  obtain ⟨T10, h10, X10, e10, W10, F10s, st10⟩ := ownLastore F5 X2 hx hZ e2 (j := v7) (own_ixw (L := 4) hv_v7 (by rw [← hv_v6]; first | exact hr0 | exact hr1 | exact hr2)) (g := (mkF m 42 #[rv a0, rv a1, rv b2, rv a1, iv (1 : Int32), iv (0 : Int32), iv v6] [(.long v9), (.int v7), (.ref b2)])) rfl rfl (hb hby own_d6_42)
  generalize hg_gf10 : (ownUpd (fun _ => (0 : Int64)) v7.toNatClampNeg v9) = gf10 at F10s
  have N10 := Fr.snoc X10 N0 G_b2
  have K10 : Keep h0 h10 [] := K2.wr W10 (Or.inr sz_b2)
  have F11 : Fld Z h10 a0 "com/example/sieveline/sieveline/solver/BitMatrix" "rowWords" "I" (.int (4 : Int32)) := F3.other W10 (Or.inl ne_a0_b2)
  have F12 : ownAI Z h10 a1 .int 1 gi := F4.other W10 ne_a1_b2
  refine ownGo (T' := T10) (f' := (mkF m 43 #[rv a0, rv a1, rv b2, rv a1, iv (1 : Int32), iv (0 : Int32), iv v6] [])) (st10) ?_
  refine ow_iinc (q := 46) X10 hx (L' := #[rv a0, rv a1, rv b2, rv a1, iv (1 : Int32), iv (1 : Int32), iv v6]) (hb hby own_d6_43) rfl rfl rfl ?_
  refine ow_goto (q := 16) X10 hx (hb hby own_d6_46) (by decide) (by decide) ?_
  refine ow_iload (q := 18) X10 hx (hb hby own_d6_16) rfl rfl ?_
  refine ow_iload (q := 20) X10 hx (hb hby own_d6_18) rfl rfl ?_
  refine ow_icmpYes (q := 49) X10 hx (hb hby own_d6_20) (Jvm.Free.XT.ii_ge_t (by decide)) (by decide) (by decide) ?_
  refine ow_aloadN (q := 50) X10 hx (hb hby own_d6_49) rfl rfl rfl ?_
  refine ownRetR X10 hx rfl rfl rfl Bd.returns (hb hby own_d6_50) hlk (by decide) (by decide) ?_
  subst hg_gf10 hv_v9 hv_v8 hv_v7 hv_v6
  rw [e10]
  exact ⟨b2, rfl, N10, K10, sz_b2, F10s⟩
theorem own_ef6_row_2_1 (m : MethodId) (a0 : Addr) (a1 : Addr) : entryFrame m #[(.ref a0), (.ref a1)] 7 = mkF m 0 #[rv a0, rv a1, .unset, .unset, .unset, .unset, .unset] [] := by first | (simp [entryFrame, mkF, argsToLocals, Value.category]; done) | rfl
def Q_row_2_1 (Z : State) (a0 : Addr) (a1 : Addr) (gi : Nat → Int32) (h0 : Heap) (n0 : Nat) (v : Option Value) (h : Heap) (L : List Loc) : Prop := ∃ (r : Addr), v = some (.ref r) ∧ Fr n0 L ∧ Keep h0 h [] ∧ h0.size ≤ r ∧ ownAJ Z h r 1 (own_or1 (own_or1 (fun _ => (0 : Int64)) (gi 0)) (gi 1))
set_option maxRecDepth 65536 in
set_option maxHeartbeats 40000000 in
theorem rm_row_2_1 (l : Launch) (Z : State) (av0 : Array Value) (hw : ∀ d ∈ tables_1, d.before av0 Z = true) (ws : List Jvm.Cond) (a0 : Addr) (a1 : Addr) (gi : Nat → Int32) (h0 : Heap) (n0 : Nat) (Z0 : n0 ≤ h0.size) (HF0 : Fld Z h0 a0 "com/example/sieveline/sieveline/solver/BitMatrix" "rowWords" "I" (.int (1 : Int32))) (HF1 : ownAI Z h0 a1 .int 2 gi) (hr0 : 0 ≤ (gi 0).toInt ∧ (gi 0).toInt < 64) (hr1 : 0 ≤ (gi 1).toInt ∧ (gi 1).toInt < 64) :
    MetFree l (⟨"com/example/sieveline/sieveline/solver/BitMatrix", "row", "([I)[J"⟩ : MethodName) (head1 (Jvm.Cond.code (⟨"com/example/sieveline/sieveline/solver/BitMatrix", "row", "([I)[J"⟩ : MethodName) prog_49_method_6_code 7 (some (.array .long)) :: ws) ({ frames := 0, cells := 1, slots := 1, locals := 0 } : Room)) (fun a U => a = #[(.ref a0), (.ref a1)] ∧ Z.Warmed39 U.vm ∧ U.heap = h0) (fun _ _ _ _ _ => True) (fun _ U o U' => ∃ v L, o = .returned v ∧ (Q_row_2_1 Z a0 a1 gi h0 n0) v U'.heap L ∧ FrameEnd U o U' L ({ frames := 0, cells := 1, slots := 1, locals := 0 } : Room).cells ({ frames := 0, cells := 1, slots := 1, locals := 0 } : Room).slots) := by
  refine MetFree.of_bodySF (plainFor_of_name own_pn_BitMatrix) hisR ?_
  intro p e s m args below meth c s₁ Bd hml0 hP hK
  obtain ⟨rfl, hZ, hh⟩ := hP
  have hx := Bd.exec
  have hby := Bd.bytes
  have hml : c.maxLocals = 7 := hml0
  have hown : s.vm.findClass "com/example/sieveline/sieveline/solver/BitMatrix" = some m.cls := findClass_of_methodNamed Bd.named
  have hnm := (name_of_methodNamed Bd.named Bd.method).1
  have hlk : meth.locks = false := BodyLoose.notSynchronized Bd
  have X0 : Stand p l e ({ frames := 0, cells := 1, slots := 1, locals := 0 } : Room) s m #[(.ref a0), (.ref a1)] below meth c s₁ [] 0 0 := Stand.of_body Bd
  have e0 : s₁.heap = h0 := by rw [← hh, Bd.state]; rfl
  have N0 := Fr.nil n0
  have K0 : Keep h0 h0 [] := Keep.refl _ _
  show ownEnds p e below s (Q_row_2_1 Z a0 a1 gi h0 n0) ({ frames := 0, cells := 1, slots := 1, locals := 0 } : Room).cells ({ frames := 0, cells := 1, slots := 1, locals := 0 } : Room).slots s₁ (entryFrame m #[(.ref a0), (.ref a1)] 7)
  refine ownCast (own_ef6_row_2_1 m a0 a1) ?_
  refine ow_aloadN (q := 1) X0 hx (hb hby own_d6_0) rfl rfl rfl ?_
  obtain ⟨T1, X1, e1, st1⟩ := getF X0 hx hZ hown (host := "") (Or.inl (hw _ (List.mem_of_getElem? (i := 13) rfl))) Via.refl e0 HF0 (g := (mkF m 1 #[rv a0, rv a1, .unset, .unset, .unset, .unset, .unset] [(.ref a0)])) rfl rfl (hb hby own_d6_1)
  refine ownGo (T' := T1) (f' := (mkF m 4 #[rv a0, rv a1, .unset, .unset, .unset, .unset, .unset] [(.int (1 : Int32))])) (st1) ?_
  obtain ⟨T2, h2, k2, X2, e2, E2, A2, st2⟩ := newP X1 hx hZ (hw _ (List.mem_of_getElem? (i := 22) rfl)) e1 (g := (mkF m 4 #[rv a0, rv a1, .unset, .unset, .unset, .unset, .unset] [(.int (1 : Int32))])) rfl (hb hby own_d6_4) rfl (by decide) (cap := 1) (by decide) (by decide) (by decide) (by decide)
  obtain ⟨b2, g2⟩ : ∃ z, z = h0.size := ⟨_, rfl⟩
  rw [← g2] at A2 st2
  have ne_a0_b2 : a0 ≠ b2 := Nat.ne_of_lt (Nat.lt_of_lt_of_le HF0.lt (Nat.le_of_eq g2.symm))
  have ne_a1_b2 : a1 ≠ b2 := Nat.ne_of_lt (Nat.lt_of_lt_of_le HF1.lt (Nat.le_of_eq g2.symm))
  have sz_b2 : h0.size ≤ b2 := Nat.le_trans K0.1 (Nat.le_of_eq g2.symm)
  have G_b2 : n0 ≤ b2 := Nat.le_trans Z0 sz_b2
  have K2 : Keep h0 h2 [] := K0.ext E2
  have F3 : Fld Z h2 a0 "com/example/sieveline/sieveline/solver/BitMatrix" "rowWords" "I" (.int (1 : Int32)) := HF0.ext E2
  have F4 : ownAI Z h2 a1 .int 2 gi := HF1.ext E2
  have F5 : ownAJ Z h2 b2 1 (fun _ => (0 : Int64)) := ownAJ.new A2 (by decide) (by decide)
  refine ownGo (T' := T2) (f' := (mkF m 6 #[rv a0, rv a1, .unset, .unset, .unset, .unset, .unset] [(.ref b2)])) (st2) ?_
  refine ow_astoreN (q := 7) X2 hx (L' := #[rv a0, rv a1, rv b2, .unset, .unset, .unset, .unset]) (hb hby own_d6_6) rfl rfl rfl ?_
  refine ow_aloadN (q := 8) X2 hx (hb hby own_d6_7) rfl rfl rfl ?_
  refine ow_astoreN (q := 9) X2 hx (L' := #[rv a0, rv a1, rv b2, rv a1, .unset, .unset, .unset]) (hb hby own_d6_8) rfl rfl rfl ?_
  refine ow_aloadN (q := 10) X2 hx (hb hby own_d6_9) rfl rfl rfl ?_
  refine ownGo (T' := T2) (f' := (mkF m 11 #[rv a0, rv a1, rv b2, rv a1, .unset, .unset, .unset] [(.int (2 : Int32))])) (ownLenI F4 X2 hx hZ e2 (z := (2 : Int32)) (by decide) (g := (mkF m 10 #[rv a0, rv a1, rv b2, rv a1, .unset, .unset, .unset] [(.ref a1)])) rfl rfl (hb hby own_d6_10)) ?_
  refine ow_istore (q := 13) X2 hx (L' := #[rv a0, rv a1, rv b2, rv a1, iv (2 : Int32), .unset, .unset]) (hb hby own_d6_11) rfl rfl ?_
  refine ow_iconst (q := 14) X2 hx (0 : Int32) (hb hby own_d6_13) rfl rfl ?_
  refine ow_istore (q := 16) X2 hx (L' := #[rv a0, rv a1, rv b2, rv a1, iv (2 : Int32), iv (0 : Int32), .unset]) (hb hby own_d6_14) rfl rfl ?_
  refine ow_iload (q := 18) X2 hx (hb hby own_d6_16) rfl rfl ?_
  refine ow_iload (q := 20) X2 hx (hb hby own_d6_18) rfl rfl ?_
  refine ow_icmpNo (q := 23) X2 hx (hb hby own_d6_20) rfl (Jvm.Free.XT.ii_ge_f (by decide)) ?_
  refine ow_aloadN (q := 24) X2 hx (hb hby own_d6_23) rfl rfl rfl ?_
  refine ow_iload (q := 26) X2 hx (hb hby own_d6_24) rfl rfl ?_
  refine ownGo (T' := T2) (f' := (mkF m 27 #[rv a0, rv a1, rv b2, rv a1, iv (2 : Int32), iv (0 : Int32), .unset] [(.int (gi 0))])) (ownIaload F4 X2 hx hZ e2 (j := (0 : Int32)) (by unfold ownIn; decide) (g := (mkF m 26 #[rv a0, rv a1, rv b2, rv a1, iv (2 : Int32), iv (0 : Int32), .unset] [(.int (0 : Int32)), (.ref a1)])) rfl rfl (hb hby own_d6_26)) ?_
  generalize hv_v6 : (gi 0) = v6
  refine ow_istore (q := 29) X2 hx (L' := #[rv a0, rv a1, rv b2, rv a1, iv (2 : Int32), iv (0 : Int32), iv v6]) (hb hby own_d6_27) rfl rfl ?_
  refine ow_aloadN (q := 30) X2 hx (hb hby own_d6_29) rfl rfl rfl ?_
  refine ow_iload (q := 32) X2 hx (hb hby own_d6_30) rfl rfl ?_
  refine ow_bipush (q := 34) X2 hx (64 : Int32) (hb hby own_d6_32) rfl rfl ?_
  refine ow_idiv (q := 35) X2 hx _ (hb hby own_d6_34) rfl (by decide) rfl ?_
  refine ow_dup2 (q := 36) X2 hx (hb hby own_d6_35) rfl rfl rfl ?_
  generalize hv_v7 : (v6 / (64 : Int32)) = v7
  refine ownGo (T' := T2) (f' := (mkF m 37 #[rv a0, rv a1, rv b2, rv a1, iv (2 : Int32), iv (0 : Int32), iv v6] [(.long ((fun _ => (0 : Int64)) v7.toNatClampNeg)), (.int v7), (.ref b2)])) (ownLaload F5 X2 hx hZ e2 (j := v7) (own_ixw (L := 1) hv_v7 (by rw [← hv_v6]; first | exact hr0 | exact hr1 | exact hr2)) (g := (mkF m 36 #[rv a0, rv a1, rv b2, rv a1, iv (2 : Int32), iv (0 : Int32), iv v6] [(.int v7), (.ref b2), (.int v7), (.ref b2)])) rfl rfl (hb hby own_d6_36)) ?_
  generalize hv_v8 : ((fun _ => (0 : Int64)) v7.toNatClampNeg) = v8
  refine ow_lconst (q := 38) X2 hx (1 : Int64) (hb hby own_d6_37) rfl rfl ?_
  refine ow_iload (q := 40) X2 hx (hb hby own_d6_38) rfl rfl ?_
  refine ow_lshl (q := 41) X2 hx _ (hb hby own_d6_40) rfl rfl ?_
  refine ow_lor (q := 42) X2 hx _ (hb hby own_d6_41) rfl rfl ?_
  generalize hv_v9 : (v8 ||| ((1 : Int64) <<< (v6 &&& 0x3f).toInt64)) = v9
  obtain ⟨T10, h10, X10, e10, W10, F10s, st10⟩ := ownLastore F5 X2 hx hZ e2 (j := v7) (own_ixw (L := 1) hv_v7 (by rw [← hv_v6]; first | exact hr0 | exact hr1 | exact hr2)) (g := (mkF m 42 #[rv a0, rv a1, rv b2, rv a1, iv (2 : Int32), iv (0 : Int32), iv v6] [(.long v9), (.int v7), (.ref b2)])) rfl rfl (hb hby own_d6_42)
  generalize hg_gf10 : (ownUpd (fun _ => (0 : Int64)) v7.toNatClampNeg v9) = gf10 at F10s
  have N10 := Fr.snoc X10 N0 G_b2
  have K10 : Keep h0 h10 [] := K2.wr W10 (Or.inr sz_b2)
  have F11 : Fld Z h10 a0 "com/example/sieveline/sieveline/solver/BitMatrix" "rowWords" "I" (.int (1 : Int32)) := F3.other W10 (Or.inl ne_a0_b2)
  have F12 : ownAI Z h10 a1 .int 2 gi := F4.other W10 ne_a1_b2
  refine ownGo (T' := T10) (f' := (mkF m 43 #[rv a0, rv a1, rv b2, rv a1, iv (2 : Int32), iv (0 : Int32), iv v6] [])) (st10) ?_
  refine ow_iinc (q := 46) X10 hx (L' := #[rv a0, rv a1, rv b2, rv a1, iv (2 : Int32), iv (1 : Int32), iv v6]) (hb hby own_d6_43) rfl rfl rfl ?_
  refine ow_goto (q := 16) X10 hx (hb hby own_d6_46) (by decide) (by decide) ?_
  refine ow_iload (q := 18) X10 hx (hb hby own_d6_16) rfl rfl ?_
  refine ow_iload (q := 20) X10 hx (hb hby own_d6_18) rfl rfl ?_
  refine ow_icmpNo (q := 23) X10 hx (hb hby own_d6_20) rfl (Jvm.Free.XT.ii_ge_f (by decide)) ?_
  refine ow_aloadN (q := 24) X10 hx (hb hby own_d6_23) rfl rfl rfl ?_
  refine ow_iload (q := 26) X10 hx (hb hby own_d6_24) rfl rfl ?_
  refine ownGo (T' := T10) (f' := (mkF m 27 #[rv a0, rv a1, rv b2, rv a1, iv (2 : Int32), iv (1 : Int32), iv v6] [(.int (gi 1))])) (ownIaload F12 X10 hx hZ e10 (j := (1 : Int32)) (by unfold ownIn; decide) (g := (mkF m 26 #[rv a0, rv a1, rv b2, rv a1, iv (2 : Int32), iv (1 : Int32), iv v6] [(.int (1 : Int32)), (.ref a1)])) rfl rfl (hb hby own_d6_26)) ?_
  generalize hv_v13 : (gi 1) = v13
  refine ow_istore (q := 29) X10 hx (L' := #[rv a0, rv a1, rv b2, rv a1, iv (2 : Int32), iv (1 : Int32), iv v13]) (hb hby own_d6_27) rfl rfl ?_
  refine ow_aloadN (q := 30) X10 hx (hb hby own_d6_29) rfl rfl rfl ?_
  refine ow_iload (q := 32) X10 hx (hb hby own_d6_30) rfl rfl ?_
  refine ow_bipush (q := 34) X10 hx (64 : Int32) (hb hby own_d6_32) rfl rfl ?_
  refine ow_idiv (q := 35) X10 hx _ (hb hby own_d6_34) rfl (by decide) rfl ?_
  refine ow_dup2 (q := 36) X10 hx (hb hby own_d6_35) rfl rfl rfl ?_
  generalize hv_v14 : (v13 / (64 : Int32)) = v14
  refine ownGo (T' := T10) (f' := (mkF m 37 #[rv a0, rv a1, rv b2, rv a1, iv (2 : Int32), iv (1 : Int32), iv v13] [(.long (gf10 v14.toNatClampNeg)), (.int v14), (.ref b2)])) (ownLaload F10s X10 hx hZ e10 (j := v14) (own_ixw (L := 1) hv_v14 (by rw [← hv_v13]; first | exact hr0 | exact hr1 | exact hr2)) (g := (mkF m 36 #[rv a0, rv a1, rv b2, rv a1, iv (2 : Int32), iv (1 : Int32), iv v13] [(.int v14), (.ref b2), (.int v14), (.ref b2)])) rfl rfl (hb hby own_d6_36)) ?_
  generalize hv_v15 : (gf10 v14.toNatClampNeg) = v15
  refine ow_lconst (q := 38) X10 hx (1 : Int64) (hb hby own_d6_37) rfl rfl ?_
  refine ow_iload (q := 40) X10 hx (hb hby own_d6_38) rfl rfl ?_
  refine ow_lshl (q := 41) X10 hx _ (hb hby own_d6_40) rfl rfl ?_
  refine ow_lor (q := 42) X10 hx _ (hb hby own_d6_41) rfl rfl ?_
  generalize hv_v16 : (v15 ||| ((1 : Int64) <<< (v13 &&& 0x3f).toInt64)) = v16
  obtain ⟨T17, h17, X17, e17, W17, F17s, st17⟩ := ownLastore F10s X10 hx hZ e10 (j := v14) (own_ixw (L := 1) hv_v14 (by rw [← hv_v13]; first | exact hr0 | exact hr1 | exact hr2)) (g := (mkF m 42 #[rv a0, rv a1, rv b2, rv a1, iv (2 : Int32), iv (1 : Int32), iv v13] [(.long v16), (.int v14), (.ref b2)])) rfl rfl (hb hby own_d6_42)
  generalize hg_gf17 : (ownUpd gf10 v14.toNatClampNeg v16) = gf17 at F17s
  have N17 := Fr.snoc X17 N10 G_b2
  have K17 : Keep h0 h17 [] := K10.wr W17 (Or.inr sz_b2)
  have F18 : Fld Z h17 a0 "com/example/sieveline/sieveline/solver/BitMatrix" "rowWords" "I" (.int (1 : Int32)) := F11.other W17 (Or.inl ne_a0_b2)
  have F19 : ownAI Z h17 a1 .int 2 gi := F12.other W17 ne_a1_b2
  refine ownGo (T' := T17) (f' := (mkF m 43 #[rv a0, rv a1, rv b2, rv a1, iv (2 : Int32), iv (1 : Int32), iv v13] [])) (st17) ?_
  refine ow_iinc (q := 46) X17 hx (L' := #[rv a0, rv a1, rv b2, rv a1, iv (2 : Int32), iv (2 : Int32), iv v13]) (hb hby own_d6_43) rfl rfl rfl ?_
  refine ow_goto (q := 16) X17 hx (hb hby own_d6_46) (by decide) (by decide) ?_
  refine ow_iload (q := 18) X17 hx (hb hby own_d6_16) rfl rfl ?_
  refine ow_iload (q := 20) X17 hx (hb hby own_d6_18) rfl rfl ?_
  refine ow_icmpYes (q := 49) X17 hx (hb hby own_d6_20) (Jvm.Free.XT.ii_ge_t (by decide)) (by decide) (by decide) ?_
  refine ow_aloadN (q := 50) X17 hx (hb hby own_d6_49) rfl rfl rfl ?_
  refine ownRetR X17 hx rfl rfl rfl Bd.returns (hb hby own_d6_50) hlk (by decide) (by decide) ?_
  subst hg_gf17 hv_v16 hv_v15 hv_v14 hv_v13 hg_gf10 hv_v9 hv_v8 hv_v7 hv_v6
  rw [e17]
  exact ⟨b2, rfl, N17, K17, sz_b2, F17s⟩
theorem own_ef6_row_2_2 (m : MethodId) (a0 : Addr) (a1 : Addr) : entryFrame m #[(.ref a0), (.ref a1)] 7 = mkF m 0 #[rv a0, rv a1, .unset, .unset, .unset, .unset, .unset] [] := by first | (simp [entryFrame, mkF, argsToLocals, Value.category]; done) | rfl
def Q_row_2_2 (Z : State) (a0 : Addr) (a1 : Addr) (gi : Nat → Int32) (h0 : Heap) (n0 : Nat) (v : Option Value) (h : Heap) (L : List Loc) : Prop := ∃ (r : Addr), v = some (.ref r) ∧ Fr n0 L ∧ Keep h0 h [] ∧ h0.size ≤ r ∧ ownAJ Z h r 2 (own_or1 (own_or1 (fun _ => (0 : Int64)) (gi 0)) (gi 1))
set_option maxRecDepth 65536 in
set_option maxHeartbeats 40000000 in
theorem rm_row_2_2 (l : Launch) (Z : State) (av0 : Array Value) (hw : ∀ d ∈ tables_1, d.before av0 Z = true) (ws : List Jvm.Cond) (a0 : Addr) (a1 : Addr) (gi : Nat → Int32) (h0 : Heap) (n0 : Nat) (Z0 : n0 ≤ h0.size) (HF0 : Fld Z h0 a0 "com/example/sieveline/sieveline/solver/BitMatrix" "rowWords" "I" (.int (2 : Int32))) (HF1 : ownAI Z h0 a1 .int 2 gi) (hr0 : 0 ≤ (gi 0).toInt ∧ (gi 0).toInt < 128) (hr1 : 0 ≤ (gi 1).toInt ∧ (gi 1).toInt < 128) :
    MetFree l (⟨"com/example/sieveline/sieveline/solver/BitMatrix", "row", "([I)[J"⟩ : MethodName) (head1 (Jvm.Cond.code (⟨"com/example/sieveline/sieveline/solver/BitMatrix", "row", "([I)[J"⟩ : MethodName) prog_49_method_6_code 7 (some (.array .long)) :: ws) ({ frames := 0, cells := 1, slots := 2, locals := 0 } : Room)) (fun a U => a = #[(.ref a0), (.ref a1)] ∧ Z.Warmed39 U.vm ∧ U.heap = h0) (fun _ _ _ _ _ => True) (fun _ U o U' => ∃ v L, o = .returned v ∧ (Q_row_2_2 Z a0 a1 gi h0 n0) v U'.heap L ∧ FrameEnd U o U' L ({ frames := 0, cells := 1, slots := 2, locals := 0 } : Room).cells ({ frames := 0, cells := 1, slots := 2, locals := 0 } : Room).slots) := by
  refine MetFree.of_bodySF (plainFor_of_name own_pn_BitMatrix) hisR ?_
  intro p e s m args below meth c s₁ Bd hml0 hP hK
  obtain ⟨rfl, hZ, hh⟩ := hP
  have hx := Bd.exec
  have hby := Bd.bytes
  have hml : c.maxLocals = 7 := hml0
  have hown : s.vm.findClass "com/example/sieveline/sieveline/solver/BitMatrix" = some m.cls := findClass_of_methodNamed Bd.named
  have hnm := (name_of_methodNamed Bd.named Bd.method).1
  have hlk : meth.locks = false := BodyLoose.notSynchronized Bd
  have X0 : Stand p l e ({ frames := 0, cells := 1, slots := 2, locals := 0 } : Room) s m #[(.ref a0), (.ref a1)] below meth c s₁ [] 0 0 := Stand.of_body Bd
  have e0 : s₁.heap = h0 := by rw [← hh, Bd.state]; rfl
  have N0 := Fr.nil n0
  have K0 : Keep h0 h0 [] := Keep.refl _ _
  show ownEnds p e below s (Q_row_2_2 Z a0 a1 gi h0 n0) ({ frames := 0, cells := 1, slots := 2, locals := 0 } : Room).cells ({ frames := 0, cells := 1, slots := 2, locals := 0 } : Room).slots s₁ (entryFrame m #[(.ref a0), (.ref a1)] 7)
  refine ownCast (own_ef6_row_2_2 m a0 a1) ?_
  refine ow_aloadN (q := 1) X0 hx (hb hby own_d6_0) rfl rfl rfl ?_
  obtain ⟨T1, X1, e1, st1⟩ := getF X0 hx hZ hown (host := "") (Or.inl (hw _ (List.mem_of_getElem? (i := 13) rfl))) Via.refl e0 HF0 (g := (mkF m 1 #[rv a0, rv a1, .unset, .unset, .unset, .unset, .unset] [(.ref a0)])) rfl rfl (hb hby own_d6_1)
  refine ownGo (T' := T1) (f' := (mkF m 4 #[rv a0, rv a1, .unset, .unset, .unset, .unset, .unset] [(.int (2 : Int32))])) (st1) ?_
  obtain ⟨T2, h2, k2, X2, e2, E2, A2, st2⟩ := newP X1 hx hZ (hw _ (List.mem_of_getElem? (i := 22) rfl)) e1 (g := (mkF m 4 #[rv a0, rv a1, .unset, .unset, .unset, .unset, .unset] [(.int (2 : Int32))])) rfl (hb hby own_d6_4) rfl (by decide) (cap := 2) (by decide) (by decide) (by decide) (by decide)
  obtain ⟨b2, g2⟩ : ∃ z, z = h0.size := ⟨_, rfl⟩
  rw [← g2] at A2 st2
  have ne_a0_b2 : a0 ≠ b2 := Nat.ne_of_lt (Nat.lt_of_lt_of_le HF0.lt (Nat.le_of_eq g2.symm))
  have ne_a1_b2 : a1 ≠ b2 := Nat.ne_of_lt (Nat.lt_of_lt_of_le HF1.lt (Nat.le_of_eq g2.symm))
  have sz_b2 : h0.size ≤ b2 := Nat.le_trans K0.1 (Nat.le_of_eq g2.symm)
  have G_b2 : n0 ≤ b2 := Nat.le_trans Z0 sz_b2
  have K2 : Keep h0 h2 [] := K0.ext E2
  have F3 : Fld Z h2 a0 "com/example/sieveline/sieveline/solver/BitMatrix" "rowWords" "I" (.int (2 : Int32)) := HF0.ext E2
  have F4 : ownAI Z h2 a1 .int 2 gi := HF1.ext E2
  have F5 : ownAJ Z h2 b2 2 (fun _ => (0 : Int64)) := ownAJ.new A2 (by decide) (by decide)
  refine ownGo (T' := T2) (f' := (mkF m 6 #[rv a0, rv a1, .unset, .unset, .unset, .unset, .unset] [(.ref b2)])) (st2) ?_
  refine ow_astoreN (q := 7) X2 hx (L' := #[rv a0, rv a1, rv b2, .unset, .unset, .unset, .unset]) (hb hby own_d6_6) rfl rfl rfl ?_
  refine ow_aloadN (q := 8) X2 hx (hb hby own_d6_7) rfl rfl rfl ?_
  refine ow_astoreN (q := 9) X2 hx (L' := #[rv a0, rv a1, rv b2, rv a1, .unset, .unset, .unset]) (hb hby own_d6_8) rfl rfl rfl ?_
  refine ow_aloadN (q := 10) X2 hx (hb hby own_d6_9) rfl rfl rfl ?_
  refine ownGo (T' := T2) (f' := (mkF m 11 #[rv a0, rv a1, rv b2, rv a1, .unset, .unset, .unset] [(.int (2 : Int32))])) (ownLenI F4 X2 hx hZ e2 (z := (2 : Int32)) (by decide) (g := (mkF m 10 #[rv a0, rv a1, rv b2, rv a1, .unset, .unset, .unset] [(.ref a1)])) rfl rfl (hb hby own_d6_10)) ?_
  refine ow_istore (q := 13) X2 hx (L' := #[rv a0, rv a1, rv b2, rv a1, iv (2 : Int32), .unset, .unset]) (hb hby own_d6_11) rfl rfl ?_
  refine ow_iconst (q := 14) X2 hx (0 : Int32) (hb hby own_d6_13) rfl rfl ?_
  refine ow_istore (q := 16) X2 hx (L' := #[rv a0, rv a1, rv b2, rv a1, iv (2 : Int32), iv (0 : Int32), .unset]) (hb hby own_d6_14) rfl rfl ?_
  refine ow_iload (q := 18) X2 hx (hb hby own_d6_16) rfl rfl ?_
  refine ow_iload (q := 20) X2 hx (hb hby own_d6_18) rfl rfl ?_
  refine ow_icmpNo (q := 23) X2 hx (hb hby own_d6_20) rfl (Jvm.Free.XT.ii_ge_f (by decide)) ?_
  refine ow_aloadN (q := 24) X2 hx (hb hby own_d6_23) rfl rfl rfl ?_
  refine ow_iload (q := 26) X2 hx (hb hby own_d6_24) rfl rfl ?_
  refine ownGo (T' := T2) (f' := (mkF m 27 #[rv a0, rv a1, rv b2, rv a1, iv (2 : Int32), iv (0 : Int32), .unset] [(.int (gi 0))])) (ownIaload F4 X2 hx hZ e2 (j := (0 : Int32)) (by unfold ownIn; decide) (g := (mkF m 26 #[rv a0, rv a1, rv b2, rv a1, iv (2 : Int32), iv (0 : Int32), .unset] [(.int (0 : Int32)), (.ref a1)])) rfl rfl (hb hby own_d6_26)) ?_
  generalize hv_v6 : (gi 0) = v6
  refine ow_istore (q := 29) X2 hx (L' := #[rv a0, rv a1, rv b2, rv a1, iv (2 : Int32), iv (0 : Int32), iv v6]) (hb hby own_d6_27) rfl rfl ?_
  refine ow_aloadN (q := 30) X2 hx (hb hby own_d6_29) rfl rfl rfl ?_
  refine ow_iload (q := 32) X2 hx (hb hby own_d6_30) rfl rfl ?_
  refine ow_bipush (q := 34) X2 hx (64 : Int32) (hb hby own_d6_32) rfl rfl ?_
  refine ow_idiv (q := 35) X2 hx _ (hb hby own_d6_34) rfl (by decide) rfl ?_
  refine ow_dup2 (q := 36) X2 hx (hb hby own_d6_35) rfl rfl rfl ?_
  generalize hv_v7 : (v6 / (64 : Int32)) = v7
  refine ownGo (T' := T2) (f' := (mkF m 37 #[rv a0, rv a1, rv b2, rv a1, iv (2 : Int32), iv (0 : Int32), iv v6] [(.long ((fun _ => (0 : Int64)) v7.toNatClampNeg)), (.int v7), (.ref b2)])) (ownLaload F5 X2 hx hZ e2 (j := v7) (own_ixw (L := 2) hv_v7 (by rw [← hv_v6]; first | exact hr0 | exact hr1 | exact hr2)) (g := (mkF m 36 #[rv a0, rv a1, rv b2, rv a1, iv (2 : Int32), iv (0 : Int32), iv v6] [(.int v7), (.ref b2), (.int v7), (.ref b2)])) rfl rfl (hb hby own_d6_36)) ?_
  generalize hv_v8 : ((fun _ => (0 : Int64)) v7.toNatClampNeg) = v8
  refine ow_lconst (q := 38) X2 hx (1 : Int64) (hb hby own_d6_37) rfl rfl ?_
  refine ow_iload (q := 40) X2 hx (hb hby own_d6_38) rfl rfl ?_
  refine ow_lshl (q := 41) X2 hx _ (hb hby own_d6_40) rfl rfl ?_
  refine ow_lor (q := 42) X2 hx _ (hb hby own_d6_41) rfl rfl ?_
  generalize hv_v9 : (v8 ||| ((1 : Int64) <<< (v6 &&& 0x3f).toInt64)) = v9
  obtain ⟨T10, h10, X10, e10, W10, F10s, st10⟩ := ownLastore F5 X2 hx hZ e2 (j := v7) (own_ixw (L := 2) hv_v7 (by rw [← hv_v6]; first | exact hr0 | exact hr1 | exact hr2)) (g := (mkF m 42 #[rv a0, rv a1, rv b2, rv a1, iv (2 : Int32), iv (0 : Int32), iv v6] [(.long v9), (.int v7), (.ref b2)])) rfl rfl (hb hby own_d6_42)
  generalize hg_gf10 : (ownUpd (fun _ => (0 : Int64)) v7.toNatClampNeg v9) = gf10 at F10s
  have N10 := Fr.snoc X10 N0 G_b2
  have K10 : Keep h0 h10 [] := K2.wr W10 (Or.inr sz_b2)
  have F11 : Fld Z h10 a0 "com/example/sieveline/sieveline/solver/BitMatrix" "rowWords" "I" (.int (2 : Int32)) := F3.other W10 (Or.inl ne_a0_b2)
  have F12 : ownAI Z h10 a1 .int 2 gi := F4.other W10 ne_a1_b2
  refine ownGo (T' := T10) (f' := (mkF m 43 #[rv a0, rv a1, rv b2, rv a1, iv (2 : Int32), iv (0 : Int32), iv v6] [])) (st10) ?_
  refine ow_iinc (q := 46) X10 hx (L' := #[rv a0, rv a1, rv b2, rv a1, iv (2 : Int32), iv (1 : Int32), iv v6]) (hb hby own_d6_43) rfl rfl rfl ?_
  refine ow_goto (q := 16) X10 hx (hb hby own_d6_46) (by decide) (by decide) ?_
  refine ow_iload (q := 18) X10 hx (hb hby own_d6_16) rfl rfl ?_
  refine ow_iload (q := 20) X10 hx (hb hby own_d6_18) rfl rfl ?_
  refine ow_icmpNo (q := 23) X10 hx (hb hby own_d6_20) rfl (Jvm.Free.XT.ii_ge_f (by decide)) ?_
  refine ow_aloadN (q := 24) X10 hx (hb hby own_d6_23) rfl rfl rfl ?_
  refine ow_iload (q := 26) X10 hx (hb hby own_d6_24) rfl rfl ?_
  refine ownGo (T' := T10) (f' := (mkF m 27 #[rv a0, rv a1, rv b2, rv a1, iv (2 : Int32), iv (1 : Int32), iv v6] [(.int (gi 1))])) (ownIaload F12 X10 hx hZ e10 (j := (1 : Int32)) (by unfold ownIn; decide) (g := (mkF m 26 #[rv a0, rv a1, rv b2, rv a1, iv (2 : Int32), iv (1 : Int32), iv v6] [(.int (1 : Int32)), (.ref a1)])) rfl rfl (hb hby own_d6_26)) ?_
  generalize hv_v13 : (gi 1) = v13
  refine ow_istore (q := 29) X10 hx (L' := #[rv a0, rv a1, rv b2, rv a1, iv (2 : Int32), iv (1 : Int32), iv v13]) (hb hby own_d6_27) rfl rfl ?_
  refine ow_aloadN (q := 30) X10 hx (hb hby own_d6_29) rfl rfl rfl ?_
  refine ow_iload (q := 32) X10 hx (hb hby own_d6_30) rfl rfl ?_
  refine ow_bipush (q := 34) X10 hx (64 : Int32) (hb hby own_d6_32) rfl rfl ?_
  refine ow_idiv (q := 35) X10 hx _ (hb hby own_d6_34) rfl (by decide) rfl ?_
  refine ow_dup2 (q := 36) X10 hx (hb hby own_d6_35) rfl rfl rfl ?_
  generalize hv_v14 : (v13 / (64 : Int32)) = v14
  refine ownGo (T' := T10) (f' := (mkF m 37 #[rv a0, rv a1, rv b2, rv a1, iv (2 : Int32), iv (1 : Int32), iv v13] [(.long (gf10 v14.toNatClampNeg)), (.int v14), (.ref b2)])) (ownLaload F10s X10 hx hZ e10 (j := v14) (own_ixw (L := 2) hv_v14 (by rw [← hv_v13]; first | exact hr0 | exact hr1 | exact hr2)) (g := (mkF m 36 #[rv a0, rv a1, rv b2, rv a1, iv (2 : Int32), iv (1 : Int32), iv v13] [(.int v14), (.ref b2), (.int v14), (.ref b2)])) rfl rfl (hb hby own_d6_36)) ?_
  generalize hv_v15 : (gf10 v14.toNatClampNeg) = v15
  refine ow_lconst (q := 38) X10 hx (1 : Int64) (hb hby own_d6_37) rfl rfl ?_
  refine ow_iload (q := 40) X10 hx (hb hby own_d6_38) rfl rfl ?_
  refine ow_lshl (q := 41) X10 hx _ (hb hby own_d6_40) rfl rfl ?_
  refine ow_lor (q := 42) X10 hx _ (hb hby own_d6_41) rfl rfl ?_
  generalize hv_v16 : (v15 ||| ((1 : Int64) <<< (v13 &&& 0x3f).toInt64)) = v16
  obtain ⟨T17, h17, X17, e17, W17, F17s, st17⟩ := ownLastore F10s X10 hx hZ e10 (j := v14) (own_ixw (L := 2) hv_v14 (by rw [← hv_v13]; first | exact hr0 | exact hr1 | exact hr2)) (g := (mkF m 42 #[rv a0, rv a1, rv b2, rv a1, iv (2 : Int32), iv (1 : Int32), iv v13] [(.long v16), (.int v14), (.ref b2)])) rfl rfl (hb hby own_d6_42)
  generalize hg_gf17 : (ownUpd gf10 v14.toNatClampNeg v16) = gf17 at F17s
  have N17 := Fr.snoc X17 N10 G_b2
  have K17 : Keep h0 h17 [] := K10.wr W17 (Or.inr sz_b2)
  have F18 : Fld Z h17 a0 "com/example/sieveline/sieveline/solver/BitMatrix" "rowWords" "I" (.int (2 : Int32)) := F11.other W17 (Or.inl ne_a0_b2)
  have F19 : ownAI Z h17 a1 .int 2 gi := F12.other W17 ne_a1_b2
  refine ownGo (T' := T17) (f' := (mkF m 43 #[rv a0, rv a1, rv b2, rv a1, iv (2 : Int32), iv (1 : Int32), iv v13] [])) (st17) ?_
  refine ow_iinc (q := 46) X17 hx (L' := #[rv a0, rv a1, rv b2, rv a1, iv (2 : Int32), iv (2 : Int32), iv v13]) (hb hby own_d6_43) rfl rfl rfl ?_
  refine ow_goto (q := 16) X17 hx (hb hby own_d6_46) (by decide) (by decide) ?_
  refine ow_iload (q := 18) X17 hx (hb hby own_d6_16) rfl rfl ?_
  refine ow_iload (q := 20) X17 hx (hb hby own_d6_18) rfl rfl ?_
  refine ow_icmpYes (q := 49) X17 hx (hb hby own_d6_20) (Jvm.Free.XT.ii_ge_t (by decide)) (by decide) (by decide) ?_
  refine ow_aloadN (q := 50) X17 hx (hb hby own_d6_49) rfl rfl rfl ?_
  refine ownRetR X17 hx rfl rfl rfl Bd.returns (hb hby own_d6_50) hlk (by decide) (by decide) ?_
  subst hg_gf17 hv_v16 hv_v15 hv_v14 hv_v13 hg_gf10 hv_v9 hv_v8 hv_v7 hv_v6
  rw [e17]
  exact ⟨b2, rfl, N17, K17, sz_b2, F17s⟩
theorem own_ef6_row_2_3 (m : MethodId) (a0 : Addr) (a1 : Addr) : entryFrame m #[(.ref a0), (.ref a1)] 7 = mkF m 0 #[rv a0, rv a1, .unset, .unset, .unset, .unset, .unset] [] := by first | (simp [entryFrame, mkF, argsToLocals, Value.category]; done) | rfl
def Q_row_2_3 (Z : State) (a0 : Addr) (a1 : Addr) (gi : Nat → Int32) (h0 : Heap) (n0 : Nat) (v : Option Value) (h : Heap) (L : List Loc) : Prop := ∃ (r : Addr), v = some (.ref r) ∧ Fr n0 L ∧ Keep h0 h [] ∧ h0.size ≤ r ∧ ownAJ Z h r 3 (own_or1 (own_or1 (fun _ => (0 : Int64)) (gi 0)) (gi 1))
set_option maxRecDepth 65536 in
set_option maxHeartbeats 40000000 in
theorem rm_row_2_3 (l : Launch) (Z : State) (av0 : Array Value) (hw : ∀ d ∈ tables_1, d.before av0 Z = true) (ws : List Jvm.Cond) (a0 : Addr) (a1 : Addr) (gi : Nat → Int32) (h0 : Heap) (n0 : Nat) (Z0 : n0 ≤ h0.size) (HF0 : Fld Z h0 a0 "com/example/sieveline/sieveline/solver/BitMatrix" "rowWords" "I" (.int (3 : Int32))) (HF1 : ownAI Z h0 a1 .int 2 gi) (hr0 : 0 ≤ (gi 0).toInt ∧ (gi 0).toInt < 192) (hr1 : 0 ≤ (gi 1).toInt ∧ (gi 1).toInt < 192) :
    MetFree l (⟨"com/example/sieveline/sieveline/solver/BitMatrix", "row", "([I)[J"⟩ : MethodName) (head1 (Jvm.Cond.code (⟨"com/example/sieveline/sieveline/solver/BitMatrix", "row", "([I)[J"⟩ : MethodName) prog_49_method_6_code 7 (some (.array .long)) :: ws) ({ frames := 0, cells := 1, slots := 3, locals := 0 } : Room)) (fun a U => a = #[(.ref a0), (.ref a1)] ∧ Z.Warmed39 U.vm ∧ U.heap = h0) (fun _ _ _ _ _ => True) (fun _ U o U' => ∃ v L, o = .returned v ∧ (Q_row_2_3 Z a0 a1 gi h0 n0) v U'.heap L ∧ FrameEnd U o U' L ({ frames := 0, cells := 1, slots := 3, locals := 0 } : Room).cells ({ frames := 0, cells := 1, slots := 3, locals := 0 } : Room).slots) := by
  refine MetFree.of_bodySF (plainFor_of_name own_pn_BitMatrix) hisR ?_
  intro p e s m args below meth c s₁ Bd hml0 hP hK
  obtain ⟨rfl, hZ, hh⟩ := hP
  have hx := Bd.exec
  have hby := Bd.bytes
  have hml : c.maxLocals = 7 := hml0
  have hown : s.vm.findClass "com/example/sieveline/sieveline/solver/BitMatrix" = some m.cls := findClass_of_methodNamed Bd.named
  have hnm := (name_of_methodNamed Bd.named Bd.method).1
  have hlk : meth.locks = false := BodyLoose.notSynchronized Bd
  have X0 : Stand p l e ({ frames := 0, cells := 1, slots := 3, locals := 0 } : Room) s m #[(.ref a0), (.ref a1)] below meth c s₁ [] 0 0 := Stand.of_body Bd
  have e0 : s₁.heap = h0 := by rw [← hh, Bd.state]; rfl
  have N0 := Fr.nil n0
  have K0 : Keep h0 h0 [] := Keep.refl _ _
  show ownEnds p e below s (Q_row_2_3 Z a0 a1 gi h0 n0) ({ frames := 0, cells := 1, slots := 3, locals := 0 } : Room).cells ({ frames := 0, cells := 1, slots := 3, locals := 0 } : Room).slots s₁ (entryFrame m #[(.ref a0), (.ref a1)] 7)
  refine ownCast (own_ef6_row_2_3 m a0 a1) ?_
  refine ow_aloadN (q := 1) X0 hx (hb hby own_d6_0) rfl rfl rfl ?_
  obtain ⟨T1, X1, e1, st1⟩ := getF X0 hx hZ hown (host := "") (Or.inl (hw _ (List.mem_of_getElem? (i := 13) rfl))) Via.refl e0 HF0 (g := (mkF m 1 #[rv a0, rv a1, .unset, .unset, .unset, .unset, .unset] [(.ref a0)])) rfl rfl (hb hby own_d6_1)
  refine ownGo (T' := T1) (f' := (mkF m 4 #[rv a0, rv a1, .unset, .unset, .unset, .unset, .unset] [(.int (3 : Int32))])) (st1) ?_
  obtain ⟨T2, h2, k2, X2, e2, E2, A2, st2⟩ := newP X1 hx hZ (hw _ (List.mem_of_getElem? (i := 22) rfl)) e1 (g := (mkF m 4 #[rv a0, rv a1, .unset, .unset, .unset, .unset, .unset] [(.int (3 : Int32))])) rfl (hb hby own_d6_4) rfl (by decide) (cap := 3) (by decide) (by decide) (by decide) (by decide)
  obtain ⟨b2, g2⟩ : ∃ z, z = h0.size := ⟨_, rfl⟩
  rw [← g2] at A2 st2
  have ne_a0_b2 : a0 ≠ b2 := Nat.ne_of_lt (Nat.lt_of_lt_of_le HF0.lt (Nat.le_of_eq g2.symm))
  have ne_a1_b2 : a1 ≠ b2 := Nat.ne_of_lt (Nat.lt_of_lt_of_le HF1.lt (Nat.le_of_eq g2.symm))
  have sz_b2 : h0.size ≤ b2 := Nat.le_trans K0.1 (Nat.le_of_eq g2.symm)
  have G_b2 : n0 ≤ b2 := Nat.le_trans Z0 sz_b2
  have K2 : Keep h0 h2 [] := K0.ext E2
  have F3 : Fld Z h2 a0 "com/example/sieveline/sieveline/solver/BitMatrix" "rowWords" "I" (.int (3 : Int32)) := HF0.ext E2
  have F4 : ownAI Z h2 a1 .int 2 gi := HF1.ext E2
  have F5 : ownAJ Z h2 b2 3 (fun _ => (0 : Int64)) := ownAJ.new A2 (by decide) (by decide)
  refine ownGo (T' := T2) (f' := (mkF m 6 #[rv a0, rv a1, .unset, .unset, .unset, .unset, .unset] [(.ref b2)])) (st2) ?_
  refine ow_astoreN (q := 7) X2 hx (L' := #[rv a0, rv a1, rv b2, .unset, .unset, .unset, .unset]) (hb hby own_d6_6) rfl rfl rfl ?_
  refine ow_aloadN (q := 8) X2 hx (hb hby own_d6_7) rfl rfl rfl ?_
  refine ow_astoreN (q := 9) X2 hx (L' := #[rv a0, rv a1, rv b2, rv a1, .unset, .unset, .unset]) (hb hby own_d6_8) rfl rfl rfl ?_
  refine ow_aloadN (q := 10) X2 hx (hb hby own_d6_9) rfl rfl rfl ?_
  refine ownGo (T' := T2) (f' := (mkF m 11 #[rv a0, rv a1, rv b2, rv a1, .unset, .unset, .unset] [(.int (2 : Int32))])) (ownLenI F4 X2 hx hZ e2 (z := (2 : Int32)) (by decide) (g := (mkF m 10 #[rv a0, rv a1, rv b2, rv a1, .unset, .unset, .unset] [(.ref a1)])) rfl rfl (hb hby own_d6_10)) ?_
  refine ow_istore (q := 13) X2 hx (L' := #[rv a0, rv a1, rv b2, rv a1, iv (2 : Int32), .unset, .unset]) (hb hby own_d6_11) rfl rfl ?_
  refine ow_iconst (q := 14) X2 hx (0 : Int32) (hb hby own_d6_13) rfl rfl ?_
  refine ow_istore (q := 16) X2 hx (L' := #[rv a0, rv a1, rv b2, rv a1, iv (2 : Int32), iv (0 : Int32), .unset]) (hb hby own_d6_14) rfl rfl ?_
  refine ow_iload (q := 18) X2 hx (hb hby own_d6_16) rfl rfl ?_
  refine ow_iload (q := 20) X2 hx (hb hby own_d6_18) rfl rfl ?_
  refine ow_icmpNo (q := 23) X2 hx (hb hby own_d6_20) rfl (Jvm.Free.XT.ii_ge_f (by decide)) ?_
  refine ow_aloadN (q := 24) X2 hx (hb hby own_d6_23) rfl rfl rfl ?_
  refine ow_iload (q := 26) X2 hx (hb hby own_d6_24) rfl rfl ?_
  refine ownGo (T' := T2) (f' := (mkF m 27 #[rv a0, rv a1, rv b2, rv a1, iv (2 : Int32), iv (0 : Int32), .unset] [(.int (gi 0))])) (ownIaload F4 X2 hx hZ e2 (j := (0 : Int32)) (by unfold ownIn; decide) (g := (mkF m 26 #[rv a0, rv a1, rv b2, rv a1, iv (2 : Int32), iv (0 : Int32), .unset] [(.int (0 : Int32)), (.ref a1)])) rfl rfl (hb hby own_d6_26)) ?_
  generalize hv_v6 : (gi 0) = v6
  refine ow_istore (q := 29) X2 hx (L' := #[rv a0, rv a1, rv b2, rv a1, iv (2 : Int32), iv (0 : Int32), iv v6]) (hb hby own_d6_27) rfl rfl ?_
  refine ow_aloadN (q := 30) X2 hx (hb hby own_d6_29) rfl rfl rfl ?_
  refine ow_iload (q := 32) X2 hx (hb hby own_d6_30) rfl rfl ?_
  refine ow_bipush (q := 34) X2 hx (64 : Int32) (hb hby own_d6_32) rfl rfl ?_
  refine ow_idiv (q := 35) X2 hx _ (hb hby own_d6_34) rfl (by decide) rfl ?_
  refine ow_dup2 (q := 36) X2 hx (hb hby own_d6_35) rfl rfl rfl ?_
  generalize hv_v7 : (v6 / (64 : Int32)) = v7
  refine ownGo (T' := T2) (f' := (mkF m 37 #[rv a0, rv a1, rv b2, rv a1, iv (2 : Int32), iv (0 : Int32), iv v6] [(.long ((fun _ => (0 : Int64)) v7.toNatClampNeg)), (.int v7), (.ref b2)])) (ownLaload F5 X2 hx hZ e2 (j := v7) (own_ixw (L := 3) hv_v7 (by rw [← hv_v6]; first | exact hr0 | exact hr1 | exact hr2)) (g := (mkF m 36 #[rv a0, rv a1, rv b2, rv a1, iv (2 : Int32), iv (0 : Int32), iv v6] [(.int v7), (.ref b2), (.int v7), (.ref b2)])) rfl rfl (hb hby own_d6_36)) ?_
  generalize hv_v8 : ((fun _ => (0 : Int64)) v7.toNatClampNeg) = v8
  refine ow_lconst (q := 38) X2 hx (1 : Int64) (hb hby own_d6_37) rfl rfl ?_
  refine ow_iload (q := 40) X2 hx (hb hby own_d6_38) rfl rfl ?_
  refine ow_lshl (q := 41) X2 hx _ (hb hby own_d6_40) rfl rfl ?_
  refine ow_lor (q := 42) X2 hx _ (hb hby own_d6_41) rfl rfl ?_
  generalize hv_v9 : (v8 ||| ((1 : Int64) <<< (v6 &&& 0x3f).toInt64)) = v9
  obtain ⟨T10, h10, X10, e10, W10, F10s, st10⟩ := ownLastore F5 X2 hx hZ e2 (j := v7) (own_ixw (L := 3) hv_v7 (by rw [← hv_v6]; first | exact hr0 | exact hr1 | exact hr2)) (g := (mkF m 42 #[rv a0, rv a1, rv b2, rv a1, iv (2 : Int32), iv (0 : Int32), iv v6] [(.long v9), (.int v7), (.ref b2)])) rfl rfl (hb hby own_d6_42)
  generalize hg_gf10 : (ownUpd (fun _ => (0 : Int64)) v7.toNatClampNeg v9) = gf10 at F10s
  have N10 := Fr.snoc X10 N0 G_b2
  have K10 : Keep h0 h10 [] := K2.wr W10 (Or.inr sz_b2)
  have F11 : Fld Z h10 a0 "com/example/sieveline/sieveline/solver/BitMatrix" "rowWords" "I" (.int (3 : Int32)) := F3.other W10 (Or.inl ne_a0_b2)
  have F12 : ownAI Z h10 a1 .int 2 gi := F4.other W10 ne_a1_b2
  refine ownGo (T' := T10) (f' := (mkF m 43 #[rv a0, rv a1, rv b2, rv a1, iv (2 : Int32), iv (0 : Int32), iv v6] [])) (st10) ?_
  refine ow_iinc (q := 46) X10 hx (L' := #[rv a0, rv a1, rv b2, rv a1, iv (2 : Int32), iv (1 : Int32), iv v6]) (hb hby own_d6_43) rfl rfl rfl ?_
  refine ow_goto (q := 16) X10 hx (hb hby own_d6_46) (by decide) (by decide) ?_
  refine ow_iload (q := 18) X10 hx (hb hby own_d6_16) rfl rfl ?_
  refine ow_iload (q := 20) X10 hx (hb hby own_d6_18) rfl rfl ?_
  refine ow_icmpNo (q := 23) X10 hx (hb hby own_d6_20) rfl (Jvm.Free.XT.ii_ge_f (by decide)) ?_
  refine ow_aloadN (q := 24) X10 hx (hb hby own_d6_23) rfl rfl rfl ?_
  refine ow_iload (q := 26) X10 hx (hb hby own_d6_24) rfl rfl ?_
  refine ownGo (T' := T10) (f' := (mkF m 27 #[rv a0, rv a1, rv b2, rv a1, iv (2 : Int32), iv (1 : Int32), iv v6] [(.int (gi 1))])) (ownIaload F12 X10 hx hZ e10 (j := (1 : Int32)) (by unfold ownIn; decide) (g := (mkF m 26 #[rv a0, rv a1, rv b2, rv a1, iv (2 : Int32), iv (1 : Int32), iv v6] [(.int (1 : Int32)), (.ref a1)])) rfl rfl (hb hby own_d6_26)) ?_
  generalize hv_v13 : (gi 1) = v13
  refine ow_istore (q := 29) X10 hx (L' := #[rv a0, rv a1, rv b2, rv a1, iv (2 : Int32), iv (1 : Int32), iv v13]) (hb hby own_d6_27) rfl rfl ?_
  refine ow_aloadN (q := 30) X10 hx (hb hby own_d6_29) rfl rfl rfl ?_
  refine ow_iload (q := 32) X10 hx (hb hby own_d6_30) rfl rfl ?_
  refine ow_bipush (q := 34) X10 hx (64 : Int32) (hb hby own_d6_32) rfl rfl ?_
  refine ow_idiv (q := 35) X10 hx _ (hb hby own_d6_34) rfl (by decide) rfl ?_
  refine ow_dup2 (q := 36) X10 hx (hb hby own_d6_35) rfl rfl rfl ?_
  generalize hv_v14 : (v13 / (64 : Int32)) = v14
  refine ownGo (T' := T10) (f' := (mkF m 37 #[rv a0, rv a1, rv b2, rv a1, iv (2 : Int32), iv (1 : Int32), iv v13] [(.long (gf10 v14.toNatClampNeg)), (.int v14), (.ref b2)])) (ownLaload F10s X10 hx hZ e10 (j := v14) (own_ixw (L := 3) hv_v14 (by rw [← hv_v13]; first | exact hr0 | exact hr1 | exact hr2)) (g := (mkF m 36 #[rv a0, rv a1, rv b2, rv a1, iv (2 : Int32), iv (1 : Int32), iv v13] [(.int v14), (.ref b2), (.int v14), (.ref b2)])) rfl rfl (hb hby own_d6_36)) ?_
  generalize hv_v15 : (gf10 v14.toNatClampNeg) = v15
  refine ow_lconst (q := 38) X10 hx (1 : Int64) (hb hby own_d6_37) rfl rfl ?_
  refine ow_iload (q := 40) X10 hx (hb hby own_d6_38) rfl rfl ?_
  refine ow_lshl (q := 41) X10 hx _ (hb hby own_d6_40) rfl rfl ?_
  refine ow_lor (q := 42) X10 hx _ (hb hby own_d6_41) rfl rfl ?_
  generalize hv_v16 : (v15 ||| ((1 : Int64) <<< (v13 &&& 0x3f).toInt64)) = v16
  obtain ⟨T17, h17, X17, e17, W17, F17s, st17⟩ := ownLastore F10s X10 hx hZ e10 (j := v14) (own_ixw (L := 3) hv_v14 (by rw [← hv_v13]; first | exact hr0 | exact hr1 | exact hr2)) (g := (mkF m 42 #[rv a0, rv a1, rv b2, rv a1, iv (2 : Int32), iv (1 : Int32), iv v13] [(.long v16), (.int v14), (.ref b2)])) rfl rfl (hb hby own_d6_42)
  generalize hg_gf17 : (ownUpd gf10 v14.toNatClampNeg v16) = gf17 at F17s
  have N17 := Fr.snoc X17 N10 G_b2
  have K17 : Keep h0 h17 [] := K10.wr W17 (Or.inr sz_b2)
  have F18 : Fld Z h17 a0 "com/example/sieveline/sieveline/solver/BitMatrix" "rowWords" "I" (.int (3 : Int32)) := F11.other W17 (Or.inl ne_a0_b2)
  have F19 : ownAI Z h17 a1 .int 2 gi := F12.other W17 ne_a1_b2
  refine ownGo (T' := T17) (f' := (mkF m 43 #[rv a0, rv a1, rv b2, rv a1, iv (2 : Int32), iv (1 : Int32), iv v13] [])) (st17) ?_
  refine ow_iinc (q := 46) X17 hx (L' := #[rv a0, rv a1, rv b2, rv a1, iv (2 : Int32), iv (2 : Int32), iv v13]) (hb hby own_d6_43) rfl rfl rfl ?_
  refine ow_goto (q := 16) X17 hx (hb hby own_d6_46) (by decide) (by decide) ?_
  refine ow_iload (q := 18) X17 hx (hb hby own_d6_16) rfl rfl ?_
  refine ow_iload (q := 20) X17 hx (hb hby own_d6_18) rfl rfl ?_
  refine ow_icmpYes (q := 49) X17 hx (hb hby own_d6_20) (Jvm.Free.XT.ii_ge_t (by decide)) (by decide) (by decide) ?_
  refine ow_aloadN (q := 50) X17 hx (hb hby own_d6_49) rfl rfl rfl ?_
  refine ownRetR X17 hx rfl rfl rfl Bd.returns (hb hby own_d6_50) hlk (by decide) (by decide) ?_
  subst hg_gf17 hv_v16 hv_v15 hv_v14 hv_v13 hg_gf10 hv_v9 hv_v8 hv_v7 hv_v6
  rw [e17]
  exact ⟨b2, rfl, N17, K17, sz_b2, F17s⟩
theorem own_ef6_row_2_4 (m : MethodId) (a0 : Addr) (a1 : Addr) : entryFrame m #[(.ref a0), (.ref a1)] 7 = mkF m 0 #[rv a0, rv a1, .unset, .unset, .unset, .unset, .unset] [] := by first | (simp [entryFrame, mkF, argsToLocals, Value.category]; done) | rfl
def Q_row_2_4 (Z : State) (a0 : Addr) (a1 : Addr) (gi : Nat → Int32) (h0 : Heap) (n0 : Nat) (v : Option Value) (h : Heap) (L : List Loc) : Prop := ∃ (r : Addr), v = some (.ref r) ∧ Fr n0 L ∧ Keep h0 h [] ∧ h0.size ≤ r ∧ ownAJ Z h r 4 (own_or1 (own_or1 (fun _ => (0 : Int64)) (gi 0)) (gi 1))
set_option maxRecDepth 65536 in
set_option maxHeartbeats 40000000 in
theorem rm_row_2_4 (l : Launch) (Z : State) (av0 : Array Value) (hw : ∀ d ∈ tables_1, d.before av0 Z = true) (ws : List Jvm.Cond) (a0 : Addr) (a1 : Addr) (gi : Nat → Int32) (h0 : Heap) (n0 : Nat) (Z0 : n0 ≤ h0.size) (HF0 : Fld Z h0 a0 "com/example/sieveline/sieveline/solver/BitMatrix" "rowWords" "I" (.int (4 : Int32))) (HF1 : ownAI Z h0 a1 .int 2 gi) (hr0 : 0 ≤ (gi 0).toInt ∧ (gi 0).toInt < 256) (hr1 : 0 ≤ (gi 1).toInt ∧ (gi 1).toInt < 256) :
    MetFree l (⟨"com/example/sieveline/sieveline/solver/BitMatrix", "row", "([I)[J"⟩ : MethodName) (head1 (Jvm.Cond.code (⟨"com/example/sieveline/sieveline/solver/BitMatrix", "row", "([I)[J"⟩ : MethodName) prog_49_method_6_code 7 (some (.array .long)) :: ws) ({ frames := 0, cells := 1, slots := 4, locals := 0 } : Room)) (fun a U => a = #[(.ref a0), (.ref a1)] ∧ Z.Warmed39 U.vm ∧ U.heap = h0) (fun _ _ _ _ _ => True) (fun _ U o U' => ∃ v L, o = .returned v ∧ (Q_row_2_4 Z a0 a1 gi h0 n0) v U'.heap L ∧ FrameEnd U o U' L ({ frames := 0, cells := 1, slots := 4, locals := 0 } : Room).cells ({ frames := 0, cells := 1, slots := 4, locals := 0 } : Room).slots) := by
  refine MetFree.of_bodySF (plainFor_of_name own_pn_BitMatrix) hisR ?_
  intro p e s m args below meth c s₁ Bd hml0 hP hK
  obtain ⟨rfl, hZ, hh⟩ := hP
  have hx := Bd.exec
  have hby := Bd.bytes
  have hml : c.maxLocals = 7 := hml0
  have hown : s.vm.findClass "com/example/sieveline/sieveline/solver/BitMatrix" = some m.cls := findClass_of_methodNamed Bd.named
  have hnm := (name_of_methodNamed Bd.named Bd.method).1
  have hlk : meth.locks = false := BodyLoose.notSynchronized Bd
  have X0 : Stand p l e ({ frames := 0, cells := 1, slots := 4, locals := 0 } : Room) s m #[(.ref a0), (.ref a1)] below meth c s₁ [] 0 0 := Stand.of_body Bd
  have e0 : s₁.heap = h0 := by rw [← hh, Bd.state]; rfl
  have N0 := Fr.nil n0
  have K0 : Keep h0 h0 [] := Keep.refl _ _
  show ownEnds p e below s (Q_row_2_4 Z a0 a1 gi h0 n0) ({ frames := 0, cells := 1, slots := 4, locals := 0 } : Room).cells ({ frames := 0, cells := 1, slots := 4, locals := 0 } : Room).slots s₁ (entryFrame m #[(.ref a0), (.ref a1)] 7)
  refine ownCast (own_ef6_row_2_4 m a0 a1) ?_
  refine ow_aloadN (q := 1) X0 hx (hb hby own_d6_0) rfl rfl rfl ?_
  obtain ⟨T1, X1, e1, st1⟩ := getF X0 hx hZ hown (host := "") (Or.inl (hw _ (List.mem_of_getElem? (i := 13) rfl))) Via.refl e0 HF0 (g := (mkF m 1 #[rv a0, rv a1, .unset, .unset, .unset, .unset, .unset] [(.ref a0)])) rfl rfl (hb hby own_d6_1)
  refine ownGo (T' := T1) (f' := (mkF m 4 #[rv a0, rv a1, .unset, .unset, .unset, .unset, .unset] [(.int (4 : Int32))])) (st1) ?_
  obtain ⟨T2, h2, k2, X2, e2, E2, A2, st2⟩ := newP X1 hx hZ (hw _ (List.mem_of_getElem? (i := 22) rfl)) e1 (g := (mkF m 4 #[rv a0, rv a1, .unset, .unset, .unset, .unset, .unset] [(.int (4 : Int32))])) rfl (hb hby own_d6_4) rfl (by decide) (cap := 4) (by decide) (by decide) (by decide) (by decide)
  obtain ⟨b2, g2⟩ : ∃ z, z = h0.size := ⟨_, rfl⟩
  rw [← g2] at A2 st2
  have ne_a0_b2 : a0 ≠ b2 := Nat.ne_of_lt (Nat.lt_of_lt_of_le HF0.lt (Nat.le_of_eq g2.symm))
  have ne_a1_b2 : a1 ≠ b2 := Nat.ne_of_lt (Nat.lt_of_lt_of_le HF1.lt (Nat.le_of_eq g2.symm))
  have sz_b2 : h0.size ≤ b2 := Nat.le_trans K0.1 (Nat.le_of_eq g2.symm)
  have G_b2 : n0 ≤ b2 := Nat.le_trans Z0 sz_b2
  have K2 : Keep h0 h2 [] := K0.ext E2
  have F3 : Fld Z h2 a0 "com/example/sieveline/sieveline/solver/BitMatrix" "rowWords" "I" (.int (4 : Int32)) := HF0.ext E2
  have F4 : ownAI Z h2 a1 .int 2 gi := HF1.ext E2
  have F5 : ownAJ Z h2 b2 4 (fun _ => (0 : Int64)) := ownAJ.new A2 (by decide) (by decide)
  refine ownGo (T' := T2) (f' := (mkF m 6 #[rv a0, rv a1, .unset, .unset, .unset, .unset, .unset] [(.ref b2)])) (st2) ?_
  refine ow_astoreN (q := 7) X2 hx (L' := #[rv a0, rv a1, rv b2, .unset, .unset, .unset, .unset]) (hb hby own_d6_6) rfl rfl rfl ?_
  refine ow_aloadN (q := 8) X2 hx (hb hby own_d6_7) rfl rfl rfl ?_
  refine ow_astoreN (q := 9) X2 hx (L' := #[rv a0, rv a1, rv b2, rv a1, .unset, .unset, .unset]) (hb hby own_d6_8) rfl rfl rfl ?_
  refine ow_aloadN (q := 10) X2 hx (hb hby own_d6_9) rfl rfl rfl ?_
  refine ownGo (T' := T2) (f' := (mkF m 11 #[rv a0, rv a1, rv b2, rv a1, .unset, .unset, .unset] [(.int (2 : Int32))])) (ownLenI F4 X2 hx hZ e2 (z := (2 : Int32)) (by decide) (g := (mkF m 10 #[rv a0, rv a1, rv b2, rv a1, .unset, .unset, .unset] [(.ref a1)])) rfl rfl (hb hby own_d6_10)) ?_
  refine ow_istore (q := 13) X2 hx (L' := #[rv a0, rv a1, rv b2, rv a1, iv (2 : Int32), .unset, .unset]) (hb hby own_d6_11) rfl rfl ?_
  refine ow_iconst (q := 14) X2 hx (0 : Int32) (hb hby own_d6_13) rfl rfl ?_
  refine ow_istore (q := 16) X2 hx (L' := #[rv a0, rv a1, rv b2, rv a1, iv (2 : Int32), iv (0 : Int32), .unset]) (hb hby own_d6_14) rfl rfl ?_
  refine ow_iload (q := 18) X2 hx (hb hby own_d6_16) rfl rfl ?_
  refine ow_iload (q := 20) X2 hx (hb hby own_d6_18) rfl rfl ?_
  refine ow_icmpNo (q := 23) X2 hx (hb hby own_d6_20) rfl (Jvm.Free.XT.ii_ge_f (by decide)) ?_
  refine ow_aloadN (q := 24) X2 hx (hb hby own_d6_23) rfl rfl rfl ?_
  refine ow_iload (q := 26) X2 hx (hb hby own_d6_24) rfl rfl ?_
  refine ownGo (T' := T2) (f' := (mkF m 27 #[rv a0, rv a1, rv b2, rv a1, iv (2 : Int32), iv (0 : Int32), .unset] [(.int (gi 0))])) (ownIaload F4 X2 hx hZ e2 (j := (0 : Int32)) (by unfold ownIn; decide) (g := (mkF m 26 #[rv a0, rv a1, rv b2, rv a1, iv (2 : Int32), iv (0 : Int32), .unset] [(.int (0 : Int32)), (.ref a1)])) rfl rfl (hb hby own_d6_26)) ?_
  generalize hv_v6 : (gi 0) = v6
  refine ow_istore (q := 29) X2 hx (L' := #[rv a0, rv a1, rv b2, rv a1, iv (2 : Int32), iv (0 : Int32), iv v6]) (hb hby own_d6_27) rfl rfl ?_
  refine ow_aloadN (q := 30) X2 hx (hb hby own_d6_29) rfl rfl rfl ?_
  refine ow_iload (q := 32) X2 hx (hb hby own_d6_30) rfl rfl ?_
  refine ow_bipush (q := 34) X2 hx (64 : Int32) (hb hby own_d6_32) rfl rfl ?_
  refine ow_idiv (q := 35) X2 hx _ (hb hby own_d6_34) rfl (by decide) rfl ?_
  refine ow_dup2 (q := 36) X2 hx (hb hby own_d6_35) rfl rfl rfl ?_
  generalize hv_v7 : (v6 / (64 : Int32)) = v7
  refine ownGo (T' := T2) (f' := (mkF m 37 #[rv a0, rv a1, rv b2, rv a1, iv (2 : Int32), iv (0 : Int32), iv v6] [(.long ((fun _ => (0 : Int64)) v7.toNatClampNeg)), (.int v7), (.ref b2)])) (ownLaload F5 X2 hx hZ e2 (j := v7) (own_ixw (L := 4) hv_v7 (by rw [← hv_v6]; first | exact hr0 | exact hr1 | exact hr2)) (g := (mkF m 36 #[rv a0, rv a1, rv b2, rv a1, iv (2 : Int32), iv (0 : Int32), iv v6] [(.int v7), (.ref b2), (.int v7), (.ref b2)])) rfl rfl (hb hby own_d6_36)) ?_
  generalize hv_v8 : ((fun _ => (0 : Int64)) v7.toNatClampNeg) = v8
  refine ow_lconst (q := 38) X2 hx (1 : Int64) (hb hby own_d6_37) rfl rfl ?_
  refine ow_iload (q := 40) X2 hx (hb hby own_d6_38) rfl rfl ?_
  refine ow_lshl (q := 41) X2 hx _ (hb hby own_d6_40) rfl rfl ?_
  refine ow_lor (q := 42) X2 hx _ (hb hby own_d6_41) rfl rfl ?_
  generalize hv_v9 : (v8 ||| ((1 : Int64) <<< (v6 &&& 0x3f).toInt64)) = v9
  obtain ⟨T10, h10, X10, e10, W10, F10s, st10⟩ := ownLastore F5 X2 hx hZ e2 (j := v7) (own_ixw (L := 4) hv_v7 (by rw [← hv_v6]; first | exact hr0 | exact hr1 | exact hr2)) (g := (mkF m 42 #[rv a0, rv a1, rv b2, rv a1, iv (2 : Int32), iv (0 : Int32), iv v6] [(.long v9), (.int v7), (.ref b2)])) rfl rfl (hb hby own_d6_42)
  generalize hg_gf10 : (ownUpd (fun _ => (0 : Int64)) v7.toNatClampNeg v9) = gf10 at F10s
  have N10 := Fr.snoc X10 N0 G_b2
  have K10 : Keep h0 h10 [] := K2.wr W10 (Or.inr sz_b2)
  have F11 : Fld Z h10 a0 "com/example/sieveline/sieveline/solver/BitMatrix" "rowWords" "I" (.int (4 : Int32)) := F3.other W10 (Or.inl ne_a0_b2)
  have F12 : ownAI Z h10 a1 .int 2 gi := F4.other W10 ne_a1_b2
  refine ownGo (T' := T10) (f' := (mkF m 43 #[rv a0, rv a1, rv b2, rv a1, iv (2 : Int32), iv (0 : Int32), iv v6] [])) (st10) ?_
  refine ow_iinc (q := 46) X10 hx (L' := #[rv a0, rv a1, rv b2, rv a1, iv (2 : Int32), iv (1 : Int32), iv v6]) (hb hby own_d6_43) rfl rfl rfl ?_
  refine ow_goto (q := 16) X10 hx (hb hby own_d6_46) (by decide) (by decide) ?_
  refine ow_iload (q := 18) X10 hx (hb hby own_d6_16) rfl rfl ?_
  refine ow_iload (q := 20) X10 hx (hb hby own_d6_18) rfl rfl ?_
  refine ow_icmpNo (q := 23) X10 hx (hb hby own_d6_20) rfl (Jvm.Free.XT.ii_ge_f (by decide)) ?_
  refine ow_aloadN (q := 24) X10 hx (hb hby own_d6_23) rfl rfl rfl ?_
  refine ow_iload (q := 26) X10 hx (hb hby own_d6_24) rfl rfl ?_
  refine ownGo (T' := T10) (f' := (mkF m 27 #[rv a0, rv a1, rv b2, rv a1, iv (2 : Int32), iv (1 : Int32), iv v6] [(.int (gi 1))])) (ownIaload F12 X10 hx hZ e10 (j := (1 : Int32)) (by unfold ownIn; decide) (g := (mkF m 26 #[rv a0, rv a1, rv b2, rv a1, iv (2 : Int32), iv (1 : Int32), iv v6] [(.int (1 : Int32)), (.ref a1)])) rfl rfl (hb hby own_d6_26)) ?_
  generalize hv_v13 : (gi 1) = v13
  refine ow_istore (q := 29) X10 hx (L' := #[rv a0, rv a1, rv b2, rv a1, iv (2 : Int32), iv (1 : Int32), iv v13]) (hb hby own_d6_27) rfl rfl ?_
  refine ow_aloadN (q := 30) X10 hx (hb hby own_d6_29) rfl rfl rfl ?_
  refine ow_iload (q := 32) X10 hx (hb hby own_d6_30) rfl rfl ?_
  refine ow_bipush (q := 34) X10 hx (64 : Int32) (hb hby own_d6_32) rfl rfl ?_
  refine ow_idiv (q := 35) X10 hx _ (hb hby own_d6_34) rfl (by decide) rfl ?_
  refine ow_dup2 (q := 36) X10 hx (hb hby own_d6_35) rfl rfl rfl ?_
  generalize hv_v14 : (v13 / (64 : Int32)) = v14
  refine ownGo (T' := T10) (f' := (mkF m 37 #[rv a0, rv a1, rv b2, rv a1, iv (2 : Int32), iv (1 : Int32), iv v13] [(.long (gf10 v14.toNatClampNeg)), (.int v14), (.ref b2)])) (ownLaload F10s X10 hx hZ e10 (j := v14) (own_ixw (L := 4) hv_v14 (by rw [← hv_v13]; first | exact hr0 | exact hr1 | exact hr2)) (g := (mkF m 36 #[rv a0, rv a1, rv b2, rv a1, iv (2 : Int32), iv (1 : Int32), iv v13] [(.int v14), (.ref b2), (.int v14), (.ref b2)])) rfl rfl (hb hby own_d6_36)) ?_
  generalize hv_v15 : (gf10 v14.toNatClampNeg) = v15
  refine ow_lconst (q := 38) X10 hx (1 : Int64) (hb hby own_d6_37) rfl rfl ?_
  refine ow_iload (q := 40) X10 hx (hb hby own_d6_38) rfl rfl ?_
  refine ow_lshl (q := 41) X10 hx _ (hb hby own_d6_40) rfl rfl ?_
  refine ow_lor (q := 42) X10 hx _ (hb hby own_d6_41) rfl rfl ?_
  generalize hv_v16 : (v15 ||| ((1 : Int64) <<< (v13 &&& 0x3f).toInt64)) = v16
  obtain ⟨T17, h17, X17, e17, W17, F17s, st17⟩ := ownLastore F10s X10 hx hZ e10 (j := v14) (own_ixw (L := 4) hv_v14 (by rw [← hv_v13]; first | exact hr0 | exact hr1 | exact hr2)) (g := (mkF m 42 #[rv a0, rv a1, rv b2, rv a1, iv (2 : Int32), iv (1 : Int32), iv v13] [(.long v16), (.int v14), (.ref b2)])) rfl rfl (hb hby own_d6_42)
  generalize hg_gf17 : (ownUpd gf10 v14.toNatClampNeg v16) = gf17 at F17s
  have N17 := Fr.snoc X17 N10 G_b2
  have K17 : Keep h0 h17 [] := K10.wr W17 (Or.inr sz_b2)
  have F18 : Fld Z h17 a0 "com/example/sieveline/sieveline/solver/BitMatrix" "rowWords" "I" (.int (4 : Int32)) := F11.other W17 (Or.inl ne_a0_b2)
  have F19 : ownAI Z h17 a1 .int 2 gi := F12.other W17 ne_a1_b2
  refine ownGo (T' := T17) (f' := (mkF m 43 #[rv a0, rv a1, rv b2, rv a1, iv (2 : Int32), iv (1 : Int32), iv v13] [])) (st17) ?_
  refine ow_iinc (q := 46) X17 hx (L' := #[rv a0, rv a1, rv b2, rv a1, iv (2 : Int32), iv (2 : Int32), iv v13]) (hb hby own_d6_43) rfl rfl rfl ?_
  refine ow_goto (q := 16) X17 hx (hb hby own_d6_46) (by decide) (by decide) ?_
  refine ow_iload (q := 18) X17 hx (hb hby own_d6_16) rfl rfl ?_
  refine ow_iload (q := 20) X17 hx (hb hby own_d6_18) rfl rfl ?_
  refine ow_icmpYes (q := 49) X17 hx (hb hby own_d6_20) (Jvm.Free.XT.ii_ge_t (by decide)) (by decide) (by decide) ?_
  refine ow_aloadN (q := 50) X17 hx (hb hby own_d6_49) rfl rfl rfl ?_
  refine ownRetR X17 hx rfl rfl rfl Bd.returns (hb hby own_d6_50) hlk (by decide) (by decide) ?_
  subst hg_gf17 hv_v16 hv_v15 hv_v14 hv_v13 hg_gf10 hv_v9 hv_v8 hv_v7 hv_v6
  rw [e17]
  exact ⟨b2, rfl, N17, K17, sz_b2, F17s⟩
theorem own_ef6_row_3_1 (m : MethodId) (a0 : Addr) (a1 : Addr) : entryFrame m #[(.ref a0), (.ref a1)] 7 = mkF m 0 #[rv a0, rv a1, .unset, .unset, .unset, .unset, .unset] [] := by first | (simp [entryFrame, mkF, argsToLocals, Value.category]; done) | rfl
def Q_row_3_1 (Z : State) (a0 : Addr) (a1 : Addr) (gi : Nat → Int32) (h0 : Heap) (n0 : Nat) (v : Option Value) (h : Heap) (L : List Loc) : Prop := ∃ (r : Addr), v = some (.ref r) ∧ Fr n0 L ∧ Keep h0 h [] ∧ h0.size ≤ r ∧ ownAJ Z h r 1 (own_or1 (own_or1 (own_or1 (fun _ => (0 : Int64)) (gi 0)) (gi 1)) (gi 2))
set_option maxRecDepth 65536 in
set_option maxHeartbeats 40000000 in
theorem rm_row_3_1 (l : Launch) (Z : State) (av0 : Array Value) (hw : ∀ d ∈ tables_1, d.before av0 Z = true) (ws : List Jvm.Cond) (a0 : Addr) (a1 : Addr) (gi : Nat → Int32) (h0 : Heap) (n0 : Nat) (Z0 : n0 ≤ h0.size) (HF0 : Fld Z h0 a0 "com/example/sieveline/sieveline/solver/BitMatrix" "rowWords" "I" (.int (1 : Int32))) (HF1 : ownAI Z h0 a1 .int 3 gi) (hr0 : 0 ≤ (gi 0).toInt ∧ (gi 0).toInt < 64) (hr1 : 0 ≤ (gi 1).toInt ∧ (gi 1).toInt < 64) (hr2 : 0 ≤ (gi 2).toInt ∧ (gi 2).toInt < 64) :
    MetFree l (⟨"com/example/sieveline/sieveline/solver/BitMatrix", "row", "([I)[J"⟩ : MethodName) (head1 (Jvm.Cond.code (⟨"com/example/sieveline/sieveline/solver/BitMatrix", "row", "([I)[J"⟩ : MethodName) prog_49_method_6_code 7 (some (.array .long)) :: ws) ({ frames := 0, cells := 1, slots := 1, locals := 0 } : Room)) (fun a U => a = #[(.ref a0), (.ref a1)] ∧ Z.Warmed39 U.vm ∧ U.heap = h0) (fun _ _ _ _ _ => True) (fun _ U o U' => ∃ v L, o = .returned v ∧ (Q_row_3_1 Z a0 a1 gi h0 n0) v U'.heap L ∧ FrameEnd U o U' L ({ frames := 0, cells := 1, slots := 1, locals := 0 } : Room).cells ({ frames := 0, cells := 1, slots := 1, locals := 0 } : Room).slots) := by
  refine MetFree.of_bodySF (plainFor_of_name own_pn_BitMatrix) hisR ?_
  intro p e s m args below meth c s₁ Bd hml0 hP hK
  obtain ⟨rfl, hZ, hh⟩ := hP
  have hx := Bd.exec
  have hby := Bd.bytes
  have hml : c.maxLocals = 7 := hml0
  have hown : s.vm.findClass "com/example/sieveline/sieveline/solver/BitMatrix" = some m.cls := findClass_of_methodNamed Bd.named
  have hnm := (name_of_methodNamed Bd.named Bd.method).1
  have hlk : meth.locks = false := BodyLoose.notSynchronized Bd
  have X0 : Stand p l e ({ frames := 0, cells := 1, slots := 1, locals := 0 } : Room) s m #[(.ref a0), (.ref a1)] below meth c s₁ [] 0 0 := Stand.of_body Bd
  have e0 : s₁.heap = h0 := by rw [← hh, Bd.state]; rfl
  have N0 := Fr.nil n0
  have K0 : Keep h0 h0 [] := Keep.refl _ _
  show ownEnds p e below s (Q_row_3_1 Z a0 a1 gi h0 n0) ({ frames := 0, cells := 1, slots := 1, locals := 0 } : Room).cells ({ frames := 0, cells := 1, slots := 1, locals := 0 } : Room).slots s₁ (entryFrame m #[(.ref a0), (.ref a1)] 7)
  refine ownCast (own_ef6_row_3_1 m a0 a1) ?_
  refine ow_aloadN (q := 1) X0 hx (hb hby own_d6_0) rfl rfl rfl ?_
  obtain ⟨T1, X1, e1, st1⟩ := getF X0 hx hZ hown (host := "") (Or.inl (hw _ (List.mem_of_getElem? (i := 13) rfl))) Via.refl e0 HF0 (g := (mkF m 1 #[rv a0, rv a1, .unset, .unset, .unset, .unset, .unset] [(.ref a0)])) rfl rfl (hb hby own_d6_1)
  refine ownGo (T' := T1) (f' := (mkF m 4 #[rv a0, rv a1, .unset, .unset, .unset, .unset, .unset] [(.int (1 : Int32))])) (st1) ?_
  obtain ⟨T2, h2, k2, X2, e2, E2, A2, st2⟩ := newP X1 hx hZ (hw _ (List.mem_of_getElem? (i := 22) rfl)) e1 (g := (mkF m 4 #[rv a0, rv a1, .unset, .unset, .unset, .unset, .unset] [(.int (1 : Int32))])) rfl (hb hby own_d6_4) rfl (by decide) (cap := 1) (by decide) (by decide) (by decide) (by decide)
  obtain ⟨b2, g2⟩ : ∃ z, z = h0.size := ⟨_, rfl⟩
  rw [← g2] at A2 st2
  have ne_a0_b2 : a0 ≠ b2 := Nat.ne_of_lt (Nat.lt_of_lt_of_le HF0.lt (Nat.le_of_eq g2.symm))
  have ne_a1_b2 : a1 ≠ b2 := Nat.ne_of_lt (Nat.lt_of_lt_of_le HF1.lt (Nat.le_of_eq g2.symm))
  have sz_b2 : h0.size ≤ b2 := Nat.le_trans K0.1 (Nat.le_of_eq g2.symm)
  have G_b2 : n0 ≤ b2 := Nat.le_trans Z0 sz_b2
  have K2 : Keep h0 h2 [] := K0.ext E2
  have F3 : Fld Z h2 a0 "com/example/sieveline/sieveline/solver/BitMatrix" "rowWords" "I" (.int (1 : Int32)) := HF0.ext E2
  have F4 : ownAI Z h2 a1 .int 3 gi := HF1.ext E2
  have F5 : ownAJ Z h2 b2 1 (fun _ => (0 : Int64)) := ownAJ.new A2 (by decide) (by decide)
  refine ownGo (T' := T2) (f' := (mkF m 6 #[rv a0, rv a1, .unset, .unset, .unset, .unset, .unset] [(.ref b2)])) (st2) ?_
  refine ow_astoreN (q := 7) X2 hx (L' := #[rv a0, rv a1, rv b2, .unset, .unset, .unset, .unset]) (hb hby own_d6_6) rfl rfl rfl ?_
  refine ow_aloadN (q := 8) X2 hx (hb hby own_d6_7) rfl rfl rfl ?_
  refine ow_astoreN (q := 9) X2 hx (L' := #[rv a0, rv a1, rv b2, rv a1, .unset, .unset, .unset]) (hb hby own_d6_8) rfl rfl rfl ?_
  refine ow_aloadN (q := 10) X2 hx (hb hby own_d6_9) rfl rfl rfl ?_
  refine ownGo (T' := T2) (f' := (mkF m 11 #[rv a0, rv a1, rv b2, rv a1, .unset, .unset, .unset] [(.int (3 : Int32))])) (ownLenI F4 X2 hx hZ e2 (z := (3 : Int32)) (by decide) (g := (mkF m 10 #[rv a0, rv a1, rv b2, rv a1, .unset, .unset, .unset] [(.ref a1)])) rfl rfl (hb hby own_d6_10)) ?_
  refine ow_istore (q := 13) X2 hx (L' := #[rv a0, rv a1, rv b2, rv a1, iv (3 : Int32), .unset, .unset]) (hb hby own_d6_11) rfl rfl ?_
  refine ow_iconst (q := 14) X2 hx (0 : Int32) (hb hby own_d6_13) rfl rfl ?_
  refine ow_istore (q := 16) X2 hx (L' := #[rv a0, rv a1, rv b2, rv a1, iv (3 : Int32), iv (0 : Int32), .unset]) (hb hby own_d6_14) rfl rfl ?_
  refine ow_iload (q := 18) X2 hx (hb hby own_d6_16) rfl rfl ?_
  refine ow_iload (q := 20) X2 hx (hb hby own_d6_18) rfl rfl ?_
  refine ow_icmpNo (q := 23) X2 hx (hb hby own_d6_20) rfl (Jvm.Free.XT.ii_ge_f (by decide)) ?_
  refine ow_aloadN (q := 24) X2 hx (hb hby own_d6_23) rfl rfl rfl ?_
  refine ow_iload (q := 26) X2 hx (hb hby own_d6_24) rfl rfl ?_
  refine ownGo (T' := T2) (f' := (mkF m 27 #[rv a0, rv a1, rv b2, rv a1, iv (3 : Int32), iv (0 : Int32), .unset] [(.int (gi 0))])) (ownIaload F4 X2 hx hZ e2 (j := (0 : Int32)) (by unfold ownIn; decide) (g := (mkF m 26 #[rv a0, rv a1, rv b2, rv a1, iv (3 : Int32), iv (0 : Int32), .unset] [(.int (0 : Int32)), (.ref a1)])) rfl rfl (hb hby own_d6_26)) ?_
  generalize hv_v6 : (gi 0) = v6
  refine ow_istore (q := 29) X2 hx (L' := #[rv a0, rv a1, rv b2, rv a1, iv (3 : Int32), iv (0 : Int32), iv v6]) (hb hby own_d6_27) rfl rfl ?_
  refine ow_aloadN (q := 30) X2 hx (hb hby own_d6_29) rfl rfl rfl ?_
  refine ow_iload (q := 32) X2 hx (hb hby own_d6_30) rfl rfl ?_
  refine ow_bipush (q := 34) X2 hx (64 : Int32) (hb hby own_d6_32) rfl rfl ?_
  refine ow_idiv (q := 35) X2 hx _ (hb hby own_d6_34) rfl (by decide) rfl ?_
  refine ow_dup2 (q := 36) X2 hx (hb hby own_d6_35) rfl rfl rfl ?_
  generalize hv_v7 : (v6 / (64 : Int32)) = v7
  refine ownGo (T' := T2) (f' := (mkF m 37 #[rv a0, rv a1, rv b2, rv a1, iv (3 : Int32), iv (0 : Int32), iv v6] [(.long ((fun _ => (0 : Int64)) v7.toNatClampNeg)), (.int v7), (.ref b2)])) (ownLaload F5 X2 hx hZ e2 (j := v7) (own_ixw (L := 1) hv_v7 (by rw [← hv_v6]; first | exact hr0 | exact hr1 | exact hr2)) (g := (mkF m 36 #[rv a0, rv a1, rv b2, rv a1, iv (3 : Int32), iv (0 : Int32), iv v6] [(.int v7), (.ref b2), (.int v7), (.ref b2)])) rfl rfl (hb hby own_d6_36)) ?_
  generalize hv_v8 : ((fun _ => (0 : Int64)) v7.toNatClampNeg) = v8
  refine ow_lconst (q := 38) X2 hx (1 : Int64) (hb hby own_d6_37) rfl rfl ?_
  refine ow_iload (q := 40) X2 hx (hb hby own_d6_38) rfl rfl ?_
  refine ow_lshl (q := 41) X2 hx _ (hb hby own_d6_40) rfl rfl ?_
  refine ow_lor (q := 42) X2 hx _ (hb hby own_d6_41) rfl rfl ?_
  generalize hv_v9 : (v8 ||| ((1 : Int64) <<< (v6 &&& 0x3f).toInt64)) = v9
  obtain ⟨T10, h10, X10, e10, W10, F10s, st10⟩ := ownLastore F5 X2 hx hZ e2 (j := v7) (own_ixw (L := 1) hv_v7 (by rw [← hv_v6]; first | exact hr0 | exact hr1 | exact hr2)) (g := (mkF m 42 #[rv a0, rv a1, rv b2, rv a1, iv (3 : Int32), iv (0 : Int32), iv v6] [(.long v9), (.int v7), (.ref b2)])) rfl rfl (hb hby own_d6_42)
  generalize hg_gf10 : (ownUpd (fun _ => (0 : Int64)) v7.toNatClampNeg v9) = gf10 at F10s
  have N10 := Fr.snoc X10 N0 G_b2
  have K10 : Keep h0 h10 [] := K2.wr W10 (Or.inr sz_b2)
  have F11 : Fld Z h10 a0 "com/example/sieveline/sieveline/solver/BitMatrix" "rowWords" "I" (.int (1 : Int32)) := F3.other W10 (Or.inl ne_a0_b2)
  have F12 : ownAI Z h10 a1 .int 3 gi := F4.other W10 ne_a1_b2
  refine ownGo (T' := T10) (f' := (mkF m 43 #[rv a0, rv a1, rv b2, rv a1, iv (3 : Int32), iv (0 : Int32), iv v6] [])) (st10) ?_
  refine ow_iinc (q := 46) X10 hx (L' := #[rv a0, rv a1, rv b2, rv a1, iv (3 : Int32), iv (1 : Int32), iv v6]) (hb hby own_d6_43) rfl rfl rfl ?_
  refine ow_goto (q := 16) X10 hx (hb hby own_d6_46) (by decide) (by decide) ?_
  refine ow_iload (q := 18) X10 hx (hb hby own_d6_16) rfl rfl ?_
  refine ow_iload (q := 20) X10 hx (hb hby own_d6_18) rfl rfl ?_
  refine ow_icmpNo (q := 23) X10 hx (hb hby own_d6_20) rfl (Jvm.Free.XT.ii_ge_f (by decide)) ?_
  refine ow_aloadN (q := 24) X10 hx (hb hby own_d6_23) rfl rfl rfl ?_
  refine ow_iload (q := 26) X10 hx (hb hby own_d6_24) rfl rfl ?_
  refine ownGo (T' := T10) (f' := (mkF m 27 #[rv a0, rv a1, rv b2, rv a1, iv (3 : Int32), iv (1 : Int32), iv v6] [(.int (gi 1))])) (ownIaload F12 X10 hx hZ e10 (j := (1 : Int32)) (by unfold ownIn; decide) (g := (mkF m 26 #[rv a0, rv a1, rv b2, rv a1, iv (3 : Int32), iv (1 : Int32), iv v6] [(.int (1 : Int32)), (.ref a1)])) rfl rfl (hb hby own_d6_26)) ?_
  generalize hv_v13 : (gi 1) = v13
  refine ow_istore (q := 29) X10 hx (L' := #[rv a0, rv a1, rv b2, rv a1, iv (3 : Int32), iv (1 : Int32), iv v13]) (hb hby own_d6_27) rfl rfl ?_
  refine ow_aloadN (q := 30) X10 hx (hb hby own_d6_29) rfl rfl rfl ?_
  refine ow_iload (q := 32) X10 hx (hb hby own_d6_30) rfl rfl ?_
  refine ow_bipush (q := 34) X10 hx (64 : Int32) (hb hby own_d6_32) rfl rfl ?_
  refine ow_idiv (q := 35) X10 hx _ (hb hby own_d6_34) rfl (by decide) rfl ?_
  refine ow_dup2 (q := 36) X10 hx (hb hby own_d6_35) rfl rfl rfl ?_
  generalize hv_v14 : (v13 / (64 : Int32)) = v14
  refine ownGo (T' := T10) (f' := (mkF m 37 #[rv a0, rv a1, rv b2, rv a1, iv (3 : Int32), iv (1 : Int32), iv v13] [(.long (gf10 v14.toNatClampNeg)), (.int v14), (.ref b2)])) (ownLaload F10s X10 hx hZ e10 (j := v14) (own_ixw (L := 1) hv_v14 (by rw [← hv_v13]; first | exact hr0 | exact hr1 | exact hr2)) (g := (mkF m 36 #[rv a0, rv a1, rv b2, rv a1, iv (3 : Int32), iv (1 : Int32), iv v13] [(.int v14), (.ref b2), (.int v14), (.ref b2)])) rfl rfl (hb hby own_d6_36)) ?_
  generalize hv_v15 : (gf10 v14.toNatClampNeg) = v15
  refine ow_lconst (q := 38) X10 hx (1 : Int64) (hb hby own_d6_37) rfl rfl ?_
  refine ow_iload (q := 40) X10 hx (hb hby own_d6_38) rfl rfl ?_
  refine ow_lshl (q := 41) X10 hx _ (hb hby own_d6_40) rfl rfl ?_
  refine ow_lor (q := 42) X10 hx _ (hb hby own_d6_41) rfl rfl ?_
  generalize hv_v16 : (v15 ||| ((1 : Int64) <<< (v13 &&& 0x3f).toInt64)) = v16
  obtain ⟨T17, h17, X17, e17, W17, F17s, st17⟩ := ownLastore F10s X10 hx hZ e10 (j := v14) (own_ixw (L := 1) hv_v14 (by rw [← hv_v13]; first | exact hr0 | exact hr1 | exact hr2)) (g := (mkF m 42 #[rv a0, rv a1, rv b2, rv a1, iv (3 : Int32), iv (1 : Int32), iv v13] [(.long v16), (.int v14), (.ref b2)])) rfl rfl (hb hby own_d6_42)
  generalize hg_gf17 : (ownUpd gf10 v14.toNatClampNeg v16) = gf17 at F17s
  have N17 := Fr.snoc X17 N10 G_b2
  have K17 : Keep h0 h17 [] := K10.wr W17 (Or.inr sz_b2)
  have F18 : Fld Z h17 a0 "com/example/sieveline/sieveline/solver/BitMatrix" "rowWords" "I" (.int (1 : Int32)) := F11.other W17 (Or.inl ne_a0_b2)
  have F19 : ownAI Z h17 a1 .int 3 gi := F12.other W17 ne_a1_b2
  refine ownGo (T' := T17) (f' := (mkF m 43 #[rv a0, rv a1, rv b2, rv a1, iv (3 : Int32), iv (1 : Int32), iv v13] [])) (st17) ?_
  refine ow_iinc (q := 46) X17 hx (L' := #[rv a0, rv a1, rv b2, rv a1, iv (3 : Int32), iv (2 : Int32), iv v13]) (hb hby own_d6_43) rfl rfl rfl ?_
  refine ow_goto (q := 16) X17 hx (hb hby own_d6_46) (by decide) (by decide) ?_
  refine ow_iload (q := 18) X17 hx (hb hby own_d6_16) rfl rfl ?_
  refine ow_iload (q := 20) X17 hx (hb hby own_d6_18) rfl rfl ?_
  refine ow_icmpNo (q := 23) X17 hx (hb hby own_d6_20) rfl (Jvm.Free.XT.ii_ge_f (by decide)) ?_
  refine ow_aloadN (q := 24) X17 hx (hb hby own_d6_23) rfl rfl rfl ?_
  refine ow_iload (q := 26) X17 hx (hb hby own_d6_24) rfl rfl ?_
  refine ownGo (T' := T17) (f' := (mkF m 27 #[rv a0, rv a1, rv b2, rv a1, iv (3 : Int32), iv (2 : Int32), iv v13] [(.int (gi 2))])) (ownIaload F19 X17 hx hZ e17 (j := (2 : Int32)) (by unfold ownIn; decide) (g := (mkF m 26 #[rv a0, rv a1, rv b2, rv a1, iv (3 : Int32), iv (2 : Int32), iv v13] [(.int (2 : Int32)), (.ref a1)])) rfl rfl (hb hby own_d6_26)) ?_
  generalize hv_v20 : (gi 2) = v20
  refine ow_istore (q := 29) X17 hx (L' := #[rv a0, rv a1, rv b2, rv a1, iv (3 : Int32), iv (2 : Int32), iv v20]) (hb hby own_d6_27) rfl rfl ?_
  refine ow_aloadN (q := 30) X17 hx (hb hby own_d6_29) rfl rfl rfl ?_
  refine ow_iload (q := 32) X17 hx (hb hby own_d6_30) rfl rfl ?_
  refine ow_bipush (q := 34) X17 hx (64 : Int32) (hb hby own_d6_32) rfl rfl ?_
  refine ow_idiv (q := 35) X17 hx _ (hb hby own_d6_34) rfl (by decide) rfl ?_
  refine ow_dup2 (q := 36) X17 hx (hb hby own_d6_35) rfl rfl rfl ?_
  generalize hv_v21 : (v20 / (64 : Int32)) = v21
  refine ownGo (T' := T17) (f' := (mkF m 37 #[rv a0, rv a1, rv b2, rv a1, iv (3 : Int32), iv (2 : Int32), iv v20] [(.long (gf17 v21.toNatClampNeg)), (.int v21), (.ref b2)])) (ownLaload F17s X17 hx hZ e17 (j := v21) (own_ixw (L := 1) hv_v21 (by rw [← hv_v20]; first | exact hr0 | exact hr1 | exact hr2)) (g := (mkF m 36 #[rv a0, rv a1, rv b2, rv a1, iv (3 : Int32), iv (2 : Int32), iv v20] [(.int v21), (.ref b2), (.int v21), (.ref b2)])) rfl rfl (hb hby own_d6_36)) ?_
  generalize hv_v22 : (gf17 v21.toNatClampNeg) = v22
  refine ow_lconst (q := 38) X17 hx (1 : Int64) (hb hby own_d6_37) rfl rfl ?_
  refine ow_iload (q := 40) X17 hx (hb hby own_d6_38) rfl rfl ?_
  refine ow_lshl (q := 41) X17 hx _ (hb hby own_d6_40) rfl rfl ?_
  refine ow_lor (q := 42) X17 hx _ (hb hby own_d6_41) rfl rfl ?_
  generalize hv_v23 : (v22 ||| ((1 : Int64) <<< (v20 &&& 0x3f).toInt64)) = v23
  obtain ⟨T24, h24, X24, e24, W24, F24s, st24⟩ := ownLastore F17s X17 hx hZ e17 (j := v21) (own_ixw (L := 1) hv_v21 (by rw [← hv_v20]; first | exact hr0 | exact hr1 | exact hr2)) (g := (mkF m 42 #[rv a0, rv a1, rv b2, rv a1, iv (3 : Int32), iv (2 : Int32), iv v20] [(.long v23), (.int v21), (.ref b2)])) rfl rfl (hb hby own_d6_42)
  generalize hg_gf24 : (ownUpd gf17 v21.toNatClampNeg v23) = gf24 at F24s
  have N24 := Fr.snoc X24 N17 G_b2
  have K24 : Keep h0 h24 [] := K17.wr W24 (Or.inr sz_b2)
  have F25 : Fld Z h24 a0 "com/example/sieveline/sieveline/solver/BitMatrix" "rowWords" "I" (.int (1 : Int32)) := F18.other W24 (Or.inl ne_a0_b2)
  have F26 : ownAI Z h24 a1 .int 3 gi := F19.other W24 ne_a1_b2
  refine ownGo (T' := T24) (f' := (mkF m 43 #[rv a0, rv a1, rv b2, rv a1, iv (3 : Int32), iv (2 : Int32), iv v20] [])) (st24) ?_
  refine ow_iinc (q := 46) X24 hx (L' := #[rv a0, rv a1, rv b2, rv a1, iv (3 : Int32), iv (3 : Int32), iv v20]) (hb hby own_d6_43) rfl rfl rfl ?_
  refine ow_goto (q := 16) X24 hx (hb hby own_d6_46) (by decide) (by decide) ?_
  refine ow_iload (q := 18) X24 hx (hb hby own_d6_16) rfl rfl ?_
  refine ow_iload (q := 20) X24 hx (hb hby own_d6_18) rfl rfl ?_
  refine ow_icmpYes (q := 49) X24 hx (hb hby own_d6_20) (Jvm.Free.XT.ii_ge_t (by decide)) (by decide) (by decide) ?_
  refine ow_aloadN (q := 50) X24 hx (hb hby own_d6_49) rfl rfl rfl ?_
  refine ownRetR X24 hx rfl rfl rfl Bd.returns (hb hby own_d6_50) hlk (by decide) (by decide) ?_
  subst hg_gf24 hv_v23 hv_v22 hv_v21 hv_v20 hg_gf17 hv_v16 hv_v15 hv_v14 hv_v13 hg_gf10 hv_v9 hv_v8 hv_v7 hv_v6
  rw [e24]
  exact ⟨b2, rfl, N24, K24, sz_b2, F24s⟩
theorem own_ef6_row_3_2 (m : MethodId) (a0 : Addr) (a1 : Addr) : entryFrame m #[(.ref a0), (.ref a1)] 7 = mkF m 0 #[rv a0, rv a1, .unset, .unset, .unset, .unset, .unset] [] := by first | (simp [entryFrame, mkF, argsToLocals, Value.category]; done) | rfl
def Q_row_3_2 (Z : State) (a0 : Addr) (a1 : Addr) (gi : Nat → Int32) (h0 : Heap) (n0 : Nat) (v : Option Value) (h : Heap) (L : List Loc) : Prop := ∃ (r : Addr), v = some (.ref r) ∧ Fr n0 L ∧ Keep h0 h [] ∧ h0.size ≤ r ∧ ownAJ Z h r 2 (own_or1 (own_or1 (own_or1 (fun _ => (0 : Int64)) (gi 0)) (gi 1)) (gi 2))
set_option maxRecDepth 65536 in
set_option maxHeartbeats 40000000 in
theorem rm_row_3_2 (l : Launch) (Z : State) (av0 : Array Value) (hw : ∀ d ∈ tables_1, d.before av0 Z = true) (ws : List Jvm.Cond) (a0 : Addr) (a1 : Addr) (gi : Nat → Int32) (h0 : Heap) (n0 : Nat) (Z0 : n0 ≤ h0.size) (HF0 : Fld Z h0 a0 "com/example/sieveline/sieveline/solver/BitMatrix" "rowWords" "I" (.int (2 : Int32))) (HF1 : ownAI Z h0 a1 .int 3 gi) (hr0 : 0 ≤ (gi 0).toInt ∧ (gi 0).toInt < 128) (hr1 : 0 ≤ (gi 1).toInt ∧ (gi 1).toInt < 128) (hr2 : 0 ≤ (gi 2).toInt ∧ (gi 2).toInt < 128) :
    MetFree l (⟨"com/example/sieveline/sieveline/solver/BitMatrix", "row", "([I)[J"⟩ : MethodName) (head1 (Jvm.Cond.code (⟨"com/example/sieveline/sieveline/solver/BitMatrix", "row", "([I)[J"⟩ : MethodName) prog_49_method_6_code 7 (some (.array .long)) :: ws) ({ frames := 0, cells := 1, slots := 2, locals := 0 } : Room)) (fun a U => a = #[(.ref a0), (.ref a1)] ∧ Z.Warmed39 U.vm ∧ U.heap = h0) (fun _ _ _ _ _ => True) (fun _ U o U' => ∃ v L, o = .returned v ∧ (Q_row_3_2 Z a0 a1 gi h0 n0) v U'.heap L ∧ FrameEnd U o U' L ({ frames := 0, cells := 1, slots := 2, locals := 0 } : Room).cells ({ frames := 0, cells := 1, slots := 2, locals := 0 } : Room).slots) := by
  refine MetFree.of_bodySF (plainFor_of_name own_pn_BitMatrix) hisR ?_
  intro p e s m args below meth c s₁ Bd hml0 hP hK
  obtain ⟨rfl, hZ, hh⟩ := hP
  have hx := Bd.exec
  have hby := Bd.bytes
  have hml : c.maxLocals = 7 := hml0
  have hown : s.vm.findClass "com/example/sieveline/sieveline/solver/BitMatrix" = some m.cls := findClass_of_methodNamed Bd.named
  have hnm := (name_of_methodNamed Bd.named Bd.method).1
  have hlk : meth.locks = false := BodyLoose.notSynchronized Bd
  have X0 : Stand p l e ({ frames := 0, cells := 1, slots := 2, locals := 0 } : Room) s m #[(.ref a0), (.ref a1)] below meth c s₁ [] 0 0 := Stand.of_body Bd
  have e0 : s₁.heap = h0 := by rw [← hh, Bd.state]; rfl
  have N0 := Fr.nil n0
  have K0 : Keep h0 h0 [] := Keep.refl _ _
  show ownEnds p e below s (Q_row_3_2 Z a0 a1 gi h0 n0) ({ frames := 0, cells := 1, slots := 2, locals := 0 } : Room).cells ({ frames := 0, cells := 1, slots := 2, locals := 0 } : Room).slots s₁ (entryFrame m #[(.ref a0), (.ref a1)] 7)
  refine ownCast (own_ef6_row_3_2 m a0 a1) ?_
  refine ow_aloadN (q := 1) X0 hx (hb hby own_d6_0) rfl rfl rfl ?_
  obtain ⟨T1, X1, e1, st1⟩ := getF X0 hx hZ hown (host := "") (Or.inl (hw _ (List.mem_of_getElem? (i := 13) rfl))) Via.refl e0 HF0 (g := (mkF m 1 #[rv a0, rv a1, .unset, .unset, .unset, .unset, .unset] [(.ref a0)])) rfl rfl (hb hby own_d6_1)
  refine ownGo (T' := T1) (f' := (mkF m 4 #[rv a0, rv a1, .unset, .unset, .unset, .unset, .unset] [(.int (2 : Int32))])) (st1) ?_
  obtain ⟨T2, h2, k2, X2, e2, E2, A2, st2⟩ := newP X1 hx hZ (hw _ (List.mem_of_getElem? (i := 22) rfl)) e1 (g := (mkF m 4 #[rv a0, rv a1, .unset, .unset, .unset, .unset, .unset] [(.int (2 : Int32))])) rfl (hb hby own_d6_4) rfl (by decide) (cap := 2) (by decide) (by decide) (by decide) (by decide)
  obtain ⟨b2, g2⟩ : ∃ z, z = h0.size := ⟨_, rfl⟩
  rw [← g2] at A2 st2
  have ne_a0_b2 : a0 ≠ b2 := Nat.ne_of_lt (Nat.lt_of_lt_of_le HF0.lt (Nat.le_of_eq g2.symm))
  have ne_a1_b2 : a1 ≠ b2 := Nat.ne_of_lt (Nat.lt_of_lt_of_le HF1.lt (Nat.le_of_eq g2.symm))
  have sz_b2 : h0.size ≤ b2 := Nat.le_trans K0.1 (Nat.le_of_eq g2.symm)
  have G_b2 : n0 ≤ b2 := Nat.le_trans Z0 sz_b2
  have K2 : Keep h0 h2 [] := K0.ext E2
  have F3 : Fld Z h2 a0 "com/example/sieveline/sieveline/solver/BitMatrix" "rowWords" "I" (.int (2 : Int32)) := HF0.ext E2
  have F4 : ownAI Z h2 a1 .int 3 gi := HF1.ext E2
  have F5 : ownAJ Z h2 b2 2 (fun _ => (0 : Int64)) := ownAJ.new A2 (by decide) (by decide)
  refine ownGo (T' := T2) (f' := (mkF m 6 #[rv a0, rv a1, .unset, .unset, .unset, .unset, .unset] [(.ref b2)])) (st2) ?_
  refine ow_astoreN (q := 7) X2 hx (L' := #[rv a0, rv a1, rv b2, .unset, .unset, .unset, .unset]) (hb hby own_d6_6) rfl rfl rfl ?_
  refine ow_aloadN (q := 8) X2 hx (hb hby own_d6_7) rfl rfl rfl ?_
  refine ow_astoreN (q := 9) X2 hx (L' := #[rv a0, rv a1, rv b2, rv a1, .unset, .unset, .unset]) (hb hby own_d6_8) rfl rfl rfl ?_
  refine ow_aloadN (q := 10) X2 hx (hb hby own_d6_9) rfl rfl rfl ?_
  refine ownGo (T' := T2) (f' := (mkF m 11 #[rv a0, rv a1, rv b2, rv a1, .unset, .unset, .unset] [(.int (3 : Int32))])) (ownLenI F4 X2 hx hZ e2 (z := (3 : Int32)) (by decide) (g := (mkF m 10 #[rv a0, rv a1, rv b2, rv a1, .unset, .unset, .unset] [(.ref a1)])) rfl rfl (hb hby own_d6_10)) ?_
  refine ow_istore (q := 13) X2 hx (L' := #[rv a0, rv a1, rv b2, rv a1, iv (3 : Int32), .unset, .unset]) (hb hby own_d6_11) rfl rfl ?_
  refine ow_iconst (q := 14) X2 hx (0 : Int32) (hb hby own_d6_13) rfl rfl ?_
  refine ow_istore (q := 16) X2 hx (L' := #[rv a0, rv a1, rv b2, rv a1, iv (3 : Int32), iv (0 : Int32), .unset]) (hb hby own_d6_14) rfl rfl ?_
  refine ow_iload (q := 18) X2 hx (hb hby own_d6_16) rfl rfl ?_
  refine ow_iload (q := 20) X2 hx (hb hby own_d6_18) rfl rfl ?_
  refine ow_icmpNo (q := 23) X2 hx (hb hby own_d6_20) rfl (Jvm.Free.XT.ii_ge_f (by decide)) ?_
  refine ow_aloadN (q := 24) X2 hx (hb hby own_d6_23) rfl rfl rfl ?_
  refine ow_iload (q := 26) X2 hx (hb hby own_d6_24) rfl rfl ?_
  refine ownGo (T' := T2) (f' := (mkF m 27 #[rv a0, rv a1, rv b2, rv a1, iv (3 : Int32), iv (0 : Int32), .unset] [(.int (gi 0))])) (ownIaload F4 X2 hx hZ e2 (j := (0 : Int32)) (by unfold ownIn; decide) (g := (mkF m 26 #[rv a0, rv a1, rv b2, rv a1, iv (3 : Int32), iv (0 : Int32), .unset] [(.int (0 : Int32)), (.ref a1)])) rfl rfl (hb hby own_d6_26)) ?_
  generalize hv_v6 : (gi 0) = v6
  refine ow_istore (q := 29) X2 hx (L' := #[rv a0, rv a1, rv b2, rv a1, iv (3 : Int32), iv (0 : Int32), iv v6]) (hb hby own_d6_27) rfl rfl ?_
  refine ow_aloadN (q := 30) X2 hx (hb hby own_d6_29) rfl rfl rfl ?_
  refine ow_iload (q := 32) X2 hx (hb hby own_d6_30) rfl rfl ?_
  refine ow_bipush (q := 34) X2 hx (64 : Int32) (hb hby own_d6_32) rfl rfl ?_
  refine ow_idiv (q := 35) X2 hx _ (hb hby own_d6_34) rfl (by decide) rfl ?_
  refine ow_dup2 (q := 36) X2 hx (hb hby own_d6_35) rfl rfl rfl ?_
  generalize hv_v7 : (v6 / (64 : Int32)) = v7
  refine ownGo (T' := T2) (f' := (mkF m 37 #[rv a0, rv a1, rv b2, rv a1, iv (3 : Int32), iv (0 : Int32), iv v6] [(.long ((fun _ => (0 : Int64)) v7.toNatClampNeg)), (.int v7), (.ref b2)])) (ownLaload F5 X2 hx hZ e2 (j := v7) (own_ixw (L := 2) hv_v7 (by rw [← hv_v6]; first | exact hr0 | exact hr1 | exact hr2)) (g := (mkF m 36 #[rv a0, rv a1, rv b2, rv a1, iv (3 : Int32), iv (0 : Int32), iv v6] [(.int v7), (.ref b2), (.int v7), (.ref b2)])) rfl rfl (hb hby own_d6_36)) ?_
  generalize hv_v8 : ((fun _ => (0 : Int64)) v7.toNatClampNeg) = v8
  refine ow_lconst (q := 38) X2 hx (1 : Int64) (hb hby own_d6_37) rfl rfl ?_
  refine ow_iload (q := 40) X2 hx (hb hby own_d6_38) rfl rfl ?_
  refine ow_lshl (q := 41) X2 hx _ (hb hby own_d6_40) rfl rfl ?_
  refine ow_lor (q := 42) X2 hx _ (hb hby own_d6_41) rfl rfl ?_
  generalize hv_v9 : (v8 ||| ((1 : Int64) <<< (v6 &&& 0x3f).toInt64)) = v9
  obtain ⟨T10, h10, X10, e10, W10, F10s, st10⟩ := ownLastore F5 X2 hx hZ e2 (j := v7) (own_ixw (L := 2) hv_v7 (by rw [← hv_v6]; first | exact hr0 | exact hr1 | exact hr2)) (g := (mkF m 42 #[rv a0, rv a1, rv b2, rv a1, iv (3 : Int32), iv (0 : Int32), iv v6] [(.long v9), (.int v7), (.ref b2)])) rfl rfl (hb hby own_d6_42)
  generalize hg_gf10 : (ownUpd (fun _ => (0 : Int64)) v7.toNatClampNeg v9) = gf10 at F10s
  have N10 := Fr.snoc X10 N0 G_b2
  have K10 : Keep h0 h10 [] := K2.wr W10 (Or.inr sz_b2)
  have F11 : Fld Z h10 a0 "com/example/sieveline/sieveline/solver/BitMatrix" "rowWords" "I" (.int (2 : Int32)) := F3.other W10 (Or.inl ne_a0_b2)
  have F12 : ownAI Z h10 a1 .int 3 gi := F4.other W10 ne_a1_b2
  refine ownGo (T' := T10) (f' := (mkF m 43 #[rv a0, rv a1, rv b2, rv a1, iv (3 : Int32), iv (0 : Int32), iv v6] [])) (st10) ?_
  refine ow_iinc (q := 46) X10 hx (L' := #[rv a0, rv a1, rv b2, rv a1, iv (3 : Int32), iv (1 : Int32), iv v6]) (hb hby own_d6_43) rfl rfl rfl ?_
  refine ow_goto (q := 16) X10 hx (hb hby own_d6_46) (by decide) (by decide) ?_
  refine ow_iload (q := 18) X10 hx (hb hby own_d6_16) rfl rfl ?_
  refine ow_iload (q := 20) X10 hx (hb hby own_d6_18) rfl rfl ?_
  refine ow_icmpNo (q := 23) X10 hx (hb hby own_d6_20) rfl (Jvm.Free.XT.ii_ge_f (by decide)) ?_
  refine ow_aloadN (q := 24) X10 hx (hb hby own_d6_23) rfl rfl rfl ?_
  refine ow_iload (q := 26) X10 hx (hb hby own_d6_24) rfl rfl ?_
  refine ownGo (T' := T10) (f' := (mkF m 27 #[rv a0, rv a1, rv b2, rv a1, iv (3 : Int32), iv (1 : Int32), iv v6] [(.int (gi 1))])) (ownIaload F12 X10 hx hZ e10 (j := (1 : Int32)) (by unfold ownIn; decide) (g := (mkF m 26 #[rv a0, rv a1, rv b2, rv a1, iv (3 : Int32), iv (1 : Int32), iv v6] [(.int (1 : Int32)), (.ref a1)])) rfl rfl (hb hby own_d6_26)) ?_
  generalize hv_v13 : (gi 1) = v13
  refine ow_istore (q := 29) X10 hx (L' := #[rv a0, rv a1, rv b2, rv a1, iv (3 : Int32), iv (1 : Int32), iv v13]) (hb hby own_d6_27) rfl rfl ?_
  refine ow_aloadN (q := 30) X10 hx (hb hby own_d6_29) rfl rfl rfl ?_
  refine ow_iload (q := 32) X10 hx (hb hby own_d6_30) rfl rfl ?_
  refine ow_bipush (q := 34) X10 hx (64 : Int32) (hb hby own_d6_32) rfl rfl ?_
  refine ow_idiv (q := 35) X10 hx _ (hb hby own_d6_34) rfl (by decide) rfl ?_
  refine ow_dup2 (q := 36) X10 hx (hb hby own_d6_35) rfl rfl rfl ?_
  generalize hv_v14 : (v13 / (64 : Int32)) = v14
  refine ownGo (T' := T10) (f' := (mkF m 37 #[rv a0, rv a1, rv b2, rv a1, iv (3 : Int32), iv (1 : Int32), iv v13] [(.long (gf10 v14.toNatClampNeg)), (.int v14), (.ref b2)])) (ownLaload F10s X10 hx hZ e10 (j := v14) (own_ixw (L := 2) hv_v14 (by rw [← hv_v13]; first | exact hr0 | exact hr1 | exact hr2)) (g := (mkF m 36 #[rv a0, rv a1, rv b2, rv a1, iv (3 : Int32), iv (1 : Int32), iv v13] [(.int v14), (.ref b2), (.int v14), (.ref b2)])) rfl rfl (hb hby own_d6_36)) ?_
  generalize hv_v15 : (gf10 v14.toNatClampNeg) = v15
  refine ow_lconst (q := 38) X10 hx (1 : Int64) (hb hby own_d6_37) rfl rfl ?_
  refine ow_iload (q := 40) X10 hx (hb hby own_d6_38) rfl rfl ?_
  refine ow_lshl (q := 41) X10 hx _ (hb hby own_d6_40) rfl rfl ?_
  refine ow_lor (q := 42) X10 hx _ (hb hby own_d6_41) rfl rfl ?_
  generalize hv_v16 : (v15 ||| ((1 : Int64) <<< (v13 &&& 0x3f).toInt64)) = v16
  obtain ⟨T17, h17, X17, e17, W17, F17s, st17⟩ := ownLastore F10s X10 hx hZ e10 (j := v14) (own_ixw (L := 2) hv_v14 (by rw [← hv_v13]; first | exact hr0 | exact hr1 | exact hr2)) (g := (mkF m 42 #[rv a0, rv a1, rv b2, rv a1, iv (3 : Int32), iv (1 : Int32), iv v13] [(.long v16), (.int v14), (.ref b2)])) rfl rfl (hb hby own_d6_42)
  generalize hg_gf17 : (ownUpd gf10 v14.toNatClampNeg v16) = gf17 at F17s
  have N17 := Fr.snoc X17 N10 G_b2
  have K17 : Keep h0 h17 [] := K10.wr W17 (Or.inr sz_b2)
  have F18 : Fld Z h17 a0 "com/example/sieveline/sieveline/solver/BitMatrix" "rowWords" "I" (.int (2 : Int32)) := F11.other W17 (Or.inl ne_a0_b2)
  have F19 : ownAI Z h17 a1 .int 3 gi := F12.other W17 ne_a1_b2
  refine ownGo (T' := T17) (f' := (mkF m 43 #[rv a0, rv a1, rv b2, rv a1, iv (3 : Int32), iv (1 : Int32), iv v13] [])) (st17) ?_
  refine ow_iinc (q := 46) X17 hx (L' := #[rv a0, rv a1, rv b2, rv a1, iv (3 : Int32), iv (2 : Int32), iv v13]) (hb hby own_d6_43) rfl rfl rfl ?_
  refine ow_goto (q := 16) X17 hx (hb hby own_d6_46) (by decide) (by decide) ?_
  refine ow_iload (q := 18) X17 hx (hb hby own_d6_16) rfl rfl ?_
  refine ow_iload (q := 20) X17 hx (hb hby own_d6_18) rfl rfl ?_
  refine ow_icmpNo (q := 23) X17 hx (hb hby own_d6_20) rfl (Jvm.Free.XT.ii_ge_f (by decide)) ?_
  refine ow_aloadN (q := 24) X17 hx (hb hby own_d6_23) rfl rfl rfl ?_
  refine ow_iload (q := 26) X17 hx (hb hby own_d6_24) rfl rfl ?_
  refine ownGo (T' := T17) (f' := (mkF m 27 #[rv a0, rv a1, rv b2, rv a1, iv (3 : Int32), iv (2 : Int32), iv v13] [(.int (gi 2))])) (ownIaload F19 X17 hx hZ e17 (j := (2 : Int32)) (by unfold ownIn; decide) (g := (mkF m 26 #[rv a0, rv a1, rv b2, rv a1, iv (3 : Int32), iv (2 : Int32), iv v13] [(.int (2 : Int32)), (.ref a1)])) rfl rfl (hb hby own_d6_26)) ?_
  generalize hv_v20 : (gi 2) = v20
  refine ow_istore (q := 29) X17 hx (L' := #[rv a0, rv a1, rv b2, rv a1, iv (3 : Int32), iv (2 : Int32), iv v20]) (hb hby own_d6_27) rfl rfl ?_
  refine ow_aloadN (q := 30) X17 hx (hb hby own_d6_29) rfl rfl rfl ?_
  refine ow_iload (q := 32) X17 hx (hb hby own_d6_30) rfl rfl ?_
  refine ow_bipush (q := 34) X17 hx (64 : Int32) (hb hby own_d6_32) rfl rfl ?_
  refine ow_idiv (q := 35) X17 hx _ (hb hby own_d6_34) rfl (by decide) rfl ?_
  refine ow_dup2 (q := 36) X17 hx (hb hby own_d6_35) rfl rfl rfl ?_
  generalize hv_v21 : (v20 / (64 : Int32)) = v21
  refine ownGo (T' := T17) (f' := (mkF m 37 #[rv a0, rv a1, rv b2, rv a1, iv (3 : Int32), iv (2 : Int32), iv v20] [(.long (gf17 v21.toNatClampNeg)), (.int v21), (.ref b2)])) (ownLaload F17s X17 hx hZ e17 (j := v21) (own_ixw (L := 2) hv_v21 (by rw [← hv_v20]; first | exact hr0 | exact hr1 | exact hr2)) (g := (mkF m 36 #[rv a0, rv a1, rv b2, rv a1, iv (3 : Int32), iv (2 : Int32), iv v20] [(.int v21), (.ref b2), (.int v21), (.ref b2)])) rfl rfl (hb hby own_d6_36)) ?_
  generalize hv_v22 : (gf17 v21.toNatClampNeg) = v22
  refine ow_lconst (q := 38) X17 hx (1 : Int64) (hb hby own_d6_37) rfl rfl ?_
  refine ow_iload (q := 40) X17 hx (hb hby own_d6_38) rfl rfl ?_
  refine ow_lshl (q := 41) X17 hx _ (hb hby own_d6_40) rfl rfl ?_
  refine ow_lor (q := 42) X17 hx _ (hb hby own_d6_41) rfl rfl ?_
  generalize hv_v23 : (v22 ||| ((1 : Int64) <<< (v20 &&& 0x3f).toInt64)) = v23
  obtain ⟨T24, h24, X24, e24, W24, F24s, st24⟩ := ownLastore F17s X17 hx hZ e17 (j := v21) (own_ixw (L := 2) hv_v21 (by rw [← hv_v20]; first | exact hr0 | exact hr1 | exact hr2)) (g := (mkF m 42 #[rv a0, rv a1, rv b2, rv a1, iv (3 : Int32), iv (2 : Int32), iv v20] [(.long v23), (.int v21), (.ref b2)])) rfl rfl (hb hby own_d6_42)
  generalize hg_gf24 : (ownUpd gf17 v21.toNatClampNeg v23) = gf24 at F24s
  have N24 := Fr.snoc X24 N17 G_b2
  have K24 : Keep h0 h24 [] := K17.wr W24 (Or.inr sz_b2)
  have F25 : Fld Z h24 a0 "com/example/sieveline/sieveline/solver/BitMatrix" "rowWords" "I" (.int (2 : Int32)) := F18.other W24 (Or.inl ne_a0_b2)
  have F26 : ownAI Z h24 a1 .int 3 gi := F19.other W24 ne_a1_b2
  refine ownGo (T' := T24) (f' := (mkF m 43 #[rv a0, rv a1, rv b2, rv a1, iv (3 : Int32), iv (2 : Int32), iv v20] [])) (st24) ?_
  refine ow_iinc (q := 46) X24 hx (L' := #[rv a0, rv a1, rv b2, rv a1, iv (3 : Int32), iv (3 : Int32), iv v20]) (hb hby own_d6_43) rfl rfl rfl ?_
  refine ow_goto (q := 16) X24 hx (hb hby own_d6_46) (by decide) (by decide) ?_
  refine ow_iload (q := 18) X24 hx (hb hby own_d6_16) rfl rfl ?_
  refine ow_iload (q := 20) X24 hx (hb hby own_d6_18) rfl rfl ?_
  refine ow_icmpYes (q := 49) X24 hx (hb hby own_d6_20) (Jvm.Free.XT.ii_ge_t (by decide)) (by decide) (by decide) ?_
  refine ow_aloadN (q := 50) X24 hx (hb hby own_d6_49) rfl rfl rfl ?_
  refine ownRetR X24 hx rfl rfl rfl Bd.returns (hb hby own_d6_50) hlk (by decide) (by decide) ?_
  subst hg_gf24 hv_v23 hv_v22 hv_v21 hv_v20 hg_gf17 hv_v16 hv_v15 hv_v14 hv_v13 hg_gf10 hv_v9 hv_v8 hv_v7 hv_v6
  rw [e24]
  exact ⟨b2, rfl, N24, K24, sz_b2, F24s⟩
theorem own_ef6_row_3_3 (m : MethodId) (a0 : Addr) (a1 : Addr) : entryFrame m #[(.ref a0), (.ref a1)] 7 = mkF m 0 #[rv a0, rv a1, .unset, .unset, .unset, .unset, .unset] [] := by first | (simp [entryFrame, mkF, argsToLocals, Value.category]; done) | rfl
def Q_row_3_3 (Z : State) (a0 : Addr) (a1 : Addr) (gi : Nat → Int32) (h0 : Heap) (n0 : Nat) (v : Option Value) (h : Heap) (L : List Loc) : Prop := ∃ (r : Addr), v = some (.ref r) ∧ Fr n0 L ∧ Keep h0 h [] ∧ h0.size ≤ r ∧ ownAJ Z h r 3 (own_or1 (own_or1 (own_or1 (fun _ => (0 : Int64)) (gi 0)) (gi 1)) (gi 2))
set_option maxRecDepth 65536 in
set_option maxHeartbeats 40000000 in
theorem rm_row_3_3 (l : Launch) (Z : State) (av0 : Array Value) (hw : ∀ d ∈ tables_1, d.before av0 Z = true) (ws : List Jvm.Cond) (a0 : Addr) (a1 : Addr) (gi : Nat → Int32) (h0 : Heap) (n0 : Nat) (Z0 : n0 ≤ h0.size) (HF0 : Fld Z h0 a0 "com/example/sieveline/sieveline/solver/BitMatrix" "rowWords" "I" (.int (3 : Int32))) (HF1 : ownAI Z h0 a1 .int 3 gi) (hr0 : 0 ≤ (gi 0).toInt ∧ (gi 0).toInt < 192) (hr1 : 0 ≤ (gi 1).toInt ∧ (gi 1).toInt < 192) (hr2 : 0 ≤ (gi 2).toInt ∧ (gi 2).toInt < 192) :
    MetFree l (⟨"com/example/sieveline/sieveline/solver/BitMatrix", "row", "([I)[J"⟩ : MethodName) (head1 (Jvm.Cond.code (⟨"com/example/sieveline/sieveline/solver/BitMatrix", "row", "([I)[J"⟩ : MethodName) prog_49_method_6_code 7 (some (.array .long)) :: ws) ({ frames := 0, cells := 1, slots := 3, locals := 0 } : Room)) (fun a U => a = #[(.ref a0), (.ref a1)] ∧ Z.Warmed39 U.vm ∧ U.heap = h0) (fun _ _ _ _ _ => True) (fun _ U o U' => ∃ v L, o = .returned v ∧ (Q_row_3_3 Z a0 a1 gi h0 n0) v U'.heap L ∧ FrameEnd U o U' L ({ frames := 0, cells := 1, slots := 3, locals := 0 } : Room).cells ({ frames := 0, cells := 1, slots := 3, locals := 0 } : Room).slots) := by
  refine MetFree.of_bodySF (plainFor_of_name own_pn_BitMatrix) hisR ?_
  intro p e s m args below meth c s₁ Bd hml0 hP hK
  obtain ⟨rfl, hZ, hh⟩ := hP
  have hx := Bd.exec
  have hby := Bd.bytes
  have hml : c.maxLocals = 7 := hml0
  have hown : s.vm.findClass "com/example/sieveline/sieveline/solver/BitMatrix" = some m.cls := findClass_of_methodNamed Bd.named
  have hnm := (name_of_methodNamed Bd.named Bd.method).1
  have hlk : meth.locks = false := BodyLoose.notSynchronized Bd
  have X0 : Stand p l e ({ frames := 0, cells := 1, slots := 3, locals := 0 } : Room) s m #[(.ref a0), (.ref a1)] below meth c s₁ [] 0 0 := Stand.of_body Bd
  have e0 : s₁.heap = h0 := by rw [← hh, Bd.state]; rfl
  have N0 := Fr.nil n0
  have K0 : Keep h0 h0 [] := Keep.refl _ _
  show ownEnds p e below s (Q_row_3_3 Z a0 a1 gi h0 n0) ({ frames := 0, cells := 1, slots := 3, locals := 0 } : Room).cells ({ frames := 0, cells := 1, slots := 3, locals := 0 } : Room).slots s₁ (entryFrame m #[(.ref a0), (.ref a1)] 7)
  refine ownCast (own_ef6_row_3_3 m a0 a1) ?_
  refine ow_aloadN (q := 1) X0 hx (hb hby own_d6_0) rfl rfl rfl ?_
  obtain ⟨T1, X1, e1, st1⟩ := getF X0 hx hZ hown (host := "") (Or.inl (hw _ (List.mem_of_getElem? (i := 13) rfl))) Via.refl e0 HF0 (g := (mkF m 1 #[rv a0, rv a1, .unset, .unset, .unset, .unset, .unset] [(.ref a0)])) rfl rfl (hb hby own_d6_1)
  refine ownGo (T' := T1) (f' := (mkF m 4 #[rv a0, rv a1, .unset, .unset, .unset, .unset, .unset] [(.int (3 : Int32))])) (st1) ?_
  obtain ⟨T2, h2, k2, X2, e2, E2, A2, st2⟩ := newP X1 hx hZ (hw _ (List.mem_of_getElem? (i := 22) rfl)) e1 (g := (mkF m 4 #[rv a0, rv a1, .unset, .unset, .unset, .unset, .unset] [(.int (3 : Int32))])) rfl (hb hby own_d6_4) rfl (by decide) (cap := 3) (by decide) (by decide) (by decide) (by decide)
  obtain ⟨b2, g2⟩ : ∃ z, z = h0.size := ⟨_, rfl⟩
  rw [← g2] at A2 st2
  have ne_a0_b2 : a0 ≠ b2 := Nat.ne_of_lt (Nat.lt_of_lt_of_le HF0.lt (Nat.le_of_eq g2.symm))
  have ne_a1_b2 : a1 ≠ b2 := Nat.ne_of_lt (Nat.lt_of_lt_of_le HF1.lt (Nat.le_of_eq g2.symm))
  have sz_b2 : h0.size ≤ b2 := Nat.le_trans K0.1 (Nat.le_of_eq g2.symm)
  have G_b2 : n0 ≤ b2 := Nat.le_trans Z0 sz_b2
  have K2 : Keep h0 h2 [] := K0.ext E2
  have F3 : Fld Z h2 a0 "com/example/sieveline/sieveline/solver/BitMatrix" "rowWords" "I" (.int (3 : Int32)) := HF0.ext E2
  have F4 : ownAI Z h2 a1 .int 3 gi := HF1.ext E2
  have F5 : ownAJ Z h2 b2 3 (fun _ => (0 : Int64)) := ownAJ.new A2 (by decide) (by decide)
  refine ownGo (T' := T2) (f' := (mkF m 6 #[rv a0, rv a1, .unset, .unset, .unset, .unset, .unset] [(.ref b2)])) (st2) ?_
  refine ow_astoreN (q := 7) X2 hx (L' := #[rv a0, rv a1, rv b2, .unset, .unset, .unset, .unset]) (hb hby own_d6_6) rfl rfl rfl ?_
  refine ow_aloadN (q := 8) X2 hx (hb hby own_d6_7) rfl rfl rfl ?_
  refine ow_astoreN (q := 9) X2 hx (L' := #[rv a0, rv a1, rv b2, rv a1, .unset, .unset, .unset]) (hb hby own_d6_8) rfl rfl rfl ?_
  refine ow_aloadN (q := 10) X2 hx (hb hby own_d6_9) rfl rfl rfl ?_
  refine ownGo (T' := T2) (f' := (mkF m 11 #[rv a0, rv a1, rv b2, rv a1, .unset, .unset, .unset] [(.int (3 : Int32))])) (ownLenI F4 X2 hx hZ e2 (z := (3 : Int32)) (by decide) (g := (mkF m 10 #[rv a0, rv a1, rv b2, rv a1, .unset, .unset, .unset] [(.ref a1)])) rfl rfl (hb hby own_d6_10)) ?_
  refine ow_istore (q := 13) X2 hx (L' := #[rv a0, rv a1, rv b2, rv a1, iv (3 : Int32), .unset, .unset]) (hb hby own_d6_11) rfl rfl ?_
  refine ow_iconst (q := 14) X2 hx (0 : Int32) (hb hby own_d6_13) rfl rfl ?_
  refine ow_istore (q := 16) X2 hx (L' := #[rv a0, rv a1, rv b2, rv a1, iv (3 : Int32), iv (0 : Int32), .unset]) (hb hby own_d6_14) rfl rfl ?_
  refine ow_iload (q := 18) X2 hx (hb hby own_d6_16) rfl rfl ?_
  refine ow_iload (q := 20) X2 hx (hb hby own_d6_18) rfl rfl ?_
  refine ow_icmpNo (q := 23) X2 hx (hb hby own_d6_20) rfl (Jvm.Free.XT.ii_ge_f (by decide)) ?_
  refine ow_aloadN (q := 24) X2 hx (hb hby own_d6_23) rfl rfl rfl ?_
  refine ow_iload (q := 26) X2 hx (hb hby own_d6_24) rfl rfl ?_
  refine ownGo (T' := T2) (f' := (mkF m 27 #[rv a0, rv a1, rv b2, rv a1, iv (3 : Int32), iv (0 : Int32), .unset] [(.int (gi 0))])) (ownIaload F4 X2 hx hZ e2 (j := (0 : Int32)) (by unfold ownIn; decide) (g := (mkF m 26 #[rv a0, rv a1, rv b2, rv a1, iv (3 : Int32), iv (0 : Int32), .unset] [(.int (0 : Int32)), (.ref a1)])) rfl rfl (hb hby own_d6_26)) ?_
  generalize hv_v6 : (gi 0) = v6
  refine ow_istore (q := 29) X2 hx (L' := #[rv a0, rv a1, rv b2, rv a1, iv (3 : Int32), iv (0 : Int32), iv v6]) (hb hby own_d6_27) rfl rfl ?_
  refine ow_aloadN (q := 30) X2 hx (hb hby own_d6_29) rfl rfl rfl ?_
  refine ow_iload (q := 32) X2 hx (hb hby own_d6_30) rfl rfl ?_
  refine ow_bipush (q := 34) X2 hx (64 : Int32) (hb hby own_d6_32) rfl rfl ?_
  refine ow_idiv (q := 35) X2 hx _ (hb hby own_d6_34) rfl (by decide) rfl ?_
  refine ow_dup2 (q := 36) X2 hx (hb hby own_d6_35) rfl rfl rfl ?_
  generalize hv_v7 : (v6 / (64 : Int32)) = v7
  refine ownGo (T' := T2) (f' := (mkF m 37 #[rv a0, rv a1, rv b2, rv a1, iv (3 : Int32), iv (0 : Int32), iv v6] [(.long ((fun _ => (0 : Int64)) v7.toNatClampNeg)), (.int v7), (.ref b2)])) (ownLaload F5 X2 hx hZ e2 (j := v7) (own_ixw (L := 3) hv_v7 (by rw [← hv_v6]; first | exact hr0 | exact hr1 | exact hr2)) (g := (mkF m 36 #[rv a0, rv a1, rv b2, rv a1, iv (3 : Int32), iv (0 : Int32), iv v6] [(.int v7), (.ref b2), (.int v7), (.ref b2)])) rfl rfl (hb hby own_d6_36)) ?_
  generalize hv_v8 : ((fun _ => (0 : Int64)) v7.toNatClampNeg) = v8
  refine ow_lconst (q := 38) X2 hx (1 : Int64) (hb hby own_d6_37) rfl rfl ?_
  refine ow_iload (q := 40) X2 hx (hb hby own_d6_38) rfl rfl ?_
  refine ow_lshl (q := 41) X2 hx _ (hb hby own_d6_40) rfl rfl ?_
  refine ow_lor (q := 42) X2 hx _ (hb hby own_d6_41) rfl rfl ?_
  generalize hv_v9 : (v8 ||| ((1 : Int64) <<< (v6 &&& 0x3f).toInt64)) = v9
  obtain ⟨T10, h10, X10, e10, W10, F10s, st10⟩ := ownLastore F5 X2 hx hZ e2 (j := v7) (own_ixw (L := 3) hv_v7 (by rw [← hv_v6]; first | exact hr0 | exact hr1 | exact hr2)) (g := (mkF m 42 #[rv a0, rv a1, rv b2, rv a1, iv (3 : Int32), iv (0 : Int32), iv v6] [(.long v9), (.int v7), (.ref b2)])) rfl rfl (hb hby own_d6_42)
  generalize hg_gf10 : (ownUpd (fun _ => (0 : Int64)) v7.toNatClampNeg v9) = gf10 at F10s
  have N10 := Fr.snoc X10 N0 G_b2
  have K10 : Keep h0 h10 [] := K2.wr W10 (Or.inr sz_b2)
  have F11 : Fld Z h10 a0 "com/example/sieveline/sieveline/solver/BitMatrix" "rowWords" "I" (.int (3 : Int32)) := F3.other W10 (Or.inl ne_a0_b2)
  have F12 : ownAI Z h10 a1 .int 3 gi := F4.other W10 ne_a1_b2
  refine ownGo (T' := T10) (f' := (mkF m 43 #[rv a0, rv a1, rv b2, rv a1, iv (3 : Int32), iv (0 : Int32), iv v6] [])) (st10) ?_
  refine ow_iinc (q := 46) X10 hx (L' := #[rv a0, rv a1, rv b2, rv a1, iv (3 : Int32), iv (1 : Int32), iv v6]) (hb hby own_d6_43) rfl rfl rfl ?_
  refine ow_goto (q := 16) X10 hx (hb hby own_d6_46) (by decide) (by decide) ?_
  refine ow_iload (q := 18) X10 hx (hb hby own_d6_16) rfl rfl ?_
  refine ow_iload (q := 20) X10 hx (hb hby own_d6_18) rfl rfl ?_
  refine ow_icmpNo (q := 23) X10 hx (hb hby own_d6_20) rfl (Jvm.Free.XT.ii_ge_f (by decide)) ?_
  refine ow_aloadN (q := 24) X10 hx (hb hby own_d6_23) rfl rfl rfl ?_
  refine ow_iload (q := 26) X10 hx (hb hby own_d6_24) rfl rfl ?_
  refine ownGo (T' := T10) (f' := (mkF m 27 #[rv a0, rv a1, rv b2, rv a1, iv (3 : Int32), iv (1 : Int32), iv v6] [(.int (gi 1))])) (ownIaload F12 X10 hx hZ e10 (j := (1 : Int32)) (by unfold ownIn; decide) (g := (mkF m 26 #[rv a0, rv a1, rv b2, rv a1, iv (3 : Int32), iv (1 : Int32), iv v6] [(.int (1 : Int32)), (.ref a1)])) rfl rfl (hb hby own_d6_26)) ?_
  generalize hv_v13 : (gi 1) = v13
  refine ow_istore (q := 29) X10 hx (L' := #[rv a0, rv a1, rv b2, rv a1, iv (3 : Int32), iv (1 : Int32), iv v13]) (hb hby own_d6_27) rfl rfl ?_
  refine ow_aloadN (q := 30) X10 hx (hb hby own_d6_29) rfl rfl rfl ?_
  refine ow_iload (q := 32) X10 hx (hb hby own_d6_30) rfl rfl ?_
  refine ow_bipush (q := 34) X10 hx (64 : Int32) (hb hby own_d6_32) rfl rfl ?_
  refine ow_idiv (q := 35) X10 hx _ (hb hby own_d6_34) rfl (by decide) rfl ?_
  refine ow_dup2 (q := 36) X10 hx (hb hby own_d6_35) rfl rfl rfl ?_
  generalize hv_v14 : (v13 / (64 : Int32)) = v14
  refine ownGo (T' := T10) (f' := (mkF m 37 #[rv a0, rv a1, rv b2, rv a1, iv (3 : Int32), iv (1 : Int32), iv v13] [(.long (gf10 v14.toNatClampNeg)), (.int v14), (.ref b2)])) (ownLaload F10s X10 hx hZ e10 (j := v14) (own_ixw (L := 3) hv_v14 (by rw [← hv_v13]; first | exact hr0 | exact hr1 | exact hr2)) (g := (mkF m 36 #[rv a0, rv a1, rv b2, rv a1, iv (3 : Int32), iv (1 : Int32), iv v13] [(.int v14), (.ref b2), (.int v14), (.ref b2)])) rfl rfl (hb hby own_d6_36)) ?_
  generalize hv_v15 : (gf10 v14.toNatClampNeg) = v15
  refine ow_lconst (q := 38) X10 hx (1 : Int64) (hb hby own_d6_37) rfl rfl ?_
  refine ow_iload (q := 40) X10 hx (hb hby own_d6_38) rfl rfl ?_
  refine ow_lshl (q := 41) X10 hx _ (hb hby own_d6_40) rfl rfl ?_
  refine ow_lor (q := 42) X10 hx _ (hb hby own_d6_41) rfl rfl ?_
  generalize hv_v16 : (v15 ||| ((1 : Int64) <<< (v13 &&& 0x3f).toInt64)) = v16
  obtain ⟨T17, h17, X17, e17, W17, F17s, st17⟩ := ownLastore F10s X10 hx hZ e10 (j := v14) (own_ixw (L := 3) hv_v14 (by rw [← hv_v13]; first | exact hr0 | exact hr1 | exact hr2)) (g := (mkF m 42 #[rv a0, rv a1, rv b2, rv a1, iv (3 : Int32), iv (1 : Int32), iv v13] [(.long v16), (.int v14), (.ref b2)])) rfl rfl (hb hby own_d6_42)
  generalize hg_gf17 : (ownUpd gf10 v14.toNatClampNeg v16) = gf17 at F17s
  have N17 := Fr.snoc X17 N10 G_b2
  have K17 : Keep h0 h17 [] := K10.wr W17 (Or.inr sz_b2)
  have F18 : Fld Z h17 a0 "com/example/sieveline/sieveline/solver/BitMatrix" "rowWords" "I" (.int (3 : Int32)) := F11.other W17 (Or.inl ne_a0_b2)
  have F19 : ownAI Z h17 a1 .int 3 gi := F12.other W17 ne_a1_b2
  refine ownGo (T' := T17) (f' := (mkF m 43 #[rv a0, rv a1, rv b2, rv a1, iv (3 : Int32), iv (1 : Int32), iv v13] [])) (st17) ?_
  refine ow_iinc (q := 46) X17 hx (L' := #[rv a0, rv a1, rv b2, rv a1, iv (3 : Int32), iv (2 : Int32), iv v13]) (hb hby own_d6_43) rfl rfl rfl ?_
  refine ow_goto (q := 16) X17 hx (hb hby own_d6_46) (by decide) (by decide) ?_
  refine ow_iload (q := 18) X17 hx (hb hby own_d6_16) rfl rfl ?_
  refine ow_iload (q := 20) X17 hx (hb hby own_d6_18) rfl rfl ?_
  refine ow_icmpNo (q := 23) X17 hx (hb hby own_d6_20) rfl (Jvm.Free.XT.ii_ge_f (by decide)) ?_
  refine ow_aloadN (q := 24) X17 hx (hb hby own_d6_23) rfl rfl rfl ?_
  refine ow_iload (q := 26) X17 hx (hb hby own_d6_24) rfl rfl ?_
  refine ownGo (T' := T17) (f' := (mkF m 27 #[rv a0, rv a1, rv b2, rv a1, iv (3 : Int32), iv (2 : Int32), iv v13] [(.int (gi 2))])) (ownIaload F19 X17 hx hZ e17 (j := (2 : Int32)) (by unfold ownIn; decide) (g := (mkF m 26 #[rv a0, rv a1, rv b2, rv a1, iv (3 : Int32), iv (2 : Int32), iv v13] [(.int (2 : Int32)), (.ref a1)])) rfl rfl (hb hby own_d6_26)) ?_
  generalize hv_v20 : (gi 2) = v20
  refine ow_istore (q := 29) X17 hx (L' := #[rv a0, rv a1, rv b2, rv a1, iv (3 : Int32), iv (2 : Int32), iv v20]) (hb hby own_d6_27) rfl rfl ?_
  refine ow_aloadN (q := 30) X17 hx (hb hby own_d6_29) rfl rfl rfl ?_
  refine ow_iload (q := 32) X17 hx (hb hby own_d6_30) rfl rfl ?_
  refine ow_bipush (q := 34) X17 hx (64 : Int32) (hb hby own_d6_32) rfl rfl ?_
  refine ow_idiv (q := 35) X17 hx _ (hb hby own_d6_34) rfl (by decide) rfl ?_
  refine ow_dup2 (q := 36) X17 hx (hb hby own_d6_35) rfl rfl rfl ?_
  generalize hv_v21 : (v20 / (64 : Int32)) = v21
  refine ownGo (T' := T17) (f' := (mkF m 37 #[rv a0, rv a1, rv b2, rv a1, iv (3 : Int32), iv (2 : Int32), iv v20] [(.long (gf17 v21.toNatClampNeg)), (.int v21), (.ref b2)])) (ownLaload F17s X17 hx hZ e17 (j := v21) (own_ixw (L := 3) hv_v21 (by rw [← hv_v20]; first | exact hr0 | exact hr1 | exact hr2)) (g := (mkF m 36 #[rv a0, rv a1, rv b2, rv a1, iv (3 : Int32), iv (2 : Int32), iv v20] [(.int v21), (.ref b2), (.int v21), (.ref b2)])) rfl rfl (hb hby own_d6_36)) ?_
  generalize hv_v22 : (gf17 v21.toNatClampNeg) = v22
  refine ow_lconst (q := 38) X17 hx (1 : Int64) (hb hby own_d6_37) rfl rfl ?_
  refine ow_iload (q := 40) X17 hx (hb hby own_d6_38) rfl rfl ?_
  refine ow_lshl (q := 41) X17 hx _ (hb hby own_d6_40) rfl rfl ?_
  refine ow_lor (q := 42) X17 hx _ (hb hby own_d6_41) rfl rfl ?_
  generalize hv_v23 : (v22 ||| ((1 : Int64) <<< (v20 &&& 0x3f).toInt64)) = v23
  obtain ⟨T24, h24, X24, e24, W24, F24s, st24⟩ := ownLastore F17s X17 hx hZ e17 (j := v21) (own_ixw (L := 3) hv_v21 (by rw [← hv_v20]; first | exact hr0 | exact hr1 | exact hr2)) (g := (mkF m 42 #[rv a0, rv a1, rv b2, rv a1, iv (3 : Int32), iv (2 : Int32), iv v20] [(.long v23), (.int v21), (.ref b2)])) rfl rfl (hb hby own_d6_42)
  generalize hg_gf24 : (ownUpd gf17 v21.toNatClampNeg v23) = gf24 at F24s
  have N24 := Fr.snoc X24 N17 G_b2
  have K24 : Keep h0 h24 [] := K17.wr W24 (Or.inr sz_b2)
  have F25 : Fld Z h24 a0 "com/example/sieveline/sieveline/solver/BitMatrix" "rowWords" "I" (.int (3 : Int32)) := F18.other W24 (Or.inl ne_a0_b2)
  have F26 : ownAI Z h24 a1 .int 3 gi := F19.other W24 ne_a1_b2
  refine ownGo (T' := T24) (f' := (mkF m 43 #[rv a0, rv a1, rv b2, rv a1, iv (3 : Int32), iv (2 : Int32), iv v20] [])) (st24) ?_
  refine ow_iinc (q := 46) X24 hx (L' := #[rv a0, rv a1, rv b2, rv a1, iv (3 : Int32), iv (3 : Int32), iv v20]) (hb hby own_d6_43) rfl rfl rfl ?_
  refine ow_goto (q := 16) X24 hx (hb hby own_d6_46) (by decide) (by decide) ?_
  refine ow_iload (q := 18) X24 hx (hb hby own_d6_16) rfl rfl ?_
  refine ow_iload (q := 20) X24 hx (hb hby own_d6_18) rfl rfl ?_
  refine ow_icmpYes (q := 49) X24 hx (hb hby own_d6_20) (Jvm.Free.XT.ii_ge_t (by decide)) (by decide) (by decide) ?_
  refine ow_aloadN (q := 50) X24 hx (hb hby own_d6_49) rfl rfl rfl ?_
  refine ownRetR X24 hx rfl rfl rfl Bd.returns (hb hby own_d6_50) hlk (by decide) (by decide) ?_
  subst hg_gf24 hv_v23 hv_v22 hv_v21 hv_v20 hg_gf17 hv_v16 hv_v15 hv_v14 hv_v13 hg_gf10 hv_v9 hv_v8 hv_v7 hv_v6
  rw [e24]
  exact ⟨b2, rfl, N24, K24, sz_b2, F24s⟩
theorem own_ef6_row_3_4 (m : MethodId) (a0 : Addr) (a1 : Addr) : entryFrame m #[(.ref a0), (.ref a1)] 7 = mkF m 0 #[rv a0, rv a1, .unset, .unset, .unset, .unset, .unset] [] := by first | (simp [entryFrame, mkF, argsToLocals, Value.category]; done) | rfl
def Q_row_3_4 (Z : State) (a0 : Addr) (a1 : Addr) (gi : Nat → Int32) (h0 : Heap) (n0 : Nat) (v : Option Value) (h : Heap) (L : List Loc) : Prop := ∃ (r : Addr), v = some (.ref r) ∧ Fr n0 L ∧ Keep h0 h [] ∧ h0.size ≤ r ∧ ownAJ Z h r 4 (own_or1 (own_or1 (own_or1 (fun _ => (0 : Int64)) (gi 0)) (gi 1)) (gi 2))
set_option maxRecDepth 65536 in
set_option maxHeartbeats 40000000 in
theorem rm_row_3_4 (l : Launch) (Z : State) (av0 : Array Value) (hw : ∀ d ∈ tables_1, d.before av0 Z = true) (ws : List Jvm.Cond) (a0 : Addr) (a1 : Addr) (gi : Nat → Int32) (h0 : Heap) (n0 : Nat) (Z0 : n0 ≤ h0.size) (HF0 : Fld Z h0 a0 "com/example/sieveline/sieveline/solver/BitMatrix" "rowWords" "I" (.int (4 : Int32))) (HF1 : ownAI Z h0 a1 .int 3 gi) (hr0 : 0 ≤ (gi 0).toInt ∧ (gi 0).toInt < 256) (hr1 : 0 ≤ (gi 1).toInt ∧ (gi 1).toInt < 256) (hr2 : 0 ≤ (gi 2).toInt ∧ (gi 2).toInt < 256) :
    MetFree l (⟨"com/example/sieveline/sieveline/solver/BitMatrix", "row", "([I)[J"⟩ : MethodName) (head1 (Jvm.Cond.code (⟨"com/example/sieveline/sieveline/solver/BitMatrix", "row", "([I)[J"⟩ : MethodName) prog_49_method_6_code 7 (some (.array .long)) :: ws) ({ frames := 0, cells := 1, slots := 4, locals := 0 } : Room)) (fun a U => a = #[(.ref a0), (.ref a1)] ∧ Z.Warmed39 U.vm ∧ U.heap = h0) (fun _ _ _ _ _ => True) (fun _ U o U' => ∃ v L, o = .returned v ∧ (Q_row_3_4 Z a0 a1 gi h0 n0) v U'.heap L ∧ FrameEnd U o U' L ({ frames := 0, cells := 1, slots := 4, locals := 0 } : Room).cells ({ frames := 0, cells := 1, slots := 4, locals := 0 } : Room).slots) := by
  refine MetFree.of_bodySF (plainFor_of_name own_pn_BitMatrix) hisR ?_
  intro p e s m args below meth c s₁ Bd hml0 hP hK
  obtain ⟨rfl, hZ, hh⟩ := hP
  have hx := Bd.exec
  have hby := Bd.bytes
  have hml : c.maxLocals = 7 := hml0
  have hown : s.vm.findClass "com/example/sieveline/sieveline/solver/BitMatrix" = some m.cls := findClass_of_methodNamed Bd.named
  have hnm := (name_of_methodNamed Bd.named Bd.method).1
  have hlk : meth.locks = false := BodyLoose.notSynchronized Bd
  have X0 : Stand p l e ({ frames := 0, cells := 1, slots := 4, locals := 0 } : Room) s m #[(.ref a0), (.ref a1)] below meth c s₁ [] 0 0 := Stand.of_body Bd
  have e0 : s₁.heap = h0 := by rw [← hh, Bd.state]; rfl
  have N0 := Fr.nil n0
  have K0 : Keep h0 h0 [] := Keep.refl _ _
  show ownEnds p e below s (Q_row_3_4 Z a0 a1 gi h0 n0) ({ frames := 0, cells := 1, slots := 4, locals := 0 } : Room).cells ({ frames := 0, cells := 1, slots := 4, locals := 0 } : Room).slots s₁ (entryFrame m #[(.ref a0), (.ref a1)] 7)
  refine ownCast (own_ef6_row_3_4 m a0 a1) ?_
  refine ow_aloadN (q := 1) X0 hx (hb hby own_d6_0) rfl rfl rfl ?_
  obtain ⟨T1, X1, e1, st1⟩ := getF X0 hx hZ hown (host := "") (Or.inl (hw _ (List.mem_of_getElem? (i := 13) rfl))) Via.refl e0 HF0 (g := (mkF m 1 #[rv a0, rv a1, .unset, .unset, .unset, .unset, .unset] [(.ref a0)])) rfl rfl (hb hby own_d6_1)
  refine ownGo (T' := T1) (f' := (mkF m 4 #[rv a0, rv a1, .unset, .unset, .unset, .unset, .unset] [(.int (4 : Int32))])) (st1) ?_
  obtain ⟨T2, h2, k2, X2, e2, E2, A2, st2⟩ := newP X1 hx hZ (hw _ (List.mem_of_getElem? (i := 22) rfl)) e1 (g := (mkF m 4 #[rv a0, rv a1, .unset, .unset, .unset, .unset, .unset] [(.int (4 : Int32))])) rfl (hb hby own_d6_4) rfl (by decide) (cap := 4) (by decide) (by decide) (by decide) (by decide)
  obtain ⟨b2, g2⟩ : ∃ z, z = h0.size := ⟨_, rfl⟩
  rw [← g2] at A2 st2
  have ne_a0_b2 : a0 ≠ b2 := Nat.ne_of_lt (Nat.lt_of_lt_of_le HF0.lt (Nat.le_of_eq g2.symm))
  have ne_a1_b2 : a1 ≠ b2 := Nat.ne_of_lt (Nat.lt_of_lt_of_le HF1.lt (Nat.le_of_eq g2.symm))
  have sz_b2 : h0.size ≤ b2 := Nat.le_trans K0.1 (Nat.le_of_eq g2.symm)
  have G_b2 : n0 ≤ b2 := Nat.le_trans Z0 sz_b2
  have K2 : Keep h0 h2 [] := K0.ext E2
  have F3 : Fld Z h2 a0 "com/example/sieveline/sieveline/solver/BitMatrix" "rowWords" "I" (.int (4 : Int32)) := HF0.ext E2
  have F4 : ownAI Z h2 a1 .int 3 gi := HF1.ext E2
  have F5 : ownAJ Z h2 b2 4 (fun _ => (0 : Int64)) := ownAJ.new A2 (by decide) (by decide)
  refine ownGo (T' := T2) (f' := (mkF m 6 #[rv a0, rv a1, .unset, .unset, .unset, .unset, .unset] [(.ref b2)])) (st2) ?_
  refine ow_astoreN (q := 7) X2 hx (L' := #[rv a0, rv a1, rv b2, .unset, .unset, .unset, .unset]) (hb hby own_d6_6) rfl rfl rfl ?_
  refine ow_aloadN (q := 8) X2 hx (hb hby own_d6_7) rfl rfl rfl ?_
  refine ow_astoreN (q := 9) X2 hx (L' := #[rv a0, rv a1, rv b2, rv a1, .unset, .unset, .unset]) (hb hby own_d6_8) rfl rfl rfl ?_
  refine ow_aloadN (q := 10) X2 hx (hb hby own_d6_9) rfl rfl rfl ?_
  refine ownGo (T' := T2) (f' := (mkF m 11 #[rv a0, rv a1, rv b2, rv a1, .unset, .unset, .unset] [(.int (3 : Int32))])) (ownLenI F4 X2 hx hZ e2 (z := (3 : Int32)) (by decide) (g := (mkF m 10 #[rv a0, rv a1, rv b2, rv a1, .unset, .unset, .unset] [(.ref a1)])) rfl rfl (hb hby own_d6_10)) ?_
  refine ow_istore (q := 13) X2 hx (L' := #[rv a0, rv a1, rv b2, rv a1, iv (3 : Int32), .unset, .unset]) (hb hby own_d6_11) rfl rfl ?_
  refine ow_iconst (q := 14) X2 hx (0 : Int32) (hb hby own_d6_13) rfl rfl ?_
  refine ow_istore (q := 16) X2 hx (L' := #[rv a0, rv a1, rv b2, rv a1, iv (3 : Int32), iv (0 : Int32), .unset]) (hb hby own_d6_14) rfl rfl ?_
  refine ow_iload (q := 18) X2 hx (hb hby own_d6_16) rfl rfl ?_
  refine ow_iload (q := 20) X2 hx (hb hby own_d6_18) rfl rfl ?_
  refine ow_icmpNo (q := 23) X2 hx (hb hby own_d6_20) rfl (Jvm.Free.XT.ii_ge_f (by decide)) ?_
  refine ow_aloadN (q := 24) X2 hx (hb hby own_d6_23) rfl rfl rfl ?_
  refine ow_iload (q := 26) X2 hx (hb hby own_d6_24) rfl rfl ?_
  refine ownGo (T' := T2) (f' := (mkF m 27 #[rv a0, rv a1, rv b2, rv a1, iv (3 : Int32), iv (0 : Int32), .unset] [(.int (gi 0))])) (ownIaload F4 X2 hx hZ e2 (j := (0 : Int32)) (by unfold ownIn; decide) (g := (mkF m 26 #[rv a0, rv a1, rv b2, rv a1, iv (3 : Int32), iv (0 : Int32), .unset] [(.int (0 : Int32)), (.ref a1)])) rfl rfl (hb hby own_d6_26)) ?_
  generalize hv_v6 : (gi 0) = v6
  refine ow_istore (q := 29) X2 hx (L' := #[rv a0, rv a1, rv b2, rv a1, iv (3 : Int32), iv (0 : Int32), iv v6]) (hb hby own_d6_27) rfl rfl ?_
  refine ow_aloadN (q := 30) X2 hx (hb hby own_d6_29) rfl rfl rfl ?_
  refine ow_iload (q := 32) X2 hx (hb hby own_d6_30) rfl rfl ?_
  refine ow_bipush (q := 34) X2 hx (64 : Int32) (hb hby own_d6_32) rfl rfl ?_
  refine ow_idiv (q := 35) X2 hx _ (hb hby own_d6_34) rfl (by decide) rfl ?_
  refine ow_dup2 (q := 36) X2 hx (hb hby own_d6_35) rfl rfl rfl ?_
  generalize hv_v7 : (v6 / (64 : Int32)) = v7
  refine ownGo (T' := T2) (f' := (mkF m 37 #[rv a0, rv a1, rv b2, rv a1, iv (3 : Int32), iv (0 : Int32), iv v6] [(.long ((fun _ => (0 : Int64)) v7.toNatClampNeg)), (.int v7), (.ref b2)])) (ownLaload F5 X2 hx hZ e2 (j := v7) (own_ixw (L := 4) hv_v7 (by rw [← hv_v6]; first | exact hr0 | exact hr1 | exact hr2)) (g := (mkF m 36 #[rv a0, rv a1, rv b2, rv a1, iv (3 : Int32), iv (0 : Int32), iv v6] [(.int v7), (.ref b2), (.int v7), (.ref b2)])) rfl rfl (hb hby own_d6_36)) ?_
  generalize hv_v8 : ((fun _ => (0 : Int64)) v7.toNatClampNeg) = v8
  refine ow_lconst (q := 38) X2 hx (1 : Int64) (hb hby own_d6_37) rfl rfl ?_
  refine ow_iload (q := 40) X2 hx (hb hby own_d6_38) rfl rfl ?_
  refine ow_lshl (q := 41) X2 hx _ (hb hby own_d6_40) rfl rfl ?_
  refine ow_lor (q := 42) X2 hx _ (hb hby own_d6_41) rfl rfl ?_
  generalize hv_v9 : (v8 ||| ((1 : Int64) <<< (v6 &&& 0x3f).toInt64)) = v9
  obtain ⟨T10, h10, X10, e10, W10, F10s, st10⟩ := ownLastore F5 X2 hx hZ e2 (j := v7) (own_ixw (L := 4) hv_v7 (by rw [← hv_v6]; first | exact hr0 | exact hr1 | exact hr2)) (g := (mkF m 42 #[rv a0, rv a1, rv b2, rv a1, iv (3 : Int32), iv (0 : Int32), iv v6] [(.long v9), (.int v7), (.ref b2)])) rfl rfl (hb hby own_d6_42)
  generalize hg_gf10 : (ownUpd (fun _ => (0 : Int64)) v7.toNatClampNeg v9) = gf10 at F10s
  have N10 := Fr.snoc X10 N0 G_b2
  have K10 : Keep h0 h10 [] := K2.wr W10 (Or.inr sz_b2)
  have F11 : Fld Z h10 a0 "com/example/sieveline/sieveline/solver/BitMatrix" "rowWords" "I" (.int (4 : Int32)) := F3.other W10 (Or.inl ne_a0_b2)
  have F12 : ownAI Z h10 a1 .int 3 gi := F4.other W10 ne_a1_b2
  refine ownGo (T' := T10) (f' := (mkF m 43 #[rv a0, rv a1, rv b2, rv a1, iv (3 : Int32), iv (0 : Int32), iv v6] [])) (st10) ?_
  refine ow_iinc (q := 46) X10 hx (L' := #[rv a0, rv a1, rv b2, rv a1, iv (3 : Int32), iv (1 : Int32), iv v6]) (hb hby own_d6_43) rfl rfl rfl ?_
  refine ow_goto (q := 16) X10 hx (hb hby own_d6_46) (by decide) (by decide) ?_
  refine ow_iload (q := 18) X10 hx (hb hby own_d6_16) rfl rfl ?_
  refine ow_iload (q := 20) X10 hx (hb hby own_d6_18) rfl rfl ?_
  refine ow_icmpNo (q := 23) X10 hx (hb hby own_d6_20) rfl (Jvm.Free.XT.ii_ge_f (by decide)) ?_
  refine ow_aloadN (q := 24) X10 hx (hb hby own_d6_23) rfl rfl rfl ?_
  refine ow_iload (q := 26) X10 hx (hb hby own_d6_24) rfl rfl ?_
  refine ownGo (T' := T10) (f' := (mkF m 27 #[rv a0, rv a1, rv b2, rv a1, iv (3 : Int32), iv (1 : Int32), iv v6] [(.int (gi 1))])) (ownIaload F12 X10 hx hZ e10 (j := (1 : Int32)) (by unfold ownIn; decide) (g := (mkF m 26 #[rv a0, rv a1, rv b2, rv a1, iv (3 : Int32), iv (1 : Int32), iv v6] [(.int (1 : Int32)), (.ref a1)])) rfl rfl (hb hby own_d6_26)) ?_
  generalize hv_v13 : (gi 1) = v13
  refine ow_istore (q := 29) X10 hx (L' := #[rv a0, rv a1, rv b2, rv a1, iv (3 : Int32), iv (1 : Int32), iv v13]) (hb hby own_d6_27) rfl rfl ?_
  refine ow_aloadN (q := 30) X10 hx (hb hby own_d6_29) rfl rfl rfl ?_
  refine ow_iload (q := 32) X10 hx (hb hby own_d6_30) rfl rfl ?_
  refine ow_bipush (q := 34) X10 hx (64 : Int32) (hb hby own_d6_32) rfl rfl ?_
  refine ow_idiv (q := 35) X10 hx _ (hb hby own_d6_34) rfl (by decide) rfl ?_
  refine ow_dup2 (q := 36) X10 hx (hb hby own_d6_35) rfl rfl rfl ?_
  generalize hv_v14 : (v13 / (64 : Int32)) = v14
  refine ownGo (T' := T10) (f' := (mkF m 37 #[rv a0, rv a1, rv b2, rv a1, iv (3 : Int32), iv (1 : Int32), iv v13] [(.long (gf10 v14.toNatClampNeg)), (.int v14), (.ref b2)])) (ownLaload F10s X10 hx hZ e10 (j := v14) (own_ixw (L := 4) hv_v14 (by rw [← hv_v13]; first | exact hr0 | exact hr1 | exact hr2)) (g := (mkF m 36 #[rv a0, rv a1, rv b2, rv a1, iv (3 : Int32), iv (1 : Int32), iv v13] [(.int v14), (.ref b2), (.int v14), (.ref b2)])) rfl rfl (hb hby own_d6_36)) ?_
  generalize hv_v15 : (gf10 v14.toNatClampNeg) = v15
  refine ow_lconst (q := 38) X10 hx (1 : Int64) (hb hby own_d6_37) rfl rfl ?_
  refine ow_iload (q := 40) X10 hx (hb hby own_d6_38) rfl rfl ?_
  refine ow_lshl (q := 41) X10 hx _ (hb hby own_d6_40) rfl rfl ?_
  refine ow_lor (q := 42) X10 hx _ (hb hby own_d6_41) rfl rfl ?_
  generalize hv_v16 : (v15 ||| ((1 : Int64) <<< (v13 &&& 0x3f).toInt64)) = v16
  obtain ⟨T17, h17, X17, e17, W17, F17s, st17⟩ := ownLastore F10s X10 hx hZ e10 (j := v14) (own_ixw (L := 4) hv_v14 (by rw [← hv_v13]; first | exact hr0 | exact hr1 | exact hr2)) (g := (mkF m 42 #[rv a0, rv a1, rv b2, rv a1, iv (3 : Int32), iv (1 : Int32), iv v13] [(.long v16), (.int v14), (.ref b2)])) rfl rfl (hb hby own_d6_42)
  generalize hg_gf17 : (ownUpd gf10 v14.toNatClampNeg v16) = gf17 at F17s
  have N17 := Fr.snoc X17 N10 G_b2
  have K17 : Keep h0 h17 [] := K10.wr W17 (Or.inr sz_b2)
  have F18 : Fld Z h17 a0 "com/example/sieveline/sieveline/solver/BitMatrix" "rowWords" "I" (.int (4 : Int32)) := F11.other W17 (Or.inl ne_a0_b2)
  have F19 : ownAI Z h17 a1 .int 3 gi := F12.other W17 ne_a1_b2
  refine ownGo (T' := T17) (f' := (mkF m 43 #[rv a0, rv a1, rv b2, rv a1, iv (3 : Int32), iv (1 : Int32), iv v13] [])) (st17) ?_
  refine ow_iinc (q := 46) X17 hx (L' := #[rv a0, rv a1, rv b2, rv a1, iv (3 : Int32), iv (2 : Int32), iv v13]) (hb hby own_d6_43) rfl rfl rfl ?_
  refine ow_goto (q := 16) X17 hx (hb hby own_d6_46) (by decide) (by decide) ?_
  refine ow_iload (q := 18) X17 hx (hb hby own_d6_16) rfl rfl ?_
  refine ow_iload (q := 20) X17 hx (hb hby own_d6_18) rfl rfl ?_
  refine ow_icmpNo (q := 23) X17 hx (hb hby own_d6_20) rfl (Jvm.Free.XT.ii_ge_f (by decide)) ?_
  refine ow_aloadN (q := 24) X17 hx (hb hby own_d6_23) rfl rfl rfl ?_
  refine ow_iload (q := 26) X17 hx (hb hby own_d6_24) rfl rfl ?_
  refine ownGo (T' := T17) (f' := (mkF m 27 #[rv a0, rv a1, rv b2, rv a1, iv (3 : Int32), iv (2 : Int32), iv v13] [(.int (gi 2))])) (ownIaload F19 X17 hx hZ e17 (j := (2 : Int32)) (by unfold ownIn; decide) (g := (mkF m 26 #[rv a0, rv a1, rv b2, rv a1, iv (3 : Int32), iv (2 : Int32), iv v13] [(.int (2 : Int32)), (.ref a1)])) rfl rfl (hb hby own_d6_26)) ?_
  generalize hv_v20 : (gi 2) = v20
  refine ow_istore (q := 29) X17 hx (L' := #[rv a0, rv a1, rv b2, rv a1, iv (3 : Int32), iv (2 : Int32), iv v20]) (hb hby own_d6_27) rfl rfl ?_
  refine ow_aloadN (q := 30) X17 hx (hb hby own_d6_29) rfl rfl rfl ?_
  refine ow_iload (q := 32) X17 hx (hb hby own_d6_30) rfl rfl ?_
  refine ow_bipush (q := 34) X17 hx (64 : Int32) (hb hby own_d6_32) rfl rfl ?_
  refine ow_idiv (q := 35) X17 hx _ (hb hby own_d6_34) rfl (by decide) rfl ?_
  refine ow_dup2 (q := 36) X17 hx (hb hby own_d6_35) rfl rfl rfl ?_
  generalize hv_v21 : (v20 / (64 : Int32)) = v21
  refine ownGo (T' := T17) (f' := (mkF m 37 #[rv a0, rv a1, rv b2, rv a1, iv (3 : Int32), iv (2 : Int32), iv v20] [(.long (gf17 v21.toNatClampNeg)), (.int v21), (.ref b2)])) (ownLaload F17s X17 hx hZ e17 (j := v21) (own_ixw (L := 4) hv_v21 (by rw [← hv_v20]; first | exact hr0 | exact hr1 | exact hr2)) (g := (mkF m 36 #[rv a0, rv a1, rv b2, rv a1, iv (3 : Int32), iv (2 : Int32), iv v20] [(.int v21), (.ref b2), (.int v21), (.ref b2)])) rfl rfl (hb hby own_d6_36)) ?_
  generalize hv_v22 : (gf17 v21.toNatClampNeg) = v22
  refine ow_lconst (q := 38) X17 hx (1 : Int64) (hb hby own_d6_37) rfl rfl ?_
  refine ow_iload (q := 40) X17 hx (hb hby own_d6_38) rfl rfl ?_
  refine ow_lshl (q := 41) X17 hx _ (hb hby own_d6_40) rfl rfl ?_
  refine ow_lor (q := 42) X17 hx _ (hb hby own_d6_41) rfl rfl ?_
  generalize hv_v23 : (v22 ||| ((1 : Int64) <<< (v20 &&& 0x3f).toInt64)) = v23
  obtain ⟨T24, h24, X24, e24, W24, F24s, st24⟩ := ownLastore F17s X17 hx hZ e17 (j := v21) (own_ixw (L := 4) hv_v21 (by rw [← hv_v20]; first | exact hr0 | exact hr1 | exact hr2)) (g := (mkF m 42 #[rv a0, rv a1, rv b2, rv a1, iv (3 : Int32), iv (2 : Int32), iv v20] [(.long v23), (.int v21), (.ref b2)])) rfl rfl (hb hby own_d6_42)
  generalize hg_gf24 : (ownUpd gf17 v21.toNatClampNeg v23) = gf24 at F24s
  have N24 := Fr.snoc X24 N17 G_b2
  have K24 : Keep h0 h24 [] := K17.wr W24 (Or.inr sz_b2)
  have F25 : Fld Z h24 a0 "com/example/sieveline/sieveline/solver/BitMatrix" "rowWords" "I" (.int (4 : Int32)) := F18.other W24 (Or.inl ne_a0_b2)
  have F26 : ownAI Z h24 a1 .int 3 gi := F19.other W24 ne_a1_b2
  refine ownGo (T' := T24) (f' := (mkF m 43 #[rv a0, rv a1, rv b2, rv a1, iv (3 : Int32), iv (2 : Int32), iv v20] [])) (st24) ?_
  refine ow_iinc (q := 46) X24 hx (L' := #[rv a0, rv a1, rv b2, rv a1, iv (3 : Int32), iv (3 : Int32), iv v20]) (hb hby own_d6_43) rfl rfl rfl ?_
  refine ow_goto (q := 16) X24 hx (hb hby own_d6_46) (by decide) (by decide) ?_
  refine ow_iload (q := 18) X24 hx (hb hby own_d6_16) rfl rfl ?_
  refine ow_iload (q := 20) X24 hx (hb hby own_d6_18) rfl rfl ?_
  refine ow_icmpYes (q := 49) X24 hx (hb hby own_d6_20) (Jvm.Free.XT.ii_ge_t (by decide)) (by decide) (by decide) ?_
  refine ow_aloadN (q := 50) X24 hx (hb hby own_d6_49) rfl rfl rfl ?_
  refine ownRetR X24 hx rfl rfl rfl Bd.returns (hb hby own_d6_50) hlk (by decide) (by decide) ?_
  subst hg_gf24 hv_v23 hv_v22 hv_v21 hv_v20 hg_gf17 hv_v16 hv_v15 hv_v14 hv_v13 hg_gf10 hv_v9 hv_v8 hv_v7 hv_v6
  rw [e24]
  exact ⟨b2, rfl, N24, K24, sz_b2, F24s⟩
theorem own_pn_BitMatrixRowPinLaw : plainName "com/example/sieveline/sieveline/solver/BitMatrixRowPinLaw" = true := by first | (simp [plainName, overriddenIn]; done) | decide +kernel
theorem own_d8_0 : decode method_2_code 0 = .ok (.bipush 64, 2) := by decide +kernel
theorem own_d8_2 : decode method_2_code 2 = .ok (.iload_n 1, 1) := by decide +kernel
theorem own_d8_3 : decode method_2_code 3 = .ok (.imul, 1) := by decide +kernel
theorem own_d8_4 : decode method_2_code 4 = .ok (.istore_n 2, 1) := by decide +kernel
theorem own_d8_5 : decode method_2_code 5 = .ok (.iload_n 0, 1) := by decide +kernel
theorem own_d8_6 : decode method_2_code 6 = .ok (.iload_n 2, 1) := by decide +kernel
theorem own_d8_7 : decode method_2_code 7 = .ok (.if_icmp .lt 17, 3) := by decide +kernel
theorem own_d8_24 : decode method_2_code 24 = .ok (.lconst 0, 1) := by decide +kernel
theorem own_d8_25 : decode method_2_code 25 = .ok (.lreturn, 1) := by decide +kernel
theorem own_d8_10 : decode method_2_code 10 = .ok (.iload_n 0, 1) := by decide +kernel
theorem own_d8_11 : decode method_2_code 11 = .ok (.iload_n 2, 1) := by decide +kernel
theorem own_d8_12 : decode method_2_code 12 = .ok (.bipush 64, 2) := by decide +kernel
theorem own_d8_14 : decode method_2_code 14 = .ok (.iadd, 1) := by decide +kernel
theorem own_d8_15 : decode method_2_code 15 = .ok (.if_icmp .ge 9, 3) := by decide +kernel
theorem own_d8_18 : decode method_2_code 18 = .ok (.lconst 1, 1) := by decide +kernel
theorem own_d8_19 : decode method_2_code 19 = .ok (.iload_n 0, 1) := by decide +kernel
theorem own_d8_20 : decode method_2_code 20 = .ok (.iload_n 2, 1) := by decide +kernel
theorem own_d8_21 : decode method_2_code 21 = .ok (.isub, 1) := by decide +kernel
theorem own_d8_22 : decode method_2_code 22 = .ok (.lshl, 1) := by decide +kernel
theorem own_d8_23 : decode method_2_code 23 = .ok (.lreturn, 1) := by decide +kernel
theorem own_ef8_bit_0 (m : MethodId) (p0 : Int32) : entryFrame m #[(.int p0), (.int (0 : Int32))] 3 = mkF m 0 #[iv p0, iv (0 : Int32), .unset] [] := by first | (simp [entryFrame, mkF, argsToLocals, Value.category]; done) | rfl
def Q_bit_0 (Z : State) (p0 : Int32) (h0 : Heap) (n0 : Nat) (v : Option Value) (h : Heap) (L : List Loc) : Prop := v = some (.long (own_Bw (0 : Int32) (64 : Int32) p0)) ∧ Fr n0 L ∧ h = h0
set_option maxRecDepth 65536 in
set_option maxHeartbeats 40000000 in
theorem rm_bit_0 (l : Launch) (Z : State) (av0 : Array Value) (hw : ∀ d ∈ tables_1, d.before av0 Z = true) (ws : List Jvm.Cond) (p0 : Int32) (h0 : Heap) (n0 : Nat) (Z0 : n0 ≤ h0.size) :
    MetFree l (⟨"com/example/sieveline/sieveline/solver/BitMatrixRowPinLaw", "bit", "(II)J"⟩ : MethodName) (head1 (Jvm.Cond.code (⟨"com/example/sieveline/sieveline/solver/BitMatrixRowPinLaw", "bit", "(II)J"⟩ : MethodName) method_2_code 3 (some .long) :: ws) ({ frames := 0, cells := 0, slots := 0, locals := 0 } : Room)) (fun a U => a = #[(.int p0), (.int (0 : Int32))] ∧ Z.Warmed39 U.vm ∧ U.heap = h0) (fun _ _ _ _ _ => True) (fun _ U o U' => ∃ v L, o = .returned v ∧ (Q_bit_0 Z p0 h0 n0) v U'.heap L ∧ FrameEnd U o U' L ({ frames := 0, cells := 0, slots := 0, locals := 0 } : Room).cells ({ frames := 0, cells := 0, slots := 0, locals := 0 } : Room).slots) := by
  refine MetFree.of_bodySF (plainFor_of_name own_pn_BitMatrixRowPinLaw) hisR ?_
  intro p e s m args below meth c s₁ Bd hml0 hP hK
  obtain ⟨rfl, hZ, hh⟩ := hP
  have hx := Bd.exec
  have hby := Bd.bytes
  have hml : c.maxLocals = 3 := hml0
  have hown : s.vm.findClass "com/example/sieveline/sieveline/solver/BitMatrixRowPinLaw" = some m.cls := findClass_of_methodNamed Bd.named
  have hnm := (name_of_methodNamed Bd.named Bd.method).1
  have hlk : meth.locks = false := BodyLoose.notSynchronized Bd
  have X0 : Stand p l e ({ frames := 0, cells := 0, slots := 0, locals := 0 } : Room) s m #[(.int p0), (.int (0 : Int32))] below meth c s₁ [] 0 0 := Stand.of_body Bd
  have e0 : s₁.heap = h0 := by rw [← hh, Bd.state]; rfl
  have N0 := Fr.nil n0
  have K0 : Keep h0 h0 [] := Keep.refl _ _
  show ownEnds p e below s (Q_bit_0 Z p0 h0 n0) ({ frames := 0, cells := 0, slots := 0, locals := 0 } : Room).cells ({ frames := 0, cells := 0, slots := 0, locals := 0 } : Room).slots s₁ (entryFrame m #[(.int p0), (.int (0 : Int32))] 3)
  refine ownCast (own_ef8_bit_0 m p0) ?_
  refine ow_bipush (q := 2) X0 hx (64 : Int32) (hb hby own_d8_0) rfl rfl ?_
  refine ow_iloadN (q := 3) X0 hx (hb hby own_d8_2) rfl rfl ?_
  refine ow_imul (q := 4) X0 hx (0 : Int32) (hb hby own_d8_3) rfl (by decide) ?_
  refine ow_istoreN (q := 5) X0 hx (L' := #[iv p0, iv (0 : Int32), iv (0 : Int32)]) (hb hby own_d8_4) rfl rfl ?_
  refine ow_iloadN (q := 6) X0 hx (hb hby own_d8_5) rfl rfl ?_
  refine ow_iloadN (q := 7) X0 hx (hb hby own_d8_6) rfl rfl ?_
  by_cases hc7_1 : p0 < (0 : Int32)
  · refine ow_icmpYes (q := 24) X0 hx (hb hby own_d8_7) (Jvm.Free.XT.ii_lt_t hc7_1) (by decide) (by decide) ?_
    refine ow_lconst (q := 25) X0 hx (0 : Int64) (hb hby own_d8_24) rfl rfl ?_
    refine ownRetJ X0 hx Bd.returns (hb hby own_d8_25) hlk (by decide) (by decide) ?_
    rw [e0]
    refine ⟨congrArg (fun q => some (Value.long q)) ?_, N0, rfl⟩
    simp [own_Bw, hc7_1]
  · refine ow_icmpNo (q := 10) X0 hx (hb hby own_d8_7) rfl (Jvm.Free.XT.ii_lt_f hc7_1) ?_
    refine ow_iloadN (q := 11) X0 hx (hb hby own_d8_10) rfl rfl ?_
    refine ow_iloadN (q := 12) X0 hx (hb hby own_d8_11) rfl rfl ?_
    refine ow_bipush (q := 14) X0 hx (64 : Int32) (hb hby own_d8_12) rfl rfl ?_
    refine ow_iadd (q := 15) X0 hx (64 : Int32) (hb hby own_d8_14) rfl (by decide) ?_
    by_cases hc15_2 : p0 < (64 : Int32)
    · refine ow_icmpNo (q := 18) X0 hx (hb hby own_d8_15) rfl (Jvm.Free.XT.ii_ge_f hc15_2) ?_
      refine ow_lconst (q := 19) X0 hx (1 : Int64) (hb hby own_d8_18) rfl rfl ?_
      refine ow_iloadN (q := 20) X0 hx (hb hby own_d8_19) rfl rfl ?_
      refine ow_iloadN (q := 21) X0 hx (hb hby own_d8_20) rfl rfl ?_
      refine ow_isub (q := 22) X0 hx _ (hb hby own_d8_21) rfl rfl ?_
      refine ow_lshl (q := 23) X0 hx _ (hb hby own_d8_22) rfl rfl ?_
      refine ownRetJ X0 hx Bd.returns (hb hby own_d8_23) hlk (by decide) (by decide) ?_
      rw [e0]
      refine ⟨congrArg (fun q => some (Value.long q)) ?_, N0, rfl⟩
      simp [own_Bw, hc7_1, hc15_2]
    · refine ow_icmpYes (q := 24) X0 hx (hb hby own_d8_15) (Jvm.Free.XT.ii_ge_t hc15_2) (by decide) (by decide) ?_
      refine ow_lconst (q := 25) X0 hx (0 : Int64) (hb hby own_d8_24) rfl rfl ?_
      refine ownRetJ X0 hx Bd.returns (hb hby own_d8_25) hlk (by decide) (by decide) ?_
      rw [e0]
      refine ⟨congrArg (fun q => some (Value.long q)) ?_, N0, rfl⟩
      simp [own_Bw, hc7_1, hc15_2]
theorem own_ef8_bit_1 (m : MethodId) (p0 : Int32) : entryFrame m #[(.int p0), (.int (1 : Int32))] 3 = mkF m 0 #[iv p0, iv (1 : Int32), .unset] [] := by first | (simp [entryFrame, mkF, argsToLocals, Value.category]; done) | rfl
def Q_bit_1 (Z : State) (p0 : Int32) (h0 : Heap) (n0 : Nat) (v : Option Value) (h : Heap) (L : List Loc) : Prop := v = some (.long (own_Bw (64 : Int32) (128 : Int32) p0)) ∧ Fr n0 L ∧ h = h0
set_option maxRecDepth 65536 in
set_option maxHeartbeats 40000000 in
theorem rm_bit_1 (l : Launch) (Z : State) (av0 : Array Value) (hw : ∀ d ∈ tables_1, d.before av0 Z = true) (ws : List Jvm.Cond) (p0 : Int32) (h0 : Heap) (n0 : Nat) (Z0 : n0 ≤ h0.size) :
    MetFree l (⟨"com/example/sieveline/sieveline/solver/BitMatrixRowPinLaw", "bit", "(II)J"⟩ : MethodName) (head1 (Jvm.Cond.code (⟨"com/example/sieveline/sieveline/solver/BitMatrixRowPinLaw", "bit", "(II)J"⟩ : MethodName) method_2_code 3 (some .long) :: ws) ({ frames := 0, cells := 0, slots := 0, locals := 0 } : Room)) (fun a U => a = #[(.int p0), (.int (1 : Int32))] ∧ Z.Warmed39 U.vm ∧ U.heap = h0) (fun _ _ _ _ _ => True) (fun _ U o U' => ∃ v L, o = .returned v ∧ (Q_bit_1 Z p0 h0 n0) v U'.heap L ∧ FrameEnd U o U' L ({ frames := 0, cells := 0, slots := 0, locals := 0 } : Room).cells ({ frames := 0, cells := 0, slots := 0, locals := 0 } : Room).slots) := by
  refine MetFree.of_bodySF (plainFor_of_name own_pn_BitMatrixRowPinLaw) hisR ?_
  intro p e s m args below meth c s₁ Bd hml0 hP hK
  obtain ⟨rfl, hZ, hh⟩ := hP
  have hx := Bd.exec
  have hby := Bd.bytes
  have hml : c.maxLocals = 3 := hml0
  have hown : s.vm.findClass "com/example/sieveline/sieveline/solver/BitMatrixRowPinLaw" = some m.cls := findClass_of_methodNamed Bd.named
  have hnm := (name_of_methodNamed Bd.named Bd.method).1
  have hlk : meth.locks = false := BodyLoose.notSynchronized Bd
  have X0 : Stand p l e ({ frames := 0, cells := 0, slots := 0, locals := 0 } : Room) s m #[(.int p0), (.int (1 : Int32))] below meth c s₁ [] 0 0 := Stand.of_body Bd
  have e0 : s₁.heap = h0 := by rw [← hh, Bd.state]; rfl
  have N0 := Fr.nil n0
  have K0 : Keep h0 h0 [] := Keep.refl _ _
  show ownEnds p e below s (Q_bit_1 Z p0 h0 n0) ({ frames := 0, cells := 0, slots := 0, locals := 0 } : Room).cells ({ frames := 0, cells := 0, slots := 0, locals := 0 } : Room).slots s₁ (entryFrame m #[(.int p0), (.int (1 : Int32))] 3)
  refine ownCast (own_ef8_bit_1 m p0) ?_
  refine ow_bipush (q := 2) X0 hx (64 : Int32) (hb hby own_d8_0) rfl rfl ?_
  refine ow_iloadN (q := 3) X0 hx (hb hby own_d8_2) rfl rfl ?_
  refine ow_imul (q := 4) X0 hx (64 : Int32) (hb hby own_d8_3) rfl (by decide) ?_
  refine ow_istoreN (q := 5) X0 hx (L' := #[iv p0, iv (1 : Int32), iv (64 : Int32)]) (hb hby own_d8_4) rfl rfl ?_
  refine ow_iloadN (q := 6) X0 hx (hb hby own_d8_5) rfl rfl ?_
  refine ow_iloadN (q := 7) X0 hx (hb hby own_d8_6) rfl rfl ?_
  by_cases hc7_1 : p0 < (64 : Int32)
  · refine ow_icmpYes (q := 24) X0 hx (hb hby own_d8_7) (Jvm.Free.XT.ii_lt_t hc7_1) (by decide) (by decide) ?_
    refine ow_lconst (q := 25) X0 hx (0 : Int64) (hb hby own_d8_24) rfl rfl ?_
    refine ownRetJ X0 hx Bd.returns (hb hby own_d8_25) hlk (by decide) (by decide) ?_
    rw [e0]
    refine ⟨congrArg (fun q => some (Value.long q)) ?_, N0, rfl⟩
    simp [own_Bw, hc7_1]
  · refine ow_icmpNo (q := 10) X0 hx (hb hby own_d8_7) rfl (Jvm.Free.XT.ii_lt_f hc7_1) ?_
    refine ow_iloadN (q := 11) X0 hx (hb hby own_d8_10) rfl rfl ?_
    refine ow_iloadN (q := 12) X0 hx (hb hby own_d8_11) rfl rfl ?_
    refine ow_bipush (q := 14) X0 hx (64 : Int32) (hb hby own_d8_12) rfl rfl ?_
    refine ow_iadd (q := 15) X0 hx (128 : Int32) (hb hby own_d8_14) rfl (by decide) ?_
    by_cases hc15_2 : p0 < (128 : Int32)
    · refine ow_icmpNo (q := 18) X0 hx (hb hby own_d8_15) rfl (Jvm.Free.XT.ii_ge_f hc15_2) ?_
      refine ow_lconst (q := 19) X0 hx (1 : Int64) (hb hby own_d8_18) rfl rfl ?_
      refine ow_iloadN (q := 20) X0 hx (hb hby own_d8_19) rfl rfl ?_
      refine ow_iloadN (q := 21) X0 hx (hb hby own_d8_20) rfl rfl ?_
      refine ow_isub (q := 22) X0 hx _ (hb hby own_d8_21) rfl rfl ?_
      refine ow_lshl (q := 23) X0 hx _ (hb hby own_d8_22) rfl rfl ?_
      refine ownRetJ X0 hx Bd.returns (hb hby own_d8_23) hlk (by decide) (by decide) ?_
      rw [e0]
      refine ⟨congrArg (fun q => some (Value.long q)) ?_, N0, rfl⟩
      simp [own_Bw, hc7_1, hc15_2]
    · refine ow_icmpYes (q := 24) X0 hx (hb hby own_d8_15) (Jvm.Free.XT.ii_ge_t hc15_2) (by decide) (by decide) ?_
      refine ow_lconst (q := 25) X0 hx (0 : Int64) (hb hby own_d8_24) rfl rfl ?_
      refine ownRetJ X0 hx Bd.returns (hb hby own_d8_25) hlk (by decide) (by decide) ?_
      rw [e0]
      refine ⟨congrArg (fun q => some (Value.long q)) ?_, N0, rfl⟩
      simp [own_Bw, hc7_1, hc15_2]
theorem own_ef8_bit_2 (m : MethodId) (p0 : Int32) : entryFrame m #[(.int p0), (.int (2 : Int32))] 3 = mkF m 0 #[iv p0, iv (2 : Int32), .unset] [] := by first | (simp [entryFrame, mkF, argsToLocals, Value.category]; done) | rfl
def Q_bit_2 (Z : State) (p0 : Int32) (h0 : Heap) (n0 : Nat) (v : Option Value) (h : Heap) (L : List Loc) : Prop := v = some (.long (own_Bw (128 : Int32) (192 : Int32) p0)) ∧ Fr n0 L ∧ h = h0
set_option maxRecDepth 65536 in
set_option maxHeartbeats 40000000 in
theorem rm_bit_2 (l : Launch) (Z : State) (av0 : Array Value) (hw : ∀ d ∈ tables_1, d.before av0 Z = true) (ws : List Jvm.Cond) (p0 : Int32) (h0 : Heap) (n0 : Nat) (Z0 : n0 ≤ h0.size) :
    MetFree l (⟨"com/example/sieveline/sieveline/solver/BitMatrixRowPinLaw", "bit", "(II)J"⟩ : MethodName) (head1 (Jvm.Cond.code (⟨"com/example/sieveline/sieveline/solver/BitMatrixRowPinLaw", "bit", "(II)J"⟩ : MethodName) method_2_code 3 (some .long) :: ws) ({ frames := 0, cells := 0, slots := 0, locals := 0 } : Room)) (fun a U => a = #[(.int p0), (.int (2 : Int32))] ∧ Z.Warmed39 U.vm ∧ U.heap = h0) (fun _ _ _ _ _ => True) (fun _ U o U' => ∃ v L, o = .returned v ∧ (Q_bit_2 Z p0 h0 n0) v U'.heap L ∧ FrameEnd U o U' L ({ frames := 0, cells := 0, slots := 0, locals := 0 } : Room).cells ({ frames := 0, cells := 0, slots := 0, locals := 0 } : Room).slots) := by
  refine MetFree.of_bodySF (plainFor_of_name own_pn_BitMatrixRowPinLaw) hisR ?_
  intro p e s m args below meth c s₁ Bd hml0 hP hK
  obtain ⟨rfl, hZ, hh⟩ := hP
  have hx := Bd.exec
  have hby := Bd.bytes
  have hml : c.maxLocals = 3 := hml0
  have hown : s.vm.findClass "com/example/sieveline/sieveline/solver/BitMatrixRowPinLaw" = some m.cls := findClass_of_methodNamed Bd.named
  have hnm := (name_of_methodNamed Bd.named Bd.method).1
  have hlk : meth.locks = false := BodyLoose.notSynchronized Bd
  have X0 : Stand p l e ({ frames := 0, cells := 0, slots := 0, locals := 0 } : Room) s m #[(.int p0), (.int (2 : Int32))] below meth c s₁ [] 0 0 := Stand.of_body Bd
  have e0 : s₁.heap = h0 := by rw [← hh, Bd.state]; rfl
  have N0 := Fr.nil n0
  have K0 : Keep h0 h0 [] := Keep.refl _ _
  show ownEnds p e below s (Q_bit_2 Z p0 h0 n0) ({ frames := 0, cells := 0, slots := 0, locals := 0 } : Room).cells ({ frames := 0, cells := 0, slots := 0, locals := 0 } : Room).slots s₁ (entryFrame m #[(.int p0), (.int (2 : Int32))] 3)
  refine ownCast (own_ef8_bit_2 m p0) ?_
  refine ow_bipush (q := 2) X0 hx (64 : Int32) (hb hby own_d8_0) rfl rfl ?_
  refine ow_iloadN (q := 3) X0 hx (hb hby own_d8_2) rfl rfl ?_
  refine ow_imul (q := 4) X0 hx (128 : Int32) (hb hby own_d8_3) rfl (by decide) ?_
  refine ow_istoreN (q := 5) X0 hx (L' := #[iv p0, iv (2 : Int32), iv (128 : Int32)]) (hb hby own_d8_4) rfl rfl ?_
  refine ow_iloadN (q := 6) X0 hx (hb hby own_d8_5) rfl rfl ?_
  refine ow_iloadN (q := 7) X0 hx (hb hby own_d8_6) rfl rfl ?_
  by_cases hc7_1 : p0 < (128 : Int32)
  · refine ow_icmpYes (q := 24) X0 hx (hb hby own_d8_7) (Jvm.Free.XT.ii_lt_t hc7_1) (by decide) (by decide) ?_
    refine ow_lconst (q := 25) X0 hx (0 : Int64) (hb hby own_d8_24) rfl rfl ?_
    refine ownRetJ X0 hx Bd.returns (hb hby own_d8_25) hlk (by decide) (by decide) ?_
    rw [e0]
    refine ⟨congrArg (fun q => some (Value.long q)) ?_, N0, rfl⟩
    simp [own_Bw, hc7_1]
  · refine ow_icmpNo (q := 10) X0 hx (hb hby own_d8_7) rfl (Jvm.Free.XT.ii_lt_f hc7_1) ?_
    refine ow_iloadN (q := 11) X0 hx (hb hby own_d8_10) rfl rfl ?_
    refine ow_iloadN (q := 12) X0 hx (hb hby own_d8_11) rfl rfl ?_
    refine ow_bipush (q := 14) X0 hx (64 : Int32) (hb hby own_d8_12) rfl rfl ?_
    refine ow_iadd (q := 15) X0 hx (192 : Int32) (hb hby own_d8_14) rfl (by decide) ?_
    by_cases hc15_2 : p0 < (192 : Int32)
    · refine ow_icmpNo (q := 18) X0 hx (hb hby own_d8_15) rfl (Jvm.Free.XT.ii_ge_f hc15_2) ?_
      refine ow_lconst (q := 19) X0 hx (1 : Int64) (hb hby own_d8_18) rfl rfl ?_
      refine ow_iloadN (q := 20) X0 hx (hb hby own_d8_19) rfl rfl ?_
      refine ow_iloadN (q := 21) X0 hx (hb hby own_d8_20) rfl rfl ?_
      refine ow_isub (q := 22) X0 hx _ (hb hby own_d8_21) rfl rfl ?_
      refine ow_lshl (q := 23) X0 hx _ (hb hby own_d8_22) rfl rfl ?_
      refine ownRetJ X0 hx Bd.returns (hb hby own_d8_23) hlk (by decide) (by decide) ?_
      rw [e0]
      refine ⟨congrArg (fun q => some (Value.long q)) ?_, N0, rfl⟩
      simp [own_Bw, hc7_1, hc15_2]
    · refine ow_icmpYes (q := 24) X0 hx (hb hby own_d8_15) (Jvm.Free.XT.ii_ge_t hc15_2) (by decide) (by decide) ?_
      refine ow_lconst (q := 25) X0 hx (0 : Int64) (hb hby own_d8_24) rfl rfl ?_
      refine ownRetJ X0 hx Bd.returns (hb hby own_d8_25) hlk (by decide) (by decide) ?_
      rw [e0]
      refine ⟨congrArg (fun q => some (Value.long q)) ?_, N0, rfl⟩
      simp [own_Bw, hc7_1, hc15_2]
theorem own_ef8_bit_3 (m : MethodId) (p0 : Int32) : entryFrame m #[(.int p0), (.int (3 : Int32))] 3 = mkF m 0 #[iv p0, iv (3 : Int32), .unset] [] := by first | (simp [entryFrame, mkF, argsToLocals, Value.category]; done) | rfl
def Q_bit_3 (Z : State) (p0 : Int32) (h0 : Heap) (n0 : Nat) (v : Option Value) (h : Heap) (L : List Loc) : Prop := v = some (.long (own_Bw (192 : Int32) (256 : Int32) p0)) ∧ Fr n0 L ∧ h = h0
set_option maxRecDepth 65536 in
set_option maxHeartbeats 40000000 in
theorem rm_bit_3 (l : Launch) (Z : State) (av0 : Array Value) (hw : ∀ d ∈ tables_1, d.before av0 Z = true) (ws : List Jvm.Cond) (p0 : Int32) (h0 : Heap) (n0 : Nat) (Z0 : n0 ≤ h0.size) :
    MetFree l (⟨"com/example/sieveline/sieveline/solver/BitMatrixRowPinLaw", "bit", "(II)J"⟩ : MethodName) (head1 (Jvm.Cond.code (⟨"com/example/sieveline/sieveline/solver/BitMatrixRowPinLaw", "bit", "(II)J"⟩ : MethodName) method_2_code 3 (some .long) :: ws) ({ frames := 0, cells := 0, slots := 0, locals := 0 } : Room)) (fun a U => a = #[(.int p0), (.int (3 : Int32))] ∧ Z.Warmed39 U.vm ∧ U.heap = h0) (fun _ _ _ _ _ => True) (fun _ U o U' => ∃ v L, o = .returned v ∧ (Q_bit_3 Z p0 h0 n0) v U'.heap L ∧ FrameEnd U o U' L ({ frames := 0, cells := 0, slots := 0, locals := 0 } : Room).cells ({ frames := 0, cells := 0, slots := 0, locals := 0 } : Room).slots) := by
  refine MetFree.of_bodySF (plainFor_of_name own_pn_BitMatrixRowPinLaw) hisR ?_
  intro p e s m args below meth c s₁ Bd hml0 hP hK
  obtain ⟨rfl, hZ, hh⟩ := hP
  have hx := Bd.exec
  have hby := Bd.bytes
  have hml : c.maxLocals = 3 := hml0
  have hown : s.vm.findClass "com/example/sieveline/sieveline/solver/BitMatrixRowPinLaw" = some m.cls := findClass_of_methodNamed Bd.named
  have hnm := (name_of_methodNamed Bd.named Bd.method).1
  have hlk : meth.locks = false := BodyLoose.notSynchronized Bd
  have X0 : Stand p l e ({ frames := 0, cells := 0, slots := 0, locals := 0 } : Room) s m #[(.int p0), (.int (3 : Int32))] below meth c s₁ [] 0 0 := Stand.of_body Bd
  have e0 : s₁.heap = h0 := by rw [← hh, Bd.state]; rfl
  have N0 := Fr.nil n0
  have K0 : Keep h0 h0 [] := Keep.refl _ _
  show ownEnds p e below s (Q_bit_3 Z p0 h0 n0) ({ frames := 0, cells := 0, slots := 0, locals := 0 } : Room).cells ({ frames := 0, cells := 0, slots := 0, locals := 0 } : Room).slots s₁ (entryFrame m #[(.int p0), (.int (3 : Int32))] 3)
  refine ownCast (own_ef8_bit_3 m p0) ?_
  refine ow_bipush (q := 2) X0 hx (64 : Int32) (hb hby own_d8_0) rfl rfl ?_
  refine ow_iloadN (q := 3) X0 hx (hb hby own_d8_2) rfl rfl ?_
  refine ow_imul (q := 4) X0 hx (192 : Int32) (hb hby own_d8_3) rfl (by decide) ?_
  refine ow_istoreN (q := 5) X0 hx (L' := #[iv p0, iv (3 : Int32), iv (192 : Int32)]) (hb hby own_d8_4) rfl rfl ?_
  refine ow_iloadN (q := 6) X0 hx (hb hby own_d8_5) rfl rfl ?_
  refine ow_iloadN (q := 7) X0 hx (hb hby own_d8_6) rfl rfl ?_
  by_cases hc7_1 : p0 < (192 : Int32)
  · refine ow_icmpYes (q := 24) X0 hx (hb hby own_d8_7) (Jvm.Free.XT.ii_lt_t hc7_1) (by decide) (by decide) ?_
    refine ow_lconst (q := 25) X0 hx (0 : Int64) (hb hby own_d8_24) rfl rfl ?_
    refine ownRetJ X0 hx Bd.returns (hb hby own_d8_25) hlk (by decide) (by decide) ?_
    rw [e0]
    refine ⟨congrArg (fun q => some (Value.long q)) ?_, N0, rfl⟩
    simp [own_Bw, hc7_1]
  · refine ow_icmpNo (q := 10) X0 hx (hb hby own_d8_7) rfl (Jvm.Free.XT.ii_lt_f hc7_1) ?_
    refine ow_iloadN (q := 11) X0 hx (hb hby own_d8_10) rfl rfl ?_
    refine ow_iloadN (q := 12) X0 hx (hb hby own_d8_11) rfl rfl ?_
    refine ow_bipush (q := 14) X0 hx (64 : Int32) (hb hby own_d8_12) rfl rfl ?_
    refine ow_iadd (q := 15) X0 hx (256 : Int32) (hb hby own_d8_14) rfl (by decide) ?_
    by_cases hc15_2 : p0 < (256 : Int32)
    · refine ow_icmpNo (q := 18) X0 hx (hb hby own_d8_15) rfl (Jvm.Free.XT.ii_ge_f hc15_2) ?_
      refine ow_lconst (q := 19) X0 hx (1 : Int64) (hb hby own_d8_18) rfl rfl ?_
      refine ow_iloadN (q := 20) X0 hx (hb hby own_d8_19) rfl rfl ?_
      refine ow_iloadN (q := 21) X0 hx (hb hby own_d8_20) rfl rfl ?_
      refine ow_isub (q := 22) X0 hx _ (hb hby own_d8_21) rfl rfl ?_
      refine ow_lshl (q := 23) X0 hx _ (hb hby own_d8_22) rfl rfl ?_
      refine ownRetJ X0 hx Bd.returns (hb hby own_d8_23) hlk (by decide) (by decide) ?_
      rw [e0]
      refine ⟨congrArg (fun q => some (Value.long q)) ?_, N0, rfl⟩
      simp [own_Bw, hc7_1, hc15_2]
    · refine ow_icmpYes (q := 24) X0 hx (hb hby own_d8_15) (Jvm.Free.XT.ii_ge_t hc15_2) (by decide) (by decide) ?_
      refine ow_lconst (q := 25) X0 hx (0 : Int64) (hb hby own_d8_24) rfl rfl ?_
      refine ownRetJ X0 hx Bd.returns (hb hby own_d8_25) hlk (by decide) (by decide) ?_
      rw [e0]
      refine ⟨congrArg (fun q => some (Value.long q)) ?_, N0, rfl⟩
      simp [own_Bw, hc7_1, hc15_2]
theorem own_d7_0 : decode method_3_code 0 = .ok (.lconst 0, 1) := by decide +kernel
theorem own_d7_1 : decode method_3_code 1 = .ok (.lstore 5, 2) := by decide +kernel
theorem own_d7_3 : decode method_3_code 3 = .ok (.iload_n 1, 1) := by decide +kernel
theorem own_d7_4 : decode method_3_code 4 = .ok (.ifCond .le 13, 3) := by decide +kernel
theorem own_d7_17 : decode method_3_code 17 = .ok (.iload_n 1, 1) := by decide +kernel
theorem own_d7_18 : decode method_3_code 18 = .ok (.iconst 1, 1) := by decide +kernel
theorem own_d7_19 : decode method_3_code 19 = .ok (.if_icmp .le 13, 3) := by decide +kernel
theorem own_d7_32 : decode method_3_code 32 = .ok (.iload_n 1, 1) := by decide +kernel
theorem own_d7_33 : decode method_3_code 33 = .ok (.iconst 2, 1) := by decide +kernel
theorem own_d7_34 : decode method_3_code 34 = .ok (.if_icmp .le 14, 3) := by decide +kernel
theorem own_d7_48 : decode method_3_code 48 = .ok (.lload 5, 2) := by decide +kernel
theorem own_d7_50 : decode method_3_code 50 = .ok (.lreturn, 1) := by decide +kernel
theorem own_ef7_exp_0_0 (m : MethodId) (p2 : Int32) (p3 : Int32) (p4 : Int32) : entryFrame m #[(.int (0 : Int32)), (.int (0 : Int32)), (.int p2), (.int p3), (.int p4)] 7 = mkF m 0 #[iv (0 : Int32), iv (0 : Int32), iv p2, iv p3, iv p4, .unset, .unset] [] := by first | (simp [entryFrame, mkF, argsToLocals, Value.category]; done) | rfl
def Q_exp_0_0 (Z : State) (p2 : Int32) (p3 : Int32) (p4 : Int32) (h0 : Heap) (n0 : Nat) (v : Option Value) (h : Heap) (L : List Loc) : Prop := v = some (.long (0 : Int64)) ∧ Fr n0 L ∧ h = h0
set_option maxRecDepth 65536 in
set_option maxHeartbeats 40000000 in
theorem rm_exp_0_0 (l : Launch) (Z : State) (av0 : Array Value) (hw : ∀ d ∈ tables_1, d.before av0 Z = true) (ws : List Jvm.Cond) (p2 : Int32) (p3 : Int32) (p4 : Int32) (h0 : Heap) (n0 : Nat) (Z0 : n0 ≤ h0.size) :
    MetFree l (⟨"com/example/sieveline/sieveline/solver/BitMatrixRowPinLaw", "expect", "(IIIII)J"⟩ : MethodName) (head1 (Jvm.Cond.code (⟨"com/example/sieveline/sieveline/solver/BitMatrixRowPinLaw", "expect", "(IIIII)J"⟩ : MethodName) method_3_code 7 (some .long) :: ws) ({ frames := 0, cells := 0, slots := 0, locals := 0 } : Room)) (fun a U => a = #[(.int (0 : Int32)), (.int (0 : Int32)), (.int p2), (.int p3), (.int p4)] ∧ Z.Warmed39 U.vm ∧ U.heap = h0) (fun _ _ _ _ _ => True) (fun _ U o U' => ∃ v L, o = .returned v ∧ (Q_exp_0_0 Z p2 p3 p4 h0 n0) v U'.heap L ∧ FrameEnd U o U' L ({ frames := 0, cells := 0, slots := 0, locals := 0 } : Room).cells ({ frames := 0, cells := 0, slots := 0, locals := 0 } : Room).slots) := by
  refine MetFree.of_bodySF (plainFor_of_name own_pn_BitMatrixRowPinLaw) hisR ?_
  intro p e s m args below meth c s₁ Bd hml0 hP hK
  obtain ⟨rfl, hZ, hh⟩ := hP
  have hx := Bd.exec
  have hby := Bd.bytes
  have hml : c.maxLocals = 7 := hml0
  have hown : s.vm.findClass "com/example/sieveline/sieveline/solver/BitMatrixRowPinLaw" = some m.cls := findClass_of_methodNamed Bd.named
  have hnm := (name_of_methodNamed Bd.named Bd.method).1
  have hlk : meth.locks = false := BodyLoose.notSynchronized Bd
  have X0 : Stand p l e ({ frames := 0, cells := 0, slots := 0, locals := 0 } : Room) s m #[(.int (0 : Int32)), (.int (0 : Int32)), (.int p2), (.int p3), (.int p4)] below meth c s₁ [] 0 0 := Stand.of_body Bd
  have e0 : s₁.heap = h0 := by rw [← hh, Bd.state]; rfl
  have N0 := Fr.nil n0
  have K0 : Keep h0 h0 [] := Keep.refl _ _
  show ownEnds p e below s (Q_exp_0_0 Z p2 p3 p4 h0 n0) ({ frames := 0, cells := 0, slots := 0, locals := 0 } : Room).cells ({ frames := 0, cells := 0, slots := 0, locals := 0 } : Room).slots s₁ (entryFrame m #[(.int (0 : Int32)), (.int (0 : Int32)), (.int p2), (.int p3), (.int p4)] 7)
  refine ownCast (own_ef7_exp_0_0 m p2 p3 p4) ?_
  refine ow_lconst (q := 1) X0 hx (0 : Int64) (hb hby own_d7_0) rfl rfl ?_
  refine ow_lstore (q := 3) X0 hx (L' := #[iv (0 : Int32), iv (0 : Int32), iv p2, iv p3, iv p4, .val (.long (0 : Int64)), .second]) (hb hby own_d7_1) rfl rfl ?_
  refine ow_iloadN (q := 4) X0 hx (hb hby own_d7_3) rfl rfl ?_
  refine ow_ifYes (q := 17) X0 hx (hb hby own_d7_4) (Jvm.Free.XT.i0_le_t (by decide)) (by decide) (by decide) ?_
  refine ow_iloadN (q := 18) X0 hx (hb hby own_d7_17) rfl rfl ?_
  refine ow_iconst (q := 19) X0 hx (1 : Int32) (hb hby own_d7_18) rfl rfl ?_
  refine ow_icmpYes (q := 32) X0 hx (hb hby own_d7_19) (Jvm.Free.XT.ii_le_t (by decide)) (by decide) (by decide) ?_
  refine ow_iloadN (q := 33) X0 hx (hb hby own_d7_32) rfl rfl ?_
  refine ow_iconst (q := 34) X0 hx (2 : Int32) (hb hby own_d7_33) rfl rfl ?_
  refine ow_icmpYes (q := 48) X0 hx (hb hby own_d7_34) (Jvm.Free.XT.ii_le_t (by decide)) (by decide) (by decide) ?_
  refine ow_lload (q := 50) X0 hx (hb hby own_d7_48) rfl rfl ?_
  refine ownRetJ X0 hx Bd.returns (hb hby own_d7_50) hlk (by decide) (by decide) ?_
  rw [e0]
  exact ⟨rfl, N0, rfl⟩
theorem own_d7_7 : decode method_3_code 7 = .ok (.lload 5, 2) := by decide +kernel
theorem own_d7_9 : decode method_3_code 9 = .ok (.iload_n 2, 1) := by decide +kernel
theorem own_d7_10 : decode method_3_code 10 = .ok (.iload_n 0, 1) := by decide +kernel
theorem own_d7_11 : decode method_3_code 11 = .ok (.invokestatic 7, 3) := by decide +kernel
theorem own_d7_14 : decode method_3_code 14 = .ok (.lor, 1) := by decide +kernel
theorem own_d7_15 : decode method_3_code 15 = .ok (.lstore 5, 2) := by decide +kernel
theorem own_ef7_exp_0_1 (m : MethodId) (p2 : Int32) (p3 : Int32) (p4 : Int32) : entryFrame m #[(.int (0 : Int32)), (.int (1 : Int32)), (.int p2), (.int p3), (.int p4)] 7 = mkF m 0 #[iv (0 : Int32), iv (1 : Int32), iv p2, iv p3, iv p4, .unset, .unset] [] := by first | (simp [entryFrame, mkF, argsToLocals, Value.category]; done) | rfl
def Q_exp_0_1 (Z : State) (p2 : Int32) (p3 : Int32) (p4 : Int32) (h0 : Heap) (n0 : Nat) (v : Option Value) (h : Heap) (L : List Loc) : Prop := v = some (.long ((0 : Int64) ||| (own_Bw (0 : Int32) (64 : Int32) p2))) ∧ Fr n0 L ∧ h = h0
set_option maxRecDepth 65536 in
set_option maxHeartbeats 40000000 in
theorem rm_exp_0_1 (l : Launch) (Z : State) (av0 : Array Value) (hw : ∀ d ∈ tables_1, d.before av0 Z = true) (ws : List Jvm.Cond) (p2 : Int32) (p3 : Int32) (p4 : Int32) (h0 : Heap) (n0 : Nat) (Z0 : n0 ≤ h0.size) :
    MetFree l (⟨"com/example/sieveline/sieveline/solver/BitMatrixRowPinLaw", "expect", "(IIIII)J"⟩ : MethodName) (head1 (Jvm.Cond.code (⟨"com/example/sieveline/sieveline/solver/BitMatrixRowPinLaw", "expect", "(IIIII)J"⟩ : MethodName) method_3_code 7 (some .long) :: ws) ({ frames := 1, cells := 0, slots := 0, locals := 16 } : Room)) (fun a U => a = #[(.int (0 : Int32)), (.int (1 : Int32)), (.int p2), (.int p3), (.int p4)] ∧ Z.Warmed39 U.vm ∧ U.heap = h0) (fun _ _ _ _ _ => True) (fun _ U o U' => ∃ v L, o = .returned v ∧ (Q_exp_0_1 Z p2 p3 p4 h0 n0) v U'.heap L ∧ FrameEnd U o U' L ({ frames := 1, cells := 0, slots := 0, locals := 16 } : Room).cells ({ frames := 1, cells := 0, slots := 0, locals := 16 } : Room).slots) := by
  refine MetFree.of_bodySF (plainFor_of_name own_pn_BitMatrixRowPinLaw) hisR ?_
  intro p e s m args below meth c s₁ Bd hml0 hP hK
  obtain ⟨rfl, hZ, hh⟩ := hP
  have hx := Bd.exec
  have hby := Bd.bytes
  have hml : c.maxLocals = 7 := hml0
  have hown : s.vm.findClass "com/example/sieveline/sieveline/solver/BitMatrixRowPinLaw" = some m.cls := findClass_of_methodNamed Bd.named
  have hnm := (name_of_methodNamed Bd.named Bd.method).1
  have hlk : meth.locks = false := BodyLoose.notSynchronized Bd
  have X0 : Stand p l e ({ frames := 1, cells := 0, slots := 0, locals := 16 } : Room) s m #[(.int (0 : Int32)), (.int (1 : Int32)), (.int p2), (.int p3), (.int p4)] below meth c s₁ [] 0 0 := Stand.of_body Bd
  have e0 : s₁.heap = h0 := by rw [← hh, Bd.state]; rfl
  have N0 := Fr.nil n0
  have K0 : Keep h0 h0 [] := Keep.refl _ _
  show ownEnds p e below s (Q_exp_0_1 Z p2 p3 p4 h0 n0) ({ frames := 1, cells := 0, slots := 0, locals := 16 } : Room).cells ({ frames := 1, cells := 0, slots := 0, locals := 16 } : Room).slots s₁ (entryFrame m #[(.int (0 : Int32)), (.int (1 : Int32)), (.int p2), (.int p3), (.int p4)] 7)
  refine ownCast (own_ef7_exp_0_1 m p2 p3 p4) ?_
  refine ow_lconst (q := 1) X0 hx (0 : Int64) (hb hby own_d7_0) rfl rfl ?_
  refine ow_lstore (q := 3) X0 hx (L' := #[iv (0 : Int32), iv (1 : Int32), iv p2, iv p3, iv p4, .val (.long (0 : Int64)), .second]) (hb hby own_d7_1) rfl rfl ?_
  refine ow_iloadN (q := 4) X0 hx (hb hby own_d7_3) rfl rfl ?_
  refine ow_ifNo (q := 7) X0 hx (hb hby own_d7_4) rfl (Jvm.Free.XT.i0_le_f (by decide)) ?_
  refine ow_lload (q := 9) X0 hx (hb hby own_d7_7) rfl rfl ?_
  refine ow_iloadN (q := 10) X0 hx (hb hby own_d7_9) rfl rfl ?_
  refine ow_iloadN (q := 11) X0 hx (hb hby own_d7_10) rfl rfl ?_
  obtain ⟨_, _, ⟨T1, L1, k1, n1⟩, -, X1, ⟨Lc1, hQ1, l1, y1, z1⟩, st1⟩ := Jvm.LawKit.callS X0 hx (y := (⟨"com/example/sieveline/sieveline/solver/BitMatrixRowPinLaw", "bit", "(II)J"⟩ : MethodName)) hown (mvT hZ (hw _ (List.mem_of_getElem? (i := 39) rfl))) (mvT hZ (hw _ (List.mem_of_getElem? (i := 40) rfl))) (mvT hZ (hw _ (List.mem_of_getElem? (i := 37) rfl))) (mvT hZ (hw _ (List.mem_of_getElem? (i := 41) rfl))) (by decide) (backOf (W := 2) (rm_bit_0 l Z av0 hw [] p2 h0 n0 (Nat.le_trans Z0 K0.1) ) hZ (hw _ (List.mem_of_getElem? (i := 41) rfl)) (hw _ (List.mem_of_getElem? (i := 37) rfl)) (by decide) (by decide)) (g := (mkF m 11 #[iv (0 : Int32), iv (1 : Int32), iv p2, iv p3, iv p4, .val (.long (0 : Int64)), .second] [(.int (0 : Int32)), (.int p2), (.long (0 : Int64))])) rfl (by rw [hml]; rfl) (argsL := [(.int p2), (.int (0 : Int32))]) (rest := [(.long (0 : Int64))]) (lenOf own_pd1 rfl) rfl (by show 2 * 0 + _ ≤ _; exact Nat.le_of_eq rfl) (hb hby own_d7_11) (fun _ _ => ⟨rfl, e0, (by decide : 0 + 0 ≤ _), (by decide : 0 + 0 ≤ _)⟩)
  dsimp only [Pt.U, Pt.locs, Pt.cells, Pt.slots] at X1 l1 y1 z1 st1 hQ1
  subst l1 y1 z1
  obtain ⟨rfl, N1q, e1⟩ := hQ1
  have N1 := Fr.app N0 N1q
  refine ownGo (T' := T1) (f' := (mkF m 14 #[iv (0 : Int32), iv (1 : Int32), iv p2, iv p3, iv p4, .val (.long (0 : Int64)), .second] [(.long (own_Bw (0 : Int32) (64 : Int32) p2)), (.long (0 : Int64))])) (st1) ?_
  refine ow_lor (q := 15) X1 hx _ (hb hby own_d7_14) rfl rfl ?_
  generalize hv_v2 : ((0 : Int64) ||| (own_Bw (0 : Int32) (64 : Int32) p2)) = v2
  refine ow_lstore (q := 17) X1 hx (L' := #[iv (0 : Int32), iv (1 : Int32), iv p2, iv p3, iv p4, .val (.long v2), .second]) (hb hby own_d7_15) rfl rfl ?_
  refine ow_iloadN (q := 18) X1 hx (hb hby own_d7_17) rfl rfl ?_
  refine ow_iconst (q := 19) X1 hx (1 : Int32) (hb hby own_d7_18) rfl rfl ?_
  refine ow_icmpYes (q := 32) X1 hx (hb hby own_d7_19) (Jvm.Free.XT.ii_le_t (by decide)) (by decide) (by decide) ?_
  refine ow_iloadN (q := 33) X1 hx (hb hby own_d7_32) rfl rfl ?_
  refine ow_iconst (q := 34) X1 hx (2 : Int32) (hb hby own_d7_33) rfl rfl ?_
  refine ow_icmpYes (q := 48) X1 hx (hb hby own_d7_34) (Jvm.Free.XT.ii_le_t (by decide)) (by decide) (by decide) ?_
  refine ow_lload (q := 50) X1 hx (hb hby own_d7_48) rfl rfl ?_
  refine ownRetJ X1 hx Bd.returns (hb hby own_d7_50) hlk (by decide) (by decide) ?_
  subst hv_v2
  rw [e1]
  refine ⟨congrArg (fun q => some (Value.long q)) ?_, N1, rfl⟩
  rfl
theorem own_d7_22 : decode method_3_code 22 = .ok (.lload 5, 2) := by decide +kernel
theorem own_d7_24 : decode method_3_code 24 = .ok (.iload_n 3, 1) := by decide +kernel
theorem own_d7_25 : decode method_3_code 25 = .ok (.iload_n 0, 1) := by decide +kernel
theorem own_d7_26 : decode method_3_code 26 = .ok (.invokestatic 7, 3) := by decide +kernel
theorem own_d7_29 : decode method_3_code 29 = .ok (.lor, 1) := by decide +kernel
theorem own_d7_30 : decode method_3_code 30 = .ok (.lstore 5, 2) := by decide +kernel
theorem own_ef7_exp_0_2 (m : MethodId) (p2 : Int32) (p3 : Int32) (p4 : Int32) : entryFrame m #[(.int (0 : Int32)), (.int (2 : Int32)), (.int p2), (.int p3), (.int p4)] 7 = mkF m 0 #[iv (0 : Int32), iv (2 : Int32), iv p2, iv p3, iv p4, .unset, .unset] [] := by first | (simp [entryFrame, mkF, argsToLocals, Value.category]; done) | rfl
def Q_exp_0_2 (Z : State) (p2 : Int32) (p3 : Int32) (p4 : Int32) (h0 : Heap) (n0 : Nat) (v : Option Value) (h : Heap) (L : List Loc) : Prop := v = some (.long (((0 : Int64) ||| (own_Bw (0 : Int32) (64 : Int32) p2)) ||| (own_Bw (0 : Int32) (64 : Int32) p3))) ∧ Fr n0 L ∧ h = h0
set_option maxRecDepth 65536 in
set_option maxHeartbeats 40000000 in
theorem rm_exp_0_2 (l : Launch) (Z : State) (av0 : Array Value) (hw : ∀ d ∈ tables_1, d.before av0 Z = true) (ws : List Jvm.Cond) (p2 : Int32) (p3 : Int32) (p4 : Int32) (h0 : Heap) (n0 : Nat) (Z0 : n0 ≤ h0.size) :
    MetFree l (⟨"com/example/sieveline/sieveline/solver/BitMatrixRowPinLaw", "expect", "(IIIII)J"⟩ : MethodName) (head1 (Jvm.Cond.code (⟨"com/example/sieveline/sieveline/solver/BitMatrixRowPinLaw", "expect", "(IIIII)J"⟩ : MethodName) method_3_code 7 (some .long) :: ws) ({ frames := 1, cells := 0, slots := 0, locals := 16 } : Room)) (fun a U => a = #[(.int (0 : Int32)), (.int (2 : Int32)), (.int p2), (.int p3), (.int p4)] ∧ Z.Warmed39 U.vm ∧ U.heap = h0) (fun _ _ _ _ _ => True) (fun _ U o U' => ∃ v L, o = .returned v ∧ (Q_exp_0_2 Z p2 p3 p4 h0 n0) v U'.heap L ∧ FrameEnd U o U' L ({ frames := 1, cells := 0, slots := 0, locals := 16 } : Room).cells ({ frames := 1, cells := 0, slots := 0, locals := 16 } : Room).slots) := by
  refine MetFree.of_bodySF (plainFor_of_name own_pn_BitMatrixRowPinLaw) hisR ?_
  intro p e s m args below meth c s₁ Bd hml0 hP hK
  obtain ⟨rfl, hZ, hh⟩ := hP
  have hx := Bd.exec
  have hby := Bd.bytes
  have hml : c.maxLocals = 7 := hml0
  have hown : s.vm.findClass "com/example/sieveline/sieveline/solver/BitMatrixRowPinLaw" = some m.cls := findClass_of_methodNamed Bd.named
  have hnm := (name_of_methodNamed Bd.named Bd.method).1
  have hlk : meth.locks = false := BodyLoose.notSynchronized Bd
  have X0 : Stand p l e ({ frames := 1, cells := 0, slots := 0, locals := 16 } : Room) s m #[(.int (0 : Int32)), (.int (2 : Int32)), (.int p2), (.int p3), (.int p4)] below meth c s₁ [] 0 0 := Stand.of_body Bd
  have e0 : s₁.heap = h0 := by rw [← hh, Bd.state]; rfl
  have N0 := Fr.nil n0
  have K0 : Keep h0 h0 [] := Keep.refl _ _
  show ownEnds p e below s (Q_exp_0_2 Z p2 p3 p4 h0 n0) ({ frames := 1, cells := 0, slots := 0, locals := 16 } : Room).cells ({ frames := 1, cells := 0, slots := 0, locals := 16 } : Room).slots s₁ (entryFrame m #[(.int (0 : Int32)), (.int (2 : Int32)), (.int p2), (.int p3), (.int p4)] 7)
  refine ownCast (own_ef7_exp_0_2 m p2 p3 p4) ?_
  refine ow_lconst (q := 1) X0 hx (0 : Int64) (hb hby own_d7_0) rfl rfl ?_
  refine ow_lstore (q := 3) X0 hx (L' := #[iv (0 : Int32), iv (2 : Int32), iv p2, iv p3, iv p4, .val (.long (0 : Int64)), .second]) (hb hby own_d7_1) rfl rfl ?_
  refine ow_iloadN (q := 4) X0 hx (hb hby own_d7_3) rfl rfl ?_
  refine ow_ifNo (q := 7) X0 hx (hb hby own_d7_4) rfl (Jvm.Free.XT.i0_le_f (by decide)) ?_
  refine ow_lload (q := 9) X0 hx (hb hby own_d7_7) rfl rfl ?_
  refine ow_iloadN (q := 10) X0 hx (hb hby own_d7_9) rfl rfl ?_
  refine ow_iloadN (q := 11) X0 hx (hb hby own_d7_10) rfl rfl ?_
  obtain ⟨_, _, ⟨T1, L1, k1, n1⟩, -, X1, ⟨Lc1, hQ1, l1, y1, z1⟩, st1⟩ := Jvm.LawKit.callS X0 hx (y := (⟨"com/example/sieveline/sieveline/solver/BitMatrixRowPinLaw", "bit", "(II)J"⟩ : MethodName)) hown (mvT hZ (hw _ (List.mem_of_getElem? (i := 39) rfl))) (mvT hZ (hw _ (List.mem_of_getElem? (i := 40) rfl))) (mvT hZ (hw _ (List.mem_of_getElem? (i := 37) rfl))) (mvT hZ (hw _ (List.mem_of_getElem? (i := 41) rfl))) (by decide) (backOf (W := 2) (rm_bit_0 l Z av0 hw [] p2 h0 n0 (Nat.le_trans Z0 K0.1) ) hZ (hw _ (List.mem_of_getElem? (i := 41) rfl)) (hw _ (List.mem_of_getElem? (i := 37) rfl)) (by decide) (by decide)) (g := (mkF m 11 #[iv (0 : Int32), iv (2 : Int32), iv p2, iv p3, iv p4, .val (.long (0 : Int64)), .second] [(.int (0 : Int32)), (.int p2), (.long (0 : Int64))])) rfl (by rw [hml]; rfl) (argsL := [(.int p2), (.int (0 : Int32))]) (rest := [(.long (0 : Int64))]) (lenOf own_pd1 rfl) rfl (by show 2 * 0 + _ ≤ _; exact Nat.le_of_eq rfl) (hb hby own_d7_11) (fun _ _ => ⟨rfl, e0, (by decide : 0 + 0 ≤ _), (by decide : 0 + 0 ≤ _)⟩)
  dsimp only [Pt.U, Pt.locs, Pt.cells, Pt.slots] at X1 l1 y1 z1 st1 hQ1
  subst l1 y1 z1
  obtain ⟨rfl, N1q, e1⟩ := hQ1
  have N1 := Fr.app N0 N1q
  refine ownGo (T' := T1) (f' := (mkF m 14 #[iv (0 : Int32), iv (2 : Int32), iv p2, iv p3, iv p4, .val (.long (0 : Int64)), .second] [(.long (own_Bw (0 : Int32) (64 : Int32) p2)), (.long (0 : Int64))])) (st1) ?_
  refine ow_lor (q := 15) X1 hx _ (hb hby own_d7_14) rfl rfl ?_
  generalize hv_v2 : ((0 : Int64) ||| (own_Bw (0 : Int32) (64 : Int32) p2)) = v2
  refine ow_lstore (q := 17) X1 hx (L' := #[iv (0 : Int32), iv (2 : Int32), iv p2, iv p3, iv p4, .val (.long v2), .second]) (hb hby own_d7_15) rfl rfl ?_
  refine ow_iloadN (q := 18) X1 hx (hb hby own_d7_17) rfl rfl ?_
  refine ow_iconst (q := 19) X1 hx (1 : Int32) (hb hby own_d7_18) rfl rfl ?_
  refine ow_icmpNo (q := 22) X1 hx (hb hby own_d7_19) rfl (Jvm.Free.XT.ii_le_f (by decide)) ?_
  refine ow_lload (q := 24) X1 hx (hb hby own_d7_22) rfl rfl ?_
  refine ow_iloadN (q := 25) X1 hx (hb hby own_d7_24) rfl rfl ?_
  refine ow_iloadN (q := 26) X1 hx (hb hby own_d7_25) rfl rfl ?_
  obtain ⟨_, _, ⟨T3, L3, k3, n3⟩, -, X3, ⟨Lc3, hQ3, l3, y3, z3⟩, st3⟩ := Jvm.LawKit.callS X1 hx (y := (⟨"com/example/sieveline/sieveline/solver/BitMatrixRowPinLaw", "bit", "(II)J"⟩ : MethodName)) hown (mvT hZ (hw _ (List.mem_of_getElem? (i := 39) rfl))) (mvT hZ (hw _ (List.mem_of_getElem? (i := 40) rfl))) (mvT hZ (hw _ (List.mem_of_getElem? (i := 37) rfl))) (mvT hZ (hw _ (List.mem_of_getElem? (i := 41) rfl))) (by decide) (backOf (W := 2) (rm_bit_0 l Z av0 hw [] p3 h0 n0 (Nat.le_trans Z0 K0.1) ) hZ (hw _ (List.mem_of_getElem? (i := 41) rfl)) (hw _ (List.mem_of_getElem? (i := 37) rfl)) (by decide) (by decide)) (g := (mkF m 26 #[iv (0 : Int32), iv (2 : Int32), iv p2, iv p3, iv p4, .val (.long v2), .second] [(.int (0 : Int32)), (.int p3), (.long v2)])) rfl (by rw [hml]; rfl) (argsL := [(.int p3), (.int (0 : Int32))]) (rest := [(.long v2)]) (lenOf own_pd1 rfl) rfl (by show 2 * 0 + _ ≤ _; exact Nat.le_of_eq rfl) (hb hby own_d7_26) (fun _ _ => ⟨rfl, e1, (by decide : 0 + 0 ≤ _), (by decide : 0 + 0 ≤ _)⟩)
  dsimp only [Pt.U, Pt.locs, Pt.cells, Pt.slots] at X3 l3 y3 z3 st3 hQ3
  subst l3 y3 z3
  obtain ⟨rfl, N3q, e3⟩ := hQ3
  have N3 := Fr.app N1 N3q
  refine ownGo (T' := T3) (f' := (mkF m 29 #[iv (0 : Int32), iv (2 : Int32), iv p2, iv p3, iv p4, .val (.long v2), .second] [(.long (own_Bw (0 : Int32) (64 : Int32) p3)), (.long v2)])) (st3) ?_
  refine ow_lor (q := 30) X3 hx _ (hb hby own_d7_29) rfl rfl ?_
  generalize hv_v4 : (v2 ||| (own_Bw (0 : Int32) (64 : Int32) p3)) = v4
  refine ow_lstore (q := 32) X3 hx (L' := #[iv (0 : Int32), iv (2 : Int32), iv p2, iv p3, iv p4, .val (.long v4), .second]) (hb hby own_d7_30) rfl rfl ?_
  refine ow_iloadN (q := 33) X3 hx (hb hby own_d7_32) rfl rfl ?_
  refine ow_iconst (q := 34) X3 hx (2 : Int32) (hb hby own_d7_33) rfl rfl ?_
  refine ow_icmpYes (q := 48) X3 hx (hb hby own_d7_34) (Jvm.Free.XT.ii_le_t (by decide)) (by decide) (by decide) ?_
  refine ow_lload (q := 50) X3 hx (hb hby own_d7_48) rfl rfl ?_
  refine ownRetJ X3 hx Bd.returns (hb hby own_d7_50) hlk (by decide) (by decide) ?_
  subst hv_v4 hv_v2
  rw [e3]
  refine ⟨congrArg (fun q => some (Value.long q)) ?_, N3, rfl⟩
  rfl
theorem own_d7_37 : decode method_3_code 37 = .ok (.lload 5, 2) := by decide +kernel
theorem own_d7_39 : decode method_3_code 39 = .ok (.iload 4, 2) := by decide +kernel
theorem own_d7_41 : decode method_3_code 41 = .ok (.iload_n 0, 1) := by decide +kernel
theorem own_d7_42 : decode method_3_code 42 = .ok (.invokestatic 7, 3) := by decide +kernel
theorem own_d7_45 : decode method_3_code 45 = .ok (.lor, 1) := by decide +kernel
theorem own_d7_46 : decode method_3_code 46 = .ok (.lstore 5, 2) := by decide +kernel
theorem own_ef7_exp_0_3 (m : MethodId) (p2 : Int32) (p3 : Int32) (p4 : Int32) : entryFrame m #[(.int (0 : Int32)), (.int (3 : Int32)), (.int p2), (.int p3), (.int p4)] 7 = mkF m 0 #[iv (0 : Int32), iv (3 : Int32), iv p2, iv p3, iv p4, .unset, .unset] [] := by first | (simp [entryFrame, mkF, argsToLocals, Value.category]; done) | rfl
def Q_exp_0_3 (Z : State) (p2 : Int32) (p3 : Int32) (p4 : Int32) (h0 : Heap) (n0 : Nat) (v : Option Value) (h : Heap) (L : List Loc) : Prop := v = some (.long ((((0 : Int64) ||| (own_Bw (0 : Int32) (64 : Int32) p2)) ||| (own_Bw (0 : Int32) (64 : Int32) p3)) ||| (own_Bw (0 : Int32) (64 : Int32) p4))) ∧ Fr n0 L ∧ h = h0
set_option maxRecDepth 65536 in
set_option maxHeartbeats 40000000 in
theorem rm_exp_0_3 (l : Launch) (Z : State) (av0 : Array Value) (hw : ∀ d ∈ tables_1, d.before av0 Z = true) (ws : List Jvm.Cond) (p2 : Int32) (p3 : Int32) (p4 : Int32) (h0 : Heap) (n0 : Nat) (Z0 : n0 ≤ h0.size) :
    MetFree l (⟨"com/example/sieveline/sieveline/solver/BitMatrixRowPinLaw", "expect", "(IIIII)J"⟩ : MethodName) (head1 (Jvm.Cond.code (⟨"com/example/sieveline/sieveline/solver/BitMatrixRowPinLaw", "expect", "(IIIII)J"⟩ : MethodName) method_3_code 7 (some .long) :: ws) ({ frames := 1, cells := 0, slots := 0, locals := 16 } : Room)) (fun a U => a = #[(.int (0 : Int32)), (.int (3 : Int32)), (.int p2), (.int p3), (.int p4)] ∧ Z.Warmed39 U.vm ∧ U.heap = h0) (fun _ _ _ _ _ => True) (fun _ U o U' => ∃ v L, o = .returned v ∧ (Q_exp_0_3 Z p2 p3 p4 h0 n0) v U'.heap L ∧ FrameEnd U o U' L ({ frames := 1, cells := 0, slots := 0, locals := 16 } : Room).cells ({ frames := 1, cells := 0, slots := 0, locals := 16 } : Room).slots) := by
  refine MetFree.of_bodySF (plainFor_of_name own_pn_BitMatrixRowPinLaw) hisR ?_
  intro p e s m args below meth c s₁ Bd hml0 hP hK
  obtain ⟨rfl, hZ, hh⟩ := hP
  have hx := Bd.exec
  have hby := Bd.bytes
  have hml : c.maxLocals = 7 := hml0
  have hown : s.vm.findClass "com/example/sieveline/sieveline/solver/BitMatrixRowPinLaw" = some m.cls := findClass_of_methodNamed Bd.named
  have hnm := (name_of_methodNamed Bd.named Bd.method).1
  have hlk : meth.locks = false := BodyLoose.notSynchronized Bd
  have X0 : Stand p l e ({ frames := 1, cells := 0, slots := 0, locals := 16 } : Room) s m #[(.int (0 : Int32)), (.int (3 : Int32)), (.int p2), (.int p3), (.int p4)] below meth c s₁ [] 0 0 := Stand.of_body Bd
  have e0 : s₁.heap = h0 := by rw [← hh, Bd.state]; rfl
  have N0 := Fr.nil n0
  have K0 : Keep h0 h0 [] := Keep.refl _ _
  show ownEnds p e below s (Q_exp_0_3 Z p2 p3 p4 h0 n0) ({ frames := 1, cells := 0, slots := 0, locals := 16 } : Room).cells ({ frames := 1, cells := 0, slots := 0, locals := 16 } : Room).slots s₁ (entryFrame m #[(.int (0 : Int32)), (.int (3 : Int32)), (.int p2), (.int p3), (.int p4)] 7)
  refine ownCast (own_ef7_exp_0_3 m p2 p3 p4) ?_
  refine ow_lconst (q := 1) X0 hx (0 : Int64) (hb hby own_d7_0) rfl rfl ?_
  refine ow_lstore (q := 3) X0 hx (L' := #[iv (0 : Int32), iv (3 : Int32), iv p2, iv p3, iv p4, .val (.long (0 : Int64)), .second]) (hb hby own_d7_1) rfl rfl ?_
  refine ow_iloadN (q := 4) X0 hx (hb hby own_d7_3) rfl rfl ?_
  refine ow_ifNo (q := 7) X0 hx (hb hby own_d7_4) rfl (Jvm.Free.XT.i0_le_f (by decide)) ?_
  refine ow_lload (q := 9) X0 hx (hb hby own_d7_7) rfl rfl ?_
  refine ow_iloadN (q := 10) X0 hx (hb hby own_d7_9) rfl rfl ?_
  refine ow_iloadN (q := 11) X0 hx (hb hby own_d7_10) rfl rfl ?_
  obtain ⟨_, _, ⟨T1, L1, k1, n1⟩, -, X1, ⟨Lc1, hQ1, l1, y1, z1⟩, st1⟩ := Jvm.LawKit.callS X0 hx (y := (⟨"com/example/sieveline/sieveline/solver/BitMatrixRowPinLaw", "bit", "(II)J"⟩ : MethodName)) hown (mvT hZ (hw _ (List.mem_of_getElem? (i := 39) rfl))) (mvT hZ (hw _ (List.mem_of_getElem? (i := 40) rfl))) (mvT hZ (hw _ (List.mem_of_getElem? (i := 37) rfl))) (mvT hZ (hw _ (List.mem_of_getElem? (i := 41) rfl))) (by decide) (backOf (W := 2) (rm_bit_0 l Z av0 hw [] p2 h0 n0 (Nat.le_trans Z0 K0.1) ) hZ (hw _ (List.mem_of_getElem? (i := 41) rfl)) (hw _ (List.mem_of_getElem? (i := 37) rfl)) (by decide) (by decide)) (g := (mkF m 11 #[iv (0 : Int32), iv (3 : Int32), iv p2, iv p3, iv p4, .val (.long (0 : Int64)), .second] [(.int (0 : Int32)), (.int p2), (.long (0 : Int64))])) rfl (by rw [hml]; rfl) (argsL := [(.int p2), (.int (0 : Int32))]) (rest := [(.long (0 : Int64))]) (lenOf own_pd1 rfl) rfl (by show 2 * 0 + _ ≤ _; exact Nat.le_of_eq rfl) (hb hby own_d7_11) (fun _ _ => ⟨rfl, e0, (by decide : 0 + 0 ≤ _), (by decide : 0 + 0 ≤ _)⟩)
  dsimp only [Pt.U, Pt.locs, Pt.cells, Pt.slots] at X1 l1 y1 z1 st1 hQ1
  subst l1 y1 z1
  obtain ⟨rfl, N1q, e1⟩ := hQ1
  have N1 := Fr.app N0 N1q
  refine ownGo (T' := T1) (f' := (mkF m 14 #[iv (0 : Int32), iv (3 : Int32), iv p2, iv p3, iv p4, .val (.long (0 : Int64)), .second] [(.long (own_Bw (0 : Int32) (64 : Int32) p2)), (.long (0 : Int64))])) (st1) ?_
  refine ow_lor (q := 15) X1 hx _ (hb hby own_d7_14) rfl rfl ?_
  generalize hv_v2 : ((0 : Int64) ||| (own_Bw (0 : Int32) (64 : Int32) p2)) = v2
  refine ow_lstore (q := 17) X1 hx (L' := #[iv (0 : Int32), iv (3 : Int32), iv p2, iv p3, iv p4, .val (.long v2), .second]) (hb hby own_d7_15) rfl rfl ?_
  refine ow_iloadN (q := 18) X1 hx (hb hby own_d7_17) rfl rfl ?_
  refine ow_iconst (q := 19) X1 hx (1 : Int32) (hb hby own_d7_18) rfl rfl ?_
  refine ow_icmpNo (q := 22) X1 hx (hb hby own_d7_19) rfl (Jvm.Free.XT.ii_le_f (by decide)) ?_
  refine ow_lload (q := 24) X1 hx (hb hby own_d7_22) rfl rfl ?_
  refine ow_iloadN (q := 25) X1 hx (hb hby own_d7_24) rfl rfl ?_
  refine ow_iloadN (q := 26) X1 hx (hb hby own_d7_25) rfl rfl ?_
  obtain ⟨_, _, ⟨T3, L3, k3, n3⟩, -, X3, ⟨Lc3, hQ3, l3, y3, z3⟩, st3⟩ := Jvm.LawKit.callS X1 hx (y := (⟨"com/example/sieveline/sieveline/solver/BitMatrixRowPinLaw", "bit", "(II)J"⟩ : MethodName)) hown (mvT hZ (hw _ (List.mem_of_getElem? (i := 39) rfl))) (mvT hZ (hw _ (List.mem_of_getElem? (i := 40) rfl))) (mvT hZ (hw _ (List.mem_of_getElem? (i := 37) rfl))) (mvT hZ (hw _ (List.mem_of_getElem? (i := 41) rfl))) (by decide) (backOf (W := 2) (rm_bit_0 l Z av0 hw [] p3 h0 n0 (Nat.le_trans Z0 K0.1) ) hZ (hw _ (List.mem_of_getElem? (i := 41) rfl)) (hw _ (List.mem_of_getElem? (i := 37) rfl)) (by decide) (by decide)) (g := (mkF m 26 #[iv (0 : Int32), iv (3 : Int32), iv p2, iv p3, iv p4, .val (.long v2), .second] [(.int (0 : Int32)), (.int p3), (.long v2)])) rfl (by rw [hml]; rfl) (argsL := [(.int p3), (.int (0 : Int32))]) (rest := [(.long v2)]) (lenOf own_pd1 rfl) rfl (by show 2 * 0 + _ ≤ _; exact Nat.le_of_eq rfl) (hb hby own_d7_26) (fun _ _ => ⟨rfl, e1, (by decide : 0 + 0 ≤ _), (by decide : 0 + 0 ≤ _)⟩)
  dsimp only [Pt.U, Pt.locs, Pt.cells, Pt.slots] at X3 l3 y3 z3 st3 hQ3
  subst l3 y3 z3
  obtain ⟨rfl, N3q, e3⟩ := hQ3
  have N3 := Fr.app N1 N3q
  refine ownGo (T' := T3) (f' := (mkF m 29 #[iv (0 : Int32), iv (3 : Int32), iv p2, iv p3, iv p4, .val (.long v2), .second] [(.long (own_Bw (0 : Int32) (64 : Int32) p3)), (.long v2)])) (st3) ?_
  refine ow_lor (q := 30) X3 hx _ (hb hby own_d7_29) rfl rfl ?_
  generalize hv_v4 : (v2 ||| (own_Bw (0 : Int32) (64 : Int32) p3)) = v4
  refine ow_lstore (q := 32) X3 hx (L' := #[iv (0 : Int32), iv (3 : Int32), iv p2, iv p3, iv p4, .val (.long v4), .second]) (hb hby own_d7_30) rfl rfl ?_
  refine ow_iloadN (q := 33) X3 hx (hb hby own_d7_32) rfl rfl ?_
  refine ow_iconst (q := 34) X3 hx (2 : Int32) (hb hby own_d7_33) rfl rfl ?_
  refine ow_icmpNo (q := 37) X3 hx (hb hby own_d7_34) rfl (Jvm.Free.XT.ii_le_f (by decide)) ?_
  refine ow_lload (q := 39) X3 hx (hb hby own_d7_37) rfl rfl ?_
  refine ow_iload (q := 41) X3 hx (hb hby own_d7_39) rfl rfl ?_
  refine ow_iloadN (q := 42) X3 hx (hb hby own_d7_41) rfl rfl ?_
  obtain ⟨_, _, ⟨T5, L5, k5, n5⟩, -, X5, ⟨Lc5, hQ5, l5, y5, z5⟩, st5⟩ := Jvm.LawKit.callS X3 hx (y := (⟨"com/example/sieveline/sieveline/solver/BitMatrixRowPinLaw", "bit", "(II)J"⟩ : MethodName)) hown (mvT hZ (hw _ (List.mem_of_getElem? (i := 39) rfl))) (mvT hZ (hw _ (List.mem_of_getElem? (i := 40) rfl))) (mvT hZ (hw _ (List.mem_of_getElem? (i := 37) rfl))) (mvT hZ (hw _ (List.mem_of_getElem? (i := 41) rfl))) (by decide) (backOf (W := 2) (rm_bit_0 l Z av0 hw [] p4 h0 n0 (Nat.le_trans Z0 K0.1) ) hZ (hw _ (List.mem_of_getElem? (i := 41) rfl)) (hw _ (List.mem_of_getElem? (i := 37) rfl)) (by decide) (by decide)) (g := (mkF m 42 #[iv (0 : Int32), iv (3 : Int32), iv p2, iv p3, iv p4, .val (.long v4), .second] [(.int (0 : Int32)), (.int p4), (.long v4)])) rfl (by rw [hml]; rfl) (argsL := [(.int p4), (.int (0 : Int32))]) (rest := [(.long v4)]) (lenOf own_pd1 rfl) rfl (by show 2 * 0 + _ ≤ _; exact Nat.le_of_eq rfl) (hb hby own_d7_42) (fun _ _ => ⟨rfl, e3, (by decide : 0 + 0 ≤ _), (by decide : 0 + 0 ≤ _)⟩)
  dsimp only [Pt.U, Pt.locs, Pt.cells, Pt.slots] at X5 l5 y5 z5 st5 hQ5
  subst l5 y5 z5
  obtain ⟨rfl, N5q, e5⟩ := hQ5
  have N5 := Fr.app N3 N5q
  refine ownGo (T' := T5) (f' := (mkF m 45 #[iv (0 : Int32), iv (3 : Int32), iv p2, iv p3, iv p4, .val (.long v4), .second] [(.long (own_Bw (0 : Int32) (64 : Int32) p4)), (.long v4)])) (st5) ?_
  refine ow_lor (q := 46) X5 hx _ (hb hby own_d7_45) rfl rfl ?_
  generalize hv_v6 : (v4 ||| (own_Bw (0 : Int32) (64 : Int32) p4)) = v6
  refine ow_lstore (q := 48) X5 hx (L' := #[iv (0 : Int32), iv (3 : Int32), iv p2, iv p3, iv p4, .val (.long v6), .second]) (hb hby own_d7_46) rfl rfl ?_
  refine ow_lload (q := 50) X5 hx (hb hby own_d7_48) rfl rfl ?_
  refine ownRetJ X5 hx Bd.returns (hb hby own_d7_50) hlk (by decide) (by decide) ?_
  subst hv_v6 hv_v4 hv_v2
  rw [e5]
  refine ⟨congrArg (fun q => some (Value.long q)) ?_, N5, rfl⟩
  rfl
theorem own_ef7_exp_1_0 (m : MethodId) (p2 : Int32) (p3 : Int32) (p4 : Int32) : entryFrame m #[(.int (1 : Int32)), (.int (0 : Int32)), (.int p2), (.int p3), (.int p4)] 7 = mkF m 0 #[iv (1 : Int32), iv (0 : Int32), iv p2, iv p3, iv p4, .unset, .unset] [] := by first | (simp [entryFrame, mkF, argsToLocals, Value.category]; done) | rfl
def Q_exp_1_0 (Z : State) (p2 : Int32) (p3 : Int32) (p4 : Int32) (h0 : Heap) (n0 : Nat) (v : Option Value) (h : Heap) (L : List Loc) : Prop := v = some (.long (0 : Int64)) ∧ Fr n0 L ∧ h = h0
set_option maxRecDepth 65536 in
set_option maxHeartbeats 40000000 in
theorem rm_exp_1_0 (l : Launch) (Z : State) (av0 : Array Value) (hw : ∀ d ∈ tables_1, d.before av0 Z = true) (ws : List Jvm.Cond) (p2 : Int32) (p3 : Int32) (p4 : Int32) (h0 : Heap) (n0 : Nat) (Z0 : n0 ≤ h0.size) :
    MetFree l (⟨"com/example/sieveline/sieveline/solver/BitMatrixRowPinLaw", "expect", "(IIIII)J"⟩ : MethodName) (head1 (Jvm.Cond.code (⟨"com/example/sieveline/sieveline/solver/BitMatrixRowPinLaw", "expect", "(IIIII)J"⟩ : MethodName) method_3_code 7 (some .long) :: ws) ({ frames := 0, cells := 0, slots := 0, locals := 0 } : Room)) (fun a U => a = #[(.int (1 : Int32)), (.int (0 : Int32)), (.int p2), (.int p3), (.int p4)] ∧ Z.Warmed39 U.vm ∧ U.heap = h0) (fun _ _ _ _ _ => True) (fun _ U o U' => ∃ v L, o = .returned v ∧ (Q_exp_1_0 Z p2 p3 p4 h0 n0) v U'.heap L ∧ FrameEnd U o U' L ({ frames := 0, cells := 0, slots := 0, locals := 0 } : Room).cells ({ frames := 0, cells := 0, slots := 0, locals := 0 } : Room).slots) := by
  refine MetFree.of_bodySF (plainFor_of_name own_pn_BitMatrixRowPinLaw) hisR ?_
  intro p e s m args below meth c s₁ Bd hml0 hP hK
  obtain ⟨rfl, hZ, hh⟩ := hP
  have hx := Bd.exec
  have hby := Bd.bytes
  have hml : c.maxLocals = 7 := hml0
  have hown : s.vm.findClass "com/example/sieveline/sieveline/solver/BitMatrixRowPinLaw" = some m.cls := findClass_of_methodNamed Bd.named
  have hnm := (name_of_methodNamed Bd.named Bd.method).1
  have hlk : meth.locks = false := BodyLoose.notSynchronized Bd
  have X0 : Stand p l e ({ frames := 0, cells := 0, slots := 0, locals := 0 } : Room) s m #[(.int (1 : Int32)), (.int (0 : Int32)), (.int p2), (.int p3), (.int p4)] below meth c s₁ [] 0 0 := Stand.of_body Bd
  have e0 : s₁.heap = h0 := by rw [← hh, Bd.state]; rfl
  have N0 := Fr.nil n0
  have K0 : Keep h0 h0 [] := Keep.refl _ _
  show ownEnds p e below s (Q_exp_1_0 Z p2 p3 p4 h0 n0) ({ frames := 0, cells := 0, slots := 0, locals := 0 } : Room).cells ({ frames := 0, cells := 0, slots := 0, locals := 0 } : Room).slots s₁ (entryFrame m #[(.int (1 : Int32)), (.int (0 : Int32)), (.int p2), (.int p3), (.int p4)] 7)
  refine ownCast (own_ef7_exp_1_0 m p2 p3 p4) ?_
  refine ow_lconst (q := 1) X0 hx (0 : Int64) (hb hby own_d7_0) rfl rfl ?_
  refine ow_lstore (q := 3) X0 hx (L' := #[iv (1 : Int32), iv (0 : Int32), iv p2, iv p3, iv p4, .val (.long (0 : Int64)), .second]) (hb hby own_d7_1) rfl rfl ?_
  refine ow_iloadN (q := 4) X0 hx (hb hby own_d7_3) rfl rfl ?_
  refine ow_ifYes (q := 17) X0 hx (hb hby own_d7_4) (Jvm.Free.XT.i0_le_t (by decide)) (by decide) (by decide) ?_
  refine ow_iloadN (q := 18) X0 hx (hb hby own_d7_17) rfl rfl ?_
  refine ow_iconst (q := 19) X0 hx (1 : Int32) (hb hby own_d7_18) rfl rfl ?_
  refine ow_icmpYes (q := 32) X0 hx (hb hby own_d7_19) (Jvm.Free.XT.ii_le_t (by decide)) (by decide) (by decide) ?_
  refine ow_iloadN (q := 33) X0 hx (hb hby own_d7_32) rfl rfl ?_
  refine ow_iconst (q := 34) X0 hx (2 : Int32) (hb hby own_d7_33) rfl rfl ?_
  refine ow_icmpYes (q := 48) X0 hx (hb hby own_d7_34) (Jvm.Free.XT.ii_le_t (by decide)) (by decide) (by decide) ?_
  refine ow_lload (q := 50) X0 hx (hb hby own_d7_48) rfl rfl ?_
  refine ownRetJ X0 hx Bd.returns (hb hby own_d7_50) hlk (by decide) (by decide) ?_
  rw [e0]
  exact ⟨rfl, N0, rfl⟩
theorem own_ef7_exp_1_1 (m : MethodId) (p2 : Int32) (p3 : Int32) (p4 : Int32) : entryFrame m #[(.int (1 : Int32)), (.int (1 : Int32)), (.int p2), (.int p3), (.int p4)] 7 = mkF m 0 #[iv (1 : Int32), iv (1 : Int32), iv p2, iv p3, iv p4, .unset, .unset] [] := by first | (simp [entryFrame, mkF, argsToLocals, Value.category]; done) | rfl
def Q_exp_1_1 (Z : State) (p2 : Int32) (p3 : Int32) (p4 : Int32) (h0 : Heap) (n0 : Nat) (v : Option Value) (h : Heap) (L : List Loc) : Prop := v = some (.long ((0 : Int64) ||| (own_Bw (64 : Int32) (128 : Int32) p2))) ∧ Fr n0 L ∧ h = h0
set_option maxRecDepth 65536 in
set_option maxHeartbeats 40000000 in
theorem rm_exp_1_1 (l : Launch) (Z : State) (av0 : Array Value) (hw : ∀ d ∈ tables_1, d.before av0 Z = true) (ws : List Jvm.Cond) (p2 : Int32) (p3 : Int32) (p4 : Int32) (h0 : Heap) (n0 : Nat) (Z0 : n0 ≤ h0.size) :
    MetFree l (⟨"com/example/sieveline/sieveline/solver/BitMatrixRowPinLaw", "expect", "(IIIII)J"⟩ : MethodName) (head1 (Jvm.Cond.code (⟨"com/example/sieveline/sieveline/solver/BitMatrixRowPinLaw", "expect", "(IIIII)J"⟩ : MethodName) method_3_code 7 (some .long) :: ws) ({ frames := 1, cells := 0, slots := 0, locals := 16 } : Room)) (fun a U => a = #[(.int (1 : Int32)), (.int (1 : Int32)), (.int p2), (.int p3), (.int p4)] ∧ Z.Warmed39 U.vm ∧ U.heap = h0) (fun _ _ _ _ _ => True) (fun _ U o U' => ∃ v L, o = .returned v ∧ (Q_exp_1_1 Z p2 p3 p4 h0 n0) v U'.heap L ∧ FrameEnd U o U' L ({ frames := 1, cells := 0, slots := 0, locals := 16 } : Room).cells ({ frames := 1, cells := 0, slots := 0, locals := 16 } : Room).slots) := by
  refine MetFree.of_bodySF (plainFor_of_name own_pn_BitMatrixRowPinLaw) hisR ?_
  intro p e s m args below meth c s₁ Bd hml0 hP hK
  obtain ⟨rfl, hZ, hh⟩ := hP
  have hx := Bd.exec
  have hby := Bd.bytes
  have hml : c.maxLocals = 7 := hml0
  have hown : s.vm.findClass "com/example/sieveline/sieveline/solver/BitMatrixRowPinLaw" = some m.cls := findClass_of_methodNamed Bd.named
  have hnm := (name_of_methodNamed Bd.named Bd.method).1
  have hlk : meth.locks = false := BodyLoose.notSynchronized Bd
  have X0 : Stand p l e ({ frames := 1, cells := 0, slots := 0, locals := 16 } : Room) s m #[(.int (1 : Int32)), (.int (1 : Int32)), (.int p2), (.int p3), (.int p4)] below meth c s₁ [] 0 0 := Stand.of_body Bd
  have e0 : s₁.heap = h0 := by rw [← hh, Bd.state]; rfl
  have N0 := Fr.nil n0
  have K0 : Keep h0 h0 [] := Keep.refl _ _
  show ownEnds p e below s (Q_exp_1_1 Z p2 p3 p4 h0 n0) ({ frames := 1, cells := 0, slots := 0, locals := 16 } : Room).cells ({ frames := 1, cells := 0, slots := 0, locals := 16 } : Room).slots s₁ (entryFrame m #[(.int (1 : Int32)), (.int (1 : Int32)), (.int p2), (.int p3), (.int p4)] 7)
  refine ownCast (own_ef7_exp_1_1 m p2 p3 p4) ?_
  refine ow_lconst (q := 1) X0 hx (0 : Int64) (hb hby own_d7_0) rfl rfl ?_
  refine ow_lstore (q := 3) X0 hx (L' := #[iv (1 : Int32), iv (1 : Int32), iv p2, iv p3, iv p4, .val (.long (0 : Int64)), .second]) (hb hby own_d7_1) rfl rfl ?_
  refine ow_iloadN (q := 4) X0 hx (hb hby own_d7_3) rfl rfl ?_
  refine ow_ifNo (q := 7) X0 hx (hb hby own_d7_4) rfl (Jvm.Free.XT.i0_le_f (by decide)) ?_
  refine ow_lload (q := 9) X0 hx (hb hby own_d7_7) rfl rfl ?_
  refine ow_iloadN (q := 10) X0 hx (hb hby own_d7_9) rfl rfl ?_
  refine ow_iloadN (q := 11) X0 hx (hb hby own_d7_10) rfl rfl ?_
  obtain ⟨_, _, ⟨T1, L1, k1, n1⟩, -, X1, ⟨Lc1, hQ1, l1, y1, z1⟩, st1⟩ := Jvm.LawKit.callS X0 hx (y := (⟨"com/example/sieveline/sieveline/solver/BitMatrixRowPinLaw", "bit", "(II)J"⟩ : MethodName)) hown (mvT hZ (hw _ (List.mem_of_getElem? (i := 39) rfl))) (mvT hZ (hw _ (List.mem_of_getElem? (i := 40) rfl))) (mvT hZ (hw _ (List.mem_of_getElem? (i := 37) rfl))) (mvT hZ (hw _ (List.mem_of_getElem? (i := 41) rfl))) (by decide) (backOf (W := 2) (rm_bit_1 l Z av0 hw [] p2 h0 n0 (Nat.le_trans Z0 K0.1) ) hZ (hw _ (List.mem_of_getElem? (i := 41) rfl)) (hw _ (List.mem_of_getElem? (i := 37) rfl)) (by decide) (by decide)) (g := (mkF m 11 #[iv (1 : Int32), iv (1 : Int32), iv p2, iv p3, iv p4, .val (.long (0 : Int64)), .second] [(.int (1 : Int32)), (.int p2), (.long (0 : Int64))])) rfl (by rw [hml]; rfl) (argsL := [(.int p2), (.int (1 : Int32))]) (rest := [(.long (0 : Int64))]) (lenOf own_pd1 rfl) rfl (by show 2 * 0 + _ ≤ _; exact Nat.le_of_eq rfl) (hb hby own_d7_11) (fun _ _ => ⟨rfl, e0, (by decide : 0 + 0 ≤ _), (by decide : 0 + 0 ≤ _)⟩)
  dsimp only [Pt.U, Pt.locs, Pt.cells, Pt.slots] at X1 l1 y1 z1 st1 hQ1
  subst l1 y1 z1
  obtain ⟨rfl, N1q, e1⟩ := hQ1
  have N1 := Fr.app N0 N1q
  refine ownGo (T' := T1) (f' := (mkF m 14 #[iv (1 : Int32), iv (1 : Int32), iv p2, iv p3, iv p4, .val (.long (0 : Int64)), .second] [(.long (own_Bw (64 : Int32) (128 : Int32) p2)), (.long (0 : Int64))])) (st1) ?_
  refine ow_lor (q := 15) X1 hx _ (hb hby own_d7_14) rfl rfl ?_
  generalize hv_v2 : ((0 : Int64) ||| (own_Bw (64 : Int32) (128 : Int32) p2)) = v2
  refine ow_lstore (q := 17) X1 hx (L' := #[iv (1 : Int32), iv (1 : Int32), iv p2, iv p3, iv p4, .val (.long v2), .second]) (hb hby own_d7_15) rfl rfl ?_
  refine ow_iloadN (q := 18) X1 hx (hb hby own_d7_17) rfl rfl ?_
  refine ow_iconst (q := 19) X1 hx (1 : Int32) (hb hby own_d7_18) rfl rfl ?_
  refine ow_icmpYes (q := 32) X1 hx (hb hby own_d7_19) (Jvm.Free.XT.ii_le_t (by decide)) (by decide) (by decide) ?_
  refine ow_iloadN (q := 33) X1 hx (hb hby own_d7_32) rfl rfl ?_
  refine ow_iconst (q := 34) X1 hx (2 : Int32) (hb hby own_d7_33) rfl rfl ?_
  refine ow_icmpYes (q := 48) X1 hx (hb hby own_d7_34) (Jvm.Free.XT.ii_le_t (by decide)) (by decide) (by decide) ?_
  refine ow_lload (q := 50) X1 hx (hb hby own_d7_48) rfl rfl ?_
  refine ownRetJ X1 hx Bd.returns (hb hby own_d7_50) hlk (by decide) (by decide) ?_
  subst hv_v2
  rw [e1]
  refine ⟨congrArg (fun q => some (Value.long q)) ?_, N1, rfl⟩
  rfl
theorem own_ef7_exp_1_2 (m : MethodId) (p2 : Int32) (p3 : Int32) (p4 : Int32) : entryFrame m #[(.int (1 : Int32)), (.int (2 : Int32)), (.int p2), (.int p3), (.int p4)] 7 = mkF m 0 #[iv (1 : Int32), iv (2 : Int32), iv p2, iv p3, iv p4, .unset, .unset] [] := by first | (simp [entryFrame, mkF, argsToLocals, Value.category]; done) | rfl
def Q_exp_1_2 (Z : State) (p2 : Int32) (p3 : Int32) (p4 : Int32) (h0 : Heap) (n0 : Nat) (v : Option Value) (h : Heap) (L : List Loc) : Prop := v = some (.long (((0 : Int64) ||| (own_Bw (64 : Int32) (128 : Int32) p2)) ||| (own_Bw (64 : Int32) (128 : Int32) p3))) ∧ Fr n0 L ∧ h = h0
set_option maxRecDepth 65536 in
set_option maxHeartbeats 40000000 in
theorem rm_exp_1_2 (l : Launch) (Z : State) (av0 : Array Value) (hw : ∀ d ∈ tables_1, d.before av0 Z = true) (ws : List Jvm.Cond) (p2 : Int32) (p3 : Int32) (p4 : Int32) (h0 : Heap) (n0 : Nat) (Z0 : n0 ≤ h0.size) :
    MetFree l (⟨"com/example/sieveline/sieveline/solver/BitMatrixRowPinLaw", "expect", "(IIIII)J"⟩ : MethodName) (head1 (Jvm.Cond.code (⟨"com/example/sieveline/sieveline/solver/BitMatrixRowPinLaw", "expect", "(IIIII)J"⟩ : MethodName) method_3_code 7 (some .long) :: ws) ({ frames := 1, cells := 0, slots := 0, locals := 16 } : Room)) (fun a U => a = #[(.int (1 : Int32)), (.int (2 : Int32)), (.int p2), (.int p3), (.int p4)] ∧ Z.Warmed39 U.vm ∧ U.heap = h0) (fun _ _ _ _ _ => True) (fun _ U o U' => ∃ v L, o = .returned v ∧ (Q_exp_1_2 Z p2 p3 p4 h0 n0) v U'.heap L ∧ FrameEnd U o U' L ({ frames := 1, cells := 0, slots := 0, locals := 16 } : Room).cells ({ frames := 1, cells := 0, slots := 0, locals := 16 } : Room).slots) := by
  refine MetFree.of_bodySF (plainFor_of_name own_pn_BitMatrixRowPinLaw) hisR ?_
  intro p e s m args below meth c s₁ Bd hml0 hP hK
  obtain ⟨rfl, hZ, hh⟩ := hP
  have hx := Bd.exec
  have hby := Bd.bytes
  have hml : c.maxLocals = 7 := hml0
  have hown : s.vm.findClass "com/example/sieveline/sieveline/solver/BitMatrixRowPinLaw" = some m.cls := findClass_of_methodNamed Bd.named
  have hnm := (name_of_methodNamed Bd.named Bd.method).1
  have hlk : meth.locks = false := BodyLoose.notSynchronized Bd
  have X0 : Stand p l e ({ frames := 1, cells := 0, slots := 0, locals := 16 } : Room) s m #[(.int (1 : Int32)), (.int (2 : Int32)), (.int p2), (.int p3), (.int p4)] below meth c s₁ [] 0 0 := Stand.of_body Bd
  have e0 : s₁.heap = h0 := by rw [← hh, Bd.state]; rfl
  have N0 := Fr.nil n0
  have K0 : Keep h0 h0 [] := Keep.refl _ _
  show ownEnds p e below s (Q_exp_1_2 Z p2 p3 p4 h0 n0) ({ frames := 1, cells := 0, slots := 0, locals := 16 } : Room).cells ({ frames := 1, cells := 0, slots := 0, locals := 16 } : Room).slots s₁ (entryFrame m #[(.int (1 : Int32)), (.int (2 : Int32)), (.int p2), (.int p3), (.int p4)] 7)
  refine ownCast (own_ef7_exp_1_2 m p2 p3 p4) ?_
  refine ow_lconst (q := 1) X0 hx (0 : Int64) (hb hby own_d7_0) rfl rfl ?_
  refine ow_lstore (q := 3) X0 hx (L' := #[iv (1 : Int32), iv (2 : Int32), iv p2, iv p3, iv p4, .val (.long (0 : Int64)), .second]) (hb hby own_d7_1) rfl rfl ?_
  refine ow_iloadN (q := 4) X0 hx (hb hby own_d7_3) rfl rfl ?_
  refine ow_ifNo (q := 7) X0 hx (hb hby own_d7_4) rfl (Jvm.Free.XT.i0_le_f (by decide)) ?_
  refine ow_lload (q := 9) X0 hx (hb hby own_d7_7) rfl rfl ?_
  refine ow_iloadN (q := 10) X0 hx (hb hby own_d7_9) rfl rfl ?_
  refine ow_iloadN (q := 11) X0 hx (hb hby own_d7_10) rfl rfl ?_
  obtain ⟨_, _, ⟨T1, L1, k1, n1⟩, -, X1, ⟨Lc1, hQ1, l1, y1, z1⟩, st1⟩ := Jvm.LawKit.callS X0 hx (y := (⟨"com/example/sieveline/sieveline/solver/BitMatrixRowPinLaw", "bit", "(II)J"⟩ : MethodName)) hown (mvT hZ (hw _ (List.mem_of_getElem? (i := 39) rfl))) (mvT hZ (hw _ (List.mem_of_getElem? (i := 40) rfl))) (mvT hZ (hw _ (List.mem_of_getElem? (i := 37) rfl))) (mvT hZ (hw _ (List.mem_of_getElem? (i := 41) rfl))) (by decide) (backOf (W := 2) (rm_bit_1 l Z av0 hw [] p2 h0 n0 (Nat.le_trans Z0 K0.1) ) hZ (hw _ (List.mem_of_getElem? (i := 41) rfl)) (hw _ (List.mem_of_getElem? (i := 37) rfl)) (by decide) (by decide)) (g := (mkF m 11 #[iv (1 : Int32), iv (2 : Int32), iv p2, iv p3, iv p4, .val (.long (0 : Int64)), .second] [(.int (1 : Int32)), (.int p2), (.long (0 : Int64))])) rfl (by rw [hml]; rfl) (argsL := [(.int p2), (.int (1 : Int32))]) (rest := [(.long (0 : Int64))]) (lenOf own_pd1 rfl) rfl (by show 2 * 0 + _ ≤ _; exact Nat.le_of_eq rfl) (hb hby own_d7_11) (fun _ _ => ⟨rfl, e0, (by decide : 0 + 0 ≤ _), (by decide : 0 + 0 ≤ _)⟩)
  dsimp only [Pt.U, Pt.locs, Pt.cells, Pt.slots] at X1 l1 y1 z1 st1 hQ1
  subst l1 y1 z1
  obtain ⟨rfl, N1q, e1⟩ := hQ1
  have N1 := Fr.app N0 N1q
  refine ownGo (T' := T1) (f' := (mkF m 14 #[iv (1 : Int32), iv (2 : Int32), iv p2, iv p3, iv p4, .val (.long (0 : Int64)), .second] [(.long (own_Bw (64 : Int32) (128 : Int32) p2)), (.long (0 : Int64))])) (st1) ?_
  refine ow_lor (q := 15) X1 hx _ (hb hby own_d7_14) rfl rfl ?_
  generalize hv_v2 : ((0 : Int64) ||| (own_Bw (64 : Int32) (128 : Int32) p2)) = v2
  refine ow_lstore (q := 17) X1 hx (L' := #[iv (1 : Int32), iv (2 : Int32), iv p2, iv p3, iv p4, .val (.long v2), .second]) (hb hby own_d7_15) rfl rfl ?_
  refine ow_iloadN (q := 18) X1 hx (hb hby own_d7_17) rfl rfl ?_
  refine ow_iconst (q := 19) X1 hx (1 : Int32) (hb hby own_d7_18) rfl rfl ?_
  refine ow_icmpNo (q := 22) X1 hx (hb hby own_d7_19) rfl (Jvm.Free.XT.ii_le_f (by decide)) ?_
  refine ow_lload (q := 24) X1 hx (hb hby own_d7_22) rfl rfl ?_
  refine ow_iloadN (q := 25) X1 hx (hb hby own_d7_24) rfl rfl ?_
  refine ow_iloadN (q := 26) X1 hx (hb hby own_d7_25) rfl rfl ?_
  obtain ⟨_, _, ⟨T3, L3, k3, n3⟩, -, X3, ⟨Lc3, hQ3, l3, y3, z3⟩, st3⟩ := Jvm.LawKit.callS X1 hx (y := (⟨"com/example/sieveline/sieveline/solver/BitMatrixRowPinLaw", "bit", "(II)J"⟩ : MethodName)) hown (mvT hZ (hw _ (List.mem_of_getElem? (i := 39) rfl))) (mvT hZ (hw _ (List.mem_of_getElem? (i := 40) rfl))) (mvT hZ (hw _ (List.mem_of_getElem? (i := 37) rfl))) (mvT hZ (hw _ (List.mem_of_getElem? (i := 41) rfl))) (by decide) (backOf (W := 2) (rm_bit_1 l Z av0 hw [] p3 h0 n0 (Nat.le_trans Z0 K0.1) ) hZ (hw _ (List.mem_of_getElem? (i := 41) rfl)) (hw _ (List.mem_of_getElem? (i := 37) rfl)) (by decide) (by decide)) (g := (mkF m 26 #[iv (1 : Int32), iv (2 : Int32), iv p2, iv p3, iv p4, .val (.long v2), .second] [(.int (1 : Int32)), (.int p3), (.long v2)])) rfl (by rw [hml]; rfl) (argsL := [(.int p3), (.int (1 : Int32))]) (rest := [(.long v2)]) (lenOf own_pd1 rfl) rfl (by show 2 * 0 + _ ≤ _; exact Nat.le_of_eq rfl) (hb hby own_d7_26) (fun _ _ => ⟨rfl, e1, (by decide : 0 + 0 ≤ _), (by decide : 0 + 0 ≤ _)⟩)
  dsimp only [Pt.U, Pt.locs, Pt.cells, Pt.slots] at X3 l3 y3 z3 st3 hQ3
  subst l3 y3 z3
  obtain ⟨rfl, N3q, e3⟩ := hQ3
  have N3 := Fr.app N1 N3q
  refine ownGo (T' := T3) (f' := (mkF m 29 #[iv (1 : Int32), iv (2 : Int32), iv p2, iv p3, iv p4, .val (.long v2), .second] [(.long (own_Bw (64 : Int32) (128 : Int32) p3)), (.long v2)])) (st3) ?_
  refine ow_lor (q := 30) X3 hx _ (hb hby own_d7_29) rfl rfl ?_
  generalize hv_v4 : (v2 ||| (own_Bw (64 : Int32) (128 : Int32) p3)) = v4
  refine ow_lstore (q := 32) X3 hx (L' := #[iv (1 : Int32), iv (2 : Int32), iv p2, iv p3, iv p4, .val (.long v4), .second]) (hb hby own_d7_30) rfl rfl ?_
  refine ow_iloadN (q := 33) X3 hx (hb hby own_d7_32) rfl rfl ?_
  refine ow_iconst (q := 34) X3 hx (2 : Int32) (hb hby own_d7_33) rfl rfl ?_
  refine ow_icmpYes (q := 48) X3 hx (hb hby own_d7_34) (Jvm.Free.XT.ii_le_t (by decide)) (by decide) (by decide) ?_
  refine ow_lload (q := 50) X3 hx (hb hby own_d7_48) rfl rfl ?_
  refine ownRetJ X3 hx Bd.returns (hb hby own_d7_50) hlk (by decide) (by decide) ?_
  subst hv_v4 hv_v2
  rw [e3]
  refine ⟨congrArg (fun q => some (Value.long q)) ?_, N3, rfl⟩
  rfl
theorem own_ef7_exp_1_3 (m : MethodId) (p2 : Int32) (p3 : Int32) (p4 : Int32) : entryFrame m #[(.int (1 : Int32)), (.int (3 : Int32)), (.int p2), (.int p3), (.int p4)] 7 = mkF m 0 #[iv (1 : Int32), iv (3 : Int32), iv p2, iv p3, iv p4, .unset, .unset] [] := by first | (simp [entryFrame, mkF, argsToLocals, Value.category]; done) | rfl
def Q_exp_1_3 (Z : State) (p2 : Int32) (p3 : Int32) (p4 : Int32) (h0 : Heap) (n0 : Nat) (v : Option Value) (h : Heap) (L : List Loc) : Prop := v = some (.long ((((0 : Int64) ||| (own_Bw (64 : Int32) (128 : Int32) p2)) ||| (own_Bw (64 : Int32) (128 : Int32) p3)) ||| (own_Bw (64 : Int32) (128 : Int32) p4))) ∧ Fr n0 L ∧ h = h0
set_option maxRecDepth 65536 in
set_option maxHeartbeats 40000000 in
theorem rm_exp_1_3 (l : Launch) (Z : State) (av0 : Array Value) (hw : ∀ d ∈ tables_1, d.before av0 Z = true) (ws : List Jvm.Cond) (p2 : Int32) (p3 : Int32) (p4 : Int32) (h0 : Heap) (n0 : Nat) (Z0 : n0 ≤ h0.size) :
    MetFree l (⟨"com/example/sieveline/sieveline/solver/BitMatrixRowPinLaw", "expect", "(IIIII)J"⟩ : MethodName) (head1 (Jvm.Cond.code (⟨"com/example/sieveline/sieveline/solver/BitMatrixRowPinLaw", "expect", "(IIIII)J"⟩ : MethodName) method_3_code 7 (some .long) :: ws) ({ frames := 1, cells := 0, slots := 0, locals := 16 } : Room)) (fun a U => a = #[(.int (1 : Int32)), (.int (3 : Int32)), (.int p2), (.int p3), (.int p4)] ∧ Z.Warmed39 U.vm ∧ U.heap = h0) (fun _ _ _ _ _ => True) (fun _ U o U' => ∃ v L, o = .returned v ∧ (Q_exp_1_3 Z p2 p3 p4 h0 n0) v U'.heap L ∧ FrameEnd U o U' L ({ frames := 1, cells := 0, slots := 0, locals := 16 } : Room).cells ({ frames := 1, cells := 0, slots := 0, locals := 16 } : Room).slots) := by
  refine MetFree.of_bodySF (plainFor_of_name own_pn_BitMatrixRowPinLaw) hisR ?_
  intro p e s m args below meth c s₁ Bd hml0 hP hK
  obtain ⟨rfl, hZ, hh⟩ := hP
  have hx := Bd.exec
  have hby := Bd.bytes
  have hml : c.maxLocals = 7 := hml0
  have hown : s.vm.findClass "com/example/sieveline/sieveline/solver/BitMatrixRowPinLaw" = some m.cls := findClass_of_methodNamed Bd.named
  have hnm := (name_of_methodNamed Bd.named Bd.method).1
  have hlk : meth.locks = false := BodyLoose.notSynchronized Bd
  have X0 : Stand p l e ({ frames := 1, cells := 0, slots := 0, locals := 16 } : Room) s m #[(.int (1 : Int32)), (.int (3 : Int32)), (.int p2), (.int p3), (.int p4)] below meth c s₁ [] 0 0 := Stand.of_body Bd
  have e0 : s₁.heap = h0 := by rw [← hh, Bd.state]; rfl
  have N0 := Fr.nil n0
  have K0 : Keep h0 h0 [] := Keep.refl _ _
  show ownEnds p e below s (Q_exp_1_3 Z p2 p3 p4 h0 n0) ({ frames := 1, cells := 0, slots := 0, locals := 16 } : Room).cells ({ frames := 1, cells := 0, slots := 0, locals := 16 } : Room).slots s₁ (entryFrame m #[(.int (1 : Int32)), (.int (3 : Int32)), (.int p2), (.int p3), (.int p4)] 7)
  refine ownCast (own_ef7_exp_1_3 m p2 p3 p4) ?_
  refine ow_lconst (q := 1) X0 hx (0 : Int64) (hb hby own_d7_0) rfl rfl ?_
  refine ow_lstore (q := 3) X0 hx (L' := #[iv (1 : Int32), iv (3 : Int32), iv p2, iv p3, iv p4, .val (.long (0 : Int64)), .second]) (hb hby own_d7_1) rfl rfl ?_
  refine ow_iloadN (q := 4) X0 hx (hb hby own_d7_3) rfl rfl ?_
  refine ow_ifNo (q := 7) X0 hx (hb hby own_d7_4) rfl (Jvm.Free.XT.i0_le_f (by decide)) ?_
  refine ow_lload (q := 9) X0 hx (hb hby own_d7_7) rfl rfl ?_
  refine ow_iloadN (q := 10) X0 hx (hb hby own_d7_9) rfl rfl ?_
  refine ow_iloadN (q := 11) X0 hx (hb hby own_d7_10) rfl rfl ?_
  obtain ⟨_, _, ⟨T1, L1, k1, n1⟩, -, X1, ⟨Lc1, hQ1, l1, y1, z1⟩, st1⟩ := Jvm.LawKit.callS X0 hx (y := (⟨"com/example/sieveline/sieveline/solver/BitMatrixRowPinLaw", "bit", "(II)J"⟩ : MethodName)) hown (mvT hZ (hw _ (List.mem_of_getElem? (i := 39) rfl))) (mvT hZ (hw _ (List.mem_of_getElem? (i := 40) rfl))) (mvT hZ (hw _ (List.mem_of_getElem? (i := 37) rfl))) (mvT hZ (hw _ (List.mem_of_getElem? (i := 41) rfl))) (by decide) (backOf (W := 2) (rm_bit_1 l Z av0 hw [] p2 h0 n0 (Nat.le_trans Z0 K0.1) ) hZ (hw _ (List.mem_of_getElem? (i := 41) rfl)) (hw _ (List.mem_of_getElem? (i := 37) rfl)) (by decide) (by decide)) (g := (mkF m 11 #[iv (1 : Int32), iv (3 : Int32), iv p2, iv p3, iv p4, .val (.long (0 : Int64)), .second] [(.int (1 : Int32)), (.int p2), (.long (0 : Int64))])) rfl (by rw [hml]; rfl) (argsL := [(.int p2), (.int (1 : Int32))]) (rest := [(.long (0 : Int64))]) (lenOf own_pd1 rfl) rfl (by show 2 * 0 + _ ≤ _; exact Nat.le_of_eq rfl) (hb hby own_d7_11) (fun _ _ => ⟨rfl, e0, (by decide : 0 + 0 ≤ _), (by decide : 0 + 0 ≤ _)⟩)
  dsimp only [Pt.U, Pt.locs, Pt.cells, Pt.slots] at X1 l1 y1 z1 st1 hQ1
  subst l1 y1 z1
  obtain ⟨rfl, N1q, e1⟩ := hQ1
  have N1 := Fr.app N0 N1q
  refine ownGo (T' := T1) (f' := (mkF m 14 #[iv (1 : Int32), iv (3 : Int32), iv p2, iv p3, iv p4, .val (.long (0 : Int64)), .second] [(.long (own_Bw (64 : Int32) (128 : Int32) p2)), (.long (0 : Int64))])) (st1) ?_
  refine ow_lor (q := 15) X1 hx _ (hb hby own_d7_14) rfl rfl ?_
  generalize hv_v2 : ((0 : Int64) ||| (own_Bw (64 : Int32) (128 : Int32) p2)) = v2
  refine ow_lstore (q := 17) X1 hx (L' := #[iv (1 : Int32), iv (3 : Int32), iv p2, iv p3, iv p4, .val (.long v2), .second]) (hb hby own_d7_15) rfl rfl ?_
  refine ow_iloadN (q := 18) X1 hx (hb hby own_d7_17) rfl rfl ?_
  refine ow_iconst (q := 19) X1 hx (1 : Int32) (hb hby own_d7_18) rfl rfl ?_
  refine ow_icmpNo (q := 22) X1 hx (hb hby own_d7_19) rfl (Jvm.Free.XT.ii_le_f (by decide)) ?_
  refine ow_lload (q := 24) X1 hx (hb hby own_d7_22) rfl rfl ?_
  refine ow_iloadN (q := 25) X1 hx (hb hby own_d7_24) rfl rfl ?_
  refine ow_iloadN (q := 26) X1 hx (hb hby own_d7_25) rfl rfl ?_
  obtain ⟨_, _, ⟨T3, L3, k3, n3⟩, -, X3, ⟨Lc3, hQ3, l3, y3, z3⟩, st3⟩ := Jvm.LawKit.callS X1 hx (y := (⟨"com/example/sieveline/sieveline/solver/BitMatrixRowPinLaw", "bit", "(II)J"⟩ : MethodName)) hown (mvT hZ (hw _ (List.mem_of_getElem? (i := 39) rfl))) (mvT hZ (hw _ (List.mem_of_getElem? (i := 40) rfl))) (mvT hZ (hw _ (List.mem_of_getElem? (i := 37) rfl))) (mvT hZ (hw _ (List.mem_of_getElem? (i := 41) rfl))) (by decide) (backOf (W := 2) (rm_bit_1 l Z av0 hw [] p3 h0 n0 (Nat.le_trans Z0 K0.1) ) hZ (hw _ (List.mem_of_getElem? (i := 41) rfl)) (hw _ (List.mem_of_getElem? (i := 37) rfl)) (by decide) (by decide)) (g := (mkF m 26 #[iv (1 : Int32), iv (3 : Int32), iv p2, iv p3, iv p4, .val (.long v2), .second] [(.int (1 : Int32)), (.int p3), (.long v2)])) rfl (by rw [hml]; rfl) (argsL := [(.int p3), (.int (1 : Int32))]) (rest := [(.long v2)]) (lenOf own_pd1 rfl) rfl (by show 2 * 0 + _ ≤ _; exact Nat.le_of_eq rfl) (hb hby own_d7_26) (fun _ _ => ⟨rfl, e1, (by decide : 0 + 0 ≤ _), (by decide : 0 + 0 ≤ _)⟩)
  dsimp only [Pt.U, Pt.locs, Pt.cells, Pt.slots] at X3 l3 y3 z3 st3 hQ3
  subst l3 y3 z3
  obtain ⟨rfl, N3q, e3⟩ := hQ3
  have N3 := Fr.app N1 N3q
  refine ownGo (T' := T3) (f' := (mkF m 29 #[iv (1 : Int32), iv (3 : Int32), iv p2, iv p3, iv p4, .val (.long v2), .second] [(.long (own_Bw (64 : Int32) (128 : Int32) p3)), (.long v2)])) (st3) ?_
  refine ow_lor (q := 30) X3 hx _ (hb hby own_d7_29) rfl rfl ?_
  generalize hv_v4 : (v2 ||| (own_Bw (64 : Int32) (128 : Int32) p3)) = v4
  refine ow_lstore (q := 32) X3 hx (L' := #[iv (1 : Int32), iv (3 : Int32), iv p2, iv p3, iv p4, .val (.long v4), .second]) (hb hby own_d7_30) rfl rfl ?_
  refine ow_iloadN (q := 33) X3 hx (hb hby own_d7_32) rfl rfl ?_
  refine ow_iconst (q := 34) X3 hx (2 : Int32) (hb hby own_d7_33) rfl rfl ?_
  refine ow_icmpNo (q := 37) X3 hx (hb hby own_d7_34) rfl (Jvm.Free.XT.ii_le_f (by decide)) ?_
  refine ow_lload (q := 39) X3 hx (hb hby own_d7_37) rfl rfl ?_
  refine ow_iload (q := 41) X3 hx (hb hby own_d7_39) rfl rfl ?_
  refine ow_iloadN (q := 42) X3 hx (hb hby own_d7_41) rfl rfl ?_
  obtain ⟨_, _, ⟨T5, L5, k5, n5⟩, -, X5, ⟨Lc5, hQ5, l5, y5, z5⟩, st5⟩ := Jvm.LawKit.callS X3 hx (y := (⟨"com/example/sieveline/sieveline/solver/BitMatrixRowPinLaw", "bit", "(II)J"⟩ : MethodName)) hown (mvT hZ (hw _ (List.mem_of_getElem? (i := 39) rfl))) (mvT hZ (hw _ (List.mem_of_getElem? (i := 40) rfl))) (mvT hZ (hw _ (List.mem_of_getElem? (i := 37) rfl))) (mvT hZ (hw _ (List.mem_of_getElem? (i := 41) rfl))) (by decide) (backOf (W := 2) (rm_bit_1 l Z av0 hw [] p4 h0 n0 (Nat.le_trans Z0 K0.1) ) hZ (hw _ (List.mem_of_getElem? (i := 41) rfl)) (hw _ (List.mem_of_getElem? (i := 37) rfl)) (by decide) (by decide)) (g := (mkF m 42 #[iv (1 : Int32), iv (3 : Int32), iv p2, iv p3, iv p4, .val (.long v4), .second] [(.int (1 : Int32)), (.int p4), (.long v4)])) rfl (by rw [hml]; rfl) (argsL := [(.int p4), (.int (1 : Int32))]) (rest := [(.long v4)]) (lenOf own_pd1 rfl) rfl (by show 2 * 0 + _ ≤ _; exact Nat.le_of_eq rfl) (hb hby own_d7_42) (fun _ _ => ⟨rfl, e3, (by decide : 0 + 0 ≤ _), (by decide : 0 + 0 ≤ _)⟩)
  dsimp only [Pt.U, Pt.locs, Pt.cells, Pt.slots] at X5 l5 y5 z5 st5 hQ5
  subst l5 y5 z5
  obtain ⟨rfl, N5q, e5⟩ := hQ5
  have N5 := Fr.app N3 N5q
  refine ownGo (T' := T5) (f' := (mkF m 45 #[iv (1 : Int32), iv (3 : Int32), iv p2, iv p3, iv p4, .val (.long v4), .second] [(.long (own_Bw (64 : Int32) (128 : Int32) p4)), (.long v4)])) (st5) ?_
  refine ow_lor (q := 46) X5 hx _ (hb hby own_d7_45) rfl rfl ?_
  generalize hv_v6 : (v4 ||| (own_Bw (64 : Int32) (128 : Int32) p4)) = v6
  refine ow_lstore (q := 48) X5 hx (L' := #[iv (1 : Int32), iv (3 : Int32), iv p2, iv p3, iv p4, .val (.long v6), .second]) (hb hby own_d7_46) rfl rfl ?_
  refine ow_lload (q := 50) X5 hx (hb hby own_d7_48) rfl rfl ?_
  refine ownRetJ X5 hx Bd.returns (hb hby own_d7_50) hlk (by decide) (by decide) ?_
  subst hv_v6 hv_v4 hv_v2
  rw [e5]
  refine ⟨congrArg (fun q => some (Value.long q)) ?_, N5, rfl⟩
  rfl
theorem own_ef7_exp_2_0 (m : MethodId) (p2 : Int32) (p3 : Int32) (p4 : Int32) : entryFrame m #[(.int (2 : Int32)), (.int (0 : Int32)), (.int p2), (.int p3), (.int p4)] 7 = mkF m 0 #[iv (2 : Int32), iv (0 : Int32), iv p2, iv p3, iv p4, .unset, .unset] [] := by first | (simp [entryFrame, mkF, argsToLocals, Value.category]; done) | rfl
def Q_exp_2_0 (Z : State) (p2 : Int32) (p3 : Int32) (p4 : Int32) (h0 : Heap) (n0 : Nat) (v : Option Value) (h : Heap) (L : List Loc) : Prop := v = some (.long (0 : Int64)) ∧ Fr n0 L ∧ h = h0
set_option maxRecDepth 65536 in
set_option maxHeartbeats 40000000 in
theorem rm_exp_2_0 (l : Launch) (Z : State) (av0 : Array Value) (hw : ∀ d ∈ tables_1, d.before av0 Z = true) (ws : List Jvm.Cond) (p2 : Int32) (p3 : Int32) (p4 : Int32) (h0 : Heap) (n0 : Nat) (Z0 : n0 ≤ h0.size) :
    MetFree l (⟨"com/example/sieveline/sieveline/solver/BitMatrixRowPinLaw", "expect", "(IIIII)J"⟩ : MethodName) (head1 (Jvm.Cond.code (⟨"com/example/sieveline/sieveline/solver/BitMatrixRowPinLaw", "expect", "(IIIII)J"⟩ : MethodName) method_3_code 7 (some .long) :: ws) ({ frames := 0, cells := 0, slots := 0, locals := 0 } : Room)) (fun a U => a = #[(.int (2 : Int32)), (.int (0 : Int32)), (.int p2), (.int p3), (.int p4)] ∧ Z.Warmed39 U.vm ∧ U.heap = h0) (fun _ _ _ _ _ => True) (fun _ U o U' => ∃ v L, o = .returned v ∧ (Q_exp_2_0 Z p2 p3 p4 h0 n0) v U'.heap L ∧ FrameEnd U o U' L ({ frames := 0, cells := 0, slots := 0, locals := 0 } : Room).cells ({ frames := 0, cells := 0, slots := 0, locals := 0 } : Room).slots) := by
  refine MetFree.of_bodySF (plainFor_of_name own_pn_BitMatrixRowPinLaw) hisR ?_
  intro p e s m args below meth c s₁ Bd hml0 hP hK
  obtain ⟨rfl, hZ, hh⟩ := hP
  have hx := Bd.exec
  have hby := Bd.bytes
  have hml : c.maxLocals = 7 := hml0
  have hown : s.vm.findClass "com/example/sieveline/sieveline/solver/BitMatrixRowPinLaw" = some m.cls := findClass_of_methodNamed Bd.named
  have hnm := (name_of_methodNamed Bd.named Bd.method).1
  have hlk : meth.locks = false := BodyLoose.notSynchronized Bd
  have X0 : Stand p l e ({ frames := 0, cells := 0, slots := 0, locals := 0 } : Room) s m #[(.int (2 : Int32)), (.int (0 : Int32)), (.int p2), (.int p3), (.int p4)] below meth c s₁ [] 0 0 := Stand.of_body Bd
  have e0 : s₁.heap = h0 := by rw [← hh, Bd.state]; rfl
  have N0 := Fr.nil n0
  have K0 : Keep h0 h0 [] := Keep.refl _ _
  show ownEnds p e below s (Q_exp_2_0 Z p2 p3 p4 h0 n0) ({ frames := 0, cells := 0, slots := 0, locals := 0 } : Room).cells ({ frames := 0, cells := 0, slots := 0, locals := 0 } : Room).slots s₁ (entryFrame m #[(.int (2 : Int32)), (.int (0 : Int32)), (.int p2), (.int p3), (.int p4)] 7)
  refine ownCast (own_ef7_exp_2_0 m p2 p3 p4) ?_
  refine ow_lconst (q := 1) X0 hx (0 : Int64) (hb hby own_d7_0) rfl rfl ?_
  refine ow_lstore (q := 3) X0 hx (L' := #[iv (2 : Int32), iv (0 : Int32), iv p2, iv p3, iv p4, .val (.long (0 : Int64)), .second]) (hb hby own_d7_1) rfl rfl ?_
  refine ow_iloadN (q := 4) X0 hx (hb hby own_d7_3) rfl rfl ?_
  refine ow_ifYes (q := 17) X0 hx (hb hby own_d7_4) (Jvm.Free.XT.i0_le_t (by decide)) (by decide) (by decide) ?_
  refine ow_iloadN (q := 18) X0 hx (hb hby own_d7_17) rfl rfl ?_
  refine ow_iconst (q := 19) X0 hx (1 : Int32) (hb hby own_d7_18) rfl rfl ?_
  refine ow_icmpYes (q := 32) X0 hx (hb hby own_d7_19) (Jvm.Free.XT.ii_le_t (by decide)) (by decide) (by decide) ?_
  refine ow_iloadN (q := 33) X0 hx (hb hby own_d7_32) rfl rfl ?_
  refine ow_iconst (q := 34) X0 hx (2 : Int32) (hb hby own_d7_33) rfl rfl ?_
  refine ow_icmpYes (q := 48) X0 hx (hb hby own_d7_34) (Jvm.Free.XT.ii_le_t (by decide)) (by decide) (by decide) ?_
  refine ow_lload (q := 50) X0 hx (hb hby own_d7_48) rfl rfl ?_
  refine ownRetJ X0 hx Bd.returns (hb hby own_d7_50) hlk (by decide) (by decide) ?_
  rw [e0]
  exact ⟨rfl, N0, rfl⟩
theorem own_ef7_exp_2_1 (m : MethodId) (p2 : Int32) (p3 : Int32) (p4 : Int32) : entryFrame m #[(.int (2 : Int32)), (.int (1 : Int32)), (.int p2), (.int p3), (.int p4)] 7 = mkF m 0 #[iv (2 : Int32), iv (1 : Int32), iv p2, iv p3, iv p4, .unset, .unset] [] := by first | (simp [entryFrame, mkF, argsToLocals, Value.category]; done) | rfl
def Q_exp_2_1 (Z : State) (p2 : Int32) (p3 : Int32) (p4 : Int32) (h0 : Heap) (n0 : Nat) (v : Option Value) (h : Heap) (L : List Loc) : Prop := v = some (.long ((0 : Int64) ||| (own_Bw (128 : Int32) (192 : Int32) p2))) ∧ Fr n0 L ∧ h = h0
set_option maxRecDepth 65536 in
set_option maxHeartbeats 40000000 in
theorem rm_exp_2_1 (l : Launch) (Z : State) (av0 : Array Value) (hw : ∀ d ∈ tables_1, d.before av0 Z = true) (ws : List Jvm.Cond) (p2 : Int32) (p3 : Int32) (p4 : Int32) (h0 : Heap) (n0 : Nat) (Z0 : n0 ≤ h0.size) :
    MetFree l (⟨"com/example/sieveline/sieveline/solver/BitMatrixRowPinLaw", "expect", "(IIIII)J"⟩ : MethodName) (head1 (Jvm.Cond.code (⟨"com/example/sieveline/sieveline/solver/BitMatrixRowPinLaw", "expect", "(IIIII)J"⟩ : MethodName) method_3_code 7 (some .long) :: ws) ({ frames := 1, cells := 0, slots := 0, locals := 16 } : Room)) (fun a U => a = #[(.int (2 : Int32)), (.int (1 : Int32)), (.int p2), (.int p3), (.int p4)] ∧ Z.Warmed39 U.vm ∧ U.heap = h0) (fun _ _ _ _ _ => True) (fun _ U o U' => ∃ v L, o = .returned v ∧ (Q_exp_2_1 Z p2 p3 p4 h0 n0) v U'.heap L ∧ FrameEnd U o U' L ({ frames := 1, cells := 0, slots := 0, locals := 16 } : Room).cells ({ frames := 1, cells := 0, slots := 0, locals := 16 } : Room).slots) := by
  refine MetFree.of_bodySF (plainFor_of_name own_pn_BitMatrixRowPinLaw) hisR ?_
  intro p e s m args below meth c s₁ Bd hml0 hP hK
  obtain ⟨rfl, hZ, hh⟩ := hP
  have hx := Bd.exec
  have hby := Bd.bytes
  have hml : c.maxLocals = 7 := hml0
  have hown : s.vm.findClass "com/example/sieveline/sieveline/solver/BitMatrixRowPinLaw" = some m.cls := findClass_of_methodNamed Bd.named
  have hnm := (name_of_methodNamed Bd.named Bd.method).1
  have hlk : meth.locks = false := BodyLoose.notSynchronized Bd
  have X0 : Stand p l e ({ frames := 1, cells := 0, slots := 0, locals := 16 } : Room) s m #[(.int (2 : Int32)), (.int (1 : Int32)), (.int p2), (.int p3), (.int p4)] below meth c s₁ [] 0 0 := Stand.of_body Bd
  have e0 : s₁.heap = h0 := by rw [← hh, Bd.state]; rfl
  have N0 := Fr.nil n0
  have K0 : Keep h0 h0 [] := Keep.refl _ _
  show ownEnds p e below s (Q_exp_2_1 Z p2 p3 p4 h0 n0) ({ frames := 1, cells := 0, slots := 0, locals := 16 } : Room).cells ({ frames := 1, cells := 0, slots := 0, locals := 16 } : Room).slots s₁ (entryFrame m #[(.int (2 : Int32)), (.int (1 : Int32)), (.int p2), (.int p3), (.int p4)] 7)
  refine ownCast (own_ef7_exp_2_1 m p2 p3 p4) ?_
  refine ow_lconst (q := 1) X0 hx (0 : Int64) (hb hby own_d7_0) rfl rfl ?_
  refine ow_lstore (q := 3) X0 hx (L' := #[iv (2 : Int32), iv (1 : Int32), iv p2, iv p3, iv p4, .val (.long (0 : Int64)), .second]) (hb hby own_d7_1) rfl rfl ?_
  refine ow_iloadN (q := 4) X0 hx (hb hby own_d7_3) rfl rfl ?_
  refine ow_ifNo (q := 7) X0 hx (hb hby own_d7_4) rfl (Jvm.Free.XT.i0_le_f (by decide)) ?_
  refine ow_lload (q := 9) X0 hx (hb hby own_d7_7) rfl rfl ?_
  refine ow_iloadN (q := 10) X0 hx (hb hby own_d7_9) rfl rfl ?_
  refine ow_iloadN (q := 11) X0 hx (hb hby own_d7_10) rfl rfl ?_
  obtain ⟨_, _, ⟨T1, L1, k1, n1⟩, -, X1, ⟨Lc1, hQ1, l1, y1, z1⟩, st1⟩ := Jvm.LawKit.callS X0 hx (y := (⟨"com/example/sieveline/sieveline/solver/BitMatrixRowPinLaw", "bit", "(II)J"⟩ : MethodName)) hown (mvT hZ (hw _ (List.mem_of_getElem? (i := 39) rfl))) (mvT hZ (hw _ (List.mem_of_getElem? (i := 40) rfl))) (mvT hZ (hw _ (List.mem_of_getElem? (i := 37) rfl))) (mvT hZ (hw _ (List.mem_of_getElem? (i := 41) rfl))) (by decide) (backOf (W := 2) (rm_bit_2 l Z av0 hw [] p2 h0 n0 (Nat.le_trans Z0 K0.1) ) hZ (hw _ (List.mem_of_getElem? (i := 41) rfl)) (hw _ (List.mem_of_getElem? (i := 37) rfl)) (by decide) (by decide)) (g := (mkF m 11 #[iv (2 : Int32), iv (1 : Int32), iv p2, iv p3, iv p4, .val (.long (0 : Int64)), .second] [(.int (2 : Int32)), (.int p2), (.long (0 : Int64))])) rfl (by rw [hml]; rfl) (argsL := [(.int p2), (.int (2 : Int32))]) (rest := [(.long (0 : Int64))]) (lenOf own_pd1 rfl) rfl (by show 2 * 0 + _ ≤ _; exact Nat.le_of_eq rfl) (hb hby own_d7_11) (fun _ _ => ⟨rfl, e0, (by decide : 0 + 0 ≤ _), (by decide : 0 + 0 ≤ _)⟩)
  dsimp only [Pt.U, Pt.locs, Pt.cells, Pt.slots] at X1 l1 y1 z1 st1 hQ1
  subst l1 y1 z1
  obtain ⟨rfl, N1q, e1⟩ := hQ1
  have N1 := Fr.app N0 N1q
  refine ownGo (T' := T1) (f' := (mkF m 14 #[iv (2 : Int32), iv (1 : Int32), iv p2, iv p3, iv p4, .val (.long (0 : Int64)), .second] [(.long (own_Bw (128 : Int32) (192 : Int32) p2)), (.long (0 : Int64))])) (st1) ?_
  refine ow_lor (q := 15) X1 hx _ (hb hby own_d7_14) rfl rfl ?_
  generalize hv_v2 : ((0 : Int64) ||| (own_Bw (128 : Int32) (192 : Int32) p2)) = v2
  refine ow_lstore (q := 17) X1 hx (L' := #[iv (2 : Int32), iv (1 : Int32), iv p2, iv p3, iv p4, .val (.long v2), .second]) (hb hby own_d7_15) rfl rfl ?_
  refine ow_iloadN (q := 18) X1 hx (hb hby own_d7_17) rfl rfl ?_
  refine ow_iconst (q := 19) X1 hx (1 : Int32) (hb hby own_d7_18) rfl rfl ?_
  refine ow_icmpYes (q := 32) X1 hx (hb hby own_d7_19) (Jvm.Free.XT.ii_le_t (by decide)) (by decide) (by decide) ?_
  refine ow_iloadN (q := 33) X1 hx (hb hby own_d7_32) rfl rfl ?_
  refine ow_iconst (q := 34) X1 hx (2 : Int32) (hb hby own_d7_33) rfl rfl ?_
  refine ow_icmpYes (q := 48) X1 hx (hb hby own_d7_34) (Jvm.Free.XT.ii_le_t (by decide)) (by decide) (by decide) ?_
  refine ow_lload (q := 50) X1 hx (hb hby own_d7_48) rfl rfl ?_
  refine ownRetJ X1 hx Bd.returns (hb hby own_d7_50) hlk (by decide) (by decide) ?_
  subst hv_v2
  rw [e1]
  refine ⟨congrArg (fun q => some (Value.long q)) ?_, N1, rfl⟩
  rfl
theorem own_ef7_exp_2_2 (m : MethodId) (p2 : Int32) (p3 : Int32) (p4 : Int32) : entryFrame m #[(.int (2 : Int32)), (.int (2 : Int32)), (.int p2), (.int p3), (.int p4)] 7 = mkF m 0 #[iv (2 : Int32), iv (2 : Int32), iv p2, iv p3, iv p4, .unset, .unset] [] := by first | (simp [entryFrame, mkF, argsToLocals, Value.category]; done) | rfl
def Q_exp_2_2 (Z : State) (p2 : Int32) (p3 : Int32) (p4 : Int32) (h0 : Heap) (n0 : Nat) (v : Option Value) (h : Heap) (L : List Loc) : Prop := v = some (.long (((0 : Int64) ||| (own_Bw (128 : Int32) (192 : Int32) p2)) ||| (own_Bw (128 : Int32) (192 : Int32) p3))) ∧ Fr n0 L ∧ h = h0
set_option maxRecDepth 65536 in
set_option maxHeartbeats 40000000 in
theorem rm_exp_2_2 (l : Launch) (Z : State) (av0 : Array Value) (hw : ∀ d ∈ tables_1, d.before av0 Z = true) (ws : List Jvm.Cond) (p2 : Int32) (p3 : Int32) (p4 : Int32) (h0 : Heap) (n0 : Nat) (Z0 : n0 ≤ h0.size) :
    MetFree l (⟨"com/example/sieveline/sieveline/solver/BitMatrixRowPinLaw", "expect", "(IIIII)J"⟩ : MethodName) (head1 (Jvm.Cond.code (⟨"com/example/sieveline/sieveline/solver/BitMatrixRowPinLaw", "expect", "(IIIII)J"⟩ : MethodName) method_3_code 7 (some .long) :: ws) ({ frames := 1, cells := 0, slots := 0, locals := 16 } : Room)) (fun a U => a = #[(.int (2 : Int32)), (.int (2 : Int32)), (.int p2), (.int p3), (.int p4)] ∧ Z.Warmed39 U.vm ∧ U.heap = h0) (fun _ _ _ _ _ => True) (fun _ U o U' => ∃ v L, o = .returned v ∧ (Q_exp_2_2 Z p2 p3 p4 h0 n0) v U'.heap L ∧ FrameEnd U o U' L ({ frames := 1, cells := 0, slots := 0, locals := 16 } : Room).cells ({ frames := 1, cells := 0, slots := 0, locals := 16 } : Room).slots) := by
  refine MetFree.of_bodySF (plainFor_of_name own_pn_BitMatrixRowPinLaw) hisR ?_
  intro p e s m args below meth c s₁ Bd hml0 hP hK
  obtain ⟨rfl, hZ, hh⟩ := hP
  have hx := Bd.exec
  have hby := Bd.bytes
  have hml : c.maxLocals = 7 := hml0
  have hown : s.vm.findClass "com/example/sieveline/sieveline/solver/BitMatrixRowPinLaw" = some m.cls := findClass_of_methodNamed Bd.named
  have hnm := (name_of_methodNamed Bd.named Bd.method).1
  have hlk : meth.locks = false := BodyLoose.notSynchronized Bd
  have X0 : Stand p l e ({ frames := 1, cells := 0, slots := 0, locals := 16 } : Room) s m #[(.int (2 : Int32)), (.int (2 : Int32)), (.int p2), (.int p3), (.int p4)] below meth c s₁ [] 0 0 := Stand.of_body Bd
  have e0 : s₁.heap = h0 := by rw [← hh, Bd.state]; rfl
  have N0 := Fr.nil n0
  have K0 : Keep h0 h0 [] := Keep.refl _ _
  show ownEnds p e below s (Q_exp_2_2 Z p2 p3 p4 h0 n0) ({ frames := 1, cells := 0, slots := 0, locals := 16 } : Room).cells ({ frames := 1, cells := 0, slots := 0, locals := 16 } : Room).slots s₁ (entryFrame m #[(.int (2 : Int32)), (.int (2 : Int32)), (.int p2), (.int p3), (.int p4)] 7)
  refine ownCast (own_ef7_exp_2_2 m p2 p3 p4) ?_
  refine ow_lconst (q := 1) X0 hx (0 : Int64) (hb hby own_d7_0) rfl rfl ?_
  refine ow_lstore (q := 3) X0 hx (L' := #[iv (2 : Int32), iv (2 : Int32), iv p2, iv p3, iv p4, .val (.long (0 : Int64)), .second]) (hb hby own_d7_1) rfl rfl ?_
  refine ow_iloadN (q := 4) X0 hx (hb hby own_d7_3) rfl rfl ?_
  refine ow_ifNo (q := 7) X0 hx (hb hby own_d7_4) rfl (Jvm.Free.XT.i0_le_f (by decide)) ?_
  refine ow_lload (q := 9) X0 hx (hb hby own_d7_7) rfl rfl ?_
  refine ow_iloadN (q := 10) X0 hx (hb hby own_d7_9) rfl rfl ?_
  refine ow_iloadN (q := 11) X0 hx (hb hby own_d7_10) rfl rfl ?_
  obtain ⟨_, _, ⟨T1, L1, k1, n1⟩, -, X1, ⟨Lc1, hQ1, l1, y1, z1⟩, st1⟩ := Jvm.LawKit.callS X0 hx (y := (⟨"com/example/sieveline/sieveline/solver/BitMatrixRowPinLaw", "bit", "(II)J"⟩ : MethodName)) hown (mvT hZ (hw _ (List.mem_of_getElem? (i := 39) rfl))) (mvT hZ (hw _ (List.mem_of_getElem? (i := 40) rfl))) (mvT hZ (hw _ (List.mem_of_getElem? (i := 37) rfl))) (mvT hZ (hw _ (List.mem_of_getElem? (i := 41) rfl))) (by decide) (backOf (W := 2) (rm_bit_2 l Z av0 hw [] p2 h0 n0 (Nat.le_trans Z0 K0.1) ) hZ (hw _ (List.mem_of_getElem? (i := 41) rfl)) (hw _ (List.mem_of_getElem? (i := 37) rfl)) (by decide) (by decide)) (g := (mkF m 11 #[iv (2 : Int32), iv (2 : Int32), iv p2, iv p3, iv p4, .val (.long (0 : Int64)), .second] [(.int (2 : Int32)), (.int p2), (.long (0 : Int64))])) rfl (by rw [hml]; rfl) (argsL := [(.int p2), (.int (2 : Int32))]) (rest := [(.long (0 : Int64))]) (lenOf own_pd1 rfl) rfl (by show 2 * 0 + _ ≤ _; exact Nat.le_of_eq rfl) (hb hby own_d7_11) (fun _ _ => ⟨rfl, e0, (by decide : 0 + 0 ≤ _), (by decide : 0 + 0 ≤ _)⟩)
  dsimp only [Pt.U, Pt.locs, Pt.cells, Pt.slots] at X1 l1 y1 z1 st1 hQ1
  subst l1 y1 z1
  obtain ⟨rfl, N1q, e1⟩ := hQ1
  have N1 := Fr.app N0 N1q
  refine ownGo (T' := T1) (f' := (mkF m 14 #[iv (2 : Int32), iv (2 : Int32), iv p2, iv p3, iv p4, .val (.long (0 : Int64)), .second] [(.long (own_Bw (128 : Int32) (192 : Int32) p2)), (.long (0 : Int64))])) (st1) ?_
  refine ow_lor (q := 15) X1 hx _ (hb hby own_d7_14) rfl rfl ?_
  generalize hv_v2 : ((0 : Int64) ||| (own_Bw (128 : Int32) (192 : Int32) p2)) = v2
  refine ow_lstore (q := 17) X1 hx (L' := #[iv (2 : Int32), iv (2 : Int32), iv p2, iv p3, iv p4, .val (.long v2), .second]) (hb hby own_d7_15) rfl rfl ?_
  refine ow_iloadN (q := 18) X1 hx (hb hby own_d7_17) rfl rfl ?_
  refine ow_iconst (q := 19) X1 hx (1 : Int32) (hb hby own_d7_18) rfl rfl ?_
  refine ow_icmpNo (q := 22) X1 hx (hb hby own_d7_19) rfl (Jvm.Free.XT.ii_le_f (by decide)) ?_
  refine ow_lload (q := 24) X1 hx (hb hby own_d7_22) rfl rfl ?_
  refine ow_iloadN (q := 25) X1 hx (hb hby own_d7_24) rfl rfl ?_
  refine ow_iloadN (q := 26) X1 hx (hb hby own_d7_25) rfl rfl ?_
  obtain ⟨_, _, ⟨T3, L3, k3, n3⟩, -, X3, ⟨Lc3, hQ3, l3, y3, z3⟩, st3⟩ := Jvm.LawKit.callS X1 hx (y := (⟨"com/example/sieveline/sieveline/solver/BitMatrixRowPinLaw", "bit", "(II)J"⟩ : MethodName)) hown (mvT hZ (hw _ (List.mem_of_getElem? (i := 39) rfl))) (mvT hZ (hw _ (List.mem_of_getElem? (i := 40) rfl))) (mvT hZ (hw _ (List.mem_of_getElem? (i := 37) rfl))) (mvT hZ (hw _ (List.mem_of_getElem? (i := 41) rfl))) (by decide) (backOf (W := 2) (rm_bit_2 l Z av0 hw [] p3 h0 n0 (Nat.le_trans Z0 K0.1) ) hZ (hw _ (List.mem_of_getElem? (i := 41) rfl)) (hw _ (List.mem_of_getElem? (i := 37) rfl)) (by decide) (by decide)) (g := (mkF m 26 #[iv (2 : Int32), iv (2 : Int32), iv p2, iv p3, iv p4, .val (.long v2), .second] [(.int (2 : Int32)), (.int p3), (.long v2)])) rfl (by rw [hml]; rfl) (argsL := [(.int p3), (.int (2 : Int32))]) (rest := [(.long v2)]) (lenOf own_pd1 rfl) rfl (by show 2 * 0 + _ ≤ _; exact Nat.le_of_eq rfl) (hb hby own_d7_26) (fun _ _ => ⟨rfl, e1, (by decide : 0 + 0 ≤ _), (by decide : 0 + 0 ≤ _)⟩)
  dsimp only [Pt.U, Pt.locs, Pt.cells, Pt.slots] at X3 l3 y3 z3 st3 hQ3
  subst l3 y3 z3
  obtain ⟨rfl, N3q, e3⟩ := hQ3
  have N3 := Fr.app N1 N3q
  refine ownGo (T' := T3) (f' := (mkF m 29 #[iv (2 : Int32), iv (2 : Int32), iv p2, iv p3, iv p4, .val (.long v2), .second] [(.long (own_Bw (128 : Int32) (192 : Int32) p3)), (.long v2)])) (st3) ?_
  refine ow_lor (q := 30) X3 hx _ (hb hby own_d7_29) rfl rfl ?_
  generalize hv_v4 : (v2 ||| (own_Bw (128 : Int32) (192 : Int32) p3)) = v4
  refine ow_lstore (q := 32) X3 hx (L' := #[iv (2 : Int32), iv (2 : Int32), iv p2, iv p3, iv p4, .val (.long v4), .second]) (hb hby own_d7_30) rfl rfl ?_
  refine ow_iloadN (q := 33) X3 hx (hb hby own_d7_32) rfl rfl ?_
  refine ow_iconst (q := 34) X3 hx (2 : Int32) (hb hby own_d7_33) rfl rfl ?_
  refine ow_icmpYes (q := 48) X3 hx (hb hby own_d7_34) (Jvm.Free.XT.ii_le_t (by decide)) (by decide) (by decide) ?_
  refine ow_lload (q := 50) X3 hx (hb hby own_d7_48) rfl rfl ?_
  refine ownRetJ X3 hx Bd.returns (hb hby own_d7_50) hlk (by decide) (by decide) ?_
  subst hv_v4 hv_v2
  rw [e3]
  refine ⟨congrArg (fun q => some (Value.long q)) ?_, N3, rfl⟩
  rfl
theorem own_ef7_exp_2_3 (m : MethodId) (p2 : Int32) (p3 : Int32) (p4 : Int32) : entryFrame m #[(.int (2 : Int32)), (.int (3 : Int32)), (.int p2), (.int p3), (.int p4)] 7 = mkF m 0 #[iv (2 : Int32), iv (3 : Int32), iv p2, iv p3, iv p4, .unset, .unset] [] := by first | (simp [entryFrame, mkF, argsToLocals, Value.category]; done) | rfl
def Q_exp_2_3 (Z : State) (p2 : Int32) (p3 : Int32) (p4 : Int32) (h0 : Heap) (n0 : Nat) (v : Option Value) (h : Heap) (L : List Loc) : Prop := v = some (.long ((((0 : Int64) ||| (own_Bw (128 : Int32) (192 : Int32) p2)) ||| (own_Bw (128 : Int32) (192 : Int32) p3)) ||| (own_Bw (128 : Int32) (192 : Int32) p4))) ∧ Fr n0 L ∧ h = h0
set_option maxRecDepth 65536 in
set_option maxHeartbeats 40000000 in
theorem rm_exp_2_3 (l : Launch) (Z : State) (av0 : Array Value) (hw : ∀ d ∈ tables_1, d.before av0 Z = true) (ws : List Jvm.Cond) (p2 : Int32) (p3 : Int32) (p4 : Int32) (h0 : Heap) (n0 : Nat) (Z0 : n0 ≤ h0.size) :
    MetFree l (⟨"com/example/sieveline/sieveline/solver/BitMatrixRowPinLaw", "expect", "(IIIII)J"⟩ : MethodName) (head1 (Jvm.Cond.code (⟨"com/example/sieveline/sieveline/solver/BitMatrixRowPinLaw", "expect", "(IIIII)J"⟩ : MethodName) method_3_code 7 (some .long) :: ws) ({ frames := 1, cells := 0, slots := 0, locals := 16 } : Room)) (fun a U => a = #[(.int (2 : Int32)), (.int (3 : Int32)), (.int p2), (.int p3), (.int p4)] ∧ Z.Warmed39 U.vm ∧ U.heap = h0) (fun _ _ _ _ _ => True) (fun _ U o U' => ∃ v L, o = .returned v ∧ (Q_exp_2_3 Z p2 p3 p4 h0 n0) v U'.heap L ∧ FrameEnd U o U' L ({ frames := 1, cells := 0, slots := 0, locals := 16 } : Room).cells ({ frames := 1, cells := 0, slots := 0, locals := 16 } : Room).slots) := by
  refine MetFree.of_bodySF (plainFor_of_name own_pn_BitMatrixRowPinLaw) hisR ?_
  intro p e s m args below meth c s₁ Bd hml0 hP hK
  obtain ⟨rfl, hZ, hh⟩ := hP
  have hx := Bd.exec
  have hby := Bd.bytes
  have hml : c.maxLocals = 7 := hml0
  have hown : s.vm.findClass "com/example/sieveline/sieveline/solver/BitMatrixRowPinLaw" = some m.cls := findClass_of_methodNamed Bd.named
  have hnm := (name_of_methodNamed Bd.named Bd.method).1
  have hlk : meth.locks = false := BodyLoose.notSynchronized Bd
  have X0 : Stand p l e ({ frames := 1, cells := 0, slots := 0, locals := 16 } : Room) s m #[(.int (2 : Int32)), (.int (3 : Int32)), (.int p2), (.int p3), (.int p4)] below meth c s₁ [] 0 0 := Stand.of_body Bd
  have e0 : s₁.heap = h0 := by rw [← hh, Bd.state]; rfl
  have N0 := Fr.nil n0
  have K0 : Keep h0 h0 [] := Keep.refl _ _
  show ownEnds p e below s (Q_exp_2_3 Z p2 p3 p4 h0 n0) ({ frames := 1, cells := 0, slots := 0, locals := 16 } : Room).cells ({ frames := 1, cells := 0, slots := 0, locals := 16 } : Room).slots s₁ (entryFrame m #[(.int (2 : Int32)), (.int (3 : Int32)), (.int p2), (.int p3), (.int p4)] 7)
  refine ownCast (own_ef7_exp_2_3 m p2 p3 p4) ?_
  refine ow_lconst (q := 1) X0 hx (0 : Int64) (hb hby own_d7_0) rfl rfl ?_
  refine ow_lstore (q := 3) X0 hx (L' := #[iv (2 : Int32), iv (3 : Int32), iv p2, iv p3, iv p4, .val (.long (0 : Int64)), .second]) (hb hby own_d7_1) rfl rfl ?_
  refine ow_iloadN (q := 4) X0 hx (hb hby own_d7_3) rfl rfl ?_
  refine ow_ifNo (q := 7) X0 hx (hb hby own_d7_4) rfl (Jvm.Free.XT.i0_le_f (by decide)) ?_
  refine ow_lload (q := 9) X0 hx (hb hby own_d7_7) rfl rfl ?_
  refine ow_iloadN (q := 10) X0 hx (hb hby own_d7_9) rfl rfl ?_
  refine ow_iloadN (q := 11) X0 hx (hb hby own_d7_10) rfl rfl ?_
  obtain ⟨_, _, ⟨T1, L1, k1, n1⟩, -, X1, ⟨Lc1, hQ1, l1, y1, z1⟩, st1⟩ := Jvm.LawKit.callS X0 hx (y := (⟨"com/example/sieveline/sieveline/solver/BitMatrixRowPinLaw", "bit", "(II)J"⟩ : MethodName)) hown (mvT hZ (hw _ (List.mem_of_getElem? (i := 39) rfl))) (mvT hZ (hw _ (List.mem_of_getElem? (i := 40) rfl))) (mvT hZ (hw _ (List.mem_of_getElem? (i := 37) rfl))) (mvT hZ (hw _ (List.mem_of_getElem? (i := 41) rfl))) (by decide) (backOf (W := 2) (rm_bit_2 l Z av0 hw [] p2 h0 n0 (Nat.le_trans Z0 K0.1) ) hZ (hw _ (List.mem_of_getElem? (i := 41) rfl)) (hw _ (List.mem_of_getElem? (i := 37) rfl)) (by decide) (by decide)) (g := (mkF m 11 #[iv (2 : Int32), iv (3 : Int32), iv p2, iv p3, iv p4, .val (.long (0 : Int64)), .second] [(.int (2 : Int32)), (.int p2), (.long (0 : Int64))])) rfl (by rw [hml]; rfl) (argsL := [(.int p2), (.int (2 : Int32))]) (rest := [(.long (0 : Int64))]) (lenOf own_pd1 rfl) rfl (by show 2 * 0 + _ ≤ _; exact Nat.le_of_eq rfl) (hb hby own_d7_11) (fun _ _ => ⟨rfl, e0, (by decide : 0 + 0 ≤ _), (by decide : 0 + 0 ≤ _)⟩)
  dsimp only [Pt.U, Pt.locs, Pt.cells, Pt.slots] at X1 l1 y1 z1 st1 hQ1
  subst l1 y1 z1
  obtain ⟨rfl, N1q, e1⟩ := hQ1
  have N1 := Fr.app N0 N1q
  refine ownGo (T' := T1) (f' := (mkF m 14 #[iv (2 : Int32), iv (3 : Int32), iv p2, iv p3, iv p4, .val (.long (0 : Int64)), .second] [(.long (own_Bw (128 : Int32) (192 : Int32) p2)), (.long (0 : Int64))])) (st1) ?_
  refine ow_lor (q := 15) X1 hx _ (hb hby own_d7_14) rfl rfl ?_
  generalize hv_v2 : ((0 : Int64) ||| (own_Bw (128 : Int32) (192 : Int32) p2)) = v2
  refine ow_lstore (q := 17) X1 hx (L' := #[iv (2 : Int32), iv (3 : Int32), iv p2, iv p3, iv p4, .val (.long v2), .second]) (hb hby own_d7_15) rfl rfl ?_
  refine ow_iloadN (q := 18) X1 hx (hb hby own_d7_17) rfl rfl ?_
  refine ow_iconst (q := 19) X1 hx (1 : Int32) (hb hby own_d7_18) rfl rfl ?_
  refine ow_icmpNo (q := 22) X1 hx (hb hby own_d7_19) rfl (Jvm.Free.XT.ii_le_f (by decide)) ?_
  refine ow_lload (q := 24) X1 hx (hb hby own_d7_22) rfl rfl ?_
  refine ow_iloadN (q := 25) X1 hx (hb hby own_d7_24) rfl rfl ?_
  refine ow_iloadN (q := 26) X1 hx (hb hby own_d7_25) rfl rfl ?_
  obtain ⟨_, _, ⟨T3, L3, k3, n3⟩, -, X3, ⟨Lc3, hQ3, l3, y3, z3⟩, st3⟩ := Jvm.LawKit.callS X1 hx (y := (⟨"com/example/sieveline/sieveline/solver/BitMatrixRowPinLaw", "bit", "(II)J"⟩ : MethodName)) hown (mvT hZ (hw _ (List.mem_of_getElem? (i := 39) rfl))) (mvT hZ (hw _ (List.mem_of_getElem? (i := 40) rfl))) (mvT hZ (hw _ (List.mem_of_getElem? (i := 37) rfl))) (mvT hZ (hw _ (List.mem_of_getElem? (i := 41) rfl))) (by decide) (backOf (W := 2) (rm_bit_2 l Z av0 hw [] p3 h0 n0 (Nat.le_trans Z0 K0.1) ) hZ (hw _ (List.mem_of_getElem? (i := 41) rfl)) (hw _ (List.mem_of_getElem? (i := 37) rfl)) (by decide) (by decide)) (g := (mkF m 26 #[iv (2 : Int32), iv (3 : Int32), iv p2, iv p3, iv p4, .val (.long v2), .second] [(.int (2 : Int32)), (.int p3), (.long v2)])) rfl (by rw [hml]; rfl) (argsL := [(.int p3), (.int (2 : Int32))]) (rest := [(.long v2)]) (lenOf own_pd1 rfl) rfl (by show 2 * 0 + _ ≤ _; exact Nat.le_of_eq rfl) (hb hby own_d7_26) (fun _ _ => ⟨rfl, e1, (by decide : 0 + 0 ≤ _), (by decide : 0 + 0 ≤ _)⟩)
  dsimp only [Pt.U, Pt.locs, Pt.cells, Pt.slots] at X3 l3 y3 z3 st3 hQ3
  subst l3 y3 z3
  obtain ⟨rfl, N3q, e3⟩ := hQ3
  have N3 := Fr.app N1 N3q
  refine ownGo (T' := T3) (f' := (mkF m 29 #[iv (2 : Int32), iv (3 : Int32), iv p2, iv p3, iv p4, .val (.long v2), .second] [(.long (own_Bw (128 : Int32) (192 : Int32) p3)), (.long v2)])) (st3) ?_
  refine ow_lor (q := 30) X3 hx _ (hb hby own_d7_29) rfl rfl ?_
  generalize hv_v4 : (v2 ||| (own_Bw (128 : Int32) (192 : Int32) p3)) = v4
  refine ow_lstore (q := 32) X3 hx (L' := #[iv (2 : Int32), iv (3 : Int32), iv p2, iv p3, iv p4, .val (.long v4), .second]) (hb hby own_d7_30) rfl rfl ?_
  refine ow_iloadN (q := 33) X3 hx (hb hby own_d7_32) rfl rfl ?_
  refine ow_iconst (q := 34) X3 hx (2 : Int32) (hb hby own_d7_33) rfl rfl ?_
  refine ow_icmpNo (q := 37) X3 hx (hb hby own_d7_34) rfl (Jvm.Free.XT.ii_le_f (by decide)) ?_
  refine ow_lload (q := 39) X3 hx (hb hby own_d7_37) rfl rfl ?_
  refine ow_iload (q := 41) X3 hx (hb hby own_d7_39) rfl rfl ?_
  refine ow_iloadN (q := 42) X3 hx (hb hby own_d7_41) rfl rfl ?_
  obtain ⟨_, _, ⟨T5, L5, k5, n5⟩, -, X5, ⟨Lc5, hQ5, l5, y5, z5⟩, st5⟩ := Jvm.LawKit.callS X3 hx (y := (⟨"com/example/sieveline/sieveline/solver/BitMatrixRowPinLaw", "bit", "(II)J"⟩ : MethodName)) hown (mvT hZ (hw _ (List.mem_of_getElem? (i := 39) rfl))) (mvT hZ (hw _ (List.mem_of_getElem? (i := 40) rfl))) (mvT hZ (hw _ (List.mem_of_getElem? (i := 37) rfl))) (mvT hZ (hw _ (List.mem_of_getElem? (i := 41) rfl))) (by decide) (backOf (W := 2) (rm_bit_2 l Z av0 hw [] p4 h0 n0 (Nat.le_trans Z0 K0.1) ) hZ (hw _ (List.mem_of_getElem? (i := 41) rfl)) (hw _ (List.mem_of_getElem? (i := 37) rfl)) (by decide) (by decide)) (g := (mkF m 42 #[iv (2 : Int32), iv (3 : Int32), iv p2, iv p3, iv p4, .val (.long v4), .second] [(.int (2 : Int32)), (.int p4), (.long v4)])) rfl (by rw [hml]; rfl) (argsL := [(.int p4), (.int (2 : Int32))]) (rest := [(.long v4)]) (lenOf own_pd1 rfl) rfl (by show 2 * 0 + _ ≤ _; exact Nat.le_of_eq rfl) (hb hby own_d7_42) (fun _ _ => ⟨rfl, e3, (by decide : 0 + 0 ≤ _), (by decide : 0 + 0 ≤ _)⟩)
  dsimp only [Pt.U, Pt.locs, Pt.cells, Pt.slots] at X5 l5 y5 z5 st5 hQ5
  subst l5 y5 z5
  obtain ⟨rfl, N5q, e5⟩ := hQ5
  have N5 := Fr.app N3 N5q
  refine ownGo (T' := T5) (f' := (mkF m 45 #[iv (2 : Int32), iv (3 : Int32), iv p2, iv p3, iv p4, .val (.long v4), .second] [(.long (own_Bw (128 : Int32) (192 : Int32) p4)), (.long v4)])) (st5) ?_
  refine ow_lor (q := 46) X5 hx _ (hb hby own_d7_45) rfl rfl ?_
  generalize hv_v6 : (v4 ||| (own_Bw (128 : Int32) (192 : Int32) p4)) = v6
  refine ow_lstore (q := 48) X5 hx (L' := #[iv (2 : Int32), iv (3 : Int32), iv p2, iv p3, iv p4, .val (.long v6), .second]) (hb hby own_d7_46) rfl rfl ?_
  refine ow_lload (q := 50) X5 hx (hb hby own_d7_48) rfl rfl ?_
  refine ownRetJ X5 hx Bd.returns (hb hby own_d7_50) hlk (by decide) (by decide) ?_
  subst hv_v6 hv_v4 hv_v2
  rw [e5]
  refine ⟨congrArg (fun q => some (Value.long q)) ?_, N5, rfl⟩
  rfl
theorem own_ef7_exp_3_0 (m : MethodId) (p2 : Int32) (p3 : Int32) (p4 : Int32) : entryFrame m #[(.int (3 : Int32)), (.int (0 : Int32)), (.int p2), (.int p3), (.int p4)] 7 = mkF m 0 #[iv (3 : Int32), iv (0 : Int32), iv p2, iv p3, iv p4, .unset, .unset] [] := by first | (simp [entryFrame, mkF, argsToLocals, Value.category]; done) | rfl
def Q_exp_3_0 (Z : State) (p2 : Int32) (p3 : Int32) (p4 : Int32) (h0 : Heap) (n0 : Nat) (v : Option Value) (h : Heap) (L : List Loc) : Prop := v = some (.long (0 : Int64)) ∧ Fr n0 L ∧ h = h0
set_option maxRecDepth 65536 in
set_option maxHeartbeats 40000000 in
theorem rm_exp_3_0 (l : Launch) (Z : State) (av0 : Array Value) (hw : ∀ d ∈ tables_1, d.before av0 Z = true) (ws : List Jvm.Cond) (p2 : Int32) (p3 : Int32) (p4 : Int32) (h0 : Heap) (n0 : Nat) (Z0 : n0 ≤ h0.size) :
    MetFree l (⟨"com/example/sieveline/sieveline/solver/BitMatrixRowPinLaw", "expect", "(IIIII)J"⟩ : MethodName) (head1 (Jvm.Cond.code (⟨"com/example/sieveline/sieveline/solver/BitMatrixRowPinLaw", "expect", "(IIIII)J"⟩ : MethodName) method_3_code 7 (some .long) :: ws) ({ frames := 0, cells := 0, slots := 0, locals := 0 } : Room)) (fun a U => a = #[(.int (3 : Int32)), (.int (0 : Int32)), (.int p2), (.int p3), (.int p4)] ∧ Z.Warmed39 U.vm ∧ U.heap = h0) (fun _ _ _ _ _ => True) (fun _ U o U' => ∃ v L, o = .returned v ∧ (Q_exp_3_0 Z p2 p3 p4 h0 n0) v U'.heap L ∧ FrameEnd U o U' L ({ frames := 0, cells := 0, slots := 0, locals := 0 } : Room).cells ({ frames := 0, cells := 0, slots := 0, locals := 0 } : Room).slots) := by
  refine MetFree.of_bodySF (plainFor_of_name own_pn_BitMatrixRowPinLaw) hisR ?_
  intro p e s m args below meth c s₁ Bd hml0 hP hK
  obtain ⟨rfl, hZ, hh⟩ := hP
  have hx := Bd.exec
  have hby := Bd.bytes
  have hml : c.maxLocals = 7 := hml0
  have hown : s.vm.findClass "com/example/sieveline/sieveline/solver/BitMatrixRowPinLaw" = some m.cls := findClass_of_methodNamed Bd.named
  have hnm := (name_of_methodNamed Bd.named Bd.method).1
  have hlk : meth.locks = false := BodyLoose.notSynchronized Bd
  have X0 : Stand p l e ({ frames := 0, cells := 0, slots := 0, locals := 0 } : Room) s m #[(.int (3 : Int32)), (.int (0 : Int32)), (.int p2), (.int p3), (.int p4)] below meth c s₁ [] 0 0 := Stand.of_body Bd
  have e0 : s₁.heap = h0 := by rw [← hh, Bd.state]; rfl
  have N0 := Fr.nil n0
  have K0 : Keep h0 h0 [] := Keep.refl _ _
  show ownEnds p e below s (Q_exp_3_0 Z p2 p3 p4 h0 n0) ({ frames := 0, cells := 0, slots := 0, locals := 0 } : Room).cells ({ frames := 0, cells := 0, slots := 0, locals := 0 } : Room).slots s₁ (entryFrame m #[(.int (3 : Int32)), (.int (0 : Int32)), (.int p2), (.int p3), (.int p4)] 7)
  refine ownCast (own_ef7_exp_3_0 m p2 p3 p4) ?_
  refine ow_lconst (q := 1) X0 hx (0 : Int64) (hb hby own_d7_0) rfl rfl ?_
  refine ow_lstore (q := 3) X0 hx (L' := #[iv (3 : Int32), iv (0 : Int32), iv p2, iv p3, iv p4, .val (.long (0 : Int64)), .second]) (hb hby own_d7_1) rfl rfl ?_
  refine ow_iloadN (q := 4) X0 hx (hb hby own_d7_3) rfl rfl ?_
  refine ow_ifYes (q := 17) X0 hx (hb hby own_d7_4) (Jvm.Free.XT.i0_le_t (by decide)) (by decide) (by decide) ?_
  refine ow_iloadN (q := 18) X0 hx (hb hby own_d7_17) rfl rfl ?_
  refine ow_iconst (q := 19) X0 hx (1 : Int32) (hb hby own_d7_18) rfl rfl ?_
  refine ow_icmpYes (q := 32) X0 hx (hb hby own_d7_19) (Jvm.Free.XT.ii_le_t (by decide)) (by decide) (by decide) ?_
  refine ow_iloadN (q := 33) X0 hx (hb hby own_d7_32) rfl rfl ?_
  refine ow_iconst (q := 34) X0 hx (2 : Int32) (hb hby own_d7_33) rfl rfl ?_
  refine ow_icmpYes (q := 48) X0 hx (hb hby own_d7_34) (Jvm.Free.XT.ii_le_t (by decide)) (by decide) (by decide) ?_
  refine ow_lload (q := 50) X0 hx (hb hby own_d7_48) rfl rfl ?_
  refine ownRetJ X0 hx Bd.returns (hb hby own_d7_50) hlk (by decide) (by decide) ?_
  rw [e0]
  exact ⟨rfl, N0, rfl⟩
theorem own_ef7_exp_3_1 (m : MethodId) (p2 : Int32) (p3 : Int32) (p4 : Int32) : entryFrame m #[(.int (3 : Int32)), (.int (1 : Int32)), (.int p2), (.int p3), (.int p4)] 7 = mkF m 0 #[iv (3 : Int32), iv (1 : Int32), iv p2, iv p3, iv p4, .unset, .unset] [] := by first | (simp [entryFrame, mkF, argsToLocals, Value.category]; done) | rfl
def Q_exp_3_1 (Z : State) (p2 : Int32) (p3 : Int32) (p4 : Int32) (h0 : Heap) (n0 : Nat) (v : Option Value) (h : Heap) (L : List Loc) : Prop := v = some (.long ((0 : Int64) ||| (own_Bw (192 : Int32) (256 : Int32) p2))) ∧ Fr n0 L ∧ h = h0
set_option maxRecDepth 65536 in
set_option maxHeartbeats 40000000 in
theorem rm_exp_3_1 (l : Launch) (Z : State) (av0 : Array Value) (hw : ∀ d ∈ tables_1, d.before av0 Z = true) (ws : List Jvm.Cond) (p2 : Int32) (p3 : Int32) (p4 : Int32) (h0 : Heap) (n0 : Nat) (Z0 : n0 ≤ h0.size) :
    MetFree l (⟨"com/example/sieveline/sieveline/solver/BitMatrixRowPinLaw", "expect", "(IIIII)J"⟩ : MethodName) (head1 (Jvm.Cond.code (⟨"com/example/sieveline/sieveline/solver/BitMatrixRowPinLaw", "expect", "(IIIII)J"⟩ : MethodName) method_3_code 7 (some .long) :: ws) ({ frames := 1, cells := 0, slots := 0, locals := 16 } : Room)) (fun a U => a = #[(.int (3 : Int32)), (.int (1 : Int32)), (.int p2), (.int p3), (.int p4)] ∧ Z.Warmed39 U.vm ∧ U.heap = h0) (fun _ _ _ _ _ => True) (fun _ U o U' => ∃ v L, o = .returned v ∧ (Q_exp_3_1 Z p2 p3 p4 h0 n0) v U'.heap L ∧ FrameEnd U o U' L ({ frames := 1, cells := 0, slots := 0, locals := 16 } : Room).cells ({ frames := 1, cells := 0, slots := 0, locals := 16 } : Room).slots) := by
  refine MetFree.of_bodySF (plainFor_of_name own_pn_BitMatrixRowPinLaw) hisR ?_
  intro p e s m args below meth c s₁ Bd hml0 hP hK
  obtain ⟨rfl, hZ, hh⟩ := hP
  have hx := Bd.exec
  have hby := Bd.bytes
  have hml : c.maxLocals = 7 := hml0
  have hown : s.vm.findClass "com/example/sieveline/sieveline/solver/BitMatrixRowPinLaw" = some m.cls := findClass_of_methodNamed Bd.named
  have hnm := (name_of_methodNamed Bd.named Bd.method).1
  have hlk : meth.locks = false := BodyLoose.notSynchronized Bd
  have X0 : Stand p l e ({ frames := 1, cells := 0, slots := 0, locals := 16 } : Room) s m #[(.int (3 : Int32)), (.int (1 : Int32)), (.int p2), (.int p3), (.int p4)] below meth c s₁ [] 0 0 := Stand.of_body Bd
  have e0 : s₁.heap = h0 := by rw [← hh, Bd.state]; rfl
  have N0 := Fr.nil n0
  have K0 : Keep h0 h0 [] := Keep.refl _ _
  show ownEnds p e below s (Q_exp_3_1 Z p2 p3 p4 h0 n0) ({ frames := 1, cells := 0, slots := 0, locals := 16 } : Room).cells ({ frames := 1, cells := 0, slots := 0, locals := 16 } : Room).slots s₁ (entryFrame m #[(.int (3 : Int32)), (.int (1 : Int32)), (.int p2), (.int p3), (.int p4)] 7)
  refine ownCast (own_ef7_exp_3_1 m p2 p3 p4) ?_
  refine ow_lconst (q := 1) X0 hx (0 : Int64) (hb hby own_d7_0) rfl rfl ?_
  refine ow_lstore (q := 3) X0 hx (L' := #[iv (3 : Int32), iv (1 : Int32), iv p2, iv p3, iv p4, .val (.long (0 : Int64)), .second]) (hb hby own_d7_1) rfl rfl ?_
  refine ow_iloadN (q := 4) X0 hx (hb hby own_d7_3) rfl rfl ?_
  refine ow_ifNo (q := 7) X0 hx (hb hby own_d7_4) rfl (Jvm.Free.XT.i0_le_f (by decide)) ?_
  refine ow_lload (q := 9) X0 hx (hb hby own_d7_7) rfl rfl ?_
  refine ow_iloadN (q := 10) X0 hx (hb hby own_d7_9) rfl rfl ?_
  refine ow_iloadN (q := 11) X0 hx (hb hby own_d7_10) rfl rfl ?_
  obtain ⟨_, _, ⟨T1, L1, k1, n1⟩, -, X1, ⟨Lc1, hQ1, l1, y1, z1⟩, st1⟩ := Jvm.LawKit.callS X0 hx (y := (⟨"com/example/sieveline/sieveline/solver/BitMatrixRowPinLaw", "bit", "(II)J"⟩ : MethodName)) hown (mvT hZ (hw _ (List.mem_of_getElem? (i := 39) rfl))) (mvT hZ (hw _ (List.mem_of_getElem? (i := 40) rfl))) (mvT hZ (hw _ (List.mem_of_getElem? (i := 37) rfl))) (mvT hZ (hw _ (List.mem_of_getElem? (i := 41) rfl))) (by decide) (backOf (W := 2) (rm_bit_3 l Z av0 hw [] p2 h0 n0 (Nat.le_trans Z0 K0.1) ) hZ (hw _ (List.mem_of_getElem? (i := 41) rfl)) (hw _ (List.mem_of_getElem? (i := 37) rfl)) (by decide) (by decide)) (g := (mkF m 11 #[iv (3 : Int32), iv (1 : Int32), iv p2, iv p3, iv p4, .val (.long (0 : Int64)), .second] [(.int (3 : Int32)), (.int p2), (.long (0 : Int64))])) rfl (by rw [hml]; rfl) (argsL := [(.int p2), (.int (3 : Int32))]) (rest := [(.long (0 : Int64))]) (lenOf own_pd1 rfl) rfl (by show 2 * 0 + _ ≤ _; exact Nat.le_of_eq rfl) (hb hby own_d7_11) (fun _ _ => ⟨rfl, e0, (by decide : 0 + 0 ≤ _), (by decide : 0 + 0 ≤ _)⟩)
  dsimp only [Pt.U, Pt.locs, Pt.cells, Pt.slots] at X1 l1 y1 z1 st1 hQ1
  subst l1 y1 z1
  obtain ⟨rfl, N1q, e1⟩ := hQ1
  have N1 := Fr.app N0 N1q
  refine ownGo (T' := T1) (f' := (mkF m 14 #[iv (3 : Int32), iv (1 : Int32), iv p2, iv p3, iv p4, .val (.long (0 : Int64)), .second] [(.long (own_Bw (192 : Int32) (256 : Int32) p2)), (.long (0 : Int64))])) (st1) ?_
  refine ow_lor (q := 15) X1 hx _ (hb hby own_d7_14) rfl rfl ?_
  generalize hv_v2 : ((0 : Int64) ||| (own_Bw (192 : Int32) (256 : Int32) p2)) = v2
  refine ow_lstore (q := 17) X1 hx (L' := #[iv (3 : Int32), iv (1 : Int32), iv p2, iv p3, iv p4, .val (.long v2), .second]) (hb hby own_d7_15) rfl rfl ?_
  refine ow_iloadN (q := 18) X1 hx (hb hby own_d7_17) rfl rfl ?_
  refine ow_iconst (q := 19) X1 hx (1 : Int32) (hb hby own_d7_18) rfl rfl ?_
  refine ow_icmpYes (q := 32) X1 hx (hb hby own_d7_19) (Jvm.Free.XT.ii_le_t (by decide)) (by decide) (by decide) ?_
  refine ow_iloadN (q := 33) X1 hx (hb hby own_d7_32) rfl rfl ?_
  refine ow_iconst (q := 34) X1 hx (2 : Int32) (hb hby own_d7_33) rfl rfl ?_
  refine ow_icmpYes (q := 48) X1 hx (hb hby own_d7_34) (Jvm.Free.XT.ii_le_t (by decide)) (by decide) (by decide) ?_
  refine ow_lload (q := 50) X1 hx (hb hby own_d7_48) rfl rfl ?_
  refine ownRetJ X1 hx Bd.returns (hb hby own_d7_50) hlk (by decide) (by decide) ?_
  subst hv_v2
  rw [e1]
  refine ⟨congrArg (fun q => some (Value.long q)) ?_, N1, rfl⟩
  rfl
theorem own_ef7_exp_3_2 (m : MethodId) (p2 : Int32) (p3 : Int32) (p4 : Int32) : entryFrame m #[(.int (3 : Int32)), (.int (2 : Int32)), (.int p2), (.int p3), (.int p4)] 7 = mkF m 0 #[iv (3 : Int32), iv (2 : Int32), iv p2, iv p3, iv p4, .unset, .unset] [] := by first | (simp [entryFrame, mkF, argsToLocals, Value.category]; done) | rfl
def Q_exp_3_2 (Z : State) (p2 : Int32) (p3 : Int32) (p4 : Int32) (h0 : Heap) (n0 : Nat) (v : Option Value) (h : Heap) (L : List Loc) : Prop := v = some (.long (((0 : Int64) ||| (own_Bw (192 : Int32) (256 : Int32) p2)) ||| (own_Bw (192 : Int32) (256 : Int32) p3))) ∧ Fr n0 L ∧ h = h0
set_option maxRecDepth 65536 in
set_option maxHeartbeats 40000000 in
theorem rm_exp_3_2 (l : Launch) (Z : State) (av0 : Array Value) (hw : ∀ d ∈ tables_1, d.before av0 Z = true) (ws : List Jvm.Cond) (p2 : Int32) (p3 : Int32) (p4 : Int32) (h0 : Heap) (n0 : Nat) (Z0 : n0 ≤ h0.size) :
    MetFree l (⟨"com/example/sieveline/sieveline/solver/BitMatrixRowPinLaw", "expect", "(IIIII)J"⟩ : MethodName) (head1 (Jvm.Cond.code (⟨"com/example/sieveline/sieveline/solver/BitMatrixRowPinLaw", "expect", "(IIIII)J"⟩ : MethodName) method_3_code 7 (some .long) :: ws) ({ frames := 1, cells := 0, slots := 0, locals := 16 } : Room)) (fun a U => a = #[(.int (3 : Int32)), (.int (2 : Int32)), (.int p2), (.int p3), (.int p4)] ∧ Z.Warmed39 U.vm ∧ U.heap = h0) (fun _ _ _ _ _ => True) (fun _ U o U' => ∃ v L, o = .returned v ∧ (Q_exp_3_2 Z p2 p3 p4 h0 n0) v U'.heap L ∧ FrameEnd U o U' L ({ frames := 1, cells := 0, slots := 0, locals := 16 } : Room).cells ({ frames := 1, cells := 0, slots := 0, locals := 16 } : Room).slots) := by
  refine MetFree.of_bodySF (plainFor_of_name own_pn_BitMatrixRowPinLaw) hisR ?_
  intro p e s m args below meth c s₁ Bd hml0 hP hK
  obtain ⟨rfl, hZ, hh⟩ := hP
  have hx := Bd.exec
  have hby := Bd.bytes
  have hml : c.maxLocals = 7 := hml0
  have hown : s.vm.findClass "com/example/sieveline/sieveline/solver/BitMatrixRowPinLaw" = some m.cls := findClass_of_methodNamed Bd.named
  have hnm := (name_of_methodNamed Bd.named Bd.method).1
  have hlk : meth.locks = false := BodyLoose.notSynchronized Bd
  have X0 : Stand p l e ({ frames := 1, cells := 0, slots := 0, locals := 16 } : Room) s m #[(.int (3 : Int32)), (.int (2 : Int32)), (.int p2), (.int p3), (.int p4)] below meth c s₁ [] 0 0 := Stand.of_body Bd
  have e0 : s₁.heap = h0 := by rw [← hh, Bd.state]; rfl
  have N0 := Fr.nil n0
  have K0 : Keep h0 h0 [] := Keep.refl _ _
  show ownEnds p e below s (Q_exp_3_2 Z p2 p3 p4 h0 n0) ({ frames := 1, cells := 0, slots := 0, locals := 16 } : Room).cells ({ frames := 1, cells := 0, slots := 0, locals := 16 } : Room).slots s₁ (entryFrame m #[(.int (3 : Int32)), (.int (2 : Int32)), (.int p2), (.int p3), (.int p4)] 7)
  refine ownCast (own_ef7_exp_3_2 m p2 p3 p4) ?_
  refine ow_lconst (q := 1) X0 hx (0 : Int64) (hb hby own_d7_0) rfl rfl ?_
  refine ow_lstore (q := 3) X0 hx (L' := #[iv (3 : Int32), iv (2 : Int32), iv p2, iv p3, iv p4, .val (.long (0 : Int64)), .second]) (hb hby own_d7_1) rfl rfl ?_
  refine ow_iloadN (q := 4) X0 hx (hb hby own_d7_3) rfl rfl ?_
  refine ow_ifNo (q := 7) X0 hx (hb hby own_d7_4) rfl (Jvm.Free.XT.i0_le_f (by decide)) ?_
  refine ow_lload (q := 9) X0 hx (hb hby own_d7_7) rfl rfl ?_
  refine ow_iloadN (q := 10) X0 hx (hb hby own_d7_9) rfl rfl ?_
  refine ow_iloadN (q := 11) X0 hx (hb hby own_d7_10) rfl rfl ?_
  obtain ⟨_, _, ⟨T1, L1, k1, n1⟩, -, X1, ⟨Lc1, hQ1, l1, y1, z1⟩, st1⟩ := Jvm.LawKit.callS X0 hx (y := (⟨"com/example/sieveline/sieveline/solver/BitMatrixRowPinLaw", "bit", "(II)J"⟩ : MethodName)) hown (mvT hZ (hw _ (List.mem_of_getElem? (i := 39) rfl))) (mvT hZ (hw _ (List.mem_of_getElem? (i := 40) rfl))) (mvT hZ (hw _ (List.mem_of_getElem? (i := 37) rfl))) (mvT hZ (hw _ (List.mem_of_getElem? (i := 41) rfl))) (by decide) (backOf (W := 2) (rm_bit_3 l Z av0 hw [] p2 h0 n0 (Nat.le_trans Z0 K0.1) ) hZ (hw _ (List.mem_of_getElem? (i := 41) rfl)) (hw _ (List.mem_of_getElem? (i := 37) rfl)) (by decide) (by decide)) (g := (mkF m 11 #[iv (3 : Int32), iv (2 : Int32), iv p2, iv p3, iv p4, .val (.long (0 : Int64)), .second] [(.int (3 : Int32)), (.int p2), (.long (0 : Int64))])) rfl (by rw [hml]; rfl) (argsL := [(.int p2), (.int (3 : Int32))]) (rest := [(.long (0 : Int64))]) (lenOf own_pd1 rfl) rfl (by show 2 * 0 + _ ≤ _; exact Nat.le_of_eq rfl) (hb hby own_d7_11) (fun _ _ => ⟨rfl, e0, (by decide : 0 + 0 ≤ _), (by decide : 0 + 0 ≤ _)⟩)
  dsimp only [Pt.U, Pt.locs, Pt.cells, Pt.slots] at X1 l1 y1 z1 st1 hQ1
  subst l1 y1 z1
  obtain ⟨rfl, N1q, e1⟩ := hQ1
  have N1 := Fr.app N0 N1q
  refine ownGo (T' := T1) (f' := (mkF m 14 #[iv (3 : Int32), iv (2 : Int32), iv p2, iv p3, iv p4, .val (.long (0 : Int64)), .second] [(.long (own_Bw (192 : Int32) (256 : Int32) p2)), (.long (0 : Int64))])) (st1) ?_
  refine ow_lor (q := 15) X1 hx _ (hb hby own_d7_14) rfl rfl ?_
  generalize hv_v2 : ((0 : Int64) ||| (own_Bw (192 : Int32) (256 : Int32) p2)) = v2
  refine ow_lstore (q := 17) X1 hx (L' := #[iv (3 : Int32), iv (2 : Int32), iv p2, iv p3, iv p4, .val (.long v2), .second]) (hb hby own_d7_15) rfl rfl ?_
  refine ow_iloadN (q := 18) X1 hx (hb hby own_d7_17) rfl rfl ?_
  refine ow_iconst (q := 19) X1 hx (1 : Int32) (hb hby own_d7_18) rfl rfl ?_
  refine ow_icmpNo (q := 22) X1 hx (hb hby own_d7_19) rfl (Jvm.Free.XT.ii_le_f (by decide)) ?_
  refine ow_lload (q := 24) X1 hx (hb hby own_d7_22) rfl rfl ?_
  refine ow_iloadN (q := 25) X1 hx (hb hby own_d7_24) rfl rfl ?_
  refine ow_iloadN (q := 26) X1 hx (hb hby own_d7_25) rfl rfl ?_
  obtain ⟨_, _, ⟨T3, L3, k3, n3⟩, -, X3, ⟨Lc3, hQ3, l3, y3, z3⟩, st3⟩ := Jvm.LawKit.callS X1 hx (y := (⟨"com/example/sieveline/sieveline/solver/BitMatrixRowPinLaw", "bit", "(II)J"⟩ : MethodName)) hown (mvT hZ (hw _ (List.mem_of_getElem? (i := 39) rfl))) (mvT hZ (hw _ (List.mem_of_getElem? (i := 40) rfl))) (mvT hZ (hw _ (List.mem_of_getElem? (i := 37) rfl))) (mvT hZ (hw _ (List.mem_of_getElem? (i := 41) rfl))) (by decide) (backOf (W := 2) (rm_bit_3 l Z av0 hw [] p3 h0 n0 (Nat.le_trans Z0 K0.1) ) hZ (hw _ (List.mem_of_getElem? (i := 41) rfl)) (hw _ (List.mem_of_getElem? (i := 37) rfl)) (by decide) (by decide)) (g := (mkF m 26 #[iv (3 : Int32), iv (2 : Int32), iv p2, iv p3, iv p4, .val (.long v2), .second] [(.int (3 : Int32)), (.int p3), (.long v2)])) rfl (by rw [hml]; rfl) (argsL := [(.int p3), (.int (3 : Int32))]) (rest := [(.long v2)]) (lenOf own_pd1 rfl) rfl (by show 2 * 0 + _ ≤ _; exact Nat.le_of_eq rfl) (hb hby own_d7_26) (fun _ _ => ⟨rfl, e1, (by decide : 0 + 0 ≤ _), (by decide : 0 + 0 ≤ _)⟩)
  dsimp only [Pt.U, Pt.locs, Pt.cells, Pt.slots] at X3 l3 y3 z3 st3 hQ3
  subst l3 y3 z3
  obtain ⟨rfl, N3q, e3⟩ := hQ3
  have N3 := Fr.app N1 N3q
  refine ownGo (T' := T3) (f' := (mkF m 29 #[iv (3 : Int32), iv (2 : Int32), iv p2, iv p3, iv p4, .val (.long v2), .second] [(.long (own_Bw (192 : Int32) (256 : Int32) p3)), (.long v2)])) (st3) ?_
  refine ow_lor (q := 30) X3 hx _ (hb hby own_d7_29) rfl rfl ?_
  generalize hv_v4 : (v2 ||| (own_Bw (192 : Int32) (256 : Int32) p3)) = v4
  refine ow_lstore (q := 32) X3 hx (L' := #[iv (3 : Int32), iv (2 : Int32), iv p2, iv p3, iv p4, .val (.long v4), .second]) (hb hby own_d7_30) rfl rfl ?_
  refine ow_iloadN (q := 33) X3 hx (hb hby own_d7_32) rfl rfl ?_
  refine ow_iconst (q := 34) X3 hx (2 : Int32) (hb hby own_d7_33) rfl rfl ?_
  refine ow_icmpYes (q := 48) X3 hx (hb hby own_d7_34) (Jvm.Free.XT.ii_le_t (by decide)) (by decide) (by decide) ?_
  refine ow_lload (q := 50) X3 hx (hb hby own_d7_48) rfl rfl ?_
  refine ownRetJ X3 hx Bd.returns (hb hby own_d7_50) hlk (by decide) (by decide) ?_
  subst hv_v4 hv_v2
  rw [e3]
  refine ⟨congrArg (fun q => some (Value.long q)) ?_, N3, rfl⟩
  rfl
theorem own_ef7_exp_3_3 (m : MethodId) (p2 : Int32) (p3 : Int32) (p4 : Int32) : entryFrame m #[(.int (3 : Int32)), (.int (3 : Int32)), (.int p2), (.int p3), (.int p4)] 7 = mkF m 0 #[iv (3 : Int32), iv (3 : Int32), iv p2, iv p3, iv p4, .unset, .unset] [] := by first | (simp [entryFrame, mkF, argsToLocals, Value.category]; done) | rfl
def Q_exp_3_3 (Z : State) (p2 : Int32) (p3 : Int32) (p4 : Int32) (h0 : Heap) (n0 : Nat) (v : Option Value) (h : Heap) (L : List Loc) : Prop := v = some (.long ((((0 : Int64) ||| (own_Bw (192 : Int32) (256 : Int32) p2)) ||| (own_Bw (192 : Int32) (256 : Int32) p3)) ||| (own_Bw (192 : Int32) (256 : Int32) p4))) ∧ Fr n0 L ∧ h = h0
set_option maxRecDepth 65536 in
set_option maxHeartbeats 40000000 in
theorem rm_exp_3_3 (l : Launch) (Z : State) (av0 : Array Value) (hw : ∀ d ∈ tables_1, d.before av0 Z = true) (ws : List Jvm.Cond) (p2 : Int32) (p3 : Int32) (p4 : Int32) (h0 : Heap) (n0 : Nat) (Z0 : n0 ≤ h0.size) :
    MetFree l (⟨"com/example/sieveline/sieveline/solver/BitMatrixRowPinLaw", "expect", "(IIIII)J"⟩ : MethodName) (head1 (Jvm.Cond.code (⟨"com/example/sieveline/sieveline/solver/BitMatrixRowPinLaw", "expect", "(IIIII)J"⟩ : MethodName) method_3_code 7 (some .long) :: ws) ({ frames := 1, cells := 0, slots := 0, locals := 16 } : Room)) (fun a U => a = #[(.int (3 : Int32)), (.int (3 : Int32)), (.int p2), (.int p3), (.int p4)] ∧ Z.Warmed39 U.vm ∧ U.heap = h0) (fun _ _ _ _ _ => True) (fun _ U o U' => ∃ v L, o = .returned v ∧ (Q_exp_3_3 Z p2 p3 p4 h0 n0) v U'.heap L ∧ FrameEnd U o U' L ({ frames := 1, cells := 0, slots := 0, locals := 16 } : Room).cells ({ frames := 1, cells := 0, slots := 0, locals := 16 } : Room).slots) := by
  refine MetFree.of_bodySF (plainFor_of_name own_pn_BitMatrixRowPinLaw) hisR ?_
  intro p e s m args below meth c s₁ Bd hml0 hP hK
  obtain ⟨rfl, hZ, hh⟩ := hP
  have hx := Bd.exec
  have hby := Bd.bytes
  have hml : c.maxLocals = 7 := hml0
  have hown : s.vm.findClass "com/example/sieveline/sieveline/solver/BitMatrixRowPinLaw" = some m.cls := findClass_of_methodNamed Bd.named
  have hnm := (name_of_methodNamed Bd.named Bd.method).1
  have hlk : meth.locks = false := BodyLoose.notSynchronized Bd
  have X0 : Stand p l e ({ frames := 1, cells := 0, slots := 0, locals := 16 } : Room) s m #[(.int (3 : Int32)), (.int (3 : Int32)), (.int p2), (.int p3), (.int p4)] below meth c s₁ [] 0 0 := Stand.of_body Bd
  have e0 : s₁.heap = h0 := by rw [← hh, Bd.state]; rfl
  have N0 := Fr.nil n0
  have K0 : Keep h0 h0 [] := Keep.refl _ _
  show ownEnds p e below s (Q_exp_3_3 Z p2 p3 p4 h0 n0) ({ frames := 1, cells := 0, slots := 0, locals := 16 } : Room).cells ({ frames := 1, cells := 0, slots := 0, locals := 16 } : Room).slots s₁ (entryFrame m #[(.int (3 : Int32)), (.int (3 : Int32)), (.int p2), (.int p3), (.int p4)] 7)
  refine ownCast (own_ef7_exp_3_3 m p2 p3 p4) ?_
  refine ow_lconst (q := 1) X0 hx (0 : Int64) (hb hby own_d7_0) rfl rfl ?_
  refine ow_lstore (q := 3) X0 hx (L' := #[iv (3 : Int32), iv (3 : Int32), iv p2, iv p3, iv p4, .val (.long (0 : Int64)), .second]) (hb hby own_d7_1) rfl rfl ?_
  refine ow_iloadN (q := 4) X0 hx (hb hby own_d7_3) rfl rfl ?_
  refine ow_ifNo (q := 7) X0 hx (hb hby own_d7_4) rfl (Jvm.Free.XT.i0_le_f (by decide)) ?_
  refine ow_lload (q := 9) X0 hx (hb hby own_d7_7) rfl rfl ?_
  refine ow_iloadN (q := 10) X0 hx (hb hby own_d7_9) rfl rfl ?_
  refine ow_iloadN (q := 11) X0 hx (hb hby own_d7_10) rfl rfl ?_
  obtain ⟨_, _, ⟨T1, L1, k1, n1⟩, -, X1, ⟨Lc1, hQ1, l1, y1, z1⟩, st1⟩ := Jvm.LawKit.callS X0 hx (y := (⟨"com/example/sieveline/sieveline/solver/BitMatrixRowPinLaw", "bit", "(II)J"⟩ : MethodName)) hown (mvT hZ (hw _ (List.mem_of_getElem? (i := 39) rfl))) (mvT hZ (hw _ (List.mem_of_getElem? (i := 40) rfl))) (mvT hZ (hw _ (List.mem_of_getElem? (i := 37) rfl))) (mvT hZ (hw _ (List.mem_of_getElem? (i := 41) rfl))) (by decide) (backOf (W := 2) (rm_bit_3 l Z av0 hw [] p2 h0 n0 (Nat.le_trans Z0 K0.1) ) hZ (hw _ (List.mem_of_getElem? (i := 41) rfl)) (hw _ (List.mem_of_getElem? (i := 37) rfl)) (by decide) (by decide)) (g := (mkF m 11 #[iv (3 : Int32), iv (3 : Int32), iv p2, iv p3, iv p4, .val (.long (0 : Int64)), .second] [(.int (3 : Int32)), (.int p2), (.long (0 : Int64))])) rfl (by rw [hml]; rfl) (argsL := [(.int p2), (.int (3 : Int32))]) (rest := [(.long (0 : Int64))]) (lenOf own_pd1 rfl) rfl (by show 2 * 0 + _ ≤ _; exact Nat.le_of_eq rfl) (hb hby own_d7_11) (fun _ _ => ⟨rfl, e0, (by decide : 0 + 0 ≤ _), (by decide : 0 + 0 ≤ _)⟩)
  dsimp only [Pt.U, Pt.locs, Pt.cells, Pt.slots] at X1 l1 y1 z1 st1 hQ1
  subst l1 y1 z1
  obtain ⟨rfl, N1q, e1⟩ := hQ1
  have N1 := Fr.app N0 N1q
  refine ownGo (T' := T1) (f' := (mkF m 14 #[iv (3 : Int32), iv (3 : Int32), iv p2, iv p3, iv p4, .val (.long (0 : Int64)), .second] [(.long (own_Bw (192 : Int32) (256 : Int32) p2)), (.long (0 : Int64))])) (st1) ?_
  refine ow_lor (q := 15) X1 hx _ (hb hby own_d7_14) rfl rfl ?_
  generalize hv_v2 : ((0 : Int64) ||| (own_Bw (192 : Int32) (256 : Int32) p2)) = v2
  refine ow_lstore (q := 17) X1 hx (L' := #[iv (3 : Int32), iv (3 : Int32), iv p2, iv p3, iv p4, .val (.long v2), .second]) (hb hby own_d7_15) rfl rfl ?_
  refine ow_iloadN (q := 18) X1 hx (hb hby own_d7_17) rfl rfl ?_
  refine ow_iconst (q := 19) X1 hx (1 : Int32) (hb hby own_d7_18) rfl rfl ?_
  refine ow_icmpNo (q := 22) X1 hx (hb hby own_d7_19) rfl (Jvm.Free.XT.ii_le_f (by decide)) ?_
  refine ow_lload (q := 24) X1 hx (hb hby own_d7_22) rfl rfl ?_
  refine ow_iloadN (q := 25) X1 hx (hb hby own_d7_24) rfl rfl ?_
  refine ow_iloadN (q := 26) X1 hx (hb hby own_d7_25) rfl rfl ?_
  obtain ⟨_, _, ⟨T3, L3, k3, n3⟩, -, X3, ⟨Lc3, hQ3, l3, y3, z3⟩, st3⟩ := Jvm.LawKit.callS X1 hx (y := (⟨"com/example/sieveline/sieveline/solver/BitMatrixRowPinLaw", "bit", "(II)J"⟩ : MethodName)) hown (mvT hZ (hw _ (List.mem_of_getElem? (i := 39) rfl))) (mvT hZ (hw _ (List.mem_of_getElem? (i := 40) rfl))) (mvT hZ (hw _ (List.mem_of_getElem? (i := 37) rfl))) (mvT hZ (hw _ (List.mem_of_getElem? (i := 41) rfl))) (by decide) (backOf (W := 2) (rm_bit_3 l Z av0 hw [] p3 h0 n0 (Nat.le_trans Z0 K0.1) ) hZ (hw _ (List.mem_of_getElem? (i := 41) rfl)) (hw _ (List.mem_of_getElem? (i := 37) rfl)) (by decide) (by decide)) (g := (mkF m 26 #[iv (3 : Int32), iv (3 : Int32), iv p2, iv p3, iv p4, .val (.long v2), .second] [(.int (3 : Int32)), (.int p3), (.long v2)])) rfl (by rw [hml]; rfl) (argsL := [(.int p3), (.int (3 : Int32))]) (rest := [(.long v2)]) (lenOf own_pd1 rfl) rfl (by show 2 * 0 + _ ≤ _; exact Nat.le_of_eq rfl) (hb hby own_d7_26) (fun _ _ => ⟨rfl, e1, (by decide : 0 + 0 ≤ _), (by decide : 0 + 0 ≤ _)⟩)
  dsimp only [Pt.U, Pt.locs, Pt.cells, Pt.slots] at X3 l3 y3 z3 st3 hQ3
  subst l3 y3 z3
  obtain ⟨rfl, N3q, e3⟩ := hQ3
  have N3 := Fr.app N1 N3q
  refine ownGo (T' := T3) (f' := (mkF m 29 #[iv (3 : Int32), iv (3 : Int32), iv p2, iv p3, iv p4, .val (.long v2), .second] [(.long (own_Bw (192 : Int32) (256 : Int32) p3)), (.long v2)])) (st3) ?_
  refine ow_lor (q := 30) X3 hx _ (hb hby own_d7_29) rfl rfl ?_
  generalize hv_v4 : (v2 ||| (own_Bw (192 : Int32) (256 : Int32) p3)) = v4
  refine ow_lstore (q := 32) X3 hx (L' := #[iv (3 : Int32), iv (3 : Int32), iv p2, iv p3, iv p4, .val (.long v4), .second]) (hb hby own_d7_30) rfl rfl ?_
  refine ow_iloadN (q := 33) X3 hx (hb hby own_d7_32) rfl rfl ?_
  refine ow_iconst (q := 34) X3 hx (2 : Int32) (hb hby own_d7_33) rfl rfl ?_
  refine ow_icmpNo (q := 37) X3 hx (hb hby own_d7_34) rfl (Jvm.Free.XT.ii_le_f (by decide)) ?_
  refine ow_lload (q := 39) X3 hx (hb hby own_d7_37) rfl rfl ?_
  refine ow_iload (q := 41) X3 hx (hb hby own_d7_39) rfl rfl ?_
  refine ow_iloadN (q := 42) X3 hx (hb hby own_d7_41) rfl rfl ?_
  obtain ⟨_, _, ⟨T5, L5, k5, n5⟩, -, X5, ⟨Lc5, hQ5, l5, y5, z5⟩, st5⟩ := Jvm.LawKit.callS X3 hx (y := (⟨"com/example/sieveline/sieveline/solver/BitMatrixRowPinLaw", "bit", "(II)J"⟩ : MethodName)) hown (mvT hZ (hw _ (List.mem_of_getElem? (i := 39) rfl))) (mvT hZ (hw _ (List.mem_of_getElem? (i := 40) rfl))) (mvT hZ (hw _ (List.mem_of_getElem? (i := 37) rfl))) (mvT hZ (hw _ (List.mem_of_getElem? (i := 41) rfl))) (by decide) (backOf (W := 2) (rm_bit_3 l Z av0 hw [] p4 h0 n0 (Nat.le_trans Z0 K0.1) ) hZ (hw _ (List.mem_of_getElem? (i := 41) rfl)) (hw _ (List.mem_of_getElem? (i := 37) rfl)) (by decide) (by decide)) (g := (mkF m 42 #[iv (3 : Int32), iv (3 : Int32), iv p2, iv p3, iv p4, .val (.long v4), .second] [(.int (3 : Int32)), (.int p4), (.long v4)])) rfl (by rw [hml]; rfl) (argsL := [(.int p4), (.int (3 : Int32))]) (rest := [(.long v4)]) (lenOf own_pd1 rfl) rfl (by show 2 * 0 + _ ≤ _; exact Nat.le_of_eq rfl) (hb hby own_d7_42) (fun _ _ => ⟨rfl, e3, (by decide : 0 + 0 ≤ _), (by decide : 0 + 0 ≤ _)⟩)
  dsimp only [Pt.U, Pt.locs, Pt.cells, Pt.slots] at X5 l5 y5 z5 st5 hQ5
  subst l5 y5 z5
  obtain ⟨rfl, N5q, e5⟩ := hQ5
  have N5 := Fr.app N3 N5q
  refine ownGo (T' := T5) (f' := (mkF m 45 #[iv (3 : Int32), iv (3 : Int32), iv p2, iv p3, iv p4, .val (.long v4), .second] [(.long (own_Bw (192 : Int32) (256 : Int32) p4)), (.long v4)])) (st5) ?_
  refine ow_lor (q := 46) X5 hx _ (hb hby own_d7_45) rfl rfl ?_
  generalize hv_v6 : (v4 ||| (own_Bw (192 : Int32) (256 : Int32) p4)) = v6
  refine ow_lstore (q := 48) X5 hx (L' := #[iv (3 : Int32), iv (3 : Int32), iv p2, iv p3, iv p4, .val (.long v6), .second]) (hb hby own_d7_46) rfl rfl ?_
  refine ow_lload (q := 50) X5 hx (hb hby own_d7_48) rfl rfl ?_
  refine ownRetJ X5 hx Bd.returns (hb hby own_d7_50) hlk (by decide) (by decide) ?_
  subst hv_v6 hv_v4 hv_v2
  rw [e5]
  refine ⟨congrArg (fun q => some (Value.long q)) ?_, N5, rfl⟩
  rfl
theorem own_pd3 : parseMethodDescriptor "(II)V" = some ⟨[.int, .int], none⟩ := by decide +kernel
theorem own_pd4 : parseMethodDescriptor "([I)[J" = some ⟨[(.array .int)], some (.array .long)⟩ := by decide +kernel
theorem own_pd5 : parseMethodDescriptor "(IIIII)J" = some ⟨[.int, .int, .int, .int, .int], some .long⟩ := by decide +kernel
theorem own_ef0_law (m : MethodId) (p0 : Int32) (p1 : Int32) (p2 : Int32) (p3 : Int32) (p4 : Int32) : entryFrame m #[(.int p0), (.int p1), (.int p2), (.int p3), (.int p4)] maxLocals = mkF m 0 #[iv p0, iv p1, iv p2, iv p3, iv p4, .unset, .unset, .unset, .unset, .unset, .unset, .unset, .unset, .unset] [] := by first | (simp [entryFrame, mkF, argsToLocals, Value.category, maxLocals]; done) | rfl
def Q_law (Z : State) (p0 : Int32) (p1 : Int32) (p2 : Int32) (p3 : Int32) (p4 : Int32) (h0 : Heap) (n0 : Nat) (v : Option Value) (h : Heap) (L : List Loc) : Prop := v = some (.int 1) ∧ Fr n0 L
set_option maxRecDepth 65536 in
set_option maxHeartbeats 40000000 in
theorem rm_law (l : Launch) (Z : State) (av0 : Array Value) (hw : ∀ d ∈ tables_1, d.before av0 Z = true) (ws : List Jvm.Cond) (p0 : Int32) (p1 : Int32) (p2 : Int32) (p3 : Int32) (p4 : Int32) (h0 : Heap) (n0 : Nat) (Z0 : n0 ≤ h0.size) :
    MetFree l x (head1 (Jvm.Cond.code x code maxLocals ret :: ws) room_1) (fun a U => a = #[(.int p0), (.int p1), (.int p2), (.int p3), (.int p4)] ∧ Z.Warmed39 U.vm ∧ U.heap = h0) (fun _ _ _ _ _ => True) (fun _ U o U' => ∃ v L, o = .returned v ∧ (Q_law Z p0 p1 p2 p3 p4 h0 n0) v U'.heap L ∧ FrameEnd U o U' L 16 128) := by
  refine MetFree.of_bodySF (plainFor_of_name own_pn_BitMatrixRowPinLaw) hisR ?_
  intro p e s m args below meth c s₁ Bd hml0 hP hK
  obtain ⟨rfl, hZ, hh⟩ := hP
  have hx := Bd.exec
  have hby := Bd.bytes
  have hml : c.maxLocals = 14 := hml0
  have hown : s.vm.findClass "com/example/sieveline/sieveline/solver/BitMatrixRowPinLaw" = some m.cls := findClass_of_methodNamed Bd.named
  have hnm := (name_of_methodNamed Bd.named Bd.method).1
  have hlk : meth.locks = false := BodyLoose.notSynchronized Bd
  have X0 : Stand p l e room_1 s m #[(.int p0), (.int p1), (.int p2), (.int p3), (.int p4)] below meth c s₁ [] 0 0 := Stand.of_body Bd
  have e0 : s₁.heap = h0 := by rw [← hh, Bd.state]; rfl
  have N0 := Fr.nil n0
  have K0 : Keep h0 h0 [] := Keep.refl _ _
  show ownEnds p e below s (Q_law Z p0 p1 p2 p3 p4 h0 n0) 16 128 s₁ (entryFrame m #[(.int p0), (.int p1), (.int p2), (.int p3), (.int p4)] maxLocals)
  refine ownCast (own_ef0_law m p0 p1 p2 p3 p4) ?_
  refine ow_iloadN (q := 1) X0 hx (hb hby at_0) rfl rfl ?_
  refine ow_sipush (q := 4) X0 hx (255 : Int32) (hb hby at_1) rfl rfl ?_
  refine ow_iand (q := 5) X0 hx _ (hb hby at_4) rfl rfl ?_
  generalize hv_v1 : (p0 &&& (255 : Int32)) = v1
  refine ow_istore (q := 7) X0 hx (L' := #[iv p0, iv p1, iv p2, iv p3, iv p4, iv v1, .unset, .unset, .unset, .unset, .unset, .unset, .unset, .unset]) (hb hby at_5) rfl rfl ?_
  by_cases hz2 : v1 = (0 : Int32)
  · subst hz2
    refine ow_iload (q := 9) X0 hx (hb hby at_7) rfl rfl ?_
    refine ow_ifNo (q := 12) X0 hx (hb hby at_9) rfl (Jvm.Free.XT.i0_ne_f (by decide)) ?_
    refine ow_iconst (q := 13) X0 hx (0 : Int32) (hb hby at_12) rfl rfl ?_
    refine ow_goto (q := 19) X0 hx (hb hby at_13) (by decide) (by decide) ?_
    refine ow_istore (q := 21) X0 hx (L' := #[iv p0, iv p1, iv p2, iv p3, iv p4, iv (0 : Int32), iv (0 : Int32), .unset, .unset, .unset, .unset, .unset, .unset, .unset]) (hb hby at_19) rfl rfl ?_
    refine ow_iload (q := 23) X0 hx (hb hby at_21) rfl rfl ?_
    refine ow_ifNo (q := 26) X0 hx (hb hby at_23) rfl (Jvm.Free.XT.i0_ne_f (by decide)) ?_
    refine ow_iconst (q := 27) X0 hx (0 : Int32) (hb hby at_26) rfl rfl ?_
    refine ow_goto (q := 37) X0 hx (hb hby at_27) (by decide) (by decide) ?_
    refine ow_istore (q := 39) X0 hx (L' := #[iv p0, iv p1, iv p2, iv p3, iv p4, iv (0 : Int32), iv (0 : Int32), iv (0 : Int32), .unset, .unset, .unset, .unset, .unset, .unset]) (hb hby at_37) rfl rfl ?_
    refine ow_iload (q := 41) X0 hx (hb hby at_39) rfl rfl ?_
    refine ow_ifNo (q := 44) X0 hx (hb hby at_41) rfl (Jvm.Free.XT.i0_ne_f (by decide)) ?_
    refine ow_iconst (q := 45) X0 hx (0 : Int32) (hb hby at_44) rfl rfl ?_
    refine ow_goto (q := 55) X0 hx (hb hby at_45) (by decide) (by decide) ?_
    refine ow_istore (q := 57) X0 hx (L' := #[iv p0, iv p1, iv p2, iv p3, iv p4, iv (0 : Int32), iv (0 : Int32), iv (0 : Int32), iv (0 : Int32), .unset, .unset, .unset, .unset, .unset]) (hb hby at_55) rfl rfl ?_
    refine ow_iload (q := 59) X0 hx (hb hby at_57) rfl rfl ?_
    refine ow_ifNo (q := 62) X0 hx (hb hby at_59) rfl (Jvm.Free.XT.i0_ne_f (by decide)) ?_
    refine ow_iconst (q := 63) X0 hx (0 : Int32) (hb hby at_62) rfl rfl ?_
    refine ow_goto (q := 74) X0 hx (hb hby at_63) (by decide) (by decide) ?_
    refine ow_istore (q := 76) X0 hx (L' := #[iv p0, iv p1, iv p2, iv p3, iv p4, iv (0 : Int32), iv (0 : Int32), iv (0 : Int32), iv (0 : Int32), iv (0 : Int32), .unset, .unset, .unset, .unset]) (hb hby at_74) rfl rfl ?_
    refine ow_iload (q := 78) X0 hx (hb hby at_76) rfl rfl ?_
    obtain ⟨T3, h3, k3, X3, e3, E3, A3, st3⟩ := newP X0 hx hZ (hw _ (List.mem_of_getElem? (i := 0) rfl)) e0 (g := (mkF m 78 #[iv p0, iv p1, iv p2, iv p3, iv p4, iv (0 : Int32), iv (0 : Int32), iv (0 : Int32), iv (0 : Int32), iv (0 : Int32), .unset, .unset, .unset, .unset] [(.int (0 : Int32))])) rfl (hb hby at_78) rfl (by decide) (cap := 0) (by decide) (by decide) (by decide) (by decide)
    obtain ⟨b3, g3⟩ : ∃ z, z = h0.size := ⟨_, rfl⟩
    rw [← g3] at A3 st3
    have sz_b3 : h0.size ≤ b3 := Nat.le_trans K0.1 (Nat.le_of_eq g3.symm)
    have G_b3 : n0 ≤ b3 := Nat.le_trans Z0 sz_b3
    have K3 : Keep h0 h3 [] := K0.ext E3
    have F4 : ownAI Z h3 b3 .int 0 (fun _ => (0 : Int32)) := ownAI.new A3 (by decide) rfl (by decide)
    refine ownGo (T' := T3) (f' := (mkF m 80 #[iv p0, iv p1, iv p2, iv p3, iv p4, iv (0 : Int32), iv (0 : Int32), iv (0 : Int32), iv (0 : Int32), iv (0 : Int32), .unset, .unset, .unset, .unset] [(.ref b3)])) (st3) ?_
    refine ow_astore (q := 82) X3 hx (L' := #[iv p0, iv p1, iv p2, iv p3, iv p4, iv (0 : Int32), iv (0 : Int32), iv (0 : Int32), iv (0 : Int32), iv (0 : Int32), rv b3, .unset, .unset, .unset]) (hb hby at_80) rfl rfl rfl ?_
    refine ow_iload (q := 84) X3 hx (hb hby at_82) rfl rfl ?_
    refine ow_ifYes (q := 93) X3 hx (hb hby at_84) (Jvm.Free.XT.i0_le_t (by decide)) (by decide) (by decide) ?_
    refine ow_iload (q := 95) X3 hx (hb hby at_93) rfl rfl ?_
    refine ow_iconst (q := 96) X3 hx (1 : Int32) (hb hby at_95) rfl rfl ?_
    refine ow_icmpYes (q := 105) X3 hx (hb hby at_96) (Jvm.Free.XT.ii_le_t (by decide)) (by decide) (by decide) ?_
    refine ow_iload (q := 107) X3 hx (hb hby at_105) rfl rfl ?_
    refine ow_iconst (q := 108) X3 hx (2 : Int32) (hb hby at_107) rfl rfl ?_
    refine ow_icmpYes (q := 117) X3 hx (hb hby at_108) (Jvm.Free.XT.ii_le_t (by decide)) (by decide) (by decide) ?_
    obtain ⟨T5, h5, X5, e5, E5, A5, D5, -, st5⟩ := newO X3 hx hZ hown (hw _ (List.mem_of_getElem? (i := 1) rfl)) (hw _ (List.mem_of_getElem? (i := 2) rfl)) (hw _ (List.mem_of_getElem? (i := 3) rfl)) e3 (g := (mkF m 117 #[iv p0, iv p1, iv p2, iv p3, iv p4, iv (0 : Int32), iv (0 : Int32), iv (0 : Int32), iv (0 : Int32), iv (0 : Int32), rv b3, .unset, .unset, .unset] [])) rfl (hb hby at_117) (by decide) (by decide)
    obtain ⟨b5, g5⟩ : ∃ z, z = h3.size := ⟨_, rfl⟩
    rw [← g5] at A5 D5 st5
    have ne_b3_b5 : b3 ≠ b5 := Nat.ne_of_lt (Nat.lt_of_lt_of_le F4.lt (Nat.le_of_eq g5.symm))
    have sz_b5 : h0.size ≤ b5 := Nat.le_trans K3.1 (Nat.le_of_eq g5.symm)
    have G_b5 : n0 ≤ b5 := Nat.le_trans Z0 sz_b5
    have K5 : Keep h0 h5 [] := K3.ext E5
    have F6 : ownAI Z h5 b3 .int 0 (fun _ => (0 : Int32)) := F4.ext E5
    have F7 : Fld Z h5 b5 "com/example/sieveline/sieveline/solver/BitMatrix" "rowWords" "I" (.int (0 : Int32)) := D5 (Or.inr (hw _ (List.mem_of_getElem? (i := 14) rfl))) (ty := .int) (by decide)
    have F8 : Fld Z h5 b5 "com/example/sieveline/sieveline/solver/BitMatrix" "words" "[J" .null := D5 (Or.inr (hw _ (List.mem_of_getElem? (i := 24) rfl))) (ty := (.array .long)) (by decide)
    have F9 : Fld Z h5 b5 "com/example/sieveline/sieveline/solver/BitMatrix" "rows" "I" (.int (0 : Int32)) := D5 (Or.inr (hw _ (List.mem_of_getElem? (i := 26) rfl))) (ty := .int) (by decide)
    have F10 : Fld Z h5 b5 "com/example/sieveline/sieveline/solver/BitMatrix" "columns" "I" (.int (0 : Int32)) := D5 (Or.inr (hw _ (List.mem_of_getElem? (i := 28) rfl))) (ty := .int) (by decide)
    refine ownGo (T' := T5) (f' := (mkF m 120 #[iv p0, iv p1, iv p2, iv p3, iv p4, iv (0 : Int32), iv (0 : Int32), iv (0 : Int32), iv (0 : Int32), iv (0 : Int32), rv b3, .unset, .unset, .unset] [(.ref b5)])) (st5) ?_
    refine ow_dup (q := 121) X5 hx (hb hby at_120) rfl rfl ?_
    refine ow_iconst (q := 122) X5 hx (1 : Int32) (hb hby at_121) rfl rfl ?_
    refine ow_iload (q := 124) X5 hx (hb hby at_122) rfl rfl ?_
    obtain ⟨_, _, ⟨T11, L11, k11, n11⟩, -, X11, ⟨Lc11, hQ11, l11, y11, z11⟩, st11⟩ := X5.specialBack hx (y := (⟨"com/example/sieveline/sieveline/solver/BitMatrix", "<init>", "(II)V"⟩ : MethodName)) rfl hown (mvT hZ (hw _ (List.mem_of_getElem? (i := 4) rfl))) (mvT hZ (hw _ (List.mem_of_getElem? (i := 5) rfl))) (mvT hZ (hw _ (List.mem_of_getElem? (i := 6) rfl))) (by decide) (backOf (W := 1) (rm_init_0 l Z av0 hw [] b5 (0 : Int32) h5 n0 (Nat.le_trans Z0 K5.1) A5 F7 F8 F9 F10 G_b5 (by decide)) hZ (hw _ (List.mem_of_getElem? (i := 6) rfl)) (hw _ (List.mem_of_getElem? (i := 3) rfl)) (by decide) (by decide)) (g := (mkF m 124 #[iv p0, iv p1, iv p2, iv p3, iv p4, iv (0 : Int32), iv (0 : Int32), iv (0 : Int32), iv (0 : Int32), iv (0 : Int32), rv b3, .unset, .unset, .unset] [(.int (0 : Int32)), (.int (1 : Int32)), (.ref b5), (.ref b5)])) rfl (by rw [hml]; rfl) (Steps.refl _) (a := b5) (argsL := [(.int (1 : Int32)), (.int (0 : Int32))]) (rest := [(.ref b5)]) (lenOf own_pd3 rfl) rfl (by show 2 * 0 + _ ≤ _; exact Nat.le_of_eq rfl) (hb hby at_124) (fun _ _ => ⟨rfl, e5, (by decide : 2 + 1 ≤ _), (by decide : 4 + 0 ≤ _)⟩)
    dsimp only [Pt.U, Pt.locs, Pt.cells, Pt.slots] at X11 l11 y11 z11 st11 hQ11
    subst l11 y11 z11
    obtain ⟨rfl, N11q, Kq11, FP11_0, FP11_1⟩ := hQ11
    have N11 := Fr.app N0 N11q
    have K11 : Keep h0 T11.heap [] := K5.trans Kq11 (allS (Or.inr sz_b5) all0)
    have F12 : ownAI Z T11.heap b3 .int 0 (fun _ => (0 : Int32)) := F6.keep Kq11 (ninS ne_b3_b5 nin0)
    have F13 : Exa Z T11.heap b5 "com/example/sieveline/sieveline/solver/BitMatrix" := A5.keep Kq11
    refine ownRun (T' := T11) (f' := (mkF m 127 #[iv p0, iv p1, iv p2, iv p3, iv p4, iv (0 : Int32), iv (0 : Int32), iv (0 : Int32), iv (0 : Int32), iv (0 : Int32), rv b3, .unset, .unset, .unset] [(.ref b5)])) st11 ?_
    refine ow_astore (q := 129) X11 hx (L' := #[iv p0, iv p1, iv p2, iv p3, iv p4, iv (0 : Int32), iv (0 : Int32), iv (0 : Int32), iv (0 : Int32), iv (0 : Int32), rv b3, rv b5, .unset, .unset]) (hb hby at_127) rfl rfl rfl ?_
    refine ow_aload (q := 131) X11 hx (hb hby at_129) rfl rfl rfl ?_
    refine ow_aload (q := 133) X11 hx (hb hby at_131) rfl rfl rfl ?_
    obtain ⟨cq14, kq14, q14a, q14b, q14c⟩ := isOf hZ rfl FP11_0
    obtain ⟨_, _, ⟨T14, L14, k14, n14⟩, -, X14, ⟨Lc14, hQ14, l14, y14, z14⟩, st14⟩ := X11.virtualBack hx (y := (⟨"com/example/sieveline/sieveline/solver/BitMatrix", "row", "([I)[J"⟩ : MethodName)) (z := (⟨"com/example/sieveline/sieveline/solver/BitMatrix", "row", "([I)[J"⟩ : MethodName)) hown (mvT hZ (hw _ (List.mem_of_getElem? (i := 29) rfl))) (mvT hZ (hw _ (List.mem_of_getElem? (i := 30) rfl))) (notFace_of_selects (args := #[]) (mvT hZ (hw _ (List.mem_of_getElem? (i := 32) rfl)))) (mvT hZ (hw _ (List.mem_of_getElem? (i := 32) rfl))) (mvT hZ (hw _ (List.mem_of_getElem? (i := 31) rfl))) (by decide) (backOf (W := 0) (rm_row_0_0 l Z av0 hw [] b5 b3 (fun _ => (0 : Int32)) T11.heap n0 (Nat.le_trans Z0 K11.1) FP11_1 F12) hZ (hw _ (List.mem_of_getElem? (i := 33) rfl)) (hw _ (List.mem_of_getElem? (i := 3) rfl)) (by decide) (by decide)) q14a q14c (g := (mkF m 133 #[iv p0, iv p1, iv p2, iv p3, iv p4, iv (0 : Int32), iv (0 : Int32), iv (0 : Int32), iv (0 : Int32), iv (0 : Int32), rv b3, rv b5, .unset, .unset] [(.ref b3), (.ref b5)])) rfl (by rw [hml]; rfl) (Steps.refl _) (argsL := [(.ref b3)]) (rest := []) (lenOf own_pd4 rfl) rfl (by show 2 * 0 + _ ≤ _; exact Nat.le_of_eq rfl) (hb hby at_133) (fun _ _ => ⟨rfl, rfl, (by decide : 3 + 1 ≤ _), (by decide : 4 + 0 ≤ _)⟩)
    dsimp only [Pt.U, Pt.locs, Pt.cells, Pt.slots] at X14 l14 y14 z14 st14 hQ14
    subst l14 y14 z14
    obtain ⟨b14, rfl, N14q, Kq14, sq14_b14, FP14_0⟩ := hQ14
    have N14 := Fr.app N11 N14q
    have K14 : Keep h0 T14.heap [] := K11.trans Kq14 all0
    have ne_b3_b14 : b3 ≠ b14 := Nat.ne_of_lt (Nat.lt_of_lt_of_le F12.lt sq14_b14)
    have ne_b5_b14 : b5 ≠ b14 := Nat.ne_of_lt (Nat.lt_of_lt_of_le FP11_0.lt sq14_b14)
    have sz_b14 : h0.size ≤ b14 := Nat.le_trans K11.1 sq14_b14
    have G_b14 : n0 ≤ b14 := Nat.le_trans Z0 sz_b14
    have F15 : ownAI Z T14.heap b3 .int 0 (fun _ => (0 : Int32)) := F12.keep Kq14 nin0
    have F16 : Exa Z T14.heap b5 "com/example/sieveline/sieveline/solver/BitMatrix" := FP11_0.keep Kq14
    have F17 : Fld Z T14.heap b5 "com/example/sieveline/sieveline/solver/BitMatrix" "rowWords" "I" (.int (0 : Int32)) := FP11_1.keep Kq14 nin0
    refine ownRun (T' := T14) (f' := (mkF m 136 #[iv p0, iv p1, iv p2, iv p3, iv p4, iv (0 : Int32), iv (0 : Int32), iv (0 : Int32), iv (0 : Int32), iv (0 : Int32), rv b3, rv b5, .unset, .unset] [(.ref b14)])) st14 ?_
    refine ow_astore (q := 138) X14 hx (L' := #[iv p0, iv p1, iv p2, iv p3, iv p4, iv (0 : Int32), iv (0 : Int32), iv (0 : Int32), iv (0 : Int32), iv (0 : Int32), rv b3, rv b5, rv b14, .unset]) (hb hby at_136) rfl rfl rfl ?_
    refine ow_iload (q := 140) X14 hx (hb hby at_138) rfl rfl ?_
    refine ow_ifNo (q := 143) X14 hx (hb hby at_140) rfl (Jvm.Free.XT.i0_ne_f (by decide)) ?_
    refine ow_iconst (q := 144) X14 hx (0 : Int32) (hb hby at_143) rfl rfl ?_
    refine ow_goto (q := 183) X14 hx (hb hby at_144) (by decide) (by decide) ?_
    refine ow_istore (q := 185) X14 hx (L' := #[iv p0, iv p1, iv p2, iv p3, iv p4, iv (0 : Int32), iv (0 : Int32), iv (0 : Int32), iv (0 : Int32), iv (0 : Int32), rv b3, rv b5, rv b14, iv (0 : Int32)]) (hb hby at_183) rfl rfl ?_
    refine ow_aload (q := 187) X14 hx (hb hby at_185) rfl rfl rfl ?_
    refine ownGo (T' := T14) (f' := (mkF m 190 #[iv p0, iv p1, iv p2, iv p3, iv p4, iv (0 : Int32), iv (0 : Int32), iv (0 : Int32), iv (0 : Int32), iv (0 : Int32), rv b3, rv b5, rv b14, iv (0 : Int32)] [])) (fun _ k => XS.ifnullNo X14.here hx rfl (hb hby at_187) rfl k) ?_
    refine ow_aload (q := 192) X14 hx (hb hby at_190) rfl rfl rfl ?_
    refine ownGo (T' := T14) (f' := (mkF m 193 #[iv p0, iv p1, iv p2, iv p3, iv p4, iv (0 : Int32), iv (0 : Int32), iv (0 : Int32), iv (0 : Int32), iv (0 : Int32), rv b3, rv b5, rv b14, iv (0 : Int32)] [(.int (0 : Int32))])) (ownLenJ FP14_0 X14 hx hZ rfl (z := (0 : Int32)) (by decide) (g := (mkF m 192 #[iv p0, iv p1, iv p2, iv p3, iv p4, iv (0 : Int32), iv (0 : Int32), iv (0 : Int32), iv (0 : Int32), iv (0 : Int32), rv b3, rv b5, rv b14, iv (0 : Int32)] [(.ref b14)])) rfl rfl (hb hby at_192)) ?_
    refine ow_iload (q := 195) X14 hx (hb hby at_193) rfl rfl ?_
    refine ow_icmpYes (q := 200) X14 hx (hb hby at_195) (Jvm.Free.XT.ii_eq_t (by decide)) (by decide) (by decide) ?_
    refine ow_iload (q := 202) X14 hx (hb hby at_200) rfl rfl ?_
    refine ow_ifYes (q := 227) X14 hx (hb hby at_202) (Jvm.Free.XT.i0_le_t (by decide)) (by decide) (by decide) ?_
    refine ow_iload (q := 229) X14 hx (hb hby at_227) rfl rfl ?_
    refine ow_iconst (q := 230) X14 hx (1 : Int32) (hb hby at_229) rfl rfl ?_
    refine ow_icmpYes (q := 255) X14 hx (hb hby at_230) (Jvm.Free.XT.ii_le_t (by decide)) (by decide) (by decide) ?_
    refine ow_iload (q := 257) X14 hx (hb hby at_255) rfl rfl ?_
    refine ow_iconst (q := 258) X14 hx (2 : Int32) (hb hby at_257) rfl rfl ?_
    refine ow_icmpYes (q := 283) X14 hx (hb hby at_258) (Jvm.Free.XT.ii_le_t (by decide)) (by decide) (by decide) ?_
    refine ow_iload (q := 285) X14 hx (hb hby at_283) rfl rfl ?_
    refine ow_iconst (q := 286) X14 hx (3 : Int32) (hb hby at_285) rfl rfl ?_
    refine ow_icmpYes (q := 311) X14 hx (hb hby at_286) (Jvm.Free.XT.ii_le_t (by decide)) (by decide) (by decide) ?_
    refine ow_iconst (q := 312) X14 hx (1 : Int32) (hb hby at_311) rfl rfl ?_
    refine ownRetN X14 hx (r := (1 : Int32)) (Or.inl rfl) Bd.returns (hb hby at_312) hlk (by decide) (by decide) (by decide) ?_
    exact ⟨rfl, N14⟩
  · refine ow_iload (q := 9) X0 hx (hb hby at_7) rfl rfl ?_
    refine ow_ifYes (q := 16) X0 hx (hb hby at_9) (Jvm.Free.XT.i0_ne_t hz2) (by decide) (by decide) ?_
    refine ow_iloadN (q := 17) X0 hx (hb hby at_16) rfl rfl ?_
    refine ow_iconst (q := 18) X0 hx (3 : Int32) (hb hby at_17) rfl rfl ?_
    refine ow_iand (q := 19) X0 hx _ (hb hby at_18) rfl rfl ?_
    generalize hv_v18 : (p1 &&& (3 : Int32)) = v18
    refine ow_istore (q := 21) X0 hx (L' := #[iv p0, iv p1, iv p2, iv p3, iv p4, iv v1, iv v18, .unset, .unset, .unset, .unset, .unset, .unset, .unset]) (hb hby at_19) rfl rfl ?_
    rcases own_and3 hv_v18 with hs19 | hs20 | hs21 | hs22
    · subst hs19
      refine ow_iload (q := 23) X0 hx (hb hby at_21) rfl rfl ?_
      refine ow_ifYes (q := 30) X0 hx (hb hby at_23) (Jvm.Free.XT.i0_ne_t hz2) (by decide) (by decide) ?_
      refine ow_iloadN (q := 31) X0 hx (hb hby at_30) rfl rfl ?_
      refine ownGo (T' := s₁) (f' := (mkF m 33 #[iv p0, iv p1, iv p2, iv p3, iv p4, iv v1, iv (0 : Int32), .unset, .unset, .unset, .unset, .unset, .unset, .unset] [(.int (2147483647 : Int32)), (.int p2)])) (X0.ldcInt hx hown (mvT hZ (hw _ (List.mem_of_getElem? (i := 34) rfl))) (g := (mkF m 31 #[iv p0, iv p1, iv p2, iv p3, iv p4, iv v1, iv (0 : Int32), .unset, .unset, .unset, .unset, .unset, .unset, .unset] [(.int p2)])) rfl (hb hby at_31)) ?_
      refine ow_iand (q := 34) X0 hx _ (hb hby at_33) rfl rfl ?_
      refine ow_iload (q := 36) X0 hx (hb hby at_34) rfl rfl ?_
      refine ow_irem (q := 37) X0 hx _ (hb hby at_36) rfl hz2 rfl ?_
      generalize hv_v23 : ((p2 &&& (2147483647 : Int32)) % v1) = v23
      refine ow_istore (q := 39) X0 hx (L' := #[iv p0, iv p1, iv p2, iv p3, iv p4, iv v1, iv (0 : Int32), iv v23, .unset, .unset, .unset, .unset, .unset, .unset]) (hb hby at_37) rfl rfl ?_
      refine ow_iload (q := 41) X0 hx (hb hby at_39) rfl rfl ?_
      refine ow_ifYes (q := 48) X0 hx (hb hby at_41) (Jvm.Free.XT.i0_ne_t hz2) (by decide) (by decide) ?_
      refine ow_iloadN (q := 49) X0 hx (hb hby at_48) rfl rfl ?_
      refine ownGo (T' := s₁) (f' := (mkF m 51 #[iv p0, iv p1, iv p2, iv p3, iv p4, iv v1, iv (0 : Int32), iv v23, .unset, .unset, .unset, .unset, .unset, .unset] [(.int (2147483647 : Int32)), (.int p3)])) (X0.ldcInt hx hown (mvT hZ (hw _ (List.mem_of_getElem? (i := 34) rfl))) (g := (mkF m 49 #[iv p0, iv p1, iv p2, iv p3, iv p4, iv v1, iv (0 : Int32), iv v23, .unset, .unset, .unset, .unset, .unset, .unset] [(.int p3)])) rfl (hb hby at_49)) ?_
      refine ow_iand (q := 52) X0 hx _ (hb hby at_51) rfl rfl ?_
      refine ow_iload (q := 54) X0 hx (hb hby at_52) rfl rfl ?_
      refine ow_irem (q := 55) X0 hx _ (hb hby at_54) rfl hz2 rfl ?_
      generalize hv_v24 : ((p3 &&& (2147483647 : Int32)) % v1) = v24
      refine ow_istore (q := 57) X0 hx (L' := #[iv p0, iv p1, iv p2, iv p3, iv p4, iv v1, iv (0 : Int32), iv v23, iv v24, .unset, .unset, .unset, .unset, .unset]) (hb hby at_55) rfl rfl ?_
      refine ow_iload (q := 59) X0 hx (hb hby at_57) rfl rfl ?_
      refine ow_ifYes (q := 66) X0 hx (hb hby at_59) (Jvm.Free.XT.i0_ne_t hz2) (by decide) (by decide) ?_
      refine ow_iload (q := 68) X0 hx (hb hby at_66) rfl rfl ?_
      refine ownGo (T' := s₁) (f' := (mkF m 70 #[iv p0, iv p1, iv p2, iv p3, iv p4, iv v1, iv (0 : Int32), iv v23, iv v24, .unset, .unset, .unset, .unset, .unset] [(.int (2147483647 : Int32)), (.int p4)])) (X0.ldcInt hx hown (mvT hZ (hw _ (List.mem_of_getElem? (i := 34) rfl))) (g := (mkF m 68 #[iv p0, iv p1, iv p2, iv p3, iv p4, iv v1, iv (0 : Int32), iv v23, iv v24, .unset, .unset, .unset, .unset, .unset] [(.int p4)])) rfl (hb hby at_68)) ?_
      refine ow_iand (q := 71) X0 hx _ (hb hby at_70) rfl rfl ?_
      refine ow_iload (q := 73) X0 hx (hb hby at_71) rfl rfl ?_
      refine ow_irem (q := 74) X0 hx _ (hb hby at_73) rfl hz2 rfl ?_
      generalize hv_v25 : ((p4 &&& (2147483647 : Int32)) % v1) = v25
      refine ow_istore (q := 76) X0 hx (L' := #[iv p0, iv p1, iv p2, iv p3, iv p4, iv v1, iv (0 : Int32), iv v23, iv v24, iv v25, .unset, .unset, .unset, .unset]) (hb hby at_74) rfl rfl ?_
      refine ow_iload (q := 78) X0 hx (hb hby at_76) rfl rfl ?_
      obtain ⟨T26, h26, k26, X26, e26, E26, A26, st26⟩ := newP X0 hx hZ (hw _ (List.mem_of_getElem? (i := 0) rfl)) e0 (g := (mkF m 78 #[iv p0, iv p1, iv p2, iv p3, iv p4, iv v1, iv (0 : Int32), iv v23, iv v24, iv v25, .unset, .unset, .unset, .unset] [(.int (0 : Int32))])) rfl (hb hby at_78) rfl (by decide) (cap := 0) (by decide) (by decide) (by decide) (by decide)
      obtain ⟨b26, g26⟩ : ∃ z, z = h0.size := ⟨_, rfl⟩
      rw [← g26] at A26 st26
      have sz_b26 : h0.size ≤ b26 := Nat.le_trans K0.1 (Nat.le_of_eq g26.symm)
      have G_b26 : n0 ≤ b26 := Nat.le_trans Z0 sz_b26
      have K26 : Keep h0 h26 [] := K0.ext E26
      have F27 : ownAI Z h26 b26 .int 0 (fun _ => (0 : Int32)) := ownAI.new A26 (by decide) rfl (by decide)
      refine ownGo (T' := T26) (f' := (mkF m 80 #[iv p0, iv p1, iv p2, iv p3, iv p4, iv v1, iv (0 : Int32), iv v23, iv v24, iv v25, .unset, .unset, .unset, .unset] [(.ref b26)])) (st26) ?_
      refine ow_astore (q := 82) X26 hx (L' := #[iv p0, iv p1, iv p2, iv p3, iv p4, iv v1, iv (0 : Int32), iv v23, iv v24, iv v25, rv b26, .unset, .unset, .unset]) (hb hby at_80) rfl rfl rfl ?_
      refine ow_iload (q := 84) X26 hx (hb hby at_82) rfl rfl ?_
      refine ow_ifYes (q := 93) X26 hx (hb hby at_84) (Jvm.Free.XT.i0_le_t (by decide)) (by decide) (by decide) ?_
      refine ow_iload (q := 95) X26 hx (hb hby at_93) rfl rfl ?_
      refine ow_iconst (q := 96) X26 hx (1 : Int32) (hb hby at_95) rfl rfl ?_
      refine ow_icmpYes (q := 105) X26 hx (hb hby at_96) (Jvm.Free.XT.ii_le_t (by decide)) (by decide) (by decide) ?_
      refine ow_iload (q := 107) X26 hx (hb hby at_105) rfl rfl ?_
      refine ow_iconst (q := 108) X26 hx (2 : Int32) (hb hby at_107) rfl rfl ?_
      refine ow_icmpYes (q := 117) X26 hx (hb hby at_108) (Jvm.Free.XT.ii_le_t (by decide)) (by decide) (by decide) ?_
      rcases own_cls hv_v1 hz2 with hL | hL | hL | hL
      · obtain ⟨T28, h28, X28, e28, E28, A28, D28, -, st28⟩ := newO X26 hx hZ hown (hw _ (List.mem_of_getElem? (i := 1) rfl)) (hw _ (List.mem_of_getElem? (i := 2) rfl)) (hw _ (List.mem_of_getElem? (i := 3) rfl)) e26 (g := (mkF m 117 #[iv p0, iv p1, iv p2, iv p3, iv p4, iv v1, iv (0 : Int32), iv v23, iv v24, iv v25, rv b26, .unset, .unset, .unset] [])) rfl (hb hby at_117) (by decide) (by decide)
        obtain ⟨b28, g28⟩ : ∃ z, z = h26.size := ⟨_, rfl⟩
        rw [← g28] at A28 D28 st28
        have ne_b26_b28 : b26 ≠ b28 := Nat.ne_of_lt (Nat.lt_of_lt_of_le F27.lt (Nat.le_of_eq g28.symm))
        have sz_b28 : h0.size ≤ b28 := Nat.le_trans K26.1 (Nat.le_of_eq g28.symm)
        have G_b28 : n0 ≤ b28 := Nat.le_trans Z0 sz_b28
        have K28 : Keep h0 h28 [] := K26.ext E28
        have F29 : ownAI Z h28 b26 .int 0 (fun _ => (0 : Int32)) := F27.ext E28
        have F30 : Fld Z h28 b28 "com/example/sieveline/sieveline/solver/BitMatrix" "rowWords" "I" (.int (0 : Int32)) := D28 (Or.inr (hw _ (List.mem_of_getElem? (i := 14) rfl))) (ty := .int) (by decide)
        have F31 : Fld Z h28 b28 "com/example/sieveline/sieveline/solver/BitMatrix" "words" "[J" .null := D28 (Or.inr (hw _ (List.mem_of_getElem? (i := 24) rfl))) (ty := (.array .long)) (by decide)
        have F32 : Fld Z h28 b28 "com/example/sieveline/sieveline/solver/BitMatrix" "rows" "I" (.int (0 : Int32)) := D28 (Or.inr (hw _ (List.mem_of_getElem? (i := 26) rfl))) (ty := .int) (by decide)
        have F33 : Fld Z h28 b28 "com/example/sieveline/sieveline/solver/BitMatrix" "columns" "I" (.int (0 : Int32)) := D28 (Or.inr (hw _ (List.mem_of_getElem? (i := 28) rfl))) (ty := .int) (by decide)
        refine ownGo (T' := T28) (f' := (mkF m 120 #[iv p0, iv p1, iv p2, iv p3, iv p4, iv v1, iv (0 : Int32), iv v23, iv v24, iv v25, rv b26, .unset, .unset, .unset] [(.ref b28)])) (st28) ?_
        refine ow_dup (q := 121) X28 hx (hb hby at_120) rfl rfl ?_
        refine ow_iconst (q := 122) X28 hx (1 : Int32) (hb hby at_121) rfl rfl ?_
        refine ow_iload (q := 124) X28 hx (hb hby at_122) rfl rfl ?_
        obtain ⟨_, _, ⟨T34, L34, k34, n34⟩, -, X34, ⟨Lc34, hQ34, l34, y34, z34⟩, st34⟩ := X28.specialBack hx (y := (⟨"com/example/sieveline/sieveline/solver/BitMatrix", "<init>", "(II)V"⟩ : MethodName)) rfl hown (mvT hZ (hw _ (List.mem_of_getElem? (i := 4) rfl))) (mvT hZ (hw _ (List.mem_of_getElem? (i := 5) rfl))) (mvT hZ (hw _ (List.mem_of_getElem? (i := 6) rfl))) (by decide) (backOf (W := 1) (rm_init_1 l Z av0 hw [] b28 v1 h28 n0 (Nat.le_trans Z0 K28.1) A28 F30 F31 F32 F33 G_b28 hL.1) hZ (hw _ (List.mem_of_getElem? (i := 6) rfl)) (hw _ (List.mem_of_getElem? (i := 3) rfl)) (by decide) (by decide)) (g := (mkF m 124 #[iv p0, iv p1, iv p2, iv p3, iv p4, iv v1, iv (0 : Int32), iv v23, iv v24, iv v25, rv b26, .unset, .unset, .unset] [(.int v1), (.int (1 : Int32)), (.ref b28), (.ref b28)])) rfl (by rw [hml]; rfl) (Steps.refl _) (a := b28) (argsL := [(.int (1 : Int32)), (.int v1)]) (rest := [(.ref b28)]) (lenOf own_pd3 rfl) rfl (by show 2 * 0 + _ ≤ _; exact Nat.le_of_eq rfl) (hb hby at_124) (fun _ _ => ⟨rfl, e28, (by decide : 2 + 1 ≤ _), (by decide : 4 + 1 ≤ _)⟩)
        dsimp only [Pt.U, Pt.locs, Pt.cells, Pt.slots] at X34 l34 y34 z34 st34 hQ34
        subst l34 y34 z34
        obtain ⟨rfl, N34q, Kq34, FP34_0, FP34_1⟩ := hQ34
        have N34 := Fr.app N0 N34q
        have K34 : Keep h0 T34.heap [] := K28.trans Kq34 (allS (Or.inr sz_b28) all0)
        have F35 : ownAI Z T34.heap b26 .int 0 (fun _ => (0 : Int32)) := F29.keep Kq34 (ninS ne_b26_b28 nin0)
        have F36 : Exa Z T34.heap b28 "com/example/sieveline/sieveline/solver/BitMatrix" := A28.keep Kq34
        refine ownRun (T' := T34) (f' := (mkF m 127 #[iv p0, iv p1, iv p2, iv p3, iv p4, iv v1, iv (0 : Int32), iv v23, iv v24, iv v25, rv b26, .unset, .unset, .unset] [(.ref b28)])) st34 ?_
        refine ow_astore (q := 129) X34 hx (L' := #[iv p0, iv p1, iv p2, iv p3, iv p4, iv v1, iv (0 : Int32), iv v23, iv v24, iv v25, rv b26, rv b28, .unset, .unset]) (hb hby at_127) rfl rfl rfl ?_
        refine ow_aload (q := 131) X34 hx (hb hby at_129) rfl rfl rfl ?_
        refine ow_aload (q := 133) X34 hx (hb hby at_131) rfl rfl rfl ?_
        obtain ⟨cq37, kq37, q37a, q37b, q37c⟩ := isOf hZ rfl FP34_0
        obtain ⟨_, _, ⟨T37, L37, k37, n37⟩, -, X37, ⟨Lc37, hQ37, l37, y37, z37⟩, st37⟩ := X34.virtualBack hx (y := (⟨"com/example/sieveline/sieveline/solver/BitMatrix", "row", "([I)[J"⟩ : MethodName)) (z := (⟨"com/example/sieveline/sieveline/solver/BitMatrix", "row", "([I)[J"⟩ : MethodName)) hown (mvT hZ (hw _ (List.mem_of_getElem? (i := 29) rfl))) (mvT hZ (hw _ (List.mem_of_getElem? (i := 30) rfl))) (notFace_of_selects (args := #[]) (mvT hZ (hw _ (List.mem_of_getElem? (i := 32) rfl)))) (mvT hZ (hw _ (List.mem_of_getElem? (i := 32) rfl))) (mvT hZ (hw _ (List.mem_of_getElem? (i := 31) rfl))) (by decide) (backOf (W := 0) (rm_row_0_1 l Z av0 hw [] b28 b26 (fun _ => (0 : Int32)) T34.heap n0 (Nat.le_trans Z0 K34.1) FP34_1 F35) hZ (hw _ (List.mem_of_getElem? (i := 33) rfl)) (hw _ (List.mem_of_getElem? (i := 3) rfl)) (by decide) (by decide)) q37a q37c (g := (mkF m 133 #[iv p0, iv p1, iv p2, iv p3, iv p4, iv v1, iv (0 : Int32), iv v23, iv v24, iv v25, rv b26, rv b28, .unset, .unset] [(.ref b26), (.ref b28)])) rfl (by rw [hml]; rfl) (Steps.refl _) (argsL := [(.ref b26)]) (rest := []) (lenOf own_pd4 rfl) rfl (by show 2 * 0 + _ ≤ _; exact Nat.le_of_eq rfl) (hb hby at_133) (fun _ _ => ⟨rfl, rfl, (by decide : 3 + 1 ≤ _), (by decide : 5 + 1 ≤ _)⟩)
        dsimp only [Pt.U, Pt.locs, Pt.cells, Pt.slots] at X37 l37 y37 z37 st37 hQ37
        subst l37 y37 z37
        obtain ⟨b37, rfl, N37q, Kq37, sq37_b37, FP37_0⟩ := hQ37
        have N37 := Fr.app N34 N37q
        have K37 : Keep h0 T37.heap [] := K34.trans Kq37 all0
        have ne_b26_b37 : b26 ≠ b37 := Nat.ne_of_lt (Nat.lt_of_lt_of_le F35.lt sq37_b37)
        have ne_b28_b37 : b28 ≠ b37 := Nat.ne_of_lt (Nat.lt_of_lt_of_le FP34_0.lt sq37_b37)
        have sz_b37 : h0.size ≤ b37 := Nat.le_trans K34.1 sq37_b37
        have G_b37 : n0 ≤ b37 := Nat.le_trans Z0 sz_b37
        have F38 : ownAI Z T37.heap b26 .int 0 (fun _ => (0 : Int32)) := F35.keep Kq37 nin0
        have F39 : Exa Z T37.heap b28 "com/example/sieveline/sieveline/solver/BitMatrix" := FP34_0.keep Kq37
        have F40 : Fld Z T37.heap b28 "com/example/sieveline/sieveline/solver/BitMatrix" "rowWords" "I" (.int (1 : Int32)) := FP34_1.keep Kq37 nin0
        refine ownRun (T' := T37) (f' := (mkF m 136 #[iv p0, iv p1, iv p2, iv p3, iv p4, iv v1, iv (0 : Int32), iv v23, iv v24, iv v25, rv b26, rv b28, .unset, .unset] [(.ref b37)])) st37 ?_
        refine ow_astore (q := 138) X37 hx (L' := #[iv p0, iv p1, iv p2, iv p3, iv p4, iv v1, iv (0 : Int32), iv v23, iv v24, iv v25, rv b26, rv b28, rv b37, .unset]) (hb hby at_136) rfl rfl rfl ?_
        refine ow_iload (q := 140) X37 hx (hb hby at_138) rfl rfl ?_
        refine ow_ifYes (q := 147) X37 hx (hb hby at_140) (Jvm.Free.XT.i0_ne_t hz2) (by decide) (by decide) ?_
        refine ow_iload (q := 149) X37 hx (hb hby at_147) rfl rfl ?_
        refine ow_bipush (q := 151) X37 hx (64 : Int32) (hb hby at_149) rfl rfl ?_
        refine ow_icmpNo (q := 154) X37 hx (hb hby at_151) rfl (Jvm.Free.XT.ii_gt_f (by simp only [Int32.lt_iff_toInt_lt, Int32.reduceToInt]; have := hL.2; omega)) ?_
        refine ow_iconst (q := 155) X37 hx (1 : Int32) (hb hby at_154) rfl rfl ?_
        refine ow_goto (q := 183) X37 hx (hb hby at_155) (by decide) (by decide) ?_
        refine ow_istore (q := 185) X37 hx (L' := #[iv p0, iv p1, iv p2, iv p3, iv p4, iv v1, iv (0 : Int32), iv v23, iv v24, iv v25, rv b26, rv b28, rv b37, iv (1 : Int32)]) (hb hby at_183) rfl rfl ?_
        refine ow_aload (q := 187) X37 hx (hb hby at_185) rfl rfl rfl ?_
        refine ownGo (T' := T37) (f' := (mkF m 190 #[iv p0, iv p1, iv p2, iv p3, iv p4, iv v1, iv (0 : Int32), iv v23, iv v24, iv v25, rv b26, rv b28, rv b37, iv (1 : Int32)] [])) (fun _ k => XS.ifnullNo X37.here hx rfl (hb hby at_187) rfl k) ?_
        refine ow_aload (q := 192) X37 hx (hb hby at_190) rfl rfl rfl ?_
        refine ownGo (T' := T37) (f' := (mkF m 193 #[iv p0, iv p1, iv p2, iv p3, iv p4, iv v1, iv (0 : Int32), iv v23, iv v24, iv v25, rv b26, rv b28, rv b37, iv (1 : Int32)] [(.int (1 : Int32))])) (ownLenJ FP37_0 X37 hx hZ rfl (z := (1 : Int32)) (by decide) (g := (mkF m 192 #[iv p0, iv p1, iv p2, iv p3, iv p4, iv v1, iv (0 : Int32), iv v23, iv v24, iv v25, rv b26, rv b28, rv b37, iv (1 : Int32)] [(.ref b37)])) rfl rfl (hb hby at_192)) ?_
        refine ow_iload (q := 195) X37 hx (hb hby at_193) rfl rfl ?_
        refine ow_icmpYes (q := 200) X37 hx (hb hby at_195) (Jvm.Free.XT.ii_eq_t (by decide)) (by decide) (by decide) ?_
        refine ow_iload (q := 202) X37 hx (hb hby at_200) rfl rfl ?_
        refine ow_ifNo (q := 205) X37 hx (hb hby at_202) rfl (Jvm.Free.XT.i0_le_f (by decide)) ?_
        refine ow_aload (q := 207) X37 hx (hb hby at_205) rfl rfl rfl ?_
        refine ow_iconst (q := 208) X37 hx (0 : Int32) (hb hby at_207) rfl rfl ?_
        refine ownGo (T' := T37) (f' := (mkF m 209 #[iv p0, iv p1, iv p2, iv p3, iv p4, iv v1, iv (0 : Int32), iv v23, iv v24, iv v25, rv b26, rv b28, rv b37, iv (1 : Int32)] [(.long (0 : Int64))])) (ownLaload FP37_0 X37 hx hZ rfl (j := (0 : Int32)) (by unfold ownIn; decide) (g := (mkF m 208 #[iv p0, iv p1, iv p2, iv p3, iv p4, iv v1, iv (0 : Int32), iv v23, iv v24, iv v25, rv b26, rv b28, rv b37, iv (1 : Int32)] [(.int (0 : Int32)), (.ref b37)])) rfl rfl (hb hby at_208)) ?_
        refine ow_iconst (q := 210) X37 hx (0 : Int32) (hb hby at_209) rfl rfl ?_
        refine ow_iload (q := 212) X37 hx (hb hby at_210) rfl rfl ?_
        refine ow_iload (q := 214) X37 hx (hb hby at_212) rfl rfl ?_
        refine ow_iload (q := 216) X37 hx (hb hby at_214) rfl rfl ?_
        refine ow_iload (q := 218) X37 hx (hb hby at_216) rfl rfl ?_
        obtain ⟨_, _, ⟨T41, L41, k41, n41⟩, -, X41, ⟨Lc41, hQ41, l41, y41, z41⟩, st41⟩ := Jvm.LawKit.callS X37 hx (y := (⟨"com/example/sieveline/sieveline/solver/BitMatrixRowPinLaw", "expect", "(IIIII)J"⟩ : MethodName)) hown (mvT hZ (hw _ (List.mem_of_getElem? (i := 35) rfl))) (mvT hZ (hw _ (List.mem_of_getElem? (i := 36) rfl))) (mvT hZ (hw _ (List.mem_of_getElem? (i := 37) rfl))) (mvT hZ (hw _ (List.mem_of_getElem? (i := 38) rfl))) (by decide) (backOf (W := 2) (rm_exp_0_0 l Z av0 hw [] v23 v24 v25 T37.heap n0 (Nat.le_trans Z0 K37.1) ) hZ (hw _ (List.mem_of_getElem? (i := 38) rfl)) (hw _ (List.mem_of_getElem? (i := 37) rfl)) (by decide) (by decide)) (g := (mkF m 218 #[iv p0, iv p1, iv p2, iv p3, iv p4, iv v1, iv (0 : Int32), iv v23, iv v24, iv v25, rv b26, rv b28, rv b37, iv (1 : Int32)] [(.int v25), (.int v24), (.int v23), (.int (0 : Int32)), (.int (0 : Int32)), (.long (0 : Int64))])) rfl (by rw [hml]; rfl) (argsL := [(.int (0 : Int32)), (.int (0 : Int32)), (.int v23), (.int v24), (.int v25)]) (rest := [(.long (0 : Int64))]) (lenOf own_pd5 rfl) rfl (by show 2 * 0 + _ ≤ _; exact Nat.le_of_eq rfl) (hb hby at_218) (fun _ _ => ⟨rfl, rfl, (by decide : 4 + 0 ≤ _), (by decide : 6 + 0 ≤ _)⟩)
        dsimp only [Pt.U, Pt.locs, Pt.cells, Pt.slots] at X41 l41 y41 z41 st41 hQ41
        subst l41 y41 z41
        obtain ⟨rfl, N41q, e41⟩ := hQ41
        have N41 := Fr.app N37 N41q
        refine ownGo (T' := T41) (f' := (mkF m 221 #[iv p0, iv p1, iv p2, iv p3, iv p4, iv v1, iv (0 : Int32), iv v23, iv v24, iv v25, rv b26, rv b28, rv b37, iv (1 : Int32)] [(.long (0 : Int64)), (.long (0 : Int64))])) (st41) ?_
        refine ow_lcmp (q := 222) X41 hx _ (hb hby at_221) rfl rfl ?_
        refine ow_ifYes (q := 227) X41 hx (hb hby at_222) (Jvm.Free.XT.ll_eq_t (by decide)) (by decide) (by decide) ?_
        refine ow_iload (q := 229) X41 hx (hb hby at_227) rfl rfl ?_
        refine ow_iconst (q := 230) X41 hx (1 : Int32) (hb hby at_229) rfl rfl ?_
        refine ow_icmpYes (q := 255) X41 hx (hb hby at_230) (Jvm.Free.XT.ii_le_t (by decide)) (by decide) (by decide) ?_
        refine ow_iload (q := 257) X41 hx (hb hby at_255) rfl rfl ?_
        refine ow_iconst (q := 258) X41 hx (2 : Int32) (hb hby at_257) rfl rfl ?_
        refine ow_icmpYes (q := 283) X41 hx (hb hby at_258) (Jvm.Free.XT.ii_le_t (by decide)) (by decide) (by decide) ?_
        refine ow_iload (q := 285) X41 hx (hb hby at_283) rfl rfl ?_
        refine ow_iconst (q := 286) X41 hx (3 : Int32) (hb hby at_285) rfl rfl ?_
        refine ow_icmpYes (q := 311) X41 hx (hb hby at_286) (Jvm.Free.XT.ii_le_t (by decide)) (by decide) (by decide) ?_
        refine ow_iconst (q := 312) X41 hx (1 : Int32) (hb hby at_311) rfl rfl ?_
        refine ownRetN X41 hx (r := (1 : Int32)) (Or.inl rfl) Bd.returns (hb hby at_312) hlk (by decide) (by decide) (by decide) ?_
        exact ⟨rfl, N41⟩
      · obtain ⟨T42, h42, X42, e42, E42, A42, D42, -, st42⟩ := newO X26 hx hZ hown (hw _ (List.mem_of_getElem? (i := 1) rfl)) (hw _ (List.mem_of_getElem? (i := 2) rfl)) (hw _ (List.mem_of_getElem? (i := 3) rfl)) e26 (g := (mkF m 117 #[iv p0, iv p1, iv p2, iv p3, iv p4, iv v1, iv (0 : Int32), iv v23, iv v24, iv v25, rv b26, .unset, .unset, .unset] [])) rfl (hb hby at_117) (by decide) (by decide)
        obtain ⟨b42, g42⟩ : ∃ z, z = h26.size := ⟨_, rfl⟩
        rw [← g42] at A42 D42 st42
        have ne_b26_b42 : b26 ≠ b42 := Nat.ne_of_lt (Nat.lt_of_lt_of_le F27.lt (Nat.le_of_eq g42.symm))
        have sz_b42 : h0.size ≤ b42 := Nat.le_trans K26.1 (Nat.le_of_eq g42.symm)
        have G_b42 : n0 ≤ b42 := Nat.le_trans Z0 sz_b42
        have K42 : Keep h0 h42 [] := K26.ext E42
        have F43 : ownAI Z h42 b26 .int 0 (fun _ => (0 : Int32)) := F27.ext E42
        have F44 : Fld Z h42 b42 "com/example/sieveline/sieveline/solver/BitMatrix" "rowWords" "I" (.int (0 : Int32)) := D42 (Or.inr (hw _ (List.mem_of_getElem? (i := 14) rfl))) (ty := .int) (by decide)
        have F45 : Fld Z h42 b42 "com/example/sieveline/sieveline/solver/BitMatrix" "words" "[J" .null := D42 (Or.inr (hw _ (List.mem_of_getElem? (i := 24) rfl))) (ty := (.array .long)) (by decide)
        have F46 : Fld Z h42 b42 "com/example/sieveline/sieveline/solver/BitMatrix" "rows" "I" (.int (0 : Int32)) := D42 (Or.inr (hw _ (List.mem_of_getElem? (i := 26) rfl))) (ty := .int) (by decide)
        have F47 : Fld Z h42 b42 "com/example/sieveline/sieveline/solver/BitMatrix" "columns" "I" (.int (0 : Int32)) := D42 (Or.inr (hw _ (List.mem_of_getElem? (i := 28) rfl))) (ty := .int) (by decide)
        refine ownGo (T' := T42) (f' := (mkF m 120 #[iv p0, iv p1, iv p2, iv p3, iv p4, iv v1, iv (0 : Int32), iv v23, iv v24, iv v25, rv b26, .unset, .unset, .unset] [(.ref b42)])) (st42) ?_
        refine ow_dup (q := 121) X42 hx (hb hby at_120) rfl rfl ?_
        refine ow_iconst (q := 122) X42 hx (1 : Int32) (hb hby at_121) rfl rfl ?_
        refine ow_iload (q := 124) X42 hx (hb hby at_122) rfl rfl ?_
        obtain ⟨_, _, ⟨T48, L48, k48, n48⟩, -, X48, ⟨Lc48, hQ48, l48, y48, z48⟩, st48⟩ := X42.specialBack hx (y := (⟨"com/example/sieveline/sieveline/solver/BitMatrix", "<init>", "(II)V"⟩ : MethodName)) rfl hown (mvT hZ (hw _ (List.mem_of_getElem? (i := 4) rfl))) (mvT hZ (hw _ (List.mem_of_getElem? (i := 5) rfl))) (mvT hZ (hw _ (List.mem_of_getElem? (i := 6) rfl))) (by decide) (backOf (W := 1) (rm_init_2 l Z av0 hw [] b42 v1 h42 n0 (Nat.le_trans Z0 K42.1) A42 F44 F45 F46 F47 G_b42 hL.1) hZ (hw _ (List.mem_of_getElem? (i := 6) rfl)) (hw _ (List.mem_of_getElem? (i := 3) rfl)) (by decide) (by decide)) (g := (mkF m 124 #[iv p0, iv p1, iv p2, iv p3, iv p4, iv v1, iv (0 : Int32), iv v23, iv v24, iv v25, rv b26, .unset, .unset, .unset] [(.int v1), (.int (1 : Int32)), (.ref b42), (.ref b42)])) rfl (by rw [hml]; rfl) (Steps.refl _) (a := b42) (argsL := [(.int (1 : Int32)), (.int v1)]) (rest := [(.ref b42)]) (lenOf own_pd3 rfl) rfl (by show 2 * 0 + _ ≤ _; exact Nat.le_of_eq rfl) (hb hby at_124) (fun _ _ => ⟨rfl, e42, (by decide : 2 + 1 ≤ _), (by decide : 4 + 2 ≤ _)⟩)
        dsimp only [Pt.U, Pt.locs, Pt.cells, Pt.slots] at X48 l48 y48 z48 st48 hQ48
        subst l48 y48 z48
        obtain ⟨rfl, N48q, Kq48, FP48_0, FP48_1⟩ := hQ48
        have N48 := Fr.app N0 N48q
        have K48 : Keep h0 T48.heap [] := K42.trans Kq48 (allS (Or.inr sz_b42) all0)
        have F49 : ownAI Z T48.heap b26 .int 0 (fun _ => (0 : Int32)) := F43.keep Kq48 (ninS ne_b26_b42 nin0)
        have F50 : Exa Z T48.heap b42 "com/example/sieveline/sieveline/solver/BitMatrix" := A42.keep Kq48
        refine ownRun (T' := T48) (f' := (mkF m 127 #[iv p0, iv p1, iv p2, iv p3, iv p4, iv v1, iv (0 : Int32), iv v23, iv v24, iv v25, rv b26, .unset, .unset, .unset] [(.ref b42)])) st48 ?_
        refine ow_astore (q := 129) X48 hx (L' := #[iv p0, iv p1, iv p2, iv p3, iv p4, iv v1, iv (0 : Int32), iv v23, iv v24, iv v25, rv b26, rv b42, .unset, .unset]) (hb hby at_127) rfl rfl rfl ?_
        refine ow_aload (q := 131) X48 hx (hb hby at_129) rfl rfl rfl ?_
        refine ow_aload (q := 133) X48 hx (hb hby at_131) rfl rfl rfl ?_
        obtain ⟨cq51, kq51, q51a, q51b, q51c⟩ := isOf hZ rfl FP48_0
        obtain ⟨_, _, ⟨T51, L51, k51, n51⟩, -, X51, ⟨Lc51, hQ51, l51, y51, z51⟩, st51⟩ := X48.virtualBack hx (y := (⟨"com/example/sieveline/sieveline/solver/BitMatrix", "row", "([I)[J"⟩ : MethodName)) (z := (⟨"com/example/sieveline/sieveline/solver/BitMatrix", "row", "([I)[J"⟩ : MethodName)) hown (mvT hZ (hw _ (List.mem_of_getElem? (i := 29) rfl))) (mvT hZ (hw _ (List.mem_of_getElem? (i := 30) rfl))) (notFace_of_selects (args := #[]) (mvT hZ (hw _ (List.mem_of_getElem? (i := 32) rfl)))) (mvT hZ (hw _ (List.mem_of_getElem? (i := 32) rfl))) (mvT hZ (hw _ (List.mem_of_getElem? (i := 31) rfl))) (by decide) (backOf (W := 0) (rm_row_0_2 l Z av0 hw [] b42 b26 (fun _ => (0 : Int32)) T48.heap n0 (Nat.le_trans Z0 K48.1) FP48_1 F49) hZ (hw _ (List.mem_of_getElem? (i := 33) rfl)) (hw _ (List.mem_of_getElem? (i := 3) rfl)) (by decide) (by decide)) q51a q51c (g := (mkF m 133 #[iv p0, iv p1, iv p2, iv p3, iv p4, iv v1, iv (0 : Int32), iv v23, iv v24, iv v25, rv b26, rv b42, .unset, .unset] [(.ref b26), (.ref b42)])) rfl (by rw [hml]; rfl) (Steps.refl _) (argsL := [(.ref b26)]) (rest := []) (lenOf own_pd4 rfl) rfl (by show 2 * 0 + _ ≤ _; exact Nat.le_of_eq rfl) (hb hby at_133) (fun _ _ => ⟨rfl, rfl, (by decide : 3 + 1 ≤ _), (by decide : 6 + 2 ≤ _)⟩)
        dsimp only [Pt.U, Pt.locs, Pt.cells, Pt.slots] at X51 l51 y51 z51 st51 hQ51
        subst l51 y51 z51
        obtain ⟨b51, rfl, N51q, Kq51, sq51_b51, FP51_0⟩ := hQ51
        have N51 := Fr.app N48 N51q
        have K51 : Keep h0 T51.heap [] := K48.trans Kq51 all0
        have ne_b26_b51 : b26 ≠ b51 := Nat.ne_of_lt (Nat.lt_of_lt_of_le F49.lt sq51_b51)
        have ne_b42_b51 : b42 ≠ b51 := Nat.ne_of_lt (Nat.lt_of_lt_of_le FP48_0.lt sq51_b51)
        have sz_b51 : h0.size ≤ b51 := Nat.le_trans K48.1 sq51_b51
        have G_b51 : n0 ≤ b51 := Nat.le_trans Z0 sz_b51
        have F52 : ownAI Z T51.heap b26 .int 0 (fun _ => (0 : Int32)) := F49.keep Kq51 nin0
        have F53 : Exa Z T51.heap b42 "com/example/sieveline/sieveline/solver/BitMatrix" := FP48_0.keep Kq51
        have F54 : Fld Z T51.heap b42 "com/example/sieveline/sieveline/solver/BitMatrix" "rowWords" "I" (.int (2 : Int32)) := FP48_1.keep Kq51 nin0
        refine ownRun (T' := T51) (f' := (mkF m 136 #[iv p0, iv p1, iv p2, iv p3, iv p4, iv v1, iv (0 : Int32), iv v23, iv v24, iv v25, rv b26, rv b42, .unset, .unset] [(.ref b51)])) st51 ?_
        refine ow_astore (q := 138) X51 hx (L' := #[iv p0, iv p1, iv p2, iv p3, iv p4, iv v1, iv (0 : Int32), iv v23, iv v24, iv v25, rv b26, rv b42, rv b51, .unset]) (hb hby at_136) rfl rfl rfl ?_
        refine ow_iload (q := 140) X51 hx (hb hby at_138) rfl rfl ?_
        refine ow_ifYes (q := 147) X51 hx (hb hby at_140) (Jvm.Free.XT.i0_ne_t hz2) (by decide) (by decide) ?_
        refine ow_iload (q := 149) X51 hx (hb hby at_147) rfl rfl ?_
        refine ow_bipush (q := 151) X51 hx (64 : Int32) (hb hby at_149) rfl rfl ?_
        refine ow_icmpYes (q := 158) X51 hx (hb hby at_151) (Jvm.Free.XT.ii_gt_t (by simp only [Int32.lt_iff_toInt_lt, Int32.reduceToInt]; have := hL.2; omega)) (by decide) (by decide) ?_
        refine ow_iload (q := 160) X51 hx (hb hby at_158) rfl rfl ?_
        refine ow_sipush (q := 163) X51 hx (128 : Int32) (hb hby at_160) rfl rfl ?_
        refine ow_icmpNo (q := 166) X51 hx (hb hby at_163) rfl (Jvm.Free.XT.ii_gt_f (by simp only [Int32.lt_iff_toInt_lt, Int32.reduceToInt]; have := hL.2; omega)) ?_
        refine ow_iconst (q := 167) X51 hx (2 : Int32) (hb hby at_166) rfl rfl ?_
        refine ow_goto (q := 183) X51 hx (hb hby at_167) (by decide) (by decide) ?_
        refine ow_istore (q := 185) X51 hx (L' := #[iv p0, iv p1, iv p2, iv p3, iv p4, iv v1, iv (0 : Int32), iv v23, iv v24, iv v25, rv b26, rv b42, rv b51, iv (2 : Int32)]) (hb hby at_183) rfl rfl ?_
        refine ow_aload (q := 187) X51 hx (hb hby at_185) rfl rfl rfl ?_
        refine ownGo (T' := T51) (f' := (mkF m 190 #[iv p0, iv p1, iv p2, iv p3, iv p4, iv v1, iv (0 : Int32), iv v23, iv v24, iv v25, rv b26, rv b42, rv b51, iv (2 : Int32)] [])) (fun _ k => XS.ifnullNo X51.here hx rfl (hb hby at_187) rfl k) ?_
        refine ow_aload (q := 192) X51 hx (hb hby at_190) rfl rfl rfl ?_
        refine ownGo (T' := T51) (f' := (mkF m 193 #[iv p0, iv p1, iv p2, iv p3, iv p4, iv v1, iv (0 : Int32), iv v23, iv v24, iv v25, rv b26, rv b42, rv b51, iv (2 : Int32)] [(.int (2 : Int32))])) (ownLenJ FP51_0 X51 hx hZ rfl (z := (2 : Int32)) (by decide) (g := (mkF m 192 #[iv p0, iv p1, iv p2, iv p3, iv p4, iv v1, iv (0 : Int32), iv v23, iv v24, iv v25, rv b26, rv b42, rv b51, iv (2 : Int32)] [(.ref b51)])) rfl rfl (hb hby at_192)) ?_
        refine ow_iload (q := 195) X51 hx (hb hby at_193) rfl rfl ?_
        refine ow_icmpYes (q := 200) X51 hx (hb hby at_195) (Jvm.Free.XT.ii_eq_t (by decide)) (by decide) (by decide) ?_
        refine ow_iload (q := 202) X51 hx (hb hby at_200) rfl rfl ?_
        refine ow_ifNo (q := 205) X51 hx (hb hby at_202) rfl (Jvm.Free.XT.i0_le_f (by decide)) ?_
        refine ow_aload (q := 207) X51 hx (hb hby at_205) rfl rfl rfl ?_
        refine ow_iconst (q := 208) X51 hx (0 : Int32) (hb hby at_207) rfl rfl ?_
        refine ownGo (T' := T51) (f' := (mkF m 209 #[iv p0, iv p1, iv p2, iv p3, iv p4, iv v1, iv (0 : Int32), iv v23, iv v24, iv v25, rv b26, rv b42, rv b51, iv (2 : Int32)] [(.long (0 : Int64))])) (ownLaload FP51_0 X51 hx hZ rfl (j := (0 : Int32)) (by unfold ownIn; decide) (g := (mkF m 208 #[iv p0, iv p1, iv p2, iv p3, iv p4, iv v1, iv (0 : Int32), iv v23, iv v24, iv v25, rv b26, rv b42, rv b51, iv (2 : Int32)] [(.int (0 : Int32)), (.ref b51)])) rfl rfl (hb hby at_208)) ?_
        refine ow_iconst (q := 210) X51 hx (0 : Int32) (hb hby at_209) rfl rfl ?_
        refine ow_iload (q := 212) X51 hx (hb hby at_210) rfl rfl ?_
        refine ow_iload (q := 214) X51 hx (hb hby at_212) rfl rfl ?_
        refine ow_iload (q := 216) X51 hx (hb hby at_214) rfl rfl ?_
        refine ow_iload (q := 218) X51 hx (hb hby at_216) rfl rfl ?_
        obtain ⟨_, _, ⟨T55, L55, k55, n55⟩, -, X55, ⟨Lc55, hQ55, l55, y55, z55⟩, st55⟩ := Jvm.LawKit.callS X51 hx (y := (⟨"com/example/sieveline/sieveline/solver/BitMatrixRowPinLaw", "expect", "(IIIII)J"⟩ : MethodName)) hown (mvT hZ (hw _ (List.mem_of_getElem? (i := 35) rfl))) (mvT hZ (hw _ (List.mem_of_getElem? (i := 36) rfl))) (mvT hZ (hw _ (List.mem_of_getElem? (i := 37) rfl))) (mvT hZ (hw _ (List.mem_of_getElem? (i := 38) rfl))) (by decide) (backOf (W := 2) (rm_exp_0_0 l Z av0 hw [] v23 v24 v25 T51.heap n0 (Nat.le_trans Z0 K51.1) ) hZ (hw _ (List.mem_of_getElem? (i := 38) rfl)) (hw _ (List.mem_of_getElem? (i := 37) rfl)) (by decide) (by decide)) (g := (mkF m 218 #[iv p0, iv p1, iv p2, iv p3, iv p4, iv v1, iv (0 : Int32), iv v23, iv v24, iv v25, rv b26, rv b42, rv b51, iv (2 : Int32)] [(.int v25), (.int v24), (.int v23), (.int (0 : Int32)), (.int (0 : Int32)), (.long (0 : Int64))])) rfl (by rw [hml]; rfl) (argsL := [(.int (0 : Int32)), (.int (0 : Int32)), (.int v23), (.int v24), (.int v25)]) (rest := [(.long (0 : Int64))]) (lenOf own_pd5 rfl) rfl (by show 2 * 0 + _ ≤ _; exact Nat.le_of_eq rfl) (hb hby at_218) (fun _ _ => ⟨rfl, rfl, (by decide : 4 + 0 ≤ _), (by decide : 8 + 0 ≤ _)⟩)
        dsimp only [Pt.U, Pt.locs, Pt.cells, Pt.slots] at X55 l55 y55 z55 st55 hQ55
        subst l55 y55 z55
        obtain ⟨rfl, N55q, e55⟩ := hQ55
        have N55 := Fr.app N51 N55q
        refine ownGo (T' := T55) (f' := (mkF m 221 #[iv p0, iv p1, iv p2, iv p3, iv p4, iv v1, iv (0 : Int32), iv v23, iv v24, iv v25, rv b26, rv b42, rv b51, iv (2 : Int32)] [(.long (0 : Int64)), (.long (0 : Int64))])) (st55) ?_
        refine ow_lcmp (q := 222) X55 hx _ (hb hby at_221) rfl rfl ?_
        refine ow_ifYes (q := 227) X55 hx (hb hby at_222) (Jvm.Free.XT.ll_eq_t (by decide)) (by decide) (by decide) ?_
        refine ow_iload (q := 229) X55 hx (hb hby at_227) rfl rfl ?_
        refine ow_iconst (q := 230) X55 hx (1 : Int32) (hb hby at_229) rfl rfl ?_
        refine ow_icmpNo (q := 233) X55 hx (hb hby at_230) rfl (Jvm.Free.XT.ii_le_f (by decide)) ?_
        refine ow_aload (q := 235) X55 hx (hb hby at_233) rfl rfl rfl ?_
        refine ow_iconst (q := 236) X55 hx (1 : Int32) (hb hby at_235) rfl rfl ?_
        refine ownGo (T' := T55) (f' := (mkF m 237 #[iv p0, iv p1, iv p2, iv p3, iv p4, iv v1, iv (0 : Int32), iv v23, iv v24, iv v25, rv b26, rv b42, rv b51, iv (2 : Int32)] [(.long (0 : Int64))])) (ownLaload FP51_0 X55 hx hZ e55 (j := (1 : Int32)) (by unfold ownIn; decide) (g := (mkF m 236 #[iv p0, iv p1, iv p2, iv p3, iv p4, iv v1, iv (0 : Int32), iv v23, iv v24, iv v25, rv b26, rv b42, rv b51, iv (2 : Int32)] [(.int (1 : Int32)), (.ref b51)])) rfl rfl (hb hby at_236)) ?_
        refine ow_iconst (q := 238) X55 hx (1 : Int32) (hb hby at_237) rfl rfl ?_
        refine ow_iload (q := 240) X55 hx (hb hby at_238) rfl rfl ?_
        refine ow_iload (q := 242) X55 hx (hb hby at_240) rfl rfl ?_
        refine ow_iload (q := 244) X55 hx (hb hby at_242) rfl rfl ?_
        refine ow_iload (q := 246) X55 hx (hb hby at_244) rfl rfl ?_
        obtain ⟨_, _, ⟨T56, L56, k56, n56⟩, -, X56, ⟨Lc56, hQ56, l56, y56, z56⟩, st56⟩ := Jvm.LawKit.callS X55 hx (y := (⟨"com/example/sieveline/sieveline/solver/BitMatrixRowPinLaw", "expect", "(IIIII)J"⟩ : MethodName)) hown (mvT hZ (hw _ (List.mem_of_getElem? (i := 35) rfl))) (mvT hZ (hw _ (List.mem_of_getElem? (i := 36) rfl))) (mvT hZ (hw _ (List.mem_of_getElem? (i := 37) rfl))) (mvT hZ (hw _ (List.mem_of_getElem? (i := 38) rfl))) (by decide) (backOf (W := 2) (rm_exp_1_0 l Z av0 hw [] v23 v24 v25 T51.heap n0 (Nat.le_trans Z0 K51.1) ) hZ (hw _ (List.mem_of_getElem? (i := 38) rfl)) (hw _ (List.mem_of_getElem? (i := 37) rfl)) (by decide) (by decide)) (g := (mkF m 246 #[iv p0, iv p1, iv p2, iv p3, iv p4, iv v1, iv (0 : Int32), iv v23, iv v24, iv v25, rv b26, rv b42, rv b51, iv (2 : Int32)] [(.int v25), (.int v24), (.int v23), (.int (0 : Int32)), (.int (1 : Int32)), (.long (0 : Int64))])) rfl (by rw [hml]; rfl) (argsL := [(.int (1 : Int32)), (.int (0 : Int32)), (.int v23), (.int v24), (.int v25)]) (rest := [(.long (0 : Int64))]) (lenOf own_pd5 rfl) rfl (by show 2 * 0 + _ ≤ _; exact Nat.le_of_eq rfl) (hb hby at_246) (fun _ _ => ⟨rfl, e55, (by decide : 4 + 0 ≤ _), (by decide : 8 + 0 ≤ _)⟩)
        dsimp only [Pt.U, Pt.locs, Pt.cells, Pt.slots] at X56 l56 y56 z56 st56 hQ56
        subst l56 y56 z56
        obtain ⟨rfl, N56q, e56⟩ := hQ56
        have N56 := Fr.app N55 N56q
        refine ownGo (T' := T56) (f' := (mkF m 249 #[iv p0, iv p1, iv p2, iv p3, iv p4, iv v1, iv (0 : Int32), iv v23, iv v24, iv v25, rv b26, rv b42, rv b51, iv (2 : Int32)] [(.long (0 : Int64)), (.long (0 : Int64))])) (st56) ?_
        refine ow_lcmp (q := 250) X56 hx _ (hb hby at_249) rfl rfl ?_
        refine ow_ifYes (q := 255) X56 hx (hb hby at_250) (Jvm.Free.XT.ll_eq_t (by decide)) (by decide) (by decide) ?_
        refine ow_iload (q := 257) X56 hx (hb hby at_255) rfl rfl ?_
        refine ow_iconst (q := 258) X56 hx (2 : Int32) (hb hby at_257) rfl rfl ?_
        refine ow_icmpYes (q := 283) X56 hx (hb hby at_258) (Jvm.Free.XT.ii_le_t (by decide)) (by decide) (by decide) ?_
        refine ow_iload (q := 285) X56 hx (hb hby at_283) rfl rfl ?_
        refine ow_iconst (q := 286) X56 hx (3 : Int32) (hb hby at_285) rfl rfl ?_
        refine ow_icmpYes (q := 311) X56 hx (hb hby at_286) (Jvm.Free.XT.ii_le_t (by decide)) (by decide) (by decide) ?_
        refine ow_iconst (q := 312) X56 hx (1 : Int32) (hb hby at_311) rfl rfl ?_
        refine ownRetN X56 hx (r := (1 : Int32)) (Or.inl rfl) Bd.returns (hb hby at_312) hlk (by decide) (by decide) (by decide) ?_
        exact ⟨rfl, N56⟩
      · obtain ⟨T57, h57, X57, e57, E57, A57, D57, -, st57⟩ := newO X26 hx hZ hown (hw _ (List.mem_of_getElem? (i := 1) rfl)) (hw _ (List.mem_of_getElem? (i := 2) rfl)) (hw _ (List.mem_of_getElem? (i := 3) rfl)) e26 (g := (mkF m 117 #[iv p0, iv p1, iv p2, iv p3, iv p4, iv v1, iv (0 : Int32), iv v23, iv v24, iv v25, rv b26, .unset, .unset, .unset] [])) rfl (hb hby at_117) (by decide) (by decide)
        obtain ⟨b57, g57⟩ : ∃ z, z = h26.size := ⟨_, rfl⟩
        rw [← g57] at A57 D57 st57
        have ne_b26_b57 : b26 ≠ b57 := Nat.ne_of_lt (Nat.lt_of_lt_of_le F27.lt (Nat.le_of_eq g57.symm))
        have sz_b57 : h0.size ≤ b57 := Nat.le_trans K26.1 (Nat.le_of_eq g57.symm)
        have G_b57 : n0 ≤ b57 := Nat.le_trans Z0 sz_b57
        have K57 : Keep h0 h57 [] := K26.ext E57
        have F58 : ownAI Z h57 b26 .int 0 (fun _ => (0 : Int32)) := F27.ext E57
        have F59 : Fld Z h57 b57 "com/example/sieveline/sieveline/solver/BitMatrix" "rowWords" "I" (.int (0 : Int32)) := D57 (Or.inr (hw _ (List.mem_of_getElem? (i := 14) rfl))) (ty := .int) (by decide)
        have F60 : Fld Z h57 b57 "com/example/sieveline/sieveline/solver/BitMatrix" "words" "[J" .null := D57 (Or.inr (hw _ (List.mem_of_getElem? (i := 24) rfl))) (ty := (.array .long)) (by decide)
        have F61 : Fld Z h57 b57 "com/example/sieveline/sieveline/solver/BitMatrix" "rows" "I" (.int (0 : Int32)) := D57 (Or.inr (hw _ (List.mem_of_getElem? (i := 26) rfl))) (ty := .int) (by decide)
        have F62 : Fld Z h57 b57 "com/example/sieveline/sieveline/solver/BitMatrix" "columns" "I" (.int (0 : Int32)) := D57 (Or.inr (hw _ (List.mem_of_getElem? (i := 28) rfl))) (ty := .int) (by decide)
        refine ownGo (T' := T57) (f' := (mkF m 120 #[iv p0, iv p1, iv p2, iv p3, iv p4, iv v1, iv (0 : Int32), iv v23, iv v24, iv v25, rv b26, .unset, .unset, .unset] [(.ref b57)])) (st57) ?_
        refine ow_dup (q := 121) X57 hx (hb hby at_120) rfl rfl ?_
        refine ow_iconst (q := 122) X57 hx (1 : Int32) (hb hby at_121) rfl rfl ?_
        refine ow_iload (q := 124) X57 hx (hb hby at_122) rfl rfl ?_
        obtain ⟨_, _, ⟨T63, L63, k63, n63⟩, -, X63, ⟨Lc63, hQ63, l63, y63, z63⟩, st63⟩ := X57.specialBack hx (y := (⟨"com/example/sieveline/sieveline/solver/BitMatrix", "<init>", "(II)V"⟩ : MethodName)) rfl hown (mvT hZ (hw _ (List.mem_of_getElem? (i := 4) rfl))) (mvT hZ (hw _ (List.mem_of_getElem? (i := 5) rfl))) (mvT hZ (hw _ (List.mem_of_getElem? (i := 6) rfl))) (by decide) (backOf (W := 1) (rm_init_3 l Z av0 hw [] b57 v1 h57 n0 (Nat.le_trans Z0 K57.1) A57 F59 F60 F61 F62 G_b57 hL.1) hZ (hw _ (List.mem_of_getElem? (i := 6) rfl)) (hw _ (List.mem_of_getElem? (i := 3) rfl)) (by decide) (by decide)) (g := (mkF m 124 #[iv p0, iv p1, iv p2, iv p3, iv p4, iv v1, iv (0 : Int32), iv v23, iv v24, iv v25, rv b26, .unset, .unset, .unset] [(.int v1), (.int (1 : Int32)), (.ref b57), (.ref b57)])) rfl (by rw [hml]; rfl) (Steps.refl _) (a := b57) (argsL := [(.int (1 : Int32)), (.int v1)]) (rest := [(.ref b57)]) (lenOf own_pd3 rfl) rfl (by show 2 * 0 + _ ≤ _; exact Nat.le_of_eq rfl) (hb hby at_124) (fun _ _ => ⟨rfl, e57, (by decide : 2 + 1 ≤ _), (by decide : 4 + 3 ≤ _)⟩)
        dsimp only [Pt.U, Pt.locs, Pt.cells, Pt.slots] at X63 l63 y63 z63 st63 hQ63
        subst l63 y63 z63
        obtain ⟨rfl, N63q, Kq63, FP63_0, FP63_1⟩ := hQ63
        have N63 := Fr.app N0 N63q
        have K63 : Keep h0 T63.heap [] := K57.trans Kq63 (allS (Or.inr sz_b57) all0)
        have F64 : ownAI Z T63.heap b26 .int 0 (fun _ => (0 : Int32)) := F58.keep Kq63 (ninS ne_b26_b57 nin0)
        have F65 : Exa Z T63.heap b57 "com/example/sieveline/sieveline/solver/BitMatrix" := A57.keep Kq63
        refine ownRun (T' := T63) (f' := (mkF m 127 #[iv p0, iv p1, iv p2, iv p3, iv p4, iv v1, iv (0 : Int32), iv v23, iv v24, iv v25, rv b26, .unset, .unset, .unset] [(.ref b57)])) st63 ?_
        refine ow_astore (q := 129) X63 hx (L' := #[iv p0, iv p1, iv p2, iv p3, iv p4, iv v1, iv (0 : Int32), iv v23, iv v24, iv v25, rv b26, rv b57, .unset, .unset]) (hb hby at_127) rfl rfl rfl ?_
        refine ow_aload (q := 131) X63 hx (hb hby at_129) rfl rfl rfl ?_
        refine ow_aload (q := 133) X63 hx (hb hby at_131) rfl rfl rfl ?_
        obtain ⟨cq66, kq66, q66a, q66b, q66c⟩ := isOf hZ rfl FP63_0
        obtain ⟨_, _, ⟨T66, L66, k66, n66⟩, -, X66, ⟨Lc66, hQ66, l66, y66, z66⟩, st66⟩ := X63.virtualBack hx (y := (⟨"com/example/sieveline/sieveline/solver/BitMatrix", "row", "([I)[J"⟩ : MethodName)) (z := (⟨"com/example/sieveline/sieveline/solver/BitMatrix", "row", "([I)[J"⟩ : MethodName)) hown (mvT hZ (hw _ (List.mem_of_getElem? (i := 29) rfl))) (mvT hZ (hw _ (List.mem_of_getElem? (i := 30) rfl))) (notFace_of_selects (args := #[]) (mvT hZ (hw _ (List.mem_of_getElem? (i := 32) rfl)))) (mvT hZ (hw _ (List.mem_of_getElem? (i := 32) rfl))) (mvT hZ (hw _ (List.mem_of_getElem? (i := 31) rfl))) (by decide) (backOf (W := 0) (rm_row_0_3 l Z av0 hw [] b57 b26 (fun _ => (0 : Int32)) T63.heap n0 (Nat.le_trans Z0 K63.1) FP63_1 F64) hZ (hw _ (List.mem_of_getElem? (i := 33) rfl)) (hw _ (List.mem_of_getElem? (i := 3) rfl)) (by decide) (by decide)) q66a q66c (g := (mkF m 133 #[iv p0, iv p1, iv p2, iv p3, iv p4, iv v1, iv (0 : Int32), iv v23, iv v24, iv v25, rv b26, rv b57, .unset, .unset] [(.ref b26), (.ref b57)])) rfl (by rw [hml]; rfl) (Steps.refl _) (argsL := [(.ref b26)]) (rest := []) (lenOf own_pd4 rfl) rfl (by show 2 * 0 + _ ≤ _; exact Nat.le_of_eq rfl) (hb hby at_133) (fun _ _ => ⟨rfl, rfl, (by decide : 3 + 1 ≤ _), (by decide : 7 + 3 ≤ _)⟩)
        dsimp only [Pt.U, Pt.locs, Pt.cells, Pt.slots] at X66 l66 y66 z66 st66 hQ66
        subst l66 y66 z66
        obtain ⟨b66, rfl, N66q, Kq66, sq66_b66, FP66_0⟩ := hQ66
        have N66 := Fr.app N63 N66q
        have K66 : Keep h0 T66.heap [] := K63.trans Kq66 all0
        have ne_b26_b66 : b26 ≠ b66 := Nat.ne_of_lt (Nat.lt_of_lt_of_le F64.lt sq66_b66)
        have ne_b57_b66 : b57 ≠ b66 := Nat.ne_of_lt (Nat.lt_of_lt_of_le FP63_0.lt sq66_b66)
        have sz_b66 : h0.size ≤ b66 := Nat.le_trans K63.1 sq66_b66
        have G_b66 : n0 ≤ b66 := Nat.le_trans Z0 sz_b66
        have F67 : ownAI Z T66.heap b26 .int 0 (fun _ => (0 : Int32)) := F64.keep Kq66 nin0
        have F68 : Exa Z T66.heap b57 "com/example/sieveline/sieveline/solver/BitMatrix" := FP63_0.keep Kq66
        have F69 : Fld Z T66.heap b57 "com/example/sieveline/sieveline/solver/BitMatrix" "rowWords" "I" (.int (3 : Int32)) := FP63_1.keep Kq66 nin0
        refine ownRun (T' := T66) (f' := (mkF m 136 #[iv p0, iv p1, iv p2, iv p3, iv p4, iv v1, iv (0 : Int32), iv v23, iv v24, iv v25, rv b26, rv b57, .unset, .unset] [(.ref b66)])) st66 ?_
        refine ow_astore (q := 138) X66 hx (L' := #[iv p0, iv p1, iv p2, iv p3, iv p4, iv v1, iv (0 : Int32), iv v23, iv v24, iv v25, rv b26, rv b57, rv b66, .unset]) (hb hby at_136) rfl rfl rfl ?_
        refine ow_iload (q := 140) X66 hx (hb hby at_138) rfl rfl ?_
        refine ow_ifYes (q := 147) X66 hx (hb hby at_140) (Jvm.Free.XT.i0_ne_t hz2) (by decide) (by decide) ?_
        refine ow_iload (q := 149) X66 hx (hb hby at_147) rfl rfl ?_
        refine ow_bipush (q := 151) X66 hx (64 : Int32) (hb hby at_149) rfl rfl ?_
        refine ow_icmpYes (q := 158) X66 hx (hb hby at_151) (Jvm.Free.XT.ii_gt_t (by simp only [Int32.lt_iff_toInt_lt, Int32.reduceToInt]; have := hL.2; omega)) (by decide) (by decide) ?_
        refine ow_iload (q := 160) X66 hx (hb hby at_158) rfl rfl ?_
        refine ow_sipush (q := 163) X66 hx (128 : Int32) (hb hby at_160) rfl rfl ?_
        refine ow_icmpYes (q := 170) X66 hx (hb hby at_163) (Jvm.Free.XT.ii_gt_t (by simp only [Int32.lt_iff_toInt_lt, Int32.reduceToInt]; have := hL.2; omega)) (by decide) (by decide) ?_
        refine ow_iload (q := 172) X66 hx (hb hby at_170) rfl rfl ?_
        refine ow_sipush (q := 175) X66 hx (192 : Int32) (hb hby at_172) rfl rfl ?_
        refine ow_icmpNo (q := 178) X66 hx (hb hby at_175) rfl (Jvm.Free.XT.ii_gt_f (by simp only [Int32.lt_iff_toInt_lt, Int32.reduceToInt]; have := hL.2; omega)) ?_
        refine ow_iconst (q := 179) X66 hx (3 : Int32) (hb hby at_178) rfl rfl ?_
        refine ow_goto (q := 183) X66 hx (hb hby at_179) (by decide) (by decide) ?_
        refine ow_istore (q := 185) X66 hx (L' := #[iv p0, iv p1, iv p2, iv p3, iv p4, iv v1, iv (0 : Int32), iv v23, iv v24, iv v25, rv b26, rv b57, rv b66, iv (3 : Int32)]) (hb hby at_183) rfl rfl ?_
        refine ow_aload (q := 187) X66 hx (hb hby at_185) rfl rfl rfl ?_
        refine ownGo (T' := T66) (f' := (mkF m 190 #[iv p0, iv p1, iv p2, iv p3, iv p4, iv v1, iv (0 : Int32), iv v23, iv v24, iv v25, rv b26, rv b57, rv b66, iv (3 : Int32)] [])) (fun _ k => XS.ifnullNo X66.here hx rfl (hb hby at_187) rfl k) ?_
        refine ow_aload (q := 192) X66 hx (hb hby at_190) rfl rfl rfl ?_
        refine ownGo (T' := T66) (f' := (mkF m 193 #[iv p0, iv p1, iv p2, iv p3, iv p4, iv v1, iv (0 : Int32), iv v23, iv v24, iv v25, rv b26, rv b57, rv b66, iv (3 : Int32)] [(.int (3 : Int32))])) (ownLenJ FP66_0 X66 hx hZ rfl (z := (3 : Int32)) (by decide) (g := (mkF m 192 #[iv p0, iv p1, iv p2, iv p3, iv p4, iv v1, iv (0 : Int32), iv v23, iv v24, iv v25, rv b26, rv b57, rv b66, iv (3 : Int32)] [(.ref b66)])) rfl rfl (hb hby at_192)) ?_
        refine ow_iload (q := 195) X66 hx (hb hby at_193) rfl rfl ?_
        refine ow_icmpYes (q := 200) X66 hx (hb hby at_195) (Jvm.Free.XT.ii_eq_t (by decide)) (by decide) (by decide) ?_
        refine ow_iload (q := 202) X66 hx (hb hby at_200) rfl rfl ?_
        refine ow_ifNo (q := 205) X66 hx (hb hby at_202) rfl (Jvm.Free.XT.i0_le_f (by decide)) ?_
        refine ow_aload (q := 207) X66 hx (hb hby at_205) rfl rfl rfl ?_
        refine ow_iconst (q := 208) X66 hx (0 : Int32) (hb hby at_207) rfl rfl ?_
        refine ownGo (T' := T66) (f' := (mkF m 209 #[iv p0, iv p1, iv p2, iv p3, iv p4, iv v1, iv (0 : Int32), iv v23, iv v24, iv v25, rv b26, rv b57, rv b66, iv (3 : Int32)] [(.long (0 : Int64))])) (ownLaload FP66_0 X66 hx hZ rfl (j := (0 : Int32)) (by unfold ownIn; decide) (g := (mkF m 208 #[iv p0, iv p1, iv p2, iv p3, iv p4, iv v1, iv (0 : Int32), iv v23, iv v24, iv v25, rv b26, rv b57, rv b66, iv (3 : Int32)] [(.int (0 : Int32)), (.ref b66)])) rfl rfl (hb hby at_208)) ?_
        refine ow_iconst (q := 210) X66 hx (0 : Int32) (hb hby at_209) rfl rfl ?_
        refine ow_iload (q := 212) X66 hx (hb hby at_210) rfl rfl ?_
        refine ow_iload (q := 214) X66 hx (hb hby at_212) rfl rfl ?_
        refine ow_iload (q := 216) X66 hx (hb hby at_214) rfl rfl ?_
        refine ow_iload (q := 218) X66 hx (hb hby at_216) rfl rfl ?_
        obtain ⟨_, _, ⟨T70, L70, k70, n70⟩, -, X70, ⟨Lc70, hQ70, l70, y70, z70⟩, st70⟩ := Jvm.LawKit.callS X66 hx (y := (⟨"com/example/sieveline/sieveline/solver/BitMatrixRowPinLaw", "expect", "(IIIII)J"⟩ : MethodName)) hown (mvT hZ (hw _ (List.mem_of_getElem? (i := 35) rfl))) (mvT hZ (hw _ (List.mem_of_getElem? (i := 36) rfl))) (mvT hZ (hw _ (List.mem_of_getElem? (i := 37) rfl))) (mvT hZ (hw _ (List.mem_of_getElem? (i := 38) rfl))) (by decide) (backOf (W := 2) (rm_exp_0_0 l Z av0 hw [] v23 v24 v25 T66.heap n0 (Nat.le_trans Z0 K66.1) ) hZ (hw _ (List.mem_of_getElem? (i := 38) rfl)) (hw _ (List.mem_of_getElem? (i := 37) rfl)) (by decide) (by decide)) (g := (mkF m 218 #[iv p0, iv p1, iv p2, iv p3, iv p4, iv v1, iv (0 : Int32), iv v23, iv v24, iv v25, rv b26, rv b57, rv b66, iv (3 : Int32)] [(.int v25), (.int v24), (.int v23), (.int (0 : Int32)), (.int (0 : Int32)), (.long (0 : Int64))])) rfl (by rw [hml]; rfl) (argsL := [(.int (0 : Int32)), (.int (0 : Int32)), (.int v23), (.int v24), (.int v25)]) (rest := [(.long (0 : Int64))]) (lenOf own_pd5 rfl) rfl (by show 2 * 0 + _ ≤ _; exact Nat.le_of_eq rfl) (hb hby at_218) (fun _ _ => ⟨rfl, rfl, (by decide : 4 + 0 ≤ _), (by decide : 10 + 0 ≤ _)⟩)
        dsimp only [Pt.U, Pt.locs, Pt.cells, Pt.slots] at X70 l70 y70 z70 st70 hQ70
        subst l70 y70 z70
        obtain ⟨rfl, N70q, e70⟩ := hQ70
        have N70 := Fr.app N66 N70q
        refine ownGo (T' := T70) (f' := (mkF m 221 #[iv p0, iv p1, iv p2, iv p3, iv p4, iv v1, iv (0 : Int32), iv v23, iv v24, iv v25, rv b26, rv b57, rv b66, iv (3 : Int32)] [(.long (0 : Int64)), (.long (0 : Int64))])) (st70) ?_
        refine ow_lcmp (q := 222) X70 hx _ (hb hby at_221) rfl rfl ?_
        refine ow_ifYes (q := 227) X70 hx (hb hby at_222) (Jvm.Free.XT.ll_eq_t (by decide)) (by decide) (by decide) ?_
        refine ow_iload (q := 229) X70 hx (hb hby at_227) rfl rfl ?_
        refine ow_iconst (q := 230) X70 hx (1 : Int32) (hb hby at_229) rfl rfl ?_
        refine ow_icmpNo (q := 233) X70 hx (hb hby at_230) rfl (Jvm.Free.XT.ii_le_f (by decide)) ?_
        refine ow_aload (q := 235) X70 hx (hb hby at_233) rfl rfl rfl ?_
        refine ow_iconst (q := 236) X70 hx (1 : Int32) (hb hby at_235) rfl rfl ?_
        refine ownGo (T' := T70) (f' := (mkF m 237 #[iv p0, iv p1, iv p2, iv p3, iv p4, iv v1, iv (0 : Int32), iv v23, iv v24, iv v25, rv b26, rv b57, rv b66, iv (3 : Int32)] [(.long (0 : Int64))])) (ownLaload FP66_0 X70 hx hZ e70 (j := (1 : Int32)) (by unfold ownIn; decide) (g := (mkF m 236 #[iv p0, iv p1, iv p2, iv p3, iv p4, iv v1, iv (0 : Int32), iv v23, iv v24, iv v25, rv b26, rv b57, rv b66, iv (3 : Int32)] [(.int (1 : Int32)), (.ref b66)])) rfl rfl (hb hby at_236)) ?_
        refine ow_iconst (q := 238) X70 hx (1 : Int32) (hb hby at_237) rfl rfl ?_
        refine ow_iload (q := 240) X70 hx (hb hby at_238) rfl rfl ?_
        refine ow_iload (q := 242) X70 hx (hb hby at_240) rfl rfl ?_
        refine ow_iload (q := 244) X70 hx (hb hby at_242) rfl rfl ?_
        refine ow_iload (q := 246) X70 hx (hb hby at_244) rfl rfl ?_
        obtain ⟨_, _, ⟨T71, L71, k71, n71⟩, -, X71, ⟨Lc71, hQ71, l71, y71, z71⟩, st71⟩ := Jvm.LawKit.callS X70 hx (y := (⟨"com/example/sieveline/sieveline/solver/BitMatrixRowPinLaw", "expect", "(IIIII)J"⟩ : MethodName)) hown (mvT hZ (hw _ (List.mem_of_getElem? (i := 35) rfl))) (mvT hZ (hw _ (List.mem_of_getElem? (i := 36) rfl))) (mvT hZ (hw _ (List.mem_of_getElem? (i := 37) rfl))) (mvT hZ (hw _ (List.mem_of_getElem? (i := 38) rfl))) (by decide) (backOf (W := 2) (rm_exp_1_0 l Z av0 hw [] v23 v24 v25 T66.heap n0 (Nat.le_trans Z0 K66.1) ) hZ (hw _ (List.mem_of_getElem? (i := 38) rfl)) (hw _ (List.mem_of_getElem? (i := 37) rfl)) (by decide) (by decide)) (g := (mkF m 246 #[iv p0, iv p1, iv p2, iv p3, iv p4, iv v1, iv (0 : Int32), iv v23, iv v24, iv v25, rv b26, rv b57, rv b66, iv (3 : Int32)] [(.int v25), (.int v24), (.int v23), (.int (0 : Int32)), (.int (1 : Int32)), (.long (0 : Int64))])) rfl (by rw [hml]; rfl) (argsL := [(.int (1 : Int32)), (.int (0 : Int32)), (.int v23), (.int v24), (.int v25)]) (rest := [(.long (0 : Int64))]) (lenOf own_pd5 rfl) rfl (by show 2 * 0 + _ ≤ _; exact Nat.le_of_eq rfl) (hb hby at_246) (fun _ _ => ⟨rfl, e70, (by decide : 4 + 0 ≤ _), (by decide : 10 + 0 ≤ _)⟩)
        dsimp only [Pt.U, Pt.locs, Pt.cells, Pt.slots] at X71 l71 y71 z71 st71 hQ71
        subst l71 y71 z71
        obtain ⟨rfl, N71q, e71⟩ := hQ71
        have N71 := Fr.app N70 N71q
        refine ownGo (T' := T71) (f' := (mkF m 249 #[iv p0, iv p1, iv p2, iv p3, iv p4, iv v1, iv (0 : Int32), iv v23, iv v24, iv v25, rv b26, rv b57, rv b66, iv (3 : Int32)] [(.long (0 : Int64)), (.long (0 : Int64))])) (st71) ?_
        refine ow_lcmp (q := 250) X71 hx _ (hb hby at_249) rfl rfl ?_
        refine ow_ifYes (q := 255) X71 hx (hb hby at_250) (Jvm.Free.XT.ll_eq_t (by decide)) (by decide) (by decide) ?_
        refine ow_iload (q := 257) X71 hx (hb hby at_255) rfl rfl ?_
        refine ow_iconst (q := 258) X71 hx (2 : Int32) (hb hby at_257) rfl rfl ?_
        refine ow_icmpNo (q := 261) X71 hx (hb hby at_258) rfl (Jvm.Free.XT.ii_le_f (by decide)) ?_
        refine ow_aload (q := 263) X71 hx (hb hby at_261) rfl rfl rfl ?_
        refine ow_iconst (q := 264) X71 hx (2 : Int32) (hb hby at_263) rfl rfl ?_
        refine ownGo (T' := T71) (f' := (mkF m 265 #[iv p0, iv p1, iv p2, iv p3, iv p4, iv v1, iv (0 : Int32), iv v23, iv v24, iv v25, rv b26, rv b57, rv b66, iv (3 : Int32)] [(.long (0 : Int64))])) (ownLaload FP66_0 X71 hx hZ e71 (j := (2 : Int32)) (by unfold ownIn; decide) (g := (mkF m 264 #[iv p0, iv p1, iv p2, iv p3, iv p4, iv v1, iv (0 : Int32), iv v23, iv v24, iv v25, rv b26, rv b57, rv b66, iv (3 : Int32)] [(.int (2 : Int32)), (.ref b66)])) rfl rfl (hb hby at_264)) ?_
        refine ow_iconst (q := 266) X71 hx (2 : Int32) (hb hby at_265) rfl rfl ?_
        refine ow_iload (q := 268) X71 hx (hb hby at_266) rfl rfl ?_
        refine ow_iload (q := 270) X71 hx (hb hby at_268) rfl rfl ?_
        refine ow_iload (q := 272) X71 hx (hb hby at_270) rfl rfl ?_
        refine ow_iload (q := 274) X71 hx (hb hby at_272) rfl rfl ?_
        obtain ⟨_, _, ⟨T72, L72, k72, n72⟩, -, X72, ⟨Lc72, hQ72, l72, y72, z72⟩, st72⟩ := Jvm.LawKit.callS X71 hx (y := (⟨"com/example/sieveline/sieveline/solver/BitMatrixRowPinLaw", "expect", "(IIIII)J"⟩ : MethodName)) hown (mvT hZ (hw _ (List.mem_of_getElem? (i := 35) rfl))) (mvT hZ (hw _ (List.mem_of_getElem? (i := 36) rfl))) (mvT hZ (hw _ (List.mem_of_getElem? (i := 37) rfl))) (mvT hZ (hw _ (List.mem_of_getElem? (i := 38) rfl))) (by decide) (backOf (W := 2) (rm_exp_2_0 l Z av0 hw [] v23 v24 v25 T66.heap n0 (Nat.le_trans Z0 K66.1) ) hZ (hw _ (List.mem_of_getElem? (i := 38) rfl)) (hw _ (List.mem_of_getElem? (i := 37) rfl)) (by decide) (by decide)) (g := (mkF m 274 #[iv p0, iv p1, iv p2, iv p3, iv p4, iv v1, iv (0 : Int32), iv v23, iv v24, iv v25, rv b26, rv b57, rv b66, iv (3 : Int32)] [(.int v25), (.int v24), (.int v23), (.int (0 : Int32)), (.int (2 : Int32)), (.long (0 : Int64))])) rfl (by rw [hml]; rfl) (argsL := [(.int (2 : Int32)), (.int (0 : Int32)), (.int v23), (.int v24), (.int v25)]) (rest := [(.long (0 : Int64))]) (lenOf own_pd5 rfl) rfl (by show 2 * 0 + _ ≤ _; exact Nat.le_of_eq rfl) (hb hby at_274) (fun _ _ => ⟨rfl, e71, (by decide : 4 + 0 ≤ _), (by decide : 10 + 0 ≤ _)⟩)
        dsimp only [Pt.U, Pt.locs, Pt.cells, Pt.slots] at X72 l72 y72 z72 st72 hQ72
        subst l72 y72 z72
        obtain ⟨rfl, N72q, e72⟩ := hQ72
        have N72 := Fr.app N71 N72q
        refine ownGo (T' := T72) (f' := (mkF m 277 #[iv p0, iv p1, iv p2, iv p3, iv p4, iv v1, iv (0 : Int32), iv v23, iv v24, iv v25, rv b26, rv b57, rv b66, iv (3 : Int32)] [(.long (0 : Int64)), (.long (0 : Int64))])) (st72) ?_
        refine ow_lcmp (q := 278) X72 hx _ (hb hby at_277) rfl rfl ?_
        refine ow_ifYes (q := 283) X72 hx (hb hby at_278) (Jvm.Free.XT.ll_eq_t (by decide)) (by decide) (by decide) ?_
        refine ow_iload (q := 285) X72 hx (hb hby at_283) rfl rfl ?_
        refine ow_iconst (q := 286) X72 hx (3 : Int32) (hb hby at_285) rfl rfl ?_
        refine ow_icmpYes (q := 311) X72 hx (hb hby at_286) (Jvm.Free.XT.ii_le_t (by decide)) (by decide) (by decide) ?_
        refine ow_iconst (q := 312) X72 hx (1 : Int32) (hb hby at_311) rfl rfl ?_
        refine ownRetN X72 hx (r := (1 : Int32)) (Or.inl rfl) Bd.returns (hb hby at_312) hlk (by decide) (by decide) (by decide) ?_
        exact ⟨rfl, N72⟩
      · obtain ⟨T73, h73, X73, e73, E73, A73, D73, -, st73⟩ := newO X26 hx hZ hown (hw _ (List.mem_of_getElem? (i := 1) rfl)) (hw _ (List.mem_of_getElem? (i := 2) rfl)) (hw _ (List.mem_of_getElem? (i := 3) rfl)) e26 (g := (mkF m 117 #[iv p0, iv p1, iv p2, iv p3, iv p4, iv v1, iv (0 : Int32), iv v23, iv v24, iv v25, rv b26, .unset, .unset, .unset] [])) rfl (hb hby at_117) (by decide) (by decide)
        obtain ⟨b73, g73⟩ : ∃ z, z = h26.size := ⟨_, rfl⟩
        rw [← g73] at A73 D73 st73
        have ne_b26_b73 : b26 ≠ b73 := Nat.ne_of_lt (Nat.lt_of_lt_of_le F27.lt (Nat.le_of_eq g73.symm))
        have sz_b73 : h0.size ≤ b73 := Nat.le_trans K26.1 (Nat.le_of_eq g73.symm)
        have G_b73 : n0 ≤ b73 := Nat.le_trans Z0 sz_b73
        have K73 : Keep h0 h73 [] := K26.ext E73
        have F74 : ownAI Z h73 b26 .int 0 (fun _ => (0 : Int32)) := F27.ext E73
        have F75 : Fld Z h73 b73 "com/example/sieveline/sieveline/solver/BitMatrix" "rowWords" "I" (.int (0 : Int32)) := D73 (Or.inr (hw _ (List.mem_of_getElem? (i := 14) rfl))) (ty := .int) (by decide)
        have F76 : Fld Z h73 b73 "com/example/sieveline/sieveline/solver/BitMatrix" "words" "[J" .null := D73 (Or.inr (hw _ (List.mem_of_getElem? (i := 24) rfl))) (ty := (.array .long)) (by decide)
        have F77 : Fld Z h73 b73 "com/example/sieveline/sieveline/solver/BitMatrix" "rows" "I" (.int (0 : Int32)) := D73 (Or.inr (hw _ (List.mem_of_getElem? (i := 26) rfl))) (ty := .int) (by decide)
        have F78 : Fld Z h73 b73 "com/example/sieveline/sieveline/solver/BitMatrix" "columns" "I" (.int (0 : Int32)) := D73 (Or.inr (hw _ (List.mem_of_getElem? (i := 28) rfl))) (ty := .int) (by decide)
        refine ownGo (T' := T73) (f' := (mkF m 120 #[iv p0, iv p1, iv p2, iv p3, iv p4, iv v1, iv (0 : Int32), iv v23, iv v24, iv v25, rv b26, .unset, .unset, .unset] [(.ref b73)])) (st73) ?_
        refine ow_dup (q := 121) X73 hx (hb hby at_120) rfl rfl ?_
        refine ow_iconst (q := 122) X73 hx (1 : Int32) (hb hby at_121) rfl rfl ?_
        refine ow_iload (q := 124) X73 hx (hb hby at_122) rfl rfl ?_
        obtain ⟨_, _, ⟨T79, L79, k79, n79⟩, -, X79, ⟨Lc79, hQ79, l79, y79, z79⟩, st79⟩ := X73.specialBack hx (y := (⟨"com/example/sieveline/sieveline/solver/BitMatrix", "<init>", "(II)V"⟩ : MethodName)) rfl hown (mvT hZ (hw _ (List.mem_of_getElem? (i := 4) rfl))) (mvT hZ (hw _ (List.mem_of_getElem? (i := 5) rfl))) (mvT hZ (hw _ (List.mem_of_getElem? (i := 6) rfl))) (by decide) (backOf (W := 1) (rm_init_4 l Z av0 hw [] b73 v1 h73 n0 (Nat.le_trans Z0 K73.1) A73 F75 F76 F77 F78 G_b73 hL.1) hZ (hw _ (List.mem_of_getElem? (i := 6) rfl)) (hw _ (List.mem_of_getElem? (i := 3) rfl)) (by decide) (by decide)) (g := (mkF m 124 #[iv p0, iv p1, iv p2, iv p3, iv p4, iv v1, iv (0 : Int32), iv v23, iv v24, iv v25, rv b26, .unset, .unset, .unset] [(.int v1), (.int (1 : Int32)), (.ref b73), (.ref b73)])) rfl (by rw [hml]; rfl) (Steps.refl _) (a := b73) (argsL := [(.int (1 : Int32)), (.int v1)]) (rest := [(.ref b73)]) (lenOf own_pd3 rfl) rfl (by show 2 * 0 + _ ≤ _; exact Nat.le_of_eq rfl) (hb hby at_124) (fun _ _ => ⟨rfl, e73, (by decide : 2 + 1 ≤ _), (by decide : 4 + 4 ≤ _)⟩)
        dsimp only [Pt.U, Pt.locs, Pt.cells, Pt.slots] at X79 l79 y79 z79 st79 hQ79
        subst l79 y79 z79
        obtain ⟨rfl, N79q, Kq79, FP79_0, FP79_1⟩ := hQ79
        have N79 := Fr.app N0 N79q
        have K79 : Keep h0 T79.heap [] := K73.trans Kq79 (allS (Or.inr sz_b73) all0)
        have F80 : ownAI Z T79.heap b26 .int 0 (fun _ => (0 : Int32)) := F74.keep Kq79 (ninS ne_b26_b73 nin0)
        have F81 : Exa Z T79.heap b73 "com/example/sieveline/sieveline/solver/BitMatrix" := A73.keep Kq79
        refine ownRun (T' := T79) (f' := (mkF m 127 #[iv p0, iv p1, iv p2, iv p3, iv p4, iv v1, iv (0 : Int32), iv v23, iv v24, iv v25, rv b26, .unset, .unset, .unset] [(.ref b73)])) st79 ?_
        refine ow_astore (q := 129) X79 hx (L' := #[iv p0, iv p1, iv p2, iv p3, iv p4, iv v1, iv (0 : Int32), iv v23, iv v24, iv v25, rv b26, rv b73, .unset, .unset]) (hb hby at_127) rfl rfl rfl ?_
        refine ow_aload (q := 131) X79 hx (hb hby at_129) rfl rfl rfl ?_
        refine ow_aload (q := 133) X79 hx (hb hby at_131) rfl rfl rfl ?_
        obtain ⟨cq82, kq82, q82a, q82b, q82c⟩ := isOf hZ rfl FP79_0
        obtain ⟨_, _, ⟨T82, L82, k82, n82⟩, -, X82, ⟨Lc82, hQ82, l82, y82, z82⟩, st82⟩ := X79.virtualBack hx (y := (⟨"com/example/sieveline/sieveline/solver/BitMatrix", "row", "([I)[J"⟩ : MethodName)) (z := (⟨"com/example/sieveline/sieveline/solver/BitMatrix", "row", "([I)[J"⟩ : MethodName)) hown (mvT hZ (hw _ (List.mem_of_getElem? (i := 29) rfl))) (mvT hZ (hw _ (List.mem_of_getElem? (i := 30) rfl))) (notFace_of_selects (args := #[]) (mvT hZ (hw _ (List.mem_of_getElem? (i := 32) rfl)))) (mvT hZ (hw _ (List.mem_of_getElem? (i := 32) rfl))) (mvT hZ (hw _ (List.mem_of_getElem? (i := 31) rfl))) (by decide) (backOf (W := 0) (rm_row_0_4 l Z av0 hw [] b73 b26 (fun _ => (0 : Int32)) T79.heap n0 (Nat.le_trans Z0 K79.1) FP79_1 F80) hZ (hw _ (List.mem_of_getElem? (i := 33) rfl)) (hw _ (List.mem_of_getElem? (i := 3) rfl)) (by decide) (by decide)) q82a q82c (g := (mkF m 133 #[iv p0, iv p1, iv p2, iv p3, iv p4, iv v1, iv (0 : Int32), iv v23, iv v24, iv v25, rv b26, rv b73, .unset, .unset] [(.ref b26), (.ref b73)])) rfl (by rw [hml]; rfl) (Steps.refl _) (argsL := [(.ref b26)]) (rest := []) (lenOf own_pd4 rfl) rfl (by show 2 * 0 + _ ≤ _; exact Nat.le_of_eq rfl) (hb hby at_133) (fun _ _ => ⟨rfl, rfl, (by decide : 3 + 1 ≤ _), (by decide : 8 + 4 ≤ _)⟩)
        dsimp only [Pt.U, Pt.locs, Pt.cells, Pt.slots] at X82 l82 y82 z82 st82 hQ82
        subst l82 y82 z82
        obtain ⟨b82, rfl, N82q, Kq82, sq82_b82, FP82_0⟩ := hQ82
        have N82 := Fr.app N79 N82q
        have K82 : Keep h0 T82.heap [] := K79.trans Kq82 all0
        have ne_b26_b82 : b26 ≠ b82 := Nat.ne_of_lt (Nat.lt_of_lt_of_le F80.lt sq82_b82)
        have ne_b73_b82 : b73 ≠ b82 := Nat.ne_of_lt (Nat.lt_of_lt_of_le FP79_0.lt sq82_b82)
        have sz_b82 : h0.size ≤ b82 := Nat.le_trans K79.1 sq82_b82
        have G_b82 : n0 ≤ b82 := Nat.le_trans Z0 sz_b82
        have F83 : ownAI Z T82.heap b26 .int 0 (fun _ => (0 : Int32)) := F80.keep Kq82 nin0
        have F84 : Exa Z T82.heap b73 "com/example/sieveline/sieveline/solver/BitMatrix" := FP79_0.keep Kq82
        have F85 : Fld Z T82.heap b73 "com/example/sieveline/sieveline/solver/BitMatrix" "rowWords" "I" (.int (4 : Int32)) := FP79_1.keep Kq82 nin0
        refine ownRun (T' := T82) (f' := (mkF m 136 #[iv p0, iv p1, iv p2, iv p3, iv p4, iv v1, iv (0 : Int32), iv v23, iv v24, iv v25, rv b26, rv b73, .unset, .unset] [(.ref b82)])) st82 ?_
        refine ow_astore (q := 138) X82 hx (L' := #[iv p0, iv p1, iv p2, iv p3, iv p4, iv v1, iv (0 : Int32), iv v23, iv v24, iv v25, rv b26, rv b73, rv b82, .unset]) (hb hby at_136) rfl rfl rfl ?_
        refine ow_iload (q := 140) X82 hx (hb hby at_138) rfl rfl ?_
        refine ow_ifYes (q := 147) X82 hx (hb hby at_140) (Jvm.Free.XT.i0_ne_t hz2) (by decide) (by decide) ?_
        refine ow_iload (q := 149) X82 hx (hb hby at_147) rfl rfl ?_
        refine ow_bipush (q := 151) X82 hx (64 : Int32) (hb hby at_149) rfl rfl ?_
        refine ow_icmpYes (q := 158) X82 hx (hb hby at_151) (Jvm.Free.XT.ii_gt_t (by simp only [Int32.lt_iff_toInt_lt, Int32.reduceToInt]; have := hL.2; omega)) (by decide) (by decide) ?_
        refine ow_iload (q := 160) X82 hx (hb hby at_158) rfl rfl ?_
        refine ow_sipush (q := 163) X82 hx (128 : Int32) (hb hby at_160) rfl rfl ?_
        refine ow_icmpYes (q := 170) X82 hx (hb hby at_163) (Jvm.Free.XT.ii_gt_t (by simp only [Int32.lt_iff_toInt_lt, Int32.reduceToInt]; have := hL.2; omega)) (by decide) (by decide) ?_
        refine ow_iload (q := 172) X82 hx (hb hby at_170) rfl rfl ?_
        refine ow_sipush (q := 175) X82 hx (192 : Int32) (hb hby at_172) rfl rfl ?_
        refine ow_icmpYes (q := 182) X82 hx (hb hby at_175) (Jvm.Free.XT.ii_gt_t (by simp only [Int32.lt_iff_toInt_lt, Int32.reduceToInt]; have := hL.2; omega)) (by decide) (by decide) ?_
        refine ow_iconst (q := 183) X82 hx (4 : Int32) (hb hby at_182) rfl rfl ?_
        refine ow_istore (q := 185) X82 hx (L' := #[iv p0, iv p1, iv p2, iv p3, iv p4, iv v1, iv (0 : Int32), iv v23, iv v24, iv v25, rv b26, rv b73, rv b82, iv (4 : Int32)]) (hb hby at_183) rfl rfl ?_
        refine ow_aload (q := 187) X82 hx (hb hby at_185) rfl rfl rfl ?_
        refine ownGo (T' := T82) (f' := (mkF m 190 #[iv p0, iv p1, iv p2, iv p3, iv p4, iv v1, iv (0 : Int32), iv v23, iv v24, iv v25, rv b26, rv b73, rv b82, iv (4 : Int32)] [])) (fun _ k => XS.ifnullNo X82.here hx rfl (hb hby at_187) rfl k) ?_
        refine ow_aload (q := 192) X82 hx (hb hby at_190) rfl rfl rfl ?_
        refine ownGo (T' := T82) (f' := (mkF m 193 #[iv p0, iv p1, iv p2, iv p3, iv p4, iv v1, iv (0 : Int32), iv v23, iv v24, iv v25, rv b26, rv b73, rv b82, iv (4 : Int32)] [(.int (4 : Int32))])) (ownLenJ FP82_0 X82 hx hZ rfl (z := (4 : Int32)) (by decide) (g := (mkF m 192 #[iv p0, iv p1, iv p2, iv p3, iv p4, iv v1, iv (0 : Int32), iv v23, iv v24, iv v25, rv b26, rv b73, rv b82, iv (4 : Int32)] [(.ref b82)])) rfl rfl (hb hby at_192)) ?_
        refine ow_iload (q := 195) X82 hx (hb hby at_193) rfl rfl ?_
        refine ow_icmpYes (q := 200) X82 hx (hb hby at_195) (Jvm.Free.XT.ii_eq_t (by decide)) (by decide) (by decide) ?_
        refine ow_iload (q := 202) X82 hx (hb hby at_200) rfl rfl ?_
        refine ow_ifNo (q := 205) X82 hx (hb hby at_202) rfl (Jvm.Free.XT.i0_le_f (by decide)) ?_
        refine ow_aload (q := 207) X82 hx (hb hby at_205) rfl rfl rfl ?_
        refine ow_iconst (q := 208) X82 hx (0 : Int32) (hb hby at_207) rfl rfl ?_
        refine ownGo (T' := T82) (f' := (mkF m 209 #[iv p0, iv p1, iv p2, iv p3, iv p4, iv v1, iv (0 : Int32), iv v23, iv v24, iv v25, rv b26, rv b73, rv b82, iv (4 : Int32)] [(.long (0 : Int64))])) (ownLaload FP82_0 X82 hx hZ rfl (j := (0 : Int32)) (by unfold ownIn; decide) (g := (mkF m 208 #[iv p0, iv p1, iv p2, iv p3, iv p4, iv v1, iv (0 : Int32), iv v23, iv v24, iv v25, rv b26, rv b73, rv b82, iv (4 : Int32)] [(.int (0 : Int32)), (.ref b82)])) rfl rfl (hb hby at_208)) ?_
        refine ow_iconst (q := 210) X82 hx (0 : Int32) (hb hby at_209) rfl rfl ?_
        refine ow_iload (q := 212) X82 hx (hb hby at_210) rfl rfl ?_
        refine ow_iload (q := 214) X82 hx (hb hby at_212) rfl rfl ?_
        refine ow_iload (q := 216) X82 hx (hb hby at_214) rfl rfl ?_
        refine ow_iload (q := 218) X82 hx (hb hby at_216) rfl rfl ?_
        obtain ⟨_, _, ⟨T86, L86, k86, n86⟩, -, X86, ⟨Lc86, hQ86, l86, y86, z86⟩, st86⟩ := Jvm.LawKit.callS X82 hx (y := (⟨"com/example/sieveline/sieveline/solver/BitMatrixRowPinLaw", "expect", "(IIIII)J"⟩ : MethodName)) hown (mvT hZ (hw _ (List.mem_of_getElem? (i := 35) rfl))) (mvT hZ (hw _ (List.mem_of_getElem? (i := 36) rfl))) (mvT hZ (hw _ (List.mem_of_getElem? (i := 37) rfl))) (mvT hZ (hw _ (List.mem_of_getElem? (i := 38) rfl))) (by decide) (backOf (W := 2) (rm_exp_0_0 l Z av0 hw [] v23 v24 v25 T82.heap n0 (Nat.le_trans Z0 K82.1) ) hZ (hw _ (List.mem_of_getElem? (i := 38) rfl)) (hw _ (List.mem_of_getElem? (i := 37) rfl)) (by decide) (by decide)) (g := (mkF m 218 #[iv p0, iv p1, iv p2, iv p3, iv p4, iv v1, iv (0 : Int32), iv v23, iv v24, iv v25, rv b26, rv b73, rv b82, iv (4 : Int32)] [(.int v25), (.int v24), (.int v23), (.int (0 : Int32)), (.int (0 : Int32)), (.long (0 : Int64))])) rfl (by rw [hml]; rfl) (argsL := [(.int (0 : Int32)), (.int (0 : Int32)), (.int v23), (.int v24), (.int v25)]) (rest := [(.long (0 : Int64))]) (lenOf own_pd5 rfl) rfl (by show 2 * 0 + _ ≤ _; exact Nat.le_of_eq rfl) (hb hby at_218) (fun _ _ => ⟨rfl, rfl, (by decide : 4 + 0 ≤ _), (by decide : 12 + 0 ≤ _)⟩)
        dsimp only [Pt.U, Pt.locs, Pt.cells, Pt.slots] at X86 l86 y86 z86 st86 hQ86
        subst l86 y86 z86
        obtain ⟨rfl, N86q, e86⟩ := hQ86
        have N86 := Fr.app N82 N86q
        refine ownGo (T' := T86) (f' := (mkF m 221 #[iv p0, iv p1, iv p2, iv p3, iv p4, iv v1, iv (0 : Int32), iv v23, iv v24, iv v25, rv b26, rv b73, rv b82, iv (4 : Int32)] [(.long (0 : Int64)), (.long (0 : Int64))])) (st86) ?_
        refine ow_lcmp (q := 222) X86 hx _ (hb hby at_221) rfl rfl ?_
        refine ow_ifYes (q := 227) X86 hx (hb hby at_222) (Jvm.Free.XT.ll_eq_t (by decide)) (by decide) (by decide) ?_
        refine ow_iload (q := 229) X86 hx (hb hby at_227) rfl rfl ?_
        refine ow_iconst (q := 230) X86 hx (1 : Int32) (hb hby at_229) rfl rfl ?_
        refine ow_icmpNo (q := 233) X86 hx (hb hby at_230) rfl (Jvm.Free.XT.ii_le_f (by decide)) ?_
        refine ow_aload (q := 235) X86 hx (hb hby at_233) rfl rfl rfl ?_
        refine ow_iconst (q := 236) X86 hx (1 : Int32) (hb hby at_235) rfl rfl ?_
        refine ownGo (T' := T86) (f' := (mkF m 237 #[iv p0, iv p1, iv p2, iv p3, iv p4, iv v1, iv (0 : Int32), iv v23, iv v24, iv v25, rv b26, rv b73, rv b82, iv (4 : Int32)] [(.long (0 : Int64))])) (ownLaload FP82_0 X86 hx hZ e86 (j := (1 : Int32)) (by unfold ownIn; decide) (g := (mkF m 236 #[iv p0, iv p1, iv p2, iv p3, iv p4, iv v1, iv (0 : Int32), iv v23, iv v24, iv v25, rv b26, rv b73, rv b82, iv (4 : Int32)] [(.int (1 : Int32)), (.ref b82)])) rfl rfl (hb hby at_236)) ?_
        refine ow_iconst (q := 238) X86 hx (1 : Int32) (hb hby at_237) rfl rfl ?_
        refine ow_iload (q := 240) X86 hx (hb hby at_238) rfl rfl ?_
        refine ow_iload (q := 242) X86 hx (hb hby at_240) rfl rfl ?_
        refine ow_iload (q := 244) X86 hx (hb hby at_242) rfl rfl ?_
        refine ow_iload (q := 246) X86 hx (hb hby at_244) rfl rfl ?_
        obtain ⟨_, _, ⟨T87, L87, k87, n87⟩, -, X87, ⟨Lc87, hQ87, l87, y87, z87⟩, st87⟩ := Jvm.LawKit.callS X86 hx (y := (⟨"com/example/sieveline/sieveline/solver/BitMatrixRowPinLaw", "expect", "(IIIII)J"⟩ : MethodName)) hown (mvT hZ (hw _ (List.mem_of_getElem? (i := 35) rfl))) (mvT hZ (hw _ (List.mem_of_getElem? (i := 36) rfl))) (mvT hZ (hw _ (List.mem_of_getElem? (i := 37) rfl))) (mvT hZ (hw _ (List.mem_of_getElem? (i := 38) rfl))) (by decide) (backOf (W := 2) (rm_exp_1_0 l Z av0 hw [] v23 v24 v25 T82.heap n0 (Nat.le_trans Z0 K82.1) ) hZ (hw _ (List.mem_of_getElem? (i := 38) rfl)) (hw _ (List.mem_of_getElem? (i := 37) rfl)) (by decide) (by decide)) (g := (mkF m 246 #[iv p0, iv p1, iv p2, iv p3, iv p4, iv v1, iv (0 : Int32), iv v23, iv v24, iv v25, rv b26, rv b73, rv b82, iv (4 : Int32)] [(.int v25), (.int v24), (.int v23), (.int (0 : Int32)), (.int (1 : Int32)), (.long (0 : Int64))])) rfl (by rw [hml]; rfl) (argsL := [(.int (1 : Int32)), (.int (0 : Int32)), (.int v23), (.int v24), (.int v25)]) (rest := [(.long (0 : Int64))]) (lenOf own_pd5 rfl) rfl (by show 2 * 0 + _ ≤ _; exact Nat.le_of_eq rfl) (hb hby at_246) (fun _ _ => ⟨rfl, e86, (by decide : 4 + 0 ≤ _), (by decide : 12 + 0 ≤ _)⟩)
        dsimp only [Pt.U, Pt.locs, Pt.cells, Pt.slots] at X87 l87 y87 z87 st87 hQ87
        subst l87 y87 z87
        obtain ⟨rfl, N87q, e87⟩ := hQ87
        have N87 := Fr.app N86 N87q
        refine ownGo (T' := T87) (f' := (mkF m 249 #[iv p0, iv p1, iv p2, iv p3, iv p4, iv v1, iv (0 : Int32), iv v23, iv v24, iv v25, rv b26, rv b73, rv b82, iv (4 : Int32)] [(.long (0 : Int64)), (.long (0 : Int64))])) (st87) ?_
        refine ow_lcmp (q := 250) X87 hx _ (hb hby at_249) rfl rfl ?_
        refine ow_ifYes (q := 255) X87 hx (hb hby at_250) (Jvm.Free.XT.ll_eq_t (by decide)) (by decide) (by decide) ?_
        refine ow_iload (q := 257) X87 hx (hb hby at_255) rfl rfl ?_
        refine ow_iconst (q := 258) X87 hx (2 : Int32) (hb hby at_257) rfl rfl ?_
        refine ow_icmpNo (q := 261) X87 hx (hb hby at_258) rfl (Jvm.Free.XT.ii_le_f (by decide)) ?_
        refine ow_aload (q := 263) X87 hx (hb hby at_261) rfl rfl rfl ?_
        refine ow_iconst (q := 264) X87 hx (2 : Int32) (hb hby at_263) rfl rfl ?_
        refine ownGo (T' := T87) (f' := (mkF m 265 #[iv p0, iv p1, iv p2, iv p3, iv p4, iv v1, iv (0 : Int32), iv v23, iv v24, iv v25, rv b26, rv b73, rv b82, iv (4 : Int32)] [(.long (0 : Int64))])) (ownLaload FP82_0 X87 hx hZ e87 (j := (2 : Int32)) (by unfold ownIn; decide) (g := (mkF m 264 #[iv p0, iv p1, iv p2, iv p3, iv p4, iv v1, iv (0 : Int32), iv v23, iv v24, iv v25, rv b26, rv b73, rv b82, iv (4 : Int32)] [(.int (2 : Int32)), (.ref b82)])) rfl rfl (hb hby at_264)) ?_
        refine ow_iconst (q := 266) X87 hx (2 : Int32) (hb hby at_265) rfl rfl ?_
        refine ow_iload (q := 268) X87 hx (hb hby at_266) rfl rfl ?_
        refine ow_iload (q := 270) X87 hx (hb hby at_268) rfl rfl ?_
        refine ow_iload (q := 272) X87 hx (hb hby at_270) rfl rfl ?_
        refine ow_iload (q := 274) X87 hx (hb hby at_272) rfl rfl ?_
        obtain ⟨_, _, ⟨T88, L88, k88, n88⟩, -, X88, ⟨Lc88, hQ88, l88, y88, z88⟩, st88⟩ := Jvm.LawKit.callS X87 hx (y := (⟨"com/example/sieveline/sieveline/solver/BitMatrixRowPinLaw", "expect", "(IIIII)J"⟩ : MethodName)) hown (mvT hZ (hw _ (List.mem_of_getElem? (i := 35) rfl))) (mvT hZ (hw _ (List.mem_of_getElem? (i := 36) rfl))) (mvT hZ (hw _ (List.mem_of_getElem? (i := 37) rfl))) (mvT hZ (hw _ (List.mem_of_getElem? (i := 38) rfl))) (by decide) (backOf (W := 2) (rm_exp_2_0 l Z av0 hw [] v23 v24 v25 T82.heap n0 (Nat.le_trans Z0 K82.1) ) hZ (hw _ (List.mem_of_getElem? (i := 38) rfl)) (hw _ (List.mem_of_getElem? (i := 37) rfl)) (by decide) (by decide)) (g := (mkF m 274 #[iv p0, iv p1, iv p2, iv p3, iv p4, iv v1, iv (0 : Int32), iv v23, iv v24, iv v25, rv b26, rv b73, rv b82, iv (4 : Int32)] [(.int v25), (.int v24), (.int v23), (.int (0 : Int32)), (.int (2 : Int32)), (.long (0 : Int64))])) rfl (by rw [hml]; rfl) (argsL := [(.int (2 : Int32)), (.int (0 : Int32)), (.int v23), (.int v24), (.int v25)]) (rest := [(.long (0 : Int64))]) (lenOf own_pd5 rfl) rfl (by show 2 * 0 + _ ≤ _; exact Nat.le_of_eq rfl) (hb hby at_274) (fun _ _ => ⟨rfl, e87, (by decide : 4 + 0 ≤ _), (by decide : 12 + 0 ≤ _)⟩)
        dsimp only [Pt.U, Pt.locs, Pt.cells, Pt.slots] at X88 l88 y88 z88 st88 hQ88
        subst l88 y88 z88
        obtain ⟨rfl, N88q, e88⟩ := hQ88
        have N88 := Fr.app N87 N88q
        refine ownGo (T' := T88) (f' := (mkF m 277 #[iv p0, iv p1, iv p2, iv p3, iv p4, iv v1, iv (0 : Int32), iv v23, iv v24, iv v25, rv b26, rv b73, rv b82, iv (4 : Int32)] [(.long (0 : Int64)), (.long (0 : Int64))])) (st88) ?_
        refine ow_lcmp (q := 278) X88 hx _ (hb hby at_277) rfl rfl ?_
        refine ow_ifYes (q := 283) X88 hx (hb hby at_278) (Jvm.Free.XT.ll_eq_t (by decide)) (by decide) (by decide) ?_
        refine ow_iload (q := 285) X88 hx (hb hby at_283) rfl rfl ?_
        refine ow_iconst (q := 286) X88 hx (3 : Int32) (hb hby at_285) rfl rfl ?_
        refine ow_icmpNo (q := 289) X88 hx (hb hby at_286) rfl (Jvm.Free.XT.ii_le_f (by decide)) ?_
        refine ow_aload (q := 291) X88 hx (hb hby at_289) rfl rfl rfl ?_
        refine ow_iconst (q := 292) X88 hx (3 : Int32) (hb hby at_291) rfl rfl ?_
        refine ownGo (T' := T88) (f' := (mkF m 293 #[iv p0, iv p1, iv p2, iv p3, iv p4, iv v1, iv (0 : Int32), iv v23, iv v24, iv v25, rv b26, rv b73, rv b82, iv (4 : Int32)] [(.long (0 : Int64))])) (ownLaload FP82_0 X88 hx hZ e88 (j := (3 : Int32)) (by unfold ownIn; decide) (g := (mkF m 292 #[iv p0, iv p1, iv p2, iv p3, iv p4, iv v1, iv (0 : Int32), iv v23, iv v24, iv v25, rv b26, rv b73, rv b82, iv (4 : Int32)] [(.int (3 : Int32)), (.ref b82)])) rfl rfl (hb hby at_292)) ?_
        refine ow_iconst (q := 294) X88 hx (3 : Int32) (hb hby at_293) rfl rfl ?_
        refine ow_iload (q := 296) X88 hx (hb hby at_294) rfl rfl ?_
        refine ow_iload (q := 298) X88 hx (hb hby at_296) rfl rfl ?_
        refine ow_iload (q := 300) X88 hx (hb hby at_298) rfl rfl ?_
        refine ow_iload (q := 302) X88 hx (hb hby at_300) rfl rfl ?_
        obtain ⟨_, _, ⟨T89, L89, k89, n89⟩, -, X89, ⟨Lc89, hQ89, l89, y89, z89⟩, st89⟩ := Jvm.LawKit.callS X88 hx (y := (⟨"com/example/sieveline/sieveline/solver/BitMatrixRowPinLaw", "expect", "(IIIII)J"⟩ : MethodName)) hown (mvT hZ (hw _ (List.mem_of_getElem? (i := 35) rfl))) (mvT hZ (hw _ (List.mem_of_getElem? (i := 36) rfl))) (mvT hZ (hw _ (List.mem_of_getElem? (i := 37) rfl))) (mvT hZ (hw _ (List.mem_of_getElem? (i := 38) rfl))) (by decide) (backOf (W := 2) (rm_exp_3_0 l Z av0 hw [] v23 v24 v25 T82.heap n0 (Nat.le_trans Z0 K82.1) ) hZ (hw _ (List.mem_of_getElem? (i := 38) rfl)) (hw _ (List.mem_of_getElem? (i := 37) rfl)) (by decide) (by decide)) (g := (mkF m 302 #[iv p0, iv p1, iv p2, iv p3, iv p4, iv v1, iv (0 : Int32), iv v23, iv v24, iv v25, rv b26, rv b73, rv b82, iv (4 : Int32)] [(.int v25), (.int v24), (.int v23), (.int (0 : Int32)), (.int (3 : Int32)), (.long (0 : Int64))])) rfl (by rw [hml]; rfl) (argsL := [(.int (3 : Int32)), (.int (0 : Int32)), (.int v23), (.int v24), (.int v25)]) (rest := [(.long (0 : Int64))]) (lenOf own_pd5 rfl) rfl (by show 2 * 0 + _ ≤ _; exact Nat.le_of_eq rfl) (hb hby at_302) (fun _ _ => ⟨rfl, e88, (by decide : 4 + 0 ≤ _), (by decide : 12 + 0 ≤ _)⟩)
        dsimp only [Pt.U, Pt.locs, Pt.cells, Pt.slots] at X89 l89 y89 z89 st89 hQ89
        subst l89 y89 z89
        obtain ⟨rfl, N89q, e89⟩ := hQ89
        have N89 := Fr.app N88 N89q
        refine ownGo (T' := T89) (f' := (mkF m 305 #[iv p0, iv p1, iv p2, iv p3, iv p4, iv v1, iv (0 : Int32), iv v23, iv v24, iv v25, rv b26, rv b73, rv b82, iv (4 : Int32)] [(.long (0 : Int64)), (.long (0 : Int64))])) (st89) ?_
        refine ow_lcmp (q := 306) X89 hx _ (hb hby at_305) rfl rfl ?_
        refine ow_ifYes (q := 311) X89 hx (hb hby at_306) (Jvm.Free.XT.ll_eq_t (by decide)) (by decide) (by decide) ?_
        refine ow_iconst (q := 312) X89 hx (1 : Int32) (hb hby at_311) rfl rfl ?_
        refine ownRetN X89 hx (r := (1 : Int32)) (Or.inl rfl) Bd.returns (hb hby at_312) hlk (by decide) (by decide) (by decide) ?_
        exact ⟨rfl, N89⟩
    · subst hs20
      refine ow_iload (q := 23) X0 hx (hb hby at_21) rfl rfl ?_
      refine ow_ifYes (q := 30) X0 hx (hb hby at_23) (Jvm.Free.XT.i0_ne_t hz2) (by decide) (by decide) ?_
      refine ow_iloadN (q := 31) X0 hx (hb hby at_30) rfl rfl ?_
      refine ownGo (T' := s₁) (f' := (mkF m 33 #[iv p0, iv p1, iv p2, iv p3, iv p4, iv v1, iv (1 : Int32), .unset, .unset, .unset, .unset, .unset, .unset, .unset] [(.int (2147483647 : Int32)), (.int p2)])) (X0.ldcInt hx hown (mvT hZ (hw _ (List.mem_of_getElem? (i := 34) rfl))) (g := (mkF m 31 #[iv p0, iv p1, iv p2, iv p3, iv p4, iv v1, iv (1 : Int32), .unset, .unset, .unset, .unset, .unset, .unset, .unset] [(.int p2)])) rfl (hb hby at_31)) ?_
      refine ow_iand (q := 34) X0 hx _ (hb hby at_33) rfl rfl ?_
      refine ow_iload (q := 36) X0 hx (hb hby at_34) rfl rfl ?_
      refine ow_irem (q := 37) X0 hx _ (hb hby at_36) rfl hz2 rfl ?_
      generalize hv_v90 : ((p2 &&& (2147483647 : Int32)) % v1) = v90
      refine ow_istore (q := 39) X0 hx (L' := #[iv p0, iv p1, iv p2, iv p3, iv p4, iv v1, iv (1 : Int32), iv v90, .unset, .unset, .unset, .unset, .unset, .unset]) (hb hby at_37) rfl rfl ?_
      refine ow_iload (q := 41) X0 hx (hb hby at_39) rfl rfl ?_
      refine ow_ifYes (q := 48) X0 hx (hb hby at_41) (Jvm.Free.XT.i0_ne_t hz2) (by decide) (by decide) ?_
      refine ow_iloadN (q := 49) X0 hx (hb hby at_48) rfl rfl ?_
      refine ownGo (T' := s₁) (f' := (mkF m 51 #[iv p0, iv p1, iv p2, iv p3, iv p4, iv v1, iv (1 : Int32), iv v90, .unset, .unset, .unset, .unset, .unset, .unset] [(.int (2147483647 : Int32)), (.int p3)])) (X0.ldcInt hx hown (mvT hZ (hw _ (List.mem_of_getElem? (i := 34) rfl))) (g := (mkF m 49 #[iv p0, iv p1, iv p2, iv p3, iv p4, iv v1, iv (1 : Int32), iv v90, .unset, .unset, .unset, .unset, .unset, .unset] [(.int p3)])) rfl (hb hby at_49)) ?_
      refine ow_iand (q := 52) X0 hx _ (hb hby at_51) rfl rfl ?_
      refine ow_iload (q := 54) X0 hx (hb hby at_52) rfl rfl ?_
      refine ow_irem (q := 55) X0 hx _ (hb hby at_54) rfl hz2 rfl ?_
      generalize hv_v91 : ((p3 &&& (2147483647 : Int32)) % v1) = v91
      refine ow_istore (q := 57) X0 hx (L' := #[iv p0, iv p1, iv p2, iv p3, iv p4, iv v1, iv (1 : Int32), iv v90, iv v91, .unset, .unset, .unset, .unset, .unset]) (hb hby at_55) rfl rfl ?_
      refine ow_iload (q := 59) X0 hx (hb hby at_57) rfl rfl ?_
      refine ow_ifYes (q := 66) X0 hx (hb hby at_59) (Jvm.Free.XT.i0_ne_t hz2) (by decide) (by decide) ?_
      refine ow_iload (q := 68) X0 hx (hb hby at_66) rfl rfl ?_
      refine ownGo (T' := s₁) (f' := (mkF m 70 #[iv p0, iv p1, iv p2, iv p3, iv p4, iv v1, iv (1 : Int32), iv v90, iv v91, .unset, .unset, .unset, .unset, .unset] [(.int (2147483647 : Int32)), (.int p4)])) (X0.ldcInt hx hown (mvT hZ (hw _ (List.mem_of_getElem? (i := 34) rfl))) (g := (mkF m 68 #[iv p0, iv p1, iv p2, iv p3, iv p4, iv v1, iv (1 : Int32), iv v90, iv v91, .unset, .unset, .unset, .unset, .unset] [(.int p4)])) rfl (hb hby at_68)) ?_
      refine ow_iand (q := 71) X0 hx _ (hb hby at_70) rfl rfl ?_
      refine ow_iload (q := 73) X0 hx (hb hby at_71) rfl rfl ?_
      refine ow_irem (q := 74) X0 hx _ (hb hby at_73) rfl hz2 rfl ?_
      generalize hv_v92 : ((p4 &&& (2147483647 : Int32)) % v1) = v92
      refine ow_istore (q := 76) X0 hx (L' := #[iv p0, iv p1, iv p2, iv p3, iv p4, iv v1, iv (1 : Int32), iv v90, iv v91, iv v92, .unset, .unset, .unset, .unset]) (hb hby at_74) rfl rfl ?_
      refine ow_iload (q := 78) X0 hx (hb hby at_76) rfl rfl ?_
      obtain ⟨T93, h93, k93, X93, e93, E93, A93, st93⟩ := newP X0 hx hZ (hw _ (List.mem_of_getElem? (i := 0) rfl)) e0 (g := (mkF m 78 #[iv p0, iv p1, iv p2, iv p3, iv p4, iv v1, iv (1 : Int32), iv v90, iv v91, iv v92, .unset, .unset, .unset, .unset] [(.int (1 : Int32))])) rfl (hb hby at_78) rfl (by decide) (cap := 1) (by decide) (by decide) (by decide) (by decide)
      obtain ⟨b93, g93⟩ : ∃ z, z = h0.size := ⟨_, rfl⟩
      rw [← g93] at A93 st93
      have sz_b93 : h0.size ≤ b93 := Nat.le_trans K0.1 (Nat.le_of_eq g93.symm)
      have G_b93 : n0 ≤ b93 := Nat.le_trans Z0 sz_b93
      have K93 : Keep h0 h93 [] := K0.ext E93
      have F94 : ownAI Z h93 b93 .int 1 (fun _ => (0 : Int32)) := ownAI.new A93 (by decide) rfl (by decide)
      refine ownGo (T' := T93) (f' := (mkF m 80 #[iv p0, iv p1, iv p2, iv p3, iv p4, iv v1, iv (1 : Int32), iv v90, iv v91, iv v92, .unset, .unset, .unset, .unset] [(.ref b93)])) (st93) ?_
      refine ow_astore (q := 82) X93 hx (L' := #[iv p0, iv p1, iv p2, iv p3, iv p4, iv v1, iv (1 : Int32), iv v90, iv v91, iv v92, rv b93, .unset, .unset, .unset]) (hb hby at_80) rfl rfl rfl ?_
      refine ow_iload (q := 84) X93 hx (hb hby at_82) rfl rfl ?_
      refine ow_ifNo (q := 87) X93 hx (hb hby at_84) rfl (Jvm.Free.XT.i0_le_f (by decide)) ?_
      refine ow_aload (q := 89) X93 hx (hb hby at_87) rfl rfl rfl ?_
      refine ow_iconst (q := 90) X93 hx (0 : Int32) (hb hby at_89) rfl rfl ?_
      refine ow_iload (q := 92) X93 hx (hb hby at_90) rfl rfl ?_
      obtain ⟨T95, h95, X95, e95, W95, F95s, st95⟩ := ownIastore F94 X93 hx hZ e93 (j := (0 : Int32)) (by unfold ownIn; decide) (g := (mkF m 92 #[iv p0, iv p1, iv p2, iv p3, iv p4, iv v1, iv (1 : Int32), iv v90, iv v91, iv v92, rv b93, .unset, .unset, .unset] [(.int v90), (.int (0 : Int32)), (.ref b93)])) rfl rfl (hb hby at_92)
      have F95r : ownAI Z h95 b93 .int 1 (ownUpd (fun _ => (0 : Int32)) 0 v90) := F95s
      have N95 := Fr.snoc X95 N0 G_b93
      have K95 : Keep h0 h95 [] := K93.wr W95 (Or.inr sz_b93)
      refine ownGo (T' := T95) (f' := (mkF m 93 #[iv p0, iv p1, iv p2, iv p3, iv p4, iv v1, iv (1 : Int32), iv v90, iv v91, iv v92, rv b93, .unset, .unset, .unset] [])) (st95) ?_
      refine ow_iload (q := 95) X95 hx (hb hby at_93) rfl rfl ?_
      refine ow_iconst (q := 96) X95 hx (1 : Int32) (hb hby at_95) rfl rfl ?_
      refine ow_icmpYes (q := 105) X95 hx (hb hby at_96) (Jvm.Free.XT.ii_le_t (by decide)) (by decide) (by decide) ?_
      refine ow_iload (q := 107) X95 hx (hb hby at_105) rfl rfl ?_
      refine ow_iconst (q := 108) X95 hx (2 : Int32) (hb hby at_107) rfl rfl ?_
      refine ow_icmpYes (q := 117) X95 hx (hb hby at_108) (Jvm.Free.XT.ii_le_t (by decide)) (by decide) (by decide) ?_
      rcases own_cls hv_v1 hz2 with hL | hL | hL | hL
      · obtain ⟨T96, h96, X96, e96, E96, A96, D96, -, st96⟩ := newO X95 hx hZ hown (hw _ (List.mem_of_getElem? (i := 1) rfl)) (hw _ (List.mem_of_getElem? (i := 2) rfl)) (hw _ (List.mem_of_getElem? (i := 3) rfl)) e95 (g := (mkF m 117 #[iv p0, iv p1, iv p2, iv p3, iv p4, iv v1, iv (1 : Int32), iv v90, iv v91, iv v92, rv b93, .unset, .unset, .unset] [])) rfl (hb hby at_117) (by decide) (by decide)
        obtain ⟨b96, g96⟩ : ∃ z, z = h95.size := ⟨_, rfl⟩
        rw [← g96] at A96 D96 st96
        have ne_b93_b96 : b93 ≠ b96 := Nat.ne_of_lt (Nat.lt_of_lt_of_le F95r.lt (Nat.le_of_eq g96.symm))
        have sz_b96 : h0.size ≤ b96 := Nat.le_trans K95.1 (Nat.le_of_eq g96.symm)
        have G_b96 : n0 ≤ b96 := Nat.le_trans Z0 sz_b96
        have K96 : Keep h0 h96 [] := K95.ext E96
        have F97 : ownAI Z h96 b93 .int 1 (ownUpd (fun _ => (0 : Int32)) 0 v90) := F95r.ext E96
        have F98 : Fld Z h96 b96 "com/example/sieveline/sieveline/solver/BitMatrix" "rowWords" "I" (.int (0 : Int32)) := D96 (Or.inr (hw _ (List.mem_of_getElem? (i := 14) rfl))) (ty := .int) (by decide)
        have F99 : Fld Z h96 b96 "com/example/sieveline/sieveline/solver/BitMatrix" "words" "[J" .null := D96 (Or.inr (hw _ (List.mem_of_getElem? (i := 24) rfl))) (ty := (.array .long)) (by decide)
        have F100 : Fld Z h96 b96 "com/example/sieveline/sieveline/solver/BitMatrix" "rows" "I" (.int (0 : Int32)) := D96 (Or.inr (hw _ (List.mem_of_getElem? (i := 26) rfl))) (ty := .int) (by decide)
        have F101 : Fld Z h96 b96 "com/example/sieveline/sieveline/solver/BitMatrix" "columns" "I" (.int (0 : Int32)) := D96 (Or.inr (hw _ (List.mem_of_getElem? (i := 28) rfl))) (ty := .int) (by decide)
        refine ownGo (T' := T96) (f' := (mkF m 120 #[iv p0, iv p1, iv p2, iv p3, iv p4, iv v1, iv (1 : Int32), iv v90, iv v91, iv v92, rv b93, .unset, .unset, .unset] [(.ref b96)])) (st96) ?_
        refine ow_dup (q := 121) X96 hx (hb hby at_120) rfl rfl ?_
        refine ow_iconst (q := 122) X96 hx (1 : Int32) (hb hby at_121) rfl rfl ?_
        refine ow_iload (q := 124) X96 hx (hb hby at_122) rfl rfl ?_
        obtain ⟨_, _, ⟨T102, L102, k102, n102⟩, -, X102, ⟨Lc102, hQ102, l102, y102, z102⟩, st102⟩ := X96.specialBack hx (y := (⟨"com/example/sieveline/sieveline/solver/BitMatrix", "<init>", "(II)V"⟩ : MethodName)) rfl hown (mvT hZ (hw _ (List.mem_of_getElem? (i := 4) rfl))) (mvT hZ (hw _ (List.mem_of_getElem? (i := 5) rfl))) (mvT hZ (hw _ (List.mem_of_getElem? (i := 6) rfl))) (by decide) (backOf (W := 1) (rm_init_1 l Z av0 hw [] b96 v1 h96 n0 (Nat.le_trans Z0 K96.1) A96 F98 F99 F100 F101 G_b96 hL.1) hZ (hw _ (List.mem_of_getElem? (i := 6) rfl)) (hw _ (List.mem_of_getElem? (i := 3) rfl)) (by decide) (by decide)) (g := (mkF m 124 #[iv p0, iv p1, iv p2, iv p3, iv p4, iv v1, iv (1 : Int32), iv v90, iv v91, iv v92, rv b93, .unset, .unset, .unset] [(.int v1), (.int (1 : Int32)), (.ref b96), (.ref b96)])) rfl (by rw [hml]; rfl) (Steps.refl _) (a := b96) (argsL := [(.int (1 : Int32)), (.int v1)]) (rest := [(.ref b96)]) (lenOf own_pd3 rfl) rfl (by show 2 * 0 + _ ≤ _; exact Nat.le_of_eq rfl) (hb hby at_124) (fun _ _ => ⟨rfl, e96, (by decide : 2 + 1 ≤ _), (by decide : 5 + 1 ≤ _)⟩)
        dsimp only [Pt.U, Pt.locs, Pt.cells, Pt.slots] at X102 l102 y102 z102 st102 hQ102
        subst l102 y102 z102
        obtain ⟨rfl, N102q, Kq102, FP102_0, FP102_1⟩ := hQ102
        have N102 := Fr.app N95 N102q
        have K102 : Keep h0 T102.heap [] := K96.trans Kq102 (allS (Or.inr sz_b96) all0)
        have F103 : ownAI Z T102.heap b93 .int 1 (ownUpd (fun _ => (0 : Int32)) 0 v90) := F97.keep Kq102 (ninS ne_b93_b96 nin0)
        have F104 : Exa Z T102.heap b96 "com/example/sieveline/sieveline/solver/BitMatrix" := A96.keep Kq102
        refine ownRun (T' := T102) (f' := (mkF m 127 #[iv p0, iv p1, iv p2, iv p3, iv p4, iv v1, iv (1 : Int32), iv v90, iv v91, iv v92, rv b93, .unset, .unset, .unset] [(.ref b96)])) st102 ?_
        refine ow_astore (q := 129) X102 hx (L' := #[iv p0, iv p1, iv p2, iv p3, iv p4, iv v1, iv (1 : Int32), iv v90, iv v91, iv v92, rv b93, rv b96, .unset, .unset]) (hb hby at_127) rfl rfl rfl ?_
        refine ow_aload (q := 131) X102 hx (hb hby at_129) rfl rfl rfl ?_
        refine ow_aload (q := 133) X102 hx (hb hby at_131) rfl rfl rfl ?_
        obtain ⟨cq105, kq105, q105a, q105b, q105c⟩ := isOf hZ rfl FP102_0
        obtain ⟨_, _, ⟨T105, L105, k105, n105⟩, -, X105, ⟨Lc105, hQ105, l105, y105, z105⟩, st105⟩ := X102.virtualBack hx (y := (⟨"com/example/sieveline/sieveline/solver/BitMatrix", "row", "([I)[J"⟩ : MethodName)) (z := (⟨"com/example/sieveline/sieveline/solver/BitMatrix", "row", "([I)[J"⟩ : MethodName)) hown (mvT hZ (hw _ (List.mem_of_getElem? (i := 29) rfl))) (mvT hZ (hw _ (List.mem_of_getElem? (i := 30) rfl))) (notFace_of_selects (args := #[]) (mvT hZ (hw _ (List.mem_of_getElem? (i := 32) rfl)))) (mvT hZ (hw _ (List.mem_of_getElem? (i := 32) rfl))) (mvT hZ (hw _ (List.mem_of_getElem? (i := 31) rfl))) (by decide) (backOf (W := 0) (rm_row_1_1 l Z av0 hw [] b96 b93 (ownUpd (fun _ => (0 : Int32)) 0 v90) T102.heap n0 (Nat.le_trans Z0 K102.1) FP102_1 F103 (own_val hv_v90 hv_v1 hz2 hL.2.2)) hZ (hw _ (List.mem_of_getElem? (i := 33) rfl)) (hw _ (List.mem_of_getElem? (i := 3) rfl)) (by decide) (by decide)) q105a q105c (g := (mkF m 133 #[iv p0, iv p1, iv p2, iv p3, iv p4, iv v1, iv (1 : Int32), iv v90, iv v91, iv v92, rv b93, rv b96, .unset, .unset] [(.ref b93), (.ref b96)])) rfl (by rw [hml]; rfl) (Steps.refl _) (argsL := [(.ref b93)]) (rest := []) (lenOf own_pd4 rfl) rfl (by show 2 * 0 + _ ≤ _; exact Nat.le_of_eq rfl) (hb hby at_133) (fun _ _ => ⟨rfl, rfl, (by decide : 3 + 1 ≤ _), (by decide : 6 + 1 ≤ _)⟩)
        dsimp only [Pt.U, Pt.locs, Pt.cells, Pt.slots] at X105 l105 y105 z105 st105 hQ105
        subst l105 y105 z105
        obtain ⟨b105, rfl, N105q, Kq105, sq105_b105, FP105_0⟩ := hQ105
        have N105 := Fr.app N102 N105q
        have K105 : Keep h0 T105.heap [] := K102.trans Kq105 all0
        have ne_b93_b105 : b93 ≠ b105 := Nat.ne_of_lt (Nat.lt_of_lt_of_le F103.lt sq105_b105)
        have ne_b96_b105 : b96 ≠ b105 := Nat.ne_of_lt (Nat.lt_of_lt_of_le FP102_0.lt sq105_b105)
        have sz_b105 : h0.size ≤ b105 := Nat.le_trans K102.1 sq105_b105
        have G_b105 : n0 ≤ b105 := Nat.le_trans Z0 sz_b105
        have F106 : ownAI Z T105.heap b93 .int 1 (ownUpd (fun _ => (0 : Int32)) 0 v90) := F103.keep Kq105 nin0
        have F107 : Exa Z T105.heap b96 "com/example/sieveline/sieveline/solver/BitMatrix" := FP102_0.keep Kq105
        have F108 : Fld Z T105.heap b96 "com/example/sieveline/sieveline/solver/BitMatrix" "rowWords" "I" (.int (1 : Int32)) := FP102_1.keep Kq105 nin0
        refine ownRun (T' := T105) (f' := (mkF m 136 #[iv p0, iv p1, iv p2, iv p3, iv p4, iv v1, iv (1 : Int32), iv v90, iv v91, iv v92, rv b93, rv b96, .unset, .unset] [(.ref b105)])) st105 ?_
        refine ow_astore (q := 138) X105 hx (L' := #[iv p0, iv p1, iv p2, iv p3, iv p4, iv v1, iv (1 : Int32), iv v90, iv v91, iv v92, rv b93, rv b96, rv b105, .unset]) (hb hby at_136) rfl rfl rfl ?_
        refine ow_iload (q := 140) X105 hx (hb hby at_138) rfl rfl ?_
        refine ow_ifYes (q := 147) X105 hx (hb hby at_140) (Jvm.Free.XT.i0_ne_t hz2) (by decide) (by decide) ?_
        refine ow_iload (q := 149) X105 hx (hb hby at_147) rfl rfl ?_
        refine ow_bipush (q := 151) X105 hx (64 : Int32) (hb hby at_149) rfl rfl ?_
        refine ow_icmpNo (q := 154) X105 hx (hb hby at_151) rfl (Jvm.Free.XT.ii_gt_f (by simp only [Int32.lt_iff_toInt_lt, Int32.reduceToInt]; have := hL.2; omega)) ?_
        refine ow_iconst (q := 155) X105 hx (1 : Int32) (hb hby at_154) rfl rfl ?_
        refine ow_goto (q := 183) X105 hx (hb hby at_155) (by decide) (by decide) ?_
        refine ow_istore (q := 185) X105 hx (L' := #[iv p0, iv p1, iv p2, iv p3, iv p4, iv v1, iv (1 : Int32), iv v90, iv v91, iv v92, rv b93, rv b96, rv b105, iv (1 : Int32)]) (hb hby at_183) rfl rfl ?_
        refine ow_aload (q := 187) X105 hx (hb hby at_185) rfl rfl rfl ?_
        refine ownGo (T' := T105) (f' := (mkF m 190 #[iv p0, iv p1, iv p2, iv p3, iv p4, iv v1, iv (1 : Int32), iv v90, iv v91, iv v92, rv b93, rv b96, rv b105, iv (1 : Int32)] [])) (fun _ k => XS.ifnullNo X105.here hx rfl (hb hby at_187) rfl k) ?_
        refine ow_aload (q := 192) X105 hx (hb hby at_190) rfl rfl rfl ?_
        refine ownGo (T' := T105) (f' := (mkF m 193 #[iv p0, iv p1, iv p2, iv p3, iv p4, iv v1, iv (1 : Int32), iv v90, iv v91, iv v92, rv b93, rv b96, rv b105, iv (1 : Int32)] [(.int (1 : Int32))])) (ownLenJ FP105_0 X105 hx hZ rfl (z := (1 : Int32)) (by decide) (g := (mkF m 192 #[iv p0, iv p1, iv p2, iv p3, iv p4, iv v1, iv (1 : Int32), iv v90, iv v91, iv v92, rv b93, rv b96, rv b105, iv (1 : Int32)] [(.ref b105)])) rfl rfl (hb hby at_192)) ?_
        refine ow_iload (q := 195) X105 hx (hb hby at_193) rfl rfl ?_
        refine ow_icmpYes (q := 200) X105 hx (hb hby at_195) (Jvm.Free.XT.ii_eq_t (by decide)) (by decide) (by decide) ?_
        refine ow_iload (q := 202) X105 hx (hb hby at_200) rfl rfl ?_
        refine ow_ifNo (q := 205) X105 hx (hb hby at_202) rfl (Jvm.Free.XT.i0_le_f (by decide)) ?_
        refine ow_aload (q := 207) X105 hx (hb hby at_205) rfl rfl rfl ?_
        refine ow_iconst (q := 208) X105 hx (0 : Int32) (hb hby at_207) rfl rfl ?_
        refine ownGo (T' := T105) (f' := (mkF m 209 #[iv p0, iv p1, iv p2, iv p3, iv p4, iv v1, iv (1 : Int32), iv v90, iv v91, iv v92, rv b93, rv b96, rv b105, iv (1 : Int32)] [(.long ((own_or1 (fun _ => (0 : Int64)) v90) 0))])) (ownLaload FP105_0 X105 hx hZ rfl (j := (0 : Int32)) (by unfold ownIn; decide) (g := (mkF m 208 #[iv p0, iv p1, iv p2, iv p3, iv p4, iv v1, iv (1 : Int32), iv v90, iv v91, iv v92, rv b93, rv b96, rv b105, iv (1 : Int32)] [(.int (0 : Int32)), (.ref b105)])) rfl rfl (hb hby at_208)) ?_
        generalize hv_v109 : ((own_or1 (fun _ => (0 : Int64)) v90) 0) = v109
        refine ow_iconst (q := 210) X105 hx (0 : Int32) (hb hby at_209) rfl rfl ?_
        refine ow_iload (q := 212) X105 hx (hb hby at_210) rfl rfl ?_
        refine ow_iload (q := 214) X105 hx (hb hby at_212) rfl rfl ?_
        refine ow_iload (q := 216) X105 hx (hb hby at_214) rfl rfl ?_
        refine ow_iload (q := 218) X105 hx (hb hby at_216) rfl rfl ?_
        obtain ⟨_, _, ⟨T110, L110, k110, n110⟩, -, X110, ⟨Lc110, hQ110, l110, y110, z110⟩, st110⟩ := Jvm.LawKit.callS X105 hx (y := (⟨"com/example/sieveline/sieveline/solver/BitMatrixRowPinLaw", "expect", "(IIIII)J"⟩ : MethodName)) hown (mvT hZ (hw _ (List.mem_of_getElem? (i := 35) rfl))) (mvT hZ (hw _ (List.mem_of_getElem? (i := 36) rfl))) (mvT hZ (hw _ (List.mem_of_getElem? (i := 37) rfl))) (mvT hZ (hw _ (List.mem_of_getElem? (i := 38) rfl))) (by decide) (backOf (W := 2) (rm_exp_0_1 l Z av0 hw [] v90 v91 v92 T105.heap n0 (Nat.le_trans Z0 K105.1) ) hZ (hw _ (List.mem_of_getElem? (i := 38) rfl)) (hw _ (List.mem_of_getElem? (i := 37) rfl)) (by decide) (by decide)) (g := (mkF m 218 #[iv p0, iv p1, iv p2, iv p3, iv p4, iv v1, iv (1 : Int32), iv v90, iv v91, iv v92, rv b93, rv b96, rv b105, iv (1 : Int32)] [(.int v92), (.int v91), (.int v90), (.int (1 : Int32)), (.int (0 : Int32)), (.long v109)])) rfl (by rw [hml]; rfl) (argsL := [(.int (0 : Int32)), (.int (1 : Int32)), (.int v90), (.int v91), (.int v92)]) (rest := [(.long v109)]) (lenOf own_pd5 rfl) rfl (by show 2 * 0 + _ ≤ _; exact Nat.le_of_eq rfl) (hb hby at_218) (fun _ _ => ⟨rfl, rfl, (by decide : 4 + 0 ≤ _), (by decide : 7 + 0 ≤ _)⟩)
        dsimp only [Pt.U, Pt.locs, Pt.cells, Pt.slots] at X110 l110 y110 z110 st110 hQ110
        subst l110 y110 z110
        obtain ⟨rfl, N110q, e110⟩ := hQ110
        have N110 := Fr.app N105 N110q
        refine ownGo (T' := T110) (f' := (mkF m 221 #[iv p0, iv p1, iv p2, iv p3, iv p4, iv v1, iv (1 : Int32), iv v90, iv v91, iv v92, rv b93, rv b96, rv b105, iv (1 : Int32)] [(.long ((0 : Int64) ||| (own_Bw (0 : Int32) (64 : Int32) v90))), (.long v109)])) (st110) ?_
        refine ow_lcmp (q := 222) X110 hx _ (hb hby at_221) rfl rfl ?_
        refine ow_ifYes (q := 227) X110 hx (hb hby at_222) (Jvm.Free.XT.ll_eq_t (by rw [← hv_v109]; exact own_cmp_0_1 (own_lt (own_val hv_v90 hv_v1 hz2 hL.2.2)))) (by decide) (by decide) ?_
        refine ow_iload (q := 229) X110 hx (hb hby at_227) rfl rfl ?_
        refine ow_iconst (q := 230) X110 hx (1 : Int32) (hb hby at_229) rfl rfl ?_
        refine ow_icmpYes (q := 255) X110 hx (hb hby at_230) (Jvm.Free.XT.ii_le_t (by decide)) (by decide) (by decide) ?_
        refine ow_iload (q := 257) X110 hx (hb hby at_255) rfl rfl ?_
        refine ow_iconst (q := 258) X110 hx (2 : Int32) (hb hby at_257) rfl rfl ?_
        refine ow_icmpYes (q := 283) X110 hx (hb hby at_258) (Jvm.Free.XT.ii_le_t (by decide)) (by decide) (by decide) ?_
        refine ow_iload (q := 285) X110 hx (hb hby at_283) rfl rfl ?_
        refine ow_iconst (q := 286) X110 hx (3 : Int32) (hb hby at_285) rfl rfl ?_
        refine ow_icmpYes (q := 311) X110 hx (hb hby at_286) (Jvm.Free.XT.ii_le_t (by decide)) (by decide) (by decide) ?_
        refine ow_iconst (q := 312) X110 hx (1 : Int32) (hb hby at_311) rfl rfl ?_
        refine ownRetN X110 hx (r := (1 : Int32)) (Or.inl rfl) Bd.returns (hb hby at_312) hlk (by decide) (by decide) (by decide) ?_
        exact ⟨rfl, N110⟩
      · obtain ⟨T111, h111, X111, e111, E111, A111, D111, -, st111⟩ := newO X95 hx hZ hown (hw _ (List.mem_of_getElem? (i := 1) rfl)) (hw _ (List.mem_of_getElem? (i := 2) rfl)) (hw _ (List.mem_of_getElem? (i := 3) rfl)) e95 (g := (mkF m 117 #[iv p0, iv p1, iv p2, iv p3, iv p4, iv v1, iv (1 : Int32), iv v90, iv v91, iv v92, rv b93, .unset, .unset, .unset] [])) rfl (hb hby at_117) (by decide) (by decide)
        obtain ⟨b111, g111⟩ : ∃ z, z = h95.size := ⟨_, rfl⟩
        rw [← g111] at A111 D111 st111
        have ne_b93_b111 : b93 ≠ b111 := Nat.ne_of_lt (Nat.lt_of_lt_of_le F95r.lt (Nat.le_of_eq g111.symm))
        have sz_b111 : h0.size ≤ b111 := Nat.le_trans K95.1 (Nat.le_of_eq g111.symm)
        have G_b111 : n0 ≤ b111 := Nat.le_trans Z0 sz_b111
        have K111 : Keep h0 h111 [] := K95.ext E111
        have F112 : ownAI Z h111 b93 .int 1 (ownUpd (fun _ => (0 : Int32)) 0 v90) := F95r.ext E111
        have F113 : Fld Z h111 b111 "com/example/sieveline/sieveline/solver/BitMatrix" "rowWords" "I" (.int (0 : Int32)) := D111 (Or.inr (hw _ (List.mem_of_getElem? (i := 14) rfl))) (ty := .int) (by decide)
        have F114 : Fld Z h111 b111 "com/example/sieveline/sieveline/solver/BitMatrix" "words" "[J" .null := D111 (Or.inr (hw _ (List.mem_of_getElem? (i := 24) rfl))) (ty := (.array .long)) (by decide)
        have F115 : Fld Z h111 b111 "com/example/sieveline/sieveline/solver/BitMatrix" "rows" "I" (.int (0 : Int32)) := D111 (Or.inr (hw _ (List.mem_of_getElem? (i := 26) rfl))) (ty := .int) (by decide)
        have F116 : Fld Z h111 b111 "com/example/sieveline/sieveline/solver/BitMatrix" "columns" "I" (.int (0 : Int32)) := D111 (Or.inr (hw _ (List.mem_of_getElem? (i := 28) rfl))) (ty := .int) (by decide)
        refine ownGo (T' := T111) (f' := (mkF m 120 #[iv p0, iv p1, iv p2, iv p3, iv p4, iv v1, iv (1 : Int32), iv v90, iv v91, iv v92, rv b93, .unset, .unset, .unset] [(.ref b111)])) (st111) ?_
        refine ow_dup (q := 121) X111 hx (hb hby at_120) rfl rfl ?_
        refine ow_iconst (q := 122) X111 hx (1 : Int32) (hb hby at_121) rfl rfl ?_
        refine ow_iload (q := 124) X111 hx (hb hby at_122) rfl rfl ?_
        obtain ⟨_, _, ⟨T117, L117, k117, n117⟩, -, X117, ⟨Lc117, hQ117, l117, y117, z117⟩, st117⟩ := X111.specialBack hx (y := (⟨"com/example/sieveline/sieveline/solver/BitMatrix", "<init>", "(II)V"⟩ : MethodName)) rfl hown (mvT hZ (hw _ (List.mem_of_getElem? (i := 4) rfl))) (mvT hZ (hw _ (List.mem_of_getElem? (i := 5) rfl))) (mvT hZ (hw _ (List.mem_of_getElem? (i := 6) rfl))) (by decide) (backOf (W := 1) (rm_init_2 l Z av0 hw [] b111 v1 h111 n0 (Nat.le_trans Z0 K111.1) A111 F113 F114 F115 F116 G_b111 hL.1) hZ (hw _ (List.mem_of_getElem? (i := 6) rfl)) (hw _ (List.mem_of_getElem? (i := 3) rfl)) (by decide) (by decide)) (g := (mkF m 124 #[iv p0, iv p1, iv p2, iv p3, iv p4, iv v1, iv (1 : Int32), iv v90, iv v91, iv v92, rv b93, .unset, .unset, .unset] [(.int v1), (.int (1 : Int32)), (.ref b111), (.ref b111)])) rfl (by rw [hml]; rfl) (Steps.refl _) (a := b111) (argsL := [(.int (1 : Int32)), (.int v1)]) (rest := [(.ref b111)]) (lenOf own_pd3 rfl) rfl (by show 2 * 0 + _ ≤ _; exact Nat.le_of_eq rfl) (hb hby at_124) (fun _ _ => ⟨rfl, e111, (by decide : 2 + 1 ≤ _), (by decide : 5 + 2 ≤ _)⟩)
        dsimp only [Pt.U, Pt.locs, Pt.cells, Pt.slots] at X117 l117 y117 z117 st117 hQ117
        subst l117 y117 z117
        obtain ⟨rfl, N117q, Kq117, FP117_0, FP117_1⟩ := hQ117
        have N117 := Fr.app N95 N117q
        have K117 : Keep h0 T117.heap [] := K111.trans Kq117 (allS (Or.inr sz_b111) all0)
        have F118 : ownAI Z T117.heap b93 .int 1 (ownUpd (fun _ => (0 : Int32)) 0 v90) := F112.keep Kq117 (ninS ne_b93_b111 nin0)
        have F119 : Exa Z T117.heap b111 "com/example/sieveline/sieveline/solver/BitMatrix" := A111.keep Kq117
        refine ownRun (T' := T117) (f' := (mkF m 127 #[iv p0, iv p1, iv p2, iv p3, iv p4, iv v1, iv (1 : Int32), iv v90, iv v91, iv v92, rv b93, .unset, .unset, .unset] [(.ref b111)])) st117 ?_
        refine ow_astore (q := 129) X117 hx (L' := #[iv p0, iv p1, iv p2, iv p3, iv p4, iv v1, iv (1 : Int32), iv v90, iv v91, iv v92, rv b93, rv b111, .unset, .unset]) (hb hby at_127) rfl rfl rfl ?_
        refine ow_aload (q := 131) X117 hx (hb hby at_129) rfl rfl rfl ?_
        refine ow_aload (q := 133) X117 hx (hb hby at_131) rfl rfl rfl ?_
        obtain ⟨cq120, kq120, q120a, q120b, q120c⟩ := isOf hZ rfl FP117_0
        obtain ⟨_, _, ⟨T120, L120, k120, n120⟩, -, X120, ⟨Lc120, hQ120, l120, y120, z120⟩, st120⟩ := X117.virtualBack hx (y := (⟨"com/example/sieveline/sieveline/solver/BitMatrix", "row", "([I)[J"⟩ : MethodName)) (z := (⟨"com/example/sieveline/sieveline/solver/BitMatrix", "row", "([I)[J"⟩ : MethodName)) hown (mvT hZ (hw _ (List.mem_of_getElem? (i := 29) rfl))) (mvT hZ (hw _ (List.mem_of_getElem? (i := 30) rfl))) (notFace_of_selects (args := #[]) (mvT hZ (hw _ (List.mem_of_getElem? (i := 32) rfl)))) (mvT hZ (hw _ (List.mem_of_getElem? (i := 32) rfl))) (mvT hZ (hw _ (List.mem_of_getElem? (i := 31) rfl))) (by decide) (backOf (W := 0) (rm_row_1_2 l Z av0 hw [] b111 b93 (ownUpd (fun _ => (0 : Int32)) 0 v90) T117.heap n0 (Nat.le_trans Z0 K117.1) FP117_1 F118 (own_val hv_v90 hv_v1 hz2 hL.2.2)) hZ (hw _ (List.mem_of_getElem? (i := 33) rfl)) (hw _ (List.mem_of_getElem? (i := 3) rfl)) (by decide) (by decide)) q120a q120c (g := (mkF m 133 #[iv p0, iv p1, iv p2, iv p3, iv p4, iv v1, iv (1 : Int32), iv v90, iv v91, iv v92, rv b93, rv b111, .unset, .unset] [(.ref b93), (.ref b111)])) rfl (by rw [hml]; rfl) (Steps.refl _) (argsL := [(.ref b93)]) (rest := []) (lenOf own_pd4 rfl) rfl (by show 2 * 0 + _ ≤ _; exact Nat.le_of_eq rfl) (hb hby at_133) (fun _ _ => ⟨rfl, rfl, (by decide : 3 + 1 ≤ _), (by decide : 7 + 2 ≤ _)⟩)
        dsimp only [Pt.U, Pt.locs, Pt.cells, Pt.slots] at X120 l120 y120 z120 st120 hQ120
        subst l120 y120 z120
        obtain ⟨b120, rfl, N120q, Kq120, sq120_b120, FP120_0⟩ := hQ120
        have N120 := Fr.app N117 N120q
        have K120 : Keep h0 T120.heap [] := K117.trans Kq120 all0
        have ne_b93_b120 : b93 ≠ b120 := Nat.ne_of_lt (Nat.lt_of_lt_of_le F118.lt sq120_b120)
        have ne_b111_b120 : b111 ≠ b120 := Nat.ne_of_lt (Nat.lt_of_lt_of_le FP117_0.lt sq120_b120)
        have sz_b120 : h0.size ≤ b120 := Nat.le_trans K117.1 sq120_b120
        have G_b120 : n0 ≤ b120 := Nat.le_trans Z0 sz_b120
        have F121 : ownAI Z T120.heap b93 .int 1 (ownUpd (fun _ => (0 : Int32)) 0 v90) := F118.keep Kq120 nin0
        have F122 : Exa Z T120.heap b111 "com/example/sieveline/sieveline/solver/BitMatrix" := FP117_0.keep Kq120
        have F123 : Fld Z T120.heap b111 "com/example/sieveline/sieveline/solver/BitMatrix" "rowWords" "I" (.int (2 : Int32)) := FP117_1.keep Kq120 nin0
        refine ownRun (T' := T120) (f' := (mkF m 136 #[iv p0, iv p1, iv p2, iv p3, iv p4, iv v1, iv (1 : Int32), iv v90, iv v91, iv v92, rv b93, rv b111, .unset, .unset] [(.ref b120)])) st120 ?_
        refine ow_astore (q := 138) X120 hx (L' := #[iv p0, iv p1, iv p2, iv p3, iv p4, iv v1, iv (1 : Int32), iv v90, iv v91, iv v92, rv b93, rv b111, rv b120, .unset]) (hb hby at_136) rfl rfl rfl ?_
        refine ow_iload (q := 140) X120 hx (hb hby at_138) rfl rfl ?_
        refine ow_ifYes (q := 147) X120 hx (hb hby at_140) (Jvm.Free.XT.i0_ne_t hz2) (by decide) (by decide) ?_
        refine ow_iload (q := 149) X120 hx (hb hby at_147) rfl rfl ?_
        refine ow_bipush (q := 151) X120 hx (64 : Int32) (hb hby at_149) rfl rfl ?_
        refine ow_icmpYes (q := 158) X120 hx (hb hby at_151) (Jvm.Free.XT.ii_gt_t (by simp only [Int32.lt_iff_toInt_lt, Int32.reduceToInt]; have := hL.2; omega)) (by decide) (by decide) ?_
        refine ow_iload (q := 160) X120 hx (hb hby at_158) rfl rfl ?_
        refine ow_sipush (q := 163) X120 hx (128 : Int32) (hb hby at_160) rfl rfl ?_
        refine ow_icmpNo (q := 166) X120 hx (hb hby at_163) rfl (Jvm.Free.XT.ii_gt_f (by simp only [Int32.lt_iff_toInt_lt, Int32.reduceToInt]; have := hL.2; omega)) ?_
        refine ow_iconst (q := 167) X120 hx (2 : Int32) (hb hby at_166) rfl rfl ?_
        refine ow_goto (q := 183) X120 hx (hb hby at_167) (by decide) (by decide) ?_
        refine ow_istore (q := 185) X120 hx (L' := #[iv p0, iv p1, iv p2, iv p3, iv p4, iv v1, iv (1 : Int32), iv v90, iv v91, iv v92, rv b93, rv b111, rv b120, iv (2 : Int32)]) (hb hby at_183) rfl rfl ?_
        refine ow_aload (q := 187) X120 hx (hb hby at_185) rfl rfl rfl ?_
        refine ownGo (T' := T120) (f' := (mkF m 190 #[iv p0, iv p1, iv p2, iv p3, iv p4, iv v1, iv (1 : Int32), iv v90, iv v91, iv v92, rv b93, rv b111, rv b120, iv (2 : Int32)] [])) (fun _ k => XS.ifnullNo X120.here hx rfl (hb hby at_187) rfl k) ?_
        refine ow_aload (q := 192) X120 hx (hb hby at_190) rfl rfl rfl ?_
        refine ownGo (T' := T120) (f' := (mkF m 193 #[iv p0, iv p1, iv p2, iv p3, iv p4, iv v1, iv (1 : Int32), iv v90, iv v91, iv v92, rv b93, rv b111, rv b120, iv (2 : Int32)] [(.int (2 : Int32))])) (ownLenJ FP120_0 X120 hx hZ rfl (z := (2 : Int32)) (by decide) (g := (mkF m 192 #[iv p0, iv p1, iv p2, iv p3, iv p4, iv v1, iv (1 : Int32), iv v90, iv v91, iv v92, rv b93, rv b111, rv b120, iv (2 : Int32)] [(.ref b120)])) rfl rfl (hb hby at_192)) ?_
        refine ow_iload (q := 195) X120 hx (hb hby at_193) rfl rfl ?_
        refine ow_icmpYes (q := 200) X120 hx (hb hby at_195) (Jvm.Free.XT.ii_eq_t (by decide)) (by decide) (by decide) ?_
        refine ow_iload (q := 202) X120 hx (hb hby at_200) rfl rfl ?_
        refine ow_ifNo (q := 205) X120 hx (hb hby at_202) rfl (Jvm.Free.XT.i0_le_f (by decide)) ?_
        refine ow_aload (q := 207) X120 hx (hb hby at_205) rfl rfl rfl ?_
        refine ow_iconst (q := 208) X120 hx (0 : Int32) (hb hby at_207) rfl rfl ?_
        refine ownGo (T' := T120) (f' := (mkF m 209 #[iv p0, iv p1, iv p2, iv p3, iv p4, iv v1, iv (1 : Int32), iv v90, iv v91, iv v92, rv b93, rv b111, rv b120, iv (2 : Int32)] [(.long ((own_or1 (fun _ => (0 : Int64)) v90) 0))])) (ownLaload FP120_0 X120 hx hZ rfl (j := (0 : Int32)) (by unfold ownIn; decide) (g := (mkF m 208 #[iv p0, iv p1, iv p2, iv p3, iv p4, iv v1, iv (1 : Int32), iv v90, iv v91, iv v92, rv b93, rv b111, rv b120, iv (2 : Int32)] [(.int (0 : Int32)), (.ref b120)])) rfl rfl (hb hby at_208)) ?_
        generalize hv_v124 : ((own_or1 (fun _ => (0 : Int64)) v90) 0) = v124
        refine ow_iconst (q := 210) X120 hx (0 : Int32) (hb hby at_209) rfl rfl ?_
        refine ow_iload (q := 212) X120 hx (hb hby at_210) rfl rfl ?_
        refine ow_iload (q := 214) X120 hx (hb hby at_212) rfl rfl ?_
        refine ow_iload (q := 216) X120 hx (hb hby at_214) rfl rfl ?_
        refine ow_iload (q := 218) X120 hx (hb hby at_216) rfl rfl ?_
        obtain ⟨_, _, ⟨T125, L125, k125, n125⟩, -, X125, ⟨Lc125, hQ125, l125, y125, z125⟩, st125⟩ := Jvm.LawKit.callS X120 hx (y := (⟨"com/example/sieveline/sieveline/solver/BitMatrixRowPinLaw", "expect", "(IIIII)J"⟩ : MethodName)) hown (mvT hZ (hw _ (List.mem_of_getElem? (i := 35) rfl))) (mvT hZ (hw _ (List.mem_of_getElem? (i := 36) rfl))) (mvT hZ (hw _ (List.mem_of_getElem? (i := 37) rfl))) (mvT hZ (hw _ (List.mem_of_getElem? (i := 38) rfl))) (by decide) (backOf (W := 2) (rm_exp_0_1 l Z av0 hw [] v90 v91 v92 T120.heap n0 (Nat.le_trans Z0 K120.1) ) hZ (hw _ (List.mem_of_getElem? (i := 38) rfl)) (hw _ (List.mem_of_getElem? (i := 37) rfl)) (by decide) (by decide)) (g := (mkF m 218 #[iv p0, iv p1, iv p2, iv p3, iv p4, iv v1, iv (1 : Int32), iv v90, iv v91, iv v92, rv b93, rv b111, rv b120, iv (2 : Int32)] [(.int v92), (.int v91), (.int v90), (.int (1 : Int32)), (.int (0 : Int32)), (.long v124)])) rfl (by rw [hml]; rfl) (argsL := [(.int (0 : Int32)), (.int (1 : Int32)), (.int v90), (.int v91), (.int v92)]) (rest := [(.long v124)]) (lenOf own_pd5 rfl) rfl (by show 2 * 0 + _ ≤ _; exact Nat.le_of_eq rfl) (hb hby at_218) (fun _ _ => ⟨rfl, rfl, (by decide : 4 + 0 ≤ _), (by decide : 9 + 0 ≤ _)⟩)
        dsimp only [Pt.U, Pt.locs, Pt.cells, Pt.slots] at X125 l125 y125 z125 st125 hQ125
        subst l125 y125 z125
        obtain ⟨rfl, N125q, e125⟩ := hQ125
        have N125 := Fr.app N120 N125q
        refine ownGo (T' := T125) (f' := (mkF m 221 #[iv p0, iv p1, iv p2, iv p3, iv p4, iv v1, iv (1 : Int32), iv v90, iv v91, iv v92, rv b93, rv b111, rv b120, iv (2 : Int32)] [(.long ((0 : Int64) ||| (own_Bw (0 : Int32) (64 : Int32) v90))), (.long v124)])) (st125) ?_
        refine ow_lcmp (q := 222) X125 hx _ (hb hby at_221) rfl rfl ?_
        refine ow_ifYes (q := 227) X125 hx (hb hby at_222) (Jvm.Free.XT.ll_eq_t (by rw [← hv_v124]; exact own_cmp_0_1 (own_lt (own_val hv_v90 hv_v1 hz2 hL.2.2)))) (by decide) (by decide) ?_
        refine ow_iload (q := 229) X125 hx (hb hby at_227) rfl rfl ?_
        refine ow_iconst (q := 230) X125 hx (1 : Int32) (hb hby at_229) rfl rfl ?_
        refine ow_icmpNo (q := 233) X125 hx (hb hby at_230) rfl (Jvm.Free.XT.ii_le_f (by decide)) ?_
        refine ow_aload (q := 235) X125 hx (hb hby at_233) rfl rfl rfl ?_
        refine ow_iconst (q := 236) X125 hx (1 : Int32) (hb hby at_235) rfl rfl ?_
        refine ownGo (T' := T125) (f' := (mkF m 237 #[iv p0, iv p1, iv p2, iv p3, iv p4, iv v1, iv (1 : Int32), iv v90, iv v91, iv v92, rv b93, rv b111, rv b120, iv (2 : Int32)] [(.long ((own_or1 (fun _ => (0 : Int64)) v90) 1))])) (ownLaload FP120_0 X125 hx hZ e125 (j := (1 : Int32)) (by unfold ownIn; decide) (g := (mkF m 236 #[iv p0, iv p1, iv p2, iv p3, iv p4, iv v1, iv (1 : Int32), iv v90, iv v91, iv v92, rv b93, rv b111, rv b120, iv (2 : Int32)] [(.int (1 : Int32)), (.ref b120)])) rfl rfl (hb hby at_236)) ?_
        generalize hv_v126 : ((own_or1 (fun _ => (0 : Int64)) v90) 1) = v126
        refine ow_iconst (q := 238) X125 hx (1 : Int32) (hb hby at_237) rfl rfl ?_
        refine ow_iload (q := 240) X125 hx (hb hby at_238) rfl rfl ?_
        refine ow_iload (q := 242) X125 hx (hb hby at_240) rfl rfl ?_
        refine ow_iload (q := 244) X125 hx (hb hby at_242) rfl rfl ?_
        refine ow_iload (q := 246) X125 hx (hb hby at_244) rfl rfl ?_
        obtain ⟨_, _, ⟨T127, L127, k127, n127⟩, -, X127, ⟨Lc127, hQ127, l127, y127, z127⟩, st127⟩ := Jvm.LawKit.callS X125 hx (y := (⟨"com/example/sieveline/sieveline/solver/BitMatrixRowPinLaw", "expect", "(IIIII)J"⟩ : MethodName)) hown (mvT hZ (hw _ (List.mem_of_getElem? (i := 35) rfl))) (mvT hZ (hw _ (List.mem_of_getElem? (i := 36) rfl))) (mvT hZ (hw _ (List.mem_of_getElem? (i := 37) rfl))) (mvT hZ (hw _ (List.mem_of_getElem? (i := 38) rfl))) (by decide) (backOf (W := 2) (rm_exp_1_1 l Z av0 hw [] v90 v91 v92 T120.heap n0 (Nat.le_trans Z0 K120.1) ) hZ (hw _ (List.mem_of_getElem? (i := 38) rfl)) (hw _ (List.mem_of_getElem? (i := 37) rfl)) (by decide) (by decide)) (g := (mkF m 246 #[iv p0, iv p1, iv p2, iv p3, iv p4, iv v1, iv (1 : Int32), iv v90, iv v91, iv v92, rv b93, rv b111, rv b120, iv (2 : Int32)] [(.int v92), (.int v91), (.int v90), (.int (1 : Int32)), (.int (1 : Int32)), (.long v126)])) rfl (by rw [hml]; rfl) (argsL := [(.int (1 : Int32)), (.int (1 : Int32)), (.int v90), (.int v91), (.int v92)]) (rest := [(.long v126)]) (lenOf own_pd5 rfl) rfl (by show 2 * 0 + _ ≤ _; exact Nat.le_of_eq rfl) (hb hby at_246) (fun _ _ => ⟨rfl, e125, (by decide : 4 + 0 ≤ _), (by decide : 9 + 0 ≤ _)⟩)
        dsimp only [Pt.U, Pt.locs, Pt.cells, Pt.slots] at X127 l127 y127 z127 st127 hQ127
        subst l127 y127 z127
        obtain ⟨rfl, N127q, e127⟩ := hQ127
        have N127 := Fr.app N125 N127q
        refine ownGo (T' := T127) (f' := (mkF m 249 #[iv p0, iv p1, iv p2, iv p3, iv p4, iv v1, iv (1 : Int32), iv v90, iv v91, iv v92, rv b93, rv b111, rv b120, iv (2 : Int32)] [(.long ((0 : Int64) ||| (own_Bw (64 : Int32) (128 : Int32) v90))), (.long v126)])) (st127) ?_
        refine ow_lcmp (q := 250) X127 hx _ (hb hby at_249) rfl rfl ?_
        refine ow_ifYes (q := 255) X127 hx (hb hby at_250) (Jvm.Free.XT.ll_eq_t (by rw [← hv_v126]; exact own_cmp_1_1 (own_lt (own_val hv_v90 hv_v1 hz2 hL.2.2)))) (by decide) (by decide) ?_
        refine ow_iload (q := 257) X127 hx (hb hby at_255) rfl rfl ?_
        refine ow_iconst (q := 258) X127 hx (2 : Int32) (hb hby at_257) rfl rfl ?_
        refine ow_icmpYes (q := 283) X127 hx (hb hby at_258) (Jvm.Free.XT.ii_le_t (by decide)) (by decide) (by decide) ?_
        refine ow_iload (q := 285) X127 hx (hb hby at_283) rfl rfl ?_
        refine ow_iconst (q := 286) X127 hx (3 : Int32) (hb hby at_285) rfl rfl ?_
        refine ow_icmpYes (q := 311) X127 hx (hb hby at_286) (Jvm.Free.XT.ii_le_t (by decide)) (by decide) (by decide) ?_
        refine ow_iconst (q := 312) X127 hx (1 : Int32) (hb hby at_311) rfl rfl ?_
        refine ownRetN X127 hx (r := (1 : Int32)) (Or.inl rfl) Bd.returns (hb hby at_312) hlk (by decide) (by decide) (by decide) ?_
        exact ⟨rfl, N127⟩
      · obtain ⟨T128, h128, X128, e128, E128, A128, D128, -, st128⟩ := newO X95 hx hZ hown (hw _ (List.mem_of_getElem? (i := 1) rfl)) (hw _ (List.mem_of_getElem? (i := 2) rfl)) (hw _ (List.mem_of_getElem? (i := 3) rfl)) e95 (g := (mkF m 117 #[iv p0, iv p1, iv p2, iv p3, iv p4, iv v1, iv (1 : Int32), iv v90, iv v91, iv v92, rv b93, .unset, .unset, .unset] [])) rfl (hb hby at_117) (by decide) (by decide)
        obtain ⟨b128, g128⟩ : ∃ z, z = h95.size := ⟨_, rfl⟩
        rw [← g128] at A128 D128 st128
        have ne_b93_b128 : b93 ≠ b128 := Nat.ne_of_lt (Nat.lt_of_lt_of_le F95r.lt (Nat.le_of_eq g128.symm))
        have sz_b128 : h0.size ≤ b128 := Nat.le_trans K95.1 (Nat.le_of_eq g128.symm)
        have G_b128 : n0 ≤ b128 := Nat.le_trans Z0 sz_b128
        have K128 : Keep h0 h128 [] := K95.ext E128
        have F129 : ownAI Z h128 b93 .int 1 (ownUpd (fun _ => (0 : Int32)) 0 v90) := F95r.ext E128
        have F130 : Fld Z h128 b128 "com/example/sieveline/sieveline/solver/BitMatrix" "rowWords" "I" (.int (0 : Int32)) := D128 (Or.inr (hw _ (List.mem_of_getElem? (i := 14) rfl))) (ty := .int) (by decide)
        have F131 : Fld Z h128 b128 "com/example/sieveline/sieveline/solver/BitMatrix" "words" "[J" .null := D128 (Or.inr (hw _ (List.mem_of_getElem? (i := 24) rfl))) (ty := (.array .long)) (by decide)
        have F132 : Fld Z h128 b128 "com/example/sieveline/sieveline/solver/BitMatrix" "rows" "I" (.int (0 : Int32)) := D128 (Or.inr (hw _ (List.mem_of_getElem? (i := 26) rfl))) (ty := .int) (by decide)
        have F133 : Fld Z h128 b128 "com/example/sieveline/sieveline/solver/BitMatrix" "columns" "I" (.int (0 : Int32)) := D128 (Or.inr (hw _ (List.mem_of_getElem? (i := 28) rfl))) (ty := .int) (by decide)
        refine ownGo (T' := T128) (f' := (mkF m 120 #[iv p0, iv p1, iv p2, iv p3, iv p4, iv v1, iv (1 : Int32), iv v90, iv v91, iv v92, rv b93, .unset, .unset, .unset] [(.ref b128)])) (st128) ?_
        refine ow_dup (q := 121) X128 hx (hb hby at_120) rfl rfl ?_
        refine ow_iconst (q := 122) X128 hx (1 : Int32) (hb hby at_121) rfl rfl ?_
        refine ow_iload (q := 124) X128 hx (hb hby at_122) rfl rfl ?_
        obtain ⟨_, _, ⟨T134, L134, k134, n134⟩, -, X134, ⟨Lc134, hQ134, l134, y134, z134⟩, st134⟩ := X128.specialBack hx (y := (⟨"com/example/sieveline/sieveline/solver/BitMatrix", "<init>", "(II)V"⟩ : MethodName)) rfl hown (mvT hZ (hw _ (List.mem_of_getElem? (i := 4) rfl))) (mvT hZ (hw _ (List.mem_of_getElem? (i := 5) rfl))) (mvT hZ (hw _ (List.mem_of_getElem? (i := 6) rfl))) (by decide) (backOf (W := 1) (rm_init_3 l Z av0 hw [] b128 v1 h128 n0 (Nat.le_trans Z0 K128.1) A128 F130 F131 F132 F133 G_b128 hL.1) hZ (hw _ (List.mem_of_getElem? (i := 6) rfl)) (hw _ (List.mem_of_getElem? (i := 3) rfl)) (by decide) (by decide)) (g := (mkF m 124 #[iv p0, iv p1, iv p2, iv p3, iv p4, iv v1, iv (1 : Int32), iv v90, iv v91, iv v92, rv b93, .unset, .unset, .unset] [(.int v1), (.int (1 : Int32)), (.ref b128), (.ref b128)])) rfl (by rw [hml]; rfl) (Steps.refl _) (a := b128) (argsL := [(.int (1 : Int32)), (.int v1)]) (rest := [(.ref b128)]) (lenOf own_pd3 rfl) rfl (by show 2 * 0 + _ ≤ _; exact Nat.le_of_eq rfl) (hb hby at_124) (fun _ _ => ⟨rfl, e128, (by decide : 2 + 1 ≤ _), (by decide : 5 + 3 ≤ _)⟩)
        dsimp only [Pt.U, Pt.locs, Pt.cells, Pt.slots] at X134 l134 y134 z134 st134 hQ134
        subst l134 y134 z134
        obtain ⟨rfl, N134q, Kq134, FP134_0, FP134_1⟩ := hQ134
        have N134 := Fr.app N95 N134q
        have K134 : Keep h0 T134.heap [] := K128.trans Kq134 (allS (Or.inr sz_b128) all0)
        have F135 : ownAI Z T134.heap b93 .int 1 (ownUpd (fun _ => (0 : Int32)) 0 v90) := F129.keep Kq134 (ninS ne_b93_b128 nin0)
        have F136 : Exa Z T134.heap b128 "com/example/sieveline/sieveline/solver/BitMatrix" := A128.keep Kq134
        refine ownRun (T' := T134) (f' := (mkF m 127 #[iv p0, iv p1, iv p2, iv p3, iv p4, iv v1, iv (1 : Int32), iv v90, iv v91, iv v92, rv b93, .unset, .unset, .unset] [(.ref b128)])) st134 ?_
        refine ow_astore (q := 129) X134 hx (L' := #[iv p0, iv p1, iv p2, iv p3, iv p4, iv v1, iv (1 : Int32), iv v90, iv v91, iv v92, rv b93, rv b128, .unset, .unset]) (hb hby at_127) rfl rfl rfl ?_
        refine ow_aload (q := 131) X134 hx (hb hby at_129) rfl rfl rfl ?_
        refine ow_aload (q := 133) X134 hx (hb hby at_131) rfl rfl rfl ?_
        obtain ⟨cq137, kq137, q137a, q137b, q137c⟩ := isOf hZ rfl FP134_0
        obtain ⟨_, _, ⟨T137, L137, k137, n137⟩, -, X137, ⟨Lc137, hQ137, l137, y137, z137⟩, st137⟩ := X134.virtualBack hx (y := (⟨"com/example/sieveline/sieveline/solver/BitMatrix", "row", "([I)[J"⟩ : MethodName)) (z := (⟨"com/example/sieveline/sieveline/solver/BitMatrix", "row", "([I)[J"⟩ : MethodName)) hown (mvT hZ (hw _ (List.mem_of_getElem? (i := 29) rfl))) (mvT hZ (hw _ (List.mem_of_getElem? (i := 30) rfl))) (notFace_of_selects (args := #[]) (mvT hZ (hw _ (List.mem_of_getElem? (i := 32) rfl)))) (mvT hZ (hw _ (List.mem_of_getElem? (i := 32) rfl))) (mvT hZ (hw _ (List.mem_of_getElem? (i := 31) rfl))) (by decide) (backOf (W := 0) (rm_row_1_3 l Z av0 hw [] b128 b93 (ownUpd (fun _ => (0 : Int32)) 0 v90) T134.heap n0 (Nat.le_trans Z0 K134.1) FP134_1 F135 (own_val hv_v90 hv_v1 hz2 hL.2.2)) hZ (hw _ (List.mem_of_getElem? (i := 33) rfl)) (hw _ (List.mem_of_getElem? (i := 3) rfl)) (by decide) (by decide)) q137a q137c (g := (mkF m 133 #[iv p0, iv p1, iv p2, iv p3, iv p4, iv v1, iv (1 : Int32), iv v90, iv v91, iv v92, rv b93, rv b128, .unset, .unset] [(.ref b93), (.ref b128)])) rfl (by rw [hml]; rfl) (Steps.refl _) (argsL := [(.ref b93)]) (rest := []) (lenOf own_pd4 rfl) rfl (by show 2 * 0 + _ ≤ _; exact Nat.le_of_eq rfl) (hb hby at_133) (fun _ _ => ⟨rfl, rfl, (by decide : 3 + 1 ≤ _), (by decide : 8 + 3 ≤ _)⟩)
        dsimp only [Pt.U, Pt.locs, Pt.cells, Pt.slots] at X137 l137 y137 z137 st137 hQ137
        subst l137 y137 z137
        obtain ⟨b137, rfl, N137q, Kq137, sq137_b137, FP137_0⟩ := hQ137
        have N137 := Fr.app N134 N137q
        have K137 : Keep h0 T137.heap [] := K134.trans Kq137 all0
        have ne_b93_b137 : b93 ≠ b137 := Nat.ne_of_lt (Nat.lt_of_lt_of_le F135.lt sq137_b137)
        have ne_b128_b137 : b128 ≠ b137 := Nat.ne_of_lt (Nat.lt_of_lt_of_le FP134_0.lt sq137_b137)
        have sz_b137 : h0.size ≤ b137 := Nat.le_trans K134.1 sq137_b137
        have G_b137 : n0 ≤ b137 := Nat.le_trans Z0 sz_b137
        have F138 : ownAI Z T137.heap b93 .int 1 (ownUpd (fun _ => (0 : Int32)) 0 v90) := F135.keep Kq137 nin0
        have F139 : Exa Z T137.heap b128 "com/example/sieveline/sieveline/solver/BitMatrix" := FP134_0.keep Kq137
        have F140 : Fld Z T137.heap b128 "com/example/sieveline/sieveline/solver/BitMatrix" "rowWords" "I" (.int (3 : Int32)) := FP134_1.keep Kq137 nin0
        refine ownRun (T' := T137) (f' := (mkF m 136 #[iv p0, iv p1, iv p2, iv p3, iv p4, iv v1, iv (1 : Int32), iv v90, iv v91, iv v92, rv b93, rv b128, .unset, .unset] [(.ref b137)])) st137 ?_
        refine ow_astore (q := 138) X137 hx (L' := #[iv p0, iv p1, iv p2, iv p3, iv p4, iv v1, iv (1 : Int32), iv v90, iv v91, iv v92, rv b93, rv b128, rv b137, .unset]) (hb hby at_136) rfl rfl rfl ?_
        refine ow_iload (q := 140) X137 hx (hb hby at_138) rfl rfl ?_
        refine ow_ifYes (q := 147) X137 hx (hb hby at_140) (Jvm.Free.XT.i0_ne_t hz2) (by decide) (by decide) ?_
        refine ow_iload (q := 149) X137 hx (hb hby at_147) rfl rfl ?_
        refine ow_bipush (q := 151) X137 hx (64 : Int32) (hb hby at_149) rfl rfl ?_
        refine ow_icmpYes (q := 158) X137 hx (hb hby at_151) (Jvm.Free.XT.ii_gt_t (by simp only [Int32.lt_iff_toInt_lt, Int32.reduceToInt]; have := hL.2; omega)) (by decide) (by decide) ?_
        refine ow_iload (q := 160) X137 hx (hb hby at_158) rfl rfl ?_
        refine ow_sipush (q := 163) X137 hx (128 : Int32) (hb hby at_160) rfl rfl ?_
        refine ow_icmpYes (q := 170) X137 hx (hb hby at_163) (Jvm.Free.XT.ii_gt_t (by simp only [Int32.lt_iff_toInt_lt, Int32.reduceToInt]; have := hL.2; omega)) (by decide) (by decide) ?_
        refine ow_iload (q := 172) X137 hx (hb hby at_170) rfl rfl ?_
        refine ow_sipush (q := 175) X137 hx (192 : Int32) (hb hby at_172) rfl rfl ?_
        refine ow_icmpNo (q := 178) X137 hx (hb hby at_175) rfl (Jvm.Free.XT.ii_gt_f (by simp only [Int32.lt_iff_toInt_lt, Int32.reduceToInt]; have := hL.2; omega)) ?_
        refine ow_iconst (q := 179) X137 hx (3 : Int32) (hb hby at_178) rfl rfl ?_
        refine ow_goto (q := 183) X137 hx (hb hby at_179) (by decide) (by decide) ?_
        refine ow_istore (q := 185) X137 hx (L' := #[iv p0, iv p1, iv p2, iv p3, iv p4, iv v1, iv (1 : Int32), iv v90, iv v91, iv v92, rv b93, rv b128, rv b137, iv (3 : Int32)]) (hb hby at_183) rfl rfl ?_
        refine ow_aload (q := 187) X137 hx (hb hby at_185) rfl rfl rfl ?_
        refine ownGo (T' := T137) (f' := (mkF m 190 #[iv p0, iv p1, iv p2, iv p3, iv p4, iv v1, iv (1 : Int32), iv v90, iv v91, iv v92, rv b93, rv b128, rv b137, iv (3 : Int32)] [])) (fun _ k => XS.ifnullNo X137.here hx rfl (hb hby at_187) rfl k) ?_
        refine ow_aload (q := 192) X137 hx (hb hby at_190) rfl rfl rfl ?_
        refine ownGo (T' := T137) (f' := (mkF m 193 #[iv p0, iv p1, iv p2, iv p3, iv p4, iv v1, iv (1 : Int32), iv v90, iv v91, iv v92, rv b93, rv b128, rv b137, iv (3 : Int32)] [(.int (3 : Int32))])) (ownLenJ FP137_0 X137 hx hZ rfl (z := (3 : Int32)) (by decide) (g := (mkF m 192 #[iv p0, iv p1, iv p2, iv p3, iv p4, iv v1, iv (1 : Int32), iv v90, iv v91, iv v92, rv b93, rv b128, rv b137, iv (3 : Int32)] [(.ref b137)])) rfl rfl (hb hby at_192)) ?_
        refine ow_iload (q := 195) X137 hx (hb hby at_193) rfl rfl ?_
        refine ow_icmpYes (q := 200) X137 hx (hb hby at_195) (Jvm.Free.XT.ii_eq_t (by decide)) (by decide) (by decide) ?_
        refine ow_iload (q := 202) X137 hx (hb hby at_200) rfl rfl ?_
        refine ow_ifNo (q := 205) X137 hx (hb hby at_202) rfl (Jvm.Free.XT.i0_le_f (by decide)) ?_
        refine ow_aload (q := 207) X137 hx (hb hby at_205) rfl rfl rfl ?_
        refine ow_iconst (q := 208) X137 hx (0 : Int32) (hb hby at_207) rfl rfl ?_
        refine ownGo (T' := T137) (f' := (mkF m 209 #[iv p0, iv p1, iv p2, iv p3, iv p4, iv v1, iv (1 : Int32), iv v90, iv v91, iv v92, rv b93, rv b128, rv b137, iv (3 : Int32)] [(.long ((own_or1 (fun _ => (0 : Int64)) v90) 0))])) (ownLaload FP137_0 X137 hx hZ rfl (j := (0 : Int32)) (by unfold ownIn; decide) (g := (mkF m 208 #[iv p0, iv p1, iv p2, iv p3, iv p4, iv v1, iv (1 : Int32), iv v90, iv v91, iv v92, rv b93, rv b128, rv b137, iv (3 : Int32)] [(.int (0 : Int32)), (.ref b137)])) rfl rfl (hb hby at_208)) ?_
        generalize hv_v141 : ((own_or1 (fun _ => (0 : Int64)) v90) 0) = v141
        refine ow_iconst (q := 210) X137 hx (0 : Int32) (hb hby at_209) rfl rfl ?_
        refine ow_iload (q := 212) X137 hx (hb hby at_210) rfl rfl ?_
        refine ow_iload (q := 214) X137 hx (hb hby at_212) rfl rfl ?_
        refine ow_iload (q := 216) X137 hx (hb hby at_214) rfl rfl ?_
        refine ow_iload (q := 218) X137 hx (hb hby at_216) rfl rfl ?_
        obtain ⟨_, _, ⟨T142, L142, k142, n142⟩, -, X142, ⟨Lc142, hQ142, l142, y142, z142⟩, st142⟩ := Jvm.LawKit.callS X137 hx (y := (⟨"com/example/sieveline/sieveline/solver/BitMatrixRowPinLaw", "expect", "(IIIII)J"⟩ : MethodName)) hown (mvT hZ (hw _ (List.mem_of_getElem? (i := 35) rfl))) (mvT hZ (hw _ (List.mem_of_getElem? (i := 36) rfl))) (mvT hZ (hw _ (List.mem_of_getElem? (i := 37) rfl))) (mvT hZ (hw _ (List.mem_of_getElem? (i := 38) rfl))) (by decide) (backOf (W := 2) (rm_exp_0_1 l Z av0 hw [] v90 v91 v92 T137.heap n0 (Nat.le_trans Z0 K137.1) ) hZ (hw _ (List.mem_of_getElem? (i := 38) rfl)) (hw _ (List.mem_of_getElem? (i := 37) rfl)) (by decide) (by decide)) (g := (mkF m 218 #[iv p0, iv p1, iv p2, iv p3, iv p4, iv v1, iv (1 : Int32), iv v90, iv v91, iv v92, rv b93, rv b128, rv b137, iv (3 : Int32)] [(.int v92), (.int v91), (.int v90), (.int (1 : Int32)), (.int (0 : Int32)), (.long v141)])) rfl (by rw [hml]; rfl) (argsL := [(.int (0 : Int32)), (.int (1 : Int32)), (.int v90), (.int v91), (.int v92)]) (rest := [(.long v141)]) (lenOf own_pd5 rfl) rfl (by show 2 * 0 + _ ≤ _; exact Nat.le_of_eq rfl) (hb hby at_218) (fun _ _ => ⟨rfl, rfl, (by decide : 4 + 0 ≤ _), (by decide : 11 + 0 ≤ _)⟩)
        dsimp only [Pt.U, Pt.locs, Pt.cells, Pt.slots] at X142 l142 y142 z142 st142 hQ142
        subst l142 y142 z142
        obtain ⟨rfl, N142q, e142⟩ := hQ142
        have N142 := Fr.app N137 N142q
        refine ownGo (T' := T142) (f' := (mkF m 221 #[iv p0, iv p1, iv p2, iv p3, iv p4, iv v1, iv (1 : Int32), iv v90, iv v91, iv v92, rv b93, rv b128, rv b137, iv (3 : Int32)] [(.long ((0 : Int64) ||| (own_Bw (0 : Int32) (64 : Int32) v90))), (.long v141)])) (st142) ?_
        refine ow_lcmp (q := 222) X142 hx _ (hb hby at_221) rfl rfl ?_
        refine ow_ifYes (q := 227) X142 hx (hb hby at_222) (Jvm.Free.XT.ll_eq_t (by rw [← hv_v141]; exact own_cmp_0_1 (own_lt (own_val hv_v90 hv_v1 hz2 hL.2.2)))) (by decide) (by decide) ?_
        refine ow_iload (q := 229) X142 hx (hb hby at_227) rfl rfl ?_
        refine ow_iconst (q := 230) X142 hx (1 : Int32) (hb hby at_229) rfl rfl ?_
        refine ow_icmpNo (q := 233) X142 hx (hb hby at_230) rfl (Jvm.Free.XT.ii_le_f (by decide)) ?_
        refine ow_aload (q := 235) X142 hx (hb hby at_233) rfl rfl rfl ?_
        refine ow_iconst (q := 236) X142 hx (1 : Int32) (hb hby at_235) rfl rfl ?_
        refine ownGo (T' := T142) (f' := (mkF m 237 #[iv p0, iv p1, iv p2, iv p3, iv p4, iv v1, iv (1 : Int32), iv v90, iv v91, iv v92, rv b93, rv b128, rv b137, iv (3 : Int32)] [(.long ((own_or1 (fun _ => (0 : Int64)) v90) 1))])) (ownLaload FP137_0 X142 hx hZ e142 (j := (1 : Int32)) (by unfold ownIn; decide) (g := (mkF m 236 #[iv p0, iv p1, iv p2, iv p3, iv p4, iv v1, iv (1 : Int32), iv v90, iv v91, iv v92, rv b93, rv b128, rv b137, iv (3 : Int32)] [(.int (1 : Int32)), (.ref b137)])) rfl rfl (hb hby at_236)) ?_
        generalize hv_v143 : ((own_or1 (fun _ => (0 : Int64)) v90) 1) = v143
        refine ow_iconst (q := 238) X142 hx (1 : Int32) (hb hby at_237) rfl rfl ?_
        refine ow_iload (q := 240) X142 hx (hb hby at_238) rfl rfl ?_
        refine ow_iload (q := 242) X142 hx (hb hby at_240) rfl rfl ?_
        refine ow_iload (q := 244) X142 hx (hb hby at_242) rfl rfl ?_
        refine ow_iload (q := 246) X142 hx (hb hby at_244) rfl rfl ?_
        obtain ⟨_, _, ⟨T144, L144, k144, n144⟩, -, X144, ⟨Lc144, hQ144, l144, y144, z144⟩, st144⟩ := Jvm.LawKit.callS X142 hx (y := (⟨"com/example/sieveline/sieveline/solver/BitMatrixRowPinLaw", "expect", "(IIIII)J"⟩ : MethodName)) hown (mvT hZ (hw _ (List.mem_of_getElem? (i := 35) rfl))) (mvT hZ (hw _ (List.mem_of_getElem? (i := 36) rfl))) (mvT hZ (hw _ (List.mem_of_getElem? (i := 37) rfl))) (mvT hZ (hw _ (List.mem_of_getElem? (i := 38) rfl))) (by decide) (backOf (W := 2) (rm_exp_1_1 l Z av0 hw [] v90 v91 v92 T137.heap n0 (Nat.le_trans Z0 K137.1) ) hZ (hw _ (List.mem_of_getElem? (i := 38) rfl)) (hw _ (List.mem_of_getElem? (i := 37) rfl)) (by decide) (by decide)) (g := (mkF m 246 #[iv p0, iv p1, iv p2, iv p3, iv p4, iv v1, iv (1 : Int32), iv v90, iv v91, iv v92, rv b93, rv b128, rv b137, iv (3 : Int32)] [(.int v92), (.int v91), (.int v90), (.int (1 : Int32)), (.int (1 : Int32)), (.long v143)])) rfl (by rw [hml]; rfl) (argsL := [(.int (1 : Int32)), (.int (1 : Int32)), (.int v90), (.int v91), (.int v92)]) (rest := [(.long v143)]) (lenOf own_pd5 rfl) rfl (by show 2 * 0 + _ ≤ _; exact Nat.le_of_eq rfl) (hb hby at_246) (fun _ _ => ⟨rfl, e142, (by decide : 4 + 0 ≤ _), (by decide : 11 + 0 ≤ _)⟩)
        dsimp only [Pt.U, Pt.locs, Pt.cells, Pt.slots] at X144 l144 y144 z144 st144 hQ144
        subst l144 y144 z144
        obtain ⟨rfl, N144q, e144⟩ := hQ144
        have N144 := Fr.app N142 N144q
        refine ownGo (T' := T144) (f' := (mkF m 249 #[iv p0, iv p1, iv p2, iv p3, iv p4, iv v1, iv (1 : Int32), iv v90, iv v91, iv v92, rv b93, rv b128, rv b137, iv (3 : Int32)] [(.long ((0 : Int64) ||| (own_Bw (64 : Int32) (128 : Int32) v90))), (.long v143)])) (st144) ?_
        refine ow_lcmp (q := 250) X144 hx _ (hb hby at_249) rfl rfl ?_
        refine ow_ifYes (q := 255) X144 hx (hb hby at_250) (Jvm.Free.XT.ll_eq_t (by rw [← hv_v143]; exact own_cmp_1_1 (own_lt (own_val hv_v90 hv_v1 hz2 hL.2.2)))) (by decide) (by decide) ?_
        refine ow_iload (q := 257) X144 hx (hb hby at_255) rfl rfl ?_
        refine ow_iconst (q := 258) X144 hx (2 : Int32) (hb hby at_257) rfl rfl ?_
        refine ow_icmpNo (q := 261) X144 hx (hb hby at_258) rfl (Jvm.Free.XT.ii_le_f (by decide)) ?_
        refine ow_aload (q := 263) X144 hx (hb hby at_261) rfl rfl rfl ?_
        refine ow_iconst (q := 264) X144 hx (2 : Int32) (hb hby at_263) rfl rfl ?_
        refine ownGo (T' := T144) (f' := (mkF m 265 #[iv p0, iv p1, iv p2, iv p3, iv p4, iv v1, iv (1 : Int32), iv v90, iv v91, iv v92, rv b93, rv b128, rv b137, iv (3 : Int32)] [(.long ((own_or1 (fun _ => (0 : Int64)) v90) 2))])) (ownLaload FP137_0 X144 hx hZ e144 (j := (2 : Int32)) (by unfold ownIn; decide) (g := (mkF m 264 #[iv p0, iv p1, iv p2, iv p3, iv p4, iv v1, iv (1 : Int32), iv v90, iv v91, iv v92, rv b93, rv b128, rv b137, iv (3 : Int32)] [(.int (2 : Int32)), (.ref b137)])) rfl rfl (hb hby at_264)) ?_
        generalize hv_v145 : ((own_or1 (fun _ => (0 : Int64)) v90) 2) = v145
        refine ow_iconst (q := 266) X144 hx (2 : Int32) (hb hby at_265) rfl rfl ?_
        refine ow_iload (q := 268) X144 hx (hb hby at_266) rfl rfl ?_
        refine ow_iload (q := 270) X144 hx (hb hby at_268) rfl rfl ?_
        refine ow_iload (q := 272) X144 hx (hb hby at_270) rfl rfl ?_
        refine ow_iload (q := 274) X144 hx (hb hby at_272) rfl rfl ?_
        obtain ⟨_, _, ⟨T146, L146, k146, n146⟩, -, X146, ⟨Lc146, hQ146, l146, y146, z146⟩, st146⟩ := Jvm.LawKit.callS X144 hx (y := (⟨"com/example/sieveline/sieveline/solver/BitMatrixRowPinLaw", "expect", "(IIIII)J"⟩ : MethodName)) hown (mvT hZ (hw _ (List.mem_of_getElem? (i := 35) rfl))) (mvT hZ (hw _ (List.mem_of_getElem? (i := 36) rfl))) (mvT hZ (hw _ (List.mem_of_getElem? (i := 37) rfl))) (mvT hZ (hw _ (List.mem_of_getElem? (i := 38) rfl))) (by decide) (backOf (W := 2) (rm_exp_2_1 l Z av0 hw [] v90 v91 v92 T137.heap n0 (Nat.le_trans Z0 K137.1) ) hZ (hw _ (List.mem_of_getElem? (i := 38) rfl)) (hw _ (List.mem_of_getElem? (i := 37) rfl)) (by decide) (by decide)) (g := (mkF m 274 #[iv p0, iv p1, iv p2, iv p3, iv p4, iv v1, iv (1 : Int32), iv v90, iv v91, iv v92, rv b93, rv b128, rv b137, iv (3 : Int32)] [(.int v92), (.int v91), (.int v90), (.int (1 : Int32)), (.int (2 : Int32)), (.long v145)])) rfl (by rw [hml]; rfl) (argsL := [(.int (2 : Int32)), (.int (1 : Int32)), (.int v90), (.int v91), (.int v92)]) (rest := [(.long v145)]) (lenOf own_pd5 rfl) rfl (by show 2 * 0 + _ ≤ _; exact Nat.le_of_eq rfl) (hb hby at_274) (fun _ _ => ⟨rfl, e144, (by decide : 4 + 0 ≤ _), (by decide : 11 + 0 ≤ _)⟩)
        dsimp only [Pt.U, Pt.locs, Pt.cells, Pt.slots] at X146 l146 y146 z146 st146 hQ146
        subst l146 y146 z146
        obtain ⟨rfl, N146q, e146⟩ := hQ146
        have N146 := Fr.app N144 N146q
        refine ownGo (T' := T146) (f' := (mkF m 277 #[iv p0, iv p1, iv p2, iv p3, iv p4, iv v1, iv (1 : Int32), iv v90, iv v91, iv v92, rv b93, rv b128, rv b137, iv (3 : Int32)] [(.long ((0 : Int64) ||| (own_Bw (128 : Int32) (192 : Int32) v90))), (.long v145)])) (st146) ?_
        refine ow_lcmp (q := 278) X146 hx _ (hb hby at_277) rfl rfl ?_
        refine ow_ifYes (q := 283) X146 hx (hb hby at_278) (Jvm.Free.XT.ll_eq_t (by rw [← hv_v145]; exact own_cmp_2_1 (own_lt (own_val hv_v90 hv_v1 hz2 hL.2.2)))) (by decide) (by decide) ?_
        refine ow_iload (q := 285) X146 hx (hb hby at_283) rfl rfl ?_
        refine ow_iconst (q := 286) X146 hx (3 : Int32) (hb hby at_285) rfl rfl ?_
        refine ow_icmpYes (q := 311) X146 hx (hb hby at_286) (Jvm.Free.XT.ii_le_t (by decide)) (by decide) (by decide) ?_
        refine ow_iconst (q := 312) X146 hx (1 : Int32) (hb hby at_311) rfl rfl ?_
        refine ownRetN X146 hx (r := (1 : Int32)) (Or.inl rfl) Bd.returns (hb hby at_312) hlk (by decide) (by decide) (by decide) ?_
        exact ⟨rfl, N146⟩
      · obtain ⟨T147, h147, X147, e147, E147, A147, D147, -, st147⟩ := newO X95 hx hZ hown (hw _ (List.mem_of_getElem? (i := 1) rfl)) (hw _ (List.mem_of_getElem? (i := 2) rfl)) (hw _ (List.mem_of_getElem? (i := 3) rfl)) e95 (g := (mkF m 117 #[iv p0, iv p1, iv p2, iv p3, iv p4, iv v1, iv (1 : Int32), iv v90, iv v91, iv v92, rv b93, .unset, .unset, .unset] [])) rfl (hb hby at_117) (by decide) (by decide)
        obtain ⟨b147, g147⟩ : ∃ z, z = h95.size := ⟨_, rfl⟩
        rw [← g147] at A147 D147 st147
        have ne_b93_b147 : b93 ≠ b147 := Nat.ne_of_lt (Nat.lt_of_lt_of_le F95r.lt (Nat.le_of_eq g147.symm))
        have sz_b147 : h0.size ≤ b147 := Nat.le_trans K95.1 (Nat.le_of_eq g147.symm)
        have G_b147 : n0 ≤ b147 := Nat.le_trans Z0 sz_b147
        have K147 : Keep h0 h147 [] := K95.ext E147
        have F148 : ownAI Z h147 b93 .int 1 (ownUpd (fun _ => (0 : Int32)) 0 v90) := F95r.ext E147
        have F149 : Fld Z h147 b147 "com/example/sieveline/sieveline/solver/BitMatrix" "rowWords" "I" (.int (0 : Int32)) := D147 (Or.inr (hw _ (List.mem_of_getElem? (i := 14) rfl))) (ty := .int) (by decide)
        have F150 : Fld Z h147 b147 "com/example/sieveline/sieveline/solver/BitMatrix" "words" "[J" .null := D147 (Or.inr (hw _ (List.mem_of_getElem? (i := 24) rfl))) (ty := (.array .long)) (by decide)
        have F151 : Fld Z h147 b147 "com/example/sieveline/sieveline/solver/BitMatrix" "rows" "I" (.int (0 : Int32)) := D147 (Or.inr (hw _ (List.mem_of_getElem? (i := 26) rfl))) (ty := .int) (by decide)
        have F152 : Fld Z h147 b147 "com/example/sieveline/sieveline/solver/BitMatrix" "columns" "I" (.int (0 : Int32)) := D147 (Or.inr (hw _ (List.mem_of_getElem? (i := 28) rfl))) (ty := .int) (by decide)
        refine ownGo (T' := T147) (f' := (mkF m 120 #[iv p0, iv p1, iv p2, iv p3, iv p4, iv v1, iv (1 : Int32), iv v90, iv v91, iv v92, rv b93, .unset, .unset, .unset] [(.ref b147)])) (st147) ?_
        refine ow_dup (q := 121) X147 hx (hb hby at_120) rfl rfl ?_
        refine ow_iconst (q := 122) X147 hx (1 : Int32) (hb hby at_121) rfl rfl ?_
        refine ow_iload (q := 124) X147 hx (hb hby at_122) rfl rfl ?_
        obtain ⟨_, _, ⟨T153, L153, k153, n153⟩, -, X153, ⟨Lc153, hQ153, l153, y153, z153⟩, st153⟩ := X147.specialBack hx (y := (⟨"com/example/sieveline/sieveline/solver/BitMatrix", "<init>", "(II)V"⟩ : MethodName)) rfl hown (mvT hZ (hw _ (List.mem_of_getElem? (i := 4) rfl))) (mvT hZ (hw _ (List.mem_of_getElem? (i := 5) rfl))) (mvT hZ (hw _ (List.mem_of_getElem? (i := 6) rfl))) (by decide) (backOf (W := 1) (rm_init_4 l Z av0 hw [] b147 v1 h147 n0 (Nat.le_trans Z0 K147.1) A147 F149 F150 F151 F152 G_b147 hL.1) hZ (hw _ (List.mem_of_getElem? (i := 6) rfl)) (hw _ (List.mem_of_getElem? (i := 3) rfl)) (by decide) (by decide)) (g := (mkF m 124 #[iv p0, iv p1, iv p2, iv p3, iv p4, iv v1, iv (1 : Int32), iv v90, iv v91, iv v92, rv b93, .unset, .unset, .unset] [(.int v1), (.int (1 : Int32)), (.ref b147), (.ref b147)])) rfl (by rw [hml]; rfl) (Steps.refl _) (a := b147) (argsL := [(.int (1 : Int32)), (.int v1)]) (rest := [(.ref b147)]) (lenOf own_pd3 rfl) rfl (by show 2 * 0 + _ ≤ _; exact Nat.le_of_eq rfl) (hb hby at_124) (fun _ _ => ⟨rfl, e147, (by decide : 2 + 1 ≤ _), (by decide : 5 + 4 ≤ _)⟩)
        dsimp only [Pt.U, Pt.locs, Pt.cells, Pt.slots] at X153 l153 y153 z153 st153 hQ153
        subst l153 y153 z153
        obtain ⟨rfl, N153q, Kq153, FP153_0, FP153_1⟩ := hQ153
        have N153 := Fr.app N95 N153q
        have K153 : Keep h0 T153.heap [] := K147.trans Kq153 (allS (Or.inr sz_b147) all0)
        have F154 : ownAI Z T153.heap b93 .int 1 (ownUpd (fun _ => (0 : Int32)) 0 v90) := F148.keep Kq153 (ninS ne_b93_b147 nin0)
        have F155 : Exa Z T153.heap b147 "com/example/sieveline/sieveline/solver/BitMatrix" := A147.keep Kq153
        refine ownRun (T' := T153) (f' := (mkF m 127 #[iv p0, iv p1, iv p2, iv p3, iv p4, iv v1, iv (1 : Int32), iv v90, iv v91, iv v92, rv b93, .unset, .unset, .unset] [(.ref b147)])) st153 ?_
        refine ow_astore (q := 129) X153 hx (L' := #[iv p0, iv p1, iv p2, iv p3, iv p4, iv v1, iv (1 : Int32), iv v90, iv v91, iv v92, rv b93, rv b147, .unset, .unset]) (hb hby at_127) rfl rfl rfl ?_
        refine ow_aload (q := 131) X153 hx (hb hby at_129) rfl rfl rfl ?_
        refine ow_aload (q := 133) X153 hx (hb hby at_131) rfl rfl rfl ?_
        obtain ⟨cq156, kq156, q156a, q156b, q156c⟩ := isOf hZ rfl FP153_0
        obtain ⟨_, _, ⟨T156, L156, k156, n156⟩, -, X156, ⟨Lc156, hQ156, l156, y156, z156⟩, st156⟩ := X153.virtualBack hx (y := (⟨"com/example/sieveline/sieveline/solver/BitMatrix", "row", "([I)[J"⟩ : MethodName)) (z := (⟨"com/example/sieveline/sieveline/solver/BitMatrix", "row", "([I)[J"⟩ : MethodName)) hown (mvT hZ (hw _ (List.mem_of_getElem? (i := 29) rfl))) (mvT hZ (hw _ (List.mem_of_getElem? (i := 30) rfl))) (notFace_of_selects (args := #[]) (mvT hZ (hw _ (List.mem_of_getElem? (i := 32) rfl)))) (mvT hZ (hw _ (List.mem_of_getElem? (i := 32) rfl))) (mvT hZ (hw _ (List.mem_of_getElem? (i := 31) rfl))) (by decide) (backOf (W := 0) (rm_row_1_4 l Z av0 hw [] b147 b93 (ownUpd (fun _ => (0 : Int32)) 0 v90) T153.heap n0 (Nat.le_trans Z0 K153.1) FP153_1 F154 (own_val hv_v90 hv_v1 hz2 hL.2.2)) hZ (hw _ (List.mem_of_getElem? (i := 33) rfl)) (hw _ (List.mem_of_getElem? (i := 3) rfl)) (by decide) (by decide)) q156a q156c (g := (mkF m 133 #[iv p0, iv p1, iv p2, iv p3, iv p4, iv v1, iv (1 : Int32), iv v90, iv v91, iv v92, rv b93, rv b147, .unset, .unset] [(.ref b93), (.ref b147)])) rfl (by rw [hml]; rfl) (Steps.refl _) (argsL := [(.ref b93)]) (rest := []) (lenOf own_pd4 rfl) rfl (by show 2 * 0 + _ ≤ _; exact Nat.le_of_eq rfl) (hb hby at_133) (fun _ _ => ⟨rfl, rfl, (by decide : 3 + 1 ≤ _), (by decide : 9 + 4 ≤ _)⟩)
        dsimp only [Pt.U, Pt.locs, Pt.cells, Pt.slots] at X156 l156 y156 z156 st156 hQ156
        subst l156 y156 z156
        obtain ⟨b156, rfl, N156q, Kq156, sq156_b156, FP156_0⟩ := hQ156
        have N156 := Fr.app N153 N156q
        have K156 : Keep h0 T156.heap [] := K153.trans Kq156 all0
        have ne_b93_b156 : b93 ≠ b156 := Nat.ne_of_lt (Nat.lt_of_lt_of_le F154.lt sq156_b156)
        have ne_b147_b156 : b147 ≠ b156 := Nat.ne_of_lt (Nat.lt_of_lt_of_le FP153_0.lt sq156_b156)
        have sz_b156 : h0.size ≤ b156 := Nat.le_trans K153.1 sq156_b156
        have G_b156 : n0 ≤ b156 := Nat.le_trans Z0 sz_b156
        have F157 : ownAI Z T156.heap b93 .int 1 (ownUpd (fun _ => (0 : Int32)) 0 v90) := F154.keep Kq156 nin0
        have F158 : Exa Z T156.heap b147 "com/example/sieveline/sieveline/solver/BitMatrix" := FP153_0.keep Kq156
        have F159 : Fld Z T156.heap b147 "com/example/sieveline/sieveline/solver/BitMatrix" "rowWords" "I" (.int (4 : Int32)) := FP153_1.keep Kq156 nin0
        refine ownRun (T' := T156) (f' := (mkF m 136 #[iv p0, iv p1, iv p2, iv p3, iv p4, iv v1, iv (1 : Int32), iv v90, iv v91, iv v92, rv b93, rv b147, .unset, .unset] [(.ref b156)])) st156 ?_
        refine ow_astore (q := 138) X156 hx (L' := #[iv p0, iv p1, iv p2, iv p3, iv p4, iv v1, iv (1 : Int32), iv v90, iv v91, iv v92, rv b93, rv b147, rv b156, .unset]) (hb hby at_136) rfl rfl rfl ?_
        refine ow_iload (q := 140) X156 hx (hb hby at_138) rfl rfl ?_
        refine ow_ifYes (q := 147) X156 hx (hb hby at_140) (Jvm.Free.XT.i0_ne_t hz2) (by decide) (by decide) ?_
        refine ow_iload (q := 149) X156 hx (hb hby at_147) rfl rfl ?_
        refine ow_bipush (q := 151) X156 hx (64 : Int32) (hb hby at_149) rfl rfl ?_
        refine ow_icmpYes (q := 158) X156 hx (hb hby at_151) (Jvm.Free.XT.ii_gt_t (by simp only [Int32.lt_iff_toInt_lt, Int32.reduceToInt]; have := hL.2; omega)) (by decide) (by decide) ?_
        refine ow_iload (q := 160) X156 hx (hb hby at_158) rfl rfl ?_
        refine ow_sipush (q := 163) X156 hx (128 : Int32) (hb hby at_160) rfl rfl ?_
        refine ow_icmpYes (q := 170) X156 hx (hb hby at_163) (Jvm.Free.XT.ii_gt_t (by simp only [Int32.lt_iff_toInt_lt, Int32.reduceToInt]; have := hL.2; omega)) (by decide) (by decide) ?_
        refine ow_iload (q := 172) X156 hx (hb hby at_170) rfl rfl ?_
        refine ow_sipush (q := 175) X156 hx (192 : Int32) (hb hby at_172) rfl rfl ?_
        refine ow_icmpYes (q := 182) X156 hx (hb hby at_175) (Jvm.Free.XT.ii_gt_t (by simp only [Int32.lt_iff_toInt_lt, Int32.reduceToInt]; have := hL.2; omega)) (by decide) (by decide) ?_
        refine ow_iconst (q := 183) X156 hx (4 : Int32) (hb hby at_182) rfl rfl ?_
        refine ow_istore (q := 185) X156 hx (L' := #[iv p0, iv p1, iv p2, iv p3, iv p4, iv v1, iv (1 : Int32), iv v90, iv v91, iv v92, rv b93, rv b147, rv b156, iv (4 : Int32)]) (hb hby at_183) rfl rfl ?_
        refine ow_aload (q := 187) X156 hx (hb hby at_185) rfl rfl rfl ?_
        refine ownGo (T' := T156) (f' := (mkF m 190 #[iv p0, iv p1, iv p2, iv p3, iv p4, iv v1, iv (1 : Int32), iv v90, iv v91, iv v92, rv b93, rv b147, rv b156, iv (4 : Int32)] [])) (fun _ k => XS.ifnullNo X156.here hx rfl (hb hby at_187) rfl k) ?_
        refine ow_aload (q := 192) X156 hx (hb hby at_190) rfl rfl rfl ?_
        refine ownGo (T' := T156) (f' := (mkF m 193 #[iv p0, iv p1, iv p2, iv p3, iv p4, iv v1, iv (1 : Int32), iv v90, iv v91, iv v92, rv b93, rv b147, rv b156, iv (4 : Int32)] [(.int (4 : Int32))])) (ownLenJ FP156_0 X156 hx hZ rfl (z := (4 : Int32)) (by decide) (g := (mkF m 192 #[iv p0, iv p1, iv p2, iv p3, iv p4, iv v1, iv (1 : Int32), iv v90, iv v91, iv v92, rv b93, rv b147, rv b156, iv (4 : Int32)] [(.ref b156)])) rfl rfl (hb hby at_192)) ?_
        refine ow_iload (q := 195) X156 hx (hb hby at_193) rfl rfl ?_
        refine ow_icmpYes (q := 200) X156 hx (hb hby at_195) (Jvm.Free.XT.ii_eq_t (by decide)) (by decide) (by decide) ?_
        refine ow_iload (q := 202) X156 hx (hb hby at_200) rfl rfl ?_
        refine ow_ifNo (q := 205) X156 hx (hb hby at_202) rfl (Jvm.Free.XT.i0_le_f (by decide)) ?_
        refine ow_aload (q := 207) X156 hx (hb hby at_205) rfl rfl rfl ?_
        refine ow_iconst (q := 208) X156 hx (0 : Int32) (hb hby at_207) rfl rfl ?_
        refine ownGo (T' := T156) (f' := (mkF m 209 #[iv p0, iv p1, iv p2, iv p3, iv p4, iv v1, iv (1 : Int32), iv v90, iv v91, iv v92, rv b93, rv b147, rv b156, iv (4 : Int32)] [(.long ((own_or1 (fun _ => (0 : Int64)) v90) 0))])) (ownLaload FP156_0 X156 hx hZ rfl (j := (0 : Int32)) (by unfold ownIn; decide) (g := (mkF m 208 #[iv p0, iv p1, iv p2, iv p3, iv p4, iv v1, iv (1 : Int32), iv v90, iv v91, iv v92, rv b93, rv b147, rv b156, iv (4 : Int32)] [(.int (0 : Int32)), (.ref b156)])) rfl rfl (hb hby at_208)) ?_
        generalize hv_v160 : ((own_or1 (fun _ => (0 : Int64)) v90) 0) = v160
        refine ow_iconst (q := 210) X156 hx (0 : Int32) (hb hby at_209) rfl rfl ?_
        refine ow_iload (q := 212) X156 hx (hb hby at_210) rfl rfl ?_
        refine ow_iload (q := 214) X156 hx (hb hby at_212) rfl rfl ?_
        refine ow_iload (q := 216) X156 hx (hb hby at_214) rfl rfl ?_
        refine ow_iload (q := 218) X156 hx (hb hby at_216) rfl rfl ?_
        obtain ⟨_, _, ⟨T161, L161, k161, n161⟩, -, X161, ⟨Lc161, hQ161, l161, y161, z161⟩, st161⟩ := Jvm.LawKit.callS X156 hx (y := (⟨"com/example/sieveline/sieveline/solver/BitMatrixRowPinLaw", "expect", "(IIIII)J"⟩ : MethodName)) hown (mvT hZ (hw _ (List.mem_of_getElem? (i := 35) rfl))) (mvT hZ (hw _ (List.mem_of_getElem? (i := 36) rfl))) (mvT hZ (hw _ (List.mem_of_getElem? (i := 37) rfl))) (mvT hZ (hw _ (List.mem_of_getElem? (i := 38) rfl))) (by decide) (backOf (W := 2) (rm_exp_0_1 l Z av0 hw [] v90 v91 v92 T156.heap n0 (Nat.le_trans Z0 K156.1) ) hZ (hw _ (List.mem_of_getElem? (i := 38) rfl)) (hw _ (List.mem_of_getElem? (i := 37) rfl)) (by decide) (by decide)) (g := (mkF m 218 #[iv p0, iv p1, iv p2, iv p3, iv p4, iv v1, iv (1 : Int32), iv v90, iv v91, iv v92, rv b93, rv b147, rv b156, iv (4 : Int32)] [(.int v92), (.int v91), (.int v90), (.int (1 : Int32)), (.int (0 : Int32)), (.long v160)])) rfl (by rw [hml]; rfl) (argsL := [(.int (0 : Int32)), (.int (1 : Int32)), (.int v90), (.int v91), (.int v92)]) (rest := [(.long v160)]) (lenOf own_pd5 rfl) rfl (by show 2 * 0 + _ ≤ _; exact Nat.le_of_eq rfl) (hb hby at_218) (fun _ _ => ⟨rfl, rfl, (by decide : 4 + 0 ≤ _), (by decide : 13 + 0 ≤ _)⟩)
        dsimp only [Pt.U, Pt.locs, Pt.cells, Pt.slots] at X161 l161 y161 z161 st161 hQ161
        subst l161 y161 z161
        obtain ⟨rfl, N161q, e161⟩ := hQ161
        have N161 := Fr.app N156 N161q
        refine ownGo (T' := T161) (f' := (mkF m 221 #[iv p0, iv p1, iv p2, iv p3, iv p4, iv v1, iv (1 : Int32), iv v90, iv v91, iv v92, rv b93, rv b147, rv b156, iv (4 : Int32)] [(.long ((0 : Int64) ||| (own_Bw (0 : Int32) (64 : Int32) v90))), (.long v160)])) (st161) ?_
        refine ow_lcmp (q := 222) X161 hx _ (hb hby at_221) rfl rfl ?_
        refine ow_ifYes (q := 227) X161 hx (hb hby at_222) (Jvm.Free.XT.ll_eq_t (by rw [← hv_v160]; exact own_cmp_0_1 (own_lt (own_val hv_v90 hv_v1 hz2 hL.2.2)))) (by decide) (by decide) ?_
        refine ow_iload (q := 229) X161 hx (hb hby at_227) rfl rfl ?_
        refine ow_iconst (q := 230) X161 hx (1 : Int32) (hb hby at_229) rfl rfl ?_
        refine ow_icmpNo (q := 233) X161 hx (hb hby at_230) rfl (Jvm.Free.XT.ii_le_f (by decide)) ?_
        refine ow_aload (q := 235) X161 hx (hb hby at_233) rfl rfl rfl ?_
        refine ow_iconst (q := 236) X161 hx (1 : Int32) (hb hby at_235) rfl rfl ?_
        refine ownGo (T' := T161) (f' := (mkF m 237 #[iv p0, iv p1, iv p2, iv p3, iv p4, iv v1, iv (1 : Int32), iv v90, iv v91, iv v92, rv b93, rv b147, rv b156, iv (4 : Int32)] [(.long ((own_or1 (fun _ => (0 : Int64)) v90) 1))])) (ownLaload FP156_0 X161 hx hZ e161 (j := (1 : Int32)) (by unfold ownIn; decide) (g := (mkF m 236 #[iv p0, iv p1, iv p2, iv p3, iv p4, iv v1, iv (1 : Int32), iv v90, iv v91, iv v92, rv b93, rv b147, rv b156, iv (4 : Int32)] [(.int (1 : Int32)), (.ref b156)])) rfl rfl (hb hby at_236)) ?_
        generalize hv_v162 : ((own_or1 (fun _ => (0 : Int64)) v90) 1) = v162
        refine ow_iconst (q := 238) X161 hx (1 : Int32) (hb hby at_237) rfl rfl ?_
        refine ow_iload (q := 240) X161 hx (hb hby at_238) rfl rfl ?_
        refine ow_iload (q := 242) X161 hx (hb hby at_240) rfl rfl ?_
        refine ow_iload (q := 244) X161 hx (hb hby at_242) rfl rfl ?_
        refine ow_iload (q := 246) X161 hx (hb hby at_244) rfl rfl ?_
        obtain ⟨_, _, ⟨T163, L163, k163, n163⟩, -, X163, ⟨Lc163, hQ163, l163, y163, z163⟩, st163⟩ := Jvm.LawKit.callS X161 hx (y := (⟨"com/example/sieveline/sieveline/solver/BitMatrixRowPinLaw", "expect", "(IIIII)J"⟩ : MethodName)) hown (mvT hZ (hw _ (List.mem_of_getElem? (i := 35) rfl))) (mvT hZ (hw _ (List.mem_of_getElem? (i := 36) rfl))) (mvT hZ (hw _ (List.mem_of_getElem? (i := 37) rfl))) (mvT hZ (hw _ (List.mem_of_getElem? (i := 38) rfl))) (by decide) (backOf (W := 2) (rm_exp_1_1 l Z av0 hw [] v90 v91 v92 T156.heap n0 (Nat.le_trans Z0 K156.1) ) hZ (hw _ (List.mem_of_getElem? (i := 38) rfl)) (hw _ (List.mem_of_getElem? (i := 37) rfl)) (by decide) (by decide)) (g := (mkF m 246 #[iv p0, iv p1, iv p2, iv p3, iv p4, iv v1, iv (1 : Int32), iv v90, iv v91, iv v92, rv b93, rv b147, rv b156, iv (4 : Int32)] [(.int v92), (.int v91), (.int v90), (.int (1 : Int32)), (.int (1 : Int32)), (.long v162)])) rfl (by rw [hml]; rfl) (argsL := [(.int (1 : Int32)), (.int (1 : Int32)), (.int v90), (.int v91), (.int v92)]) (rest := [(.long v162)]) (lenOf own_pd5 rfl) rfl (by show 2 * 0 + _ ≤ _; exact Nat.le_of_eq rfl) (hb hby at_246) (fun _ _ => ⟨rfl, e161, (by decide : 4 + 0 ≤ _), (by decide : 13 + 0 ≤ _)⟩)
        dsimp only [Pt.U, Pt.locs, Pt.cells, Pt.slots] at X163 l163 y163 z163 st163 hQ163
        subst l163 y163 z163
        obtain ⟨rfl, N163q, e163⟩ := hQ163
        have N163 := Fr.app N161 N163q
        refine ownGo (T' := T163) (f' := (mkF m 249 #[iv p0, iv p1, iv p2, iv p3, iv p4, iv v1, iv (1 : Int32), iv v90, iv v91, iv v92, rv b93, rv b147, rv b156, iv (4 : Int32)] [(.long ((0 : Int64) ||| (own_Bw (64 : Int32) (128 : Int32) v90))), (.long v162)])) (st163) ?_
        refine ow_lcmp (q := 250) X163 hx _ (hb hby at_249) rfl rfl ?_
        refine ow_ifYes (q := 255) X163 hx (hb hby at_250) (Jvm.Free.XT.ll_eq_t (by rw [← hv_v162]; exact own_cmp_1_1 (own_lt (own_val hv_v90 hv_v1 hz2 hL.2.2)))) (by decide) (by decide) ?_
        refine ow_iload (q := 257) X163 hx (hb hby at_255) rfl rfl ?_
        refine ow_iconst (q := 258) X163 hx (2 : Int32) (hb hby at_257) rfl rfl ?_
        refine ow_icmpNo (q := 261) X163 hx (hb hby at_258) rfl (Jvm.Free.XT.ii_le_f (by decide)) ?_
        refine ow_aload (q := 263) X163 hx (hb hby at_261) rfl rfl rfl ?_
        refine ow_iconst (q := 264) X163 hx (2 : Int32) (hb hby at_263) rfl rfl ?_
        refine ownGo (T' := T163) (f' := (mkF m 265 #[iv p0, iv p1, iv p2, iv p3, iv p4, iv v1, iv (1 : Int32), iv v90, iv v91, iv v92, rv b93, rv b147, rv b156, iv (4 : Int32)] [(.long ((own_or1 (fun _ => (0 : Int64)) v90) 2))])) (ownLaload FP156_0 X163 hx hZ e163 (j := (2 : Int32)) (by unfold ownIn; decide) (g := (mkF m 264 #[iv p0, iv p1, iv p2, iv p3, iv p4, iv v1, iv (1 : Int32), iv v90, iv v91, iv v92, rv b93, rv b147, rv b156, iv (4 : Int32)] [(.int (2 : Int32)), (.ref b156)])) rfl rfl (hb hby at_264)) ?_
        generalize hv_v164 : ((own_or1 (fun _ => (0 : Int64)) v90) 2) = v164
        refine ow_iconst (q := 266) X163 hx (2 : Int32) (hb hby at_265) rfl rfl ?_
        refine ow_iload (q := 268) X163 hx (hb hby at_266) rfl rfl ?_
        refine ow_iload (q := 270) X163 hx (hb hby at_268) rfl rfl ?_
        refine ow_iload (q := 272) X163 hx (hb hby at_270) rfl rfl ?_
        refine ow_iload (q := 274) X163 hx (hb hby at_272) rfl rfl ?_
        obtain ⟨_, _, ⟨T165, L165, k165, n165⟩, -, X165, ⟨Lc165, hQ165, l165, y165, z165⟩, st165⟩ := Jvm.LawKit.callS X163 hx (y := (⟨"com/example/sieveline/sieveline/solver/BitMatrixRowPinLaw", "expect", "(IIIII)J"⟩ : MethodName)) hown (mvT hZ (hw _ (List.mem_of_getElem? (i := 35) rfl))) (mvT hZ (hw _ (List.mem_of_getElem? (i := 36) rfl))) (mvT hZ (hw _ (List.mem_of_getElem? (i := 37) rfl))) (mvT hZ (hw _ (List.mem_of_getElem? (i := 38) rfl))) (by decide) (backOf (W := 2) (rm_exp_2_1 l Z av0 hw [] v90 v91 v92 T156.heap n0 (Nat.le_trans Z0 K156.1) ) hZ (hw _ (List.mem_of_getElem? (i := 38) rfl)) (hw _ (List.mem_of_getElem? (i := 37) rfl)) (by decide) (by decide)) (g := (mkF m 274 #[iv p0, iv p1, iv p2, iv p3, iv p4, iv v1, iv (1 : Int32), iv v90, iv v91, iv v92, rv b93, rv b147, rv b156, iv (4 : Int32)] [(.int v92), (.int v91), (.int v90), (.int (1 : Int32)), (.int (2 : Int32)), (.long v164)])) rfl (by rw [hml]; rfl) (argsL := [(.int (2 : Int32)), (.int (1 : Int32)), (.int v90), (.int v91), (.int v92)]) (rest := [(.long v164)]) (lenOf own_pd5 rfl) rfl (by show 2 * 0 + _ ≤ _; exact Nat.le_of_eq rfl) (hb hby at_274) (fun _ _ => ⟨rfl, e163, (by decide : 4 + 0 ≤ _), (by decide : 13 + 0 ≤ _)⟩)
        dsimp only [Pt.U, Pt.locs, Pt.cells, Pt.slots] at X165 l165 y165 z165 st165 hQ165
        subst l165 y165 z165
        obtain ⟨rfl, N165q, e165⟩ := hQ165
        have N165 := Fr.app N163 N165q
        refine ownGo (T' := T165) (f' := (mkF m 277 #[iv p0, iv p1, iv p2, iv p3, iv p4, iv v1, iv (1 : Int32), iv v90, iv v91, iv v92, rv b93, rv b147, rv b156, iv (4 : Int32)] [(.long ((0 : Int64) ||| (own_Bw (128 : Int32) (192 : Int32) v90))), (.long v164)])) (st165) ?_
        refine ow_lcmp (q := 278) X165 hx _ (hb hby at_277) rfl rfl ?_
        refine ow_ifYes (q := 283) X165 hx (hb hby at_278) (Jvm.Free.XT.ll_eq_t (by rw [← hv_v164]; exact own_cmp_2_1 (own_lt (own_val hv_v90 hv_v1 hz2 hL.2.2)))) (by decide) (by decide) ?_
        refine ow_iload (q := 285) X165 hx (hb hby at_283) rfl rfl ?_
        refine ow_iconst (q := 286) X165 hx (3 : Int32) (hb hby at_285) rfl rfl ?_
        refine ow_icmpNo (q := 289) X165 hx (hb hby at_286) rfl (Jvm.Free.XT.ii_le_f (by decide)) ?_
        refine ow_aload (q := 291) X165 hx (hb hby at_289) rfl rfl rfl ?_
        refine ow_iconst (q := 292) X165 hx (3 : Int32) (hb hby at_291) rfl rfl ?_
        refine ownGo (T' := T165) (f' := (mkF m 293 #[iv p0, iv p1, iv p2, iv p3, iv p4, iv v1, iv (1 : Int32), iv v90, iv v91, iv v92, rv b93, rv b147, rv b156, iv (4 : Int32)] [(.long ((own_or1 (fun _ => (0 : Int64)) v90) 3))])) (ownLaload FP156_0 X165 hx hZ e165 (j := (3 : Int32)) (by unfold ownIn; decide) (g := (mkF m 292 #[iv p0, iv p1, iv p2, iv p3, iv p4, iv v1, iv (1 : Int32), iv v90, iv v91, iv v92, rv b93, rv b147, rv b156, iv (4 : Int32)] [(.int (3 : Int32)), (.ref b156)])) rfl rfl (hb hby at_292)) ?_
        generalize hv_v166 : ((own_or1 (fun _ => (0 : Int64)) v90) 3) = v166
        refine ow_iconst (q := 294) X165 hx (3 : Int32) (hb hby at_293) rfl rfl ?_
        refine ow_iload (q := 296) X165 hx (hb hby at_294) rfl rfl ?_
        refine ow_iload (q := 298) X165 hx (hb hby at_296) rfl rfl ?_
        refine ow_iload (q := 300) X165 hx (hb hby at_298) rfl rfl ?_
        refine ow_iload (q := 302) X165 hx (hb hby at_300) rfl rfl ?_
        obtain ⟨_, _, ⟨T167, L167, k167, n167⟩, -, X167, ⟨Lc167, hQ167, l167, y167, z167⟩, st167⟩ := Jvm.LawKit.callS X165 hx (y := (⟨"com/example/sieveline/sieveline/solver/BitMatrixRowPinLaw", "expect", "(IIIII)J"⟩ : MethodName)) hown (mvT hZ (hw _ (List.mem_of_getElem? (i := 35) rfl))) (mvT hZ (hw _ (List.mem_of_getElem? (i := 36) rfl))) (mvT hZ (hw _ (List.mem_of_getElem? (i := 37) rfl))) (mvT hZ (hw _ (List.mem_of_getElem? (i := 38) rfl))) (by decide) (backOf (W := 2) (rm_exp_3_1 l Z av0 hw [] v90 v91 v92 T156.heap n0 (Nat.le_trans Z0 K156.1) ) hZ (hw _ (List.mem_of_getElem? (i := 38) rfl)) (hw _ (List.mem_of_getElem? (i := 37) rfl)) (by decide) (by decide)) (g := (mkF m 302 #[iv p0, iv p1, iv p2, iv p3, iv p4, iv v1, iv (1 : Int32), iv v90, iv v91, iv v92, rv b93, rv b147, rv b156, iv (4 : Int32)] [(.int v92), (.int v91), (.int v90), (.int (1 : Int32)), (.int (3 : Int32)), (.long v166)])) rfl (by rw [hml]; rfl) (argsL := [(.int (3 : Int32)), (.int (1 : Int32)), (.int v90), (.int v91), (.int v92)]) (rest := [(.long v166)]) (lenOf own_pd5 rfl) rfl (by show 2 * 0 + _ ≤ _; exact Nat.le_of_eq rfl) (hb hby at_302) (fun _ _ => ⟨rfl, e165, (by decide : 4 + 0 ≤ _), (by decide : 13 + 0 ≤ _)⟩)
        dsimp only [Pt.U, Pt.locs, Pt.cells, Pt.slots] at X167 l167 y167 z167 st167 hQ167
        subst l167 y167 z167
        obtain ⟨rfl, N167q, e167⟩ := hQ167
        have N167 := Fr.app N165 N167q
        refine ownGo (T' := T167) (f' := (mkF m 305 #[iv p0, iv p1, iv p2, iv p3, iv p4, iv v1, iv (1 : Int32), iv v90, iv v91, iv v92, rv b93, rv b147, rv b156, iv (4 : Int32)] [(.long ((0 : Int64) ||| (own_Bw (192 : Int32) (256 : Int32) v90))), (.long v166)])) (st167) ?_
        refine ow_lcmp (q := 306) X167 hx _ (hb hby at_305) rfl rfl ?_
        refine ow_ifYes (q := 311) X167 hx (hb hby at_306) (Jvm.Free.XT.ll_eq_t (by rw [← hv_v166]; exact own_cmp_3_1 (own_lt (own_val hv_v90 hv_v1 hz2 hL.2.2)))) (by decide) (by decide) ?_
        refine ow_iconst (q := 312) X167 hx (1 : Int32) (hb hby at_311) rfl rfl ?_
        refine ownRetN X167 hx (r := (1 : Int32)) (Or.inl rfl) Bd.returns (hb hby at_312) hlk (by decide) (by decide) (by decide) ?_
        exact ⟨rfl, N167⟩
    · subst hs21
      refine ow_iload (q := 23) X0 hx (hb hby at_21) rfl rfl ?_
      refine ow_ifYes (q := 30) X0 hx (hb hby at_23) (Jvm.Free.XT.i0_ne_t hz2) (by decide) (by decide) ?_
      refine ow_iloadN (q := 31) X0 hx (hb hby at_30) rfl rfl ?_
      refine ownGo (T' := s₁) (f' := (mkF m 33 #[iv p0, iv p1, iv p2, iv p3, iv p4, iv v1, iv (2 : Int32), .unset, .unset, .unset, .unset, .unset, .unset, .unset] [(.int (2147483647 : Int32)), (.int p2)])) (X0.ldcInt hx hown (mvT hZ (hw _ (List.mem_of_getElem? (i := 34) rfl))) (g := (mkF m 31 #[iv p0, iv p1, iv p2, iv p3, iv p4, iv v1, iv (2 : Int32), .unset, .unset, .unset, .unset, .unset, .unset, .unset] [(.int p2)])) rfl (hb hby at_31)) ?_
      refine ow_iand (q := 34) X0 hx _ (hb hby at_33) rfl rfl ?_
      refine ow_iload (q := 36) X0 hx (hb hby at_34) rfl rfl ?_
      refine ow_irem (q := 37) X0 hx _ (hb hby at_36) rfl hz2 rfl ?_
      generalize hv_v168 : ((p2 &&& (2147483647 : Int32)) % v1) = v168
      refine ow_istore (q := 39) X0 hx (L' := #[iv p0, iv p1, iv p2, iv p3, iv p4, iv v1, iv (2 : Int32), iv v168, .unset, .unset, .unset, .unset, .unset, .unset]) (hb hby at_37) rfl rfl ?_
      refine ow_iload (q := 41) X0 hx (hb hby at_39) rfl rfl ?_
      refine ow_ifYes (q := 48) X0 hx (hb hby at_41) (Jvm.Free.XT.i0_ne_t hz2) (by decide) (by decide) ?_
      refine ow_iloadN (q := 49) X0 hx (hb hby at_48) rfl rfl ?_
      refine ownGo (T' := s₁) (f' := (mkF m 51 #[iv p0, iv p1, iv p2, iv p3, iv p4, iv v1, iv (2 : Int32), iv v168, .unset, .unset, .unset, .unset, .unset, .unset] [(.int (2147483647 : Int32)), (.int p3)])) (X0.ldcInt hx hown (mvT hZ (hw _ (List.mem_of_getElem? (i := 34) rfl))) (g := (mkF m 49 #[iv p0, iv p1, iv p2, iv p3, iv p4, iv v1, iv (2 : Int32), iv v168, .unset, .unset, .unset, .unset, .unset, .unset] [(.int p3)])) rfl (hb hby at_49)) ?_
      refine ow_iand (q := 52) X0 hx _ (hb hby at_51) rfl rfl ?_
      refine ow_iload (q := 54) X0 hx (hb hby at_52) rfl rfl ?_
      refine ow_irem (q := 55) X0 hx _ (hb hby at_54) rfl hz2 rfl ?_
      generalize hv_v169 : ((p3 &&& (2147483647 : Int32)) % v1) = v169
      refine ow_istore (q := 57) X0 hx (L' := #[iv p0, iv p1, iv p2, iv p3, iv p4, iv v1, iv (2 : Int32), iv v168, iv v169, .unset, .unset, .unset, .unset, .unset]) (hb hby at_55) rfl rfl ?_
      refine ow_iload (q := 59) X0 hx (hb hby at_57) rfl rfl ?_
      refine ow_ifYes (q := 66) X0 hx (hb hby at_59) (Jvm.Free.XT.i0_ne_t hz2) (by decide) (by decide) ?_
      refine ow_iload (q := 68) X0 hx (hb hby at_66) rfl rfl ?_
      refine ownGo (T' := s₁) (f' := (mkF m 70 #[iv p0, iv p1, iv p2, iv p3, iv p4, iv v1, iv (2 : Int32), iv v168, iv v169, .unset, .unset, .unset, .unset, .unset] [(.int (2147483647 : Int32)), (.int p4)])) (X0.ldcInt hx hown (mvT hZ (hw _ (List.mem_of_getElem? (i := 34) rfl))) (g := (mkF m 68 #[iv p0, iv p1, iv p2, iv p3, iv p4, iv v1, iv (2 : Int32), iv v168, iv v169, .unset, .unset, .unset, .unset, .unset] [(.int p4)])) rfl (hb hby at_68)) ?_
      refine ow_iand (q := 71) X0 hx _ (hb hby at_70) rfl rfl ?_
      refine ow_iload (q := 73) X0 hx (hb hby at_71) rfl rfl ?_
      refine ow_irem (q := 74) X0 hx _ (hb hby at_73) rfl hz2 rfl ?_
      generalize hv_v170 : ((p4 &&& (2147483647 : Int32)) % v1) = v170
      refine ow_istore (q := 76) X0 hx (L' := #[iv p0, iv p1, iv p2, iv p3, iv p4, iv v1, iv (2 : Int32), iv v168, iv v169, iv v170, .unset, .unset, .unset, .unset]) (hb hby at_74) rfl rfl ?_
      refine ow_iload (q := 78) X0 hx (hb hby at_76) rfl rfl ?_
      obtain ⟨T171, h171, k171, X171, e171, E171, A171, st171⟩ := newP X0 hx hZ (hw _ (List.mem_of_getElem? (i := 0) rfl)) e0 (g := (mkF m 78 #[iv p0, iv p1, iv p2, iv p3, iv p4, iv v1, iv (2 : Int32), iv v168, iv v169, iv v170, .unset, .unset, .unset, .unset] [(.int (2 : Int32))])) rfl (hb hby at_78) rfl (by decide) (cap := 2) (by decide) (by decide) (by decide) (by decide)
      obtain ⟨b171, g171⟩ : ∃ z, z = h0.size := ⟨_, rfl⟩
      rw [← g171] at A171 st171
      have sz_b171 : h0.size ≤ b171 := Nat.le_trans K0.1 (Nat.le_of_eq g171.symm)
      have G_b171 : n0 ≤ b171 := Nat.le_trans Z0 sz_b171
      have K171 : Keep h0 h171 [] := K0.ext E171
      have F172 : ownAI Z h171 b171 .int 2 (fun _ => (0 : Int32)) := ownAI.new A171 (by decide) rfl (by decide)
      refine ownGo (T' := T171) (f' := (mkF m 80 #[iv p0, iv p1, iv p2, iv p3, iv p4, iv v1, iv (2 : Int32), iv v168, iv v169, iv v170, .unset, .unset, .unset, .unset] [(.ref b171)])) (st171) ?_
      refine ow_astore (q := 82) X171 hx (L' := #[iv p0, iv p1, iv p2, iv p3, iv p4, iv v1, iv (2 : Int32), iv v168, iv v169, iv v170, rv b171, .unset, .unset, .unset]) (hb hby at_80) rfl rfl rfl ?_
      refine ow_iload (q := 84) X171 hx (hb hby at_82) rfl rfl ?_
      refine ow_ifNo (q := 87) X171 hx (hb hby at_84) rfl (Jvm.Free.XT.i0_le_f (by decide)) ?_
      refine ow_aload (q := 89) X171 hx (hb hby at_87) rfl rfl rfl ?_
      refine ow_iconst (q := 90) X171 hx (0 : Int32) (hb hby at_89) rfl rfl ?_
      refine ow_iload (q := 92) X171 hx (hb hby at_90) rfl rfl ?_
      obtain ⟨T173, h173, X173, e173, W173, F173s, st173⟩ := ownIastore F172 X171 hx hZ e171 (j := (0 : Int32)) (by unfold ownIn; decide) (g := (mkF m 92 #[iv p0, iv p1, iv p2, iv p3, iv p4, iv v1, iv (2 : Int32), iv v168, iv v169, iv v170, rv b171, .unset, .unset, .unset] [(.int v168), (.int (0 : Int32)), (.ref b171)])) rfl rfl (hb hby at_92)
      have F173r : ownAI Z h173 b171 .int 2 (ownUpd (fun _ => (0 : Int32)) 0 v168) := F173s
      have N173 := Fr.snoc X173 N0 G_b171
      have K173 : Keep h0 h173 [] := K171.wr W173 (Or.inr sz_b171)
      refine ownGo (T' := T173) (f' := (mkF m 93 #[iv p0, iv p1, iv p2, iv p3, iv p4, iv v1, iv (2 : Int32), iv v168, iv v169, iv v170, rv b171, .unset, .unset, .unset] [])) (st173) ?_
      refine ow_iload (q := 95) X173 hx (hb hby at_93) rfl rfl ?_
      refine ow_iconst (q := 96) X173 hx (1 : Int32) (hb hby at_95) rfl rfl ?_
      refine ow_icmpNo (q := 99) X173 hx (hb hby at_96) rfl (Jvm.Free.XT.ii_le_f (by decide)) ?_
      refine ow_aload (q := 101) X173 hx (hb hby at_99) rfl rfl rfl ?_
      refine ow_iconst (q := 102) X173 hx (1 : Int32) (hb hby at_101) rfl rfl ?_
      refine ow_iload (q := 104) X173 hx (hb hby at_102) rfl rfl ?_
      obtain ⟨T174, h174, X174, e174, W174, F174s, st174⟩ := ownIastore F173r X173 hx hZ e173 (j := (1 : Int32)) (by unfold ownIn; decide) (g := (mkF m 104 #[iv p0, iv p1, iv p2, iv p3, iv p4, iv v1, iv (2 : Int32), iv v168, iv v169, iv v170, rv b171, .unset, .unset, .unset] [(.int v169), (.int (1 : Int32)), (.ref b171)])) rfl rfl (hb hby at_104)
      have F174r : ownAI Z h174 b171 .int 2 (ownUpd (ownUpd (fun _ => (0 : Int32)) 0 v168) 1 v169) := F174s
      have N174 := Fr.snoc X174 N173 G_b171
      have K174 : Keep h0 h174 [] := K173.wr W174 (Or.inr sz_b171)
      refine ownGo (T' := T174) (f' := (mkF m 105 #[iv p0, iv p1, iv p2, iv p3, iv p4, iv v1, iv (2 : Int32), iv v168, iv v169, iv v170, rv b171, .unset, .unset, .unset] [])) (st174) ?_
      refine ow_iload (q := 107) X174 hx (hb hby at_105) rfl rfl ?_
      refine ow_iconst (q := 108) X174 hx (2 : Int32) (hb hby at_107) rfl rfl ?_
      refine ow_icmpYes (q := 117) X174 hx (hb hby at_108) (Jvm.Free.XT.ii_le_t (by decide)) (by decide) (by decide) ?_
      rcases own_cls hv_v1 hz2 with hL | hL | hL | hL
      · obtain ⟨T175, h175, X175, e175, E175, A175, D175, -, st175⟩ := newO X174 hx hZ hown (hw _ (List.mem_of_getElem? (i := 1) rfl)) (hw _ (List.mem_of_getElem? (i := 2) rfl)) (hw _ (List.mem_of_getElem? (i := 3) rfl)) e174 (g := (mkF m 117 #[iv p0, iv p1, iv p2, iv p3, iv p4, iv v1, iv (2 : Int32), iv v168, iv v169, iv v170, rv b171, .unset, .unset, .unset] [])) rfl (hb hby at_117) (by decide) (by decide)
        obtain ⟨b175, g175⟩ : ∃ z, z = h174.size := ⟨_, rfl⟩
        rw [← g175] at A175 D175 st175
        have ne_b171_b175 : b171 ≠ b175 := Nat.ne_of_lt (Nat.lt_of_lt_of_le F174r.lt (Nat.le_of_eq g175.symm))
        have sz_b175 : h0.size ≤ b175 := Nat.le_trans K174.1 (Nat.le_of_eq g175.symm)
        have G_b175 : n0 ≤ b175 := Nat.le_trans Z0 sz_b175
        have K175 : Keep h0 h175 [] := K174.ext E175
        have F176 : ownAI Z h175 b171 .int 2 (ownUpd (ownUpd (fun _ => (0 : Int32)) 0 v168) 1 v169) := F174r.ext E175
        have F177 : Fld Z h175 b175 "com/example/sieveline/sieveline/solver/BitMatrix" "rowWords" "I" (.int (0 : Int32)) := D175 (Or.inr (hw _ (List.mem_of_getElem? (i := 14) rfl))) (ty := .int) (by decide)
        have F178 : Fld Z h175 b175 "com/example/sieveline/sieveline/solver/BitMatrix" "words" "[J" .null := D175 (Or.inr (hw _ (List.mem_of_getElem? (i := 24) rfl))) (ty := (.array .long)) (by decide)
        have F179 : Fld Z h175 b175 "com/example/sieveline/sieveline/solver/BitMatrix" "rows" "I" (.int (0 : Int32)) := D175 (Or.inr (hw _ (List.mem_of_getElem? (i := 26) rfl))) (ty := .int) (by decide)
        have F180 : Fld Z h175 b175 "com/example/sieveline/sieveline/solver/BitMatrix" "columns" "I" (.int (0 : Int32)) := D175 (Or.inr (hw _ (List.mem_of_getElem? (i := 28) rfl))) (ty := .int) (by decide)
        refine ownGo (T' := T175) (f' := (mkF m 120 #[iv p0, iv p1, iv p2, iv p3, iv p4, iv v1, iv (2 : Int32), iv v168, iv v169, iv v170, rv b171, .unset, .unset, .unset] [(.ref b175)])) (st175) ?_
        refine ow_dup (q := 121) X175 hx (hb hby at_120) rfl rfl ?_
        refine ow_iconst (q := 122) X175 hx (1 : Int32) (hb hby at_121) rfl rfl ?_
        refine ow_iload (q := 124) X175 hx (hb hby at_122) rfl rfl ?_
        obtain ⟨_, _, ⟨T181, L181, k181, n181⟩, -, X181, ⟨Lc181, hQ181, l181, y181, z181⟩, st181⟩ := X175.specialBack hx (y := (⟨"com/example/sieveline/sieveline/solver/BitMatrix", "<init>", "(II)V"⟩ : MethodName)) rfl hown (mvT hZ (hw _ (List.mem_of_getElem? (i := 4) rfl))) (mvT hZ (hw _ (List.mem_of_getElem? (i := 5) rfl))) (mvT hZ (hw _ (List.mem_of_getElem? (i := 6) rfl))) (by decide) (backOf (W := 1) (rm_init_1 l Z av0 hw [] b175 v1 h175 n0 (Nat.le_trans Z0 K175.1) A175 F177 F178 F179 F180 G_b175 hL.1) hZ (hw _ (List.mem_of_getElem? (i := 6) rfl)) (hw _ (List.mem_of_getElem? (i := 3) rfl)) (by decide) (by decide)) (g := (mkF m 124 #[iv p0, iv p1, iv p2, iv p3, iv p4, iv v1, iv (2 : Int32), iv v168, iv v169, iv v170, rv b171, .unset, .unset, .unset] [(.int v1), (.int (1 : Int32)), (.ref b175), (.ref b175)])) rfl (by rw [hml]; rfl) (Steps.refl _) (a := b175) (argsL := [(.int (1 : Int32)), (.int v1)]) (rest := [(.ref b175)]) (lenOf own_pd3 rfl) rfl (by show 2 * 0 + _ ≤ _; exact Nat.le_of_eq rfl) (hb hby at_124) (fun _ _ => ⟨rfl, e175, (by decide : 2 + 1 ≤ _), (by decide : 6 + 1 ≤ _)⟩)
        dsimp only [Pt.U, Pt.locs, Pt.cells, Pt.slots] at X181 l181 y181 z181 st181 hQ181
        subst l181 y181 z181
        obtain ⟨rfl, N181q, Kq181, FP181_0, FP181_1⟩ := hQ181
        have N181 := Fr.app N174 N181q
        have K181 : Keep h0 T181.heap [] := K175.trans Kq181 (allS (Or.inr sz_b175) all0)
        have F182 : ownAI Z T181.heap b171 .int 2 (ownUpd (ownUpd (fun _ => (0 : Int32)) 0 v168) 1 v169) := F176.keep Kq181 (ninS ne_b171_b175 nin0)
        have F183 : Exa Z T181.heap b175 "com/example/sieveline/sieveline/solver/BitMatrix" := A175.keep Kq181
        refine ownRun (T' := T181) (f' := (mkF m 127 #[iv p0, iv p1, iv p2, iv p3, iv p4, iv v1, iv (2 : Int32), iv v168, iv v169, iv v170, rv b171, .unset, .unset, .unset] [(.ref b175)])) st181 ?_
        refine ow_astore (q := 129) X181 hx (L' := #[iv p0, iv p1, iv p2, iv p3, iv p4, iv v1, iv (2 : Int32), iv v168, iv v169, iv v170, rv b171, rv b175, .unset, .unset]) (hb hby at_127) rfl rfl rfl ?_
        refine ow_aload (q := 131) X181 hx (hb hby at_129) rfl rfl rfl ?_
        refine ow_aload (q := 133) X181 hx (hb hby at_131) rfl rfl rfl ?_
        obtain ⟨cq184, kq184, q184a, q184b, q184c⟩ := isOf hZ rfl FP181_0
        obtain ⟨_, _, ⟨T184, L184, k184, n184⟩, -, X184, ⟨Lc184, hQ184, l184, y184, z184⟩, st184⟩ := X181.virtualBack hx (y := (⟨"com/example/sieveline/sieveline/solver/BitMatrix", "row", "([I)[J"⟩ : MethodName)) (z := (⟨"com/example/sieveline/sieveline/solver/BitMatrix", "row", "([I)[J"⟩ : MethodName)) hown (mvT hZ (hw _ (List.mem_of_getElem? (i := 29) rfl))) (mvT hZ (hw _ (List.mem_of_getElem? (i := 30) rfl))) (notFace_of_selects (args := #[]) (mvT hZ (hw _ (List.mem_of_getElem? (i := 32) rfl)))) (mvT hZ (hw _ (List.mem_of_getElem? (i := 32) rfl))) (mvT hZ (hw _ (List.mem_of_getElem? (i := 31) rfl))) (by decide) (backOf (W := 0) (rm_row_2_1 l Z av0 hw [] b175 b171 (ownUpd (ownUpd (fun _ => (0 : Int32)) 0 v168) 1 v169) T181.heap n0 (Nat.le_trans Z0 K181.1) FP181_1 F182 (own_val hv_v168 hv_v1 hz2 hL.2.2) (own_val hv_v169 hv_v1 hz2 hL.2.2)) hZ (hw _ (List.mem_of_getElem? (i := 33) rfl)) (hw _ (List.mem_of_getElem? (i := 3) rfl)) (by decide) (by decide)) q184a q184c (g := (mkF m 133 #[iv p0, iv p1, iv p2, iv p3, iv p4, iv v1, iv (2 : Int32), iv v168, iv v169, iv v170, rv b171, rv b175, .unset, .unset] [(.ref b171), (.ref b175)])) rfl (by rw [hml]; rfl) (Steps.refl _) (argsL := [(.ref b171)]) (rest := []) (lenOf own_pd4 rfl) rfl (by show 2 * 0 + _ ≤ _; exact Nat.le_of_eq rfl) (hb hby at_133) (fun _ _ => ⟨rfl, rfl, (by decide : 3 + 1 ≤ _), (by decide : 7 + 1 ≤ _)⟩)
        dsimp only [Pt.U, Pt.locs, Pt.cells, Pt.slots] at X184 l184 y184 z184 st184 hQ184
        subst l184 y184 z184
        obtain ⟨b184, rfl, N184q, Kq184, sq184_b184, FP184_0⟩ := hQ184
        have N184 := Fr.app N181 N184q
        have K184 : Keep h0 T184.heap [] := K181.trans Kq184 all0
        have ne_b171_b184 : b171 ≠ b184 := Nat.ne_of_lt (Nat.lt_of_lt_of_le F182.lt sq184_b184)
        have ne_b175_b184 : b175 ≠ b184 := Nat.ne_of_lt (Nat.lt_of_lt_of_le FP181_0.lt sq184_b184)
        have sz_b184 : h0.size ≤ b184 := Nat.le_trans K181.1 sq184_b184
        have G_b184 : n0 ≤ b184 := Nat.le_trans Z0 sz_b184
        have F185 : ownAI Z T184.heap b171 .int 2 (ownUpd (ownUpd (fun _ => (0 : Int32)) 0 v168) 1 v169) := F182.keep Kq184 nin0
        have F186 : Exa Z T184.heap b175 "com/example/sieveline/sieveline/solver/BitMatrix" := FP181_0.keep Kq184
        have F187 : Fld Z T184.heap b175 "com/example/sieveline/sieveline/solver/BitMatrix" "rowWords" "I" (.int (1 : Int32)) := FP181_1.keep Kq184 nin0
        refine ownRun (T' := T184) (f' := (mkF m 136 #[iv p0, iv p1, iv p2, iv p3, iv p4, iv v1, iv (2 : Int32), iv v168, iv v169, iv v170, rv b171, rv b175, .unset, .unset] [(.ref b184)])) st184 ?_
        refine ow_astore (q := 138) X184 hx (L' := #[iv p0, iv p1, iv p2, iv p3, iv p4, iv v1, iv (2 : Int32), iv v168, iv v169, iv v170, rv b171, rv b175, rv b184, .unset]) (hb hby at_136) rfl rfl rfl ?_
        refine ow_iload (q := 140) X184 hx (hb hby at_138) rfl rfl ?_
        refine ow_ifYes (q := 147) X184 hx (hb hby at_140) (Jvm.Free.XT.i0_ne_t hz2) (by decide) (by decide) ?_
        refine ow_iload (q := 149) X184 hx (hb hby at_147) rfl rfl ?_
        refine ow_bipush (q := 151) X184 hx (64 : Int32) (hb hby at_149) rfl rfl ?_
        refine ow_icmpNo (q := 154) X184 hx (hb hby at_151) rfl (Jvm.Free.XT.ii_gt_f (by simp only [Int32.lt_iff_toInt_lt, Int32.reduceToInt]; have := hL.2; omega)) ?_
        refine ow_iconst (q := 155) X184 hx (1 : Int32) (hb hby at_154) rfl rfl ?_
        refine ow_goto (q := 183) X184 hx (hb hby at_155) (by decide) (by decide) ?_
        refine ow_istore (q := 185) X184 hx (L' := #[iv p0, iv p1, iv p2, iv p3, iv p4, iv v1, iv (2 : Int32), iv v168, iv v169, iv v170, rv b171, rv b175, rv b184, iv (1 : Int32)]) (hb hby at_183) rfl rfl ?_
        refine ow_aload (q := 187) X184 hx (hb hby at_185) rfl rfl rfl ?_
        refine ownGo (T' := T184) (f' := (mkF m 190 #[iv p0, iv p1, iv p2, iv p3, iv p4, iv v1, iv (2 : Int32), iv v168, iv v169, iv v170, rv b171, rv b175, rv b184, iv (1 : Int32)] [])) (fun _ k => XS.ifnullNo X184.here hx rfl (hb hby at_187) rfl k) ?_
        refine ow_aload (q := 192) X184 hx (hb hby at_190) rfl rfl rfl ?_
        refine ownGo (T' := T184) (f' := (mkF m 193 #[iv p0, iv p1, iv p2, iv p3, iv p4, iv v1, iv (2 : Int32), iv v168, iv v169, iv v170, rv b171, rv b175, rv b184, iv (1 : Int32)] [(.int (1 : Int32))])) (ownLenJ FP184_0 X184 hx hZ rfl (z := (1 : Int32)) (by decide) (g := (mkF m 192 #[iv p0, iv p1, iv p2, iv p3, iv p4, iv v1, iv (2 : Int32), iv v168, iv v169, iv v170, rv b171, rv b175, rv b184, iv (1 : Int32)] [(.ref b184)])) rfl rfl (hb hby at_192)) ?_
        refine ow_iload (q := 195) X184 hx (hb hby at_193) rfl rfl ?_
        refine ow_icmpYes (q := 200) X184 hx (hb hby at_195) (Jvm.Free.XT.ii_eq_t (by decide)) (by decide) (by decide) ?_
        refine ow_iload (q := 202) X184 hx (hb hby at_200) rfl rfl ?_
        refine ow_ifNo (q := 205) X184 hx (hb hby at_202) rfl (Jvm.Free.XT.i0_le_f (by decide)) ?_
        refine ow_aload (q := 207) X184 hx (hb hby at_205) rfl rfl rfl ?_
        refine ow_iconst (q := 208) X184 hx (0 : Int32) (hb hby at_207) rfl rfl ?_
        refine ownGo (T' := T184) (f' := (mkF m 209 #[iv p0, iv p1, iv p2, iv p3, iv p4, iv v1, iv (2 : Int32), iv v168, iv v169, iv v170, rv b171, rv b175, rv b184, iv (1 : Int32)] [(.long ((own_or1 (own_or1 (fun _ => (0 : Int64)) v168) v169) 0))])) (ownLaload FP184_0 X184 hx hZ rfl (j := (0 : Int32)) (by unfold ownIn; decide) (g := (mkF m 208 #[iv p0, iv p1, iv p2, iv p3, iv p4, iv v1, iv (2 : Int32), iv v168, iv v169, iv v170, rv b171, rv b175, rv b184, iv (1 : Int32)] [(.int (0 : Int32)), (.ref b184)])) rfl rfl (hb hby at_208)) ?_
        generalize hv_v188 : ((own_or1 (own_or1 (fun _ => (0 : Int64)) v168) v169) 0) = v188
        refine ow_iconst (q := 210) X184 hx (0 : Int32) (hb hby at_209) rfl rfl ?_
        refine ow_iload (q := 212) X184 hx (hb hby at_210) rfl rfl ?_
        refine ow_iload (q := 214) X184 hx (hb hby at_212) rfl rfl ?_
        refine ow_iload (q := 216) X184 hx (hb hby at_214) rfl rfl ?_
        refine ow_iload (q := 218) X184 hx (hb hby at_216) rfl rfl ?_
        obtain ⟨_, _, ⟨T189, L189, k189, n189⟩, -, X189, ⟨Lc189, hQ189, l189, y189, z189⟩, st189⟩ := Jvm.LawKit.callS X184 hx (y := (⟨"com/example/sieveline/sieveline/solver/BitMatrixRowPinLaw", "expect", "(IIIII)J"⟩ : MethodName)) hown (mvT hZ (hw _ (List.mem_of_getElem? (i := 35) rfl))) (mvT hZ (hw _ (List.mem_of_getElem? (i := 36) rfl))) (mvT hZ (hw _ (List.mem_of_getElem? (i := 37) rfl))) (mvT hZ (hw _ (List.mem_of_getElem? (i := 38) rfl))) (by decide) (backOf (W := 2) (rm_exp_0_2 l Z av0 hw [] v168 v169 v170 T184.heap n0 (Nat.le_trans Z0 K184.1) ) hZ (hw _ (List.mem_of_getElem? (i := 38) rfl)) (hw _ (List.mem_of_getElem? (i := 37) rfl)) (by decide) (by decide)) (g := (mkF m 218 #[iv p0, iv p1, iv p2, iv p3, iv p4, iv v1, iv (2 : Int32), iv v168, iv v169, iv v170, rv b171, rv b175, rv b184, iv (1 : Int32)] [(.int v170), (.int v169), (.int v168), (.int (2 : Int32)), (.int (0 : Int32)), (.long v188)])) rfl (by rw [hml]; rfl) (argsL := [(.int (0 : Int32)), (.int (2 : Int32)), (.int v168), (.int v169), (.int v170)]) (rest := [(.long v188)]) (lenOf own_pd5 rfl) rfl (by show 2 * 0 + _ ≤ _; exact Nat.le_of_eq rfl) (hb hby at_218) (fun _ _ => ⟨rfl, rfl, (by decide : 4 + 0 ≤ _), (by decide : 8 + 0 ≤ _)⟩)
        dsimp only [Pt.U, Pt.locs, Pt.cells, Pt.slots] at X189 l189 y189 z189 st189 hQ189
        subst l189 y189 z189
        obtain ⟨rfl, N189q, e189⟩ := hQ189
        have N189 := Fr.app N184 N189q
        refine ownGo (T' := T189) (f' := (mkF m 221 #[iv p0, iv p1, iv p2, iv p3, iv p4, iv v1, iv (2 : Int32), iv v168, iv v169, iv v170, rv b171, rv b175, rv b184, iv (1 : Int32)] [(.long (((0 : Int64) ||| (own_Bw (0 : Int32) (64 : Int32) v168)) ||| (own_Bw (0 : Int32) (64 : Int32) v169))), (.long v188)])) (st189) ?_
        refine ow_lcmp (q := 222) X189 hx _ (hb hby at_221) rfl rfl ?_
        refine ow_ifYes (q := 227) X189 hx (hb hby at_222) (Jvm.Free.XT.ll_eq_t (by rw [← hv_v188]; exact own_cmp_0_2 (own_lt (own_val hv_v168 hv_v1 hz2 hL.2.2)) (own_lt (own_val hv_v169 hv_v1 hz2 hL.2.2)))) (by decide) (by decide) ?_
        refine ow_iload (q := 229) X189 hx (hb hby at_227) rfl rfl ?_
        refine ow_iconst (q := 230) X189 hx (1 : Int32) (hb hby at_229) rfl rfl ?_
        refine ow_icmpYes (q := 255) X189 hx (hb hby at_230) (Jvm.Free.XT.ii_le_t (by decide)) (by decide) (by decide) ?_
        refine ow_iload (q := 257) X189 hx (hb hby at_255) rfl rfl ?_
        refine ow_iconst (q := 258) X189 hx (2 : Int32) (hb hby at_257) rfl rfl ?_
        refine ow_icmpYes (q := 283) X189 hx (hb hby at_258) (Jvm.Free.XT.ii_le_t (by decide)) (by decide) (by decide) ?_
        refine ow_iload (q := 285) X189 hx (hb hby at_283) rfl rfl ?_
        refine ow_iconst (q := 286) X189 hx (3 : Int32) (hb hby at_285) rfl rfl ?_
        refine ow_icmpYes (q := 311) X189 hx (hb hby at_286) (Jvm.Free.XT.ii_le_t (by decide)) (by decide) (by decide) ?_
        refine ow_iconst (q := 312) X189 hx (1 : Int32) (hb hby at_311) rfl rfl ?_
        refine ownRetN X189 hx (r := (1 : Int32)) (Or.inl rfl) Bd.returns (hb hby at_312) hlk (by decide) (by decide) (by decide) ?_
        exact ⟨rfl, N189⟩
      · obtain ⟨T190, h190, X190, e190, E190, A190, D190, -, st190⟩ := newO X174 hx hZ hown (hw _ (List.mem_of_getElem? (i := 1) rfl)) (hw _ (List.mem_of_getElem? (i := 2) rfl)) (hw _ (List.mem_of_getElem? (i := 3) rfl)) e174 (g := (mkF m 117 #[iv p0, iv p1, iv p2, iv p3, iv p4, iv v1, iv (2 : Int32), iv v168, iv v169, iv v170, rv b171, .unset, .unset, .unset] [])) rfl (hb hby at_117) (by decide) (by decide)
        obtain ⟨b190, g190⟩ : ∃ z, z = h174.size := ⟨_, rfl⟩
        rw [← g190] at A190 D190 st190
        have ne_b171_b190 : b171 ≠ b190 := Nat.ne_of_lt (Nat.lt_of_lt_of_le F174r.lt (Nat.le_of_eq g190.symm))
        have sz_b190 : h0.size ≤ b190 := Nat.le_trans K174.1 (Nat.le_of_eq g190.symm)
        have G_b190 : n0 ≤ b190 := Nat.le_trans Z0 sz_b190
        have K190 : Keep h0 h190 [] := K174.ext E190
        have F191 : ownAI Z h190 b171 .int 2 (ownUpd (ownUpd (fun _ => (0 : Int32)) 0 v168) 1 v169) := F174r.ext E190
        have F192 : Fld Z h190 b190 "com/example/sieveline/sieveline/solver/BitMatrix" "rowWords" "I" (.int (0 : Int32)) := D190 (Or.inr (hw _ (List.mem_of_getElem? (i := 14) rfl))) (ty := .int) (by decide)
        have F193 : Fld Z h190 b190 "com/example/sieveline/sieveline/solver/BitMatrix" "words" "[J" .null := D190 (Or.inr (hw _ (List.mem_of_getElem? (i := 24) rfl))) (ty := (.array .long)) (by decide)
        have F194 : Fld Z h190 b190 "com/example/sieveline/sieveline/solver/BitMatrix" "rows" "I" (.int (0 : Int32)) := D190 (Or.inr (hw _ (List.mem_of_getElem? (i := 26) rfl))) (ty := .int) (by decide)
        have F195 : Fld Z h190 b190 "com/example/sieveline/sieveline/solver/BitMatrix" "columns" "I" (.int (0 : Int32)) := D190 (Or.inr (hw _ (List.mem_of_getElem? (i := 28) rfl))) (ty := .int) (by decide)
        refine ownGo (T' := T190) (f' := (mkF m 120 #[iv p0, iv p1, iv p2, iv p3, iv p4, iv v1, iv (2 : Int32), iv v168, iv v169, iv v170, rv b171, .unset, .unset, .unset] [(.ref b190)])) (st190) ?_
        refine ow_dup (q := 121) X190 hx (hb hby at_120) rfl rfl ?_
        refine ow_iconst (q := 122) X190 hx (1 : Int32) (hb hby at_121) rfl rfl ?_
        refine ow_iload (q := 124) X190 hx (hb hby at_122) rfl rfl ?_
        obtain ⟨_, _, ⟨T196, L196, k196, n196⟩, -, X196, ⟨Lc196, hQ196, l196, y196, z196⟩, st196⟩ := X190.specialBack hx (y := (⟨"com/example/sieveline/sieveline/solver/BitMatrix", "<init>", "(II)V"⟩ : MethodName)) rfl hown (mvT hZ (hw _ (List.mem_of_getElem? (i := 4) rfl))) (mvT hZ (hw _ (List.mem_of_getElem? (i := 5) rfl))) (mvT hZ (hw _ (List.mem_of_getElem? (i := 6) rfl))) (by decide) (backOf (W := 1) (rm_init_2 l Z av0 hw [] b190 v1 h190 n0 (Nat.le_trans Z0 K190.1) A190 F192 F193 F194 F195 G_b190 hL.1) hZ (hw _ (List.mem_of_getElem? (i := 6) rfl)) (hw _ (List.mem_of_getElem? (i := 3) rfl)) (by decide) (by decide)) (g := (mkF m 124 #[iv p0, iv p1, iv p2, iv p3, iv p4, iv v1, iv (2 : Int32), iv v168, iv v169, iv v170, rv b171, .unset, .unset, .unset] [(.int v1), (.int (1 : Int32)), (.ref b190), (.ref b190)])) rfl (by rw [hml]; rfl) (Steps.refl _) (a := b190) (argsL := [(.int (1 : Int32)), (.int v1)]) (rest := [(.ref b190)]) (lenOf own_pd3 rfl) rfl (by show 2 * 0 + _ ≤ _; exact Nat.le_of_eq rfl) (hb hby at_124) (fun _ _ => ⟨rfl, e190, (by decide : 2 + 1 ≤ _), (by decide : 6 + 2 ≤ _)⟩)
        dsimp only [Pt.U, Pt.locs, Pt.cells, Pt.slots] at X196 l196 y196 z196 st196 hQ196
        subst l196 y196 z196
        obtain ⟨rfl, N196q, Kq196, FP196_0, FP196_1⟩ := hQ196
        have N196 := Fr.app N174 N196q
        have K196 : Keep h0 T196.heap [] := K190.trans Kq196 (allS (Or.inr sz_b190) all0)
        have F197 : ownAI Z T196.heap b171 .int 2 (ownUpd (ownUpd (fun _ => (0 : Int32)) 0 v168) 1 v169) := F191.keep Kq196 (ninS ne_b171_b190 nin0)
        have F198 : Exa Z T196.heap b190 "com/example/sieveline/sieveline/solver/BitMatrix" := A190.keep Kq196
        refine ownRun (T' := T196) (f' := (mkF m 127 #[iv p0, iv p1, iv p2, iv p3, iv p4, iv v1, iv (2 : Int32), iv v168, iv v169, iv v170, rv b171, .unset, .unset, .unset] [(.ref b190)])) st196 ?_
        refine ow_astore (q := 129) X196 hx (L' := #[iv p0, iv p1, iv p2, iv p3, iv p4, iv v1, iv (2 : Int32), iv v168, iv v169, iv v170, rv b171, rv b190, .unset, .unset]) (hb hby at_127) rfl rfl rfl ?_
        refine ow_aload (q := 131) X196 hx (hb hby at_129) rfl rfl rfl ?_
        refine ow_aload (q := 133) X196 hx (hb hby at_131) rfl rfl rfl ?_
        obtain ⟨cq199, kq199, q199a, q199b, q199c⟩ := isOf hZ rfl FP196_0
        obtain ⟨_, _, ⟨T199, L199, k199, n199⟩, -, X199, ⟨Lc199, hQ199, l199, y199, z199⟩, st199⟩ := X196.virtualBack hx (y := (⟨"com/example/sieveline/sieveline/solver/BitMatrix", "row", "([I)[J"⟩ : MethodName)) (z := (⟨"com/example/sieveline/sieveline/solver/BitMatrix", "row", "([I)[J"⟩ : MethodName)) hown (mvT hZ (hw _ (List.mem_of_getElem? (i := 29) rfl))) (mvT hZ (hw _ (List.mem_of_getElem? (i := 30) rfl))) (notFace_of_selects (args := #[]) (mvT hZ (hw _ (List.mem_of_getElem? (i := 32) rfl)))) (mvT hZ (hw _ (List.mem_of_getElem? (i := 32) rfl))) (mvT hZ (hw _ (List.mem_of_getElem? (i := 31) rfl))) (by decide) (backOf (W := 0) (rm_row_2_2 l Z av0 hw [] b190 b171 (ownUpd (ownUpd (fun _ => (0 : Int32)) 0 v168) 1 v169) T196.heap n0 (Nat.le_trans Z0 K196.1) FP196_1 F197 (own_val hv_v168 hv_v1 hz2 hL.2.2) (own_val hv_v169 hv_v1 hz2 hL.2.2)) hZ (hw _ (List.mem_of_getElem? (i := 33) rfl)) (hw _ (List.mem_of_getElem? (i := 3) rfl)) (by decide) (by decide)) q199a q199c (g := (mkF m 133 #[iv p0, iv p1, iv p2, iv p3, iv p4, iv v1, iv (2 : Int32), iv v168, iv v169, iv v170, rv b171, rv b190, .unset, .unset] [(.ref b171), (.ref b190)])) rfl (by rw [hml]; rfl) (Steps.refl _) (argsL := [(.ref b171)]) (rest := []) (lenOf own_pd4 rfl) rfl (by show 2 * 0 + _ ≤ _; exact Nat.le_of_eq rfl) (hb hby at_133) (fun _ _ => ⟨rfl, rfl, (by decide : 3 + 1 ≤ _), (by decide : 8 + 2 ≤ _)⟩)
        dsimp only [Pt.U, Pt.locs, Pt.cells, Pt.slots] at X199 l199 y199 z199 st199 hQ199
        subst l199 y199 z199
        obtain ⟨b199, rfl, N199q, Kq199, sq199_b199, FP199_0⟩ := hQ199
        have N199 := Fr.app N196 N199q
        have K199 : Keep h0 T199.heap [] := K196.trans Kq199 all0
        have ne_b171_b199 : b171 ≠ b199 := Nat.ne_of_lt (Nat.lt_of_lt_of_le F197.lt sq199_b199)
        have ne_b190_b199 : b190 ≠ b199 := Nat.ne_of_lt (Nat.lt_of_lt_of_le FP196_0.lt sq199_b199)
        have sz_b199 : h0.size ≤ b199 := Nat.le_trans K196.1 sq199_b199
        have G_b199 : n0 ≤ b199 := Nat.le_trans Z0 sz_b199
        have F200 : ownAI Z T199.heap b171 .int 2 (ownUpd (ownUpd (fun _ => (0 : Int32)) 0 v168) 1 v169) := F197.keep Kq199 nin0
        have F201 : Exa Z T199.heap b190 "com/example/sieveline/sieveline/solver/BitMatrix" := FP196_0.keep Kq199
        have F202 : Fld Z T199.heap b190 "com/example/sieveline/sieveline/solver/BitMatrix" "rowWords" "I" (.int (2 : Int32)) := FP196_1.keep Kq199 nin0
        refine ownRun (T' := T199) (f' := (mkF m 136 #[iv p0, iv p1, iv p2, iv p3, iv p4, iv v1, iv (2 : Int32), iv v168, iv v169, iv v170, rv b171, rv b190, .unset, .unset] [(.ref b199)])) st199 ?_
        refine ow_astore (q := 138) X199 hx (L' := #[iv p0, iv p1, iv p2, iv p3, iv p4, iv v1, iv (2 : Int32), iv v168, iv v169, iv v170, rv b171, rv b190, rv b199, .unset]) (hb hby at_136) rfl rfl rfl ?_
        refine ow_iload (q := 140) X199 hx (hb hby at_138) rfl rfl ?_
        refine ow_ifYes (q := 147) X199 hx (hb hby at_140) (Jvm.Free.XT.i0_ne_t hz2) (by decide) (by decide) ?_
        refine ow_iload (q := 149) X199 hx (hb hby at_147) rfl rfl ?_
        refine ow_bipush (q := 151) X199 hx (64 : Int32) (hb hby at_149) rfl rfl ?_
        refine ow_icmpYes (q := 158) X199 hx (hb hby at_151) (Jvm.Free.XT.ii_gt_t (by simp only [Int32.lt_iff_toInt_lt, Int32.reduceToInt]; have := hL.2; omega)) (by decide) (by decide) ?_
        refine ow_iload (q := 160) X199 hx (hb hby at_158) rfl rfl ?_
        refine ow_sipush (q := 163) X199 hx (128 : Int32) (hb hby at_160) rfl rfl ?_
        refine ow_icmpNo (q := 166) X199 hx (hb hby at_163) rfl (Jvm.Free.XT.ii_gt_f (by simp only [Int32.lt_iff_toInt_lt, Int32.reduceToInt]; have := hL.2; omega)) ?_
        refine ow_iconst (q := 167) X199 hx (2 : Int32) (hb hby at_166) rfl rfl ?_
        refine ow_goto (q := 183) X199 hx (hb hby at_167) (by decide) (by decide) ?_
        refine ow_istore (q := 185) X199 hx (L' := #[iv p0, iv p1, iv p2, iv p3, iv p4, iv v1, iv (2 : Int32), iv v168, iv v169, iv v170, rv b171, rv b190, rv b199, iv (2 : Int32)]) (hb hby at_183) rfl rfl ?_
        refine ow_aload (q := 187) X199 hx (hb hby at_185) rfl rfl rfl ?_
        refine ownGo (T' := T199) (f' := (mkF m 190 #[iv p0, iv p1, iv p2, iv p3, iv p4, iv v1, iv (2 : Int32), iv v168, iv v169, iv v170, rv b171, rv b190, rv b199, iv (2 : Int32)] [])) (fun _ k => XS.ifnullNo X199.here hx rfl (hb hby at_187) rfl k) ?_
        refine ow_aload (q := 192) X199 hx (hb hby at_190) rfl rfl rfl ?_
        refine ownGo (T' := T199) (f' := (mkF m 193 #[iv p0, iv p1, iv p2, iv p3, iv p4, iv v1, iv (2 : Int32), iv v168, iv v169, iv v170, rv b171, rv b190, rv b199, iv (2 : Int32)] [(.int (2 : Int32))])) (ownLenJ FP199_0 X199 hx hZ rfl (z := (2 : Int32)) (by decide) (g := (mkF m 192 #[iv p0, iv p1, iv p2, iv p3, iv p4, iv v1, iv (2 : Int32), iv v168, iv v169, iv v170, rv b171, rv b190, rv b199, iv (2 : Int32)] [(.ref b199)])) rfl rfl (hb hby at_192)) ?_
        refine ow_iload (q := 195) X199 hx (hb hby at_193) rfl rfl ?_
        refine ow_icmpYes (q := 200) X199 hx (hb hby at_195) (Jvm.Free.XT.ii_eq_t (by decide)) (by decide) (by decide) ?_
        refine ow_iload (q := 202) X199 hx (hb hby at_200) rfl rfl ?_
        refine ow_ifNo (q := 205) X199 hx (hb hby at_202) rfl (Jvm.Free.XT.i0_le_f (by decide)) ?_
        refine ow_aload (q := 207) X199 hx (hb hby at_205) rfl rfl rfl ?_
        refine ow_iconst (q := 208) X199 hx (0 : Int32) (hb hby at_207) rfl rfl ?_
        refine ownGo (T' := T199) (f' := (mkF m 209 #[iv p0, iv p1, iv p2, iv p3, iv p4, iv v1, iv (2 : Int32), iv v168, iv v169, iv v170, rv b171, rv b190, rv b199, iv (2 : Int32)] [(.long ((own_or1 (own_or1 (fun _ => (0 : Int64)) v168) v169) 0))])) (ownLaload FP199_0 X199 hx hZ rfl (j := (0 : Int32)) (by unfold ownIn; decide) (g := (mkF m 208 #[iv p0, iv p1, iv p2, iv p3, iv p4, iv v1, iv (2 : Int32), iv v168, iv v169, iv v170, rv b171, rv b190, rv b199, iv (2 : Int32)] [(.int (0 : Int32)), (.ref b199)])) rfl rfl (hb hby at_208)) ?_
        generalize hv_v203 : ((own_or1 (own_or1 (fun _ => (0 : Int64)) v168) v169) 0) = v203
        refine ow_iconst (q := 210) X199 hx (0 : Int32) (hb hby at_209) rfl rfl ?_
        refine ow_iload (q := 212) X199 hx (hb hby at_210) rfl rfl ?_
        refine ow_iload (q := 214) X199 hx (hb hby at_212) rfl rfl ?_
        refine ow_iload (q := 216) X199 hx (hb hby at_214) rfl rfl ?_
        refine ow_iload (q := 218) X199 hx (hb hby at_216) rfl rfl ?_
        obtain ⟨_, _, ⟨T204, L204, k204, n204⟩, -, X204, ⟨Lc204, hQ204, l204, y204, z204⟩, st204⟩ := Jvm.LawKit.callS X199 hx (y := (⟨"com/example/sieveline/sieveline/solver/BitMatrixRowPinLaw", "expect", "(IIIII)J"⟩ : MethodName)) hown (mvT hZ (hw _ (List.mem_of_getElem? (i := 35) rfl))) (mvT hZ (hw _ (List.mem_of_getElem? (i := 36) rfl))) (mvT hZ (hw _ (List.mem_of_getElem? (i := 37) rfl))) (mvT hZ (hw _ (List.mem_of_getElem? (i := 38) rfl))) (by decide) (backOf (W := 2) (rm_exp_0_2 l Z av0 hw [] v168 v169 v170 T199.heap n0 (Nat.le_trans Z0 K199.1) ) hZ (hw _ (List.mem_of_getElem? (i := 38) rfl)) (hw _ (List.mem_of_getElem? (i := 37) rfl)) (by decide) (by decide)) (g := (mkF m 218 #[iv p0, iv p1, iv p2, iv p3, iv p4, iv v1, iv (2 : Int32), iv v168, iv v169, iv v170, rv b171, rv b190, rv b199, iv (2 : Int32)] [(.int v170), (.int v169), (.int v168), (.int (2 : Int32)), (.int (0 : Int32)), (.long v203)])) rfl (by rw [hml]; rfl) (argsL := [(.int (0 : Int32)), (.int (2 : Int32)), (.int v168), (.int v169), (.int v170)]) (rest := [(.long v203)]) (lenOf own_pd5 rfl) rfl (by show 2 * 0 + _ ≤ _; exact Nat.le_of_eq rfl) (hb hby at_218) (fun _ _ => ⟨rfl, rfl, (by decide : 4 + 0 ≤ _), (by decide : 10 + 0 ≤ _)⟩)
        dsimp only [Pt.U, Pt.locs, Pt.cells, Pt.slots] at X204 l204 y204 z204 st204 hQ204
        subst l204 y204 z204
        obtain ⟨rfl, N204q, e204⟩ := hQ204
        have N204 := Fr.app N199 N204q
        refine ownGo (T' := T204) (f' := (mkF m 221 #[iv p0, iv p1, iv p2, iv p3, iv p4, iv v1, iv (2 : Int32), iv v168, iv v169, iv v170, rv b171, rv b190, rv b199, iv (2 : Int32)] [(.long (((0 : Int64) ||| (own_Bw (0 : Int32) (64 : Int32) v168)) ||| (own_Bw (0 : Int32) (64 : Int32) v169))), (.long v203)])) (st204) ?_
        refine ow_lcmp (q := 222) X204 hx _ (hb hby at_221) rfl rfl ?_
        refine ow_ifYes (q := 227) X204 hx (hb hby at_222) (Jvm.Free.XT.ll_eq_t (by rw [← hv_v203]; exact own_cmp_0_2 (own_lt (own_val hv_v168 hv_v1 hz2 hL.2.2)) (own_lt (own_val hv_v169 hv_v1 hz2 hL.2.2)))) (by decide) (by decide) ?_
        refine ow_iload (q := 229) X204 hx (hb hby at_227) rfl rfl ?_
        refine ow_iconst (q := 230) X204 hx (1 : Int32) (hb hby at_229) rfl rfl ?_
        refine ow_icmpNo (q := 233) X204 hx (hb hby at_230) rfl (Jvm.Free.XT.ii_le_f (by decide)) ?_
        refine ow_aload (q := 235) X204 hx (hb hby at_233) rfl rfl rfl ?_
        refine ow_iconst (q := 236) X204 hx (1 : Int32) (hb hby at_235) rfl rfl ?_
        refine ownGo (T' := T204) (f' := (mkF m 237 #[iv p0, iv p1, iv p2, iv p3, iv p4, iv v1, iv (2 : Int32), iv v168, iv v169, iv v170, rv b171, rv b190, rv b199, iv (2 : Int32)] [(.long ((own_or1 (own_or1 (fun _ => (0 : Int64)) v168) v169) 1))])) (ownLaload FP199_0 X204 hx hZ e204 (j := (1 : Int32)) (by unfold ownIn; decide) (g := (mkF m 236 #[iv p0, iv p1, iv p2, iv p3, iv p4, iv v1, iv (2 : Int32), iv v168, iv v169, iv v170, rv b171, rv b190, rv b199, iv (2 : Int32)] [(.int (1 : Int32)), (.ref b199)])) rfl rfl (hb hby at_236)) ?_
        generalize hv_v205 : ((own_or1 (own_or1 (fun _ => (0 : Int64)) v168) v169) 1) = v205
        refine ow_iconst (q := 238) X204 hx (1 : Int32) (hb hby at_237) rfl rfl ?_
        refine ow_iload (q := 240) X204 hx (hb hby at_238) rfl rfl ?_
        refine ow_iload (q := 242) X204 hx (hb hby at_240) rfl rfl ?_
        refine ow_iload (q := 244) X204 hx (hb hby at_242) rfl rfl ?_
        refine ow_iload (q := 246) X204 hx (hb hby at_244) rfl rfl ?_
        obtain ⟨_, _, ⟨T206, L206, k206, n206⟩, -, X206, ⟨Lc206, hQ206, l206, y206, z206⟩, st206⟩ := Jvm.LawKit.callS X204 hx (y := (⟨"com/example/sieveline/sieveline/solver/BitMatrixRowPinLaw", "expect", "(IIIII)J"⟩ : MethodName)) hown (mvT hZ (hw _ (List.mem_of_getElem? (i := 35) rfl))) (mvT hZ (hw _ (List.mem_of_getElem? (i := 36) rfl))) (mvT hZ (hw _ (List.mem_of_getElem? (i := 37) rfl))) (mvT hZ (hw _ (List.mem_of_getElem? (i := 38) rfl))) (by decide) (backOf (W := 2) (rm_exp_1_2 l Z av0 hw [] v168 v169 v170 T199.heap n0 (Nat.le_trans Z0 K199.1) ) hZ (hw _ (List.mem_of_getElem? (i := 38) rfl)) (hw _ (List.mem_of_getElem? (i := 37) rfl)) (by decide) (by decide)) (g := (mkF m 246 #[iv p0, iv p1, iv p2, iv p3, iv p4, iv v1, iv (2 : Int32), iv v168, iv v169, iv v170, rv b171, rv b190, rv b199, iv (2 : Int32)] [(.int v170), (.int v169), (.int v168), (.int (2 : Int32)), (.int (1 : Int32)), (.long v205)])) rfl (by rw [hml]; rfl) (argsL := [(.int (1 : Int32)), (.int (2 : Int32)), (.int v168), (.int v169), (.int v170)]) (rest := [(.long v205)]) (lenOf own_pd5 rfl) rfl (by show 2 * 0 + _ ≤ _; exact Nat.le_of_eq rfl) (hb hby at_246) (fun _ _ => ⟨rfl, e204, (by decide : 4 + 0 ≤ _), (by decide : 10 + 0 ≤ _)⟩)
        dsimp only [Pt.U, Pt.locs, Pt.cells, Pt.slots] at X206 l206 y206 z206 st206 hQ206
        subst l206 y206 z206
        obtain ⟨rfl, N206q, e206⟩ := hQ206
        have N206 := Fr.app N204 N206q
        refine ownGo (T' := T206) (f' := (mkF m 249 #[iv p0, iv p1, iv p2, iv p3, iv p4, iv v1, iv (2 : Int32), iv v168, iv v169, iv v170, rv b171, rv b190, rv b199, iv (2 : Int32)] [(.long (((0 : Int64) ||| (own_Bw (64 : Int32) (128 : Int32) v168)) ||| (own_Bw (64 : Int32) (128 : Int32) v169))), (.long v205)])) (st206) ?_
        refine ow_lcmp (q := 250) X206 hx _ (hb hby at_249) rfl rfl ?_
        refine ow_ifYes (q := 255) X206 hx (hb hby at_250) (Jvm.Free.XT.ll_eq_t (by rw [← hv_v205]; exact own_cmp_1_2 (own_lt (own_val hv_v168 hv_v1 hz2 hL.2.2)) (own_lt (own_val hv_v169 hv_v1 hz2 hL.2.2)))) (by decide) (by decide) ?_
        refine ow_iload (q := 257) X206 hx (hb hby at_255) rfl rfl ?_
        refine ow_iconst (q := 258) X206 hx (2 : Int32) (hb hby at_257) rfl rfl ?_
        refine ow_icmpYes (q := 283) X206 hx (hb hby at_258) (Jvm.Free.XT.ii_le_t (by decide)) (by decide) (by decide) ?_
        refine ow_iload (q := 285) X206 hx (hb hby at_283) rfl rfl ?_
        refine ow_iconst (q := 286) X206 hx (3 : Int32) (hb hby at_285) rfl rfl ?_
        refine ow_icmpYes (q := 311) X206 hx (hb hby at_286) (Jvm.Free.XT.ii_le_t (by decide)) (by decide) (by decide) ?_
        refine ow_iconst (q := 312) X206 hx (1 : Int32) (hb hby at_311) rfl rfl ?_
        refine ownRetN X206 hx (r := (1 : Int32)) (Or.inl rfl) Bd.returns (hb hby at_312) hlk (by decide) (by decide) (by decide) ?_
        exact ⟨rfl, N206⟩
      · obtain ⟨T207, h207, X207, e207, E207, A207, D207, -, st207⟩ := newO X174 hx hZ hown (hw _ (List.mem_of_getElem? (i := 1) rfl)) (hw _ (List.mem_of_getElem? (i := 2) rfl)) (hw _ (List.mem_of_getElem? (i := 3) rfl)) e174 (g := (mkF m 117 #[iv p0, iv p1, iv p2, iv p3, iv p4, iv v1, iv (2 : Int32), iv v168, iv v169, iv v170, rv b171, .unset, .unset, .unset] [])) rfl (hb hby at_117) (by decide) (by decide)
        obtain ⟨b207, g207⟩ : ∃ z, z = h174.size := ⟨_, rfl⟩
        rw [← g207] at A207 D207 st207
        have ne_b171_b207 : b171 ≠ b207 := Nat.ne_of_lt (Nat.lt_of_lt_of_le F174r.lt (Nat.le_of_eq g207.symm))
        have sz_b207 : h0.size ≤ b207 := Nat.le_trans K174.1 (Nat.le_of_eq g207.symm)
        have G_b207 : n0 ≤ b207 := Nat.le_trans Z0 sz_b207
        have K207 : Keep h0 h207 [] := K174.ext E207
        have F208 : ownAI Z h207 b171 .int 2 (ownUpd (ownUpd (fun _ => (0 : Int32)) 0 v168) 1 v169) := F174r.ext E207
        have F209 : Fld Z h207 b207 "com/example/sieveline/sieveline/solver/BitMatrix" "rowWords" "I" (.int (0 : Int32)) := D207 (Or.inr (hw _ (List.mem_of_getElem? (i := 14) rfl))) (ty := .int) (by decide)
        have F210 : Fld Z h207 b207 "com/example/sieveline/sieveline/solver/BitMatrix" "words" "[J" .null := D207 (Or.inr (hw _ (List.mem_of_getElem? (i := 24) rfl))) (ty := (.array .long)) (by decide)
        have F211 : Fld Z h207 b207 "com/example/sieveline/sieveline/solver/BitMatrix" "rows" "I" (.int (0 : Int32)) := D207 (Or.inr (hw _ (List.mem_of_getElem? (i := 26) rfl))) (ty := .int) (by decide)
        have F212 : Fld Z h207 b207 "com/example/sieveline/sieveline/solver/BitMatrix" "columns" "I" (.int (0 : Int32)) := D207 (Or.inr (hw _ (List.mem_of_getElem? (i := 28) rfl))) (ty := .int) (by decide)
        refine ownGo (T' := T207) (f' := (mkF m 120 #[iv p0, iv p1, iv p2, iv p3, iv p4, iv v1, iv (2 : Int32), iv v168, iv v169, iv v170, rv b171, .unset, .unset, .unset] [(.ref b207)])) (st207) ?_
        refine ow_dup (q := 121) X207 hx (hb hby at_120) rfl rfl ?_
        refine ow_iconst (q := 122) X207 hx (1 : Int32) (hb hby at_121) rfl rfl ?_
        refine ow_iload (q := 124) X207 hx (hb hby at_122) rfl rfl ?_
        obtain ⟨_, _, ⟨T213, L213, k213, n213⟩, -, X213, ⟨Lc213, hQ213, l213, y213, z213⟩, st213⟩ := X207.specialBack hx (y := (⟨"com/example/sieveline/sieveline/solver/BitMatrix", "<init>", "(II)V"⟩ : MethodName)) rfl hown (mvT hZ (hw _ (List.mem_of_getElem? (i := 4) rfl))) (mvT hZ (hw _ (List.mem_of_getElem? (i := 5) rfl))) (mvT hZ (hw _ (List.mem_of_getElem? (i := 6) rfl))) (by decide) (backOf (W := 1) (rm_init_3 l Z av0 hw [] b207 v1 h207 n0 (Nat.le_trans Z0 K207.1) A207 F209 F210 F211 F212 G_b207 hL.1) hZ (hw _ (List.mem_of_getElem? (i := 6) rfl)) (hw _ (List.mem_of_getElem? (i := 3) rfl)) (by decide) (by decide)) (g := (mkF m 124 #[iv p0, iv p1, iv p2, iv p3, iv p4, iv v1, iv (2 : Int32), iv v168, iv v169, iv v170, rv b171, .unset, .unset, .unset] [(.int v1), (.int (1 : Int32)), (.ref b207), (.ref b207)])) rfl (by rw [hml]; rfl) (Steps.refl _) (a := b207) (argsL := [(.int (1 : Int32)), (.int v1)]) (rest := [(.ref b207)]) (lenOf own_pd3 rfl) rfl (by show 2 * 0 + _ ≤ _; exact Nat.le_of_eq rfl) (hb hby at_124) (fun _ _ => ⟨rfl, e207, (by decide : 2 + 1 ≤ _), (by decide : 6 + 3 ≤ _)⟩)
        dsimp only [Pt.U, Pt.locs, Pt.cells, Pt.slots] at X213 l213 y213 z213 st213 hQ213
        subst l213 y213 z213
        obtain ⟨rfl, N213q, Kq213, FP213_0, FP213_1⟩ := hQ213
        have N213 := Fr.app N174 N213q
        have K213 : Keep h0 T213.heap [] := K207.trans Kq213 (allS (Or.inr sz_b207) all0)
        have F214 : ownAI Z T213.heap b171 .int 2 (ownUpd (ownUpd (fun _ => (0 : Int32)) 0 v168) 1 v169) := F208.keep Kq213 (ninS ne_b171_b207 nin0)
        have F215 : Exa Z T213.heap b207 "com/example/sieveline/sieveline/solver/BitMatrix" := A207.keep Kq213
        refine ownRun (T' := T213) (f' := (mkF m 127 #[iv p0, iv p1, iv p2, iv p3, iv p4, iv v1, iv (2 : Int32), iv v168, iv v169, iv v170, rv b171, .unset, .unset, .unset] [(.ref b207)])) st213 ?_
        refine ow_astore (q := 129) X213 hx (L' := #[iv p0, iv p1, iv p2, iv p3, iv p4, iv v1, iv (2 : Int32), iv v168, iv v169, iv v170, rv b171, rv b207, .unset, .unset]) (hb hby at_127) rfl rfl rfl ?_
        refine ow_aload (q := 131) X213 hx (hb hby at_129) rfl rfl rfl ?_
        refine ow_aload (q := 133) X213 hx (hb hby at_131) rfl rfl rfl ?_
        obtain ⟨cq216, kq216, q216a, q216b, q216c⟩ := isOf hZ rfl FP213_0
        obtain ⟨_, _, ⟨T216, L216, k216, n216⟩, -, X216, ⟨Lc216, hQ216, l216, y216, z216⟩, st216⟩ := X213.virtualBack hx (y := (⟨"com/example/sieveline/sieveline/solver/BitMatrix", "row", "([I)[J"⟩ : MethodName)) (z := (⟨"com/example/sieveline/sieveline/solver/BitMatrix", "row", "([I)[J"⟩ : MethodName)) hown (mvT hZ (hw _ (List.mem_of_getElem? (i := 29) rfl))) (mvT hZ (hw _ (List.mem_of_getElem? (i := 30) rfl))) (notFace_of_selects (args := #[]) (mvT hZ (hw _ (List.mem_of_getElem? (i := 32) rfl)))) (mvT hZ (hw _ (List.mem_of_getElem? (i := 32) rfl))) (mvT hZ (hw _ (List.mem_of_getElem? (i := 31) rfl))) (by decide) (backOf (W := 0) (rm_row_2_3 l Z av0 hw [] b207 b171 (ownUpd (ownUpd (fun _ => (0 : Int32)) 0 v168) 1 v169) T213.heap n0 (Nat.le_trans Z0 K213.1) FP213_1 F214 (own_val hv_v168 hv_v1 hz2 hL.2.2) (own_val hv_v169 hv_v1 hz2 hL.2.2)) hZ (hw _ (List.mem_of_getElem? (i := 33) rfl)) (hw _ (List.mem_of_getElem? (i := 3) rfl)) (by decide) (by decide)) q216a q216c (g := (mkF m 133 #[iv p0, iv p1, iv p2, iv p3, iv p4, iv v1, iv (2 : Int32), iv v168, iv v169, iv v170, rv b171, rv b207, .unset, .unset] [(.ref b171), (.ref b207)])) rfl (by rw [hml]; rfl) (Steps.refl _) (argsL := [(.ref b171)]) (rest := []) (lenOf own_pd4 rfl) rfl (by show 2 * 0 + _ ≤ _; exact Nat.le_of_eq rfl) (hb hby at_133) (fun _ _ => ⟨rfl, rfl, (by decide : 3 + 1 ≤ _), (by decide : 9 + 3 ≤ _)⟩)
        dsimp only [Pt.U, Pt.locs, Pt.cells, Pt.slots] at X216 l216 y216 z216 st216 hQ216
        subst l216 y216 z216
        obtain ⟨b216, rfl, N216q, Kq216, sq216_b216, FP216_0⟩ := hQ216
        have N216 := Fr.app N213 N216q
        have K216 : Keep h0 T216.heap [] := K213.trans Kq216 all0
        have ne_b171_b216 : b171 ≠ b216 := Nat.ne_of_lt (Nat.lt_of_lt_of_le F214.lt sq216_b216)
        have ne_b207_b216 : b207 ≠ b216 := Nat.ne_of_lt (Nat.lt_of_lt_of_le FP213_0.lt sq216_b216)
        have sz_b216 : h0.size ≤ b216 := Nat.le_trans K213.1 sq216_b216
        have G_b216 : n0 ≤ b216 := Nat.le_trans Z0 sz_b216
        have F217 : ownAI Z T216.heap b171 .int 2 (ownUpd (ownUpd (fun _ => (0 : Int32)) 0 v168) 1 v169) := F214.keep Kq216 nin0
        have F218 : Exa Z T216.heap b207 "com/example/sieveline/sieveline/solver/BitMatrix" := FP213_0.keep Kq216
        have F219 : Fld Z T216.heap b207 "com/example/sieveline/sieveline/solver/BitMatrix" "rowWords" "I" (.int (3 : Int32)) := FP213_1.keep Kq216 nin0
        refine ownRun (T' := T216) (f' := (mkF m 136 #[iv p0, iv p1, iv p2, iv p3, iv p4, iv v1, iv (2 : Int32), iv v168, iv v169, iv v170, rv b171, rv b207, .unset, .unset] [(.ref b216)])) st216 ?_
        refine ow_astore (q := 138) X216 hx (L' := #[iv p0, iv p1, iv p2, iv p3, iv p4, iv v1, iv (2 : Int32), iv v168, iv v169, iv v170, rv b171, rv b207, rv b216, .unset]) (hb hby at_136) rfl rfl rfl ?_
        refine ow_iload (q := 140) X216 hx (hb hby at_138) rfl rfl ?_
        refine ow_ifYes (q := 147) X216 hx (hb hby at_140) (Jvm.Free.XT.i0_ne_t hz2) (by decide) (by decide) ?_
        refine ow_iload (q := 149) X216 hx (hb hby at_147) rfl rfl ?_
        refine ow_bipush (q := 151) X216 hx (64 : Int32) (hb hby at_149) rfl rfl ?_
        refine ow_icmpYes (q := 158) X216 hx (hb hby at_151) (Jvm.Free.XT.ii_gt_t (by simp only [Int32.lt_iff_toInt_lt, Int32.reduceToInt]; have := hL.2; omega)) (by decide) (by decide) ?_
        refine ow_iload (q := 160) X216 hx (hb hby at_158) rfl rfl ?_
        refine ow_sipush (q := 163) X216 hx (128 : Int32) (hb hby at_160) rfl rfl ?_
        refine ow_icmpYes (q := 170) X216 hx (hb hby at_163) (Jvm.Free.XT.ii_gt_t (by simp only [Int32.lt_iff_toInt_lt, Int32.reduceToInt]; have := hL.2; omega)) (by decide) (by decide) ?_
        refine ow_iload (q := 172) X216 hx (hb hby at_170) rfl rfl ?_
        refine ow_sipush (q := 175) X216 hx (192 : Int32) (hb hby at_172) rfl rfl ?_
        refine ow_icmpNo (q := 178) X216 hx (hb hby at_175) rfl (Jvm.Free.XT.ii_gt_f (by simp only [Int32.lt_iff_toInt_lt, Int32.reduceToInt]; have := hL.2; omega)) ?_
        refine ow_iconst (q := 179) X216 hx (3 : Int32) (hb hby at_178) rfl rfl ?_
        refine ow_goto (q := 183) X216 hx (hb hby at_179) (by decide) (by decide) ?_
        refine ow_istore (q := 185) X216 hx (L' := #[iv p0, iv p1, iv p2, iv p3, iv p4, iv v1, iv (2 : Int32), iv v168, iv v169, iv v170, rv b171, rv b207, rv b216, iv (3 : Int32)]) (hb hby at_183) rfl rfl ?_
        refine ow_aload (q := 187) X216 hx (hb hby at_185) rfl rfl rfl ?_
        refine ownGo (T' := T216) (f' := (mkF m 190 #[iv p0, iv p1, iv p2, iv p3, iv p4, iv v1, iv (2 : Int32), iv v168, iv v169, iv v170, rv b171, rv b207, rv b216, iv (3 : Int32)] [])) (fun _ k => XS.ifnullNo X216.here hx rfl (hb hby at_187) rfl k) ?_
        refine ow_aload (q := 192) X216 hx (hb hby at_190) rfl rfl rfl ?_
        refine ownGo (T' := T216) (f' := (mkF m 193 #[iv p0, iv p1, iv p2, iv p3, iv p4, iv v1, iv (2 : Int32), iv v168, iv v169, iv v170, rv b171, rv b207, rv b216, iv (3 : Int32)] [(.int (3 : Int32))])) (ownLenJ FP216_0 X216 hx hZ rfl (z := (3 : Int32)) (by decide) (g := (mkF m 192 #[iv p0, iv p1, iv p2, iv p3, iv p4, iv v1, iv (2 : Int32), iv v168, iv v169, iv v170, rv b171, rv b207, rv b216, iv (3 : Int32)] [(.ref b216)])) rfl rfl (hb hby at_192)) ?_
        refine ow_iload (q := 195) X216 hx (hb hby at_193) rfl rfl ?_
        refine ow_icmpYes (q := 200) X216 hx (hb hby at_195) (Jvm.Free.XT.ii_eq_t (by decide)) (by decide) (by decide) ?_
        refine ow_iload (q := 202) X216 hx (hb hby at_200) rfl rfl ?_
        refine ow_ifNo (q := 205) X216 hx (hb hby at_202) rfl (Jvm.Free.XT.i0_le_f (by decide)) ?_
        refine ow_aload (q := 207) X216 hx (hb hby at_205) rfl rfl rfl ?_
        refine ow_iconst (q := 208) X216 hx (0 : Int32) (hb hby at_207) rfl rfl ?_
        refine ownGo (T' := T216) (f' := (mkF m 209 #[iv p0, iv p1, iv p2, iv p3, iv p4, iv v1, iv (2 : Int32), iv v168, iv v169, iv v170, rv b171, rv b207, rv b216, iv (3 : Int32)] [(.long ((own_or1 (own_or1 (fun _ => (0 : Int64)) v168) v169) 0))])) (ownLaload FP216_0 X216 hx hZ rfl (j := (0 : Int32)) (by unfold ownIn; decide) (g := (mkF m 208 #[iv p0, iv p1, iv p2, iv p3, iv p4, iv v1, iv (2 : Int32), iv v168, iv v169, iv v170, rv b171, rv b207, rv b216, iv (3 : Int32)] [(.int (0 : Int32)), (.ref b216)])) rfl rfl (hb hby at_208)) ?_
        generalize hv_v220 : ((own_or1 (own_or1 (fun _ => (0 : Int64)) v168) v169) 0) = v220
        refine ow_iconst (q := 210) X216 hx (0 : Int32) (hb hby at_209) rfl rfl ?_
        refine ow_iload (q := 212) X216 hx (hb hby at_210) rfl rfl ?_
        refine ow_iload (q := 214) X216 hx (hb hby at_212) rfl rfl ?_
        refine ow_iload (q := 216) X216 hx (hb hby at_214) rfl rfl ?_
        refine ow_iload (q := 218) X216 hx (hb hby at_216) rfl rfl ?_
        obtain ⟨_, _, ⟨T221, L221, k221, n221⟩, -, X221, ⟨Lc221, hQ221, l221, y221, z221⟩, st221⟩ := Jvm.LawKit.callS X216 hx (y := (⟨"com/example/sieveline/sieveline/solver/BitMatrixRowPinLaw", "expect", "(IIIII)J"⟩ : MethodName)) hown (mvT hZ (hw _ (List.mem_of_getElem? (i := 35) rfl))) (mvT hZ (hw _ (List.mem_of_getElem? (i := 36) rfl))) (mvT hZ (hw _ (List.mem_of_getElem? (i := 37) rfl))) (mvT hZ (hw _ (List.mem_of_getElem? (i := 38) rfl))) (by decide) (backOf (W := 2) (rm_exp_0_2 l Z av0 hw [] v168 v169 v170 T216.heap n0 (Nat.le_trans Z0 K216.1) ) hZ (hw _ (List.mem_of_getElem? (i := 38) rfl)) (hw _ (List.mem_of_getElem? (i := 37) rfl)) (by decide) (by decide)) (g := (mkF m 218 #[iv p0, iv p1, iv p2, iv p3, iv p4, iv v1, iv (2 : Int32), iv v168, iv v169, iv v170, rv b171, rv b207, rv b216, iv (3 : Int32)] [(.int v170), (.int v169), (.int v168), (.int (2 : Int32)), (.int (0 : Int32)), (.long v220)])) rfl (by rw [hml]; rfl) (argsL := [(.int (0 : Int32)), (.int (2 : Int32)), (.int v168), (.int v169), (.int v170)]) (rest := [(.long v220)]) (lenOf own_pd5 rfl) rfl (by show 2 * 0 + _ ≤ _; exact Nat.le_of_eq rfl) (hb hby at_218) (fun _ _ => ⟨rfl, rfl, (by decide : 4 + 0 ≤ _), (by decide : 12 + 0 ≤ _)⟩)
        dsimp only [Pt.U, Pt.locs, Pt.cells, Pt.slots] at X221 l221 y221 z221 st221 hQ221
        subst l221 y221 z221
        obtain ⟨rfl, N221q, e221⟩ := hQ221
        have N221 := Fr.app N216 N221q
        refine ownGo (T' := T221) (f' := (mkF m 221 #[iv p0, iv p1, iv p2, iv p3, iv p4, iv v1, iv (2 : Int32), iv v168, iv v169, iv v170, rv b171, rv b207, rv b216, iv (3 : Int32)] [(.long (((0 : Int64) ||| (own_Bw (0 : Int32) (64 : Int32) v168)) ||| (own_Bw (0 : Int32) (64 : Int32) v169))), (.long v220)])) (st221) ?_
        refine ow_lcmp (q := 222) X221 hx _ (hb hby at_221) rfl rfl ?_
        refine ow_ifYes (q := 227) X221 hx (hb hby at_222) (Jvm.Free.XT.ll_eq_t (by rw [← hv_v220]; exact own_cmp_0_2 (own_lt (own_val hv_v168 hv_v1 hz2 hL.2.2)) (own_lt (own_val hv_v169 hv_v1 hz2 hL.2.2)))) (by decide) (by decide) ?_
        refine ow_iload (q := 229) X221 hx (hb hby at_227) rfl rfl ?_
        refine ow_iconst (q := 230) X221 hx (1 : Int32) (hb hby at_229) rfl rfl ?_
        refine ow_icmpNo (q := 233) X221 hx (hb hby at_230) rfl (Jvm.Free.XT.ii_le_f (by decide)) ?_
        refine ow_aload (q := 235) X221 hx (hb hby at_233) rfl rfl rfl ?_
        refine ow_iconst (q := 236) X221 hx (1 : Int32) (hb hby at_235) rfl rfl ?_
        refine ownGo (T' := T221) (f' := (mkF m 237 #[iv p0, iv p1, iv p2, iv p3, iv p4, iv v1, iv (2 : Int32), iv v168, iv v169, iv v170, rv b171, rv b207, rv b216, iv (3 : Int32)] [(.long ((own_or1 (own_or1 (fun _ => (0 : Int64)) v168) v169) 1))])) (ownLaload FP216_0 X221 hx hZ e221 (j := (1 : Int32)) (by unfold ownIn; decide) (g := (mkF m 236 #[iv p0, iv p1, iv p2, iv p3, iv p4, iv v1, iv (2 : Int32), iv v168, iv v169, iv v170, rv b171, rv b207, rv b216, iv (3 : Int32)] [(.int (1 : Int32)), (.ref b216)])) rfl rfl (hb hby at_236)) ?_
        generalize hv_v222 : ((own_or1 (own_or1 (fun _ => (0 : Int64)) v168) v169) 1) = v222
        refine ow_iconst (q := 238) X221 hx (1 : Int32) (hb hby at_237) rfl rfl ?_
        refine ow_iload (q := 240) X221 hx (hb hby at_238) rfl rfl ?_
        refine ow_iload (q := 242) X221 hx (hb hby at_240) rfl rfl ?_
        refine ow_iload (q := 244) X221 hx (hb hby at_242) rfl rfl ?_
        refine ow_iload (q := 246) X221 hx (hb hby at_244) rfl rfl ?_
        obtain ⟨_, _, ⟨T223, L223, k223, n223⟩, -, X223, ⟨Lc223, hQ223, l223, y223, z223⟩, st223⟩ := Jvm.LawKit.callS X221 hx (y := (⟨"com/example/sieveline/sieveline/solver/BitMatrixRowPinLaw", "expect", "(IIIII)J"⟩ : MethodName)) hown (mvT hZ (hw _ (List.mem_of_getElem? (i := 35) rfl))) (mvT hZ (hw _ (List.mem_of_getElem? (i := 36) rfl))) (mvT hZ (hw _ (List.mem_of_getElem? (i := 37) rfl))) (mvT hZ (hw _ (List.mem_of_getElem? (i := 38) rfl))) (by decide) (backOf (W := 2) (rm_exp_1_2 l Z av0 hw [] v168 v169 v170 T216.heap n0 (Nat.le_trans Z0 K216.1) ) hZ (hw _ (List.mem_of_getElem? (i := 38) rfl)) (hw _ (List.mem_of_getElem? (i := 37) rfl)) (by decide) (by decide)) (g := (mkF m 246 #[iv p0, iv p1, iv p2, iv p3, iv p4, iv v1, iv (2 : Int32), iv v168, iv v169, iv v170, rv b171, rv b207, rv b216, iv (3 : Int32)] [(.int v170), (.int v169), (.int v168), (.int (2 : Int32)), (.int (1 : Int32)), (.long v222)])) rfl (by rw [hml]; rfl) (argsL := [(.int (1 : Int32)), (.int (2 : Int32)), (.int v168), (.int v169), (.int v170)]) (rest := [(.long v222)]) (lenOf own_pd5 rfl) rfl (by show 2 * 0 + _ ≤ _; exact Nat.le_of_eq rfl) (hb hby at_246) (fun _ _ => ⟨rfl, e221, (by decide : 4 + 0 ≤ _), (by decide : 12 + 0 ≤ _)⟩)
        dsimp only [Pt.U, Pt.locs, Pt.cells, Pt.slots] at X223 l223 y223 z223 st223 hQ223
        subst l223 y223 z223
        obtain ⟨rfl, N223q, e223⟩ := hQ223
        have N223 := Fr.app N221 N223q
        refine ownGo (T' := T223) (f' := (mkF m 249 #[iv p0, iv p1, iv p2, iv p3, iv p4, iv v1, iv (2 : Int32), iv v168, iv v169, iv v170, rv b171, rv b207, rv b216, iv (3 : Int32)] [(.long (((0 : Int64) ||| (own_Bw (64 : Int32) (128 : Int32) v168)) ||| (own_Bw (64 : Int32) (128 : Int32) v169))), (.long v222)])) (st223) ?_
        refine ow_lcmp (q := 250) X223 hx _ (hb hby at_249) rfl rfl ?_
        refine ow_ifYes (q := 255) X223 hx (hb hby at_250) (Jvm.Free.XT.ll_eq_t (by rw [← hv_v222]; exact own_cmp_1_2 (own_lt (own_val hv_v168 hv_v1 hz2 hL.2.2)) (own_lt (own_val hv_v169 hv_v1 hz2 hL.2.2)))) (by decide) (by decide) ?_
        refine ow_iload (q := 257) X223 hx (hb hby at_255) rfl rfl ?_
        refine ow_iconst (q := 258) X223 hx (2 : Int32) (hb hby at_257) rfl rfl ?_
        refine ow_icmpNo (q := 261) X223 hx (hb hby at_258) rfl (Jvm.Free.XT.ii_le_f (by decide)) ?_
        refine ow_aload (q := 263) X223 hx (hb hby at_261) rfl rfl rfl ?_
        refine ow_iconst (q := 264) X223 hx (2 : Int32) (hb hby at_263) rfl rfl ?_
        refine ownGo (T' := T223) (f' := (mkF m 265 #[iv p0, iv p1, iv p2, iv p3, iv p4, iv v1, iv (2 : Int32), iv v168, iv v169, iv v170, rv b171, rv b207, rv b216, iv (3 : Int32)] [(.long ((own_or1 (own_or1 (fun _ => (0 : Int64)) v168) v169) 2))])) (ownLaload FP216_0 X223 hx hZ e223 (j := (2 : Int32)) (by unfold ownIn; decide) (g := (mkF m 264 #[iv p0, iv p1, iv p2, iv p3, iv p4, iv v1, iv (2 : Int32), iv v168, iv v169, iv v170, rv b171, rv b207, rv b216, iv (3 : Int32)] [(.int (2 : Int32)), (.ref b216)])) rfl rfl (hb hby at_264)) ?_
        generalize hv_v224 : ((own_or1 (own_or1 (fun _ => (0 : Int64)) v168) v169) 2) = v224
        refine ow_iconst (q := 266) X223 hx (2 : Int32) (hb hby at_265) rfl rfl ?_
        refine ow_iload (q := 268) X223 hx (hb hby at_266) rfl rfl ?_
        refine ow_iload (q := 270) X223 hx (hb hby at_268) rfl rfl ?_
        refine ow_iload (q := 272) X223 hx (hb hby at_270) rfl rfl ?_
        refine ow_iload (q := 274) X223 hx (hb hby at_272) rfl rfl ?_
        obtain ⟨_, _, ⟨T225, L225, k225, n225⟩, -, X225, ⟨Lc225, hQ225, l225, y225, z225⟩, st225⟩ := Jvm.LawKit.callS X223 hx (y := (⟨"com/example/sieveline/sieveline/solver/BitMatrixRowPinLaw", "expect", "(IIIII)J"⟩ : MethodName)) hown (mvT hZ (hw _ (List.mem_of_getElem? (i := 35) rfl))) (mvT hZ (hw _ (List.mem_of_getElem? (i := 36) rfl))) (mvT hZ (hw _ (List.mem_of_getElem? (i := 37) rfl))) (mvT hZ (hw _ (List.mem_of_getElem? (i := 38) rfl))) (by decide) (backOf (W := 2) (rm_exp_2_2 l Z av0 hw [] v168 v169 v170 T216.heap n0 (Nat.le_trans Z0 K216.1) ) hZ (hw _ (List.mem_of_getElem? (i := 38) rfl)) (hw _ (List.mem_of_getElem? (i := 37) rfl)) (by decide) (by decide)) (g := (mkF m 274 #[iv p0, iv p1, iv p2, iv p3, iv p4, iv v1, iv (2 : Int32), iv v168, iv v169, iv v170, rv b171, rv b207, rv b216, iv (3 : Int32)] [(.int v170), (.int v169), (.int v168), (.int (2 : Int32)), (.int (2 : Int32)), (.long v224)])) rfl (by rw [hml]; rfl) (argsL := [(.int (2 : Int32)), (.int (2 : Int32)), (.int v168), (.int v169), (.int v170)]) (rest := [(.long v224)]) (lenOf own_pd5 rfl) rfl (by show 2 * 0 + _ ≤ _; exact Nat.le_of_eq rfl) (hb hby at_274) (fun _ _ => ⟨rfl, e223, (by decide : 4 + 0 ≤ _), (by decide : 12 + 0 ≤ _)⟩)
        dsimp only [Pt.U, Pt.locs, Pt.cells, Pt.slots] at X225 l225 y225 z225 st225 hQ225
        subst l225 y225 z225
        obtain ⟨rfl, N225q, e225⟩ := hQ225
        have N225 := Fr.app N223 N225q
        refine ownGo (T' := T225) (f' := (mkF m 277 #[iv p0, iv p1, iv p2, iv p3, iv p4, iv v1, iv (2 : Int32), iv v168, iv v169, iv v170, rv b171, rv b207, rv b216, iv (3 : Int32)] [(.long (((0 : Int64) ||| (own_Bw (128 : Int32) (192 : Int32) v168)) ||| (own_Bw (128 : Int32) (192 : Int32) v169))), (.long v224)])) (st225) ?_
        refine ow_lcmp (q := 278) X225 hx _ (hb hby at_277) rfl rfl ?_
        refine ow_ifYes (q := 283) X225 hx (hb hby at_278) (Jvm.Free.XT.ll_eq_t (by rw [← hv_v224]; exact own_cmp_2_2 (own_lt (own_val hv_v168 hv_v1 hz2 hL.2.2)) (own_lt (own_val hv_v169 hv_v1 hz2 hL.2.2)))) (by decide) (by decide) ?_
        refine ow_iload (q := 285) X225 hx (hb hby at_283) rfl rfl ?_
        refine ow_iconst (q := 286) X225 hx (3 : Int32) (hb hby at_285) rfl rfl ?_
        refine ow_icmpYes (q := 311) X225 hx (hb hby at_286) (Jvm.Free.XT.ii_le_t (by decide)) (by decide) (by decide) ?_
        refine ow_iconst (q := 312) X225 hx (1 : Int32) (hb hby at_311) rfl rfl ?_
        refine ownRetN X225 hx (r := (1 : Int32)) (Or.inl rfl) Bd.returns (hb hby at_312) hlk (by decide) (by decide) (by decide) ?_
        exact ⟨rfl, N225⟩
      · obtain ⟨T226, h226, X226, e226, E226, A226, D226, -, st226⟩ := newO X174 hx hZ hown (hw _ (List.mem_of_getElem? (i := 1) rfl)) (hw _ (List.mem_of_getElem? (i := 2) rfl)) (hw _ (List.mem_of_getElem? (i := 3) rfl)) e174 (g := (mkF m 117 #[iv p0, iv p1, iv p2, iv p3, iv p4, iv v1, iv (2 : Int32), iv v168, iv v169, iv v170, rv b171, .unset, .unset, .unset] [])) rfl (hb hby at_117) (by decide) (by decide)
        obtain ⟨b226, g226⟩ : ∃ z, z = h174.size := ⟨_, rfl⟩
        rw [← g226] at A226 D226 st226
        have ne_b171_b226 : b171 ≠ b226 := Nat.ne_of_lt (Nat.lt_of_lt_of_le F174r.lt (Nat.le_of_eq g226.symm))
        have sz_b226 : h0.size ≤ b226 := Nat.le_trans K174.1 (Nat.le_of_eq g226.symm)
        have G_b226 : n0 ≤ b226 := Nat.le_trans Z0 sz_b226
        have K226 : Keep h0 h226 [] := K174.ext E226
        have F227 : ownAI Z h226 b171 .int 2 (ownUpd (ownUpd (fun _ => (0 : Int32)) 0 v168) 1 v169) := F174r.ext E226
        have F228 : Fld Z h226 b226 "com/example/sieveline/sieveline/solver/BitMatrix" "rowWords" "I" (.int (0 : Int32)) := D226 (Or.inr (hw _ (List.mem_of_getElem? (i := 14) rfl))) (ty := .int) (by decide)
        have F229 : Fld Z h226 b226 "com/example/sieveline/sieveline/solver/BitMatrix" "words" "[J" .null := D226 (Or.inr (hw _ (List.mem_of_getElem? (i := 24) rfl))) (ty := (.array .long)) (by decide)
        have F230 : Fld Z h226 b226 "com/example/sieveline/sieveline/solver/BitMatrix" "rows" "I" (.int (0 : Int32)) := D226 (Or.inr (hw _ (List.mem_of_getElem? (i := 26) rfl))) (ty := .int) (by decide)
        have F231 : Fld Z h226 b226 "com/example/sieveline/sieveline/solver/BitMatrix" "columns" "I" (.int (0 : Int32)) := D226 (Or.inr (hw _ (List.mem_of_getElem? (i := 28) rfl))) (ty := .int) (by decide)
        refine ownGo (T' := T226) (f' := (mkF m 120 #[iv p0, iv p1, iv p2, iv p3, iv p4, iv v1, iv (2 : Int32), iv v168, iv v169, iv v170, rv b171, .unset, .unset, .unset] [(.ref b226)])) (st226) ?_
        refine ow_dup (q := 121) X226 hx (hb hby at_120) rfl rfl ?_
        refine ow_iconst (q := 122) X226 hx (1 : Int32) (hb hby at_121) rfl rfl ?_
        refine ow_iload (q := 124) X226 hx (hb hby at_122) rfl rfl ?_
        obtain ⟨_, _, ⟨T232, L232, k232, n232⟩, -, X232, ⟨Lc232, hQ232, l232, y232, z232⟩, st232⟩ := X226.specialBack hx (y := (⟨"com/example/sieveline/sieveline/solver/BitMatrix", "<init>", "(II)V"⟩ : MethodName)) rfl hown (mvT hZ (hw _ (List.mem_of_getElem? (i := 4) rfl))) (mvT hZ (hw _ (List.mem_of_getElem? (i := 5) rfl))) (mvT hZ (hw _ (List.mem_of_getElem? (i := 6) rfl))) (by decide) (backOf (W := 1) (rm_init_4 l Z av0 hw [] b226 v1 h226 n0 (Nat.le_trans Z0 K226.1) A226 F228 F229 F230 F231 G_b226 hL.1) hZ (hw _ (List.mem_of_getElem? (i := 6) rfl)) (hw _ (List.mem_of_getElem? (i := 3) rfl)) (by decide) (by decide)) (g := (mkF m 124 #[iv p0, iv p1, iv p2, iv p3, iv p4, iv v1, iv (2 : Int32), iv v168, iv v169, iv v170, rv b171, .unset, .unset, .unset] [(.int v1), (.int (1 : Int32)), (.ref b226), (.ref b226)])) rfl (by rw [hml]; rfl) (Steps.refl _) (a := b226) (argsL := [(.int (1 : Int32)), (.int v1)]) (rest := [(.ref b226)]) (lenOf own_pd3 rfl) rfl (by show 2 * 0 + _ ≤ _; exact Nat.le_of_eq rfl) (hb hby at_124) (fun _ _ => ⟨rfl, e226, (by decide : 2 + 1 ≤ _), (by decide : 6 + 4 ≤ _)⟩)
        dsimp only [Pt.U, Pt.locs, Pt.cells, Pt.slots] at X232 l232 y232 z232 st232 hQ232
        subst l232 y232 z232
        obtain ⟨rfl, N232q, Kq232, FP232_0, FP232_1⟩ := hQ232
        have N232 := Fr.app N174 N232q
        have K232 : Keep h0 T232.heap [] := K226.trans Kq232 (allS (Or.inr sz_b226) all0)
        have F233 : ownAI Z T232.heap b171 .int 2 (ownUpd (ownUpd (fun _ => (0 : Int32)) 0 v168) 1 v169) := F227.keep Kq232 (ninS ne_b171_b226 nin0)
        have F234 : Exa Z T232.heap b226 "com/example/sieveline/sieveline/solver/BitMatrix" := A226.keep Kq232
        refine ownRun (T' := T232) (f' := (mkF m 127 #[iv p0, iv p1, iv p2, iv p3, iv p4, iv v1, iv (2 : Int32), iv v168, iv v169, iv v170, rv b171, .unset, .unset, .unset] [(.ref b226)])) st232 ?_
        refine ow_astore (q := 129) X232 hx (L' := #[iv p0, iv p1, iv p2, iv p3, iv p4, iv v1, iv (2 : Int32), iv v168, iv v169, iv v170, rv b171, rv b226, .unset, .unset]) (hb hby at_127) rfl rfl rfl ?_
        refine ow_aload (q := 131) X232 hx (hb hby at_129) rfl rfl rfl ?_
        refine ow_aload (q := 133) X232 hx (hb hby at_131) rfl rfl rfl ?_
        obtain ⟨cq235, kq235, q235a, q235b, q235c⟩ := isOf hZ rfl FP232_0
        obtain ⟨_, _, ⟨T235, L235, k235, n235⟩, -, X235, ⟨Lc235, hQ235, l235, y235, z235⟩, st235⟩ := X232.virtualBack hx (y := (⟨"com/example/sieveline/sieveline/solver/BitMatrix", "row", "([I)[J"⟩ : MethodName)) (z := (⟨"com/example/sieveline/sieveline/solver/BitMatrix", "row", "([I)[J"⟩ : MethodName)) hown (mvT hZ (hw _ (List.mem_of_getElem? (i := 29) rfl))) (mvT hZ (hw _ (List.mem_of_getElem? (i := 30) rfl))) (notFace_of_selects (args := #[]) (mvT hZ (hw _ (List.mem_of_getElem? (i := 32) rfl)))) (mvT hZ (hw _ (List.mem_of_getElem? (i := 32) rfl))) (mvT hZ (hw _ (List.mem_of_getElem? (i := 31) rfl))) (by decide) (backOf (W := 0) (rm_row_2_4 l Z av0 hw [] b226 b171 (ownUpd (ownUpd (fun _ => (0 : Int32)) 0 v168) 1 v169) T232.heap n0 (Nat.le_trans Z0 K232.1) FP232_1 F233 (own_val hv_v168 hv_v1 hz2 hL.2.2) (own_val hv_v169 hv_v1 hz2 hL.2.2)) hZ (hw _ (List.mem_of_getElem? (i := 33) rfl)) (hw _ (List.mem_of_getElem? (i := 3) rfl)) (by decide) (by decide)) q235a q235c (g := (mkF m 133 #[iv p0, iv p1, iv p2, iv p3, iv p4, iv v1, iv (2 : Int32), iv v168, iv v169, iv v170, rv b171, rv b226, .unset, .unset] [(.ref b171), (.ref b226)])) rfl (by rw [hml]; rfl) (Steps.refl _) (argsL := [(.ref b171)]) (rest := []) (lenOf own_pd4 rfl) rfl (by show 2 * 0 + _ ≤ _; exact Nat.le_of_eq rfl) (hb hby at_133) (fun _ _ => ⟨rfl, rfl, (by decide : 3 + 1 ≤ _), (by decide : 10 + 4 ≤ _)⟩)
        dsimp only [Pt.U, Pt.locs, Pt.cells, Pt.slots] at X235 l235 y235 z235 st235 hQ235
        subst l235 y235 z235
        obtain ⟨b235, rfl, N235q, Kq235, sq235_b235, FP235_0⟩ := hQ235
        have N235 := Fr.app N232 N235q
        have K235 : Keep h0 T235.heap [] := K232.trans Kq235 all0
        have ne_b171_b235 : b171 ≠ b235 := Nat.ne_of_lt (Nat.lt_of_lt_of_le F233.lt sq235_b235)
        have ne_b226_b235 : b226 ≠ b235 := Nat.ne_of_lt (Nat.lt_of_lt_of_le FP232_0.lt sq235_b235)
        have sz_b235 : h0.size ≤ b235 := Nat.le_trans K232.1 sq235_b235
        have G_b235 : n0 ≤ b235 := Nat.le_trans Z0 sz_b235
        have F236 : ownAI Z T235.heap b171 .int 2 (ownUpd (ownUpd (fun _ => (0 : Int32)) 0 v168) 1 v169) := F233.keep Kq235 nin0
        have F237 : Exa Z T235.heap b226 "com/example/sieveline/sieveline/solver/BitMatrix" := FP232_0.keep Kq235
        have F238 : Fld Z T235.heap b226 "com/example/sieveline/sieveline/solver/BitMatrix" "rowWords" "I" (.int (4 : Int32)) := FP232_1.keep Kq235 nin0
        refine ownRun (T' := T235) (f' := (mkF m 136 #[iv p0, iv p1, iv p2, iv p3, iv p4, iv v1, iv (2 : Int32), iv v168, iv v169, iv v170, rv b171, rv b226, .unset, .unset] [(.ref b235)])) st235 ?_
        refine ow_astore (q := 138) X235 hx (L' := #[iv p0, iv p1, iv p2, iv p3, iv p4, iv v1, iv (2 : Int32), iv v168, iv v169, iv v170, rv b171, rv b226, rv b235, .unset]) (hb hby at_136) rfl rfl rfl ?_
        refine ow_iload (q := 140) X235 hx (hb hby at_138) rfl rfl ?_
        refine ow_ifYes (q := 147) X235 hx (hb hby at_140) (Jvm.Free.XT.i0_ne_t hz2) (by decide) (by decide) ?_
        refine ow_iload (q := 149) X235 hx (hb hby at_147) rfl rfl ?_
        refine ow_bipush (q := 151) X235 hx (64 : Int32) (hb hby at_149) rfl rfl ?_
        refine ow_icmpYes (q := 158) X235 hx (hb hby at_151) (Jvm.Free.XT.ii_gt_t (by simp only [Int32.lt_iff_toInt_lt, Int32.reduceToInt]; have := hL.2; omega)) (by decide) (by decide) ?_
        refine ow_iload (q := 160) X235 hx (hb hby at_158) rfl rfl ?_
        refine ow_sipush (q := 163) X235 hx (128 : Int32) (hb hby at_160) rfl rfl ?_
        refine ow_icmpYes (q := 170) X235 hx (hb hby at_163) (Jvm.Free.XT.ii_gt_t (by simp only [Int32.lt_iff_toInt_lt, Int32.reduceToInt]; have := hL.2; omega)) (by decide) (by decide) ?_
        refine ow_iload (q := 172) X235 hx (hb hby at_170) rfl rfl ?_
        refine ow_sipush (q := 175) X235 hx (192 : Int32) (hb hby at_172) rfl rfl ?_
        refine ow_icmpYes (q := 182) X235 hx (hb hby at_175) (Jvm.Free.XT.ii_gt_t (by simp only [Int32.lt_iff_toInt_lt, Int32.reduceToInt]; have := hL.2; omega)) (by decide) (by decide) ?_
        refine ow_iconst (q := 183) X235 hx (4 : Int32) (hb hby at_182) rfl rfl ?_
        refine ow_istore (q := 185) X235 hx (L' := #[iv p0, iv p1, iv p2, iv p3, iv p4, iv v1, iv (2 : Int32), iv v168, iv v169, iv v170, rv b171, rv b226, rv b235, iv (4 : Int32)]) (hb hby at_183) rfl rfl ?_
        refine ow_aload (q := 187) X235 hx (hb hby at_185) rfl rfl rfl ?_
        refine ownGo (T' := T235) (f' := (mkF m 190 #[iv p0, iv p1, iv p2, iv p3, iv p4, iv v1, iv (2 : Int32), iv v168, iv v169, iv v170, rv b171, rv b226, rv b235, iv (4 : Int32)] [])) (fun _ k => XS.ifnullNo X235.here hx rfl (hb hby at_187) rfl k) ?_
        refine ow_aload (q := 192) X235 hx (hb hby at_190) rfl rfl rfl ?_
        refine ownGo (T' := T235) (f' := (mkF m 193 #[iv p0, iv p1, iv p2, iv p3, iv p4, iv v1, iv (2 : Int32), iv v168, iv v169, iv v170, rv b171, rv b226, rv b235, iv (4 : Int32)] [(.int (4 : Int32))])) (ownLenJ FP235_0 X235 hx hZ rfl (z := (4 : Int32)) (by decide) (g := (mkF m 192 #[iv p0, iv p1, iv p2, iv p3, iv p4, iv v1, iv (2 : Int32), iv v168, iv v169, iv v170, rv b171, rv b226, rv b235, iv (4 : Int32)] [(.ref b235)])) rfl rfl (hb hby at_192)) ?_
        refine ow_iload (q := 195) X235 hx (hb hby at_193) rfl rfl ?_
        refine ow_icmpYes (q := 200) X235 hx (hb hby at_195) (Jvm.Free.XT.ii_eq_t (by decide)) (by decide) (by decide) ?_
        refine ow_iload (q := 202) X235 hx (hb hby at_200) rfl rfl ?_
        refine ow_ifNo (q := 205) X235 hx (hb hby at_202) rfl (Jvm.Free.XT.i0_le_f (by decide)) ?_
        refine ow_aload (q := 207) X235 hx (hb hby at_205) rfl rfl rfl ?_
        refine ow_iconst (q := 208) X235 hx (0 : Int32) (hb hby at_207) rfl rfl ?_
        refine ownGo (T' := T235) (f' := (mkF m 209 #[iv p0, iv p1, iv p2, iv p3, iv p4, iv v1, iv (2 : Int32), iv v168, iv v169, iv v170, rv b171, rv b226, rv b235, iv (4 : Int32)] [(.long ((own_or1 (own_or1 (fun _ => (0 : Int64)) v168) v169) 0))])) (ownLaload FP235_0 X235 hx hZ rfl (j := (0 : Int32)) (by unfold ownIn; decide) (g := (mkF m 208 #[iv p0, iv p1, iv p2, iv p3, iv p4, iv v1, iv (2 : Int32), iv v168, iv v169, iv v170, rv b171, rv b226, rv b235, iv (4 : Int32)] [(.int (0 : Int32)), (.ref b235)])) rfl rfl (hb hby at_208)) ?_
        generalize hv_v239 : ((own_or1 (own_or1 (fun _ => (0 : Int64)) v168) v169) 0) = v239
        refine ow_iconst (q := 210) X235 hx (0 : Int32) (hb hby at_209) rfl rfl ?_
        refine ow_iload (q := 212) X235 hx (hb hby at_210) rfl rfl ?_
        refine ow_iload (q := 214) X235 hx (hb hby at_212) rfl rfl ?_
        refine ow_iload (q := 216) X235 hx (hb hby at_214) rfl rfl ?_
        refine ow_iload (q := 218) X235 hx (hb hby at_216) rfl rfl ?_
        obtain ⟨_, _, ⟨T240, L240, k240, n240⟩, -, X240, ⟨Lc240, hQ240, l240, y240, z240⟩, st240⟩ := Jvm.LawKit.callS X235 hx (y := (⟨"com/example/sieveline/sieveline/solver/BitMatrixRowPinLaw", "expect", "(IIIII)J"⟩ : MethodName)) hown (mvT hZ (hw _ (List.mem_of_getElem? (i := 35) rfl))) (mvT hZ (hw _ (List.mem_of_getElem? (i := 36) rfl))) (mvT hZ (hw _ (List.mem_of_getElem? (i := 37) rfl))) (mvT hZ (hw _ (List.mem_of_getElem? (i := 38) rfl))) (by decide) (backOf (W := 2) (rm_exp_0_2 l Z av0 hw [] v168 v169 v170 T235.heap n0 (Nat.le_trans Z0 K235.1) ) hZ (hw _ (List.mem_of_getElem? (i := 38) rfl)) (hw _ (List.mem_of_getElem? (i := 37) rfl)) (by decide) (by decide)) (g := (mkF m 218 #[iv p0, iv p1, iv p2, iv p3, iv p4, iv v1, iv (2 : Int32), iv v168, iv v169, iv v170, rv b171, rv b226, rv b235, iv (4 : Int32)] [(.int v170), (.int v169), (.int v168), (.int (2 : Int32)), (.int (0 : Int32)), (.long v239)])) rfl (by rw [hml]; rfl) (argsL := [(.int (0 : Int32)), (.int (2 : Int32)), (.int v168), (.int v169), (.int v170)]) (rest := [(.long v239)]) (lenOf own_pd5 rfl) rfl (by show 2 * 0 + _ ≤ _; exact Nat.le_of_eq rfl) (hb hby at_218) (fun _ _ => ⟨rfl, rfl, (by decide : 4 + 0 ≤ _), (by decide : 14 + 0 ≤ _)⟩)
        dsimp only [Pt.U, Pt.locs, Pt.cells, Pt.slots] at X240 l240 y240 z240 st240 hQ240
        subst l240 y240 z240
        obtain ⟨rfl, N240q, e240⟩ := hQ240
        have N240 := Fr.app N235 N240q
        refine ownGo (T' := T240) (f' := (mkF m 221 #[iv p0, iv p1, iv p2, iv p3, iv p4, iv v1, iv (2 : Int32), iv v168, iv v169, iv v170, rv b171, rv b226, rv b235, iv (4 : Int32)] [(.long (((0 : Int64) ||| (own_Bw (0 : Int32) (64 : Int32) v168)) ||| (own_Bw (0 : Int32) (64 : Int32) v169))), (.long v239)])) (st240) ?_
        refine ow_lcmp (q := 222) X240 hx _ (hb hby at_221) rfl rfl ?_
        refine ow_ifYes (q := 227) X240 hx (hb hby at_222) (Jvm.Free.XT.ll_eq_t (by rw [← hv_v239]; exact own_cmp_0_2 (own_lt (own_val hv_v168 hv_v1 hz2 hL.2.2)) (own_lt (own_val hv_v169 hv_v1 hz2 hL.2.2)))) (by decide) (by decide) ?_
        refine ow_iload (q := 229) X240 hx (hb hby at_227) rfl rfl ?_
        refine ow_iconst (q := 230) X240 hx (1 : Int32) (hb hby at_229) rfl rfl ?_
        refine ow_icmpNo (q := 233) X240 hx (hb hby at_230) rfl (Jvm.Free.XT.ii_le_f (by decide)) ?_
        refine ow_aload (q := 235) X240 hx (hb hby at_233) rfl rfl rfl ?_
        refine ow_iconst (q := 236) X240 hx (1 : Int32) (hb hby at_235) rfl rfl ?_
        refine ownGo (T' := T240) (f' := (mkF m 237 #[iv p0, iv p1, iv p2, iv p3, iv p4, iv v1, iv (2 : Int32), iv v168, iv v169, iv v170, rv b171, rv b226, rv b235, iv (4 : Int32)] [(.long ((own_or1 (own_or1 (fun _ => (0 : Int64)) v168) v169) 1))])) (ownLaload FP235_0 X240 hx hZ e240 (j := (1 : Int32)) (by unfold ownIn; decide) (g := (mkF m 236 #[iv p0, iv p1, iv p2, iv p3, iv p4, iv v1, iv (2 : Int32), iv v168, iv v169, iv v170, rv b171, rv b226, rv b235, iv (4 : Int32)] [(.int (1 : Int32)), (.ref b235)])) rfl rfl (hb hby at_236)) ?_
        generalize hv_v241 : ((own_or1 (own_or1 (fun _ => (0 : Int64)) v168) v169) 1) = v241
        refine ow_iconst (q := 238) X240 hx (1 : Int32) (hb hby at_237) rfl rfl ?_
        refine ow_iload (q := 240) X240 hx (hb hby at_238) rfl rfl ?_
        refine ow_iload (q := 242) X240 hx (hb hby at_240) rfl rfl ?_
        refine ow_iload (q := 244) X240 hx (hb hby at_242) rfl rfl ?_
        refine ow_iload (q := 246) X240 hx (hb hby at_244) rfl rfl ?_
        obtain ⟨_, _, ⟨T242, L242, k242, n242⟩, -, X242, ⟨Lc242, hQ242, l242, y242, z242⟩, st242⟩ := Jvm.LawKit.callS X240 hx (y := (⟨"com/example/sieveline/sieveline/solver/BitMatrixRowPinLaw", "expect", "(IIIII)J"⟩ : MethodName)) hown (mvT hZ (hw _ (List.mem_of_getElem? (i := 35) rfl))) (mvT hZ (hw _ (List.mem_of_getElem? (i := 36) rfl))) (mvT hZ (hw _ (List.mem_of_getElem? (i := 37) rfl))) (mvT hZ (hw _ (List.mem_of_getElem? (i := 38) rfl))) (by decide) (backOf (W := 2) (rm_exp_1_2 l Z av0 hw [] v168 v169 v170 T235.heap n0 (Nat.le_trans Z0 K235.1) ) hZ (hw _ (List.mem_of_getElem? (i := 38) rfl)) (hw _ (List.mem_of_getElem? (i := 37) rfl)) (by decide) (by decide)) (g := (mkF m 246 #[iv p0, iv p1, iv p2, iv p3, iv p4, iv v1, iv (2 : Int32), iv v168, iv v169, iv v170, rv b171, rv b226, rv b235, iv (4 : Int32)] [(.int v170), (.int v169), (.int v168), (.int (2 : Int32)), (.int (1 : Int32)), (.long v241)])) rfl (by rw [hml]; rfl) (argsL := [(.int (1 : Int32)), (.int (2 : Int32)), (.int v168), (.int v169), (.int v170)]) (rest := [(.long v241)]) (lenOf own_pd5 rfl) rfl (by show 2 * 0 + _ ≤ _; exact Nat.le_of_eq rfl) (hb hby at_246) (fun _ _ => ⟨rfl, e240, (by decide : 4 + 0 ≤ _), (by decide : 14 + 0 ≤ _)⟩)
        dsimp only [Pt.U, Pt.locs, Pt.cells, Pt.slots] at X242 l242 y242 z242 st242 hQ242
        subst l242 y242 z242
        obtain ⟨rfl, N242q, e242⟩ := hQ242
        have N242 := Fr.app N240 N242q
        refine ownGo (T' := T242) (f' := (mkF m 249 #[iv p0, iv p1, iv p2, iv p3, iv p4, iv v1, iv (2 : Int32), iv v168, iv v169, iv v170, rv b171, rv b226, rv b235, iv (4 : Int32)] [(.long (((0 : Int64) ||| (own_Bw (64 : Int32) (128 : Int32) v168)) ||| (own_Bw (64 : Int32) (128 : Int32) v169))), (.long v241)])) (st242) ?_
        refine ow_lcmp (q := 250) X242 hx _ (hb hby at_249) rfl rfl ?_
        refine ow_ifYes (q := 255) X242 hx (hb hby at_250) (Jvm.Free.XT.ll_eq_t (by rw [← hv_v241]; exact own_cmp_1_2 (own_lt (own_val hv_v168 hv_v1 hz2 hL.2.2)) (own_lt (own_val hv_v169 hv_v1 hz2 hL.2.2)))) (by decide) (by decide) ?_
        refine ow_iload (q := 257) X242 hx (hb hby at_255) rfl rfl ?_
        refine ow_iconst (q := 258) X242 hx (2 : Int32) (hb hby at_257) rfl rfl ?_
        refine ow_icmpNo (q := 261) X242 hx (hb hby at_258) rfl (Jvm.Free.XT.ii_le_f (by decide)) ?_
        refine ow_aload (q := 263) X242 hx (hb hby at_261) rfl rfl rfl ?_
        refine ow_iconst (q := 264) X242 hx (2 : Int32) (hb hby at_263) rfl rfl ?_
        refine ownGo (T' := T242) (f' := (mkF m 265 #[iv p0, iv p1, iv p2, iv p3, iv p4, iv v1, iv (2 : Int32), iv v168, iv v169, iv v170, rv b171, rv b226, rv b235, iv (4 : Int32)] [(.long ((own_or1 (own_or1 (fun _ => (0 : Int64)) v168) v169) 2))])) (ownLaload FP235_0 X242 hx hZ e242 (j := (2 : Int32)) (by unfold ownIn; decide) (g := (mkF m 264 #[iv p0, iv p1, iv p2, iv p3, iv p4, iv v1, iv (2 : Int32), iv v168, iv v169, iv v170, rv b171, rv b226, rv b235, iv (4 : Int32)] [(.int (2 : Int32)), (.ref b235)])) rfl rfl (hb hby at_264)) ?_
        generalize hv_v243 : ((own_or1 (own_or1 (fun _ => (0 : Int64)) v168) v169) 2) = v243
        refine ow_iconst (q := 266) X242 hx (2 : Int32) (hb hby at_265) rfl rfl ?_
        refine ow_iload (q := 268) X242 hx (hb hby at_266) rfl rfl ?_
        refine ow_iload (q := 270) X242 hx (hb hby at_268) rfl rfl ?_
        refine ow_iload (q := 272) X242 hx (hb hby at_270) rfl rfl ?_
        refine ow_iload (q := 274) X242 hx (hb hby at_272) rfl rfl ?_
        obtain ⟨_, _, ⟨T244, L244, k244, n244⟩, -, X244, ⟨Lc244, hQ244, l244, y244, z244⟩, st244⟩ := Jvm.LawKit.callS X242 hx (y := (⟨"com/example/sieveline/sieveline/solver/BitMatrixRowPinLaw", "expect", "(IIIII)J"⟩ : MethodName)) hown (mvT hZ (hw _ (List.mem_of_getElem? (i := 35) rfl))) (mvT hZ (hw _ (List.mem_of_getElem? (i := 36) rfl))) (mvT hZ (hw _ (List.mem_of_getElem? (i := 37) rfl))) (mvT hZ (hw _ (List.mem_of_getElem? (i := 38) rfl))) (by decide) (backOf (W := 2) (rm_exp_2_2 l Z av0 hw [] v168 v169 v170 T235.heap n0 (Nat.le_trans Z0 K235.1) ) hZ (hw _ (List.mem_of_getElem? (i := 38) rfl)) (hw _ (List.mem_of_getElem? (i := 37) rfl)) (by decide) (by decide)) (g := (mkF m 274 #[iv p0, iv p1, iv p2, iv p3, iv p4, iv v1, iv (2 : Int32), iv v168, iv v169, iv v170, rv b171, rv b226, rv b235, iv (4 : Int32)] [(.int v170), (.int v169), (.int v168), (.int (2 : Int32)), (.int (2 : Int32)), (.long v243)])) rfl (by rw [hml]; rfl) (argsL := [(.int (2 : Int32)), (.int (2 : Int32)), (.int v168), (.int v169), (.int v170)]) (rest := [(.long v243)]) (lenOf own_pd5 rfl) rfl (by show 2 * 0 + _ ≤ _; exact Nat.le_of_eq rfl) (hb hby at_274) (fun _ _ => ⟨rfl, e242, (by decide : 4 + 0 ≤ _), (by decide : 14 + 0 ≤ _)⟩)
        dsimp only [Pt.U, Pt.locs, Pt.cells, Pt.slots] at X244 l244 y244 z244 st244 hQ244
        subst l244 y244 z244
        obtain ⟨rfl, N244q, e244⟩ := hQ244
        have N244 := Fr.app N242 N244q
        refine ownGo (T' := T244) (f' := (mkF m 277 #[iv p0, iv p1, iv p2, iv p3, iv p4, iv v1, iv (2 : Int32), iv v168, iv v169, iv v170, rv b171, rv b226, rv b235, iv (4 : Int32)] [(.long (((0 : Int64) ||| (own_Bw (128 : Int32) (192 : Int32) v168)) ||| (own_Bw (128 : Int32) (192 : Int32) v169))), (.long v243)])) (st244) ?_
        refine ow_lcmp (q := 278) X244 hx _ (hb hby at_277) rfl rfl ?_
        refine ow_ifYes (q := 283) X244 hx (hb hby at_278) (Jvm.Free.XT.ll_eq_t (by rw [← hv_v243]; exact own_cmp_2_2 (own_lt (own_val hv_v168 hv_v1 hz2 hL.2.2)) (own_lt (own_val hv_v169 hv_v1 hz2 hL.2.2)))) (by decide) (by decide) ?_
        refine ow_iload (q := 285) X244 hx (hb hby at_283) rfl rfl ?_
        refine ow_iconst (q := 286) X244 hx (3 : Int32) (hb hby at_285) rfl rfl ?_
        refine ow_icmpNo (q := 289) X244 hx (hb hby at_286) rfl (Jvm.Free.XT.ii_le_f (by decide)) ?_
        refine ow_aload (q := 291) X244 hx (hb hby at_289) rfl rfl rfl ?_
        refine ow_iconst (q := 292) X244 hx (3 : Int32) (hb hby at_291) rfl rfl ?_
        refine ownGo (T' := T244) (f' := (mkF m 293 #[iv p0, iv p1, iv p2, iv p3, iv p4, iv v1, iv (2 : Int32), iv v168, iv v169, iv v170, rv b171, rv b226, rv b235, iv (4 : Int32)] [(.long ((own_or1 (own_or1 (fun _ => (0 : Int64)) v168) v169) 3))])) (ownLaload FP235_0 X244 hx hZ e244 (j := (3 : Int32)) (by unfold ownIn; decide) (g := (mkF m 292 #[iv p0, iv p1, iv p2, iv p3, iv p4, iv v1, iv (2 : Int32), iv v168, iv v169, iv v170, rv b171, rv b226, rv b235, iv (4 : Int32)] [(.int (3 : Int32)), (.ref b235)])) rfl rfl (hb hby at_292)) ?_
        generalize hv_v245 : ((own_or1 (own_or1 (fun _ => (0 : Int64)) v168) v169) 3) = v245
        refine ow_iconst (q := 294) X244 hx (3 : Int32) (hb hby at_293) rfl rfl ?_
        refine ow_iload (q := 296) X244 hx (hb hby at_294) rfl rfl ?_
        refine ow_iload (q := 298) X244 hx (hb hby at_296) rfl rfl ?_
        refine ow_iload (q := 300) X244 hx (hb hby at_298) rfl rfl ?_
        refine ow_iload (q := 302) X244 hx (hb hby at_300) rfl rfl ?_
        obtain ⟨_, _, ⟨T246, L246, k246, n246⟩, -, X246, ⟨Lc246, hQ246, l246, y246, z246⟩, st246⟩ := Jvm.LawKit.callS X244 hx (y := (⟨"com/example/sieveline/sieveline/solver/BitMatrixRowPinLaw", "expect", "(IIIII)J"⟩ : MethodName)) hown (mvT hZ (hw _ (List.mem_of_getElem? (i := 35) rfl))) (mvT hZ (hw _ (List.mem_of_getElem? (i := 36) rfl))) (mvT hZ (hw _ (List.mem_of_getElem? (i := 37) rfl))) (mvT hZ (hw _ (List.mem_of_getElem? (i := 38) rfl))) (by decide) (backOf (W := 2) (rm_exp_3_2 l Z av0 hw [] v168 v169 v170 T235.heap n0 (Nat.le_trans Z0 K235.1) ) hZ (hw _ (List.mem_of_getElem? (i := 38) rfl)) (hw _ (List.mem_of_getElem? (i := 37) rfl)) (by decide) (by decide)) (g := (mkF m 302 #[iv p0, iv p1, iv p2, iv p3, iv p4, iv v1, iv (2 : Int32), iv v168, iv v169, iv v170, rv b171, rv b226, rv b235, iv (4 : Int32)] [(.int v170), (.int v169), (.int v168), (.int (2 : Int32)), (.int (3 : Int32)), (.long v245)])) rfl (by rw [hml]; rfl) (argsL := [(.int (3 : Int32)), (.int (2 : Int32)), (.int v168), (.int v169), (.int v170)]) (rest := [(.long v245)]) (lenOf own_pd5 rfl) rfl (by show 2 * 0 + _ ≤ _; exact Nat.le_of_eq rfl) (hb hby at_302) (fun _ _ => ⟨rfl, e244, (by decide : 4 + 0 ≤ _), (by decide : 14 + 0 ≤ _)⟩)
        dsimp only [Pt.U, Pt.locs, Pt.cells, Pt.slots] at X246 l246 y246 z246 st246 hQ246
        subst l246 y246 z246
        obtain ⟨rfl, N246q, e246⟩ := hQ246
        have N246 := Fr.app N244 N246q
        refine ownGo (T' := T246) (f' := (mkF m 305 #[iv p0, iv p1, iv p2, iv p3, iv p4, iv v1, iv (2 : Int32), iv v168, iv v169, iv v170, rv b171, rv b226, rv b235, iv (4 : Int32)] [(.long (((0 : Int64) ||| (own_Bw (192 : Int32) (256 : Int32) v168)) ||| (own_Bw (192 : Int32) (256 : Int32) v169))), (.long v245)])) (st246) ?_
        refine ow_lcmp (q := 306) X246 hx _ (hb hby at_305) rfl rfl ?_
        refine ow_ifYes (q := 311) X246 hx (hb hby at_306) (Jvm.Free.XT.ll_eq_t (by rw [← hv_v245]; exact own_cmp_3_2 (own_lt (own_val hv_v168 hv_v1 hz2 hL.2.2)) (own_lt (own_val hv_v169 hv_v1 hz2 hL.2.2)))) (by decide) (by decide) ?_
        refine ow_iconst (q := 312) X246 hx (1 : Int32) (hb hby at_311) rfl rfl ?_
        refine ownRetN X246 hx (r := (1 : Int32)) (Or.inl rfl) Bd.returns (hb hby at_312) hlk (by decide) (by decide) (by decide) ?_
        exact ⟨rfl, N246⟩
    · subst hs22
      refine ow_iload (q := 23) X0 hx (hb hby at_21) rfl rfl ?_
      refine ow_ifYes (q := 30) X0 hx (hb hby at_23) (Jvm.Free.XT.i0_ne_t hz2) (by decide) (by decide) ?_
      refine ow_iloadN (q := 31) X0 hx (hb hby at_30) rfl rfl ?_
      refine ownGo (T' := s₁) (f' := (mkF m 33 #[iv p0, iv p1, iv p2, iv p3, iv p4, iv v1, iv (3 : Int32), .unset, .unset, .unset, .unset, .unset, .unset, .unset] [(.int (2147483647 : Int32)), (.int p2)])) (X0.ldcInt hx hown (mvT hZ (hw _ (List.mem_of_getElem? (i := 34) rfl))) (g := (mkF m 31 #[iv p0, iv p1, iv p2, iv p3, iv p4, iv v1, iv (3 : Int32), .unset, .unset, .unset, .unset, .unset, .unset, .unset] [(.int p2)])) rfl (hb hby at_31)) ?_
      refine ow_iand (q := 34) X0 hx _ (hb hby at_33) rfl rfl ?_
      refine ow_iload (q := 36) X0 hx (hb hby at_34) rfl rfl ?_
      refine ow_irem (q := 37) X0 hx _ (hb hby at_36) rfl hz2 rfl ?_
      generalize hv_v247 : ((p2 &&& (2147483647 : Int32)) % v1) = v247
      refine ow_istore (q := 39) X0 hx (L' := #[iv p0, iv p1, iv p2, iv p3, iv p4, iv v1, iv (3 : Int32), iv v247, .unset, .unset, .unset, .unset, .unset, .unset]) (hb hby at_37) rfl rfl ?_
      refine ow_iload (q := 41) X0 hx (hb hby at_39) rfl rfl ?_
      refine ow_ifYes (q := 48) X0 hx (hb hby at_41) (Jvm.Free.XT.i0_ne_t hz2) (by decide) (by decide) ?_
      refine ow_iloadN (q := 49) X0 hx (hb hby at_48) rfl rfl ?_
      refine ownGo (T' := s₁) (f' := (mkF m 51 #[iv p0, iv p1, iv p2, iv p3, iv p4, iv v1, iv (3 : Int32), iv v247, .unset, .unset, .unset, .unset, .unset, .unset] [(.int (2147483647 : Int32)), (.int p3)])) (X0.ldcInt hx hown (mvT hZ (hw _ (List.mem_of_getElem? (i := 34) rfl))) (g := (mkF m 49 #[iv p0, iv p1, iv p2, iv p3, iv p4, iv v1, iv (3 : Int32), iv v247, .unset, .unset, .unset, .unset, .unset, .unset] [(.int p3)])) rfl (hb hby at_49)) ?_
      refine ow_iand (q := 52) X0 hx _ (hb hby at_51) rfl rfl ?_
      refine ow_iload (q := 54) X0 hx (hb hby at_52) rfl rfl ?_
      refine ow_irem (q := 55) X0 hx _ (hb hby at_54) rfl hz2 rfl ?_
      generalize hv_v248 : ((p3 &&& (2147483647 : Int32)) % v1) = v248
      refine ow_istore (q := 57) X0 hx (L' := #[iv p0, iv p1, iv p2, iv p3, iv p4, iv v1, iv (3 : Int32), iv v247, iv v248, .unset, .unset, .unset, .unset, .unset]) (hb hby at_55) rfl rfl ?_
      refine ow_iload (q := 59) X0 hx (hb hby at_57) rfl rfl ?_
      refine ow_ifYes (q := 66) X0 hx (hb hby at_59) (Jvm.Free.XT.i0_ne_t hz2) (by decide) (by decide) ?_
      refine ow_iload (q := 68) X0 hx (hb hby at_66) rfl rfl ?_
      refine ownGo (T' := s₁) (f' := (mkF m 70 #[iv p0, iv p1, iv p2, iv p3, iv p4, iv v1, iv (3 : Int32), iv v247, iv v248, .unset, .unset, .unset, .unset, .unset] [(.int (2147483647 : Int32)), (.int p4)])) (X0.ldcInt hx hown (mvT hZ (hw _ (List.mem_of_getElem? (i := 34) rfl))) (g := (mkF m 68 #[iv p0, iv p1, iv p2, iv p3, iv p4, iv v1, iv (3 : Int32), iv v247, iv v248, .unset, .unset, .unset, .unset, .unset] [(.int p4)])) rfl (hb hby at_68)) ?_
      refine ow_iand (q := 71) X0 hx _ (hb hby at_70) rfl rfl ?_
      refine ow_iload (q := 73) X0 hx (hb hby at_71) rfl rfl ?_
      refine ow_irem (q := 74) X0 hx _ (hb hby at_73) rfl hz2 rfl ?_
      generalize hv_v249 : ((p4 &&& (2147483647 : Int32)) % v1) = v249
      refine ow_istore (q := 76) X0 hx (L' := #[iv p0, iv p1, iv p2, iv p3, iv p4, iv v1, iv (3 : Int32), iv v247, iv v248, iv v249, .unset, .unset, .unset, .unset]) (hb hby at_74) rfl rfl ?_
      refine ow_iload (q := 78) X0 hx (hb hby at_76) rfl rfl ?_
      obtain ⟨T250, h250, k250, X250, e250, E250, A250, st250⟩ := newP X0 hx hZ (hw _ (List.mem_of_getElem? (i := 0) rfl)) e0 (g := (mkF m 78 #[iv p0, iv p1, iv p2, iv p3, iv p4, iv v1, iv (3 : Int32), iv v247, iv v248, iv v249, .unset, .unset, .unset, .unset] [(.int (3 : Int32))])) rfl (hb hby at_78) rfl (by decide) (cap := 3) (by decide) (by decide) (by decide) (by decide)
      obtain ⟨b250, g250⟩ : ∃ z, z = h0.size := ⟨_, rfl⟩
      rw [← g250] at A250 st250
      have sz_b250 : h0.size ≤ b250 := Nat.le_trans K0.1 (Nat.le_of_eq g250.symm)
      have G_b250 : n0 ≤ b250 := Nat.le_trans Z0 sz_b250
      have K250 : Keep h0 h250 [] := K0.ext E250
      have F251 : ownAI Z h250 b250 .int 3 (fun _ => (0 : Int32)) := ownAI.new A250 (by decide) rfl (by decide)
      refine ownGo (T' := T250) (f' := (mkF m 80 #[iv p0, iv p1, iv p2, iv p3, iv p4, iv v1, iv (3 : Int32), iv v247, iv v248, iv v249, .unset, .unset, .unset, .unset] [(.ref b250)])) (st250) ?_
      refine ow_astore (q := 82) X250 hx (L' := #[iv p0, iv p1, iv p2, iv p3, iv p4, iv v1, iv (3 : Int32), iv v247, iv v248, iv v249, rv b250, .unset, .unset, .unset]) (hb hby at_80) rfl rfl rfl ?_
      refine ow_iload (q := 84) X250 hx (hb hby at_82) rfl rfl ?_
      refine ow_ifNo (q := 87) X250 hx (hb hby at_84) rfl (Jvm.Free.XT.i0_le_f (by decide)) ?_
      refine ow_aload (q := 89) X250 hx (hb hby at_87) rfl rfl rfl ?_
      refine ow_iconst (q := 90) X250 hx (0 : Int32) (hb hby at_89) rfl rfl ?_
      refine ow_iload (q := 92) X250 hx (hb hby at_90) rfl rfl ?_
      obtain ⟨T252, h252, X252, e252, W252, F252s, st252⟩ := ownIastore F251 X250 hx hZ e250 (j := (0 : Int32)) (by unfold ownIn; decide) (g := (mkF m 92 #[iv p0, iv p1, iv p2, iv p3, iv p4, iv v1, iv (3 : Int32), iv v247, iv v248, iv v249, rv b250, .unset, .unset, .unset] [(.int v247), (.int (0 : Int32)), (.ref b250)])) rfl rfl (hb hby at_92)
      have F252r : ownAI Z h252 b250 .int 3 (ownUpd (fun _ => (0 : Int32)) 0 v247) := F252s
      have N252 := Fr.snoc X252 N0 G_b250
      have K252 : Keep h0 h252 [] := K250.wr W252 (Or.inr sz_b250)
      refine ownGo (T' := T252) (f' := (mkF m 93 #[iv p0, iv p1, iv p2, iv p3, iv p4, iv v1, iv (3 : Int32), iv v247, iv v248, iv v249, rv b250, .unset, .unset, .unset] [])) (st252) ?_
      refine ow_iload (q := 95) X252 hx (hb hby at_93) rfl rfl ?_
      refine ow_iconst (q := 96) X252 hx (1 : Int32) (hb hby at_95) rfl rfl ?_
      refine ow_icmpNo (q := 99) X252 hx (hb hby at_96) rfl (Jvm.Free.XT.ii_le_f (by decide)) ?_
      refine ow_aload (q := 101) X252 hx (hb hby at_99) rfl rfl rfl ?_
      refine ow_iconst (q := 102) X252 hx (1 : Int32) (hb hby at_101) rfl rfl ?_
      refine ow_iload (q := 104) X252 hx (hb hby at_102) rfl rfl ?_
      obtain ⟨T253, h253, X253, e253, W253, F253s, st253⟩ := ownIastore F252r X252 hx hZ e252 (j := (1 : Int32)) (by unfold ownIn; decide) (g := (mkF m 104 #[iv p0, iv p1, iv p2, iv p3, iv p4, iv v1, iv (3 : Int32), iv v247, iv v248, iv v249, rv b250, .unset, .unset, .unset] [(.int v248), (.int (1 : Int32)), (.ref b250)])) rfl rfl (hb hby at_104)
      have F253r : ownAI Z h253 b250 .int 3 (ownUpd (ownUpd (fun _ => (0 : Int32)) 0 v247) 1 v248) := F253s
      have N253 := Fr.snoc X253 N252 G_b250
      have K253 : Keep h0 h253 [] := K252.wr W253 (Or.inr sz_b250)
      refine ownGo (T' := T253) (f' := (mkF m 105 #[iv p0, iv p1, iv p2, iv p3, iv p4, iv v1, iv (3 : Int32), iv v247, iv v248, iv v249, rv b250, .unset, .unset, .unset] [])) (st253) ?_
      refine ow_iload (q := 107) X253 hx (hb hby at_105) rfl rfl ?_
      refine ow_iconst (q := 108) X253 hx (2 : Int32) (hb hby at_107) rfl rfl ?_
      refine ow_icmpNo (q := 111) X253 hx (hb hby at_108) rfl (Jvm.Free.XT.ii_le_f (by decide)) ?_
      refine ow_aload (q := 113) X253 hx (hb hby at_111) rfl rfl rfl ?_
      refine ow_iconst (q := 114) X253 hx (2 : Int32) (hb hby at_113) rfl rfl ?_
      refine ow_iload (q := 116) X253 hx (hb hby at_114) rfl rfl ?_
      obtain ⟨T254, h254, X254, e254, W254, F254s, st254⟩ := ownIastore F253r X253 hx hZ e253 (j := (2 : Int32)) (by unfold ownIn; decide) (g := (mkF m 116 #[iv p0, iv p1, iv p2, iv p3, iv p4, iv v1, iv (3 : Int32), iv v247, iv v248, iv v249, rv b250, .unset, .unset, .unset] [(.int v249), (.int (2 : Int32)), (.ref b250)])) rfl rfl (hb hby at_116)
      have F254r : ownAI Z h254 b250 .int 3 (ownUpd (ownUpd (ownUpd (fun _ => (0 : Int32)) 0 v247) 1 v248) 2 v249) := F254s
      have N254 := Fr.snoc X254 N253 G_b250
      have K254 : Keep h0 h254 [] := K253.wr W254 (Or.inr sz_b250)
      refine ownGo (T' := T254) (f' := (mkF m 117 #[iv p0, iv p1, iv p2, iv p3, iv p4, iv v1, iv (3 : Int32), iv v247, iv v248, iv v249, rv b250, .unset, .unset, .unset] [])) (st254) ?_
      rcases own_cls hv_v1 hz2 with hL | hL | hL | hL
      · obtain ⟨T255, h255, X255, e255, E255, A255, D255, -, st255⟩ := newO X254 hx hZ hown (hw _ (List.mem_of_getElem? (i := 1) rfl)) (hw _ (List.mem_of_getElem? (i := 2) rfl)) (hw _ (List.mem_of_getElem? (i := 3) rfl)) e254 (g := (mkF m 117 #[iv p0, iv p1, iv p2, iv p3, iv p4, iv v1, iv (3 : Int32), iv v247, iv v248, iv v249, rv b250, .unset, .unset, .unset] [])) rfl (hb hby at_117) (by decide) (by decide)
        obtain ⟨b255, g255⟩ : ∃ z, z = h254.size := ⟨_, rfl⟩
        rw [← g255] at A255 D255 st255
        have ne_b250_b255 : b250 ≠ b255 := Nat.ne_of_lt (Nat.lt_of_lt_of_le F254r.lt (Nat.le_of_eq g255.symm))
        have sz_b255 : h0.size ≤ b255 := Nat.le_trans K254.1 (Nat.le_of_eq g255.symm)
        have G_b255 : n0 ≤ b255 := Nat.le_trans Z0 sz_b255
        have K255 : Keep h0 h255 [] := K254.ext E255
        have F256 : ownAI Z h255 b250 .int 3 (ownUpd (ownUpd (ownUpd (fun _ => (0 : Int32)) 0 v247) 1 v248) 2 v249) := F254r.ext E255
        have F257 : Fld Z h255 b255 "com/example/sieveline/sieveline/solver/BitMatrix" "rowWords" "I" (.int (0 : Int32)) := D255 (Or.inr (hw _ (List.mem_of_getElem? (i := 14) rfl))) (ty := .int) (by decide)
        have F258 : Fld Z h255 b255 "com/example/sieveline/sieveline/solver/BitMatrix" "words" "[J" .null := D255 (Or.inr (hw _ (List.mem_of_getElem? (i := 24) rfl))) (ty := (.array .long)) (by decide)
        have F259 : Fld Z h255 b255 "com/example/sieveline/sieveline/solver/BitMatrix" "rows" "I" (.int (0 : Int32)) := D255 (Or.inr (hw _ (List.mem_of_getElem? (i := 26) rfl))) (ty := .int) (by decide)
        have F260 : Fld Z h255 b255 "com/example/sieveline/sieveline/solver/BitMatrix" "columns" "I" (.int (0 : Int32)) := D255 (Or.inr (hw _ (List.mem_of_getElem? (i := 28) rfl))) (ty := .int) (by decide)
        refine ownGo (T' := T255) (f' := (mkF m 120 #[iv p0, iv p1, iv p2, iv p3, iv p4, iv v1, iv (3 : Int32), iv v247, iv v248, iv v249, rv b250, .unset, .unset, .unset] [(.ref b255)])) (st255) ?_
        refine ow_dup (q := 121) X255 hx (hb hby at_120) rfl rfl ?_
        refine ow_iconst (q := 122) X255 hx (1 : Int32) (hb hby at_121) rfl rfl ?_
        refine ow_iload (q := 124) X255 hx (hb hby at_122) rfl rfl ?_
        obtain ⟨_, _, ⟨T261, L261, k261, n261⟩, -, X261, ⟨Lc261, hQ261, l261, y261, z261⟩, st261⟩ := X255.specialBack hx (y := (⟨"com/example/sieveline/sieveline/solver/BitMatrix", "<init>", "(II)V"⟩ : MethodName)) rfl hown (mvT hZ (hw _ (List.mem_of_getElem? (i := 4) rfl))) (mvT hZ (hw _ (List.mem_of_getElem? (i := 5) rfl))) (mvT hZ (hw _ (List.mem_of_getElem? (i := 6) rfl))) (by decide) (backOf (W := 1) (rm_init_1 l Z av0 hw [] b255 v1 h255 n0 (Nat.le_trans Z0 K255.1) A255 F257 F258 F259 F260 G_b255 hL.1) hZ (hw _ (List.mem_of_getElem? (i := 6) rfl)) (hw _ (List.mem_of_getElem? (i := 3) rfl)) (by decide) (by decide)) (g := (mkF m 124 #[iv p0, iv p1, iv p2, iv p3, iv p4, iv v1, iv (3 : Int32), iv v247, iv v248, iv v249, rv b250, .unset, .unset, .unset] [(.int v1), (.int (1 : Int32)), (.ref b255), (.ref b255)])) rfl (by rw [hml]; rfl) (Steps.refl _) (a := b255) (argsL := [(.int (1 : Int32)), (.int v1)]) (rest := [(.ref b255)]) (lenOf own_pd3 rfl) rfl (by show 2 * 0 + _ ≤ _; exact Nat.le_of_eq rfl) (hb hby at_124) (fun _ _ => ⟨rfl, e255, (by decide : 2 + 1 ≤ _), (by decide : 7 + 1 ≤ _)⟩)
        dsimp only [Pt.U, Pt.locs, Pt.cells, Pt.slots] at X261 l261 y261 z261 st261 hQ261
        subst l261 y261 z261
        obtain ⟨rfl, N261q, Kq261, FP261_0, FP261_1⟩ := hQ261
        have N261 := Fr.app N254 N261q
        have K261 : Keep h0 T261.heap [] := K255.trans Kq261 (allS (Or.inr sz_b255) all0)
        have F262 : ownAI Z T261.heap b250 .int 3 (ownUpd (ownUpd (ownUpd (fun _ => (0 : Int32)) 0 v247) 1 v248) 2 v249) := F256.keep Kq261 (ninS ne_b250_b255 nin0)
        have F263 : Exa Z T261.heap b255 "com/example/sieveline/sieveline/solver/BitMatrix" := A255.keep Kq261
        refine ownRun (T' := T261) (f' := (mkF m 127 #[iv p0, iv p1, iv p2, iv p3, iv p4, iv v1, iv (3 : Int32), iv v247, iv v248, iv v249, rv b250, .unset, .unset, .unset] [(.ref b255)])) st261 ?_
        refine ow_astore (q := 129) X261 hx (L' := #[iv p0, iv p1, iv p2, iv p3, iv p4, iv v1, iv (3 : Int32), iv v247, iv v248, iv v249, rv b250, rv b255, .unset, .unset]) (hb hby at_127) rfl rfl rfl ?_
        refine ow_aload (q := 131) X261 hx (hb hby at_129) rfl rfl rfl ?_
        refine ow_aload (q := 133) X261 hx (hb hby at_131) rfl rfl rfl ?_
        obtain ⟨cq264, kq264, q264a, q264b, q264c⟩ := isOf hZ rfl FP261_0
        obtain ⟨_, _, ⟨T264, L264, k264, n264⟩, -, X264, ⟨Lc264, hQ264, l264, y264, z264⟩, st264⟩ := X261.virtualBack hx (y := (⟨"com/example/sieveline/sieveline/solver/BitMatrix", "row", "([I)[J"⟩ : MethodName)) (z := (⟨"com/example/sieveline/sieveline/solver/BitMatrix", "row", "([I)[J"⟩ : MethodName)) hown (mvT hZ (hw _ (List.mem_of_getElem? (i := 29) rfl))) (mvT hZ (hw _ (List.mem_of_getElem? (i := 30) rfl))) (notFace_of_selects (args := #[]) (mvT hZ (hw _ (List.mem_of_getElem? (i := 32) rfl)))) (mvT hZ (hw _ (List.mem_of_getElem? (i := 32) rfl))) (mvT hZ (hw _ (List.mem_of_getElem? (i := 31) rfl))) (by decide) (backOf (W := 0) (rm_row_3_1 l Z av0 hw [] b255 b250 (ownUpd (ownUpd (ownUpd (fun _ => (0 : Int32)) 0 v247) 1 v248) 2 v249) T261.heap n0 (Nat.le_trans Z0 K261.1) FP261_1 F262 (own_val hv_v247 hv_v1 hz2 hL.2.2) (own_val hv_v248 hv_v1 hz2 hL.2.2) (own_val hv_v249 hv_v1 hz2 hL.2.2)) hZ (hw _ (List.mem_of_getElem? (i := 33) rfl)) (hw _ (List.mem_of_getElem? (i := 3) rfl)) (by decide) (by decide)) q264a q264c (g := (mkF m 133 #[iv p0, iv p1, iv p2, iv p3, iv p4, iv v1, iv (3 : Int32), iv v247, iv v248, iv v249, rv b250, rv b255, .unset, .unset] [(.ref b250), (.ref b255)])) rfl (by rw [hml]; rfl) (Steps.refl _) (argsL := [(.ref b250)]) (rest := []) (lenOf own_pd4 rfl) rfl (by show 2 * 0 + _ ≤ _; exact Nat.le_of_eq rfl) (hb hby at_133) (fun _ _ => ⟨rfl, rfl, (by decide : 3 + 1 ≤ _), (by decide : 8 + 1 ≤ _)⟩)
        dsimp only [Pt.U, Pt.locs, Pt.cells, Pt.slots] at X264 l264 y264 z264 st264 hQ264
        subst l264 y264 z264
        obtain ⟨b264, rfl, N264q, Kq264, sq264_b264, FP264_0⟩ := hQ264
        have N264 := Fr.app N261 N264q
        have K264 : Keep h0 T264.heap [] := K261.trans Kq264 all0
        have ne_b250_b264 : b250 ≠ b264 := Nat.ne_of_lt (Nat.lt_of_lt_of_le F262.lt sq264_b264)
        have ne_b255_b264 : b255 ≠ b264 := Nat.ne_of_lt (Nat.lt_of_lt_of_le FP261_0.lt sq264_b264)
        have sz_b264 : h0.size ≤ b264 := Nat.le_trans K261.1 sq264_b264
        have G_b264 : n0 ≤ b264 := Nat.le_trans Z0 sz_b264
        have F265 : ownAI Z T264.heap b250 .int 3 (ownUpd (ownUpd (ownUpd (fun _ => (0 : Int32)) 0 v247) 1 v248) 2 v249) := F262.keep Kq264 nin0
        have F266 : Exa Z T264.heap b255 "com/example/sieveline/sieveline/solver/BitMatrix" := FP261_0.keep Kq264
        have F267 : Fld Z T264.heap b255 "com/example/sieveline/sieveline/solver/BitMatrix" "rowWords" "I" (.int (1 : Int32)) := FP261_1.keep Kq264 nin0
        refine ownRun (T' := T264) (f' := (mkF m 136 #[iv p0, iv p1, iv p2, iv p3, iv p4, iv v1, iv (3 : Int32), iv v247, iv v248, iv v249, rv b250, rv b255, .unset, .unset] [(.ref b264)])) st264 ?_
        refine ow_astore (q := 138) X264 hx (L' := #[iv p0, iv p1, iv p2, iv p3, iv p4, iv v1, iv (3 : Int32), iv v247, iv v248, iv v249, rv b250, rv b255, rv b264, .unset]) (hb hby at_136) rfl rfl rfl ?_
        refine ow_iload (q := 140) X264 hx (hb hby at_138) rfl rfl ?_
        refine ow_ifYes (q := 147) X264 hx (hb hby at_140) (Jvm.Free.XT.i0_ne_t hz2) (by decide) (by decide) ?_
        refine ow_iload (q := 149) X264 hx (hb hby at_147) rfl rfl ?_
        refine ow_bipush (q := 151) X264 hx (64 : Int32) (hb hby at_149) rfl rfl ?_
        refine ow_icmpNo (q := 154) X264 hx (hb hby at_151) rfl (Jvm.Free.XT.ii_gt_f (by simp only [Int32.lt_iff_toInt_lt, Int32.reduceToInt]; have := hL.2; omega)) ?_
        refine ow_iconst (q := 155) X264 hx (1 : Int32) (hb hby at_154) rfl rfl ?_
        refine ow_goto (q := 183) X264 hx (hb hby at_155) (by decide) (by decide) ?_
        refine ow_istore (q := 185) X264 hx (L' := #[iv p0, iv p1, iv p2, iv p3, iv p4, iv v1, iv (3 : Int32), iv v247, iv v248, iv v249, rv b250, rv b255, rv b264, iv (1 : Int32)]) (hb hby at_183) rfl rfl ?_
        refine ow_aload (q := 187) X264 hx (hb hby at_185) rfl rfl rfl ?_
        refine ownGo (T' := T264) (f' := (mkF m 190 #[iv p0, iv p1, iv p2, iv p3, iv p4, iv v1, iv (3 : Int32), iv v247, iv v248, iv v249, rv b250, rv b255, rv b264, iv (1 : Int32)] [])) (fun _ k => XS.ifnullNo X264.here hx rfl (hb hby at_187) rfl k) ?_
        refine ow_aload (q := 192) X264 hx (hb hby at_190) rfl rfl rfl ?_
        refine ownGo (T' := T264) (f' := (mkF m 193 #[iv p0, iv p1, iv p2, iv p3, iv p4, iv v1, iv (3 : Int32), iv v247, iv v248, iv v249, rv b250, rv b255, rv b264, iv (1 : Int32)] [(.int (1 : Int32))])) (ownLenJ FP264_0 X264 hx hZ rfl (z := (1 : Int32)) (by decide) (g := (mkF m 192 #[iv p0, iv p1, iv p2, iv p3, iv p4, iv v1, iv (3 : Int32), iv v247, iv v248, iv v249, rv b250, rv b255, rv b264, iv (1 : Int32)] [(.ref b264)])) rfl rfl (hb hby at_192)) ?_
        refine ow_iload (q := 195) X264 hx (hb hby at_193) rfl rfl ?_
        refine ow_icmpYes (q := 200) X264 hx (hb hby at_195) (Jvm.Free.XT.ii_eq_t (by decide)) (by decide) (by decide) ?_
        refine ow_iload (q := 202) X264 hx (hb hby at_200) rfl rfl ?_
        refine ow_ifNo (q := 205) X264 hx (hb hby at_202) rfl (Jvm.Free.XT.i0_le_f (by decide)) ?_
        refine ow_aload (q := 207) X264 hx (hb hby at_205) rfl rfl rfl ?_
        refine ow_iconst (q := 208) X264 hx (0 : Int32) (hb hby at_207) rfl rfl ?_
        refine ownGo (T' := T264) (f' := (mkF m 209 #[iv p0, iv p1, iv p2, iv p3, iv p4, iv v1, iv (3 : Int32), iv v247, iv v248, iv v249, rv b250, rv b255, rv b264, iv (1 : Int32)] [(.long ((own_or1 (own_or1 (own_or1 (fun _ => (0 : Int64)) v247) v248) v249) 0))])) (ownLaload FP264_0 X264 hx hZ rfl (j := (0 : Int32)) (by unfold ownIn; decide) (g := (mkF m 208 #[iv p0, iv p1, iv p2, iv p3, iv p4, iv v1, iv (3 : Int32), iv v247, iv v248, iv v249, rv b250, rv b255, rv b264, iv (1 : Int32)] [(.int (0 : Int32)), (.ref b264)])) rfl rfl (hb hby at_208)) ?_
        generalize hv_v268 : ((own_or1 (own_or1 (own_or1 (fun _ => (0 : Int64)) v247) v248) v249) 0) = v268
        refine ow_iconst (q := 210) X264 hx (0 : Int32) (hb hby at_209) rfl rfl ?_
        refine ow_iload (q := 212) X264 hx (hb hby at_210) rfl rfl ?_
        refine ow_iload (q := 214) X264 hx (hb hby at_212) rfl rfl ?_
        refine ow_iload (q := 216) X264 hx (hb hby at_214) rfl rfl ?_
        refine ow_iload (q := 218) X264 hx (hb hby at_216) rfl rfl ?_
        obtain ⟨_, _, ⟨T269, L269, k269, n269⟩, -, X269, ⟨Lc269, hQ269, l269, y269, z269⟩, st269⟩ := Jvm.LawKit.callS X264 hx (y := (⟨"com/example/sieveline/sieveline/solver/BitMatrixRowPinLaw", "expect", "(IIIII)J"⟩ : MethodName)) hown (mvT hZ (hw _ (List.mem_of_getElem? (i := 35) rfl))) (mvT hZ (hw _ (List.mem_of_getElem? (i := 36) rfl))) (mvT hZ (hw _ (List.mem_of_getElem? (i := 37) rfl))) (mvT hZ (hw _ (List.mem_of_getElem? (i := 38) rfl))) (by decide) (backOf (W := 2) (rm_exp_0_3 l Z av0 hw [] v247 v248 v249 T264.heap n0 (Nat.le_trans Z0 K264.1) ) hZ (hw _ (List.mem_of_getElem? (i := 38) rfl)) (hw _ (List.mem_of_getElem? (i := 37) rfl)) (by decide) (by decide)) (g := (mkF m 218 #[iv p0, iv p1, iv p2, iv p3, iv p4, iv v1, iv (3 : Int32), iv v247, iv v248, iv v249, rv b250, rv b255, rv b264, iv (1 : Int32)] [(.int v249), (.int v248), (.int v247), (.int (3 : Int32)), (.int (0 : Int32)), (.long v268)])) rfl (by rw [hml]; rfl) (argsL := [(.int (0 : Int32)), (.int (3 : Int32)), (.int v247), (.int v248), (.int v249)]) (rest := [(.long v268)]) (lenOf own_pd5 rfl) rfl (by show 2 * 0 + _ ≤ _; exact Nat.le_of_eq rfl) (hb hby at_218) (fun _ _ => ⟨rfl, rfl, (by decide : 4 + 0 ≤ _), (by decide : 9 + 0 ≤ _)⟩)
        dsimp only [Pt.U, Pt.locs, Pt.cells, Pt.slots] at X269 l269 y269 z269 st269 hQ269
        subst l269 y269 z269
        obtain ⟨rfl, N269q, e269⟩ := hQ269
        have N269 := Fr.app N264 N269q
        refine ownGo (T' := T269) (f' := (mkF m 221 #[iv p0, iv p1, iv p2, iv p3, iv p4, iv v1, iv (3 : Int32), iv v247, iv v248, iv v249, rv b250, rv b255, rv b264, iv (1 : Int32)] [(.long ((((0 : Int64) ||| (own_Bw (0 : Int32) (64 : Int32) v247)) ||| (own_Bw (0 : Int32) (64 : Int32) v248)) ||| (own_Bw (0 : Int32) (64 : Int32) v249))), (.long v268)])) (st269) ?_
        refine ow_lcmp (q := 222) X269 hx _ (hb hby at_221) rfl rfl ?_
        refine ow_ifYes (q := 227) X269 hx (hb hby at_222) (Jvm.Free.XT.ll_eq_t (by rw [← hv_v268]; exact own_cmp_0_3 (own_lt (own_val hv_v247 hv_v1 hz2 hL.2.2)) (own_lt (own_val hv_v248 hv_v1 hz2 hL.2.2)) (own_lt (own_val hv_v249 hv_v1 hz2 hL.2.2)))) (by decide) (by decide) ?_
        refine ow_iload (q := 229) X269 hx (hb hby at_227) rfl rfl ?_
        refine ow_iconst (q := 230) X269 hx (1 : Int32) (hb hby at_229) rfl rfl ?_
        refine ow_icmpYes (q := 255) X269 hx (hb hby at_230) (Jvm.Free.XT.ii_le_t (by decide)) (by decide) (by decide) ?_
        refine ow_iload (q := 257) X269 hx (hb hby at_255) rfl rfl ?_
        refine ow_iconst (q := 258) X269 hx (2 : Int32) (hb hby at_257) rfl rfl ?_
        refine ow_icmpYes (q := 283) X269 hx (hb hby at_258) (Jvm.Free.XT.ii_le_t (by decide)) (by decide) (by decide) ?_
        refine ow_iload (q := 285) X269 hx (hb hby at_283) rfl rfl ?_
        refine ow_iconst (q := 286) X269 hx (3 : Int32) (hb hby at_285) rfl rfl ?_
        refine ow_icmpYes (q := 311) X269 hx (hb hby at_286) (Jvm.Free.XT.ii_le_t (by decide)) (by decide) (by decide) ?_
        refine ow_iconst (q := 312) X269 hx (1 : Int32) (hb hby at_311) rfl rfl ?_
        refine ownRetN X269 hx (r := (1 : Int32)) (Or.inl rfl) Bd.returns (hb hby at_312) hlk (by decide) (by decide) (by decide) ?_
        exact ⟨rfl, N269⟩
      · obtain ⟨T270, h270, X270, e270, E270, A270, D270, -, st270⟩ := newO X254 hx hZ hown (hw _ (List.mem_of_getElem? (i := 1) rfl)) (hw _ (List.mem_of_getElem? (i := 2) rfl)) (hw _ (List.mem_of_getElem? (i := 3) rfl)) e254 (g := (mkF m 117 #[iv p0, iv p1, iv p2, iv p3, iv p4, iv v1, iv (3 : Int32), iv v247, iv v248, iv v249, rv b250, .unset, .unset, .unset] [])) rfl (hb hby at_117) (by decide) (by decide)
        obtain ⟨b270, g270⟩ : ∃ z, z = h254.size := ⟨_, rfl⟩
        rw [← g270] at A270 D270 st270
        have ne_b250_b270 : b250 ≠ b270 := Nat.ne_of_lt (Nat.lt_of_lt_of_le F254r.lt (Nat.le_of_eq g270.symm))
        have sz_b270 : h0.size ≤ b270 := Nat.le_trans K254.1 (Nat.le_of_eq g270.symm)
        have G_b270 : n0 ≤ b270 := Nat.le_trans Z0 sz_b270
        have K270 : Keep h0 h270 [] := K254.ext E270
        have F271 : ownAI Z h270 b250 .int 3 (ownUpd (ownUpd (ownUpd (fun _ => (0 : Int32)) 0 v247) 1 v248) 2 v249) := F254r.ext E270
        have F272 : Fld Z h270 b270 "com/example/sieveline/sieveline/solver/BitMatrix" "rowWords" "I" (.int (0 : Int32)) := D270 (Or.inr (hw _ (List.mem_of_getElem? (i := 14) rfl))) (ty := .int) (by decide)
        have F273 : Fld Z h270 b270 "com/example/sieveline/sieveline/solver/BitMatrix" "words" "[J" .null := D270 (Or.inr (hw _ (List.mem_of_getElem? (i := 24) rfl))) (ty := (.array .long)) (by decide)
        have F274 : Fld Z h270 b270 "com/example/sieveline/sieveline/solver/BitMatrix" "rows" "I" (.int (0 : Int32)) := D270 (Or.inr (hw _ (List.mem_of_getElem? (i := 26) rfl))) (ty := .int) (by decide)
        have F275 : Fld Z h270 b270 "com/example/sieveline/sieveline/solver/BitMatrix" "columns" "I" (.int (0 : Int32)) := D270 (Or.inr (hw _ (List.mem_of_getElem? (i := 28) rfl))) (ty := .int) (by decide)
        refine ownGo (T' := T270) (f' := (mkF m 120 #[iv p0, iv p1, iv p2, iv p3, iv p4, iv v1, iv (3 : Int32), iv v247, iv v248, iv v249, rv b250, .unset, .unset, .unset] [(.ref b270)])) (st270) ?_
        refine ow_dup (q := 121) X270 hx (hb hby at_120) rfl rfl ?_
        refine ow_iconst (q := 122) X270 hx (1 : Int32) (hb hby at_121) rfl rfl ?_
        refine ow_iload (q := 124) X270 hx (hb hby at_122) rfl rfl ?_
        obtain ⟨_, _, ⟨T276, L276, k276, n276⟩, -, X276, ⟨Lc276, hQ276, l276, y276, z276⟩, st276⟩ := X270.specialBack hx (y := (⟨"com/example/sieveline/sieveline/solver/BitMatrix", "<init>", "(II)V"⟩ : MethodName)) rfl hown (mvT hZ (hw _ (List.mem_of_getElem? (i := 4) rfl))) (mvT hZ (hw _ (List.mem_of_getElem? (i := 5) rfl))) (mvT hZ (hw _ (List.mem_of_getElem? (i := 6) rfl))) (by decide) (backOf (W := 1) (rm_init_2 l Z av0 hw [] b270 v1 h270 n0 (Nat.le_trans Z0 K270.1) A270 F272 F273 F274 F275 G_b270 hL.1) hZ (hw _ (List.mem_of_getElem? (i := 6) rfl)) (hw _ (List.mem_of_getElem? (i := 3) rfl)) (by decide) (by decide)) (g := (mkF m 124 #[iv p0, iv p1, iv p2, iv p3, iv p4, iv v1, iv (3 : Int32), iv v247, iv v248, iv v249, rv b250, .unset, .unset, .unset] [(.int v1), (.int (1 : Int32)), (.ref b270), (.ref b270)])) rfl (by rw [hml]; rfl) (Steps.refl _) (a := b270) (argsL := [(.int (1 : Int32)), (.int v1)]) (rest := [(.ref b270)]) (lenOf own_pd3 rfl) rfl (by show 2 * 0 + _ ≤ _; exact Nat.le_of_eq rfl) (hb hby at_124) (fun _ _ => ⟨rfl, e270, (by decide : 2 + 1 ≤ _), (by decide : 7 + 2 ≤ _)⟩)
        dsimp only [Pt.U, Pt.locs, Pt.cells, Pt.slots] at X276 l276 y276 z276 st276 hQ276
        subst l276 y276 z276
        obtain ⟨rfl, N276q, Kq276, FP276_0, FP276_1⟩ := hQ276
        have N276 := Fr.app N254 N276q
        have K276 : Keep h0 T276.heap [] := K270.trans Kq276 (allS (Or.inr sz_b270) all0)
        have F277 : ownAI Z T276.heap b250 .int 3 (ownUpd (ownUpd (ownUpd (fun _ => (0 : Int32)) 0 v247) 1 v248) 2 v249) := F271.keep Kq276 (ninS ne_b250_b270 nin0)
        have F278 : Exa Z T276.heap b270 "com/example/sieveline/sieveline/solver/BitMatrix" := A270.keep Kq276
        refine ownRun (T' := T276) (f' := (mkF m 127 #[iv p0, iv p1, iv p2, iv p3, iv p4, iv v1, iv (3 : Int32), iv v247, iv v248, iv v249, rv b250, .unset, .unset, .unset] [(.ref b270)])) st276 ?_
        refine ow_astore (q := 129) X276 hx (L' := #[iv p0, iv p1, iv p2, iv p3, iv p4, iv v1, iv (3 : Int32), iv v247, iv v248, iv v249, rv b250, rv b270, .unset, .unset]) (hb hby at_127) rfl rfl rfl ?_
        refine ow_aload (q := 131) X276 hx (hb hby at_129) rfl rfl rfl ?_
        refine ow_aload (q := 133) X276 hx (hb hby at_131) rfl rfl rfl ?_
        obtain ⟨cq279, kq279, q279a, q279b, q279c⟩ := isOf hZ rfl FP276_0
        obtain ⟨_, _, ⟨T279, L279, k279, n279⟩, -, X279, ⟨Lc279, hQ279, l279, y279, z279⟩, st279⟩ := X276.virtualBack hx (y := (⟨"com/example/sieveline/sieveline/solver/BitMatrix", "row", "([I)[J"⟩ : MethodName)) (z := (⟨"com/example/sieveline/sieveline/solver/BitMatrix", "row", "([I)[J"⟩ : MethodName)) hown (mvT hZ (hw _ (List.mem_of_getElem? (i := 29) rfl))) (mvT hZ (hw _ (List.mem_of_getElem? (i := 30) rfl))) (notFace_of_selects (args := #[]) (mvT hZ (hw _ (List.mem_of_getElem? (i := 32) rfl)))) (mvT hZ (hw _ (List.mem_of_getElem? (i := 32) rfl))) (mvT hZ (hw _ (List.mem_of_getElem? (i := 31) rfl))) (by decide) (backOf (W := 0) (rm_row_3_2 l Z av0 hw [] b270 b250 (ownUpd (ownUpd (ownUpd (fun _ => (0 : Int32)) 0 v247) 1 v248) 2 v249) T276.heap n0 (Nat.le_trans Z0 K276.1) FP276_1 F277 (own_val hv_v247 hv_v1 hz2 hL.2.2) (own_val hv_v248 hv_v1 hz2 hL.2.2) (own_val hv_v249 hv_v1 hz2 hL.2.2)) hZ (hw _ (List.mem_of_getElem? (i := 33) rfl)) (hw _ (List.mem_of_getElem? (i := 3) rfl)) (by decide) (by decide)) q279a q279c (g := (mkF m 133 #[iv p0, iv p1, iv p2, iv p3, iv p4, iv v1, iv (3 : Int32), iv v247, iv v248, iv v249, rv b250, rv b270, .unset, .unset] [(.ref b250), (.ref b270)])) rfl (by rw [hml]; rfl) (Steps.refl _) (argsL := [(.ref b250)]) (rest := []) (lenOf own_pd4 rfl) rfl (by show 2 * 0 + _ ≤ _; exact Nat.le_of_eq rfl) (hb hby at_133) (fun _ _ => ⟨rfl, rfl, (by decide : 3 + 1 ≤ _), (by decide : 9 + 2 ≤ _)⟩)
        dsimp only [Pt.U, Pt.locs, Pt.cells, Pt.slots] at X279 l279 y279 z279 st279 hQ279
        subst l279 y279 z279
        obtain ⟨b279, rfl, N279q, Kq279, sq279_b279, FP279_0⟩ := hQ279
        have N279 := Fr.app N276 N279q
        have K279 : Keep h0 T279.heap [] := K276.trans Kq279 all0
        have ne_b250_b279 : b250 ≠ b279 := Nat.ne_of_lt (Nat.lt_of_lt_of_le F277.lt sq279_b279)
        have ne_b270_b279 : b270 ≠ b279 := Nat.ne_of_lt (Nat.lt_of_lt_of_le FP276_0.lt sq279_b279)
        have sz_b279 : h0.size ≤ b279 := Nat.le_trans K276.1 sq279_b279
        have G_b279 : n0 ≤ b279 := Nat.le_trans Z0 sz_b279
        have F280 : ownAI Z T279.heap b250 .int 3 (ownUpd (ownUpd (ownUpd (fun _ => (0 : Int32)) 0 v247) 1 v248) 2 v249) := F277.keep Kq279 nin0
        have F281 : Exa Z T279.heap b270 "com/example/sieveline/sieveline/solver/BitMatrix" := FP276_0.keep Kq279
        have F282 : Fld Z T279.heap b270 "com/example/sieveline/sieveline/solver/BitMatrix" "rowWords" "I" (.int (2 : Int32)) := FP276_1.keep Kq279 nin0
        refine ownRun (T' := T279) (f' := (mkF m 136 #[iv p0, iv p1, iv p2, iv p3, iv p4, iv v1, iv (3 : Int32), iv v247, iv v248, iv v249, rv b250, rv b270, .unset, .unset] [(.ref b279)])) st279 ?_
        refine ow_astore (q := 138) X279 hx (L' := #[iv p0, iv p1, iv p2, iv p3, iv p4, iv v1, iv (3 : Int32), iv v247, iv v248, iv v249, rv b250, rv b270, rv b279, .unset]) (hb hby at_136) rfl rfl rfl ?_
        refine ow_iload (q := 140) X279 hx (hb hby at_138) rfl rfl ?_
        refine ow_ifYes (q := 147) X279 hx (hb hby at_140) (Jvm.Free.XT.i0_ne_t hz2) (by decide) (by decide) ?_
        refine ow_iload (q := 149) X279 hx (hb hby at_147) rfl rfl ?_
        refine ow_bipush (q := 151) X279 hx (64 : Int32) (hb hby at_149) rfl rfl ?_
        refine ow_icmpYes (q := 158) X279 hx (hb hby at_151) (Jvm.Free.XT.ii_gt_t (by simp only [Int32.lt_iff_toInt_lt, Int32.reduceToInt]; have := hL.2; omega)) (by decide) (by decide) ?_
        refine ow_iload (q := 160) X279 hx (hb hby at_158) rfl rfl ?_
        refine ow_sipush (q := 163) X279 hx (128 : Int32) (hb hby at_160) rfl rfl ?_
        refine ow_icmpNo (q := 166) X279 hx (hb hby at_163) rfl (Jvm.Free.XT.ii_gt_f (by simp only [Int32.lt_iff_toInt_lt, Int32.reduceToInt]; have := hL.2; omega)) ?_
        refine ow_iconst (q := 167) X279 hx (2 : Int32) (hb hby at_166) rfl rfl ?_
        refine ow_goto (q := 183) X279 hx (hb hby at_167) (by decide) (by decide) ?_
        refine ow_istore (q := 185) X279 hx (L' := #[iv p0, iv p1, iv p2, iv p3, iv p4, iv v1, iv (3 : Int32), iv v247, iv v248, iv v249, rv b250, rv b270, rv b279, iv (2 : Int32)]) (hb hby at_183) rfl rfl ?_
        refine ow_aload (q := 187) X279 hx (hb hby at_185) rfl rfl rfl ?_
        refine ownGo (T' := T279) (f' := (mkF m 190 #[iv p0, iv p1, iv p2, iv p3, iv p4, iv v1, iv (3 : Int32), iv v247, iv v248, iv v249, rv b250, rv b270, rv b279, iv (2 : Int32)] [])) (fun _ k => XS.ifnullNo X279.here hx rfl (hb hby at_187) rfl k) ?_
        refine ow_aload (q := 192) X279 hx (hb hby at_190) rfl rfl rfl ?_
        refine ownGo (T' := T279) (f' := (mkF m 193 #[iv p0, iv p1, iv p2, iv p3, iv p4, iv v1, iv (3 : Int32), iv v247, iv v248, iv v249, rv b250, rv b270, rv b279, iv (2 : Int32)] [(.int (2 : Int32))])) (ownLenJ FP279_0 X279 hx hZ rfl (z := (2 : Int32)) (by decide) (g := (mkF m 192 #[iv p0, iv p1, iv p2, iv p3, iv p4, iv v1, iv (3 : Int32), iv v247, iv v248, iv v249, rv b250, rv b270, rv b279, iv (2 : Int32)] [(.ref b279)])) rfl rfl (hb hby at_192)) ?_
        refine ow_iload (q := 195) X279 hx (hb hby at_193) rfl rfl ?_
        refine ow_icmpYes (q := 200) X279 hx (hb hby at_195) (Jvm.Free.XT.ii_eq_t (by decide)) (by decide) (by decide) ?_
        refine ow_iload (q := 202) X279 hx (hb hby at_200) rfl rfl ?_
        refine ow_ifNo (q := 205) X279 hx (hb hby at_202) rfl (Jvm.Free.XT.i0_le_f (by decide)) ?_
        refine ow_aload (q := 207) X279 hx (hb hby at_205) rfl rfl rfl ?_
        refine ow_iconst (q := 208) X279 hx (0 : Int32) (hb hby at_207) rfl rfl ?_
        refine ownGo (T' := T279) (f' := (mkF m 209 #[iv p0, iv p1, iv p2, iv p3, iv p4, iv v1, iv (3 : Int32), iv v247, iv v248, iv v249, rv b250, rv b270, rv b279, iv (2 : Int32)] [(.long ((own_or1 (own_or1 (own_or1 (fun _ => (0 : Int64)) v247) v248) v249) 0))])) (ownLaload FP279_0 X279 hx hZ rfl (j := (0 : Int32)) (by unfold ownIn; decide) (g := (mkF m 208 #[iv p0, iv p1, iv p2, iv p3, iv p4, iv v1, iv (3 : Int32), iv v247, iv v248, iv v249, rv b250, rv b270, rv b279, iv (2 : Int32)] [(.int (0 : Int32)), (.ref b279)])) rfl rfl (hb hby at_208)) ?_
        generalize hv_v283 : ((own_or1 (own_or1 (own_or1 (fun _ => (0 : Int64)) v247) v248) v249) 0) = v283
        refine ow_iconst (q := 210) X279 hx (0 : Int32) (hb hby at_209) rfl rfl ?_
        refine ow_iload (q := 212) X279 hx (hb hby at_210) rfl rfl ?_
        refine ow_iload (q := 214) X279 hx (hb hby at_212) rfl rfl ?_
        refine ow_iload (q := 216) X279 hx (hb hby at_214) rfl rfl ?_
        refine ow_iload (q := 218) X279 hx (hb hby at_216) rfl rfl ?_
        obtain ⟨_, _, ⟨T284, L284, k284, n284⟩, -, X284, ⟨Lc284, hQ284, l284, y284, z284⟩, st284⟩ := Jvm.LawKit.callS X279 hx (y := (⟨"com/example/sieveline/sieveline/solver/BitMatrixRowPinLaw", "expect", "(IIIII)J"⟩ : MethodName)) hown (mvT hZ (hw _ (List.mem_of_getElem? (i := 35) rfl))) (mvT hZ (hw _ (List.mem_of_getElem? (i := 36) rfl))) (mvT hZ (hw _ (List.mem_of_getElem? (i := 37) rfl))) (mvT hZ (hw _ (List.mem_of_getElem? (i := 38) rfl))) (by decide) (backOf (W := 2) (rm_exp_0_3 l Z av0 hw [] v247 v248 v249 T279.heap n0 (Nat.le_trans Z0 K279.1) ) hZ (hw _ (List.mem_of_getElem? (i := 38) rfl)) (hw _ (List.mem_of_getElem? (i := 37) rfl)) (by decide) (by decide)) (g := (mkF m 218 #[iv p0, iv p1, iv p2, iv p3, iv p4, iv v1, iv (3 : Int32), iv v247, iv v248, iv v249, rv b250, rv b270, rv b279, iv (2 : Int32)] [(.int v249), (.int v248), (.int v247), (.int (3 : Int32)), (.int (0 : Int32)), (.long v283)])) rfl (by rw [hml]; rfl) (argsL := [(.int (0 : Int32)), (.int (3 : Int32)), (.int v247), (.int v248), (.int v249)]) (rest := [(.long v283)]) (lenOf own_pd5 rfl) rfl (by show 2 * 0 + _ ≤ _; exact Nat.le_of_eq rfl) (hb hby at_218) (fun _ _ => ⟨rfl, rfl, (by decide : 4 + 0 ≤ _), (by decide : 11 + 0 ≤ _)⟩)
        dsimp only [Pt.U, Pt.locs, Pt.cells, Pt.slots] at X284 l284 y284 z284 st284 hQ284
        subst l284 y284 z284
        obtain ⟨rfl, N284q, e284⟩ := hQ284
        have N284 := Fr.app N279 N284q
        refine ownGo (T' := T284) (f' := (mkF m 221 #[iv p0, iv p1, iv p2, iv p3, iv p4, iv v1, iv (3 : Int32), iv v247, iv v248, iv v249, rv b250, rv b270, rv b279, iv (2 : Int32)] [(.long ((((0 : Int64) ||| (own_Bw (0 : Int32) (64 : Int32) v247)) ||| (own_Bw (0 : Int32) (64 : Int32) v248)) ||| (own_Bw (0 : Int32) (64 : Int32) v249))), (.long v283)])) (st284) ?_
        refine ow_lcmp (q := 222) X284 hx _ (hb hby at_221) rfl rfl ?_
        refine ow_ifYes (q := 227) X284 hx (hb hby at_222) (Jvm.Free.XT.ll_eq_t (by rw [← hv_v283]; exact own_cmp_0_3 (own_lt (own_val hv_v247 hv_v1 hz2 hL.2.2)) (own_lt (own_val hv_v248 hv_v1 hz2 hL.2.2)) (own_lt (own_val hv_v249 hv_v1 hz2 hL.2.2)))) (by decide) (by decide) ?_
        refine ow_iload (q := 229) X284 hx (hb hby at_227) rfl rfl ?_
        refine ow_iconst (q := 230) X284 hx (1 : Int32) (hb hby at_229) rfl rfl ?_
        refine ow_icmpNo (q := 233) X284 hx (hb hby at_230) rfl (Jvm.Free.XT.ii_le_f (by decide)) ?_
        refine ow_aload (q := 235) X284 hx (hb hby at_233) rfl rfl rfl ?_
        refine ow_iconst (q := 236) X284 hx (1 : Int32) (hb hby at_235) rfl rfl ?_
        refine ownGo (T' := T284) (f' := (mkF m 237 #[iv p0, iv p1, iv p2, iv p3, iv p4, iv v1, iv (3 : Int32), iv v247, iv v248, iv v249, rv b250, rv b270, rv b279, iv (2 : Int32)] [(.long ((own_or1 (own_or1 (own_or1 (fun _ => (0 : Int64)) v247) v248) v249) 1))])) (ownLaload FP279_0 X284 hx hZ e284 (j := (1 : Int32)) (by unfold ownIn; decide) (g := (mkF m 236 #[iv p0, iv p1, iv p2, iv p3, iv p4, iv v1, iv (3 : Int32), iv v247, iv v248, iv v249, rv b250, rv b270, rv b279, iv (2 : Int32)] [(.int (1 : Int32)), (.ref b279)])) rfl rfl (hb hby at_236)) ?_
        generalize hv_v285 : ((own_or1 (own_or1 (own_or1 (fun _ => (0 : Int64)) v247) v248) v249) 1) = v285
        refine ow_iconst (q := 238) X284 hx (1 : Int32) (hb hby at_237) rfl rfl ?_
        refine ow_iload (q := 240) X284 hx (hb hby at_238) rfl rfl ?_
        refine ow_iload (q := 242) X284 hx (hb hby at_240) rfl rfl ?_
        refine ow_iload (q := 244) X284 hx (hb hby at_242) rfl rfl ?_
        refine ow_iload (q := 246) X284 hx (hb hby at_244) rfl rfl ?_
        obtain ⟨_, _, ⟨T286, L286, k286, n286⟩, -, X286, ⟨Lc286, hQ286, l286, y286, z286⟩, st286⟩ := Jvm.LawKit.callS X284 hx (y := (⟨"com/example/sieveline/sieveline/solver/BitMatrixRowPinLaw", "expect", "(IIIII)J"⟩ : MethodName)) hown (mvT hZ (hw _ (List.mem_of_getElem? (i := 35) rfl))) (mvT hZ (hw _ (List.mem_of_getElem? (i := 36) rfl))) (mvT hZ (hw _ (List.mem_of_getElem? (i := 37) rfl))) (mvT hZ (hw _ (List.mem_of_getElem? (i := 38) rfl))) (by decide) (backOf (W := 2) (rm_exp_1_3 l Z av0 hw [] v247 v248 v249 T279.heap n0 (Nat.le_trans Z0 K279.1) ) hZ (hw _ (List.mem_of_getElem? (i := 38) rfl)) (hw _ (List.mem_of_getElem? (i := 37) rfl)) (by decide) (by decide)) (g := (mkF m 246 #[iv p0, iv p1, iv p2, iv p3, iv p4, iv v1, iv (3 : Int32), iv v247, iv v248, iv v249, rv b250, rv b270, rv b279, iv (2 : Int32)] [(.int v249), (.int v248), (.int v247), (.int (3 : Int32)), (.int (1 : Int32)), (.long v285)])) rfl (by rw [hml]; rfl) (argsL := [(.int (1 : Int32)), (.int (3 : Int32)), (.int v247), (.int v248), (.int v249)]) (rest := [(.long v285)]) (lenOf own_pd5 rfl) rfl (by show 2 * 0 + _ ≤ _; exact Nat.le_of_eq rfl) (hb hby at_246) (fun _ _ => ⟨rfl, e284, (by decide : 4 + 0 ≤ _), (by decide : 11 + 0 ≤ _)⟩)
        dsimp only [Pt.U, Pt.locs, Pt.cells, Pt.slots] at X286 l286 y286 z286 st286 hQ286
        subst l286 y286 z286
        obtain ⟨rfl, N286q, e286⟩ := hQ286
        have N286 := Fr.app N284 N286q
        refine ownGo (T' := T286) (f' := (mkF m 249 #[iv p0, iv p1, iv p2, iv p3, iv p4, iv v1, iv (3 : Int32), iv v247, iv v248, iv v249, rv b250, rv b270, rv b279, iv (2 : Int32)] [(.long ((((0 : Int64) ||| (own_Bw (64 : Int32) (128 : Int32) v247)) ||| (own_Bw (64 : Int32) (128 : Int32) v248)) ||| (own_Bw (64 : Int32) (128 : Int32) v249))), (.long v285)])) (st286) ?_
        refine ow_lcmp (q := 250) X286 hx _ (hb hby at_249) rfl rfl ?_
        refine ow_ifYes (q := 255) X286 hx (hb hby at_250) (Jvm.Free.XT.ll_eq_t (by rw [← hv_v285]; exact own_cmp_1_3 (own_lt (own_val hv_v247 hv_v1 hz2 hL.2.2)) (own_lt (own_val hv_v248 hv_v1 hz2 hL.2.2)) (own_lt (own_val hv_v249 hv_v1 hz2 hL.2.2)))) (by decide) (by decide) ?_
        refine ow_iload (q := 257) X286 hx (hb hby at_255) rfl rfl ?_
        refine ow_iconst (q := 258) X286 hx (2 : Int32) (hb hby at_257) rfl rfl ?_
        refine ow_icmpYes (q := 283) X286 hx (hb hby at_258) (Jvm.Free.XT.ii_le_t (by decide)) (by decide) (by decide) ?_
        refine ow_iload (q := 285) X286 hx (hb hby at_283) rfl rfl ?_
        refine ow_iconst (q := 286) X286 hx (3 : Int32) (hb hby at_285) rfl rfl ?_
        refine ow_icmpYes (q := 311) X286 hx (hb hby at_286) (Jvm.Free.XT.ii_le_t (by decide)) (by decide) (by decide) ?_
        refine ow_iconst (q := 312) X286 hx (1 : Int32) (hb hby at_311) rfl rfl ?_
        refine ownRetN X286 hx (r := (1 : Int32)) (Or.inl rfl) Bd.returns (hb hby at_312) hlk (by decide) (by decide) (by decide) ?_
        exact ⟨rfl, N286⟩
      · obtain ⟨T287, h287, X287, e287, E287, A287, D287, -, st287⟩ := newO X254 hx hZ hown (hw _ (List.mem_of_getElem? (i := 1) rfl)) (hw _ (List.mem_of_getElem? (i := 2) rfl)) (hw _ (List.mem_of_getElem? (i := 3) rfl)) e254 (g := (mkF m 117 #[iv p0, iv p1, iv p2, iv p3, iv p4, iv v1, iv (3 : Int32), iv v247, iv v248, iv v249, rv b250, .unset, .unset, .unset] [])) rfl (hb hby at_117) (by decide) (by decide)
        obtain ⟨b287, g287⟩ : ∃ z, z = h254.size := ⟨_, rfl⟩
        rw [← g287] at A287 D287 st287
        have ne_b250_b287 : b250 ≠ b287 := Nat.ne_of_lt (Nat.lt_of_lt_of_le F254r.lt (Nat.le_of_eq g287.symm))
        have sz_b287 : h0.size ≤ b287 := Nat.le_trans K254.1 (Nat.le_of_eq g287.symm)
        have G_b287 : n0 ≤ b287 := Nat.le_trans Z0 sz_b287
        have K287 : Keep h0 h287 [] := K254.ext E287
        have F288 : ownAI Z h287 b250 .int 3 (ownUpd (ownUpd (ownUpd (fun _ => (0 : Int32)) 0 v247) 1 v248) 2 v249) := F254r.ext E287
        have F289 : Fld Z h287 b287 "com/example/sieveline/sieveline/solver/BitMatrix" "rowWords" "I" (.int (0 : Int32)) := D287 (Or.inr (hw _ (List.mem_of_getElem? (i := 14) rfl))) (ty := .int) (by decide)
        have F290 : Fld Z h287 b287 "com/example/sieveline/sieveline/solver/BitMatrix" "words" "[J" .null := D287 (Or.inr (hw _ (List.mem_of_getElem? (i := 24) rfl))) (ty := (.array .long)) (by decide)
        have F291 : Fld Z h287 b287 "com/example/sieveline/sieveline/solver/BitMatrix" "rows" "I" (.int (0 : Int32)) := D287 (Or.inr (hw _ (List.mem_of_getElem? (i := 26) rfl))) (ty := .int) (by decide)
        have F292 : Fld Z h287 b287 "com/example/sieveline/sieveline/solver/BitMatrix" "columns" "I" (.int (0 : Int32)) := D287 (Or.inr (hw _ (List.mem_of_getElem? (i := 28) rfl))) (ty := .int) (by decide)
        refine ownGo (T' := T287) (f' := (mkF m 120 #[iv p0, iv p1, iv p2, iv p3, iv p4, iv v1, iv (3 : Int32), iv v247, iv v248, iv v249, rv b250, .unset, .unset, .unset] [(.ref b287)])) (st287) ?_
        refine ow_dup (q := 121) X287 hx (hb hby at_120) rfl rfl ?_
        refine ow_iconst (q := 122) X287 hx (1 : Int32) (hb hby at_121) rfl rfl ?_
        refine ow_iload (q := 124) X287 hx (hb hby at_122) rfl rfl ?_
        obtain ⟨_, _, ⟨T293, L293, k293, n293⟩, -, X293, ⟨Lc293, hQ293, l293, y293, z293⟩, st293⟩ := X287.specialBack hx (y := (⟨"com/example/sieveline/sieveline/solver/BitMatrix", "<init>", "(II)V"⟩ : MethodName)) rfl hown (mvT hZ (hw _ (List.mem_of_getElem? (i := 4) rfl))) (mvT hZ (hw _ (List.mem_of_getElem? (i := 5) rfl))) (mvT hZ (hw _ (List.mem_of_getElem? (i := 6) rfl))) (by decide) (backOf (W := 1) (rm_init_3 l Z av0 hw [] b287 v1 h287 n0 (Nat.le_trans Z0 K287.1) A287 F289 F290 F291 F292 G_b287 hL.1) hZ (hw _ (List.mem_of_getElem? (i := 6) rfl)) (hw _ (List.mem_of_getElem? (i := 3) rfl)) (by decide) (by decide)) (g := (mkF m 124 #[iv p0, iv p1, iv p2, iv p3, iv p4, iv v1, iv (3 : Int32), iv v247, iv v248, iv v249, rv b250, .unset, .unset, .unset] [(.int v1), (.int (1 : Int32)), (.ref b287), (.ref b287)])) rfl (by rw [hml]; rfl) (Steps.refl _) (a := b287) (argsL := [(.int (1 : Int32)), (.int v1)]) (rest := [(.ref b287)]) (lenOf own_pd3 rfl) rfl (by show 2 * 0 + _ ≤ _; exact Nat.le_of_eq rfl) (hb hby at_124) (fun _ _ => ⟨rfl, e287, (by decide : 2 + 1 ≤ _), (by decide : 7 + 3 ≤ _)⟩)
        dsimp only [Pt.U, Pt.locs, Pt.cells, Pt.slots] at X293 l293 y293 z293 st293 hQ293
        subst l293 y293 z293
        obtain ⟨rfl, N293q, Kq293, FP293_0, FP293_1⟩ := hQ293
        have N293 := Fr.app N254 N293q
        have K293 : Keep h0 T293.heap [] := K287.trans Kq293 (allS (Or.inr sz_b287) all0)
        have F294 : ownAI Z T293.heap b250 .int 3 (ownUpd (ownUpd (ownUpd (fun _ => (0 : Int32)) 0 v247) 1 v248) 2 v249) := F288.keep Kq293 (ninS ne_b250_b287 nin0)
        have F295 : Exa Z T293.heap b287 "com/example/sieveline/sieveline/solver/BitMatrix" := A287.keep Kq293
        refine ownRun (T' := T293) (f' := (mkF m 127 #[iv p0, iv p1, iv p2, iv p3, iv p4, iv v1, iv (3 : Int32), iv v247, iv v248, iv v249, rv b250, .unset, .unset, .unset] [(.ref b287)])) st293 ?_
        refine ow_astore (q := 129) X293 hx (L' := #[iv p0, iv p1, iv p2, iv p3, iv p4, iv v1, iv (3 : Int32), iv v247, iv v248, iv v249, rv b250, rv b287, .unset, .unset]) (hb hby at_127) rfl rfl rfl ?_
        refine ow_aload (q := 131) X293 hx (hb hby at_129) rfl rfl rfl ?_
        refine ow_aload (q := 133) X293 hx (hb hby at_131) rfl rfl rfl ?_
        obtain ⟨cq296, kq296, q296a, q296b, q296c⟩ := isOf hZ rfl FP293_0
        obtain ⟨_, _, ⟨T296, L296, k296, n296⟩, -, X296, ⟨Lc296, hQ296, l296, y296, z296⟩, st296⟩ := X293.virtualBack hx (y := (⟨"com/example/sieveline/sieveline/solver/BitMatrix", "row", "([I)[J"⟩ : MethodName)) (z := (⟨"com/example/sieveline/sieveline/solver/BitMatrix", "row", "([I)[J"⟩ : MethodName)) hown (mvT hZ (hw _ (List.mem_of_getElem? (i := 29) rfl))) (mvT hZ (hw _ (List.mem_of_getElem? (i := 30) rfl))) (notFace_of_selects (args := #[]) (mvT hZ (hw _ (List.mem_of_getElem? (i := 32) rfl)))) (mvT hZ (hw _ (List.mem_of_getElem? (i := 32) rfl))) (mvT hZ (hw _ (List.mem_of_getElem? (i := 31) rfl))) (by decide) (backOf (W := 0) (rm_row_3_3 l Z av0 hw [] b287 b250 (ownUpd (ownUpd (ownUpd (fun _ => (0 : Int32)) 0 v247) 1 v248) 2 v249) T293.heap n0 (Nat.le_trans Z0 K293.1) FP293_1 F294 (own_val hv_v247 hv_v1 hz2 hL.2.2) (own_val hv_v248 hv_v1 hz2 hL.2.2) (own_val hv_v249 hv_v1 hz2 hL.2.2)) hZ (hw _ (List.mem_of_getElem? (i := 33) rfl)) (hw _ (List.mem_of_getElem? (i := 3) rfl)) (by decide) (by decide)) q296a q296c (g := (mkF m 133 #[iv p0, iv p1, iv p2, iv p3, iv p4, iv v1, iv (3 : Int32), iv v247, iv v248, iv v249, rv b250, rv b287, .unset, .unset] [(.ref b250), (.ref b287)])) rfl (by rw [hml]; rfl) (Steps.refl _) (argsL := [(.ref b250)]) (rest := []) (lenOf own_pd4 rfl) rfl (by show 2 * 0 + _ ≤ _; exact Nat.le_of_eq rfl) (hb hby at_133) (fun _ _ => ⟨rfl, rfl, (by decide : 3 + 1 ≤ _), (by decide : 10 + 3 ≤ _)⟩)
        dsimp only [Pt.U, Pt.locs, Pt.cells, Pt.slots] at X296 l296 y296 z296 st296 hQ296
        subst l296 y296 z296
        obtain ⟨b296, rfl, N296q, Kq296, sq296_b296, FP296_0⟩ := hQ296
        have N296 := Fr.app N293 N296q
        have K296 : Keep h0 T296.heap [] := K293.trans Kq296 all0
        have ne_b250_b296 : b250 ≠ b296 := Nat.ne_of_lt (Nat.lt_of_lt_of_le F294.lt sq296_b296)
        have ne_b287_b296 : b287 ≠ b296 := Nat.ne_of_lt (Nat.lt_of_lt_of_le FP293_0.lt sq296_b296)
        have sz_b296 : h0.size ≤ b296 := Nat.le_trans K293.1 sq296_b296
        have G_b296 : n0 ≤ b296 := Nat.le_trans Z0 sz_b296
        have F297 : ownAI Z T296.heap b250 .int 3 (ownUpd (ownUpd (ownUpd (fun _ => (0 : Int32)) 0 v247) 1 v248) 2 v249) := F294.keep Kq296 nin0
        have F298 : Exa Z T296.heap b287 "com/example/sieveline/sieveline/solver/BitMatrix" := FP293_0.keep Kq296
        have F299 : Fld Z T296.heap b287 "com/example/sieveline/sieveline/solver/BitMatrix" "rowWords" "I" (.int (3 : Int32)) := FP293_1.keep Kq296 nin0
        refine ownRun (T' := T296) (f' := (mkF m 136 #[iv p0, iv p1, iv p2, iv p3, iv p4, iv v1, iv (3 : Int32), iv v247, iv v248, iv v249, rv b250, rv b287, .unset, .unset] [(.ref b296)])) st296 ?_
        refine ow_astore (q := 138) X296 hx (L' := #[iv p0, iv p1, iv p2, iv p3, iv p4, iv v1, iv (3 : Int32), iv v247, iv v248, iv v249, rv b250, rv b287, rv b296, .unset]) (hb hby at_136) rfl rfl rfl ?_
        refine ow_iload (q := 140) X296 hx (hb hby at_138) rfl rfl ?_
        refine ow_ifYes (q := 147) X296 hx (hb hby at_140) (Jvm.Free.XT.i0_ne_t hz2) (by decide) (by decide) ?_
        refine ow_iload (q := 149) X296 hx (hb hby at_147) rfl rfl ?_
        refine ow_bipush (q := 151) X296 hx (64 : Int32) (hb hby at_149) rfl rfl ?_
        refine ow_icmpYes (q := 158) X296 hx (hb hby at_151) (Jvm.Free.XT.ii_gt_t (by simp only [Int32.lt_iff_toInt_lt, Int32.reduceToInt]; have := hL.2; omega)) (by decide) (by decide) ?_
        refine ow_iload (q := 160) X296 hx (hb hby at_158) rfl rfl ?_
        refine ow_sipush (q := 163) X296 hx (128 : Int32) (hb hby at_160) rfl rfl ?_
        refine ow_icmpYes (q := 170) X296 hx (hb hby at_163) (Jvm.Free.XT.ii_gt_t (by simp only [Int32.lt_iff_toInt_lt, Int32.reduceToInt]; have := hL.2; omega)) (by decide) (by decide) ?_
        refine ow_iload (q := 172) X296 hx (hb hby at_170) rfl rfl ?_
        refine ow_sipush (q := 175) X296 hx (192 : Int32) (hb hby at_172) rfl rfl ?_
        refine ow_icmpNo (q := 178) X296 hx (hb hby at_175) rfl (Jvm.Free.XT.ii_gt_f (by simp only [Int32.lt_iff_toInt_lt, Int32.reduceToInt]; have := hL.2; omega)) ?_
        refine ow_iconst (q := 179) X296 hx (3 : Int32) (hb hby at_178) rfl rfl ?_
        refine ow_goto (q := 183) X296 hx (hb hby at_179) (by decide) (by decide) ?_
        refine ow_istore (q := 185) X296 hx (L' := #[iv p0, iv p1, iv p2, iv p3, iv p4, iv v1, iv (3 : Int32), iv v247, iv v248, iv v249, rv b250, rv b287, rv b296, iv (3 : Int32)]) (hb hby at_183) rfl rfl ?_
        refine ow_aload (q := 187) X296 hx (hb hby at_185) rfl rfl rfl ?_
        refine ownGo (T' := T296) (f' := (mkF m 190 #[iv p0, iv p1, iv p2, iv p3, iv p4, iv v1, iv (3 : Int32), iv v247, iv v248, iv v249, rv b250, rv b287, rv b296, iv (3 : Int32)] [])) (fun _ k => XS.ifnullNo X296.here hx rfl (hb hby at_187) rfl k) ?_
        refine ow_aload (q := 192) X296 hx (hb hby at_190) rfl rfl rfl ?_
        refine ownGo (T' := T296) (f' := (mkF m 193 #[iv p0, iv p1, iv p2, iv p3, iv p4, iv v1, iv (3 : Int32), iv v247, iv v248, iv v249, rv b250, rv b287, rv b296, iv (3 : Int32)] [(.int (3 : Int32))])) (ownLenJ FP296_0 X296 hx hZ rfl (z := (3 : Int32)) (by decide) (g := (mkF m 192 #[iv p0, iv p1, iv p2, iv p3, iv p4, iv v1, iv (3 : Int32), iv v247, iv v248, iv v249, rv b250, rv b287, rv b296, iv (3 : Int32)] [(.ref b296)])) rfl rfl (hb hby at_192)) ?_
        refine ow_iload (q := 195) X296 hx (hb hby at_193) rfl rfl ?_
        refine ow_icmpYes (q := 200) X296 hx (hb hby at_195) (Jvm.Free.XT.ii_eq_t (by decide)) (by decide) (by decide) ?_
        refine ow_iload (q := 202) X296 hx (hb hby at_200) rfl rfl ?_
        refine ow_ifNo (q := 205) X296 hx (hb hby at_202) rfl (Jvm.Free.XT.i0_le_f (by decide)) ?_
        refine ow_aload (q := 207) X296 hx (hb hby at_205) rfl rfl rfl ?_
        refine ow_iconst (q := 208) X296 hx (0 : Int32) (hb hby at_207) rfl rfl ?_
        refine ownGo (T' := T296) (f' := (mkF m 209 #[iv p0, iv p1, iv p2, iv p3, iv p4, iv v1, iv (3 : Int32), iv v247, iv v248, iv v249, rv b250, rv b287, rv b296, iv (3 : Int32)] [(.long ((own_or1 (own_or1 (own_or1 (fun _ => (0 : Int64)) v247) v248) v249) 0))])) (ownLaload FP296_0 X296 hx hZ rfl (j := (0 : Int32)) (by unfold ownIn; decide) (g := (mkF m 208 #[iv p0, iv p1, iv p2, iv p3, iv p4, iv v1, iv (3 : Int32), iv v247, iv v248, iv v249, rv b250, rv b287, rv b296, iv (3 : Int32)] [(.int (0 : Int32)), (.ref b296)])) rfl rfl (hb hby at_208)) ?_
        generalize hv_v300 : ((own_or1 (own_or1 (own_or1 (fun _ => (0 : Int64)) v247) v248) v249) 0) = v300
        refine ow_iconst (q := 210) X296 hx (0 : Int32) (hb hby at_209) rfl rfl ?_
        refine ow_iload (q := 212) X296 hx (hb hby at_210) rfl rfl ?_
        refine ow_iload (q := 214) X296 hx (hb hby at_212) rfl rfl ?_
        refine ow_iload (q := 216) X296 hx (hb hby at_214) rfl rfl ?_
        refine ow_iload (q := 218) X296 hx (hb hby at_216) rfl rfl ?_
        obtain ⟨_, _, ⟨T301, L301, k301, n301⟩, -, X301, ⟨Lc301, hQ301, l301, y301, z301⟩, st301⟩ := Jvm.LawKit.callS X296 hx (y := (⟨"com/example/sieveline/sieveline/solver/BitMatrixRowPinLaw", "expect", "(IIIII)J"⟩ : MethodName)) hown (mvT hZ (hw _ (List.mem_of_getElem? (i := 35) rfl))) (mvT hZ (hw _ (List.mem_of_getElem? (i := 36) rfl))) (mvT hZ (hw _ (List.mem_of_getElem? (i := 37) rfl))) (mvT hZ (hw _ (List.mem_of_getElem? (i := 38) rfl))) (by decide) (backOf (W := 2) (rm_exp_0_3 l Z av0 hw [] v247 v248 v249 T296.heap n0 (Nat.le_trans Z0 K296.1) ) hZ (hw _ (List.mem_of_getElem? (i := 38) rfl)) (hw _ (List.mem_of_getElem? (i := 37) rfl)) (by decide) (by decide)) (g := (mkF m 218 #[iv p0, iv p1, iv p2, iv p3, iv p4, iv v1, iv (3 : Int32), iv v247, iv v248, iv v249, rv b250, rv b287, rv b296, iv (3 : Int32)] [(.int v249), (.int v248), (.int v247), (.int (3 : Int32)), (.int (0 : Int32)), (.long v300)])) rfl (by rw [hml]; rfl) (argsL := [(.int (0 : Int32)), (.int (3 : Int32)), (.int v247), (.int v248), (.int v249)]) (rest := [(.long v300)]) (lenOf own_pd5 rfl) rfl (by show 2 * 0 + _ ≤ _; exact Nat.le_of_eq rfl) (hb hby at_218) (fun _ _ => ⟨rfl, rfl, (by decide : 4 + 0 ≤ _), (by decide : 13 + 0 ≤ _)⟩)
        dsimp only [Pt.U, Pt.locs, Pt.cells, Pt.slots] at X301 l301 y301 z301 st301 hQ301
        subst l301 y301 z301
        obtain ⟨rfl, N301q, e301⟩ := hQ301
        have N301 := Fr.app N296 N301q
        refine ownGo (T' := T301) (f' := (mkF m 221 #[iv p0, iv p1, iv p2, iv p3, iv p4, iv v1, iv (3 : Int32), iv v247, iv v248, iv v249, rv b250, rv b287, rv b296, iv (3 : Int32)] [(.long ((((0 : Int64) ||| (own_Bw (0 : Int32) (64 : Int32) v247)) ||| (own_Bw (0 : Int32) (64 : Int32) v248)) ||| (own_Bw (0 : Int32) (64 : Int32) v249))), (.long v300)])) (st301) ?_
        refine ow_lcmp (q := 222) X301 hx _ (hb hby at_221) rfl rfl ?_
        refine ow_ifYes (q := 227) X301 hx (hb hby at_222) (Jvm.Free.XT.ll_eq_t (by rw [← hv_v300]; exact own_cmp_0_3 (own_lt (own_val hv_v247 hv_v1 hz2 hL.2.2)) (own_lt (own_val hv_v248 hv_v1 hz2 hL.2.2)) (own_lt (own_val hv_v249 hv_v1 hz2 hL.2.2)))) (by decide) (by decide) ?_
        refine ow_iload (q := 229) X301 hx (hb hby at_227) rfl rfl ?_
        refine ow_iconst (q := 230) X301 hx (1 : Int32) (hb hby at_229) rfl rfl ?_
        refine ow_icmpNo (q := 233) X301 hx (hb hby at_230) rfl (Jvm.Free.XT.ii_le_f (by decide)) ?_
        refine ow_aload (q := 235) X301 hx (hb hby at_233) rfl rfl rfl ?_
        refine ow_iconst (q := 236) X301 hx (1 : Int32) (hb hby at_235) rfl rfl ?_
        refine ownGo (T' := T301) (f' := (mkF m 237 #[iv p0, iv p1, iv p2, iv p3, iv p4, iv v1, iv (3 : Int32), iv v247, iv v248, iv v249, rv b250, rv b287, rv b296, iv (3 : Int32)] [(.long ((own_or1 (own_or1 (own_or1 (fun _ => (0 : Int64)) v247) v248) v249) 1))])) (ownLaload FP296_0 X301 hx hZ e301 (j := (1 : Int32)) (by unfold ownIn; decide) (g := (mkF m 236 #[iv p0, iv p1, iv p2, iv p3, iv p4, iv v1, iv (3 : Int32), iv v247, iv v248, iv v249, rv b250, rv b287, rv b296, iv (3 : Int32)] [(.int (1 : Int32)), (.ref b296)])) rfl rfl (hb hby at_236)) ?_
        generalize hv_v302 : ((own_or1 (own_or1 (own_or1 (fun _ => (0 : Int64)) v247) v248) v249) 1) = v302
        refine ow_iconst (q := 238) X301 hx (1 : Int32) (hb hby at_237) rfl rfl ?_
        refine ow_iload (q := 240) X301 hx (hb hby at_238) rfl rfl ?_
        refine ow_iload (q := 242) X301 hx (hb hby at_240) rfl rfl ?_
        refine ow_iload (q := 244) X301 hx (hb hby at_242) rfl rfl ?_
        refine ow_iload (q := 246) X301 hx (hb hby at_244) rfl rfl ?_
        obtain ⟨_, _, ⟨T303, L303, k303, n303⟩, -, X303, ⟨Lc303, hQ303, l303, y303, z303⟩, st303⟩ := Jvm.LawKit.callS X301 hx (y := (⟨"com/example/sieveline/sieveline/solver/BitMatrixRowPinLaw", "expect", "(IIIII)J"⟩ : MethodName)) hown (mvT hZ (hw _ (List.mem_of_getElem? (i := 35) rfl))) (mvT hZ (hw _ (List.mem_of_getElem? (i := 36) rfl))) (mvT hZ (hw _ (List.mem_of_getElem? (i := 37) rfl))) (mvT hZ (hw _ (List.mem_of_getElem? (i := 38) rfl))) (by decide) (backOf (W := 2) (rm_exp_1_3 l Z av0 hw [] v247 v248 v249 T296.heap n0 (Nat.le_trans Z0 K296.1) ) hZ (hw _ (List.mem_of_getElem? (i := 38) rfl)) (hw _ (List.mem_of_getElem? (i := 37) rfl)) (by decide) (by decide)) (g := (mkF m 246 #[iv p0, iv p1, iv p2, iv p3, iv p4, iv v1, iv (3 : Int32), iv v247, iv v248, iv v249, rv b250, rv b287, rv b296, iv (3 : Int32)] [(.int v249), (.int v248), (.int v247), (.int (3 : Int32)), (.int (1 : Int32)), (.long v302)])) rfl (by rw [hml]; rfl) (argsL := [(.int (1 : Int32)), (.int (3 : Int32)), (.int v247), (.int v248), (.int v249)]) (rest := [(.long v302)]) (lenOf own_pd5 rfl) rfl (by show 2 * 0 + _ ≤ _; exact Nat.le_of_eq rfl) (hb hby at_246) (fun _ _ => ⟨rfl, e301, (by decide : 4 + 0 ≤ _), (by decide : 13 + 0 ≤ _)⟩)
        dsimp only [Pt.U, Pt.locs, Pt.cells, Pt.slots] at X303 l303 y303 z303 st303 hQ303
        subst l303 y303 z303
        obtain ⟨rfl, N303q, e303⟩ := hQ303
        have N303 := Fr.app N301 N303q
        refine ownGo (T' := T303) (f' := (mkF m 249 #[iv p0, iv p1, iv p2, iv p3, iv p4, iv v1, iv (3 : Int32), iv v247, iv v248, iv v249, rv b250, rv b287, rv b296, iv (3 : Int32)] [(.long ((((0 : Int64) ||| (own_Bw (64 : Int32) (128 : Int32) v247)) ||| (own_Bw (64 : Int32) (128 : Int32) v248)) ||| (own_Bw (64 : Int32) (128 : Int32) v249))), (.long v302)])) (st303) ?_
        refine ow_lcmp (q := 250) X303 hx _ (hb hby at_249) rfl rfl ?_
        refine ow_ifYes (q := 255) X303 hx (hb hby at_250) (Jvm.Free.XT.ll_eq_t (by rw [← hv_v302]; exact own_cmp_1_3 (own_lt (own_val hv_v247 hv_v1 hz2 hL.2.2)) (own_lt (own_val hv_v248 hv_v1 hz2 hL.2.2)) (own_lt (own_val hv_v249 hv_v1 hz2 hL.2.2)))) (by decide) (by decide) ?_
        refine ow_iload (q := 257) X303 hx (hb hby at_255) rfl rfl ?_
        refine ow_iconst (q := 258) X303 hx (2 : Int32) (hb hby at_257) rfl rfl ?_
        refine ow_icmpNo (q := 261) X303 hx (hb hby at_258) rfl (Jvm.Free.XT.ii_le_f (by decide)) ?_
        refine ow_aload (q := 263) X303 hx (hb hby at_261) rfl rfl rfl ?_
        refine ow_iconst (q := 264) X303 hx (2 : Int32) (hb hby at_263) rfl rfl ?_
        refine ownGo (T' := T303) (f' := (mkF m 265 #[iv p0, iv p1, iv p2, iv p3, iv p4, iv v1, iv (3 : Int32), iv v247, iv v248, iv v249, rv b250, rv b287, rv b296, iv (3 : Int32)] [(.long ((own_or1 (own_or1 (own_or1 (fun _ => (0 : Int64)) v247) v248) v249) 2))])) (ownLaload FP296_0 X303 hx hZ e303 (j := (2 : Int32)) (by unfold ownIn; decide) (g := (mkF m 264 #[iv p0, iv p1, iv p2, iv p3, iv p4, iv v1, iv (3 : Int32), iv v247, iv v248, iv v249, rv b250, rv b287, rv b296, iv (3 : Int32)] [(.int (2 : Int32)), (.ref b296)])) rfl rfl (hb hby at_264)) ?_
        generalize hv_v304 : ((own_or1 (own_or1 (own_or1 (fun _ => (0 : Int64)) v247) v248) v249) 2) = v304
        refine ow_iconst (q := 266) X303 hx (2 : Int32) (hb hby at_265) rfl rfl ?_
        refine ow_iload (q := 268) X303 hx (hb hby at_266) rfl rfl ?_
        refine ow_iload (q := 270) X303 hx (hb hby at_268) rfl rfl ?_
        refine ow_iload (q := 272) X303 hx (hb hby at_270) rfl rfl ?_
        refine ow_iload (q := 274) X303 hx (hb hby at_272) rfl rfl ?_
        obtain ⟨_, _, ⟨T305, L305, k305, n305⟩, -, X305, ⟨Lc305, hQ305, l305, y305, z305⟩, st305⟩ := Jvm.LawKit.callS X303 hx (y := (⟨"com/example/sieveline/sieveline/solver/BitMatrixRowPinLaw", "expect", "(IIIII)J"⟩ : MethodName)) hown (mvT hZ (hw _ (List.mem_of_getElem? (i := 35) rfl))) (mvT hZ (hw _ (List.mem_of_getElem? (i := 36) rfl))) (mvT hZ (hw _ (List.mem_of_getElem? (i := 37) rfl))) (mvT hZ (hw _ (List.mem_of_getElem? (i := 38) rfl))) (by decide) (backOf (W := 2) (rm_exp_2_3 l Z av0 hw [] v247 v248 v249 T296.heap n0 (Nat.le_trans Z0 K296.1) ) hZ (hw _ (List.mem_of_getElem? (i := 38) rfl)) (hw _ (List.mem_of_getElem? (i := 37) rfl)) (by decide) (by decide)) (g := (mkF m 274 #[iv p0, iv p1, iv p2, iv p3, iv p4, iv v1, iv (3 : Int32), iv v247, iv v248, iv v249, rv b250, rv b287, rv b296, iv (3 : Int32)] [(.int v249), (.int v248), (.int v247), (.int (3 : Int32)), (.int (2 : Int32)), (.long v304)])) rfl (by rw [hml]; rfl) (argsL := [(.int (2 : Int32)), (.int (3 : Int32)), (.int v247), (.int v248), (.int v249)]) (rest := [(.long v304)]) (lenOf own_pd5 rfl) rfl (by show 2 * 0 + _ ≤ _; exact Nat.le_of_eq rfl) (hb hby at_274) (fun _ _ => ⟨rfl, e303, (by decide : 4 + 0 ≤ _), (by decide : 13 + 0 ≤ _)⟩)
        dsimp only [Pt.U, Pt.locs, Pt.cells, Pt.slots] at X305 l305 y305 z305 st305 hQ305
        subst l305 y305 z305
        obtain ⟨rfl, N305q, e305⟩ := hQ305
        have N305 := Fr.app N303 N305q
        refine ownGo (T' := T305) (f' := (mkF m 277 #[iv p0, iv p1, iv p2, iv p3, iv p4, iv v1, iv (3 : Int32), iv v247, iv v248, iv v249, rv b250, rv b287, rv b296, iv (3 : Int32)] [(.long ((((0 : Int64) ||| (own_Bw (128 : Int32) (192 : Int32) v247)) ||| (own_Bw (128 : Int32) (192 : Int32) v248)) ||| (own_Bw (128 : Int32) (192 : Int32) v249))), (.long v304)])) (st305) ?_
        refine ow_lcmp (q := 278) X305 hx _ (hb hby at_277) rfl rfl ?_
        refine ow_ifYes (q := 283) X305 hx (hb hby at_278) (Jvm.Free.XT.ll_eq_t (by rw [← hv_v304]; exact own_cmp_2_3 (own_lt (own_val hv_v247 hv_v1 hz2 hL.2.2)) (own_lt (own_val hv_v248 hv_v1 hz2 hL.2.2)) (own_lt (own_val hv_v249 hv_v1 hz2 hL.2.2)))) (by decide) (by decide) ?_
        refine ow_iload (q := 285) X305 hx (hb hby at_283) rfl rfl ?_
        refine ow_iconst (q := 286) X305 hx (3 : Int32) (hb hby at_285) rfl rfl ?_
        refine ow_icmpYes (q := 311) X305 hx (hb hby at_286) (Jvm.Free.XT.ii_le_t (by decide)) (by decide) (by decide) ?_
        refine ow_iconst (q := 312) X305 hx (1 : Int32) (hb hby at_311) rfl rfl ?_
        refine ownRetN X305 hx (r := (1 : Int32)) (Or.inl rfl) Bd.returns (hb hby at_312) hlk (by decide) (by decide) (by decide) ?_
        exact ⟨rfl, N305⟩
      · obtain ⟨T306, h306, X306, e306, E306, A306, D306, -, st306⟩ := newO X254 hx hZ hown (hw _ (List.mem_of_getElem? (i := 1) rfl)) (hw _ (List.mem_of_getElem? (i := 2) rfl)) (hw _ (List.mem_of_getElem? (i := 3) rfl)) e254 (g := (mkF m 117 #[iv p0, iv p1, iv p2, iv p3, iv p4, iv v1, iv (3 : Int32), iv v247, iv v248, iv v249, rv b250, .unset, .unset, .unset] [])) rfl (hb hby at_117) (by decide) (by decide)
        obtain ⟨b306, g306⟩ : ∃ z, z = h254.size := ⟨_, rfl⟩
        rw [← g306] at A306 D306 st306
        have ne_b250_b306 : b250 ≠ b306 := Nat.ne_of_lt (Nat.lt_of_lt_of_le F254r.lt (Nat.le_of_eq g306.symm))
        have sz_b306 : h0.size ≤ b306 := Nat.le_trans K254.1 (Nat.le_of_eq g306.symm)
        have G_b306 : n0 ≤ b306 := Nat.le_trans Z0 sz_b306
        have K306 : Keep h0 h306 [] := K254.ext E306
        have F307 : ownAI Z h306 b250 .int 3 (ownUpd (ownUpd (ownUpd (fun _ => (0 : Int32)) 0 v247) 1 v248) 2 v249) := F254r.ext E306
        have F308 : Fld Z h306 b306 "com/example/sieveline/sieveline/solver/BitMatrix" "rowWords" "I" (.int (0 : Int32)) := D306 (Or.inr (hw _ (List.mem_of_getElem? (i := 14) rfl))) (ty := .int) (by decide)
        have F309 : Fld Z h306 b306 "com/example/sieveline/sieveline/solver/BitMatrix" "words" "[J" .null := D306 (Or.inr (hw _ (List.mem_of_getElem? (i := 24) rfl))) (ty := (.array .long)) (by decide)
        have F310 : Fld Z h306 b306 "com/example/sieveline/sieveline/solver/BitMatrix" "rows" "I" (.int (0 : Int32)) := D306 (Or.inr (hw _ (List.mem_of_getElem? (i := 26) rfl))) (ty := .int) (by decide)
        have F311 : Fld Z h306 b306 "com/example/sieveline/sieveline/solver/BitMatrix" "columns" "I" (.int (0 : Int32)) := D306 (Or.inr (hw _ (List.mem_of_getElem? (i := 28) rfl))) (ty := .int) (by decide)
        refine ownGo (T' := T306) (f' := (mkF m 120 #[iv p0, iv p1, iv p2, iv p3, iv p4, iv v1, iv (3 : Int32), iv v247, iv v248, iv v249, rv b250, .unset, .unset, .unset] [(.ref b306)])) (st306) ?_
        refine ow_dup (q := 121) X306 hx (hb hby at_120) rfl rfl ?_
        refine ow_iconst (q := 122) X306 hx (1 : Int32) (hb hby at_121) rfl rfl ?_
        refine ow_iload (q := 124) X306 hx (hb hby at_122) rfl rfl ?_
        obtain ⟨_, _, ⟨T312, L312, k312, n312⟩, -, X312, ⟨Lc312, hQ312, l312, y312, z312⟩, st312⟩ := X306.specialBack hx (y := (⟨"com/example/sieveline/sieveline/solver/BitMatrix", "<init>", "(II)V"⟩ : MethodName)) rfl hown (mvT hZ (hw _ (List.mem_of_getElem? (i := 4) rfl))) (mvT hZ (hw _ (List.mem_of_getElem? (i := 5) rfl))) (mvT hZ (hw _ (List.mem_of_getElem? (i := 6) rfl))) (by decide) (backOf (W := 1) (rm_init_4 l Z av0 hw [] b306 v1 h306 n0 (Nat.le_trans Z0 K306.1) A306 F308 F309 F310 F311 G_b306 hL.1) hZ (hw _ (List.mem_of_getElem? (i := 6) rfl)) (hw _ (List.mem_of_getElem? (i := 3) rfl)) (by decide) (by decide)) (g := (mkF m 124 #[iv p0, iv p1, iv p2, iv p3, iv p4, iv v1, iv (3 : Int32), iv v247, iv v248, iv v249, rv b250, .unset, .unset, .unset] [(.int v1), (.int (1 : Int32)), (.ref b306), (.ref b306)])) rfl (by rw [hml]; rfl) (Steps.refl _) (a := b306) (argsL := [(.int (1 : Int32)), (.int v1)]) (rest := [(.ref b306)]) (lenOf own_pd3 rfl) rfl (by show 2 * 0 + _ ≤ _; exact Nat.le_of_eq rfl) (hb hby at_124) (fun _ _ => ⟨rfl, e306, (by decide : 2 + 1 ≤ _), (by decide : 7 + 4 ≤ _)⟩)
        dsimp only [Pt.U, Pt.locs, Pt.cells, Pt.slots] at X312 l312 y312 z312 st312 hQ312
        subst l312 y312 z312
        obtain ⟨rfl, N312q, Kq312, FP312_0, FP312_1⟩ := hQ312
        have N312 := Fr.app N254 N312q
        have K312 : Keep h0 T312.heap [] := K306.trans Kq312 (allS (Or.inr sz_b306) all0)
        have F313 : ownAI Z T312.heap b250 .int 3 (ownUpd (ownUpd (ownUpd (fun _ => (0 : Int32)) 0 v247) 1 v248) 2 v249) := F307.keep Kq312 (ninS ne_b250_b306 nin0)
        have F314 : Exa Z T312.heap b306 "com/example/sieveline/sieveline/solver/BitMatrix" := A306.keep Kq312
        refine ownRun (T' := T312) (f' := (mkF m 127 #[iv p0, iv p1, iv p2, iv p3, iv p4, iv v1, iv (3 : Int32), iv v247, iv v248, iv v249, rv b250, .unset, .unset, .unset] [(.ref b306)])) st312 ?_
        refine ow_astore (q := 129) X312 hx (L' := #[iv p0, iv p1, iv p2, iv p3, iv p4, iv v1, iv (3 : Int32), iv v247, iv v248, iv v249, rv b250, rv b306, .unset, .unset]) (hb hby at_127) rfl rfl rfl ?_
        refine ow_aload (q := 131) X312 hx (hb hby at_129) rfl rfl rfl ?_
        refine ow_aload (q := 133) X312 hx (hb hby at_131) rfl rfl rfl ?_
        obtain ⟨cq315, kq315, q315a, q315b, q315c⟩ := isOf hZ rfl FP312_0
        obtain ⟨_, _, ⟨T315, L315, k315, n315⟩, -, X315, ⟨Lc315, hQ315, l315, y315, z315⟩, st315⟩ := X312.virtualBack hx (y := (⟨"com/example/sieveline/sieveline/solver/BitMatrix", "row", "([I)[J"⟩ : MethodName)) (z := (⟨"com/example/sieveline/sieveline/solver/BitMatrix", "row", "([I)[J"⟩ : MethodName)) hown (mvT hZ (hw _ (List.mem_of_getElem? (i := 29) rfl))) (mvT hZ (hw _ (List.mem_of_getElem? (i := 30) rfl))) (notFace_of_selects (args := #[]) (mvT hZ (hw _ (List.mem_of_getElem? (i := 32) rfl)))) (mvT hZ (hw _ (List.mem_of_getElem? (i := 32) rfl))) (mvT hZ (hw _ (List.mem_of_getElem? (i := 31) rfl))) (by decide) (backOf (W := 0) (rm_row_3_4 l Z av0 hw [] b306 b250 (ownUpd (ownUpd (ownUpd (fun _ => (0 : Int32)) 0 v247) 1 v248) 2 v249) T312.heap n0 (Nat.le_trans Z0 K312.1) FP312_1 F313 (own_val hv_v247 hv_v1 hz2 hL.2.2) (own_val hv_v248 hv_v1 hz2 hL.2.2) (own_val hv_v249 hv_v1 hz2 hL.2.2)) hZ (hw _ (List.mem_of_getElem? (i := 33) rfl)) (hw _ (List.mem_of_getElem? (i := 3) rfl)) (by decide) (by decide)) q315a q315c (g := (mkF m 133 #[iv p0, iv p1, iv p2, iv p3, iv p4, iv v1, iv (3 : Int32), iv v247, iv v248, iv v249, rv b250, rv b306, .unset, .unset] [(.ref b250), (.ref b306)])) rfl (by rw [hml]; rfl) (Steps.refl _) (argsL := [(.ref b250)]) (rest := []) (lenOf own_pd4 rfl) rfl (by show 2 * 0 + _ ≤ _; exact Nat.le_of_eq rfl) (hb hby at_133) (fun _ _ => ⟨rfl, rfl, (by decide : 3 + 1 ≤ _), (by decide : 11 + 4 ≤ _)⟩)
        dsimp only [Pt.U, Pt.locs, Pt.cells, Pt.slots] at X315 l315 y315 z315 st315 hQ315
        subst l315 y315 z315
        obtain ⟨b315, rfl, N315q, Kq315, sq315_b315, FP315_0⟩ := hQ315
        have N315 := Fr.app N312 N315q
        have K315 : Keep h0 T315.heap [] := K312.trans Kq315 all0
        have ne_b250_b315 : b250 ≠ b315 := Nat.ne_of_lt (Nat.lt_of_lt_of_le F313.lt sq315_b315)
        have ne_b306_b315 : b306 ≠ b315 := Nat.ne_of_lt (Nat.lt_of_lt_of_le FP312_0.lt sq315_b315)
        have sz_b315 : h0.size ≤ b315 := Nat.le_trans K312.1 sq315_b315
        have G_b315 : n0 ≤ b315 := Nat.le_trans Z0 sz_b315
        have F316 : ownAI Z T315.heap b250 .int 3 (ownUpd (ownUpd (ownUpd (fun _ => (0 : Int32)) 0 v247) 1 v248) 2 v249) := F313.keep Kq315 nin0
        have F317 : Exa Z T315.heap b306 "com/example/sieveline/sieveline/solver/BitMatrix" := FP312_0.keep Kq315
        have F318 : Fld Z T315.heap b306 "com/example/sieveline/sieveline/solver/BitMatrix" "rowWords" "I" (.int (4 : Int32)) := FP312_1.keep Kq315 nin0
        refine ownRun (T' := T315) (f' := (mkF m 136 #[iv p0, iv p1, iv p2, iv p3, iv p4, iv v1, iv (3 : Int32), iv v247, iv v248, iv v249, rv b250, rv b306, .unset, .unset] [(.ref b315)])) st315 ?_
        refine ow_astore (q := 138) X315 hx (L' := #[iv p0, iv p1, iv p2, iv p3, iv p4, iv v1, iv (3 : Int32), iv v247, iv v248, iv v249, rv b250, rv b306, rv b315, .unset]) (hb hby at_136) rfl rfl rfl ?_
        refine ow_iload (q := 140) X315 hx (hb hby at_138) rfl rfl ?_
        refine ow_ifYes (q := 147) X315 hx (hb hby at_140) (Jvm.Free.XT.i0_ne_t hz2) (by decide) (by decide) ?_
        refine ow_iload (q := 149) X315 hx (hb hby at_147) rfl rfl ?_
        refine ow_bipush (q := 151) X315 hx (64 : Int32) (hb hby at_149) rfl rfl ?_
        refine ow_icmpYes (q := 158) X315 hx (hb hby at_151) (Jvm.Free.XT.ii_gt_t (by simp only [Int32.lt_iff_toInt_lt, Int32.reduceToInt]; have := hL.2; omega)) (by decide) (by decide) ?_
        refine ow_iload (q := 160) X315 hx (hb hby at_158) rfl rfl ?_
        refine ow_sipush (q := 163) X315 hx (128 : Int32) (hb hby at_160) rfl rfl ?_
        refine ow_icmpYes (q := 170) X315 hx (hb hby at_163) (Jvm.Free.XT.ii_gt_t (by simp only [Int32.lt_iff_toInt_lt, Int32.reduceToInt]; have := hL.2; omega)) (by decide) (by decide) ?_
        refine ow_iload (q := 172) X315 hx (hb hby at_170) rfl rfl ?_
        refine ow_sipush (q := 175) X315 hx (192 : Int32) (hb hby at_172) rfl rfl ?_
        refine ow_icmpYes (q := 182) X315 hx (hb hby at_175) (Jvm.Free.XT.ii_gt_t (by simp only [Int32.lt_iff_toInt_lt, Int32.reduceToInt]; have := hL.2; omega)) (by decide) (by decide) ?_
        refine ow_iconst (q := 183) X315 hx (4 : Int32) (hb hby at_182) rfl rfl ?_
        refine ow_istore (q := 185) X315 hx (L' := #[iv p0, iv p1, iv p2, iv p3, iv p4, iv v1, iv (3 : Int32), iv v247, iv v248, iv v249, rv b250, rv b306, rv b315, iv (4 : Int32)]) (hb hby at_183) rfl rfl ?_
        refine ow_aload (q := 187) X315 hx (hb hby at_185) rfl rfl rfl ?_
        refine ownGo (T' := T315) (f' := (mkF m 190 #[iv p0, iv p1, iv p2, iv p3, iv p4, iv v1, iv (3 : Int32), iv v247, iv v248, iv v249, rv b250, rv b306, rv b315, iv (4 : Int32)] [])) (fun _ k => XS.ifnullNo X315.here hx rfl (hb hby at_187) rfl k) ?_
        refine ow_aload (q := 192) X315 hx (hb hby at_190) rfl rfl rfl ?_
        refine ownGo (T' := T315) (f' := (mkF m 193 #[iv p0, iv p1, iv p2, iv p3, iv p4, iv v1, iv (3 : Int32), iv v247, iv v248, iv v249, rv b250, rv b306, rv b315, iv (4 : Int32)] [(.int (4 : Int32))])) (ownLenJ FP315_0 X315 hx hZ rfl (z := (4 : Int32)) (by decide) (g := (mkF m 192 #[iv p0, iv p1, iv p2, iv p3, iv p4, iv v1, iv (3 : Int32), iv v247, iv v248, iv v249, rv b250, rv b306, rv b315, iv (4 : Int32)] [(.ref b315)])) rfl rfl (hb hby at_192)) ?_
        refine ow_iload (q := 195) X315 hx (hb hby at_193) rfl rfl ?_
        refine ow_icmpYes (q := 200) X315 hx (hb hby at_195) (Jvm.Free.XT.ii_eq_t (by decide)) (by decide) (by decide) ?_
        refine ow_iload (q := 202) X315 hx (hb hby at_200) rfl rfl ?_
        refine ow_ifNo (q := 205) X315 hx (hb hby at_202) rfl (Jvm.Free.XT.i0_le_f (by decide)) ?_
        refine ow_aload (q := 207) X315 hx (hb hby at_205) rfl rfl rfl ?_
        refine ow_iconst (q := 208) X315 hx (0 : Int32) (hb hby at_207) rfl rfl ?_
        refine ownGo (T' := T315) (f' := (mkF m 209 #[iv p0, iv p1, iv p2, iv p3, iv p4, iv v1, iv (3 : Int32), iv v247, iv v248, iv v249, rv b250, rv b306, rv b315, iv (4 : Int32)] [(.long ((own_or1 (own_or1 (own_or1 (fun _ => (0 : Int64)) v247) v248) v249) 0))])) (ownLaload FP315_0 X315 hx hZ rfl (j := (0 : Int32)) (by unfold ownIn; decide) (g := (mkF m 208 #[iv p0, iv p1, iv p2, iv p3, iv p4, iv v1, iv (3 : Int32), iv v247, iv v248, iv v249, rv b250, rv b306, rv b315, iv (4 : Int32)] [(.int (0 : Int32)), (.ref b315)])) rfl rfl (hb hby at_208)) ?_
        generalize hv_v319 : ((own_or1 (own_or1 (own_or1 (fun _ => (0 : Int64)) v247) v248) v249) 0) = v319
        refine ow_iconst (q := 210) X315 hx (0 : Int32) (hb hby at_209) rfl rfl ?_
        refine ow_iload (q := 212) X315 hx (hb hby at_210) rfl rfl ?_
        refine ow_iload (q := 214) X315 hx (hb hby at_212) rfl rfl ?_
        refine ow_iload (q := 216) X315 hx (hb hby at_214) rfl rfl ?_
        refine ow_iload (q := 218) X315 hx (hb hby at_216) rfl rfl ?_
        obtain ⟨_, _, ⟨T320, L320, k320, n320⟩, -, X320, ⟨Lc320, hQ320, l320, y320, z320⟩, st320⟩ := Jvm.LawKit.callS X315 hx (y := (⟨"com/example/sieveline/sieveline/solver/BitMatrixRowPinLaw", "expect", "(IIIII)J"⟩ : MethodName)) hown (mvT hZ (hw _ (List.mem_of_getElem? (i := 35) rfl))) (mvT hZ (hw _ (List.mem_of_getElem? (i := 36) rfl))) (mvT hZ (hw _ (List.mem_of_getElem? (i := 37) rfl))) (mvT hZ (hw _ (List.mem_of_getElem? (i := 38) rfl))) (by decide) (backOf (W := 2) (rm_exp_0_3 l Z av0 hw [] v247 v248 v249 T315.heap n0 (Nat.le_trans Z0 K315.1) ) hZ (hw _ (List.mem_of_getElem? (i := 38) rfl)) (hw _ (List.mem_of_getElem? (i := 37) rfl)) (by decide) (by decide)) (g := (mkF m 218 #[iv p0, iv p1, iv p2, iv p3, iv p4, iv v1, iv (3 : Int32), iv v247, iv v248, iv v249, rv b250, rv b306, rv b315, iv (4 : Int32)] [(.int v249), (.int v248), (.int v247), (.int (3 : Int32)), (.int (0 : Int32)), (.long v319)])) rfl (by rw [hml]; rfl) (argsL := [(.int (0 : Int32)), (.int (3 : Int32)), (.int v247), (.int v248), (.int v249)]) (rest := [(.long v319)]) (lenOf own_pd5 rfl) rfl (by show 2 * 0 + _ ≤ _; exact Nat.le_of_eq rfl) (hb hby at_218) (fun _ _ => ⟨rfl, rfl, (by decide : 4 + 0 ≤ _), (by decide : 15 + 0 ≤ _)⟩)
        dsimp only [Pt.U, Pt.locs, Pt.cells, Pt.slots] at X320 l320 y320 z320 st320 hQ320
        subst l320 y320 z320
        obtain ⟨rfl, N320q, e320⟩ := hQ320
        have N320 := Fr.app N315 N320q
        refine ownGo (T' := T320) (f' := (mkF m 221 #[iv p0, iv p1, iv p2, iv p3, iv p4, iv v1, iv (3 : Int32), iv v247, iv v248, iv v249, rv b250, rv b306, rv b315, iv (4 : Int32)] [(.long ((((0 : Int64) ||| (own_Bw (0 : Int32) (64 : Int32) v247)) ||| (own_Bw (0 : Int32) (64 : Int32) v248)) ||| (own_Bw (0 : Int32) (64 : Int32) v249))), (.long v319)])) (st320) ?_
        refine ow_lcmp (q := 222) X320 hx _ (hb hby at_221) rfl rfl ?_
        refine ow_ifYes (q := 227) X320 hx (hb hby at_222) (Jvm.Free.XT.ll_eq_t (by rw [← hv_v319]; exact own_cmp_0_3 (own_lt (own_val hv_v247 hv_v1 hz2 hL.2.2)) (own_lt (own_val hv_v248 hv_v1 hz2 hL.2.2)) (own_lt (own_val hv_v249 hv_v1 hz2 hL.2.2)))) (by decide) (by decide) ?_
        refine ow_iload (q := 229) X320 hx (hb hby at_227) rfl rfl ?_
        refine ow_iconst (q := 230) X320 hx (1 : Int32) (hb hby at_229) rfl rfl ?_
        refine ow_icmpNo (q := 233) X320 hx (hb hby at_230) rfl (Jvm.Free.XT.ii_le_f (by decide)) ?_
        refine ow_aload (q := 235) X320 hx (hb hby at_233) rfl rfl rfl ?_
        refine ow_iconst (q := 236) X320 hx (1 : Int32) (hb hby at_235) rfl rfl ?_
        refine ownGo (T' := T320) (f' := (mkF m 237 #[iv p0, iv p1, iv p2, iv p3, iv p4, iv v1, iv (3 : Int32), iv v247, iv v248, iv v249, rv b250, rv b306, rv b315, iv (4 : Int32)] [(.long ((own_or1 (own_or1 (own_or1 (fun _ => (0 : Int64)) v247) v248) v249) 1))])) (ownLaload FP315_0 X320 hx hZ e320 (j := (1 : Int32)) (by unfold ownIn; decide) (g := (mkF m 236 #[iv p0, iv p1, iv p2, iv p3, iv p4, iv v1, iv (3 : Int32), iv v247, iv v248, iv v249, rv b250, rv b306, rv b315, iv (4 : Int32)] [(.int (1 : Int32)), (.ref b315)])) rfl rfl (hb hby at_236)) ?_
        generalize hv_v321 : ((own_or1 (own_or1 (own_or1 (fun _ => (0 : Int64)) v247) v248) v249) 1) = v321
        refine ow_iconst (q := 238) X320 hx (1 : Int32) (hb hby at_237) rfl rfl ?_
        refine ow_iload (q := 240) X320 hx (hb hby at_238) rfl rfl ?_
        refine ow_iload (q := 242) X320 hx (hb hby at_240) rfl rfl ?_
        refine ow_iload (q := 244) X320 hx (hb hby at_242) rfl rfl ?_
        refine ow_iload (q := 246) X320 hx (hb hby at_244) rfl rfl ?_
        obtain ⟨_, _, ⟨T322, L322, k322, n322⟩, -, X322, ⟨Lc322, hQ322, l322, y322, z322⟩, st322⟩ := Jvm.LawKit.callS X320 hx (y := (⟨"com/example/sieveline/sieveline/solver/BitMatrixRowPinLaw", "expect", "(IIIII)J"⟩ : MethodName)) hown (mvT hZ (hw _ (List.mem_of_getElem? (i := 35) rfl))) (mvT hZ (hw _ (List.mem_of_getElem? (i := 36) rfl))) (mvT hZ (hw _ (List.mem_of_getElem? (i := 37) rfl))) (mvT hZ (hw _ (List.mem_of_getElem? (i := 38) rfl))) (by decide) (backOf (W := 2) (rm_exp_1_3 l Z av0 hw [] v247 v248 v249 T315.heap n0 (Nat.le_trans Z0 K315.1) ) hZ (hw _ (List.mem_of_getElem? (i := 38) rfl)) (hw _ (List.mem_of_getElem? (i := 37) rfl)) (by decide) (by decide)) (g := (mkF m 246 #[iv p0, iv p1, iv p2, iv p3, iv p4, iv v1, iv (3 : Int32), iv v247, iv v248, iv v249, rv b250, rv b306, rv b315, iv (4 : Int32)] [(.int v249), (.int v248), (.int v247), (.int (3 : Int32)), (.int (1 : Int32)), (.long v321)])) rfl (by rw [hml]; rfl) (argsL := [(.int (1 : Int32)), (.int (3 : Int32)), (.int v247), (.int v248), (.int v249)]) (rest := [(.long v321)]) (lenOf own_pd5 rfl) rfl (by show 2 * 0 + _ ≤ _; exact Nat.le_of_eq rfl) (hb hby at_246) (fun _ _ => ⟨rfl, e320, (by decide : 4 + 0 ≤ _), (by decide : 15 + 0 ≤ _)⟩)
        dsimp only [Pt.U, Pt.locs, Pt.cells, Pt.slots] at X322 l322 y322 z322 st322 hQ322
        subst l322 y322 z322
        obtain ⟨rfl, N322q, e322⟩ := hQ322
        have N322 := Fr.app N320 N322q
        refine ownGo (T' := T322) (f' := (mkF m 249 #[iv p0, iv p1, iv p2, iv p3, iv p4, iv v1, iv (3 : Int32), iv v247, iv v248, iv v249, rv b250, rv b306, rv b315, iv (4 : Int32)] [(.long ((((0 : Int64) ||| (own_Bw (64 : Int32) (128 : Int32) v247)) ||| (own_Bw (64 : Int32) (128 : Int32) v248)) ||| (own_Bw (64 : Int32) (128 : Int32) v249))), (.long v321)])) (st322) ?_
        refine ow_lcmp (q := 250) X322 hx _ (hb hby at_249) rfl rfl ?_
        refine ow_ifYes (q := 255) X322 hx (hb hby at_250) (Jvm.Free.XT.ll_eq_t (by rw [← hv_v321]; exact own_cmp_1_3 (own_lt (own_val hv_v247 hv_v1 hz2 hL.2.2)) (own_lt (own_val hv_v248 hv_v1 hz2 hL.2.2)) (own_lt (own_val hv_v249 hv_v1 hz2 hL.2.2)))) (by decide) (by decide) ?_
        refine ow_iload (q := 257) X322 hx (hb hby at_255) rfl rfl ?_
        refine ow_iconst (q := 258) X322 hx (2 : Int32) (hb hby at_257) rfl rfl ?_
        refine ow_icmpNo (q := 261) X322 hx (hb hby at_258) rfl (Jvm.Free.XT.ii_le_f (by decide)) ?_
        refine ow_aload (q := 263) X322 hx (hb hby at_261) rfl rfl rfl ?_
        refine ow_iconst (q := 264) X322 hx (2 : Int32) (hb hby at_263) rfl rfl ?_
        refine ownGo (T' := T322) (f' := (mkF m 265 #[iv p0, iv p1, iv p2, iv p3, iv p4, iv v1, iv (3 : Int32), iv v247, iv v248, iv v249, rv b250, rv b306, rv b315, iv (4 : Int32)] [(.long ((own_or1 (own_or1 (own_or1 (fun _ => (0 : Int64)) v247) v248) v249) 2))])) (ownLaload FP315_0 X322 hx hZ e322 (j := (2 : Int32)) (by unfold ownIn; decide) (g := (mkF m 264 #[iv p0, iv p1, iv p2, iv p3, iv p4, iv v1, iv (3 : Int32), iv v247, iv v248, iv v249, rv b250, rv b306, rv b315, iv (4 : Int32)] [(.int (2 : Int32)), (.ref b315)])) rfl rfl (hb hby at_264)) ?_
        generalize hv_v323 : ((own_or1 (own_or1 (own_or1 (fun _ => (0 : Int64)) v247) v248) v249) 2) = v323
        refine ow_iconst (q := 266) X322 hx (2 : Int32) (hb hby at_265) rfl rfl ?_
        refine ow_iload (q := 268) X322 hx (hb hby at_266) rfl rfl ?_
        refine ow_iload (q := 270) X322 hx (hb hby at_268) rfl rfl ?_
        refine ow_iload (q := 272) X322 hx (hb hby at_270) rfl rfl ?_
        refine ow_iload (q := 274) X322 hx (hb hby at_272) rfl rfl ?_
        obtain ⟨_, _, ⟨T324, L324, k324, n324⟩, -, X324, ⟨Lc324, hQ324, l324, y324, z324⟩, st324⟩ := Jvm.LawKit.callS X322 hx (y := (⟨"com/example/sieveline/sieveline/solver/BitMatrixRowPinLaw", "expect", "(IIIII)J"⟩ : MethodName)) hown (mvT hZ (hw _ (List.mem_of_getElem? (i := 35) rfl))) (mvT hZ (hw _ (List.mem_of_getElem? (i := 36) rfl))) (mvT hZ (hw _ (List.mem_of_getElem? (i := 37) rfl))) (mvT hZ (hw _ (List.mem_of_getElem? (i := 38) rfl))) (by decide) (backOf (W := 2) (rm_exp_2_3 l Z av0 hw [] v247 v248 v249 T315.heap n0 (Nat.le_trans Z0 K315.1) ) hZ (hw _ (List.mem_of_getElem? (i := 38) rfl)) (hw _ (List.mem_of_getElem? (i := 37) rfl)) (by decide) (by decide)) (g := (mkF m 274 #[iv p0, iv p1, iv p2, iv p3, iv p4, iv v1, iv (3 : Int32), iv v247, iv v248, iv v249, rv b250, rv b306, rv b315, iv (4 : Int32)] [(.int v249), (.int v248), (.int v247), (.int (3 : Int32)), (.int (2 : Int32)), (.long v323)])) rfl (by rw [hml]; rfl) (argsL := [(.int (2 : Int32)), (.int (3 : Int32)), (.int v247), (.int v248), (.int v249)]) (rest := [(.long v323)]) (lenOf own_pd5 rfl) rfl (by show 2 * 0 + _ ≤ _; exact Nat.le_of_eq rfl) (hb hby at_274) (fun _ _ => ⟨rfl, e322, (by decide : 4 + 0 ≤ _), (by decide : 15 + 0 ≤ _)⟩)
        dsimp only [Pt.U, Pt.locs, Pt.cells, Pt.slots] at X324 l324 y324 z324 st324 hQ324
        subst l324 y324 z324
        obtain ⟨rfl, N324q, e324⟩ := hQ324
        have N324 := Fr.app N322 N324q
        refine ownGo (T' := T324) (f' := (mkF m 277 #[iv p0, iv p1, iv p2, iv p3, iv p4, iv v1, iv (3 : Int32), iv v247, iv v248, iv v249, rv b250, rv b306, rv b315, iv (4 : Int32)] [(.long ((((0 : Int64) ||| (own_Bw (128 : Int32) (192 : Int32) v247)) ||| (own_Bw (128 : Int32) (192 : Int32) v248)) ||| (own_Bw (128 : Int32) (192 : Int32) v249))), (.long v323)])) (st324) ?_
        refine ow_lcmp (q := 278) X324 hx _ (hb hby at_277) rfl rfl ?_
        refine ow_ifYes (q := 283) X324 hx (hb hby at_278) (Jvm.Free.XT.ll_eq_t (by rw [← hv_v323]; exact own_cmp_2_3 (own_lt (own_val hv_v247 hv_v1 hz2 hL.2.2)) (own_lt (own_val hv_v248 hv_v1 hz2 hL.2.2)) (own_lt (own_val hv_v249 hv_v1 hz2 hL.2.2)))) (by decide) (by decide) ?_
        refine ow_iload (q := 285) X324 hx (hb hby at_283) rfl rfl ?_
        refine ow_iconst (q := 286) X324 hx (3 : Int32) (hb hby at_285) rfl rfl ?_
        refine ow_icmpNo (q := 289) X324 hx (hb hby at_286) rfl (Jvm.Free.XT.ii_le_f (by decide)) ?_
        refine ow_aload (q := 291) X324 hx (hb hby at_289) rfl rfl rfl ?_
        refine ow_iconst (q := 292) X324 hx (3 : Int32) (hb hby at_291) rfl rfl ?_
        refine ownGo (T' := T324) (f' := (mkF m 293 #[iv p0, iv p1, iv p2, iv p3, iv p4, iv v1, iv (3 : Int32), iv v247, iv v248, iv v249, rv b250, rv b306, rv b315, iv (4 : Int32)] [(.long ((own_or1 (own_or1 (own_or1 (fun _ => (0 : Int64)) v247) v248) v249) 3))])) (ownLaload FP315_0 X324 hx hZ e324 (j := (3 : Int32)) (by unfold ownIn; decide) (g := (mkF m 292 #[iv p0, iv p1, iv p2, iv p3, iv p4, iv v1, iv (3 : Int32), iv v247, iv v248, iv v249, rv b250, rv b306, rv b315, iv (4 : Int32)] [(.int (3 : Int32)), (.ref b315)])) rfl rfl (hb hby at_292)) ?_
        generalize hv_v325 : ((own_or1 (own_or1 (own_or1 (fun _ => (0 : Int64)) v247) v248) v249) 3) = v325
        refine ow_iconst (q := 294) X324 hx (3 : Int32) (hb hby at_293) rfl rfl ?_
        refine ow_iload (q := 296) X324 hx (hb hby at_294) rfl rfl ?_
        refine ow_iload (q := 298) X324 hx (hb hby at_296) rfl rfl ?_
        refine ow_iload (q := 300) X324 hx (hb hby at_298) rfl rfl ?_
        refine ow_iload (q := 302) X324 hx (hb hby at_300) rfl rfl ?_
        obtain ⟨_, _, ⟨T326, L326, k326, n326⟩, -, X326, ⟨Lc326, hQ326, l326, y326, z326⟩, st326⟩ := Jvm.LawKit.callS X324 hx (y := (⟨"com/example/sieveline/sieveline/solver/BitMatrixRowPinLaw", "expect", "(IIIII)J"⟩ : MethodName)) hown (mvT hZ (hw _ (List.mem_of_getElem? (i := 35) rfl))) (mvT hZ (hw _ (List.mem_of_getElem? (i := 36) rfl))) (mvT hZ (hw _ (List.mem_of_getElem? (i := 37) rfl))) (mvT hZ (hw _ (List.mem_of_getElem? (i := 38) rfl))) (by decide) (backOf (W := 2) (rm_exp_3_3 l Z av0 hw [] v247 v248 v249 T315.heap n0 (Nat.le_trans Z0 K315.1) ) hZ (hw _ (List.mem_of_getElem? (i := 38) rfl)) (hw _ (List.mem_of_getElem? (i := 37) rfl)) (by decide) (by decide)) (g := (mkF m 302 #[iv p0, iv p1, iv p2, iv p3, iv p4, iv v1, iv (3 : Int32), iv v247, iv v248, iv v249, rv b250, rv b306, rv b315, iv (4 : Int32)] [(.int v249), (.int v248), (.int v247), (.int (3 : Int32)), (.int (3 : Int32)), (.long v325)])) rfl (by rw [hml]; rfl) (argsL := [(.int (3 : Int32)), (.int (3 : Int32)), (.int v247), (.int v248), (.int v249)]) (rest := [(.long v325)]) (lenOf own_pd5 rfl) rfl (by show 2 * 0 + _ ≤ _; exact Nat.le_of_eq rfl) (hb hby at_302) (fun _ _ => ⟨rfl, e324, (by decide : 4 + 0 ≤ _), (by decide : 15 + 0 ≤ _)⟩)
        dsimp only [Pt.U, Pt.locs, Pt.cells, Pt.slots] at X326 l326 y326 z326 st326 hQ326
        subst l326 y326 z326
        obtain ⟨rfl, N326q, e326⟩ := hQ326
        have N326 := Fr.app N324 N326q
        refine ownGo (T' := T326) (f' := (mkF m 305 #[iv p0, iv p1, iv p2, iv p3, iv p4, iv v1, iv (3 : Int32), iv v247, iv v248, iv v249, rv b250, rv b306, rv b315, iv (4 : Int32)] [(.long ((((0 : Int64) ||| (own_Bw (192 : Int32) (256 : Int32) v247)) ||| (own_Bw (192 : Int32) (256 : Int32) v248)) ||| (own_Bw (192 : Int32) (256 : Int32) v249))), (.long v325)])) (st326) ?_
        refine ow_lcmp (q := 306) X326 hx _ (hb hby at_305) rfl rfl ?_
        refine ow_ifYes (q := 311) X326 hx (hb hby at_306) (Jvm.Free.XT.ll_eq_t (by rw [← hv_v325]; exact own_cmp_3_3 (own_lt (own_val hv_v247 hv_v1 hz2 hL.2.2)) (own_lt (own_val hv_v248 hv_v1 hz2 hL.2.2)) (own_lt (own_val hv_v249 hv_v1 hz2 hL.2.2)))) (by decide) (by decide) ?_
        refine ow_iconst (q := 312) X326 hx (1 : Int32) (hb hby at_311) rfl rfl ?_
        refine ownRetN X326 hx (r := (1 : Int32)) (Or.inl rfl) Bd.returns (hb hby at_312) hlk (by decide) (by decide) (by decide) ?_
        exact ⟨rfl, N326⟩
set_option maxRecDepth 65536 in
set_option maxHeartbeats 40000000 in
theorem comes_1 {Post : Tables → Env → Array Value → State → Outcome → State → Prop} (hpost : ∀ tb e args s v u, (limb_1_1.after args s (.returned v) u = true ∧ limb_1_2.after args s (.returned v) u = true ∧ True) → FrameEnd s (.returned v) u (Jvm.fieldLocs frame_1_writes args s ++ Jvm.arrayLocs frame_1_arrays args s ++ Jvm.staticLocs frame_1_statics s) 16 128 → Post tb e args s (.returned v) u) :
    ArmFor flags0 classFile x code maxLocals ret World_1 tables_1 room_1 Calls_1 rest_1 Pre_1 Post := by
  intro l hfl _ _ p e ha hc hk s m args below hf hA hF happ hP
  obtain ⟨hcalls, hrest, hpre⟩ := hP
  obtain ⟨-, -, -, hnamed, -, -, -, hat⟩ := (Spec.applies_iff hf).mp happ
  obtain ⟨hg, hn⟩ := and_e (Cond.before_iff.mp (show (Jvm.Cond.and given_1 narrow_1).before args s = true from hpre))
  obtain ⟨gg1, gg2⟩ := and_e hg
  obtain ⟨gg3, gg4⟩ := and_e gg2
  obtain ⟨gg5, gg6⟩ := and_e gg4
  obtain ⟨gg7, gg8⟩ := and_e gg6
  obtain ⟨gg9, gg10⟩ := and_e gg8
  obtain ⟨w0, w1, w2, w3, w4, rfl⟩ : ∃ w0 w1 w2 w3 w4 : Value, args = #[w0, w1, w2, w3, w4] := by
    have hs : args.size = 5 := by simpa [Cond.value, given_1] using gg1
    obtain ⟨L⟩ := args
    match L, hs with
    | [w0, w1, w2, w3, w4], _ => exact ⟨w0, w1, w2, w3, w4, rfl⟩
  have hw := fun d (hd : d ∈ tables_1) => atoms_spec (ws := Jvm.Cond.code x code maxLocals ret :: tables_1) hat d (List.mem_cons_of_mem _ hd)
  have hfit : Fit s := fun {y c} hc i hi => by
    obtain ⟨ha, rfl⟩ := Array.getElem?_eq_some_iff.mp hc
    have q := List.all_eq_true.mp ((Array.all_eq_true_iff_forall_mem.mp hF) _ (Array.getElem_mem ha)) i (List.mem_range.mpr hi)
    simpa [Array.getElem?_eq_getElem hi] using q
  obtain ⟨i0, ei0⟩ := is_v gg3
  obtain rfl : w0 = (.int i0) := Option.some.inj ei0
  obtain ⟨i1, ei1⟩ := is_v gg5
  obtain rfl : w1 = (.int i1) := Option.some.inj ei1
  obtain ⟨i2, ei2⟩ := is_v gg7
  obtain rfl : w2 = (.int i2) := Option.some.inj ei2
  obtain ⟨i3, ei3⟩ := is_v gg9
  obtain rfl : w3 = (.int i3) := Option.some.inj ei3
  obtain ⟨i4, ei4⟩ := is_v gg10
  obtain rfl : w4 = (.int i4) := Option.some.inj ei4
  obtain ⟨n, o, h1, h2, h3, _, L, rfl, ⟨rfl, N⟩, hq⟩ := rm_law l s _ hw tables_1 i0 i1 i2 i3 i4  s.heap s.heap.size (Nat.le_refl _)  p e ha hc hk s m _ below hf ((Spec.applies_iff_loose hf).mp happ).1 ⟨rfl, State.Warmed39.refl s, rfl⟩ trivial
  refine ⟨n, _, h1, h2, h3, hpost _ _ _ _ _ _ ⟨Cond.after_iff.mpr rfl, Cond.after_iff.mpr (eq_i res_at (Term.int_eval (1)) rfl), trivial⟩ ⟨hq.1, hq.2.1, (hq.2.2.sift fun y hy => Or.inr (N y hy)).mono (by decide) (by decide)⟩⟩
theorem main_1_1 : Claimed_1_1 := comes_1 fun _ _ _ _ _ _ h hF => ⟨h.1, hF⟩
theorem main_1_2 : Claimed_1_2 := comes_1 fun _ _ _ _ _ _ h hF => ⟨h.2.1, hF⟩
end Jvm.Pilot.@@N@@
namespace Jvm.Pilot.@@N@@
open Jvm Jvm.ClassFile Sem Op Lib Jvm.Free Jvm.Stand Jvm.Pilot.@@N@@.Jvm.D
/-! MADE BY PROGRAM (witnessworld.py) out of the Statement's table words and the real class files: 12 classes; the members and pool entries that the words name. The judged class is class 1, her method 3. -/
namespace start1
open Jvm.ClassFile
def u (s : String) : CpInfo := .utf8 (stringToUtf16 s)
/-- a pool by its gaps: so many unusable entries, then the entry; so many at the end -/
def gap : Nat → List CpInfo → List CpInfo
  | 0, r => r
  | n + 1, r => .unusable :: gap n r
def poolList (es : List (Nat × CpInfo)) (last : Nat) : List CpInfo := es.foldr (fun e r => gap e.1 (e.2 :: r)) (gap last [])
def pool (es : List (Nat × CpInfo)) (last : Nat) : Array CpInfo := ⟨poolList es last⟩
def fileOf (pool : Array CpInfo) (this : Nat) (attrs : Array Attribute := #[]) (ms : Array MethodInfo := #[]) (fl : Nat := 33) (sup : Nat := 0) (ifs : Array Nat := #[]) (fds : Array FieldInfo := #[]) : ClassFile where
  minorVersion := 0
  majorVersion := 65
  constantPool := pool
  accessFlags := fl
  thisClass := this
  superClass := sup
  interfaces := ifs
  fields := fds
  methods := ms
  attributes := attrs
def plain (name : String) (sup : Option ClassId) : Class where
  name := name
  kind := .ordinary
  loader := none
  accessFlags := 33
  super := sup
  interfaces := #[]
  cf := none
  fields := #[]
  methods := #[]
  instanceTypes := #[]
  staticTypes := #[]
  resolved := #[]
  callSites := []
  init := .initialized
  statics := none
  mirror := none

def pool0 : Array CpInfo := pool [(5, u "<init>"), (0, u "()V"), (1, .class_ 10), (1, u "java/lang/Object")] 113

def k0c0 : Code := { maxStack := 0, maxLocals := 1, code := object_method_1_code, exceptionTable := #[], attributes := #[] }
def k0m0 : Method := { name := "<init>", desc := "()V", sig := { parameters := [], returnType := none }, accessFlags := 1, code := some k0c0 }
/-- java/lang/Object -/
def k0 : Class := { plain "java/lang/Object" none with
  accessFlags := 33
  interfaces := #[]
  cf := some (fileOf pool0 8 #[] #[{ accessFlags := 1, nameIndex := 5, descriptorIndex := 6, attributes := #[] }] 33 0 #[] #[])
  fields := #[]
  methods := #[k0m0]
  instanceTypes := #[]
  staticTypes := #[]
  resolved := Array.replicate 124 none
  statics := none }

def pool1 : Array CpInfo := pool [(2, .class_ 4), (1, u "java/lang/Object"), (0, u "<init>"), (0, u "()V"), (0, .methodref 8 9), (0, .class_ 10), (0, .nameAndType 11 12), (0, u "com/example/sieveline/sieveline/solver/BitMatrixRowPinLaw"), (0, u "bit"), (0, u "(II)J"), (0, .integer 2147483647), (0, .class_ 15), (0, u "com/example/sieveline/sieveline/solver/BitMatrix"), (0, .methodref 14 17), (0, .nameAndType 5 18), (0, u "(II)V"), (0, .methodref 14 20), (0, .nameAndType 21 22), (0, u "row"), (0, u "([I)[J"), (0, .methodref 8 24), (0, .nameAndType 25 26), (0, u "expect"), (0, u "(IIIII)J"), (3, u "law"), (0, u "(IIIII)Z")] 6

def k1m0 : Method := { name := "<init>", desc := "()V", sig := { parameters := [], returnType := none }, accessFlags := 1, code := none }
def k1c1 : Code := { maxStack := 4, maxLocals := 3, code := method_2_code, exceptionTable := #[], attributes := #[] }
def k1m1 : Method := { name := "bit", desc := "(II)J", sig := { parameters := [.int, .int], returnType := some .long }, accessFlags := 10, code := some k1c1 }
def k1c2 : Code := { maxStack := 4, maxLocals := 7, code := method_3_code, exceptionTable := #[], attributes := #[] }
def k1m2 : Method := { name := "expect", desc := "(IIIII)J", sig := { parameters := [.int, .int, .int, .int, .int], returnType := some .long }, accessFlags := 10, code := some k1c2 }
def k1c3 : Code := { maxStack := 7, maxLocals := 14, code := code, exceptionTable := #[], attributes := #[] }
def k1m3 : Method := { name := "law", desc := "(IIIII)Z", sig := { parameters := [.int, .int, .int, .int, .int], returnType := some .boolean }, accessFlags := 9, code := some k1c3 }
/-- com/example/sieveline/sieveline/solver/BitMatrixRowPinLaw -/
def k1 : Class := { plain "com/example/sieveline/sieveline/solver/BitMatrixRowPinLaw" (some 0) with
  accessFlags := 49
  interfaces := #[]
  cf := some (fileOf pool1 8 #[] #[{ accessFlags := 1, nameIndex := 5, descriptorIndex := 6, attributes := #[] }, { accessFlags := 10, nameIndex := 11, descriptorIndex := 12, attributes := #[] }, { accessFlags := 10, nameIndex := 25, descriptorIndex := 26, attributes := #[] }, { accessFlags := 9, nameIndex := 30, descriptorIndex := 31, attributes := #[] }] 49 2 #[] #[])
  fields := #[]
  methods := #[k1m0, k1m1, k1m2, k1m3]
  instanceTypes := #[]
  staticTypes := #[]
  resolved := Array.replicate 38 none
  statics := none }

def pool2 : Array CpInfo := pool [(1, .methodref 2 3), (0, .class_ 4), (0, .nameAndType 5 6), (0, u "java/lang/Object"), (0, u "<init>"), (0, u "()V"), (0, .methodref 8 9), (0, .class_ 10), (0, .nameAndType 11 12), (0, u "com/example/sieveline/sieveline/solver/BitMatrix"), (0, u "rowWords"), (0, u "(I)I"), (0, .fieldref 8 14), (0, .nameAndType 11 15), (0, u "I"), (0, .methodref 8 17), (0, .nameAndType 18 19), (0, u "words"), (0, u "(II)J"), (0, .methodref 21 22), (0, .class_ 23), (0, .nameAndType 24 25), (0, u "java/lang/Math"), (0, u "toIntExact"), (0, u "(J)I"), (0, .fieldref 8 27), (0, .nameAndType 18 28), (0, u "[J"), (0, .fieldref 8 30), (0, .nameAndType 31 15), (0, u "rows"), (0, .fieldref 8 33), (0, .nameAndType 34 15), (0, u "columns"), (14, u "(II)V"), (15, u "SMALL"), (0, u "J"), (9, u "row"), (0, u "([I)[J")] 9

def k2c0 : Code := { maxStack := 3, maxLocals := 3, code := prog_49_method_1_code, exceptionTable := #[], attributes := #[] }
def k2m0 : Method := { name := "<init>", desc := "(II)V", sig := { parameters := [.int, .int], returnType := none }, accessFlags := 0, code := some k2c0 }
def k2c1 : Code := { maxStack := 4, maxLocals := 2, code := prog_49_method_2_code, exceptionTable := #[], attributes := #[] }
def k2m1 : Method := { name := "words", desc := "(II)J", sig := { parameters := [.int, .int], returnType := some .long }, accessFlags := 8, code := some k2c1 }
def k2c2 : Code := { maxStack := 7, maxLocals := 7, code := prog_49_method_6_code, exceptionTable := #[], attributes := #[] }
def k2m2 : Method := { name := "row", desc := "([I)[J", sig := { parameters := [(.array .int)], returnType := some (.array .long) }, accessFlags := 0, code := some k2c2 }
def k2c3 : Code := { maxStack := 2, maxLocals := 1, code := prog_49_method_12_code, exceptionTable := #[], attributes := #[] }
def k2m3 : Method := { name := "rowWords", desc := "(I)I", sig := { parameters := [.int], returnType := some .int }, accessFlags := 10, code := some k2c3 }
/-- com/example/sieveline/sieveline/solver/BitMatrix -/
def k2 : Class := { plain "com/example/sieveline/sieveline/solver/BitMatrix" (some 0) with
  accessFlags := 48
  interfaces := #[]
  cf := some (fileOf pool2 8 #[] #[{ accessFlags := 0, nameIndex := 5, descriptorIndex := 49, attributes := #[] }, { accessFlags := 8, nameIndex := 18, descriptorIndex := 19, attributes := #[] }, { accessFlags := 0, nameIndex := 76, descriptorIndex := 77, attributes := #[] }, { accessFlags := 10, nameIndex := 11, descriptorIndex := 12, attributes := #[] }] 48 2 #[] #[{ accessFlags := 24, nameIndex := 65, descriptorIndex := 66, attributes := #[] }, { accessFlags := 18, nameIndex := 18, descriptorIndex := 28, attributes := #[] }, { accessFlags := 18, nameIndex := 11, descriptorIndex := 15, attributes := #[] }, { accessFlags := 18, nameIndex := 31, descriptorIndex := 15, attributes := #[] }, { accessFlags := 18, nameIndex := 34, descriptorIndex := 15, attributes := #[] }])
  fields := #[{ name := "SMALL", type := .long, accessFlags := 24, slot := 0, constantValue := 0 }, { name := "words", type := (.array .long), accessFlags := 18, slot := 0, constantValue := 0 }, { name := "rowWords", type := .int, accessFlags := 18, slot := 1, constantValue := 0 }, { name := "rows", type := .int, accessFlags := 18, slot := 2, constantValue := 0 }, { name := "columns", type := .int, accessFlags := 18, slot := 3, constantValue := 0 }]
  methods := #[k2m0, k2m1, k2m2, k2m3]
  instanceTypes := #[(.array .long), .int, .int, .int]
  staticTypes := #[.long]
  resolved := Array.replicate 87 none
  statics := none }

def pool3 : Array CpInfo := pool [(1, .class_ 2), (0, u "java/lang/Math"), (1, .class_ 6), (1, u "java/lang/Object"), (0, u "<init>"), (0, u "()V"), (89, .class_ 100), (1, u "java/lang/Math$RandomNumberGeneratorHolder"), (71, u "negativeZeroFloatBits"), (0, u "J"), (2, u "negativeZeroDoubleBits"), (68, u "$assertionsDisabled"), (0, u "Z"), (91, u "twoToTheDoubleScaleDown"), (0, u "D"), (4, u "twoToTheDoubleScaleUp"), (9, u "E"), (3, u "PI"), (2, u "TAU"), (2, u "DEGREES_TO_RADIANS"), (0, u "RADIANS_TO_DEGREES"), (39, u "toIntExact"), (0, u "(J)I")] 53

def k3m0 : Method := { name := "<init>", desc := "()V", sig := { parameters := [], returnType := none }, accessFlags := 2, code := none }
def k3c1 : Code := { maxStack := 4, maxLocals := 2, code := jdk_29_method_43_code, exceptionTable := #[], attributes := #[] }
def k3m1 : Method := { name := "toIntExact", desc := "(J)I", sig := { parameters := [.long], returnType := some .int }, accessFlags := 9, code := some k3c1 }
/-- java/lang/Math -/
def k3 : Class := { plain "java/lang/Math" (some 0) with
  accessFlags := 49
  interfaces := #[]
  cf := some (fileOf pool3 1 #[.nestMembers #[98]] #[{ accessFlags := 2, nameIndex := 7, descriptorIndex := 8, attributes := #[] }, { accessFlags := 9, nameIndex := 405, descriptorIndex := 406, attributes := #[] }] 49 4 #[] #[{ accessFlags := 25, nameIndex := 354, descriptorIndex := 339, attributes := #[] }, { accessFlags := 25, nameIndex := 358, descriptorIndex := 339, attributes := #[] }, { accessFlags := 25, nameIndex := 361, descriptorIndex := 339, attributes := #[] }, { accessFlags := 26, nameIndex := 364, descriptorIndex := 339, attributes := #[] }, { accessFlags := 26, nameIndex := 365, descriptorIndex := 339, attributes := #[] }, { accessFlags := 26, nameIndex := 172, descriptorIndex := 173, attributes := #[] }, { accessFlags := 26, nameIndex := 176, descriptorIndex := 173, attributes := #[] }, { accessFlags := 8, nameIndex := 344, descriptorIndex := 339, attributes := #[] }, { accessFlags := 8, nameIndex := 338, descriptorIndex := 339, attributes := #[] }, { accessFlags := 4120, nameIndex := 245, descriptorIndex := 246, attributes := #[] }])
  fields := #[{ name := "E", type := .double, accessFlags := 25, slot := 0, constantValue := 0 }, { name := "PI", type := .double, accessFlags := 25, slot := 1, constantValue := 0 }, { name := "TAU", type := .double, accessFlags := 25, slot := 2, constantValue := 0 }, { name := "DEGREES_TO_RADIANS", type := .double, accessFlags := 26, slot := 3, constantValue := 0 }, { name := "RADIANS_TO_DEGREES", type := .double, accessFlags := 26, slot := 4, constantValue := 0 }, { name := "negativeZeroFloatBits", type := .long, accessFlags := 26, slot := 5, constantValue := 0 }, { name := "negativeZeroDoubleBits", type := .long, accessFlags := 26, slot := 6, constantValue := 0 }, { name := "twoToTheDoubleScaleUp", type := .double, accessFlags := 8, slot := 7, constantValue := 0 }, { name := "twoToTheDoubleScaleDown", type := .double, accessFlags := 8, slot := 8, constantValue := 0 }, { name := "$assertionsDisabled", type := .boolean, accessFlags := 4120, slot := 9, constantValue := 0 }]
  methods := #[k3m0, k3m1]
  instanceTypes := #[]
  staticTypes := #[.double, .double, .double, .double, .double, .long, .long, .double, .double, .boolean]
  resolved := Array.replicate 460 none
  statics := none }

def pool4 : Array CpInfo := pool [(1, u "java/lang/Cloneable"), (0, .class_ 1), (0, u "java/lang/Object"), (0, .class_ 3)] 3

/-- java/lang/Cloneable -/
def k4 : Class := { plain "java/lang/Cloneable" (some 0) with
  accessFlags := 1537
  interfaces := #[]
  cf := some (fileOf pool4 2 #[] #[] 1537 4 #[] #[])
  fields := #[]
  methods := #[]
  instanceTypes := #[]
  staticTypes := #[]
  resolved := Array.replicate 8 none
  statics := none }

def pool5 : Array CpInfo := pool [(1, u "java/io/Serializable"), (0, .class_ 1), (0, u "java/lang/Object"), (0, .class_ 3)] 3

/-- java/io/Serializable -/
def k5 : Class := { plain "java/io/Serializable" (some 0) with
  accessFlags := 1537
  interfaces := #[]
  cf := some (fileOf pool5 2 #[] #[] 1537 4 #[] #[])
  fields := #[]
  methods := #[]
  instanceTypes := #[]
  staticTypes := #[]
  resolved := Array.replicate 8 none
  statics := none }

/-- the primitive byte -/
def k6 : Class := { plain "byte" none with kind := .primitive 'B', accessFlags := 0x411 }
/-- [B -/
def k7 : Class := { plain "[B" (some 0) with kind := .array 6 .byte, interfaces := #[4, 5], accessFlags := 1041 }

/-- the primitive int -/
def k8 : Class := { plain "int" none with kind := .primitive 'I', accessFlags := 0x411 }
/-- [I -/
def k9 : Class := { plain "[I" (some 0) with kind := .array 8 .int, interfaces := #[4, 5], accessFlags := 1041 }

/-- the primitive long -/
def k10 : Class := { plain "long" none with kind := .primitive 'J', accessFlags := 0x411 }
/-- [J -/
def k11 : Class := { plain "[J" (some 0) with kind := .array 10 .long, interfaces := #[4, 5], accessFlags := 1041 }

def heap : Heap := #[]
def classes : Array Class := #[k0, k1, k2, k3, k4, k5, k6, k7, k8, k9, k10, k11]
def interned : List (Array UInt16 × Addr) := []
def slotsUsed : Nat := 0
def theMethod : MethodId := ⟨1, 3⟩
def args0 : Array Value := #[.int 5, .int 6, .int 7, .int 8, .int 9]
def aboutOver (below : List Frame) : State where
  vm := { classes := classes, interned := interned.toArray }
  heap := heap
  slotsUsed := slotsUsed
  threads := #[{ frames := .invoking theMethod args0 :: below }]
def below0 : List Frame := [.native { method := ⟨0, 0⟩, args := #[] }]
def about1 : State := aboutOver below0
def p0 : Program := .bare "" "" ""
def e0 : Env := launch0.env 0 0 0
theorem w_frames : about1.frames = Frame.invoking theMethod args0 :: below0 := rfl
set_option maxRecDepth 65536 in
theorem w_args : argsFit about1.vm theMethod args0 = true := by decide +kernel
set_option maxRecDepth 65536 in
theorem w_heap : heapFits about1 = true := by decide +kernel
set_option maxRecDepth 65536 in
theorem w_runnable : about1.curStatus? = some .runnable := by decide +kernel
set_option maxRecDepth 65536 in
theorem w_alone : about1.alone = true := by decide +kernel
set_option maxRecDepth 65536 in
theorem w_named : about1.methodNamed? x = some theMethod := by decide +kernel
set_option maxRecDepth 65536 in
theorem w_hears : about1.hears theMethod below0 = true := by decide +kernel
set_option maxRecDepth 65536 in
theorem w_ripe : about1.ripe theMethod args0 below0 = true := by decide +kernel
theorem w_running : about1.status = .running := rfl
set_option maxRecDepth 65536 in
theorem w_room : about1.hasRoom e0.platform room_1 = true :=
  launch0.hasRoom_least _ room_1 (by decide +kernel) (by decide +kernel) (by decide +kernel) (by decide +kernel) (by decide +kernel) (by decide +kernel)
theorem allAtoms_all (ts : List Jvm.Cond) (a : Array Jvm.Value) (st : Jvm.State) : (allAtoms ts).before a st = ts.all (fun c => c.before a st) := by
  induction ts with
  | nil => rfl
  | cons c t ih =>
    show (Jvm.Cond.and c (allAtoms t)).before a st = _
    rw [Jvm.Cond.before_and, ih, List.all_cons]
def words1 : List Jvm.Cond := Jvm.Cond.code x code maxLocals ret :: tables_1
/-- a 'code' word, met by the world's own term for the bytes: nothing is compared byte by byte -/
theorem code_word {y : MethodName} {bytes : ByteArray} {mx : Nat} {rt : Option FieldType} {a : Array Value} {s : State} {m : MethodId} {meth : Method} {c : Code} (h1 : s.methodNamed? y = some m) (h2 : s.vm.method? m = some meth) (h3 : meth.code = some c) (h4 : c.code = bytes)
    (h5 : (c.maxLocals == mx && c.exceptionTable.isEmpty && decide (c.maxStack ≤ mostOperands) && decide (meth.sig.returnType = rt) && !meth.locks && decide (parseMethodDescriptor y.desc = some meth.sig)) = true) : (Jvm.Cond.code y bytes mx rt).before a s = true := by
  simp only [Bool.and_eq_true, beq_iff_eq, Bool.not_eq_true', decide_eq_true_eq] at h5
  obtain ⟨⟨⟨⟨⟨g1, g2⟩, g3⟩, g4⟩, g5⟩, g6⟩ := h5
  simp [Cond.before, Cond.holds, Cond.value, h1, h2, h3, h4, g1, g2, g3, g4, g5, g6]
def isCode : Jvm.Cond → Bool
  | .code _ _ _ _ => true
  | _ => false
theorem all_split {L : List Jvm.Cond} {P : Jvm.Cond → Bool} (h1 : L.all (fun c => isCode c || P c) = true) (h2 : ∀ c ∈ L.filter isCode, P c = true) : L.all P = true := by
  refine List.all_eq_true.mpr fun c hc => ?_
  have h := List.all_eq_true.mp h1 c hc
  rcases Bool.eq_false_or_eq_true (isCode c) with hi | hi
  · exact h2 c (List.mem_filter.mpr ⟨hc, hi⟩)
  · simpa [hi] using h
set_option maxRecDepth 65536 in
theorem w_c0 : (Jvm.Cond.code x code maxLocals ret).before args0 about1 = true := code_word (m := ⟨1, 3⟩) (meth := k1m3) (c := k1c3) (by decide +kernel) rfl rfl rfl (by decide +kernel)
set_option maxRecDepth 65536 in
theorem w_c1 : (Jvm.Cond.code ({ cls := "com/example/sieveline/sieveline/solver/BitMatrix", name := "<init>", desc := "(II)V" } : Jvm.MethodName) prog_49_method_1_code (3 : Nat) (Option.none : Option Jvm.ClassFile.FieldType)).before args0 about1 = true := code_word (m := ⟨2, 0⟩) (meth := k2m0) (c := k2c0) (by decide +kernel) rfl rfl rfl (by decide +kernel)
set_option maxRecDepth 65536 in
theorem w_c2 : (Jvm.Cond.code ({ cls := "java/lang/Object", name := "<init>", desc := "()V" } : Jvm.MethodName) object_method_1_code (1 : Nat) (Option.none : Option Jvm.ClassFile.FieldType)).before args0 about1 = true := code_word (m := ⟨0, 0⟩) (meth := k0m0) (c := k0c0) (by decide +kernel) rfl rfl rfl (by decide +kernel)
set_option maxRecDepth 65536 in
theorem w_c3 : (Jvm.Cond.code ({ cls := "com/example/sieveline/sieveline/solver/BitMatrix", name := "rowWords", desc := "(I)I" } : Jvm.MethodName) prog_49_method_12_code (1 : Nat) (Option.some Jvm.ClassFile.FieldType.int)).before args0 about1 = true := code_word (m := ⟨2, 3⟩) (meth := k2m3) (c := k2c3) (by decide +kernel) rfl rfl rfl (by decide +kernel)
set_option maxRecDepth 65536 in
theorem w_c4 : (Jvm.Cond.code ({ cls := "com/example/sieveline/sieveline/solver/BitMatrix", name := "words", desc := "(II)J" } : Jvm.MethodName) prog_49_method_2_code (2 : Nat) (Option.some Jvm.ClassFile.FieldType.long)).before args0 about1 = true := code_word (m := ⟨2, 1⟩) (meth := k2m1) (c := k2c1) (by decide +kernel) rfl rfl rfl (by decide +kernel)
set_option maxRecDepth 65536 in
theorem w_c5 : (Jvm.Cond.code ({ cls := "java/lang/Math", name := "toIntExact", desc := "(J)I" } : Jvm.MethodName) jdk_29_method_43_code (2 : Nat) (Option.some Jvm.ClassFile.FieldType.int)).before args0 about1 = true := code_word (m := ⟨3, 1⟩) (meth := k3m1) (c := k3c1) (by decide +kernel) rfl rfl rfl (by decide +kernel)
set_option maxRecDepth 65536 in
theorem w_c6 : (Jvm.Cond.code ({ cls := "com/example/sieveline/sieveline/solver/BitMatrix", name := "row", desc := "([I)[J" } : Jvm.MethodName) prog_49_method_6_code (7 : Nat) (Option.some (Jvm.ClassFile.FieldType.array Jvm.ClassFile.FieldType.long))).before args0 about1 = true := code_word (m := ⟨2, 2⟩) (meth := k2m2) (c := k2c2) (by decide +kernel) rfl rfl rfl (by decide +kernel)
set_option maxRecDepth 65536 in
theorem w_c7 : (Jvm.Cond.code ({ cls := "com/example/sieveline/sieveline/solver/BitMatrixRowPinLaw", name := "expect", desc := "(IIIII)J" } : Jvm.MethodName) method_3_code (7 : Nat) (Option.some Jvm.ClassFile.FieldType.long)).before args0 about1 = true := code_word (m := ⟨1, 2⟩) (meth := k1m2) (c := k1c2) (by decide +kernel) rfl rfl rfl (by decide +kernel)
set_option maxRecDepth 65536 in
theorem w_c8 : (Jvm.Cond.code ({ cls := "com/example/sieveline/sieveline/solver/BitMatrixRowPinLaw", name := "bit", desc := "(II)J" } : Jvm.MethodName) method_2_code (3 : Nat) (Option.some Jvm.ClassFile.FieldType.long)).before args0 about1 = true := code_word (m := ⟨1, 1⟩) (meth := k1m1) (c := k1c1) (by decide +kernel) rfl rfl rfl (by decide +kernel)
def codes1 : List Jvm.Cond := [Jvm.Cond.code x code maxLocals ret, Jvm.Cond.code ({ cls := "com/example/sieveline/sieveline/solver/BitMatrix", name := "<init>", desc := "(II)V" } : Jvm.MethodName) prog_49_method_1_code (3 : Nat) (Option.none : Option Jvm.ClassFile.FieldType), Jvm.Cond.code ({ cls := "java/lang/Object", name := "<init>", desc := "()V" } : Jvm.MethodName) object_method_1_code (1 : Nat) (Option.none : Option Jvm.ClassFile.FieldType), Jvm.Cond.code ({ cls := "com/example/sieveline/sieveline/solver/BitMatrix", name := "rowWords", desc := "(I)I" } : Jvm.MethodName) prog_49_method_12_code (1 : Nat) (Option.some Jvm.ClassFile.FieldType.int), Jvm.Cond.code ({ cls := "com/example/sieveline/sieveline/solver/BitMatrix", name := "words", desc := "(II)J" } : Jvm.MethodName) prog_49_method_2_code (2 : Nat) (Option.some Jvm.ClassFile.FieldType.long), Jvm.Cond.code ({ cls := "java/lang/Math", name := "toIntExact", desc := "(J)I" } : Jvm.MethodName) jdk_29_method_43_code (2 : Nat) (Option.some Jvm.ClassFile.FieldType.int), Jvm.Cond.code ({ cls := "com/example/sieveline/sieveline/solver/BitMatrix", name := "row", desc := "([I)[J" } : Jvm.MethodName) prog_49_method_6_code (7 : Nat) (Option.some (Jvm.ClassFile.FieldType.array Jvm.ClassFile.FieldType.long)), Jvm.Cond.code ({ cls := "com/example/sieveline/sieveline/solver/BitMatrixRowPinLaw", name := "expect", desc := "(IIIII)J" } : Jvm.MethodName) method_3_code (7 : Nat) (Option.some Jvm.ClassFile.FieldType.long), Jvm.Cond.code ({ cls := "com/example/sieveline/sieveline/solver/BitMatrixRowPinLaw", name := "bit", desc := "(II)J" } : Jvm.MethodName) method_2_code (3 : Nat) (Option.some Jvm.ClassFile.FieldType.long)]
set_option maxRecDepth 65536 in
theorem codes_eq : words1.filter isCode = codes1 := rfl
theorem w_codes : ∀ c ∈ words1.filter isCode, c.before args0 about1 = true := by
  rw [codes_eq]
  intro c hc
  simp only [codes1, List.mem_cons, List.not_mem_nil, or_false] at hc
  rcases hc with rfl | rfl | rfl | rfl | rfl | rfl | rfl | rfl | rfl
  · exact w_c0
  · exact w_c1
  · exact w_c2
  · exact w_c3
  · exact w_c4
  · exact w_c5
  · exact w_c6
  · exact w_c7
  · exact w_c8
set_option maxRecDepth 65536 in
theorem w_t1 : (words1.take 24).all (fun c => isCode c || c.before args0 about1) = true := by decide +kernel
set_option maxRecDepth 65536 in
theorem w_t2 : (words1.drop 24).all (fun c => isCode c || c.before args0 about1) = true := by decide +kernel
theorem w_tables : (allAtoms (Jvm.Cond.code x code maxLocals ret :: tables_1)).before args0 about1 = true := by
  rw [allAtoms_all]
  show words1.all (fun c => c.before args0 about1) = true
  refine all_split ?_ w_codes
  rw [← List.take_append_drop 24 words1, List.all_append, w_t1, w_t2]
  rfl
set_option maxRecDepth 65536 in
theorem w_case : (Jvm.Cond.and given_1 narrow_1).before args0 about1 = true := by decide +kernel
theorem w_applies : (headSpec (Jvm.Cond.code x code maxLocals ret :: tables_1) room_1).applies x e0.platform about1 = true :=
  (Spec.applies_iff w_frames).mpr ⟨w_running, w_runnable, w_alone, w_named, w_hears, w_ripe, w_room, w_tables⟩
theorem atStart : AtStart classFile x code maxLocals ret World_1 tables_1 room_1 Calls_1 rest_1 Pre_1 launch0 p0 e0 about1 theMethod args0 below0 :=
  ⟨lists_1, trivial, launch0.admits_env _ _ _, launch0.least_env, fairChoices_fair.cas, fairChoices_fair.clock, w_frames, w_args, w_heap, w_applies, trivial, trivial, w_case⟩
end start1
theorem witness_1 : WitnessClaimed_1 := ⟨start1.p0, start1.e0, start1.about1, start1.theMethod, start1.args0, start1.below0, start1.atStart⟩
end Jvm.Pilot.@@N@@
