import JvmDerived
import JvmDerived.Pilot.@@N@@Statement
import JvmDerived.Pilot.@@N@@Code
set_option linter.unusedVariables false
set_option linter.unusedSimpArgs false
@@BLOCK:NumsL.lean.txt@@
namespace Jvm.Pilot.@@N@@
open Jvm Jvm.ClassFile Sem Op Lib Jvm.Free Jvm.Stand Jvm.LawKit Jvm.RoadKit Bundle Jvm.Pilot.@@N@@.Jvm.D
/-! own layer: the walk in continuation form -/
section OwnWalk
variable {p : Program} {l : Launch} {e : Env} {R : Room} {s : State} {m : MethodId} {args : Array Value} {below : List Frame} {meth : Method} {c : Code} {T T' : State} {locs : List Loc} {cells slots : Nat} {Q : Option Value → Heap → List Loc → Prop} {ck sk : Nat} {f f' : JFrame} {Z : State} {a0 : Array Value} {h h' : Heap}
/-- from this state and frame the invocation returns, and what it leaves is told by Q -/
def ownEnds (p : Program) (e : Env) (below : List Frame) (s : State) (Q : Option Value → Heap → List Loc → Prop) (ck sk : Nat) (T : State) (f : JFrame) : Prop :=
  ∃ s₂ o, Steps p.tables e below (T.setTop f) s₂ ∧ s₂.status = .running ∧ Ended s₂ below o ∧ ∃ v L, o = .returned v ∧ Q v s₂.heap L ∧ FrameEnd s o s₂ L ck sk
theorem ownGo (st : ∀ target, Steps p.tables e below (T'.setTop f') target → Steps p.tables e below (T.setTop f) target) (k : ownEnds p e below s Q ck sk T' f') : ownEnds p e below s Q ck sk T f := by
  obtain ⟨a, b, h1, h2⟩ := k
  exact ⟨a, b, st _ h1, h2⟩
theorem ownRun (st : Steps p.tables e below (T.setTop f) (T'.setTop f')) (k : ownEnds p e below s Q ck sk T' f') : ownEnds p e below s Q ck sk T f :=
  ownGo (fun _ q => st.trans q) k
theorem ownCast (q : f = f') (k : ownEnds p e below s Q ck sk T f') : ownEnds p e below s Q ck sk T f := q ▸ k
theorem ownRetI (X : Stand p l e R s m args below meth c T locs cells slots) (hx : p.tables.exec = Jvm.exec) {pc : Nat} {Ls : Array Slot} {z : Int32} {rest : List Value} (hret : meth.sig.returnType = some .int) (hd : decode c.code pc = .ok (.ireturn, 1)) (hk : meth.locks = false) (hc : cells ≤ ck) (hs : slots ≤ sk)
    (hQ : Q (some (.int z)) T.heap locs) : ownEnds p e below s Q ck sk T (mkF m pc Ls (.int z :: rest)) := by
  obtain ⟨fs, hr, hrun, hended, hW, hsame⟩ := X.leave (v := some (.int z)) (fun h => by rw [hret] at h; cases h) hk
  exact ⟨_, _, retOut X hx hret rfl (Or.inl ⟨rfl, Or.inl rfl, _, rfl⟩) hd hr, hrun, hended, _, _, rfl, hQ, ⟨_, rfl⟩, hW, hsame.mono hc hs⟩
theorem ownRetN (X : Stand p l e R s m args below meth c T locs cells slots) (hx : p.tables.exec = Jvm.exec) {pc : Nat} {Ls : Array Slot} {z r : Int32} {rest : List Value} {t : FieldType} (ht : t = .boolean ∨ t = .byte ∨ t = .char ∨ t = .short) (hret : meth.sig.returnType = some t) (hd : decode c.code pc = .ok (.ireturn, 1)) (hk : meth.locks = false) (hc : cells ≤ ck) (hs : slots ≤ sk)
    (hz : nar t z = r) (hQ : Q (some (.int r)) T.heap locs) : ownEnds p e below s Q ck sk T (mkF m pc Ls (.int z :: rest)) := by
  subst hz
  obtain ⟨fs, hr, hrun, hended, hW, hsame⟩ := X.leave (v := some (.int (nar t z))) (fun h => by rw [hret] at h; cases h) hk
  exact ⟨_, _, retN X hx hret ht hd hr, hrun, hended, _, _, rfl, hQ, ⟨_, rfl⟩, hW, hsame.mono hc hs⟩
theorem ownRetJ (X : Stand p l e R s m args below meth c T locs cells slots) (hx : p.tables.exec = Jvm.exec) {pc : Nat} {Ls : Array Slot} {z : Int64} {rest : List Value} (hret : meth.sig.returnType = some .long) (hd : decode c.code pc = .ok (.lreturn, 1)) (hk : meth.locks = false) (hc : cells ≤ ck) (hs : slots ≤ sk)
    (hQ : Q (some (.long z)) T.heap locs) : ownEnds p e below s Q ck sk T (mkF m pc Ls (.long z :: rest)) := by
  obtain ⟨fs, hr, hrun, hended, hW, hsame⟩ := X.leave (v := some (.long z)) (fun h => by rw [hret] at h; cases h) hk
  exact ⟨_, _, retOut X hx hret rfl (Or.inr (Or.inl ⟨rfl, rfl, _, rfl⟩)) hd hr, hrun, hended, _, _, rfl, hQ, ⟨_, rfl⟩, hW, hsame.mono hc hs⟩
theorem ownRetR (X : Stand p l e R s m args below meth c T locs cells slots) (hx : p.tables.exec = Jvm.exec) {pc : Nat} {Ls : Array Slot} {w : Value} {rest : List Value} {t : FieldType} (ht : t.isReference = true) (hn : narrow t w = w) (hw : w.isRef = true) (hret : meth.sig.returnType = some t) (hd : decode c.code pc = .ok (.areturn, 1)) (hk : meth.locks = false) (hc : cells ≤ ck) (hs : slots ≤ sk)
    (hQ : Q (some w) T.heap locs) : ownEnds p e below s Q ck sk T (mkF m pc Ls (w :: rest)) := by
  obtain ⟨fs, hr, hrun, hended, hW, hsame⟩ := X.leave (v := some w) (fun h => by rw [hret] at h; cases h) hk
  exact ⟨_, _, retOut X hx hret hn (Or.inr (Or.inr (Or.inr (Or.inr ⟨rfl, ht, hw⟩)))) hd hr, hrun, hended, _, _, rfl, hQ, ⟨_, rfl⟩, hW, hsame.mono hc hs⟩
theorem ownRetV (X : Stand p l e R s m args below meth c T locs cells slots) (hx : p.tables.exec = Jvm.exec) {pc : Nat} {Ls : Array Slot} (hret : meth.sig.returnType = none) (hd : decode c.code pc = .ok (.return_, 1)) (hk : meth.locks = false) (hc : cells ≤ ck) (hs : slots ≤ sk)
    (hQ : Q none T.heap locs) : ownEnds p e below s Q ck sk T (mkF m pc Ls []) := by
  obtain ⟨fs, hr, hrun, hended, hW, hsame⟩ := X.leave (v := none) (fun _ => rfl) hk
  exact ⟨_, _, X.returnOut hx hret hd hr, hrun, hended, _, _, rfl, hQ, ⟨_, rfl⟩, hW, hsame.mono hc hs⟩
/-- one place of a function turned -/
def ownUpd {α : Type} (f : Nat → α) (j : Nat) (x : α) : Nat → α := fun i => if i = j then x else f i
theorem ownUpd_same {α : Type} (f : Nat → α) (j : Nat) (x : α) : ownUpd f j x j = x := if_pos rfl
theorem ownUpd_ne {α : Type} (f : Nat → α) {i j : Nat} (x : α) (q : i ≠ j) : ownUpd f j x i = f i := if_neg q
/-- an array of ints (or bytes, chars ..): its length and its components -/
def ownAI (Z : State) (h : Heap) (a : Addr) (ty : FieldType) (n : Nat) (g : Nat → Int32) : Prop := ∃ cl : Cell, Arr Z h a cl ty ∧ cl.slots.size = n ∧ n < 2 ^ 31 ∧ ∀ i, i < n → cl.slots[i]? = some (.int (g i))
/-- an array of longs -/
def ownAJ (Z : State) (h : Heap) (a : Addr) (n : Nat) (g : Nat → Int64) : Prop := ∃ cl : Cell, Arr Z h a cl .long ∧ cl.slots.size = n ∧ n < 2 ^ 31 ∧ ∀ i, i < n → cl.slots[i]? = some (.long (g i))
variable {a b : Addr} {ty : FieldType} {n : Nat} {gi : Nat → Int32} {gj : Nat → Int64} {ws : List Addr} {sl : Nat} {v : Value}
theorem ownAI.lt (F : ownAI Z h a ty n gi) : a < h.size := by obtain ⟨c, A, -⟩ := F; exact A.lt
theorem ownAI.ext (F : ownAI Z h a ty n gi) (E : Ext h h') : ownAI Z h' a ty n gi := by obtain ⟨c, A, r⟩ := F; exact ⟨c, A.ext E, r⟩
theorem ownAI.other (F : ownAI Z h b ty n gi) (W : Wr h h' a sl v) (q : b ≠ a) : ownAI Z h' b ty n gi := by obtain ⟨c, A, r⟩ := F; exact ⟨c, A.other W q, r⟩
theorem ownAI.keep (F : ownAI Z h a ty n gi) (K : Keep h h' ws) (q : a ∉ ws) : ownAI Z h' a ty n gi := by obtain ⟨c, A, r⟩ := F; exact ⟨c, ⟨K.2.1 a c A.1 q, A.2⟩, r⟩
theorem ownAJ.lt (F : ownAJ Z h a n gj) : a < h.size := by obtain ⟨c, A, -⟩ := F; exact A.lt
theorem ownAJ.ext (F : ownAJ Z h a n gj) (E : Ext h h') : ownAJ Z h' a n gj := by obtain ⟨c, A, r⟩ := F; exact ⟨c, A.ext E, r⟩
theorem ownAJ.other (F : ownAJ Z h b n gj) (W : Wr h h' a sl v) (q : b ≠ a) : ownAJ Z h' b n gj := by obtain ⟨c, A, r⟩ := F; exact ⟨c, A.other W q, r⟩
theorem ownAJ.keep (F : ownAJ Z h a n gj) (K : Keep h h' ws) (q : a ∉ ws) : ownAJ Z h' a n gj := by obtain ⟨c, A, r⟩ := F; exact ⟨c, ⟨K.2.1 a c A.1 q, A.2⟩, r⟩
theorem ownAI.new {k : ClassId} {z : Int32} (A : Arr Z h a (newA k ty z) ty) (q : ¬ z < 0) (d : defaultValue ty = .int 0) (N : z.toNatClampNeg = n) : ownAI Z h a ty n (fun _ => 0) := by
  subst N
  refine ⟨_, A, sz_new _ _ _, (back32 q).2, fun i hi => ?_⟩
  simp [newA, hi, d]
theorem ownAJ.new {k : ClassId} {z : Int32} (A : Arr Z h a (newA k .long z) .long) (q : ¬ z < 0) (N : z.toNatClampNeg = n) : ownAJ Z h a n (fun _ => 0) := by
  subst N
  refine ⟨_, A, sz_new _ _ _, (back32 q).2, fun i hi => ?_⟩
  simp [newA, hi, defaultValue]
theorem ownAI.set (F : ownAI Z h a ty n gi) {j : Nat} {x : Int32} (W : Wr h h' a j (.int x)) : ownAI Z h' a ty n (ownUpd gi j x) := by
  obtain ⟨cl, A, S, N, H⟩ := F
  refine ⟨_, A.same W, by simpa [Cell.setSlot] using S, N, fun i hi => ?_⟩
  by_cases e : i = j
  · subst e; simp [Cell.setSlot, ownUpd, S, hi]
  · rw [ownUpd_ne _ _ e]
    show (cl.slots.setIfInBounds j (.int x))[i]? = _
    rw [Array.getElem?_setIfInBounds_ne (Ne.symm e)]; exact H i hi
theorem ownAJ.set (F : ownAJ Z h a n gj) {j : Nat} {x : Int64} (W : Wr h h' a j (.long x)) : ownAJ Z h' a n (ownUpd gj j x) := by
  obtain ⟨cl, A, S, N, H⟩ := F
  refine ⟨_, A.same W, by simpa [Cell.setSlot] using S, N, fun i hi => ?_⟩
  by_cases e : i = j
  · subst e; simp [Cell.setSlot, ownUpd, S, hi]
  · rw [ownUpd_ne _ _ e]
    show (cl.slots.setIfInBounds j (.long x))[i]? = _
    rw [Array.getElem?_setIfInBounds_ne (Ne.symm e)]; exact H i hi
/-- an index is inside -/
def ownIn (j : Int32) (n : Nat) : Prop := ¬ (j < 0 ∨ n ≤ j.toNatClampNeg)
theorem ownIn_of {j : Int32} {n : Nat} (h1 : 0 ≤ j.toInt) (h2 : j.toInt < n) : ownIn j n := by
  intro q
  rcases q with q | q
  · rw [Int32.lt_iff_toInt_lt] at q; simp only [Int32.reduceToInt] at q; omega
  · simp only [Int32.toNatClampNeg] at q; omega
theorem ownIaload (F : ownAI Z h a .int n gi) (X : Stand p l e R s m args below meth c T locs cells slots) (hx : p.tables.exec = Jvm.exec) (hZ : Z.Warmed39 s.vm) (eT : T.heap = h) {j : Int32} (hin : ownIn j n) {g : JFrame} (hg : g.method = m) {rest : List Value} (hs : g.stack = .int j :: .ref a :: rest) (hd : decode c.code g.pc = .ok (.iaload, 1)) :
    ∀ target, Steps p.tables e below (T.setTop { g with pc := g.pc + 1, stack := .int (gi j.toNatClampNeg) :: rest }) target → Steps p.tables e below (T.setTop g) target := by
  obtain ⟨cl, A, S, N, H⟩ := F
  subst S
  exact fun t k => X.iaload hx (by rw [eT]; exact A.1) (State.isArrayOf_alike hZ.alike A.2.1) A.2.2 hin (H _ (Nat.lt_of_not_le fun q => hin (Or.inr q))) hg hs hd t k
theorem ownBaload (F : ownAI Z h a .byte n gi) (X : Stand p l e R s m args below meth c T locs cells slots) (hx : p.tables.exec = Jvm.exec) (hZ : Z.Warmed39 s.vm) (eT : T.heap = h) {j : Int32} (hin : ownIn j n) {g : JFrame} (hg : g.method = m) {rest : List Value} (hs : g.stack = .int j :: .ref a :: rest) (hd : decode c.code g.pc = .ok (.baload, 1)) :
    ∀ target, Steps p.tables e below (T.setTop { g with pc := g.pc + 1, stack := .int (gi j.toNatClampNeg) :: rest }) target → Steps p.tables e below (T.setTop g) target := by
  obtain ⟨cl, A, S, N, H⟩ := F
  subst S
  exact fun t k => X.baloadBytes hx (by rw [eT]; exact A.1) (State.isArrayOf_alike hZ.alike A.2.1) A.2.2 hin (H _ (Nat.lt_of_not_le fun q => hin (Or.inr q))) hg hs hd t k
theorem ownCaload (F : ownAI Z h a .char n gi) (X : Stand p l e R s m args below meth c T locs cells slots) (hx : p.tables.exec = Jvm.exec) (hZ : Z.Warmed39 s.vm) (eT : T.heap = h) {j : Int32} (hin : ownIn j n) {g : JFrame} (hg : g.method = m) {rest : List Value} (hs : g.stack = .int j :: .ref a :: rest) (hd : decode c.code g.pc = .ok (.caload, 1)) :
    ∀ target, Steps p.tables e below (T.setTop { g with pc := g.pc + 1, stack := .int (gi j.toNatClampNeg) :: rest }) target → Steps p.tables e below (T.setTop g) target := by
  obtain ⟨cl, A, S, N, H⟩ := F
  subst S
  exact fun t k => X.caload hx (by rw [eT]; exact A.1) (State.isArrayOf_alike hZ.alike A.2.1) A.2.2 hin (H _ (Nat.lt_of_not_le fun q => hin (Or.inr q))) hg hs hd t k
theorem ownLaload (F : ownAJ Z h a n gj) (X : Stand p l e R s m args below meth c T locs cells slots) (hx : p.tables.exec = Jvm.exec) (hZ : Z.Warmed39 s.vm) (eT : T.heap = h) {j : Int32} (hin : ownIn j n) {g : JFrame} (hg : g.method = m) {rest : List Value} (hs : g.stack = .int j :: .ref a :: rest) (hd : decode c.code g.pc = .ok (.laload, 1)) :
    ∀ target, Steps p.tables e below (T.setTop { g with pc := g.pc + 1, stack := .long (gj j.toNatClampNeg) :: rest }) target → Steps p.tables e below (T.setTop g) target := by
  obtain ⟨cl, A, S, N, H⟩ := F
  subst S
  exact fun t k => X.laload hx (by rw [eT]; exact A.1) (State.isArrayOf_alike hZ.alike A.2.1) A.2.2 hin (H _ (Nat.lt_of_not_le fun q => hin (Or.inr q))) hg hs hd t k
theorem ownLenI (F : ownAI Z h a ty n gi) (X : Stand p l e R s m args below meth c T locs cells slots) (hx : p.tables.exec = Jvm.exec) (hZ : Z.Warmed39 s.vm) (eT : T.heap = h) {z : Int32} (hz : n.toInt32 = z) {g : JFrame} (hg : g.method = m) {rest : List Value} (hs : g.stack = .ref a :: rest) (hd : decode c.code g.pc = .ok (.arraylength, 1)) :
    ∀ target, Steps p.tables e below (T.setTop { g with pc := g.pc + 1, stack := .int z :: rest }) target → Steps p.tables e below (T.setTop g) target := by
  obtain ⟨cl, A, S, N, H⟩ := F
  subst S hz
  exact fun t k => X.arraylength hx (by rw [eT]; exact A.1) (State.isArrayOf_alike hZ.alike A.2.1) hg hs hd t k
theorem ownLenJ (F : ownAJ Z h a n gj) (X : Stand p l e R s m args below meth c T locs cells slots) (hx : p.tables.exec = Jvm.exec) (hZ : Z.Warmed39 s.vm) (eT : T.heap = h) {z : Int32} (hz : n.toInt32 = z) {g : JFrame} (hg : g.method = m) {rest : List Value} (hs : g.stack = .ref a :: rest) (hd : decode c.code g.pc = .ok (.arraylength, 1)) :
    ∀ target, Steps p.tables e below (T.setTop { g with pc := g.pc + 1, stack := .int z :: rest }) target → Steps p.tables e below (T.setTop g) target := by
  obtain ⟨cl, A, S, N, H⟩ := F
  subst S hz
  exact fun t k => X.arraylength hx (by rw [eT]; exact A.1) (State.isArrayOf_alike hZ.alike A.2.1) hg hs hd t k
theorem ownIastore (F : ownAI Z h a .int n gi) (X : Stand p l e R s m args below meth c T locs cells slots) (hx : p.tables.exec = Jvm.exec) (hZ : Z.Warmed39 s.vm) (eT : T.heap = h) {j x : Int32} (hin : ownIn j n) {g : JFrame} (hg : g.method = m) {rest : List Value} (hs : g.stack = .int x :: .int j :: .ref a :: rest) (hd : decode c.code g.pc = .ok (.iastore, 1)) :
    ∃ T' h', Stand p l e R s m args below meth c T' (locs ++ [⟨a, j.toNatClampNeg⟩]) cells slots ∧ T'.heap = h' ∧ Wr h h' a j.toNatClampNeg (.int x) ∧ ownAI Z h' a .int n (ownUpd gi j.toNatClampNeg x) ∧ ∀ target, Steps p.tables e below (T'.setTop { g with pc := g.pc + 1, stack := rest }) target → Steps p.tables e below (T.setTop g) target := by
  obtain ⟨cl, A, S, r⟩ := id F
  obtain ⟨T', h', X', e', W, st⟩ := stI X hx hZ eT A (j := j) (by rw [S]; exact hin) hg hs hd
  exact ⟨T', h', X', e', W, F.set W, st⟩
theorem ownBastore (F : ownAI Z h a .byte n gi) (X : Stand p l e R s m args below meth c T locs cells slots) (hx : p.tables.exec = Jvm.exec) (hZ : Z.Warmed39 s.vm) (eT : T.heap = h) {j x : Int32} (hin : ownIn j n) {g : JFrame} (hg : g.method = m) {rest : List Value} (hs : g.stack = .int x :: .int j :: .ref a :: rest) (hd : decode c.code g.pc = .ok (.bastore, 1)) :
    ∃ T' h', Stand p l e R s m args below meth c T' (locs ++ [⟨a, j.toNatClampNeg⟩]) cells slots ∧ T'.heap = h' ∧ Wr h h' a j.toNatClampNeg (.int (nar .byte x)) ∧ ownAI Z h' a .byte n (ownUpd gi j.toNatClampNeg (nar .byte x)) ∧ ∀ target, Steps p.tables e below (T'.setTop { g with pc := g.pc + 1, stack := rest }) target → Steps p.tables e below (T.setTop g) target := by
  obtain ⟨cl, A, S, r⟩ := id F
  obtain ⟨T', h', X', e', W, st⟩ := stB X hx hZ eT A (j := j) (by rw [S]; exact hin) hg hs hd
  exact ⟨T', h', X', e', W, F.set W, st⟩
theorem ownCastore (F : ownAI Z h a .char n gi) (X : Stand p l e R s m args below meth c T locs cells slots) (hx : p.tables.exec = Jvm.exec) (hZ : Z.Warmed39 s.vm) (eT : T.heap = h) {j x : Int32} (hin : ownIn j n) {g : JFrame} (hg : g.method = m) {rest : List Value} (hs : g.stack = .int x :: .int j :: .ref a :: rest) (hd : decode c.code g.pc = .ok (.castore, 1)) :
    ∃ T' h', Stand p l e R s m args below meth c T' (locs ++ [⟨a, j.toNatClampNeg⟩]) cells slots ∧ T'.heap = h' ∧ Wr h h' a j.toNatClampNeg (.int (nar .char x)) ∧ ownAI Z h' a .char n (ownUpd gi j.toNatClampNeg (nar .char x)) ∧ ∀ target, Steps p.tables e below (T'.setTop { g with pc := g.pc + 1, stack := rest }) target → Steps p.tables e below (T.setTop g) target := by
  obtain ⟨cl, A, S, r⟩ := id F
  obtain ⟨T', h', X', e', W, st⟩ := stC X hx hZ eT A (j := j) (by rw [S]; exact hin) hg hs hd
  exact ⟨T', h', X', e', W, F.set W, st⟩
theorem ownLastore (F : ownAJ Z h a n gj) (X : Stand p l e R s m args below meth c T locs cells slots) (hx : p.tables.exec = Jvm.exec) (hZ : Z.Warmed39 s.vm) (eT : T.heap = h) {j : Int32} {x : Int64} (hin : ownIn j n) {g : JFrame} (hg : g.method = m) {rest : List Value} (hs : g.stack = .long x :: .int j :: .ref a :: rest) (hd : decode c.code g.pc = .ok (.lastore, 1)) :
    ∃ T' h', Stand p l e R s m args below meth c T' (locs ++ [⟨a, j.toNatClampNeg⟩]) cells slots ∧ T'.heap = h' ∧ Wr h h' a j.toNatClampNeg (.long x) ∧ ownAJ Z h' a n (ownUpd gj j.toNatClampNeg x) ∧ ∀ target, Steps p.tables e below (T'.setTop { g with pc := g.pc + 1, stack := rest }) target → Steps p.tables e below (T.setTop g) target := by
  obtain ⟨cl, A, S, r⟩ := id F
  obtain ⟨T', h', X', e', W, st⟩ := stJ X hx hZ eT A (j := j) (by rw [S]; exact hin) hg hs hd
  exact ⟨T', h', X', e', W, F.set W, st⟩
theorem ownAI.arv (F : ownAI Z h a ty n gi) {z : Int32} (hz : z.toNatClampNeg = n) (hn : ¬ z < 0) (hf : ∀ i, i < n → fits ty (.int (gi i)) = true) : ∃ k, Arv Z h a k ty z ((List.range n).map fun i => Value.int (gi i)) (.int 0) := by
  obtain ⟨cl, A, S, N, H⟩ := F
  refine ⟨cl.cls, cl, A, rfl, by rw [S, hz], hn, fun i hi => ?_, fun i hi => ?_⟩
  · rw [S] at hi; rw [H i hi]; simp [List.getD_eq_getElem?_getD, hi]
  · rw [S] at hi; have := hf i hi; simpa [List.getD_eq_getElem?_getD, hi] using this
theorem ownAI.of_arv {k : ClassId} {z : Int32} {vs : List Value} {dv : Value} (F : Arv Z h a k ty z vs dv) (hz : z.toNatClampNeg = n) (hv : ∀ i, i < n → vs.getD i dv = .int (gi i)) : ownAI Z h a ty n gi := by
  obtain ⟨cl, A, q, S, N, H, G⟩ := F
  refine ⟨cl, A, by rw [S, hz], by rw [← hz]; exact (back32 N).2, fun i hi => ?_⟩
  rw [H i (by rw [S, hz]; exact hi), hv i hi]
theorem ownCopyI {n' : Nat} {gi' gr : Nat → Int32} {z z' nn : Int32} (A : ownAI Z h a ty n gi) (B : ownAI Z h b ty n' gi') (hz : z.toNatClampNeg = n) (hn : ¬ z < 0) (hz' : z'.toNatClampNeg = n') (hn' : ¬ z' < 0) (hty : refKind ty = false) (hfa : ∀ i, i < n → fits ty (.int (gi i)) = true) (hfb : ∀ i, i < n' → fits ty (.int (gi' i)) = true)
    (X : Stand p l e R s m args below meth c T locs cells slots) (hx : p.tables.exec = Jvm.exec) (hZ : Z.Warmed39 s.vm) {own : String} {index : Nat} (hown : s.vm.findClass own = some m.cls)
    (w1 : (Cond.methodLink own index Jvm.Stand.acN).before a0 Z = true) (w2 : (Cond.native Jvm.Stand.acN).before a0 Z = true) (w3 : (Cond.static Jvm.Stand.acN).before a0 Z = true) (w4 : (Cond.initialized "java/lang/System").before a0 Z = true) (eT : T.heap = h)
    (h3 : ¬ nn < 0) (h4 : nn.toNatClampNeg ≤ n) (h5 : nn.toNatClampNeg ≤ n') (hgr : ∀ i, i < n' → (if i < nn.toNatClampNeg then gi i else gi' i) = gr i) {n0 : Nat} (N : Fr n0 locs) (ge : n0 ≤ b)
    {g : JFrame} (hg : g.method = m) (hsize : g.locals.size = c.maxLocals) {rest : List Value} (hs : g.stack = .int nn :: .int 0 :: .ref b :: .int 0 :: .ref a :: rest) (hd : decode c.code g.pc = .ok (.invokestatic index, 3))
    (hf : 1 ≤ R.frames) {W : Nat} (hW : 2 * g.monitorRoom + (rest.map fun v => v.category).sum ≤ W) (hlo : W + (nativeFrameWords "java/lang/System" "arraycopy" 5 + 11) ≤ R.locals) :
    ∃ T' h' L, Stand p l e R s m args below meth c T' L cells slots ∧ T'.heap = h' ∧ Fr n0 L ∧ Keep h h' [b] ∧ ownAI Z h' b ty n' gr ∧
      ∀ target, Steps p.tables e below (T'.setTop { g with pc := g.pc + 3, stack := rest }) target → Steps p.tables e below (T.setTop g) target := by
  obtain ⟨k1, A1⟩ := A.arv hz hn hfa
  obtain ⟨k2, B1⟩ := B.arv hz' hn' hfb
  obtain ⟨T', h', L, X', e', N', K', F', st⟩ := cpA X hx hZ hown w1 w2 w3 w4 eT (sp := 0) (dp := 0) A1 B1 (Or.inl ⟨rfl, hty⟩) (by decide) (by decide) h3 (by show 0 + _ ≤ _; rw [hz]; omega) (by show 0 + _ ≤ _; rw [hz']; omega) rfl (by show 0 + _ ≤ _; simp; exact h5) N ge hg hsize hs hd hf hW hlo
  refine ⟨T', h', L, X', e', N', K', ownAI.of_arv F' hz' (fun i hi => ?_), st⟩
  rw [← hgr i hi]
  show (List.take 0 _ ++ (List.range nn.toNatClampNeg).map (fun i => ((List.range n).map fun i => Value.int (gi i)).getD (0 + i) (.int 0)) ++ List.drop (0 + nn.toNatClampNeg) _).getD i (.int 0) = _
  by_cases q : i < nn.toNatClampNeg
  · rw [if_pos q]
    have : i < n := by omega
    simp [List.getD_eq_getElem?_getD, List.getElem?_append, q, this]
  · rw [if_neg q]
    have h6 : nn.toNatClampNeg + (i - nn.toNatClampNeg) = i := by omega
    simp [List.getD_eq_getElem?_getD, List.getElem?_append, q, hi, h6]
theorem ownCloneI {z : Int32} (F : ownAI Z h a ty n gi) (hz : z.toNatClampNeg = n) (hn : ¬ z < 0) (hfa : ∀ i, i < n → fits ty (.int (gi i)) = true) (X : Stand p l e R s m args below meth c T locs cells slots) (hx : p.tables.exec = Jvm.exec) (hZ : Z.Warmed39 s.vm) {own ad : String} {index : Nat} (hown : s.vm.findClass own = some m.cls)
    (w1 : (Cond.methodLink own index ⟨ad, "clone", "()Ljava/lang/Object;"⟩).before a0 Z = true) (w2 : (Cond.sameMethod ad "java/lang/Object" "clone" "()Ljava/lang/Object;").before a0 Z = true) (w3 : (Cond.native ⟨"java/lang/Object", "clone", "()Ljava/lang/Object;"⟩).before a0 Z = true)
    (w4 : (Cond.instanceMethod ⟨"java/lang/Object", "clone", "()Ljava/lang/Object;"⟩).before a0 Z = true) (w5 : (Cond.selects ad ⟨ad, "clone", "()Ljava/lang/Object;"⟩ ⟨"java/lang/Object", "clone", "()Ljava/lang/Object;"⟩).before a0 Z = true) (w6 : (Cond.castable ad "java/lang/Cloneable").before a0 Z = true)
    (eT : T.heap = h) (E : Exa Z h a ad) {g : JFrame} (hg : g.method = m) (hsize : g.locals.size = c.maxLocals) {rest : List Value} (hst : g.stack = .ref a :: rest) (hd : decode c.code g.pc = .ok (.invokevirtual index, 3))
    (hf : 1 ≤ R.frames) {W cap : Nat} (hW : 2 * g.monitorRoom + (rest.map fun v => v.category).sum ≤ W) (hl : W + 14 ≤ R.locals) (hcap : n ≤ cap) (hc : cells + 1 ≤ R.cells) (hsl : slots + cap ≤ R.slots) :
    ∃ T' h', Stand p l e R s m args below meth c T' locs (cells + 1) (slots + cap) ∧ T'.heap = h' ∧ Ext h h' ∧ ownAI Z h' h.size ty n gi ∧ Exa Z h' h.size ad ∧
      ∀ target, Steps p.tables e below (T'.setTop { g with pc := g.pc + 3, stack := .ref h.size :: rest }) target → Steps p.tables e below (T.setTop g) target := by
  obtain ⟨k1, A1⟩ := F.arv hz hn hfa
  obtain ⟨T', h', X', e', ex, A', E', st⟩ := cloneH X hx hZ hown w1 w2 w3 w4 w5 w6 eT A1.arh E hg hsize hst hd hf hW hl (by rw [hz]; exact hcap) hc hsl
  refine ⟨T', h', X', e', ex, ownAI.of_arv (k := k1) (z := z) (vs := (List.range n).map fun i => Value.int (gi i)) (dv := .int 0) A' hz (fun i hi => ?_), E', st⟩
  simp [List.getD_eq_getElem?_getD, hi]
theorem ownZaload (F : ownAI Z h a .boolean n gi) (X : Stand p l e R s m args below meth c T locs cells slots) (hx : p.tables.exec = Jvm.exec) (hZ : Z.Warmed39 s.vm) (eT : T.heap = h) {j : Int32} (hin : ownIn j n) {g : JFrame} (hg : g.method = m) {rest : List Value} (hs : g.stack = .int j :: .ref a :: rest) (hd : decode c.code g.pc = .ok (.baload, 1)) :
    ∀ target, Steps p.tables e below (T.setTop { g with pc := g.pc + 1, stack := .int (gi j.toNatClampNeg) :: rest }) target → Steps p.tables e below (T.setTop g) target := by
  obtain ⟨cl, A, S, N, H⟩ := F
  subst S
  exact fun t k => X.baloadBooleans hx (by rw [eT]; exact A.1) (State.isArrayOf_alike hZ.alike A.2.1) A.2.2 hin (H _ (Nat.lt_of_not_le fun q => hin (Or.inr q))) hg hs hd t k
theorem ownZastore (F : ownAI Z h a .boolean n gi) (X : Stand p l e R s m args below meth c T locs cells slots) (hx : p.tables.exec = Jvm.exec) (hZ : Z.Warmed39 s.vm) (eT : T.heap = h) {j x : Int32} (hin : ownIn j n) {g : JFrame} (hg : g.method = m) {rest : List Value} (hs : g.stack = .int x :: .int j :: .ref a :: rest) (hd : decode c.code g.pc = .ok (.bastore, 1)) :
    ∃ T' h', Stand p l e R s m args below meth c T' (locs ++ [⟨a, j.toNatClampNeg⟩]) cells slots ∧ T'.heap = h' ∧ Wr h h' a j.toNatClampNeg (.int (nar .boolean x)) ∧ ownAI Z h' a .boolean n (ownUpd gi j.toNatClampNeg (nar .boolean x)) ∧ ∀ target, Steps p.tables e below (T'.setTop { g with pc := g.pc + 1, stack := rest }) target → Steps p.tables e below (T.setTop g) target := by
  obtain ⟨cl, A, S, r⟩ := id F
  obtain ⟨T', h', X', e', W, st⟩ := stZ X hx hZ eT A (j := j) (by rw [S]; exact hin) hg hs hd
  exact ⟨T', h', X', e', W, F.set W, st⟩
theorem ownNstE {C : String} (F : Exa Z h a C) : ∀ c, h[a]? = some c → c.vm.isStatics = false := fun c q => by obtain ⟨cell, k, h1, -, -, h4, -⟩ := F; cases h1.symm.trans q; exact h4
theorem ownNstI (F : ownAI Z h a ty n gi) : ∀ c, h[a]? = some c → c.vm.isStatics = false := fun c q => by obtain ⟨cell, A, -⟩ := F; cases A.1.symm.trans q; exact A.plain
theorem ownNstJ (F : ownAJ Z h a n gj) : ∀ c, h[a]? = some c → c.vm.isStatics = false := fun c q => by obtain ⟨cell, A, -⟩ := F; cases A.1.symm.trans q; exact A.plain
theorem ownStaKeep {C nm d : String} (F : Sta Z h C nm d v) (K : Keep h h' ws) (q : ∀ x ∈ ws, ∀ c, h[x]? = some c → c.vm.isStatics = false) : Sta Z h' C nm d v := by
  obtain ⟨cf, i, k, f, st, cell, h1, h2, h3, h4, h5, h6, h7⟩ := F
  refine ⟨cf, i, k, f, st, cell, h1, h2, h3, h4, K.2.1 st cell h5 (fun w => ?_), h6, h7⟩
  rw [q st w cell h5] at h6; cases h6
theorem own_narb {x v : Int32} (h : x.toInt8.toInt32 = v) : nar .byte v = v := by subst h; simp [nar]
theorem own_narc {x v : Int32} (h : x.toUInt32.toUInt16.toUInt32.toInt32 = v) : nar .char v = v := by subst h; simp only [nar, UInt32.toUInt32_toInt32, UInt16.toUInt16_toUInt32]
theorem own_evInt {args : Array Value} {t : Term} {k : Int32} (h : (Cond.eq t (.int k)).value args s none s [] = some true) : t.eval args s none [] s = some (.int k) := by
  simp only [Cond.value, Term.eval] at h
  cases ht : t.eval args s none [] s with
  | none => simp [ht] at h
  | some x => cases x <;> simp [ht] at h ⊢; exact h
theorem own_fldInt {args : Array Value} {t : Term} {C n d : String} {k : Int32} {x : Addr} (h : (Cond.eq (.field t C n d) (.int k)).value args s none s [] = some true) (ht : t.eval args s none [] s = some (.ref x)) : Fld s s.heap x C n d (.int k) :=
  Fld.start ((fld_at ht).symm.trans (own_evInt h))
end OwnWalk
section OwnSteps
variable {p : Program} {l : Launch} {e : Env} {R : Room} {s : State} {m : MethodId} {args : Array Value} {below : List Frame} {meth : Method} {c : Code} {T : State} {locs : List Loc} {cells slots : Nat} {Q : Option Value → Heap → List Loc → Prop} {ck sk : Nat}
theorem ow_iloadN (X : Stand p l e R s m args below meth c T locs cells slots) (hx : p.tables.exec = Jvm.exec) {pc q : Nat} {Ls : Array Slot} {S : List Value} {k : Fin 4} {v : Int32} (hd : decode c.code pc = .ok (.iload_n k, 1)) (hq : pc + 1 = q) (hl : Ls[k.val]? = some (.val (.int v))) (k : ownEnds p e below s Q ck sk T (mkF m q Ls (.int v :: S))) : ownEnds p e below s Q ck sk T (mkF m pc Ls S) := by
  subst hq
  exact ownGo (fun _ k => XS.iloadN X.here hx rfl hd hl k) k
theorem ow_iload (X : Stand p l e R s m args below meth c T locs cells slots) (hx : p.tables.exec = Jvm.exec) {pc q : Nat} {Ls : Array Slot} {S : List Value} {k : Nat} {v : Int32} (hd : decode c.code pc = .ok (.iload k, 2)) (hq : pc + 2 = q) (hl : Ls[k]? = some (.val (.int v))) (k : ownEnds p e below s Q ck sk T (mkF m q Ls (.int v :: S))) : ownEnds p e below s Q ck sk T (mkF m pc Ls S) := by
  subst hq
  exact ownGo (fun _ k => XS.iload X.here hx rfl hd hl k) k
theorem ow_istoreN (X : Stand p l e R s m args below meth c T locs cells slots) (hx : p.tables.exec = Jvm.exec) {pc q : Nat} {Ls : Array Slot} {S : List Value} {k : Fin 4} {v : Int32} {L' : Array Slot} (hd : decode c.code pc = .ok (.istore_n k, 1)) (hq : pc + 1 = q) (hl : storeLocals Ls k.val (.int v) = some L') (k : ownEnds p e below s Q ck sk T (mkF m q L' S)) : ownEnds p e below s Q ck sk T (mkF m pc Ls (.int v :: S)) := by
  subst hq
  exact ownGo (fun _ k => XS.istoreN X.here hx rfl hd rfl hl k) k
theorem ow_istore (X : Stand p l e R s m args below meth c T locs cells slots) (hx : p.tables.exec = Jvm.exec) {pc q : Nat} {Ls : Array Slot} {S : List Value} {k : Nat} {v : Int32} {L' : Array Slot} (hd : decode c.code pc = .ok (.istore k, 2)) (hq : pc + 2 = q) (hl : storeLocals Ls k (.int v) = some L') (k : ownEnds p e below s Q ck sk T (mkF m q L' S)) : ownEnds p e below s Q ck sk T (mkF m pc Ls (.int v :: S)) := by
  subst hq
  exact ownGo (fun _ k => XS.istore X.here hx rfl hd rfl hl k) k
theorem ow_lloadN (X : Stand p l e R s m args below meth c T locs cells slots) (hx : p.tables.exec = Jvm.exec) {pc q : Nat} {Ls : Array Slot} {S : List Value} {k : Fin 4} {v : Int64} (hd : decode c.code pc = .ok (.lload_n k, 1)) (hq : pc + 1 = q) (hl : Ls[k.val]? = some (.val (.long v))) (k : ownEnds p e below s Q ck sk T (mkF m q Ls (.long v :: S))) : ownEnds p e below s Q ck sk T (mkF m pc Ls S) := by
  subst hq
  exact ownGo (fun _ k => XS.lloadN X.here hx rfl hd hl k) k
theorem ow_lload (X : Stand p l e R s m args below meth c T locs cells slots) (hx : p.tables.exec = Jvm.exec) {pc q : Nat} {Ls : Array Slot} {S : List Value} {k : Nat} {v : Int64} (hd : decode c.code pc = .ok (.lload k, 2)) (hq : pc + 2 = q) (hl : Ls[k]? = some (.val (.long v))) (k : ownEnds p e below s Q ck sk T (mkF m q Ls (.long v :: S))) : ownEnds p e below s Q ck sk T (mkF m pc Ls S) := by
  subst hq
  exact ownGo (fun _ k => XS.lload X.here hx rfl hd hl k) k
theorem ow_lstoreN (X : Stand p l e R s m args below meth c T locs cells slots) (hx : p.tables.exec = Jvm.exec) {pc q : Nat} {Ls : Array Slot} {S : List Value} {k : Fin 4} {v : Int64} {L' : Array Slot} (hd : decode c.code pc = .ok (.lstore_n k, 1)) (hq : pc + 1 = q) (hl : storeLocals Ls k.val (.long v) = some L') (k : ownEnds p e below s Q ck sk T (mkF m q L' S)) : ownEnds p e below s Q ck sk T (mkF m pc Ls (.long v :: S)) := by
  subst hq
  exact ownGo (fun _ k => XS.lstoreN X.here hx rfl hd rfl hl k) k
theorem ow_lstore (X : Stand p l e R s m args below meth c T locs cells slots) (hx : p.tables.exec = Jvm.exec) {pc q : Nat} {Ls : Array Slot} {S : List Value} {k : Nat} {v : Int64} {L' : Array Slot} (hd : decode c.code pc = .ok (.lstore k, 2)) (hq : pc + 2 = q) (hl : storeLocals Ls k (.long v) = some L') (k : ownEnds p e below s Q ck sk T (mkF m q L' S)) : ownEnds p e below s Q ck sk T (mkF m pc Ls (.long v :: S)) := by
  subst hq
  exact ownGo (fun _ k => XS.lstore X.here hx rfl hd rfl hl k) k
theorem ow_aloadN (X : Stand p l e R s m args below meth c T locs cells slots) (hx : p.tables.exec = Jvm.exec) {pc q : Nat} {Ls : Array Slot} {S : List Value} {k : Fin 4} {v : Value} (hd : decode c.code pc = .ok (.aload_n k, 1)) (hq : pc + 1 = q) (hl : Ls[k.val]? = some (.val v)) (hv : v.isRef = true) (k : ownEnds p e below s Q ck sk T (mkF m q Ls (v :: S))) : ownEnds p e below s Q ck sk T (mkF m pc Ls S) := by
  subst hq
  exact ownGo (fun _ k => XS.aloadN X.here hx rfl hd hl hv k) k
theorem ow_aload (X : Stand p l e R s m args below meth c T locs cells slots) (hx : p.tables.exec = Jvm.exec) {pc q : Nat} {Ls : Array Slot} {S : List Value} {k : Nat} {v : Value} (hd : decode c.code pc = .ok (.aload k, 2)) (hq : pc + 2 = q) (hl : Ls[k]? = some (.val v)) (hv : v.isRef = true) (k : ownEnds p e below s Q ck sk T (mkF m q Ls (v :: S))) : ownEnds p e below s Q ck sk T (mkF m pc Ls S) := by
  subst hq
  exact ownGo (fun _ k => XS.aload X.here hx rfl hd hl hv k) k
theorem ow_astoreN (X : Stand p l e R s m args below meth c T locs cells slots) (hx : p.tables.exec = Jvm.exec) {pc q : Nat} {Ls : Array Slot} {S : List Value} {k : Fin 4} {v : Value} {L' : Array Slot} (hd : decode c.code pc = .ok (.astore_n k, 1)) (hq : pc + 1 = q) (hv : v.isRef = true) (hl : storeLocals Ls k.val v = some L') (k : ownEnds p e below s Q ck sk T (mkF m q L' S)) : ownEnds p e below s Q ck sk T (mkF m pc Ls (v :: S)) := by
  subst hq
  exact ownGo (fun _ k => XS.astoreN X.here hx rfl hd rfl hv hl k) k
theorem ow_astore (X : Stand p l e R s m args below meth c T locs cells slots) (hx : p.tables.exec = Jvm.exec) {pc q : Nat} {Ls : Array Slot} {S : List Value} {k : Nat} {v : Value} {L' : Array Slot} (hd : decode c.code pc = .ok (.astore k, 2)) (hq : pc + 2 = q) (hv : v.isRef = true) (hl : storeLocals Ls k v = some L') (k : ownEnds p e below s Q ck sk T (mkF m q L' S)) : ownEnds p e below s Q ck sk T (mkF m pc Ls (v :: S)) := by
  subst hq
  exact ownGo (fun _ k => XS.astore X.here hx rfl hd rfl hv hl k) k
theorem ow_iconst (X : Stand p l e R s m args below meth c T locs cells slots) (hx : p.tables.exec = Jvm.exec) {pc q : Nat} {Ls : Array Slot} {S : List Value} {i : Int} (v : Int32) (hd : decode c.code pc = .ok (.iconst i, 1)) (hq : pc + 1 = q) (hz : Int32.ofInt i = v) (k : ownEnds p e below s Q ck sk T (mkF m q Ls (.int v :: S))) : ownEnds p e below s Q ck sk T (mkF m pc Ls S) := by
  subst hq hz
  exact ownGo (fun _ k => XS.iconst X.here hx rfl hd k) k
theorem ow_bipush (X : Stand p l e R s m args below meth c T locs cells slots) (hx : p.tables.exec = Jvm.exec) {pc q : Nat} {Ls : Array Slot} {S : List Value} {i : Int} (v : Int32) (hd : decode c.code pc = .ok (.bipush i, 2)) (hq : pc + 2 = q) (hz : (Int8.ofInt i).toInt32 = v) (k : ownEnds p e below s Q ck sk T (mkF m q Ls (.int v :: S))) : ownEnds p e below s Q ck sk T (mkF m pc Ls S) := by
  subst hq hz
  exact ownGo (fun _ k => XS.bipush X.here hx rfl hd k) k
theorem ow_sipush (X : Stand p l e R s m args below meth c T locs cells slots) (hx : p.tables.exec = Jvm.exec) {pc q : Nat} {Ls : Array Slot} {S : List Value} {i : Int} (v : Int32) (hd : decode c.code pc = .ok (.sipush i, 3)) (hq : pc + 3 = q) (hz : (Int16.ofInt i).toInt32 = v) (k : ownEnds p e below s Q ck sk T (mkF m q Ls (.int v :: S))) : ownEnds p e below s Q ck sk T (mkF m pc Ls S) := by
  subst hq hz
  exact ownGo (fun _ k => XS.sipush X.here hx rfl hd k) k
theorem ow_lconst (X : Stand p l e R s m args below meth c T locs cells slots) (hx : p.tables.exec = Jvm.exec) {pc q : Nat} {Ls : Array Slot} {S : List Value} {i : Fin 2} (v : Int64) (hd : decode c.code pc = .ok (.lconst i, 1)) (hq : pc + 1 = q) (hz : Int64.ofNat i = v) (k : ownEnds p e below s Q ck sk T (mkF m q Ls (.long v :: S))) : ownEnds p e below s Q ck sk T (mkF m pc Ls S) := by
  subst hq hz
  exact ownGo (fun _ k => XS.lconst X.here hx rfl hd k) k
theorem ow_iadd (X : Stand p l e R s m args below meth c T locs cells slots) (hx : p.tables.exec = Jvm.exec) {pc q : Nat} {Ls : Array Slot} {S : List Value} {x y : Int32} (z : Int32) (hd : decode c.code pc = .ok (.iadd, 1)) (hq : pc + 1 = q) (hz : x + y = z) (k : ownEnds p e below s Q ck sk T (mkF m q Ls (.int z :: S))) : ownEnds p e below s Q ck sk T (mkF m pc Ls (.int y :: .int x :: S)) := by
  subst hq hz
  exact ownGo (fun _ k => XS.iadd X.here hx rfl hd rfl k) k
theorem ow_ladd (X : Stand p l e R s m args below meth c T locs cells slots) (hx : p.tables.exec = Jvm.exec) {pc q : Nat} {Ls : Array Slot} {S : List Value} {x y : Int64} (z : Int64) (hd : decode c.code pc = .ok (.ladd, 1)) (hq : pc + 1 = q) (hz : x + y = z) (k : ownEnds p e below s Q ck sk T (mkF m q Ls (.long z :: S))) : ownEnds p e below s Q ck sk T (mkF m pc Ls (.long y :: .long x :: S)) := by
  subst hq hz
  exact ownGo (fun _ k => XS.ladd X.here hx rfl hd rfl k) k
theorem ow_isub (X : Stand p l e R s m args below meth c T locs cells slots) (hx : p.tables.exec = Jvm.exec) {pc q : Nat} {Ls : Array Slot} {S : List Value} {x y : Int32} (z : Int32) (hd : decode c.code pc = .ok (.isub, 1)) (hq : pc + 1 = q) (hz : x - y = z) (k : ownEnds p e below s Q ck sk T (mkF m q Ls (.int z :: S))) : ownEnds p e below s Q ck sk T (mkF m pc Ls (.int y :: .int x :: S)) := by
  subst hq hz
  exact ownGo (fun _ k => XS.isub X.here hx rfl hd rfl k) k
theorem ow_lsub (X : Stand p l e R s m args below meth c T locs cells slots) (hx : p.tables.exec = Jvm.exec) {pc q : Nat} {Ls : Array Slot} {S : List Value} {x y : Int64} (z : Int64) (hd : decode c.code pc = .ok (.lsub, 1)) (hq : pc + 1 = q) (hz : x - y = z) (k : ownEnds p e below s Q ck sk T (mkF m q Ls (.long z :: S))) : ownEnds p e below s Q ck sk T (mkF m pc Ls (.long y :: .long x :: S)) := by
  subst hq hz
  exact ownGo (fun _ k => XS.lsub X.here hx rfl hd rfl k) k
theorem ow_imul (X : Stand p l e R s m args below meth c T locs cells slots) (hx : p.tables.exec = Jvm.exec) {pc q : Nat} {Ls : Array Slot} {S : List Value} {x y : Int32} (z : Int32) (hd : decode c.code pc = .ok (.imul, 1)) (hq : pc + 1 = q) (hz : x * y = z) (k : ownEnds p e below s Q ck sk T (mkF m q Ls (.int z :: S))) : ownEnds p e below s Q ck sk T (mkF m pc Ls (.int y :: .int x :: S)) := by
  subst hq hz
  exact ownGo (fun _ k => XS.imul X.here hx rfl hd rfl k) k
theorem ow_lmul (X : Stand p l e R s m args below meth c T locs cells slots) (hx : p.tables.exec = Jvm.exec) {pc q : Nat} {Ls : Array Slot} {S : List Value} {x y : Int64} (z : Int64) (hd : decode c.code pc = .ok (.lmul, 1)) (hq : pc + 1 = q) (hz : x * y = z) (k : ownEnds p e below s Q ck sk T (mkF m q Ls (.long z :: S))) : ownEnds p e below s Q ck sk T (mkF m pc Ls (.long y :: .long x :: S)) := by
  subst hq hz
  exact ownGo (fun _ k => XS.lmul X.here hx rfl hd rfl k) k
theorem ow_iand (X : Stand p l e R s m args below meth c T locs cells slots) (hx : p.tables.exec = Jvm.exec) {pc q : Nat} {Ls : Array Slot} {S : List Value} {x y : Int32} (z : Int32) (hd : decode c.code pc = .ok (.iand, 1)) (hq : pc + 1 = q) (hz : x &&& y = z) (k : ownEnds p e below s Q ck sk T (mkF m q Ls (.int z :: S))) : ownEnds p e below s Q ck sk T (mkF m pc Ls (.int y :: .int x :: S)) := by
  subst hq hz
  exact ownGo (fun _ k => XS.iand X.here hx rfl hd rfl k) k
theorem ow_land (X : Stand p l e R s m args below meth c T locs cells slots) (hx : p.tables.exec = Jvm.exec) {pc q : Nat} {Ls : Array Slot} {S : List Value} {x y : Int64} (z : Int64) (hd : decode c.code pc = .ok (.land, 1)) (hq : pc + 1 = q) (hz : x &&& y = z) (k : ownEnds p e below s Q ck sk T (mkF m q Ls (.long z :: S))) : ownEnds p e below s Q ck sk T (mkF m pc Ls (.long y :: .long x :: S)) := by
  subst hq hz
  exact ownGo (fun _ k => XS.land X.here hx rfl hd rfl k) k
theorem ow_ior (X : Stand p l e R s m args below meth c T locs cells slots) (hx : p.tables.exec = Jvm.exec) {pc q : Nat} {Ls : Array Slot} {S : List Value} {x y : Int32} (z : Int32) (hd : decode c.code pc = .ok (.ior, 1)) (hq : pc + 1 = q) (hz : x ||| y = z) (k : ownEnds p e below s Q ck sk T (mkF m q Ls (.int z :: S))) : ownEnds p e below s Q ck sk T (mkF m pc Ls (.int y :: .int x :: S)) := by
  subst hq hz
  exact ownGo (fun _ k => XS.ior X.here hx rfl hd rfl k) k
theorem ow_lor (X : Stand p l e R s m args below meth c T locs cells slots) (hx : p.tables.exec = Jvm.exec) {pc q : Nat} {Ls : Array Slot} {S : List Value} {x y : Int64} (z : Int64) (hd : decode c.code pc = .ok (.lor, 1)) (hq : pc + 1 = q) (hz : x ||| y = z) (k : ownEnds p e below s Q ck sk T (mkF m q Ls (.long z :: S))) : ownEnds p e below s Q ck sk T (mkF m pc Ls (.long y :: .long x :: S)) := by
  subst hq hz
  exact ownGo (fun _ k => XS.lor X.here hx rfl hd rfl k) k
theorem ow_ixor (X : Stand p l e R s m args below meth c T locs cells slots) (hx : p.tables.exec = Jvm.exec) {pc q : Nat} {Ls : Array Slot} {S : List Value} {x y : Int32} (z : Int32) (hd : decode c.code pc = .ok (.ixor, 1)) (hq : pc + 1 = q) (hz : x ^^^ y = z) (k : ownEnds p e below s Q ck sk T (mkF m q Ls (.int z :: S))) : ownEnds p e below s Q ck sk T (mkF m pc Ls (.int y :: .int x :: S)) := by
  subst hq hz
  exact ownGo (fun _ k => XS.ixor X.here hx rfl hd rfl k) k
theorem ow_lxor (X : Stand p l e R s m args below meth c T locs cells slots) (hx : p.tables.exec = Jvm.exec) {pc q : Nat} {Ls : Array Slot} {S : List Value} {x y : Int64} (z : Int64) (hd : decode c.code pc = .ok (.lxor, 1)) (hq : pc + 1 = q) (hz : x ^^^ y = z) (k : ownEnds p e below s Q ck sk T (mkF m q Ls (.long z :: S))) : ownEnds p e below s Q ck sk T (mkF m pc Ls (.long y :: .long x :: S)) := by
  subst hq hz
  exact ownGo (fun _ k => XS.lxor X.here hx rfl hd rfl k) k
theorem ow_ishl (X : Stand p l e R s m args below meth c T locs cells slots) (hx : p.tables.exec = Jvm.exec) {pc q : Nat} {Ls : Array Slot} {S : List Value} {x y : Int32} (z : Int32) (hd : decode c.code pc = .ok (.ishl, 1)) (hq : pc + 1 = q) (hz : x <<< (y &&& 31) = z) (k : ownEnds p e below s Q ck sk T (mkF m q Ls (.int z :: S))) : ownEnds p e below s Q ck sk T (mkF m pc Ls (.int y :: .int x :: S)) := by
  subst hq hz
  exact ownGo (fun _ k => XS.ishl X.here hx rfl hd rfl k) k
theorem ow_ishr (X : Stand p l e R s m args below meth c T locs cells slots) (hx : p.tables.exec = Jvm.exec) {pc q : Nat} {Ls : Array Slot} {S : List Value} {x y : Int32} (z : Int32) (hd : decode c.code pc = .ok (.ishr, 1)) (hq : pc + 1 = q) (hz : x >>> (y &&& 31) = z) (k : ownEnds p e below s Q ck sk T (mkF m q Ls (.int z :: S))) : ownEnds p e below s Q ck sk T (mkF m pc Ls (.int y :: .int x :: S)) := by
  subst hq hz
  exact ownGo (fun _ k => XS.ishr X.here hx rfl hd rfl k) k
theorem ow_iushr (X : Stand p l e R s m args below meth c T locs cells slots) (hx : p.tables.exec = Jvm.exec) {pc q : Nat} {Ls : Array Slot} {S : List Value} {x y : Int32} (z : Int32) (hd : decode c.code pc = .ok (.iushr, 1)) (hq : pc + 1 = q) (hz : (x.toUInt32 >>> (y &&& 31).toUInt32).toInt32 = z) (k : ownEnds p e below s Q ck sk T (mkF m q Ls (.int z :: S))) : ownEnds p e below s Q ck sk T (mkF m pc Ls (.int y :: .int x :: S)) := by
  subst hq hz
  exact ownGo (fun _ k => XS.iushr X.here hx rfl hd rfl k) k
theorem ow_lshl (X : Stand p l e R s m args below meth c T locs cells slots) (hx : p.tables.exec = Jvm.exec) {pc q : Nat} {Ls : Array Slot} {S : List Value} {x : Int64} {y : Int32} (z : Int64) (hd : decode c.code pc = .ok (.lshl, 1)) (hq : pc + 1 = q) (hz : x <<< (y &&& 0x3f).toInt64 = z) (k : ownEnds p e below s Q ck sk T (mkF m q Ls (.long z :: S))) : ownEnds p e below s Q ck sk T (mkF m pc Ls (.int y :: .long x :: S)) := by
  subst hq hz
  exact ownGo (fun _ k => XS.lshl X.here hx rfl hd rfl k) k
theorem ow_lshr (X : Stand p l e R s m args below meth c T locs cells slots) (hx : p.tables.exec = Jvm.exec) {pc q : Nat} {Ls : Array Slot} {S : List Value} {x : Int64} {y : Int32} (z : Int64) (hd : decode c.code pc = .ok (.lshr, 1)) (hq : pc + 1 = q) (hz : x >>> (y &&& 0x3f).toInt64 = z) (k : ownEnds p e below s Q ck sk T (mkF m q Ls (.long z :: S))) : ownEnds p e below s Q ck sk T (mkF m pc Ls (.int y :: .long x :: S)) := by
  subst hq hz
  exact ownGo (fun _ k => XS.lshr X.here hx rfl hd rfl k) k
theorem ow_lushr (X : Stand p l e R s m args below meth c T locs cells slots) (hx : p.tables.exec = Jvm.exec) {pc q : Nat} {Ls : Array Slot} {S : List Value} {x : Int64} {y : Int32} (z : Int64) (hd : decode c.code pc = .ok (.lushr, 1)) (hq : pc + 1 = q) (hz : (x.toUInt64 >>> (y &&& 0x3f).toInt64.toUInt64).toInt64 = z) (k : ownEnds p e below s Q ck sk T (mkF m q Ls (.long z :: S))) : ownEnds p e below s Q ck sk T (mkF m pc Ls (.int y :: .long x :: S)) := by
  subst hq hz
  exact ownGo (fun _ k => XS.lushr X.here hx rfl hd rfl k) k
theorem ow_ineg (X : Stand p l e R s m args below meth c T locs cells slots) (hx : p.tables.exec = Jvm.exec) {pc q : Nat} {Ls : Array Slot} {S : List Value} {x : Int32} (z : Int32) (hd : decode c.code pc = .ok (.ineg, 1)) (hq : pc + 1 = q) (hz : -x = z) (k : ownEnds p e below s Q ck sk T (mkF m q Ls (.int z :: S))) : ownEnds p e below s Q ck sk T (mkF m pc Ls (.int x :: S)) := by
  subst hq hz
  exact ownGo (fun _ k => XS.ineg X.here hx rfl hd rfl k) k
theorem ow_lneg (X : Stand p l e R s m args below meth c T locs cells slots) (hx : p.tables.exec = Jvm.exec) {pc q : Nat} {Ls : Array Slot} {S : List Value} {x : Int64} (z : Int64) (hd : decode c.code pc = .ok (.lneg, 1)) (hq : pc + 1 = q) (hz : -x = z) (k : ownEnds p e below s Q ck sk T (mkF m q Ls (.long z :: S))) : ownEnds p e below s Q ck sk T (mkF m pc Ls (.long x :: S)) := by
  subst hq hz
  exact ownGo (fun _ k => XS.lneg X.here hx rfl hd rfl k) k
theorem ow_i2l (X : Stand p l e R s m args below meth c T locs cells slots) (hx : p.tables.exec = Jvm.exec) {pc q : Nat} {Ls : Array Slot} {S : List Value} {x : Int32} (z : Int64) (hd : decode c.code pc = .ok (.i2l, 1)) (hq : pc + 1 = q) (hz : x.toInt64 = z) (k : ownEnds p e below s Q ck sk T (mkF m q Ls (.long z :: S))) : ownEnds p e below s Q ck sk T (mkF m pc Ls (.int x :: S)) := by
  subst hq hz
  exact ownGo (fun _ k => XS.i2l X.here hx rfl hd rfl k) k
theorem ow_l2i (X : Stand p l e R s m args below meth c T locs cells slots) (hx : p.tables.exec = Jvm.exec) {pc q : Nat} {Ls : Array Slot} {S : List Value} {x : Int64} (z : Int32) (hd : decode c.code pc = .ok (.l2i, 1)) (hq : pc + 1 = q) (hz : x.toInt32 = z) (k : ownEnds p e below s Q ck sk T (mkF m q Ls (.int z :: S))) : ownEnds p e below s Q ck sk T (mkF m pc Ls (.long x :: S)) := by
  subst hq hz
  exact ownGo (fun _ k => XS.l2i X.here hx rfl hd rfl k) k
theorem ow_i2b (X : Stand p l e R s m args below meth c T locs cells slots) (hx : p.tables.exec = Jvm.exec) {pc q : Nat} {Ls : Array Slot} {S : List Value} {x : Int32} (z : Int32) (hd : decode c.code pc = .ok (.i2b, 1)) (hq : pc + 1 = q) (hz : x.toInt8.toInt32 = z) (k : ownEnds p e below s Q ck sk T (mkF m q Ls (.int z :: S))) : ownEnds p e below s Q ck sk T (mkF m pc Ls (.int x :: S)) := by
  subst hq hz
  exact ownGo (fun _ k => XS.i2b X.here hx rfl hd rfl k) k
theorem ow_i2s (X : Stand p l e R s m args below meth c T locs cells slots) (hx : p.tables.exec = Jvm.exec) {pc q : Nat} {Ls : Array Slot} {S : List Value} {x : Int32} (z : Int32) (hd : decode c.code pc = .ok (.i2s, 1)) (hq : pc + 1 = q) (hz : x.toInt16.toInt32 = z) (k : ownEnds p e below s Q ck sk T (mkF m q Ls (.int z :: S))) : ownEnds p e below s Q ck sk T (mkF m pc Ls (.int x :: S)) := by
  subst hq hz
  exact ownGo (fun _ k => XS.i2s X.here hx rfl hd rfl k) k
theorem ow_i2c (X : Stand p l e R s m args below meth c T locs cells slots) (hx : p.tables.exec = Jvm.exec) {pc q : Nat} {Ls : Array Slot} {S : List Value} {x : Int32} (z : Int32) (hd : decode c.code pc = .ok (.i2c, 1)) (hq : pc + 1 = q) (hz : x.toUInt32.toUInt16.toUInt32.toInt32 = z) (k : ownEnds p e below s Q ck sk T (mkF m q Ls (.int z :: S))) : ownEnds p e below s Q ck sk T (mkF m pc Ls (.int x :: S)) := by
  subst hq hz
  exact ownGo (fun _ k => XS.i2c X.here hx rfl hd rfl k) k
theorem ow_lcmp (X : Stand p l e R s m args below meth c T locs cells slots) (hx : p.tables.exec = Jvm.exec) {pc q : Nat} {Ls : Array Slot} {S : List Value} {x y : Int64} (z : Int32) (hd : decode c.code pc = .ok (.lcmp, 1)) (hq : pc + 1 = q) (hz : Jvm.Free.XT.cmpL x y = z) (k : ownEnds p e below s Q ck sk T (mkF m q Ls (.int z :: S))) : ownEnds p e below s Q ck sk T (mkF m pc Ls (.long y :: .long x :: S)) := by
  subst hq hz
  exact ownGo (fun _ k => Jvm.Free.XT.lcmp X.here hx rfl hd rfl k) k
theorem ow_idiv (X : Stand p l e R s m args below meth c T locs cells slots) (hx : p.tables.exec = Jvm.exec) {pc q : Nat} {Ls : Array Slot} {S : List Value} {x y : Int32} (z : Int32) (hd : decode c.code pc = .ok (.idiv, 1)) (hq : pc + 1 = q) (hy : y ≠ 0) (hz : x / y = z) (k : ownEnds p e below s Q ck sk T (mkF m q Ls (.int z :: S))) : ownEnds p e below s Q ck sk T (mkF m pc Ls (.int y :: .int x :: S)) := by
  subst hq hz
  exact ownGo (fun _ k => XS.idiv X.here hx rfl hd rfl hy k) k
theorem ow_irem (X : Stand p l e R s m args below meth c T locs cells slots) (hx : p.tables.exec = Jvm.exec) {pc q : Nat} {Ls : Array Slot} {S : List Value} {x y : Int32} (z : Int32) (hd : decode c.code pc = .ok (.irem, 1)) (hq : pc + 1 = q) (hy : y ≠ 0) (hz : x % y = z) (k : ownEnds p e below s Q ck sk T (mkF m q Ls (.int z :: S))) : ownEnds p e below s Q ck sk T (mkF m pc Ls (.int y :: .int x :: S)) := by
  subst hq hz
  exact ownGo (fun _ k => iremM X hx rfl hd rfl hy k) k
theorem ow_ldiv (X : Stand p l e R s m args below meth c T locs cells slots) (hx : p.tables.exec = Jvm.exec) {pc q : Nat} {Ls : Array Slot} {S : List Value} {x y : Int64} (z : Int64) (hd : decode c.code pc = .ok (.ldiv, 1)) (hq : pc + 1 = q) (hy : y ≠ 0) (hz : x / y = z) (k : ownEnds p e below s Q ck sk T (mkF m q Ls (.long z :: S))) : ownEnds p e below s Q ck sk T (mkF m pc Ls (.long y :: .long x :: S)) := by
  subst hq hz
  exact ownGo (fun _ k => XS.ldiv X.here hx rfl hd rfl hy k) k
theorem ow_lrem (X : Stand p l e R s m args below meth c T locs cells slots) (hx : p.tables.exec = Jvm.exec) {pc q : Nat} {Ls : Array Slot} {S : List Value} {x y : Int64} (z : Int64) (hd : decode c.code pc = .ok (.lrem, 1)) (hq : pc + 1 = q) (hy : y ≠ 0) (hz : x - (x / y) * y = z) (k : ownEnds p e below s Q ck sk T (mkF m q Ls (.long z :: S))) : ownEnds p e below s Q ck sk T (mkF m pc Ls (.long y :: .long x :: S)) := by
  subst hq hz
  exact ownGo (fun _ k => XS.lrem X.here hx rfl hd rfl hy k) k
theorem ow_iinc (X : Stand p l e R s m args below meth c T locs cells slots) (hx : p.tables.exec = Jvm.exec) {pc q : Nat} {Ls : Array Slot} {S : List Value} {k : Nat} {i : Int} {x : Int32} {L' : Array Slot} (hd : decode c.code pc = .ok (.iinc k i, 3)) (hq : pc + 3 = q) (hl : Ls[k]? = some (.val (.int x))) (hl' : storeLocals Ls k (.int (x + Int32.ofInt i)) = some L') (k : ownEnds p e below s Q ck sk T (mkF m q L' S)) : ownEnds p e below s Q ck sk T (mkF m pc Ls S) := by
  subst hq
  exact ownGo (fun _ k => XS.iinc X.here hx rfl hd hl hl' k) k
theorem ow_dup (X : Stand p l e R s m args below meth c T locs cells slots) (hx : p.tables.exec = Jvm.exec) {pc q : Nat} {Ls : Array Slot} {S : List Value} {v : Value} (hd : decode c.code pc = .ok (.dup, 1)) (hq : pc + 1 = q) (hc : v.category = 1) (k : ownEnds p e below s Q ck sk T (mkF m q Ls (v :: v :: S))) : ownEnds p e below s Q ck sk T (mkF m pc Ls (v :: S)) := by
  subst hq
  exact ownGo (fun _ k => XS.dup X.here hx rfl hd rfl hc k) k
theorem ow_dupX1 (X : Stand p l e R s m args below meth c T locs cells slots) (hx : p.tables.exec = Jvm.exec) {pc q : Nat} {Ls : Array Slot} {S : List Value} {v w : Value} (hd : decode c.code pc = .ok (.dup_x1, 1)) (hq : pc + 1 = q) (hc : v.category = 1) (hc' : w.category = 1) (k : ownEnds p e below s Q ck sk T (mkF m q Ls (v :: w :: v :: S))) : ownEnds p e below s Q ck sk T (mkF m pc Ls (v :: w :: S)) := by
  subst hq
  exact ownGo (fun _ k => XS.dupX1 X.here hx rfl hd rfl hc hc' k) k
theorem ow_dup2 (X : Stand p l e R s m args below meth c T locs cells slots) (hx : p.tables.exec = Jvm.exec) {pc q : Nat} {Ls : Array Slot} {S : List Value} {v w : Value} (hd : decode c.code pc = .ok (.dup2, 1)) (hq : pc + 1 = q) (hc : v.category = 1) (hc' : w.category = 1) (k : ownEnds p e below s Q ck sk T (mkF m q Ls (v :: w :: v :: w :: S))) : ownEnds p e below s Q ck sk T (mkF m pc Ls (v :: w :: S)) := by
  subst hq
  exact ownGo (fun _ k => Jvm.Free.XT.dup2 X.here hx rfl hd rfl hc hc' k) k
theorem ow_dup2L (X : Stand p l e R s m args below meth c T locs cells slots) (hx : p.tables.exec = Jvm.exec) {pc q : Nat} {Ls : Array Slot} {S : List Value} {v : Int64} (hd : decode c.code pc = .ok (.dup2, 1)) (hq : pc + 1 = q) (k : ownEnds p e below s Q ck sk T (mkF m q Ls (.long v :: .long v :: S))) : ownEnds p e below s Q ck sk T (mkF m pc Ls (.long v :: S)) := by
  subst hq
  exact ownGo (fun _ k => Jvm.Free.XT.dup2L X.here hx rfl hd rfl k) k
theorem ow_pop (X : Stand p l e R s m args below meth c T locs cells slots) (hx : p.tables.exec = Jvm.exec) {pc q : Nat} {Ls : Array Slot} {S : List Value} {v : Value} (hd : decode c.code pc = .ok (.pop, 1)) (hq : pc + 1 = q) (hc : v.category = 1) (k : ownEnds p e below s Q ck sk T (mkF m q Ls S)) : ownEnds p e below s Q ck sk T (mkF m pc Ls (v :: S)) := by
  subst hq
  exact ownGo (fun _ k => XS.pop X.here hx rfl hd rfl hc k) k
theorem ow_aconstNull (X : Stand p l e R s m args below meth c T locs cells slots) (hx : p.tables.exec = Jvm.exec) {pc q : Nat} {Ls : Array Slot} {S : List Value}  (hd : decode c.code pc = .ok (.aconst_null, 1)) (hq : pc + 1 = q) (k : ownEnds p e below s Q ck sk T (mkF m q Ls (.null :: S))) : ownEnds p e below s Q ck sk T (mkF m pc Ls S) := by
  subst hq
  exact ownGo (fun _ k => XS.aconstNull X.here hx rfl hd k) k
theorem ow_goto (X : Stand p l e R s m args below meth c T locs cells slots) (hx : p.tables.exec = Jvm.exec) {pc q : Nat} {Ls : Array Slot} {S : List Value} {o : Int} (hd : decode c.code pc = .ok (.goto o, 3)) (ho : 0 ≤ (pc : Int) + o) (hp : ((pc : Int) + o).toNat = q) (k : ownEnds p e below s Q ck sk T (mkF m q Ls S)) : ownEnds p e below s Q ck sk T (mkF m pc Ls S) :=
  ownGo (fun _ k => XS.goto X.here hx rfl rfl hd ho hp k) k
theorem ow_ifYes (X : Stand p l e R s m args below meth c T locs cells slots) (hx : p.tables.exec = Jvm.exec) {pc q : Nat} {Ls : Array Slot} {S : List Value} {cd : ClassFile.Cond} {o : Int} {x : Int32} (hd : decode c.code pc = .ok (.ifCond cd o, 3)) (hc : ifCond.holds cd x = true) (ho : 0 ≤ (pc : Int) + o) (hp : ((pc : Int) + o).toNat = q) (k : ownEnds p e below s Q ck sk T (mkF m q Ls S)) : ownEnds p e below s Q ck sk T (mkF m pc Ls (.int x :: S)) :=
  ownGo (fun _ k => XS.ifYes X.here hx rfl rfl hd rfl hc ho hp k) k
theorem ow_ifNo (X : Stand p l e R s m args below meth c T locs cells slots) (hx : p.tables.exec = Jvm.exec) {pc q : Nat} {Ls : Array Slot} {S : List Value} {cd : ClassFile.Cond} {o : Int} {x : Int32} (hd : decode c.code pc = .ok (.ifCond cd o, 3)) (hq : pc + 3 = q) (hc : ifCond.holds cd x = false) (k : ownEnds p e below s Q ck sk T (mkF m q Ls S)) : ownEnds p e below s Q ck sk T (mkF m pc Ls (.int x :: S)) := by
  subst hq
  exact ownGo (fun _ k => XS.ifNo X.here hx rfl hd rfl hc k) k
theorem ow_icmpYes (X : Stand p l e R s m args below meth c T locs cells slots) (hx : p.tables.exec = Jvm.exec) {pc q : Nat} {Ls : Array Slot} {S : List Value} {cd : ClassFile.Cond} {o : Int} {x y : Int32} (hd : decode c.code pc = .ok (.if_icmp cd o, 3)) (hc : if_icmp.holds cd x y = true) (ho : 0 ≤ (pc : Int) + o) (hp : ((pc : Int) + o).toNat = q) (k : ownEnds p e below s Q ck sk T (mkF m q Ls S)) : ownEnds p e below s Q ck sk T (mkF m pc Ls (.int y :: .int x :: S)) :=
  ownGo (fun _ k => XS.icmpYes X.here hx rfl rfl hd rfl hc ho hp k) k
theorem ow_icmpNo (X : Stand p l e R s m args below meth c T locs cells slots) (hx : p.tables.exec = Jvm.exec) {pc q : Nat} {Ls : Array Slot} {S : List Value} {cd : ClassFile.Cond} {o : Int} {x y : Int32} (hd : decode c.code pc = .ok (.if_icmp cd o, 3)) (hq : pc + 3 = q) (hc : if_icmp.holds cd x y = false) (k : ownEnds p e below s Q ck sk T (mkF m q Ls S)) : ownEnds p e below s Q ck sk T (mkF m pc Ls (.int y :: .int x :: S)) := by
  subst hq
  exact ownGo (fun _ k => XS.icmpNo X.here hx rfl hd rfl hc k) k
end OwnSteps
def own_nx (g : Nat → Int32) : Nat → Nat → Int32
  | _, 0 => -1
  | i, k + 1 => if g i = (0 : Int32) then own_nx g (i + 1) k else Int32.ofNat i
def own_next (g : Nat → Int32) (n : Nat) (p : Int32) : Int32 := own_nx g p.toNatClampNeg (n - p.toNatClampNeg)
def own_ix (p : Int32) : Nat := ((p.toUInt32 >>> ((10 : Int32) &&& 31).toUInt32).toInt32).toNatClampNeg
def own_best (ma mb ca cb fr : Int32) : Int32 := if ¬ mb = (0 : Int32) ∧ ¬ cb < fr ∧ ((if ¬ ma = (0 : Int32) ∧ ¬ ca < fr then ca else (-1 : Int32)) < (0 : Int32) ∨ cb < (if ¬ ma = (0 : Int32) ∧ ¬ ca < fr then ca else (-1 : Int32))) then cb else (if ¬ ma = (0 : Int32) ∧ ¬ ca < fr then ca else (-1 : Int32))
theorem own_nx_eq (g : Nat → Int32) : ∀ k i, (own_nx g i k = (-1 : Int32) ∧ ∀ j, i ≤ j → j < i + k → g j = (0 : Int32)) ∨ ∃ m, i ≤ m ∧ m < i + k ∧ ¬ g m = (0 : Int32) ∧ (∀ j, i ≤ j → j < m → g j = (0 : Int32)) ∧ own_nx g i k = Int32.ofNat m := by
  intro k
  induction k with
  | zero => exact fun i => Or.inl ⟨rfl, fun j h1 h2 => absurd h2 (by omega)⟩
  | succ k ih =>
    intro i
    have e : own_nx g i (k + 1) = if g i = (0 : Int32) then own_nx g (i + 1) k else Int32.ofNat i := rfl
    by_cases h : g i = (0 : Int32)
    · rw [e, if_pos h]
      rcases ih (i + 1) with ⟨h1, h2⟩ | ⟨m, h1, h2, h3, h4, h5⟩
      · refine Or.inl ⟨h1, fun j q1 q2 => ?_⟩
        by_cases q : j = i
        · rw [q]; exact h
        · exact h2 j (by omega) (by omega)
      · refine Or.inr ⟨m, by omega, by omega, h3, fun j q1 q2 => ?_, h5⟩
        by_cases q : j = i
        · rw [q]; exact h
        · exact h4 j (by omega) q2
    · rw [e, if_neg h]
      exact Or.inr ⟨i, Nat.le_refl _, by omega, h, fun j q1 q2 => absurd q1 (by omega), rfl⟩
theorem own_next_ge {g : Nat → Int32} {n : Nat} {p z : Int32} (h : ¬ p < z) (hz : z.toNatClampNeg = n) : own_next g n p = (-1 : Int32) := by
  unfold own_next
  have : n - p.toNatClampNeg = 0 := by
    rw [← hz]
    rw [Int32.lt_iff_toInt_lt] at h
    simp only [Int32.toNatClampNeg]
    omega
  rw [this]
  rfl
theorem own_final {ma mb ca cb fr : Int32} {ia ib n : Nat} {g : Nat → Int32} (hg : ∀ j, ¬ g j = (0 : Int32) ↔ ((¬ ma = (0 : Int32) ∧ j = ia) ∨ (¬ mb = (0 : Int32) ∧ j = ib))) (ea : ca.toInt = ia) (eb : cb.toInt = ib) (la : ia < n) (lb : ib < n) (hf : 0 ≤ fr.toInt) : own_next g n fr = own_best ma mb ca cb fr := by
  have ef : fr.toInt = (fr.toNatClampNeg : Int) := by simp only [Int32.toNatClampNeg]; omega
  have fa : (ca < fr) ↔ ia < fr.toNatClampNeg := by rw [Int32.lt_iff_toInt_lt]; omega
  have fb : (cb < fr) ↔ ib < fr.toNatClampNeg := by rw [Int32.lt_iff_toInt_lt]; omega
  have ab : (cb < ca) ↔ ib < ia := by rw [Int32.lt_iff_toInt_lt]; omega
  have na : ¬ ca < (0 : Int32) := by rw [Int32.lt_iff_toInt_lt]; simp only [Int32.reduceToInt]; omega
  have m1 : (-1 : Int32) < (0 : Int32) := by decide
  have ra := ca.toInt_lt
  have rb := cb.toInt_lt
  have oa : Int32.ofNat ia = ca := by apply Int32.toInt_inj.mp; rw [Int32.toInt_ofNat_of_lt (by omega), ea]
  have ob : Int32.ofNat ib = cb := by apply Int32.toInt_inj.mp; rw [Int32.toInt_ofNat_of_lt (by omega), eb]
  unfold own_next own_best
  generalize fr.toNatClampNeg = f at *
  simp only [fa, fb]
  rcases own_nx_eq g (n - f) f with ⟨h1, h2⟩ | ⟨m, h1, h2, h3, h4, h5⟩
  · rw [h1]
    have qa : ¬ (¬ ma = (0 : Int32) ∧ ¬ ia < f) := fun q => (hg ia).mpr (Or.inl ⟨q.1, rfl⟩) (h2 ia (by omega) (by omega))
    have qb : ¬ (¬ mb = (0 : Int32) ∧ ¬ ib < f) := fun q => (hg ib).mpr (Or.inr ⟨q.1, rfl⟩) (h2 ib (by omega) (by omega))
    rw [if_neg qa, if_neg (fun q => qb ⟨q.1, q.2.1⟩)]
  · rw [h5]
    have hm := (hg m).mp h3
    have mina : ¬ ma = (0 : Int32) → ¬ ia < f → m ≤ ia := fun q1 q2 => Nat.le_of_not_lt fun q3 => (hg ia).mpr (Or.inl ⟨q1, rfl⟩) (h4 ia (by omega) q3)
    have minb : ¬ mb = (0 : Int32) → ¬ ib < f → m ≤ ib := fun q1 q2 => Nat.le_of_not_lt fun q3 => (hg ib).mpr (Or.inr ⟨q1, rfl⟩) (h4 ib (by omega) q3)
    by_cases qa : ¬ ma = (0 : Int32) ∧ ¬ ia < f
    · simp only [if_pos qa]
      by_cases qb : ¬ mb = (0 : Int32) ∧ ¬ ib < f
      · by_cases qc : ib < ia
        · rw [if_pos ⟨qb.1, qb.2, Or.inr (ab.mpr qc)⟩]
          have := minb qb.1 qb.2
          have e : m = ib := by rcases hm with q | q <;> omega
          rw [e, ob]
        · rw [if_neg (fun q => q.2.2.elim na (fun w => qc (ab.mp w)))]
          have := mina qa.1 qa.2
          have e : m = ia := by rcases hm with q | q <;> omega
          rw [e, oa]
      · rw [if_neg (fun q => qb ⟨q.1, q.2.1⟩)]
        have e : m = ia := by
          rcases hm with q | q
          · exact q.2
          · exact absurd ⟨q.1, by omega⟩ qb
        rw [e, oa]
    · simp only [if_neg qa]
      have qb : ¬ mb = (0 : Int32) ∧ ¬ ib < f := by
        rcases hm with q | q
        · exact absurd ⟨q.1, by omega⟩ qa
        · exact ⟨q.1, by omega⟩
      rw [if_pos ⟨qb.1, qb.2, Or.inl m1⟩]
      have e : m = ib := by
        rcases hm with q | q
        · exact absurd ⟨q.1, by omega⟩ qa
        · exact q.2
      rw [e, ob]
theorem own_g00 {ma mb : Int32} {ia ib : Nat} (h1 : ma = (0 : Int32)) (h2 : mb = (0 : Int32)) : ∀ j, ¬ (fun _ => (0 : Int32) : Nat → Int32) j = (0 : Int32) ↔ ((¬ ma = (0 : Int32) ∧ j = ia) ∨ (¬ mb = (0 : Int32) ∧ j = ib)) := by
  intro j; simp [h1, h2]
theorem own_g10 {ma mb : Int32} {ia ib : Nat} (h1 : ¬ ma = (0 : Int32)) (h2 : mb = (0 : Int32)) : ∀ j, ¬ (ownUpd (fun _ => (0 : Int32)) ia (1 : Int32)) j = (0 : Int32) ↔ ((¬ ma = (0 : Int32) ∧ j = ia) ∨ (¬ mb = (0 : Int32) ∧ j = ib)) := by
  intro j; unfold ownUpd; by_cases q : j = ia <;> simp [h1, h2, q]
theorem own_g01 {ma mb : Int32} {ia ib : Nat} (h1 : ma = (0 : Int32)) (h2 : ¬ mb = (0 : Int32)) : ∀ j, ¬ (ownUpd (fun _ => (0 : Int32)) ib (1 : Int32)) j = (0 : Int32) ↔ ((¬ ma = (0 : Int32) ∧ j = ia) ∨ (¬ mb = (0 : Int32) ∧ j = ib)) := by
  intro j; unfold ownUpd; by_cases q : j = ib <;> simp [h1, h2, q]
theorem own_g11 {ma mb : Int32} {ia ib : Nat} (h1 : ¬ ma = (0 : Int32)) (h2 : ¬ mb = (0 : Int32)) : ∀ j, ¬ (ownUpd (ownUpd (fun _ => (0 : Int32)) ia (1 : Int32)) ib (1 : Int32)) j = (0 : Int32) ↔ ((¬ ma = (0 : Int32) ∧ j = ia) ∨ (¬ mb = (0 : Int32) ∧ j = ib)) := by
  intro j; unfold ownUpd; by_cases q : j = ib <;> by_cases q' : j = ia <;> simp [h1, h2, q, q']
theorem own_frM {p v : Int32} (h : (p &&& (2147483647 : Int32)) = v) : 0 ≤ v.toInt := by
  have h1 := Jvm.Kit.i32_mask p 2147483647 (k := 31) (by decide) (by decide)
  rw [← h, h1]; exact Int.emod_nonneg _ (by decide)
theorem own_fr15 {p v : Int32} (h : (p &&& (15 : Int32)) = v) : 0 ≤ v.toInt := by
  have h1 := Jvm.Kit.i32_mask p 15 (k := 4) (by decide) (by decide)
  rw [← h, h1]; exact Int.emod_nonneg _ (by decide)
theorem own_n {p v : Int32} (h : ((1 : Int32) + (p &&& (7 : Int32))) = v) : v = (1 : Int32) ∨ v = (2 : Int32) ∨ v = (3 : Int32) ∨ v = (4 : Int32) ∨ v = (5 : Int32) ∨ v = (6 : Int32) ∨ v = (7 : Int32) ∨ v = (8 : Int32) := by
  have h1 := Jvm.Kit.i32_mask p 7 (k := 3) (by decide) (by decide)
  have h2 := Jvm.Kit.i32_add (p := 1) (q := p &&& (7 : Int32)) (by simp only [Int32.reduceToInt]; omega) (by simp only [Int32.reduceToInt]; omega)
  rw [h, h1] at h2
  simp only [← Int32.toInt_inj, Int32.reduceToInt] at h2 ⊢
  omega
theorem own_cap {p k c : Int32} (h : (k + (((p.toUInt32 >>> ((3 : Int32) &&& 31).toUInt32).toInt32) &&& (1023 : Int32))) = c) (h0 : 0 ≤ k.toInt) (h1 : k.toInt ≤ 10000) : k.toInt ≤ c.toInt ∧ c.toInt ≤ k.toInt + 1023 := by
  have m := Jvm.Kit.i32_mask ((p.toUInt32 >>> ((3 : Int32) &&& 31).toUInt32).toInt32) 1023 (k := 10) (by decide) (by decide)
  rw [← h, Jvm.Kit.i32_add (by omega) (by omega), m]
  omega
theorem own_nzc {p k c : Int32} (h : (k + (((p.toUInt32 >>> ((3 : Int32) &&& 31).toUInt32).toInt32) &&& (1023 : Int32))) = c) (h0 : 0 < k.toInt := by decide) (h1 : k.toInt ≤ 10000 := by decide) : c ≠ 0 := by
  intro q
  have := own_cap h (by omega) h1
  rw [q] at this
  simp only [Int32.reduceToInt] at this
  omega
theorem own_shr {x : Int32} (h : 0 ≤ x.toInt) : ((x.toUInt32 >>> ((10 : Int32) &&& 31).toUInt32).toInt32).toInt = x.toInt / 1024 :=
  Jvm.Kit.i32_iushr (x := x) (Jvm.Kit.i32_nonneg.mpr h) (n := ((10 : Int32) &&& 31).toUInt32) (k := 10) (by decide) (by decide)
theorem own_a {a c v p k : Int32} {n : Nat} (h : ((a &&& (2147483647 : Int32)) % c) = v) (hc : (k + (((p.toUInt32 >>> ((3 : Int32) &&& 31).toUInt32).toInt32) &&& (1023 : Int32))) = c) (hk : k.toInt = 1024 * (n : Int) - 1023 := by decide) (hn : 1 ≤ n ∧ n ≤ 8 := by decide) : 0 ≤ v.toInt ∧ v.toInt < 1024 * n := by
  have h0 := own_cap hc (by omega) (by omega)
  have h1 := Jvm.Kit.i32_mask a 2147483647 (k := 31) (by decide) (by decide)
  have h2 : 0 ≤ (a &&& (2147483647 : Int32)).toInt := by rw [h1]; exact Int.emod_nonneg _ (by decide)
  have h3 := Jvm.Kit.i32_rem_nonneg (y := c) h2
  rw [h] at h3
  have h4 := Int.emod_nonneg (a &&& (2147483647 : Int32)).toInt (show c.toInt ≠ 0 by omega)
  have h5 := Int.emod_lt_of_pos (a &&& (2147483647 : Int32)).toInt (show 0 < c.toInt by omega)
  omega
theorem own_in {v : Int32} {n : Nat} (h : 0 ≤ v.toInt ∧ v.toInt < 1024 * n) : ownIn ((v.toUInt32 >>> ((10 : Int32) &&& 31).toUInt32).toInt32) n := by
  have := own_shr h.1
  refine ownIn_of ?_ ?_ <;> omega
theorem own_ixv {v : Int32} {n : Nat} (h : 0 ≤ v.toInt ∧ v.toInt < 1024 * n) : (own_ix v : Int) = v.toInt / 1024 := by
  have := own_shr h.1
  unfold own_ix
  simp only [Int32.toNatClampNeg]
  omega
theorem own_il {v : Int32} {n : Nat} (h : 0 ≤ v.toInt ∧ v.toInt < 1024 * n) : own_ix v < n := by
  have := own_ixv h
  omega
theorem own_ca {v c : Int32} {n : Nat} (h : 0 ≤ v.toInt ∧ v.toInt < 1024 * n) (e : (v / (1024 : Int32)) = c) : c.toInt = (own_ix v : Nat) := by
  have h1 := Jvm.Kit.i32_div (x := v) (y := 1024) (by intro q; exact absurd q.2 (by decide))
  rw [e] at h1
  simp only [Int32.reduceToInt] at h1
  rw [Int.tdiv_eq_ediv_of_nonneg h.1] at h1
  have := own_ixv h
  omega
theorem own_cases1 {p : Int32} (h : 0 ≤ p.toInt) : ¬ p < (1 : Int32) ∨ p = (0 : Int32) := by
  simp only [Int32.lt_iff_toInt_lt, ← Int32.toInt_inj, Int32.reduceToInt]
  omega
theorem own_chunk1 {p c : Int32} (h : ((1 : Int32) + (((p.toUInt32 >>> ((3 : Int32) &&& 31).toUInt32).toInt32) &&& (1023 : Int32))) = c) : ((((c + (1024 : Int32)) - (1 : Int32)).toUInt32 >>> ((10 : Int32) &&& 31).toUInt32).toInt32) = (1 : Int32) := by
  have h0 := own_cap h (by decide) (by decide)
  simp only [Int32.reduceToInt] at h0
  have h1 := Jvm.Kit.i32_add (p := c) (q := 1024) (by simp only [Int32.reduceToInt]; omega) (by simp only [Int32.reduceToInt]; omega)
  have h2 := Jvm.Kit.i32_sub (p := c + (1024 : Int32)) (q := 1) (by rw [h1]; simp only [Int32.reduceToInt]; omega) (by rw [h1]; simp only [Int32.reduceToInt]; omega)
  have h3 := own_shr (x := (c + (1024 : Int32)) - (1 : Int32)) (by rw [h2, h1]; simp only [Int32.reduceToInt]; omega)
  apply Int32.toInt_inj.mp
  rw [h3, h2, h1]
  simp only [Int32.reduceToInt]
  omega
theorem own_cases2 {p : Int32} (h : 0 ≤ p.toInt) : ¬ p < (2 : Int32) ∨ p = (0 : Int32) ∨ p = (1 : Int32) := by
  simp only [Int32.lt_iff_toInt_lt, ← Int32.toInt_inj, Int32.reduceToInt]
  omega
theorem own_chunk2 {p c : Int32} (h : ((1025 : Int32) + (((p.toUInt32 >>> ((3 : Int32) &&& 31).toUInt32).toInt32) &&& (1023 : Int32))) = c) : ((((c + (1024 : Int32)) - (1 : Int32)).toUInt32 >>> ((10 : Int32) &&& 31).toUInt32).toInt32) = (2 : Int32) := by
  have h0 := own_cap h (by decide) (by decide)
  simp only [Int32.reduceToInt] at h0
  have h1 := Jvm.Kit.i32_add (p := c) (q := 1024) (by simp only [Int32.reduceToInt]; omega) (by simp only [Int32.reduceToInt]; omega)
  have h2 := Jvm.Kit.i32_sub (p := c + (1024 : Int32)) (q := 1) (by rw [h1]; simp only [Int32.reduceToInt]; omega) (by rw [h1]; simp only [Int32.reduceToInt]; omega)
  have h3 := own_shr (x := (c + (1024 : Int32)) - (1 : Int32)) (by rw [h2, h1]; simp only [Int32.reduceToInt]; omega)
  apply Int32.toInt_inj.mp
  rw [h3, h2, h1]
  simp only [Int32.reduceToInt]
  omega
theorem own_cases3 {p : Int32} (h : 0 ≤ p.toInt) : ¬ p < (3 : Int32) ∨ p = (0 : Int32) ∨ p = (1 : Int32) ∨ p = (2 : Int32) := by
  simp only [Int32.lt_iff_toInt_lt, ← Int32.toInt_inj, Int32.reduceToInt]
  omega
theorem own_chunk3 {p c : Int32} (h : ((2049 : Int32) + (((p.toUInt32 >>> ((3 : Int32) &&& 31).toUInt32).toInt32) &&& (1023 : Int32))) = c) : ((((c + (1024 : Int32)) - (1 : Int32)).toUInt32 >>> ((10 : Int32) &&& 31).toUInt32).toInt32) = (3 : Int32) := by
  have h0 := own_cap h (by decide) (by decide)
  simp only [Int32.reduceToInt] at h0
  have h1 := Jvm.Kit.i32_add (p := c) (q := 1024) (by simp only [Int32.reduceToInt]; omega) (by simp only [Int32.reduceToInt]; omega)
  have h2 := Jvm.Kit.i32_sub (p := c + (1024 : Int32)) (q := 1) (by rw [h1]; simp only [Int32.reduceToInt]; omega) (by rw [h1]; simp only [Int32.reduceToInt]; omega)
  have h3 := own_shr (x := (c + (1024 : Int32)) - (1 : Int32)) (by rw [h2, h1]; simp only [Int32.reduceToInt]; omega)
  apply Int32.toInt_inj.mp
  rw [h3, h2, h1]
  simp only [Int32.reduceToInt]
  omega
theorem own_cases4 {p : Int32} (h : 0 ≤ p.toInt) : ¬ p < (4 : Int32) ∨ p = (0 : Int32) ∨ p = (1 : Int32) ∨ p = (2 : Int32) ∨ p = (3 : Int32) := by
  simp only [Int32.lt_iff_toInt_lt, ← Int32.toInt_inj, Int32.reduceToInt]
  omega
theorem own_chunk4 {p c : Int32} (h : ((3073 : Int32) + (((p.toUInt32 >>> ((3 : Int32) &&& 31).toUInt32).toInt32) &&& (1023 : Int32))) = c) : ((((c + (1024 : Int32)) - (1 : Int32)).toUInt32 >>> ((10 : Int32) &&& 31).toUInt32).toInt32) = (4 : Int32) := by
  have h0 := own_cap h (by decide) (by decide)
  simp only [Int32.reduceToInt] at h0
  have h1 := Jvm.Kit.i32_add (p := c) (q := 1024) (by simp only [Int32.reduceToInt]; omega) (by simp only [Int32.reduceToInt]; omega)
  have h2 := Jvm.Kit.i32_sub (p := c + (1024 : Int32)) (q := 1) (by rw [h1]; simp only [Int32.reduceToInt]; omega) (by rw [h1]; simp only [Int32.reduceToInt]; omega)
  have h3 := own_shr (x := (c + (1024 : Int32)) - (1 : Int32)) (by rw [h2, h1]; simp only [Int32.reduceToInt]; omega)
  apply Int32.toInt_inj.mp
  rw [h3, h2, h1]
  simp only [Int32.reduceToInt]
  omega
theorem own_cases5 {p : Int32} (h : 0 ≤ p.toInt) : ¬ p < (5 : Int32) ∨ p = (0 : Int32) ∨ p = (1 : Int32) ∨ p = (2 : Int32) ∨ p = (3 : Int32) ∨ p = (4 : Int32) := by
  simp only [Int32.lt_iff_toInt_lt, ← Int32.toInt_inj, Int32.reduceToInt]
  omega
theorem own_chunk5 {p c : Int32} (h : ((4097 : Int32) + (((p.toUInt32 >>> ((3 : Int32) &&& 31).toUInt32).toInt32) &&& (1023 : Int32))) = c) : ((((c + (1024 : Int32)) - (1 : Int32)).toUInt32 >>> ((10 : Int32) &&& 31).toUInt32).toInt32) = (5 : Int32) := by
  have h0 := own_cap h (by decide) (by decide)
  simp only [Int32.reduceToInt] at h0
  have h1 := Jvm.Kit.i32_add (p := c) (q := 1024) (by simp only [Int32.reduceToInt]; omega) (by simp only [Int32.reduceToInt]; omega)
  have h2 := Jvm.Kit.i32_sub (p := c + (1024 : Int32)) (q := 1) (by rw [h1]; simp only [Int32.reduceToInt]; omega) (by rw [h1]; simp only [Int32.reduceToInt]; omega)
  have h3 := own_shr (x := (c + (1024 : Int32)) - (1 : Int32)) (by rw [h2, h1]; simp only [Int32.reduceToInt]; omega)
  apply Int32.toInt_inj.mp
  rw [h3, h2, h1]
  simp only [Int32.reduceToInt]
  omega
theorem own_cases6 {p : Int32} (h : 0 ≤ p.toInt) : ¬ p < (6 : Int32) ∨ p = (0 : Int32) ∨ p = (1 : Int32) ∨ p = (2 : Int32) ∨ p = (3 : Int32) ∨ p = (4 : Int32) ∨ p = (5 : Int32) := by
  simp only [Int32.lt_iff_toInt_lt, ← Int32.toInt_inj, Int32.reduceToInt]
  omega
theorem own_chunk6 {p c : Int32} (h : ((5121 : Int32) + (((p.toUInt32 >>> ((3 : Int32) &&& 31).toUInt32).toInt32) &&& (1023 : Int32))) = c) : ((((c + (1024 : Int32)) - (1 : Int32)).toUInt32 >>> ((10 : Int32) &&& 31).toUInt32).toInt32) = (6 : Int32) := by
  have h0 := own_cap h (by decide) (by decide)
  simp only [Int32.reduceToInt] at h0
  have h1 := Jvm.Kit.i32_add (p := c) (q := 1024) (by simp only [Int32.reduceToInt]; omega) (by simp only [Int32.reduceToInt]; omega)
  have h2 := Jvm.Kit.i32_sub (p := c + (1024 : Int32)) (q := 1) (by rw [h1]; simp only [Int32.reduceToInt]; omega) (by rw [h1]; simp only [Int32.reduceToInt]; omega)
  have h3 := own_shr (x := (c + (1024 : Int32)) - (1 : Int32)) (by rw [h2, h1]; simp only [Int32.reduceToInt]; omega)
  apply Int32.toInt_inj.mp
  rw [h3, h2, h1]
  simp only [Int32.reduceToInt]
  omega
theorem own_cases7 {p : Int32} (h : 0 ≤ p.toInt) : ¬ p < (7 : Int32) ∨ p = (0 : Int32) ∨ p = (1 : Int32) ∨ p = (2 : Int32) ∨ p = (3 : Int32) ∨ p = (4 : Int32) ∨ p = (5 : Int32) ∨ p = (6 : Int32) := by
  simp only [Int32.lt_iff_toInt_lt, ← Int32.toInt_inj, Int32.reduceToInt]
  omega
theorem own_chunk7 {p c : Int32} (h : ((6145 : Int32) + (((p.toUInt32 >>> ((3 : Int32) &&& 31).toUInt32).toInt32) &&& (1023 : Int32))) = c) : ((((c + (1024 : Int32)) - (1 : Int32)).toUInt32 >>> ((10 : Int32) &&& 31).toUInt32).toInt32) = (7 : Int32) := by
  have h0 := own_cap h (by decide) (by decide)
  simp only [Int32.reduceToInt] at h0
  have h1 := Jvm.Kit.i32_add (p := c) (q := 1024) (by simp only [Int32.reduceToInt]; omega) (by simp only [Int32.reduceToInt]; omega)
  have h2 := Jvm.Kit.i32_sub (p := c + (1024 : Int32)) (q := 1) (by rw [h1]; simp only [Int32.reduceToInt]; omega) (by rw [h1]; simp only [Int32.reduceToInt]; omega)
  have h3 := own_shr (x := (c + (1024 : Int32)) - (1 : Int32)) (by rw [h2, h1]; simp only [Int32.reduceToInt]; omega)
  apply Int32.toInt_inj.mp
  rw [h3, h2, h1]
  simp only [Int32.reduceToInt]
  omega
theorem own_cases8 {p : Int32} (h : 0 ≤ p.toInt) : ¬ p < (8 : Int32) ∨ p = (0 : Int32) ∨ p = (1 : Int32) ∨ p = (2 : Int32) ∨ p = (3 : Int32) ∨ p = (4 : Int32) ∨ p = (5 : Int32) ∨ p = (6 : Int32) ∨ p = (7 : Int32) := by
  simp only [Int32.lt_iff_toInt_lt, ← Int32.toInt_inj, Int32.reduceToInt]
  omega
theorem own_chunk8 {p c : Int32} (h : ((7169 : Int32) + (((p.toUInt32 >>> ((3 : Int32) &&& 31).toUInt32).toInt32) &&& (1023 : Int32))) = c) : ((((c + (1024 : Int32)) - (1 : Int32)).toUInt32 >>> ((10 : Int32) &&& 31).toUInt32).toInt32) = (8 : Int32) := by
  have h0 := own_cap h (by decide) (by decide)
  simp only [Int32.reduceToInt] at h0
  have h1 := Jvm.Kit.i32_add (p := c) (q := 1024) (by simp only [Int32.reduceToInt]; omega) (by simp only [Int32.reduceToInt]; omega)
  have h2 := Jvm.Kit.i32_sub (p := c + (1024 : Int32)) (q := 1) (by rw [h1]; simp only [Int32.reduceToInt]; omega) (by rw [h1]; simp only [Int32.reduceToInt]; omega)
  have h3 := own_shr (x := (c + (1024 : Int32)) - (1 : Int32)) (by rw [h2, h1]; simp only [Int32.reduceToInt]; omega)
  apply Int32.toInt_inj.mp
  rw [h3, h2, h1]
  simp only [Int32.reduceToInt]
  omega
theorem own_pn_ChunkMarks : plainName "com/example/swarm_tally/swarmtally/ChunkMarks" = true := by first | (simp [plainName, overriddenIn]; done) | decide +kernel
theorem own_d1_0 : decode prog_5_method_1_code 0 = .ok (.aload_n 0, 1) := by decide +kernel
theorem own_d1_1 : decode prog_5_method_1_code 1 = .ok (.invokespecial 1, 3) := by decide +kernel
theorem own_d1_4 : decode prog_5_method_1_code 4 = .ok (.aload_n 0, 1) := by decide +kernel
theorem own_d1_5 : decode prog_5_method_1_code 5 = .ok (.iconst 1, 1) := by decide +kernel
theorem own_d1_6 : decode prog_5_method_1_code 6 = .ok (.newarray .boolean, 2) := by decide +kernel
theorem own_d1_8 : decode prog_5_method_1_code 8 = .ok (.putfield 7, 3) := by decide +kernel
theorem own_d1_11 : decode prog_5_method_1_code 11 = .ok (.return_, 1) := by decide +kernel
theorem own_ef1_init (m : MethodId) (a0 : Addr) : entryFrame m #[(.ref a0)] 1 = mkF m 0 #[rv a0] [] := by first | (simp [entryFrame, mkF, argsToLocals, Value.category]; done) | rfl
def Q_init (Z : State) (a0 : Addr) (h0 : Heap) (n0 : Nat) (v : Option Value) (h : Heap) (L : List Loc) : Prop := ∃ (ar : Addr), v = none ∧ Fr n0 L ∧ Keep h0 h [a0] ∧ h0.size ≤ ar ∧ Exa Z h a0 "com/example/swarm_tally/swarmtally/ChunkMarks" ∧ Fld Z h a0 "com/example/swarm_tally/swarmtally/ChunkMarks" "changed" "[Z" (.ref ar) ∧ ownAI Z h ar .boolean 1 (fun _ => (0 : Int32))
set_option maxRecDepth 65536 in
set_option maxHeartbeats 40000000 in
theorem rm_init (l : Launch) (Z : State) (av0 : Array Value) (hw : ∀ d ∈ tables_1, d.before av0 Z = true) (ws : List Jvm.Cond) (a0 : Addr) (h0 : Heap) (n0 : Nat) (Z0 : n0 ≤ h0.size) (HF0 : Exa Z h0 a0 "com/example/swarm_tally/swarmtally/ChunkMarks") (HF1 : Fld Z h0 a0 "com/example/swarm_tally/swarmtally/ChunkMarks" "changed" "[Z" .null) (G_a0 : n0 ≤ a0) :
    MetFree l (⟨"com/example/swarm_tally/swarmtally/ChunkMarks", "<init>", "()V"⟩ : MethodName) (head1 (Jvm.Cond.code (⟨"com/example/swarm_tally/swarmtally/ChunkMarks", "<init>", "()V"⟩ : MethodName) prog_5_method_1_code 1 none :: ws) ({ frames := 1, cells := 1, slots := 1, locals := 12 } : Room)) (fun a U => a = #[(.ref a0)] ∧ Z.Warmed39 U.vm ∧ U.heap = h0) (fun _ _ _ _ _ => True) (fun _ U o U' => ∃ v L, o = .returned v ∧ (Q_init Z a0 h0 n0) v U'.heap L ∧ FrameEnd U o U' L ({ frames := 1, cells := 1, slots := 1, locals := 12 } : Room).cells ({ frames := 1, cells := 1, slots := 1, locals := 12 } : Room).slots) := by
  refine MetFree.of_bodySF (plainFor_of_name own_pn_ChunkMarks) hisR ?_
  intro p e s m args below meth c s₁ Bd hml0 hP hK
  obtain ⟨rfl, hZ, hh⟩ := hP
  have hx := Bd.exec
  have hby := Bd.bytes
  have hml : c.maxLocals = 1 := hml0
  have hown : s.vm.findClass "com/example/swarm_tally/swarmtally/ChunkMarks" = some m.cls := findClass_of_methodNamed Bd.named
  have hnm := (name_of_methodNamed Bd.named Bd.method).1
  have hlk : meth.locks = false := BodyLoose.notSynchronized Bd
  have X0 : Stand p l e ({ frames := 1, cells := 1, slots := 1, locals := 12 } : Room) s m #[(.ref a0)] below meth c s₁ [] 0 0 := Stand.of_body Bd
  have e0 : s₁.heap = h0 := by rw [← hh, Bd.state]; rfl
  have N0 := Fr.nil n0
  have K0 : Keep h0 h0 [a0] := Keep.refl _ _
  show ownEnds p e below s (Q_init Z a0 h0 n0) ({ frames := 1, cells := 1, slots := 1, locals := 12 } : Room).cells ({ frames := 1, cells := 1, slots := 1, locals := 12 } : Room).slots s₁ (entryFrame m #[(.ref a0)] 1)
  refine ownCast (own_ef1_init m a0) ?_
  refine ow_aloadN (q := 1) X0 hx (hb hby own_d1_0) rfl rfl rfl ?_
  obtain ⟨T1, X1, e1, st1⟩ := initO X0 hx hZ hown (hw _ (List.mem_of_getElem? (i := 7) rfl)) (hw _ (List.mem_of_getElem? (i := 8) rfl)) (hw _ (List.mem_of_getElem? (i := 9) rfl)) e0 (g := (mkF m 1 #[rv a0] [(.ref a0)])) rfl (by rw [hml]; rfl) rfl (hb hby own_d1_1) (by decide) (W := 0) (by show 2 * 0 + _ ≤ _; exact Nat.le_of_eq rfl) (by decide)
  refine ownGo (T' := T1) (f' := (mkF m 4 #[rv a0] [])) (st1) ?_
  refine ow_aloadN (q := 5) X1 hx (hb hby own_d1_4) rfl rfl rfl ?_
  refine ow_iconst (q := 6) X1 hx (1 : Int32) (hb hby own_d1_5) rfl rfl ?_
  obtain ⟨T2, h2, k2, X2, e2, E2, A2, st2⟩ := newP X1 hx hZ (hw _ (List.mem_of_getElem? (i := 10) rfl)) e1 (g := (mkF m 6 #[rv a0] [(.int (1 : Int32)), (.ref a0)])) rfl (hb hby own_d1_6) rfl (by decide) (cap := 1) (by decide) (by decide) (by decide) (by decide)
  obtain ⟨b2, g2⟩ : ∃ z, z = h0.size := ⟨_, rfl⟩
  rw [← g2] at A2 st2
  have ne_a0_b2 : a0 ≠ b2 := Nat.ne_of_lt (Nat.lt_of_lt_of_le HF0.lt (Nat.le_of_eq g2.symm))
  have sz_b2 : h0.size ≤ b2 := Nat.le_trans K0.1 (Nat.le_of_eq g2.symm)
  have G_b2 : n0 ≤ b2 := Nat.le_trans Z0 sz_b2
  have K2 : Keep h0 h2 [a0] := K0.ext E2
  have F3 : Exa Z h2 a0 "com/example/swarm_tally/swarmtally/ChunkMarks" := HF0.ext E2
  have F4 : Fld Z h2 a0 "com/example/swarm_tally/swarmtally/ChunkMarks" "changed" "[Z" .null := HF1.ext E2
  have F5 : ownAI Z h2 b2 .boolean 1 (fun _ => (0 : Int32)) := ownAI.new A2 (by decide) rfl (by decide)
  refine ownGo (T' := T2) (f' := (mkF m 8 #[rv a0] [(.ref b2), (.ref a0)])) (st2) ?_
  obtain ⟨T6, h6, X6, e6, W6, st6⟩ := putF X2 hx hZ hown (host := "") (Or.inl (hw _ (List.mem_of_getElem? (i := 11) rfl))) Via.refl e2 F4 F3 (Or.inl (hw _ (List.mem_of_getElem? (i := 12) rfl))) (hw _ (List.mem_of_getElem? (i := 2) rfl)) (ty := (.array .boolean)) (by decide) rfl rfl (g := (mkF m 8 #[rv a0] [(.ref b2), (.ref a0)])) rfl rfl (hb hby own_d1_8)
  have N6 := Fr.snoc X6 N0 G_a0
  have K6 : Keep h0 h6 [a0] := K2.wr W6 (Or.inl (List.mem_of_getElem? (i := 0) rfl))
  have F7 : Exa Z h6 a0 "com/example/swarm_tally/swarmtally/ChunkMarks" := F3.wr W6
  have F8 : Fld Z h6 a0 "com/example/swarm_tally/swarmtally/ChunkMarks" "changed" "[Z" (.ref b2) := F4.same W6
  have F9 : ownAI Z h6 b2 .boolean 1 (fun _ => (0 : Int32)) := F5.other W6 (Ne.symm ne_a0_b2)
  refine ownGo (T' := T6) (f' := (mkF m 11 #[rv a0] [])) (st6) ?_
  refine ownRetV X6 hx Bd.returns (hb hby own_d1_11) hlk (by decide) (by decide) ?_
  rw [e6]
  exact ⟨b2, rfl, N6, K6, sz_b2, F7, F8, F9⟩
theorem own_d3_0 : decode prog_5_method_2_code 0 = .ok (.iload_n 1, 1) := by decide +kernel
theorem own_d3_1 : decode prog_5_method_2_code 1 = .ok (.sipush 1024, 3) := by decide +kernel
theorem own_d3_4 : decode prog_5_method_2_code 4 = .ok (.iadd, 1) := by decide +kernel
theorem own_d3_5 : decode prog_5_method_2_code 5 = .ok (.iconst 1, 1) := by decide +kernel
theorem own_d3_6 : decode prog_5_method_2_code 6 = .ok (.isub, 1) := by decide +kernel
theorem own_d3_7 : decode prog_5_method_2_code 7 = .ok (.getstatic 13, 3) := by decide +kernel
theorem own_d3_10 : decode prog_5_method_2_code 10 = .ok (.iushr, 1) := by decide +kernel
theorem own_d3_11 : decode prog_5_method_2_code 11 = .ok (.istore_n 2, 1) := by decide +kernel
theorem own_d3_12 : decode prog_5_method_2_code 12 = .ok (.iload_n 2, 1) := by decide +kernel
theorem own_d3_13 : decode prog_5_method_2_code 13 = .ok (.aload_n 0, 1) := by decide +kernel
theorem own_d3_14 : decode prog_5_method_2_code 14 = .ok (.getfield 7, 3) := by decide +kernel
theorem own_d3_17 : decode prog_5_method_2_code 17 = .ok (.arraylength, 1) := by decide +kernel
theorem own_d3_18 : decode prog_5_method_2_code 18 = .ok (.if_icmp .le 15, 3) := by decide +kernel
theorem own_d3_33 : decode prog_5_method_2_code 33 = .ok (.return_, 1) := by decide +kernel
theorem own_ef3_grow_1 (m : MethodId) (a0 : Addr) (p1 : Int32) : entryFrame m #[(.ref a0), (.int p1)] 3 = mkF m 0 #[rv a0, iv p1, .unset] [] := by first | (simp [entryFrame, mkF, argsToLocals, Value.category]; done) | rfl
def Q_grow_1 (Z : State) (a0 : Addr) (p1 : Int32) (ar : Addr) (h0 : Heap) (n0 : Nat) (v : Option Value) (h : Heap) (L : List Loc) : Prop := v = none ∧ Fr n0 L ∧ h = h0
set_option maxRecDepth 65536 in
set_option maxHeartbeats 40000000 in
theorem rm_grow_1 (l : Launch) (Z : State) (av0 : Array Value) (hw : ∀ d ∈ tables_1, d.before av0 Z = true) (ws : List Jvm.Cond) (a0 : Addr) (p1 : Int32) (ar : Addr) (h0 : Heap) (n0 : Nat) (Z0 : n0 ≤ h0.size) (HF0 : Exa Z h0 a0 "com/example/swarm_tally/swarmtally/ChunkMarks") (HF1 : Fld Z h0 a0 "com/example/swarm_tally/swarmtally/ChunkMarks" "changed" "[Z" (.ref ar)) (HF2 : ownAI Z h0 ar .boolean 1 (fun _ => (0 : Int32))) (HF3 : Sta Z h0 "com/example/swarm_tally/swarmtally/ChunkMarks" "CHUNK_SHIFT" "I" (.int (10 : Int32))) (hch : ((((p1 + (1024 : Int32)) - (1 : Int32)).toUInt32 >>> ((10 : Int32) &&& 31).toUInt32).toInt32) = (1 : Int32)) :
    MetFree l (⟨"com/example/swarm_tally/swarmtally/ChunkMarks", "grow", "(I)V"⟩ : MethodName) (head1 (Jvm.Cond.code (⟨"com/example/swarm_tally/swarmtally/ChunkMarks", "grow", "(I)V"⟩ : MethodName) prog_5_method_2_code 3 none :: ws) ({ frames := 0, cells := 0, slots := 0, locals := 0 } : Room)) (fun a U => a = #[(.ref a0), (.int p1)] ∧ Z.Warmed39 U.vm ∧ U.heap = h0) (fun _ _ _ _ _ => True) (fun _ U o U' => ∃ v L, o = .returned v ∧ (Q_grow_1 Z a0 p1 ar h0 n0) v U'.heap L ∧ FrameEnd U o U' L ({ frames := 0, cells := 0, slots := 0, locals := 0 } : Room).cells ({ frames := 0, cells := 0, slots := 0, locals := 0 } : Room).slots) := by
  refine MetFree.of_bodySF (plainFor_of_name own_pn_ChunkMarks) hisR ?_
  intro p e s m args below meth c s₁ Bd hml0 hP hK
  obtain ⟨rfl, hZ, hh⟩ := hP
  have hx := Bd.exec
  have hby := Bd.bytes
  have hml : c.maxLocals = 3 := hml0
  have hown : s.vm.findClass "com/example/swarm_tally/swarmtally/ChunkMarks" = some m.cls := findClass_of_methodNamed Bd.named
  have hnm := (name_of_methodNamed Bd.named Bd.method).1
  have hlk : meth.locks = false := BodyLoose.notSynchronized Bd
  have X0 : Stand p l e ({ frames := 0, cells := 0, slots := 0, locals := 0 } : Room) s m #[(.ref a0), (.int p1)] below meth c s₁ [] 0 0 := Stand.of_body Bd
  have e0 : s₁.heap = h0 := by rw [← hh, Bd.state]; rfl
  have N0 := Fr.nil n0
  have K0 : Keep h0 h0 [] := Keep.refl _ _
  show ownEnds p e below s (Q_grow_1 Z a0 p1 ar h0 n0) ({ frames := 0, cells := 0, slots := 0, locals := 0 } : Room).cells ({ frames := 0, cells := 0, slots := 0, locals := 0 } : Room).slots s₁ (entryFrame m #[(.ref a0), (.int p1)] 3)
  refine ownCast (own_ef3_grow_1 m a0 p1) ?_
  refine ow_iloadN (q := 1) X0 hx (hb hby own_d3_0) rfl rfl ?_
  refine ow_sipush (q := 4) X0 hx (1024 : Int32) (hb hby own_d3_1) rfl rfl ?_
  refine ow_iadd (q := 5) X0 hx _ (hb hby own_d3_4) rfl rfl ?_
  refine ow_iconst (q := 6) X0 hx (1 : Int32) (hb hby own_d3_5) rfl rfl ?_
  refine ow_isub (q := 7) X0 hx _ (hb hby own_d3_6) rfl rfl ?_
  obtain ⟨T1, X1, e1, st1⟩ := getS2 X0 hx hZ hown (host := "") (Or.inl (hw _ (List.mem_of_getElem? (i := 18) rfl))) Via.refl e0 HF3 (g := (mkF m 7 #[rv a0, iv p1, .unset] [(.int ((p1 + (1024 : Int32)) - (1 : Int32)))])) rfl (hb hby own_d3_7)
  refine ownGo (T' := T1) (f' := (mkF m 10 #[rv a0, iv p1, .unset] [(.int (10 : Int32)), (.int ((p1 + (1024 : Int32)) - (1 : Int32)))])) (st1) ?_
  refine ow_iushr (q := 11) X1 hx _ (hb hby own_d3_10) rfl rfl ?_
  generalize hv_v2 : ((((p1 + (1024 : Int32)) - (1 : Int32)).toUInt32 >>> ((10 : Int32) &&& 31).toUInt32).toInt32) = v2
  refine ow_istoreN (q := 12) X1 hx (L' := #[rv a0, iv p1, iv v2]) (hb hby own_d3_11) rfl rfl ?_
  have hs3 := (hv_v2.symm.trans hch)
  subst hs3
  refine ow_iloadN (q := 13) X1 hx (hb hby own_d3_12) rfl rfl ?_
  refine ow_aloadN (q := 14) X1 hx (hb hby own_d3_13) rfl rfl rfl ?_
  obtain ⟨T4, X4, e4, st4⟩ := getF X1 hx hZ hown (host := "") (Or.inl (hw _ (List.mem_of_getElem? (i := 11) rfl))) Via.refl e1 HF1 (g := (mkF m 14 #[rv a0, iv p1, iv (1 : Int32)] [(.ref a0), (.int (1 : Int32))])) rfl rfl (hb hby own_d3_14)
  refine ownGo (T' := T4) (f' := (mkF m 17 #[rv a0, iv p1, iv (1 : Int32)] [(.ref ar), (.int (1 : Int32))])) (st4) ?_
  refine ownGo (T' := T4) (f' := (mkF m 18 #[rv a0, iv p1, iv (1 : Int32)] [(.int (1 : Int32)), (.int (1 : Int32))])) (ownLenI HF2 X4 hx hZ e4 (z := (1 : Int32)) (by decide) (g := (mkF m 17 #[rv a0, iv p1, iv (1 : Int32)] [(.ref ar), (.int (1 : Int32))])) rfl rfl (hb hby own_d3_17)) ?_
  refine ow_icmpYes (q := 33) X4 hx (hb hby own_d3_18) (Jvm.Free.XT.ii_le_t (by decide)) (by decide) (by decide) ?_
  refine ownRetV X4 hx Bd.returns (hb hby own_d3_33) hlk (by decide) (by decide) ?_
  rw [e4]
  exact ⟨rfl, N0, rfl⟩
theorem own_d7_0 : decode prog_5_method_3_code 0 = .ok (.aload_n 0, 1) := by decide +kernel
theorem own_d7_1 : decode prog_5_method_3_code 1 = .ok (.getfield 7, 3) := by decide +kernel
theorem own_d7_4 : decode prog_5_method_3_code 4 = .ok (.iload_n 1, 1) := by decide +kernel
theorem own_d7_5 : decode prog_5_method_3_code 5 = .ok (.getstatic 13, 3) := by decide +kernel
theorem own_d7_8 : decode prog_5_method_3_code 8 = .ok (.iushr, 1) := by decide +kernel
theorem own_d7_9 : decode prog_5_method_3_code 9 = .ok (.iconst 1, 1) := by decide +kernel
theorem own_d7_10 : decode prog_5_method_3_code 10 = .ok (.bastore, 1) := by decide +kernel
theorem own_d7_11 : decode prog_5_method_3_code 11 = .ok (.return_, 1) := by decide +kernel
theorem own_ef7_mark_1 (m : MethodId) (a0 : Addr) (p1 : Int32) : entryFrame m #[(.ref a0), (.int p1)] 2 = mkF m 0 #[rv a0, iv p1] [] := by first | (simp [entryFrame, mkF, argsToLocals, Value.category]; done) | rfl
def Q_mark_1 (Z : State) (a0 : Addr) (p1 : Int32) (ar : Addr) (g : Nat → Int32) (h0 : Heap) (n0 : Nat) (v : Option Value) (h : Heap) (L : List Loc) : Prop := v = none ∧ Fr n0 L ∧ Keep h0 h [ar] ∧ ownAI Z h ar .boolean 1 (ownUpd g (own_ix p1) (1 : Int32))
set_option maxRecDepth 65536 in
set_option maxHeartbeats 40000000 in
theorem rm_mark_1 (l : Launch) (Z : State) (av0 : Array Value) (hw : ∀ d ∈ tables_1, d.before av0 Z = true) (ws : List Jvm.Cond) (a0 : Addr) (p1 : Int32) (ar : Addr) (g : Nat → Int32) (h0 : Heap) (n0 : Nat) (Z0 : n0 ≤ h0.size) (HF0 : Fld Z h0 a0 "com/example/swarm_tally/swarmtally/ChunkMarks" "changed" "[Z" (.ref ar)) (HF1 : ownAI Z h0 ar .boolean 1 g) (HF2 : Sta Z h0 "com/example/swarm_tally/swarmtally/ChunkMarks" "CHUNK_SHIFT" "I" (.int (10 : Int32))) (G_ar : n0 ≤ ar) (hin : ownIn ((p1.toUInt32 >>> ((10 : Int32) &&& 31).toUInt32).toInt32) 1) (hne : a0 ≠ ar) :
    MetFree l (⟨"com/example/swarm_tally/swarmtally/ChunkMarks", "mark", "(I)V"⟩ : MethodName) (head1 (Jvm.Cond.code (⟨"com/example/swarm_tally/swarmtally/ChunkMarks", "mark", "(I)V"⟩ : MethodName) prog_5_method_3_code 2 none :: ws) ({ frames := 0, cells := 0, slots := 0, locals := 0 } : Room)) (fun a U => a = #[(.ref a0), (.int p1)] ∧ Z.Warmed39 U.vm ∧ U.heap = h0) (fun _ _ _ _ _ => True) (fun _ U o U' => ∃ v L, o = .returned v ∧ (Q_mark_1 Z a0 p1 ar g h0 n0) v U'.heap L ∧ FrameEnd U o U' L ({ frames := 0, cells := 0, slots := 0, locals := 0 } : Room).cells ({ frames := 0, cells := 0, slots := 0, locals := 0 } : Room).slots) := by
  refine MetFree.of_bodySF (plainFor_of_name own_pn_ChunkMarks) hisR ?_
  intro p e s m args below meth c s₁ Bd hml0 hP hK
  obtain ⟨rfl, hZ, hh⟩ := hP
  have hx := Bd.exec
  have hby := Bd.bytes
  have hml : c.maxLocals = 2 := hml0
  have hown : s.vm.findClass "com/example/swarm_tally/swarmtally/ChunkMarks" = some m.cls := findClass_of_methodNamed Bd.named
  have hnm := (name_of_methodNamed Bd.named Bd.method).1
  have hlk : meth.locks = false := BodyLoose.notSynchronized Bd
  have X0 : Stand p l e ({ frames := 0, cells := 0, slots := 0, locals := 0 } : Room) s m #[(.ref a0), (.int p1)] below meth c s₁ [] 0 0 := Stand.of_body Bd
  have e0 : s₁.heap = h0 := by rw [← hh, Bd.state]; rfl
  have N0 := Fr.nil n0
  have K0 : Keep h0 h0 [ar] := Keep.refl _ _
  show ownEnds p e below s (Q_mark_1 Z a0 p1 ar g h0 n0) ({ frames := 0, cells := 0, slots := 0, locals := 0 } : Room).cells ({ frames := 0, cells := 0, slots := 0, locals := 0 } : Room).slots s₁ (entryFrame m #[(.ref a0), (.int p1)] 2)
  refine ownCast (own_ef7_mark_1 m a0 p1) ?_
  refine ow_aloadN (q := 1) X0 hx (hb hby own_d7_0) rfl rfl rfl ?_
  obtain ⟨T1, X1, e1, st1⟩ := getF X0 hx hZ hown (host := "") (Or.inl (hw _ (List.mem_of_getElem? (i := 11) rfl))) Via.refl e0 HF0 (g := (mkF m 1 #[rv a0, iv p1] [(.ref a0)])) rfl rfl (hb hby own_d7_1)
  refine ownGo (T' := T1) (f' := (mkF m 4 #[rv a0, iv p1] [(.ref ar)])) (st1) ?_
  refine ow_iloadN (q := 5) X1 hx (hb hby own_d7_4) rfl rfl ?_
  obtain ⟨T2, X2, e2, st2⟩ := getS2 X1 hx hZ hown (host := "") (Or.inl (hw _ (List.mem_of_getElem? (i := 18) rfl))) Via.refl e1 HF2 (g := (mkF m 5 #[rv a0, iv p1] [(.int p1), (.ref ar)])) rfl (hb hby own_d7_5)
  refine ownGo (T' := T2) (f' := (mkF m 8 #[rv a0, iv p1] [(.int (10 : Int32)), (.int p1), (.ref ar)])) (st2) ?_
  refine ow_iushr (q := 9) X2 hx _ (hb hby own_d7_8) rfl rfl ?_
  refine ow_iconst (q := 10) X2 hx (1 : Int32) (hb hby own_d7_9) rfl rfl ?_
  generalize hv_v3 : ((p1.toUInt32 >>> ((10 : Int32) &&& 31).toUInt32).toInt32) = v3
  obtain ⟨T4, h4, X4, e4, W4, F4s, st4⟩ := ownZastore HF1 X2 hx hZ e2 (j := v3) (by rw [← hv_v3]; exact hin) (g := (mkF m 10 #[rv a0, iv p1] [(.int (1 : Int32)), (.int v3), (.ref ar)])) rfl rfl (hb hby own_d7_10)
  generalize hg_gf4 : (ownUpd g v3.toNatClampNeg (1 : Int32)) = gf4 at F4s
  have N4 := Fr.snoc X4 N0 G_ar
  have K4 : Keep h0 h4 [ar] := K0.wr W4 (Or.inl (List.mem_of_getElem? (i := 0) rfl))
  have F5 : Fld Z h4 a0 "com/example/swarm_tally/swarmtally/ChunkMarks" "changed" "[Z" (.ref ar) := HF0.other W4 (Or.inl hne)
  have F6 : Sta Z h4 "com/example/swarm_tally/swarmtally/ChunkMarks" "CHUNK_SHIFT" "I" (.int (10 : Int32)) := HF2.wr W4
  refine ownGo (T' := T4) (f' := (mkF m 11 #[rv a0, iv p1] [])) (st4) ?_
  refine ownRetV X4 hx Bd.returns (hb hby own_d7_11) hlk (by decide) (by decide) ?_
  subst hg_gf4 hv_v3
  rw [e4]
  exact ⟨rfl, N4, K4, F4s⟩
theorem own_d4_0 : decode prog_5_method_4_code 0 = .ok (.iload_n 1, 1) := by decide +kernel
theorem own_d4_1 : decode prog_5_method_4_code 1 = .ok (.istore_n 2, 1) := by decide +kernel
theorem own_d4_2 : decode prog_5_method_4_code 2 = .ok (.iload_n 2, 1) := by decide +kernel
theorem own_d4_3 : decode prog_5_method_4_code 3 = .ok (.aload_n 0, 1) := by decide +kernel
theorem own_d4_4 : decode prog_5_method_4_code 4 = .ok (.getfield 7, 3) := by decide +kernel
theorem own_d4_7 : decode prog_5_method_4_code 7 = .ok (.arraylength, 1) := by decide +kernel
theorem own_d4_8 : decode prog_5_method_4_code 8 = .ok (.if_icmp .ge 20, 3) := by decide +kernel
theorem own_d4_28 : decode prog_5_method_4_code 28 = .ok (.iconst (-1), 1) := by decide +kernel
theorem own_d4_29 : decode prog_5_method_4_code 29 = .ok (.ireturn, 1) := by decide +kernel
theorem own_d4_11 : decode prog_5_method_4_code 11 = .ok (.aload_n 0, 1) := by decide +kernel
theorem own_d4_12 : decode prog_5_method_4_code 12 = .ok (.getfield 7, 3) := by decide +kernel
theorem own_d4_15 : decode prog_5_method_4_code 15 = .ok (.iload_n 2, 1) := by decide +kernel
theorem own_d4_16 : decode prog_5_method_4_code 16 = .ok (.baload, 1) := by decide +kernel
theorem own_d4_17 : decode prog_5_method_4_code 17 = .ok (.ifCond .eq 5, 3) := by decide +kernel
theorem own_d4_22 : decode prog_5_method_4_code 22 = .ok (.iinc 2 1, 3) := by decide +kernel
theorem own_d4_25 : decode prog_5_method_4_code 25 = .ok (.goto (-23), 3) := by decide +kernel
theorem own_d4_20 : decode prog_5_method_4_code 20 = .ok (.iload_n 2, 1) := by decide +kernel
theorem own_d4_21 : decode prog_5_method_4_code 21 = .ok (.ireturn, 1) := by decide +kernel
theorem own_ef4_next_1 (m : MethodId) (a0 : Addr) (p1 : Int32) : entryFrame m #[(.ref a0), (.int p1)] 3 = mkF m 0 #[rv a0, iv p1, .unset] [] := by first | (simp [entryFrame, mkF, argsToLocals, Value.category]; done) | rfl
def Q_next_1 (Z : State) (a0 : Addr) (p1 : Int32) (ar : Addr) (g : Nat → Int32) (h0 : Heap) (n0 : Nat) (v : Option Value) (h : Heap) (L : List Loc) : Prop := v = some (.int (own_next g 1 p1)) ∧ Fr n0 L ∧ h = h0
set_option maxRecDepth 65536 in
set_option maxHeartbeats 40000000 in
theorem rm_next_1 (l : Launch) (Z : State) (av0 : Array Value) (hw : ∀ d ∈ tables_1, d.before av0 Z = true) (ws : List Jvm.Cond) (a0 : Addr) (p1 : Int32) (ar : Addr) (g : Nat → Int32) (h0 : Heap) (n0 : Nat) (Z0 : n0 ≤ h0.size) (HF0 : Fld Z h0 a0 "com/example/swarm_tally/swarmtally/ChunkMarks" "changed" "[Z" (.ref ar)) (HF1 : ownAI Z h0 ar .boolean 1 g) (hp : 0 ≤ p1.toInt) :
    MetFree l (⟨"com/example/swarm_tally/swarmtally/ChunkMarks", "next", "(I)I"⟩ : MethodName) (head1 (Jvm.Cond.code (⟨"com/example/swarm_tally/swarmtally/ChunkMarks", "next", "(I)I"⟩ : MethodName) prog_5_method_4_code 3 (some .int) :: ws) ({ frames := 0, cells := 0, slots := 0, locals := 0 } : Room)) (fun a U => a = #[(.ref a0), (.int p1)] ∧ Z.Warmed39 U.vm ∧ U.heap = h0) (fun _ _ _ _ _ => True) (fun _ U o U' => ∃ v L, o = .returned v ∧ (Q_next_1 Z a0 p1 ar g h0 n0) v U'.heap L ∧ FrameEnd U o U' L ({ frames := 0, cells := 0, slots := 0, locals := 0 } : Room).cells ({ frames := 0, cells := 0, slots := 0, locals := 0 } : Room).slots) := by
  refine MetFree.of_bodySF (plainFor_of_name own_pn_ChunkMarks) hisR ?_
  intro p e s m args below meth c s₁ Bd hml0 hP hK
  obtain ⟨rfl, hZ, hh⟩ := hP
  have hx := Bd.exec
  have hby := Bd.bytes
  have hml : c.maxLocals = 3 := hml0
  have hown : s.vm.findClass "com/example/swarm_tally/swarmtally/ChunkMarks" = some m.cls := findClass_of_methodNamed Bd.named
  have hnm := (name_of_methodNamed Bd.named Bd.method).1
  have hlk : meth.locks = false := BodyLoose.notSynchronized Bd
  have X0 : Stand p l e ({ frames := 0, cells := 0, slots := 0, locals := 0 } : Room) s m #[(.ref a0), (.int p1)] below meth c s₁ [] 0 0 := Stand.of_body Bd
  have e0 : s₁.heap = h0 := by rw [← hh, Bd.state]; rfl
  have N0 := Fr.nil n0
  have K0 : Keep h0 h0 [] := Keep.refl _ _
  show ownEnds p e below s (Q_next_1 Z a0 p1 ar g h0 n0) ({ frames := 0, cells := 0, slots := 0, locals := 0 } : Room).cells ({ frames := 0, cells := 0, slots := 0, locals := 0 } : Room).slots s₁ (entryFrame m #[(.ref a0), (.int p1)] 3)
  refine ownCast (own_ef4_next_1 m a0 p1) ?_
  refine ow_iloadN (q := 1) X0 hx (hb hby own_d4_0) rfl rfl ?_
  refine ow_istoreN (q := 2) X0 hx (L' := #[rv a0, iv p1, iv p1]) (hb hby own_d4_1) rfl rfl ?_
  have nx1 : own_next g 1 p1 = own_nx g 1 0 → ∀ (Tc1 : State) (lc1 : List Loc), Stand p l e ({ frames := 0, cells := 0, slots := 0, locals := 0 } : Room) s m #[(.ref a0), (.int p1)] below meth c Tc1 lc1 0 0 → Tc1.heap = h0 → Fr n0 lc1 → ownEnds p e below s (Q_next_1 Z a0 p1 ar g h0 n0) ({ frames := 0, cells := 0, slots := 0, locals := 0 } : Room).cells ({ frames := 0, cells := 0, slots := 0, locals := 0 } : Room).slots Tc1 (mkF m 2 #[rv a0, iv p1, iv (1 : Int32)] []) := by
    intro hn1 Tc1 lc1 Xc1 ec1 Nc1
    refine ow_iloadN (q := 3) Xc1 hx (hb hby own_d4_2) rfl rfl ?_
    refine ow_aloadN (q := 4) Xc1 hx (hb hby own_d4_3) rfl rfl rfl ?_
    obtain ⟨T2, X2, e2, st2⟩ := getF Xc1 hx hZ hown (host := "") (Or.inl (hw _ (List.mem_of_getElem? (i := 11) rfl))) Via.refl ec1 HF0 (g := (mkF m 4 #[rv a0, iv p1, iv (1 : Int32)] [(.ref a0), (.int (1 : Int32))])) rfl rfl (hb hby own_d4_4)
    refine ownGo (T' := T2) (f' := (mkF m 7 #[rv a0, iv p1, iv (1 : Int32)] [(.ref ar), (.int (1 : Int32))])) (st2) ?_
    refine ownGo (T' := T2) (f' := (mkF m 8 #[rv a0, iv p1, iv (1 : Int32)] [(.int (1 : Int32)), (.int (1 : Int32))])) (ownLenI HF1 X2 hx hZ e2 (z := (1 : Int32)) (by decide) (g := (mkF m 7 #[rv a0, iv p1, iv (1 : Int32)] [(.ref ar), (.int (1 : Int32))])) rfl rfl (hb hby own_d4_7)) ?_
    refine ow_icmpYes (q := 28) X2 hx (hb hby own_d4_8) (Jvm.Free.XT.ii_ge_t (by decide)) (by decide) (by decide) ?_
    refine ow_iconst (q := 29) X2 hx (-1 : Int32) (hb hby own_d4_28) rfl rfl ?_
    refine ownRetI X2 hx Bd.returns (hb hby own_d4_29) hlk (by decide) (by decide) ?_
    rw [e2]
    refine ⟨congrArg (fun q => some (Value.int q)) ?_, Nc1, rfl⟩
    rw [hn1]
    rfl
  have nx0 : own_next g 1 p1 = own_nx g 0 1 → ∀ (Tc3 : State) (lc3 : List Loc), Stand p l e ({ frames := 0, cells := 0, slots := 0, locals := 0 } : Room) s m #[(.ref a0), (.int p1)] below meth c Tc3 lc3 0 0 → Tc3.heap = h0 → Fr n0 lc3 → ownEnds p e below s (Q_next_1 Z a0 p1 ar g h0 n0) ({ frames := 0, cells := 0, slots := 0, locals := 0 } : Room).cells ({ frames := 0, cells := 0, slots := 0, locals := 0 } : Room).slots Tc3 (mkF m 2 #[rv a0, iv p1, iv (0 : Int32)] []) := by
    intro hn0 Tc3 lc3 Xc3 ec3 Nc3
    refine ow_iloadN (q := 3) Xc3 hx (hb hby own_d4_2) rfl rfl ?_
    refine ow_aloadN (q := 4) Xc3 hx (hb hby own_d4_3) rfl rfl rfl ?_
    obtain ⟨T4, X4, e4, st4⟩ := getF Xc3 hx hZ hown (host := "") (Or.inl (hw _ (List.mem_of_getElem? (i := 11) rfl))) Via.refl ec3 HF0 (g := (mkF m 4 #[rv a0, iv p1, iv (0 : Int32)] [(.ref a0), (.int (0 : Int32))])) rfl rfl (hb hby own_d4_4)
    refine ownGo (T' := T4) (f' := (mkF m 7 #[rv a0, iv p1, iv (0 : Int32)] [(.ref ar), (.int (0 : Int32))])) (st4) ?_
    refine ownGo (T' := T4) (f' := (mkF m 8 #[rv a0, iv p1, iv (0 : Int32)] [(.int (1 : Int32)), (.int (0 : Int32))])) (ownLenI HF1 X4 hx hZ e4 (z := (1 : Int32)) (by decide) (g := (mkF m 7 #[rv a0, iv p1, iv (0 : Int32)] [(.ref ar), (.int (0 : Int32))])) rfl rfl (hb hby own_d4_7)) ?_
    refine ow_icmpNo (q := 11) X4 hx (hb hby own_d4_8) rfl (Jvm.Free.XT.ii_ge_f (by decide)) ?_
    refine ow_aloadN (q := 12) X4 hx (hb hby own_d4_11) rfl rfl rfl ?_
    obtain ⟨T5, X5, e5, st5⟩ := getF X4 hx hZ hown (host := "") (Or.inl (hw _ (List.mem_of_getElem? (i := 11) rfl))) Via.refl e4 HF0 (g := (mkF m 12 #[rv a0, iv p1, iv (0 : Int32)] [(.ref a0)])) rfl rfl (hb hby own_d4_12)
    refine ownGo (T' := T5) (f' := (mkF m 15 #[rv a0, iv p1, iv (0 : Int32)] [(.ref ar)])) (st5) ?_
    refine ow_iloadN (q := 16) X5 hx (hb hby own_d4_15) rfl rfl ?_
    refine ownGo (T' := T5) (f' := (mkF m 17 #[rv a0, iv p1, iv (0 : Int32)] [(.int (g 0))])) (ownZaload HF1 X5 hx hZ e5 (j := (0 : Int32)) (by unfold ownIn; decide) (g := (mkF m 16 #[rv a0, iv p1, iv (0 : Int32)] [(.int (0 : Int32)), (.ref ar)])) rfl rfl (hb hby own_d4_16)) ?_
    generalize hv_v6 : (g 0) = v6
    by_cases hc17_7 : v6 = (0 : Int32)
    · refine ow_ifYes (q := 22) X5 hx (hb hby own_d4_17) (Jvm.Free.XT.i0_eq_t hc17_7) (by decide) (by decide) ?_
      refine ow_iinc (q := 25) X5 hx (L' := #[rv a0, iv p1, iv (1 : Int32)]) (hb hby own_d4_22) rfl rfl rfl ?_
      refine ow_goto (q := 2) X5 hx (hb hby own_d4_25) (by decide) (by decide) ?_
      exact nx1 (by rw [hn0]; show (if g 0 = (0 : Int32) then own_nx g 1 0 else (0 : Int32)) = _; rw [if_pos (hv_v6.trans hc17_7)]) _ _ X5 e5 Nc3
    · refine ow_ifNo (q := 20) X5 hx (hb hby own_d4_17) rfl (Jvm.Free.XT.i0_eq_f hc17_7) ?_
      refine ow_iloadN (q := 21) X5 hx (hb hby own_d4_20) rfl rfl ?_
      refine ownRetI X5 hx Bd.returns (hb hby own_d4_21) hlk (by decide) (by decide) ?_
      subst hv_v6
      rw [e5]
      refine ⟨congrArg (fun q => some (Value.int q)) ?_, Nc3, rfl⟩
      rw [hn0]
      show _ = (if g 0 = (0 : Int32) then own_nx g 1 0 else (0 : Int32))
      rw [if_neg hc17_7]
  rcases own_cases1 hp with hge | hs0
  · refine ow_iloadN (q := 3) X0 hx (hb hby own_d4_2) rfl rfl ?_
    refine ow_aloadN (q := 4) X0 hx (hb hby own_d4_3) rfl rfl rfl ?_
    obtain ⟨T8, X8, e8, st8⟩ := getF X0 hx hZ hown (host := "") (Or.inl (hw _ (List.mem_of_getElem? (i := 11) rfl))) Via.refl e0 HF0 (g := (mkF m 4 #[rv a0, iv p1, iv p1] [(.ref a0), (.int p1)])) rfl rfl (hb hby own_d4_4)
    refine ownGo (T' := T8) (f' := (mkF m 7 #[rv a0, iv p1, iv p1] [(.ref ar), (.int p1)])) (st8) ?_
    refine ownGo (T' := T8) (f' := (mkF m 8 #[rv a0, iv p1, iv p1] [(.int (1 : Int32)), (.int p1)])) (ownLenI HF1 X8 hx hZ e8 (z := (1 : Int32)) (by decide) (g := (mkF m 7 #[rv a0, iv p1, iv p1] [(.ref ar), (.int p1)])) rfl rfl (hb hby own_d4_7)) ?_
    refine ow_icmpYes (q := 28) X8 hx (hb hby own_d4_8) (Jvm.Free.XT.ii_ge_t hge) (by decide) (by decide) ?_
    refine ow_iconst (q := 29) X8 hx (-1 : Int32) (hb hby own_d4_28) rfl rfl ?_
    refine ownRetI X8 hx Bd.returns (hb hby own_d4_29) hlk (by decide) (by decide) ?_
    rw [e8]
    refine ⟨congrArg (fun q => some (Value.int q)) ?_, N0, rfl⟩
    exact (own_next_ge hge (by decide)).symm
  · subst hs0
    exact nx0 rfl _ _ X0 e0 N0
theorem own_d6_0 : decode jdk_29_method_69_code 0 = .ok (.iload_n 0, 1) := by decide +kernel
theorem own_d6_1 : decode jdk_29_method_69_code 1 = .ok (.iload_n 1, 1) := by decide +kernel
theorem own_d6_2 : decode jdk_29_method_69_code 2 = .ok (.if_icmp .gt 7, 3) := by decide +kernel
theorem own_d6_5 : decode jdk_29_method_69_code 5 = .ok (.iload_n 0, 1) := by decide +kernel
theorem own_d6_6 : decode jdk_29_method_69_code 6 = .ok (.goto 4, 3) := by decide +kernel
theorem own_d6_10 : decode jdk_29_method_69_code 10 = .ok (.ireturn, 1) := by decide +kernel
theorem own_ef6_min_2 (m : MethodId)  : entryFrame m #[(.int (1 : Int32)), (.int (2 : Int32))] 2 = mkF m 0 #[iv (1 : Int32), iv (2 : Int32)] [] := by first | (simp [entryFrame, mkF, argsToLocals, Value.category]; done) | rfl
def Q_min_2 (Z : State)  (h0 : Heap) (n0 : Nat) (v : Option Value) (h : Heap) (L : List Loc) : Prop := v = some (.int (1 : Int32)) ∧ Fr n0 L ∧ h = h0
set_option maxRecDepth 65536 in
set_option maxHeartbeats 40000000 in
theorem rm_min_2 (l : Launch) (Z : State) (av0 : Array Value) (hw : ∀ d ∈ tables_1, d.before av0 Z = true) (ws : List Jvm.Cond)  (h0 : Heap) (n0 : Nat) (Z0 : n0 ≤ h0.size) :
    MetFree l (⟨"java/lang/Math", "min", "(II)I"⟩ : MethodName) (head1 (Jvm.Cond.code (⟨"java/lang/Math", "min", "(II)I"⟩ : MethodName) jdk_29_method_69_code 2 (some .int) :: ws) ({ frames := 0, cells := 0, slots := 0, locals := 0 } : Room)) (fun a U => a = #[(.int (1 : Int32)), (.int (2 : Int32))] ∧ Z.Warmed39 U.vm ∧ U.heap = h0) (fun _ _ _ _ _ => True) (fun _ U o U' => ∃ v L, o = .returned v ∧ (Q_min_2 Z  h0 n0) v U'.heap L ∧ FrameEnd U o U' L ({ frames := 0, cells := 0, slots := 0, locals := 0 } : Room).cells ({ frames := 0, cells := 0, slots := 0, locals := 0 } : Room).slots) := by
  refine MetFree.of_bodySF (Jvm.Free.JP.mathPlain rfl (by decide +kernel)) hisR ?_
  intro p e s m args below meth c s₁ Bd hml0 hP hK
  obtain ⟨rfl, hZ, hh⟩ := hP
  have hx := Bd.exec
  have hby := Bd.bytes
  have hml : c.maxLocals = 2 := hml0
  have hown : s.vm.findClass "java/lang/Math" = some m.cls := findClass_of_methodNamed Bd.named
  have hnm := (name_of_methodNamed Bd.named Bd.method).1
  have hlk : meth.locks = false := BodyLoose.notSynchronized Bd
  have X0 : Stand p l e ({ frames := 0, cells := 0, slots := 0, locals := 0 } : Room) s m #[(.int (1 : Int32)), (.int (2 : Int32))] below meth c s₁ [] 0 0 := Stand.of_body Bd
  have e0 : s₁.heap = h0 := by rw [← hh, Bd.state]; rfl
  have N0 := Fr.nil n0
  have K0 : Keep h0 h0 [] := Keep.refl _ _
  show ownEnds p e below s (Q_min_2 Z  h0 n0) ({ frames := 0, cells := 0, slots := 0, locals := 0 } : Room).cells ({ frames := 0, cells := 0, slots := 0, locals := 0 } : Room).slots s₁ (entryFrame m #[(.int (1 : Int32)), (.int (2 : Int32))] 2)
  refine ownCast (own_ef6_min_2 m ) ?_
  refine ow_iloadN (q := 1) X0 hx (hb hby own_d6_0) rfl rfl ?_
  refine ow_iloadN (q := 2) X0 hx (hb hby own_d6_1) rfl rfl ?_
  refine ow_icmpNo (q := 5) X0 hx (hb hby own_d6_2) rfl (Jvm.Free.XT.ii_gt_f (by decide)) ?_
  refine ow_iloadN (q := 6) X0 hx (hb hby own_d6_5) rfl rfl ?_
  refine ow_goto (q := 10) X0 hx (hb hby own_d6_6) (by decide) (by decide) ?_
  refine ownRetI X0 hx Bd.returns (hb hby own_d6_10) hlk (by decide) (by decide) ?_
  rw [e0]
  exact ⟨rfl, N0, rfl⟩
theorem own_pn_Arrays : plainName "java/util/Arrays" = true := by first | (simp [plainName, overriddenIn]; done) | decide +kernel
theorem own_d5_0 : decode jdk_65_method_128_code 0 = .ok (.iload_n 1, 1) := by decide +kernel
theorem own_d5_1 : decode jdk_65_method_128_code 1 = .ok (.aload_n 0, 1) := by decide +kernel
theorem own_d5_2 : decode jdk_65_method_128_code 2 = .ok (.arraylength, 1) := by decide +kernel
theorem own_d5_3 : decode jdk_65_method_128_code 3 = .ok (.if_icmp .ne 11, 3) := by decide +kernel
theorem own_d5_14 : decode jdk_65_method_128_code 14 = .ok (.iload_n 1, 1) := by decide +kernel
theorem own_d5_15 : decode jdk_65_method_128_code 15 = .ok (.newarray .boolean, 2) := by decide +kernel
theorem own_d5_17 : decode jdk_65_method_128_code 17 = .ok (.astore_n 2, 1) := by decide +kernel
theorem own_d5_18 : decode jdk_65_method_128_code 18 = .ok (.aload_n 0, 1) := by decide +kernel
theorem own_d5_19 : decode jdk_65_method_128_code 19 = .ok (.iconst 0, 1) := by decide +kernel
theorem own_d5_20 : decode jdk_65_method_128_code 20 = .ok (.aload_n 2, 1) := by decide +kernel
theorem own_d5_21 : decode jdk_65_method_128_code 21 = .ok (.iconst 0, 1) := by decide +kernel
theorem own_d5_22 : decode jdk_65_method_128_code 22 = .ok (.aload_n 0, 1) := by decide +kernel
theorem own_d5_23 : decode jdk_65_method_128_code 23 = .ok (.arraylength, 1) := by decide +kernel
theorem own_d5_24 : decode jdk_65_method_128_code 24 = .ok (.iload_n 1, 1) := by decide +kernel
theorem own_d5_25 : decode jdk_65_method_128_code 25 = .ok (.invokestatic 304, 3) := by decide +kernel
theorem own_pd0 : parseMethodDescriptor "(II)I" = some ⟨[.int, .int], some .int⟩ := by decide +kernel
theorem own_d5_28 : decode jdk_65_method_128_code 28 = .ok (.invokestatic 150, 3) := by decide +kernel
theorem own_d5_31 : decode jdk_65_method_128_code 31 = .ok (.aload_n 2, 1) := by decide +kernel
theorem own_d5_32 : decode jdk_65_method_128_code 32 = .ok (.areturn, 1) := by decide +kernel
theorem own_ef5_copyOf_2 (m : MethodId) (a0 : Addr) : entryFrame m #[(.ref a0), (.int (2 : Int32))] 3 = mkF m 0 #[rv a0, iv (2 : Int32), .unset] [] := by first | (simp [entryFrame, mkF, argsToLocals, Value.category]; done) | rfl
def Q_copyOf_2 (Z : State) (a0 : Addr) (h0 : Heap) (n0 : Nat) (v : Option Value) (h : Heap) (L : List Loc) : Prop := ∃ (r : Addr), v = some (.ref r) ∧ Fr n0 L ∧ Keep h0 h [] ∧ h0.size ≤ r ∧ ownAI Z h r .boolean 2 (fun _ => (0 : Int32))
set_option maxRecDepth 65536 in
set_option maxHeartbeats 40000000 in
theorem rm_copyOf_2 (l : Launch) (Z : State) (av0 : Array Value) (hw : ∀ d ∈ tables_1, d.before av0 Z = true) (ws : List Jvm.Cond) (a0 : Addr) (h0 : Heap) (n0 : Nat) (Z0 : n0 ≤ h0.size) (HF0 : ownAI Z h0 a0 .boolean 1 (fun _ => (0 : Int32))) :
    MetFree l (⟨"java/util/Arrays", "copyOf", "([ZI)[Z"⟩ : MethodName) (head1 (Jvm.Cond.code (⟨"java/util/Arrays", "copyOf", "([ZI)[Z"⟩ : MethodName) jdk_65_method_128_code 3 (some (.array .boolean)) :: ws) ({ frames := 1, cells := 1, slots := 2, locals := 18 } : Room)) (fun a U => a = #[(.ref a0), (.int (2 : Int32))] ∧ Z.Warmed39 U.vm ∧ U.heap = h0) (fun _ _ _ _ _ => True) (fun _ U o U' => ∃ v L, o = .returned v ∧ (Q_copyOf_2 Z a0 h0 n0) v U'.heap L ∧ FrameEnd U o U' L ({ frames := 1, cells := 1, slots := 2, locals := 18 } : Room).cells ({ frames := 1, cells := 1, slots := 2, locals := 18 } : Room).slots) := by
  refine MetFree.of_bodySF (plainFor_of_name own_pn_Arrays) hisR ?_
  intro p e s m args below meth c s₁ Bd hml0 hP hK
  obtain ⟨rfl, hZ, hh⟩ := hP
  have hx := Bd.exec
  have hby := Bd.bytes
  have hml : c.maxLocals = 3 := hml0
  have hown : s.vm.findClass "java/util/Arrays" = some m.cls := findClass_of_methodNamed Bd.named
  have hnm := (name_of_methodNamed Bd.named Bd.method).1
  have hlk : meth.locks = false := BodyLoose.notSynchronized Bd
  have X0 : Stand p l e ({ frames := 1, cells := 1, slots := 2, locals := 18 } : Room) s m #[(.ref a0), (.int (2 : Int32))] below meth c s₁ [] 0 0 := Stand.of_body Bd
  have e0 : s₁.heap = h0 := by rw [← hh, Bd.state]; rfl
  have N0 := Fr.nil n0
  have K0 : Keep h0 h0 [] := Keep.refl _ _
  show ownEnds p e below s (Q_copyOf_2 Z a0 h0 n0) ({ frames := 1, cells := 1, slots := 2, locals := 18 } : Room).cells ({ frames := 1, cells := 1, slots := 2, locals := 18 } : Room).slots s₁ (entryFrame m #[(.ref a0), (.int (2 : Int32))] 3)
  refine ownCast (own_ef5_copyOf_2 m a0) ?_
  refine ow_iloadN (q := 1) X0 hx (hb hby own_d5_0) rfl rfl ?_
  refine ow_aloadN (q := 2) X0 hx (hb hby own_d5_1) rfl rfl rfl ?_
  refine ownGo (T' := s₁) (f' := (mkF m 3 #[rv a0, iv (2 : Int32), .unset] [(.int (1 : Int32)), (.int (2 : Int32))])) (ownLenI HF0 X0 hx hZ e0 (z := (1 : Int32)) (by decide) (g := (mkF m 2 #[rv a0, iv (2 : Int32), .unset] [(.ref a0), (.int (2 : Int32))])) rfl rfl (hb hby own_d5_2)) ?_
  refine ow_icmpYes (q := 14) X0 hx (hb hby own_d5_3) (Jvm.Free.XT.ii_ne_t (by decide)) (by decide) (by decide) ?_
  refine ow_iloadN (q := 15) X0 hx (hb hby own_d5_14) rfl rfl ?_
  obtain ⟨T1, h1, k1, X1, e1, E1, A1, st1⟩ := newP X0 hx hZ (hw _ (List.mem_of_getElem? (i := 10) rfl)) e0 (g := (mkF m 15 #[rv a0, iv (2 : Int32), .unset] [(.int (2 : Int32))])) rfl (hb hby own_d5_15) rfl (by decide) (cap := 2) (by decide) (by decide) (by decide) (by decide)
  obtain ⟨b1, g1⟩ : ∃ z, z = h0.size := ⟨_, rfl⟩
  rw [← g1] at A1 st1
  have ne_a0_b1 : a0 ≠ b1 := Nat.ne_of_lt (Nat.lt_of_lt_of_le HF0.lt (Nat.le_of_eq g1.symm))
  have sz_b1 : h0.size ≤ b1 := Nat.le_trans K0.1 (Nat.le_of_eq g1.symm)
  have G_b1 : n0 ≤ b1 := Nat.le_trans Z0 sz_b1
  have K1 : Keep h0 h1 [] := K0.ext E1
  have F2 : ownAI Z h1 a0 .boolean 1 (fun _ => (0 : Int32)) := HF0.ext E1
  have F3 : ownAI Z h1 b1 .boolean 2 (fun _ => (0 : Int32)) := ownAI.new A1 (by decide) rfl (by decide)
  refine ownGo (T' := T1) (f' := (mkF m 17 #[rv a0, iv (2 : Int32), .unset] [(.ref b1)])) (st1) ?_
  refine ow_astoreN (q := 18) X1 hx (L' := #[rv a0, iv (2 : Int32), rv b1]) (hb hby own_d5_17) rfl rfl rfl ?_
  refine ow_aloadN (q := 19) X1 hx (hb hby own_d5_18) rfl rfl rfl ?_
  refine ow_iconst (q := 20) X1 hx (0 : Int32) (hb hby own_d5_19) rfl rfl ?_
  refine ow_aloadN (q := 21) X1 hx (hb hby own_d5_20) rfl rfl rfl ?_
  refine ow_iconst (q := 22) X1 hx (0 : Int32) (hb hby own_d5_21) rfl rfl ?_
  refine ow_aloadN (q := 23) X1 hx (hb hby own_d5_22) rfl rfl rfl ?_
  refine ownGo (T' := T1) (f' := (mkF m 24 #[rv a0, iv (2 : Int32), rv b1] [(.int (1 : Int32)), (.int (0 : Int32)), (.ref b1), (.int (0 : Int32)), (.ref a0)])) (ownLenI F2 X1 hx hZ e1 (z := (1 : Int32)) (by decide) (g := (mkF m 23 #[rv a0, iv (2 : Int32), rv b1] [(.ref a0), (.int (0 : Int32)), (.ref b1), (.int (0 : Int32)), (.ref a0)])) rfl rfl (hb hby own_d5_23)) ?_
  refine ow_iloadN (q := 25) X1 hx (hb hby own_d5_24) rfl rfl ?_
  obtain ⟨_, _, ⟨T4, L4, k4, n4⟩, -, X4, ⟨Lc4, hQ4, l4, y4, z4⟩, st4⟩ := Jvm.LawKit.callS X1 hx (y := (⟨"java/lang/Math", "min", "(II)I"⟩ : MethodName)) hown (mvT hZ (hw _ (List.mem_of_getElem? (i := 29) rfl))) (mvT hZ (hw _ (List.mem_of_getElem? (i := 30) rfl))) (mvT hZ (hw _ (List.mem_of_getElem? (i := 31) rfl))) (mvT hZ (hw _ (List.mem_of_getElem? (i := 32) rfl))) (by decide) (backOf (W := 4) (rm_min_2 l Z av0 hw []  h1 n0 (Nat.le_trans Z0 K1.1) ) hZ (hw _ (List.mem_of_getElem? (i := 32) rfl)) (hw _ (List.mem_of_getElem? (i := 31) rfl)) (by decide) (by decide)) (g := (mkF m 25 #[rv a0, iv (2 : Int32), rv b1] [(.int (2 : Int32)), (.int (1 : Int32)), (.int (0 : Int32)), (.ref b1), (.int (0 : Int32)), (.ref a0)])) rfl (by rw [hml]; rfl) (argsL := [(.int (1 : Int32)), (.int (2 : Int32))]) (rest := [(.int (0 : Int32)), (.ref b1), (.int (0 : Int32)), (.ref a0)]) (lenOf own_pd0 rfl) rfl (by show 2 * 0 + _ ≤ _; exact Nat.le_of_eq rfl) (hb hby own_d5_25) (fun _ _ => ⟨rfl, e1, (by decide : 1 + 0 ≤ _), (by decide : 2 + 0 ≤ _)⟩)
  dsimp only [Pt.U, Pt.locs, Pt.cells, Pt.slots] at X4 l4 y4 z4 st4 hQ4
  subst l4 y4 z4
  obtain ⟨rfl, N4q, e4⟩ := hQ4
  have N4 := Fr.app N0 N4q
  refine ownGo (T' := T4) (f' := (mkF m 28 #[rv a0, iv (2 : Int32), rv b1] [(.int (1 : Int32)), (.int (0 : Int32)), (.ref b1), (.int (0 : Int32)), (.ref a0)])) (st4) ?_
  obtain ⟨T5, h5, L5, X5, e5, N5, Kq5, FC5, st5⟩ := ownCopyI (gr := (fun _ => (0 : Int32))) (z := (1 : Int32)) (z' := (2 : Int32)) (nn := (1 : Int32)) F2 F3 (by decide) (by decide) (by decide) (by decide) rfl (fun _ _ => by decide) (fun _ _ => by decide) X4 hx hZ hown (hw _ (List.mem_of_getElem? (i := 33) rfl)) (hw _ (List.mem_of_getElem? (i := 36) rfl)) (hw _ (List.mem_of_getElem? (i := 34) rfl)) (hw _ (List.mem_of_getElem? (i := 35) rfl)) e4 (by decide) (by decide) (by decide) (fun i hi => by split <;> rfl) N4 G_b1 (g := (mkF m 28 #[rv a0, iv (2 : Int32), rv b1] [(.int (1 : Int32)), (.int (0 : Int32)), (.ref b1), (.int (0 : Int32)), (.ref a0)])) rfl (by rw [hml]; rfl) rfl (hb hby own_d5_28) (by decide) (W := 0) (by show 2 * 0 + _ ≤ _; exact Nat.le_of_eq rfl) (by decide)
  have K5 : Keep h0 h5 [] := K1.trans Kq5 (allS (Or.inr sz_b1) all0)
  have F6 : ownAI Z h5 a0 .boolean 1 (fun _ => (0 : Int32)) := F2.keep Kq5 (ninS ne_a0_b1 nin0)
  refine ownGo (T' := T5) (f' := (mkF m 31 #[rv a0, iv (2 : Int32), rv b1] [])) (st5) ?_
  refine ow_aloadN (q := 32) X5 hx (hb hby own_d5_31) rfl rfl rfl ?_
  refine ownRetR X5 hx rfl rfl rfl Bd.returns (hb hby own_d5_32) hlk (by decide) (by decide) ?_
  rw [e5]
  exact ⟨b1, rfl, N5, K5, sz_b1, FC5⟩
theorem own_d3_21 : decode prog_5_method_2_code 21 = .ok (.aload_n 0, 1) := by decide +kernel
theorem own_d3_22 : decode prog_5_method_2_code 22 = .ok (.aload_n 0, 1) := by decide +kernel
theorem own_d3_23 : decode prog_5_method_2_code 23 = .ok (.getfield 7, 3) := by decide +kernel
theorem own_d3_26 : decode prog_5_method_2_code 26 = .ok (.iload_n 2, 1) := by decide +kernel
theorem own_d3_27 : decode prog_5_method_2_code 27 = .ok (.invokestatic 17, 3) := by decide +kernel
theorem own_pd1 : parseMethodDescriptor "([ZI)[Z" = some ⟨[(.array .boolean), .int], some (.array .boolean)⟩ := by decide +kernel
theorem own_d3_30 : decode prog_5_method_2_code 30 = .ok (.putfield 7, 3) := by decide +kernel
theorem own_ef3_grow_2 (m : MethodId) (a0 : Addr) (p1 : Int32) : entryFrame m #[(.ref a0), (.int p1)] 3 = mkF m 0 #[rv a0, iv p1, .unset] [] := by first | (simp [entryFrame, mkF, argsToLocals, Value.category]; done) | rfl
def Q_grow_2 (Z : State) (a0 : Addr) (p1 : Int32) (ar : Addr) (h0 : Heap) (n0 : Nat) (v : Option Value) (h : Heap) (L : List Loc) : Prop := ∃ (ar2 : Addr), v = none ∧ Fr n0 L ∧ Keep h0 h [a0] ∧ h0.size ≤ ar2 ∧ Exa Z h a0 "com/example/swarm_tally/swarmtally/ChunkMarks" ∧ Fld Z h a0 "com/example/swarm_tally/swarmtally/ChunkMarks" "changed" "[Z" (.ref ar2) ∧ ownAI Z h ar2 .boolean 2 (fun _ => (0 : Int32))
set_option maxRecDepth 65536 in
set_option maxHeartbeats 40000000 in
theorem rm_grow_2 (l : Launch) (Z : State) (av0 : Array Value) (hw : ∀ d ∈ tables_1, d.before av0 Z = true) (ws : List Jvm.Cond) (a0 : Addr) (p1 : Int32) (ar : Addr) (h0 : Heap) (n0 : Nat) (Z0 : n0 ≤ h0.size) (HF0 : Exa Z h0 a0 "com/example/swarm_tally/swarmtally/ChunkMarks") (HF1 : Fld Z h0 a0 "com/example/swarm_tally/swarmtally/ChunkMarks" "changed" "[Z" (.ref ar)) (HF2 : ownAI Z h0 ar .boolean 1 (fun _ => (0 : Int32))) (HF3 : Sta Z h0 "com/example/swarm_tally/swarmtally/ChunkMarks" "CHUNK_SHIFT" "I" (.int (10 : Int32))) (G_a0 : n0 ≤ a0) (hch : ((((p1 + (1024 : Int32)) - (1 : Int32)).toUInt32 >>> ((10 : Int32) &&& 31).toUInt32).toInt32) = (2 : Int32)) (hne : a0 ≠ ar) :
    MetFree l (⟨"com/example/swarm_tally/swarmtally/ChunkMarks", "grow", "(I)V"⟩ : MethodName) (head1 (Jvm.Cond.code (⟨"com/example/swarm_tally/swarmtally/ChunkMarks", "grow", "(I)V"⟩ : MethodName) prog_5_method_2_code 3 none :: ws) ({ frames := 2, cells := 1, slots := 2, locals := 33 } : Room)) (fun a U => a = #[(.ref a0), (.int p1)] ∧ Z.Warmed39 U.vm ∧ U.heap = h0) (fun _ _ _ _ _ => True) (fun _ U o U' => ∃ v L, o = .returned v ∧ (Q_grow_2 Z a0 p1 ar h0 n0) v U'.heap L ∧ FrameEnd U o U' L ({ frames := 2, cells := 1, slots := 2, locals := 33 } : Room).cells ({ frames := 2, cells := 1, slots := 2, locals := 33 } : Room).slots) := by
  refine MetFree.of_bodySF (plainFor_of_name own_pn_ChunkMarks) hisR ?_
  intro p e s m args below meth c s₁ Bd hml0 hP hK
  obtain ⟨rfl, hZ, hh⟩ := hP
  have hx := Bd.exec
  have hby := Bd.bytes
  have hml : c.maxLocals = 3 := hml0
  have hown : s.vm.findClass "com/example/swarm_tally/swarmtally/ChunkMarks" = some m.cls := findClass_of_methodNamed Bd.named
  have hnm := (name_of_methodNamed Bd.named Bd.method).1
  have hlk : meth.locks = false := BodyLoose.notSynchronized Bd
  have X0 : Stand p l e ({ frames := 2, cells := 1, slots := 2, locals := 33 } : Room) s m #[(.ref a0), (.int p1)] below meth c s₁ [] 0 0 := Stand.of_body Bd
  have e0 : s₁.heap = h0 := by rw [← hh, Bd.state]; rfl
  have N0 := Fr.nil n0
  have K0 : Keep h0 h0 [a0] := Keep.refl _ _
  show ownEnds p e below s (Q_grow_2 Z a0 p1 ar h0 n0) ({ frames := 2, cells := 1, slots := 2, locals := 33 } : Room).cells ({ frames := 2, cells := 1, slots := 2, locals := 33 } : Room).slots s₁ (entryFrame m #[(.ref a0), (.int p1)] 3)
  refine ownCast (own_ef3_grow_2 m a0 p1) ?_
  refine ow_iloadN (q := 1) X0 hx (hb hby own_d3_0) rfl rfl ?_
  refine ow_sipush (q := 4) X0 hx (1024 : Int32) (hb hby own_d3_1) rfl rfl ?_
  refine ow_iadd (q := 5) X0 hx _ (hb hby own_d3_4) rfl rfl ?_
  refine ow_iconst (q := 6) X0 hx (1 : Int32) (hb hby own_d3_5) rfl rfl ?_
  refine ow_isub (q := 7) X0 hx _ (hb hby own_d3_6) rfl rfl ?_
  obtain ⟨T1, X1, e1, st1⟩ := getS2 X0 hx hZ hown (host := "") (Or.inl (hw _ (List.mem_of_getElem? (i := 18) rfl))) Via.refl e0 HF3 (g := (mkF m 7 #[rv a0, iv p1, .unset] [(.int ((p1 + (1024 : Int32)) - (1 : Int32)))])) rfl (hb hby own_d3_7)
  refine ownGo (T' := T1) (f' := (mkF m 10 #[rv a0, iv p1, .unset] [(.int (10 : Int32)), (.int ((p1 + (1024 : Int32)) - (1 : Int32)))])) (st1) ?_
  refine ow_iushr (q := 11) X1 hx _ (hb hby own_d3_10) rfl rfl ?_
  generalize hv_v2 : ((((p1 + (1024 : Int32)) - (1 : Int32)).toUInt32 >>> ((10 : Int32) &&& 31).toUInt32).toInt32) = v2
  refine ow_istoreN (q := 12) X1 hx (L' := #[rv a0, iv p1, iv v2]) (hb hby own_d3_11) rfl rfl ?_
  have hs3 := (hv_v2.symm.trans hch)
  subst hs3
  refine ow_iloadN (q := 13) X1 hx (hb hby own_d3_12) rfl rfl ?_
  refine ow_aloadN (q := 14) X1 hx (hb hby own_d3_13) rfl rfl rfl ?_
  obtain ⟨T4, X4, e4, st4⟩ := getF X1 hx hZ hown (host := "") (Or.inl (hw _ (List.mem_of_getElem? (i := 11) rfl))) Via.refl e1 HF1 (g := (mkF m 14 #[rv a0, iv p1, iv (2 : Int32)] [(.ref a0), (.int (2 : Int32))])) rfl rfl (hb hby own_d3_14)
  refine ownGo (T' := T4) (f' := (mkF m 17 #[rv a0, iv p1, iv (2 : Int32)] [(.ref ar), (.int (2 : Int32))])) (st4) ?_
  refine ownGo (T' := T4) (f' := (mkF m 18 #[rv a0, iv p1, iv (2 : Int32)] [(.int (1 : Int32)), (.int (2 : Int32))])) (ownLenI HF2 X4 hx hZ e4 (z := (1 : Int32)) (by decide) (g := (mkF m 17 #[rv a0, iv p1, iv (2 : Int32)] [(.ref ar), (.int (2 : Int32))])) rfl rfl (hb hby own_d3_17)) ?_
  refine ow_icmpNo (q := 21) X4 hx (hb hby own_d3_18) rfl (Jvm.Free.XT.ii_le_f (by decide)) ?_
  refine ow_aloadN (q := 22) X4 hx (hb hby own_d3_21) rfl rfl rfl ?_
  refine ow_aloadN (q := 23) X4 hx (hb hby own_d3_22) rfl rfl rfl ?_
  obtain ⟨T5, X5, e5, st5⟩ := getF X4 hx hZ hown (host := "") (Or.inl (hw _ (List.mem_of_getElem? (i := 11) rfl))) Via.refl e4 HF1 (g := (mkF m 23 #[rv a0, iv p1, iv (2 : Int32)] [(.ref a0), (.ref a0)])) rfl rfl (hb hby own_d3_23)
  refine ownGo (T' := T5) (f' := (mkF m 26 #[rv a0, iv p1, iv (2 : Int32)] [(.ref ar), (.ref a0)])) (st5) ?_
  refine ow_iloadN (q := 27) X5 hx (hb hby own_d3_26) rfl rfl ?_
  obtain ⟨_, _, ⟨T6, L6, k6, n6⟩, -, X6, ⟨Lc6, hQ6, l6, y6, z6⟩, st6⟩ := Jvm.LawKit.callS X5 hx (y := (⟨"java/util/Arrays", "copyOf", "([ZI)[Z"⟩ : MethodName)) hown (mvT hZ (hw _ (List.mem_of_getElem? (i := 25) rfl))) (mvT hZ (hw _ (List.mem_of_getElem? (i := 26) rfl))) (mvT hZ (hw _ (List.mem_of_getElem? (i := 27) rfl))) (mvT hZ (hw _ (List.mem_of_getElem? (i := 28) rfl))) (by decide) (backOf (W := 1) (rm_copyOf_2 l Z av0 hw [] ar h0 n0 (Nat.le_trans Z0 K0.1) HF2) hZ (hw _ (List.mem_of_getElem? (i := 28) rfl)) (hw _ (List.mem_of_getElem? (i := 27) rfl)) (by decide) (by decide)) (g := (mkF m 27 #[rv a0, iv p1, iv (2 : Int32)] [(.int (2 : Int32)), (.ref ar), (.ref a0)])) rfl (by rw [hml]; rfl) (argsL := [(.ref ar), (.int (2 : Int32))]) (rest := [(.ref a0)]) (lenOf own_pd1 rfl) rfl (by show 2 * 0 + _ ≤ _; exact Nat.le_of_eq rfl) (hb hby own_d3_27) (fun _ _ => ⟨rfl, e5, (by decide : 0 + 1 ≤ _), (by decide : 0 + 2 ≤ _)⟩)
  dsimp only [Pt.U, Pt.locs, Pt.cells, Pt.slots] at X6 l6 y6 z6 st6 hQ6
  subst l6 y6 z6
  obtain ⟨b6, rfl, N6q, Kq6, sq6_b6, FP6_0⟩ := hQ6
  have N6 := Fr.app N0 N6q
  have K6 : Keep h0 T6.heap [a0] := K0.trans Kq6 all0
  have ne_a0_b6 : a0 ≠ b6 := Nat.ne_of_lt (Nat.lt_of_lt_of_le HF0.lt sq6_b6)
  have ne_ar_b6 : ar ≠ b6 := Nat.ne_of_lt (Nat.lt_of_lt_of_le HF2.lt sq6_b6)
  have sz_b6 : h0.size ≤ b6 := Nat.le_trans K0.1 sq6_b6
  have G_b6 : n0 ≤ b6 := Nat.le_trans Z0 sz_b6
  have F7 : Exa Z T6.heap a0 "com/example/swarm_tally/swarmtally/ChunkMarks" := HF0.keep Kq6
  have F8 : Fld Z T6.heap a0 "com/example/swarm_tally/swarmtally/ChunkMarks" "changed" "[Z" (.ref ar) := HF1.keep Kq6 nin0
  have F9 : ownAI Z T6.heap ar .boolean 1 (fun _ => (0 : Int32)) := HF2.keep Kq6 nin0
  have F10 : Sta Z T6.heap "com/example/swarm_tally/swarmtally/ChunkMarks" "CHUNK_SHIFT" "I" (.int (10 : Int32)) := ownStaKeep HF3 Kq6 all0
  refine ownGo (T' := T6) (f' := (mkF m 30 #[rv a0, iv p1, iv (2 : Int32)] [(.ref b6), (.ref a0)])) (st6) ?_
  obtain ⟨T11, h11, X11, e11, W11, st11⟩ := putF X6 hx hZ hown (host := "") (Or.inl (hw _ (List.mem_of_getElem? (i := 11) rfl))) Via.refl rfl F8 F7 (Or.inl (hw _ (List.mem_of_getElem? (i := 12) rfl))) (hw _ (List.mem_of_getElem? (i := 2) rfl)) (ty := (.array .boolean)) (by decide) rfl rfl (g := (mkF m 30 #[rv a0, iv p1, iv (2 : Int32)] [(.ref b6), (.ref a0)])) rfl rfl (hb hby own_d3_30)
  have N11 := Fr.snoc X11 N6 G_a0
  have K11 : Keep h0 h11 [a0] := K6.wr W11 (Or.inl (List.mem_of_getElem? (i := 0) rfl))
  have F12 : Exa Z h11 a0 "com/example/swarm_tally/swarmtally/ChunkMarks" := F7.wr W11
  have F13 : Fld Z h11 a0 "com/example/swarm_tally/swarmtally/ChunkMarks" "changed" "[Z" (.ref b6) := F8.same W11
  have F14 : ownAI Z h11 ar .boolean 1 (fun _ => (0 : Int32)) := F9.other W11 (Ne.symm hne)
  have F15 : Sta Z h11 "com/example/swarm_tally/swarmtally/ChunkMarks" "CHUNK_SHIFT" "I" (.int (10 : Int32)) := F10.wr W11
  have F16 : ownAI Z h11 b6 .boolean 2 (fun _ => (0 : Int32)) := FP6_0.other W11 (Ne.symm ne_a0_b6)
  refine ownGo (T' := T11) (f' := (mkF m 33 #[rv a0, iv p1, iv (2 : Int32)] [])) (st11) ?_
  refine ownRetV X11 hx Bd.returns (hb hby own_d3_33) hlk (by decide) (by decide) ?_
  rw [e11]
  exact ⟨b6, rfl, N11, K11, sz_b6, F12, F13, F16⟩
theorem own_ef7_mark_2 (m : MethodId) (a0 : Addr) (p1 : Int32) : entryFrame m #[(.ref a0), (.int p1)] 2 = mkF m 0 #[rv a0, iv p1] [] := by first | (simp [entryFrame, mkF, argsToLocals, Value.category]; done) | rfl
def Q_mark_2 (Z : State) (a0 : Addr) (p1 : Int32) (ar : Addr) (g : Nat → Int32) (h0 : Heap) (n0 : Nat) (v : Option Value) (h : Heap) (L : List Loc) : Prop := v = none ∧ Fr n0 L ∧ Keep h0 h [ar] ∧ ownAI Z h ar .boolean 2 (ownUpd g (own_ix p1) (1 : Int32))
set_option maxRecDepth 65536 in
set_option maxHeartbeats 40000000 in
theorem rm_mark_2 (l : Launch) (Z : State) (av0 : Array Value) (hw : ∀ d ∈ tables_1, d.before av0 Z = true) (ws : List Jvm.Cond) (a0 : Addr) (p1 : Int32) (ar : Addr) (g : Nat → Int32) (h0 : Heap) (n0 : Nat) (Z0 : n0 ≤ h0.size) (HF0 : Fld Z h0 a0 "com/example/swarm_tally/swarmtally/ChunkMarks" "changed" "[Z" (.ref ar)) (HF1 : ownAI Z h0 ar .boolean 2 g) (HF2 : Sta Z h0 "com/example/swarm_tally/swarmtally/ChunkMarks" "CHUNK_SHIFT" "I" (.int (10 : Int32))) (G_ar : n0 ≤ ar) (hin : ownIn ((p1.toUInt32 >>> ((10 : Int32) &&& 31).toUInt32).toInt32) 2) (hne : a0 ≠ ar) :
    MetFree l (⟨"com/example/swarm_tally/swarmtally/ChunkMarks", "mark", "(I)V"⟩ : MethodName) (head1 (Jvm.Cond.code (⟨"com/example/swarm_tally/swarmtally/ChunkMarks", "mark", "(I)V"⟩ : MethodName) prog_5_method_3_code 2 none :: ws) ({ frames := 0, cells := 0, slots := 0, locals := 0 } : Room)) (fun a U => a = #[(.ref a0), (.int p1)] ∧ Z.Warmed39 U.vm ∧ U.heap = h0) (fun _ _ _ _ _ => True) (fun _ U o U' => ∃ v L, o = .returned v ∧ (Q_mark_2 Z a0 p1 ar g h0 n0) v U'.heap L ∧ FrameEnd U o U' L ({ frames := 0, cells := 0, slots := 0, locals := 0 } : Room).cells ({ frames := 0, cells := 0, slots := 0, locals := 0 } : Room).slots) := by
  refine MetFree.of_bodySF (plainFor_of_name own_pn_ChunkMarks) hisR ?_
  intro p e s m args below meth c s₁ Bd hml0 hP hK
  obtain ⟨rfl, hZ, hh⟩ := hP
  have hx := Bd.exec
  have hby := Bd.bytes
  have hml : c.maxLocals = 2 := hml0
  have hown : s.vm.findClass "com/example/swarm_tally/swarmtally/ChunkMarks" = some m.cls := findClass_of_methodNamed Bd.named
  have hnm := (name_of_methodNamed Bd.named Bd.method).1
  have hlk : meth.locks = false := BodyLoose.notSynchronized Bd
  have X0 : Stand p l e ({ frames := 0, cells := 0, slots := 0, locals := 0 } : Room) s m #[(.ref a0), (.int p1)] below meth c s₁ [] 0 0 := Stand.of_body Bd
  have e0 : s₁.heap = h0 := by rw [← hh, Bd.state]; rfl
  have N0 := Fr.nil n0
  have K0 : Keep h0 h0 [ar] := Keep.refl _ _
  show ownEnds p e below s (Q_mark_2 Z a0 p1 ar g h0 n0) ({ frames := 0, cells := 0, slots := 0, locals := 0 } : Room).cells ({ frames := 0, cells := 0, slots := 0, locals := 0 } : Room).slots s₁ (entryFrame m #[(.ref a0), (.int p1)] 2)
  refine ownCast (own_ef7_mark_2 m a0 p1) ?_
  refine ow_aloadN (q := 1) X0 hx (hb hby own_d7_0) rfl rfl rfl ?_
  obtain ⟨T1, X1, e1, st1⟩ := getF X0 hx hZ hown (host := "") (Or.inl (hw _ (List.mem_of_getElem? (i := 11) rfl))) Via.refl e0 HF0 (g := (mkF m 1 #[rv a0, iv p1] [(.ref a0)])) rfl rfl (hb hby own_d7_1)
  refine ownGo (T' := T1) (f' := (mkF m 4 #[rv a0, iv p1] [(.ref ar)])) (st1) ?_
  refine ow_iloadN (q := 5) X1 hx (hb hby own_d7_4) rfl rfl ?_
  obtain ⟨T2, X2, e2, st2⟩ := getS2 X1 hx hZ hown (host := "") (Or.inl (hw _ (List.mem_of_getElem? (i := 18) rfl))) Via.refl e1 HF2 (g := (mkF m 5 #[rv a0, iv p1] [(.int p1), (.ref ar)])) rfl (hb hby own_d7_5)
  refine ownGo (T' := T2) (f' := (mkF m 8 #[rv a0, iv p1] [(.int (10 : Int32)), (.int p1), (.ref ar)])) (st2) ?_
  refine ow_iushr (q := 9) X2 hx _ (hb hby own_d7_8) rfl rfl ?_
  refine ow_iconst (q := 10) X2 hx (1 : Int32) (hb hby own_d7_9) rfl rfl ?_
  generalize hv_v3 : ((p1.toUInt32 >>> ((10 : Int32) &&& 31).toUInt32).toInt32) = v3
  obtain ⟨T4, h4, X4, e4, W4, F4s, st4⟩ := ownZastore HF1 X2 hx hZ e2 (j := v3) (by rw [← hv_v3]; exact hin) (g := (mkF m 10 #[rv a0, iv p1] [(.int (1 : Int32)), (.int v3), (.ref ar)])) rfl rfl (hb hby own_d7_10)
  generalize hg_gf4 : (ownUpd g v3.toNatClampNeg (1 : Int32)) = gf4 at F4s
  have N4 := Fr.snoc X4 N0 G_ar
  have K4 : Keep h0 h4 [ar] := K0.wr W4 (Or.inl (List.mem_of_getElem? (i := 0) rfl))
  have F5 : Fld Z h4 a0 "com/example/swarm_tally/swarmtally/ChunkMarks" "changed" "[Z" (.ref ar) := HF0.other W4 (Or.inl hne)
  have F6 : Sta Z h4 "com/example/swarm_tally/swarmtally/ChunkMarks" "CHUNK_SHIFT" "I" (.int (10 : Int32)) := HF2.wr W4
  refine ownGo (T' := T4) (f' := (mkF m 11 #[rv a0, iv p1] [])) (st4) ?_
  refine ownRetV X4 hx Bd.returns (hb hby own_d7_11) hlk (by decide) (by decide) ?_
  subst hg_gf4 hv_v3
  rw [e4]
  exact ⟨rfl, N4, K4, F4s⟩
theorem own_ef4_next_2 (m : MethodId) (a0 : Addr) (p1 : Int32) : entryFrame m #[(.ref a0), (.int p1)] 3 = mkF m 0 #[rv a0, iv p1, .unset] [] := by first | (simp [entryFrame, mkF, argsToLocals, Value.category]; done) | rfl
def Q_next_2 (Z : State) (a0 : Addr) (p1 : Int32) (ar : Addr) (g : Nat → Int32) (h0 : Heap) (n0 : Nat) (v : Option Value) (h : Heap) (L : List Loc) : Prop := v = some (.int (own_next g 2 p1)) ∧ Fr n0 L ∧ h = h0
set_option maxRecDepth 65536 in
set_option maxHeartbeats 40000000 in
theorem rm_next_2 (l : Launch) (Z : State) (av0 : Array Value) (hw : ∀ d ∈ tables_1, d.before av0 Z = true) (ws : List Jvm.Cond) (a0 : Addr) (p1 : Int32) (ar : Addr) (g : Nat → Int32) (h0 : Heap) (n0 : Nat) (Z0 : n0 ≤ h0.size) (HF0 : Fld Z h0 a0 "com/example/swarm_tally/swarmtally/ChunkMarks" "changed" "[Z" (.ref ar)) (HF1 : ownAI Z h0 ar .boolean 2 g) (hp : 0 ≤ p1.toInt) :
    MetFree l (⟨"com/example/swarm_tally/swarmtally/ChunkMarks", "next", "(I)I"⟩ : MethodName) (head1 (Jvm.Cond.code (⟨"com/example/swarm_tally/swarmtally/ChunkMarks", "next", "(I)I"⟩ : MethodName) prog_5_method_4_code 3 (some .int) :: ws) ({ frames := 0, cells := 0, slots := 0, locals := 0 } : Room)) (fun a U => a = #[(.ref a0), (.int p1)] ∧ Z.Warmed39 U.vm ∧ U.heap = h0) (fun _ _ _ _ _ => True) (fun _ U o U' => ∃ v L, o = .returned v ∧ (Q_next_2 Z a0 p1 ar g h0 n0) v U'.heap L ∧ FrameEnd U o U' L ({ frames := 0, cells := 0, slots := 0, locals := 0 } : Room).cells ({ frames := 0, cells := 0, slots := 0, locals := 0 } : Room).slots) := by
  refine MetFree.of_bodySF (plainFor_of_name own_pn_ChunkMarks) hisR ?_
  intro p e s m args below meth c s₁ Bd hml0 hP hK
  obtain ⟨rfl, hZ, hh⟩ := hP
  have hx := Bd.exec
  have hby := Bd.bytes
  have hml : c.maxLocals = 3 := hml0
  have hown : s.vm.findClass "com/example/swarm_tally/swarmtally/ChunkMarks" = some m.cls := findClass_of_methodNamed Bd.named
  have hnm := (name_of_methodNamed Bd.named Bd.method).1
  have hlk : meth.locks = false := BodyLoose.notSynchronized Bd
  have X0 : Stand p l e ({ frames := 0, cells := 0, slots := 0, locals := 0 } : Room) s m #[(.ref a0), (.int p1)] below meth c s₁ [] 0 0 := Stand.of_body Bd
  have e0 : s₁.heap = h0 := by rw [← hh, Bd.state]; rfl
  have N0 := Fr.nil n0
  have K0 : Keep h0 h0 [] := Keep.refl _ _
  show ownEnds p e below s (Q_next_2 Z a0 p1 ar g h0 n0) ({ frames := 0, cells := 0, slots := 0, locals := 0 } : Room).cells ({ frames := 0, cells := 0, slots := 0, locals := 0 } : Room).slots s₁ (entryFrame m #[(.ref a0), (.int p1)] 3)
  refine ownCast (own_ef4_next_2 m a0 p1) ?_
  refine ow_iloadN (q := 1) X0 hx (hb hby own_d4_0) rfl rfl ?_
  refine ow_istoreN (q := 2) X0 hx (L' := #[rv a0, iv p1, iv p1]) (hb hby own_d4_1) rfl rfl ?_
  have nx2 : own_next g 2 p1 = own_nx g 2 0 → ∀ (Tc1 : State) (lc1 : List Loc), Stand p l e ({ frames := 0, cells := 0, slots := 0, locals := 0 } : Room) s m #[(.ref a0), (.int p1)] below meth c Tc1 lc1 0 0 → Tc1.heap = h0 → Fr n0 lc1 → ownEnds p e below s (Q_next_2 Z a0 p1 ar g h0 n0) ({ frames := 0, cells := 0, slots := 0, locals := 0 } : Room).cells ({ frames := 0, cells := 0, slots := 0, locals := 0 } : Room).slots Tc1 (mkF m 2 #[rv a0, iv p1, iv (2 : Int32)] []) := by
    intro hn2 Tc1 lc1 Xc1 ec1 Nc1
    refine ow_iloadN (q := 3) Xc1 hx (hb hby own_d4_2) rfl rfl ?_
    refine ow_aloadN (q := 4) Xc1 hx (hb hby own_d4_3) rfl rfl rfl ?_
    obtain ⟨T2, X2, e2, st2⟩ := getF Xc1 hx hZ hown (host := "") (Or.inl (hw _ (List.mem_of_getElem? (i := 11) rfl))) Via.refl ec1 HF0 (g := (mkF m 4 #[rv a0, iv p1, iv (2 : Int32)] [(.ref a0), (.int (2 : Int32))])) rfl rfl (hb hby own_d4_4)
    refine ownGo (T' := T2) (f' := (mkF m 7 #[rv a0, iv p1, iv (2 : Int32)] [(.ref ar), (.int (2 : Int32))])) (st2) ?_
    refine ownGo (T' := T2) (f' := (mkF m 8 #[rv a0, iv p1, iv (2 : Int32)] [(.int (2 : Int32)), (.int (2 : Int32))])) (ownLenI HF1 X2 hx hZ e2 (z := (2 : Int32)) (by decide) (g := (mkF m 7 #[rv a0, iv p1, iv (2 : Int32)] [(.ref ar), (.int (2 : Int32))])) rfl rfl (hb hby own_d4_7)) ?_
    refine ow_icmpYes (q := 28) X2 hx (hb hby own_d4_8) (Jvm.Free.XT.ii_ge_t (by decide)) (by decide) (by decide) ?_
    refine ow_iconst (q := 29) X2 hx (-1 : Int32) (hb hby own_d4_28) rfl rfl ?_
    refine ownRetI X2 hx Bd.returns (hb hby own_d4_29) hlk (by decide) (by decide) ?_
    rw [e2]
    refine ⟨congrArg (fun q => some (Value.int q)) ?_, Nc1, rfl⟩
    rw [hn2]
    rfl
  have nx1 : own_next g 2 p1 = own_nx g 1 1 → ∀ (Tc3 : State) (lc3 : List Loc), Stand p l e ({ frames := 0, cells := 0, slots := 0, locals := 0 } : Room) s m #[(.ref a0), (.int p1)] below meth c Tc3 lc3 0 0 → Tc3.heap = h0 → Fr n0 lc3 → ownEnds p e below s (Q_next_2 Z a0 p1 ar g h0 n0) ({ frames := 0, cells := 0, slots := 0, locals := 0 } : Room).cells ({ frames := 0, cells := 0, slots := 0, locals := 0 } : Room).slots Tc3 (mkF m 2 #[rv a0, iv p1, iv (1 : Int32)] []) := by
    intro hn1 Tc3 lc3 Xc3 ec3 Nc3
    refine ow_iloadN (q := 3) Xc3 hx (hb hby own_d4_2) rfl rfl ?_
    refine ow_aloadN (q := 4) Xc3 hx (hb hby own_d4_3) rfl rfl rfl ?_
    obtain ⟨T4, X4, e4, st4⟩ := getF Xc3 hx hZ hown (host := "") (Or.inl (hw _ (List.mem_of_getElem? (i := 11) rfl))) Via.refl ec3 HF0 (g := (mkF m 4 #[rv a0, iv p1, iv (1 : Int32)] [(.ref a0), (.int (1 : Int32))])) rfl rfl (hb hby own_d4_4)
    refine ownGo (T' := T4) (f' := (mkF m 7 #[rv a0, iv p1, iv (1 : Int32)] [(.ref ar), (.int (1 : Int32))])) (st4) ?_
    refine ownGo (T' := T4) (f' := (mkF m 8 #[rv a0, iv p1, iv (1 : Int32)] [(.int (2 : Int32)), (.int (1 : Int32))])) (ownLenI HF1 X4 hx hZ e4 (z := (2 : Int32)) (by decide) (g := (mkF m 7 #[rv a0, iv p1, iv (1 : Int32)] [(.ref ar), (.int (1 : Int32))])) rfl rfl (hb hby own_d4_7)) ?_
    refine ow_icmpNo (q := 11) X4 hx (hb hby own_d4_8) rfl (Jvm.Free.XT.ii_ge_f (by decide)) ?_
    refine ow_aloadN (q := 12) X4 hx (hb hby own_d4_11) rfl rfl rfl ?_
    obtain ⟨T5, X5, e5, st5⟩ := getF X4 hx hZ hown (host := "") (Or.inl (hw _ (List.mem_of_getElem? (i := 11) rfl))) Via.refl e4 HF0 (g := (mkF m 12 #[rv a0, iv p1, iv (1 : Int32)] [(.ref a0)])) rfl rfl (hb hby own_d4_12)
    refine ownGo (T' := T5) (f' := (mkF m 15 #[rv a0, iv p1, iv (1 : Int32)] [(.ref ar)])) (st5) ?_
    refine ow_iloadN (q := 16) X5 hx (hb hby own_d4_15) rfl rfl ?_
    refine ownGo (T' := T5) (f' := (mkF m 17 #[rv a0, iv p1, iv (1 : Int32)] [(.int (g 1))])) (ownZaload HF1 X5 hx hZ e5 (j := (1 : Int32)) (by unfold ownIn; decide) (g := (mkF m 16 #[rv a0, iv p1, iv (1 : Int32)] [(.int (1 : Int32)), (.ref ar)])) rfl rfl (hb hby own_d4_16)) ?_
    generalize hv_v6 : (g 1) = v6
    by_cases hc17_7 : v6 = (0 : Int32)
    · refine ow_ifYes (q := 22) X5 hx (hb hby own_d4_17) (Jvm.Free.XT.i0_eq_t hc17_7) (by decide) (by decide) ?_
      refine ow_iinc (q := 25) X5 hx (L' := #[rv a0, iv p1, iv (2 : Int32)]) (hb hby own_d4_22) rfl rfl rfl ?_
      refine ow_goto (q := 2) X5 hx (hb hby own_d4_25) (by decide) (by decide) ?_
      exact nx2 (by rw [hn1]; show (if g 1 = (0 : Int32) then own_nx g 2 0 else (1 : Int32)) = _; rw [if_pos (hv_v6.trans hc17_7)]) _ _ X5 e5 Nc3
    · refine ow_ifNo (q := 20) X5 hx (hb hby own_d4_17) rfl (Jvm.Free.XT.i0_eq_f hc17_7) ?_
      refine ow_iloadN (q := 21) X5 hx (hb hby own_d4_20) rfl rfl ?_
      refine ownRetI X5 hx Bd.returns (hb hby own_d4_21) hlk (by decide) (by decide) ?_
      subst hv_v6
      rw [e5]
      refine ⟨congrArg (fun q => some (Value.int q)) ?_, Nc3, rfl⟩
      rw [hn1]
      show _ = (if g 1 = (0 : Int32) then own_nx g 2 0 else (1 : Int32))
      rw [if_neg hc17_7]
  have nx0 : own_next g 2 p1 = own_nx g 0 2 → ∀ (Tc8 : State) (lc8 : List Loc), Stand p l e ({ frames := 0, cells := 0, slots := 0, locals := 0 } : Room) s m #[(.ref a0), (.int p1)] below meth c Tc8 lc8 0 0 → Tc8.heap = h0 → Fr n0 lc8 → ownEnds p e below s (Q_next_2 Z a0 p1 ar g h0 n0) ({ frames := 0, cells := 0, slots := 0, locals := 0 } : Room).cells ({ frames := 0, cells := 0, slots := 0, locals := 0 } : Room).slots Tc8 (mkF m 2 #[rv a0, iv p1, iv (0 : Int32)] []) := by
    intro hn0 Tc8 lc8 Xc8 ec8 Nc8
    refine ow_iloadN (q := 3) Xc8 hx (hb hby own_d4_2) rfl rfl ?_
    refine ow_aloadN (q := 4) Xc8 hx (hb hby own_d4_3) rfl rfl rfl ?_
    obtain ⟨T9, X9, e9, st9⟩ := getF Xc8 hx hZ hown (host := "") (Or.inl (hw _ (List.mem_of_getElem? (i := 11) rfl))) Via.refl ec8 HF0 (g := (mkF m 4 #[rv a0, iv p1, iv (0 : Int32)] [(.ref a0), (.int (0 : Int32))])) rfl rfl (hb hby own_d4_4)
    refine ownGo (T' := T9) (f' := (mkF m 7 #[rv a0, iv p1, iv (0 : Int32)] [(.ref ar), (.int (0 : Int32))])) (st9) ?_
    refine ownGo (T' := T9) (f' := (mkF m 8 #[rv a0, iv p1, iv (0 : Int32)] [(.int (2 : Int32)), (.int (0 : Int32))])) (ownLenI HF1 X9 hx hZ e9 (z := (2 : Int32)) (by decide) (g := (mkF m 7 #[rv a0, iv p1, iv (0 : Int32)] [(.ref ar), (.int (0 : Int32))])) rfl rfl (hb hby own_d4_7)) ?_
    refine ow_icmpNo (q := 11) X9 hx (hb hby own_d4_8) rfl (Jvm.Free.XT.ii_ge_f (by decide)) ?_
    refine ow_aloadN (q := 12) X9 hx (hb hby own_d4_11) rfl rfl rfl ?_
    obtain ⟨T10, X10, e10, st10⟩ := getF X9 hx hZ hown (host := "") (Or.inl (hw _ (List.mem_of_getElem? (i := 11) rfl))) Via.refl e9 HF0 (g := (mkF m 12 #[rv a0, iv p1, iv (0 : Int32)] [(.ref a0)])) rfl rfl (hb hby own_d4_12)
    refine ownGo (T' := T10) (f' := (mkF m 15 #[rv a0, iv p1, iv (0 : Int32)] [(.ref ar)])) (st10) ?_
    refine ow_iloadN (q := 16) X10 hx (hb hby own_d4_15) rfl rfl ?_
    refine ownGo (T' := T10) (f' := (mkF m 17 #[rv a0, iv p1, iv (0 : Int32)] [(.int (g 0))])) (ownZaload HF1 X10 hx hZ e10 (j := (0 : Int32)) (by unfold ownIn; decide) (g := (mkF m 16 #[rv a0, iv p1, iv (0 : Int32)] [(.int (0 : Int32)), (.ref ar)])) rfl rfl (hb hby own_d4_16)) ?_
    generalize hv_v11 : (g 0) = v11
    by_cases hc17_12 : v11 = (0 : Int32)
    · refine ow_ifYes (q := 22) X10 hx (hb hby own_d4_17) (Jvm.Free.XT.i0_eq_t hc17_12) (by decide) (by decide) ?_
      refine ow_iinc (q := 25) X10 hx (L' := #[rv a0, iv p1, iv (1 : Int32)]) (hb hby own_d4_22) rfl rfl rfl ?_
      refine ow_goto (q := 2) X10 hx (hb hby own_d4_25) (by decide) (by decide) ?_
      exact nx1 (by rw [hn0]; show (if g 0 = (0 : Int32) then own_nx g 1 1 else (0 : Int32)) = _; rw [if_pos (hv_v11.trans hc17_12)]) _ _ X10 e10 Nc8
    · refine ow_ifNo (q := 20) X10 hx (hb hby own_d4_17) rfl (Jvm.Free.XT.i0_eq_f hc17_12) ?_
      refine ow_iloadN (q := 21) X10 hx (hb hby own_d4_20) rfl rfl ?_
      refine ownRetI X10 hx Bd.returns (hb hby own_d4_21) hlk (by decide) (by decide) ?_
      subst hv_v11
      rw [e10]
      refine ⟨congrArg (fun q => some (Value.int q)) ?_, Nc8, rfl⟩
      rw [hn0]
      show _ = (if g 0 = (0 : Int32) then own_nx g 1 1 else (0 : Int32))
      rw [if_neg hc17_12]
  rcases own_cases2 hp with hge | hs0 | hs1
  · refine ow_iloadN (q := 3) X0 hx (hb hby own_d4_2) rfl rfl ?_
    refine ow_aloadN (q := 4) X0 hx (hb hby own_d4_3) rfl rfl rfl ?_
    obtain ⟨T13, X13, e13, st13⟩ := getF X0 hx hZ hown (host := "") (Or.inl (hw _ (List.mem_of_getElem? (i := 11) rfl))) Via.refl e0 HF0 (g := (mkF m 4 #[rv a0, iv p1, iv p1] [(.ref a0), (.int p1)])) rfl rfl (hb hby own_d4_4)
    refine ownGo (T' := T13) (f' := (mkF m 7 #[rv a0, iv p1, iv p1] [(.ref ar), (.int p1)])) (st13) ?_
    refine ownGo (T' := T13) (f' := (mkF m 8 #[rv a0, iv p1, iv p1] [(.int (2 : Int32)), (.int p1)])) (ownLenI HF1 X13 hx hZ e13 (z := (2 : Int32)) (by decide) (g := (mkF m 7 #[rv a0, iv p1, iv p1] [(.ref ar), (.int p1)])) rfl rfl (hb hby own_d4_7)) ?_
    refine ow_icmpYes (q := 28) X13 hx (hb hby own_d4_8) (Jvm.Free.XT.ii_ge_t hge) (by decide) (by decide) ?_
    refine ow_iconst (q := 29) X13 hx (-1 : Int32) (hb hby own_d4_28) rfl rfl ?_
    refine ownRetI X13 hx Bd.returns (hb hby own_d4_29) hlk (by decide) (by decide) ?_
    rw [e13]
    refine ⟨congrArg (fun q => some (Value.int q)) ?_, N0, rfl⟩
    exact (own_next_ge hge (by decide)).symm
  · subst hs0
    exact nx0 rfl _ _ X0 e0 N0
  · subst hs1
    exact nx1 rfl _ _ X0 e0 N0
theorem own_ef6_min_3 (m : MethodId)  : entryFrame m #[(.int (1 : Int32)), (.int (3 : Int32))] 2 = mkF m 0 #[iv (1 : Int32), iv (3 : Int32)] [] := by first | (simp [entryFrame, mkF, argsToLocals, Value.category]; done) | rfl
def Q_min_3 (Z : State)  (h0 : Heap) (n0 : Nat) (v : Option Value) (h : Heap) (L : List Loc) : Prop := v = some (.int (1 : Int32)) ∧ Fr n0 L ∧ h = h0
set_option maxRecDepth 65536 in
set_option maxHeartbeats 40000000 in
theorem rm_min_3 (l : Launch) (Z : State) (av0 : Array Value) (hw : ∀ d ∈ tables_1, d.before av0 Z = true) (ws : List Jvm.Cond)  (h0 : Heap) (n0 : Nat) (Z0 : n0 ≤ h0.size) :
    MetFree l (⟨"java/lang/Math", "min", "(II)I"⟩ : MethodName) (head1 (Jvm.Cond.code (⟨"java/lang/Math", "min", "(II)I"⟩ : MethodName) jdk_29_method_69_code 2 (some .int) :: ws) ({ frames := 0, cells := 0, slots := 0, locals := 0 } : Room)) (fun a U => a = #[(.int (1 : Int32)), (.int (3 : Int32))] ∧ Z.Warmed39 U.vm ∧ U.heap = h0) (fun _ _ _ _ _ => True) (fun _ U o U' => ∃ v L, o = .returned v ∧ (Q_min_3 Z  h0 n0) v U'.heap L ∧ FrameEnd U o U' L ({ frames := 0, cells := 0, slots := 0, locals := 0 } : Room).cells ({ frames := 0, cells := 0, slots := 0, locals := 0 } : Room).slots) := by
  refine MetFree.of_bodySF (Jvm.Free.JP.mathPlain rfl (by decide +kernel)) hisR ?_
  intro p e s m args below meth c s₁ Bd hml0 hP hK
  obtain ⟨rfl, hZ, hh⟩ := hP
  have hx := Bd.exec
  have hby := Bd.bytes
  have hml : c.maxLocals = 2 := hml0
  have hown : s.vm.findClass "java/lang/Math" = some m.cls := findClass_of_methodNamed Bd.named
  have hnm := (name_of_methodNamed Bd.named Bd.method).1
  have hlk : meth.locks = false := BodyLoose.notSynchronized Bd
  have X0 : Stand p l e ({ frames := 0, cells := 0, slots := 0, locals := 0 } : Room) s m #[(.int (1 : Int32)), (.int (3 : Int32))] below meth c s₁ [] 0 0 := Stand.of_body Bd
  have e0 : s₁.heap = h0 := by rw [← hh, Bd.state]; rfl
  have N0 := Fr.nil n0
  have K0 : Keep h0 h0 [] := Keep.refl _ _
  show ownEnds p e below s (Q_min_3 Z  h0 n0) ({ frames := 0, cells := 0, slots := 0, locals := 0 } : Room).cells ({ frames := 0, cells := 0, slots := 0, locals := 0 } : Room).slots s₁ (entryFrame m #[(.int (1 : Int32)), (.int (3 : Int32))] 2)
  refine ownCast (own_ef6_min_3 m ) ?_
  refine ow_iloadN (q := 1) X0 hx (hb hby own_d6_0) rfl rfl ?_
  refine ow_iloadN (q := 2) X0 hx (hb hby own_d6_1) rfl rfl ?_
  refine ow_icmpNo (q := 5) X0 hx (hb hby own_d6_2) rfl (Jvm.Free.XT.ii_gt_f (by decide)) ?_
  refine ow_iloadN (q := 6) X0 hx (hb hby own_d6_5) rfl rfl ?_
  refine ow_goto (q := 10) X0 hx (hb hby own_d6_6) (by decide) (by decide) ?_
  refine ownRetI X0 hx Bd.returns (hb hby own_d6_10) hlk (by decide) (by decide) ?_
  rw [e0]
  exact ⟨rfl, N0, rfl⟩
theorem own_ef5_copyOf_3 (m : MethodId) (a0 : Addr) : entryFrame m #[(.ref a0), (.int (3 : Int32))] 3 = mkF m 0 #[rv a0, iv (3 : Int32), .unset] [] := by first | (simp [entryFrame, mkF, argsToLocals, Value.category]; done) | rfl
def Q_copyOf_3 (Z : State) (a0 : Addr) (h0 : Heap) (n0 : Nat) (v : Option Value) (h : Heap) (L : List Loc) : Prop := ∃ (r : Addr), v = some (.ref r) ∧ Fr n0 L ∧ Keep h0 h [] ∧ h0.size ≤ r ∧ ownAI Z h r .boolean 3 (fun _ => (0 : Int32))
set_option maxRecDepth 65536 in
set_option maxHeartbeats 40000000 in
theorem rm_copyOf_3 (l : Launch) (Z : State) (av0 : Array Value) (hw : ∀ d ∈ tables_1, d.before av0 Z = true) (ws : List Jvm.Cond) (a0 : Addr) (h0 : Heap) (n0 : Nat) (Z0 : n0 ≤ h0.size) (HF0 : ownAI Z h0 a0 .boolean 1 (fun _ => (0 : Int32))) :
    MetFree l (⟨"java/util/Arrays", "copyOf", "([ZI)[Z"⟩ : MethodName) (head1 (Jvm.Cond.code (⟨"java/util/Arrays", "copyOf", "([ZI)[Z"⟩ : MethodName) jdk_65_method_128_code 3 (some (.array .boolean)) :: ws) ({ frames := 1, cells := 1, slots := 3, locals := 18 } : Room)) (fun a U => a = #[(.ref a0), (.int (3 : Int32))] ∧ Z.Warmed39 U.vm ∧ U.heap = h0) (fun _ _ _ _ _ => True) (fun _ U o U' => ∃ v L, o = .returned v ∧ (Q_copyOf_3 Z a0 h0 n0) v U'.heap L ∧ FrameEnd U o U' L ({ frames := 1, cells := 1, slots := 3, locals := 18 } : Room).cells ({ frames := 1, cells := 1, slots := 3, locals := 18 } : Room).slots) := by
  refine MetFree.of_bodySF (plainFor_of_name own_pn_Arrays) hisR ?_
  intro p e s m args below meth c s₁ Bd hml0 hP hK
  obtain ⟨rfl, hZ, hh⟩ := hP
  have hx := Bd.exec
  have hby := Bd.bytes
  have hml : c.maxLocals = 3 := hml0
  have hown : s.vm.findClass "java/util/Arrays" = some m.cls := findClass_of_methodNamed Bd.named
  have hnm := (name_of_methodNamed Bd.named Bd.method).1
  have hlk : meth.locks = false := BodyLoose.notSynchronized Bd
  have X0 : Stand p l e ({ frames := 1, cells := 1, slots := 3, locals := 18 } : Room) s m #[(.ref a0), (.int (3 : Int32))] below meth c s₁ [] 0 0 := Stand.of_body Bd
  have e0 : s₁.heap = h0 := by rw [← hh, Bd.state]; rfl
  have N0 := Fr.nil n0
  have K0 : Keep h0 h0 [] := Keep.refl _ _
  show ownEnds p e below s (Q_copyOf_3 Z a0 h0 n0) ({ frames := 1, cells := 1, slots := 3, locals := 18 } : Room).cells ({ frames := 1, cells := 1, slots := 3, locals := 18 } : Room).slots s₁ (entryFrame m #[(.ref a0), (.int (3 : Int32))] 3)
  refine ownCast (own_ef5_copyOf_3 m a0) ?_
  refine ow_iloadN (q := 1) X0 hx (hb hby own_d5_0) rfl rfl ?_
  refine ow_aloadN (q := 2) X0 hx (hb hby own_d5_1) rfl rfl rfl ?_
  refine ownGo (T' := s₁) (f' := (mkF m 3 #[rv a0, iv (3 : Int32), .unset] [(.int (1 : Int32)), (.int (3 : Int32))])) (ownLenI HF0 X0 hx hZ e0 (z := (1 : Int32)) (by decide) (g := (mkF m 2 #[rv a0, iv (3 : Int32), .unset] [(.ref a0), (.int (3 : Int32))])) rfl rfl (hb hby own_d5_2)) ?_
  refine ow_icmpYes (q := 14) X0 hx (hb hby own_d5_3) (Jvm.Free.XT.ii_ne_t (by decide)) (by decide) (by decide) ?_
  refine ow_iloadN (q := 15) X0 hx (hb hby own_d5_14) rfl rfl ?_
  obtain ⟨T1, h1, k1, X1, e1, E1, A1, st1⟩ := newP X0 hx hZ (hw _ (List.mem_of_getElem? (i := 10) rfl)) e0 (g := (mkF m 15 #[rv a0, iv (3 : Int32), .unset] [(.int (3 : Int32))])) rfl (hb hby own_d5_15) rfl (by decide) (cap := 3) (by decide) (by decide) (by decide) (by decide)
  obtain ⟨b1, g1⟩ : ∃ z, z = h0.size := ⟨_, rfl⟩
  rw [← g1] at A1 st1
  have ne_a0_b1 : a0 ≠ b1 := Nat.ne_of_lt (Nat.lt_of_lt_of_le HF0.lt (Nat.le_of_eq g1.symm))
  have sz_b1 : h0.size ≤ b1 := Nat.le_trans K0.1 (Nat.le_of_eq g1.symm)
  have G_b1 : n0 ≤ b1 := Nat.le_trans Z0 sz_b1
  have K1 : Keep h0 h1 [] := K0.ext E1
  have F2 : ownAI Z h1 a0 .boolean 1 (fun _ => (0 : Int32)) := HF0.ext E1
  have F3 : ownAI Z h1 b1 .boolean 3 (fun _ => (0 : Int32)) := ownAI.new A1 (by decide) rfl (by decide)
  refine ownGo (T' := T1) (f' := (mkF m 17 #[rv a0, iv (3 : Int32), .unset] [(.ref b1)])) (st1) ?_
  refine ow_astoreN (q := 18) X1 hx (L' := #[rv a0, iv (3 : Int32), rv b1]) (hb hby own_d5_17) rfl rfl rfl ?_
  refine ow_aloadN (q := 19) X1 hx (hb hby own_d5_18) rfl rfl rfl ?_
  refine ow_iconst (q := 20) X1 hx (0 : Int32) (hb hby own_d5_19) rfl rfl ?_
  refine ow_aloadN (q := 21) X1 hx (hb hby own_d5_20) rfl rfl rfl ?_
  refine ow_iconst (q := 22) X1 hx (0 : Int32) (hb hby own_d5_21) rfl rfl ?_
  refine ow_aloadN (q := 23) X1 hx (hb hby own_d5_22) rfl rfl rfl ?_
  refine ownGo (T' := T1) (f' := (mkF m 24 #[rv a0, iv (3 : Int32), rv b1] [(.int (1 : Int32)), (.int (0 : Int32)), (.ref b1), (.int (0 : Int32)), (.ref a0)])) (ownLenI F2 X1 hx hZ e1 (z := (1 : Int32)) (by decide) (g := (mkF m 23 #[rv a0, iv (3 : Int32), rv b1] [(.ref a0), (.int (0 : Int32)), (.ref b1), (.int (0 : Int32)), (.ref a0)])) rfl rfl (hb hby own_d5_23)) ?_
  refine ow_iloadN (q := 25) X1 hx (hb hby own_d5_24) rfl rfl ?_
  obtain ⟨_, _, ⟨T4, L4, k4, n4⟩, -, X4, ⟨Lc4, hQ4, l4, y4, z4⟩, st4⟩ := Jvm.LawKit.callS X1 hx (y := (⟨"java/lang/Math", "min", "(II)I"⟩ : MethodName)) hown (mvT hZ (hw _ (List.mem_of_getElem? (i := 29) rfl))) (mvT hZ (hw _ (List.mem_of_getElem? (i := 30) rfl))) (mvT hZ (hw _ (List.mem_of_getElem? (i := 31) rfl))) (mvT hZ (hw _ (List.mem_of_getElem? (i := 32) rfl))) (by decide) (backOf (W := 4) (rm_min_3 l Z av0 hw []  h1 n0 (Nat.le_trans Z0 K1.1) ) hZ (hw _ (List.mem_of_getElem? (i := 32) rfl)) (hw _ (List.mem_of_getElem? (i := 31) rfl)) (by decide) (by decide)) (g := (mkF m 25 #[rv a0, iv (3 : Int32), rv b1] [(.int (3 : Int32)), (.int (1 : Int32)), (.int (0 : Int32)), (.ref b1), (.int (0 : Int32)), (.ref a0)])) rfl (by rw [hml]; rfl) (argsL := [(.int (1 : Int32)), (.int (3 : Int32))]) (rest := [(.int (0 : Int32)), (.ref b1), (.int (0 : Int32)), (.ref a0)]) (lenOf own_pd0 rfl) rfl (by show 2 * 0 + _ ≤ _; exact Nat.le_of_eq rfl) (hb hby own_d5_25) (fun _ _ => ⟨rfl, e1, (by decide : 1 + 0 ≤ _), (by decide : 3 + 0 ≤ _)⟩)
  dsimp only [Pt.U, Pt.locs, Pt.cells, Pt.slots] at X4 l4 y4 z4 st4 hQ4
  subst l4 y4 z4
  obtain ⟨rfl, N4q, e4⟩ := hQ4
  have N4 := Fr.app N0 N4q
  refine ownGo (T' := T4) (f' := (mkF m 28 #[rv a0, iv (3 : Int32), rv b1] [(.int (1 : Int32)), (.int (0 : Int32)), (.ref b1), (.int (0 : Int32)), (.ref a0)])) (st4) ?_
  obtain ⟨T5, h5, L5, X5, e5, N5, Kq5, FC5, st5⟩ := ownCopyI (gr := (fun _ => (0 : Int32))) (z := (1 : Int32)) (z' := (3 : Int32)) (nn := (1 : Int32)) F2 F3 (by decide) (by decide) (by decide) (by decide) rfl (fun _ _ => by decide) (fun _ _ => by decide) X4 hx hZ hown (hw _ (List.mem_of_getElem? (i := 33) rfl)) (hw _ (List.mem_of_getElem? (i := 36) rfl)) (hw _ (List.mem_of_getElem? (i := 34) rfl)) (hw _ (List.mem_of_getElem? (i := 35) rfl)) e4 (by decide) (by decide) (by decide) (fun i hi => by split <;> rfl) N4 G_b1 (g := (mkF m 28 #[rv a0, iv (3 : Int32), rv b1] [(.int (1 : Int32)), (.int (0 : Int32)), (.ref b1), (.int (0 : Int32)), (.ref a0)])) rfl (by rw [hml]; rfl) rfl (hb hby own_d5_28) (by decide) (W := 0) (by show 2 * 0 + _ ≤ _; exact Nat.le_of_eq rfl) (by decide)
  have K5 : Keep h0 h5 [] := K1.trans Kq5 (allS (Or.inr sz_b1) all0)
  have F6 : ownAI Z h5 a0 .boolean 1 (fun _ => (0 : Int32)) := F2.keep Kq5 (ninS ne_a0_b1 nin0)
  refine ownGo (T' := T5) (f' := (mkF m 31 #[rv a0, iv (3 : Int32), rv b1] [])) (st5) ?_
  refine ow_aloadN (q := 32) X5 hx (hb hby own_d5_31) rfl rfl rfl ?_
  refine ownRetR X5 hx rfl rfl rfl Bd.returns (hb hby own_d5_32) hlk (by decide) (by decide) ?_
  rw [e5]
  exact ⟨b1, rfl, N5, K5, sz_b1, FC5⟩
theorem own_ef3_grow_3 (m : MethodId) (a0 : Addr) (p1 : Int32) : entryFrame m #[(.ref a0), (.int p1)] 3 = mkF m 0 #[rv a0, iv p1, .unset] [] := by first | (simp [entryFrame, mkF, argsToLocals, Value.category]; done) | rfl
def Q_grow_3 (Z : State) (a0 : Addr) (p1 : Int32) (ar : Addr) (h0 : Heap) (n0 : Nat) (v : Option Value) (h : Heap) (L : List Loc) : Prop := ∃ (ar2 : Addr), v = none ∧ Fr n0 L ∧ Keep h0 h [a0] ∧ h0.size ≤ ar2 ∧ Exa Z h a0 "com/example/swarm_tally/swarmtally/ChunkMarks" ∧ Fld Z h a0 "com/example/swarm_tally/swarmtally/ChunkMarks" "changed" "[Z" (.ref ar2) ∧ ownAI Z h ar2 .boolean 3 (fun _ => (0 : Int32))
set_option maxRecDepth 65536 in
set_option maxHeartbeats 40000000 in
theorem rm_grow_3 (l : Launch) (Z : State) (av0 : Array Value) (hw : ∀ d ∈ tables_1, d.before av0 Z = true) (ws : List Jvm.Cond) (a0 : Addr) (p1 : Int32) (ar : Addr) (h0 : Heap) (n0 : Nat) (Z0 : n0 ≤ h0.size) (HF0 : Exa Z h0 a0 "com/example/swarm_tally/swarmtally/ChunkMarks") (HF1 : Fld Z h0 a0 "com/example/swarm_tally/swarmtally/ChunkMarks" "changed" "[Z" (.ref ar)) (HF2 : ownAI Z h0 ar .boolean 1 (fun _ => (0 : Int32))) (HF3 : Sta Z h0 "com/example/swarm_tally/swarmtally/ChunkMarks" "CHUNK_SHIFT" "I" (.int (10 : Int32))) (G_a0 : n0 ≤ a0) (hch : ((((p1 + (1024 : Int32)) - (1 : Int32)).toUInt32 >>> ((10 : Int32) &&& 31).toUInt32).toInt32) = (3 : Int32)) (hne : a0 ≠ ar) :
    MetFree l (⟨"com/example/swarm_tally/swarmtally/ChunkMarks", "grow", "(I)V"⟩ : MethodName) (head1 (Jvm.Cond.code (⟨"com/example/swarm_tally/swarmtally/ChunkMarks", "grow", "(I)V"⟩ : MethodName) prog_5_method_2_code 3 none :: ws) ({ frames := 2, cells := 1, slots := 3, locals := 33 } : Room)) (fun a U => a = #[(.ref a0), (.int p1)] ∧ Z.Warmed39 U.vm ∧ U.heap = h0) (fun _ _ _ _ _ => True) (fun _ U o U' => ∃ v L, o = .returned v ∧ (Q_grow_3 Z a0 p1 ar h0 n0) v U'.heap L ∧ FrameEnd U o U' L ({ frames := 2, cells := 1, slots := 3, locals := 33 } : Room).cells ({ frames := 2, cells := 1, slots := 3, locals := 33 } : Room).slots) := by
  refine MetFree.of_bodySF (plainFor_of_name own_pn_ChunkMarks) hisR ?_
  intro p e s m args below meth c s₁ Bd hml0 hP hK
  obtain ⟨rfl, hZ, hh⟩ := hP
  have hx := Bd.exec
  have hby := Bd.bytes
  have hml : c.maxLocals = 3 := hml0
  have hown : s.vm.findClass "com/example/swarm_tally/swarmtally/ChunkMarks" = some m.cls := findClass_of_methodNamed Bd.named
  have hnm := (name_of_methodNamed Bd.named Bd.method).1
  have hlk : meth.locks = false := BodyLoose.notSynchronized Bd
  have X0 : Stand p l e ({ frames := 2, cells := 1, slots := 3, locals := 33 } : Room) s m #[(.ref a0), (.int p1)] below meth c s₁ [] 0 0 := Stand.of_body Bd
  have e0 : s₁.heap = h0 := by rw [← hh, Bd.state]; rfl
  have N0 := Fr.nil n0
  have K0 : Keep h0 h0 [a0] := Keep.refl _ _
  show ownEnds p e below s (Q_grow_3 Z a0 p1 ar h0 n0) ({ frames := 2, cells := 1, slots := 3, locals := 33 } : Room).cells ({ frames := 2, cells := 1, slots := 3, locals := 33 } : Room).slots s₁ (entryFrame m #[(.ref a0), (.int p1)] 3)
  refine ownCast (own_ef3_grow_3 m a0 p1) ?_
  refine ow_iloadN (q := 1) X0 hx (hb hby own_d3_0) rfl rfl ?_
  refine ow_sipush (q := 4) X0 hx (1024 : Int32) (hb hby own_d3_1) rfl rfl ?_
  refine ow_iadd (q := 5) X0 hx _ (hb hby own_d3_4) rfl rfl ?_
  refine ow_iconst (q := 6) X0 hx (1 : Int32) (hb hby own_d3_5) rfl rfl ?_
  refine ow_isub (q := 7) X0 hx _ (hb hby own_d3_6) rfl rfl ?_
  obtain ⟨T1, X1, e1, st1⟩ := getS2 X0 hx hZ hown (host := "") (Or.inl (hw _ (List.mem_of_getElem? (i := 18) rfl))) Via.refl e0 HF3 (g := (mkF m 7 #[rv a0, iv p1, .unset] [(.int ((p1 + (1024 : Int32)) - (1 : Int32)))])) rfl (hb hby own_d3_7)
  refine ownGo (T' := T1) (f' := (mkF m 10 #[rv a0, iv p1, .unset] [(.int (10 : Int32)), (.int ((p1 + (1024 : Int32)) - (1 : Int32)))])) (st1) ?_
  refine ow_iushr (q := 11) X1 hx _ (hb hby own_d3_10) rfl rfl ?_
  generalize hv_v2 : ((((p1 + (1024 : Int32)) - (1 : Int32)).toUInt32 >>> ((10 : Int32) &&& 31).toUInt32).toInt32) = v2
  refine ow_istoreN (q := 12) X1 hx (L' := #[rv a0, iv p1, iv v2]) (hb hby own_d3_11) rfl rfl ?_
  have hs3 := (hv_v2.symm.trans hch)
  subst hs3
  refine ow_iloadN (q := 13) X1 hx (hb hby own_d3_12) rfl rfl ?_
  refine ow_aloadN (q := 14) X1 hx (hb hby own_d3_13) rfl rfl rfl ?_
  obtain ⟨T4, X4, e4, st4⟩ := getF X1 hx hZ hown (host := "") (Or.inl (hw _ (List.mem_of_getElem? (i := 11) rfl))) Via.refl e1 HF1 (g := (mkF m 14 #[rv a0, iv p1, iv (3 : Int32)] [(.ref a0), (.int (3 : Int32))])) rfl rfl (hb hby own_d3_14)
  refine ownGo (T' := T4) (f' := (mkF m 17 #[rv a0, iv p1, iv (3 : Int32)] [(.ref ar), (.int (3 : Int32))])) (st4) ?_
  refine ownGo (T' := T4) (f' := (mkF m 18 #[rv a0, iv p1, iv (3 : Int32)] [(.int (1 : Int32)), (.int (3 : Int32))])) (ownLenI HF2 X4 hx hZ e4 (z := (1 : Int32)) (by decide) (g := (mkF m 17 #[rv a0, iv p1, iv (3 : Int32)] [(.ref ar), (.int (3 : Int32))])) rfl rfl (hb hby own_d3_17)) ?_
  refine ow_icmpNo (q := 21) X4 hx (hb hby own_d3_18) rfl (Jvm.Free.XT.ii_le_f (by decide)) ?_
  refine ow_aloadN (q := 22) X4 hx (hb hby own_d3_21) rfl rfl rfl ?_
  refine ow_aloadN (q := 23) X4 hx (hb hby own_d3_22) rfl rfl rfl ?_
  obtain ⟨T5, X5, e5, st5⟩ := getF X4 hx hZ hown (host := "") (Or.inl (hw _ (List.mem_of_getElem? (i := 11) rfl))) Via.refl e4 HF1 (g := (mkF m 23 #[rv a0, iv p1, iv (3 : Int32)] [(.ref a0), (.ref a0)])) rfl rfl (hb hby own_d3_23)
  refine ownGo (T' := T5) (f' := (mkF m 26 #[rv a0, iv p1, iv (3 : Int32)] [(.ref ar), (.ref a0)])) (st5) ?_
  refine ow_iloadN (q := 27) X5 hx (hb hby own_d3_26) rfl rfl ?_
  obtain ⟨_, _, ⟨T6, L6, k6, n6⟩, -, X6, ⟨Lc6, hQ6, l6, y6, z6⟩, st6⟩ := Jvm.LawKit.callS X5 hx (y := (⟨"java/util/Arrays", "copyOf", "([ZI)[Z"⟩ : MethodName)) hown (mvT hZ (hw _ (List.mem_of_getElem? (i := 25) rfl))) (mvT hZ (hw _ (List.mem_of_getElem? (i := 26) rfl))) (mvT hZ (hw _ (List.mem_of_getElem? (i := 27) rfl))) (mvT hZ (hw _ (List.mem_of_getElem? (i := 28) rfl))) (by decide) (backOf (W := 1) (rm_copyOf_3 l Z av0 hw [] ar h0 n0 (Nat.le_trans Z0 K0.1) HF2) hZ (hw _ (List.mem_of_getElem? (i := 28) rfl)) (hw _ (List.mem_of_getElem? (i := 27) rfl)) (by decide) (by decide)) (g := (mkF m 27 #[rv a0, iv p1, iv (3 : Int32)] [(.int (3 : Int32)), (.ref ar), (.ref a0)])) rfl (by rw [hml]; rfl) (argsL := [(.ref ar), (.int (3 : Int32))]) (rest := [(.ref a0)]) (lenOf own_pd1 rfl) rfl (by show 2 * 0 + _ ≤ _; exact Nat.le_of_eq rfl) (hb hby own_d3_27) (fun _ _ => ⟨rfl, e5, (by decide : 0 + 1 ≤ _), (by decide : 0 + 3 ≤ _)⟩)
  dsimp only [Pt.U, Pt.locs, Pt.cells, Pt.slots] at X6 l6 y6 z6 st6 hQ6
  subst l6 y6 z6
  obtain ⟨b6, rfl, N6q, Kq6, sq6_b6, FP6_0⟩ := hQ6
  have N6 := Fr.app N0 N6q
  have K6 : Keep h0 T6.heap [a0] := K0.trans Kq6 all0
  have ne_a0_b6 : a0 ≠ b6 := Nat.ne_of_lt (Nat.lt_of_lt_of_le HF0.lt sq6_b6)
  have ne_ar_b6 : ar ≠ b6 := Nat.ne_of_lt (Nat.lt_of_lt_of_le HF2.lt sq6_b6)
  have sz_b6 : h0.size ≤ b6 := Nat.le_trans K0.1 sq6_b6
  have G_b6 : n0 ≤ b6 := Nat.le_trans Z0 sz_b6
  have F7 : Exa Z T6.heap a0 "com/example/swarm_tally/swarmtally/ChunkMarks" := HF0.keep Kq6
  have F8 : Fld Z T6.heap a0 "com/example/swarm_tally/swarmtally/ChunkMarks" "changed" "[Z" (.ref ar) := HF1.keep Kq6 nin0
  have F9 : ownAI Z T6.heap ar .boolean 1 (fun _ => (0 : Int32)) := HF2.keep Kq6 nin0
  have F10 : Sta Z T6.heap "com/example/swarm_tally/swarmtally/ChunkMarks" "CHUNK_SHIFT" "I" (.int (10 : Int32)) := ownStaKeep HF3 Kq6 all0
  refine ownGo (T' := T6) (f' := (mkF m 30 #[rv a0, iv p1, iv (3 : Int32)] [(.ref b6), (.ref a0)])) (st6) ?_
  obtain ⟨T11, h11, X11, e11, W11, st11⟩ := putF X6 hx hZ hown (host := "") (Or.inl (hw _ (List.mem_of_getElem? (i := 11) rfl))) Via.refl rfl F8 F7 (Or.inl (hw _ (List.mem_of_getElem? (i := 12) rfl))) (hw _ (List.mem_of_getElem? (i := 2) rfl)) (ty := (.array .boolean)) (by decide) rfl rfl (g := (mkF m 30 #[rv a0, iv p1, iv (3 : Int32)] [(.ref b6), (.ref a0)])) rfl rfl (hb hby own_d3_30)
  have N11 := Fr.snoc X11 N6 G_a0
  have K11 : Keep h0 h11 [a0] := K6.wr W11 (Or.inl (List.mem_of_getElem? (i := 0) rfl))
  have F12 : Exa Z h11 a0 "com/example/swarm_tally/swarmtally/ChunkMarks" := F7.wr W11
  have F13 : Fld Z h11 a0 "com/example/swarm_tally/swarmtally/ChunkMarks" "changed" "[Z" (.ref b6) := F8.same W11
  have F14 : ownAI Z h11 ar .boolean 1 (fun _ => (0 : Int32)) := F9.other W11 (Ne.symm hne)
  have F15 : Sta Z h11 "com/example/swarm_tally/swarmtally/ChunkMarks" "CHUNK_SHIFT" "I" (.int (10 : Int32)) := F10.wr W11
  have F16 : ownAI Z h11 b6 .boolean 3 (fun _ => (0 : Int32)) := FP6_0.other W11 (Ne.symm ne_a0_b6)
  refine ownGo (T' := T11) (f' := (mkF m 33 #[rv a0, iv p1, iv (3 : Int32)] [])) (st11) ?_
  refine ownRetV X11 hx Bd.returns (hb hby own_d3_33) hlk (by decide) (by decide) ?_
  rw [e11]
  exact ⟨b6, rfl, N11, K11, sz_b6, F12, F13, F16⟩
theorem own_ef7_mark_3 (m : MethodId) (a0 : Addr) (p1 : Int32) : entryFrame m #[(.ref a0), (.int p1)] 2 = mkF m 0 #[rv a0, iv p1] [] := by first | (simp [entryFrame, mkF, argsToLocals, Value.category]; done) | rfl
def Q_mark_3 (Z : State) (a0 : Addr) (p1 : Int32) (ar : Addr) (g : Nat → Int32) (h0 : Heap) (n0 : Nat) (v : Option Value) (h : Heap) (L : List Loc) : Prop := v = none ∧ Fr n0 L ∧ Keep h0 h [ar] ∧ ownAI Z h ar .boolean 3 (ownUpd g (own_ix p1) (1 : Int32))
set_option maxRecDepth 65536 in
set_option maxHeartbeats 40000000 in
theorem rm_mark_3 (l : Launch) (Z : State) (av0 : Array Value) (hw : ∀ d ∈ tables_1, d.before av0 Z = true) (ws : List Jvm.Cond) (a0 : Addr) (p1 : Int32) (ar : Addr) (g : Nat → Int32) (h0 : Heap) (n0 : Nat) (Z0 : n0 ≤ h0.size) (HF0 : Fld Z h0 a0 "com/example/swarm_tally/swarmtally/ChunkMarks" "changed" "[Z" (.ref ar)) (HF1 : ownAI Z h0 ar .boolean 3 g) (HF2 : Sta Z h0 "com/example/swarm_tally/swarmtally/ChunkMarks" "CHUNK_SHIFT" "I" (.int (10 : Int32))) (G_ar : n0 ≤ ar) (hin : ownIn ((p1.toUInt32 >>> ((10 : Int32) &&& 31).toUInt32).toInt32) 3) (hne : a0 ≠ ar) :
    MetFree l (⟨"com/example/swarm_tally/swarmtally/ChunkMarks", "mark", "(I)V"⟩ : MethodName) (head1 (Jvm.Cond.code (⟨"com/example/swarm_tally/swarmtally/ChunkMarks", "mark", "(I)V"⟩ : MethodName) prog_5_method_3_code 2 none :: ws) ({ frames := 0, cells := 0, slots := 0, locals := 0 } : Room)) (fun a U => a = #[(.ref a0), (.int p1)] ∧ Z.Warmed39 U.vm ∧ U.heap = h0) (fun _ _ _ _ _ => True) (fun _ U o U' => ∃ v L, o = .returned v ∧ (Q_mark_3 Z a0 p1 ar g h0 n0) v U'.heap L ∧ FrameEnd U o U' L ({ frames := 0, cells := 0, slots := 0, locals := 0 } : Room).cells ({ frames := 0, cells := 0, slots := 0, locals := 0 } : Room).slots) := by
  refine MetFree.of_bodySF (plainFor_of_name own_pn_ChunkMarks) hisR ?_
  intro p e s m args below meth c s₁ Bd hml0 hP hK
  obtain ⟨rfl, hZ, hh⟩ := hP
  have hx := Bd.exec
  have hby := Bd.bytes
  have hml : c.maxLocals = 2 := hml0
  have hown : s.vm.findClass "com/example/swarm_tally/swarmtally/ChunkMarks" = some m.cls := findClass_of_methodNamed Bd.named
  have hnm := (name_of_methodNamed Bd.named Bd.method).1
  have hlk : meth.locks = false := BodyLoose.notSynchronized Bd
  have X0 : Stand p l e ({ frames := 0, cells := 0, slots := 0, locals := 0 } : Room) s m #[(.ref a0), (.int p1)] below meth c s₁ [] 0 0 := Stand.of_body Bd
  have e0 : s₁.heap = h0 := by rw [← hh, Bd.state]; rfl
  have N0 := Fr.nil n0
  have K0 : Keep h0 h0 [ar] := Keep.refl _ _
  show ownEnds p e below s (Q_mark_3 Z a0 p1 ar g h0 n0) ({ frames := 0, cells := 0, slots := 0, locals := 0 } : Room).cells ({ frames := 0, cells := 0, slots := 0, locals := 0 } : Room).slots s₁ (entryFrame m #[(.ref a0), (.int p1)] 2)
  refine ownCast (own_ef7_mark_3 m a0 p1) ?_
  refine ow_aloadN (q := 1) X0 hx (hb hby own_d7_0) rfl rfl rfl ?_
  obtain ⟨T1, X1, e1, st1⟩ := getF X0 hx hZ hown (host := "") (Or.inl (hw _ (List.mem_of_getElem? (i := 11) rfl))) Via.refl e0 HF0 (g := (mkF m 1 #[rv a0, iv p1] [(.ref a0)])) rfl rfl (hb hby own_d7_1)
  refine ownGo (T' := T1) (f' := (mkF m 4 #[rv a0, iv p1] [(.ref ar)])) (st1) ?_
  refine ow_iloadN (q := 5) X1 hx (hb hby own_d7_4) rfl rfl ?_
  obtain ⟨T2, X2, e2, st2⟩ := getS2 X1 hx hZ hown (host := "") (Or.inl (hw _ (List.mem_of_getElem? (i := 18) rfl))) Via.refl e1 HF2 (g := (mkF m 5 #[rv a0, iv p1] [(.int p1), (.ref ar)])) rfl (hb hby own_d7_5)
  refine ownGo (T' := T2) (f' := (mkF m 8 #[rv a0, iv p1] [(.int (10 : Int32)), (.int p1), (.ref ar)])) (st2) ?_
  refine ow_iushr (q := 9) X2 hx _ (hb hby own_d7_8) rfl rfl ?_
  refine ow_iconst (q := 10) X2 hx (1 : Int32) (hb hby own_d7_9) rfl rfl ?_
  generalize hv_v3 : ((p1.toUInt32 >>> ((10 : Int32) &&& 31).toUInt32).toInt32) = v3
  obtain ⟨T4, h4, X4, e4, W4, F4s, st4⟩ := ownZastore HF1 X2 hx hZ e2 (j := v3) (by rw [← hv_v3]; exact hin) (g := (mkF m 10 #[rv a0, iv p1] [(.int (1 : Int32)), (.int v3), (.ref ar)])) rfl rfl (hb hby own_d7_10)
  generalize hg_gf4 : (ownUpd g v3.toNatClampNeg (1 : Int32)) = gf4 at F4s
  have N4 := Fr.snoc X4 N0 G_ar
  have K4 : Keep h0 h4 [ar] := K0.wr W4 (Or.inl (List.mem_of_getElem? (i := 0) rfl))
  have F5 : Fld Z h4 a0 "com/example/swarm_tally/swarmtally/ChunkMarks" "changed" "[Z" (.ref ar) := HF0.other W4 (Or.inl hne)
  have F6 : Sta Z h4 "com/example/swarm_tally/swarmtally/ChunkMarks" "CHUNK_SHIFT" "I" (.int (10 : Int32)) := HF2.wr W4
  refine ownGo (T' := T4) (f' := (mkF m 11 #[rv a0, iv p1] [])) (st4) ?_
  refine ownRetV X4 hx Bd.returns (hb hby own_d7_11) hlk (by decide) (by decide) ?_
  subst hg_gf4 hv_v3
  rw [e4]
  exact ⟨rfl, N4, K4, F4s⟩
theorem own_ef4_next_3 (m : MethodId) (a0 : Addr) (p1 : Int32) : entryFrame m #[(.ref a0), (.int p1)] 3 = mkF m 0 #[rv a0, iv p1, .unset] [] := by first | (simp [entryFrame, mkF, argsToLocals, Value.category]; done) | rfl
def Q_next_3 (Z : State) (a0 : Addr) (p1 : Int32) (ar : Addr) (g : Nat → Int32) (h0 : Heap) (n0 : Nat) (v : Option Value) (h : Heap) (L : List Loc) : Prop := v = some (.int (own_next g 3 p1)) ∧ Fr n0 L ∧ h = h0
set_option maxRecDepth 65536 in
set_option maxHeartbeats 40000000 in
theorem rm_next_3 (l : Launch) (Z : State) (av0 : Array Value) (hw : ∀ d ∈ tables_1, d.before av0 Z = true) (ws : List Jvm.Cond) (a0 : Addr) (p1 : Int32) (ar : Addr) (g : Nat → Int32) (h0 : Heap) (n0 : Nat) (Z0 : n0 ≤ h0.size) (HF0 : Fld Z h0 a0 "com/example/swarm_tally/swarmtally/ChunkMarks" "changed" "[Z" (.ref ar)) (HF1 : ownAI Z h0 ar .boolean 3 g) (hp : 0 ≤ p1.toInt) :
    MetFree l (⟨"com/example/swarm_tally/swarmtally/ChunkMarks", "next", "(I)I"⟩ : MethodName) (head1 (Jvm.Cond.code (⟨"com/example/swarm_tally/swarmtally/ChunkMarks", "next", "(I)I"⟩ : MethodName) prog_5_method_4_code 3 (some .int) :: ws) ({ frames := 0, cells := 0, slots := 0, locals := 0 } : Room)) (fun a U => a = #[(.ref a0), (.int p1)] ∧ Z.Warmed39 U.vm ∧ U.heap = h0) (fun _ _ _ _ _ => True) (fun _ U o U' => ∃ v L, o = .returned v ∧ (Q_next_3 Z a0 p1 ar g h0 n0) v U'.heap L ∧ FrameEnd U o U' L ({ frames := 0, cells := 0, slots := 0, locals := 0 } : Room).cells ({ frames := 0, cells := 0, slots := 0, locals := 0 } : Room).slots) := by
  refine MetFree.of_bodySF (plainFor_of_name own_pn_ChunkMarks) hisR ?_
  intro p e s m args below meth c s₁ Bd hml0 hP hK
  obtain ⟨rfl, hZ, hh⟩ := hP
  have hx := Bd.exec
  have hby := Bd.bytes
  have hml : c.maxLocals = 3 := hml0
  have hown : s.vm.findClass "com/example/swarm_tally/swarmtally/ChunkMarks" = some m.cls := findClass_of_methodNamed Bd.named
  have hnm := (name_of_methodNamed Bd.named Bd.method).1
  have hlk : meth.locks = false := BodyLoose.notSynchronized Bd
  have X0 : Stand p l e ({ frames := 0, cells := 0, slots := 0, locals := 0 } : Room) s m #[(.ref a0), (.int p1)] below meth c s₁ [] 0 0 := Stand.of_body Bd
  have e0 : s₁.heap = h0 := by rw [← hh, Bd.state]; rfl
  have N0 := Fr.nil n0
  have K0 : Keep h0 h0 [] := Keep.refl _ _
  show ownEnds p e below s (Q_next_3 Z a0 p1 ar g h0 n0) ({ frames := 0, cells := 0, slots := 0, locals := 0 } : Room).cells ({ frames := 0, cells := 0, slots := 0, locals := 0 } : Room).slots s₁ (entryFrame m #[(.ref a0), (.int p1)] 3)
  refine ownCast (own_ef4_next_3 m a0 p1) ?_
  refine ow_iloadN (q := 1) X0 hx (hb hby own_d4_0) rfl rfl ?_
  refine ow_istoreN (q := 2) X0 hx (L' := #[rv a0, iv p1, iv p1]) (hb hby own_d4_1) rfl rfl ?_
  have nx3 : own_next g 3 p1 = own_nx g 3 0 → ∀ (Tc1 : State) (lc1 : List Loc), Stand p l e ({ frames := 0, cells := 0, slots := 0, locals := 0 } : Room) s m #[(.ref a0), (.int p1)] below meth c Tc1 lc1 0 0 → Tc1.heap = h0 → Fr n0 lc1 → ownEnds p e below s (Q_next_3 Z a0 p1 ar g h0 n0) ({ frames := 0, cells := 0, slots := 0, locals := 0 } : Room).cells ({ frames := 0, cells := 0, slots := 0, locals := 0 } : Room).slots Tc1 (mkF m 2 #[rv a0, iv p1, iv (3 : Int32)] []) := by
    intro hn3 Tc1 lc1 Xc1 ec1 Nc1
    refine ow_iloadN (q := 3) Xc1 hx (hb hby own_d4_2) rfl rfl ?_
    refine ow_aloadN (q := 4) Xc1 hx (hb hby own_d4_3) rfl rfl rfl ?_
    obtain ⟨T2, X2, e2, st2⟩ := getF Xc1 hx hZ hown (host := "") (Or.inl (hw _ (List.mem_of_getElem? (i := 11) rfl))) Via.refl ec1 HF0 (g := (mkF m 4 #[rv a0, iv p1, iv (3 : Int32)] [(.ref a0), (.int (3 : Int32))])) rfl rfl (hb hby own_d4_4)
    refine ownGo (T' := T2) (f' := (mkF m 7 #[rv a0, iv p1, iv (3 : Int32)] [(.ref ar), (.int (3 : Int32))])) (st2) ?_
    refine ownGo (T' := T2) (f' := (mkF m 8 #[rv a0, iv p1, iv (3 : Int32)] [(.int (3 : Int32)), (.int (3 : Int32))])) (ownLenI HF1 X2 hx hZ e2 (z := (3 : Int32)) (by decide) (g := (mkF m 7 #[rv a0, iv p1, iv (3 : Int32)] [(.ref ar), (.int (3 : Int32))])) rfl rfl (hb hby own_d4_7)) ?_
    refine ow_icmpYes (q := 28) X2 hx (hb hby own_d4_8) (Jvm.Free.XT.ii_ge_t (by decide)) (by decide) (by decide) ?_
    refine ow_iconst (q := 29) X2 hx (-1 : Int32) (hb hby own_d4_28) rfl rfl ?_
    refine ownRetI X2 hx Bd.returns (hb hby own_d4_29) hlk (by decide) (by decide) ?_
    rw [e2]
    refine ⟨congrArg (fun q => some (Value.int q)) ?_, Nc1, rfl⟩
    rw [hn3]
    rfl
  have nx2 : own_next g 3 p1 = own_nx g 2 1 → ∀ (Tc3 : State) (lc3 : List Loc), Stand p l e ({ frames := 0, cells := 0, slots := 0, locals := 0 } : Room) s m #[(.ref a0), (.int p1)] below meth c Tc3 lc3 0 0 → Tc3.heap = h0 → Fr n0 lc3 → ownEnds p e below s (Q_next_3 Z a0 p1 ar g h0 n0) ({ frames := 0, cells := 0, slots := 0, locals := 0 } : Room).cells ({ frames := 0, cells := 0, slots := 0, locals := 0 } : Room).slots Tc3 (mkF m 2 #[rv a0, iv p1, iv (2 : Int32)] []) := by
    intro hn2 Tc3 lc3 Xc3 ec3 Nc3
    refine ow_iloadN (q := 3) Xc3 hx (hb hby own_d4_2) rfl rfl ?_
    refine ow_aloadN (q := 4) Xc3 hx (hb hby own_d4_3) rfl rfl rfl ?_
    obtain ⟨T4, X4, e4, st4⟩ := getF Xc3 hx hZ hown (host := "") (Or.inl (hw _ (List.mem_of_getElem? (i := 11) rfl))) Via.refl ec3 HF0 (g := (mkF m 4 #[rv a0, iv p1, iv (2 : Int32)] [(.ref a0), (.int (2 : Int32))])) rfl rfl (hb hby own_d4_4)
    refine ownGo (T' := T4) (f' := (mkF m 7 #[rv a0, iv p1, iv (2 : Int32)] [(.ref ar), (.int (2 : Int32))])) (st4) ?_
    refine ownGo (T' := T4) (f' := (mkF m 8 #[rv a0, iv p1, iv (2 : Int32)] [(.int (3 : Int32)), (.int (2 : Int32))])) (ownLenI HF1 X4 hx hZ e4 (z := (3 : Int32)) (by decide) (g := (mkF m 7 #[rv a0, iv p1, iv (2 : Int32)] [(.ref ar), (.int (2 : Int32))])) rfl rfl (hb hby own_d4_7)) ?_
    refine ow_icmpNo (q := 11) X4 hx (hb hby own_d4_8) rfl (Jvm.Free.XT.ii_ge_f (by decide)) ?_
    refine ow_aloadN (q := 12) X4 hx (hb hby own_d4_11) rfl rfl rfl ?_
    obtain ⟨T5, X5, e5, st5⟩ := getF X4 hx hZ hown (host := "") (Or.inl (hw _ (List.mem_of_getElem? (i := 11) rfl))) Via.refl e4 HF0 (g := (mkF m 12 #[rv a0, iv p1, iv (2 : Int32)] [(.ref a0)])) rfl rfl (hb hby own_d4_12)
    refine ownGo (T' := T5) (f' := (mkF m 15 #[rv a0, iv p1, iv (2 : Int32)] [(.ref ar)])) (st5) ?_
    refine ow_iloadN (q := 16) X5 hx (hb hby own_d4_15) rfl rfl ?_
    refine ownGo (T' := T5) (f' := (mkF m 17 #[rv a0, iv p1, iv (2 : Int32)] [(.int (g 2))])) (ownZaload HF1 X5 hx hZ e5 (j := (2 : Int32)) (by unfold ownIn; decide) (g := (mkF m 16 #[rv a0, iv p1, iv (2 : Int32)] [(.int (2 : Int32)), (.ref ar)])) rfl rfl (hb hby own_d4_16)) ?_
    generalize hv_v6 : (g 2) = v6
    by_cases hc17_7 : v6 = (0 : Int32)
    · refine ow_ifYes (q := 22) X5 hx (hb hby own_d4_17) (Jvm.Free.XT.i0_eq_t hc17_7) (by decide) (by decide) ?_
      refine ow_iinc (q := 25) X5 hx (L' := #[rv a0, iv p1, iv (3 : Int32)]) (hb hby own_d4_22) rfl rfl rfl ?_
      refine ow_goto (q := 2) X5 hx (hb hby own_d4_25) (by decide) (by decide) ?_
      exact nx3 (by rw [hn2]; show (if g 2 = (0 : Int32) then own_nx g 3 0 else (2 : Int32)) = _; rw [if_pos (hv_v6.trans hc17_7)]) _ _ X5 e5 Nc3
    · refine ow_ifNo (q := 20) X5 hx (hb hby own_d4_17) rfl (Jvm.Free.XT.i0_eq_f hc17_7) ?_
      refine ow_iloadN (q := 21) X5 hx (hb hby own_d4_20) rfl rfl ?_
      refine ownRetI X5 hx Bd.returns (hb hby own_d4_21) hlk (by decide) (by decide) ?_
      subst hv_v6
      rw [e5]
      refine ⟨congrArg (fun q => some (Value.int q)) ?_, Nc3, rfl⟩
      rw [hn2]
      show _ = (if g 2 = (0 : Int32) then own_nx g 3 0 else (2 : Int32))
      rw [if_neg hc17_7]
  have nx1 : own_next g 3 p1 = own_nx g 1 2 → ∀ (Tc8 : State) (lc8 : List Loc), Stand p l e ({ frames := 0, cells := 0, slots := 0, locals := 0 } : Room) s m #[(.ref a0), (.int p1)] below meth c Tc8 lc8 0 0 → Tc8.heap = h0 → Fr n0 lc8 → ownEnds p e below s (Q_next_3 Z a0 p1 ar g h0 n0) ({ frames := 0, cells := 0, slots := 0, locals := 0 } : Room).cells ({ frames := 0, cells := 0, slots := 0, locals := 0 } : Room).slots Tc8 (mkF m 2 #[rv a0, iv p1, iv (1 : Int32)] []) := by
    intro hn1 Tc8 lc8 Xc8 ec8 Nc8
    refine ow_iloadN (q := 3) Xc8 hx (hb hby own_d4_2) rfl rfl ?_
    refine ow_aloadN (q := 4) Xc8 hx (hb hby own_d4_3) rfl rfl rfl ?_
    obtain ⟨T9, X9, e9, st9⟩ := getF Xc8 hx hZ hown (host := "") (Or.inl (hw _ (List.mem_of_getElem? (i := 11) rfl))) Via.refl ec8 HF0 (g := (mkF m 4 #[rv a0, iv p1, iv (1 : Int32)] [(.ref a0), (.int (1 : Int32))])) rfl rfl (hb hby own_d4_4)
    refine ownGo (T' := T9) (f' := (mkF m 7 #[rv a0, iv p1, iv (1 : Int32)] [(.ref ar), (.int (1 : Int32))])) (st9) ?_
    refine ownGo (T' := T9) (f' := (mkF m 8 #[rv a0, iv p1, iv (1 : Int32)] [(.int (3 : Int32)), (.int (1 : Int32))])) (ownLenI HF1 X9 hx hZ e9 (z := (3 : Int32)) (by decide) (g := (mkF m 7 #[rv a0, iv p1, iv (1 : Int32)] [(.ref ar), (.int (1 : Int32))])) rfl rfl (hb hby own_d4_7)) ?_
    refine ow_icmpNo (q := 11) X9 hx (hb hby own_d4_8) rfl (Jvm.Free.XT.ii_ge_f (by decide)) ?_
    refine ow_aloadN (q := 12) X9 hx (hb hby own_d4_11) rfl rfl rfl ?_
    obtain ⟨T10, X10, e10, st10⟩ := getF X9 hx hZ hown (host := "") (Or.inl (hw _ (List.mem_of_getElem? (i := 11) rfl))) Via.refl e9 HF0 (g := (mkF m 12 #[rv a0, iv p1, iv (1 : Int32)] [(.ref a0)])) rfl rfl (hb hby own_d4_12)
    refine ownGo (T' := T10) (f' := (mkF m 15 #[rv a0, iv p1, iv (1 : Int32)] [(.ref ar)])) (st10) ?_
    refine ow_iloadN (q := 16) X10 hx (hb hby own_d4_15) rfl rfl ?_
    refine ownGo (T' := T10) (f' := (mkF m 17 #[rv a0, iv p1, iv (1 : Int32)] [(.int (g 1))])) (ownZaload HF1 X10 hx hZ e10 (j := (1 : Int32)) (by unfold ownIn; decide) (g := (mkF m 16 #[rv a0, iv p1, iv (1 : Int32)] [(.int (1 : Int32)), (.ref ar)])) rfl rfl (hb hby own_d4_16)) ?_
    generalize hv_v11 : (g 1) = v11
    by_cases hc17_12 : v11 = (0 : Int32)
    · refine ow_ifYes (q := 22) X10 hx (hb hby own_d4_17) (Jvm.Free.XT.i0_eq_t hc17_12) (by decide) (by decide) ?_
      refine ow_iinc (q := 25) X10 hx (L' := #[rv a0, iv p1, iv (2 : Int32)]) (hb hby own_d4_22) rfl rfl rfl ?_
      refine ow_goto (q := 2) X10 hx (hb hby own_d4_25) (by decide) (by decide) ?_
      exact nx2 (by rw [hn1]; show (if g 1 = (0 : Int32) then own_nx g 2 1 else (1 : Int32)) = _; rw [if_pos (hv_v11.trans hc17_12)]) _ _ X10 e10 Nc8
    · refine ow_ifNo (q := 20) X10 hx (hb hby own_d4_17) rfl (Jvm.Free.XT.i0_eq_f hc17_12) ?_
      refine ow_iloadN (q := 21) X10 hx (hb hby own_d4_20) rfl rfl ?_
      refine ownRetI X10 hx Bd.returns (hb hby own_d4_21) hlk (by decide) (by decide) ?_
      subst hv_v11
      rw [e10]
      refine ⟨congrArg (fun q => some (Value.int q)) ?_, Nc8, rfl⟩
      rw [hn1]
      show _ = (if g 1 = (0 : Int32) then own_nx g 2 1 else (1 : Int32))
      rw [if_neg hc17_12]
  have nx0 : own_next g 3 p1 = own_nx g 0 3 → ∀ (Tc13 : State) (lc13 : List Loc), Stand p l e ({ frames := 0, cells := 0, slots := 0, locals := 0 } : Room) s m #[(.ref a0), (.int p1)] below meth c Tc13 lc13 0 0 → Tc13.heap = h0 → Fr n0 lc13 → ownEnds p e below s (Q_next_3 Z a0 p1 ar g h0 n0) ({ frames := 0, cells := 0, slots := 0, locals := 0 } : Room).cells ({ frames := 0, cells := 0, slots := 0, locals := 0 } : Room).slots Tc13 (mkF m 2 #[rv a0, iv p1, iv (0 : Int32)] []) := by
    intro hn0 Tc13 lc13 Xc13 ec13 Nc13
    refine ow_iloadN (q := 3) Xc13 hx (hb hby own_d4_2) rfl rfl ?_
    refine ow_aloadN (q := 4) Xc13 hx (hb hby own_d4_3) rfl rfl rfl ?_
    obtain ⟨T14, X14, e14, st14⟩ := getF Xc13 hx hZ hown (host := "") (Or.inl (hw _ (List.mem_of_getElem? (i := 11) rfl))) Via.refl ec13 HF0 (g := (mkF m 4 #[rv a0, iv p1, iv (0 : Int32)] [(.ref a0), (.int (0 : Int32))])) rfl rfl (hb hby own_d4_4)
    refine ownGo (T' := T14) (f' := (mkF m 7 #[rv a0, iv p1, iv (0 : Int32)] [(.ref ar), (.int (0 : Int32))])) (st14) ?_
    refine ownGo (T' := T14) (f' := (mkF m 8 #[rv a0, iv p1, iv (0 : Int32)] [(.int (3 : Int32)), (.int (0 : Int32))])) (ownLenI HF1 X14 hx hZ e14 (z := (3 : Int32)) (by decide) (g := (mkF m 7 #[rv a0, iv p1, iv (0 : Int32)] [(.ref ar), (.int (0 : Int32))])) rfl rfl (hb hby own_d4_7)) ?_
    refine ow_icmpNo (q := 11) X14 hx (hb hby own_d4_8) rfl (Jvm.Free.XT.ii_ge_f (by decide)) ?_
    refine ow_aloadN (q := 12) X14 hx (hb hby own_d4_11) rfl rfl rfl ?_
    obtain ⟨T15, X15, e15, st15⟩ := getF X14 hx hZ hown (host := "") (Or.inl (hw _ (List.mem_of_getElem? (i := 11) rfl))) Via.refl e14 HF0 (g := (mkF m 12 #[rv a0, iv p1, iv (0 : Int32)] [(.ref a0)])) rfl rfl (hb hby own_d4_12)
    refine ownGo (T' := T15) (f' := (mkF m 15 #[rv a0, iv p1, iv (0 : Int32)] [(.ref ar)])) (st15) ?_
    refine ow_iloadN (q := 16) X15 hx (hb hby own_d4_15) rfl rfl ?_
    refine ownGo (T' := T15) (f' := (mkF m 17 #[rv a0, iv p1, iv (0 : Int32)] [(.int (g 0))])) (ownZaload HF1 X15 hx hZ e15 (j := (0 : Int32)) (by unfold ownIn; decide) (g := (mkF m 16 #[rv a0, iv p1, iv (0 : Int32)] [(.int (0 : Int32)), (.ref ar)])) rfl rfl (hb hby own_d4_16)) ?_
    generalize hv_v16 : (g 0) = v16
    by_cases hc17_17 : v16 = (0 : Int32)
    · refine ow_ifYes (q := 22) X15 hx (hb hby own_d4_17) (Jvm.Free.XT.i0_eq_t hc17_17) (by decide) (by decide) ?_
      refine ow_iinc (q := 25) X15 hx (L' := #[rv a0, iv p1, iv (1 : Int32)]) (hb hby own_d4_22) rfl rfl rfl ?_
      refine ow_goto (q := 2) X15 hx (hb hby own_d4_25) (by decide) (by decide) ?_
      exact nx1 (by rw [hn0]; show (if g 0 = (0 : Int32) then own_nx g 1 2 else (0 : Int32)) = _; rw [if_pos (hv_v16.trans hc17_17)]) _ _ X15 e15 Nc13
    · refine ow_ifNo (q := 20) X15 hx (hb hby own_d4_17) rfl (Jvm.Free.XT.i0_eq_f hc17_17) ?_
      refine ow_iloadN (q := 21) X15 hx (hb hby own_d4_20) rfl rfl ?_
      refine ownRetI X15 hx Bd.returns (hb hby own_d4_21) hlk (by decide) (by decide) ?_
      subst hv_v16
      rw [e15]
      refine ⟨congrArg (fun q => some (Value.int q)) ?_, Nc13, rfl⟩
      rw [hn0]
      show _ = (if g 0 = (0 : Int32) then own_nx g 1 2 else (0 : Int32))
      rw [if_neg hc17_17]
  rcases own_cases3 hp with hge | hs0 | hs1 | hs2
  · refine ow_iloadN (q := 3) X0 hx (hb hby own_d4_2) rfl rfl ?_
    refine ow_aloadN (q := 4) X0 hx (hb hby own_d4_3) rfl rfl rfl ?_
    obtain ⟨T18, X18, e18, st18⟩ := getF X0 hx hZ hown (host := "") (Or.inl (hw _ (List.mem_of_getElem? (i := 11) rfl))) Via.refl e0 HF0 (g := (mkF m 4 #[rv a0, iv p1, iv p1] [(.ref a0), (.int p1)])) rfl rfl (hb hby own_d4_4)
    refine ownGo (T' := T18) (f' := (mkF m 7 #[rv a0, iv p1, iv p1] [(.ref ar), (.int p1)])) (st18) ?_
    refine ownGo (T' := T18) (f' := (mkF m 8 #[rv a0, iv p1, iv p1] [(.int (3 : Int32)), (.int p1)])) (ownLenI HF1 X18 hx hZ e18 (z := (3 : Int32)) (by decide) (g := (mkF m 7 #[rv a0, iv p1, iv p1] [(.ref ar), (.int p1)])) rfl rfl (hb hby own_d4_7)) ?_
    refine ow_icmpYes (q := 28) X18 hx (hb hby own_d4_8) (Jvm.Free.XT.ii_ge_t hge) (by decide) (by decide) ?_
    refine ow_iconst (q := 29) X18 hx (-1 : Int32) (hb hby own_d4_28) rfl rfl ?_
    refine ownRetI X18 hx Bd.returns (hb hby own_d4_29) hlk (by decide) (by decide) ?_
    rw [e18]
    refine ⟨congrArg (fun q => some (Value.int q)) ?_, N0, rfl⟩
    exact (own_next_ge hge (by decide)).symm
  · subst hs0
    exact nx0 rfl _ _ X0 e0 N0
  · subst hs1
    exact nx1 rfl _ _ X0 e0 N0
  · subst hs2
    exact nx2 rfl _ _ X0 e0 N0
theorem own_ef6_min_4 (m : MethodId)  : entryFrame m #[(.int (1 : Int32)), (.int (4 : Int32))] 2 = mkF m 0 #[iv (1 : Int32), iv (4 : Int32)] [] := by first | (simp [entryFrame, mkF, argsToLocals, Value.category]; done) | rfl
def Q_min_4 (Z : State)  (h0 : Heap) (n0 : Nat) (v : Option Value) (h : Heap) (L : List Loc) : Prop := v = some (.int (1 : Int32)) ∧ Fr n0 L ∧ h = h0
set_option maxRecDepth 65536 in
set_option maxHeartbeats 40000000 in
theorem rm_min_4 (l : Launch) (Z : State) (av0 : Array Value) (hw : ∀ d ∈ tables_1, d.before av0 Z = true) (ws : List Jvm.Cond)  (h0 : Heap) (n0 : Nat) (Z0 : n0 ≤ h0.size) :
    MetFree l (⟨"java/lang/Math", "min", "(II)I"⟩ : MethodName) (head1 (Jvm.Cond.code (⟨"java/lang/Math", "min", "(II)I"⟩ : MethodName) jdk_29_method_69_code 2 (some .int) :: ws) ({ frames := 0, cells := 0, slots := 0, locals := 0 } : Room)) (fun a U => a = #[(.int (1 : Int32)), (.int (4 : Int32))] ∧ Z.Warmed39 U.vm ∧ U.heap = h0) (fun _ _ _ _ _ => True) (fun _ U o U' => ∃ v L, o = .returned v ∧ (Q_min_4 Z  h0 n0) v U'.heap L ∧ FrameEnd U o U' L ({ frames := 0, cells := 0, slots := 0, locals := 0 } : Room).cells ({ frames := 0, cells := 0, slots := 0, locals := 0 } : Room).slots) := by
  refine MetFree.of_bodySF (Jvm.Free.JP.mathPlain rfl (by decide +kernel)) hisR ?_
  intro p e s m args below meth c s₁ Bd hml0 hP hK
  obtain ⟨rfl, hZ, hh⟩ := hP
  have hx := Bd.exec
  have hby := Bd.bytes
  have hml : c.maxLocals = 2 := hml0
  have hown : s.vm.findClass "java/lang/Math" = some m.cls := findClass_of_methodNamed Bd.named
  have hnm := (name_of_methodNamed Bd.named Bd.method).1
  have hlk : meth.locks = false := BodyLoose.notSynchronized Bd
  have X0 : Stand p l e ({ frames := 0, cells := 0, slots := 0, locals := 0 } : Room) s m #[(.int (1 : Int32)), (.int (4 : Int32))] below meth c s₁ [] 0 0 := Stand.of_body Bd
  have e0 : s₁.heap = h0 := by rw [← hh, Bd.state]; rfl
  have N0 := Fr.nil n0
  have K0 : Keep h0 h0 [] := Keep.refl _ _
  show ownEnds p e below s (Q_min_4 Z  h0 n0) ({ frames := 0, cells := 0, slots := 0, locals := 0 } : Room).cells ({ frames := 0, cells := 0, slots := 0, locals := 0 } : Room).slots s₁ (entryFrame m #[(.int (1 : Int32)), (.int (4 : Int32))] 2)
  refine ownCast (own_ef6_min_4 m ) ?_
  refine ow_iloadN (q := 1) X0 hx (hb hby own_d6_0) rfl rfl ?_
  refine ow_iloadN (q := 2) X0 hx (hb hby own_d6_1) rfl rfl ?_
  refine ow_icmpNo (q := 5) X0 hx (hb hby own_d6_2) rfl (Jvm.Free.XT.ii_gt_f (by decide)) ?_
  refine ow_iloadN (q := 6) X0 hx (hb hby own_d6_5) rfl rfl ?_
  refine ow_goto (q := 10) X0 hx (hb hby own_d6_6) (by decide) (by decide) ?_
  refine ownRetI X0 hx Bd.returns (hb hby own_d6_10) hlk (by decide) (by decide) ?_
  rw [e0]
  exact ⟨rfl, N0, rfl⟩
theorem own_ef5_copyOf_4 (m : MethodId) (a0 : Addr) : entryFrame m #[(.ref a0), (.int (4 : Int32))] 3 = mkF m 0 #[rv a0, iv (4 : Int32), .unset] [] := by first | (simp [entryFrame, mkF, argsToLocals, Value.category]; done) | rfl
def Q_copyOf_4 (Z : State) (a0 : Addr) (h0 : Heap) (n0 : Nat) (v : Option Value) (h : Heap) (L : List Loc) : Prop := ∃ (r : Addr), v = some (.ref r) ∧ Fr n0 L ∧ Keep h0 h [] ∧ h0.size ≤ r ∧ ownAI Z h r .boolean 4 (fun _ => (0 : Int32))
set_option maxRecDepth 65536 in
set_option maxHeartbeats 40000000 in
theorem rm_copyOf_4 (l : Launch) (Z : State) (av0 : Array Value) (hw : ∀ d ∈ tables_1, d.before av0 Z = true) (ws : List Jvm.Cond) (a0 : Addr) (h0 : Heap) (n0 : Nat) (Z0 : n0 ≤ h0.size) (HF0 : ownAI Z h0 a0 .boolean 1 (fun _ => (0 : Int32))) :
    MetFree l (⟨"java/util/Arrays", "copyOf", "([ZI)[Z"⟩ : MethodName) (head1 (Jvm.Cond.code (⟨"java/util/Arrays", "copyOf", "([ZI)[Z"⟩ : MethodName) jdk_65_method_128_code 3 (some (.array .boolean)) :: ws) ({ frames := 1, cells := 1, slots := 4, locals := 18 } : Room)) (fun a U => a = #[(.ref a0), (.int (4 : Int32))] ∧ Z.Warmed39 U.vm ∧ U.heap = h0) (fun _ _ _ _ _ => True) (fun _ U o U' => ∃ v L, o = .returned v ∧ (Q_copyOf_4 Z a0 h0 n0) v U'.heap L ∧ FrameEnd U o U' L ({ frames := 1, cells := 1, slots := 4, locals := 18 } : Room).cells ({ frames := 1, cells := 1, slots := 4, locals := 18 } : Room).slots) := by
  refine MetFree.of_bodySF (plainFor_of_name own_pn_Arrays) hisR ?_
  intro p e s m args below meth c s₁ Bd hml0 hP hK
  obtain ⟨rfl, hZ, hh⟩ := hP
  have hx := Bd.exec
  have hby := Bd.bytes
  have hml : c.maxLocals = 3 := hml0
  have hown : s.vm.findClass "java/util/Arrays" = some m.cls := findClass_of_methodNamed Bd.named
  have hnm := (name_of_methodNamed Bd.named Bd.method).1
  have hlk : meth.locks = false := BodyLoose.notSynchronized Bd
  have X0 : Stand p l e ({ frames := 1, cells := 1, slots := 4, locals := 18 } : Room) s m #[(.ref a0), (.int (4 : Int32))] below meth c s₁ [] 0 0 := Stand.of_body Bd
  have e0 : s₁.heap = h0 := by rw [← hh, Bd.state]; rfl
  have N0 := Fr.nil n0
  have K0 : Keep h0 h0 [] := Keep.refl _ _
  show ownEnds p e below s (Q_copyOf_4 Z a0 h0 n0) ({ frames := 1, cells := 1, slots := 4, locals := 18 } : Room).cells ({ frames := 1, cells := 1, slots := 4, locals := 18 } : Room).slots s₁ (entryFrame m #[(.ref a0), (.int (4 : Int32))] 3)
  refine ownCast (own_ef5_copyOf_4 m a0) ?_
  refine ow_iloadN (q := 1) X0 hx (hb hby own_d5_0) rfl rfl ?_
  refine ow_aloadN (q := 2) X0 hx (hb hby own_d5_1) rfl rfl rfl ?_
  refine ownGo (T' := s₁) (f' := (mkF m 3 #[rv a0, iv (4 : Int32), .unset] [(.int (1 : Int32)), (.int (4 : Int32))])) (ownLenI HF0 X0 hx hZ e0 (z := (1 : Int32)) (by decide) (g := (mkF m 2 #[rv a0, iv (4 : Int32), .unset] [(.ref a0), (.int (4 : Int32))])) rfl rfl (hb hby own_d5_2)) ?_
  refine ow_icmpYes (q := 14) X0 hx (hb hby own_d5_3) (Jvm.Free.XT.ii_ne_t (by decide)) (by decide) (by decide) ?_
  refine ow_iloadN (q := 15) X0 hx (hb hby own_d5_14) rfl rfl ?_
  obtain ⟨T1, h1, k1, X1, e1, E1, A1, st1⟩ := newP X0 hx hZ (hw _ (List.mem_of_getElem? (i := 10) rfl)) e0 (g := (mkF m 15 #[rv a0, iv (4 : Int32), .unset] [(.int (4 : Int32))])) rfl (hb hby own_d5_15) rfl (by decide) (cap := 4) (by decide) (by decide) (by decide) (by decide)
  obtain ⟨b1, g1⟩ : ∃ z, z = h0.size := ⟨_, rfl⟩
  rw [← g1] at A1 st1
  have ne_a0_b1 : a0 ≠ b1 := Nat.ne_of_lt (Nat.lt_of_lt_of_le HF0.lt (Nat.le_of_eq g1.symm))
  have sz_b1 : h0.size ≤ b1 := Nat.le_trans K0.1 (Nat.le_of_eq g1.symm)
  have G_b1 : n0 ≤ b1 := Nat.le_trans Z0 sz_b1
  have K1 : Keep h0 h1 [] := K0.ext E1
  have F2 : ownAI Z h1 a0 .boolean 1 (fun _ => (0 : Int32)) := HF0.ext E1
  have F3 : ownAI Z h1 b1 .boolean 4 (fun _ => (0 : Int32)) := ownAI.new A1 (by decide) rfl (by decide)
  refine ownGo (T' := T1) (f' := (mkF m 17 #[rv a0, iv (4 : Int32), .unset] [(.ref b1)])) (st1) ?_
  refine ow_astoreN (q := 18) X1 hx (L' := #[rv a0, iv (4 : Int32), rv b1]) (hb hby own_d5_17) rfl rfl rfl ?_
  refine ow_aloadN (q := 19) X1 hx (hb hby own_d5_18) rfl rfl rfl ?_
  refine ow_iconst (q := 20) X1 hx (0 : Int32) (hb hby own_d5_19) rfl rfl ?_
  refine ow_aloadN (q := 21) X1 hx (hb hby own_d5_20) rfl rfl rfl ?_
  refine ow_iconst (q := 22) X1 hx (0 : Int32) (hb hby own_d5_21) rfl rfl ?_
  refine ow_aloadN (q := 23) X1 hx (hb hby own_d5_22) rfl rfl rfl ?_
  refine ownGo (T' := T1) (f' := (mkF m 24 #[rv a0, iv (4 : Int32), rv b1] [(.int (1 : Int32)), (.int (0 : Int32)), (.ref b1), (.int (0 : Int32)), (.ref a0)])) (ownLenI F2 X1 hx hZ e1 (z := (1 : Int32)) (by decide) (g := (mkF m 23 #[rv a0, iv (4 : Int32), rv b1] [(.ref a0), (.int (0 : Int32)), (.ref b1), (.int (0 : Int32)), (.ref a0)])) rfl rfl (hb hby own_d5_23)) ?_
  refine ow_iloadN (q := 25) X1 hx (hb hby own_d5_24) rfl rfl ?_
  obtain ⟨_, _, ⟨T4, L4, k4, n4⟩, -, X4, ⟨Lc4, hQ4, l4, y4, z4⟩, st4⟩ := Jvm.LawKit.callS X1 hx (y := (⟨"java/lang/Math", "min", "(II)I"⟩ : MethodName)) hown (mvT hZ (hw _ (List.mem_of_getElem? (i := 29) rfl))) (mvT hZ (hw _ (List.mem_of_getElem? (i := 30) rfl))) (mvT hZ (hw _ (List.mem_of_getElem? (i := 31) rfl))) (mvT hZ (hw _ (List.mem_of_getElem? (i := 32) rfl))) (by decide) (backOf (W := 4) (rm_min_4 l Z av0 hw []  h1 n0 (Nat.le_trans Z0 K1.1) ) hZ (hw _ (List.mem_of_getElem? (i := 32) rfl)) (hw _ (List.mem_of_getElem? (i := 31) rfl)) (by decide) (by decide)) (g := (mkF m 25 #[rv a0, iv (4 : Int32), rv b1] [(.int (4 : Int32)), (.int (1 : Int32)), (.int (0 : Int32)), (.ref b1), (.int (0 : Int32)), (.ref a0)])) rfl (by rw [hml]; rfl) (argsL := [(.int (1 : Int32)), (.int (4 : Int32))]) (rest := [(.int (0 : Int32)), (.ref b1), (.int (0 : Int32)), (.ref a0)]) (lenOf own_pd0 rfl) rfl (by show 2 * 0 + _ ≤ _; exact Nat.le_of_eq rfl) (hb hby own_d5_25) (fun _ _ => ⟨rfl, e1, (by decide : 1 + 0 ≤ _), (by decide : 4 + 0 ≤ _)⟩)
  dsimp only [Pt.U, Pt.locs, Pt.cells, Pt.slots] at X4 l4 y4 z4 st4 hQ4
  subst l4 y4 z4
  obtain ⟨rfl, N4q, e4⟩ := hQ4
  have N4 := Fr.app N0 N4q
  refine ownGo (T' := T4) (f' := (mkF m 28 #[rv a0, iv (4 : Int32), rv b1] [(.int (1 : Int32)), (.int (0 : Int32)), (.ref b1), (.int (0 : Int32)), (.ref a0)])) (st4) ?_
  obtain ⟨T5, h5, L5, X5, e5, N5, Kq5, FC5, st5⟩ := ownCopyI (gr := (fun _ => (0 : Int32))) (z := (1 : Int32)) (z' := (4 : Int32)) (nn := (1 : Int32)) F2 F3 (by decide) (by decide) (by decide) (by decide) rfl (fun _ _ => by decide) (fun _ _ => by decide) X4 hx hZ hown (hw _ (List.mem_of_getElem? (i := 33) rfl)) (hw _ (List.mem_of_getElem? (i := 36) rfl)) (hw _ (List.mem_of_getElem? (i := 34) rfl)) (hw _ (List.mem_of_getElem? (i := 35) rfl)) e4 (by decide) (by decide) (by decide) (fun i hi => by split <;> rfl) N4 G_b1 (g := (mkF m 28 #[rv a0, iv (4 : Int32), rv b1] [(.int (1 : Int32)), (.int (0 : Int32)), (.ref b1), (.int (0 : Int32)), (.ref a0)])) rfl (by rw [hml]; rfl) rfl (hb hby own_d5_28) (by decide) (W := 0) (by show 2 * 0 + _ ≤ _; exact Nat.le_of_eq rfl) (by decide)
  have K5 : Keep h0 h5 [] := K1.trans Kq5 (allS (Or.inr sz_b1) all0)
  have F6 : ownAI Z h5 a0 .boolean 1 (fun _ => (0 : Int32)) := F2.keep Kq5 (ninS ne_a0_b1 nin0)
  refine ownGo (T' := T5) (f' := (mkF m 31 #[rv a0, iv (4 : Int32), rv b1] [])) (st5) ?_
  refine ow_aloadN (q := 32) X5 hx (hb hby own_d5_31) rfl rfl rfl ?_
  refine ownRetR X5 hx rfl rfl rfl Bd.returns (hb hby own_d5_32) hlk (by decide) (by decide) ?_
  rw [e5]
  exact ⟨b1, rfl, N5, K5, sz_b1, FC5⟩
theorem own_ef3_grow_4 (m : MethodId) (a0 : Addr) (p1 : Int32) : entryFrame m #[(.ref a0), (.int p1)] 3 = mkF m 0 #[rv a0, iv p1, .unset] [] := by first | (simp [entryFrame, mkF, argsToLocals, Value.category]; done) | rfl
def Q_grow_4 (Z : State) (a0 : Addr) (p1 : Int32) (ar : Addr) (h0 : Heap) (n0 : Nat) (v : Option Value) (h : Heap) (L : List Loc) : Prop := ∃ (ar2 : Addr), v = none ∧ Fr n0 L ∧ Keep h0 h [a0] ∧ h0.size ≤ ar2 ∧ Exa Z h a0 "com/example/swarm_tally/swarmtally/ChunkMarks" ∧ Fld Z h a0 "com/example/swarm_tally/swarmtally/ChunkMarks" "changed" "[Z" (.ref ar2) ∧ ownAI Z h ar2 .boolean 4 (fun _ => (0 : Int32))
set_option maxRecDepth 65536 in
set_option maxHeartbeats 40000000 in
theorem rm_grow_4 (l : Launch) (Z : State) (av0 : Array Value) (hw : ∀ d ∈ tables_1, d.before av0 Z = true) (ws : List Jvm.Cond) (a0 : Addr) (p1 : Int32) (ar : Addr) (h0 : Heap) (n0 : Nat) (Z0 : n0 ≤ h0.size) (HF0 : Exa Z h0 a0 "com/example/swarm_tally/swarmtally/ChunkMarks") (HF1 : Fld Z h0 a0 "com/example/swarm_tally/swarmtally/ChunkMarks" "changed" "[Z" (.ref ar)) (HF2 : ownAI Z h0 ar .boolean 1 (fun _ => (0 : Int32))) (HF3 : Sta Z h0 "com/example/swarm_tally/swarmtally/ChunkMarks" "CHUNK_SHIFT" "I" (.int (10 : Int32))) (G_a0 : n0 ≤ a0) (hch : ((((p1 + (1024 : Int32)) - (1 : Int32)).toUInt32 >>> ((10 : Int32) &&& 31).toUInt32).toInt32) = (4 : Int32)) (hne : a0 ≠ ar) :
    MetFree l (⟨"com/example/swarm_tally/swarmtally/ChunkMarks", "grow", "(I)V"⟩ : MethodName) (head1 (Jvm.Cond.code (⟨"com/example/swarm_tally/swarmtally/ChunkMarks", "grow", "(I)V"⟩ : MethodName) prog_5_method_2_code 3 none :: ws) ({ frames := 2, cells := 1, slots := 4, locals := 33 } : Room)) (fun a U => a = #[(.ref a0), (.int p1)] ∧ Z.Warmed39 U.vm ∧ U.heap = h0) (fun _ _ _ _ _ => True) (fun _ U o U' => ∃ v L, o = .returned v ∧ (Q_grow_4 Z a0 p1 ar h0 n0) v U'.heap L ∧ FrameEnd U o U' L ({ frames := 2, cells := 1, slots := 4, locals := 33 } : Room).cells ({ frames := 2, cells := 1, slots := 4, locals := 33 } : Room).slots) := by
  refine MetFree.of_bodySF (plainFor_of_name own_pn_ChunkMarks) hisR ?_
  intro p e s m args below meth c s₁ Bd hml0 hP hK
  obtain ⟨rfl, hZ, hh⟩ := hP
  have hx := Bd.exec
  have hby := Bd.bytes
  have hml : c.maxLocals = 3 := hml0
  have hown : s.vm.findClass "com/example/swarm_tally/swarmtally/ChunkMarks" = some m.cls := findClass_of_methodNamed Bd.named
  have hnm := (name_of_methodNamed Bd.named Bd.method).1
  have hlk : meth.locks = false := BodyLoose.notSynchronized Bd
  have X0 : Stand p l e ({ frames := 2, cells := 1, slots := 4, locals := 33 } : Room) s m #[(.ref a0), (.int p1)] below meth c s₁ [] 0 0 := Stand.of_body Bd
  have e0 : s₁.heap = h0 := by rw [← hh, Bd.state]; rfl
  have N0 := Fr.nil n0
  have K0 : Keep h0 h0 [a0] := Keep.refl _ _
  show ownEnds p e below s (Q_grow_4 Z a0 p1 ar h0 n0) ({ frames := 2, cells := 1, slots := 4, locals := 33 } : Room).cells ({ frames := 2, cells := 1, slots := 4, locals := 33 } : Room).slots s₁ (entryFrame m #[(.ref a0), (.int p1)] 3)
  refine ownCast (own_ef3_grow_4 m a0 p1) ?_
  refine ow_iloadN (q := 1) X0 hx (hb hby own_d3_0) rfl rfl ?_
  refine ow_sipush (q := 4) X0 hx (1024 : Int32) (hb hby own_d3_1) rfl rfl ?_
  refine ow_iadd (q := 5) X0 hx _ (hb hby own_d3_4) rfl rfl ?_
  refine ow_iconst (q := 6) X0 hx (1 : Int32) (hb hby own_d3_5) rfl rfl ?_
  refine ow_isub (q := 7) X0 hx _ (hb hby own_d3_6) rfl rfl ?_
  obtain ⟨T1, X1, e1, st1⟩ := getS2 X0 hx hZ hown (host := "") (Or.inl (hw _ (List.mem_of_getElem? (i := 18) rfl))) Via.refl e0 HF3 (g := (mkF m 7 #[rv a0, iv p1, .unset] [(.int ((p1 + (1024 : Int32)) - (1 : Int32)))])) rfl (hb hby own_d3_7)
  refine ownGo (T' := T1) (f' := (mkF m 10 #[rv a0, iv p1, .unset] [(.int (10 : Int32)), (.int ((p1 + (1024 : Int32)) - (1 : Int32)))])) (st1) ?_
  refine ow_iushr (q := 11) X1 hx _ (hb hby own_d3_10) rfl rfl ?_
  generalize hv_v2 : ((((p1 + (1024 : Int32)) - (1 : Int32)).toUInt32 >>> ((10 : Int32) &&& 31).toUInt32).toInt32) = v2
  refine ow_istoreN (q := 12) X1 hx (L' := #[rv a0, iv p1, iv v2]) (hb hby own_d3_11) rfl rfl ?_
  have hs3 := (hv_v2.symm.trans hch)
  subst hs3
  refine ow_iloadN (q := 13) X1 hx (hb hby own_d3_12) rfl rfl ?_
  refine ow_aloadN (q := 14) X1 hx (hb hby own_d3_13) rfl rfl rfl ?_
  obtain ⟨T4, X4, e4, st4⟩ := getF X1 hx hZ hown (host := "") (Or.inl (hw _ (List.mem_of_getElem? (i := 11) rfl))) Via.refl e1 HF1 (g := (mkF m 14 #[rv a0, iv p1, iv (4 : Int32)] [(.ref a0), (.int (4 : Int32))])) rfl rfl (hb hby own_d3_14)
  refine ownGo (T' := T4) (f' := (mkF m 17 #[rv a0, iv p1, iv (4 : Int32)] [(.ref ar), (.int (4 : Int32))])) (st4) ?_
  refine ownGo (T' := T4) (f' := (mkF m 18 #[rv a0, iv p1, iv (4 : Int32)] [(.int (1 : Int32)), (.int (4 : Int32))])) (ownLenI HF2 X4 hx hZ e4 (z := (1 : Int32)) (by decide) (g := (mkF m 17 #[rv a0, iv p1, iv (4 : Int32)] [(.ref ar), (.int (4 : Int32))])) rfl rfl (hb hby own_d3_17)) ?_
  refine ow_icmpNo (q := 21) X4 hx (hb hby own_d3_18) rfl (Jvm.Free.XT.ii_le_f (by decide)) ?_
  refine ow_aloadN (q := 22) X4 hx (hb hby own_d3_21) rfl rfl rfl ?_
  refine ow_aloadN (q := 23) X4 hx (hb hby own_d3_22) rfl rfl rfl ?_
  obtain ⟨T5, X5, e5, st5⟩ := getF X4 hx hZ hown (host := "") (Or.inl (hw _ (List.mem_of_getElem? (i := 11) rfl))) Via.refl e4 HF1 (g := (mkF m 23 #[rv a0, iv p1, iv (4 : Int32)] [(.ref a0), (.ref a0)])) rfl rfl (hb hby own_d3_23)
  refine ownGo (T' := T5) (f' := (mkF m 26 #[rv a0, iv p1, iv (4 : Int32)] [(.ref ar), (.ref a0)])) (st5) ?_
  refine ow_iloadN (q := 27) X5 hx (hb hby own_d3_26) rfl rfl ?_
  obtain ⟨_, _, ⟨T6, L6, k6, n6⟩, -, X6, ⟨Lc6, hQ6, l6, y6, z6⟩, st6⟩ := Jvm.LawKit.callS X5 hx (y := (⟨"java/util/Arrays", "copyOf", "([ZI)[Z"⟩ : MethodName)) hown (mvT hZ (hw _ (List.mem_of_getElem? (i := 25) rfl))) (mvT hZ (hw _ (List.mem_of_getElem? (i := 26) rfl))) (mvT hZ (hw _ (List.mem_of_getElem? (i := 27) rfl))) (mvT hZ (hw _ (List.mem_of_getElem? (i := 28) rfl))) (by decide) (backOf (W := 1) (rm_copyOf_4 l Z av0 hw [] ar h0 n0 (Nat.le_trans Z0 K0.1) HF2) hZ (hw _ (List.mem_of_getElem? (i := 28) rfl)) (hw _ (List.mem_of_getElem? (i := 27) rfl)) (by decide) (by decide)) (g := (mkF m 27 #[rv a0, iv p1, iv (4 : Int32)] [(.int (4 : Int32)), (.ref ar), (.ref a0)])) rfl (by rw [hml]; rfl) (argsL := [(.ref ar), (.int (4 : Int32))]) (rest := [(.ref a0)]) (lenOf own_pd1 rfl) rfl (by show 2 * 0 + _ ≤ _; exact Nat.le_of_eq rfl) (hb hby own_d3_27) (fun _ _ => ⟨rfl, e5, (by decide : 0 + 1 ≤ _), (by decide : 0 + 4 ≤ _)⟩)
  dsimp only [Pt.U, Pt.locs, Pt.cells, Pt.slots] at X6 l6 y6 z6 st6 hQ6
  subst l6 y6 z6
  obtain ⟨b6, rfl, N6q, Kq6, sq6_b6, FP6_0⟩ := hQ6
  have N6 := Fr.app N0 N6q
  have K6 : Keep h0 T6.heap [a0] := K0.trans Kq6 all0
  have ne_a0_b6 : a0 ≠ b6 := Nat.ne_of_lt (Nat.lt_of_lt_of_le HF0.lt sq6_b6)
  have ne_ar_b6 : ar ≠ b6 := Nat.ne_of_lt (Nat.lt_of_lt_of_le HF2.lt sq6_b6)
  have sz_b6 : h0.size ≤ b6 := Nat.le_trans K0.1 sq6_b6
  have G_b6 : n0 ≤ b6 := Nat.le_trans Z0 sz_b6
  have F7 : Exa Z T6.heap a0 "com/example/swarm_tally/swarmtally/ChunkMarks" := HF0.keep Kq6
  have F8 : Fld Z T6.heap a0 "com/example/swarm_tally/swarmtally/ChunkMarks" "changed" "[Z" (.ref ar) := HF1.keep Kq6 nin0
  have F9 : ownAI Z T6.heap ar .boolean 1 (fun _ => (0 : Int32)) := HF2.keep Kq6 nin0
  have F10 : Sta Z T6.heap "com/example/swarm_tally/swarmtally/ChunkMarks" "CHUNK_SHIFT" "I" (.int (10 : Int32)) := ownStaKeep HF3 Kq6 all0
  refine ownGo (T' := T6) (f' := (mkF m 30 #[rv a0, iv p1, iv (4 : Int32)] [(.ref b6), (.ref a0)])) (st6) ?_
  obtain ⟨T11, h11, X11, e11, W11, st11⟩ := putF X6 hx hZ hown (host := "") (Or.inl (hw _ (List.mem_of_getElem? (i := 11) rfl))) Via.refl rfl F8 F7 (Or.inl (hw _ (List.mem_of_getElem? (i := 12) rfl))) (hw _ (List.mem_of_getElem? (i := 2) rfl)) (ty := (.array .boolean)) (by decide) rfl rfl (g := (mkF m 30 #[rv a0, iv p1, iv (4 : Int32)] [(.ref b6), (.ref a0)])) rfl rfl (hb hby own_d3_30)
  have N11 := Fr.snoc X11 N6 G_a0
  have K11 : Keep h0 h11 [a0] := K6.wr W11 (Or.inl (List.mem_of_getElem? (i := 0) rfl))
  have F12 : Exa Z h11 a0 "com/example/swarm_tally/swarmtally/ChunkMarks" := F7.wr W11
  have F13 : Fld Z h11 a0 "com/example/swarm_tally/swarmtally/ChunkMarks" "changed" "[Z" (.ref b6) := F8.same W11
  have F14 : ownAI Z h11 ar .boolean 1 (fun _ => (0 : Int32)) := F9.other W11 (Ne.symm hne)
  have F15 : Sta Z h11 "com/example/swarm_tally/swarmtally/ChunkMarks" "CHUNK_SHIFT" "I" (.int (10 : Int32)) := F10.wr W11
  have F16 : ownAI Z h11 b6 .boolean 4 (fun _ => (0 : Int32)) := FP6_0.other W11 (Ne.symm ne_a0_b6)
  refine ownGo (T' := T11) (f' := (mkF m 33 #[rv a0, iv p1, iv (4 : Int32)] [])) (st11) ?_
  refine ownRetV X11 hx Bd.returns (hb hby own_d3_33) hlk (by decide) (by decide) ?_
  rw [e11]
  exact ⟨b6, rfl, N11, K11, sz_b6, F12, F13, F16⟩
theorem own_ef7_mark_4 (m : MethodId) (a0 : Addr) (p1 : Int32) : entryFrame m #[(.ref a0), (.int p1)] 2 = mkF m 0 #[rv a0, iv p1] [] := by first | (simp [entryFrame, mkF, argsToLocals, Value.category]; done) | rfl
def Q_mark_4 (Z : State) (a0 : Addr) (p1 : Int32) (ar : Addr) (g : Nat → Int32) (h0 : Heap) (n0 : Nat) (v : Option Value) (h : Heap) (L : List Loc) : Prop := v = none ∧ Fr n0 L ∧ Keep h0 h [ar] ∧ ownAI Z h ar .boolean 4 (ownUpd g (own_ix p1) (1 : Int32))
set_option maxRecDepth 65536 in
set_option maxHeartbeats 40000000 in
theorem rm_mark_4 (l : Launch) (Z : State) (av0 : Array Value) (hw : ∀ d ∈ tables_1, d.before av0 Z = true) (ws : List Jvm.Cond) (a0 : Addr) (p1 : Int32) (ar : Addr) (g : Nat → Int32) (h0 : Heap) (n0 : Nat) (Z0 : n0 ≤ h0.size) (HF0 : Fld Z h0 a0 "com/example/swarm_tally/swarmtally/ChunkMarks" "changed" "[Z" (.ref ar)) (HF1 : ownAI Z h0 ar .boolean 4 g) (HF2 : Sta Z h0 "com/example/swarm_tally/swarmtally/ChunkMarks" "CHUNK_SHIFT" "I" (.int (10 : Int32))) (G_ar : n0 ≤ ar) (hin : ownIn ((p1.toUInt32 >>> ((10 : Int32) &&& 31).toUInt32).toInt32) 4) (hne : a0 ≠ ar) :
    MetFree l (⟨"com/example/swarm_tally/swarmtally/ChunkMarks", "mark", "(I)V"⟩ : MethodName) (head1 (Jvm.Cond.code (⟨"com/example/swarm_tally/swarmtally/ChunkMarks", "mark", "(I)V"⟩ : MethodName) prog_5_method_3_code 2 none :: ws) ({ frames := 0, cells := 0, slots := 0, locals := 0 } : Room)) (fun a U => a = #[(.ref a0), (.int p1)] ∧ Z.Warmed39 U.vm ∧ U.heap = h0) (fun _ _ _ _ _ => True) (fun _ U o U' => ∃ v L, o = .returned v ∧ (Q_mark_4 Z a0 p1 ar g h0 n0) v U'.heap L ∧ FrameEnd U o U' L ({ frames := 0, cells := 0, slots := 0, locals := 0 } : Room).cells ({ frames := 0, cells := 0, slots := 0, locals := 0 } : Room).slots) := by
  refine MetFree.of_bodySF (plainFor_of_name own_pn_ChunkMarks) hisR ?_
  intro p e s m args below meth c s₁ Bd hml0 hP hK
  obtain ⟨rfl, hZ, hh⟩ := hP
  have hx := Bd.exec
  have hby := Bd.bytes
  have hml : c.maxLocals = 2 := hml0
  have hown : s.vm.findClass "com/example/swarm_tally/swarmtally/ChunkMarks" = some m.cls := findClass_of_methodNamed Bd.named
  have hnm := (name_of_methodNamed Bd.named Bd.method).1
  have hlk : meth.locks = false := BodyLoose.notSynchronized Bd
  have X0 : Stand p l e ({ frames := 0, cells := 0, slots := 0, locals := 0 } : Room) s m #[(.ref a0), (.int p1)] below meth c s₁ [] 0 0 := Stand.of_body Bd
  have e0 : s₁.heap = h0 := by rw [← hh, Bd.state]; rfl
  have N0 := Fr.nil n0
  have K0 : Keep h0 h0 [ar] := Keep.refl _ _
  show ownEnds p e below s (Q_mark_4 Z a0 p1 ar g h0 n0) ({ frames := 0, cells := 0, slots := 0, locals := 0 } : Room).cells ({ frames := 0, cells := 0, slots := 0, locals := 0 } : Room).slots s₁ (entryFrame m #[(.ref a0), (.int p1)] 2)
  refine ownCast (own_ef7_mark_4 m a0 p1) ?_
  refine ow_aloadN (q := 1) X0 hx (hb hby own_d7_0) rfl rfl rfl ?_
  obtain ⟨T1, X1, e1, st1⟩ := getF X0 hx hZ hown (host := "") (Or.inl (hw _ (List.mem_of_getElem? (i := 11) rfl))) Via.refl e0 HF0 (g := (mkF m 1 #[rv a0, iv p1] [(.ref a0)])) rfl rfl (hb hby own_d7_1)
  refine ownGo (T' := T1) (f' := (mkF m 4 #[rv a0, iv p1] [(.ref ar)])) (st1) ?_
  refine ow_iloadN (q := 5) X1 hx (hb hby own_d7_4) rfl rfl ?_
  obtain ⟨T2, X2, e2, st2⟩ := getS2 X1 hx hZ hown (host := "") (Or.inl (hw _ (List.mem_of_getElem? (i := 18) rfl))) Via.refl e1 HF2 (g := (mkF m 5 #[rv a0, iv p1] [(.int p1), (.ref ar)])) rfl (hb hby own_d7_5)
  refine ownGo (T' := T2) (f' := (mkF m 8 #[rv a0, iv p1] [(.int (10 : Int32)), (.int p1), (.ref ar)])) (st2) ?_
  refine ow_iushr (q := 9) X2 hx _ (hb hby own_d7_8) rfl rfl ?_
  refine ow_iconst (q := 10) X2 hx (1 : Int32) (hb hby own_d7_9) rfl rfl ?_
  generalize hv_v3 : ((p1.toUInt32 >>> ((10 : Int32) &&& 31).toUInt32).toInt32) = v3
  obtain ⟨T4, h4, X4, e4, W4, F4s, st4⟩ := ownZastore HF1 X2 hx hZ e2 (j := v3) (by rw [← hv_v3]; exact hin) (g := (mkF m 10 #[rv a0, iv p1] [(.int (1 : Int32)), (.int v3), (.ref ar)])) rfl rfl (hb hby own_d7_10)
  generalize hg_gf4 : (ownUpd g v3.toNatClampNeg (1 : Int32)) = gf4 at F4s
  have N4 := Fr.snoc X4 N0 G_ar
  have K4 : Keep h0 h4 [ar] := K0.wr W4 (Or.inl (List.mem_of_getElem? (i := 0) rfl))
  have F5 : Fld Z h4 a0 "com/example/swarm_tally/swarmtally/ChunkMarks" "changed" "[Z" (.ref ar) := HF0.other W4 (Or.inl hne)
  have F6 : Sta Z h4 "com/example/swarm_tally/swarmtally/ChunkMarks" "CHUNK_SHIFT" "I" (.int (10 : Int32)) := HF2.wr W4
  refine ownGo (T' := T4) (f' := (mkF m 11 #[rv a0, iv p1] [])) (st4) ?_
  refine ownRetV X4 hx Bd.returns (hb hby own_d7_11) hlk (by decide) (by decide) ?_
  subst hg_gf4 hv_v3
  rw [e4]
  exact ⟨rfl, N4, K4, F4s⟩
theorem own_ef4_next_4 (m : MethodId) (a0 : Addr) (p1 : Int32) : entryFrame m #[(.ref a0), (.int p1)] 3 = mkF m 0 #[rv a0, iv p1, .unset] [] := by first | (simp [entryFrame, mkF, argsToLocals, Value.category]; done) | rfl
def Q_next_4 (Z : State) (a0 : Addr) (p1 : Int32) (ar : Addr) (g : Nat → Int32) (h0 : Heap) (n0 : Nat) (v : Option Value) (h : Heap) (L : List Loc) : Prop := v = some (.int (own_next g 4 p1)) ∧ Fr n0 L ∧ h = h0
set_option maxRecDepth 65536 in
set_option maxHeartbeats 40000000 in
theorem rm_next_4 (l : Launch) (Z : State) (av0 : Array Value) (hw : ∀ d ∈ tables_1, d.before av0 Z = true) (ws : List Jvm.Cond) (a0 : Addr) (p1 : Int32) (ar : Addr) (g : Nat → Int32) (h0 : Heap) (n0 : Nat) (Z0 : n0 ≤ h0.size) (HF0 : Fld Z h0 a0 "com/example/swarm_tally/swarmtally/ChunkMarks" "changed" "[Z" (.ref ar)) (HF1 : ownAI Z h0 ar .boolean 4 g) (hp : 0 ≤ p1.toInt) :
    MetFree l (⟨"com/example/swarm_tally/swarmtally/ChunkMarks", "next", "(I)I"⟩ : MethodName) (head1 (Jvm.Cond.code (⟨"com/example/swarm_tally/swarmtally/ChunkMarks", "next", "(I)I"⟩ : MethodName) prog_5_method_4_code 3 (some .int) :: ws) ({ frames := 0, cells := 0, slots := 0, locals := 0 } : Room)) (fun a U => a = #[(.ref a0), (.int p1)] ∧ Z.Warmed39 U.vm ∧ U.heap = h0) (fun _ _ _ _ _ => True) (fun _ U o U' => ∃ v L, o = .returned v ∧ (Q_next_4 Z a0 p1 ar g h0 n0) v U'.heap L ∧ FrameEnd U o U' L ({ frames := 0, cells := 0, slots := 0, locals := 0 } : Room).cells ({ frames := 0, cells := 0, slots := 0, locals := 0 } : Room).slots) := by
  refine MetFree.of_bodySF (plainFor_of_name own_pn_ChunkMarks) hisR ?_
  intro p e s m args below meth c s₁ Bd hml0 hP hK
  obtain ⟨rfl, hZ, hh⟩ := hP
  have hx := Bd.exec
  have hby := Bd.bytes
  have hml : c.maxLocals = 3 := hml0
  have hown : s.vm.findClass "com/example/swarm_tally/swarmtally/ChunkMarks" = some m.cls := findClass_of_methodNamed Bd.named
  have hnm := (name_of_methodNamed Bd.named Bd.method).1
  have hlk : meth.locks = false := BodyLoose.notSynchronized Bd
  have X0 : Stand p l e ({ frames := 0, cells := 0, slots := 0, locals := 0 } : Room) s m #[(.ref a0), (.int p1)] below meth c s₁ [] 0 0 := Stand.of_body Bd
  have e0 : s₁.heap = h0 := by rw [← hh, Bd.state]; rfl
  have N0 := Fr.nil n0
  have K0 : Keep h0 h0 [] := Keep.refl _ _
  show ownEnds p e below s (Q_next_4 Z a0 p1 ar g h0 n0) ({ frames := 0, cells := 0, slots := 0, locals := 0 } : Room).cells ({ frames := 0, cells := 0, slots := 0, locals := 0 } : Room).slots s₁ (entryFrame m #[(.ref a0), (.int p1)] 3)
  refine ownCast (own_ef4_next_4 m a0 p1) ?_
  refine ow_iloadN (q := 1) X0 hx (hb hby own_d4_0) rfl rfl ?_
  refine ow_istoreN (q := 2) X0 hx (L' := #[rv a0, iv p1, iv p1]) (hb hby own_d4_1) rfl rfl ?_
  have nx4 : own_next g 4 p1 = own_nx g 4 0 → ∀ (Tc1 : State) (lc1 : List Loc), Stand p l e ({ frames := 0, cells := 0, slots := 0, locals := 0 } : Room) s m #[(.ref a0), (.int p1)] below meth c Tc1 lc1 0 0 → Tc1.heap = h0 → Fr n0 lc1 → ownEnds p e below s (Q_next_4 Z a0 p1 ar g h0 n0) ({ frames := 0, cells := 0, slots := 0, locals := 0 } : Room).cells ({ frames := 0, cells := 0, slots := 0, locals := 0 } : Room).slots Tc1 (mkF m 2 #[rv a0, iv p1, iv (4 : Int32)] []) := by
    intro hn4 Tc1 lc1 Xc1 ec1 Nc1
    refine ow_iloadN (q := 3) Xc1 hx (hb hby own_d4_2) rfl rfl ?_
    refine ow_aloadN (q := 4) Xc1 hx (hb hby own_d4_3) rfl rfl rfl ?_
    obtain ⟨T2, X2, e2, st2⟩ := getF Xc1 hx hZ hown (host := "") (Or.inl (hw _ (List.mem_of_getElem? (i := 11) rfl))) Via.refl ec1 HF0 (g := (mkF m 4 #[rv a0, iv p1, iv (4 : Int32)] [(.ref a0), (.int (4 : Int32))])) rfl rfl (hb hby own_d4_4)
    refine ownGo (T' := T2) (f' := (mkF m 7 #[rv a0, iv p1, iv (4 : Int32)] [(.ref ar), (.int (4 : Int32))])) (st2) ?_
    refine ownGo (T' := T2) (f' := (mkF m 8 #[rv a0, iv p1, iv (4 : Int32)] [(.int (4 : Int32)), (.int (4 : Int32))])) (ownLenI HF1 X2 hx hZ e2 (z := (4 : Int32)) (by decide) (g := (mkF m 7 #[rv a0, iv p1, iv (4 : Int32)] [(.ref ar), (.int (4 : Int32))])) rfl rfl (hb hby own_d4_7)) ?_
    refine ow_icmpYes (q := 28) X2 hx (hb hby own_d4_8) (Jvm.Free.XT.ii_ge_t (by decide)) (by decide) (by decide) ?_
    refine ow_iconst (q := 29) X2 hx (-1 : Int32) (hb hby own_d4_28) rfl rfl ?_
    refine ownRetI X2 hx Bd.returns (hb hby own_d4_29) hlk (by decide) (by decide) ?_
    rw [e2]
    refine ⟨congrArg (fun q => some (Value.int q)) ?_, Nc1, rfl⟩
    rw [hn4]
    rfl
  have nx3 : own_next g 4 p1 = own_nx g 3 1 → ∀ (Tc3 : State) (lc3 : List Loc), Stand p l e ({ frames := 0, cells := 0, slots := 0, locals := 0 } : Room) s m #[(.ref a0), (.int p1)] below meth c Tc3 lc3 0 0 → Tc3.heap = h0 → Fr n0 lc3 → ownEnds p e below s (Q_next_4 Z a0 p1 ar g h0 n0) ({ frames := 0, cells := 0, slots := 0, locals := 0 } : Room).cells ({ frames := 0, cells := 0, slots := 0, locals := 0 } : Room).slots Tc3 (mkF m 2 #[rv a0, iv p1, iv (3 : Int32)] []) := by
    intro hn3 Tc3 lc3 Xc3 ec3 Nc3
    refine ow_iloadN (q := 3) Xc3 hx (hb hby own_d4_2) rfl rfl ?_
    refine ow_aloadN (q := 4) Xc3 hx (hb hby own_d4_3) rfl rfl rfl ?_
    obtain ⟨T4, X4, e4, st4⟩ := getF Xc3 hx hZ hown (host := "") (Or.inl (hw _ (List.mem_of_getElem? (i := 11) rfl))) Via.refl ec3 HF0 (g := (mkF m 4 #[rv a0, iv p1, iv (3 : Int32)] [(.ref a0), (.int (3 : Int32))])) rfl rfl (hb hby own_d4_4)
    refine ownGo (T' := T4) (f' := (mkF m 7 #[rv a0, iv p1, iv (3 : Int32)] [(.ref ar), (.int (3 : Int32))])) (st4) ?_
    refine ownGo (T' := T4) (f' := (mkF m 8 #[rv a0, iv p1, iv (3 : Int32)] [(.int (4 : Int32)), (.int (3 : Int32))])) (ownLenI HF1 X4 hx hZ e4 (z := (4 : Int32)) (by decide) (g := (mkF m 7 #[rv a0, iv p1, iv (3 : Int32)] [(.ref ar), (.int (3 : Int32))])) rfl rfl (hb hby own_d4_7)) ?_
    refine ow_icmpNo (q := 11) X4 hx (hb hby own_d4_8) rfl (Jvm.Free.XT.ii_ge_f (by decide)) ?_
    refine ow_aloadN (q := 12) X4 hx (hb hby own_d4_11) rfl rfl rfl ?_
    obtain ⟨T5, X5, e5, st5⟩ := getF X4 hx hZ hown (host := "") (Or.inl (hw _ (List.mem_of_getElem? (i := 11) rfl))) Via.refl e4 HF0 (g := (mkF m 12 #[rv a0, iv p1, iv (3 : Int32)] [(.ref a0)])) rfl rfl (hb hby own_d4_12)
    refine ownGo (T' := T5) (f' := (mkF m 15 #[rv a0, iv p1, iv (3 : Int32)] [(.ref ar)])) (st5) ?_
    refine ow_iloadN (q := 16) X5 hx (hb hby own_d4_15) rfl rfl ?_
    refine ownGo (T' := T5) (f' := (mkF m 17 #[rv a0, iv p1, iv (3 : Int32)] [(.int (g 3))])) (ownZaload HF1 X5 hx hZ e5 (j := (3 : Int32)) (by unfold ownIn; decide) (g := (mkF m 16 #[rv a0, iv p1, iv (3 : Int32)] [(.int (3 : Int32)), (.ref ar)])) rfl rfl (hb hby own_d4_16)) ?_
    generalize hv_v6 : (g 3) = v6
    by_cases hc17_7 : v6 = (0 : Int32)
    · refine ow_ifYes (q := 22) X5 hx (hb hby own_d4_17) (Jvm.Free.XT.i0_eq_t hc17_7) (by decide) (by decide) ?_
      refine ow_iinc (q := 25) X5 hx (L' := #[rv a0, iv p1, iv (4 : Int32)]) (hb hby own_d4_22) rfl rfl rfl ?_
      refine ow_goto (q := 2) X5 hx (hb hby own_d4_25) (by decide) (by decide) ?_
      exact nx4 (by rw [hn3]; show (if g 3 = (0 : Int32) then own_nx g 4 0 else (3 : Int32)) = _; rw [if_pos (hv_v6.trans hc17_7)]) _ _ X5 e5 Nc3
    · refine ow_ifNo (q := 20) X5 hx (hb hby own_d4_17) rfl (Jvm.Free.XT.i0_eq_f hc17_7) ?_
      refine ow_iloadN (q := 21) X5 hx (hb hby own_d4_20) rfl rfl ?_
      refine ownRetI X5 hx Bd.returns (hb hby own_d4_21) hlk (by decide) (by decide) ?_
      subst hv_v6
      rw [e5]
      refine ⟨congrArg (fun q => some (Value.int q)) ?_, Nc3, rfl⟩
      rw [hn3]
      show _ = (if g 3 = (0 : Int32) then own_nx g 4 0 else (3 : Int32))
      rw [if_neg hc17_7]
  have nx2 : own_next g 4 p1 = own_nx g 2 2 → ∀ (Tc8 : State) (lc8 : List Loc), Stand p l e ({ frames := 0, cells := 0, slots := 0, locals := 0 } : Room) s m #[(.ref a0), (.int p1)] below meth c Tc8 lc8 0 0 → Tc8.heap = h0 → Fr n0 lc8 → ownEnds p e below s (Q_next_4 Z a0 p1 ar g h0 n0) ({ frames := 0, cells := 0, slots := 0, locals := 0 } : Room).cells ({ frames := 0, cells := 0, slots := 0, locals := 0 } : Room).slots Tc8 (mkF m 2 #[rv a0, iv p1, iv (2 : Int32)] []) := by
    intro hn2 Tc8 lc8 Xc8 ec8 Nc8
    refine ow_iloadN (q := 3) Xc8 hx (hb hby own_d4_2) rfl rfl ?_
    refine ow_aloadN (q := 4) Xc8 hx (hb hby own_d4_3) rfl rfl rfl ?_
    obtain ⟨T9, X9, e9, st9⟩ := getF Xc8 hx hZ hown (host := "") (Or.inl (hw _ (List.mem_of_getElem? (i := 11) rfl))) Via.refl ec8 HF0 (g := (mkF m 4 #[rv a0, iv p1, iv (2 : Int32)] [(.ref a0), (.int (2 : Int32))])) rfl rfl (hb hby own_d4_4)
    refine ownGo (T' := T9) (f' := (mkF m 7 #[rv a0, iv p1, iv (2 : Int32)] [(.ref ar), (.int (2 : Int32))])) (st9) ?_
    refine ownGo (T' := T9) (f' := (mkF m 8 #[rv a0, iv p1, iv (2 : Int32)] [(.int (4 : Int32)), (.int (2 : Int32))])) (ownLenI HF1 X9 hx hZ e9 (z := (4 : Int32)) (by decide) (g := (mkF m 7 #[rv a0, iv p1, iv (2 : Int32)] [(.ref ar), (.int (2 : Int32))])) rfl rfl (hb hby own_d4_7)) ?_
    refine ow_icmpNo (q := 11) X9 hx (hb hby own_d4_8) rfl (Jvm.Free.XT.ii_ge_f (by decide)) ?_
    refine ow_aloadN (q := 12) X9 hx (hb hby own_d4_11) rfl rfl rfl ?_
    obtain ⟨T10, X10, e10, st10⟩ := getF X9 hx hZ hown (host := "") (Or.inl (hw _ (List.mem_of_getElem? (i := 11) rfl))) Via.refl e9 HF0 (g := (mkF m 12 #[rv a0, iv p1, iv (2 : Int32)] [(.ref a0)])) rfl rfl (hb hby own_d4_12)
    refine ownGo (T' := T10) (f' := (mkF m 15 #[rv a0, iv p1, iv (2 : Int32)] [(.ref ar)])) (st10) ?_
    refine ow_iloadN (q := 16) X10 hx (hb hby own_d4_15) rfl rfl ?_
    refine ownGo (T' := T10) (f' := (mkF m 17 #[rv a0, iv p1, iv (2 : Int32)] [(.int (g 2))])) (ownZaload HF1 X10 hx hZ e10 (j := (2 : Int32)) (by unfold ownIn; decide) (g := (mkF m 16 #[rv a0, iv p1, iv (2 : Int32)] [(.int (2 : Int32)), (.ref ar)])) rfl rfl (hb hby own_d4_16)) ?_
    generalize hv_v11 : (g 2) = v11
    by_cases hc17_12 : v11 = (0 : Int32)
    · refine ow_ifYes (q := 22) X10 hx (hb hby own_d4_17) (Jvm.Free.XT.i0_eq_t hc17_12) (by decide) (by decide) ?_
      refine ow_iinc (q := 25) X10 hx (L' := #[rv a0, iv p1, iv (3 : Int32)]) (hb hby own_d4_22) rfl rfl rfl ?_
      refine ow_goto (q := 2) X10 hx (hb hby own_d4_25) (by decide) (by decide) ?_
      exact nx3 (by rw [hn2]; show (if g 2 = (0 : Int32) then own_nx g 3 1 else (2 : Int32)) = _; rw [if_pos (hv_v11.trans hc17_12)]) _ _ X10 e10 Nc8
    · refine ow_ifNo (q := 20) X10 hx (hb hby own_d4_17) rfl (Jvm.Free.XT.i0_eq_f hc17_12) ?_
      refine ow_iloadN (q := 21) X10 hx (hb hby own_d4_20) rfl rfl ?_
      refine ownRetI X10 hx Bd.returns (hb hby own_d4_21) hlk (by decide) (by decide) ?_
      subst hv_v11
      rw [e10]
      refine ⟨congrArg (fun q => some (Value.int q)) ?_, Nc8, rfl⟩
      rw [hn2]
      show _ = (if g 2 = (0 : Int32) then own_nx g 3 1 else (2 : Int32))
      rw [if_neg hc17_12]
  have nx1 : own_next g 4 p1 = own_nx g 1 3 → ∀ (Tc13 : State) (lc13 : List Loc), Stand p l e ({ frames := 0, cells := 0, slots := 0, locals := 0 } : Room) s m #[(.ref a0), (.int p1)] below meth c Tc13 lc13 0 0 → Tc13.heap = h0 → Fr n0 lc13 → ownEnds p e below s (Q_next_4 Z a0 p1 ar g h0 n0) ({ frames := 0, cells := 0, slots := 0, locals := 0 } : Room).cells ({ frames := 0, cells := 0, slots := 0, locals := 0 } : Room).slots Tc13 (mkF m 2 #[rv a0, iv p1, iv (1 : Int32)] []) := by
    intro hn1 Tc13 lc13 Xc13 ec13 Nc13
    refine ow_iloadN (q := 3) Xc13 hx (hb hby own_d4_2) rfl rfl ?_
    refine ow_aloadN (q := 4) Xc13 hx (hb hby own_d4_3) rfl rfl rfl ?_
    obtain ⟨T14, X14, e14, st14⟩ := getF Xc13 hx hZ hown (host := "") (Or.inl (hw _ (List.mem_of_getElem? (i := 11) rfl))) Via.refl ec13 HF0 (g := (mkF m 4 #[rv a0, iv p1, iv (1 : Int32)] [(.ref a0), (.int (1 : Int32))])) rfl rfl (hb hby own_d4_4)
    refine ownGo (T' := T14) (f' := (mkF m 7 #[rv a0, iv p1, iv (1 : Int32)] [(.ref ar), (.int (1 : Int32))])) (st14) ?_
    refine ownGo (T' := T14) (f' := (mkF m 8 #[rv a0, iv p1, iv (1 : Int32)] [(.int (4 : Int32)), (.int (1 : Int32))])) (ownLenI HF1 X14 hx hZ e14 (z := (4 : Int32)) (by decide) (g := (mkF m 7 #[rv a0, iv p1, iv (1 : Int32)] [(.ref ar), (.int (1 : Int32))])) rfl rfl (hb hby own_d4_7)) ?_
    refine ow_icmpNo (q := 11) X14 hx (hb hby own_d4_8) rfl (Jvm.Free.XT.ii_ge_f (by decide)) ?_
    refine ow_aloadN (q := 12) X14 hx (hb hby own_d4_11) rfl rfl rfl ?_
    obtain ⟨T15, X15, e15, st15⟩ := getF X14 hx hZ hown (host := "") (Or.inl (hw _ (List.mem_of_getElem? (i := 11) rfl))) Via.refl e14 HF0 (g := (mkF m 12 #[rv a0, iv p1, iv (1 : Int32)] [(.ref a0)])) rfl rfl (hb hby own_d4_12)
    refine ownGo (T' := T15) (f' := (mkF m 15 #[rv a0, iv p1, iv (1 : Int32)] [(.ref ar)])) (st15) ?_
    refine ow_iloadN (q := 16) X15 hx (hb hby own_d4_15) rfl rfl ?_
    refine ownGo (T' := T15) (f' := (mkF m 17 #[rv a0, iv p1, iv (1 : Int32)] [(.int (g 1))])) (ownZaload HF1 X15 hx hZ e15 (j := (1 : Int32)) (by unfold ownIn; decide) (g := (mkF m 16 #[rv a0, iv p1, iv (1 : Int32)] [(.int (1 : Int32)), (.ref ar)])) rfl rfl (hb hby own_d4_16)) ?_
    generalize hv_v16 : (g 1) = v16
    by_cases hc17_17 : v16 = (0 : Int32)
    · refine ow_ifYes (q := 22) X15 hx (hb hby own_d4_17) (Jvm.Free.XT.i0_eq_t hc17_17) (by decide) (by decide) ?_
      refine ow_iinc (q := 25) X15 hx (L' := #[rv a0, iv p1, iv (2 : Int32)]) (hb hby own_d4_22) rfl rfl rfl ?_
      refine ow_goto (q := 2) X15 hx (hb hby own_d4_25) (by decide) (by decide) ?_
      exact nx2 (by rw [hn1]; show (if g 1 = (0 : Int32) then own_nx g 2 2 else (1 : Int32)) = _; rw [if_pos (hv_v16.trans hc17_17)]) _ _ X15 e15 Nc13
    · refine ow_ifNo (q := 20) X15 hx (hb hby own_d4_17) rfl (Jvm.Free.XT.i0_eq_f hc17_17) ?_
      refine ow_iloadN (q := 21) X15 hx (hb hby own_d4_20) rfl rfl ?_
      refine ownRetI X15 hx Bd.returns (hb hby own_d4_21) hlk (by decide) (by decide) ?_
      subst hv_v16
      rw [e15]
      refine ⟨congrArg (fun q => some (Value.int q)) ?_, Nc13, rfl⟩
      rw [hn1]
      show _ = (if g 1 = (0 : Int32) then own_nx g 2 2 else (1 : Int32))
      rw [if_neg hc17_17]
  have nx0 : own_next g 4 p1 = own_nx g 0 4 → ∀ (Tc18 : State) (lc18 : List Loc), Stand p l e ({ frames := 0, cells := 0, slots := 0, locals := 0 } : Room) s m #[(.ref a0), (.int p1)] below meth c Tc18 lc18 0 0 → Tc18.heap = h0 → Fr n0 lc18 → ownEnds p e below s (Q_next_4 Z a0 p1 ar g h0 n0) ({ frames := 0, cells := 0, slots := 0, locals := 0 } : Room).cells ({ frames := 0, cells := 0, slots := 0, locals := 0 } : Room).slots Tc18 (mkF m 2 #[rv a0, iv p1, iv (0 : Int32)] []) := by
    intro hn0 Tc18 lc18 Xc18 ec18 Nc18
    refine ow_iloadN (q := 3) Xc18 hx (hb hby own_d4_2) rfl rfl ?_
    refine ow_aloadN (q := 4) Xc18 hx (hb hby own_d4_3) rfl rfl rfl ?_
    obtain ⟨T19, X19, e19, st19⟩ := getF Xc18 hx hZ hown (host := "") (Or.inl (hw _ (List.mem_of_getElem? (i := 11) rfl))) Via.refl ec18 HF0 (g := (mkF m 4 #[rv a0, iv p1, iv (0 : Int32)] [(.ref a0), (.int (0 : Int32))])) rfl rfl (hb hby own_d4_4)
    refine ownGo (T' := T19) (f' := (mkF m 7 #[rv a0, iv p1, iv (0 : Int32)] [(.ref ar), (.int (0 : Int32))])) (st19) ?_
    refine ownGo (T' := T19) (f' := (mkF m 8 #[rv a0, iv p1, iv (0 : Int32)] [(.int (4 : Int32)), (.int (0 : Int32))])) (ownLenI HF1 X19 hx hZ e19 (z := (4 : Int32)) (by decide) (g := (mkF m 7 #[rv a0, iv p1, iv (0 : Int32)] [(.ref ar), (.int (0 : Int32))])) rfl rfl (hb hby own_d4_7)) ?_
    refine ow_icmpNo (q := 11) X19 hx (hb hby own_d4_8) rfl (Jvm.Free.XT.ii_ge_f (by decide)) ?_
    refine ow_aloadN (q := 12) X19 hx (hb hby own_d4_11) rfl rfl rfl ?_
    obtain ⟨T20, X20, e20, st20⟩ := getF X19 hx hZ hown (host := "") (Or.inl (hw _ (List.mem_of_getElem? (i := 11) rfl))) Via.refl e19 HF0 (g := (mkF m 12 #[rv a0, iv p1, iv (0 : Int32)] [(.ref a0)])) rfl rfl (hb hby own_d4_12)
    refine ownGo (T' := T20) (f' := (mkF m 15 #[rv a0, iv p1, iv (0 : Int32)] [(.ref ar)])) (st20) ?_
    refine ow_iloadN (q := 16) X20 hx (hb hby own_d4_15) rfl rfl ?_
    refine ownGo (T' := T20) (f' := (mkF m 17 #[rv a0, iv p1, iv (0 : Int32)] [(.int (g 0))])) (ownZaload HF1 X20 hx hZ e20 (j := (0 : Int32)) (by unfold ownIn; decide) (g := (mkF m 16 #[rv a0, iv p1, iv (0 : Int32)] [(.int (0 : Int32)), (.ref ar)])) rfl rfl (hb hby own_d4_16)) ?_
    generalize hv_v21 : (g 0) = v21
    by_cases hc17_22 : v21 = (0 : Int32)
    · refine ow_ifYes (q := 22) X20 hx (hb hby own_d4_17) (Jvm.Free.XT.i0_eq_t hc17_22) (by decide) (by decide) ?_
      refine ow_iinc (q := 25) X20 hx (L' := #[rv a0, iv p1, iv (1 : Int32)]) (hb hby own_d4_22) rfl rfl rfl ?_
      refine ow_goto (q := 2) X20 hx (hb hby own_d4_25) (by decide) (by decide) ?_
      exact nx1 (by rw [hn0]; show (if g 0 = (0 : Int32) then own_nx g 1 3 else (0 : Int32)) = _; rw [if_pos (hv_v21.trans hc17_22)]) _ _ X20 e20 Nc18
    · refine ow_ifNo (q := 20) X20 hx (hb hby own_d4_17) rfl (Jvm.Free.XT.i0_eq_f hc17_22) ?_
      refine ow_iloadN (q := 21) X20 hx (hb hby own_d4_20) rfl rfl ?_
      refine ownRetI X20 hx Bd.returns (hb hby own_d4_21) hlk (by decide) (by decide) ?_
      subst hv_v21
      rw [e20]
      refine ⟨congrArg (fun q => some (Value.int q)) ?_, Nc18, rfl⟩
      rw [hn0]
      show _ = (if g 0 = (0 : Int32) then own_nx g 1 3 else (0 : Int32))
      rw [if_neg hc17_22]
  rcases own_cases4 hp with hge | hs0 | hs1 | hs2 | hs3
  · refine ow_iloadN (q := 3) X0 hx (hb hby own_d4_2) rfl rfl ?_
    refine ow_aloadN (q := 4) X0 hx (hb hby own_d4_3) rfl rfl rfl ?_
    obtain ⟨T23, X23, e23, st23⟩ := getF X0 hx hZ hown (host := "") (Or.inl (hw _ (List.mem_of_getElem? (i := 11) rfl))) Via.refl e0 HF0 (g := (mkF m 4 #[rv a0, iv p1, iv p1] [(.ref a0), (.int p1)])) rfl rfl (hb hby own_d4_4)
    refine ownGo (T' := T23) (f' := (mkF m 7 #[rv a0, iv p1, iv p1] [(.ref ar), (.int p1)])) (st23) ?_
    refine ownGo (T' := T23) (f' := (mkF m 8 #[rv a0, iv p1, iv p1] [(.int (4 : Int32)), (.int p1)])) (ownLenI HF1 X23 hx hZ e23 (z := (4 : Int32)) (by decide) (g := (mkF m 7 #[rv a0, iv p1, iv p1] [(.ref ar), (.int p1)])) rfl rfl (hb hby own_d4_7)) ?_
    refine ow_icmpYes (q := 28) X23 hx (hb hby own_d4_8) (Jvm.Free.XT.ii_ge_t hge) (by decide) (by decide) ?_
    refine ow_iconst (q := 29) X23 hx (-1 : Int32) (hb hby own_d4_28) rfl rfl ?_
    refine ownRetI X23 hx Bd.returns (hb hby own_d4_29) hlk (by decide) (by decide) ?_
    rw [e23]
    refine ⟨congrArg (fun q => some (Value.int q)) ?_, N0, rfl⟩
    exact (own_next_ge hge (by decide)).symm
  · subst hs0
    exact nx0 rfl _ _ X0 e0 N0
  · subst hs1
    exact nx1 rfl _ _ X0 e0 N0
  · subst hs2
    exact nx2 rfl _ _ X0 e0 N0
  · subst hs3
    exact nx3 rfl _ _ X0 e0 N0
theorem own_ef6_min_5 (m : MethodId)  : entryFrame m #[(.int (1 : Int32)), (.int (5 : Int32))] 2 = mkF m 0 #[iv (1 : Int32), iv (5 : Int32)] [] := by first | (simp [entryFrame, mkF, argsToLocals, Value.category]; done) | rfl
def Q_min_5 (Z : State)  (h0 : Heap) (n0 : Nat) (v : Option Value) (h : Heap) (L : List Loc) : Prop := v = some (.int (1 : Int32)) ∧ Fr n0 L ∧ h = h0
set_option maxRecDepth 65536 in
set_option maxHeartbeats 40000000 in
theorem rm_min_5 (l : Launch) (Z : State) (av0 : Array Value) (hw : ∀ d ∈ tables_1, d.before av0 Z = true) (ws : List Jvm.Cond)  (h0 : Heap) (n0 : Nat) (Z0 : n0 ≤ h0.size) :
    MetFree l (⟨"java/lang/Math", "min", "(II)I"⟩ : MethodName) (head1 (Jvm.Cond.code (⟨"java/lang/Math", "min", "(II)I"⟩ : MethodName) jdk_29_method_69_code 2 (some .int) :: ws) ({ frames := 0, cells := 0, slots := 0, locals := 0 } : Room)) (fun a U => a = #[(.int (1 : Int32)), (.int (5 : Int32))] ∧ Z.Warmed39 U.vm ∧ U.heap = h0) (fun _ _ _ _ _ => True) (fun _ U o U' => ∃ v L, o = .returned v ∧ (Q_min_5 Z  h0 n0) v U'.heap L ∧ FrameEnd U o U' L ({ frames := 0, cells := 0, slots := 0, locals := 0 } : Room).cells ({ frames := 0, cells := 0, slots := 0, locals := 0 } : Room).slots) := by
  refine MetFree.of_bodySF (Jvm.Free.JP.mathPlain rfl (by decide +kernel)) hisR ?_
  intro p e s m args below meth c s₁ Bd hml0 hP hK
  obtain ⟨rfl, hZ, hh⟩ := hP
  have hx := Bd.exec
  have hby := Bd.bytes
  have hml : c.maxLocals = 2 := hml0
  have hown : s.vm.findClass "java/lang/Math" = some m.cls := findClass_of_methodNamed Bd.named
  have hnm := (name_of_methodNamed Bd.named Bd.method).1
  have hlk : meth.locks = false := BodyLoose.notSynchronized Bd
  have X0 : Stand p l e ({ frames := 0, cells := 0, slots := 0, locals := 0 } : Room) s m #[(.int (1 : Int32)), (.int (5 : Int32))] below meth c s₁ [] 0 0 := Stand.of_body Bd
  have e0 : s₁.heap = h0 := by rw [← hh, Bd.state]; rfl
  have N0 := Fr.nil n0
  have K0 : Keep h0 h0 [] := Keep.refl _ _
  show ownEnds p e below s (Q_min_5 Z  h0 n0) ({ frames := 0, cells := 0, slots := 0, locals := 0 } : Room).cells ({ frames := 0, cells := 0, slots := 0, locals := 0 } : Room).slots s₁ (entryFrame m #[(.int (1 : Int32)), (.int (5 : Int32))] 2)
  refine ownCast (own_ef6_min_5 m ) ?_
  refine ow_iloadN (q := 1) X0 hx (hb hby own_d6_0) rfl rfl ?_
  refine ow_iloadN (q := 2) X0 hx (hb hby own_d6_1) rfl rfl ?_
  refine ow_icmpNo (q := 5) X0 hx (hb hby own_d6_2) rfl (Jvm.Free.XT.ii_gt_f (by decide)) ?_
  refine ow_iloadN (q := 6) X0 hx (hb hby own_d6_5) rfl rfl ?_
  refine ow_goto (q := 10) X0 hx (hb hby own_d6_6) (by decide) (by decide) ?_
  refine ownRetI X0 hx Bd.returns (hb hby own_d6_10) hlk (by decide) (by decide) ?_
  rw [e0]
  exact ⟨rfl, N0, rfl⟩
theorem own_ef5_copyOf_5 (m : MethodId) (a0 : Addr) : entryFrame m #[(.ref a0), (.int (5 : Int32))] 3 = mkF m 0 #[rv a0, iv (5 : Int32), .unset] [] := by first | (simp [entryFrame, mkF, argsToLocals, Value.category]; done) | rfl
def Q_copyOf_5 (Z : State) (a0 : Addr) (h0 : Heap) (n0 : Nat) (v : Option Value) (h : Heap) (L : List Loc) : Prop := ∃ (r : Addr), v = some (.ref r) ∧ Fr n0 L ∧ Keep h0 h [] ∧ h0.size ≤ r ∧ ownAI Z h r .boolean 5 (fun _ => (0 : Int32))
set_option maxRecDepth 65536 in
set_option maxHeartbeats 40000000 in
theorem rm_copyOf_5 (l : Launch) (Z : State) (av0 : Array Value) (hw : ∀ d ∈ tables_1, d.before av0 Z = true) (ws : List Jvm.Cond) (a0 : Addr) (h0 : Heap) (n0 : Nat) (Z0 : n0 ≤ h0.size) (HF0 : ownAI Z h0 a0 .boolean 1 (fun _ => (0 : Int32))) :
    MetFree l (⟨"java/util/Arrays", "copyOf", "([ZI)[Z"⟩ : MethodName) (head1 (Jvm.Cond.code (⟨"java/util/Arrays", "copyOf", "([ZI)[Z"⟩ : MethodName) jdk_65_method_128_code 3 (some (.array .boolean)) :: ws) ({ frames := 1, cells := 1, slots := 5, locals := 18 } : Room)) (fun a U => a = #[(.ref a0), (.int (5 : Int32))] ∧ Z.Warmed39 U.vm ∧ U.heap = h0) (fun _ _ _ _ _ => True) (fun _ U o U' => ∃ v L, o = .returned v ∧ (Q_copyOf_5 Z a0 h0 n0) v U'.heap L ∧ FrameEnd U o U' L ({ frames := 1, cells := 1, slots := 5, locals := 18 } : Room).cells ({ frames := 1, cells := 1, slots := 5, locals := 18 } : Room).slots) := by
  refine MetFree.of_bodySF (plainFor_of_name own_pn_Arrays) hisR ?_
  intro p e s m args below meth c s₁ Bd hml0 hP hK
  obtain ⟨rfl, hZ, hh⟩ := hP
  have hx := Bd.exec
  have hby := Bd.bytes
  have hml : c.maxLocals = 3 := hml0
  have hown : s.vm.findClass "java/util/Arrays" = some m.cls := findClass_of_methodNamed Bd.named
  have hnm := (name_of_methodNamed Bd.named Bd.method).1
  have hlk : meth.locks = false := BodyLoose.notSynchronized Bd
  have X0 : Stand p l e ({ frames := 1, cells := 1, slots := 5, locals := 18 } : Room) s m #[(.ref a0), (.int (5 : Int32))] below meth c s₁ [] 0 0 := Stand.of_body Bd
  have e0 : s₁.heap = h0 := by rw [← hh, Bd.state]; rfl
  have N0 := Fr.nil n0
  have K0 : Keep h0 h0 [] := Keep.refl _ _
  show ownEnds p e below s (Q_copyOf_5 Z a0 h0 n0) ({ frames := 1, cells := 1, slots := 5, locals := 18 } : Room).cells ({ frames := 1, cells := 1, slots := 5, locals := 18 } : Room).slots s₁ (entryFrame m #[(.ref a0), (.int (5 : Int32))] 3)
  refine ownCast (own_ef5_copyOf_5 m a0) ?_
  refine ow_iloadN (q := 1) X0 hx (hb hby own_d5_0) rfl rfl ?_
  refine ow_aloadN (q := 2) X0 hx (hb hby own_d5_1) rfl rfl rfl ?_
  refine ownGo (T' := s₁) (f' := (mkF m 3 #[rv a0, iv (5 : Int32), .unset] [(.int (1 : Int32)), (.int (5 : Int32))])) (ownLenI HF0 X0 hx hZ e0 (z := (1 : Int32)) (by decide) (g := (mkF m 2 #[rv a0, iv (5 : Int32), .unset] [(.ref a0), (.int (5 : Int32))])) rfl rfl (hb hby own_d5_2)) ?_
  refine ow_icmpYes (q := 14) X0 hx (hb hby own_d5_3) (Jvm.Free.XT.ii_ne_t (by decide)) (by decide) (by decide) ?_
  refine ow_iloadN (q := 15) X0 hx (hb hby own_d5_14) rfl rfl ?_
  obtain ⟨T1, h1, k1, X1, e1, E1, A1, st1⟩ := newP X0 hx hZ (hw _ (List.mem_of_getElem? (i := 10) rfl)) e0 (g := (mkF m 15 #[rv a0, iv (5 : Int32), .unset] [(.int (5 : Int32))])) rfl (hb hby own_d5_15) rfl (by decide) (cap := 5) (by decide) (by decide) (by decide) (by decide)
  obtain ⟨b1, g1⟩ : ∃ z, z = h0.size := ⟨_, rfl⟩
  rw [← g1] at A1 st1
  have ne_a0_b1 : a0 ≠ b1 := Nat.ne_of_lt (Nat.lt_of_lt_of_le HF0.lt (Nat.le_of_eq g1.symm))
  have sz_b1 : h0.size ≤ b1 := Nat.le_trans K0.1 (Nat.le_of_eq g1.symm)
  have G_b1 : n0 ≤ b1 := Nat.le_trans Z0 sz_b1
  have K1 : Keep h0 h1 [] := K0.ext E1
  have F2 : ownAI Z h1 a0 .boolean 1 (fun _ => (0 : Int32)) := HF0.ext E1
  have F3 : ownAI Z h1 b1 .boolean 5 (fun _ => (0 : Int32)) := ownAI.new A1 (by decide) rfl (by decide)
  refine ownGo (T' := T1) (f' := (mkF m 17 #[rv a0, iv (5 : Int32), .unset] [(.ref b1)])) (st1) ?_
  refine ow_astoreN (q := 18) X1 hx (L' := #[rv a0, iv (5 : Int32), rv b1]) (hb hby own_d5_17) rfl rfl rfl ?_
  refine ow_aloadN (q := 19) X1 hx (hb hby own_d5_18) rfl rfl rfl ?_
  refine ow_iconst (q := 20) X1 hx (0 : Int32) (hb hby own_d5_19) rfl rfl ?_
  refine ow_aloadN (q := 21) X1 hx (hb hby own_d5_20) rfl rfl rfl ?_
  refine ow_iconst (q := 22) X1 hx (0 : Int32) (hb hby own_d5_21) rfl rfl ?_
  refine ow_aloadN (q := 23) X1 hx (hb hby own_d5_22) rfl rfl rfl ?_
  refine ownGo (T' := T1) (f' := (mkF m 24 #[rv a0, iv (5 : Int32), rv b1] [(.int (1 : Int32)), (.int (0 : Int32)), (.ref b1), (.int (0 : Int32)), (.ref a0)])) (ownLenI F2 X1 hx hZ e1 (z := (1 : Int32)) (by decide) (g := (mkF m 23 #[rv a0, iv (5 : Int32), rv b1] [(.ref a0), (.int (0 : Int32)), (.ref b1), (.int (0 : Int32)), (.ref a0)])) rfl rfl (hb hby own_d5_23)) ?_
  refine ow_iloadN (q := 25) X1 hx (hb hby own_d5_24) rfl rfl ?_
  obtain ⟨_, _, ⟨T4, L4, k4, n4⟩, -, X4, ⟨Lc4, hQ4, l4, y4, z4⟩, st4⟩ := Jvm.LawKit.callS X1 hx (y := (⟨"java/lang/Math", "min", "(II)I"⟩ : MethodName)) hown (mvT hZ (hw _ (List.mem_of_getElem? (i := 29) rfl))) (mvT hZ (hw _ (List.mem_of_getElem? (i := 30) rfl))) (mvT hZ (hw _ (List.mem_of_getElem? (i := 31) rfl))) (mvT hZ (hw _ (List.mem_of_getElem? (i := 32) rfl))) (by decide) (backOf (W := 4) (rm_min_5 l Z av0 hw []  h1 n0 (Nat.le_trans Z0 K1.1) ) hZ (hw _ (List.mem_of_getElem? (i := 32) rfl)) (hw _ (List.mem_of_getElem? (i := 31) rfl)) (by decide) (by decide)) (g := (mkF m 25 #[rv a0, iv (5 : Int32), rv b1] [(.int (5 : Int32)), (.int (1 : Int32)), (.int (0 : Int32)), (.ref b1), (.int (0 : Int32)), (.ref a0)])) rfl (by rw [hml]; rfl) (argsL := [(.int (1 : Int32)), (.int (5 : Int32))]) (rest := [(.int (0 : Int32)), (.ref b1), (.int (0 : Int32)), (.ref a0)]) (lenOf own_pd0 rfl) rfl (by show 2 * 0 + _ ≤ _; exact Nat.le_of_eq rfl) (hb hby own_d5_25) (fun _ _ => ⟨rfl, e1, (by decide : 1 + 0 ≤ _), (by decide : 5 + 0 ≤ _)⟩)
  dsimp only [Pt.U, Pt.locs, Pt.cells, Pt.slots] at X4 l4 y4 z4 st4 hQ4
  subst l4 y4 z4
  obtain ⟨rfl, N4q, e4⟩ := hQ4
  have N4 := Fr.app N0 N4q
  refine ownGo (T' := T4) (f' := (mkF m 28 #[rv a0, iv (5 : Int32), rv b1] [(.int (1 : Int32)), (.int (0 : Int32)), (.ref b1), (.int (0 : Int32)), (.ref a0)])) (st4) ?_
  obtain ⟨T5, h5, L5, X5, e5, N5, Kq5, FC5, st5⟩ := ownCopyI (gr := (fun _ => (0 : Int32))) (z := (1 : Int32)) (z' := (5 : Int32)) (nn := (1 : Int32)) F2 F3 (by decide) (by decide) (by decide) (by decide) rfl (fun _ _ => by decide) (fun _ _ => by decide) X4 hx hZ hown (hw _ (List.mem_of_getElem? (i := 33) rfl)) (hw _ (List.mem_of_getElem? (i := 36) rfl)) (hw _ (List.mem_of_getElem? (i := 34) rfl)) (hw _ (List.mem_of_getElem? (i := 35) rfl)) e4 (by decide) (by decide) (by decide) (fun i hi => by split <;> rfl) N4 G_b1 (g := (mkF m 28 #[rv a0, iv (5 : Int32), rv b1] [(.int (1 : Int32)), (.int (0 : Int32)), (.ref b1), (.int (0 : Int32)), (.ref a0)])) rfl (by rw [hml]; rfl) rfl (hb hby own_d5_28) (by decide) (W := 0) (by show 2 * 0 + _ ≤ _; exact Nat.le_of_eq rfl) (by decide)
  have K5 : Keep h0 h5 [] := K1.trans Kq5 (allS (Or.inr sz_b1) all0)
  have F6 : ownAI Z h5 a0 .boolean 1 (fun _ => (0 : Int32)) := F2.keep Kq5 (ninS ne_a0_b1 nin0)
  refine ownGo (T' := T5) (f' := (mkF m 31 #[rv a0, iv (5 : Int32), rv b1] [])) (st5) ?_
  refine ow_aloadN (q := 32) X5 hx (hb hby own_d5_31) rfl rfl rfl ?_
  refine ownRetR X5 hx rfl rfl rfl Bd.returns (hb hby own_d5_32) hlk (by decide) (by decide) ?_
  rw [e5]
  exact ⟨b1, rfl, N5, K5, sz_b1, FC5⟩
theorem own_ef3_grow_5 (m : MethodId) (a0 : Addr) (p1 : Int32) : entryFrame m #[(.ref a0), (.int p1)] 3 = mkF m 0 #[rv a0, iv p1, .unset] [] := by first | (simp [entryFrame, mkF, argsToLocals, Value.category]; done) | rfl
def Q_grow_5 (Z : State) (a0 : Addr) (p1 : Int32) (ar : Addr) (h0 : Heap) (n0 : Nat) (v : Option Value) (h : Heap) (L : List Loc) : Prop := ∃ (ar2 : Addr), v = none ∧ Fr n0 L ∧ Keep h0 h [a0] ∧ h0.size ≤ ar2 ∧ Exa Z h a0 "com/example/swarm_tally/swarmtally/ChunkMarks" ∧ Fld Z h a0 "com/example/swarm_tally/swarmtally/ChunkMarks" "changed" "[Z" (.ref ar2) ∧ ownAI Z h ar2 .boolean 5 (fun _ => (0 : Int32))
set_option maxRecDepth 65536 in
set_option maxHeartbeats 40000000 in
theorem rm_grow_5 (l : Launch) (Z : State) (av0 : Array Value) (hw : ∀ d ∈ tables_1, d.before av0 Z = true) (ws : List Jvm.Cond) (a0 : Addr) (p1 : Int32) (ar : Addr) (h0 : Heap) (n0 : Nat) (Z0 : n0 ≤ h0.size) (HF0 : Exa Z h0 a0 "com/example/swarm_tally/swarmtally/ChunkMarks") (HF1 : Fld Z h0 a0 "com/example/swarm_tally/swarmtally/ChunkMarks" "changed" "[Z" (.ref ar)) (HF2 : ownAI Z h0 ar .boolean 1 (fun _ => (0 : Int32))) (HF3 : Sta Z h0 "com/example/swarm_tally/swarmtally/ChunkMarks" "CHUNK_SHIFT" "I" (.int (10 : Int32))) (G_a0 : n0 ≤ a0) (hch : ((((p1 + (1024 : Int32)) - (1 : Int32)).toUInt32 >>> ((10 : Int32) &&& 31).toUInt32).toInt32) = (5 : Int32)) (hne : a0 ≠ ar) :
    MetFree l (⟨"com/example/swarm_tally/swarmtally/ChunkMarks", "grow", "(I)V"⟩ : MethodName) (head1 (Jvm.Cond.code (⟨"com/example/swarm_tally/swarmtally/ChunkMarks", "grow", "(I)V"⟩ : MethodName) prog_5_method_2_code 3 none :: ws) ({ frames := 2, cells := 1, slots := 5, locals := 33 } : Room)) (fun a U => a = #[(.ref a0), (.int p1)] ∧ Z.Warmed39 U.vm ∧ U.heap = h0) (fun _ _ _ _ _ => True) (fun _ U o U' => ∃ v L, o = .returned v ∧ (Q_grow_5 Z a0 p1 ar h0 n0) v U'.heap L ∧ FrameEnd U o U' L ({ frames := 2, cells := 1, slots := 5, locals := 33 } : Room).cells ({ frames := 2, cells := 1, slots := 5, locals := 33 } : Room).slots) := by
  refine MetFree.of_bodySF (plainFor_of_name own_pn_ChunkMarks) hisR ?_
  intro p e s m args below meth c s₁ Bd hml0 hP hK
  obtain ⟨rfl, hZ, hh⟩ := hP
  have hx := Bd.exec
  have hby := Bd.bytes
  have hml : c.maxLocals = 3 := hml0
  have hown : s.vm.findClass "com/example/swarm_tally/swarmtally/ChunkMarks" = some m.cls := findClass_of_methodNamed Bd.named
  have hnm := (name_of_methodNamed Bd.named Bd.method).1
  have hlk : meth.locks = false := BodyLoose.notSynchronized Bd
  have X0 : Stand p l e ({ frames := 2, cells := 1, slots := 5, locals := 33 } : Room) s m #[(.ref a0), (.int p1)] below meth c s₁ [] 0 0 := Stand.of_body Bd
  have e0 : s₁.heap = h0 := by rw [← hh, Bd.state]; rfl
  have N0 := Fr.nil n0
  have K0 : Keep h0 h0 [a0] := Keep.refl _ _
  show ownEnds p e below s (Q_grow_5 Z a0 p1 ar h0 n0) ({ frames := 2, cells := 1, slots := 5, locals := 33 } : Room).cells ({ frames := 2, cells := 1, slots := 5, locals := 33 } : Room).slots s₁ (entryFrame m #[(.ref a0), (.int p1)] 3)
  refine ownCast (own_ef3_grow_5 m a0 p1) ?_
  refine ow_iloadN (q := 1) X0 hx (hb hby own_d3_0) rfl rfl ?_
  refine ow_sipush (q := 4) X0 hx (1024 : Int32) (hb hby own_d3_1) rfl rfl ?_
  refine ow_iadd (q := 5) X0 hx _ (hb hby own_d3_4) rfl rfl ?_
  refine ow_iconst (q := 6) X0 hx (1 : Int32) (hb hby own_d3_5) rfl rfl ?_
  refine ow_isub (q := 7) X0 hx _ (hb hby own_d3_6) rfl rfl ?_
  obtain ⟨T1, X1, e1, st1⟩ := getS2 X0 hx hZ hown (host := "") (Or.inl (hw _ (List.mem_of_getElem? (i := 18) rfl))) Via.refl e0 HF3 (g := (mkF m 7 #[rv a0, iv p1, .unset] [(.int ((p1 + (1024 : Int32)) - (1 : Int32)))])) rfl (hb hby own_d3_7)
  refine ownGo (T' := T1) (f' := (mkF m 10 #[rv a0, iv p1, .unset] [(.int (10 : Int32)), (.int ((p1 + (1024 : Int32)) - (1 : Int32)))])) (st1) ?_
  refine ow_iushr (q := 11) X1 hx _ (hb hby own_d3_10) rfl rfl ?_
  generalize hv_v2 : ((((p1 + (1024 : Int32)) - (1 : Int32)).toUInt32 >>> ((10 : Int32) &&& 31).toUInt32).toInt32) = v2
  refine ow_istoreN (q := 12) X1 hx (L' := #[rv a0, iv p1, iv v2]) (hb hby own_d3_11) rfl rfl ?_
  have hs3 := (hv_v2.symm.trans hch)
  subst hs3
  refine ow_iloadN (q := 13) X1 hx (hb hby own_d3_12) rfl rfl ?_
  refine ow_aloadN (q := 14) X1 hx (hb hby own_d3_13) rfl rfl rfl ?_
  obtain ⟨T4, X4, e4, st4⟩ := getF X1 hx hZ hown (host := "") (Or.inl (hw _ (List.mem_of_getElem? (i := 11) rfl))) Via.refl e1 HF1 (g := (mkF m 14 #[rv a0, iv p1, iv (5 : Int32)] [(.ref a0), (.int (5 : Int32))])) rfl rfl (hb hby own_d3_14)
  refine ownGo (T' := T4) (f' := (mkF m 17 #[rv a0, iv p1, iv (5 : Int32)] [(.ref ar), (.int (5 : Int32))])) (st4) ?_
  refine ownGo (T' := T4) (f' := (mkF m 18 #[rv a0, iv p1, iv (5 : Int32)] [(.int (1 : Int32)), (.int (5 : Int32))])) (ownLenI HF2 X4 hx hZ e4 (z := (1 : Int32)) (by decide) (g := (mkF m 17 #[rv a0, iv p1, iv (5 : Int32)] [(.ref ar), (.int (5 : Int32))])) rfl rfl (hb hby own_d3_17)) ?_
  refine ow_icmpNo (q := 21) X4 hx (hb hby own_d3_18) rfl (Jvm.Free.XT.ii_le_f (by decide)) ?_
  refine ow_aloadN (q := 22) X4 hx (hb hby own_d3_21) rfl rfl rfl ?_
  refine ow_aloadN (q := 23) X4 hx (hb hby own_d3_22) rfl rfl rfl ?_
  obtain ⟨T5, X5, e5, st5⟩ := getF X4 hx hZ hown (host := "") (Or.inl (hw _ (List.mem_of_getElem? (i := 11) rfl))) Via.refl e4 HF1 (g := (mkF m 23 #[rv a0, iv p1, iv (5 : Int32)] [(.ref a0), (.ref a0)])) rfl rfl (hb hby own_d3_23)
  refine ownGo (T' := T5) (f' := (mkF m 26 #[rv a0, iv p1, iv (5 : Int32)] [(.ref ar), (.ref a0)])) (st5) ?_
  refine ow_iloadN (q := 27) X5 hx (hb hby own_d3_26) rfl rfl ?_
  obtain ⟨_, _, ⟨T6, L6, k6, n6⟩, -, X6, ⟨Lc6, hQ6, l6, y6, z6⟩, st6⟩ := Jvm.LawKit.callS X5 hx (y := (⟨"java/util/Arrays", "copyOf", "([ZI)[Z"⟩ : MethodName)) hown (mvT hZ (hw _ (List.mem_of_getElem? (i := 25) rfl))) (mvT hZ (hw _ (List.mem_of_getElem? (i := 26) rfl))) (mvT hZ (hw _ (List.mem_of_getElem? (i := 27) rfl))) (mvT hZ (hw _ (List.mem_of_getElem? (i := 28) rfl))) (by decide) (backOf (W := 1) (rm_copyOf_5 l Z av0 hw [] ar h0 n0 (Nat.le_trans Z0 K0.1) HF2) hZ (hw _ (List.mem_of_getElem? (i := 28) rfl)) (hw _ (List.mem_of_getElem? (i := 27) rfl)) (by decide) (by decide)) (g := (mkF m 27 #[rv a0, iv p1, iv (5 : Int32)] [(.int (5 : Int32)), (.ref ar), (.ref a0)])) rfl (by rw [hml]; rfl) (argsL := [(.ref ar), (.int (5 : Int32))]) (rest := [(.ref a0)]) (lenOf own_pd1 rfl) rfl (by show 2 * 0 + _ ≤ _; exact Nat.le_of_eq rfl) (hb hby own_d3_27) (fun _ _ => ⟨rfl, e5, (by decide : 0 + 1 ≤ _), (by decide : 0 + 5 ≤ _)⟩)
  dsimp only [Pt.U, Pt.locs, Pt.cells, Pt.slots] at X6 l6 y6 z6 st6 hQ6
  subst l6 y6 z6
  obtain ⟨b6, rfl, N6q, Kq6, sq6_b6, FP6_0⟩ := hQ6
  have N6 := Fr.app N0 N6q
  have K6 : Keep h0 T6.heap [a0] := K0.trans Kq6 all0
  have ne_a0_b6 : a0 ≠ b6 := Nat.ne_of_lt (Nat.lt_of_lt_of_le HF0.lt sq6_b6)
  have ne_ar_b6 : ar ≠ b6 := Nat.ne_of_lt (Nat.lt_of_lt_of_le HF2.lt sq6_b6)
  have sz_b6 : h0.size ≤ b6 := Nat.le_trans K0.1 sq6_b6
  have G_b6 : n0 ≤ b6 := Nat.le_trans Z0 sz_b6
  have F7 : Exa Z T6.heap a0 "com/example/swarm_tally/swarmtally/ChunkMarks" := HF0.keep Kq6
  have F8 : Fld Z T6.heap a0 "com/example/swarm_tally/swarmtally/ChunkMarks" "changed" "[Z" (.ref ar) := HF1.keep Kq6 nin0
  have F9 : ownAI Z T6.heap ar .boolean 1 (fun _ => (0 : Int32)) := HF2.keep Kq6 nin0
  have F10 : Sta Z T6.heap "com/example/swarm_tally/swarmtally/ChunkMarks" "CHUNK_SHIFT" "I" (.int (10 : Int32)) := ownStaKeep HF3 Kq6 all0
  refine ownGo (T' := T6) (f' := (mkF m 30 #[rv a0, iv p1, iv (5 : Int32)] [(.ref b6), (.ref a0)])) (st6) ?_
  obtain ⟨T11, h11, X11, e11, W11, st11⟩ := putF X6 hx hZ hown (host := "") (Or.inl (hw _ (List.mem_of_getElem? (i := 11) rfl))) Via.refl rfl F8 F7 (Or.inl (hw _ (List.mem_of_getElem? (i := 12) rfl))) (hw _ (List.mem_of_getElem? (i := 2) rfl)) (ty := (.array .boolean)) (by decide) rfl rfl (g := (mkF m 30 #[rv a0, iv p1, iv (5 : Int32)] [(.ref b6), (.ref a0)])) rfl rfl (hb hby own_d3_30)
  have N11 := Fr.snoc X11 N6 G_a0
  have K11 : Keep h0 h11 [a0] := K6.wr W11 (Or.inl (List.mem_of_getElem? (i := 0) rfl))
  have F12 : Exa Z h11 a0 "com/example/swarm_tally/swarmtally/ChunkMarks" := F7.wr W11
  have F13 : Fld Z h11 a0 "com/example/swarm_tally/swarmtally/ChunkMarks" "changed" "[Z" (.ref b6) := F8.same W11
  have F14 : ownAI Z h11 ar .boolean 1 (fun _ => (0 : Int32)) := F9.other W11 (Ne.symm hne)
  have F15 : Sta Z h11 "com/example/swarm_tally/swarmtally/ChunkMarks" "CHUNK_SHIFT" "I" (.int (10 : Int32)) := F10.wr W11
  have F16 : ownAI Z h11 b6 .boolean 5 (fun _ => (0 : Int32)) := FP6_0.other W11 (Ne.symm ne_a0_b6)
  refine ownGo (T' := T11) (f' := (mkF m 33 #[rv a0, iv p1, iv (5 : Int32)] [])) (st11) ?_
  refine ownRetV X11 hx Bd.returns (hb hby own_d3_33) hlk (by decide) (by decide) ?_
  rw [e11]
  exact ⟨b6, rfl, N11, K11, sz_b6, F12, F13, F16⟩
theorem own_ef7_mark_5 (m : MethodId) (a0 : Addr) (p1 : Int32) : entryFrame m #[(.ref a0), (.int p1)] 2 = mkF m 0 #[rv a0, iv p1] [] := by first | (simp [entryFrame, mkF, argsToLocals, Value.category]; done) | rfl
def Q_mark_5 (Z : State) (a0 : Addr) (p1 : Int32) (ar : Addr) (g : Nat → Int32) (h0 : Heap) (n0 : Nat) (v : Option Value) (h : Heap) (L : List Loc) : Prop := v = none ∧ Fr n0 L ∧ Keep h0 h [ar] ∧ ownAI Z h ar .boolean 5 (ownUpd g (own_ix p1) (1 : Int32))
set_option maxRecDepth 65536 in
set_option maxHeartbeats 40000000 in
theorem rm_mark_5 (l : Launch) (Z : State) (av0 : Array Value) (hw : ∀ d ∈ tables_1, d.before av0 Z = true) (ws : List Jvm.Cond) (a0 : Addr) (p1 : Int32) (ar : Addr) (g : Nat → Int32) (h0 : Heap) (n0 : Nat) (Z0 : n0 ≤ h0.size) (HF0 : Fld Z h0 a0 "com/example/swarm_tally/swarmtally/ChunkMarks" "changed" "[Z" (.ref ar)) (HF1 : ownAI Z h0 ar .boolean 5 g) (HF2 : Sta Z h0 "com/example/swarm_tally/swarmtally/ChunkMarks" "CHUNK_SHIFT" "I" (.int (10 : Int32))) (G_ar : n0 ≤ ar) (hin : ownIn ((p1.toUInt32 >>> ((10 : Int32) &&& 31).toUInt32).toInt32) 5) (hne : a0 ≠ ar) :
    MetFree l (⟨"com/example/swarm_tally/swarmtally/ChunkMarks", "mark", "(I)V"⟩ : MethodName) (head1 (Jvm.Cond.code (⟨"com/example/swarm_tally/swarmtally/ChunkMarks", "mark", "(I)V"⟩ : MethodName) prog_5_method_3_code 2 none :: ws) ({ frames := 0, cells := 0, slots := 0, locals := 0 } : Room)) (fun a U => a = #[(.ref a0), (.int p1)] ∧ Z.Warmed39 U.vm ∧ U.heap = h0) (fun _ _ _ _ _ => True) (fun _ U o U' => ∃ v L, o = .returned v ∧ (Q_mark_5 Z a0 p1 ar g h0 n0) v U'.heap L ∧ FrameEnd U o U' L ({ frames := 0, cells := 0, slots := 0, locals := 0 } : Room).cells ({ frames := 0, cells := 0, slots := 0, locals := 0 } : Room).slots) := by
  refine MetFree.of_bodySF (plainFor_of_name own_pn_ChunkMarks) hisR ?_
  intro p e s m args below meth c s₁ Bd hml0 hP hK
  obtain ⟨rfl, hZ, hh⟩ := hP
  have hx := Bd.exec
  have hby := Bd.bytes
  have hml : c.maxLocals = 2 := hml0
  have hown : s.vm.findClass "com/example/swarm_tally/swarmtally/ChunkMarks" = some m.cls := findClass_of_methodNamed Bd.named
  have hnm := (name_of_methodNamed Bd.named Bd.method).1
  have hlk : meth.locks = false := BodyLoose.notSynchronized Bd
  have X0 : Stand p l e ({ frames := 0, cells := 0, slots := 0, locals := 0 } : Room) s m #[(.ref a0), (.int p1)] below meth c s₁ [] 0 0 := Stand.of_body Bd
  have e0 : s₁.heap = h0 := by rw [← hh, Bd.state]; rfl
  have N0 := Fr.nil n0
  have K0 : Keep h0 h0 [ar] := Keep.refl _ _
  show ownEnds p e below s (Q_mark_5 Z a0 p1 ar g h0 n0) ({ frames := 0, cells := 0, slots := 0, locals := 0 } : Room).cells ({ frames := 0, cells := 0, slots := 0, locals := 0 } : Room).slots s₁ (entryFrame m #[(.ref a0), (.int p1)] 2)
  refine ownCast (own_ef7_mark_5 m a0 p1) ?_
  refine ow_aloadN (q := 1) X0 hx (hb hby own_d7_0) rfl rfl rfl ?_
  obtain ⟨T1, X1, e1, st1⟩ := getF X0 hx hZ hown (host := "") (Or.inl (hw _ (List.mem_of_getElem? (i := 11) rfl))) Via.refl e0 HF0 (g := (mkF m 1 #[rv a0, iv p1] [(.ref a0)])) rfl rfl (hb hby own_d7_1)
  refine ownGo (T' := T1) (f' := (mkF m 4 #[rv a0, iv p1] [(.ref ar)])) (st1) ?_
  refine ow_iloadN (q := 5) X1 hx (hb hby own_d7_4) rfl rfl ?_
  obtain ⟨T2, X2, e2, st2⟩ := getS2 X1 hx hZ hown (host := "") (Or.inl (hw _ (List.mem_of_getElem? (i := 18) rfl))) Via.refl e1 HF2 (g := (mkF m 5 #[rv a0, iv p1] [(.int p1), (.ref ar)])) rfl (hb hby own_d7_5)
  refine ownGo (T' := T2) (f' := (mkF m 8 #[rv a0, iv p1] [(.int (10 : Int32)), (.int p1), (.ref ar)])) (st2) ?_
  refine ow_iushr (q := 9) X2 hx _ (hb hby own_d7_8) rfl rfl ?_
  refine ow_iconst (q := 10) X2 hx (1 : Int32) (hb hby own_d7_9) rfl rfl ?_
  generalize hv_v3 : ((p1.toUInt32 >>> ((10 : Int32) &&& 31).toUInt32).toInt32) = v3
  obtain ⟨T4, h4, X4, e4, W4, F4s, st4⟩ := ownZastore HF1 X2 hx hZ e2 (j := v3) (by rw [← hv_v3]; exact hin) (g := (mkF m 10 #[rv a0, iv p1] [(.int (1 : Int32)), (.int v3), (.ref ar)])) rfl rfl (hb hby own_d7_10)
  generalize hg_gf4 : (ownUpd g v3.toNatClampNeg (1 : Int32)) = gf4 at F4s
  have N4 := Fr.snoc X4 N0 G_ar
  have K4 : Keep h0 h4 [ar] := K0.wr W4 (Or.inl (List.mem_of_getElem? (i := 0) rfl))
  have F5 : Fld Z h4 a0 "com/example/swarm_tally/swarmtally/ChunkMarks" "changed" "[Z" (.ref ar) := HF0.other W4 (Or.inl hne)
  have F6 : Sta Z h4 "com/example/swarm_tally/swarmtally/ChunkMarks" "CHUNK_SHIFT" "I" (.int (10 : Int32)) := HF2.wr W4
  refine ownGo (T' := T4) (f' := (mkF m 11 #[rv a0, iv p1] [])) (st4) ?_
  refine ownRetV X4 hx Bd.returns (hb hby own_d7_11) hlk (by decide) (by decide) ?_
  subst hg_gf4 hv_v3
  rw [e4]
  exact ⟨rfl, N4, K4, F4s⟩
theorem own_ef4_next_5 (m : MethodId) (a0 : Addr) (p1 : Int32) : entryFrame m #[(.ref a0), (.int p1)] 3 = mkF m 0 #[rv a0, iv p1, .unset] [] := by first | (simp [entryFrame, mkF, argsToLocals, Value.category]; done) | rfl
def Q_next_5 (Z : State) (a0 : Addr) (p1 : Int32) (ar : Addr) (g : Nat → Int32) (h0 : Heap) (n0 : Nat) (v : Option Value) (h : Heap) (L : List Loc) : Prop := v = some (.int (own_next g 5 p1)) ∧ Fr n0 L ∧ h = h0
set_option maxRecDepth 65536 in
set_option maxHeartbeats 40000000 in
theorem rm_next_5 (l : Launch) (Z : State) (av0 : Array Value) (hw : ∀ d ∈ tables_1, d.before av0 Z = true) (ws : List Jvm.Cond) (a0 : Addr) (p1 : Int32) (ar : Addr) (g : Nat → Int32) (h0 : Heap) (n0 : Nat) (Z0 : n0 ≤ h0.size) (HF0 : Fld Z h0 a0 "com/example/swarm_tally/swarmtally/ChunkMarks" "changed" "[Z" (.ref ar)) (HF1 : ownAI Z h0 ar .boolean 5 g) (hp : 0 ≤ p1.toInt) :
    MetFree l (⟨"com/example/swarm_tally/swarmtally/ChunkMarks", "next", "(I)I"⟩ : MethodName) (head1 (Jvm.Cond.code (⟨"com/example/swarm_tally/swarmtally/ChunkMarks", "next", "(I)I"⟩ : MethodName) prog_5_method_4_code 3 (some .int) :: ws) ({ frames := 0, cells := 0, slots := 0, locals := 0 } : Room)) (fun a U => a = #[(.ref a0), (.int p1)] ∧ Z.Warmed39 U.vm ∧ U.heap = h0) (fun _ _ _ _ _ => True) (fun _ U o U' => ∃ v L, o = .returned v ∧ (Q_next_5 Z a0 p1 ar g h0 n0) v U'.heap L ∧ FrameEnd U o U' L ({ frames := 0, cells := 0, slots := 0, locals := 0 } : Room).cells ({ frames := 0, cells := 0, slots := 0, locals := 0 } : Room).slots) := by
  refine MetFree.of_bodySF (plainFor_of_name own_pn_ChunkMarks) hisR ?_
  intro p e s m args below meth c s₁ Bd hml0 hP hK
  obtain ⟨rfl, hZ, hh⟩ := hP
  have hx := Bd.exec
  have hby := Bd.bytes
  have hml : c.maxLocals = 3 := hml0
  have hown : s.vm.findClass "com/example/swarm_tally/swarmtally/ChunkMarks" = some m.cls := findClass_of_methodNamed Bd.named
  have hnm := (name_of_methodNamed Bd.named Bd.method).1
  have hlk : meth.locks = false := BodyLoose.notSynchronized Bd
  have X0 : Stand p l e ({ frames := 0, cells := 0, slots := 0, locals := 0 } : Room) s m #[(.ref a0), (.int p1)] below meth c s₁ [] 0 0 := Stand.of_body Bd
  have e0 : s₁.heap = h0 := by rw [← hh, Bd.state]; rfl
  have N0 := Fr.nil n0
  have K0 : Keep h0 h0 [] := Keep.refl _ _
  show ownEnds p e below s (Q_next_5 Z a0 p1 ar g h0 n0) ({ frames := 0, cells := 0, slots := 0, locals := 0 } : Room).cells ({ frames := 0, cells := 0, slots := 0, locals := 0 } : Room).slots s₁ (entryFrame m #[(.ref a0), (.int p1)] 3)
  refine ownCast (own_ef4_next_5 m a0 p1) ?_
  refine ow_iloadN (q := 1) X0 hx (hb hby own_d4_0) rfl rfl ?_
  refine ow_istoreN (q := 2) X0 hx (L' := #[rv a0, iv p1, iv p1]) (hb hby own_d4_1) rfl rfl ?_
  have nx5 : own_next g 5 p1 = own_nx g 5 0 → ∀ (Tc1 : State) (lc1 : List Loc), Stand p l e ({ frames := 0, cells := 0, slots := 0, locals := 0 } : Room) s m #[(.ref a0), (.int p1)] below meth c Tc1 lc1 0 0 → Tc1.heap = h0 → Fr n0 lc1 → ownEnds p e below s (Q_next_5 Z a0 p1 ar g h0 n0) ({ frames := 0, cells := 0, slots := 0, locals := 0 } : Room).cells ({ frames := 0, cells := 0, slots := 0, locals := 0 } : Room).slots Tc1 (mkF m 2 #[rv a0, iv p1, iv (5 : Int32)] []) := by
    intro hn5 Tc1 lc1 Xc1 ec1 Nc1
    refine ow_iloadN (q := 3) Xc1 hx (hb hby own_d4_2) rfl rfl ?_
    refine ow_aloadN (q := 4) Xc1 hx (hb hby own_d4_3) rfl rfl rfl ?_
    obtain ⟨T2, X2, e2, st2⟩ := getF Xc1 hx hZ hown (host := "") (Or.inl (hw _ (List.mem_of_getElem? (i := 11) rfl))) Via.refl ec1 HF0 (g := (mkF m 4 #[rv a0, iv p1, iv (5 : Int32)] [(.ref a0), (.int (5 : Int32))])) rfl rfl (hb hby own_d4_4)
    refine ownGo (T' := T2) (f' := (mkF m 7 #[rv a0, iv p1, iv (5 : Int32)] [(.ref ar), (.int (5 : Int32))])) (st2) ?_
    refine ownGo (T' := T2) (f' := (mkF m 8 #[rv a0, iv p1, iv (5 : Int32)] [(.int (5 : Int32)), (.int (5 : Int32))])) (ownLenI HF1 X2 hx hZ e2 (z := (5 : Int32)) (by decide) (g := (mkF m 7 #[rv a0, iv p1, iv (5 : Int32)] [(.ref ar), (.int (5 : Int32))])) rfl rfl (hb hby own_d4_7)) ?_
    refine ow_icmpYes (q := 28) X2 hx (hb hby own_d4_8) (Jvm.Free.XT.ii_ge_t (by decide)) (by decide) (by decide) ?_
    refine ow_iconst (q := 29) X2 hx (-1 : Int32) (hb hby own_d4_28) rfl rfl ?_
    refine ownRetI X2 hx Bd.returns (hb hby own_d4_29) hlk (by decide) (by decide) ?_
    rw [e2]
    refine ⟨congrArg (fun q => some (Value.int q)) ?_, Nc1, rfl⟩
    rw [hn5]
    rfl
  have nx4 : own_next g 5 p1 = own_nx g 4 1 → ∀ (Tc3 : State) (lc3 : List Loc), Stand p l e ({ frames := 0, cells := 0, slots := 0, locals := 0 } : Room) s m #[(.ref a0), (.int p1)] below meth c Tc3 lc3 0 0 → Tc3.heap = h0 → Fr n0 lc3 → ownEnds p e below s (Q_next_5 Z a0 p1 ar g h0 n0) ({ frames := 0, cells := 0, slots := 0, locals := 0 } : Room).cells ({ frames := 0, cells := 0, slots := 0, locals := 0 } : Room).slots Tc3 (mkF m 2 #[rv a0, iv p1, iv (4 : Int32)] []) := by
    intro hn4 Tc3 lc3 Xc3 ec3 Nc3
    refine ow_iloadN (q := 3) Xc3 hx (hb hby own_d4_2) rfl rfl ?_
    refine ow_aloadN (q := 4) Xc3 hx (hb hby own_d4_3) rfl rfl rfl ?_
    obtain ⟨T4, X4, e4, st4⟩ := getF Xc3 hx hZ hown (host := "") (Or.inl (hw _ (List.mem_of_getElem? (i := 11) rfl))) Via.refl ec3 HF0 (g := (mkF m 4 #[rv a0, iv p1, iv (4 : Int32)] [(.ref a0), (.int (4 : Int32))])) rfl rfl (hb hby own_d4_4)
    refine ownGo (T' := T4) (f' := (mkF m 7 #[rv a0, iv p1, iv (4 : Int32)] [(.ref ar), (.int (4 : Int32))])) (st4) ?_
    refine ownGo (T' := T4) (f' := (mkF m 8 #[rv a0, iv p1, iv (4 : Int32)] [(.int (5 : Int32)), (.int (4 : Int32))])) (ownLenI HF1 X4 hx hZ e4 (z := (5 : Int32)) (by decide) (g := (mkF m 7 #[rv a0, iv p1, iv (4 : Int32)] [(.ref ar), (.int (4 : Int32))])) rfl rfl (hb hby own_d4_7)) ?_
    refine ow_icmpNo (q := 11) X4 hx (hb hby own_d4_8) rfl (Jvm.Free.XT.ii_ge_f (by decide)) ?_
    refine ow_aloadN (q := 12) X4 hx (hb hby own_d4_11) rfl rfl rfl ?_
    obtain ⟨T5, X5, e5, st5⟩ := getF X4 hx hZ hown (host := "") (Or.inl (hw _ (List.mem_of_getElem? (i := 11) rfl))) Via.refl e4 HF0 (g := (mkF m 12 #[rv a0, iv p1, iv (4 : Int32)] [(.ref a0)])) rfl rfl (hb hby own_d4_12)
    refine ownGo (T' := T5) (f' := (mkF m 15 #[rv a0, iv p1, iv (4 : Int32)] [(.ref ar)])) (st5) ?_
    refine ow_iloadN (q := 16) X5 hx (hb hby own_d4_15) rfl rfl ?_
    refine ownGo (T' := T5) (f' := (mkF m 17 #[rv a0, iv p1, iv (4 : Int32)] [(.int (g 4))])) (ownZaload HF1 X5 hx hZ e5 (j := (4 : Int32)) (by unfold ownIn; decide) (g := (mkF m 16 #[rv a0, iv p1, iv (4 : Int32)] [(.int (4 : Int32)), (.ref ar)])) rfl rfl (hb hby own_d4_16)) ?_
    generalize hv_v6 : (g 4) = v6
    by_cases hc17_7 : v6 = (0 : Int32)
    · refine ow_ifYes (q := 22) X5 hx (hb hby own_d4_17) (Jvm.Free.XT.i0_eq_t hc17_7) (by decide) (by decide) ?_
      refine ow_iinc (q := 25) X5 hx (L' := #[rv a0, iv p1, iv (5 : Int32)]) (hb hby own_d4_22) rfl rfl rfl ?_
      refine ow_goto (q := 2) X5 hx (hb hby own_d4_25) (by decide) (by decide) ?_
      exact nx5 (by rw [hn4]; show (if g 4 = (0 : Int32) then own_nx g 5 0 else (4 : Int32)) = _; rw [if_pos (hv_v6.trans hc17_7)]) _ _ X5 e5 Nc3
    · refine ow_ifNo (q := 20) X5 hx (hb hby own_d4_17) rfl (Jvm.Free.XT.i0_eq_f hc17_7) ?_
      refine ow_iloadN (q := 21) X5 hx (hb hby own_d4_20) rfl rfl ?_
      refine ownRetI X5 hx Bd.returns (hb hby own_d4_21) hlk (by decide) (by decide) ?_
      subst hv_v6
      rw [e5]
      refine ⟨congrArg (fun q => some (Value.int q)) ?_, Nc3, rfl⟩
      rw [hn4]
      show _ = (if g 4 = (0 : Int32) then own_nx g 5 0 else (4 : Int32))
      rw [if_neg hc17_7]
  have nx3 : own_next g 5 p1 = own_nx g 3 2 → ∀ (Tc8 : State) (lc8 : List Loc), Stand p l e ({ frames := 0, cells := 0, slots := 0, locals := 0 } : Room) s m #[(.ref a0), (.int p1)] below meth c Tc8 lc8 0 0 → Tc8.heap = h0 → Fr n0 lc8 → ownEnds p e below s (Q_next_5 Z a0 p1 ar g h0 n0) ({ frames := 0, cells := 0, slots := 0, locals := 0 } : Room).cells ({ frames := 0, cells := 0, slots := 0, locals := 0 } : Room).slots Tc8 (mkF m 2 #[rv a0, iv p1, iv (3 : Int32)] []) := by
    intro hn3 Tc8 lc8 Xc8 ec8 Nc8
    refine ow_iloadN (q := 3) Xc8 hx (hb hby own_d4_2) rfl rfl ?_
    refine ow_aloadN (q := 4) Xc8 hx (hb hby own_d4_3) rfl rfl rfl ?_
    obtain ⟨T9, X9, e9, st9⟩ := getF Xc8 hx hZ hown (host := "") (Or.inl (hw _ (List.mem_of_getElem? (i := 11) rfl))) Via.refl ec8 HF0 (g := (mkF m 4 #[rv a0, iv p1, iv (3 : Int32)] [(.ref a0), (.int (3 : Int32))])) rfl rfl (hb hby own_d4_4)
    refine ownGo (T' := T9) (f' := (mkF m 7 #[rv a0, iv p1, iv (3 : Int32)] [(.ref ar), (.int (3 : Int32))])) (st9) ?_
    refine ownGo (T' := T9) (f' := (mkF m 8 #[rv a0, iv p1, iv (3 : Int32)] [(.int (5 : Int32)), (.int (3 : Int32))])) (ownLenI HF1 X9 hx hZ e9 (z := (5 : Int32)) (by decide) (g := (mkF m 7 #[rv a0, iv p1, iv (3 : Int32)] [(.ref ar), (.int (3 : Int32))])) rfl rfl (hb hby own_d4_7)) ?_
    refine ow_icmpNo (q := 11) X9 hx (hb hby own_d4_8) rfl (Jvm.Free.XT.ii_ge_f (by decide)) ?_
    refine ow_aloadN (q := 12) X9 hx (hb hby own_d4_11) rfl rfl rfl ?_
    obtain ⟨T10, X10, e10, st10⟩ := getF X9 hx hZ hown (host := "") (Or.inl (hw _ (List.mem_of_getElem? (i := 11) rfl))) Via.refl e9 HF0 (g := (mkF m 12 #[rv a0, iv p1, iv (3 : Int32)] [(.ref a0)])) rfl rfl (hb hby own_d4_12)
    refine ownGo (T' := T10) (f' := (mkF m 15 #[rv a0, iv p1, iv (3 : Int32)] [(.ref ar)])) (st10) ?_
    refine ow_iloadN (q := 16) X10 hx (hb hby own_d4_15) rfl rfl ?_
    refine ownGo (T' := T10) (f' := (mkF m 17 #[rv a0, iv p1, iv (3 : Int32)] [(.int (g 3))])) (ownZaload HF1 X10 hx hZ e10 (j := (3 : Int32)) (by unfold ownIn; decide) (g := (mkF m 16 #[rv a0, iv p1, iv (3 : Int32)] [(.int (3 : Int32)), (.ref ar)])) rfl rfl (hb hby own_d4_16)) ?_
    generalize hv_v11 : (g 3) = v11
    by_cases hc17_12 : v11 = (0 : Int32)
    · refine ow_ifYes (q := 22) X10 hx (hb hby own_d4_17) (Jvm.Free.XT.i0_eq_t hc17_12) (by decide) (by decide) ?_
      refine ow_iinc (q := 25) X10 hx (L' := #[rv a0, iv p1, iv (4 : Int32)]) (hb hby own_d4_22) rfl rfl rfl ?_
      refine ow_goto (q := 2) X10 hx (hb hby own_d4_25) (by decide) (by decide) ?_
      exact nx4 (by rw [hn3]; show (if g 3 = (0 : Int32) then own_nx g 4 1 else (3 : Int32)) = _; rw [if_pos (hv_v11.trans hc17_12)]) _ _ X10 e10 Nc8
    · refine ow_ifNo (q := 20) X10 hx (hb hby own_d4_17) rfl (Jvm.Free.XT.i0_eq_f hc17_12) ?_
      refine ow_iloadN (q := 21) X10 hx (hb hby own_d4_20) rfl rfl ?_
      refine ownRetI X10 hx Bd.returns (hb hby own_d4_21) hlk (by decide) (by decide) ?_
      subst hv_v11
      rw [e10]
      refine ⟨congrArg (fun q => some (Value.int q)) ?_, Nc8, rfl⟩
      rw [hn3]
      show _ = (if g 3 = (0 : Int32) then own_nx g 4 1 else (3 : Int32))
      rw [if_neg hc17_12]
  have nx2 : own_next g 5 p1 = own_nx g 2 3 → ∀ (Tc13 : State) (lc13 : List Loc), Stand p l e ({ frames := 0, cells := 0, slots := 0, locals := 0 } : Room) s m #[(.ref a0), (.int p1)] below meth c Tc13 lc13 0 0 → Tc13.heap = h0 → Fr n0 lc13 → ownEnds p e below s (Q_next_5 Z a0 p1 ar g h0 n0) ({ frames := 0, cells := 0, slots := 0, locals := 0 } : Room).cells ({ frames := 0, cells := 0, slots := 0, locals := 0 } : Room).slots Tc13 (mkF m 2 #[rv a0, iv p1, iv (2 : Int32)] []) := by
    intro hn2 Tc13 lc13 Xc13 ec13 Nc13
    refine ow_iloadN (q := 3) Xc13 hx (hb hby own_d4_2) rfl rfl ?_
    refine ow_aloadN (q := 4) Xc13 hx (hb hby own_d4_3) rfl rfl rfl ?_
    obtain ⟨T14, X14, e14, st14⟩ := getF Xc13 hx hZ hown (host := "") (Or.inl (hw _ (List.mem_of_getElem? (i := 11) rfl))) Via.refl ec13 HF0 (g := (mkF m 4 #[rv a0, iv p1, iv (2 : Int32)] [(.ref a0), (.int (2 : Int32))])) rfl rfl (hb hby own_d4_4)
    refine ownGo (T' := T14) (f' := (mkF m 7 #[rv a0, iv p1, iv (2 : Int32)] [(.ref ar), (.int (2 : Int32))])) (st14) ?_
    refine ownGo (T' := T14) (f' := (mkF m 8 #[rv a0, iv p1, iv (2 : Int32)] [(.int (5 : Int32)), (.int (2 : Int32))])) (ownLenI HF1 X14 hx hZ e14 (z := (5 : Int32)) (by decide) (g := (mkF m 7 #[rv a0, iv p1, iv (2 : Int32)] [(.ref ar), (.int (2 : Int32))])) rfl rfl (hb hby own_d4_7)) ?_
    refine ow_icmpNo (q := 11) X14 hx (hb hby own_d4_8) rfl (Jvm.Free.XT.ii_ge_f (by decide)) ?_
    refine ow_aloadN (q := 12) X14 hx (hb hby own_d4_11) rfl rfl rfl ?_
    obtain ⟨T15, X15, e15, st15⟩ := getF X14 hx hZ hown (host := "") (Or.inl (hw _ (List.mem_of_getElem? (i := 11) rfl))) Via.refl e14 HF0 (g := (mkF m 12 #[rv a0, iv p1, iv (2 : Int32)] [(.ref a0)])) rfl rfl (hb hby own_d4_12)
    refine ownGo (T' := T15) (f' := (mkF m 15 #[rv a0, iv p1, iv (2 : Int32)] [(.ref ar)])) (st15) ?_
    refine ow_iloadN (q := 16) X15 hx (hb hby own_d4_15) rfl rfl ?_
    refine ownGo (T' := T15) (f' := (mkF m 17 #[rv a0, iv p1, iv (2 : Int32)] [(.int (g 2))])) (ownZaload HF1 X15 hx hZ e15 (j := (2 : Int32)) (by unfold ownIn; decide) (g := (mkF m 16 #[rv a0, iv p1, iv (2 : Int32)] [(.int (2 : Int32)), (.ref ar)])) rfl rfl (hb hby own_d4_16)) ?_
    generalize hv_v16 : (g 2) = v16
    by_cases hc17_17 : v16 = (0 : Int32)
    · refine ow_ifYes (q := 22) X15 hx (hb hby own_d4_17) (Jvm.Free.XT.i0_eq_t hc17_17) (by decide) (by decide) ?_
      refine ow_iinc (q := 25) X15 hx (L' := #[rv a0, iv p1, iv (3 : Int32)]) (hb hby own_d4_22) rfl rfl rfl ?_
      refine ow_goto (q := 2) X15 hx (hb hby own_d4_25) (by decide) (by decide) ?_
      exact nx3 (by rw [hn2]; show (if g 2 = (0 : Int32) then own_nx g 3 2 else (2 : Int32)) = _; rw [if_pos (hv_v16.trans hc17_17)]) _ _ X15 e15 Nc13
    · refine ow_ifNo (q := 20) X15 hx (hb hby own_d4_17) rfl (Jvm.Free.XT.i0_eq_f hc17_17) ?_
      refine ow_iloadN (q := 21) X15 hx (hb hby own_d4_20) rfl rfl ?_
      refine ownRetI X15 hx Bd.returns (hb hby own_d4_21) hlk (by decide) (by decide) ?_
      subst hv_v16
      rw [e15]
      refine ⟨congrArg (fun q => some (Value.int q)) ?_, Nc13, rfl⟩
      rw [hn2]
      show _ = (if g 2 = (0 : Int32) then own_nx g 3 2 else (2 : Int32))
      rw [if_neg hc17_17]
  have nx1 : own_next g 5 p1 = own_nx g 1 4 → ∀ (Tc18 : State) (lc18 : List Loc), Stand p l e ({ frames := 0, cells := 0, slots := 0, locals := 0 } : Room) s m #[(.ref a0), (.int p1)] below meth c Tc18 lc18 0 0 → Tc18.heap = h0 → Fr n0 lc18 → ownEnds p e below s (Q_next_5 Z a0 p1 ar g h0 n0) ({ frames := 0, cells := 0, slots := 0, locals := 0 } : Room).cells ({ frames := 0, cells := 0, slots := 0, locals := 0 } : Room).slots Tc18 (mkF m 2 #[rv a0, iv p1, iv (1 : Int32)] []) := by
    intro hn1 Tc18 lc18 Xc18 ec18 Nc18
    refine ow_iloadN (q := 3) Xc18 hx (hb hby own_d4_2) rfl rfl ?_
    refine ow_aloadN (q := 4) Xc18 hx (hb hby own_d4_3) rfl rfl rfl ?_
    obtain ⟨T19, X19, e19, st19⟩ := getF Xc18 hx hZ hown (host := "") (Or.inl (hw _ (List.mem_of_getElem? (i := 11) rfl))) Via.refl ec18 HF0 (g := (mkF m 4 #[rv a0, iv p1, iv (1 : Int32)] [(.ref a0), (.int (1 : Int32))])) rfl rfl (hb hby own_d4_4)
    refine ownGo (T' := T19) (f' := (mkF m 7 #[rv a0, iv p1, iv (1 : Int32)] [(.ref ar), (.int (1 : Int32))])) (st19) ?_
    refine ownGo (T' := T19) (f' := (mkF m 8 #[rv a0, iv p1, iv (1 : Int32)] [(.int (5 : Int32)), (.int (1 : Int32))])) (ownLenI HF1 X19 hx hZ e19 (z := (5 : Int32)) (by decide) (g := (mkF m 7 #[rv a0, iv p1, iv (1 : Int32)] [(.ref ar), (.int (1 : Int32))])) rfl rfl (hb hby own_d4_7)) ?_
    refine ow_icmpNo (q := 11) X19 hx (hb hby own_d4_8) rfl (Jvm.Free.XT.ii_ge_f (by decide)) ?_
    refine ow_aloadN (q := 12) X19 hx (hb hby own_d4_11) rfl rfl rfl ?_
    obtain ⟨T20, X20, e20, st20⟩ := getF X19 hx hZ hown (host := "") (Or.inl (hw _ (List.mem_of_getElem? (i := 11) rfl))) Via.refl e19 HF0 (g := (mkF m 12 #[rv a0, iv p1, iv (1 : Int32)] [(.ref a0)])) rfl rfl (hb hby own_d4_12)
    refine ownGo (T' := T20) (f' := (mkF m 15 #[rv a0, iv p1, iv (1 : Int32)] [(.ref ar)])) (st20) ?_
    refine ow_iloadN (q := 16) X20 hx (hb hby own_d4_15) rfl rfl ?_
    refine ownGo (T' := T20) (f' := (mkF m 17 #[rv a0, iv p1, iv (1 : Int32)] [(.int (g 1))])) (ownZaload HF1 X20 hx hZ e20 (j := (1 : Int32)) (by unfold ownIn; decide) (g := (mkF m 16 #[rv a0, iv p1, iv (1 : Int32)] [(.int (1 : Int32)), (.ref ar)])) rfl rfl (hb hby own_d4_16)) ?_
    generalize hv_v21 : (g 1) = v21
    by_cases hc17_22 : v21 = (0 : Int32)
    · refine ow_ifYes (q := 22) X20 hx (hb hby own_d4_17) (Jvm.Free.XT.i0_eq_t hc17_22) (by decide) (by decide) ?_
      refine ow_iinc (q := 25) X20 hx (L' := #[rv a0, iv p1, iv (2 : Int32)]) (hb hby own_d4_22) rfl rfl rfl ?_
      refine ow_goto (q := 2) X20 hx (hb hby own_d4_25) (by decide) (by decide) ?_
      exact nx2 (by rw [hn1]; show (if g 1 = (0 : Int32) then own_nx g 2 3 else (1 : Int32)) = _; rw [if_pos (hv_v21.trans hc17_22)]) _ _ X20 e20 Nc18
    · refine ow_ifNo (q := 20) X20 hx (hb hby own_d4_17) rfl (Jvm.Free.XT.i0_eq_f hc17_22) ?_
      refine ow_iloadN (q := 21) X20 hx (hb hby own_d4_20) rfl rfl ?_
      refine ownRetI X20 hx Bd.returns (hb hby own_d4_21) hlk (by decide) (by decide) ?_
      subst hv_v21
      rw [e20]
      refine ⟨congrArg (fun q => some (Value.int q)) ?_, Nc18, rfl⟩
      rw [hn1]
      show _ = (if g 1 = (0 : Int32) then own_nx g 2 3 else (1 : Int32))
      rw [if_neg hc17_22]
  have nx0 : own_next g 5 p1 = own_nx g 0 5 → ∀ (Tc23 : State) (lc23 : List Loc), Stand p l e ({ frames := 0, cells := 0, slots := 0, locals := 0 } : Room) s m #[(.ref a0), (.int p1)] below meth c Tc23 lc23 0 0 → Tc23.heap = h0 → Fr n0 lc23 → ownEnds p e below s (Q_next_5 Z a0 p1 ar g h0 n0) ({ frames := 0, cells := 0, slots := 0, locals := 0 } : Room).cells ({ frames := 0, cells := 0, slots := 0, locals := 0 } : Room).slots Tc23 (mkF m 2 #[rv a0, iv p1, iv (0 : Int32)] []) := by
    intro hn0 Tc23 lc23 Xc23 ec23 Nc23
    refine ow_iloadN (q := 3) Xc23 hx (hb hby own_d4_2) rfl rfl ?_
    refine ow_aloadN (q := 4) Xc23 hx (hb hby own_d4_3) rfl rfl rfl ?_
    obtain ⟨T24, X24, e24, st24⟩ := getF Xc23 hx hZ hown (host := "") (Or.inl (hw _ (List.mem_of_getElem? (i := 11) rfl))) Via.refl ec23 HF0 (g := (mkF m 4 #[rv a0, iv p1, iv (0 : Int32)] [(.ref a0), (.int (0 : Int32))])) rfl rfl (hb hby own_d4_4)
    refine ownGo (T' := T24) (f' := (mkF m 7 #[rv a0, iv p1, iv (0 : Int32)] [(.ref ar), (.int (0 : Int32))])) (st24) ?_
    refine ownGo (T' := T24) (f' := (mkF m 8 #[rv a0, iv p1, iv (0 : Int32)] [(.int (5 : Int32)), (.int (0 : Int32))])) (ownLenI HF1 X24 hx hZ e24 (z := (5 : Int32)) (by decide) (g := (mkF m 7 #[rv a0, iv p1, iv (0 : Int32)] [(.ref ar), (.int (0 : Int32))])) rfl rfl (hb hby own_d4_7)) ?_
    refine ow_icmpNo (q := 11) X24 hx (hb hby own_d4_8) rfl (Jvm.Free.XT.ii_ge_f (by decide)) ?_
    refine ow_aloadN (q := 12) X24 hx (hb hby own_d4_11) rfl rfl rfl ?_
    obtain ⟨T25, X25, e25, st25⟩ := getF X24 hx hZ hown (host := "") (Or.inl (hw _ (List.mem_of_getElem? (i := 11) rfl))) Via.refl e24 HF0 (g := (mkF m 12 #[rv a0, iv p1, iv (0 : Int32)] [(.ref a0)])) rfl rfl (hb hby own_d4_12)
    refine ownGo (T' := T25) (f' := (mkF m 15 #[rv a0, iv p1, iv (0 : Int32)] [(.ref ar)])) (st25) ?_
    refine ow_iloadN (q := 16) X25 hx (hb hby own_d4_15) rfl rfl ?_
    refine ownGo (T' := T25) (f' := (mkF m 17 #[rv a0, iv p1, iv (0 : Int32)] [(.int (g 0))])) (ownZaload HF1 X25 hx hZ e25 (j := (0 : Int32)) (by unfold ownIn; decide) (g := (mkF m 16 #[rv a0, iv p1, iv (0 : Int32)] [(.int (0 : Int32)), (.ref ar)])) rfl rfl (hb hby own_d4_16)) ?_
    generalize hv_v26 : (g 0) = v26
    by_cases hc17_27 : v26 = (0 : Int32)
    · refine ow_ifYes (q := 22) X25 hx (hb hby own_d4_17) (Jvm.Free.XT.i0_eq_t hc17_27) (by decide) (by decide) ?_
      refine ow_iinc (q := 25) X25 hx (L' := #[rv a0, iv p1, iv (1 : Int32)]) (hb hby own_d4_22) rfl rfl rfl ?_
      refine ow_goto (q := 2) X25 hx (hb hby own_d4_25) (by decide) (by decide) ?_
      exact nx1 (by rw [hn0]; show (if g 0 = (0 : Int32) then own_nx g 1 4 else (0 : Int32)) = _; rw [if_pos (hv_v26.trans hc17_27)]) _ _ X25 e25 Nc23
    · refine ow_ifNo (q := 20) X25 hx (hb hby own_d4_17) rfl (Jvm.Free.XT.i0_eq_f hc17_27) ?_
      refine ow_iloadN (q := 21) X25 hx (hb hby own_d4_20) rfl rfl ?_
      refine ownRetI X25 hx Bd.returns (hb hby own_d4_21) hlk (by decide) (by decide) ?_
      subst hv_v26
      rw [e25]
      refine ⟨congrArg (fun q => some (Value.int q)) ?_, Nc23, rfl⟩
      rw [hn0]
      show _ = (if g 0 = (0 : Int32) then own_nx g 1 4 else (0 : Int32))
      rw [if_neg hc17_27]
  rcases own_cases5 hp with hge | hs0 | hs1 | hs2 | hs3 | hs4
  · refine ow_iloadN (q := 3) X0 hx (hb hby own_d4_2) rfl rfl ?_
    refine ow_aloadN (q := 4) X0 hx (hb hby own_d4_3) rfl rfl rfl ?_
    obtain ⟨T28, X28, e28, st28⟩ := getF X0 hx hZ hown (host := "") (Or.inl (hw _ (List.mem_of_getElem? (i := 11) rfl))) Via.refl e0 HF0 (g := (mkF m 4 #[rv a0, iv p1, iv p1] [(.ref a0), (.int p1)])) rfl rfl (hb hby own_d4_4)
    refine ownGo (T' := T28) (f' := (mkF m 7 #[rv a0, iv p1, iv p1] [(.ref ar), (.int p1)])) (st28) ?_
    refine ownGo (T' := T28) (f' := (mkF m 8 #[rv a0, iv p1, iv p1] [(.int (5 : Int32)), (.int p1)])) (ownLenI HF1 X28 hx hZ e28 (z := (5 : Int32)) (by decide) (g := (mkF m 7 #[rv a0, iv p1, iv p1] [(.ref ar), (.int p1)])) rfl rfl (hb hby own_d4_7)) ?_
    refine ow_icmpYes (q := 28) X28 hx (hb hby own_d4_8) (Jvm.Free.XT.ii_ge_t hge) (by decide) (by decide) ?_
    refine ow_iconst (q := 29) X28 hx (-1 : Int32) (hb hby own_d4_28) rfl rfl ?_
    refine ownRetI X28 hx Bd.returns (hb hby own_d4_29) hlk (by decide) (by decide) ?_
    rw [e28]
    refine ⟨congrArg (fun q => some (Value.int q)) ?_, N0, rfl⟩
    exact (own_next_ge hge (by decide)).symm
  · subst hs0
    exact nx0 rfl _ _ X0 e0 N0
  · subst hs1
    exact nx1 rfl _ _ X0 e0 N0
  · subst hs2
    exact nx2 rfl _ _ X0 e0 N0
  · subst hs3
    exact nx3 rfl _ _ X0 e0 N0
  · subst hs4
    exact nx4 rfl _ _ X0 e0 N0
theorem own_ef6_min_6 (m : MethodId)  : entryFrame m #[(.int (1 : Int32)), (.int (6 : Int32))] 2 = mkF m 0 #[iv (1 : Int32), iv (6 : Int32)] [] := by first | (simp [entryFrame, mkF, argsToLocals, Value.category]; done) | rfl
def Q_min_6 (Z : State)  (h0 : Heap) (n0 : Nat) (v : Option Value) (h : Heap) (L : List Loc) : Prop := v = some (.int (1 : Int32)) ∧ Fr n0 L ∧ h = h0
set_option maxRecDepth 65536 in
set_option maxHeartbeats 40000000 in
theorem rm_min_6 (l : Launch) (Z : State) (av0 : Array Value) (hw : ∀ d ∈ tables_1, d.before av0 Z = true) (ws : List Jvm.Cond)  (h0 : Heap) (n0 : Nat) (Z0 : n0 ≤ h0.size) :
    MetFree l (⟨"java/lang/Math", "min", "(II)I"⟩ : MethodName) (head1 (Jvm.Cond.code (⟨"java/lang/Math", "min", "(II)I"⟩ : MethodName) jdk_29_method_69_code 2 (some .int) :: ws) ({ frames := 0, cells := 0, slots := 0, locals := 0 } : Room)) (fun a U => a = #[(.int (1 : Int32)), (.int (6 : Int32))] ∧ Z.Warmed39 U.vm ∧ U.heap = h0) (fun _ _ _ _ _ => True) (fun _ U o U' => ∃ v L, o = .returned v ∧ (Q_min_6 Z  h0 n0) v U'.heap L ∧ FrameEnd U o U' L ({ frames := 0, cells := 0, slots := 0, locals := 0 } : Room).cells ({ frames := 0, cells := 0, slots := 0, locals := 0 } : Room).slots) := by
  refine MetFree.of_bodySF (Jvm.Free.JP.mathPlain rfl (by decide +kernel)) hisR ?_
  intro p e s m args below meth c s₁ Bd hml0 hP hK
  obtain ⟨rfl, hZ, hh⟩ := hP
  have hx := Bd.exec
  have hby := Bd.bytes
  have hml : c.maxLocals = 2 := hml0
  have hown : s.vm.findClass "java/lang/Math" = some m.cls := findClass_of_methodNamed Bd.named
  have hnm := (name_of_methodNamed Bd.named Bd.method).1
  have hlk : meth.locks = false := BodyLoose.notSynchronized Bd
  have X0 : Stand p l e ({ frames := 0, cells := 0, slots := 0, locals := 0 } : Room) s m #[(.int (1 : Int32)), (.int (6 : Int32))] below meth c s₁ [] 0 0 := Stand.of_body Bd
  have e0 : s₁.heap = h0 := by rw [← hh, Bd.state]; rfl
  have N0 := Fr.nil n0
  have K0 : Keep h0 h0 [] := Keep.refl _ _
  show ownEnds p e below s (Q_min_6 Z  h0 n0) ({ frames := 0, cells := 0, slots := 0, locals := 0 } : Room).cells ({ frames := 0, cells := 0, slots := 0, locals := 0 } : Room).slots s₁ (entryFrame m #[(.int (1 : Int32)), (.int (6 : Int32))] 2)
  refine ownCast (own_ef6_min_6 m ) ?_
  refine ow_iloadN (q := 1) X0 hx (hb hby own_d6_0) rfl rfl ?_
  refine ow_iloadN (q := 2) X0 hx (hb hby own_d6_1) rfl rfl ?_
  refine ow_icmpNo (q := 5) X0 hx (hb hby own_d6_2) rfl (Jvm.Free.XT.ii_gt_f (by decide)) ?_
  refine ow_iloadN (q := 6) X0 hx (hb hby own_d6_5) rfl rfl ?_
  refine ow_goto (q := 10) X0 hx (hb hby own_d6_6) (by decide) (by decide) ?_
  refine ownRetI X0 hx Bd.returns (hb hby own_d6_10) hlk (by decide) (by decide) ?_
  rw [e0]
  exact ⟨rfl, N0, rfl⟩
theorem own_ef5_copyOf_6 (m : MethodId) (a0 : Addr) : entryFrame m #[(.ref a0), (.int (6 : Int32))] 3 = mkF m 0 #[rv a0, iv (6 : Int32), .unset] [] := by first | (simp [entryFrame, mkF, argsToLocals, Value.category]; done) | rfl
def Q_copyOf_6 (Z : State) (a0 : Addr) (h0 : Heap) (n0 : Nat) (v : Option Value) (h : Heap) (L : List Loc) : Prop := ∃ (r : Addr), v = some (.ref r) ∧ Fr n0 L ∧ Keep h0 h [] ∧ h0.size ≤ r ∧ ownAI Z h r .boolean 6 (fun _ => (0 : Int32))
set_option maxRecDepth 65536 in
set_option maxHeartbeats 40000000 in
theorem rm_copyOf_6 (l : Launch) (Z : State) (av0 : Array Value) (hw : ∀ d ∈ tables_1, d.before av0 Z = true) (ws : List Jvm.Cond) (a0 : Addr) (h0 : Heap) (n0 : Nat) (Z0 : n0 ≤ h0.size) (HF0 : ownAI Z h0 a0 .boolean 1 (fun _ => (0 : Int32))) :
    MetFree l (⟨"java/util/Arrays", "copyOf", "([ZI)[Z"⟩ : MethodName) (head1 (Jvm.Cond.code (⟨"java/util/Arrays", "copyOf", "([ZI)[Z"⟩ : MethodName) jdk_65_method_128_code 3 (some (.array .boolean)) :: ws) ({ frames := 1, cells := 1, slots := 6, locals := 18 } : Room)) (fun a U => a = #[(.ref a0), (.int (6 : Int32))] ∧ Z.Warmed39 U.vm ∧ U.heap = h0) (fun _ _ _ _ _ => True) (fun _ U o U' => ∃ v L, o = .returned v ∧ (Q_copyOf_6 Z a0 h0 n0) v U'.heap L ∧ FrameEnd U o U' L ({ frames := 1, cells := 1, slots := 6, locals := 18 } : Room).cells ({ frames := 1, cells := 1, slots := 6, locals := 18 } : Room).slots) := by
  refine MetFree.of_bodySF (plainFor_of_name own_pn_Arrays) hisR ?_
  intro p e s m args below meth c s₁ Bd hml0 hP hK
  obtain ⟨rfl, hZ, hh⟩ := hP
  have hx := Bd.exec
  have hby := Bd.bytes
  have hml : c.maxLocals = 3 := hml0
  have hown : s.vm.findClass "java/util/Arrays" = some m.cls := findClass_of_methodNamed Bd.named
  have hnm := (name_of_methodNamed Bd.named Bd.method).1
  have hlk : meth.locks = false := BodyLoose.notSynchronized Bd
  have X0 : Stand p l e ({ frames := 1, cells := 1, slots := 6, locals := 18 } : Room) s m #[(.ref a0), (.int (6 : Int32))] below meth c s₁ [] 0 0 := Stand.of_body Bd
  have e0 : s₁.heap = h0 := by rw [← hh, Bd.state]; rfl
  have N0 := Fr.nil n0
  have K0 : Keep h0 h0 [] := Keep.refl _ _
  show ownEnds p e below s (Q_copyOf_6 Z a0 h0 n0) ({ frames := 1, cells := 1, slots := 6, locals := 18 } : Room).cells ({ frames := 1, cells := 1, slots := 6, locals := 18 } : Room).slots s₁ (entryFrame m #[(.ref a0), (.int (6 : Int32))] 3)
  refine ownCast (own_ef5_copyOf_6 m a0) ?_
  refine ow_iloadN (q := 1) X0 hx (hb hby own_d5_0) rfl rfl ?_
  refine ow_aloadN (q := 2) X0 hx (hb hby own_d5_1) rfl rfl rfl ?_
  refine ownGo (T' := s₁) (f' := (mkF m 3 #[rv a0, iv (6 : Int32), .unset] [(.int (1 : Int32)), (.int (6 : Int32))])) (ownLenI HF0 X0 hx hZ e0 (z := (1 : Int32)) (by decide) (g := (mkF m 2 #[rv a0, iv (6 : Int32), .unset] [(.ref a0), (.int (6 : Int32))])) rfl rfl (hb hby own_d5_2)) ?_
  refine ow_icmpYes (q := 14) X0 hx (hb hby own_d5_3) (Jvm.Free.XT.ii_ne_t (by decide)) (by decide) (by decide) ?_
  refine ow_iloadN (q := 15) X0 hx (hb hby own_d5_14) rfl rfl ?_
  obtain ⟨T1, h1, k1, X1, e1, E1, A1, st1⟩ := newP X0 hx hZ (hw _ (List.mem_of_getElem? (i := 10) rfl)) e0 (g := (mkF m 15 #[rv a0, iv (6 : Int32), .unset] [(.int (6 : Int32))])) rfl (hb hby own_d5_15) rfl (by decide) (cap := 6) (by decide) (by decide) (by decide) (by decide)
  obtain ⟨b1, g1⟩ : ∃ z, z = h0.size := ⟨_, rfl⟩
  rw [← g1] at A1 st1
  have ne_a0_b1 : a0 ≠ b1 := Nat.ne_of_lt (Nat.lt_of_lt_of_le HF0.lt (Nat.le_of_eq g1.symm))
  have sz_b1 : h0.size ≤ b1 := Nat.le_trans K0.1 (Nat.le_of_eq g1.symm)
  have G_b1 : n0 ≤ b1 := Nat.le_trans Z0 sz_b1
  have K1 : Keep h0 h1 [] := K0.ext E1
  have F2 : ownAI Z h1 a0 .boolean 1 (fun _ => (0 : Int32)) := HF0.ext E1
  have F3 : ownAI Z h1 b1 .boolean 6 (fun _ => (0 : Int32)) := ownAI.new A1 (by decide) rfl (by decide)
  refine ownGo (T' := T1) (f' := (mkF m 17 #[rv a0, iv (6 : Int32), .unset] [(.ref b1)])) (st1) ?_
  refine ow_astoreN (q := 18) X1 hx (L' := #[rv a0, iv (6 : Int32), rv b1]) (hb hby own_d5_17) rfl rfl rfl ?_
  refine ow_aloadN (q := 19) X1 hx (hb hby own_d5_18) rfl rfl rfl ?_
  refine ow_iconst (q := 20) X1 hx (0 : Int32) (hb hby own_d5_19) rfl rfl ?_
  refine ow_aloadN (q := 21) X1 hx (hb hby own_d5_20) rfl rfl rfl ?_
  refine ow_iconst (q := 22) X1 hx (0 : Int32) (hb hby own_d5_21) rfl rfl ?_
  refine ow_aloadN (q := 23) X1 hx (hb hby own_d5_22) rfl rfl rfl ?_
  refine ownGo (T' := T1) (f' := (mkF m 24 #[rv a0, iv (6 : Int32), rv b1] [(.int (1 : Int32)), (.int (0 : Int32)), (.ref b1), (.int (0 : Int32)), (.ref a0)])) (ownLenI F2 X1 hx hZ e1 (z := (1 : Int32)) (by decide) (g := (mkF m 23 #[rv a0, iv (6 : Int32), rv b1] [(.ref a0), (.int (0 : Int32)), (.ref b1), (.int (0 : Int32)), (.ref a0)])) rfl rfl (hb hby own_d5_23)) ?_
  refine ow_iloadN (q := 25) X1 hx (hb hby own_d5_24) rfl rfl ?_
  obtain ⟨_, _, ⟨T4, L4, k4, n4⟩, -, X4, ⟨Lc4, hQ4, l4, y4, z4⟩, st4⟩ := Jvm.LawKit.callS X1 hx (y := (⟨"java/lang/Math", "min", "(II)I"⟩ : MethodName)) hown (mvT hZ (hw _ (List.mem_of_getElem? (i := 29) rfl))) (mvT hZ (hw _ (List.mem_of_getElem? (i := 30) rfl))) (mvT hZ (hw _ (List.mem_of_getElem? (i := 31) rfl))) (mvT hZ (hw _ (List.mem_of_getElem? (i := 32) rfl))) (by decide) (backOf (W := 4) (rm_min_6 l Z av0 hw []  h1 n0 (Nat.le_trans Z0 K1.1) ) hZ (hw _ (List.mem_of_getElem? (i := 32) rfl)) (hw _ (List.mem_of_getElem? (i := 31) rfl)) (by decide) (by decide)) (g := (mkF m 25 #[rv a0, iv (6 : Int32), rv b1] [(.int (6 : Int32)), (.int (1 : Int32)), (.int (0 : Int32)), (.ref b1), (.int (0 : Int32)), (.ref a0)])) rfl (by rw [hml]; rfl) (argsL := [(.int (1 : Int32)), (.int (6 : Int32))]) (rest := [(.int (0 : Int32)), (.ref b1), (.int (0 : Int32)), (.ref a0)]) (lenOf own_pd0 rfl) rfl (by show 2 * 0 + _ ≤ _; exact Nat.le_of_eq rfl) (hb hby own_d5_25) (fun _ _ => ⟨rfl, e1, (by decide : 1 + 0 ≤ _), (by decide : 6 + 0 ≤ _)⟩)
  dsimp only [Pt.U, Pt.locs, Pt.cells, Pt.slots] at X4 l4 y4 z4 st4 hQ4
  subst l4 y4 z4
  obtain ⟨rfl, N4q, e4⟩ := hQ4
  have N4 := Fr.app N0 N4q
  refine ownGo (T' := T4) (f' := (mkF m 28 #[rv a0, iv (6 : Int32), rv b1] [(.int (1 : Int32)), (.int (0 : Int32)), (.ref b1), (.int (0 : Int32)), (.ref a0)])) (st4) ?_
  obtain ⟨T5, h5, L5, X5, e5, N5, Kq5, FC5, st5⟩ := ownCopyI (gr := (fun _ => (0 : Int32))) (z := (1 : Int32)) (z' := (6 : Int32)) (nn := (1 : Int32)) F2 F3 (by decide) (by decide) (by decide) (by decide) rfl (fun _ _ => by decide) (fun _ _ => by decide) X4 hx hZ hown (hw _ (List.mem_of_getElem? (i := 33) rfl)) (hw _ (List.mem_of_getElem? (i := 36) rfl)) (hw _ (List.mem_of_getElem? (i := 34) rfl)) (hw _ (List.mem_of_getElem? (i := 35) rfl)) e4 (by decide) (by decide) (by decide) (fun i hi => by split <;> rfl) N4 G_b1 (g := (mkF m 28 #[rv a0, iv (6 : Int32), rv b1] [(.int (1 : Int32)), (.int (0 : Int32)), (.ref b1), (.int (0 : Int32)), (.ref a0)])) rfl (by rw [hml]; rfl) rfl (hb hby own_d5_28) (by decide) (W := 0) (by show 2 * 0 + _ ≤ _; exact Nat.le_of_eq rfl) (by decide)
  have K5 : Keep h0 h5 [] := K1.trans Kq5 (allS (Or.inr sz_b1) all0)
  have F6 : ownAI Z h5 a0 .boolean 1 (fun _ => (0 : Int32)) := F2.keep Kq5 (ninS ne_a0_b1 nin0)
  refine ownGo (T' := T5) (f' := (mkF m 31 #[rv a0, iv (6 : Int32), rv b1] [])) (st5) ?_
  refine ow_aloadN (q := 32) X5 hx (hb hby own_d5_31) rfl rfl rfl ?_
  refine ownRetR X5 hx rfl rfl rfl Bd.returns (hb hby own_d5_32) hlk (by decide) (by decide) ?_
  rw [e5]
  exact ⟨b1, rfl, N5, K5, sz_b1, FC5⟩
theorem own_ef3_grow_6 (m : MethodId) (a0 : Addr) (p1 : Int32) : entryFrame m #[(.ref a0), (.int p1)] 3 = mkF m 0 #[rv a0, iv p1, .unset] [] := by first | (simp [entryFrame, mkF, argsToLocals, Value.category]; done) | rfl
def Q_grow_6 (Z : State) (a0 : Addr) (p1 : Int32) (ar : Addr) (h0 : Heap) (n0 : Nat) (v : Option Value) (h : Heap) (L : List Loc) : Prop := ∃ (ar2 : Addr), v = none ∧ Fr n0 L ∧ Keep h0 h [a0] ∧ h0.size ≤ ar2 ∧ Exa Z h a0 "com/example/swarm_tally/swarmtally/ChunkMarks" ∧ Fld Z h a0 "com/example/swarm_tally/swarmtally/ChunkMarks" "changed" "[Z" (.ref ar2) ∧ ownAI Z h ar2 .boolean 6 (fun _ => (0 : Int32))
set_option maxRecDepth 65536 in
set_option maxHeartbeats 40000000 in
theorem rm_grow_6 (l : Launch) (Z : State) (av0 : Array Value) (hw : ∀ d ∈ tables_1, d.before av0 Z = true) (ws : List Jvm.Cond) (a0 : Addr) (p1 : Int32) (ar : Addr) (h0 : Heap) (n0 : Nat) (Z0 : n0 ≤ h0.size) (HF0 : Exa Z h0 a0 "com/example/swarm_tally/swarmtally/ChunkMarks") (HF1 : Fld Z h0 a0 "com/example/swarm_tally/swarmtally/ChunkMarks" "changed" "[Z" (.ref ar)) (HF2 : ownAI Z h0 ar .boolean 1 (fun _ => (0 : Int32))) (HF3 : Sta Z h0 "com/example/swarm_tally/swarmtally/ChunkMarks" "CHUNK_SHIFT" "I" (.int (10 : Int32))) (G_a0 : n0 ≤ a0) (hch : ((((p1 + (1024 : Int32)) - (1 : Int32)).toUInt32 >>> ((10 : Int32) &&& 31).toUInt32).toInt32) = (6 : Int32)) (hne : a0 ≠ ar) :
    MetFree l (⟨"com/example/swarm_tally/swarmtally/ChunkMarks", "grow", "(I)V"⟩ : MethodName) (head1 (Jvm.Cond.code (⟨"com/example/swarm_tally/swarmtally/ChunkMarks", "grow", "(I)V"⟩ : MethodName) prog_5_method_2_code 3 none :: ws) ({ frames := 2, cells := 1, slots := 6, locals := 33 } : Room)) (fun a U => a = #[(.ref a0), (.int p1)] ∧ Z.Warmed39 U.vm ∧ U.heap = h0) (fun _ _ _ _ _ => True) (fun _ U o U' => ∃ v L, o = .returned v ∧ (Q_grow_6 Z a0 p1 ar h0 n0) v U'.heap L ∧ FrameEnd U o U' L ({ frames := 2, cells := 1, slots := 6, locals := 33 } : Room).cells ({ frames := 2, cells := 1, slots := 6, locals := 33 } : Room).slots) := by
  refine MetFree.of_bodySF (plainFor_of_name own_pn_ChunkMarks) hisR ?_
  intro p e s m args below meth c s₁ Bd hml0 hP hK
  obtain ⟨rfl, hZ, hh⟩ := hP
  have hx := Bd.exec
  have hby := Bd.bytes
  have hml : c.maxLocals = 3 := hml0
  have hown : s.vm.findClass "com/example/swarm_tally/swarmtally/ChunkMarks" = some m.cls := findClass_of_methodNamed Bd.named
  have hnm := (name_of_methodNamed Bd.named Bd.method).1
  have hlk : meth.locks = false := BodyLoose.notSynchronized Bd
  have X0 : Stand p l e ({ frames := 2, cells := 1, slots := 6, locals := 33 } : Room) s m #[(.ref a0), (.int p1)] below meth c s₁ [] 0 0 := Stand.of_body Bd
  have e0 : s₁.heap = h0 := by rw [← hh, Bd.state]; rfl
  have N0 := Fr.nil n0
  have K0 : Keep h0 h0 [a0] := Keep.refl _ _
  show ownEnds p e below s (Q_grow_6 Z a0 p1 ar h0 n0) ({ frames := 2, cells := 1, slots := 6, locals := 33 } : Room).cells ({ frames := 2, cells := 1, slots := 6, locals := 33 } : Room).slots s₁ (entryFrame m #[(.ref a0), (.int p1)] 3)
  refine ownCast (own_ef3_grow_6 m a0 p1) ?_
  refine ow_iloadN (q := 1) X0 hx (hb hby own_d3_0) rfl rfl ?_
  refine ow_sipush (q := 4) X0 hx (1024 : Int32) (hb hby own_d3_1) rfl rfl ?_
  refine ow_iadd (q := 5) X0 hx _ (hb hby own_d3_4) rfl rfl ?_
  refine ow_iconst (q := 6) X0 hx (1 : Int32) (hb hby own_d3_5) rfl rfl ?_
  refine ow_isub (q := 7) X0 hx _ (hb hby own_d3_6) rfl rfl ?_
  obtain ⟨T1, X1, e1, st1⟩ := getS2 X0 hx hZ hown (host := "") (Or.inl (hw _ (List.mem_of_getElem? (i := 18) rfl))) Via.refl e0 HF3 (g := (mkF m 7 #[rv a0, iv p1, .unset] [(.int ((p1 + (1024 : Int32)) - (1 : Int32)))])) rfl (hb hby own_d3_7)
  refine ownGo (T' := T1) (f' := (mkF m 10 #[rv a0, iv p1, .unset] [(.int (10 : Int32)), (.int ((p1 + (1024 : Int32)) - (1 : Int32)))])) (st1) ?_
  refine ow_iushr (q := 11) X1 hx _ (hb hby own_d3_10) rfl rfl ?_
  generalize hv_v2 : ((((p1 + (1024 : Int32)) - (1 : Int32)).toUInt32 >>> ((10 : Int32) &&& 31).toUInt32).toInt32) = v2
  refine ow_istoreN (q := 12) X1 hx (L' := #[rv a0, iv p1, iv v2]) (hb hby own_d3_11) rfl rfl ?_
  have hs3 := (hv_v2.symm.trans hch)
  subst hs3
  refine ow_iloadN (q := 13) X1 hx (hb hby own_d3_12) rfl rfl ?_
  refine ow_aloadN (q := 14) X1 hx (hb hby own_d3_13) rfl rfl rfl ?_
  obtain ⟨T4, X4, e4, st4⟩ := getF X1 hx hZ hown (host := "") (Or.inl (hw _ (List.mem_of_getElem? (i := 11) rfl))) Via.refl e1 HF1 (g := (mkF m 14 #[rv a0, iv p1, iv (6 : Int32)] [(.ref a0), (.int (6 : Int32))])) rfl rfl (hb hby own_d3_14)
  refine ownGo (T' := T4) (f' := (mkF m 17 #[rv a0, iv p1, iv (6 : Int32)] [(.ref ar), (.int (6 : Int32))])) (st4) ?_
  refine ownGo (T' := T4) (f' := (mkF m 18 #[rv a0, iv p1, iv (6 : Int32)] [(.int (1 : Int32)), (.int (6 : Int32))])) (ownLenI HF2 X4 hx hZ e4 (z := (1 : Int32)) (by decide) (g := (mkF m 17 #[rv a0, iv p1, iv (6 : Int32)] [(.ref ar), (.int (6 : Int32))])) rfl rfl (hb hby own_d3_17)) ?_
  refine ow_icmpNo (q := 21) X4 hx (hb hby own_d3_18) rfl (Jvm.Free.XT.ii_le_f (by decide)) ?_
  refine ow_aloadN (q := 22) X4 hx (hb hby own_d3_21) rfl rfl rfl ?_
  refine ow_aloadN (q := 23) X4 hx (hb hby own_d3_22) rfl rfl rfl ?_
  obtain ⟨T5, X5, e5, st5⟩ := getF X4 hx hZ hown (host := "") (Or.inl (hw _ (List.mem_of_getElem? (i := 11) rfl))) Via.refl e4 HF1 (g := (mkF m 23 #[rv a0, iv p1, iv (6 : Int32)] [(.ref a0), (.ref a0)])) rfl rfl (hb hby own_d3_23)
  refine ownGo (T' := T5) (f' := (mkF m 26 #[rv a0, iv p1, iv (6 : Int32)] [(.ref ar), (.ref a0)])) (st5) ?_
  refine ow_iloadN (q := 27) X5 hx (hb hby own_d3_26) rfl rfl ?_
  obtain ⟨_, _, ⟨T6, L6, k6, n6⟩, -, X6, ⟨Lc6, hQ6, l6, y6, z6⟩, st6⟩ := Jvm.LawKit.callS X5 hx (y := (⟨"java/util/Arrays", "copyOf", "([ZI)[Z"⟩ : MethodName)) hown (mvT hZ (hw _ (List.mem_of_getElem? (i := 25) rfl))) (mvT hZ (hw _ (List.mem_of_getElem? (i := 26) rfl))) (mvT hZ (hw _ (List.mem_of_getElem? (i := 27) rfl))) (mvT hZ (hw _ (List.mem_of_getElem? (i := 28) rfl))) (by decide) (backOf (W := 1) (rm_copyOf_6 l Z av0 hw [] ar h0 n0 (Nat.le_trans Z0 K0.1) HF2) hZ (hw _ (List.mem_of_getElem? (i := 28) rfl)) (hw _ (List.mem_of_getElem? (i := 27) rfl)) (by decide) (by decide)) (g := (mkF m 27 #[rv a0, iv p1, iv (6 : Int32)] [(.int (6 : Int32)), (.ref ar), (.ref a0)])) rfl (by rw [hml]; rfl) (argsL := [(.ref ar), (.int (6 : Int32))]) (rest := [(.ref a0)]) (lenOf own_pd1 rfl) rfl (by show 2 * 0 + _ ≤ _; exact Nat.le_of_eq rfl) (hb hby own_d3_27) (fun _ _ => ⟨rfl, e5, (by decide : 0 + 1 ≤ _), (by decide : 0 + 6 ≤ _)⟩)
  dsimp only [Pt.U, Pt.locs, Pt.cells, Pt.slots] at X6 l6 y6 z6 st6 hQ6
  subst l6 y6 z6
  obtain ⟨b6, rfl, N6q, Kq6, sq6_b6, FP6_0⟩ := hQ6
  have N6 := Fr.app N0 N6q
  have K6 : Keep h0 T6.heap [a0] := K0.trans Kq6 all0
  have ne_a0_b6 : a0 ≠ b6 := Nat.ne_of_lt (Nat.lt_of_lt_of_le HF0.lt sq6_b6)
  have ne_ar_b6 : ar ≠ b6 := Nat.ne_of_lt (Nat.lt_of_lt_of_le HF2.lt sq6_b6)
  have sz_b6 : h0.size ≤ b6 := Nat.le_trans K0.1 sq6_b6
  have G_b6 : n0 ≤ b6 := Nat.le_trans Z0 sz_b6
  have F7 : Exa Z T6.heap a0 "com/example/swarm_tally/swarmtally/ChunkMarks" := HF0.keep Kq6
  have F8 : Fld Z T6.heap a0 "com/example/swarm_tally/swarmtally/ChunkMarks" "changed" "[Z" (.ref ar) := HF1.keep Kq6 nin0
  have F9 : ownAI Z T6.heap ar .boolean 1 (fun _ => (0 : Int32)) := HF2.keep Kq6 nin0
  have F10 : Sta Z T6.heap "com/example/swarm_tally/swarmtally/ChunkMarks" "CHUNK_SHIFT" "I" (.int (10 : Int32)) := ownStaKeep HF3 Kq6 all0
  refine ownGo (T' := T6) (f' := (mkF m 30 #[rv a0, iv p1, iv (6 : Int32)] [(.ref b6), (.ref a0)])) (st6) ?_
  obtain ⟨T11, h11, X11, e11, W11, st11⟩ := putF X6 hx hZ hown (host := "") (Or.inl (hw _ (List.mem_of_getElem? (i := 11) rfl))) Via.refl rfl F8 F7 (Or.inl (hw _ (List.mem_of_getElem? (i := 12) rfl))) (hw _ (List.mem_of_getElem? (i := 2) rfl)) (ty := (.array .boolean)) (by decide) rfl rfl (g := (mkF m 30 #[rv a0, iv p1, iv (6 : Int32)] [(.ref b6), (.ref a0)])) rfl rfl (hb hby own_d3_30)
  have N11 := Fr.snoc X11 N6 G_a0
  have K11 : Keep h0 h11 [a0] := K6.wr W11 (Or.inl (List.mem_of_getElem? (i := 0) rfl))
  have F12 : Exa Z h11 a0 "com/example/swarm_tally/swarmtally/ChunkMarks" := F7.wr W11
  have F13 : Fld Z h11 a0 "com/example/swarm_tally/swarmtally/ChunkMarks" "changed" "[Z" (.ref b6) := F8.same W11
  have F14 : ownAI Z h11 ar .boolean 1 (fun _ => (0 : Int32)) := F9.other W11 (Ne.symm hne)
  have F15 : Sta Z h11 "com/example/swarm_tally/swarmtally/ChunkMarks" "CHUNK_SHIFT" "I" (.int (10 : Int32)) := F10.wr W11
  have F16 : ownAI Z h11 b6 .boolean 6 (fun _ => (0 : Int32)) := FP6_0.other W11 (Ne.symm ne_a0_b6)
  refine ownGo (T' := T11) (f' := (mkF m 33 #[rv a0, iv p1, iv (6 : Int32)] [])) (st11) ?_
  refine ownRetV X11 hx Bd.returns (hb hby own_d3_33) hlk (by decide) (by decide) ?_
  rw [e11]
  exact ⟨b6, rfl, N11, K11, sz_b6, F12, F13, F16⟩
theorem own_ef7_mark_6 (m : MethodId) (a0 : Addr) (p1 : Int32) : entryFrame m #[(.ref a0), (.int p1)] 2 = mkF m 0 #[rv a0, iv p1] [] := by first | (simp [entryFrame, mkF, argsToLocals, Value.category]; done) | rfl
def Q_mark_6 (Z : State) (a0 : Addr) (p1 : Int32) (ar : Addr) (g : Nat → Int32) (h0 : Heap) (n0 : Nat) (v : Option Value) (h : Heap) (L : List Loc) : Prop := v = none ∧ Fr n0 L ∧ Keep h0 h [ar] ∧ ownAI Z h ar .boolean 6 (ownUpd g (own_ix p1) (1 : Int32))
set_option maxRecDepth 65536 in
set_option maxHeartbeats 40000000 in
theorem rm_mark_6 (l : Launch) (Z : State) (av0 : Array Value) (hw : ∀ d ∈ tables_1, d.before av0 Z = true) (ws : List Jvm.Cond) (a0 : Addr) (p1 : Int32) (ar : Addr) (g : Nat → Int32) (h0 : Heap) (n0 : Nat) (Z0 : n0 ≤ h0.size) (HF0 : Fld Z h0 a0 "com/example/swarm_tally/swarmtally/ChunkMarks" "changed" "[Z" (.ref ar)) (HF1 : ownAI Z h0 ar .boolean 6 g) (HF2 : Sta Z h0 "com/example/swarm_tally/swarmtally/ChunkMarks" "CHUNK_SHIFT" "I" (.int (10 : Int32))) (G_ar : n0 ≤ ar) (hin : ownIn ((p1.toUInt32 >>> ((10 : Int32) &&& 31).toUInt32).toInt32) 6) (hne : a0 ≠ ar) :
    MetFree l (⟨"com/example/swarm_tally/swarmtally/ChunkMarks", "mark", "(I)V"⟩ : MethodName) (head1 (Jvm.Cond.code (⟨"com/example/swarm_tally/swarmtally/ChunkMarks", "mark", "(I)V"⟩ : MethodName) prog_5_method_3_code 2 none :: ws) ({ frames := 0, cells := 0, slots := 0, locals := 0 } : Room)) (fun a U => a = #[(.ref a0), (.int p1)] ∧ Z.Warmed39 U.vm ∧ U.heap = h0) (fun _ _ _ _ _ => True) (fun _ U o U' => ∃ v L, o = .returned v ∧ (Q_mark_6 Z a0 p1 ar g h0 n0) v U'.heap L ∧ FrameEnd U o U' L ({ frames := 0, cells := 0, slots := 0, locals := 0 } : Room).cells ({ frames := 0, cells := 0, slots := 0, locals := 0 } : Room).slots) := by
  refine MetFree.of_bodySF (plainFor_of_name own_pn_ChunkMarks) hisR ?_
  intro p e s m args below meth c s₁ Bd hml0 hP hK
  obtain ⟨rfl, hZ, hh⟩ := hP
  have hx := Bd.exec
  have hby := Bd.bytes
  have hml : c.maxLocals = 2 := hml0
  have hown : s.vm.findClass "com/example/swarm_tally/swarmtally/ChunkMarks" = some m.cls := findClass_of_methodNamed Bd.named
  have hnm := (name_of_methodNamed Bd.named Bd.method).1
  have hlk : meth.locks = false := BodyLoose.notSynchronized Bd
  have X0 : Stand p l e ({ frames := 0, cells := 0, slots := 0, locals := 0 } : Room) s m #[(.ref a0), (.int p1)] below meth c s₁ [] 0 0 := Stand.of_body Bd
  have e0 : s₁.heap = h0 := by rw [← hh, Bd.state]; rfl
  have N0 := Fr.nil n0
  have K0 : Keep h0 h0 [ar] := Keep.refl _ _
  show ownEnds p e below s (Q_mark_6 Z a0 p1 ar g h0 n0) ({ frames := 0, cells := 0, slots := 0, locals := 0 } : Room).cells ({ frames := 0, cells := 0, slots := 0, locals := 0 } : Room).slots s₁ (entryFrame m #[(.ref a0), (.int p1)] 2)
  refine ownCast (own_ef7_mark_6 m a0 p1) ?_
  refine ow_aloadN (q := 1) X0 hx (hb hby own_d7_0) rfl rfl rfl ?_
  obtain ⟨T1, X1, e1, st1⟩ := getF X0 hx hZ hown (host := "") (Or.inl (hw _ (List.mem_of_getElem? (i := 11) rfl))) Via.refl e0 HF0 (g := (mkF m 1 #[rv a0, iv p1] [(.ref a0)])) rfl rfl (hb hby own_d7_1)
  refine ownGo (T' := T1) (f' := (mkF m 4 #[rv a0, iv p1] [(.ref ar)])) (st1) ?_
  refine ow_iloadN (q := 5) X1 hx (hb hby own_d7_4) rfl rfl ?_
  obtain ⟨T2, X2, e2, st2⟩ := getS2 X1 hx hZ hown (host := "") (Or.inl (hw _ (List.mem_of_getElem? (i := 18) rfl))) Via.refl e1 HF2 (g := (mkF m 5 #[rv a0, iv p1] [(.int p1), (.ref ar)])) rfl (hb hby own_d7_5)
  refine ownGo (T' := T2) (f' := (mkF m 8 #[rv a0, iv p1] [(.int (10 : Int32)), (.int p1), (.ref ar)])) (st2) ?_
  refine ow_iushr (q := 9) X2 hx _ (hb hby own_d7_8) rfl rfl ?_
  refine ow_iconst (q := 10) X2 hx (1 : Int32) (hb hby own_d7_9) rfl rfl ?_
  generalize hv_v3 : ((p1.toUInt32 >>> ((10 : Int32) &&& 31).toUInt32).toInt32) = v3
  obtain ⟨T4, h4, X4, e4, W4, F4s, st4⟩ := ownZastore HF1 X2 hx hZ e2 (j := v3) (by rw [← hv_v3]; exact hin) (g := (mkF m 10 #[rv a0, iv p1] [(.int (1 : Int32)), (.int v3), (.ref ar)])) rfl rfl (hb hby own_d7_10)
  generalize hg_gf4 : (ownUpd g v3.toNatClampNeg (1 : Int32)) = gf4 at F4s
  have N4 := Fr.snoc X4 N0 G_ar
  have K4 : Keep h0 h4 [ar] := K0.wr W4 (Or.inl (List.mem_of_getElem? (i := 0) rfl))
  have F5 : Fld Z h4 a0 "com/example/swarm_tally/swarmtally/ChunkMarks" "changed" "[Z" (.ref ar) := HF0.other W4 (Or.inl hne)
  have F6 : Sta Z h4 "com/example/swarm_tally/swarmtally/ChunkMarks" "CHUNK_SHIFT" "I" (.int (10 : Int32)) := HF2.wr W4
  refine ownGo (T' := T4) (f' := (mkF m 11 #[rv a0, iv p1] [])) (st4) ?_
  refine ownRetV X4 hx Bd.returns (hb hby own_d7_11) hlk (by decide) (by decide) ?_
  subst hg_gf4 hv_v3
  rw [e4]
  exact ⟨rfl, N4, K4, F4s⟩
theorem own_ef4_next_6 (m : MethodId) (a0 : Addr) (p1 : Int32) : entryFrame m #[(.ref a0), (.int p1)] 3 = mkF m 0 #[rv a0, iv p1, .unset] [] := by first | (simp [entryFrame, mkF, argsToLocals, Value.category]; done) | rfl
def Q_next_6 (Z : State) (a0 : Addr) (p1 : Int32) (ar : Addr) (g : Nat → Int32) (h0 : Heap) (n0 : Nat) (v : Option Value) (h : Heap) (L : List Loc) : Prop := v = some (.int (own_next g 6 p1)) ∧ Fr n0 L ∧ h = h0
set_option maxRecDepth 65536 in
set_option maxHeartbeats 40000000 in
theorem rm_next_6 (l : Launch) (Z : State) (av0 : Array Value) (hw : ∀ d ∈ tables_1, d.before av0 Z = true) (ws : List Jvm.Cond) (a0 : Addr) (p1 : Int32) (ar : Addr) (g : Nat → Int32) (h0 : Heap) (n0 : Nat) (Z0 : n0 ≤ h0.size) (HF0 : Fld Z h0 a0 "com/example/swarm_tally/swarmtally/ChunkMarks" "changed" "[Z" (.ref ar)) (HF1 : ownAI Z h0 ar .boolean 6 g) (hp : 0 ≤ p1.toInt) :
    MetFree l (⟨"com/example/swarm_tally/swarmtally/ChunkMarks", "next", "(I)I"⟩ : MethodName) (head1 (Jvm.Cond.code (⟨"com/example/swarm_tally/swarmtally/ChunkMarks", "next", "(I)I"⟩ : MethodName) prog_5_method_4_code 3 (some .int) :: ws) ({ frames := 0, cells := 0, slots := 0, locals := 0 } : Room)) (fun a U => a = #[(.ref a0), (.int p1)] ∧ Z.Warmed39 U.vm ∧ U.heap = h0) (fun _ _ _ _ _ => True) (fun _ U o U' => ∃ v L, o = .returned v ∧ (Q_next_6 Z a0 p1 ar g h0 n0) v U'.heap L ∧ FrameEnd U o U' L ({ frames := 0, cells := 0, slots := 0, locals := 0 } : Room).cells ({ frames := 0, cells := 0, slots := 0, locals := 0 } : Room).slots) := by
  refine MetFree.of_bodySF (plainFor_of_name own_pn_ChunkMarks) hisR ?_
  intro p e s m args below meth c s₁ Bd hml0 hP hK
  obtain ⟨rfl, hZ, hh⟩ := hP
  have hx := Bd.exec
  have hby := Bd.bytes
  have hml : c.maxLocals = 3 := hml0
  have hown : s.vm.findClass "com/example/swarm_tally/swarmtally/ChunkMarks" = some m.cls := findClass_of_methodNamed Bd.named
  have hnm := (name_of_methodNamed Bd.named Bd.method).1
  have hlk : meth.locks = false := BodyLoose.notSynchronized Bd
  have X0 : Stand p l e ({ frames := 0, cells := 0, slots := 0, locals := 0 } : Room) s m #[(.ref a0), (.int p1)] below meth c s₁ [] 0 0 := Stand.of_body Bd
  have e0 : s₁.heap = h0 := by rw [← hh, Bd.state]; rfl
  have N0 := Fr.nil n0
  have K0 : Keep h0 h0 [] := Keep.refl _ _
  show ownEnds p e below s (Q_next_6 Z a0 p1 ar g h0 n0) ({ frames := 0, cells := 0, slots := 0, locals := 0 } : Room).cells ({ frames := 0, cells := 0, slots := 0, locals := 0 } : Room).slots s₁ (entryFrame m #[(.ref a0), (.int p1)] 3)
  refine ownCast (own_ef4_next_6 m a0 p1) ?_
  refine ow_iloadN (q := 1) X0 hx (hb hby own_d4_0) rfl rfl ?_
  refine ow_istoreN (q := 2) X0 hx (L' := #[rv a0, iv p1, iv p1]) (hb hby own_d4_1) rfl rfl ?_
  have nx6 : own_next g 6 p1 = own_nx g 6 0 → ∀ (Tc1 : State) (lc1 : List Loc), Stand p l e ({ frames := 0, cells := 0, slots := 0, locals := 0 } : Room) s m #[(.ref a0), (.int p1)] below meth c Tc1 lc1 0 0 → Tc1.heap = h0 → Fr n0 lc1 → ownEnds p e below s (Q_next_6 Z a0 p1 ar g h0 n0) ({ frames := 0, cells := 0, slots := 0, locals := 0 } : Room).cells ({ frames := 0, cells := 0, slots := 0, locals := 0 } : Room).slots Tc1 (mkF m 2 #[rv a0, iv p1, iv (6 : Int32)] []) := by
    intro hn6 Tc1 lc1 Xc1 ec1 Nc1
    refine ow_iloadN (q := 3) Xc1 hx (hb hby own_d4_2) rfl rfl ?_
    refine ow_aloadN (q := 4) Xc1 hx (hb hby own_d4_3) rfl rfl rfl ?_
    obtain ⟨T2, X2, e2, st2⟩ := getF Xc1 hx hZ hown (host := "") (Or.inl (hw _ (List.mem_of_getElem? (i := 11) rfl))) Via.refl ec1 HF0 (g := (mkF m 4 #[rv a0, iv p1, iv (6 : Int32)] [(.ref a0), (.int (6 : Int32))])) rfl rfl (hb hby own_d4_4)
    refine ownGo (T' := T2) (f' := (mkF m 7 #[rv a0, iv p1, iv (6 : Int32)] [(.ref ar), (.int (6 : Int32))])) (st2) ?_
    refine ownGo (T' := T2) (f' := (mkF m 8 #[rv a0, iv p1, iv (6 : Int32)] [(.int (6 : Int32)), (.int (6 : Int32))])) (ownLenI HF1 X2 hx hZ e2 (z := (6 : Int32)) (by decide) (g := (mkF m 7 #[rv a0, iv p1, iv (6 : Int32)] [(.ref ar), (.int (6 : Int32))])) rfl rfl (hb hby own_d4_7)) ?_
    refine ow_icmpYes (q := 28) X2 hx (hb hby own_d4_8) (Jvm.Free.XT.ii_ge_t (by decide)) (by decide) (by decide) ?_
    refine ow_iconst (q := 29) X2 hx (-1 : Int32) (hb hby own_d4_28) rfl rfl ?_
    refine ownRetI X2 hx Bd.returns (hb hby own_d4_29) hlk (by decide) (by decide) ?_
    rw [e2]
    refine ⟨congrArg (fun q => some (Value.int q)) ?_, Nc1, rfl⟩
    rw [hn6]
    rfl
  have nx5 : own_next g 6 p1 = own_nx g 5 1 → ∀ (Tc3 : State) (lc3 : List Loc), Stand p l e ({ frames := 0, cells := 0, slots := 0, locals := 0 } : Room) s m #[(.ref a0), (.int p1)] below meth c Tc3 lc3 0 0 → Tc3.heap = h0 → Fr n0 lc3 → ownEnds p e below s (Q_next_6 Z a0 p1 ar g h0 n0) ({ frames := 0, cells := 0, slots := 0, locals := 0 } : Room).cells ({ frames := 0, cells := 0, slots := 0, locals := 0 } : Room).slots Tc3 (mkF m 2 #[rv a0, iv p1, iv (5 : Int32)] []) := by
    intro hn5 Tc3 lc3 Xc3 ec3 Nc3
    refine ow_iloadN (q := 3) Xc3 hx (hb hby own_d4_2) rfl rfl ?_
    refine ow_aloadN (q := 4) Xc3 hx (hb hby own_d4_3) rfl rfl rfl ?_
    obtain ⟨T4, X4, e4, st4⟩ := getF Xc3 hx hZ hown (host := "") (Or.inl (hw _ (List.mem_of_getElem? (i := 11) rfl))) Via.refl ec3 HF0 (g := (mkF m 4 #[rv a0, iv p1, iv (5 : Int32)] [(.ref a0), (.int (5 : Int32))])) rfl rfl (hb hby own_d4_4)
    refine ownGo (T' := T4) (f' := (mkF m 7 #[rv a0, iv p1, iv (5 : Int32)] [(.ref ar), (.int (5 : Int32))])) (st4) ?_
    refine ownGo (T' := T4) (f' := (mkF m 8 #[rv a0, iv p1, iv (5 : Int32)] [(.int (6 : Int32)), (.int (5 : Int32))])) (ownLenI HF1 X4 hx hZ e4 (z := (6 : Int32)) (by decide) (g := (mkF m 7 #[rv a0, iv p1, iv (5 : Int32)] [(.ref ar), (.int (5 : Int32))])) rfl rfl (hb hby own_d4_7)) ?_
    refine ow_icmpNo (q := 11) X4 hx (hb hby own_d4_8) rfl (Jvm.Free.XT.ii_ge_f (by decide)) ?_
    refine ow_aloadN (q := 12) X4 hx (hb hby own_d4_11) rfl rfl rfl ?_
    obtain ⟨T5, X5, e5, st5⟩ := getF X4 hx hZ hown (host := "") (Or.inl (hw _ (List.mem_of_getElem? (i := 11) rfl))) Via.refl e4 HF0 (g := (mkF m 12 #[rv a0, iv p1, iv (5 : Int32)] [(.ref a0)])) rfl rfl (hb hby own_d4_12)
    refine ownGo (T' := T5) (f' := (mkF m 15 #[rv a0, iv p1, iv (5 : Int32)] [(.ref ar)])) (st5) ?_
    refine ow_iloadN (q := 16) X5 hx (hb hby own_d4_15) rfl rfl ?_
    refine ownGo (T' := T5) (f' := (mkF m 17 #[rv a0, iv p1, iv (5 : Int32)] [(.int (g 5))])) (ownZaload HF1 X5 hx hZ e5 (j := (5 : Int32)) (by unfold ownIn; decide) (g := (mkF m 16 #[rv a0, iv p1, iv (5 : Int32)] [(.int (5 : Int32)), (.ref ar)])) rfl rfl (hb hby own_d4_16)) ?_
    generalize hv_v6 : (g 5) = v6
    by_cases hc17_7 : v6 = (0 : Int32)
    · refine ow_ifYes (q := 22) X5 hx (hb hby own_d4_17) (Jvm.Free.XT.i0_eq_t hc17_7) (by decide) (by decide) ?_
      refine ow_iinc (q := 25) X5 hx (L' := #[rv a0, iv p1, iv (6 : Int32)]) (hb hby own_d4_22) rfl rfl rfl ?_
      refine ow_goto (q := 2) X5 hx (hb hby own_d4_25) (by decide) (by decide) ?_
      exact nx6 (by rw [hn5]; show (if g 5 = (0 : Int32) then own_nx g 6 0 else (5 : Int32)) = _; rw [if_pos (hv_v6.trans hc17_7)]) _ _ X5 e5 Nc3
    · refine ow_ifNo (q := 20) X5 hx (hb hby own_d4_17) rfl (Jvm.Free.XT.i0_eq_f hc17_7) ?_
      refine ow_iloadN (q := 21) X5 hx (hb hby own_d4_20) rfl rfl ?_
      refine ownRetI X5 hx Bd.returns (hb hby own_d4_21) hlk (by decide) (by decide) ?_
      subst hv_v6
      rw [e5]
      refine ⟨congrArg (fun q => some (Value.int q)) ?_, Nc3, rfl⟩
      rw [hn5]
      show _ = (if g 5 = (0 : Int32) then own_nx g 6 0 else (5 : Int32))
      rw [if_neg hc17_7]
  have nx4 : own_next g 6 p1 = own_nx g 4 2 → ∀ (Tc8 : State) (lc8 : List Loc), Stand p l e ({ frames := 0, cells := 0, slots := 0, locals := 0 } : Room) s m #[(.ref a0), (.int p1)] below meth c Tc8 lc8 0 0 → Tc8.heap = h0 → Fr n0 lc8 → ownEnds p e below s (Q_next_6 Z a0 p1 ar g h0 n0) ({ frames := 0, cells := 0, slots := 0, locals := 0 } : Room).cells ({ frames := 0, cells := 0, slots := 0, locals := 0 } : Room).slots Tc8 (mkF m 2 #[rv a0, iv p1, iv (4 : Int32)] []) := by
    intro hn4 Tc8 lc8 Xc8 ec8 Nc8
    refine ow_iloadN (q := 3) Xc8 hx (hb hby own_d4_2) rfl rfl ?_
    refine ow_aloadN (q := 4) Xc8 hx (hb hby own_d4_3) rfl rfl rfl ?_
    obtain ⟨T9, X9, e9, st9⟩ := getF Xc8 hx hZ hown (host := "") (Or.inl (hw _ (List.mem_of_getElem? (i := 11) rfl))) Via.refl ec8 HF0 (g := (mkF m 4 #[rv a0, iv p1, iv (4 : Int32)] [(.ref a0), (.int (4 : Int32))])) rfl rfl (hb hby own_d4_4)
    refine ownGo (T' := T9) (f' := (mkF m 7 #[rv a0, iv p1, iv (4 : Int32)] [(.ref ar), (.int (4 : Int32))])) (st9) ?_
    refine ownGo (T' := T9) (f' := (mkF m 8 #[rv a0, iv p1, iv (4 : Int32)] [(.int (6 : Int32)), (.int (4 : Int32))])) (ownLenI HF1 X9 hx hZ e9 (z := (6 : Int32)) (by decide) (g := (mkF m 7 #[rv a0, iv p1, iv (4 : Int32)] [(.ref ar), (.int (4 : Int32))])) rfl rfl (hb hby own_d4_7)) ?_
    refine ow_icmpNo (q := 11) X9 hx (hb hby own_d4_8) rfl (Jvm.Free.XT.ii_ge_f (by decide)) ?_
    refine ow_aloadN (q := 12) X9 hx (hb hby own_d4_11) rfl rfl rfl ?_
    obtain ⟨T10, X10, e10, st10⟩ := getF X9 hx hZ hown (host := "") (Or.inl (hw _ (List.mem_of_getElem? (i := 11) rfl))) Via.refl e9 HF0 (g := (mkF m 12 #[rv a0, iv p1, iv (4 : Int32)] [(.ref a0)])) rfl rfl (hb hby own_d4_12)
    refine ownGo (T' := T10) (f' := (mkF m 15 #[rv a0, iv p1, iv (4 : Int32)] [(.ref ar)])) (st10) ?_
    refine ow_iloadN (q := 16) X10 hx (hb hby own_d4_15) rfl rfl ?_
    refine ownGo (T' := T10) (f' := (mkF m 17 #[rv a0, iv p1, iv (4 : Int32)] [(.int (g 4))])) (ownZaload HF1 X10 hx hZ e10 (j := (4 : Int32)) (by unfold ownIn; decide) (g := (mkF m 16 #[rv a0, iv p1, iv (4 : Int32)] [(.int (4 : Int32)), (.ref ar)])) rfl rfl (hb hby own_d4_16)) ?_
    generalize hv_v11 : (g 4) = v11
    by_cases hc17_12 : v11 = (0 : Int32)
    · refine ow_ifYes (q := 22) X10 hx (hb hby own_d4_17) (Jvm.Free.XT.i0_eq_t hc17_12) (by decide) (by decide) ?_
      refine ow_iinc (q := 25) X10 hx (L' := #[rv a0, iv p1, iv (5 : Int32)]) (hb hby own_d4_22) rfl rfl rfl ?_
      refine ow_goto (q := 2) X10 hx (hb hby own_d4_25) (by decide) (by decide) ?_
      exact nx5 (by rw [hn4]; show (if g 4 = (0 : Int32) then own_nx g 5 1 else (4 : Int32)) = _; rw [if_pos (hv_v11.trans hc17_12)]) _ _ X10 e10 Nc8
    · refine ow_ifNo (q := 20) X10 hx (hb hby own_d4_17) rfl (Jvm.Free.XT.i0_eq_f hc17_12) ?_
      refine ow_iloadN (q := 21) X10 hx (hb hby own_d4_20) rfl rfl ?_
      refine ownRetI X10 hx Bd.returns (hb hby own_d4_21) hlk (by decide) (by decide) ?_
      subst hv_v11
      rw [e10]
      refine ⟨congrArg (fun q => some (Value.int q)) ?_, Nc8, rfl⟩
      rw [hn4]
      show _ = (if g 4 = (0 : Int32) then own_nx g 5 1 else (4 : Int32))
      rw [if_neg hc17_12]
  have nx3 : own_next g 6 p1 = own_nx g 3 3 → ∀ (Tc13 : State) (lc13 : List Loc), Stand p l e ({ frames := 0, cells := 0, slots := 0, locals := 0 } : Room) s m #[(.ref a0), (.int p1)] below meth c Tc13 lc13 0 0 → Tc13.heap = h0 → Fr n0 lc13 → ownEnds p e below s (Q_next_6 Z a0 p1 ar g h0 n0) ({ frames := 0, cells := 0, slots := 0, locals := 0 } : Room).cells ({ frames := 0, cells := 0, slots := 0, locals := 0 } : Room).slots Tc13 (mkF m 2 #[rv a0, iv p1, iv (3 : Int32)] []) := by
    intro hn3 Tc13 lc13 Xc13 ec13 Nc13
    refine ow_iloadN (q := 3) Xc13 hx (hb hby own_d4_2) rfl rfl ?_
    refine ow_aloadN (q := 4) Xc13 hx (hb hby own_d4_3) rfl rfl rfl ?_
    obtain ⟨T14, X14, e14, st14⟩ := getF Xc13 hx hZ hown (host := "") (Or.inl (hw _ (List.mem_of_getElem? (i := 11) rfl))) Via.refl ec13 HF0 (g := (mkF m 4 #[rv a0, iv p1, iv (3 : Int32)] [(.ref a0), (.int (3 : Int32))])) rfl rfl (hb hby own_d4_4)
    refine ownGo (T' := T14) (f' := (mkF m 7 #[rv a0, iv p1, iv (3 : Int32)] [(.ref ar), (.int (3 : Int32))])) (st14) ?_
    refine ownGo (T' := T14) (f' := (mkF m 8 #[rv a0, iv p1, iv (3 : Int32)] [(.int (6 : Int32)), (.int (3 : Int32))])) (ownLenI HF1 X14 hx hZ e14 (z := (6 : Int32)) (by decide) (g := (mkF m 7 #[rv a0, iv p1, iv (3 : Int32)] [(.ref ar), (.int (3 : Int32))])) rfl rfl (hb hby own_d4_7)) ?_
    refine ow_icmpNo (q := 11) X14 hx (hb hby own_d4_8) rfl (Jvm.Free.XT.ii_ge_f (by decide)) ?_
    refine ow_aloadN (q := 12) X14 hx (hb hby own_d4_11) rfl rfl rfl ?_
    obtain ⟨T15, X15, e15, st15⟩ := getF X14 hx hZ hown (host := "") (Or.inl (hw _ (List.mem_of_getElem? (i := 11) rfl))) Via.refl e14 HF0 (g := (mkF m 12 #[rv a0, iv p1, iv (3 : Int32)] [(.ref a0)])) rfl rfl (hb hby own_d4_12)
    refine ownGo (T' := T15) (f' := (mkF m 15 #[rv a0, iv p1, iv (3 : Int32)] [(.ref ar)])) (st15) ?_
    refine ow_iloadN (q := 16) X15 hx (hb hby own_d4_15) rfl rfl ?_
    refine ownGo (T' := T15) (f' := (mkF m 17 #[rv a0, iv p1, iv (3 : Int32)] [(.int (g 3))])) (ownZaload HF1 X15 hx hZ e15 (j := (3 : Int32)) (by unfold ownIn; decide) (g := (mkF m 16 #[rv a0, iv p1, iv (3 : Int32)] [(.int (3 : Int32)), (.ref ar)])) rfl rfl (hb hby own_d4_16)) ?_
    generalize hv_v16 : (g 3) = v16
    by_cases hc17_17 : v16 = (0 : Int32)
    · refine ow_ifYes (q := 22) X15 hx (hb hby own_d4_17) (Jvm.Free.XT.i0_eq_t hc17_17) (by decide) (by decide) ?_
      refine ow_iinc (q := 25) X15 hx (L' := #[rv a0, iv p1, iv (4 : Int32)]) (hb hby own_d4_22) rfl rfl rfl ?_
      refine ow_goto (q := 2) X15 hx (hb hby own_d4_25) (by decide) (by decide) ?_
      exact nx4 (by rw [hn3]; show (if g 3 = (0 : Int32) then own_nx g 4 2 else (3 : Int32)) = _; rw [if_pos (hv_v16.trans hc17_17)]) _ _ X15 e15 Nc13
    · refine ow_ifNo (q := 20) X15 hx (hb hby own_d4_17) rfl (Jvm.Free.XT.i0_eq_f hc17_17) ?_
      refine ow_iloadN (q := 21) X15 hx (hb hby own_d4_20) rfl rfl ?_
      refine ownRetI X15 hx Bd.returns (hb hby own_d4_21) hlk (by decide) (by decide) ?_
      subst hv_v16
      rw [e15]
      refine ⟨congrArg (fun q => some (Value.int q)) ?_, Nc13, rfl⟩
      rw [hn3]
      show _ = (if g 3 = (0 : Int32) then own_nx g 4 2 else (3 : Int32))
      rw [if_neg hc17_17]
  have nx2 : own_next g 6 p1 = own_nx g 2 4 → ∀ (Tc18 : State) (lc18 : List Loc), Stand p l e ({ frames := 0, cells := 0, slots := 0, locals := 0 } : Room) s m #[(.ref a0), (.int p1)] below meth c Tc18 lc18 0 0 → Tc18.heap = h0 → Fr n0 lc18 → ownEnds p e below s (Q_next_6 Z a0 p1 ar g h0 n0) ({ frames := 0, cells := 0, slots := 0, locals := 0 } : Room).cells ({ frames := 0, cells := 0, slots := 0, locals := 0 } : Room).slots Tc18 (mkF m 2 #[rv a0, iv p1, iv (2 : Int32)] []) := by
    intro hn2 Tc18 lc18 Xc18 ec18 Nc18
    refine ow_iloadN (q := 3) Xc18 hx (hb hby own_d4_2) rfl rfl ?_
    refine ow_aloadN (q := 4) Xc18 hx (hb hby own_d4_3) rfl rfl rfl ?_
    obtain ⟨T19, X19, e19, st19⟩ := getF Xc18 hx hZ hown (host := "") (Or.inl (hw _ (List.mem_of_getElem? (i := 11) rfl))) Via.refl ec18 HF0 (g := (mkF m 4 #[rv a0, iv p1, iv (2 : Int32)] [(.ref a0), (.int (2 : Int32))])) rfl rfl (hb hby own_d4_4)
    refine ownGo (T' := T19) (f' := (mkF m 7 #[rv a0, iv p1, iv (2 : Int32)] [(.ref ar), (.int (2 : Int32))])) (st19) ?_
    refine ownGo (T' := T19) (f' := (mkF m 8 #[rv a0, iv p1, iv (2 : Int32)] [(.int (6 : Int32)), (.int (2 : Int32))])) (ownLenI HF1 X19 hx hZ e19 (z := (6 : Int32)) (by decide) (g := (mkF m 7 #[rv a0, iv p1, iv (2 : Int32)] [(.ref ar), (.int (2 : Int32))])) rfl rfl (hb hby own_d4_7)) ?_
    refine ow_icmpNo (q := 11) X19 hx (hb hby own_d4_8) rfl (Jvm.Free.XT.ii_ge_f (by decide)) ?_
    refine ow_aloadN (q := 12) X19 hx (hb hby own_d4_11) rfl rfl rfl ?_
    obtain ⟨T20, X20, e20, st20⟩ := getF X19 hx hZ hown (host := "") (Or.inl (hw _ (List.mem_of_getElem? (i := 11) rfl))) Via.refl e19 HF0 (g := (mkF m 12 #[rv a0, iv p1, iv (2 : Int32)] [(.ref a0)])) rfl rfl (hb hby own_d4_12)
    refine ownGo (T' := T20) (f' := (mkF m 15 #[rv a0, iv p1, iv (2 : Int32)] [(.ref ar)])) (st20) ?_
    refine ow_iloadN (q := 16) X20 hx (hb hby own_d4_15) rfl rfl ?_
    refine ownGo (T' := T20) (f' := (mkF m 17 #[rv a0, iv p1, iv (2 : Int32)] [(.int (g 2))])) (ownZaload HF1 X20 hx hZ e20 (j := (2 : Int32)) (by unfold ownIn; decide) (g := (mkF m 16 #[rv a0, iv p1, iv (2 : Int32)] [(.int (2 : Int32)), (.ref ar)])) rfl rfl (hb hby own_d4_16)) ?_
    generalize hv_v21 : (g 2) = v21
    by_cases hc17_22 : v21 = (0 : Int32)
    · refine ow_ifYes (q := 22) X20 hx (hb hby own_d4_17) (Jvm.Free.XT.i0_eq_t hc17_22) (by decide) (by decide) ?_
      refine ow_iinc (q := 25) X20 hx (L' := #[rv a0, iv p1, iv (3 : Int32)]) (hb hby own_d4_22) rfl rfl rfl ?_
      refine ow_goto (q := 2) X20 hx (hb hby own_d4_25) (by decide) (by decide) ?_
      exact nx3 (by rw [hn2]; show (if g 2 = (0 : Int32) then own_nx g 3 3 else (2 : Int32)) = _; rw [if_pos (hv_v21.trans hc17_22)]) _ _ X20 e20 Nc18
    · refine ow_ifNo (q := 20) X20 hx (hb hby own_d4_17) rfl (Jvm.Free.XT.i0_eq_f hc17_22) ?_
      refine ow_iloadN (q := 21) X20 hx (hb hby own_d4_20) rfl rfl ?_
      refine ownRetI X20 hx Bd.returns (hb hby own_d4_21) hlk (by decide) (by decide) ?_
      subst hv_v21
      rw [e20]
      refine ⟨congrArg (fun q => some (Value.int q)) ?_, Nc18, rfl⟩
      rw [hn2]
      show _ = (if g 2 = (0 : Int32) then own_nx g 3 3 else (2 : Int32))
      rw [if_neg hc17_22]
  have nx1 : own_next g 6 p1 = own_nx g 1 5 → ∀ (Tc23 : State) (lc23 : List Loc), Stand p l e ({ frames := 0, cells := 0, slots := 0, locals := 0 } : Room) s m #[(.ref a0), (.int p1)] below meth c Tc23 lc23 0 0 → Tc23.heap = h0 → Fr n0 lc23 → ownEnds p e below s (Q_next_6 Z a0 p1 ar g h0 n0) ({ frames := 0, cells := 0, slots := 0, locals := 0 } : Room).cells ({ frames := 0, cells := 0, slots := 0, locals := 0 } : Room).slots Tc23 (mkF m 2 #[rv a0, iv p1, iv (1 : Int32)] []) := by
    intro hn1 Tc23 lc23 Xc23 ec23 Nc23
    refine ow_iloadN (q := 3) Xc23 hx (hb hby own_d4_2) rfl rfl ?_
    refine ow_aloadN (q := 4) Xc23 hx (hb hby own_d4_3) rfl rfl rfl ?_
    obtain ⟨T24, X24, e24, st24⟩ := getF Xc23 hx hZ hown (host := "") (Or.inl (hw _ (List.mem_of_getElem? (i := 11) rfl))) Via.refl ec23 HF0 (g := (mkF m 4 #[rv a0, iv p1, iv (1 : Int32)] [(.ref a0), (.int (1 : Int32))])) rfl rfl (hb hby own_d4_4)
    refine ownGo (T' := T24) (f' := (mkF m 7 #[rv a0, iv p1, iv (1 : Int32)] [(.ref ar), (.int (1 : Int32))])) (st24) ?_
    refine ownGo (T' := T24) (f' := (mkF m 8 #[rv a0, iv p1, iv (1 : Int32)] [(.int (6 : Int32)), (.int (1 : Int32))])) (ownLenI HF1 X24 hx hZ e24 (z := (6 : Int32)) (by decide) (g := (mkF m 7 #[rv a0, iv p1, iv (1 : Int32)] [(.ref ar), (.int (1 : Int32))])) rfl rfl (hb hby own_d4_7)) ?_
    refine ow_icmpNo (q := 11) X24 hx (hb hby own_d4_8) rfl (Jvm.Free.XT.ii_ge_f (by decide)) ?_
    refine ow_aloadN (q := 12) X24 hx (hb hby own_d4_11) rfl rfl rfl ?_
    obtain ⟨T25, X25, e25, st25⟩ := getF X24 hx hZ hown (host := "") (Or.inl (hw _ (List.mem_of_getElem? (i := 11) rfl))) Via.refl e24 HF0 (g := (mkF m 12 #[rv a0, iv p1, iv (1 : Int32)] [(.ref a0)])) rfl rfl (hb hby own_d4_12)
    refine ownGo (T' := T25) (f' := (mkF m 15 #[rv a0, iv p1, iv (1 : Int32)] [(.ref ar)])) (st25) ?_
    refine ow_iloadN (q := 16) X25 hx (hb hby own_d4_15) rfl rfl ?_
    refine ownGo (T' := T25) (f' := (mkF m 17 #[rv a0, iv p1, iv (1 : Int32)] [(.int (g 1))])) (ownZaload HF1 X25 hx hZ e25 (j := (1 : Int32)) (by unfold ownIn; decide) (g := (mkF m 16 #[rv a0, iv p1, iv (1 : Int32)] [(.int (1 : Int32)), (.ref ar)])) rfl rfl (hb hby own_d4_16)) ?_
    generalize hv_v26 : (g 1) = v26
    by_cases hc17_27 : v26 = (0 : Int32)
    · refine ow_ifYes (q := 22) X25 hx (hb hby own_d4_17) (Jvm.Free.XT.i0_eq_t hc17_27) (by decide) (by decide) ?_
      refine ow_iinc (q := 25) X25 hx (L' := #[rv a0, iv p1, iv (2 : Int32)]) (hb hby own_d4_22) rfl rfl rfl ?_
      refine ow_goto (q := 2) X25 hx (hb hby own_d4_25) (by decide) (by decide) ?_
      exact nx2 (by rw [hn1]; show (if g 1 = (0 : Int32) then own_nx g 2 4 else (1 : Int32)) = _; rw [if_pos (hv_v26.trans hc17_27)]) _ _ X25 e25 Nc23
    · refine ow_ifNo (q := 20) X25 hx (hb hby own_d4_17) rfl (Jvm.Free.XT.i0_eq_f hc17_27) ?_
      refine ow_iloadN (q := 21) X25 hx (hb hby own_d4_20) rfl rfl ?_
      refine ownRetI X25 hx Bd.returns (hb hby own_d4_21) hlk (by decide) (by decide) ?_
      subst hv_v26
      rw [e25]
      refine ⟨congrArg (fun q => some (Value.int q)) ?_, Nc23, rfl⟩
      rw [hn1]
      show _ = (if g 1 = (0 : Int32) then own_nx g 2 4 else (1 : Int32))
      rw [if_neg hc17_27]
  have nx0 : own_next g 6 p1 = own_nx g 0 6 → ∀ (Tc28 : State) (lc28 : List Loc), Stand p l e ({ frames := 0, cells := 0, slots := 0, locals := 0 } : Room) s m #[(.ref a0), (.int p1)] below meth c Tc28 lc28 0 0 → Tc28.heap = h0 → Fr n0 lc28 → ownEnds p e below s (Q_next_6 Z a0 p1 ar g h0 n0) ({ frames := 0, cells := 0, slots := 0, locals := 0 } : Room).cells ({ frames := 0, cells := 0, slots := 0, locals := 0 } : Room).slots Tc28 (mkF m 2 #[rv a0, iv p1, iv (0 : Int32)] []) := by
    intro hn0 Tc28 lc28 Xc28 ec28 Nc28
    refine ow_iloadN (q := 3) Xc28 hx (hb hby own_d4_2) rfl rfl ?_
    refine ow_aloadN (q := 4) Xc28 hx (hb hby own_d4_3) rfl rfl rfl ?_
    obtain ⟨T29, X29, e29, st29⟩ := getF Xc28 hx hZ hown (host := "") (Or.inl (hw _ (List.mem_of_getElem? (i := 11) rfl))) Via.refl ec28 HF0 (g := (mkF m 4 #[rv a0, iv p1, iv (0 : Int32)] [(.ref a0), (.int (0 : Int32))])) rfl rfl (hb hby own_d4_4)
    refine ownGo (T' := T29) (f' := (mkF m 7 #[rv a0, iv p1, iv (0 : Int32)] [(.ref ar), (.int (0 : Int32))])) (st29) ?_
    refine ownGo (T' := T29) (f' := (mkF m 8 #[rv a0, iv p1, iv (0 : Int32)] [(.int (6 : Int32)), (.int (0 : Int32))])) (ownLenI HF1 X29 hx hZ e29 (z := (6 : Int32)) (by decide) (g := (mkF m 7 #[rv a0, iv p1, iv (0 : Int32)] [(.ref ar), (.int (0 : Int32))])) rfl rfl (hb hby own_d4_7)) ?_
    refine ow_icmpNo (q := 11) X29 hx (hb hby own_d4_8) rfl (Jvm.Free.XT.ii_ge_f (by decide)) ?_
    refine ow_aloadN (q := 12) X29 hx (hb hby own_d4_11) rfl rfl rfl ?_
    obtain ⟨T30, X30, e30, st30⟩ := getF X29 hx hZ hown (host := "") (Or.inl (hw _ (List.mem_of_getElem? (i := 11) rfl))) Via.refl e29 HF0 (g := (mkF m 12 #[rv a0, iv p1, iv (0 : Int32)] [(.ref a0)])) rfl rfl (hb hby own_d4_12)
    refine ownGo (T' := T30) (f' := (mkF m 15 #[rv a0, iv p1, iv (0 : Int32)] [(.ref ar)])) (st30) ?_
    refine ow_iloadN (q := 16) X30 hx (hb hby own_d4_15) rfl rfl ?_
    refine ownGo (T' := T30) (f' := (mkF m 17 #[rv a0, iv p1, iv (0 : Int32)] [(.int (g 0))])) (ownZaload HF1 X30 hx hZ e30 (j := (0 : Int32)) (by unfold ownIn; decide) (g := (mkF m 16 #[rv a0, iv p1, iv (0 : Int32)] [(.int (0 : Int32)), (.ref ar)])) rfl rfl (hb hby own_d4_16)) ?_
    generalize hv_v31 : (g 0) = v31
    by_cases hc17_32 : v31 = (0 : Int32)
    · refine ow_ifYes (q := 22) X30 hx (hb hby own_d4_17) (Jvm.Free.XT.i0_eq_t hc17_32) (by decide) (by decide) ?_
      refine ow_iinc (q := 25) X30 hx (L' := #[rv a0, iv p1, iv (1 : Int32)]) (hb hby own_d4_22) rfl rfl rfl ?_
      refine ow_goto (q := 2) X30 hx (hb hby own_d4_25) (by decide) (by decide) ?_
      exact nx1 (by rw [hn0]; show (if g 0 = (0 : Int32) then own_nx g 1 5 else (0 : Int32)) = _; rw [if_pos (hv_v31.trans hc17_32)]) _ _ X30 e30 Nc28
    · refine ow_ifNo (q := 20) X30 hx (hb hby own_d4_17) rfl (Jvm.Free.XT.i0_eq_f hc17_32) ?_
      refine ow_iloadN (q := 21) X30 hx (hb hby own_d4_20) rfl rfl ?_
      refine ownRetI X30 hx Bd.returns (hb hby own_d4_21) hlk (by decide) (by decide) ?_
      subst hv_v31
      rw [e30]
      refine ⟨congrArg (fun q => some (Value.int q)) ?_, Nc28, rfl⟩
      rw [hn0]
      show _ = (if g 0 = (0 : Int32) then own_nx g 1 5 else (0 : Int32))
      rw [if_neg hc17_32]
  rcases own_cases6 hp with hge | hs0 | hs1 | hs2 | hs3 | hs4 | hs5
  · refine ow_iloadN (q := 3) X0 hx (hb hby own_d4_2) rfl rfl ?_
    refine ow_aloadN (q := 4) X0 hx (hb hby own_d4_3) rfl rfl rfl ?_
    obtain ⟨T33, X33, e33, st33⟩ := getF X0 hx hZ hown (host := "") (Or.inl (hw _ (List.mem_of_getElem? (i := 11) rfl))) Via.refl e0 HF0 (g := (mkF m 4 #[rv a0, iv p1, iv p1] [(.ref a0), (.int p1)])) rfl rfl (hb hby own_d4_4)
    refine ownGo (T' := T33) (f' := (mkF m 7 #[rv a0, iv p1, iv p1] [(.ref ar), (.int p1)])) (st33) ?_
    refine ownGo (T' := T33) (f' := (mkF m 8 #[rv a0, iv p1, iv p1] [(.int (6 : Int32)), (.int p1)])) (ownLenI HF1 X33 hx hZ e33 (z := (6 : Int32)) (by decide) (g := (mkF m 7 #[rv a0, iv p1, iv p1] [(.ref ar), (.int p1)])) rfl rfl (hb hby own_d4_7)) ?_
    refine ow_icmpYes (q := 28) X33 hx (hb hby own_d4_8) (Jvm.Free.XT.ii_ge_t hge) (by decide) (by decide) ?_
    refine ow_iconst (q := 29) X33 hx (-1 : Int32) (hb hby own_d4_28) rfl rfl ?_
    refine ownRetI X33 hx Bd.returns (hb hby own_d4_29) hlk (by decide) (by decide) ?_
    rw [e33]
    refine ⟨congrArg (fun q => some (Value.int q)) ?_, N0, rfl⟩
    exact (own_next_ge hge (by decide)).symm
  · subst hs0
    exact nx0 rfl _ _ X0 e0 N0
  · subst hs1
    exact nx1 rfl _ _ X0 e0 N0
  · subst hs2
    exact nx2 rfl _ _ X0 e0 N0
  · subst hs3
    exact nx3 rfl _ _ X0 e0 N0
  · subst hs4
    exact nx4 rfl _ _ X0 e0 N0
  · subst hs5
    exact nx5 rfl _ _ X0 e0 N0
theorem own_ef6_min_7 (m : MethodId)  : entryFrame m #[(.int (1 : Int32)), (.int (7 : Int32))] 2 = mkF m 0 #[iv (1 : Int32), iv (7 : Int32)] [] := by first | (simp [entryFrame, mkF, argsToLocals, Value.category]; done) | rfl
def Q_min_7 (Z : State)  (h0 : Heap) (n0 : Nat) (v : Option Value) (h : Heap) (L : List Loc) : Prop := v = some (.int (1 : Int32)) ∧ Fr n0 L ∧ h = h0
set_option maxRecDepth 65536 in
set_option maxHeartbeats 40000000 in
theorem rm_min_7 (l : Launch) (Z : State) (av0 : Array Value) (hw : ∀ d ∈ tables_1, d.before av0 Z = true) (ws : List Jvm.Cond)  (h0 : Heap) (n0 : Nat) (Z0 : n0 ≤ h0.size) :
    MetFree l (⟨"java/lang/Math", "min", "(II)I"⟩ : MethodName) (head1 (Jvm.Cond.code (⟨"java/lang/Math", "min", "(II)I"⟩ : MethodName) jdk_29_method_69_code 2 (some .int) :: ws) ({ frames := 0, cells := 0, slots := 0, locals := 0 } : Room)) (fun a U => a = #[(.int (1 : Int32)), (.int (7 : Int32))] ∧ Z.Warmed39 U.vm ∧ U.heap = h0) (fun _ _ _ _ _ => True) (fun _ U o U' => ∃ v L, o = .returned v ∧ (Q_min_7 Z  h0 n0) v U'.heap L ∧ FrameEnd U o U' L ({ frames := 0, cells := 0, slots := 0, locals := 0 } : Room).cells ({ frames := 0, cells := 0, slots := 0, locals := 0 } : Room).slots) := by
  refine MetFree.of_bodySF (Jvm.Free.JP.mathPlain rfl (by decide +kernel)) hisR ?_
  intro p e s m args below meth c s₁ Bd hml0 hP hK
  obtain ⟨rfl, hZ, hh⟩ := hP
  have hx := Bd.exec
  have hby := Bd.bytes
  have hml : c.maxLocals = 2 := hml0
  have hown : s.vm.findClass "java/lang/Math" = some m.cls := findClass_of_methodNamed Bd.named
  have hnm := (name_of_methodNamed Bd.named Bd.method).1
  have hlk : meth.locks = false := BodyLoose.notSynchronized Bd
  have X0 : Stand p l e ({ frames := 0, cells := 0, slots := 0, locals := 0 } : Room) s m #[(.int (1 : Int32)), (.int (7 : Int32))] below meth c s₁ [] 0 0 := Stand.of_body Bd
  have e0 : s₁.heap = h0 := by rw [← hh, Bd.state]; rfl
  have N0 := Fr.nil n0
  have K0 : Keep h0 h0 [] := Keep.refl _ _
  show ownEnds p e below s (Q_min_7 Z  h0 n0) ({ frames := 0, cells := 0, slots := 0, locals := 0 } : Room).cells ({ frames := 0, cells := 0, slots := 0, locals := 0 } : Room).slots s₁ (entryFrame m #[(.int (1 : Int32)), (.int (7 : Int32))] 2)
  refine ownCast (own_ef6_min_7 m ) ?_
  refine ow_iloadN (q := 1) X0 hx (hb hby own_d6_0) rfl rfl ?_
  refine ow_iloadN (q := 2) X0 hx (hb hby own_d6_1) rfl rfl ?_
  refine ow_icmpNo (q := 5) X0 hx (hb hby own_d6_2) rfl (Jvm.Free.XT.ii_gt_f (by decide)) ?_
  refine ow_iloadN (q := 6) X0 hx (hb hby own_d6_5) rfl rfl ?_
  refine ow_goto (q := 10) X0 hx (hb hby own_d6_6) (by decide) (by decide) ?_
  refine ownRetI X0 hx Bd.returns (hb hby own_d6_10) hlk (by decide) (by decide) ?_
  rw [e0]
  exact ⟨rfl, N0, rfl⟩
theorem own_ef5_copyOf_7 (m : MethodId) (a0 : Addr) : entryFrame m #[(.ref a0), (.int (7 : Int32))] 3 = mkF m 0 #[rv a0, iv (7 : Int32), .unset] [] := by first | (simp [entryFrame, mkF, argsToLocals, Value.category]; done) | rfl
def Q_copyOf_7 (Z : State) (a0 : Addr) (h0 : Heap) (n0 : Nat) (v : Option Value) (h : Heap) (L : List Loc) : Prop := ∃ (r : Addr), v = some (.ref r) ∧ Fr n0 L ∧ Keep h0 h [] ∧ h0.size ≤ r ∧ ownAI Z h r .boolean 7 (fun _ => (0 : Int32))
set_option maxRecDepth 65536 in
set_option maxHeartbeats 40000000 in
theorem rm_copyOf_7 (l : Launch) (Z : State) (av0 : Array Value) (hw : ∀ d ∈ tables_1, d.before av0 Z = true) (ws : List Jvm.Cond) (a0 : Addr) (h0 : Heap) (n0 : Nat) (Z0 : n0 ≤ h0.size) (HF0 : ownAI Z h0 a0 .boolean 1 (fun _ => (0 : Int32))) :
    MetFree l (⟨"java/util/Arrays", "copyOf", "([ZI)[Z"⟩ : MethodName) (head1 (Jvm.Cond.code (⟨"java/util/Arrays", "copyOf", "([ZI)[Z"⟩ : MethodName) jdk_65_method_128_code 3 (some (.array .boolean)) :: ws) ({ frames := 1, cells := 1, slots := 7, locals := 18 } : Room)) (fun a U => a = #[(.ref a0), (.int (7 : Int32))] ∧ Z.Warmed39 U.vm ∧ U.heap = h0) (fun _ _ _ _ _ => True) (fun _ U o U' => ∃ v L, o = .returned v ∧ (Q_copyOf_7 Z a0 h0 n0) v U'.heap L ∧ FrameEnd U o U' L ({ frames := 1, cells := 1, slots := 7, locals := 18 } : Room).cells ({ frames := 1, cells := 1, slots := 7, locals := 18 } : Room).slots) := by
  refine MetFree.of_bodySF (plainFor_of_name own_pn_Arrays) hisR ?_
  intro p e s m args below meth c s₁ Bd hml0 hP hK
  obtain ⟨rfl, hZ, hh⟩ := hP
  have hx := Bd.exec
  have hby := Bd.bytes
  have hml : c.maxLocals = 3 := hml0
  have hown : s.vm.findClass "java/util/Arrays" = some m.cls := findClass_of_methodNamed Bd.named
  have hnm := (name_of_methodNamed Bd.named Bd.method).1
  have hlk : meth.locks = false := BodyLoose.notSynchronized Bd
  have X0 : Stand p l e ({ frames := 1, cells := 1, slots := 7, locals := 18 } : Room) s m #[(.ref a0), (.int (7 : Int32))] below meth c s₁ [] 0 0 := Stand.of_body Bd
  have e0 : s₁.heap = h0 := by rw [← hh, Bd.state]; rfl
  have N0 := Fr.nil n0
  have K0 : Keep h0 h0 [] := Keep.refl _ _
  show ownEnds p e below s (Q_copyOf_7 Z a0 h0 n0) ({ frames := 1, cells := 1, slots := 7, locals := 18 } : Room).cells ({ frames := 1, cells := 1, slots := 7, locals := 18 } : Room).slots s₁ (entryFrame m #[(.ref a0), (.int (7 : Int32))] 3)
  refine ownCast (own_ef5_copyOf_7 m a0) ?_
  refine ow_iloadN (q := 1) X0 hx (hb hby own_d5_0) rfl rfl ?_
  refine ow_aloadN (q := 2) X0 hx (hb hby own_d5_1) rfl rfl rfl ?_
  refine ownGo (T' := s₁) (f' := (mkF m 3 #[rv a0, iv (7 : Int32), .unset] [(.int (1 : Int32)), (.int (7 : Int32))])) (ownLenI HF0 X0 hx hZ e0 (z := (1 : Int32)) (by decide) (g := (mkF m 2 #[rv a0, iv (7 : Int32), .unset] [(.ref a0), (.int (7 : Int32))])) rfl rfl (hb hby own_d5_2)) ?_
  refine ow_icmpYes (q := 14) X0 hx (hb hby own_d5_3) (Jvm.Free.XT.ii_ne_t (by decide)) (by decide) (by decide) ?_
  refine ow_iloadN (q := 15) X0 hx (hb hby own_d5_14) rfl rfl ?_
  obtain ⟨T1, h1, k1, X1, e1, E1, A1, st1⟩ := newP X0 hx hZ (hw _ (List.mem_of_getElem? (i := 10) rfl)) e0 (g := (mkF m 15 #[rv a0, iv (7 : Int32), .unset] [(.int (7 : Int32))])) rfl (hb hby own_d5_15) rfl (by decide) (cap := 7) (by decide) (by decide) (by decide) (by decide)
  obtain ⟨b1, g1⟩ : ∃ z, z = h0.size := ⟨_, rfl⟩
  rw [← g1] at A1 st1
  have ne_a0_b1 : a0 ≠ b1 := Nat.ne_of_lt (Nat.lt_of_lt_of_le HF0.lt (Nat.le_of_eq g1.symm))
  have sz_b1 : h0.size ≤ b1 := Nat.le_trans K0.1 (Nat.le_of_eq g1.symm)
  have G_b1 : n0 ≤ b1 := Nat.le_trans Z0 sz_b1
  have K1 : Keep h0 h1 [] := K0.ext E1
  have F2 : ownAI Z h1 a0 .boolean 1 (fun _ => (0 : Int32)) := HF0.ext E1
  have F3 : ownAI Z h1 b1 .boolean 7 (fun _ => (0 : Int32)) := ownAI.new A1 (by decide) rfl (by decide)
  refine ownGo (T' := T1) (f' := (mkF m 17 #[rv a0, iv (7 : Int32), .unset] [(.ref b1)])) (st1) ?_
  refine ow_astoreN (q := 18) X1 hx (L' := #[rv a0, iv (7 : Int32), rv b1]) (hb hby own_d5_17) rfl rfl rfl ?_
  refine ow_aloadN (q := 19) X1 hx (hb hby own_d5_18) rfl rfl rfl ?_
  refine ow_iconst (q := 20) X1 hx (0 : Int32) (hb hby own_d5_19) rfl rfl ?_
  refine ow_aloadN (q := 21) X1 hx (hb hby own_d5_20) rfl rfl rfl ?_
  refine ow_iconst (q := 22) X1 hx (0 : Int32) (hb hby own_d5_21) rfl rfl ?_
  refine ow_aloadN (q := 23) X1 hx (hb hby own_d5_22) rfl rfl rfl ?_
  refine ownGo (T' := T1) (f' := (mkF m 24 #[rv a0, iv (7 : Int32), rv b1] [(.int (1 : Int32)), (.int (0 : Int32)), (.ref b1), (.int (0 : Int32)), (.ref a0)])) (ownLenI F2 X1 hx hZ e1 (z := (1 : Int32)) (by decide) (g := (mkF m 23 #[rv a0, iv (7 : Int32), rv b1] [(.ref a0), (.int (0 : Int32)), (.ref b1), (.int (0 : Int32)), (.ref a0)])) rfl rfl (hb hby own_d5_23)) ?_
  refine ow_iloadN (q := 25) X1 hx (hb hby own_d5_24) rfl rfl ?_
  obtain ⟨_, _, ⟨T4, L4, k4, n4⟩, -, X4, ⟨Lc4, hQ4, l4, y4, z4⟩, st4⟩ := Jvm.LawKit.callS X1 hx (y := (⟨"java/lang/Math", "min", "(II)I"⟩ : MethodName)) hown (mvT hZ (hw _ (List.mem_of_getElem? (i := 29) rfl))) (mvT hZ (hw _ (List.mem_of_getElem? (i := 30) rfl))) (mvT hZ (hw _ (List.mem_of_getElem? (i := 31) rfl))) (mvT hZ (hw _ (List.mem_of_getElem? (i := 32) rfl))) (by decide) (backOf (W := 4) (rm_min_7 l Z av0 hw []  h1 n0 (Nat.le_trans Z0 K1.1) ) hZ (hw _ (List.mem_of_getElem? (i := 32) rfl)) (hw _ (List.mem_of_getElem? (i := 31) rfl)) (by decide) (by decide)) (g := (mkF m 25 #[rv a0, iv (7 : Int32), rv b1] [(.int (7 : Int32)), (.int (1 : Int32)), (.int (0 : Int32)), (.ref b1), (.int (0 : Int32)), (.ref a0)])) rfl (by rw [hml]; rfl) (argsL := [(.int (1 : Int32)), (.int (7 : Int32))]) (rest := [(.int (0 : Int32)), (.ref b1), (.int (0 : Int32)), (.ref a0)]) (lenOf own_pd0 rfl) rfl (by show 2 * 0 + _ ≤ _; exact Nat.le_of_eq rfl) (hb hby own_d5_25) (fun _ _ => ⟨rfl, e1, (by decide : 1 + 0 ≤ _), (by decide : 7 + 0 ≤ _)⟩)
  dsimp only [Pt.U, Pt.locs, Pt.cells, Pt.slots] at X4 l4 y4 z4 st4 hQ4
  subst l4 y4 z4
  obtain ⟨rfl, N4q, e4⟩ := hQ4
  have N4 := Fr.app N0 N4q
  refine ownGo (T' := T4) (f' := (mkF m 28 #[rv a0, iv (7 : Int32), rv b1] [(.int (1 : Int32)), (.int (0 : Int32)), (.ref b1), (.int (0 : Int32)), (.ref a0)])) (st4) ?_
  obtain ⟨T5, h5, L5, X5, e5, N5, Kq5, FC5, st5⟩ := ownCopyI (gr := (fun _ => (0 : Int32))) (z := (1 : Int32)) (z' := (7 : Int32)) (nn := (1 : Int32)) F2 F3 (by decide) (by decide) (by decide) (by decide) rfl (fun _ _ => by decide) (fun _ _ => by decide) X4 hx hZ hown (hw _ (List.mem_of_getElem? (i := 33) rfl)) (hw _ (List.mem_of_getElem? (i := 36) rfl)) (hw _ (List.mem_of_getElem? (i := 34) rfl)) (hw _ (List.mem_of_getElem? (i := 35) rfl)) e4 (by decide) (by decide) (by decide) (fun i hi => by split <;> rfl) N4 G_b1 (g := (mkF m 28 #[rv a0, iv (7 : Int32), rv b1] [(.int (1 : Int32)), (.int (0 : Int32)), (.ref b1), (.int (0 : Int32)), (.ref a0)])) rfl (by rw [hml]; rfl) rfl (hb hby own_d5_28) (by decide) (W := 0) (by show 2 * 0 + _ ≤ _; exact Nat.le_of_eq rfl) (by decide)
  have K5 : Keep h0 h5 [] := K1.trans Kq5 (allS (Or.inr sz_b1) all0)
  have F6 : ownAI Z h5 a0 .boolean 1 (fun _ => (0 : Int32)) := F2.keep Kq5 (ninS ne_a0_b1 nin0)
  refine ownGo (T' := T5) (f' := (mkF m 31 #[rv a0, iv (7 : Int32), rv b1] [])) (st5) ?_
  refine ow_aloadN (q := 32) X5 hx (hb hby own_d5_31) rfl rfl rfl ?_
  refine ownRetR X5 hx rfl rfl rfl Bd.returns (hb hby own_d5_32) hlk (by decide) (by decide) ?_
  rw [e5]
  exact ⟨b1, rfl, N5, K5, sz_b1, FC5⟩
theorem own_ef3_grow_7 (m : MethodId) (a0 : Addr) (p1 : Int32) : entryFrame m #[(.ref a0), (.int p1)] 3 = mkF m 0 #[rv a0, iv p1, .unset] [] := by first | (simp [entryFrame, mkF, argsToLocals, Value.category]; done) | rfl
def Q_grow_7 (Z : State) (a0 : Addr) (p1 : Int32) (ar : Addr) (h0 : Heap) (n0 : Nat) (v : Option Value) (h : Heap) (L : List Loc) : Prop := ∃ (ar2 : Addr), v = none ∧ Fr n0 L ∧ Keep h0 h [a0] ∧ h0.size ≤ ar2 ∧ Exa Z h a0 "com/example/swarm_tally/swarmtally/ChunkMarks" ∧ Fld Z h a0 "com/example/swarm_tally/swarmtally/ChunkMarks" "changed" "[Z" (.ref ar2) ∧ ownAI Z h ar2 .boolean 7 (fun _ => (0 : Int32))
set_option maxRecDepth 65536 in
set_option maxHeartbeats 40000000 in
theorem rm_grow_7 (l : Launch) (Z : State) (av0 : Array Value) (hw : ∀ d ∈ tables_1, d.before av0 Z = true) (ws : List Jvm.Cond) (a0 : Addr) (p1 : Int32) (ar : Addr) (h0 : Heap) (n0 : Nat) (Z0 : n0 ≤ h0.size) (HF0 : Exa Z h0 a0 "com/example/swarm_tally/swarmtally/ChunkMarks") (HF1 : Fld Z h0 a0 "com/example/swarm_tally/swarmtally/ChunkMarks" "changed" "[Z" (.ref ar)) (HF2 : ownAI Z h0 ar .boolean 1 (fun _ => (0 : Int32))) (HF3 : Sta Z h0 "com/example/swarm_tally/swarmtally/ChunkMarks" "CHUNK_SHIFT" "I" (.int (10 : Int32))) (G_a0 : n0 ≤ a0) (hch : ((((p1 + (1024 : Int32)) - (1 : Int32)).toUInt32 >>> ((10 : Int32) &&& 31).toUInt32).toInt32) = (7 : Int32)) (hne : a0 ≠ ar) :
    MetFree l (⟨"com/example/swarm_tally/swarmtally/ChunkMarks", "grow", "(I)V"⟩ : MethodName) (head1 (Jvm.Cond.code (⟨"com/example/swarm_tally/swarmtally/ChunkMarks", "grow", "(I)V"⟩ : MethodName) prog_5_method_2_code 3 none :: ws) ({ frames := 2, cells := 1, slots := 7, locals := 33 } : Room)) (fun a U => a = #[(.ref a0), (.int p1)] ∧ Z.Warmed39 U.vm ∧ U.heap = h0) (fun _ _ _ _ _ => True) (fun _ U o U' => ∃ v L, o = .returned v ∧ (Q_grow_7 Z a0 p1 ar h0 n0) v U'.heap L ∧ FrameEnd U o U' L ({ frames := 2, cells := 1, slots := 7, locals := 33 } : Room).cells ({ frames := 2, cells := 1, slots := 7, locals := 33 } : Room).slots) := by
  refine MetFree.of_bodySF (plainFor_of_name own_pn_ChunkMarks) hisR ?_
  intro p e s m args below meth c s₁ Bd hml0 hP hK
  obtain ⟨rfl, hZ, hh⟩ := hP
  have hx := Bd.exec
  have hby := Bd.bytes
  have hml : c.maxLocals = 3 := hml0
  have hown : s.vm.findClass "com/example/swarm_tally/swarmtally/ChunkMarks" = some m.cls := findClass_of_methodNamed Bd.named
  have hnm := (name_of_methodNamed Bd.named Bd.method).1
  have hlk : meth.locks = false := BodyLoose.notSynchronized Bd
  have X0 : Stand p l e ({ frames := 2, cells := 1, slots := 7, locals := 33 } : Room) s m #[(.ref a0), (.int p1)] below meth c s₁ [] 0 0 := Stand.of_body Bd
  have e0 : s₁.heap = h0 := by rw [← hh, Bd.state]; rfl
  have N0 := Fr.nil n0
  have K0 : Keep h0 h0 [a0] := Keep.refl _ _
  show ownEnds p e below s (Q_grow_7 Z a0 p1 ar h0 n0) ({ frames := 2, cells := 1, slots := 7, locals := 33 } : Room).cells ({ frames := 2, cells := 1, slots := 7, locals := 33 } : Room).slots s₁ (entryFrame m #[(.ref a0), (.int p1)] 3)
  refine ownCast (own_ef3_grow_7 m a0 p1) ?_
  refine ow_iloadN (q := 1) X0 hx (hb hby own_d3_0) rfl rfl ?_
  refine ow_sipush (q := 4) X0 hx (1024 : Int32) (hb hby own_d3_1) rfl rfl ?_
  refine ow_iadd (q := 5) X0 hx _ (hb hby own_d3_4) rfl rfl ?_
  refine ow_iconst (q := 6) X0 hx (1 : Int32) (hb hby own_d3_5) rfl rfl ?_
  refine ow_isub (q := 7) X0 hx _ (hb hby own_d3_6) rfl rfl ?_
  obtain ⟨T1, X1, e1, st1⟩ := getS2 X0 hx hZ hown (host := "") (Or.inl (hw _ (List.mem_of_getElem? (i := 18) rfl))) Via.refl e0 HF3 (g := (mkF m 7 #[rv a0, iv p1, .unset] [(.int ((p1 + (1024 : Int32)) - (1 : Int32)))])) rfl (hb hby own_d3_7)
  refine ownGo (T' := T1) (f' := (mkF m 10 #[rv a0, iv p1, .unset] [(.int (10 : Int32)), (.int ((p1 + (1024 : Int32)) - (1 : Int32)))])) (st1) ?_
  refine ow_iushr (q := 11) X1 hx _ (hb hby own_d3_10) rfl rfl ?_
  generalize hv_v2 : ((((p1 + (1024 : Int32)) - (1 : Int32)).toUInt32 >>> ((10 : Int32) &&& 31).toUInt32).toInt32) = v2
  refine ow_istoreN (q := 12) X1 hx (L' := #[rv a0, iv p1, iv v2]) (hb hby own_d3_11) rfl rfl ?_
  have hs3 := (hv_v2.symm.trans hch)
  subst hs3
  refine ow_iloadN (q := 13) X1 hx (hb hby own_d3_12) rfl rfl ?_
  refine ow_aloadN (q := 14) X1 hx (hb hby own_d3_13) rfl rfl rfl ?_
  obtain ⟨T4, X4, e4, st4⟩ := getF X1 hx hZ hown (host := "") (Or.inl (hw _ (List.mem_of_getElem? (i := 11) rfl))) Via.refl e1 HF1 (g := (mkF m 14 #[rv a0, iv p1, iv (7 : Int32)] [(.ref a0), (.int (7 : Int32))])) rfl rfl (hb hby own_d3_14)
  refine ownGo (T' := T4) (f' := (mkF m 17 #[rv a0, iv p1, iv (7 : Int32)] [(.ref ar), (.int (7 : Int32))])) (st4) ?_
  refine ownGo (T' := T4) (f' := (mkF m 18 #[rv a0, iv p1, iv (7 : Int32)] [(.int (1 : Int32)), (.int (7 : Int32))])) (ownLenI HF2 X4 hx hZ e4 (z := (1 : Int32)) (by decide) (g := (mkF m 17 #[rv a0, iv p1, iv (7 : Int32)] [(.ref ar), (.int (7 : Int32))])) rfl rfl (hb hby own_d3_17)) ?_
  refine ow_icmpNo (q := 21) X4 hx (hb hby own_d3_18) rfl (Jvm.Free.XT.ii_le_f (by decide)) ?_
  refine ow_aloadN (q := 22) X4 hx (hb hby own_d3_21) rfl rfl rfl ?_
  refine ow_aloadN (q := 23) X4 hx (hb hby own_d3_22) rfl rfl rfl ?_
  obtain ⟨T5, X5, e5, st5⟩ := getF X4 hx hZ hown (host := "") (Or.inl (hw _ (List.mem_of_getElem? (i := 11) rfl))) Via.refl e4 HF1 (g := (mkF m 23 #[rv a0, iv p1, iv (7 : Int32)] [(.ref a0), (.ref a0)])) rfl rfl (hb hby own_d3_23)
  refine ownGo (T' := T5) (f' := (mkF m 26 #[rv a0, iv p1, iv (7 : Int32)] [(.ref ar), (.ref a0)])) (st5) ?_
  refine ow_iloadN (q := 27) X5 hx (hb hby own_d3_26) rfl rfl ?_
  obtain ⟨_, _, ⟨T6, L6, k6, n6⟩, -, X6, ⟨Lc6, hQ6, l6, y6, z6⟩, st6⟩ := Jvm.LawKit.callS X5 hx (y := (⟨"java/util/Arrays", "copyOf", "([ZI)[Z"⟩ : MethodName)) hown (mvT hZ (hw _ (List.mem_of_getElem? (i := 25) rfl))) (mvT hZ (hw _ (List.mem_of_getElem? (i := 26) rfl))) (mvT hZ (hw _ (List.mem_of_getElem? (i := 27) rfl))) (mvT hZ (hw _ (List.mem_of_getElem? (i := 28) rfl))) (by decide) (backOf (W := 1) (rm_copyOf_7 l Z av0 hw [] ar h0 n0 (Nat.le_trans Z0 K0.1) HF2) hZ (hw _ (List.mem_of_getElem? (i := 28) rfl)) (hw _ (List.mem_of_getElem? (i := 27) rfl)) (by decide) (by decide)) (g := (mkF m 27 #[rv a0, iv p1, iv (7 : Int32)] [(.int (7 : Int32)), (.ref ar), (.ref a0)])) rfl (by rw [hml]; rfl) (argsL := [(.ref ar), (.int (7 : Int32))]) (rest := [(.ref a0)]) (lenOf own_pd1 rfl) rfl (by show 2 * 0 + _ ≤ _; exact Nat.le_of_eq rfl) (hb hby own_d3_27) (fun _ _ => ⟨rfl, e5, (by decide : 0 + 1 ≤ _), (by decide : 0 + 7 ≤ _)⟩)
  dsimp only [Pt.U, Pt.locs, Pt.cells, Pt.slots] at X6 l6 y6 z6 st6 hQ6
  subst l6 y6 z6
  obtain ⟨b6, rfl, N6q, Kq6, sq6_b6, FP6_0⟩ := hQ6
  have N6 := Fr.app N0 N6q
  have K6 : Keep h0 T6.heap [a0] := K0.trans Kq6 all0
  have ne_a0_b6 : a0 ≠ b6 := Nat.ne_of_lt (Nat.lt_of_lt_of_le HF0.lt sq6_b6)
  have ne_ar_b6 : ar ≠ b6 := Nat.ne_of_lt (Nat.lt_of_lt_of_le HF2.lt sq6_b6)
  have sz_b6 : h0.size ≤ b6 := Nat.le_trans K0.1 sq6_b6
  have G_b6 : n0 ≤ b6 := Nat.le_trans Z0 sz_b6
  have F7 : Exa Z T6.heap a0 "com/example/swarm_tally/swarmtally/ChunkMarks" := HF0.keep Kq6
  have F8 : Fld Z T6.heap a0 "com/example/swarm_tally/swarmtally/ChunkMarks" "changed" "[Z" (.ref ar) := HF1.keep Kq6 nin0
  have F9 : ownAI Z T6.heap ar .boolean 1 (fun _ => (0 : Int32)) := HF2.keep Kq6 nin0
  have F10 : Sta Z T6.heap "com/example/swarm_tally/swarmtally/ChunkMarks" "CHUNK_SHIFT" "I" (.int (10 : Int32)) := ownStaKeep HF3 Kq6 all0
  refine ownGo (T' := T6) (f' := (mkF m 30 #[rv a0, iv p1, iv (7 : Int32)] [(.ref b6), (.ref a0)])) (st6) ?_
  obtain ⟨T11, h11, X11, e11, W11, st11⟩ := putF X6 hx hZ hown (host := "") (Or.inl (hw _ (List.mem_of_getElem? (i := 11) rfl))) Via.refl rfl F8 F7 (Or.inl (hw _ (List.mem_of_getElem? (i := 12) rfl))) (hw _ (List.mem_of_getElem? (i := 2) rfl)) (ty := (.array .boolean)) (by decide) rfl rfl (g := (mkF m 30 #[rv a0, iv p1, iv (7 : Int32)] [(.ref b6), (.ref a0)])) rfl rfl (hb hby own_d3_30)
  have N11 := Fr.snoc X11 N6 G_a0
  have K11 : Keep h0 h11 [a0] := K6.wr W11 (Or.inl (List.mem_of_getElem? (i := 0) rfl))
  have F12 : Exa Z h11 a0 "com/example/swarm_tally/swarmtally/ChunkMarks" := F7.wr W11
  have F13 : Fld Z h11 a0 "com/example/swarm_tally/swarmtally/ChunkMarks" "changed" "[Z" (.ref b6) := F8.same W11
  have F14 : ownAI Z h11 ar .boolean 1 (fun _ => (0 : Int32)) := F9.other W11 (Ne.symm hne)
  have F15 : Sta Z h11 "com/example/swarm_tally/swarmtally/ChunkMarks" "CHUNK_SHIFT" "I" (.int (10 : Int32)) := F10.wr W11
  have F16 : ownAI Z h11 b6 .boolean 7 (fun _ => (0 : Int32)) := FP6_0.other W11 (Ne.symm ne_a0_b6)
  refine ownGo (T' := T11) (f' := (mkF m 33 #[rv a0, iv p1, iv (7 : Int32)] [])) (st11) ?_
  refine ownRetV X11 hx Bd.returns (hb hby own_d3_33) hlk (by decide) (by decide) ?_
  rw [e11]
  exact ⟨b6, rfl, N11, K11, sz_b6, F12, F13, F16⟩
theorem own_ef7_mark_7 (m : MethodId) (a0 : Addr) (p1 : Int32) : entryFrame m #[(.ref a0), (.int p1)] 2 = mkF m 0 #[rv a0, iv p1] [] := by first | (simp [entryFrame, mkF, argsToLocals, Value.category]; done) | rfl
def Q_mark_7 (Z : State) (a0 : Addr) (p1 : Int32) (ar : Addr) (g : Nat → Int32) (h0 : Heap) (n0 : Nat) (v : Option Value) (h : Heap) (L : List Loc) : Prop := v = none ∧ Fr n0 L ∧ Keep h0 h [ar] ∧ ownAI Z h ar .boolean 7 (ownUpd g (own_ix p1) (1 : Int32))
set_option maxRecDepth 65536 in
set_option maxHeartbeats 40000000 in
theorem rm_mark_7 (l : Launch) (Z : State) (av0 : Array Value) (hw : ∀ d ∈ tables_1, d.before av0 Z = true) (ws : List Jvm.Cond) (a0 : Addr) (p1 : Int32) (ar : Addr) (g : Nat → Int32) (h0 : Heap) (n0 : Nat) (Z0 : n0 ≤ h0.size) (HF0 : Fld Z h0 a0 "com/example/swarm_tally/swarmtally/ChunkMarks" "changed" "[Z" (.ref ar)) (HF1 : ownAI Z h0 ar .boolean 7 g) (HF2 : Sta Z h0 "com/example/swarm_tally/swarmtally/ChunkMarks" "CHUNK_SHIFT" "I" (.int (10 : Int32))) (G_ar : n0 ≤ ar) (hin : ownIn ((p1.toUInt32 >>> ((10 : Int32) &&& 31).toUInt32).toInt32) 7) (hne : a0 ≠ ar) :
    MetFree l (⟨"com/example/swarm_tally/swarmtally/ChunkMarks", "mark", "(I)V"⟩ : MethodName) (head1 (Jvm.Cond.code (⟨"com/example/swarm_tally/swarmtally/ChunkMarks", "mark", "(I)V"⟩ : MethodName) prog_5_method_3_code 2 none :: ws) ({ frames := 0, cells := 0, slots := 0, locals := 0 } : Room)) (fun a U => a = #[(.ref a0), (.int p1)] ∧ Z.Warmed39 U.vm ∧ U.heap = h0) (fun _ _ _ _ _ => True) (fun _ U o U' => ∃ v L, o = .returned v ∧ (Q_mark_7 Z a0 p1 ar g h0 n0) v U'.heap L ∧ FrameEnd U o U' L ({ frames := 0, cells := 0, slots := 0, locals := 0 } : Room).cells ({ frames := 0, cells := 0, slots := 0, locals := 0 } : Room).slots) := by
  refine MetFree.of_bodySF (plainFor_of_name own_pn_ChunkMarks) hisR ?_
  intro p e s m args below meth c s₁ Bd hml0 hP hK
  obtain ⟨rfl, hZ, hh⟩ := hP
  have hx := Bd.exec
  have hby := Bd.bytes
  have hml : c.maxLocals = 2 := hml0
  have hown : s.vm.findClass "com/example/swarm_tally/swarmtally/ChunkMarks" = some m.cls := findClass_of_methodNamed Bd.named
  have hnm := (name_of_methodNamed Bd.named Bd.method).1
  have hlk : meth.locks = false := BodyLoose.notSynchronized Bd
  have X0 : Stand p l e ({ frames := 0, cells := 0, slots := 0, locals := 0 } : Room) s m #[(.ref a0), (.int p1)] below meth c s₁ [] 0 0 := Stand.of_body Bd
  have e0 : s₁.heap = h0 := by rw [← hh, Bd.state]; rfl
  have N0 := Fr.nil n0
  have K0 : Keep h0 h0 [ar] := Keep.refl _ _
  show ownEnds p e below s (Q_mark_7 Z a0 p1 ar g h0 n0) ({ frames := 0, cells := 0, slots := 0, locals := 0 } : Room).cells ({ frames := 0, cells := 0, slots := 0, locals := 0 } : Room).slots s₁ (entryFrame m #[(.ref a0), (.int p1)] 2)
  refine ownCast (own_ef7_mark_7 m a0 p1) ?_
  refine ow_aloadN (q := 1) X0 hx (hb hby own_d7_0) rfl rfl rfl ?_
  obtain ⟨T1, X1, e1, st1⟩ := getF X0 hx hZ hown (host := "") (Or.inl (hw _ (List.mem_of_getElem? (i := 11) rfl))) Via.refl e0 HF0 (g := (mkF m 1 #[rv a0, iv p1] [(.ref a0)])) rfl rfl (hb hby own_d7_1)
  refine ownGo (T' := T1) (f' := (mkF m 4 #[rv a0, iv p1] [(.ref ar)])) (st1) ?_
  refine ow_iloadN (q := 5) X1 hx (hb hby own_d7_4) rfl rfl ?_
  obtain ⟨T2, X2, e2, st2⟩ := getS2 X1 hx hZ hown (host := "") (Or.inl (hw _ (List.mem_of_getElem? (i := 18) rfl))) Via.refl e1 HF2 (g := (mkF m 5 #[rv a0, iv p1] [(.int p1), (.ref ar)])) rfl (hb hby own_d7_5)
  refine ownGo (T' := T2) (f' := (mkF m 8 #[rv a0, iv p1] [(.int (10 : Int32)), (.int p1), (.ref ar)])) (st2) ?_
  refine ow_iushr (q := 9) X2 hx _ (hb hby own_d7_8) rfl rfl ?_
  refine ow_iconst (q := 10) X2 hx (1 : Int32) (hb hby own_d7_9) rfl rfl ?_
  generalize hv_v3 : ((p1.toUInt32 >>> ((10 : Int32) &&& 31).toUInt32).toInt32) = v3
  obtain ⟨T4, h4, X4, e4, W4, F4s, st4⟩ := ownZastore HF1 X2 hx hZ e2 (j := v3) (by rw [← hv_v3]; exact hin) (g := (mkF m 10 #[rv a0, iv p1] [(.int (1 : Int32)), (.int v3), (.ref ar)])) rfl rfl (hb hby own_d7_10)
  generalize hg_gf4 : (ownUpd g v3.toNatClampNeg (1 : Int32)) = gf4 at F4s
  have N4 := Fr.snoc X4 N0 G_ar
  have K4 : Keep h0 h4 [ar] := K0.wr W4 (Or.inl (List.mem_of_getElem? (i := 0) rfl))
  have F5 : Fld Z h4 a0 "com/example/swarm_tally/swarmtally/ChunkMarks" "changed" "[Z" (.ref ar) := HF0.other W4 (Or.inl hne)
  have F6 : Sta Z h4 "com/example/swarm_tally/swarmtally/ChunkMarks" "CHUNK_SHIFT" "I" (.int (10 : Int32)) := HF2.wr W4
  refine ownGo (T' := T4) (f' := (mkF m 11 #[rv a0, iv p1] [])) (st4) ?_
  refine ownRetV X4 hx Bd.returns (hb hby own_d7_11) hlk (by decide) (by decide) ?_
  subst hg_gf4 hv_v3
  rw [e4]
  exact ⟨rfl, N4, K4, F4s⟩
theorem own_ef4_next_7 (m : MethodId) (a0 : Addr) (p1 : Int32) : entryFrame m #[(.ref a0), (.int p1)] 3 = mkF m 0 #[rv a0, iv p1, .unset] [] := by first | (simp [entryFrame, mkF, argsToLocals, Value.category]; done) | rfl
def Q_next_7 (Z : State) (a0 : Addr) (p1 : Int32) (ar : Addr) (g : Nat → Int32) (h0 : Heap) (n0 : Nat) (v : Option Value) (h : Heap) (L : List Loc) : Prop := v = some (.int (own_next g 7 p1)) ∧ Fr n0 L ∧ h = h0
set_option maxRecDepth 65536 in
set_option maxHeartbeats 40000000 in
theorem rm_next_7 (l : Launch) (Z : State) (av0 : Array Value) (hw : ∀ d ∈ tables_1, d.before av0 Z = true) (ws : List Jvm.Cond) (a0 : Addr) (p1 : Int32) (ar : Addr) (g : Nat → Int32) (h0 : Heap) (n0 : Nat) (Z0 : n0 ≤ h0.size) (HF0 : Fld Z h0 a0 "com/example/swarm_tally/swarmtally/ChunkMarks" "changed" "[Z" (.ref ar)) (HF1 : ownAI Z h0 ar .boolean 7 g) (hp : 0 ≤ p1.toInt) :
    MetFree l (⟨"com/example/swarm_tally/swarmtally/ChunkMarks", "next", "(I)I"⟩ : MethodName) (head1 (Jvm.Cond.code (⟨"com/example/swarm_tally/swarmtally/ChunkMarks", "next", "(I)I"⟩ : MethodName) prog_5_method_4_code 3 (some .int) :: ws) ({ frames := 0, cells := 0, slots := 0, locals := 0 } : Room)) (fun a U => a = #[(.ref a0), (.int p1)] ∧ Z.Warmed39 U.vm ∧ U.heap = h0) (fun _ _ _ _ _ => True) (fun _ U o U' => ∃ v L, o = .returned v ∧ (Q_next_7 Z a0 p1 ar g h0 n0) v U'.heap L ∧ FrameEnd U o U' L ({ frames := 0, cells := 0, slots := 0, locals := 0 } : Room).cells ({ frames := 0, cells := 0, slots := 0, locals := 0 } : Room).slots) := by
  refine MetFree.of_bodySF (plainFor_of_name own_pn_ChunkMarks) hisR ?_
  intro p e s m args below meth c s₁ Bd hml0 hP hK
  obtain ⟨rfl, hZ, hh⟩ := hP
  have hx := Bd.exec
  have hby := Bd.bytes
  have hml : c.maxLocals = 3 := hml0
  have hown : s.vm.findClass "com/example/swarm_tally/swarmtally/ChunkMarks" = some m.cls := findClass_of_methodNamed Bd.named
  have hnm := (name_of_methodNamed Bd.named Bd.method).1
  have hlk : meth.locks = false := BodyLoose.notSynchronized Bd
  have X0 : Stand p l e ({ frames := 0, cells := 0, slots := 0, locals := 0 } : Room) s m #[(.ref a0), (.int p1)] below meth c s₁ [] 0 0 := Stand.of_body Bd
  have e0 : s₁.heap = h0 := by rw [← hh, Bd.state]; rfl
  have N0 := Fr.nil n0
  have K0 : Keep h0 h0 [] := Keep.refl _ _
  show ownEnds p e below s (Q_next_7 Z a0 p1 ar g h0 n0) ({ frames := 0, cells := 0, slots := 0, locals := 0 } : Room).cells ({ frames := 0, cells := 0, slots := 0, locals := 0 } : Room).slots s₁ (entryFrame m #[(.ref a0), (.int p1)] 3)
  refine ownCast (own_ef4_next_7 m a0 p1) ?_
  refine ow_iloadN (q := 1) X0 hx (hb hby own_d4_0) rfl rfl ?_
  refine ow_istoreN (q := 2) X0 hx (L' := #[rv a0, iv p1, iv p1]) (hb hby own_d4_1) rfl rfl ?_
  have nx7 : own_next g 7 p1 = own_nx g 7 0 → ∀ (Tc1 : State) (lc1 : List Loc), Stand p l e ({ frames := 0, cells := 0, slots := 0, locals := 0 } : Room) s m #[(.ref a0), (.int p1)] below meth c Tc1 lc1 0 0 → Tc1.heap = h0 → Fr n0 lc1 → ownEnds p e below s (Q_next_7 Z a0 p1 ar g h0 n0) ({ frames := 0, cells := 0, slots := 0, locals := 0 } : Room).cells ({ frames := 0, cells := 0, slots := 0, locals := 0 } : Room).slots Tc1 (mkF m 2 #[rv a0, iv p1, iv (7 : Int32)] []) := by
    intro hn7 Tc1 lc1 Xc1 ec1 Nc1
    refine ow_iloadN (q := 3) Xc1 hx (hb hby own_d4_2) rfl rfl ?_
    refine ow_aloadN (q := 4) Xc1 hx (hb hby own_d4_3) rfl rfl rfl ?_
    obtain ⟨T2, X2, e2, st2⟩ := getF Xc1 hx hZ hown (host := "") (Or.inl (hw _ (List.mem_of_getElem? (i := 11) rfl))) Via.refl ec1 HF0 (g := (mkF m 4 #[rv a0, iv p1, iv (7 : Int32)] [(.ref a0), (.int (7 : Int32))])) rfl rfl (hb hby own_d4_4)
    refine ownGo (T' := T2) (f' := (mkF m 7 #[rv a0, iv p1, iv (7 : Int32)] [(.ref ar), (.int (7 : Int32))])) (st2) ?_
    refine ownGo (T' := T2) (f' := (mkF m 8 #[rv a0, iv p1, iv (7 : Int32)] [(.int (7 : Int32)), (.int (7 : Int32))])) (ownLenI HF1 X2 hx hZ e2 (z := (7 : Int32)) (by decide) (g := (mkF m 7 #[rv a0, iv p1, iv (7 : Int32)] [(.ref ar), (.int (7 : Int32))])) rfl rfl (hb hby own_d4_7)) ?_
    refine ow_icmpYes (q := 28) X2 hx (hb hby own_d4_8) (Jvm.Free.XT.ii_ge_t (by decide)) (by decide) (by decide) ?_
    refine ow_iconst (q := 29) X2 hx (-1 : Int32) (hb hby own_d4_28) rfl rfl ?_
    refine ownRetI X2 hx Bd.returns (hb hby own_d4_29) hlk (by decide) (by decide) ?_
    rw [e2]
    refine ⟨congrArg (fun q => some (Value.int q)) ?_, Nc1, rfl⟩
    rw [hn7]
    rfl
  have nx6 : own_next g 7 p1 = own_nx g 6 1 → ∀ (Tc3 : State) (lc3 : List Loc), Stand p l e ({ frames := 0, cells := 0, slots := 0, locals := 0 } : Room) s m #[(.ref a0), (.int p1)] below meth c Tc3 lc3 0 0 → Tc3.heap = h0 → Fr n0 lc3 → ownEnds p e below s (Q_next_7 Z a0 p1 ar g h0 n0) ({ frames := 0, cells := 0, slots := 0, locals := 0 } : Room).cells ({ frames := 0, cells := 0, slots := 0, locals := 0 } : Room).slots Tc3 (mkF m 2 #[rv a0, iv p1, iv (6 : Int32)] []) := by
    intro hn6 Tc3 lc3 Xc3 ec3 Nc3
    refine ow_iloadN (q := 3) Xc3 hx (hb hby own_d4_2) rfl rfl ?_
    refine ow_aloadN (q := 4) Xc3 hx (hb hby own_d4_3) rfl rfl rfl ?_
    obtain ⟨T4, X4, e4, st4⟩ := getF Xc3 hx hZ hown (host := "") (Or.inl (hw _ (List.mem_of_getElem? (i := 11) rfl))) Via.refl ec3 HF0 (g := (mkF m 4 #[rv a0, iv p1, iv (6 : Int32)] [(.ref a0), (.int (6 : Int32))])) rfl rfl (hb hby own_d4_4)
    refine ownGo (T' := T4) (f' := (mkF m 7 #[rv a0, iv p1, iv (6 : Int32)] [(.ref ar), (.int (6 : Int32))])) (st4) ?_
    refine ownGo (T' := T4) (f' := (mkF m 8 #[rv a0, iv p1, iv (6 : Int32)] [(.int (7 : Int32)), (.int (6 : Int32))])) (ownLenI HF1 X4 hx hZ e4 (z := (7 : Int32)) (by decide) (g := (mkF m 7 #[rv a0, iv p1, iv (6 : Int32)] [(.ref ar), (.int (6 : Int32))])) rfl rfl (hb hby own_d4_7)) ?_
    refine ow_icmpNo (q := 11) X4 hx (hb hby own_d4_8) rfl (Jvm.Free.XT.ii_ge_f (by decide)) ?_
    refine ow_aloadN (q := 12) X4 hx (hb hby own_d4_11) rfl rfl rfl ?_
    obtain ⟨T5, X5, e5, st5⟩ := getF X4 hx hZ hown (host := "") (Or.inl (hw _ (List.mem_of_getElem? (i := 11) rfl))) Via.refl e4 HF0 (g := (mkF m 12 #[rv a0, iv p1, iv (6 : Int32)] [(.ref a0)])) rfl rfl (hb hby own_d4_12)
    refine ownGo (T' := T5) (f' := (mkF m 15 #[rv a0, iv p1, iv (6 : Int32)] [(.ref ar)])) (st5) ?_
    refine ow_iloadN (q := 16) X5 hx (hb hby own_d4_15) rfl rfl ?_
    refine ownGo (T' := T5) (f' := (mkF m 17 #[rv a0, iv p1, iv (6 : Int32)] [(.int (g 6))])) (ownZaload HF1 X5 hx hZ e5 (j := (6 : Int32)) (by unfold ownIn; decide) (g := (mkF m 16 #[rv a0, iv p1, iv (6 : Int32)] [(.int (6 : Int32)), (.ref ar)])) rfl rfl (hb hby own_d4_16)) ?_
    generalize hv_v6 : (g 6) = v6
    by_cases hc17_7 : v6 = (0 : Int32)
    · refine ow_ifYes (q := 22) X5 hx (hb hby own_d4_17) (Jvm.Free.XT.i0_eq_t hc17_7) (by decide) (by decide) ?_
      refine ow_iinc (q := 25) X5 hx (L' := #[rv a0, iv p1, iv (7 : Int32)]) (hb hby own_d4_22) rfl rfl rfl ?_
      refine ow_goto (q := 2) X5 hx (hb hby own_d4_25) (by decide) (by decide) ?_
      exact nx7 (by rw [hn6]; show (if g 6 = (0 : Int32) then own_nx g 7 0 else (6 : Int32)) = _; rw [if_pos (hv_v6.trans hc17_7)]) _ _ X5 e5 Nc3
    · refine ow_ifNo (q := 20) X5 hx (hb hby own_d4_17) rfl (Jvm.Free.XT.i0_eq_f hc17_7) ?_
      refine ow_iloadN (q := 21) X5 hx (hb hby own_d4_20) rfl rfl ?_
      refine ownRetI X5 hx Bd.returns (hb hby own_d4_21) hlk (by decide) (by decide) ?_
      subst hv_v6
      rw [e5]
      refine ⟨congrArg (fun q => some (Value.int q)) ?_, Nc3, rfl⟩
      rw [hn6]
      show _ = (if g 6 = (0 : Int32) then own_nx g 7 0 else (6 : Int32))
      rw [if_neg hc17_7]
  have nx5 : own_next g 7 p1 = own_nx g 5 2 → ∀ (Tc8 : State) (lc8 : List Loc), Stand p l e ({ frames := 0, cells := 0, slots := 0, locals := 0 } : Room) s m #[(.ref a0), (.int p1)] below meth c Tc8 lc8 0 0 → Tc8.heap = h0 → Fr n0 lc8 → ownEnds p e below s (Q_next_7 Z a0 p1 ar g h0 n0) ({ frames := 0, cells := 0, slots := 0, locals := 0 } : Room).cells ({ frames := 0, cells := 0, slots := 0, locals := 0 } : Room).slots Tc8 (mkF m 2 #[rv a0, iv p1, iv (5 : Int32)] []) := by
    intro hn5 Tc8 lc8 Xc8 ec8 Nc8
    refine ow_iloadN (q := 3) Xc8 hx (hb hby own_d4_2) rfl rfl ?_
    refine ow_aloadN (q := 4) Xc8 hx (hb hby own_d4_3) rfl rfl rfl ?_
    obtain ⟨T9, X9, e9, st9⟩ := getF Xc8 hx hZ hown (host := "") (Or.inl (hw _ (List.mem_of_getElem? (i := 11) rfl))) Via.refl ec8 HF0 (g := (mkF m 4 #[rv a0, iv p1, iv (5 : Int32)] [(.ref a0), (.int (5 : Int32))])) rfl rfl (hb hby own_d4_4)
    refine ownGo (T' := T9) (f' := (mkF m 7 #[rv a0, iv p1, iv (5 : Int32)] [(.ref ar), (.int (5 : Int32))])) (st9) ?_
    refine ownGo (T' := T9) (f' := (mkF m 8 #[rv a0, iv p1, iv (5 : Int32)] [(.int (7 : Int32)), (.int (5 : Int32))])) (ownLenI HF1 X9 hx hZ e9 (z := (7 : Int32)) (by decide) (g := (mkF m 7 #[rv a0, iv p1, iv (5 : Int32)] [(.ref ar), (.int (5 : Int32))])) rfl rfl (hb hby own_d4_7)) ?_
    refine ow_icmpNo (q := 11) X9 hx (hb hby own_d4_8) rfl (Jvm.Free.XT.ii_ge_f (by decide)) ?_
    refine ow_aloadN (q := 12) X9 hx (hb hby own_d4_11) rfl rfl rfl ?_
    obtain ⟨T10, X10, e10, st10⟩ := getF X9 hx hZ hown (host := "") (Or.inl (hw _ (List.mem_of_getElem? (i := 11) rfl))) Via.refl e9 HF0 (g := (mkF m 12 #[rv a0, iv p1, iv (5 : Int32)] [(.ref a0)])) rfl rfl (hb hby own_d4_12)
    refine ownGo (T' := T10) (f' := (mkF m 15 #[rv a0, iv p1, iv (5 : Int32)] [(.ref ar)])) (st10) ?_
    refine ow_iloadN (q := 16) X10 hx (hb hby own_d4_15) rfl rfl ?_
    refine ownGo (T' := T10) (f' := (mkF m 17 #[rv a0, iv p1, iv (5 : Int32)] [(.int (g 5))])) (ownZaload HF1 X10 hx hZ e10 (j := (5 : Int32)) (by unfold ownIn; decide) (g := (mkF m 16 #[rv a0, iv p1, iv (5 : Int32)] [(.int (5 : Int32)), (.ref ar)])) rfl rfl (hb hby own_d4_16)) ?_
    generalize hv_v11 : (g 5) = v11
    by_cases hc17_12 : v11 = (0 : Int32)
    · refine ow_ifYes (q := 22) X10 hx (hb hby own_d4_17) (Jvm.Free.XT.i0_eq_t hc17_12) (by decide) (by decide) ?_
      refine ow_iinc (q := 25) X10 hx (L' := #[rv a0, iv p1, iv (6 : Int32)]) (hb hby own_d4_22) rfl rfl rfl ?_
      refine ow_goto (q := 2) X10 hx (hb hby own_d4_25) (by decide) (by decide) ?_
      exact nx6 (by rw [hn5]; show (if g 5 = (0 : Int32) then own_nx g 6 1 else (5 : Int32)) = _; rw [if_pos (hv_v11.trans hc17_12)]) _ _ X10 e10 Nc8
    · refine ow_ifNo (q := 20) X10 hx (hb hby own_d4_17) rfl (Jvm.Free.XT.i0_eq_f hc17_12) ?_
      refine ow_iloadN (q := 21) X10 hx (hb hby own_d4_20) rfl rfl ?_
      refine ownRetI X10 hx Bd.returns (hb hby own_d4_21) hlk (by decide) (by decide) ?_
      subst hv_v11
      rw [e10]
      refine ⟨congrArg (fun q => some (Value.int q)) ?_, Nc8, rfl⟩
      rw [hn5]
      show _ = (if g 5 = (0 : Int32) then own_nx g 6 1 else (5 : Int32))
      rw [if_neg hc17_12]
  have nx4 : own_next g 7 p1 = own_nx g 4 3 → ∀ (Tc13 : State) (lc13 : List Loc), Stand p l e ({ frames := 0, cells := 0, slots := 0, locals := 0 } : Room) s m #[(.ref a0), (.int p1)] below meth c Tc13 lc13 0 0 → Tc13.heap = h0 → Fr n0 lc13 → ownEnds p e below s (Q_next_7 Z a0 p1 ar g h0 n0) ({ frames := 0, cells := 0, slots := 0, locals := 0 } : Room).cells ({ frames := 0, cells := 0, slots := 0, locals := 0 } : Room).slots Tc13 (mkF m 2 #[rv a0, iv p1, iv (4 : Int32)] []) := by
    intro hn4 Tc13 lc13 Xc13 ec13 Nc13
    refine ow_iloadN (q := 3) Xc13 hx (hb hby own_d4_2) rfl rfl ?_
    refine ow_aloadN (q := 4) Xc13 hx (hb hby own_d4_3) rfl rfl rfl ?_
    obtain ⟨T14, X14, e14, st14⟩ := getF Xc13 hx hZ hown (host := "") (Or.inl (hw _ (List.mem_of_getElem? (i := 11) rfl))) Via.refl ec13 HF0 (g := (mkF m 4 #[rv a0, iv p1, iv (4 : Int32)] [(.ref a0), (.int (4 : Int32))])) rfl rfl (hb hby own_d4_4)
    refine ownGo (T' := T14) (f' := (mkF m 7 #[rv a0, iv p1, iv (4 : Int32)] [(.ref ar), (.int (4 : Int32))])) (st14) ?_
    refine ownGo (T' := T14) (f' := (mkF m 8 #[rv a0, iv p1, iv (4 : Int32)] [(.int (7 : Int32)), (.int (4 : Int32))])) (ownLenI HF1 X14 hx hZ e14 (z := (7 : Int32)) (by decide) (g := (mkF m 7 #[rv a0, iv p1, iv (4 : Int32)] [(.ref ar), (.int (4 : Int32))])) rfl rfl (hb hby own_d4_7)) ?_
    refine ow_icmpNo (q := 11) X14 hx (hb hby own_d4_8) rfl (Jvm.Free.XT.ii_ge_f (by decide)) ?_
    refine ow_aloadN (q := 12) X14 hx (hb hby own_d4_11) rfl rfl rfl ?_
    obtain ⟨T15, X15, e15, st15⟩ := getF X14 hx hZ hown (host := "") (Or.inl (hw _ (List.mem_of_getElem? (i := 11) rfl))) Via.refl e14 HF0 (g := (mkF m 12 #[rv a0, iv p1, iv (4 : Int32)] [(.ref a0)])) rfl rfl (hb hby own_d4_12)
    refine ownGo (T' := T15) (f' := (mkF m 15 #[rv a0, iv p1, iv (4 : Int32)] [(.ref ar)])) (st15) ?_
    refine ow_iloadN (q := 16) X15 hx (hb hby own_d4_15) rfl rfl ?_
    refine ownGo (T' := T15) (f' := (mkF m 17 #[rv a0, iv p1, iv (4 : Int32)] [(.int (g 4))])) (ownZaload HF1 X15 hx hZ e15 (j := (4 : Int32)) (by unfold ownIn; decide) (g := (mkF m 16 #[rv a0, iv p1, iv (4 : Int32)] [(.int (4 : Int32)), (.ref ar)])) rfl rfl (hb hby own_d4_16)) ?_
    generalize hv_v16 : (g 4) = v16
    by_cases hc17_17 : v16 = (0 : Int32)
    · refine ow_ifYes (q := 22) X15 hx (hb hby own_d4_17) (Jvm.Free.XT.i0_eq_t hc17_17) (by decide) (by decide) ?_
      refine ow_iinc (q := 25) X15 hx (L' := #[rv a0, iv p1, iv (5 : Int32)]) (hb hby own_d4_22) rfl rfl rfl ?_
      refine ow_goto (q := 2) X15 hx (hb hby own_d4_25) (by decide) (by decide) ?_
      exact nx5 (by rw [hn4]; show (if g 4 = (0 : Int32) then own_nx g 5 2 else (4 : Int32)) = _; rw [if_pos (hv_v16.trans hc17_17)]) _ _ X15 e15 Nc13
    · refine ow_ifNo (q := 20) X15 hx (hb hby own_d4_17) rfl (Jvm.Free.XT.i0_eq_f hc17_17) ?_
      refine ow_iloadN (q := 21) X15 hx (hb hby own_d4_20) rfl rfl ?_
      refine ownRetI X15 hx Bd.returns (hb hby own_d4_21) hlk (by decide) (by decide) ?_
      subst hv_v16
      rw [e15]
      refine ⟨congrArg (fun q => some (Value.int q)) ?_, Nc13, rfl⟩
      rw [hn4]
      show _ = (if g 4 = (0 : Int32) then own_nx g 5 2 else (4 : Int32))
      rw [if_neg hc17_17]
  have nx3 : own_next g 7 p1 = own_nx g 3 4 → ∀ (Tc18 : State) (lc18 : List Loc), Stand p l e ({ frames := 0, cells := 0, slots := 0, locals := 0 } : Room) s m #[(.ref a0), (.int p1)] below meth c Tc18 lc18 0 0 → Tc18.heap = h0 → Fr n0 lc18 → ownEnds p e below s (Q_next_7 Z a0 p1 ar g h0 n0) ({ frames := 0, cells := 0, slots := 0, locals := 0 } : Room).cells ({ frames := 0, cells := 0, slots := 0, locals := 0 } : Room).slots Tc18 (mkF m 2 #[rv a0, iv p1, iv (3 : Int32)] []) := by
    intro hn3 Tc18 lc18 Xc18 ec18 Nc18
    refine ow_iloadN (q := 3) Xc18 hx (hb hby own_d4_2) rfl rfl ?_
    refine ow_aloadN (q := 4) Xc18 hx (hb hby own_d4_3) rfl rfl rfl ?_
    obtain ⟨T19, X19, e19, st19⟩ := getF Xc18 hx hZ hown (host := "") (Or.inl (hw _ (List.mem_of_getElem? (i := 11) rfl))) Via.refl ec18 HF0 (g := (mkF m 4 #[rv a0, iv p1, iv (3 : Int32)] [(.ref a0), (.int (3 : Int32))])) rfl rfl (hb hby own_d4_4)
    refine ownGo (T' := T19) (f' := (mkF m 7 #[rv a0, iv p1, iv (3 : Int32)] [(.ref ar), (.int (3 : Int32))])) (st19) ?_
    refine ownGo (T' := T19) (f' := (mkF m 8 #[rv a0, iv p1, iv (3 : Int32)] [(.int (7 : Int32)), (.int (3 : Int32))])) (ownLenI HF1 X19 hx hZ e19 (z := (7 : Int32)) (by decide) (g := (mkF m 7 #[rv a0, iv p1, iv (3 : Int32)] [(.ref ar), (.int (3 : Int32))])) rfl rfl (hb hby own_d4_7)) ?_
    refine ow_icmpNo (q := 11) X19 hx (hb hby own_d4_8) rfl (Jvm.Free.XT.ii_ge_f (by decide)) ?_
    refine ow_aloadN (q := 12) X19 hx (hb hby own_d4_11) rfl rfl rfl ?_
    obtain ⟨T20, X20, e20, st20⟩ := getF X19 hx hZ hown (host := "") (Or.inl (hw _ (List.mem_of_getElem? (i := 11) rfl))) Via.refl e19 HF0 (g := (mkF m 12 #[rv a0, iv p1, iv (3 : Int32)] [(.ref a0)])) rfl rfl (hb hby own_d4_12)
    refine ownGo (T' := T20) (f' := (mkF m 15 #[rv a0, iv p1, iv (3 : Int32)] [(.ref ar)])) (st20) ?_
    refine ow_iloadN (q := 16) X20 hx (hb hby own_d4_15) rfl rfl ?_
    refine ownGo (T' := T20) (f' := (mkF m 17 #[rv a0, iv p1, iv (3 : Int32)] [(.int (g 3))])) (ownZaload HF1 X20 hx hZ e20 (j := (3 : Int32)) (by unfold ownIn; decide) (g := (mkF m 16 #[rv a0, iv p1, iv (3 : Int32)] [(.int (3 : Int32)), (.ref ar)])) rfl rfl (hb hby own_d4_16)) ?_
    generalize hv_v21 : (g 3) = v21
    by_cases hc17_22 : v21 = (0 : Int32)
    · refine ow_ifYes (q := 22) X20 hx (hb hby own_d4_17) (Jvm.Free.XT.i0_eq_t hc17_22) (by decide) (by decide) ?_
      refine ow_iinc (q := 25) X20 hx (L' := #[rv a0, iv p1, iv (4 : Int32)]) (hb hby own_d4_22) rfl rfl rfl ?_
      refine ow_goto (q := 2) X20 hx (hb hby own_d4_25) (by decide) (by decide) ?_
      exact nx4 (by rw [hn3]; show (if g 3 = (0 : Int32) then own_nx g 4 3 else (3 : Int32)) = _; rw [if_pos (hv_v21.trans hc17_22)]) _ _ X20 e20 Nc18
    · refine ow_ifNo (q := 20) X20 hx (hb hby own_d4_17) rfl (Jvm.Free.XT.i0_eq_f hc17_22) ?_
      refine ow_iloadN (q := 21) X20 hx (hb hby own_d4_20) rfl rfl ?_
      refine ownRetI X20 hx Bd.returns (hb hby own_d4_21) hlk (by decide) (by decide) ?_
      subst hv_v21
      rw [e20]
      refine ⟨congrArg (fun q => some (Value.int q)) ?_, Nc18, rfl⟩
      rw [hn3]
      show _ = (if g 3 = (0 : Int32) then own_nx g 4 3 else (3 : Int32))
      rw [if_neg hc17_22]
  have nx2 : own_next g 7 p1 = own_nx g 2 5 → ∀ (Tc23 : State) (lc23 : List Loc), Stand p l e ({ frames := 0, cells := 0, slots := 0, locals := 0 } : Room) s m #[(.ref a0), (.int p1)] below meth c Tc23 lc23 0 0 → Tc23.heap = h0 → Fr n0 lc23 → ownEnds p e below s (Q_next_7 Z a0 p1 ar g h0 n0) ({ frames := 0, cells := 0, slots := 0, locals := 0 } : Room).cells ({ frames := 0, cells := 0, slots := 0, locals := 0 } : Room).slots Tc23 (mkF m 2 #[rv a0, iv p1, iv (2 : Int32)] []) := by
    intro hn2 Tc23 lc23 Xc23 ec23 Nc23
    refine ow_iloadN (q := 3) Xc23 hx (hb hby own_d4_2) rfl rfl ?_
    refine ow_aloadN (q := 4) Xc23 hx (hb hby own_d4_3) rfl rfl rfl ?_
    obtain ⟨T24, X24, e24, st24⟩ := getF Xc23 hx hZ hown (host := "") (Or.inl (hw _ (List.mem_of_getElem? (i := 11) rfl))) Via.refl ec23 HF0 (g := (mkF m 4 #[rv a0, iv p1, iv (2 : Int32)] [(.ref a0), (.int (2 : Int32))])) rfl rfl (hb hby own_d4_4)
    refine ownGo (T' := T24) (f' := (mkF m 7 #[rv a0, iv p1, iv (2 : Int32)] [(.ref ar), (.int (2 : Int32))])) (st24) ?_
    refine ownGo (T' := T24) (f' := (mkF m 8 #[rv a0, iv p1, iv (2 : Int32)] [(.int (7 : Int32)), (.int (2 : Int32))])) (ownLenI HF1 X24 hx hZ e24 (z := (7 : Int32)) (by decide) (g := (mkF m 7 #[rv a0, iv p1, iv (2 : Int32)] [(.ref ar), (.int (2 : Int32))])) rfl rfl (hb hby own_d4_7)) ?_
    refine ow_icmpNo (q := 11) X24 hx (hb hby own_d4_8) rfl (Jvm.Free.XT.ii_ge_f (by decide)) ?_
    refine ow_aloadN (q := 12) X24 hx (hb hby own_d4_11) rfl rfl rfl ?_
    obtain ⟨T25, X25, e25, st25⟩ := getF X24 hx hZ hown (host := "") (Or.inl (hw _ (List.mem_of_getElem? (i := 11) rfl))) Via.refl e24 HF0 (g := (mkF m 12 #[rv a0, iv p1, iv (2 : Int32)] [(.ref a0)])) rfl rfl (hb hby own_d4_12)
    refine ownGo (T' := T25) (f' := (mkF m 15 #[rv a0, iv p1, iv (2 : Int32)] [(.ref ar)])) (st25) ?_
    refine ow_iloadN (q := 16) X25 hx (hb hby own_d4_15) rfl rfl ?_
    refine ownGo (T' := T25) (f' := (mkF m 17 #[rv a0, iv p1, iv (2 : Int32)] [(.int (g 2))])) (ownZaload HF1 X25 hx hZ e25 (j := (2 : Int32)) (by unfold ownIn; decide) (g := (mkF m 16 #[rv a0, iv p1, iv (2 : Int32)] [(.int (2 : Int32)), (.ref ar)])) rfl rfl (hb hby own_d4_16)) ?_
    generalize hv_v26 : (g 2) = v26
    by_cases hc17_27 : v26 = (0 : Int32)
    · refine ow_ifYes (q := 22) X25 hx (hb hby own_d4_17) (Jvm.Free.XT.i0_eq_t hc17_27) (by decide) (by decide) ?_
      refine ow_iinc (q := 25) X25 hx (L' := #[rv a0, iv p1, iv (3 : Int32)]) (hb hby own_d4_22) rfl rfl rfl ?_
      refine ow_goto (q := 2) X25 hx (hb hby own_d4_25) (by decide) (by decide) ?_
      exact nx3 (by rw [hn2]; show (if g 2 = (0 : Int32) then own_nx g 3 4 else (2 : Int32)) = _; rw [if_pos (hv_v26.trans hc17_27)]) _ _ X25 e25 Nc23
    · refine ow_ifNo (q := 20) X25 hx (hb hby own_d4_17) rfl (Jvm.Free.XT.i0_eq_f hc17_27) ?_
      refine ow_iloadN (q := 21) X25 hx (hb hby own_d4_20) rfl rfl ?_
      refine ownRetI X25 hx Bd.returns (hb hby own_d4_21) hlk (by decide) (by decide) ?_
      subst hv_v26
      rw [e25]
      refine ⟨congrArg (fun q => some (Value.int q)) ?_, Nc23, rfl⟩
      rw [hn2]
      show _ = (if g 2 = (0 : Int32) then own_nx g 3 4 else (2 : Int32))
      rw [if_neg hc17_27]
  have nx1 : own_next g 7 p1 = own_nx g 1 6 → ∀ (Tc28 : State) (lc28 : List Loc), Stand p l e ({ frames := 0, cells := 0, slots := 0, locals := 0 } : Room) s m #[(.ref a0), (.int p1)] below meth c Tc28 lc28 0 0 → Tc28.heap = h0 → Fr n0 lc28 → ownEnds p e below s (Q_next_7 Z a0 p1 ar g h0 n0) ({ frames := 0, cells := 0, slots := 0, locals := 0 } : Room).cells ({ frames := 0, cells := 0, slots := 0, locals := 0 } : Room).slots Tc28 (mkF m 2 #[rv a0, iv p1, iv (1 : Int32)] []) := by
    intro hn1 Tc28 lc28 Xc28 ec28 Nc28
    refine ow_iloadN (q := 3) Xc28 hx (hb hby own_d4_2) rfl rfl ?_
    refine ow_aloadN (q := 4) Xc28 hx (hb hby own_d4_3) rfl rfl rfl ?_
    obtain ⟨T29, X29, e29, st29⟩ := getF Xc28 hx hZ hown (host := "") (Or.inl (hw _ (List.mem_of_getElem? (i := 11) rfl))) Via.refl ec28 HF0 (g := (mkF m 4 #[rv a0, iv p1, iv (1 : Int32)] [(.ref a0), (.int (1 : Int32))])) rfl rfl (hb hby own_d4_4)
    refine ownGo (T' := T29) (f' := (mkF m 7 #[rv a0, iv p1, iv (1 : Int32)] [(.ref ar), (.int (1 : Int32))])) (st29) ?_
    refine ownGo (T' := T29) (f' := (mkF m 8 #[rv a0, iv p1, iv (1 : Int32)] [(.int (7 : Int32)), (.int (1 : Int32))])) (ownLenI HF1 X29 hx hZ e29 (z := (7 : Int32)) (by decide) (g := (mkF m 7 #[rv a0, iv p1, iv (1 : Int32)] [(.ref ar), (.int (1 : Int32))])) rfl rfl (hb hby own_d4_7)) ?_
    refine ow_icmpNo (q := 11) X29 hx (hb hby own_d4_8) rfl (Jvm.Free.XT.ii_ge_f (by decide)) ?_
    refine ow_aloadN (q := 12) X29 hx (hb hby own_d4_11) rfl rfl rfl ?_
    obtain ⟨T30, X30, e30, st30⟩ := getF X29 hx hZ hown (host := "") (Or.inl (hw _ (List.mem_of_getElem? (i := 11) rfl))) Via.refl e29 HF0 (g := (mkF m 12 #[rv a0, iv p1, iv (1 : Int32)] [(.ref a0)])) rfl rfl (hb hby own_d4_12)
    refine ownGo (T' := T30) (f' := (mkF m 15 #[rv a0, iv p1, iv (1 : Int32)] [(.ref ar)])) (st30) ?_
    refine ow_iloadN (q := 16) X30 hx (hb hby own_d4_15) rfl rfl ?_
    refine ownGo (T' := T30) (f' := (mkF m 17 #[rv a0, iv p1, iv (1 : Int32)] [(.int (g 1))])) (ownZaload HF1 X30 hx hZ e30 (j := (1 : Int32)) (by unfold ownIn; decide) (g := (mkF m 16 #[rv a0, iv p1, iv (1 : Int32)] [(.int (1 : Int32)), (.ref ar)])) rfl rfl (hb hby own_d4_16)) ?_
    generalize hv_v31 : (g 1) = v31
    by_cases hc17_32 : v31 = (0 : Int32)
    · refine ow_ifYes (q := 22) X30 hx (hb hby own_d4_17) (Jvm.Free.XT.i0_eq_t hc17_32) (by decide) (by decide) ?_
      refine ow_iinc (q := 25) X30 hx (L' := #[rv a0, iv p1, iv (2 : Int32)]) (hb hby own_d4_22) rfl rfl rfl ?_
      refine ow_goto (q := 2) X30 hx (hb hby own_d4_25) (by decide) (by decide) ?_
      exact nx2 (by rw [hn1]; show (if g 1 = (0 : Int32) then own_nx g 2 5 else (1 : Int32)) = _; rw [if_pos (hv_v31.trans hc17_32)]) _ _ X30 e30 Nc28
    · refine ow_ifNo (q := 20) X30 hx (hb hby own_d4_17) rfl (Jvm.Free.XT.i0_eq_f hc17_32) ?_
      refine ow_iloadN (q := 21) X30 hx (hb hby own_d4_20) rfl rfl ?_
      refine ownRetI X30 hx Bd.returns (hb hby own_d4_21) hlk (by decide) (by decide) ?_
      subst hv_v31
      rw [e30]
      refine ⟨congrArg (fun q => some (Value.int q)) ?_, Nc28, rfl⟩
      rw [hn1]
      show _ = (if g 1 = (0 : Int32) then own_nx g 2 5 else (1 : Int32))
      rw [if_neg hc17_32]
  have nx0 : own_next g 7 p1 = own_nx g 0 7 → ∀ (Tc33 : State) (lc33 : List Loc), Stand p l e ({ frames := 0, cells := 0, slots := 0, locals := 0 } : Room) s m #[(.ref a0), (.int p1)] below meth c Tc33 lc33 0 0 → Tc33.heap = h0 → Fr n0 lc33 → ownEnds p e below s (Q_next_7 Z a0 p1 ar g h0 n0) ({ frames := 0, cells := 0, slots := 0, locals := 0 } : Room).cells ({ frames := 0, cells := 0, slots := 0, locals := 0 } : Room).slots Tc33 (mkF m 2 #[rv a0, iv p1, iv (0 : Int32)] []) := by
    intro hn0 Tc33 lc33 Xc33 ec33 Nc33
    refine ow_iloadN (q := 3) Xc33 hx (hb hby own_d4_2) rfl rfl ?_
    refine ow_aloadN (q := 4) Xc33 hx (hb hby own_d4_3) rfl rfl rfl ?_
    obtain ⟨T34, X34, e34, st34⟩ := getF Xc33 hx hZ hown (host := "") (Or.inl (hw _ (List.mem_of_getElem? (i := 11) rfl))) Via.refl ec33 HF0 (g := (mkF m 4 #[rv a0, iv p1, iv (0 : Int32)] [(.ref a0), (.int (0 : Int32))])) rfl rfl (hb hby own_d4_4)
    refine ownGo (T' := T34) (f' := (mkF m 7 #[rv a0, iv p1, iv (0 : Int32)] [(.ref ar), (.int (0 : Int32))])) (st34) ?_
    refine ownGo (T' := T34) (f' := (mkF m 8 #[rv a0, iv p1, iv (0 : Int32)] [(.int (7 : Int32)), (.int (0 : Int32))])) (ownLenI HF1 X34 hx hZ e34 (z := (7 : Int32)) (by decide) (g := (mkF m 7 #[rv a0, iv p1, iv (0 : Int32)] [(.ref ar), (.int (0 : Int32))])) rfl rfl (hb hby own_d4_7)) ?_
    refine ow_icmpNo (q := 11) X34 hx (hb hby own_d4_8) rfl (Jvm.Free.XT.ii_ge_f (by decide)) ?_
    refine ow_aloadN (q := 12) X34 hx (hb hby own_d4_11) rfl rfl rfl ?_
    obtain ⟨T35, X35, e35, st35⟩ := getF X34 hx hZ hown (host := "") (Or.inl (hw _ (List.mem_of_getElem? (i := 11) rfl))) Via.refl e34 HF0 (g := (mkF m 12 #[rv a0, iv p1, iv (0 : Int32)] [(.ref a0)])) rfl rfl (hb hby own_d4_12)
    refine ownGo (T' := T35) (f' := (mkF m 15 #[rv a0, iv p1, iv (0 : Int32)] [(.ref ar)])) (st35) ?_
    refine ow_iloadN (q := 16) X35 hx (hb hby own_d4_15) rfl rfl ?_
    refine ownGo (T' := T35) (f' := (mkF m 17 #[rv a0, iv p1, iv (0 : Int32)] [(.int (g 0))])) (ownZaload HF1 X35 hx hZ e35 (j := (0 : Int32)) (by unfold ownIn; decide) (g := (mkF m 16 #[rv a0, iv p1, iv (0 : Int32)] [(.int (0 : Int32)), (.ref ar)])) rfl rfl (hb hby own_d4_16)) ?_
    generalize hv_v36 : (g 0) = v36
    by_cases hc17_37 : v36 = (0 : Int32)
    · refine ow_ifYes (q := 22) X35 hx (hb hby own_d4_17) (Jvm.Free.XT.i0_eq_t hc17_37) (by decide) (by decide) ?_
      refine ow_iinc (q := 25) X35 hx (L' := #[rv a0, iv p1, iv (1 : Int32)]) (hb hby own_d4_22) rfl rfl rfl ?_
      refine ow_goto (q := 2) X35 hx (hb hby own_d4_25) (by decide) (by decide) ?_
      exact nx1 (by rw [hn0]; show (if g 0 = (0 : Int32) then own_nx g 1 6 else (0 : Int32)) = _; rw [if_pos (hv_v36.trans hc17_37)]) _ _ X35 e35 Nc33
    · refine ow_ifNo (q := 20) X35 hx (hb hby own_d4_17) rfl (Jvm.Free.XT.i0_eq_f hc17_37) ?_
      refine ow_iloadN (q := 21) X35 hx (hb hby own_d4_20) rfl rfl ?_
      refine ownRetI X35 hx Bd.returns (hb hby own_d4_21) hlk (by decide) (by decide) ?_
      subst hv_v36
      rw [e35]
      refine ⟨congrArg (fun q => some (Value.int q)) ?_, Nc33, rfl⟩
      rw [hn0]
      show _ = (if g 0 = (0 : Int32) then own_nx g 1 6 else (0 : Int32))
      rw [if_neg hc17_37]
  rcases own_cases7 hp with hge | hs0 | hs1 | hs2 | hs3 | hs4 | hs5 | hs6
  · refine ow_iloadN (q := 3) X0 hx (hb hby own_d4_2) rfl rfl ?_
    refine ow_aloadN (q := 4) X0 hx (hb hby own_d4_3) rfl rfl rfl ?_
    obtain ⟨T38, X38, e38, st38⟩ := getF X0 hx hZ hown (host := "") (Or.inl (hw _ (List.mem_of_getElem? (i := 11) rfl))) Via.refl e0 HF0 (g := (mkF m 4 #[rv a0, iv p1, iv p1] [(.ref a0), (.int p1)])) rfl rfl (hb hby own_d4_4)
    refine ownGo (T' := T38) (f' := (mkF m 7 #[rv a0, iv p1, iv p1] [(.ref ar), (.int p1)])) (st38) ?_
    refine ownGo (T' := T38) (f' := (mkF m 8 #[rv a0, iv p1, iv p1] [(.int (7 : Int32)), (.int p1)])) (ownLenI HF1 X38 hx hZ e38 (z := (7 : Int32)) (by decide) (g := (mkF m 7 #[rv a0, iv p1, iv p1] [(.ref ar), (.int p1)])) rfl rfl (hb hby own_d4_7)) ?_
    refine ow_icmpYes (q := 28) X38 hx (hb hby own_d4_8) (Jvm.Free.XT.ii_ge_t hge) (by decide) (by decide) ?_
    refine ow_iconst (q := 29) X38 hx (-1 : Int32) (hb hby own_d4_28) rfl rfl ?_
    refine ownRetI X38 hx Bd.returns (hb hby own_d4_29) hlk (by decide) (by decide) ?_
    rw [e38]
    refine ⟨congrArg (fun q => some (Value.int q)) ?_, N0, rfl⟩
    exact (own_next_ge hge (by decide)).symm
  · subst hs0
    exact nx0 rfl _ _ X0 e0 N0
  · subst hs1
    exact nx1 rfl _ _ X0 e0 N0
  · subst hs2
    exact nx2 rfl _ _ X0 e0 N0
  · subst hs3
    exact nx3 rfl _ _ X0 e0 N0
  · subst hs4
    exact nx4 rfl _ _ X0 e0 N0
  · subst hs5
    exact nx5 rfl _ _ X0 e0 N0
  · subst hs6
    exact nx6 rfl _ _ X0 e0 N0
theorem own_ef6_min_8 (m : MethodId)  : entryFrame m #[(.int (1 : Int32)), (.int (8 : Int32))] 2 = mkF m 0 #[iv (1 : Int32), iv (8 : Int32)] [] := by first | (simp [entryFrame, mkF, argsToLocals, Value.category]; done) | rfl
def Q_min_8 (Z : State)  (h0 : Heap) (n0 : Nat) (v : Option Value) (h : Heap) (L : List Loc) : Prop := v = some (.int (1 : Int32)) ∧ Fr n0 L ∧ h = h0
set_option maxRecDepth 65536 in
set_option maxHeartbeats 40000000 in
theorem rm_min_8 (l : Launch) (Z : State) (av0 : Array Value) (hw : ∀ d ∈ tables_1, d.before av0 Z = true) (ws : List Jvm.Cond)  (h0 : Heap) (n0 : Nat) (Z0 : n0 ≤ h0.size) :
    MetFree l (⟨"java/lang/Math", "min", "(II)I"⟩ : MethodName) (head1 (Jvm.Cond.code (⟨"java/lang/Math", "min", "(II)I"⟩ : MethodName) jdk_29_method_69_code 2 (some .int) :: ws) ({ frames := 0, cells := 0, slots := 0, locals := 0 } : Room)) (fun a U => a = #[(.int (1 : Int32)), (.int (8 : Int32))] ∧ Z.Warmed39 U.vm ∧ U.heap = h0) (fun _ _ _ _ _ => True) (fun _ U o U' => ∃ v L, o = .returned v ∧ (Q_min_8 Z  h0 n0) v U'.heap L ∧ FrameEnd U o U' L ({ frames := 0, cells := 0, slots := 0, locals := 0 } : Room).cells ({ frames := 0, cells := 0, slots := 0, locals := 0 } : Room).slots) := by
  refine MetFree.of_bodySF (Jvm.Free.JP.mathPlain rfl (by decide +kernel)) hisR ?_
  intro p e s m args below meth c s₁ Bd hml0 hP hK
  obtain ⟨rfl, hZ, hh⟩ := hP
  have hx := Bd.exec
  have hby := Bd.bytes
  have hml : c.maxLocals = 2 := hml0
  have hown : s.vm.findClass "java/lang/Math" = some m.cls := findClass_of_methodNamed Bd.named
  have hnm := (name_of_methodNamed Bd.named Bd.method).1
  have hlk : meth.locks = false := BodyLoose.notSynchronized Bd
  have X0 : Stand p l e ({ frames := 0, cells := 0, slots := 0, locals := 0 } : Room) s m #[(.int (1 : Int32)), (.int (8 : Int32))] below meth c s₁ [] 0 0 := Stand.of_body Bd
  have e0 : s₁.heap = h0 := by rw [← hh, Bd.state]; rfl
  have N0 := Fr.nil n0
  have K0 : Keep h0 h0 [] := Keep.refl _ _
  show ownEnds p e below s (Q_min_8 Z  h0 n0) ({ frames := 0, cells := 0, slots := 0, locals := 0 } : Room).cells ({ frames := 0, cells := 0, slots := 0, locals := 0 } : Room).slots s₁ (entryFrame m #[(.int (1 : Int32)), (.int (8 : Int32))] 2)
  refine ownCast (own_ef6_min_8 m ) ?_
  refine ow_iloadN (q := 1) X0 hx (hb hby own_d6_0) rfl rfl ?_
  refine ow_iloadN (q := 2) X0 hx (hb hby own_d6_1) rfl rfl ?_
  refine ow_icmpNo (q := 5) X0 hx (hb hby own_d6_2) rfl (Jvm.Free.XT.ii_gt_f (by decide)) ?_
  refine ow_iloadN (q := 6) X0 hx (hb hby own_d6_5) rfl rfl ?_
  refine ow_goto (q := 10) X0 hx (hb hby own_d6_6) (by decide) (by decide) ?_
  refine ownRetI X0 hx Bd.returns (hb hby own_d6_10) hlk (by decide) (by decide) ?_
  rw [e0]
  exact ⟨rfl, N0, rfl⟩
theorem own_ef5_copyOf_8 (m : MethodId) (a0 : Addr) : entryFrame m #[(.ref a0), (.int (8 : Int32))] 3 = mkF m 0 #[rv a0, iv (8 : Int32), .unset] [] := by first | (simp [entryFrame, mkF, argsToLocals, Value.category]; done) | rfl
def Q_copyOf_8 (Z : State) (a0 : Addr) (h0 : Heap) (n0 : Nat) (v : Option Value) (h : Heap) (L : List Loc) : Prop := ∃ (r : Addr), v = some (.ref r) ∧ Fr n0 L ∧ Keep h0 h [] ∧ h0.size ≤ r ∧ ownAI Z h r .boolean 8 (fun _ => (0 : Int32))
set_option maxRecDepth 65536 in
set_option maxHeartbeats 40000000 in
theorem rm_copyOf_8 (l : Launch) (Z : State) (av0 : Array Value) (hw : ∀ d ∈ tables_1, d.before av0 Z = true) (ws : List Jvm.Cond) (a0 : Addr) (h0 : Heap) (n0 : Nat) (Z0 : n0 ≤ h0.size) (HF0 : ownAI Z h0 a0 .boolean 1 (fun _ => (0 : Int32))) :
    MetFree l (⟨"java/util/Arrays", "copyOf", "([ZI)[Z"⟩ : MethodName) (head1 (Jvm.Cond.code (⟨"java/util/Arrays", "copyOf", "([ZI)[Z"⟩ : MethodName) jdk_65_method_128_code 3 (some (.array .boolean)) :: ws) ({ frames := 1, cells := 1, slots := 8, locals := 18 } : Room)) (fun a U => a = #[(.ref a0), (.int (8 : Int32))] ∧ Z.Warmed39 U.vm ∧ U.heap = h0) (fun _ _ _ _ _ => True) (fun _ U o U' => ∃ v L, o = .returned v ∧ (Q_copyOf_8 Z a0 h0 n0) v U'.heap L ∧ FrameEnd U o U' L ({ frames := 1, cells := 1, slots := 8, locals := 18 } : Room).cells ({ frames := 1, cells := 1, slots := 8, locals := 18 } : Room).slots) := by
  refine MetFree.of_bodySF (plainFor_of_name own_pn_Arrays) hisR ?_
  intro p e s m args below meth c s₁ Bd hml0 hP hK
  obtain ⟨rfl, hZ, hh⟩ := hP
  have hx := Bd.exec
  have hby := Bd.bytes
  have hml : c.maxLocals = 3 := hml0
  have hown : s.vm.findClass "java/util/Arrays" = some m.cls := findClass_of_methodNamed Bd.named
  have hnm := (name_of_methodNamed Bd.named Bd.method).1
  have hlk : meth.locks = false := BodyLoose.notSynchronized Bd
  have X0 : Stand p l e ({ frames := 1, cells := 1, slots := 8, locals := 18 } : Room) s m #[(.ref a0), (.int (8 : Int32))] below meth c s₁ [] 0 0 := Stand.of_body Bd
  have e0 : s₁.heap = h0 := by rw [← hh, Bd.state]; rfl
  have N0 := Fr.nil n0
  have K0 : Keep h0 h0 [] := Keep.refl _ _
  show ownEnds p e below s (Q_copyOf_8 Z a0 h0 n0) ({ frames := 1, cells := 1, slots := 8, locals := 18 } : Room).cells ({ frames := 1, cells := 1, slots := 8, locals := 18 } : Room).slots s₁ (entryFrame m #[(.ref a0), (.int (8 : Int32))] 3)
  refine ownCast (own_ef5_copyOf_8 m a0) ?_
  refine ow_iloadN (q := 1) X0 hx (hb hby own_d5_0) rfl rfl ?_
  refine ow_aloadN (q := 2) X0 hx (hb hby own_d5_1) rfl rfl rfl ?_
  refine ownGo (T' := s₁) (f' := (mkF m 3 #[rv a0, iv (8 : Int32), .unset] [(.int (1 : Int32)), (.int (8 : Int32))])) (ownLenI HF0 X0 hx hZ e0 (z := (1 : Int32)) (by decide) (g := (mkF m 2 #[rv a0, iv (8 : Int32), .unset] [(.ref a0), (.int (8 : Int32))])) rfl rfl (hb hby own_d5_2)) ?_
  refine ow_icmpYes (q := 14) X0 hx (hb hby own_d5_3) (Jvm.Free.XT.ii_ne_t (by decide)) (by decide) (by decide) ?_
  refine ow_iloadN (q := 15) X0 hx (hb hby own_d5_14) rfl rfl ?_
  obtain ⟨T1, h1, k1, X1, e1, E1, A1, st1⟩ := newP X0 hx hZ (hw _ (List.mem_of_getElem? (i := 10) rfl)) e0 (g := (mkF m 15 #[rv a0, iv (8 : Int32), .unset] [(.int (8 : Int32))])) rfl (hb hby own_d5_15) rfl (by decide) (cap := 8) (by decide) (by decide) (by decide) (by decide)
  obtain ⟨b1, g1⟩ : ∃ z, z = h0.size := ⟨_, rfl⟩
  rw [← g1] at A1 st1
  have ne_a0_b1 : a0 ≠ b1 := Nat.ne_of_lt (Nat.lt_of_lt_of_le HF0.lt (Nat.le_of_eq g1.symm))
  have sz_b1 : h0.size ≤ b1 := Nat.le_trans K0.1 (Nat.le_of_eq g1.symm)
  have G_b1 : n0 ≤ b1 := Nat.le_trans Z0 sz_b1
  have K1 : Keep h0 h1 [] := K0.ext E1
  have F2 : ownAI Z h1 a0 .boolean 1 (fun _ => (0 : Int32)) := HF0.ext E1
  have F3 : ownAI Z h1 b1 .boolean 8 (fun _ => (0 : Int32)) := ownAI.new A1 (by decide) rfl (by decide)
  refine ownGo (T' := T1) (f' := (mkF m 17 #[rv a0, iv (8 : Int32), .unset] [(.ref b1)])) (st1) ?_
  refine ow_astoreN (q := 18) X1 hx (L' := #[rv a0, iv (8 : Int32), rv b1]) (hb hby own_d5_17) rfl rfl rfl ?_
  refine ow_aloadN (q := 19) X1 hx (hb hby own_d5_18) rfl rfl rfl ?_
  refine ow_iconst (q := 20) X1 hx (0 : Int32) (hb hby own_d5_19) rfl rfl ?_
  refine ow_aloadN (q := 21) X1 hx (hb hby own_d5_20) rfl rfl rfl ?_
  refine ow_iconst (q := 22) X1 hx (0 : Int32) (hb hby own_d5_21) rfl rfl ?_
  refine ow_aloadN (q := 23) X1 hx (hb hby own_d5_22) rfl rfl rfl ?_
  refine ownGo (T' := T1) (f' := (mkF m 24 #[rv a0, iv (8 : Int32), rv b1] [(.int (1 : Int32)), (.int (0 : Int32)), (.ref b1), (.int (0 : Int32)), (.ref a0)])) (ownLenI F2 X1 hx hZ e1 (z := (1 : Int32)) (by decide) (g := (mkF m 23 #[rv a0, iv (8 : Int32), rv b1] [(.ref a0), (.int (0 : Int32)), (.ref b1), (.int (0 : Int32)), (.ref a0)])) rfl rfl (hb hby own_d5_23)) ?_
  refine ow_iloadN (q := 25) X1 hx (hb hby own_d5_24) rfl rfl ?_
  obtain ⟨_, _, ⟨T4, L4, k4, n4⟩, -, X4, ⟨Lc4, hQ4, l4, y4, z4⟩, st4⟩ := Jvm.LawKit.callS X1 hx (y := (⟨"java/lang/Math", "min", "(II)I"⟩ : MethodName)) hown (mvT hZ (hw _ (List.mem_of_getElem? (i := 29) rfl))) (mvT hZ (hw _ (List.mem_of_getElem? (i := 30) rfl))) (mvT hZ (hw _ (List.mem_of_getElem? (i := 31) rfl))) (mvT hZ (hw _ (List.mem_of_getElem? (i := 32) rfl))) (by decide) (backOf (W := 4) (rm_min_8 l Z av0 hw []  h1 n0 (Nat.le_trans Z0 K1.1) ) hZ (hw _ (List.mem_of_getElem? (i := 32) rfl)) (hw _ (List.mem_of_getElem? (i := 31) rfl)) (by decide) (by decide)) (g := (mkF m 25 #[rv a0, iv (8 : Int32), rv b1] [(.int (8 : Int32)), (.int (1 : Int32)), (.int (0 : Int32)), (.ref b1), (.int (0 : Int32)), (.ref a0)])) rfl (by rw [hml]; rfl) (argsL := [(.int (1 : Int32)), (.int (8 : Int32))]) (rest := [(.int (0 : Int32)), (.ref b1), (.int (0 : Int32)), (.ref a0)]) (lenOf own_pd0 rfl) rfl (by show 2 * 0 + _ ≤ _; exact Nat.le_of_eq rfl) (hb hby own_d5_25) (fun _ _ => ⟨rfl, e1, (by decide : 1 + 0 ≤ _), (by decide : 8 + 0 ≤ _)⟩)
  dsimp only [Pt.U, Pt.locs, Pt.cells, Pt.slots] at X4 l4 y4 z4 st4 hQ4
  subst l4 y4 z4
  obtain ⟨rfl, N4q, e4⟩ := hQ4
  have N4 := Fr.app N0 N4q
  refine ownGo (T' := T4) (f' := (mkF m 28 #[rv a0, iv (8 : Int32), rv b1] [(.int (1 : Int32)), (.int (0 : Int32)), (.ref b1), (.int (0 : Int32)), (.ref a0)])) (st4) ?_
  obtain ⟨T5, h5, L5, X5, e5, N5, Kq5, FC5, st5⟩ := ownCopyI (gr := (fun _ => (0 : Int32))) (z := (1 : Int32)) (z' := (8 : Int32)) (nn := (1 : Int32)) F2 F3 (by decide) (by decide) (by decide) (by decide) rfl (fun _ _ => by decide) (fun _ _ => by decide) X4 hx hZ hown (hw _ (List.mem_of_getElem? (i := 33) rfl)) (hw _ (List.mem_of_getElem? (i := 36) rfl)) (hw _ (List.mem_of_getElem? (i := 34) rfl)) (hw _ (List.mem_of_getElem? (i := 35) rfl)) e4 (by decide) (by decide) (by decide) (fun i hi => by split <;> rfl) N4 G_b1 (g := (mkF m 28 #[rv a0, iv (8 : Int32), rv b1] [(.int (1 : Int32)), (.int (0 : Int32)), (.ref b1), (.int (0 : Int32)), (.ref a0)])) rfl (by rw [hml]; rfl) rfl (hb hby own_d5_28) (by decide) (W := 0) (by show 2 * 0 + _ ≤ _; exact Nat.le_of_eq rfl) (by decide)
  have K5 : Keep h0 h5 [] := K1.trans Kq5 (allS (Or.inr sz_b1) all0)
  have F6 : ownAI Z h5 a0 .boolean 1 (fun _ => (0 : Int32)) := F2.keep Kq5 (ninS ne_a0_b1 nin0)
  refine ownGo (T' := T5) (f' := (mkF m 31 #[rv a0, iv (8 : Int32), rv b1] [])) (st5) ?_
  refine ow_aloadN (q := 32) X5 hx (hb hby own_d5_31) rfl rfl rfl ?_
  refine ownRetR X5 hx rfl rfl rfl Bd.returns (hb hby own_d5_32) hlk (by decide) (by decide) ?_
  rw [e5]
  exact ⟨b1, rfl, N5, K5, sz_b1, FC5⟩
theorem own_ef3_grow_8 (m : MethodId) (a0 : Addr) (p1 : Int32) : entryFrame m #[(.ref a0), (.int p1)] 3 = mkF m 0 #[rv a0, iv p1, .unset] [] := by first | (simp [entryFrame, mkF, argsToLocals, Value.category]; done) | rfl
def Q_grow_8 (Z : State) (a0 : Addr) (p1 : Int32) (ar : Addr) (h0 : Heap) (n0 : Nat) (v : Option Value) (h : Heap) (L : List Loc) : Prop := ∃ (ar2 : Addr), v = none ∧ Fr n0 L ∧ Keep h0 h [a0] ∧ h0.size ≤ ar2 ∧ Exa Z h a0 "com/example/swarm_tally/swarmtally/ChunkMarks" ∧ Fld Z h a0 "com/example/swarm_tally/swarmtally/ChunkMarks" "changed" "[Z" (.ref ar2) ∧ ownAI Z h ar2 .boolean 8 (fun _ => (0 : Int32))
set_option maxRecDepth 65536 in
set_option maxHeartbeats 40000000 in
theorem rm_grow_8 (l : Launch) (Z : State) (av0 : Array Value) (hw : ∀ d ∈ tables_1, d.before av0 Z = true) (ws : List Jvm.Cond) (a0 : Addr) (p1 : Int32) (ar : Addr) (h0 : Heap) (n0 : Nat) (Z0 : n0 ≤ h0.size) (HF0 : Exa Z h0 a0 "com/example/swarm_tally/swarmtally/ChunkMarks") (HF1 : Fld Z h0 a0 "com/example/swarm_tally/swarmtally/ChunkMarks" "changed" "[Z" (.ref ar)) (HF2 : ownAI Z h0 ar .boolean 1 (fun _ => (0 : Int32))) (HF3 : Sta Z h0 "com/example/swarm_tally/swarmtally/ChunkMarks" "CHUNK_SHIFT" "I" (.int (10 : Int32))) (G_a0 : n0 ≤ a0) (hch : ((((p1 + (1024 : Int32)) - (1 : Int32)).toUInt32 >>> ((10 : Int32) &&& 31).toUInt32).toInt32) = (8 : Int32)) (hne : a0 ≠ ar) :
    MetFree l (⟨"com/example/swarm_tally/swarmtally/ChunkMarks", "grow", "(I)V"⟩ : MethodName) (head1 (Jvm.Cond.code (⟨"com/example/swarm_tally/swarmtally/ChunkMarks", "grow", "(I)V"⟩ : MethodName) prog_5_method_2_code 3 none :: ws) ({ frames := 2, cells := 1, slots := 8, locals := 33 } : Room)) (fun a U => a = #[(.ref a0), (.int p1)] ∧ Z.Warmed39 U.vm ∧ U.heap = h0) (fun _ _ _ _ _ => True) (fun _ U o U' => ∃ v L, o = .returned v ∧ (Q_grow_8 Z a0 p1 ar h0 n0) v U'.heap L ∧ FrameEnd U o U' L ({ frames := 2, cells := 1, slots := 8, locals := 33 } : Room).cells ({ frames := 2, cells := 1, slots := 8, locals := 33 } : Room).slots) := by
  refine MetFree.of_bodySF (plainFor_of_name own_pn_ChunkMarks) hisR ?_
  intro p e s m args below meth c s₁ Bd hml0 hP hK
  obtain ⟨rfl, hZ, hh⟩ := hP
  have hx := Bd.exec
  have hby := Bd.bytes
  have hml : c.maxLocals = 3 := hml0
  have hown : s.vm.findClass "com/example/swarm_tally/swarmtally/ChunkMarks" = some m.cls := findClass_of_methodNamed Bd.named
  have hnm := (name_of_methodNamed Bd.named Bd.method).1
  have hlk : meth.locks = false := BodyLoose.notSynchronized Bd
  have X0 : Stand p l e ({ frames := 2, cells := 1, slots := 8, locals := 33 } : Room) s m #[(.ref a0), (.int p1)] below meth c s₁ [] 0 0 := Stand.of_body Bd
  have e0 : s₁.heap = h0 := by rw [← hh, Bd.state]; rfl
  have N0 := Fr.nil n0
  have K0 : Keep h0 h0 [a0] := Keep.refl _ _
  show ownEnds p e below s (Q_grow_8 Z a0 p1 ar h0 n0) ({ frames := 2, cells := 1, slots := 8, locals := 33 } : Room).cells ({ frames := 2, cells := 1, slots := 8, locals := 33 } : Room).slots s₁ (entryFrame m #[(.ref a0), (.int p1)] 3)
  refine ownCast (own_ef3_grow_8 m a0 p1) ?_
  refine ow_iloadN (q := 1) X0 hx (hb hby own_d3_0) rfl rfl ?_
  refine ow_sipush (q := 4) X0 hx (1024 : Int32) (hb hby own_d3_1) rfl rfl ?_
  refine ow_iadd (q := 5) X0 hx _ (hb hby own_d3_4) rfl rfl ?_
  refine ow_iconst (q := 6) X0 hx (1 : Int32) (hb hby own_d3_5) rfl rfl ?_
  refine ow_isub (q := 7) X0 hx _ (hb hby own_d3_6) rfl rfl ?_
  obtain ⟨T1, X1, e1, st1⟩ := getS2 X0 hx hZ hown (host := "") (Or.inl (hw _ (List.mem_of_getElem? (i := 18) rfl))) Via.refl e0 HF3 (g := (mkF m 7 #[rv a0, iv p1, .unset] [(.int ((p1 + (1024 : Int32)) - (1 : Int32)))])) rfl (hb hby own_d3_7)
  refine ownGo (T' := T1) (f' := (mkF m 10 #[rv a0, iv p1, .unset] [(.int (10 : Int32)), (.int ((p1 + (1024 : Int32)) - (1 : Int32)))])) (st1) ?_
  refine ow_iushr (q := 11) X1 hx _ (hb hby own_d3_10) rfl rfl ?_
  generalize hv_v2 : ((((p1 + (1024 : Int32)) - (1 : Int32)).toUInt32 >>> ((10 : Int32) &&& 31).toUInt32).toInt32) = v2
  refine ow_istoreN (q := 12) X1 hx (L' := #[rv a0, iv p1, iv v2]) (hb hby own_d3_11) rfl rfl ?_
  have hs3 := (hv_v2.symm.trans hch)
  subst hs3
  refine ow_iloadN (q := 13) X1 hx (hb hby own_d3_12) rfl rfl ?_
  refine ow_aloadN (q := 14) X1 hx (hb hby own_d3_13) rfl rfl rfl ?_
  obtain ⟨T4, X4, e4, st4⟩ := getF X1 hx hZ hown (host := "") (Or.inl (hw _ (List.mem_of_getElem? (i := 11) rfl))) Via.refl e1 HF1 (g := (mkF m 14 #[rv a0, iv p1, iv (8 : Int32)] [(.ref a0), (.int (8 : Int32))])) rfl rfl (hb hby own_d3_14)
  refine ownGo (T' := T4) (f' := (mkF m 17 #[rv a0, iv p1, iv (8 : Int32)] [(.ref ar), (.int (8 : Int32))])) (st4) ?_
  refine ownGo (T' := T4) (f' := (mkF m 18 #[rv a0, iv p1, iv (8 : Int32)] [(.int (1 : Int32)), (.int (8 : Int32))])) (ownLenI HF2 X4 hx hZ e4 (z := (1 : Int32)) (by decide) (g := (mkF m 17 #[rv a0, iv p1, iv (8 : Int32)] [(.ref ar), (.int (8 : Int32))])) rfl rfl (hb hby own_d3_17)) ?_
  refine ow_icmpNo (q := 21) X4 hx (hb hby own_d3_18) rfl (Jvm.Free.XT.ii_le_f (by decide)) ?_
  refine ow_aloadN (q := 22) X4 hx (hb hby own_d3_21) rfl rfl rfl ?_
  refine ow_aloadN (q := 23) X4 hx (hb hby own_d3_22) rfl rfl rfl ?_
  obtain ⟨T5, X5, e5, st5⟩ := getF X4 hx hZ hown (host := "") (Or.inl (hw _ (List.mem_of_getElem? (i := 11) rfl))) Via.refl e4 HF1 (g := (mkF m 23 #[rv a0, iv p1, iv (8 : Int32)] [(.ref a0), (.ref a0)])) rfl rfl (hb hby own_d3_23)
  refine ownGo (T' := T5) (f' := (mkF m 26 #[rv a0, iv p1, iv (8 : Int32)] [(.ref ar), (.ref a0)])) (st5) ?_
  refine ow_iloadN (q := 27) X5 hx (hb hby own_d3_26) rfl rfl ?_
  obtain ⟨_, _, ⟨T6, L6, k6, n6⟩, -, X6, ⟨Lc6, hQ6, l6, y6, z6⟩, st6⟩ := Jvm.LawKit.callS X5 hx (y := (⟨"java/util/Arrays", "copyOf", "([ZI)[Z"⟩ : MethodName)) hown (mvT hZ (hw _ (List.mem_of_getElem? (i := 25) rfl))) (mvT hZ (hw _ (List.mem_of_getElem? (i := 26) rfl))) (mvT hZ (hw _ (List.mem_of_getElem? (i := 27) rfl))) (mvT hZ (hw _ (List.mem_of_getElem? (i := 28) rfl))) (by decide) (backOf (W := 1) (rm_copyOf_8 l Z av0 hw [] ar h0 n0 (Nat.le_trans Z0 K0.1) HF2) hZ (hw _ (List.mem_of_getElem? (i := 28) rfl)) (hw _ (List.mem_of_getElem? (i := 27) rfl)) (by decide) (by decide)) (g := (mkF m 27 #[rv a0, iv p1, iv (8 : Int32)] [(.int (8 : Int32)), (.ref ar), (.ref a0)])) rfl (by rw [hml]; rfl) (argsL := [(.ref ar), (.int (8 : Int32))]) (rest := [(.ref a0)]) (lenOf own_pd1 rfl) rfl (by show 2 * 0 + _ ≤ _; exact Nat.le_of_eq rfl) (hb hby own_d3_27) (fun _ _ => ⟨rfl, e5, (by decide : 0 + 1 ≤ _), (by decide : 0 + 8 ≤ _)⟩)
  dsimp only [Pt.U, Pt.locs, Pt.cells, Pt.slots] at X6 l6 y6 z6 st6 hQ6
  subst l6 y6 z6
  obtain ⟨b6, rfl, N6q, Kq6, sq6_b6, FP6_0⟩ := hQ6
  have N6 := Fr.app N0 N6q
  have K6 : Keep h0 T6.heap [a0] := K0.trans Kq6 all0
  have ne_a0_b6 : a0 ≠ b6 := Nat.ne_of_lt (Nat.lt_of_lt_of_le HF0.lt sq6_b6)
  have ne_ar_b6 : ar ≠ b6 := Nat.ne_of_lt (Nat.lt_of_lt_of_le HF2.lt sq6_b6)
  have sz_b6 : h0.size ≤ b6 := Nat.le_trans K0.1 sq6_b6
  have G_b6 : n0 ≤ b6 := Nat.le_trans Z0 sz_b6
  have F7 : Exa Z T6.heap a0 "com/example/swarm_tally/swarmtally/ChunkMarks" := HF0.keep Kq6
  have F8 : Fld Z T6.heap a0 "com/example/swarm_tally/swarmtally/ChunkMarks" "changed" "[Z" (.ref ar) := HF1.keep Kq6 nin0
  have F9 : ownAI Z T6.heap ar .boolean 1 (fun _ => (0 : Int32)) := HF2.keep Kq6 nin0
  have F10 : Sta Z T6.heap "com/example/swarm_tally/swarmtally/ChunkMarks" "CHUNK_SHIFT" "I" (.int (10 : Int32)) := ownStaKeep HF3 Kq6 all0
  refine ownGo (T' := T6) (f' := (mkF m 30 #[rv a0, iv p1, iv (8 : Int32)] [(.ref b6), (.ref a0)])) (st6) ?_
  obtain ⟨T11, h11, X11, e11, W11, st11⟩ := putF X6 hx hZ hown (host := "") (Or.inl (hw _ (List.mem_of_getElem? (i := 11) rfl))) Via.refl rfl F8 F7 (Or.inl (hw _ (List.mem_of_getElem? (i := 12) rfl))) (hw _ (List.mem_of_getElem? (i := 2) rfl)) (ty := (.array .boolean)) (by decide) rfl rfl (g := (mkF m 30 #[rv a0, iv p1, iv (8 : Int32)] [(.ref b6), (.ref a0)])) rfl rfl (hb hby own_d3_30)
  have N11 := Fr.snoc X11 N6 G_a0
  have K11 : Keep h0 h11 [a0] := K6.wr W11 (Or.inl (List.mem_of_getElem? (i := 0) rfl))
  have F12 : Exa Z h11 a0 "com/example/swarm_tally/swarmtally/ChunkMarks" := F7.wr W11
  have F13 : Fld Z h11 a0 "com/example/swarm_tally/swarmtally/ChunkMarks" "changed" "[Z" (.ref b6) := F8.same W11
  have F14 : ownAI Z h11 ar .boolean 1 (fun _ => (0 : Int32)) := F9.other W11 (Ne.symm hne)
  have F15 : Sta Z h11 "com/example/swarm_tally/swarmtally/ChunkMarks" "CHUNK_SHIFT" "I" (.int (10 : Int32)) := F10.wr W11
  have F16 : ownAI Z h11 b6 .boolean 8 (fun _ => (0 : Int32)) := FP6_0.other W11 (Ne.symm ne_a0_b6)
  refine ownGo (T' := T11) (f' := (mkF m 33 #[rv a0, iv p1, iv (8 : Int32)] [])) (st11) ?_
  refine ownRetV X11 hx Bd.returns (hb hby own_d3_33) hlk (by decide) (by decide) ?_
  rw [e11]
  exact ⟨b6, rfl, N11, K11, sz_b6, F12, F13, F16⟩
theorem own_ef7_mark_8 (m : MethodId) (a0 : Addr) (p1 : Int32) : entryFrame m #[(.ref a0), (.int p1)] 2 = mkF m 0 #[rv a0, iv p1] [] := by first | (simp [entryFrame, mkF, argsToLocals, Value.category]; done) | rfl
def Q_mark_8 (Z : State) (a0 : Addr) (p1 : Int32) (ar : Addr) (g : Nat → Int32) (h0 : Heap) (n0 : Nat) (v : Option Value) (h : Heap) (L : List Loc) : Prop := v = none ∧ Fr n0 L ∧ Keep h0 h [ar] ∧ ownAI Z h ar .boolean 8 (ownUpd g (own_ix p1) (1 : Int32))
set_option maxRecDepth 65536 in
set_option maxHeartbeats 40000000 in
theorem rm_mark_8 (l : Launch) (Z : State) (av0 : Array Value) (hw : ∀ d ∈ tables_1, d.before av0 Z = true) (ws : List Jvm.Cond) (a0 : Addr) (p1 : Int32) (ar : Addr) (g : Nat → Int32) (h0 : Heap) (n0 : Nat) (Z0 : n0 ≤ h0.size) (HF0 : Fld Z h0 a0 "com/example/swarm_tally/swarmtally/ChunkMarks" "changed" "[Z" (.ref ar)) (HF1 : ownAI Z h0 ar .boolean 8 g) (HF2 : Sta Z h0 "com/example/swarm_tally/swarmtally/ChunkMarks" "CHUNK_SHIFT" "I" (.int (10 : Int32))) (G_ar : n0 ≤ ar) (hin : ownIn ((p1.toUInt32 >>> ((10 : Int32) &&& 31).toUInt32).toInt32) 8) (hne : a0 ≠ ar) :
    MetFree l (⟨"com/example/swarm_tally/swarmtally/ChunkMarks", "mark", "(I)V"⟩ : MethodName) (head1 (Jvm.Cond.code (⟨"com/example/swarm_tally/swarmtally/ChunkMarks", "mark", "(I)V"⟩ : MethodName) prog_5_method_3_code 2 none :: ws) ({ frames := 0, cells := 0, slots := 0, locals := 0 } : Room)) (fun a U => a = #[(.ref a0), (.int p1)] ∧ Z.Warmed39 U.vm ∧ U.heap = h0) (fun _ _ _ _ _ => True) (fun _ U o U' => ∃ v L, o = .returned v ∧ (Q_mark_8 Z a0 p1 ar g h0 n0) v U'.heap L ∧ FrameEnd U o U' L ({ frames := 0, cells := 0, slots := 0, locals := 0 } : Room).cells ({ frames := 0, cells := 0, slots := 0, locals := 0 } : Room).slots) := by
  refine MetFree.of_bodySF (plainFor_of_name own_pn_ChunkMarks) hisR ?_
  intro p e s m args below meth c s₁ Bd hml0 hP hK
  obtain ⟨rfl, hZ, hh⟩ := hP
  have hx := Bd.exec
  have hby := Bd.bytes
  have hml : c.maxLocals = 2 := hml0
  have hown : s.vm.findClass "com/example/swarm_tally/swarmtally/ChunkMarks" = some m.cls := findClass_of_methodNamed Bd.named
  have hnm := (name_of_methodNamed Bd.named Bd.method).1
  have hlk : meth.locks = false := BodyLoose.notSynchronized Bd
  have X0 : Stand p l e ({ frames := 0, cells := 0, slots := 0, locals := 0 } : Room) s m #[(.ref a0), (.int p1)] below meth c s₁ [] 0 0 := Stand.of_body Bd
  have e0 : s₁.heap = h0 := by rw [← hh, Bd.state]; rfl
  have N0 := Fr.nil n0
  have K0 : Keep h0 h0 [ar] := Keep.refl _ _
  show ownEnds p e below s (Q_mark_8 Z a0 p1 ar g h0 n0) ({ frames := 0, cells := 0, slots := 0, locals := 0 } : Room).cells ({ frames := 0, cells := 0, slots := 0, locals := 0 } : Room).slots s₁ (entryFrame m #[(.ref a0), (.int p1)] 2)
  refine ownCast (own_ef7_mark_8 m a0 p1) ?_
  refine ow_aloadN (q := 1) X0 hx (hb hby own_d7_0) rfl rfl rfl ?_
  obtain ⟨T1, X1, e1, st1⟩ := getF X0 hx hZ hown (host := "") (Or.inl (hw _ (List.mem_of_getElem? (i := 11) rfl))) Via.refl e0 HF0 (g := (mkF m 1 #[rv a0, iv p1] [(.ref a0)])) rfl rfl (hb hby own_d7_1)
  refine ownGo (T' := T1) (f' := (mkF m 4 #[rv a0, iv p1] [(.ref ar)])) (st1) ?_
  refine ow_iloadN (q := 5) X1 hx (hb hby own_d7_4) rfl rfl ?_
  obtain ⟨T2, X2, e2, st2⟩ := getS2 X1 hx hZ hown (host := "") (Or.inl (hw _ (List.mem_of_getElem? (i := 18) rfl))) Via.refl e1 HF2 (g := (mkF m 5 #[rv a0, iv p1] [(.int p1), (.ref ar)])) rfl (hb hby own_d7_5)
  refine ownGo (T' := T2) (f' := (mkF m 8 #[rv a0, iv p1] [(.int (10 : Int32)), (.int p1), (.ref ar)])) (st2) ?_
  refine ow_iushr (q := 9) X2 hx _ (hb hby own_d7_8) rfl rfl ?_
  refine ow_iconst (q := 10) X2 hx (1 : Int32) (hb hby own_d7_9) rfl rfl ?_
  generalize hv_v3 : ((p1.toUInt32 >>> ((10 : Int32) &&& 31).toUInt32).toInt32) = v3
  obtain ⟨T4, h4, X4, e4, W4, F4s, st4⟩ := ownZastore HF1 X2 hx hZ e2 (j := v3) (by rw [← hv_v3]; exact hin) (g := (mkF m 10 #[rv a0, iv p1] [(.int (1 : Int32)), (.int v3), (.ref ar)])) rfl rfl (hb hby own_d7_10)
  generalize hg_gf4 : (ownUpd g v3.toNatClampNeg (1 : Int32)) = gf4 at F4s
  have N4 := Fr.snoc X4 N0 G_ar
  have K4 : Keep h0 h4 [ar] := K0.wr W4 (Or.inl (List.mem_of_getElem? (i := 0) rfl))
  have F5 : Fld Z h4 a0 "com/example/swarm_tally/swarmtally/ChunkMarks" "changed" "[Z" (.ref ar) := HF0.other W4 (Or.inl hne)
  have F6 : Sta Z h4 "com/example/swarm_tally/swarmtally/ChunkMarks" "CHUNK_SHIFT" "I" (.int (10 : Int32)) := HF2.wr W4
  refine ownGo (T' := T4) (f' := (mkF m 11 #[rv a0, iv p1] [])) (st4) ?_
  refine ownRetV X4 hx Bd.returns (hb hby own_d7_11) hlk (by decide) (by decide) ?_
  subst hg_gf4 hv_v3
  rw [e4]
  exact ⟨rfl, N4, K4, F4s⟩
theorem own_ef4_next_8 (m : MethodId) (a0 : Addr) (p1 : Int32) : entryFrame m #[(.ref a0), (.int p1)] 3 = mkF m 0 #[rv a0, iv p1, .unset] [] := by first | (simp [entryFrame, mkF, argsToLocals, Value.category]; done) | rfl
def Q_next_8 (Z : State) (a0 : Addr) (p1 : Int32) (ar : Addr) (g : Nat → Int32) (h0 : Heap) (n0 : Nat) (v : Option Value) (h : Heap) (L : List Loc) : Prop := v = some (.int (own_next g 8 p1)) ∧ Fr n0 L ∧ h = h0
set_option maxRecDepth 65536 in
set_option maxHeartbeats 40000000 in
theorem rm_next_8 (l : Launch) (Z : State) (av0 : Array Value) (hw : ∀ d ∈ tables_1, d.before av0 Z = true) (ws : List Jvm.Cond) (a0 : Addr) (p1 : Int32) (ar : Addr) (g : Nat → Int32) (h0 : Heap) (n0 : Nat) (Z0 : n0 ≤ h0.size) (HF0 : Fld Z h0 a0 "com/example/swarm_tally/swarmtally/ChunkMarks" "changed" "[Z" (.ref ar)) (HF1 : ownAI Z h0 ar .boolean 8 g) (hp : 0 ≤ p1.toInt) :
    MetFree l (⟨"com/example/swarm_tally/swarmtally/ChunkMarks", "next", "(I)I"⟩ : MethodName) (head1 (Jvm.Cond.code (⟨"com/example/swarm_tally/swarmtally/ChunkMarks", "next", "(I)I"⟩ : MethodName) prog_5_method_4_code 3 (some .int) :: ws) ({ frames := 0, cells := 0, slots := 0, locals := 0 } : Room)) (fun a U => a = #[(.ref a0), (.int p1)] ∧ Z.Warmed39 U.vm ∧ U.heap = h0) (fun _ _ _ _ _ => True) (fun _ U o U' => ∃ v L, o = .returned v ∧ (Q_next_8 Z a0 p1 ar g h0 n0) v U'.heap L ∧ FrameEnd U o U' L ({ frames := 0, cells := 0, slots := 0, locals := 0 } : Room).cells ({ frames := 0, cells := 0, slots := 0, locals := 0 } : Room).slots) := by
  refine MetFree.of_bodySF (plainFor_of_name own_pn_ChunkMarks) hisR ?_
  intro p e s m args below meth c s₁ Bd hml0 hP hK
  obtain ⟨rfl, hZ, hh⟩ := hP
  have hx := Bd.exec
  have hby := Bd.bytes
  have hml : c.maxLocals = 3 := hml0
  have hown : s.vm.findClass "com/example/swarm_tally/swarmtally/ChunkMarks" = some m.cls := findClass_of_methodNamed Bd.named
  have hnm := (name_of_methodNamed Bd.named Bd.method).1
  have hlk : meth.locks = false := BodyLoose.notSynchronized Bd
  have X0 : Stand p l e ({ frames := 0, cells := 0, slots := 0, locals := 0 } : Room) s m #[(.ref a0), (.int p1)] below meth c s₁ [] 0 0 := Stand.of_body Bd
  have e0 : s₁.heap = h0 := by rw [← hh, Bd.state]; rfl
  have N0 := Fr.nil n0
  have K0 : Keep h0 h0 [] := Keep.refl _ _
  show ownEnds p e below s (Q_next_8 Z a0 p1 ar g h0 n0) ({ frames := 0, cells := 0, slots := 0, locals := 0 } : Room).cells ({ frames := 0, cells := 0, slots := 0, locals := 0 } : Room).slots s₁ (entryFrame m #[(.ref a0), (.int p1)] 3)
  refine ownCast (own_ef4_next_8 m a0 p1) ?_
  refine ow_iloadN (q := 1) X0 hx (hb hby own_d4_0) rfl rfl ?_
  refine ow_istoreN (q := 2) X0 hx (L' := #[rv a0, iv p1, iv p1]) (hb hby own_d4_1) rfl rfl ?_
  have nx8 : own_next g 8 p1 = own_nx g 8 0 → ∀ (Tc1 : State) (lc1 : List Loc), Stand p l e ({ frames := 0, cells := 0, slots := 0, locals := 0 } : Room) s m #[(.ref a0), (.int p1)] below meth c Tc1 lc1 0 0 → Tc1.heap = h0 → Fr n0 lc1 → ownEnds p e below s (Q_next_8 Z a0 p1 ar g h0 n0) ({ frames := 0, cells := 0, slots := 0, locals := 0 } : Room).cells ({ frames := 0, cells := 0, slots := 0, locals := 0 } : Room).slots Tc1 (mkF m 2 #[rv a0, iv p1, iv (8 : Int32)] []) := by
    intro hn8 Tc1 lc1 Xc1 ec1 Nc1
    refine ow_iloadN (q := 3) Xc1 hx (hb hby own_d4_2) rfl rfl ?_
    refine ow_aloadN (q := 4) Xc1 hx (hb hby own_d4_3) rfl rfl rfl ?_
    obtain ⟨T2, X2, e2, st2⟩ := getF Xc1 hx hZ hown (host := "") (Or.inl (hw _ (List.mem_of_getElem? (i := 11) rfl))) Via.refl ec1 HF0 (g := (mkF m 4 #[rv a0, iv p1, iv (8 : Int32)] [(.ref a0), (.int (8 : Int32))])) rfl rfl (hb hby own_d4_4)
    refine ownGo (T' := T2) (f' := (mkF m 7 #[rv a0, iv p1, iv (8 : Int32)] [(.ref ar), (.int (8 : Int32))])) (st2) ?_
    refine ownGo (T' := T2) (f' := (mkF m 8 #[rv a0, iv p1, iv (8 : Int32)] [(.int (8 : Int32)), (.int (8 : Int32))])) (ownLenI HF1 X2 hx hZ e2 (z := (8 : Int32)) (by decide) (g := (mkF m 7 #[rv a0, iv p1, iv (8 : Int32)] [(.ref ar), (.int (8 : Int32))])) rfl rfl (hb hby own_d4_7)) ?_
    refine ow_icmpYes (q := 28) X2 hx (hb hby own_d4_8) (Jvm.Free.XT.ii_ge_t (by decide)) (by decide) (by decide) ?_
    refine ow_iconst (q := 29) X2 hx (-1 : Int32) (hb hby own_d4_28) rfl rfl ?_
    refine ownRetI X2 hx Bd.returns (hb hby own_d4_29) hlk (by decide) (by decide) ?_
    rw [e2]
    refine ⟨congrArg (fun q => some (Value.int q)) ?_, Nc1, rfl⟩
    rw [hn8]
    rfl
  have nx7 : own_next g 8 p1 = own_nx g 7 1 → ∀ (Tc3 : State) (lc3 : List Loc), Stand p l e ({ frames := 0, cells := 0, slots := 0, locals := 0 } : Room) s m #[(.ref a0), (.int p1)] below meth c Tc3 lc3 0 0 → Tc3.heap = h0 → Fr n0 lc3 → ownEnds p e below s (Q_next_8 Z a0 p1 ar g h0 n0) ({ frames := 0, cells := 0, slots := 0, locals := 0 } : Room).cells ({ frames := 0, cells := 0, slots := 0, locals := 0 } : Room).slots Tc3 (mkF m 2 #[rv a0, iv p1, iv (7 : Int32)] []) := by
    intro hn7 Tc3 lc3 Xc3 ec3 Nc3
    refine ow_iloadN (q := 3) Xc3 hx (hb hby own_d4_2) rfl rfl ?_
    refine ow_aloadN (q := 4) Xc3 hx (hb hby own_d4_3) rfl rfl rfl ?_
    obtain ⟨T4, X4, e4, st4⟩ := getF Xc3 hx hZ hown (host := "") (Or.inl (hw _ (List.mem_of_getElem? (i := 11) rfl))) Via.refl ec3 HF0 (g := (mkF m 4 #[rv a0, iv p1, iv (7 : Int32)] [(.ref a0), (.int (7 : Int32))])) rfl rfl (hb hby own_d4_4)
    refine ownGo (T' := T4) (f' := (mkF m 7 #[rv a0, iv p1, iv (7 : Int32)] [(.ref ar), (.int (7 : Int32))])) (st4) ?_
    refine ownGo (T' := T4) (f' := (mkF m 8 #[rv a0, iv p1, iv (7 : Int32)] [(.int (8 : Int32)), (.int (7 : Int32))])) (ownLenI HF1 X4 hx hZ e4 (z := (8 : Int32)) (by decide) (g := (mkF m 7 #[rv a0, iv p1, iv (7 : Int32)] [(.ref ar), (.int (7 : Int32))])) rfl rfl (hb hby own_d4_7)) ?_
    refine ow_icmpNo (q := 11) X4 hx (hb hby own_d4_8) rfl (Jvm.Free.XT.ii_ge_f (by decide)) ?_
    refine ow_aloadN (q := 12) X4 hx (hb hby own_d4_11) rfl rfl rfl ?_
    obtain ⟨T5, X5, e5, st5⟩ := getF X4 hx hZ hown (host := "") (Or.inl (hw _ (List.mem_of_getElem? (i := 11) rfl))) Via.refl e4 HF0 (g := (mkF m 12 #[rv a0, iv p1, iv (7 : Int32)] [(.ref a0)])) rfl rfl (hb hby own_d4_12)
    refine ownGo (T' := T5) (f' := (mkF m 15 #[rv a0, iv p1, iv (7 : Int32)] [(.ref ar)])) (st5) ?_
    refine ow_iloadN (q := 16) X5 hx (hb hby own_d4_15) rfl rfl ?_
    refine ownGo (T' := T5) (f' := (mkF m 17 #[rv a0, iv p1, iv (7 : Int32)] [(.int (g 7))])) (ownZaload HF1 X5 hx hZ e5 (j := (7 : Int32)) (by unfold ownIn; decide) (g := (mkF m 16 #[rv a0, iv p1, iv (7 : Int32)] [(.int (7 : Int32)), (.ref ar)])) rfl rfl (hb hby own_d4_16)) ?_
    generalize hv_v6 : (g 7) = v6
    by_cases hc17_7 : v6 = (0 : Int32)
    · refine ow_ifYes (q := 22) X5 hx (hb hby own_d4_17) (Jvm.Free.XT.i0_eq_t hc17_7) (by decide) (by decide) ?_
      refine ow_iinc (q := 25) X5 hx (L' := #[rv a0, iv p1, iv (8 : Int32)]) (hb hby own_d4_22) rfl rfl rfl ?_
      refine ow_goto (q := 2) X5 hx (hb hby own_d4_25) (by decide) (by decide) ?_
      exact nx8 (by rw [hn7]; show (if g 7 = (0 : Int32) then own_nx g 8 0 else (7 : Int32)) = _; rw [if_pos (hv_v6.trans hc17_7)]) _ _ X5 e5 Nc3
    · refine ow_ifNo (q := 20) X5 hx (hb hby own_d4_17) rfl (Jvm.Free.XT.i0_eq_f hc17_7) ?_
      refine ow_iloadN (q := 21) X5 hx (hb hby own_d4_20) rfl rfl ?_
      refine ownRetI X5 hx Bd.returns (hb hby own_d4_21) hlk (by decide) (by decide) ?_
      subst hv_v6
      rw [e5]
      refine ⟨congrArg (fun q => some (Value.int q)) ?_, Nc3, rfl⟩
      rw [hn7]
      show _ = (if g 7 = (0 : Int32) then own_nx g 8 0 else (7 : Int32))
      rw [if_neg hc17_7]
  have nx6 : own_next g 8 p1 = own_nx g 6 2 → ∀ (Tc8 : State) (lc8 : List Loc), Stand p l e ({ frames := 0, cells := 0, slots := 0, locals := 0 } : Room) s m #[(.ref a0), (.int p1)] below meth c Tc8 lc8 0 0 → Tc8.heap = h0 → Fr n0 lc8 → ownEnds p e below s (Q_next_8 Z a0 p1 ar g h0 n0) ({ frames := 0, cells := 0, slots := 0, locals := 0 } : Room).cells ({ frames := 0, cells := 0, slots := 0, locals := 0 } : Room).slots Tc8 (mkF m 2 #[rv a0, iv p1, iv (6 : Int32)] []) := by
    intro hn6 Tc8 lc8 Xc8 ec8 Nc8
    refine ow_iloadN (q := 3) Xc8 hx (hb hby own_d4_2) rfl rfl ?_
    refine ow_aloadN (q := 4) Xc8 hx (hb hby own_d4_3) rfl rfl rfl ?_
    obtain ⟨T9, X9, e9, st9⟩ := getF Xc8 hx hZ hown (host := "") (Or.inl (hw _ (List.mem_of_getElem? (i := 11) rfl))) Via.refl ec8 HF0 (g := (mkF m 4 #[rv a0, iv p1, iv (6 : Int32)] [(.ref a0), (.int (6 : Int32))])) rfl rfl (hb hby own_d4_4)
    refine ownGo (T' := T9) (f' := (mkF m 7 #[rv a0, iv p1, iv (6 : Int32)] [(.ref ar), (.int (6 : Int32))])) (st9) ?_
    refine ownGo (T' := T9) (f' := (mkF m 8 #[rv a0, iv p1, iv (6 : Int32)] [(.int (8 : Int32)), (.int (6 : Int32))])) (ownLenI HF1 X9 hx hZ e9 (z := (8 : Int32)) (by decide) (g := (mkF m 7 #[rv a0, iv p1, iv (6 : Int32)] [(.ref ar), (.int (6 : Int32))])) rfl rfl (hb hby own_d4_7)) ?_
    refine ow_icmpNo (q := 11) X9 hx (hb hby own_d4_8) rfl (Jvm.Free.XT.ii_ge_f (by decide)) ?_
    refine ow_aloadN (q := 12) X9 hx (hb hby own_d4_11) rfl rfl rfl ?_
    obtain ⟨T10, X10, e10, st10⟩ := getF X9 hx hZ hown (host := "") (Or.inl (hw _ (List.mem_of_getElem? (i := 11) rfl))) Via.refl e9 HF0 (g := (mkF m 12 #[rv a0, iv p1, iv (6 : Int32)] [(.ref a0)])) rfl rfl (hb hby own_d4_12)
    refine ownGo (T' := T10) (f' := (mkF m 15 #[rv a0, iv p1, iv (6 : Int32)] [(.ref ar)])) (st10) ?_
    refine ow_iloadN (q := 16) X10 hx (hb hby own_d4_15) rfl rfl ?_
    refine ownGo (T' := T10) (f' := (mkF m 17 #[rv a0, iv p1, iv (6 : Int32)] [(.int (g 6))])) (ownZaload HF1 X10 hx hZ e10 (j := (6 : Int32)) (by unfold ownIn; decide) (g := (mkF m 16 #[rv a0, iv p1, iv (6 : Int32)] [(.int (6 : Int32)), (.ref ar)])) rfl rfl (hb hby own_d4_16)) ?_
    generalize hv_v11 : (g 6) = v11
    by_cases hc17_12 : v11 = (0 : Int32)
    · refine ow_ifYes (q := 22) X10 hx (hb hby own_d4_17) (Jvm.Free.XT.i0_eq_t hc17_12) (by decide) (by decide) ?_
      refine ow_iinc (q := 25) X10 hx (L' := #[rv a0, iv p1, iv (7 : Int32)]) (hb hby own_d4_22) rfl rfl rfl ?_
      refine ow_goto (q := 2) X10 hx (hb hby own_d4_25) (by decide) (by decide) ?_
      exact nx7 (by rw [hn6]; show (if g 6 = (0 : Int32) then own_nx g 7 1 else (6 : Int32)) = _; rw [if_pos (hv_v11.trans hc17_12)]) _ _ X10 e10 Nc8
    · refine ow_ifNo (q := 20) X10 hx (hb hby own_d4_17) rfl (Jvm.Free.XT.i0_eq_f hc17_12) ?_
      refine ow_iloadN (q := 21) X10 hx (hb hby own_d4_20) rfl rfl ?_
      refine ownRetI X10 hx Bd.returns (hb hby own_d4_21) hlk (by decide) (by decide) ?_
      subst hv_v11
      rw [e10]
      refine ⟨congrArg (fun q => some (Value.int q)) ?_, Nc8, rfl⟩
      rw [hn6]
      show _ = (if g 6 = (0 : Int32) then own_nx g 7 1 else (6 : Int32))
      rw [if_neg hc17_12]
  have nx5 : own_next g 8 p1 = own_nx g 5 3 → ∀ (Tc13 : State) (lc13 : List Loc), Stand p l e ({ frames := 0, cells := 0, slots := 0, locals := 0 } : Room) s m #[(.ref a0), (.int p1)] below meth c Tc13 lc13 0 0 → Tc13.heap = h0 → Fr n0 lc13 → ownEnds p e below s (Q_next_8 Z a0 p1 ar g h0 n0) ({ frames := 0, cells := 0, slots := 0, locals := 0 } : Room).cells ({ frames := 0, cells := 0, slots := 0, locals := 0 } : Room).slots Tc13 (mkF m 2 #[rv a0, iv p1, iv (5 : Int32)] []) := by
    intro hn5 Tc13 lc13 Xc13 ec13 Nc13
    refine ow_iloadN (q := 3) Xc13 hx (hb hby own_d4_2) rfl rfl ?_
    refine ow_aloadN (q := 4) Xc13 hx (hb hby own_d4_3) rfl rfl rfl ?_
    obtain ⟨T14, X14, e14, st14⟩ := getF Xc13 hx hZ hown (host := "") (Or.inl (hw _ (List.mem_of_getElem? (i := 11) rfl))) Via.refl ec13 HF0 (g := (mkF m 4 #[rv a0, iv p1, iv (5 : Int32)] [(.ref a0), (.int (5 : Int32))])) rfl rfl (hb hby own_d4_4)
    refine ownGo (T' := T14) (f' := (mkF m 7 #[rv a0, iv p1, iv (5 : Int32)] [(.ref ar), (.int (5 : Int32))])) (st14) ?_
    refine ownGo (T' := T14) (f' := (mkF m 8 #[rv a0, iv p1, iv (5 : Int32)] [(.int (8 : Int32)), (.int (5 : Int32))])) (ownLenI HF1 X14 hx hZ e14 (z := (8 : Int32)) (by decide) (g := (mkF m 7 #[rv a0, iv p1, iv (5 : Int32)] [(.ref ar), (.int (5 : Int32))])) rfl rfl (hb hby own_d4_7)) ?_
    refine ow_icmpNo (q := 11) X14 hx (hb hby own_d4_8) rfl (Jvm.Free.XT.ii_ge_f (by decide)) ?_
    refine ow_aloadN (q := 12) X14 hx (hb hby own_d4_11) rfl rfl rfl ?_
    obtain ⟨T15, X15, e15, st15⟩ := getF X14 hx hZ hown (host := "") (Or.inl (hw _ (List.mem_of_getElem? (i := 11) rfl))) Via.refl e14 HF0 (g := (mkF m 12 #[rv a0, iv p1, iv (5 : Int32)] [(.ref a0)])) rfl rfl (hb hby own_d4_12)
    refine ownGo (T' := T15) (f' := (mkF m 15 #[rv a0, iv p1, iv (5 : Int32)] [(.ref ar)])) (st15) ?_
    refine ow_iloadN (q := 16) X15 hx (hb hby own_d4_15) rfl rfl ?_
    refine ownGo (T' := T15) (f' := (mkF m 17 #[rv a0, iv p1, iv (5 : Int32)] [(.int (g 5))])) (ownZaload HF1 X15 hx hZ e15 (j := (5 : Int32)) (by unfold ownIn; decide) (g := (mkF m 16 #[rv a0, iv p1, iv (5 : Int32)] [(.int (5 : Int32)), (.ref ar)])) rfl rfl (hb hby own_d4_16)) ?_
    generalize hv_v16 : (g 5) = v16
    by_cases hc17_17 : v16 = (0 : Int32)
    · refine ow_ifYes (q := 22) X15 hx (hb hby own_d4_17) (Jvm.Free.XT.i0_eq_t hc17_17) (by decide) (by decide) ?_
      refine ow_iinc (q := 25) X15 hx (L' := #[rv a0, iv p1, iv (6 : Int32)]) (hb hby own_d4_22) rfl rfl rfl ?_
      refine ow_goto (q := 2) X15 hx (hb hby own_d4_25) (by decide) (by decide) ?_
      exact nx6 (by rw [hn5]; show (if g 5 = (0 : Int32) then own_nx g 6 2 else (5 : Int32)) = _; rw [if_pos (hv_v16.trans hc17_17)]) _ _ X15 e15 Nc13
    · refine ow_ifNo (q := 20) X15 hx (hb hby own_d4_17) rfl (Jvm.Free.XT.i0_eq_f hc17_17) ?_
      refine ow_iloadN (q := 21) X15 hx (hb hby own_d4_20) rfl rfl ?_
      refine ownRetI X15 hx Bd.returns (hb hby own_d4_21) hlk (by decide) (by decide) ?_
      subst hv_v16
      rw [e15]
      refine ⟨congrArg (fun q => some (Value.int q)) ?_, Nc13, rfl⟩
      rw [hn5]
      show _ = (if g 5 = (0 : Int32) then own_nx g 6 2 else (5 : Int32))
      rw [if_neg hc17_17]
  have nx4 : own_next g 8 p1 = own_nx g 4 4 → ∀ (Tc18 : State) (lc18 : List Loc), Stand p l e ({ frames := 0, cells := 0, slots := 0, locals := 0 } : Room) s m #[(.ref a0), (.int p1)] below meth c Tc18 lc18 0 0 → Tc18.heap = h0 → Fr n0 lc18 → ownEnds p e below s (Q_next_8 Z a0 p1 ar g h0 n0) ({ frames := 0, cells := 0, slots := 0, locals := 0 } : Room).cells ({ frames := 0, cells := 0, slots := 0, locals := 0 } : Room).slots Tc18 (mkF m 2 #[rv a0, iv p1, iv (4 : Int32)] []) := by
    intro hn4 Tc18 lc18 Xc18 ec18 Nc18
    refine ow_iloadN (q := 3) Xc18 hx (hb hby own_d4_2) rfl rfl ?_
    refine ow_aloadN (q := 4) Xc18 hx (hb hby own_d4_3) rfl rfl rfl ?_
    obtain ⟨T19, X19, e19, st19⟩ := getF Xc18 hx hZ hown (host := "") (Or.inl (hw _ (List.mem_of_getElem? (i := 11) rfl))) Via.refl ec18 HF0 (g := (mkF m 4 #[rv a0, iv p1, iv (4 : Int32)] [(.ref a0), (.int (4 : Int32))])) rfl rfl (hb hby own_d4_4)
    refine ownGo (T' := T19) (f' := (mkF m 7 #[rv a0, iv p1, iv (4 : Int32)] [(.ref ar), (.int (4 : Int32))])) (st19) ?_
    refine ownGo (T' := T19) (f' := (mkF m 8 #[rv a0, iv p1, iv (4 : Int32)] [(.int (8 : Int32)), (.int (4 : Int32))])) (ownLenI HF1 X19 hx hZ e19 (z := (8 : Int32)) (by decide) (g := (mkF m 7 #[rv a0, iv p1, iv (4 : Int32)] [(.ref ar), (.int (4 : Int32))])) rfl rfl (hb hby own_d4_7)) ?_
    refine ow_icmpNo (q := 11) X19 hx (hb hby own_d4_8) rfl (Jvm.Free.XT.ii_ge_f (by decide)) ?_
    refine ow_aloadN (q := 12) X19 hx (hb hby own_d4_11) rfl rfl rfl ?_
    obtain ⟨T20, X20, e20, st20⟩ := getF X19 hx hZ hown (host := "") (Or.inl (hw _ (List.mem_of_getElem? (i := 11) rfl))) Via.refl e19 HF0 (g := (mkF m 12 #[rv a0, iv p1, iv (4 : Int32)] [(.ref a0)])) rfl rfl (hb hby own_d4_12)
    refine ownGo (T' := T20) (f' := (mkF m 15 #[rv a0, iv p1, iv (4 : Int32)] [(.ref ar)])) (st20) ?_
    refine ow_iloadN (q := 16) X20 hx (hb hby own_d4_15) rfl rfl ?_
    refine ownGo (T' := T20) (f' := (mkF m 17 #[rv a0, iv p1, iv (4 : Int32)] [(.int (g 4))])) (ownZaload HF1 X20 hx hZ e20 (j := (4 : Int32)) (by unfold ownIn; decide) (g := (mkF m 16 #[rv a0, iv p1, iv (4 : Int32)] [(.int (4 : Int32)), (.ref ar)])) rfl rfl (hb hby own_d4_16)) ?_
    generalize hv_v21 : (g 4) = v21
    by_cases hc17_22 : v21 = (0 : Int32)
    · refine ow_ifYes (q := 22) X20 hx (hb hby own_d4_17) (Jvm.Free.XT.i0_eq_t hc17_22) (by decide) (by decide) ?_
      refine ow_iinc (q := 25) X20 hx (L' := #[rv a0, iv p1, iv (5 : Int32)]) (hb hby own_d4_22) rfl rfl rfl ?_
      refine ow_goto (q := 2) X20 hx (hb hby own_d4_25) (by decide) (by decide) ?_
      exact nx5 (by rw [hn4]; show (if g 4 = (0 : Int32) then own_nx g 5 3 else (4 : Int32)) = _; rw [if_pos (hv_v21.trans hc17_22)]) _ _ X20 e20 Nc18
    · refine ow_ifNo (q := 20) X20 hx (hb hby own_d4_17) rfl (Jvm.Free.XT.i0_eq_f hc17_22) ?_
      refine ow_iloadN (q := 21) X20 hx (hb hby own_d4_20) rfl rfl ?_
      refine ownRetI X20 hx Bd.returns (hb hby own_d4_21) hlk (by decide) (by decide) ?_
      subst hv_v21
      rw [e20]
      refine ⟨congrArg (fun q => some (Value.int q)) ?_, Nc18, rfl⟩
      rw [hn4]
      show _ = (if g 4 = (0 : Int32) then own_nx g 5 3 else (4 : Int32))
      rw [if_neg hc17_22]
  have nx3 : own_next g 8 p1 = own_nx g 3 5 → ∀ (Tc23 : State) (lc23 : List Loc), Stand p l e ({ frames := 0, cells := 0, slots := 0, locals := 0 } : Room) s m #[(.ref a0), (.int p1)] below meth c Tc23 lc23 0 0 → Tc23.heap = h0 → Fr n0 lc23 → ownEnds p e below s (Q_next_8 Z a0 p1 ar g h0 n0) ({ frames := 0, cells := 0, slots := 0, locals := 0 } : Room).cells ({ frames := 0, cells := 0, slots := 0, locals := 0 } : Room).slots Tc23 (mkF m 2 #[rv a0, iv p1, iv (3 : Int32)] []) := by
    intro hn3 Tc23 lc23 Xc23 ec23 Nc23
    refine ow_iloadN (q := 3) Xc23 hx (hb hby own_d4_2) rfl rfl ?_
    refine ow_aloadN (q := 4) Xc23 hx (hb hby own_d4_3) rfl rfl rfl ?_
    obtain ⟨T24, X24, e24, st24⟩ := getF Xc23 hx hZ hown (host := "") (Or.inl (hw _ (List.mem_of_getElem? (i := 11) rfl))) Via.refl ec23 HF0 (g := (mkF m 4 #[rv a0, iv p1, iv (3 : Int32)] [(.ref a0), (.int (3 : Int32))])) rfl rfl (hb hby own_d4_4)
    refine ownGo (T' := T24) (f' := (mkF m 7 #[rv a0, iv p1, iv (3 : Int32)] [(.ref ar), (.int (3 : Int32))])) (st24) ?_
    refine ownGo (T' := T24) (f' := (mkF m 8 #[rv a0, iv p1, iv (3 : Int32)] [(.int (8 : Int32)), (.int (3 : Int32))])) (ownLenI HF1 X24 hx hZ e24 (z := (8 : Int32)) (by decide) (g := (mkF m 7 #[rv a0, iv p1, iv (3 : Int32)] [(.ref ar), (.int (3 : Int32))])) rfl rfl (hb hby own_d4_7)) ?_
    refine ow_icmpNo (q := 11) X24 hx (hb hby own_d4_8) rfl (Jvm.Free.XT.ii_ge_f (by decide)) ?_
    refine ow_aloadN (q := 12) X24 hx (hb hby own_d4_11) rfl rfl rfl ?_
    obtain ⟨T25, X25, e25, st25⟩ := getF X24 hx hZ hown (host := "") (Or.inl (hw _ (List.mem_of_getElem? (i := 11) rfl))) Via.refl e24 HF0 (g := (mkF m 12 #[rv a0, iv p1, iv (3 : Int32)] [(.ref a0)])) rfl rfl (hb hby own_d4_12)
    refine ownGo (T' := T25) (f' := (mkF m 15 #[rv a0, iv p1, iv (3 : Int32)] [(.ref ar)])) (st25) ?_
    refine ow_iloadN (q := 16) X25 hx (hb hby own_d4_15) rfl rfl ?_
    refine ownGo (T' := T25) (f' := (mkF m 17 #[rv a0, iv p1, iv (3 : Int32)] [(.int (g 3))])) (ownZaload HF1 X25 hx hZ e25 (j := (3 : Int32)) (by unfold ownIn; decide) (g := (mkF m 16 #[rv a0, iv p1, iv (3 : Int32)] [(.int (3 : Int32)), (.ref ar)])) rfl rfl (hb hby own_d4_16)) ?_
    generalize hv_v26 : (g 3) = v26
    by_cases hc17_27 : v26 = (0 : Int32)
    · refine ow_ifYes (q := 22) X25 hx (hb hby own_d4_17) (Jvm.Free.XT.i0_eq_t hc17_27) (by decide) (by decide) ?_
      refine ow_iinc (q := 25) X25 hx (L' := #[rv a0, iv p1, iv (4 : Int32)]) (hb hby own_d4_22) rfl rfl rfl ?_
      refine ow_goto (q := 2) X25 hx (hb hby own_d4_25) (by decide) (by decide) ?_
      exact nx4 (by rw [hn3]; show (if g 3 = (0 : Int32) then own_nx g 4 4 else (3 : Int32)) = _; rw [if_pos (hv_v26.trans hc17_27)]) _ _ X25 e25 Nc23
    · refine ow_ifNo (q := 20) X25 hx (hb hby own_d4_17) rfl (Jvm.Free.XT.i0_eq_f hc17_27) ?_
      refine ow_iloadN (q := 21) X25 hx (hb hby own_d4_20) rfl rfl ?_
      refine ownRetI X25 hx Bd.returns (hb hby own_d4_21) hlk (by decide) (by decide) ?_
      subst hv_v26
      rw [e25]
      refine ⟨congrArg (fun q => some (Value.int q)) ?_, Nc23, rfl⟩
      rw [hn3]
      show _ = (if g 3 = (0 : Int32) then own_nx g 4 4 else (3 : Int32))
      rw [if_neg hc17_27]
  have nx2 : own_next g 8 p1 = own_nx g 2 6 → ∀ (Tc28 : State) (lc28 : List Loc), Stand p l e ({ frames := 0, cells := 0, slots := 0, locals := 0 } : Room) s m #[(.ref a0), (.int p1)] below meth c Tc28 lc28 0 0 → Tc28.heap = h0 → Fr n0 lc28 → ownEnds p e below s (Q_next_8 Z a0 p1 ar g h0 n0) ({ frames := 0, cells := 0, slots := 0, locals := 0 } : Room).cells ({ frames := 0, cells := 0, slots := 0, locals := 0 } : Room).slots Tc28 (mkF m 2 #[rv a0, iv p1, iv (2 : Int32)] []) := by
    intro hn2 Tc28 lc28 Xc28 ec28 Nc28
    refine ow_iloadN (q := 3) Xc28 hx (hb hby own_d4_2) rfl rfl ?_
    refine ow_aloadN (q := 4) Xc28 hx (hb hby own_d4_3) rfl rfl rfl ?_
    obtain ⟨T29, X29, e29, st29⟩ := getF Xc28 hx hZ hown (host := "") (Or.inl (hw _ (List.mem_of_getElem? (i := 11) rfl))) Via.refl ec28 HF0 (g := (mkF m 4 #[rv a0, iv p1, iv (2 : Int32)] [(.ref a0), (.int (2 : Int32))])) rfl rfl (hb hby own_d4_4)
    refine ownGo (T' := T29) (f' := (mkF m 7 #[rv a0, iv p1, iv (2 : Int32)] [(.ref ar), (.int (2 : Int32))])) (st29) ?_
    refine ownGo (T' := T29) (f' := (mkF m 8 #[rv a0, iv p1, iv (2 : Int32)] [(.int (8 : Int32)), (.int (2 : Int32))])) (ownLenI HF1 X29 hx hZ e29 (z := (8 : Int32)) (by decide) (g := (mkF m 7 #[rv a0, iv p1, iv (2 : Int32)] [(.ref ar), (.int (2 : Int32))])) rfl rfl (hb hby own_d4_7)) ?_
    refine ow_icmpNo (q := 11) X29 hx (hb hby own_d4_8) rfl (Jvm.Free.XT.ii_ge_f (by decide)) ?_
    refine ow_aloadN (q := 12) X29 hx (hb hby own_d4_11) rfl rfl rfl ?_
    obtain ⟨T30, X30, e30, st30⟩ := getF X29 hx hZ hown (host := "") (Or.inl (hw _ (List.mem_of_getElem? (i := 11) rfl))) Via.refl e29 HF0 (g := (mkF m 12 #[rv a0, iv p1, iv (2 : Int32)] [(.ref a0)])) rfl rfl (hb hby own_d4_12)
    refine ownGo (T' := T30) (f' := (mkF m 15 #[rv a0, iv p1, iv (2 : Int32)] [(.ref ar)])) (st30) ?_
    refine ow_iloadN (q := 16) X30 hx (hb hby own_d4_15) rfl rfl ?_
    refine ownGo (T' := T30) (f' := (mkF m 17 #[rv a0, iv p1, iv (2 : Int32)] [(.int (g 2))])) (ownZaload HF1 X30 hx hZ e30 (j := (2 : Int32)) (by unfold ownIn; decide) (g := (mkF m 16 #[rv a0, iv p1, iv (2 : Int32)] [(.int (2 : Int32)), (.ref ar)])) rfl rfl (hb hby own_d4_16)) ?_
    generalize hv_v31 : (g 2) = v31
    by_cases hc17_32 : v31 = (0 : Int32)
    · refine ow_ifYes (q := 22) X30 hx (hb hby own_d4_17) (Jvm.Free.XT.i0_eq_t hc17_32) (by decide) (by decide) ?_
      refine ow_iinc (q := 25) X30 hx (L' := #[rv a0, iv p1, iv (3 : Int32)]) (hb hby own_d4_22) rfl rfl rfl ?_
      refine ow_goto (q := 2) X30 hx (hb hby own_d4_25) (by decide) (by decide) ?_
      exact nx3 (by rw [hn2]; show (if g 2 = (0 : Int32) then own_nx g 3 5 else (2 : Int32)) = _; rw [if_pos (hv_v31.trans hc17_32)]) _ _ X30 e30 Nc28
    · refine ow_ifNo (q := 20) X30 hx (hb hby own_d4_17) rfl (Jvm.Free.XT.i0_eq_f hc17_32) ?_
      refine ow_iloadN (q := 21) X30 hx (hb hby own_d4_20) rfl rfl ?_
      refine ownRetI X30 hx Bd.returns (hb hby own_d4_21) hlk (by decide) (by decide) ?_
      subst hv_v31
      rw [e30]
      refine ⟨congrArg (fun q => some (Value.int q)) ?_, Nc28, rfl⟩
      rw [hn2]
      show _ = (if g 2 = (0 : Int32) then own_nx g 3 5 else (2 : Int32))
      rw [if_neg hc17_32]
  have nx1 : own_next g 8 p1 = own_nx g 1 7 → ∀ (Tc33 : State) (lc33 : List Loc), Stand p l e ({ frames := 0, cells := 0, slots := 0, locals := 0 } : Room) s m #[(.ref a0), (.int p1)] below meth c Tc33 lc33 0 0 → Tc33.heap = h0 → Fr n0 lc33 → ownEnds p e below s (Q_next_8 Z a0 p1 ar g h0 n0) ({ frames := 0, cells := 0, slots := 0, locals := 0 } : Room).cells ({ frames := 0, cells := 0, slots := 0, locals := 0 } : Room).slots Tc33 (mkF m 2 #[rv a0, iv p1, iv (1 : Int32)] []) := by
    intro hn1 Tc33 lc33 Xc33 ec33 Nc33
    refine ow_iloadN (q := 3) Xc33 hx (hb hby own_d4_2) rfl rfl ?_
    refine ow_aloadN (q := 4) Xc33 hx (hb hby own_d4_3) rfl rfl rfl ?_
    obtain ⟨T34, X34, e34, st34⟩ := getF Xc33 hx hZ hown (host := "") (Or.inl (hw _ (List.mem_of_getElem? (i := 11) rfl))) Via.refl ec33 HF0 (g := (mkF m 4 #[rv a0, iv p1, iv (1 : Int32)] [(.ref a0), (.int (1 : Int32))])) rfl rfl (hb hby own_d4_4)
    refine ownGo (T' := T34) (f' := (mkF m 7 #[rv a0, iv p1, iv (1 : Int32)] [(.ref ar), (.int (1 : Int32))])) (st34) ?_
    refine ownGo (T' := T34) (f' := (mkF m 8 #[rv a0, iv p1, iv (1 : Int32)] [(.int (8 : Int32)), (.int (1 : Int32))])) (ownLenI HF1 X34 hx hZ e34 (z := (8 : Int32)) (by decide) (g := (mkF m 7 #[rv a0, iv p1, iv (1 : Int32)] [(.ref ar), (.int (1 : Int32))])) rfl rfl (hb hby own_d4_7)) ?_
    refine ow_icmpNo (q := 11) X34 hx (hb hby own_d4_8) rfl (Jvm.Free.XT.ii_ge_f (by decide)) ?_
    refine ow_aloadN (q := 12) X34 hx (hb hby own_d4_11) rfl rfl rfl ?_
    obtain ⟨T35, X35, e35, st35⟩ := getF X34 hx hZ hown (host := "") (Or.inl (hw _ (List.mem_of_getElem? (i := 11) rfl))) Via.refl e34 HF0 (g := (mkF m 12 #[rv a0, iv p1, iv (1 : Int32)] [(.ref a0)])) rfl rfl (hb hby own_d4_12)
    refine ownGo (T' := T35) (f' := (mkF m 15 #[rv a0, iv p1, iv (1 : Int32)] [(.ref ar)])) (st35) ?_
    refine ow_iloadN (q := 16) X35 hx (hb hby own_d4_15) rfl rfl ?_
    refine ownGo (T' := T35) (f' := (mkF m 17 #[rv a0, iv p1, iv (1 : Int32)] [(.int (g 1))])) (ownZaload HF1 X35 hx hZ e35 (j := (1 : Int32)) (by unfold ownIn; decide) (g := (mkF m 16 #[rv a0, iv p1, iv (1 : Int32)] [(.int (1 : Int32)), (.ref ar)])) rfl rfl (hb hby own_d4_16)) ?_
    generalize hv_v36 : (g 1) = v36
    by_cases hc17_37 : v36 = (0 : Int32)
    · refine ow_ifYes (q := 22) X35 hx (hb hby own_d4_17) (Jvm.Free.XT.i0_eq_t hc17_37) (by decide) (by decide) ?_
      refine ow_iinc (q := 25) X35 hx (L' := #[rv a0, iv p1, iv (2 : Int32)]) (hb hby own_d4_22) rfl rfl rfl ?_
      refine ow_goto (q := 2) X35 hx (hb hby own_d4_25) (by decide) (by decide) ?_
      exact nx2 (by rw [hn1]; show (if g 1 = (0 : Int32) then own_nx g 2 6 else (1 : Int32)) = _; rw [if_pos (hv_v36.trans hc17_37)]) _ _ X35 e35 Nc33
    · refine ow_ifNo (q := 20) X35 hx (hb hby own_d4_17) rfl (Jvm.Free.XT.i0_eq_f hc17_37) ?_
      refine ow_iloadN (q := 21) X35 hx (hb hby own_d4_20) rfl rfl ?_
      refine ownRetI X35 hx Bd.returns (hb hby own_d4_21) hlk (by decide) (by decide) ?_
      subst hv_v36
      rw [e35]
      refine ⟨congrArg (fun q => some (Value.int q)) ?_, Nc33, rfl⟩
      rw [hn1]
      show _ = (if g 1 = (0 : Int32) then own_nx g 2 6 else (1 : Int32))
      rw [if_neg hc17_37]
  have nx0 : own_next g 8 p1 = own_nx g 0 8 → ∀ (Tc38 : State) (lc38 : List Loc), Stand p l e ({ frames := 0, cells := 0, slots := 0, locals := 0 } : Room) s m #[(.ref a0), (.int p1)] below meth c Tc38 lc38 0 0 → Tc38.heap = h0 → Fr n0 lc38 → ownEnds p e below s (Q_next_8 Z a0 p1 ar g h0 n0) ({ frames := 0, cells := 0, slots := 0, locals := 0 } : Room).cells ({ frames := 0, cells := 0, slots := 0, locals := 0 } : Room).slots Tc38 (mkF m 2 #[rv a0, iv p1, iv (0 : Int32)] []) := by
    intro hn0 Tc38 lc38 Xc38 ec38 Nc38
    refine ow_iloadN (q := 3) Xc38 hx (hb hby own_d4_2) rfl rfl ?_
    refine ow_aloadN (q := 4) Xc38 hx (hb hby own_d4_3) rfl rfl rfl ?_
    obtain ⟨T39, X39, e39, st39⟩ := getF Xc38 hx hZ hown (host := "") (Or.inl (hw _ (List.mem_of_getElem? (i := 11) rfl))) Via.refl ec38 HF0 (g := (mkF m 4 #[rv a0, iv p1, iv (0 : Int32)] [(.ref a0), (.int (0 : Int32))])) rfl rfl (hb hby own_d4_4)
    refine ownGo (T' := T39) (f' := (mkF m 7 #[rv a0, iv p1, iv (0 : Int32)] [(.ref ar), (.int (0 : Int32))])) (st39) ?_
    refine ownGo (T' := T39) (f' := (mkF m 8 #[rv a0, iv p1, iv (0 : Int32)] [(.int (8 : Int32)), (.int (0 : Int32))])) (ownLenI HF1 X39 hx hZ e39 (z := (8 : Int32)) (by decide) (g := (mkF m 7 #[rv a0, iv p1, iv (0 : Int32)] [(.ref ar), (.int (0 : Int32))])) rfl rfl (hb hby own_d4_7)) ?_
    refine ow_icmpNo (q := 11) X39 hx (hb hby own_d4_8) rfl (Jvm.Free.XT.ii_ge_f (by decide)) ?_
    refine ow_aloadN (q := 12) X39 hx (hb hby own_d4_11) rfl rfl rfl ?_
    obtain ⟨T40, X40, e40, st40⟩ := getF X39 hx hZ hown (host := "") (Or.inl (hw _ (List.mem_of_getElem? (i := 11) rfl))) Via.refl e39 HF0 (g := (mkF m 12 #[rv a0, iv p1, iv (0 : Int32)] [(.ref a0)])) rfl rfl (hb hby own_d4_12)
    refine ownGo (T' := T40) (f' := (mkF m 15 #[rv a0, iv p1, iv (0 : Int32)] [(.ref ar)])) (st40) ?_
    refine ow_iloadN (q := 16) X40 hx (hb hby own_d4_15) rfl rfl ?_
    refine ownGo (T' := T40) (f' := (mkF m 17 #[rv a0, iv p1, iv (0 : Int32)] [(.int (g 0))])) (ownZaload HF1 X40 hx hZ e40 (j := (0 : Int32)) (by unfold ownIn; decide) (g := (mkF m 16 #[rv a0, iv p1, iv (0 : Int32)] [(.int (0 : Int32)), (.ref ar)])) rfl rfl (hb hby own_d4_16)) ?_
    generalize hv_v41 : (g 0) = v41
    by_cases hc17_42 : v41 = (0 : Int32)
    · refine ow_ifYes (q := 22) X40 hx (hb hby own_d4_17) (Jvm.Free.XT.i0_eq_t hc17_42) (by decide) (by decide) ?_
      refine ow_iinc (q := 25) X40 hx (L' := #[rv a0, iv p1, iv (1 : Int32)]) (hb hby own_d4_22) rfl rfl rfl ?_
      refine ow_goto (q := 2) X40 hx (hb hby own_d4_25) (by decide) (by decide) ?_
      exact nx1 (by rw [hn0]; show (if g 0 = (0 : Int32) then own_nx g 1 7 else (0 : Int32)) = _; rw [if_pos (hv_v41.trans hc17_42)]) _ _ X40 e40 Nc38
    · refine ow_ifNo (q := 20) X40 hx (hb hby own_d4_17) rfl (Jvm.Free.XT.i0_eq_f hc17_42) ?_
      refine ow_iloadN (q := 21) X40 hx (hb hby own_d4_20) rfl rfl ?_
      refine ownRetI X40 hx Bd.returns (hb hby own_d4_21) hlk (by decide) (by decide) ?_
      subst hv_v41
      rw [e40]
      refine ⟨congrArg (fun q => some (Value.int q)) ?_, Nc38, rfl⟩
      rw [hn0]
      show _ = (if g 0 = (0 : Int32) then own_nx g 1 7 else (0 : Int32))
      rw [if_neg hc17_42]
  rcases own_cases8 hp with hge | hs0 | hs1 | hs2 | hs3 | hs4 | hs5 | hs6 | hs7
  · refine ow_iloadN (q := 3) X0 hx (hb hby own_d4_2) rfl rfl ?_
    refine ow_aloadN (q := 4) X0 hx (hb hby own_d4_3) rfl rfl rfl ?_
    obtain ⟨T43, X43, e43, st43⟩ := getF X0 hx hZ hown (host := "") (Or.inl (hw _ (List.mem_of_getElem? (i := 11) rfl))) Via.refl e0 HF0 (g := (mkF m 4 #[rv a0, iv p1, iv p1] [(.ref a0), (.int p1)])) rfl rfl (hb hby own_d4_4)
    refine ownGo (T' := T43) (f' := (mkF m 7 #[rv a0, iv p1, iv p1] [(.ref ar), (.int p1)])) (st43) ?_
    refine ownGo (T' := T43) (f' := (mkF m 8 #[rv a0, iv p1, iv p1] [(.int (8 : Int32)), (.int p1)])) (ownLenI HF1 X43 hx hZ e43 (z := (8 : Int32)) (by decide) (g := (mkF m 7 #[rv a0, iv p1, iv p1] [(.ref ar), (.int p1)])) rfl rfl (hb hby own_d4_7)) ?_
    refine ow_icmpYes (q := 28) X43 hx (hb hby own_d4_8) (Jvm.Free.XT.ii_ge_t hge) (by decide) (by decide) ?_
    refine ow_iconst (q := 29) X43 hx (-1 : Int32) (hb hby own_d4_28) rfl rfl ?_
    refine ownRetI X43 hx Bd.returns (hb hby own_d4_29) hlk (by decide) (by decide) ?_
    rw [e43]
    refine ⟨congrArg (fun q => some (Value.int q)) ?_, N0, rfl⟩
    exact (own_next_ge hge (by decide)).symm
  · subst hs0
    exact nx0 rfl _ _ X0 e0 N0
  · subst hs1
    exact nx1 rfl _ _ X0 e0 N0
  · subst hs2
    exact nx2 rfl _ _ X0 e0 N0
  · subst hs3
    exact nx3 rfl _ _ X0 e0 N0
  · subst hs4
    exact nx4 rfl _ _ X0 e0 N0
  · subst hs5
    exact nx5 rfl _ _ X0 e0 N0
  · subst hs6
    exact nx6 rfl _ _ X0 e0 N0
  · subst hs7
    exact nx7 rfl _ _ X0 e0 N0
theorem own_pn_ChunkMarksNextPinLaw : plainName "com/example/swarm_tally/swarmtally/ChunkMarksNextPinLaw" = true := by first | (simp [plainName, overriddenIn]; done) | decide +kernel
theorem own_pd2 : parseMethodDescriptor "()V" = some ⟨[], none⟩ := by decide +kernel
theorem own_pd3 : parseMethodDescriptor "(I)V" = some ⟨[.int], none⟩ := by decide +kernel
theorem own_pd4 : parseMethodDescriptor "(I)I" = some ⟨[.int], some .int⟩ := by decide +kernel
theorem own_ef0_law (m : MethodId) (p0 : Int32) (p1 : Int32) (p2 : Int32) (p3 : Int32) (p4 : Int32) : entryFrame m #[(.int p0), (.int p1), (.int p2), (.int p3), (.int p4)] maxLocals = mkF m 0 #[iv p0, iv p1, iv p2, iv p3, iv p4, .unset, .unset, .unset, .unset, .unset, .unset, .unset, .unset, .unset, .unset, .unset, .unset, .unset] [] := by first | (simp [entryFrame, mkF, argsToLocals, Value.category, maxLocals]; done) | rfl
def Q_law (Z : State) (p0 : Int32) (p1 : Int32) (p2 : Int32) (p3 : Int32) (p4 : Int32) (h0 : Heap) (n0 : Nat) (v : Option Value) (h : Heap) (L : List Loc) : Prop := v = some (.int 1) ∧ Fr n0 L
set_option maxRecDepth 65536 in
set_option maxHeartbeats 40000000 in
theorem rm_law (l : Launch) (Z : State) (av0 : Array Value) (hw : ∀ d ∈ tables_1, d.before av0 Z = true) (ws : List Jvm.Cond) (p0 : Int32) (p1 : Int32) (p2 : Int32) (p3 : Int32) (p4 : Int32) (h0 : Heap) (n0 : Nat) (Z0 : n0 ≤ h0.size) (HF0 : Sta Z h0 "com/example/swarm_tally/swarmtally/ChunkMarks" "CHUNK_SHIFT" "I" (.int (10 : Int32))) :
    MetFree l x (head1 (Jvm.Cond.code x code maxLocals ret :: ws) room_1) (fun a U => a = #[(.int p0), (.int p1), (.int p2), (.int p3), (.int p4)] ∧ Z.Warmed39 U.vm ∧ U.heap = h0) (fun _ _ _ _ _ => True) (fun _ U o U' => ∃ v L, o = .returned v ∧ (Q_law Z p0 p1 p2 p3 p4 h0 n0) v U'.heap L ∧ FrameEnd U o U' L 16 128) := by
  refine MetFree.of_bodySF (plainFor_of_name own_pn_ChunkMarksNextPinLaw) hisR ?_
  intro p e s m args below meth c s₁ Bd hml0 hP hK
  obtain ⟨rfl, hZ, hh⟩ := hP
  have hx := Bd.exec
  have hby := Bd.bytes
  have hml : c.maxLocals = 18 := hml0
  have hown : s.vm.findClass "com/example/swarm_tally/swarmtally/ChunkMarksNextPinLaw" = some m.cls := findClass_of_methodNamed Bd.named
  have hnm := (name_of_methodNamed Bd.named Bd.method).1
  have hlk : meth.locks = false := BodyLoose.notSynchronized Bd
  have X0 : Stand p l e room_1 s m #[(.int p0), (.int p1), (.int p2), (.int p3), (.int p4)] below meth c s₁ [] 0 0 := Stand.of_body Bd
  have e0 : s₁.heap = h0 := by rw [← hh, Bd.state]; rfl
  have N0 := Fr.nil n0
  have K0 : Keep h0 h0 [] := Keep.refl _ _
  show ownEnds p e below s (Q_law Z p0 p1 p2 p3 p4 h0 n0) 16 128 s₁ (entryFrame m #[(.int p0), (.int p1), (.int p2), (.int p3), (.int p4)] maxLocals)
  refine ownCast (own_ef0_law m p0 p1 p2 p3 p4) ?_
  refine ow_iconst (q := 1) X0 hx (1 : Int32) (hb hby at_0) rfl rfl ?_
  refine ow_iloadN (q := 2) X0 hx (hb hby at_1) rfl rfl ?_
  refine ow_bipush (q := 4) X0 hx (7 : Int32) (hb hby at_2) rfl rfl ?_
  refine ow_iand (q := 5) X0 hx _ (hb hby at_4) rfl rfl ?_
  refine ow_iadd (q := 6) X0 hx _ (hb hby at_5) rfl rfl ?_
  generalize hv_v1 : ((1 : Int32) + (p0 &&& (7 : Int32))) = v1
  refine ow_istore (q := 8) X0 hx (L' := #[iv p0, iv p1, iv p2, iv p3, iv p4, iv v1, .unset, .unset, .unset, .unset, .unset, .unset, .unset, .unset, .unset, .unset, .unset, .unset]) (hb hby at_6) rfl rfl ?_
  rcases own_n hv_v1 with hs2 | hs3 | hs4 | hs5 | hs6 | hs7 | hs8 | hs9
  · subst hs2
    refine ow_iload (q := 10) X0 hx (hb hby at_8) rfl rfl ?_
    refine ow_iconst (q := 11) X0 hx (1 : Int32) (hb hby at_10) rfl rfl ?_
    refine ow_isub (q := 12) X0 hx (0 : Int32) (hb hby at_11) rfl (by decide) ?_
    refine ow_sipush (q := 15) X0 hx (1024 : Int32) (hb hby at_12) rfl rfl ?_
    refine ow_imul (q := 16) X0 hx (0 : Int32) (hb hby at_15) rfl (by decide) ?_
    refine ow_iconst (q := 17) X0 hx (1 : Int32) (hb hby at_16) rfl rfl ?_
    refine ow_iadd (q := 18) X0 hx (1 : Int32) (hb hby at_17) rfl (by decide) ?_
    refine ow_iloadN (q := 19) X0 hx (hb hby at_18) rfl rfl ?_
    refine ow_iconst (q := 20) X0 hx (3 : Int32) (hb hby at_19) rfl rfl ?_
    refine ow_iushr (q := 21) X0 hx _ (hb hby at_20) rfl rfl ?_
    refine ow_sipush (q := 24) X0 hx (1023 : Int32) (hb hby at_21) rfl rfl ?_
    refine ow_iand (q := 25) X0 hx _ (hb hby at_24) rfl rfl ?_
    refine ow_iadd (q := 26) X0 hx _ (hb hby at_25) rfl rfl ?_
    generalize hv_v10 : ((1 : Int32) + (((p0.toUInt32 >>> ((3 : Int32) &&& 31).toUInt32).toInt32) &&& (1023 : Int32))) = v10
    refine ow_istore (q := 28) X0 hx (L' := #[iv p0, iv p1, iv p2, iv p3, iv p4, iv (1 : Int32), iv v10, .unset, .unset, .unset, .unset, .unset, .unset, .unset, .unset, .unset, .unset, .unset]) (hb hby at_26) rfl rfl ?_
    refine ow_iloadN (q := 29) X0 hx (hb hby at_28) rfl rfl ?_
    refine ownGo (T' := s₁) (f' := (mkF m 31 #[iv p0, iv p1, iv p2, iv p3, iv p4, iv (1 : Int32), iv v10, .unset, .unset, .unset, .unset, .unset, .unset, .unset, .unset, .unset, .unset, .unset] [(.int (2147483647 : Int32)), (.int p1)])) (X0.ldcInt hx hown (mvT hZ (hw _ (List.mem_of_getElem? (i := 0) rfl))) (g := (mkF m 29 #[iv p0, iv p1, iv p2, iv p3, iv p4, iv (1 : Int32), iv v10, .unset, .unset, .unset, .unset, .unset, .unset, .unset, .unset, .unset, .unset, .unset] [(.int p1)])) rfl (hb hby at_29)) ?_
    refine ow_iand (q := 32) X0 hx _ (hb hby at_31) rfl rfl ?_
    refine ow_iload (q := 34) X0 hx (hb hby at_32) rfl rfl ?_
    refine ow_irem (q := 35) X0 hx _ (hb hby at_34) rfl (own_nzc hv_v10) rfl ?_
    generalize hv_v11 : ((p1 &&& (2147483647 : Int32)) % v10) = v11
    refine ow_istore (q := 37) X0 hx (L' := #[iv p0, iv p1, iv p2, iv p3, iv p4, iv (1 : Int32), iv v10, iv v11, .unset, .unset, .unset, .unset, .unset, .unset, .unset, .unset, .unset, .unset]) (hb hby at_35) rfl rfl ?_
    refine ow_iloadN (q := 38) X0 hx (hb hby at_37) rfl rfl ?_
    refine ownGo (T' := s₁) (f' := (mkF m 40 #[iv p0, iv p1, iv p2, iv p3, iv p4, iv (1 : Int32), iv v10, iv v11, .unset, .unset, .unset, .unset, .unset, .unset, .unset, .unset, .unset, .unset] [(.int (2147483647 : Int32)), (.int p2)])) (X0.ldcInt hx hown (mvT hZ (hw _ (List.mem_of_getElem? (i := 0) rfl))) (g := (mkF m 38 #[iv p0, iv p1, iv p2, iv p3, iv p4, iv (1 : Int32), iv v10, iv v11, .unset, .unset, .unset, .unset, .unset, .unset, .unset, .unset, .unset, .unset] [(.int p2)])) rfl (hb hby at_38)) ?_
    refine ow_iand (q := 41) X0 hx _ (hb hby at_40) rfl rfl ?_
    refine ow_iload (q := 43) X0 hx (hb hby at_41) rfl rfl ?_
    refine ow_irem (q := 44) X0 hx _ (hb hby at_43) rfl (own_nzc hv_v10) rfl ?_
    generalize hv_v12 : ((p2 &&& (2147483647 : Int32)) % v10) = v12
    refine ow_istore (q := 46) X0 hx (L' := #[iv p0, iv p1, iv p2, iv p3, iv p4, iv (1 : Int32), iv v10, iv v11, iv v12, .unset, .unset, .unset, .unset, .unset, .unset, .unset, .unset, .unset]) (hb hby at_44) rfl rfl ?_
    have cut106_13 : ∀ (ma : Int32) (mb : Int32) (sm : Int32) (fr : Int32) (Tc13 : State) (lc13 : List Loc), Stand p l e room_1 s m #[(.int p0), (.int p1), (.int p2), (.int p3), (.int p4)] below meth c Tc13 lc13 0 0 → Tc13.heap = h0 → Fr n0 lc13 → (0 ≤ fr.toInt) → ownEnds p e below s (Q_law Z p0 p1 p2 p3 p4 h0 n0) 16 128 Tc13 (mkF m 106 #[iv p0, iv p1, iv p2, iv p3, iv p4, iv (1 : Int32), iv v10, iv v11, iv v12, iv ma, iv mb, iv sm, iv fr, .unset, .unset, .unset, .unset, .unset] []) := by
      intro ma mb sm fr Tc13 lc13 Xc13 ec13 Nc13 hfr
      obtain ⟨T14, h14, X14, e14, E14, A14, D14, -, st14⟩ := newO Xc13 hx hZ hown (hw _ (List.mem_of_getElem? (i := 1) rfl)) (hw _ (List.mem_of_getElem? (i := 2) rfl)) (hw _ (List.mem_of_getElem? (i := 3) rfl)) ec13 (g := (mkF m 106 #[iv p0, iv p1, iv p2, iv p3, iv p4, iv (1 : Int32), iv v10, iv v11, iv v12, iv ma, iv mb, iv sm, iv fr, .unset, .unset, .unset, .unset, .unset] [])) rfl (hb hby at_106) (by decide) (by decide)
      obtain ⟨b14, g14⟩ : ∃ z, z = h0.size := ⟨_, rfl⟩
      rw [← g14] at A14 D14 st14
      have sz_b14 : h0.size ≤ b14 := Nat.le_trans K0.1 (Nat.le_of_eq g14.symm)
      have G_b14 : n0 ≤ b14 := Nat.le_trans Z0 sz_b14
      have K14 : Keep h0 h14 [] := K0.ext E14
      have F15 : Sta Z h14 "com/example/swarm_tally/swarmtally/ChunkMarks" "CHUNK_SHIFT" "I" (.int (10 : Int32)) := HF0.ext E14
      have F16 : Fld Z h14 b14 "com/example/swarm_tally/swarmtally/ChunkMarks" "changed" "[Z" .null := D14 (Or.inl (hw _ (List.mem_of_getElem? (i := 12) rfl))) (ty := (.array .boolean)) (by decide)
      refine ownGo (T' := T14) (f' := (mkF m 109 #[iv p0, iv p1, iv p2, iv p3, iv p4, iv (1 : Int32), iv v10, iv v11, iv v12, iv ma, iv mb, iv sm, iv fr, .unset, .unset, .unset, .unset, .unset] [(.ref b14)])) (st14) ?_
      refine ow_dup (q := 110) X14 hx (hb hby at_109) rfl rfl ?_
      obtain ⟨_, _, ⟨T17, L17, k17, n17⟩, -, X17, ⟨Lc17, hQ17, l17, y17, z17⟩, st17⟩ := X14.specialBack hx (y := (⟨"com/example/swarm_tally/swarmtally/ChunkMarks", "<init>", "()V"⟩ : MethodName)) rfl hown (mvT hZ (hw _ (List.mem_of_getElem? (i := 4) rfl))) (mvT hZ (hw _ (List.mem_of_getElem? (i := 5) rfl))) (mvT hZ (hw _ (List.mem_of_getElem? (i := 6) rfl))) (by decide) (backOf (W := 1) (rm_init l Z av0 hw [] b14 h14 n0 (Nat.le_trans Z0 K14.1) A14 F16 G_b14) hZ (hw _ (List.mem_of_getElem? (i := 6) rfl)) (hw _ (List.mem_of_getElem? (i := 3) rfl)) (by decide) (by decide)) (g := (mkF m 110 #[iv p0, iv p1, iv p2, iv p3, iv p4, iv (1 : Int32), iv v10, iv v11, iv v12, iv ma, iv mb, iv sm, iv fr, .unset, .unset, .unset, .unset, .unset] [(.ref b14), (.ref b14)])) rfl (by rw [hml]; rfl) (Steps.refl _) (a := b14) (argsL := []) (rest := [(.ref b14)]) (lenOf own_pd2 rfl) rfl (by show 2 * 0 + _ ≤ _; exact Nat.le_of_eq rfl) (hb hby at_110) (fun _ _ => ⟨rfl, e14, (by decide : 1 + 1 ≤ _), (by decide : 1 + 1 ≤ _)⟩)
      dsimp only [Pt.U, Pt.locs, Pt.cells, Pt.slots] at X17 l17 y17 z17 st17 hQ17
      subst l17 y17 z17
      obtain ⟨ar_17, rfl, N17q, Kq17, sq17_ar_17, FP17_0, FP17_1, FP17_2⟩ := hQ17
      have N17 := Fr.app Nc13 N17q
      have K17 : Keep h0 T17.heap [] := K14.trans Kq17 (allS (Or.inr sz_b14) all0)
      have ne_b14_ar_17 : b14 ≠ ar_17 := Nat.ne_of_lt (Nat.lt_of_lt_of_le A14.lt sq17_ar_17)
      have sz_ar_17 : h0.size ≤ ar_17 := Nat.le_trans K14.1 sq17_ar_17
      have G_ar_17 : n0 ≤ ar_17 := Nat.le_trans Z0 sz_ar_17
      have F18 : Sta Z T17.heap "com/example/swarm_tally/swarmtally/ChunkMarks" "CHUNK_SHIFT" "I" (.int (10 : Int32)) := ownStaKeep F15 Kq17 (allS (ownNstE A14) all0)
      have F19 : Exa Z T17.heap b14 "com/example/swarm_tally/swarmtally/ChunkMarks" := A14.keep Kq17
      refine ownRun (T' := T17) (f' := (mkF m 113 #[iv p0, iv p1, iv p2, iv p3, iv p4, iv (1 : Int32), iv v10, iv v11, iv v12, iv ma, iv mb, iv sm, iv fr, .unset, .unset, .unset, .unset, .unset] [(.ref b14)])) st17 ?_
      refine ow_astore (q := 115) X17 hx (L' := #[iv p0, iv p1, iv p2, iv p3, iv p4, iv (1 : Int32), iv v10, iv v11, iv v12, iv ma, iv mb, iv sm, iv fr, rv b14, .unset, .unset, .unset, .unset]) (hb hby at_113) rfl rfl rfl ?_
      refine ow_aload (q := 117) X17 hx (hb hby at_115) rfl rfl rfl ?_
      refine ow_iload (q := 119) X17 hx (hb hby at_117) rfl rfl ?_
      obtain ⟨cq20, kq20, q20a, q20b, q20c⟩ := isOf hZ rfl FP17_0
      obtain ⟨_, _, ⟨T20, L20, k20, n20⟩, -, X20, ⟨Lc20, hQ20, l20, y20, z20⟩, st20⟩ := X17.virtualBack hx (y := (⟨"com/example/swarm_tally/swarmtally/ChunkMarks", "grow", "(I)V"⟩ : MethodName)) (z := (⟨"com/example/swarm_tally/swarmtally/ChunkMarks", "grow", "(I)V"⟩ : MethodName)) hown (mvT hZ (hw _ (List.mem_of_getElem? (i := 13) rfl))) (mvT hZ (hw _ (List.mem_of_getElem? (i := 14) rfl))) (notFace_of_selects (args := #[]) (mvT hZ (hw _ (List.mem_of_getElem? (i := 16) rfl)))) (mvT hZ (hw _ (List.mem_of_getElem? (i := 16) rfl))) (mvT hZ (hw _ (List.mem_of_getElem? (i := 15) rfl))) (by decide) (backOf (W := 0) (rm_grow_1 l Z av0 hw [] b14 v10 ar_17 T17.heap n0 (Nat.le_trans Z0 K17.1) FP17_0 FP17_1 FP17_2 F18 (own_chunk1 hv_v10)) hZ (hw _ (List.mem_of_getElem? (i := 17) rfl)) (hw _ (List.mem_of_getElem? (i := 3) rfl)) (by decide) (by decide)) q20a q20c (g := (mkF m 119 #[iv p0, iv p1, iv p2, iv p3, iv p4, iv (1 : Int32), iv v10, iv v11, iv v12, iv ma, iv mb, iv sm, iv fr, rv b14, .unset, .unset, .unset, .unset] [(.int v10), (.ref b14)])) rfl (by rw [hml]; rfl) (Steps.refl _) (argsL := [(.int v10)]) (rest := []) (lenOf own_pd3 rfl) rfl (by show 2 * 0 + _ ≤ _; exact Nat.le_of_eq rfl) (hb hby at_119) (fun _ _ => ⟨rfl, rfl, (by decide : 2 + 0 ≤ _), (by decide : 2 + 0 ≤ _)⟩)
      dsimp only [Pt.U, Pt.locs, Pt.cells, Pt.slots] at X20 l20 y20 z20 st20 hQ20
      subst l20 y20 z20
      obtain ⟨rfl, N20q, e20⟩ := hQ20
      have N20 := Fr.app N17 N20q
      refine ownRun (T' := T20) (f' := (mkF m 122 #[iv p0, iv p1, iv p2, iv p3, iv p4, iv (1 : Int32), iv v10, iv v11, iv v12, iv ma, iv mb, iv sm, iv fr, rv b14, .unset, .unset, .unset, .unset] [])) st20 ?_
      refine ow_iload (q := 124) X20 hx (hb hby at_122) rfl rfl ?_
      by_cases hc124_21 : ma = (0 : Int32)
      · refine ow_ifYes (q := 134) X20 hx (hb hby at_124) (Jvm.Free.XT.i0_eq_t hc124_21) (by decide) (by decide) ?_
        refine ow_iload (q := 136) X20 hx (hb hby at_134) rfl rfl ?_
        by_cases hc136_22 : mb = (0 : Int32)
        · refine ow_ifYes (q := 146) X20 hx (hb hby at_136) (Jvm.Free.XT.i0_eq_t hc136_22) (by decide) (by decide) ?_
          refine ow_aload (q := 148) X20 hx (hb hby at_146) rfl rfl rfl ?_
          refine ow_iload (q := 150) X20 hx (hb hby at_148) rfl rfl ?_
          obtain ⟨cq23, kq23, q23a, q23b, q23c⟩ := isOf hZ e20 FP17_0
          obtain ⟨_, _, ⟨T23, L23, k23, n23⟩, -, X23, ⟨Lc23, hQ23, l23, y23, z23⟩, st23⟩ := X20.virtualBack hx (y := (⟨"com/example/swarm_tally/swarmtally/ChunkMarks", "next", "(I)I"⟩ : MethodName)) (z := (⟨"com/example/swarm_tally/swarmtally/ChunkMarks", "next", "(I)I"⟩ : MethodName)) hown (mvT hZ (hw _ (List.mem_of_getElem? (i := 20) rfl))) (mvT hZ (hw _ (List.mem_of_getElem? (i := 21) rfl))) (notFace_of_selects (args := #[]) (mvT hZ (hw _ (List.mem_of_getElem? (i := 23) rfl)))) (mvT hZ (hw _ (List.mem_of_getElem? (i := 23) rfl))) (mvT hZ (hw _ (List.mem_of_getElem? (i := 22) rfl))) (by decide) (backOf (W := 0) (rm_next_1 l Z av0 hw [] b14 fr ar_17 (fun _ => (0 : Int32)) T17.heap n0 (Nat.le_trans Z0 K17.1) FP17_1 FP17_2 hfr) hZ (hw _ (List.mem_of_getElem? (i := 24) rfl)) (hw _ (List.mem_of_getElem? (i := 3) rfl)) (by decide) (by decide)) q23a q23c (g := (mkF m 150 #[iv p0, iv p1, iv p2, iv p3, iv p4, iv (1 : Int32), iv v10, iv v11, iv v12, iv ma, iv mb, iv sm, iv fr, rv b14, .unset, .unset, .unset, .unset] [(.int fr), (.ref b14)])) rfl (by rw [hml]; rfl) (Steps.refl _) (argsL := [(.int fr)]) (rest := []) (lenOf own_pd4 rfl) rfl (by show 2 * 0 + _ ≤ _; exact Nat.le_of_eq rfl) (hb hby at_150) (fun _ _ => ⟨rfl, e20, (by decide : 2 + 0 ≤ _), (by decide : 2 + 0 ≤ _)⟩)
          dsimp only [Pt.U, Pt.locs, Pt.cells, Pt.slots] at X23 l23 y23 z23 st23 hQ23
          subst l23 y23 z23
          obtain ⟨rfl, N23q, e23⟩ := hQ23
          have N23 := Fr.app N20 N23q
          refine ownRun (T' := T23) (f' := (mkF m 153 #[iv p0, iv p1, iv p2, iv p3, iv p4, iv (1 : Int32), iv v10, iv v11, iv v12, iv ma, iv mb, iv sm, iv fr, rv b14, .unset, .unset, .unset, .unset] [(.int (own_next (fun _ => (0 : Int32)) 1 fr))])) st23 ?_
          generalize hv_v24 : (own_next (fun _ => (0 : Int32)) 1 fr) = v24
          refine ow_istore (q := 155) X23 hx (L' := #[iv p0, iv p1, iv p2, iv p3, iv p4, iv (1 : Int32), iv v10, iv v11, iv v12, iv ma, iv mb, iv sm, iv fr, rv b14, iv v24, .unset, .unset, .unset]) (hb hby at_153) rfl rfl ?_
          refine ow_iload (q := 157) X23 hx (hb hby at_155) rfl rfl ?_
          refine ow_sipush (q := 160) X23 hx (1024 : Int32) (hb hby at_157) rfl rfl ?_
          refine ow_idiv (q := 161) X23 hx _ (hb hby at_160) rfl (by decide) rfl ?_
          generalize hv_v25 : (v11 / (1024 : Int32)) = v25
          refine ow_istore (q := 163) X23 hx (L' := #[iv p0, iv p1, iv p2, iv p3, iv p4, iv (1 : Int32), iv v10, iv v11, iv v12, iv ma, iv mb, iv sm, iv fr, rv b14, iv v24, iv v25, .unset, .unset]) (hb hby at_161) rfl rfl ?_
          refine ow_iload (q := 165) X23 hx (hb hby at_163) rfl rfl ?_
          refine ow_sipush (q := 168) X23 hx (1024 : Int32) (hb hby at_165) rfl rfl ?_
          refine ow_idiv (q := 169) X23 hx _ (hb hby at_168) rfl (by decide) rfl ?_
          generalize hv_v26 : (v12 / (1024 : Int32)) = v26
          refine ow_istore (q := 171) X23 hx (L' := #[iv p0, iv p1, iv p2, iv p3, iv p4, iv (1 : Int32), iv v10, iv v11, iv v12, iv ma, iv mb, iv sm, iv fr, rv b14, iv v24, iv v25, iv v26, .unset]) (hb hby at_169) rfl rfl ?_
          refine ow_iconst (q := 172) X23 hx (-1 : Int32) (hb hby at_171) rfl rfl ?_
          refine ow_istore (q := 174) X23 hx (L' := #[iv p0, iv p1, iv p2, iv p3, iv p4, iv (1 : Int32), iv v10, iv v11, iv v12, iv ma, iv mb, iv sm, iv fr, rv b14, iv v24, iv v25, iv v26, iv (-1 : Int32)]) (hb hby at_172) rfl rfl ?_
          have cut218_27 : ∀ (be : Int32) (Tc27 : State) (lc27 : List Loc), Stand p l e room_1 s m #[(.int p0), (.int p1), (.int p2), (.int p3), (.int p4)] below meth c Tc27 lc27 2 2 → Tc27.heap = T17.heap → Fr n0 lc27 → (be = own_best ma mb v25 v26 fr) → ownEnds p e below s (Q_law Z p0 p1 p2 p3 p4 h0 n0) 16 128 Tc27 (mkF m 218 #[iv p0, iv p1, iv p2, iv p3, iv p4, iv (1 : Int32), iv v10, iv v11, iv v12, iv ma, iv mb, iv sm, iv fr, rv b14, iv v24, iv v25, iv v26, iv be] []) := by
            intro be Tc27 lc27 Xc27 ec27 Nc27 hbe
            refine ow_iload (q := 220) Xc27 hx (hb hby at_218) rfl rfl ?_
            refine ow_iload (q := 222) Xc27 hx (hb hby at_220) rfl rfl ?_
            refine ow_icmpNo (q := 225) Xc27 hx (hb hby at_222) rfl (Jvm.Free.XT.ii_ne_f (by rw [hbe, ← hv_v24]; exact own_final (own_g00 hc124_21 hc136_22) (own_ca (own_a (n := 1) hv_v11 hv_v10) hv_v25) (own_ca (own_a (n := 1) hv_v12 hv_v10) hv_v26) (own_il (own_a (n := 1) hv_v11 hv_v10)) (own_il (own_a (n := 1) hv_v12 hv_v10)) hfr)) ?_
            refine ow_iconst (q := 226) Xc27 hx (1 : Int32) (hb hby at_225) rfl rfl ?_
            refine ow_goto (q := 230) Xc27 hx (hb hby at_226) (by decide) (by decide) ?_
            refine ownRetN Xc27 hx (r := (1 : Int32)) (Or.inl rfl) Bd.returns (hb hby at_230) hlk (by decide) (by decide) (by decide) ?_
            exact ⟨rfl, Nc27⟩
          refine ow_iload (q := 176) X23 hx (hb hby at_174) rfl rfl ?_
          refine ow_ifYes (q := 190) X23 hx (hb hby at_176) (Jvm.Free.XT.i0_eq_t hc124_21) (by decide) (by decide) ?_
          refine ow_iload (q := 192) X23 hx (hb hby at_190) rfl rfl ?_
          refine ow_ifYes (q := 218) X23 hx (hb hby at_192) (Jvm.Free.XT.i0_eq_t hc136_22) (by decide) (by decide) ?_
          exact cut218_27 (-1 : Int32) _ _ X23 e23 N23 (by simp [own_best, hc124_21, hc136_22])
        · refine ow_ifNo (q := 139) X20 hx (hb hby at_136) rfl (Jvm.Free.XT.i0_eq_f hc136_22) ?_
          refine ow_aload (q := 141) X20 hx (hb hby at_139) rfl rfl rfl ?_
          refine ow_iload (q := 143) X20 hx (hb hby at_141) rfl rfl ?_
          obtain ⟨cq28, kq28, q28a, q28b, q28c⟩ := isOf hZ e20 FP17_0
          obtain ⟨_, _, ⟨T28, L28, k28, n28⟩, -, X28, ⟨Lc28, hQ28, l28, y28, z28⟩, st28⟩ := X20.virtualBack hx (y := (⟨"com/example/swarm_tally/swarmtally/ChunkMarks", "mark", "(I)V"⟩ : MethodName)) (z := (⟨"com/example/swarm_tally/swarmtally/ChunkMarks", "mark", "(I)V"⟩ : MethodName)) hown (mvT hZ (hw _ (List.mem_of_getElem? (i := 37) rfl))) (mvT hZ (hw _ (List.mem_of_getElem? (i := 38) rfl))) (notFace_of_selects (args := #[]) (mvT hZ (hw _ (List.mem_of_getElem? (i := 40) rfl)))) (mvT hZ (hw _ (List.mem_of_getElem? (i := 40) rfl))) (mvT hZ (hw _ (List.mem_of_getElem? (i := 39) rfl))) (by decide) (backOf (W := 0) (rm_mark_1 l Z av0 hw [] b14 v12 ar_17 (fun _ => (0 : Int32)) T17.heap n0 (Nat.le_trans Z0 K17.1) FP17_1 FP17_2 F18 G_ar_17 (own_in (own_a (n := 1) hv_v12 hv_v10)) ne_b14_ar_17) hZ (hw _ (List.mem_of_getElem? (i := 41) rfl)) (hw _ (List.mem_of_getElem? (i := 3) rfl)) (by decide) (by decide)) q28a q28c (g := (mkF m 143 #[iv p0, iv p1, iv p2, iv p3, iv p4, iv (1 : Int32), iv v10, iv v11, iv v12, iv ma, iv mb, iv sm, iv fr, rv b14, .unset, .unset, .unset, .unset] [(.int v12), (.ref b14)])) rfl (by rw [hml]; rfl) (Steps.refl _) (argsL := [(.int v12)]) (rest := []) (lenOf own_pd3 rfl) rfl (by show 2 * 0 + _ ≤ _; exact Nat.le_of_eq rfl) (hb hby at_143) (fun _ _ => ⟨rfl, e20, (by decide : 2 + 0 ≤ _), (by decide : 2 + 0 ≤ _)⟩)
          dsimp only [Pt.U, Pt.locs, Pt.cells, Pt.slots] at X28 l28 y28 z28 st28 hQ28
          subst l28 y28 z28
          obtain ⟨rfl, N28q, Kq28, FP28_0⟩ := hQ28
          have N28 := Fr.app N20 N28q
          have K28 : Keep h0 T28.heap [] := K17.trans Kq28 (allS (Or.inr sz_ar_17) all0)
          have F29 : Sta Z T28.heap "com/example/swarm_tally/swarmtally/ChunkMarks" "CHUNK_SHIFT" "I" (.int (10 : Int32)) := ownStaKeep F18 Kq28 (allS (ownNstI FP17_2) all0)
          have F30 : Exa Z T28.heap b14 "com/example/swarm_tally/swarmtally/ChunkMarks" := FP17_0.keep Kq28
          have F31 : Fld Z T28.heap b14 "com/example/swarm_tally/swarmtally/ChunkMarks" "changed" "[Z" (.ref ar_17) := FP17_1.keep Kq28 (ninS ne_b14_ar_17 nin0)
          refine ownRun (T' := T28) (f' := (mkF m 146 #[iv p0, iv p1, iv p2, iv p3, iv p4, iv (1 : Int32), iv v10, iv v11, iv v12, iv ma, iv mb, iv sm, iv fr, rv b14, .unset, .unset, .unset, .unset] [])) st28 ?_
          refine ow_aload (q := 148) X28 hx (hb hby at_146) rfl rfl rfl ?_
          refine ow_iload (q := 150) X28 hx (hb hby at_148) rfl rfl ?_
          obtain ⟨cq32, kq32, q32a, q32b, q32c⟩ := isOf hZ rfl F30
          obtain ⟨_, _, ⟨T32, L32, k32, n32⟩, -, X32, ⟨Lc32, hQ32, l32, y32, z32⟩, st32⟩ := X28.virtualBack hx (y := (⟨"com/example/swarm_tally/swarmtally/ChunkMarks", "next", "(I)I"⟩ : MethodName)) (z := (⟨"com/example/swarm_tally/swarmtally/ChunkMarks", "next", "(I)I"⟩ : MethodName)) hown (mvT hZ (hw _ (List.mem_of_getElem? (i := 20) rfl))) (mvT hZ (hw _ (List.mem_of_getElem? (i := 21) rfl))) (notFace_of_selects (args := #[]) (mvT hZ (hw _ (List.mem_of_getElem? (i := 23) rfl)))) (mvT hZ (hw _ (List.mem_of_getElem? (i := 23) rfl))) (mvT hZ (hw _ (List.mem_of_getElem? (i := 22) rfl))) (by decide) (backOf (W := 0) (rm_next_1 l Z av0 hw [] b14 fr ar_17 (ownUpd (fun _ => (0 : Int32)) (own_ix v12) (1 : Int32)) T28.heap n0 (Nat.le_trans Z0 K28.1) F31 FP28_0 hfr) hZ (hw _ (List.mem_of_getElem? (i := 24) rfl)) (hw _ (List.mem_of_getElem? (i := 3) rfl)) (by decide) (by decide)) q32a q32c (g := (mkF m 150 #[iv p0, iv p1, iv p2, iv p3, iv p4, iv (1 : Int32), iv v10, iv v11, iv v12, iv ma, iv mb, iv sm, iv fr, rv b14, .unset, .unset, .unset, .unset] [(.int fr), (.ref b14)])) rfl (by rw [hml]; rfl) (Steps.refl _) (argsL := [(.int fr)]) (rest := []) (lenOf own_pd4 rfl) rfl (by show 2 * 0 + _ ≤ _; exact Nat.le_of_eq rfl) (hb hby at_150) (fun _ _ => ⟨rfl, rfl, (by decide : 2 + 0 ≤ _), (by decide : 2 + 0 ≤ _)⟩)
          dsimp only [Pt.U, Pt.locs, Pt.cells, Pt.slots] at X32 l32 y32 z32 st32 hQ32
          subst l32 y32 z32
          obtain ⟨rfl, N32q, e32⟩ := hQ32
          have N32 := Fr.app N28 N32q
          refine ownRun (T' := T32) (f' := (mkF m 153 #[iv p0, iv p1, iv p2, iv p3, iv p4, iv (1 : Int32), iv v10, iv v11, iv v12, iv ma, iv mb, iv sm, iv fr, rv b14, .unset, .unset, .unset, .unset] [(.int (own_next (ownUpd (fun _ => (0 : Int32)) (own_ix v12) (1 : Int32)) 1 fr))])) st32 ?_
          generalize hv_v33 : (own_next (ownUpd (fun _ => (0 : Int32)) (own_ix v12) (1 : Int32)) 1 fr) = v33
          refine ow_istore (q := 155) X32 hx (L' := #[iv p0, iv p1, iv p2, iv p3, iv p4, iv (1 : Int32), iv v10, iv v11, iv v12, iv ma, iv mb, iv sm, iv fr, rv b14, iv v33, .unset, .unset, .unset]) (hb hby at_153) rfl rfl ?_
          refine ow_iload (q := 157) X32 hx (hb hby at_155) rfl rfl ?_
          refine ow_sipush (q := 160) X32 hx (1024 : Int32) (hb hby at_157) rfl rfl ?_
          refine ow_idiv (q := 161) X32 hx _ (hb hby at_160) rfl (by decide) rfl ?_
          generalize hv_v34 : (v11 / (1024 : Int32)) = v34
          refine ow_istore (q := 163) X32 hx (L' := #[iv p0, iv p1, iv p2, iv p3, iv p4, iv (1 : Int32), iv v10, iv v11, iv v12, iv ma, iv mb, iv sm, iv fr, rv b14, iv v33, iv v34, .unset, .unset]) (hb hby at_161) rfl rfl ?_
          refine ow_iload (q := 165) X32 hx (hb hby at_163) rfl rfl ?_
          refine ow_sipush (q := 168) X32 hx (1024 : Int32) (hb hby at_165) rfl rfl ?_
          refine ow_idiv (q := 169) X32 hx _ (hb hby at_168) rfl (by decide) rfl ?_
          generalize hv_v35 : (v12 / (1024 : Int32)) = v35
          refine ow_istore (q := 171) X32 hx (L' := #[iv p0, iv p1, iv p2, iv p3, iv p4, iv (1 : Int32), iv v10, iv v11, iv v12, iv ma, iv mb, iv sm, iv fr, rv b14, iv v33, iv v34, iv v35, .unset]) (hb hby at_169) rfl rfl ?_
          refine ow_iconst (q := 172) X32 hx (-1 : Int32) (hb hby at_171) rfl rfl ?_
          refine ow_istore (q := 174) X32 hx (L' := #[iv p0, iv p1, iv p2, iv p3, iv p4, iv (1 : Int32), iv v10, iv v11, iv v12, iv ma, iv mb, iv sm, iv fr, rv b14, iv v33, iv v34, iv v35, iv (-1 : Int32)]) (hb hby at_172) rfl rfl ?_
          have cut218_36 : ∀ (be : Int32) (Tc36 : State) (lc36 : List Loc), Stand p l e room_1 s m #[(.int p0), (.int p1), (.int p2), (.int p3), (.int p4)] below meth c Tc36 lc36 2 2 → Tc36.heap = T28.heap → Fr n0 lc36 → (be = own_best ma mb v34 v35 fr) → ownEnds p e below s (Q_law Z p0 p1 p2 p3 p4 h0 n0) 16 128 Tc36 (mkF m 218 #[iv p0, iv p1, iv p2, iv p3, iv p4, iv (1 : Int32), iv v10, iv v11, iv v12, iv ma, iv mb, iv sm, iv fr, rv b14, iv v33, iv v34, iv v35, iv be] []) := by
            intro be Tc36 lc36 Xc36 ec36 Nc36 hbe
            refine ow_iload (q := 220) Xc36 hx (hb hby at_218) rfl rfl ?_
            refine ow_iload (q := 222) Xc36 hx (hb hby at_220) rfl rfl ?_
            refine ow_icmpNo (q := 225) Xc36 hx (hb hby at_222) rfl (Jvm.Free.XT.ii_ne_f (by rw [hbe, ← hv_v33]; exact own_final (own_g01 hc124_21 hc136_22) (own_ca (own_a (n := 1) hv_v11 hv_v10) hv_v34) (own_ca (own_a (n := 1) hv_v12 hv_v10) hv_v35) (own_il (own_a (n := 1) hv_v11 hv_v10)) (own_il (own_a (n := 1) hv_v12 hv_v10)) hfr)) ?_
            refine ow_iconst (q := 226) Xc36 hx (1 : Int32) (hb hby at_225) rfl rfl ?_
            refine ow_goto (q := 230) Xc36 hx (hb hby at_226) (by decide) (by decide) ?_
            refine ownRetN Xc36 hx (r := (1 : Int32)) (Or.inl rfl) Bd.returns (hb hby at_230) hlk (by decide) (by decide) (by decide) ?_
            exact ⟨rfl, Nc36⟩
          refine ow_iload (q := 176) X32 hx (hb hby at_174) rfl rfl ?_
          refine ow_ifYes (q := 190) X32 hx (hb hby at_176) (Jvm.Free.XT.i0_eq_t hc124_21) (by decide) (by decide) ?_
          refine ow_iload (q := 192) X32 hx (hb hby at_190) rfl rfl ?_
          refine ow_ifNo (q := 195) X32 hx (hb hby at_192) rfl (Jvm.Free.XT.i0_eq_f hc136_22) ?_
          refine ow_iload (q := 197) X32 hx (hb hby at_195) rfl rfl ?_
          refine ow_iload (q := 199) X32 hx (hb hby at_197) rfl rfl ?_
          by_cases hc199_37 : v35 < fr
          · refine ow_icmpYes (q := 218) X32 hx (hb hby at_199) (Jvm.Free.XT.ii_lt_t hc199_37) (by decide) (by decide) ?_
            exact cut218_36 (-1 : Int32) _ _ X32 e32 N32 (by simp [own_best, hc124_21, hc136_22, hc199_37])
          · refine ow_icmpNo (q := 202) X32 hx (hb hby at_199) rfl (Jvm.Free.XT.ii_lt_f hc199_37) ?_
            refine ow_iload (q := 204) X32 hx (hb hby at_202) rfl rfl ?_
            refine ow_ifYes (q := 214) X32 hx (hb hby at_204) (Jvm.Free.XT.i0_lt_t (by decide)) (by decide) (by decide) ?_
            refine ow_iload (q := 216) X32 hx (hb hby at_214) rfl rfl ?_
            refine ow_istore (q := 218) X32 hx (L' := #[iv p0, iv p1, iv p2, iv p3, iv p4, iv (1 : Int32), iv v10, iv v11, iv v12, iv ma, iv mb, iv sm, iv fr, rv b14, iv v33, iv v34, iv v35, iv v35]) (hb hby at_216) rfl rfl ?_
            exact cut218_36 v35 _ _ X32 e32 N32 (by simp [own_best, hc124_21, hc136_22, hc199_37])
      · refine ow_ifNo (q := 127) X20 hx (hb hby at_124) rfl (Jvm.Free.XT.i0_eq_f hc124_21) ?_
        refine ow_aload (q := 129) X20 hx (hb hby at_127) rfl rfl rfl ?_
        refine ow_iload (q := 131) X20 hx (hb hby at_129) rfl rfl ?_
        obtain ⟨cq38, kq38, q38a, q38b, q38c⟩ := isOf hZ e20 FP17_0
        obtain ⟨_, _, ⟨T38, L38, k38, n38⟩, -, X38, ⟨Lc38, hQ38, l38, y38, z38⟩, st38⟩ := X20.virtualBack hx (y := (⟨"com/example/swarm_tally/swarmtally/ChunkMarks", "mark", "(I)V"⟩ : MethodName)) (z := (⟨"com/example/swarm_tally/swarmtally/ChunkMarks", "mark", "(I)V"⟩ : MethodName)) hown (mvT hZ (hw _ (List.mem_of_getElem? (i := 37) rfl))) (mvT hZ (hw _ (List.mem_of_getElem? (i := 38) rfl))) (notFace_of_selects (args := #[]) (mvT hZ (hw _ (List.mem_of_getElem? (i := 40) rfl)))) (mvT hZ (hw _ (List.mem_of_getElem? (i := 40) rfl))) (mvT hZ (hw _ (List.mem_of_getElem? (i := 39) rfl))) (by decide) (backOf (W := 0) (rm_mark_1 l Z av0 hw [] b14 v11 ar_17 (fun _ => (0 : Int32)) T17.heap n0 (Nat.le_trans Z0 K17.1) FP17_1 FP17_2 F18 G_ar_17 (own_in (own_a (n := 1) hv_v11 hv_v10)) ne_b14_ar_17) hZ (hw _ (List.mem_of_getElem? (i := 41) rfl)) (hw _ (List.mem_of_getElem? (i := 3) rfl)) (by decide) (by decide)) q38a q38c (g := (mkF m 131 #[iv p0, iv p1, iv p2, iv p3, iv p4, iv (1 : Int32), iv v10, iv v11, iv v12, iv ma, iv mb, iv sm, iv fr, rv b14, .unset, .unset, .unset, .unset] [(.int v11), (.ref b14)])) rfl (by rw [hml]; rfl) (Steps.refl _) (argsL := [(.int v11)]) (rest := []) (lenOf own_pd3 rfl) rfl (by show 2 * 0 + _ ≤ _; exact Nat.le_of_eq rfl) (hb hby at_131) (fun _ _ => ⟨rfl, e20, (by decide : 2 + 0 ≤ _), (by decide : 2 + 0 ≤ _)⟩)
        dsimp only [Pt.U, Pt.locs, Pt.cells, Pt.slots] at X38 l38 y38 z38 st38 hQ38
        subst l38 y38 z38
        obtain ⟨rfl, N38q, Kq38, FP38_0⟩ := hQ38
        have N38 := Fr.app N20 N38q
        have K38 : Keep h0 T38.heap [] := K17.trans Kq38 (allS (Or.inr sz_ar_17) all0)
        have F39 : Sta Z T38.heap "com/example/swarm_tally/swarmtally/ChunkMarks" "CHUNK_SHIFT" "I" (.int (10 : Int32)) := ownStaKeep F18 Kq38 (allS (ownNstI FP17_2) all0)
        have F40 : Exa Z T38.heap b14 "com/example/swarm_tally/swarmtally/ChunkMarks" := FP17_0.keep Kq38
        have F41 : Fld Z T38.heap b14 "com/example/swarm_tally/swarmtally/ChunkMarks" "changed" "[Z" (.ref ar_17) := FP17_1.keep Kq38 (ninS ne_b14_ar_17 nin0)
        refine ownRun (T' := T38) (f' := (mkF m 134 #[iv p0, iv p1, iv p2, iv p3, iv p4, iv (1 : Int32), iv v10, iv v11, iv v12, iv ma, iv mb, iv sm, iv fr, rv b14, .unset, .unset, .unset, .unset] [])) st38 ?_
        refine ow_iload (q := 136) X38 hx (hb hby at_134) rfl rfl ?_
        by_cases hc136_42 : mb = (0 : Int32)
        · refine ow_ifYes (q := 146) X38 hx (hb hby at_136) (Jvm.Free.XT.i0_eq_t hc136_42) (by decide) (by decide) ?_
          refine ow_aload (q := 148) X38 hx (hb hby at_146) rfl rfl rfl ?_
          refine ow_iload (q := 150) X38 hx (hb hby at_148) rfl rfl ?_
          obtain ⟨cq43, kq43, q43a, q43b, q43c⟩ := isOf hZ rfl F40
          obtain ⟨_, _, ⟨T43, L43, k43, n43⟩, -, X43, ⟨Lc43, hQ43, l43, y43, z43⟩, st43⟩ := X38.virtualBack hx (y := (⟨"com/example/swarm_tally/swarmtally/ChunkMarks", "next", "(I)I"⟩ : MethodName)) (z := (⟨"com/example/swarm_tally/swarmtally/ChunkMarks", "next", "(I)I"⟩ : MethodName)) hown (mvT hZ (hw _ (List.mem_of_getElem? (i := 20) rfl))) (mvT hZ (hw _ (List.mem_of_getElem? (i := 21) rfl))) (notFace_of_selects (args := #[]) (mvT hZ (hw _ (List.mem_of_getElem? (i := 23) rfl)))) (mvT hZ (hw _ (List.mem_of_getElem? (i := 23) rfl))) (mvT hZ (hw _ (List.mem_of_getElem? (i := 22) rfl))) (by decide) (backOf (W := 0) (rm_next_1 l Z av0 hw [] b14 fr ar_17 (ownUpd (fun _ => (0 : Int32)) (own_ix v11) (1 : Int32)) T38.heap n0 (Nat.le_trans Z0 K38.1) F41 FP38_0 hfr) hZ (hw _ (List.mem_of_getElem? (i := 24) rfl)) (hw _ (List.mem_of_getElem? (i := 3) rfl)) (by decide) (by decide)) q43a q43c (g := (mkF m 150 #[iv p0, iv p1, iv p2, iv p3, iv p4, iv (1 : Int32), iv v10, iv v11, iv v12, iv ma, iv mb, iv sm, iv fr, rv b14, .unset, .unset, .unset, .unset] [(.int fr), (.ref b14)])) rfl (by rw [hml]; rfl) (Steps.refl _) (argsL := [(.int fr)]) (rest := []) (lenOf own_pd4 rfl) rfl (by show 2 * 0 + _ ≤ _; exact Nat.le_of_eq rfl) (hb hby at_150) (fun _ _ => ⟨rfl, rfl, (by decide : 2 + 0 ≤ _), (by decide : 2 + 0 ≤ _)⟩)
          dsimp only [Pt.U, Pt.locs, Pt.cells, Pt.slots] at X43 l43 y43 z43 st43 hQ43
          subst l43 y43 z43
          obtain ⟨rfl, N43q, e43⟩ := hQ43
          have N43 := Fr.app N38 N43q
          refine ownRun (T' := T43) (f' := (mkF m 153 #[iv p0, iv p1, iv p2, iv p3, iv p4, iv (1 : Int32), iv v10, iv v11, iv v12, iv ma, iv mb, iv sm, iv fr, rv b14, .unset, .unset, .unset, .unset] [(.int (own_next (ownUpd (fun _ => (0 : Int32)) (own_ix v11) (1 : Int32)) 1 fr))])) st43 ?_
          generalize hv_v44 : (own_next (ownUpd (fun _ => (0 : Int32)) (own_ix v11) (1 : Int32)) 1 fr) = v44
          refine ow_istore (q := 155) X43 hx (L' := #[iv p0, iv p1, iv p2, iv p3, iv p4, iv (1 : Int32), iv v10, iv v11, iv v12, iv ma, iv mb, iv sm, iv fr, rv b14, iv v44, .unset, .unset, .unset]) (hb hby at_153) rfl rfl ?_
          refine ow_iload (q := 157) X43 hx (hb hby at_155) rfl rfl ?_
          refine ow_sipush (q := 160) X43 hx (1024 : Int32) (hb hby at_157) rfl rfl ?_
          refine ow_idiv (q := 161) X43 hx _ (hb hby at_160) rfl (by decide) rfl ?_
          generalize hv_v45 : (v11 / (1024 : Int32)) = v45
          refine ow_istore (q := 163) X43 hx (L' := #[iv p0, iv p1, iv p2, iv p3, iv p4, iv (1 : Int32), iv v10, iv v11, iv v12, iv ma, iv mb, iv sm, iv fr, rv b14, iv v44, iv v45, .unset, .unset]) (hb hby at_161) rfl rfl ?_
          refine ow_iload (q := 165) X43 hx (hb hby at_163) rfl rfl ?_
          refine ow_sipush (q := 168) X43 hx (1024 : Int32) (hb hby at_165) rfl rfl ?_
          refine ow_idiv (q := 169) X43 hx _ (hb hby at_168) rfl (by decide) rfl ?_
          generalize hv_v46 : (v12 / (1024 : Int32)) = v46
          refine ow_istore (q := 171) X43 hx (L' := #[iv p0, iv p1, iv p2, iv p3, iv p4, iv (1 : Int32), iv v10, iv v11, iv v12, iv ma, iv mb, iv sm, iv fr, rv b14, iv v44, iv v45, iv v46, .unset]) (hb hby at_169) rfl rfl ?_
          refine ow_iconst (q := 172) X43 hx (-1 : Int32) (hb hby at_171) rfl rfl ?_
          refine ow_istore (q := 174) X43 hx (L' := #[iv p0, iv p1, iv p2, iv p3, iv p4, iv (1 : Int32), iv v10, iv v11, iv v12, iv ma, iv mb, iv sm, iv fr, rv b14, iv v44, iv v45, iv v46, iv (-1 : Int32)]) (hb hby at_172) rfl rfl ?_
          have cut218_47 : ∀ (be : Int32) (Tc47 : State) (lc47 : List Loc), Stand p l e room_1 s m #[(.int p0), (.int p1), (.int p2), (.int p3), (.int p4)] below meth c Tc47 lc47 2 2 → Tc47.heap = T38.heap → Fr n0 lc47 → (be = own_best ma mb v45 v46 fr) → ownEnds p e below s (Q_law Z p0 p1 p2 p3 p4 h0 n0) 16 128 Tc47 (mkF m 218 #[iv p0, iv p1, iv p2, iv p3, iv p4, iv (1 : Int32), iv v10, iv v11, iv v12, iv ma, iv mb, iv sm, iv fr, rv b14, iv v44, iv v45, iv v46, iv be] []) := by
            intro be Tc47 lc47 Xc47 ec47 Nc47 hbe
            refine ow_iload (q := 220) Xc47 hx (hb hby at_218) rfl rfl ?_
            refine ow_iload (q := 222) Xc47 hx (hb hby at_220) rfl rfl ?_
            refine ow_icmpNo (q := 225) Xc47 hx (hb hby at_222) rfl (Jvm.Free.XT.ii_ne_f (by rw [hbe, ← hv_v44]; exact own_final (own_g10 hc124_21 hc136_42) (own_ca (own_a (n := 1) hv_v11 hv_v10) hv_v45) (own_ca (own_a (n := 1) hv_v12 hv_v10) hv_v46) (own_il (own_a (n := 1) hv_v11 hv_v10)) (own_il (own_a (n := 1) hv_v12 hv_v10)) hfr)) ?_
            refine ow_iconst (q := 226) Xc47 hx (1 : Int32) (hb hby at_225) rfl rfl ?_
            refine ow_goto (q := 230) Xc47 hx (hb hby at_226) (by decide) (by decide) ?_
            refine ownRetN Xc47 hx (r := (1 : Int32)) (Or.inl rfl) Bd.returns (hb hby at_230) hlk (by decide) (by decide) (by decide) ?_
            exact ⟨rfl, Nc47⟩
          refine ow_iload (q := 176) X43 hx (hb hby at_174) rfl rfl ?_
          refine ow_ifNo (q := 179) X43 hx (hb hby at_176) rfl (Jvm.Free.XT.i0_eq_f hc124_21) ?_
          refine ow_iload (q := 181) X43 hx (hb hby at_179) rfl rfl ?_
          refine ow_iload (q := 183) X43 hx (hb hby at_181) rfl rfl ?_
          by_cases hc183_48 : v45 < fr
          · refine ow_icmpYes (q := 190) X43 hx (hb hby at_183) (Jvm.Free.XT.ii_lt_t hc183_48) (by decide) (by decide) ?_
            refine ow_iload (q := 192) X43 hx (hb hby at_190) rfl rfl ?_
            refine ow_ifYes (q := 218) X43 hx (hb hby at_192) (Jvm.Free.XT.i0_eq_t hc136_42) (by decide) (by decide) ?_
            exact cut218_47 (-1 : Int32) _ _ X43 e43 N43 (by simp [own_best, hc124_21, hc136_42, hc183_48])
          · refine ow_icmpNo (q := 186) X43 hx (hb hby at_183) rfl (Jvm.Free.XT.ii_lt_f hc183_48) ?_
            refine ow_iload (q := 188) X43 hx (hb hby at_186) rfl rfl ?_
            refine ow_istore (q := 190) X43 hx (L' := #[iv p0, iv p1, iv p2, iv p3, iv p4, iv (1 : Int32), iv v10, iv v11, iv v12, iv ma, iv mb, iv sm, iv fr, rv b14, iv v44, iv v45, iv v46, iv v45]) (hb hby at_188) rfl rfl ?_
            refine ow_iload (q := 192) X43 hx (hb hby at_190) rfl rfl ?_
            refine ow_ifYes (q := 218) X43 hx (hb hby at_192) (Jvm.Free.XT.i0_eq_t hc136_42) (by decide) (by decide) ?_
            exact cut218_47 v45 _ _ X43 e43 N43 (by simp [own_best, hc124_21, hc136_42, hc183_48])
        · refine ow_ifNo (q := 139) X38 hx (hb hby at_136) rfl (Jvm.Free.XT.i0_eq_f hc136_42) ?_
          refine ow_aload (q := 141) X38 hx (hb hby at_139) rfl rfl rfl ?_
          refine ow_iload (q := 143) X38 hx (hb hby at_141) rfl rfl ?_
          obtain ⟨cq49, kq49, q49a, q49b, q49c⟩ := isOf hZ rfl F40
          obtain ⟨_, _, ⟨T49, L49, k49, n49⟩, -, X49, ⟨Lc49, hQ49, l49, y49, z49⟩, st49⟩ := X38.virtualBack hx (y := (⟨"com/example/swarm_tally/swarmtally/ChunkMarks", "mark", "(I)V"⟩ : MethodName)) (z := (⟨"com/example/swarm_tally/swarmtally/ChunkMarks", "mark", "(I)V"⟩ : MethodName)) hown (mvT hZ (hw _ (List.mem_of_getElem? (i := 37) rfl))) (mvT hZ (hw _ (List.mem_of_getElem? (i := 38) rfl))) (notFace_of_selects (args := #[]) (mvT hZ (hw _ (List.mem_of_getElem? (i := 40) rfl)))) (mvT hZ (hw _ (List.mem_of_getElem? (i := 40) rfl))) (mvT hZ (hw _ (List.mem_of_getElem? (i := 39) rfl))) (by decide) (backOf (W := 0) (rm_mark_1 l Z av0 hw [] b14 v12 ar_17 (ownUpd (fun _ => (0 : Int32)) (own_ix v11) (1 : Int32)) T38.heap n0 (Nat.le_trans Z0 K38.1) F41 FP38_0 F39 G_ar_17 (own_in (own_a (n := 1) hv_v12 hv_v10)) ne_b14_ar_17) hZ (hw _ (List.mem_of_getElem? (i := 41) rfl)) (hw _ (List.mem_of_getElem? (i := 3) rfl)) (by decide) (by decide)) q49a q49c (g := (mkF m 143 #[iv p0, iv p1, iv p2, iv p3, iv p4, iv (1 : Int32), iv v10, iv v11, iv v12, iv ma, iv mb, iv sm, iv fr, rv b14, .unset, .unset, .unset, .unset] [(.int v12), (.ref b14)])) rfl (by rw [hml]; rfl) (Steps.refl _) (argsL := [(.int v12)]) (rest := []) (lenOf own_pd3 rfl) rfl (by show 2 * 0 + _ ≤ _; exact Nat.le_of_eq rfl) (hb hby at_143) (fun _ _ => ⟨rfl, rfl, (by decide : 2 + 0 ≤ _), (by decide : 2 + 0 ≤ _)⟩)
          dsimp only [Pt.U, Pt.locs, Pt.cells, Pt.slots] at X49 l49 y49 z49 st49 hQ49
          subst l49 y49 z49
          obtain ⟨rfl, N49q, Kq49, FP49_0⟩ := hQ49
          have N49 := Fr.app N38 N49q
          have K49 : Keep h0 T49.heap [] := K38.trans Kq49 (allS (Or.inr sz_ar_17) all0)
          have F50 : Sta Z T49.heap "com/example/swarm_tally/swarmtally/ChunkMarks" "CHUNK_SHIFT" "I" (.int (10 : Int32)) := ownStaKeep F39 Kq49 (allS (ownNstI FP38_0) all0)
          have F51 : Exa Z T49.heap b14 "com/example/swarm_tally/swarmtally/ChunkMarks" := F40.keep Kq49
          have F52 : Fld Z T49.heap b14 "com/example/swarm_tally/swarmtally/ChunkMarks" "changed" "[Z" (.ref ar_17) := F41.keep Kq49 (ninS ne_b14_ar_17 nin0)
          refine ownRun (T' := T49) (f' := (mkF m 146 #[iv p0, iv p1, iv p2, iv p3, iv p4, iv (1 : Int32), iv v10, iv v11, iv v12, iv ma, iv mb, iv sm, iv fr, rv b14, .unset, .unset, .unset, .unset] [])) st49 ?_
          refine ow_aload (q := 148) X49 hx (hb hby at_146) rfl rfl rfl ?_
          refine ow_iload (q := 150) X49 hx (hb hby at_148) rfl rfl ?_
          obtain ⟨cq53, kq53, q53a, q53b, q53c⟩ := isOf hZ rfl F51
          obtain ⟨_, _, ⟨T53, L53, k53, n53⟩, -, X53, ⟨Lc53, hQ53, l53, y53, z53⟩, st53⟩ := X49.virtualBack hx (y := (⟨"com/example/swarm_tally/swarmtally/ChunkMarks", "next", "(I)I"⟩ : MethodName)) (z := (⟨"com/example/swarm_tally/swarmtally/ChunkMarks", "next", "(I)I"⟩ : MethodName)) hown (mvT hZ (hw _ (List.mem_of_getElem? (i := 20) rfl))) (mvT hZ (hw _ (List.mem_of_getElem? (i := 21) rfl))) (notFace_of_selects (args := #[]) (mvT hZ (hw _ (List.mem_of_getElem? (i := 23) rfl)))) (mvT hZ (hw _ (List.mem_of_getElem? (i := 23) rfl))) (mvT hZ (hw _ (List.mem_of_getElem? (i := 22) rfl))) (by decide) (backOf (W := 0) (rm_next_1 l Z av0 hw [] b14 fr ar_17 (ownUpd (ownUpd (fun _ => (0 : Int32)) (own_ix v11) (1 : Int32)) (own_ix v12) (1 : Int32)) T49.heap n0 (Nat.le_trans Z0 K49.1) F52 FP49_0 hfr) hZ (hw _ (List.mem_of_getElem? (i := 24) rfl)) (hw _ (List.mem_of_getElem? (i := 3) rfl)) (by decide) (by decide)) q53a q53c (g := (mkF m 150 #[iv p0, iv p1, iv p2, iv p3, iv p4, iv (1 : Int32), iv v10, iv v11, iv v12, iv ma, iv mb, iv sm, iv fr, rv b14, .unset, .unset, .unset, .unset] [(.int fr), (.ref b14)])) rfl (by rw [hml]; rfl) (Steps.refl _) (argsL := [(.int fr)]) (rest := []) (lenOf own_pd4 rfl) rfl (by show 2 * 0 + _ ≤ _; exact Nat.le_of_eq rfl) (hb hby at_150) (fun _ _ => ⟨rfl, rfl, (by decide : 2 + 0 ≤ _), (by decide : 2 + 0 ≤ _)⟩)
          dsimp only [Pt.U, Pt.locs, Pt.cells, Pt.slots] at X53 l53 y53 z53 st53 hQ53
          subst l53 y53 z53
          obtain ⟨rfl, N53q, e53⟩ := hQ53
          have N53 := Fr.app N49 N53q
          refine ownRun (T' := T53) (f' := (mkF m 153 #[iv p0, iv p1, iv p2, iv p3, iv p4, iv (1 : Int32), iv v10, iv v11, iv v12, iv ma, iv mb, iv sm, iv fr, rv b14, .unset, .unset, .unset, .unset] [(.int (own_next (ownUpd (ownUpd (fun _ => (0 : Int32)) (own_ix v11) (1 : Int32)) (own_ix v12) (1 : Int32)) 1 fr))])) st53 ?_
          generalize hv_v54 : (own_next (ownUpd (ownUpd (fun _ => (0 : Int32)) (own_ix v11) (1 : Int32)) (own_ix v12) (1 : Int32)) 1 fr) = v54
          refine ow_istore (q := 155) X53 hx (L' := #[iv p0, iv p1, iv p2, iv p3, iv p4, iv (1 : Int32), iv v10, iv v11, iv v12, iv ma, iv mb, iv sm, iv fr, rv b14, iv v54, .unset, .unset, .unset]) (hb hby at_153) rfl rfl ?_
          refine ow_iload (q := 157) X53 hx (hb hby at_155) rfl rfl ?_
          refine ow_sipush (q := 160) X53 hx (1024 : Int32) (hb hby at_157) rfl rfl ?_
          refine ow_idiv (q := 161) X53 hx _ (hb hby at_160) rfl (by decide) rfl ?_
          generalize hv_v55 : (v11 / (1024 : Int32)) = v55
          refine ow_istore (q := 163) X53 hx (L' := #[iv p0, iv p1, iv p2, iv p3, iv p4, iv (1 : Int32), iv v10, iv v11, iv v12, iv ma, iv mb, iv sm, iv fr, rv b14, iv v54, iv v55, .unset, .unset]) (hb hby at_161) rfl rfl ?_
          refine ow_iload (q := 165) X53 hx (hb hby at_163) rfl rfl ?_
          refine ow_sipush (q := 168) X53 hx (1024 : Int32) (hb hby at_165) rfl rfl ?_
          refine ow_idiv (q := 169) X53 hx _ (hb hby at_168) rfl (by decide) rfl ?_
          generalize hv_v56 : (v12 / (1024 : Int32)) = v56
          refine ow_istore (q := 171) X53 hx (L' := #[iv p0, iv p1, iv p2, iv p3, iv p4, iv (1 : Int32), iv v10, iv v11, iv v12, iv ma, iv mb, iv sm, iv fr, rv b14, iv v54, iv v55, iv v56, .unset]) (hb hby at_169) rfl rfl ?_
          refine ow_iconst (q := 172) X53 hx (-1 : Int32) (hb hby at_171) rfl rfl ?_
          refine ow_istore (q := 174) X53 hx (L' := #[iv p0, iv p1, iv p2, iv p3, iv p4, iv (1 : Int32), iv v10, iv v11, iv v12, iv ma, iv mb, iv sm, iv fr, rv b14, iv v54, iv v55, iv v56, iv (-1 : Int32)]) (hb hby at_172) rfl rfl ?_
          have cut218_57 : ∀ (be : Int32) (Tc57 : State) (lc57 : List Loc), Stand p l e room_1 s m #[(.int p0), (.int p1), (.int p2), (.int p3), (.int p4)] below meth c Tc57 lc57 2 2 → Tc57.heap = T49.heap → Fr n0 lc57 → (be = own_best ma mb v55 v56 fr) → ownEnds p e below s (Q_law Z p0 p1 p2 p3 p4 h0 n0) 16 128 Tc57 (mkF m 218 #[iv p0, iv p1, iv p2, iv p3, iv p4, iv (1 : Int32), iv v10, iv v11, iv v12, iv ma, iv mb, iv sm, iv fr, rv b14, iv v54, iv v55, iv v56, iv be] []) := by
            intro be Tc57 lc57 Xc57 ec57 Nc57 hbe
            refine ow_iload (q := 220) Xc57 hx (hb hby at_218) rfl rfl ?_
            refine ow_iload (q := 222) Xc57 hx (hb hby at_220) rfl rfl ?_
            refine ow_icmpNo (q := 225) Xc57 hx (hb hby at_222) rfl (Jvm.Free.XT.ii_ne_f (by rw [hbe, ← hv_v54]; exact own_final (own_g11 hc124_21 hc136_42) (own_ca (own_a (n := 1) hv_v11 hv_v10) hv_v55) (own_ca (own_a (n := 1) hv_v12 hv_v10) hv_v56) (own_il (own_a (n := 1) hv_v11 hv_v10)) (own_il (own_a (n := 1) hv_v12 hv_v10)) hfr)) ?_
            refine ow_iconst (q := 226) Xc57 hx (1 : Int32) (hb hby at_225) rfl rfl ?_
            refine ow_goto (q := 230) Xc57 hx (hb hby at_226) (by decide) (by decide) ?_
            refine ownRetN Xc57 hx (r := (1 : Int32)) (Or.inl rfl) Bd.returns (hb hby at_230) hlk (by decide) (by decide) (by decide) ?_
            exact ⟨rfl, Nc57⟩
          refine ow_iload (q := 176) X53 hx (hb hby at_174) rfl rfl ?_
          refine ow_ifNo (q := 179) X53 hx (hb hby at_176) rfl (Jvm.Free.XT.i0_eq_f hc124_21) ?_
          refine ow_iload (q := 181) X53 hx (hb hby at_179) rfl rfl ?_
          refine ow_iload (q := 183) X53 hx (hb hby at_181) rfl rfl ?_
          by_cases hc183_58 : v55 < fr
          · refine ow_icmpYes (q := 190) X53 hx (hb hby at_183) (Jvm.Free.XT.ii_lt_t hc183_58) (by decide) (by decide) ?_
            refine ow_iload (q := 192) X53 hx (hb hby at_190) rfl rfl ?_
            refine ow_ifNo (q := 195) X53 hx (hb hby at_192) rfl (Jvm.Free.XT.i0_eq_f hc136_42) ?_
            refine ow_iload (q := 197) X53 hx (hb hby at_195) rfl rfl ?_
            refine ow_iload (q := 199) X53 hx (hb hby at_197) rfl rfl ?_
            by_cases hc199_59 : v56 < fr
            · refine ow_icmpYes (q := 218) X53 hx (hb hby at_199) (Jvm.Free.XT.ii_lt_t hc199_59) (by decide) (by decide) ?_
              exact cut218_57 (-1 : Int32) _ _ X53 e53 N53 (by simp [own_best, hc124_21, hc136_42, hc183_58, hc199_59])
            · refine ow_icmpNo (q := 202) X53 hx (hb hby at_199) rfl (Jvm.Free.XT.ii_lt_f hc199_59) ?_
              refine ow_iload (q := 204) X53 hx (hb hby at_202) rfl rfl ?_
              refine ow_ifYes (q := 214) X53 hx (hb hby at_204) (Jvm.Free.XT.i0_lt_t (by decide)) (by decide) (by decide) ?_
              refine ow_iload (q := 216) X53 hx (hb hby at_214) rfl rfl ?_
              refine ow_istore (q := 218) X53 hx (L' := #[iv p0, iv p1, iv p2, iv p3, iv p4, iv (1 : Int32), iv v10, iv v11, iv v12, iv ma, iv mb, iv sm, iv fr, rv b14, iv v54, iv v55, iv v56, iv v56]) (hb hby at_216) rfl rfl ?_
              exact cut218_57 v56 _ _ X53 e53 N53 (by simp [own_best, hc124_21, hc136_42, hc183_58, hc199_59])
          · refine ow_icmpNo (q := 186) X53 hx (hb hby at_183) rfl (Jvm.Free.XT.ii_lt_f hc183_58) ?_
            refine ow_iload (q := 188) X53 hx (hb hby at_186) rfl rfl ?_
            refine ow_istore (q := 190) X53 hx (L' := #[iv p0, iv p1, iv p2, iv p3, iv p4, iv (1 : Int32), iv v10, iv v11, iv v12, iv ma, iv mb, iv sm, iv fr, rv b14, iv v54, iv v55, iv v56, iv v55]) (hb hby at_188) rfl rfl ?_
            refine ow_iload (q := 192) X53 hx (hb hby at_190) rfl rfl ?_
            refine ow_ifNo (q := 195) X53 hx (hb hby at_192) rfl (Jvm.Free.XT.i0_eq_f hc136_42) ?_
            refine ow_iload (q := 197) X53 hx (hb hby at_195) rfl rfl ?_
            refine ow_iload (q := 199) X53 hx (hb hby at_197) rfl rfl ?_
            by_cases hc199_60 : v56 < fr
            · refine ow_icmpYes (q := 218) X53 hx (hb hby at_199) (Jvm.Free.XT.ii_lt_t hc199_60) (by decide) (by decide) ?_
              exact cut218_57 v55 _ _ X53 e53 N53 (by simp [own_best, hc124_21, hc136_42, hc183_58, hc199_60])
            · refine ow_icmpNo (q := 202) X53 hx (hb hby at_199) rfl (Jvm.Free.XT.ii_lt_f hc199_60) ?_
              refine ow_iload (q := 204) X53 hx (hb hby at_202) rfl rfl ?_
              by_cases hc204_61 : v55 < (0 : Int32)
              · refine ow_ifYes (q := 214) X53 hx (hb hby at_204) (Jvm.Free.XT.i0_lt_t hc204_61) (by decide) (by decide) ?_
                refine ow_iload (q := 216) X53 hx (hb hby at_214) rfl rfl ?_
                refine ow_istore (q := 218) X53 hx (L' := #[iv p0, iv p1, iv p2, iv p3, iv p4, iv (1 : Int32), iv v10, iv v11, iv v12, iv ma, iv mb, iv sm, iv fr, rv b14, iv v54, iv v55, iv v56, iv v56]) (hb hby at_216) rfl rfl ?_
                exact cut218_57 v56 _ _ X53 e53 N53 (by simp [own_best, hc124_21, hc136_42, hc183_58, hc199_60, hc204_61])
              · refine ow_ifNo (q := 207) X53 hx (hb hby at_204) rfl (Jvm.Free.XT.i0_lt_f hc204_61) ?_
                refine ow_iload (q := 209) X53 hx (hb hby at_207) rfl rfl ?_
                refine ow_iload (q := 211) X53 hx (hb hby at_209) rfl rfl ?_
                by_cases hc211_62 : v56 < v55
                · refine ow_icmpNo (q := 214) X53 hx (hb hby at_211) rfl (Jvm.Free.XT.ii_ge_f hc211_62) ?_
                  refine ow_iload (q := 216) X53 hx (hb hby at_214) rfl rfl ?_
                  refine ow_istore (q := 218) X53 hx (L' := #[iv p0, iv p1, iv p2, iv p3, iv p4, iv (1 : Int32), iv v10, iv v11, iv v12, iv ma, iv mb, iv sm, iv fr, rv b14, iv v54, iv v55, iv v56, iv v56]) (hb hby at_216) rfl rfl ?_
                  exact cut218_57 v56 _ _ X53 e53 N53 (by simp [own_best, hc124_21, hc136_42, hc183_58, hc199_60, hc204_61, hc211_62])
                · refine ow_icmpYes (q := 218) X53 hx (hb hby at_211) (Jvm.Free.XT.ii_ge_t hc211_62) (by decide) (by decide) ?_
                  exact cut218_57 v55 _ _ X53 e53 N53 (by simp [own_best, hc124_21, hc136_42, hc183_58, hc199_60, hc204_61, hc211_62])
    have cut88_63 : ∀ (ma : Int32) (mb : Int32) (sm : Int32) (Tc63 : State) (lc63 : List Loc), Stand p l e room_1 s m #[(.int p0), (.int p1), (.int p2), (.int p3), (.int p4)] below meth c Tc63 lc63 0 0 → Tc63.heap = h0 → Fr n0 lc63 → ownEnds p e below s (Q_law Z p0 p1 p2 p3 p4 h0 n0) 16 128 Tc63 (mkF m 88 #[iv p0, iv p1, iv p2, iv p3, iv p4, iv (1 : Int32), iv v10, iv v11, iv v12, iv ma, iv mb, iv sm, .unset, .unset, .unset, .unset, .unset, .unset] []) := by
      intro ma mb sm Tc63 lc63 Xc63 ec63 Nc63
      refine ow_iload (q := 90) Xc63 hx (hb hby at_88) rfl rfl ?_
      by_cases hc90_64 : sm = (0 : Int32)
      · refine ow_ifYes (q := 100) Xc63 hx (hb hby at_90) (Jvm.Free.XT.i0_eq_t hc90_64) (by decide) (by decide) ?_
        refine ow_iloadN (q := 101) Xc63 hx (hb hby at_100) rfl rfl ?_
        refine ownGo (T' := Tc63) (f' := (mkF m 103 #[iv p0, iv p1, iv p2, iv p3, iv p4, iv (1 : Int32), iv v10, iv v11, iv v12, iv ma, iv mb, iv sm, .unset, .unset, .unset, .unset, .unset, .unset] [(.int (2147483647 : Int32)), (.int p3)])) (Xc63.ldcInt hx hown (mvT hZ (hw _ (List.mem_of_getElem? (i := 0) rfl))) (g := (mkF m 101 #[iv p0, iv p1, iv p2, iv p3, iv p4, iv (1 : Int32), iv v10, iv v11, iv v12, iv ma, iv mb, iv sm, .unset, .unset, .unset, .unset, .unset, .unset] [(.int p3)])) rfl (hb hby at_101)) ?_
        refine ow_iand (q := 104) Xc63 hx _ (hb hby at_103) rfl rfl ?_
        generalize hv_v65 : (p3 &&& (2147483647 : Int32)) = v65
        refine ow_istore (q := 106) Xc63 hx (L' := #[iv p0, iv p1, iv p2, iv p3, iv p4, iv (1 : Int32), iv v10, iv v11, iv v12, iv ma, iv mb, iv sm, iv v65, .unset, .unset, .unset, .unset, .unset]) (hb hby at_104) rfl rfl ?_
        exact cut106_13 ma mb sm v65 _ _ Xc63 ec63 Nc63 (own_frM hv_v65)
      · refine ow_ifNo (q := 93) Xc63 hx (hb hby at_90) rfl (Jvm.Free.XT.i0_eq_f hc90_64) ?_
        refine ow_iloadN (q := 94) Xc63 hx (hb hby at_93) rfl rfl ?_
        refine ow_bipush (q := 96) Xc63 hx (15 : Int32) (hb hby at_94) rfl rfl ?_
        refine ow_iand (q := 97) Xc63 hx _ (hb hby at_96) rfl rfl ?_
        refine ow_goto (q := 104) Xc63 hx (hb hby at_97) (by decide) (by decide) ?_
        generalize hv_v66 : (p3 &&& (15 : Int32)) = v66
        refine ow_istore (q := 106) Xc63 hx (L' := #[iv p0, iv p1, iv p2, iv p3, iv p4, iv (1 : Int32), iv v10, iv v11, iv v12, iv ma, iv mb, iv sm, iv v66, .unset, .unset, .unset, .unset, .unset]) (hb hby at_104) rfl rfl ?_
        exact cut106_13 ma mb sm v66 _ _ Xc63 ec63 Nc63 (own_fr15 hv_v66)
    have cut74_67 : ∀ (ma : Int32) (mb : Int32) (Tc67 : State) (lc67 : List Loc), Stand p l e room_1 s m #[(.int p0), (.int p1), (.int p2), (.int p3), (.int p4)] below meth c Tc67 lc67 0 0 → Tc67.heap = h0 → Fr n0 lc67 → ownEnds p e below s (Q_law Z p0 p1 p2 p3 p4 h0 n0) 16 128 Tc67 (mkF m 74 #[iv p0, iv p1, iv p2, iv p3, iv p4, iv (1 : Int32), iv v10, iv v11, iv v12, iv ma, iv mb, .unset, .unset, .unset, .unset, .unset, .unset, .unset] []) := by
      intro ma mb Tc67 lc67 Xc67 ec67 Nc67
      refine ow_iload (q := 76) Xc67 hx (hb hby at_74) rfl rfl ?_
      refine ow_iconst (q := 77) Xc67 hx (4 : Int32) (hb hby at_76) rfl rfl ?_
      refine ow_iand (q := 78) Xc67 hx _ (hb hby at_77) rfl rfl ?_
      by_cases hc78_68 : (p4 &&& (4 : Int32)) = (0 : Int32)
      · refine ow_ifYes (q := 85) Xc67 hx (hb hby at_78) (Jvm.Free.XT.i0_eq_t hc78_68) (by decide) (by decide) ?_
        refine ow_iconst (q := 86) Xc67 hx (0 : Int32) (hb hby at_85) rfl rfl ?_
        refine ow_istore (q := 88) Xc67 hx (L' := #[iv p0, iv p1, iv p2, iv p3, iv p4, iv (1 : Int32), iv v10, iv v11, iv v12, iv ma, iv mb, iv (0 : Int32), .unset, .unset, .unset, .unset, .unset, .unset]) (hb hby at_86) rfl rfl ?_
        exact cut88_63 ma mb (0 : Int32) _ _ Xc67 ec67 Nc67 
      · refine ow_ifNo (q := 81) Xc67 hx (hb hby at_78) rfl (Jvm.Free.XT.i0_eq_f hc78_68) ?_
        refine ow_iconst (q := 82) Xc67 hx (1 : Int32) (hb hby at_81) rfl rfl ?_
        refine ow_goto (q := 86) Xc67 hx (hb hby at_82) (by decide) (by decide) ?_
        refine ow_istore (q := 88) Xc67 hx (L' := #[iv p0, iv p1, iv p2, iv p3, iv p4, iv (1 : Int32), iv v10, iv v11, iv v12, iv ma, iv mb, iv (1 : Int32), .unset, .unset, .unset, .unset, .unset, .unset]) (hb hby at_86) rfl rfl ?_
        exact cut88_63 ma mb (1 : Int32) _ _ Xc67 ec67 Nc67 
    have cut60_69 : ∀ (ma : Int32) (Tc69 : State) (lc69 : List Loc), Stand p l e room_1 s m #[(.int p0), (.int p1), (.int p2), (.int p3), (.int p4)] below meth c Tc69 lc69 0 0 → Tc69.heap = h0 → Fr n0 lc69 → ownEnds p e below s (Q_law Z p0 p1 p2 p3 p4 h0 n0) 16 128 Tc69 (mkF m 60 #[iv p0, iv p1, iv p2, iv p3, iv p4, iv (1 : Int32), iv v10, iv v11, iv v12, iv ma, .unset, .unset, .unset, .unset, .unset, .unset, .unset, .unset] []) := by
      intro ma Tc69 lc69 Xc69 ec69 Nc69
      refine ow_iload (q := 62) Xc69 hx (hb hby at_60) rfl rfl ?_
      refine ow_iconst (q := 63) Xc69 hx (2 : Int32) (hb hby at_62) rfl rfl ?_
      refine ow_iand (q := 64) Xc69 hx _ (hb hby at_63) rfl rfl ?_
      by_cases hc64_70 : (p4 &&& (2 : Int32)) = (0 : Int32)
      · refine ow_ifYes (q := 71) Xc69 hx (hb hby at_64) (Jvm.Free.XT.i0_eq_t hc64_70) (by decide) (by decide) ?_
        refine ow_iconst (q := 72) Xc69 hx (0 : Int32) (hb hby at_71) rfl rfl ?_
        refine ow_istore (q := 74) Xc69 hx (L' := #[iv p0, iv p1, iv p2, iv p3, iv p4, iv (1 : Int32), iv v10, iv v11, iv v12, iv ma, iv (0 : Int32), .unset, .unset, .unset, .unset, .unset, .unset, .unset]) (hb hby at_72) rfl rfl ?_
        exact cut74_67 ma (0 : Int32) _ _ Xc69 ec69 Nc69 
      · refine ow_ifNo (q := 67) Xc69 hx (hb hby at_64) rfl (Jvm.Free.XT.i0_eq_f hc64_70) ?_
        refine ow_iconst (q := 68) Xc69 hx (1 : Int32) (hb hby at_67) rfl rfl ?_
        refine ow_goto (q := 72) Xc69 hx (hb hby at_68) (by decide) (by decide) ?_
        refine ow_istore (q := 74) Xc69 hx (L' := #[iv p0, iv p1, iv p2, iv p3, iv p4, iv (1 : Int32), iv v10, iv v11, iv v12, iv ma, iv (1 : Int32), .unset, .unset, .unset, .unset, .unset, .unset, .unset]) (hb hby at_72) rfl rfl ?_
        exact cut74_67 ma (1 : Int32) _ _ Xc69 ec69 Nc69 
    refine ow_iload (q := 48) X0 hx (hb hby at_46) rfl rfl ?_
    refine ow_iconst (q := 49) X0 hx (1 : Int32) (hb hby at_48) rfl rfl ?_
    refine ow_iand (q := 50) X0 hx _ (hb hby at_49) rfl rfl ?_
    by_cases hc50_71 : (p4 &&& (1 : Int32)) = (0 : Int32)
    · refine ow_ifYes (q := 57) X0 hx (hb hby at_50) (Jvm.Free.XT.i0_eq_t hc50_71) (by decide) (by decide) ?_
      refine ow_iconst (q := 58) X0 hx (0 : Int32) (hb hby at_57) rfl rfl ?_
      refine ow_istore (q := 60) X0 hx (L' := #[iv p0, iv p1, iv p2, iv p3, iv p4, iv (1 : Int32), iv v10, iv v11, iv v12, iv (0 : Int32), .unset, .unset, .unset, .unset, .unset, .unset, .unset, .unset]) (hb hby at_58) rfl rfl ?_
      exact cut60_69 (0 : Int32) _ _ X0 e0 N0 
    · refine ow_ifNo (q := 53) X0 hx (hb hby at_50) rfl (Jvm.Free.XT.i0_eq_f hc50_71) ?_
      refine ow_iconst (q := 54) X0 hx (1 : Int32) (hb hby at_53) rfl rfl ?_
      refine ow_goto (q := 58) X0 hx (hb hby at_54) (by decide) (by decide) ?_
      refine ow_istore (q := 60) X0 hx (L' := #[iv p0, iv p1, iv p2, iv p3, iv p4, iv (1 : Int32), iv v10, iv v11, iv v12, iv (1 : Int32), .unset, .unset, .unset, .unset, .unset, .unset, .unset, .unset]) (hb hby at_58) rfl rfl ?_
      exact cut60_69 (1 : Int32) _ _ X0 e0 N0 
  · subst hs3
    refine ow_iload (q := 10) X0 hx (hb hby at_8) rfl rfl ?_
    refine ow_iconst (q := 11) X0 hx (1 : Int32) (hb hby at_10) rfl rfl ?_
    refine ow_isub (q := 12) X0 hx (1 : Int32) (hb hby at_11) rfl (by decide) ?_
    refine ow_sipush (q := 15) X0 hx (1024 : Int32) (hb hby at_12) rfl rfl ?_
    refine ow_imul (q := 16) X0 hx (1024 : Int32) (hb hby at_15) rfl (by decide) ?_
    refine ow_iconst (q := 17) X0 hx (1 : Int32) (hb hby at_16) rfl rfl ?_
    refine ow_iadd (q := 18) X0 hx (1025 : Int32) (hb hby at_17) rfl (by decide) ?_
    refine ow_iloadN (q := 19) X0 hx (hb hby at_18) rfl rfl ?_
    refine ow_iconst (q := 20) X0 hx (3 : Int32) (hb hby at_19) rfl rfl ?_
    refine ow_iushr (q := 21) X0 hx _ (hb hby at_20) rfl rfl ?_
    refine ow_sipush (q := 24) X0 hx (1023 : Int32) (hb hby at_21) rfl rfl ?_
    refine ow_iand (q := 25) X0 hx _ (hb hby at_24) rfl rfl ?_
    refine ow_iadd (q := 26) X0 hx _ (hb hby at_25) rfl rfl ?_
    generalize hv_v72 : ((1025 : Int32) + (((p0.toUInt32 >>> ((3 : Int32) &&& 31).toUInt32).toInt32) &&& (1023 : Int32))) = v72
    refine ow_istore (q := 28) X0 hx (L' := #[iv p0, iv p1, iv p2, iv p3, iv p4, iv (2 : Int32), iv v72, .unset, .unset, .unset, .unset, .unset, .unset, .unset, .unset, .unset, .unset, .unset]) (hb hby at_26) rfl rfl ?_
    refine ow_iloadN (q := 29) X0 hx (hb hby at_28) rfl rfl ?_
    refine ownGo (T' := s₁) (f' := (mkF m 31 #[iv p0, iv p1, iv p2, iv p3, iv p4, iv (2 : Int32), iv v72, .unset, .unset, .unset, .unset, .unset, .unset, .unset, .unset, .unset, .unset, .unset] [(.int (2147483647 : Int32)), (.int p1)])) (X0.ldcInt hx hown (mvT hZ (hw _ (List.mem_of_getElem? (i := 0) rfl))) (g := (mkF m 29 #[iv p0, iv p1, iv p2, iv p3, iv p4, iv (2 : Int32), iv v72, .unset, .unset, .unset, .unset, .unset, .unset, .unset, .unset, .unset, .unset, .unset] [(.int p1)])) rfl (hb hby at_29)) ?_
    refine ow_iand (q := 32) X0 hx _ (hb hby at_31) rfl rfl ?_
    refine ow_iload (q := 34) X0 hx (hb hby at_32) rfl rfl ?_
    refine ow_irem (q := 35) X0 hx _ (hb hby at_34) rfl (own_nzc hv_v72) rfl ?_
    generalize hv_v73 : ((p1 &&& (2147483647 : Int32)) % v72) = v73
    refine ow_istore (q := 37) X0 hx (L' := #[iv p0, iv p1, iv p2, iv p3, iv p4, iv (2 : Int32), iv v72, iv v73, .unset, .unset, .unset, .unset, .unset, .unset, .unset, .unset, .unset, .unset]) (hb hby at_35) rfl rfl ?_
    refine ow_iloadN (q := 38) X0 hx (hb hby at_37) rfl rfl ?_
    refine ownGo (T' := s₁) (f' := (mkF m 40 #[iv p0, iv p1, iv p2, iv p3, iv p4, iv (2 : Int32), iv v72, iv v73, .unset, .unset, .unset, .unset, .unset, .unset, .unset, .unset, .unset, .unset] [(.int (2147483647 : Int32)), (.int p2)])) (X0.ldcInt hx hown (mvT hZ (hw _ (List.mem_of_getElem? (i := 0) rfl))) (g := (mkF m 38 #[iv p0, iv p1, iv p2, iv p3, iv p4, iv (2 : Int32), iv v72, iv v73, .unset, .unset, .unset, .unset, .unset, .unset, .unset, .unset, .unset, .unset] [(.int p2)])) rfl (hb hby at_38)) ?_
    refine ow_iand (q := 41) X0 hx _ (hb hby at_40) rfl rfl ?_
    refine ow_iload (q := 43) X0 hx (hb hby at_41) rfl rfl ?_
    refine ow_irem (q := 44) X0 hx _ (hb hby at_43) rfl (own_nzc hv_v72) rfl ?_
    generalize hv_v74 : ((p2 &&& (2147483647 : Int32)) % v72) = v74
    refine ow_istore (q := 46) X0 hx (L' := #[iv p0, iv p1, iv p2, iv p3, iv p4, iv (2 : Int32), iv v72, iv v73, iv v74, .unset, .unset, .unset, .unset, .unset, .unset, .unset, .unset, .unset]) (hb hby at_44) rfl rfl ?_
    have cut106_75 : ∀ (ma : Int32) (mb : Int32) (sm : Int32) (fr : Int32) (Tc75 : State) (lc75 : List Loc), Stand p l e room_1 s m #[(.int p0), (.int p1), (.int p2), (.int p3), (.int p4)] below meth c Tc75 lc75 0 0 → Tc75.heap = h0 → Fr n0 lc75 → (0 ≤ fr.toInt) → ownEnds p e below s (Q_law Z p0 p1 p2 p3 p4 h0 n0) 16 128 Tc75 (mkF m 106 #[iv p0, iv p1, iv p2, iv p3, iv p4, iv (2 : Int32), iv v72, iv v73, iv v74, iv ma, iv mb, iv sm, iv fr, .unset, .unset, .unset, .unset, .unset] []) := by
      intro ma mb sm fr Tc75 lc75 Xc75 ec75 Nc75 hfr
      obtain ⟨T76, h76, X76, e76, E76, A76, D76, -, st76⟩ := newO Xc75 hx hZ hown (hw _ (List.mem_of_getElem? (i := 1) rfl)) (hw _ (List.mem_of_getElem? (i := 2) rfl)) (hw _ (List.mem_of_getElem? (i := 3) rfl)) ec75 (g := (mkF m 106 #[iv p0, iv p1, iv p2, iv p3, iv p4, iv (2 : Int32), iv v72, iv v73, iv v74, iv ma, iv mb, iv sm, iv fr, .unset, .unset, .unset, .unset, .unset] [])) rfl (hb hby at_106) (by decide) (by decide)
      obtain ⟨b76, g76⟩ : ∃ z, z = h0.size := ⟨_, rfl⟩
      rw [← g76] at A76 D76 st76
      have sz_b76 : h0.size ≤ b76 := Nat.le_trans K0.1 (Nat.le_of_eq g76.symm)
      have G_b76 : n0 ≤ b76 := Nat.le_trans Z0 sz_b76
      have K76 : Keep h0 h76 [] := K0.ext E76
      have F77 : Sta Z h76 "com/example/swarm_tally/swarmtally/ChunkMarks" "CHUNK_SHIFT" "I" (.int (10 : Int32)) := HF0.ext E76
      have F78 : Fld Z h76 b76 "com/example/swarm_tally/swarmtally/ChunkMarks" "changed" "[Z" .null := D76 (Or.inl (hw _ (List.mem_of_getElem? (i := 12) rfl))) (ty := (.array .boolean)) (by decide)
      refine ownGo (T' := T76) (f' := (mkF m 109 #[iv p0, iv p1, iv p2, iv p3, iv p4, iv (2 : Int32), iv v72, iv v73, iv v74, iv ma, iv mb, iv sm, iv fr, .unset, .unset, .unset, .unset, .unset] [(.ref b76)])) (st76) ?_
      refine ow_dup (q := 110) X76 hx (hb hby at_109) rfl rfl ?_
      obtain ⟨_, _, ⟨T79, L79, k79, n79⟩, -, X79, ⟨Lc79, hQ79, l79, y79, z79⟩, st79⟩ := X76.specialBack hx (y := (⟨"com/example/swarm_tally/swarmtally/ChunkMarks", "<init>", "()V"⟩ : MethodName)) rfl hown (mvT hZ (hw _ (List.mem_of_getElem? (i := 4) rfl))) (mvT hZ (hw _ (List.mem_of_getElem? (i := 5) rfl))) (mvT hZ (hw _ (List.mem_of_getElem? (i := 6) rfl))) (by decide) (backOf (W := 1) (rm_init l Z av0 hw [] b76 h76 n0 (Nat.le_trans Z0 K76.1) A76 F78 G_b76) hZ (hw _ (List.mem_of_getElem? (i := 6) rfl)) (hw _ (List.mem_of_getElem? (i := 3) rfl)) (by decide) (by decide)) (g := (mkF m 110 #[iv p0, iv p1, iv p2, iv p3, iv p4, iv (2 : Int32), iv v72, iv v73, iv v74, iv ma, iv mb, iv sm, iv fr, .unset, .unset, .unset, .unset, .unset] [(.ref b76), (.ref b76)])) rfl (by rw [hml]; rfl) (Steps.refl _) (a := b76) (argsL := []) (rest := [(.ref b76)]) (lenOf own_pd2 rfl) rfl (by show 2 * 0 + _ ≤ _; exact Nat.le_of_eq rfl) (hb hby at_110) (fun _ _ => ⟨rfl, e76, (by decide : 1 + 1 ≤ _), (by decide : 1 + 1 ≤ _)⟩)
      dsimp only [Pt.U, Pt.locs, Pt.cells, Pt.slots] at X79 l79 y79 z79 st79 hQ79
      subst l79 y79 z79
      obtain ⟨ar_79, rfl, N79q, Kq79, sq79_ar_79, FP79_0, FP79_1, FP79_2⟩ := hQ79
      have N79 := Fr.app Nc75 N79q
      have K79 : Keep h0 T79.heap [] := K76.trans Kq79 (allS (Or.inr sz_b76) all0)
      have ne_b76_ar_79 : b76 ≠ ar_79 := Nat.ne_of_lt (Nat.lt_of_lt_of_le A76.lt sq79_ar_79)
      have sz_ar_79 : h0.size ≤ ar_79 := Nat.le_trans K76.1 sq79_ar_79
      have G_ar_79 : n0 ≤ ar_79 := Nat.le_trans Z0 sz_ar_79
      have F80 : Sta Z T79.heap "com/example/swarm_tally/swarmtally/ChunkMarks" "CHUNK_SHIFT" "I" (.int (10 : Int32)) := ownStaKeep F77 Kq79 (allS (ownNstE A76) all0)
      have F81 : Exa Z T79.heap b76 "com/example/swarm_tally/swarmtally/ChunkMarks" := A76.keep Kq79
      refine ownRun (T' := T79) (f' := (mkF m 113 #[iv p0, iv p1, iv p2, iv p3, iv p4, iv (2 : Int32), iv v72, iv v73, iv v74, iv ma, iv mb, iv sm, iv fr, .unset, .unset, .unset, .unset, .unset] [(.ref b76)])) st79 ?_
      refine ow_astore (q := 115) X79 hx (L' := #[iv p0, iv p1, iv p2, iv p3, iv p4, iv (2 : Int32), iv v72, iv v73, iv v74, iv ma, iv mb, iv sm, iv fr, rv b76, .unset, .unset, .unset, .unset]) (hb hby at_113) rfl rfl rfl ?_
      refine ow_aload (q := 117) X79 hx (hb hby at_115) rfl rfl rfl ?_
      refine ow_iload (q := 119) X79 hx (hb hby at_117) rfl rfl ?_
      obtain ⟨cq82, kq82, q82a, q82b, q82c⟩ := isOf hZ rfl FP79_0
      obtain ⟨_, _, ⟨T82, L82, k82, n82⟩, -, X82, ⟨Lc82, hQ82, l82, y82, z82⟩, st82⟩ := X79.virtualBack hx (y := (⟨"com/example/swarm_tally/swarmtally/ChunkMarks", "grow", "(I)V"⟩ : MethodName)) (z := (⟨"com/example/swarm_tally/swarmtally/ChunkMarks", "grow", "(I)V"⟩ : MethodName)) hown (mvT hZ (hw _ (List.mem_of_getElem? (i := 13) rfl))) (mvT hZ (hw _ (List.mem_of_getElem? (i := 14) rfl))) (notFace_of_selects (args := #[]) (mvT hZ (hw _ (List.mem_of_getElem? (i := 16) rfl)))) (mvT hZ (hw _ (List.mem_of_getElem? (i := 16) rfl))) (mvT hZ (hw _ (List.mem_of_getElem? (i := 15) rfl))) (by decide) (backOf (W := 0) (rm_grow_2 l Z av0 hw [] b76 v72 ar_79 T79.heap n0 (Nat.le_trans Z0 K79.1) FP79_0 FP79_1 FP79_2 F80 G_b76 (own_chunk2 hv_v72) ne_b76_ar_79) hZ (hw _ (List.mem_of_getElem? (i := 17) rfl)) (hw _ (List.mem_of_getElem? (i := 3) rfl)) (by decide) (by decide)) q82a q82c (g := (mkF m 119 #[iv p0, iv p1, iv p2, iv p3, iv p4, iv (2 : Int32), iv v72, iv v73, iv v74, iv ma, iv mb, iv sm, iv fr, rv b76, .unset, .unset, .unset, .unset] [(.int v72), (.ref b76)])) rfl (by rw [hml]; rfl) (Steps.refl _) (argsL := [(.int v72)]) (rest := []) (lenOf own_pd3 rfl) rfl (by show 2 * 0 + _ ≤ _; exact Nat.le_of_eq rfl) (hb hby at_119) (fun _ _ => ⟨rfl, rfl, (by decide : 2 + 1 ≤ _), (by decide : 2 + 2 ≤ _)⟩)
      dsimp only [Pt.U, Pt.locs, Pt.cells, Pt.slots] at X82 l82 y82 z82 st82 hQ82
      subst l82 y82 z82
      obtain ⟨ar2_82, rfl, N82q, Kq82, sq82_ar2_82, FP82_0, FP82_1, FP82_2⟩ := hQ82
      have N82 := Fr.app N79 N82q
      have K82 : Keep h0 T82.heap [] := K79.trans Kq82 (allS (Or.inr sz_b76) all0)
      have ne_b76_ar2_82 : b76 ≠ ar2_82 := Nat.ne_of_lt (Nat.lt_of_lt_of_le FP79_0.lt sq82_ar2_82)
      have ne_ar_79_ar2_82 : ar_79 ≠ ar2_82 := Nat.ne_of_lt (Nat.lt_of_lt_of_le FP79_2.lt sq82_ar2_82)
      have sz_ar2_82 : h0.size ≤ ar2_82 := Nat.le_trans K79.1 sq82_ar2_82
      have G_ar2_82 : n0 ≤ ar2_82 := Nat.le_trans Z0 sz_ar2_82
      have F83 : Sta Z T82.heap "com/example/swarm_tally/swarmtally/ChunkMarks" "CHUNK_SHIFT" "I" (.int (10 : Int32)) := ownStaKeep F80 Kq82 (allS (ownNstE FP79_0) all0)
      have F84 : Exa Z T82.heap b76 "com/example/swarm_tally/swarmtally/ChunkMarks" := FP79_0.keep Kq82
      have F85 : ownAI Z T82.heap ar_79 .boolean 1 (fun _ => (0 : Int32)) := FP79_2.keep Kq82 (ninS (Ne.symm ne_b76_ar_79) nin0)
      refine ownRun (T' := T82) (f' := (mkF m 122 #[iv p0, iv p1, iv p2, iv p3, iv p4, iv (2 : Int32), iv v72, iv v73, iv v74, iv ma, iv mb, iv sm, iv fr, rv b76, .unset, .unset, .unset, .unset] [])) st82 ?_
      refine ow_iload (q := 124) X82 hx (hb hby at_122) rfl rfl ?_
      by_cases hc124_86 : ma = (0 : Int32)
      · refine ow_ifYes (q := 134) X82 hx (hb hby at_124) (Jvm.Free.XT.i0_eq_t hc124_86) (by decide) (by decide) ?_
        refine ow_iload (q := 136) X82 hx (hb hby at_134) rfl rfl ?_
        by_cases hc136_87 : mb = (0 : Int32)
        · refine ow_ifYes (q := 146) X82 hx (hb hby at_136) (Jvm.Free.XT.i0_eq_t hc136_87) (by decide) (by decide) ?_
          refine ow_aload (q := 148) X82 hx (hb hby at_146) rfl rfl rfl ?_
          refine ow_iload (q := 150) X82 hx (hb hby at_148) rfl rfl ?_
          obtain ⟨cq88, kq88, q88a, q88b, q88c⟩ := isOf hZ rfl FP82_0
          obtain ⟨_, _, ⟨T88, L88, k88, n88⟩, -, X88, ⟨Lc88, hQ88, l88, y88, z88⟩, st88⟩ := X82.virtualBack hx (y := (⟨"com/example/swarm_tally/swarmtally/ChunkMarks", "next", "(I)I"⟩ : MethodName)) (z := (⟨"com/example/swarm_tally/swarmtally/ChunkMarks", "next", "(I)I"⟩ : MethodName)) hown (mvT hZ (hw _ (List.mem_of_getElem? (i := 20) rfl))) (mvT hZ (hw _ (List.mem_of_getElem? (i := 21) rfl))) (notFace_of_selects (args := #[]) (mvT hZ (hw _ (List.mem_of_getElem? (i := 23) rfl)))) (mvT hZ (hw _ (List.mem_of_getElem? (i := 23) rfl))) (mvT hZ (hw _ (List.mem_of_getElem? (i := 22) rfl))) (by decide) (backOf (W := 0) (rm_next_2 l Z av0 hw [] b76 fr ar2_82 (fun _ => (0 : Int32)) T82.heap n0 (Nat.le_trans Z0 K82.1) FP82_1 FP82_2 hfr) hZ (hw _ (List.mem_of_getElem? (i := 24) rfl)) (hw _ (List.mem_of_getElem? (i := 3) rfl)) (by decide) (by decide)) q88a q88c (g := (mkF m 150 #[iv p0, iv p1, iv p2, iv p3, iv p4, iv (2 : Int32), iv v72, iv v73, iv v74, iv ma, iv mb, iv sm, iv fr, rv b76, .unset, .unset, .unset, .unset] [(.int fr), (.ref b76)])) rfl (by rw [hml]; rfl) (Steps.refl _) (argsL := [(.int fr)]) (rest := []) (lenOf own_pd4 rfl) rfl (by show 2 * 0 + _ ≤ _; exact Nat.le_of_eq rfl) (hb hby at_150) (fun _ _ => ⟨rfl, rfl, (by decide : 3 + 0 ≤ _), (by decide : 4 + 0 ≤ _)⟩)
          dsimp only [Pt.U, Pt.locs, Pt.cells, Pt.slots] at X88 l88 y88 z88 st88 hQ88
          subst l88 y88 z88
          obtain ⟨rfl, N88q, e88⟩ := hQ88
          have N88 := Fr.app N82 N88q
          refine ownRun (T' := T88) (f' := (mkF m 153 #[iv p0, iv p1, iv p2, iv p3, iv p4, iv (2 : Int32), iv v72, iv v73, iv v74, iv ma, iv mb, iv sm, iv fr, rv b76, .unset, .unset, .unset, .unset] [(.int (own_next (fun _ => (0 : Int32)) 2 fr))])) st88 ?_
          generalize hv_v89 : (own_next (fun _ => (0 : Int32)) 2 fr) = v89
          refine ow_istore (q := 155) X88 hx (L' := #[iv p0, iv p1, iv p2, iv p3, iv p4, iv (2 : Int32), iv v72, iv v73, iv v74, iv ma, iv mb, iv sm, iv fr, rv b76, iv v89, .unset, .unset, .unset]) (hb hby at_153) rfl rfl ?_
          refine ow_iload (q := 157) X88 hx (hb hby at_155) rfl rfl ?_
          refine ow_sipush (q := 160) X88 hx (1024 : Int32) (hb hby at_157) rfl rfl ?_
          refine ow_idiv (q := 161) X88 hx _ (hb hby at_160) rfl (by decide) rfl ?_
          generalize hv_v90 : (v73 / (1024 : Int32)) = v90
          refine ow_istore (q := 163) X88 hx (L' := #[iv p0, iv p1, iv p2, iv p3, iv p4, iv (2 : Int32), iv v72, iv v73, iv v74, iv ma, iv mb, iv sm, iv fr, rv b76, iv v89, iv v90, .unset, .unset]) (hb hby at_161) rfl rfl ?_
          refine ow_iload (q := 165) X88 hx (hb hby at_163) rfl rfl ?_
          refine ow_sipush (q := 168) X88 hx (1024 : Int32) (hb hby at_165) rfl rfl ?_
          refine ow_idiv (q := 169) X88 hx _ (hb hby at_168) rfl (by decide) rfl ?_
          generalize hv_v91 : (v74 / (1024 : Int32)) = v91
          refine ow_istore (q := 171) X88 hx (L' := #[iv p0, iv p1, iv p2, iv p3, iv p4, iv (2 : Int32), iv v72, iv v73, iv v74, iv ma, iv mb, iv sm, iv fr, rv b76, iv v89, iv v90, iv v91, .unset]) (hb hby at_169) rfl rfl ?_
          refine ow_iconst (q := 172) X88 hx (-1 : Int32) (hb hby at_171) rfl rfl ?_
          refine ow_istore (q := 174) X88 hx (L' := #[iv p0, iv p1, iv p2, iv p3, iv p4, iv (2 : Int32), iv v72, iv v73, iv v74, iv ma, iv mb, iv sm, iv fr, rv b76, iv v89, iv v90, iv v91, iv (-1 : Int32)]) (hb hby at_172) rfl rfl ?_
          have cut218_92 : ∀ (be : Int32) (Tc92 : State) (lc92 : List Loc), Stand p l e room_1 s m #[(.int p0), (.int p1), (.int p2), (.int p3), (.int p4)] below meth c Tc92 lc92 3 4 → Tc92.heap = T82.heap → Fr n0 lc92 → (be = own_best ma mb v90 v91 fr) → ownEnds p e below s (Q_law Z p0 p1 p2 p3 p4 h0 n0) 16 128 Tc92 (mkF m 218 #[iv p0, iv p1, iv p2, iv p3, iv p4, iv (2 : Int32), iv v72, iv v73, iv v74, iv ma, iv mb, iv sm, iv fr, rv b76, iv v89, iv v90, iv v91, iv be] []) := by
            intro be Tc92 lc92 Xc92 ec92 Nc92 hbe
            refine ow_iload (q := 220) Xc92 hx (hb hby at_218) rfl rfl ?_
            refine ow_iload (q := 222) Xc92 hx (hb hby at_220) rfl rfl ?_
            refine ow_icmpNo (q := 225) Xc92 hx (hb hby at_222) rfl (Jvm.Free.XT.ii_ne_f (by rw [hbe, ← hv_v89]; exact own_final (own_g00 hc124_86 hc136_87) (own_ca (own_a (n := 2) hv_v73 hv_v72) hv_v90) (own_ca (own_a (n := 2) hv_v74 hv_v72) hv_v91) (own_il (own_a (n := 2) hv_v73 hv_v72)) (own_il (own_a (n := 2) hv_v74 hv_v72)) hfr)) ?_
            refine ow_iconst (q := 226) Xc92 hx (1 : Int32) (hb hby at_225) rfl rfl ?_
            refine ow_goto (q := 230) Xc92 hx (hb hby at_226) (by decide) (by decide) ?_
            refine ownRetN Xc92 hx (r := (1 : Int32)) (Or.inl rfl) Bd.returns (hb hby at_230) hlk (by decide) (by decide) (by decide) ?_
            exact ⟨rfl, Nc92⟩
          refine ow_iload (q := 176) X88 hx (hb hby at_174) rfl rfl ?_
          refine ow_ifYes (q := 190) X88 hx (hb hby at_176) (Jvm.Free.XT.i0_eq_t hc124_86) (by decide) (by decide) ?_
          refine ow_iload (q := 192) X88 hx (hb hby at_190) rfl rfl ?_
          refine ow_ifYes (q := 218) X88 hx (hb hby at_192) (Jvm.Free.XT.i0_eq_t hc136_87) (by decide) (by decide) ?_
          exact cut218_92 (-1 : Int32) _ _ X88 e88 N88 (by simp [own_best, hc124_86, hc136_87])
        · refine ow_ifNo (q := 139) X82 hx (hb hby at_136) rfl (Jvm.Free.XT.i0_eq_f hc136_87) ?_
          refine ow_aload (q := 141) X82 hx (hb hby at_139) rfl rfl rfl ?_
          refine ow_iload (q := 143) X82 hx (hb hby at_141) rfl rfl ?_
          obtain ⟨cq93, kq93, q93a, q93b, q93c⟩ := isOf hZ rfl FP82_0
          obtain ⟨_, _, ⟨T93, L93, k93, n93⟩, -, X93, ⟨Lc93, hQ93, l93, y93, z93⟩, st93⟩ := X82.virtualBack hx (y := (⟨"com/example/swarm_tally/swarmtally/ChunkMarks", "mark", "(I)V"⟩ : MethodName)) (z := (⟨"com/example/swarm_tally/swarmtally/ChunkMarks", "mark", "(I)V"⟩ : MethodName)) hown (mvT hZ (hw _ (List.mem_of_getElem? (i := 37) rfl))) (mvT hZ (hw _ (List.mem_of_getElem? (i := 38) rfl))) (notFace_of_selects (args := #[]) (mvT hZ (hw _ (List.mem_of_getElem? (i := 40) rfl)))) (mvT hZ (hw _ (List.mem_of_getElem? (i := 40) rfl))) (mvT hZ (hw _ (List.mem_of_getElem? (i := 39) rfl))) (by decide) (backOf (W := 0) (rm_mark_2 l Z av0 hw [] b76 v74 ar2_82 (fun _ => (0 : Int32)) T82.heap n0 (Nat.le_trans Z0 K82.1) FP82_1 FP82_2 F83 G_ar2_82 (own_in (own_a (n := 2) hv_v74 hv_v72)) ne_b76_ar2_82) hZ (hw _ (List.mem_of_getElem? (i := 41) rfl)) (hw _ (List.mem_of_getElem? (i := 3) rfl)) (by decide) (by decide)) q93a q93c (g := (mkF m 143 #[iv p0, iv p1, iv p2, iv p3, iv p4, iv (2 : Int32), iv v72, iv v73, iv v74, iv ma, iv mb, iv sm, iv fr, rv b76, .unset, .unset, .unset, .unset] [(.int v74), (.ref b76)])) rfl (by rw [hml]; rfl) (Steps.refl _) (argsL := [(.int v74)]) (rest := []) (lenOf own_pd3 rfl) rfl (by show 2 * 0 + _ ≤ _; exact Nat.le_of_eq rfl) (hb hby at_143) (fun _ _ => ⟨rfl, rfl, (by decide : 3 + 0 ≤ _), (by decide : 4 + 0 ≤ _)⟩)
          dsimp only [Pt.U, Pt.locs, Pt.cells, Pt.slots] at X93 l93 y93 z93 st93 hQ93
          subst l93 y93 z93
          obtain ⟨rfl, N93q, Kq93, FP93_0⟩ := hQ93
          have N93 := Fr.app N82 N93q
          have K93 : Keep h0 T93.heap [] := K82.trans Kq93 (allS (Or.inr sz_ar2_82) all0)
          have F94 : Sta Z T93.heap "com/example/swarm_tally/swarmtally/ChunkMarks" "CHUNK_SHIFT" "I" (.int (10 : Int32)) := ownStaKeep F83 Kq93 (allS (ownNstI FP82_2) all0)
          have F95 : Exa Z T93.heap b76 "com/example/swarm_tally/swarmtally/ChunkMarks" := FP82_0.keep Kq93
          have F96 : ownAI Z T93.heap ar_79 .boolean 1 (fun _ => (0 : Int32)) := F85.keep Kq93 (ninS ne_ar_79_ar2_82 nin0)
          have F97 : Fld Z T93.heap b76 "com/example/swarm_tally/swarmtally/ChunkMarks" "changed" "[Z" (.ref ar2_82) := FP82_1.keep Kq93 (ninS ne_b76_ar2_82 nin0)
          refine ownRun (T' := T93) (f' := (mkF m 146 #[iv p0, iv p1, iv p2, iv p3, iv p4, iv (2 : Int32), iv v72, iv v73, iv v74, iv ma, iv mb, iv sm, iv fr, rv b76, .unset, .unset, .unset, .unset] [])) st93 ?_
          refine ow_aload (q := 148) X93 hx (hb hby at_146) rfl rfl rfl ?_
          refine ow_iload (q := 150) X93 hx (hb hby at_148) rfl rfl ?_
          obtain ⟨cq98, kq98, q98a, q98b, q98c⟩ := isOf hZ rfl F95
          obtain ⟨_, _, ⟨T98, L98, k98, n98⟩, -, X98, ⟨Lc98, hQ98, l98, y98, z98⟩, st98⟩ := X93.virtualBack hx (y := (⟨"com/example/swarm_tally/swarmtally/ChunkMarks", "next", "(I)I"⟩ : MethodName)) (z := (⟨"com/example/swarm_tally/swarmtally/ChunkMarks", "next", "(I)I"⟩ : MethodName)) hown (mvT hZ (hw _ (List.mem_of_getElem? (i := 20) rfl))) (mvT hZ (hw _ (List.mem_of_getElem? (i := 21) rfl))) (notFace_of_selects (args := #[]) (mvT hZ (hw _ (List.mem_of_getElem? (i := 23) rfl)))) (mvT hZ (hw _ (List.mem_of_getElem? (i := 23) rfl))) (mvT hZ (hw _ (List.mem_of_getElem? (i := 22) rfl))) (by decide) (backOf (W := 0) (rm_next_2 l Z av0 hw [] b76 fr ar2_82 (ownUpd (fun _ => (0 : Int32)) (own_ix v74) (1 : Int32)) T93.heap n0 (Nat.le_trans Z0 K93.1) F97 FP93_0 hfr) hZ (hw _ (List.mem_of_getElem? (i := 24) rfl)) (hw _ (List.mem_of_getElem? (i := 3) rfl)) (by decide) (by decide)) q98a q98c (g := (mkF m 150 #[iv p0, iv p1, iv p2, iv p3, iv p4, iv (2 : Int32), iv v72, iv v73, iv v74, iv ma, iv mb, iv sm, iv fr, rv b76, .unset, .unset, .unset, .unset] [(.int fr), (.ref b76)])) rfl (by rw [hml]; rfl) (Steps.refl _) (argsL := [(.int fr)]) (rest := []) (lenOf own_pd4 rfl) rfl (by show 2 * 0 + _ ≤ _; exact Nat.le_of_eq rfl) (hb hby at_150) (fun _ _ => ⟨rfl, rfl, (by decide : 3 + 0 ≤ _), (by decide : 4 + 0 ≤ _)⟩)
          dsimp only [Pt.U, Pt.locs, Pt.cells, Pt.slots] at X98 l98 y98 z98 st98 hQ98
          subst l98 y98 z98
          obtain ⟨rfl, N98q, e98⟩ := hQ98
          have N98 := Fr.app N93 N98q
          refine ownRun (T' := T98) (f' := (mkF m 153 #[iv p0, iv p1, iv p2, iv p3, iv p4, iv (2 : Int32), iv v72, iv v73, iv v74, iv ma, iv mb, iv sm, iv fr, rv b76, .unset, .unset, .unset, .unset] [(.int (own_next (ownUpd (fun _ => (0 : Int32)) (own_ix v74) (1 : Int32)) 2 fr))])) st98 ?_
          generalize hv_v99 : (own_next (ownUpd (fun _ => (0 : Int32)) (own_ix v74) (1 : Int32)) 2 fr) = v99
          refine ow_istore (q := 155) X98 hx (L' := #[iv p0, iv p1, iv p2, iv p3, iv p4, iv (2 : Int32), iv v72, iv v73, iv v74, iv ma, iv mb, iv sm, iv fr, rv b76, iv v99, .unset, .unset, .unset]) (hb hby at_153) rfl rfl ?_
          refine ow_iload (q := 157) X98 hx (hb hby at_155) rfl rfl ?_
          refine ow_sipush (q := 160) X98 hx (1024 : Int32) (hb hby at_157) rfl rfl ?_
          refine ow_idiv (q := 161) X98 hx _ (hb hby at_160) rfl (by decide) rfl ?_
          generalize hv_v100 : (v73 / (1024 : Int32)) = v100
          refine ow_istore (q := 163) X98 hx (L' := #[iv p0, iv p1, iv p2, iv p3, iv p4, iv (2 : Int32), iv v72, iv v73, iv v74, iv ma, iv mb, iv sm, iv fr, rv b76, iv v99, iv v100, .unset, .unset]) (hb hby at_161) rfl rfl ?_
          refine ow_iload (q := 165) X98 hx (hb hby at_163) rfl rfl ?_
          refine ow_sipush (q := 168) X98 hx (1024 : Int32) (hb hby at_165) rfl rfl ?_
          refine ow_idiv (q := 169) X98 hx _ (hb hby at_168) rfl (by decide) rfl ?_
          generalize hv_v101 : (v74 / (1024 : Int32)) = v101
          refine ow_istore (q := 171) X98 hx (L' := #[iv p0, iv p1, iv p2, iv p3, iv p4, iv (2 : Int32), iv v72, iv v73, iv v74, iv ma, iv mb, iv sm, iv fr, rv b76, iv v99, iv v100, iv v101, .unset]) (hb hby at_169) rfl rfl ?_
          refine ow_iconst (q := 172) X98 hx (-1 : Int32) (hb hby at_171) rfl rfl ?_
          refine ow_istore (q := 174) X98 hx (L' := #[iv p0, iv p1, iv p2, iv p3, iv p4, iv (2 : Int32), iv v72, iv v73, iv v74, iv ma, iv mb, iv sm, iv fr, rv b76, iv v99, iv v100, iv v101, iv (-1 : Int32)]) (hb hby at_172) rfl rfl ?_
          have cut218_102 : ∀ (be : Int32) (Tc102 : State) (lc102 : List Loc), Stand p l e room_1 s m #[(.int p0), (.int p1), (.int p2), (.int p3), (.int p4)] below meth c Tc102 lc102 3 4 → Tc102.heap = T93.heap → Fr n0 lc102 → (be = own_best ma mb v100 v101 fr) → ownEnds p e below s (Q_law Z p0 p1 p2 p3 p4 h0 n0) 16 128 Tc102 (mkF m 218 #[iv p0, iv p1, iv p2, iv p3, iv p4, iv (2 : Int32), iv v72, iv v73, iv v74, iv ma, iv mb, iv sm, iv fr, rv b76, iv v99, iv v100, iv v101, iv be] []) := by
            intro be Tc102 lc102 Xc102 ec102 Nc102 hbe
            refine ow_iload (q := 220) Xc102 hx (hb hby at_218) rfl rfl ?_
            refine ow_iload (q := 222) Xc102 hx (hb hby at_220) rfl rfl ?_
            refine ow_icmpNo (q := 225) Xc102 hx (hb hby at_222) rfl (Jvm.Free.XT.ii_ne_f (by rw [hbe, ← hv_v99]; exact own_final (own_g01 hc124_86 hc136_87) (own_ca (own_a (n := 2) hv_v73 hv_v72) hv_v100) (own_ca (own_a (n := 2) hv_v74 hv_v72) hv_v101) (own_il (own_a (n := 2) hv_v73 hv_v72)) (own_il (own_a (n := 2) hv_v74 hv_v72)) hfr)) ?_
            refine ow_iconst (q := 226) Xc102 hx (1 : Int32) (hb hby at_225) rfl rfl ?_
            refine ow_goto (q := 230) Xc102 hx (hb hby at_226) (by decide) (by decide) ?_
            refine ownRetN Xc102 hx (r := (1 : Int32)) (Or.inl rfl) Bd.returns (hb hby at_230) hlk (by decide) (by decide) (by decide) ?_
            exact ⟨rfl, Nc102⟩
          refine ow_iload (q := 176) X98 hx (hb hby at_174) rfl rfl ?_
          refine ow_ifYes (q := 190) X98 hx (hb hby at_176) (Jvm.Free.XT.i0_eq_t hc124_86) (by decide) (by decide) ?_
          refine ow_iload (q := 192) X98 hx (hb hby at_190) rfl rfl ?_
          refine ow_ifNo (q := 195) X98 hx (hb hby at_192) rfl (Jvm.Free.XT.i0_eq_f hc136_87) ?_
          refine ow_iload (q := 197) X98 hx (hb hby at_195) rfl rfl ?_
          refine ow_iload (q := 199) X98 hx (hb hby at_197) rfl rfl ?_
          by_cases hc199_103 : v101 < fr
          · refine ow_icmpYes (q := 218) X98 hx (hb hby at_199) (Jvm.Free.XT.ii_lt_t hc199_103) (by decide) (by decide) ?_
            exact cut218_102 (-1 : Int32) _ _ X98 e98 N98 (by simp [own_best, hc124_86, hc136_87, hc199_103])
          · refine ow_icmpNo (q := 202) X98 hx (hb hby at_199) rfl (Jvm.Free.XT.ii_lt_f hc199_103) ?_
            refine ow_iload (q := 204) X98 hx (hb hby at_202) rfl rfl ?_
            refine ow_ifYes (q := 214) X98 hx (hb hby at_204) (Jvm.Free.XT.i0_lt_t (by decide)) (by decide) (by decide) ?_
            refine ow_iload (q := 216) X98 hx (hb hby at_214) rfl rfl ?_
            refine ow_istore (q := 218) X98 hx (L' := #[iv p0, iv p1, iv p2, iv p3, iv p4, iv (2 : Int32), iv v72, iv v73, iv v74, iv ma, iv mb, iv sm, iv fr, rv b76, iv v99, iv v100, iv v101, iv v101]) (hb hby at_216) rfl rfl ?_
            exact cut218_102 v101 _ _ X98 e98 N98 (by simp [own_best, hc124_86, hc136_87, hc199_103])
      · refine ow_ifNo (q := 127) X82 hx (hb hby at_124) rfl (Jvm.Free.XT.i0_eq_f hc124_86) ?_
        refine ow_aload (q := 129) X82 hx (hb hby at_127) rfl rfl rfl ?_
        refine ow_iload (q := 131) X82 hx (hb hby at_129) rfl rfl ?_
        obtain ⟨cq104, kq104, q104a, q104b, q104c⟩ := isOf hZ rfl FP82_0
        obtain ⟨_, _, ⟨T104, L104, k104, n104⟩, -, X104, ⟨Lc104, hQ104, l104, y104, z104⟩, st104⟩ := X82.virtualBack hx (y := (⟨"com/example/swarm_tally/swarmtally/ChunkMarks", "mark", "(I)V"⟩ : MethodName)) (z := (⟨"com/example/swarm_tally/swarmtally/ChunkMarks", "mark", "(I)V"⟩ : MethodName)) hown (mvT hZ (hw _ (List.mem_of_getElem? (i := 37) rfl))) (mvT hZ (hw _ (List.mem_of_getElem? (i := 38) rfl))) (notFace_of_selects (args := #[]) (mvT hZ (hw _ (List.mem_of_getElem? (i := 40) rfl)))) (mvT hZ (hw _ (List.mem_of_getElem? (i := 40) rfl))) (mvT hZ (hw _ (List.mem_of_getElem? (i := 39) rfl))) (by decide) (backOf (W := 0) (rm_mark_2 l Z av0 hw [] b76 v73 ar2_82 (fun _ => (0 : Int32)) T82.heap n0 (Nat.le_trans Z0 K82.1) FP82_1 FP82_2 F83 G_ar2_82 (own_in (own_a (n := 2) hv_v73 hv_v72)) ne_b76_ar2_82) hZ (hw _ (List.mem_of_getElem? (i := 41) rfl)) (hw _ (List.mem_of_getElem? (i := 3) rfl)) (by decide) (by decide)) q104a q104c (g := (mkF m 131 #[iv p0, iv p1, iv p2, iv p3, iv p4, iv (2 : Int32), iv v72, iv v73, iv v74, iv ma, iv mb, iv sm, iv fr, rv b76, .unset, .unset, .unset, .unset] [(.int v73), (.ref b76)])) rfl (by rw [hml]; rfl) (Steps.refl _) (argsL := [(.int v73)]) (rest := []) (lenOf own_pd3 rfl) rfl (by show 2 * 0 + _ ≤ _; exact Nat.le_of_eq rfl) (hb hby at_131) (fun _ _ => ⟨rfl, rfl, (by decide : 3 + 0 ≤ _), (by decide : 4 + 0 ≤ _)⟩)
        dsimp only [Pt.U, Pt.locs, Pt.cells, Pt.slots] at X104 l104 y104 z104 st104 hQ104
        subst l104 y104 z104
        obtain ⟨rfl, N104q, Kq104, FP104_0⟩ := hQ104
        have N104 := Fr.app N82 N104q
        have K104 : Keep h0 T104.heap [] := K82.trans Kq104 (allS (Or.inr sz_ar2_82) all0)
        have F105 : Sta Z T104.heap "com/example/swarm_tally/swarmtally/ChunkMarks" "CHUNK_SHIFT" "I" (.int (10 : Int32)) := ownStaKeep F83 Kq104 (allS (ownNstI FP82_2) all0)
        have F106 : Exa Z T104.heap b76 "com/example/swarm_tally/swarmtally/ChunkMarks" := FP82_0.keep Kq104
        have F107 : ownAI Z T104.heap ar_79 .boolean 1 (fun _ => (0 : Int32)) := F85.keep Kq104 (ninS ne_ar_79_ar2_82 nin0)
        have F108 : Fld Z T104.heap b76 "com/example/swarm_tally/swarmtally/ChunkMarks" "changed" "[Z" (.ref ar2_82) := FP82_1.keep Kq104 (ninS ne_b76_ar2_82 nin0)
        refine ownRun (T' := T104) (f' := (mkF m 134 #[iv p0, iv p1, iv p2, iv p3, iv p4, iv (2 : Int32), iv v72, iv v73, iv v74, iv ma, iv mb, iv sm, iv fr, rv b76, .unset, .unset, .unset, .unset] [])) st104 ?_
        refine ow_iload (q := 136) X104 hx (hb hby at_134) rfl rfl ?_
        by_cases hc136_109 : mb = (0 : Int32)
        · refine ow_ifYes (q := 146) X104 hx (hb hby at_136) (Jvm.Free.XT.i0_eq_t hc136_109) (by decide) (by decide) ?_
          refine ow_aload (q := 148) X104 hx (hb hby at_146) rfl rfl rfl ?_
          refine ow_iload (q := 150) X104 hx (hb hby at_148) rfl rfl ?_
          obtain ⟨cq110, kq110, q110a, q110b, q110c⟩ := isOf hZ rfl F106
          obtain ⟨_, _, ⟨T110, L110, k110, n110⟩, -, X110, ⟨Lc110, hQ110, l110, y110, z110⟩, st110⟩ := X104.virtualBack hx (y := (⟨"com/example/swarm_tally/swarmtally/ChunkMarks", "next", "(I)I"⟩ : MethodName)) (z := (⟨"com/example/swarm_tally/swarmtally/ChunkMarks", "next", "(I)I"⟩ : MethodName)) hown (mvT hZ (hw _ (List.mem_of_getElem? (i := 20) rfl))) (mvT hZ (hw _ (List.mem_of_getElem? (i := 21) rfl))) (notFace_of_selects (args := #[]) (mvT hZ (hw _ (List.mem_of_getElem? (i := 23) rfl)))) (mvT hZ (hw _ (List.mem_of_getElem? (i := 23) rfl))) (mvT hZ (hw _ (List.mem_of_getElem? (i := 22) rfl))) (by decide) (backOf (W := 0) (rm_next_2 l Z av0 hw [] b76 fr ar2_82 (ownUpd (fun _ => (0 : Int32)) (own_ix v73) (1 : Int32)) T104.heap n0 (Nat.le_trans Z0 K104.1) F108 FP104_0 hfr) hZ (hw _ (List.mem_of_getElem? (i := 24) rfl)) (hw _ (List.mem_of_getElem? (i := 3) rfl)) (by decide) (by decide)) q110a q110c (g := (mkF m 150 #[iv p0, iv p1, iv p2, iv p3, iv p4, iv (2 : Int32), iv v72, iv v73, iv v74, iv ma, iv mb, iv sm, iv fr, rv b76, .unset, .unset, .unset, .unset] [(.int fr), (.ref b76)])) rfl (by rw [hml]; rfl) (Steps.refl _) (argsL := [(.int fr)]) (rest := []) (lenOf own_pd4 rfl) rfl (by show 2 * 0 + _ ≤ _; exact Nat.le_of_eq rfl) (hb hby at_150) (fun _ _ => ⟨rfl, rfl, (by decide : 3 + 0 ≤ _), (by decide : 4 + 0 ≤ _)⟩)
          dsimp only [Pt.U, Pt.locs, Pt.cells, Pt.slots] at X110 l110 y110 z110 st110 hQ110
          subst l110 y110 z110
          obtain ⟨rfl, N110q, e110⟩ := hQ110
          have N110 := Fr.app N104 N110q
          refine ownRun (T' := T110) (f' := (mkF m 153 #[iv p0, iv p1, iv p2, iv p3, iv p4, iv (2 : Int32), iv v72, iv v73, iv v74, iv ma, iv mb, iv sm, iv fr, rv b76, .unset, .unset, .unset, .unset] [(.int (own_next (ownUpd (fun _ => (0 : Int32)) (own_ix v73) (1 : Int32)) 2 fr))])) st110 ?_
          generalize hv_v111 : (own_next (ownUpd (fun _ => (0 : Int32)) (own_ix v73) (1 : Int32)) 2 fr) = v111
          refine ow_istore (q := 155) X110 hx (L' := #[iv p0, iv p1, iv p2, iv p3, iv p4, iv (2 : Int32), iv v72, iv v73, iv v74, iv ma, iv mb, iv sm, iv fr, rv b76, iv v111, .unset, .unset, .unset]) (hb hby at_153) rfl rfl ?_
          refine ow_iload (q := 157) X110 hx (hb hby at_155) rfl rfl ?_
          refine ow_sipush (q := 160) X110 hx (1024 : Int32) (hb hby at_157) rfl rfl ?_
          refine ow_idiv (q := 161) X110 hx _ (hb hby at_160) rfl (by decide) rfl ?_
          generalize hv_v112 : (v73 / (1024 : Int32)) = v112
          refine ow_istore (q := 163) X110 hx (L' := #[iv p0, iv p1, iv p2, iv p3, iv p4, iv (2 : Int32), iv v72, iv v73, iv v74, iv ma, iv mb, iv sm, iv fr, rv b76, iv v111, iv v112, .unset, .unset]) (hb hby at_161) rfl rfl ?_
          refine ow_iload (q := 165) X110 hx (hb hby at_163) rfl rfl ?_
          refine ow_sipush (q := 168) X110 hx (1024 : Int32) (hb hby at_165) rfl rfl ?_
          refine ow_idiv (q := 169) X110 hx _ (hb hby at_168) rfl (by decide) rfl ?_
          generalize hv_v113 : (v74 / (1024 : Int32)) = v113
          refine ow_istore (q := 171) X110 hx (L' := #[iv p0, iv p1, iv p2, iv p3, iv p4, iv (2 : Int32), iv v72, iv v73, iv v74, iv ma, iv mb, iv sm, iv fr, rv b76, iv v111, iv v112, iv v113, .unset]) (hb hby at_169) rfl rfl ?_
          refine ow_iconst (q := 172) X110 hx (-1 : Int32) (hb hby at_171) rfl rfl ?_
          refine ow_istore (q := 174) X110 hx (L' := #[iv p0, iv p1, iv p2, iv p3, iv p4, iv (2 : Int32), iv v72, iv v73, iv v74, iv ma, iv mb, iv sm, iv fr, rv b76, iv v111, iv v112, iv v113, iv (-1 : Int32)]) (hb hby at_172) rfl rfl ?_
          have cut218_114 : ∀ (be : Int32) (Tc114 : State) (lc114 : List Loc), Stand p l e room_1 s m #[(.int p0), (.int p1), (.int p2), (.int p3), (.int p4)] below meth c Tc114 lc114 3 4 → Tc114.heap = T104.heap → Fr n0 lc114 → (be = own_best ma mb v112 v113 fr) → ownEnds p e below s (Q_law Z p0 p1 p2 p3 p4 h0 n0) 16 128 Tc114 (mkF m 218 #[iv p0, iv p1, iv p2, iv p3, iv p4, iv (2 : Int32), iv v72, iv v73, iv v74, iv ma, iv mb, iv sm, iv fr, rv b76, iv v111, iv v112, iv v113, iv be] []) := by
            intro be Tc114 lc114 Xc114 ec114 Nc114 hbe
            refine ow_iload (q := 220) Xc114 hx (hb hby at_218) rfl rfl ?_
            refine ow_iload (q := 222) Xc114 hx (hb hby at_220) rfl rfl ?_
            refine ow_icmpNo (q := 225) Xc114 hx (hb hby at_222) rfl (Jvm.Free.XT.ii_ne_f (by rw [hbe, ← hv_v111]; exact own_final (own_g10 hc124_86 hc136_109) (own_ca (own_a (n := 2) hv_v73 hv_v72) hv_v112) (own_ca (own_a (n := 2) hv_v74 hv_v72) hv_v113) (own_il (own_a (n := 2) hv_v73 hv_v72)) (own_il (own_a (n := 2) hv_v74 hv_v72)) hfr)) ?_
            refine ow_iconst (q := 226) Xc114 hx (1 : Int32) (hb hby at_225) rfl rfl ?_
            refine ow_goto (q := 230) Xc114 hx (hb hby at_226) (by decide) (by decide) ?_
            refine ownRetN Xc114 hx (r := (1 : Int32)) (Or.inl rfl) Bd.returns (hb hby at_230) hlk (by decide) (by decide) (by decide) ?_
            exact ⟨rfl, Nc114⟩
          refine ow_iload (q := 176) X110 hx (hb hby at_174) rfl rfl ?_
          refine ow_ifNo (q := 179) X110 hx (hb hby at_176) rfl (Jvm.Free.XT.i0_eq_f hc124_86) ?_
          refine ow_iload (q := 181) X110 hx (hb hby at_179) rfl rfl ?_
          refine ow_iload (q := 183) X110 hx (hb hby at_181) rfl rfl ?_
          by_cases hc183_115 : v112 < fr
          · refine ow_icmpYes (q := 190) X110 hx (hb hby at_183) (Jvm.Free.XT.ii_lt_t hc183_115) (by decide) (by decide) ?_
            refine ow_iload (q := 192) X110 hx (hb hby at_190) rfl rfl ?_
            refine ow_ifYes (q := 218) X110 hx (hb hby at_192) (Jvm.Free.XT.i0_eq_t hc136_109) (by decide) (by decide) ?_
            exact cut218_114 (-1 : Int32) _ _ X110 e110 N110 (by simp [own_best, hc124_86, hc136_109, hc183_115])
          · refine ow_icmpNo (q := 186) X110 hx (hb hby at_183) rfl (Jvm.Free.XT.ii_lt_f hc183_115) ?_
            refine ow_iload (q := 188) X110 hx (hb hby at_186) rfl rfl ?_
            refine ow_istore (q := 190) X110 hx (L' := #[iv p0, iv p1, iv p2, iv p3, iv p4, iv (2 : Int32), iv v72, iv v73, iv v74, iv ma, iv mb, iv sm, iv fr, rv b76, iv v111, iv v112, iv v113, iv v112]) (hb hby at_188) rfl rfl ?_
            refine ow_iload (q := 192) X110 hx (hb hby at_190) rfl rfl ?_
            refine ow_ifYes (q := 218) X110 hx (hb hby at_192) (Jvm.Free.XT.i0_eq_t hc136_109) (by decide) (by decide) ?_
            exact cut218_114 v112 _ _ X110 e110 N110 (by simp [own_best, hc124_86, hc136_109, hc183_115])
        · refine ow_ifNo (q := 139) X104 hx (hb hby at_136) rfl (Jvm.Free.XT.i0_eq_f hc136_109) ?_
          refine ow_aload (q := 141) X104 hx (hb hby at_139) rfl rfl rfl ?_
          refine ow_iload (q := 143) X104 hx (hb hby at_141) rfl rfl ?_
          obtain ⟨cq116, kq116, q116a, q116b, q116c⟩ := isOf hZ rfl F106
          obtain ⟨_, _, ⟨T116, L116, k116, n116⟩, -, X116, ⟨Lc116, hQ116, l116, y116, z116⟩, st116⟩ := X104.virtualBack hx (y := (⟨"com/example/swarm_tally/swarmtally/ChunkMarks", "mark", "(I)V"⟩ : MethodName)) (z := (⟨"com/example/swarm_tally/swarmtally/ChunkMarks", "mark", "(I)V"⟩ : MethodName)) hown (mvT hZ (hw _ (List.mem_of_getElem? (i := 37) rfl))) (mvT hZ (hw _ (List.mem_of_getElem? (i := 38) rfl))) (notFace_of_selects (args := #[]) (mvT hZ (hw _ (List.mem_of_getElem? (i := 40) rfl)))) (mvT hZ (hw _ (List.mem_of_getElem? (i := 40) rfl))) (mvT hZ (hw _ (List.mem_of_getElem? (i := 39) rfl))) (by decide) (backOf (W := 0) (rm_mark_2 l Z av0 hw [] b76 v74 ar2_82 (ownUpd (fun _ => (0 : Int32)) (own_ix v73) (1 : Int32)) T104.heap n0 (Nat.le_trans Z0 K104.1) F108 FP104_0 F105 G_ar2_82 (own_in (own_a (n := 2) hv_v74 hv_v72)) ne_b76_ar2_82) hZ (hw _ (List.mem_of_getElem? (i := 41) rfl)) (hw _ (List.mem_of_getElem? (i := 3) rfl)) (by decide) (by decide)) q116a q116c (g := (mkF m 143 #[iv p0, iv p1, iv p2, iv p3, iv p4, iv (2 : Int32), iv v72, iv v73, iv v74, iv ma, iv mb, iv sm, iv fr, rv b76, .unset, .unset, .unset, .unset] [(.int v74), (.ref b76)])) rfl (by rw [hml]; rfl) (Steps.refl _) (argsL := [(.int v74)]) (rest := []) (lenOf own_pd3 rfl) rfl (by show 2 * 0 + _ ≤ _; exact Nat.le_of_eq rfl) (hb hby at_143) (fun _ _ => ⟨rfl, rfl, (by decide : 3 + 0 ≤ _), (by decide : 4 + 0 ≤ _)⟩)
          dsimp only [Pt.U, Pt.locs, Pt.cells, Pt.slots] at X116 l116 y116 z116 st116 hQ116
          subst l116 y116 z116
          obtain ⟨rfl, N116q, Kq116, FP116_0⟩ := hQ116
          have N116 := Fr.app N104 N116q
          have K116 : Keep h0 T116.heap [] := K104.trans Kq116 (allS (Or.inr sz_ar2_82) all0)
          have F117 : Sta Z T116.heap "com/example/swarm_tally/swarmtally/ChunkMarks" "CHUNK_SHIFT" "I" (.int (10 : Int32)) := ownStaKeep F105 Kq116 (allS (ownNstI FP104_0) all0)
          have F118 : Exa Z T116.heap b76 "com/example/swarm_tally/swarmtally/ChunkMarks" := F106.keep Kq116
          have F119 : ownAI Z T116.heap ar_79 .boolean 1 (fun _ => (0 : Int32)) := F107.keep Kq116 (ninS ne_ar_79_ar2_82 nin0)
          have F120 : Fld Z T116.heap b76 "com/example/swarm_tally/swarmtally/ChunkMarks" "changed" "[Z" (.ref ar2_82) := F108.keep Kq116 (ninS ne_b76_ar2_82 nin0)
          refine ownRun (T' := T116) (f' := (mkF m 146 #[iv p0, iv p1, iv p2, iv p3, iv p4, iv (2 : Int32), iv v72, iv v73, iv v74, iv ma, iv mb, iv sm, iv fr, rv b76, .unset, .unset, .unset, .unset] [])) st116 ?_
          refine ow_aload (q := 148) X116 hx (hb hby at_146) rfl rfl rfl ?_
          refine ow_iload (q := 150) X116 hx (hb hby at_148) rfl rfl ?_
          obtain ⟨cq121, kq121, q121a, q121b, q121c⟩ := isOf hZ rfl F118
          obtain ⟨_, _, ⟨T121, L121, k121, n121⟩, -, X121, ⟨Lc121, hQ121, l121, y121, z121⟩, st121⟩ := X116.virtualBack hx (y := (⟨"com/example/swarm_tally/swarmtally/ChunkMarks", "next", "(I)I"⟩ : MethodName)) (z := (⟨"com/example/swarm_tally/swarmtally/ChunkMarks", "next", "(I)I"⟩ : MethodName)) hown (mvT hZ (hw _ (List.mem_of_getElem? (i := 20) rfl))) (mvT hZ (hw _ (List.mem_of_getElem? (i := 21) rfl))) (notFace_of_selects (args := #[]) (mvT hZ (hw _ (List.mem_of_getElem? (i := 23) rfl)))) (mvT hZ (hw _ (List.mem_of_getElem? (i := 23) rfl))) (mvT hZ (hw _ (List.mem_of_getElem? (i := 22) rfl))) (by decide) (backOf (W := 0) (rm_next_2 l Z av0 hw [] b76 fr ar2_82 (ownUpd (ownUpd (fun _ => (0 : Int32)) (own_ix v73) (1 : Int32)) (own_ix v74) (1 : Int32)) T116.heap n0 (Nat.le_trans Z0 K116.1) F120 FP116_0 hfr) hZ (hw _ (List.mem_of_getElem? (i := 24) rfl)) (hw _ (List.mem_of_getElem? (i := 3) rfl)) (by decide) (by decide)) q121a q121c (g := (mkF m 150 #[iv p0, iv p1, iv p2, iv p3, iv p4, iv (2 : Int32), iv v72, iv v73, iv v74, iv ma, iv mb, iv sm, iv fr, rv b76, .unset, .unset, .unset, .unset] [(.int fr), (.ref b76)])) rfl (by rw [hml]; rfl) (Steps.refl _) (argsL := [(.int fr)]) (rest := []) (lenOf own_pd4 rfl) rfl (by show 2 * 0 + _ ≤ _; exact Nat.le_of_eq rfl) (hb hby at_150) (fun _ _ => ⟨rfl, rfl, (by decide : 3 + 0 ≤ _), (by decide : 4 + 0 ≤ _)⟩)
          dsimp only [Pt.U, Pt.locs, Pt.cells, Pt.slots] at X121 l121 y121 z121 st121 hQ121
          subst l121 y121 z121
          obtain ⟨rfl, N121q, e121⟩ := hQ121
          have N121 := Fr.app N116 N121q
          refine ownRun (T' := T121) (f' := (mkF m 153 #[iv p0, iv p1, iv p2, iv p3, iv p4, iv (2 : Int32), iv v72, iv v73, iv v74, iv ma, iv mb, iv sm, iv fr, rv b76, .unset, .unset, .unset, .unset] [(.int (own_next (ownUpd (ownUpd (fun _ => (0 : Int32)) (own_ix v73) (1 : Int32)) (own_ix v74) (1 : Int32)) 2 fr))])) st121 ?_
          generalize hv_v122 : (own_next (ownUpd (ownUpd (fun _ => (0 : Int32)) (own_ix v73) (1 : Int32)) (own_ix v74) (1 : Int32)) 2 fr) = v122
          refine ow_istore (q := 155) X121 hx (L' := #[iv p0, iv p1, iv p2, iv p3, iv p4, iv (2 : Int32), iv v72, iv v73, iv v74, iv ma, iv mb, iv sm, iv fr, rv b76, iv v122, .unset, .unset, .unset]) (hb hby at_153) rfl rfl ?_
          refine ow_iload (q := 157) X121 hx (hb hby at_155) rfl rfl ?_
          refine ow_sipush (q := 160) X121 hx (1024 : Int32) (hb hby at_157) rfl rfl ?_
          refine ow_idiv (q := 161) X121 hx _ (hb hby at_160) rfl (by decide) rfl ?_
          generalize hv_v123 : (v73 / (1024 : Int32)) = v123
          refine ow_istore (q := 163) X121 hx (L' := #[iv p0, iv p1, iv p2, iv p3, iv p4, iv (2 : Int32), iv v72, iv v73, iv v74, iv ma, iv mb, iv sm, iv fr, rv b76, iv v122, iv v123, .unset, .unset]) (hb hby at_161) rfl rfl ?_
          refine ow_iload (q := 165) X121 hx (hb hby at_163) rfl rfl ?_
          refine ow_sipush (q := 168) X121 hx (1024 : Int32) (hb hby at_165) rfl rfl ?_
          refine ow_idiv (q := 169) X121 hx _ (hb hby at_168) rfl (by decide) rfl ?_
          generalize hv_v124 : (v74 / (1024 : Int32)) = v124
          refine ow_istore (q := 171) X121 hx (L' := #[iv p0, iv p1, iv p2, iv p3, iv p4, iv (2 : Int32), iv v72, iv v73, iv v74, iv ma, iv mb, iv sm, iv fr, rv b76, iv v122, iv v123, iv v124, .unset]) (hb hby at_169) rfl rfl ?_
          refine ow_iconst (q := 172) X121 hx (-1 : Int32) (hb hby at_171) rfl rfl ?_
          refine ow_istore (q := 174) X121 hx (L' := #[iv p0, iv p1, iv p2, iv p3, iv p4, iv (2 : Int32), iv v72, iv v73, iv v74, iv ma, iv mb, iv sm, iv fr, rv b76, iv v122, iv v123, iv v124, iv (-1 : Int32)]) (hb hby at_172) rfl rfl ?_
          have cut218_125 : ∀ (be : Int32) (Tc125 : State) (lc125 : List Loc), Stand p l e room_1 s m #[(.int p0), (.int p1), (.int p2), (.int p3), (.int p4)] below meth c Tc125 lc125 3 4 → Tc125.heap = T116.heap → Fr n0 lc125 → (be = own_best ma mb v123 v124 fr) → ownEnds p e below s (Q_law Z p0 p1 p2 p3 p4 h0 n0) 16 128 Tc125 (mkF m 218 #[iv p0, iv p1, iv p2, iv p3, iv p4, iv (2 : Int32), iv v72, iv v73, iv v74, iv ma, iv mb, iv sm, iv fr, rv b76, iv v122, iv v123, iv v124, iv be] []) := by
            intro be Tc125 lc125 Xc125 ec125 Nc125 hbe
            refine ow_iload (q := 220) Xc125 hx (hb hby at_218) rfl rfl ?_
            refine ow_iload (q := 222) Xc125 hx (hb hby at_220) rfl rfl ?_
            refine ow_icmpNo (q := 225) Xc125 hx (hb hby at_222) rfl (Jvm.Free.XT.ii_ne_f (by rw [hbe, ← hv_v122]; exact own_final (own_g11 hc124_86 hc136_109) (own_ca (own_a (n := 2) hv_v73 hv_v72) hv_v123) (own_ca (own_a (n := 2) hv_v74 hv_v72) hv_v124) (own_il (own_a (n := 2) hv_v73 hv_v72)) (own_il (own_a (n := 2) hv_v74 hv_v72)) hfr)) ?_
            refine ow_iconst (q := 226) Xc125 hx (1 : Int32) (hb hby at_225) rfl rfl ?_
            refine ow_goto (q := 230) Xc125 hx (hb hby at_226) (by decide) (by decide) ?_
            refine ownRetN Xc125 hx (r := (1 : Int32)) (Or.inl rfl) Bd.returns (hb hby at_230) hlk (by decide) (by decide) (by decide) ?_
            exact ⟨rfl, Nc125⟩
          refine ow_iload (q := 176) X121 hx (hb hby at_174) rfl rfl ?_
          refine ow_ifNo (q := 179) X121 hx (hb hby at_176) rfl (Jvm.Free.XT.i0_eq_f hc124_86) ?_
          refine ow_iload (q := 181) X121 hx (hb hby at_179) rfl rfl ?_
          refine ow_iload (q := 183) X121 hx (hb hby at_181) rfl rfl ?_
          by_cases hc183_126 : v123 < fr
          · refine ow_icmpYes (q := 190) X121 hx (hb hby at_183) (Jvm.Free.XT.ii_lt_t hc183_126) (by decide) (by decide) ?_
            refine ow_iload (q := 192) X121 hx (hb hby at_190) rfl rfl ?_
            refine ow_ifNo (q := 195) X121 hx (hb hby at_192) rfl (Jvm.Free.XT.i0_eq_f hc136_109) ?_
            refine ow_iload (q := 197) X121 hx (hb hby at_195) rfl rfl ?_
            refine ow_iload (q := 199) X121 hx (hb hby at_197) rfl rfl ?_
            by_cases hc199_127 : v124 < fr
            · refine ow_icmpYes (q := 218) X121 hx (hb hby at_199) (Jvm.Free.XT.ii_lt_t hc199_127) (by decide) (by decide) ?_
              exact cut218_125 (-1 : Int32) _ _ X121 e121 N121 (by simp [own_best, hc124_86, hc136_109, hc183_126, hc199_127])
            · refine ow_icmpNo (q := 202) X121 hx (hb hby at_199) rfl (Jvm.Free.XT.ii_lt_f hc199_127) ?_
              refine ow_iload (q := 204) X121 hx (hb hby at_202) rfl rfl ?_
              refine ow_ifYes (q := 214) X121 hx (hb hby at_204) (Jvm.Free.XT.i0_lt_t (by decide)) (by decide) (by decide) ?_
              refine ow_iload (q := 216) X121 hx (hb hby at_214) rfl rfl ?_
              refine ow_istore (q := 218) X121 hx (L' := #[iv p0, iv p1, iv p2, iv p3, iv p4, iv (2 : Int32), iv v72, iv v73, iv v74, iv ma, iv mb, iv sm, iv fr, rv b76, iv v122, iv v123, iv v124, iv v124]) (hb hby at_216) rfl rfl ?_
              exact cut218_125 v124 _ _ X121 e121 N121 (by simp [own_best, hc124_86, hc136_109, hc183_126, hc199_127])
          · refine ow_icmpNo (q := 186) X121 hx (hb hby at_183) rfl (Jvm.Free.XT.ii_lt_f hc183_126) ?_
            refine ow_iload (q := 188) X121 hx (hb hby at_186) rfl rfl ?_
            refine ow_istore (q := 190) X121 hx (L' := #[iv p0, iv p1, iv p2, iv p3, iv p4, iv (2 : Int32), iv v72, iv v73, iv v74, iv ma, iv mb, iv sm, iv fr, rv b76, iv v122, iv v123, iv v124, iv v123]) (hb hby at_188) rfl rfl ?_
            refine ow_iload (q := 192) X121 hx (hb hby at_190) rfl rfl ?_
            refine ow_ifNo (q := 195) X121 hx (hb hby at_192) rfl (Jvm.Free.XT.i0_eq_f hc136_109) ?_
            refine ow_iload (q := 197) X121 hx (hb hby at_195) rfl rfl ?_
            refine ow_iload (q := 199) X121 hx (hb hby at_197) rfl rfl ?_
            by_cases hc199_128 : v124 < fr
            · refine ow_icmpYes (q := 218) X121 hx (hb hby at_199) (Jvm.Free.XT.ii_lt_t hc199_128) (by decide) (by decide) ?_
              exact cut218_125 v123 _ _ X121 e121 N121 (by simp [own_best, hc124_86, hc136_109, hc183_126, hc199_128])
            · refine ow_icmpNo (q := 202) X121 hx (hb hby at_199) rfl (Jvm.Free.XT.ii_lt_f hc199_128) ?_
              refine ow_iload (q := 204) X121 hx (hb hby at_202) rfl rfl ?_
              by_cases hc204_129 : v123 < (0 : Int32)
              · refine ow_ifYes (q := 214) X121 hx (hb hby at_204) (Jvm.Free.XT.i0_lt_t hc204_129) (by decide) (by decide) ?_
                refine ow_iload (q := 216) X121 hx (hb hby at_214) rfl rfl ?_
                refine ow_istore (q := 218) X121 hx (L' := #[iv p0, iv p1, iv p2, iv p3, iv p4, iv (2 : Int32), iv v72, iv v73, iv v74, iv ma, iv mb, iv sm, iv fr, rv b76, iv v122, iv v123, iv v124, iv v124]) (hb hby at_216) rfl rfl ?_
                exact cut218_125 v124 _ _ X121 e121 N121 (by simp [own_best, hc124_86, hc136_109, hc183_126, hc199_128, hc204_129])
              · refine ow_ifNo (q := 207) X121 hx (hb hby at_204) rfl (Jvm.Free.XT.i0_lt_f hc204_129) ?_
                refine ow_iload (q := 209) X121 hx (hb hby at_207) rfl rfl ?_
                refine ow_iload (q := 211) X121 hx (hb hby at_209) rfl rfl ?_
                by_cases hc211_130 : v124 < v123
                · refine ow_icmpNo (q := 214) X121 hx (hb hby at_211) rfl (Jvm.Free.XT.ii_ge_f hc211_130) ?_
                  refine ow_iload (q := 216) X121 hx (hb hby at_214) rfl rfl ?_
                  refine ow_istore (q := 218) X121 hx (L' := #[iv p0, iv p1, iv p2, iv p3, iv p4, iv (2 : Int32), iv v72, iv v73, iv v74, iv ma, iv mb, iv sm, iv fr, rv b76, iv v122, iv v123, iv v124, iv v124]) (hb hby at_216) rfl rfl ?_
                  exact cut218_125 v124 _ _ X121 e121 N121 (by simp [own_best, hc124_86, hc136_109, hc183_126, hc199_128, hc204_129, hc211_130])
                · refine ow_icmpYes (q := 218) X121 hx (hb hby at_211) (Jvm.Free.XT.ii_ge_t hc211_130) (by decide) (by decide) ?_
                  exact cut218_125 v123 _ _ X121 e121 N121 (by simp [own_best, hc124_86, hc136_109, hc183_126, hc199_128, hc204_129, hc211_130])
    have cut88_131 : ∀ (ma : Int32) (mb : Int32) (sm : Int32) (Tc131 : State) (lc131 : List Loc), Stand p l e room_1 s m #[(.int p0), (.int p1), (.int p2), (.int p3), (.int p4)] below meth c Tc131 lc131 0 0 → Tc131.heap = h0 → Fr n0 lc131 → ownEnds p e below s (Q_law Z p0 p1 p2 p3 p4 h0 n0) 16 128 Tc131 (mkF m 88 #[iv p0, iv p1, iv p2, iv p3, iv p4, iv (2 : Int32), iv v72, iv v73, iv v74, iv ma, iv mb, iv sm, .unset, .unset, .unset, .unset, .unset, .unset] []) := by
      intro ma mb sm Tc131 lc131 Xc131 ec131 Nc131
      refine ow_iload (q := 90) Xc131 hx (hb hby at_88) rfl rfl ?_
      by_cases hc90_132 : sm = (0 : Int32)
      · refine ow_ifYes (q := 100) Xc131 hx (hb hby at_90) (Jvm.Free.XT.i0_eq_t hc90_132) (by decide) (by decide) ?_
        refine ow_iloadN (q := 101) Xc131 hx (hb hby at_100) rfl rfl ?_
        refine ownGo (T' := Tc131) (f' := (mkF m 103 #[iv p0, iv p1, iv p2, iv p3, iv p4, iv (2 : Int32), iv v72, iv v73, iv v74, iv ma, iv mb, iv sm, .unset, .unset, .unset, .unset, .unset, .unset] [(.int (2147483647 : Int32)), (.int p3)])) (Xc131.ldcInt hx hown (mvT hZ (hw _ (List.mem_of_getElem? (i := 0) rfl))) (g := (mkF m 101 #[iv p0, iv p1, iv p2, iv p3, iv p4, iv (2 : Int32), iv v72, iv v73, iv v74, iv ma, iv mb, iv sm, .unset, .unset, .unset, .unset, .unset, .unset] [(.int p3)])) rfl (hb hby at_101)) ?_
        refine ow_iand (q := 104) Xc131 hx _ (hb hby at_103) rfl rfl ?_
        generalize hv_v133 : (p3 &&& (2147483647 : Int32)) = v133
        refine ow_istore (q := 106) Xc131 hx (L' := #[iv p0, iv p1, iv p2, iv p3, iv p4, iv (2 : Int32), iv v72, iv v73, iv v74, iv ma, iv mb, iv sm, iv v133, .unset, .unset, .unset, .unset, .unset]) (hb hby at_104) rfl rfl ?_
        exact cut106_75 ma mb sm v133 _ _ Xc131 ec131 Nc131 (own_frM hv_v133)
      · refine ow_ifNo (q := 93) Xc131 hx (hb hby at_90) rfl (Jvm.Free.XT.i0_eq_f hc90_132) ?_
        refine ow_iloadN (q := 94) Xc131 hx (hb hby at_93) rfl rfl ?_
        refine ow_bipush (q := 96) Xc131 hx (15 : Int32) (hb hby at_94) rfl rfl ?_
        refine ow_iand (q := 97) Xc131 hx _ (hb hby at_96) rfl rfl ?_
        refine ow_goto (q := 104) Xc131 hx (hb hby at_97) (by decide) (by decide) ?_
        generalize hv_v134 : (p3 &&& (15 : Int32)) = v134
        refine ow_istore (q := 106) Xc131 hx (L' := #[iv p0, iv p1, iv p2, iv p3, iv p4, iv (2 : Int32), iv v72, iv v73, iv v74, iv ma, iv mb, iv sm, iv v134, .unset, .unset, .unset, .unset, .unset]) (hb hby at_104) rfl rfl ?_
        exact cut106_75 ma mb sm v134 _ _ Xc131 ec131 Nc131 (own_fr15 hv_v134)
    have cut74_135 : ∀ (ma : Int32) (mb : Int32) (Tc135 : State) (lc135 : List Loc), Stand p l e room_1 s m #[(.int p0), (.int p1), (.int p2), (.int p3), (.int p4)] below meth c Tc135 lc135 0 0 → Tc135.heap = h0 → Fr n0 lc135 → ownEnds p e below s (Q_law Z p0 p1 p2 p3 p4 h0 n0) 16 128 Tc135 (mkF m 74 #[iv p0, iv p1, iv p2, iv p3, iv p4, iv (2 : Int32), iv v72, iv v73, iv v74, iv ma, iv mb, .unset, .unset, .unset, .unset, .unset, .unset, .unset] []) := by
      intro ma mb Tc135 lc135 Xc135 ec135 Nc135
      refine ow_iload (q := 76) Xc135 hx (hb hby at_74) rfl rfl ?_
      refine ow_iconst (q := 77) Xc135 hx (4 : Int32) (hb hby at_76) rfl rfl ?_
      refine ow_iand (q := 78) Xc135 hx _ (hb hby at_77) rfl rfl ?_
      by_cases hc78_136 : (p4 &&& (4 : Int32)) = (0 : Int32)
      · refine ow_ifYes (q := 85) Xc135 hx (hb hby at_78) (Jvm.Free.XT.i0_eq_t hc78_136) (by decide) (by decide) ?_
        refine ow_iconst (q := 86) Xc135 hx (0 : Int32) (hb hby at_85) rfl rfl ?_
        refine ow_istore (q := 88) Xc135 hx (L' := #[iv p0, iv p1, iv p2, iv p3, iv p4, iv (2 : Int32), iv v72, iv v73, iv v74, iv ma, iv mb, iv (0 : Int32), .unset, .unset, .unset, .unset, .unset, .unset]) (hb hby at_86) rfl rfl ?_
        exact cut88_131 ma mb (0 : Int32) _ _ Xc135 ec135 Nc135 
      · refine ow_ifNo (q := 81) Xc135 hx (hb hby at_78) rfl (Jvm.Free.XT.i0_eq_f hc78_136) ?_
        refine ow_iconst (q := 82) Xc135 hx (1 : Int32) (hb hby at_81) rfl rfl ?_
        refine ow_goto (q := 86) Xc135 hx (hb hby at_82) (by decide) (by decide) ?_
        refine ow_istore (q := 88) Xc135 hx (L' := #[iv p0, iv p1, iv p2, iv p3, iv p4, iv (2 : Int32), iv v72, iv v73, iv v74, iv ma, iv mb, iv (1 : Int32), .unset, .unset, .unset, .unset, .unset, .unset]) (hb hby at_86) rfl rfl ?_
        exact cut88_131 ma mb (1 : Int32) _ _ Xc135 ec135 Nc135 
    have cut60_137 : ∀ (ma : Int32) (Tc137 : State) (lc137 : List Loc), Stand p l e room_1 s m #[(.int p0), (.int p1), (.int p2), (.int p3), (.int p4)] below meth c Tc137 lc137 0 0 → Tc137.heap = h0 → Fr n0 lc137 → ownEnds p e below s (Q_law Z p0 p1 p2 p3 p4 h0 n0) 16 128 Tc137 (mkF m 60 #[iv p0, iv p1, iv p2, iv p3, iv p4, iv (2 : Int32), iv v72, iv v73, iv v74, iv ma, .unset, .unset, .unset, .unset, .unset, .unset, .unset, .unset] []) := by
      intro ma Tc137 lc137 Xc137 ec137 Nc137
      refine ow_iload (q := 62) Xc137 hx (hb hby at_60) rfl rfl ?_
      refine ow_iconst (q := 63) Xc137 hx (2 : Int32) (hb hby at_62) rfl rfl ?_
      refine ow_iand (q := 64) Xc137 hx _ (hb hby at_63) rfl rfl ?_
      by_cases hc64_138 : (p4 &&& (2 : Int32)) = (0 : Int32)
      · refine ow_ifYes (q := 71) Xc137 hx (hb hby at_64) (Jvm.Free.XT.i0_eq_t hc64_138) (by decide) (by decide) ?_
        refine ow_iconst (q := 72) Xc137 hx (0 : Int32) (hb hby at_71) rfl rfl ?_
        refine ow_istore (q := 74) Xc137 hx (L' := #[iv p0, iv p1, iv p2, iv p3, iv p4, iv (2 : Int32), iv v72, iv v73, iv v74, iv ma, iv (0 : Int32), .unset, .unset, .unset, .unset, .unset, .unset, .unset]) (hb hby at_72) rfl rfl ?_
        exact cut74_135 ma (0 : Int32) _ _ Xc137 ec137 Nc137 
      · refine ow_ifNo (q := 67) Xc137 hx (hb hby at_64) rfl (Jvm.Free.XT.i0_eq_f hc64_138) ?_
        refine ow_iconst (q := 68) Xc137 hx (1 : Int32) (hb hby at_67) rfl rfl ?_
        refine ow_goto (q := 72) Xc137 hx (hb hby at_68) (by decide) (by decide) ?_
        refine ow_istore (q := 74) Xc137 hx (L' := #[iv p0, iv p1, iv p2, iv p3, iv p4, iv (2 : Int32), iv v72, iv v73, iv v74, iv ma, iv (1 : Int32), .unset, .unset, .unset, .unset, .unset, .unset, .unset]) (hb hby at_72) rfl rfl ?_
        exact cut74_135 ma (1 : Int32) _ _ Xc137 ec137 Nc137 
    refine ow_iload (q := 48) X0 hx (hb hby at_46) rfl rfl ?_
    refine ow_iconst (q := 49) X0 hx (1 : Int32) (hb hby at_48) rfl rfl ?_
    refine ow_iand (q := 50) X0 hx _ (hb hby at_49) rfl rfl ?_
    by_cases hc50_139 : (p4 &&& (1 : Int32)) = (0 : Int32)
    · refine ow_ifYes (q := 57) X0 hx (hb hby at_50) (Jvm.Free.XT.i0_eq_t hc50_139) (by decide) (by decide) ?_
      refine ow_iconst (q := 58) X0 hx (0 : Int32) (hb hby at_57) rfl rfl ?_
      refine ow_istore (q := 60) X0 hx (L' := #[iv p0, iv p1, iv p2, iv p3, iv p4, iv (2 : Int32), iv v72, iv v73, iv v74, iv (0 : Int32), .unset, .unset, .unset, .unset, .unset, .unset, .unset, .unset]) (hb hby at_58) rfl rfl ?_
      exact cut60_137 (0 : Int32) _ _ X0 e0 N0 
    · refine ow_ifNo (q := 53) X0 hx (hb hby at_50) rfl (Jvm.Free.XT.i0_eq_f hc50_139) ?_
      refine ow_iconst (q := 54) X0 hx (1 : Int32) (hb hby at_53) rfl rfl ?_
      refine ow_goto (q := 58) X0 hx (hb hby at_54) (by decide) (by decide) ?_
      refine ow_istore (q := 60) X0 hx (L' := #[iv p0, iv p1, iv p2, iv p3, iv p4, iv (2 : Int32), iv v72, iv v73, iv v74, iv (1 : Int32), .unset, .unset, .unset, .unset, .unset, .unset, .unset, .unset]) (hb hby at_58) rfl rfl ?_
      exact cut60_137 (1 : Int32) _ _ X0 e0 N0 
  · subst hs4
    refine ow_iload (q := 10) X0 hx (hb hby at_8) rfl rfl ?_
    refine ow_iconst (q := 11) X0 hx (1 : Int32) (hb hby at_10) rfl rfl ?_
    refine ow_isub (q := 12) X0 hx (2 : Int32) (hb hby at_11) rfl (by decide) ?_
    refine ow_sipush (q := 15) X0 hx (1024 : Int32) (hb hby at_12) rfl rfl ?_
    refine ow_imul (q := 16) X0 hx (2048 : Int32) (hb hby at_15) rfl (by decide) ?_
    refine ow_iconst (q := 17) X0 hx (1 : Int32) (hb hby at_16) rfl rfl ?_
    refine ow_iadd (q := 18) X0 hx (2049 : Int32) (hb hby at_17) rfl (by decide) ?_
    refine ow_iloadN (q := 19) X0 hx (hb hby at_18) rfl rfl ?_
    refine ow_iconst (q := 20) X0 hx (3 : Int32) (hb hby at_19) rfl rfl ?_
    refine ow_iushr (q := 21) X0 hx _ (hb hby at_20) rfl rfl ?_
    refine ow_sipush (q := 24) X0 hx (1023 : Int32) (hb hby at_21) rfl rfl ?_
    refine ow_iand (q := 25) X0 hx _ (hb hby at_24) rfl rfl ?_
    refine ow_iadd (q := 26) X0 hx _ (hb hby at_25) rfl rfl ?_
    generalize hv_v140 : ((2049 : Int32) + (((p0.toUInt32 >>> ((3 : Int32) &&& 31).toUInt32).toInt32) &&& (1023 : Int32))) = v140
    refine ow_istore (q := 28) X0 hx (L' := #[iv p0, iv p1, iv p2, iv p3, iv p4, iv (3 : Int32), iv v140, .unset, .unset, .unset, .unset, .unset, .unset, .unset, .unset, .unset, .unset, .unset]) (hb hby at_26) rfl rfl ?_
    refine ow_iloadN (q := 29) X0 hx (hb hby at_28) rfl rfl ?_
    refine ownGo (T' := s₁) (f' := (mkF m 31 #[iv p0, iv p1, iv p2, iv p3, iv p4, iv (3 : Int32), iv v140, .unset, .unset, .unset, .unset, .unset, .unset, .unset, .unset, .unset, .unset, .unset] [(.int (2147483647 : Int32)), (.int p1)])) (X0.ldcInt hx hown (mvT hZ (hw _ (List.mem_of_getElem? (i := 0) rfl))) (g := (mkF m 29 #[iv p0, iv p1, iv p2, iv p3, iv p4, iv (3 : Int32), iv v140, .unset, .unset, .unset, .unset, .unset, .unset, .unset, .unset, .unset, .unset, .unset] [(.int p1)])) rfl (hb hby at_29)) ?_
    refine ow_iand (q := 32) X0 hx _ (hb hby at_31) rfl rfl ?_
    refine ow_iload (q := 34) X0 hx (hb hby at_32) rfl rfl ?_
    refine ow_irem (q := 35) X0 hx _ (hb hby at_34) rfl (own_nzc hv_v140) rfl ?_
    generalize hv_v141 : ((p1 &&& (2147483647 : Int32)) % v140) = v141
    refine ow_istore (q := 37) X0 hx (L' := #[iv p0, iv p1, iv p2, iv p3, iv p4, iv (3 : Int32), iv v140, iv v141, .unset, .unset, .unset, .unset, .unset, .unset, .unset, .unset, .unset, .unset]) (hb hby at_35) rfl rfl ?_
    refine ow_iloadN (q := 38) X0 hx (hb hby at_37) rfl rfl ?_
    refine ownGo (T' := s₁) (f' := (mkF m 40 #[iv p0, iv p1, iv p2, iv p3, iv p4, iv (3 : Int32), iv v140, iv v141, .unset, .unset, .unset, .unset, .unset, .unset, .unset, .unset, .unset, .unset] [(.int (2147483647 : Int32)), (.int p2)])) (X0.ldcInt hx hown (mvT hZ (hw _ (List.mem_of_getElem? (i := 0) rfl))) (g := (mkF m 38 #[iv p0, iv p1, iv p2, iv p3, iv p4, iv (3 : Int32), iv v140, iv v141, .unset, .unset, .unset, .unset, .unset, .unset, .unset, .unset, .unset, .unset] [(.int p2)])) rfl (hb hby at_38)) ?_
    refine ow_iand (q := 41) X0 hx _ (hb hby at_40) rfl rfl ?_
    refine ow_iload (q := 43) X0 hx (hb hby at_41) rfl rfl ?_
    refine ow_irem (q := 44) X0 hx _ (hb hby at_43) rfl (own_nzc hv_v140) rfl ?_
    generalize hv_v142 : ((p2 &&& (2147483647 : Int32)) % v140) = v142
    refine ow_istore (q := 46) X0 hx (L' := #[iv p0, iv p1, iv p2, iv p3, iv p4, iv (3 : Int32), iv v140, iv v141, iv v142, .unset, .unset, .unset, .unset, .unset, .unset, .unset, .unset, .unset]) (hb hby at_44) rfl rfl ?_
    have cut106_143 : ∀ (ma : Int32) (mb : Int32) (sm : Int32) (fr : Int32) (Tc143 : State) (lc143 : List Loc), Stand p l e room_1 s m #[(.int p0), (.int p1), (.int p2), (.int p3), (.int p4)] below meth c Tc143 lc143 0 0 → Tc143.heap = h0 → Fr n0 lc143 → (0 ≤ fr.toInt) → ownEnds p e below s (Q_law Z p0 p1 p2 p3 p4 h0 n0) 16 128 Tc143 (mkF m 106 #[iv p0, iv p1, iv p2, iv p3, iv p4, iv (3 : Int32), iv v140, iv v141, iv v142, iv ma, iv mb, iv sm, iv fr, .unset, .unset, .unset, .unset, .unset] []) := by
      intro ma mb sm fr Tc143 lc143 Xc143 ec143 Nc143 hfr
      obtain ⟨T144, h144, X144, e144, E144, A144, D144, -, st144⟩ := newO Xc143 hx hZ hown (hw _ (List.mem_of_getElem? (i := 1) rfl)) (hw _ (List.mem_of_getElem? (i := 2) rfl)) (hw _ (List.mem_of_getElem? (i := 3) rfl)) ec143 (g := (mkF m 106 #[iv p0, iv p1, iv p2, iv p3, iv p4, iv (3 : Int32), iv v140, iv v141, iv v142, iv ma, iv mb, iv sm, iv fr, .unset, .unset, .unset, .unset, .unset] [])) rfl (hb hby at_106) (by decide) (by decide)
      obtain ⟨b144, g144⟩ : ∃ z, z = h0.size := ⟨_, rfl⟩
      rw [← g144] at A144 D144 st144
      have sz_b144 : h0.size ≤ b144 := Nat.le_trans K0.1 (Nat.le_of_eq g144.symm)
      have G_b144 : n0 ≤ b144 := Nat.le_trans Z0 sz_b144
      have K144 : Keep h0 h144 [] := K0.ext E144
      have F145 : Sta Z h144 "com/example/swarm_tally/swarmtally/ChunkMarks" "CHUNK_SHIFT" "I" (.int (10 : Int32)) := HF0.ext E144
      have F146 : Fld Z h144 b144 "com/example/swarm_tally/swarmtally/ChunkMarks" "changed" "[Z" .null := D144 (Or.inl (hw _ (List.mem_of_getElem? (i := 12) rfl))) (ty := (.array .boolean)) (by decide)
      refine ownGo (T' := T144) (f' := (mkF m 109 #[iv p0, iv p1, iv p2, iv p3, iv p4, iv (3 : Int32), iv v140, iv v141, iv v142, iv ma, iv mb, iv sm, iv fr, .unset, .unset, .unset, .unset, .unset] [(.ref b144)])) (st144) ?_
      refine ow_dup (q := 110) X144 hx (hb hby at_109) rfl rfl ?_
      obtain ⟨_, _, ⟨T147, L147, k147, n147⟩, -, X147, ⟨Lc147, hQ147, l147, y147, z147⟩, st147⟩ := X144.specialBack hx (y := (⟨"com/example/swarm_tally/swarmtally/ChunkMarks", "<init>", "()V"⟩ : MethodName)) rfl hown (mvT hZ (hw _ (List.mem_of_getElem? (i := 4) rfl))) (mvT hZ (hw _ (List.mem_of_getElem? (i := 5) rfl))) (mvT hZ (hw _ (List.mem_of_getElem? (i := 6) rfl))) (by decide) (backOf (W := 1) (rm_init l Z av0 hw [] b144 h144 n0 (Nat.le_trans Z0 K144.1) A144 F146 G_b144) hZ (hw _ (List.mem_of_getElem? (i := 6) rfl)) (hw _ (List.mem_of_getElem? (i := 3) rfl)) (by decide) (by decide)) (g := (mkF m 110 #[iv p0, iv p1, iv p2, iv p3, iv p4, iv (3 : Int32), iv v140, iv v141, iv v142, iv ma, iv mb, iv sm, iv fr, .unset, .unset, .unset, .unset, .unset] [(.ref b144), (.ref b144)])) rfl (by rw [hml]; rfl) (Steps.refl _) (a := b144) (argsL := []) (rest := [(.ref b144)]) (lenOf own_pd2 rfl) rfl (by show 2 * 0 + _ ≤ _; exact Nat.le_of_eq rfl) (hb hby at_110) (fun _ _ => ⟨rfl, e144, (by decide : 1 + 1 ≤ _), (by decide : 1 + 1 ≤ _)⟩)
      dsimp only [Pt.U, Pt.locs, Pt.cells, Pt.slots] at X147 l147 y147 z147 st147 hQ147
      subst l147 y147 z147
      obtain ⟨ar_147, rfl, N147q, Kq147, sq147_ar_147, FP147_0, FP147_1, FP147_2⟩ := hQ147
      have N147 := Fr.app Nc143 N147q
      have K147 : Keep h0 T147.heap [] := K144.trans Kq147 (allS (Or.inr sz_b144) all0)
      have ne_b144_ar_147 : b144 ≠ ar_147 := Nat.ne_of_lt (Nat.lt_of_lt_of_le A144.lt sq147_ar_147)
      have sz_ar_147 : h0.size ≤ ar_147 := Nat.le_trans K144.1 sq147_ar_147
      have G_ar_147 : n0 ≤ ar_147 := Nat.le_trans Z0 sz_ar_147
      have F148 : Sta Z T147.heap "com/example/swarm_tally/swarmtally/ChunkMarks" "CHUNK_SHIFT" "I" (.int (10 : Int32)) := ownStaKeep F145 Kq147 (allS (ownNstE A144) all0)
      have F149 : Exa Z T147.heap b144 "com/example/swarm_tally/swarmtally/ChunkMarks" := A144.keep Kq147
      refine ownRun (T' := T147) (f' := (mkF m 113 #[iv p0, iv p1, iv p2, iv p3, iv p4, iv (3 : Int32), iv v140, iv v141, iv v142, iv ma, iv mb, iv sm, iv fr, .unset, .unset, .unset, .unset, .unset] [(.ref b144)])) st147 ?_
      refine ow_astore (q := 115) X147 hx (L' := #[iv p0, iv p1, iv p2, iv p3, iv p4, iv (3 : Int32), iv v140, iv v141, iv v142, iv ma, iv mb, iv sm, iv fr, rv b144, .unset, .unset, .unset, .unset]) (hb hby at_113) rfl rfl rfl ?_
      refine ow_aload (q := 117) X147 hx (hb hby at_115) rfl rfl rfl ?_
      refine ow_iload (q := 119) X147 hx (hb hby at_117) rfl rfl ?_
      obtain ⟨cq150, kq150, q150a, q150b, q150c⟩ := isOf hZ rfl FP147_0
      obtain ⟨_, _, ⟨T150, L150, k150, n150⟩, -, X150, ⟨Lc150, hQ150, l150, y150, z150⟩, st150⟩ := X147.virtualBack hx (y := (⟨"com/example/swarm_tally/swarmtally/ChunkMarks", "grow", "(I)V"⟩ : MethodName)) (z := (⟨"com/example/swarm_tally/swarmtally/ChunkMarks", "grow", "(I)V"⟩ : MethodName)) hown (mvT hZ (hw _ (List.mem_of_getElem? (i := 13) rfl))) (mvT hZ (hw _ (List.mem_of_getElem? (i := 14) rfl))) (notFace_of_selects (args := #[]) (mvT hZ (hw _ (List.mem_of_getElem? (i := 16) rfl)))) (mvT hZ (hw _ (List.mem_of_getElem? (i := 16) rfl))) (mvT hZ (hw _ (List.mem_of_getElem? (i := 15) rfl))) (by decide) (backOf (W := 0) (rm_grow_3 l Z av0 hw [] b144 v140 ar_147 T147.heap n0 (Nat.le_trans Z0 K147.1) FP147_0 FP147_1 FP147_2 F148 G_b144 (own_chunk3 hv_v140) ne_b144_ar_147) hZ (hw _ (List.mem_of_getElem? (i := 17) rfl)) (hw _ (List.mem_of_getElem? (i := 3) rfl)) (by decide) (by decide)) q150a q150c (g := (mkF m 119 #[iv p0, iv p1, iv p2, iv p3, iv p4, iv (3 : Int32), iv v140, iv v141, iv v142, iv ma, iv mb, iv sm, iv fr, rv b144, .unset, .unset, .unset, .unset] [(.int v140), (.ref b144)])) rfl (by rw [hml]; rfl) (Steps.refl _) (argsL := [(.int v140)]) (rest := []) (lenOf own_pd3 rfl) rfl (by show 2 * 0 + _ ≤ _; exact Nat.le_of_eq rfl) (hb hby at_119) (fun _ _ => ⟨rfl, rfl, (by decide : 2 + 1 ≤ _), (by decide : 2 + 3 ≤ _)⟩)
      dsimp only [Pt.U, Pt.locs, Pt.cells, Pt.slots] at X150 l150 y150 z150 st150 hQ150
      subst l150 y150 z150
      obtain ⟨ar2_150, rfl, N150q, Kq150, sq150_ar2_150, FP150_0, FP150_1, FP150_2⟩ := hQ150
      have N150 := Fr.app N147 N150q
      have K150 : Keep h0 T150.heap [] := K147.trans Kq150 (allS (Or.inr sz_b144) all0)
      have ne_b144_ar2_150 : b144 ≠ ar2_150 := Nat.ne_of_lt (Nat.lt_of_lt_of_le FP147_0.lt sq150_ar2_150)
      have ne_ar_147_ar2_150 : ar_147 ≠ ar2_150 := Nat.ne_of_lt (Nat.lt_of_lt_of_le FP147_2.lt sq150_ar2_150)
      have sz_ar2_150 : h0.size ≤ ar2_150 := Nat.le_trans K147.1 sq150_ar2_150
      have G_ar2_150 : n0 ≤ ar2_150 := Nat.le_trans Z0 sz_ar2_150
      have F151 : Sta Z T150.heap "com/example/swarm_tally/swarmtally/ChunkMarks" "CHUNK_SHIFT" "I" (.int (10 : Int32)) := ownStaKeep F148 Kq150 (allS (ownNstE FP147_0) all0)
      have F152 : Exa Z T150.heap b144 "com/example/swarm_tally/swarmtally/ChunkMarks" := FP147_0.keep Kq150
      have F153 : ownAI Z T150.heap ar_147 .boolean 1 (fun _ => (0 : Int32)) := FP147_2.keep Kq150 (ninS (Ne.symm ne_b144_ar_147) nin0)
      refine ownRun (T' := T150) (f' := (mkF m 122 #[iv p0, iv p1, iv p2, iv p3, iv p4, iv (3 : Int32), iv v140, iv v141, iv v142, iv ma, iv mb, iv sm, iv fr, rv b144, .unset, .unset, .unset, .unset] [])) st150 ?_
      refine ow_iload (q := 124) X150 hx (hb hby at_122) rfl rfl ?_
      by_cases hc124_154 : ma = (0 : Int32)
      · refine ow_ifYes (q := 134) X150 hx (hb hby at_124) (Jvm.Free.XT.i0_eq_t hc124_154) (by decide) (by decide) ?_
        refine ow_iload (q := 136) X150 hx (hb hby at_134) rfl rfl ?_
        by_cases hc136_155 : mb = (0 : Int32)
        · refine ow_ifYes (q := 146) X150 hx (hb hby at_136) (Jvm.Free.XT.i0_eq_t hc136_155) (by decide) (by decide) ?_
          refine ow_aload (q := 148) X150 hx (hb hby at_146) rfl rfl rfl ?_
          refine ow_iload (q := 150) X150 hx (hb hby at_148) rfl rfl ?_
          obtain ⟨cq156, kq156, q156a, q156b, q156c⟩ := isOf hZ rfl FP150_0
          obtain ⟨_, _, ⟨T156, L156, k156, n156⟩, -, X156, ⟨Lc156, hQ156, l156, y156, z156⟩, st156⟩ := X150.virtualBack hx (y := (⟨"com/example/swarm_tally/swarmtally/ChunkMarks", "next", "(I)I"⟩ : MethodName)) (z := (⟨"com/example/swarm_tally/swarmtally/ChunkMarks", "next", "(I)I"⟩ : MethodName)) hown (mvT hZ (hw _ (List.mem_of_getElem? (i := 20) rfl))) (mvT hZ (hw _ (List.mem_of_getElem? (i := 21) rfl))) (notFace_of_selects (args := #[]) (mvT hZ (hw _ (List.mem_of_getElem? (i := 23) rfl)))) (mvT hZ (hw _ (List.mem_of_getElem? (i := 23) rfl))) (mvT hZ (hw _ (List.mem_of_getElem? (i := 22) rfl))) (by decide) (backOf (W := 0) (rm_next_3 l Z av0 hw [] b144 fr ar2_150 (fun _ => (0 : Int32)) T150.heap n0 (Nat.le_trans Z0 K150.1) FP150_1 FP150_2 hfr) hZ (hw _ (List.mem_of_getElem? (i := 24) rfl)) (hw _ (List.mem_of_getElem? (i := 3) rfl)) (by decide) (by decide)) q156a q156c (g := (mkF m 150 #[iv p0, iv p1, iv p2, iv p3, iv p4, iv (3 : Int32), iv v140, iv v141, iv v142, iv ma, iv mb, iv sm, iv fr, rv b144, .unset, .unset, .unset, .unset] [(.int fr), (.ref b144)])) rfl (by rw [hml]; rfl) (Steps.refl _) (argsL := [(.int fr)]) (rest := []) (lenOf own_pd4 rfl) rfl (by show 2 * 0 + _ ≤ _; exact Nat.le_of_eq rfl) (hb hby at_150) (fun _ _ => ⟨rfl, rfl, (by decide : 3 + 0 ≤ _), (by decide : 5 + 0 ≤ _)⟩)
          dsimp only [Pt.U, Pt.locs, Pt.cells, Pt.slots] at X156 l156 y156 z156 st156 hQ156
          subst l156 y156 z156
          obtain ⟨rfl, N156q, e156⟩ := hQ156
          have N156 := Fr.app N150 N156q
          refine ownRun (T' := T156) (f' := (mkF m 153 #[iv p0, iv p1, iv p2, iv p3, iv p4, iv (3 : Int32), iv v140, iv v141, iv v142, iv ma, iv mb, iv sm, iv fr, rv b144, .unset, .unset, .unset, .unset] [(.int (own_next (fun _ => (0 : Int32)) 3 fr))])) st156 ?_
          generalize hv_v157 : (own_next (fun _ => (0 : Int32)) 3 fr) = v157
          refine ow_istore (q := 155) X156 hx (L' := #[iv p0, iv p1, iv p2, iv p3, iv p4, iv (3 : Int32), iv v140, iv v141, iv v142, iv ma, iv mb, iv sm, iv fr, rv b144, iv v157, .unset, .unset, .unset]) (hb hby at_153) rfl rfl ?_
          refine ow_iload (q := 157) X156 hx (hb hby at_155) rfl rfl ?_
          refine ow_sipush (q := 160) X156 hx (1024 : Int32) (hb hby at_157) rfl rfl ?_
          refine ow_idiv (q := 161) X156 hx _ (hb hby at_160) rfl (by decide) rfl ?_
          generalize hv_v158 : (v141 / (1024 : Int32)) = v158
          refine ow_istore (q := 163) X156 hx (L' := #[iv p0, iv p1, iv p2, iv p3, iv p4, iv (3 : Int32), iv v140, iv v141, iv v142, iv ma, iv mb, iv sm, iv fr, rv b144, iv v157, iv v158, .unset, .unset]) (hb hby at_161) rfl rfl ?_
          refine ow_iload (q := 165) X156 hx (hb hby at_163) rfl rfl ?_
          refine ow_sipush (q := 168) X156 hx (1024 : Int32) (hb hby at_165) rfl rfl ?_
          refine ow_idiv (q := 169) X156 hx _ (hb hby at_168) rfl (by decide) rfl ?_
          generalize hv_v159 : (v142 / (1024 : Int32)) = v159
          refine ow_istore (q := 171) X156 hx (L' := #[iv p0, iv p1, iv p2, iv p3, iv p4, iv (3 : Int32), iv v140, iv v141, iv v142, iv ma, iv mb, iv sm, iv fr, rv b144, iv v157, iv v158, iv v159, .unset]) (hb hby at_169) rfl rfl ?_
          refine ow_iconst (q := 172) X156 hx (-1 : Int32) (hb hby at_171) rfl rfl ?_
          refine ow_istore (q := 174) X156 hx (L' := #[iv p0, iv p1, iv p2, iv p3, iv p4, iv (3 : Int32), iv v140, iv v141, iv v142, iv ma, iv mb, iv sm, iv fr, rv b144, iv v157, iv v158, iv v159, iv (-1 : Int32)]) (hb hby at_172) rfl rfl ?_
          have cut218_160 : ∀ (be : Int32) (Tc160 : State) (lc160 : List Loc), Stand p l e room_1 s m #[(.int p0), (.int p1), (.int p2), (.int p3), (.int p4)] below meth c Tc160 lc160 3 5 → Tc160.heap = T150.heap → Fr n0 lc160 → (be = own_best ma mb v158 v159 fr) → ownEnds p e below s (Q_law Z p0 p1 p2 p3 p4 h0 n0) 16 128 Tc160 (mkF m 218 #[iv p0, iv p1, iv p2, iv p3, iv p4, iv (3 : Int32), iv v140, iv v141, iv v142, iv ma, iv mb, iv sm, iv fr, rv b144, iv v157, iv v158, iv v159, iv be] []) := by
            intro be Tc160 lc160 Xc160 ec160 Nc160 hbe
            refine ow_iload (q := 220) Xc160 hx (hb hby at_218) rfl rfl ?_
            refine ow_iload (q := 222) Xc160 hx (hb hby at_220) rfl rfl ?_
            refine ow_icmpNo (q := 225) Xc160 hx (hb hby at_222) rfl (Jvm.Free.XT.ii_ne_f (by rw [hbe, ← hv_v157]; exact own_final (own_g00 hc124_154 hc136_155) (own_ca (own_a (n := 3) hv_v141 hv_v140) hv_v158) (own_ca (own_a (n := 3) hv_v142 hv_v140) hv_v159) (own_il (own_a (n := 3) hv_v141 hv_v140)) (own_il (own_a (n := 3) hv_v142 hv_v140)) hfr)) ?_
            refine ow_iconst (q := 226) Xc160 hx (1 : Int32) (hb hby at_225) rfl rfl ?_
            refine ow_goto (q := 230) Xc160 hx (hb hby at_226) (by decide) (by decide) ?_
            refine ownRetN Xc160 hx (r := (1 : Int32)) (Or.inl rfl) Bd.returns (hb hby at_230) hlk (by decide) (by decide) (by decide) ?_
            exact ⟨rfl, Nc160⟩
          refine ow_iload (q := 176) X156 hx (hb hby at_174) rfl rfl ?_
          refine ow_ifYes (q := 190) X156 hx (hb hby at_176) (Jvm.Free.XT.i0_eq_t hc124_154) (by decide) (by decide) ?_
          refine ow_iload (q := 192) X156 hx (hb hby at_190) rfl rfl ?_
          refine ow_ifYes (q := 218) X156 hx (hb hby at_192) (Jvm.Free.XT.i0_eq_t hc136_155) (by decide) (by decide) ?_
          exact cut218_160 (-1 : Int32) _ _ X156 e156 N156 (by simp [own_best, hc124_154, hc136_155])
        · refine ow_ifNo (q := 139) X150 hx (hb hby at_136) rfl (Jvm.Free.XT.i0_eq_f hc136_155) ?_
          refine ow_aload (q := 141) X150 hx (hb hby at_139) rfl rfl rfl ?_
          refine ow_iload (q := 143) X150 hx (hb hby at_141) rfl rfl ?_
          obtain ⟨cq161, kq161, q161a, q161b, q161c⟩ := isOf hZ rfl FP150_0
          obtain ⟨_, _, ⟨T161, L161, k161, n161⟩, -, X161, ⟨Lc161, hQ161, l161, y161, z161⟩, st161⟩ := X150.virtualBack hx (y := (⟨"com/example/swarm_tally/swarmtally/ChunkMarks", "mark", "(I)V"⟩ : MethodName)) (z := (⟨"com/example/swarm_tally/swarmtally/ChunkMarks", "mark", "(I)V"⟩ : MethodName)) hown (mvT hZ (hw _ (List.mem_of_getElem? (i := 37) rfl))) (mvT hZ (hw _ (List.mem_of_getElem? (i := 38) rfl))) (notFace_of_selects (args := #[]) (mvT hZ (hw _ (List.mem_of_getElem? (i := 40) rfl)))) (mvT hZ (hw _ (List.mem_of_getElem? (i := 40) rfl))) (mvT hZ (hw _ (List.mem_of_getElem? (i := 39) rfl))) (by decide) (backOf (W := 0) (rm_mark_3 l Z av0 hw [] b144 v142 ar2_150 (fun _ => (0 : Int32)) T150.heap n0 (Nat.le_trans Z0 K150.1) FP150_1 FP150_2 F151 G_ar2_150 (own_in (own_a (n := 3) hv_v142 hv_v140)) ne_b144_ar2_150) hZ (hw _ (List.mem_of_getElem? (i := 41) rfl)) (hw _ (List.mem_of_getElem? (i := 3) rfl)) (by decide) (by decide)) q161a q161c (g := (mkF m 143 #[iv p0, iv p1, iv p2, iv p3, iv p4, iv (3 : Int32), iv v140, iv v141, iv v142, iv ma, iv mb, iv sm, iv fr, rv b144, .unset, .unset, .unset, .unset] [(.int v142), (.ref b144)])) rfl (by rw [hml]; rfl) (Steps.refl _) (argsL := [(.int v142)]) (rest := []) (lenOf own_pd3 rfl) rfl (by show 2 * 0 + _ ≤ _; exact Nat.le_of_eq rfl) (hb hby at_143) (fun _ _ => ⟨rfl, rfl, (by decide : 3 + 0 ≤ _), (by decide : 5 + 0 ≤ _)⟩)
          dsimp only [Pt.U, Pt.locs, Pt.cells, Pt.slots] at X161 l161 y161 z161 st161 hQ161
          subst l161 y161 z161
          obtain ⟨rfl, N161q, Kq161, FP161_0⟩ := hQ161
          have N161 := Fr.app N150 N161q
          have K161 : Keep h0 T161.heap [] := K150.trans Kq161 (allS (Or.inr sz_ar2_150) all0)
          have F162 : Sta Z T161.heap "com/example/swarm_tally/swarmtally/ChunkMarks" "CHUNK_SHIFT" "I" (.int (10 : Int32)) := ownStaKeep F151 Kq161 (allS (ownNstI FP150_2) all0)
          have F163 : Exa Z T161.heap b144 "com/example/swarm_tally/swarmtally/ChunkMarks" := FP150_0.keep Kq161
          have F164 : ownAI Z T161.heap ar_147 .boolean 1 (fun _ => (0 : Int32)) := F153.keep Kq161 (ninS ne_ar_147_ar2_150 nin0)
          have F165 : Fld Z T161.heap b144 "com/example/swarm_tally/swarmtally/ChunkMarks" "changed" "[Z" (.ref ar2_150) := FP150_1.keep Kq161 (ninS ne_b144_ar2_150 nin0)
          refine ownRun (T' := T161) (f' := (mkF m 146 #[iv p0, iv p1, iv p2, iv p3, iv p4, iv (3 : Int32), iv v140, iv v141, iv v142, iv ma, iv mb, iv sm, iv fr, rv b144, .unset, .unset, .unset, .unset] [])) st161 ?_
          refine ow_aload (q := 148) X161 hx (hb hby at_146) rfl rfl rfl ?_
          refine ow_iload (q := 150) X161 hx (hb hby at_148) rfl rfl ?_
          obtain ⟨cq166, kq166, q166a, q166b, q166c⟩ := isOf hZ rfl F163
          obtain ⟨_, _, ⟨T166, L166, k166, n166⟩, -, X166, ⟨Lc166, hQ166, l166, y166, z166⟩, st166⟩ := X161.virtualBack hx (y := (⟨"com/example/swarm_tally/swarmtally/ChunkMarks", "next", "(I)I"⟩ : MethodName)) (z := (⟨"com/example/swarm_tally/swarmtally/ChunkMarks", "next", "(I)I"⟩ : MethodName)) hown (mvT hZ (hw _ (List.mem_of_getElem? (i := 20) rfl))) (mvT hZ (hw _ (List.mem_of_getElem? (i := 21) rfl))) (notFace_of_selects (args := #[]) (mvT hZ (hw _ (List.mem_of_getElem? (i := 23) rfl)))) (mvT hZ (hw _ (List.mem_of_getElem? (i := 23) rfl))) (mvT hZ (hw _ (List.mem_of_getElem? (i := 22) rfl))) (by decide) (backOf (W := 0) (rm_next_3 l Z av0 hw [] b144 fr ar2_150 (ownUpd (fun _ => (0 : Int32)) (own_ix v142) (1 : Int32)) T161.heap n0 (Nat.le_trans Z0 K161.1) F165 FP161_0 hfr) hZ (hw _ (List.mem_of_getElem? (i := 24) rfl)) (hw _ (List.mem_of_getElem? (i := 3) rfl)) (by decide) (by decide)) q166a q166c (g := (mkF m 150 #[iv p0, iv p1, iv p2, iv p3, iv p4, iv (3 : Int32), iv v140, iv v141, iv v142, iv ma, iv mb, iv sm, iv fr, rv b144, .unset, .unset, .unset, .unset] [(.int fr), (.ref b144)])) rfl (by rw [hml]; rfl) (Steps.refl _) (argsL := [(.int fr)]) (rest := []) (lenOf own_pd4 rfl) rfl (by show 2 * 0 + _ ≤ _; exact Nat.le_of_eq rfl) (hb hby at_150) (fun _ _ => ⟨rfl, rfl, (by decide : 3 + 0 ≤ _), (by decide : 5 + 0 ≤ _)⟩)
          dsimp only [Pt.U, Pt.locs, Pt.cells, Pt.slots] at X166 l166 y166 z166 st166 hQ166
          subst l166 y166 z166
          obtain ⟨rfl, N166q, e166⟩ := hQ166
          have N166 := Fr.app N161 N166q
          refine ownRun (T' := T166) (f' := (mkF m 153 #[iv p0, iv p1, iv p2, iv p3, iv p4, iv (3 : Int32), iv v140, iv v141, iv v142, iv ma, iv mb, iv sm, iv fr, rv b144, .unset, .unset, .unset, .unset] [(.int (own_next (ownUpd (fun _ => (0 : Int32)) (own_ix v142) (1 : Int32)) 3 fr))])) st166 ?_
          generalize hv_v167 : (own_next (ownUpd (fun _ => (0 : Int32)) (own_ix v142) (1 : Int32)) 3 fr) = v167
          refine ow_istore (q := 155) X166 hx (L' := #[iv p0, iv p1, iv p2, iv p3, iv p4, iv (3 : Int32), iv v140, iv v141, iv v142, iv ma, iv mb, iv sm, iv fr, rv b144, iv v167, .unset, .unset, .unset]) (hb hby at_153) rfl rfl ?_
          refine ow_iload (q := 157) X166 hx (hb hby at_155) rfl rfl ?_
          refine ow_sipush (q := 160) X166 hx (1024 : Int32) (hb hby at_157) rfl rfl ?_
          refine ow_idiv (q := 161) X166 hx _ (hb hby at_160) rfl (by decide) rfl ?_
          generalize hv_v168 : (v141 / (1024 : Int32)) = v168
          refine ow_istore (q := 163) X166 hx (L' := #[iv p0, iv p1, iv p2, iv p3, iv p4, iv (3 : Int32), iv v140, iv v141, iv v142, iv ma, iv mb, iv sm, iv fr, rv b144, iv v167, iv v168, .unset, .unset]) (hb hby at_161) rfl rfl ?_
          refine ow_iload (q := 165) X166 hx (hb hby at_163) rfl rfl ?_
          refine ow_sipush (q := 168) X166 hx (1024 : Int32) (hb hby at_165) rfl rfl ?_
          refine ow_idiv (q := 169) X166 hx _ (hb hby at_168) rfl (by decide) rfl ?_
          generalize hv_v169 : (v142 / (1024 : Int32)) = v169
          refine ow_istore (q := 171) X166 hx (L' := #[iv p0, iv p1, iv p2, iv p3, iv p4, iv (3 : Int32), iv v140, iv v141, iv v142, iv ma, iv mb, iv sm, iv fr, rv b144, iv v167, iv v168, iv v169, .unset]) (hb hby at_169) rfl rfl ?_
          refine ow_iconst (q := 172) X166 hx (-1 : Int32) (hb hby at_171) rfl rfl ?_
          refine ow_istore (q := 174) X166 hx (L' := #[iv p0, iv p1, iv p2, iv p3, iv p4, iv (3 : Int32), iv v140, iv v141, iv v142, iv ma, iv mb, iv sm, iv fr, rv b144, iv v167, iv v168, iv v169, iv (-1 : Int32)]) (hb hby at_172) rfl rfl ?_
          have cut218_170 : ∀ (be : Int32) (Tc170 : State) (lc170 : List Loc), Stand p l e room_1 s m #[(.int p0), (.int p1), (.int p2), (.int p3), (.int p4)] below meth c Tc170 lc170 3 5 → Tc170.heap = T161.heap → Fr n0 lc170 → (be = own_best ma mb v168 v169 fr) → ownEnds p e below s (Q_law Z p0 p1 p2 p3 p4 h0 n0) 16 128 Tc170 (mkF m 218 #[iv p0, iv p1, iv p2, iv p3, iv p4, iv (3 : Int32), iv v140, iv v141, iv v142, iv ma, iv mb, iv sm, iv fr, rv b144, iv v167, iv v168, iv v169, iv be] []) := by
            intro be Tc170 lc170 Xc170 ec170 Nc170 hbe
            refine ow_iload (q := 220) Xc170 hx (hb hby at_218) rfl rfl ?_
            refine ow_iload (q := 222) Xc170 hx (hb hby at_220) rfl rfl ?_
            refine ow_icmpNo (q := 225) Xc170 hx (hb hby at_222) rfl (Jvm.Free.XT.ii_ne_f (by rw [hbe, ← hv_v167]; exact own_final (own_g01 hc124_154 hc136_155) (own_ca (own_a (n := 3) hv_v141 hv_v140) hv_v168) (own_ca (own_a (n := 3) hv_v142 hv_v140) hv_v169) (own_il (own_a (n := 3) hv_v141 hv_v140)) (own_il (own_a (n := 3) hv_v142 hv_v140)) hfr)) ?_
            refine ow_iconst (q := 226) Xc170 hx (1 : Int32) (hb hby at_225) rfl rfl ?_
            refine ow_goto (q := 230) Xc170 hx (hb hby at_226) (by decide) (by decide) ?_
            refine ownRetN Xc170 hx (r := (1 : Int32)) (Or.inl rfl) Bd.returns (hb hby at_230) hlk (by decide) (by decide) (by decide) ?_
            exact ⟨rfl, Nc170⟩
          refine ow_iload (q := 176) X166 hx (hb hby at_174) rfl rfl ?_
          refine ow_ifYes (q := 190) X166 hx (hb hby at_176) (Jvm.Free.XT.i0_eq_t hc124_154) (by decide) (by decide) ?_
          refine ow_iload (q := 192) X166 hx (hb hby at_190) rfl rfl ?_
          refine ow_ifNo (q := 195) X166 hx (hb hby at_192) rfl (Jvm.Free.XT.i0_eq_f hc136_155) ?_
          refine ow_iload (q := 197) X166 hx (hb hby at_195) rfl rfl ?_
          refine ow_iload (q := 199) X166 hx (hb hby at_197) rfl rfl ?_
          by_cases hc199_171 : v169 < fr
          · refine ow_icmpYes (q := 218) X166 hx (hb hby at_199) (Jvm.Free.XT.ii_lt_t hc199_171) (by decide) (by decide) ?_
            exact cut218_170 (-1 : Int32) _ _ X166 e166 N166 (by simp [own_best, hc124_154, hc136_155, hc199_171])
          · refine ow_icmpNo (q := 202) X166 hx (hb hby at_199) rfl (Jvm.Free.XT.ii_lt_f hc199_171) ?_
            refine ow_iload (q := 204) X166 hx (hb hby at_202) rfl rfl ?_
            refine ow_ifYes (q := 214) X166 hx (hb hby at_204) (Jvm.Free.XT.i0_lt_t (by decide)) (by decide) (by decide) ?_
            refine ow_iload (q := 216) X166 hx (hb hby at_214) rfl rfl ?_
            refine ow_istore (q := 218) X166 hx (L' := #[iv p0, iv p1, iv p2, iv p3, iv p4, iv (3 : Int32), iv v140, iv v141, iv v142, iv ma, iv mb, iv sm, iv fr, rv b144, iv v167, iv v168, iv v169, iv v169]) (hb hby at_216) rfl rfl ?_
            exact cut218_170 v169 _ _ X166 e166 N166 (by simp [own_best, hc124_154, hc136_155, hc199_171])
      · refine ow_ifNo (q := 127) X150 hx (hb hby at_124) rfl (Jvm.Free.XT.i0_eq_f hc124_154) ?_
        refine ow_aload (q := 129) X150 hx (hb hby at_127) rfl rfl rfl ?_
        refine ow_iload (q := 131) X150 hx (hb hby at_129) rfl rfl ?_
        obtain ⟨cq172, kq172, q172a, q172b, q172c⟩ := isOf hZ rfl FP150_0
        obtain ⟨_, _, ⟨T172, L172, k172, n172⟩, -, X172, ⟨Lc172, hQ172, l172, y172, z172⟩, st172⟩ := X150.virtualBack hx (y := (⟨"com/example/swarm_tally/swarmtally/ChunkMarks", "mark", "(I)V"⟩ : MethodName)) (z := (⟨"com/example/swarm_tally/swarmtally/ChunkMarks", "mark", "(I)V"⟩ : MethodName)) hown (mvT hZ (hw _ (List.mem_of_getElem? (i := 37) rfl))) (mvT hZ (hw _ (List.mem_of_getElem? (i := 38) rfl))) (notFace_of_selects (args := #[]) (mvT hZ (hw _ (List.mem_of_getElem? (i := 40) rfl)))) (mvT hZ (hw _ (List.mem_of_getElem? (i := 40) rfl))) (mvT hZ (hw _ (List.mem_of_getElem? (i := 39) rfl))) (by decide) (backOf (W := 0) (rm_mark_3 l Z av0 hw [] b144 v141 ar2_150 (fun _ => (0 : Int32)) T150.heap n0 (Nat.le_trans Z0 K150.1) FP150_1 FP150_2 F151 G_ar2_150 (own_in (own_a (n := 3) hv_v141 hv_v140)) ne_b144_ar2_150) hZ (hw _ (List.mem_of_getElem? (i := 41) rfl)) (hw _ (List.mem_of_getElem? (i := 3) rfl)) (by decide) (by decide)) q172a q172c (g := (mkF m 131 #[iv p0, iv p1, iv p2, iv p3, iv p4, iv (3 : Int32), iv v140, iv v141, iv v142, iv ma, iv mb, iv sm, iv fr, rv b144, .unset, .unset, .unset, .unset] [(.int v141), (.ref b144)])) rfl (by rw [hml]; rfl) (Steps.refl _) (argsL := [(.int v141)]) (rest := []) (lenOf own_pd3 rfl) rfl (by show 2 * 0 + _ ≤ _; exact Nat.le_of_eq rfl) (hb hby at_131) (fun _ _ => ⟨rfl, rfl, (by decide : 3 + 0 ≤ _), (by decide : 5 + 0 ≤ _)⟩)
        dsimp only [Pt.U, Pt.locs, Pt.cells, Pt.slots] at X172 l172 y172 z172 st172 hQ172
        subst l172 y172 z172
        obtain ⟨rfl, N172q, Kq172, FP172_0⟩ := hQ172
        have N172 := Fr.app N150 N172q
        have K172 : Keep h0 T172.heap [] := K150.trans Kq172 (allS (Or.inr sz_ar2_150) all0)
        have F173 : Sta Z T172.heap "com/example/swarm_tally/swarmtally/ChunkMarks" "CHUNK_SHIFT" "I" (.int (10 : Int32)) := ownStaKeep F151 Kq172 (allS (ownNstI FP150_2) all0)
        have F174 : Exa Z T172.heap b144 "com/example/swarm_tally/swarmtally/ChunkMarks" := FP150_0.keep Kq172
        have F175 : ownAI Z T172.heap ar_147 .boolean 1 (fun _ => (0 : Int32)) := F153.keep Kq172 (ninS ne_ar_147_ar2_150 nin0)
        have F176 : Fld Z T172.heap b144 "com/example/swarm_tally/swarmtally/ChunkMarks" "changed" "[Z" (.ref ar2_150) := FP150_1.keep Kq172 (ninS ne_b144_ar2_150 nin0)
        refine ownRun (T' := T172) (f' := (mkF m 134 #[iv p0, iv p1, iv p2, iv p3, iv p4, iv (3 : Int32), iv v140, iv v141, iv v142, iv ma, iv mb, iv sm, iv fr, rv b144, .unset, .unset, .unset, .unset] [])) st172 ?_
        refine ow_iload (q := 136) X172 hx (hb hby at_134) rfl rfl ?_
        by_cases hc136_177 : mb = (0 : Int32)
        · refine ow_ifYes (q := 146) X172 hx (hb hby at_136) (Jvm.Free.XT.i0_eq_t hc136_177) (by decide) (by decide) ?_
          refine ow_aload (q := 148) X172 hx (hb hby at_146) rfl rfl rfl ?_
          refine ow_iload (q := 150) X172 hx (hb hby at_148) rfl rfl ?_
          obtain ⟨cq178, kq178, q178a, q178b, q178c⟩ := isOf hZ rfl F174
          obtain ⟨_, _, ⟨T178, L178, k178, n178⟩, -, X178, ⟨Lc178, hQ178, l178, y178, z178⟩, st178⟩ := X172.virtualBack hx (y := (⟨"com/example/swarm_tally/swarmtally/ChunkMarks", "next", "(I)I"⟩ : MethodName)) (z := (⟨"com/example/swarm_tally/swarmtally/ChunkMarks", "next", "(I)I"⟩ : MethodName)) hown (mvT hZ (hw _ (List.mem_of_getElem? (i := 20) rfl))) (mvT hZ (hw _ (List.mem_of_getElem? (i := 21) rfl))) (notFace_of_selects (args := #[]) (mvT hZ (hw _ (List.mem_of_getElem? (i := 23) rfl)))) (mvT hZ (hw _ (List.mem_of_getElem? (i := 23) rfl))) (mvT hZ (hw _ (List.mem_of_getElem? (i := 22) rfl))) (by decide) (backOf (W := 0) (rm_next_3 l Z av0 hw [] b144 fr ar2_150 (ownUpd (fun _ => (0 : Int32)) (own_ix v141) (1 : Int32)) T172.heap n0 (Nat.le_trans Z0 K172.1) F176 FP172_0 hfr) hZ (hw _ (List.mem_of_getElem? (i := 24) rfl)) (hw _ (List.mem_of_getElem? (i := 3) rfl)) (by decide) (by decide)) q178a q178c (g := (mkF m 150 #[iv p0, iv p1, iv p2, iv p3, iv p4, iv (3 : Int32), iv v140, iv v141, iv v142, iv ma, iv mb, iv sm, iv fr, rv b144, .unset, .unset, .unset, .unset] [(.int fr), (.ref b144)])) rfl (by rw [hml]; rfl) (Steps.refl _) (argsL := [(.int fr)]) (rest := []) (lenOf own_pd4 rfl) rfl (by show 2 * 0 + _ ≤ _; exact Nat.le_of_eq rfl) (hb hby at_150) (fun _ _ => ⟨rfl, rfl, (by decide : 3 + 0 ≤ _), (by decide : 5 + 0 ≤ _)⟩)
          dsimp only [Pt.U, Pt.locs, Pt.cells, Pt.slots] at X178 l178 y178 z178 st178 hQ178
          subst l178 y178 z178
          obtain ⟨rfl, N178q, e178⟩ := hQ178
          have N178 := Fr.app N172 N178q
          refine ownRun (T' := T178) (f' := (mkF m 153 #[iv p0, iv p1, iv p2, iv p3, iv p4, iv (3 : Int32), iv v140, iv v141, iv v142, iv ma, iv mb, iv sm, iv fr, rv b144, .unset, .unset, .unset, .unset] [(.int (own_next (ownUpd (fun _ => (0 : Int32)) (own_ix v141) (1 : Int32)) 3 fr))])) st178 ?_
          generalize hv_v179 : (own_next (ownUpd (fun _ => (0 : Int32)) (own_ix v141) (1 : Int32)) 3 fr) = v179
          refine ow_istore (q := 155) X178 hx (L' := #[iv p0, iv p1, iv p2, iv p3, iv p4, iv (3 : Int32), iv v140, iv v141, iv v142, iv ma, iv mb, iv sm, iv fr, rv b144, iv v179, .unset, .unset, .unset]) (hb hby at_153) rfl rfl ?_
          refine ow_iload (q := 157) X178 hx (hb hby at_155) rfl rfl ?_
          refine ow_sipush (q := 160) X178 hx (1024 : Int32) (hb hby at_157) rfl rfl ?_
          refine ow_idiv (q := 161) X178 hx _ (hb hby at_160) rfl (by decide) rfl ?_
          generalize hv_v180 : (v141 / (1024 : Int32)) = v180
          refine ow_istore (q := 163) X178 hx (L' := #[iv p0, iv p1, iv p2, iv p3, iv p4, iv (3 : Int32), iv v140, iv v141, iv v142, iv ma, iv mb, iv sm, iv fr, rv b144, iv v179, iv v180, .unset, .unset]) (hb hby at_161) rfl rfl ?_
          refine ow_iload (q := 165) X178 hx (hb hby at_163) rfl rfl ?_
          refine ow_sipush (q := 168) X178 hx (1024 : Int32) (hb hby at_165) rfl rfl ?_
          refine ow_idiv (q := 169) X178 hx _ (hb hby at_168) rfl (by decide) rfl ?_
          generalize hv_v181 : (v142 / (1024 : Int32)) = v181
          refine ow_istore (q := 171) X178 hx (L' := #[iv p0, iv p1, iv p2, iv p3, iv p4, iv (3 : Int32), iv v140, iv v141, iv v142, iv ma, iv mb, iv sm, iv fr, rv b144, iv v179, iv v180, iv v181, .unset]) (hb hby at_169) rfl rfl ?_
          refine ow_iconst (q := 172) X178 hx (-1 : Int32) (hb hby at_171) rfl rfl ?_
          refine ow_istore (q := 174) X178 hx (L' := #[iv p0, iv p1, iv p2, iv p3, iv p4, iv (3 : Int32), iv v140, iv v141, iv v142, iv ma, iv mb, iv sm, iv fr, rv b144, iv v179, iv v180, iv v181, iv (-1 : Int32)]) (hb hby at_172) rfl rfl ?_
          have cut218_182 : ∀ (be : Int32) (Tc182 : State) (lc182 : List Loc), Stand p l e room_1 s m #[(.int p0), (.int p1), (.int p2), (.int p3), (.int p4)] below meth c Tc182 lc182 3 5 → Tc182.heap = T172.heap → Fr n0 lc182 → (be = own_best ma mb v180 v181 fr) → ownEnds p e below s (Q_law Z p0 p1 p2 p3 p4 h0 n0) 16 128 Tc182 (mkF m 218 #[iv p0, iv p1, iv p2, iv p3, iv p4, iv (3 : Int32), iv v140, iv v141, iv v142, iv ma, iv mb, iv sm, iv fr, rv b144, iv v179, iv v180, iv v181, iv be] []) := by
            intro be Tc182 lc182 Xc182 ec182 Nc182 hbe
            refine ow_iload (q := 220) Xc182 hx (hb hby at_218) rfl rfl ?_
            refine ow_iload (q := 222) Xc182 hx (hb hby at_220) rfl rfl ?_
            refine ow_icmpNo (q := 225) Xc182 hx (hb hby at_222) rfl (Jvm.Free.XT.ii_ne_f (by rw [hbe, ← hv_v179]; exact own_final (own_g10 hc124_154 hc136_177) (own_ca (own_a (n := 3) hv_v141 hv_v140) hv_v180) (own_ca (own_a (n := 3) hv_v142 hv_v140) hv_v181) (own_il (own_a (n := 3) hv_v141 hv_v140)) (own_il (own_a (n := 3) hv_v142 hv_v140)) hfr)) ?_
            refine ow_iconst (q := 226) Xc182 hx (1 : Int32) (hb hby at_225) rfl rfl ?_
            refine ow_goto (q := 230) Xc182 hx (hb hby at_226) (by decide) (by decide) ?_
            refine ownRetN Xc182 hx (r := (1 : Int32)) (Or.inl rfl) Bd.returns (hb hby at_230) hlk (by decide) (by decide) (by decide) ?_
            exact ⟨rfl, Nc182⟩
          refine ow_iload (q := 176) X178 hx (hb hby at_174) rfl rfl ?_
          refine ow_ifNo (q := 179) X178 hx (hb hby at_176) rfl (Jvm.Free.XT.i0_eq_f hc124_154) ?_
          refine ow_iload (q := 181) X178 hx (hb hby at_179) rfl rfl ?_
          refine ow_iload (q := 183) X178 hx (hb hby at_181) rfl rfl ?_
          by_cases hc183_183 : v180 < fr
          · refine ow_icmpYes (q := 190) X178 hx (hb hby at_183) (Jvm.Free.XT.ii_lt_t hc183_183) (by decide) (by decide) ?_
            refine ow_iload (q := 192) X178 hx (hb hby at_190) rfl rfl ?_
            refine ow_ifYes (q := 218) X178 hx (hb hby at_192) (Jvm.Free.XT.i0_eq_t hc136_177) (by decide) (by decide) ?_
            exact cut218_182 (-1 : Int32) _ _ X178 e178 N178 (by simp [own_best, hc124_154, hc136_177, hc183_183])
          · refine ow_icmpNo (q := 186) X178 hx (hb hby at_183) rfl (Jvm.Free.XT.ii_lt_f hc183_183) ?_
            refine ow_iload (q := 188) X178 hx (hb hby at_186) rfl rfl ?_
            refine ow_istore (q := 190) X178 hx (L' := #[iv p0, iv p1, iv p2, iv p3, iv p4, iv (3 : Int32), iv v140, iv v141, iv v142, iv ma, iv mb, iv sm, iv fr, rv b144, iv v179, iv v180, iv v181, iv v180]) (hb hby at_188) rfl rfl ?_
            refine ow_iload (q := 192) X178 hx (hb hby at_190) rfl rfl ?_
            refine ow_ifYes (q := 218) X178 hx (hb hby at_192) (Jvm.Free.XT.i0_eq_t hc136_177) (by decide) (by decide) ?_
            exact cut218_182 v180 _ _ X178 e178 N178 (by simp [own_best, hc124_154, hc136_177, hc183_183])
        · refine ow_ifNo (q := 139) X172 hx (hb hby at_136) rfl (Jvm.Free.XT.i0_eq_f hc136_177) ?_
          refine ow_aload (q := 141) X172 hx (hb hby at_139) rfl rfl rfl ?_
          refine ow_iload (q := 143) X172 hx (hb hby at_141) rfl rfl ?_
          obtain ⟨cq184, kq184, q184a, q184b, q184c⟩ := isOf hZ rfl F174
          obtain ⟨_, _, ⟨T184, L184, k184, n184⟩, -, X184, ⟨Lc184, hQ184, l184, y184, z184⟩, st184⟩ := X172.virtualBack hx (y := (⟨"com/example/swarm_tally/swarmtally/ChunkMarks", "mark", "(I)V"⟩ : MethodName)) (z := (⟨"com/example/swarm_tally/swarmtally/ChunkMarks", "mark", "(I)V"⟩ : MethodName)) hown (mvT hZ (hw _ (List.mem_of_getElem? (i := 37) rfl))) (mvT hZ (hw _ (List.mem_of_getElem? (i := 38) rfl))) (notFace_of_selects (args := #[]) (mvT hZ (hw _ (List.mem_of_getElem? (i := 40) rfl)))) (mvT hZ (hw _ (List.mem_of_getElem? (i := 40) rfl))) (mvT hZ (hw _ (List.mem_of_getElem? (i := 39) rfl))) (by decide) (backOf (W := 0) (rm_mark_3 l Z av0 hw [] b144 v142 ar2_150 (ownUpd (fun _ => (0 : Int32)) (own_ix v141) (1 : Int32)) T172.heap n0 (Nat.le_trans Z0 K172.1) F176 FP172_0 F173 G_ar2_150 (own_in (own_a (n := 3) hv_v142 hv_v140)) ne_b144_ar2_150) hZ (hw _ (List.mem_of_getElem? (i := 41) rfl)) (hw _ (List.mem_of_getElem? (i := 3) rfl)) (by decide) (by decide)) q184a q184c (g := (mkF m 143 #[iv p0, iv p1, iv p2, iv p3, iv p4, iv (3 : Int32), iv v140, iv v141, iv v142, iv ma, iv mb, iv sm, iv fr, rv b144, .unset, .unset, .unset, .unset] [(.int v142), (.ref b144)])) rfl (by rw [hml]; rfl) (Steps.refl _) (argsL := [(.int v142)]) (rest := []) (lenOf own_pd3 rfl) rfl (by show 2 * 0 + _ ≤ _; exact Nat.le_of_eq rfl) (hb hby at_143) (fun _ _ => ⟨rfl, rfl, (by decide : 3 + 0 ≤ _), (by decide : 5 + 0 ≤ _)⟩)
          dsimp only [Pt.U, Pt.locs, Pt.cells, Pt.slots] at X184 l184 y184 z184 st184 hQ184
          subst l184 y184 z184
          obtain ⟨rfl, N184q, Kq184, FP184_0⟩ := hQ184
          have N184 := Fr.app N172 N184q
          have K184 : Keep h0 T184.heap [] := K172.trans Kq184 (allS (Or.inr sz_ar2_150) all0)
          have F185 : Sta Z T184.heap "com/example/swarm_tally/swarmtally/ChunkMarks" "CHUNK_SHIFT" "I" (.int (10 : Int32)) := ownStaKeep F173 Kq184 (allS (ownNstI FP172_0) all0)
          have F186 : Exa Z T184.heap b144 "com/example/swarm_tally/swarmtally/ChunkMarks" := F174.keep Kq184
          have F187 : ownAI Z T184.heap ar_147 .boolean 1 (fun _ => (0 : Int32)) := F175.keep Kq184 (ninS ne_ar_147_ar2_150 nin0)
          have F188 : Fld Z T184.heap b144 "com/example/swarm_tally/swarmtally/ChunkMarks" "changed" "[Z" (.ref ar2_150) := F176.keep Kq184 (ninS ne_b144_ar2_150 nin0)
          refine ownRun (T' := T184) (f' := (mkF m 146 #[iv p0, iv p1, iv p2, iv p3, iv p4, iv (3 : Int32), iv v140, iv v141, iv v142, iv ma, iv mb, iv sm, iv fr, rv b144, .unset, .unset, .unset, .unset] [])) st184 ?_
          refine ow_aload (q := 148) X184 hx (hb hby at_146) rfl rfl rfl ?_
          refine ow_iload (q := 150) X184 hx (hb hby at_148) rfl rfl ?_
          obtain ⟨cq189, kq189, q189a, q189b, q189c⟩ := isOf hZ rfl F186
          obtain ⟨_, _, ⟨T189, L189, k189, n189⟩, -, X189, ⟨Lc189, hQ189, l189, y189, z189⟩, st189⟩ := X184.virtualBack hx (y := (⟨"com/example/swarm_tally/swarmtally/ChunkMarks", "next", "(I)I"⟩ : MethodName)) (z := (⟨"com/example/swarm_tally/swarmtally/ChunkMarks", "next", "(I)I"⟩ : MethodName)) hown (mvT hZ (hw _ (List.mem_of_getElem? (i := 20) rfl))) (mvT hZ (hw _ (List.mem_of_getElem? (i := 21) rfl))) (notFace_of_selects (args := #[]) (mvT hZ (hw _ (List.mem_of_getElem? (i := 23) rfl)))) (mvT hZ (hw _ (List.mem_of_getElem? (i := 23) rfl))) (mvT hZ (hw _ (List.mem_of_getElem? (i := 22) rfl))) (by decide) (backOf (W := 0) (rm_next_3 l Z av0 hw [] b144 fr ar2_150 (ownUpd (ownUpd (fun _ => (0 : Int32)) (own_ix v141) (1 : Int32)) (own_ix v142) (1 : Int32)) T184.heap n0 (Nat.le_trans Z0 K184.1) F188 FP184_0 hfr) hZ (hw _ (List.mem_of_getElem? (i := 24) rfl)) (hw _ (List.mem_of_getElem? (i := 3) rfl)) (by decide) (by decide)) q189a q189c (g := (mkF m 150 #[iv p0, iv p1, iv p2, iv p3, iv p4, iv (3 : Int32), iv v140, iv v141, iv v142, iv ma, iv mb, iv sm, iv fr, rv b144, .unset, .unset, .unset, .unset] [(.int fr), (.ref b144)])) rfl (by rw [hml]; rfl) (Steps.refl _) (argsL := [(.int fr)]) (rest := []) (lenOf own_pd4 rfl) rfl (by show 2 * 0 + _ ≤ _; exact Nat.le_of_eq rfl) (hb hby at_150) (fun _ _ => ⟨rfl, rfl, (by decide : 3 + 0 ≤ _), (by decide : 5 + 0 ≤ _)⟩)
          dsimp only [Pt.U, Pt.locs, Pt.cells, Pt.slots] at X189 l189 y189 z189 st189 hQ189
          subst l189 y189 z189
          obtain ⟨rfl, N189q, e189⟩ := hQ189
          have N189 := Fr.app N184 N189q
          refine ownRun (T' := T189) (f' := (mkF m 153 #[iv p0, iv p1, iv p2, iv p3, iv p4, iv (3 : Int32), iv v140, iv v141, iv v142, iv ma, iv mb, iv sm, iv fr, rv b144, .unset, .unset, .unset, .unset] [(.int (own_next (ownUpd (ownUpd (fun _ => (0 : Int32)) (own_ix v141) (1 : Int32)) (own_ix v142) (1 : Int32)) 3 fr))])) st189 ?_
          generalize hv_v190 : (own_next (ownUpd (ownUpd (fun _ => (0 : Int32)) (own_ix v141) (1 : Int32)) (own_ix v142) (1 : Int32)) 3 fr) = v190
          refine ow_istore (q := 155) X189 hx (L' := #[iv p0, iv p1, iv p2, iv p3, iv p4, iv (3 : Int32), iv v140, iv v141, iv v142, iv ma, iv mb, iv sm, iv fr, rv b144, iv v190, .unset, .unset, .unset]) (hb hby at_153) rfl rfl ?_
          refine ow_iload (q := 157) X189 hx (hb hby at_155) rfl rfl ?_
          refine ow_sipush (q := 160) X189 hx (1024 : Int32) (hb hby at_157) rfl rfl ?_
          refine ow_idiv (q := 161) X189 hx _ (hb hby at_160) rfl (by decide) rfl ?_
          generalize hv_v191 : (v141 / (1024 : Int32)) = v191
          refine ow_istore (q := 163) X189 hx (L' := #[iv p0, iv p1, iv p2, iv p3, iv p4, iv (3 : Int32), iv v140, iv v141, iv v142, iv ma, iv mb, iv sm, iv fr, rv b144, iv v190, iv v191, .unset, .unset]) (hb hby at_161) rfl rfl ?_
          refine ow_iload (q := 165) X189 hx (hb hby at_163) rfl rfl ?_
          refine ow_sipush (q := 168) X189 hx (1024 : Int32) (hb hby at_165) rfl rfl ?_
          refine ow_idiv (q := 169) X189 hx _ (hb hby at_168) rfl (by decide) rfl ?_
          generalize hv_v192 : (v142 / (1024 : Int32)) = v192
          refine ow_istore (q := 171) X189 hx (L' := #[iv p0, iv p1, iv p2, iv p3, iv p4, iv (3 : Int32), iv v140, iv v141, iv v142, iv ma, iv mb, iv sm, iv fr, rv b144, iv v190, iv v191, iv v192, .unset]) (hb hby at_169) rfl rfl ?_
          refine ow_iconst (q := 172) X189 hx (-1 : Int32) (hb hby at_171) rfl rfl ?_
          refine ow_istore (q := 174) X189 hx (L' := #[iv p0, iv p1, iv p2, iv p3, iv p4, iv (3 : Int32), iv v140, iv v141, iv v142, iv ma, iv mb, iv sm, iv fr, rv b144, iv v190, iv v191, iv v192, iv (-1 : Int32)]) (hb hby at_172) rfl rfl ?_
          have cut218_193 : ∀ (be : Int32) (Tc193 : State) (lc193 : List Loc), Stand p l e room_1 s m #[(.int p0), (.int p1), (.int p2), (.int p3), (.int p4)] below meth c Tc193 lc193 3 5 → Tc193.heap = T184.heap → Fr n0 lc193 → (be = own_best ma mb v191 v192 fr) → ownEnds p e below s (Q_law Z p0 p1 p2 p3 p4 h0 n0) 16 128 Tc193 (mkF m 218 #[iv p0, iv p1, iv p2, iv p3, iv p4, iv (3 : Int32), iv v140, iv v141, iv v142, iv ma, iv mb, iv sm, iv fr, rv b144, iv v190, iv v191, iv v192, iv be] []) := by
            intro be Tc193 lc193 Xc193 ec193 Nc193 hbe
            refine ow_iload (q := 220) Xc193 hx (hb hby at_218) rfl rfl ?_
            refine ow_iload (q := 222) Xc193 hx (hb hby at_220) rfl rfl ?_
            refine ow_icmpNo (q := 225) Xc193 hx (hb hby at_222) rfl (Jvm.Free.XT.ii_ne_f (by rw [hbe, ← hv_v190]; exact own_final (own_g11 hc124_154 hc136_177) (own_ca (own_a (n := 3) hv_v141 hv_v140) hv_v191) (own_ca (own_a (n := 3) hv_v142 hv_v140) hv_v192) (own_il (own_a (n := 3) hv_v141 hv_v140)) (own_il (own_a (n := 3) hv_v142 hv_v140)) hfr)) ?_
            refine ow_iconst (q := 226) Xc193 hx (1 : Int32) (hb hby at_225) rfl rfl ?_
            refine ow_goto (q := 230) Xc193 hx (hb hby at_226) (by decide) (by decide) ?_
            refine ownRetN Xc193 hx (r := (1 : Int32)) (Or.inl rfl) Bd.returns (hb hby at_230) hlk (by decide) (by decide) (by decide) ?_
            exact ⟨rfl, Nc193⟩
          refine ow_iload (q := 176) X189 hx (hb hby at_174) rfl rfl ?_
          refine ow_ifNo (q := 179) X189 hx (hb hby at_176) rfl (Jvm.Free.XT.i0_eq_f hc124_154) ?_
          refine ow_iload (q := 181) X189 hx (hb hby at_179) rfl rfl ?_
          refine ow_iload (q := 183) X189 hx (hb hby at_181) rfl rfl ?_
          by_cases hc183_194 : v191 < fr
          · refine ow_icmpYes (q := 190) X189 hx (hb hby at_183) (Jvm.Free.XT.ii_lt_t hc183_194) (by decide) (by decide) ?_
            refine ow_iload (q := 192) X189 hx (hb hby at_190) rfl rfl ?_
            refine ow_ifNo (q := 195) X189 hx (hb hby at_192) rfl (Jvm.Free.XT.i0_eq_f hc136_177) ?_
            refine ow_iload (q := 197) X189 hx (hb hby at_195) rfl rfl ?_
            refine ow_iload (q := 199) X189 hx (hb hby at_197) rfl rfl ?_
            by_cases hc199_195 : v192 < fr
            · refine ow_icmpYes (q := 218) X189 hx (hb hby at_199) (Jvm.Free.XT.ii_lt_t hc199_195) (by decide) (by decide) ?_
              exact cut218_193 (-1 : Int32) _ _ X189 e189 N189 (by simp [own_best, hc124_154, hc136_177, hc183_194, hc199_195])
            · refine ow_icmpNo (q := 202) X189 hx (hb hby at_199) rfl (Jvm.Free.XT.ii_lt_f hc199_195) ?_
              refine ow_iload (q := 204) X189 hx (hb hby at_202) rfl rfl ?_
              refine ow_ifYes (q := 214) X189 hx (hb hby at_204) (Jvm.Free.XT.i0_lt_t (by decide)) (by decide) (by decide) ?_
              refine ow_iload (q := 216) X189 hx (hb hby at_214) rfl rfl ?_
              refine ow_istore (q := 218) X189 hx (L' := #[iv p0, iv p1, iv p2, iv p3, iv p4, iv (3 : Int32), iv v140, iv v141, iv v142, iv ma, iv mb, iv sm, iv fr, rv b144, iv v190, iv v191, iv v192, iv v192]) (hb hby at_216) rfl rfl ?_
              exact cut218_193 v192 _ _ X189 e189 N189 (by simp [own_best, hc124_154, hc136_177, hc183_194, hc199_195])
          · refine ow_icmpNo (q := 186) X189 hx (hb hby at_183) rfl (Jvm.Free.XT.ii_lt_f hc183_194) ?_
            refine ow_iload (q := 188) X189 hx (hb hby at_186) rfl rfl ?_
            refine ow_istore (q := 190) X189 hx (L' := #[iv p0, iv p1, iv p2, iv p3, iv p4, iv (3 : Int32), iv v140, iv v141, iv v142, iv ma, iv mb, iv sm, iv fr, rv b144, iv v190, iv v191, iv v192, iv v191]) (hb hby at_188) rfl rfl ?_
            refine ow_iload (q := 192) X189 hx (hb hby at_190) rfl rfl ?_
            refine ow_ifNo (q := 195) X189 hx (hb hby at_192) rfl (Jvm.Free.XT.i0_eq_f hc136_177) ?_
            refine ow_iload (q := 197) X189 hx (hb hby at_195) rfl rfl ?_
            refine ow_iload (q := 199) X189 hx (hb hby at_197) rfl rfl ?_
            by_cases hc199_196 : v192 < fr
            · refine ow_icmpYes (q := 218) X189 hx (hb hby at_199) (Jvm.Free.XT.ii_lt_t hc199_196) (by decide) (by decide) ?_
              exact cut218_193 v191 _ _ X189 e189 N189 (by simp [own_best, hc124_154, hc136_177, hc183_194, hc199_196])
            · refine ow_icmpNo (q := 202) X189 hx (hb hby at_199) rfl (Jvm.Free.XT.ii_lt_f hc199_196) ?_
              refine ow_iload (q := 204) X189 hx (hb hby at_202) rfl rfl ?_
              by_cases hc204_197 : v191 < (0 : Int32)
              · refine ow_ifYes (q := 214) X189 hx (hb hby at_204) (Jvm.Free.XT.i0_lt_t hc204_197) (by decide) (by decide) ?_
                refine ow_iload (q := 216) X189 hx (hb hby at_214) rfl rfl ?_
                refine ow_istore (q := 218) X189 hx (L' := #[iv p0, iv p1, iv p2, iv p3, iv p4, iv (3 : Int32), iv v140, iv v141, iv v142, iv ma, iv mb, iv sm, iv fr, rv b144, iv v190, iv v191, iv v192, iv v192]) (hb hby at_216) rfl rfl ?_
                exact cut218_193 v192 _ _ X189 e189 N189 (by simp [own_best, hc124_154, hc136_177, hc183_194, hc199_196, hc204_197])
              · refine ow_ifNo (q := 207) X189 hx (hb hby at_204) rfl (Jvm.Free.XT.i0_lt_f hc204_197) ?_
                refine ow_iload (q := 209) X189 hx (hb hby at_207) rfl rfl ?_
                refine ow_iload (q := 211) X189 hx (hb hby at_209) rfl rfl ?_
                by_cases hc211_198 : v192 < v191
                · refine ow_icmpNo (q := 214) X189 hx (hb hby at_211) rfl (Jvm.Free.XT.ii_ge_f hc211_198) ?_
                  refine ow_iload (q := 216) X189 hx (hb hby at_214) rfl rfl ?_
                  refine ow_istore (q := 218) X189 hx (L' := #[iv p0, iv p1, iv p2, iv p3, iv p4, iv (3 : Int32), iv v140, iv v141, iv v142, iv ma, iv mb, iv sm, iv fr, rv b144, iv v190, iv v191, iv v192, iv v192]) (hb hby at_216) rfl rfl ?_
                  exact cut218_193 v192 _ _ X189 e189 N189 (by simp [own_best, hc124_154, hc136_177, hc183_194, hc199_196, hc204_197, hc211_198])
                · refine ow_icmpYes (q := 218) X189 hx (hb hby at_211) (Jvm.Free.XT.ii_ge_t hc211_198) (by decide) (by decide) ?_
                  exact cut218_193 v191 _ _ X189 e189 N189 (by simp [own_best, hc124_154, hc136_177, hc183_194, hc199_196, hc204_197, hc211_198])
    have cut88_199 : ∀ (ma : Int32) (mb : Int32) (sm : Int32) (Tc199 : State) (lc199 : List Loc), Stand p l e room_1 s m #[(.int p0), (.int p1), (.int p2), (.int p3), (.int p4)] below meth c Tc199 lc199 0 0 → Tc199.heap = h0 → Fr n0 lc199 → ownEnds p e below s (Q_law Z p0 p1 p2 p3 p4 h0 n0) 16 128 Tc199 (mkF m 88 #[iv p0, iv p1, iv p2, iv p3, iv p4, iv (3 : Int32), iv v140, iv v141, iv v142, iv ma, iv mb, iv sm, .unset, .unset, .unset, .unset, .unset, .unset] []) := by
      intro ma mb sm Tc199 lc199 Xc199 ec199 Nc199
      refine ow_iload (q := 90) Xc199 hx (hb hby at_88) rfl rfl ?_
      by_cases hc90_200 : sm = (0 : Int32)
      · refine ow_ifYes (q := 100) Xc199 hx (hb hby at_90) (Jvm.Free.XT.i0_eq_t hc90_200) (by decide) (by decide) ?_
        refine ow_iloadN (q := 101) Xc199 hx (hb hby at_100) rfl rfl ?_
        refine ownGo (T' := Tc199) (f' := (mkF m 103 #[iv p0, iv p1, iv p2, iv p3, iv p4, iv (3 : Int32), iv v140, iv v141, iv v142, iv ma, iv mb, iv sm, .unset, .unset, .unset, .unset, .unset, .unset] [(.int (2147483647 : Int32)), (.int p3)])) (Xc199.ldcInt hx hown (mvT hZ (hw _ (List.mem_of_getElem? (i := 0) rfl))) (g := (mkF m 101 #[iv p0, iv p1, iv p2, iv p3, iv p4, iv (3 : Int32), iv v140, iv v141, iv v142, iv ma, iv mb, iv sm, .unset, .unset, .unset, .unset, .unset, .unset] [(.int p3)])) rfl (hb hby at_101)) ?_
        refine ow_iand (q := 104) Xc199 hx _ (hb hby at_103) rfl rfl ?_
        generalize hv_v201 : (p3 &&& (2147483647 : Int32)) = v201
        refine ow_istore (q := 106) Xc199 hx (L' := #[iv p0, iv p1, iv p2, iv p3, iv p4, iv (3 : Int32), iv v140, iv v141, iv v142, iv ma, iv mb, iv sm, iv v201, .unset, .unset, .unset, .unset, .unset]) (hb hby at_104) rfl rfl ?_
        exact cut106_143 ma mb sm v201 _ _ Xc199 ec199 Nc199 (own_frM hv_v201)
      · refine ow_ifNo (q := 93) Xc199 hx (hb hby at_90) rfl (Jvm.Free.XT.i0_eq_f hc90_200) ?_
        refine ow_iloadN (q := 94) Xc199 hx (hb hby at_93) rfl rfl ?_
        refine ow_bipush (q := 96) Xc199 hx (15 : Int32) (hb hby at_94) rfl rfl ?_
        refine ow_iand (q := 97) Xc199 hx _ (hb hby at_96) rfl rfl ?_
        refine ow_goto (q := 104) Xc199 hx (hb hby at_97) (by decide) (by decide) ?_
        generalize hv_v202 : (p3 &&& (15 : Int32)) = v202
        refine ow_istore (q := 106) Xc199 hx (L' := #[iv p0, iv p1, iv p2, iv p3, iv p4, iv (3 : Int32), iv v140, iv v141, iv v142, iv ma, iv mb, iv sm, iv v202, .unset, .unset, .unset, .unset, .unset]) (hb hby at_104) rfl rfl ?_
        exact cut106_143 ma mb sm v202 _ _ Xc199 ec199 Nc199 (own_fr15 hv_v202)
    have cut74_203 : ∀ (ma : Int32) (mb : Int32) (Tc203 : State) (lc203 : List Loc), Stand p l e room_1 s m #[(.int p0), (.int p1), (.int p2), (.int p3), (.int p4)] below meth c Tc203 lc203 0 0 → Tc203.heap = h0 → Fr n0 lc203 → ownEnds p e below s (Q_law Z p0 p1 p2 p3 p4 h0 n0) 16 128 Tc203 (mkF m 74 #[iv p0, iv p1, iv p2, iv p3, iv p4, iv (3 : Int32), iv v140, iv v141, iv v142, iv ma, iv mb, .unset, .unset, .unset, .unset, .unset, .unset, .unset] []) := by
      intro ma mb Tc203 lc203 Xc203 ec203 Nc203
      refine ow_iload (q := 76) Xc203 hx (hb hby at_74) rfl rfl ?_
      refine ow_iconst (q := 77) Xc203 hx (4 : Int32) (hb hby at_76) rfl rfl ?_
      refine ow_iand (q := 78) Xc203 hx _ (hb hby at_77) rfl rfl ?_
      by_cases hc78_204 : (p4 &&& (4 : Int32)) = (0 : Int32)
      · refine ow_ifYes (q := 85) Xc203 hx (hb hby at_78) (Jvm.Free.XT.i0_eq_t hc78_204) (by decide) (by decide) ?_
        refine ow_iconst (q := 86) Xc203 hx (0 : Int32) (hb hby at_85) rfl rfl ?_
        refine ow_istore (q := 88) Xc203 hx (L' := #[iv p0, iv p1, iv p2, iv p3, iv p4, iv (3 : Int32), iv v140, iv v141, iv v142, iv ma, iv mb, iv (0 : Int32), .unset, .unset, .unset, .unset, .unset, .unset]) (hb hby at_86) rfl rfl ?_
        exact cut88_199 ma mb (0 : Int32) _ _ Xc203 ec203 Nc203 
      · refine ow_ifNo (q := 81) Xc203 hx (hb hby at_78) rfl (Jvm.Free.XT.i0_eq_f hc78_204) ?_
        refine ow_iconst (q := 82) Xc203 hx (1 : Int32) (hb hby at_81) rfl rfl ?_
        refine ow_goto (q := 86) Xc203 hx (hb hby at_82) (by decide) (by decide) ?_
        refine ow_istore (q := 88) Xc203 hx (L' := #[iv p0, iv p1, iv p2, iv p3, iv p4, iv (3 : Int32), iv v140, iv v141, iv v142, iv ma, iv mb, iv (1 : Int32), .unset, .unset, .unset, .unset, .unset, .unset]) (hb hby at_86) rfl rfl ?_
        exact cut88_199 ma mb (1 : Int32) _ _ Xc203 ec203 Nc203 
    have cut60_205 : ∀ (ma : Int32) (Tc205 : State) (lc205 : List Loc), Stand p l e room_1 s m #[(.int p0), (.int p1), (.int p2), (.int p3), (.int p4)] below meth c Tc205 lc205 0 0 → Tc205.heap = h0 → Fr n0 lc205 → ownEnds p e below s (Q_law Z p0 p1 p2 p3 p4 h0 n0) 16 128 Tc205 (mkF m 60 #[iv p0, iv p1, iv p2, iv p3, iv p4, iv (3 : Int32), iv v140, iv v141, iv v142, iv ma, .unset, .unset, .unset, .unset, .unset, .unset, .unset, .unset] []) := by
      intro ma Tc205 lc205 Xc205 ec205 Nc205
      refine ow_iload (q := 62) Xc205 hx (hb hby at_60) rfl rfl ?_
      refine ow_iconst (q := 63) Xc205 hx (2 : Int32) (hb hby at_62) rfl rfl ?_
      refine ow_iand (q := 64) Xc205 hx _ (hb hby at_63) rfl rfl ?_
      by_cases hc64_206 : (p4 &&& (2 : Int32)) = (0 : Int32)
      · refine ow_ifYes (q := 71) Xc205 hx (hb hby at_64) (Jvm.Free.XT.i0_eq_t hc64_206) (by decide) (by decide) ?_
        refine ow_iconst (q := 72) Xc205 hx (0 : Int32) (hb hby at_71) rfl rfl ?_
        refine ow_istore (q := 74) Xc205 hx (L' := #[iv p0, iv p1, iv p2, iv p3, iv p4, iv (3 : Int32), iv v140, iv v141, iv v142, iv ma, iv (0 : Int32), .unset, .unset, .unset, .unset, .unset, .unset, .unset]) (hb hby at_72) rfl rfl ?_
        exact cut74_203 ma (0 : Int32) _ _ Xc205 ec205 Nc205 
      · refine ow_ifNo (q := 67) Xc205 hx (hb hby at_64) rfl (Jvm.Free.XT.i0_eq_f hc64_206) ?_
        refine ow_iconst (q := 68) Xc205 hx (1 : Int32) (hb hby at_67) rfl rfl ?_
        refine ow_goto (q := 72) Xc205 hx (hb hby at_68) (by decide) (by decide) ?_
        refine ow_istore (q := 74) Xc205 hx (L' := #[iv p0, iv p1, iv p2, iv p3, iv p4, iv (3 : Int32), iv v140, iv v141, iv v142, iv ma, iv (1 : Int32), .unset, .unset, .unset, .unset, .unset, .unset, .unset]) (hb hby at_72) rfl rfl ?_
        exact cut74_203 ma (1 : Int32) _ _ Xc205 ec205 Nc205 
    refine ow_iload (q := 48) X0 hx (hb hby at_46) rfl rfl ?_
    refine ow_iconst (q := 49) X0 hx (1 : Int32) (hb hby at_48) rfl rfl ?_
    refine ow_iand (q := 50) X0 hx _ (hb hby at_49) rfl rfl ?_
    by_cases hc50_207 : (p4 &&& (1 : Int32)) = (0 : Int32)
    · refine ow_ifYes (q := 57) X0 hx (hb hby at_50) (Jvm.Free.XT.i0_eq_t hc50_207) (by decide) (by decide) ?_
      refine ow_iconst (q := 58) X0 hx (0 : Int32) (hb hby at_57) rfl rfl ?_
      refine ow_istore (q := 60) X0 hx (L' := #[iv p0, iv p1, iv p2, iv p3, iv p4, iv (3 : Int32), iv v140, iv v141, iv v142, iv (0 : Int32), .unset, .unset, .unset, .unset, .unset, .unset, .unset, .unset]) (hb hby at_58) rfl rfl ?_
      exact cut60_205 (0 : Int32) _ _ X0 e0 N0 
    · refine ow_ifNo (q := 53) X0 hx (hb hby at_50) rfl (Jvm.Free.XT.i0_eq_f hc50_207) ?_
      refine ow_iconst (q := 54) X0 hx (1 : Int32) (hb hby at_53) rfl rfl ?_
      refine ow_goto (q := 58) X0 hx (hb hby at_54) (by decide) (by decide) ?_
      refine ow_istore (q := 60) X0 hx (L' := #[iv p0, iv p1, iv p2, iv p3, iv p4, iv (3 : Int32), iv v140, iv v141, iv v142, iv (1 : Int32), .unset, .unset, .unset, .unset, .unset, .unset, .unset, .unset]) (hb hby at_58) rfl rfl ?_
      exact cut60_205 (1 : Int32) _ _ X0 e0 N0 
  · subst hs5
    refine ow_iload (q := 10) X0 hx (hb hby at_8) rfl rfl ?_
    refine ow_iconst (q := 11) X0 hx (1 : Int32) (hb hby at_10) rfl rfl ?_
    refine ow_isub (q := 12) X0 hx (3 : Int32) (hb hby at_11) rfl (by decide) ?_
    refine ow_sipush (q := 15) X0 hx (1024 : Int32) (hb hby at_12) rfl rfl ?_
    refine ow_imul (q := 16) X0 hx (3072 : Int32) (hb hby at_15) rfl (by decide) ?_
    refine ow_iconst (q := 17) X0 hx (1 : Int32) (hb hby at_16) rfl rfl ?_
    refine ow_iadd (q := 18) X0 hx (3073 : Int32) (hb hby at_17) rfl (by decide) ?_
    refine ow_iloadN (q := 19) X0 hx (hb hby at_18) rfl rfl ?_
    refine ow_iconst (q := 20) X0 hx (3 : Int32) (hb hby at_19) rfl rfl ?_
    refine ow_iushr (q := 21) X0 hx _ (hb hby at_20) rfl rfl ?_
    refine ow_sipush (q := 24) X0 hx (1023 : Int32) (hb hby at_21) rfl rfl ?_
    refine ow_iand (q := 25) X0 hx _ (hb hby at_24) rfl rfl ?_
    refine ow_iadd (q := 26) X0 hx _ (hb hby at_25) rfl rfl ?_
    generalize hv_v208 : ((3073 : Int32) + (((p0.toUInt32 >>> ((3 : Int32) &&& 31).toUInt32).toInt32) &&& (1023 : Int32))) = v208
    refine ow_istore (q := 28) X0 hx (L' := #[iv p0, iv p1, iv p2, iv p3, iv p4, iv (4 : Int32), iv v208, .unset, .unset, .unset, .unset, .unset, .unset, .unset, .unset, .unset, .unset, .unset]) (hb hby at_26) rfl rfl ?_
    refine ow_iloadN (q := 29) X0 hx (hb hby at_28) rfl rfl ?_
    refine ownGo (T' := s₁) (f' := (mkF m 31 #[iv p0, iv p1, iv p2, iv p3, iv p4, iv (4 : Int32), iv v208, .unset, .unset, .unset, .unset, .unset, .unset, .unset, .unset, .unset, .unset, .unset] [(.int (2147483647 : Int32)), (.int p1)])) (X0.ldcInt hx hown (mvT hZ (hw _ (List.mem_of_getElem? (i := 0) rfl))) (g := (mkF m 29 #[iv p0, iv p1, iv p2, iv p3, iv p4, iv (4 : Int32), iv v208, .unset, .unset, .unset, .unset, .unset, .unset, .unset, .unset, .unset, .unset, .unset] [(.int p1)])) rfl (hb hby at_29)) ?_
    refine ow_iand (q := 32) X0 hx _ (hb hby at_31) rfl rfl ?_
    refine ow_iload (q := 34) X0 hx (hb hby at_32) rfl rfl ?_
    refine ow_irem (q := 35) X0 hx _ (hb hby at_34) rfl (own_nzc hv_v208) rfl ?_
    generalize hv_v209 : ((p1 &&& (2147483647 : Int32)) % v208) = v209
    refine ow_istore (q := 37) X0 hx (L' := #[iv p0, iv p1, iv p2, iv p3, iv p4, iv (4 : Int32), iv v208, iv v209, .unset, .unset, .unset, .unset, .unset, .unset, .unset, .unset, .unset, .unset]) (hb hby at_35) rfl rfl ?_
    refine ow_iloadN (q := 38) X0 hx (hb hby at_37) rfl rfl ?_
    refine ownGo (T' := s₁) (f' := (mkF m 40 #[iv p0, iv p1, iv p2, iv p3, iv p4, iv (4 : Int32), iv v208, iv v209, .unset, .unset, .unset, .unset, .unset, .unset, .unset, .unset, .unset, .unset] [(.int (2147483647 : Int32)), (.int p2)])) (X0.ldcInt hx hown (mvT hZ (hw _ (List.mem_of_getElem? (i := 0) rfl))) (g := (mkF m 38 #[iv p0, iv p1, iv p2, iv p3, iv p4, iv (4 : Int32), iv v208, iv v209, .unset, .unset, .unset, .unset, .unset, .unset, .unset, .unset, .unset, .unset] [(.int p2)])) rfl (hb hby at_38)) ?_
    refine ow_iand (q := 41) X0 hx _ (hb hby at_40) rfl rfl ?_
    refine ow_iload (q := 43) X0 hx (hb hby at_41) rfl rfl ?_
    refine ow_irem (q := 44) X0 hx _ (hb hby at_43) rfl (own_nzc hv_v208) rfl ?_
    generalize hv_v210 : ((p2 &&& (2147483647 : Int32)) % v208) = v210
    refine ow_istore (q := 46) X0 hx (L' := #[iv p0, iv p1, iv p2, iv p3, iv p4, iv (4 : Int32), iv v208, iv v209, iv v210, .unset, .unset, .unset, .unset, .unset, .unset, .unset, .unset, .unset]) (hb hby at_44) rfl rfl ?_
    have cut106_211 : ∀ (ma : Int32) (mb : Int32) (sm : Int32) (fr : Int32) (Tc211 : State) (lc211 : List Loc), Stand p l e room_1 s m #[(.int p0), (.int p1), (.int p2), (.int p3), (.int p4)] below meth c Tc211 lc211 0 0 → Tc211.heap = h0 → Fr n0 lc211 → (0 ≤ fr.toInt) → ownEnds p e below s (Q_law Z p0 p1 p2 p3 p4 h0 n0) 16 128 Tc211 (mkF m 106 #[iv p0, iv p1, iv p2, iv p3, iv p4, iv (4 : Int32), iv v208, iv v209, iv v210, iv ma, iv mb, iv sm, iv fr, .unset, .unset, .unset, .unset, .unset] []) := by
      intro ma mb sm fr Tc211 lc211 Xc211 ec211 Nc211 hfr
      obtain ⟨T212, h212, X212, e212, E212, A212, D212, -, st212⟩ := newO Xc211 hx hZ hown (hw _ (List.mem_of_getElem? (i := 1) rfl)) (hw _ (List.mem_of_getElem? (i := 2) rfl)) (hw _ (List.mem_of_getElem? (i := 3) rfl)) ec211 (g := (mkF m 106 #[iv p0, iv p1, iv p2, iv p3, iv p4, iv (4 : Int32), iv v208, iv v209, iv v210, iv ma, iv mb, iv sm, iv fr, .unset, .unset, .unset, .unset, .unset] [])) rfl (hb hby at_106) (by decide) (by decide)
      obtain ⟨b212, g212⟩ : ∃ z, z = h0.size := ⟨_, rfl⟩
      rw [← g212] at A212 D212 st212
      have sz_b212 : h0.size ≤ b212 := Nat.le_trans K0.1 (Nat.le_of_eq g212.symm)
      have G_b212 : n0 ≤ b212 := Nat.le_trans Z0 sz_b212
      have K212 : Keep h0 h212 [] := K0.ext E212
      have F213 : Sta Z h212 "com/example/swarm_tally/swarmtally/ChunkMarks" "CHUNK_SHIFT" "I" (.int (10 : Int32)) := HF0.ext E212
      have F214 : Fld Z h212 b212 "com/example/swarm_tally/swarmtally/ChunkMarks" "changed" "[Z" .null := D212 (Or.inl (hw _ (List.mem_of_getElem? (i := 12) rfl))) (ty := (.array .boolean)) (by decide)
      refine ownGo (T' := T212) (f' := (mkF m 109 #[iv p0, iv p1, iv p2, iv p3, iv p4, iv (4 : Int32), iv v208, iv v209, iv v210, iv ma, iv mb, iv sm, iv fr, .unset, .unset, .unset, .unset, .unset] [(.ref b212)])) (st212) ?_
      refine ow_dup (q := 110) X212 hx (hb hby at_109) rfl rfl ?_
      obtain ⟨_, _, ⟨T215, L215, k215, n215⟩, -, X215, ⟨Lc215, hQ215, l215, y215, z215⟩, st215⟩ := X212.specialBack hx (y := (⟨"com/example/swarm_tally/swarmtally/ChunkMarks", "<init>", "()V"⟩ : MethodName)) rfl hown (mvT hZ (hw _ (List.mem_of_getElem? (i := 4) rfl))) (mvT hZ (hw _ (List.mem_of_getElem? (i := 5) rfl))) (mvT hZ (hw _ (List.mem_of_getElem? (i := 6) rfl))) (by decide) (backOf (W := 1) (rm_init l Z av0 hw [] b212 h212 n0 (Nat.le_trans Z0 K212.1) A212 F214 G_b212) hZ (hw _ (List.mem_of_getElem? (i := 6) rfl)) (hw _ (List.mem_of_getElem? (i := 3) rfl)) (by decide) (by decide)) (g := (mkF m 110 #[iv p0, iv p1, iv p2, iv p3, iv p4, iv (4 : Int32), iv v208, iv v209, iv v210, iv ma, iv mb, iv sm, iv fr, .unset, .unset, .unset, .unset, .unset] [(.ref b212), (.ref b212)])) rfl (by rw [hml]; rfl) (Steps.refl _) (a := b212) (argsL := []) (rest := [(.ref b212)]) (lenOf own_pd2 rfl) rfl (by show 2 * 0 + _ ≤ _; exact Nat.le_of_eq rfl) (hb hby at_110) (fun _ _ => ⟨rfl, e212, (by decide : 1 + 1 ≤ _), (by decide : 1 + 1 ≤ _)⟩)
      dsimp only [Pt.U, Pt.locs, Pt.cells, Pt.slots] at X215 l215 y215 z215 st215 hQ215
      subst l215 y215 z215
      obtain ⟨ar_215, rfl, N215q, Kq215, sq215_ar_215, FP215_0, FP215_1, FP215_2⟩ := hQ215
      have N215 := Fr.app Nc211 N215q
      have K215 : Keep h0 T215.heap [] := K212.trans Kq215 (allS (Or.inr sz_b212) all0)
      have ne_b212_ar_215 : b212 ≠ ar_215 := Nat.ne_of_lt (Nat.lt_of_lt_of_le A212.lt sq215_ar_215)
      have sz_ar_215 : h0.size ≤ ar_215 := Nat.le_trans K212.1 sq215_ar_215
      have G_ar_215 : n0 ≤ ar_215 := Nat.le_trans Z0 sz_ar_215
      have F216 : Sta Z T215.heap "com/example/swarm_tally/swarmtally/ChunkMarks" "CHUNK_SHIFT" "I" (.int (10 : Int32)) := ownStaKeep F213 Kq215 (allS (ownNstE A212) all0)
      have F217 : Exa Z T215.heap b212 "com/example/swarm_tally/swarmtally/ChunkMarks" := A212.keep Kq215
      refine ownRun (T' := T215) (f' := (mkF m 113 #[iv p0, iv p1, iv p2, iv p3, iv p4, iv (4 : Int32), iv v208, iv v209, iv v210, iv ma, iv mb, iv sm, iv fr, .unset, .unset, .unset, .unset, .unset] [(.ref b212)])) st215 ?_
      refine ow_astore (q := 115) X215 hx (L' := #[iv p0, iv p1, iv p2, iv p3, iv p4, iv (4 : Int32), iv v208, iv v209, iv v210, iv ma, iv mb, iv sm, iv fr, rv b212, .unset, .unset, .unset, .unset]) (hb hby at_113) rfl rfl rfl ?_
      refine ow_aload (q := 117) X215 hx (hb hby at_115) rfl rfl rfl ?_
      refine ow_iload (q := 119) X215 hx (hb hby at_117) rfl rfl ?_
      obtain ⟨cq218, kq218, q218a, q218b, q218c⟩ := isOf hZ rfl FP215_0
      obtain ⟨_, _, ⟨T218, L218, k218, n218⟩, -, X218, ⟨Lc218, hQ218, l218, y218, z218⟩, st218⟩ := X215.virtualBack hx (y := (⟨"com/example/swarm_tally/swarmtally/ChunkMarks", "grow", "(I)V"⟩ : MethodName)) (z := (⟨"com/example/swarm_tally/swarmtally/ChunkMarks", "grow", "(I)V"⟩ : MethodName)) hown (mvT hZ (hw _ (List.mem_of_getElem? (i := 13) rfl))) (mvT hZ (hw _ (List.mem_of_getElem? (i := 14) rfl))) (notFace_of_selects (args := #[]) (mvT hZ (hw _ (List.mem_of_getElem? (i := 16) rfl)))) (mvT hZ (hw _ (List.mem_of_getElem? (i := 16) rfl))) (mvT hZ (hw _ (List.mem_of_getElem? (i := 15) rfl))) (by decide) (backOf (W := 0) (rm_grow_4 l Z av0 hw [] b212 v208 ar_215 T215.heap n0 (Nat.le_trans Z0 K215.1) FP215_0 FP215_1 FP215_2 F216 G_b212 (own_chunk4 hv_v208) ne_b212_ar_215) hZ (hw _ (List.mem_of_getElem? (i := 17) rfl)) (hw _ (List.mem_of_getElem? (i := 3) rfl)) (by decide) (by decide)) q218a q218c (g := (mkF m 119 #[iv p0, iv p1, iv p2, iv p3, iv p4, iv (4 : Int32), iv v208, iv v209, iv v210, iv ma, iv mb, iv sm, iv fr, rv b212, .unset, .unset, .unset, .unset] [(.int v208), (.ref b212)])) rfl (by rw [hml]; rfl) (Steps.refl _) (argsL := [(.int v208)]) (rest := []) (lenOf own_pd3 rfl) rfl (by show 2 * 0 + _ ≤ _; exact Nat.le_of_eq rfl) (hb hby at_119) (fun _ _ => ⟨rfl, rfl, (by decide : 2 + 1 ≤ _), (by decide : 2 + 4 ≤ _)⟩)
      dsimp only [Pt.U, Pt.locs, Pt.cells, Pt.slots] at X218 l218 y218 z218 st218 hQ218
      subst l218 y218 z218
      obtain ⟨ar2_218, rfl, N218q, Kq218, sq218_ar2_218, FP218_0, FP218_1, FP218_2⟩ := hQ218
      have N218 := Fr.app N215 N218q
      have K218 : Keep h0 T218.heap [] := K215.trans Kq218 (allS (Or.inr sz_b212) all0)
      have ne_b212_ar2_218 : b212 ≠ ar2_218 := Nat.ne_of_lt (Nat.lt_of_lt_of_le FP215_0.lt sq218_ar2_218)
      have ne_ar_215_ar2_218 : ar_215 ≠ ar2_218 := Nat.ne_of_lt (Nat.lt_of_lt_of_le FP215_2.lt sq218_ar2_218)
      have sz_ar2_218 : h0.size ≤ ar2_218 := Nat.le_trans K215.1 sq218_ar2_218
      have G_ar2_218 : n0 ≤ ar2_218 := Nat.le_trans Z0 sz_ar2_218
      have F219 : Sta Z T218.heap "com/example/swarm_tally/swarmtally/ChunkMarks" "CHUNK_SHIFT" "I" (.int (10 : Int32)) := ownStaKeep F216 Kq218 (allS (ownNstE FP215_0) all0)
      have F220 : Exa Z T218.heap b212 "com/example/swarm_tally/swarmtally/ChunkMarks" := FP215_0.keep Kq218
      have F221 : ownAI Z T218.heap ar_215 .boolean 1 (fun _ => (0 : Int32)) := FP215_2.keep Kq218 (ninS (Ne.symm ne_b212_ar_215) nin0)
      refine ownRun (T' := T218) (f' := (mkF m 122 #[iv p0, iv p1, iv p2, iv p3, iv p4, iv (4 : Int32), iv v208, iv v209, iv v210, iv ma, iv mb, iv sm, iv fr, rv b212, .unset, .unset, .unset, .unset] [])) st218 ?_
      refine ow_iload (q := 124) X218 hx (hb hby at_122) rfl rfl ?_
      by_cases hc124_222 : ma = (0 : Int32)
      · refine ow_ifYes (q := 134) X218 hx (hb hby at_124) (Jvm.Free.XT.i0_eq_t hc124_222) (by decide) (by decide) ?_
        refine ow_iload (q := 136) X218 hx (hb hby at_134) rfl rfl ?_
        by_cases hc136_223 : mb = (0 : Int32)
        · refine ow_ifYes (q := 146) X218 hx (hb hby at_136) (Jvm.Free.XT.i0_eq_t hc136_223) (by decide) (by decide) ?_
          refine ow_aload (q := 148) X218 hx (hb hby at_146) rfl rfl rfl ?_
          refine ow_iload (q := 150) X218 hx (hb hby at_148) rfl rfl ?_
          obtain ⟨cq224, kq224, q224a, q224b, q224c⟩ := isOf hZ rfl FP218_0
          obtain ⟨_, _, ⟨T224, L224, k224, n224⟩, -, X224, ⟨Lc224, hQ224, l224, y224, z224⟩, st224⟩ := X218.virtualBack hx (y := (⟨"com/example/swarm_tally/swarmtally/ChunkMarks", "next", "(I)I"⟩ : MethodName)) (z := (⟨"com/example/swarm_tally/swarmtally/ChunkMarks", "next", "(I)I"⟩ : MethodName)) hown (mvT hZ (hw _ (List.mem_of_getElem? (i := 20) rfl))) (mvT hZ (hw _ (List.mem_of_getElem? (i := 21) rfl))) (notFace_of_selects (args := #[]) (mvT hZ (hw _ (List.mem_of_getElem? (i := 23) rfl)))) (mvT hZ (hw _ (List.mem_of_getElem? (i := 23) rfl))) (mvT hZ (hw _ (List.mem_of_getElem? (i := 22) rfl))) (by decide) (backOf (W := 0) (rm_next_4 l Z av0 hw [] b212 fr ar2_218 (fun _ => (0 : Int32)) T218.heap n0 (Nat.le_trans Z0 K218.1) FP218_1 FP218_2 hfr) hZ (hw _ (List.mem_of_getElem? (i := 24) rfl)) (hw _ (List.mem_of_getElem? (i := 3) rfl)) (by decide) (by decide)) q224a q224c (g := (mkF m 150 #[iv p0, iv p1, iv p2, iv p3, iv p4, iv (4 : Int32), iv v208, iv v209, iv v210, iv ma, iv mb, iv sm, iv fr, rv b212, .unset, .unset, .unset, .unset] [(.int fr), (.ref b212)])) rfl (by rw [hml]; rfl) (Steps.refl _) (argsL := [(.int fr)]) (rest := []) (lenOf own_pd4 rfl) rfl (by show 2 * 0 + _ ≤ _; exact Nat.le_of_eq rfl) (hb hby at_150) (fun _ _ => ⟨rfl, rfl, (by decide : 3 + 0 ≤ _), (by decide : 6 + 0 ≤ _)⟩)
          dsimp only [Pt.U, Pt.locs, Pt.cells, Pt.slots] at X224 l224 y224 z224 st224 hQ224
          subst l224 y224 z224
          obtain ⟨rfl, N224q, e224⟩ := hQ224
          have N224 := Fr.app N218 N224q
          refine ownRun (T' := T224) (f' := (mkF m 153 #[iv p0, iv p1, iv p2, iv p3, iv p4, iv (4 : Int32), iv v208, iv v209, iv v210, iv ma, iv mb, iv sm, iv fr, rv b212, .unset, .unset, .unset, .unset] [(.int (own_next (fun _ => (0 : Int32)) 4 fr))])) st224 ?_
          generalize hv_v225 : (own_next (fun _ => (0 : Int32)) 4 fr) = v225
          refine ow_istore (q := 155) X224 hx (L' := #[iv p0, iv p1, iv p2, iv p3, iv p4, iv (4 : Int32), iv v208, iv v209, iv v210, iv ma, iv mb, iv sm, iv fr, rv b212, iv v225, .unset, .unset, .unset]) (hb hby at_153) rfl rfl ?_
          refine ow_iload (q := 157) X224 hx (hb hby at_155) rfl rfl ?_
          refine ow_sipush (q := 160) X224 hx (1024 : Int32) (hb hby at_157) rfl rfl ?_
          refine ow_idiv (q := 161) X224 hx _ (hb hby at_160) rfl (by decide) rfl ?_
          generalize hv_v226 : (v209 / (1024 : Int32)) = v226
          refine ow_istore (q := 163) X224 hx (L' := #[iv p0, iv p1, iv p2, iv p3, iv p4, iv (4 : Int32), iv v208, iv v209, iv v210, iv ma, iv mb, iv sm, iv fr, rv b212, iv v225, iv v226, .unset, .unset]) (hb hby at_161) rfl rfl ?_
          refine ow_iload (q := 165) X224 hx (hb hby at_163) rfl rfl ?_
          refine ow_sipush (q := 168) X224 hx (1024 : Int32) (hb hby at_165) rfl rfl ?_
          refine ow_idiv (q := 169) X224 hx _ (hb hby at_168) rfl (by decide) rfl ?_
          generalize hv_v227 : (v210 / (1024 : Int32)) = v227
          refine ow_istore (q := 171) X224 hx (L' := #[iv p0, iv p1, iv p2, iv p3, iv p4, iv (4 : Int32), iv v208, iv v209, iv v210, iv ma, iv mb, iv sm, iv fr, rv b212, iv v225, iv v226, iv v227, .unset]) (hb hby at_169) rfl rfl ?_
          refine ow_iconst (q := 172) X224 hx (-1 : Int32) (hb hby at_171) rfl rfl ?_
          refine ow_istore (q := 174) X224 hx (L' := #[iv p0, iv p1, iv p2, iv p3, iv p4, iv (4 : Int32), iv v208, iv v209, iv v210, iv ma, iv mb, iv sm, iv fr, rv b212, iv v225, iv v226, iv v227, iv (-1 : Int32)]) (hb hby at_172) rfl rfl ?_
          have cut218_228 : ∀ (be : Int32) (Tc228 : State) (lc228 : List Loc), Stand p l e room_1 s m #[(.int p0), (.int p1), (.int p2), (.int p3), (.int p4)] below meth c Tc228 lc228 3 6 → Tc228.heap = T218.heap → Fr n0 lc228 → (be = own_best ma mb v226 v227 fr) → ownEnds p e below s (Q_law Z p0 p1 p2 p3 p4 h0 n0) 16 128 Tc228 (mkF m 218 #[iv p0, iv p1, iv p2, iv p3, iv p4, iv (4 : Int32), iv v208, iv v209, iv v210, iv ma, iv mb, iv sm, iv fr, rv b212, iv v225, iv v226, iv v227, iv be] []) := by
            intro be Tc228 lc228 Xc228 ec228 Nc228 hbe
            refine ow_iload (q := 220) Xc228 hx (hb hby at_218) rfl rfl ?_
            refine ow_iload (q := 222) Xc228 hx (hb hby at_220) rfl rfl ?_
            refine ow_icmpNo (q := 225) Xc228 hx (hb hby at_222) rfl (Jvm.Free.XT.ii_ne_f (by rw [hbe, ← hv_v225]; exact own_final (own_g00 hc124_222 hc136_223) (own_ca (own_a (n := 4) hv_v209 hv_v208) hv_v226) (own_ca (own_a (n := 4) hv_v210 hv_v208) hv_v227) (own_il (own_a (n := 4) hv_v209 hv_v208)) (own_il (own_a (n := 4) hv_v210 hv_v208)) hfr)) ?_
            refine ow_iconst (q := 226) Xc228 hx (1 : Int32) (hb hby at_225) rfl rfl ?_
            refine ow_goto (q := 230) Xc228 hx (hb hby at_226) (by decide) (by decide) ?_
            refine ownRetN Xc228 hx (r := (1 : Int32)) (Or.inl rfl) Bd.returns (hb hby at_230) hlk (by decide) (by decide) (by decide) ?_
            exact ⟨rfl, Nc228⟩
          refine ow_iload (q := 176) X224 hx (hb hby at_174) rfl rfl ?_
          refine ow_ifYes (q := 190) X224 hx (hb hby at_176) (Jvm.Free.XT.i0_eq_t hc124_222) (by decide) (by decide) ?_
          refine ow_iload (q := 192) X224 hx (hb hby at_190) rfl rfl ?_
          refine ow_ifYes (q := 218) X224 hx (hb hby at_192) (Jvm.Free.XT.i0_eq_t hc136_223) (by decide) (by decide) ?_
          exact cut218_228 (-1 : Int32) _ _ X224 e224 N224 (by simp [own_best, hc124_222, hc136_223])
        · refine ow_ifNo (q := 139) X218 hx (hb hby at_136) rfl (Jvm.Free.XT.i0_eq_f hc136_223) ?_
          refine ow_aload (q := 141) X218 hx (hb hby at_139) rfl rfl rfl ?_
          refine ow_iload (q := 143) X218 hx (hb hby at_141) rfl rfl ?_
          obtain ⟨cq229, kq229, q229a, q229b, q229c⟩ := isOf hZ rfl FP218_0
          obtain ⟨_, _, ⟨T229, L229, k229, n229⟩, -, X229, ⟨Lc229, hQ229, l229, y229, z229⟩, st229⟩ := X218.virtualBack hx (y := (⟨"com/example/swarm_tally/swarmtally/ChunkMarks", "mark", "(I)V"⟩ : MethodName)) (z := (⟨"com/example/swarm_tally/swarmtally/ChunkMarks", "mark", "(I)V"⟩ : MethodName)) hown (mvT hZ (hw _ (List.mem_of_getElem? (i := 37) rfl))) (mvT hZ (hw _ (List.mem_of_getElem? (i := 38) rfl))) (notFace_of_selects (args := #[]) (mvT hZ (hw _ (List.mem_of_getElem? (i := 40) rfl)))) (mvT hZ (hw _ (List.mem_of_getElem? (i := 40) rfl))) (mvT hZ (hw _ (List.mem_of_getElem? (i := 39) rfl))) (by decide) (backOf (W := 0) (rm_mark_4 l Z av0 hw [] b212 v210 ar2_218 (fun _ => (0 : Int32)) T218.heap n0 (Nat.le_trans Z0 K218.1) FP218_1 FP218_2 F219 G_ar2_218 (own_in (own_a (n := 4) hv_v210 hv_v208)) ne_b212_ar2_218) hZ (hw _ (List.mem_of_getElem? (i := 41) rfl)) (hw _ (List.mem_of_getElem? (i := 3) rfl)) (by decide) (by decide)) q229a q229c (g := (mkF m 143 #[iv p0, iv p1, iv p2, iv p3, iv p4, iv (4 : Int32), iv v208, iv v209, iv v210, iv ma, iv mb, iv sm, iv fr, rv b212, .unset, .unset, .unset, .unset] [(.int v210), (.ref b212)])) rfl (by rw [hml]; rfl) (Steps.refl _) (argsL := [(.int v210)]) (rest := []) (lenOf own_pd3 rfl) rfl (by show 2 * 0 + _ ≤ _; exact Nat.le_of_eq rfl) (hb hby at_143) (fun _ _ => ⟨rfl, rfl, (by decide : 3 + 0 ≤ _), (by decide : 6 + 0 ≤ _)⟩)
          dsimp only [Pt.U, Pt.locs, Pt.cells, Pt.slots] at X229 l229 y229 z229 st229 hQ229
          subst l229 y229 z229
          obtain ⟨rfl, N229q, Kq229, FP229_0⟩ := hQ229
          have N229 := Fr.app N218 N229q
          have K229 : Keep h0 T229.heap [] := K218.trans Kq229 (allS (Or.inr sz_ar2_218) all0)
          have F230 : Sta Z T229.heap "com/example/swarm_tally/swarmtally/ChunkMarks" "CHUNK_SHIFT" "I" (.int (10 : Int32)) := ownStaKeep F219 Kq229 (allS (ownNstI FP218_2) all0)
          have F231 : Exa Z T229.heap b212 "com/example/swarm_tally/swarmtally/ChunkMarks" := FP218_0.keep Kq229
          have F232 : ownAI Z T229.heap ar_215 .boolean 1 (fun _ => (0 : Int32)) := F221.keep Kq229 (ninS ne_ar_215_ar2_218 nin0)
          have F233 : Fld Z T229.heap b212 "com/example/swarm_tally/swarmtally/ChunkMarks" "changed" "[Z" (.ref ar2_218) := FP218_1.keep Kq229 (ninS ne_b212_ar2_218 nin0)
          refine ownRun (T' := T229) (f' := (mkF m 146 #[iv p0, iv p1, iv p2, iv p3, iv p4, iv (4 : Int32), iv v208, iv v209, iv v210, iv ma, iv mb, iv sm, iv fr, rv b212, .unset, .unset, .unset, .unset] [])) st229 ?_
          refine ow_aload (q := 148) X229 hx (hb hby at_146) rfl rfl rfl ?_
          refine ow_iload (q := 150) X229 hx (hb hby at_148) rfl rfl ?_
          obtain ⟨cq234, kq234, q234a, q234b, q234c⟩ := isOf hZ rfl F231
          obtain ⟨_, _, ⟨T234, L234, k234, n234⟩, -, X234, ⟨Lc234, hQ234, l234, y234, z234⟩, st234⟩ := X229.virtualBack hx (y := (⟨"com/example/swarm_tally/swarmtally/ChunkMarks", "next", "(I)I"⟩ : MethodName)) (z := (⟨"com/example/swarm_tally/swarmtally/ChunkMarks", "next", "(I)I"⟩ : MethodName)) hown (mvT hZ (hw _ (List.mem_of_getElem? (i := 20) rfl))) (mvT hZ (hw _ (List.mem_of_getElem? (i := 21) rfl))) (notFace_of_selects (args := #[]) (mvT hZ (hw _ (List.mem_of_getElem? (i := 23) rfl)))) (mvT hZ (hw _ (List.mem_of_getElem? (i := 23) rfl))) (mvT hZ (hw _ (List.mem_of_getElem? (i := 22) rfl))) (by decide) (backOf (W := 0) (rm_next_4 l Z av0 hw [] b212 fr ar2_218 (ownUpd (fun _ => (0 : Int32)) (own_ix v210) (1 : Int32)) T229.heap n0 (Nat.le_trans Z0 K229.1) F233 FP229_0 hfr) hZ (hw _ (List.mem_of_getElem? (i := 24) rfl)) (hw _ (List.mem_of_getElem? (i := 3) rfl)) (by decide) (by decide)) q234a q234c (g := (mkF m 150 #[iv p0, iv p1, iv p2, iv p3, iv p4, iv (4 : Int32), iv v208, iv v209, iv v210, iv ma, iv mb, iv sm, iv fr, rv b212, .unset, .unset, .unset, .unset] [(.int fr), (.ref b212)])) rfl (by rw [hml]; rfl) (Steps.refl _) (argsL := [(.int fr)]) (rest := []) (lenOf own_pd4 rfl) rfl (by show 2 * 0 + _ ≤ _; exact Nat.le_of_eq rfl) (hb hby at_150) (fun _ _ => ⟨rfl, rfl, (by decide : 3 + 0 ≤ _), (by decide : 6 + 0 ≤ _)⟩)
          dsimp only [Pt.U, Pt.locs, Pt.cells, Pt.slots] at X234 l234 y234 z234 st234 hQ234
          subst l234 y234 z234
          obtain ⟨rfl, N234q, e234⟩ := hQ234
          have N234 := Fr.app N229 N234q
          refine ownRun (T' := T234) (f' := (mkF m 153 #[iv p0, iv p1, iv p2, iv p3, iv p4, iv (4 : Int32), iv v208, iv v209, iv v210, iv ma, iv mb, iv sm, iv fr, rv b212, .unset, .unset, .unset, .unset] [(.int (own_next (ownUpd (fun _ => (0 : Int32)) (own_ix v210) (1 : Int32)) 4 fr))])) st234 ?_
          generalize hv_v235 : (own_next (ownUpd (fun _ => (0 : Int32)) (own_ix v210) (1 : Int32)) 4 fr) = v235
          refine ow_istore (q := 155) X234 hx (L' := #[iv p0, iv p1, iv p2, iv p3, iv p4, iv (4 : Int32), iv v208, iv v209, iv v210, iv ma, iv mb, iv sm, iv fr, rv b212, iv v235, .unset, .unset, .unset]) (hb hby at_153) rfl rfl ?_
          refine ow_iload (q := 157) X234 hx (hb hby at_155) rfl rfl ?_
          refine ow_sipush (q := 160) X234 hx (1024 : Int32) (hb hby at_157) rfl rfl ?_
          refine ow_idiv (q := 161) X234 hx _ (hb hby at_160) rfl (by decide) rfl ?_
          generalize hv_v236 : (v209 / (1024 : Int32)) = v236
          refine ow_istore (q := 163) X234 hx (L' := #[iv p0, iv p1, iv p2, iv p3, iv p4, iv (4 : Int32), iv v208, iv v209, iv v210, iv ma, iv mb, iv sm, iv fr, rv b212, iv v235, iv v236, .unset, .unset]) (hb hby at_161) rfl rfl ?_
          refine ow_iload (q := 165) X234 hx (hb hby at_163) rfl rfl ?_
          refine ow_sipush (q := 168) X234 hx (1024 : Int32) (hb hby at_165) rfl rfl ?_
          refine ow_idiv (q := 169) X234 hx _ (hb hby at_168) rfl (by decide) rfl ?_
          generalize hv_v237 : (v210 / (1024 : Int32)) = v237
          refine ow_istore (q := 171) X234 hx (L' := #[iv p0, iv p1, iv p2, iv p3, iv p4, iv (4 : Int32), iv v208, iv v209, iv v210, iv ma, iv mb, iv sm, iv fr, rv b212, iv v235, iv v236, iv v237, .unset]) (hb hby at_169) rfl rfl ?_
          refine ow_iconst (q := 172) X234 hx (-1 : Int32) (hb hby at_171) rfl rfl ?_
          refine ow_istore (q := 174) X234 hx (L' := #[iv p0, iv p1, iv p2, iv p3, iv p4, iv (4 : Int32), iv v208, iv v209, iv v210, iv ma, iv mb, iv sm, iv fr, rv b212, iv v235, iv v236, iv v237, iv (-1 : Int32)]) (hb hby at_172) rfl rfl ?_
          have cut218_238 : ∀ (be : Int32) (Tc238 : State) (lc238 : List Loc), Stand p l e room_1 s m #[(.int p0), (.int p1), (.int p2), (.int p3), (.int p4)] below meth c Tc238 lc238 3 6 → Tc238.heap = T229.heap → Fr n0 lc238 → (be = own_best ma mb v236 v237 fr) → ownEnds p e below s (Q_law Z p0 p1 p2 p3 p4 h0 n0) 16 128 Tc238 (mkF m 218 #[iv p0, iv p1, iv p2, iv p3, iv p4, iv (4 : Int32), iv v208, iv v209, iv v210, iv ma, iv mb, iv sm, iv fr, rv b212, iv v235, iv v236, iv v237, iv be] []) := by
            intro be Tc238 lc238 Xc238 ec238 Nc238 hbe
            refine ow_iload (q := 220) Xc238 hx (hb hby at_218) rfl rfl ?_
            refine ow_iload (q := 222) Xc238 hx (hb hby at_220) rfl rfl ?_
            refine ow_icmpNo (q := 225) Xc238 hx (hb hby at_222) rfl (Jvm.Free.XT.ii_ne_f (by rw [hbe, ← hv_v235]; exact own_final (own_g01 hc124_222 hc136_223) (own_ca (own_a (n := 4) hv_v209 hv_v208) hv_v236) (own_ca (own_a (n := 4) hv_v210 hv_v208) hv_v237) (own_il (own_a (n := 4) hv_v209 hv_v208)) (own_il (own_a (n := 4) hv_v210 hv_v208)) hfr)) ?_
            refine ow_iconst (q := 226) Xc238 hx (1 : Int32) (hb hby at_225) rfl rfl ?_
            refine ow_goto (q := 230) Xc238 hx (hb hby at_226) (by decide) (by decide) ?_
            refine ownRetN Xc238 hx (r := (1 : Int32)) (Or.inl rfl) Bd.returns (hb hby at_230) hlk (by decide) (by decide) (by decide) ?_
            exact ⟨rfl, Nc238⟩
          refine ow_iload (q := 176) X234 hx (hb hby at_174) rfl rfl ?_
          refine ow_ifYes (q := 190) X234 hx (hb hby at_176) (Jvm.Free.XT.i0_eq_t hc124_222) (by decide) (by decide) ?_
          refine ow_iload (q := 192) X234 hx (hb hby at_190) rfl rfl ?_
          refine ow_ifNo (q := 195) X234 hx (hb hby at_192) rfl (Jvm.Free.XT.i0_eq_f hc136_223) ?_
          refine ow_iload (q := 197) X234 hx (hb hby at_195) rfl rfl ?_
          refine ow_iload (q := 199) X234 hx (hb hby at_197) rfl rfl ?_
          by_cases hc199_239 : v237 < fr
          · refine ow_icmpYes (q := 218) X234 hx (hb hby at_199) (Jvm.Free.XT.ii_lt_t hc199_239) (by decide) (by decide) ?_
            exact cut218_238 (-1 : Int32) _ _ X234 e234 N234 (by simp [own_best, hc124_222, hc136_223, hc199_239])
          · refine ow_icmpNo (q := 202) X234 hx (hb hby at_199) rfl (Jvm.Free.XT.ii_lt_f hc199_239) ?_
            refine ow_iload (q := 204) X234 hx (hb hby at_202) rfl rfl ?_
            refine ow_ifYes (q := 214) X234 hx (hb hby at_204) (Jvm.Free.XT.i0_lt_t (by decide)) (by decide) (by decide) ?_
            refine ow_iload (q := 216) X234 hx (hb hby at_214) rfl rfl ?_
            refine ow_istore (q := 218) X234 hx (L' := #[iv p0, iv p1, iv p2, iv p3, iv p4, iv (4 : Int32), iv v208, iv v209, iv v210, iv ma, iv mb, iv sm, iv fr, rv b212, iv v235, iv v236, iv v237, iv v237]) (hb hby at_216) rfl rfl ?_
            exact cut218_238 v237 _ _ X234 e234 N234 (by simp [own_best, hc124_222, hc136_223, hc199_239])
      · refine ow_ifNo (q := 127) X218 hx (hb hby at_124) rfl (Jvm.Free.XT.i0_eq_f hc124_222) ?_
        refine ow_aload (q := 129) X218 hx (hb hby at_127) rfl rfl rfl ?_
        refine ow_iload (q := 131) X218 hx (hb hby at_129) rfl rfl ?_
        obtain ⟨cq240, kq240, q240a, q240b, q240c⟩ := isOf hZ rfl FP218_0
        obtain ⟨_, _, ⟨T240, L240, k240, n240⟩, -, X240, ⟨Lc240, hQ240, l240, y240, z240⟩, st240⟩ := X218.virtualBack hx (y := (⟨"com/example/swarm_tally/swarmtally/ChunkMarks", "mark", "(I)V"⟩ : MethodName)) (z := (⟨"com/example/swarm_tally/swarmtally/ChunkMarks", "mark", "(I)V"⟩ : MethodName)) hown (mvT hZ (hw _ (List.mem_of_getElem? (i := 37) rfl))) (mvT hZ (hw _ (List.mem_of_getElem? (i := 38) rfl))) (notFace_of_selects (args := #[]) (mvT hZ (hw _ (List.mem_of_getElem? (i := 40) rfl)))) (mvT hZ (hw _ (List.mem_of_getElem? (i := 40) rfl))) (mvT hZ (hw _ (List.mem_of_getElem? (i := 39) rfl))) (by decide) (backOf (W := 0) (rm_mark_4 l Z av0 hw [] b212 v209 ar2_218 (fun _ => (0 : Int32)) T218.heap n0 (Nat.le_trans Z0 K218.1) FP218_1 FP218_2 F219 G_ar2_218 (own_in (own_a (n := 4) hv_v209 hv_v208)) ne_b212_ar2_218) hZ (hw _ (List.mem_of_getElem? (i := 41) rfl)) (hw _ (List.mem_of_getElem? (i := 3) rfl)) (by decide) (by decide)) q240a q240c (g := (mkF m 131 #[iv p0, iv p1, iv p2, iv p3, iv p4, iv (4 : Int32), iv v208, iv v209, iv v210, iv ma, iv mb, iv sm, iv fr, rv b212, .unset, .unset, .unset, .unset] [(.int v209), (.ref b212)])) rfl (by rw [hml]; rfl) (Steps.refl _) (argsL := [(.int v209)]) (rest := []) (lenOf own_pd3 rfl) rfl (by show 2 * 0 + _ ≤ _; exact Nat.le_of_eq rfl) (hb hby at_131) (fun _ _ => ⟨rfl, rfl, (by decide : 3 + 0 ≤ _), (by decide : 6 + 0 ≤ _)⟩)
        dsimp only [Pt.U, Pt.locs, Pt.cells, Pt.slots] at X240 l240 y240 z240 st240 hQ240
        subst l240 y240 z240
        obtain ⟨rfl, N240q, Kq240, FP240_0⟩ := hQ240
        have N240 := Fr.app N218 N240q
        have K240 : Keep h0 T240.heap [] := K218.trans Kq240 (allS (Or.inr sz_ar2_218) all0)
        have F241 : Sta Z T240.heap "com/example/swarm_tally/swarmtally/ChunkMarks" "CHUNK_SHIFT" "I" (.int (10 : Int32)) := ownStaKeep F219 Kq240 (allS (ownNstI FP218_2) all0)
        have F242 : Exa Z T240.heap b212 "com/example/swarm_tally/swarmtally/ChunkMarks" := FP218_0.keep Kq240
        have F243 : ownAI Z T240.heap ar_215 .boolean 1 (fun _ => (0 : Int32)) := F221.keep Kq240 (ninS ne_ar_215_ar2_218 nin0)
        have F244 : Fld Z T240.heap b212 "com/example/swarm_tally/swarmtally/ChunkMarks" "changed" "[Z" (.ref ar2_218) := FP218_1.keep Kq240 (ninS ne_b212_ar2_218 nin0)
        refine ownRun (T' := T240) (f' := (mkF m 134 #[iv p0, iv p1, iv p2, iv p3, iv p4, iv (4 : Int32), iv v208, iv v209, iv v210, iv ma, iv mb, iv sm, iv fr, rv b212, .unset, .unset, .unset, .unset] [])) st240 ?_
        refine ow_iload (q := 136) X240 hx (hb hby at_134) rfl rfl ?_
        by_cases hc136_245 : mb = (0 : Int32)
        · refine ow_ifYes (q := 146) X240 hx (hb hby at_136) (Jvm.Free.XT.i0_eq_t hc136_245) (by decide) (by decide) ?_
          refine ow_aload (q := 148) X240 hx (hb hby at_146) rfl rfl rfl ?_
          refine ow_iload (q := 150) X240 hx (hb hby at_148) rfl rfl ?_
          obtain ⟨cq246, kq246, q246a, q246b, q246c⟩ := isOf hZ rfl F242
          obtain ⟨_, _, ⟨T246, L246, k246, n246⟩, -, X246, ⟨Lc246, hQ246, l246, y246, z246⟩, st246⟩ := X240.virtualBack hx (y := (⟨"com/example/swarm_tally/swarmtally/ChunkMarks", "next", "(I)I"⟩ : MethodName)) (z := (⟨"com/example/swarm_tally/swarmtally/ChunkMarks", "next", "(I)I"⟩ : MethodName)) hown (mvT hZ (hw _ (List.mem_of_getElem? (i := 20) rfl))) (mvT hZ (hw _ (List.mem_of_getElem? (i := 21) rfl))) (notFace_of_selects (args := #[]) (mvT hZ (hw _ (List.mem_of_getElem? (i := 23) rfl)))) (mvT hZ (hw _ (List.mem_of_getElem? (i := 23) rfl))) (mvT hZ (hw _ (List.mem_of_getElem? (i := 22) rfl))) (by decide) (backOf (W := 0) (rm_next_4 l Z av0 hw [] b212 fr ar2_218 (ownUpd (fun _ => (0 : Int32)) (own_ix v209) (1 : Int32)) T240.heap n0 (Nat.le_trans Z0 K240.1) F244 FP240_0 hfr) hZ (hw _ (List.mem_of_getElem? (i := 24) rfl)) (hw _ (List.mem_of_getElem? (i := 3) rfl)) (by decide) (by decide)) q246a q246c (g := (mkF m 150 #[iv p0, iv p1, iv p2, iv p3, iv p4, iv (4 : Int32), iv v208, iv v209, iv v210, iv ma, iv mb, iv sm, iv fr, rv b212, .unset, .unset, .unset, .unset] [(.int fr), (.ref b212)])) rfl (by rw [hml]; rfl) (Steps.refl _) (argsL := [(.int fr)]) (rest := []) (lenOf own_pd4 rfl) rfl (by show 2 * 0 + _ ≤ _; exact Nat.le_of_eq rfl) (hb hby at_150) (fun _ _ => ⟨rfl, rfl, (by decide : 3 + 0 ≤ _), (by decide : 6 + 0 ≤ _)⟩)
          dsimp only [Pt.U, Pt.locs, Pt.cells, Pt.slots] at X246 l246 y246 z246 st246 hQ246
          subst l246 y246 z246
          obtain ⟨rfl, N246q, e246⟩ := hQ246
          have N246 := Fr.app N240 N246q
          refine ownRun (T' := T246) (f' := (mkF m 153 #[iv p0, iv p1, iv p2, iv p3, iv p4, iv (4 : Int32), iv v208, iv v209, iv v210, iv ma, iv mb, iv sm, iv fr, rv b212, .unset, .unset, .unset, .unset] [(.int (own_next (ownUpd (fun _ => (0 : Int32)) (own_ix v209) (1 : Int32)) 4 fr))])) st246 ?_
          generalize hv_v247 : (own_next (ownUpd (fun _ => (0 : Int32)) (own_ix v209) (1 : Int32)) 4 fr) = v247
          refine ow_istore (q := 155) X246 hx (L' := #[iv p0, iv p1, iv p2, iv p3, iv p4, iv (4 : Int32), iv v208, iv v209, iv v210, iv ma, iv mb, iv sm, iv fr, rv b212, iv v247, .unset, .unset, .unset]) (hb hby at_153) rfl rfl ?_
          refine ow_iload (q := 157) X246 hx (hb hby at_155) rfl rfl ?_
          refine ow_sipush (q := 160) X246 hx (1024 : Int32) (hb hby at_157) rfl rfl ?_
          refine ow_idiv (q := 161) X246 hx _ (hb hby at_160) rfl (by decide) rfl ?_
          generalize hv_v248 : (v209 / (1024 : Int32)) = v248
          refine ow_istore (q := 163) X246 hx (L' := #[iv p0, iv p1, iv p2, iv p3, iv p4, iv (4 : Int32), iv v208, iv v209, iv v210, iv ma, iv mb, iv sm, iv fr, rv b212, iv v247, iv v248, .unset, .unset]) (hb hby at_161) rfl rfl ?_
          refine ow_iload (q := 165) X246 hx (hb hby at_163) rfl rfl ?_
          refine ow_sipush (q := 168) X246 hx (1024 : Int32) (hb hby at_165) rfl rfl ?_
          refine ow_idiv (q := 169) X246 hx _ (hb hby at_168) rfl (by decide) rfl ?_
          generalize hv_v249 : (v210 / (1024 : Int32)) = v249
          refine ow_istore (q := 171) X246 hx (L' := #[iv p0, iv p1, iv p2, iv p3, iv p4, iv (4 : Int32), iv v208, iv v209, iv v210, iv ma, iv mb, iv sm, iv fr, rv b212, iv v247, iv v248, iv v249, .unset]) (hb hby at_169) rfl rfl ?_
          refine ow_iconst (q := 172) X246 hx (-1 : Int32) (hb hby at_171) rfl rfl ?_
          refine ow_istore (q := 174) X246 hx (L' := #[iv p0, iv p1, iv p2, iv p3, iv p4, iv (4 : Int32), iv v208, iv v209, iv v210, iv ma, iv mb, iv sm, iv fr, rv b212, iv v247, iv v248, iv v249, iv (-1 : Int32)]) (hb hby at_172) rfl rfl ?_
          have cut218_250 : ∀ (be : Int32) (Tc250 : State) (lc250 : List Loc), Stand p l e room_1 s m #[(.int p0), (.int p1), (.int p2), (.int p3), (.int p4)] below meth c Tc250 lc250 3 6 → Tc250.heap = T240.heap → Fr n0 lc250 → (be = own_best ma mb v248 v249 fr) → ownEnds p e below s (Q_law Z p0 p1 p2 p3 p4 h0 n0) 16 128 Tc250 (mkF m 218 #[iv p0, iv p1, iv p2, iv p3, iv p4, iv (4 : Int32), iv v208, iv v209, iv v210, iv ma, iv mb, iv sm, iv fr, rv b212, iv v247, iv v248, iv v249, iv be] []) := by
            intro be Tc250 lc250 Xc250 ec250 Nc250 hbe
            refine ow_iload (q := 220) Xc250 hx (hb hby at_218) rfl rfl ?_
            refine ow_iload (q := 222) Xc250 hx (hb hby at_220) rfl rfl ?_
            refine ow_icmpNo (q := 225) Xc250 hx (hb hby at_222) rfl (Jvm.Free.XT.ii_ne_f (by rw [hbe, ← hv_v247]; exact own_final (own_g10 hc124_222 hc136_245) (own_ca (own_a (n := 4) hv_v209 hv_v208) hv_v248) (own_ca (own_a (n := 4) hv_v210 hv_v208) hv_v249) (own_il (own_a (n := 4) hv_v209 hv_v208)) (own_il (own_a (n := 4) hv_v210 hv_v208)) hfr)) ?_
            refine ow_iconst (q := 226) Xc250 hx (1 : Int32) (hb hby at_225) rfl rfl ?_
            refine ow_goto (q := 230) Xc250 hx (hb hby at_226) (by decide) (by decide) ?_
            refine ownRetN Xc250 hx (r := (1 : Int32)) (Or.inl rfl) Bd.returns (hb hby at_230) hlk (by decide) (by decide) (by decide) ?_
            exact ⟨rfl, Nc250⟩
          refine ow_iload (q := 176) X246 hx (hb hby at_174) rfl rfl ?_
          refine ow_ifNo (q := 179) X246 hx (hb hby at_176) rfl (Jvm.Free.XT.i0_eq_f hc124_222) ?_
          refine ow_iload (q := 181) X246 hx (hb hby at_179) rfl rfl ?_
          refine ow_iload (q := 183) X246 hx (hb hby at_181) rfl rfl ?_
          by_cases hc183_251 : v248 < fr
          · refine ow_icmpYes (q := 190) X246 hx (hb hby at_183) (Jvm.Free.XT.ii_lt_t hc183_251) (by decide) (by decide) ?_
            refine ow_iload (q := 192) X246 hx (hb hby at_190) rfl rfl ?_
            refine ow_ifYes (q := 218) X246 hx (hb hby at_192) (Jvm.Free.XT.i0_eq_t hc136_245) (by decide) (by decide) ?_
            exact cut218_250 (-1 : Int32) _ _ X246 e246 N246 (by simp [own_best, hc124_222, hc136_245, hc183_251])
          · refine ow_icmpNo (q := 186) X246 hx (hb hby at_183) rfl (Jvm.Free.XT.ii_lt_f hc183_251) ?_
            refine ow_iload (q := 188) X246 hx (hb hby at_186) rfl rfl ?_
            refine ow_istore (q := 190) X246 hx (L' := #[iv p0, iv p1, iv p2, iv p3, iv p4, iv (4 : Int32), iv v208, iv v209, iv v210, iv ma, iv mb, iv sm, iv fr, rv b212, iv v247, iv v248, iv v249, iv v248]) (hb hby at_188) rfl rfl ?_
            refine ow_iload (q := 192) X246 hx (hb hby at_190) rfl rfl ?_
            refine ow_ifYes (q := 218) X246 hx (hb hby at_192) (Jvm.Free.XT.i0_eq_t hc136_245) (by decide) (by decide) ?_
            exact cut218_250 v248 _ _ X246 e246 N246 (by simp [own_best, hc124_222, hc136_245, hc183_251])
        · refine ow_ifNo (q := 139) X240 hx (hb hby at_136) rfl (Jvm.Free.XT.i0_eq_f hc136_245) ?_
          refine ow_aload (q := 141) X240 hx (hb hby at_139) rfl rfl rfl ?_
          refine ow_iload (q := 143) X240 hx (hb hby at_141) rfl rfl ?_
          obtain ⟨cq252, kq252, q252a, q252b, q252c⟩ := isOf hZ rfl F242
          obtain ⟨_, _, ⟨T252, L252, k252, n252⟩, -, X252, ⟨Lc252, hQ252, l252, y252, z252⟩, st252⟩ := X240.virtualBack hx (y := (⟨"com/example/swarm_tally/swarmtally/ChunkMarks", "mark", "(I)V"⟩ : MethodName)) (z := (⟨"com/example/swarm_tally/swarmtally/ChunkMarks", "mark", "(I)V"⟩ : MethodName)) hown (mvT hZ (hw _ (List.mem_of_getElem? (i := 37) rfl))) (mvT hZ (hw _ (List.mem_of_getElem? (i := 38) rfl))) (notFace_of_selects (args := #[]) (mvT hZ (hw _ (List.mem_of_getElem? (i := 40) rfl)))) (mvT hZ (hw _ (List.mem_of_getElem? (i := 40) rfl))) (mvT hZ (hw _ (List.mem_of_getElem? (i := 39) rfl))) (by decide) (backOf (W := 0) (rm_mark_4 l Z av0 hw [] b212 v210 ar2_218 (ownUpd (fun _ => (0 : Int32)) (own_ix v209) (1 : Int32)) T240.heap n0 (Nat.le_trans Z0 K240.1) F244 FP240_0 F241 G_ar2_218 (own_in (own_a (n := 4) hv_v210 hv_v208)) ne_b212_ar2_218) hZ (hw _ (List.mem_of_getElem? (i := 41) rfl)) (hw _ (List.mem_of_getElem? (i := 3) rfl)) (by decide) (by decide)) q252a q252c (g := (mkF m 143 #[iv p0, iv p1, iv p2, iv p3, iv p4, iv (4 : Int32), iv v208, iv v209, iv v210, iv ma, iv mb, iv sm, iv fr, rv b212, .unset, .unset, .unset, .unset] [(.int v210), (.ref b212)])) rfl (by rw [hml]; rfl) (Steps.refl _) (argsL := [(.int v210)]) (rest := []) (lenOf own_pd3 rfl) rfl (by show 2 * 0 + _ ≤ _; exact Nat.le_of_eq rfl) (hb hby at_143) (fun _ _ => ⟨rfl, rfl, (by decide : 3 + 0 ≤ _), (by decide : 6 + 0 ≤ _)⟩)
          dsimp only [Pt.U, Pt.locs, Pt.cells, Pt.slots] at X252 l252 y252 z252 st252 hQ252
          subst l252 y252 z252
          obtain ⟨rfl, N252q, Kq252, FP252_0⟩ := hQ252
          have N252 := Fr.app N240 N252q
          have K252 : Keep h0 T252.heap [] := K240.trans Kq252 (allS (Or.inr sz_ar2_218) all0)
          have F253 : Sta Z T252.heap "com/example/swarm_tally/swarmtally/ChunkMarks" "CHUNK_SHIFT" "I" (.int (10 : Int32)) := ownStaKeep F241 Kq252 (allS (ownNstI FP240_0) all0)
          have F254 : Exa Z T252.heap b212 "com/example/swarm_tally/swarmtally/ChunkMarks" := F242.keep Kq252
          have F255 : ownAI Z T252.heap ar_215 .boolean 1 (fun _ => (0 : Int32)) := F243.keep Kq252 (ninS ne_ar_215_ar2_218 nin0)
          have F256 : Fld Z T252.heap b212 "com/example/swarm_tally/swarmtally/ChunkMarks" "changed" "[Z" (.ref ar2_218) := F244.keep Kq252 (ninS ne_b212_ar2_218 nin0)
          refine ownRun (T' := T252) (f' := (mkF m 146 #[iv p0, iv p1, iv p2, iv p3, iv p4, iv (4 : Int32), iv v208, iv v209, iv v210, iv ma, iv mb, iv sm, iv fr, rv b212, .unset, .unset, .unset, .unset] [])) st252 ?_
          refine ow_aload (q := 148) X252 hx (hb hby at_146) rfl rfl rfl ?_
          refine ow_iload (q := 150) X252 hx (hb hby at_148) rfl rfl ?_
          obtain ⟨cq257, kq257, q257a, q257b, q257c⟩ := isOf hZ rfl F254
          obtain ⟨_, _, ⟨T257, L257, k257, n257⟩, -, X257, ⟨Lc257, hQ257, l257, y257, z257⟩, st257⟩ := X252.virtualBack hx (y := (⟨"com/example/swarm_tally/swarmtally/ChunkMarks", "next", "(I)I"⟩ : MethodName)) (z := (⟨"com/example/swarm_tally/swarmtally/ChunkMarks", "next", "(I)I"⟩ : MethodName)) hown (mvT hZ (hw _ (List.mem_of_getElem? (i := 20) rfl))) (mvT hZ (hw _ (List.mem_of_getElem? (i := 21) rfl))) (notFace_of_selects (args := #[]) (mvT hZ (hw _ (List.mem_of_getElem? (i := 23) rfl)))) (mvT hZ (hw _ (List.mem_of_getElem? (i := 23) rfl))) (mvT hZ (hw _ (List.mem_of_getElem? (i := 22) rfl))) (by decide) (backOf (W := 0) (rm_next_4 l Z av0 hw [] b212 fr ar2_218 (ownUpd (ownUpd (fun _ => (0 : Int32)) (own_ix v209) (1 : Int32)) (own_ix v210) (1 : Int32)) T252.heap n0 (Nat.le_trans Z0 K252.1) F256 FP252_0 hfr) hZ (hw _ (List.mem_of_getElem? (i := 24) rfl)) (hw _ (List.mem_of_getElem? (i := 3) rfl)) (by decide) (by decide)) q257a q257c (g := (mkF m 150 #[iv p0, iv p1, iv p2, iv p3, iv p4, iv (4 : Int32), iv v208, iv v209, iv v210, iv ma, iv mb, iv sm, iv fr, rv b212, .unset, .unset, .unset, .unset] [(.int fr), (.ref b212)])) rfl (by rw [hml]; rfl) (Steps.refl _) (argsL := [(.int fr)]) (rest := []) (lenOf own_pd4 rfl) rfl (by show 2 * 0 + _ ≤ _; exact Nat.le_of_eq rfl) (hb hby at_150) (fun _ _ => ⟨rfl, rfl, (by decide : 3 + 0 ≤ _), (by decide : 6 + 0 ≤ _)⟩)
          dsimp only [Pt.U, Pt.locs, Pt.cells, Pt.slots] at X257 l257 y257 z257 st257 hQ257
          subst l257 y257 z257
          obtain ⟨rfl, N257q, e257⟩ := hQ257
          have N257 := Fr.app N252 N257q
          refine ownRun (T' := T257) (f' := (mkF m 153 #[iv p0, iv p1, iv p2, iv p3, iv p4, iv (4 : Int32), iv v208, iv v209, iv v210, iv ma, iv mb, iv sm, iv fr, rv b212, .unset, .unset, .unset, .unset] [(.int (own_next (ownUpd (ownUpd (fun _ => (0 : Int32)) (own_ix v209) (1 : Int32)) (own_ix v210) (1 : Int32)) 4 fr))])) st257 ?_
          generalize hv_v258 : (own_next (ownUpd (ownUpd (fun _ => (0 : Int32)) (own_ix v209) (1 : Int32)) (own_ix v210) (1 : Int32)) 4 fr) = v258
          refine ow_istore (q := 155) X257 hx (L' := #[iv p0, iv p1, iv p2, iv p3, iv p4, iv (4 : Int32), iv v208, iv v209, iv v210, iv ma, iv mb, iv sm, iv fr, rv b212, iv v258, .unset, .unset, .unset]) (hb hby at_153) rfl rfl ?_
          refine ow_iload (q := 157) X257 hx (hb hby at_155) rfl rfl ?_
          refine ow_sipush (q := 160) X257 hx (1024 : Int32) (hb hby at_157) rfl rfl ?_
          refine ow_idiv (q := 161) X257 hx _ (hb hby at_160) rfl (by decide) rfl ?_
          generalize hv_v259 : (v209 / (1024 : Int32)) = v259
          refine ow_istore (q := 163) X257 hx (L' := #[iv p0, iv p1, iv p2, iv p3, iv p4, iv (4 : Int32), iv v208, iv v209, iv v210, iv ma, iv mb, iv sm, iv fr, rv b212, iv v258, iv v259, .unset, .unset]) (hb hby at_161) rfl rfl ?_
          refine ow_iload (q := 165) X257 hx (hb hby at_163) rfl rfl ?_
          refine ow_sipush (q := 168) X257 hx (1024 : Int32) (hb hby at_165) rfl rfl ?_
          refine ow_idiv (q := 169) X257 hx _ (hb hby at_168) rfl (by decide) rfl ?_
          generalize hv_v260 : (v210 / (1024 : Int32)) = v260
          refine ow_istore (q := 171) X257 hx (L' := #[iv p0, iv p1, iv p2, iv p3, iv p4, iv (4 : Int32), iv v208, iv v209, iv v210, iv ma, iv mb, iv sm, iv fr, rv b212, iv v258, iv v259, iv v260, .unset]) (hb hby at_169) rfl rfl ?_
          refine ow_iconst (q := 172) X257 hx (-1 : Int32) (hb hby at_171) rfl rfl ?_
          refine ow_istore (q := 174) X257 hx (L' := #[iv p0, iv p1, iv p2, iv p3, iv p4, iv (4 : Int32), iv v208, iv v209, iv v210, iv ma, iv mb, iv sm, iv fr, rv b212, iv v258, iv v259, iv v260, iv (-1 : Int32)]) (hb hby at_172) rfl rfl ?_
          have cut218_261 : ∀ (be : Int32) (Tc261 : State) (lc261 : List Loc), Stand p l e room_1 s m #[(.int p0), (.int p1), (.int p2), (.int p3), (.int p4)] below meth c Tc261 lc261 3 6 → Tc261.heap = T252.heap → Fr n0 lc261 → (be = own_best ma mb v259 v260 fr) → ownEnds p e below s (Q_law Z p0 p1 p2 p3 p4 h0 n0) 16 128 Tc261 (mkF m 218 #[iv p0, iv p1, iv p2, iv p3, iv p4, iv (4 : Int32), iv v208, iv v209, iv v210, iv ma, iv mb, iv sm, iv fr, rv b212, iv v258, iv v259, iv v260, iv be] []) := by
            intro be Tc261 lc261 Xc261 ec261 Nc261 hbe
            refine ow_iload (q := 220) Xc261 hx (hb hby at_218) rfl rfl ?_
            refine ow_iload (q := 222) Xc261 hx (hb hby at_220) rfl rfl ?_
            refine ow_icmpNo (q := 225) Xc261 hx (hb hby at_222) rfl (Jvm.Free.XT.ii_ne_f (by rw [hbe, ← hv_v258]; exact own_final (own_g11 hc124_222 hc136_245) (own_ca (own_a (n := 4) hv_v209 hv_v208) hv_v259) (own_ca (own_a (n := 4) hv_v210 hv_v208) hv_v260) (own_il (own_a (n := 4) hv_v209 hv_v208)) (own_il (own_a (n := 4) hv_v210 hv_v208)) hfr)) ?_
            refine ow_iconst (q := 226) Xc261 hx (1 : Int32) (hb hby at_225) rfl rfl ?_
            refine ow_goto (q := 230) Xc261 hx (hb hby at_226) (by decide) (by decide) ?_
            refine ownRetN Xc261 hx (r := (1 : Int32)) (Or.inl rfl) Bd.returns (hb hby at_230) hlk (by decide) (by decide) (by decide) ?_
            exact ⟨rfl, Nc261⟩
          refine ow_iload (q := 176) X257 hx (hb hby at_174) rfl rfl ?_
          refine ow_ifNo (q := 179) X257 hx (hb hby at_176) rfl (Jvm.Free.XT.i0_eq_f hc124_222) ?_
          refine ow_iload (q := 181) X257 hx (hb hby at_179) rfl rfl ?_
          refine ow_iload (q := 183) X257 hx (hb hby at_181) rfl rfl ?_
          by_cases hc183_262 : v259 < fr
          · refine ow_icmpYes (q := 190) X257 hx (hb hby at_183) (Jvm.Free.XT.ii_lt_t hc183_262) (by decide) (by decide) ?_
            refine ow_iload (q := 192) X257 hx (hb hby at_190) rfl rfl ?_
            refine ow_ifNo (q := 195) X257 hx (hb hby at_192) rfl (Jvm.Free.XT.i0_eq_f hc136_245) ?_
            refine ow_iload (q := 197) X257 hx (hb hby at_195) rfl rfl ?_
            refine ow_iload (q := 199) X257 hx (hb hby at_197) rfl rfl ?_
            by_cases hc199_263 : v260 < fr
            · refine ow_icmpYes (q := 218) X257 hx (hb hby at_199) (Jvm.Free.XT.ii_lt_t hc199_263) (by decide) (by decide) ?_
              exact cut218_261 (-1 : Int32) _ _ X257 e257 N257 (by simp [own_best, hc124_222, hc136_245, hc183_262, hc199_263])
            · refine ow_icmpNo (q := 202) X257 hx (hb hby at_199) rfl (Jvm.Free.XT.ii_lt_f hc199_263) ?_
              refine ow_iload (q := 204) X257 hx (hb hby at_202) rfl rfl ?_
              refine ow_ifYes (q := 214) X257 hx (hb hby at_204) (Jvm.Free.XT.i0_lt_t (by decide)) (by decide) (by decide) ?_
              refine ow_iload (q := 216) X257 hx (hb hby at_214) rfl rfl ?_
              refine ow_istore (q := 218) X257 hx (L' := #[iv p0, iv p1, iv p2, iv p3, iv p4, iv (4 : Int32), iv v208, iv v209, iv v210, iv ma, iv mb, iv sm, iv fr, rv b212, iv v258, iv v259, iv v260, iv v260]) (hb hby at_216) rfl rfl ?_
              exact cut218_261 v260 _ _ X257 e257 N257 (by simp [own_best, hc124_222, hc136_245, hc183_262, hc199_263])
          · refine ow_icmpNo (q := 186) X257 hx (hb hby at_183) rfl (Jvm.Free.XT.ii_lt_f hc183_262) ?_
            refine ow_iload (q := 188) X257 hx (hb hby at_186) rfl rfl ?_
            refine ow_istore (q := 190) X257 hx (L' := #[iv p0, iv p1, iv p2, iv p3, iv p4, iv (4 : Int32), iv v208, iv v209, iv v210, iv ma, iv mb, iv sm, iv fr, rv b212, iv v258, iv v259, iv v260, iv v259]) (hb hby at_188) rfl rfl ?_
            refine ow_iload (q := 192) X257 hx (hb hby at_190) rfl rfl ?_
            refine ow_ifNo (q := 195) X257 hx (hb hby at_192) rfl (Jvm.Free.XT.i0_eq_f hc136_245) ?_
            refine ow_iload (q := 197) X257 hx (hb hby at_195) rfl rfl ?_
            refine ow_iload (q := 199) X257 hx (hb hby at_197) rfl rfl ?_
            by_cases hc199_264 : v260 < fr
            · refine ow_icmpYes (q := 218) X257 hx (hb hby at_199) (Jvm.Free.XT.ii_lt_t hc199_264) (by decide) (by decide) ?_
              exact cut218_261 v259 _ _ X257 e257 N257 (by simp [own_best, hc124_222, hc136_245, hc183_262, hc199_264])
            · refine ow_icmpNo (q := 202) X257 hx (hb hby at_199) rfl (Jvm.Free.XT.ii_lt_f hc199_264) ?_
              refine ow_iload (q := 204) X257 hx (hb hby at_202) rfl rfl ?_
              by_cases hc204_265 : v259 < (0 : Int32)
              · refine ow_ifYes (q := 214) X257 hx (hb hby at_204) (Jvm.Free.XT.i0_lt_t hc204_265) (by decide) (by decide) ?_
                refine ow_iload (q := 216) X257 hx (hb hby at_214) rfl rfl ?_
                refine ow_istore (q := 218) X257 hx (L' := #[iv p0, iv p1, iv p2, iv p3, iv p4, iv (4 : Int32), iv v208, iv v209, iv v210, iv ma, iv mb, iv sm, iv fr, rv b212, iv v258, iv v259, iv v260, iv v260]) (hb hby at_216) rfl rfl ?_
                exact cut218_261 v260 _ _ X257 e257 N257 (by simp [own_best, hc124_222, hc136_245, hc183_262, hc199_264, hc204_265])
              · refine ow_ifNo (q := 207) X257 hx (hb hby at_204) rfl (Jvm.Free.XT.i0_lt_f hc204_265) ?_
                refine ow_iload (q := 209) X257 hx (hb hby at_207) rfl rfl ?_
                refine ow_iload (q := 211) X257 hx (hb hby at_209) rfl rfl ?_
                by_cases hc211_266 : v260 < v259
                · refine ow_icmpNo (q := 214) X257 hx (hb hby at_211) rfl (Jvm.Free.XT.ii_ge_f hc211_266) ?_
                  refine ow_iload (q := 216) X257 hx (hb hby at_214) rfl rfl ?_
                  refine ow_istore (q := 218) X257 hx (L' := #[iv p0, iv p1, iv p2, iv p3, iv p4, iv (4 : Int32), iv v208, iv v209, iv v210, iv ma, iv mb, iv sm, iv fr, rv b212, iv v258, iv v259, iv v260, iv v260]) (hb hby at_216) rfl rfl ?_
                  exact cut218_261 v260 _ _ X257 e257 N257 (by simp [own_best, hc124_222, hc136_245, hc183_262, hc199_264, hc204_265, hc211_266])
                · refine ow_icmpYes (q := 218) X257 hx (hb hby at_211) (Jvm.Free.XT.ii_ge_t hc211_266) (by decide) (by decide) ?_
                  exact cut218_261 v259 _ _ X257 e257 N257 (by simp [own_best, hc124_222, hc136_245, hc183_262, hc199_264, hc204_265, hc211_266])
    have cut88_267 : ∀ (ma : Int32) (mb : Int32) (sm : Int32) (Tc267 : State) (lc267 : List Loc), Stand p l e room_1 s m #[(.int p0), (.int p1), (.int p2), (.int p3), (.int p4)] below meth c Tc267 lc267 0 0 → Tc267.heap = h0 → Fr n0 lc267 → ownEnds p e below s (Q_law Z p0 p1 p2 p3 p4 h0 n0) 16 128 Tc267 (mkF m 88 #[iv p0, iv p1, iv p2, iv p3, iv p4, iv (4 : Int32), iv v208, iv v209, iv v210, iv ma, iv mb, iv sm, .unset, .unset, .unset, .unset, .unset, .unset] []) := by
      intro ma mb sm Tc267 lc267 Xc267 ec267 Nc267
      refine ow_iload (q := 90) Xc267 hx (hb hby at_88) rfl rfl ?_
      by_cases hc90_268 : sm = (0 : Int32)
      · refine ow_ifYes (q := 100) Xc267 hx (hb hby at_90) (Jvm.Free.XT.i0_eq_t hc90_268) (by decide) (by decide) ?_
        refine ow_iloadN (q := 101) Xc267 hx (hb hby at_100) rfl rfl ?_
        refine ownGo (T' := Tc267) (f' := (mkF m 103 #[iv p0, iv p1, iv p2, iv p3, iv p4, iv (4 : Int32), iv v208, iv v209, iv v210, iv ma, iv mb, iv sm, .unset, .unset, .unset, .unset, .unset, .unset] [(.int (2147483647 : Int32)), (.int p3)])) (Xc267.ldcInt hx hown (mvT hZ (hw _ (List.mem_of_getElem? (i := 0) rfl))) (g := (mkF m 101 #[iv p0, iv p1, iv p2, iv p3, iv p4, iv (4 : Int32), iv v208, iv v209, iv v210, iv ma, iv mb, iv sm, .unset, .unset, .unset, .unset, .unset, .unset] [(.int p3)])) rfl (hb hby at_101)) ?_
        refine ow_iand (q := 104) Xc267 hx _ (hb hby at_103) rfl rfl ?_
        generalize hv_v269 : (p3 &&& (2147483647 : Int32)) = v269
        refine ow_istore (q := 106) Xc267 hx (L' := #[iv p0, iv p1, iv p2, iv p3, iv p4, iv (4 : Int32), iv v208, iv v209, iv v210, iv ma, iv mb, iv sm, iv v269, .unset, .unset, .unset, .unset, .unset]) (hb hby at_104) rfl rfl ?_
        exact cut106_211 ma mb sm v269 _ _ Xc267 ec267 Nc267 (own_frM hv_v269)
      · refine ow_ifNo (q := 93) Xc267 hx (hb hby at_90) rfl (Jvm.Free.XT.i0_eq_f hc90_268) ?_
        refine ow_iloadN (q := 94) Xc267 hx (hb hby at_93) rfl rfl ?_
        refine ow_bipush (q := 96) Xc267 hx (15 : Int32) (hb hby at_94) rfl rfl ?_
        refine ow_iand (q := 97) Xc267 hx _ (hb hby at_96) rfl rfl ?_
        refine ow_goto (q := 104) Xc267 hx (hb hby at_97) (by decide) (by decide) ?_
        generalize hv_v270 : (p3 &&& (15 : Int32)) = v270
        refine ow_istore (q := 106) Xc267 hx (L' := #[iv p0, iv p1, iv p2, iv p3, iv p4, iv (4 : Int32), iv v208, iv v209, iv v210, iv ma, iv mb, iv sm, iv v270, .unset, .unset, .unset, .unset, .unset]) (hb hby at_104) rfl rfl ?_
        exact cut106_211 ma mb sm v270 _ _ Xc267 ec267 Nc267 (own_fr15 hv_v270)
    have cut74_271 : ∀ (ma : Int32) (mb : Int32) (Tc271 : State) (lc271 : List Loc), Stand p l e room_1 s m #[(.int p0), (.int p1), (.int p2), (.int p3), (.int p4)] below meth c Tc271 lc271 0 0 → Tc271.heap = h0 → Fr n0 lc271 → ownEnds p e below s (Q_law Z p0 p1 p2 p3 p4 h0 n0) 16 128 Tc271 (mkF m 74 #[iv p0, iv p1, iv p2, iv p3, iv p4, iv (4 : Int32), iv v208, iv v209, iv v210, iv ma, iv mb, .unset, .unset, .unset, .unset, .unset, .unset, .unset] []) := by
      intro ma mb Tc271 lc271 Xc271 ec271 Nc271
      refine ow_iload (q := 76) Xc271 hx (hb hby at_74) rfl rfl ?_
      refine ow_iconst (q := 77) Xc271 hx (4 : Int32) (hb hby at_76) rfl rfl ?_
      refine ow_iand (q := 78) Xc271 hx _ (hb hby at_77) rfl rfl ?_
      by_cases hc78_272 : (p4 &&& (4 : Int32)) = (0 : Int32)
      · refine ow_ifYes (q := 85) Xc271 hx (hb hby at_78) (Jvm.Free.XT.i0_eq_t hc78_272) (by decide) (by decide) ?_
        refine ow_iconst (q := 86) Xc271 hx (0 : Int32) (hb hby at_85) rfl rfl ?_
        refine ow_istore (q := 88) Xc271 hx (L' := #[iv p0, iv p1, iv p2, iv p3, iv p4, iv (4 : Int32), iv v208, iv v209, iv v210, iv ma, iv mb, iv (0 : Int32), .unset, .unset, .unset, .unset, .unset, .unset]) (hb hby at_86) rfl rfl ?_
        exact cut88_267 ma mb (0 : Int32) _ _ Xc271 ec271 Nc271 
      · refine ow_ifNo (q := 81) Xc271 hx (hb hby at_78) rfl (Jvm.Free.XT.i0_eq_f hc78_272) ?_
        refine ow_iconst (q := 82) Xc271 hx (1 : Int32) (hb hby at_81) rfl rfl ?_
        refine ow_goto (q := 86) Xc271 hx (hb hby at_82) (by decide) (by decide) ?_
        refine ow_istore (q := 88) Xc271 hx (L' := #[iv p0, iv p1, iv p2, iv p3, iv p4, iv (4 : Int32), iv v208, iv v209, iv v210, iv ma, iv mb, iv (1 : Int32), .unset, .unset, .unset, .unset, .unset, .unset]) (hb hby at_86) rfl rfl ?_
        exact cut88_267 ma mb (1 : Int32) _ _ Xc271 ec271 Nc271 
    have cut60_273 : ∀ (ma : Int32) (Tc273 : State) (lc273 : List Loc), Stand p l e room_1 s m #[(.int p0), (.int p1), (.int p2), (.int p3), (.int p4)] below meth c Tc273 lc273 0 0 → Tc273.heap = h0 → Fr n0 lc273 → ownEnds p e below s (Q_law Z p0 p1 p2 p3 p4 h0 n0) 16 128 Tc273 (mkF m 60 #[iv p0, iv p1, iv p2, iv p3, iv p4, iv (4 : Int32), iv v208, iv v209, iv v210, iv ma, .unset, .unset, .unset, .unset, .unset, .unset, .unset, .unset] []) := by
      intro ma Tc273 lc273 Xc273 ec273 Nc273
      refine ow_iload (q := 62) Xc273 hx (hb hby at_60) rfl rfl ?_
      refine ow_iconst (q := 63) Xc273 hx (2 : Int32) (hb hby at_62) rfl rfl ?_
      refine ow_iand (q := 64) Xc273 hx _ (hb hby at_63) rfl rfl ?_
      by_cases hc64_274 : (p4 &&& (2 : Int32)) = (0 : Int32)
      · refine ow_ifYes (q := 71) Xc273 hx (hb hby at_64) (Jvm.Free.XT.i0_eq_t hc64_274) (by decide) (by decide) ?_
        refine ow_iconst (q := 72) Xc273 hx (0 : Int32) (hb hby at_71) rfl rfl ?_
        refine ow_istore (q := 74) Xc273 hx (L' := #[iv p0, iv p1, iv p2, iv p3, iv p4, iv (4 : Int32), iv v208, iv v209, iv v210, iv ma, iv (0 : Int32), .unset, .unset, .unset, .unset, .unset, .unset, .unset]) (hb hby at_72) rfl rfl ?_
        exact cut74_271 ma (0 : Int32) _ _ Xc273 ec273 Nc273 
      · refine ow_ifNo (q := 67) Xc273 hx (hb hby at_64) rfl (Jvm.Free.XT.i0_eq_f hc64_274) ?_
        refine ow_iconst (q := 68) Xc273 hx (1 : Int32) (hb hby at_67) rfl rfl ?_
        refine ow_goto (q := 72) Xc273 hx (hb hby at_68) (by decide) (by decide) ?_
        refine ow_istore (q := 74) Xc273 hx (L' := #[iv p0, iv p1, iv p2, iv p3, iv p4, iv (4 : Int32), iv v208, iv v209, iv v210, iv ma, iv (1 : Int32), .unset, .unset, .unset, .unset, .unset, .unset, .unset]) (hb hby at_72) rfl rfl ?_
        exact cut74_271 ma (1 : Int32) _ _ Xc273 ec273 Nc273 
    refine ow_iload (q := 48) X0 hx (hb hby at_46) rfl rfl ?_
    refine ow_iconst (q := 49) X0 hx (1 : Int32) (hb hby at_48) rfl rfl ?_
    refine ow_iand (q := 50) X0 hx _ (hb hby at_49) rfl rfl ?_
    by_cases hc50_275 : (p4 &&& (1 : Int32)) = (0 : Int32)
    · refine ow_ifYes (q := 57) X0 hx (hb hby at_50) (Jvm.Free.XT.i0_eq_t hc50_275) (by decide) (by decide) ?_
      refine ow_iconst (q := 58) X0 hx (0 : Int32) (hb hby at_57) rfl rfl ?_
      refine ow_istore (q := 60) X0 hx (L' := #[iv p0, iv p1, iv p2, iv p3, iv p4, iv (4 : Int32), iv v208, iv v209, iv v210, iv (0 : Int32), .unset, .unset, .unset, .unset, .unset, .unset, .unset, .unset]) (hb hby at_58) rfl rfl ?_
      exact cut60_273 (0 : Int32) _ _ X0 e0 N0 
    · refine ow_ifNo (q := 53) X0 hx (hb hby at_50) rfl (Jvm.Free.XT.i0_eq_f hc50_275) ?_
      refine ow_iconst (q := 54) X0 hx (1 : Int32) (hb hby at_53) rfl rfl ?_
      refine ow_goto (q := 58) X0 hx (hb hby at_54) (by decide) (by decide) ?_
      refine ow_istore (q := 60) X0 hx (L' := #[iv p0, iv p1, iv p2, iv p3, iv p4, iv (4 : Int32), iv v208, iv v209, iv v210, iv (1 : Int32), .unset, .unset, .unset, .unset, .unset, .unset, .unset, .unset]) (hb hby at_58) rfl rfl ?_
      exact cut60_273 (1 : Int32) _ _ X0 e0 N0 
  · subst hs6
    refine ow_iload (q := 10) X0 hx (hb hby at_8) rfl rfl ?_
    refine ow_iconst (q := 11) X0 hx (1 : Int32) (hb hby at_10) rfl rfl ?_
    refine ow_isub (q := 12) X0 hx (4 : Int32) (hb hby at_11) rfl (by decide) ?_
    refine ow_sipush (q := 15) X0 hx (1024 : Int32) (hb hby at_12) rfl rfl ?_
    refine ow_imul (q := 16) X0 hx (4096 : Int32) (hb hby at_15) rfl (by decide) ?_
    refine ow_iconst (q := 17) X0 hx (1 : Int32) (hb hby at_16) rfl rfl ?_
    refine ow_iadd (q := 18) X0 hx (4097 : Int32) (hb hby at_17) rfl (by decide) ?_
    refine ow_iloadN (q := 19) X0 hx (hb hby at_18) rfl rfl ?_
    refine ow_iconst (q := 20) X0 hx (3 : Int32) (hb hby at_19) rfl rfl ?_
    refine ow_iushr (q := 21) X0 hx _ (hb hby at_20) rfl rfl ?_
    refine ow_sipush (q := 24) X0 hx (1023 : Int32) (hb hby at_21) rfl rfl ?_
    refine ow_iand (q := 25) X0 hx _ (hb hby at_24) rfl rfl ?_
    refine ow_iadd (q := 26) X0 hx _ (hb hby at_25) rfl rfl ?_
    generalize hv_v276 : ((4097 : Int32) + (((p0.toUInt32 >>> ((3 : Int32) &&& 31).toUInt32).toInt32) &&& (1023 : Int32))) = v276
    refine ow_istore (q := 28) X0 hx (L' := #[iv p0, iv p1, iv p2, iv p3, iv p4, iv (5 : Int32), iv v276, .unset, .unset, .unset, .unset, .unset, .unset, .unset, .unset, .unset, .unset, .unset]) (hb hby at_26) rfl rfl ?_
    refine ow_iloadN (q := 29) X0 hx (hb hby at_28) rfl rfl ?_
    refine ownGo (T' := s₁) (f' := (mkF m 31 #[iv p0, iv p1, iv p2, iv p3, iv p4, iv (5 : Int32), iv v276, .unset, .unset, .unset, .unset, .unset, .unset, .unset, .unset, .unset, .unset, .unset] [(.int (2147483647 : Int32)), (.int p1)])) (X0.ldcInt hx hown (mvT hZ (hw _ (List.mem_of_getElem? (i := 0) rfl))) (g := (mkF m 29 #[iv p0, iv p1, iv p2, iv p3, iv p4, iv (5 : Int32), iv v276, .unset, .unset, .unset, .unset, .unset, .unset, .unset, .unset, .unset, .unset, .unset] [(.int p1)])) rfl (hb hby at_29)) ?_
    refine ow_iand (q := 32) X0 hx _ (hb hby at_31) rfl rfl ?_
    refine ow_iload (q := 34) X0 hx (hb hby at_32) rfl rfl ?_
    refine ow_irem (q := 35) X0 hx _ (hb hby at_34) rfl (own_nzc hv_v276) rfl ?_
    generalize hv_v277 : ((p1 &&& (2147483647 : Int32)) % v276) = v277
    refine ow_istore (q := 37) X0 hx (L' := #[iv p0, iv p1, iv p2, iv p3, iv p4, iv (5 : Int32), iv v276, iv v277, .unset, .unset, .unset, .unset, .unset, .unset, .unset, .unset, .unset, .unset]) (hb hby at_35) rfl rfl ?_
    refine ow_iloadN (q := 38) X0 hx (hb hby at_37) rfl rfl ?_
    refine ownGo (T' := s₁) (f' := (mkF m 40 #[iv p0, iv p1, iv p2, iv p3, iv p4, iv (5 : Int32), iv v276, iv v277, .unset, .unset, .unset, .unset, .unset, .unset, .unset, .unset, .unset, .unset] [(.int (2147483647 : Int32)), (.int p2)])) (X0.ldcInt hx hown (mvT hZ (hw _ (List.mem_of_getElem? (i := 0) rfl))) (g := (mkF m 38 #[iv p0, iv p1, iv p2, iv p3, iv p4, iv (5 : Int32), iv v276, iv v277, .unset, .unset, .unset, .unset, .unset, .unset, .unset, .unset, .unset, .unset] [(.int p2)])) rfl (hb hby at_38)) ?_
    refine ow_iand (q := 41) X0 hx _ (hb hby at_40) rfl rfl ?_
    refine ow_iload (q := 43) X0 hx (hb hby at_41) rfl rfl ?_
    refine ow_irem (q := 44) X0 hx _ (hb hby at_43) rfl (own_nzc hv_v276) rfl ?_
    generalize hv_v278 : ((p2 &&& (2147483647 : Int32)) % v276) = v278
    refine ow_istore (q := 46) X0 hx (L' := #[iv p0, iv p1, iv p2, iv p3, iv p4, iv (5 : Int32), iv v276, iv v277, iv v278, .unset, .unset, .unset, .unset, .unset, .unset, .unset, .unset, .unset]) (hb hby at_44) rfl rfl ?_
    have cut106_279 : ∀ (ma : Int32) (mb : Int32) (sm : Int32) (fr : Int32) (Tc279 : State) (lc279 : List Loc), Stand p l e room_1 s m #[(.int p0), (.int p1), (.int p2), (.int p3), (.int p4)] below meth c Tc279 lc279 0 0 → Tc279.heap = h0 → Fr n0 lc279 → (0 ≤ fr.toInt) → ownEnds p e below s (Q_law Z p0 p1 p2 p3 p4 h0 n0) 16 128 Tc279 (mkF m 106 #[iv p0, iv p1, iv p2, iv p3, iv p4, iv (5 : Int32), iv v276, iv v277, iv v278, iv ma, iv mb, iv sm, iv fr, .unset, .unset, .unset, .unset, .unset] []) := by
      intro ma mb sm fr Tc279 lc279 Xc279 ec279 Nc279 hfr
      obtain ⟨T280, h280, X280, e280, E280, A280, D280, -, st280⟩ := newO Xc279 hx hZ hown (hw _ (List.mem_of_getElem? (i := 1) rfl)) (hw _ (List.mem_of_getElem? (i := 2) rfl)) (hw _ (List.mem_of_getElem? (i := 3) rfl)) ec279 (g := (mkF m 106 #[iv p0, iv p1, iv p2, iv p3, iv p4, iv (5 : Int32), iv v276, iv v277, iv v278, iv ma, iv mb, iv sm, iv fr, .unset, .unset, .unset, .unset, .unset] [])) rfl (hb hby at_106) (by decide) (by decide)
      obtain ⟨b280, g280⟩ : ∃ z, z = h0.size := ⟨_, rfl⟩
      rw [← g280] at A280 D280 st280
      have sz_b280 : h0.size ≤ b280 := Nat.le_trans K0.1 (Nat.le_of_eq g280.symm)
      have G_b280 : n0 ≤ b280 := Nat.le_trans Z0 sz_b280
      have K280 : Keep h0 h280 [] := K0.ext E280
      have F281 : Sta Z h280 "com/example/swarm_tally/swarmtally/ChunkMarks" "CHUNK_SHIFT" "I" (.int (10 : Int32)) := HF0.ext E280
      have F282 : Fld Z h280 b280 "com/example/swarm_tally/swarmtally/ChunkMarks" "changed" "[Z" .null := D280 (Or.inl (hw _ (List.mem_of_getElem? (i := 12) rfl))) (ty := (.array .boolean)) (by decide)
      refine ownGo (T' := T280) (f' := (mkF m 109 #[iv p0, iv p1, iv p2, iv p3, iv p4, iv (5 : Int32), iv v276, iv v277, iv v278, iv ma, iv mb, iv sm, iv fr, .unset, .unset, .unset, .unset, .unset] [(.ref b280)])) (st280) ?_
      refine ow_dup (q := 110) X280 hx (hb hby at_109) rfl rfl ?_
      obtain ⟨_, _, ⟨T283, L283, k283, n283⟩, -, X283, ⟨Lc283, hQ283, l283, y283, z283⟩, st283⟩ := X280.specialBack hx (y := (⟨"com/example/swarm_tally/swarmtally/ChunkMarks", "<init>", "()V"⟩ : MethodName)) rfl hown (mvT hZ (hw _ (List.mem_of_getElem? (i := 4) rfl))) (mvT hZ (hw _ (List.mem_of_getElem? (i := 5) rfl))) (mvT hZ (hw _ (List.mem_of_getElem? (i := 6) rfl))) (by decide) (backOf (W := 1) (rm_init l Z av0 hw [] b280 h280 n0 (Nat.le_trans Z0 K280.1) A280 F282 G_b280) hZ (hw _ (List.mem_of_getElem? (i := 6) rfl)) (hw _ (List.mem_of_getElem? (i := 3) rfl)) (by decide) (by decide)) (g := (mkF m 110 #[iv p0, iv p1, iv p2, iv p3, iv p4, iv (5 : Int32), iv v276, iv v277, iv v278, iv ma, iv mb, iv sm, iv fr, .unset, .unset, .unset, .unset, .unset] [(.ref b280), (.ref b280)])) rfl (by rw [hml]; rfl) (Steps.refl _) (a := b280) (argsL := []) (rest := [(.ref b280)]) (lenOf own_pd2 rfl) rfl (by show 2 * 0 + _ ≤ _; exact Nat.le_of_eq rfl) (hb hby at_110) (fun _ _ => ⟨rfl, e280, (by decide : 1 + 1 ≤ _), (by decide : 1 + 1 ≤ _)⟩)
      dsimp only [Pt.U, Pt.locs, Pt.cells, Pt.slots] at X283 l283 y283 z283 st283 hQ283
      subst l283 y283 z283
      obtain ⟨ar_283, rfl, N283q, Kq283, sq283_ar_283, FP283_0, FP283_1, FP283_2⟩ := hQ283
      have N283 := Fr.app Nc279 N283q
      have K283 : Keep h0 T283.heap [] := K280.trans Kq283 (allS (Or.inr sz_b280) all0)
      have ne_b280_ar_283 : b280 ≠ ar_283 := Nat.ne_of_lt (Nat.lt_of_lt_of_le A280.lt sq283_ar_283)
      have sz_ar_283 : h0.size ≤ ar_283 := Nat.le_trans K280.1 sq283_ar_283
      have G_ar_283 : n0 ≤ ar_283 := Nat.le_trans Z0 sz_ar_283
      have F284 : Sta Z T283.heap "com/example/swarm_tally/swarmtally/ChunkMarks" "CHUNK_SHIFT" "I" (.int (10 : Int32)) := ownStaKeep F281 Kq283 (allS (ownNstE A280) all0)
      have F285 : Exa Z T283.heap b280 "com/example/swarm_tally/swarmtally/ChunkMarks" := A280.keep Kq283
      refine ownRun (T' := T283) (f' := (mkF m 113 #[iv p0, iv p1, iv p2, iv p3, iv p4, iv (5 : Int32), iv v276, iv v277, iv v278, iv ma, iv mb, iv sm, iv fr, .unset, .unset, .unset, .unset, .unset] [(.ref b280)])) st283 ?_
      refine ow_astore (q := 115) X283 hx (L' := #[iv p0, iv p1, iv p2, iv p3, iv p4, iv (5 : Int32), iv v276, iv v277, iv v278, iv ma, iv mb, iv sm, iv fr, rv b280, .unset, .unset, .unset, .unset]) (hb hby at_113) rfl rfl rfl ?_
      refine ow_aload (q := 117) X283 hx (hb hby at_115) rfl rfl rfl ?_
      refine ow_iload (q := 119) X283 hx (hb hby at_117) rfl rfl ?_
      obtain ⟨cq286, kq286, q286a, q286b, q286c⟩ := isOf hZ rfl FP283_0
      obtain ⟨_, _, ⟨T286, L286, k286, n286⟩, -, X286, ⟨Lc286, hQ286, l286, y286, z286⟩, st286⟩ := X283.virtualBack hx (y := (⟨"com/example/swarm_tally/swarmtally/ChunkMarks", "grow", "(I)V"⟩ : MethodName)) (z := (⟨"com/example/swarm_tally/swarmtally/ChunkMarks", "grow", "(I)V"⟩ : MethodName)) hown (mvT hZ (hw _ (List.mem_of_getElem? (i := 13) rfl))) (mvT hZ (hw _ (List.mem_of_getElem? (i := 14) rfl))) (notFace_of_selects (args := #[]) (mvT hZ (hw _ (List.mem_of_getElem? (i := 16) rfl)))) (mvT hZ (hw _ (List.mem_of_getElem? (i := 16) rfl))) (mvT hZ (hw _ (List.mem_of_getElem? (i := 15) rfl))) (by decide) (backOf (W := 0) (rm_grow_5 l Z av0 hw [] b280 v276 ar_283 T283.heap n0 (Nat.le_trans Z0 K283.1) FP283_0 FP283_1 FP283_2 F284 G_b280 (own_chunk5 hv_v276) ne_b280_ar_283) hZ (hw _ (List.mem_of_getElem? (i := 17) rfl)) (hw _ (List.mem_of_getElem? (i := 3) rfl)) (by decide) (by decide)) q286a q286c (g := (mkF m 119 #[iv p0, iv p1, iv p2, iv p3, iv p4, iv (5 : Int32), iv v276, iv v277, iv v278, iv ma, iv mb, iv sm, iv fr, rv b280, .unset, .unset, .unset, .unset] [(.int v276), (.ref b280)])) rfl (by rw [hml]; rfl) (Steps.refl _) (argsL := [(.int v276)]) (rest := []) (lenOf own_pd3 rfl) rfl (by show 2 * 0 + _ ≤ _; exact Nat.le_of_eq rfl) (hb hby at_119) (fun _ _ => ⟨rfl, rfl, (by decide : 2 + 1 ≤ _), (by decide : 2 + 5 ≤ _)⟩)
      dsimp only [Pt.U, Pt.locs, Pt.cells, Pt.slots] at X286 l286 y286 z286 st286 hQ286
      subst l286 y286 z286
      obtain ⟨ar2_286, rfl, N286q, Kq286, sq286_ar2_286, FP286_0, FP286_1, FP286_2⟩ := hQ286
      have N286 := Fr.app N283 N286q
      have K286 : Keep h0 T286.heap [] := K283.trans Kq286 (allS (Or.inr sz_b280) all0)
      have ne_b280_ar2_286 : b280 ≠ ar2_286 := Nat.ne_of_lt (Nat.lt_of_lt_of_le FP283_0.lt sq286_ar2_286)
      have ne_ar_283_ar2_286 : ar_283 ≠ ar2_286 := Nat.ne_of_lt (Nat.lt_of_lt_of_le FP283_2.lt sq286_ar2_286)
      have sz_ar2_286 : h0.size ≤ ar2_286 := Nat.le_trans K283.1 sq286_ar2_286
      have G_ar2_286 : n0 ≤ ar2_286 := Nat.le_trans Z0 sz_ar2_286
      have F287 : Sta Z T286.heap "com/example/swarm_tally/swarmtally/ChunkMarks" "CHUNK_SHIFT" "I" (.int (10 : Int32)) := ownStaKeep F284 Kq286 (allS (ownNstE FP283_0) all0)
      have F288 : Exa Z T286.heap b280 "com/example/swarm_tally/swarmtally/ChunkMarks" := FP283_0.keep Kq286
      have F289 : ownAI Z T286.heap ar_283 .boolean 1 (fun _ => (0 : Int32)) := FP283_2.keep Kq286 (ninS (Ne.symm ne_b280_ar_283) nin0)
      refine ownRun (T' := T286) (f' := (mkF m 122 #[iv p0, iv p1, iv p2, iv p3, iv p4, iv (5 : Int32), iv v276, iv v277, iv v278, iv ma, iv mb, iv sm, iv fr, rv b280, .unset, .unset, .unset, .unset] [])) st286 ?_
      refine ow_iload (q := 124) X286 hx (hb hby at_122) rfl rfl ?_
      by_cases hc124_290 : ma = (0 : Int32)
      · refine ow_ifYes (q := 134) X286 hx (hb hby at_124) (Jvm.Free.XT.i0_eq_t hc124_290) (by decide) (by decide) ?_
        refine ow_iload (q := 136) X286 hx (hb hby at_134) rfl rfl ?_
        by_cases hc136_291 : mb = (0 : Int32)
        · refine ow_ifYes (q := 146) X286 hx (hb hby at_136) (Jvm.Free.XT.i0_eq_t hc136_291) (by decide) (by decide) ?_
          refine ow_aload (q := 148) X286 hx (hb hby at_146) rfl rfl rfl ?_
          refine ow_iload (q := 150) X286 hx (hb hby at_148) rfl rfl ?_
          obtain ⟨cq292, kq292, q292a, q292b, q292c⟩ := isOf hZ rfl FP286_0
          obtain ⟨_, _, ⟨T292, L292, k292, n292⟩, -, X292, ⟨Lc292, hQ292, l292, y292, z292⟩, st292⟩ := X286.virtualBack hx (y := (⟨"com/example/swarm_tally/swarmtally/ChunkMarks", "next", "(I)I"⟩ : MethodName)) (z := (⟨"com/example/swarm_tally/swarmtally/ChunkMarks", "next", "(I)I"⟩ : MethodName)) hown (mvT hZ (hw _ (List.mem_of_getElem? (i := 20) rfl))) (mvT hZ (hw _ (List.mem_of_getElem? (i := 21) rfl))) (notFace_of_selects (args := #[]) (mvT hZ (hw _ (List.mem_of_getElem? (i := 23) rfl)))) (mvT hZ (hw _ (List.mem_of_getElem? (i := 23) rfl))) (mvT hZ (hw _ (List.mem_of_getElem? (i := 22) rfl))) (by decide) (backOf (W := 0) (rm_next_5 l Z av0 hw [] b280 fr ar2_286 (fun _ => (0 : Int32)) T286.heap n0 (Nat.le_trans Z0 K286.1) FP286_1 FP286_2 hfr) hZ (hw _ (List.mem_of_getElem? (i := 24) rfl)) (hw _ (List.mem_of_getElem? (i := 3) rfl)) (by decide) (by decide)) q292a q292c (g := (mkF m 150 #[iv p0, iv p1, iv p2, iv p3, iv p4, iv (5 : Int32), iv v276, iv v277, iv v278, iv ma, iv mb, iv sm, iv fr, rv b280, .unset, .unset, .unset, .unset] [(.int fr), (.ref b280)])) rfl (by rw [hml]; rfl) (Steps.refl _) (argsL := [(.int fr)]) (rest := []) (lenOf own_pd4 rfl) rfl (by show 2 * 0 + _ ≤ _; exact Nat.le_of_eq rfl) (hb hby at_150) (fun _ _ => ⟨rfl, rfl, (by decide : 3 + 0 ≤ _), (by decide : 7 + 0 ≤ _)⟩)
          dsimp only [Pt.U, Pt.locs, Pt.cells, Pt.slots] at X292 l292 y292 z292 st292 hQ292
          subst l292 y292 z292
          obtain ⟨rfl, N292q, e292⟩ := hQ292
          have N292 := Fr.app N286 N292q
          refine ownRun (T' := T292) (f' := (mkF m 153 #[iv p0, iv p1, iv p2, iv p3, iv p4, iv (5 : Int32), iv v276, iv v277, iv v278, iv ma, iv mb, iv sm, iv fr, rv b280, .unset, .unset, .unset, .unset] [(.int (own_next (fun _ => (0 : Int32)) 5 fr))])) st292 ?_
          generalize hv_v293 : (own_next (fun _ => (0 : Int32)) 5 fr) = v293
          refine ow_istore (q := 155) X292 hx (L' := #[iv p0, iv p1, iv p2, iv p3, iv p4, iv (5 : Int32), iv v276, iv v277, iv v278, iv ma, iv mb, iv sm, iv fr, rv b280, iv v293, .unset, .unset, .unset]) (hb hby at_153) rfl rfl ?_
          refine ow_iload (q := 157) X292 hx (hb hby at_155) rfl rfl ?_
          refine ow_sipush (q := 160) X292 hx (1024 : Int32) (hb hby at_157) rfl rfl ?_
          refine ow_idiv (q := 161) X292 hx _ (hb hby at_160) rfl (by decide) rfl ?_
          generalize hv_v294 : (v277 / (1024 : Int32)) = v294
          refine ow_istore (q := 163) X292 hx (L' := #[iv p0, iv p1, iv p2, iv p3, iv p4, iv (5 : Int32), iv v276, iv v277, iv v278, iv ma, iv mb, iv sm, iv fr, rv b280, iv v293, iv v294, .unset, .unset]) (hb hby at_161) rfl rfl ?_
          refine ow_iload (q := 165) X292 hx (hb hby at_163) rfl rfl ?_
          refine ow_sipush (q := 168) X292 hx (1024 : Int32) (hb hby at_165) rfl rfl ?_
          refine ow_idiv (q := 169) X292 hx _ (hb hby at_168) rfl (by decide) rfl ?_
          generalize hv_v295 : (v278 / (1024 : Int32)) = v295
          refine ow_istore (q := 171) X292 hx (L' := #[iv p0, iv p1, iv p2, iv p3, iv p4, iv (5 : Int32), iv v276, iv v277, iv v278, iv ma, iv mb, iv sm, iv fr, rv b280, iv v293, iv v294, iv v295, .unset]) (hb hby at_169) rfl rfl ?_
          refine ow_iconst (q := 172) X292 hx (-1 : Int32) (hb hby at_171) rfl rfl ?_
          refine ow_istore (q := 174) X292 hx (L' := #[iv p0, iv p1, iv p2, iv p3, iv p4, iv (5 : Int32), iv v276, iv v277, iv v278, iv ma, iv mb, iv sm, iv fr, rv b280, iv v293, iv v294, iv v295, iv (-1 : Int32)]) (hb hby at_172) rfl rfl ?_
          have cut218_296 : ∀ (be : Int32) (Tc296 : State) (lc296 : List Loc), Stand p l e room_1 s m #[(.int p0), (.int p1), (.int p2), (.int p3), (.int p4)] below meth c Tc296 lc296 3 7 → Tc296.heap = T286.heap → Fr n0 lc296 → (be = own_best ma mb v294 v295 fr) → ownEnds p e below s (Q_law Z p0 p1 p2 p3 p4 h0 n0) 16 128 Tc296 (mkF m 218 #[iv p0, iv p1, iv p2, iv p3, iv p4, iv (5 : Int32), iv v276, iv v277, iv v278, iv ma, iv mb, iv sm, iv fr, rv b280, iv v293, iv v294, iv v295, iv be] []) := by
            intro be Tc296 lc296 Xc296 ec296 Nc296 hbe
            refine ow_iload (q := 220) Xc296 hx (hb hby at_218) rfl rfl ?_
            refine ow_iload (q := 222) Xc296 hx (hb hby at_220) rfl rfl ?_
            refine ow_icmpNo (q := 225) Xc296 hx (hb hby at_222) rfl (Jvm.Free.XT.ii_ne_f (by rw [hbe, ← hv_v293]; exact own_final (own_g00 hc124_290 hc136_291) (own_ca (own_a (n := 5) hv_v277 hv_v276) hv_v294) (own_ca (own_a (n := 5) hv_v278 hv_v276) hv_v295) (own_il (own_a (n := 5) hv_v277 hv_v276)) (own_il (own_a (n := 5) hv_v278 hv_v276)) hfr)) ?_
            refine ow_iconst (q := 226) Xc296 hx (1 : Int32) (hb hby at_225) rfl rfl ?_
            refine ow_goto (q := 230) Xc296 hx (hb hby at_226) (by decide) (by decide) ?_
            refine ownRetN Xc296 hx (r := (1 : Int32)) (Or.inl rfl) Bd.returns (hb hby at_230) hlk (by decide) (by decide) (by decide) ?_
            exact ⟨rfl, Nc296⟩
          refine ow_iload (q := 176) X292 hx (hb hby at_174) rfl rfl ?_
          refine ow_ifYes (q := 190) X292 hx (hb hby at_176) (Jvm.Free.XT.i0_eq_t hc124_290) (by decide) (by decide) ?_
          refine ow_iload (q := 192) X292 hx (hb hby at_190) rfl rfl ?_
          refine ow_ifYes (q := 218) X292 hx (hb hby at_192) (Jvm.Free.XT.i0_eq_t hc136_291) (by decide) (by decide) ?_
          exact cut218_296 (-1 : Int32) _ _ X292 e292 N292 (by simp [own_best, hc124_290, hc136_291])
        · refine ow_ifNo (q := 139) X286 hx (hb hby at_136) rfl (Jvm.Free.XT.i0_eq_f hc136_291) ?_
          refine ow_aload (q := 141) X286 hx (hb hby at_139) rfl rfl rfl ?_
          refine ow_iload (q := 143) X286 hx (hb hby at_141) rfl rfl ?_
          obtain ⟨cq297, kq297, q297a, q297b, q297c⟩ := isOf hZ rfl FP286_0
          obtain ⟨_, _, ⟨T297, L297, k297, n297⟩, -, X297, ⟨Lc297, hQ297, l297, y297, z297⟩, st297⟩ := X286.virtualBack hx (y := (⟨"com/example/swarm_tally/swarmtally/ChunkMarks", "mark", "(I)V"⟩ : MethodName)) (z := (⟨"com/example/swarm_tally/swarmtally/ChunkMarks", "mark", "(I)V"⟩ : MethodName)) hown (mvT hZ (hw _ (List.mem_of_getElem? (i := 37) rfl))) (mvT hZ (hw _ (List.mem_of_getElem? (i := 38) rfl))) (notFace_of_selects (args := #[]) (mvT hZ (hw _ (List.mem_of_getElem? (i := 40) rfl)))) (mvT hZ (hw _ (List.mem_of_getElem? (i := 40) rfl))) (mvT hZ (hw _ (List.mem_of_getElem? (i := 39) rfl))) (by decide) (backOf (W := 0) (rm_mark_5 l Z av0 hw [] b280 v278 ar2_286 (fun _ => (0 : Int32)) T286.heap n0 (Nat.le_trans Z0 K286.1) FP286_1 FP286_2 F287 G_ar2_286 (own_in (own_a (n := 5) hv_v278 hv_v276)) ne_b280_ar2_286) hZ (hw _ (List.mem_of_getElem? (i := 41) rfl)) (hw _ (List.mem_of_getElem? (i := 3) rfl)) (by decide) (by decide)) q297a q297c (g := (mkF m 143 #[iv p0, iv p1, iv p2, iv p3, iv p4, iv (5 : Int32), iv v276, iv v277, iv v278, iv ma, iv mb, iv sm, iv fr, rv b280, .unset, .unset, .unset, .unset] [(.int v278), (.ref b280)])) rfl (by rw [hml]; rfl) (Steps.refl _) (argsL := [(.int v278)]) (rest := []) (lenOf own_pd3 rfl) rfl (by show 2 * 0 + _ ≤ _; exact Nat.le_of_eq rfl) (hb hby at_143) (fun _ _ => ⟨rfl, rfl, (by decide : 3 + 0 ≤ _), (by decide : 7 + 0 ≤ _)⟩)
          dsimp only [Pt.U, Pt.locs, Pt.cells, Pt.slots] at X297 l297 y297 z297 st297 hQ297
          subst l297 y297 z297
          obtain ⟨rfl, N297q, Kq297, FP297_0⟩ := hQ297
          have N297 := Fr.app N286 N297q
          have K297 : Keep h0 T297.heap [] := K286.trans Kq297 (allS (Or.inr sz_ar2_286) all0)
          have F298 : Sta Z T297.heap "com/example/swarm_tally/swarmtally/ChunkMarks" "CHUNK_SHIFT" "I" (.int (10 : Int32)) := ownStaKeep F287 Kq297 (allS (ownNstI FP286_2) all0)
          have F299 : Exa Z T297.heap b280 "com/example/swarm_tally/swarmtally/ChunkMarks" := FP286_0.keep Kq297
          have F300 : ownAI Z T297.heap ar_283 .boolean 1 (fun _ => (0 : Int32)) := F289.keep Kq297 (ninS ne_ar_283_ar2_286 nin0)
          have F301 : Fld Z T297.heap b280 "com/example/swarm_tally/swarmtally/ChunkMarks" "changed" "[Z" (.ref ar2_286) := FP286_1.keep Kq297 (ninS ne_b280_ar2_286 nin0)
          refine ownRun (T' := T297) (f' := (mkF m 146 #[iv p0, iv p1, iv p2, iv p3, iv p4, iv (5 : Int32), iv v276, iv v277, iv v278, iv ma, iv mb, iv sm, iv fr, rv b280, .unset, .unset, .unset, .unset] [])) st297 ?_
          refine ow_aload (q := 148) X297 hx (hb hby at_146) rfl rfl rfl ?_
          refine ow_iload (q := 150) X297 hx (hb hby at_148) rfl rfl ?_
          obtain ⟨cq302, kq302, q302a, q302b, q302c⟩ := isOf hZ rfl F299
          obtain ⟨_, _, ⟨T302, L302, k302, n302⟩, -, X302, ⟨Lc302, hQ302, l302, y302, z302⟩, st302⟩ := X297.virtualBack hx (y := (⟨"com/example/swarm_tally/swarmtally/ChunkMarks", "next", "(I)I"⟩ : MethodName)) (z := (⟨"com/example/swarm_tally/swarmtally/ChunkMarks", "next", "(I)I"⟩ : MethodName)) hown (mvT hZ (hw _ (List.mem_of_getElem? (i := 20) rfl))) (mvT hZ (hw _ (List.mem_of_getElem? (i := 21) rfl))) (notFace_of_selects (args := #[]) (mvT hZ (hw _ (List.mem_of_getElem? (i := 23) rfl)))) (mvT hZ (hw _ (List.mem_of_getElem? (i := 23) rfl))) (mvT hZ (hw _ (List.mem_of_getElem? (i := 22) rfl))) (by decide) (backOf (W := 0) (rm_next_5 l Z av0 hw [] b280 fr ar2_286 (ownUpd (fun _ => (0 : Int32)) (own_ix v278) (1 : Int32)) T297.heap n0 (Nat.le_trans Z0 K297.1) F301 FP297_0 hfr) hZ (hw _ (List.mem_of_getElem? (i := 24) rfl)) (hw _ (List.mem_of_getElem? (i := 3) rfl)) (by decide) (by decide)) q302a q302c (g := (mkF m 150 #[iv p0, iv p1, iv p2, iv p3, iv p4, iv (5 : Int32), iv v276, iv v277, iv v278, iv ma, iv mb, iv sm, iv fr, rv b280, .unset, .unset, .unset, .unset] [(.int fr), (.ref b280)])) rfl (by rw [hml]; rfl) (Steps.refl _) (argsL := [(.int fr)]) (rest := []) (lenOf own_pd4 rfl) rfl (by show 2 * 0 + _ ≤ _; exact Nat.le_of_eq rfl) (hb hby at_150) (fun _ _ => ⟨rfl, rfl, (by decide : 3 + 0 ≤ _), (by decide : 7 + 0 ≤ _)⟩)
          dsimp only [Pt.U, Pt.locs, Pt.cells, Pt.slots] at X302 l302 y302 z302 st302 hQ302
          subst l302 y302 z302
          obtain ⟨rfl, N302q, e302⟩ := hQ302
          have N302 := Fr.app N297 N302q
          refine ownRun (T' := T302) (f' := (mkF m 153 #[iv p0, iv p1, iv p2, iv p3, iv p4, iv (5 : Int32), iv v276, iv v277, iv v278, iv ma, iv mb, iv sm, iv fr, rv b280, .unset, .unset, .unset, .unset] [(.int (own_next (ownUpd (fun _ => (0 : Int32)) (own_ix v278) (1 : Int32)) 5 fr))])) st302 ?_
          generalize hv_v303 : (own_next (ownUpd (fun _ => (0 : Int32)) (own_ix v278) (1 : Int32)) 5 fr) = v303
          refine ow_istore (q := 155) X302 hx (L' := #[iv p0, iv p1, iv p2, iv p3, iv p4, iv (5 : Int32), iv v276, iv v277, iv v278, iv ma, iv mb, iv sm, iv fr, rv b280, iv v303, .unset, .unset, .unset]) (hb hby at_153) rfl rfl ?_
          refine ow_iload (q := 157) X302 hx (hb hby at_155) rfl rfl ?_
          refine ow_sipush (q := 160) X302 hx (1024 : Int32) (hb hby at_157) rfl rfl ?_
          refine ow_idiv (q := 161) X302 hx _ (hb hby at_160) rfl (by decide) rfl ?_
          generalize hv_v304 : (v277 / (1024 : Int32)) = v304
          refine ow_istore (q := 163) X302 hx (L' := #[iv p0, iv p1, iv p2, iv p3, iv p4, iv (5 : Int32), iv v276, iv v277, iv v278, iv ma, iv mb, iv sm, iv fr, rv b280, iv v303, iv v304, .unset, .unset]) (hb hby at_161) rfl rfl ?_
          refine ow_iload (q := 165) X302 hx (hb hby at_163) rfl rfl ?_
          refine ow_sipush (q := 168) X302 hx (1024 : Int32) (hb hby at_165) rfl rfl ?_
          refine ow_idiv (q := 169) X302 hx _ (hb hby at_168) rfl (by decide) rfl ?_
          generalize hv_v305 : (v278 / (1024 : Int32)) = v305
          refine ow_istore (q := 171) X302 hx (L' := #[iv p0, iv p1, iv p2, iv p3, iv p4, iv (5 : Int32), iv v276, iv v277, iv v278, iv ma, iv mb, iv sm, iv fr, rv b280, iv v303, iv v304, iv v305, .unset]) (hb hby at_169) rfl rfl ?_
          refine ow_iconst (q := 172) X302 hx (-1 : Int32) (hb hby at_171) rfl rfl ?_
          refine ow_istore (q := 174) X302 hx (L' := #[iv p0, iv p1, iv p2, iv p3, iv p4, iv (5 : Int32), iv v276, iv v277, iv v278, iv ma, iv mb, iv sm, iv fr, rv b280, iv v303, iv v304, iv v305, iv (-1 : Int32)]) (hb hby at_172) rfl rfl ?_
          have cut218_306 : ∀ (be : Int32) (Tc306 : State) (lc306 : List Loc), Stand p l e room_1 s m #[(.int p0), (.int p1), (.int p2), (.int p3), (.int p4)] below meth c Tc306 lc306 3 7 → Tc306.heap = T297.heap → Fr n0 lc306 → (be = own_best ma mb v304 v305 fr) → ownEnds p e below s (Q_law Z p0 p1 p2 p3 p4 h0 n0) 16 128 Tc306 (mkF m 218 #[iv p0, iv p1, iv p2, iv p3, iv p4, iv (5 : Int32), iv v276, iv v277, iv v278, iv ma, iv mb, iv sm, iv fr, rv b280, iv v303, iv v304, iv v305, iv be] []) := by
            intro be Tc306 lc306 Xc306 ec306 Nc306 hbe
            refine ow_iload (q := 220) Xc306 hx (hb hby at_218) rfl rfl ?_
            refine ow_iload (q := 222) Xc306 hx (hb hby at_220) rfl rfl ?_
            refine ow_icmpNo (q := 225) Xc306 hx (hb hby at_222) rfl (Jvm.Free.XT.ii_ne_f (by rw [hbe, ← hv_v303]; exact own_final (own_g01 hc124_290 hc136_291) (own_ca (own_a (n := 5) hv_v277 hv_v276) hv_v304) (own_ca (own_a (n := 5) hv_v278 hv_v276) hv_v305) (own_il (own_a (n := 5) hv_v277 hv_v276)) (own_il (own_a (n := 5) hv_v278 hv_v276)) hfr)) ?_
            refine ow_iconst (q := 226) Xc306 hx (1 : Int32) (hb hby at_225) rfl rfl ?_
            refine ow_goto (q := 230) Xc306 hx (hb hby at_226) (by decide) (by decide) ?_
            refine ownRetN Xc306 hx (r := (1 : Int32)) (Or.inl rfl) Bd.returns (hb hby at_230) hlk (by decide) (by decide) (by decide) ?_
            exact ⟨rfl, Nc306⟩
          refine ow_iload (q := 176) X302 hx (hb hby at_174) rfl rfl ?_
          refine ow_ifYes (q := 190) X302 hx (hb hby at_176) (Jvm.Free.XT.i0_eq_t hc124_290) (by decide) (by decide) ?_
          refine ow_iload (q := 192) X302 hx (hb hby at_190) rfl rfl ?_
          refine ow_ifNo (q := 195) X302 hx (hb hby at_192) rfl (Jvm.Free.XT.i0_eq_f hc136_291) ?_
          refine ow_iload (q := 197) X302 hx (hb hby at_195) rfl rfl ?_
          refine ow_iload (q := 199) X302 hx (hb hby at_197) rfl rfl ?_
          by_cases hc199_307 : v305 < fr
          · refine ow_icmpYes (q := 218) X302 hx (hb hby at_199) (Jvm.Free.XT.ii_lt_t hc199_307) (by decide) (by decide) ?_
            exact cut218_306 (-1 : Int32) _ _ X302 e302 N302 (by simp [own_best, hc124_290, hc136_291, hc199_307])
          · refine ow_icmpNo (q := 202) X302 hx (hb hby at_199) rfl (Jvm.Free.XT.ii_lt_f hc199_307) ?_
            refine ow_iload (q := 204) X302 hx (hb hby at_202) rfl rfl ?_
            refine ow_ifYes (q := 214) X302 hx (hb hby at_204) (Jvm.Free.XT.i0_lt_t (by decide)) (by decide) (by decide) ?_
            refine ow_iload (q := 216) X302 hx (hb hby at_214) rfl rfl ?_
            refine ow_istore (q := 218) X302 hx (L' := #[iv p0, iv p1, iv p2, iv p3, iv p4, iv (5 : Int32), iv v276, iv v277, iv v278, iv ma, iv mb, iv sm, iv fr, rv b280, iv v303, iv v304, iv v305, iv v305]) (hb hby at_216) rfl rfl ?_
            exact cut218_306 v305 _ _ X302 e302 N302 (by simp [own_best, hc124_290, hc136_291, hc199_307])
      · refine ow_ifNo (q := 127) X286 hx (hb hby at_124) rfl (Jvm.Free.XT.i0_eq_f hc124_290) ?_
        refine ow_aload (q := 129) X286 hx (hb hby at_127) rfl rfl rfl ?_
        refine ow_iload (q := 131) X286 hx (hb hby at_129) rfl rfl ?_
        obtain ⟨cq308, kq308, q308a, q308b, q308c⟩ := isOf hZ rfl FP286_0
        obtain ⟨_, _, ⟨T308, L308, k308, n308⟩, -, X308, ⟨Lc308, hQ308, l308, y308, z308⟩, st308⟩ := X286.virtualBack hx (y := (⟨"com/example/swarm_tally/swarmtally/ChunkMarks", "mark", "(I)V"⟩ : MethodName)) (z := (⟨"com/example/swarm_tally/swarmtally/ChunkMarks", "mark", "(I)V"⟩ : MethodName)) hown (mvT hZ (hw _ (List.mem_of_getElem? (i := 37) rfl))) (mvT hZ (hw _ (List.mem_of_getElem? (i := 38) rfl))) (notFace_of_selects (args := #[]) (mvT hZ (hw _ (List.mem_of_getElem? (i := 40) rfl)))) (mvT hZ (hw _ (List.mem_of_getElem? (i := 40) rfl))) (mvT hZ (hw _ (List.mem_of_getElem? (i := 39) rfl))) (by decide) (backOf (W := 0) (rm_mark_5 l Z av0 hw [] b280 v277 ar2_286 (fun _ => (0 : Int32)) T286.heap n0 (Nat.le_trans Z0 K286.1) FP286_1 FP286_2 F287 G_ar2_286 (own_in (own_a (n := 5) hv_v277 hv_v276)) ne_b280_ar2_286) hZ (hw _ (List.mem_of_getElem? (i := 41) rfl)) (hw _ (List.mem_of_getElem? (i := 3) rfl)) (by decide) (by decide)) q308a q308c (g := (mkF m 131 #[iv p0, iv p1, iv p2, iv p3, iv p4, iv (5 : Int32), iv v276, iv v277, iv v278, iv ma, iv mb, iv sm, iv fr, rv b280, .unset, .unset, .unset, .unset] [(.int v277), (.ref b280)])) rfl (by rw [hml]; rfl) (Steps.refl _) (argsL := [(.int v277)]) (rest := []) (lenOf own_pd3 rfl) rfl (by show 2 * 0 + _ ≤ _; exact Nat.le_of_eq rfl) (hb hby at_131) (fun _ _ => ⟨rfl, rfl, (by decide : 3 + 0 ≤ _), (by decide : 7 + 0 ≤ _)⟩)
        dsimp only [Pt.U, Pt.locs, Pt.cells, Pt.slots] at X308 l308 y308 z308 st308 hQ308
        subst l308 y308 z308
        obtain ⟨rfl, N308q, Kq308, FP308_0⟩ := hQ308
        have N308 := Fr.app N286 N308q
        have K308 : Keep h0 T308.heap [] := K286.trans Kq308 (allS (Or.inr sz_ar2_286) all0)
        have F309 : Sta Z T308.heap "com/example/swarm_tally/swarmtally/ChunkMarks" "CHUNK_SHIFT" "I" (.int (10 : Int32)) := ownStaKeep F287 Kq308 (allS (ownNstI FP286_2) all0)
        have F310 : Exa Z T308.heap b280 "com/example/swarm_tally/swarmtally/ChunkMarks" := FP286_0.keep Kq308
        have F311 : ownAI Z T308.heap ar_283 .boolean 1 (fun _ => (0 : Int32)) := F289.keep Kq308 (ninS ne_ar_283_ar2_286 nin0)
        have F312 : Fld Z T308.heap b280 "com/example/swarm_tally/swarmtally/ChunkMarks" "changed" "[Z" (.ref ar2_286) := FP286_1.keep Kq308 (ninS ne_b280_ar2_286 nin0)
        refine ownRun (T' := T308) (f' := (mkF m 134 #[iv p0, iv p1, iv p2, iv p3, iv p4, iv (5 : Int32), iv v276, iv v277, iv v278, iv ma, iv mb, iv sm, iv fr, rv b280, .unset, .unset, .unset, .unset] [])) st308 ?_
        refine ow_iload (q := 136) X308 hx (hb hby at_134) rfl rfl ?_
        by_cases hc136_313 : mb = (0 : Int32)
        · refine ow_ifYes (q := 146) X308 hx (hb hby at_136) (Jvm.Free.XT.i0_eq_t hc136_313) (by decide) (by decide) ?_
          refine ow_aload (q := 148) X308 hx (hb hby at_146) rfl rfl rfl ?_
          refine ow_iload (q := 150) X308 hx (hb hby at_148) rfl rfl ?_
          obtain ⟨cq314, kq314, q314a, q314b, q314c⟩ := isOf hZ rfl F310
          obtain ⟨_, _, ⟨T314, L314, k314, n314⟩, -, X314, ⟨Lc314, hQ314, l314, y314, z314⟩, st314⟩ := X308.virtualBack hx (y := (⟨"com/example/swarm_tally/swarmtally/ChunkMarks", "next", "(I)I"⟩ : MethodName)) (z := (⟨"com/example/swarm_tally/swarmtally/ChunkMarks", "next", "(I)I"⟩ : MethodName)) hown (mvT hZ (hw _ (List.mem_of_getElem? (i := 20) rfl))) (mvT hZ (hw _ (List.mem_of_getElem? (i := 21) rfl))) (notFace_of_selects (args := #[]) (mvT hZ (hw _ (List.mem_of_getElem? (i := 23) rfl)))) (mvT hZ (hw _ (List.mem_of_getElem? (i := 23) rfl))) (mvT hZ (hw _ (List.mem_of_getElem? (i := 22) rfl))) (by decide) (backOf (W := 0) (rm_next_5 l Z av0 hw [] b280 fr ar2_286 (ownUpd (fun _ => (0 : Int32)) (own_ix v277) (1 : Int32)) T308.heap n0 (Nat.le_trans Z0 K308.1) F312 FP308_0 hfr) hZ (hw _ (List.mem_of_getElem? (i := 24) rfl)) (hw _ (List.mem_of_getElem? (i := 3) rfl)) (by decide) (by decide)) q314a q314c (g := (mkF m 150 #[iv p0, iv p1, iv p2, iv p3, iv p4, iv (5 : Int32), iv v276, iv v277, iv v278, iv ma, iv mb, iv sm, iv fr, rv b280, .unset, .unset, .unset, .unset] [(.int fr), (.ref b280)])) rfl (by rw [hml]; rfl) (Steps.refl _) (argsL := [(.int fr)]) (rest := []) (lenOf own_pd4 rfl) rfl (by show 2 * 0 + _ ≤ _; exact Nat.le_of_eq rfl) (hb hby at_150) (fun _ _ => ⟨rfl, rfl, (by decide : 3 + 0 ≤ _), (by decide : 7 + 0 ≤ _)⟩)
          dsimp only [Pt.U, Pt.locs, Pt.cells, Pt.slots] at X314 l314 y314 z314 st314 hQ314
          subst l314 y314 z314
          obtain ⟨rfl, N314q, e314⟩ := hQ314
          have N314 := Fr.app N308 N314q
          refine ownRun (T' := T314) (f' := (mkF m 153 #[iv p0, iv p1, iv p2, iv p3, iv p4, iv (5 : Int32), iv v276, iv v277, iv v278, iv ma, iv mb, iv sm, iv fr, rv b280, .unset, .unset, .unset, .unset] [(.int (own_next (ownUpd (fun _ => (0 : Int32)) (own_ix v277) (1 : Int32)) 5 fr))])) st314 ?_
          generalize hv_v315 : (own_next (ownUpd (fun _ => (0 : Int32)) (own_ix v277) (1 : Int32)) 5 fr) = v315
          refine ow_istore (q := 155) X314 hx (L' := #[iv p0, iv p1, iv p2, iv p3, iv p4, iv (5 : Int32), iv v276, iv v277, iv v278, iv ma, iv mb, iv sm, iv fr, rv b280, iv v315, .unset, .unset, .unset]) (hb hby at_153) rfl rfl ?_
          refine ow_iload (q := 157) X314 hx (hb hby at_155) rfl rfl ?_
          refine ow_sipush (q := 160) X314 hx (1024 : Int32) (hb hby at_157) rfl rfl ?_
          refine ow_idiv (q := 161) X314 hx _ (hb hby at_160) rfl (by decide) rfl ?_
          generalize hv_v316 : (v277 / (1024 : Int32)) = v316
          refine ow_istore (q := 163) X314 hx (L' := #[iv p0, iv p1, iv p2, iv p3, iv p4, iv (5 : Int32), iv v276, iv v277, iv v278, iv ma, iv mb, iv sm, iv fr, rv b280, iv v315, iv v316, .unset, .unset]) (hb hby at_161) rfl rfl ?_
          refine ow_iload (q := 165) X314 hx (hb hby at_163) rfl rfl ?_
          refine ow_sipush (q := 168) X314 hx (1024 : Int32) (hb hby at_165) rfl rfl ?_
          refine ow_idiv (q := 169) X314 hx _ (hb hby at_168) rfl (by decide) rfl ?_
          generalize hv_v317 : (v278 / (1024 : Int32)) = v317
          refine ow_istore (q := 171) X314 hx (L' := #[iv p0, iv p1, iv p2, iv p3, iv p4, iv (5 : Int32), iv v276, iv v277, iv v278, iv ma, iv mb, iv sm, iv fr, rv b280, iv v315, iv v316, iv v317, .unset]) (hb hby at_169) rfl rfl ?_
          refine ow_iconst (q := 172) X314 hx (-1 : Int32) (hb hby at_171) rfl rfl ?_
          refine ow_istore (q := 174) X314 hx (L' := #[iv p0, iv p1, iv p2, iv p3, iv p4, iv (5 : Int32), iv v276, iv v277, iv v278, iv ma, iv mb, iv sm, iv fr, rv b280, iv v315, iv v316, iv v317, iv (-1 : Int32)]) (hb hby at_172) rfl rfl ?_
          have cut218_318 : ∀ (be : Int32) (Tc318 : State) (lc318 : List Loc), Stand p l e room_1 s m #[(.int p0), (.int p1), (.int p2), (.int p3), (.int p4)] below meth c Tc318 lc318 3 7 → Tc318.heap = T308.heap → Fr n0 lc318 → (be = own_best ma mb v316 v317 fr) → ownEnds p e below s (Q_law Z p0 p1 p2 p3 p4 h0 n0) 16 128 Tc318 (mkF m 218 #[iv p0, iv p1, iv p2, iv p3, iv p4, iv (5 : Int32), iv v276, iv v277, iv v278, iv ma, iv mb, iv sm, iv fr, rv b280, iv v315, iv v316, iv v317, iv be] []) := by
            intro be Tc318 lc318 Xc318 ec318 Nc318 hbe
            refine ow_iload (q := 220) Xc318 hx (hb hby at_218) rfl rfl ?_
            refine ow_iload (q := 222) Xc318 hx (hb hby at_220) rfl rfl ?_
            refine ow_icmpNo (q := 225) Xc318 hx (hb hby at_222) rfl (Jvm.Free.XT.ii_ne_f (by rw [hbe, ← hv_v315]; exact own_final (own_g10 hc124_290 hc136_313) (own_ca (own_a (n := 5) hv_v277 hv_v276) hv_v316) (own_ca (own_a (n := 5) hv_v278 hv_v276) hv_v317) (own_il (own_a (n := 5) hv_v277 hv_v276)) (own_il (own_a (n := 5) hv_v278 hv_v276)) hfr)) ?_
            refine ow_iconst (q := 226) Xc318 hx (1 : Int32) (hb hby at_225) rfl rfl ?_
            refine ow_goto (q := 230) Xc318 hx (hb hby at_226) (by decide) (by decide) ?_
            refine ownRetN Xc318 hx (r := (1 : Int32)) (Or.inl rfl) Bd.returns (hb hby at_230) hlk (by decide) (by decide) (by decide) ?_
            exact ⟨rfl, Nc318⟩
          refine ow_iload (q := 176) X314 hx (hb hby at_174) rfl rfl ?_
          refine ow_ifNo (q := 179) X314 hx (hb hby at_176) rfl (Jvm.Free.XT.i0_eq_f hc124_290) ?_
          refine ow_iload (q := 181) X314 hx (hb hby at_179) rfl rfl ?_
          refine ow_iload (q := 183) X314 hx (hb hby at_181) rfl rfl ?_
          by_cases hc183_319 : v316 < fr
          · refine ow_icmpYes (q := 190) X314 hx (hb hby at_183) (Jvm.Free.XT.ii_lt_t hc183_319) (by decide) (by decide) ?_
            refine ow_iload (q := 192) X314 hx (hb hby at_190) rfl rfl ?_
            refine ow_ifYes (q := 218) X314 hx (hb hby at_192) (Jvm.Free.XT.i0_eq_t hc136_313) (by decide) (by decide) ?_
            exact cut218_318 (-1 : Int32) _ _ X314 e314 N314 (by simp [own_best, hc124_290, hc136_313, hc183_319])
          · refine ow_icmpNo (q := 186) X314 hx (hb hby at_183) rfl (Jvm.Free.XT.ii_lt_f hc183_319) ?_
            refine ow_iload (q := 188) X314 hx (hb hby at_186) rfl rfl ?_
            refine ow_istore (q := 190) X314 hx (L' := #[iv p0, iv p1, iv p2, iv p3, iv p4, iv (5 : Int32), iv v276, iv v277, iv v278, iv ma, iv mb, iv sm, iv fr, rv b280, iv v315, iv v316, iv v317, iv v316]) (hb hby at_188) rfl rfl ?_
            refine ow_iload (q := 192) X314 hx (hb hby at_190) rfl rfl ?_
            refine ow_ifYes (q := 218) X314 hx (hb hby at_192) (Jvm.Free.XT.i0_eq_t hc136_313) (by decide) (by decide) ?_
            exact cut218_318 v316 _ _ X314 e314 N314 (by simp [own_best, hc124_290, hc136_313, hc183_319])
        · refine ow_ifNo (q := 139) X308 hx (hb hby at_136) rfl (Jvm.Free.XT.i0_eq_f hc136_313) ?_
          refine ow_aload (q := 141) X308 hx (hb hby at_139) rfl rfl rfl ?_
          refine ow_iload (q := 143) X308 hx (hb hby at_141) rfl rfl ?_
          obtain ⟨cq320, kq320, q320a, q320b, q320c⟩ := isOf hZ rfl F310
          obtain ⟨_, _, ⟨T320, L320, k320, n320⟩, -, X320, ⟨Lc320, hQ320, l320, y320, z320⟩, st320⟩ := X308.virtualBack hx (y := (⟨"com/example/swarm_tally/swarmtally/ChunkMarks", "mark", "(I)V"⟩ : MethodName)) (z := (⟨"com/example/swarm_tally/swarmtally/ChunkMarks", "mark", "(I)V"⟩ : MethodName)) hown (mvT hZ (hw _ (List.mem_of_getElem? (i := 37) rfl))) (mvT hZ (hw _ (List.mem_of_getElem? (i := 38) rfl))) (notFace_of_selects (args := #[]) (mvT hZ (hw _ (List.mem_of_getElem? (i := 40) rfl)))) (mvT hZ (hw _ (List.mem_of_getElem? (i := 40) rfl))) (mvT hZ (hw _ (List.mem_of_getElem? (i := 39) rfl))) (by decide) (backOf (W := 0) (rm_mark_5 l Z av0 hw [] b280 v278 ar2_286 (ownUpd (fun _ => (0 : Int32)) (own_ix v277) (1 : Int32)) T308.heap n0 (Nat.le_trans Z0 K308.1) F312 FP308_0 F309 G_ar2_286 (own_in (own_a (n := 5) hv_v278 hv_v276)) ne_b280_ar2_286) hZ (hw _ (List.mem_of_getElem? (i := 41) rfl)) (hw _ (List.mem_of_getElem? (i := 3) rfl)) (by decide) (by decide)) q320a q320c (g := (mkF m 143 #[iv p0, iv p1, iv p2, iv p3, iv p4, iv (5 : Int32), iv v276, iv v277, iv v278, iv ma, iv mb, iv sm, iv fr, rv b280, .unset, .unset, .unset, .unset] [(.int v278), (.ref b280)])) rfl (by rw [hml]; rfl) (Steps.refl _) (argsL := [(.int v278)]) (rest := []) (lenOf own_pd3 rfl) rfl (by show 2 * 0 + _ ≤ _; exact Nat.le_of_eq rfl) (hb hby at_143) (fun _ _ => ⟨rfl, rfl, (by decide : 3 + 0 ≤ _), (by decide : 7 + 0 ≤ _)⟩)
          dsimp only [Pt.U, Pt.locs, Pt.cells, Pt.slots] at X320 l320 y320 z320 st320 hQ320
          subst l320 y320 z320
          obtain ⟨rfl, N320q, Kq320, FP320_0⟩ := hQ320
          have N320 := Fr.app N308 N320q
          have K320 : Keep h0 T320.heap [] := K308.trans Kq320 (allS (Or.inr sz_ar2_286) all0)
          have F321 : Sta Z T320.heap "com/example/swarm_tally/swarmtally/ChunkMarks" "CHUNK_SHIFT" "I" (.int (10 : Int32)) := ownStaKeep F309 Kq320 (allS (ownNstI FP308_0) all0)
          have F322 : Exa Z T320.heap b280 "com/example/swarm_tally/swarmtally/ChunkMarks" := F310.keep Kq320
          have F323 : ownAI Z T320.heap ar_283 .boolean 1 (fun _ => (0 : Int32)) := F311.keep Kq320 (ninS ne_ar_283_ar2_286 nin0)
          have F324 : Fld Z T320.heap b280 "com/example/swarm_tally/swarmtally/ChunkMarks" "changed" "[Z" (.ref ar2_286) := F312.keep Kq320 (ninS ne_b280_ar2_286 nin0)
          refine ownRun (T' := T320) (f' := (mkF m 146 #[iv p0, iv p1, iv p2, iv p3, iv p4, iv (5 : Int32), iv v276, iv v277, iv v278, iv ma, iv mb, iv sm, iv fr, rv b280, .unset, .unset, .unset, .unset] [])) st320 ?_
          refine ow_aload (q := 148) X320 hx (hb hby at_146) rfl rfl rfl ?_
          refine ow_iload (q := 150) X320 hx (hb hby at_148) rfl rfl ?_
          obtain ⟨cq325, kq325, q325a, q325b, q325c⟩ := isOf hZ rfl F322
          obtain ⟨_, _, ⟨T325, L325, k325, n325⟩, -, X325, ⟨Lc325, hQ325, l325, y325, z325⟩, st325⟩ := X320.virtualBack hx (y := (⟨"com/example/swarm_tally/swarmtally/ChunkMarks", "next", "(I)I"⟩ : MethodName)) (z := (⟨"com/example/swarm_tally/swarmtally/ChunkMarks", "next", "(I)I"⟩ : MethodName)) hown (mvT hZ (hw _ (List.mem_of_getElem? (i := 20) rfl))) (mvT hZ (hw _ (List.mem_of_getElem? (i := 21) rfl))) (notFace_of_selects (args := #[]) (mvT hZ (hw _ (List.mem_of_getElem? (i := 23) rfl)))) (mvT hZ (hw _ (List.mem_of_getElem? (i := 23) rfl))) (mvT hZ (hw _ (List.mem_of_getElem? (i := 22) rfl))) (by decide) (backOf (W := 0) (rm_next_5 l Z av0 hw [] b280 fr ar2_286 (ownUpd (ownUpd (fun _ => (0 : Int32)) (own_ix v277) (1 : Int32)) (own_ix v278) (1 : Int32)) T320.heap n0 (Nat.le_trans Z0 K320.1) F324 FP320_0 hfr) hZ (hw _ (List.mem_of_getElem? (i := 24) rfl)) (hw _ (List.mem_of_getElem? (i := 3) rfl)) (by decide) (by decide)) q325a q325c (g := (mkF m 150 #[iv p0, iv p1, iv p2, iv p3, iv p4, iv (5 : Int32), iv v276, iv v277, iv v278, iv ma, iv mb, iv sm, iv fr, rv b280, .unset, .unset, .unset, .unset] [(.int fr), (.ref b280)])) rfl (by rw [hml]; rfl) (Steps.refl _) (argsL := [(.int fr)]) (rest := []) (lenOf own_pd4 rfl) rfl (by show 2 * 0 + _ ≤ _; exact Nat.le_of_eq rfl) (hb hby at_150) (fun _ _ => ⟨rfl, rfl, (by decide : 3 + 0 ≤ _), (by decide : 7 + 0 ≤ _)⟩)
          dsimp only [Pt.U, Pt.locs, Pt.cells, Pt.slots] at X325 l325 y325 z325 st325 hQ325
          subst l325 y325 z325
          obtain ⟨rfl, N325q, e325⟩ := hQ325
          have N325 := Fr.app N320 N325q
          refine ownRun (T' := T325) (f' := (mkF m 153 #[iv p0, iv p1, iv p2, iv p3, iv p4, iv (5 : Int32), iv v276, iv v277, iv v278, iv ma, iv mb, iv sm, iv fr, rv b280, .unset, .unset, .unset, .unset] [(.int (own_next (ownUpd (ownUpd (fun _ => (0 : Int32)) (own_ix v277) (1 : Int32)) (own_ix v278) (1 : Int32)) 5 fr))])) st325 ?_
          generalize hv_v326 : (own_next (ownUpd (ownUpd (fun _ => (0 : Int32)) (own_ix v277) (1 : Int32)) (own_ix v278) (1 : Int32)) 5 fr) = v326
          refine ow_istore (q := 155) X325 hx (L' := #[iv p0, iv p1, iv p2, iv p3, iv p4, iv (5 : Int32), iv v276, iv v277, iv v278, iv ma, iv mb, iv sm, iv fr, rv b280, iv v326, .unset, .unset, .unset]) (hb hby at_153) rfl rfl ?_
          refine ow_iload (q := 157) X325 hx (hb hby at_155) rfl rfl ?_
          refine ow_sipush (q := 160) X325 hx (1024 : Int32) (hb hby at_157) rfl rfl ?_
          refine ow_idiv (q := 161) X325 hx _ (hb hby at_160) rfl (by decide) rfl ?_
          generalize hv_v327 : (v277 / (1024 : Int32)) = v327
          refine ow_istore (q := 163) X325 hx (L' := #[iv p0, iv p1, iv p2, iv p3, iv p4, iv (5 : Int32), iv v276, iv v277, iv v278, iv ma, iv mb, iv sm, iv fr, rv b280, iv v326, iv v327, .unset, .unset]) (hb hby at_161) rfl rfl ?_
          refine ow_iload (q := 165) X325 hx (hb hby at_163) rfl rfl ?_
          refine ow_sipush (q := 168) X325 hx (1024 : Int32) (hb hby at_165) rfl rfl ?_
          refine ow_idiv (q := 169) X325 hx _ (hb hby at_168) rfl (by decide) rfl ?_
          generalize hv_v328 : (v278 / (1024 : Int32)) = v328
          refine ow_istore (q := 171) X325 hx (L' := #[iv p0, iv p1, iv p2, iv p3, iv p4, iv (5 : Int32), iv v276, iv v277, iv v278, iv ma, iv mb, iv sm, iv fr, rv b280, iv v326, iv v327, iv v328, .unset]) (hb hby at_169) rfl rfl ?_
          refine ow_iconst (q := 172) X325 hx (-1 : Int32) (hb hby at_171) rfl rfl ?_
          refine ow_istore (q := 174) X325 hx (L' := #[iv p0, iv p1, iv p2, iv p3, iv p4, iv (5 : Int32), iv v276, iv v277, iv v278, iv ma, iv mb, iv sm, iv fr, rv b280, iv v326, iv v327, iv v328, iv (-1 : Int32)]) (hb hby at_172) rfl rfl ?_
          have cut218_329 : ∀ (be : Int32) (Tc329 : State) (lc329 : List Loc), Stand p l e room_1 s m #[(.int p0), (.int p1), (.int p2), (.int p3), (.int p4)] below meth c Tc329 lc329 3 7 → Tc329.heap = T320.heap → Fr n0 lc329 → (be = own_best ma mb v327 v328 fr) → ownEnds p e below s (Q_law Z p0 p1 p2 p3 p4 h0 n0) 16 128 Tc329 (mkF m 218 #[iv p0, iv p1, iv p2, iv p3, iv p4, iv (5 : Int32), iv v276, iv v277, iv v278, iv ma, iv mb, iv sm, iv fr, rv b280, iv v326, iv v327, iv v328, iv be] []) := by
            intro be Tc329 lc329 Xc329 ec329 Nc329 hbe
            refine ow_iload (q := 220) Xc329 hx (hb hby at_218) rfl rfl ?_
            refine ow_iload (q := 222) Xc329 hx (hb hby at_220) rfl rfl ?_
            refine ow_icmpNo (q := 225) Xc329 hx (hb hby at_222) rfl (Jvm.Free.XT.ii_ne_f (by rw [hbe, ← hv_v326]; exact own_final (own_g11 hc124_290 hc136_313) (own_ca (own_a (n := 5) hv_v277 hv_v276) hv_v327) (own_ca (own_a (n := 5) hv_v278 hv_v276) hv_v328) (own_il (own_a (n := 5) hv_v277 hv_v276)) (own_il (own_a (n := 5) hv_v278 hv_v276)) hfr)) ?_
            refine ow_iconst (q := 226) Xc329 hx (1 : Int32) (hb hby at_225) rfl rfl ?_
            refine ow_goto (q := 230) Xc329 hx (hb hby at_226) (by decide) (by decide) ?_
            refine ownRetN Xc329 hx (r := (1 : Int32)) (Or.inl rfl) Bd.returns (hb hby at_230) hlk (by decide) (by decide) (by decide) ?_
            exact ⟨rfl, Nc329⟩
          refine ow_iload (q := 176) X325 hx (hb hby at_174) rfl rfl ?_
          refine ow_ifNo (q := 179) X325 hx (hb hby at_176) rfl (Jvm.Free.XT.i0_eq_f hc124_290) ?_
          refine ow_iload (q := 181) X325 hx (hb hby at_179) rfl rfl ?_
          refine ow_iload (q := 183) X325 hx (hb hby at_181) rfl rfl ?_
          by_cases hc183_330 : v327 < fr
          · refine ow_icmpYes (q := 190) X325 hx (hb hby at_183) (Jvm.Free.XT.ii_lt_t hc183_330) (by decide) (by decide) ?_
            refine ow_iload (q := 192) X325 hx (hb hby at_190) rfl rfl ?_
            refine ow_ifNo (q := 195) X325 hx (hb hby at_192) rfl (Jvm.Free.XT.i0_eq_f hc136_313) ?_
            refine ow_iload (q := 197) X325 hx (hb hby at_195) rfl rfl ?_
            refine ow_iload (q := 199) X325 hx (hb hby at_197) rfl rfl ?_
            by_cases hc199_331 : v328 < fr
            · refine ow_icmpYes (q := 218) X325 hx (hb hby at_199) (Jvm.Free.XT.ii_lt_t hc199_331) (by decide) (by decide) ?_
              exact cut218_329 (-1 : Int32) _ _ X325 e325 N325 (by simp [own_best, hc124_290, hc136_313, hc183_330, hc199_331])
            · refine ow_icmpNo (q := 202) X325 hx (hb hby at_199) rfl (Jvm.Free.XT.ii_lt_f hc199_331) ?_
              refine ow_iload (q := 204) X325 hx (hb hby at_202) rfl rfl ?_
              refine ow_ifYes (q := 214) X325 hx (hb hby at_204) (Jvm.Free.XT.i0_lt_t (by decide)) (by decide) (by decide) ?_
              refine ow_iload (q := 216) X325 hx (hb hby at_214) rfl rfl ?_
              refine ow_istore (q := 218) X325 hx (L' := #[iv p0, iv p1, iv p2, iv p3, iv p4, iv (5 : Int32), iv v276, iv v277, iv v278, iv ma, iv mb, iv sm, iv fr, rv b280, iv v326, iv v327, iv v328, iv v328]) (hb hby at_216) rfl rfl ?_
              exact cut218_329 v328 _ _ X325 e325 N325 (by simp [own_best, hc124_290, hc136_313, hc183_330, hc199_331])
          · refine ow_icmpNo (q := 186) X325 hx (hb hby at_183) rfl (Jvm.Free.XT.ii_lt_f hc183_330) ?_
            refine ow_iload (q := 188) X325 hx (hb hby at_186) rfl rfl ?_
            refine ow_istore (q := 190) X325 hx (L' := #[iv p0, iv p1, iv p2, iv p3, iv p4, iv (5 : Int32), iv v276, iv v277, iv v278, iv ma, iv mb, iv sm, iv fr, rv b280, iv v326, iv v327, iv v328, iv v327]) (hb hby at_188) rfl rfl ?_
            refine ow_iload (q := 192) X325 hx (hb hby at_190) rfl rfl ?_
            refine ow_ifNo (q := 195) X325 hx (hb hby at_192) rfl (Jvm.Free.XT.i0_eq_f hc136_313) ?_
            refine ow_iload (q := 197) X325 hx (hb hby at_195) rfl rfl ?_
            refine ow_iload (q := 199) X325 hx (hb hby at_197) rfl rfl ?_
            by_cases hc199_332 : v328 < fr
            · refine ow_icmpYes (q := 218) X325 hx (hb hby at_199) (Jvm.Free.XT.ii_lt_t hc199_332) (by decide) (by decide) ?_
              exact cut218_329 v327 _ _ X325 e325 N325 (by simp [own_best, hc124_290, hc136_313, hc183_330, hc199_332])
            · refine ow_icmpNo (q := 202) X325 hx (hb hby at_199) rfl (Jvm.Free.XT.ii_lt_f hc199_332) ?_
              refine ow_iload (q := 204) X325 hx (hb hby at_202) rfl rfl ?_
              by_cases hc204_333 : v327 < (0 : Int32)
              · refine ow_ifYes (q := 214) X325 hx (hb hby at_204) (Jvm.Free.XT.i0_lt_t hc204_333) (by decide) (by decide) ?_
                refine ow_iload (q := 216) X325 hx (hb hby at_214) rfl rfl ?_
                refine ow_istore (q := 218) X325 hx (L' := #[iv p0, iv p1, iv p2, iv p3, iv p4, iv (5 : Int32), iv v276, iv v277, iv v278, iv ma, iv mb, iv sm, iv fr, rv b280, iv v326, iv v327, iv v328, iv v328]) (hb hby at_216) rfl rfl ?_
                exact cut218_329 v328 _ _ X325 e325 N325 (by simp [own_best, hc124_290, hc136_313, hc183_330, hc199_332, hc204_333])
              · refine ow_ifNo (q := 207) X325 hx (hb hby at_204) rfl (Jvm.Free.XT.i0_lt_f hc204_333) ?_
                refine ow_iload (q := 209) X325 hx (hb hby at_207) rfl rfl ?_
                refine ow_iload (q := 211) X325 hx (hb hby at_209) rfl rfl ?_
                by_cases hc211_334 : v328 < v327
                · refine ow_icmpNo (q := 214) X325 hx (hb hby at_211) rfl (Jvm.Free.XT.ii_ge_f hc211_334) ?_
                  refine ow_iload (q := 216) X325 hx (hb hby at_214) rfl rfl ?_
                  refine ow_istore (q := 218) X325 hx (L' := #[iv p0, iv p1, iv p2, iv p3, iv p4, iv (5 : Int32), iv v276, iv v277, iv v278, iv ma, iv mb, iv sm, iv fr, rv b280, iv v326, iv v327, iv v328, iv v328]) (hb hby at_216) rfl rfl ?_
                  exact cut218_329 v328 _ _ X325 e325 N325 (by simp [own_best, hc124_290, hc136_313, hc183_330, hc199_332, hc204_333, hc211_334])
                · refine ow_icmpYes (q := 218) X325 hx (hb hby at_211) (Jvm.Free.XT.ii_ge_t hc211_334) (by decide) (by decide) ?_
                  exact cut218_329 v327 _ _ X325 e325 N325 (by simp [own_best, hc124_290, hc136_313, hc183_330, hc199_332, hc204_333, hc211_334])
    have cut88_335 : ∀ (ma : Int32) (mb : Int32) (sm : Int32) (Tc335 : State) (lc335 : List Loc), Stand p l e room_1 s m #[(.int p0), (.int p1), (.int p2), (.int p3), (.int p4)] below meth c Tc335 lc335 0 0 → Tc335.heap = h0 → Fr n0 lc335 → ownEnds p e below s (Q_law Z p0 p1 p2 p3 p4 h0 n0) 16 128 Tc335 (mkF m 88 #[iv p0, iv p1, iv p2, iv p3, iv p4, iv (5 : Int32), iv v276, iv v277, iv v278, iv ma, iv mb, iv sm, .unset, .unset, .unset, .unset, .unset, .unset] []) := by
      intro ma mb sm Tc335 lc335 Xc335 ec335 Nc335
      refine ow_iload (q := 90) Xc335 hx (hb hby at_88) rfl rfl ?_
      by_cases hc90_336 : sm = (0 : Int32)
      · refine ow_ifYes (q := 100) Xc335 hx (hb hby at_90) (Jvm.Free.XT.i0_eq_t hc90_336) (by decide) (by decide) ?_
        refine ow_iloadN (q := 101) Xc335 hx (hb hby at_100) rfl rfl ?_
        refine ownGo (T' := Tc335) (f' := (mkF m 103 #[iv p0, iv p1, iv p2, iv p3, iv p4, iv (5 : Int32), iv v276, iv v277, iv v278, iv ma, iv mb, iv sm, .unset, .unset, .unset, .unset, .unset, .unset] [(.int (2147483647 : Int32)), (.int p3)])) (Xc335.ldcInt hx hown (mvT hZ (hw _ (List.mem_of_getElem? (i := 0) rfl))) (g := (mkF m 101 #[iv p0, iv p1, iv p2, iv p3, iv p4, iv (5 : Int32), iv v276, iv v277, iv v278, iv ma, iv mb, iv sm, .unset, .unset, .unset, .unset, .unset, .unset] [(.int p3)])) rfl (hb hby at_101)) ?_
        refine ow_iand (q := 104) Xc335 hx _ (hb hby at_103) rfl rfl ?_
        generalize hv_v337 : (p3 &&& (2147483647 : Int32)) = v337
        refine ow_istore (q := 106) Xc335 hx (L' := #[iv p0, iv p1, iv p2, iv p3, iv p4, iv (5 : Int32), iv v276, iv v277, iv v278, iv ma, iv mb, iv sm, iv v337, .unset, .unset, .unset, .unset, .unset]) (hb hby at_104) rfl rfl ?_
        exact cut106_279 ma mb sm v337 _ _ Xc335 ec335 Nc335 (own_frM hv_v337)
      · refine ow_ifNo (q := 93) Xc335 hx (hb hby at_90) rfl (Jvm.Free.XT.i0_eq_f hc90_336) ?_
        refine ow_iloadN (q := 94) Xc335 hx (hb hby at_93) rfl rfl ?_
        refine ow_bipush (q := 96) Xc335 hx (15 : Int32) (hb hby at_94) rfl rfl ?_
        refine ow_iand (q := 97) Xc335 hx _ (hb hby at_96) rfl rfl ?_
        refine ow_goto (q := 104) Xc335 hx (hb hby at_97) (by decide) (by decide) ?_
        generalize hv_v338 : (p3 &&& (15 : Int32)) = v338
        refine ow_istore (q := 106) Xc335 hx (L' := #[iv p0, iv p1, iv p2, iv p3, iv p4, iv (5 : Int32), iv v276, iv v277, iv v278, iv ma, iv mb, iv sm, iv v338, .unset, .unset, .unset, .unset, .unset]) (hb hby at_104) rfl rfl ?_
        exact cut106_279 ma mb sm v338 _ _ Xc335 ec335 Nc335 (own_fr15 hv_v338)
    have cut74_339 : ∀ (ma : Int32) (mb : Int32) (Tc339 : State) (lc339 : List Loc), Stand p l e room_1 s m #[(.int p0), (.int p1), (.int p2), (.int p3), (.int p4)] below meth c Tc339 lc339 0 0 → Tc339.heap = h0 → Fr n0 lc339 → ownEnds p e below s (Q_law Z p0 p1 p2 p3 p4 h0 n0) 16 128 Tc339 (mkF m 74 #[iv p0, iv p1, iv p2, iv p3, iv p4, iv (5 : Int32), iv v276, iv v277, iv v278, iv ma, iv mb, .unset, .unset, .unset, .unset, .unset, .unset, .unset] []) := by
      intro ma mb Tc339 lc339 Xc339 ec339 Nc339
      refine ow_iload (q := 76) Xc339 hx (hb hby at_74) rfl rfl ?_
      refine ow_iconst (q := 77) Xc339 hx (4 : Int32) (hb hby at_76) rfl rfl ?_
      refine ow_iand (q := 78) Xc339 hx _ (hb hby at_77) rfl rfl ?_
      by_cases hc78_340 : (p4 &&& (4 : Int32)) = (0 : Int32)
      · refine ow_ifYes (q := 85) Xc339 hx (hb hby at_78) (Jvm.Free.XT.i0_eq_t hc78_340) (by decide) (by decide) ?_
        refine ow_iconst (q := 86) Xc339 hx (0 : Int32) (hb hby at_85) rfl rfl ?_
        refine ow_istore (q := 88) Xc339 hx (L' := #[iv p0, iv p1, iv p2, iv p3, iv p4, iv (5 : Int32), iv v276, iv v277, iv v278, iv ma, iv mb, iv (0 : Int32), .unset, .unset, .unset, .unset, .unset, .unset]) (hb hby at_86) rfl rfl ?_
        exact cut88_335 ma mb (0 : Int32) _ _ Xc339 ec339 Nc339 
      · refine ow_ifNo (q := 81) Xc339 hx (hb hby at_78) rfl (Jvm.Free.XT.i0_eq_f hc78_340) ?_
        refine ow_iconst (q := 82) Xc339 hx (1 : Int32) (hb hby at_81) rfl rfl ?_
        refine ow_goto (q := 86) Xc339 hx (hb hby at_82) (by decide) (by decide) ?_
        refine ow_istore (q := 88) Xc339 hx (L' := #[iv p0, iv p1, iv p2, iv p3, iv p4, iv (5 : Int32), iv v276, iv v277, iv v278, iv ma, iv mb, iv (1 : Int32), .unset, .unset, .unset, .unset, .unset, .unset]) (hb hby at_86) rfl rfl ?_
        exact cut88_335 ma mb (1 : Int32) _ _ Xc339 ec339 Nc339 
    have cut60_341 : ∀ (ma : Int32) (Tc341 : State) (lc341 : List Loc), Stand p l e room_1 s m #[(.int p0), (.int p1), (.int p2), (.int p3), (.int p4)] below meth c Tc341 lc341 0 0 → Tc341.heap = h0 → Fr n0 lc341 → ownEnds p e below s (Q_law Z p0 p1 p2 p3 p4 h0 n0) 16 128 Tc341 (mkF m 60 #[iv p0, iv p1, iv p2, iv p3, iv p4, iv (5 : Int32), iv v276, iv v277, iv v278, iv ma, .unset, .unset, .unset, .unset, .unset, .unset, .unset, .unset] []) := by
      intro ma Tc341 lc341 Xc341 ec341 Nc341
      refine ow_iload (q := 62) Xc341 hx (hb hby at_60) rfl rfl ?_
      refine ow_iconst (q := 63) Xc341 hx (2 : Int32) (hb hby at_62) rfl rfl ?_
      refine ow_iand (q := 64) Xc341 hx _ (hb hby at_63) rfl rfl ?_
      by_cases hc64_342 : (p4 &&& (2 : Int32)) = (0 : Int32)
      · refine ow_ifYes (q := 71) Xc341 hx (hb hby at_64) (Jvm.Free.XT.i0_eq_t hc64_342) (by decide) (by decide) ?_
        refine ow_iconst (q := 72) Xc341 hx (0 : Int32) (hb hby at_71) rfl rfl ?_
        refine ow_istore (q := 74) Xc341 hx (L' := #[iv p0, iv p1, iv p2, iv p3, iv p4, iv (5 : Int32), iv v276, iv v277, iv v278, iv ma, iv (0 : Int32), .unset, .unset, .unset, .unset, .unset, .unset, .unset]) (hb hby at_72) rfl rfl ?_
        exact cut74_339 ma (0 : Int32) _ _ Xc341 ec341 Nc341 
      · refine ow_ifNo (q := 67) Xc341 hx (hb hby at_64) rfl (Jvm.Free.XT.i0_eq_f hc64_342) ?_
        refine ow_iconst (q := 68) Xc341 hx (1 : Int32) (hb hby at_67) rfl rfl ?_
        refine ow_goto (q := 72) Xc341 hx (hb hby at_68) (by decide) (by decide) ?_
        refine ow_istore (q := 74) Xc341 hx (L' := #[iv p0, iv p1, iv p2, iv p3, iv p4, iv (5 : Int32), iv v276, iv v277, iv v278, iv ma, iv (1 : Int32), .unset, .unset, .unset, .unset, .unset, .unset, .unset]) (hb hby at_72) rfl rfl ?_
        exact cut74_339 ma (1 : Int32) _ _ Xc341 ec341 Nc341 
    refine ow_iload (q := 48) X0 hx (hb hby at_46) rfl rfl ?_
    refine ow_iconst (q := 49) X0 hx (1 : Int32) (hb hby at_48) rfl rfl ?_
    refine ow_iand (q := 50) X0 hx _ (hb hby at_49) rfl rfl ?_
    by_cases hc50_343 : (p4 &&& (1 : Int32)) = (0 : Int32)
    · refine ow_ifYes (q := 57) X0 hx (hb hby at_50) (Jvm.Free.XT.i0_eq_t hc50_343) (by decide) (by decide) ?_
      refine ow_iconst (q := 58) X0 hx (0 : Int32) (hb hby at_57) rfl rfl ?_
      refine ow_istore (q := 60) X0 hx (L' := #[iv p0, iv p1, iv p2, iv p3, iv p4, iv (5 : Int32), iv v276, iv v277, iv v278, iv (0 : Int32), .unset, .unset, .unset, .unset, .unset, .unset, .unset, .unset]) (hb hby at_58) rfl rfl ?_
      exact cut60_341 (0 : Int32) _ _ X0 e0 N0 
    · refine ow_ifNo (q := 53) X0 hx (hb hby at_50) rfl (Jvm.Free.XT.i0_eq_f hc50_343) ?_
      refine ow_iconst (q := 54) X0 hx (1 : Int32) (hb hby at_53) rfl rfl ?_
      refine ow_goto (q := 58) X0 hx (hb hby at_54) (by decide) (by decide) ?_
      refine ow_istore (q := 60) X0 hx (L' := #[iv p0, iv p1, iv p2, iv p3, iv p4, iv (5 : Int32), iv v276, iv v277, iv v278, iv (1 : Int32), .unset, .unset, .unset, .unset, .unset, .unset, .unset, .unset]) (hb hby at_58) rfl rfl ?_
      exact cut60_341 (1 : Int32) _ _ X0 e0 N0 
  · subst hs7
    refine ow_iload (q := 10) X0 hx (hb hby at_8) rfl rfl ?_
    refine ow_iconst (q := 11) X0 hx (1 : Int32) (hb hby at_10) rfl rfl ?_
    refine ow_isub (q := 12) X0 hx (5 : Int32) (hb hby at_11) rfl (by decide) ?_
    refine ow_sipush (q := 15) X0 hx (1024 : Int32) (hb hby at_12) rfl rfl ?_
    refine ow_imul (q := 16) X0 hx (5120 : Int32) (hb hby at_15) rfl (by decide) ?_
    refine ow_iconst (q := 17) X0 hx (1 : Int32) (hb hby at_16) rfl rfl ?_
    refine ow_iadd (q := 18) X0 hx (5121 : Int32) (hb hby at_17) rfl (by decide) ?_
    refine ow_iloadN (q := 19) X0 hx (hb hby at_18) rfl rfl ?_
    refine ow_iconst (q := 20) X0 hx (3 : Int32) (hb hby at_19) rfl rfl ?_
    refine ow_iushr (q := 21) X0 hx _ (hb hby at_20) rfl rfl ?_
    refine ow_sipush (q := 24) X0 hx (1023 : Int32) (hb hby at_21) rfl rfl ?_
    refine ow_iand (q := 25) X0 hx _ (hb hby at_24) rfl rfl ?_
    refine ow_iadd (q := 26) X0 hx _ (hb hby at_25) rfl rfl ?_
    generalize hv_v344 : ((5121 : Int32) + (((p0.toUInt32 >>> ((3 : Int32) &&& 31).toUInt32).toInt32) &&& (1023 : Int32))) = v344
    refine ow_istore (q := 28) X0 hx (L' := #[iv p0, iv p1, iv p2, iv p3, iv p4, iv (6 : Int32), iv v344, .unset, .unset, .unset, .unset, .unset, .unset, .unset, .unset, .unset, .unset, .unset]) (hb hby at_26) rfl rfl ?_
    refine ow_iloadN (q := 29) X0 hx (hb hby at_28) rfl rfl ?_
    refine ownGo (T' := s₁) (f' := (mkF m 31 #[iv p0, iv p1, iv p2, iv p3, iv p4, iv (6 : Int32), iv v344, .unset, .unset, .unset, .unset, .unset, .unset, .unset, .unset, .unset, .unset, .unset] [(.int (2147483647 : Int32)), (.int p1)])) (X0.ldcInt hx hown (mvT hZ (hw _ (List.mem_of_getElem? (i := 0) rfl))) (g := (mkF m 29 #[iv p0, iv p1, iv p2, iv p3, iv p4, iv (6 : Int32), iv v344, .unset, .unset, .unset, .unset, .unset, .unset, .unset, .unset, .unset, .unset, .unset] [(.int p1)])) rfl (hb hby at_29)) ?_
    refine ow_iand (q := 32) X0 hx _ (hb hby at_31) rfl rfl ?_
    refine ow_iload (q := 34) X0 hx (hb hby at_32) rfl rfl ?_
    refine ow_irem (q := 35) X0 hx _ (hb hby at_34) rfl (own_nzc hv_v344) rfl ?_
    generalize hv_v345 : ((p1 &&& (2147483647 : Int32)) % v344) = v345
    refine ow_istore (q := 37) X0 hx (L' := #[iv p0, iv p1, iv p2, iv p3, iv p4, iv (6 : Int32), iv v344, iv v345, .unset, .unset, .unset, .unset, .unset, .unset, .unset, .unset, .unset, .unset]) (hb hby at_35) rfl rfl ?_
    refine ow_iloadN (q := 38) X0 hx (hb hby at_37) rfl rfl ?_
    refine ownGo (T' := s₁) (f' := (mkF m 40 #[iv p0, iv p1, iv p2, iv p3, iv p4, iv (6 : Int32), iv v344, iv v345, .unset, .unset, .unset, .unset, .unset, .unset, .unset, .unset, .unset, .unset] [(.int (2147483647 : Int32)), (.int p2)])) (X0.ldcInt hx hown (mvT hZ (hw _ (List.mem_of_getElem? (i := 0) rfl))) (g := (mkF m 38 #[iv p0, iv p1, iv p2, iv p3, iv p4, iv (6 : Int32), iv v344, iv v345, .unset, .unset, .unset, .unset, .unset, .unset, .unset, .unset, .unset, .unset] [(.int p2)])) rfl (hb hby at_38)) ?_
    refine ow_iand (q := 41) X0 hx _ (hb hby at_40) rfl rfl ?_
    refine ow_iload (q := 43) X0 hx (hb hby at_41) rfl rfl ?_
    refine ow_irem (q := 44) X0 hx _ (hb hby at_43) rfl (own_nzc hv_v344) rfl ?_
    generalize hv_v346 : ((p2 &&& (2147483647 : Int32)) % v344) = v346
    refine ow_istore (q := 46) X0 hx (L' := #[iv p0, iv p1, iv p2, iv p3, iv p4, iv (6 : Int32), iv v344, iv v345, iv v346, .unset, .unset, .unset, .unset, .unset, .unset, .unset, .unset, .unset]) (hb hby at_44) rfl rfl ?_
    have cut106_347 : ∀ (ma : Int32) (mb : Int32) (sm : Int32) (fr : Int32) (Tc347 : State) (lc347 : List Loc), Stand p l e room_1 s m #[(.int p0), (.int p1), (.int p2), (.int p3), (.int p4)] below meth c Tc347 lc347 0 0 → Tc347.heap = h0 → Fr n0 lc347 → (0 ≤ fr.toInt) → ownEnds p e below s (Q_law Z p0 p1 p2 p3 p4 h0 n0) 16 128 Tc347 (mkF m 106 #[iv p0, iv p1, iv p2, iv p3, iv p4, iv (6 : Int32), iv v344, iv v345, iv v346, iv ma, iv mb, iv sm, iv fr, .unset, .unset, .unset, .unset, .unset] []) := by
      intro ma mb sm fr Tc347 lc347 Xc347 ec347 Nc347 hfr
      obtain ⟨T348, h348, X348, e348, E348, A348, D348, -, st348⟩ := newO Xc347 hx hZ hown (hw _ (List.mem_of_getElem? (i := 1) rfl)) (hw _ (List.mem_of_getElem? (i := 2) rfl)) (hw _ (List.mem_of_getElem? (i := 3) rfl)) ec347 (g := (mkF m 106 #[iv p0, iv p1, iv p2, iv p3, iv p4, iv (6 : Int32), iv v344, iv v345, iv v346, iv ma, iv mb, iv sm, iv fr, .unset, .unset, .unset, .unset, .unset] [])) rfl (hb hby at_106) (by decide) (by decide)
      obtain ⟨b348, g348⟩ : ∃ z, z = h0.size := ⟨_, rfl⟩
      rw [← g348] at A348 D348 st348
      have sz_b348 : h0.size ≤ b348 := Nat.le_trans K0.1 (Nat.le_of_eq g348.symm)
      have G_b348 : n0 ≤ b348 := Nat.le_trans Z0 sz_b348
      have K348 : Keep h0 h348 [] := K0.ext E348
      have F349 : Sta Z h348 "com/example/swarm_tally/swarmtally/ChunkMarks" "CHUNK_SHIFT" "I" (.int (10 : Int32)) := HF0.ext E348
      have F350 : Fld Z h348 b348 "com/example/swarm_tally/swarmtally/ChunkMarks" "changed" "[Z" .null := D348 (Or.inl (hw _ (List.mem_of_getElem? (i := 12) rfl))) (ty := (.array .boolean)) (by decide)
      refine ownGo (T' := T348) (f' := (mkF m 109 #[iv p0, iv p1, iv p2, iv p3, iv p4, iv (6 : Int32), iv v344, iv v345, iv v346, iv ma, iv mb, iv sm, iv fr, .unset, .unset, .unset, .unset, .unset] [(.ref b348)])) (st348) ?_
      refine ow_dup (q := 110) X348 hx (hb hby at_109) rfl rfl ?_
      obtain ⟨_, _, ⟨T351, L351, k351, n351⟩, -, X351, ⟨Lc351, hQ351, l351, y351, z351⟩, st351⟩ := X348.specialBack hx (y := (⟨"com/example/swarm_tally/swarmtally/ChunkMarks", "<init>", "()V"⟩ : MethodName)) rfl hown (mvT hZ (hw _ (List.mem_of_getElem? (i := 4) rfl))) (mvT hZ (hw _ (List.mem_of_getElem? (i := 5) rfl))) (mvT hZ (hw _ (List.mem_of_getElem? (i := 6) rfl))) (by decide) (backOf (W := 1) (rm_init l Z av0 hw [] b348 h348 n0 (Nat.le_trans Z0 K348.1) A348 F350 G_b348) hZ (hw _ (List.mem_of_getElem? (i := 6) rfl)) (hw _ (List.mem_of_getElem? (i := 3) rfl)) (by decide) (by decide)) (g := (mkF m 110 #[iv p0, iv p1, iv p2, iv p3, iv p4, iv (6 : Int32), iv v344, iv v345, iv v346, iv ma, iv mb, iv sm, iv fr, .unset, .unset, .unset, .unset, .unset] [(.ref b348), (.ref b348)])) rfl (by rw [hml]; rfl) (Steps.refl _) (a := b348) (argsL := []) (rest := [(.ref b348)]) (lenOf own_pd2 rfl) rfl (by show 2 * 0 + _ ≤ _; exact Nat.le_of_eq rfl) (hb hby at_110) (fun _ _ => ⟨rfl, e348, (by decide : 1 + 1 ≤ _), (by decide : 1 + 1 ≤ _)⟩)
      dsimp only [Pt.U, Pt.locs, Pt.cells, Pt.slots] at X351 l351 y351 z351 st351 hQ351
      subst l351 y351 z351
      obtain ⟨ar_351, rfl, N351q, Kq351, sq351_ar_351, FP351_0, FP351_1, FP351_2⟩ := hQ351
      have N351 := Fr.app Nc347 N351q
      have K351 : Keep h0 T351.heap [] := K348.trans Kq351 (allS (Or.inr sz_b348) all0)
      have ne_b348_ar_351 : b348 ≠ ar_351 := Nat.ne_of_lt (Nat.lt_of_lt_of_le A348.lt sq351_ar_351)
      have sz_ar_351 : h0.size ≤ ar_351 := Nat.le_trans K348.1 sq351_ar_351
      have G_ar_351 : n0 ≤ ar_351 := Nat.le_trans Z0 sz_ar_351
      have F352 : Sta Z T351.heap "com/example/swarm_tally/swarmtally/ChunkMarks" "CHUNK_SHIFT" "I" (.int (10 : Int32)) := ownStaKeep F349 Kq351 (allS (ownNstE A348) all0)
      have F353 : Exa Z T351.heap b348 "com/example/swarm_tally/swarmtally/ChunkMarks" := A348.keep Kq351
      refine ownRun (T' := T351) (f' := (mkF m 113 #[iv p0, iv p1, iv p2, iv p3, iv p4, iv (6 : Int32), iv v344, iv v345, iv v346, iv ma, iv mb, iv sm, iv fr, .unset, .unset, .unset, .unset, .unset] [(.ref b348)])) st351 ?_
      refine ow_astore (q := 115) X351 hx (L' := #[iv p0, iv p1, iv p2, iv p3, iv p4, iv (6 : Int32), iv v344, iv v345, iv v346, iv ma, iv mb, iv sm, iv fr, rv b348, .unset, .unset, .unset, .unset]) (hb hby at_113) rfl rfl rfl ?_
      refine ow_aload (q := 117) X351 hx (hb hby at_115) rfl rfl rfl ?_
      refine ow_iload (q := 119) X351 hx (hb hby at_117) rfl rfl ?_
      obtain ⟨cq354, kq354, q354a, q354b, q354c⟩ := isOf hZ rfl FP351_0
      obtain ⟨_, _, ⟨T354, L354, k354, n354⟩, -, X354, ⟨Lc354, hQ354, l354, y354, z354⟩, st354⟩ := X351.virtualBack hx (y := (⟨"com/example/swarm_tally/swarmtally/ChunkMarks", "grow", "(I)V"⟩ : MethodName)) (z := (⟨"com/example/swarm_tally/swarmtally/ChunkMarks", "grow", "(I)V"⟩ : MethodName)) hown (mvT hZ (hw _ (List.mem_of_getElem? (i := 13) rfl))) (mvT hZ (hw _ (List.mem_of_getElem? (i := 14) rfl))) (notFace_of_selects (args := #[]) (mvT hZ (hw _ (List.mem_of_getElem? (i := 16) rfl)))) (mvT hZ (hw _ (List.mem_of_getElem? (i := 16) rfl))) (mvT hZ (hw _ (List.mem_of_getElem? (i := 15) rfl))) (by decide) (backOf (W := 0) (rm_grow_6 l Z av0 hw [] b348 v344 ar_351 T351.heap n0 (Nat.le_trans Z0 K351.1) FP351_0 FP351_1 FP351_2 F352 G_b348 (own_chunk6 hv_v344) ne_b348_ar_351) hZ (hw _ (List.mem_of_getElem? (i := 17) rfl)) (hw _ (List.mem_of_getElem? (i := 3) rfl)) (by decide) (by decide)) q354a q354c (g := (mkF m 119 #[iv p0, iv p1, iv p2, iv p3, iv p4, iv (6 : Int32), iv v344, iv v345, iv v346, iv ma, iv mb, iv sm, iv fr, rv b348, .unset, .unset, .unset, .unset] [(.int v344), (.ref b348)])) rfl (by rw [hml]; rfl) (Steps.refl _) (argsL := [(.int v344)]) (rest := []) (lenOf own_pd3 rfl) rfl (by show 2 * 0 + _ ≤ _; exact Nat.le_of_eq rfl) (hb hby at_119) (fun _ _ => ⟨rfl, rfl, (by decide : 2 + 1 ≤ _), (by decide : 2 + 6 ≤ _)⟩)
      dsimp only [Pt.U, Pt.locs, Pt.cells, Pt.slots] at X354 l354 y354 z354 st354 hQ354
      subst l354 y354 z354
      obtain ⟨ar2_354, rfl, N354q, Kq354, sq354_ar2_354, FP354_0, FP354_1, FP354_2⟩ := hQ354
      have N354 := Fr.app N351 N354q
      have K354 : Keep h0 T354.heap [] := K351.trans Kq354 (allS (Or.inr sz_b348) all0)
      have ne_b348_ar2_354 : b348 ≠ ar2_354 := Nat.ne_of_lt (Nat.lt_of_lt_of_le FP351_0.lt sq354_ar2_354)
      have ne_ar_351_ar2_354 : ar_351 ≠ ar2_354 := Nat.ne_of_lt (Nat.lt_of_lt_of_le FP351_2.lt sq354_ar2_354)
      have sz_ar2_354 : h0.size ≤ ar2_354 := Nat.le_trans K351.1 sq354_ar2_354
      have G_ar2_354 : n0 ≤ ar2_354 := Nat.le_trans Z0 sz_ar2_354
      have F355 : Sta Z T354.heap "com/example/swarm_tally/swarmtally/ChunkMarks" "CHUNK_SHIFT" "I" (.int (10 : Int32)) := ownStaKeep F352 Kq354 (allS (ownNstE FP351_0) all0)
      have F356 : Exa Z T354.heap b348 "com/example/swarm_tally/swarmtally/ChunkMarks" := FP351_0.keep Kq354
      have F357 : ownAI Z T354.heap ar_351 .boolean 1 (fun _ => (0 : Int32)) := FP351_2.keep Kq354 (ninS (Ne.symm ne_b348_ar_351) nin0)
      refine ownRun (T' := T354) (f' := (mkF m 122 #[iv p0, iv p1, iv p2, iv p3, iv p4, iv (6 : Int32), iv v344, iv v345, iv v346, iv ma, iv mb, iv sm, iv fr, rv b348, .unset, .unset, .unset, .unset] [])) st354 ?_
      refine ow_iload (q := 124) X354 hx (hb hby at_122) rfl rfl ?_
      by_cases hc124_358 : ma = (0 : Int32)
      · refine ow_ifYes (q := 134) X354 hx (hb hby at_124) (Jvm.Free.XT.i0_eq_t hc124_358) (by decide) (by decide) ?_
        refine ow_iload (q := 136) X354 hx (hb hby at_134) rfl rfl ?_
        by_cases hc136_359 : mb = (0 : Int32)
        · refine ow_ifYes (q := 146) X354 hx (hb hby at_136) (Jvm.Free.XT.i0_eq_t hc136_359) (by decide) (by decide) ?_
          refine ow_aload (q := 148) X354 hx (hb hby at_146) rfl rfl rfl ?_
          refine ow_iload (q := 150) X354 hx (hb hby at_148) rfl rfl ?_
          obtain ⟨cq360, kq360, q360a, q360b, q360c⟩ := isOf hZ rfl FP354_0
          obtain ⟨_, _, ⟨T360, L360, k360, n360⟩, -, X360, ⟨Lc360, hQ360, l360, y360, z360⟩, st360⟩ := X354.virtualBack hx (y := (⟨"com/example/swarm_tally/swarmtally/ChunkMarks", "next", "(I)I"⟩ : MethodName)) (z := (⟨"com/example/swarm_tally/swarmtally/ChunkMarks", "next", "(I)I"⟩ : MethodName)) hown (mvT hZ (hw _ (List.mem_of_getElem? (i := 20) rfl))) (mvT hZ (hw _ (List.mem_of_getElem? (i := 21) rfl))) (notFace_of_selects (args := #[]) (mvT hZ (hw _ (List.mem_of_getElem? (i := 23) rfl)))) (mvT hZ (hw _ (List.mem_of_getElem? (i := 23) rfl))) (mvT hZ (hw _ (List.mem_of_getElem? (i := 22) rfl))) (by decide) (backOf (W := 0) (rm_next_6 l Z av0 hw [] b348 fr ar2_354 (fun _ => (0 : Int32)) T354.heap n0 (Nat.le_trans Z0 K354.1) FP354_1 FP354_2 hfr) hZ (hw _ (List.mem_of_getElem? (i := 24) rfl)) (hw _ (List.mem_of_getElem? (i := 3) rfl)) (by decide) (by decide)) q360a q360c (g := (mkF m 150 #[iv p0, iv p1, iv p2, iv p3, iv p4, iv (6 : Int32), iv v344, iv v345, iv v346, iv ma, iv mb, iv sm, iv fr, rv b348, .unset, .unset, .unset, .unset] [(.int fr), (.ref b348)])) rfl (by rw [hml]; rfl) (Steps.refl _) (argsL := [(.int fr)]) (rest := []) (lenOf own_pd4 rfl) rfl (by show 2 * 0 + _ ≤ _; exact Nat.le_of_eq rfl) (hb hby at_150) (fun _ _ => ⟨rfl, rfl, (by decide : 3 + 0 ≤ _), (by decide : 8 + 0 ≤ _)⟩)
          dsimp only [Pt.U, Pt.locs, Pt.cells, Pt.slots] at X360 l360 y360 z360 st360 hQ360
          subst l360 y360 z360
          obtain ⟨rfl, N360q, e360⟩ := hQ360
          have N360 := Fr.app N354 N360q
          refine ownRun (T' := T360) (f' := (mkF m 153 #[iv p0, iv p1, iv p2, iv p3, iv p4, iv (6 : Int32), iv v344, iv v345, iv v346, iv ma, iv mb, iv sm, iv fr, rv b348, .unset, .unset, .unset, .unset] [(.int (own_next (fun _ => (0 : Int32)) 6 fr))])) st360 ?_
          generalize hv_v361 : (own_next (fun _ => (0 : Int32)) 6 fr) = v361
          refine ow_istore (q := 155) X360 hx (L' := #[iv p0, iv p1, iv p2, iv p3, iv p4, iv (6 : Int32), iv v344, iv v345, iv v346, iv ma, iv mb, iv sm, iv fr, rv b348, iv v361, .unset, .unset, .unset]) (hb hby at_153) rfl rfl ?_
          refine ow_iload (q := 157) X360 hx (hb hby at_155) rfl rfl ?_
          refine ow_sipush (q := 160) X360 hx (1024 : Int32) (hb hby at_157) rfl rfl ?_
          refine ow_idiv (q := 161) X360 hx _ (hb hby at_160) rfl (by decide) rfl ?_
          generalize hv_v362 : (v345 / (1024 : Int32)) = v362
          refine ow_istore (q := 163) X360 hx (L' := #[iv p0, iv p1, iv p2, iv p3, iv p4, iv (6 : Int32), iv v344, iv v345, iv v346, iv ma, iv mb, iv sm, iv fr, rv b348, iv v361, iv v362, .unset, .unset]) (hb hby at_161) rfl rfl ?_
          refine ow_iload (q := 165) X360 hx (hb hby at_163) rfl rfl ?_
          refine ow_sipush (q := 168) X360 hx (1024 : Int32) (hb hby at_165) rfl rfl ?_
          refine ow_idiv (q := 169) X360 hx _ (hb hby at_168) rfl (by decide) rfl ?_
          generalize hv_v363 : (v346 / (1024 : Int32)) = v363
          refine ow_istore (q := 171) X360 hx (L' := #[iv p0, iv p1, iv p2, iv p3, iv p4, iv (6 : Int32), iv v344, iv v345, iv v346, iv ma, iv mb, iv sm, iv fr, rv b348, iv v361, iv v362, iv v363, .unset]) (hb hby at_169) rfl rfl ?_
          refine ow_iconst (q := 172) X360 hx (-1 : Int32) (hb hby at_171) rfl rfl ?_
          refine ow_istore (q := 174) X360 hx (L' := #[iv p0, iv p1, iv p2, iv p3, iv p4, iv (6 : Int32), iv v344, iv v345, iv v346, iv ma, iv mb, iv sm, iv fr, rv b348, iv v361, iv v362, iv v363, iv (-1 : Int32)]) (hb hby at_172) rfl rfl ?_
          have cut218_364 : ∀ (be : Int32) (Tc364 : State) (lc364 : List Loc), Stand p l e room_1 s m #[(.int p0), (.int p1), (.int p2), (.int p3), (.int p4)] below meth c Tc364 lc364 3 8 → Tc364.heap = T354.heap → Fr n0 lc364 → (be = own_best ma mb v362 v363 fr) → ownEnds p e below s (Q_law Z p0 p1 p2 p3 p4 h0 n0) 16 128 Tc364 (mkF m 218 #[iv p0, iv p1, iv p2, iv p3, iv p4, iv (6 : Int32), iv v344, iv v345, iv v346, iv ma, iv mb, iv sm, iv fr, rv b348, iv v361, iv v362, iv v363, iv be] []) := by
            intro be Tc364 lc364 Xc364 ec364 Nc364 hbe
            refine ow_iload (q := 220) Xc364 hx (hb hby at_218) rfl rfl ?_
            refine ow_iload (q := 222) Xc364 hx (hb hby at_220) rfl rfl ?_
            refine ow_icmpNo (q := 225) Xc364 hx (hb hby at_222) rfl (Jvm.Free.XT.ii_ne_f (by rw [hbe, ← hv_v361]; exact own_final (own_g00 hc124_358 hc136_359) (own_ca (own_a (n := 6) hv_v345 hv_v344) hv_v362) (own_ca (own_a (n := 6) hv_v346 hv_v344) hv_v363) (own_il (own_a (n := 6) hv_v345 hv_v344)) (own_il (own_a (n := 6) hv_v346 hv_v344)) hfr)) ?_
            refine ow_iconst (q := 226) Xc364 hx (1 : Int32) (hb hby at_225) rfl rfl ?_
            refine ow_goto (q := 230) Xc364 hx (hb hby at_226) (by decide) (by decide) ?_
            refine ownRetN Xc364 hx (r := (1 : Int32)) (Or.inl rfl) Bd.returns (hb hby at_230) hlk (by decide) (by decide) (by decide) ?_
            exact ⟨rfl, Nc364⟩
          refine ow_iload (q := 176) X360 hx (hb hby at_174) rfl rfl ?_
          refine ow_ifYes (q := 190) X360 hx (hb hby at_176) (Jvm.Free.XT.i0_eq_t hc124_358) (by decide) (by decide) ?_
          refine ow_iload (q := 192) X360 hx (hb hby at_190) rfl rfl ?_
          refine ow_ifYes (q := 218) X360 hx (hb hby at_192) (Jvm.Free.XT.i0_eq_t hc136_359) (by decide) (by decide) ?_
          exact cut218_364 (-1 : Int32) _ _ X360 e360 N360 (by simp [own_best, hc124_358, hc136_359])
        · refine ow_ifNo (q := 139) X354 hx (hb hby at_136) rfl (Jvm.Free.XT.i0_eq_f hc136_359) ?_
          refine ow_aload (q := 141) X354 hx (hb hby at_139) rfl rfl rfl ?_
          refine ow_iload (q := 143) X354 hx (hb hby at_141) rfl rfl ?_
          obtain ⟨cq365, kq365, q365a, q365b, q365c⟩ := isOf hZ rfl FP354_0
          obtain ⟨_, _, ⟨T365, L365, k365, n365⟩, -, X365, ⟨Lc365, hQ365, l365, y365, z365⟩, st365⟩ := X354.virtualBack hx (y := (⟨"com/example/swarm_tally/swarmtally/ChunkMarks", "mark", "(I)V"⟩ : MethodName)) (z := (⟨"com/example/swarm_tally/swarmtally/ChunkMarks", "mark", "(I)V"⟩ : MethodName)) hown (mvT hZ (hw _ (List.mem_of_getElem? (i := 37) rfl))) (mvT hZ (hw _ (List.mem_of_getElem? (i := 38) rfl))) (notFace_of_selects (args := #[]) (mvT hZ (hw _ (List.mem_of_getElem? (i := 40) rfl)))) (mvT hZ (hw _ (List.mem_of_getElem? (i := 40) rfl))) (mvT hZ (hw _ (List.mem_of_getElem? (i := 39) rfl))) (by decide) (backOf (W := 0) (rm_mark_6 l Z av0 hw [] b348 v346 ar2_354 (fun _ => (0 : Int32)) T354.heap n0 (Nat.le_trans Z0 K354.1) FP354_1 FP354_2 F355 G_ar2_354 (own_in (own_a (n := 6) hv_v346 hv_v344)) ne_b348_ar2_354) hZ (hw _ (List.mem_of_getElem? (i := 41) rfl)) (hw _ (List.mem_of_getElem? (i := 3) rfl)) (by decide) (by decide)) q365a q365c (g := (mkF m 143 #[iv p0, iv p1, iv p2, iv p3, iv p4, iv (6 : Int32), iv v344, iv v345, iv v346, iv ma, iv mb, iv sm, iv fr, rv b348, .unset, .unset, .unset, .unset] [(.int v346), (.ref b348)])) rfl (by rw [hml]; rfl) (Steps.refl _) (argsL := [(.int v346)]) (rest := []) (lenOf own_pd3 rfl) rfl (by show 2 * 0 + _ ≤ _; exact Nat.le_of_eq rfl) (hb hby at_143) (fun _ _ => ⟨rfl, rfl, (by decide : 3 + 0 ≤ _), (by decide : 8 + 0 ≤ _)⟩)
          dsimp only [Pt.U, Pt.locs, Pt.cells, Pt.slots] at X365 l365 y365 z365 st365 hQ365
          subst l365 y365 z365
          obtain ⟨rfl, N365q, Kq365, FP365_0⟩ := hQ365
          have N365 := Fr.app N354 N365q
          have K365 : Keep h0 T365.heap [] := K354.trans Kq365 (allS (Or.inr sz_ar2_354) all0)
          have F366 : Sta Z T365.heap "com/example/swarm_tally/swarmtally/ChunkMarks" "CHUNK_SHIFT" "I" (.int (10 : Int32)) := ownStaKeep F355 Kq365 (allS (ownNstI FP354_2) all0)
          have F367 : Exa Z T365.heap b348 "com/example/swarm_tally/swarmtally/ChunkMarks" := FP354_0.keep Kq365
          have F368 : ownAI Z T365.heap ar_351 .boolean 1 (fun _ => (0 : Int32)) := F357.keep Kq365 (ninS ne_ar_351_ar2_354 nin0)
          have F369 : Fld Z T365.heap b348 "com/example/swarm_tally/swarmtally/ChunkMarks" "changed" "[Z" (.ref ar2_354) := FP354_1.keep Kq365 (ninS ne_b348_ar2_354 nin0)
          refine ownRun (T' := T365) (f' := (mkF m 146 #[iv p0, iv p1, iv p2, iv p3, iv p4, iv (6 : Int32), iv v344, iv v345, iv v346, iv ma, iv mb, iv sm, iv fr, rv b348, .unset, .unset, .unset, .unset] [])) st365 ?_
          refine ow_aload (q := 148) X365 hx (hb hby at_146) rfl rfl rfl ?_
          refine ow_iload (q := 150) X365 hx (hb hby at_148) rfl rfl ?_
          obtain ⟨cq370, kq370, q370a, q370b, q370c⟩ := isOf hZ rfl F367
          obtain ⟨_, _, ⟨T370, L370, k370, n370⟩, -, X370, ⟨Lc370, hQ370, l370, y370, z370⟩, st370⟩ := X365.virtualBack hx (y := (⟨"com/example/swarm_tally/swarmtally/ChunkMarks", "next", "(I)I"⟩ : MethodName)) (z := (⟨"com/example/swarm_tally/swarmtally/ChunkMarks", "next", "(I)I"⟩ : MethodName)) hown (mvT hZ (hw _ (List.mem_of_getElem? (i := 20) rfl))) (mvT hZ (hw _ (List.mem_of_getElem? (i := 21) rfl))) (notFace_of_selects (args := #[]) (mvT hZ (hw _ (List.mem_of_getElem? (i := 23) rfl)))) (mvT hZ (hw _ (List.mem_of_getElem? (i := 23) rfl))) (mvT hZ (hw _ (List.mem_of_getElem? (i := 22) rfl))) (by decide) (backOf (W := 0) (rm_next_6 l Z av0 hw [] b348 fr ar2_354 (ownUpd (fun _ => (0 : Int32)) (own_ix v346) (1 : Int32)) T365.heap n0 (Nat.le_trans Z0 K365.1) F369 FP365_0 hfr) hZ (hw _ (List.mem_of_getElem? (i := 24) rfl)) (hw _ (List.mem_of_getElem? (i := 3) rfl)) (by decide) (by decide)) q370a q370c (g := (mkF m 150 #[iv p0, iv p1, iv p2, iv p3, iv p4, iv (6 : Int32), iv v344, iv v345, iv v346, iv ma, iv mb, iv sm, iv fr, rv b348, .unset, .unset, .unset, .unset] [(.int fr), (.ref b348)])) rfl (by rw [hml]; rfl) (Steps.refl _) (argsL := [(.int fr)]) (rest := []) (lenOf own_pd4 rfl) rfl (by show 2 * 0 + _ ≤ _; exact Nat.le_of_eq rfl) (hb hby at_150) (fun _ _ => ⟨rfl, rfl, (by decide : 3 + 0 ≤ _), (by decide : 8 + 0 ≤ _)⟩)
          dsimp only [Pt.U, Pt.locs, Pt.cells, Pt.slots] at X370 l370 y370 z370 st370 hQ370
          subst l370 y370 z370
          obtain ⟨rfl, N370q, e370⟩ := hQ370
          have N370 := Fr.app N365 N370q
          refine ownRun (T' := T370) (f' := (mkF m 153 #[iv p0, iv p1, iv p2, iv p3, iv p4, iv (6 : Int32), iv v344, iv v345, iv v346, iv ma, iv mb, iv sm, iv fr, rv b348, .unset, .unset, .unset, .unset] [(.int (own_next (ownUpd (fun _ => (0 : Int32)) (own_ix v346) (1 : Int32)) 6 fr))])) st370 ?_
          generalize hv_v371 : (own_next (ownUpd (fun _ => (0 : Int32)) (own_ix v346) (1 : Int32)) 6 fr) = v371
          refine ow_istore (q := 155) X370 hx (L' := #[iv p0, iv p1, iv p2, iv p3, iv p4, iv (6 : Int32), iv v344, iv v345, iv v346, iv ma, iv mb, iv sm, iv fr, rv b348, iv v371, .unset, .unset, .unset]) (hb hby at_153) rfl rfl ?_
          refine ow_iload (q := 157) X370 hx (hb hby at_155) rfl rfl ?_
          refine ow_sipush (q := 160) X370 hx (1024 : Int32) (hb hby at_157) rfl rfl ?_
          refine ow_idiv (q := 161) X370 hx _ (hb hby at_160) rfl (by decide) rfl ?_
          generalize hv_v372 : (v345 / (1024 : Int32)) = v372
          refine ow_istore (q := 163) X370 hx (L' := #[iv p0, iv p1, iv p2, iv p3, iv p4, iv (6 : Int32), iv v344, iv v345, iv v346, iv ma, iv mb, iv sm, iv fr, rv b348, iv v371, iv v372, .unset, .unset]) (hb hby at_161) rfl rfl ?_
          refine ow_iload (q := 165) X370 hx (hb hby at_163) rfl rfl ?_
          refine ow_sipush (q := 168) X370 hx (1024 : Int32) (hb hby at_165) rfl rfl ?_
          refine ow_idiv (q := 169) X370 hx _ (hb hby at_168) rfl (by decide) rfl ?_
          generalize hv_v373 : (v346 / (1024 : Int32)) = v373
          refine ow_istore (q := 171) X370 hx (L' := #[iv p0, iv p1, iv p2, iv p3, iv p4, iv (6 : Int32), iv v344, iv v345, iv v346, iv ma, iv mb, iv sm, iv fr, rv b348, iv v371, iv v372, iv v373, .unset]) (hb hby at_169) rfl rfl ?_
          refine ow_iconst (q := 172) X370 hx (-1 : Int32) (hb hby at_171) rfl rfl ?_
          refine ow_istore (q := 174) X370 hx (L' := #[iv p0, iv p1, iv p2, iv p3, iv p4, iv (6 : Int32), iv v344, iv v345, iv v346, iv ma, iv mb, iv sm, iv fr, rv b348, iv v371, iv v372, iv v373, iv (-1 : Int32)]) (hb hby at_172) rfl rfl ?_
          have cut218_374 : ∀ (be : Int32) (Tc374 : State) (lc374 : List Loc), Stand p l e room_1 s m #[(.int p0), (.int p1), (.int p2), (.int p3), (.int p4)] below meth c Tc374 lc374 3 8 → Tc374.heap = T365.heap → Fr n0 lc374 → (be = own_best ma mb v372 v373 fr) → ownEnds p e below s (Q_law Z p0 p1 p2 p3 p4 h0 n0) 16 128 Tc374 (mkF m 218 #[iv p0, iv p1, iv p2, iv p3, iv p4, iv (6 : Int32), iv v344, iv v345, iv v346, iv ma, iv mb, iv sm, iv fr, rv b348, iv v371, iv v372, iv v373, iv be] []) := by
            intro be Tc374 lc374 Xc374 ec374 Nc374 hbe
            refine ow_iload (q := 220) Xc374 hx (hb hby at_218) rfl rfl ?_
            refine ow_iload (q := 222) Xc374 hx (hb hby at_220) rfl rfl ?_
            refine ow_icmpNo (q := 225) Xc374 hx (hb hby at_222) rfl (Jvm.Free.XT.ii_ne_f (by rw [hbe, ← hv_v371]; exact own_final (own_g01 hc124_358 hc136_359) (own_ca (own_a (n := 6) hv_v345 hv_v344) hv_v372) (own_ca (own_a (n := 6) hv_v346 hv_v344) hv_v373) (own_il (own_a (n := 6) hv_v345 hv_v344)) (own_il (own_a (n := 6) hv_v346 hv_v344)) hfr)) ?_
            refine ow_iconst (q := 226) Xc374 hx (1 : Int32) (hb hby at_225) rfl rfl ?_
            refine ow_goto (q := 230) Xc374 hx (hb hby at_226) (by decide) (by decide) ?_
            refine ownRetN Xc374 hx (r := (1 : Int32)) (Or.inl rfl) Bd.returns (hb hby at_230) hlk (by decide) (by decide) (by decide) ?_
            exact ⟨rfl, Nc374⟩
          refine ow_iload (q := 176) X370 hx (hb hby at_174) rfl rfl ?_
          refine ow_ifYes (q := 190) X370 hx (hb hby at_176) (Jvm.Free.XT.i0_eq_t hc124_358) (by decide) (by decide) ?_
          refine ow_iload (q := 192) X370 hx (hb hby at_190) rfl rfl ?_
          refine ow_ifNo (q := 195) X370 hx (hb hby at_192) rfl (Jvm.Free.XT.i0_eq_f hc136_359) ?_
          refine ow_iload (q := 197) X370 hx (hb hby at_195) rfl rfl ?_
          refine ow_iload (q := 199) X370 hx (hb hby at_197) rfl rfl ?_
          by_cases hc199_375 : v373 < fr
          · refine ow_icmpYes (q := 218) X370 hx (hb hby at_199) (Jvm.Free.XT.ii_lt_t hc199_375) (by decide) (by decide) ?_
            exact cut218_374 (-1 : Int32) _ _ X370 e370 N370 (by simp [own_best, hc124_358, hc136_359, hc199_375])
          · refine ow_icmpNo (q := 202) X370 hx (hb hby at_199) rfl (Jvm.Free.XT.ii_lt_f hc199_375) ?_
            refine ow_iload (q := 204) X370 hx (hb hby at_202) rfl rfl ?_
            refine ow_ifYes (q := 214) X370 hx (hb hby at_204) (Jvm.Free.XT.i0_lt_t (by decide)) (by decide) (by decide) ?_
            refine ow_iload (q := 216) X370 hx (hb hby at_214) rfl rfl ?_
            refine ow_istore (q := 218) X370 hx (L' := #[iv p0, iv p1, iv p2, iv p3, iv p4, iv (6 : Int32), iv v344, iv v345, iv v346, iv ma, iv mb, iv sm, iv fr, rv b348, iv v371, iv v372, iv v373, iv v373]) (hb hby at_216) rfl rfl ?_
            exact cut218_374 v373 _ _ X370 e370 N370 (by simp [own_best, hc124_358, hc136_359, hc199_375])
      · refine ow_ifNo (q := 127) X354 hx (hb hby at_124) rfl (Jvm.Free.XT.i0_eq_f hc124_358) ?_
        refine ow_aload (q := 129) X354 hx (hb hby at_127) rfl rfl rfl ?_
        refine ow_iload (q := 131) X354 hx (hb hby at_129) rfl rfl ?_
        obtain ⟨cq376, kq376, q376a, q376b, q376c⟩ := isOf hZ rfl FP354_0
        obtain ⟨_, _, ⟨T376, L376, k376, n376⟩, -, X376, ⟨Lc376, hQ376, l376, y376, z376⟩, st376⟩ := X354.virtualBack hx (y := (⟨"com/example/swarm_tally/swarmtally/ChunkMarks", "mark", "(I)V"⟩ : MethodName)) (z := (⟨"com/example/swarm_tally/swarmtally/ChunkMarks", "mark", "(I)V"⟩ : MethodName)) hown (mvT hZ (hw _ (List.mem_of_getElem? (i := 37) rfl))) (mvT hZ (hw _ (List.mem_of_getElem? (i := 38) rfl))) (notFace_of_selects (args := #[]) (mvT hZ (hw _ (List.mem_of_getElem? (i := 40) rfl)))) (mvT hZ (hw _ (List.mem_of_getElem? (i := 40) rfl))) (mvT hZ (hw _ (List.mem_of_getElem? (i := 39) rfl))) (by decide) (backOf (W := 0) (rm_mark_6 l Z av0 hw [] b348 v345 ar2_354 (fun _ => (0 : Int32)) T354.heap n0 (Nat.le_trans Z0 K354.1) FP354_1 FP354_2 F355 G_ar2_354 (own_in (own_a (n := 6) hv_v345 hv_v344)) ne_b348_ar2_354) hZ (hw _ (List.mem_of_getElem? (i := 41) rfl)) (hw _ (List.mem_of_getElem? (i := 3) rfl)) (by decide) (by decide)) q376a q376c (g := (mkF m 131 #[iv p0, iv p1, iv p2, iv p3, iv p4, iv (6 : Int32), iv v344, iv v345, iv v346, iv ma, iv mb, iv sm, iv fr, rv b348, .unset, .unset, .unset, .unset] [(.int v345), (.ref b348)])) rfl (by rw [hml]; rfl) (Steps.refl _) (argsL := [(.int v345)]) (rest := []) (lenOf own_pd3 rfl) rfl (by show 2 * 0 + _ ≤ _; exact Nat.le_of_eq rfl) (hb hby at_131) (fun _ _ => ⟨rfl, rfl, (by decide : 3 + 0 ≤ _), (by decide : 8 + 0 ≤ _)⟩)
        dsimp only [Pt.U, Pt.locs, Pt.cells, Pt.slots] at X376 l376 y376 z376 st376 hQ376
        subst l376 y376 z376
        obtain ⟨rfl, N376q, Kq376, FP376_0⟩ := hQ376
        have N376 := Fr.app N354 N376q
        have K376 : Keep h0 T376.heap [] := K354.trans Kq376 (allS (Or.inr sz_ar2_354) all0)
        have F377 : Sta Z T376.heap "com/example/swarm_tally/swarmtally/ChunkMarks" "CHUNK_SHIFT" "I" (.int (10 : Int32)) := ownStaKeep F355 Kq376 (allS (ownNstI FP354_2) all0)
        have F378 : Exa Z T376.heap b348 "com/example/swarm_tally/swarmtally/ChunkMarks" := FP354_0.keep Kq376
        have F379 : ownAI Z T376.heap ar_351 .boolean 1 (fun _ => (0 : Int32)) := F357.keep Kq376 (ninS ne_ar_351_ar2_354 nin0)
        have F380 : Fld Z T376.heap b348 "com/example/swarm_tally/swarmtally/ChunkMarks" "changed" "[Z" (.ref ar2_354) := FP354_1.keep Kq376 (ninS ne_b348_ar2_354 nin0)
        refine ownRun (T' := T376) (f' := (mkF m 134 #[iv p0, iv p1, iv p2, iv p3, iv p4, iv (6 : Int32), iv v344, iv v345, iv v346, iv ma, iv mb, iv sm, iv fr, rv b348, .unset, .unset, .unset, .unset] [])) st376 ?_
        refine ow_iload (q := 136) X376 hx (hb hby at_134) rfl rfl ?_
        by_cases hc136_381 : mb = (0 : Int32)
        · refine ow_ifYes (q := 146) X376 hx (hb hby at_136) (Jvm.Free.XT.i0_eq_t hc136_381) (by decide) (by decide) ?_
          refine ow_aload (q := 148) X376 hx (hb hby at_146) rfl rfl rfl ?_
          refine ow_iload (q := 150) X376 hx (hb hby at_148) rfl rfl ?_
          obtain ⟨cq382, kq382, q382a, q382b, q382c⟩ := isOf hZ rfl F378
          obtain ⟨_, _, ⟨T382, L382, k382, n382⟩, -, X382, ⟨Lc382, hQ382, l382, y382, z382⟩, st382⟩ := X376.virtualBack hx (y := (⟨"com/example/swarm_tally/swarmtally/ChunkMarks", "next", "(I)I"⟩ : MethodName)) (z := (⟨"com/example/swarm_tally/swarmtally/ChunkMarks", "next", "(I)I"⟩ : MethodName)) hown (mvT hZ (hw _ (List.mem_of_getElem? (i := 20) rfl))) (mvT hZ (hw _ (List.mem_of_getElem? (i := 21) rfl))) (notFace_of_selects (args := #[]) (mvT hZ (hw _ (List.mem_of_getElem? (i := 23) rfl)))) (mvT hZ (hw _ (List.mem_of_getElem? (i := 23) rfl))) (mvT hZ (hw _ (List.mem_of_getElem? (i := 22) rfl))) (by decide) (backOf (W := 0) (rm_next_6 l Z av0 hw [] b348 fr ar2_354 (ownUpd (fun _ => (0 : Int32)) (own_ix v345) (1 : Int32)) T376.heap n0 (Nat.le_trans Z0 K376.1) F380 FP376_0 hfr) hZ (hw _ (List.mem_of_getElem? (i := 24) rfl)) (hw _ (List.mem_of_getElem? (i := 3) rfl)) (by decide) (by decide)) q382a q382c (g := (mkF m 150 #[iv p0, iv p1, iv p2, iv p3, iv p4, iv (6 : Int32), iv v344, iv v345, iv v346, iv ma, iv mb, iv sm, iv fr, rv b348, .unset, .unset, .unset, .unset] [(.int fr), (.ref b348)])) rfl (by rw [hml]; rfl) (Steps.refl _) (argsL := [(.int fr)]) (rest := []) (lenOf own_pd4 rfl) rfl (by show 2 * 0 + _ ≤ _; exact Nat.le_of_eq rfl) (hb hby at_150) (fun _ _ => ⟨rfl, rfl, (by decide : 3 + 0 ≤ _), (by decide : 8 + 0 ≤ _)⟩)
          dsimp only [Pt.U, Pt.locs, Pt.cells, Pt.slots] at X382 l382 y382 z382 st382 hQ382
          subst l382 y382 z382
          obtain ⟨rfl, N382q, e382⟩ := hQ382
          have N382 := Fr.app N376 N382q
          refine ownRun (T' := T382) (f' := (mkF m 153 #[iv p0, iv p1, iv p2, iv p3, iv p4, iv (6 : Int32), iv v344, iv v345, iv v346, iv ma, iv mb, iv sm, iv fr, rv b348, .unset, .unset, .unset, .unset] [(.int (own_next (ownUpd (fun _ => (0 : Int32)) (own_ix v345) (1 : Int32)) 6 fr))])) st382 ?_
          generalize hv_v383 : (own_next (ownUpd (fun _ => (0 : Int32)) (own_ix v345) (1 : Int32)) 6 fr) = v383
          refine ow_istore (q := 155) X382 hx (L' := #[iv p0, iv p1, iv p2, iv p3, iv p4, iv (6 : Int32), iv v344, iv v345, iv v346, iv ma, iv mb, iv sm, iv fr, rv b348, iv v383, .unset, .unset, .unset]) (hb hby at_153) rfl rfl ?_
          refine ow_iload (q := 157) X382 hx (hb hby at_155) rfl rfl ?_
          refine ow_sipush (q := 160) X382 hx (1024 : Int32) (hb hby at_157) rfl rfl ?_
          refine ow_idiv (q := 161) X382 hx _ (hb hby at_160) rfl (by decide) rfl ?_
          generalize hv_v384 : (v345 / (1024 : Int32)) = v384
          refine ow_istore (q := 163) X382 hx (L' := #[iv p0, iv p1, iv p2, iv p3, iv p4, iv (6 : Int32), iv v344, iv v345, iv v346, iv ma, iv mb, iv sm, iv fr, rv b348, iv v383, iv v384, .unset, .unset]) (hb hby at_161) rfl rfl ?_
          refine ow_iload (q := 165) X382 hx (hb hby at_163) rfl rfl ?_
          refine ow_sipush (q := 168) X382 hx (1024 : Int32) (hb hby at_165) rfl rfl ?_
          refine ow_idiv (q := 169) X382 hx _ (hb hby at_168) rfl (by decide) rfl ?_
          generalize hv_v385 : (v346 / (1024 : Int32)) = v385
          refine ow_istore (q := 171) X382 hx (L' := #[iv p0, iv p1, iv p2, iv p3, iv p4, iv (6 : Int32), iv v344, iv v345, iv v346, iv ma, iv mb, iv sm, iv fr, rv b348, iv v383, iv v384, iv v385, .unset]) (hb hby at_169) rfl rfl ?_
          refine ow_iconst (q := 172) X382 hx (-1 : Int32) (hb hby at_171) rfl rfl ?_
          refine ow_istore (q := 174) X382 hx (L' := #[iv p0, iv p1, iv p2, iv p3, iv p4, iv (6 : Int32), iv v344, iv v345, iv v346, iv ma, iv mb, iv sm, iv fr, rv b348, iv v383, iv v384, iv v385, iv (-1 : Int32)]) (hb hby at_172) rfl rfl ?_
          have cut218_386 : ∀ (be : Int32) (Tc386 : State) (lc386 : List Loc), Stand p l e room_1 s m #[(.int p0), (.int p1), (.int p2), (.int p3), (.int p4)] below meth c Tc386 lc386 3 8 → Tc386.heap = T376.heap → Fr n0 lc386 → (be = own_best ma mb v384 v385 fr) → ownEnds p e below s (Q_law Z p0 p1 p2 p3 p4 h0 n0) 16 128 Tc386 (mkF m 218 #[iv p0, iv p1, iv p2, iv p3, iv p4, iv (6 : Int32), iv v344, iv v345, iv v346, iv ma, iv mb, iv sm, iv fr, rv b348, iv v383, iv v384, iv v385, iv be] []) := by
            intro be Tc386 lc386 Xc386 ec386 Nc386 hbe
            refine ow_iload (q := 220) Xc386 hx (hb hby at_218) rfl rfl ?_
            refine ow_iload (q := 222) Xc386 hx (hb hby at_220) rfl rfl ?_
            refine ow_icmpNo (q := 225) Xc386 hx (hb hby at_222) rfl (Jvm.Free.XT.ii_ne_f (by rw [hbe, ← hv_v383]; exact own_final (own_g10 hc124_358 hc136_381) (own_ca (own_a (n := 6) hv_v345 hv_v344) hv_v384) (own_ca (own_a (n := 6) hv_v346 hv_v344) hv_v385) (own_il (own_a (n := 6) hv_v345 hv_v344)) (own_il (own_a (n := 6) hv_v346 hv_v344)) hfr)) ?_
            refine ow_iconst (q := 226) Xc386 hx (1 : Int32) (hb hby at_225) rfl rfl ?_
            refine ow_goto (q := 230) Xc386 hx (hb hby at_226) (by decide) (by decide) ?_
            refine ownRetN Xc386 hx (r := (1 : Int32)) (Or.inl rfl) Bd.returns (hb hby at_230) hlk (by decide) (by decide) (by decide) ?_
            exact ⟨rfl, Nc386⟩
          refine ow_iload (q := 176) X382 hx (hb hby at_174) rfl rfl ?_
          refine ow_ifNo (q := 179) X382 hx (hb hby at_176) rfl (Jvm.Free.XT.i0_eq_f hc124_358) ?_
          refine ow_iload (q := 181) X382 hx (hb hby at_179) rfl rfl ?_
          refine ow_iload (q := 183) X382 hx (hb hby at_181) rfl rfl ?_
          by_cases hc183_387 : v384 < fr
          · refine ow_icmpYes (q := 190) X382 hx (hb hby at_183) (Jvm.Free.XT.ii_lt_t hc183_387) (by decide) (by decide) ?_
            refine ow_iload (q := 192) X382 hx (hb hby at_190) rfl rfl ?_
            refine ow_ifYes (q := 218) X382 hx (hb hby at_192) (Jvm.Free.XT.i0_eq_t hc136_381) (by decide) (by decide) ?_
            exact cut218_386 (-1 : Int32) _ _ X382 e382 N382 (by simp [own_best, hc124_358, hc136_381, hc183_387])
          · refine ow_icmpNo (q := 186) X382 hx (hb hby at_183) rfl (Jvm.Free.XT.ii_lt_f hc183_387) ?_
            refine ow_iload (q := 188) X382 hx (hb hby at_186) rfl rfl ?_
            refine ow_istore (q := 190) X382 hx (L' := #[iv p0, iv p1, iv p2, iv p3, iv p4, iv (6 : Int32), iv v344, iv v345, iv v346, iv ma, iv mb, iv sm, iv fr, rv b348, iv v383, iv v384, iv v385, iv v384]) (hb hby at_188) rfl rfl ?_
            refine ow_iload (q := 192) X382 hx (hb hby at_190) rfl rfl ?_
            refine ow_ifYes (q := 218) X382 hx (hb hby at_192) (Jvm.Free.XT.i0_eq_t hc136_381) (by decide) (by decide) ?_
            exact cut218_386 v384 _ _ X382 e382 N382 (by simp [own_best, hc124_358, hc136_381, hc183_387])
        · refine ow_ifNo (q := 139) X376 hx (hb hby at_136) rfl (Jvm.Free.XT.i0_eq_f hc136_381) ?_
          refine ow_aload (q := 141) X376 hx (hb hby at_139) rfl rfl rfl ?_
          refine ow_iload (q := 143) X376 hx (hb hby at_141) rfl rfl ?_
          obtain ⟨cq388, kq388, q388a, q388b, q388c⟩ := isOf hZ rfl F378
          obtain ⟨_, _, ⟨T388, L388, k388, n388⟩, -, X388, ⟨Lc388, hQ388, l388, y388, z388⟩, st388⟩ := X376.virtualBack hx (y := (⟨"com/example/swarm_tally/swarmtally/ChunkMarks", "mark", "(I)V"⟩ : MethodName)) (z := (⟨"com/example/swarm_tally/swarmtally/ChunkMarks", "mark", "(I)V"⟩ : MethodName)) hown (mvT hZ (hw _ (List.mem_of_getElem? (i := 37) rfl))) (mvT hZ (hw _ (List.mem_of_getElem? (i := 38) rfl))) (notFace_of_selects (args := #[]) (mvT hZ (hw _ (List.mem_of_getElem? (i := 40) rfl)))) (mvT hZ (hw _ (List.mem_of_getElem? (i := 40) rfl))) (mvT hZ (hw _ (List.mem_of_getElem? (i := 39) rfl))) (by decide) (backOf (W := 0) (rm_mark_6 l Z av0 hw [] b348 v346 ar2_354 (ownUpd (fun _ => (0 : Int32)) (own_ix v345) (1 : Int32)) T376.heap n0 (Nat.le_trans Z0 K376.1) F380 FP376_0 F377 G_ar2_354 (own_in (own_a (n := 6) hv_v346 hv_v344)) ne_b348_ar2_354) hZ (hw _ (List.mem_of_getElem? (i := 41) rfl)) (hw _ (List.mem_of_getElem? (i := 3) rfl)) (by decide) (by decide)) q388a q388c (g := (mkF m 143 #[iv p0, iv p1, iv p2, iv p3, iv p4, iv (6 : Int32), iv v344, iv v345, iv v346, iv ma, iv mb, iv sm, iv fr, rv b348, .unset, .unset, .unset, .unset] [(.int v346), (.ref b348)])) rfl (by rw [hml]; rfl) (Steps.refl _) (argsL := [(.int v346)]) (rest := []) (lenOf own_pd3 rfl) rfl (by show 2 * 0 + _ ≤ _; exact Nat.le_of_eq rfl) (hb hby at_143) (fun _ _ => ⟨rfl, rfl, (by decide : 3 + 0 ≤ _), (by decide : 8 + 0 ≤ _)⟩)
          dsimp only [Pt.U, Pt.locs, Pt.cells, Pt.slots] at X388 l388 y388 z388 st388 hQ388
          subst l388 y388 z388
          obtain ⟨rfl, N388q, Kq388, FP388_0⟩ := hQ388
          have N388 := Fr.app N376 N388q
          have K388 : Keep h0 T388.heap [] := K376.trans Kq388 (allS (Or.inr sz_ar2_354) all0)
          have F389 : Sta Z T388.heap "com/example/swarm_tally/swarmtally/ChunkMarks" "CHUNK_SHIFT" "I" (.int (10 : Int32)) := ownStaKeep F377 Kq388 (allS (ownNstI FP376_0) all0)
          have F390 : Exa Z T388.heap b348 "com/example/swarm_tally/swarmtally/ChunkMarks" := F378.keep Kq388
          have F391 : ownAI Z T388.heap ar_351 .boolean 1 (fun _ => (0 : Int32)) := F379.keep Kq388 (ninS ne_ar_351_ar2_354 nin0)
          have F392 : Fld Z T388.heap b348 "com/example/swarm_tally/swarmtally/ChunkMarks" "changed" "[Z" (.ref ar2_354) := F380.keep Kq388 (ninS ne_b348_ar2_354 nin0)
          refine ownRun (T' := T388) (f' := (mkF m 146 #[iv p0, iv p1, iv p2, iv p3, iv p4, iv (6 : Int32), iv v344, iv v345, iv v346, iv ma, iv mb, iv sm, iv fr, rv b348, .unset, .unset, .unset, .unset] [])) st388 ?_
          refine ow_aload (q := 148) X388 hx (hb hby at_146) rfl rfl rfl ?_
          refine ow_iload (q := 150) X388 hx (hb hby at_148) rfl rfl ?_
          obtain ⟨cq393, kq393, q393a, q393b, q393c⟩ := isOf hZ rfl F390
          obtain ⟨_, _, ⟨T393, L393, k393, n393⟩, -, X393, ⟨Lc393, hQ393, l393, y393, z393⟩, st393⟩ := X388.virtualBack hx (y := (⟨"com/example/swarm_tally/swarmtally/ChunkMarks", "next", "(I)I"⟩ : MethodName)) (z := (⟨"com/example/swarm_tally/swarmtally/ChunkMarks", "next", "(I)I"⟩ : MethodName)) hown (mvT hZ (hw _ (List.mem_of_getElem? (i := 20) rfl))) (mvT hZ (hw _ (List.mem_of_getElem? (i := 21) rfl))) (notFace_of_selects (args := #[]) (mvT hZ (hw _ (List.mem_of_getElem? (i := 23) rfl)))) (mvT hZ (hw _ (List.mem_of_getElem? (i := 23) rfl))) (mvT hZ (hw _ (List.mem_of_getElem? (i := 22) rfl))) (by decide) (backOf (W := 0) (rm_next_6 l Z av0 hw [] b348 fr ar2_354 (ownUpd (ownUpd (fun _ => (0 : Int32)) (own_ix v345) (1 : Int32)) (own_ix v346) (1 : Int32)) T388.heap n0 (Nat.le_trans Z0 K388.1) F392 FP388_0 hfr) hZ (hw _ (List.mem_of_getElem? (i := 24) rfl)) (hw _ (List.mem_of_getElem? (i := 3) rfl)) (by decide) (by decide)) q393a q393c (g := (mkF m 150 #[iv p0, iv p1, iv p2, iv p3, iv p4, iv (6 : Int32), iv v344, iv v345, iv v346, iv ma, iv mb, iv sm, iv fr, rv b348, .unset, .unset, .unset, .unset] [(.int fr), (.ref b348)])) rfl (by rw [hml]; rfl) (Steps.refl _) (argsL := [(.int fr)]) (rest := []) (lenOf own_pd4 rfl) rfl (by show 2 * 0 + _ ≤ _; exact Nat.le_of_eq rfl) (hb hby at_150) (fun _ _ => ⟨rfl, rfl, (by decide : 3 + 0 ≤ _), (by decide : 8 + 0 ≤ _)⟩)
          dsimp only [Pt.U, Pt.locs, Pt.cells, Pt.slots] at X393 l393 y393 z393 st393 hQ393
          subst l393 y393 z393
          obtain ⟨rfl, N393q, e393⟩ := hQ393
          have N393 := Fr.app N388 N393q
          refine ownRun (T' := T393) (f' := (mkF m 153 #[iv p0, iv p1, iv p2, iv p3, iv p4, iv (6 : Int32), iv v344, iv v345, iv v346, iv ma, iv mb, iv sm, iv fr, rv b348, .unset, .unset, .unset, .unset] [(.int (own_next (ownUpd (ownUpd (fun _ => (0 : Int32)) (own_ix v345) (1 : Int32)) (own_ix v346) (1 : Int32)) 6 fr))])) st393 ?_
          generalize hv_v394 : (own_next (ownUpd (ownUpd (fun _ => (0 : Int32)) (own_ix v345) (1 : Int32)) (own_ix v346) (1 : Int32)) 6 fr) = v394
          refine ow_istore (q := 155) X393 hx (L' := #[iv p0, iv p1, iv p2, iv p3, iv p4, iv (6 : Int32), iv v344, iv v345, iv v346, iv ma, iv mb, iv sm, iv fr, rv b348, iv v394, .unset, .unset, .unset]) (hb hby at_153) rfl rfl ?_
          refine ow_iload (q := 157) X393 hx (hb hby at_155) rfl rfl ?_
          refine ow_sipush (q := 160) X393 hx (1024 : Int32) (hb hby at_157) rfl rfl ?_
          refine ow_idiv (q := 161) X393 hx _ (hb hby at_160) rfl (by decide) rfl ?_
          generalize hv_v395 : (v345 / (1024 : Int32)) = v395
          refine ow_istore (q := 163) X393 hx (L' := #[iv p0, iv p1, iv p2, iv p3, iv p4, iv (6 : Int32), iv v344, iv v345, iv v346, iv ma, iv mb, iv sm, iv fr, rv b348, iv v394, iv v395, .unset, .unset]) (hb hby at_161) rfl rfl ?_
          refine ow_iload (q := 165) X393 hx (hb hby at_163) rfl rfl ?_
          refine ow_sipush (q := 168) X393 hx (1024 : Int32) (hb hby at_165) rfl rfl ?_
          refine ow_idiv (q := 169) X393 hx _ (hb hby at_168) rfl (by decide) rfl ?_
          generalize hv_v396 : (v346 / (1024 : Int32)) = v396
          refine ow_istore (q := 171) X393 hx (L' := #[iv p0, iv p1, iv p2, iv p3, iv p4, iv (6 : Int32), iv v344, iv v345, iv v346, iv ma, iv mb, iv sm, iv fr, rv b348, iv v394, iv v395, iv v396, .unset]) (hb hby at_169) rfl rfl ?_
          refine ow_iconst (q := 172) X393 hx (-1 : Int32) (hb hby at_171) rfl rfl ?_
          refine ow_istore (q := 174) X393 hx (L' := #[iv p0, iv p1, iv p2, iv p3, iv p4, iv (6 : Int32), iv v344, iv v345, iv v346, iv ma, iv mb, iv sm, iv fr, rv b348, iv v394, iv v395, iv v396, iv (-1 : Int32)]) (hb hby at_172) rfl rfl ?_
          have cut218_397 : ∀ (be : Int32) (Tc397 : State) (lc397 : List Loc), Stand p l e room_1 s m #[(.int p0), (.int p1), (.int p2), (.int p3), (.int p4)] below meth c Tc397 lc397 3 8 → Tc397.heap = T388.heap → Fr n0 lc397 → (be = own_best ma mb v395 v396 fr) → ownEnds p e below s (Q_law Z p0 p1 p2 p3 p4 h0 n0) 16 128 Tc397 (mkF m 218 #[iv p0, iv p1, iv p2, iv p3, iv p4, iv (6 : Int32), iv v344, iv v345, iv v346, iv ma, iv mb, iv sm, iv fr, rv b348, iv v394, iv v395, iv v396, iv be] []) := by
            intro be Tc397 lc397 Xc397 ec397 Nc397 hbe
            refine ow_iload (q := 220) Xc397 hx (hb hby at_218) rfl rfl ?_
            refine ow_iload (q := 222) Xc397 hx (hb hby at_220) rfl rfl ?_
            refine ow_icmpNo (q := 225) Xc397 hx (hb hby at_222) rfl (Jvm.Free.XT.ii_ne_f (by rw [hbe, ← hv_v394]; exact own_final (own_g11 hc124_358 hc136_381) (own_ca (own_a (n := 6) hv_v345 hv_v344) hv_v395) (own_ca (own_a (n := 6) hv_v346 hv_v344) hv_v396) (own_il (own_a (n := 6) hv_v345 hv_v344)) (own_il (own_a (n := 6) hv_v346 hv_v344)) hfr)) ?_
            refine ow_iconst (q := 226) Xc397 hx (1 : Int32) (hb hby at_225) rfl rfl ?_
            refine ow_goto (q := 230) Xc397 hx (hb hby at_226) (by decide) (by decide) ?_
            refine ownRetN Xc397 hx (r := (1 : Int32)) (Or.inl rfl) Bd.returns (hb hby at_230) hlk (by decide) (by decide) (by decide) ?_
            exact ⟨rfl, Nc397⟩
          refine ow_iload (q := 176) X393 hx (hb hby at_174) rfl rfl ?_
          refine ow_ifNo (q := 179) X393 hx (hb hby at_176) rfl (Jvm.Free.XT.i0_eq_f hc124_358) ?_
          refine ow_iload (q := 181) X393 hx (hb hby at_179) rfl rfl ?_
          refine ow_iload (q := 183) X393 hx (hb hby at_181) rfl rfl ?_
          by_cases hc183_398 : v395 < fr
          · refine ow_icmpYes (q := 190) X393 hx (hb hby at_183) (Jvm.Free.XT.ii_lt_t hc183_398) (by decide) (by decide) ?_
            refine ow_iload (q := 192) X393 hx (hb hby at_190) rfl rfl ?_
            refine ow_ifNo (q := 195) X393 hx (hb hby at_192) rfl (Jvm.Free.XT.i0_eq_f hc136_381) ?_
            refine ow_iload (q := 197) X393 hx (hb hby at_195) rfl rfl ?_
            refine ow_iload (q := 199) X393 hx (hb hby at_197) rfl rfl ?_
            by_cases hc199_399 : v396 < fr
            · refine ow_icmpYes (q := 218) X393 hx (hb hby at_199) (Jvm.Free.XT.ii_lt_t hc199_399) (by decide) (by decide) ?_
              exact cut218_397 (-1 : Int32) _ _ X393 e393 N393 (by simp [own_best, hc124_358, hc136_381, hc183_398, hc199_399])
            · refine ow_icmpNo (q := 202) X393 hx (hb hby at_199) rfl (Jvm.Free.XT.ii_lt_f hc199_399) ?_
              refine ow_iload (q := 204) X393 hx (hb hby at_202) rfl rfl ?_
              refine ow_ifYes (q := 214) X393 hx (hb hby at_204) (Jvm.Free.XT.i0_lt_t (by decide)) (by decide) (by decide) ?_
              refine ow_iload (q := 216) X393 hx (hb hby at_214) rfl rfl ?_
              refine ow_istore (q := 218) X393 hx (L' := #[iv p0, iv p1, iv p2, iv p3, iv p4, iv (6 : Int32), iv v344, iv v345, iv v346, iv ma, iv mb, iv sm, iv fr, rv b348, iv v394, iv v395, iv v396, iv v396]) (hb hby at_216) rfl rfl ?_
              exact cut218_397 v396 _ _ X393 e393 N393 (by simp [own_best, hc124_358, hc136_381, hc183_398, hc199_399])
          · refine ow_icmpNo (q := 186) X393 hx (hb hby at_183) rfl (Jvm.Free.XT.ii_lt_f hc183_398) ?_
            refine ow_iload (q := 188) X393 hx (hb hby at_186) rfl rfl ?_
            refine ow_istore (q := 190) X393 hx (L' := #[iv p0, iv p1, iv p2, iv p3, iv p4, iv (6 : Int32), iv v344, iv v345, iv v346, iv ma, iv mb, iv sm, iv fr, rv b348, iv v394, iv v395, iv v396, iv v395]) (hb hby at_188) rfl rfl ?_
            refine ow_iload (q := 192) X393 hx (hb hby at_190) rfl rfl ?_
            refine ow_ifNo (q := 195) X393 hx (hb hby at_192) rfl (Jvm.Free.XT.i0_eq_f hc136_381) ?_
            refine ow_iload (q := 197) X393 hx (hb hby at_195) rfl rfl ?_
            refine ow_iload (q := 199) X393 hx (hb hby at_197) rfl rfl ?_
            by_cases hc199_400 : v396 < fr
            · refine ow_icmpYes (q := 218) X393 hx (hb hby at_199) (Jvm.Free.XT.ii_lt_t hc199_400) (by decide) (by decide) ?_
              exact cut218_397 v395 _ _ X393 e393 N393 (by simp [own_best, hc124_358, hc136_381, hc183_398, hc199_400])
            · refine ow_icmpNo (q := 202) X393 hx (hb hby at_199) rfl (Jvm.Free.XT.ii_lt_f hc199_400) ?_
              refine ow_iload (q := 204) X393 hx (hb hby at_202) rfl rfl ?_
              by_cases hc204_401 : v395 < (0 : Int32)
              · refine ow_ifYes (q := 214) X393 hx (hb hby at_204) (Jvm.Free.XT.i0_lt_t hc204_401) (by decide) (by decide) ?_
                refine ow_iload (q := 216) X393 hx (hb hby at_214) rfl rfl ?_
                refine ow_istore (q := 218) X393 hx (L' := #[iv p0, iv p1, iv p2, iv p3, iv p4, iv (6 : Int32), iv v344, iv v345, iv v346, iv ma, iv mb, iv sm, iv fr, rv b348, iv v394, iv v395, iv v396, iv v396]) (hb hby at_216) rfl rfl ?_
                exact cut218_397 v396 _ _ X393 e393 N393 (by simp [own_best, hc124_358, hc136_381, hc183_398, hc199_400, hc204_401])
              · refine ow_ifNo (q := 207) X393 hx (hb hby at_204) rfl (Jvm.Free.XT.i0_lt_f hc204_401) ?_
                refine ow_iload (q := 209) X393 hx (hb hby at_207) rfl rfl ?_
                refine ow_iload (q := 211) X393 hx (hb hby at_209) rfl rfl ?_
                by_cases hc211_402 : v396 < v395
                · refine ow_icmpNo (q := 214) X393 hx (hb hby at_211) rfl (Jvm.Free.XT.ii_ge_f hc211_402) ?_
                  refine ow_iload (q := 216) X393 hx (hb hby at_214) rfl rfl ?_
                  refine ow_istore (q := 218) X393 hx (L' := #[iv p0, iv p1, iv p2, iv p3, iv p4, iv (6 : Int32), iv v344, iv v345, iv v346, iv ma, iv mb, iv sm, iv fr, rv b348, iv v394, iv v395, iv v396, iv v396]) (hb hby at_216) rfl rfl ?_
                  exact cut218_397 v396 _ _ X393 e393 N393 (by simp [own_best, hc124_358, hc136_381, hc183_398, hc199_400, hc204_401, hc211_402])
                · refine ow_icmpYes (q := 218) X393 hx (hb hby at_211) (Jvm.Free.XT.ii_ge_t hc211_402) (by decide) (by decide) ?_
                  exact cut218_397 v395 _ _ X393 e393 N393 (by simp [own_best, hc124_358, hc136_381, hc183_398, hc199_400, hc204_401, hc211_402])
    have cut88_403 : ∀ (ma : Int32) (mb : Int32) (sm : Int32) (Tc403 : State) (lc403 : List Loc), Stand p l e room_1 s m #[(.int p0), (.int p1), (.int p2), (.int p3), (.int p4)] below meth c Tc403 lc403 0 0 → Tc403.heap = h0 → Fr n0 lc403 → ownEnds p e below s (Q_law Z p0 p1 p2 p3 p4 h0 n0) 16 128 Tc403 (mkF m 88 #[iv p0, iv p1, iv p2, iv p3, iv p4, iv (6 : Int32), iv v344, iv v345, iv v346, iv ma, iv mb, iv sm, .unset, .unset, .unset, .unset, .unset, .unset] []) := by
      intro ma mb sm Tc403 lc403 Xc403 ec403 Nc403
      refine ow_iload (q := 90) Xc403 hx (hb hby at_88) rfl rfl ?_
      by_cases hc90_404 : sm = (0 : Int32)
      · refine ow_ifYes (q := 100) Xc403 hx (hb hby at_90) (Jvm.Free.XT.i0_eq_t hc90_404) (by decide) (by decide) ?_
        refine ow_iloadN (q := 101) Xc403 hx (hb hby at_100) rfl rfl ?_
        refine ownGo (T' := Tc403) (f' := (mkF m 103 #[iv p0, iv p1, iv p2, iv p3, iv p4, iv (6 : Int32), iv v344, iv v345, iv v346, iv ma, iv mb, iv sm, .unset, .unset, .unset, .unset, .unset, .unset] [(.int (2147483647 : Int32)), (.int p3)])) (Xc403.ldcInt hx hown (mvT hZ (hw _ (List.mem_of_getElem? (i := 0) rfl))) (g := (mkF m 101 #[iv p0, iv p1, iv p2, iv p3, iv p4, iv (6 : Int32), iv v344, iv v345, iv v346, iv ma, iv mb, iv sm, .unset, .unset, .unset, .unset, .unset, .unset] [(.int p3)])) rfl (hb hby at_101)) ?_
        refine ow_iand (q := 104) Xc403 hx _ (hb hby at_103) rfl rfl ?_
        generalize hv_v405 : (p3 &&& (2147483647 : Int32)) = v405
        refine ow_istore (q := 106) Xc403 hx (L' := #[iv p0, iv p1, iv p2, iv p3, iv p4, iv (6 : Int32), iv v344, iv v345, iv v346, iv ma, iv mb, iv sm, iv v405, .unset, .unset, .unset, .unset, .unset]) (hb hby at_104) rfl rfl ?_
        exact cut106_347 ma mb sm v405 _ _ Xc403 ec403 Nc403 (own_frM hv_v405)
      · refine ow_ifNo (q := 93) Xc403 hx (hb hby at_90) rfl (Jvm.Free.XT.i0_eq_f hc90_404) ?_
        refine ow_iloadN (q := 94) Xc403 hx (hb hby at_93) rfl rfl ?_
        refine ow_bipush (q := 96) Xc403 hx (15 : Int32) (hb hby at_94) rfl rfl ?_
        refine ow_iand (q := 97) Xc403 hx _ (hb hby at_96) rfl rfl ?_
        refine ow_goto (q := 104) Xc403 hx (hb hby at_97) (by decide) (by decide) ?_
        generalize hv_v406 : (p3 &&& (15 : Int32)) = v406
        refine ow_istore (q := 106) Xc403 hx (L' := #[iv p0, iv p1, iv p2, iv p3, iv p4, iv (6 : Int32), iv v344, iv v345, iv v346, iv ma, iv mb, iv sm, iv v406, .unset, .unset, .unset, .unset, .unset]) (hb hby at_104) rfl rfl ?_
        exact cut106_347 ma mb sm v406 _ _ Xc403 ec403 Nc403 (own_fr15 hv_v406)
    have cut74_407 : ∀ (ma : Int32) (mb : Int32) (Tc407 : State) (lc407 : List Loc), Stand p l e room_1 s m #[(.int p0), (.int p1), (.int p2), (.int p3), (.int p4)] below meth c Tc407 lc407 0 0 → Tc407.heap = h0 → Fr n0 lc407 → ownEnds p e below s (Q_law Z p0 p1 p2 p3 p4 h0 n0) 16 128 Tc407 (mkF m 74 #[iv p0, iv p1, iv p2, iv p3, iv p4, iv (6 : Int32), iv v344, iv v345, iv v346, iv ma, iv mb, .unset, .unset, .unset, .unset, .unset, .unset, .unset] []) := by
      intro ma mb Tc407 lc407 Xc407 ec407 Nc407
      refine ow_iload (q := 76) Xc407 hx (hb hby at_74) rfl rfl ?_
      refine ow_iconst (q := 77) Xc407 hx (4 : Int32) (hb hby at_76) rfl rfl ?_
      refine ow_iand (q := 78) Xc407 hx _ (hb hby at_77) rfl rfl ?_
      by_cases hc78_408 : (p4 &&& (4 : Int32)) = (0 : Int32)
      · refine ow_ifYes (q := 85) Xc407 hx (hb hby at_78) (Jvm.Free.XT.i0_eq_t hc78_408) (by decide) (by decide) ?_
        refine ow_iconst (q := 86) Xc407 hx (0 : Int32) (hb hby at_85) rfl rfl ?_
        refine ow_istore (q := 88) Xc407 hx (L' := #[iv p0, iv p1, iv p2, iv p3, iv p4, iv (6 : Int32), iv v344, iv v345, iv v346, iv ma, iv mb, iv (0 : Int32), .unset, .unset, .unset, .unset, .unset, .unset]) (hb hby at_86) rfl rfl ?_
        exact cut88_403 ma mb (0 : Int32) _ _ Xc407 ec407 Nc407 
      · refine ow_ifNo (q := 81) Xc407 hx (hb hby at_78) rfl (Jvm.Free.XT.i0_eq_f hc78_408) ?_
        refine ow_iconst (q := 82) Xc407 hx (1 : Int32) (hb hby at_81) rfl rfl ?_
        refine ow_goto (q := 86) Xc407 hx (hb hby at_82) (by decide) (by decide) ?_
        refine ow_istore (q := 88) Xc407 hx (L' := #[iv p0, iv p1, iv p2, iv p3, iv p4, iv (6 : Int32), iv v344, iv v345, iv v346, iv ma, iv mb, iv (1 : Int32), .unset, .unset, .unset, .unset, .unset, .unset]) (hb hby at_86) rfl rfl ?_
        exact cut88_403 ma mb (1 : Int32) _ _ Xc407 ec407 Nc407 
    have cut60_409 : ∀ (ma : Int32) (Tc409 : State) (lc409 : List Loc), Stand p l e room_1 s m #[(.int p0), (.int p1), (.int p2), (.int p3), (.int p4)] below meth c Tc409 lc409 0 0 → Tc409.heap = h0 → Fr n0 lc409 → ownEnds p e below s (Q_law Z p0 p1 p2 p3 p4 h0 n0) 16 128 Tc409 (mkF m 60 #[iv p0, iv p1, iv p2, iv p3, iv p4, iv (6 : Int32), iv v344, iv v345, iv v346, iv ma, .unset, .unset, .unset, .unset, .unset, .unset, .unset, .unset] []) := by
      intro ma Tc409 lc409 Xc409 ec409 Nc409
      refine ow_iload (q := 62) Xc409 hx (hb hby at_60) rfl rfl ?_
      refine ow_iconst (q := 63) Xc409 hx (2 : Int32) (hb hby at_62) rfl rfl ?_
      refine ow_iand (q := 64) Xc409 hx _ (hb hby at_63) rfl rfl ?_
      by_cases hc64_410 : (p4 &&& (2 : Int32)) = (0 : Int32)
      · refine ow_ifYes (q := 71) Xc409 hx (hb hby at_64) (Jvm.Free.XT.i0_eq_t hc64_410) (by decide) (by decide) ?_
        refine ow_iconst (q := 72) Xc409 hx (0 : Int32) (hb hby at_71) rfl rfl ?_
        refine ow_istore (q := 74) Xc409 hx (L' := #[iv p0, iv p1, iv p2, iv p3, iv p4, iv (6 : Int32), iv v344, iv v345, iv v346, iv ma, iv (0 : Int32), .unset, .unset, .unset, .unset, .unset, .unset, .unset]) (hb hby at_72) rfl rfl ?_
        exact cut74_407 ma (0 : Int32) _ _ Xc409 ec409 Nc409 
      · refine ow_ifNo (q := 67) Xc409 hx (hb hby at_64) rfl (Jvm.Free.XT.i0_eq_f hc64_410) ?_
        refine ow_iconst (q := 68) Xc409 hx (1 : Int32) (hb hby at_67) rfl rfl ?_
        refine ow_goto (q := 72) Xc409 hx (hb hby at_68) (by decide) (by decide) ?_
        refine ow_istore (q := 74) Xc409 hx (L' := #[iv p0, iv p1, iv p2, iv p3, iv p4, iv (6 : Int32), iv v344, iv v345, iv v346, iv ma, iv (1 : Int32), .unset, .unset, .unset, .unset, .unset, .unset, .unset]) (hb hby at_72) rfl rfl ?_
        exact cut74_407 ma (1 : Int32) _ _ Xc409 ec409 Nc409 
    refine ow_iload (q := 48) X0 hx (hb hby at_46) rfl rfl ?_
    refine ow_iconst (q := 49) X0 hx (1 : Int32) (hb hby at_48) rfl rfl ?_
    refine ow_iand (q := 50) X0 hx _ (hb hby at_49) rfl rfl ?_
    by_cases hc50_411 : (p4 &&& (1 : Int32)) = (0 : Int32)
    · refine ow_ifYes (q := 57) X0 hx (hb hby at_50) (Jvm.Free.XT.i0_eq_t hc50_411) (by decide) (by decide) ?_
      refine ow_iconst (q := 58) X0 hx (0 : Int32) (hb hby at_57) rfl rfl ?_
      refine ow_istore (q := 60) X0 hx (L' := #[iv p0, iv p1, iv p2, iv p3, iv p4, iv (6 : Int32), iv v344, iv v345, iv v346, iv (0 : Int32), .unset, .unset, .unset, .unset, .unset, .unset, .unset, .unset]) (hb hby at_58) rfl rfl ?_
      exact cut60_409 (0 : Int32) _ _ X0 e0 N0 
    · refine ow_ifNo (q := 53) X0 hx (hb hby at_50) rfl (Jvm.Free.XT.i0_eq_f hc50_411) ?_
      refine ow_iconst (q := 54) X0 hx (1 : Int32) (hb hby at_53) rfl rfl ?_
      refine ow_goto (q := 58) X0 hx (hb hby at_54) (by decide) (by decide) ?_
      refine ow_istore (q := 60) X0 hx (L' := #[iv p0, iv p1, iv p2, iv p3, iv p4, iv (6 : Int32), iv v344, iv v345, iv v346, iv (1 : Int32), .unset, .unset, .unset, .unset, .unset, .unset, .unset, .unset]) (hb hby at_58) rfl rfl ?_
      exact cut60_409 (1 : Int32) _ _ X0 e0 N0 
  · subst hs8
    refine ow_iload (q := 10) X0 hx (hb hby at_8) rfl rfl ?_
    refine ow_iconst (q := 11) X0 hx (1 : Int32) (hb hby at_10) rfl rfl ?_
    refine ow_isub (q := 12) X0 hx (6 : Int32) (hb hby at_11) rfl (by decide) ?_
    refine ow_sipush (q := 15) X0 hx (1024 : Int32) (hb hby at_12) rfl rfl ?_
    refine ow_imul (q := 16) X0 hx (6144 : Int32) (hb hby at_15) rfl (by decide) ?_
    refine ow_iconst (q := 17) X0 hx (1 : Int32) (hb hby at_16) rfl rfl ?_
    refine ow_iadd (q := 18) X0 hx (6145 : Int32) (hb hby at_17) rfl (by decide) ?_
    refine ow_iloadN (q := 19) X0 hx (hb hby at_18) rfl rfl ?_
    refine ow_iconst (q := 20) X0 hx (3 : Int32) (hb hby at_19) rfl rfl ?_
    refine ow_iushr (q := 21) X0 hx _ (hb hby at_20) rfl rfl ?_
    refine ow_sipush (q := 24) X0 hx (1023 : Int32) (hb hby at_21) rfl rfl ?_
    refine ow_iand (q := 25) X0 hx _ (hb hby at_24) rfl rfl ?_
    refine ow_iadd (q := 26) X0 hx _ (hb hby at_25) rfl rfl ?_
    generalize hv_v412 : ((6145 : Int32) + (((p0.toUInt32 >>> ((3 : Int32) &&& 31).toUInt32).toInt32) &&& (1023 : Int32))) = v412
    refine ow_istore (q := 28) X0 hx (L' := #[iv p0, iv p1, iv p2, iv p3, iv p4, iv (7 : Int32), iv v412, .unset, .unset, .unset, .unset, .unset, .unset, .unset, .unset, .unset, .unset, .unset]) (hb hby at_26) rfl rfl ?_
    refine ow_iloadN (q := 29) X0 hx (hb hby at_28) rfl rfl ?_
    refine ownGo (T' := s₁) (f' := (mkF m 31 #[iv p0, iv p1, iv p2, iv p3, iv p4, iv (7 : Int32), iv v412, .unset, .unset, .unset, .unset, .unset, .unset, .unset, .unset, .unset, .unset, .unset] [(.int (2147483647 : Int32)), (.int p1)])) (X0.ldcInt hx hown (mvT hZ (hw _ (List.mem_of_getElem? (i := 0) rfl))) (g := (mkF m 29 #[iv p0, iv p1, iv p2, iv p3, iv p4, iv (7 : Int32), iv v412, .unset, .unset, .unset, .unset, .unset, .unset, .unset, .unset, .unset, .unset, .unset] [(.int p1)])) rfl (hb hby at_29)) ?_
    refine ow_iand (q := 32) X0 hx _ (hb hby at_31) rfl rfl ?_
    refine ow_iload (q := 34) X0 hx (hb hby at_32) rfl rfl ?_
    refine ow_irem (q := 35) X0 hx _ (hb hby at_34) rfl (own_nzc hv_v412) rfl ?_
    generalize hv_v413 : ((p1 &&& (2147483647 : Int32)) % v412) = v413
    refine ow_istore (q := 37) X0 hx (L' := #[iv p0, iv p1, iv p2, iv p3, iv p4, iv (7 : Int32), iv v412, iv v413, .unset, .unset, .unset, .unset, .unset, .unset, .unset, .unset, .unset, .unset]) (hb hby at_35) rfl rfl ?_
    refine ow_iloadN (q := 38) X0 hx (hb hby at_37) rfl rfl ?_
    refine ownGo (T' := s₁) (f' := (mkF m 40 #[iv p0, iv p1, iv p2, iv p3, iv p4, iv (7 : Int32), iv v412, iv v413, .unset, .unset, .unset, .unset, .unset, .unset, .unset, .unset, .unset, .unset] [(.int (2147483647 : Int32)), (.int p2)])) (X0.ldcInt hx hown (mvT hZ (hw _ (List.mem_of_getElem? (i := 0) rfl))) (g := (mkF m 38 #[iv p0, iv p1, iv p2, iv p3, iv p4, iv (7 : Int32), iv v412, iv v413, .unset, .unset, .unset, .unset, .unset, .unset, .unset, .unset, .unset, .unset] [(.int p2)])) rfl (hb hby at_38)) ?_
    refine ow_iand (q := 41) X0 hx _ (hb hby at_40) rfl rfl ?_
    refine ow_iload (q := 43) X0 hx (hb hby at_41) rfl rfl ?_
    refine ow_irem (q := 44) X0 hx _ (hb hby at_43) rfl (own_nzc hv_v412) rfl ?_
    generalize hv_v414 : ((p2 &&& (2147483647 : Int32)) % v412) = v414
    refine ow_istore (q := 46) X0 hx (L' := #[iv p0, iv p1, iv p2, iv p3, iv p4, iv (7 : Int32), iv v412, iv v413, iv v414, .unset, .unset, .unset, .unset, .unset, .unset, .unset, .unset, .unset]) (hb hby at_44) rfl rfl ?_
    have cut106_415 : ∀ (ma : Int32) (mb : Int32) (sm : Int32) (fr : Int32) (Tc415 : State) (lc415 : List Loc), Stand p l e room_1 s m #[(.int p0), (.int p1), (.int p2), (.int p3), (.int p4)] below meth c Tc415 lc415 0 0 → Tc415.heap = h0 → Fr n0 lc415 → (0 ≤ fr.toInt) → ownEnds p e below s (Q_law Z p0 p1 p2 p3 p4 h0 n0) 16 128 Tc415 (mkF m 106 #[iv p0, iv p1, iv p2, iv p3, iv p4, iv (7 : Int32), iv v412, iv v413, iv v414, iv ma, iv mb, iv sm, iv fr, .unset, .unset, .unset, .unset, .unset] []) := by
      intro ma mb sm fr Tc415 lc415 Xc415 ec415 Nc415 hfr
      obtain ⟨T416, h416, X416, e416, E416, A416, D416, -, st416⟩ := newO Xc415 hx hZ hown (hw _ (List.mem_of_getElem? (i := 1) rfl)) (hw _ (List.mem_of_getElem? (i := 2) rfl)) (hw _ (List.mem_of_getElem? (i := 3) rfl)) ec415 (g := (mkF m 106 #[iv p0, iv p1, iv p2, iv p3, iv p4, iv (7 : Int32), iv v412, iv v413, iv v414, iv ma, iv mb, iv sm, iv fr, .unset, .unset, .unset, .unset, .unset] [])) rfl (hb hby at_106) (by decide) (by decide)
      obtain ⟨b416, g416⟩ : ∃ z, z = h0.size := ⟨_, rfl⟩
      rw [← g416] at A416 D416 st416
      have sz_b416 : h0.size ≤ b416 := Nat.le_trans K0.1 (Nat.le_of_eq g416.symm)
      have G_b416 : n0 ≤ b416 := Nat.le_trans Z0 sz_b416
      have K416 : Keep h0 h416 [] := K0.ext E416
      have F417 : Sta Z h416 "com/example/swarm_tally/swarmtally/ChunkMarks" "CHUNK_SHIFT" "I" (.int (10 : Int32)) := HF0.ext E416
      have F418 : Fld Z h416 b416 "com/example/swarm_tally/swarmtally/ChunkMarks" "changed" "[Z" .null := D416 (Or.inl (hw _ (List.mem_of_getElem? (i := 12) rfl))) (ty := (.array .boolean)) (by decide)
      refine ownGo (T' := T416) (f' := (mkF m 109 #[iv p0, iv p1, iv p2, iv p3, iv p4, iv (7 : Int32), iv v412, iv v413, iv v414, iv ma, iv mb, iv sm, iv fr, .unset, .unset, .unset, .unset, .unset] [(.ref b416)])) (st416) ?_
      refine ow_dup (q := 110) X416 hx (hb hby at_109) rfl rfl ?_
      obtain ⟨_, _, ⟨T419, L419, k419, n419⟩, -, X419, ⟨Lc419, hQ419, l419, y419, z419⟩, st419⟩ := X416.specialBack hx (y := (⟨"com/example/swarm_tally/swarmtally/ChunkMarks", "<init>", "()V"⟩ : MethodName)) rfl hown (mvT hZ (hw _ (List.mem_of_getElem? (i := 4) rfl))) (mvT hZ (hw _ (List.mem_of_getElem? (i := 5) rfl))) (mvT hZ (hw _ (List.mem_of_getElem? (i := 6) rfl))) (by decide) (backOf (W := 1) (rm_init l Z av0 hw [] b416 h416 n0 (Nat.le_trans Z0 K416.1) A416 F418 G_b416) hZ (hw _ (List.mem_of_getElem? (i := 6) rfl)) (hw _ (List.mem_of_getElem? (i := 3) rfl)) (by decide) (by decide)) (g := (mkF m 110 #[iv p0, iv p1, iv p2, iv p3, iv p4, iv (7 : Int32), iv v412, iv v413, iv v414, iv ma, iv mb, iv sm, iv fr, .unset, .unset, .unset, .unset, .unset] [(.ref b416), (.ref b416)])) rfl (by rw [hml]; rfl) (Steps.refl _) (a := b416) (argsL := []) (rest := [(.ref b416)]) (lenOf own_pd2 rfl) rfl (by show 2 * 0 + _ ≤ _; exact Nat.le_of_eq rfl) (hb hby at_110) (fun _ _ => ⟨rfl, e416, (by decide : 1 + 1 ≤ _), (by decide : 1 + 1 ≤ _)⟩)
      dsimp only [Pt.U, Pt.locs, Pt.cells, Pt.slots] at X419 l419 y419 z419 st419 hQ419
      subst l419 y419 z419
      obtain ⟨ar_419, rfl, N419q, Kq419, sq419_ar_419, FP419_0, FP419_1, FP419_2⟩ := hQ419
      have N419 := Fr.app Nc415 N419q
      have K419 : Keep h0 T419.heap [] := K416.trans Kq419 (allS (Or.inr sz_b416) all0)
      have ne_b416_ar_419 : b416 ≠ ar_419 := Nat.ne_of_lt (Nat.lt_of_lt_of_le A416.lt sq419_ar_419)
      have sz_ar_419 : h0.size ≤ ar_419 := Nat.le_trans K416.1 sq419_ar_419
      have G_ar_419 : n0 ≤ ar_419 := Nat.le_trans Z0 sz_ar_419
      have F420 : Sta Z T419.heap "com/example/swarm_tally/swarmtally/ChunkMarks" "CHUNK_SHIFT" "I" (.int (10 : Int32)) := ownStaKeep F417 Kq419 (allS (ownNstE A416) all0)
      have F421 : Exa Z T419.heap b416 "com/example/swarm_tally/swarmtally/ChunkMarks" := A416.keep Kq419
      refine ownRun (T' := T419) (f' := (mkF m 113 #[iv p0, iv p1, iv p2, iv p3, iv p4, iv (7 : Int32), iv v412, iv v413, iv v414, iv ma, iv mb, iv sm, iv fr, .unset, .unset, .unset, .unset, .unset] [(.ref b416)])) st419 ?_
      refine ow_astore (q := 115) X419 hx (L' := #[iv p0, iv p1, iv p2, iv p3, iv p4, iv (7 : Int32), iv v412, iv v413, iv v414, iv ma, iv mb, iv sm, iv fr, rv b416, .unset, .unset, .unset, .unset]) (hb hby at_113) rfl rfl rfl ?_
      refine ow_aload (q := 117) X419 hx (hb hby at_115) rfl rfl rfl ?_
      refine ow_iload (q := 119) X419 hx (hb hby at_117) rfl rfl ?_
      obtain ⟨cq422, kq422, q422a, q422b, q422c⟩ := isOf hZ rfl FP419_0
      obtain ⟨_, _, ⟨T422, L422, k422, n422⟩, -, X422, ⟨Lc422, hQ422, l422, y422, z422⟩, st422⟩ := X419.virtualBack hx (y := (⟨"com/example/swarm_tally/swarmtally/ChunkMarks", "grow", "(I)V"⟩ : MethodName)) (z := (⟨"com/example/swarm_tally/swarmtally/ChunkMarks", "grow", "(I)V"⟩ : MethodName)) hown (mvT hZ (hw _ (List.mem_of_getElem? (i := 13) rfl))) (mvT hZ (hw _ (List.mem_of_getElem? (i := 14) rfl))) (notFace_of_selects (args := #[]) (mvT hZ (hw _ (List.mem_of_getElem? (i := 16) rfl)))) (mvT hZ (hw _ (List.mem_of_getElem? (i := 16) rfl))) (mvT hZ (hw _ (List.mem_of_getElem? (i := 15) rfl))) (by decide) (backOf (W := 0) (rm_grow_7 l Z av0 hw [] b416 v412 ar_419 T419.heap n0 (Nat.le_trans Z0 K419.1) FP419_0 FP419_1 FP419_2 F420 G_b416 (own_chunk7 hv_v412) ne_b416_ar_419) hZ (hw _ (List.mem_of_getElem? (i := 17) rfl)) (hw _ (List.mem_of_getElem? (i := 3) rfl)) (by decide) (by decide)) q422a q422c (g := (mkF m 119 #[iv p0, iv p1, iv p2, iv p3, iv p4, iv (7 : Int32), iv v412, iv v413, iv v414, iv ma, iv mb, iv sm, iv fr, rv b416, .unset, .unset, .unset, .unset] [(.int v412), (.ref b416)])) rfl (by rw [hml]; rfl) (Steps.refl _) (argsL := [(.int v412)]) (rest := []) (lenOf own_pd3 rfl) rfl (by show 2 * 0 + _ ≤ _; exact Nat.le_of_eq rfl) (hb hby at_119) (fun _ _ => ⟨rfl, rfl, (by decide : 2 + 1 ≤ _), (by decide : 2 + 7 ≤ _)⟩)
      dsimp only [Pt.U, Pt.locs, Pt.cells, Pt.slots] at X422 l422 y422 z422 st422 hQ422
      subst l422 y422 z422
      obtain ⟨ar2_422, rfl, N422q, Kq422, sq422_ar2_422, FP422_0, FP422_1, FP422_2⟩ := hQ422
      have N422 := Fr.app N419 N422q
      have K422 : Keep h0 T422.heap [] := K419.trans Kq422 (allS (Or.inr sz_b416) all0)
      have ne_b416_ar2_422 : b416 ≠ ar2_422 := Nat.ne_of_lt (Nat.lt_of_lt_of_le FP419_0.lt sq422_ar2_422)
      have ne_ar_419_ar2_422 : ar_419 ≠ ar2_422 := Nat.ne_of_lt (Nat.lt_of_lt_of_le FP419_2.lt sq422_ar2_422)
      have sz_ar2_422 : h0.size ≤ ar2_422 := Nat.le_trans K419.1 sq422_ar2_422
      have G_ar2_422 : n0 ≤ ar2_422 := Nat.le_trans Z0 sz_ar2_422
      have F423 : Sta Z T422.heap "com/example/swarm_tally/swarmtally/ChunkMarks" "CHUNK_SHIFT" "I" (.int (10 : Int32)) := ownStaKeep F420 Kq422 (allS (ownNstE FP419_0) all0)
      have F424 : Exa Z T422.heap b416 "com/example/swarm_tally/swarmtally/ChunkMarks" := FP419_0.keep Kq422
      have F425 : ownAI Z T422.heap ar_419 .boolean 1 (fun _ => (0 : Int32)) := FP419_2.keep Kq422 (ninS (Ne.symm ne_b416_ar_419) nin0)
      refine ownRun (T' := T422) (f' := (mkF m 122 #[iv p0, iv p1, iv p2, iv p3, iv p4, iv (7 : Int32), iv v412, iv v413, iv v414, iv ma, iv mb, iv sm, iv fr, rv b416, .unset, .unset, .unset, .unset] [])) st422 ?_
      refine ow_iload (q := 124) X422 hx (hb hby at_122) rfl rfl ?_
      by_cases hc124_426 : ma = (0 : Int32)
      · refine ow_ifYes (q := 134) X422 hx (hb hby at_124) (Jvm.Free.XT.i0_eq_t hc124_426) (by decide) (by decide) ?_
        refine ow_iload (q := 136) X422 hx (hb hby at_134) rfl rfl ?_
        by_cases hc136_427 : mb = (0 : Int32)
        · refine ow_ifYes (q := 146) X422 hx (hb hby at_136) (Jvm.Free.XT.i0_eq_t hc136_427) (by decide) (by decide) ?_
          refine ow_aload (q := 148) X422 hx (hb hby at_146) rfl rfl rfl ?_
          refine ow_iload (q := 150) X422 hx (hb hby at_148) rfl rfl ?_
          obtain ⟨cq428, kq428, q428a, q428b, q428c⟩ := isOf hZ rfl FP422_0
          obtain ⟨_, _, ⟨T428, L428, k428, n428⟩, -, X428, ⟨Lc428, hQ428, l428, y428, z428⟩, st428⟩ := X422.virtualBack hx (y := (⟨"com/example/swarm_tally/swarmtally/ChunkMarks", "next", "(I)I"⟩ : MethodName)) (z := (⟨"com/example/swarm_tally/swarmtally/ChunkMarks", "next", "(I)I"⟩ : MethodName)) hown (mvT hZ (hw _ (List.mem_of_getElem? (i := 20) rfl))) (mvT hZ (hw _ (List.mem_of_getElem? (i := 21) rfl))) (notFace_of_selects (args := #[]) (mvT hZ (hw _ (List.mem_of_getElem? (i := 23) rfl)))) (mvT hZ (hw _ (List.mem_of_getElem? (i := 23) rfl))) (mvT hZ (hw _ (List.mem_of_getElem? (i := 22) rfl))) (by decide) (backOf (W := 0) (rm_next_7 l Z av0 hw [] b416 fr ar2_422 (fun _ => (0 : Int32)) T422.heap n0 (Nat.le_trans Z0 K422.1) FP422_1 FP422_2 hfr) hZ (hw _ (List.mem_of_getElem? (i := 24) rfl)) (hw _ (List.mem_of_getElem? (i := 3) rfl)) (by decide) (by decide)) q428a q428c (g := (mkF m 150 #[iv p0, iv p1, iv p2, iv p3, iv p4, iv (7 : Int32), iv v412, iv v413, iv v414, iv ma, iv mb, iv sm, iv fr, rv b416, .unset, .unset, .unset, .unset] [(.int fr), (.ref b416)])) rfl (by rw [hml]; rfl) (Steps.refl _) (argsL := [(.int fr)]) (rest := []) (lenOf own_pd4 rfl) rfl (by show 2 * 0 + _ ≤ _; exact Nat.le_of_eq rfl) (hb hby at_150) (fun _ _ => ⟨rfl, rfl, (by decide : 3 + 0 ≤ _), (by decide : 9 + 0 ≤ _)⟩)
          dsimp only [Pt.U, Pt.locs, Pt.cells, Pt.slots] at X428 l428 y428 z428 st428 hQ428
          subst l428 y428 z428
          obtain ⟨rfl, N428q, e428⟩ := hQ428
          have N428 := Fr.app N422 N428q
          refine ownRun (T' := T428) (f' := (mkF m 153 #[iv p0, iv p1, iv p2, iv p3, iv p4, iv (7 : Int32), iv v412, iv v413, iv v414, iv ma, iv mb, iv sm, iv fr, rv b416, .unset, .unset, .unset, .unset] [(.int (own_next (fun _ => (0 : Int32)) 7 fr))])) st428 ?_
          generalize hv_v429 : (own_next (fun _ => (0 : Int32)) 7 fr) = v429
          refine ow_istore (q := 155) X428 hx (L' := #[iv p0, iv p1, iv p2, iv p3, iv p4, iv (7 : Int32), iv v412, iv v413, iv v414, iv ma, iv mb, iv sm, iv fr, rv b416, iv v429, .unset, .unset, .unset]) (hb hby at_153) rfl rfl ?_
          refine ow_iload (q := 157) X428 hx (hb hby at_155) rfl rfl ?_
          refine ow_sipush (q := 160) X428 hx (1024 : Int32) (hb hby at_157) rfl rfl ?_
          refine ow_idiv (q := 161) X428 hx _ (hb hby at_160) rfl (by decide) rfl ?_
          generalize hv_v430 : (v413 / (1024 : Int32)) = v430
          refine ow_istore (q := 163) X428 hx (L' := #[iv p0, iv p1, iv p2, iv p3, iv p4, iv (7 : Int32), iv v412, iv v413, iv v414, iv ma, iv mb, iv sm, iv fr, rv b416, iv v429, iv v430, .unset, .unset]) (hb hby at_161) rfl rfl ?_
          refine ow_iload (q := 165) X428 hx (hb hby at_163) rfl rfl ?_
          refine ow_sipush (q := 168) X428 hx (1024 : Int32) (hb hby at_165) rfl rfl ?_
          refine ow_idiv (q := 169) X428 hx _ (hb hby at_168) rfl (by decide) rfl ?_
          generalize hv_v431 : (v414 / (1024 : Int32)) = v431
          refine ow_istore (q := 171) X428 hx (L' := #[iv p0, iv p1, iv p2, iv p3, iv p4, iv (7 : Int32), iv v412, iv v413, iv v414, iv ma, iv mb, iv sm, iv fr, rv b416, iv v429, iv v430, iv v431, .unset]) (hb hby at_169) rfl rfl ?_
          refine ow_iconst (q := 172) X428 hx (-1 : Int32) (hb hby at_171) rfl rfl ?_
          refine ow_istore (q := 174) X428 hx (L' := #[iv p0, iv p1, iv p2, iv p3, iv p4, iv (7 : Int32), iv v412, iv v413, iv v414, iv ma, iv mb, iv sm, iv fr, rv b416, iv v429, iv v430, iv v431, iv (-1 : Int32)]) (hb hby at_172) rfl rfl ?_
          have cut218_432 : ∀ (be : Int32) (Tc432 : State) (lc432 : List Loc), Stand p l e room_1 s m #[(.int p0), (.int p1), (.int p2), (.int p3), (.int p4)] below meth c Tc432 lc432 3 9 → Tc432.heap = T422.heap → Fr n0 lc432 → (be = own_best ma mb v430 v431 fr) → ownEnds p e below s (Q_law Z p0 p1 p2 p3 p4 h0 n0) 16 128 Tc432 (mkF m 218 #[iv p0, iv p1, iv p2, iv p3, iv p4, iv (7 : Int32), iv v412, iv v413, iv v414, iv ma, iv mb, iv sm, iv fr, rv b416, iv v429, iv v430, iv v431, iv be] []) := by
            intro be Tc432 lc432 Xc432 ec432 Nc432 hbe
            refine ow_iload (q := 220) Xc432 hx (hb hby at_218) rfl rfl ?_
            refine ow_iload (q := 222) Xc432 hx (hb hby at_220) rfl rfl ?_
            refine ow_icmpNo (q := 225) Xc432 hx (hb hby at_222) rfl (Jvm.Free.XT.ii_ne_f (by rw [hbe, ← hv_v429]; exact own_final (own_g00 hc124_426 hc136_427) (own_ca (own_a (n := 7) hv_v413 hv_v412) hv_v430) (own_ca (own_a (n := 7) hv_v414 hv_v412) hv_v431) (own_il (own_a (n := 7) hv_v413 hv_v412)) (own_il (own_a (n := 7) hv_v414 hv_v412)) hfr)) ?_
            refine ow_iconst (q := 226) Xc432 hx (1 : Int32) (hb hby at_225) rfl rfl ?_
            refine ow_goto (q := 230) Xc432 hx (hb hby at_226) (by decide) (by decide) ?_
            refine ownRetN Xc432 hx (r := (1 : Int32)) (Or.inl rfl) Bd.returns (hb hby at_230) hlk (by decide) (by decide) (by decide) ?_
            exact ⟨rfl, Nc432⟩
          refine ow_iload (q := 176) X428 hx (hb hby at_174) rfl rfl ?_
          refine ow_ifYes (q := 190) X428 hx (hb hby at_176) (Jvm.Free.XT.i0_eq_t hc124_426) (by decide) (by decide) ?_
          refine ow_iload (q := 192) X428 hx (hb hby at_190) rfl rfl ?_
          refine ow_ifYes (q := 218) X428 hx (hb hby at_192) (Jvm.Free.XT.i0_eq_t hc136_427) (by decide) (by decide) ?_
          exact cut218_432 (-1 : Int32) _ _ X428 e428 N428 (by simp [own_best, hc124_426, hc136_427])
        · refine ow_ifNo (q := 139) X422 hx (hb hby at_136) rfl (Jvm.Free.XT.i0_eq_f hc136_427) ?_
          refine ow_aload (q := 141) X422 hx (hb hby at_139) rfl rfl rfl ?_
          refine ow_iload (q := 143) X422 hx (hb hby at_141) rfl rfl ?_
          obtain ⟨cq433, kq433, q433a, q433b, q433c⟩ := isOf hZ rfl FP422_0
          obtain ⟨_, _, ⟨T433, L433, k433, n433⟩, -, X433, ⟨Lc433, hQ433, l433, y433, z433⟩, st433⟩ := X422.virtualBack hx (y := (⟨"com/example/swarm_tally/swarmtally/ChunkMarks", "mark", "(I)V"⟩ : MethodName)) (z := (⟨"com/example/swarm_tally/swarmtally/ChunkMarks", "mark", "(I)V"⟩ : MethodName)) hown (mvT hZ (hw _ (List.mem_of_getElem? (i := 37) rfl))) (mvT hZ (hw _ (List.mem_of_getElem? (i := 38) rfl))) (notFace_of_selects (args := #[]) (mvT hZ (hw _ (List.mem_of_getElem? (i := 40) rfl)))) (mvT hZ (hw _ (List.mem_of_getElem? (i := 40) rfl))) (mvT hZ (hw _ (List.mem_of_getElem? (i := 39) rfl))) (by decide) (backOf (W := 0) (rm_mark_7 l Z av0 hw [] b416 v414 ar2_422 (fun _ => (0 : Int32)) T422.heap n0 (Nat.le_trans Z0 K422.1) FP422_1 FP422_2 F423 G_ar2_422 (own_in (own_a (n := 7) hv_v414 hv_v412)) ne_b416_ar2_422) hZ (hw _ (List.mem_of_getElem? (i := 41) rfl)) (hw _ (List.mem_of_getElem? (i := 3) rfl)) (by decide) (by decide)) q433a q433c (g := (mkF m 143 #[iv p0, iv p1, iv p2, iv p3, iv p4, iv (7 : Int32), iv v412, iv v413, iv v414, iv ma, iv mb, iv sm, iv fr, rv b416, .unset, .unset, .unset, .unset] [(.int v414), (.ref b416)])) rfl (by rw [hml]; rfl) (Steps.refl _) (argsL := [(.int v414)]) (rest := []) (lenOf own_pd3 rfl) rfl (by show 2 * 0 + _ ≤ _; exact Nat.le_of_eq rfl) (hb hby at_143) (fun _ _ => ⟨rfl, rfl, (by decide : 3 + 0 ≤ _), (by decide : 9 + 0 ≤ _)⟩)
          dsimp only [Pt.U, Pt.locs, Pt.cells, Pt.slots] at X433 l433 y433 z433 st433 hQ433
          subst l433 y433 z433
          obtain ⟨rfl, N433q, Kq433, FP433_0⟩ := hQ433
          have N433 := Fr.app N422 N433q
          have K433 : Keep h0 T433.heap [] := K422.trans Kq433 (allS (Or.inr sz_ar2_422) all0)
          have F434 : Sta Z T433.heap "com/example/swarm_tally/swarmtally/ChunkMarks" "CHUNK_SHIFT" "I" (.int (10 : Int32)) := ownStaKeep F423 Kq433 (allS (ownNstI FP422_2) all0)
          have F435 : Exa Z T433.heap b416 "com/example/swarm_tally/swarmtally/ChunkMarks" := FP422_0.keep Kq433
          have F436 : ownAI Z T433.heap ar_419 .boolean 1 (fun _ => (0 : Int32)) := F425.keep Kq433 (ninS ne_ar_419_ar2_422 nin0)
          have F437 : Fld Z T433.heap b416 "com/example/swarm_tally/swarmtally/ChunkMarks" "changed" "[Z" (.ref ar2_422) := FP422_1.keep Kq433 (ninS ne_b416_ar2_422 nin0)
          refine ownRun (T' := T433) (f' := (mkF m 146 #[iv p0, iv p1, iv p2, iv p3, iv p4, iv (7 : Int32), iv v412, iv v413, iv v414, iv ma, iv mb, iv sm, iv fr, rv b416, .unset, .unset, .unset, .unset] [])) st433 ?_
          refine ow_aload (q := 148) X433 hx (hb hby at_146) rfl rfl rfl ?_
          refine ow_iload (q := 150) X433 hx (hb hby at_148) rfl rfl ?_
          obtain ⟨cq438, kq438, q438a, q438b, q438c⟩ := isOf hZ rfl F435
          obtain ⟨_, _, ⟨T438, L438, k438, n438⟩, -, X438, ⟨Lc438, hQ438, l438, y438, z438⟩, st438⟩ := X433.virtualBack hx (y := (⟨"com/example/swarm_tally/swarmtally/ChunkMarks", "next", "(I)I"⟩ : MethodName)) (z := (⟨"com/example/swarm_tally/swarmtally/ChunkMarks", "next", "(I)I"⟩ : MethodName)) hown (mvT hZ (hw _ (List.mem_of_getElem? (i := 20) rfl))) (mvT hZ (hw _ (List.mem_of_getElem? (i := 21) rfl))) (notFace_of_selects (args := #[]) (mvT hZ (hw _ (List.mem_of_getElem? (i := 23) rfl)))) (mvT hZ (hw _ (List.mem_of_getElem? (i := 23) rfl))) (mvT hZ (hw _ (List.mem_of_getElem? (i := 22) rfl))) (by decide) (backOf (W := 0) (rm_next_7 l Z av0 hw [] b416 fr ar2_422 (ownUpd (fun _ => (0 : Int32)) (own_ix v414) (1 : Int32)) T433.heap n0 (Nat.le_trans Z0 K433.1) F437 FP433_0 hfr) hZ (hw _ (List.mem_of_getElem? (i := 24) rfl)) (hw _ (List.mem_of_getElem? (i := 3) rfl)) (by decide) (by decide)) q438a q438c (g := (mkF m 150 #[iv p0, iv p1, iv p2, iv p3, iv p4, iv (7 : Int32), iv v412, iv v413, iv v414, iv ma, iv mb, iv sm, iv fr, rv b416, .unset, .unset, .unset, .unset] [(.int fr), (.ref b416)])) rfl (by rw [hml]; rfl) (Steps.refl _) (argsL := [(.int fr)]) (rest := []) (lenOf own_pd4 rfl) rfl (by show 2 * 0 + _ ≤ _; exact Nat.le_of_eq rfl) (hb hby at_150) (fun _ _ => ⟨rfl, rfl, (by decide : 3 + 0 ≤ _), (by decide : 9 + 0 ≤ _)⟩)
          dsimp only [Pt.U, Pt.locs, Pt.cells, Pt.slots] at X438 l438 y438 z438 st438 hQ438
          subst l438 y438 z438
          obtain ⟨rfl, N438q, e438⟩ := hQ438
          have N438 := Fr.app N433 N438q
          refine ownRun (T' := T438) (f' := (mkF m 153 #[iv p0, iv p1, iv p2, iv p3, iv p4, iv (7 : Int32), iv v412, iv v413, iv v414, iv ma, iv mb, iv sm, iv fr, rv b416, .unset, .unset, .unset, .unset] [(.int (own_next (ownUpd (fun _ => (0 : Int32)) (own_ix v414) (1 : Int32)) 7 fr))])) st438 ?_
          generalize hv_v439 : (own_next (ownUpd (fun _ => (0 : Int32)) (own_ix v414) (1 : Int32)) 7 fr) = v439
          refine ow_istore (q := 155) X438 hx (L' := #[iv p0, iv p1, iv p2, iv p3, iv p4, iv (7 : Int32), iv v412, iv v413, iv v414, iv ma, iv mb, iv sm, iv fr, rv b416, iv v439, .unset, .unset, .unset]) (hb hby at_153) rfl rfl ?_
          refine ow_iload (q := 157) X438 hx (hb hby at_155) rfl rfl ?_
          refine ow_sipush (q := 160) X438 hx (1024 : Int32) (hb hby at_157) rfl rfl ?_
          refine ow_idiv (q := 161) X438 hx _ (hb hby at_160) rfl (by decide) rfl ?_
          generalize hv_v440 : (v413 / (1024 : Int32)) = v440
          refine ow_istore (q := 163) X438 hx (L' := #[iv p0, iv p1, iv p2, iv p3, iv p4, iv (7 : Int32), iv v412, iv v413, iv v414, iv ma, iv mb, iv sm, iv fr, rv b416, iv v439, iv v440, .unset, .unset]) (hb hby at_161) rfl rfl ?_
          refine ow_iload (q := 165) X438 hx (hb hby at_163) rfl rfl ?_
          refine ow_sipush (q := 168) X438 hx (1024 : Int32) (hb hby at_165) rfl rfl ?_
          refine ow_idiv (q := 169) X438 hx _ (hb hby at_168) rfl (by decide) rfl ?_
          generalize hv_v441 : (v414 / (1024 : Int32)) = v441
          refine ow_istore (q := 171) X438 hx (L' := #[iv p0, iv p1, iv p2, iv p3, iv p4, iv (7 : Int32), iv v412, iv v413, iv v414, iv ma, iv mb, iv sm, iv fr, rv b416, iv v439, iv v440, iv v441, .unset]) (hb hby at_169) rfl rfl ?_
          refine ow_iconst (q := 172) X438 hx (-1 : Int32) (hb hby at_171) rfl rfl ?_
          refine ow_istore (q := 174) X438 hx (L' := #[iv p0, iv p1, iv p2, iv p3, iv p4, iv (7 : Int32), iv v412, iv v413, iv v414, iv ma, iv mb, iv sm, iv fr, rv b416, iv v439, iv v440, iv v441, iv (-1 : Int32)]) (hb hby at_172) rfl rfl ?_
          have cut218_442 : ∀ (be : Int32) (Tc442 : State) (lc442 : List Loc), Stand p l e room_1 s m #[(.int p0), (.int p1), (.int p2), (.int p3), (.int p4)] below meth c Tc442 lc442 3 9 → Tc442.heap = T433.heap → Fr n0 lc442 → (be = own_best ma mb v440 v441 fr) → ownEnds p e below s (Q_law Z p0 p1 p2 p3 p4 h0 n0) 16 128 Tc442 (mkF m 218 #[iv p0, iv p1, iv p2, iv p3, iv p4, iv (7 : Int32), iv v412, iv v413, iv v414, iv ma, iv mb, iv sm, iv fr, rv b416, iv v439, iv v440, iv v441, iv be] []) := by
            intro be Tc442 lc442 Xc442 ec442 Nc442 hbe
            refine ow_iload (q := 220) Xc442 hx (hb hby at_218) rfl rfl ?_
            refine ow_iload (q := 222) Xc442 hx (hb hby at_220) rfl rfl ?_
            refine ow_icmpNo (q := 225) Xc442 hx (hb hby at_222) rfl (Jvm.Free.XT.ii_ne_f (by rw [hbe, ← hv_v439]; exact own_final (own_g01 hc124_426 hc136_427) (own_ca (own_a (n := 7) hv_v413 hv_v412) hv_v440) (own_ca (own_a (n := 7) hv_v414 hv_v412) hv_v441) (own_il (own_a (n := 7) hv_v413 hv_v412)) (own_il (own_a (n := 7) hv_v414 hv_v412)) hfr)) ?_
            refine ow_iconst (q := 226) Xc442 hx (1 : Int32) (hb hby at_225) rfl rfl ?_
            refine ow_goto (q := 230) Xc442 hx (hb hby at_226) (by decide) (by decide) ?_
            refine ownRetN Xc442 hx (r := (1 : Int32)) (Or.inl rfl) Bd.returns (hb hby at_230) hlk (by decide) (by decide) (by decide) ?_
            exact ⟨rfl, Nc442⟩
          refine ow_iload (q := 176) X438 hx (hb hby at_174) rfl rfl ?_
          refine ow_ifYes (q := 190) X438 hx (hb hby at_176) (Jvm.Free.XT.i0_eq_t hc124_426) (by decide) (by decide) ?_
          refine ow_iload (q := 192) X438 hx (hb hby at_190) rfl rfl ?_
          refine ow_ifNo (q := 195) X438 hx (hb hby at_192) rfl (Jvm.Free.XT.i0_eq_f hc136_427) ?_
          refine ow_iload (q := 197) X438 hx (hb hby at_195) rfl rfl ?_
          refine ow_iload (q := 199) X438 hx (hb hby at_197) rfl rfl ?_
          by_cases hc199_443 : v441 < fr
          · refine ow_icmpYes (q := 218) X438 hx (hb hby at_199) (Jvm.Free.XT.ii_lt_t hc199_443) (by decide) (by decide) ?_
            exact cut218_442 (-1 : Int32) _ _ X438 e438 N438 (by simp [own_best, hc124_426, hc136_427, hc199_443])
          · refine ow_icmpNo (q := 202) X438 hx (hb hby at_199) rfl (Jvm.Free.XT.ii_lt_f hc199_443) ?_
            refine ow_iload (q := 204) X438 hx (hb hby at_202) rfl rfl ?_
            refine ow_ifYes (q := 214) X438 hx (hb hby at_204) (Jvm.Free.XT.i0_lt_t (by decide)) (by decide) (by decide) ?_
            refine ow_iload (q := 216) X438 hx (hb hby at_214) rfl rfl ?_
            refine ow_istore (q := 218) X438 hx (L' := #[iv p0, iv p1, iv p2, iv p3, iv p4, iv (7 : Int32), iv v412, iv v413, iv v414, iv ma, iv mb, iv sm, iv fr, rv b416, iv v439, iv v440, iv v441, iv v441]) (hb hby at_216) rfl rfl ?_
            exact cut218_442 v441 _ _ X438 e438 N438 (by simp [own_best, hc124_426, hc136_427, hc199_443])
      · refine ow_ifNo (q := 127) X422 hx (hb hby at_124) rfl (Jvm.Free.XT.i0_eq_f hc124_426) ?_
        refine ow_aload (q := 129) X422 hx (hb hby at_127) rfl rfl rfl ?_
        refine ow_iload (q := 131) X422 hx (hb hby at_129) rfl rfl ?_
        obtain ⟨cq444, kq444, q444a, q444b, q444c⟩ := isOf hZ rfl FP422_0
        obtain ⟨_, _, ⟨T444, L444, k444, n444⟩, -, X444, ⟨Lc444, hQ444, l444, y444, z444⟩, st444⟩ := X422.virtualBack hx (y := (⟨"com/example/swarm_tally/swarmtally/ChunkMarks", "mark", "(I)V"⟩ : MethodName)) (z := (⟨"com/example/swarm_tally/swarmtally/ChunkMarks", "mark", "(I)V"⟩ : MethodName)) hown (mvT hZ (hw _ (List.mem_of_getElem? (i := 37) rfl))) (mvT hZ (hw _ (List.mem_of_getElem? (i := 38) rfl))) (notFace_of_selects (args := #[]) (mvT hZ (hw _ (List.mem_of_getElem? (i := 40) rfl)))) (mvT hZ (hw _ (List.mem_of_getElem? (i := 40) rfl))) (mvT hZ (hw _ (List.mem_of_getElem? (i := 39) rfl))) (by decide) (backOf (W := 0) (rm_mark_7 l Z av0 hw [] b416 v413 ar2_422 (fun _ => (0 : Int32)) T422.heap n0 (Nat.le_trans Z0 K422.1) FP422_1 FP422_2 F423 G_ar2_422 (own_in (own_a (n := 7) hv_v413 hv_v412)) ne_b416_ar2_422) hZ (hw _ (List.mem_of_getElem? (i := 41) rfl)) (hw _ (List.mem_of_getElem? (i := 3) rfl)) (by decide) (by decide)) q444a q444c (g := (mkF m 131 #[iv p0, iv p1, iv p2, iv p3, iv p4, iv (7 : Int32), iv v412, iv v413, iv v414, iv ma, iv mb, iv sm, iv fr, rv b416, .unset, .unset, .unset, .unset] [(.int v413), (.ref b416)])) rfl (by rw [hml]; rfl) (Steps.refl _) (argsL := [(.int v413)]) (rest := []) (lenOf own_pd3 rfl) rfl (by show 2 * 0 + _ ≤ _; exact Nat.le_of_eq rfl) (hb hby at_131) (fun _ _ => ⟨rfl, rfl, (by decide : 3 + 0 ≤ _), (by decide : 9 + 0 ≤ _)⟩)
        dsimp only [Pt.U, Pt.locs, Pt.cells, Pt.slots] at X444 l444 y444 z444 st444 hQ444
        subst l444 y444 z444
        obtain ⟨rfl, N444q, Kq444, FP444_0⟩ := hQ444
        have N444 := Fr.app N422 N444q
        have K444 : Keep h0 T444.heap [] := K422.trans Kq444 (allS (Or.inr sz_ar2_422) all0)
        have F445 : Sta Z T444.heap "com/example/swarm_tally/swarmtally/ChunkMarks" "CHUNK_SHIFT" "I" (.int (10 : Int32)) := ownStaKeep F423 Kq444 (allS (ownNstI FP422_2) all0)
        have F446 : Exa Z T444.heap b416 "com/example/swarm_tally/swarmtally/ChunkMarks" := FP422_0.keep Kq444
        have F447 : ownAI Z T444.heap ar_419 .boolean 1 (fun _ => (0 : Int32)) := F425.keep Kq444 (ninS ne_ar_419_ar2_422 nin0)
        have F448 : Fld Z T444.heap b416 "com/example/swarm_tally/swarmtally/ChunkMarks" "changed" "[Z" (.ref ar2_422) := FP422_1.keep Kq444 (ninS ne_b416_ar2_422 nin0)
        refine ownRun (T' := T444) (f' := (mkF m 134 #[iv p0, iv p1, iv p2, iv p3, iv p4, iv (7 : Int32), iv v412, iv v413, iv v414, iv ma, iv mb, iv sm, iv fr, rv b416, .unset, .unset, .unset, .unset] [])) st444 ?_
        refine ow_iload (q := 136) X444 hx (hb hby at_134) rfl rfl ?_
        by_cases hc136_449 : mb = (0 : Int32)
        · refine ow_ifYes (q := 146) X444 hx (hb hby at_136) (Jvm.Free.XT.i0_eq_t hc136_449) (by decide) (by decide) ?_
          refine ow_aload (q := 148) X444 hx (hb hby at_146) rfl rfl rfl ?_
          refine ow_iload (q := 150) X444 hx (hb hby at_148) rfl rfl ?_
          obtain ⟨cq450, kq450, q450a, q450b, q450c⟩ := isOf hZ rfl F446
          obtain ⟨_, _, ⟨T450, L450, k450, n450⟩, -, X450, ⟨Lc450, hQ450, l450, y450, z450⟩, st450⟩ := X444.virtualBack hx (y := (⟨"com/example/swarm_tally/swarmtally/ChunkMarks", "next", "(I)I"⟩ : MethodName)) (z := (⟨"com/example/swarm_tally/swarmtally/ChunkMarks", "next", "(I)I"⟩ : MethodName)) hown (mvT hZ (hw _ (List.mem_of_getElem? (i := 20) rfl))) (mvT hZ (hw _ (List.mem_of_getElem? (i := 21) rfl))) (notFace_of_selects (args := #[]) (mvT hZ (hw _ (List.mem_of_getElem? (i := 23) rfl)))) (mvT hZ (hw _ (List.mem_of_getElem? (i := 23) rfl))) (mvT hZ (hw _ (List.mem_of_getElem? (i := 22) rfl))) (by decide) (backOf (W := 0) (rm_next_7 l Z av0 hw [] b416 fr ar2_422 (ownUpd (fun _ => (0 : Int32)) (own_ix v413) (1 : Int32)) T444.heap n0 (Nat.le_trans Z0 K444.1) F448 FP444_0 hfr) hZ (hw _ (List.mem_of_getElem? (i := 24) rfl)) (hw _ (List.mem_of_getElem? (i := 3) rfl)) (by decide) (by decide)) q450a q450c (g := (mkF m 150 #[iv p0, iv p1, iv p2, iv p3, iv p4, iv (7 : Int32), iv v412, iv v413, iv v414, iv ma, iv mb, iv sm, iv fr, rv b416, .unset, .unset, .unset, .unset] [(.int fr), (.ref b416)])) rfl (by rw [hml]; rfl) (Steps.refl _) (argsL := [(.int fr)]) (rest := []) (lenOf own_pd4 rfl) rfl (by show 2 * 0 + _ ≤ _; exact Nat.le_of_eq rfl) (hb hby at_150) (fun _ _ => ⟨rfl, rfl, (by decide : 3 + 0 ≤ _), (by decide : 9 + 0 ≤ _)⟩)
          dsimp only [Pt.U, Pt.locs, Pt.cells, Pt.slots] at X450 l450 y450 z450 st450 hQ450
          subst l450 y450 z450
          obtain ⟨rfl, N450q, e450⟩ := hQ450
          have N450 := Fr.app N444 N450q
          refine ownRun (T' := T450) (f' := (mkF m 153 #[iv p0, iv p1, iv p2, iv p3, iv p4, iv (7 : Int32), iv v412, iv v413, iv v414, iv ma, iv mb, iv sm, iv fr, rv b416, .unset, .unset, .unset, .unset] [(.int (own_next (ownUpd (fun _ => (0 : Int32)) (own_ix v413) (1 : Int32)) 7 fr))])) st450 ?_
          generalize hv_v451 : (own_next (ownUpd (fun _ => (0 : Int32)) (own_ix v413) (1 : Int32)) 7 fr) = v451
          refine ow_istore (q := 155) X450 hx (L' := #[iv p0, iv p1, iv p2, iv p3, iv p4, iv (7 : Int32), iv v412, iv v413, iv v414, iv ma, iv mb, iv sm, iv fr, rv b416, iv v451, .unset, .unset, .unset]) (hb hby at_153) rfl rfl ?_
          refine ow_iload (q := 157) X450 hx (hb hby at_155) rfl rfl ?_
          refine ow_sipush (q := 160) X450 hx (1024 : Int32) (hb hby at_157) rfl rfl ?_
          refine ow_idiv (q := 161) X450 hx _ (hb hby at_160) rfl (by decide) rfl ?_
          generalize hv_v452 : (v413 / (1024 : Int32)) = v452
          refine ow_istore (q := 163) X450 hx (L' := #[iv p0, iv p1, iv p2, iv p3, iv p4, iv (7 : Int32), iv v412, iv v413, iv v414, iv ma, iv mb, iv sm, iv fr, rv b416, iv v451, iv v452, .unset, .unset]) (hb hby at_161) rfl rfl ?_
          refine ow_iload (q := 165) X450 hx (hb hby at_163) rfl rfl ?_
          refine ow_sipush (q := 168) X450 hx (1024 : Int32) (hb hby at_165) rfl rfl ?_
          refine ow_idiv (q := 169) X450 hx _ (hb hby at_168) rfl (by decide) rfl ?_
          generalize hv_v453 : (v414 / (1024 : Int32)) = v453
          refine ow_istore (q := 171) X450 hx (L' := #[iv p0, iv p1, iv p2, iv p3, iv p4, iv (7 : Int32), iv v412, iv v413, iv v414, iv ma, iv mb, iv sm, iv fr, rv b416, iv v451, iv v452, iv v453, .unset]) (hb hby at_169) rfl rfl ?_
          refine ow_iconst (q := 172) X450 hx (-1 : Int32) (hb hby at_171) rfl rfl ?_
          refine ow_istore (q := 174) X450 hx (L' := #[iv p0, iv p1, iv p2, iv p3, iv p4, iv (7 : Int32), iv v412, iv v413, iv v414, iv ma, iv mb, iv sm, iv fr, rv b416, iv v451, iv v452, iv v453, iv (-1 : Int32)]) (hb hby at_172) rfl rfl ?_
          have cut218_454 : ∀ (be : Int32) (Tc454 : State) (lc454 : List Loc), Stand p l e room_1 s m #[(.int p0), (.int p1), (.int p2), (.int p3), (.int p4)] below meth c Tc454 lc454 3 9 → Tc454.heap = T444.heap → Fr n0 lc454 → (be = own_best ma mb v452 v453 fr) → ownEnds p e below s (Q_law Z p0 p1 p2 p3 p4 h0 n0) 16 128 Tc454 (mkF m 218 #[iv p0, iv p1, iv p2, iv p3, iv p4, iv (7 : Int32), iv v412, iv v413, iv v414, iv ma, iv mb, iv sm, iv fr, rv b416, iv v451, iv v452, iv v453, iv be] []) := by
            intro be Tc454 lc454 Xc454 ec454 Nc454 hbe
            refine ow_iload (q := 220) Xc454 hx (hb hby at_218) rfl rfl ?_
            refine ow_iload (q := 222) Xc454 hx (hb hby at_220) rfl rfl ?_
            refine ow_icmpNo (q := 225) Xc454 hx (hb hby at_222) rfl (Jvm.Free.XT.ii_ne_f (by rw [hbe, ← hv_v451]; exact own_final (own_g10 hc124_426 hc136_449) (own_ca (own_a (n := 7) hv_v413 hv_v412) hv_v452) (own_ca (own_a (n := 7) hv_v414 hv_v412) hv_v453) (own_il (own_a (n := 7) hv_v413 hv_v412)) (own_il (own_a (n := 7) hv_v414 hv_v412)) hfr)) ?_
            refine ow_iconst (q := 226) Xc454 hx (1 : Int32) (hb hby at_225) rfl rfl ?_
            refine ow_goto (q := 230) Xc454 hx (hb hby at_226) (by decide) (by decide) ?_
            refine ownRetN Xc454 hx (r := (1 : Int32)) (Or.inl rfl) Bd.returns (hb hby at_230) hlk (by decide) (by decide) (by decide) ?_
            exact ⟨rfl, Nc454⟩
          refine ow_iload (q := 176) X450 hx (hb hby at_174) rfl rfl ?_
          refine ow_ifNo (q := 179) X450 hx (hb hby at_176) rfl (Jvm.Free.XT.i0_eq_f hc124_426) ?_
          refine ow_iload (q := 181) X450 hx (hb hby at_179) rfl rfl ?_
          refine ow_iload (q := 183) X450 hx (hb hby at_181) rfl rfl ?_
          by_cases hc183_455 : v452 < fr
          · refine ow_icmpYes (q := 190) X450 hx (hb hby at_183) (Jvm.Free.XT.ii_lt_t hc183_455) (by decide) (by decide) ?_
            refine ow_iload (q := 192) X450 hx (hb hby at_190) rfl rfl ?_
            refine ow_ifYes (q := 218) X450 hx (hb hby at_192) (Jvm.Free.XT.i0_eq_t hc136_449) (by decide) (by decide) ?_
            exact cut218_454 (-1 : Int32) _ _ X450 e450 N450 (by simp [own_best, hc124_426, hc136_449, hc183_455])
          · refine ow_icmpNo (q := 186) X450 hx (hb hby at_183) rfl (Jvm.Free.XT.ii_lt_f hc183_455) ?_
            refine ow_iload (q := 188) X450 hx (hb hby at_186) rfl rfl ?_
            refine ow_istore (q := 190) X450 hx (L' := #[iv p0, iv p1, iv p2, iv p3, iv p4, iv (7 : Int32), iv v412, iv v413, iv v414, iv ma, iv mb, iv sm, iv fr, rv b416, iv v451, iv v452, iv v453, iv v452]) (hb hby at_188) rfl rfl ?_
            refine ow_iload (q := 192) X450 hx (hb hby at_190) rfl rfl ?_
            refine ow_ifYes (q := 218) X450 hx (hb hby at_192) (Jvm.Free.XT.i0_eq_t hc136_449) (by decide) (by decide) ?_
            exact cut218_454 v452 _ _ X450 e450 N450 (by simp [own_best, hc124_426, hc136_449, hc183_455])
        · refine ow_ifNo (q := 139) X444 hx (hb hby at_136) rfl (Jvm.Free.XT.i0_eq_f hc136_449) ?_
          refine ow_aload (q := 141) X444 hx (hb hby at_139) rfl rfl rfl ?_
          refine ow_iload (q := 143) X444 hx (hb hby at_141) rfl rfl ?_
          obtain ⟨cq456, kq456, q456a, q456b, q456c⟩ := isOf hZ rfl F446
          obtain ⟨_, _, ⟨T456, L456, k456, n456⟩, -, X456, ⟨Lc456, hQ456, l456, y456, z456⟩, st456⟩ := X444.virtualBack hx (y := (⟨"com/example/swarm_tally/swarmtally/ChunkMarks", "mark", "(I)V"⟩ : MethodName)) (z := (⟨"com/example/swarm_tally/swarmtally/ChunkMarks", "mark", "(I)V"⟩ : MethodName)) hown (mvT hZ (hw _ (List.mem_of_getElem? (i := 37) rfl))) (mvT hZ (hw _ (List.mem_of_getElem? (i := 38) rfl))) (notFace_of_selects (args := #[]) (mvT hZ (hw _ (List.mem_of_getElem? (i := 40) rfl)))) (mvT hZ (hw _ (List.mem_of_getElem? (i := 40) rfl))) (mvT hZ (hw _ (List.mem_of_getElem? (i := 39) rfl))) (by decide) (backOf (W := 0) (rm_mark_7 l Z av0 hw [] b416 v414 ar2_422 (ownUpd (fun _ => (0 : Int32)) (own_ix v413) (1 : Int32)) T444.heap n0 (Nat.le_trans Z0 K444.1) F448 FP444_0 F445 G_ar2_422 (own_in (own_a (n := 7) hv_v414 hv_v412)) ne_b416_ar2_422) hZ (hw _ (List.mem_of_getElem? (i := 41) rfl)) (hw _ (List.mem_of_getElem? (i := 3) rfl)) (by decide) (by decide)) q456a q456c (g := (mkF m 143 #[iv p0, iv p1, iv p2, iv p3, iv p4, iv (7 : Int32), iv v412, iv v413, iv v414, iv ma, iv mb, iv sm, iv fr, rv b416, .unset, .unset, .unset, .unset] [(.int v414), (.ref b416)])) rfl (by rw [hml]; rfl) (Steps.refl _) (argsL := [(.int v414)]) (rest := []) (lenOf own_pd3 rfl) rfl (by show 2 * 0 + _ ≤ _; exact Nat.le_of_eq rfl) (hb hby at_143) (fun _ _ => ⟨rfl, rfl, (by decide : 3 + 0 ≤ _), (by decide : 9 + 0 ≤ _)⟩)
          dsimp only [Pt.U, Pt.locs, Pt.cells, Pt.slots] at X456 l456 y456 z456 st456 hQ456
          subst l456 y456 z456
          obtain ⟨rfl, N456q, Kq456, FP456_0⟩ := hQ456
          have N456 := Fr.app N444 N456q
          have K456 : Keep h0 T456.heap [] := K444.trans Kq456 (allS (Or.inr sz_ar2_422) all0)
          have F457 : Sta Z T456.heap "com/example/swarm_tally/swarmtally/ChunkMarks" "CHUNK_SHIFT" "I" (.int (10 : Int32)) := ownStaKeep F445 Kq456 (allS (ownNstI FP444_0) all0)
          have F458 : Exa Z T456.heap b416 "com/example/swarm_tally/swarmtally/ChunkMarks" := F446.keep Kq456
          have F459 : ownAI Z T456.heap ar_419 .boolean 1 (fun _ => (0 : Int32)) := F447.keep Kq456 (ninS ne_ar_419_ar2_422 nin0)
          have F460 : Fld Z T456.heap b416 "com/example/swarm_tally/swarmtally/ChunkMarks" "changed" "[Z" (.ref ar2_422) := F448.keep Kq456 (ninS ne_b416_ar2_422 nin0)
          refine ownRun (T' := T456) (f' := (mkF m 146 #[iv p0, iv p1, iv p2, iv p3, iv p4, iv (7 : Int32), iv v412, iv v413, iv v414, iv ma, iv mb, iv sm, iv fr, rv b416, .unset, .unset, .unset, .unset] [])) st456 ?_
          refine ow_aload (q := 148) X456 hx (hb hby at_146) rfl rfl rfl ?_
          refine ow_iload (q := 150) X456 hx (hb hby at_148) rfl rfl ?_
          obtain ⟨cq461, kq461, q461a, q461b, q461c⟩ := isOf hZ rfl F458
          obtain ⟨_, _, ⟨T461, L461, k461, n461⟩, -, X461, ⟨Lc461, hQ461, l461, y461, z461⟩, st461⟩ := X456.virtualBack hx (y := (⟨"com/example/swarm_tally/swarmtally/ChunkMarks", "next", "(I)I"⟩ : MethodName)) (z := (⟨"com/example/swarm_tally/swarmtally/ChunkMarks", "next", "(I)I"⟩ : MethodName)) hown (mvT hZ (hw _ (List.mem_of_getElem? (i := 20) rfl))) (mvT hZ (hw _ (List.mem_of_getElem? (i := 21) rfl))) (notFace_of_selects (args := #[]) (mvT hZ (hw _ (List.mem_of_getElem? (i := 23) rfl)))) (mvT hZ (hw _ (List.mem_of_getElem? (i := 23) rfl))) (mvT hZ (hw _ (List.mem_of_getElem? (i := 22) rfl))) (by decide) (backOf (W := 0) (rm_next_7 l Z av0 hw [] b416 fr ar2_422 (ownUpd (ownUpd (fun _ => (0 : Int32)) (own_ix v413) (1 : Int32)) (own_ix v414) (1 : Int32)) T456.heap n0 (Nat.le_trans Z0 K456.1) F460 FP456_0 hfr) hZ (hw _ (List.mem_of_getElem? (i := 24) rfl)) (hw _ (List.mem_of_getElem? (i := 3) rfl)) (by decide) (by decide)) q461a q461c (g := (mkF m 150 #[iv p0, iv p1, iv p2, iv p3, iv p4, iv (7 : Int32), iv v412, iv v413, iv v414, iv ma, iv mb, iv sm, iv fr, rv b416, .unset, .unset, .unset, .unset] [(.int fr), (.ref b416)])) rfl (by rw [hml]; rfl) (Steps.refl _) (argsL := [(.int fr)]) (rest := []) (lenOf own_pd4 rfl) rfl (by show 2 * 0 + _ ≤ _; exact Nat.le_of_eq rfl) (hb hby at_150) (fun _ _ => ⟨rfl, rfl, (by decide : 3 + 0 ≤ _), (by decide : 9 + 0 ≤ _)⟩)
          dsimp only [Pt.U, Pt.locs, Pt.cells, Pt.slots] at X461 l461 y461 z461 st461 hQ461
          subst l461 y461 z461
          obtain ⟨rfl, N461q, e461⟩ := hQ461
          have N461 := Fr.app N456 N461q
          refine ownRun (T' := T461) (f' := (mkF m 153 #[iv p0, iv p1, iv p2, iv p3, iv p4, iv (7 : Int32), iv v412, iv v413, iv v414, iv ma, iv mb, iv sm, iv fr, rv b416, .unset, .unset, .unset, .unset] [(.int (own_next (ownUpd (ownUpd (fun _ => (0 : Int32)) (own_ix v413) (1 : Int32)) (own_ix v414) (1 : Int32)) 7 fr))])) st461 ?_
          generalize hv_v462 : (own_next (ownUpd (ownUpd (fun _ => (0 : Int32)) (own_ix v413) (1 : Int32)) (own_ix v414) (1 : Int32)) 7 fr) = v462
          refine ow_istore (q := 155) X461 hx (L' := #[iv p0, iv p1, iv p2, iv p3, iv p4, iv (7 : Int32), iv v412, iv v413, iv v414, iv ma, iv mb, iv sm, iv fr, rv b416, iv v462, .unset, .unset, .unset]) (hb hby at_153) rfl rfl ?_
          refine ow_iload (q := 157) X461 hx (hb hby at_155) rfl rfl ?_
          refine ow_sipush (q := 160) X461 hx (1024 : Int32) (hb hby at_157) rfl rfl ?_
          refine ow_idiv (q := 161) X461 hx _ (hb hby at_160) rfl (by decide) rfl ?_
          generalize hv_v463 : (v413 / (1024 : Int32)) = v463
          refine ow_istore (q := 163) X461 hx (L' := #[iv p0, iv p1, iv p2, iv p3, iv p4, iv (7 : Int32), iv v412, iv v413, iv v414, iv ma, iv mb, iv sm, iv fr, rv b416, iv v462, iv v463, .unset, .unset]) (hb hby at_161) rfl rfl ?_
          refine ow_iload (q := 165) X461 hx (hb hby at_163) rfl rfl ?_
          refine ow_sipush (q := 168) X461 hx (1024 : Int32) (hb hby at_165) rfl rfl ?_
          refine ow_idiv (q := 169) X461 hx _ (hb hby at_168) rfl (by decide) rfl ?_
          generalize hv_v464 : (v414 / (1024 : Int32)) = v464
          refine ow_istore (q := 171) X461 hx (L' := #[iv p0, iv p1, iv p2, iv p3, iv p4, iv (7 : Int32), iv v412, iv v413, iv v414, iv ma, iv mb, iv sm, iv fr, rv b416, iv v462, iv v463, iv v464, .unset]) (hb hby at_169) rfl rfl ?_
          refine ow_iconst (q := 172) X461 hx (-1 : Int32) (hb hby at_171) rfl rfl ?_
          refine ow_istore (q := 174) X461 hx (L' := #[iv p0, iv p1, iv p2, iv p3, iv p4, iv (7 : Int32), iv v412, iv v413, iv v414, iv ma, iv mb, iv sm, iv fr, rv b416, iv v462, iv v463, iv v464, iv (-1 : Int32)]) (hb hby at_172) rfl rfl ?_
          have cut218_465 : ∀ (be : Int32) (Tc465 : State) (lc465 : List Loc), Stand p l e room_1 s m #[(.int p0), (.int p1), (.int p2), (.int p3), (.int p4)] below meth c Tc465 lc465 3 9 → Tc465.heap = T456.heap → Fr n0 lc465 → (be = own_best ma mb v463 v464 fr) → ownEnds p e below s (Q_law Z p0 p1 p2 p3 p4 h0 n0) 16 128 Tc465 (mkF m 218 #[iv p0, iv p1, iv p2, iv p3, iv p4, iv (7 : Int32), iv v412, iv v413, iv v414, iv ma, iv mb, iv sm, iv fr, rv b416, iv v462, iv v463, iv v464, iv be] []) := by
            intro be Tc465 lc465 Xc465 ec465 Nc465 hbe
            refine ow_iload (q := 220) Xc465 hx (hb hby at_218) rfl rfl ?_
            refine ow_iload (q := 222) Xc465 hx (hb hby at_220) rfl rfl ?_
            refine ow_icmpNo (q := 225) Xc465 hx (hb hby at_222) rfl (Jvm.Free.XT.ii_ne_f (by rw [hbe, ← hv_v462]; exact own_final (own_g11 hc124_426 hc136_449) (own_ca (own_a (n := 7) hv_v413 hv_v412) hv_v463) (own_ca (own_a (n := 7) hv_v414 hv_v412) hv_v464) (own_il (own_a (n := 7) hv_v413 hv_v412)) (own_il (own_a (n := 7) hv_v414 hv_v412)) hfr)) ?_
            refine ow_iconst (q := 226) Xc465 hx (1 : Int32) (hb hby at_225) rfl rfl ?_
            refine ow_goto (q := 230) Xc465 hx (hb hby at_226) (by decide) (by decide) ?_
            refine ownRetN Xc465 hx (r := (1 : Int32)) (Or.inl rfl) Bd.returns (hb hby at_230) hlk (by decide) (by decide) (by decide) ?_
            exact ⟨rfl, Nc465⟩
          refine ow_iload (q := 176) X461 hx (hb hby at_174) rfl rfl ?_
          refine ow_ifNo (q := 179) X461 hx (hb hby at_176) rfl (Jvm.Free.XT.i0_eq_f hc124_426) ?_
          refine ow_iload (q := 181) X461 hx (hb hby at_179) rfl rfl ?_
          refine ow_iload (q := 183) X461 hx (hb hby at_181) rfl rfl ?_
          by_cases hc183_466 : v463 < fr
          · refine ow_icmpYes (q := 190) X461 hx (hb hby at_183) (Jvm.Free.XT.ii_lt_t hc183_466) (by decide) (by decide) ?_
            refine ow_iload (q := 192) X461 hx (hb hby at_190) rfl rfl ?_
            refine ow_ifNo (q := 195) X461 hx (hb hby at_192) rfl (Jvm.Free.XT.i0_eq_f hc136_449) ?_
            refine ow_iload (q := 197) X461 hx (hb hby at_195) rfl rfl ?_
            refine ow_iload (q := 199) X461 hx (hb hby at_197) rfl rfl ?_
            by_cases hc199_467 : v464 < fr
            · refine ow_icmpYes (q := 218) X461 hx (hb hby at_199) (Jvm.Free.XT.ii_lt_t hc199_467) (by decide) (by decide) ?_
              exact cut218_465 (-1 : Int32) _ _ X461 e461 N461 (by simp [own_best, hc124_426, hc136_449, hc183_466, hc199_467])
            · refine ow_icmpNo (q := 202) X461 hx (hb hby at_199) rfl (Jvm.Free.XT.ii_lt_f hc199_467) ?_
              refine ow_iload (q := 204) X461 hx (hb hby at_202) rfl rfl ?_
              refine ow_ifYes (q := 214) X461 hx (hb hby at_204) (Jvm.Free.XT.i0_lt_t (by decide)) (by decide) (by decide) ?_
              refine ow_iload (q := 216) X461 hx (hb hby at_214) rfl rfl ?_
              refine ow_istore (q := 218) X461 hx (L' := #[iv p0, iv p1, iv p2, iv p3, iv p4, iv (7 : Int32), iv v412, iv v413, iv v414, iv ma, iv mb, iv sm, iv fr, rv b416, iv v462, iv v463, iv v464, iv v464]) (hb hby at_216) rfl rfl ?_
              exact cut218_465 v464 _ _ X461 e461 N461 (by simp [own_best, hc124_426, hc136_449, hc183_466, hc199_467])
          · refine ow_icmpNo (q := 186) X461 hx (hb hby at_183) rfl (Jvm.Free.XT.ii_lt_f hc183_466) ?_
            refine ow_iload (q := 188) X461 hx (hb hby at_186) rfl rfl ?_
            refine ow_istore (q := 190) X461 hx (L' := #[iv p0, iv p1, iv p2, iv p3, iv p4, iv (7 : Int32), iv v412, iv v413, iv v414, iv ma, iv mb, iv sm, iv fr, rv b416, iv v462, iv v463, iv v464, iv v463]) (hb hby at_188) rfl rfl ?_
            refine ow_iload (q := 192) X461 hx (hb hby at_190) rfl rfl ?_
            refine ow_ifNo (q := 195) X461 hx (hb hby at_192) rfl (Jvm.Free.XT.i0_eq_f hc136_449) ?_
            refine ow_iload (q := 197) X461 hx (hb hby at_195) rfl rfl ?_
            refine ow_iload (q := 199) X461 hx (hb hby at_197) rfl rfl ?_
            by_cases hc199_468 : v464 < fr
            · refine ow_icmpYes (q := 218) X461 hx (hb hby at_199) (Jvm.Free.XT.ii_lt_t hc199_468) (by decide) (by decide) ?_
              exact cut218_465 v463 _ _ X461 e461 N461 (by simp [own_best, hc124_426, hc136_449, hc183_466, hc199_468])
            · refine ow_icmpNo (q := 202) X461 hx (hb hby at_199) rfl (Jvm.Free.XT.ii_lt_f hc199_468) ?_
              refine ow_iload (q := 204) X461 hx (hb hby at_202) rfl rfl ?_
              by_cases hc204_469 : v463 < (0 : Int32)
              · refine ow_ifYes (q := 214) X461 hx (hb hby at_204) (Jvm.Free.XT.i0_lt_t hc204_469) (by decide) (by decide) ?_
                refine ow_iload (q := 216) X461 hx (hb hby at_214) rfl rfl ?_
                refine ow_istore (q := 218) X461 hx (L' := #[iv p0, iv p1, iv p2, iv p3, iv p4, iv (7 : Int32), iv v412, iv v413, iv v414, iv ma, iv mb, iv sm, iv fr, rv b416, iv v462, iv v463, iv v464, iv v464]) (hb hby at_216) rfl rfl ?_
                exact cut218_465 v464 _ _ X461 e461 N461 (by simp [own_best, hc124_426, hc136_449, hc183_466, hc199_468, hc204_469])
              · refine ow_ifNo (q := 207) X461 hx (hb hby at_204) rfl (Jvm.Free.XT.i0_lt_f hc204_469) ?_
                refine ow_iload (q := 209) X461 hx (hb hby at_207) rfl rfl ?_
                refine ow_iload (q := 211) X461 hx (hb hby at_209) rfl rfl ?_
                by_cases hc211_470 : v464 < v463
                · refine ow_icmpNo (q := 214) X461 hx (hb hby at_211) rfl (Jvm.Free.XT.ii_ge_f hc211_470) ?_
                  refine ow_iload (q := 216) X461 hx (hb hby at_214) rfl rfl ?_
                  refine ow_istore (q := 218) X461 hx (L' := #[iv p0, iv p1, iv p2, iv p3, iv p4, iv (7 : Int32), iv v412, iv v413, iv v414, iv ma, iv mb, iv sm, iv fr, rv b416, iv v462, iv v463, iv v464, iv v464]) (hb hby at_216) rfl rfl ?_
                  exact cut218_465 v464 _ _ X461 e461 N461 (by simp [own_best, hc124_426, hc136_449, hc183_466, hc199_468, hc204_469, hc211_470])
                · refine ow_icmpYes (q := 218) X461 hx (hb hby at_211) (Jvm.Free.XT.ii_ge_t hc211_470) (by decide) (by decide) ?_
                  exact cut218_465 v463 _ _ X461 e461 N461 (by simp [own_best, hc124_426, hc136_449, hc183_466, hc199_468, hc204_469, hc211_470])
    have cut88_471 : ∀ (ma : Int32) (mb : Int32) (sm : Int32) (Tc471 : State) (lc471 : List Loc), Stand p l e room_1 s m #[(.int p0), (.int p1), (.int p2), (.int p3), (.int p4)] below meth c Tc471 lc471 0 0 → Tc471.heap = h0 → Fr n0 lc471 → ownEnds p e below s (Q_law Z p0 p1 p2 p3 p4 h0 n0) 16 128 Tc471 (mkF m 88 #[iv p0, iv p1, iv p2, iv p3, iv p4, iv (7 : Int32), iv v412, iv v413, iv v414, iv ma, iv mb, iv sm, .unset, .unset, .unset, .unset, .unset, .unset] []) := by
      intro ma mb sm Tc471 lc471 Xc471 ec471 Nc471
      refine ow_iload (q := 90) Xc471 hx (hb hby at_88) rfl rfl ?_
      by_cases hc90_472 : sm = (0 : Int32)
      · refine ow_ifYes (q := 100) Xc471 hx (hb hby at_90) (Jvm.Free.XT.i0_eq_t hc90_472) (by decide) (by decide) ?_
        refine ow_iloadN (q := 101) Xc471 hx (hb hby at_100) rfl rfl ?_
        refine ownGo (T' := Tc471) (f' := (mkF m 103 #[iv p0, iv p1, iv p2, iv p3, iv p4, iv (7 : Int32), iv v412, iv v413, iv v414, iv ma, iv mb, iv sm, .unset, .unset, .unset, .unset, .unset, .unset] [(.int (2147483647 : Int32)), (.int p3)])) (Xc471.ldcInt hx hown (mvT hZ (hw _ (List.mem_of_getElem? (i := 0) rfl))) (g := (mkF m 101 #[iv p0, iv p1, iv p2, iv p3, iv p4, iv (7 : Int32), iv v412, iv v413, iv v414, iv ma, iv mb, iv sm, .unset, .unset, .unset, .unset, .unset, .unset] [(.int p3)])) rfl (hb hby at_101)) ?_
        refine ow_iand (q := 104) Xc471 hx _ (hb hby at_103) rfl rfl ?_
        generalize hv_v473 : (p3 &&& (2147483647 : Int32)) = v473
        refine ow_istore (q := 106) Xc471 hx (L' := #[iv p0, iv p1, iv p2, iv p3, iv p4, iv (7 : Int32), iv v412, iv v413, iv v414, iv ma, iv mb, iv sm, iv v473, .unset, .unset, .unset, .unset, .unset]) (hb hby at_104) rfl rfl ?_
        exact cut106_415 ma mb sm v473 _ _ Xc471 ec471 Nc471 (own_frM hv_v473)
      · refine ow_ifNo (q := 93) Xc471 hx (hb hby at_90) rfl (Jvm.Free.XT.i0_eq_f hc90_472) ?_
        refine ow_iloadN (q := 94) Xc471 hx (hb hby at_93) rfl rfl ?_
        refine ow_bipush (q := 96) Xc471 hx (15 : Int32) (hb hby at_94) rfl rfl ?_
        refine ow_iand (q := 97) Xc471 hx _ (hb hby at_96) rfl rfl ?_
        refine ow_goto (q := 104) Xc471 hx (hb hby at_97) (by decide) (by decide) ?_
        generalize hv_v474 : (p3 &&& (15 : Int32)) = v474
        refine ow_istore (q := 106) Xc471 hx (L' := #[iv p0, iv p1, iv p2, iv p3, iv p4, iv (7 : Int32), iv v412, iv v413, iv v414, iv ma, iv mb, iv sm, iv v474, .unset, .unset, .unset, .unset, .unset]) (hb hby at_104) rfl rfl ?_
        exact cut106_415 ma mb sm v474 _ _ Xc471 ec471 Nc471 (own_fr15 hv_v474)
    have cut74_475 : ∀ (ma : Int32) (mb : Int32) (Tc475 : State) (lc475 : List Loc), Stand p l e room_1 s m #[(.int p0), (.int p1), (.int p2), (.int p3), (.int p4)] below meth c Tc475 lc475 0 0 → Tc475.heap = h0 → Fr n0 lc475 → ownEnds p e below s (Q_law Z p0 p1 p2 p3 p4 h0 n0) 16 128 Tc475 (mkF m 74 #[iv p0, iv p1, iv p2, iv p3, iv p4, iv (7 : Int32), iv v412, iv v413, iv v414, iv ma, iv mb, .unset, .unset, .unset, .unset, .unset, .unset, .unset] []) := by
      intro ma mb Tc475 lc475 Xc475 ec475 Nc475
      refine ow_iload (q := 76) Xc475 hx (hb hby at_74) rfl rfl ?_
      refine ow_iconst (q := 77) Xc475 hx (4 : Int32) (hb hby at_76) rfl rfl ?_
      refine ow_iand (q := 78) Xc475 hx _ (hb hby at_77) rfl rfl ?_
      by_cases hc78_476 : (p4 &&& (4 : Int32)) = (0 : Int32)
      · refine ow_ifYes (q := 85) Xc475 hx (hb hby at_78) (Jvm.Free.XT.i0_eq_t hc78_476) (by decide) (by decide) ?_
        refine ow_iconst (q := 86) Xc475 hx (0 : Int32) (hb hby at_85) rfl rfl ?_
        refine ow_istore (q := 88) Xc475 hx (L' := #[iv p0, iv p1, iv p2, iv p3, iv p4, iv (7 : Int32), iv v412, iv v413, iv v414, iv ma, iv mb, iv (0 : Int32), .unset, .unset, .unset, .unset, .unset, .unset]) (hb hby at_86) rfl rfl ?_
        exact cut88_471 ma mb (0 : Int32) _ _ Xc475 ec475 Nc475 
      · refine ow_ifNo (q := 81) Xc475 hx (hb hby at_78) rfl (Jvm.Free.XT.i0_eq_f hc78_476) ?_
        refine ow_iconst (q := 82) Xc475 hx (1 : Int32) (hb hby at_81) rfl rfl ?_
        refine ow_goto (q := 86) Xc475 hx (hb hby at_82) (by decide) (by decide) ?_
        refine ow_istore (q := 88) Xc475 hx (L' := #[iv p0, iv p1, iv p2, iv p3, iv p4, iv (7 : Int32), iv v412, iv v413, iv v414, iv ma, iv mb, iv (1 : Int32), .unset, .unset, .unset, .unset, .unset, .unset]) (hb hby at_86) rfl rfl ?_
        exact cut88_471 ma mb (1 : Int32) _ _ Xc475 ec475 Nc475 
    have cut60_477 : ∀ (ma : Int32) (Tc477 : State) (lc477 : List Loc), Stand p l e room_1 s m #[(.int p0), (.int p1), (.int p2), (.int p3), (.int p4)] below meth c Tc477 lc477 0 0 → Tc477.heap = h0 → Fr n0 lc477 → ownEnds p e below s (Q_law Z p0 p1 p2 p3 p4 h0 n0) 16 128 Tc477 (mkF m 60 #[iv p0, iv p1, iv p2, iv p3, iv p4, iv (7 : Int32), iv v412, iv v413, iv v414, iv ma, .unset, .unset, .unset, .unset, .unset, .unset, .unset, .unset] []) := by
      intro ma Tc477 lc477 Xc477 ec477 Nc477
      refine ow_iload (q := 62) Xc477 hx (hb hby at_60) rfl rfl ?_
      refine ow_iconst (q := 63) Xc477 hx (2 : Int32) (hb hby at_62) rfl rfl ?_
      refine ow_iand (q := 64) Xc477 hx _ (hb hby at_63) rfl rfl ?_
      by_cases hc64_478 : (p4 &&& (2 : Int32)) = (0 : Int32)
      · refine ow_ifYes (q := 71) Xc477 hx (hb hby at_64) (Jvm.Free.XT.i0_eq_t hc64_478) (by decide) (by decide) ?_
        refine ow_iconst (q := 72) Xc477 hx (0 : Int32) (hb hby at_71) rfl rfl ?_
        refine ow_istore (q := 74) Xc477 hx (L' := #[iv p0, iv p1, iv p2, iv p3, iv p4, iv (7 : Int32), iv v412, iv v413, iv v414, iv ma, iv (0 : Int32), .unset, .unset, .unset, .unset, .unset, .unset, .unset]) (hb hby at_72) rfl rfl ?_
        exact cut74_475 ma (0 : Int32) _ _ Xc477 ec477 Nc477 
      · refine ow_ifNo (q := 67) Xc477 hx (hb hby at_64) rfl (Jvm.Free.XT.i0_eq_f hc64_478) ?_
        refine ow_iconst (q := 68) Xc477 hx (1 : Int32) (hb hby at_67) rfl rfl ?_
        refine ow_goto (q := 72) Xc477 hx (hb hby at_68) (by decide) (by decide) ?_
        refine ow_istore (q := 74) Xc477 hx (L' := #[iv p0, iv p1, iv p2, iv p3, iv p4, iv (7 : Int32), iv v412, iv v413, iv v414, iv ma, iv (1 : Int32), .unset, .unset, .unset, .unset, .unset, .unset, .unset]) (hb hby at_72) rfl rfl ?_
        exact cut74_475 ma (1 : Int32) _ _ Xc477 ec477 Nc477 
    refine ow_iload (q := 48) X0 hx (hb hby at_46) rfl rfl ?_
    refine ow_iconst (q := 49) X0 hx (1 : Int32) (hb hby at_48) rfl rfl ?_
    refine ow_iand (q := 50) X0 hx _ (hb hby at_49) rfl rfl ?_
    by_cases hc50_479 : (p4 &&& (1 : Int32)) = (0 : Int32)
    · refine ow_ifYes (q := 57) X0 hx (hb hby at_50) (Jvm.Free.XT.i0_eq_t hc50_479) (by decide) (by decide) ?_
      refine ow_iconst (q := 58) X0 hx (0 : Int32) (hb hby at_57) rfl rfl ?_
      refine ow_istore (q := 60) X0 hx (L' := #[iv p0, iv p1, iv p2, iv p3, iv p4, iv (7 : Int32), iv v412, iv v413, iv v414, iv (0 : Int32), .unset, .unset, .unset, .unset, .unset, .unset, .unset, .unset]) (hb hby at_58) rfl rfl ?_
      exact cut60_477 (0 : Int32) _ _ X0 e0 N0 
    · refine ow_ifNo (q := 53) X0 hx (hb hby at_50) rfl (Jvm.Free.XT.i0_eq_f hc50_479) ?_
      refine ow_iconst (q := 54) X0 hx (1 : Int32) (hb hby at_53) rfl rfl ?_
      refine ow_goto (q := 58) X0 hx (hb hby at_54) (by decide) (by decide) ?_
      refine ow_istore (q := 60) X0 hx (L' := #[iv p0, iv p1, iv p2, iv p3, iv p4, iv (7 : Int32), iv v412, iv v413, iv v414, iv (1 : Int32), .unset, .unset, .unset, .unset, .unset, .unset, .unset, .unset]) (hb hby at_58) rfl rfl ?_
      exact cut60_477 (1 : Int32) _ _ X0 e0 N0 
  · subst hs9
    refine ow_iload (q := 10) X0 hx (hb hby at_8) rfl rfl ?_
    refine ow_iconst (q := 11) X0 hx (1 : Int32) (hb hby at_10) rfl rfl ?_
    refine ow_isub (q := 12) X0 hx (7 : Int32) (hb hby at_11) rfl (by decide) ?_
    refine ow_sipush (q := 15) X0 hx (1024 : Int32) (hb hby at_12) rfl rfl ?_
    refine ow_imul (q := 16) X0 hx (7168 : Int32) (hb hby at_15) rfl (by decide) ?_
    refine ow_iconst (q := 17) X0 hx (1 : Int32) (hb hby at_16) rfl rfl ?_
    refine ow_iadd (q := 18) X0 hx (7169 : Int32) (hb hby at_17) rfl (by decide) ?_
    refine ow_iloadN (q := 19) X0 hx (hb hby at_18) rfl rfl ?_
    refine ow_iconst (q := 20) X0 hx (3 : Int32) (hb hby at_19) rfl rfl ?_
    refine ow_iushr (q := 21) X0 hx _ (hb hby at_20) rfl rfl ?_
    refine ow_sipush (q := 24) X0 hx (1023 : Int32) (hb hby at_21) rfl rfl ?_
    refine ow_iand (q := 25) X0 hx _ (hb hby at_24) rfl rfl ?_
    refine ow_iadd (q := 26) X0 hx _ (hb hby at_25) rfl rfl ?_
    generalize hv_v480 : ((7169 : Int32) + (((p0.toUInt32 >>> ((3 : Int32) &&& 31).toUInt32).toInt32) &&& (1023 : Int32))) = v480
    refine ow_istore (q := 28) X0 hx (L' := #[iv p0, iv p1, iv p2, iv p3, iv p4, iv (8 : Int32), iv v480, .unset, .unset, .unset, .unset, .unset, .unset, .unset, .unset, .unset, .unset, .unset]) (hb hby at_26) rfl rfl ?_
    refine ow_iloadN (q := 29) X0 hx (hb hby at_28) rfl rfl ?_
    refine ownGo (T' := s₁) (f' := (mkF m 31 #[iv p0, iv p1, iv p2, iv p3, iv p4, iv (8 : Int32), iv v480, .unset, .unset, .unset, .unset, .unset, .unset, .unset, .unset, .unset, .unset, .unset] [(.int (2147483647 : Int32)), (.int p1)])) (X0.ldcInt hx hown (mvT hZ (hw _ (List.mem_of_getElem? (i := 0) rfl))) (g := (mkF m 29 #[iv p0, iv p1, iv p2, iv p3, iv p4, iv (8 : Int32), iv v480, .unset, .unset, .unset, .unset, .unset, .unset, .unset, .unset, .unset, .unset, .unset] [(.int p1)])) rfl (hb hby at_29)) ?_
    refine ow_iand (q := 32) X0 hx _ (hb hby at_31) rfl rfl ?_
    refine ow_iload (q := 34) X0 hx (hb hby at_32) rfl rfl ?_
    refine ow_irem (q := 35) X0 hx _ (hb hby at_34) rfl (own_nzc hv_v480) rfl ?_
    generalize hv_v481 : ((p1 &&& (2147483647 : Int32)) % v480) = v481
    refine ow_istore (q := 37) X0 hx (L' := #[iv p0, iv p1, iv p2, iv p3, iv p4, iv (8 : Int32), iv v480, iv v481, .unset, .unset, .unset, .unset, .unset, .unset, .unset, .unset, .unset, .unset]) (hb hby at_35) rfl rfl ?_
    refine ow_iloadN (q := 38) X0 hx (hb hby at_37) rfl rfl ?_
    refine ownGo (T' := s₁) (f' := (mkF m 40 #[iv p0, iv p1, iv p2, iv p3, iv p4, iv (8 : Int32), iv v480, iv v481, .unset, .unset, .unset, .unset, .unset, .unset, .unset, .unset, .unset, .unset] [(.int (2147483647 : Int32)), (.int p2)])) (X0.ldcInt hx hown (mvT hZ (hw _ (List.mem_of_getElem? (i := 0) rfl))) (g := (mkF m 38 #[iv p0, iv p1, iv p2, iv p3, iv p4, iv (8 : Int32), iv v480, iv v481, .unset, .unset, .unset, .unset, .unset, .unset, .unset, .unset, .unset, .unset] [(.int p2)])) rfl (hb hby at_38)) ?_
    refine ow_iand (q := 41) X0 hx _ (hb hby at_40) rfl rfl ?_
    refine ow_iload (q := 43) X0 hx (hb hby at_41) rfl rfl ?_
    refine ow_irem (q := 44) X0 hx _ (hb hby at_43) rfl (own_nzc hv_v480) rfl ?_
    generalize hv_v482 : ((p2 &&& (2147483647 : Int32)) % v480) = v482
    refine ow_istore (q := 46) X0 hx (L' := #[iv p0, iv p1, iv p2, iv p3, iv p4, iv (8 : Int32), iv v480, iv v481, iv v482, .unset, .unset, .unset, .unset, .unset, .unset, .unset, .unset, .unset]) (hb hby at_44) rfl rfl ?_
    have cut106_483 : ∀ (ma : Int32) (mb : Int32) (sm : Int32) (fr : Int32) (Tc483 : State) (lc483 : List Loc), Stand p l e room_1 s m #[(.int p0), (.int p1), (.int p2), (.int p3), (.int p4)] below meth c Tc483 lc483 0 0 → Tc483.heap = h0 → Fr n0 lc483 → (0 ≤ fr.toInt) → ownEnds p e below s (Q_law Z p0 p1 p2 p3 p4 h0 n0) 16 128 Tc483 (mkF m 106 #[iv p0, iv p1, iv p2, iv p3, iv p4, iv (8 : Int32), iv v480, iv v481, iv v482, iv ma, iv mb, iv sm, iv fr, .unset, .unset, .unset, .unset, .unset] []) := by
      intro ma mb sm fr Tc483 lc483 Xc483 ec483 Nc483 hfr
      obtain ⟨T484, h484, X484, e484, E484, A484, D484, -, st484⟩ := newO Xc483 hx hZ hown (hw _ (List.mem_of_getElem? (i := 1) rfl)) (hw _ (List.mem_of_getElem? (i := 2) rfl)) (hw _ (List.mem_of_getElem? (i := 3) rfl)) ec483 (g := (mkF m 106 #[iv p0, iv p1, iv p2, iv p3, iv p4, iv (8 : Int32), iv v480, iv v481, iv v482, iv ma, iv mb, iv sm, iv fr, .unset, .unset, .unset, .unset, .unset] [])) rfl (hb hby at_106) (by decide) (by decide)
      obtain ⟨b484, g484⟩ : ∃ z, z = h0.size := ⟨_, rfl⟩
      rw [← g484] at A484 D484 st484
      have sz_b484 : h0.size ≤ b484 := Nat.le_trans K0.1 (Nat.le_of_eq g484.symm)
      have G_b484 : n0 ≤ b484 := Nat.le_trans Z0 sz_b484
      have K484 : Keep h0 h484 [] := K0.ext E484
      have F485 : Sta Z h484 "com/example/swarm_tally/swarmtally/ChunkMarks" "CHUNK_SHIFT" "I" (.int (10 : Int32)) := HF0.ext E484
      have F486 : Fld Z h484 b484 "com/example/swarm_tally/swarmtally/ChunkMarks" "changed" "[Z" .null := D484 (Or.inl (hw _ (List.mem_of_getElem? (i := 12) rfl))) (ty := (.array .boolean)) (by decide)
      refine ownGo (T' := T484) (f' := (mkF m 109 #[iv p0, iv p1, iv p2, iv p3, iv p4, iv (8 : Int32), iv v480, iv v481, iv v482, iv ma, iv mb, iv sm, iv fr, .unset, .unset, .unset, .unset, .unset] [(.ref b484)])) (st484) ?_
      refine ow_dup (q := 110) X484 hx (hb hby at_109) rfl rfl ?_
      obtain ⟨_, _, ⟨T487, L487, k487, n487⟩, -, X487, ⟨Lc487, hQ487, l487, y487, z487⟩, st487⟩ := X484.specialBack hx (y := (⟨"com/example/swarm_tally/swarmtally/ChunkMarks", "<init>", "()V"⟩ : MethodName)) rfl hown (mvT hZ (hw _ (List.mem_of_getElem? (i := 4) rfl))) (mvT hZ (hw _ (List.mem_of_getElem? (i := 5) rfl))) (mvT hZ (hw _ (List.mem_of_getElem? (i := 6) rfl))) (by decide) (backOf (W := 1) (rm_init l Z av0 hw [] b484 h484 n0 (Nat.le_trans Z0 K484.1) A484 F486 G_b484) hZ (hw _ (List.mem_of_getElem? (i := 6) rfl)) (hw _ (List.mem_of_getElem? (i := 3) rfl)) (by decide) (by decide)) (g := (mkF m 110 #[iv p0, iv p1, iv p2, iv p3, iv p4, iv (8 : Int32), iv v480, iv v481, iv v482, iv ma, iv mb, iv sm, iv fr, .unset, .unset, .unset, .unset, .unset] [(.ref b484), (.ref b484)])) rfl (by rw [hml]; rfl) (Steps.refl _) (a := b484) (argsL := []) (rest := [(.ref b484)]) (lenOf own_pd2 rfl) rfl (by show 2 * 0 + _ ≤ _; exact Nat.le_of_eq rfl) (hb hby at_110) (fun _ _ => ⟨rfl, e484, (by decide : 1 + 1 ≤ _), (by decide : 1 + 1 ≤ _)⟩)
      dsimp only [Pt.U, Pt.locs, Pt.cells, Pt.slots] at X487 l487 y487 z487 st487 hQ487
      subst l487 y487 z487
      obtain ⟨ar_487, rfl, N487q, Kq487, sq487_ar_487, FP487_0, FP487_1, FP487_2⟩ := hQ487
      have N487 := Fr.app Nc483 N487q
      have K487 : Keep h0 T487.heap [] := K484.trans Kq487 (allS (Or.inr sz_b484) all0)
      have ne_b484_ar_487 : b484 ≠ ar_487 := Nat.ne_of_lt (Nat.lt_of_lt_of_le A484.lt sq487_ar_487)
      have sz_ar_487 : h0.size ≤ ar_487 := Nat.le_trans K484.1 sq487_ar_487
      have G_ar_487 : n0 ≤ ar_487 := Nat.le_trans Z0 sz_ar_487
      have F488 : Sta Z T487.heap "com/example/swarm_tally/swarmtally/ChunkMarks" "CHUNK_SHIFT" "I" (.int (10 : Int32)) := ownStaKeep F485 Kq487 (allS (ownNstE A484) all0)
      have F489 : Exa Z T487.heap b484 "com/example/swarm_tally/swarmtally/ChunkMarks" := A484.keep Kq487
      refine ownRun (T' := T487) (f' := (mkF m 113 #[iv p0, iv p1, iv p2, iv p3, iv p4, iv (8 : Int32), iv v480, iv v481, iv v482, iv ma, iv mb, iv sm, iv fr, .unset, .unset, .unset, .unset, .unset] [(.ref b484)])) st487 ?_
      refine ow_astore (q := 115) X487 hx (L' := #[iv p0, iv p1, iv p2, iv p3, iv p4, iv (8 : Int32), iv v480, iv v481, iv v482, iv ma, iv mb, iv sm, iv fr, rv b484, .unset, .unset, .unset, .unset]) (hb hby at_113) rfl rfl rfl ?_
      refine ow_aload (q := 117) X487 hx (hb hby at_115) rfl rfl rfl ?_
      refine ow_iload (q := 119) X487 hx (hb hby at_117) rfl rfl ?_
      obtain ⟨cq490, kq490, q490a, q490b, q490c⟩ := isOf hZ rfl FP487_0
      obtain ⟨_, _, ⟨T490, L490, k490, n490⟩, -, X490, ⟨Lc490, hQ490, l490, y490, z490⟩, st490⟩ := X487.virtualBack hx (y := (⟨"com/example/swarm_tally/swarmtally/ChunkMarks", "grow", "(I)V"⟩ : MethodName)) (z := (⟨"com/example/swarm_tally/swarmtally/ChunkMarks", "grow", "(I)V"⟩ : MethodName)) hown (mvT hZ (hw _ (List.mem_of_getElem? (i := 13) rfl))) (mvT hZ (hw _ (List.mem_of_getElem? (i := 14) rfl))) (notFace_of_selects (args := #[]) (mvT hZ (hw _ (List.mem_of_getElem? (i := 16) rfl)))) (mvT hZ (hw _ (List.mem_of_getElem? (i := 16) rfl))) (mvT hZ (hw _ (List.mem_of_getElem? (i := 15) rfl))) (by decide) (backOf (W := 0) (rm_grow_8 l Z av0 hw [] b484 v480 ar_487 T487.heap n0 (Nat.le_trans Z0 K487.1) FP487_0 FP487_1 FP487_2 F488 G_b484 (own_chunk8 hv_v480) ne_b484_ar_487) hZ (hw _ (List.mem_of_getElem? (i := 17) rfl)) (hw _ (List.mem_of_getElem? (i := 3) rfl)) (by decide) (by decide)) q490a q490c (g := (mkF m 119 #[iv p0, iv p1, iv p2, iv p3, iv p4, iv (8 : Int32), iv v480, iv v481, iv v482, iv ma, iv mb, iv sm, iv fr, rv b484, .unset, .unset, .unset, .unset] [(.int v480), (.ref b484)])) rfl (by rw [hml]; rfl) (Steps.refl _) (argsL := [(.int v480)]) (rest := []) (lenOf own_pd3 rfl) rfl (by show 2 * 0 + _ ≤ _; exact Nat.le_of_eq rfl) (hb hby at_119) (fun _ _ => ⟨rfl, rfl, (by decide : 2 + 1 ≤ _), (by decide : 2 + 8 ≤ _)⟩)
      dsimp only [Pt.U, Pt.locs, Pt.cells, Pt.slots] at X490 l490 y490 z490 st490 hQ490
      subst l490 y490 z490
      obtain ⟨ar2_490, rfl, N490q, Kq490, sq490_ar2_490, FP490_0, FP490_1, FP490_2⟩ := hQ490
      have N490 := Fr.app N487 N490q
      have K490 : Keep h0 T490.heap [] := K487.trans Kq490 (allS (Or.inr sz_b484) all0)
      have ne_b484_ar2_490 : b484 ≠ ar2_490 := Nat.ne_of_lt (Nat.lt_of_lt_of_le FP487_0.lt sq490_ar2_490)
      have ne_ar_487_ar2_490 : ar_487 ≠ ar2_490 := Nat.ne_of_lt (Nat.lt_of_lt_of_le FP487_2.lt sq490_ar2_490)
      have sz_ar2_490 : h0.size ≤ ar2_490 := Nat.le_trans K487.1 sq490_ar2_490
      have G_ar2_490 : n0 ≤ ar2_490 := Nat.le_trans Z0 sz_ar2_490
      have F491 : Sta Z T490.heap "com/example/swarm_tally/swarmtally/ChunkMarks" "CHUNK_SHIFT" "I" (.int (10 : Int32)) := ownStaKeep F488 Kq490 (allS (ownNstE FP487_0) all0)
      have F492 : Exa Z T490.heap b484 "com/example/swarm_tally/swarmtally/ChunkMarks" := FP487_0.keep Kq490
      have F493 : ownAI Z T490.heap ar_487 .boolean 1 (fun _ => (0 : Int32)) := FP487_2.keep Kq490 (ninS (Ne.symm ne_b484_ar_487) nin0)
      refine ownRun (T' := T490) (f' := (mkF m 122 #[iv p0, iv p1, iv p2, iv p3, iv p4, iv (8 : Int32), iv v480, iv v481, iv v482, iv ma, iv mb, iv sm, iv fr, rv b484, .unset, .unset, .unset, .unset] [])) st490 ?_
      refine ow_iload (q := 124) X490 hx (hb hby at_122) rfl rfl ?_
      by_cases hc124_494 : ma = (0 : Int32)
      · refine ow_ifYes (q := 134) X490 hx (hb hby at_124) (Jvm.Free.XT.i0_eq_t hc124_494) (by decide) (by decide) ?_
        refine ow_iload (q := 136) X490 hx (hb hby at_134) rfl rfl ?_
        by_cases hc136_495 : mb = (0 : Int32)
        · refine ow_ifYes (q := 146) X490 hx (hb hby at_136) (Jvm.Free.XT.i0_eq_t hc136_495) (by decide) (by decide) ?_
          refine ow_aload (q := 148) X490 hx (hb hby at_146) rfl rfl rfl ?_
          refine ow_iload (q := 150) X490 hx (hb hby at_148) rfl rfl ?_
          obtain ⟨cq496, kq496, q496a, q496b, q496c⟩ := isOf hZ rfl FP490_0
          obtain ⟨_, _, ⟨T496, L496, k496, n496⟩, -, X496, ⟨Lc496, hQ496, l496, y496, z496⟩, st496⟩ := X490.virtualBack hx (y := (⟨"com/example/swarm_tally/swarmtally/ChunkMarks", "next", "(I)I"⟩ : MethodName)) (z := (⟨"com/example/swarm_tally/swarmtally/ChunkMarks", "next", "(I)I"⟩ : MethodName)) hown (mvT hZ (hw _ (List.mem_of_getElem? (i := 20) rfl))) (mvT hZ (hw _ (List.mem_of_getElem? (i := 21) rfl))) (notFace_of_selects (args := #[]) (mvT hZ (hw _ (List.mem_of_getElem? (i := 23) rfl)))) (mvT hZ (hw _ (List.mem_of_getElem? (i := 23) rfl))) (mvT hZ (hw _ (List.mem_of_getElem? (i := 22) rfl))) (by decide) (backOf (W := 0) (rm_next_8 l Z av0 hw [] b484 fr ar2_490 (fun _ => (0 : Int32)) T490.heap n0 (Nat.le_trans Z0 K490.1) FP490_1 FP490_2 hfr) hZ (hw _ (List.mem_of_getElem? (i := 24) rfl)) (hw _ (List.mem_of_getElem? (i := 3) rfl)) (by decide) (by decide)) q496a q496c (g := (mkF m 150 #[iv p0, iv p1, iv p2, iv p3, iv p4, iv (8 : Int32), iv v480, iv v481, iv v482, iv ma, iv mb, iv sm, iv fr, rv b484, .unset, .unset, .unset, .unset] [(.int fr), (.ref b484)])) rfl (by rw [hml]; rfl) (Steps.refl _) (argsL := [(.int fr)]) (rest := []) (lenOf own_pd4 rfl) rfl (by show 2 * 0 + _ ≤ _; exact Nat.le_of_eq rfl) (hb hby at_150) (fun _ _ => ⟨rfl, rfl, (by decide : 3 + 0 ≤ _), (by decide : 10 + 0 ≤ _)⟩)
          dsimp only [Pt.U, Pt.locs, Pt.cells, Pt.slots] at X496 l496 y496 z496 st496 hQ496
          subst l496 y496 z496
          obtain ⟨rfl, N496q, e496⟩ := hQ496
          have N496 := Fr.app N490 N496q
          refine ownRun (T' := T496) (f' := (mkF m 153 #[iv p0, iv p1, iv p2, iv p3, iv p4, iv (8 : Int32), iv v480, iv v481, iv v482, iv ma, iv mb, iv sm, iv fr, rv b484, .unset, .unset, .unset, .unset] [(.int (own_next (fun _ => (0 : Int32)) 8 fr))])) st496 ?_
          generalize hv_v497 : (own_next (fun _ => (0 : Int32)) 8 fr) = v497
          refine ow_istore (q := 155) X496 hx (L' := #[iv p0, iv p1, iv p2, iv p3, iv p4, iv (8 : Int32), iv v480, iv v481, iv v482, iv ma, iv mb, iv sm, iv fr, rv b484, iv v497, .unset, .unset, .unset]) (hb hby at_153) rfl rfl ?_
          refine ow_iload (q := 157) X496 hx (hb hby at_155) rfl rfl ?_
          refine ow_sipush (q := 160) X496 hx (1024 : Int32) (hb hby at_157) rfl rfl ?_
          refine ow_idiv (q := 161) X496 hx _ (hb hby at_160) rfl (by decide) rfl ?_
          generalize hv_v498 : (v481 / (1024 : Int32)) = v498
          refine ow_istore (q := 163) X496 hx (L' := #[iv p0, iv p1, iv p2, iv p3, iv p4, iv (8 : Int32), iv v480, iv v481, iv v482, iv ma, iv mb, iv sm, iv fr, rv b484, iv v497, iv v498, .unset, .unset]) (hb hby at_161) rfl rfl ?_
          refine ow_iload (q := 165) X496 hx (hb hby at_163) rfl rfl ?_
          refine ow_sipush (q := 168) X496 hx (1024 : Int32) (hb hby at_165) rfl rfl ?_
          refine ow_idiv (q := 169) X496 hx _ (hb hby at_168) rfl (by decide) rfl ?_
          generalize hv_v499 : (v482 / (1024 : Int32)) = v499
          refine ow_istore (q := 171) X496 hx (L' := #[iv p0, iv p1, iv p2, iv p3, iv p4, iv (8 : Int32), iv v480, iv v481, iv v482, iv ma, iv mb, iv sm, iv fr, rv b484, iv v497, iv v498, iv v499, .unset]) (hb hby at_169) rfl rfl ?_
          refine ow_iconst (q := 172) X496 hx (-1 : Int32) (hb hby at_171) rfl rfl ?_
          refine ow_istore (q := 174) X496 hx (L' := #[iv p0, iv p1, iv p2, iv p3, iv p4, iv (8 : Int32), iv v480, iv v481, iv v482, iv ma, iv mb, iv sm, iv fr, rv b484, iv v497, iv v498, iv v499, iv (-1 : Int32)]) (hb hby at_172) rfl rfl ?_
          have cut218_500 : ∀ (be : Int32) (Tc500 : State) (lc500 : List Loc), Stand p l e room_1 s m #[(.int p0), (.int p1), (.int p2), (.int p3), (.int p4)] below meth c Tc500 lc500 3 10 → Tc500.heap = T490.heap → Fr n0 lc500 → (be = own_best ma mb v498 v499 fr) → ownEnds p e below s (Q_law Z p0 p1 p2 p3 p4 h0 n0) 16 128 Tc500 (mkF m 218 #[iv p0, iv p1, iv p2, iv p3, iv p4, iv (8 : Int32), iv v480, iv v481, iv v482, iv ma, iv mb, iv sm, iv fr, rv b484, iv v497, iv v498, iv v499, iv be] []) := by
            intro be Tc500 lc500 Xc500 ec500 Nc500 hbe
            refine ow_iload (q := 220) Xc500 hx (hb hby at_218) rfl rfl ?_
            refine ow_iload (q := 222) Xc500 hx (hb hby at_220) rfl rfl ?_
            refine ow_icmpNo (q := 225) Xc500 hx (hb hby at_222) rfl (Jvm.Free.XT.ii_ne_f (by rw [hbe, ← hv_v497]; exact own_final (own_g00 hc124_494 hc136_495) (own_ca (own_a (n := 8) hv_v481 hv_v480) hv_v498) (own_ca (own_a (n := 8) hv_v482 hv_v480) hv_v499) (own_il (own_a (n := 8) hv_v481 hv_v480)) (own_il (own_a (n := 8) hv_v482 hv_v480)) hfr)) ?_
            refine ow_iconst (q := 226) Xc500 hx (1 : Int32) (hb hby at_225) rfl rfl ?_
            refine ow_goto (q := 230) Xc500 hx (hb hby at_226) (by decide) (by decide) ?_
            refine ownRetN Xc500 hx (r := (1 : Int32)) (Or.inl rfl) Bd.returns (hb hby at_230) hlk (by decide) (by decide) (by decide) ?_
            exact ⟨rfl, Nc500⟩
          refine ow_iload (q := 176) X496 hx (hb hby at_174) rfl rfl ?_
          refine ow_ifYes (q := 190) X496 hx (hb hby at_176) (Jvm.Free.XT.i0_eq_t hc124_494) (by decide) (by decide) ?_
          refine ow_iload (q := 192) X496 hx (hb hby at_190) rfl rfl ?_
          refine ow_ifYes (q := 218) X496 hx (hb hby at_192) (Jvm.Free.XT.i0_eq_t hc136_495) (by decide) (by decide) ?_
          exact cut218_500 (-1 : Int32) _ _ X496 e496 N496 (by simp [own_best, hc124_494, hc136_495])
        · refine ow_ifNo (q := 139) X490 hx (hb hby at_136) rfl (Jvm.Free.XT.i0_eq_f hc136_495) ?_
          refine ow_aload (q := 141) X490 hx (hb hby at_139) rfl rfl rfl ?_
          refine ow_iload (q := 143) X490 hx (hb hby at_141) rfl rfl ?_
          obtain ⟨cq501, kq501, q501a, q501b, q501c⟩ := isOf hZ rfl FP490_0
          obtain ⟨_, _, ⟨T501, L501, k501, n501⟩, -, X501, ⟨Lc501, hQ501, l501, y501, z501⟩, st501⟩ := X490.virtualBack hx (y := (⟨"com/example/swarm_tally/swarmtally/ChunkMarks", "mark", "(I)V"⟩ : MethodName)) (z := (⟨"com/example/swarm_tally/swarmtally/ChunkMarks", "mark", "(I)V"⟩ : MethodName)) hown (mvT hZ (hw _ (List.mem_of_getElem? (i := 37) rfl))) (mvT hZ (hw _ (List.mem_of_getElem? (i := 38) rfl))) (notFace_of_selects (args := #[]) (mvT hZ (hw _ (List.mem_of_getElem? (i := 40) rfl)))) (mvT hZ (hw _ (List.mem_of_getElem? (i := 40) rfl))) (mvT hZ (hw _ (List.mem_of_getElem? (i := 39) rfl))) (by decide) (backOf (W := 0) (rm_mark_8 l Z av0 hw [] b484 v482 ar2_490 (fun _ => (0 : Int32)) T490.heap n0 (Nat.le_trans Z0 K490.1) FP490_1 FP490_2 F491 G_ar2_490 (own_in (own_a (n := 8) hv_v482 hv_v480)) ne_b484_ar2_490) hZ (hw _ (List.mem_of_getElem? (i := 41) rfl)) (hw _ (List.mem_of_getElem? (i := 3) rfl)) (by decide) (by decide)) q501a q501c (g := (mkF m 143 #[iv p0, iv p1, iv p2, iv p3, iv p4, iv (8 : Int32), iv v480, iv v481, iv v482, iv ma, iv mb, iv sm, iv fr, rv b484, .unset, .unset, .unset, .unset] [(.int v482), (.ref b484)])) rfl (by rw [hml]; rfl) (Steps.refl _) (argsL := [(.int v482)]) (rest := []) (lenOf own_pd3 rfl) rfl (by show 2 * 0 + _ ≤ _; exact Nat.le_of_eq rfl) (hb hby at_143) (fun _ _ => ⟨rfl, rfl, (by decide : 3 + 0 ≤ _), (by decide : 10 + 0 ≤ _)⟩)
          dsimp only [Pt.U, Pt.locs, Pt.cells, Pt.slots] at X501 l501 y501 z501 st501 hQ501
          subst l501 y501 z501
          obtain ⟨rfl, N501q, Kq501, FP501_0⟩ := hQ501
          have N501 := Fr.app N490 N501q
          have K501 : Keep h0 T501.heap [] := K490.trans Kq501 (allS (Or.inr sz_ar2_490) all0)
          have F502 : Sta Z T501.heap "com/example/swarm_tally/swarmtally/ChunkMarks" "CHUNK_SHIFT" "I" (.int (10 : Int32)) := ownStaKeep F491 Kq501 (allS (ownNstI FP490_2) all0)
          have F503 : Exa Z T501.heap b484 "com/example/swarm_tally/swarmtally/ChunkMarks" := FP490_0.keep Kq501
          have F504 : ownAI Z T501.heap ar_487 .boolean 1 (fun _ => (0 : Int32)) := F493.keep Kq501 (ninS ne_ar_487_ar2_490 nin0)
          have F505 : Fld Z T501.heap b484 "com/example/swarm_tally/swarmtally/ChunkMarks" "changed" "[Z" (.ref ar2_490) := FP490_1.keep Kq501 (ninS ne_b484_ar2_490 nin0)
          refine ownRun (T' := T501) (f' := (mkF m 146 #[iv p0, iv p1, iv p2, iv p3, iv p4, iv (8 : Int32), iv v480, iv v481, iv v482, iv ma, iv mb, iv sm, iv fr, rv b484, .unset, .unset, .unset, .unset] [])) st501 ?_
          refine ow_aload (q := 148) X501 hx (hb hby at_146) rfl rfl rfl ?_
          refine ow_iload (q := 150) X501 hx (hb hby at_148) rfl rfl ?_
          obtain ⟨cq506, kq506, q506a, q506b, q506c⟩ := isOf hZ rfl F503
          obtain ⟨_, _, ⟨T506, L506, k506, n506⟩, -, X506, ⟨Lc506, hQ506, l506, y506, z506⟩, st506⟩ := X501.virtualBack hx (y := (⟨"com/example/swarm_tally/swarmtally/ChunkMarks", "next", "(I)I"⟩ : MethodName)) (z := (⟨"com/example/swarm_tally/swarmtally/ChunkMarks", "next", "(I)I"⟩ : MethodName)) hown (mvT hZ (hw _ (List.mem_of_getElem? (i := 20) rfl))) (mvT hZ (hw _ (List.mem_of_getElem? (i := 21) rfl))) (notFace_of_selects (args := #[]) (mvT hZ (hw _ (List.mem_of_getElem? (i := 23) rfl)))) (mvT hZ (hw _ (List.mem_of_getElem? (i := 23) rfl))) (mvT hZ (hw _ (List.mem_of_getElem? (i := 22) rfl))) (by decide) (backOf (W := 0) (rm_next_8 l Z av0 hw [] b484 fr ar2_490 (ownUpd (fun _ => (0 : Int32)) (own_ix v482) (1 : Int32)) T501.heap n0 (Nat.le_trans Z0 K501.1) F505 FP501_0 hfr) hZ (hw _ (List.mem_of_getElem? (i := 24) rfl)) (hw _ (List.mem_of_getElem? (i := 3) rfl)) (by decide) (by decide)) q506a q506c (g := (mkF m 150 #[iv p0, iv p1, iv p2, iv p3, iv p4, iv (8 : Int32), iv v480, iv v481, iv v482, iv ma, iv mb, iv sm, iv fr, rv b484, .unset, .unset, .unset, .unset] [(.int fr), (.ref b484)])) rfl (by rw [hml]; rfl) (Steps.refl _) (argsL := [(.int fr)]) (rest := []) (lenOf own_pd4 rfl) rfl (by show 2 * 0 + _ ≤ _; exact Nat.le_of_eq rfl) (hb hby at_150) (fun _ _ => ⟨rfl, rfl, (by decide : 3 + 0 ≤ _), (by decide : 10 + 0 ≤ _)⟩)
          dsimp only [Pt.U, Pt.locs, Pt.cells, Pt.slots] at X506 l506 y506 z506 st506 hQ506
          subst l506 y506 z506
          obtain ⟨rfl, N506q, e506⟩ := hQ506
          have N506 := Fr.app N501 N506q
          refine ownRun (T' := T506) (f' := (mkF m 153 #[iv p0, iv p1, iv p2, iv p3, iv p4, iv (8 : Int32), iv v480, iv v481, iv v482, iv ma, iv mb, iv sm, iv fr, rv b484, .unset, .unset, .unset, .unset] [(.int (own_next (ownUpd (fun _ => (0 : Int32)) (own_ix v482) (1 : Int32)) 8 fr))])) st506 ?_
          generalize hv_v507 : (own_next (ownUpd (fun _ => (0 : Int32)) (own_ix v482) (1 : Int32)) 8 fr) = v507
          refine ow_istore (q := 155) X506 hx (L' := #[iv p0, iv p1, iv p2, iv p3, iv p4, iv (8 : Int32), iv v480, iv v481, iv v482, iv ma, iv mb, iv sm, iv fr, rv b484, iv v507, .unset, .unset, .unset]) (hb hby at_153) rfl rfl ?_
          refine ow_iload (q := 157) X506 hx (hb hby at_155) rfl rfl ?_
          refine ow_sipush (q := 160) X506 hx (1024 : Int32) (hb hby at_157) rfl rfl ?_
          refine ow_idiv (q := 161) X506 hx _ (hb hby at_160) rfl (by decide) rfl ?_
          generalize hv_v508 : (v481 / (1024 : Int32)) = v508
          refine ow_istore (q := 163) X506 hx (L' := #[iv p0, iv p1, iv p2, iv p3, iv p4, iv (8 : Int32), iv v480, iv v481, iv v482, iv ma, iv mb, iv sm, iv fr, rv b484, iv v507, iv v508, .unset, .unset]) (hb hby at_161) rfl rfl ?_
          refine ow_iload (q := 165) X506 hx (hb hby at_163) rfl rfl ?_
          refine ow_sipush (q := 168) X506 hx (1024 : Int32) (hb hby at_165) rfl rfl ?_
          refine ow_idiv (q := 169) X506 hx _ (hb hby at_168) rfl (by decide) rfl ?_
          generalize hv_v509 : (v482 / (1024 : Int32)) = v509
          refine ow_istore (q := 171) X506 hx (L' := #[iv p0, iv p1, iv p2, iv p3, iv p4, iv (8 : Int32), iv v480, iv v481, iv v482, iv ma, iv mb, iv sm, iv fr, rv b484, iv v507, iv v508, iv v509, .unset]) (hb hby at_169) rfl rfl ?_
          refine ow_iconst (q := 172) X506 hx (-1 : Int32) (hb hby at_171) rfl rfl ?_
          refine ow_istore (q := 174) X506 hx (L' := #[iv p0, iv p1, iv p2, iv p3, iv p4, iv (8 : Int32), iv v480, iv v481, iv v482, iv ma, iv mb, iv sm, iv fr, rv b484, iv v507, iv v508, iv v509, iv (-1 : Int32)]) (hb hby at_172) rfl rfl ?_
          have cut218_510 : ∀ (be : Int32) (Tc510 : State) (lc510 : List Loc), Stand p l e room_1 s m #[(.int p0), (.int p1), (.int p2), (.int p3), (.int p4)] below meth c Tc510 lc510 3 10 → Tc510.heap = T501.heap → Fr n0 lc510 → (be = own_best ma mb v508 v509 fr) → ownEnds p e below s (Q_law Z p0 p1 p2 p3 p4 h0 n0) 16 128 Tc510 (mkF m 218 #[iv p0, iv p1, iv p2, iv p3, iv p4, iv (8 : Int32), iv v480, iv v481, iv v482, iv ma, iv mb, iv sm, iv fr, rv b484, iv v507, iv v508, iv v509, iv be] []) := by
            intro be Tc510 lc510 Xc510 ec510 Nc510 hbe
            refine ow_iload (q := 220) Xc510 hx (hb hby at_218) rfl rfl ?_
            refine ow_iload (q := 222) Xc510 hx (hb hby at_220) rfl rfl ?_
            refine ow_icmpNo (q := 225) Xc510 hx (hb hby at_222) rfl (Jvm.Free.XT.ii_ne_f (by rw [hbe, ← hv_v507]; exact own_final (own_g01 hc124_494 hc136_495) (own_ca (own_a (n := 8) hv_v481 hv_v480) hv_v508) (own_ca (own_a (n := 8) hv_v482 hv_v480) hv_v509) (own_il (own_a (n := 8) hv_v481 hv_v480)) (own_il (own_a (n := 8) hv_v482 hv_v480)) hfr)) ?_
            refine ow_iconst (q := 226) Xc510 hx (1 : Int32) (hb hby at_225) rfl rfl ?_
            refine ow_goto (q := 230) Xc510 hx (hb hby at_226) (by decide) (by decide) ?_
            refine ownRetN Xc510 hx (r := (1 : Int32)) (Or.inl rfl) Bd.returns (hb hby at_230) hlk (by decide) (by decide) (by decide) ?_
            exact ⟨rfl, Nc510⟩
          refine ow_iload (q := 176) X506 hx (hb hby at_174) rfl rfl ?_
          refine ow_ifYes (q := 190) X506 hx (hb hby at_176) (Jvm.Free.XT.i0_eq_t hc124_494) (by decide) (by decide) ?_
          refine ow_iload (q := 192) X506 hx (hb hby at_190) rfl rfl ?_
          refine ow_ifNo (q := 195) X506 hx (hb hby at_192) rfl (Jvm.Free.XT.i0_eq_f hc136_495) ?_
          refine ow_iload (q := 197) X506 hx (hb hby at_195) rfl rfl ?_
          refine ow_iload (q := 199) X506 hx (hb hby at_197) rfl rfl ?_
          by_cases hc199_511 : v509 < fr
          · refine ow_icmpYes (q := 218) X506 hx (hb hby at_199) (Jvm.Free.XT.ii_lt_t hc199_511) (by decide) (by decide) ?_
            exact cut218_510 (-1 : Int32) _ _ X506 e506 N506 (by simp [own_best, hc124_494, hc136_495, hc199_511])
          · refine ow_icmpNo (q := 202) X506 hx (hb hby at_199) rfl (Jvm.Free.XT.ii_lt_f hc199_511) ?_
            refine ow_iload (q := 204) X506 hx (hb hby at_202) rfl rfl ?_
            refine ow_ifYes (q := 214) X506 hx (hb hby at_204) (Jvm.Free.XT.i0_lt_t (by decide)) (by decide) (by decide) ?_
            refine ow_iload (q := 216) X506 hx (hb hby at_214) rfl rfl ?_
            refine ow_istore (q := 218) X506 hx (L' := #[iv p0, iv p1, iv p2, iv p3, iv p4, iv (8 : Int32), iv v480, iv v481, iv v482, iv ma, iv mb, iv sm, iv fr, rv b484, iv v507, iv v508, iv v509, iv v509]) (hb hby at_216) rfl rfl ?_
            exact cut218_510 v509 _ _ X506 e506 N506 (by simp [own_best, hc124_494, hc136_495, hc199_511])
      · refine ow_ifNo (q := 127) X490 hx (hb hby at_124) rfl (Jvm.Free.XT.i0_eq_f hc124_494) ?_
        refine ow_aload (q := 129) X490 hx (hb hby at_127) rfl rfl rfl ?_
        refine ow_iload (q := 131) X490 hx (hb hby at_129) rfl rfl ?_
        obtain ⟨cq512, kq512, q512a, q512b, q512c⟩ := isOf hZ rfl FP490_0
        obtain ⟨_, _, ⟨T512, L512, k512, n512⟩, -, X512, ⟨Lc512, hQ512, l512, y512, z512⟩, st512⟩ := X490.virtualBack hx (y := (⟨"com/example/swarm_tally/swarmtally/ChunkMarks", "mark", "(I)V"⟩ : MethodName)) (z := (⟨"com/example/swarm_tally/swarmtally/ChunkMarks", "mark", "(I)V"⟩ : MethodName)) hown (mvT hZ (hw _ (List.mem_of_getElem? (i := 37) rfl))) (mvT hZ (hw _ (List.mem_of_getElem? (i := 38) rfl))) (notFace_of_selects (args := #[]) (mvT hZ (hw _ (List.mem_of_getElem? (i := 40) rfl)))) (mvT hZ (hw _ (List.mem_of_getElem? (i := 40) rfl))) (mvT hZ (hw _ (List.mem_of_getElem? (i := 39) rfl))) (by decide) (backOf (W := 0) (rm_mark_8 l Z av0 hw [] b484 v481 ar2_490 (fun _ => (0 : Int32)) T490.heap n0 (Nat.le_trans Z0 K490.1) FP490_1 FP490_2 F491 G_ar2_490 (own_in (own_a (n := 8) hv_v481 hv_v480)) ne_b484_ar2_490) hZ (hw _ (List.mem_of_getElem? (i := 41) rfl)) (hw _ (List.mem_of_getElem? (i := 3) rfl)) (by decide) (by decide)) q512a q512c (g := (mkF m 131 #[iv p0, iv p1, iv p2, iv p3, iv p4, iv (8 : Int32), iv v480, iv v481, iv v482, iv ma, iv mb, iv sm, iv fr, rv b484, .unset, .unset, .unset, .unset] [(.int v481), (.ref b484)])) rfl (by rw [hml]; rfl) (Steps.refl _) (argsL := [(.int v481)]) (rest := []) (lenOf own_pd3 rfl) rfl (by show 2 * 0 + _ ≤ _; exact Nat.le_of_eq rfl) (hb hby at_131) (fun _ _ => ⟨rfl, rfl, (by decide : 3 + 0 ≤ _), (by decide : 10 + 0 ≤ _)⟩)
        dsimp only [Pt.U, Pt.locs, Pt.cells, Pt.slots] at X512 l512 y512 z512 st512 hQ512
        subst l512 y512 z512
        obtain ⟨rfl, N512q, Kq512, FP512_0⟩ := hQ512
        have N512 := Fr.app N490 N512q
        have K512 : Keep h0 T512.heap [] := K490.trans Kq512 (allS (Or.inr sz_ar2_490) all0)
        have F513 : Sta Z T512.heap "com/example/swarm_tally/swarmtally/ChunkMarks" "CHUNK_SHIFT" "I" (.int (10 : Int32)) := ownStaKeep F491 Kq512 (allS (ownNstI FP490_2) all0)
        have F514 : Exa Z T512.heap b484 "com/example/swarm_tally/swarmtally/ChunkMarks" := FP490_0.keep Kq512
        have F515 : ownAI Z T512.heap ar_487 .boolean 1 (fun _ => (0 : Int32)) := F493.keep Kq512 (ninS ne_ar_487_ar2_490 nin0)
        have F516 : Fld Z T512.heap b484 "com/example/swarm_tally/swarmtally/ChunkMarks" "changed" "[Z" (.ref ar2_490) := FP490_1.keep Kq512 (ninS ne_b484_ar2_490 nin0)
        refine ownRun (T' := T512) (f' := (mkF m 134 #[iv p0, iv p1, iv p2, iv p3, iv p4, iv (8 : Int32), iv v480, iv v481, iv v482, iv ma, iv mb, iv sm, iv fr, rv b484, .unset, .unset, .unset, .unset] [])) st512 ?_
        refine ow_iload (q := 136) X512 hx (hb hby at_134) rfl rfl ?_
        by_cases hc136_517 : mb = (0 : Int32)
        · refine ow_ifYes (q := 146) X512 hx (hb hby at_136) (Jvm.Free.XT.i0_eq_t hc136_517) (by decide) (by decide) ?_
          refine ow_aload (q := 148) X512 hx (hb hby at_146) rfl rfl rfl ?_
          refine ow_iload (q := 150) X512 hx (hb hby at_148) rfl rfl ?_
          obtain ⟨cq518, kq518, q518a, q518b, q518c⟩ := isOf hZ rfl F514
          obtain ⟨_, _, ⟨T518, L518, k518, n518⟩, -, X518, ⟨Lc518, hQ518, l518, y518, z518⟩, st518⟩ := X512.virtualBack hx (y := (⟨"com/example/swarm_tally/swarmtally/ChunkMarks", "next", "(I)I"⟩ : MethodName)) (z := (⟨"com/example/swarm_tally/swarmtally/ChunkMarks", "next", "(I)I"⟩ : MethodName)) hown (mvT hZ (hw _ (List.mem_of_getElem? (i := 20) rfl))) (mvT hZ (hw _ (List.mem_of_getElem? (i := 21) rfl))) (notFace_of_selects (args := #[]) (mvT hZ (hw _ (List.mem_of_getElem? (i := 23) rfl)))) (mvT hZ (hw _ (List.mem_of_getElem? (i := 23) rfl))) (mvT hZ (hw _ (List.mem_of_getElem? (i := 22) rfl))) (by decide) (backOf (W := 0) (rm_next_8 l Z av0 hw [] b484 fr ar2_490 (ownUpd (fun _ => (0 : Int32)) (own_ix v481) (1 : Int32)) T512.heap n0 (Nat.le_trans Z0 K512.1) F516 FP512_0 hfr) hZ (hw _ (List.mem_of_getElem? (i := 24) rfl)) (hw _ (List.mem_of_getElem? (i := 3) rfl)) (by decide) (by decide)) q518a q518c (g := (mkF m 150 #[iv p0, iv p1, iv p2, iv p3, iv p4, iv (8 : Int32), iv v480, iv v481, iv v482, iv ma, iv mb, iv sm, iv fr, rv b484, .unset, .unset, .unset, .unset] [(.int fr), (.ref b484)])) rfl (by rw [hml]; rfl) (Steps.refl _) (argsL := [(.int fr)]) (rest := []) (lenOf own_pd4 rfl) rfl (by show 2 * 0 + _ ≤ _; exact Nat.le_of_eq rfl) (hb hby at_150) (fun _ _ => ⟨rfl, rfl, (by decide : 3 + 0 ≤ _), (by decide : 10 + 0 ≤ _)⟩)
          dsimp only [Pt.U, Pt.locs, Pt.cells, Pt.slots] at X518 l518 y518 z518 st518 hQ518
          subst l518 y518 z518
          obtain ⟨rfl, N518q, e518⟩ := hQ518
          have N518 := Fr.app N512 N518q
          refine ownRun (T' := T518) (f' := (mkF m 153 #[iv p0, iv p1, iv p2, iv p3, iv p4, iv (8 : Int32), iv v480, iv v481, iv v482, iv ma, iv mb, iv sm, iv fr, rv b484, .unset, .unset, .unset, .unset] [(.int (own_next (ownUpd (fun _ => (0 : Int32)) (own_ix v481) (1 : Int32)) 8 fr))])) st518 ?_
          generalize hv_v519 : (own_next (ownUpd (fun _ => (0 : Int32)) (own_ix v481) (1 : Int32)) 8 fr) = v519
          refine ow_istore (q := 155) X518 hx (L' := #[iv p0, iv p1, iv p2, iv p3, iv p4, iv (8 : Int32), iv v480, iv v481, iv v482, iv ma, iv mb, iv sm, iv fr, rv b484, iv v519, .unset, .unset, .unset]) (hb hby at_153) rfl rfl ?_
          refine ow_iload (q := 157) X518 hx (hb hby at_155) rfl rfl ?_
          refine ow_sipush (q := 160) X518 hx (1024 : Int32) (hb hby at_157) rfl rfl ?_
          refine ow_idiv (q := 161) X518 hx _ (hb hby at_160) rfl (by decide) rfl ?_
          generalize hv_v520 : (v481 / (1024 : Int32)) = v520
          refine ow_istore (q := 163) X518 hx (L' := #[iv p0, iv p1, iv p2, iv p3, iv p4, iv (8 : Int32), iv v480, iv v481, iv v482, iv ma, iv mb, iv sm, iv fr, rv b484, iv v519, iv v520, .unset, .unset]) (hb hby at_161) rfl rfl ?_
          refine ow_iload (q := 165) X518 hx (hb hby at_163) rfl rfl ?_
          refine ow_sipush (q := 168) X518 hx (1024 : Int32) (hb hby at_165) rfl rfl ?_
          refine ow_idiv (q := 169) X518 hx _ (hb hby at_168) rfl (by decide) rfl ?_
          generalize hv_v521 : (v482 / (1024 : Int32)) = v521
          refine ow_istore (q := 171) X518 hx (L' := #[iv p0, iv p1, iv p2, iv p3, iv p4, iv (8 : Int32), iv v480, iv v481, iv v482, iv ma, iv mb, iv sm, iv fr, rv b484, iv v519, iv v520, iv v521, .unset]) (hb hby at_169) rfl rfl ?_
          refine ow_iconst (q := 172) X518 hx (-1 : Int32) (hb hby at_171) rfl rfl ?_
          refine ow_istore (q := 174) X518 hx (L' := #[iv p0, iv p1, iv p2, iv p3, iv p4, iv (8 : Int32), iv v480, iv v481, iv v482, iv ma, iv mb, iv sm, iv fr, rv b484, iv v519, iv v520, iv v521, iv (-1 : Int32)]) (hb hby at_172) rfl rfl ?_
          have cut218_522 : ∀ (be : Int32) (Tc522 : State) (lc522 : List Loc), Stand p l e room_1 s m #[(.int p0), (.int p1), (.int p2), (.int p3), (.int p4)] below meth c Tc522 lc522 3 10 → Tc522.heap = T512.heap → Fr n0 lc522 → (be = own_best ma mb v520 v521 fr) → ownEnds p e below s (Q_law Z p0 p1 p2 p3 p4 h0 n0) 16 128 Tc522 (mkF m 218 #[iv p0, iv p1, iv p2, iv p3, iv p4, iv (8 : Int32), iv v480, iv v481, iv v482, iv ma, iv mb, iv sm, iv fr, rv b484, iv v519, iv v520, iv v521, iv be] []) := by
            intro be Tc522 lc522 Xc522 ec522 Nc522 hbe
            refine ow_iload (q := 220) Xc522 hx (hb hby at_218) rfl rfl ?_
            refine ow_iload (q := 222) Xc522 hx (hb hby at_220) rfl rfl ?_
            refine ow_icmpNo (q := 225) Xc522 hx (hb hby at_222) rfl (Jvm.Free.XT.ii_ne_f (by rw [hbe, ← hv_v519]; exact own_final (own_g10 hc124_494 hc136_517) (own_ca (own_a (n := 8) hv_v481 hv_v480) hv_v520) (own_ca (own_a (n := 8) hv_v482 hv_v480) hv_v521) (own_il (own_a (n := 8) hv_v481 hv_v480)) (own_il (own_a (n := 8) hv_v482 hv_v480)) hfr)) ?_
            refine ow_iconst (q := 226) Xc522 hx (1 : Int32) (hb hby at_225) rfl rfl ?_
            refine ow_goto (q := 230) Xc522 hx (hb hby at_226) (by decide) (by decide) ?_
            refine ownRetN Xc522 hx (r := (1 : Int32)) (Or.inl rfl) Bd.returns (hb hby at_230) hlk (by decide) (by decide) (by decide) ?_
            exact ⟨rfl, Nc522⟩
          refine ow_iload (q := 176) X518 hx (hb hby at_174) rfl rfl ?_
          refine ow_ifNo (q := 179) X518 hx (hb hby at_176) rfl (Jvm.Free.XT.i0_eq_f hc124_494) ?_
          refine ow_iload (q := 181) X518 hx (hb hby at_179) rfl rfl ?_
          refine ow_iload (q := 183) X518 hx (hb hby at_181) rfl rfl ?_
          by_cases hc183_523 : v520 < fr
          · refine ow_icmpYes (q := 190) X518 hx (hb hby at_183) (Jvm.Free.XT.ii_lt_t hc183_523) (by decide) (by decide) ?_
            refine ow_iload (q := 192) X518 hx (hb hby at_190) rfl rfl ?_
            refine ow_ifYes (q := 218) X518 hx (hb hby at_192) (Jvm.Free.XT.i0_eq_t hc136_517) (by decide) (by decide) ?_
            exact cut218_522 (-1 : Int32) _ _ X518 e518 N518 (by simp [own_best, hc124_494, hc136_517, hc183_523])
          · refine ow_icmpNo (q := 186) X518 hx (hb hby at_183) rfl (Jvm.Free.XT.ii_lt_f hc183_523) ?_
            refine ow_iload (q := 188) X518 hx (hb hby at_186) rfl rfl ?_
            refine ow_istore (q := 190) X518 hx (L' := #[iv p0, iv p1, iv p2, iv p3, iv p4, iv (8 : Int32), iv v480, iv v481, iv v482, iv ma, iv mb, iv sm, iv fr, rv b484, iv v519, iv v520, iv v521, iv v520]) (hb hby at_188) rfl rfl ?_
            refine ow_iload (q := 192) X518 hx (hb hby at_190) rfl rfl ?_
            refine ow_ifYes (q := 218) X518 hx (hb hby at_192) (Jvm.Free.XT.i0_eq_t hc136_517) (by decide) (by decide) ?_
            exact cut218_522 v520 _ _ X518 e518 N518 (by simp [own_best, hc124_494, hc136_517, hc183_523])
        · refine ow_ifNo (q := 139) X512 hx (hb hby at_136) rfl (Jvm.Free.XT.i0_eq_f hc136_517) ?_
          refine ow_aload (q := 141) X512 hx (hb hby at_139) rfl rfl rfl ?_
          refine ow_iload (q := 143) X512 hx (hb hby at_141) rfl rfl ?_
          obtain ⟨cq524, kq524, q524a, q524b, q524c⟩ := isOf hZ rfl F514
          obtain ⟨_, _, ⟨T524, L524, k524, n524⟩, -, X524, ⟨Lc524, hQ524, l524, y524, z524⟩, st524⟩ := X512.virtualBack hx (y := (⟨"com/example/swarm_tally/swarmtally/ChunkMarks", "mark", "(I)V"⟩ : MethodName)) (z := (⟨"com/example/swarm_tally/swarmtally/ChunkMarks", "mark", "(I)V"⟩ : MethodName)) hown (mvT hZ (hw _ (List.mem_of_getElem? (i := 37) rfl))) (mvT hZ (hw _ (List.mem_of_getElem? (i := 38) rfl))) (notFace_of_selects (args := #[]) (mvT hZ (hw _ (List.mem_of_getElem? (i := 40) rfl)))) (mvT hZ (hw _ (List.mem_of_getElem? (i := 40) rfl))) (mvT hZ (hw _ (List.mem_of_getElem? (i := 39) rfl))) (by decide) (backOf (W := 0) (rm_mark_8 l Z av0 hw [] b484 v482 ar2_490 (ownUpd (fun _ => (0 : Int32)) (own_ix v481) (1 : Int32)) T512.heap n0 (Nat.le_trans Z0 K512.1) F516 FP512_0 F513 G_ar2_490 (own_in (own_a (n := 8) hv_v482 hv_v480)) ne_b484_ar2_490) hZ (hw _ (List.mem_of_getElem? (i := 41) rfl)) (hw _ (List.mem_of_getElem? (i := 3) rfl)) (by decide) (by decide)) q524a q524c (g := (mkF m 143 #[iv p0, iv p1, iv p2, iv p3, iv p4, iv (8 : Int32), iv v480, iv v481, iv v482, iv ma, iv mb, iv sm, iv fr, rv b484, .unset, .unset, .unset, .unset] [(.int v482), (.ref b484)])) rfl (by rw [hml]; rfl) (Steps.refl _) (argsL := [(.int v482)]) (rest := []) (lenOf own_pd3 rfl) rfl (by show 2 * 0 + _ ≤ _; exact Nat.le_of_eq rfl) (hb hby at_143) (fun _ _ => ⟨rfl, rfl, (by decide : 3 + 0 ≤ _), (by decide : 10 + 0 ≤ _)⟩)
          dsimp only [Pt.U, Pt.locs, Pt.cells, Pt.slots] at X524 l524 y524 z524 st524 hQ524
          subst l524 y524 z524
          obtain ⟨rfl, N524q, Kq524, FP524_0⟩ := hQ524
          have N524 := Fr.app N512 N524q
          have K524 : Keep h0 T524.heap [] := K512.trans Kq524 (allS (Or.inr sz_ar2_490) all0)
          have F525 : Sta Z T524.heap "com/example/swarm_tally/swarmtally/ChunkMarks" "CHUNK_SHIFT" "I" (.int (10 : Int32)) := ownStaKeep F513 Kq524 (allS (ownNstI FP512_0) all0)
          have F526 : Exa Z T524.heap b484 "com/example/swarm_tally/swarmtally/ChunkMarks" := F514.keep Kq524
          have F527 : ownAI Z T524.heap ar_487 .boolean 1 (fun _ => (0 : Int32)) := F515.keep Kq524 (ninS ne_ar_487_ar2_490 nin0)
          have F528 : Fld Z T524.heap b484 "com/example/swarm_tally/swarmtally/ChunkMarks" "changed" "[Z" (.ref ar2_490) := F516.keep Kq524 (ninS ne_b484_ar2_490 nin0)
          refine ownRun (T' := T524) (f' := (mkF m 146 #[iv p0, iv p1, iv p2, iv p3, iv p4, iv (8 : Int32), iv v480, iv v481, iv v482, iv ma, iv mb, iv sm, iv fr, rv b484, .unset, .unset, .unset, .unset] [])) st524 ?_
          refine ow_aload (q := 148) X524 hx (hb hby at_146) rfl rfl rfl ?_
          refine ow_iload (q := 150) X524 hx (hb hby at_148) rfl rfl ?_
          obtain ⟨cq529, kq529, q529a, q529b, q529c⟩ := isOf hZ rfl F526
          obtain ⟨_, _, ⟨T529, L529, k529, n529⟩, -, X529, ⟨Lc529, hQ529, l529, y529, z529⟩, st529⟩ := X524.virtualBack hx (y := (⟨"com/example/swarm_tally/swarmtally/ChunkMarks", "next", "(I)I"⟩ : MethodName)) (z := (⟨"com/example/swarm_tally/swarmtally/ChunkMarks", "next", "(I)I"⟩ : MethodName)) hown (mvT hZ (hw _ (List.mem_of_getElem? (i := 20) rfl))) (mvT hZ (hw _ (List.mem_of_getElem? (i := 21) rfl))) (notFace_of_selects (args := #[]) (mvT hZ (hw _ (List.mem_of_getElem? (i := 23) rfl)))) (mvT hZ (hw _ (List.mem_of_getElem? (i := 23) rfl))) (mvT hZ (hw _ (List.mem_of_getElem? (i := 22) rfl))) (by decide) (backOf (W := 0) (rm_next_8 l Z av0 hw [] b484 fr ar2_490 (ownUpd (ownUpd (fun _ => (0 : Int32)) (own_ix v481) (1 : Int32)) (own_ix v482) (1 : Int32)) T524.heap n0 (Nat.le_trans Z0 K524.1) F528 FP524_0 hfr) hZ (hw _ (List.mem_of_getElem? (i := 24) rfl)) (hw _ (List.mem_of_getElem? (i := 3) rfl)) (by decide) (by decide)) q529a q529c (g := (mkF m 150 #[iv p0, iv p1, iv p2, iv p3, iv p4, iv (8 : Int32), iv v480, iv v481, iv v482, iv ma, iv mb, iv sm, iv fr, rv b484, .unset, .unset, .unset, .unset] [(.int fr), (.ref b484)])) rfl (by rw [hml]; rfl) (Steps.refl _) (argsL := [(.int fr)]) (rest := []) (lenOf own_pd4 rfl) rfl (by show 2 * 0 + _ ≤ _; exact Nat.le_of_eq rfl) (hb hby at_150) (fun _ _ => ⟨rfl, rfl, (by decide : 3 + 0 ≤ _), (by decide : 10 + 0 ≤ _)⟩)
          dsimp only [Pt.U, Pt.locs, Pt.cells, Pt.slots] at X529 l529 y529 z529 st529 hQ529
          subst l529 y529 z529
          obtain ⟨rfl, N529q, e529⟩ := hQ529
          have N529 := Fr.app N524 N529q
          refine ownRun (T' := T529) (f' := (mkF m 153 #[iv p0, iv p1, iv p2, iv p3, iv p4, iv (8 : Int32), iv v480, iv v481, iv v482, iv ma, iv mb, iv sm, iv fr, rv b484, .unset, .unset, .unset, .unset] [(.int (own_next (ownUpd (ownUpd (fun _ => (0 : Int32)) (own_ix v481) (1 : Int32)) (own_ix v482) (1 : Int32)) 8 fr))])) st529 ?_
          generalize hv_v530 : (own_next (ownUpd (ownUpd (fun _ => (0 : Int32)) (own_ix v481) (1 : Int32)) (own_ix v482) (1 : Int32)) 8 fr) = v530
          refine ow_istore (q := 155) X529 hx (L' := #[iv p0, iv p1, iv p2, iv p3, iv p4, iv (8 : Int32), iv v480, iv v481, iv v482, iv ma, iv mb, iv sm, iv fr, rv b484, iv v530, .unset, .unset, .unset]) (hb hby at_153) rfl rfl ?_
          refine ow_iload (q := 157) X529 hx (hb hby at_155) rfl rfl ?_
          refine ow_sipush (q := 160) X529 hx (1024 : Int32) (hb hby at_157) rfl rfl ?_
          refine ow_idiv (q := 161) X529 hx _ (hb hby at_160) rfl (by decide) rfl ?_
          generalize hv_v531 : (v481 / (1024 : Int32)) = v531
          refine ow_istore (q := 163) X529 hx (L' := #[iv p0, iv p1, iv p2, iv p3, iv p4, iv (8 : Int32), iv v480, iv v481, iv v482, iv ma, iv mb, iv sm, iv fr, rv b484, iv v530, iv v531, .unset, .unset]) (hb hby at_161) rfl rfl ?_
          refine ow_iload (q := 165) X529 hx (hb hby at_163) rfl rfl ?_
          refine ow_sipush (q := 168) X529 hx (1024 : Int32) (hb hby at_165) rfl rfl ?_
          refine ow_idiv (q := 169) X529 hx _ (hb hby at_168) rfl (by decide) rfl ?_
          generalize hv_v532 : (v482 / (1024 : Int32)) = v532
          refine ow_istore (q := 171) X529 hx (L' := #[iv p0, iv p1, iv p2, iv p3, iv p4, iv (8 : Int32), iv v480, iv v481, iv v482, iv ma, iv mb, iv sm, iv fr, rv b484, iv v530, iv v531, iv v532, .unset]) (hb hby at_169) rfl rfl ?_
          refine ow_iconst (q := 172) X529 hx (-1 : Int32) (hb hby at_171) rfl rfl ?_
          refine ow_istore (q := 174) X529 hx (L' := #[iv p0, iv p1, iv p2, iv p3, iv p4, iv (8 : Int32), iv v480, iv v481, iv v482, iv ma, iv mb, iv sm, iv fr, rv b484, iv v530, iv v531, iv v532, iv (-1 : Int32)]) (hb hby at_172) rfl rfl ?_
          have cut218_533 : ∀ (be : Int32) (Tc533 : State) (lc533 : List Loc), Stand p l e room_1 s m #[(.int p0), (.int p1), (.int p2), (.int p3), (.int p4)] below meth c Tc533 lc533 3 10 → Tc533.heap = T524.heap → Fr n0 lc533 → (be = own_best ma mb v531 v532 fr) → ownEnds p e below s (Q_law Z p0 p1 p2 p3 p4 h0 n0) 16 128 Tc533 (mkF m 218 #[iv p0, iv p1, iv p2, iv p3, iv p4, iv (8 : Int32), iv v480, iv v481, iv v482, iv ma, iv mb, iv sm, iv fr, rv b484, iv v530, iv v531, iv v532, iv be] []) := by
            intro be Tc533 lc533 Xc533 ec533 Nc533 hbe
            refine ow_iload (q := 220) Xc533 hx (hb hby at_218) rfl rfl ?_
            refine ow_iload (q := 222) Xc533 hx (hb hby at_220) rfl rfl ?_
            refine ow_icmpNo (q := 225) Xc533 hx (hb hby at_222) rfl (Jvm.Free.XT.ii_ne_f (by rw [hbe, ← hv_v530]; exact own_final (own_g11 hc124_494 hc136_517) (own_ca (own_a (n := 8) hv_v481 hv_v480) hv_v531) (own_ca (own_a (n := 8) hv_v482 hv_v480) hv_v532) (own_il (own_a (n := 8) hv_v481 hv_v480)) (own_il (own_a (n := 8) hv_v482 hv_v480)) hfr)) ?_
            refine ow_iconst (q := 226) Xc533 hx (1 : Int32) (hb hby at_225) rfl rfl ?_
            refine ow_goto (q := 230) Xc533 hx (hb hby at_226) (by decide) (by decide) ?_
            refine ownRetN Xc533 hx (r := (1 : Int32)) (Or.inl rfl) Bd.returns (hb hby at_230) hlk (by decide) (by decide) (by decide) ?_
            exact ⟨rfl, Nc533⟩
          refine ow_iload (q := 176) X529 hx (hb hby at_174) rfl rfl ?_
          refine ow_ifNo (q := 179) X529 hx (hb hby at_176) rfl (Jvm.Free.XT.i0_eq_f hc124_494) ?_
          refine ow_iload (q := 181) X529 hx (hb hby at_179) rfl rfl ?_
          refine ow_iload (q := 183) X529 hx (hb hby at_181) rfl rfl ?_
          by_cases hc183_534 : v531 < fr
          · refine ow_icmpYes (q := 190) X529 hx (hb hby at_183) (Jvm.Free.XT.ii_lt_t hc183_534) (by decide) (by decide) ?_
            refine ow_iload (q := 192) X529 hx (hb hby at_190) rfl rfl ?_
            refine ow_ifNo (q := 195) X529 hx (hb hby at_192) rfl (Jvm.Free.XT.i0_eq_f hc136_517) ?_
            refine ow_iload (q := 197) X529 hx (hb hby at_195) rfl rfl ?_
            refine ow_iload (q := 199) X529 hx (hb hby at_197) rfl rfl ?_
            by_cases hc199_535 : v532 < fr
            · refine ow_icmpYes (q := 218) X529 hx (hb hby at_199) (Jvm.Free.XT.ii_lt_t hc199_535) (by decide) (by decide) ?_
              exact cut218_533 (-1 : Int32) _ _ X529 e529 N529 (by simp [own_best, hc124_494, hc136_517, hc183_534, hc199_535])
            · refine ow_icmpNo (q := 202) X529 hx (hb hby at_199) rfl (Jvm.Free.XT.ii_lt_f hc199_535) ?_
              refine ow_iload (q := 204) X529 hx (hb hby at_202) rfl rfl ?_
              refine ow_ifYes (q := 214) X529 hx (hb hby at_204) (Jvm.Free.XT.i0_lt_t (by decide)) (by decide) (by decide) ?_
              refine ow_iload (q := 216) X529 hx (hb hby at_214) rfl rfl ?_
              refine ow_istore (q := 218) X529 hx (L' := #[iv p0, iv p1, iv p2, iv p3, iv p4, iv (8 : Int32), iv v480, iv v481, iv v482, iv ma, iv mb, iv sm, iv fr, rv b484, iv v530, iv v531, iv v532, iv v532]) (hb hby at_216) rfl rfl ?_
              exact cut218_533 v532 _ _ X529 e529 N529 (by simp [own_best, hc124_494, hc136_517, hc183_534, hc199_535])
          · refine ow_icmpNo (q := 186) X529 hx (hb hby at_183) rfl (Jvm.Free.XT.ii_lt_f hc183_534) ?_
            refine ow_iload (q := 188) X529 hx (hb hby at_186) rfl rfl ?_
            refine ow_istore (q := 190) X529 hx (L' := #[iv p0, iv p1, iv p2, iv p3, iv p4, iv (8 : Int32), iv v480, iv v481, iv v482, iv ma, iv mb, iv sm, iv fr, rv b484, iv v530, iv v531, iv v532, iv v531]) (hb hby at_188) rfl rfl ?_
            refine ow_iload (q := 192) X529 hx (hb hby at_190) rfl rfl ?_
            refine ow_ifNo (q := 195) X529 hx (hb hby at_192) rfl (Jvm.Free.XT.i0_eq_f hc136_517) ?_
            refine ow_iload (q := 197) X529 hx (hb hby at_195) rfl rfl ?_
            refine ow_iload (q := 199) X529 hx (hb hby at_197) rfl rfl ?_
            by_cases hc199_536 : v532 < fr
            · refine ow_icmpYes (q := 218) X529 hx (hb hby at_199) (Jvm.Free.XT.ii_lt_t hc199_536) (by decide) (by decide) ?_
              exact cut218_533 v531 _ _ X529 e529 N529 (by simp [own_best, hc124_494, hc136_517, hc183_534, hc199_536])
            · refine ow_icmpNo (q := 202) X529 hx (hb hby at_199) rfl (Jvm.Free.XT.ii_lt_f hc199_536) ?_
              refine ow_iload (q := 204) X529 hx (hb hby at_202) rfl rfl ?_
              by_cases hc204_537 : v531 < (0 : Int32)
              · refine ow_ifYes (q := 214) X529 hx (hb hby at_204) (Jvm.Free.XT.i0_lt_t hc204_537) (by decide) (by decide) ?_
                refine ow_iload (q := 216) X529 hx (hb hby at_214) rfl rfl ?_
                refine ow_istore (q := 218) X529 hx (L' := #[iv p0, iv p1, iv p2, iv p3, iv p4, iv (8 : Int32), iv v480, iv v481, iv v482, iv ma, iv mb, iv sm, iv fr, rv b484, iv v530, iv v531, iv v532, iv v532]) (hb hby at_216) rfl rfl ?_
                exact cut218_533 v532 _ _ X529 e529 N529 (by simp [own_best, hc124_494, hc136_517, hc183_534, hc199_536, hc204_537])
              · refine ow_ifNo (q := 207) X529 hx (hb hby at_204) rfl (Jvm.Free.XT.i0_lt_f hc204_537) ?_
                refine ow_iload (q := 209) X529 hx (hb hby at_207) rfl rfl ?_
                refine ow_iload (q := 211) X529 hx (hb hby at_209) rfl rfl ?_
                by_cases hc211_538 : v532 < v531
                · refine ow_icmpNo (q := 214) X529 hx (hb hby at_211) rfl (Jvm.Free.XT.ii_ge_f hc211_538) ?_
                  refine ow_iload (q := 216) X529 hx (hb hby at_214) rfl rfl ?_
                  refine ow_istore (q := 218) X529 hx (L' := #[iv p0, iv p1, iv p2, iv p3, iv p4, iv (8 : Int32), iv v480, iv v481, iv v482, iv ma, iv mb, iv sm, iv fr, rv b484, iv v530, iv v531, iv v532, iv v532]) (hb hby at_216) rfl rfl ?_
                  exact cut218_533 v532 _ _ X529 e529 N529 (by simp [own_best, hc124_494, hc136_517, hc183_534, hc199_536, hc204_537, hc211_538])
                · refine ow_icmpYes (q := 218) X529 hx (hb hby at_211) (Jvm.Free.XT.ii_ge_t hc211_538) (by decide) (by decide) ?_
                  exact cut218_533 v531 _ _ X529 e529 N529 (by simp [own_best, hc124_494, hc136_517, hc183_534, hc199_536, hc204_537, hc211_538])
    have cut88_539 : ∀ (ma : Int32) (mb : Int32) (sm : Int32) (Tc539 : State) (lc539 : List Loc), Stand p l e room_1 s m #[(.int p0), (.int p1), (.int p2), (.int p3), (.int p4)] below meth c Tc539 lc539 0 0 → Tc539.heap = h0 → Fr n0 lc539 → ownEnds p e below s (Q_law Z p0 p1 p2 p3 p4 h0 n0) 16 128 Tc539 (mkF m 88 #[iv p0, iv p1, iv p2, iv p3, iv p4, iv (8 : Int32), iv v480, iv v481, iv v482, iv ma, iv mb, iv sm, .unset, .unset, .unset, .unset, .unset, .unset] []) := by
      intro ma mb sm Tc539 lc539 Xc539 ec539 Nc539
      refine ow_iload (q := 90) Xc539 hx (hb hby at_88) rfl rfl ?_
      by_cases hc90_540 : sm = (0 : Int32)
      · refine ow_ifYes (q := 100) Xc539 hx (hb hby at_90) (Jvm.Free.XT.i0_eq_t hc90_540) (by decide) (by decide) ?_
        refine ow_iloadN (q := 101) Xc539 hx (hb hby at_100) rfl rfl ?_
        refine ownGo (T' := Tc539) (f' := (mkF m 103 #[iv p0, iv p1, iv p2, iv p3, iv p4, iv (8 : Int32), iv v480, iv v481, iv v482, iv ma, iv mb, iv sm, .unset, .unset, .unset, .unset, .unset, .unset] [(.int (2147483647 : Int32)), (.int p3)])) (Xc539.ldcInt hx hown (mvT hZ (hw _ (List.mem_of_getElem? (i := 0) rfl))) (g := (mkF m 101 #[iv p0, iv p1, iv p2, iv p3, iv p4, iv (8 : Int32), iv v480, iv v481, iv v482, iv ma, iv mb, iv sm, .unset, .unset, .unset, .unset, .unset, .unset] [(.int p3)])) rfl (hb hby at_101)) ?_
        refine ow_iand (q := 104) Xc539 hx _ (hb hby at_103) rfl rfl ?_
        generalize hv_v541 : (p3 &&& (2147483647 : Int32)) = v541
        refine ow_istore (q := 106) Xc539 hx (L' := #[iv p0, iv p1, iv p2, iv p3, iv p4, iv (8 : Int32), iv v480, iv v481, iv v482, iv ma, iv mb, iv sm, iv v541, .unset, .unset, .unset, .unset, .unset]) (hb hby at_104) rfl rfl ?_
        exact cut106_483 ma mb sm v541 _ _ Xc539 ec539 Nc539 (own_frM hv_v541)
      · refine ow_ifNo (q := 93) Xc539 hx (hb hby at_90) rfl (Jvm.Free.XT.i0_eq_f hc90_540) ?_
        refine ow_iloadN (q := 94) Xc539 hx (hb hby at_93) rfl rfl ?_
        refine ow_bipush (q := 96) Xc539 hx (15 : Int32) (hb hby at_94) rfl rfl ?_
        refine ow_iand (q := 97) Xc539 hx _ (hb hby at_96) rfl rfl ?_
        refine ow_goto (q := 104) Xc539 hx (hb hby at_97) (by decide) (by decide) ?_
        generalize hv_v542 : (p3 &&& (15 : Int32)) = v542
        refine ow_istore (q := 106) Xc539 hx (L' := #[iv p0, iv p1, iv p2, iv p3, iv p4, iv (8 : Int32), iv v480, iv v481, iv v482, iv ma, iv mb, iv sm, iv v542, .unset, .unset, .unset, .unset, .unset]) (hb hby at_104) rfl rfl ?_
        exact cut106_483 ma mb sm v542 _ _ Xc539 ec539 Nc539 (own_fr15 hv_v542)
    have cut74_543 : ∀ (ma : Int32) (mb : Int32) (Tc543 : State) (lc543 : List Loc), Stand p l e room_1 s m #[(.int p0), (.int p1), (.int p2), (.int p3), (.int p4)] below meth c Tc543 lc543 0 0 → Tc543.heap = h0 → Fr n0 lc543 → ownEnds p e below s (Q_law Z p0 p1 p2 p3 p4 h0 n0) 16 128 Tc543 (mkF m 74 #[iv p0, iv p1, iv p2, iv p3, iv p4, iv (8 : Int32), iv v480, iv v481, iv v482, iv ma, iv mb, .unset, .unset, .unset, .unset, .unset, .unset, .unset] []) := by
      intro ma mb Tc543 lc543 Xc543 ec543 Nc543
      refine ow_iload (q := 76) Xc543 hx (hb hby at_74) rfl rfl ?_
      refine ow_iconst (q := 77) Xc543 hx (4 : Int32) (hb hby at_76) rfl rfl ?_
      refine ow_iand (q := 78) Xc543 hx _ (hb hby at_77) rfl rfl ?_
      by_cases hc78_544 : (p4 &&& (4 : Int32)) = (0 : Int32)
      · refine ow_ifYes (q := 85) Xc543 hx (hb hby at_78) (Jvm.Free.XT.i0_eq_t hc78_544) (by decide) (by decide) ?_
        refine ow_iconst (q := 86) Xc543 hx (0 : Int32) (hb hby at_85) rfl rfl ?_
        refine ow_istore (q := 88) Xc543 hx (L' := #[iv p0, iv p1, iv p2, iv p3, iv p4, iv (8 : Int32), iv v480, iv v481, iv v482, iv ma, iv mb, iv (0 : Int32), .unset, .unset, .unset, .unset, .unset, .unset]) (hb hby at_86) rfl rfl ?_
        exact cut88_539 ma mb (0 : Int32) _ _ Xc543 ec543 Nc543 
      · refine ow_ifNo (q := 81) Xc543 hx (hb hby at_78) rfl (Jvm.Free.XT.i0_eq_f hc78_544) ?_
        refine ow_iconst (q := 82) Xc543 hx (1 : Int32) (hb hby at_81) rfl rfl ?_
        refine ow_goto (q := 86) Xc543 hx (hb hby at_82) (by decide) (by decide) ?_
        refine ow_istore (q := 88) Xc543 hx (L' := #[iv p0, iv p1, iv p2, iv p3, iv p4, iv (8 : Int32), iv v480, iv v481, iv v482, iv ma, iv mb, iv (1 : Int32), .unset, .unset, .unset, .unset, .unset, .unset]) (hb hby at_86) rfl rfl ?_
        exact cut88_539 ma mb (1 : Int32) _ _ Xc543 ec543 Nc543 
    have cut60_545 : ∀ (ma : Int32) (Tc545 : State) (lc545 : List Loc), Stand p l e room_1 s m #[(.int p0), (.int p1), (.int p2), (.int p3), (.int p4)] below meth c Tc545 lc545 0 0 → Tc545.heap = h0 → Fr n0 lc545 → ownEnds p e below s (Q_law Z p0 p1 p2 p3 p4 h0 n0) 16 128 Tc545 (mkF m 60 #[iv p0, iv p1, iv p2, iv p3, iv p4, iv (8 : Int32), iv v480, iv v481, iv v482, iv ma, .unset, .unset, .unset, .unset, .unset, .unset, .unset, .unset] []) := by
      intro ma Tc545 lc545 Xc545 ec545 Nc545
      refine ow_iload (q := 62) Xc545 hx (hb hby at_60) rfl rfl ?_
      refine ow_iconst (q := 63) Xc545 hx (2 : Int32) (hb hby at_62) rfl rfl ?_
      refine ow_iand (q := 64) Xc545 hx _ (hb hby at_63) rfl rfl ?_
      by_cases hc64_546 : (p4 &&& (2 : Int32)) = (0 : Int32)
      · refine ow_ifYes (q := 71) Xc545 hx (hb hby at_64) (Jvm.Free.XT.i0_eq_t hc64_546) (by decide) (by decide) ?_
        refine ow_iconst (q := 72) Xc545 hx (0 : Int32) (hb hby at_71) rfl rfl ?_
        refine ow_istore (q := 74) Xc545 hx (L' := #[iv p0, iv p1, iv p2, iv p3, iv p4, iv (8 : Int32), iv v480, iv v481, iv v482, iv ma, iv (0 : Int32), .unset, .unset, .unset, .unset, .unset, .unset, .unset]) (hb hby at_72) rfl rfl ?_
        exact cut74_543 ma (0 : Int32) _ _ Xc545 ec545 Nc545 
      · refine ow_ifNo (q := 67) Xc545 hx (hb hby at_64) rfl (Jvm.Free.XT.i0_eq_f hc64_546) ?_
        refine ow_iconst (q := 68) Xc545 hx (1 : Int32) (hb hby at_67) rfl rfl ?_
        refine ow_goto (q := 72) Xc545 hx (hb hby at_68) (by decide) (by decide) ?_
        refine ow_istore (q := 74) Xc545 hx (L' := #[iv p0, iv p1, iv p2, iv p3, iv p4, iv (8 : Int32), iv v480, iv v481, iv v482, iv ma, iv (1 : Int32), .unset, .unset, .unset, .unset, .unset, .unset, .unset]) (hb hby at_72) rfl rfl ?_
        exact cut74_543 ma (1 : Int32) _ _ Xc545 ec545 Nc545 
    refine ow_iload (q := 48) X0 hx (hb hby at_46) rfl rfl ?_
    refine ow_iconst (q := 49) X0 hx (1 : Int32) (hb hby at_48) rfl rfl ?_
    refine ow_iand (q := 50) X0 hx _ (hb hby at_49) rfl rfl ?_
    by_cases hc50_547 : (p4 &&& (1 : Int32)) = (0 : Int32)
    · refine ow_ifYes (q := 57) X0 hx (hb hby at_50) (Jvm.Free.XT.i0_eq_t hc50_547) (by decide) (by decide) ?_
      refine ow_iconst (q := 58) X0 hx (0 : Int32) (hb hby at_57) rfl rfl ?_
      refine ow_istore (q := 60) X0 hx (L' := #[iv p0, iv p1, iv p2, iv p3, iv p4, iv (8 : Int32), iv v480, iv v481, iv v482, iv (0 : Int32), .unset, .unset, .unset, .unset, .unset, .unset, .unset, .unset]) (hb hby at_58) rfl rfl ?_
      exact cut60_545 (0 : Int32) _ _ X0 e0 N0 
    · refine ow_ifNo (q := 53) X0 hx (hb hby at_50) rfl (Jvm.Free.XT.i0_eq_f hc50_547) ?_
      refine ow_iconst (q := 54) X0 hx (1 : Int32) (hb hby at_53) rfl rfl ?_
      refine ow_goto (q := 58) X0 hx (hb hby at_54) (by decide) (by decide) ?_
      refine ow_istore (q := 60) X0 hx (L' := #[iv p0, iv p1, iv p2, iv p3, iv p4, iv (8 : Int32), iv v480, iv v481, iv v482, iv (1 : Int32), .unset, .unset, .unset, .unset, .unset, .unset, .unset, .unset]) (hb hby at_58) rfl rfl ?_
      exact cut60_545 (1 : Int32) _ _ X0 e0 N0 
set_option maxRecDepth 65536 in
set_option maxHeartbeats 40000000 in
theorem comes_1 {Post : Tables → Env → Array Value → State → Outcome → State → Prop} (hpost : ∀ tb e args s v u, (limb_1_1.after args s (.returned v) u = true ∧ limb_1_2.after args s (.returned v) u = true ∧ True) → FrameEnd s (.returned v) u (Jvm.fieldLocs frame_1_writes args s ++ Jvm.arrayLocs frame_1_arrays args s ++ Jvm.staticLocs frame_1_statics s) 16 128 → Post tb e args s (.returned v) u) :
    ArmFor flags0 classFile x code maxLocals ret World_1 tables_1 room_1 Calls_1 rest_1 Pre_1 Post := by
  intro l hfl _ _ p e ha hc hk s m args below hf hA hF happ hP
  obtain ⟨hcalls, hrest, hpre⟩ := hP
  obtain ⟨-, -, -, hnamed, -, -, -, hat⟩ := (Spec.applies_iff hf).mp happ
  obtain ⟨hg, hn⟩ := and_e (Cond.before_iff.mp (show (Jvm.Cond.and given_1 narrow_1).before args s = true from hpre))
  obtain ⟨gg1, gg2⟩ := and_e hg
  obtain ⟨gg3, gg4⟩ := and_e gg2
  obtain ⟨gg5, gg6⟩ := and_e gg4
  obtain ⟨gg7, gg8⟩ := and_e gg6
  obtain ⟨gg9, gg10⟩ := and_e gg8
  obtain ⟨w0, w1, w2, w3, w4, rfl⟩ : ∃ w0 w1 w2 w3 w4 : Value, args = #[w0, w1, w2, w3, w4] := by
    have hs : args.size = 5 := by simpa [Cond.value, given_1] using gg1
    obtain ⟨L⟩ := args
    match L, hs with
    | [w0, w1, w2, w3, w4], _ => exact ⟨w0, w1, w2, w3, w4, rfl⟩
  have hw := fun d (hd : d ∈ tables_1) => atoms_spec (ws := Jvm.Cond.code x code maxLocals ret :: tables_1) hat d (List.mem_cons_of_mem _ hd)
  have hfit : Fit s := fun {y c} hc i hi => by
    obtain ⟨ha, rfl⟩ := Array.getElem?_eq_some_iff.mp hc
    have q := List.all_eq_true.mp ((Array.all_eq_true_iff_forall_mem.mp hF) _ (Array.getElem_mem ha)) i (List.mem_range.mpr hi)
    simpa [Array.getElem?_eq_getElem hi] using q
  obtain ⟨i0, ei0⟩ := is_v gg3
  obtain rfl : w0 = (.int i0) := Option.some.inj ei0
  obtain ⟨i1, ei1⟩ := is_v gg5
  obtain rfl : w1 = (.int i1) := Option.some.inj ei1
  obtain ⟨i2, ei2⟩ := is_v gg7
  obtain rfl : w2 = (.int i2) := Option.some.inj ei2
  obtain ⟨i3, ei3⟩ := is_v gg9
  obtain rfl : w3 = (.int i3) := Option.some.inj ei3
  obtain ⟨i4, ei4⟩ := is_v gg10
  obtain rfl : w4 = (.int i4) := Option.some.inj ei4
  have S_CHUNK_SHIFT := Sta.start (own_evInt hn) (Or.inr ⟨(hw _ (List.mem_of_getElem? (i := 3) rfl)), (hw _ (List.mem_of_getElem? (i := 19) rfl))⟩)
  obtain ⟨n, o, h1, h2, h3, _, L, rfl, ⟨rfl, N⟩, hq⟩ := rm_law l s _ hw tables_1 i0 i1 i2 i3 i4  s.heap s.heap.size (Nat.le_refl _) S_CHUNK_SHIFT p e ha hc hk s m _ below hf ((Spec.applies_iff_loose hf).mp happ).1 ⟨rfl, State.Warmed39.refl s, rfl⟩ trivial
  refine ⟨n, _, h1, h2, h3, hpost _ _ _ _ _ _ ⟨Cond.after_iff.mpr rfl, Cond.after_iff.mpr (eq_i res_at (Term.int_eval (1)) rfl), trivial⟩ ⟨hq.1, hq.2.1, (hq.2.2.sift fun y hy => Or.inr (N y hy)).mono (by decide) (by decide)⟩⟩
theorem main_1_1 : Claimed_1_1 := comes_1 fun _ _ _ _ _ _ h hF => ⟨h.1, hF⟩
theorem main_1_2 : Claimed_1_2 := comes_1 fun _ _ _ _ _ _ h hF => ⟨h.2.1, hF⟩
end Jvm.Pilot.@@N@@
namespace Jvm.Pilot.@@N@@
open Jvm Jvm.ClassFile Sem Op Lib Jvm.Free Jvm.Stand Jvm.Pilot.@@N@@.Jvm.D
/-! MADE BY PROGRAM (witnessworld.py) out of the Statement's table words and the real class files: 14 classes; the members and pool entries that the words name. The judged class is class 1, her method 1. -/
namespace start1
open Jvm.ClassFile
def u (s : String) : CpInfo := .utf8 (stringToUtf16 s)
/-- a pool by its gaps: so many unusable entries, then the entry; so many at the end -/
def gap : Nat → List CpInfo → List CpInfo
  | 0, r => r
  | n + 1, r => .unusable :: gap n r
def poolList (es : List (Nat × CpInfo)) (last : Nat) : List CpInfo := es.foldr (fun e r => gap e.1 (e.2 :: r)) (gap last [])
def pool (es : List (Nat × CpInfo)) (last : Nat) : Array CpInfo := ⟨poolList es last⟩
def fileOf (pool : Array CpInfo) (this : Nat) (attrs : Array Attribute := #[]) (ms : Array MethodInfo := #[]) (fl : Nat := 33) (sup : Nat := 0) (ifs : Array Nat := #[]) (fds : Array FieldInfo := #[]) : ClassFile where
  minorVersion := 0
  majorVersion := 65
  constantPool := pool
  accessFlags := fl
  thisClass := this
  superClass := sup
  interfaces := ifs
  fields := fds
  methods := ms
  attributes := attrs
def plain (name : String) (sup : Option ClassId) : Class where
  name := name
  kind := .ordinary
  loader := none
  accessFlags := 33
  super := sup
  interfaces := #[]
  cf := none
  fields := #[]
  methods := #[]
  instanceTypes := #[]
  staticTypes := #[]
  resolved := #[]
  callSites := []
  init := .initialized
  statics := none
  mirror := none

def pool0 : Array CpInfo := pool [(5, u "<init>"), (0, u "()V"), (1, .class_ 10), (1, u "java/lang/Object")] 113

def k0c0 : Code := { maxStack := 0, maxLocals := 1, code := object_method_1_code, exceptionTable := #[], attributes := #[] }
def k0m0 : Method := { name := "<init>", desc := "()V", sig := { parameters := [], returnType := none }, accessFlags := 1, code := some k0c0 }
/-- java/lang/Object -/
def k0 : Class := { plain "java/lang/Object" none with
  accessFlags := 33
  interfaces := #[]
  cf := some (fileOf pool0 8 #[] #[{ accessFlags := 1, nameIndex := 5, descriptorIndex := 6, attributes := #[] }] 33 0 #[] #[])
  fields := #[]
  methods := #[k0m0]
  instanceTypes := #[]
  staticTypes := #[]
  resolved := Array.replicate 124 none
  statics := none }

def pool1 : Array CpInfo := pool [(2, .class_ 4), (0, .nameAndType 5 6), (0, u "java/lang/Object"), (0, u "<init>"), (0, u "()V"), (0, .integer 2147483647), (0, .class_ 9), (0, u "com/example/swarm_tally/swarmtally/ChunkMarks"), (0, .methodref 8 3), (0, .methodref 8 12), (0, .nameAndType 13 14), (0, u "grow"), (0, u "(I)V"), (0, .methodref 8 16), (0, .nameAndType 17 14), (0, u "mark"), (0, .methodref 8 19), (0, .nameAndType 20 21), (0, u "next"), (0, u "(I)I"), (0, .class_ 23), (0, u "com/example/swarm_tally/swarmtally/ChunkMarksNextPinLaw"), (2, u "law"), (0, u "(IIIII)Z")] 3

def k1m0 : Method := { name := "<init>", desc := "()V", sig := { parameters := [], returnType := none }, accessFlags := 1, code := none }
def k1c1 : Code := { maxStack := 3, maxLocals := 18, code := code, exceptionTable := #[], attributes := #[] }
def k1m1 : Method := { name := "law", desc := "(IIIII)Z", sig := { parameters := [.int, .int, .int, .int, .int], returnType := some .boolean }, accessFlags := 9, code := some k1c1 }
/-- com/example/swarm_tally/swarmtally/ChunkMarksNextPinLaw -/
def k1 : Class := { plain "com/example/swarm_tally/swarmtally/ChunkMarksNextPinLaw" (some 0) with
  accessFlags := 49
  interfaces := #[]
  cf := some (fileOf pool1 22 #[] #[{ accessFlags := 1, nameIndex := 5, descriptorIndex := 6, attributes := #[] }, { accessFlags := 9, nameIndex := 26, descriptorIndex := 27, attributes := #[] }] 49 2 #[] #[])
  fields := #[]
  methods := #[k1m0, k1m1]
  instanceTypes := #[]
  staticTypes := #[]
  resolved := Array.replicate 31 none
  statics := none }

def pool2 : Array CpInfo := pool [(1, .methodref 2 3), (0, .class_ 4), (0, .nameAndType 5 6), (0, u "java/lang/Object"), (0, u "<init>"), (0, u "()V"), (0, .fieldref 8 9), (0, .class_ 10), (0, .nameAndType 11 12), (0, u "com/example/swarm_tally/swarmtally/ChunkMarks"), (0, u "changed"), (0, u "[Z"), (0, .fieldref 8 14), (0, .nameAndType 15 16), (0, u "CHUNK_SHIFT"), (0, u "I"), (0, .methodref 18 19), (0, .class_ 20), (0, .nameAndType 21 22), (0, u "java/util/Arrays"), (0, u "copyOf"), (0, u "([ZI)[Z"), (9, u "(I)I"), (0, u "CHUNK_ENTRIES"), (4, u "grow"), (0, u "(I)V"), (1, u "mark"), (0, u "next")] 4

def k2c0 : Code := { maxStack := 2, maxLocals := 1, code := prog_5_method_1_code, exceptionTable := #[], attributes := #[] }
def k2m0 : Method := { name := "<init>", desc := "()V", sig := { parameters := [], returnType := none }, accessFlags := 0, code := some k2c0 }
def k2c1 : Code := { maxStack := 3, maxLocals := 3, code := prog_5_method_2_code, exceptionTable := #[], attributes := #[] }
def k2m1 : Method := { name := "grow", desc := "(I)V", sig := { parameters := [.int], returnType := none }, accessFlags := 0, code := some k2c1 }
def k2c2 : Code := { maxStack := 3, maxLocals := 2, code := prog_5_method_3_code, exceptionTable := #[], attributes := #[] }
def k2m2 : Method := { name := "mark", desc := "(I)V", sig := { parameters := [.int], returnType := none }, accessFlags := 0, code := some k2c2 }
def k2c3 : Code := { maxStack := 2, maxLocals := 3, code := prog_5_method_4_code, exceptionTable := #[], attributes := #[] }
def k2m3 : Method := { name := "next", desc := "(I)I", sig := { parameters := [.int], returnType := some .int }, accessFlags := 0, code := some k2c3 }
/-- com/example/swarm_tally/swarmtally/ChunkMarks -/
def k2 : Class := { plain "com/example/swarm_tally/swarmtally/ChunkMarks" (some 0) with
  accessFlags := 48
  interfaces := #[]
  cf := some (fileOf pool2 8 #[] #[{ accessFlags := 0, nameIndex := 5, descriptorIndex := 6, attributes := #[] }, { accessFlags := 0, nameIndex := 38, descriptorIndex := 39, attributes := #[] }, { accessFlags := 0, nameIndex := 41, descriptorIndex := 39, attributes := #[] }, { accessFlags := 0, nameIndex := 42, descriptorIndex := 32, attributes := #[] }] 48 2 #[] #[{ accessFlags := 24, nameIndex := 33, descriptorIndex := 16, attributes := #[] }, { accessFlags := 26, nameIndex := 15, descriptorIndex := 16, attributes := #[] }, { accessFlags := 2, nameIndex := 11, descriptorIndex := 12, attributes := #[] }])
  fields := #[{ name := "CHUNK_ENTRIES", type := .int, accessFlags := 24, slot := 0, constantValue := 0 }, { name := "CHUNK_SHIFT", type := .int, accessFlags := 26, slot := 1, constantValue := 0 }, { name := "changed", type := (.array .boolean), accessFlags := 2, slot := 0, constantValue := 0 }]
  methods := #[k2m0, k2m1, k2m2, k2m3]
  instanceTypes := #[(.array .boolean)]
  staticTypes := #[.int, .int]
  resolved := Array.replicate 47 none
  statics := some 0 }

def pool3 : Array CpInfo := pool [(2, .class_ 4), (1, u "java/lang/Object"), (0, u "<init>"), (0, u "()V"), (7, .class_ 16), (1, u "java/util/Arrays"), (57, .class_ 76), (1, u "java/util/Arrays$NaturalOrder"), (36, .class_ 115), (1, u "java/util/Arrays$LegacyMergeSort"), (1, u "Z"), (32, .methodref 151 152), (0, .class_ 153), (0, .nameAndType 154 155), (0, u "java/lang/System"), (0, u "arraycopy"), (0, u "(Ljava/lang/Object;ILjava/lang/Object;II)V"), (146, u "copyOf"), (1, .methodref 305 306), (0, .class_ 307), (0, .nameAndType 308 309), (0, u "java/lang/Math"), (0, u "min"), (0, u "(II)I"), (65, .class_ 376), (0, u "java/util/Arrays$ArrayList"), (68, u "$assertionsDisabled"), (269, u "MIN_ARRAY_SORT_GRAN"), (0, u "I"), (2, u "INSERTIONSORT_THRESHOLD"), (156, u "([ZI)[Z"), (98, .class_ 976), (0, u "java/util/Arrays$ArrayItr")] 52

def k3m0 : Method := { name := "<init>", desc := "()V", sig := { parameters := [], returnType := none }, accessFlags := 2, code := none }
def k3c1 : Code := { maxStack := 6, maxLocals := 3, code := jdk_65_method_128_code, exceptionTable := #[], attributes := #[] }
def k3m1 : Method := { name := "copyOf", desc := "([ZI)[Z", sig := { parameters := [(.array .boolean), .int], returnType := some (.array .boolean) }, accessFlags := 9, code := some k3c1 }
/-- java/util/Arrays -/
def k3 : Class := { plain "java/util/Arrays" (some 0) with
  accessFlags := 49
  interfaces := #[]
  cf := some (fileOf pool3 14 #[.nestMembers #[975, 375, 113, 74]] #[{ accessFlags := 2, nameIndex := 5, descriptorIndex := 6, attributes := #[] }, { accessFlags := 9, nameIndex := 302, descriptorIndex := 876, attributes := #[] }] 49 2 #[] #[{ accessFlags := 26, nameIndex := 715, descriptorIndex := 716, attributes := #[] }, { accessFlags := 26, nameIndex := 719, descriptorIndex := 716, attributes := #[] }, { accessFlags := 4120, nameIndex := 445, descriptorIndex := 117, attributes := #[] }])
  fields := #[{ name := "MIN_ARRAY_SORT_GRAN", type := .int, accessFlags := 26, slot := 0, constantValue := 0 }, { name := "INSERTIONSORT_THRESHOLD", type := .int, accessFlags := 26, slot := 1, constantValue := 0 }, { name := "$assertionsDisabled", type := .boolean, accessFlags := 4120, slot := 2, constantValue := 0 }]
  methods := #[k3m0, k3m1]
  instanceTypes := #[]
  staticTypes := #[.int, .int, .boolean]
  resolved := Array.replicate 1029 none
  statics := none }

def pool4 : Array CpInfo := pool [(1, .class_ 2), (0, u "java/lang/Math"), (1, .class_ 6), (1, u "java/lang/Object"), (0, u "<init>"), (0, u "()V"), (89, .class_ 100), (1, u "java/lang/Math$RandomNumberGeneratorHolder"), (71, u "negativeZeroFloatBits"), (0, u "J"), (2, u "negativeZeroDoubleBits"), (24, u "min"), (43, u "$assertionsDisabled"), (0, u "Z"), (88, u "(II)I"), (2, u "twoToTheDoubleScaleDown"), (0, u "D"), (4, u "twoToTheDoubleScaleUp"), (9, u "E"), (3, u "PI"), (2, u "TAU"), (2, u "DEGREES_TO_RADIANS"), (0, u "RADIANS_TO_DEGREES")] 94

def k4m0 : Method := { name := "<init>", desc := "()V", sig := { parameters := [], returnType := none }, accessFlags := 2, code := none }
def k4c1 : Code := { maxStack := 2, maxLocals := 2, code := jdk_29_method_69_code, exceptionTable := #[], attributes := #[] }
def k4m1 : Method := { name := "min", desc := "(II)I", sig := { parameters := [.int, .int], returnType := some .int }, accessFlags := 9, code := some k4c1 }
/-- java/lang/Math -/
def k4 : Class := { plain "java/lang/Math" (some 0) with
  accessFlags := 49
  interfaces := #[]
  cf := some (fileOf pool4 1 #[.nestMembers #[98]] #[{ accessFlags := 2, nameIndex := 7, descriptorIndex := 8, attributes := #[] }, { accessFlags := 9, nameIndex := 201, descriptorIndex := 335, attributes := #[] }] 49 4 #[] #[{ accessFlags := 25, nameIndex := 354, descriptorIndex := 339, attributes := #[] }, { accessFlags := 25, nameIndex := 358, descriptorIndex := 339, attributes := #[] }, { accessFlags := 25, nameIndex := 361, descriptorIndex := 339, attributes := #[] }, { accessFlags := 26, nameIndex := 364, descriptorIndex := 339, attributes := #[] }, { accessFlags := 26, nameIndex := 365, descriptorIndex := 339, attributes := #[] }, { accessFlags := 26, nameIndex := 172, descriptorIndex := 173, attributes := #[] }, { accessFlags := 26, nameIndex := 176, descriptorIndex := 173, attributes := #[] }, { accessFlags := 8, nameIndex := 344, descriptorIndex := 339, attributes := #[] }, { accessFlags := 8, nameIndex := 338, descriptorIndex := 339, attributes := #[] }, { accessFlags := 4120, nameIndex := 245, descriptorIndex := 246, attributes := #[] }])
  fields := #[{ name := "E", type := .double, accessFlags := 25, slot := 0, constantValue := 0 }, { name := "PI", type := .double, accessFlags := 25, slot := 1, constantValue := 0 }, { name := "TAU", type := .double, accessFlags := 25, slot := 2, constantValue := 0 }, { name := "DEGREES_TO_RADIANS", type := .double, accessFlags := 26, slot := 3, constantValue := 0 }, { name := "RADIANS_TO_DEGREES", type := .double, accessFlags := 26, slot := 4, constantValue := 0 }, { name := "negativeZeroFloatBits", type := .long, accessFlags := 26, slot := 5, constantValue := 0 }, { name := "negativeZeroDoubleBits", type := .long, accessFlags := 26, slot := 6, constantValue := 0 }, { name := "twoToTheDoubleScaleUp", type := .double, accessFlags := 8, slot := 7, constantValue := 0 }, { name := "twoToTheDoubleScaleDown", type := .double, accessFlags := 8, slot := 8, constantValue := 0 }, { name := "$assertionsDisabled", type := .boolean, accessFlags := 4120, slot := 9, constantValue := 0 }]
  methods := #[k4m0, k4m1]
  instanceTypes := #[]
  staticTypes := #[.double, .double, .double, .double, .double, .long, .long, .double, .double, .boolean]
  resolved := Array.replicate 460 none
  statics := none }

def pool5 : Array CpInfo := pool [(2, .class_ 4), (1, u "java/lang/Object"), (0, u "<init>"), (0, u "()V"), (1, .class_ 10), (1, u "java/lang/System"), (0, u "allowSecurityManager"), (0, u "I"), (16, u "cons"), (0, u "Ljava/io/Console;"), (77, .class_ 110), (1, u "java/lang/System$CallersHolder"), (43, u "initialErrStream"), (0, u "Ljava/io/PrintStream;"), (19, u "security"), (0, u "Ljava/lang/SecurityManager;"), (31, .class_ 209), (0, u "java/lang/System$1"), (7, u "props"), (0, u "Ljava/util/Properties;"), (2, u "lineSeparator"), (0, u "Ljava/lang/String;"), (96, .class_ 321), (1, u "java/lang/System$LoggerFinder"), (5, .class_ 328), (0, u "java/lang/System$Logger"), (67, u "err"), (2, u "out"), (91, u "notSupportedJnuEncoding"), (15, u "in"), (17, u "initialIn"), (0, u "Ljava/io/InputStream;"), (35, u "bootLayer"), (0, u "Ljava/lang/ModuleLayer;"), (99, .class_ 664), (0, u "java/lang/System$2"), (9, u "NEVER"), (2, u "MAYBE"), (49, u "arraycopy"), (0, u "(Ljava/lang/Object;ILjava/lang/Object;II)V"), (72, .class_ 802), (0, u "java/lang/System$Logger$Level")] 31

def k5m0 : Method := { name := "<init>", desc := "()V", sig := { parameters := [], returnType := none }, accessFlags := 2, code := none }
def k5m1 : Method := { name := "arraycopy", desc := "(Ljava/lang/Object;ILjava/lang/Object;II)V", sig := { parameters := [(.object "java/lang/Object"), .int, (.object "java/lang/Object"), .int, .int], returnType := none }, accessFlags := 265, code := none }
/-- java/lang/System -/
def k5 : Class := { plain "java/lang/System" (some 0) with
  accessFlags := 49
  interfaces := #[]
  cf := some (fileOf pool5 8 #[.nestMembers #[319, 327, 801, 108, 663, 208]] #[{ accessFlags := 2, nameIndex := 5, descriptorIndex := 6, attributes := #[] }, { accessFlags := 265, nameIndex := 727, descriptorIndex := 728, attributes := #[] }] 49 2 #[] #[{ accessFlags := 25, nameIndex := 507, descriptorIndex := 526, attributes := #[] }, { accessFlags := 25, nameIndex := 399, descriptorIndex := 155, attributes := #[] }, { accessFlags := 25, nameIndex := 396, descriptorIndex := 155, attributes := #[] }, { accessFlags := 10, nameIndex := 525, descriptorIndex := 526, attributes := #[] }, { accessFlags := 26, nameIndex := 674, descriptorIndex := 12, attributes := #[] }, { accessFlags := 26, nameIndex := 677, descriptorIndex := 12, attributes := #[] }, { accessFlags := 10, nameIndex := 11, descriptorIndex := 12, attributes := #[] }, { accessFlags := 74, nameIndex := 175, descriptorIndex := 176, attributes := #[] }, { accessFlags := 10, nameIndex := 491, descriptorIndex := 222, attributes := #[] }, { accessFlags := 74, nameIndex := 29, descriptorIndex := 30, attributes := #[] }, { accessFlags := 74, nameIndex := 154, descriptorIndex := 155, attributes := #[] }, { accessFlags := 10, nameIndex := 217, descriptorIndex := 218, attributes := #[] }, { accessFlags := 10, nameIndex := 221, descriptorIndex := 222, attributes := #[] }, { accessFlags := 8, nameIndex := 562, descriptorIndex := 563, attributes := #[] }])
  fields := #[{ name := "in", type := (.object "java/io/InputStream"), accessFlags := 25, slot := 0, constantValue := 0 }, { name := "out", type := (.object "java/io/PrintStream"), accessFlags := 25, slot := 1, constantValue := 0 }, { name := "err", type := (.object "java/io/PrintStream"), accessFlags := 25, slot := 2, constantValue := 0 }, { name := "initialIn", type := (.object "java/io/InputStream"), accessFlags := 10, slot := 3, constantValue := 0 }, { name := "NEVER", type := .int, accessFlags := 26, slot := 4, constantValue := 0 }, { name := "MAYBE", type := .int, accessFlags := 26, slot := 5, constantValue := 0 }, { name := "allowSecurityManager", type := .int, accessFlags := 10, slot := 6, constantValue := 0 }, { name := "security", type := (.object "java/lang/SecurityManager"), accessFlags := 74, slot := 7, constantValue := 0 }, { name := "notSupportedJnuEncoding", type := (.object "java/lang/String"), accessFlags := 10, slot := 8, constantValue := 0 }, { name := "cons", type := (.object "java/io/Console"), accessFlags := 74, slot := 9, constantValue := 0 }, { name := "initialErrStream", type := (.object "java/io/PrintStream"), accessFlags := 74, slot := 10, constantValue := 0 }, { name := "props", type := (.object "java/util/Properties"), accessFlags := 10, slot := 11, constantValue := 0 }, { name := "lineSeparator", type := (.object "java/lang/String"), accessFlags := 10, slot := 12, constantValue := 0 }, { name := "bootLayer", type := (.object "java/lang/ModuleLayer"), accessFlags := 8, slot := 13, constantValue := 0 }]
  methods := #[k5m0, k5m1]
  instanceTypes := #[]
  staticTypes := #[(.object "java/io/InputStream"), (.object "java/io/PrintStream"), (.object "java/io/PrintStream"), (.object "java/io/InputStream"), .int, .int, .int, (.object "java/lang/SecurityManager"), (.object "java/lang/String"), (.object "java/io/Console"), (.object "java/io/PrintStream"), (.object "java/util/Properties"), (.object "java/lang/String"), (.object "java/lang/ModuleLayer")]
  resolved := Array.replicate 834 none
  statics := none }

def pool6 : Array CpInfo := pool [(1, u "java/lang/Cloneable"), (0, .class_ 1), (0, u "java/lang/Object"), (0, .class_ 3)] 3

/-- java/lang/Cloneable -/
def k6 : Class := { plain "java/lang/Cloneable" (some 0) with
  accessFlags := 1537
  interfaces := #[]
  cf := some (fileOf pool6 2 #[] #[] 1537 4 #[] #[])
  fields := #[]
  methods := #[]
  instanceTypes := #[]
  staticTypes := #[]
  resolved := Array.replicate 8 none
  statics := none }

def pool7 : Array CpInfo := pool [(1, u "java/io/Serializable"), (0, .class_ 1), (0, u "java/lang/Object"), (0, .class_ 3)] 3

/-- java/io/Serializable -/
def k7 : Class := { plain "java/io/Serializable" (some 0) with
  accessFlags := 1537
  interfaces := #[]
  cf := some (fileOf pool7 2 #[] #[] 1537 4 #[] #[])
  fields := #[]
  methods := #[]
  instanceTypes := #[]
  staticTypes := #[]
  resolved := Array.replicate 8 none
  statics := none }

/-- the primitive boolean -/
def k8 : Class := { plain "boolean" none with kind := .primitive 'Z', accessFlags := 0x411 }
/-- [Z -/
def k9 : Class := { plain "[Z" (some 0) with kind := .array 8 .boolean, interfaces := #[6, 7], accessFlags := 1041 }

/-- the primitive byte -/
def k10 : Class := { plain "byte" none with kind := .primitive 'B', accessFlags := 0x411 }
/-- [B -/
def k11 : Class := { plain "[B" (some 0) with kind := .array 10 .byte, interfaces := #[6, 7], accessFlags := 1041 }

/-- the primitive int -/
def k12 : Class := { plain "int" none with kind := .primitive 'I', accessFlags := 0x411 }
/-- [I -/
def k13 : Class := { plain "[I" (some 0) with kind := .array 12 .int, interfaces := #[6, 7], accessFlags := 1041 }

def heap : Heap := #[{ cls := 2, slots := #[.int 0, .int 10], vm := .statics 2 }]
def classes : Array Class := #[k0, k1, k2, k3, k4, k5, k6, k7, k8, k9, k10, k11, k12, k13]
def interned : List (Array UInt16 × Addr) := []
def slotsUsed : Nat := 2
def theMethod : MethodId := ⟨1, 1⟩
def args0 : Array Value := #[.int 5, .int 5, .int 5, .int 5, .int 5]
def aboutOver (below : List Frame) : State where
  vm := { classes := classes, interned := interned.toArray }
  heap := heap
  slotsUsed := slotsUsed
  threads := #[{ frames := .invoking theMethod args0 :: below }]
def below0 : List Frame := [.native { method := ⟨0, 0⟩, args := #[] }]
def about1 : State := aboutOver below0
def p0 : Program := .bare "" "" ""
def e0 : Env := launch0.env 0 0 0
theorem w_frames : about1.frames = Frame.invoking theMethod args0 :: below0 := rfl
set_option maxRecDepth 65536 in
theorem w_args : argsFit about1.vm theMethod args0 = true := by decide +kernel
set_option maxRecDepth 65536 in
theorem w_heap : heapFits about1 = true := by decide +kernel
set_option maxRecDepth 65536 in
theorem w_runnable : about1.curStatus? = some .runnable := by decide +kernel
set_option maxRecDepth 65536 in
theorem w_alone : about1.alone = true := by decide +kernel
set_option maxRecDepth 65536 in
theorem w_named : about1.methodNamed? x = some theMethod := by decide +kernel
set_option maxRecDepth 65536 in
theorem w_hears : about1.hears theMethod below0 = true := by decide +kernel
set_option maxRecDepth 65536 in
theorem w_ripe : about1.ripe theMethod args0 below0 = true := by decide +kernel
theorem w_running : about1.status = .running := rfl
set_option maxRecDepth 65536 in
theorem w_room : about1.hasRoom e0.platform room_1 = true :=
  launch0.hasRoom_least _ room_1 (by decide +kernel) (by decide +kernel) (by decide +kernel) (by decide +kernel) (by decide +kernel) (by decide +kernel)
theorem allAtoms_all (ts : List Jvm.Cond) (a : Array Jvm.Value) (st : Jvm.State) : (allAtoms ts).before a st = ts.all (fun c => c.before a st) := by
  induction ts with
  | nil => rfl
  | cons c t ih =>
    show (Jvm.Cond.and c (allAtoms t)).before a st = _
    rw [Jvm.Cond.before_and, ih, List.all_cons]
def words1 : List Jvm.Cond := Jvm.Cond.code x code maxLocals ret :: tables_1
/-- a 'code' word, met by the world's own term for the bytes: nothing is compared byte by byte -/
theorem code_word {y : MethodName} {bytes : ByteArray} {mx : Nat} {rt : Option FieldType} {a : Array Value} {s : State} {m : MethodId} {meth : Method} {c : Code} (h1 : s.methodNamed? y = some m) (h2 : s.vm.method? m = some meth) (h3 : meth.code = some c) (h4 : c.code = bytes)
    (h5 : (c.maxLocals == mx && c.exceptionTable.isEmpty && decide (c.maxStack ≤ mostOperands) && decide (meth.sig.returnType = rt) && !meth.locks && decide (parseMethodDescriptor y.desc = some meth.sig)) = true) : (Jvm.Cond.code y bytes mx rt).before a s = true := by
  simp only [Bool.and_eq_true, beq_iff_eq, Bool.not_eq_true', decide_eq_true_eq] at h5
  obtain ⟨⟨⟨⟨⟨g1, g2⟩, g3⟩, g4⟩, g5⟩, g6⟩ := h5
  simp [Cond.before, Cond.holds, Cond.value, h1, h2, h3, h4, g1, g2, g3, g4, g5, g6]
def isCode : Jvm.Cond → Bool
  | .code _ _ _ _ => true
  | _ => false
theorem all_split {L : List Jvm.Cond} {P : Jvm.Cond → Bool} (h1 : L.all (fun c => isCode c || P c) = true) (h2 : ∀ c ∈ L.filter isCode, P c = true) : L.all P = true := by
  refine List.all_eq_true.mpr fun c hc => ?_
  have h := List.all_eq_true.mp h1 c hc
  rcases Bool.eq_false_or_eq_true (isCode c) with hi | hi
  · exact h2 c (List.mem_filter.mpr ⟨hc, hi⟩)
  · simpa [hi] using h
set_option maxRecDepth 65536 in
theorem w_c0 : (Jvm.Cond.code x code maxLocals ret).before args0 about1 = true := code_word (m := ⟨1, 1⟩) (meth := k1m1) (c := k1c1) (by decide +kernel) rfl rfl rfl (by decide +kernel)
set_option maxRecDepth 65536 in
theorem w_c1 : (Jvm.Cond.code ({ cls := "com/example/swarm_tally/swarmtally/ChunkMarks", name := "<init>", desc := "()V" } : Jvm.MethodName) prog_5_method_1_code (1 : Nat) (Option.none : Option Jvm.ClassFile.FieldType)).before args0 about1 = true := code_word (m := ⟨2, 0⟩) (meth := k2m0) (c := k2c0) (by decide +kernel) rfl rfl rfl (by decide +kernel)
set_option maxRecDepth 65536 in
theorem w_c2 : (Jvm.Cond.code ({ cls := "java/lang/Object", name := "<init>", desc := "()V" } : Jvm.MethodName) object_method_1_code (1 : Nat) (Option.none : Option Jvm.ClassFile.FieldType)).before args0 about1 = true := code_word (m := ⟨0, 0⟩) (meth := k0m0) (c := k0c0) (by decide +kernel) rfl rfl rfl (by decide +kernel)
set_option maxRecDepth 65536 in
theorem w_c3 : (Jvm.Cond.code ({ cls := "com/example/swarm_tally/swarmtally/ChunkMarks", name := "grow", desc := "(I)V" } : Jvm.MethodName) prog_5_method_2_code (3 : Nat) (Option.none : Option Jvm.ClassFile.FieldType)).before args0 about1 = true := code_word (m := ⟨2, 1⟩) (meth := k2m1) (c := k2c1) (by decide +kernel) rfl rfl rfl (by decide +kernel)
set_option maxRecDepth 65536 in
theorem w_c4 : (Jvm.Cond.code ({ cls := "com/example/swarm_tally/swarmtally/ChunkMarks", name := "next", desc := "(I)I" } : Jvm.MethodName) prog_5_method_4_code (3 : Nat) (Option.some Jvm.ClassFile.FieldType.int)).before args0 about1 = true := code_word (m := ⟨2, 3⟩) (meth := k2m3) (c := k2c3) (by decide +kernel) rfl rfl rfl (by decide +kernel)
set_option maxRecDepth 65536 in
theorem w_c5 : (Jvm.Cond.code ({ cls := "java/util/Arrays", name := "copyOf", desc := "([ZI)[Z" } : Jvm.MethodName) jdk_65_method_128_code (3 : Nat) (Option.some (Jvm.ClassFile.FieldType.array Jvm.ClassFile.FieldType.boolean))).before args0 about1 = true := code_word (m := ⟨3, 1⟩) (meth := k3m1) (c := k3c1) (by decide +kernel) rfl rfl rfl (by decide +kernel)
set_option maxRecDepth 65536 in
theorem w_c6 : (Jvm.Cond.code ({ cls := "java/lang/Math", name := "min", desc := "(II)I" } : Jvm.MethodName) jdk_29_method_69_code (2 : Nat) (Option.some Jvm.ClassFile.FieldType.int)).before args0 about1 = true := code_word (m := ⟨4, 1⟩) (meth := k4m1) (c := k4c1) (by decide +kernel) rfl rfl rfl (by decide +kernel)
set_option maxRecDepth 65536 in
theorem w_c7 : (Jvm.Cond.code ({ cls := "com/example/swarm_tally/swarmtally/ChunkMarks", name := "mark", desc := "(I)V" } : Jvm.MethodName) prog_5_method_3_code (2 : Nat) (Option.none : Option Jvm.ClassFile.FieldType)).before args0 about1 = true := code_word (m := ⟨2, 2⟩) (meth := k2m2) (c := k2c2) (by decide +kernel) rfl rfl rfl (by decide +kernel)
def codes1 : List Jvm.Cond := [Jvm.Cond.code x code maxLocals ret, Jvm.Cond.code ({ cls := "com/example/swarm_tally/swarmtally/ChunkMarks", name := "<init>", desc := "()V" } : Jvm.MethodName) prog_5_method_1_code (1 : Nat) (Option.none : Option Jvm.ClassFile.FieldType), Jvm.Cond.code ({ cls := "java/lang/Object", name := "<init>", desc := "()V" } : Jvm.MethodName) object_method_1_code (1 : Nat) (Option.none : Option Jvm.ClassFile.FieldType), Jvm.Cond.code ({ cls := "com/example/swarm_tally/swarmtally/ChunkMarks", name := "grow", desc := "(I)V" } : Jvm.MethodName) prog_5_method_2_code (3 : Nat) (Option.none : Option Jvm.ClassFile.FieldType), Jvm.Cond.code ({ cls := "com/example/swarm_tally/swarmtally/ChunkMarks", name := "next", desc := "(I)I" } : Jvm.MethodName) prog_5_method_4_code (3 : Nat) (Option.some Jvm.ClassFile.FieldType.int), Jvm.Cond.code ({ cls := "java/util/Arrays", name := "copyOf", desc := "([ZI)[Z" } : Jvm.MethodName) jdk_65_method_128_code (3 : Nat) (Option.some (Jvm.ClassFile.FieldType.array Jvm.ClassFile.FieldType.boolean)), Jvm.Cond.code ({ cls := "java/lang/Math", name := "min", desc := "(II)I" } : Jvm.MethodName) jdk_29_method_69_code (2 : Nat) (Option.some Jvm.ClassFile.FieldType.int), Jvm.Cond.code ({ cls := "com/example/swarm_tally/swarmtally/ChunkMarks", name := "mark", desc := "(I)V" } : Jvm.MethodName) prog_5_method_3_code (2 : Nat) (Option.none : Option Jvm.ClassFile.FieldType)]
set_option maxRecDepth 65536 in
theorem codes_eq : words1.filter isCode = codes1 := rfl
theorem w_codes : ∀ c ∈ words1.filter isCode, c.before args0 about1 = true := by
  rw [codes_eq]
  intro c hc
  simp only [codes1, List.mem_cons, List.not_mem_nil, or_false] at hc
  rcases hc with rfl | rfl | rfl | rfl | rfl | rfl | rfl | rfl
  · exact w_c0
  · exact w_c1
  · exact w_c2
  · exact w_c3
  · exact w_c4
  · exact w_c5
  · exact w_c6
  · exact w_c7
set_option maxRecDepth 65536 in
theorem w_t1 : (words1.take 24).all (fun c => isCode c || c.before args0 about1) = true := by decide +kernel
set_option maxRecDepth 65536 in
theorem w_t2 : (words1.drop 24).all (fun c => isCode c || c.before args0 about1) = true := by decide +kernel
theorem w_tables : (allAtoms (Jvm.Cond.code x code maxLocals ret :: tables_1)).before args0 about1 = true := by
  rw [allAtoms_all]
  show words1.all (fun c => c.before args0 about1) = true
  refine all_split ?_ w_codes
  rw [← List.take_append_drop 24 words1, List.all_append, w_t1, w_t2]
  rfl
set_option maxRecDepth 65536 in
theorem w_case : (Jvm.Cond.and given_1 narrow_1).before args0 about1 = true := by decide +kernel
theorem w_applies : (headSpec (Jvm.Cond.code x code maxLocals ret :: tables_1) room_1).applies x e0.platform about1 = true :=
  (Spec.applies_iff w_frames).mpr ⟨w_running, w_runnable, w_alone, w_named, w_hears, w_ripe, w_room, w_tables⟩
theorem atStart : AtStart classFile x code maxLocals ret World_1 tables_1 room_1 Calls_1 rest_1 Pre_1 launch0 p0 e0 about1 theMethod args0 below0 :=
  ⟨lists_1, trivial, launch0.admits_env _ _ _, launch0.least_env, fairChoices_fair.cas, fairChoices_fair.clock, w_frames, w_args, w_heap, w_applies, trivial, trivial, w_case⟩
end start1
theorem witness_1 : WitnessClaimed_1 := ⟨start1.p0, start1.e0, start1.about1, start1.theMethod, start1.args0, start1.below0, start1.atStart⟩
end Jvm.Pilot.@@N@@
