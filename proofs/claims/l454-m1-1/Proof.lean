import JvmDerived
import JvmDerived.Pilot.@@N@@Statement
import JvmDerived.Pilot.@@N@@Code
set_option linter.unusedVariables false
set_option linter.unusedSimpArgs false
@@BLOCK:NumsL.lean.txt@@
namespace Jvm.Pilot.@@N@@
open Jvm Jvm.ClassFile Sem Op Lib Jvm.Free Jvm.Stand Jvm.LawKit Jvm.RoadKit Bundle Jvm.Pilot.@@N@@.Jvm.D
/-! own layer: the walk in continuation form -/
section OwnWalk
variable {p : Program} {l : Launch} {e : Env} {R : Room} {s : State} {m : MethodId} {args : Array Value} {below : List Frame} {meth : Method} {c : Code} {T T' : State} {locs : List Loc} {cells slots : Nat} {Q : Option Value → Heap → List Loc → Prop} {ck sk : Nat} {f f' : JFrame} {Z : State} {a0 : Array Value} {h h' : Heap}
/-- from this state and frame the invocation returns, and what it leaves is told by Q -/
def ownEnds (p : Program) (e : Env) (below : List Frame) (s : State) (Q : Option Value → Heap → List Loc → Prop) (ck sk : Nat) (T : State) (f : JFrame) : Prop :=
  ∃ s₂ o, Steps p.tables e below (T.setTop f) s₂ ∧ s₂.status = .running ∧ Ended s₂ below o ∧ ∃ v L, o = .returned v ∧ Q v s₂.heap L ∧ FrameEnd s o s₂ L ck sk
theorem ownGo (st : ∀ target, Steps p.tables e below (T'.setTop f') target → Steps p.tables e below (T.setTop f) target) (k : ownEnds p e below s Q ck sk T' f') : ownEnds p e below s Q ck sk T f := by
  obtain ⟨a, b, h1, h2⟩ := k
  exact ⟨a, b, st _ h1, h2⟩
theorem ownRun (st : Steps p.tables e below (T.setTop f) (T'.setTop f')) (k : ownEnds p e below s Q ck sk T' f') : ownEnds p e below s Q ck sk T f :=
  ownGo (fun _ q => st.trans q) k
theorem ownCast (q : f = f') (k : ownEnds p e below s Q ck sk T f') : ownEnds p e below s Q ck sk T f := q ▸ k
theorem ownRetI (X : Stand p l e R s m args below meth c T locs cells slots) (hx : p.tables.exec = Jvm.exec) {pc : Nat} {Ls : Array Slot} {z : Int32} {rest : List Value} (hret : meth.sig.returnType = some .int) (hd : decode c.code pc = .ok (.ireturn, 1)) (hk : meth.locks = false) (hc : cells ≤ ck) (hs : slots ≤ sk)
    (hQ : Q (some (.int z)) T.heap locs) : ownEnds p e below s Q ck sk T (mkF m pc Ls (.int z :: rest)) := by
  obtain ⟨fs, hr, hrun, hended, hW, hsame⟩ := X.leave (v := some (.int z)) (fun h => by rw [hret] at h; cases h) hk
  exact ⟨_, _, retOut X hx hret rfl (Or.inl ⟨rfl, Or.inl rfl, _, rfl⟩) hd hr, hrun, hended, _, _, rfl, hQ, ⟨_, rfl⟩, hW, hsame.mono hc hs⟩
theorem ownRetN (X : Stand p l e R s m args below meth c T locs cells slots) (hx : p.tables.exec = Jvm.exec) {pc : Nat} {Ls : Array Slot} {z r : Int32} {rest : List Value} {t : FieldType} (ht : t = .boolean ∨ t = .byte ∨ t = .char ∨ t = .short) (hret : meth.sig.returnType = some t) (hd : decode c.code pc = .ok (.ireturn, 1)) (hk : meth.locks = false) (hc : cells ≤ ck) (hs : slots ≤ sk)
    (hz : nar t z = r) (hQ : Q (some (.int r)) T.heap locs) : ownEnds p e below s Q ck sk T (mkF m pc Ls (.int z :: rest)) := by
  subst hz
  obtain ⟨fs, hr, hrun, hended, hW, hsame⟩ := X.leave (v := some (.int (nar t z))) (fun h => by rw [hret] at h; cases h) hk
  exact ⟨_, _, retN X hx hret ht hd hr, hrun, hended, _, _, rfl, hQ, ⟨_, rfl⟩, hW, hsame.mono hc hs⟩
theorem ownRetJ (X : Stand p l e R s m args below meth c T locs cells slots) (hx : p.tables.exec = Jvm.exec) {pc : Nat} {Ls : Array Slot} {z : Int64} {rest : List Value} (hret : meth.sig.returnType = some .long) (hd : decode c.code pc = .ok (.lreturn, 1)) (hk : meth.locks = false) (hc : cells ≤ ck) (hs : slots ≤ sk)
    (hQ : Q (some (.long z)) T.heap locs) : ownEnds p e below s Q ck sk T (mkF m pc Ls (.long z :: rest)) := by
  obtain ⟨fs, hr, hrun, hended, hW, hsame⟩ := X.leave (v := some (.long z)) (fun h => by rw [hret] at h; cases h) hk
  exact ⟨_, _, retOut X hx hret rfl (Or.inr (Or.inl ⟨rfl, rfl, _, rfl⟩)) hd hr, hrun, hended, _, _, rfl, hQ, ⟨_, rfl⟩, hW, hsame.mono hc hs⟩
theorem ownRetR (X : Stand p l e R s m args below meth c T locs cells slots) (hx : p.tables.exec = Jvm.exec) {pc : Nat} {Ls : Array Slot} {w : Value} {rest : List Value} {t : FieldType} (ht : t.isReference = true) (hn : narrow t w = w) (hw : w.isRef = true) (hret : meth.sig.returnType = some t) (hd : decode c.code pc = .ok (.areturn, 1)) (hk : meth.locks = false) (hc : cells ≤ ck) (hs : slots ≤ sk)
    (hQ : Q (some w) T.heap locs) : ownEnds p e below s Q ck sk T (mkF m pc Ls (w :: rest)) := by
  obtain ⟨fs, hr, hrun, hended, hW, hsame⟩ := X.leave (v := some w) (fun h => by rw [hret] at h; cases h) hk
  exact ⟨_, _, retOut X hx hret hn (Or.inr (Or.inr (Or.inr (Or.inr ⟨rfl, ht, hw⟩)))) hd hr, hrun, hended, _, _, rfl, hQ, ⟨_, rfl⟩, hW, hsame.mono hc hs⟩
theorem ownRetV (X : Stand p l e R s m args below meth c T locs cells slots) (hx : p.tables.exec = Jvm.exec) {pc : Nat} {Ls : Array Slot} (hret : meth.sig.returnType = none) (hd : decode c.code pc = .ok (.return_, 1)) (hk : meth.locks = false) (hc : cells ≤ ck) (hs : slots ≤ sk)
    (hQ : Q none T.heap locs) : ownEnds p e below s Q ck sk T (mkF m pc Ls []) := by
  obtain ⟨fs, hr, hrun, hended, hW, hsame⟩ := X.leave (v := none) (fun _ => rfl) hk
  exact ⟨_, _, X.returnOut hx hret hd hr, hrun, hended, _, _, rfl, hQ, ⟨_, rfl⟩, hW, hsame.mono hc hs⟩
/-- one place of a function turned -/
def ownUpd {α : Type} (f : Nat → α) (j : Nat) (x : α) : Nat → α := fun i => if i = j then x else f i
theorem ownUpd_same {α : Type} (f : Nat → α) (j : Nat) (x : α) : ownUpd f j x j = x := if_pos rfl
theorem ownUpd_ne {α : Type} (f : Nat → α) {i j : Nat} (x : α) (q : i ≠ j) : ownUpd f j x i = f i := if_neg q
/-- an array of ints (or bytes, chars ..): its length and its components -/
def ownAI (Z : State) (h : Heap) (a : Addr) (ty : FieldType) (n : Nat) (g : Nat → Int32) : Prop := ∃ cl : Cell, Arr Z h a cl ty ∧ cl.slots.size = n ∧ n < 2 ^ 31 ∧ ∀ i, i < n → cl.slots[i]? = some (.int (g i))
/-- an array of longs -/
def ownAJ (Z : State) (h : Heap) (a : Addr) (n : Nat) (g : Nat → Int64) : Prop := ∃ cl : Cell, Arr Z h a cl .long ∧ cl.slots.size = n ∧ n < 2 ^ 31 ∧ ∀ i, i < n → cl.slots[i]? = some (.long (g i))
variable {a b : Addr} {ty : FieldType} {n : Nat} {gi : Nat → Int32} {gj : Nat → Int64} {ws : List Addr} {sl : Nat} {v : Value}
theorem ownAI.lt (F : ownAI Z h a ty n gi) : a < h.size := by obtain ⟨c, A, -⟩ := F; exact A.lt
theorem ownAI.ext (F : ownAI Z h a ty n gi) (E : Ext h h') : ownAI Z h' a ty n gi := by obtain ⟨c, A, r⟩ := F; exact ⟨c, A.ext E, r⟩
theorem ownAI.other (F : ownAI Z h b ty n gi) (W : Wr h h' a sl v) (q : b ≠ a) : ownAI Z h' b ty n gi := by obtain ⟨c, A, r⟩ := F; exact ⟨c, A.other W q, r⟩
theorem ownAI.keep (F : ownAI Z h a ty n gi) (K : Keep h h' ws) (q : a ∉ ws) : ownAI Z h' a ty n gi := by obtain ⟨c, A, r⟩ := F; exact ⟨c, ⟨K.2.1 a c A.1 q, A.2⟩, r⟩
theorem ownAJ.lt (F : ownAJ Z h a n gj) : a < h.size := by obtain ⟨c, A, -⟩ := F; exact A.lt
theorem ownAJ.ext (F : ownAJ Z h a n gj) (E : Ext h h') : ownAJ Z h' a n gj := by obtain ⟨c, A, r⟩ := F; exact ⟨c, A.ext E, r⟩
theorem ownAJ.other (F : ownAJ Z h b n gj) (W : Wr h h' a sl v) (q : b ≠ a) : ownAJ Z h' b n gj := by obtain ⟨c, A, r⟩ := F; exact ⟨c, A.other W q, r⟩
theorem ownAJ.keep (F : ownAJ Z h a n gj) (K : Keep h h' ws) (q : a ∉ ws) : ownAJ Z h' a n gj := by obtain ⟨c, A, r⟩ := F; exact ⟨c, ⟨K.2.1 a c A.1 q, A.2⟩, r⟩
theorem ownAI.new {k : ClassId} {z : Int32} (A : Arr Z h a (newA k ty z) ty) (q : ¬ z < 0) (d : defaultValue ty = .int 0) (N : z.toNatClampNeg = n) : ownAI Z h a ty n (fun _ => 0) := by
  subst N
  refine ⟨_, A, sz_new _ _ _, (back32 q).2, fun i hi => ?_⟩
  simp [newA, hi, d]
theorem ownAJ.new {k : ClassId} {z : Int32} (A : Arr Z h a (newA k .long z) .long) (q : ¬ z < 0) (N : z.toNatClampNeg = n) : ownAJ Z h a n (fun _ => 0) := by
  subst N
  refine ⟨_, A, sz_new _ _ _, (back32 q).2, fun i hi => ?_⟩
  simp [newA, hi, defaultValue]
theorem ownAI.set (F : ownAI Z h a ty n gi) {j : Nat} {x : Int32} (W : Wr h h' a j (.int x)) : ownAI Z h' a ty n (ownUpd gi j x) := by
  obtain ⟨cl, A, S, N, H⟩ := F
  refine ⟨_, A.same W, by simpa [Cell.setSlot] using S, N, fun i hi => ?_⟩
  by_cases e : i = j
  · subst e; simp [Cell.setSlot, ownUpd, S, hi]
  · rw [ownUpd_ne _ _ e]
    show (cl.slots.setIfInBounds j (.int x))[i]? = _
    rw [Array.getElem?_setIfInBounds_ne (Ne.symm e)]; exact H i hi
theorem ownAJ.set (F : ownAJ Z h a n gj) {j : Nat} {x : Int64} (W : Wr h h' a j (.long x)) : ownAJ Z h' a n (ownUpd gj j x) := by
  obtain ⟨cl, A, S, N, H⟩ := F
  refine ⟨_, A.same W, by simpa [Cell.setSlot] using S, N, fun i hi => ?_⟩
  by_cases e : i = j
  · subst e; simp [Cell.setSlot, ownUpd, S, hi]
  · rw [ownUpd_ne _ _ e]
    show (cl.slots.setIfInBounds j (.long x))[i]? = _
    rw [Array.getElem?_setIfInBounds_ne (Ne.symm e)]; exact H i hi
/-- an index is inside -/
def ownIn (j : Int32) (n : Nat) : Prop := ¬ (j < 0 ∨ n ≤ j.toNatClampNeg)
theorem ownIn_of {j : Int32} {n : Nat} (h1 : 0 ≤ j.toInt) (h2 : j.toInt < n) : ownIn j n := by
  intro q
  rcases q with q | q
  · rw [Int32.lt_iff_toInt_lt] at q; simp only [Int32.reduceToInt] at q; omega
  · simp only [Int32.toNatClampNeg] at q; omega
theorem ownIaload (F : ownAI Z h a .int n gi) (X : Stand p l e R s m args below meth c T locs cells slots) (hx : p.tables.exec = Jvm.exec) (hZ : Z.Warmed39 s.vm) (eT : T.heap = h) {j : Int32} (hin : ownIn j n) {g : JFrame} (hg : g.method = m) {rest : List Value} (hs : g.stack = .int j :: .ref a :: rest) (hd : decode c.code g.pc = .ok (.iaload, 1)) :
    ∀ target, Steps p.tables e below (T.setTop { g with pc := g.pc + 1, stack := .int (gi j.toNatClampNeg) :: rest }) target → Steps p.tables e below (T.setTop g) target := by
  obtain ⟨cl, A, S, N, H⟩ := F
  subst S
  exact fun t k => X.iaload hx (by rw [eT]; exact A.1) (State.isArrayOf_alike hZ.alike A.2.1) A.2.2 hin (H _ (Nat.lt_of_not_le fun q => hin (Or.inr q))) hg hs hd t k
theorem ownBaload (F : ownAI Z h a .byte n gi) (X : Stand p l e R s m args below meth c T locs cells slots) (hx : p.tables.exec = Jvm.exec) (hZ : Z.Warmed39 s.vm) (eT : T.heap = h) {j : Int32} (hin : ownIn j n) {g : JFrame} (hg : g.method = m) {rest : List Value} (hs : g.stack = .int j :: .ref a :: rest) (hd : decode c.code g.pc = .ok (.baload, 1)) :
    ∀ target, Steps p.tables e below (T.setTop { g with pc := g.pc + 1, stack := .int (gi j.toNatClampNeg) :: rest }) target → Steps p.tables e below (T.setTop g) target := by
  obtain ⟨cl, A, S, N, H⟩ := F
  subst S
  exact fun t k => X.baloadBytes hx (by rw [eT]; exact A.1) (State.isArrayOf_alike hZ.alike A.2.1) A.2.2 hin (H _ (Nat.lt_of_not_le fun q => hin (Or.inr q))) hg hs hd t k
theorem ownCaload (F : ownAI Z h a .char n gi) (X : Stand p l e R s m args below meth c T locs cells slots) (hx : p.tables.exec = Jvm.exec) (hZ : Z.Warmed39 s.vm) (eT : T.heap = h) {j : Int32} (hin : ownIn j n) {g : JFrame} (hg : g.method = m) {rest : List Value} (hs : g.stack = .int j :: .ref a :: rest) (hd : decode c.code g.pc = .ok (.caload, 1)) :
    ∀ target, Steps p.tables e below (T.setTop { g with pc := g.pc + 1, stack := .int (gi j.toNatClampNeg) :: rest }) target → Steps p.tables e below (T.setTop g) target := by
  obtain ⟨cl, A, S, N, H⟩ := F
  subst S
  exact fun t k => X.caload hx (by rw [eT]; exact A.1) (State.isArrayOf_alike hZ.alike A.2.1) A.2.2 hin (H _ (Nat.lt_of_not_le fun q => hin (Or.inr q))) hg hs hd t k
theorem ownLaload (F : ownAJ Z h a n gj) (X : Stand p l e R s m args below meth c T locs cells slots) (hx : p.tables.exec = Jvm.exec) (hZ : Z.Warmed39 s.vm) (eT : T.heap = h) {j : Int32} (hin : ownIn j n) {g : JFrame} (hg : g.method = m) {rest : List Value} (hs : g.stack = .int j :: .ref a :: rest) (hd : decode c.code g.pc = .ok (.laload, 1)) :
    ∀ target, Steps p.tables e below (T.setTop { g with pc := g.pc + 1, stack := .long (gj j.toNatClampNeg) :: rest }) target → Steps p.tables e below (T.setTop g) target := by
  obtain ⟨cl, A, S, N, H⟩ := F
  subst S
  exact fun t k => X.laload hx (by rw [eT]; exact A.1) (State.isArrayOf_alike hZ.alike A.2.1) A.2.2 hin (H _ (Nat.lt_of_not_le fun q => hin (Or.inr q))) hg hs hd t k
theorem ownLenI (F : ownAI Z h a ty n gi) (X : Stand p l e R s m args below meth c T locs cells slots) (hx : p.tables.exec = Jvm.exec) (hZ : Z.Warmed39 s.vm) (eT : T.heap = h) {z : Int32} (hz : n.toInt32 = z) {g : JFrame} (hg : g.method = m) {rest : List Value} (hs : g.stack = .ref a :: rest) (hd : decode c.code g.pc = .ok (.arraylength, 1)) :
    ∀ target, Steps p.tables e below (T.setTop { g with pc := g.pc + 1, stack := .int z :: rest }) target → Steps p.tables e below (T.setTop g) target := by
  obtain ⟨cl, A, S, N, H⟩ := F
  subst S hz
  exact fun t k => X.arraylength hx (by rw [eT]; exact A.1) (State.isArrayOf_alike hZ.alike A.2.1) hg hs hd t k
theorem ownLenJ (F : ownAJ Z h a n gj) (X : Stand p l e R s m args below meth c T locs cells slots) (hx : p.tables.exec = Jvm.exec) (hZ : Z.Warmed39 s.vm) (eT : T.heap = h) {z : Int32} (hz : n.toInt32 = z) {g : JFrame} (hg : g.method = m) {rest : List Value} (hs : g.stack = .ref a :: rest) (hd : decode c.code g.pc = .ok (.arraylength, 1)) :
    ∀ target, Steps p.tables e below (T.setTop { g with pc := g.pc + 1, stack := .int z :: rest }) target → Steps p.tables e below (T.setTop g) target := by
  obtain ⟨cl, A, S, N, H⟩ := F
  subst S hz
  exact fun t k => X.arraylength hx (by rw [eT]; exact A.1) (State.isArrayOf_alike hZ.alike A.2.1) hg hs hd t k
theorem ownIastore (F : ownAI Z h a .int n gi) (X : Stand p l e R s m args below meth c T locs cells slots) (hx : p.tables.exec = Jvm.exec) (hZ : Z.Warmed39 s.vm) (eT : T.heap = h) {j x : Int32} (hin : ownIn j n) {g : JFrame} (hg : g.method = m) {rest : List Value} (hs : g.stack = .int x :: .int j :: .ref a :: rest) (hd : decode c.code g.pc = .ok (.iastore, 1)) :
    ∃ T' h', Stand p l e R s m args below meth c T' (locs ++ [⟨a, j.toNatClampNeg⟩]) cells slots ∧ T'.heap = h' ∧ Wr h h' a j.toNatClampNeg (.int x) ∧ ownAI Z h' a .int n (ownUpd gi j.toNatClampNeg x) ∧ ∀ target, Steps p.tables e below (T'.setTop { g with pc := g.pc + 1, stack := rest }) target → Steps p.tables e below (T.setTop g) target := by
  obtain ⟨cl, A, S, r⟩ := id F
  obtain ⟨T', h', X', e', W, st⟩ := stI X hx hZ eT A (j := j) (by rw [S]; exact hin) hg hs hd
  exact ⟨T', h', X', e', W, F.set W, st⟩
theorem ownBastore (F : ownAI Z h a .byte n gi) (X : Stand p l e R s m args below meth c T locs cells slots) (hx : p.tables.exec = Jvm.exec) (hZ : Z.Warmed39 s.vm) (eT : T.heap = h) {j x : Int32} (hin : ownIn j n) {g : JFrame} (hg : g.method = m) {rest : List Value} (hs : g.stack = .int x :: .int j :: .ref a :: rest) (hd : decode c.code g.pc = .ok (.bastore, 1)) :
    ∃ T' h', Stand p l e R s m args below meth c T' (locs ++ [⟨a, j.toNatClampNeg⟩]) cells slots ∧ T'.heap = h' ∧ Wr h h' a j.toNatClampNeg (.int (nar .byte x)) ∧ ownAI Z h' a .byte n (ownUpd gi j.toNatClampNeg (nar .byte x)) ∧ ∀ target, Steps p.tables e below (T'.setTop { g with pc := g.pc + 1, stack := rest }) target → Steps p.tables e below (T.setTop g) target := by
  obtain ⟨cl, A, S, r⟩ := id F
  obtain ⟨T', h', X', e', W, st⟩ := stB X hx hZ eT A (j := j) (by rw [S]; exact hin) hg hs hd
  exact ⟨T', h', X', e', W, F.set W, st⟩
theorem ownCastore (F : ownAI Z h a .char n gi) (X : Stand p l e R s m args below meth c T locs cells slots) (hx : p.tables.exec = Jvm.exec) (hZ : Z.Warmed39 s.vm) (eT : T.heap = h) {j x : Int32} (hin : ownIn j n) {g : JFrame} (hg : g.method = m) {rest : List Value} (hs : g.stack = .int x :: .int j :: .ref a :: rest) (hd : decode c.code g.pc = .ok (.castore, 1)) :
    ∃ T' h', Stand p l e R s m args below meth c T' (locs ++ [⟨a, j.toNatClampNeg⟩]) cells slots ∧ T'.heap = h' ∧ Wr h h' a j.toNatClampNeg (.int (nar .char x)) ∧ ownAI Z h' a .char n (ownUpd gi j.toNatClampNeg (nar .char x)) ∧ ∀ target, Steps p.tables e below (T'.setTop { g with pc := g.pc + 1, stack := rest }) target → Steps p.tables e below (T.setTop g) target := by
  obtain ⟨cl, A, S, r⟩ := id F
  obtain ⟨T', h', X', e', W, st⟩ := stC X hx hZ eT A (j := j) (by rw [S]; exact hin) hg hs hd
  exact ⟨T', h', X', e', W, F.set W, st⟩
theorem ownLastore (F : ownAJ Z h a n gj) (X : Stand p l e R s m args below meth c T locs cells slots) (hx : p.tables.exec = Jvm.exec) (hZ : Z.Warmed39 s.vm) (eT : T.heap = h) {j : Int32} {x : Int64} (hin : ownIn j n) {g : JFrame} (hg : g.method = m) {rest : List Value} (hs : g.stack = .long x :: .int j :: .ref a :: rest) (hd : decode c.code g.pc = .ok (.lastore, 1)) :
    ∃ T' h', Stand p l e R s m args below meth c T' (locs ++ [⟨a, j.toNatClampNeg⟩]) cells slots ∧ T'.heap = h' ∧ Wr h h' a j.toNatClampNeg (.long x) ∧ ownAJ Z h' a n (ownUpd gj j.toNatClampNeg x) ∧ ∀ target, Steps p.tables e below (T'.setTop { g with pc := g.pc + 1, stack := rest }) target → Steps p.tables e below (T.setTop g) target := by
  obtain ⟨cl, A, S, r⟩ := id F
  obtain ⟨T', h', X', e', W, st⟩ := stJ X hx hZ eT A (j := j) (by rw [S]; exact hin) hg hs hd
  exact ⟨T', h', X', e', W, F.set W, st⟩
theorem own_narb {x v : Int32} (h : x.toInt8.toInt32 = v) : nar .byte v = v := by subst h; simp [nar]
theorem own_narc {x v : Int32} (h : x.toUInt32.toUInt16.toUInt32.toInt32 = v) : nar .char v = v := by subst h; simp only [nar, UInt32.toUInt32_toInt32, UInt16.toUInt16_toUInt32]
theorem own_evInt {args : Array Value} {t : Term} {k : Int32} (h : (Cond.eq t (.int k)).value args s none s [] = some true) : t.eval args s none [] s = some (.int k) := by
  simp only [Cond.value, Term.eval] at h
  cases ht : t.eval args s none [] s with
  | none => simp [ht] at h
  | some x => cases x <;> simp [ht] at h ⊢; exact h
theorem own_fldInt {args : Array Value} {t : Term} {C n d : String} {k : Int32} {x : Addr} (h : (Cond.eq (.field t C n d) (.int k)).value args s none s [] = some true) (ht : t.eval args s none [] s = some (.ref x)) : Fld s s.heap x C n d (.int k) :=
  Fld.start ((fld_at ht).symm.trans (own_evInt h))
end OwnWalk
section OwnSteps
variable {p : Program} {l : Launch} {e : Env} {R : Room} {s : State} {m : MethodId} {args : Array Value} {below : List Frame} {meth : Method} {c : Code} {T : State} {locs : List Loc} {cells slots : Nat} {Q : Option Value → Heap → List Loc → Prop} {ck sk : Nat}
theorem ow_iloadN (X : Stand p l e R s m args below meth c T locs cells slots) (hx : p.tables.exec = Jvm.exec) {pc q : Nat} {Ls : Array Slot} {S : List Value} {k : Fin 4} {v : Int32} (hd : decode c.code pc = .ok (.iload_n k, 1)) (hq : pc + 1 = q) (hl : Ls[k.val]? = some (.val (.int v))) (k : ownEnds p e below s Q ck sk T (mkF m q Ls (.int v :: S))) : ownEnds p e below s Q ck sk T (mkF m pc Ls S) := by
  subst hq
  exact ownGo (fun _ k => XS.iloadN X.here hx rfl hd hl k) k
theorem ow_iload (X : Stand p l e R s m args below meth c T locs cells slots) (hx : p.tables.exec = Jvm.exec) {pc q : Nat} {Ls : Array Slot} {S : List Value} {k : Nat} {v : Int32} (hd : decode c.code pc = .ok (.iload k, 2)) (hq : pc + 2 = q) (hl : Ls[k]? = some (.val (.int v))) (k : ownEnds p e below s Q ck sk T (mkF m q Ls (.int v :: S))) : ownEnds p e below s Q ck sk T (mkF m pc Ls S) := by
  subst hq
  exact ownGo (fun _ k => XS.iload X.here hx rfl hd hl k) k
theorem ow_istoreN (X : Stand p l e R s m args below meth c T locs cells slots) (hx : p.tables.exec = Jvm.exec) {pc q : Nat} {Ls : Array Slot} {S : List Value} {k : Fin 4} {v : Int32} {L' : Array Slot} (hd : decode c.code pc = .ok (.istore_n k, 1)) (hq : pc + 1 = q) (hl : storeLocals Ls k.val (.int v) = some L') (k : ownEnds p e below s Q ck sk T (mkF m q L' S)) : ownEnds p e below s Q ck sk T (mkF m pc Ls (.int v :: S)) := by
  subst hq
  exact ownGo (fun _ k => XS.istoreN X.here hx rfl hd rfl hl k) k
theorem ow_istore (X : Stand p l e R s m args below meth c T locs cells slots) (hx : p.tables.exec = Jvm.exec) {pc q : Nat} {Ls : Array Slot} {S : List Value} {k : Nat} {v : Int32} {L' : Array Slot} (hd : decode c.code pc = .ok (.istore k, 2)) (hq : pc + 2 = q) (hl : storeLocals Ls k (.int v) = some L') (k : ownEnds p e below s Q ck sk T (mkF m q L' S)) : ownEnds p e below s Q ck sk T (mkF m pc Ls (.int v :: S)) := by
  subst hq
  exact ownGo (fun _ k => XS.istore X.here hx rfl hd rfl hl k) k
theorem ow_lloadN (X : Stand p l e R s m args below meth c T locs cells slots) (hx : p.tables.exec = Jvm.exec) {pc q : Nat} {Ls : Array Slot} {S : List Value} {k : Fin 4} {v : Int64} (hd : decode c.code pc = .ok (.lload_n k, 1)) (hq : pc + 1 = q) (hl : Ls[k.val]? = some (.val (.long v))) (k : ownEnds p e below s Q ck sk T (mkF m q Ls (.long v :: S))) : ownEnds p e below s Q ck sk T (mkF m pc Ls S) := by
  subst hq
  exact ownGo (fun _ k => XS.lloadN X.here hx rfl hd hl k) k
theorem ow_lload (X : Stand p l e R s m args below meth c T locs cells slots) (hx : p.tables.exec = Jvm.exec) {pc q : Nat} {Ls : Array Slot} {S : List Value} {k : Nat} {v : Int64} (hd : decode c.code pc = .ok (.lload k, 2)) (hq : pc + 2 = q) (hl : Ls[k]? = some (.val (.long v))) (k : ownEnds p e below s Q ck sk T (mkF m q Ls (.long v :: S))) : ownEnds p e below s Q ck sk T (mkF m pc Ls S) := by
  subst hq
  exact ownGo (fun _ k => XS.lload X.here hx rfl hd hl k) k
theorem ow_lstoreN (X : Stand p l e R s m args below meth c T locs cells slots) (hx : p.tables.exec = Jvm.exec) {pc q : Nat} {Ls : Array Slot} {S : List Value} {k : Fin 4} {v : Int64} {L' : Array Slot} (hd : decode c.code pc = .ok (.lstore_n k, 1)) (hq : pc + 1 = q) (hl : storeLocals Ls k.val (.long v) = some L') (k : ownEnds p e below s Q ck sk T (mkF m q L' S)) : ownEnds p e below s Q ck sk T (mkF m pc Ls (.long v :: S)) := by
  subst hq
  exact ownGo (fun _ k => XS.lstoreN X.here hx rfl hd rfl hl k) k
theorem ow_lstore (X : Stand p l e R s m args below meth c T locs cells slots) (hx : p.tables.exec = Jvm.exec) {pc q : Nat} {Ls : Array Slot} {S : List Value} {k : Nat} {v : Int64} {L' : Array Slot} (hd : decode c.code pc = .ok (.lstore k, 2)) (hq : pc + 2 = q) (hl : storeLocals Ls k (.long v) = some L') (k : ownEnds p e below s Q ck sk T (mkF m q L' S)) : ownEnds p e below s Q ck sk T (mkF m pc Ls (.long v :: S)) := by
  subst hq
  exact ownGo (fun _ k => XS.lstore X.here hx rfl hd rfl hl k) k
theorem ow_aloadN (X : Stand p l e R s m args below meth c T locs cells slots) (hx : p.tables.exec = Jvm.exec) {pc q : Nat} {Ls : Array Slot} {S : List Value} {k : Fin 4} {v : Value} (hd : decode c.code pc = .ok (.aload_n k, 1)) (hq : pc + 1 = q) (hl : Ls[k.val]? = some (.val v)) (hv : v.isRef = true) (k : ownEnds p e below s Q ck sk T (mkF m q Ls (v :: S))) : ownEnds p e below s Q ck sk T (mkF m pc Ls S) := by
  subst hq
  exact ownGo (fun _ k => XS.aloadN X.here hx rfl hd hl hv k) k
theorem ow_aload (X : Stand p l e R s m args below meth c T locs cells slots) (hx : p.tables.exec = Jvm.exec) {pc q : Nat} {Ls : Array Slot} {S : List Value} {k : Nat} {v : Value} (hd : decode c.code pc = .ok (.aload k, 2)) (hq : pc + 2 = q) (hl : Ls[k]? = some (.val v)) (hv : v.isRef = true) (k : ownEnds p e below s Q ck sk T (mkF m q Ls (v :: S))) : ownEnds p e below s Q ck sk T (mkF m pc Ls S) := by
  subst hq
  exact ownGo (fun _ k => XS.aload X.here hx rfl hd hl hv k) k
theorem ow_astoreN (X : Stand p l e R s m args below meth c T locs cells slots) (hx : p.tables.exec = Jvm.exec) {pc q : Nat} {Ls : Array Slot} {S : List Value} {k : Fin 4} {v : Value} {L' : Array Slot} (hd : decode c.code pc = .ok (.astore_n k, 1)) (hq : pc + 1 = q) (hv : v.isRef = true) (hl : storeLocals Ls k.val v = some L') (k : ownEnds p e below s Q ck sk T (mkF m q L' S)) : ownEnds p e below s Q ck sk T (mkF m pc Ls (v :: S)) := by
  subst hq
  exact ownGo (fun _ k => XS.astoreN X.here hx rfl hd rfl hv hl k) k
theorem ow_astore (X : Stand p l e R s m args below meth c T locs cells slots) (hx : p.tables.exec = Jvm.exec) {pc q : Nat} {Ls : Array Slot} {S : List Value} {k : Nat} {v : Value} {L' : Array Slot} (hd : decode c.code pc = .ok (.astore k, 2)) (hq : pc + 2 = q) (hv : v.isRef = true) (hl : storeLocals Ls k v = some L') (k : ownEnds p e below s Q ck sk T (mkF m q L' S)) : ownEnds p e below s Q ck sk T (mkF m pc Ls (v :: S)) := by
  subst hq
  exact ownGo (fun _ k => XS.astore X.here hx rfl hd rfl hv hl k) k
theorem ow_iconst (X : Stand p l e R s m args below meth c T locs cells slots) (hx : p.tables.exec = Jvm.exec) {pc q : Nat} {Ls : Array Slot} {S : List Value} {i : Int} (v : Int32) (hd : decode c.code pc = .ok (.iconst i, 1)) (hq : pc + 1 = q) (hz : Int32.ofInt i = v) (k : ownEnds p e below s Q ck sk T (mkF m q Ls (.int v :: S))) : ownEnds p e below s Q ck sk T (mkF m pc Ls S) := by
  subst hq hz
  exact ownGo (fun _ k => XS.iconst X.here hx rfl hd k) k
theorem ow_bipush (X : Stand p l e R s m args below meth c T locs cells slots) (hx : p.tables.exec = Jvm.exec) {pc q : Nat} {Ls : Array Slot} {S : List Value} {i : Int} (v : Int32) (hd : decode c.code pc = .ok (.bipush i, 2)) (hq : pc + 2 = q) (hz : (Int8.ofInt i).toInt32 = v) (k : ownEnds p e below s Q ck sk T (mkF m q Ls (.int v :: S))) : ownEnds p e below s Q ck sk T (mkF m pc Ls S) := by
  subst hq hz
  exact ownGo (fun _ k => XS.bipush X.here hx rfl hd k) k
theorem ow_sipush (X : Stand p l e R s m args below meth c T locs cells slots) (hx : p.tables.exec = Jvm.exec) {pc q : Nat} {Ls : Array Slot} {S : List Value} {i : Int} (v : Int32) (hd : decode c.code pc = .ok (.sipush i, 3)) (hq : pc + 3 = q) (hz : (Int16.ofInt i).toInt32 = v) (k : ownEnds p e below s Q ck sk T (mkF m q Ls (.int v :: S))) : ownEnds p e below s Q ck sk T (mkF m pc Ls S) := by
  subst hq hz
  exact ownGo (fun _ k => XS.sipush X.here hx rfl hd k) k
theorem ow_lconst (X : Stand p l e R s m args below meth c T locs cells slots) (hx : p.tables.exec = Jvm.exec) {pc q : Nat} {Ls : Array Slot} {S : List Value} {i : Fin 2} (v : Int64) (hd : decode c.code pc = .ok (.lconst i, 1)) (hq : pc + 1 = q) (hz : Int64.ofNat i = v) (k : ownEnds p e below s Q ck sk T (mkF m q Ls (.long v :: S))) : ownEnds p e below s Q ck sk T (mkF m pc Ls S) := by
  subst hq hz
  exact ownGo (fun _ k => XS.lconst X.here hx rfl hd k) k
theorem ow_iadd (X : Stand p l e R s m args below meth c T locs cells slots) (hx : p.tables.exec = Jvm.exec) {pc q : Nat} {Ls : Array Slot} {S : List Value} {x y : Int32} (z : Int32) (hd : decode c.code pc = .ok (.iadd, 1)) (hq : pc + 1 = q) (hz : x + y = z) (k : ownEnds p e below s Q ck sk T (mkF m q Ls (.int z :: S))) : ownEnds p e below s Q ck sk T (mkF m pc Ls (.int y :: .int x :: S)) := by
  subst hq hz
  exact ownGo (fun _ k => XS.iadd X.here hx rfl hd rfl k) k
theorem ow_ladd (X : Stand p l e R s m args below meth c T locs cells slots) (hx : p.tables.exec = Jvm.exec) {pc q : Nat} {Ls : Array Slot} {S : List Value} {x y : Int64} (z : Int64) (hd : decode c.code pc = .ok (.ladd, 1)) (hq : pc + 1 = q) (hz : x + y = z) (k : ownEnds p e below s Q ck sk T (mkF m q Ls (.long z :: S))) : ownEnds p e below s Q ck sk T (mkF m pc Ls (.long y :: .long x :: S)) := by
  subst hq hz
  exact ownGo (fun _ k => XS.ladd X.here hx rfl hd rfl k) k
theorem ow_isub (X : Stand p l e R s m args below meth c T locs cells slots) (hx : p.tables.exec = Jvm.exec) {pc q : Nat} {Ls : Array Slot} {S : List Value} {x y : Int32} (z : Int32) (hd : decode c.code pc = .ok (.isub, 1)) (hq : pc + 1 = q) (hz : x - y = z) (k : ownEnds p e below s Q ck sk T (mkF m q Ls (.int z :: S))) : ownEnds p e below s Q ck sk T (mkF m pc Ls (.int y :: .int x :: S)) := by
  subst hq hz
  exact ownGo (fun _ k => XS.isub X.here hx rfl hd rfl k) k
theorem ow_lsub (X : Stand p l e R s m args below meth c T locs cells slots) (hx : p.tables.exec = Jvm.exec) {pc q : Nat} {Ls : Array Slot} {S : List Value} {x y : Int64} (z : Int64) (hd : decode c.code pc = .ok (.lsub, 1)) (hq : pc + 1 = q) (hz : x - y = z) (k : ownEnds p e below s Q ck sk T (mkF m q Ls (.long z :: S))) : ownEnds p e below s Q ck sk T (mkF m pc Ls (.long y :: .long x :: S)) := by
  subst hq hz
  exact ownGo (fun _ k => XS.lsub X.here hx rfl hd rfl k) k
theorem ow_imul (X : Stand p l e R s m args below meth c T locs cells slots) (hx : p.tables.exec = Jvm.exec) {pc q : Nat} {Ls : Array Slot} {S : List Value} {x y : Int32} (z : Int32) (hd : decode c.code pc = .ok (.imul, 1)) (hq : pc + 1 = q) (hz : x * y = z) (k : ownEnds p e below s Q ck sk T (mkF m q Ls (.int z :: S))) : ownEnds p e below s Q ck sk T (mkF m pc Ls (.int y :: .int x :: S)) := by
  subst hq hz
  exact ownGo (fun _ k => XS.imul X.here hx rfl hd rfl k) k
theorem ow_lmul (X : Stand p l e R s m args below meth c T locs cells slots) (hx : p.tables.exec = Jvm.exec) {pc q : Nat} {Ls : Array Slot} {S : List Value} {x y : Int64} (z : Int64) (hd : decode c.code pc = .ok (.lmul, 1)) (hq : pc + 1 = q) (hz : x * y = z) (k : ownEnds p e below s Q ck sk T (mkF m q Ls (.long z :: S))) : ownEnds p e below s Q ck sk T (mkF m pc Ls (.long y :: .long x :: S)) := by
  subst hq hz
  exact ownGo (fun _ k => XS.lmul X.here hx rfl hd rfl k) k
theorem ow_iand (X : Stand p l e R s m args below meth c T locs cells slots) (hx : p.tables.exec = Jvm.exec) {pc q : Nat} {Ls : Array Slot} {S : List Value} {x y : Int32} (z : Int32) (hd : decode c.code pc = .ok (.iand, 1)) (hq : pc + 1 = q) (hz : x &&& y = z) (k : ownEnds p e below s Q ck sk T (mkF m q Ls (.int z :: S))) : ownEnds p e below s Q ck sk T (mkF m pc Ls (.int y :: .int x :: S)) := by
  subst hq hz
  exact ownGo (fun _ k => XS.iand X.here hx rfl hd rfl k) k
theorem ow_land (X : Stand p l e R s m args below meth c T locs cells slots) (hx : p.tables.exec = Jvm.exec) {pc q : Nat} {Ls : Array Slot} {S : List Value} {x y : Int64} (z : Int64) (hd : decode c.code pc = .ok (.land, 1)) (hq : pc + 1 = q) (hz : x &&& y = z) (k : ownEnds p e below s Q ck sk T (mkF m q Ls (.long z :: S))) : ownEnds p e below s Q ck sk T (mkF m pc Ls (.long y :: .long x :: S)) := by
  subst hq hz
  exact ownGo (fun _ k => XS.land X.here hx rfl hd rfl k) k
theorem ow_ior (X : Stand p l e R s m args below meth c T locs cells slots) (hx : p.tables.exec = Jvm.exec) {pc q : Nat} {Ls : Array Slot} {S : List Value} {x y : Int32} (z : Int32) (hd : decode c.code pc = .ok (.ior, 1)) (hq : pc + 1 = q) (hz : x ||| y = z) (k : ownEnds p e below s Q ck sk T (mkF m q Ls (.int z :: S))) : ownEnds p e below s Q ck sk T (mkF m pc Ls (.int y :: .int x :: S)) := by
  subst hq hz
  exact ownGo (fun _ k => XS.ior X.here hx rfl hd rfl k) k
theorem ow_lor (X : Stand p l e R s m args below meth c T locs cells slots) (hx : p.tables.exec = Jvm.exec) {pc q : Nat} {Ls : Array Slot} {S : List Value} {x y : Int64} (z : Int64) (hd : decode c.code pc = .ok (.lor, 1)) (hq : pc + 1 = q) (hz : x ||| y = z) (k : ownEnds p e below s Q ck sk T (mkF m q Ls (.long z :: S))) : ownEnds p e below s Q ck sk T (mkF m pc Ls (.long y :: .long x :: S)) := by
  subst hq hz
  exact ownGo (fun _ k => XS.lor X.here hx rfl hd rfl k) k
theorem ow_ixor (X : Stand p l e R s m args below meth c T locs cells slots) (hx : p.tables.exec = Jvm.exec) {pc q : Nat} {Ls : Array Slot} {S : List Value} {x y : Int32} (z : Int32) (hd : decode c.code pc = .ok (.ixor, 1)) (hq : pc + 1 = q) (hz : x ^^^ y = z) (k : ownEnds p e below s Q ck sk T (mkF m q Ls (.int z :: S))) : ownEnds p e below s Q ck sk T (mkF m pc Ls (.int y :: .int x :: S)) := by
  subst hq hz
  exact ownGo (fun _ k => XS.ixor X.here hx rfl hd rfl k) k
theorem ow_lxor (X : Stand p l e R s m args below meth c T locs cells slots) (hx : p.tables.exec = Jvm.exec) {pc q : Nat} {Ls : Array Slot} {S : List Value} {x y : Int64} (z : Int64) (hd : decode c.code pc = .ok (.lxor, 1)) (hq : pc + 1 = q) (hz : x ^^^ y = z) (k : ownEnds p e below s Q ck sk T (mkF m q Ls (.long z :: S))) : ownEnds p e below s Q ck sk T (mkF m pc Ls (.long y :: .long x :: S)) := by
  subst hq hz
  exact ownGo (fun _ k => XS.lxor X.here hx rfl hd rfl k) k
theorem ow_ishl (X : Stand p l e R s m args below meth c T locs cells slots) (hx : p.tables.exec = Jvm.exec) {pc q : Nat} {Ls : Array Slot} {S : List Value} {x y : Int32} (z : Int32) (hd : decode c.code pc = .ok (.ishl, 1)) (hq : pc + 1 = q) (hz : x <<< (y &&& 31) = z) (k : ownEnds p e below s Q ck sk T (mkF m q Ls (.int z :: S))) : ownEnds p e below s Q ck sk T (mkF m pc Ls (.int y :: .int x :: S)) := by
  subst hq hz
  exact ownGo (fun _ k => XS.ishl X.here hx rfl hd rfl k) k
theorem ow_ishr (X : Stand p l e R s m args below meth c T locs cells slots) (hx : p.tables.exec = Jvm.exec) {pc q : Nat} {Ls : Array Slot} {S : List Value} {x y : Int32} (z : Int32) (hd : decode c.code pc = .ok (.ishr, 1)) (hq : pc + 1 = q) (hz : x >>> (y &&& 31) = z) (k : ownEnds p e below s Q ck sk T (mkF m q Ls (.int z :: S))) : ownEnds p e below s Q ck sk T (mkF m pc Ls (.int y :: .int x :: S)) := by
  subst hq hz
  exact ownGo (fun _ k => XS.ishr X.here hx rfl hd rfl k) k
theorem ow_iushr (X : Stand p l e R s m args below meth c T locs cells slots) (hx : p.tables.exec = Jvm.exec) {pc q : Nat} {Ls : Array Slot} {S : List Value} {x y : Int32} (z : Int32) (hd : decode c.code pc = .ok (.iushr, 1)) (hq : pc + 1 = q) (hz : (x.toUInt32 >>> (y &&& 31).toUInt32).toInt32 = z) (k : ownEnds p e below s Q ck sk T (mkF m q Ls (.int z :: S))) : ownEnds p e below s Q ck sk T (mkF m pc Ls (.int y :: .int x :: S)) := by
  subst hq hz
  exact ownGo (fun _ k => XS.iushr X.here hx rfl hd rfl k) k
theorem ow_lshl (X : Stand p l e R s m args below meth c T locs cells slots) (hx : p.tables.exec = Jvm.exec) {pc q : Nat} {Ls : Array Slot} {S : List Value} {x : Int64} {y : Int32} (z : Int64) (hd : decode c.code pc = .ok (.lshl, 1)) (hq : pc + 1 = q) (hz : x <<< (y &&& 0x3f).toInt64 = z) (k : ownEnds p e below s Q ck sk T (mkF m q Ls (.long z :: S))) : ownEnds p e below s Q ck sk T (mkF m pc Ls (.int y :: .long x :: S)) := by
  subst hq hz
  exact ownGo (fun _ k => XS.lshl X.here hx rfl hd rfl k) k
theorem ow_lshr (X : Stand p l e R s m args below meth c T locs cells slots) (hx : p.tables.exec = Jvm.exec) {pc q : Nat} {Ls : Array Slot} {S : List Value} {x : Int64} {y : Int32} (z : Int64) (hd : decode c.code pc = .ok (.lshr, 1)) (hq : pc + 1 = q) (hz : x >>> (y &&& 0x3f).toInt64 = z) (k : ownEnds p e below s Q ck sk T (mkF m q Ls (.long z :: S))) : ownEnds p e below s Q ck sk T (mkF m pc Ls (.int y :: .long x :: S)) := by
  subst hq hz
  exact ownGo (fun _ k => XS.lshr X.here hx rfl hd rfl k) k
theorem ow_lushr (X : Stand p l e R s m args below meth c T locs cells slots) (hx : p.tables.exec = Jvm.exec) {pc q : Nat} {Ls : Array Slot} {S : List Value} {x : Int64} {y : Int32} (z : Int64) (hd : decode c.code pc = .ok (.lushr, 1)) (hq : pc + 1 = q) (hz : (x.toUInt64 >>> (y &&& 0x3f).toInt64.toUInt64).toInt64 = z) (k : ownEnds p e below s Q ck sk T (mkF m q Ls (.long z :: S))) : ownEnds p e below s Q ck sk T (mkF m pc Ls (.int y :: .long x :: S)) := by
  subst hq hz
  exact ownGo (fun _ k => XS.lushr X.here hx rfl hd rfl k) k
theorem ow_ineg (X : Stand p l e R s m args below meth c T locs cells slots) (hx : p.tables.exec = Jvm.exec) {pc q : Nat} {Ls : Array Slot} {S : List Value} {x : Int32} (z : Int32) (hd : decode c.code pc = .ok (.ineg, 1)) (hq : pc + 1 = q) (hz : -x = z) (k : ownEnds p e below s Q ck sk T (mkF m q Ls (.int z :: S))) : ownEnds p e below s Q ck sk T (mkF m pc Ls (.int x :: S)) := by
  subst hq hz
  exact ownGo (fun _ k => XS.ineg X.here hx rfl hd rfl k) k
theorem ow_lneg (X : Stand p l e R s m args below meth c T locs cells slots) (hx : p.tables.exec = Jvm.exec) {pc q : Nat} {Ls : Array Slot} {S : List Value} {x : Int64} (z : Int64) (hd : decode c.code pc = .ok (.lneg, 1)) (hq : pc + 1 = q) (hz : -x = z) (k : ownEnds p e below s Q ck sk T (mkF m q Ls (.long z :: S))) : ownEnds p e below s Q ck sk T (mkF m pc Ls (.long x :: S)) := by
  subst hq hz
  exact ownGo (fun _ k => XS.lneg X.here hx rfl hd rfl k) k
theorem ow_i2l (X : Stand p l e R s m args below meth c T locs cells slots) (hx : p.tables.exec = Jvm.exec) {pc q : Nat} {Ls : Array Slot} {S : List Value} {x : Int32} (z : Int64) (hd : decode c.code pc = .ok (.i2l, 1)) (hq : pc + 1 = q) (hz : x.toInt64 = z) (k : ownEnds p e below s Q ck sk T (mkF m q Ls (.long z :: S))) : ownEnds p e below s Q ck sk T (mkF m pc Ls (.int x :: S)) := by
  subst hq hz
  exact ownGo (fun _ k => XS.i2l X.here hx rfl hd rfl k) k
theorem ow_l2i (X : Stand p l e R s m args below meth c T locs cells slots) (hx : p.tables.exec = Jvm.exec) {pc q : Nat} {Ls : Array Slot} {S : List Value} {x : Int64} (z : Int32) (hd : decode c.code pc = .ok (.l2i, 1)) (hq : pc + 1 = q) (hz : x.toInt32 = z) (k : ownEnds p e below s Q ck sk T (mkF m q Ls (.int z :: S))) : ownEnds p e below s Q ck sk T (mkF m pc Ls (.long x :: S)) := by
  subst hq hz
  exact ownGo (fun _ k => XS.l2i X.here hx rfl hd rfl k) k
theorem ow_i2b (X : Stand p l e R s m args below meth c T locs cells slots) (hx : p.tables.exec = Jvm.exec) {pc q : Nat} {Ls : Array Slot} {S : List Value} {x : Int32} (z : Int32) (hd : decode c.code pc = .ok (.i2b, 1)) (hq : pc + 1 = q) (hz : x.toInt8.toInt32 = z) (k : ownEnds p e below s Q ck sk T (mkF m q Ls (.int z :: S))) : ownEnds p e below s Q ck sk T (mkF m pc Ls (.int x :: S)) := by
  subst hq hz
  exact ownGo (fun _ k => XS.i2b X.here hx rfl hd rfl k) k
theorem ow_i2s (X : Stand p l e R s m args below meth c T locs cells slots) (hx : p.tables.exec = Jvm.exec) {pc q : Nat} {Ls : Array Slot} {S : List Value} {x : Int32} (z : Int32) (hd : decode c.code pc = .ok (.i2s, 1)) (hq : pc + 1 = q) (hz : x.toInt16.toInt32 = z) (k : ownEnds p e below s Q ck sk T (mkF m q Ls (.int z :: S))) : ownEnds p e below s Q ck sk T (mkF m pc Ls (.int x :: S)) := by
  subst hq hz
  exact ownGo (fun _ k => XS.i2s X.here hx rfl hd rfl k) k
theorem ow_i2c (X : Stand p l e R s m args below meth c T locs cells slots) (hx : p.tables.exec = Jvm.exec) {pc q : Nat} {Ls : Array Slot} {S : List Value} {x : Int32} (z : Int32) (hd : decode c.code pc = .ok (.i2c, 1)) (hq : pc + 1 = q) (hz : x.toUInt32.toUInt16.toUInt32.toInt32 = z) (k : ownEnds p e below s Q ck sk T (mkF m q Ls (.int z :: S))) : ownEnds p e below s Q ck sk T (mkF m pc Ls (.int x :: S)) := by
  subst hq hz
  exact ownGo (fun _ k => XS.i2c X.here hx rfl hd rfl k) k
theorem ow_lcmp (X : Stand p l e R s m args below meth c T locs cells slots) (hx : p.tables.exec = Jvm.exec) {pc q : Nat} {Ls : Array Slot} {S : List Value} {x y : Int64} (z : Int32) (hd : decode c.code pc = .ok (.lcmp, 1)) (hq : pc + 1 = q) (hz : Jvm.Free.XT.cmpL x y = z) (k : ownEnds p e below s Q ck sk T (mkF m q Ls (.int z :: S))) : ownEnds p e below s Q ck sk T (mkF m pc Ls (.long y :: .long x :: S)) := by
  subst hq hz
  exact ownGo (fun _ k => Jvm.Free.XT.lcmp X.here hx rfl hd rfl k) k
theorem ow_idiv (X : Stand p l e R s m args below meth c T locs cells slots) (hx : p.tables.exec = Jvm.exec) {pc q : Nat} {Ls : Array Slot} {S : List Value} {x y : Int32} (z : Int32) (hd : decode c.code pc = .ok (.idiv, 1)) (hq : pc + 1 = q) (hy : y ≠ 0) (hz : x / y = z) (k : ownEnds p e below s Q ck sk T (mkF m q Ls (.int z :: S))) : ownEnds p e below s Q ck sk T (mkF m pc Ls (.int y :: .int x :: S)) := by
  subst hq hz
  exact ownGo (fun _ k => XS.idiv X.here hx rfl hd rfl hy k) k
theorem ow_irem (X : Stand p l e R s m args below meth c T locs cells slots) (hx : p.tables.exec = Jvm.exec) {pc q : Nat} {Ls : Array Slot} {S : List Value} {x y : Int32} (z : Int32) (hd : decode c.code pc = .ok (.irem, 1)) (hq : pc + 1 = q) (hy : y ≠ 0) (hz : x % y = z) (k : ownEnds p e below s Q ck sk T (mkF m q Ls (.int z :: S))) : ownEnds p e below s Q ck sk T (mkF m pc Ls (.int y :: .int x :: S)) := by
  subst hq hz
  exact ownGo (fun _ k => iremM X hx rfl hd rfl hy k) k
theorem ow_ldiv (X : Stand p l e R s m args below meth c T locs cells slots) (hx : p.tables.exec = Jvm.exec) {pc q : Nat} {Ls : Array Slot} {S : List Value} {x y : Int64} (z : Int64) (hd : decode c.code pc = .ok (.ldiv, 1)) (hq : pc + 1 = q) (hy : y ≠ 0) (hz : x / y = z) (k : ownEnds p e below s Q ck sk T (mkF m q Ls (.long z :: S))) : ownEnds p e below s Q ck sk T (mkF m pc Ls (.long y :: .long x :: S)) := by
  subst hq hz
  exact ownGo (fun _ k => XS.ldiv X.here hx rfl hd rfl hy k) k
theorem ow_lrem (X : Stand p l e R s m args below meth c T locs cells slots) (hx : p.tables.exec = Jvm.exec) {pc q : Nat} {Ls : Array Slot} {S : List Value} {x y : Int64} (z : Int64) (hd : decode c.code pc = .ok (.lrem, 1)) (hq : pc + 1 = q) (hy : y ≠ 0) (hz : x - (x / y) * y = z) (k : ownEnds p e below s Q ck sk T (mkF m q Ls (.long z :: S))) : ownEnds p e below s Q ck sk T (mkF m pc Ls (.long y :: .long x :: S)) := by
  subst hq hz
  exact ownGo (fun _ k => XS.lrem X.here hx rfl hd rfl hy k) k
theorem ow_iinc (X : Stand p l e R s m args below meth c T locs cells slots) (hx : p.tables.exec = Jvm.exec) {pc q : Nat} {Ls : Array Slot} {S : List Value} {k : Nat} {i : Int} {x : Int32} {L' : Array Slot} (hd : decode c.code pc = .ok (.iinc k i, 3)) (hq : pc + 3 = q) (hl : Ls[k]? = some (.val (.int x))) (hl' : storeLocals Ls k (.int (x + Int32.ofInt i)) = some L') (k : ownEnds p e below s Q ck sk T (mkF m q L' S)) : ownEnds p e below s Q ck sk T (mkF m pc Ls S) := by
  subst hq
  exact ownGo (fun _ k => XS.iinc X.here hx rfl hd hl hl' k) k
theorem ow_dup (X : Stand p l e R s m args below meth c T locs cells slots) (hx : p.tables.exec = Jvm.exec) {pc q : Nat} {Ls : Array Slot} {S : List Value} {v : Value} (hd : decode c.code pc = .ok (.dup, 1)) (hq : pc + 1 = q) (hc : v.category = 1) (k : ownEnds p e below s Q ck sk T (mkF m q Ls (v :: v :: S))) : ownEnds p e below s Q ck sk T (mkF m pc Ls (v :: S)) := by
  subst hq
  exact ownGo (fun _ k => XS.dup X.here hx rfl hd rfl hc k) k
theorem ow_dupX1 (X : Stand p l e R s m args below meth c T locs cells slots) (hx : p.tables.exec = Jvm.exec) {pc q : Nat} {Ls : Array Slot} {S : List Value} {v w : Value} (hd : decode c.code pc = .ok (.dup_x1, 1)) (hq : pc + 1 = q) (hc : v.category = 1) (hc' : w.category = 1) (k : ownEnds p e below s Q ck sk T (mkF m q Ls (v :: w :: v :: S))) : ownEnds p e below s Q ck sk T (mkF m pc Ls (v :: w :: S)) := by
  subst hq
  exact ownGo (fun _ k => XS.dupX1 X.here hx rfl hd rfl hc hc' k) k
theorem ow_dup2 (X : Stand p l e R s m args below meth c T locs cells slots) (hx : p.tables.exec = Jvm.exec) {pc q : Nat} {Ls : Array Slot} {S : List Value} {v w : Value} (hd : decode c.code pc = .ok (.dup2, 1)) (hq : pc + 1 = q) (hc : v.category = 1) (hc' : w.category = 1) (k : ownEnds p e below s Q ck sk T (mkF m q Ls (v :: w :: v :: w :: S))) : ownEnds p e below s Q ck sk T (mkF m pc Ls (v :: w :: S)) := by
  subst hq
  exact ownGo (fun _ k => Jvm.Free.XT.dup2 X.here hx rfl hd rfl hc hc' k) k
theorem ow_dup2L (X : Stand p l e R s m args below meth c T locs cells slots) (hx : p.tables.exec = Jvm.exec) {pc q : Nat} {Ls : Array Slot} {S : List Value} {v : Int64} (hd : decode c.code pc = .ok (.dup2, 1)) (hq : pc + 1 = q) (k : ownEnds p e below s Q ck sk T (mkF m q Ls (.long v :: .long v :: S))) : ownEnds p e below s Q ck sk T (mkF m pc Ls (.long v :: S)) := by
  subst hq
  exact ownGo (fun _ k => Jvm.Free.XT.dup2L X.here hx rfl hd rfl k) k
theorem ow_pop (X : Stand p l e R s m args below meth c T locs cells slots) (hx : p.tables.exec = Jvm.exec) {pc q : Nat} {Ls : Array Slot} {S : List Value} {v : Value} (hd : decode c.code pc = .ok (.pop, 1)) (hq : pc + 1 = q) (hc : v.category = 1) (k : ownEnds p e below s Q ck sk T (mkF m q Ls S)) : ownEnds p e below s Q ck sk T (mkF m pc Ls (v :: S)) := by
  subst hq
  exact ownGo (fun _ k => XS.pop X.here hx rfl hd rfl hc k) k
theorem ow_aconstNull (X : Stand p l e R s m args below meth c T locs cells slots) (hx : p.tables.exec = Jvm.exec) {pc q : Nat} {Ls : Array Slot} {S : List Value}  (hd : decode c.code pc = .ok (.aconst_null, 1)) (hq : pc + 1 = q) (k : ownEnds p e below s Q ck sk T (mkF m q Ls (.null :: S))) : ownEnds p e below s Q ck sk T (mkF m pc Ls S) := by
  subst hq
  exact ownGo (fun _ k => XS.aconstNull X.here hx rfl hd k) k
theorem ow_goto (X : Stand p l e R s m args below meth c T locs cells slots) (hx : p.tables.exec = Jvm.exec) {pc q : Nat} {Ls : Array Slot} {S : List Value} {o : Int} (hd : decode c.code pc = .ok (.goto o, 3)) (ho : 0 ≤ (pc : Int) + o) (hp : ((pc : Int) + o).toNat = q) (k : ownEnds p e below s Q ck sk T (mkF m q Ls S)) : ownEnds p e below s Q ck sk T (mkF m pc Ls S) :=
  ownGo (fun _ k => XS.goto X.here hx rfl rfl hd ho hp k) k
theorem ow_ifYes (X : Stand p l e R s m args below meth c T locs cells slots) (hx : p.tables.exec = Jvm.exec) {pc q : Nat} {Ls : Array Slot} {S : List Value} {cd : ClassFile.Cond} {o : Int} {x : Int32} (hd : decode c.code pc = .ok (.ifCond cd o, 3)) (hc : ifCond.holds cd x = true) (ho : 0 ≤ (pc : Int) + o) (hp : ((pc : Int) + o).toNat = q) (k : ownEnds p e below s Q ck sk T (mkF m q Ls S)) : ownEnds p e below s Q ck sk T (mkF m pc Ls (.int x :: S)) :=
  ownGo (fun _ k => XS.ifYes X.here hx rfl rfl hd rfl hc ho hp k) k
theorem ow_ifNo (X : Stand p l e R s m args below meth c T locs cells slots) (hx : p.tables.exec = Jvm.exec) {pc q : Nat} {Ls : Array Slot} {S : List Value} {cd : ClassFile.Cond} {o : Int} {x : Int32} (hd : decode c.code pc = .ok (.ifCond cd o, 3)) (hq : pc + 3 = q) (hc : ifCond.holds cd x = false) (k : ownEnds p e below s Q ck sk T (mkF m q Ls S)) : ownEnds p e below s Q ck sk T (mkF m pc Ls (.int x :: S)) := by
  subst hq
  exact ownGo (fun _ k => XS.ifNo X.here hx rfl hd rfl hc k) k
theorem ow_icmpYes (X : Stand p l e R s m args below meth c T locs cells slots) (hx : p.tables.exec = Jvm.exec) {pc q : Nat} {Ls : Array Slot} {S : List Value} {cd : ClassFile.Cond} {o : Int} {x y : Int32} (hd : decode c.code pc = .ok (.if_icmp cd o, 3)) (hc : if_icmp.holds cd x y = true) (ho : 0 ≤ (pc : Int) + o) (hp : ((pc : Int) + o).toNat = q) (k : ownEnds p e below s Q ck sk T (mkF m q Ls S)) : ownEnds p e below s Q ck sk T (mkF m pc Ls (.int y :: .int x :: S)) :=
  ownGo (fun _ k => XS.icmpYes X.here hx rfl rfl hd rfl hc ho hp k) k
theorem ow_icmpNo (X : Stand p l e R s m args below meth c T locs cells slots) (hx : p.tables.exec = Jvm.exec) {pc q : Nat} {Ls : Array Slot} {S : List Value} {cd : ClassFile.Cond} {o : Int} {x y : Int32} (hd : decode c.code pc = .ok (.if_icmp cd o, 3)) (hq : pc + 3 = q) (hc : if_icmp.holds cd x y = false) (k : ownEnds p e below s Q ck sk T (mkF m q Ls S)) : ownEnds p e below s Q ck sk T (mkF m pc Ls (.int y :: .int x :: S)) := by
  subst hq
  exact ownGo (fun _ k => XS.icmpNo X.here hx rfl hd rfl hc k) k
end OwnSteps
def own_maxL (a b : Int64) : Int64 := if a < b then b else a
def own_minL (a b : Int64) : Int64 := if b < a then b else a
theorem own_mm {a b M m : Int64} (hM : own_maxL a b = M) (hm : own_minL a b = m) : (M.toInt = a.toInt ∧ m.toInt = b.toInt ∧ b.toInt ≤ a.toInt) ∨ (M.toInt = b.toInt ∧ m.toInt = a.toInt ∧ a.toInt ≤ b.toInt) := by
  subst hM hm
  unfold own_maxL own_minL
  simp only [Int64.lt_iff_toInt_lt]
  split <;> split <;> omega
theorem own_sorted {q0 q1 q2 q3 a1 b1 a2 b2 a3 b3 a4 b4 a5 b5 : Int64} (h1 : own_maxL q0 q1 = a1) (h2 : own_minL q0 q1 = b1) (h3 : own_maxL q2 q3 = a2) (h4 : own_minL q2 q3 = b2) (h5 : own_maxL a1 a2 = a3) (h6 : own_minL a1 a2 = b3) (h7 : own_maxL b1 b2 = a4) (h8 : own_minL b1 b2 = b4) (h9 : own_maxL a4 b3 = a5) (h10 : own_minL a4 b3 = b5) : ¬ a3 < a5 ∧ ¬ a5 < b5 ∧ ¬ b5 < b4 := by
  have e1 := own_mm h1 h2
  have e2 := own_mm h3 h4
  have e3 := own_mm h5 h6
  have e4 := own_mm h7 h8
  have e5 := own_mm h9 h10
  simp only [Int64.lt_iff_toInt_lt]
  omega
theorem own_len {p v : Int32} (h : (p &&& (7 : Int32)) % (5 : Int32) = v) : v = (0 : Int32) ∨ v = (1 : Int32) ∨ v = (2 : Int32) ∨ v = (3 : Int32) ∨ v = (4 : Int32) := by
  have h1 := Jvm.Kit.i32_mask p 7 (k := 3) (by decide) (by decide)
  have h2 : 0 ≤ (p &&& (7 : Int32)).toInt := by rw [h1]; omega
  have h3 := Jvm.Kit.i32_rem_nonneg (y := 5) h2
  rw [h] at h3
  simp only [← Int32.toInt_inj, Int32.reduceToInt] at h3 ⊢
  omega
theorem own_nz {p v : Int32} (h : (p &&& (7 : Int32)) % (5 : Int32) = v) : v + (1 : Int32) ≠ 0 := by
  rcases own_len h with h | h | h | h | h <;> subst h <;> decide
theorem own_from {p m v : Int32} (h : (p &&& (7 : Int32)) % m = v) (hm : 0 < m.toInt) : 0 ≤ v.toInt ∧ v.toInt < m.toInt := by
  have h1 := Jvm.Kit.i32_mask p 7 (k := 3) (by decide) (by decide)
  have h2 : 0 ≤ (p &&& (7 : Int32)).toInt := by rw [h1]; omega
  have h3 := Jvm.Kit.i32_rem_nonneg (y := m) h2
  rw [h] at h3
  rw [h3]
  exact ⟨Int.emod_nonneg _ (by omega), Int.emod_lt_of_pos _ hm⟩
theorem own_from0 {p v : Int32} (h : (p &&& (7 : Int32)) % ((0 : Int32) + (1 : Int32)) = v) : v = (0 : Int32) := by
  have := own_from h (by decide)
  simp only [← Int32.toInt_inj, Int32.reduceToInt, Int32.reduceAdd] at this ⊢
  omega
theorem own_from1 {p v : Int32} (h : (p &&& (7 : Int32)) % ((1 : Int32) + (1 : Int32)) = v) : v = (0 : Int32) ∨ v = (1 : Int32) := by
  have := own_from h (by decide)
  simp only [← Int32.toInt_inj, Int32.reduceToInt, Int32.reduceAdd] at this ⊢
  omega
theorem own_from2 {p v : Int32} (h : (p &&& (7 : Int32)) % ((2 : Int32) + (1 : Int32)) = v) : v = (0 : Int32) ∨ v = (1 : Int32) ∨ v = (2 : Int32) := by
  have := own_from h (by decide)
  simp only [← Int32.toInt_inj, Int32.reduceToInt, Int32.reduceAdd] at this ⊢
  omega
theorem own_from3 {p v : Int32} (h : (p &&& (7 : Int32)) % ((3 : Int32) + (1 : Int32)) = v) : v = (0 : Int32) ∨ v = (1 : Int32) ∨ v = (2 : Int32) ∨ v = (3 : Int32) := by
  have := own_from h (by decide)
  simp only [← Int32.toInt_inj, Int32.reduceToInt, Int32.reduceAdd] at this ⊢
  omega
theorem own_from4 {p v : Int32} (h : (p &&& (7 : Int32)) % ((4 : Int32) + (1 : Int32)) = v) : v = (0 : Int32) ∨ v = (1 : Int32) ∨ v = (2 : Int32) ∨ v = (3 : Int32) ∨ v = (4 : Int32) := by
  have := own_from h (by decide)
  simp only [← Int32.toInt_inj, Int32.reduceToInt, Int32.reduceAdd] at this ⊢
  omega
theorem own_fam_0_0 {x0 x1 x2 x3 lim : Int64} (h : ¬ x0 < x1 ∧ ¬ x1 < x2 ∧ ¬ x2 < x3) : (0 : Int32) = (0 : Int32) := by
  first | rfl | (simp only [Int64.lt_iff_toInt_lt] at h ⊢; (repeat' split); all_goals first | rfl | (exfalso; omega))
theorem own_fam_1_0 {x0 x1 x2 x3 lim : Int64} (h : ¬ x0 < x1 ∧ ¬ x1 < x2 ∧ ¬ x2 < x3) : (if lim < x0 then (1 : Int32) else (0 : Int32)) = (if lim < x0 then (1 : Int32) else (0 : Int32)) := by
  first | rfl | (simp only [Int64.lt_iff_toInt_lt] at h ⊢; (repeat' split); all_goals first | rfl | (exfalso; omega))
theorem own_fam_1_1 {x0 x1 x2 x3 lim : Int64} (h : ¬ x0 < x1 ∧ ¬ x1 < x2 ∧ ¬ x2 < x3) : (1 : Int32) = (1 : Int32) := by
  first | rfl | (simp only [Int64.lt_iff_toInt_lt] at h ⊢; (repeat' split); all_goals first | rfl | (exfalso; omega))
theorem own_fam_2_0 {x0 x1 x2 x3 lim : Int64} (h : ¬ x0 < x1 ∧ ¬ x1 < x2 ∧ ¬ x2 < x3) : (if lim < x1 then (2 : Int32) else (if lim < x0 then (1 : Int32) else (0 : Int32))) = (if lim < x0 then (if lim < x1 then (2 : Int32) else (1 : Int32)) else (0 : Int32)) := by
  first | rfl | (simp only [Int64.lt_iff_toInt_lt] at h ⊢; (repeat' split); all_goals first | rfl | (exfalso; omega))
theorem own_fam_2_1 {x0 x1 x2 x3 lim : Int64} (h : ¬ x0 < x1 ∧ ¬ x1 < x2 ∧ ¬ x2 < x3) : (if lim < x1 then (2 : Int32) else (1 : Int32)) = (if lim < x1 then (2 : Int32) else (1 : Int32)) := by
  first | rfl | (simp only [Int64.lt_iff_toInt_lt] at h ⊢; (repeat' split); all_goals first | rfl | (exfalso; omega))
theorem own_fam_2_2 {x0 x1 x2 x3 lim : Int64} (h : ¬ x0 < x1 ∧ ¬ x1 < x2 ∧ ¬ x2 < x3) : (2 : Int32) = (2 : Int32) := by
  first | rfl | (simp only [Int64.lt_iff_toInt_lt] at h ⊢; (repeat' split); all_goals first | rfl | (exfalso; omega))
theorem own_fam_3_0 {x0 x1 x2 x3 lim : Int64} (h : ¬ x0 < x1 ∧ ¬ x1 < x2 ∧ ¬ x2 < x3) : (if lim < x1 then (if lim < x2 then (3 : Int32) else (2 : Int32)) else (if lim < x0 then (1 : Int32) else (0 : Int32))) = (if lim < x0 then (if lim < x1 then (if lim < x2 then (3 : Int32) else (2 : Int32)) else (1 : Int32)) else (0 : Int32)) := by
  first | rfl | (simp only [Int64.lt_iff_toInt_lt] at h ⊢; (repeat' split); all_goals first | rfl | (exfalso; omega))
theorem own_fam_3_1 {x0 x1 x2 x3 lim : Int64} (h : ¬ x0 < x1 ∧ ¬ x1 < x2 ∧ ¬ x2 < x3) : (if lim < x2 then (3 : Int32) else (if lim < x1 then (2 : Int32) else (1 : Int32))) = (if lim < x1 then (if lim < x2 then (3 : Int32) else (2 : Int32)) else (1 : Int32)) := by
  first | rfl | (simp only [Int64.lt_iff_toInt_lt] at h ⊢; (repeat' split); all_goals first | rfl | (exfalso; omega))
theorem own_fam_3_2 {x0 x1 x2 x3 lim : Int64} (h : ¬ x0 < x1 ∧ ¬ x1 < x2 ∧ ¬ x2 < x3) : (if lim < x2 then (3 : Int32) else (2 : Int32)) = (if lim < x2 then (3 : Int32) else (2 : Int32)) := by
  first | rfl | (simp only [Int64.lt_iff_toInt_lt] at h ⊢; (repeat' split); all_goals first | rfl | (exfalso; omega))
theorem own_fam_3_3 {x0 x1 x2 x3 lim : Int64} (h : ¬ x0 < x1 ∧ ¬ x1 < x2 ∧ ¬ x2 < x3) : (3 : Int32) = (3 : Int32) := by
  first | rfl | (simp only [Int64.lt_iff_toInt_lt] at h ⊢; (repeat' split); all_goals first | rfl | (exfalso; omega))
theorem own_fam_4_0 {x0 x1 x2 x3 lim : Int64} (h : ¬ x0 < x1 ∧ ¬ x1 < x2 ∧ ¬ x2 < x3) : (if lim < x2 then (if lim < x3 then (4 : Int32) else (3 : Int32)) else (if lim < x1 then (2 : Int32) else (if lim < x0 then (1 : Int32) else (0 : Int32)))) = (if lim < x0 then (if lim < x1 then (if lim < x2 then (if lim < x3 then (4 : Int32) else (3 : Int32)) else (2 : Int32)) else (1 : Int32)) else (0 : Int32)) := by
  first | rfl | (simp only [Int64.lt_iff_toInt_lt] at h ⊢; (repeat' split); all_goals first | rfl | (exfalso; omega))
theorem own_fam_4_1 {x0 x1 x2 x3 lim : Int64} (h : ¬ x0 < x1 ∧ ¬ x1 < x2 ∧ ¬ x2 < x3) : (if lim < x2 then (if lim < x3 then (4 : Int32) else (3 : Int32)) else (if lim < x1 then (2 : Int32) else (1 : Int32))) = (if lim < x1 then (if lim < x2 then (if lim < x3 then (4 : Int32) else (3 : Int32)) else (2 : Int32)) else (1 : Int32)) := by
  first | rfl | (simp only [Int64.lt_iff_toInt_lt] at h ⊢; (repeat' split); all_goals first | rfl | (exfalso; omega))
theorem own_fam_4_2 {x0 x1 x2 x3 lim : Int64} (h : ¬ x0 < x1 ∧ ¬ x1 < x2 ∧ ¬ x2 < x3) : (if lim < x3 then (4 : Int32) else (if lim < x2 then (3 : Int32) else (2 : Int32))) = (if lim < x2 then (if lim < x3 then (4 : Int32) else (3 : Int32)) else (2 : Int32)) := by
  first | rfl | (simp only [Int64.lt_iff_toInt_lt] at h ⊢; (repeat' split); all_goals first | rfl | (exfalso; omega))
theorem own_fam_4_3 {x0 x1 x2 x3 lim : Int64} (h : ¬ x0 < x1 ∧ ¬ x1 < x2 ∧ ¬ x2 < x3) : (if lim < x3 then (4 : Int32) else (3 : Int32)) = (if lim < x3 then (4 : Int32) else (3 : Int32)) := by
  first | rfl | (simp only [Int64.lt_iff_toInt_lt] at h ⊢; (repeat' split); all_goals first | rfl | (exfalso; omega))
theorem own_fam_4_4 {x0 x1 x2 x3 lim : Int64} (h : ¬ x0 < x1 ∧ ¬ x1 < x2 ∧ ¬ x2 < x3) : (4 : Int32) = (4 : Int32) := by
  first | rfl | (simp only [Int64.lt_iff_toInt_lt] at h ⊢; (repeat' split); all_goals first | rfl | (exfalso; omega))
theorem own_d1_0 : decode jdk_29_method_66_code 0 = .ok (.lload_n 0, 1) := by decide +kernel
theorem own_d1_1 : decode jdk_29_method_66_code 1 = .ok (.lload_n 2, 1) := by decide +kernel
theorem own_d1_2 : decode jdk_29_method_66_code 2 = .ok (.lcmp, 1) := by decide +kernel
theorem own_d1_3 : decode jdk_29_method_66_code 3 = .ok (.ifCond .lt 7, 3) := by decide +kernel
theorem own_d1_10 : decode jdk_29_method_66_code 10 = .ok (.lload_n 2, 1) := by decide +kernel
theorem own_d1_11 : decode jdk_29_method_66_code 11 = .ok (.lreturn, 1) := by decide +kernel
theorem own_d1_6 : decode jdk_29_method_66_code 6 = .ok (.lload_n 0, 1) := by decide +kernel
theorem own_d1_7 : decode jdk_29_method_66_code 7 = .ok (.goto 4, 3) := by decide +kernel
theorem own_ef1_maxL (m : MethodId) (q0 : Int64) (q1 : Int64) : entryFrame m #[(.long q0), (.long q1)] 4 = mkF m 0 #[.val (.long q0), .second, .val (.long q1), .second] [] := by first | (simp [entryFrame, mkF, argsToLocals, Value.category]; done) | rfl
def Q_maxL (Z : State) (q0 : Int64) (q1 : Int64) (h0 : Heap) (n0 : Nat) (v : Option Value) (h : Heap) (L : List Loc) : Prop := v = some (.long (own_maxL q0 q1)) ∧ Fr n0 L ∧ h = h0
set_option maxRecDepth 65536 in
set_option maxHeartbeats 40000000 in
theorem rm_maxL (l : Launch) (Z : State) (a0 : Array Value) (hw : ∀ d ∈ tables_1, d.before a0 Z = true) (ws : List Jvm.Cond) (q0 : Int64) (q1 : Int64) (h0 : Heap) (n0 : Nat) (Z0 : n0 ≤ h0.size) :
    MetFree l (⟨"java/lang/Math", "max", "(JJ)J"⟩ : MethodName) (head1 (Jvm.Cond.code (⟨"java/lang/Math", "max", "(JJ)J"⟩ : MethodName) jdk_29_method_66_code 4 (some .long) :: ws) ({ frames := 0, cells := 0, slots := 0, locals := 0 } : Room)) (fun a U => a = #[(.long q0), (.long q1)] ∧ Z.Warmed39 U.vm ∧ U.heap = h0) (fun _ _ _ _ _ => True) (fun _ U o U' => ∃ v L, o = .returned v ∧ (Q_maxL Z q0 q1 h0 n0) v U'.heap L ∧ FrameEnd U o U' L ({ frames := 0, cells := 0, slots := 0, locals := 0 } : Room).cells ({ frames := 0, cells := 0, slots := 0, locals := 0 } : Room).slots) := by
  refine MetFree.of_bodySF (Jvm.Free.JP.mathPlain rfl (by decide +kernel)) hisR ?_
  intro p e s m args below meth c s₁ Bd hml0 hP hK
  obtain ⟨rfl, hZ, hh⟩ := hP
  have hx := Bd.exec
  have hby := Bd.bytes
  have hml : c.maxLocals = 4 := hml0
  have hown : s.vm.findClass "java/lang/Math" = some m.cls := findClass_of_methodNamed Bd.named
  have hnm := (name_of_methodNamed Bd.named Bd.method).1
  have hlk : meth.locks = false := BodyLoose.notSynchronized Bd
  have X0 : Stand p l e ({ frames := 0, cells := 0, slots := 0, locals := 0 } : Room) s m #[(.long q0), (.long q1)] below meth c s₁ [] 0 0 := Stand.of_body Bd
  have e0 : s₁.heap = h0 := by rw [← hh, Bd.state]; rfl
  have N0 := Fr.nil n0
  have K0 : Keep h0 h0 [] := Keep.refl _ _
  show ownEnds p e below s (Q_maxL Z q0 q1 h0 n0) ({ frames := 0, cells := 0, slots := 0, locals := 0 } : Room).cells ({ frames := 0, cells := 0, slots := 0, locals := 0 } : Room).slots s₁ (entryFrame m #[(.long q0), (.long q1)] 4)
  refine ownCast (own_ef1_maxL m q0 q1) ?_
  refine ow_lloadN (q := 1) X0 hx (hb hby own_d1_0) rfl rfl ?_
  refine ow_lloadN (q := 2) X0 hx (hb hby own_d1_1) rfl rfl ?_
  refine ow_lcmp (q := 3) X0 hx _ (hb hby own_d1_2) rfl rfl ?_
  by_cases hc3_1 : q0 < q1
  · refine ow_ifYes (q := 10) X0 hx (hb hby own_d1_3) (Jvm.Free.XT.ll_lt_t hc3_1) (by decide) (by decide) ?_
    refine ow_lloadN (q := 11) X0 hx (hb hby own_d1_10) rfl rfl ?_
    refine ownRetJ X0 hx Bd.returns (hb hby own_d1_11) hlk (by decide) (by decide) ?_
    rw [e0]
    refine ⟨congrArg (fun q => some (Value.long q)) ?_, N0, rfl⟩
    simp [own_maxL, hc3_1]
  · refine ow_ifNo (q := 6) X0 hx (hb hby own_d1_3) rfl (Jvm.Free.XT.ll_lt_f hc3_1) ?_
    refine ow_lloadN (q := 7) X0 hx (hb hby own_d1_6) rfl rfl ?_
    refine ow_goto (q := 11) X0 hx (hb hby own_d1_7) (by decide) (by decide) ?_
    refine ownRetJ X0 hx Bd.returns (hb hby own_d1_11) hlk (by decide) (by decide) ?_
    rw [e0]
    refine ⟨congrArg (fun q => some (Value.long q)) ?_, N0, rfl⟩
    simp [own_maxL, hc3_1]
theorem own_d2_0 : decode jdk_29_method_70_code 0 = .ok (.lload_n 0, 1) := by decide +kernel
theorem own_d2_1 : decode jdk_29_method_70_code 1 = .ok (.lload_n 2, 1) := by decide +kernel
theorem own_d2_2 : decode jdk_29_method_70_code 2 = .ok (.lcmp, 1) := by decide +kernel
theorem own_d2_3 : decode jdk_29_method_70_code 3 = .ok (.ifCond .gt 7, 3) := by decide +kernel
theorem own_d2_10 : decode jdk_29_method_70_code 10 = .ok (.lload_n 2, 1) := by decide +kernel
theorem own_d2_11 : decode jdk_29_method_70_code 11 = .ok (.lreturn, 1) := by decide +kernel
theorem own_d2_6 : decode jdk_29_method_70_code 6 = .ok (.lload_n 0, 1) := by decide +kernel
theorem own_d2_7 : decode jdk_29_method_70_code 7 = .ok (.goto 4, 3) := by decide +kernel
theorem own_ef2_minL (m : MethodId) (q0 : Int64) (q1 : Int64) : entryFrame m #[(.long q0), (.long q1)] 4 = mkF m 0 #[.val (.long q0), .second, .val (.long q1), .second] [] := by first | (simp [entryFrame, mkF, argsToLocals, Value.category]; done) | rfl
def Q_minL (Z : State) (q0 : Int64) (q1 : Int64) (h0 : Heap) (n0 : Nat) (v : Option Value) (h : Heap) (L : List Loc) : Prop := v = some (.long (own_minL q0 q1)) ∧ Fr n0 L ∧ h = h0
set_option maxRecDepth 65536 in
set_option maxHeartbeats 40000000 in
theorem rm_minL (l : Launch) (Z : State) (a0 : Array Value) (hw : ∀ d ∈ tables_1, d.before a0 Z = true) (ws : List Jvm.Cond) (q0 : Int64) (q1 : Int64) (h0 : Heap) (n0 : Nat) (Z0 : n0 ≤ h0.size) :
    MetFree l (⟨"java/lang/Math", "min", "(JJ)J"⟩ : MethodName) (head1 (Jvm.Cond.code (⟨"java/lang/Math", "min", "(JJ)J"⟩ : MethodName) jdk_29_method_70_code 4 (some .long) :: ws) ({ frames := 0, cells := 0, slots := 0, locals := 0 } : Room)) (fun a U => a = #[(.long q0), (.long q1)] ∧ Z.Warmed39 U.vm ∧ U.heap = h0) (fun _ _ _ _ _ => True) (fun _ U o U' => ∃ v L, o = .returned v ∧ (Q_minL Z q0 q1 h0 n0) v U'.heap L ∧ FrameEnd U o U' L ({ frames := 0, cells := 0, slots := 0, locals := 0 } : Room).cells ({ frames := 0, cells := 0, slots := 0, locals := 0 } : Room).slots) := by
  refine MetFree.of_bodySF (Jvm.Free.JP.mathPlain rfl (by decide +kernel)) hisR ?_
  intro p e s m args below meth c s₁ Bd hml0 hP hK
  obtain ⟨rfl, hZ, hh⟩ := hP
  have hx := Bd.exec
  have hby := Bd.bytes
  have hml : c.maxLocals = 4 := hml0
  have hown : s.vm.findClass "java/lang/Math" = some m.cls := findClass_of_methodNamed Bd.named
  have hnm := (name_of_methodNamed Bd.named Bd.method).1
  have hlk : meth.locks = false := BodyLoose.notSynchronized Bd
  have X0 : Stand p l e ({ frames := 0, cells := 0, slots := 0, locals := 0 } : Room) s m #[(.long q0), (.long q1)] below meth c s₁ [] 0 0 := Stand.of_body Bd
  have e0 : s₁.heap = h0 := by rw [← hh, Bd.state]; rfl
  have N0 := Fr.nil n0
  have K0 : Keep h0 h0 [] := Keep.refl _ _
  show ownEnds p e below s (Q_minL Z q0 q1 h0 n0) ({ frames := 0, cells := 0, slots := 0, locals := 0 } : Room).cells ({ frames := 0, cells := 0, slots := 0, locals := 0 } : Room).slots s₁ (entryFrame m #[(.long q0), (.long q1)] 4)
  refine ownCast (own_ef2_minL m q0 q1) ?_
  refine ow_lloadN (q := 1) X0 hx (hb hby own_d2_0) rfl rfl ?_
  refine ow_lloadN (q := 2) X0 hx (hb hby own_d2_1) rfl rfl ?_
  refine ow_lcmp (q := 3) X0 hx _ (hb hby own_d2_2) rfl rfl ?_
  by_cases hc3_1 : q1 < q0
  · refine ow_ifYes (q := 10) X0 hx (hb hby own_d2_3) (Jvm.Free.XT.ll_gt_t hc3_1) (by decide) (by decide) ?_
    refine ow_lloadN (q := 11) X0 hx (hb hby own_d2_10) rfl rfl ?_
    refine ownRetJ X0 hx Bd.returns (hb hby own_d2_11) hlk (by decide) (by decide) ?_
    rw [e0]
    refine ⟨congrArg (fun q => some (Value.long q)) ?_, N0, rfl⟩
    simp [own_minL, hc3_1]
  · refine ow_ifNo (q := 6) X0 hx (hb hby own_d2_3) rfl (Jvm.Free.XT.ll_gt_f hc3_1) ?_
    refine ow_lloadN (q := 7) X0 hx (hb hby own_d2_6) rfl rfl ?_
    refine ow_goto (q := 11) X0 hx (hb hby own_d2_7) (by decide) (by decide) ?_
    refine ownRetJ X0 hx Bd.returns (hb hby own_d2_11) hlk (by decide) (by decide) ?_
    rw [e0]
    refine ⟨congrArg (fun q => some (Value.long q)) ?_, N0, rfl⟩
    simp [own_minL, hc3_1]
theorem own_pn_PackingFirstAtMostPinLaw : plainName "com/example/chromabin/chromabin/packing/PackingFirstAtMostPinLaw" = true := by first | (simp [plainName, overriddenIn]; done) | decide +kernel
theorem own_d3_0 : decode method_2_code 0 = .ok (.iload_n 0, 1) := by decide +kernel
theorem own_d3_1 : decode method_2_code 1 = .ok (.ifCond .ne 7, 3) := by decide +kernel
theorem own_d3_4 : decode method_2_code 4 = .ok (.iconst 0, 1) := by decide +kernel
theorem own_d3_5 : decode method_2_code 5 = .ok (.newarray .long, 2) := by decide +kernel
theorem own_d3_7 : decode method_2_code 7 = .ok (.areturn, 1) := by decide +kernel
theorem own_ef3_make_0 (m : MethodId) (q1 : Int64) (q2 : Int64) (q3 : Int64) (q4 : Int64) : entryFrame m #[(.int (0 : Int32)), (.long q1), (.long q2), (.long q3), (.long q4)] 9 = mkF m 0 #[iv (0 : Int32), .val (.long q1), .second, .val (.long q2), .second, .val (.long q3), .second, .val (.long q4), .second] [] := by first | (simp [entryFrame, mkF, argsToLocals, Value.category]; done) | rfl
def Q_make_0 (Z : State) (q1 : Int64) (q2 : Int64) (q3 : Int64) (q4 : Int64) (h0 : Heap) (n0 : Nat) (v : Option Value) (h : Heap) (L : List Loc) : Prop := ∃ (r : Addr), v = some (.ref r) ∧ Fr n0 L ∧ Keep h0 h [] ∧ h0.size ≤ r ∧ ownAJ Z h r 0 (fun _ => (0 : Int64))
set_option maxRecDepth 65536 in
set_option maxHeartbeats 40000000 in
theorem rm_make_0 (l : Launch) (Z : State) (a0 : Array Value) (hw : ∀ d ∈ tables_1, d.before a0 Z = true) (ws : List Jvm.Cond) (q1 : Int64) (q2 : Int64) (q3 : Int64) (q4 : Int64) (h0 : Heap) (n0 : Nat) (Z0 : n0 ≤ h0.size) :
    MetFree l (⟨"com/example/chromabin/chromabin/packing/PackingFirstAtMostPinLaw", "make", "(IJJJJ)[J"⟩ : MethodName) (head1 (Jvm.Cond.code (⟨"com/example/chromabin/chromabin/packing/PackingFirstAtMostPinLaw", "make", "(IJJJJ)[J"⟩ : MethodName) method_2_code 9 (some (.array .long)) :: ws) ({ frames := 0, cells := 1, slots := 0, locals := 0 } : Room)) (fun a U => a = #[(.int (0 : Int32)), (.long q1), (.long q2), (.long q3), (.long q4)] ∧ Z.Warmed39 U.vm ∧ U.heap = h0) (fun _ _ _ _ _ => True) (fun _ U o U' => ∃ v L, o = .returned v ∧ (Q_make_0 Z q1 q2 q3 q4 h0 n0) v U'.heap L ∧ FrameEnd U o U' L ({ frames := 0, cells := 1, slots := 0, locals := 0 } : Room).cells ({ frames := 0, cells := 1, slots := 0, locals := 0 } : Room).slots) := by
  refine MetFree.of_bodySF (plainFor_of_name own_pn_PackingFirstAtMostPinLaw) hisR ?_
  intro p e s m args below meth c s₁ Bd hml0 hP hK
  obtain ⟨rfl, hZ, hh⟩ := hP
  have hx := Bd.exec
  have hby := Bd.bytes
  have hml : c.maxLocals = 9 := hml0
  have hown : s.vm.findClass "com/example/chromabin/chromabin/packing/PackingFirstAtMostPinLaw" = some m.cls := findClass_of_methodNamed Bd.named
  have hnm := (name_of_methodNamed Bd.named Bd.method).1
  have hlk : meth.locks = false := BodyLoose.notSynchronized Bd
  have X0 : Stand p l e ({ frames := 0, cells := 1, slots := 0, locals := 0 } : Room) s m #[(.int (0 : Int32)), (.long q1), (.long q2), (.long q3), (.long q4)] below meth c s₁ [] 0 0 := Stand.of_body Bd
  have e0 : s₁.heap = h0 := by rw [← hh, Bd.state]; rfl
  have N0 := Fr.nil n0
  have K0 : Keep h0 h0 [] := Keep.refl _ _
  show ownEnds p e below s (Q_make_0 Z q1 q2 q3 q4 h0 n0) ({ frames := 0, cells := 1, slots := 0, locals := 0 } : Room).cells ({ frames := 0, cells := 1, slots := 0, locals := 0 } : Room).slots s₁ (entryFrame m #[(.int (0 : Int32)), (.long q1), (.long q2), (.long q3), (.long q4)] 9)
  refine ownCast (own_ef3_make_0 m q1 q2 q3 q4) ?_
  refine ow_iloadN (q := 1) X0 hx (hb hby own_d3_0) rfl rfl ?_
  refine ow_ifNo (q := 4) X0 hx (hb hby own_d3_1) rfl (Jvm.Free.XT.i0_ne_f (by decide)) ?_
  refine ow_iconst (q := 5) X0 hx (0 : Int32) (hb hby own_d3_4) rfl rfl ?_
  obtain ⟨T1, h1, k1, X1, e1, E1, A1, st1⟩ := newP X0 hx hZ (hw _ (List.mem_of_getElem? (i := 11) rfl)) e0 (g := (mkF m 5 #[iv (0 : Int32), .val (.long q1), .second, .val (.long q2), .second, .val (.long q3), .second, .val (.long q4), .second] [(.int (0 : Int32))])) rfl (hb hby own_d3_5) rfl (by decide) (cap := 0) (by decide) (by decide) (by decide) (by decide)
  obtain ⟨b1, g1⟩ : ∃ z, z = h0.size := ⟨_, rfl⟩
  rw [← g1] at A1 st1
  have sz_b1 : h0.size ≤ b1 := Nat.le_trans K0.1 (Nat.le_of_eq g1.symm)
  have G_b1 : n0 ≤ b1 := Nat.le_trans Z0 sz_b1
  have K1 : Keep h0 h1 [] := K0.ext E1
  have F2 : ownAJ Z h1 b1 0 (fun _ => (0 : Int64)) := ownAJ.new A1 (by decide) (by decide)
  refine ownGo (T' := T1) (f' := (mkF m 7 #[iv (0 : Int32), .val (.long q1), .second, .val (.long q2), .second, .val (.long q3), .second, .val (.long q4), .second] [(.ref b1)])) (st1) ?_
  refine ownRetR X1 hx rfl rfl rfl Bd.returns (hb hby own_d3_7) hlk (by decide) (by decide) ?_
  rw [e1]
  exact ⟨b1, rfl, N0, K1, sz_b1, F2⟩
theorem own_d3_8 : decode method_2_code 8 = .ok (.iload_n 0, 1) := by decide +kernel
theorem own_d3_9 : decode method_2_code 9 = .ok (.iconst 1, 1) := by decide +kernel
theorem own_d3_10 : decode method_2_code 10 = .ok (.if_icmp .ne 11, 3) := by decide +kernel
theorem own_d3_13 : decode method_2_code 13 = .ok (.iconst 1, 1) := by decide +kernel
theorem own_d3_14 : decode method_2_code 14 = .ok (.newarray .long, 2) := by decide +kernel
theorem own_d3_16 : decode method_2_code 16 = .ok (.dup, 1) := by decide +kernel
theorem own_d3_17 : decode method_2_code 17 = .ok (.iconst 0, 1) := by decide +kernel
theorem own_d3_18 : decode method_2_code 18 = .ok (.lload_n 1, 1) := by decide +kernel
theorem own_d3_19 : decode method_2_code 19 = .ok (.lastore, 1) := by decide +kernel
theorem own_d3_20 : decode method_2_code 20 = .ok (.areturn, 1) := by decide +kernel
theorem own_ef3_make_1 (m : MethodId) (q1 : Int64) (q2 : Int64) (q3 : Int64) (q4 : Int64) : entryFrame m #[(.int (1 : Int32)), (.long q1), (.long q2), (.long q3), (.long q4)] 9 = mkF m 0 #[iv (1 : Int32), .val (.long q1), .second, .val (.long q2), .second, .val (.long q3), .second, .val (.long q4), .second] [] := by first | (simp [entryFrame, mkF, argsToLocals, Value.category]; done) | rfl
def Q_make_1 (Z : State) (q1 : Int64) (q2 : Int64) (q3 : Int64) (q4 : Int64) (h0 : Heap) (n0 : Nat) (v : Option Value) (h : Heap) (L : List Loc) : Prop := ∃ (r : Addr), v = some (.ref r) ∧ Fr n0 L ∧ Keep h0 h [] ∧ h0.size ≤ r ∧ ownAJ Z h r 1 (ownUpd (fun _ => (0 : Int64)) 0 q1)
set_option maxRecDepth 65536 in
set_option maxHeartbeats 40000000 in
theorem rm_make_1 (l : Launch) (Z : State) (a0 : Array Value) (hw : ∀ d ∈ tables_1, d.before a0 Z = true) (ws : List Jvm.Cond) (q1 : Int64) (q2 : Int64) (q3 : Int64) (q4 : Int64) (h0 : Heap) (n0 : Nat) (Z0 : n0 ≤ h0.size) :
    MetFree l (⟨"com/example/chromabin/chromabin/packing/PackingFirstAtMostPinLaw", "make", "(IJJJJ)[J"⟩ : MethodName) (head1 (Jvm.Cond.code (⟨"com/example/chromabin/chromabin/packing/PackingFirstAtMostPinLaw", "make", "(IJJJJ)[J"⟩ : MethodName) method_2_code 9 (some (.array .long)) :: ws) ({ frames := 0, cells := 1, slots := 1, locals := 0 } : Room)) (fun a U => a = #[(.int (1 : Int32)), (.long q1), (.long q2), (.long q3), (.long q4)] ∧ Z.Warmed39 U.vm ∧ U.heap = h0) (fun _ _ _ _ _ => True) (fun _ U o U' => ∃ v L, o = .returned v ∧ (Q_make_1 Z q1 q2 q3 q4 h0 n0) v U'.heap L ∧ FrameEnd U o U' L ({ frames := 0, cells := 1, slots := 1, locals := 0 } : Room).cells ({ frames := 0, cells := 1, slots := 1, locals := 0 } : Room).slots) := by
  refine MetFree.of_bodySF (plainFor_of_name own_pn_PackingFirstAtMostPinLaw) hisR ?_
  intro p e s m args below meth c s₁ Bd hml0 hP hK
  obtain ⟨rfl, hZ, hh⟩ := hP
  have hx := Bd.exec
  have hby := Bd.bytes
  have hml : c.maxLocals = 9 := hml0
  have hown : s.vm.findClass "com/example/chromabin/chromabin/packing/PackingFirstAtMostPinLaw" = some m.cls := findClass_of_methodNamed Bd.named
  have hnm := (name_of_methodNamed Bd.named Bd.method).1
  have hlk : meth.locks = false := BodyLoose.notSynchronized Bd
  have X0 : Stand p l e ({ frames := 0, cells := 1, slots := 1, locals := 0 } : Room) s m #[(.int (1 : Int32)), (.long q1), (.long q2), (.long q3), (.long q4)] below meth c s₁ [] 0 0 := Stand.of_body Bd
  have e0 : s₁.heap = h0 := by rw [← hh, Bd.state]; rfl
  have N0 := Fr.nil n0
  have K0 : Keep h0 h0 [] := Keep.refl _ _
  show ownEnds p e below s (Q_make_1 Z q1 q2 q3 q4 h0 n0) ({ frames := 0, cells := 1, slots := 1, locals := 0 } : Room).cells ({ frames := 0, cells := 1, slots := 1, locals := 0 } : Room).slots s₁ (entryFrame m #[(.int (1 : Int32)), (.long q1), (.long q2), (.long q3), (.long q4)] 9)
  refine ownCast (own_ef3_make_1 m q1 q2 q3 q4) ?_
  refine ow_iloadN (q := 1) X0 hx (hb hby own_d3_0) rfl rfl ?_
  refine ow_ifYes (q := 8) X0 hx (hb hby own_d3_1) (Jvm.Free.XT.i0_ne_t (by decide)) (by decide) (by decide) ?_
  refine ow_iloadN (q := 9) X0 hx (hb hby own_d3_8) rfl rfl ?_
  refine ow_iconst (q := 10) X0 hx (1 : Int32) (hb hby own_d3_9) rfl rfl ?_
  refine ow_icmpNo (q := 13) X0 hx (hb hby own_d3_10) rfl (Jvm.Free.XT.ii_ne_f (by decide)) ?_
  refine ow_iconst (q := 14) X0 hx (1 : Int32) (hb hby own_d3_13) rfl rfl ?_
  obtain ⟨T1, h1, k1, X1, e1, E1, A1, st1⟩ := newP X0 hx hZ (hw _ (List.mem_of_getElem? (i := 11) rfl)) e0 (g := (mkF m 14 #[iv (1 : Int32), .val (.long q1), .second, .val (.long q2), .second, .val (.long q3), .second, .val (.long q4), .second] [(.int (1 : Int32))])) rfl (hb hby own_d3_14) rfl (by decide) (cap := 1) (by decide) (by decide) (by decide) (by decide)
  obtain ⟨b1, g1⟩ : ∃ z, z = h0.size := ⟨_, rfl⟩
  rw [← g1] at A1 st1
  have sz_b1 : h0.size ≤ b1 := Nat.le_trans K0.1 (Nat.le_of_eq g1.symm)
  have G_b1 : n0 ≤ b1 := Nat.le_trans Z0 sz_b1
  have K1 : Keep h0 h1 [] := K0.ext E1
  have F2 : ownAJ Z h1 b1 1 (fun _ => (0 : Int64)) := ownAJ.new A1 (by decide) (by decide)
  refine ownGo (T' := T1) (f' := (mkF m 16 #[iv (1 : Int32), .val (.long q1), .second, .val (.long q2), .second, .val (.long q3), .second, .val (.long q4), .second] [(.ref b1)])) (st1) ?_
  refine ow_dup (q := 17) X1 hx (hb hby own_d3_16) rfl rfl ?_
  refine ow_iconst (q := 18) X1 hx (0 : Int32) (hb hby own_d3_17) rfl rfl ?_
  refine ow_lloadN (q := 19) X1 hx (hb hby own_d3_18) rfl rfl ?_
  obtain ⟨T3, h3, X3, e3, W3, F3s, st3⟩ := ownLastore F2 X1 hx hZ e1 (j := (0 : Int32)) (by unfold ownIn; decide) (g := (mkF m 19 #[iv (1 : Int32), .val (.long q1), .second, .val (.long q2), .second, .val (.long q3), .second, .val (.long q4), .second] [(.long q1), (.int (0 : Int32)), (.ref b1), (.ref b1)])) rfl rfl (hb hby own_d3_19)
  have F3r : ownAJ Z h3 b1 1 (ownUpd (fun _ => (0 : Int64)) 0 q1) := F3s
  have N3 := Fr.snoc X3 N0 G_b1
  have K3 : Keep h0 h3 [] := K1.wr W3 (Or.inr sz_b1)
  refine ownGo (T' := T3) (f' := (mkF m 20 #[iv (1 : Int32), .val (.long q1), .second, .val (.long q2), .second, .val (.long q3), .second, .val (.long q4), .second] [(.ref b1)])) (st3) ?_
  refine ownRetR X3 hx rfl rfl rfl Bd.returns (hb hby own_d3_20) hlk (by decide) (by decide) ?_
  rw [e3]
  exact ⟨b1, rfl, N3, K3, sz_b1, F3r⟩
theorem own_d3_21 : decode method_2_code 21 = .ok (.iload_n 0, 1) := by decide +kernel
theorem own_d3_22 : decode method_2_code 22 = .ok (.iconst 2, 1) := by decide +kernel
theorem own_d3_23 : decode method_2_code 23 = .ok (.if_icmp .ne 15, 3) := by decide +kernel
theorem own_d3_26 : decode method_2_code 26 = .ok (.iconst 2, 1) := by decide +kernel
theorem own_d3_27 : decode method_2_code 27 = .ok (.newarray .long, 2) := by decide +kernel
theorem own_d3_29 : decode method_2_code 29 = .ok (.dup, 1) := by decide +kernel
theorem own_d3_30 : decode method_2_code 30 = .ok (.iconst 0, 1) := by decide +kernel
theorem own_d3_31 : decode method_2_code 31 = .ok (.lload_n 1, 1) := by decide +kernel
theorem own_d3_32 : decode method_2_code 32 = .ok (.lastore, 1) := by decide +kernel
theorem own_d3_33 : decode method_2_code 33 = .ok (.dup, 1) := by decide +kernel
theorem own_d3_34 : decode method_2_code 34 = .ok (.iconst 1, 1) := by decide +kernel
theorem own_d3_35 : decode method_2_code 35 = .ok (.lload_n 3, 1) := by decide +kernel
theorem own_d3_36 : decode method_2_code 36 = .ok (.lastore, 1) := by decide +kernel
theorem own_d3_37 : decode method_2_code 37 = .ok (.areturn, 1) := by decide +kernel
theorem own_ef3_make_2 (m : MethodId) (q1 : Int64) (q2 : Int64) (q3 : Int64) (q4 : Int64) : entryFrame m #[(.int (2 : Int32)), (.long q1), (.long q2), (.long q3), (.long q4)] 9 = mkF m 0 #[iv (2 : Int32), .val (.long q1), .second, .val (.long q2), .second, .val (.long q3), .second, .val (.long q4), .second] [] := by first | (simp [entryFrame, mkF, argsToLocals, Value.category]; done) | rfl
def Q_make_2 (Z : State) (q1 : Int64) (q2 : Int64) (q3 : Int64) (q4 : Int64) (h0 : Heap) (n0 : Nat) (v : Option Value) (h : Heap) (L : List Loc) : Prop := ∃ (r : Addr), v = some (.ref r) ∧ Fr n0 L ∧ Keep h0 h [] ∧ h0.size ≤ r ∧ ownAJ Z h r 2 (ownUpd (ownUpd (fun _ => (0 : Int64)) 0 q1) 1 q2)
set_option maxRecDepth 65536 in
set_option maxHeartbeats 40000000 in
theorem rm_make_2 (l : Launch) (Z : State) (a0 : Array Value) (hw : ∀ d ∈ tables_1, d.before a0 Z = true) (ws : List Jvm.Cond) (q1 : Int64) (q2 : Int64) (q3 : Int64) (q4 : Int64) (h0 : Heap) (n0 : Nat) (Z0 : n0 ≤ h0.size) :
    MetFree l (⟨"com/example/chromabin/chromabin/packing/PackingFirstAtMostPinLaw", "make", "(IJJJJ)[J"⟩ : MethodName) (head1 (Jvm.Cond.code (⟨"com/example/chromabin/chromabin/packing/PackingFirstAtMostPinLaw", "make", "(IJJJJ)[J"⟩ : MethodName) method_2_code 9 (some (.array .long)) :: ws) ({ frames := 0, cells := 1, slots := 2, locals := 0 } : Room)) (fun a U => a = #[(.int (2 : Int32)), (.long q1), (.long q2), (.long q3), (.long q4)] ∧ Z.Warmed39 U.vm ∧ U.heap = h0) (fun _ _ _ _ _ => True) (fun _ U o U' => ∃ v L, o = .returned v ∧ (Q_make_2 Z q1 q2 q3 q4 h0 n0) v U'.heap L ∧ FrameEnd U o U' L ({ frames := 0, cells := 1, slots := 2, locals := 0 } : Room).cells ({ frames := 0, cells := 1, slots := 2, locals := 0 } : Room).slots) := by
  refine MetFree.of_bodySF (plainFor_of_name own_pn_PackingFirstAtMostPinLaw) hisR ?_
  intro p e s m args below meth c s₁ Bd hml0 hP hK
  obtain ⟨rfl, hZ, hh⟩ := hP
  have hx := Bd.exec
  have hby := Bd.bytes
  have hml : c.maxLocals = 9 := hml0
  have hown : s.vm.findClass "com/example/chromabin/chromabin/packing/PackingFirstAtMostPinLaw" = some m.cls := findClass_of_methodNamed Bd.named
  have hnm := (name_of_methodNamed Bd.named Bd.method).1
  have hlk : meth.locks = false := BodyLoose.notSynchronized Bd
  have X0 : Stand p l e ({ frames := 0, cells := 1, slots := 2, locals := 0 } : Room) s m #[(.int (2 : Int32)), (.long q1), (.long q2), (.long q3), (.long q4)] below meth c s₁ [] 0 0 := Stand.of_body Bd
  have e0 : s₁.heap = h0 := by rw [← hh, Bd.state]; rfl
  have N0 := Fr.nil n0
  have K0 : Keep h0 h0 [] := Keep.refl _ _
  show ownEnds p e below s (Q_make_2 Z q1 q2 q3 q4 h0 n0) ({ frames := 0, cells := 1, slots := 2, locals := 0 } : Room).cells ({ frames := 0, cells := 1, slots := 2, locals := 0 } : Room).slots s₁ (entryFrame m #[(.int (2 : Int32)), (.long q1), (.long q2), (.long q3), (.long q4)] 9)
  refine ownCast (own_ef3_make_2 m q1 q2 q3 q4) ?_
  refine ow_iloadN (q := 1) X0 hx (hb hby own_d3_0) rfl rfl ?_
  refine ow_ifYes (q := 8) X0 hx (hb hby own_d3_1) (Jvm.Free.XT.i0_ne_t (by decide)) (by decide) (by decide) ?_
  refine ow_iloadN (q := 9) X0 hx (hb hby own_d3_8) rfl rfl ?_
  refine ow_iconst (q := 10) X0 hx (1 : Int32) (hb hby own_d3_9) rfl rfl ?_
  refine ow_icmpYes (q := 21) X0 hx (hb hby own_d3_10) (Jvm.Free.XT.ii_ne_t (by decide)) (by decide) (by decide) ?_
  refine ow_iloadN (q := 22) X0 hx (hb hby own_d3_21) rfl rfl ?_
  refine ow_iconst (q := 23) X0 hx (2 : Int32) (hb hby own_d3_22) rfl rfl ?_
  refine ow_icmpNo (q := 26) X0 hx (hb hby own_d3_23) rfl (Jvm.Free.XT.ii_ne_f (by decide)) ?_
  refine ow_iconst (q := 27) X0 hx (2 : Int32) (hb hby own_d3_26) rfl rfl ?_
  obtain ⟨T1, h1, k1, X1, e1, E1, A1, st1⟩ := newP X0 hx hZ (hw _ (List.mem_of_getElem? (i := 11) rfl)) e0 (g := (mkF m 27 #[iv (2 : Int32), .val (.long q1), .second, .val (.long q2), .second, .val (.long q3), .second, .val (.long q4), .second] [(.int (2 : Int32))])) rfl (hb hby own_d3_27) rfl (by decide) (cap := 2) (by decide) (by decide) (by decide) (by decide)
  obtain ⟨b1, g1⟩ : ∃ z, z = h0.size := ⟨_, rfl⟩
  rw [← g1] at A1 st1
  have sz_b1 : h0.size ≤ b1 := Nat.le_trans K0.1 (Nat.le_of_eq g1.symm)
  have G_b1 : n0 ≤ b1 := Nat.le_trans Z0 sz_b1
  have K1 : Keep h0 h1 [] := K0.ext E1
  have F2 : ownAJ Z h1 b1 2 (fun _ => (0 : Int64)) := ownAJ.new A1 (by decide) (by decide)
  refine ownGo (T' := T1) (f' := (mkF m 29 #[iv (2 : Int32), .val (.long q1), .second, .val (.long q2), .second, .val (.long q3), .second, .val (.long q4), .second] [(.ref b1)])) (st1) ?_
  refine ow_dup (q := 30) X1 hx (hb hby own_d3_29) rfl rfl ?_
  refine ow_iconst (q := 31) X1 hx (0 : Int32) (hb hby own_d3_30) rfl rfl ?_
  refine ow_lloadN (q := 32) X1 hx (hb hby own_d3_31) rfl rfl ?_
  obtain ⟨T3, h3, X3, e3, W3, F3s, st3⟩ := ownLastore F2 X1 hx hZ e1 (j := (0 : Int32)) (by unfold ownIn; decide) (g := (mkF m 32 #[iv (2 : Int32), .val (.long q1), .second, .val (.long q2), .second, .val (.long q3), .second, .val (.long q4), .second] [(.long q1), (.int (0 : Int32)), (.ref b1), (.ref b1)])) rfl rfl (hb hby own_d3_32)
  have F3r : ownAJ Z h3 b1 2 (ownUpd (fun _ => (0 : Int64)) 0 q1) := F3s
  have N3 := Fr.snoc X3 N0 G_b1
  have K3 : Keep h0 h3 [] := K1.wr W3 (Or.inr sz_b1)
  refine ownGo (T' := T3) (f' := (mkF m 33 #[iv (2 : Int32), .val (.long q1), .second, .val (.long q2), .second, .val (.long q3), .second, .val (.long q4), .second] [(.ref b1)])) (st3) ?_
  refine ow_dup (q := 34) X3 hx (hb hby own_d3_33) rfl rfl ?_
  refine ow_iconst (q := 35) X3 hx (1 : Int32) (hb hby own_d3_34) rfl rfl ?_
  refine ow_lloadN (q := 36) X3 hx (hb hby own_d3_35) rfl rfl ?_
  obtain ⟨T4, h4, X4, e4, W4, F4s, st4⟩ := ownLastore F3r X3 hx hZ e3 (j := (1 : Int32)) (by unfold ownIn; decide) (g := (mkF m 36 #[iv (2 : Int32), .val (.long q1), .second, .val (.long q2), .second, .val (.long q3), .second, .val (.long q4), .second] [(.long q2), (.int (1 : Int32)), (.ref b1), (.ref b1)])) rfl rfl (hb hby own_d3_36)
  have F4r : ownAJ Z h4 b1 2 (ownUpd (ownUpd (fun _ => (0 : Int64)) 0 q1) 1 q2) := F4s
  have N4 := Fr.snoc X4 N3 G_b1
  have K4 : Keep h0 h4 [] := K3.wr W4 (Or.inr sz_b1)
  refine ownGo (T' := T4) (f' := (mkF m 37 #[iv (2 : Int32), .val (.long q1), .second, .val (.long q2), .second, .val (.long q3), .second, .val (.long q4), .second] [(.ref b1)])) (st4) ?_
  refine ownRetR X4 hx rfl rfl rfl Bd.returns (hb hby own_d3_37) hlk (by decide) (by decide) ?_
  rw [e4]
  exact ⟨b1, rfl, N4, K4, sz_b1, F4r⟩
theorem own_d3_38 : decode method_2_code 38 = .ok (.iload_n 0, 1) := by decide +kernel
theorem own_d3_39 : decode method_2_code 39 = .ok (.iconst 3, 1) := by decide +kernel
theorem own_d3_40 : decode method_2_code 40 = .ok (.if_icmp .ne 20, 3) := by decide +kernel
theorem own_d3_43 : decode method_2_code 43 = .ok (.iconst 3, 1) := by decide +kernel
theorem own_d3_44 : decode method_2_code 44 = .ok (.newarray .long, 2) := by decide +kernel
theorem own_d3_46 : decode method_2_code 46 = .ok (.dup, 1) := by decide +kernel
theorem own_d3_47 : decode method_2_code 47 = .ok (.iconst 0, 1) := by decide +kernel
theorem own_d3_48 : decode method_2_code 48 = .ok (.lload_n 1, 1) := by decide +kernel
theorem own_d3_49 : decode method_2_code 49 = .ok (.lastore, 1) := by decide +kernel
theorem own_d3_50 : decode method_2_code 50 = .ok (.dup, 1) := by decide +kernel
theorem own_d3_51 : decode method_2_code 51 = .ok (.iconst 1, 1) := by decide +kernel
theorem own_d3_52 : decode method_2_code 52 = .ok (.lload_n 3, 1) := by decide +kernel
theorem own_d3_53 : decode method_2_code 53 = .ok (.lastore, 1) := by decide +kernel
theorem own_d3_54 : decode method_2_code 54 = .ok (.dup, 1) := by decide +kernel
theorem own_d3_55 : decode method_2_code 55 = .ok (.iconst 2, 1) := by decide +kernel
theorem own_d3_56 : decode method_2_code 56 = .ok (.lload 5, 2) := by decide +kernel
theorem own_d3_58 : decode method_2_code 58 = .ok (.lastore, 1) := by decide +kernel
theorem own_d3_59 : decode method_2_code 59 = .ok (.areturn, 1) := by decide +kernel
theorem own_ef3_make_3 (m : MethodId) (q1 : Int64) (q2 : Int64) (q3 : Int64) (q4 : Int64) : entryFrame m #[(.int (3 : Int32)), (.long q1), (.long q2), (.long q3), (.long q4)] 9 = mkF m 0 #[iv (3 : Int32), .val (.long q1), .second, .val (.long q2), .second, .val (.long q3), .second, .val (.long q4), .second] [] := by first | (simp [entryFrame, mkF, argsToLocals, Value.category]; done) | rfl
def Q_make_3 (Z : State) (q1 : Int64) (q2 : Int64) (q3 : Int64) (q4 : Int64) (h0 : Heap) (n0 : Nat) (v : Option Value) (h : Heap) (L : List Loc) : Prop := ∃ (r : Addr), v = some (.ref r) ∧ Fr n0 L ∧ Keep h0 h [] ∧ h0.size ≤ r ∧ ownAJ Z h r 3 (ownUpd (ownUpd (ownUpd (fun _ => (0 : Int64)) 0 q1) 1 q2) 2 q3)
set_option maxRecDepth 65536 in
set_option maxHeartbeats 40000000 in
theorem rm_make_3 (l : Launch) (Z : State) (a0 : Array Value) (hw : ∀ d ∈ tables_1, d.before a0 Z = true) (ws : List Jvm.Cond) (q1 : Int64) (q2 : Int64) (q3 : Int64) (q4 : Int64) (h0 : Heap) (n0 : Nat) (Z0 : n0 ≤ h0.size) :
    MetFree l (⟨"com/example/chromabin/chromabin/packing/PackingFirstAtMostPinLaw", "make", "(IJJJJ)[J"⟩ : MethodName) (head1 (Jvm.Cond.code (⟨"com/example/chromabin/chromabin/packing/PackingFirstAtMostPinLaw", "make", "(IJJJJ)[J"⟩ : MethodName) method_2_code 9 (some (.array .long)) :: ws) ({ frames := 0, cells := 1, slots := 3, locals := 0 } : Room)) (fun a U => a = #[(.int (3 : Int32)), (.long q1), (.long q2), (.long q3), (.long q4)] ∧ Z.Warmed39 U.vm ∧ U.heap = h0) (fun _ _ _ _ _ => True) (fun _ U o U' => ∃ v L, o = .returned v ∧ (Q_make_3 Z q1 q2 q3 q4 h0 n0) v U'.heap L ∧ FrameEnd U o U' L ({ frames := 0, cells := 1, slots := 3, locals := 0 } : Room).cells ({ frames := 0, cells := 1, slots := 3, locals := 0 } : Room).slots) := by
  refine MetFree.of_bodySF (plainFor_of_name own_pn_PackingFirstAtMostPinLaw) hisR ?_
  intro p e s m args below meth c s₁ Bd hml0 hP hK
  obtain ⟨rfl, hZ, hh⟩ := hP
  have hx := Bd.exec
  have hby := Bd.bytes
  have hml : c.maxLocals = 9 := hml0
  have hown : s.vm.findClass "com/example/chromabin/chromabin/packing/PackingFirstAtMostPinLaw" = some m.cls := findClass_of_methodNamed Bd.named
  have hnm := (name_of_methodNamed Bd.named Bd.method).1
  have hlk : meth.locks = false := BodyLoose.notSynchronized Bd
  have X0 : Stand p l e ({ frames := 0, cells := 1, slots := 3, locals := 0 } : Room) s m #[(.int (3 : Int32)), (.long q1), (.long q2), (.long q3), (.long q4)] below meth c s₁ [] 0 0 := Stand.of_body Bd
  have e0 : s₁.heap = h0 := by rw [← hh, Bd.state]; rfl
  have N0 := Fr.nil n0
  have K0 : Keep h0 h0 [] := Keep.refl _ _
  show ownEnds p e below s (Q_make_3 Z q1 q2 q3 q4 h0 n0) ({ frames := 0, cells := 1, slots := 3, locals := 0 } : Room).cells ({ frames := 0, cells := 1, slots := 3, locals := 0 } : Room).slots s₁ (entryFrame m #[(.int (3 : Int32)), (.long q1), (.long q2), (.long q3), (.long q4)] 9)
  refine ownCast (own_ef3_make_3 m q1 q2 q3 q4) ?_
  refine ow_iloadN (q := 1) X0 hx (hb hby own_d3_0) rfl rfl ?_
  refine ow_ifYes (q := 8) X0 hx (hb hby own_d3_1) (Jvm.Free.XT.i0_ne_t (by decide)) (by decide) (by decide) ?_
  refine ow_iloadN (q := 9) X0 hx (hb hby own_d3_8) rfl rfl ?_
  refine ow_iconst (q := 10) X0 hx (1 : Int32) (hb hby own_d3_9) rfl rfl ?_
  refine ow_icmpYes (q := 21) X0 hx (hb hby own_d3_10) (Jvm.Free.XT.ii_ne_t (by decide)) (by decide) (by decide) ?_
  refine ow_iloadN (q := 22) X0 hx (hb hby own_d3_21) rfl rfl ?_
  refine ow_iconst (q := 23) X0 hx (2 : Int32) (hb hby own_d3_22) rfl rfl ?_
  refine ow_icmpYes (q := 38) X0 hx (hb hby own_d3_23) (Jvm.Free.XT.ii_ne_t (by decide)) (by decide) (by decide) ?_
  refine ow_iloadN (q := 39) X0 hx (hb hby own_d3_38) rfl rfl ?_
  refine ow_iconst (q := 40) X0 hx (3 : Int32) (hb hby own_d3_39) rfl rfl ?_
  refine ow_icmpNo (q := 43) X0 hx (hb hby own_d3_40) rfl (Jvm.Free.XT.ii_ne_f (by decide)) ?_
  refine ow_iconst (q := 44) X0 hx (3 : Int32) (hb hby own_d3_43) rfl rfl ?_
  obtain ⟨T1, h1, k1, X1, e1, E1, A1, st1⟩ := newP X0 hx hZ (hw _ (List.mem_of_getElem? (i := 11) rfl)) e0 (g := (mkF m 44 #[iv (3 : Int32), .val (.long q1), .second, .val (.long q2), .second, .val (.long q3), .second, .val (.long q4), .second] [(.int (3 : Int32))])) rfl (hb hby own_d3_44) rfl (by decide) (cap := 3) (by decide) (by decide) (by decide) (by decide)
  obtain ⟨b1, g1⟩ : ∃ z, z = h0.size := ⟨_, rfl⟩
  rw [← g1] at A1 st1
  have sz_b1 : h0.size ≤ b1 := Nat.le_trans K0.1 (Nat.le_of_eq g1.symm)
  have G_b1 : n0 ≤ b1 := Nat.le_trans Z0 sz_b1
  have K1 : Keep h0 h1 [] := K0.ext E1
  have F2 : ownAJ Z h1 b1 3 (fun _ => (0 : Int64)) := ownAJ.new A1 (by decide) (by decide)
  refine ownGo (T' := T1) (f' := (mkF m 46 #[iv (3 : Int32), .val (.long q1), .second, .val (.long q2), .second, .val (.long q3), .second, .val (.long q4), .second] [(.ref b1)])) (st1) ?_
  refine ow_dup (q := 47) X1 hx (hb hby own_d3_46) rfl rfl ?_
  refine ow_iconst (q := 48) X1 hx (0 : Int32) (hb hby own_d3_47) rfl rfl ?_
  refine ow_lloadN (q := 49) X1 hx (hb hby own_d3_48) rfl rfl ?_
  obtain ⟨T3, h3, X3, e3, W3, F3s, st3⟩ := ownLastore F2 X1 hx hZ e1 (j := (0 : Int32)) (by unfold ownIn; decide) (g := (mkF m 49 #[iv (3 : Int32), .val (.long q1), .second, .val (.long q2), .second, .val (.long q3), .second, .val (.long q4), .second] [(.long q1), (.int (0 : Int32)), (.ref b1), (.ref b1)])) rfl rfl (hb hby own_d3_49)
  have F3r : ownAJ Z h3 b1 3 (ownUpd (fun _ => (0 : Int64)) 0 q1) := F3s
  have N3 := Fr.snoc X3 N0 G_b1
  have K3 : Keep h0 h3 [] := K1.wr W3 (Or.inr sz_b1)
  refine ownGo (T' := T3) (f' := (mkF m 50 #[iv (3 : Int32), .val (.long q1), .second, .val (.long q2), .second, .val (.long q3), .second, .val (.long q4), .second] [(.ref b1)])) (st3) ?_
  refine ow_dup (q := 51) X3 hx (hb hby own_d3_50) rfl rfl ?_
  refine ow_iconst (q := 52) X3 hx (1 : Int32) (hb hby own_d3_51) rfl rfl ?_
  refine ow_lloadN (q := 53) X3 hx (hb hby own_d3_52) rfl rfl ?_
  obtain ⟨T4, h4, X4, e4, W4, F4s, st4⟩ := ownLastore F3r X3 hx hZ e3 (j := (1 : Int32)) (by unfold ownIn; decide) (g := (mkF m 53 #[iv (3 : Int32), .val (.long q1), .second, .val (.long q2), .second, .val (.long q3), .second, .val (.long q4), .second] [(.long q2), (.int (1 : Int32)), (.ref b1), (.ref b1)])) rfl rfl (hb hby own_d3_53)
  have F4r : ownAJ Z h4 b1 3 (ownUpd (ownUpd (fun _ => (0 : Int64)) 0 q1) 1 q2) := F4s
  have N4 := Fr.snoc X4 N3 G_b1
  have K4 : Keep h0 h4 [] := K3.wr W4 (Or.inr sz_b1)
  refine ownGo (T' := T4) (f' := (mkF m 54 #[iv (3 : Int32), .val (.long q1), .second, .val (.long q2), .second, .val (.long q3), .second, .val (.long q4), .second] [(.ref b1)])) (st4) ?_
  refine ow_dup (q := 55) X4 hx (hb hby own_d3_54) rfl rfl ?_
  refine ow_iconst (q := 56) X4 hx (2 : Int32) (hb hby own_d3_55) rfl rfl ?_
  refine ow_lload (q := 58) X4 hx (hb hby own_d3_56) rfl rfl ?_
  obtain ⟨T5, h5, X5, e5, W5, F5s, st5⟩ := ownLastore F4r X4 hx hZ e4 (j := (2 : Int32)) (by unfold ownIn; decide) (g := (mkF m 58 #[iv (3 : Int32), .val (.long q1), .second, .val (.long q2), .second, .val (.long q3), .second, .val (.long q4), .second] [(.long q3), (.int (2 : Int32)), (.ref b1), (.ref b1)])) rfl rfl (hb hby own_d3_58)
  have F5r : ownAJ Z h5 b1 3 (ownUpd (ownUpd (ownUpd (fun _ => (0 : Int64)) 0 q1) 1 q2) 2 q3) := F5s
  have N5 := Fr.snoc X5 N4 G_b1
  have K5 : Keep h0 h5 [] := K4.wr W5 (Or.inr sz_b1)
  refine ownGo (T' := T5) (f' := (mkF m 59 #[iv (3 : Int32), .val (.long q1), .second, .val (.long q2), .second, .val (.long q3), .second, .val (.long q4), .second] [(.ref b1)])) (st5) ?_
  refine ownRetR X5 hx rfl rfl rfl Bd.returns (hb hby own_d3_59) hlk (by decide) (by decide) ?_
  rw [e5]
  exact ⟨b1, rfl, N5, K5, sz_b1, F5r⟩
theorem own_d3_60 : decode method_2_code 60 = .ok (.iconst 4, 1) := by decide +kernel
theorem own_d3_61 : decode method_2_code 61 = .ok (.newarray .long, 2) := by decide +kernel
theorem own_d3_63 : decode method_2_code 63 = .ok (.dup, 1) := by decide +kernel
theorem own_d3_64 : decode method_2_code 64 = .ok (.iconst 0, 1) := by decide +kernel
theorem own_d3_65 : decode method_2_code 65 = .ok (.lload_n 1, 1) := by decide +kernel
theorem own_d3_66 : decode method_2_code 66 = .ok (.lastore, 1) := by decide +kernel
theorem own_d3_67 : decode method_2_code 67 = .ok (.dup, 1) := by decide +kernel
theorem own_d3_68 : decode method_2_code 68 = .ok (.iconst 1, 1) := by decide +kernel
theorem own_d3_69 : decode method_2_code 69 = .ok (.lload_n 3, 1) := by decide +kernel
theorem own_d3_70 : decode method_2_code 70 = .ok (.lastore, 1) := by decide +kernel
theorem own_d3_71 : decode method_2_code 71 = .ok (.dup, 1) := by decide +kernel
theorem own_d3_72 : decode method_2_code 72 = .ok (.iconst 2, 1) := by decide +kernel
theorem own_d3_73 : decode method_2_code 73 = .ok (.lload 5, 2) := by decide +kernel
theorem own_d3_75 : decode method_2_code 75 = .ok (.lastore, 1) := by decide +kernel
theorem own_d3_76 : decode method_2_code 76 = .ok (.dup, 1) := by decide +kernel
theorem own_d3_77 : decode method_2_code 77 = .ok (.iconst 3, 1) := by decide +kernel
theorem own_d3_78 : decode method_2_code 78 = .ok (.lload 7, 2) := by decide +kernel
theorem own_d3_80 : decode method_2_code 80 = .ok (.lastore, 1) := by decide +kernel
theorem own_d3_81 : decode method_2_code 81 = .ok (.areturn, 1) := by decide +kernel
theorem own_ef3_make_4 (m : MethodId) (q1 : Int64) (q2 : Int64) (q3 : Int64) (q4 : Int64) : entryFrame m #[(.int (4 : Int32)), (.long q1), (.long q2), (.long q3), (.long q4)] 9 = mkF m 0 #[iv (4 : Int32), .val (.long q1), .second, .val (.long q2), .second, .val (.long q3), .second, .val (.long q4), .second] [] := by first | (simp [entryFrame, mkF, argsToLocals, Value.category]; done) | rfl
def Q_make_4 (Z : State) (q1 : Int64) (q2 : Int64) (q3 : Int64) (q4 : Int64) (h0 : Heap) (n0 : Nat) (v : Option Value) (h : Heap) (L : List Loc) : Prop := ∃ (r : Addr), v = some (.ref r) ∧ Fr n0 L ∧ Keep h0 h [] ∧ h0.size ≤ r ∧ ownAJ Z h r 4 (ownUpd (ownUpd (ownUpd (ownUpd (fun _ => (0 : Int64)) 0 q1) 1 q2) 2 q3) 3 q4)
set_option maxRecDepth 65536 in
set_option maxHeartbeats 40000000 in
theorem rm_make_4 (l : Launch) (Z : State) (a0 : Array Value) (hw : ∀ d ∈ tables_1, d.before a0 Z = true) (ws : List Jvm.Cond) (q1 : Int64) (q2 : Int64) (q3 : Int64) (q4 : Int64) (h0 : Heap) (n0 : Nat) (Z0 : n0 ≤ h0.size) :
    MetFree l (⟨"com/example/chromabin/chromabin/packing/PackingFirstAtMostPinLaw", "make", "(IJJJJ)[J"⟩ : MethodName) (head1 (Jvm.Cond.code (⟨"com/example/chromabin/chromabin/packing/PackingFirstAtMostPinLaw", "make", "(IJJJJ)[J"⟩ : MethodName) method_2_code 9 (some (.array .long)) :: ws) ({ frames := 0, cells := 1, slots := 4, locals := 0 } : Room)) (fun a U => a = #[(.int (4 : Int32)), (.long q1), (.long q2), (.long q3), (.long q4)] ∧ Z.Warmed39 U.vm ∧ U.heap = h0) (fun _ _ _ _ _ => True) (fun _ U o U' => ∃ v L, o = .returned v ∧ (Q_make_4 Z q1 q2 q3 q4 h0 n0) v U'.heap L ∧ FrameEnd U o U' L ({ frames := 0, cells := 1, slots := 4, locals := 0 } : Room).cells ({ frames := 0, cells := 1, slots := 4, locals := 0 } : Room).slots) := by
  refine MetFree.of_bodySF (plainFor_of_name own_pn_PackingFirstAtMostPinLaw) hisR ?_
  intro p e s m args below meth c s₁ Bd hml0 hP hK
  obtain ⟨rfl, hZ, hh⟩ := hP
  have hx := Bd.exec
  have hby := Bd.bytes
  have hml : c.maxLocals = 9 := hml0
  have hown : s.vm.findClass "com/example/chromabin/chromabin/packing/PackingFirstAtMostPinLaw" = some m.cls := findClass_of_methodNamed Bd.named
  have hnm := (name_of_methodNamed Bd.named Bd.method).1
  have hlk : meth.locks = false := BodyLoose.notSynchronized Bd
  have X0 : Stand p l e ({ frames := 0, cells := 1, slots := 4, locals := 0 } : Room) s m #[(.int (4 : Int32)), (.long q1), (.long q2), (.long q3), (.long q4)] below meth c s₁ [] 0 0 := Stand.of_body Bd
  have e0 : s₁.heap = h0 := by rw [← hh, Bd.state]; rfl
  have N0 := Fr.nil n0
  have K0 : Keep h0 h0 [] := Keep.refl _ _
  show ownEnds p e below s (Q_make_4 Z q1 q2 q3 q4 h0 n0) ({ frames := 0, cells := 1, slots := 4, locals := 0 } : Room).cells ({ frames := 0, cells := 1, slots := 4, locals := 0 } : Room).slots s₁ (entryFrame m #[(.int (4 : Int32)), (.long q1), (.long q2), (.long q3), (.long q4)] 9)
  refine ownCast (own_ef3_make_4 m q1 q2 q3 q4) ?_
  refine ow_iloadN (q := 1) X0 hx (hb hby own_d3_0) rfl rfl ?_
  refine ow_ifYes (q := 8) X0 hx (hb hby own_d3_1) (Jvm.Free.XT.i0_ne_t (by decide)) (by decide) (by decide) ?_
  refine ow_iloadN (q := 9) X0 hx (hb hby own_d3_8) rfl rfl ?_
  refine ow_iconst (q := 10) X0 hx (1 : Int32) (hb hby own_d3_9) rfl rfl ?_
  refine ow_icmpYes (q := 21) X0 hx (hb hby own_d3_10) (Jvm.Free.XT.ii_ne_t (by decide)) (by decide) (by decide) ?_
  refine ow_iloadN (q := 22) X0 hx (hb hby own_d3_21) rfl rfl ?_
  refine ow_iconst (q := 23) X0 hx (2 : Int32) (hb hby own_d3_22) rfl rfl ?_
  refine ow_icmpYes (q := 38) X0 hx (hb hby own_d3_23) (Jvm.Free.XT.ii_ne_t (by decide)) (by decide) (by decide) ?_
  refine ow_iloadN (q := 39) X0 hx (hb hby own_d3_38) rfl rfl ?_
  refine ow_iconst (q := 40) X0 hx (3 : Int32) (hb hby own_d3_39) rfl rfl ?_
  refine ow_icmpYes (q := 60) X0 hx (hb hby own_d3_40) (Jvm.Free.XT.ii_ne_t (by decide)) (by decide) (by decide) ?_
  refine ow_iconst (q := 61) X0 hx (4 : Int32) (hb hby own_d3_60) rfl rfl ?_
  obtain ⟨T1, h1, k1, X1, e1, E1, A1, st1⟩ := newP X0 hx hZ (hw _ (List.mem_of_getElem? (i := 11) rfl)) e0 (g := (mkF m 61 #[iv (4 : Int32), .val (.long q1), .second, .val (.long q2), .second, .val (.long q3), .second, .val (.long q4), .second] [(.int (4 : Int32))])) rfl (hb hby own_d3_61) rfl (by decide) (cap := 4) (by decide) (by decide) (by decide) (by decide)
  obtain ⟨b1, g1⟩ : ∃ z, z = h0.size := ⟨_, rfl⟩
  rw [← g1] at A1 st1
  have sz_b1 : h0.size ≤ b1 := Nat.le_trans K0.1 (Nat.le_of_eq g1.symm)
  have G_b1 : n0 ≤ b1 := Nat.le_trans Z0 sz_b1
  have K1 : Keep h0 h1 [] := K0.ext E1
  have F2 : ownAJ Z h1 b1 4 (fun _ => (0 : Int64)) := ownAJ.new A1 (by decide) (by decide)
  refine ownGo (T' := T1) (f' := (mkF m 63 #[iv (4 : Int32), .val (.long q1), .second, .val (.long q2), .second, .val (.long q3), .second, .val (.long q4), .second] [(.ref b1)])) (st1) ?_
  refine ow_dup (q := 64) X1 hx (hb hby own_d3_63) rfl rfl ?_
  refine ow_iconst (q := 65) X1 hx (0 : Int32) (hb hby own_d3_64) rfl rfl ?_
  refine ow_lloadN (q := 66) X1 hx (hb hby own_d3_65) rfl rfl ?_
  obtain ⟨T3, h3, X3, e3, W3, F3s, st3⟩ := ownLastore F2 X1 hx hZ e1 (j := (0 : Int32)) (by unfold ownIn; decide) (g := (mkF m 66 #[iv (4 : Int32), .val (.long q1), .second, .val (.long q2), .second, .val (.long q3), .second, .val (.long q4), .second] [(.long q1), (.int (0 : Int32)), (.ref b1), (.ref b1)])) rfl rfl (hb hby own_d3_66)
  have F3r : ownAJ Z h3 b1 4 (ownUpd (fun _ => (0 : Int64)) 0 q1) := F3s
  have N3 := Fr.snoc X3 N0 G_b1
  have K3 : Keep h0 h3 [] := K1.wr W3 (Or.inr sz_b1)
  refine ownGo (T' := T3) (f' := (mkF m 67 #[iv (4 : Int32), .val (.long q1), .second, .val (.long q2), .second, .val (.long q3), .second, .val (.long q4), .second] [(.ref b1)])) (st3) ?_
  refine ow_dup (q := 68) X3 hx (hb hby own_d3_67) rfl rfl ?_
  refine ow_iconst (q := 69) X3 hx (1 : Int32) (hb hby own_d3_68) rfl rfl ?_
  refine ow_lloadN (q := 70) X3 hx (hb hby own_d3_69) rfl rfl ?_
  obtain ⟨T4, h4, X4, e4, W4, F4s, st4⟩ := ownLastore F3r X3 hx hZ e3 (j := (1 : Int32)) (by unfold ownIn; decide) (g := (mkF m 70 #[iv (4 : Int32), .val (.long q1), .second, .val (.long q2), .second, .val (.long q3), .second, .val (.long q4), .second] [(.long q2), (.int (1 : Int32)), (.ref b1), (.ref b1)])) rfl rfl (hb hby own_d3_70)
  have F4r : ownAJ Z h4 b1 4 (ownUpd (ownUpd (fun _ => (0 : Int64)) 0 q1) 1 q2) := F4s
  have N4 := Fr.snoc X4 N3 G_b1
  have K4 : Keep h0 h4 [] := K3.wr W4 (Or.inr sz_b1)
  refine ownGo (T' := T4) (f' := (mkF m 71 #[iv (4 : Int32), .val (.long q1), .second, .val (.long q2), .second, .val (.long q3), .second, .val (.long q4), .second] [(.ref b1)])) (st4) ?_
  refine ow_dup (q := 72) X4 hx (hb hby own_d3_71) rfl rfl ?_
  refine ow_iconst (q := 73) X4 hx (2 : Int32) (hb hby own_d3_72) rfl rfl ?_
  refine ow_lload (q := 75) X4 hx (hb hby own_d3_73) rfl rfl ?_
  obtain ⟨T5, h5, X5, e5, W5, F5s, st5⟩ := ownLastore F4r X4 hx hZ e4 (j := (2 : Int32)) (by unfold ownIn; decide) (g := (mkF m 75 #[iv (4 : Int32), .val (.long q1), .second, .val (.long q2), .second, .val (.long q3), .second, .val (.long q4), .second] [(.long q3), (.int (2 : Int32)), (.ref b1), (.ref b1)])) rfl rfl (hb hby own_d3_75)
  have F5r : ownAJ Z h5 b1 4 (ownUpd (ownUpd (ownUpd (fun _ => (0 : Int64)) 0 q1) 1 q2) 2 q3) := F5s
  have N5 := Fr.snoc X5 N4 G_b1
  have K5 : Keep h0 h5 [] := K4.wr W5 (Or.inr sz_b1)
  refine ownGo (T' := T5) (f' := (mkF m 76 #[iv (4 : Int32), .val (.long q1), .second, .val (.long q2), .second, .val (.long q3), .second, .val (.long q4), .second] [(.ref b1)])) (st5) ?_
  refine ow_dup (q := 77) X5 hx (hb hby own_d3_76) rfl rfl ?_
  refine ow_iconst (q := 78) X5 hx (3 : Int32) (hb hby own_d3_77) rfl rfl ?_
  refine ow_lload (q := 80) X5 hx (hb hby own_d3_78) rfl rfl ?_
  obtain ⟨T6, h6, X6, e6, W6, F6s, st6⟩ := ownLastore F5r X5 hx hZ e5 (j := (3 : Int32)) (by unfold ownIn; decide) (g := (mkF m 80 #[iv (4 : Int32), .val (.long q1), .second, .val (.long q2), .second, .val (.long q3), .second, .val (.long q4), .second] [(.long q4), (.int (3 : Int32)), (.ref b1), (.ref b1)])) rfl rfl (hb hby own_d3_80)
  have F6r : ownAJ Z h6 b1 4 (ownUpd (ownUpd (ownUpd (ownUpd (fun _ => (0 : Int64)) 0 q1) 1 q2) 2 q3) 3 q4) := F6s
  have N6 := Fr.snoc X6 N5 G_b1
  have K6 : Keep h0 h6 [] := K5.wr W6 (Or.inr sz_b1)
  refine ownGo (T' := T6) (f' := (mkF m 81 #[iv (4 : Int32), .val (.long q1), .second, .val (.long q2), .second, .val (.long q3), .second, .val (.long q4), .second] [(.ref b1)])) (st6) ?_
  refine ownRetR X6 hx rfl rfl rfl Bd.returns (hb hby own_d3_81) hlk (by decide) (by decide) ?_
  rw [e6]
  exact ⟨b1, rfl, N6, K6, sz_b1, F6r⟩
theorem own_pn_Packing : plainName "com/example/chromabin/chromabin/packing/Packing" = true := by first | (simp [plainName, overriddenIn]; done) | decide +kernel
theorem own_d4_0 : decode prog_55_method_3_code 0 = .ok (.iload_n 1, 1) := by decide +kernel
theorem own_d4_1 : decode prog_55_method_3_code 1 = .ok (.istore 4, 2) := by decide +kernel
theorem own_d4_3 : decode prog_55_method_3_code 3 = .ok (.aload_n 0, 1) := by decide +kernel
theorem own_d4_4 : decode prog_55_method_3_code 4 = .ok (.arraylength, 1) := by decide +kernel
theorem own_d4_5 : decode prog_55_method_3_code 5 = .ok (.istore 5, 2) := by decide +kernel
theorem own_d4_7 : decode prog_55_method_3_code 7 = .ok (.iload 4, 2) := by decide +kernel
theorem own_d4_9 : decode prog_55_method_3_code 9 = .ok (.iload 5, 2) := by decide +kernel
theorem own_d4_11 : decode prog_55_method_3_code 11 = .ok (.if_icmp .ge 37, 3) := by decide +kernel
theorem own_d4_48 : decode prog_55_method_3_code 48 = .ok (.iload 4, 2) := by decide +kernel
theorem own_d4_50 : decode prog_55_method_3_code 50 = .ok (.ireturn, 1) := by decide +kernel
theorem own_ef4_fam_0_0 (m : MethodId) (a0 : Addr) (q2 : Int64) : entryFrame m #[(.ref a0), (.int (0 : Int32)), (.long q2)] 7 = mkF m 0 #[rv a0, iv (0 : Int32), .val (.long q2), .second, .unset, .unset, .unset] [] := by first | (simp [entryFrame, mkF, argsToLocals, Value.category]; done) | rfl
def Q_fam_0_0 (Z : State) (a0 : Addr) (q2 : Int64) (g : Nat → Int64) (h0 : Heap) (n0 : Nat) (v : Option Value) (h : Heap) (L : List Loc) : Prop := v = some (.int (0 : Int32)) ∧ Fr n0 L ∧ h = h0
set_option maxRecDepth 65536 in
set_option maxHeartbeats 40000000 in
theorem rm_fam_0_0 (l : Launch) (Z : State) (a0 : Array Value) (hw : ∀ d ∈ tables_1, d.before a0 Z = true) (ws : List Jvm.Cond) (a0 : Addr) (q2 : Int64) (g : Nat → Int64) (h0 : Heap) (n0 : Nat) (Z0 : n0 ≤ h0.size) (HF0 : ownAJ Z h0 a0 0 g) :
    MetFree l (⟨"com/example/chromabin/chromabin/packing/Packing", "firstAtMost", "([JIJ)I"⟩ : MethodName) (head1 (Jvm.Cond.code (⟨"com/example/chromabin/chromabin/packing/Packing", "firstAtMost", "([JIJ)I"⟩ : MethodName) prog_55_method_3_code 7 (some .int) :: ws) ({ frames := 0, cells := 0, slots := 0, locals := 0 } : Room)) (fun a U => a = #[(.ref a0), (.int (0 : Int32)), (.long q2)] ∧ Z.Warmed39 U.vm ∧ U.heap = h0) (fun _ _ _ _ _ => True) (fun _ U o U' => ∃ v L, o = .returned v ∧ (Q_fam_0_0 Z a0 q2 g h0 n0) v U'.heap L ∧ FrameEnd U o U' L ({ frames := 0, cells := 0, slots := 0, locals := 0 } : Room).cells ({ frames := 0, cells := 0, slots := 0, locals := 0 } : Room).slots) := by
  refine MetFree.of_bodySF (plainFor_of_name own_pn_Packing) hisR ?_
  intro p e s m args below meth c s₁ Bd hml0 hP hK
  obtain ⟨rfl, hZ, hh⟩ := hP
  have hx := Bd.exec
  have hby := Bd.bytes
  have hml : c.maxLocals = 7 := hml0
  have hown : s.vm.findClass "com/example/chromabin/chromabin/packing/Packing" = some m.cls := findClass_of_methodNamed Bd.named
  have hnm := (name_of_methodNamed Bd.named Bd.method).1
  have hlk : meth.locks = false := BodyLoose.notSynchronized Bd
  have X0 : Stand p l e ({ frames := 0, cells := 0, slots := 0, locals := 0 } : Room) s m #[(.ref a0), (.int (0 : Int32)), (.long q2)] below meth c s₁ [] 0 0 := Stand.of_body Bd
  have e0 : s₁.heap = h0 := by rw [← hh, Bd.state]; rfl
  have N0 := Fr.nil n0
  have K0 : Keep h0 h0 [] := Keep.refl _ _
  show ownEnds p e below s (Q_fam_0_0 Z a0 q2 g h0 n0) ({ frames := 0, cells := 0, slots := 0, locals := 0 } : Room).cells ({ frames := 0, cells := 0, slots := 0, locals := 0 } : Room).slots s₁ (entryFrame m #[(.ref a0), (.int (0 : Int32)), (.long q2)] 7)
  refine ownCast (own_ef4_fam_0_0 m a0 q2) ?_
  refine ow_iloadN (q := 1) X0 hx (hb hby own_d4_0) rfl rfl ?_
  refine ow_istore (q := 3) X0 hx (L' := #[rv a0, iv (0 : Int32), .val (.long q2), .second, iv (0 : Int32), .unset, .unset]) (hb hby own_d4_1) rfl rfl ?_
  refine ow_aloadN (q := 4) X0 hx (hb hby own_d4_3) rfl rfl rfl ?_
  refine ownGo (T' := s₁) (f' := (mkF m 5 #[rv a0, iv (0 : Int32), .val (.long q2), .second, iv (0 : Int32), .unset, .unset] [(.int (0 : Int32))])) (ownLenJ HF0 X0 hx hZ e0 (z := (0 : Int32)) (by decide) (g := (mkF m 4 #[rv a0, iv (0 : Int32), .val (.long q2), .second, iv (0 : Int32), .unset, .unset] [(.ref a0)])) rfl rfl (hb hby own_d4_4)) ?_
  refine ow_istore (q := 7) X0 hx (L' := #[rv a0, iv (0 : Int32), .val (.long q2), .second, iv (0 : Int32), iv (0 : Int32), .unset]) (hb hby own_d4_5) rfl rfl ?_
  refine ow_iload (q := 9) X0 hx (hb hby own_d4_7) rfl rfl ?_
  refine ow_iload (q := 11) X0 hx (hb hby own_d4_9) rfl rfl ?_
  refine ow_icmpYes (q := 48) X0 hx (hb hby own_d4_11) (Jvm.Free.XT.ii_ge_t (by decide)) (by decide) (by decide) ?_
  refine ow_iload (q := 50) X0 hx (hb hby own_d4_48) rfl rfl ?_
  refine ownRetI X0 hx Bd.returns (hb hby own_d4_50) hlk (by decide) (by decide) ?_
  rw [e0]
  exact ⟨rfl, N0, rfl⟩
theorem own_d4_14 : decode prog_55_method_3_code 14 = .ok (.iload 4, 2) := by decide +kernel
theorem own_d4_16 : decode prog_55_method_3_code 16 = .ok (.iload 5, 2) := by decide +kernel
theorem own_d4_18 : decode prog_55_method_3_code 18 = .ok (.iadd, 1) := by decide +kernel
theorem own_d4_19 : decode prog_55_method_3_code 19 = .ok (.iconst 1, 1) := by decide +kernel
theorem own_d4_20 : decode prog_55_method_3_code 20 = .ok (.iushr, 1) := by decide +kernel
theorem own_d4_21 : decode prog_55_method_3_code 21 = .ok (.istore 6, 2) := by decide +kernel
theorem own_d4_23 : decode prog_55_method_3_code 23 = .ok (.aload_n 0, 1) := by decide +kernel
theorem own_d4_24 : decode prog_55_method_3_code 24 = .ok (.iload 6, 2) := by decide +kernel
theorem own_d4_26 : decode prog_55_method_3_code 26 = .ok (.laload, 1) := by decide +kernel
theorem own_d4_27 : decode prog_55_method_3_code 27 = .ok (.lload_n 2, 1) := by decide +kernel
theorem own_d4_28 : decode prog_55_method_3_code 28 = .ok (.lcmp, 1) := by decide +kernel
theorem own_d4_29 : decode prog_55_method_3_code 29 = .ok (.ifCond .le 12, 3) := by decide +kernel
theorem own_d4_32 : decode prog_55_method_3_code 32 = .ok (.iload 6, 2) := by decide +kernel
theorem own_d4_34 : decode prog_55_method_3_code 34 = .ok (.iconst 1, 1) := by decide +kernel
theorem own_d4_35 : decode prog_55_method_3_code 35 = .ok (.iadd, 1) := by decide +kernel
theorem own_d4_36 : decode prog_55_method_3_code 36 = .ok (.istore 4, 2) := by decide +kernel
theorem own_d4_38 : decode prog_55_method_3_code 38 = .ok (.goto 7, 3) := by decide +kernel
theorem own_d4_45 : decode prog_55_method_3_code 45 = .ok (.goto (-38), 3) := by decide +kernel
theorem own_d4_41 : decode prog_55_method_3_code 41 = .ok (.iload 6, 2) := by decide +kernel
theorem own_d4_43 : decode prog_55_method_3_code 43 = .ok (.istore 5, 2) := by decide +kernel
theorem own_ef4_fam_1_0 (m : MethodId) (a0 : Addr) (q2 : Int64) : entryFrame m #[(.ref a0), (.int (0 : Int32)), (.long q2)] 7 = mkF m 0 #[rv a0, iv (0 : Int32), .val (.long q2), .second, .unset, .unset, .unset] [] := by first | (simp [entryFrame, mkF, argsToLocals, Value.category]; done) | rfl
def Q_fam_1_0 (Z : State) (a0 : Addr) (q2 : Int64) (g : Nat → Int64) (h0 : Heap) (n0 : Nat) (v : Option Value) (h : Heap) (L : List Loc) : Prop := v = some (.int (if q2 < g 0 then (1 : Int32) else (0 : Int32))) ∧ Fr n0 L ∧ h = h0
set_option maxRecDepth 65536 in
set_option maxHeartbeats 40000000 in
theorem rm_fam_1_0 (l : Launch) (Z : State) (a0 : Array Value) (hw : ∀ d ∈ tables_1, d.before a0 Z = true) (ws : List Jvm.Cond) (a0 : Addr) (q2 : Int64) (g : Nat → Int64) (h0 : Heap) (n0 : Nat) (Z0 : n0 ≤ h0.size) (HF0 : ownAJ Z h0 a0 1 g) :
    MetFree l (⟨"com/example/chromabin/chromabin/packing/Packing", "firstAtMost", "([JIJ)I"⟩ : MethodName) (head1 (Jvm.Cond.code (⟨"com/example/chromabin/chromabin/packing/Packing", "firstAtMost", "([JIJ)I"⟩ : MethodName) prog_55_method_3_code 7 (some .int) :: ws) ({ frames := 0, cells := 0, slots := 0, locals := 0 } : Room)) (fun a U => a = #[(.ref a0), (.int (0 : Int32)), (.long q2)] ∧ Z.Warmed39 U.vm ∧ U.heap = h0) (fun _ _ _ _ _ => True) (fun _ U o U' => ∃ v L, o = .returned v ∧ (Q_fam_1_0 Z a0 q2 g h0 n0) v U'.heap L ∧ FrameEnd U o U' L ({ frames := 0, cells := 0, slots := 0, locals := 0 } : Room).cells ({ frames := 0, cells := 0, slots := 0, locals := 0 } : Room).slots) := by
  refine MetFree.of_bodySF (plainFor_of_name own_pn_Packing) hisR ?_
  intro p e s m args below meth c s₁ Bd hml0 hP hK
  obtain ⟨rfl, hZ, hh⟩ := hP
  have hx := Bd.exec
  have hby := Bd.bytes
  have hml : c.maxLocals = 7 := hml0
  have hown : s.vm.findClass "com/example/chromabin/chromabin/packing/Packing" = some m.cls := findClass_of_methodNamed Bd.named
  have hnm := (name_of_methodNamed Bd.named Bd.method).1
  have hlk : meth.locks = false := BodyLoose.notSynchronized Bd
  have X0 : Stand p l e ({ frames := 0, cells := 0, slots := 0, locals := 0 } : Room) s m #[(.ref a0), (.int (0 : Int32)), (.long q2)] below meth c s₁ [] 0 0 := Stand.of_body Bd
  have e0 : s₁.heap = h0 := by rw [← hh, Bd.state]; rfl
  have N0 := Fr.nil n0
  have K0 : Keep h0 h0 [] := Keep.refl _ _
  show ownEnds p e below s (Q_fam_1_0 Z a0 q2 g h0 n0) ({ frames := 0, cells := 0, slots := 0, locals := 0 } : Room).cells ({ frames := 0, cells := 0, slots := 0, locals := 0 } : Room).slots s₁ (entryFrame m #[(.ref a0), (.int (0 : Int32)), (.long q2)] 7)
  refine ownCast (own_ef4_fam_1_0 m a0 q2) ?_
  refine ow_iloadN (q := 1) X0 hx (hb hby own_d4_0) rfl rfl ?_
  refine ow_istore (q := 3) X0 hx (L' := #[rv a0, iv (0 : Int32), .val (.long q2), .second, iv (0 : Int32), .unset, .unset]) (hb hby own_d4_1) rfl rfl ?_
  refine ow_aloadN (q := 4) X0 hx (hb hby own_d4_3) rfl rfl rfl ?_
  refine ownGo (T' := s₁) (f' := (mkF m 5 #[rv a0, iv (0 : Int32), .val (.long q2), .second, iv (0 : Int32), .unset, .unset] [(.int (1 : Int32))])) (ownLenJ HF0 X0 hx hZ e0 (z := (1 : Int32)) (by decide) (g := (mkF m 4 #[rv a0, iv (0 : Int32), .val (.long q2), .second, iv (0 : Int32), .unset, .unset] [(.ref a0)])) rfl rfl (hb hby own_d4_4)) ?_
  refine ow_istore (q := 7) X0 hx (L' := #[rv a0, iv (0 : Int32), .val (.long q2), .second, iv (0 : Int32), iv (1 : Int32), .unset]) (hb hby own_d4_5) rfl rfl ?_
  refine ow_iload (q := 9) X0 hx (hb hby own_d4_7) rfl rfl ?_
  refine ow_iload (q := 11) X0 hx (hb hby own_d4_9) rfl rfl ?_
  refine ow_icmpNo (q := 14) X0 hx (hb hby own_d4_11) rfl (Jvm.Free.XT.ii_ge_f (by decide)) ?_
  refine ow_iload (q := 16) X0 hx (hb hby own_d4_14) rfl rfl ?_
  refine ow_iload (q := 18) X0 hx (hb hby own_d4_16) rfl rfl ?_
  refine ow_iadd (q := 19) X0 hx (1 : Int32) (hb hby own_d4_18) rfl (by decide) ?_
  refine ow_iconst (q := 20) X0 hx (1 : Int32) (hb hby own_d4_19) rfl rfl ?_
  refine ow_iushr (q := 21) X0 hx (0 : Int32) (hb hby own_d4_20) rfl (by decide) ?_
  refine ow_istore (q := 23) X0 hx (L' := #[rv a0, iv (0 : Int32), .val (.long q2), .second, iv (0 : Int32), iv (1 : Int32), iv (0 : Int32)]) (hb hby own_d4_21) rfl rfl ?_
  refine ow_aloadN (q := 24) X0 hx (hb hby own_d4_23) rfl rfl rfl ?_
  refine ow_iload (q := 26) X0 hx (hb hby own_d4_24) rfl rfl ?_
  refine ownGo (T' := s₁) (f' := (mkF m 27 #[rv a0, iv (0 : Int32), .val (.long q2), .second, iv (0 : Int32), iv (1 : Int32), iv (0 : Int32)] [(.long (g 0))])) (ownLaload HF0 X0 hx hZ e0 (j := (0 : Int32)) (by unfold ownIn; decide) (g := (mkF m 26 #[rv a0, iv (0 : Int32), .val (.long q2), .second, iv (0 : Int32), iv (1 : Int32), iv (0 : Int32)] [(.int (0 : Int32)), (.ref a0)])) rfl rfl (hb hby own_d4_26)) ?_
  generalize hv_v1 : (g 0) = v1
  refine ow_lloadN (q := 28) X0 hx (hb hby own_d4_27) rfl rfl ?_
  refine ow_lcmp (q := 29) X0 hx _ (hb hby own_d4_28) rfl rfl ?_
  by_cases hc29_2 : q2 < v1
  · refine ow_ifNo (q := 32) X0 hx (hb hby own_d4_29) rfl (Jvm.Free.XT.ll_le_f hc29_2) ?_
    refine ow_iload (q := 34) X0 hx (hb hby own_d4_32) rfl rfl ?_
    refine ow_iconst (q := 35) X0 hx (1 : Int32) (hb hby own_d4_34) rfl rfl ?_
    refine ow_iadd (q := 36) X0 hx (1 : Int32) (hb hby own_d4_35) rfl (by decide) ?_
    refine ow_istore (q := 38) X0 hx (L' := #[rv a0, iv (0 : Int32), .val (.long q2), .second, iv (1 : Int32), iv (1 : Int32), iv (0 : Int32)]) (hb hby own_d4_36) rfl rfl ?_
    refine ow_goto (q := 45) X0 hx (hb hby own_d4_38) (by decide) (by decide) ?_
    refine ow_goto (q := 7) X0 hx (hb hby own_d4_45) (by decide) (by decide) ?_
    refine ow_iload (q := 9) X0 hx (hb hby own_d4_7) rfl rfl ?_
    refine ow_iload (q := 11) X0 hx (hb hby own_d4_9) rfl rfl ?_
    refine ow_icmpYes (q := 48) X0 hx (hb hby own_d4_11) (Jvm.Free.XT.ii_ge_t (by decide)) (by decide) (by decide) ?_
    refine ow_iload (q := 50) X0 hx (hb hby own_d4_48) rfl rfl ?_
    refine ownRetI X0 hx Bd.returns (hb hby own_d4_50) hlk (by decide) (by decide) ?_
    subst hv_v1
    rw [e0]
    refine ⟨congrArg (fun q => some (Value.int q)) ?_, N0, rfl⟩
    simp [hc29_2]
  · refine ow_ifYes (q := 41) X0 hx (hb hby own_d4_29) (Jvm.Free.XT.ll_le_t hc29_2) (by decide) (by decide) ?_
    refine ow_iload (q := 43) X0 hx (hb hby own_d4_41) rfl rfl ?_
    refine ow_istore (q := 45) X0 hx (L' := #[rv a0, iv (0 : Int32), .val (.long q2), .second, iv (0 : Int32), iv (0 : Int32), iv (0 : Int32)]) (hb hby own_d4_43) rfl rfl ?_
    refine ow_goto (q := 7) X0 hx (hb hby own_d4_45) (by decide) (by decide) ?_
    refine ow_iload (q := 9) X0 hx (hb hby own_d4_7) rfl rfl ?_
    refine ow_iload (q := 11) X0 hx (hb hby own_d4_9) rfl rfl ?_
    refine ow_icmpYes (q := 48) X0 hx (hb hby own_d4_11) (Jvm.Free.XT.ii_ge_t (by decide)) (by decide) (by decide) ?_
    refine ow_iload (q := 50) X0 hx (hb hby own_d4_48) rfl rfl ?_
    refine ownRetI X0 hx Bd.returns (hb hby own_d4_50) hlk (by decide) (by decide) ?_
    subst hv_v1
    rw [e0]
    refine ⟨congrArg (fun q => some (Value.int q)) ?_, N0, rfl⟩
    simp [hc29_2]
theorem own_ef4_fam_1_1 (m : MethodId) (a0 : Addr) (q2 : Int64) : entryFrame m #[(.ref a0), (.int (1 : Int32)), (.long q2)] 7 = mkF m 0 #[rv a0, iv (1 : Int32), .val (.long q2), .second, .unset, .unset, .unset] [] := by first | (simp [entryFrame, mkF, argsToLocals, Value.category]; done) | rfl
def Q_fam_1_1 (Z : State) (a0 : Addr) (q2 : Int64) (g : Nat → Int64) (h0 : Heap) (n0 : Nat) (v : Option Value) (h : Heap) (L : List Loc) : Prop := v = some (.int (1 : Int32)) ∧ Fr n0 L ∧ h = h0
set_option maxRecDepth 65536 in
set_option maxHeartbeats 40000000 in
theorem rm_fam_1_1 (l : Launch) (Z : State) (a0 : Array Value) (hw : ∀ d ∈ tables_1, d.before a0 Z = true) (ws : List Jvm.Cond) (a0 : Addr) (q2 : Int64) (g : Nat → Int64) (h0 : Heap) (n0 : Nat) (Z0 : n0 ≤ h0.size) (HF0 : ownAJ Z h0 a0 1 g) :
    MetFree l (⟨"com/example/chromabin/chromabin/packing/Packing", "firstAtMost", "([JIJ)I"⟩ : MethodName) (head1 (Jvm.Cond.code (⟨"com/example/chromabin/chromabin/packing/Packing", "firstAtMost", "([JIJ)I"⟩ : MethodName) prog_55_method_3_code 7 (some .int) :: ws) ({ frames := 0, cells := 0, slots := 0, locals := 0 } : Room)) (fun a U => a = #[(.ref a0), (.int (1 : Int32)), (.long q2)] ∧ Z.Warmed39 U.vm ∧ U.heap = h0) (fun _ _ _ _ _ => True) (fun _ U o U' => ∃ v L, o = .returned v ∧ (Q_fam_1_1 Z a0 q2 g h0 n0) v U'.heap L ∧ FrameEnd U o U' L ({ frames := 0, cells := 0, slots := 0, locals := 0 } : Room).cells ({ frames := 0, cells := 0, slots := 0, locals := 0 } : Room).slots) := by
  refine MetFree.of_bodySF (plainFor_of_name own_pn_Packing) hisR ?_
  intro p e s m args below meth c s₁ Bd hml0 hP hK
  obtain ⟨rfl, hZ, hh⟩ := hP
  have hx := Bd.exec
  have hby := Bd.bytes
  have hml : c.maxLocals = 7 := hml0
  have hown : s.vm.findClass "com/example/chromabin/chromabin/packing/Packing" = some m.cls := findClass_of_methodNamed Bd.named
  have hnm := (name_of_methodNamed Bd.named Bd.method).1
  have hlk : meth.locks = false := BodyLoose.notSynchronized Bd
  have X0 : Stand p l e ({ frames := 0, cells := 0, slots := 0, locals := 0 } : Room) s m #[(.ref a0), (.int (1 : Int32)), (.long q2)] below meth c s₁ [] 0 0 := Stand.of_body Bd
  have e0 : s₁.heap = h0 := by rw [← hh, Bd.state]; rfl
  have N0 := Fr.nil n0
  have K0 : Keep h0 h0 [] := Keep.refl _ _
  show ownEnds p e below s (Q_fam_1_1 Z a0 q2 g h0 n0) ({ frames := 0, cells := 0, slots := 0, locals := 0 } : Room).cells ({ frames := 0, cells := 0, slots := 0, locals := 0 } : Room).slots s₁ (entryFrame m #[(.ref a0), (.int (1 : Int32)), (.long q2)] 7)
  refine ownCast (own_ef4_fam_1_1 m a0 q2) ?_
  refine ow_iloadN (q := 1) X0 hx (hb hby own_d4_0) rfl rfl ?_
  refine ow_istore (q := 3) X0 hx (L' := #[rv a0, iv (1 : Int32), .val (.long q2), .second, iv (1 : Int32), .unset, .unset]) (hb hby own_d4_1) rfl rfl ?_
  refine ow_aloadN (q := 4) X0 hx (hb hby own_d4_3) rfl rfl rfl ?_
  refine ownGo (T' := s₁) (f' := (mkF m 5 #[rv a0, iv (1 : Int32), .val (.long q2), .second, iv (1 : Int32), .unset, .unset] [(.int (1 : Int32))])) (ownLenJ HF0 X0 hx hZ e0 (z := (1 : Int32)) (by decide) (g := (mkF m 4 #[rv a0, iv (1 : Int32), .val (.long q2), .second, iv (1 : Int32), .unset, .unset] [(.ref a0)])) rfl rfl (hb hby own_d4_4)) ?_
  refine ow_istore (q := 7) X0 hx (L' := #[rv a0, iv (1 : Int32), .val (.long q2), .second, iv (1 : Int32), iv (1 : Int32), .unset]) (hb hby own_d4_5) rfl rfl ?_
  refine ow_iload (q := 9) X0 hx (hb hby own_d4_7) rfl rfl ?_
  refine ow_iload (q := 11) X0 hx (hb hby own_d4_9) rfl rfl ?_
  refine ow_icmpYes (q := 48) X0 hx (hb hby own_d4_11) (Jvm.Free.XT.ii_ge_t (by decide)) (by decide) (by decide) ?_
  refine ow_iload (q := 50) X0 hx (hb hby own_d4_48) rfl rfl ?_
  refine ownRetI X0 hx Bd.returns (hb hby own_d4_50) hlk (by decide) (by decide) ?_
  rw [e0]
  exact ⟨rfl, N0, rfl⟩
theorem own_ef4_fam_2_0 (m : MethodId) (a0 : Addr) (q2 : Int64) : entryFrame m #[(.ref a0), (.int (0 : Int32)), (.long q2)] 7 = mkF m 0 #[rv a0, iv (0 : Int32), .val (.long q2), .second, .unset, .unset, .unset] [] := by first | (simp [entryFrame, mkF, argsToLocals, Value.category]; done) | rfl
def Q_fam_2_0 (Z : State) (a0 : Addr) (q2 : Int64) (g : Nat → Int64) (h0 : Heap) (n0 : Nat) (v : Option Value) (h : Heap) (L : List Loc) : Prop := v = some (.int (if q2 < g 1 then (2 : Int32) else (if q2 < g 0 then (1 : Int32) else (0 : Int32)))) ∧ Fr n0 L ∧ h = h0
set_option maxRecDepth 65536 in
set_option maxHeartbeats 40000000 in
theorem rm_fam_2_0 (l : Launch) (Z : State) (a0 : Array Value) (hw : ∀ d ∈ tables_1, d.before a0 Z = true) (ws : List Jvm.Cond) (a0 : Addr) (q2 : Int64) (g : Nat → Int64) (h0 : Heap) (n0 : Nat) (Z0 : n0 ≤ h0.size) (HF0 : ownAJ Z h0 a0 2 g) :
    MetFree l (⟨"com/example/chromabin/chromabin/packing/Packing", "firstAtMost", "([JIJ)I"⟩ : MethodName) (head1 (Jvm.Cond.code (⟨"com/example/chromabin/chromabin/packing/Packing", "firstAtMost", "([JIJ)I"⟩ : MethodName) prog_55_method_3_code 7 (some .int) :: ws) ({ frames := 0, cells := 0, slots := 0, locals := 0 } : Room)) (fun a U => a = #[(.ref a0), (.int (0 : Int32)), (.long q2)] ∧ Z.Warmed39 U.vm ∧ U.heap = h0) (fun _ _ _ _ _ => True) (fun _ U o U' => ∃ v L, o = .returned v ∧ (Q_fam_2_0 Z a0 q2 g h0 n0) v U'.heap L ∧ FrameEnd U o U' L ({ frames := 0, cells := 0, slots := 0, locals := 0 } : Room).cells ({ frames := 0, cells := 0, slots := 0, locals := 0 } : Room).slots) := by
  refine MetFree.of_bodySF (plainFor_of_name own_pn_Packing) hisR ?_
  intro p e s m args below meth c s₁ Bd hml0 hP hK
  obtain ⟨rfl, hZ, hh⟩ := hP
  have hx := Bd.exec
  have hby := Bd.bytes
  have hml : c.maxLocals = 7 := hml0
  have hown : s.vm.findClass "com/example/chromabin/chromabin/packing/Packing" = some m.cls := findClass_of_methodNamed Bd.named
  have hnm := (name_of_methodNamed Bd.named Bd.method).1
  have hlk : meth.locks = false := BodyLoose.notSynchronized Bd
  have X0 : Stand p l e ({ frames := 0, cells := 0, slots := 0, locals := 0 } : Room) s m #[(.ref a0), (.int (0 : Int32)), (.long q2)] below meth c s₁ [] 0 0 := Stand.of_body Bd
  have e0 : s₁.heap = h0 := by rw [← hh, Bd.state]; rfl
  have N0 := Fr.nil n0
  have K0 : Keep h0 h0 [] := Keep.refl _ _
  show ownEnds p e below s (Q_fam_2_0 Z a0 q2 g h0 n0) ({ frames := 0, cells := 0, slots := 0, locals := 0 } : Room).cells ({ frames := 0, cells := 0, slots := 0, locals := 0 } : Room).slots s₁ (entryFrame m #[(.ref a0), (.int (0 : Int32)), (.long q2)] 7)
  refine ownCast (own_ef4_fam_2_0 m a0 q2) ?_
  refine ow_iloadN (q := 1) X0 hx (hb hby own_d4_0) rfl rfl ?_
  refine ow_istore (q := 3) X0 hx (L' := #[rv a0, iv (0 : Int32), .val (.long q2), .second, iv (0 : Int32), .unset, .unset]) (hb hby own_d4_1) rfl rfl ?_
  refine ow_aloadN (q := 4) X0 hx (hb hby own_d4_3) rfl rfl rfl ?_
  refine ownGo (T' := s₁) (f' := (mkF m 5 #[rv a0, iv (0 : Int32), .val (.long q2), .second, iv (0 : Int32), .unset, .unset] [(.int (2 : Int32))])) (ownLenJ HF0 X0 hx hZ e0 (z := (2 : Int32)) (by decide) (g := (mkF m 4 #[rv a0, iv (0 : Int32), .val (.long q2), .second, iv (0 : Int32), .unset, .unset] [(.ref a0)])) rfl rfl (hb hby own_d4_4)) ?_
  refine ow_istore (q := 7) X0 hx (L' := #[rv a0, iv (0 : Int32), .val (.long q2), .second, iv (0 : Int32), iv (2 : Int32), .unset]) (hb hby own_d4_5) rfl rfl ?_
  refine ow_iload (q := 9) X0 hx (hb hby own_d4_7) rfl rfl ?_
  refine ow_iload (q := 11) X0 hx (hb hby own_d4_9) rfl rfl ?_
  refine ow_icmpNo (q := 14) X0 hx (hb hby own_d4_11) rfl (Jvm.Free.XT.ii_ge_f (by decide)) ?_
  refine ow_iload (q := 16) X0 hx (hb hby own_d4_14) rfl rfl ?_
  refine ow_iload (q := 18) X0 hx (hb hby own_d4_16) rfl rfl ?_
  refine ow_iadd (q := 19) X0 hx (2 : Int32) (hb hby own_d4_18) rfl (by decide) ?_
  refine ow_iconst (q := 20) X0 hx (1 : Int32) (hb hby own_d4_19) rfl rfl ?_
  refine ow_iushr (q := 21) X0 hx (1 : Int32) (hb hby own_d4_20) rfl (by decide) ?_
  refine ow_istore (q := 23) X0 hx (L' := #[rv a0, iv (0 : Int32), .val (.long q2), .second, iv (0 : Int32), iv (2 : Int32), iv (1 : Int32)]) (hb hby own_d4_21) rfl rfl ?_
  refine ow_aloadN (q := 24) X0 hx (hb hby own_d4_23) rfl rfl rfl ?_
  refine ow_iload (q := 26) X0 hx (hb hby own_d4_24) rfl rfl ?_
  refine ownGo (T' := s₁) (f' := (mkF m 27 #[rv a0, iv (0 : Int32), .val (.long q2), .second, iv (0 : Int32), iv (2 : Int32), iv (1 : Int32)] [(.long (g 1))])) (ownLaload HF0 X0 hx hZ e0 (j := (1 : Int32)) (by unfold ownIn; decide) (g := (mkF m 26 #[rv a0, iv (0 : Int32), .val (.long q2), .second, iv (0 : Int32), iv (2 : Int32), iv (1 : Int32)] [(.int (1 : Int32)), (.ref a0)])) rfl rfl (hb hby own_d4_26)) ?_
  generalize hv_v1 : (g 1) = v1
  refine ow_lloadN (q := 28) X0 hx (hb hby own_d4_27) rfl rfl ?_
  refine ow_lcmp (q := 29) X0 hx _ (hb hby own_d4_28) rfl rfl ?_
  by_cases hc29_2 : q2 < v1
  · refine ow_ifNo (q := 32) X0 hx (hb hby own_d4_29) rfl (Jvm.Free.XT.ll_le_f hc29_2) ?_
    refine ow_iload (q := 34) X0 hx (hb hby own_d4_32) rfl rfl ?_
    refine ow_iconst (q := 35) X0 hx (1 : Int32) (hb hby own_d4_34) rfl rfl ?_
    refine ow_iadd (q := 36) X0 hx (2 : Int32) (hb hby own_d4_35) rfl (by decide) ?_
    refine ow_istore (q := 38) X0 hx (L' := #[rv a0, iv (0 : Int32), .val (.long q2), .second, iv (2 : Int32), iv (2 : Int32), iv (1 : Int32)]) (hb hby own_d4_36) rfl rfl ?_
    refine ow_goto (q := 45) X0 hx (hb hby own_d4_38) (by decide) (by decide) ?_
    refine ow_goto (q := 7) X0 hx (hb hby own_d4_45) (by decide) (by decide) ?_
    refine ow_iload (q := 9) X0 hx (hb hby own_d4_7) rfl rfl ?_
    refine ow_iload (q := 11) X0 hx (hb hby own_d4_9) rfl rfl ?_
    refine ow_icmpYes (q := 48) X0 hx (hb hby own_d4_11) (Jvm.Free.XT.ii_ge_t (by decide)) (by decide) (by decide) ?_
    refine ow_iload (q := 50) X0 hx (hb hby own_d4_48) rfl rfl ?_
    refine ownRetI X0 hx Bd.returns (hb hby own_d4_50) hlk (by decide) (by decide) ?_
    subst hv_v1
    rw [e0]
    refine ⟨congrArg (fun q => some (Value.int q)) ?_, N0, rfl⟩
    simp [hc29_2]
  · refine ow_ifYes (q := 41) X0 hx (hb hby own_d4_29) (Jvm.Free.XT.ll_le_t hc29_2) (by decide) (by decide) ?_
    refine ow_iload (q := 43) X0 hx (hb hby own_d4_41) rfl rfl ?_
    refine ow_istore (q := 45) X0 hx (L' := #[rv a0, iv (0 : Int32), .val (.long q2), .second, iv (0 : Int32), iv (1 : Int32), iv (1 : Int32)]) (hb hby own_d4_43) rfl rfl ?_
    refine ow_goto (q := 7) X0 hx (hb hby own_d4_45) (by decide) (by decide) ?_
    refine ow_iload (q := 9) X0 hx (hb hby own_d4_7) rfl rfl ?_
    refine ow_iload (q := 11) X0 hx (hb hby own_d4_9) rfl rfl ?_
    refine ow_icmpNo (q := 14) X0 hx (hb hby own_d4_11) rfl (Jvm.Free.XT.ii_ge_f (by decide)) ?_
    refine ow_iload (q := 16) X0 hx (hb hby own_d4_14) rfl rfl ?_
    refine ow_iload (q := 18) X0 hx (hb hby own_d4_16) rfl rfl ?_
    refine ow_iadd (q := 19) X0 hx (1 : Int32) (hb hby own_d4_18) rfl (by decide) ?_
    refine ow_iconst (q := 20) X0 hx (1 : Int32) (hb hby own_d4_19) rfl rfl ?_
    refine ow_iushr (q := 21) X0 hx (0 : Int32) (hb hby own_d4_20) rfl (by decide) ?_
    refine ow_istore (q := 23) X0 hx (L' := #[rv a0, iv (0 : Int32), .val (.long q2), .second, iv (0 : Int32), iv (1 : Int32), iv (0 : Int32)]) (hb hby own_d4_21) rfl rfl ?_
    refine ow_aloadN (q := 24) X0 hx (hb hby own_d4_23) rfl rfl rfl ?_
    refine ow_iload (q := 26) X0 hx (hb hby own_d4_24) rfl rfl ?_
    refine ownGo (T' := s₁) (f' := (mkF m 27 #[rv a0, iv (0 : Int32), .val (.long q2), .second, iv (0 : Int32), iv (1 : Int32), iv (0 : Int32)] [(.long (g 0))])) (ownLaload HF0 X0 hx hZ e0 (j := (0 : Int32)) (by unfold ownIn; decide) (g := (mkF m 26 #[rv a0, iv (0 : Int32), .val (.long q2), .second, iv (0 : Int32), iv (1 : Int32), iv (0 : Int32)] [(.int (0 : Int32)), (.ref a0)])) rfl rfl (hb hby own_d4_26)) ?_
    generalize hv_v3 : (g 0) = v3
    refine ow_lloadN (q := 28) X0 hx (hb hby own_d4_27) rfl rfl ?_
    refine ow_lcmp (q := 29) X0 hx _ (hb hby own_d4_28) rfl rfl ?_
    by_cases hc29_4 : q2 < v3
    · refine ow_ifNo (q := 32) X0 hx (hb hby own_d4_29) rfl (Jvm.Free.XT.ll_le_f hc29_4) ?_
      refine ow_iload (q := 34) X0 hx (hb hby own_d4_32) rfl rfl ?_
      refine ow_iconst (q := 35) X0 hx (1 : Int32) (hb hby own_d4_34) rfl rfl ?_
      refine ow_iadd (q := 36) X0 hx (1 : Int32) (hb hby own_d4_35) rfl (by decide) ?_
      refine ow_istore (q := 38) X0 hx (L' := #[rv a0, iv (0 : Int32), .val (.long q2), .second, iv (1 : Int32), iv (1 : Int32), iv (0 : Int32)]) (hb hby own_d4_36) rfl rfl ?_
      refine ow_goto (q := 45) X0 hx (hb hby own_d4_38) (by decide) (by decide) ?_
      refine ow_goto (q := 7) X0 hx (hb hby own_d4_45) (by decide) (by decide) ?_
      refine ow_iload (q := 9) X0 hx (hb hby own_d4_7) rfl rfl ?_
      refine ow_iload (q := 11) X0 hx (hb hby own_d4_9) rfl rfl ?_
      refine ow_icmpYes (q := 48) X0 hx (hb hby own_d4_11) (Jvm.Free.XT.ii_ge_t (by decide)) (by decide) (by decide) ?_
      refine ow_iload (q := 50) X0 hx (hb hby own_d4_48) rfl rfl ?_
      refine ownRetI X0 hx Bd.returns (hb hby own_d4_50) hlk (by decide) (by decide) ?_
      subst hv_v3 hv_v1
      rw [e0]
      refine ⟨congrArg (fun q => some (Value.int q)) ?_, N0, rfl⟩
      simp [hc29_2, hc29_4]
    · refine ow_ifYes (q := 41) X0 hx (hb hby own_d4_29) (Jvm.Free.XT.ll_le_t hc29_4) (by decide) (by decide) ?_
      refine ow_iload (q := 43) X0 hx (hb hby own_d4_41) rfl rfl ?_
      refine ow_istore (q := 45) X0 hx (L' := #[rv a0, iv (0 : Int32), .val (.long q2), .second, iv (0 : Int32), iv (0 : Int32), iv (0 : Int32)]) (hb hby own_d4_43) rfl rfl ?_
      refine ow_goto (q := 7) X0 hx (hb hby own_d4_45) (by decide) (by decide) ?_
      refine ow_iload (q := 9) X0 hx (hb hby own_d4_7) rfl rfl ?_
      refine ow_iload (q := 11) X0 hx (hb hby own_d4_9) rfl rfl ?_
      refine ow_icmpYes (q := 48) X0 hx (hb hby own_d4_11) (Jvm.Free.XT.ii_ge_t (by decide)) (by decide) (by decide) ?_
      refine ow_iload (q := 50) X0 hx (hb hby own_d4_48) rfl rfl ?_
      refine ownRetI X0 hx Bd.returns (hb hby own_d4_50) hlk (by decide) (by decide) ?_
      subst hv_v3 hv_v1
      rw [e0]
      refine ⟨congrArg (fun q => some (Value.int q)) ?_, N0, rfl⟩
      simp [hc29_2, hc29_4]
theorem own_ef4_fam_2_1 (m : MethodId) (a0 : Addr) (q2 : Int64) : entryFrame m #[(.ref a0), (.int (1 : Int32)), (.long q2)] 7 = mkF m 0 #[rv a0, iv (1 : Int32), .val (.long q2), .second, .unset, .unset, .unset] [] := by first | (simp [entryFrame, mkF, argsToLocals, Value.category]; done) | rfl
def Q_fam_2_1 (Z : State) (a0 : Addr) (q2 : Int64) (g : Nat → Int64) (h0 : Heap) (n0 : Nat) (v : Option Value) (h : Heap) (L : List Loc) : Prop := v = some (.int (if q2 < g 1 then (2 : Int32) else (1 : Int32))) ∧ Fr n0 L ∧ h = h0
set_option maxRecDepth 65536 in
set_option maxHeartbeats 40000000 in
theorem rm_fam_2_1 (l : Launch) (Z : State) (a0 : Array Value) (hw : ∀ d ∈ tables_1, d.before a0 Z = true) (ws : List Jvm.Cond) (a0 : Addr) (q2 : Int64) (g : Nat → Int64) (h0 : Heap) (n0 : Nat) (Z0 : n0 ≤ h0.size) (HF0 : ownAJ Z h0 a0 2 g) :
    MetFree l (⟨"com/example/chromabin/chromabin/packing/Packing", "firstAtMost", "([JIJ)I"⟩ : MethodName) (head1 (Jvm.Cond.code (⟨"com/example/chromabin/chromabin/packing/Packing", "firstAtMost", "([JIJ)I"⟩ : MethodName) prog_55_method_3_code 7 (some .int) :: ws) ({ frames := 0, cells := 0, slots := 0, locals := 0 } : Room)) (fun a U => a = #[(.ref a0), (.int (1 : Int32)), (.long q2)] ∧ Z.Warmed39 U.vm ∧ U.heap = h0) (fun _ _ _ _ _ => True) (fun _ U o U' => ∃ v L, o = .returned v ∧ (Q_fam_2_1 Z a0 q2 g h0 n0) v U'.heap L ∧ FrameEnd U o U' L ({ frames := 0, cells := 0, slots := 0, locals := 0 } : Room).cells ({ frames := 0, cells := 0, slots := 0, locals := 0 } : Room).slots) := by
  refine MetFree.of_bodySF (plainFor_of_name own_pn_Packing) hisR ?_
  intro p e s m args below meth c s₁ Bd hml0 hP hK
  obtain ⟨rfl, hZ, hh⟩ := hP
  have hx := Bd.exec
  have hby := Bd.bytes
  have hml : c.maxLocals = 7 := hml0
  have hown : s.vm.findClass "com/example/chromabin/chromabin/packing/Packing" = some m.cls := findClass_of_methodNamed Bd.named
  have hnm := (name_of_methodNamed Bd.named Bd.method).1
  have hlk : meth.locks = false := BodyLoose.notSynchronized Bd
  have X0 : Stand p l e ({ frames := 0, cells := 0, slots := 0, locals := 0 } : Room) s m #[(.ref a0), (.int (1 : Int32)), (.long q2)] below meth c s₁ [] 0 0 := Stand.of_body Bd
  have e0 : s₁.heap = h0 := by rw [← hh, Bd.state]; rfl
  have N0 := Fr.nil n0
  have K0 : Keep h0 h0 [] := Keep.refl _ _
  show ownEnds p e below s (Q_fam_2_1 Z a0 q2 g h0 n0) ({ frames := 0, cells := 0, slots := 0, locals := 0 } : Room).cells ({ frames := 0, cells := 0, slots := 0, locals := 0 } : Room).slots s₁ (entryFrame m #[(.ref a0), (.int (1 : Int32)), (.long q2)] 7)
  refine ownCast (own_ef4_fam_2_1 m a0 q2) ?_
  refine ow_iloadN (q := 1) X0 hx (hb hby own_d4_0) rfl rfl ?_
  refine ow_istore (q := 3) X0 hx (L' := #[rv a0, iv (1 : Int32), .val (.long q2), .second, iv (1 : Int32), .unset, .unset]) (hb hby own_d4_1) rfl rfl ?_
  refine ow_aloadN (q := 4) X0 hx (hb hby own_d4_3) rfl rfl rfl ?_
  refine ownGo (T' := s₁) (f' := (mkF m 5 #[rv a0, iv (1 : Int32), .val (.long q2), .second, iv (1 : Int32), .unset, .unset] [(.int (2 : Int32))])) (ownLenJ HF0 X0 hx hZ e0 (z := (2 : Int32)) (by decide) (g := (mkF m 4 #[rv a0, iv (1 : Int32), .val (.long q2), .second, iv (1 : Int32), .unset, .unset] [(.ref a0)])) rfl rfl (hb hby own_d4_4)) ?_
  refine ow_istore (q := 7) X0 hx (L' := #[rv a0, iv (1 : Int32), .val (.long q2), .second, iv (1 : Int32), iv (2 : Int32), .unset]) (hb hby own_d4_5) rfl rfl ?_
  refine ow_iload (q := 9) X0 hx (hb hby own_d4_7) rfl rfl ?_
  refine ow_iload (q := 11) X0 hx (hb hby own_d4_9) rfl rfl ?_
  refine ow_icmpNo (q := 14) X0 hx (hb hby own_d4_11) rfl (Jvm.Free.XT.ii_ge_f (by decide)) ?_
  refine ow_iload (q := 16) X0 hx (hb hby own_d4_14) rfl rfl ?_
  refine ow_iload (q := 18) X0 hx (hb hby own_d4_16) rfl rfl ?_
  refine ow_iadd (q := 19) X0 hx (3 : Int32) (hb hby own_d4_18) rfl (by decide) ?_
  refine ow_iconst (q := 20) X0 hx (1 : Int32) (hb hby own_d4_19) rfl rfl ?_
  refine ow_iushr (q := 21) X0 hx (1 : Int32) (hb hby own_d4_20) rfl (by decide) ?_
  refine ow_istore (q := 23) X0 hx (L' := #[rv a0, iv (1 : Int32), .val (.long q2), .second, iv (1 : Int32), iv (2 : Int32), iv (1 : Int32)]) (hb hby own_d4_21) rfl rfl ?_
  refine ow_aloadN (q := 24) X0 hx (hb hby own_d4_23) rfl rfl rfl ?_
  refine ow_iload (q := 26) X0 hx (hb hby own_d4_24) rfl rfl ?_
  refine ownGo (T' := s₁) (f' := (mkF m 27 #[rv a0, iv (1 : Int32), .val (.long q2), .second, iv (1 : Int32), iv (2 : Int32), iv (1 : Int32)] [(.long (g 1))])) (ownLaload HF0 X0 hx hZ e0 (j := (1 : Int32)) (by unfold ownIn; decide) (g := (mkF m 26 #[rv a0, iv (1 : Int32), .val (.long q2), .second, iv (1 : Int32), iv (2 : Int32), iv (1 : Int32)] [(.int (1 : Int32)), (.ref a0)])) rfl rfl (hb hby own_d4_26)) ?_
  generalize hv_v1 : (g 1) = v1
  refine ow_lloadN (q := 28) X0 hx (hb hby own_d4_27) rfl rfl ?_
  refine ow_lcmp (q := 29) X0 hx _ (hb hby own_d4_28) rfl rfl ?_
  by_cases hc29_2 : q2 < v1
  · refine ow_ifNo (q := 32) X0 hx (hb hby own_d4_29) rfl (Jvm.Free.XT.ll_le_f hc29_2) ?_
    refine ow_iload (q := 34) X0 hx (hb hby own_d4_32) rfl rfl ?_
    refine ow_iconst (q := 35) X0 hx (1 : Int32) (hb hby own_d4_34) rfl rfl ?_
    refine ow_iadd (q := 36) X0 hx (2 : Int32) (hb hby own_d4_35) rfl (by decide) ?_
    refine ow_istore (q := 38) X0 hx (L' := #[rv a0, iv (1 : Int32), .val (.long q2), .second, iv (2 : Int32), iv (2 : Int32), iv (1 : Int32)]) (hb hby own_d4_36) rfl rfl ?_
    refine ow_goto (q := 45) X0 hx (hb hby own_d4_38) (by decide) (by decide) ?_
    refine ow_goto (q := 7) X0 hx (hb hby own_d4_45) (by decide) (by decide) ?_
    refine ow_iload (q := 9) X0 hx (hb hby own_d4_7) rfl rfl ?_
    refine ow_iload (q := 11) X0 hx (hb hby own_d4_9) rfl rfl ?_
    refine ow_icmpYes (q := 48) X0 hx (hb hby own_d4_11) (Jvm.Free.XT.ii_ge_t (by decide)) (by decide) (by decide) ?_
    refine ow_iload (q := 50) X0 hx (hb hby own_d4_48) rfl rfl ?_
    refine ownRetI X0 hx Bd.returns (hb hby own_d4_50) hlk (by decide) (by decide) ?_
    subst hv_v1
    rw [e0]
    refine ⟨congrArg (fun q => some (Value.int q)) ?_, N0, rfl⟩
    simp [hc29_2]
  · refine ow_ifYes (q := 41) X0 hx (hb hby own_d4_29) (Jvm.Free.XT.ll_le_t hc29_2) (by decide) (by decide) ?_
    refine ow_iload (q := 43) X0 hx (hb hby own_d4_41) rfl rfl ?_
    refine ow_istore (q := 45) X0 hx (L' := #[rv a0, iv (1 : Int32), .val (.long q2), .second, iv (1 : Int32), iv (1 : Int32), iv (1 : Int32)]) (hb hby own_d4_43) rfl rfl ?_
    refine ow_goto (q := 7) X0 hx (hb hby own_d4_45) (by decide) (by decide) ?_
    refine ow_iload (q := 9) X0 hx (hb hby own_d4_7) rfl rfl ?_
    refine ow_iload (q := 11) X0 hx (hb hby own_d4_9) rfl rfl ?_
    refine ow_icmpYes (q := 48) X0 hx (hb hby own_d4_11) (Jvm.Free.XT.ii_ge_t (by decide)) (by decide) (by decide) ?_
    refine ow_iload (q := 50) X0 hx (hb hby own_d4_48) rfl rfl ?_
    refine ownRetI X0 hx Bd.returns (hb hby own_d4_50) hlk (by decide) (by decide) ?_
    subst hv_v1
    rw [e0]
    refine ⟨congrArg (fun q => some (Value.int q)) ?_, N0, rfl⟩
    simp [hc29_2]
theorem own_ef4_fam_2_2 (m : MethodId) (a0 : Addr) (q2 : Int64) : entryFrame m #[(.ref a0), (.int (2 : Int32)), (.long q2)] 7 = mkF m 0 #[rv a0, iv (2 : Int32), .val (.long q2), .second, .unset, .unset, .unset] [] := by first | (simp [entryFrame, mkF, argsToLocals, Value.category]; done) | rfl
def Q_fam_2_2 (Z : State) (a0 : Addr) (q2 : Int64) (g : Nat → Int64) (h0 : Heap) (n0 : Nat) (v : Option Value) (h : Heap) (L : List Loc) : Prop := v = some (.int (2 : Int32)) ∧ Fr n0 L ∧ h = h0
set_option maxRecDepth 65536 in
set_option maxHeartbeats 40000000 in
theorem rm_fam_2_2 (l : Launch) (Z : State) (a0 : Array Value) (hw : ∀ d ∈ tables_1, d.before a0 Z = true) (ws : List Jvm.Cond) (a0 : Addr) (q2 : Int64) (g : Nat → Int64) (h0 : Heap) (n0 : Nat) (Z0 : n0 ≤ h0.size) (HF0 : ownAJ Z h0 a0 2 g) :
    MetFree l (⟨"com/example/chromabin/chromabin/packing/Packing", "firstAtMost", "([JIJ)I"⟩ : MethodName) (head1 (Jvm.Cond.code (⟨"com/example/chromabin/chromabin/packing/Packing", "firstAtMost", "([JIJ)I"⟩ : MethodName) prog_55_method_3_code 7 (some .int) :: ws) ({ frames := 0, cells := 0, slots := 0, locals := 0 } : Room)) (fun a U => a = #[(.ref a0), (.int (2 : Int32)), (.long q2)] ∧ Z.Warmed39 U.vm ∧ U.heap = h0) (fun _ _ _ _ _ => True) (fun _ U o U' => ∃ v L, o = .returned v ∧ (Q_fam_2_2 Z a0 q2 g h0 n0) v U'.heap L ∧ FrameEnd U o U' L ({ frames := 0, cells := 0, slots := 0, locals := 0 } : Room).cells ({ frames := 0, cells := 0, slots := 0, locals := 0 } : Room).slots) := by
  refine MetFree.of_bodySF (plainFor_of_name own_pn_Packing) hisR ?_
  intro p e s m args below meth c s₁ Bd hml0 hP hK
  obtain ⟨rfl, hZ, hh⟩ := hP
  have hx := Bd.exec
  have hby := Bd.bytes
  have hml : c.maxLocals = 7 := hml0
  have hown : s.vm.findClass "com/example/chromabin/chromabin/packing/Packing" = some m.cls := findClass_of_methodNamed Bd.named
  have hnm := (name_of_methodNamed Bd.named Bd.method).1
  have hlk : meth.locks = false := BodyLoose.notSynchronized Bd
  have X0 : Stand p l e ({ frames := 0, cells := 0, slots := 0, locals := 0 } : Room) s m #[(.ref a0), (.int (2 : Int32)), (.long q2)] below meth c s₁ [] 0 0 := Stand.of_body Bd
  have e0 : s₁.heap = h0 := by rw [← hh, Bd.state]; rfl
  have N0 := Fr.nil n0
  have K0 : Keep h0 h0 [] := Keep.refl _ _
  show ownEnds p e below s (Q_fam_2_2 Z a0 q2 g h0 n0) ({ frames := 0, cells := 0, slots := 0, locals := 0 } : Room).cells ({ frames := 0, cells := 0, slots := 0, locals := 0 } : Room).slots s₁ (entryFrame m #[(.ref a0), (.int (2 : Int32)), (.long q2)] 7)
  refine ownCast (own_ef4_fam_2_2 m a0 q2) ?_
  refine ow_iloadN (q := 1) X0 hx (hb hby own_d4_0) rfl rfl ?_
  refine ow_istore (q := 3) X0 hx (L' := #[rv a0, iv (2 : Int32), .val (.long q2), .second, iv (2 : Int32), .unset, .unset]) (hb hby own_d4_1) rfl rfl ?_
  refine ow_aloadN (q := 4) X0 hx (hb hby own_d4_3) rfl rfl rfl ?_
  refine ownGo (T' := s₁) (f' := (mkF m 5 #[rv a0, iv (2 : Int32), .val (.long q2), .second, iv (2 : Int32), .unset, .unset] [(.int (2 : Int32))])) (ownLenJ HF0 X0 hx hZ e0 (z := (2 : Int32)) (by decide) (g := (mkF m 4 #[rv a0, iv (2 : Int32), .val (.long q2), .second, iv (2 : Int32), .unset, .unset] [(.ref a0)])) rfl rfl (hb hby own_d4_4)) ?_
  refine ow_istore (q := 7) X0 hx (L' := #[rv a0, iv (2 : Int32), .val (.long q2), .second, iv (2 : Int32), iv (2 : Int32), .unset]) (hb hby own_d4_5) rfl rfl ?_
  refine ow_iload (q := 9) X0 hx (hb hby own_d4_7) rfl rfl ?_
  refine ow_iload (q := 11) X0 hx (hb hby own_d4_9) rfl rfl ?_
  refine ow_icmpYes (q := 48) X0 hx (hb hby own_d4_11) (Jvm.Free.XT.ii_ge_t (by decide)) (by decide) (by decide) ?_
  refine ow_iload (q := 50) X0 hx (hb hby own_d4_48) rfl rfl ?_
  refine ownRetI X0 hx Bd.returns (hb hby own_d4_50) hlk (by decide) (by decide) ?_
  rw [e0]
  exact ⟨rfl, N0, rfl⟩
theorem own_ef4_fam_3_0 (m : MethodId) (a0 : Addr) (q2 : Int64) : entryFrame m #[(.ref a0), (.int (0 : Int32)), (.long q2)] 7 = mkF m 0 #[rv a0, iv (0 : Int32), .val (.long q2), .second, .unset, .unset, .unset] [] := by first | (simp [entryFrame, mkF, argsToLocals, Value.category]; done) | rfl
def Q_fam_3_0 (Z : State) (a0 : Addr) (q2 : Int64) (g : Nat → Int64) (h0 : Heap) (n0 : Nat) (v : Option Value) (h : Heap) (L : List Loc) : Prop := v = some (.int (if q2 < g 1 then (if q2 < g 2 then (3 : Int32) else (2 : Int32)) else (if q2 < g 0 then (1 : Int32) else (0 : Int32)))) ∧ Fr n0 L ∧ h = h0
set_option maxRecDepth 65536 in
set_option maxHeartbeats 40000000 in
theorem rm_fam_3_0 (l : Launch) (Z : State) (a0 : Array Value) (hw : ∀ d ∈ tables_1, d.before a0 Z = true) (ws : List Jvm.Cond) (a0 : Addr) (q2 : Int64) (g : Nat → Int64) (h0 : Heap) (n0 : Nat) (Z0 : n0 ≤ h0.size) (HF0 : ownAJ Z h0 a0 3 g) :
    MetFree l (⟨"com/example/chromabin/chromabin/packing/Packing", "firstAtMost", "([JIJ)I"⟩ : MethodName) (head1 (Jvm.Cond.code (⟨"com/example/chromabin/chromabin/packing/Packing", "firstAtMost", "([JIJ)I"⟩ : MethodName) prog_55_method_3_code 7 (some .int) :: ws) ({ frames := 0, cells := 0, slots := 0, locals := 0 } : Room)) (fun a U => a = #[(.ref a0), (.int (0 : Int32)), (.long q2)] ∧ Z.Warmed39 U.vm ∧ U.heap = h0) (fun _ _ _ _ _ => True) (fun _ U o U' => ∃ v L, o = .returned v ∧ (Q_fam_3_0 Z a0 q2 g h0 n0) v U'.heap L ∧ FrameEnd U o U' L ({ frames := 0, cells := 0, slots := 0, locals := 0 } : Room).cells ({ frames := 0, cells := 0, slots := 0, locals := 0 } : Room).slots) := by
  refine MetFree.of_bodySF (plainFor_of_name own_pn_Packing) hisR ?_
  intro p e s m args below meth c s₁ Bd hml0 hP hK
  obtain ⟨rfl, hZ, hh⟩ := hP
  have hx := Bd.exec
  have hby := Bd.bytes
  have hml : c.maxLocals = 7 := hml0
  have hown : s.vm.findClass "com/example/chromabin/chromabin/packing/Packing" = some m.cls := findClass_of_methodNamed Bd.named
  have hnm := (name_of_methodNamed Bd.named Bd.method).1
  have hlk : meth.locks = false := BodyLoose.notSynchronized Bd
  have X0 : Stand p l e ({ frames := 0, cells := 0, slots := 0, locals := 0 } : Room) s m #[(.ref a0), (.int (0 : Int32)), (.long q2)] below meth c s₁ [] 0 0 := Stand.of_body Bd
  have e0 : s₁.heap = h0 := by rw [← hh, Bd.state]; rfl
  have N0 := Fr.nil n0
  have K0 : Keep h0 h0 [] := Keep.refl _ _
  show ownEnds p e below s (Q_fam_3_0 Z a0 q2 g h0 n0) ({ frames := 0, cells := 0, slots := 0, locals := 0 } : Room).cells ({ frames := 0, cells := 0, slots := 0, locals := 0 } : Room).slots s₁ (entryFrame m #[(.ref a0), (.int (0 : Int32)), (.long q2)] 7)
  refine ownCast (own_ef4_fam_3_0 m a0 q2) ?_
  refine ow_iloadN (q := 1) X0 hx (hb hby own_d4_0) rfl rfl ?_
  refine ow_istore (q := 3) X0 hx (L' := #[rv a0, iv (0 : Int32), .val (.long q2), .second, iv (0 : Int32), .unset, .unset]) (hb hby own_d4_1) rfl rfl ?_
  refine ow_aloadN (q := 4) X0 hx (hb hby own_d4_3) rfl rfl rfl ?_
  refine ownGo (T' := s₁) (f' := (mkF m 5 #[rv a0, iv (0 : Int32), .val (.long q2), .second, iv (0 : Int32), .unset, .unset] [(.int (3 : Int32))])) (ownLenJ HF0 X0 hx hZ e0 (z := (3 : Int32)) (by decide) (g := (mkF m 4 #[rv a0, iv (0 : Int32), .val (.long q2), .second, iv (0 : Int32), .unset, .unset] [(.ref a0)])) rfl rfl (hb hby own_d4_4)) ?_
  refine ow_istore (q := 7) X0 hx (L' := #[rv a0, iv (0 : Int32), .val (.long q2), .second, iv (0 : Int32), iv (3 : Int32), .unset]) (hb hby own_d4_5) rfl rfl ?_
  refine ow_iload (q := 9) X0 hx (hb hby own_d4_7) rfl rfl ?_
  refine ow_iload (q := 11) X0 hx (hb hby own_d4_9) rfl rfl ?_
  refine ow_icmpNo (q := 14) X0 hx (hb hby own_d4_11) rfl (Jvm.Free.XT.ii_ge_f (by decide)) ?_
  refine ow_iload (q := 16) X0 hx (hb hby own_d4_14) rfl rfl ?_
  refine ow_iload (q := 18) X0 hx (hb hby own_d4_16) rfl rfl ?_
  refine ow_iadd (q := 19) X0 hx (3 : Int32) (hb hby own_d4_18) rfl (by decide) ?_
  refine ow_iconst (q := 20) X0 hx (1 : Int32) (hb hby own_d4_19) rfl rfl ?_
  refine ow_iushr (q := 21) X0 hx (1 : Int32) (hb hby own_d4_20) rfl (by decide) ?_
  refine ow_istore (q := 23) X0 hx (L' := #[rv a0, iv (0 : Int32), .val (.long q2), .second, iv (0 : Int32), iv (3 : Int32), iv (1 : Int32)]) (hb hby own_d4_21) rfl rfl ?_
  refine ow_aloadN (q := 24) X0 hx (hb hby own_d4_23) rfl rfl rfl ?_
  refine ow_iload (q := 26) X0 hx (hb hby own_d4_24) rfl rfl ?_
  refine ownGo (T' := s₁) (f' := (mkF m 27 #[rv a0, iv (0 : Int32), .val (.long q2), .second, iv (0 : Int32), iv (3 : Int32), iv (1 : Int32)] [(.long (g 1))])) (ownLaload HF0 X0 hx hZ e0 (j := (1 : Int32)) (by unfold ownIn; decide) (g := (mkF m 26 #[rv a0, iv (0 : Int32), .val (.long q2), .second, iv (0 : Int32), iv (3 : Int32), iv (1 : Int32)] [(.int (1 : Int32)), (.ref a0)])) rfl rfl (hb hby own_d4_26)) ?_
  generalize hv_v1 : (g 1) = v1
  refine ow_lloadN (q := 28) X0 hx (hb hby own_d4_27) rfl rfl ?_
  refine ow_lcmp (q := 29) X0 hx _ (hb hby own_d4_28) rfl rfl ?_
  by_cases hc29_2 : q2 < v1
  · refine ow_ifNo (q := 32) X0 hx (hb hby own_d4_29) rfl (Jvm.Free.XT.ll_le_f hc29_2) ?_
    refine ow_iload (q := 34) X0 hx (hb hby own_d4_32) rfl rfl ?_
    refine ow_iconst (q := 35) X0 hx (1 : Int32) (hb hby own_d4_34) rfl rfl ?_
    refine ow_iadd (q := 36) X0 hx (2 : Int32) (hb hby own_d4_35) rfl (by decide) ?_
    refine ow_istore (q := 38) X0 hx (L' := #[rv a0, iv (0 : Int32), .val (.long q2), .second, iv (2 : Int32), iv (3 : Int32), iv (1 : Int32)]) (hb hby own_d4_36) rfl rfl ?_
    refine ow_goto (q := 45) X0 hx (hb hby own_d4_38) (by decide) (by decide) ?_
    refine ow_goto (q := 7) X0 hx (hb hby own_d4_45) (by decide) (by decide) ?_
    refine ow_iload (q := 9) X0 hx (hb hby own_d4_7) rfl rfl ?_
    refine ow_iload (q := 11) X0 hx (hb hby own_d4_9) rfl rfl ?_
    refine ow_icmpNo (q := 14) X0 hx (hb hby own_d4_11) rfl (Jvm.Free.XT.ii_ge_f (by decide)) ?_
    refine ow_iload (q := 16) X0 hx (hb hby own_d4_14) rfl rfl ?_
    refine ow_iload (q := 18) X0 hx (hb hby own_d4_16) rfl rfl ?_
    refine ow_iadd (q := 19) X0 hx (5 : Int32) (hb hby own_d4_18) rfl (by decide) ?_
    refine ow_iconst (q := 20) X0 hx (1 : Int32) (hb hby own_d4_19) rfl rfl ?_
    refine ow_iushr (q := 21) X0 hx (2 : Int32) (hb hby own_d4_20) rfl (by decide) ?_
    refine ow_istore (q := 23) X0 hx (L' := #[rv a0, iv (0 : Int32), .val (.long q2), .second, iv (2 : Int32), iv (3 : Int32), iv (2 : Int32)]) (hb hby own_d4_21) rfl rfl ?_
    refine ow_aloadN (q := 24) X0 hx (hb hby own_d4_23) rfl rfl rfl ?_
    refine ow_iload (q := 26) X0 hx (hb hby own_d4_24) rfl rfl ?_
    refine ownGo (T' := s₁) (f' := (mkF m 27 #[rv a0, iv (0 : Int32), .val (.long q2), .second, iv (2 : Int32), iv (3 : Int32), iv (2 : Int32)] [(.long (g 2))])) (ownLaload HF0 X0 hx hZ e0 (j := (2 : Int32)) (by unfold ownIn; decide) (g := (mkF m 26 #[rv a0, iv (0 : Int32), .val (.long q2), .second, iv (2 : Int32), iv (3 : Int32), iv (2 : Int32)] [(.int (2 : Int32)), (.ref a0)])) rfl rfl (hb hby own_d4_26)) ?_
    generalize hv_v3 : (g 2) = v3
    refine ow_lloadN (q := 28) X0 hx (hb hby own_d4_27) rfl rfl ?_
    refine ow_lcmp (q := 29) X0 hx _ (hb hby own_d4_28) rfl rfl ?_
    by_cases hc29_4 : q2 < v3
    · refine ow_ifNo (q := 32) X0 hx (hb hby own_d4_29) rfl (Jvm.Free.XT.ll_le_f hc29_4) ?_
      refine ow_iload (q := 34) X0 hx (hb hby own_d4_32) rfl rfl ?_
      refine ow_iconst (q := 35) X0 hx (1 : Int32) (hb hby own_d4_34) rfl rfl ?_
      refine ow_iadd (q := 36) X0 hx (3 : Int32) (hb hby own_d4_35) rfl (by decide) ?_
      refine ow_istore (q := 38) X0 hx (L' := #[rv a0, iv (0 : Int32), .val (.long q2), .second, iv (3 : Int32), iv (3 : Int32), iv (2 : Int32)]) (hb hby own_d4_36) rfl rfl ?_
      refine ow_goto (q := 45) X0 hx (hb hby own_d4_38) (by decide) (by decide) ?_
      refine ow_goto (q := 7) X0 hx (hb hby own_d4_45) (by decide) (by decide) ?_
      refine ow_iload (q := 9) X0 hx (hb hby own_d4_7) rfl rfl ?_
      refine ow_iload (q := 11) X0 hx (hb hby own_d4_9) rfl rfl ?_
      refine ow_icmpYes (q := 48) X0 hx (hb hby own_d4_11) (Jvm.Free.XT.ii_ge_t (by decide)) (by decide) (by decide) ?_
      refine ow_iload (q := 50) X0 hx (hb hby own_d4_48) rfl rfl ?_
      refine ownRetI X0 hx Bd.returns (hb hby own_d4_50) hlk (by decide) (by decide) ?_
      subst hv_v3 hv_v1
      rw [e0]
      refine ⟨congrArg (fun q => some (Value.int q)) ?_, N0, rfl⟩
      simp [hc29_2, hc29_4]
    · refine ow_ifYes (q := 41) X0 hx (hb hby own_d4_29) (Jvm.Free.XT.ll_le_t hc29_4) (by decide) (by decide) ?_
      refine ow_iload (q := 43) X0 hx (hb hby own_d4_41) rfl rfl ?_
      refine ow_istore (q := 45) X0 hx (L' := #[rv a0, iv (0 : Int32), .val (.long q2), .second, iv (2 : Int32), iv (2 : Int32), iv (2 : Int32)]) (hb hby own_d4_43) rfl rfl ?_
      refine ow_goto (q := 7) X0 hx (hb hby own_d4_45) (by decide) (by decide) ?_
      refine ow_iload (q := 9) X0 hx (hb hby own_d4_7) rfl rfl ?_
      refine ow_iload (q := 11) X0 hx (hb hby own_d4_9) rfl rfl ?_
      refine ow_icmpYes (q := 48) X0 hx (hb hby own_d4_11) (Jvm.Free.XT.ii_ge_t (by decide)) (by decide) (by decide) ?_
      refine ow_iload (q := 50) X0 hx (hb hby own_d4_48) rfl rfl ?_
      refine ownRetI X0 hx Bd.returns (hb hby own_d4_50) hlk (by decide) (by decide) ?_
      subst hv_v3 hv_v1
      rw [e0]
      refine ⟨congrArg (fun q => some (Value.int q)) ?_, N0, rfl⟩
      simp [hc29_2, hc29_4]
  · refine ow_ifYes (q := 41) X0 hx (hb hby own_d4_29) (Jvm.Free.XT.ll_le_t hc29_2) (by decide) (by decide) ?_
    refine ow_iload (q := 43) X0 hx (hb hby own_d4_41) rfl rfl ?_
    refine ow_istore (q := 45) X0 hx (L' := #[rv a0, iv (0 : Int32), .val (.long q2), .second, iv (0 : Int32), iv (1 : Int32), iv (1 : Int32)]) (hb hby own_d4_43) rfl rfl ?_
    refine ow_goto (q := 7) X0 hx (hb hby own_d4_45) (by decide) (by decide) ?_
    refine ow_iload (q := 9) X0 hx (hb hby own_d4_7) rfl rfl ?_
    refine ow_iload (q := 11) X0 hx (hb hby own_d4_9) rfl rfl ?_
    refine ow_icmpNo (q := 14) X0 hx (hb hby own_d4_11) rfl (Jvm.Free.XT.ii_ge_f (by decide)) ?_
    refine ow_iload (q := 16) X0 hx (hb hby own_d4_14) rfl rfl ?_
    refine ow_iload (q := 18) X0 hx (hb hby own_d4_16) rfl rfl ?_
    refine ow_iadd (q := 19) X0 hx (1 : Int32) (hb hby own_d4_18) rfl (by decide) ?_
    refine ow_iconst (q := 20) X0 hx (1 : Int32) (hb hby own_d4_19) rfl rfl ?_
    refine ow_iushr (q := 21) X0 hx (0 : Int32) (hb hby own_d4_20) rfl (by decide) ?_
    refine ow_istore (q := 23) X0 hx (L' := #[rv a0, iv (0 : Int32), .val (.long q2), .second, iv (0 : Int32), iv (1 : Int32), iv (0 : Int32)]) (hb hby own_d4_21) rfl rfl ?_
    refine ow_aloadN (q := 24) X0 hx (hb hby own_d4_23) rfl rfl rfl ?_
    refine ow_iload (q := 26) X0 hx (hb hby own_d4_24) rfl rfl ?_
    refine ownGo (T' := s₁) (f' := (mkF m 27 #[rv a0, iv (0 : Int32), .val (.long q2), .second, iv (0 : Int32), iv (1 : Int32), iv (0 : Int32)] [(.long (g 0))])) (ownLaload HF0 X0 hx hZ e0 (j := (0 : Int32)) (by unfold ownIn; decide) (g := (mkF m 26 #[rv a0, iv (0 : Int32), .val (.long q2), .second, iv (0 : Int32), iv (1 : Int32), iv (0 : Int32)] [(.int (0 : Int32)), (.ref a0)])) rfl rfl (hb hby own_d4_26)) ?_
    generalize hv_v5 : (g 0) = v5
    refine ow_lloadN (q := 28) X0 hx (hb hby own_d4_27) rfl rfl ?_
    refine ow_lcmp (q := 29) X0 hx _ (hb hby own_d4_28) rfl rfl ?_
    by_cases hc29_6 : q2 < v5
    · refine ow_ifNo (q := 32) X0 hx (hb hby own_d4_29) rfl (Jvm.Free.XT.ll_le_f hc29_6) ?_
      refine ow_iload (q := 34) X0 hx (hb hby own_d4_32) rfl rfl ?_
      refine ow_iconst (q := 35) X0 hx (1 : Int32) (hb hby own_d4_34) rfl rfl ?_
      refine ow_iadd (q := 36) X0 hx (1 : Int32) (hb hby own_d4_35) rfl (by decide) ?_
      refine ow_istore (q := 38) X0 hx (L' := #[rv a0, iv (0 : Int32), .val (.long q2), .second, iv (1 : Int32), iv (1 : Int32), iv (0 : Int32)]) (hb hby own_d4_36) rfl rfl ?_
      refine ow_goto (q := 45) X0 hx (hb hby own_d4_38) (by decide) (by decide) ?_
      refine ow_goto (q := 7) X0 hx (hb hby own_d4_45) (by decide) (by decide) ?_
      refine ow_iload (q := 9) X0 hx (hb hby own_d4_7) rfl rfl ?_
      refine ow_iload (q := 11) X0 hx (hb hby own_d4_9) rfl rfl ?_
      refine ow_icmpYes (q := 48) X0 hx (hb hby own_d4_11) (Jvm.Free.XT.ii_ge_t (by decide)) (by decide) (by decide) ?_
      refine ow_iload (q := 50) X0 hx (hb hby own_d4_48) rfl rfl ?_
      refine ownRetI X0 hx Bd.returns (hb hby own_d4_50) hlk (by decide) (by decide) ?_
      subst hv_v5 hv_v1
      rw [e0]
      refine ⟨congrArg (fun q => some (Value.int q)) ?_, N0, rfl⟩
      simp [hc29_2, hc29_6]
    · refine ow_ifYes (q := 41) X0 hx (hb hby own_d4_29) (Jvm.Free.XT.ll_le_t hc29_6) (by decide) (by decide) ?_
      refine ow_iload (q := 43) X0 hx (hb hby own_d4_41) rfl rfl ?_
      refine ow_istore (q := 45) X0 hx (L' := #[rv a0, iv (0 : Int32), .val (.long q2), .second, iv (0 : Int32), iv (0 : Int32), iv (0 : Int32)]) (hb hby own_d4_43) rfl rfl ?_
      refine ow_goto (q := 7) X0 hx (hb hby own_d4_45) (by decide) (by decide) ?_
      refine ow_iload (q := 9) X0 hx (hb hby own_d4_7) rfl rfl ?_
      refine ow_iload (q := 11) X0 hx (hb hby own_d4_9) rfl rfl ?_
      refine ow_icmpYes (q := 48) X0 hx (hb hby own_d4_11) (Jvm.Free.XT.ii_ge_t (by decide)) (by decide) (by decide) ?_
      refine ow_iload (q := 50) X0 hx (hb hby own_d4_48) rfl rfl ?_
      refine ownRetI X0 hx Bd.returns (hb hby own_d4_50) hlk (by decide) (by decide) ?_
      subst hv_v5 hv_v1
      rw [e0]
      refine ⟨congrArg (fun q => some (Value.int q)) ?_, N0, rfl⟩
      simp [hc29_2, hc29_6]
theorem own_ef4_fam_3_1 (m : MethodId) (a0 : Addr) (q2 : Int64) : entryFrame m #[(.ref a0), (.int (1 : Int32)), (.long q2)] 7 = mkF m 0 #[rv a0, iv (1 : Int32), .val (.long q2), .second, .unset, .unset, .unset] [] := by first | (simp [entryFrame, mkF, argsToLocals, Value.category]; done) | rfl
def Q_fam_3_1 (Z : State) (a0 : Addr) (q2 : Int64) (g : Nat → Int64) (h0 : Heap) (n0 : Nat) (v : Option Value) (h : Heap) (L : List Loc) : Prop := v = some (.int (if q2 < g 2 then (3 : Int32) else (if q2 < g 1 then (2 : Int32) else (1 : Int32)))) ∧ Fr n0 L ∧ h = h0
set_option maxRecDepth 65536 in
set_option maxHeartbeats 40000000 in
theorem rm_fam_3_1 (l : Launch) (Z : State) (a0 : Array Value) (hw : ∀ d ∈ tables_1, d.before a0 Z = true) (ws : List Jvm.Cond) (a0 : Addr) (q2 : Int64) (g : Nat → Int64) (h0 : Heap) (n0 : Nat) (Z0 : n0 ≤ h0.size) (HF0 : ownAJ Z h0 a0 3 g) :
    MetFree l (⟨"com/example/chromabin/chromabin/packing/Packing", "firstAtMost", "([JIJ)I"⟩ : MethodName) (head1 (Jvm.Cond.code (⟨"com/example/chromabin/chromabin/packing/Packing", "firstAtMost", "([JIJ)I"⟩ : MethodName) prog_55_method_3_code 7 (some .int) :: ws) ({ frames := 0, cells := 0, slots := 0, locals := 0 } : Room)) (fun a U => a = #[(.ref a0), (.int (1 : Int32)), (.long q2)] ∧ Z.Warmed39 U.vm ∧ U.heap = h0) (fun _ _ _ _ _ => True) (fun _ U o U' => ∃ v L, o = .returned v ∧ (Q_fam_3_1 Z a0 q2 g h0 n0) v U'.heap L ∧ FrameEnd U o U' L ({ frames := 0, cells := 0, slots := 0, locals := 0 } : Room).cells ({ frames := 0, cells := 0, slots := 0, locals := 0 } : Room).slots) := by
  refine MetFree.of_bodySF (plainFor_of_name own_pn_Packing) hisR ?_
  intro p e s m args below meth c s₁ Bd hml0 hP hK
  obtain ⟨rfl, hZ, hh⟩ := hP
  have hx := Bd.exec
  have hby := Bd.bytes
  have hml : c.maxLocals = 7 := hml0
  have hown : s.vm.findClass "com/example/chromabin/chromabin/packing/Packing" = some m.cls := findClass_of_methodNamed Bd.named
  have hnm := (name_of_methodNamed Bd.named Bd.method).1
  have hlk : meth.locks = false := BodyLoose.notSynchronized Bd
  have X0 : Stand p l e ({ frames := 0, cells := 0, slots := 0, locals := 0 } : Room) s m #[(.ref a0), (.int (1 : Int32)), (.long q2)] below meth c s₁ [] 0 0 := Stand.of_body Bd
  have e0 : s₁.heap = h0 := by rw [← hh, Bd.state]; rfl
  have N0 := Fr.nil n0
  have K0 : Keep h0 h0 [] := Keep.refl _ _
  show ownEnds p e below s (Q_fam_3_1 Z a0 q2 g h0 n0) ({ frames := 0, cells := 0, slots := 0, locals := 0 } : Room).cells ({ frames := 0, cells := 0, slots := 0, locals := 0 } : Room).slots s₁ (entryFrame m #[(.ref a0), (.int (1 : Int32)), (.long q2)] 7)
  refine ownCast (own_ef4_fam_3_1 m a0 q2) ?_
  refine ow_iloadN (q := 1) X0 hx (hb hby own_d4_0) rfl rfl ?_
  refine ow_istore (q := 3) X0 hx (L' := #[rv a0, iv (1 : Int32), .val (.long q2), .second, iv (1 : Int32), .unset, .unset]) (hb hby own_d4_1) rfl rfl ?_
  refine ow_aloadN (q := 4) X0 hx (hb hby own_d4_3) rfl rfl rfl ?_
  refine ownGo (T' := s₁) (f' := (mkF m 5 #[rv a0, iv (1 : Int32), .val (.long q2), .second, iv (1 : Int32), .unset, .unset] [(.int (3 : Int32))])) (ownLenJ HF0 X0 hx hZ e0 (z := (3 : Int32)) (by decide) (g := (mkF m 4 #[rv a0, iv (1 : Int32), .val (.long q2), .second, iv (1 : Int32), .unset, .unset] [(.ref a0)])) rfl rfl (hb hby own_d4_4)) ?_
  refine ow_istore (q := 7) X0 hx (L' := #[rv a0, iv (1 : Int32), .val (.long q2), .second, iv (1 : Int32), iv (3 : Int32), .unset]) (hb hby own_d4_5) rfl rfl ?_
  refine ow_iload (q := 9) X0 hx (hb hby own_d4_7) rfl rfl ?_
  refine ow_iload (q := 11) X0 hx (hb hby own_d4_9) rfl rfl ?_
  refine ow_icmpNo (q := 14) X0 hx (hb hby own_d4_11) rfl (Jvm.Free.XT.ii_ge_f (by decide)) ?_
  refine ow_iload (q := 16) X0 hx (hb hby own_d4_14) rfl rfl ?_
  refine ow_iload (q := 18) X0 hx (hb hby own_d4_16) rfl rfl ?_
  refine ow_iadd (q := 19) X0 hx (4 : Int32) (hb hby own_d4_18) rfl (by decide) ?_
  refine ow_iconst (q := 20) X0 hx (1 : Int32) (hb hby own_d4_19) rfl rfl ?_
  refine ow_iushr (q := 21) X0 hx (2 : Int32) (hb hby own_d4_20) rfl (by decide) ?_
  refine ow_istore (q := 23) X0 hx (L' := #[rv a0, iv (1 : Int32), .val (.long q2), .second, iv (1 : Int32), iv (3 : Int32), iv (2 : Int32)]) (hb hby own_d4_21) rfl rfl ?_
  refine ow_aloadN (q := 24) X0 hx (hb hby own_d4_23) rfl rfl rfl ?_
  refine ow_iload (q := 26) X0 hx (hb hby own_d4_24) rfl rfl ?_
  refine ownGo (T' := s₁) (f' := (mkF m 27 #[rv a0, iv (1 : Int32), .val (.long q2), .second, iv (1 : Int32), iv (3 : Int32), iv (2 : Int32)] [(.long (g 2))])) (ownLaload HF0 X0 hx hZ e0 (j := (2 : Int32)) (by unfold ownIn; decide) (g := (mkF m 26 #[rv a0, iv (1 : Int32), .val (.long q2), .second, iv (1 : Int32), iv (3 : Int32), iv (2 : Int32)] [(.int (2 : Int32)), (.ref a0)])) rfl rfl (hb hby own_d4_26)) ?_
  generalize hv_v1 : (g 2) = v1
  refine ow_lloadN (q := 28) X0 hx (hb hby own_d4_27) rfl rfl ?_
  refine ow_lcmp (q := 29) X0 hx _ (hb hby own_d4_28) rfl rfl ?_
  by_cases hc29_2 : q2 < v1
  · refine ow_ifNo (q := 32) X0 hx (hb hby own_d4_29) rfl (Jvm.Free.XT.ll_le_f hc29_2) ?_
    refine ow_iload (q := 34) X0 hx (hb hby own_d4_32) rfl rfl ?_
    refine ow_iconst (q := 35) X0 hx (1 : Int32) (hb hby own_d4_34) rfl rfl ?_
    refine ow_iadd (q := 36) X0 hx (3 : Int32) (hb hby own_d4_35) rfl (by decide) ?_
    refine ow_istore (q := 38) X0 hx (L' := #[rv a0, iv (1 : Int32), .val (.long q2), .second, iv (3 : Int32), iv (3 : Int32), iv (2 : Int32)]) (hb hby own_d4_36) rfl rfl ?_
    refine ow_goto (q := 45) X0 hx (hb hby own_d4_38) (by decide) (by decide) ?_
    refine ow_goto (q := 7) X0 hx (hb hby own_d4_45) (by decide) (by decide) ?_
    refine ow_iload (q := 9) X0 hx (hb hby own_d4_7) rfl rfl ?_
    refine ow_iload (q := 11) X0 hx (hb hby own_d4_9) rfl rfl ?_
    refine ow_icmpYes (q := 48) X0 hx (hb hby own_d4_11) (Jvm.Free.XT.ii_ge_t (by decide)) (by decide) (by decide) ?_
    refine ow_iload (q := 50) X0 hx (hb hby own_d4_48) rfl rfl ?_
    refine ownRetI X0 hx Bd.returns (hb hby own_d4_50) hlk (by decide) (by decide) ?_
    subst hv_v1
    rw [e0]
    refine ⟨congrArg (fun q => some (Value.int q)) ?_, N0, rfl⟩
    simp [hc29_2]
  · refine ow_ifYes (q := 41) X0 hx (hb hby own_d4_29) (Jvm.Free.XT.ll_le_t hc29_2) (by decide) (by decide) ?_
    refine ow_iload (q := 43) X0 hx (hb hby own_d4_41) rfl rfl ?_
    refine ow_istore (q := 45) X0 hx (L' := #[rv a0, iv (1 : Int32), .val (.long q2), .second, iv (1 : Int32), iv (2 : Int32), iv (2 : Int32)]) (hb hby own_d4_43) rfl rfl ?_
    refine ow_goto (q := 7) X0 hx (hb hby own_d4_45) (by decide) (by decide) ?_
    refine ow_iload (q := 9) X0 hx (hb hby own_d4_7) rfl rfl ?_
    refine ow_iload (q := 11) X0 hx (hb hby own_d4_9) rfl rfl ?_
    refine ow_icmpNo (q := 14) X0 hx (hb hby own_d4_11) rfl (Jvm.Free.XT.ii_ge_f (by decide)) ?_
    refine ow_iload (q := 16) X0 hx (hb hby own_d4_14) rfl rfl ?_
    refine ow_iload (q := 18) X0 hx (hb hby own_d4_16) rfl rfl ?_
    refine ow_iadd (q := 19) X0 hx (3 : Int32) (hb hby own_d4_18) rfl (by decide) ?_
    refine ow_iconst (q := 20) X0 hx (1 : Int32) (hb hby own_d4_19) rfl rfl ?_
    refine ow_iushr (q := 21) X0 hx (1 : Int32) (hb hby own_d4_20) rfl (by decide) ?_
    refine ow_istore (q := 23) X0 hx (L' := #[rv a0, iv (1 : Int32), .val (.long q2), .second, iv (1 : Int32), iv (2 : Int32), iv (1 : Int32)]) (hb hby own_d4_21) rfl rfl ?_
    refine ow_aloadN (q := 24) X0 hx (hb hby own_d4_23) rfl rfl rfl ?_
    refine ow_iload (q := 26) X0 hx (hb hby own_d4_24) rfl rfl ?_
    refine ownGo (T' := s₁) (f' := (mkF m 27 #[rv a0, iv (1 : Int32), .val (.long q2), .second, iv (1 : Int32), iv (2 : Int32), iv (1 : Int32)] [(.long (g 1))])) (ownLaload HF0 X0 hx hZ e0 (j := (1 : Int32)) (by unfold ownIn; decide) (g := (mkF m 26 #[rv a0, iv (1 : Int32), .val (.long q2), .second, iv (1 : Int32), iv (2 : Int32), iv (1 : Int32)] [(.int (1 : Int32)), (.ref a0)])) rfl rfl (hb hby own_d4_26)) ?_
    generalize hv_v3 : (g 1) = v3
    refine ow_lloadN (q := 28) X0 hx (hb hby own_d4_27) rfl rfl ?_
    refine ow_lcmp (q := 29) X0 hx _ (hb hby own_d4_28) rfl rfl ?_
    by_cases hc29_4 : q2 < v3
    · refine ow_ifNo (q := 32) X0 hx (hb hby own_d4_29) rfl (Jvm.Free.XT.ll_le_f hc29_4) ?_
      refine ow_iload (q := 34) X0 hx (hb hby own_d4_32) rfl rfl ?_
      refine ow_iconst (q := 35) X0 hx (1 : Int32) (hb hby own_d4_34) rfl rfl ?_
      refine ow_iadd (q := 36) X0 hx (2 : Int32) (hb hby own_d4_35) rfl (by decide) ?_
      refine ow_istore (q := 38) X0 hx (L' := #[rv a0, iv (1 : Int32), .val (.long q2), .second, iv (2 : Int32), iv (2 : Int32), iv (1 : Int32)]) (hb hby own_d4_36) rfl rfl ?_
      refine ow_goto (q := 45) X0 hx (hb hby own_d4_38) (by decide) (by decide) ?_
      refine ow_goto (q := 7) X0 hx (hb hby own_d4_45) (by decide) (by decide) ?_
      refine ow_iload (q := 9) X0 hx (hb hby own_d4_7) rfl rfl ?_
      refine ow_iload (q := 11) X0 hx (hb hby own_d4_9) rfl rfl ?_
      refine ow_icmpYes (q := 48) X0 hx (hb hby own_d4_11) (Jvm.Free.XT.ii_ge_t (by decide)) (by decide) (by decide) ?_
      refine ow_iload (q := 50) X0 hx (hb hby own_d4_48) rfl rfl ?_
      refine ownRetI X0 hx Bd.returns (hb hby own_d4_50) hlk (by decide) (by decide) ?_
      subst hv_v3 hv_v1
      rw [e0]
      refine ⟨congrArg (fun q => some (Value.int q)) ?_, N0, rfl⟩
      simp [hc29_2, hc29_4]
    · refine ow_ifYes (q := 41) X0 hx (hb hby own_d4_29) (Jvm.Free.XT.ll_le_t hc29_4) (by decide) (by decide) ?_
      refine ow_iload (q := 43) X0 hx (hb hby own_d4_41) rfl rfl ?_
      refine ow_istore (q := 45) X0 hx (L' := #[rv a0, iv (1 : Int32), .val (.long q2), .second, iv (1 : Int32), iv (1 : Int32), iv (1 : Int32)]) (hb hby own_d4_43) rfl rfl ?_
      refine ow_goto (q := 7) X0 hx (hb hby own_d4_45) (by decide) (by decide) ?_
      refine ow_iload (q := 9) X0 hx (hb hby own_d4_7) rfl rfl ?_
      refine ow_iload (q := 11) X0 hx (hb hby own_d4_9) rfl rfl ?_
      refine ow_icmpYes (q := 48) X0 hx (hb hby own_d4_11) (Jvm.Free.XT.ii_ge_t (by decide)) (by decide) (by decide) ?_
      refine ow_iload (q := 50) X0 hx (hb hby own_d4_48) rfl rfl ?_
      refine ownRetI X0 hx Bd.returns (hb hby own_d4_50) hlk (by decide) (by decide) ?_
      subst hv_v3 hv_v1
      rw [e0]
      refine ⟨congrArg (fun q => some (Value.int q)) ?_, N0, rfl⟩
      simp [hc29_2, hc29_4]
theorem own_ef4_fam_3_2 (m : MethodId) (a0 : Addr) (q2 : Int64) : entryFrame m #[(.ref a0), (.int (2 : Int32)), (.long q2)] 7 = mkF m 0 #[rv a0, iv (2 : Int32), .val (.long q2), .second, .unset, .unset, .unset] [] := by first | (simp [entryFrame, mkF, argsToLocals, Value.category]; done) | rfl
def Q_fam_3_2 (Z : State) (a0 : Addr) (q2 : Int64) (g : Nat → Int64) (h0 : Heap) (n0 : Nat) (v : Option Value) (h : Heap) (L : List Loc) : Prop := v = some (.int (if q2 < g 2 then (3 : Int32) else (2 : Int32))) ∧ Fr n0 L ∧ h = h0
set_option maxRecDepth 65536 in
set_option maxHeartbeats 40000000 in
theorem rm_fam_3_2 (l : Launch) (Z : State) (a0 : Array Value) (hw : ∀ d ∈ tables_1, d.before a0 Z = true) (ws : List Jvm.Cond) (a0 : Addr) (q2 : Int64) (g : Nat → Int64) (h0 : Heap) (n0 : Nat) (Z0 : n0 ≤ h0.size) (HF0 : ownAJ Z h0 a0 3 g) :
    MetFree l (⟨"com/example/chromabin/chromabin/packing/Packing", "firstAtMost", "([JIJ)I"⟩ : MethodName) (head1 (Jvm.Cond.code (⟨"com/example/chromabin/chromabin/packing/Packing", "firstAtMost", "([JIJ)I"⟩ : MethodName) prog_55_method_3_code 7 (some .int) :: ws) ({ frames := 0, cells := 0, slots := 0, locals := 0 } : Room)) (fun a U => a = #[(.ref a0), (.int (2 : Int32)), (.long q2)] ∧ Z.Warmed39 U.vm ∧ U.heap = h0) (fun _ _ _ _ _ => True) (fun _ U o U' => ∃ v L, o = .returned v ∧ (Q_fam_3_2 Z a0 q2 g h0 n0) v U'.heap L ∧ FrameEnd U o U' L ({ frames := 0, cells := 0, slots := 0, locals := 0 } : Room).cells ({ frames := 0, cells := 0, slots := 0, locals := 0 } : Room).slots) := by
  refine MetFree.of_bodySF (plainFor_of_name own_pn_Packing) hisR ?_
  intro p e s m args below meth c s₁ Bd hml0 hP hK
  obtain ⟨rfl, hZ, hh⟩ := hP
  have hx := Bd.exec
  have hby := Bd.bytes
  have hml : c.maxLocals = 7 := hml0
  have hown : s.vm.findClass "com/example/chromabin/chromabin/packing/Packing" = some m.cls := findClass_of_methodNamed Bd.named
  have hnm := (name_of_methodNamed Bd.named Bd.method).1
  have hlk : meth.locks = false := BodyLoose.notSynchronized Bd
  have X0 : Stand p l e ({ frames := 0, cells := 0, slots := 0, locals := 0 } : Room) s m #[(.ref a0), (.int (2 : Int32)), (.long q2)] below meth c s₁ [] 0 0 := Stand.of_body Bd
  have e0 : s₁.heap = h0 := by rw [← hh, Bd.state]; rfl
  have N0 := Fr.nil n0
  have K0 : Keep h0 h0 [] := Keep.refl _ _
  show ownEnds p e below s (Q_fam_3_2 Z a0 q2 g h0 n0) ({ frames := 0, cells := 0, slots := 0, locals := 0 } : Room).cells ({ frames := 0, cells := 0, slots := 0, locals := 0 } : Room).slots s₁ (entryFrame m #[(.ref a0), (.int (2 : Int32)), (.long q2)] 7)
  refine ownCast (own_ef4_fam_3_2 m a0 q2) ?_
  refine ow_iloadN (q := 1) X0 hx (hb hby own_d4_0) rfl rfl ?_
  refine ow_istore (q := 3) X0 hx (L' := #[rv a0, iv (2 : Int32), .val (.long q2), .second, iv (2 : Int32), .unset, .unset]) (hb hby own_d4_1) rfl rfl ?_
  refine ow_aloadN (q := 4) X0 hx (hb hby own_d4_3) rfl rfl rfl ?_
  refine ownGo (T' := s₁) (f' := (mkF m 5 #[rv a0, iv (2 : Int32), .val (.long q2), .second, iv (2 : Int32), .unset, .unset] [(.int (3 : Int32))])) (ownLenJ HF0 X0 hx hZ e0 (z := (3 : Int32)) (by decide) (g := (mkF m 4 #[rv a0, iv (2 : Int32), .val (.long q2), .second, iv (2 : Int32), .unset, .unset] [(.ref a0)])) rfl rfl (hb hby own_d4_4)) ?_
  refine ow_istore (q := 7) X0 hx (L' := #[rv a0, iv (2 : Int32), .val (.long q2), .second, iv (2 : Int32), iv (3 : Int32), .unset]) (hb hby own_d4_5) rfl rfl ?_
  refine ow_iload (q := 9) X0 hx (hb hby own_d4_7) rfl rfl ?_
  refine ow_iload (q := 11) X0 hx (hb hby own_d4_9) rfl rfl ?_
  refine ow_icmpNo (q := 14) X0 hx (hb hby own_d4_11) rfl (Jvm.Free.XT.ii_ge_f (by decide)) ?_
  refine ow_iload (q := 16) X0 hx (hb hby own_d4_14) rfl rfl ?_
  refine ow_iload (q := 18) X0 hx (hb hby own_d4_16) rfl rfl ?_
  refine ow_iadd (q := 19) X0 hx (5 : Int32) (hb hby own_d4_18) rfl (by decide) ?_
  refine ow_iconst (q := 20) X0 hx (1 : Int32) (hb hby own_d4_19) rfl rfl ?_
  refine ow_iushr (q := 21) X0 hx (2 : Int32) (hb hby own_d4_20) rfl (by decide) ?_
  refine ow_istore (q := 23) X0 hx (L' := #[rv a0, iv (2 : Int32), .val (.long q2), .second, iv (2 : Int32), iv (3 : Int32), iv (2 : Int32)]) (hb hby own_d4_21) rfl rfl ?_
  refine ow_aloadN (q := 24) X0 hx (hb hby own_d4_23) rfl rfl rfl ?_
  refine ow_iload (q := 26) X0 hx (hb hby own_d4_24) rfl rfl ?_
  refine ownGo (T' := s₁) (f' := (mkF m 27 #[rv a0, iv (2 : Int32), .val (.long q2), .second, iv (2 : Int32), iv (3 : Int32), iv (2 : Int32)] [(.long (g 2))])) (ownLaload HF0 X0 hx hZ e0 (j := (2 : Int32)) (by unfold ownIn; decide) (g := (mkF m 26 #[rv a0, iv (2 : Int32), .val (.long q2), .second, iv (2 : Int32), iv (3 : Int32), iv (2 : Int32)] [(.int (2 : Int32)), (.ref a0)])) rfl rfl (hb hby own_d4_26)) ?_
  generalize hv_v1 : (g 2) = v1
  refine ow_lloadN (q := 28) X0 hx (hb hby own_d4_27) rfl rfl ?_
  refine ow_lcmp (q := 29) X0 hx _ (hb hby own_d4_28) rfl rfl ?_
  by_cases hc29_2 : q2 < v1
  · refine ow_ifNo (q := 32) X0 hx (hb hby own_d4_29) rfl (Jvm.Free.XT.ll_le_f hc29_2) ?_
    refine ow_iload (q := 34) X0 hx (hb hby own_d4_32) rfl rfl ?_
    refine ow_iconst (q := 35) X0 hx (1 : Int32) (hb hby own_d4_34) rfl rfl ?_
    refine ow_iadd (q := 36) X0 hx (3 : Int32) (hb hby own_d4_35) rfl (by decide) ?_
    refine ow_istore (q := 38) X0 hx (L' := #[rv a0, iv (2 : Int32), .val (.long q2), .second, iv (3 : Int32), iv (3 : Int32), iv (2 : Int32)]) (hb hby own_d4_36) rfl rfl ?_
    refine ow_goto (q := 45) X0 hx (hb hby own_d4_38) (by decide) (by decide) ?_
    refine ow_goto (q := 7) X0 hx (hb hby own_d4_45) (by decide) (by decide) ?_
    refine ow_iload (q := 9) X0 hx (hb hby own_d4_7) rfl rfl ?_
    refine ow_iload (q := 11) X0 hx (hb hby own_d4_9) rfl rfl ?_
    refine ow_icmpYes (q := 48) X0 hx (hb hby own_d4_11) (Jvm.Free.XT.ii_ge_t (by decide)) (by decide) (by decide) ?_
    refine ow_iload (q := 50) X0 hx (hb hby own_d4_48) rfl rfl ?_
    refine ownRetI X0 hx Bd.returns (hb hby own_d4_50) hlk (by decide) (by decide) ?_
    subst hv_v1
    rw [e0]
    refine ⟨congrArg (fun q => some (Value.int q)) ?_, N0, rfl⟩
    simp [hc29_2]
  · refine ow_ifYes (q := 41) X0 hx (hb hby own_d4_29) (Jvm.Free.XT.ll_le_t hc29_2) (by decide) (by decide) ?_
    refine ow_iload (q := 43) X0 hx (hb hby own_d4_41) rfl rfl ?_
    refine ow_istore (q := 45) X0 hx (L' := #[rv a0, iv (2 : Int32), .val (.long q2), .second, iv (2 : Int32), iv (2 : Int32), iv (2 : Int32)]) (hb hby own_d4_43) rfl rfl ?_
    refine ow_goto (q := 7) X0 hx (hb hby own_d4_45) (by decide) (by decide) ?_
    refine ow_iload (q := 9) X0 hx (hb hby own_d4_7) rfl rfl ?_
    refine ow_iload (q := 11) X0 hx (hb hby own_d4_9) rfl rfl ?_
    refine ow_icmpYes (q := 48) X0 hx (hb hby own_d4_11) (Jvm.Free.XT.ii_ge_t (by decide)) (by decide) (by decide) ?_
    refine ow_iload (q := 50) X0 hx (hb hby own_d4_48) rfl rfl ?_
    refine ownRetI X0 hx Bd.returns (hb hby own_d4_50) hlk (by decide) (by decide) ?_
    subst hv_v1
    rw [e0]
    refine ⟨congrArg (fun q => some (Value.int q)) ?_, N0, rfl⟩
    simp [hc29_2]
theorem own_ef4_fam_3_3 (m : MethodId) (a0 : Addr) (q2 : Int64) : entryFrame m #[(.ref a0), (.int (3 : Int32)), (.long q2)] 7 = mkF m 0 #[rv a0, iv (3 : Int32), .val (.long q2), .second, .unset, .unset, .unset] [] := by first | (simp [entryFrame, mkF, argsToLocals, Value.category]; done) | rfl
def Q_fam_3_3 (Z : State) (a0 : Addr) (q2 : Int64) (g : Nat → Int64) (h0 : Heap) (n0 : Nat) (v : Option Value) (h : Heap) (L : List Loc) : Prop := v = some (.int (3 : Int32)) ∧ Fr n0 L ∧ h = h0
set_option maxRecDepth 65536 in
set_option maxHeartbeats 40000000 in
theorem rm_fam_3_3 (l : Launch) (Z : State) (a0 : Array Value) (hw : ∀ d ∈ tables_1, d.before a0 Z = true) (ws : List Jvm.Cond) (a0 : Addr) (q2 : Int64) (g : Nat → Int64) (h0 : Heap) (n0 : Nat) (Z0 : n0 ≤ h0.size) (HF0 : ownAJ Z h0 a0 3 g) :
    MetFree l (⟨"com/example/chromabin/chromabin/packing/Packing", "firstAtMost", "([JIJ)I"⟩ : MethodName) (head1 (Jvm.Cond.code (⟨"com/example/chromabin/chromabin/packing/Packing", "firstAtMost", "([JIJ)I"⟩ : MethodName) prog_55_method_3_code 7 (some .int) :: ws) ({ frames := 0, cells := 0, slots := 0, locals := 0 } : Room)) (fun a U => a = #[(.ref a0), (.int (3 : Int32)), (.long q2)] ∧ Z.Warmed39 U.vm ∧ U.heap = h0) (fun _ _ _ _ _ => True) (fun _ U o U' => ∃ v L, o = .returned v ∧ (Q_fam_3_3 Z a0 q2 g h0 n0) v U'.heap L ∧ FrameEnd U o U' L ({ frames := 0, cells := 0, slots := 0, locals := 0 } : Room).cells ({ frames := 0, cells := 0, slots := 0, locals := 0 } : Room).slots) := by
  refine MetFree.of_bodySF (plainFor_of_name own_pn_Packing) hisR ?_
  intro p e s m args below meth c s₁ Bd hml0 hP hK
  obtain ⟨rfl, hZ, hh⟩ := hP
  have hx := Bd.exec
  have hby := Bd.bytes
  have hml : c.maxLocals = 7 := hml0
  have hown : s.vm.findClass "com/example/chromabin/chromabin/packing/Packing" = some m.cls := findClass_of_methodNamed Bd.named
  have hnm := (name_of_methodNamed Bd.named Bd.method).1
  have hlk : meth.locks = false := BodyLoose.notSynchronized Bd
  have X0 : Stand p l e ({ frames := 0, cells := 0, slots := 0, locals := 0 } : Room) s m #[(.ref a0), (.int (3 : Int32)), (.long q2)] below meth c s₁ [] 0 0 := Stand.of_body Bd
  have e0 : s₁.heap = h0 := by rw [← hh, Bd.state]; rfl
  have N0 := Fr.nil n0
  have K0 : Keep h0 h0 [] := Keep.refl _ _
  show ownEnds p e below s (Q_fam_3_3 Z a0 q2 g h0 n0) ({ frames := 0, cells := 0, slots := 0, locals := 0 } : Room).cells ({ frames := 0, cells := 0, slots := 0, locals := 0 } : Room).slots s₁ (entryFrame m #[(.ref a0), (.int (3 : Int32)), (.long q2)] 7)
  refine ownCast (own_ef4_fam_3_3 m a0 q2) ?_
  refine ow_iloadN (q := 1) X0 hx (hb hby own_d4_0) rfl rfl ?_
  refine ow_istore (q := 3) X0 hx (L' := #[rv a0, iv (3 : Int32), .val (.long q2), .second, iv (3 : Int32), .unset, .unset]) (hb hby own_d4_1) rfl rfl ?_
  refine ow_aloadN (q := 4) X0 hx (hb hby own_d4_3) rfl rfl rfl ?_
  refine ownGo (T' := s₁) (f' := (mkF m 5 #[rv a0, iv (3 : Int32), .val (.long q2), .second, iv (3 : Int32), .unset, .unset] [(.int (3 : Int32))])) (ownLenJ HF0 X0 hx hZ e0 (z := (3 : Int32)) (by decide) (g := (mkF m 4 #[rv a0, iv (3 : Int32), .val (.long q2), .second, iv (3 : Int32), .unset, .unset] [(.ref a0)])) rfl rfl (hb hby own_d4_4)) ?_
  refine ow_istore (q := 7) X0 hx (L' := #[rv a0, iv (3 : Int32), .val (.long q2), .second, iv (3 : Int32), iv (3 : Int32), .unset]) (hb hby own_d4_5) rfl rfl ?_
  refine ow_iload (q := 9) X0 hx (hb hby own_d4_7) rfl rfl ?_
  refine ow_iload (q := 11) X0 hx (hb hby own_d4_9) rfl rfl ?_
  refine ow_icmpYes (q := 48) X0 hx (hb hby own_d4_11) (Jvm.Free.XT.ii_ge_t (by decide)) (by decide) (by decide) ?_
  refine ow_iload (q := 50) X0 hx (hb hby own_d4_48) rfl rfl ?_
  refine ownRetI X0 hx Bd.returns (hb hby own_d4_50) hlk (by decide) (by decide) ?_
  rw [e0]
  exact ⟨rfl, N0, rfl⟩
theorem own_ef4_fam_4_0 (m : MethodId) (a0 : Addr) (q2 : Int64) : entryFrame m #[(.ref a0), (.int (0 : Int32)), (.long q2)] 7 = mkF m 0 #[rv a0, iv (0 : Int32), .val (.long q2), .second, .unset, .unset, .unset] [] := by first | (simp [entryFrame, mkF, argsToLocals, Value.category]; done) | rfl
def Q_fam_4_0 (Z : State) (a0 : Addr) (q2 : Int64) (g : Nat → Int64) (h0 : Heap) (n0 : Nat) (v : Option Value) (h : Heap) (L : List Loc) : Prop := v = some (.int (if q2 < g 2 then (if q2 < g 3 then (4 : Int32) else (3 : Int32)) else (if q2 < g 1 then (2 : Int32) else (if q2 < g 0 then (1 : Int32) else (0 : Int32))))) ∧ Fr n0 L ∧ h = h0
set_option maxRecDepth 65536 in
set_option maxHeartbeats 40000000 in
theorem rm_fam_4_0 (l : Launch) (Z : State) (a0 : Array Value) (hw : ∀ d ∈ tables_1, d.before a0 Z = true) (ws : List Jvm.Cond) (a0 : Addr) (q2 : Int64) (g : Nat → Int64) (h0 : Heap) (n0 : Nat) (Z0 : n0 ≤ h0.size) (HF0 : ownAJ Z h0 a0 4 g) :
    MetFree l (⟨"com/example/chromabin/chromabin/packing/Packing", "firstAtMost", "([JIJ)I"⟩ : MethodName) (head1 (Jvm.Cond.code (⟨"com/example/chromabin/chromabin/packing/Packing", "firstAtMost", "([JIJ)I"⟩ : MethodName) prog_55_method_3_code 7 (some .int) :: ws) ({ frames := 0, cells := 0, slots := 0, locals := 0 } : Room)) (fun a U => a = #[(.ref a0), (.int (0 : Int32)), (.long q2)] ∧ Z.Warmed39 U.vm ∧ U.heap = h0) (fun _ _ _ _ _ => True) (fun _ U o U' => ∃ v L, o = .returned v ∧ (Q_fam_4_0 Z a0 q2 g h0 n0) v U'.heap L ∧ FrameEnd U o U' L ({ frames := 0, cells := 0, slots := 0, locals := 0 } : Room).cells ({ frames := 0, cells := 0, slots := 0, locals := 0 } : Room).slots) := by
  refine MetFree.of_bodySF (plainFor_of_name own_pn_Packing) hisR ?_
  intro p e s m args below meth c s₁ Bd hml0 hP hK
  obtain ⟨rfl, hZ, hh⟩ := hP
  have hx := Bd.exec
  have hby := Bd.bytes
  have hml : c.maxLocals = 7 := hml0
  have hown : s.vm.findClass "com/example/chromabin/chromabin/packing/Packing" = some m.cls := findClass_of_methodNamed Bd.named
  have hnm := (name_of_methodNamed Bd.named Bd.method).1
  have hlk : meth.locks = false := BodyLoose.notSynchronized Bd
  have X0 : Stand p l e ({ frames := 0, cells := 0, slots := 0, locals := 0 } : Room) s m #[(.ref a0), (.int (0 : Int32)), (.long q2)] below meth c s₁ [] 0 0 := Stand.of_body Bd
  have e0 : s₁.heap = h0 := by rw [← hh, Bd.state]; rfl
  have N0 := Fr.nil n0
  have K0 : Keep h0 h0 [] := Keep.refl _ _
  show ownEnds p e below s (Q_fam_4_0 Z a0 q2 g h0 n0) ({ frames := 0, cells := 0, slots := 0, locals := 0 } : Room).cells ({ frames := 0, cells := 0, slots := 0, locals := 0 } : Room).slots s₁ (entryFrame m #[(.ref a0), (.int (0 : Int32)), (.long q2)] 7)
  refine ownCast (own_ef4_fam_4_0 m a0 q2) ?_
  refine ow_iloadN (q := 1) X0 hx (hb hby own_d4_0) rfl rfl ?_
  refine ow_istore (q := 3) X0 hx (L' := #[rv a0, iv (0 : Int32), .val (.long q2), .second, iv (0 : Int32), .unset, .unset]) (hb hby own_d4_1) rfl rfl ?_
  refine ow_aloadN (q := 4) X0 hx (hb hby own_d4_3) rfl rfl rfl ?_
  refine ownGo (T' := s₁) (f' := (mkF m 5 #[rv a0, iv (0 : Int32), .val (.long q2), .second, iv (0 : Int32), .unset, .unset] [(.int (4 : Int32))])) (ownLenJ HF0 X0 hx hZ e0 (z := (4 : Int32)) (by decide) (g := (mkF m 4 #[rv a0, iv (0 : Int32), .val (.long q2), .second, iv (0 : Int32), .unset, .unset] [(.ref a0)])) rfl rfl (hb hby own_d4_4)) ?_
  refine ow_istore (q := 7) X0 hx (L' := #[rv a0, iv (0 : Int32), .val (.long q2), .second, iv (0 : Int32), iv (4 : Int32), .unset]) (hb hby own_d4_5) rfl rfl ?_
  refine ow_iload (q := 9) X0 hx (hb hby own_d4_7) rfl rfl ?_
  refine ow_iload (q := 11) X0 hx (hb hby own_d4_9) rfl rfl ?_
  refine ow_icmpNo (q := 14) X0 hx (hb hby own_d4_11) rfl (Jvm.Free.XT.ii_ge_f (by decide)) ?_
  refine ow_iload (q := 16) X0 hx (hb hby own_d4_14) rfl rfl ?_
  refine ow_iload (q := 18) X0 hx (hb hby own_d4_16) rfl rfl ?_
  refine ow_iadd (q := 19) X0 hx (4 : Int32) (hb hby own_d4_18) rfl (by decide) ?_
  refine ow_iconst (q := 20) X0 hx (1 : Int32) (hb hby own_d4_19) rfl rfl ?_
  refine ow_iushr (q := 21) X0 hx (2 : Int32) (hb hby own_d4_20) rfl (by decide) ?_
  refine ow_istore (q := 23) X0 hx (L' := #[rv a0, iv (0 : Int32), .val (.long q2), .second, iv (0 : Int32), iv (4 : Int32), iv (2 : Int32)]) (hb hby own_d4_21) rfl rfl ?_
  refine ow_aloadN (q := 24) X0 hx (hb hby own_d4_23) rfl rfl rfl ?_
  refine ow_iload (q := 26) X0 hx (hb hby own_d4_24) rfl rfl ?_
  refine ownGo (T' := s₁) (f' := (mkF m 27 #[rv a0, iv (0 : Int32), .val (.long q2), .second, iv (0 : Int32), iv (4 : Int32), iv (2 : Int32)] [(.long (g 2))])) (ownLaload HF0 X0 hx hZ e0 (j := (2 : Int32)) (by unfold ownIn; decide) (g := (mkF m 26 #[rv a0, iv (0 : Int32), .val (.long q2), .second, iv (0 : Int32), iv (4 : Int32), iv (2 : Int32)] [(.int (2 : Int32)), (.ref a0)])) rfl rfl (hb hby own_d4_26)) ?_
  generalize hv_v1 : (g 2) = v1
  refine ow_lloadN (q := 28) X0 hx (hb hby own_d4_27) rfl rfl ?_
  refine ow_lcmp (q := 29) X0 hx _ (hb hby own_d4_28) rfl rfl ?_
  by_cases hc29_2 : q2 < v1
  · refine ow_ifNo (q := 32) X0 hx (hb hby own_d4_29) rfl (Jvm.Free.XT.ll_le_f hc29_2) ?_
    refine ow_iload (q := 34) X0 hx (hb hby own_d4_32) rfl rfl ?_
    refine ow_iconst (q := 35) X0 hx (1 : Int32) (hb hby own_d4_34) rfl rfl ?_
    refine ow_iadd (q := 36) X0 hx (3 : Int32) (hb hby own_d4_35) rfl (by decide) ?_
    refine ow_istore (q := 38) X0 hx (L' := #[rv a0, iv (0 : Int32), .val (.long q2), .second, iv (3 : Int32), iv (4 : Int32), iv (2 : Int32)]) (hb hby own_d4_36) rfl rfl ?_
    refine ow_goto (q := 45) X0 hx (hb hby own_d4_38) (by decide) (by decide) ?_
    refine ow_goto (q := 7) X0 hx (hb hby own_d4_45) (by decide) (by decide) ?_
    refine ow_iload (q := 9) X0 hx (hb hby own_d4_7) rfl rfl ?_
    refine ow_iload (q := 11) X0 hx (hb hby own_d4_9) rfl rfl ?_
    refine ow_icmpNo (q := 14) X0 hx (hb hby own_d4_11) rfl (Jvm.Free.XT.ii_ge_f (by decide)) ?_
    refine ow_iload (q := 16) X0 hx (hb hby own_d4_14) rfl rfl ?_
    refine ow_iload (q := 18) X0 hx (hb hby own_d4_16) rfl rfl ?_
    refine ow_iadd (q := 19) X0 hx (7 : Int32) (hb hby own_d4_18) rfl (by decide) ?_
    refine ow_iconst (q := 20) X0 hx (1 : Int32) (hb hby own_d4_19) rfl rfl ?_
    refine ow_iushr (q := 21) X0 hx (3 : Int32) (hb hby own_d4_20) rfl (by decide) ?_
    refine ow_istore (q := 23) X0 hx (L' := #[rv a0, iv (0 : Int32), .val (.long q2), .second, iv (3 : Int32), iv (4 : Int32), iv (3 : Int32)]) (hb hby own_d4_21) rfl rfl ?_
    refine ow_aloadN (q := 24) X0 hx (hb hby own_d4_23) rfl rfl rfl ?_
    refine ow_iload (q := 26) X0 hx (hb hby own_d4_24) rfl rfl ?_
    refine ownGo (T' := s₁) (f' := (mkF m 27 #[rv a0, iv (0 : Int32), .val (.long q2), .second, iv (3 : Int32), iv (4 : Int32), iv (3 : Int32)] [(.long (g 3))])) (ownLaload HF0 X0 hx hZ e0 (j := (3 : Int32)) (by unfold ownIn; decide) (g := (mkF m 26 #[rv a0, iv (0 : Int32), .val (.long q2), .second, iv (3 : Int32), iv (4 : Int32), iv (3 : Int32)] [(.int (3 : Int32)), (.ref a0)])) rfl rfl (hb hby own_d4_26)) ?_
    generalize hv_v3 : (g 3) = v3
    refine ow_lloadN (q := 28) X0 hx (hb hby own_d4_27) rfl rfl ?_
    refine ow_lcmp (q := 29) X0 hx _ (hb hby own_d4_28) rfl rfl ?_
    by_cases hc29_4 : q2 < v3
    · refine ow_ifNo (q := 32) X0 hx (hb hby own_d4_29) rfl (Jvm.Free.XT.ll_le_f hc29_4) ?_
      refine ow_iload (q := 34) X0 hx (hb hby own_d4_32) rfl rfl ?_
      refine ow_iconst (q := 35) X0 hx (1 : Int32) (hb hby own_d4_34) rfl rfl ?_
      refine ow_iadd (q := 36) X0 hx (4 : Int32) (hb hby own_d4_35) rfl (by decide) ?_
      refine ow_istore (q := 38) X0 hx (L' := #[rv a0, iv (0 : Int32), .val (.long q2), .second, iv (4 : Int32), iv (4 : Int32), iv (3 : Int32)]) (hb hby own_d4_36) rfl rfl ?_
      refine ow_goto (q := 45) X0 hx (hb hby own_d4_38) (by decide) (by decide) ?_
      refine ow_goto (q := 7) X0 hx (hb hby own_d4_45) (by decide) (by decide) ?_
      refine ow_iload (q := 9) X0 hx (hb hby own_d4_7) rfl rfl ?_
      refine ow_iload (q := 11) X0 hx (hb hby own_d4_9) rfl rfl ?_
      refine ow_icmpYes (q := 48) X0 hx (hb hby own_d4_11) (Jvm.Free.XT.ii_ge_t (by decide)) (by decide) (by decide) ?_
      refine ow_iload (q := 50) X0 hx (hb hby own_d4_48) rfl rfl ?_
      refine ownRetI X0 hx Bd.returns (hb hby own_d4_50) hlk (by decide) (by decide) ?_
      subst hv_v3 hv_v1
      rw [e0]
      refine ⟨congrArg (fun q => some (Value.int q)) ?_, N0, rfl⟩
      simp [hc29_2, hc29_4]
    · refine ow_ifYes (q := 41) X0 hx (hb hby own_d4_29) (Jvm.Free.XT.ll_le_t hc29_4) (by decide) (by decide) ?_
      refine ow_iload (q := 43) X0 hx (hb hby own_d4_41) rfl rfl ?_
      refine ow_istore (q := 45) X0 hx (L' := #[rv a0, iv (0 : Int32), .val (.long q2), .second, iv (3 : Int32), iv (3 : Int32), iv (3 : Int32)]) (hb hby own_d4_43) rfl rfl ?_
      refine ow_goto (q := 7) X0 hx (hb hby own_d4_45) (by decide) (by decide) ?_
      refine ow_iload (q := 9) X0 hx (hb hby own_d4_7) rfl rfl ?_
      refine ow_iload (q := 11) X0 hx (hb hby own_d4_9) rfl rfl ?_
      refine ow_icmpYes (q := 48) X0 hx (hb hby own_d4_11) (Jvm.Free.XT.ii_ge_t (by decide)) (by decide) (by decide) ?_
      refine ow_iload (q := 50) X0 hx (hb hby own_d4_48) rfl rfl ?_
      refine ownRetI X0 hx Bd.returns (hb hby own_d4_50) hlk (by decide) (by decide) ?_
      subst hv_v3 hv_v1
      rw [e0]
      refine ⟨congrArg (fun q => some (Value.int q)) ?_, N0, rfl⟩
      simp [hc29_2, hc29_4]
  · refine ow_ifYes (q := 41) X0 hx (hb hby own_d4_29) (Jvm.Free.XT.ll_le_t hc29_2) (by decide) (by decide) ?_
    refine ow_iload (q := 43) X0 hx (hb hby own_d4_41) rfl rfl ?_
    refine ow_istore (q := 45) X0 hx (L' := #[rv a0, iv (0 : Int32), .val (.long q2), .second, iv (0 : Int32), iv (2 : Int32), iv (2 : Int32)]) (hb hby own_d4_43) rfl rfl ?_
    refine ow_goto (q := 7) X0 hx (hb hby own_d4_45) (by decide) (by decide) ?_
    refine ow_iload (q := 9) X0 hx (hb hby own_d4_7) rfl rfl ?_
    refine ow_iload (q := 11) X0 hx (hb hby own_d4_9) rfl rfl ?_
    refine ow_icmpNo (q := 14) X0 hx (hb hby own_d4_11) rfl (Jvm.Free.XT.ii_ge_f (by decide)) ?_
    refine ow_iload (q := 16) X0 hx (hb hby own_d4_14) rfl rfl ?_
    refine ow_iload (q := 18) X0 hx (hb hby own_d4_16) rfl rfl ?_
    refine ow_iadd (q := 19) X0 hx (2 : Int32) (hb hby own_d4_18) rfl (by decide) ?_
    refine ow_iconst (q := 20) X0 hx (1 : Int32) (hb hby own_d4_19) rfl rfl ?_
    refine ow_iushr (q := 21) X0 hx (1 : Int32) (hb hby own_d4_20) rfl (by decide) ?_
    refine ow_istore (q := 23) X0 hx (L' := #[rv a0, iv (0 : Int32), .val (.long q2), .second, iv (0 : Int32), iv (2 : Int32), iv (1 : Int32)]) (hb hby own_d4_21) rfl rfl ?_
    refine ow_aloadN (q := 24) X0 hx (hb hby own_d4_23) rfl rfl rfl ?_
    refine ow_iload (q := 26) X0 hx (hb hby own_d4_24) rfl rfl ?_
    refine ownGo (T' := s₁) (f' := (mkF m 27 #[rv a0, iv (0 : Int32), .val (.long q2), .second, iv (0 : Int32), iv (2 : Int32), iv (1 : Int32)] [(.long (g 1))])) (ownLaload HF0 X0 hx hZ e0 (j := (1 : Int32)) (by unfold ownIn; decide) (g := (mkF m 26 #[rv a0, iv (0 : Int32), .val (.long q2), .second, iv (0 : Int32), iv (2 : Int32), iv (1 : Int32)] [(.int (1 : Int32)), (.ref a0)])) rfl rfl (hb hby own_d4_26)) ?_
    generalize hv_v5 : (g 1) = v5
    refine ow_lloadN (q := 28) X0 hx (hb hby own_d4_27) rfl rfl ?_
    refine ow_lcmp (q := 29) X0 hx _ (hb hby own_d4_28) rfl rfl ?_
    by_cases hc29_6 : q2 < v5
    · refine ow_ifNo (q := 32) X0 hx (hb hby own_d4_29) rfl (Jvm.Free.XT.ll_le_f hc29_6) ?_
      refine ow_iload (q := 34) X0 hx (hb hby own_d4_32) rfl rfl ?_
      refine ow_iconst (q := 35) X0 hx (1 : Int32) (hb hby own_d4_34) rfl rfl ?_
      refine ow_iadd (q := 36) X0 hx (2 : Int32) (hb hby own_d4_35) rfl (by decide) ?_
      refine ow_istore (q := 38) X0 hx (L' := #[rv a0, iv (0 : Int32), .val (.long q2), .second, iv (2 : Int32), iv (2 : Int32), iv (1 : Int32)]) (hb hby own_d4_36) rfl rfl ?_
      refine ow_goto (q := 45) X0 hx (hb hby own_d4_38) (by decide) (by decide) ?_
      refine ow_goto (q := 7) X0 hx (hb hby own_d4_45) (by decide) (by decide) ?_
      refine ow_iload (q := 9) X0 hx (hb hby own_d4_7) rfl rfl ?_
      refine ow_iload (q := 11) X0 hx (hb hby own_d4_9) rfl rfl ?_
      refine ow_icmpYes (q := 48) X0 hx (hb hby own_d4_11) (Jvm.Free.XT.ii_ge_t (by decide)) (by decide) (by decide) ?_
      refine ow_iload (q := 50) X0 hx (hb hby own_d4_48) rfl rfl ?_
      refine ownRetI X0 hx Bd.returns (hb hby own_d4_50) hlk (by decide) (by decide) ?_
      subst hv_v5 hv_v1
      rw [e0]
      refine ⟨congrArg (fun q => some (Value.int q)) ?_, N0, rfl⟩
      simp [hc29_2, hc29_6]
    · refine ow_ifYes (q := 41) X0 hx (hb hby own_d4_29) (Jvm.Free.XT.ll_le_t hc29_6) (by decide) (by decide) ?_
      refine ow_iload (q := 43) X0 hx (hb hby own_d4_41) rfl rfl ?_
      refine ow_istore (q := 45) X0 hx (L' := #[rv a0, iv (0 : Int32), .val (.long q2), .second, iv (0 : Int32), iv (1 : Int32), iv (1 : Int32)]) (hb hby own_d4_43) rfl rfl ?_
      refine ow_goto (q := 7) X0 hx (hb hby own_d4_45) (by decide) (by decide) ?_
      refine ow_iload (q := 9) X0 hx (hb hby own_d4_7) rfl rfl ?_
      refine ow_iload (q := 11) X0 hx (hb hby own_d4_9) rfl rfl ?_
      refine ow_icmpNo (q := 14) X0 hx (hb hby own_d4_11) rfl (Jvm.Free.XT.ii_ge_f (by decide)) ?_
      refine ow_iload (q := 16) X0 hx (hb hby own_d4_14) rfl rfl ?_
      refine ow_iload (q := 18) X0 hx (hb hby own_d4_16) rfl rfl ?_
      refine ow_iadd (q := 19) X0 hx (1 : Int32) (hb hby own_d4_18) rfl (by decide) ?_
      refine ow_iconst (q := 20) X0 hx (1 : Int32) (hb hby own_d4_19) rfl rfl ?_
      refine ow_iushr (q := 21) X0 hx (0 : Int32) (hb hby own_d4_20) rfl (by decide) ?_
      refine ow_istore (q := 23) X0 hx (L' := #[rv a0, iv (0 : Int32), .val (.long q2), .second, iv (0 : Int32), iv (1 : Int32), iv (0 : Int32)]) (hb hby own_d4_21) rfl rfl ?_
      refine ow_aloadN (q := 24) X0 hx (hb hby own_d4_23) rfl rfl rfl ?_
      refine ow_iload (q := 26) X0 hx (hb hby own_d4_24) rfl rfl ?_
      refine ownGo (T' := s₁) (f' := (mkF m 27 #[rv a0, iv (0 : Int32), .val (.long q2), .second, iv (0 : Int32), iv (1 : Int32), iv (0 : Int32)] [(.long (g 0))])) (ownLaload HF0 X0 hx hZ e0 (j := (0 : Int32)) (by unfold ownIn; decide) (g := (mkF m 26 #[rv a0, iv (0 : Int32), .val (.long q2), .second, iv (0 : Int32), iv (1 : Int32), iv (0 : Int32)] [(.int (0 : Int32)), (.ref a0)])) rfl rfl (hb hby own_d4_26)) ?_
      generalize hv_v7 : (g 0) = v7
      refine ow_lloadN (q := 28) X0 hx (hb hby own_d4_27) rfl rfl ?_
      refine ow_lcmp (q := 29) X0 hx _ (hb hby own_d4_28) rfl rfl ?_
      by_cases hc29_8 : q2 < v7
      · refine ow_ifNo (q := 32) X0 hx (hb hby own_d4_29) rfl (Jvm.Free.XT.ll_le_f hc29_8) ?_
        refine ow_iload (q := 34) X0 hx (hb hby own_d4_32) rfl rfl ?_
        refine ow_iconst (q := 35) X0 hx (1 : Int32) (hb hby own_d4_34) rfl rfl ?_
        refine ow_iadd (q := 36) X0 hx (1 : Int32) (hb hby own_d4_35) rfl (by decide) ?_
        refine ow_istore (q := 38) X0 hx (L' := #[rv a0, iv (0 : Int32), .val (.long q2), .second, iv (1 : Int32), iv (1 : Int32), iv (0 : Int32)]) (hb hby own_d4_36) rfl rfl ?_
        refine ow_goto (q := 45) X0 hx (hb hby own_d4_38) (by decide) (by decide) ?_
        refine ow_goto (q := 7) X0 hx (hb hby own_d4_45) (by decide) (by decide) ?_
        refine ow_iload (q := 9) X0 hx (hb hby own_d4_7) rfl rfl ?_
        refine ow_iload (q := 11) X0 hx (hb hby own_d4_9) rfl rfl ?_
        refine ow_icmpYes (q := 48) X0 hx (hb hby own_d4_11) (Jvm.Free.XT.ii_ge_t (by decide)) (by decide) (by decide) ?_
        refine ow_iload (q := 50) X0 hx (hb hby own_d4_48) rfl rfl ?_
        refine ownRetI X0 hx Bd.returns (hb hby own_d4_50) hlk (by decide) (by decide) ?_
        subst hv_v7 hv_v5 hv_v1
        rw [e0]
        refine ⟨congrArg (fun q => some (Value.int q)) ?_, N0, rfl⟩
        simp [hc29_2, hc29_6, hc29_8]
      · refine ow_ifYes (q := 41) X0 hx (hb hby own_d4_29) (Jvm.Free.XT.ll_le_t hc29_8) (by decide) (by decide) ?_
        refine ow_iload (q := 43) X0 hx (hb hby own_d4_41) rfl rfl ?_
        refine ow_istore (q := 45) X0 hx (L' := #[rv a0, iv (0 : Int32), .val (.long q2), .second, iv (0 : Int32), iv (0 : Int32), iv (0 : Int32)]) (hb hby own_d4_43) rfl rfl ?_
        refine ow_goto (q := 7) X0 hx (hb hby own_d4_45) (by decide) (by decide) ?_
        refine ow_iload (q := 9) X0 hx (hb hby own_d4_7) rfl rfl ?_
        refine ow_iload (q := 11) X0 hx (hb hby own_d4_9) rfl rfl ?_
        refine ow_icmpYes (q := 48) X0 hx (hb hby own_d4_11) (Jvm.Free.XT.ii_ge_t (by decide)) (by decide) (by decide) ?_
        refine ow_iload (q := 50) X0 hx (hb hby own_d4_48) rfl rfl ?_
        refine ownRetI X0 hx Bd.returns (hb hby own_d4_50) hlk (by decide) (by decide) ?_
        subst hv_v7 hv_v5 hv_v1
        rw [e0]
        refine ⟨congrArg (fun q => some (Value.int q)) ?_, N0, rfl⟩
        simp [hc29_2, hc29_6, hc29_8]
theorem own_ef4_fam_4_1 (m : MethodId) (a0 : Addr) (q2 : Int64) : entryFrame m #[(.ref a0), (.int (1 : Int32)), (.long q2)] 7 = mkF m 0 #[rv a0, iv (1 : Int32), .val (.long q2), .second, .unset, .unset, .unset] [] := by first | (simp [entryFrame, mkF, argsToLocals, Value.category]; done) | rfl
def Q_fam_4_1 (Z : State) (a0 : Addr) (q2 : Int64) (g : Nat → Int64) (h0 : Heap) (n0 : Nat) (v : Option Value) (h : Heap) (L : List Loc) : Prop := v = some (.int (if q2 < g 2 then (if q2 < g 3 then (4 : Int32) else (3 : Int32)) else (if q2 < g 1 then (2 : Int32) else (1 : Int32)))) ∧ Fr n0 L ∧ h = h0
set_option maxRecDepth 65536 in
set_option maxHeartbeats 40000000 in
theorem rm_fam_4_1 (l : Launch) (Z : State) (a0 : Array Value) (hw : ∀ d ∈ tables_1, d.before a0 Z = true) (ws : List Jvm.Cond) (a0 : Addr) (q2 : Int64) (g : Nat → Int64) (h0 : Heap) (n0 : Nat) (Z0 : n0 ≤ h0.size) (HF0 : ownAJ Z h0 a0 4 g) :
    MetFree l (⟨"com/example/chromabin/chromabin/packing/Packing", "firstAtMost", "([JIJ)I"⟩ : MethodName) (head1 (Jvm.Cond.code (⟨"com/example/chromabin/chromabin/packing/Packing", "firstAtMost", "([JIJ)I"⟩ : MethodName) prog_55_method_3_code 7 (some .int) :: ws) ({ frames := 0, cells := 0, slots := 0, locals := 0 } : Room)) (fun a U => a = #[(.ref a0), (.int (1 : Int32)), (.long q2)] ∧ Z.Warmed39 U.vm ∧ U.heap = h0) (fun _ _ _ _ _ => True) (fun _ U o U' => ∃ v L, o = .returned v ∧ (Q_fam_4_1 Z a0 q2 g h0 n0) v U'.heap L ∧ FrameEnd U o U' L ({ frames := 0, cells := 0, slots := 0, locals := 0 } : Room).cells ({ frames := 0, cells := 0, slots := 0, locals := 0 } : Room).slots) := by
  refine MetFree.of_bodySF (plainFor_of_name own_pn_Packing) hisR ?_
  intro p e s m args below meth c s₁ Bd hml0 hP hK
  obtain ⟨rfl, hZ, hh⟩ := hP
  have hx := Bd.exec
  have hby := Bd.bytes
  have hml : c.maxLocals = 7 := hml0
  have hown : s.vm.findClass "com/example/chromabin/chromabin/packing/Packing" = some m.cls := findClass_of_methodNamed Bd.named
  have hnm := (name_of_methodNamed Bd.named Bd.method).1
  have hlk : meth.locks = false := BodyLoose.notSynchronized Bd
  have X0 : Stand p l e ({ frames := 0, cells := 0, slots := 0, locals := 0 } : Room) s m #[(.ref a0), (.int (1 : Int32)), (.long q2)] below meth c s₁ [] 0 0 := Stand.of_body Bd
  have e0 : s₁.heap = h0 := by rw [← hh, Bd.state]; rfl
  have N0 := Fr.nil n0
  have K0 : Keep h0 h0 [] := Keep.refl _ _
  show ownEnds p e below s (Q_fam_4_1 Z a0 q2 g h0 n0) ({ frames := 0, cells := 0, slots := 0, locals := 0 } : Room).cells ({ frames := 0, cells := 0, slots := 0, locals := 0 } : Room).slots s₁ (entryFrame m #[(.ref a0), (.int (1 : Int32)), (.long q2)] 7)
  refine ownCast (own_ef4_fam_4_1 m a0 q2) ?_
  refine ow_iloadN (q := 1) X0 hx (hb hby own_d4_0) rfl rfl ?_
  refine ow_istore (q := 3) X0 hx (L' := #[rv a0, iv (1 : Int32), .val (.long q2), .second, iv (1 : Int32), .unset, .unset]) (hb hby own_d4_1) rfl rfl ?_
  refine ow_aloadN (q := 4) X0 hx (hb hby own_d4_3) rfl rfl rfl ?_
  refine ownGo (T' := s₁) (f' := (mkF m 5 #[rv a0, iv (1 : Int32), .val (.long q2), .second, iv (1 : Int32), .unset, .unset] [(.int (4 : Int32))])) (ownLenJ HF0 X0 hx hZ e0 (z := (4 : Int32)) (by decide) (g := (mkF m 4 #[rv a0, iv (1 : Int32), .val (.long q2), .second, iv (1 : Int32), .unset, .unset] [(.ref a0)])) rfl rfl (hb hby own_d4_4)) ?_
  refine ow_istore (q := 7) X0 hx (L' := #[rv a0, iv (1 : Int32), .val (.long q2), .second, iv (1 : Int32), iv (4 : Int32), .unset]) (hb hby own_d4_5) rfl rfl ?_
  refine ow_iload (q := 9) X0 hx (hb hby own_d4_7) rfl rfl ?_
  refine ow_iload (q := 11) X0 hx (hb hby own_d4_9) rfl rfl ?_
  refine ow_icmpNo (q := 14) X0 hx (hb hby own_d4_11) rfl (Jvm.Free.XT.ii_ge_f (by decide)) ?_
  refine ow_iload (q := 16) X0 hx (hb hby own_d4_14) rfl rfl ?_
  refine ow_iload (q := 18) X0 hx (hb hby own_d4_16) rfl rfl ?_
  refine ow_iadd (q := 19) X0 hx (5 : Int32) (hb hby own_d4_18) rfl (by decide) ?_
  refine ow_iconst (q := 20) X0 hx (1 : Int32) (hb hby own_d4_19) rfl rfl ?_
  refine ow_iushr (q := 21) X0 hx (2 : Int32) (hb hby own_d4_20) rfl (by decide) ?_
  refine ow_istore (q := 23) X0 hx (L' := #[rv a0, iv (1 : Int32), .val (.long q2), .second, iv (1 : Int32), iv (4 : Int32), iv (2 : Int32)]) (hb hby own_d4_21) rfl rfl ?_
  refine ow_aloadN (q := 24) X0 hx (hb hby own_d4_23) rfl rfl rfl ?_
  refine ow_iload (q := 26) X0 hx (hb hby own_d4_24) rfl rfl ?_
  refine ownGo (T' := s₁) (f' := (mkF m 27 #[rv a0, iv (1 : Int32), .val (.long q2), .second, iv (1 : Int32), iv (4 : Int32), iv (2 : Int32)] [(.long (g 2))])) (ownLaload HF0 X0 hx hZ e0 (j := (2 : Int32)) (by unfold ownIn; decide) (g := (mkF m 26 #[rv a0, iv (1 : Int32), .val (.long q2), .second, iv (1 : Int32), iv (4 : Int32), iv (2 : Int32)] [(.int (2 : Int32)), (.ref a0)])) rfl rfl (hb hby own_d4_26)) ?_
  generalize hv_v1 : (g 2) = v1
  refine ow_lloadN (q := 28) X0 hx (hb hby own_d4_27) rfl rfl ?_
  refine ow_lcmp (q := 29) X0 hx _ (hb hby own_d4_28) rfl rfl ?_
  by_cases hc29_2 : q2 < v1
  · refine ow_ifNo (q := 32) X0 hx (hb hby own_d4_29) rfl (Jvm.Free.XT.ll_le_f hc29_2) ?_
    refine ow_iload (q := 34) X0 hx (hb hby own_d4_32) rfl rfl ?_
    refine ow_iconst (q := 35) X0 hx (1 : Int32) (hb hby own_d4_34) rfl rfl ?_
    refine ow_iadd (q := 36) X0 hx (3 : Int32) (hb hby own_d4_35) rfl (by decide) ?_
    refine ow_istore (q := 38) X0 hx (L' := #[rv a0, iv (1 : Int32), .val (.long q2), .second, iv (3 : Int32), iv (4 : Int32), iv (2 : Int32)]) (hb hby own_d4_36) rfl rfl ?_
    refine ow_goto (q := 45) X0 hx (hb hby own_d4_38) (by decide) (by decide) ?_
    refine ow_goto (q := 7) X0 hx (hb hby own_d4_45) (by decide) (by decide) ?_
    refine ow_iload (q := 9) X0 hx (hb hby own_d4_7) rfl rfl ?_
    refine ow_iload (q := 11) X0 hx (hb hby own_d4_9) rfl rfl ?_
    refine ow_icmpNo (q := 14) X0 hx (hb hby own_d4_11) rfl (Jvm.Free.XT.ii_ge_f (by decide)) ?_
    refine ow_iload (q := 16) X0 hx (hb hby own_d4_14) rfl rfl ?_
    refine ow_iload (q := 18) X0 hx (hb hby own_d4_16) rfl rfl ?_
    refine ow_iadd (q := 19) X0 hx (7 : Int32) (hb hby own_d4_18) rfl (by decide) ?_
    refine ow_iconst (q := 20) X0 hx (1 : Int32) (hb hby own_d4_19) rfl rfl ?_
    refine ow_iushr (q := 21) X0 hx (3 : Int32) (hb hby own_d4_20) rfl (by decide) ?_
    refine ow_istore (q := 23) X0 hx (L' := #[rv a0, iv (1 : Int32), .val (.long q2), .second, iv (3 : Int32), iv (4 : Int32), iv (3 : Int32)]) (hb hby own_d4_21) rfl rfl ?_
    refine ow_aloadN (q := 24) X0 hx (hb hby own_d4_23) rfl rfl rfl ?_
    refine ow_iload (q := 26) X0 hx (hb hby own_d4_24) rfl rfl ?_
    refine ownGo (T' := s₁) (f' := (mkF m 27 #[rv a0, iv (1 : Int32), .val (.long q2), .second, iv (3 : Int32), iv (4 : Int32), iv (3 : Int32)] [(.long (g 3))])) (ownLaload HF0 X0 hx hZ e0 (j := (3 : Int32)) (by unfold ownIn; decide) (g := (mkF m 26 #[rv a0, iv (1 : Int32), .val (.long q2), .second, iv (3 : Int32), iv (4 : Int32), iv (3 : Int32)] [(.int (3 : Int32)), (.ref a0)])) rfl rfl (hb hby own_d4_26)) ?_
    generalize hv_v3 : (g 3) = v3
    refine ow_lloadN (q := 28) X0 hx (hb hby own_d4_27) rfl rfl ?_
    refine ow_lcmp (q := 29) X0 hx _ (hb hby own_d4_28) rfl rfl ?_
    by_cases hc29_4 : q2 < v3
    · refine ow_ifNo (q := 32) X0 hx (hb hby own_d4_29) rfl (Jvm.Free.XT.ll_le_f hc29_4) ?_
      refine ow_iload (q := 34) X0 hx (hb hby own_d4_32) rfl rfl ?_
      refine ow_iconst (q := 35) X0 hx (1 : Int32) (hb hby own_d4_34) rfl rfl ?_
      refine ow_iadd (q := 36) X0 hx (4 : Int32) (hb hby own_d4_35) rfl (by decide) ?_
      refine ow_istore (q := 38) X0 hx (L' := #[rv a0, iv (1 : Int32), .val (.long q2), .second, iv (4 : Int32), iv (4 : Int32), iv (3 : Int32)]) (hb hby own_d4_36) rfl rfl ?_
      refine ow_goto (q := 45) X0 hx (hb hby own_d4_38) (by decide) (by decide) ?_
      refine ow_goto (q := 7) X0 hx (hb hby own_d4_45) (by decide) (by decide) ?_
      refine ow_iload (q := 9) X0 hx (hb hby own_d4_7) rfl rfl ?_
      refine ow_iload (q := 11) X0 hx (hb hby own_d4_9) rfl rfl ?_
      refine ow_icmpYes (q := 48) X0 hx (hb hby own_d4_11) (Jvm.Free.XT.ii_ge_t (by decide)) (by decide) (by decide) ?_
      refine ow_iload (q := 50) X0 hx (hb hby own_d4_48) rfl rfl ?_
      refine ownRetI X0 hx Bd.returns (hb hby own_d4_50) hlk (by decide) (by decide) ?_
      subst hv_v3 hv_v1
      rw [e0]
      refine ⟨congrArg (fun q => some (Value.int q)) ?_, N0, rfl⟩
      simp [hc29_2, hc29_4]
    · refine ow_ifYes (q := 41) X0 hx (hb hby own_d4_29) (Jvm.Free.XT.ll_le_t hc29_4) (by decide) (by decide) ?_
      refine ow_iload (q := 43) X0 hx (hb hby own_d4_41) rfl rfl ?_
      refine ow_istore (q := 45) X0 hx (L' := #[rv a0, iv (1 : Int32), .val (.long q2), .second, iv (3 : Int32), iv (3 : Int32), iv (3 : Int32)]) (hb hby own_d4_43) rfl rfl ?_
      refine ow_goto (q := 7) X0 hx (hb hby own_d4_45) (by decide) (by decide) ?_
      refine ow_iload (q := 9) X0 hx (hb hby own_d4_7) rfl rfl ?_
      refine ow_iload (q := 11) X0 hx (hb hby own_d4_9) rfl rfl ?_
      refine ow_icmpYes (q := 48) X0 hx (hb hby own_d4_11) (Jvm.Free.XT.ii_ge_t (by decide)) (by decide) (by decide) ?_
      refine ow_iload (q := 50) X0 hx (hb hby own_d4_48) rfl rfl ?_
      refine ownRetI X0 hx Bd.returns (hb hby own_d4_50) hlk (by decide) (by decide) ?_
      subst hv_v3 hv_v1
      rw [e0]
      refine ⟨congrArg (fun q => some (Value.int q)) ?_, N0, rfl⟩
      simp [hc29_2, hc29_4]
  · refine ow_ifYes (q := 41) X0 hx (hb hby own_d4_29) (Jvm.Free.XT.ll_le_t hc29_2) (by decide) (by decide) ?_
    refine ow_iload (q := 43) X0 hx (hb hby own_d4_41) rfl rfl ?_
    refine ow_istore (q := 45) X0 hx (L' := #[rv a0, iv (1 : Int32), .val (.long q2), .second, iv (1 : Int32), iv (2 : Int32), iv (2 : Int32)]) (hb hby own_d4_43) rfl rfl ?_
    refine ow_goto (q := 7) X0 hx (hb hby own_d4_45) (by decide) (by decide) ?_
    refine ow_iload (q := 9) X0 hx (hb hby own_d4_7) rfl rfl ?_
    refine ow_iload (q := 11) X0 hx (hb hby own_d4_9) rfl rfl ?_
    refine ow_icmpNo (q := 14) X0 hx (hb hby own_d4_11) rfl (Jvm.Free.XT.ii_ge_f (by decide)) ?_
    refine ow_iload (q := 16) X0 hx (hb hby own_d4_14) rfl rfl ?_
    refine ow_iload (q := 18) X0 hx (hb hby own_d4_16) rfl rfl ?_
    refine ow_iadd (q := 19) X0 hx (3 : Int32) (hb hby own_d4_18) rfl (by decide) ?_
    refine ow_iconst (q := 20) X0 hx (1 : Int32) (hb hby own_d4_19) rfl rfl ?_
    refine ow_iushr (q := 21) X0 hx (1 : Int32) (hb hby own_d4_20) rfl (by decide) ?_
    refine ow_istore (q := 23) X0 hx (L' := #[rv a0, iv (1 : Int32), .val (.long q2), .second, iv (1 : Int32), iv (2 : Int32), iv (1 : Int32)]) (hb hby own_d4_21) rfl rfl ?_
    refine ow_aloadN (q := 24) X0 hx (hb hby own_d4_23) rfl rfl rfl ?_
    refine ow_iload (q := 26) X0 hx (hb hby own_d4_24) rfl rfl ?_
    refine ownGo (T' := s₁) (f' := (mkF m 27 #[rv a0, iv (1 : Int32), .val (.long q2), .second, iv (1 : Int32), iv (2 : Int32), iv (1 : Int32)] [(.long (g 1))])) (ownLaload HF0 X0 hx hZ e0 (j := (1 : Int32)) (by unfold ownIn; decide) (g := (mkF m 26 #[rv a0, iv (1 : Int32), .val (.long q2), .second, iv (1 : Int32), iv (2 : Int32), iv (1 : Int32)] [(.int (1 : Int32)), (.ref a0)])) rfl rfl (hb hby own_d4_26)) ?_
    generalize hv_v5 : (g 1) = v5
    refine ow_lloadN (q := 28) X0 hx (hb hby own_d4_27) rfl rfl ?_
    refine ow_lcmp (q := 29) X0 hx _ (hb hby own_d4_28) rfl rfl ?_
    by_cases hc29_6 : q2 < v5
    · refine ow_ifNo (q := 32) X0 hx (hb hby own_d4_29) rfl (Jvm.Free.XT.ll_le_f hc29_6) ?_
      refine ow_iload (q := 34) X0 hx (hb hby own_d4_32) rfl rfl ?_
      refine ow_iconst (q := 35) X0 hx (1 : Int32) (hb hby own_d4_34) rfl rfl ?_
      refine ow_iadd (q := 36) X0 hx (2 : Int32) (hb hby own_d4_35) rfl (by decide) ?_
      refine ow_istore (q := 38) X0 hx (L' := #[rv a0, iv (1 : Int32), .val (.long q2), .second, iv (2 : Int32), iv (2 : Int32), iv (1 : Int32)]) (hb hby own_d4_36) rfl rfl ?_
      refine ow_goto (q := 45) X0 hx (hb hby own_d4_38) (by decide) (by decide) ?_
      refine ow_goto (q := 7) X0 hx (hb hby own_d4_45) (by decide) (by decide) ?_
      refine ow_iload (q := 9) X0 hx (hb hby own_d4_7) rfl rfl ?_
      refine ow_iload (q := 11) X0 hx (hb hby own_d4_9) rfl rfl ?_
      refine ow_icmpYes (q := 48) X0 hx (hb hby own_d4_11) (Jvm.Free.XT.ii_ge_t (by decide)) (by decide) (by decide) ?_
      refine ow_iload (q := 50) X0 hx (hb hby own_d4_48) rfl rfl ?_
      refine ownRetI X0 hx Bd.returns (hb hby own_d4_50) hlk (by decide) (by decide) ?_
      subst hv_v5 hv_v1
      rw [e0]
      refine ⟨congrArg (fun q => some (Value.int q)) ?_, N0, rfl⟩
      simp [hc29_2, hc29_6]
    · refine ow_ifYes (q := 41) X0 hx (hb hby own_d4_29) (Jvm.Free.XT.ll_le_t hc29_6) (by decide) (by decide) ?_
      refine ow_iload (q := 43) X0 hx (hb hby own_d4_41) rfl rfl ?_
      refine ow_istore (q := 45) X0 hx (L' := #[rv a0, iv (1 : Int32), .val (.long q2), .second, iv (1 : Int32), iv (1 : Int32), iv (1 : Int32)]) (hb hby own_d4_43) rfl rfl ?_
      refine ow_goto (q := 7) X0 hx (hb hby own_d4_45) (by decide) (by decide) ?_
      refine ow_iload (q := 9) X0 hx (hb hby own_d4_7) rfl rfl ?_
      refine ow_iload (q := 11) X0 hx (hb hby own_d4_9) rfl rfl ?_
      refine ow_icmpYes (q := 48) X0 hx (hb hby own_d4_11) (Jvm.Free.XT.ii_ge_t (by decide)) (by decide) (by decide) ?_
      refine ow_iload (q := 50) X0 hx (hb hby own_d4_48) rfl rfl ?_
      refine ownRetI X0 hx Bd.returns (hb hby own_d4_50) hlk (by decide) (by decide) ?_
      subst hv_v5 hv_v1
      rw [e0]
      refine ⟨congrArg (fun q => some (Value.int q)) ?_, N0, rfl⟩
      simp [hc29_2, hc29_6]
theorem own_ef4_fam_4_2 (m : MethodId) (a0 : Addr) (q2 : Int64) : entryFrame m #[(.ref a0), (.int (2 : Int32)), (.long q2)] 7 = mkF m 0 #[rv a0, iv (2 : Int32), .val (.long q2), .second, .unset, .unset, .unset] [] := by first | (simp [entryFrame, mkF, argsToLocals, Value.category]; done) | rfl
def Q_fam_4_2 (Z : State) (a0 : Addr) (q2 : Int64) (g : Nat → Int64) (h0 : Heap) (n0 : Nat) (v : Option Value) (h : Heap) (L : List Loc) : Prop := v = some (.int (if q2 < g 3 then (4 : Int32) else (if q2 < g 2 then (3 : Int32) else (2 : Int32)))) ∧ Fr n0 L ∧ h = h0
set_option maxRecDepth 65536 in
set_option maxHeartbeats 40000000 in
theorem rm_fam_4_2 (l : Launch) (Z : State) (a0 : Array Value) (hw : ∀ d ∈ tables_1, d.before a0 Z = true) (ws : List Jvm.Cond) (a0 : Addr) (q2 : Int64) (g : Nat → Int64) (h0 : Heap) (n0 : Nat) (Z0 : n0 ≤ h0.size) (HF0 : ownAJ Z h0 a0 4 g) :
    MetFree l (⟨"com/example/chromabin/chromabin/packing/Packing", "firstAtMost", "([JIJ)I"⟩ : MethodName) (head1 (Jvm.Cond.code (⟨"com/example/chromabin/chromabin/packing/Packing", "firstAtMost", "([JIJ)I"⟩ : MethodName) prog_55_method_3_code 7 (some .int) :: ws) ({ frames := 0, cells := 0, slots := 0, locals := 0 } : Room)) (fun a U => a = #[(.ref a0), (.int (2 : Int32)), (.long q2)] ∧ Z.Warmed39 U.vm ∧ U.heap = h0) (fun _ _ _ _ _ => True) (fun _ U o U' => ∃ v L, o = .returned v ∧ (Q_fam_4_2 Z a0 q2 g h0 n0) v U'.heap L ∧ FrameEnd U o U' L ({ frames := 0, cells := 0, slots := 0, locals := 0 } : Room).cells ({ frames := 0, cells := 0, slots := 0, locals := 0 } : Room).slots) := by
  refine MetFree.of_bodySF (plainFor_of_name own_pn_Packing) hisR ?_
  intro p e s m args below meth c s₁ Bd hml0 hP hK
  obtain ⟨rfl, hZ, hh⟩ := hP
  have hx := Bd.exec
  have hby := Bd.bytes
  have hml : c.maxLocals = 7 := hml0
  have hown : s.vm.findClass "com/example/chromabin/chromabin/packing/Packing" = some m.cls := findClass_of_methodNamed Bd.named
  have hnm := (name_of_methodNamed Bd.named Bd.method).1
  have hlk : meth.locks = false := BodyLoose.notSynchronized Bd
  have X0 : Stand p l e ({ frames := 0, cells := 0, slots := 0, locals := 0 } : Room) s m #[(.ref a0), (.int (2 : Int32)), (.long q2)] below meth c s₁ [] 0 0 := Stand.of_body Bd
  have e0 : s₁.heap = h0 := by rw [← hh, Bd.state]; rfl
  have N0 := Fr.nil n0
  have K0 : Keep h0 h0 [] := Keep.refl _ _
  show ownEnds p e below s (Q_fam_4_2 Z a0 q2 g h0 n0) ({ frames := 0, cells := 0, slots := 0, locals := 0 } : Room).cells ({ frames := 0, cells := 0, slots := 0, locals := 0 } : Room).slots s₁ (entryFrame m #[(.ref a0), (.int (2 : Int32)), (.long q2)] 7)
  refine ownCast (own_ef4_fam_4_2 m a0 q2) ?_
  refine ow_iloadN (q := 1) X0 hx (hb hby own_d4_0) rfl rfl ?_
  refine ow_istore (q := 3) X0 hx (L' := #[rv a0, iv (2 : Int32), .val (.long q2), .second, iv (2 : Int32), .unset, .unset]) (hb hby own_d4_1) rfl rfl ?_
  refine ow_aloadN (q := 4) X0 hx (hb hby own_d4_3) rfl rfl rfl ?_
  refine ownGo (T' := s₁) (f' := (mkF m 5 #[rv a0, iv (2 : Int32), .val (.long q2), .second, iv (2 : Int32), .unset, .unset] [(.int (4 : Int32))])) (ownLenJ HF0 X0 hx hZ e0 (z := (4 : Int32)) (by decide) (g := (mkF m 4 #[rv a0, iv (2 : Int32), .val (.long q2), .second, iv (2 : Int32), .unset, .unset] [(.ref a0)])) rfl rfl (hb hby own_d4_4)) ?_
  refine ow_istore (q := 7) X0 hx (L' := #[rv a0, iv (2 : Int32), .val (.long q2), .second, iv (2 : Int32), iv (4 : Int32), .unset]) (hb hby own_d4_5) rfl rfl ?_
  refine ow_iload (q := 9) X0 hx (hb hby own_d4_7) rfl rfl ?_
  refine ow_iload (q := 11) X0 hx (hb hby own_d4_9) rfl rfl ?_
  refine ow_icmpNo (q := 14) X0 hx (hb hby own_d4_11) rfl (Jvm.Free.XT.ii_ge_f (by decide)) ?_
  refine ow_iload (q := 16) X0 hx (hb hby own_d4_14) rfl rfl ?_
  refine ow_iload (q := 18) X0 hx (hb hby own_d4_16) rfl rfl ?_
  refine ow_iadd (q := 19) X0 hx (6 : Int32) (hb hby own_d4_18) rfl (by decide) ?_
  refine ow_iconst (q := 20) X0 hx (1 : Int32) (hb hby own_d4_19) rfl rfl ?_
  refine ow_iushr (q := 21) X0 hx (3 : Int32) (hb hby own_d4_20) rfl (by decide) ?_
  refine ow_istore (q := 23) X0 hx (L' := #[rv a0, iv (2 : Int32), .val (.long q2), .second, iv (2 : Int32), iv (4 : Int32), iv (3 : Int32)]) (hb hby own_d4_21) rfl rfl ?_
  refine ow_aloadN (q := 24) X0 hx (hb hby own_d4_23) rfl rfl rfl ?_
  refine ow_iload (q := 26) X0 hx (hb hby own_d4_24) rfl rfl ?_
  refine ownGo (T' := s₁) (f' := (mkF m 27 #[rv a0, iv (2 : Int32), .val (.long q2), .second, iv (2 : Int32), iv (4 : Int32), iv (3 : Int32)] [(.long (g 3))])) (ownLaload HF0 X0 hx hZ e0 (j := (3 : Int32)) (by unfold ownIn; decide) (g := (mkF m 26 #[rv a0, iv (2 : Int32), .val (.long q2), .second, iv (2 : Int32), iv (4 : Int32), iv (3 : Int32)] [(.int (3 : Int32)), (.ref a0)])) rfl rfl (hb hby own_d4_26)) ?_
  generalize hv_v1 : (g 3) = v1
  refine ow_lloadN (q := 28) X0 hx (hb hby own_d4_27) rfl rfl ?_
  refine ow_lcmp (q := 29) X0 hx _ (hb hby own_d4_28) rfl rfl ?_
  by_cases hc29_2 : q2 < v1
  · refine ow_ifNo (q := 32) X0 hx (hb hby own_d4_29) rfl (Jvm.Free.XT.ll_le_f hc29_2) ?_
    refine ow_iload (q := 34) X0 hx (hb hby own_d4_32) rfl rfl ?_
    refine ow_iconst (q := 35) X0 hx (1 : Int32) (hb hby own_d4_34) rfl rfl ?_
    refine ow_iadd (q := 36) X0 hx (4 : Int32) (hb hby own_d4_35) rfl (by decide) ?_
    refine ow_istore (q := 38) X0 hx (L' := #[rv a0, iv (2 : Int32), .val (.long q2), .second, iv (4 : Int32), iv (4 : Int32), iv (3 : Int32)]) (hb hby own_d4_36) rfl rfl ?_
    refine ow_goto (q := 45) X0 hx (hb hby own_d4_38) (by decide) (by decide) ?_
    refine ow_goto (q := 7) X0 hx (hb hby own_d4_45) (by decide) (by decide) ?_
    refine ow_iload (q := 9) X0 hx (hb hby own_d4_7) rfl rfl ?_
    refine ow_iload (q := 11) X0 hx (hb hby own_d4_9) rfl rfl ?_
    refine ow_icmpYes (q := 48) X0 hx (hb hby own_d4_11) (Jvm.Free.XT.ii_ge_t (by decide)) (by decide) (by decide) ?_
    refine ow_iload (q := 50) X0 hx (hb hby own_d4_48) rfl rfl ?_
    refine ownRetI X0 hx Bd.returns (hb hby own_d4_50) hlk (by decide) (by decide) ?_
    subst hv_v1
    rw [e0]
    refine ⟨congrArg (fun q => some (Value.int q)) ?_, N0, rfl⟩
    simp [hc29_2]
  · refine ow_ifYes (q := 41) X0 hx (hb hby own_d4_29) (Jvm.Free.XT.ll_le_t hc29_2) (by decide) (by decide) ?_
    refine ow_iload (q := 43) X0 hx (hb hby own_d4_41) rfl rfl ?_
    refine ow_istore (q := 45) X0 hx (L' := #[rv a0, iv (2 : Int32), .val (.long q2), .second, iv (2 : Int32), iv (3 : Int32), iv (3 : Int32)]) (hb hby own_d4_43) rfl rfl ?_
    refine ow_goto (q := 7) X0 hx (hb hby own_d4_45) (by decide) (by decide) ?_
    refine ow_iload (q := 9) X0 hx (hb hby own_d4_7) rfl rfl ?_
    refine ow_iload (q := 11) X0 hx (hb hby own_d4_9) rfl rfl ?_
    refine ow_icmpNo (q := 14) X0 hx (hb hby own_d4_11) rfl (Jvm.Free.XT.ii_ge_f (by decide)) ?_
    refine ow_iload (q := 16) X0 hx (hb hby own_d4_14) rfl rfl ?_
    refine ow_iload (q := 18) X0 hx (hb hby own_d4_16) rfl rfl ?_
    refine ow_iadd (q := 19) X0 hx (5 : Int32) (hb hby own_d4_18) rfl (by decide) ?_
    refine ow_iconst (q := 20) X0 hx (1 : Int32) (hb hby own_d4_19) rfl rfl ?_
    refine ow_iushr (q := 21) X0 hx (2 : Int32) (hb hby own_d4_20) rfl (by decide) ?_
    refine ow_istore (q := 23) X0 hx (L' := #[rv a0, iv (2 : Int32), .val (.long q2), .second, iv (2 : Int32), iv (3 : Int32), iv (2 : Int32)]) (hb hby own_d4_21) rfl rfl ?_
    refine ow_aloadN (q := 24) X0 hx (hb hby own_d4_23) rfl rfl rfl ?_
    refine ow_iload (q := 26) X0 hx (hb hby own_d4_24) rfl rfl ?_
    refine ownGo (T' := s₁) (f' := (mkF m 27 #[rv a0, iv (2 : Int32), .val (.long q2), .second, iv (2 : Int32), iv (3 : Int32), iv (2 : Int32)] [(.long (g 2))])) (ownLaload HF0 X0 hx hZ e0 (j := (2 : Int32)) (by unfold ownIn; decide) (g := (mkF m 26 #[rv a0, iv (2 : Int32), .val (.long q2), .second, iv (2 : Int32), iv (3 : Int32), iv (2 : Int32)] [(.int (2 : Int32)), (.ref a0)])) rfl rfl (hb hby own_d4_26)) ?_
    generalize hv_v3 : (g 2) = v3
    refine ow_lloadN (q := 28) X0 hx (hb hby own_d4_27) rfl rfl ?_
    refine ow_lcmp (q := 29) X0 hx _ (hb hby own_d4_28) rfl rfl ?_
    by_cases hc29_4 : q2 < v3
    · refine ow_ifNo (q := 32) X0 hx (hb hby own_d4_29) rfl (Jvm.Free.XT.ll_le_f hc29_4) ?_
      refine ow_iload (q := 34) X0 hx (hb hby own_d4_32) rfl rfl ?_
      refine ow_iconst (q := 35) X0 hx (1 : Int32) (hb hby own_d4_34) rfl rfl ?_
      refine ow_iadd (q := 36) X0 hx (3 : Int32) (hb hby own_d4_35) rfl (by decide) ?_
      refine ow_istore (q := 38) X0 hx (L' := #[rv a0, iv (2 : Int32), .val (.long q2), .second, iv (3 : Int32), iv (3 : Int32), iv (2 : Int32)]) (hb hby own_d4_36) rfl rfl ?_
      refine ow_goto (q := 45) X0 hx (hb hby own_d4_38) (by decide) (by decide) ?_
      refine ow_goto (q := 7) X0 hx (hb hby own_d4_45) (by decide) (by decide) ?_
      refine ow_iload (q := 9) X0 hx (hb hby own_d4_7) rfl rfl ?_
      refine ow_iload (q := 11) X0 hx (hb hby own_d4_9) rfl rfl ?_
      refine ow_icmpYes (q := 48) X0 hx (hb hby own_d4_11) (Jvm.Free.XT.ii_ge_t (by decide)) (by decide) (by decide) ?_
      refine ow_iload (q := 50) X0 hx (hb hby own_d4_48) rfl rfl ?_
      refine ownRetI X0 hx Bd.returns (hb hby own_d4_50) hlk (by decide) (by decide) ?_
      subst hv_v3 hv_v1
      rw [e0]
      refine ⟨congrArg (fun q => some (Value.int q)) ?_, N0, rfl⟩
      simp [hc29_2, hc29_4]
    · refine ow_ifYes (q := 41) X0 hx (hb hby own_d4_29) (Jvm.Free.XT.ll_le_t hc29_4) (by decide) (by decide) ?_
      refine ow_iload (q := 43) X0 hx (hb hby own_d4_41) rfl rfl ?_
      refine ow_istore (q := 45) X0 hx (L' := #[rv a0, iv (2 : Int32), .val (.long q2), .second, iv (2 : Int32), iv (2 : Int32), iv (2 : Int32)]) (hb hby own_d4_43) rfl rfl ?_
      refine ow_goto (q := 7) X0 hx (hb hby own_d4_45) (by decide) (by decide) ?_
      refine ow_iload (q := 9) X0 hx (hb hby own_d4_7) rfl rfl ?_
      refine ow_iload (q := 11) X0 hx (hb hby own_d4_9) rfl rfl ?_
      refine ow_icmpYes (q := 48) X0 hx (hb hby own_d4_11) (Jvm.Free.XT.ii_ge_t (by decide)) (by decide) (by decide) ?_
      refine ow_iload (q := 50) X0 hx (hb hby own_d4_48) rfl rfl ?_
      refine ownRetI X0 hx Bd.returns (hb hby own_d4_50) hlk (by decide) (by decide) ?_
      subst hv_v3 hv_v1
      rw [e0]
      refine ⟨congrArg (fun q => some (Value.int q)) ?_, N0, rfl⟩
      simp [hc29_2, hc29_4]
theorem own_ef4_fam_4_3 (m : MethodId) (a0 : Addr) (q2 : Int64) : entryFrame m #[(.ref a0), (.int (3 : Int32)), (.long q2)] 7 = mkF m 0 #[rv a0, iv (3 : Int32), .val (.long q2), .second, .unset, .unset, .unset] [] := by first | (simp [entryFrame, mkF, argsToLocals, Value.category]; done) | rfl
def Q_fam_4_3 (Z : State) (a0 : Addr) (q2 : Int64) (g : Nat → Int64) (h0 : Heap) (n0 : Nat) (v : Option Value) (h : Heap) (L : List Loc) : Prop := v = some (.int (if q2 < g 3 then (4 : Int32) else (3 : Int32))) ∧ Fr n0 L ∧ h = h0
set_option maxRecDepth 65536 in
set_option maxHeartbeats 40000000 in
theorem rm_fam_4_3 (l : Launch) (Z : State) (a0 : Array Value) (hw : ∀ d ∈ tables_1, d.before a0 Z = true) (ws : List Jvm.Cond) (a0 : Addr) (q2 : Int64) (g : Nat → Int64) (h0 : Heap) (n0 : Nat) (Z0 : n0 ≤ h0.size) (HF0 : ownAJ Z h0 a0 4 g) :
    MetFree l (⟨"com/example/chromabin/chromabin/packing/Packing", "firstAtMost", "([JIJ)I"⟩ : MethodName) (head1 (Jvm.Cond.code (⟨"com/example/chromabin/chromabin/packing/Packing", "firstAtMost", "([JIJ)I"⟩ : MethodName) prog_55_method_3_code 7 (some .int) :: ws) ({ frames := 0, cells := 0, slots := 0, locals := 0 } : Room)) (fun a U => a = #[(.ref a0), (.int (3 : Int32)), (.long q2)] ∧ Z.Warmed39 U.vm ∧ U.heap = h0) (fun _ _ _ _ _ => True) (fun _ U o U' => ∃ v L, o = .returned v ∧ (Q_fam_4_3 Z a0 q2 g h0 n0) v U'.heap L ∧ FrameEnd U o U' L ({ frames := 0, cells := 0, slots := 0, locals := 0 } : Room).cells ({ frames := 0, cells := 0, slots := 0, locals := 0 } : Room).slots) := by
  refine MetFree.of_bodySF (plainFor_of_name own_pn_Packing) hisR ?_
  intro p e s m args below meth c s₁ Bd hml0 hP hK
  obtain ⟨rfl, hZ, hh⟩ := hP
  have hx := Bd.exec
  have hby := Bd.bytes
  have hml : c.maxLocals = 7 := hml0
  have hown : s.vm.findClass "com/example/chromabin/chromabin/packing/Packing" = some m.cls := findClass_of_methodNamed Bd.named
  have hnm := (name_of_methodNamed Bd.named Bd.method).1
  have hlk : meth.locks = false := BodyLoose.notSynchronized Bd
  have X0 : Stand p l e ({ frames := 0, cells := 0, slots := 0, locals := 0 } : Room) s m #[(.ref a0), (.int (3 : Int32)), (.long q2)] below meth c s₁ [] 0 0 := Stand.of_body Bd
  have e0 : s₁.heap = h0 := by rw [← hh, Bd.state]; rfl
  have N0 := Fr.nil n0
  have K0 : Keep h0 h0 [] := Keep.refl _ _
  show ownEnds p e below s (Q_fam_4_3 Z a0 q2 g h0 n0) ({ frames := 0, cells := 0, slots := 0, locals := 0 } : Room).cells ({ frames := 0, cells := 0, slots := 0, locals := 0 } : Room).slots s₁ (entryFrame m #[(.ref a0), (.int (3 : Int32)), (.long q2)] 7)
  refine ownCast (own_ef4_fam_4_3 m a0 q2) ?_
  refine ow_iloadN (q := 1) X0 hx (hb hby own_d4_0) rfl rfl ?_
  refine ow_istore (q := 3) X0 hx (L' := #[rv a0, iv (3 : Int32), .val (.long q2), .second, iv (3 : Int32), .unset, .unset]) (hb hby own_d4_1) rfl rfl ?_
  refine ow_aloadN (q := 4) X0 hx (hb hby own_d4_3) rfl rfl rfl ?_
  refine ownGo (T' := s₁) (f' := (mkF m 5 #[rv a0, iv (3 : Int32), .val (.long q2), .second, iv (3 : Int32), .unset, .unset] [(.int (4 : Int32))])) (ownLenJ HF0 X0 hx hZ e0 (z := (4 : Int32)) (by decide) (g := (mkF m 4 #[rv a0, iv (3 : Int32), .val (.long q2), .second, iv (3 : Int32), .unset, .unset] [(.ref a0)])) rfl rfl (hb hby own_d4_4)) ?_
  refine ow_istore (q := 7) X0 hx (L' := #[rv a0, iv (3 : Int32), .val (.long q2), .second, iv (3 : Int32), iv (4 : Int32), .unset]) (hb hby own_d4_5) rfl rfl ?_
  refine ow_iload (q := 9) X0 hx (hb hby own_d4_7) rfl rfl ?_
  refine ow_iload (q := 11) X0 hx (hb hby own_d4_9) rfl rfl ?_
  refine ow_icmpNo (q := 14) X0 hx (hb hby own_d4_11) rfl (Jvm.Free.XT.ii_ge_f (by decide)) ?_
  refine ow_iload (q := 16) X0 hx (hb hby own_d4_14) rfl rfl ?_
  refine ow_iload (q := 18) X0 hx (hb hby own_d4_16) rfl rfl ?_
  refine ow_iadd (q := 19) X0 hx (7 : Int32) (hb hby own_d4_18) rfl (by decide) ?_
  refine ow_iconst (q := 20) X0 hx (1 : Int32) (hb hby own_d4_19) rfl rfl ?_
  refine ow_iushr (q := 21) X0 hx (3 : Int32) (hb hby own_d4_20) rfl (by decide) ?_
  refine ow_istore (q := 23) X0 hx (L' := #[rv a0, iv (3 : Int32), .val (.long q2), .second, iv (3 : Int32), iv (4 : Int32), iv (3 : Int32)]) (hb hby own_d4_21) rfl rfl ?_
  refine ow_aloadN (q := 24) X0 hx (hb hby own_d4_23) rfl rfl rfl ?_
  refine ow_iload (q := 26) X0 hx (hb hby own_d4_24) rfl rfl ?_
  refine ownGo (T' := s₁) (f' := (mkF m 27 #[rv a0, iv (3 : Int32), .val (.long q2), .second, iv (3 : Int32), iv (4 : Int32), iv (3 : Int32)] [(.long (g 3))])) (ownLaload HF0 X0 hx hZ e0 (j := (3 : Int32)) (by unfold ownIn; decide) (g := (mkF m 26 #[rv a0, iv (3 : Int32), .val (.long q2), .second, iv (3 : Int32), iv (4 : Int32), iv (3 : Int32)] [(.int (3 : Int32)), (.ref a0)])) rfl rfl (hb hby own_d4_26)) ?_
  generalize hv_v1 : (g 3) = v1
  refine ow_lloadN (q := 28) X0 hx (hb hby own_d4_27) rfl rfl ?_
  refine ow_lcmp (q := 29) X0 hx _ (hb hby own_d4_28) rfl rfl ?_
  by_cases hc29_2 : q2 < v1
  · refine ow_ifNo (q := 32) X0 hx (hb hby own_d4_29) rfl (Jvm.Free.XT.ll_le_f hc29_2) ?_
    refine ow_iload (q := 34) X0 hx (hb hby own_d4_32) rfl rfl ?_
    refine ow_iconst (q := 35) X0 hx (1 : Int32) (hb hby own_d4_34) rfl rfl ?_
    refine ow_iadd (q := 36) X0 hx (4 : Int32) (hb hby own_d4_35) rfl (by decide) ?_
    refine ow_istore (q := 38) X0 hx (L' := #[rv a0, iv (3 : Int32), .val (.long q2), .second, iv (4 : Int32), iv (4 : Int32), iv (3 : Int32)]) (hb hby own_d4_36) rfl rfl ?_
    refine ow_goto (q := 45) X0 hx (hb hby own_d4_38) (by decide) (by decide) ?_
    refine ow_goto (q := 7) X0 hx (hb hby own_d4_45) (by decide) (by decide) ?_
    refine ow_iload (q := 9) X0 hx (hb hby own_d4_7) rfl rfl ?_
    refine ow_iload (q := 11) X0 hx (hb hby own_d4_9) rfl rfl ?_
    refine ow_icmpYes (q := 48) X0 hx (hb hby own_d4_11) (Jvm.Free.XT.ii_ge_t (by decide)) (by decide) (by decide) ?_
    refine ow_iload (q := 50) X0 hx (hb hby own_d4_48) rfl rfl ?_
    refine ownRetI X0 hx Bd.returns (hb hby own_d4_50) hlk (by decide) (by decide) ?_
    subst hv_v1
    rw [e0]
    refine ⟨congrArg (fun q => some (Value.int q)) ?_, N0, rfl⟩
    simp [hc29_2]
  · refine ow_ifYes (q := 41) X0 hx (hb hby own_d4_29) (Jvm.Free.XT.ll_le_t hc29_2) (by decide) (by decide) ?_
    refine ow_iload (q := 43) X0 hx (hb hby own_d4_41) rfl rfl ?_
    refine ow_istore (q := 45) X0 hx (L' := #[rv a0, iv (3 : Int32), .val (.long q2), .second, iv (3 : Int32), iv (3 : Int32), iv (3 : Int32)]) (hb hby own_d4_43) rfl rfl ?_
    refine ow_goto (q := 7) X0 hx (hb hby own_d4_45) (by decide) (by decide) ?_
    refine ow_iload (q := 9) X0 hx (hb hby own_d4_7) rfl rfl ?_
    refine ow_iload (q := 11) X0 hx (hb hby own_d4_9) rfl rfl ?_
    refine ow_icmpYes (q := 48) X0 hx (hb hby own_d4_11) (Jvm.Free.XT.ii_ge_t (by decide)) (by decide) (by decide) ?_
    refine ow_iload (q := 50) X0 hx (hb hby own_d4_48) rfl rfl ?_
    refine ownRetI X0 hx Bd.returns (hb hby own_d4_50) hlk (by decide) (by decide) ?_
    subst hv_v1
    rw [e0]
    refine ⟨congrArg (fun q => some (Value.int q)) ?_, N0, rfl⟩
    simp [hc29_2]
theorem own_ef4_fam_4_4 (m : MethodId) (a0 : Addr) (q2 : Int64) : entryFrame m #[(.ref a0), (.int (4 : Int32)), (.long q2)] 7 = mkF m 0 #[rv a0, iv (4 : Int32), .val (.long q2), .second, .unset, .unset, .unset] [] := by first | (simp [entryFrame, mkF, argsToLocals, Value.category]; done) | rfl
def Q_fam_4_4 (Z : State) (a0 : Addr) (q2 : Int64) (g : Nat → Int64) (h0 : Heap) (n0 : Nat) (v : Option Value) (h : Heap) (L : List Loc) : Prop := v = some (.int (4 : Int32)) ∧ Fr n0 L ∧ h = h0
set_option maxRecDepth 65536 in
set_option maxHeartbeats 40000000 in
theorem rm_fam_4_4 (l : Launch) (Z : State) (a0 : Array Value) (hw : ∀ d ∈ tables_1, d.before a0 Z = true) (ws : List Jvm.Cond) (a0 : Addr) (q2 : Int64) (g : Nat → Int64) (h0 : Heap) (n0 : Nat) (Z0 : n0 ≤ h0.size) (HF0 : ownAJ Z h0 a0 4 g) :
    MetFree l (⟨"com/example/chromabin/chromabin/packing/Packing", "firstAtMost", "([JIJ)I"⟩ : MethodName) (head1 (Jvm.Cond.code (⟨"com/example/chromabin/chromabin/packing/Packing", "firstAtMost", "([JIJ)I"⟩ : MethodName) prog_55_method_3_code 7 (some .int) :: ws) ({ frames := 0, cells := 0, slots := 0, locals := 0 } : Room)) (fun a U => a = #[(.ref a0), (.int (4 : Int32)), (.long q2)] ∧ Z.Warmed39 U.vm ∧ U.heap = h0) (fun _ _ _ _ _ => True) (fun _ U o U' => ∃ v L, o = .returned v ∧ (Q_fam_4_4 Z a0 q2 g h0 n0) v U'.heap L ∧ FrameEnd U o U' L ({ frames := 0, cells := 0, slots := 0, locals := 0 } : Room).cells ({ frames := 0, cells := 0, slots := 0, locals := 0 } : Room).slots) := by
  refine MetFree.of_bodySF (plainFor_of_name own_pn_Packing) hisR ?_
  intro p e s m args below meth c s₁ Bd hml0 hP hK
  obtain ⟨rfl, hZ, hh⟩ := hP
  have hx := Bd.exec
  have hby := Bd.bytes
  have hml : c.maxLocals = 7 := hml0
  have hown : s.vm.findClass "com/example/chromabin/chromabin/packing/Packing" = some m.cls := findClass_of_methodNamed Bd.named
  have hnm := (name_of_methodNamed Bd.named Bd.method).1
  have hlk : meth.locks = false := BodyLoose.notSynchronized Bd
  have X0 : Stand p l e ({ frames := 0, cells := 0, slots := 0, locals := 0 } : Room) s m #[(.ref a0), (.int (4 : Int32)), (.long q2)] below meth c s₁ [] 0 0 := Stand.of_body Bd
  have e0 : s₁.heap = h0 := by rw [← hh, Bd.state]; rfl
  have N0 := Fr.nil n0
  have K0 : Keep h0 h0 [] := Keep.refl _ _
  show ownEnds p e below s (Q_fam_4_4 Z a0 q2 g h0 n0) ({ frames := 0, cells := 0, slots := 0, locals := 0 } : Room).cells ({ frames := 0, cells := 0, slots := 0, locals := 0 } : Room).slots s₁ (entryFrame m #[(.ref a0), (.int (4 : Int32)), (.long q2)] 7)
  refine ownCast (own_ef4_fam_4_4 m a0 q2) ?_
  refine ow_iloadN (q := 1) X0 hx (hb hby own_d4_0) rfl rfl ?_
  refine ow_istore (q := 3) X0 hx (L' := #[rv a0, iv (4 : Int32), .val (.long q2), .second, iv (4 : Int32), .unset, .unset]) (hb hby own_d4_1) rfl rfl ?_
  refine ow_aloadN (q := 4) X0 hx (hb hby own_d4_3) rfl rfl rfl ?_
  refine ownGo (T' := s₁) (f' := (mkF m 5 #[rv a0, iv (4 : Int32), .val (.long q2), .second, iv (4 : Int32), .unset, .unset] [(.int (4 : Int32))])) (ownLenJ HF0 X0 hx hZ e0 (z := (4 : Int32)) (by decide) (g := (mkF m 4 #[rv a0, iv (4 : Int32), .val (.long q2), .second, iv (4 : Int32), .unset, .unset] [(.ref a0)])) rfl rfl (hb hby own_d4_4)) ?_
  refine ow_istore (q := 7) X0 hx (L' := #[rv a0, iv (4 : Int32), .val (.long q2), .second, iv (4 : Int32), iv (4 : Int32), .unset]) (hb hby own_d4_5) rfl rfl ?_
  refine ow_iload (q := 9) X0 hx (hb hby own_d4_7) rfl rfl ?_
  refine ow_iload (q := 11) X0 hx (hb hby own_d4_9) rfl rfl ?_
  refine ow_icmpYes (q := 48) X0 hx (hb hby own_d4_11) (Jvm.Free.XT.ii_ge_t (by decide)) (by decide) (by decide) ?_
  refine ow_iload (q := 50) X0 hx (hb hby own_d4_48) rfl rfl ?_
  refine ownRetI X0 hx Bd.returns (hb hby own_d4_50) hlk (by decide) (by decide) ?_
  rw [e0]
  exact ⟨rfl, N0, rfl⟩
theorem own_pd0 : parseMethodDescriptor "(JJ)J" = some ⟨[.long, .long], some .long⟩ := by decide +kernel
theorem own_pd1 : parseMethodDescriptor "(IJJJJ)[J" = some ⟨[.int, .long, .long, .long, .long], some (.array .long)⟩ := by decide +kernel
theorem own_pd2 : parseMethodDescriptor "([JIJ)I" = some ⟨[(.array .long), .int, .long], some .int⟩ := by decide +kernel
theorem own_ef0_law (m : MethodId) (q0 : Int64) (q1 : Int64) (q2 : Int64) (q3 : Int64) (p4 : Int32) (q5 : Int64) : entryFrame m #[(.long q0), (.long q1), (.long q2), (.long q3), (.int p4), (.long q5)] maxLocals = mkF m 0 #[.val (.long q0), .second, .val (.long q1), .second, .val (.long q2), .second, .val (.long q3), .second, iv p4, .val (.long q5), .second, .unset, .unset, .unset, .unset, .unset, .unset, .unset, .unset, .unset, .unset, .unset, .unset, .unset, .unset, .unset] [] := by first | (simp [entryFrame, mkF, argsToLocals, Value.category, maxLocals]; done) | rfl
def Q_law (Z : State) (q0 : Int64) (q1 : Int64) (q2 : Int64) (q3 : Int64) (p4 : Int32) (q5 : Int64) (h0 : Heap) (n0 : Nat) (v : Option Value) (h : Heap) (L : List Loc) : Prop := v = some (.int 1) ∧ Fr n0 L
set_option maxRecDepth 65536 in
set_option maxHeartbeats 40000000 in
theorem rm_law (l : Launch) (Z : State) (a0 : Array Value) (hw : ∀ d ∈ tables_1, d.before a0 Z = true) (ws : List Jvm.Cond) (q0 : Int64) (q1 : Int64) (q2 : Int64) (q3 : Int64) (p4 : Int32) (q5 : Int64) (h0 : Heap) (n0 : Nat) (Z0 : n0 ≤ h0.size) :
    MetFree l x (head1 (Jvm.Cond.code x code maxLocals ret :: ws) room_1) (fun a U => a = #[(.long q0), (.long q1), (.long q2), (.long q3), (.int p4), (.long q5)] ∧ Z.Warmed39 U.vm ∧ U.heap = h0) (fun _ _ _ _ _ => True) (fun _ U o U' => ∃ v L, o = .returned v ∧ (Q_law Z q0 q1 q2 q3 p4 q5 h0 n0) v U'.heap L ∧ FrameEnd U o U' L 16 128) := by
  refine MetFree.of_bodySF (plainFor_of_name own_pn_PackingFirstAtMostPinLaw) hisR ?_
  intro p e s m args below meth c s₁ Bd hml0 hP hK
  obtain ⟨rfl, hZ, hh⟩ := hP
  have hx := Bd.exec
  have hby := Bd.bytes
  have hml : c.maxLocals = 26 := hml0
  have hown : s.vm.findClass "com/example/chromabin/chromabin/packing/PackingFirstAtMostPinLaw" = some m.cls := findClass_of_methodNamed Bd.named
  have hnm := (name_of_methodNamed Bd.named Bd.method).1
  have hlk : meth.locks = false := BodyLoose.notSynchronized Bd
  have X0 : Stand p l e room_1 s m #[(.long q0), (.long q1), (.long q2), (.long q3), (.int p4), (.long q5)] below meth c s₁ [] 0 0 := Stand.of_body Bd
  have e0 : s₁.heap = h0 := by rw [← hh, Bd.state]; rfl
  have N0 := Fr.nil n0
  have K0 : Keep h0 h0 [] := Keep.refl _ _
  show ownEnds p e below s (Q_law Z q0 q1 q2 q3 p4 q5 h0 n0) 16 128 s₁ (entryFrame m #[(.long q0), (.long q1), (.long q2), (.long q3), (.int p4), (.long q5)] maxLocals)
  refine ownCast (own_ef0_law m q0 q1 q2 q3 p4 q5) ?_
  refine ow_iload (q := 2) X0 hx (hb hby at_0) rfl rfl ?_
  refine ow_bipush (q := 4) X0 hx (7 : Int32) (hb hby at_2) rfl rfl ?_
  refine ow_iand (q := 5) X0 hx _ (hb hby at_4) rfl rfl ?_
  refine ow_iconst (q := 6) X0 hx (5 : Int32) (hb hby at_5) rfl rfl ?_
  refine ow_irem (q := 7) X0 hx _ (hb hby at_6) rfl (by decide) rfl ?_
  generalize hv_v1 : ((p4 &&& (7 : Int32)) % (5 : Int32)) = v1
  refine ow_istore (q := 9) X0 hx (L' := #[.val (.long q0), .second, .val (.long q1), .second, .val (.long q2), .second, .val (.long q3), .second, iv p4, .val (.long q5), .second, iv v1, .unset, .unset, .unset, .unset, .unset, .unset, .unset, .unset, .unset, .unset, .unset, .unset, .unset, .unset]) (hb hby at_7) rfl rfl ?_
  refine ow_iload (q := 11) X0 hx (hb hby at_9) rfl rfl ?_
  refine ow_iconst (q := 12) X0 hx (3 : Int32) (hb hby at_11) rfl rfl ?_
  refine ow_iushr (q := 13) X0 hx _ (hb hby at_12) rfl rfl ?_
  refine ow_bipush (q := 15) X0 hx (7 : Int32) (hb hby at_13) rfl rfl ?_
  refine ow_iand (q := 16) X0 hx _ (hb hby at_15) rfl rfl ?_
  refine ow_iload (q := 18) X0 hx (hb hby at_16) rfl rfl ?_
  refine ow_iconst (q := 19) X0 hx (1 : Int32) (hb hby at_18) rfl rfl ?_
  refine ow_iadd (q := 20) X0 hx _ (hb hby at_19) rfl rfl ?_
  refine ow_irem (q := 21) X0 hx _ (hb hby at_20) rfl (own_nz hv_v1) rfl ?_
  generalize hv_v2 : ((((p4.toUInt32 >>> ((3 : Int32) &&& 31).toUInt32).toInt32) &&& (7 : Int32)) % (v1 + (1 : Int32))) = v2
  refine ow_istore (q := 23) X0 hx (L' := #[.val (.long q0), .second, .val (.long q1), .second, .val (.long q2), .second, .val (.long q3), .second, iv p4, .val (.long q5), .second, iv v1, iv v2, .unset, .unset, .unset, .unset, .unset, .unset, .unset, .unset, .unset, .unset, .unset, .unset, .unset]) (hb hby at_21) rfl rfl ?_
  refine ow_lloadN (q := 24) X0 hx (hb hby at_23) rfl rfl ?_
  refine ow_lstore (q := 26) X0 hx (L' := #[.val (.long q0), .second, .val (.long q1), .second, .val (.long q2), .second, .val (.long q3), .second, iv p4, .val (.long q5), .second, iv v1, iv v2, .val (.long q0), .second, .unset, .unset, .unset, .unset, .unset, .unset, .unset, .unset, .unset, .unset, .unset]) (hb hby at_24) rfl rfl ?_
  refine ow_lloadN (q := 27) X0 hx (hb hby at_26) rfl rfl ?_
  refine ow_lstore (q := 29) X0 hx (L' := #[.val (.long q0), .second, .val (.long q1), .second, .val (.long q2), .second, .val (.long q3), .second, iv p4, .val (.long q5), .second, iv v1, iv v2, .val (.long q0), .second, .val (.long q1), .second, .unset, .unset, .unset, .unset, .unset, .unset, .unset, .unset, .unset]) (hb hby at_27) rfl rfl ?_
  refine ow_lload (q := 31) X0 hx (hb hby at_29) rfl rfl ?_
  refine ow_lstore (q := 33) X0 hx (L' := #[.val (.long q0), .second, .val (.long q1), .second, .val (.long q2), .second, .val (.long q3), .second, iv p4, .val (.long q5), .second, iv v1, iv v2, .val (.long q0), .second, .val (.long q1), .second, .val (.long q2), .second, .unset, .unset, .unset, .unset, .unset, .unset, .unset]) (hb hby at_31) rfl rfl ?_
  refine ow_lload (q := 35) X0 hx (hb hby at_33) rfl rfl ?_
  refine ow_lstore (q := 37) X0 hx (L' := #[.val (.long q0), .second, .val (.long q1), .second, .val (.long q2), .second, .val (.long q3), .second, iv p4, .val (.long q5), .second, iv v1, iv v2, .val (.long q0), .second, .val (.long q1), .second, .val (.long q2), .second, .val (.long q3), .second, .unset, .unset, .unset, .unset, .unset]) (hb hby at_35) rfl rfl ?_
  refine ow_lload (q := 39) X0 hx (hb hby at_37) rfl rfl ?_
  refine ow_lload (q := 41) X0 hx (hb hby at_39) rfl rfl ?_
  obtain ⟨_, _, ⟨T3, L3, k3, n3⟩, -, X3, ⟨Lc3, hQ3, l3, y3, z3⟩, st3⟩ := Jvm.LawKit.callS X0 hx (y := (⟨"java/lang/Math", "max", "(JJ)J"⟩ : MethodName)) hown (mvT hZ (hw _ (List.mem_of_getElem? (i := 0) rfl))) (mvT hZ (hw _ (List.mem_of_getElem? (i := 1) rfl))) (mvT hZ (hw _ (List.mem_of_getElem? (i := 2) rfl))) (mvT hZ (hw _ (List.mem_of_getElem? (i := 3) rfl))) (by decide) (backOf (W := 0) (rm_maxL l Z a0 hw [] q0 q1 h0 n0 (Nat.le_trans Z0 K0.1) ) hZ (hw _ (List.mem_of_getElem? (i := 3) rfl)) (hw _ (List.mem_of_getElem? (i := 2) rfl)) (by decide) (by decide)) (g := (mkF m 41 #[.val (.long q0), .second, .val (.long q1), .second, .val (.long q2), .second, .val (.long q3), .second, iv p4, .val (.long q5), .second, iv v1, iv v2, .val (.long q0), .second, .val (.long q1), .second, .val (.long q2), .second, .val (.long q3), .second, .unset, .unset, .unset, .unset, .unset] [(.long q1), (.long q0)])) rfl (by rw [hml]; rfl) (argsL := [(.long q0), (.long q1)]) (rest := []) (lenOf own_pd0 rfl) rfl (by show 2 * 0 + _ ≤ _; exact Nat.le_of_eq rfl) (hb hby at_41) (fun _ _ => ⟨rfl, e0, (by decide : 0 + 0 ≤ _), (by decide : 0 + 0 ≤ _)⟩)
  dsimp only [Pt.U, Pt.locs, Pt.cells, Pt.slots] at X3 l3 y3 z3 st3 hQ3
  subst l3 y3 z3
  obtain ⟨rfl, N3q, e3⟩ := hQ3
  have N3 := Fr.app N0 N3q
  refine ownGo (T' := T3) (f' := (mkF m 44 #[.val (.long q0), .second, .val (.long q1), .second, .val (.long q2), .second, .val (.long q3), .second, iv p4, .val (.long q5), .second, iv v1, iv v2, .val (.long q0), .second, .val (.long q1), .second, .val (.long q2), .second, .val (.long q3), .second, .unset, .unset, .unset, .unset, .unset] [(.long (own_maxL q0 q1))])) (st3) ?_
  generalize hv_v4 : (own_maxL q0 q1) = v4
  refine ow_lstore (q := 46) X3 hx (L' := #[.val (.long q0), .second, .val (.long q1), .second, .val (.long q2), .second, .val (.long q3), .second, iv p4, .val (.long q5), .second, iv v1, iv v2, .val (.long q0), .second, .val (.long q1), .second, .val (.long q2), .second, .val (.long q3), .second, .val (.long v4), .second, .unset, .unset, .unset]) (hb hby at_44) rfl rfl ?_
  refine ow_lload (q := 48) X3 hx (hb hby at_46) rfl rfl ?_
  refine ow_lload (q := 50) X3 hx (hb hby at_48) rfl rfl ?_
  obtain ⟨_, _, ⟨T5, L5, k5, n5⟩, -, X5, ⟨Lc5, hQ5, l5, y5, z5⟩, st5⟩ := Jvm.LawKit.callS X3 hx (y := (⟨"java/lang/Math", "min", "(JJ)J"⟩ : MethodName)) hown (mvT hZ (hw _ (List.mem_of_getElem? (i := 4) rfl))) (mvT hZ (hw _ (List.mem_of_getElem? (i := 5) rfl))) (mvT hZ (hw _ (List.mem_of_getElem? (i := 2) rfl))) (mvT hZ (hw _ (List.mem_of_getElem? (i := 6) rfl))) (by decide) (backOf (W := 0) (rm_minL l Z a0 hw [] q0 q1 h0 n0 (Nat.le_trans Z0 K0.1) ) hZ (hw _ (List.mem_of_getElem? (i := 6) rfl)) (hw _ (List.mem_of_getElem? (i := 2) rfl)) (by decide) (by decide)) (g := (mkF m 50 #[.val (.long q0), .second, .val (.long q1), .second, .val (.long q2), .second, .val (.long q3), .second, iv p4, .val (.long q5), .second, iv v1, iv v2, .val (.long q0), .second, .val (.long q1), .second, .val (.long q2), .second, .val (.long q3), .second, .val (.long v4), .second, .unset, .unset, .unset] [(.long q1), (.long q0)])) rfl (by rw [hml]; rfl) (argsL := [(.long q0), (.long q1)]) (rest := []) (lenOf own_pd0 rfl) rfl (by show 2 * 0 + _ ≤ _; exact Nat.le_of_eq rfl) (hb hby at_50) (fun _ _ => ⟨rfl, e3, (by decide : 0 + 0 ≤ _), (by decide : 0 + 0 ≤ _)⟩)
  dsimp only [Pt.U, Pt.locs, Pt.cells, Pt.slots] at X5 l5 y5 z5 st5 hQ5
  subst l5 y5 z5
  obtain ⟨rfl, N5q, e5⟩ := hQ5
  have N5 := Fr.app N3 N5q
  refine ownGo (T' := T5) (f' := (mkF m 53 #[.val (.long q0), .second, .val (.long q1), .second, .val (.long q2), .second, .val (.long q3), .second, iv p4, .val (.long q5), .second, iv v1, iv v2, .val (.long q0), .second, .val (.long q1), .second, .val (.long q2), .second, .val (.long q3), .second, .val (.long v4), .second, .unset, .unset, .unset] [(.long (own_minL q0 q1))])) (st5) ?_
  generalize hv_v6 : (own_minL q0 q1) = v6
  refine ow_lstore (q := 55) X5 hx (L' := #[.val (.long q0), .second, .val (.long q1), .second, .val (.long q2), .second, .val (.long q3), .second, iv p4, .val (.long q5), .second, iv v1, iv v2, .val (.long q0), .second, .val (.long v6), .second, .val (.long q2), .second, .val (.long q3), .second, .val (.long v4), .second, .unset, .unset, .unset]) (hb hby at_53) rfl rfl ?_
  refine ow_lload (q := 57) X5 hx (hb hby at_55) rfl rfl ?_
  refine ow_lstore (q := 59) X5 hx (L' := #[.val (.long q0), .second, .val (.long q1), .second, .val (.long q2), .second, .val (.long q3), .second, iv p4, .val (.long q5), .second, iv v1, iv v2, .val (.long v4), .second, .val (.long v6), .second, .val (.long q2), .second, .val (.long q3), .second, .val (.long v4), .second, .unset, .unset, .unset]) (hb hby at_57) rfl rfl ?_
  refine ow_lload (q := 61) X5 hx (hb hby at_59) rfl rfl ?_
  refine ow_lload (q := 63) X5 hx (hb hby at_61) rfl rfl ?_
  obtain ⟨_, _, ⟨T7, L7, k7, n7⟩, -, X7, ⟨Lc7, hQ7, l7, y7, z7⟩, st7⟩ := Jvm.LawKit.callS X5 hx (y := (⟨"java/lang/Math", "max", "(JJ)J"⟩ : MethodName)) hown (mvT hZ (hw _ (List.mem_of_getElem? (i := 0) rfl))) (mvT hZ (hw _ (List.mem_of_getElem? (i := 1) rfl))) (mvT hZ (hw _ (List.mem_of_getElem? (i := 2) rfl))) (mvT hZ (hw _ (List.mem_of_getElem? (i := 3) rfl))) (by decide) (backOf (W := 0) (rm_maxL l Z a0 hw [] q2 q3 h0 n0 (Nat.le_trans Z0 K0.1) ) hZ (hw _ (List.mem_of_getElem? (i := 3) rfl)) (hw _ (List.mem_of_getElem? (i := 2) rfl)) (by decide) (by decide)) (g := (mkF m 63 #[.val (.long q0), .second, .val (.long q1), .second, .val (.long q2), .second, .val (.long q3), .second, iv p4, .val (.long q5), .second, iv v1, iv v2, .val (.long v4), .second, .val (.long v6), .second, .val (.long q2), .second, .val (.long q3), .second, .val (.long v4), .second, .unset, .unset, .unset] [(.long q3), (.long q2)])) rfl (by rw [hml]; rfl) (argsL := [(.long q2), (.long q3)]) (rest := []) (lenOf own_pd0 rfl) rfl (by show 2 * 0 + _ ≤ _; exact Nat.le_of_eq rfl) (hb hby at_63) (fun _ _ => ⟨rfl, e5, (by decide : 0 + 0 ≤ _), (by decide : 0 + 0 ≤ _)⟩)
  dsimp only [Pt.U, Pt.locs, Pt.cells, Pt.slots] at X7 l7 y7 z7 st7 hQ7
  subst l7 y7 z7
  obtain ⟨rfl, N7q, e7⟩ := hQ7
  have N7 := Fr.app N5 N7q
  refine ownGo (T' := T7) (f' := (mkF m 66 #[.val (.long q0), .second, .val (.long q1), .second, .val (.long q2), .second, .val (.long q3), .second, iv p4, .val (.long q5), .second, iv v1, iv v2, .val (.long v4), .second, .val (.long v6), .second, .val (.long q2), .second, .val (.long q3), .second, .val (.long v4), .second, .unset, .unset, .unset] [(.long (own_maxL q2 q3))])) (st7) ?_
  generalize hv_v8 : (own_maxL q2 q3) = v8
  refine ow_lstore (q := 68) X7 hx (L' := #[.val (.long q0), .second, .val (.long q1), .second, .val (.long q2), .second, .val (.long q3), .second, iv p4, .val (.long q5), .second, iv v1, iv v2, .val (.long v4), .second, .val (.long v6), .second, .val (.long q2), .second, .val (.long q3), .second, .val (.long v8), .second, .unset, .unset, .unset]) (hb hby at_66) rfl rfl ?_
  refine ow_lload (q := 70) X7 hx (hb hby at_68) rfl rfl ?_
  refine ow_lload (q := 72) X7 hx (hb hby at_70) rfl rfl ?_
  obtain ⟨_, _, ⟨T9, L9, k9, n9⟩, -, X9, ⟨Lc9, hQ9, l9, y9, z9⟩, st9⟩ := Jvm.LawKit.callS X7 hx (y := (⟨"java/lang/Math", "min", "(JJ)J"⟩ : MethodName)) hown (mvT hZ (hw _ (List.mem_of_getElem? (i := 4) rfl))) (mvT hZ (hw _ (List.mem_of_getElem? (i := 5) rfl))) (mvT hZ (hw _ (List.mem_of_getElem? (i := 2) rfl))) (mvT hZ (hw _ (List.mem_of_getElem? (i := 6) rfl))) (by decide) (backOf (W := 0) (rm_minL l Z a0 hw [] q2 q3 h0 n0 (Nat.le_trans Z0 K0.1) ) hZ (hw _ (List.mem_of_getElem? (i := 6) rfl)) (hw _ (List.mem_of_getElem? (i := 2) rfl)) (by decide) (by decide)) (g := (mkF m 72 #[.val (.long q0), .second, .val (.long q1), .second, .val (.long q2), .second, .val (.long q3), .second, iv p4, .val (.long q5), .second, iv v1, iv v2, .val (.long v4), .second, .val (.long v6), .second, .val (.long q2), .second, .val (.long q3), .second, .val (.long v8), .second, .unset, .unset, .unset] [(.long q3), (.long q2)])) rfl (by rw [hml]; rfl) (argsL := [(.long q2), (.long q3)]) (rest := []) (lenOf own_pd0 rfl) rfl (by show 2 * 0 + _ ≤ _; exact Nat.le_of_eq rfl) (hb hby at_72) (fun _ _ => ⟨rfl, e7, (by decide : 0 + 0 ≤ _), (by decide : 0 + 0 ≤ _)⟩)
  dsimp only [Pt.U, Pt.locs, Pt.cells, Pt.slots] at X9 l9 y9 z9 st9 hQ9
  subst l9 y9 z9
  obtain ⟨rfl, N9q, e9⟩ := hQ9
  have N9 := Fr.app N7 N9q
  refine ownGo (T' := T9) (f' := (mkF m 75 #[.val (.long q0), .second, .val (.long q1), .second, .val (.long q2), .second, .val (.long q3), .second, iv p4, .val (.long q5), .second, iv v1, iv v2, .val (.long v4), .second, .val (.long v6), .second, .val (.long q2), .second, .val (.long q3), .second, .val (.long v8), .second, .unset, .unset, .unset] [(.long (own_minL q2 q3))])) (st9) ?_
  generalize hv_v10 : (own_minL q2 q3) = v10
  refine ow_lstore (q := 77) X9 hx (L' := #[.val (.long q0), .second, .val (.long q1), .second, .val (.long q2), .second, .val (.long q3), .second, iv p4, .val (.long q5), .second, iv v1, iv v2, .val (.long v4), .second, .val (.long v6), .second, .val (.long q2), .second, .val (.long v10), .second, .val (.long v8), .second, .unset, .unset, .unset]) (hb hby at_75) rfl rfl ?_
  refine ow_lload (q := 79) X9 hx (hb hby at_77) rfl rfl ?_
  refine ow_lstore (q := 81) X9 hx (L' := #[.val (.long q0), .second, .val (.long q1), .second, .val (.long q2), .second, .val (.long q3), .second, iv p4, .val (.long q5), .second, iv v1, iv v2, .val (.long v4), .second, .val (.long v6), .second, .val (.long v8), .second, .val (.long v10), .second, .val (.long v8), .second, .unset, .unset, .unset]) (hb hby at_79) rfl rfl ?_
  refine ow_lload (q := 83) X9 hx (hb hby at_81) rfl rfl ?_
  refine ow_lload (q := 85) X9 hx (hb hby at_83) rfl rfl ?_
  obtain ⟨_, _, ⟨T11, L11, k11, n11⟩, -, X11, ⟨Lc11, hQ11, l11, y11, z11⟩, st11⟩ := Jvm.LawKit.callS X9 hx (y := (⟨"java/lang/Math", "max", "(JJ)J"⟩ : MethodName)) hown (mvT hZ (hw _ (List.mem_of_getElem? (i := 0) rfl))) (mvT hZ (hw _ (List.mem_of_getElem? (i := 1) rfl))) (mvT hZ (hw _ (List.mem_of_getElem? (i := 2) rfl))) (mvT hZ (hw _ (List.mem_of_getElem? (i := 3) rfl))) (by decide) (backOf (W := 0) (rm_maxL l Z a0 hw [] v4 v8 h0 n0 (Nat.le_trans Z0 K0.1) ) hZ (hw _ (List.mem_of_getElem? (i := 3) rfl)) (hw _ (List.mem_of_getElem? (i := 2) rfl)) (by decide) (by decide)) (g := (mkF m 85 #[.val (.long q0), .second, .val (.long q1), .second, .val (.long q2), .second, .val (.long q3), .second, iv p4, .val (.long q5), .second, iv v1, iv v2, .val (.long v4), .second, .val (.long v6), .second, .val (.long v8), .second, .val (.long v10), .second, .val (.long v8), .second, .unset, .unset, .unset] [(.long v8), (.long v4)])) rfl (by rw [hml]; rfl) (argsL := [(.long v4), (.long v8)]) (rest := []) (lenOf own_pd0 rfl) rfl (by show 2 * 0 + _ ≤ _; exact Nat.le_of_eq rfl) (hb hby at_85) (fun _ _ => ⟨rfl, e9, (by decide : 0 + 0 ≤ _), (by decide : 0 + 0 ≤ _)⟩)
  dsimp only [Pt.U, Pt.locs, Pt.cells, Pt.slots] at X11 l11 y11 z11 st11 hQ11
  subst l11 y11 z11
  obtain ⟨rfl, N11q, e11⟩ := hQ11
  have N11 := Fr.app N9 N11q
  refine ownGo (T' := T11) (f' := (mkF m 88 #[.val (.long q0), .second, .val (.long q1), .second, .val (.long q2), .second, .val (.long q3), .second, iv p4, .val (.long q5), .second, iv v1, iv v2, .val (.long v4), .second, .val (.long v6), .second, .val (.long v8), .second, .val (.long v10), .second, .val (.long v8), .second, .unset, .unset, .unset] [(.long (own_maxL v4 v8))])) (st11) ?_
  generalize hv_v12 : (own_maxL v4 v8) = v12
  refine ow_lstore (q := 90) X11 hx (L' := #[.val (.long q0), .second, .val (.long q1), .second, .val (.long q2), .second, .val (.long q3), .second, iv p4, .val (.long q5), .second, iv v1, iv v2, .val (.long v4), .second, .val (.long v6), .second, .val (.long v8), .second, .val (.long v10), .second, .val (.long v12), .second, .unset, .unset, .unset]) (hb hby at_88) rfl rfl ?_
  refine ow_lload (q := 92) X11 hx (hb hby at_90) rfl rfl ?_
  refine ow_lload (q := 94) X11 hx (hb hby at_92) rfl rfl ?_
  obtain ⟨_, _, ⟨T13, L13, k13, n13⟩, -, X13, ⟨Lc13, hQ13, l13, y13, z13⟩, st13⟩ := Jvm.LawKit.callS X11 hx (y := (⟨"java/lang/Math", "min", "(JJ)J"⟩ : MethodName)) hown (mvT hZ (hw _ (List.mem_of_getElem? (i := 4) rfl))) (mvT hZ (hw _ (List.mem_of_getElem? (i := 5) rfl))) (mvT hZ (hw _ (List.mem_of_getElem? (i := 2) rfl))) (mvT hZ (hw _ (List.mem_of_getElem? (i := 6) rfl))) (by decide) (backOf (W := 0) (rm_minL l Z a0 hw [] v4 v8 h0 n0 (Nat.le_trans Z0 K0.1) ) hZ (hw _ (List.mem_of_getElem? (i := 6) rfl)) (hw _ (List.mem_of_getElem? (i := 2) rfl)) (by decide) (by decide)) (g := (mkF m 94 #[.val (.long q0), .second, .val (.long q1), .second, .val (.long q2), .second, .val (.long q3), .second, iv p4, .val (.long q5), .second, iv v1, iv v2, .val (.long v4), .second, .val (.long v6), .second, .val (.long v8), .second, .val (.long v10), .second, .val (.long v12), .second, .unset, .unset, .unset] [(.long v8), (.long v4)])) rfl (by rw [hml]; rfl) (argsL := [(.long v4), (.long v8)]) (rest := []) (lenOf own_pd0 rfl) rfl (by show 2 * 0 + _ ≤ _; exact Nat.le_of_eq rfl) (hb hby at_94) (fun _ _ => ⟨rfl, e11, (by decide : 0 + 0 ≤ _), (by decide : 0 + 0 ≤ _)⟩)
  dsimp only [Pt.U, Pt.locs, Pt.cells, Pt.slots] at X13 l13 y13 z13 st13 hQ13
  subst l13 y13 z13
  obtain ⟨rfl, N13q, e13⟩ := hQ13
  have N13 := Fr.app N11 N13q
  refine ownGo (T' := T13) (f' := (mkF m 97 #[.val (.long q0), .second, .val (.long q1), .second, .val (.long q2), .second, .val (.long q3), .second, iv p4, .val (.long q5), .second, iv v1, iv v2, .val (.long v4), .second, .val (.long v6), .second, .val (.long v8), .second, .val (.long v10), .second, .val (.long v12), .second, .unset, .unset, .unset] [(.long (own_minL v4 v8))])) (st13) ?_
  generalize hv_v14 : (own_minL v4 v8) = v14
  refine ow_lstore (q := 99) X13 hx (L' := #[.val (.long q0), .second, .val (.long q1), .second, .val (.long q2), .second, .val (.long q3), .second, iv p4, .val (.long q5), .second, iv v1, iv v2, .val (.long v4), .second, .val (.long v6), .second, .val (.long v14), .second, .val (.long v10), .second, .val (.long v12), .second, .unset, .unset, .unset]) (hb hby at_97) rfl rfl ?_
  refine ow_lload (q := 101) X13 hx (hb hby at_99) rfl rfl ?_
  refine ow_lstore (q := 103) X13 hx (L' := #[.val (.long q0), .second, .val (.long q1), .second, .val (.long q2), .second, .val (.long q3), .second, iv p4, .val (.long q5), .second, iv v1, iv v2, .val (.long v12), .second, .val (.long v6), .second, .val (.long v14), .second, .val (.long v10), .second, .val (.long v12), .second, .unset, .unset, .unset]) (hb hby at_101) rfl rfl ?_
  refine ow_lload (q := 105) X13 hx (hb hby at_103) rfl rfl ?_
  refine ow_lload (q := 107) X13 hx (hb hby at_105) rfl rfl ?_
  obtain ⟨_, _, ⟨T15, L15, k15, n15⟩, -, X15, ⟨Lc15, hQ15, l15, y15, z15⟩, st15⟩ := Jvm.LawKit.callS X13 hx (y := (⟨"java/lang/Math", "max", "(JJ)J"⟩ : MethodName)) hown (mvT hZ (hw _ (List.mem_of_getElem? (i := 0) rfl))) (mvT hZ (hw _ (List.mem_of_getElem? (i := 1) rfl))) (mvT hZ (hw _ (List.mem_of_getElem? (i := 2) rfl))) (mvT hZ (hw _ (List.mem_of_getElem? (i := 3) rfl))) (by decide) (backOf (W := 0) (rm_maxL l Z a0 hw [] v6 v10 h0 n0 (Nat.le_trans Z0 K0.1) ) hZ (hw _ (List.mem_of_getElem? (i := 3) rfl)) (hw _ (List.mem_of_getElem? (i := 2) rfl)) (by decide) (by decide)) (g := (mkF m 107 #[.val (.long q0), .second, .val (.long q1), .second, .val (.long q2), .second, .val (.long q3), .second, iv p4, .val (.long q5), .second, iv v1, iv v2, .val (.long v12), .second, .val (.long v6), .second, .val (.long v14), .second, .val (.long v10), .second, .val (.long v12), .second, .unset, .unset, .unset] [(.long v10), (.long v6)])) rfl (by rw [hml]; rfl) (argsL := [(.long v6), (.long v10)]) (rest := []) (lenOf own_pd0 rfl) rfl (by show 2 * 0 + _ ≤ _; exact Nat.le_of_eq rfl) (hb hby at_107) (fun _ _ => ⟨rfl, e13, (by decide : 0 + 0 ≤ _), (by decide : 0 + 0 ≤ _)⟩)
  dsimp only [Pt.U, Pt.locs, Pt.cells, Pt.slots] at X15 l15 y15 z15 st15 hQ15
  subst l15 y15 z15
  obtain ⟨rfl, N15q, e15⟩ := hQ15
  have N15 := Fr.app N13 N15q
  refine ownGo (T' := T15) (f' := (mkF m 110 #[.val (.long q0), .second, .val (.long q1), .second, .val (.long q2), .second, .val (.long q3), .second, iv p4, .val (.long q5), .second, iv v1, iv v2, .val (.long v12), .second, .val (.long v6), .second, .val (.long v14), .second, .val (.long v10), .second, .val (.long v12), .second, .unset, .unset, .unset] [(.long (own_maxL v6 v10))])) (st15) ?_
  generalize hv_v16 : (own_maxL v6 v10) = v16
  refine ow_lstore (q := 112) X15 hx (L' := #[.val (.long q0), .second, .val (.long q1), .second, .val (.long q2), .second, .val (.long q3), .second, iv p4, .val (.long q5), .second, iv v1, iv v2, .val (.long v12), .second, .val (.long v6), .second, .val (.long v14), .second, .val (.long v10), .second, .val (.long v16), .second, .unset, .unset, .unset]) (hb hby at_110) rfl rfl ?_
  refine ow_lload (q := 114) X15 hx (hb hby at_112) rfl rfl ?_
  refine ow_lload (q := 116) X15 hx (hb hby at_114) rfl rfl ?_
  obtain ⟨_, _, ⟨T17, L17, k17, n17⟩, -, X17, ⟨Lc17, hQ17, l17, y17, z17⟩, st17⟩ := Jvm.LawKit.callS X15 hx (y := (⟨"java/lang/Math", "min", "(JJ)J"⟩ : MethodName)) hown (mvT hZ (hw _ (List.mem_of_getElem? (i := 4) rfl))) (mvT hZ (hw _ (List.mem_of_getElem? (i := 5) rfl))) (mvT hZ (hw _ (List.mem_of_getElem? (i := 2) rfl))) (mvT hZ (hw _ (List.mem_of_getElem? (i := 6) rfl))) (by decide) (backOf (W := 0) (rm_minL l Z a0 hw [] v6 v10 h0 n0 (Nat.le_trans Z0 K0.1) ) hZ (hw _ (List.mem_of_getElem? (i := 6) rfl)) (hw _ (List.mem_of_getElem? (i := 2) rfl)) (by decide) (by decide)) (g := (mkF m 116 #[.val (.long q0), .second, .val (.long q1), .second, .val (.long q2), .second, .val (.long q3), .second, iv p4, .val (.long q5), .second, iv v1, iv v2, .val (.long v12), .second, .val (.long v6), .second, .val (.long v14), .second, .val (.long v10), .second, .val (.long v16), .second, .unset, .unset, .unset] [(.long v10), (.long v6)])) rfl (by rw [hml]; rfl) (argsL := [(.long v6), (.long v10)]) (rest := []) (lenOf own_pd0 rfl) rfl (by show 2 * 0 + _ ≤ _; exact Nat.le_of_eq rfl) (hb hby at_116) (fun _ _ => ⟨rfl, e15, (by decide : 0 + 0 ≤ _), (by decide : 0 + 0 ≤ _)⟩)
  dsimp only [Pt.U, Pt.locs, Pt.cells, Pt.slots] at X17 l17 y17 z17 st17 hQ17
  subst l17 y17 z17
  obtain ⟨rfl, N17q, e17⟩ := hQ17
  have N17 := Fr.app N15 N17q
  refine ownGo (T' := T17) (f' := (mkF m 119 #[.val (.long q0), .second, .val (.long q1), .second, .val (.long q2), .second, .val (.long q3), .second, iv p4, .val (.long q5), .second, iv v1, iv v2, .val (.long v12), .second, .val (.long v6), .second, .val (.long v14), .second, .val (.long v10), .second, .val (.long v16), .second, .unset, .unset, .unset] [(.long (own_minL v6 v10))])) (st17) ?_
  generalize hv_v18 : (own_minL v6 v10) = v18
  refine ow_lstore (q := 121) X17 hx (L' := #[.val (.long q0), .second, .val (.long q1), .second, .val (.long q2), .second, .val (.long q3), .second, iv p4, .val (.long q5), .second, iv v1, iv v2, .val (.long v12), .second, .val (.long v6), .second, .val (.long v14), .second, .val (.long v18), .second, .val (.long v16), .second, .unset, .unset, .unset]) (hb hby at_119) rfl rfl ?_
  refine ow_lload (q := 123) X17 hx (hb hby at_121) rfl rfl ?_
  refine ow_lstore (q := 125) X17 hx (L' := #[.val (.long q0), .second, .val (.long q1), .second, .val (.long q2), .second, .val (.long q3), .second, iv p4, .val (.long q5), .second, iv v1, iv v2, .val (.long v12), .second, .val (.long v16), .second, .val (.long v14), .second, .val (.long v18), .second, .val (.long v16), .second, .unset, .unset, .unset]) (hb hby at_123) rfl rfl ?_
  refine ow_lload (q := 127) X17 hx (hb hby at_125) rfl rfl ?_
  refine ow_lload (q := 129) X17 hx (hb hby at_127) rfl rfl ?_
  obtain ⟨_, _, ⟨T19, L19, k19, n19⟩, -, X19, ⟨Lc19, hQ19, l19, y19, z19⟩, st19⟩ := Jvm.LawKit.callS X17 hx (y := (⟨"java/lang/Math", "max", "(JJ)J"⟩ : MethodName)) hown (mvT hZ (hw _ (List.mem_of_getElem? (i := 0) rfl))) (mvT hZ (hw _ (List.mem_of_getElem? (i := 1) rfl))) (mvT hZ (hw _ (List.mem_of_getElem? (i := 2) rfl))) (mvT hZ (hw _ (List.mem_of_getElem? (i := 3) rfl))) (by decide) (backOf (W := 0) (rm_maxL l Z a0 hw [] v16 v14 h0 n0 (Nat.le_trans Z0 K0.1) ) hZ (hw _ (List.mem_of_getElem? (i := 3) rfl)) (hw _ (List.mem_of_getElem? (i := 2) rfl)) (by decide) (by decide)) (g := (mkF m 129 #[.val (.long q0), .second, .val (.long q1), .second, .val (.long q2), .second, .val (.long q3), .second, iv p4, .val (.long q5), .second, iv v1, iv v2, .val (.long v12), .second, .val (.long v16), .second, .val (.long v14), .second, .val (.long v18), .second, .val (.long v16), .second, .unset, .unset, .unset] [(.long v14), (.long v16)])) rfl (by rw [hml]; rfl) (argsL := [(.long v16), (.long v14)]) (rest := []) (lenOf own_pd0 rfl) rfl (by show 2 * 0 + _ ≤ _; exact Nat.le_of_eq rfl) (hb hby at_129) (fun _ _ => ⟨rfl, e17, (by decide : 0 + 0 ≤ _), (by decide : 0 + 0 ≤ _)⟩)
  dsimp only [Pt.U, Pt.locs, Pt.cells, Pt.slots] at X19 l19 y19 z19 st19 hQ19
  subst l19 y19 z19
  obtain ⟨rfl, N19q, e19⟩ := hQ19
  have N19 := Fr.app N17 N19q
  refine ownGo (T' := T19) (f' := (mkF m 132 #[.val (.long q0), .second, .val (.long q1), .second, .val (.long q2), .second, .val (.long q3), .second, iv p4, .val (.long q5), .second, iv v1, iv v2, .val (.long v12), .second, .val (.long v16), .second, .val (.long v14), .second, .val (.long v18), .second, .val (.long v16), .second, .unset, .unset, .unset] [(.long (own_maxL v16 v14))])) (st19) ?_
  generalize hv_v20 : (own_maxL v16 v14) = v20
  refine ow_lstore (q := 134) X19 hx (L' := #[.val (.long q0), .second, .val (.long q1), .second, .val (.long q2), .second, .val (.long q3), .second, iv p4, .val (.long q5), .second, iv v1, iv v2, .val (.long v12), .second, .val (.long v16), .second, .val (.long v14), .second, .val (.long v18), .second, .val (.long v20), .second, .unset, .unset, .unset]) (hb hby at_132) rfl rfl ?_
  refine ow_lload (q := 136) X19 hx (hb hby at_134) rfl rfl ?_
  refine ow_lload (q := 138) X19 hx (hb hby at_136) rfl rfl ?_
  obtain ⟨_, _, ⟨T21, L21, k21, n21⟩, -, X21, ⟨Lc21, hQ21, l21, y21, z21⟩, st21⟩ := Jvm.LawKit.callS X19 hx (y := (⟨"java/lang/Math", "min", "(JJ)J"⟩ : MethodName)) hown (mvT hZ (hw _ (List.mem_of_getElem? (i := 4) rfl))) (mvT hZ (hw _ (List.mem_of_getElem? (i := 5) rfl))) (mvT hZ (hw _ (List.mem_of_getElem? (i := 2) rfl))) (mvT hZ (hw _ (List.mem_of_getElem? (i := 6) rfl))) (by decide) (backOf (W := 0) (rm_minL l Z a0 hw [] v16 v14 h0 n0 (Nat.le_trans Z0 K0.1) ) hZ (hw _ (List.mem_of_getElem? (i := 6) rfl)) (hw _ (List.mem_of_getElem? (i := 2) rfl)) (by decide) (by decide)) (g := (mkF m 138 #[.val (.long q0), .second, .val (.long q1), .second, .val (.long q2), .second, .val (.long q3), .second, iv p4, .val (.long q5), .second, iv v1, iv v2, .val (.long v12), .second, .val (.long v16), .second, .val (.long v14), .second, .val (.long v18), .second, .val (.long v20), .second, .unset, .unset, .unset] [(.long v14), (.long v16)])) rfl (by rw [hml]; rfl) (argsL := [(.long v16), (.long v14)]) (rest := []) (lenOf own_pd0 rfl) rfl (by show 2 * 0 + _ ≤ _; exact Nat.le_of_eq rfl) (hb hby at_138) (fun _ _ => ⟨rfl, e19, (by decide : 0 + 0 ≤ _), (by decide : 0 + 0 ≤ _)⟩)
  dsimp only [Pt.U, Pt.locs, Pt.cells, Pt.slots] at X21 l21 y21 z21 st21 hQ21
  subst l21 y21 z21
  obtain ⟨rfl, N21q, e21⟩ := hQ21
  have N21 := Fr.app N19 N21q
  refine ownGo (T' := T21) (f' := (mkF m 141 #[.val (.long q0), .second, .val (.long q1), .second, .val (.long q2), .second, .val (.long q3), .second, iv p4, .val (.long q5), .second, iv v1, iv v2, .val (.long v12), .second, .val (.long v16), .second, .val (.long v14), .second, .val (.long v18), .second, .val (.long v20), .second, .unset, .unset, .unset] [(.long (own_minL v16 v14))])) (st21) ?_
  generalize hv_v22 : (own_minL v16 v14) = v22
  refine ow_lstore (q := 143) X21 hx (L' := #[.val (.long q0), .second, .val (.long q1), .second, .val (.long q2), .second, .val (.long q3), .second, iv p4, .val (.long q5), .second, iv v1, iv v2, .val (.long v12), .second, .val (.long v16), .second, .val (.long v22), .second, .val (.long v18), .second, .val (.long v20), .second, .unset, .unset, .unset]) (hb hby at_141) rfl rfl ?_
  refine ow_lload (q := 145) X21 hx (hb hby at_143) rfl rfl ?_
  refine ow_lstore (q := 147) X21 hx (L' := #[.val (.long q0), .second, .val (.long q1), .second, .val (.long q2), .second, .val (.long q3), .second, iv p4, .val (.long q5), .second, iv v1, iv v2, .val (.long v12), .second, .val (.long v20), .second, .val (.long v22), .second, .val (.long v18), .second, .val (.long v20), .second, .unset, .unset, .unset]) (hb hby at_145) rfl rfl ?_
  have cut147_23 : ∀ (x0 : Int64) (x1 : Int64) (x2 : Int64) (x3 : Int64) (xt : Int64) (Tc23 : State) (lc23 : List Loc), Stand p l e room_1 s m #[(.long q0), (.long q1), (.long q2), (.long q3), (.int p4), (.long q5)] below meth c Tc23 lc23 0 0 → Tc23.heap = h0 → Fr n0 lc23 → (¬ x0 < x1 ∧ ¬ x1 < x2 ∧ ¬ x2 < x3) → ownEnds p e below s (Q_law Z q0 q1 q2 q3 p4 q5 h0 n0) 16 128 Tc23 (mkF m 147 #[.val (.long q0), .second, .val (.long q1), .second, .val (.long q2), .second, .val (.long q3), .second, iv p4, .val (.long q5), .second, iv v1, iv v2, .val (.long x0), .second, .val (.long x1), .second, .val (.long x2), .second, .val (.long x3), .second, .val (.long xt), .second, .unset, .unset, .unset] []) := by
    intro x0 x1 x2 x3 xt Tc23 lc23 Xc23 ec23 Nc23 hs
    refine ow_iload (q := 149) Xc23 hx (hb hby at_147) rfl rfl ?_
    rcases own_len hv_v1 with hs24 | hs25 | hs26 | hs27 | hs28
    · subst hs24
      have hs29 := own_from0 hv_v2
      subst hs29
      refine ow_lload (q := 151) Xc23 hx (hb hby at_149) rfl rfl ?_
      refine ow_lload (q := 153) Xc23 hx (hb hby at_151) rfl rfl ?_
      refine ow_lload (q := 155) Xc23 hx (hb hby at_153) rfl rfl ?_
      refine ow_lload (q := 157) Xc23 hx (hb hby at_155) rfl rfl ?_
      obtain ⟨_, _, ⟨T30, L30, k30, n30⟩, -, X30, ⟨Lc30, hQ30, l30, y30, z30⟩, st30⟩ := Jvm.LawKit.callS Xc23 hx (y := (⟨"com/example/chromabin/chromabin/packing/PackingFirstAtMostPinLaw", "make", "(IJJJJ)[J"⟩ : MethodName)) hown (mvT hZ (hw _ (List.mem_of_getElem? (i := 7) rfl))) (mvT hZ (hw _ (List.mem_of_getElem? (i := 8) rfl))) (mvT hZ (hw _ (List.mem_of_getElem? (i := 9) rfl))) (mvT hZ (hw _ (List.mem_of_getElem? (i := 10) rfl))) (by decide) (backOf (W := 0) (rm_make_0 l Z a0 hw [] x0 x1 x2 x3 h0 n0 (Nat.le_trans Z0 K0.1) ) hZ (hw _ (List.mem_of_getElem? (i := 10) rfl)) (hw _ (List.mem_of_getElem? (i := 9) rfl)) (by decide) (by decide)) (g := (mkF m 157 #[.val (.long q0), .second, .val (.long q1), .second, .val (.long q2), .second, .val (.long q3), .second, iv p4, .val (.long q5), .second, iv (0 : Int32), iv (0 : Int32), .val (.long x0), .second, .val (.long x1), .second, .val (.long x2), .second, .val (.long x3), .second, .val (.long xt), .second, .unset, .unset, .unset] [(.long x3), (.long x2), (.long x1), (.long x0), (.int (0 : Int32))])) rfl (by rw [hml]; rfl) (argsL := [(.int (0 : Int32)), (.long x0), (.long x1), (.long x2), (.long x3)]) (rest := []) (lenOf own_pd1 rfl) rfl (by show 2 * 0 + _ ≤ _; exact Nat.le_of_eq rfl) (hb hby at_157) (fun _ _ => ⟨rfl, ec23, (by decide : 0 + 1 ≤ _), (by decide : 0 + 0 ≤ _)⟩)
      dsimp only [Pt.U, Pt.locs, Pt.cells, Pt.slots] at X30 l30 y30 z30 st30 hQ30
      subst l30 y30 z30
      obtain ⟨b30, rfl, N30q, Kq30, sq30_b30, FP30_0⟩ := hQ30
      have N30 := Fr.app Nc23 N30q
      have K30 : Keep h0 T30.heap [] := K0.trans Kq30 all0
      have sz_b30 : h0.size ≤ b30 := Nat.le_trans K0.1 sq30_b30
      have G_b30 : n0 ≤ b30 := Nat.le_trans Z0 sz_b30
      refine ownGo (T' := T30) (f' := (mkF m 160 #[.val (.long q0), .second, .val (.long q1), .second, .val (.long q2), .second, .val (.long q3), .second, iv p4, .val (.long q5), .second, iv (0 : Int32), iv (0 : Int32), .val (.long x0), .second, .val (.long x1), .second, .val (.long x2), .second, .val (.long x3), .second, .val (.long xt), .second, .unset, .unset, .unset] [(.ref b30)])) (st30) ?_
      refine ow_astore (q := 162) X30 hx (L' := #[.val (.long q0), .second, .val (.long q1), .second, .val (.long q2), .second, .val (.long q3), .second, iv p4, .val (.long q5), .second, iv (0 : Int32), iv (0 : Int32), .val (.long x0), .second, .val (.long x1), .second, .val (.long x2), .second, .val (.long x3), .second, .val (.long xt), .second, rv b30, .unset, .unset]) (hb hby at_160) rfl rfl rfl ?_
      refine ow_aload (q := 164) X30 hx (hb hby at_162) rfl rfl rfl ?_
      refine ow_iload (q := 166) X30 hx (hb hby at_164) rfl rfl ?_
      refine ow_lload (q := 168) X30 hx (hb hby at_166) rfl rfl ?_
      obtain ⟨_, _, ⟨T31, L31, k31, n31⟩, -, X31, ⟨Lc31, hQ31, l31, y31, z31⟩, st31⟩ := Jvm.LawKit.callS X30 hx (y := (⟨"com/example/chromabin/chromabin/packing/Packing", "firstAtMost", "([JIJ)I"⟩ : MethodName)) hown (mvT hZ (hw _ (List.mem_of_getElem? (i := 12) rfl))) (mvT hZ (hw _ (List.mem_of_getElem? (i := 13) rfl))) (mvT hZ (hw _ (List.mem_of_getElem? (i := 14) rfl))) (mvT hZ (hw _ (List.mem_of_getElem? (i := 15) rfl))) (by decide) (backOf (W := 0) (rm_fam_0_0 l Z a0 hw [] b30 q5 (fun _ => (0 : Int64)) T30.heap n0 (Nat.le_trans Z0 K30.1) FP30_0) hZ (hw _ (List.mem_of_getElem? (i := 15) rfl)) (hw _ (List.mem_of_getElem? (i := 14) rfl)) (by decide) (by decide)) (g := (mkF m 168 #[.val (.long q0), .second, .val (.long q1), .second, .val (.long q2), .second, .val (.long q3), .second, iv p4, .val (.long q5), .second, iv (0 : Int32), iv (0 : Int32), .val (.long x0), .second, .val (.long x1), .second, .val (.long x2), .second, .val (.long x3), .second, .val (.long xt), .second, rv b30, .unset, .unset] [(.long q5), (.int (0 : Int32)), (.ref b30)])) rfl (by rw [hml]; rfl) (argsL := [(.ref b30), (.int (0 : Int32)), (.long q5)]) (rest := []) (lenOf own_pd2 rfl) rfl (by show 2 * 0 + _ ≤ _; exact Nat.le_of_eq rfl) (hb hby at_168) (fun _ _ => ⟨rfl, rfl, (by decide : 1 + 0 ≤ _), (by decide : 0 + 0 ≤ _)⟩)
      dsimp only [Pt.U, Pt.locs, Pt.cells, Pt.slots] at X31 l31 y31 z31 st31 hQ31
      subst l31 y31 z31
      obtain ⟨rfl, N31q, e31⟩ := hQ31
      have N31 := Fr.app N30 N31q
      refine ownGo (T' := T31) (f' := (mkF m 171 #[.val (.long q0), .second, .val (.long q1), .second, .val (.long q2), .second, .val (.long q3), .second, iv p4, .val (.long q5), .second, iv (0 : Int32), iv (0 : Int32), .val (.long x0), .second, .val (.long x1), .second, .val (.long x2), .second, .val (.long x3), .second, .val (.long xt), .second, rv b30, .unset, .unset] [(.int (0 : Int32))])) (st31) ?_
      refine ow_istore (q := 173) X31 hx (L' := #[.val (.long q0), .second, .val (.long q1), .second, .val (.long q2), .second, .val (.long q3), .second, iv p4, .val (.long q5), .second, iv (0 : Int32), iv (0 : Int32), .val (.long x0), .second, .val (.long x1), .second, .val (.long x2), .second, .val (.long x3), .second, .val (.long xt), .second, rv b30, iv (0 : Int32), .unset]) (hb hby at_171) rfl rfl ?_
      refine ow_iload (q := 175) X31 hx (hb hby at_173) rfl rfl ?_
      refine ow_istore (q := 177) X31 hx (L' := #[.val (.long q0), .second, .val (.long q1), .second, .val (.long q2), .second, .val (.long q3), .second, iv p4, .val (.long q5), .second, iv (0 : Int32), iv (0 : Int32), .val (.long x0), .second, .val (.long x1), .second, .val (.long x2), .second, .val (.long x3), .second, .val (.long xt), .second, rv b30, iv (0 : Int32), iv (0 : Int32)]) (hb hby at_175) rfl rfl ?_
      have cut267_32 : ∀ (w267 : Int32) (Tc32 : State) (lc32 : List Loc), Stand p l e room_1 s m #[(.long q0), (.long q1), (.long q2), (.long q3), (.int p4), (.long q5)] below meth c Tc32 lc32 1 0 → Tc32.heap = T30.heap → Fr n0 lc32 → (w267 = (0 : Int32)) → ownEnds p e below s (Q_law Z q0 q1 q2 q3 p4 q5 h0 n0) 16 128 Tc32 (mkF m 267 #[.val (.long q0), .second, .val (.long q1), .second, .val (.long q2), .second, .val (.long q3), .second, iv p4, .val (.long q5), .second, iv (0 : Int32), iv (0 : Int32), .val (.long x0), .second, .val (.long x1), .second, .val (.long x2), .second, .val (.long x3), .second, .val (.long xt), .second, rv b30, iv (0 : Int32), iv w267] []) := by
        intro w267 Tc32 lc32 Xc32 ec32 Nc32 hw267
        refine ow_iload (q := 269) Xc32 hx (hb hby at_267) rfl rfl ?_
        refine ow_iload (q := 271) Xc32 hx (hb hby at_269) rfl rfl ?_
        refine ow_icmpNo (q := 274) Xc32 hx (hb hby at_271) rfl (Jvm.Free.XT.ii_ne_f hw267.symm) ?_
        refine ow_iconst (q := 275) Xc32 hx (1 : Int32) (hb hby at_274) rfl rfl ?_
        refine ow_goto (q := 279) Xc32 hx (hb hby at_275) (by decide) (by decide) ?_
        refine ownRetN Xc32 hx (r := (1 : Int32)) (Or.inl rfl) Bd.returns (hb hby at_279) hlk (by decide) (by decide) (by decide) ?_
        exact ⟨rfl, Nc32⟩
      have cut246_33 : ∀ (w246 : Int32) (Tc33 : State) (lc33 : List Loc), Stand p l e room_1 s m #[(.long q0), (.long q1), (.long q2), (.long q3), (.int p4), (.long q5)] below meth c Tc33 lc33 1 0 → Tc33.heap = T30.heap → Fr n0 lc33 → (w246 = (0 : Int32)) → ownEnds p e below s (Q_law Z q0 q1 q2 q3 p4 q5 h0 n0) 16 128 Tc33 (mkF m 246 #[.val (.long q0), .second, .val (.long q1), .second, .val (.long q2), .second, .val (.long q3), .second, iv p4, .val (.long q5), .second, iv (0 : Int32), iv (0 : Int32), .val (.long x0), .second, .val (.long x1), .second, .val (.long x2), .second, .val (.long x3), .second, .val (.long xt), .second, rv b30, iv (0 : Int32), iv w246] []) := by
        intro w246 Tc33 lc33 Xc33 ec33 Nc33 hw246
        refine ow_iload (q := 248) Xc33 hx (hb hby at_246) rfl rfl ?_
        refine ow_ifYes (q := 267) Xc33 hx (hb hby at_248) (Jvm.Free.XT.i0_le_t (by decide)) (by decide) (by decide) ?_
        exact cut267_32 w246 _ _ Xc33 ec33 Nc33 (by first | rfl | exact hw246 | simp [hw246])
      have cut223_34 : ∀ (w223 : Int32) (Tc34 : State) (lc34 : List Loc), Stand p l e room_1 s m #[(.long q0), (.long q1), (.long q2), (.long q3), (.int p4), (.long q5)] below meth c Tc34 lc34 1 0 → Tc34.heap = T30.heap → Fr n0 lc34 → (w223 = (0 : Int32)) → ownEnds p e below s (Q_law Z q0 q1 q2 q3 p4 q5 h0 n0) 16 128 Tc34 (mkF m 223 #[.val (.long q0), .second, .val (.long q1), .second, .val (.long q2), .second, .val (.long q3), .second, iv p4, .val (.long q5), .second, iv (0 : Int32), iv (0 : Int32), .val (.long x0), .second, .val (.long x1), .second, .val (.long x2), .second, .val (.long x3), .second, .val (.long xt), .second, rv b30, iv (0 : Int32), iv w223] []) := by
        intro w223 Tc34 lc34 Xc34 ec34 Nc34 hw223
        refine ow_iload (q := 225) Xc34 hx (hb hby at_223) rfl rfl ?_
        refine ow_iconst (q := 226) Xc34 hx (1 : Int32) (hb hby at_225) rfl rfl ?_
        refine ow_icmpYes (q := 246) Xc34 hx (hb hby at_226) (Jvm.Free.XT.ii_le_t (by decide)) (by decide) (by decide) ?_
        exact cut246_33 w223 _ _ Xc34 ec34 Nc34 (by first | rfl | exact hw223 | simp [hw223])
      have cut200_35 : ∀ (w200 : Int32) (Tc35 : State) (lc35 : List Loc), Stand p l e room_1 s m #[(.long q0), (.long q1), (.long q2), (.long q3), (.int p4), (.long q5)] below meth c Tc35 lc35 1 0 → Tc35.heap = T30.heap → Fr n0 lc35 → (w200 = (0 : Int32)) → ownEnds p e below s (Q_law Z q0 q1 q2 q3 p4 q5 h0 n0) 16 128 Tc35 (mkF m 200 #[.val (.long q0), .second, .val (.long q1), .second, .val (.long q2), .second, .val (.long q3), .second, iv p4, .val (.long q5), .second, iv (0 : Int32), iv (0 : Int32), .val (.long x0), .second, .val (.long x1), .second, .val (.long x2), .second, .val (.long x3), .second, .val (.long xt), .second, rv b30, iv (0 : Int32), iv w200] []) := by
        intro w200 Tc35 lc35 Xc35 ec35 Nc35 hw200
        refine ow_iload (q := 202) Xc35 hx (hb hby at_200) rfl rfl ?_
        refine ow_iconst (q := 203) Xc35 hx (2 : Int32) (hb hby at_202) rfl rfl ?_
        refine ow_icmpYes (q := 223) Xc35 hx (hb hby at_203) (Jvm.Free.XT.ii_le_t (by decide)) (by decide) (by decide) ?_
        exact cut223_34 w200 _ _ Xc35 ec35 Nc35 (by first | rfl | exact hw200 | simp [hw200])
      refine ow_iload (q := 179) X31 hx (hb hby at_177) rfl rfl ?_
      refine ow_iconst (q := 180) X31 hx (3 : Int32) (hb hby at_179) rfl rfl ?_
      refine ow_icmpYes (q := 200) X31 hx (hb hby at_180) (Jvm.Free.XT.ii_le_t (by decide)) (by decide) (by decide) ?_
      exact cut200_35 (0 : Int32) _ _ X31 e31 N31 (by first | rfl | simp [])
    · subst hs25
      rcases own_from1 hv_v2 with hs36 | hs37
      · subst hs36
        refine ow_lload (q := 151) Xc23 hx (hb hby at_149) rfl rfl ?_
        refine ow_lload (q := 153) Xc23 hx (hb hby at_151) rfl rfl ?_
        refine ow_lload (q := 155) Xc23 hx (hb hby at_153) rfl rfl ?_
        refine ow_lload (q := 157) Xc23 hx (hb hby at_155) rfl rfl ?_
        obtain ⟨_, _, ⟨T38, L38, k38, n38⟩, -, X38, ⟨Lc38, hQ38, l38, y38, z38⟩, st38⟩ := Jvm.LawKit.callS Xc23 hx (y := (⟨"com/example/chromabin/chromabin/packing/PackingFirstAtMostPinLaw", "make", "(IJJJJ)[J"⟩ : MethodName)) hown (mvT hZ (hw _ (List.mem_of_getElem? (i := 7) rfl))) (mvT hZ (hw _ (List.mem_of_getElem? (i := 8) rfl))) (mvT hZ (hw _ (List.mem_of_getElem? (i := 9) rfl))) (mvT hZ (hw _ (List.mem_of_getElem? (i := 10) rfl))) (by decide) (backOf (W := 0) (rm_make_1 l Z a0 hw [] x0 x1 x2 x3 h0 n0 (Nat.le_trans Z0 K0.1) ) hZ (hw _ (List.mem_of_getElem? (i := 10) rfl)) (hw _ (List.mem_of_getElem? (i := 9) rfl)) (by decide) (by decide)) (g := (mkF m 157 #[.val (.long q0), .second, .val (.long q1), .second, .val (.long q2), .second, .val (.long q3), .second, iv p4, .val (.long q5), .second, iv (1 : Int32), iv (0 : Int32), .val (.long x0), .second, .val (.long x1), .second, .val (.long x2), .second, .val (.long x3), .second, .val (.long xt), .second, .unset, .unset, .unset] [(.long x3), (.long x2), (.long x1), (.long x0), (.int (1 : Int32))])) rfl (by rw [hml]; rfl) (argsL := [(.int (1 : Int32)), (.long x0), (.long x1), (.long x2), (.long x3)]) (rest := []) (lenOf own_pd1 rfl) rfl (by show 2 * 0 + _ ≤ _; exact Nat.le_of_eq rfl) (hb hby at_157) (fun _ _ => ⟨rfl, ec23, (by decide : 0 + 1 ≤ _), (by decide : 0 + 1 ≤ _)⟩)
        dsimp only [Pt.U, Pt.locs, Pt.cells, Pt.slots] at X38 l38 y38 z38 st38 hQ38
        subst l38 y38 z38
        obtain ⟨b38, rfl, N38q, Kq38, sq38_b38, FP38_0⟩ := hQ38
        have N38 := Fr.app Nc23 N38q
        have K38 : Keep h0 T38.heap [] := K0.trans Kq38 all0
        have sz_b38 : h0.size ≤ b38 := Nat.le_trans K0.1 sq38_b38
        have G_b38 : n0 ≤ b38 := Nat.le_trans Z0 sz_b38
        refine ownGo (T' := T38) (f' := (mkF m 160 #[.val (.long q0), .second, .val (.long q1), .second, .val (.long q2), .second, .val (.long q3), .second, iv p4, .val (.long q5), .second, iv (1 : Int32), iv (0 : Int32), .val (.long x0), .second, .val (.long x1), .second, .val (.long x2), .second, .val (.long x3), .second, .val (.long xt), .second, .unset, .unset, .unset] [(.ref b38)])) (st38) ?_
        refine ow_astore (q := 162) X38 hx (L' := #[.val (.long q0), .second, .val (.long q1), .second, .val (.long q2), .second, .val (.long q3), .second, iv p4, .val (.long q5), .second, iv (1 : Int32), iv (0 : Int32), .val (.long x0), .second, .val (.long x1), .second, .val (.long x2), .second, .val (.long x3), .second, .val (.long xt), .second, rv b38, .unset, .unset]) (hb hby at_160) rfl rfl rfl ?_
        refine ow_aload (q := 164) X38 hx (hb hby at_162) rfl rfl rfl ?_
        refine ow_iload (q := 166) X38 hx (hb hby at_164) rfl rfl ?_
        refine ow_lload (q := 168) X38 hx (hb hby at_166) rfl rfl ?_
        obtain ⟨_, _, ⟨T39, L39, k39, n39⟩, -, X39, ⟨Lc39, hQ39, l39, y39, z39⟩, st39⟩ := Jvm.LawKit.callS X38 hx (y := (⟨"com/example/chromabin/chromabin/packing/Packing", "firstAtMost", "([JIJ)I"⟩ : MethodName)) hown (mvT hZ (hw _ (List.mem_of_getElem? (i := 12) rfl))) (mvT hZ (hw _ (List.mem_of_getElem? (i := 13) rfl))) (mvT hZ (hw _ (List.mem_of_getElem? (i := 14) rfl))) (mvT hZ (hw _ (List.mem_of_getElem? (i := 15) rfl))) (by decide) (backOf (W := 0) (rm_fam_1_0 l Z a0 hw [] b38 q5 (ownUpd (fun _ => (0 : Int64)) 0 x0) T38.heap n0 (Nat.le_trans Z0 K38.1) FP38_0) hZ (hw _ (List.mem_of_getElem? (i := 15) rfl)) (hw _ (List.mem_of_getElem? (i := 14) rfl)) (by decide) (by decide)) (g := (mkF m 168 #[.val (.long q0), .second, .val (.long q1), .second, .val (.long q2), .second, .val (.long q3), .second, iv p4, .val (.long q5), .second, iv (1 : Int32), iv (0 : Int32), .val (.long x0), .second, .val (.long x1), .second, .val (.long x2), .second, .val (.long x3), .second, .val (.long xt), .second, rv b38, .unset, .unset] [(.long q5), (.int (0 : Int32)), (.ref b38)])) rfl (by rw [hml]; rfl) (argsL := [(.ref b38), (.int (0 : Int32)), (.long q5)]) (rest := []) (lenOf own_pd2 rfl) rfl (by show 2 * 0 + _ ≤ _; exact Nat.le_of_eq rfl) (hb hby at_168) (fun _ _ => ⟨rfl, rfl, (by decide : 1 + 0 ≤ _), (by decide : 1 + 0 ≤ _)⟩)
        dsimp only [Pt.U, Pt.locs, Pt.cells, Pt.slots] at X39 l39 y39 z39 st39 hQ39
        subst l39 y39 z39
        obtain ⟨rfl, N39q, e39⟩ := hQ39
        have N39 := Fr.app N38 N39q
        refine ownGo (T' := T39) (f' := (mkF m 171 #[.val (.long q0), .second, .val (.long q1), .second, .val (.long q2), .second, .val (.long q3), .second, iv p4, .val (.long q5), .second, iv (1 : Int32), iv (0 : Int32), .val (.long x0), .second, .val (.long x1), .second, .val (.long x2), .second, .val (.long x3), .second, .val (.long xt), .second, rv b38, .unset, .unset] [(.int (if q5 < (ownUpd (fun _ => (0 : Int64)) 0 x0) 0 then (1 : Int32) else (0 : Int32)))])) (st39) ?_
        generalize hv_v40 : (if q5 < (ownUpd (fun _ => (0 : Int64)) 0 x0) 0 then (1 : Int32) else (0 : Int32)) = v40
        refine ow_istore (q := 173) X39 hx (L' := #[.val (.long q0), .second, .val (.long q1), .second, .val (.long q2), .second, .val (.long q3), .second, iv p4, .val (.long q5), .second, iv (1 : Int32), iv (0 : Int32), .val (.long x0), .second, .val (.long x1), .second, .val (.long x2), .second, .val (.long x3), .second, .val (.long xt), .second, rv b38, iv v40, .unset]) (hb hby at_171) rfl rfl ?_
        refine ow_iload (q := 175) X39 hx (hb hby at_173) rfl rfl ?_
        refine ow_istore (q := 177) X39 hx (L' := #[.val (.long q0), .second, .val (.long q1), .second, .val (.long q2), .second, .val (.long q3), .second, iv p4, .val (.long q5), .second, iv (1 : Int32), iv (0 : Int32), .val (.long x0), .second, .val (.long x1), .second, .val (.long x2), .second, .val (.long x3), .second, .val (.long xt), .second, rv b38, iv v40, iv (1 : Int32)]) (hb hby at_175) rfl rfl ?_
        have cut267_41 : ∀ (w267 : Int32) (Tc41 : State) (lc41 : List Loc), Stand p l e room_1 s m #[(.long q0), (.long q1), (.long q2), (.long q3), (.int p4), (.long q5)] below meth c Tc41 lc41 1 1 → Tc41.heap = T38.heap → Fr n0 lc41 → (w267 = (if q5 < x0 then (1 : Int32) else (0 : Int32))) → ownEnds p e below s (Q_law Z q0 q1 q2 q3 p4 q5 h0 n0) 16 128 Tc41 (mkF m 267 #[.val (.long q0), .second, .val (.long q1), .second, .val (.long q2), .second, .val (.long q3), .second, iv p4, .val (.long q5), .second, iv (1 : Int32), iv (0 : Int32), .val (.long x0), .second, .val (.long x1), .second, .val (.long x2), .second, .val (.long x3), .second, .val (.long xt), .second, rv b38, iv v40, iv w267] []) := by
          intro w267 Tc41 lc41 Xc41 ec41 Nc41 hw267
          refine ow_iload (q := 269) Xc41 hx (hb hby at_267) rfl rfl ?_
          refine ow_iload (q := 271) Xc41 hx (hb hby at_269) rfl rfl ?_
          refine ow_icmpNo (q := 274) Xc41 hx (hb hby at_271) rfl (Jvm.Free.XT.ii_ne_f (by rw [hw267, ← hv_v40]; exact own_fam_1_0 hs)) ?_
          refine ow_iconst (q := 275) Xc41 hx (1 : Int32) (hb hby at_274) rfl rfl ?_
          refine ow_goto (q := 279) Xc41 hx (hb hby at_275) (by decide) (by decide) ?_
          refine ownRetN Xc41 hx (r := (1 : Int32)) (Or.inl rfl) Bd.returns (hb hby at_279) hlk (by decide) (by decide) (by decide) ?_
          exact ⟨rfl, Nc41⟩
        have cut246_42 : ∀ (w246 : Int32) (Tc42 : State) (lc42 : List Loc), Stand p l e room_1 s m #[(.long q0), (.long q1), (.long q2), (.long q3), (.int p4), (.long q5)] below meth c Tc42 lc42 1 1 → Tc42.heap = T38.heap → Fr n0 lc42 → (w246 = (1 : Int32)) → ownEnds p e below s (Q_law Z q0 q1 q2 q3 p4 q5 h0 n0) 16 128 Tc42 (mkF m 246 #[.val (.long q0), .second, .val (.long q1), .second, .val (.long q2), .second, .val (.long q3), .second, iv p4, .val (.long q5), .second, iv (1 : Int32), iv (0 : Int32), .val (.long x0), .second, .val (.long x1), .second, .val (.long x2), .second, .val (.long x3), .second, .val (.long xt), .second, rv b38, iv v40, iv w246] []) := by
          intro w246 Tc42 lc42 Xc42 ec42 Nc42 hw246
          refine ow_iload (q := 248) Xc42 hx (hb hby at_246) rfl rfl ?_
          refine ow_ifNo (q := 251) Xc42 hx (hb hby at_248) rfl (Jvm.Free.XT.i0_le_f (by decide)) ?_
          refine ow_iload (q := 253) Xc42 hx (hb hby at_251) rfl rfl ?_
          refine ow_ifNo (q := 256) Xc42 hx (hb hby at_253) rfl (Jvm.Free.XT.i0_gt_f (by decide)) ?_
          refine ow_lload (q := 258) Xc42 hx (hb hby at_256) rfl rfl ?_
          refine ow_lload (q := 260) Xc42 hx (hb hby at_258) rfl rfl ?_
          refine ow_lcmp (q := 261) Xc42 hx _ (hb hby at_260) rfl rfl ?_
          by_cases hc261_43 : q5 < x0
          · refine ow_ifYes (q := 267) Xc42 hx (hb hby at_261) (Jvm.Free.XT.ll_gt_t hc261_43) (by decide) (by decide) ?_
            exact cut267_41 w246 _ _ Xc42 ec42 Nc42 (by first | rfl | exact hw246 | simp [hc261_43, hw246])
          · refine ow_ifNo (q := 264) Xc42 hx (hb hby at_261) rfl (Jvm.Free.XT.ll_gt_f hc261_43) ?_
            refine ow_iconst (q := 265) Xc42 hx (0 : Int32) (hb hby at_264) rfl rfl ?_
            refine ow_istore (q := 267) Xc42 hx (L' := #[.val (.long q0), .second, .val (.long q1), .second, .val (.long q2), .second, .val (.long q3), .second, iv p4, .val (.long q5), .second, iv (1 : Int32), iv (0 : Int32), .val (.long x0), .second, .val (.long x1), .second, .val (.long x2), .second, .val (.long x3), .second, .val (.long xt), .second, rv b38, iv v40, iv (0 : Int32)]) (hb hby at_265) rfl rfl ?_
            exact cut267_41 (0 : Int32) _ _ Xc42 ec42 Nc42 (by first | rfl | exact hw246 | simp [hc261_43, hw246])
        have cut223_44 : ∀ (w223 : Int32) (Tc44 : State) (lc44 : List Loc), Stand p l e room_1 s m #[(.long q0), (.long q1), (.long q2), (.long q3), (.int p4), (.long q5)] below meth c Tc44 lc44 1 1 → Tc44.heap = T38.heap → Fr n0 lc44 → (w223 = (1 : Int32)) → ownEnds p e below s (Q_law Z q0 q1 q2 q3 p4 q5 h0 n0) 16 128 Tc44 (mkF m 223 #[.val (.long q0), .second, .val (.long q1), .second, .val (.long q2), .second, .val (.long q3), .second, iv p4, .val (.long q5), .second, iv (1 : Int32), iv (0 : Int32), .val (.long x0), .second, .val (.long x1), .second, .val (.long x2), .second, .val (.long x3), .second, .val (.long xt), .second, rv b38, iv v40, iv w223] []) := by
          intro w223 Tc44 lc44 Xc44 ec44 Nc44 hw223
          refine ow_iload (q := 225) Xc44 hx (hb hby at_223) rfl rfl ?_
          refine ow_iconst (q := 226) Xc44 hx (1 : Int32) (hb hby at_225) rfl rfl ?_
          refine ow_icmpYes (q := 246) Xc44 hx (hb hby at_226) (Jvm.Free.XT.ii_le_t (by decide)) (by decide) (by decide) ?_
          exact cut246_42 w223 _ _ Xc44 ec44 Nc44 (by first | rfl | exact hw223 | simp [hw223])
        have cut200_45 : ∀ (w200 : Int32) (Tc45 : State) (lc45 : List Loc), Stand p l e room_1 s m #[(.long q0), (.long q1), (.long q2), (.long q3), (.int p4), (.long q5)] below meth c Tc45 lc45 1 1 → Tc45.heap = T38.heap → Fr n0 lc45 → (w200 = (1 : Int32)) → ownEnds p e below s (Q_law Z q0 q1 q2 q3 p4 q5 h0 n0) 16 128 Tc45 (mkF m 200 #[.val (.long q0), .second, .val (.long q1), .second, .val (.long q2), .second, .val (.long q3), .second, iv p4, .val (.long q5), .second, iv (1 : Int32), iv (0 : Int32), .val (.long x0), .second, .val (.long x1), .second, .val (.long x2), .second, .val (.long x3), .second, .val (.long xt), .second, rv b38, iv v40, iv w200] []) := by
          intro w200 Tc45 lc45 Xc45 ec45 Nc45 hw200
          refine ow_iload (q := 202) Xc45 hx (hb hby at_200) rfl rfl ?_
          refine ow_iconst (q := 203) Xc45 hx (2 : Int32) (hb hby at_202) rfl rfl ?_
          refine ow_icmpYes (q := 223) Xc45 hx (hb hby at_203) (Jvm.Free.XT.ii_le_t (by decide)) (by decide) (by decide) ?_
          exact cut223_44 w200 _ _ Xc45 ec45 Nc45 (by first | rfl | exact hw200 | simp [hw200])
        refine ow_iload (q := 179) X39 hx (hb hby at_177) rfl rfl ?_
        refine ow_iconst (q := 180) X39 hx (3 : Int32) (hb hby at_179) rfl rfl ?_
        refine ow_icmpYes (q := 200) X39 hx (hb hby at_180) (Jvm.Free.XT.ii_le_t (by decide)) (by decide) (by decide) ?_
        exact cut200_45 (1 : Int32) _ _ X39 e39 N39 (by first | rfl | simp [])
      · subst hs37
        refine ow_lload (q := 151) Xc23 hx (hb hby at_149) rfl rfl ?_
        refine ow_lload (q := 153) Xc23 hx (hb hby at_151) rfl rfl ?_
        refine ow_lload (q := 155) Xc23 hx (hb hby at_153) rfl rfl ?_
        refine ow_lload (q := 157) Xc23 hx (hb hby at_155) rfl rfl ?_
        obtain ⟨_, _, ⟨T46, L46, k46, n46⟩, -, X46, ⟨Lc46, hQ46, l46, y46, z46⟩, st46⟩ := Jvm.LawKit.callS Xc23 hx (y := (⟨"com/example/chromabin/chromabin/packing/PackingFirstAtMostPinLaw", "make", "(IJJJJ)[J"⟩ : MethodName)) hown (mvT hZ (hw _ (List.mem_of_getElem? (i := 7) rfl))) (mvT hZ (hw _ (List.mem_of_getElem? (i := 8) rfl))) (mvT hZ (hw _ (List.mem_of_getElem? (i := 9) rfl))) (mvT hZ (hw _ (List.mem_of_getElem? (i := 10) rfl))) (by decide) (backOf (W := 0) (rm_make_1 l Z a0 hw [] x0 x1 x2 x3 h0 n0 (Nat.le_trans Z0 K0.1) ) hZ (hw _ (List.mem_of_getElem? (i := 10) rfl)) (hw _ (List.mem_of_getElem? (i := 9) rfl)) (by decide) (by decide)) (g := (mkF m 157 #[.val (.long q0), .second, .val (.long q1), .second, .val (.long q2), .second, .val (.long q3), .second, iv p4, .val (.long q5), .second, iv (1 : Int32), iv (1 : Int32), .val (.long x0), .second, .val (.long x1), .second, .val (.long x2), .second, .val (.long x3), .second, .val (.long xt), .second, .unset, .unset, .unset] [(.long x3), (.long x2), (.long x1), (.long x0), (.int (1 : Int32))])) rfl (by rw [hml]; rfl) (argsL := [(.int (1 : Int32)), (.long x0), (.long x1), (.long x2), (.long x3)]) (rest := []) (lenOf own_pd1 rfl) rfl (by show 2 * 0 + _ ≤ _; exact Nat.le_of_eq rfl) (hb hby at_157) (fun _ _ => ⟨rfl, ec23, (by decide : 0 + 1 ≤ _), (by decide : 0 + 1 ≤ _)⟩)
        dsimp only [Pt.U, Pt.locs, Pt.cells, Pt.slots] at X46 l46 y46 z46 st46 hQ46
        subst l46 y46 z46
        obtain ⟨b46, rfl, N46q, Kq46, sq46_b46, FP46_0⟩ := hQ46
        have N46 := Fr.app Nc23 N46q
        have K46 : Keep h0 T46.heap [] := K0.trans Kq46 all0
        have sz_b46 : h0.size ≤ b46 := Nat.le_trans K0.1 sq46_b46
        have G_b46 : n0 ≤ b46 := Nat.le_trans Z0 sz_b46
        refine ownGo (T' := T46) (f' := (mkF m 160 #[.val (.long q0), .second, .val (.long q1), .second, .val (.long q2), .second, .val (.long q3), .second, iv p4, .val (.long q5), .second, iv (1 : Int32), iv (1 : Int32), .val (.long x0), .second, .val (.long x1), .second, .val (.long x2), .second, .val (.long x3), .second, .val (.long xt), .second, .unset, .unset, .unset] [(.ref b46)])) (st46) ?_
        refine ow_astore (q := 162) X46 hx (L' := #[.val (.long q0), .second, .val (.long q1), .second, .val (.long q2), .second, .val (.long q3), .second, iv p4, .val (.long q5), .second, iv (1 : Int32), iv (1 : Int32), .val (.long x0), .second, .val (.long x1), .second, .val (.long x2), .second, .val (.long x3), .second, .val (.long xt), .second, rv b46, .unset, .unset]) (hb hby at_160) rfl rfl rfl ?_
        refine ow_aload (q := 164) X46 hx (hb hby at_162) rfl rfl rfl ?_
        refine ow_iload (q := 166) X46 hx (hb hby at_164) rfl rfl ?_
        refine ow_lload (q := 168) X46 hx (hb hby at_166) rfl rfl ?_
        obtain ⟨_, _, ⟨T47, L47, k47, n47⟩, -, X47, ⟨Lc47, hQ47, l47, y47, z47⟩, st47⟩ := Jvm.LawKit.callS X46 hx (y := (⟨"com/example/chromabin/chromabin/packing/Packing", "firstAtMost", "([JIJ)I"⟩ : MethodName)) hown (mvT hZ (hw _ (List.mem_of_getElem? (i := 12) rfl))) (mvT hZ (hw _ (List.mem_of_getElem? (i := 13) rfl))) (mvT hZ (hw _ (List.mem_of_getElem? (i := 14) rfl))) (mvT hZ (hw _ (List.mem_of_getElem? (i := 15) rfl))) (by decide) (backOf (W := 0) (rm_fam_1_1 l Z a0 hw [] b46 q5 (ownUpd (fun _ => (0 : Int64)) 0 x0) T46.heap n0 (Nat.le_trans Z0 K46.1) FP46_0) hZ (hw _ (List.mem_of_getElem? (i := 15) rfl)) (hw _ (List.mem_of_getElem? (i := 14) rfl)) (by decide) (by decide)) (g := (mkF m 168 #[.val (.long q0), .second, .val (.long q1), .second, .val (.long q2), .second, .val (.long q3), .second, iv p4, .val (.long q5), .second, iv (1 : Int32), iv (1 : Int32), .val (.long x0), .second, .val (.long x1), .second, .val (.long x2), .second, .val (.long x3), .second, .val (.long xt), .second, rv b46, .unset, .unset] [(.long q5), (.int (1 : Int32)), (.ref b46)])) rfl (by rw [hml]; rfl) (argsL := [(.ref b46), (.int (1 : Int32)), (.long q5)]) (rest := []) (lenOf own_pd2 rfl) rfl (by show 2 * 0 + _ ≤ _; exact Nat.le_of_eq rfl) (hb hby at_168) (fun _ _ => ⟨rfl, rfl, (by decide : 1 + 0 ≤ _), (by decide : 1 + 0 ≤ _)⟩)
        dsimp only [Pt.U, Pt.locs, Pt.cells, Pt.slots] at X47 l47 y47 z47 st47 hQ47
        subst l47 y47 z47
        obtain ⟨rfl, N47q, e47⟩ := hQ47
        have N47 := Fr.app N46 N47q
        refine ownGo (T' := T47) (f' := (mkF m 171 #[.val (.long q0), .second, .val (.long q1), .second, .val (.long q2), .second, .val (.long q3), .second, iv p4, .val (.long q5), .second, iv (1 : Int32), iv (1 : Int32), .val (.long x0), .second, .val (.long x1), .second, .val (.long x2), .second, .val (.long x3), .second, .val (.long xt), .second, rv b46, .unset, .unset] [(.int (1 : Int32))])) (st47) ?_
        refine ow_istore (q := 173) X47 hx (L' := #[.val (.long q0), .second, .val (.long q1), .second, .val (.long q2), .second, .val (.long q3), .second, iv p4, .val (.long q5), .second, iv (1 : Int32), iv (1 : Int32), .val (.long x0), .second, .val (.long x1), .second, .val (.long x2), .second, .val (.long x3), .second, .val (.long xt), .second, rv b46, iv (1 : Int32), .unset]) (hb hby at_171) rfl rfl ?_
        refine ow_iload (q := 175) X47 hx (hb hby at_173) rfl rfl ?_
        refine ow_istore (q := 177) X47 hx (L' := #[.val (.long q0), .second, .val (.long q1), .second, .val (.long q2), .second, .val (.long q3), .second, iv p4, .val (.long q5), .second, iv (1 : Int32), iv (1 : Int32), .val (.long x0), .second, .val (.long x1), .second, .val (.long x2), .second, .val (.long x3), .second, .val (.long xt), .second, rv b46, iv (1 : Int32), iv (1 : Int32)]) (hb hby at_175) rfl rfl ?_
        have cut267_48 : ∀ (w267 : Int32) (Tc48 : State) (lc48 : List Loc), Stand p l e room_1 s m #[(.long q0), (.long q1), (.long q2), (.long q3), (.int p4), (.long q5)] below meth c Tc48 lc48 1 1 → Tc48.heap = T46.heap → Fr n0 lc48 → (w267 = (1 : Int32)) → ownEnds p e below s (Q_law Z q0 q1 q2 q3 p4 q5 h0 n0) 16 128 Tc48 (mkF m 267 #[.val (.long q0), .second, .val (.long q1), .second, .val (.long q2), .second, .val (.long q3), .second, iv p4, .val (.long q5), .second, iv (1 : Int32), iv (1 : Int32), .val (.long x0), .second, .val (.long x1), .second, .val (.long x2), .second, .val (.long x3), .second, .val (.long xt), .second, rv b46, iv (1 : Int32), iv w267] []) := by
          intro w267 Tc48 lc48 Xc48 ec48 Nc48 hw267
          refine ow_iload (q := 269) Xc48 hx (hb hby at_267) rfl rfl ?_
          refine ow_iload (q := 271) Xc48 hx (hb hby at_269) rfl rfl ?_
          refine ow_icmpNo (q := 274) Xc48 hx (hb hby at_271) rfl (Jvm.Free.XT.ii_ne_f hw267.symm) ?_
          refine ow_iconst (q := 275) Xc48 hx (1 : Int32) (hb hby at_274) rfl rfl ?_
          refine ow_goto (q := 279) Xc48 hx (hb hby at_275) (by decide) (by decide) ?_
          refine ownRetN Xc48 hx (r := (1 : Int32)) (Or.inl rfl) Bd.returns (hb hby at_279) hlk (by decide) (by decide) (by decide) ?_
          exact ⟨rfl, Nc48⟩
        have cut246_49 : ∀ (w246 : Int32) (Tc49 : State) (lc49 : List Loc), Stand p l e room_1 s m #[(.long q0), (.long q1), (.long q2), (.long q3), (.int p4), (.long q5)] below meth c Tc49 lc49 1 1 → Tc49.heap = T46.heap → Fr n0 lc49 → (w246 = (1 : Int32)) → ownEnds p e below s (Q_law Z q0 q1 q2 q3 p4 q5 h0 n0) 16 128 Tc49 (mkF m 246 #[.val (.long q0), .second, .val (.long q1), .second, .val (.long q2), .second, .val (.long q3), .second, iv p4, .val (.long q5), .second, iv (1 : Int32), iv (1 : Int32), .val (.long x0), .second, .val (.long x1), .second, .val (.long x2), .second, .val (.long x3), .second, .val (.long xt), .second, rv b46, iv (1 : Int32), iv w246] []) := by
          intro w246 Tc49 lc49 Xc49 ec49 Nc49 hw246
          refine ow_iload (q := 248) Xc49 hx (hb hby at_246) rfl rfl ?_
          refine ow_ifNo (q := 251) Xc49 hx (hb hby at_248) rfl (Jvm.Free.XT.i0_le_f (by decide)) ?_
          refine ow_iload (q := 253) Xc49 hx (hb hby at_251) rfl rfl ?_
          refine ow_ifYes (q := 267) Xc49 hx (hb hby at_253) (Jvm.Free.XT.i0_gt_t (by decide)) (by decide) (by decide) ?_
          exact cut267_48 w246 _ _ Xc49 ec49 Nc49 (by first | rfl | exact hw246 | simp [hw246])
        have cut223_50 : ∀ (w223 : Int32) (Tc50 : State) (lc50 : List Loc), Stand p l e room_1 s m #[(.long q0), (.long q1), (.long q2), (.long q3), (.int p4), (.long q5)] below meth c Tc50 lc50 1 1 → Tc50.heap = T46.heap → Fr n0 lc50 → (w223 = (1 : Int32)) → ownEnds p e below s (Q_law Z q0 q1 q2 q3 p4 q5 h0 n0) 16 128 Tc50 (mkF m 223 #[.val (.long q0), .second, .val (.long q1), .second, .val (.long q2), .second, .val (.long q3), .second, iv p4, .val (.long q5), .second, iv (1 : Int32), iv (1 : Int32), .val (.long x0), .second, .val (.long x1), .second, .val (.long x2), .second, .val (.long x3), .second, .val (.long xt), .second, rv b46, iv (1 : Int32), iv w223] []) := by
          intro w223 Tc50 lc50 Xc50 ec50 Nc50 hw223
          refine ow_iload (q := 225) Xc50 hx (hb hby at_223) rfl rfl ?_
          refine ow_iconst (q := 226) Xc50 hx (1 : Int32) (hb hby at_225) rfl rfl ?_
          refine ow_icmpYes (q := 246) Xc50 hx (hb hby at_226) (Jvm.Free.XT.ii_le_t (by decide)) (by decide) (by decide) ?_
          exact cut246_49 w223 _ _ Xc50 ec50 Nc50 (by first | rfl | exact hw223 | simp [hw223])
        have cut200_51 : ∀ (w200 : Int32) (Tc51 : State) (lc51 : List Loc), Stand p l e room_1 s m #[(.long q0), (.long q1), (.long q2), (.long q3), (.int p4), (.long q5)] below meth c Tc51 lc51 1 1 → Tc51.heap = T46.heap → Fr n0 lc51 → (w200 = (1 : Int32)) → ownEnds p e below s (Q_law Z q0 q1 q2 q3 p4 q5 h0 n0) 16 128 Tc51 (mkF m 200 #[.val (.long q0), .second, .val (.long q1), .second, .val (.long q2), .second, .val (.long q3), .second, iv p4, .val (.long q5), .second, iv (1 : Int32), iv (1 : Int32), .val (.long x0), .second, .val (.long x1), .second, .val (.long x2), .second, .val (.long x3), .second, .val (.long xt), .second, rv b46, iv (1 : Int32), iv w200] []) := by
          intro w200 Tc51 lc51 Xc51 ec51 Nc51 hw200
          refine ow_iload (q := 202) Xc51 hx (hb hby at_200) rfl rfl ?_
          refine ow_iconst (q := 203) Xc51 hx (2 : Int32) (hb hby at_202) rfl rfl ?_
          refine ow_icmpYes (q := 223) Xc51 hx (hb hby at_203) (Jvm.Free.XT.ii_le_t (by decide)) (by decide) (by decide) ?_
          exact cut223_50 w200 _ _ Xc51 ec51 Nc51 (by first | rfl | exact hw200 | simp [hw200])
        refine ow_iload (q := 179) X47 hx (hb hby at_177) rfl rfl ?_
        refine ow_iconst (q := 180) X47 hx (3 : Int32) (hb hby at_179) rfl rfl ?_
        refine ow_icmpYes (q := 200) X47 hx (hb hby at_180) (Jvm.Free.XT.ii_le_t (by decide)) (by decide) (by decide) ?_
        exact cut200_51 (1 : Int32) _ _ X47 e47 N47 (by first | rfl | simp [])
    · subst hs26
      rcases own_from2 hv_v2 with hs52 | hs53 | hs54
      · subst hs52
        refine ow_lload (q := 151) Xc23 hx (hb hby at_149) rfl rfl ?_
        refine ow_lload (q := 153) Xc23 hx (hb hby at_151) rfl rfl ?_
        refine ow_lload (q := 155) Xc23 hx (hb hby at_153) rfl rfl ?_
        refine ow_lload (q := 157) Xc23 hx (hb hby at_155) rfl rfl ?_
        obtain ⟨_, _, ⟨T55, L55, k55, n55⟩, -, X55, ⟨Lc55, hQ55, l55, y55, z55⟩, st55⟩ := Jvm.LawKit.callS Xc23 hx (y := (⟨"com/example/chromabin/chromabin/packing/PackingFirstAtMostPinLaw", "make", "(IJJJJ)[J"⟩ : MethodName)) hown (mvT hZ (hw _ (List.mem_of_getElem? (i := 7) rfl))) (mvT hZ (hw _ (List.mem_of_getElem? (i := 8) rfl))) (mvT hZ (hw _ (List.mem_of_getElem? (i := 9) rfl))) (mvT hZ (hw _ (List.mem_of_getElem? (i := 10) rfl))) (by decide) (backOf (W := 0) (rm_make_2 l Z a0 hw [] x0 x1 x2 x3 h0 n0 (Nat.le_trans Z0 K0.1) ) hZ (hw _ (List.mem_of_getElem? (i := 10) rfl)) (hw _ (List.mem_of_getElem? (i := 9) rfl)) (by decide) (by decide)) (g := (mkF m 157 #[.val (.long q0), .second, .val (.long q1), .second, .val (.long q2), .second, .val (.long q3), .second, iv p4, .val (.long q5), .second, iv (2 : Int32), iv (0 : Int32), .val (.long x0), .second, .val (.long x1), .second, .val (.long x2), .second, .val (.long x3), .second, .val (.long xt), .second, .unset, .unset, .unset] [(.long x3), (.long x2), (.long x1), (.long x0), (.int (2 : Int32))])) rfl (by rw [hml]; rfl) (argsL := [(.int (2 : Int32)), (.long x0), (.long x1), (.long x2), (.long x3)]) (rest := []) (lenOf own_pd1 rfl) rfl (by show 2 * 0 + _ ≤ _; exact Nat.le_of_eq rfl) (hb hby at_157) (fun _ _ => ⟨rfl, ec23, (by decide : 0 + 1 ≤ _), (by decide : 0 + 2 ≤ _)⟩)
        dsimp only [Pt.U, Pt.locs, Pt.cells, Pt.slots] at X55 l55 y55 z55 st55 hQ55
        subst l55 y55 z55
        obtain ⟨b55, rfl, N55q, Kq55, sq55_b55, FP55_0⟩ := hQ55
        have N55 := Fr.app Nc23 N55q
        have K55 : Keep h0 T55.heap [] := K0.trans Kq55 all0
        have sz_b55 : h0.size ≤ b55 := Nat.le_trans K0.1 sq55_b55
        have G_b55 : n0 ≤ b55 := Nat.le_trans Z0 sz_b55
        refine ownGo (T' := T55) (f' := (mkF m 160 #[.val (.long q0), .second, .val (.long q1), .second, .val (.long q2), .second, .val (.long q3), .second, iv p4, .val (.long q5), .second, iv (2 : Int32), iv (0 : Int32), .val (.long x0), .second, .val (.long x1), .second, .val (.long x2), .second, .val (.long x3), .second, .val (.long xt), .second, .unset, .unset, .unset] [(.ref b55)])) (st55) ?_
        refine ow_astore (q := 162) X55 hx (L' := #[.val (.long q0), .second, .val (.long q1), .second, .val (.long q2), .second, .val (.long q3), .second, iv p4, .val (.long q5), .second, iv (2 : Int32), iv (0 : Int32), .val (.long x0), .second, .val (.long x1), .second, .val (.long x2), .second, .val (.long x3), .second, .val (.long xt), .second, rv b55, .unset, .unset]) (hb hby at_160) rfl rfl rfl ?_
        refine ow_aload (q := 164) X55 hx (hb hby at_162) rfl rfl rfl ?_
        refine ow_iload (q := 166) X55 hx (hb hby at_164) rfl rfl ?_
        refine ow_lload (q := 168) X55 hx (hb hby at_166) rfl rfl ?_
        obtain ⟨_, _, ⟨T56, L56, k56, n56⟩, -, X56, ⟨Lc56, hQ56, l56, y56, z56⟩, st56⟩ := Jvm.LawKit.callS X55 hx (y := (⟨"com/example/chromabin/chromabin/packing/Packing", "firstAtMost", "([JIJ)I"⟩ : MethodName)) hown (mvT hZ (hw _ (List.mem_of_getElem? (i := 12) rfl))) (mvT hZ (hw _ (List.mem_of_getElem? (i := 13) rfl))) (mvT hZ (hw _ (List.mem_of_getElem? (i := 14) rfl))) (mvT hZ (hw _ (List.mem_of_getElem? (i := 15) rfl))) (by decide) (backOf (W := 0) (rm_fam_2_0 l Z a0 hw [] b55 q5 (ownUpd (ownUpd (fun _ => (0 : Int64)) 0 x0) 1 x1) T55.heap n0 (Nat.le_trans Z0 K55.1) FP55_0) hZ (hw _ (List.mem_of_getElem? (i := 15) rfl)) (hw _ (List.mem_of_getElem? (i := 14) rfl)) (by decide) (by decide)) (g := (mkF m 168 #[.val (.long q0), .second, .val (.long q1), .second, .val (.long q2), .second, .val (.long q3), .second, iv p4, .val (.long q5), .second, iv (2 : Int32), iv (0 : Int32), .val (.long x0), .second, .val (.long x1), .second, .val (.long x2), .second, .val (.long x3), .second, .val (.long xt), .second, rv b55, .unset, .unset] [(.long q5), (.int (0 : Int32)), (.ref b55)])) rfl (by rw [hml]; rfl) (argsL := [(.ref b55), (.int (0 : Int32)), (.long q5)]) (rest := []) (lenOf own_pd2 rfl) rfl (by show 2 * 0 + _ ≤ _; exact Nat.le_of_eq rfl) (hb hby at_168) (fun _ _ => ⟨rfl, rfl, (by decide : 1 + 0 ≤ _), (by decide : 2 + 0 ≤ _)⟩)
        dsimp only [Pt.U, Pt.locs, Pt.cells, Pt.slots] at X56 l56 y56 z56 st56 hQ56
        subst l56 y56 z56
        obtain ⟨rfl, N56q, e56⟩ := hQ56
        have N56 := Fr.app N55 N56q
        refine ownGo (T' := T56) (f' := (mkF m 171 #[.val (.long q0), .second, .val (.long q1), .second, .val (.long q2), .second, .val (.long q3), .second, iv p4, .val (.long q5), .second, iv (2 : Int32), iv (0 : Int32), .val (.long x0), .second, .val (.long x1), .second, .val (.long x2), .second, .val (.long x3), .second, .val (.long xt), .second, rv b55, .unset, .unset] [(.int (if q5 < (ownUpd (ownUpd (fun _ => (0 : Int64)) 0 x0) 1 x1) 1 then (2 : Int32) else (if q5 < (ownUpd (ownUpd (fun _ => (0 : Int64)) 0 x0) 1 x1) 0 then (1 : Int32) else (0 : Int32))))])) (st56) ?_
        generalize hv_v57 : (if q5 < (ownUpd (ownUpd (fun _ => (0 : Int64)) 0 x0) 1 x1) 1 then (2 : Int32) else (if q5 < (ownUpd (ownUpd (fun _ => (0 : Int64)) 0 x0) 1 x1) 0 then (1 : Int32) else (0 : Int32))) = v57
        refine ow_istore (q := 173) X56 hx (L' := #[.val (.long q0), .second, .val (.long q1), .second, .val (.long q2), .second, .val (.long q3), .second, iv p4, .val (.long q5), .second, iv (2 : Int32), iv (0 : Int32), .val (.long x0), .second, .val (.long x1), .second, .val (.long x2), .second, .val (.long x3), .second, .val (.long xt), .second, rv b55, iv v57, .unset]) (hb hby at_171) rfl rfl ?_
        refine ow_iload (q := 175) X56 hx (hb hby at_173) rfl rfl ?_
        refine ow_istore (q := 177) X56 hx (L' := #[.val (.long q0), .second, .val (.long q1), .second, .val (.long q2), .second, .val (.long q3), .second, iv p4, .val (.long q5), .second, iv (2 : Int32), iv (0 : Int32), .val (.long x0), .second, .val (.long x1), .second, .val (.long x2), .second, .val (.long x3), .second, .val (.long xt), .second, rv b55, iv v57, iv (2 : Int32)]) (hb hby at_175) rfl rfl ?_
        have cut267_58 : ∀ (w267 : Int32) (Tc58 : State) (lc58 : List Loc), Stand p l e room_1 s m #[(.long q0), (.long q1), (.long q2), (.long q3), (.int p4), (.long q5)] below meth c Tc58 lc58 1 2 → Tc58.heap = T55.heap → Fr n0 lc58 → (w267 = (if q5 < x0 then (if q5 < x1 then (2 : Int32) else (1 : Int32)) else (0 : Int32))) → ownEnds p e below s (Q_law Z q0 q1 q2 q3 p4 q5 h0 n0) 16 128 Tc58 (mkF m 267 #[.val (.long q0), .second, .val (.long q1), .second, .val (.long q2), .second, .val (.long q3), .second, iv p4, .val (.long q5), .second, iv (2 : Int32), iv (0 : Int32), .val (.long x0), .second, .val (.long x1), .second, .val (.long x2), .second, .val (.long x3), .second, .val (.long xt), .second, rv b55, iv v57, iv w267] []) := by
          intro w267 Tc58 lc58 Xc58 ec58 Nc58 hw267
          refine ow_iload (q := 269) Xc58 hx (hb hby at_267) rfl rfl ?_
          refine ow_iload (q := 271) Xc58 hx (hb hby at_269) rfl rfl ?_
          refine ow_icmpNo (q := 274) Xc58 hx (hb hby at_271) rfl (Jvm.Free.XT.ii_ne_f (by rw [hw267, ← hv_v57]; exact own_fam_2_0 hs)) ?_
          refine ow_iconst (q := 275) Xc58 hx (1 : Int32) (hb hby at_274) rfl rfl ?_
          refine ow_goto (q := 279) Xc58 hx (hb hby at_275) (by decide) (by decide) ?_
          refine ownRetN Xc58 hx (r := (1 : Int32)) (Or.inl rfl) Bd.returns (hb hby at_279) hlk (by decide) (by decide) (by decide) ?_
          exact ⟨rfl, Nc58⟩
        have cut246_59 : ∀ (w246 : Int32) (Tc59 : State) (lc59 : List Loc), Stand p l e room_1 s m #[(.long q0), (.long q1), (.long q2), (.long q3), (.int p4), (.long q5)] below meth c Tc59 lc59 1 2 → Tc59.heap = T55.heap → Fr n0 lc59 → (w246 = (if q5 < x1 then (2 : Int32) else (1 : Int32))) → ownEnds p e below s (Q_law Z q0 q1 q2 q3 p4 q5 h0 n0) 16 128 Tc59 (mkF m 246 #[.val (.long q0), .second, .val (.long q1), .second, .val (.long q2), .second, .val (.long q3), .second, iv p4, .val (.long q5), .second, iv (2 : Int32), iv (0 : Int32), .val (.long x0), .second, .val (.long x1), .second, .val (.long x2), .second, .val (.long x3), .second, .val (.long xt), .second, rv b55, iv v57, iv w246] []) := by
          intro w246 Tc59 lc59 Xc59 ec59 Nc59 hw246
          refine ow_iload (q := 248) Xc59 hx (hb hby at_246) rfl rfl ?_
          refine ow_ifNo (q := 251) Xc59 hx (hb hby at_248) rfl (Jvm.Free.XT.i0_le_f (by decide)) ?_
          refine ow_iload (q := 253) Xc59 hx (hb hby at_251) rfl rfl ?_
          refine ow_ifNo (q := 256) Xc59 hx (hb hby at_253) rfl (Jvm.Free.XT.i0_gt_f (by decide)) ?_
          refine ow_lload (q := 258) Xc59 hx (hb hby at_256) rfl rfl ?_
          refine ow_lload (q := 260) Xc59 hx (hb hby at_258) rfl rfl ?_
          refine ow_lcmp (q := 261) Xc59 hx _ (hb hby at_260) rfl rfl ?_
          by_cases hc261_60 : q5 < x0
          · refine ow_ifYes (q := 267) Xc59 hx (hb hby at_261) (Jvm.Free.XT.ll_gt_t hc261_60) (by decide) (by decide) ?_
            exact cut267_58 w246 _ _ Xc59 ec59 Nc59 (by first | rfl | exact hw246 | simp [hc261_60, hw246])
          · refine ow_ifNo (q := 264) Xc59 hx (hb hby at_261) rfl (Jvm.Free.XT.ll_gt_f hc261_60) ?_
            refine ow_iconst (q := 265) Xc59 hx (0 : Int32) (hb hby at_264) rfl rfl ?_
            refine ow_istore (q := 267) Xc59 hx (L' := #[.val (.long q0), .second, .val (.long q1), .second, .val (.long q2), .second, .val (.long q3), .second, iv p4, .val (.long q5), .second, iv (2 : Int32), iv (0 : Int32), .val (.long x0), .second, .val (.long x1), .second, .val (.long x2), .second, .val (.long x3), .second, .val (.long xt), .second, rv b55, iv v57, iv (0 : Int32)]) (hb hby at_265) rfl rfl ?_
            exact cut267_58 (0 : Int32) _ _ Xc59 ec59 Nc59 (by first | rfl | exact hw246 | simp [hc261_60, hw246])
        have cut223_61 : ∀ (w223 : Int32) (Tc61 : State) (lc61 : List Loc), Stand p l e room_1 s m #[(.long q0), (.long q1), (.long q2), (.long q3), (.int p4), (.long q5)] below meth c Tc61 lc61 1 2 → Tc61.heap = T55.heap → Fr n0 lc61 → (w223 = (2 : Int32)) → ownEnds p e below s (Q_law Z q0 q1 q2 q3 p4 q5 h0 n0) 16 128 Tc61 (mkF m 223 #[.val (.long q0), .second, .val (.long q1), .second, .val (.long q2), .second, .val (.long q3), .second, iv p4, .val (.long q5), .second, iv (2 : Int32), iv (0 : Int32), .val (.long x0), .second, .val (.long x1), .second, .val (.long x2), .second, .val (.long x3), .second, .val (.long xt), .second, rv b55, iv v57, iv w223] []) := by
          intro w223 Tc61 lc61 Xc61 ec61 Nc61 hw223
          refine ow_iload (q := 225) Xc61 hx (hb hby at_223) rfl rfl ?_
          refine ow_iconst (q := 226) Xc61 hx (1 : Int32) (hb hby at_225) rfl rfl ?_
          refine ow_icmpNo (q := 229) Xc61 hx (hb hby at_226) rfl (Jvm.Free.XT.ii_le_f (by decide)) ?_
          refine ow_iload (q := 231) Xc61 hx (hb hby at_229) rfl rfl ?_
          refine ow_iconst (q := 232) Xc61 hx (1 : Int32) (hb hby at_231) rfl rfl ?_
          refine ow_icmpNo (q := 235) Xc61 hx (hb hby at_232) rfl (Jvm.Free.XT.ii_gt_f (by decide)) ?_
          refine ow_lload (q := 237) Xc61 hx (hb hby at_235) rfl rfl ?_
          refine ow_lload (q := 239) Xc61 hx (hb hby at_237) rfl rfl ?_
          refine ow_lcmp (q := 240) Xc61 hx _ (hb hby at_239) rfl rfl ?_
          by_cases hc240_62 : q5 < x1
          · refine ow_ifYes (q := 246) Xc61 hx (hb hby at_240) (Jvm.Free.XT.ll_gt_t hc240_62) (by decide) (by decide) ?_
            exact cut246_59 w223 _ _ Xc61 ec61 Nc61 (by first | rfl | exact hw223 | simp [hc240_62, hw223])
          · refine ow_ifNo (q := 243) Xc61 hx (hb hby at_240) rfl (Jvm.Free.XT.ll_gt_f hc240_62) ?_
            refine ow_iconst (q := 244) Xc61 hx (1 : Int32) (hb hby at_243) rfl rfl ?_
            refine ow_istore (q := 246) Xc61 hx (L' := #[.val (.long q0), .second, .val (.long q1), .second, .val (.long q2), .second, .val (.long q3), .second, iv p4, .val (.long q5), .second, iv (2 : Int32), iv (0 : Int32), .val (.long x0), .second, .val (.long x1), .second, .val (.long x2), .second, .val (.long x3), .second, .val (.long xt), .second, rv b55, iv v57, iv (1 : Int32)]) (hb hby at_244) rfl rfl ?_
            exact cut246_59 (1 : Int32) _ _ Xc61 ec61 Nc61 (by first | rfl | exact hw223 | simp [hc240_62, hw223])
        have cut200_63 : ∀ (w200 : Int32) (Tc63 : State) (lc63 : List Loc), Stand p l e room_1 s m #[(.long q0), (.long q1), (.long q2), (.long q3), (.int p4), (.long q5)] below meth c Tc63 lc63 1 2 → Tc63.heap = T55.heap → Fr n0 lc63 → (w200 = (2 : Int32)) → ownEnds p e below s (Q_law Z q0 q1 q2 q3 p4 q5 h0 n0) 16 128 Tc63 (mkF m 200 #[.val (.long q0), .second, .val (.long q1), .second, .val (.long q2), .second, .val (.long q3), .second, iv p4, .val (.long q5), .second, iv (2 : Int32), iv (0 : Int32), .val (.long x0), .second, .val (.long x1), .second, .val (.long x2), .second, .val (.long x3), .second, .val (.long xt), .second, rv b55, iv v57, iv w200] []) := by
          intro w200 Tc63 lc63 Xc63 ec63 Nc63 hw200
          refine ow_iload (q := 202) Xc63 hx (hb hby at_200) rfl rfl ?_
          refine ow_iconst (q := 203) Xc63 hx (2 : Int32) (hb hby at_202) rfl rfl ?_
          refine ow_icmpYes (q := 223) Xc63 hx (hb hby at_203) (Jvm.Free.XT.ii_le_t (by decide)) (by decide) (by decide) ?_
          exact cut223_61 w200 _ _ Xc63 ec63 Nc63 (by first | rfl | exact hw200 | simp [hw200])
        refine ow_iload (q := 179) X56 hx (hb hby at_177) rfl rfl ?_
        refine ow_iconst (q := 180) X56 hx (3 : Int32) (hb hby at_179) rfl rfl ?_
        refine ow_icmpYes (q := 200) X56 hx (hb hby at_180) (Jvm.Free.XT.ii_le_t (by decide)) (by decide) (by decide) ?_
        exact cut200_63 (2 : Int32) _ _ X56 e56 N56 (by first | rfl | simp [])
      · subst hs53
        refine ow_lload (q := 151) Xc23 hx (hb hby at_149) rfl rfl ?_
        refine ow_lload (q := 153) Xc23 hx (hb hby at_151) rfl rfl ?_
        refine ow_lload (q := 155) Xc23 hx (hb hby at_153) rfl rfl ?_
        refine ow_lload (q := 157) Xc23 hx (hb hby at_155) rfl rfl ?_
        obtain ⟨_, _, ⟨T64, L64, k64, n64⟩, -, X64, ⟨Lc64, hQ64, l64, y64, z64⟩, st64⟩ := Jvm.LawKit.callS Xc23 hx (y := (⟨"com/example/chromabin/chromabin/packing/PackingFirstAtMostPinLaw", "make", "(IJJJJ)[J"⟩ : MethodName)) hown (mvT hZ (hw _ (List.mem_of_getElem? (i := 7) rfl))) (mvT hZ (hw _ (List.mem_of_getElem? (i := 8) rfl))) (mvT hZ (hw _ (List.mem_of_getElem? (i := 9) rfl))) (mvT hZ (hw _ (List.mem_of_getElem? (i := 10) rfl))) (by decide) (backOf (W := 0) (rm_make_2 l Z a0 hw [] x0 x1 x2 x3 h0 n0 (Nat.le_trans Z0 K0.1) ) hZ (hw _ (List.mem_of_getElem? (i := 10) rfl)) (hw _ (List.mem_of_getElem? (i := 9) rfl)) (by decide) (by decide)) (g := (mkF m 157 #[.val (.long q0), .second, .val (.long q1), .second, .val (.long q2), .second, .val (.long q3), .second, iv p4, .val (.long q5), .second, iv (2 : Int32), iv (1 : Int32), .val (.long x0), .second, .val (.long x1), .second, .val (.long x2), .second, .val (.long x3), .second, .val (.long xt), .second, .unset, .unset, .unset] [(.long x3), (.long x2), (.long x1), (.long x0), (.int (2 : Int32))])) rfl (by rw [hml]; rfl) (argsL := [(.int (2 : Int32)), (.long x0), (.long x1), (.long x2), (.long x3)]) (rest := []) (lenOf own_pd1 rfl) rfl (by show 2 * 0 + _ ≤ _; exact Nat.le_of_eq rfl) (hb hby at_157) (fun _ _ => ⟨rfl, ec23, (by decide : 0 + 1 ≤ _), (by decide : 0 + 2 ≤ _)⟩)
        dsimp only [Pt.U, Pt.locs, Pt.cells, Pt.slots] at X64 l64 y64 z64 st64 hQ64
        subst l64 y64 z64
        obtain ⟨b64, rfl, N64q, Kq64, sq64_b64, FP64_0⟩ := hQ64
        have N64 := Fr.app Nc23 N64q
        have K64 : Keep h0 T64.heap [] := K0.trans Kq64 all0
        have sz_b64 : h0.size ≤ b64 := Nat.le_trans K0.1 sq64_b64
        have G_b64 : n0 ≤ b64 := Nat.le_trans Z0 sz_b64
        refine ownGo (T' := T64) (f' := (mkF m 160 #[.val (.long q0), .second, .val (.long q1), .second, .val (.long q2), .second, .val (.long q3), .second, iv p4, .val (.long q5), .second, iv (2 : Int32), iv (1 : Int32), .val (.long x0), .second, .val (.long x1), .second, .val (.long x2), .second, .val (.long x3), .second, .val (.long xt), .second, .unset, .unset, .unset] [(.ref b64)])) (st64) ?_
        refine ow_astore (q := 162) X64 hx (L' := #[.val (.long q0), .second, .val (.long q1), .second, .val (.long q2), .second, .val (.long q3), .second, iv p4, .val (.long q5), .second, iv (2 : Int32), iv (1 : Int32), .val (.long x0), .second, .val (.long x1), .second, .val (.long x2), .second, .val (.long x3), .second, .val (.long xt), .second, rv b64, .unset, .unset]) (hb hby at_160) rfl rfl rfl ?_
        refine ow_aload (q := 164) X64 hx (hb hby at_162) rfl rfl rfl ?_
        refine ow_iload (q := 166) X64 hx (hb hby at_164) rfl rfl ?_
        refine ow_lload (q := 168) X64 hx (hb hby at_166) rfl rfl ?_
        obtain ⟨_, _, ⟨T65, L65, k65, n65⟩, -, X65, ⟨Lc65, hQ65, l65, y65, z65⟩, st65⟩ := Jvm.LawKit.callS X64 hx (y := (⟨"com/example/chromabin/chromabin/packing/Packing", "firstAtMost", "([JIJ)I"⟩ : MethodName)) hown (mvT hZ (hw _ (List.mem_of_getElem? (i := 12) rfl))) (mvT hZ (hw _ (List.mem_of_getElem? (i := 13) rfl))) (mvT hZ (hw _ (List.mem_of_getElem? (i := 14) rfl))) (mvT hZ (hw _ (List.mem_of_getElem? (i := 15) rfl))) (by decide) (backOf (W := 0) (rm_fam_2_1 l Z a0 hw [] b64 q5 (ownUpd (ownUpd (fun _ => (0 : Int64)) 0 x0) 1 x1) T64.heap n0 (Nat.le_trans Z0 K64.1) FP64_0) hZ (hw _ (List.mem_of_getElem? (i := 15) rfl)) (hw _ (List.mem_of_getElem? (i := 14) rfl)) (by decide) (by decide)) (g := (mkF m 168 #[.val (.long q0), .second, .val (.long q1), .second, .val (.long q2), .second, .val (.long q3), .second, iv p4, .val (.long q5), .second, iv (2 : Int32), iv (1 : Int32), .val (.long x0), .second, .val (.long x1), .second, .val (.long x2), .second, .val (.long x3), .second, .val (.long xt), .second, rv b64, .unset, .unset] [(.long q5), (.int (1 : Int32)), (.ref b64)])) rfl (by rw [hml]; rfl) (argsL := [(.ref b64), (.int (1 : Int32)), (.long q5)]) (rest := []) (lenOf own_pd2 rfl) rfl (by show 2 * 0 + _ ≤ _; exact Nat.le_of_eq rfl) (hb hby at_168) (fun _ _ => ⟨rfl, rfl, (by decide : 1 + 0 ≤ _), (by decide : 2 + 0 ≤ _)⟩)
        dsimp only [Pt.U, Pt.locs, Pt.cells, Pt.slots] at X65 l65 y65 z65 st65 hQ65
        subst l65 y65 z65
        obtain ⟨rfl, N65q, e65⟩ := hQ65
        have N65 := Fr.app N64 N65q
        refine ownGo (T' := T65) (f' := (mkF m 171 #[.val (.long q0), .second, .val (.long q1), .second, .val (.long q2), .second, .val (.long q3), .second, iv p4, .val (.long q5), .second, iv (2 : Int32), iv (1 : Int32), .val (.long x0), .second, .val (.long x1), .second, .val (.long x2), .second, .val (.long x3), .second, .val (.long xt), .second, rv b64, .unset, .unset] [(.int (if q5 < (ownUpd (ownUpd (fun _ => (0 : Int64)) 0 x0) 1 x1) 1 then (2 : Int32) else (1 : Int32)))])) (st65) ?_
        generalize hv_v66 : (if q5 < (ownUpd (ownUpd (fun _ => (0 : Int64)) 0 x0) 1 x1) 1 then (2 : Int32) else (1 : Int32)) = v66
        refine ow_istore (q := 173) X65 hx (L' := #[.val (.long q0), .second, .val (.long q1), .second, .val (.long q2), .second, .val (.long q3), .second, iv p4, .val (.long q5), .second, iv (2 : Int32), iv (1 : Int32), .val (.long x0), .second, .val (.long x1), .second, .val (.long x2), .second, .val (.long x3), .second, .val (.long xt), .second, rv b64, iv v66, .unset]) (hb hby at_171) rfl rfl ?_
        refine ow_iload (q := 175) X65 hx (hb hby at_173) rfl rfl ?_
        refine ow_istore (q := 177) X65 hx (L' := #[.val (.long q0), .second, .val (.long q1), .second, .val (.long q2), .second, .val (.long q3), .second, iv p4, .val (.long q5), .second, iv (2 : Int32), iv (1 : Int32), .val (.long x0), .second, .val (.long x1), .second, .val (.long x2), .second, .val (.long x3), .second, .val (.long xt), .second, rv b64, iv v66, iv (2 : Int32)]) (hb hby at_175) rfl rfl ?_
        have cut267_67 : ∀ (w267 : Int32) (Tc67 : State) (lc67 : List Loc), Stand p l e room_1 s m #[(.long q0), (.long q1), (.long q2), (.long q3), (.int p4), (.long q5)] below meth c Tc67 lc67 1 2 → Tc67.heap = T64.heap → Fr n0 lc67 → (w267 = (if q5 < x1 then (2 : Int32) else (1 : Int32))) → ownEnds p e below s (Q_law Z q0 q1 q2 q3 p4 q5 h0 n0) 16 128 Tc67 (mkF m 267 #[.val (.long q0), .second, .val (.long q1), .second, .val (.long q2), .second, .val (.long q3), .second, iv p4, .val (.long q5), .second, iv (2 : Int32), iv (1 : Int32), .val (.long x0), .second, .val (.long x1), .second, .val (.long x2), .second, .val (.long x3), .second, .val (.long xt), .second, rv b64, iv v66, iv w267] []) := by
          intro w267 Tc67 lc67 Xc67 ec67 Nc67 hw267
          refine ow_iload (q := 269) Xc67 hx (hb hby at_267) rfl rfl ?_
          refine ow_iload (q := 271) Xc67 hx (hb hby at_269) rfl rfl ?_
          refine ow_icmpNo (q := 274) Xc67 hx (hb hby at_271) rfl (Jvm.Free.XT.ii_ne_f (by rw [hw267, ← hv_v66]; exact own_fam_2_1 hs)) ?_
          refine ow_iconst (q := 275) Xc67 hx (1 : Int32) (hb hby at_274) rfl rfl ?_
          refine ow_goto (q := 279) Xc67 hx (hb hby at_275) (by decide) (by decide) ?_
          refine ownRetN Xc67 hx (r := (1 : Int32)) (Or.inl rfl) Bd.returns (hb hby at_279) hlk (by decide) (by decide) (by decide) ?_
          exact ⟨rfl, Nc67⟩
        have cut246_68 : ∀ (w246 : Int32) (Tc68 : State) (lc68 : List Loc), Stand p l e room_1 s m #[(.long q0), (.long q1), (.long q2), (.long q3), (.int p4), (.long q5)] below meth c Tc68 lc68 1 2 → Tc68.heap = T64.heap → Fr n0 lc68 → (w246 = (if q5 < x1 then (2 : Int32) else (1 : Int32))) → ownEnds p e below s (Q_law Z q0 q1 q2 q3 p4 q5 h0 n0) 16 128 Tc68 (mkF m 246 #[.val (.long q0), .second, .val (.long q1), .second, .val (.long q2), .second, .val (.long q3), .second, iv p4, .val (.long q5), .second, iv (2 : Int32), iv (1 : Int32), .val (.long x0), .second, .val (.long x1), .second, .val (.long x2), .second, .val (.long x3), .second, .val (.long xt), .second, rv b64, iv v66, iv w246] []) := by
          intro w246 Tc68 lc68 Xc68 ec68 Nc68 hw246
          refine ow_iload (q := 248) Xc68 hx (hb hby at_246) rfl rfl ?_
          refine ow_ifNo (q := 251) Xc68 hx (hb hby at_248) rfl (Jvm.Free.XT.i0_le_f (by decide)) ?_
          refine ow_iload (q := 253) Xc68 hx (hb hby at_251) rfl rfl ?_
          refine ow_ifYes (q := 267) Xc68 hx (hb hby at_253) (Jvm.Free.XT.i0_gt_t (by decide)) (by decide) (by decide) ?_
          exact cut267_67 w246 _ _ Xc68 ec68 Nc68 (by first | rfl | exact hw246 | simp [hw246])
        have cut223_69 : ∀ (w223 : Int32) (Tc69 : State) (lc69 : List Loc), Stand p l e room_1 s m #[(.long q0), (.long q1), (.long q2), (.long q3), (.int p4), (.long q5)] below meth c Tc69 lc69 1 2 → Tc69.heap = T64.heap → Fr n0 lc69 → (w223 = (2 : Int32)) → ownEnds p e below s (Q_law Z q0 q1 q2 q3 p4 q5 h0 n0) 16 128 Tc69 (mkF m 223 #[.val (.long q0), .second, .val (.long q1), .second, .val (.long q2), .second, .val (.long q3), .second, iv p4, .val (.long q5), .second, iv (2 : Int32), iv (1 : Int32), .val (.long x0), .second, .val (.long x1), .second, .val (.long x2), .second, .val (.long x3), .second, .val (.long xt), .second, rv b64, iv v66, iv w223] []) := by
          intro w223 Tc69 lc69 Xc69 ec69 Nc69 hw223
          refine ow_iload (q := 225) Xc69 hx (hb hby at_223) rfl rfl ?_
          refine ow_iconst (q := 226) Xc69 hx (1 : Int32) (hb hby at_225) rfl rfl ?_
          refine ow_icmpNo (q := 229) Xc69 hx (hb hby at_226) rfl (Jvm.Free.XT.ii_le_f (by decide)) ?_
          refine ow_iload (q := 231) Xc69 hx (hb hby at_229) rfl rfl ?_
          refine ow_iconst (q := 232) Xc69 hx (1 : Int32) (hb hby at_231) rfl rfl ?_
          refine ow_icmpNo (q := 235) Xc69 hx (hb hby at_232) rfl (Jvm.Free.XT.ii_gt_f (by decide)) ?_
          refine ow_lload (q := 237) Xc69 hx (hb hby at_235) rfl rfl ?_
          refine ow_lload (q := 239) Xc69 hx (hb hby at_237) rfl rfl ?_
          refine ow_lcmp (q := 240) Xc69 hx _ (hb hby at_239) rfl rfl ?_
          by_cases hc240_70 : q5 < x1
          · refine ow_ifYes (q := 246) Xc69 hx (hb hby at_240) (Jvm.Free.XT.ll_gt_t hc240_70) (by decide) (by decide) ?_
            exact cut246_68 w223 _ _ Xc69 ec69 Nc69 (by first | rfl | exact hw223 | simp [hc240_70, hw223])
          · refine ow_ifNo (q := 243) Xc69 hx (hb hby at_240) rfl (Jvm.Free.XT.ll_gt_f hc240_70) ?_
            refine ow_iconst (q := 244) Xc69 hx (1 : Int32) (hb hby at_243) rfl rfl ?_
            refine ow_istore (q := 246) Xc69 hx (L' := #[.val (.long q0), .second, .val (.long q1), .second, .val (.long q2), .second, .val (.long q3), .second, iv p4, .val (.long q5), .second, iv (2 : Int32), iv (1 : Int32), .val (.long x0), .second, .val (.long x1), .second, .val (.long x2), .second, .val (.long x3), .second, .val (.long xt), .second, rv b64, iv v66, iv (1 : Int32)]) (hb hby at_244) rfl rfl ?_
            exact cut246_68 (1 : Int32) _ _ Xc69 ec69 Nc69 (by first | rfl | exact hw223 | simp [hc240_70, hw223])
        have cut200_71 : ∀ (w200 : Int32) (Tc71 : State) (lc71 : List Loc), Stand p l e room_1 s m #[(.long q0), (.long q1), (.long q2), (.long q3), (.int p4), (.long q5)] below meth c Tc71 lc71 1 2 → Tc71.heap = T64.heap → Fr n0 lc71 → (w200 = (2 : Int32)) → ownEnds p e below s (Q_law Z q0 q1 q2 q3 p4 q5 h0 n0) 16 128 Tc71 (mkF m 200 #[.val (.long q0), .second, .val (.long q1), .second, .val (.long q2), .second, .val (.long q3), .second, iv p4, .val (.long q5), .second, iv (2 : Int32), iv (1 : Int32), .val (.long x0), .second, .val (.long x1), .second, .val (.long x2), .second, .val (.long x3), .second, .val (.long xt), .second, rv b64, iv v66, iv w200] []) := by
          intro w200 Tc71 lc71 Xc71 ec71 Nc71 hw200
          refine ow_iload (q := 202) Xc71 hx (hb hby at_200) rfl rfl ?_
          refine ow_iconst (q := 203) Xc71 hx (2 : Int32) (hb hby at_202) rfl rfl ?_
          refine ow_icmpYes (q := 223) Xc71 hx (hb hby at_203) (Jvm.Free.XT.ii_le_t (by decide)) (by decide) (by decide) ?_
          exact cut223_69 w200 _ _ Xc71 ec71 Nc71 (by first | rfl | exact hw200 | simp [hw200])
        refine ow_iload (q := 179) X65 hx (hb hby at_177) rfl rfl ?_
        refine ow_iconst (q := 180) X65 hx (3 : Int32) (hb hby at_179) rfl rfl ?_
        refine ow_icmpYes (q := 200) X65 hx (hb hby at_180) (Jvm.Free.XT.ii_le_t (by decide)) (by decide) (by decide) ?_
        exact cut200_71 (2 : Int32) _ _ X65 e65 N65 (by first | rfl | simp [])
      · subst hs54
        refine ow_lload (q := 151) Xc23 hx (hb hby at_149) rfl rfl ?_
        refine ow_lload (q := 153) Xc23 hx (hb hby at_151) rfl rfl ?_
        refine ow_lload (q := 155) Xc23 hx (hb hby at_153) rfl rfl ?_
        refine ow_lload (q := 157) Xc23 hx (hb hby at_155) rfl rfl ?_
        obtain ⟨_, _, ⟨T72, L72, k72, n72⟩, -, X72, ⟨Lc72, hQ72, l72, y72, z72⟩, st72⟩ := Jvm.LawKit.callS Xc23 hx (y := (⟨"com/example/chromabin/chromabin/packing/PackingFirstAtMostPinLaw", "make", "(IJJJJ)[J"⟩ : MethodName)) hown (mvT hZ (hw _ (List.mem_of_getElem? (i := 7) rfl))) (mvT hZ (hw _ (List.mem_of_getElem? (i := 8) rfl))) (mvT hZ (hw _ (List.mem_of_getElem? (i := 9) rfl))) (mvT hZ (hw _ (List.mem_of_getElem? (i := 10) rfl))) (by decide) (backOf (W := 0) (rm_make_2 l Z a0 hw [] x0 x1 x2 x3 h0 n0 (Nat.le_trans Z0 K0.1) ) hZ (hw _ (List.mem_of_getElem? (i := 10) rfl)) (hw _ (List.mem_of_getElem? (i := 9) rfl)) (by decide) (by decide)) (g := (mkF m 157 #[.val (.long q0), .second, .val (.long q1), .second, .val (.long q2), .second, .val (.long q3), .second, iv p4, .val (.long q5), .second, iv (2 : Int32), iv (2 : Int32), .val (.long x0), .second, .val (.long x1), .second, .val (.long x2), .second, .val (.long x3), .second, .val (.long xt), .second, .unset, .unset, .unset] [(.long x3), (.long x2), (.long x1), (.long x0), (.int (2 : Int32))])) rfl (by rw [hml]; rfl) (argsL := [(.int (2 : Int32)), (.long x0), (.long x1), (.long x2), (.long x3)]) (rest := []) (lenOf own_pd1 rfl) rfl (by show 2 * 0 + _ ≤ _; exact Nat.le_of_eq rfl) (hb hby at_157) (fun _ _ => ⟨rfl, ec23, (by decide : 0 + 1 ≤ _), (by decide : 0 + 2 ≤ _)⟩)
        dsimp only [Pt.U, Pt.locs, Pt.cells, Pt.slots] at X72 l72 y72 z72 st72 hQ72
        subst l72 y72 z72
        obtain ⟨b72, rfl, N72q, Kq72, sq72_b72, FP72_0⟩ := hQ72
        have N72 := Fr.app Nc23 N72q
        have K72 : Keep h0 T72.heap [] := K0.trans Kq72 all0
        have sz_b72 : h0.size ≤ b72 := Nat.le_trans K0.1 sq72_b72
        have G_b72 : n0 ≤ b72 := Nat.le_trans Z0 sz_b72
        refine ownGo (T' := T72) (f' := (mkF m 160 #[.val (.long q0), .second, .val (.long q1), .second, .val (.long q2), .second, .val (.long q3), .second, iv p4, .val (.long q5), .second, iv (2 : Int32), iv (2 : Int32), .val (.long x0), .second, .val (.long x1), .second, .val (.long x2), .second, .val (.long x3), .second, .val (.long xt), .second, .unset, .unset, .unset] [(.ref b72)])) (st72) ?_
        refine ow_astore (q := 162) X72 hx (L' := #[.val (.long q0), .second, .val (.long q1), .second, .val (.long q2), .second, .val (.long q3), .second, iv p4, .val (.long q5), .second, iv (2 : Int32), iv (2 : Int32), .val (.long x0), .second, .val (.long x1), .second, .val (.long x2), .second, .val (.long x3), .second, .val (.long xt), .second, rv b72, .unset, .unset]) (hb hby at_160) rfl rfl rfl ?_
        refine ow_aload (q := 164) X72 hx (hb hby at_162) rfl rfl rfl ?_
        refine ow_iload (q := 166) X72 hx (hb hby at_164) rfl rfl ?_
        refine ow_lload (q := 168) X72 hx (hb hby at_166) rfl rfl ?_
        obtain ⟨_, _, ⟨T73, L73, k73, n73⟩, -, X73, ⟨Lc73, hQ73, l73, y73, z73⟩, st73⟩ := Jvm.LawKit.callS X72 hx (y := (⟨"com/example/chromabin/chromabin/packing/Packing", "firstAtMost", "([JIJ)I"⟩ : MethodName)) hown (mvT hZ (hw _ (List.mem_of_getElem? (i := 12) rfl))) (mvT hZ (hw _ (List.mem_of_getElem? (i := 13) rfl))) (mvT hZ (hw _ (List.mem_of_getElem? (i := 14) rfl))) (mvT hZ (hw _ (List.mem_of_getElem? (i := 15) rfl))) (by decide) (backOf (W := 0) (rm_fam_2_2 l Z a0 hw [] b72 q5 (ownUpd (ownUpd (fun _ => (0 : Int64)) 0 x0) 1 x1) T72.heap n0 (Nat.le_trans Z0 K72.1) FP72_0) hZ (hw _ (List.mem_of_getElem? (i := 15) rfl)) (hw _ (List.mem_of_getElem? (i := 14) rfl)) (by decide) (by decide)) (g := (mkF m 168 #[.val (.long q0), .second, .val (.long q1), .second, .val (.long q2), .second, .val (.long q3), .second, iv p4, .val (.long q5), .second, iv (2 : Int32), iv (2 : Int32), .val (.long x0), .second, .val (.long x1), .second, .val (.long x2), .second, .val (.long x3), .second, .val (.long xt), .second, rv b72, .unset, .unset] [(.long q5), (.int (2 : Int32)), (.ref b72)])) rfl (by rw [hml]; rfl) (argsL := [(.ref b72), (.int (2 : Int32)), (.long q5)]) (rest := []) (lenOf own_pd2 rfl) rfl (by show 2 * 0 + _ ≤ _; exact Nat.le_of_eq rfl) (hb hby at_168) (fun _ _ => ⟨rfl, rfl, (by decide : 1 + 0 ≤ _), (by decide : 2 + 0 ≤ _)⟩)
        dsimp only [Pt.U, Pt.locs, Pt.cells, Pt.slots] at X73 l73 y73 z73 st73 hQ73
        subst l73 y73 z73
        obtain ⟨rfl, N73q, e73⟩ := hQ73
        have N73 := Fr.app N72 N73q
        refine ownGo (T' := T73) (f' := (mkF m 171 #[.val (.long q0), .second, .val (.long q1), .second, .val (.long q2), .second, .val (.long q3), .second, iv p4, .val (.long q5), .second, iv (2 : Int32), iv (2 : Int32), .val (.long x0), .second, .val (.long x1), .second, .val (.long x2), .second, .val (.long x3), .second, .val (.long xt), .second, rv b72, .unset, .unset] [(.int (2 : Int32))])) (st73) ?_
        refine ow_istore (q := 173) X73 hx (L' := #[.val (.long q0), .second, .val (.long q1), .second, .val (.long q2), .second, .val (.long q3), .second, iv p4, .val (.long q5), .second, iv (2 : Int32), iv (2 : Int32), .val (.long x0), .second, .val (.long x1), .second, .val (.long x2), .second, .val (.long x3), .second, .val (.long xt), .second, rv b72, iv (2 : Int32), .unset]) (hb hby at_171) rfl rfl ?_
        refine ow_iload (q := 175) X73 hx (hb hby at_173) rfl rfl ?_
        refine ow_istore (q := 177) X73 hx (L' := #[.val (.long q0), .second, .val (.long q1), .second, .val (.long q2), .second, .val (.long q3), .second, iv p4, .val (.long q5), .second, iv (2 : Int32), iv (2 : Int32), .val (.long x0), .second, .val (.long x1), .second, .val (.long x2), .second, .val (.long x3), .second, .val (.long xt), .second, rv b72, iv (2 : Int32), iv (2 : Int32)]) (hb hby at_175) rfl rfl ?_
        have cut267_74 : ∀ (w267 : Int32) (Tc74 : State) (lc74 : List Loc), Stand p l e room_1 s m #[(.long q0), (.long q1), (.long q2), (.long q3), (.int p4), (.long q5)] below meth c Tc74 lc74 1 2 → Tc74.heap = T72.heap → Fr n0 lc74 → (w267 = (2 : Int32)) → ownEnds p e below s (Q_law Z q0 q1 q2 q3 p4 q5 h0 n0) 16 128 Tc74 (mkF m 267 #[.val (.long q0), .second, .val (.long q1), .second, .val (.long q2), .second, .val (.long q3), .second, iv p4, .val (.long q5), .second, iv (2 : Int32), iv (2 : Int32), .val (.long x0), .second, .val (.long x1), .second, .val (.long x2), .second, .val (.long x3), .second, .val (.long xt), .second, rv b72, iv (2 : Int32), iv w267] []) := by
          intro w267 Tc74 lc74 Xc74 ec74 Nc74 hw267
          refine ow_iload (q := 269) Xc74 hx (hb hby at_267) rfl rfl ?_
          refine ow_iload (q := 271) Xc74 hx (hb hby at_269) rfl rfl ?_
          refine ow_icmpNo (q := 274) Xc74 hx (hb hby at_271) rfl (Jvm.Free.XT.ii_ne_f hw267.symm) ?_
          refine ow_iconst (q := 275) Xc74 hx (1 : Int32) (hb hby at_274) rfl rfl ?_
          refine ow_goto (q := 279) Xc74 hx (hb hby at_275) (by decide) (by decide) ?_
          refine ownRetN Xc74 hx (r := (1 : Int32)) (Or.inl rfl) Bd.returns (hb hby at_279) hlk (by decide) (by decide) (by decide) ?_
          exact ⟨rfl, Nc74⟩
        have cut246_75 : ∀ (w246 : Int32) (Tc75 : State) (lc75 : List Loc), Stand p l e room_1 s m #[(.long q0), (.long q1), (.long q2), (.long q3), (.int p4), (.long q5)] below meth c Tc75 lc75 1 2 → Tc75.heap = T72.heap → Fr n0 lc75 → (w246 = (2 : Int32)) → ownEnds p e below s (Q_law Z q0 q1 q2 q3 p4 q5 h0 n0) 16 128 Tc75 (mkF m 246 #[.val (.long q0), .second, .val (.long q1), .second, .val (.long q2), .second, .val (.long q3), .second, iv p4, .val (.long q5), .second, iv (2 : Int32), iv (2 : Int32), .val (.long x0), .second, .val (.long x1), .second, .val (.long x2), .second, .val (.long x3), .second, .val (.long xt), .second, rv b72, iv (2 : Int32), iv w246] []) := by
          intro w246 Tc75 lc75 Xc75 ec75 Nc75 hw246
          refine ow_iload (q := 248) Xc75 hx (hb hby at_246) rfl rfl ?_
          refine ow_ifNo (q := 251) Xc75 hx (hb hby at_248) rfl (Jvm.Free.XT.i0_le_f (by decide)) ?_
          refine ow_iload (q := 253) Xc75 hx (hb hby at_251) rfl rfl ?_
          refine ow_ifYes (q := 267) Xc75 hx (hb hby at_253) (Jvm.Free.XT.i0_gt_t (by decide)) (by decide) (by decide) ?_
          exact cut267_74 w246 _ _ Xc75 ec75 Nc75 (by first | rfl | exact hw246 | simp [hw246])
        have cut223_76 : ∀ (w223 : Int32) (Tc76 : State) (lc76 : List Loc), Stand p l e room_1 s m #[(.long q0), (.long q1), (.long q2), (.long q3), (.int p4), (.long q5)] below meth c Tc76 lc76 1 2 → Tc76.heap = T72.heap → Fr n0 lc76 → (w223 = (2 : Int32)) → ownEnds p e below s (Q_law Z q0 q1 q2 q3 p4 q5 h0 n0) 16 128 Tc76 (mkF m 223 #[.val (.long q0), .second, .val (.long q1), .second, .val (.long q2), .second, .val (.long q3), .second, iv p4, .val (.long q5), .second, iv (2 : Int32), iv (2 : Int32), .val (.long x0), .second, .val (.long x1), .second, .val (.long x2), .second, .val (.long x3), .second, .val (.long xt), .second, rv b72, iv (2 : Int32), iv w223] []) := by
          intro w223 Tc76 lc76 Xc76 ec76 Nc76 hw223
          refine ow_iload (q := 225) Xc76 hx (hb hby at_223) rfl rfl ?_
          refine ow_iconst (q := 226) Xc76 hx (1 : Int32) (hb hby at_225) rfl rfl ?_
          refine ow_icmpNo (q := 229) Xc76 hx (hb hby at_226) rfl (Jvm.Free.XT.ii_le_f (by decide)) ?_
          refine ow_iload (q := 231) Xc76 hx (hb hby at_229) rfl rfl ?_
          refine ow_iconst (q := 232) Xc76 hx (1 : Int32) (hb hby at_231) rfl rfl ?_
          refine ow_icmpYes (q := 246) Xc76 hx (hb hby at_232) (Jvm.Free.XT.ii_gt_t (by decide)) (by decide) (by decide) ?_
          exact cut246_75 w223 _ _ Xc76 ec76 Nc76 (by first | rfl | exact hw223 | simp [hw223])
        have cut200_77 : ∀ (w200 : Int32) (Tc77 : State) (lc77 : List Loc), Stand p l e room_1 s m #[(.long q0), (.long q1), (.long q2), (.long q3), (.int p4), (.long q5)] below meth c Tc77 lc77 1 2 → Tc77.heap = T72.heap → Fr n0 lc77 → (w200 = (2 : Int32)) → ownEnds p e below s (Q_law Z q0 q1 q2 q3 p4 q5 h0 n0) 16 128 Tc77 (mkF m 200 #[.val (.long q0), .second, .val (.long q1), .second, .val (.long q2), .second, .val (.long q3), .second, iv p4, .val (.long q5), .second, iv (2 : Int32), iv (2 : Int32), .val (.long x0), .second, .val (.long x1), .second, .val (.long x2), .second, .val (.long x3), .second, .val (.long xt), .second, rv b72, iv (2 : Int32), iv w200] []) := by
          intro w200 Tc77 lc77 Xc77 ec77 Nc77 hw200
          refine ow_iload (q := 202) Xc77 hx (hb hby at_200) rfl rfl ?_
          refine ow_iconst (q := 203) Xc77 hx (2 : Int32) (hb hby at_202) rfl rfl ?_
          refine ow_icmpYes (q := 223) Xc77 hx (hb hby at_203) (Jvm.Free.XT.ii_le_t (by decide)) (by decide) (by decide) ?_
          exact cut223_76 w200 _ _ Xc77 ec77 Nc77 (by first | rfl | exact hw200 | simp [hw200])
        refine ow_iload (q := 179) X73 hx (hb hby at_177) rfl rfl ?_
        refine ow_iconst (q := 180) X73 hx (3 : Int32) (hb hby at_179) rfl rfl ?_
        refine ow_icmpYes (q := 200) X73 hx (hb hby at_180) (Jvm.Free.XT.ii_le_t (by decide)) (by decide) (by decide) ?_
        exact cut200_77 (2 : Int32) _ _ X73 e73 N73 (by first | rfl | simp [])
    · subst hs27
      rcases own_from3 hv_v2 with hs78 | hs79 | hs80 | hs81
      · subst hs78
        refine ow_lload (q := 151) Xc23 hx (hb hby at_149) rfl rfl ?_
        refine ow_lload (q := 153) Xc23 hx (hb hby at_151) rfl rfl ?_
        refine ow_lload (q := 155) Xc23 hx (hb hby at_153) rfl rfl ?_
        refine ow_lload (q := 157) Xc23 hx (hb hby at_155) rfl rfl ?_
        obtain ⟨_, _, ⟨T82, L82, k82, n82⟩, -, X82, ⟨Lc82, hQ82, l82, y82, z82⟩, st82⟩ := Jvm.LawKit.callS Xc23 hx (y := (⟨"com/example/chromabin/chromabin/packing/PackingFirstAtMostPinLaw", "make", "(IJJJJ)[J"⟩ : MethodName)) hown (mvT hZ (hw _ (List.mem_of_getElem? (i := 7) rfl))) (mvT hZ (hw _ (List.mem_of_getElem? (i := 8) rfl))) (mvT hZ (hw _ (List.mem_of_getElem? (i := 9) rfl))) (mvT hZ (hw _ (List.mem_of_getElem? (i := 10) rfl))) (by decide) (backOf (W := 0) (rm_make_3 l Z a0 hw [] x0 x1 x2 x3 h0 n0 (Nat.le_trans Z0 K0.1) ) hZ (hw _ (List.mem_of_getElem? (i := 10) rfl)) (hw _ (List.mem_of_getElem? (i := 9) rfl)) (by decide) (by decide)) (g := (mkF m 157 #[.val (.long q0), .second, .val (.long q1), .second, .val (.long q2), .second, .val (.long q3), .second, iv p4, .val (.long q5), .second, iv (3 : Int32), iv (0 : Int32), .val (.long x0), .second, .val (.long x1), .second, .val (.long x2), .second, .val (.long x3), .second, .val (.long xt), .second, .unset, .unset, .unset] [(.long x3), (.long x2), (.long x1), (.long x0), (.int (3 : Int32))])) rfl (by rw [hml]; rfl) (argsL := [(.int (3 : Int32)), (.long x0), (.long x1), (.long x2), (.long x3)]) (rest := []) (lenOf own_pd1 rfl) rfl (by show 2 * 0 + _ ≤ _; exact Nat.le_of_eq rfl) (hb hby at_157) (fun _ _ => ⟨rfl, ec23, (by decide : 0 + 1 ≤ _), (by decide : 0 + 3 ≤ _)⟩)
        dsimp only [Pt.U, Pt.locs, Pt.cells, Pt.slots] at X82 l82 y82 z82 st82 hQ82
        subst l82 y82 z82
        obtain ⟨b82, rfl, N82q, Kq82, sq82_b82, FP82_0⟩ := hQ82
        have N82 := Fr.app Nc23 N82q
        have K82 : Keep h0 T82.heap [] := K0.trans Kq82 all0
        have sz_b82 : h0.size ≤ b82 := Nat.le_trans K0.1 sq82_b82
        have G_b82 : n0 ≤ b82 := Nat.le_trans Z0 sz_b82
        refine ownGo (T' := T82) (f' := (mkF m 160 #[.val (.long q0), .second, .val (.long q1), .second, .val (.long q2), .second, .val (.long q3), .second, iv p4, .val (.long q5), .second, iv (3 : Int32), iv (0 : Int32), .val (.long x0), .second, .val (.long x1), .second, .val (.long x2), .second, .val (.long x3), .second, .val (.long xt), .second, .unset, .unset, .unset] [(.ref b82)])) (st82) ?_
        refine ow_astore (q := 162) X82 hx (L' := #[.val (.long q0), .second, .val (.long q1), .second, .val (.long q2), .second, .val (.long q3), .second, iv p4, .val (.long q5), .second, iv (3 : Int32), iv (0 : Int32), .val (.long x0), .second, .val (.long x1), .second, .val (.long x2), .second, .val (.long x3), .second, .val (.long xt), .second, rv b82, .unset, .unset]) (hb hby at_160) rfl rfl rfl ?_
        refine ow_aload (q := 164) X82 hx (hb hby at_162) rfl rfl rfl ?_
        refine ow_iload (q := 166) X82 hx (hb hby at_164) rfl rfl ?_
        refine ow_lload (q := 168) X82 hx (hb hby at_166) rfl rfl ?_
        obtain ⟨_, _, ⟨T83, L83, k83, n83⟩, -, X83, ⟨Lc83, hQ83, l83, y83, z83⟩, st83⟩ := Jvm.LawKit.callS X82 hx (y := (⟨"com/example/chromabin/chromabin/packing/Packing", "firstAtMost", "([JIJ)I"⟩ : MethodName)) hown (mvT hZ (hw _ (List.mem_of_getElem? (i := 12) rfl))) (mvT hZ (hw _ (List.mem_of_getElem? (i := 13) rfl))) (mvT hZ (hw _ (List.mem_of_getElem? (i := 14) rfl))) (mvT hZ (hw _ (List.mem_of_getElem? (i := 15) rfl))) (by decide) (backOf (W := 0) (rm_fam_3_0 l Z a0 hw [] b82 q5 (ownUpd (ownUpd (ownUpd (fun _ => (0 : Int64)) 0 x0) 1 x1) 2 x2) T82.heap n0 (Nat.le_trans Z0 K82.1) FP82_0) hZ (hw _ (List.mem_of_getElem? (i := 15) rfl)) (hw _ (List.mem_of_getElem? (i := 14) rfl)) (by decide) (by decide)) (g := (mkF m 168 #[.val (.long q0), .second, .val (.long q1), .second, .val (.long q2), .second, .val (.long q3), .second, iv p4, .val (.long q5), .second, iv (3 : Int32), iv (0 : Int32), .val (.long x0), .second, .val (.long x1), .second, .val (.long x2), .second, .val (.long x3), .second, .val (.long xt), .second, rv b82, .unset, .unset] [(.long q5), (.int (0 : Int32)), (.ref b82)])) rfl (by rw [hml]; rfl) (argsL := [(.ref b82), (.int (0 : Int32)), (.long q5)]) (rest := []) (lenOf own_pd2 rfl) rfl (by show 2 * 0 + _ ≤ _; exact Nat.le_of_eq rfl) (hb hby at_168) (fun _ _ => ⟨rfl, rfl, (by decide : 1 + 0 ≤ _), (by decide : 3 + 0 ≤ _)⟩)
        dsimp only [Pt.U, Pt.locs, Pt.cells, Pt.slots] at X83 l83 y83 z83 st83 hQ83
        subst l83 y83 z83
        obtain ⟨rfl, N83q, e83⟩ := hQ83
        have N83 := Fr.app N82 N83q
        refine ownGo (T' := T83) (f' := (mkF m 171 #[.val (.long q0), .second, .val (.long q1), .second, .val (.long q2), .second, .val (.long q3), .second, iv p4, .val (.long q5), .second, iv (3 : Int32), iv (0 : Int32), .val (.long x0), .second, .val (.long x1), .second, .val (.long x2), .second, .val (.long x3), .second, .val (.long xt), .second, rv b82, .unset, .unset] [(.int (if q5 < (ownUpd (ownUpd (ownUpd (fun _ => (0 : Int64)) 0 x0) 1 x1) 2 x2) 1 then (if q5 < (ownUpd (ownUpd (ownUpd (fun _ => (0 : Int64)) 0 x0) 1 x1) 2 x2) 2 then (3 : Int32) else (2 : Int32)) else (if q5 < (ownUpd (ownUpd (ownUpd (fun _ => (0 : Int64)) 0 x0) 1 x1) 2 x2) 0 then (1 : Int32) else (0 : Int32))))])) (st83) ?_
        generalize hv_v84 : (if q5 < (ownUpd (ownUpd (ownUpd (fun _ => (0 : Int64)) 0 x0) 1 x1) 2 x2) 1 then (if q5 < (ownUpd (ownUpd (ownUpd (fun _ => (0 : Int64)) 0 x0) 1 x1) 2 x2) 2 then (3 : Int32) else (2 : Int32)) else (if q5 < (ownUpd (ownUpd (ownUpd (fun _ => (0 : Int64)) 0 x0) 1 x1) 2 x2) 0 then (1 : Int32) else (0 : Int32))) = v84
        refine ow_istore (q := 173) X83 hx (L' := #[.val (.long q0), .second, .val (.long q1), .second, .val (.long q2), .second, .val (.long q3), .second, iv p4, .val (.long q5), .second, iv (3 : Int32), iv (0 : Int32), .val (.long x0), .second, .val (.long x1), .second, .val (.long x2), .second, .val (.long x3), .second, .val (.long xt), .second, rv b82, iv v84, .unset]) (hb hby at_171) rfl rfl ?_
        refine ow_iload (q := 175) X83 hx (hb hby at_173) rfl rfl ?_
        refine ow_istore (q := 177) X83 hx (L' := #[.val (.long q0), .second, .val (.long q1), .second, .val (.long q2), .second, .val (.long q3), .second, iv p4, .val (.long q5), .second, iv (3 : Int32), iv (0 : Int32), .val (.long x0), .second, .val (.long x1), .second, .val (.long x2), .second, .val (.long x3), .second, .val (.long xt), .second, rv b82, iv v84, iv (3 : Int32)]) (hb hby at_175) rfl rfl ?_
        have cut267_85 : ∀ (w267 : Int32) (Tc85 : State) (lc85 : List Loc), Stand p l e room_1 s m #[(.long q0), (.long q1), (.long q2), (.long q3), (.int p4), (.long q5)] below meth c Tc85 lc85 1 3 → Tc85.heap = T82.heap → Fr n0 lc85 → (w267 = (if q5 < x0 then (if q5 < x1 then (if q5 < x2 then (3 : Int32) else (2 : Int32)) else (1 : Int32)) else (0 : Int32))) → ownEnds p e below s (Q_law Z q0 q1 q2 q3 p4 q5 h0 n0) 16 128 Tc85 (mkF m 267 #[.val (.long q0), .second, .val (.long q1), .second, .val (.long q2), .second, .val (.long q3), .second, iv p4, .val (.long q5), .second, iv (3 : Int32), iv (0 : Int32), .val (.long x0), .second, .val (.long x1), .second, .val (.long x2), .second, .val (.long x3), .second, .val (.long xt), .second, rv b82, iv v84, iv w267] []) := by
          intro w267 Tc85 lc85 Xc85 ec85 Nc85 hw267
          refine ow_iload (q := 269) Xc85 hx (hb hby at_267) rfl rfl ?_
          refine ow_iload (q := 271) Xc85 hx (hb hby at_269) rfl rfl ?_
          refine ow_icmpNo (q := 274) Xc85 hx (hb hby at_271) rfl (Jvm.Free.XT.ii_ne_f (by rw [hw267, ← hv_v84]; exact own_fam_3_0 hs)) ?_
          refine ow_iconst (q := 275) Xc85 hx (1 : Int32) (hb hby at_274) rfl rfl ?_
          refine ow_goto (q := 279) Xc85 hx (hb hby at_275) (by decide) (by decide) ?_
          refine ownRetN Xc85 hx (r := (1 : Int32)) (Or.inl rfl) Bd.returns (hb hby at_279) hlk (by decide) (by decide) (by decide) ?_
          exact ⟨rfl, Nc85⟩
        have cut246_86 : ∀ (w246 : Int32) (Tc86 : State) (lc86 : List Loc), Stand p l e room_1 s m #[(.long q0), (.long q1), (.long q2), (.long q3), (.int p4), (.long q5)] below meth c Tc86 lc86 1 3 → Tc86.heap = T82.heap → Fr n0 lc86 → (w246 = (if q5 < x1 then (if q5 < x2 then (3 : Int32) else (2 : Int32)) else (1 : Int32))) → ownEnds p e below s (Q_law Z q0 q1 q2 q3 p4 q5 h0 n0) 16 128 Tc86 (mkF m 246 #[.val (.long q0), .second, .val (.long q1), .second, .val (.long q2), .second, .val (.long q3), .second, iv p4, .val (.long q5), .second, iv (3 : Int32), iv (0 : Int32), .val (.long x0), .second, .val (.long x1), .second, .val (.long x2), .second, .val (.long x3), .second, .val (.long xt), .second, rv b82, iv v84, iv w246] []) := by
          intro w246 Tc86 lc86 Xc86 ec86 Nc86 hw246
          refine ow_iload (q := 248) Xc86 hx (hb hby at_246) rfl rfl ?_
          refine ow_ifNo (q := 251) Xc86 hx (hb hby at_248) rfl (Jvm.Free.XT.i0_le_f (by decide)) ?_
          refine ow_iload (q := 253) Xc86 hx (hb hby at_251) rfl rfl ?_
          refine ow_ifNo (q := 256) Xc86 hx (hb hby at_253) rfl (Jvm.Free.XT.i0_gt_f (by decide)) ?_
          refine ow_lload (q := 258) Xc86 hx (hb hby at_256) rfl rfl ?_
          refine ow_lload (q := 260) Xc86 hx (hb hby at_258) rfl rfl ?_
          refine ow_lcmp (q := 261) Xc86 hx _ (hb hby at_260) rfl rfl ?_
          by_cases hc261_87 : q5 < x0
          · refine ow_ifYes (q := 267) Xc86 hx (hb hby at_261) (Jvm.Free.XT.ll_gt_t hc261_87) (by decide) (by decide) ?_
            exact cut267_85 w246 _ _ Xc86 ec86 Nc86 (by first | rfl | exact hw246 | simp [hc261_87, hw246])
          · refine ow_ifNo (q := 264) Xc86 hx (hb hby at_261) rfl (Jvm.Free.XT.ll_gt_f hc261_87) ?_
            refine ow_iconst (q := 265) Xc86 hx (0 : Int32) (hb hby at_264) rfl rfl ?_
            refine ow_istore (q := 267) Xc86 hx (L' := #[.val (.long q0), .second, .val (.long q1), .second, .val (.long q2), .second, .val (.long q3), .second, iv p4, .val (.long q5), .second, iv (3 : Int32), iv (0 : Int32), .val (.long x0), .second, .val (.long x1), .second, .val (.long x2), .second, .val (.long x3), .second, .val (.long xt), .second, rv b82, iv v84, iv (0 : Int32)]) (hb hby at_265) rfl rfl ?_
            exact cut267_85 (0 : Int32) _ _ Xc86 ec86 Nc86 (by first | rfl | exact hw246 | simp [hc261_87, hw246])
        have cut223_88 : ∀ (w223 : Int32) (Tc88 : State) (lc88 : List Loc), Stand p l e room_1 s m #[(.long q0), (.long q1), (.long q2), (.long q3), (.int p4), (.long q5)] below meth c Tc88 lc88 1 3 → Tc88.heap = T82.heap → Fr n0 lc88 → (w223 = (if q5 < x2 then (3 : Int32) else (2 : Int32))) → ownEnds p e below s (Q_law Z q0 q1 q2 q3 p4 q5 h0 n0) 16 128 Tc88 (mkF m 223 #[.val (.long q0), .second, .val (.long q1), .second, .val (.long q2), .second, .val (.long q3), .second, iv p4, .val (.long q5), .second, iv (3 : Int32), iv (0 : Int32), .val (.long x0), .second, .val (.long x1), .second, .val (.long x2), .second, .val (.long x3), .second, .val (.long xt), .second, rv b82, iv v84, iv w223] []) := by
          intro w223 Tc88 lc88 Xc88 ec88 Nc88 hw223
          refine ow_iload (q := 225) Xc88 hx (hb hby at_223) rfl rfl ?_
          refine ow_iconst (q := 226) Xc88 hx (1 : Int32) (hb hby at_225) rfl rfl ?_
          refine ow_icmpNo (q := 229) Xc88 hx (hb hby at_226) rfl (Jvm.Free.XT.ii_le_f (by decide)) ?_
          refine ow_iload (q := 231) Xc88 hx (hb hby at_229) rfl rfl ?_
          refine ow_iconst (q := 232) Xc88 hx (1 : Int32) (hb hby at_231) rfl rfl ?_
          refine ow_icmpNo (q := 235) Xc88 hx (hb hby at_232) rfl (Jvm.Free.XT.ii_gt_f (by decide)) ?_
          refine ow_lload (q := 237) Xc88 hx (hb hby at_235) rfl rfl ?_
          refine ow_lload (q := 239) Xc88 hx (hb hby at_237) rfl rfl ?_
          refine ow_lcmp (q := 240) Xc88 hx _ (hb hby at_239) rfl rfl ?_
          by_cases hc240_89 : q5 < x1
          · refine ow_ifYes (q := 246) Xc88 hx (hb hby at_240) (Jvm.Free.XT.ll_gt_t hc240_89) (by decide) (by decide) ?_
            exact cut246_86 w223 _ _ Xc88 ec88 Nc88 (by first | rfl | exact hw223 | simp [hc240_89, hw223])
          · refine ow_ifNo (q := 243) Xc88 hx (hb hby at_240) rfl (Jvm.Free.XT.ll_gt_f hc240_89) ?_
            refine ow_iconst (q := 244) Xc88 hx (1 : Int32) (hb hby at_243) rfl rfl ?_
            refine ow_istore (q := 246) Xc88 hx (L' := #[.val (.long q0), .second, .val (.long q1), .second, .val (.long q2), .second, .val (.long q3), .second, iv p4, .val (.long q5), .second, iv (3 : Int32), iv (0 : Int32), .val (.long x0), .second, .val (.long x1), .second, .val (.long x2), .second, .val (.long x3), .second, .val (.long xt), .second, rv b82, iv v84, iv (1 : Int32)]) (hb hby at_244) rfl rfl ?_
            exact cut246_86 (1 : Int32) _ _ Xc88 ec88 Nc88 (by first | rfl | exact hw223 | simp [hc240_89, hw223])
        have cut200_90 : ∀ (w200 : Int32) (Tc90 : State) (lc90 : List Loc), Stand p l e room_1 s m #[(.long q0), (.long q1), (.long q2), (.long q3), (.int p4), (.long q5)] below meth c Tc90 lc90 1 3 → Tc90.heap = T82.heap → Fr n0 lc90 → (w200 = (3 : Int32)) → ownEnds p e below s (Q_law Z q0 q1 q2 q3 p4 q5 h0 n0) 16 128 Tc90 (mkF m 200 #[.val (.long q0), .second, .val (.long q1), .second, .val (.long q2), .second, .val (.long q3), .second, iv p4, .val (.long q5), .second, iv (3 : Int32), iv (0 : Int32), .val (.long x0), .second, .val (.long x1), .second, .val (.long x2), .second, .val (.long x3), .second, .val (.long xt), .second, rv b82, iv v84, iv w200] []) := by
          intro w200 Tc90 lc90 Xc90 ec90 Nc90 hw200
          refine ow_iload (q := 202) Xc90 hx (hb hby at_200) rfl rfl ?_
          refine ow_iconst (q := 203) Xc90 hx (2 : Int32) (hb hby at_202) rfl rfl ?_
          refine ow_icmpNo (q := 206) Xc90 hx (hb hby at_203) rfl (Jvm.Free.XT.ii_le_f (by decide)) ?_
          refine ow_iload (q := 208) Xc90 hx (hb hby at_206) rfl rfl ?_
          refine ow_iconst (q := 209) Xc90 hx (2 : Int32) (hb hby at_208) rfl rfl ?_
          refine ow_icmpNo (q := 212) Xc90 hx (hb hby at_209) rfl (Jvm.Free.XT.ii_gt_f (by decide)) ?_
          refine ow_lload (q := 214) Xc90 hx (hb hby at_212) rfl rfl ?_
          refine ow_lload (q := 216) Xc90 hx (hb hby at_214) rfl rfl ?_
          refine ow_lcmp (q := 217) Xc90 hx _ (hb hby at_216) rfl rfl ?_
          by_cases hc217_91 : q5 < x2
          · refine ow_ifYes (q := 223) Xc90 hx (hb hby at_217) (Jvm.Free.XT.ll_gt_t hc217_91) (by decide) (by decide) ?_
            exact cut223_88 w200 _ _ Xc90 ec90 Nc90 (by first | rfl | exact hw200 | simp [hc217_91, hw200])
          · refine ow_ifNo (q := 220) Xc90 hx (hb hby at_217) rfl (Jvm.Free.XT.ll_gt_f hc217_91) ?_
            refine ow_iconst (q := 221) Xc90 hx (2 : Int32) (hb hby at_220) rfl rfl ?_
            refine ow_istore (q := 223) Xc90 hx (L' := #[.val (.long q0), .second, .val (.long q1), .second, .val (.long q2), .second, .val (.long q3), .second, iv p4, .val (.long q5), .second, iv (3 : Int32), iv (0 : Int32), .val (.long x0), .second, .val (.long x1), .second, .val (.long x2), .second, .val (.long x3), .second, .val (.long xt), .second, rv b82, iv v84, iv (2 : Int32)]) (hb hby at_221) rfl rfl ?_
            exact cut223_88 (2 : Int32) _ _ Xc90 ec90 Nc90 (by first | rfl | exact hw200 | simp [hc217_91, hw200])
        refine ow_iload (q := 179) X83 hx (hb hby at_177) rfl rfl ?_
        refine ow_iconst (q := 180) X83 hx (3 : Int32) (hb hby at_179) rfl rfl ?_
        refine ow_icmpYes (q := 200) X83 hx (hb hby at_180) (Jvm.Free.XT.ii_le_t (by decide)) (by decide) (by decide) ?_
        exact cut200_90 (3 : Int32) _ _ X83 e83 N83 (by first | rfl | simp [])
      · subst hs79
        refine ow_lload (q := 151) Xc23 hx (hb hby at_149) rfl rfl ?_
        refine ow_lload (q := 153) Xc23 hx (hb hby at_151) rfl rfl ?_
        refine ow_lload (q := 155) Xc23 hx (hb hby at_153) rfl rfl ?_
        refine ow_lload (q := 157) Xc23 hx (hb hby at_155) rfl rfl ?_
        obtain ⟨_, _, ⟨T92, L92, k92, n92⟩, -, X92, ⟨Lc92, hQ92, l92, y92, z92⟩, st92⟩ := Jvm.LawKit.callS Xc23 hx (y := (⟨"com/example/chromabin/chromabin/packing/PackingFirstAtMostPinLaw", "make", "(IJJJJ)[J"⟩ : MethodName)) hown (mvT hZ (hw _ (List.mem_of_getElem? (i := 7) rfl))) (mvT hZ (hw _ (List.mem_of_getElem? (i := 8) rfl))) (mvT hZ (hw _ (List.mem_of_getElem? (i := 9) rfl))) (mvT hZ (hw _ (List.mem_of_getElem? (i := 10) rfl))) (by decide) (backOf (W := 0) (rm_make_3 l Z a0 hw [] x0 x1 x2 x3 h0 n0 (Nat.le_trans Z0 K0.1) ) hZ (hw _ (List.mem_of_getElem? (i := 10) rfl)) (hw _ (List.mem_of_getElem? (i := 9) rfl)) (by decide) (by decide)) (g := (mkF m 157 #[.val (.long q0), .second, .val (.long q1), .second, .val (.long q2), .second, .val (.long q3), .second, iv p4, .val (.long q5), .second, iv (3 : Int32), iv (1 : Int32), .val (.long x0), .second, .val (.long x1), .second, .val (.long x2), .second, .val (.long x3), .second, .val (.long xt), .second, .unset, .unset, .unset] [(.long x3), (.long x2), (.long x1), (.long x0), (.int (3 : Int32))])) rfl (by rw [hml]; rfl) (argsL := [(.int (3 : Int32)), (.long x0), (.long x1), (.long x2), (.long x3)]) (rest := []) (lenOf own_pd1 rfl) rfl (by show 2 * 0 + _ ≤ _; exact Nat.le_of_eq rfl) (hb hby at_157) (fun _ _ => ⟨rfl, ec23, (by decide : 0 + 1 ≤ _), (by decide : 0 + 3 ≤ _)⟩)
        dsimp only [Pt.U, Pt.locs, Pt.cells, Pt.slots] at X92 l92 y92 z92 st92 hQ92
        subst l92 y92 z92
        obtain ⟨b92, rfl, N92q, Kq92, sq92_b92, FP92_0⟩ := hQ92
        have N92 := Fr.app Nc23 N92q
        have K92 : Keep h0 T92.heap [] := K0.trans Kq92 all0
        have sz_b92 : h0.size ≤ b92 := Nat.le_trans K0.1 sq92_b92
        have G_b92 : n0 ≤ b92 := Nat.le_trans Z0 sz_b92
        refine ownGo (T' := T92) (f' := (mkF m 160 #[.val (.long q0), .second, .val (.long q1), .second, .val (.long q2), .second, .val (.long q3), .second, iv p4, .val (.long q5), .second, iv (3 : Int32), iv (1 : Int32), .val (.long x0), .second, .val (.long x1), .second, .val (.long x2), .second, .val (.long x3), .second, .val (.long xt), .second, .unset, .unset, .unset] [(.ref b92)])) (st92) ?_
        refine ow_astore (q := 162) X92 hx (L' := #[.val (.long q0), .second, .val (.long q1), .second, .val (.long q2), .second, .val (.long q3), .second, iv p4, .val (.long q5), .second, iv (3 : Int32), iv (1 : Int32), .val (.long x0), .second, .val (.long x1), .second, .val (.long x2), .second, .val (.long x3), .second, .val (.long xt), .second, rv b92, .unset, .unset]) (hb hby at_160) rfl rfl rfl ?_
        refine ow_aload (q := 164) X92 hx (hb hby at_162) rfl rfl rfl ?_
        refine ow_iload (q := 166) X92 hx (hb hby at_164) rfl rfl ?_
        refine ow_lload (q := 168) X92 hx (hb hby at_166) rfl rfl ?_
        obtain ⟨_, _, ⟨T93, L93, k93, n93⟩, -, X93, ⟨Lc93, hQ93, l93, y93, z93⟩, st93⟩ := Jvm.LawKit.callS X92 hx (y := (⟨"com/example/chromabin/chromabin/packing/Packing", "firstAtMost", "([JIJ)I"⟩ : MethodName)) hown (mvT hZ (hw _ (List.mem_of_getElem? (i := 12) rfl))) (mvT hZ (hw _ (List.mem_of_getElem? (i := 13) rfl))) (mvT hZ (hw _ (List.mem_of_getElem? (i := 14) rfl))) (mvT hZ (hw _ (List.mem_of_getElem? (i := 15) rfl))) (by decide) (backOf (W := 0) (rm_fam_3_1 l Z a0 hw [] b92 q5 (ownUpd (ownUpd (ownUpd (fun _ => (0 : Int64)) 0 x0) 1 x1) 2 x2) T92.heap n0 (Nat.le_trans Z0 K92.1) FP92_0) hZ (hw _ (List.mem_of_getElem? (i := 15) rfl)) (hw _ (List.mem_of_getElem? (i := 14) rfl)) (by decide) (by decide)) (g := (mkF m 168 #[.val (.long q0), .second, .val (.long q1), .second, .val (.long q2), .second, .val (.long q3), .second, iv p4, .val (.long q5), .second, iv (3 : Int32), iv (1 : Int32), .val (.long x0), .second, .val (.long x1), .second, .val (.long x2), .second, .val (.long x3), .second, .val (.long xt), .second, rv b92, .unset, .unset] [(.long q5), (.int (1 : Int32)), (.ref b92)])) rfl (by rw [hml]; rfl) (argsL := [(.ref b92), (.int (1 : Int32)), (.long q5)]) (rest := []) (lenOf own_pd2 rfl) rfl (by show 2 * 0 + _ ≤ _; exact Nat.le_of_eq rfl) (hb hby at_168) (fun _ _ => ⟨rfl, rfl, (by decide : 1 + 0 ≤ _), (by decide : 3 + 0 ≤ _)⟩)
        dsimp only [Pt.U, Pt.locs, Pt.cells, Pt.slots] at X93 l93 y93 z93 st93 hQ93
        subst l93 y93 z93
        obtain ⟨rfl, N93q, e93⟩ := hQ93
        have N93 := Fr.app N92 N93q
        refine ownGo (T' := T93) (f' := (mkF m 171 #[.val (.long q0), .second, .val (.long q1), .second, .val (.long q2), .second, .val (.long q3), .second, iv p4, .val (.long q5), .second, iv (3 : Int32), iv (1 : Int32), .val (.long x0), .second, .val (.long x1), .second, .val (.long x2), .second, .val (.long x3), .second, .val (.long xt), .second, rv b92, .unset, .unset] [(.int (if q5 < (ownUpd (ownUpd (ownUpd (fun _ => (0 : Int64)) 0 x0) 1 x1) 2 x2) 2 then (3 : Int32) else (if q5 < (ownUpd (ownUpd (ownUpd (fun _ => (0 : Int64)) 0 x0) 1 x1) 2 x2) 1 then (2 : Int32) else (1 : Int32))))])) (st93) ?_
        generalize hv_v94 : (if q5 < (ownUpd (ownUpd (ownUpd (fun _ => (0 : Int64)) 0 x0) 1 x1) 2 x2) 2 then (3 : Int32) else (if q5 < (ownUpd (ownUpd (ownUpd (fun _ => (0 : Int64)) 0 x0) 1 x1) 2 x2) 1 then (2 : Int32) else (1 : Int32))) = v94
        refine ow_istore (q := 173) X93 hx (L' := #[.val (.long q0), .second, .val (.long q1), .second, .val (.long q2), .second, .val (.long q3), .second, iv p4, .val (.long q5), .second, iv (3 : Int32), iv (1 : Int32), .val (.long x0), .second, .val (.long x1), .second, .val (.long x2), .second, .val (.long x3), .second, .val (.long xt), .second, rv b92, iv v94, .unset]) (hb hby at_171) rfl rfl ?_
        refine ow_iload (q := 175) X93 hx (hb hby at_173) rfl rfl ?_
        refine ow_istore (q := 177) X93 hx (L' := #[.val (.long q0), .second, .val (.long q1), .second, .val (.long q2), .second, .val (.long q3), .second, iv p4, .val (.long q5), .second, iv (3 : Int32), iv (1 : Int32), .val (.long x0), .second, .val (.long x1), .second, .val (.long x2), .second, .val (.long x3), .second, .val (.long xt), .second, rv b92, iv v94, iv (3 : Int32)]) (hb hby at_175) rfl rfl ?_
        have cut267_95 : ∀ (w267 : Int32) (Tc95 : State) (lc95 : List Loc), Stand p l e room_1 s m #[(.long q0), (.long q1), (.long q2), (.long q3), (.int p4), (.long q5)] below meth c Tc95 lc95 1 3 → Tc95.heap = T92.heap → Fr n0 lc95 → (w267 = (if q5 < x1 then (if q5 < x2 then (3 : Int32) else (2 : Int32)) else (1 : Int32))) → ownEnds p e below s (Q_law Z q0 q1 q2 q3 p4 q5 h0 n0) 16 128 Tc95 (mkF m 267 #[.val (.long q0), .second, .val (.long q1), .second, .val (.long q2), .second, .val (.long q3), .second, iv p4, .val (.long q5), .second, iv (3 : Int32), iv (1 : Int32), .val (.long x0), .second, .val (.long x1), .second, .val (.long x2), .second, .val (.long x3), .second, .val (.long xt), .second, rv b92, iv v94, iv w267] []) := by
          intro w267 Tc95 lc95 Xc95 ec95 Nc95 hw267
          refine ow_iload (q := 269) Xc95 hx (hb hby at_267) rfl rfl ?_
          refine ow_iload (q := 271) Xc95 hx (hb hby at_269) rfl rfl ?_
          refine ow_icmpNo (q := 274) Xc95 hx (hb hby at_271) rfl (Jvm.Free.XT.ii_ne_f (by rw [hw267, ← hv_v94]; exact own_fam_3_1 hs)) ?_
          refine ow_iconst (q := 275) Xc95 hx (1 : Int32) (hb hby at_274) rfl rfl ?_
          refine ow_goto (q := 279) Xc95 hx (hb hby at_275) (by decide) (by decide) ?_
          refine ownRetN Xc95 hx (r := (1 : Int32)) (Or.inl rfl) Bd.returns (hb hby at_279) hlk (by decide) (by decide) (by decide) ?_
          exact ⟨rfl, Nc95⟩
        have cut246_96 : ∀ (w246 : Int32) (Tc96 : State) (lc96 : List Loc), Stand p l e room_1 s m #[(.long q0), (.long q1), (.long q2), (.long q3), (.int p4), (.long q5)] below meth c Tc96 lc96 1 3 → Tc96.heap = T92.heap → Fr n0 lc96 → (w246 = (if q5 < x1 then (if q5 < x2 then (3 : Int32) else (2 : Int32)) else (1 : Int32))) → ownEnds p e below s (Q_law Z q0 q1 q2 q3 p4 q5 h0 n0) 16 128 Tc96 (mkF m 246 #[.val (.long q0), .second, .val (.long q1), .second, .val (.long q2), .second, .val (.long q3), .second, iv p4, .val (.long q5), .second, iv (3 : Int32), iv (1 : Int32), .val (.long x0), .second, .val (.long x1), .second, .val (.long x2), .second, .val (.long x3), .second, .val (.long xt), .second, rv b92, iv v94, iv w246] []) := by
          intro w246 Tc96 lc96 Xc96 ec96 Nc96 hw246
          refine ow_iload (q := 248) Xc96 hx (hb hby at_246) rfl rfl ?_
          refine ow_ifNo (q := 251) Xc96 hx (hb hby at_248) rfl (Jvm.Free.XT.i0_le_f (by decide)) ?_
          refine ow_iload (q := 253) Xc96 hx (hb hby at_251) rfl rfl ?_
          refine ow_ifYes (q := 267) Xc96 hx (hb hby at_253) (Jvm.Free.XT.i0_gt_t (by decide)) (by decide) (by decide) ?_
          exact cut267_95 w246 _ _ Xc96 ec96 Nc96 (by first | rfl | exact hw246 | simp [hw246])
        have cut223_97 : ∀ (w223 : Int32) (Tc97 : State) (lc97 : List Loc), Stand p l e room_1 s m #[(.long q0), (.long q1), (.long q2), (.long q3), (.int p4), (.long q5)] below meth c Tc97 lc97 1 3 → Tc97.heap = T92.heap → Fr n0 lc97 → (w223 = (if q5 < x2 then (3 : Int32) else (2 : Int32))) → ownEnds p e below s (Q_law Z q0 q1 q2 q3 p4 q5 h0 n0) 16 128 Tc97 (mkF m 223 #[.val (.long q0), .second, .val (.long q1), .second, .val (.long q2), .second, .val (.long q3), .second, iv p4, .val (.long q5), .second, iv (3 : Int32), iv (1 : Int32), .val (.long x0), .second, .val (.long x1), .second, .val (.long x2), .second, .val (.long x3), .second, .val (.long xt), .second, rv b92, iv v94, iv w223] []) := by
          intro w223 Tc97 lc97 Xc97 ec97 Nc97 hw223
          refine ow_iload (q := 225) Xc97 hx (hb hby at_223) rfl rfl ?_
          refine ow_iconst (q := 226) Xc97 hx (1 : Int32) (hb hby at_225) rfl rfl ?_
          refine ow_icmpNo (q := 229) Xc97 hx (hb hby at_226) rfl (Jvm.Free.XT.ii_le_f (by decide)) ?_
          refine ow_iload (q := 231) Xc97 hx (hb hby at_229) rfl rfl ?_
          refine ow_iconst (q := 232) Xc97 hx (1 : Int32) (hb hby at_231) rfl rfl ?_
          refine ow_icmpNo (q := 235) Xc97 hx (hb hby at_232) rfl (Jvm.Free.XT.ii_gt_f (by decide)) ?_
          refine ow_lload (q := 237) Xc97 hx (hb hby at_235) rfl rfl ?_
          refine ow_lload (q := 239) Xc97 hx (hb hby at_237) rfl rfl ?_
          refine ow_lcmp (q := 240) Xc97 hx _ (hb hby at_239) rfl rfl ?_
          by_cases hc240_98 : q5 < x1
          · refine ow_ifYes (q := 246) Xc97 hx (hb hby at_240) (Jvm.Free.XT.ll_gt_t hc240_98) (by decide) (by decide) ?_
            exact cut246_96 w223 _ _ Xc97 ec97 Nc97 (by first | rfl | exact hw223 | simp [hc240_98, hw223])
          · refine ow_ifNo (q := 243) Xc97 hx (hb hby at_240) rfl (Jvm.Free.XT.ll_gt_f hc240_98) ?_
            refine ow_iconst (q := 244) Xc97 hx (1 : Int32) (hb hby at_243) rfl rfl ?_
            refine ow_istore (q := 246) Xc97 hx (L' := #[.val (.long q0), .second, .val (.long q1), .second, .val (.long q2), .second, .val (.long q3), .second, iv p4, .val (.long q5), .second, iv (3 : Int32), iv (1 : Int32), .val (.long x0), .second, .val (.long x1), .second, .val (.long x2), .second, .val (.long x3), .second, .val (.long xt), .second, rv b92, iv v94, iv (1 : Int32)]) (hb hby at_244) rfl rfl ?_
            exact cut246_96 (1 : Int32) _ _ Xc97 ec97 Nc97 (by first | rfl | exact hw223 | simp [hc240_98, hw223])
        have cut200_99 : ∀ (w200 : Int32) (Tc99 : State) (lc99 : List Loc), Stand p l e room_1 s m #[(.long q0), (.long q1), (.long q2), (.long q3), (.int p4), (.long q5)] below meth c Tc99 lc99 1 3 → Tc99.heap = T92.heap → Fr n0 lc99 → (w200 = (3 : Int32)) → ownEnds p e below s (Q_law Z q0 q1 q2 q3 p4 q5 h0 n0) 16 128 Tc99 (mkF m 200 #[.val (.long q0), .second, .val (.long q1), .second, .val (.long q2), .second, .val (.long q3), .second, iv p4, .val (.long q5), .second, iv (3 : Int32), iv (1 : Int32), .val (.long x0), .second, .val (.long x1), .second, .val (.long x2), .second, .val (.long x3), .second, .val (.long xt), .second, rv b92, iv v94, iv w200] []) := by
          intro w200 Tc99 lc99 Xc99 ec99 Nc99 hw200
          refine ow_iload (q := 202) Xc99 hx (hb hby at_200) rfl rfl ?_
          refine ow_iconst (q := 203) Xc99 hx (2 : Int32) (hb hby at_202) rfl rfl ?_
          refine ow_icmpNo (q := 206) Xc99 hx (hb hby at_203) rfl (Jvm.Free.XT.ii_le_f (by decide)) ?_
          refine ow_iload (q := 208) Xc99 hx (hb hby at_206) rfl rfl ?_
          refine ow_iconst (q := 209) Xc99 hx (2 : Int32) (hb hby at_208) rfl rfl ?_
          refine ow_icmpNo (q := 212) Xc99 hx (hb hby at_209) rfl (Jvm.Free.XT.ii_gt_f (by decide)) ?_
          refine ow_lload (q := 214) Xc99 hx (hb hby at_212) rfl rfl ?_
          refine ow_lload (q := 216) Xc99 hx (hb hby at_214) rfl rfl ?_
          refine ow_lcmp (q := 217) Xc99 hx _ (hb hby at_216) rfl rfl ?_
          by_cases hc217_100 : q5 < x2
          · refine ow_ifYes (q := 223) Xc99 hx (hb hby at_217) (Jvm.Free.XT.ll_gt_t hc217_100) (by decide) (by decide) ?_
            exact cut223_97 w200 _ _ Xc99 ec99 Nc99 (by first | rfl | exact hw200 | simp [hc217_100, hw200])
          · refine ow_ifNo (q := 220) Xc99 hx (hb hby at_217) rfl (Jvm.Free.XT.ll_gt_f hc217_100) ?_
            refine ow_iconst (q := 221) Xc99 hx (2 : Int32) (hb hby at_220) rfl rfl ?_
            refine ow_istore (q := 223) Xc99 hx (L' := #[.val (.long q0), .second, .val (.long q1), .second, .val (.long q2), .second, .val (.long q3), .second, iv p4, .val (.long q5), .second, iv (3 : Int32), iv (1 : Int32), .val (.long x0), .second, .val (.long x1), .second, .val (.long x2), .second, .val (.long x3), .second, .val (.long xt), .second, rv b92, iv v94, iv (2 : Int32)]) (hb hby at_221) rfl rfl ?_
            exact cut223_97 (2 : Int32) _ _ Xc99 ec99 Nc99 (by first | rfl | exact hw200 | simp [hc217_100, hw200])
        refine ow_iload (q := 179) X93 hx (hb hby at_177) rfl rfl ?_
        refine ow_iconst (q := 180) X93 hx (3 : Int32) (hb hby at_179) rfl rfl ?_
        refine ow_icmpYes (q := 200) X93 hx (hb hby at_180) (Jvm.Free.XT.ii_le_t (by decide)) (by decide) (by decide) ?_
        exact cut200_99 (3 : Int32) _ _ X93 e93 N93 (by first | rfl | simp [])
      · subst hs80
        refine ow_lload (q := 151) Xc23 hx (hb hby at_149) rfl rfl ?_
        refine ow_lload (q := 153) Xc23 hx (hb hby at_151) rfl rfl ?_
        refine ow_lload (q := 155) Xc23 hx (hb hby at_153) rfl rfl ?_
        refine ow_lload (q := 157) Xc23 hx (hb hby at_155) rfl rfl ?_
        obtain ⟨_, _, ⟨T101, L101, k101, n101⟩, -, X101, ⟨Lc101, hQ101, l101, y101, z101⟩, st101⟩ := Jvm.LawKit.callS Xc23 hx (y := (⟨"com/example/chromabin/chromabin/packing/PackingFirstAtMostPinLaw", "make", "(IJJJJ)[J"⟩ : MethodName)) hown (mvT hZ (hw _ (List.mem_of_getElem? (i := 7) rfl))) (mvT hZ (hw _ (List.mem_of_getElem? (i := 8) rfl))) (mvT hZ (hw _ (List.mem_of_getElem? (i := 9) rfl))) (mvT hZ (hw _ (List.mem_of_getElem? (i := 10) rfl))) (by decide) (backOf (W := 0) (rm_make_3 l Z a0 hw [] x0 x1 x2 x3 h0 n0 (Nat.le_trans Z0 K0.1) ) hZ (hw _ (List.mem_of_getElem? (i := 10) rfl)) (hw _ (List.mem_of_getElem? (i := 9) rfl)) (by decide) (by decide)) (g := (mkF m 157 #[.val (.long q0), .second, .val (.long q1), .second, .val (.long q2), .second, .val (.long q3), .second, iv p4, .val (.long q5), .second, iv (3 : Int32), iv (2 : Int32), .val (.long x0), .second, .val (.long x1), .second, .val (.long x2), .second, .val (.long x3), .second, .val (.long xt), .second, .unset, .unset, .unset] [(.long x3), (.long x2), (.long x1), (.long x0), (.int (3 : Int32))])) rfl (by rw [hml]; rfl) (argsL := [(.int (3 : Int32)), (.long x0), (.long x1), (.long x2), (.long x3)]) (rest := []) (lenOf own_pd1 rfl) rfl (by show 2 * 0 + _ ≤ _; exact Nat.le_of_eq rfl) (hb hby at_157) (fun _ _ => ⟨rfl, ec23, (by decide : 0 + 1 ≤ _), (by decide : 0 + 3 ≤ _)⟩)
        dsimp only [Pt.U, Pt.locs, Pt.cells, Pt.slots] at X101 l101 y101 z101 st101 hQ101
        subst l101 y101 z101
        obtain ⟨b101, rfl, N101q, Kq101, sq101_b101, FP101_0⟩ := hQ101
        have N101 := Fr.app Nc23 N101q
        have K101 : Keep h0 T101.heap [] := K0.trans Kq101 all0
        have sz_b101 : h0.size ≤ b101 := Nat.le_trans K0.1 sq101_b101
        have G_b101 : n0 ≤ b101 := Nat.le_trans Z0 sz_b101
        refine ownGo (T' := T101) (f' := (mkF m 160 #[.val (.long q0), .second, .val (.long q1), .second, .val (.long q2), .second, .val (.long q3), .second, iv p4, .val (.long q5), .second, iv (3 : Int32), iv (2 : Int32), .val (.long x0), .second, .val (.long x1), .second, .val (.long x2), .second, .val (.long x3), .second, .val (.long xt), .second, .unset, .unset, .unset] [(.ref b101)])) (st101) ?_
        refine ow_astore (q := 162) X101 hx (L' := #[.val (.long q0), .second, .val (.long q1), .second, .val (.long q2), .second, .val (.long q3), .second, iv p4, .val (.long q5), .second, iv (3 : Int32), iv (2 : Int32), .val (.long x0), .second, .val (.long x1), .second, .val (.long x2), .second, .val (.long x3), .second, .val (.long xt), .second, rv b101, .unset, .unset]) (hb hby at_160) rfl rfl rfl ?_
        refine ow_aload (q := 164) X101 hx (hb hby at_162) rfl rfl rfl ?_
        refine ow_iload (q := 166) X101 hx (hb hby at_164) rfl rfl ?_
        refine ow_lload (q := 168) X101 hx (hb hby at_166) rfl rfl ?_
        obtain ⟨_, _, ⟨T102, L102, k102, n102⟩, -, X102, ⟨Lc102, hQ102, l102, y102, z102⟩, st102⟩ := Jvm.LawKit.callS X101 hx (y := (⟨"com/example/chromabin/chromabin/packing/Packing", "firstAtMost", "([JIJ)I"⟩ : MethodName)) hown (mvT hZ (hw _ (List.mem_of_getElem? (i := 12) rfl))) (mvT hZ (hw _ (List.mem_of_getElem? (i := 13) rfl))) (mvT hZ (hw _ (List.mem_of_getElem? (i := 14) rfl))) (mvT hZ (hw _ (List.mem_of_getElem? (i := 15) rfl))) (by decide) (backOf (W := 0) (rm_fam_3_2 l Z a0 hw [] b101 q5 (ownUpd (ownUpd (ownUpd (fun _ => (0 : Int64)) 0 x0) 1 x1) 2 x2) T101.heap n0 (Nat.le_trans Z0 K101.1) FP101_0) hZ (hw _ (List.mem_of_getElem? (i := 15) rfl)) (hw _ (List.mem_of_getElem? (i := 14) rfl)) (by decide) (by decide)) (g := (mkF m 168 #[.val (.long q0), .second, .val (.long q1), .second, .val (.long q2), .second, .val (.long q3), .second, iv p4, .val (.long q5), .second, iv (3 : Int32), iv (2 : Int32), .val (.long x0), .second, .val (.long x1), .second, .val (.long x2), .second, .val (.long x3), .second, .val (.long xt), .second, rv b101, .unset, .unset] [(.long q5), (.int (2 : Int32)), (.ref b101)])) rfl (by rw [hml]; rfl) (argsL := [(.ref b101), (.int (2 : Int32)), (.long q5)]) (rest := []) (lenOf own_pd2 rfl) rfl (by show 2 * 0 + _ ≤ _; exact Nat.le_of_eq rfl) (hb hby at_168) (fun _ _ => ⟨rfl, rfl, (by decide : 1 + 0 ≤ _), (by decide : 3 + 0 ≤ _)⟩)
        dsimp only [Pt.U, Pt.locs, Pt.cells, Pt.slots] at X102 l102 y102 z102 st102 hQ102
        subst l102 y102 z102
        obtain ⟨rfl, N102q, e102⟩ := hQ102
        have N102 := Fr.app N101 N102q
        refine ownGo (T' := T102) (f' := (mkF m 171 #[.val (.long q0), .second, .val (.long q1), .second, .val (.long q2), .second, .val (.long q3), .second, iv p4, .val (.long q5), .second, iv (3 : Int32), iv (2 : Int32), .val (.long x0), .second, .val (.long x1), .second, .val (.long x2), .second, .val (.long x3), .second, .val (.long xt), .second, rv b101, .unset, .unset] [(.int (if q5 < (ownUpd (ownUpd (ownUpd (fun _ => (0 : Int64)) 0 x0) 1 x1) 2 x2) 2 then (3 : Int32) else (2 : Int32)))])) (st102) ?_
        generalize hv_v103 : (if q5 < (ownUpd (ownUpd (ownUpd (fun _ => (0 : Int64)) 0 x0) 1 x1) 2 x2) 2 then (3 : Int32) else (2 : Int32)) = v103
        refine ow_istore (q := 173) X102 hx (L' := #[.val (.long q0), .second, .val (.long q1), .second, .val (.long q2), .second, .val (.long q3), .second, iv p4, .val (.long q5), .second, iv (3 : Int32), iv (2 : Int32), .val (.long x0), .second, .val (.long x1), .second, .val (.long x2), .second, .val (.long x3), .second, .val (.long xt), .second, rv b101, iv v103, .unset]) (hb hby at_171) rfl rfl ?_
        refine ow_iload (q := 175) X102 hx (hb hby at_173) rfl rfl ?_
        refine ow_istore (q := 177) X102 hx (L' := #[.val (.long q0), .second, .val (.long q1), .second, .val (.long q2), .second, .val (.long q3), .second, iv p4, .val (.long q5), .second, iv (3 : Int32), iv (2 : Int32), .val (.long x0), .second, .val (.long x1), .second, .val (.long x2), .second, .val (.long x3), .second, .val (.long xt), .second, rv b101, iv v103, iv (3 : Int32)]) (hb hby at_175) rfl rfl ?_
        have cut267_104 : ∀ (w267 : Int32) (Tc104 : State) (lc104 : List Loc), Stand p l e room_1 s m #[(.long q0), (.long q1), (.long q2), (.long q3), (.int p4), (.long q5)] below meth c Tc104 lc104 1 3 → Tc104.heap = T101.heap → Fr n0 lc104 → (w267 = (if q5 < x2 then (3 : Int32) else (2 : Int32))) → ownEnds p e below s (Q_law Z q0 q1 q2 q3 p4 q5 h0 n0) 16 128 Tc104 (mkF m 267 #[.val (.long q0), .second, .val (.long q1), .second, .val (.long q2), .second, .val (.long q3), .second, iv p4, .val (.long q5), .second, iv (3 : Int32), iv (2 : Int32), .val (.long x0), .second, .val (.long x1), .second, .val (.long x2), .second, .val (.long x3), .second, .val (.long xt), .second, rv b101, iv v103, iv w267] []) := by
          intro w267 Tc104 lc104 Xc104 ec104 Nc104 hw267
          refine ow_iload (q := 269) Xc104 hx (hb hby at_267) rfl rfl ?_
          refine ow_iload (q := 271) Xc104 hx (hb hby at_269) rfl rfl ?_
          refine ow_icmpNo (q := 274) Xc104 hx (hb hby at_271) rfl (Jvm.Free.XT.ii_ne_f (by rw [hw267, ← hv_v103]; exact own_fam_3_2 hs)) ?_
          refine ow_iconst (q := 275) Xc104 hx (1 : Int32) (hb hby at_274) rfl rfl ?_
          refine ow_goto (q := 279) Xc104 hx (hb hby at_275) (by decide) (by decide) ?_
          refine ownRetN Xc104 hx (r := (1 : Int32)) (Or.inl rfl) Bd.returns (hb hby at_279) hlk (by decide) (by decide) (by decide) ?_
          exact ⟨rfl, Nc104⟩
        have cut246_105 : ∀ (w246 : Int32) (Tc105 : State) (lc105 : List Loc), Stand p l e room_1 s m #[(.long q0), (.long q1), (.long q2), (.long q3), (.int p4), (.long q5)] below meth c Tc105 lc105 1 3 → Tc105.heap = T101.heap → Fr n0 lc105 → (w246 = (if q5 < x2 then (3 : Int32) else (2 : Int32))) → ownEnds p e below s (Q_law Z q0 q1 q2 q3 p4 q5 h0 n0) 16 128 Tc105 (mkF m 246 #[.val (.long q0), .second, .val (.long q1), .second, .val (.long q2), .second, .val (.long q3), .second, iv p4, .val (.long q5), .second, iv (3 : Int32), iv (2 : Int32), .val (.long x0), .second, .val (.long x1), .second, .val (.long x2), .second, .val (.long x3), .second, .val (.long xt), .second, rv b101, iv v103, iv w246] []) := by
          intro w246 Tc105 lc105 Xc105 ec105 Nc105 hw246
          refine ow_iload (q := 248) Xc105 hx (hb hby at_246) rfl rfl ?_
          refine ow_ifNo (q := 251) Xc105 hx (hb hby at_248) rfl (Jvm.Free.XT.i0_le_f (by decide)) ?_
          refine ow_iload (q := 253) Xc105 hx (hb hby at_251) rfl rfl ?_
          refine ow_ifYes (q := 267) Xc105 hx (hb hby at_253) (Jvm.Free.XT.i0_gt_t (by decide)) (by decide) (by decide) ?_
          exact cut267_104 w246 _ _ Xc105 ec105 Nc105 (by first | rfl | exact hw246 | simp [hw246])
        have cut223_106 : ∀ (w223 : Int32) (Tc106 : State) (lc106 : List Loc), Stand p l e room_1 s m #[(.long q0), (.long q1), (.long q2), (.long q3), (.int p4), (.long q5)] below meth c Tc106 lc106 1 3 → Tc106.heap = T101.heap → Fr n0 lc106 → (w223 = (if q5 < x2 then (3 : Int32) else (2 : Int32))) → ownEnds p e below s (Q_law Z q0 q1 q2 q3 p4 q5 h0 n0) 16 128 Tc106 (mkF m 223 #[.val (.long q0), .second, .val (.long q1), .second, .val (.long q2), .second, .val (.long q3), .second, iv p4, .val (.long q5), .second, iv (3 : Int32), iv (2 : Int32), .val (.long x0), .second, .val (.long x1), .second, .val (.long x2), .second, .val (.long x3), .second, .val (.long xt), .second, rv b101, iv v103, iv w223] []) := by
          intro w223 Tc106 lc106 Xc106 ec106 Nc106 hw223
          refine ow_iload (q := 225) Xc106 hx (hb hby at_223) rfl rfl ?_
          refine ow_iconst (q := 226) Xc106 hx (1 : Int32) (hb hby at_225) rfl rfl ?_
          refine ow_icmpNo (q := 229) Xc106 hx (hb hby at_226) rfl (Jvm.Free.XT.ii_le_f (by decide)) ?_
          refine ow_iload (q := 231) Xc106 hx (hb hby at_229) rfl rfl ?_
          refine ow_iconst (q := 232) Xc106 hx (1 : Int32) (hb hby at_231) rfl rfl ?_
          refine ow_icmpYes (q := 246) Xc106 hx (hb hby at_232) (Jvm.Free.XT.ii_gt_t (by decide)) (by decide) (by decide) ?_
          exact cut246_105 w223 _ _ Xc106 ec106 Nc106 (by first | rfl | exact hw223 | simp [hw223])
        have cut200_107 : ∀ (w200 : Int32) (Tc107 : State) (lc107 : List Loc), Stand p l e room_1 s m #[(.long q0), (.long q1), (.long q2), (.long q3), (.int p4), (.long q5)] below meth c Tc107 lc107 1 3 → Tc107.heap = T101.heap → Fr n0 lc107 → (w200 = (3 : Int32)) → ownEnds p e below s (Q_law Z q0 q1 q2 q3 p4 q5 h0 n0) 16 128 Tc107 (mkF m 200 #[.val (.long q0), .second, .val (.long q1), .second, .val (.long q2), .second, .val (.long q3), .second, iv p4, .val (.long q5), .second, iv (3 : Int32), iv (2 : Int32), .val (.long x0), .second, .val (.long x1), .second, .val (.long x2), .second, .val (.long x3), .second, .val (.long xt), .second, rv b101, iv v103, iv w200] []) := by
          intro w200 Tc107 lc107 Xc107 ec107 Nc107 hw200
          refine ow_iload (q := 202) Xc107 hx (hb hby at_200) rfl rfl ?_
          refine ow_iconst (q := 203) Xc107 hx (2 : Int32) (hb hby at_202) rfl rfl ?_
          refine ow_icmpNo (q := 206) Xc107 hx (hb hby at_203) rfl (Jvm.Free.XT.ii_le_f (by decide)) ?_
          refine ow_iload (q := 208) Xc107 hx (hb hby at_206) rfl rfl ?_
          refine ow_iconst (q := 209) Xc107 hx (2 : Int32) (hb hby at_208) rfl rfl ?_
          refine ow_icmpNo (q := 212) Xc107 hx (hb hby at_209) rfl (Jvm.Free.XT.ii_gt_f (by decide)) ?_
          refine ow_lload (q := 214) Xc107 hx (hb hby at_212) rfl rfl ?_
          refine ow_lload (q := 216) Xc107 hx (hb hby at_214) rfl rfl ?_
          refine ow_lcmp (q := 217) Xc107 hx _ (hb hby at_216) rfl rfl ?_
          by_cases hc217_108 : q5 < x2
          · refine ow_ifYes (q := 223) Xc107 hx (hb hby at_217) (Jvm.Free.XT.ll_gt_t hc217_108) (by decide) (by decide) ?_
            exact cut223_106 w200 _ _ Xc107 ec107 Nc107 (by first | rfl | exact hw200 | simp [hc217_108, hw200])
          · refine ow_ifNo (q := 220) Xc107 hx (hb hby at_217) rfl (Jvm.Free.XT.ll_gt_f hc217_108) ?_
            refine ow_iconst (q := 221) Xc107 hx (2 : Int32) (hb hby at_220) rfl rfl ?_
            refine ow_istore (q := 223) Xc107 hx (L' := #[.val (.long q0), .second, .val (.long q1), .second, .val (.long q2), .second, .val (.long q3), .second, iv p4, .val (.long q5), .second, iv (3 : Int32), iv (2 : Int32), .val (.long x0), .second, .val (.long x1), .second, .val (.long x2), .second, .val (.long x3), .second, .val (.long xt), .second, rv b101, iv v103, iv (2 : Int32)]) (hb hby at_221) rfl rfl ?_
            exact cut223_106 (2 : Int32) _ _ Xc107 ec107 Nc107 (by first | rfl | exact hw200 | simp [hc217_108, hw200])
        refine ow_iload (q := 179) X102 hx (hb hby at_177) rfl rfl ?_
        refine ow_iconst (q := 180) X102 hx (3 : Int32) (hb hby at_179) rfl rfl ?_
        refine ow_icmpYes (q := 200) X102 hx (hb hby at_180) (Jvm.Free.XT.ii_le_t (by decide)) (by decide) (by decide) ?_
        exact cut200_107 (3 : Int32) _ _ X102 e102 N102 (by first | rfl | simp [])
      · subst hs81
        refine ow_lload (q := 151) Xc23 hx (hb hby at_149) rfl rfl ?_
        refine ow_lload (q := 153) Xc23 hx (hb hby at_151) rfl rfl ?_
        refine ow_lload (q := 155) Xc23 hx (hb hby at_153) rfl rfl ?_
        refine ow_lload (q := 157) Xc23 hx (hb hby at_155) rfl rfl ?_
        obtain ⟨_, _, ⟨T109, L109, k109, n109⟩, -, X109, ⟨Lc109, hQ109, l109, y109, z109⟩, st109⟩ := Jvm.LawKit.callS Xc23 hx (y := (⟨"com/example/chromabin/chromabin/packing/PackingFirstAtMostPinLaw", "make", "(IJJJJ)[J"⟩ : MethodName)) hown (mvT hZ (hw _ (List.mem_of_getElem? (i := 7) rfl))) (mvT hZ (hw _ (List.mem_of_getElem? (i := 8) rfl))) (mvT hZ (hw _ (List.mem_of_getElem? (i := 9) rfl))) (mvT hZ (hw _ (List.mem_of_getElem? (i := 10) rfl))) (by decide) (backOf (W := 0) (rm_make_3 l Z a0 hw [] x0 x1 x2 x3 h0 n0 (Nat.le_trans Z0 K0.1) ) hZ (hw _ (List.mem_of_getElem? (i := 10) rfl)) (hw _ (List.mem_of_getElem? (i := 9) rfl)) (by decide) (by decide)) (g := (mkF m 157 #[.val (.long q0), .second, .val (.long q1), .second, .val (.long q2), .second, .val (.long q3), .second, iv p4, .val (.long q5), .second, iv (3 : Int32), iv (3 : Int32), .val (.long x0), .second, .val (.long x1), .second, .val (.long x2), .second, .val (.long x3), .second, .val (.long xt), .second, .unset, .unset, .unset] [(.long x3), (.long x2), (.long x1), (.long x0), (.int (3 : Int32))])) rfl (by rw [hml]; rfl) (argsL := [(.int (3 : Int32)), (.long x0), (.long x1), (.long x2), (.long x3)]) (rest := []) (lenOf own_pd1 rfl) rfl (by show 2 * 0 + _ ≤ _; exact Nat.le_of_eq rfl) (hb hby at_157) (fun _ _ => ⟨rfl, ec23, (by decide : 0 + 1 ≤ _), (by decide : 0 + 3 ≤ _)⟩)
        dsimp only [Pt.U, Pt.locs, Pt.cells, Pt.slots] at X109 l109 y109 z109 st109 hQ109
        subst l109 y109 z109
        obtain ⟨b109, rfl, N109q, Kq109, sq109_b109, FP109_0⟩ := hQ109
        have N109 := Fr.app Nc23 N109q
        have K109 : Keep h0 T109.heap [] := K0.trans Kq109 all0
        have sz_b109 : h0.size ≤ b109 := Nat.le_trans K0.1 sq109_b109
        have G_b109 : n0 ≤ b109 := Nat.le_trans Z0 sz_b109
        refine ownGo (T' := T109) (f' := (mkF m 160 #[.val (.long q0), .second, .val (.long q1), .second, .val (.long q2), .second, .val (.long q3), .second, iv p4, .val (.long q5), .second, iv (3 : Int32), iv (3 : Int32), .val (.long x0), .second, .val (.long x1), .second, .val (.long x2), .second, .val (.long x3), .second, .val (.long xt), .second, .unset, .unset, .unset] [(.ref b109)])) (st109) ?_
        refine ow_astore (q := 162) X109 hx (L' := #[.val (.long q0), .second, .val (.long q1), .second, .val (.long q2), .second, .val (.long q3), .second, iv p4, .val (.long q5), .second, iv (3 : Int32), iv (3 : Int32), .val (.long x0), .second, .val (.long x1), .second, .val (.long x2), .second, .val (.long x3), .second, .val (.long xt), .second, rv b109, .unset, .unset]) (hb hby at_160) rfl rfl rfl ?_
        refine ow_aload (q := 164) X109 hx (hb hby at_162) rfl rfl rfl ?_
        refine ow_iload (q := 166) X109 hx (hb hby at_164) rfl rfl ?_
        refine ow_lload (q := 168) X109 hx (hb hby at_166) rfl rfl ?_
        obtain ⟨_, _, ⟨T110, L110, k110, n110⟩, -, X110, ⟨Lc110, hQ110, l110, y110, z110⟩, st110⟩ := Jvm.LawKit.callS X109 hx (y := (⟨"com/example/chromabin/chromabin/packing/Packing", "firstAtMost", "([JIJ)I"⟩ : MethodName)) hown (mvT hZ (hw _ (List.mem_of_getElem? (i := 12) rfl))) (mvT hZ (hw _ (List.mem_of_getElem? (i := 13) rfl))) (mvT hZ (hw _ (List.mem_of_getElem? (i := 14) rfl))) (mvT hZ (hw _ (List.mem_of_getElem? (i := 15) rfl))) (by decide) (backOf (W := 0) (rm_fam_3_3 l Z a0 hw [] b109 q5 (ownUpd (ownUpd (ownUpd (fun _ => (0 : Int64)) 0 x0) 1 x1) 2 x2) T109.heap n0 (Nat.le_trans Z0 K109.1) FP109_0) hZ (hw _ (List.mem_of_getElem? (i := 15) rfl)) (hw _ (List.mem_of_getElem? (i := 14) rfl)) (by decide) (by decide)) (g := (mkF m 168 #[.val (.long q0), .second, .val (.long q1), .second, .val (.long q2), .second, .val (.long q3), .second, iv p4, .val (.long q5), .second, iv (3 : Int32), iv (3 : Int32), .val (.long x0), .second, .val (.long x1), .second, .val (.long x2), .second, .val (.long x3), .second, .val (.long xt), .second, rv b109, .unset, .unset] [(.long q5), (.int (3 : Int32)), (.ref b109)])) rfl (by rw [hml]; rfl) (argsL := [(.ref b109), (.int (3 : Int32)), (.long q5)]) (rest := []) (lenOf own_pd2 rfl) rfl (by show 2 * 0 + _ ≤ _; exact Nat.le_of_eq rfl) (hb hby at_168) (fun _ _ => ⟨rfl, rfl, (by decide : 1 + 0 ≤ _), (by decide : 3 + 0 ≤ _)⟩)
        dsimp only [Pt.U, Pt.locs, Pt.cells, Pt.slots] at X110 l110 y110 z110 st110 hQ110
        subst l110 y110 z110
        obtain ⟨rfl, N110q, e110⟩ := hQ110
        have N110 := Fr.app N109 N110q
        refine ownGo (T' := T110) (f' := (mkF m 171 #[.val (.long q0), .second, .val (.long q1), .second, .val (.long q2), .second, .val (.long q3), .second, iv p4, .val (.long q5), .second, iv (3 : Int32), iv (3 : Int32), .val (.long x0), .second, .val (.long x1), .second, .val (.long x2), .second, .val (.long x3), .second, .val (.long xt), .second, rv b109, .unset, .unset] [(.int (3 : Int32))])) (st110) ?_
        refine ow_istore (q := 173) X110 hx (L' := #[.val (.long q0), .second, .val (.long q1), .second, .val (.long q2), .second, .val (.long q3), .second, iv p4, .val (.long q5), .second, iv (3 : Int32), iv (3 : Int32), .val (.long x0), .second, .val (.long x1), .second, .val (.long x2), .second, .val (.long x3), .second, .val (.long xt), .second, rv b109, iv (3 : Int32), .unset]) (hb hby at_171) rfl rfl ?_
        refine ow_iload (q := 175) X110 hx (hb hby at_173) rfl rfl ?_
        refine ow_istore (q := 177) X110 hx (L' := #[.val (.long q0), .second, .val (.long q1), .second, .val (.long q2), .second, .val (.long q3), .second, iv p4, .val (.long q5), .second, iv (3 : Int32), iv (3 : Int32), .val (.long x0), .second, .val (.long x1), .second, .val (.long x2), .second, .val (.long x3), .second, .val (.long xt), .second, rv b109, iv (3 : Int32), iv (3 : Int32)]) (hb hby at_175) rfl rfl ?_
        have cut267_111 : ∀ (w267 : Int32) (Tc111 : State) (lc111 : List Loc), Stand p l e room_1 s m #[(.long q0), (.long q1), (.long q2), (.long q3), (.int p4), (.long q5)] below meth c Tc111 lc111 1 3 → Tc111.heap = T109.heap → Fr n0 lc111 → (w267 = (3 : Int32)) → ownEnds p e below s (Q_law Z q0 q1 q2 q3 p4 q5 h0 n0) 16 128 Tc111 (mkF m 267 #[.val (.long q0), .second, .val (.long q1), .second, .val (.long q2), .second, .val (.long q3), .second, iv p4, .val (.long q5), .second, iv (3 : Int32), iv (3 : Int32), .val (.long x0), .second, .val (.long x1), .second, .val (.long x2), .second, .val (.long x3), .second, .val (.long xt), .second, rv b109, iv (3 : Int32), iv w267] []) := by
          intro w267 Tc111 lc111 Xc111 ec111 Nc111 hw267
          refine ow_iload (q := 269) Xc111 hx (hb hby at_267) rfl rfl ?_
          refine ow_iload (q := 271) Xc111 hx (hb hby at_269) rfl rfl ?_
          refine ow_icmpNo (q := 274) Xc111 hx (hb hby at_271) rfl (Jvm.Free.XT.ii_ne_f hw267.symm) ?_
          refine ow_iconst (q := 275) Xc111 hx (1 : Int32) (hb hby at_274) rfl rfl ?_
          refine ow_goto (q := 279) Xc111 hx (hb hby at_275) (by decide) (by decide) ?_
          refine ownRetN Xc111 hx (r := (1 : Int32)) (Or.inl rfl) Bd.returns (hb hby at_279) hlk (by decide) (by decide) (by decide) ?_
          exact ⟨rfl, Nc111⟩
        have cut246_112 : ∀ (w246 : Int32) (Tc112 : State) (lc112 : List Loc), Stand p l e room_1 s m #[(.long q0), (.long q1), (.long q2), (.long q3), (.int p4), (.long q5)] below meth c Tc112 lc112 1 3 → Tc112.heap = T109.heap → Fr n0 lc112 → (w246 = (3 : Int32)) → ownEnds p e below s (Q_law Z q0 q1 q2 q3 p4 q5 h0 n0) 16 128 Tc112 (mkF m 246 #[.val (.long q0), .second, .val (.long q1), .second, .val (.long q2), .second, .val (.long q3), .second, iv p4, .val (.long q5), .second, iv (3 : Int32), iv (3 : Int32), .val (.long x0), .second, .val (.long x1), .second, .val (.long x2), .second, .val (.long x3), .second, .val (.long xt), .second, rv b109, iv (3 : Int32), iv w246] []) := by
          intro w246 Tc112 lc112 Xc112 ec112 Nc112 hw246
          refine ow_iload (q := 248) Xc112 hx (hb hby at_246) rfl rfl ?_
          refine ow_ifNo (q := 251) Xc112 hx (hb hby at_248) rfl (Jvm.Free.XT.i0_le_f (by decide)) ?_
          refine ow_iload (q := 253) Xc112 hx (hb hby at_251) rfl rfl ?_
          refine ow_ifYes (q := 267) Xc112 hx (hb hby at_253) (Jvm.Free.XT.i0_gt_t (by decide)) (by decide) (by decide) ?_
          exact cut267_111 w246 _ _ Xc112 ec112 Nc112 (by first | rfl | exact hw246 | simp [hw246])
        have cut223_113 : ∀ (w223 : Int32) (Tc113 : State) (lc113 : List Loc), Stand p l e room_1 s m #[(.long q0), (.long q1), (.long q2), (.long q3), (.int p4), (.long q5)] below meth c Tc113 lc113 1 3 → Tc113.heap = T109.heap → Fr n0 lc113 → (w223 = (3 : Int32)) → ownEnds p e below s (Q_law Z q0 q1 q2 q3 p4 q5 h0 n0) 16 128 Tc113 (mkF m 223 #[.val (.long q0), .second, .val (.long q1), .second, .val (.long q2), .second, .val (.long q3), .second, iv p4, .val (.long q5), .second, iv (3 : Int32), iv (3 : Int32), .val (.long x0), .second, .val (.long x1), .second, .val (.long x2), .second, .val (.long x3), .second, .val (.long xt), .second, rv b109, iv (3 : Int32), iv w223] []) := by
          intro w223 Tc113 lc113 Xc113 ec113 Nc113 hw223
          refine ow_iload (q := 225) Xc113 hx (hb hby at_223) rfl rfl ?_
          refine ow_iconst (q := 226) Xc113 hx (1 : Int32) (hb hby at_225) rfl rfl ?_
          refine ow_icmpNo (q := 229) Xc113 hx (hb hby at_226) rfl (Jvm.Free.XT.ii_le_f (by decide)) ?_
          refine ow_iload (q := 231) Xc113 hx (hb hby at_229) rfl rfl ?_
          refine ow_iconst (q := 232) Xc113 hx (1 : Int32) (hb hby at_231) rfl rfl ?_
          refine ow_icmpYes (q := 246) Xc113 hx (hb hby at_232) (Jvm.Free.XT.ii_gt_t (by decide)) (by decide) (by decide) ?_
          exact cut246_112 w223 _ _ Xc113 ec113 Nc113 (by first | rfl | exact hw223 | simp [hw223])
        have cut200_114 : ∀ (w200 : Int32) (Tc114 : State) (lc114 : List Loc), Stand p l e room_1 s m #[(.long q0), (.long q1), (.long q2), (.long q3), (.int p4), (.long q5)] below meth c Tc114 lc114 1 3 → Tc114.heap = T109.heap → Fr n0 lc114 → (w200 = (3 : Int32)) → ownEnds p e below s (Q_law Z q0 q1 q2 q3 p4 q5 h0 n0) 16 128 Tc114 (mkF m 200 #[.val (.long q0), .second, .val (.long q1), .second, .val (.long q2), .second, .val (.long q3), .second, iv p4, .val (.long q5), .second, iv (3 : Int32), iv (3 : Int32), .val (.long x0), .second, .val (.long x1), .second, .val (.long x2), .second, .val (.long x3), .second, .val (.long xt), .second, rv b109, iv (3 : Int32), iv w200] []) := by
          intro w200 Tc114 lc114 Xc114 ec114 Nc114 hw200
          refine ow_iload (q := 202) Xc114 hx (hb hby at_200) rfl rfl ?_
          refine ow_iconst (q := 203) Xc114 hx (2 : Int32) (hb hby at_202) rfl rfl ?_
          refine ow_icmpNo (q := 206) Xc114 hx (hb hby at_203) rfl (Jvm.Free.XT.ii_le_f (by decide)) ?_
          refine ow_iload (q := 208) Xc114 hx (hb hby at_206) rfl rfl ?_
          refine ow_iconst (q := 209) Xc114 hx (2 : Int32) (hb hby at_208) rfl rfl ?_
          refine ow_icmpYes (q := 223) Xc114 hx (hb hby at_209) (Jvm.Free.XT.ii_gt_t (by decide)) (by decide) (by decide) ?_
          exact cut223_113 w200 _ _ Xc114 ec114 Nc114 (by first | rfl | exact hw200 | simp [hw200])
        refine ow_iload (q := 179) X110 hx (hb hby at_177) rfl rfl ?_
        refine ow_iconst (q := 180) X110 hx (3 : Int32) (hb hby at_179) rfl rfl ?_
        refine ow_icmpYes (q := 200) X110 hx (hb hby at_180) (Jvm.Free.XT.ii_le_t (by decide)) (by decide) (by decide) ?_
        exact cut200_114 (3 : Int32) _ _ X110 e110 N110 (by first | rfl | simp [])
    · subst hs28
      rcases own_from4 hv_v2 with hs115 | hs116 | hs117 | hs118 | hs119
      · subst hs115
        refine ow_lload (q := 151) Xc23 hx (hb hby at_149) rfl rfl ?_
        refine ow_lload (q := 153) Xc23 hx (hb hby at_151) rfl rfl ?_
        refine ow_lload (q := 155) Xc23 hx (hb hby at_153) rfl rfl ?_
        refine ow_lload (q := 157) Xc23 hx (hb hby at_155) rfl rfl ?_
        obtain ⟨_, _, ⟨T120, L120, k120, n120⟩, -, X120, ⟨Lc120, hQ120, l120, y120, z120⟩, st120⟩ := Jvm.LawKit.callS Xc23 hx (y := (⟨"com/example/chromabin/chromabin/packing/PackingFirstAtMostPinLaw", "make", "(IJJJJ)[J"⟩ : MethodName)) hown (mvT hZ (hw _ (List.mem_of_getElem? (i := 7) rfl))) (mvT hZ (hw _ (List.mem_of_getElem? (i := 8) rfl))) (mvT hZ (hw _ (List.mem_of_getElem? (i := 9) rfl))) (mvT hZ (hw _ (List.mem_of_getElem? (i := 10) rfl))) (by decide) (backOf (W := 0) (rm_make_4 l Z a0 hw [] x0 x1 x2 x3 h0 n0 (Nat.le_trans Z0 K0.1) ) hZ (hw _ (List.mem_of_getElem? (i := 10) rfl)) (hw _ (List.mem_of_getElem? (i := 9) rfl)) (by decide) (by decide)) (g := (mkF m 157 #[.val (.long q0), .second, .val (.long q1), .second, .val (.long q2), .second, .val (.long q3), .second, iv p4, .val (.long q5), .second, iv (4 : Int32), iv (0 : Int32), .val (.long x0), .second, .val (.long x1), .second, .val (.long x2), .second, .val (.long x3), .second, .val (.long xt), .second, .unset, .unset, .unset] [(.long x3), (.long x2), (.long x1), (.long x0), (.int (4 : Int32))])) rfl (by rw [hml]; rfl) (argsL := [(.int (4 : Int32)), (.long x0), (.long x1), (.long x2), (.long x3)]) (rest := []) (lenOf own_pd1 rfl) rfl (by show 2 * 0 + _ ≤ _; exact Nat.le_of_eq rfl) (hb hby at_157) (fun _ _ => ⟨rfl, ec23, (by decide : 0 + 1 ≤ _), (by decide : 0 + 4 ≤ _)⟩)
        dsimp only [Pt.U, Pt.locs, Pt.cells, Pt.slots] at X120 l120 y120 z120 st120 hQ120
        subst l120 y120 z120
        obtain ⟨b120, rfl, N120q, Kq120, sq120_b120, FP120_0⟩ := hQ120
        have N120 := Fr.app Nc23 N120q
        have K120 : Keep h0 T120.heap [] := K0.trans Kq120 all0
        have sz_b120 : h0.size ≤ b120 := Nat.le_trans K0.1 sq120_b120
        have G_b120 : n0 ≤ b120 := Nat.le_trans Z0 sz_b120
        refine ownGo (T' := T120) (f' := (mkF m 160 #[.val (.long q0), .second, .val (.long q1), .second, .val (.long q2), .second, .val (.long q3), .second, iv p4, .val (.long q5), .second, iv (4 : Int32), iv (0 : Int32), .val (.long x0), .second, .val (.long x1), .second, .val (.long x2), .second, .val (.long x3), .second, .val (.long xt), .second, .unset, .unset, .unset] [(.ref b120)])) (st120) ?_
        refine ow_astore (q := 162) X120 hx (L' := #[.val (.long q0), .second, .val (.long q1), .second, .val (.long q2), .second, .val (.long q3), .second, iv p4, .val (.long q5), .second, iv (4 : Int32), iv (0 : Int32), .val (.long x0), .second, .val (.long x1), .second, .val (.long x2), .second, .val (.long x3), .second, .val (.long xt), .second, rv b120, .unset, .unset]) (hb hby at_160) rfl rfl rfl ?_
        refine ow_aload (q := 164) X120 hx (hb hby at_162) rfl rfl rfl ?_
        refine ow_iload (q := 166) X120 hx (hb hby at_164) rfl rfl ?_
        refine ow_lload (q := 168) X120 hx (hb hby at_166) rfl rfl ?_
        obtain ⟨_, _, ⟨T121, L121, k121, n121⟩, -, X121, ⟨Lc121, hQ121, l121, y121, z121⟩, st121⟩ := Jvm.LawKit.callS X120 hx (y := (⟨"com/example/chromabin/chromabin/packing/Packing", "firstAtMost", "([JIJ)I"⟩ : MethodName)) hown (mvT hZ (hw _ (List.mem_of_getElem? (i := 12) rfl))) (mvT hZ (hw _ (List.mem_of_getElem? (i := 13) rfl))) (mvT hZ (hw _ (List.mem_of_getElem? (i := 14) rfl))) (mvT hZ (hw _ (List.mem_of_getElem? (i := 15) rfl))) (by decide) (backOf (W := 0) (rm_fam_4_0 l Z a0 hw [] b120 q5 (ownUpd (ownUpd (ownUpd (ownUpd (fun _ => (0 : Int64)) 0 x0) 1 x1) 2 x2) 3 x3) T120.heap n0 (Nat.le_trans Z0 K120.1) FP120_0) hZ (hw _ (List.mem_of_getElem? (i := 15) rfl)) (hw _ (List.mem_of_getElem? (i := 14) rfl)) (by decide) (by decide)) (g := (mkF m 168 #[.val (.long q0), .second, .val (.long q1), .second, .val (.long q2), .second, .val (.long q3), .second, iv p4, .val (.long q5), .second, iv (4 : Int32), iv (0 : Int32), .val (.long x0), .second, .val (.long x1), .second, .val (.long x2), .second, .val (.long x3), .second, .val (.long xt), .second, rv b120, .unset, .unset] [(.long q5), (.int (0 : Int32)), (.ref b120)])) rfl (by rw [hml]; rfl) (argsL := [(.ref b120), (.int (0 : Int32)), (.long q5)]) (rest := []) (lenOf own_pd2 rfl) rfl (by show 2 * 0 + _ ≤ _; exact Nat.le_of_eq rfl) (hb hby at_168) (fun _ _ => ⟨rfl, rfl, (by decide : 1 + 0 ≤ _), (by decide : 4 + 0 ≤ _)⟩)
        dsimp only [Pt.U, Pt.locs, Pt.cells, Pt.slots] at X121 l121 y121 z121 st121 hQ121
        subst l121 y121 z121
        obtain ⟨rfl, N121q, e121⟩ := hQ121
        have N121 := Fr.app N120 N121q
        refine ownGo (T' := T121) (f' := (mkF m 171 #[.val (.long q0), .second, .val (.long q1), .second, .val (.long q2), .second, .val (.long q3), .second, iv p4, .val (.long q5), .second, iv (4 : Int32), iv (0 : Int32), .val (.long x0), .second, .val (.long x1), .second, .val (.long x2), .second, .val (.long x3), .second, .val (.long xt), .second, rv b120, .unset, .unset] [(.int (if q5 < (ownUpd (ownUpd (ownUpd (ownUpd (fun _ => (0 : Int64)) 0 x0) 1 x1) 2 x2) 3 x3) 2 then (if q5 < (ownUpd (ownUpd (ownUpd (ownUpd (fun _ => (0 : Int64)) 0 x0) 1 x1) 2 x2) 3 x3) 3 then (4 : Int32) else (3 : Int32)) else (if q5 < (ownUpd (ownUpd (ownUpd (ownUpd (fun _ => (0 : Int64)) 0 x0) 1 x1) 2 x2) 3 x3) 1 then (2 : Int32) else (if q5 < (ownUpd (ownUpd (ownUpd (ownUpd (fun _ => (0 : Int64)) 0 x0) 1 x1) 2 x2) 3 x3) 0 then (1 : Int32) else (0 : Int32)))))])) (st121) ?_
        generalize hv_v122 : (if q5 < (ownUpd (ownUpd (ownUpd (ownUpd (fun _ => (0 : Int64)) 0 x0) 1 x1) 2 x2) 3 x3) 2 then (if q5 < (ownUpd (ownUpd (ownUpd (ownUpd (fun _ => (0 : Int64)) 0 x0) 1 x1) 2 x2) 3 x3) 3 then (4 : Int32) else (3 : Int32)) else (if q5 < (ownUpd (ownUpd (ownUpd (ownUpd (fun _ => (0 : Int64)) 0 x0) 1 x1) 2 x2) 3 x3) 1 then (2 : Int32) else (if q5 < (ownUpd (ownUpd (ownUpd (ownUpd (fun _ => (0 : Int64)) 0 x0) 1 x1) 2 x2) 3 x3) 0 then (1 : Int32) else (0 : Int32)))) = v122
        refine ow_istore (q := 173) X121 hx (L' := #[.val (.long q0), .second, .val (.long q1), .second, .val (.long q2), .second, .val (.long q3), .second, iv p4, .val (.long q5), .second, iv (4 : Int32), iv (0 : Int32), .val (.long x0), .second, .val (.long x1), .second, .val (.long x2), .second, .val (.long x3), .second, .val (.long xt), .second, rv b120, iv v122, .unset]) (hb hby at_171) rfl rfl ?_
        refine ow_iload (q := 175) X121 hx (hb hby at_173) rfl rfl ?_
        refine ow_istore (q := 177) X121 hx (L' := #[.val (.long q0), .second, .val (.long q1), .second, .val (.long q2), .second, .val (.long q3), .second, iv p4, .val (.long q5), .second, iv (4 : Int32), iv (0 : Int32), .val (.long x0), .second, .val (.long x1), .second, .val (.long x2), .second, .val (.long x3), .second, .val (.long xt), .second, rv b120, iv v122, iv (4 : Int32)]) (hb hby at_175) rfl rfl ?_
        have cut267_123 : ∀ (w267 : Int32) (Tc123 : State) (lc123 : List Loc), Stand p l e room_1 s m #[(.long q0), (.long q1), (.long q2), (.long q3), (.int p4), (.long q5)] below meth c Tc123 lc123 1 4 → Tc123.heap = T120.heap → Fr n0 lc123 → (w267 = (if q5 < x0 then (if q5 < x1 then (if q5 < x2 then (if q5 < x3 then (4 : Int32) else (3 : Int32)) else (2 : Int32)) else (1 : Int32)) else (0 : Int32))) → ownEnds p e below s (Q_law Z q0 q1 q2 q3 p4 q5 h0 n0) 16 128 Tc123 (mkF m 267 #[.val (.long q0), .second, .val (.long q1), .second, .val (.long q2), .second, .val (.long q3), .second, iv p4, .val (.long q5), .second, iv (4 : Int32), iv (0 : Int32), .val (.long x0), .second, .val (.long x1), .second, .val (.long x2), .second, .val (.long x3), .second, .val (.long xt), .second, rv b120, iv v122, iv w267] []) := by
          intro w267 Tc123 lc123 Xc123 ec123 Nc123 hw267
          refine ow_iload (q := 269) Xc123 hx (hb hby at_267) rfl rfl ?_
          refine ow_iload (q := 271) Xc123 hx (hb hby at_269) rfl rfl ?_
          refine ow_icmpNo (q := 274) Xc123 hx (hb hby at_271) rfl (Jvm.Free.XT.ii_ne_f (by rw [hw267, ← hv_v122]; exact own_fam_4_0 hs)) ?_
          refine ow_iconst (q := 275) Xc123 hx (1 : Int32) (hb hby at_274) rfl rfl ?_
          refine ow_goto (q := 279) Xc123 hx (hb hby at_275) (by decide) (by decide) ?_
          refine ownRetN Xc123 hx (r := (1 : Int32)) (Or.inl rfl) Bd.returns (hb hby at_279) hlk (by decide) (by decide) (by decide) ?_
          exact ⟨rfl, Nc123⟩
        have cut246_124 : ∀ (w246 : Int32) (Tc124 : State) (lc124 : List Loc), Stand p l e room_1 s m #[(.long q0), (.long q1), (.long q2), (.long q3), (.int p4), (.long q5)] below meth c Tc124 lc124 1 4 → Tc124.heap = T120.heap → Fr n0 lc124 → (w246 = (if q5 < x1 then (if q5 < x2 then (if q5 < x3 then (4 : Int32) else (3 : Int32)) else (2 : Int32)) else (1 : Int32))) → ownEnds p e below s (Q_law Z q0 q1 q2 q3 p4 q5 h0 n0) 16 128 Tc124 (mkF m 246 #[.val (.long q0), .second, .val (.long q1), .second, .val (.long q2), .second, .val (.long q3), .second, iv p4, .val (.long q5), .second, iv (4 : Int32), iv (0 : Int32), .val (.long x0), .second, .val (.long x1), .second, .val (.long x2), .second, .val (.long x3), .second, .val (.long xt), .second, rv b120, iv v122, iv w246] []) := by
          intro w246 Tc124 lc124 Xc124 ec124 Nc124 hw246
          refine ow_iload (q := 248) Xc124 hx (hb hby at_246) rfl rfl ?_
          refine ow_ifNo (q := 251) Xc124 hx (hb hby at_248) rfl (Jvm.Free.XT.i0_le_f (by decide)) ?_
          refine ow_iload (q := 253) Xc124 hx (hb hby at_251) rfl rfl ?_
          refine ow_ifNo (q := 256) Xc124 hx (hb hby at_253) rfl (Jvm.Free.XT.i0_gt_f (by decide)) ?_
          refine ow_lload (q := 258) Xc124 hx (hb hby at_256) rfl rfl ?_
          refine ow_lload (q := 260) Xc124 hx (hb hby at_258) rfl rfl ?_
          refine ow_lcmp (q := 261) Xc124 hx _ (hb hby at_260) rfl rfl ?_
          by_cases hc261_125 : q5 < x0
          · refine ow_ifYes (q := 267) Xc124 hx (hb hby at_261) (Jvm.Free.XT.ll_gt_t hc261_125) (by decide) (by decide) ?_
            exact cut267_123 w246 _ _ Xc124 ec124 Nc124 (by first | rfl | exact hw246 | simp [hc261_125, hw246])
          · refine ow_ifNo (q := 264) Xc124 hx (hb hby at_261) rfl (Jvm.Free.XT.ll_gt_f hc261_125) ?_
            refine ow_iconst (q := 265) Xc124 hx (0 : Int32) (hb hby at_264) rfl rfl ?_
            refine ow_istore (q := 267) Xc124 hx (L' := #[.val (.long q0), .second, .val (.long q1), .second, .val (.long q2), .second, .val (.long q3), .second, iv p4, .val (.long q5), .second, iv (4 : Int32), iv (0 : Int32), .val (.long x0), .second, .val (.long x1), .second, .val (.long x2), .second, .val (.long x3), .second, .val (.long xt), .second, rv b120, iv v122, iv (0 : Int32)]) (hb hby at_265) rfl rfl ?_
            exact cut267_123 (0 : Int32) _ _ Xc124 ec124 Nc124 (by first | rfl | exact hw246 | simp [hc261_125, hw246])
        have cut223_126 : ∀ (w223 : Int32) (Tc126 : State) (lc126 : List Loc), Stand p l e room_1 s m #[(.long q0), (.long q1), (.long q2), (.long q3), (.int p4), (.long q5)] below meth c Tc126 lc126 1 4 → Tc126.heap = T120.heap → Fr n0 lc126 → (w223 = (if q5 < x2 then (if q5 < x3 then (4 : Int32) else (3 : Int32)) else (2 : Int32))) → ownEnds p e below s (Q_law Z q0 q1 q2 q3 p4 q5 h0 n0) 16 128 Tc126 (mkF m 223 #[.val (.long q0), .second, .val (.long q1), .second, .val (.long q2), .second, .val (.long q3), .second, iv p4, .val (.long q5), .second, iv (4 : Int32), iv (0 : Int32), .val (.long x0), .second, .val (.long x1), .second, .val (.long x2), .second, .val (.long x3), .second, .val (.long xt), .second, rv b120, iv v122, iv w223] []) := by
          intro w223 Tc126 lc126 Xc126 ec126 Nc126 hw223
          refine ow_iload (q := 225) Xc126 hx (hb hby at_223) rfl rfl ?_
          refine ow_iconst (q := 226) Xc126 hx (1 : Int32) (hb hby at_225) rfl rfl ?_
          refine ow_icmpNo (q := 229) Xc126 hx (hb hby at_226) rfl (Jvm.Free.XT.ii_le_f (by decide)) ?_
          refine ow_iload (q := 231) Xc126 hx (hb hby at_229) rfl rfl ?_
          refine ow_iconst (q := 232) Xc126 hx (1 : Int32) (hb hby at_231) rfl rfl ?_
          refine ow_icmpNo (q := 235) Xc126 hx (hb hby at_232) rfl (Jvm.Free.XT.ii_gt_f (by decide)) ?_
          refine ow_lload (q := 237) Xc126 hx (hb hby at_235) rfl rfl ?_
          refine ow_lload (q := 239) Xc126 hx (hb hby at_237) rfl rfl ?_
          refine ow_lcmp (q := 240) Xc126 hx _ (hb hby at_239) rfl rfl ?_
          by_cases hc240_127 : q5 < x1
          · refine ow_ifYes (q := 246) Xc126 hx (hb hby at_240) (Jvm.Free.XT.ll_gt_t hc240_127) (by decide) (by decide) ?_
            exact cut246_124 w223 _ _ Xc126 ec126 Nc126 (by first | rfl | exact hw223 | simp [hc240_127, hw223])
          · refine ow_ifNo (q := 243) Xc126 hx (hb hby at_240) rfl (Jvm.Free.XT.ll_gt_f hc240_127) ?_
            refine ow_iconst (q := 244) Xc126 hx (1 : Int32) (hb hby at_243) rfl rfl ?_
            refine ow_istore (q := 246) Xc126 hx (L' := #[.val (.long q0), .second, .val (.long q1), .second, .val (.long q2), .second, .val (.long q3), .second, iv p4, .val (.long q5), .second, iv (4 : Int32), iv (0 : Int32), .val (.long x0), .second, .val (.long x1), .second, .val (.long x2), .second, .val (.long x3), .second, .val (.long xt), .second, rv b120, iv v122, iv (1 : Int32)]) (hb hby at_244) rfl rfl ?_
            exact cut246_124 (1 : Int32) _ _ Xc126 ec126 Nc126 (by first | rfl | exact hw223 | simp [hc240_127, hw223])
        have cut200_128 : ∀ (w200 : Int32) (Tc128 : State) (lc128 : List Loc), Stand p l e room_1 s m #[(.long q0), (.long q1), (.long q2), (.long q3), (.int p4), (.long q5)] below meth c Tc128 lc128 1 4 → Tc128.heap = T120.heap → Fr n0 lc128 → (w200 = (if q5 < x3 then (4 : Int32) else (3 : Int32))) → ownEnds p e below s (Q_law Z q0 q1 q2 q3 p4 q5 h0 n0) 16 128 Tc128 (mkF m 200 #[.val (.long q0), .second, .val (.long q1), .second, .val (.long q2), .second, .val (.long q3), .second, iv p4, .val (.long q5), .second, iv (4 : Int32), iv (0 : Int32), .val (.long x0), .second, .val (.long x1), .second, .val (.long x2), .second, .val (.long x3), .second, .val (.long xt), .second, rv b120, iv v122, iv w200] []) := by
          intro w200 Tc128 lc128 Xc128 ec128 Nc128 hw200
          refine ow_iload (q := 202) Xc128 hx (hb hby at_200) rfl rfl ?_
          refine ow_iconst (q := 203) Xc128 hx (2 : Int32) (hb hby at_202) rfl rfl ?_
          refine ow_icmpNo (q := 206) Xc128 hx (hb hby at_203) rfl (Jvm.Free.XT.ii_le_f (by decide)) ?_
          refine ow_iload (q := 208) Xc128 hx (hb hby at_206) rfl rfl ?_
          refine ow_iconst (q := 209) Xc128 hx (2 : Int32) (hb hby at_208) rfl rfl ?_
          refine ow_icmpNo (q := 212) Xc128 hx (hb hby at_209) rfl (Jvm.Free.XT.ii_gt_f (by decide)) ?_
          refine ow_lload (q := 214) Xc128 hx (hb hby at_212) rfl rfl ?_
          refine ow_lload (q := 216) Xc128 hx (hb hby at_214) rfl rfl ?_
          refine ow_lcmp (q := 217) Xc128 hx _ (hb hby at_216) rfl rfl ?_
          by_cases hc217_129 : q5 < x2
          · refine ow_ifYes (q := 223) Xc128 hx (hb hby at_217) (Jvm.Free.XT.ll_gt_t hc217_129) (by decide) (by decide) ?_
            exact cut223_126 w200 _ _ Xc128 ec128 Nc128 (by first | rfl | exact hw200 | simp [hc217_129, hw200])
          · refine ow_ifNo (q := 220) Xc128 hx (hb hby at_217) rfl (Jvm.Free.XT.ll_gt_f hc217_129) ?_
            refine ow_iconst (q := 221) Xc128 hx (2 : Int32) (hb hby at_220) rfl rfl ?_
            refine ow_istore (q := 223) Xc128 hx (L' := #[.val (.long q0), .second, .val (.long q1), .second, .val (.long q2), .second, .val (.long q3), .second, iv p4, .val (.long q5), .second, iv (4 : Int32), iv (0 : Int32), .val (.long x0), .second, .val (.long x1), .second, .val (.long x2), .second, .val (.long x3), .second, .val (.long xt), .second, rv b120, iv v122, iv (2 : Int32)]) (hb hby at_221) rfl rfl ?_
            exact cut223_126 (2 : Int32) _ _ Xc128 ec128 Nc128 (by first | rfl | exact hw200 | simp [hc217_129, hw200])
        refine ow_iload (q := 179) X121 hx (hb hby at_177) rfl rfl ?_
        refine ow_iconst (q := 180) X121 hx (3 : Int32) (hb hby at_179) rfl rfl ?_
        refine ow_icmpNo (q := 183) X121 hx (hb hby at_180) rfl (Jvm.Free.XT.ii_le_f (by decide)) ?_
        refine ow_iload (q := 185) X121 hx (hb hby at_183) rfl rfl ?_
        refine ow_iconst (q := 186) X121 hx (3 : Int32) (hb hby at_185) rfl rfl ?_
        refine ow_icmpNo (q := 189) X121 hx (hb hby at_186) rfl (Jvm.Free.XT.ii_gt_f (by decide)) ?_
        refine ow_lload (q := 191) X121 hx (hb hby at_189) rfl rfl ?_
        refine ow_lload (q := 193) X121 hx (hb hby at_191) rfl rfl ?_
        refine ow_lcmp (q := 194) X121 hx _ (hb hby at_193) rfl rfl ?_
        by_cases hc194_130 : q5 < x3
        · refine ow_ifYes (q := 200) X121 hx (hb hby at_194) (Jvm.Free.XT.ll_gt_t hc194_130) (by decide) (by decide) ?_
          exact cut200_128 (4 : Int32) _ _ X121 e121 N121 (by first | rfl | simp [hc194_130])
        · refine ow_ifNo (q := 197) X121 hx (hb hby at_194) rfl (Jvm.Free.XT.ll_gt_f hc194_130) ?_
          refine ow_iconst (q := 198) X121 hx (3 : Int32) (hb hby at_197) rfl rfl ?_
          refine ow_istore (q := 200) X121 hx (L' := #[.val (.long q0), .second, .val (.long q1), .second, .val (.long q2), .second, .val (.long q3), .second, iv p4, .val (.long q5), .second, iv (4 : Int32), iv (0 : Int32), .val (.long x0), .second, .val (.long x1), .second, .val (.long x2), .second, .val (.long x3), .second, .val (.long xt), .second, rv b120, iv v122, iv (3 : Int32)]) (hb hby at_198) rfl rfl ?_
          exact cut200_128 (3 : Int32) _ _ X121 e121 N121 (by first | rfl | simp [hc194_130])
      · subst hs116
        refine ow_lload (q := 151) Xc23 hx (hb hby at_149) rfl rfl ?_
        refine ow_lload (q := 153) Xc23 hx (hb hby at_151) rfl rfl ?_
        refine ow_lload (q := 155) Xc23 hx (hb hby at_153) rfl rfl ?_
        refine ow_lload (q := 157) Xc23 hx (hb hby at_155) rfl rfl ?_
        obtain ⟨_, _, ⟨T131, L131, k131, n131⟩, -, X131, ⟨Lc131, hQ131, l131, y131, z131⟩, st131⟩ := Jvm.LawKit.callS Xc23 hx (y := (⟨"com/example/chromabin/chromabin/packing/PackingFirstAtMostPinLaw", "make", "(IJJJJ)[J"⟩ : MethodName)) hown (mvT hZ (hw _ (List.mem_of_getElem? (i := 7) rfl))) (mvT hZ (hw _ (List.mem_of_getElem? (i := 8) rfl))) (mvT hZ (hw _ (List.mem_of_getElem? (i := 9) rfl))) (mvT hZ (hw _ (List.mem_of_getElem? (i := 10) rfl))) (by decide) (backOf (W := 0) (rm_make_4 l Z a0 hw [] x0 x1 x2 x3 h0 n0 (Nat.le_trans Z0 K0.1) ) hZ (hw _ (List.mem_of_getElem? (i := 10) rfl)) (hw _ (List.mem_of_getElem? (i := 9) rfl)) (by decide) (by decide)) (g := (mkF m 157 #[.val (.long q0), .second, .val (.long q1), .second, .val (.long q2), .second, .val (.long q3), .second, iv p4, .val (.long q5), .second, iv (4 : Int32), iv (1 : Int32), .val (.long x0), .second, .val (.long x1), .second, .val (.long x2), .second, .val (.long x3), .second, .val (.long xt), .second, .unset, .unset, .unset] [(.long x3), (.long x2), (.long x1), (.long x0), (.int (4 : Int32))])) rfl (by rw [hml]; rfl) (argsL := [(.int (4 : Int32)), (.long x0), (.long x1), (.long x2), (.long x3)]) (rest := []) (lenOf own_pd1 rfl) rfl (by show 2 * 0 + _ ≤ _; exact Nat.le_of_eq rfl) (hb hby at_157) (fun _ _ => ⟨rfl, ec23, (by decide : 0 + 1 ≤ _), (by decide : 0 + 4 ≤ _)⟩)
        dsimp only [Pt.U, Pt.locs, Pt.cells, Pt.slots] at X131 l131 y131 z131 st131 hQ131
        subst l131 y131 z131
        obtain ⟨b131, rfl, N131q, Kq131, sq131_b131, FP131_0⟩ := hQ131
        have N131 := Fr.app Nc23 N131q
        have K131 : Keep h0 T131.heap [] := K0.trans Kq131 all0
        have sz_b131 : h0.size ≤ b131 := Nat.le_trans K0.1 sq131_b131
        have G_b131 : n0 ≤ b131 := Nat.le_trans Z0 sz_b131
        refine ownGo (T' := T131) (f' := (mkF m 160 #[.val (.long q0), .second, .val (.long q1), .second, .val (.long q2), .second, .val (.long q3), .second, iv p4, .val (.long q5), .second, iv (4 : Int32), iv (1 : Int32), .val (.long x0), .second, .val (.long x1), .second, .val (.long x2), .second, .val (.long x3), .second, .val (.long xt), .second, .unset, .unset, .unset] [(.ref b131)])) (st131) ?_
        refine ow_astore (q := 162) X131 hx (L' := #[.val (.long q0), .second, .val (.long q1), .second, .val (.long q2), .second, .val (.long q3), .second, iv p4, .val (.long q5), .second, iv (4 : Int32), iv (1 : Int32), .val (.long x0), .second, .val (.long x1), .second, .val (.long x2), .second, .val (.long x3), .second, .val (.long xt), .second, rv b131, .unset, .unset]) (hb hby at_160) rfl rfl rfl ?_
        refine ow_aload (q := 164) X131 hx (hb hby at_162) rfl rfl rfl ?_
        refine ow_iload (q := 166) X131 hx (hb hby at_164) rfl rfl ?_
        refine ow_lload (q := 168) X131 hx (hb hby at_166) rfl rfl ?_
        obtain ⟨_, _, ⟨T132, L132, k132, n132⟩, -, X132, ⟨Lc132, hQ132, l132, y132, z132⟩, st132⟩ := Jvm.LawKit.callS X131 hx (y := (⟨"com/example/chromabin/chromabin/packing/Packing", "firstAtMost", "([JIJ)I"⟩ : MethodName)) hown (mvT hZ (hw _ (List.mem_of_getElem? (i := 12) rfl))) (mvT hZ (hw _ (List.mem_of_getElem? (i := 13) rfl))) (mvT hZ (hw _ (List.mem_of_getElem? (i := 14) rfl))) (mvT hZ (hw _ (List.mem_of_getElem? (i := 15) rfl))) (by decide) (backOf (W := 0) (rm_fam_4_1 l Z a0 hw [] b131 q5 (ownUpd (ownUpd (ownUpd (ownUpd (fun _ => (0 : Int64)) 0 x0) 1 x1) 2 x2) 3 x3) T131.heap n0 (Nat.le_trans Z0 K131.1) FP131_0) hZ (hw _ (List.mem_of_getElem? (i := 15) rfl)) (hw _ (List.mem_of_getElem? (i := 14) rfl)) (by decide) (by decide)) (g := (mkF m 168 #[.val (.long q0), .second, .val (.long q1), .second, .val (.long q2), .second, .val (.long q3), .second, iv p4, .val (.long q5), .second, iv (4 : Int32), iv (1 : Int32), .val (.long x0), .second, .val (.long x1), .second, .val (.long x2), .second, .val (.long x3), .second, .val (.long xt), .second, rv b131, .unset, .unset] [(.long q5), (.int (1 : Int32)), (.ref b131)])) rfl (by rw [hml]; rfl) (argsL := [(.ref b131), (.int (1 : Int32)), (.long q5)]) (rest := []) (lenOf own_pd2 rfl) rfl (by show 2 * 0 + _ ≤ _; exact Nat.le_of_eq rfl) (hb hby at_168) (fun _ _ => ⟨rfl, rfl, (by decide : 1 + 0 ≤ _), (by decide : 4 + 0 ≤ _)⟩)
        dsimp only [Pt.U, Pt.locs, Pt.cells, Pt.slots] at X132 l132 y132 z132 st132 hQ132
        subst l132 y132 z132
        obtain ⟨rfl, N132q, e132⟩ := hQ132
        have N132 := Fr.app N131 N132q
        refine ownGo (T' := T132) (f' := (mkF m 171 #[.val (.long q0), .second, .val (.long q1), .second, .val (.long q2), .second, .val (.long q3), .second, iv p4, .val (.long q5), .second, iv (4 : Int32), iv (1 : Int32), .val (.long x0), .second, .val (.long x1), .second, .val (.long x2), .second, .val (.long x3), .second, .val (.long xt), .second, rv b131, .unset, .unset] [(.int (if q5 < (ownUpd (ownUpd (ownUpd (ownUpd (fun _ => (0 : Int64)) 0 x0) 1 x1) 2 x2) 3 x3) 2 then (if q5 < (ownUpd (ownUpd (ownUpd (ownUpd (fun _ => (0 : Int64)) 0 x0) 1 x1) 2 x2) 3 x3) 3 then (4 : Int32) else (3 : Int32)) else (if q5 < (ownUpd (ownUpd (ownUpd (ownUpd (fun _ => (0 : Int64)) 0 x0) 1 x1) 2 x2) 3 x3) 1 then (2 : Int32) else (1 : Int32))))])) (st132) ?_
        generalize hv_v133 : (if q5 < (ownUpd (ownUpd (ownUpd (ownUpd (fun _ => (0 : Int64)) 0 x0) 1 x1) 2 x2) 3 x3) 2 then (if q5 < (ownUpd (ownUpd (ownUpd (ownUpd (fun _ => (0 : Int64)) 0 x0) 1 x1) 2 x2) 3 x3) 3 then (4 : Int32) else (3 : Int32)) else (if q5 < (ownUpd (ownUpd (ownUpd (ownUpd (fun _ => (0 : Int64)) 0 x0) 1 x1) 2 x2) 3 x3) 1 then (2 : Int32) else (1 : Int32))) = v133
        refine ow_istore (q := 173) X132 hx (L' := #[.val (.long q0), .second, .val (.long q1), .second, .val (.long q2), .second, .val (.long q3), .second, iv p4, .val (.long q5), .second, iv (4 : Int32), iv (1 : Int32), .val (.long x0), .second, .val (.long x1), .second, .val (.long x2), .second, .val (.long x3), .second, .val (.long xt), .second, rv b131, iv v133, .unset]) (hb hby at_171) rfl rfl ?_
        refine ow_iload (q := 175) X132 hx (hb hby at_173) rfl rfl ?_
        refine ow_istore (q := 177) X132 hx (L' := #[.val (.long q0), .second, .val (.long q1), .second, .val (.long q2), .second, .val (.long q3), .second, iv p4, .val (.long q5), .second, iv (4 : Int32), iv (1 : Int32), .val (.long x0), .second, .val (.long x1), .second, .val (.long x2), .second, .val (.long x3), .second, .val (.long xt), .second, rv b131, iv v133, iv (4 : Int32)]) (hb hby at_175) rfl rfl ?_
        have cut267_134 : ∀ (w267 : Int32) (Tc134 : State) (lc134 : List Loc), Stand p l e room_1 s m #[(.long q0), (.long q1), (.long q2), (.long q3), (.int p4), (.long q5)] below meth c Tc134 lc134 1 4 → Tc134.heap = T131.heap → Fr n0 lc134 → (w267 = (if q5 < x1 then (if q5 < x2 then (if q5 < x3 then (4 : Int32) else (3 : Int32)) else (2 : Int32)) else (1 : Int32))) → ownEnds p e below s (Q_law Z q0 q1 q2 q3 p4 q5 h0 n0) 16 128 Tc134 (mkF m 267 #[.val (.long q0), .second, .val (.long q1), .second, .val (.long q2), .second, .val (.long q3), .second, iv p4, .val (.long q5), .second, iv (4 : Int32), iv (1 : Int32), .val (.long x0), .second, .val (.long x1), .second, .val (.long x2), .second, .val (.long x3), .second, .val (.long xt), .second, rv b131, iv v133, iv w267] []) := by
          intro w267 Tc134 lc134 Xc134 ec134 Nc134 hw267
          refine ow_iload (q := 269) Xc134 hx (hb hby at_267) rfl rfl ?_
          refine ow_iload (q := 271) Xc134 hx (hb hby at_269) rfl rfl ?_
          refine ow_icmpNo (q := 274) Xc134 hx (hb hby at_271) rfl (Jvm.Free.XT.ii_ne_f (by rw [hw267, ← hv_v133]; exact own_fam_4_1 hs)) ?_
          refine ow_iconst (q := 275) Xc134 hx (1 : Int32) (hb hby at_274) rfl rfl ?_
          refine ow_goto (q := 279) Xc134 hx (hb hby at_275) (by decide) (by decide) ?_
          refine ownRetN Xc134 hx (r := (1 : Int32)) (Or.inl rfl) Bd.returns (hb hby at_279) hlk (by decide) (by decide) (by decide) ?_
          exact ⟨rfl, Nc134⟩
        have cut246_135 : ∀ (w246 : Int32) (Tc135 : State) (lc135 : List Loc), Stand p l e room_1 s m #[(.long q0), (.long q1), (.long q2), (.long q3), (.int p4), (.long q5)] below meth c Tc135 lc135 1 4 → Tc135.heap = T131.heap → Fr n0 lc135 → (w246 = (if q5 < x1 then (if q5 < x2 then (if q5 < x3 then (4 : Int32) else (3 : Int32)) else (2 : Int32)) else (1 : Int32))) → ownEnds p e below s (Q_law Z q0 q1 q2 q3 p4 q5 h0 n0) 16 128 Tc135 (mkF m 246 #[.val (.long q0), .second, .val (.long q1), .second, .val (.long q2), .second, .val (.long q3), .second, iv p4, .val (.long q5), .second, iv (4 : Int32), iv (1 : Int32), .val (.long x0), .second, .val (.long x1), .second, .val (.long x2), .second, .val (.long x3), .second, .val (.long xt), .second, rv b131, iv v133, iv w246] []) := by
          intro w246 Tc135 lc135 Xc135 ec135 Nc135 hw246
          refine ow_iload (q := 248) Xc135 hx (hb hby at_246) rfl rfl ?_
          refine ow_ifNo (q := 251) Xc135 hx (hb hby at_248) rfl (Jvm.Free.XT.i0_le_f (by decide)) ?_
          refine ow_iload (q := 253) Xc135 hx (hb hby at_251) rfl rfl ?_
          refine ow_ifYes (q := 267) Xc135 hx (hb hby at_253) (Jvm.Free.XT.i0_gt_t (by decide)) (by decide) (by decide) ?_
          exact cut267_134 w246 _ _ Xc135 ec135 Nc135 (by first | rfl | exact hw246 | simp [hw246])
        have cut223_136 : ∀ (w223 : Int32) (Tc136 : State) (lc136 : List Loc), Stand p l e room_1 s m #[(.long q0), (.long q1), (.long q2), (.long q3), (.int p4), (.long q5)] below meth c Tc136 lc136 1 4 → Tc136.heap = T131.heap → Fr n0 lc136 → (w223 = (if q5 < x2 then (if q5 < x3 then (4 : Int32) else (3 : Int32)) else (2 : Int32))) → ownEnds p e below s (Q_law Z q0 q1 q2 q3 p4 q5 h0 n0) 16 128 Tc136 (mkF m 223 #[.val (.long q0), .second, .val (.long q1), .second, .val (.long q2), .second, .val (.long q3), .second, iv p4, .val (.long q5), .second, iv (4 : Int32), iv (1 : Int32), .val (.long x0), .second, .val (.long x1), .second, .val (.long x2), .second, .val (.long x3), .second, .val (.long xt), .second, rv b131, iv v133, iv w223] []) := by
          intro w223 Tc136 lc136 Xc136 ec136 Nc136 hw223
          refine ow_iload (q := 225) Xc136 hx (hb hby at_223) rfl rfl ?_
          refine ow_iconst (q := 226) Xc136 hx (1 : Int32) (hb hby at_225) rfl rfl ?_
          refine ow_icmpNo (q := 229) Xc136 hx (hb hby at_226) rfl (Jvm.Free.XT.ii_le_f (by decide)) ?_
          refine ow_iload (q := 231) Xc136 hx (hb hby at_229) rfl rfl ?_
          refine ow_iconst (q := 232) Xc136 hx (1 : Int32) (hb hby at_231) rfl rfl ?_
          refine ow_icmpNo (q := 235) Xc136 hx (hb hby at_232) rfl (Jvm.Free.XT.ii_gt_f (by decide)) ?_
          refine ow_lload (q := 237) Xc136 hx (hb hby at_235) rfl rfl ?_
          refine ow_lload (q := 239) Xc136 hx (hb hby at_237) rfl rfl ?_
          refine ow_lcmp (q := 240) Xc136 hx _ (hb hby at_239) rfl rfl ?_
          by_cases hc240_137 : q5 < x1
          · refine ow_ifYes (q := 246) Xc136 hx (hb hby at_240) (Jvm.Free.XT.ll_gt_t hc240_137) (by decide) (by decide) ?_
            exact cut246_135 w223 _ _ Xc136 ec136 Nc136 (by first | rfl | exact hw223 | simp [hc240_137, hw223])
          · refine ow_ifNo (q := 243) Xc136 hx (hb hby at_240) rfl (Jvm.Free.XT.ll_gt_f hc240_137) ?_
            refine ow_iconst (q := 244) Xc136 hx (1 : Int32) (hb hby at_243) rfl rfl ?_
            refine ow_istore (q := 246) Xc136 hx (L' := #[.val (.long q0), .second, .val (.long q1), .second, .val (.long q2), .second, .val (.long q3), .second, iv p4, .val (.long q5), .second, iv (4 : Int32), iv (1 : Int32), .val (.long x0), .second, .val (.long x1), .second, .val (.long x2), .second, .val (.long x3), .second, .val (.long xt), .second, rv b131, iv v133, iv (1 : Int32)]) (hb hby at_244) rfl rfl ?_
            exact cut246_135 (1 : Int32) _ _ Xc136 ec136 Nc136 (by first | rfl | exact hw223 | simp [hc240_137, hw223])
        have cut200_138 : ∀ (w200 : Int32) (Tc138 : State) (lc138 : List Loc), Stand p l e room_1 s m #[(.long q0), (.long q1), (.long q2), (.long q3), (.int p4), (.long q5)] below meth c Tc138 lc138 1 4 → Tc138.heap = T131.heap → Fr n0 lc138 → (w200 = (if q5 < x3 then (4 : Int32) else (3 : Int32))) → ownEnds p e below s (Q_law Z q0 q1 q2 q3 p4 q5 h0 n0) 16 128 Tc138 (mkF m 200 #[.val (.long q0), .second, .val (.long q1), .second, .val (.long q2), .second, .val (.long q3), .second, iv p4, .val (.long q5), .second, iv (4 : Int32), iv (1 : Int32), .val (.long x0), .second, .val (.long x1), .second, .val (.long x2), .second, .val (.long x3), .second, .val (.long xt), .second, rv b131, iv v133, iv w200] []) := by
          intro w200 Tc138 lc138 Xc138 ec138 Nc138 hw200
          refine ow_iload (q := 202) Xc138 hx (hb hby at_200) rfl rfl ?_
          refine ow_iconst (q := 203) Xc138 hx (2 : Int32) (hb hby at_202) rfl rfl ?_
          refine ow_icmpNo (q := 206) Xc138 hx (hb hby at_203) rfl (Jvm.Free.XT.ii_le_f (by decide)) ?_
          refine ow_iload (q := 208) Xc138 hx (hb hby at_206) rfl rfl ?_
          refine ow_iconst (q := 209) Xc138 hx (2 : Int32) (hb hby at_208) rfl rfl ?_
          refine ow_icmpNo (q := 212) Xc138 hx (hb hby at_209) rfl (Jvm.Free.XT.ii_gt_f (by decide)) ?_
          refine ow_lload (q := 214) Xc138 hx (hb hby at_212) rfl rfl ?_
          refine ow_lload (q := 216) Xc138 hx (hb hby at_214) rfl rfl ?_
          refine ow_lcmp (q := 217) Xc138 hx _ (hb hby at_216) rfl rfl ?_
          by_cases hc217_139 : q5 < x2
          · refine ow_ifYes (q := 223) Xc138 hx (hb hby at_217) (Jvm.Free.XT.ll_gt_t hc217_139) (by decide) (by decide) ?_
            exact cut223_136 w200 _ _ Xc138 ec138 Nc138 (by first | rfl | exact hw200 | simp [hc217_139, hw200])
          · refine ow_ifNo (q := 220) Xc138 hx (hb hby at_217) rfl (Jvm.Free.XT.ll_gt_f hc217_139) ?_
            refine ow_iconst (q := 221) Xc138 hx (2 : Int32) (hb hby at_220) rfl rfl ?_
            refine ow_istore (q := 223) Xc138 hx (L' := #[.val (.long q0), .second, .val (.long q1), .second, .val (.long q2), .second, .val (.long q3), .second, iv p4, .val (.long q5), .second, iv (4 : Int32), iv (1 : Int32), .val (.long x0), .second, .val (.long x1), .second, .val (.long x2), .second, .val (.long x3), .second, .val (.long xt), .second, rv b131, iv v133, iv (2 : Int32)]) (hb hby at_221) rfl rfl ?_
            exact cut223_136 (2 : Int32) _ _ Xc138 ec138 Nc138 (by first | rfl | exact hw200 | simp [hc217_139, hw200])
        refine ow_iload (q := 179) X132 hx (hb hby at_177) rfl rfl ?_
        refine ow_iconst (q := 180) X132 hx (3 : Int32) (hb hby at_179) rfl rfl ?_
        refine ow_icmpNo (q := 183) X132 hx (hb hby at_180) rfl (Jvm.Free.XT.ii_le_f (by decide)) ?_
        refine ow_iload (q := 185) X132 hx (hb hby at_183) rfl rfl ?_
        refine ow_iconst (q := 186) X132 hx (3 : Int32) (hb hby at_185) rfl rfl ?_
        refine ow_icmpNo (q := 189) X132 hx (hb hby at_186) rfl (Jvm.Free.XT.ii_gt_f (by decide)) ?_
        refine ow_lload (q := 191) X132 hx (hb hby at_189) rfl rfl ?_
        refine ow_lload (q := 193) X132 hx (hb hby at_191) rfl rfl ?_
        refine ow_lcmp (q := 194) X132 hx _ (hb hby at_193) rfl rfl ?_
        by_cases hc194_140 : q5 < x3
        · refine ow_ifYes (q := 200) X132 hx (hb hby at_194) (Jvm.Free.XT.ll_gt_t hc194_140) (by decide) (by decide) ?_
          exact cut200_138 (4 : Int32) _ _ X132 e132 N132 (by first | rfl | simp [hc194_140])
        · refine ow_ifNo (q := 197) X132 hx (hb hby at_194) rfl (Jvm.Free.XT.ll_gt_f hc194_140) ?_
          refine ow_iconst (q := 198) X132 hx (3 : Int32) (hb hby at_197) rfl rfl ?_
          refine ow_istore (q := 200) X132 hx (L' := #[.val (.long q0), .second, .val (.long q1), .second, .val (.long q2), .second, .val (.long q3), .second, iv p4, .val (.long q5), .second, iv (4 : Int32), iv (1 : Int32), .val (.long x0), .second, .val (.long x1), .second, .val (.long x2), .second, .val (.long x3), .second, .val (.long xt), .second, rv b131, iv v133, iv (3 : Int32)]) (hb hby at_198) rfl rfl ?_
          exact cut200_138 (3 : Int32) _ _ X132 e132 N132 (by first | rfl | simp [hc194_140])
      · subst hs117
        refine ow_lload (q := 151) Xc23 hx (hb hby at_149) rfl rfl ?_
        refine ow_lload (q := 153) Xc23 hx (hb hby at_151) rfl rfl ?_
        refine ow_lload (q := 155) Xc23 hx (hb hby at_153) rfl rfl ?_
        refine ow_lload (q := 157) Xc23 hx (hb hby at_155) rfl rfl ?_
        obtain ⟨_, _, ⟨T141, L141, k141, n141⟩, -, X141, ⟨Lc141, hQ141, l141, y141, z141⟩, st141⟩ := Jvm.LawKit.callS Xc23 hx (y := (⟨"com/example/chromabin/chromabin/packing/PackingFirstAtMostPinLaw", "make", "(IJJJJ)[J"⟩ : MethodName)) hown (mvT hZ (hw _ (List.mem_of_getElem? (i := 7) rfl))) (mvT hZ (hw _ (List.mem_of_getElem? (i := 8) rfl))) (mvT hZ (hw _ (List.mem_of_getElem? (i := 9) rfl))) (mvT hZ (hw _ (List.mem_of_getElem? (i := 10) rfl))) (by decide) (backOf (W := 0) (rm_make_4 l Z a0 hw [] x0 x1 x2 x3 h0 n0 (Nat.le_trans Z0 K0.1) ) hZ (hw _ (List.mem_of_getElem? (i := 10) rfl)) (hw _ (List.mem_of_getElem? (i := 9) rfl)) (by decide) (by decide)) (g := (mkF m 157 #[.val (.long q0), .second, .val (.long q1), .second, .val (.long q2), .second, .val (.long q3), .second, iv p4, .val (.long q5), .second, iv (4 : Int32), iv (2 : Int32), .val (.long x0), .second, .val (.long x1), .second, .val (.long x2), .second, .val (.long x3), .second, .val (.long xt), .second, .unset, .unset, .unset] [(.long x3), (.long x2), (.long x1), (.long x0), (.int (4 : Int32))])) rfl (by rw [hml]; rfl) (argsL := [(.int (4 : Int32)), (.long x0), (.long x1), (.long x2), (.long x3)]) (rest := []) (lenOf own_pd1 rfl) rfl (by show 2 * 0 + _ ≤ _; exact Nat.le_of_eq rfl) (hb hby at_157) (fun _ _ => ⟨rfl, ec23, (by decide : 0 + 1 ≤ _), (by decide : 0 + 4 ≤ _)⟩)
        dsimp only [Pt.U, Pt.locs, Pt.cells, Pt.slots] at X141 l141 y141 z141 st141 hQ141
        subst l141 y141 z141
        obtain ⟨b141, rfl, N141q, Kq141, sq141_b141, FP141_0⟩ := hQ141
        have N141 := Fr.app Nc23 N141q
        have K141 : Keep h0 T141.heap [] := K0.trans Kq141 all0
        have sz_b141 : h0.size ≤ b141 := Nat.le_trans K0.1 sq141_b141
        have G_b141 : n0 ≤ b141 := Nat.le_trans Z0 sz_b141
        refine ownGo (T' := T141) (f' := (mkF m 160 #[.val (.long q0), .second, .val (.long q1), .second, .val (.long q2), .second, .val (.long q3), .second, iv p4, .val (.long q5), .second, iv (4 : Int32), iv (2 : Int32), .val (.long x0), .second, .val (.long x1), .second, .val (.long x2), .second, .val (.long x3), .second, .val (.long xt), .second, .unset, .unset, .unset] [(.ref b141)])) (st141) ?_
        refine ow_astore (q := 162) X141 hx (L' := #[.val (.long q0), .second, .val (.long q1), .second, .val (.long q2), .second, .val (.long q3), .second, iv p4, .val (.long q5), .second, iv (4 : Int32), iv (2 : Int32), .val (.long x0), .second, .val (.long x1), .second, .val (.long x2), .second, .val (.long x3), .second, .val (.long xt), .second, rv b141, .unset, .unset]) (hb hby at_160) rfl rfl rfl ?_
        refine ow_aload (q := 164) X141 hx (hb hby at_162) rfl rfl rfl ?_
        refine ow_iload (q := 166) X141 hx (hb hby at_164) rfl rfl ?_
        refine ow_lload (q := 168) X141 hx (hb hby at_166) rfl rfl ?_
        obtain ⟨_, _, ⟨T142, L142, k142, n142⟩, -, X142, ⟨Lc142, hQ142, l142, y142, z142⟩, st142⟩ := Jvm.LawKit.callS X141 hx (y := (⟨"com/example/chromabin/chromabin/packing/Packing", "firstAtMost", "([JIJ)I"⟩ : MethodName)) hown (mvT hZ (hw _ (List.mem_of_getElem? (i := 12) rfl))) (mvT hZ (hw _ (List.mem_of_getElem? (i := 13) rfl))) (mvT hZ (hw _ (List.mem_of_getElem? (i := 14) rfl))) (mvT hZ (hw _ (List.mem_of_getElem? (i := 15) rfl))) (by decide) (backOf (W := 0) (rm_fam_4_2 l Z a0 hw [] b141 q5 (ownUpd (ownUpd (ownUpd (ownUpd (fun _ => (0 : Int64)) 0 x0) 1 x1) 2 x2) 3 x3) T141.heap n0 (Nat.le_trans Z0 K141.1) FP141_0) hZ (hw _ (List.mem_of_getElem? (i := 15) rfl)) (hw _ (List.mem_of_getElem? (i := 14) rfl)) (by decide) (by decide)) (g := (mkF m 168 #[.val (.long q0), .second, .val (.long q1), .second, .val (.long q2), .second, .val (.long q3), .second, iv p4, .val (.long q5), .second, iv (4 : Int32), iv (2 : Int32), .val (.long x0), .second, .val (.long x1), .second, .val (.long x2), .second, .val (.long x3), .second, .val (.long xt), .second, rv b141, .unset, .unset] [(.long q5), (.int (2 : Int32)), (.ref b141)])) rfl (by rw [hml]; rfl) (argsL := [(.ref b141), (.int (2 : Int32)), (.long q5)]) (rest := []) (lenOf own_pd2 rfl) rfl (by show 2 * 0 + _ ≤ _; exact Nat.le_of_eq rfl) (hb hby at_168) (fun _ _ => ⟨rfl, rfl, (by decide : 1 + 0 ≤ _), (by decide : 4 + 0 ≤ _)⟩)
        dsimp only [Pt.U, Pt.locs, Pt.cells, Pt.slots] at X142 l142 y142 z142 st142 hQ142
        subst l142 y142 z142
        obtain ⟨rfl, N142q, e142⟩ := hQ142
        have N142 := Fr.app N141 N142q
        refine ownGo (T' := T142) (f' := (mkF m 171 #[.val (.long q0), .second, .val (.long q1), .second, .val (.long q2), .second, .val (.long q3), .second, iv p4, .val (.long q5), .second, iv (4 : Int32), iv (2 : Int32), .val (.long x0), .second, .val (.long x1), .second, .val (.long x2), .second, .val (.long x3), .second, .val (.long xt), .second, rv b141, .unset, .unset] [(.int (if q5 < (ownUpd (ownUpd (ownUpd (ownUpd (fun _ => (0 : Int64)) 0 x0) 1 x1) 2 x2) 3 x3) 3 then (4 : Int32) else (if q5 < (ownUpd (ownUpd (ownUpd (ownUpd (fun _ => (0 : Int64)) 0 x0) 1 x1) 2 x2) 3 x3) 2 then (3 : Int32) else (2 : Int32))))])) (st142) ?_
        generalize hv_v143 : (if q5 < (ownUpd (ownUpd (ownUpd (ownUpd (fun _ => (0 : Int64)) 0 x0) 1 x1) 2 x2) 3 x3) 3 then (4 : Int32) else (if q5 < (ownUpd (ownUpd (ownUpd (ownUpd (fun _ => (0 : Int64)) 0 x0) 1 x1) 2 x2) 3 x3) 2 then (3 : Int32) else (2 : Int32))) = v143
        refine ow_istore (q := 173) X142 hx (L' := #[.val (.long q0), .second, .val (.long q1), .second, .val (.long q2), .second, .val (.long q3), .second, iv p4, .val (.long q5), .second, iv (4 : Int32), iv (2 : Int32), .val (.long x0), .second, .val (.long x1), .second, .val (.long x2), .second, .val (.long x3), .second, .val (.long xt), .second, rv b141, iv v143, .unset]) (hb hby at_171) rfl rfl ?_
        refine ow_iload (q := 175) X142 hx (hb hby at_173) rfl rfl ?_
        refine ow_istore (q := 177) X142 hx (L' := #[.val (.long q0), .second, .val (.long q1), .second, .val (.long q2), .second, .val (.long q3), .second, iv p4, .val (.long q5), .second, iv (4 : Int32), iv (2 : Int32), .val (.long x0), .second, .val (.long x1), .second, .val (.long x2), .second, .val (.long x3), .second, .val (.long xt), .second, rv b141, iv v143, iv (4 : Int32)]) (hb hby at_175) rfl rfl ?_
        have cut267_144 : ∀ (w267 : Int32) (Tc144 : State) (lc144 : List Loc), Stand p l e room_1 s m #[(.long q0), (.long q1), (.long q2), (.long q3), (.int p4), (.long q5)] below meth c Tc144 lc144 1 4 → Tc144.heap = T141.heap → Fr n0 lc144 → (w267 = (if q5 < x2 then (if q5 < x3 then (4 : Int32) else (3 : Int32)) else (2 : Int32))) → ownEnds p e below s (Q_law Z q0 q1 q2 q3 p4 q5 h0 n0) 16 128 Tc144 (mkF m 267 #[.val (.long q0), .second, .val (.long q1), .second, .val (.long q2), .second, .val (.long q3), .second, iv p4, .val (.long q5), .second, iv (4 : Int32), iv (2 : Int32), .val (.long x0), .second, .val (.long x1), .second, .val (.long x2), .second, .val (.long x3), .second, .val (.long xt), .second, rv b141, iv v143, iv w267] []) := by
          intro w267 Tc144 lc144 Xc144 ec144 Nc144 hw267
          refine ow_iload (q := 269) Xc144 hx (hb hby at_267) rfl rfl ?_
          refine ow_iload (q := 271) Xc144 hx (hb hby at_269) rfl rfl ?_
          refine ow_icmpNo (q := 274) Xc144 hx (hb hby at_271) rfl (Jvm.Free.XT.ii_ne_f (by rw [hw267, ← hv_v143]; exact own_fam_4_2 hs)) ?_
          refine ow_iconst (q := 275) Xc144 hx (1 : Int32) (hb hby at_274) rfl rfl ?_
          refine ow_goto (q := 279) Xc144 hx (hb hby at_275) (by decide) (by decide) ?_
          refine ownRetN Xc144 hx (r := (1 : Int32)) (Or.inl rfl) Bd.returns (hb hby at_279) hlk (by decide) (by decide) (by decide) ?_
          exact ⟨rfl, Nc144⟩
        have cut246_145 : ∀ (w246 : Int32) (Tc145 : State) (lc145 : List Loc), Stand p l e room_1 s m #[(.long q0), (.long q1), (.long q2), (.long q3), (.int p4), (.long q5)] below meth c Tc145 lc145 1 4 → Tc145.heap = T141.heap → Fr n0 lc145 → (w246 = (if q5 < x2 then (if q5 < x3 then (4 : Int32) else (3 : Int32)) else (2 : Int32))) → ownEnds p e below s (Q_law Z q0 q1 q2 q3 p4 q5 h0 n0) 16 128 Tc145 (mkF m 246 #[.val (.long q0), .second, .val (.long q1), .second, .val (.long q2), .second, .val (.long q3), .second, iv p4, .val (.long q5), .second, iv (4 : Int32), iv (2 : Int32), .val (.long x0), .second, .val (.long x1), .second, .val (.long x2), .second, .val (.long x3), .second, .val (.long xt), .second, rv b141, iv v143, iv w246] []) := by
          intro w246 Tc145 lc145 Xc145 ec145 Nc145 hw246
          refine ow_iload (q := 248) Xc145 hx (hb hby at_246) rfl rfl ?_
          refine ow_ifNo (q := 251) Xc145 hx (hb hby at_248) rfl (Jvm.Free.XT.i0_le_f (by decide)) ?_
          refine ow_iload (q := 253) Xc145 hx (hb hby at_251) rfl rfl ?_
          refine ow_ifYes (q := 267) Xc145 hx (hb hby at_253) (Jvm.Free.XT.i0_gt_t (by decide)) (by decide) (by decide) ?_
          exact cut267_144 w246 _ _ Xc145 ec145 Nc145 (by first | rfl | exact hw246 | simp [hw246])
        have cut223_146 : ∀ (w223 : Int32) (Tc146 : State) (lc146 : List Loc), Stand p l e room_1 s m #[(.long q0), (.long q1), (.long q2), (.long q3), (.int p4), (.long q5)] below meth c Tc146 lc146 1 4 → Tc146.heap = T141.heap → Fr n0 lc146 → (w223 = (if q5 < x2 then (if q5 < x3 then (4 : Int32) else (3 : Int32)) else (2 : Int32))) → ownEnds p e below s (Q_law Z q0 q1 q2 q3 p4 q5 h0 n0) 16 128 Tc146 (mkF m 223 #[.val (.long q0), .second, .val (.long q1), .second, .val (.long q2), .second, .val (.long q3), .second, iv p4, .val (.long q5), .second, iv (4 : Int32), iv (2 : Int32), .val (.long x0), .second, .val (.long x1), .second, .val (.long x2), .second, .val (.long x3), .second, .val (.long xt), .second, rv b141, iv v143, iv w223] []) := by
          intro w223 Tc146 lc146 Xc146 ec146 Nc146 hw223
          refine ow_iload (q := 225) Xc146 hx (hb hby at_223) rfl rfl ?_
          refine ow_iconst (q := 226) Xc146 hx (1 : Int32) (hb hby at_225) rfl rfl ?_
          refine ow_icmpNo (q := 229) Xc146 hx (hb hby at_226) rfl (Jvm.Free.XT.ii_le_f (by decide)) ?_
          refine ow_iload (q := 231) Xc146 hx (hb hby at_229) rfl rfl ?_
          refine ow_iconst (q := 232) Xc146 hx (1 : Int32) (hb hby at_231) rfl rfl ?_
          refine ow_icmpYes (q := 246) Xc146 hx (hb hby at_232) (Jvm.Free.XT.ii_gt_t (by decide)) (by decide) (by decide) ?_
          exact cut246_145 w223 _ _ Xc146 ec146 Nc146 (by first | rfl | exact hw223 | simp [hw223])
        have cut200_147 : ∀ (w200 : Int32) (Tc147 : State) (lc147 : List Loc), Stand p l e room_1 s m #[(.long q0), (.long q1), (.long q2), (.long q3), (.int p4), (.long q5)] below meth c Tc147 lc147 1 4 → Tc147.heap = T141.heap → Fr n0 lc147 → (w200 = (if q5 < x3 then (4 : Int32) else (3 : Int32))) → ownEnds p e below s (Q_law Z q0 q1 q2 q3 p4 q5 h0 n0) 16 128 Tc147 (mkF m 200 #[.val (.long q0), .second, .val (.long q1), .second, .val (.long q2), .second, .val (.long q3), .second, iv p4, .val (.long q5), .second, iv (4 : Int32), iv (2 : Int32), .val (.long x0), .second, .val (.long x1), .second, .val (.long x2), .second, .val (.long x3), .second, .val (.long xt), .second, rv b141, iv v143, iv w200] []) := by
          intro w200 Tc147 lc147 Xc147 ec147 Nc147 hw200
          refine ow_iload (q := 202) Xc147 hx (hb hby at_200) rfl rfl ?_
          refine ow_iconst (q := 203) Xc147 hx (2 : Int32) (hb hby at_202) rfl rfl ?_
          refine ow_icmpNo (q := 206) Xc147 hx (hb hby at_203) rfl (Jvm.Free.XT.ii_le_f (by decide)) ?_
          refine ow_iload (q := 208) Xc147 hx (hb hby at_206) rfl rfl ?_
          refine ow_iconst (q := 209) Xc147 hx (2 : Int32) (hb hby at_208) rfl rfl ?_
          refine ow_icmpNo (q := 212) Xc147 hx (hb hby at_209) rfl (Jvm.Free.XT.ii_gt_f (by decide)) ?_
          refine ow_lload (q := 214) Xc147 hx (hb hby at_212) rfl rfl ?_
          refine ow_lload (q := 216) Xc147 hx (hb hby at_214) rfl rfl ?_
          refine ow_lcmp (q := 217) Xc147 hx _ (hb hby at_216) rfl rfl ?_
          by_cases hc217_148 : q5 < x2
          · refine ow_ifYes (q := 223) Xc147 hx (hb hby at_217) (Jvm.Free.XT.ll_gt_t hc217_148) (by decide) (by decide) ?_
            exact cut223_146 w200 _ _ Xc147 ec147 Nc147 (by first | rfl | exact hw200 | simp [hc217_148, hw200])
          · refine ow_ifNo (q := 220) Xc147 hx (hb hby at_217) rfl (Jvm.Free.XT.ll_gt_f hc217_148) ?_
            refine ow_iconst (q := 221) Xc147 hx (2 : Int32) (hb hby at_220) rfl rfl ?_
            refine ow_istore (q := 223) Xc147 hx (L' := #[.val (.long q0), .second, .val (.long q1), .second, .val (.long q2), .second, .val (.long q3), .second, iv p4, .val (.long q5), .second, iv (4 : Int32), iv (2 : Int32), .val (.long x0), .second, .val (.long x1), .second, .val (.long x2), .second, .val (.long x3), .second, .val (.long xt), .second, rv b141, iv v143, iv (2 : Int32)]) (hb hby at_221) rfl rfl ?_
            exact cut223_146 (2 : Int32) _ _ Xc147 ec147 Nc147 (by first | rfl | exact hw200 | simp [hc217_148, hw200])
        refine ow_iload (q := 179) X142 hx (hb hby at_177) rfl rfl ?_
        refine ow_iconst (q := 180) X142 hx (3 : Int32) (hb hby at_179) rfl rfl ?_
        refine ow_icmpNo (q := 183) X142 hx (hb hby at_180) rfl (Jvm.Free.XT.ii_le_f (by decide)) ?_
        refine ow_iload (q := 185) X142 hx (hb hby at_183) rfl rfl ?_
        refine ow_iconst (q := 186) X142 hx (3 : Int32) (hb hby at_185) rfl rfl ?_
        refine ow_icmpNo (q := 189) X142 hx (hb hby at_186) rfl (Jvm.Free.XT.ii_gt_f (by decide)) ?_
        refine ow_lload (q := 191) X142 hx (hb hby at_189) rfl rfl ?_
        refine ow_lload (q := 193) X142 hx (hb hby at_191) rfl rfl ?_
        refine ow_lcmp (q := 194) X142 hx _ (hb hby at_193) rfl rfl ?_
        by_cases hc194_149 : q5 < x3
        · refine ow_ifYes (q := 200) X142 hx (hb hby at_194) (Jvm.Free.XT.ll_gt_t hc194_149) (by decide) (by decide) ?_
          exact cut200_147 (4 : Int32) _ _ X142 e142 N142 (by first | rfl | simp [hc194_149])
        · refine ow_ifNo (q := 197) X142 hx (hb hby at_194) rfl (Jvm.Free.XT.ll_gt_f hc194_149) ?_
          refine ow_iconst (q := 198) X142 hx (3 : Int32) (hb hby at_197) rfl rfl ?_
          refine ow_istore (q := 200) X142 hx (L' := #[.val (.long q0), .second, .val (.long q1), .second, .val (.long q2), .second, .val (.long q3), .second, iv p4, .val (.long q5), .second, iv (4 : Int32), iv (2 : Int32), .val (.long x0), .second, .val (.long x1), .second, .val (.long x2), .second, .val (.long x3), .second, .val (.long xt), .second, rv b141, iv v143, iv (3 : Int32)]) (hb hby at_198) rfl rfl ?_
          exact cut200_147 (3 : Int32) _ _ X142 e142 N142 (by first | rfl | simp [hc194_149])
      · subst hs118
        refine ow_lload (q := 151) Xc23 hx (hb hby at_149) rfl rfl ?_
        refine ow_lload (q := 153) Xc23 hx (hb hby at_151) rfl rfl ?_
        refine ow_lload (q := 155) Xc23 hx (hb hby at_153) rfl rfl ?_
        refine ow_lload (q := 157) Xc23 hx (hb hby at_155) rfl rfl ?_
        obtain ⟨_, _, ⟨T150, L150, k150, n150⟩, -, X150, ⟨Lc150, hQ150, l150, y150, z150⟩, st150⟩ := Jvm.LawKit.callS Xc23 hx (y := (⟨"com/example/chromabin/chromabin/packing/PackingFirstAtMostPinLaw", "make", "(IJJJJ)[J"⟩ : MethodName)) hown (mvT hZ (hw _ (List.mem_of_getElem? (i := 7) rfl))) (mvT hZ (hw _ (List.mem_of_getElem? (i := 8) rfl))) (mvT hZ (hw _ (List.mem_of_getElem? (i := 9) rfl))) (mvT hZ (hw _ (List.mem_of_getElem? (i := 10) rfl))) (by decide) (backOf (W := 0) (rm_make_4 l Z a0 hw [] x0 x1 x2 x3 h0 n0 (Nat.le_trans Z0 K0.1) ) hZ (hw _ (List.mem_of_getElem? (i := 10) rfl)) (hw _ (List.mem_of_getElem? (i := 9) rfl)) (by decide) (by decide)) (g := (mkF m 157 #[.val (.long q0), .second, .val (.long q1), .second, .val (.long q2), .second, .val (.long q3), .second, iv p4, .val (.long q5), .second, iv (4 : Int32), iv (3 : Int32), .val (.long x0), .second, .val (.long x1), .second, .val (.long x2), .second, .val (.long x3), .second, .val (.long xt), .second, .unset, .unset, .unset] [(.long x3), (.long x2), (.long x1), (.long x0), (.int (4 : Int32))])) rfl (by rw [hml]; rfl) (argsL := [(.int (4 : Int32)), (.long x0), (.long x1), (.long x2), (.long x3)]) (rest := []) (lenOf own_pd1 rfl) rfl (by show 2 * 0 + _ ≤ _; exact Nat.le_of_eq rfl) (hb hby at_157) (fun _ _ => ⟨rfl, ec23, (by decide : 0 + 1 ≤ _), (by decide : 0 + 4 ≤ _)⟩)
        dsimp only [Pt.U, Pt.locs, Pt.cells, Pt.slots] at X150 l150 y150 z150 st150 hQ150
        subst l150 y150 z150
        obtain ⟨b150, rfl, N150q, Kq150, sq150_b150, FP150_0⟩ := hQ150
        have N150 := Fr.app Nc23 N150q
        have K150 : Keep h0 T150.heap [] := K0.trans Kq150 all0
        have sz_b150 : h0.size ≤ b150 := Nat.le_trans K0.1 sq150_b150
        have G_b150 : n0 ≤ b150 := Nat.le_trans Z0 sz_b150
        refine ownGo (T' := T150) (f' := (mkF m 160 #[.val (.long q0), .second, .val (.long q1), .second, .val (.long q2), .second, .val (.long q3), .second, iv p4, .val (.long q5), .second, iv (4 : Int32), iv (3 : Int32), .val (.long x0), .second, .val (.long x1), .second, .val (.long x2), .second, .val (.long x3), .second, .val (.long xt), .second, .unset, .unset, .unset] [(.ref b150)])) (st150) ?_
        refine ow_astore (q := 162) X150 hx (L' := #[.val (.long q0), .second, .val (.long q1), .second, .val (.long q2), .second, .val (.long q3), .second, iv p4, .val (.long q5), .second, iv (4 : Int32), iv (3 : Int32), .val (.long x0), .second, .val (.long x1), .second, .val (.long x2), .second, .val (.long x3), .second, .val (.long xt), .second, rv b150, .unset, .unset]) (hb hby at_160) rfl rfl rfl ?_
        refine ow_aload (q := 164) X150 hx (hb hby at_162) rfl rfl rfl ?_
        refine ow_iload (q := 166) X150 hx (hb hby at_164) rfl rfl ?_
        refine ow_lload (q := 168) X150 hx (hb hby at_166) rfl rfl ?_
        obtain ⟨_, _, ⟨T151, L151, k151, n151⟩, -, X151, ⟨Lc151, hQ151, l151, y151, z151⟩, st151⟩ := Jvm.LawKit.callS X150 hx (y := (⟨"com/example/chromabin/chromabin/packing/Packing", "firstAtMost", "([JIJ)I"⟩ : MethodName)) hown (mvT hZ (hw _ (List.mem_of_getElem? (i := 12) rfl))) (mvT hZ (hw _ (List.mem_of_getElem? (i := 13) rfl))) (mvT hZ (hw _ (List.mem_of_getElem? (i := 14) rfl))) (mvT hZ (hw _ (List.mem_of_getElem? (i := 15) rfl))) (by decide) (backOf (W := 0) (rm_fam_4_3 l Z a0 hw [] b150 q5 (ownUpd (ownUpd (ownUpd (ownUpd (fun _ => (0 : Int64)) 0 x0) 1 x1) 2 x2) 3 x3) T150.heap n0 (Nat.le_trans Z0 K150.1) FP150_0) hZ (hw _ (List.mem_of_getElem? (i := 15) rfl)) (hw _ (List.mem_of_getElem? (i := 14) rfl)) (by decide) (by decide)) (g := (mkF m 168 #[.val (.long q0), .second, .val (.long q1), .second, .val (.long q2), .second, .val (.long q3), .second, iv p4, .val (.long q5), .second, iv (4 : Int32), iv (3 : Int32), .val (.long x0), .second, .val (.long x1), .second, .val (.long x2), .second, .val (.long x3), .second, .val (.long xt), .second, rv b150, .unset, .unset] [(.long q5), (.int (3 : Int32)), (.ref b150)])) rfl (by rw [hml]; rfl) (argsL := [(.ref b150), (.int (3 : Int32)), (.long q5)]) (rest := []) (lenOf own_pd2 rfl) rfl (by show 2 * 0 + _ ≤ _; exact Nat.le_of_eq rfl) (hb hby at_168) (fun _ _ => ⟨rfl, rfl, (by decide : 1 + 0 ≤ _), (by decide : 4 + 0 ≤ _)⟩)
        dsimp only [Pt.U, Pt.locs, Pt.cells, Pt.slots] at X151 l151 y151 z151 st151 hQ151
        subst l151 y151 z151
        obtain ⟨rfl, N151q, e151⟩ := hQ151
        have N151 := Fr.app N150 N151q
        refine ownGo (T' := T151) (f' := (mkF m 171 #[.val (.long q0), .second, .val (.long q1), .second, .val (.long q2), .second, .val (.long q3), .second, iv p4, .val (.long q5), .second, iv (4 : Int32), iv (3 : Int32), .val (.long x0), .second, .val (.long x1), .second, .val (.long x2), .second, .val (.long x3), .second, .val (.long xt), .second, rv b150, .unset, .unset] [(.int (if q5 < (ownUpd (ownUpd (ownUpd (ownUpd (fun _ => (0 : Int64)) 0 x0) 1 x1) 2 x2) 3 x3) 3 then (4 : Int32) else (3 : Int32)))])) (st151) ?_
        generalize hv_v152 : (if q5 < (ownUpd (ownUpd (ownUpd (ownUpd (fun _ => (0 : Int64)) 0 x0) 1 x1) 2 x2) 3 x3) 3 then (4 : Int32) else (3 : Int32)) = v152
        refine ow_istore (q := 173) X151 hx (L' := #[.val (.long q0), .second, .val (.long q1), .second, .val (.long q2), .second, .val (.long q3), .second, iv p4, .val (.long q5), .second, iv (4 : Int32), iv (3 : Int32), .val (.long x0), .second, .val (.long x1), .second, .val (.long x2), .second, .val (.long x3), .second, .val (.long xt), .second, rv b150, iv v152, .unset]) (hb hby at_171) rfl rfl ?_
        refine ow_iload (q := 175) X151 hx (hb hby at_173) rfl rfl ?_
        refine ow_istore (q := 177) X151 hx (L' := #[.val (.long q0), .second, .val (.long q1), .second, .val (.long q2), .second, .val (.long q3), .second, iv p4, .val (.long q5), .second, iv (4 : Int32), iv (3 : Int32), .val (.long x0), .second, .val (.long x1), .second, .val (.long x2), .second, .val (.long x3), .second, .val (.long xt), .second, rv b150, iv v152, iv (4 : Int32)]) (hb hby at_175) rfl rfl ?_
        have cut267_153 : ∀ (w267 : Int32) (Tc153 : State) (lc153 : List Loc), Stand p l e room_1 s m #[(.long q0), (.long q1), (.long q2), (.long q3), (.int p4), (.long q5)] below meth c Tc153 lc153 1 4 → Tc153.heap = T150.heap → Fr n0 lc153 → (w267 = (if q5 < x3 then (4 : Int32) else (3 : Int32))) → ownEnds p e below s (Q_law Z q0 q1 q2 q3 p4 q5 h0 n0) 16 128 Tc153 (mkF m 267 #[.val (.long q0), .second, .val (.long q1), .second, .val (.long q2), .second, .val (.long q3), .second, iv p4, .val (.long q5), .second, iv (4 : Int32), iv (3 : Int32), .val (.long x0), .second, .val (.long x1), .second, .val (.long x2), .second, .val (.long x3), .second, .val (.long xt), .second, rv b150, iv v152, iv w267] []) := by
          intro w267 Tc153 lc153 Xc153 ec153 Nc153 hw267
          refine ow_iload (q := 269) Xc153 hx (hb hby at_267) rfl rfl ?_
          refine ow_iload (q := 271) Xc153 hx (hb hby at_269) rfl rfl ?_
          refine ow_icmpNo (q := 274) Xc153 hx (hb hby at_271) rfl (Jvm.Free.XT.ii_ne_f (by rw [hw267, ← hv_v152]; exact own_fam_4_3 hs)) ?_
          refine ow_iconst (q := 275) Xc153 hx (1 : Int32) (hb hby at_274) rfl rfl ?_
          refine ow_goto (q := 279) Xc153 hx (hb hby at_275) (by decide) (by decide) ?_
          refine ownRetN Xc153 hx (r := (1 : Int32)) (Or.inl rfl) Bd.returns (hb hby at_279) hlk (by decide) (by decide) (by decide) ?_
          exact ⟨rfl, Nc153⟩
        have cut246_154 : ∀ (w246 : Int32) (Tc154 : State) (lc154 : List Loc), Stand p l e room_1 s m #[(.long q0), (.long q1), (.long q2), (.long q3), (.int p4), (.long q5)] below meth c Tc154 lc154 1 4 → Tc154.heap = T150.heap → Fr n0 lc154 → (w246 = (if q5 < x3 then (4 : Int32) else (3 : Int32))) → ownEnds p e below s (Q_law Z q0 q1 q2 q3 p4 q5 h0 n0) 16 128 Tc154 (mkF m 246 #[.val (.long q0), .second, .val (.long q1), .second, .val (.long q2), .second, .val (.long q3), .second, iv p4, .val (.long q5), .second, iv (4 : Int32), iv (3 : Int32), .val (.long x0), .second, .val (.long x1), .second, .val (.long x2), .second, .val (.long x3), .second, .val (.long xt), .second, rv b150, iv v152, iv w246] []) := by
          intro w246 Tc154 lc154 Xc154 ec154 Nc154 hw246
          refine ow_iload (q := 248) Xc154 hx (hb hby at_246) rfl rfl ?_
          refine ow_ifNo (q := 251) Xc154 hx (hb hby at_248) rfl (Jvm.Free.XT.i0_le_f (by decide)) ?_
          refine ow_iload (q := 253) Xc154 hx (hb hby at_251) rfl rfl ?_
          refine ow_ifYes (q := 267) Xc154 hx (hb hby at_253) (Jvm.Free.XT.i0_gt_t (by decide)) (by decide) (by decide) ?_
          exact cut267_153 w246 _ _ Xc154 ec154 Nc154 (by first | rfl | exact hw246 | simp [hw246])
        have cut223_155 : ∀ (w223 : Int32) (Tc155 : State) (lc155 : List Loc), Stand p l e room_1 s m #[(.long q0), (.long q1), (.long q2), (.long q3), (.int p4), (.long q5)] below meth c Tc155 lc155 1 4 → Tc155.heap = T150.heap → Fr n0 lc155 → (w223 = (if q5 < x3 then (4 : Int32) else (3 : Int32))) → ownEnds p e below s (Q_law Z q0 q1 q2 q3 p4 q5 h0 n0) 16 128 Tc155 (mkF m 223 #[.val (.long q0), .second, .val (.long q1), .second, .val (.long q2), .second, .val (.long q3), .second, iv p4, .val (.long q5), .second, iv (4 : Int32), iv (3 : Int32), .val (.long x0), .second, .val (.long x1), .second, .val (.long x2), .second, .val (.long x3), .second, .val (.long xt), .second, rv b150, iv v152, iv w223] []) := by
          intro w223 Tc155 lc155 Xc155 ec155 Nc155 hw223
          refine ow_iload (q := 225) Xc155 hx (hb hby at_223) rfl rfl ?_
          refine ow_iconst (q := 226) Xc155 hx (1 : Int32) (hb hby at_225) rfl rfl ?_
          refine ow_icmpNo (q := 229) Xc155 hx (hb hby at_226) rfl (Jvm.Free.XT.ii_le_f (by decide)) ?_
          refine ow_iload (q := 231) Xc155 hx (hb hby at_229) rfl rfl ?_
          refine ow_iconst (q := 232) Xc155 hx (1 : Int32) (hb hby at_231) rfl rfl ?_
          refine ow_icmpYes (q := 246) Xc155 hx (hb hby at_232) (Jvm.Free.XT.ii_gt_t (by decide)) (by decide) (by decide) ?_
          exact cut246_154 w223 _ _ Xc155 ec155 Nc155 (by first | rfl | exact hw223 | simp [hw223])
        have cut200_156 : ∀ (w200 : Int32) (Tc156 : State) (lc156 : List Loc), Stand p l e room_1 s m #[(.long q0), (.long q1), (.long q2), (.long q3), (.int p4), (.long q5)] below meth c Tc156 lc156 1 4 → Tc156.heap = T150.heap → Fr n0 lc156 → (w200 = (if q5 < x3 then (4 : Int32) else (3 : Int32))) → ownEnds p e below s (Q_law Z q0 q1 q2 q3 p4 q5 h0 n0) 16 128 Tc156 (mkF m 200 #[.val (.long q0), .second, .val (.long q1), .second, .val (.long q2), .second, .val (.long q3), .second, iv p4, .val (.long q5), .second, iv (4 : Int32), iv (3 : Int32), .val (.long x0), .second, .val (.long x1), .second, .val (.long x2), .second, .val (.long x3), .second, .val (.long xt), .second, rv b150, iv v152, iv w200] []) := by
          intro w200 Tc156 lc156 Xc156 ec156 Nc156 hw200
          refine ow_iload (q := 202) Xc156 hx (hb hby at_200) rfl rfl ?_
          refine ow_iconst (q := 203) Xc156 hx (2 : Int32) (hb hby at_202) rfl rfl ?_
          refine ow_icmpNo (q := 206) Xc156 hx (hb hby at_203) rfl (Jvm.Free.XT.ii_le_f (by decide)) ?_
          refine ow_iload (q := 208) Xc156 hx (hb hby at_206) rfl rfl ?_
          refine ow_iconst (q := 209) Xc156 hx (2 : Int32) (hb hby at_208) rfl rfl ?_
          refine ow_icmpYes (q := 223) Xc156 hx (hb hby at_209) (Jvm.Free.XT.ii_gt_t (by decide)) (by decide) (by decide) ?_
          exact cut223_155 w200 _ _ Xc156 ec156 Nc156 (by first | rfl | exact hw200 | simp [hw200])
        refine ow_iload (q := 179) X151 hx (hb hby at_177) rfl rfl ?_
        refine ow_iconst (q := 180) X151 hx (3 : Int32) (hb hby at_179) rfl rfl ?_
        refine ow_icmpNo (q := 183) X151 hx (hb hby at_180) rfl (Jvm.Free.XT.ii_le_f (by decide)) ?_
        refine ow_iload (q := 185) X151 hx (hb hby at_183) rfl rfl ?_
        refine ow_iconst (q := 186) X151 hx (3 : Int32) (hb hby at_185) rfl rfl ?_
        refine ow_icmpNo (q := 189) X151 hx (hb hby at_186) rfl (Jvm.Free.XT.ii_gt_f (by decide)) ?_
        refine ow_lload (q := 191) X151 hx (hb hby at_189) rfl rfl ?_
        refine ow_lload (q := 193) X151 hx (hb hby at_191) rfl rfl ?_
        refine ow_lcmp (q := 194) X151 hx _ (hb hby at_193) rfl rfl ?_
        by_cases hc194_157 : q5 < x3
        · refine ow_ifYes (q := 200) X151 hx (hb hby at_194) (Jvm.Free.XT.ll_gt_t hc194_157) (by decide) (by decide) ?_
          exact cut200_156 (4 : Int32) _ _ X151 e151 N151 (by first | rfl | simp [hc194_157])
        · refine ow_ifNo (q := 197) X151 hx (hb hby at_194) rfl (Jvm.Free.XT.ll_gt_f hc194_157) ?_
          refine ow_iconst (q := 198) X151 hx (3 : Int32) (hb hby at_197) rfl rfl ?_
          refine ow_istore (q := 200) X151 hx (L' := #[.val (.long q0), .second, .val (.long q1), .second, .val (.long q2), .second, .val (.long q3), .second, iv p4, .val (.long q5), .second, iv (4 : Int32), iv (3 : Int32), .val (.long x0), .second, .val (.long x1), .second, .val (.long x2), .second, .val (.long x3), .second, .val (.long xt), .second, rv b150, iv v152, iv (3 : Int32)]) (hb hby at_198) rfl rfl ?_
          exact cut200_156 (3 : Int32) _ _ X151 e151 N151 (by first | rfl | simp [hc194_157])
      · subst hs119
        refine ow_lload (q := 151) Xc23 hx (hb hby at_149) rfl rfl ?_
        refine ow_lload (q := 153) Xc23 hx (hb hby at_151) rfl rfl ?_
        refine ow_lload (q := 155) Xc23 hx (hb hby at_153) rfl rfl ?_
        refine ow_lload (q := 157) Xc23 hx (hb hby at_155) rfl rfl ?_
        obtain ⟨_, _, ⟨T158, L158, k158, n158⟩, -, X158, ⟨Lc158, hQ158, l158, y158, z158⟩, st158⟩ := Jvm.LawKit.callS Xc23 hx (y := (⟨"com/example/chromabin/chromabin/packing/PackingFirstAtMostPinLaw", "make", "(IJJJJ)[J"⟩ : MethodName)) hown (mvT hZ (hw _ (List.mem_of_getElem? (i := 7) rfl))) (mvT hZ (hw _ (List.mem_of_getElem? (i := 8) rfl))) (mvT hZ (hw _ (List.mem_of_getElem? (i := 9) rfl))) (mvT hZ (hw _ (List.mem_of_getElem? (i := 10) rfl))) (by decide) (backOf (W := 0) (rm_make_4 l Z a0 hw [] x0 x1 x2 x3 h0 n0 (Nat.le_trans Z0 K0.1) ) hZ (hw _ (List.mem_of_getElem? (i := 10) rfl)) (hw _ (List.mem_of_getElem? (i := 9) rfl)) (by decide) (by decide)) (g := (mkF m 157 #[.val (.long q0), .second, .val (.long q1), .second, .val (.long q2), .second, .val (.long q3), .second, iv p4, .val (.long q5), .second, iv (4 : Int32), iv (4 : Int32), .val (.long x0), .second, .val (.long x1), .second, .val (.long x2), .second, .val (.long x3), .second, .val (.long xt), .second, .unset, .unset, .unset] [(.long x3), (.long x2), (.long x1), (.long x0), (.int (4 : Int32))])) rfl (by rw [hml]; rfl) (argsL := [(.int (4 : Int32)), (.long x0), (.long x1), (.long x2), (.long x3)]) (rest := []) (lenOf own_pd1 rfl) rfl (by show 2 * 0 + _ ≤ _; exact Nat.le_of_eq rfl) (hb hby at_157) (fun _ _ => ⟨rfl, ec23, (by decide : 0 + 1 ≤ _), (by decide : 0 + 4 ≤ _)⟩)
        dsimp only [Pt.U, Pt.locs, Pt.cells, Pt.slots] at X158 l158 y158 z158 st158 hQ158
        subst l158 y158 z158
        obtain ⟨b158, rfl, N158q, Kq158, sq158_b158, FP158_0⟩ := hQ158
        have N158 := Fr.app Nc23 N158q
        have K158 : Keep h0 T158.heap [] := K0.trans Kq158 all0
        have sz_b158 : h0.size ≤ b158 := Nat.le_trans K0.1 sq158_b158
        have G_b158 : n0 ≤ b158 := Nat.le_trans Z0 sz_b158
        refine ownGo (T' := T158) (f' := (mkF m 160 #[.val (.long q0), .second, .val (.long q1), .second, .val (.long q2), .second, .val (.long q3), .second, iv p4, .val (.long q5), .second, iv (4 : Int32), iv (4 : Int32), .val (.long x0), .second, .val (.long x1), .second, .val (.long x2), .second, .val (.long x3), .second, .val (.long xt), .second, .unset, .unset, .unset] [(.ref b158)])) (st158) ?_
        refine ow_astore (q := 162) X158 hx (L' := #[.val (.long q0), .second, .val (.long q1), .second, .val (.long q2), .second, .val (.long q3), .second, iv p4, .val (.long q5), .second, iv (4 : Int32), iv (4 : Int32), .val (.long x0), .second, .val (.long x1), .second, .val (.long x2), .second, .val (.long x3), .second, .val (.long xt), .second, rv b158, .unset, .unset]) (hb hby at_160) rfl rfl rfl ?_
        refine ow_aload (q := 164) X158 hx (hb hby at_162) rfl rfl rfl ?_
        refine ow_iload (q := 166) X158 hx (hb hby at_164) rfl rfl ?_
        refine ow_lload (q := 168) X158 hx (hb hby at_166) rfl rfl ?_
        obtain ⟨_, _, ⟨T159, L159, k159, n159⟩, -, X159, ⟨Lc159, hQ159, l159, y159, z159⟩, st159⟩ := Jvm.LawKit.callS X158 hx (y := (⟨"com/example/chromabin/chromabin/packing/Packing", "firstAtMost", "([JIJ)I"⟩ : MethodName)) hown (mvT hZ (hw _ (List.mem_of_getElem? (i := 12) rfl))) (mvT hZ (hw _ (List.mem_of_getElem? (i := 13) rfl))) (mvT hZ (hw _ (List.mem_of_getElem? (i := 14) rfl))) (mvT hZ (hw _ (List.mem_of_getElem? (i := 15) rfl))) (by decide) (backOf (W := 0) (rm_fam_4_4 l Z a0 hw [] b158 q5 (ownUpd (ownUpd (ownUpd (ownUpd (fun _ => (0 : Int64)) 0 x0) 1 x1) 2 x2) 3 x3) T158.heap n0 (Nat.le_trans Z0 K158.1) FP158_0) hZ (hw _ (List.mem_of_getElem? (i := 15) rfl)) (hw _ (List.mem_of_getElem? (i := 14) rfl)) (by decide) (by decide)) (g := (mkF m 168 #[.val (.long q0), .second, .val (.long q1), .second, .val (.long q2), .second, .val (.long q3), .second, iv p4, .val (.long q5), .second, iv (4 : Int32), iv (4 : Int32), .val (.long x0), .second, .val (.long x1), .second, .val (.long x2), .second, .val (.long x3), .second, .val (.long xt), .second, rv b158, .unset, .unset] [(.long q5), (.int (4 : Int32)), (.ref b158)])) rfl (by rw [hml]; rfl) (argsL := [(.ref b158), (.int (4 : Int32)), (.long q5)]) (rest := []) (lenOf own_pd2 rfl) rfl (by show 2 * 0 + _ ≤ _; exact Nat.le_of_eq rfl) (hb hby at_168) (fun _ _ => ⟨rfl, rfl, (by decide : 1 + 0 ≤ _), (by decide : 4 + 0 ≤ _)⟩)
        dsimp only [Pt.U, Pt.locs, Pt.cells, Pt.slots] at X159 l159 y159 z159 st159 hQ159
        subst l159 y159 z159
        obtain ⟨rfl, N159q, e159⟩ := hQ159
        have N159 := Fr.app N158 N159q
        refine ownGo (T' := T159) (f' := (mkF m 171 #[.val (.long q0), .second, .val (.long q1), .second, .val (.long q2), .second, .val (.long q3), .second, iv p4, .val (.long q5), .second, iv (4 : Int32), iv (4 : Int32), .val (.long x0), .second, .val (.long x1), .second, .val (.long x2), .second, .val (.long x3), .second, .val (.long xt), .second, rv b158, .unset, .unset] [(.int (4 : Int32))])) (st159) ?_
        refine ow_istore (q := 173) X159 hx (L' := #[.val (.long q0), .second, .val (.long q1), .second, .val (.long q2), .second, .val (.long q3), .second, iv p4, .val (.long q5), .second, iv (4 : Int32), iv (4 : Int32), .val (.long x0), .second, .val (.long x1), .second, .val (.long x2), .second, .val (.long x3), .second, .val (.long xt), .second, rv b158, iv (4 : Int32), .unset]) (hb hby at_171) rfl rfl ?_
        refine ow_iload (q := 175) X159 hx (hb hby at_173) rfl rfl ?_
        refine ow_istore (q := 177) X159 hx (L' := #[.val (.long q0), .second, .val (.long q1), .second, .val (.long q2), .second, .val (.long q3), .second, iv p4, .val (.long q5), .second, iv (4 : Int32), iv (4 : Int32), .val (.long x0), .second, .val (.long x1), .second, .val (.long x2), .second, .val (.long x3), .second, .val (.long xt), .second, rv b158, iv (4 : Int32), iv (4 : Int32)]) (hb hby at_175) rfl rfl ?_
        have cut267_160 : ∀ (w267 : Int32) (Tc160 : State) (lc160 : List Loc), Stand p l e room_1 s m #[(.long q0), (.long q1), (.long q2), (.long q3), (.int p4), (.long q5)] below meth c Tc160 lc160 1 4 → Tc160.heap = T158.heap → Fr n0 lc160 → (w267 = (4 : Int32)) → ownEnds p e below s (Q_law Z q0 q1 q2 q3 p4 q5 h0 n0) 16 128 Tc160 (mkF m 267 #[.val (.long q0), .second, .val (.long q1), .second, .val (.long q2), .second, .val (.long q3), .second, iv p4, .val (.long q5), .second, iv (4 : Int32), iv (4 : Int32), .val (.long x0), .second, .val (.long x1), .second, .val (.long x2), .second, .val (.long x3), .second, .val (.long xt), .second, rv b158, iv (4 : Int32), iv w267] []) := by
          intro w267 Tc160 lc160 Xc160 ec160 Nc160 hw267
          refine ow_iload (q := 269) Xc160 hx (hb hby at_267) rfl rfl ?_
          refine ow_iload (q := 271) Xc160 hx (hb hby at_269) rfl rfl ?_
          refine ow_icmpNo (q := 274) Xc160 hx (hb hby at_271) rfl (Jvm.Free.XT.ii_ne_f hw267.symm) ?_
          refine ow_iconst (q := 275) Xc160 hx (1 : Int32) (hb hby at_274) rfl rfl ?_
          refine ow_goto (q := 279) Xc160 hx (hb hby at_275) (by decide) (by decide) ?_
          refine ownRetN Xc160 hx (r := (1 : Int32)) (Or.inl rfl) Bd.returns (hb hby at_279) hlk (by decide) (by decide) (by decide) ?_
          exact ⟨rfl, Nc160⟩
        have cut246_161 : ∀ (w246 : Int32) (Tc161 : State) (lc161 : List Loc), Stand p l e room_1 s m #[(.long q0), (.long q1), (.long q2), (.long q3), (.int p4), (.long q5)] below meth c Tc161 lc161 1 4 → Tc161.heap = T158.heap → Fr n0 lc161 → (w246 = (4 : Int32)) → ownEnds p e below s (Q_law Z q0 q1 q2 q3 p4 q5 h0 n0) 16 128 Tc161 (mkF m 246 #[.val (.long q0), .second, .val (.long q1), .second, .val (.long q2), .second, .val (.long q3), .second, iv p4, .val (.long q5), .second, iv (4 : Int32), iv (4 : Int32), .val (.long x0), .second, .val (.long x1), .second, .val (.long x2), .second, .val (.long x3), .second, .val (.long xt), .second, rv b158, iv (4 : Int32), iv w246] []) := by
          intro w246 Tc161 lc161 Xc161 ec161 Nc161 hw246
          refine ow_iload (q := 248) Xc161 hx (hb hby at_246) rfl rfl ?_
          refine ow_ifNo (q := 251) Xc161 hx (hb hby at_248) rfl (Jvm.Free.XT.i0_le_f (by decide)) ?_
          refine ow_iload (q := 253) Xc161 hx (hb hby at_251) rfl rfl ?_
          refine ow_ifYes (q := 267) Xc161 hx (hb hby at_253) (Jvm.Free.XT.i0_gt_t (by decide)) (by decide) (by decide) ?_
          exact cut267_160 w246 _ _ Xc161 ec161 Nc161 (by first | rfl | exact hw246 | simp [hw246])
        have cut223_162 : ∀ (w223 : Int32) (Tc162 : State) (lc162 : List Loc), Stand p l e room_1 s m #[(.long q0), (.long q1), (.long q2), (.long q3), (.int p4), (.long q5)] below meth c Tc162 lc162 1 4 → Tc162.heap = T158.heap → Fr n0 lc162 → (w223 = (4 : Int32)) → ownEnds p e below s (Q_law Z q0 q1 q2 q3 p4 q5 h0 n0) 16 128 Tc162 (mkF m 223 #[.val (.long q0), .second, .val (.long q1), .second, .val (.long q2), .second, .val (.long q3), .second, iv p4, .val (.long q5), .second, iv (4 : Int32), iv (4 : Int32), .val (.long x0), .second, .val (.long x1), .second, .val (.long x2), .second, .val (.long x3), .second, .val (.long xt), .second, rv b158, iv (4 : Int32), iv w223] []) := by
          intro w223 Tc162 lc162 Xc162 ec162 Nc162 hw223
          refine ow_iload (q := 225) Xc162 hx (hb hby at_223) rfl rfl ?_
          refine ow_iconst (q := 226) Xc162 hx (1 : Int32) (hb hby at_225) rfl rfl ?_
          refine ow_icmpNo (q := 229) Xc162 hx (hb hby at_226) rfl (Jvm.Free.XT.ii_le_f (by decide)) ?_
          refine ow_iload (q := 231) Xc162 hx (hb hby at_229) rfl rfl ?_
          refine ow_iconst (q := 232) Xc162 hx (1 : Int32) (hb hby at_231) rfl rfl ?_
          refine ow_icmpYes (q := 246) Xc162 hx (hb hby at_232) (Jvm.Free.XT.ii_gt_t (by decide)) (by decide) (by decide) ?_
          exact cut246_161 w223 _ _ Xc162 ec162 Nc162 (by first | rfl | exact hw223 | simp [hw223])
        have cut200_163 : ∀ (w200 : Int32) (Tc163 : State) (lc163 : List Loc), Stand p l e room_1 s m #[(.long q0), (.long q1), (.long q2), (.long q3), (.int p4), (.long q5)] below meth c Tc163 lc163 1 4 → Tc163.heap = T158.heap → Fr n0 lc163 → (w200 = (4 : Int32)) → ownEnds p e below s (Q_law Z q0 q1 q2 q3 p4 q5 h0 n0) 16 128 Tc163 (mkF m 200 #[.val (.long q0), .second, .val (.long q1), .second, .val (.long q2), .second, .val (.long q3), .second, iv p4, .val (.long q5), .second, iv (4 : Int32), iv (4 : Int32), .val (.long x0), .second, .val (.long x1), .second, .val (.long x2), .second, .val (.long x3), .second, .val (.long xt), .second, rv b158, iv (4 : Int32), iv w200] []) := by
          intro w200 Tc163 lc163 Xc163 ec163 Nc163 hw200
          refine ow_iload (q := 202) Xc163 hx (hb hby at_200) rfl rfl ?_
          refine ow_iconst (q := 203) Xc163 hx (2 : Int32) (hb hby at_202) rfl rfl ?_
          refine ow_icmpNo (q := 206) Xc163 hx (hb hby at_203) rfl (Jvm.Free.XT.ii_le_f (by decide)) ?_
          refine ow_iload (q := 208) Xc163 hx (hb hby at_206) rfl rfl ?_
          refine ow_iconst (q := 209) Xc163 hx (2 : Int32) (hb hby at_208) rfl rfl ?_
          refine ow_icmpYes (q := 223) Xc163 hx (hb hby at_209) (Jvm.Free.XT.ii_gt_t (by decide)) (by decide) (by decide) ?_
          exact cut223_162 w200 _ _ Xc163 ec163 Nc163 (by first | rfl | exact hw200 | simp [hw200])
        refine ow_iload (q := 179) X159 hx (hb hby at_177) rfl rfl ?_
        refine ow_iconst (q := 180) X159 hx (3 : Int32) (hb hby at_179) rfl rfl ?_
        refine ow_icmpNo (q := 183) X159 hx (hb hby at_180) rfl (Jvm.Free.XT.ii_le_f (by decide)) ?_
        refine ow_iload (q := 185) X159 hx (hb hby at_183) rfl rfl ?_
        refine ow_iconst (q := 186) X159 hx (3 : Int32) (hb hby at_185) rfl rfl ?_
        refine ow_icmpYes (q := 200) X159 hx (hb hby at_186) (Jvm.Free.XT.ii_gt_t (by decide)) (by decide) (by decide) ?_
        exact cut200_163 (4 : Int32) _ _ X159 e159 N159 (by first | rfl | simp [])
  exact cut147_23 v12 v20 v22 v18 v20 _ _ X21 e21 N21 (own_sorted hv_v4 hv_v6 hv_v8 hv_v10 hv_v12 hv_v14 hv_v16 hv_v18 hv_v20 hv_v22)
set_option maxRecDepth 65536 in
set_option maxHeartbeats 40000000 in
theorem comes_1 {Post : Tables → Env → Array Value → State → Outcome → State → Prop} (hpost : ∀ tb e args s v u, (limb_1_1.after args s (.returned v) u = true ∧ limb_1_2.after args s (.returned v) u = true ∧ True) → FrameEnd s (.returned v) u (Jvm.fieldLocs frame_1_writes args s ++ Jvm.arrayLocs frame_1_arrays args s ++ Jvm.staticLocs frame_1_statics s) 16 128 → Post tb e args s (.returned v) u) :
    ArmFor flags0 classFile x code maxLocals ret World_1 tables_1 room_1 Calls_1 rest_1 Pre_1 Post := by
  intro l hfl _ _ p e ha hc hk s m args below hf hA hF happ hP
  obtain ⟨hcalls, hrest, hpre⟩ := hP
  obtain ⟨-, -, -, hnamed, -, -, -, hat⟩ := (Spec.applies_iff hf).mp happ
  obtain ⟨hg, hn⟩ := and_e (Cond.before_iff.mp (show (Jvm.Cond.and given_1 narrow_1).before args s = true from hpre))
  obtain ⟨gg1, gg2⟩ := and_e hg
  obtain ⟨gg3, gg4⟩ := and_e gg2
  obtain ⟨gg5, gg6⟩ := and_e gg4
  obtain ⟨gg7, gg8⟩ := and_e gg6
  obtain ⟨gg9, gg10⟩ := and_e gg8
  obtain ⟨gg11, gg12⟩ := and_e gg10
  obtain ⟨w0, w1, w2, w3, w4, w5, rfl⟩ : ∃ w0 w1 w2 w3 w4 w5 : Value, args = #[w0, w1, w2, w3, w4, w5] := by
    have hs : args.size = 6 := by simpa [Cond.value, given_1] using gg1
    obtain ⟨L⟩ := args
    match L, hs with
    | [w0, w1, w2, w3, w4, w5], _ => exact ⟨w0, w1, w2, w3, w4, w5, rfl⟩
  have hw := fun d (hd : d ∈ tables_1) => atoms_spec (ws := Jvm.Cond.code x code maxLocals ret :: tables_1) hat d (List.mem_cons_of_mem _ hd)
  have hfit : Fit s := fun {y c} hc i hi => by
    obtain ⟨ha, rfl⟩ := Array.getElem?_eq_some_iff.mp hc
    have q := List.all_eq_true.mp ((Array.all_eq_true_iff_forall_mem.mp hF) _ (Array.getElem_mem ha)) i (List.mem_range.mpr hi)
    simpa [Array.getElem?_eq_getElem hi] using q
  obtain ⟨i0, ei0⟩ := isL_v gg3
  obtain rfl : w0 = (.long i0) := Option.some.inj ei0
  obtain ⟨i1, ei1⟩ := isL_v gg5
  obtain rfl : w1 = (.long i1) := Option.some.inj ei1
  obtain ⟨i2, ei2⟩ := isL_v gg7
  obtain rfl : w2 = (.long i2) := Option.some.inj ei2
  obtain ⟨i3, ei3⟩ := isL_v gg9
  obtain rfl : w3 = (.long i3) := Option.some.inj ei3
  obtain ⟨i4, ei4⟩ := is_v gg11
  obtain rfl : w4 = (.int i4) := Option.some.inj ei4
  obtain ⟨i5, ei5⟩ := isL_v gg12
  obtain rfl : w5 = (.long i5) := Option.some.inj ei5
  obtain ⟨n, o, h1, h2, h3, _, L, rfl, ⟨rfl, N⟩, hq⟩ := rm_law l s _ hw tables_1 i0 i1 i2 i3 i4 i5  s.heap s.heap.size (Nat.le_refl _)  p e ha hc hk s m _ below hf ((Spec.applies_iff_loose hf).mp happ).1 ⟨rfl, State.Warmed39.refl s, rfl⟩ trivial
  refine ⟨n, _, h1, h2, h3, hpost _ _ _ _ _ _ ⟨Cond.after_iff.mpr rfl, Cond.after_iff.mpr (eq_i res_at (Term.int_eval (1)) rfl), trivial⟩ ⟨hq.1, hq.2.1, (hq.2.2.sift fun y hy => Or.inr (N y hy)).mono (by decide) (by decide)⟩⟩
theorem main_1_1 : Claimed_1_1 := comes_1 fun _ _ _ _ _ _ h hF => ⟨h.1, hF⟩
theorem main_1_2 : Claimed_1_2 := comes_1 fun _ _ _ _ _ _ h hF => ⟨h.2.1, hF⟩
end Jvm.Pilot.@@N@@
namespace Jvm.Pilot.@@N@@
open Jvm Jvm.ClassFile Sem Op Lib Jvm.Free Jvm.Stand Jvm.Pilot.@@N@@.Jvm.D
/-! MADE BY PROGRAM (witnessworld.py) out of the Statement's table words and the real class files: 13 classes; the members and pool entries that the words name. The judged class is class 1, her method 2. -/
namespace start1
open Jvm.ClassFile
def u (s : String) : CpInfo := .utf8 (stringToUtf16 s)
/-- a pool by its gaps: so many unusable entries, then the entry; so many at the end -/
def gap : Nat → List CpInfo → List CpInfo
  | 0, r => r
  | n + 1, r => .unusable :: gap n r
def poolList (es : List (Nat × CpInfo)) (last : Nat) : List CpInfo := es.foldr (fun e r => gap e.1 (e.2 :: r)) (gap last [])
def pool (es : List (Nat × CpInfo)) (last : Nat) : Array CpInfo := ⟨poolList es last⟩
def fileOf (pool : Array CpInfo) (this : Nat) (attrs : Array Attribute := #[]) (ms : Array MethodInfo := #[]) (fl : Nat := 33) (sup : Nat := 0) (ifs : Array Nat := #[]) (fds : Array FieldInfo := #[]) : ClassFile where
  minorVersion := 0
  majorVersion := 65
  constantPool := pool
  accessFlags := fl
  thisClass := this
  superClass := sup
  interfaces := ifs
  fields := fds
  methods := ms
  attributes := attrs
def plain (name : String) (sup : Option ClassId) : Class where
  name := name
  kind := .ordinary
  loader := none
  accessFlags := 33
  super := sup
  interfaces := #[]
  cf := none
  fields := #[]
  methods := #[]
  instanceTypes := #[]
  staticTypes := #[]
  resolved := #[]
  callSites := []
  init := .initialized
  statics := none
  mirror := none

def pool0 : Array CpInfo := pool [(5, u "<init>"), (0, u "()V"), (1, .class_ 10), (1, u "java/lang/Object")] 113

def k0m0 : Method := { name := "<init>", desc := "()V", sig := { parameters := [], returnType := none }, accessFlags := 1, code := none }
/-- java/lang/Object -/
def k0 : Class := { plain "java/lang/Object" none with
  accessFlags := 33
  interfaces := #[]
  cf := some (fileOf pool0 8 #[] #[{ accessFlags := 1, nameIndex := 5, descriptorIndex := 6, attributes := #[] }] 33 0 #[] #[])
  fields := #[]
  methods := #[k0m0]
  instanceTypes := #[]
  staticTypes := #[]
  resolved := Array.replicate 124 none
  statics := none }

def pool1 : Array CpInfo := pool [(2, .class_ 4), (1, u "java/lang/Object"), (0, u "<init>"), (0, u "()V"), (0, .methodref 8 9), (0, .class_ 10), (0, .nameAndType 11 12), (0, u "java/lang/Math"), (0, u "max"), (0, u "(JJ)J"), (0, .methodref 8 14), (0, .nameAndType 15 12), (0, u "min"), (0, .methodref 17 18), (0, .class_ 19), (0, .nameAndType 20 21), (0, u "com/example/chromabin/chromabin/packing/PackingFirstAtMostPinLaw"), (0, u "make"), (0, u "(IJJJJ)[J"), (0, .methodref 23 24), (0, .class_ 25), (0, .nameAndType 26 27), (0, u "com/example/chromabin/chromabin/packing/Packing"), (0, u "firstAtMost"), (0, u "([JIJ)I"), (3, u "law"), (0, u "(JJJJIJ)Z")] 4

def k1m0 : Method := { name := "<init>", desc := "()V", sig := { parameters := [], returnType := none }, accessFlags := 1, code := none }
def k1c1 : Code := { maxStack := 5, maxLocals := 9, code := method_2_code, exceptionTable := #[], attributes := #[] }
def k1m1 : Method := { name := "make", desc := "(IJJJJ)[J", sig := { parameters := [.int, .long, .long, .long, .long], returnType := some (.array .long) }, accessFlags := 10, code := some k1c1 }
def k1c2 : Code := { maxStack := 9, maxLocals := 26, code := code, exceptionTable := #[], attributes := #[] }
def k1m2 : Method := { name := "law", desc := "(JJJJIJ)Z", sig := { parameters := [.long, .long, .long, .long, .int, .long], returnType := some .boolean }, accessFlags := 9, code := some k1c2 }
/-- com/example/chromabin/chromabin/packing/PackingFirstAtMostPinLaw -/
def k1 : Class := { plain "com/example/chromabin/chromabin/packing/PackingFirstAtMostPinLaw" (some 0) with
  accessFlags := 49
  interfaces := #[]
  cf := some (fileOf pool1 17 #[] #[{ accessFlags := 1, nameIndex := 5, descriptorIndex := 6, attributes := #[] }, { accessFlags := 10, nameIndex := 20, descriptorIndex := 21, attributes := #[] }, { accessFlags := 9, nameIndex := 31, descriptorIndex := 32, attributes := #[] }] 49 2 #[] #[])
  fields := #[]
  methods := #[k1m0, k1m1, k1m2]
  instanceTypes := #[]
  staticTypes := #[]
  resolved := Array.replicate 37 none
  statics := none }

def pool2 : Array CpInfo := pool [(1, .class_ 2), (0, u "java/lang/Math"), (1, .class_ 6), (1, u "java/lang/Object"), (0, u "<init>"), (0, u "()V"), (89, .class_ 100), (1, u "java/lang/Math$RandomNumberGeneratorHolder"), (20, u "(JJ)J"), (50, u "negativeZeroFloatBits"), (0, u "J"), (2, u "negativeZeroDoubleBits"), (21, u "max"), (2, u "min"), (43, u "$assertionsDisabled"), (0, u "Z"), (91, u "twoToTheDoubleScaleDown"), (0, u "D"), (4, u "twoToTheDoubleScaleUp"), (9, u "E"), (3, u "PI"), (2, u "TAU"), (2, u "DEGREES_TO_RADIANS"), (0, u "RADIANS_TO_DEGREES")] 94

def k2m0 : Method := { name := "<init>", desc := "()V", sig := { parameters := [], returnType := none }, accessFlags := 2, code := none }
def k2c1 : Code := { maxStack := 4, maxLocals := 4, code := jdk_29_method_66_code, exceptionTable := #[], attributes := #[] }
def k2m1 : Method := { name := "max", desc := "(JJ)J", sig := { parameters := [.long, .long], returnType := some .long }, accessFlags := 9, code := some k2c1 }
def k2c2 : Code := { maxStack := 4, maxLocals := 4, code := jdk_29_method_70_code, exceptionTable := #[], attributes := #[] }
def k2m2 : Method := { name := "min", desc := "(JJ)J", sig := { parameters := [.long, .long], returnType := some .long }, accessFlags := 9, code := some k2c2 }
/-- java/lang/Math -/
def k2 : Class := { plain "java/lang/Math" (some 0) with
  accessFlags := 49
  interfaces := #[]
  cf := some (fileOf pool2 1 #[.nestMembers #[98]] #[{ accessFlags := 2, nameIndex := 7, descriptorIndex := 8, attributes := #[] }, { accessFlags := 9, nameIndex := 198, descriptorIndex := 121, attributes := #[] }, { accessFlags := 9, nameIndex := 201, descriptorIndex := 121, attributes := #[] }] 49 4 #[] #[{ accessFlags := 25, nameIndex := 354, descriptorIndex := 339, attributes := #[] }, { accessFlags := 25, nameIndex := 358, descriptorIndex := 339, attributes := #[] }, { accessFlags := 25, nameIndex := 361, descriptorIndex := 339, attributes := #[] }, { accessFlags := 26, nameIndex := 364, descriptorIndex := 339, attributes := #[] }, { accessFlags := 26, nameIndex := 365, descriptorIndex := 339, attributes := #[] }, { accessFlags := 26, nameIndex := 172, descriptorIndex := 173, attributes := #[] }, { accessFlags := 26, nameIndex := 176, descriptorIndex := 173, attributes := #[] }, { accessFlags := 8, nameIndex := 344, descriptorIndex := 339, attributes := #[] }, { accessFlags := 8, nameIndex := 338, descriptorIndex := 339, attributes := #[] }, { accessFlags := 4120, nameIndex := 245, descriptorIndex := 246, attributes := #[] }])
  fields := #[{ name := "E", type := .double, accessFlags := 25, slot := 0, constantValue := 0 }, { name := "PI", type := .double, accessFlags := 25, slot := 1, constantValue := 0 }, { name := "TAU", type := .double, accessFlags := 25, slot := 2, constantValue := 0 }, { name := "DEGREES_TO_RADIANS", type := .double, accessFlags := 26, slot := 3, constantValue := 0 }, { name := "RADIANS_TO_DEGREES", type := .double, accessFlags := 26, slot := 4, constantValue := 0 }, { name := "negativeZeroFloatBits", type := .long, accessFlags := 26, slot := 5, constantValue := 0 }, { name := "negativeZeroDoubleBits", type := .long, accessFlags := 26, slot := 6, constantValue := 0 }, { name := "twoToTheDoubleScaleUp", type := .double, accessFlags := 8, slot := 7, constantValue := 0 }, { name := "twoToTheDoubleScaleDown", type := .double, accessFlags := 8, slot := 8, constantValue := 0 }, { name := "$assertionsDisabled", type := .boolean, accessFlags := 4120, slot := 9, constantValue := 0 }]
  methods := #[k2m0, k2m1, k2m2]
  instanceTypes := #[]
  staticTypes := #[.double, .double, .double, .double, .double, .long, .long, .double, .double, .boolean]
  resolved := Array.replicate 460 none
  statics := none }

def pool3 : Array CpInfo := pool [(2, .class_ 4), (1, u "java/lang/Object"), (0, u "<init>"), (0, u "()V"), (0, .class_ 8), (0, u "java/lang/Record")] 13

def k3m0 : Method := { name := "<init>", desc := "()V", sig := { parameters := [], returnType := none }, accessFlags := 4, code := none }
/-- java/lang/Record -/
def k3 : Class := { plain "java/lang/Record" (some 0) with
  accessFlags := 1057
  interfaces := #[]
  cf := some (fileOf pool3 7 #[] #[{ accessFlags := 4, nameIndex := 5, descriptorIndex := 6, attributes := #[] }] 1057 2 #[] #[])
  fields := #[]
  methods := #[k3m0]
  instanceTypes := #[]
  staticTypes := #[]
  resolved := Array.replicate 22 none
  statics := none }

def pool4 : Array CpInfo := pool [(2, .class_ 4), (1, u "java/lang/Record"), (3, .class_ 10), (1, u "com/example/chromabin/chromabin/packing/Packing"), (0, u "decreasing"), (0, u "[J"), (2, u "binOf"), (0, u "[I"), (2, u "bins"), (0, u "I"), (2, u "lower"), (0, u "J"), (2, u "firstAtMost"), (0, u "([JIJ)I")] 49

def k4c0 : Code := { maxStack := 4, maxLocals := 7, code := prog_55_method_3_code, exceptionTable := #[], attributes := #[] }
def k4m0 : Method := { name := "firstAtMost", desc := "([JIJ)I", sig := { parameters := [(.array .long), .int, .long], returnType := some .int }, accessFlags := 8, code := some k4c0 }
/-- com/example/chromabin/chromabin/packing/Packing -/
def k4 : Class := { plain "com/example/chromabin/chromabin/packing/Packing" (some 3) with
  accessFlags := 48
  interfaces := #[]
  cf := some (fileOf pool4 8 #[] #[{ accessFlags := 8, nameIndex := 27, descriptorIndex := 28, attributes := #[] }] 48 2 #[] #[{ accessFlags := 18, nameIndex := 11, descriptorIndex := 12, attributes := #[] }, { accessFlags := 18, nameIndex := 15, descriptorIndex := 16, attributes := #[] }, { accessFlags := 18, nameIndex := 19, descriptorIndex := 20, attributes := #[] }, { accessFlags := 18, nameIndex := 23, descriptorIndex := 24, attributes := #[] }])
  fields := #[{ name := "decreasing", type := (.array .long), accessFlags := 18, slot := 0, constantValue := 0 }, { name := "binOf", type := (.array .int), accessFlags := 18, slot := 1, constantValue := 0 }, { name := "bins", type := .int, accessFlags := 18, slot := 2, constantValue := 0 }, { name := "lower", type := .long, accessFlags := 18, slot := 3, constantValue := 0 }]
  methods := #[k4m0]
  instanceTypes := #[(.array .long), (.array .int), .int, .long]
  staticTypes := #[]
  resolved := Array.replicate 78 none
  statics := none }

def pool5 : Array CpInfo := pool [(1, u "java/lang/Cloneable"), (0, .class_ 1), (0, u "java/lang/Object"), (0, .class_ 3)] 3

/-- java/lang/Cloneable -/
def k5 : Class := { plain "java/lang/Cloneable" (some 0) with
  accessFlags := 1537
  interfaces := #[]
  cf := some (fileOf pool5 2 #[] #[] 1537 4 #[] #[])
  fields := #[]
  methods := #[]
  instanceTypes := #[]
  staticTypes := #[]
  resolved := Array.replicate 8 none
  statics := none }

def pool6 : Array CpInfo := pool [(1, u "java/io/Serializable"), (0, .class_ 1), (0, u "java/lang/Object"), (0, .class_ 3)] 3

/-- java/io/Serializable -/
def k6 : Class := { plain "java/io/Serializable" (some 0) with
  accessFlags := 1537
  interfaces := #[]
  cf := some (fileOf pool6 2 #[] #[] 1537 4 #[] #[])
  fields := #[]
  methods := #[]
  instanceTypes := #[]
  staticTypes := #[]
  resolved := Array.replicate 8 none
  statics := none }

/-- the primitive byte -/
def k7 : Class := { plain "byte" none with kind := .primitive 'B', accessFlags := 0x411 }
/-- [B -/
def k8 : Class := { plain "[B" (some 0) with kind := .array 7 .byte, interfaces := #[5, 6], accessFlags := 1041 }

/-- the primitive int -/
def k9 : Class := { plain "int" none with kind := .primitive 'I', accessFlags := 0x411 }
/-- [I -/
def k10 : Class := { plain "[I" (some 0) with kind := .array 9 .int, interfaces := #[5, 6], accessFlags := 1041 }

/-- the primitive long -/
def k11 : Class := { plain "long" none with kind := .primitive 'J', accessFlags := 0x411 }
/-- [J -/
def k12 : Class := { plain "[J" (some 0) with kind := .array 11 .long, interfaces := #[5, 6], accessFlags := 1041 }

def heap : Heap := #[]
def classes : Array Class := #[k0, k1, k2, k3, k4, k5, k6, k7, k8, k9, k10, k11, k12]
def interned : List (Array UInt16 × Addr) := []
def slotsUsed : Nat := 0
def theMethod : MethodId := ⟨1, 2⟩
def args0 : Array Value := #[.long 5, .long 6, .long 7, .long 8, .int 3, .long 6]
def aboutOver (below : List Frame) : State where
  vm := { classes := classes, interned := interned.toArray }
  heap := heap
  slotsUsed := slotsUsed
  threads := #[{ frames := .invoking theMethod args0 :: below }]
def below0 : List Frame := [.native { method := ⟨0, 0⟩, args := #[] }]
def about1 : State := aboutOver below0
def p0 : Program := .bare "" "" ""
def e0 : Env := launch0.env 0 0 0
theorem w_frames : about1.frames = Frame.invoking theMethod args0 :: below0 := rfl
set_option maxRecDepth 65536 in
theorem w_args : argsFit about1.vm theMethod args0 = true := by decide +kernel
set_option maxRecDepth 65536 in
theorem w_heap : heapFits about1 = true := by decide +kernel
set_option maxRecDepth 65536 in
theorem w_runnable : about1.curStatus? = some .runnable := by decide +kernel
set_option maxRecDepth 65536 in
theorem w_alone : about1.alone = true := by decide +kernel
set_option maxRecDepth 65536 in
theorem w_named : about1.methodNamed? x = some theMethod := by decide +kernel
set_option maxRecDepth 65536 in
theorem w_hears : about1.hears theMethod below0 = true := by decide +kernel
set_option maxRecDepth 65536 in
theorem w_ripe : about1.ripe theMethod args0 below0 = true := by decide +kernel
theorem w_running : about1.status = .running := rfl
set_option maxRecDepth 65536 in
theorem w_room : about1.hasRoom e0.platform room_1 = true :=
  launch0.hasRoom_least _ room_1 (by decide +kernel) (by decide +kernel) (by decide +kernel) (by decide +kernel) (by decide +kernel) (by decide +kernel)
theorem allAtoms_all (ts : List Jvm.Cond) (a : Array Jvm.Value) (st : Jvm.State) : (allAtoms ts).before a st = ts.all (fun c => c.before a st) := by
  induction ts with
  | nil => rfl
  | cons c t ih =>
    show (Jvm.Cond.and c (allAtoms t)).before a st = _
    rw [Jvm.Cond.before_and, ih, List.all_cons]
def words1 : List Jvm.Cond := Jvm.Cond.code x code maxLocals ret :: tables_1
/-- a 'code' word, met by the world's own term for the bytes: nothing is compared byte by byte -/
theorem code_word {y : MethodName} {bytes : ByteArray} {mx : Nat} {rt : Option FieldType} {a : Array Value} {s : State} {m : MethodId} {meth : Method} {c : Code} (h1 : s.methodNamed? y = some m) (h2 : s.vm.method? m = some meth) (h3 : meth.code = some c) (h4 : c.code = bytes)
    (h5 : (c.maxLocals == mx && c.exceptionTable.isEmpty && decide (c.maxStack ≤ mostOperands) && decide (meth.sig.returnType = rt) && !meth.locks && decide (parseMethodDescriptor y.desc = some meth.sig)) = true) : (Jvm.Cond.code y bytes mx rt).before a s = true := by
  simp only [Bool.and_eq_true, beq_iff_eq, Bool.not_eq_true', decide_eq_true_eq] at h5
  obtain ⟨⟨⟨⟨⟨g1, g2⟩, g3⟩, g4⟩, g5⟩, g6⟩ := h5
  simp [Cond.before, Cond.holds, Cond.value, h1, h2, h3, h4, g1, g2, g3, g4, g5, g6]
def isCode : Jvm.Cond → Bool
  | .code _ _ _ _ => true
  | _ => false
theorem all_split {L : List Jvm.Cond} {P : Jvm.Cond → Bool} (h1 : L.all (fun c => isCode c || P c) = true) (h2 : ∀ c ∈ L.filter isCode, P c = true) : L.all P = true := by
  refine List.all_eq_true.mpr fun c hc => ?_
  have h := List.all_eq_true.mp h1 c hc
  rcases Bool.eq_false_or_eq_true (isCode c) with hi | hi
  · exact h2 c (List.mem_filter.mpr ⟨hc, hi⟩)
  · simpa [hi] using h
set_option maxRecDepth 65536 in
theorem w_c0 : (Jvm.Cond.code x code maxLocals ret).before args0 about1 = true := code_word (m := ⟨1, 2⟩) (meth := k1m2) (c := k1c2) (by decide +kernel) rfl rfl rfl (by decide +kernel)
set_option maxRecDepth 65536 in
theorem w_c1 : (Jvm.Cond.code ({ cls := "java/lang/Math", name := "max", desc := "(JJ)J" } : Jvm.MethodName) jdk_29_method_66_code (4 : Nat) (Option.some Jvm.ClassFile.FieldType.long)).before args0 about1 = true := code_word (m := ⟨2, 1⟩) (meth := k2m1) (c := k2c1) (by decide +kernel) rfl rfl rfl (by decide +kernel)
set_option maxRecDepth 65536 in
theorem w_c2 : (Jvm.Cond.code ({ cls := "java/lang/Math", name := "min", desc := "(JJ)J" } : Jvm.MethodName) jdk_29_method_70_code (4 : Nat) (Option.some Jvm.ClassFile.FieldType.long)).before args0 about1 = true := code_word (m := ⟨2, 2⟩) (meth := k2m2) (c := k2c2) (by decide +kernel) rfl rfl rfl (by decide +kernel)
set_option maxRecDepth 65536 in
theorem w_c3 : (Jvm.Cond.code ({ cls := "com/example/chromabin/chromabin/packing/PackingFirstAtMostPinLaw", name := "make", desc := "(IJJJJ)[J" } : Jvm.MethodName) method_2_code (9 : Nat) (Option.some (Jvm.ClassFile.FieldType.array Jvm.ClassFile.FieldType.long))).before args0 about1 = true := code_word (m := ⟨1, 1⟩) (meth := k1m1) (c := k1c1) (by decide +kernel) rfl rfl rfl (by decide +kernel)
set_option maxRecDepth 65536 in
theorem w_c4 : (Jvm.Cond.code ({ cls := "com/example/chromabin/chromabin/packing/Packing", name := "firstAtMost", desc := "([JIJ)I" } : Jvm.MethodName) prog_55_method_3_code (7 : Nat) (Option.some Jvm.ClassFile.FieldType.int)).before args0 about1 = true := code_word (m := ⟨4, 0⟩) (meth := k4m0) (c := k4c0) (by decide +kernel) rfl rfl rfl (by decide +kernel)
def codes1 : List Jvm.Cond := [Jvm.Cond.code x code maxLocals ret, Jvm.Cond.code ({ cls := "java/lang/Math", name := "max", desc := "(JJ)J" } : Jvm.MethodName) jdk_29_method_66_code (4 : Nat) (Option.some Jvm.ClassFile.FieldType.long), Jvm.Cond.code ({ cls := "java/lang/Math", name := "min", desc := "(JJ)J" } : Jvm.MethodName) jdk_29_method_70_code (4 : Nat) (Option.some Jvm.ClassFile.FieldType.long), Jvm.Cond.code ({ cls := "com/example/chromabin/chromabin/packing/PackingFirstAtMostPinLaw", name := "make", desc := "(IJJJJ)[J" } : Jvm.MethodName) method_2_code (9 : Nat) (Option.some (Jvm.ClassFile.FieldType.array Jvm.ClassFile.FieldType.long)), Jvm.Cond.code ({ cls := "com/example/chromabin/chromabin/packing/Packing", name := "firstAtMost", desc := "([JIJ)I" } : Jvm.MethodName) prog_55_method_3_code (7 : Nat) (Option.some Jvm.ClassFile.FieldType.int)]
set_option maxRecDepth 65536 in
theorem codes_eq : words1.filter isCode = codes1 := rfl
theorem w_codes : ∀ c ∈ words1.filter isCode, c.before args0 about1 = true := by
  rw [codes_eq]
  intro c hc
  simp only [codes1, List.mem_cons, List.not_mem_nil, or_false] at hc
  rcases hc with rfl | rfl | rfl | rfl | rfl
  · exact w_c0
  · exact w_c1
  · exact w_c2
  · exact w_c3
  · exact w_c4
set_option maxRecDepth 65536 in
theorem w_t1 : words1.all (fun c => isCode c || c.before args0 about1) = true := by decide +kernel
theorem w_tables : (allAtoms (Jvm.Cond.code x code maxLocals ret :: tables_1)).before args0 about1 = true := by
  rw [allAtoms_all]
  show words1.all (fun c => c.before args0 about1) = true
  refine all_split ?_ w_codes
  rw [w_t1]
set_option maxRecDepth 65536 in
theorem w_case : (Jvm.Cond.and given_1 narrow_1).before args0 about1 = true := by decide +kernel
theorem w_applies : (headSpec (Jvm.Cond.code x code maxLocals ret :: tables_1) room_1).applies x e0.platform about1 = true :=
  (Spec.applies_iff w_frames).mpr ⟨w_running, w_runnable, w_alone, w_named, w_hears, w_ripe, w_room, w_tables⟩
theorem atStart : AtStart classFile x code maxLocals ret World_1 tables_1 room_1 Calls_1 rest_1 Pre_1 launch0 p0 e0 about1 theMethod args0 below0 :=
  ⟨lists_1, trivial, launch0.admits_env _ _ _, launch0.least_env, fairChoices_fair.cas, fairChoices_fair.clock, w_frames, w_args, w_heap, w_applies, trivial, trivial, w_case⟩
end start1
theorem witness_1 : WitnessClaimed_1 := ⟨start1.p0, start1.e0, start1.about1, start1.theMethod, start1.args0, start1.below0, start1.atStart⟩
end Jvm.Pilot.@@N@@
