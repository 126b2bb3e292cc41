import JvmDerived
import JvmDerived.Pilot.@@N@@Statement
import JvmDerived.Pilot.@@N@@Code
set_option linter.unusedVariables false
set_option linter.unusedSimpArgs false
@@BLOCK:NumsL.lean.txt@@
namespace Jvm.Pilot.@@N@@
open Jvm Jvm.ClassFile Sem Op Lib Jvm.Free Jvm.Stand Jvm.LawKit Jvm.RoadKit Bundle Jvm.Pilot.@@N@@.Jvm.D
/-! own layer: the walk in continuation form -/
section OwnWalk
variable {p : Program} {l : Launch} {e : Env} {R : Room} {s : State} {m : MethodId} {args : Array Value} {below : List Frame} {meth : Method} {c : Code} {T T' : State} {locs : List Loc} {cells slots : Nat} {Q : Option Value → Heap → List Loc → Prop} {ck sk : Nat} {f f' : JFrame} {Z : State} {a0 : Array Value} {h h' : Heap}
/-- from this state and frame the invocation returns, and what it leaves is told by Q -/
def ownEnds (p : Program) (e : Env) (below : List Frame) (s : State) (Q : Option Value → Heap → List Loc → Prop) (ck sk : Nat) (T : State) (f : JFrame) : Prop :=
  ∃ s₂ o, Steps p.tables e below (T.setTop f) s₂ ∧ s₂.status = .running ∧ Ended s₂ below o ∧ ∃ v L, o = .returned v ∧ Q v s₂.heap L ∧ FrameEnd s o s₂ L ck sk
theorem ownGo (st : ∀ target, Steps p.tables e below (T'.setTop f') target → Steps p.tables e below (T.setTop f) target) (k : ownEnds p e below s Q ck sk T' f') : ownEnds p e below s Q ck sk T f := by
  obtain ⟨a, b, h1, h2⟩ := k
  exact ⟨a, b, st _ h1, h2⟩
theorem ownRun (st : Steps p.tables e below (T.setTop f) (T'.setTop f')) (k : ownEnds p e below s Q ck sk T' f') : ownEnds p e below s Q ck sk T f :=
  ownGo (fun _ q => st.trans q) k
theorem ownCast (q : f = f') (k : ownEnds p e below s Q ck sk T f') : ownEnds p e below s Q ck sk T f := q ▸ k
theorem ownRetI (X : Stand p l e R s m args below meth c T locs cells slots) (hx : p.tables.exec = Jvm.exec) {pc : Nat} {Ls : Array Slot} {z : Int32} {rest : List Value} (hret : meth.sig.returnType = some .int) (hd : decode c.code pc = .ok (.ireturn, 1)) (hk : meth.locks = false) (hc : cells ≤ ck) (hs : slots ≤ sk)
    (hQ : Q (some (.int z)) T.heap locs) : ownEnds p e below s Q ck sk T (mkF m pc Ls (.int z :: rest)) := by
  obtain ⟨fs, hr, hrun, hended, hW, hsame⟩ := X.leave (v := some (.int z)) (fun h => by rw [hret] at h; cases h) hk
  exact ⟨_, _, retOut X hx hret rfl (Or.inl ⟨rfl, Or.inl rfl, _, rfl⟩) hd hr, hrun, hended, _, _, rfl, hQ, ⟨_, rfl⟩, hW, hsame.mono hc hs⟩
theorem ownRetN (X : Stand p l e R s m args below meth c T locs cells slots) (hx : p.tables.exec = Jvm.exec) {pc : Nat} {Ls : Array Slot} {z r : Int32} {rest : List Value} {t : FieldType} (ht : t = .boolean ∨ t = .byte ∨ t = .char ∨ t = .short) (hret : meth.sig.returnType = some t) (hd : decode c.code pc = .ok (.ireturn, 1)) (hk : meth.locks = false) (hc : cells ≤ ck) (hs : slots ≤ sk)
    (hz : nar t z = r) (hQ : Q (some (.int r)) T.heap locs) : ownEnds p e below s Q ck sk T (mkF m pc Ls (.int z :: rest)) := by
  subst hz
  obtain ⟨fs, hr, hrun, hended, hW, hsame⟩ := X.leave (v := some (.int (nar t z))) (fun h => by rw [hret] at h; cases h) hk
  exact ⟨_, _, retN X hx hret ht hd hr, hrun, hended, _, _, rfl, hQ, ⟨_, rfl⟩, hW, hsame.mono hc hs⟩
theorem ownRetJ (X : Stand p l e R s m args below meth c T locs cells slots) (hx : p.tables.exec = Jvm.exec) {pc : Nat} {Ls : Array Slot} {z : Int64} {rest : List Value} (hret : meth.sig.returnType = some .long) (hd : decode c.code pc = .ok (.lreturn, 1)) (hk : meth.locks = false) (hc : cells ≤ ck) (hs : slots ≤ sk)
    (hQ : Q (some (.long z)) T.heap locs) : ownEnds p e below s Q ck sk T (mkF m pc Ls (.long z :: rest)) := by
  obtain ⟨fs, hr, hrun, hended, hW, hsame⟩ := X.leave (v := some (.long z)) (fun h => by rw [hret] at h; cases h) hk
  exact ⟨_, _, retOut X hx hret rfl (Or.inr (Or.inl ⟨rfl, rfl, _, rfl⟩)) hd hr, hrun, hended, _, _, rfl, hQ, ⟨_, rfl⟩, hW, hsame.mono hc hs⟩
theorem ownRetR (X : Stand p l e R s m args below meth c T locs cells slots) (hx : p.tables.exec = Jvm.exec) {pc : Nat} {Ls : Array Slot} {w : Value} {rest : List Value} {t : FieldType} (ht : t.isReference = true) (hn : narrow t w = w) (hw : w.isRef = true) (hret : meth.sig.returnType = some t) (hd : decode c.code pc = .ok (.areturn, 1)) (hk : meth.locks = false) (hc : cells ≤ ck) (hs : slots ≤ sk)
    (hQ : Q (some w) T.heap locs) : ownEnds p e below s Q ck sk T (mkF m pc Ls (w :: rest)) := by
  obtain ⟨fs, hr, hrun, hended, hW, hsame⟩ := X.leave (v := some w) (fun h => by rw [hret] at h; cases h) hk
  exact ⟨_, _, retOut X hx hret hn (Or.inr (Or.inr (Or.inr (Or.inr ⟨rfl, ht, hw⟩)))) hd hr, hrun, hended, _, _, rfl, hQ, ⟨_, rfl⟩, hW, hsame.mono hc hs⟩
theorem ownRetV (X : Stand p l e R s m args below meth c T locs cells slots) (hx : p.tables.exec = Jvm.exec) {pc : Nat} {Ls : Array Slot} (hret : meth.sig.returnType = none) (hd : decode c.code pc = .ok (.return_, 1)) (hk : meth.locks = false) (hc : cells ≤ ck) (hs : slots ≤ sk)
    (hQ : Q none T.heap locs) : ownEnds p e below s Q ck sk T (mkF m pc Ls []) := by
  obtain ⟨fs, hr, hrun, hended, hW, hsame⟩ := X.leave (v := none) (fun _ => rfl) hk
  exact ⟨_, _, X.returnOut hx hret hd hr, hrun, hended, _, _, rfl, hQ, ⟨_, rfl⟩, hW, hsame.mono hc hs⟩
/-- one place of a function turned -/
def ownUpd {α : Type} (f : Nat → α) (j : Nat) (x : α) : Nat → α := fun i => if i = j then x else f i
theorem ownUpd_same {α : Type} (f : Nat → α) (j : Nat) (x : α) : ownUpd f j x j = x := if_pos rfl
theorem ownUpd_ne {α : Type} (f : Nat → α) {i j : Nat} (x : α) (q : i ≠ j) : ownUpd f j x i = f i := if_neg q
/-- an array of ints (or bytes, chars ..): its length and its components -/
def ownAI (Z : State) (h : Heap) (a : Addr) (ty : FieldType) (n : Nat) (g : Nat → Int32) : Prop := ∃ cl : Cell, Arr Z h a cl ty ∧ cl.slots.size = n ∧ n < 2 ^ 31 ∧ ∀ i, i < n → cl.slots[i]? = some (.int (g i))
/-- an array of longs -/
def ownAJ (Z : State) (h : Heap) (a : Addr) (n : Nat) (g : Nat → Int64) : Prop := ∃ cl : Cell, Arr Z h a cl .long ∧ cl.slots.size = n ∧ n < 2 ^ 31 ∧ ∀ i, i < n → cl.slots[i]? = some (.long (g i))
variable {a b : Addr} {ty : FieldType} {n : Nat} {gi : Nat → Int32} {gj : Nat → Int64} {ws : List Addr} {sl : Nat} {v : Value}
theorem ownAI.lt (F : ownAI Z h a ty n gi) : a < h.size := by obtain ⟨c, A, -⟩ := F; exact A.lt
theorem ownAI.ext (F : ownAI Z h a ty n gi) (E : Ext h h') : ownAI Z h' a ty n gi := by obtain ⟨c, A, r⟩ := F; exact ⟨c, A.ext E, r⟩
theorem ownAI.other (F : ownAI Z h b ty n gi) (W : Wr h h' a sl v) (q : b ≠ a) : ownAI Z h' b ty n gi := by obtain ⟨c, A, r⟩ := F; exact ⟨c, A.other W q, r⟩
theorem ownAI.keep (F : ownAI Z h a ty n gi) (K : Keep h h' ws) (q : a ∉ ws) : ownAI Z h' a ty n gi := by obtain ⟨c, A, r⟩ := F; exact ⟨c, ⟨K.2.1 a c A.1 q, A.2⟩, r⟩
theorem ownAJ.lt (F : ownAJ Z h a n gj) : a < h.size := by obtain ⟨c, A, -⟩ := F; exact A.lt
theorem ownAJ.ext (F : ownAJ Z h a n gj) (E : Ext h h') : ownAJ Z h' a n gj := by obtain ⟨c, A, r⟩ := F; exact ⟨c, A.ext E, r⟩
theorem ownAJ.other (F : ownAJ Z h b n gj) (W : Wr h h' a sl v) (q : b ≠ a) : ownAJ Z h' b n gj := by obtain ⟨c, A, r⟩ := F; exact ⟨c, A.other W q, r⟩
theorem ownAJ.keep (F : ownAJ Z h a n gj) (K : Keep h h' ws) (q : a ∉ ws) : ownAJ Z h' a n gj := by obtain ⟨c, A, r⟩ := F; exact ⟨c, ⟨K.2.1 a c A.1 q, A.2⟩, r⟩
theorem ownAI.new {k : ClassId} {z : Int32} (A : Arr Z h a (newA k ty z) ty) (q : ¬ z < 0) (d : defaultValue ty = .int 0) (N : z.toNatClampNeg = n) : ownAI Z h a ty n (fun _ => 0) := by
  subst N
  refine ⟨_, A, sz_new _ _ _, (back32 q).2, fun i hi => ?_⟩
  simp [newA, hi, d]
theorem ownAJ.new {k : ClassId} {z : Int32} (A : Arr Z h a (newA k .long z) .long) (q : ¬ z < 0) (N : z.toNatClampNeg = n) : ownAJ Z h a n (fun _ => 0) := by
  subst N
  refine ⟨_, A, sz_new _ _ _, (back32 q).2, fun i hi => ?_⟩
  simp [newA, hi, defaultValue]
theorem ownAI.set (F : ownAI Z h a ty n gi) {j : Nat} {x : Int32} (W : Wr h h' a j (.int x)) : ownAI Z h' a ty n (ownUpd gi j x) := by
  obtain ⟨cl, A, S, N, H⟩ := F
  refine ⟨_, A.same W, by simpa [Cell.setSlot] using S, N, fun i hi => ?_⟩
  by_cases e : i = j
  · subst e; simp [Cell.setSlot, ownUpd, S, hi]
  · rw [ownUpd_ne _ _ e]
    show (cl.slots.setIfInBounds j (.int x))[i]? = _
    rw [Array.getElem?_setIfInBounds_ne (Ne.symm e)]; exact H i hi
theorem ownAJ.set (F : ownAJ Z h a n gj) {j : Nat} {x : Int64} (W : Wr h h' a j (.long x)) : ownAJ Z h' a n (ownUpd gj j x) := by
  obtain ⟨cl, A, S, N, H⟩ := F
  refine ⟨_, A.same W, by simpa [Cell.setSlot] using S, N, fun i hi => ?_⟩
  by_cases e : i = j
  · subst e; simp [Cell.setSlot, ownUpd, S, hi]
  · rw [ownUpd_ne _ _ e]
    show (cl.slots.setIfInBounds j (.long x))[i]? = _
    rw [Array.getElem?_setIfInBounds_ne (Ne.symm e)]; exact H i hi
/-- an index is inside -/
def ownIn (j : Int32) (n : Nat) : Prop := ¬ (j < 0 ∨ n ≤ j.toNatClampNeg)
theorem ownIn_of {j : Int32} {n : Nat} (h1 : 0 ≤ j.toInt) (h2 : j.toInt < n) : ownIn j n := by
  intro q
  rcases q with q | q
  · rw [Int32.lt_iff_toInt_lt] at q; simp only [Int32.reduceToInt] at q; omega
  · simp only [Int32.toNatClampNeg] at q; omega
theorem ownIaload (F : ownAI Z h a .int n gi) (X : Stand p l e R s m args below meth c T locs cells slots) (hx : p.tables.exec = Jvm.exec) (hZ : Z.Warmed39 s.vm) (eT : T.heap = h) {j : Int32} (hin : ownIn j n) {g : JFrame} (hg : g.method = m) {rest : List Value} (hs : g.stack = .int j :: .ref a :: rest) (hd : decode c.code g.pc = .ok (.iaload, 1)) :
    ∀ target, Steps p.tables e below (T.setTop { g with pc := g.pc + 1, stack := .int (gi j.toNatClampNeg) :: rest }) target → Steps p.tables e below (T.setTop g) target := by
  obtain ⟨cl, A, S, N, H⟩ := F
  subst S
  exact fun t k => X.iaload hx (by rw [eT]; exact A.1) (State.isArrayOf_alike hZ.alike A.2.1) A.2.2 hin (H _ (Nat.lt_of_not_le fun q => hin (Or.inr q))) hg hs hd t k
theorem ownBaload (F : ownAI Z h a .byte n gi) (X : Stand p l e R s m args below meth c T locs cells slots) (hx : p.tables.exec = Jvm.exec) (hZ : Z.Warmed39 s.vm) (eT : T.heap = h) {j : Int32} (hin : ownIn j n) {g : JFrame} (hg : g.method = m) {rest : List Value} (hs : g.stack = .int j :: .ref a :: rest) (hd : decode c.code g.pc = .ok (.baload, 1)) :
    ∀ target, Steps p.tables e below (T.setTop { g with pc := g.pc + 1, stack := .int (gi j.toNatClampNeg) :: rest }) target → Steps p.tables e below (T.setTop g) target := by
  obtain ⟨cl, A, S, N, H⟩ := F
  subst S
  exact fun t k => X.baloadBytes hx (by rw [eT]; exact A.1) (State.isArrayOf_alike hZ.alike A.2.1) A.2.2 hin (H _ (Nat.lt_of_not_le fun q => hin (Or.inr q))) hg hs hd t k
theorem ownCaload (F : ownAI Z h a .char n gi) (X : Stand p l e R s m args below meth c T locs cells slots) (hx : p.tables.exec = Jvm.exec) (hZ : Z.Warmed39 s.vm) (eT : T.heap = h) {j : Int32} (hin : ownIn j n) {g : JFrame} (hg : g.method = m) {rest : List Value} (hs : g.stack = .int j :: .ref a :: rest) (hd : decode c.code g.pc = .ok (.caload, 1)) :
    ∀ target, Steps p.tables e below (T.setTop { g with pc := g.pc + 1, stack := .int (gi j.toNatClampNeg) :: rest }) target → Steps p.tables e below (T.setTop g) target := by
  obtain ⟨cl, A, S, N, H⟩ := F
  subst S
  exact fun t k => X.caload hx (by rw [eT]; exact A.1) (State.isArrayOf_alike hZ.alike A.2.1) A.2.2 hin (H _ (Nat.lt_of_not_le fun q => hin (Or.inr q))) hg hs hd t k
theorem ownLaload (F : ownAJ Z h a n gj) (X : Stand p l e R s m args below meth c T locs cells slots) (hx : p.tables.exec = Jvm.exec) (hZ : Z.Warmed39 s.vm) (eT : T.heap = h) {j : Int32} (hin : ownIn j n) {g : JFrame} (hg : g.method = m) {rest : List Value} (hs : g.stack = .int j :: .ref a :: rest) (hd : decode c.code g.pc = .ok (.laload, 1)) :
    ∀ target, Steps p.tables e below (T.setTop { g with pc := g.pc + 1, stack := .long (gj j.toNatClampNeg) :: rest }) target → Steps p.tables e below (T.setTop g) target := by
  obtain ⟨cl, A, S, N, H⟩ := F
  subst S
  exact fun t k => X.laload hx (by rw [eT]; exact A.1) (State.isArrayOf_alike hZ.alike A.2.1) A.2.2 hin (H _ (Nat.lt_of_not_le fun q => hin (Or.inr q))) hg hs hd t k
theorem ownLenI (F : ownAI Z h a ty n gi) (X : Stand p l e R s m args below meth c T locs cells slots) (hx : p.tables.exec = Jvm.exec) (hZ : Z.Warmed39 s.vm) (eT : T.heap = h) {z : Int32} (hz : n.toInt32 = z) {g : JFrame} (hg : g.method = m) {rest : List Value} (hs : g.stack = .ref a :: rest) (hd : decode c.code g.pc = .ok (.arraylength, 1)) :
    ∀ target, Steps p.tables e below (T.setTop { g with pc := g.pc + 1, stack := .int z :: rest }) target → Steps p.tables e below (T.setTop g) target := by
  obtain ⟨cl, A, S, N, H⟩ := F
  subst S hz
  exact fun t k => X.arraylength hx (by rw [eT]; exact A.1) (State.isArrayOf_alike hZ.alike A.2.1) hg hs hd t k
theorem ownLenJ (F : ownAJ Z h a n gj) (X : Stand p l e R s m args below meth c T locs cells slots) (hx : p.tables.exec = Jvm.exec) (hZ : Z.Warmed39 s.vm) (eT : T.heap = h) {z : Int32} (hz : n.toInt32 = z) {g : JFrame} (hg : g.method = m) {rest : List Value} (hs : g.stack = .ref a :: rest) (hd : decode c.code g.pc = .ok (.arraylength, 1)) :
    ∀ target, Steps p.tables e below (T.setTop { g with pc := g.pc + 1, stack := .int z :: rest }) target → Steps p.tables e below (T.setTop g) target := by
  obtain ⟨cl, A, S, N, H⟩ := F
  subst S hz
  exact fun t k => X.arraylength hx (by rw [eT]; exact A.1) (State.isArrayOf_alike hZ.alike A.2.1) hg hs hd t k
theorem ownIastore (F : ownAI Z h a .int n gi) (X : Stand p l e R s m args below meth c T locs cells slots) (hx : p.tables.exec = Jvm.exec) (hZ : Z.Warmed39 s.vm) (eT : T.heap = h) {j x : Int32} (hin : ownIn j n) {g : JFrame} (hg : g.method = m) {rest : List Value} (hs : g.stack = .int x :: .int j :: .ref a :: rest) (hd : decode c.code g.pc = .ok (.iastore, 1)) :
    ∃ T' h', Stand p l e R s m args below meth c T' (locs ++ [⟨a, j.toNatClampNeg⟩]) cells slots ∧ T'.heap = h' ∧ Wr h h' a j.toNatClampNeg (.int x) ∧ ownAI Z h' a .int n (ownUpd gi j.toNatClampNeg x) ∧ ∀ target, Steps p.tables e below (T'.setTop { g with pc := g.pc + 1, stack := rest }) target → Steps p.tables e below (T.setTop g) target := by
  obtain ⟨cl, A, S, r⟩ := id F
  obtain ⟨T', h', X', e', W, st⟩ := stI X hx hZ eT A (j := j) (by rw [S]; exact hin) hg hs hd
  exact ⟨T', h', X', e', W, F.set W, st⟩
theorem ownBastore (F : ownAI Z h a .byte n gi) (X : Stand p l e R s m args below meth c T locs cells slots) (hx : p.tables.exec = Jvm.exec) (hZ : Z.Warmed39 s.vm) (eT : T.heap = h) {j x : Int32} (hin : ownIn j n) {g : JFrame} (hg : g.method = m) {rest : List Value} (hs : g.stack = .int x :: .int j :: .ref a :: rest) (hd : decode c.code g.pc = .ok (.bastore, 1)) :
    ∃ T' h', Stand p l e R s m args below meth c T' (locs ++ [⟨a, j.toNatClampNeg⟩]) cells slots ∧ T'.heap = h' ∧ Wr h h' a j.toNatClampNeg (.int (nar .byte x)) ∧ ownAI Z h' a .byte n (ownUpd gi j.toNatClampNeg (nar .byte x)) ∧ ∀ target, Steps p.tables e below (T'.setTop { g with pc := g.pc + 1, stack := rest }) target → Steps p.tables e below (T.setTop g) target := by
  obtain ⟨cl, A, S, r⟩ := id F
  obtain ⟨T', h', X', e', W, st⟩ := stB X hx hZ eT A (j := j) (by rw [S]; exact hin) hg hs hd
  exact ⟨T', h', X', e', W, F.set W, st⟩
theorem ownCastore (F : ownAI Z h a .char n gi) (X : Stand p l e R s m args below meth c T locs cells slots) (hx : p.tables.exec = Jvm.exec) (hZ : Z.Warmed39 s.vm) (eT : T.heap = h) {j x : Int32} (hin : ownIn j n) {g : JFrame} (hg : g.method = m) {rest : List Value} (hs : g.stack = .int x :: .int j :: .ref a :: rest) (hd : decode c.code g.pc = .ok (.castore, 1)) :
    ∃ T' h', Stand p l e R s m args below meth c T' (locs ++ [⟨a, j.toNatClampNeg⟩]) cells slots ∧ T'.heap = h' ∧ Wr h h' a j.toNatClampNeg (.int (nar .char x)) ∧ ownAI Z h' a .char n (ownUpd gi j.toNatClampNeg (nar .char x)) ∧ ∀ target, Steps p.tables e below (T'.setTop { g with pc := g.pc + 1, stack := rest }) target → Steps p.tables e below (T.setTop g) target := by
  obtain ⟨cl, A, S, r⟩ := id F
  obtain ⟨T', h', X', e', W, st⟩ := stC X hx hZ eT A (j := j) (by rw [S]; exact hin) hg hs hd
  exact ⟨T', h', X', e', W, F.set W, st⟩
theorem ownLastore (F : ownAJ Z h a n gj) (X : Stand p l e R s m args below meth c T locs cells slots) (hx : p.tables.exec = Jvm.exec) (hZ : Z.Warmed39 s.vm) (eT : T.heap = h) {j : Int32} {x : Int64} (hin : ownIn j n) {g : JFrame} (hg : g.method = m) {rest : List Value} (hs : g.stack = .long x :: .int j :: .ref a :: rest) (hd : decode c.code g.pc = .ok (.lastore, 1)) :
    ∃ T' h', Stand p l e R s m args below meth c T' (locs ++ [⟨a, j.toNatClampNeg⟩]) cells slots ∧ T'.heap = h' ∧ Wr h h' a j.toNatClampNeg (.long x) ∧ ownAJ Z h' a n (ownUpd gj j.toNatClampNeg x) ∧ ∀ target, Steps p.tables e below (T'.setTop { g with pc := g.pc + 1, stack := rest }) target → Steps p.tables e below (T.setTop g) target := by
  obtain ⟨cl, A, S, r⟩ := id F
  obtain ⟨T', h', X', e', W, st⟩ := stJ X hx hZ eT A (j := j) (by rw [S]; exact hin) hg hs hd
  exact ⟨T', h', X', e', W, F.set W, st⟩
theorem own_narb {x v : Int32} (h : x.toInt8.toInt32 = v) : nar .byte v = v := by subst h; simp [nar]
theorem own_narc {x v : Int32} (h : x.toUInt32.toUInt16.toUInt32.toInt32 = v) : nar .char v = v := by subst h; simp only [nar, UInt32.toUInt32_toInt32, UInt16.toUInt16_toUInt32]
theorem own_evInt {args : Array Value} {t : Term} {k : Int32} (h : (Cond.eq t (.int k)).value args s none s [] = some true) : t.eval args s none [] s = some (.int k) := by
  simp only [Cond.value, Term.eval] at h
  cases ht : t.eval args s none [] s with
  | none => simp [ht] at h
  | some x => cases x <;> simp [ht] at h ⊢; exact h
theorem own_fldInt {args : Array Value} {t : Term} {C n d : String} {k : Int32} {x : Addr} (h : (Cond.eq (.field t C n d) (.int k)).value args s none s [] = some true) (ht : t.eval args s none [] s = some (.ref x)) : Fld s s.heap x C n d (.int k) :=
  Fld.start ((fld_at ht).symm.trans (own_evInt h))
end OwnWalk
section OwnSteps
variable {p : Program} {l : Launch} {e : Env} {R : Room} {s : State} {m : MethodId} {args : Array Value} {below : List Frame} {meth : Method} {c : Code} {T : State} {locs : List Loc} {cells slots : Nat} {Q : Option Value → Heap → List Loc → Prop} {ck sk : Nat}
theorem ow_iloadN (X : Stand p l e R s m args below meth c T locs cells slots) (hx : p.tables.exec = Jvm.exec) {pc q : Nat} {Ls : Array Slot} {S : List Value} {k : Fin 4} {v : Int32} (hd : decode c.code pc = .ok (.iload_n k, 1)) (hq : pc + 1 = q) (hl : Ls[k.val]? = some (.val (.int v))) (k : ownEnds p e below s Q ck sk T (mkF m q Ls (.int v :: S))) : ownEnds p e below s Q ck sk T (mkF m pc Ls S) := by
  subst hq
  exact ownGo (fun _ k => XS.iloadN X.here hx rfl hd hl k) k
theorem ow_iload (X : Stand p l e R s m args below meth c T locs cells slots) (hx : p.tables.exec = Jvm.exec) {pc q : Nat} {Ls : Array Slot} {S : List Value} {k : Nat} {v : Int32} (hd : decode c.code pc = .ok (.iload k, 2)) (hq : pc + 2 = q) (hl : Ls[k]? = some (.val (.int v))) (k : ownEnds p e below s Q ck sk T (mkF m q Ls (.int v :: S))) : ownEnds p e below s Q ck sk T (mkF m pc Ls S) := by
  subst hq
  exact ownGo (fun _ k => XS.iload X.here hx rfl hd hl k) k
theorem ow_istoreN (X : Stand p l e R s m args below meth c T locs cells slots) (hx : p.tables.exec = Jvm.exec) {pc q : Nat} {Ls : Array Slot} {S : List Value} {k : Fin 4} {v : Int32} {L' : Array Slot} (hd : decode c.code pc = .ok (.istore_n k, 1)) (hq : pc + 1 = q) (hl : storeLocals Ls k.val (.int v) = some L') (k : ownEnds p e below s Q ck sk T (mkF m q L' S)) : ownEnds p e below s Q ck sk T (mkF m pc Ls (.int v :: S)) := by
  subst hq
  exact ownGo (fun _ k => XS.istoreN X.here hx rfl hd rfl hl k) k
theorem ow_istore (X : Stand p l e R s m args below meth c T locs cells slots) (hx : p.tables.exec = Jvm.exec) {pc q : Nat} {Ls : Array Slot} {S : List Value} {k : Nat} {v : Int32} {L' : Array Slot} (hd : decode c.code pc = .ok (.istore k, 2)) (hq : pc + 2 = q) (hl : storeLocals Ls k (.int v) = some L') (k : ownEnds p e below s Q ck sk T (mkF m q L' S)) : ownEnds p e below s Q ck sk T (mkF m pc Ls (.int v :: S)) := by
  subst hq
  exact ownGo (fun _ k => XS.istore X.here hx rfl hd rfl hl k) k
theorem ow_lloadN (X : Stand p l e R s m args below meth c T locs cells slots) (hx : p.tables.exec = Jvm.exec) {pc q : Nat} {Ls : Array Slot} {S : List Value} {k : Fin 4} {v : Int64} (hd : decode c.code pc = .ok (.lload_n k, 1)) (hq : pc + 1 = q) (hl : Ls[k.val]? = some (.val (.long v))) (k : ownEnds p e below s Q ck sk T (mkF m q Ls (.long v :: S))) : ownEnds p e below s Q ck sk T (mkF m pc Ls S) := by
  subst hq
  exact ownGo (fun _ k => XS.lloadN X.here hx rfl hd hl k) k
theorem ow_lload (X : Stand p l e R s m args below meth c T locs cells slots) (hx : p.tables.exec = Jvm.exec) {pc q : Nat} {Ls : Array Slot} {S : List Value} {k : Nat} {v : Int64} (hd : decode c.code pc = .ok (.lload k, 2)) (hq : pc + 2 = q) (hl : Ls[k]? = some (.val (.long v))) (k : ownEnds p e below s Q ck sk T (mkF m q Ls (.long v :: S))) : ownEnds p e below s Q ck sk T (mkF m pc Ls S) := by
  subst hq
  exact ownGo (fun _ k => XS.lload X.here hx rfl hd hl k) k
theorem ow_lstoreN (X : Stand p l e R s m args below meth c T locs cells slots) (hx : p.tables.exec = Jvm.exec) {pc q : Nat} {Ls : Array Slot} {S : List Value} {k : Fin 4} {v : Int64} {L' : Array Slot} (hd : decode c.code pc = .ok (.lstore_n k, 1)) (hq : pc + 1 = q) (hl : storeLocals Ls k.val (.long v) = some L') (k : ownEnds p e below s Q ck sk T (mkF m q L' S)) : ownEnds p e below s Q ck sk T (mkF m pc Ls (.long v :: S)) := by
  subst hq
  exact ownGo (fun _ k => XS.lstoreN X.here hx rfl hd rfl hl k) k
theorem ow_lstore (X : Stand p l e R s m args below meth c T locs cells slots) (hx : p.tables.exec = Jvm.exec) {pc q : Nat} {Ls : Array Slot} {S : List Value} {k : Nat} {v : Int64} {L' : Array Slot} (hd : decode c.code pc = .ok (.lstore k, 2)) (hq : pc + 2 = q) (hl : storeLocals Ls k (.long v) = some L') (k : ownEnds p e below s Q ck sk T (mkF m q L' S)) : ownEnds p e below s Q ck sk T (mkF m pc Ls (.long v :: S)) := by
  subst hq
  exact ownGo (fun _ k => XS.lstore X.here hx rfl hd rfl hl k) k
theorem ow_aloadN (X : Stand p l e R s m args below meth c T locs cells slots) (hx : p.tables.exec = Jvm.exec) {pc q : Nat} {Ls : Array Slot} {S : List Value} {k : Fin 4} {v : Value} (hd : decode c.code pc = .ok (.aload_n k, 1)) (hq : pc + 1 = q) (hl : Ls[k.val]? = some (.val v)) (hv : v.isRef = true) (k : ownEnds p e below s Q ck sk T (mkF m q Ls (v :: S))) : ownEnds p e below s Q ck sk T (mkF m pc Ls S) := by
  subst hq
  exact ownGo (fun _ k => XS.aloadN X.here hx rfl hd hl hv k) k
theorem ow_aload (X : Stand p l e R s m args below meth c T locs cells slots) (hx : p.tables.exec = Jvm.exec) {pc q : Nat} {Ls : Array Slot} {S : List Value} {k : Nat} {v : Value} (hd : decode c.code pc = .ok (.aload k, 2)) (hq : pc + 2 = q) (hl : Ls[k]? = some (.val v)) (hv : v.isRef = true) (k : ownEnds p e below s Q ck sk T (mkF m q Ls (v :: S))) : ownEnds p e below s Q ck sk T (mkF m pc Ls S) := by
  subst hq
  exact ownGo (fun _ k => XS.aload X.here hx rfl hd hl hv k) k
theorem ow_astoreN (X : Stand p l e R s m args below meth c T locs cells slots) (hx : p.tables.exec = Jvm.exec) {pc q : Nat} {Ls : Array Slot} {S : List Value} {k : Fin 4} {v : Value} {L' : Array Slot} (hd : decode c.code pc = .ok (.astore_n k, 1)) (hq : pc + 1 = q) (hv : v.isRef = true) (hl : storeLocals Ls k.val v = some L') (k : ownEnds p e below s Q ck sk T (mkF m q L' S)) : ownEnds p e below s Q ck sk T (mkF m pc Ls (v :: S)) := by
  subst hq
  exact ownGo (fun _ k => XS.astoreN X.here hx rfl hd rfl hv hl k) k
theorem ow_astore (X : Stand p l e R s m args below meth c T locs cells slots) (hx : p.tables.exec = Jvm.exec) {pc q : Nat} {Ls : Array Slot} {S : List Value} {k : Nat} {v : Value} {L' : Array Slot} (hd : decode c.code pc = .ok (.astore k, 2)) (hq : pc + 2 = q) (hv : v.isRef = true) (hl : storeLocals Ls k v = some L') (k : ownEnds p e below s Q ck sk T (mkF m q L' S)) : ownEnds p e below s Q ck sk T (mkF m pc Ls (v :: S)) := by
  subst hq
  exact ownGo (fun _ k => XS.astore X.here hx rfl hd rfl hv hl k) k
theorem ow_iconst (X : Stand p l e R s m args below meth c T locs cells slots) (hx : p.tables.exec = Jvm.exec) {pc q : Nat} {Ls : Array Slot} {S : List Value} {i : Int} (v : Int32) (hd : decode c.code pc = .ok (.iconst i, 1)) (hq : pc + 1 = q) (hz : Int32.ofInt i = v) (k : ownEnds p e below s Q ck sk T (mkF m q Ls (.int v :: S))) : ownEnds p e below s Q ck sk T (mkF m pc Ls S) := by
  subst hq hz
  exact ownGo (fun _ k => XS.iconst X.here hx rfl hd k) k
theorem ow_bipush (X : Stand p l e R s m args below meth c T locs cells slots) (hx : p.tables.exec = Jvm.exec) {pc q : Nat} {Ls : Array Slot} {S : List Value} {i : Int} (v : Int32) (hd : decode c.code pc = .ok (.bipush i, 2)) (hq : pc + 2 = q) (hz : (Int8.ofInt i).toInt32 = v) (k : ownEnds p e below s Q ck sk T (mkF m q Ls (.int v :: S))) : ownEnds p e below s Q ck sk T (mkF m pc Ls S) := by
  subst hq hz
  exact ownGo (fun _ k => XS.bipush X.here hx rfl hd k) k
theorem ow_sipush (X : Stand p l e R s m args below meth c T locs cells slots) (hx : p.tables.exec = Jvm.exec) {pc q : Nat} {Ls : Array Slot} {S : List Value} {i : Int} (v : Int32) (hd : decode c.code pc = .ok (.sipush i, 3)) (hq : pc + 3 = q) (hz : (Int16.ofInt i).toInt32 = v) (k : ownEnds p e below s Q ck sk T (mkF m q Ls (.int v :: S))) : ownEnds p e below s Q ck sk T (mkF m pc Ls S) := by
  subst hq hz
  exact ownGo (fun _ k => XS.sipush X.here hx rfl hd k) k
theorem ow_lconst (X : Stand p l e R s m args below meth c T locs cells slots) (hx : p.tables.exec = Jvm.exec) {pc q : Nat} {Ls : Array Slot} {S : List Value} {i : Fin 2} (v : Int64) (hd : decode c.code pc = .ok (.lconst i, 1)) (hq : pc + 1 = q) (hz : Int64.ofNat i = v) (k : ownEnds p e below s Q ck sk T (mkF m q Ls (.long v :: S))) : ownEnds p e below s Q ck sk T (mkF m pc Ls S) := by
  subst hq hz
  exact ownGo (fun _ k => XS.lconst X.here hx rfl hd k) k
theorem ow_iadd (X : Stand p l e R s m args below meth c T locs cells slots) (hx : p.tables.exec = Jvm.exec) {pc q : Nat} {Ls : Array Slot} {S : List Value} {x y : Int32} (z : Int32) (hd : decode c.code pc = .ok (.iadd, 1)) (hq : pc + 1 = q) (hz : x + y = z) (k : ownEnds p e below s Q ck sk T (mkF m q Ls (.int z :: S))) : ownEnds p e below s Q ck sk T (mkF m pc Ls (.int y :: .int x :: S)) := by
  subst hq hz
  exact ownGo (fun _ k => XS.iadd X.here hx rfl hd rfl k) k
theorem ow_ladd (X : Stand p l e R s m args below meth c T locs cells slots) (hx : p.tables.exec = Jvm.exec) {pc q : Nat} {Ls : Array Slot} {S : List Value} {x y : Int64} (z : Int64) (hd : decode c.code pc = .ok (.ladd, 1)) (hq : pc + 1 = q) (hz : x + y = z) (k : ownEnds p e below s Q ck sk T (mkF m q Ls (.long z :: S))) : ownEnds p e below s Q ck sk T (mkF m pc Ls (.long y :: .long x :: S)) := by
  subst hq hz
  exact ownGo (fun _ k => XS.ladd X.here hx rfl hd rfl k) k
theorem ow_isub (X : Stand p l e R s m args below meth c T locs cells slots) (hx : p.tables.exec = Jvm.exec) {pc q : Nat} {Ls : Array Slot} {S : List Value} {x y : Int32} (z : Int32) (hd : decode c.code pc = .ok (.isub, 1)) (hq : pc + 1 = q) (hz : x - y = z) (k : ownEnds p e below s Q ck sk T (mkF m q Ls (.int z :: S))) : ownEnds p e below s Q ck sk T (mkF m pc Ls (.int y :: .int x :: S)) := by
  subst hq hz
  exact ownGo (fun _ k => XS.isub X.here hx rfl hd rfl k) k
theorem ow_lsub (X : Stand p l e R s m args below meth c T locs cells slots) (hx : p.tables.exec = Jvm.exec) {pc q : Nat} {Ls : Array Slot} {S : List Value} {x y : Int64} (z : Int64) (hd : decode c.code pc = .ok (.lsub, 1)) (hq : pc + 1 = q) (hz : x - y = z) (k : ownEnds p e below s Q ck sk T (mkF m q Ls (.long z :: S))) : ownEnds p e below s Q ck sk T (mkF m pc Ls (.long y :: .long x :: S)) := by
  subst hq hz
  exact ownGo (fun _ k => XS.lsub X.here hx rfl hd rfl k) k
theorem ow_imul (X : Stand p l e R s m args below meth c T locs cells slots) (hx : p.tables.exec = Jvm.exec) {pc q : Nat} {Ls : Array Slot} {S : List Value} {x y : Int32} (z : Int32) (hd : decode c.code pc = .ok (.imul, 1)) (hq : pc + 1 = q) (hz : x * y = z) (k : ownEnds p e below s Q ck sk T (mkF m q Ls (.int z :: S))) : ownEnds p e below s Q ck sk T (mkF m pc Ls (.int y :: .int x :: S)) := by
  subst hq hz
  exact ownGo (fun _ k => XS.imul X.here hx rfl hd rfl k) k
theorem ow_lmul (X : Stand p l e R s m args below meth c T locs cells slots) (hx : p.tables.exec = Jvm.exec) {pc q : Nat} {Ls : Array Slot} {S : List Value} {x y : Int64} (z : Int64) (hd : decode c.code pc = .ok (.lmul, 1)) (hq : pc + 1 = q) (hz : x * y = z) (k : ownEnds p e below s Q ck sk T (mkF m q Ls (.long z :: S))) : ownEnds p e below s Q ck sk T (mkF m pc Ls (.long y :: .long x :: S)) := by
  subst hq hz
  exact ownGo (fun _ k => XS.lmul X.here hx rfl hd rfl k) k
theorem ow_iand (X : Stand p l e R s m args below meth c T locs cells slots) (hx : p.tables.exec = Jvm.exec) {pc q : Nat} {Ls : Array Slot} {S : List Value} {x y : Int32} (z : Int32) (hd : decode c.code pc = .ok (.iand, 1)) (hq : pc + 1 = q) (hz : x &&& y = z) (k : ownEnds p e below s Q ck sk T (mkF m q Ls (.int z :: S))) : ownEnds p e below s Q ck sk T (mkF m pc Ls (.int y :: .int x :: S)) := by
  subst hq hz
  exact ownGo (fun _ k => XS.iand X.here hx rfl hd rfl k) k
theorem ow_land (X : Stand p l e R s m args below meth c T locs cells slots) (hx : p.tables.exec = Jvm.exec) {pc q : Nat} {Ls : Array Slot} {S : List Value} {x y : Int64} (z : Int64) (hd : decode c.code pc = .ok (.land, 1)) (hq : pc + 1 = q) (hz : x &&& y = z) (k : ownEnds p e below s Q ck sk T (mkF m q Ls (.long z :: S))) : ownEnds p e below s Q ck sk T (mkF m pc Ls (.long y :: .long x :: S)) := by
  subst hq hz
  exact ownGo (fun _ k => XS.land X.here hx rfl hd rfl k) k
theorem ow_ior (X : Stand p l e R s m args below meth c T locs cells slots) (hx : p.tables.exec = Jvm.exec) {pc q : Nat} {Ls : Array Slot} {S : List Value} {x y : Int32} (z : Int32) (hd : decode c.code pc = .ok (.ior, 1)) (hq : pc + 1 = q) (hz : x ||| y = z) (k : ownEnds p e below s Q ck sk T (mkF m q Ls (.int z :: S))) : ownEnds p e below s Q ck sk T (mkF m pc Ls (.int y :: .int x :: S)) := by
  subst hq hz
  exact ownGo (fun _ k => XS.ior X.here hx rfl hd rfl k) k
theorem ow_lor (X : Stand p l e R s m args below meth c T locs cells slots) (hx : p.tables.exec = Jvm.exec) {pc q : Nat} {Ls : Array Slot} {S : List Value} {x y : Int64} (z : Int64) (hd : decode c.code pc = .ok (.lor, 1)) (hq : pc + 1 = q) (hz : x ||| y = z) (k : ownEnds p e below s Q ck sk T (mkF m q Ls (.long z :: S))) : ownEnds p e below s Q ck sk T (mkF m pc Ls (.long y :: .long x :: S)) := by
  subst hq hz
  exact ownGo (fun _ k => XS.lor X.here hx rfl hd rfl k) k
theorem ow_ixor (X : Stand p l e R s m args below meth c T locs cells slots) (hx : p.tables.exec = Jvm.exec) {pc q : Nat} {Ls : Array Slot} {S : List Value} {x y : Int32} (z : Int32) (hd : decode c.code pc = .ok (.ixor, 1)) (hq : pc + 1 = q) (hz : x ^^^ y = z) (k : ownEnds p e below s Q ck sk T (mkF m q Ls (.int z :: S))) : ownEnds p e below s Q ck sk T (mkF m pc Ls (.int y :: .int x :: S)) := by
  subst hq hz
  exact ownGo (fun _ k => XS.ixor X.here hx rfl hd rfl k) k
theorem ow_lxor (X : Stand p l e R s m args below meth c T locs cells slots) (hx : p.tables.exec = Jvm.exec) {pc q : Nat} {Ls : Array Slot} {S : List Value} {x y : Int64} (z : Int64) (hd : decode c.code pc = .ok (.lxor, 1)) (hq : pc + 1 = q) (hz : x ^^^ y = z) (k : ownEnds p e below s Q ck sk T (mkF m q Ls (.long z :: S))) : ownEnds p e below s Q ck sk T (mkF m pc Ls (.long y :: .long x :: S)) := by
  subst hq hz
  exact ownGo (fun _ k => XS.lxor X.here hx rfl hd rfl k) k
theorem ow_ishl (X : Stand p l e R s m args below meth c T locs cells slots) (hx : p.tables.exec = Jvm.exec) {pc q : Nat} {Ls : Array Slot} {S : List Value} {x y : Int32} (z : Int32) (hd : decode c.code pc = .ok (.ishl, 1)) (hq : pc + 1 = q) (hz : x <<< (y &&& 31) = z) (k : ownEnds p e below s Q ck sk T (mkF m q Ls (.int z :: S))) : ownEnds p e below s Q ck sk T (mkF m pc Ls (.int y :: .int x :: S)) := by
  subst hq hz
  exact ownGo (fun _ k => XS.ishl X.here hx rfl hd rfl k) k
theorem ow_ishr (X : Stand p l e R s m args below meth c T locs cells slots) (hx : p.tables.exec = Jvm.exec) {pc q : Nat} {Ls : Array Slot} {S : List Value} {x y : Int32} (z : Int32) (hd : decode c.code pc = .ok (.ishr, 1)) (hq : pc + 1 = q) (hz : x >>> (y &&& 31) = z) (k : ownEnds p e below s Q ck sk T (mkF m q Ls (.int z :: S))) : ownEnds p e below s Q ck sk T (mkF m pc Ls (.int y :: .int x :: S)) := by
  subst hq hz
  exact ownGo (fun _ k => XS.ishr X.here hx rfl hd rfl k) k
theorem ow_iushr (X : Stand p l e R s m args below meth c T locs cells slots) (hx : p.tables.exec = Jvm.exec) {pc q : Nat} {Ls : Array Slot} {S : List Value} {x y : Int32} (z : Int32) (hd : decode c.code pc = .ok (.iushr, 1)) (hq : pc + 1 = q) (hz : (x.toUInt32 >>> (y &&& 31).toUInt32).toInt32 = z) (k : ownEnds p e below s Q ck sk T (mkF m q Ls (.int z :: S))) : ownEnds p e below s Q ck sk T (mkF m pc Ls (.int y :: .int x :: S)) := by
  subst hq hz
  exact ownGo (fun _ k => XS.iushr X.here hx rfl hd rfl k) k
theorem ow_lshl (X : Stand p l e R s m args below meth c T locs cells slots) (hx : p.tables.exec = Jvm.exec) {pc q : Nat} {Ls : Array Slot} {S : List Value} {x : Int64} {y : Int32} (z : Int64) (hd : decode c.code pc = .ok (.lshl, 1)) (hq : pc + 1 = q) (hz : x <<< (y &&& 0x3f).toInt64 = z) (k : ownEnds p e below s Q ck sk T (mkF m q Ls (.long z :: S))) : ownEnds p e below s Q ck sk T (mkF m pc Ls (.int y :: .long x :: S)) := by
  subst hq hz
  exact ownGo (fun _ k => XS.lshl X.here hx rfl hd rfl k) k
theorem ow_lshr (X : Stand p l e R s m args below meth c T locs cells slots) (hx : p.tables.exec = Jvm.exec) {pc q : Nat} {Ls : Array Slot} {S : List Value} {x : Int64} {y : Int32} (z : Int64) (hd : decode c.code pc = .ok (.lshr, 1)) (hq : pc + 1 = q) (hz : x >>> (y &&& 0x3f).toInt64 = z) (k : ownEnds p e below s Q ck sk T (mkF m q Ls (.long z :: S))) : ownEnds p e below s Q ck sk T (mkF m pc Ls (.int y :: .long x :: S)) := by
  subst hq hz
  exact ownGo (fun _ k => XS.lshr X.here hx rfl hd rfl k) k
theorem ow_lushr (X : Stand p l e R s m args below meth c T locs cells slots) (hx : p.tables.exec = Jvm.exec) {pc q : Nat} {Ls : Array Slot} {S : List Value} {x : Int64} {y : Int32} (z : Int64) (hd : decode c.code pc = .ok (.lushr, 1)) (hq : pc + 1 = q) (hz : (x.toUInt64 >>> (y &&& 0x3f).toInt64.toUInt64).toInt64 = z) (k : ownEnds p e below s Q ck sk T (mkF m q Ls (.long z :: S))) : ownEnds p e below s Q ck sk T (mkF m pc Ls (.int y :: .long x :: S)) := by
  subst hq hz
  exact ownGo (fun _ k => XS.lushr X.here hx rfl hd rfl k) k
theorem ow_ineg (X : Stand p l e R s m args below meth c T locs cells slots) (hx : p.tables.exec = Jvm.exec) {pc q : Nat} {Ls : Array Slot} {S : List Value} {x : Int32} (z : Int32) (hd : decode c.code pc = .ok (.ineg, 1)) (hq : pc + 1 = q) (hz : -x = z) (k : ownEnds p e below s Q ck sk T (mkF m q Ls (.int z :: S))) : ownEnds p e below s Q ck sk T (mkF m pc Ls (.int x :: S)) := by
  subst hq hz
  exact ownGo (fun _ k => XS.ineg X.here hx rfl hd rfl k) k
theorem ow_lneg (X : Stand p l e R s m args below meth c T locs cells slots) (hx : p.tables.exec = Jvm.exec) {pc q : Nat} {Ls : Array Slot} {S : List Value} {x : Int64} (z : Int64) (hd : decode c.code pc = .ok (.lneg, 1)) (hq : pc + 1 = q) (hz : -x = z) (k : ownEnds p e below s Q ck sk T (mkF m q Ls (.long z :: S))) : ownEnds p e below s Q ck sk T (mkF m pc Ls (.long x :: S)) := by
  subst hq hz
  exact ownGo (fun _ k => XS.lneg X.here hx rfl hd rfl k) k
theorem ow_i2l (X : Stand p l e R s m args below meth c T locs cells slots) (hx : p.tables.exec = Jvm.exec) {pc q : Nat} {Ls : Array Slot} {S : List Value} {x : Int32} (z : Int64) (hd : decode c.code pc = .ok (.i2l, 1)) (hq : pc + 1 = q) (hz : x.toInt64 = z) (k : ownEnds p e below s Q ck sk T (mkF m q Ls (.long z :: S))) : ownEnds p e below s Q ck sk T (mkF m pc Ls (.int x :: S)) := by
  subst hq hz
  exact ownGo (fun _ k => XS.i2l X.here hx rfl hd rfl k) k
theorem ow_l2i (X : Stand p l e R s m args below meth c T locs cells slots) (hx : p.tables.exec = Jvm.exec) {pc q : Nat} {Ls : Array Slot} {S : List Value} {x : Int64} (z : Int32) (hd : decode c.code pc = .ok (.l2i, 1)) (hq : pc + 1 = q) (hz : x.toInt32 = z) (k : ownEnds p e below s Q ck sk T (mkF m q Ls (.int z :: S))) : ownEnds p e below s Q ck sk T (mkF m pc Ls (.long x :: S)) := by
  subst hq hz
  exact ownGo (fun _ k => XS.l2i X.here hx rfl hd rfl k) k
theorem ow_i2b (X : Stand p l e R s m args below meth c T locs cells slots) (hx : p.tables.exec = Jvm.exec) {pc q : Nat} {Ls : Array Slot} {S : List Value} {x : Int32} (z : Int32) (hd : decode c.code pc = .ok (.i2b, 1)) (hq : pc + 1 = q) (hz : x.toInt8.toInt32 = z) (k : ownEnds p e below s Q ck sk T (mkF m q Ls (.int z :: S))) : ownEnds p e below s Q ck sk T (mkF m pc Ls (.int x :: S)) := by
  subst hq hz
  exact ownGo (fun _ k => XS.i2b X.here hx rfl hd rfl k) k
theorem ow_i2s (X : Stand p l e R s m args below meth c T locs cells slots) (hx : p.tables.exec = Jvm.exec) {pc q : Nat} {Ls : Array Slot} {S : List Value} {x : Int32} (z : Int32) (hd : decode c.code pc = .ok (.i2s, 1)) (hq : pc + 1 = q) (hz : x.toInt16.toInt32 = z) (k : ownEnds p e below s Q ck sk T (mkF m q Ls (.int z :: S))) : ownEnds p e below s Q ck sk T (mkF m pc Ls (.int x :: S)) := by
  subst hq hz
  exact ownGo (fun _ k => XS.i2s X.here hx rfl hd rfl k) k
theorem ow_i2c (X : Stand p l e R s m args below meth c T locs cells slots) (hx : p.tables.exec = Jvm.exec) {pc q : Nat} {Ls : Array Slot} {S : List Value} {x : Int32} (z : Int32) (hd : decode c.code pc = .ok (.i2c, 1)) (hq : pc + 1 = q) (hz : x.toUInt32.toUInt16.toUInt32.toInt32 = z) (k : ownEnds p e below s Q ck sk T (mkF m q Ls (.int z :: S))) : ownEnds p e below s Q ck sk T (mkF m pc Ls (.int x :: S)) := by
  subst hq hz
  exact ownGo (fun _ k => XS.i2c X.here hx rfl hd rfl k) k
theorem ow_lcmp (X : Stand p l e R s m args below meth c T locs cells slots) (hx : p.tables.exec = Jvm.exec) {pc q : Nat} {Ls : Array Slot} {S : List Value} {x y : Int64} (z : Int32) (hd : decode c.code pc = .ok (.lcmp, 1)) (hq : pc + 1 = q) (hz : Jvm.Free.XT.cmpL x y = z) (k : ownEnds p e below s Q ck sk T (mkF m q Ls (.int z :: S))) : ownEnds p e below s Q ck sk T (mkF m pc Ls (.long y :: .long x :: S)) := by
  subst hq hz
  exact ownGo (fun _ k => Jvm.Free.XT.lcmp X.here hx rfl hd rfl k) k
theorem ow_idiv (X : Stand p l e R s m args below meth c T locs cells slots) (hx : p.tables.exec = Jvm.exec) {pc q : Nat} {Ls : Array Slot} {S : List Value} {x y : Int32} (z : Int32) (hd : decode c.code pc = .ok (.idiv, 1)) (hq : pc + 1 = q) (hy : y ≠ 0) (hz : x / y = z) (k : ownEnds p e below s Q ck sk T (mkF m q Ls (.int z :: S))) : ownEnds p e below s Q ck sk T (mkF m pc Ls (.int y :: .int x :: S)) := by
  subst hq hz
  exact ownGo (fun _ k => XS.idiv X.here hx rfl hd rfl hy k) k
theorem ow_irem (X : Stand p l e R s m args below meth c T locs cells slots) (hx : p.tables.exec = Jvm.exec) {pc q : Nat} {Ls : Array Slot} {S : List Value} {x y : Int32} (z : Int32) (hd : decode c.code pc = .ok (.irem, 1)) (hq : pc + 1 = q) (hy : y ≠ 0) (hz : x % y = z) (k : ownEnds p e below s Q ck sk T (mkF m q Ls (.int z :: S))) : ownEnds p e below s Q ck sk T (mkF m pc Ls (.int y :: .int x :: S)) := by
  subst hq hz
  exact ownGo (fun _ k => iremM X hx rfl hd rfl hy k) k
theorem ow_ldiv (X : Stand p l e R s m args below meth c T locs cells slots) (hx : p.tables.exec = Jvm.exec) {pc q : Nat} {Ls : Array Slot} {S : List Value} {x y : Int64} (z : Int64) (hd : decode c.code pc = .ok (.ldiv, 1)) (hq : pc + 1 = q) (hy : y ≠ 0) (hz : x / y = z) (k : ownEnds p e below s Q ck sk T (mkF m q Ls (.long z :: S))) : ownEnds p e below s Q ck sk T (mkF m pc Ls (.long y :: .long x :: S)) := by
  subst hq hz
  exact ownGo (fun _ k => XS.ldiv X.here hx rfl hd rfl hy k) k
theorem ow_lrem (X : Stand p l e R s m args below meth c T locs cells slots) (hx : p.tables.exec = Jvm.exec) {pc q : Nat} {Ls : Array Slot} {S : List Value} {x y : Int64} (z : Int64) (hd : decode c.code pc = .ok (.lrem, 1)) (hq : pc + 1 = q) (hy : y ≠ 0) (hz : x - (x / y) * y = z) (k : ownEnds p e below s Q ck sk T (mkF m q Ls (.long z :: S))) : ownEnds p e below s Q ck sk T (mkF m pc Ls (.long y :: .long x :: S)) := by
  subst hq hz
  exact ownGo (fun _ k => XS.lrem X.here hx rfl hd rfl hy k) k
theorem ow_iinc (X : Stand p l e R s m args below meth c T locs cells slots) (hx : p.tables.exec = Jvm.exec) {pc q : Nat} {Ls : Array Slot} {S : List Value} {k : Nat} {i : Int} {x : Int32} {L' : Array Slot} (hd : decode c.code pc = .ok (.iinc k i, 3)) (hq : pc + 3 = q) (hl : Ls[k]? = some (.val (.int x))) (hl' : storeLocals Ls k (.int (x + Int32.ofInt i)) = some L') (k : ownEnds p e below s Q ck sk T (mkF m q L' S)) : ownEnds p e below s Q ck sk T (mkF m pc Ls S) := by
  subst hq
  exact ownGo (fun _ k => XS.iinc X.here hx rfl hd hl hl' k) k
theorem ow_dup (X : Stand p l e R s m args below meth c T locs cells slots) (hx : p.tables.exec = Jvm.exec) {pc q : Nat} {Ls : Array Slot} {S : List Value} {v : Value} (hd : decode c.code pc = .ok (.dup, 1)) (hq : pc + 1 = q) (hc : v.category = 1) (k : ownEnds p e below s Q ck sk T (mkF m q Ls (v :: v :: S))) : ownEnds p e below s Q ck sk T (mkF m pc Ls (v :: S)) := by
  subst hq
  exact ownGo (fun _ k => XS.dup X.here hx rfl hd rfl hc k) k
theorem ow_dupX1 (X : Stand p l e R s m args below meth c T locs cells slots) (hx : p.tables.exec = Jvm.exec) {pc q : Nat} {Ls : Array Slot} {S : List Value} {v w : Value} (hd : decode c.code pc = .ok (.dup_x1, 1)) (hq : pc + 1 = q) (hc : v.category = 1) (hc' : w.category = 1) (k : ownEnds p e below s Q ck sk T (mkF m q Ls (v :: w :: v :: S))) : ownEnds p e below s Q ck sk T (mkF m pc Ls (v :: w :: S)) := by
  subst hq
  exact ownGo (fun _ k => XS.dupX1 X.here hx rfl hd rfl hc hc' k) k
theorem ow_dup2 (X : Stand p l e R s m args below meth c T locs cells slots) (hx : p.tables.exec = Jvm.exec) {pc q : Nat} {Ls : Array Slot} {S : List Value} {v w : Value} (hd : decode c.code pc = .ok (.dup2, 1)) (hq : pc + 1 = q) (hc : v.category = 1) (hc' : w.category = 1) (k : ownEnds p e below s Q ck sk T (mkF m q Ls (v :: w :: v :: w :: S))) : ownEnds p e below s Q ck sk T (mkF m pc Ls (v :: w :: S)) := by
  subst hq
  exact ownGo (fun _ k => Jvm.Free.XT.dup2 X.here hx rfl hd rfl hc hc' k) k
theorem ow_dup2L (X : Stand p l e R s m args below meth c T locs cells slots) (hx : p.tables.exec = Jvm.exec) {pc q : Nat} {Ls : Array Slot} {S : List Value} {v : Int64} (hd : decode c.code pc = .ok (.dup2, 1)) (hq : pc + 1 = q) (k : ownEnds p e below s Q ck sk T (mkF m q Ls (.long v :: .long v :: S))) : ownEnds p e below s Q ck sk T (mkF m pc Ls (.long v :: S)) := by
  subst hq
  exact ownGo (fun _ k => Jvm.Free.XT.dup2L X.here hx rfl hd rfl k) k
theorem ow_pop (X : Stand p l e R s m args below meth c T locs cells slots) (hx : p.tables.exec = Jvm.exec) {pc q : Nat} {Ls : Array Slot} {S : List Value} {v : Value} (hd : decode c.code pc = .ok (.pop, 1)) (hq : pc + 1 = q) (hc : v.category = 1) (k : ownEnds p e below s Q ck sk T (mkF m q Ls S)) : ownEnds p e below s Q ck sk T (mkF m pc Ls (v :: S)) := by
  subst hq
  exact ownGo (fun _ k => XS.pop X.here hx rfl hd rfl hc k) k
theorem ow_aconstNull (X : Stand p l e R s m args below meth c T locs cells slots) (hx : p.tables.exec = Jvm.exec) {pc q : Nat} {Ls : Array Slot} {S : List Value}  (hd : decode c.code pc = .ok (.aconst_null, 1)) (hq : pc + 1 = q) (k : ownEnds p e below s Q ck sk T (mkF m q Ls (.null :: S))) : ownEnds p e below s Q ck sk T (mkF m pc Ls S) := by
  subst hq
  exact ownGo (fun _ k => XS.aconstNull X.here hx rfl hd k) k
theorem ow_goto (X : Stand p l e R s m args below meth c T locs cells slots) (hx : p.tables.exec = Jvm.exec) {pc q : Nat} {Ls : Array Slot} {S : List Value} {o : Int} (hd : decode c.code pc = .ok (.goto o, 3)) (ho : 0 ≤ (pc : Int) + o) (hp : ((pc : Int) + o).toNat = q) (k : ownEnds p e below s Q ck sk T (mkF m q Ls S)) : ownEnds p e below s Q ck sk T (mkF m pc Ls S) :=
  ownGo (fun _ k => XS.goto X.here hx rfl rfl hd ho hp k) k
theorem ow_ifYes (X : Stand p l e R s m args below meth c T locs cells slots) (hx : p.tables.exec = Jvm.exec) {pc q : Nat} {Ls : Array Slot} {S : List Value} {cd : ClassFile.Cond} {o : Int} {x : Int32} (hd : decode c.code pc = .ok (.ifCond cd o, 3)) (hc : ifCond.holds cd x = true) (ho : 0 ≤ (pc : Int) + o) (hp : ((pc : Int) + o).toNat = q) (k : ownEnds p e below s Q ck sk T (mkF m q Ls S)) : ownEnds p e below s Q ck sk T (mkF m pc Ls (.int x :: S)) :=
  ownGo (fun _ k => XS.ifYes X.here hx rfl rfl hd rfl hc ho hp k) k
theorem ow_ifNo (X : Stand p l e R s m args below meth c T locs cells slots) (hx : p.tables.exec = Jvm.exec) {pc q : Nat} {Ls : Array Slot} {S : List Value} {cd : ClassFile.Cond} {o : Int} {x : Int32} (hd : decode c.code pc = .ok (.ifCond cd o, 3)) (hq : pc + 3 = q) (hc : ifCond.holds cd x = false) (k : ownEnds p e below s Q ck sk T (mkF m q Ls S)) : ownEnds p e below s Q ck sk T (mkF m pc Ls (.int x :: S)) := by
  subst hq
  exact ownGo (fun _ k => XS.ifNo X.here hx rfl hd rfl hc k) k
theorem ow_icmpYes (X : Stand p l e R s m args below meth c T locs cells slots) (hx : p.tables.exec = Jvm.exec) {pc q : Nat} {Ls : Array Slot} {S : List Value} {cd : ClassFile.Cond} {o : Int} {x y : Int32} (hd : decode c.code pc = .ok (.if_icmp cd o, 3)) (hc : if_icmp.holds cd x y = true) (ho : 0 ≤ (pc : Int) + o) (hp : ((pc : Int) + o).toNat = q) (k : ownEnds p e below s Q ck sk T (mkF m q Ls S)) : ownEnds p e below s Q ck sk T (mkF m pc Ls (.int y :: .int x :: S)) :=
  ownGo (fun _ k => XS.icmpYes X.here hx rfl rfl hd rfl hc ho hp k) k
theorem ow_icmpNo (X : Stand p l e R s m args below meth c T locs cells slots) (hx : p.tables.exec = Jvm.exec) {pc q : Nat} {Ls : Array Slot} {S : List Value} {cd : ClassFile.Cond} {o : Int} {x y : Int32} (hd : decode c.code pc = .ok (.if_icmp cd o, 3)) (hq : pc + 3 = q) (hc : if_icmp.holds cd x y = false) (k : ownEnds p e below s Q ck sk T (mkF m q Ls S)) : ownEnds p e below s Q ck sk T (mkF m pc Ls (.int y :: .int x :: S)) := by
  subst hq
  exact ownGo (fun _ k => XS.icmpNo X.here hx rfl hd rfl hc k) k
end OwnSteps
theorem own_and3 {p v : Int32} (h : (p &&& (3 : Int32)) = v) : v = (0 : Int32) ∨ v = (1 : Int32) ∨ v = (2 : Int32) ∨ v = (3 : Int32) := by
  have h1 := Jvm.Kit.i32_mask p 3 (k := 2) (by decide) (by decide)
  rw [h] at h1
  simp only [← Int32.toInt_inj, Int32.reduceToInt]
  omega
theorem own_pn_PatternCode : plainName "com/example/vellum4/vellum4/PatternCode" = true := by first | (simp [plainName, overriddenIn]; done) | decide +kernel
theorem own_d1_0 : decode prog_15_method_1_code 0 = .ok (.aload_n 0, 1) := by decide +kernel
theorem own_d1_1 : decode prog_15_method_1_code 1 = .ok (.invokespecial 1, 3) := by decide +kernel
theorem own_d1_4 : decode prog_15_method_1_code 4 = .ok (.aload_n 0, 1) := by decide +kernel
theorem own_d1_5 : decode prog_15_method_1_code 5 = .ok (.bipush 8, 2) := by decide +kernel
theorem own_d1_7 : decode prog_15_method_1_code 7 = .ok (.newarray .int, 2) := by decide +kernel
theorem own_d1_9 : decode prog_15_method_1_code 9 = .ok (.putfield 7, 3) := by decide +kernel
theorem own_d1_12 : decode prog_15_method_1_code 12 = .ok (.aload_n 0, 1) := by decide +kernel
theorem own_d1_13 : decode prog_15_method_1_code 13 = .ok (.bipush 8, 2) := by decide +kernel
theorem own_d1_15 : decode prog_15_method_1_code 15 = .ok (.newarray .int, 2) := by decide +kernel
theorem own_d1_17 : decode prog_15_method_1_code 17 = .ok (.putfield 13, 3) := by decide +kernel
theorem own_d1_20 : decode prog_15_method_1_code 20 = .ok (.aload_n 0, 1) := by decide +kernel
theorem own_d1_21 : decode prog_15_method_1_code 21 = .ok (.bipush 8, 2) := by decide +kernel
theorem own_d1_23 : decode prog_15_method_1_code 23 = .ok (.newarray .int, 2) := by decide +kernel
theorem own_d1_25 : decode prog_15_method_1_code 25 = .ok (.putfield 16, 3) := by decide +kernel
theorem own_d1_28 : decode prog_15_method_1_code 28 = .ok (.return_, 1) := by decide +kernel
theorem own_ef1_init (m : MethodId) (a0 : Addr) : entryFrame m #[(.ref a0)] 1 = mkF m 0 #[rv a0] [] := by first | (simp [entryFrame, mkF, argsToLocals, Value.category]; done) | rfl
def Q_init (Z : State) (a0 : Addr) (h0 : Heap) (n0 : Nat) (v : Option Value) (h : Heap) (L : List Loc) : Prop := ∃ (a1 : Addr) (a2 : Addr) (a3 : Addr), v = none ∧ Fr n0 L ∧ Keep h0 h [a0] ∧ h0.size ≤ a1 ∧ h0.size ≤ a2 ∧ h0.size ≤ a3 ∧ Exa Z h a0 "com/example/vellum4/vellum4/PatternCode" ∧ Fld Z h a0 "com/example/vellum4/vellum4/PatternCode" "operation" "[I" (.ref a1) ∧ Fld Z h a0 "com/example/vellum4/vellum4/PatternCode" "arg" "[I" (.ref a2) ∧ Fld Z h a0 "com/example/vellum4/vellum4/PatternCode" "arg2" "[I" (.ref a3) ∧ Fld Z h a0 "com/example/vellum4/vellum4/PatternCode" "size" "I" (.int (0 : Int32)) ∧ ownAI Z h a1 .int 8 (fun _ => (0 : Int32)) ∧ ownAI Z h a2 .int 8 (fun _ => (0 : Int32)) ∧ ownAI Z h a3 .int 8 (fun _ => (0 : Int32)) ∧ (a1 ≠ a2 ∧ a1 ≠ a3 ∧ a2 ≠ a3)
set_option maxRecDepth 65536 in
set_option maxHeartbeats 40000000 in
theorem rm_init (l : Launch) (Z : State) (a0 : Array Value) (hw : ∀ d ∈ tables_1, d.before a0 Z = true) (ws : List Jvm.Cond) (a0 : Addr) (h0 : Heap) (n0 : Nat) (Z0 : n0 ≤ h0.size) (HF0 : Exa Z h0 a0 "com/example/vellum4/vellum4/PatternCode") (HF1 : Fld Z h0 a0 "com/example/vellum4/vellum4/PatternCode" "operation" "[I" .null) (HF2 : Fld Z h0 a0 "com/example/vellum4/vellum4/PatternCode" "arg" "[I" .null) (HF3 : Fld Z h0 a0 "com/example/vellum4/vellum4/PatternCode" "arg2" "[I" .null) (HF4 : Fld Z h0 a0 "com/example/vellum4/vellum4/PatternCode" "size" "I" (.int (0 : Int32))) (G_a0 : n0 ≤ a0) :
    MetFree l (⟨"com/example/vellum4/vellum4/PatternCode", "<init>", "()V"⟩ : MethodName) (head1 (Jvm.Cond.code (⟨"com/example/vellum4/vellum4/PatternCode", "<init>", "()V"⟩ : MethodName) prog_15_method_1_code 1 none :: ws) ({ frames := 1, cells := 3, slots := 24, locals := 12 } : Room)) (fun a U => a = #[(.ref a0)] ∧ Z.Warmed39 U.vm ∧ U.heap = h0) (fun _ _ _ _ _ => True) (fun _ U o U' => ∃ v L, o = .returned v ∧ (Q_init Z a0 h0 n0) v U'.heap L ∧ FrameEnd U o U' L ({ frames := 1, cells := 3, slots := 24, locals := 12 } : Room).cells ({ frames := 1, cells := 3, slots := 24, locals := 12 } : Room).slots) := by
  refine MetFree.of_bodySF (plainFor_of_name own_pn_PatternCode) hisR ?_
  intro p e s m args below meth c s₁ Bd hml0 hP hK
  obtain ⟨rfl, hZ, hh⟩ := hP
  have hx := Bd.exec
  have hby := Bd.bytes
  have hml : c.maxLocals = 1 := hml0
  have hown : s.vm.findClass "com/example/vellum4/vellum4/PatternCode" = some m.cls := findClass_of_methodNamed Bd.named
  have hnm := (name_of_methodNamed Bd.named Bd.method).1
  have hlk : meth.locks = false := BodyLoose.notSynchronized Bd
  have X0 : Stand p l e ({ frames := 1, cells := 3, slots := 24, locals := 12 } : Room) s m #[(.ref a0)] below meth c s₁ [] 0 0 := Stand.of_body Bd
  have e0 : s₁.heap = h0 := by rw [← hh, Bd.state]; rfl
  have N0 := Fr.nil n0
  have K0 : Keep h0 h0 [a0] := Keep.refl _ _
  show ownEnds p e below s (Q_init Z a0 h0 n0) ({ frames := 1, cells := 3, slots := 24, locals := 12 } : Room).cells ({ frames := 1, cells := 3, slots := 24, locals := 12 } : Room).slots s₁ (entryFrame m #[(.ref a0)] 1)
  refine ownCast (own_ef1_init m a0) ?_
  refine ow_aloadN (q := 1) X0 hx (hb hby own_d1_0) rfl rfl rfl ?_
  obtain ⟨T1, X1, e1, st1⟩ := initO X0 hx hZ hown (hw _ (List.mem_of_getElem? (i := 6) rfl)) (hw _ (List.mem_of_getElem? (i := 7) rfl)) (hw _ (List.mem_of_getElem? (i := 8) rfl)) e0 (g := (mkF m 1 #[rv a0] [(.ref a0)])) rfl (by rw [hml]; rfl) rfl (hb hby own_d1_1) (by decide) (W := 0) (by show 2 * 0 + _ ≤ _; exact Nat.le_of_eq rfl) (by decide)
  refine ownGo (T' := T1) (f' := (mkF m 4 #[rv a0] [])) (st1) ?_
  refine ow_aloadN (q := 5) X1 hx (hb hby own_d1_4) rfl rfl rfl ?_
  refine ow_bipush (q := 7) X1 hx (8 : Int32) (hb hby own_d1_5) rfl rfl ?_
  obtain ⟨T2, h2, k2, X2, e2, E2, A2, st2⟩ := newP X1 hx hZ (hw _ (List.mem_of_getElem? (i := 9) rfl)) e1 (g := (mkF m 7 #[rv a0] [(.int (8 : Int32)), (.ref a0)])) rfl (hb hby own_d1_7) rfl (by decide) (cap := 8) (by decide) (by decide) (by decide) (by decide)
  obtain ⟨b2, g2⟩ : ∃ z, z = h0.size := ⟨_, rfl⟩
  rw [← g2] at A2 st2
  have ne_a0_b2 : a0 ≠ b2 := Nat.ne_of_lt (Nat.lt_of_lt_of_le HF0.lt (Nat.le_of_eq g2.symm))
  have sz_b2 : h0.size ≤ b2 := Nat.le_trans K0.1 (Nat.le_of_eq g2.symm)
  have G_b2 : n0 ≤ b2 := Nat.le_trans Z0 sz_b2
  have K2 : Keep h0 h2 [a0] := K0.ext E2
  have F3 : Exa Z h2 a0 "com/example/vellum4/vellum4/PatternCode" := HF0.ext E2
  have F4 : Fld Z h2 a0 "com/example/vellum4/vellum4/PatternCode" "operation" "[I" .null := HF1.ext E2
  have F5 : Fld Z h2 a0 "com/example/vellum4/vellum4/PatternCode" "arg" "[I" .null := HF2.ext E2
  have F6 : Fld Z h2 a0 "com/example/vellum4/vellum4/PatternCode" "arg2" "[I" .null := HF3.ext E2
  have F7 : Fld Z h2 a0 "com/example/vellum4/vellum4/PatternCode" "size" "I" (.int (0 : Int32)) := HF4.ext E2
  have F8 : ownAI Z h2 b2 .int 8 (fun _ => (0 : Int32)) := ownAI.new A2 (by decide) rfl (by decide)
  refine ownGo (T' := T2) (f' := (mkF m 9 #[rv a0] [(.ref b2), (.ref a0)])) (st2) ?_
  obtain ⟨T9, h9, X9, e9, W9, st9⟩ := putF X2 hx hZ hown (host := "") (Or.inl (hw _ (List.mem_of_getElem? (i := 10) rfl))) Via.refl e2 F4 F3 (Or.inl (hw _ (List.mem_of_getElem? (i := 11) rfl))) (hw _ (List.mem_of_getElem? (i := 1) rfl)) (ty := (.array .int)) (by decide) rfl rfl (g := (mkF m 9 #[rv a0] [(.ref b2), (.ref a0)])) rfl rfl (hb hby own_d1_9)
  have N9 := Fr.snoc X9 N0 G_a0
  have K9 : Keep h0 h9 [a0] := K2.wr W9 (Or.inl (List.mem_of_getElem? (i := 0) rfl))
  have F10 : Exa Z h9 a0 "com/example/vellum4/vellum4/PatternCode" := F3.wr W9
  have F11 : Fld Z h9 a0 "com/example/vellum4/vellum4/PatternCode" "operation" "[I" (.ref b2) := F4.same W9
  have F12 : Fld Z h9 a0 "com/example/vellum4/vellum4/PatternCode" "arg" "[I" .null := F5.other W9 (Or.inr (slot_ne (Or.inl (hw _ (List.mem_of_getElem? (i := 13) rfl))) (Or.inl (hw _ (List.mem_of_getElem? (i := 11) rfl))) (by decide) (t := (.array .int)) (t' := (.array .int)) (by decide) (by decide)))
  have F13 : Fld Z h9 a0 "com/example/vellum4/vellum4/PatternCode" "arg2" "[I" .null := F6.other W9 (Or.inr (slot_ne (Or.inl (hw _ (List.mem_of_getElem? (i := 15) rfl))) (Or.inl (hw _ (List.mem_of_getElem? (i := 11) rfl))) (by decide) (t := (.array .int)) (t' := (.array .int)) (by decide) (by decide)))
  have F14 : Fld Z h9 a0 "com/example/vellum4/vellum4/PatternCode" "size" "I" (.int (0 : Int32)) := F7.other W9 (Or.inr (slot_ne (Or.inl (hw _ (List.mem_of_getElem? (i := 22) rfl))) (Or.inl (hw _ (List.mem_of_getElem? (i := 11) rfl))) (by decide) (t := .int) (t' := (.array .int)) (by decide) (by decide)))
  have F15 : ownAI Z h9 b2 .int 8 (fun _ => (0 : Int32)) := F8.other W9 (Ne.symm ne_a0_b2)
  refine ownGo (T' := T9) (f' := (mkF m 12 #[rv a0] [])) (st9) ?_
  refine ow_aloadN (q := 13) X9 hx (hb hby own_d1_12) rfl rfl rfl ?_
  refine ow_bipush (q := 15) X9 hx (8 : Int32) (hb hby own_d1_13) rfl rfl ?_
  obtain ⟨T16, h16, k16, X16, e16, E16, A16, st16⟩ := newP X9 hx hZ (hw _ (List.mem_of_getElem? (i := 9) rfl)) e9 (g := (mkF m 15 #[rv a0] [(.int (8 : Int32)), (.ref a0)])) rfl (hb hby own_d1_15) rfl (by decide) (cap := 8) (by decide) (by decide) (by decide) (by decide)
  obtain ⟨b16, g16⟩ : ∃ z, z = h9.size := ⟨_, rfl⟩
  rw [← g16] at A16 st16
  have ne_a0_b16 : a0 ≠ b16 := Nat.ne_of_lt (Nat.lt_of_lt_of_le F10.lt (Nat.le_of_eq g16.symm))
  have ne_b2_b16 : b2 ≠ b16 := Nat.ne_of_lt (Nat.lt_of_lt_of_le F15.lt (Nat.le_of_eq g16.symm))
  have sz_b16 : h0.size ≤ b16 := Nat.le_trans K9.1 (Nat.le_of_eq g16.symm)
  have G_b16 : n0 ≤ b16 := Nat.le_trans Z0 sz_b16
  have K16 : Keep h0 h16 [a0] := K9.ext E16
  have F17 : Exa Z h16 a0 "com/example/vellum4/vellum4/PatternCode" := F10.ext E16
  have F18 : Fld Z h16 a0 "com/example/vellum4/vellum4/PatternCode" "operation" "[I" (.ref b2) := F11.ext E16
  have F19 : Fld Z h16 a0 "com/example/vellum4/vellum4/PatternCode" "arg" "[I" .null := F12.ext E16
  have F20 : Fld Z h16 a0 "com/example/vellum4/vellum4/PatternCode" "arg2" "[I" .null := F13.ext E16
  have F21 : Fld Z h16 a0 "com/example/vellum4/vellum4/PatternCode" "size" "I" (.int (0 : Int32)) := F14.ext E16
  have F22 : ownAI Z h16 b2 .int 8 (fun _ => (0 : Int32)) := F15.ext E16
  have F23 : ownAI Z h16 b16 .int 8 (fun _ => (0 : Int32)) := ownAI.new A16 (by decide) rfl (by decide)
  refine ownGo (T' := T16) (f' := (mkF m 17 #[rv a0] [(.ref b16), (.ref a0)])) (st16) ?_
  obtain ⟨T24, h24, X24, e24, W24, st24⟩ := putF X16 hx hZ hown (host := "") (Or.inl (hw _ (List.mem_of_getElem? (i := 12) rfl))) Via.refl e16 F19 F17 (Or.inl (hw _ (List.mem_of_getElem? (i := 13) rfl))) (hw _ (List.mem_of_getElem? (i := 1) rfl)) (ty := (.array .int)) (by decide) rfl rfl (g := (mkF m 17 #[rv a0] [(.ref b16), (.ref a0)])) rfl rfl (hb hby own_d1_17)
  have N24 := Fr.snoc X24 N9 G_a0
  have K24 : Keep h0 h24 [a0] := K16.wr W24 (Or.inl (List.mem_of_getElem? (i := 0) rfl))
  have F25 : Exa Z h24 a0 "com/example/vellum4/vellum4/PatternCode" := F17.wr W24
  have F26 : Fld Z h24 a0 "com/example/vellum4/vellum4/PatternCode" "operation" "[I" (.ref b2) := F18.other W24 (Or.inr (slot_ne (Or.inl (hw _ (List.mem_of_getElem? (i := 11) rfl))) (Or.inl (hw _ (List.mem_of_getElem? (i := 13) rfl))) (by decide) (t := (.array .int)) (t' := (.array .int)) (by decide) (by decide)))
  have F27 : Fld Z h24 a0 "com/example/vellum4/vellum4/PatternCode" "arg" "[I" (.ref b16) := F19.same W24
  have F28 : Fld Z h24 a0 "com/example/vellum4/vellum4/PatternCode" "arg2" "[I" .null := F20.other W24 (Or.inr (slot_ne (Or.inl (hw _ (List.mem_of_getElem? (i := 15) rfl))) (Or.inl (hw _ (List.mem_of_getElem? (i := 13) rfl))) (by decide) (t := (.array .int)) (t' := (.array .int)) (by decide) (by decide)))
  have F29 : Fld Z h24 a0 "com/example/vellum4/vellum4/PatternCode" "size" "I" (.int (0 : Int32)) := F21.other W24 (Or.inr (slot_ne (Or.inl (hw _ (List.mem_of_getElem? (i := 22) rfl))) (Or.inl (hw _ (List.mem_of_getElem? (i := 13) rfl))) (by decide) (t := .int) (t' := (.array .int)) (by decide) (by decide)))
  have F30 : ownAI Z h24 b2 .int 8 (fun _ => (0 : Int32)) := F22.other W24 (Ne.symm ne_a0_b2)
  have F31 : ownAI Z h24 b16 .int 8 (fun _ => (0 : Int32)) := F23.other W24 (Ne.symm ne_a0_b16)
  refine ownGo (T' := T24) (f' := (mkF m 20 #[rv a0] [])) (st24) ?_
  refine ow_aloadN (q := 21) X24 hx (hb hby own_d1_20) rfl rfl rfl ?_
  refine ow_bipush (q := 23) X24 hx (8 : Int32) (hb hby own_d1_21) rfl rfl ?_
  obtain ⟨T32, h32, k32, X32, e32, E32, A32, st32⟩ := newP X24 hx hZ (hw _ (List.mem_of_getElem? (i := 9) rfl)) e24 (g := (mkF m 23 #[rv a0] [(.int (8 : Int32)), (.ref a0)])) rfl (hb hby own_d1_23) rfl (by decide) (cap := 8) (by decide) (by decide) (by decide) (by decide)
  obtain ⟨b32, g32⟩ : ∃ z, z = h24.size := ⟨_, rfl⟩
  rw [← g32] at A32 st32
  have ne_a0_b32 : a0 ≠ b32 := Nat.ne_of_lt (Nat.lt_of_lt_of_le F25.lt (Nat.le_of_eq g32.symm))
  have ne_b2_b32 : b2 ≠ b32 := Nat.ne_of_lt (Nat.lt_of_lt_of_le F30.lt (Nat.le_of_eq g32.symm))
  have ne_b16_b32 : b16 ≠ b32 := Nat.ne_of_lt (Nat.lt_of_lt_of_le F31.lt (Nat.le_of_eq g32.symm))
  have sz_b32 : h0.size ≤ b32 := Nat.le_trans K24.1 (Nat.le_of_eq g32.symm)
  have G_b32 : n0 ≤ b32 := Nat.le_trans Z0 sz_b32
  have K32 : Keep h0 h32 [a0] := K24.ext E32
  have F33 : Exa Z h32 a0 "com/example/vellum4/vellum4/PatternCode" := F25.ext E32
  have F34 : Fld Z h32 a0 "com/example/vellum4/vellum4/PatternCode" "operation" "[I" (.ref b2) := F26.ext E32
  have F35 : Fld Z h32 a0 "com/example/vellum4/vellum4/PatternCode" "arg" "[I" (.ref b16) := F27.ext E32
  have F36 : Fld Z h32 a0 "com/example/vellum4/vellum4/PatternCode" "arg2" "[I" .null := F28.ext E32
  have F37 : Fld Z h32 a0 "com/example/vellum4/vellum4/PatternCode" "size" "I" (.int (0 : Int32)) := F29.ext E32
  have F38 : ownAI Z h32 b2 .int 8 (fun _ => (0 : Int32)) := F30.ext E32
  have F39 : ownAI Z h32 b16 .int 8 (fun _ => (0 : Int32)) := F31.ext E32
  have F40 : ownAI Z h32 b32 .int 8 (fun _ => (0 : Int32)) := ownAI.new A32 (by decide) rfl (by decide)
  refine ownGo (T' := T32) (f' := (mkF m 25 #[rv a0] [(.ref b32), (.ref a0)])) (st32) ?_
  obtain ⟨T41, h41, X41, e41, W41, st41⟩ := putF X32 hx hZ hown (host := "") (Or.inl (hw _ (List.mem_of_getElem? (i := 14) rfl))) Via.refl e32 F36 F33 (Or.inl (hw _ (List.mem_of_getElem? (i := 15) rfl))) (hw _ (List.mem_of_getElem? (i := 1) rfl)) (ty := (.array .int)) (by decide) rfl rfl (g := (mkF m 25 #[rv a0] [(.ref b32), (.ref a0)])) rfl rfl (hb hby own_d1_25)
  have N41 := Fr.snoc X41 N24 G_a0
  have K41 : Keep h0 h41 [a0] := K32.wr W41 (Or.inl (List.mem_of_getElem? (i := 0) rfl))
  have F42 : Exa Z h41 a0 "com/example/vellum4/vellum4/PatternCode" := F33.wr W41
  have F43 : Fld Z h41 a0 "com/example/vellum4/vellum4/PatternCode" "operation" "[I" (.ref b2) := F34.other W41 (Or.inr (slot_ne (Or.inl (hw _ (List.mem_of_getElem? (i := 11) rfl))) (Or.inl (hw _ (List.mem_of_getElem? (i := 15) rfl))) (by decide) (t := (.array .int)) (t' := (.array .int)) (by decide) (by decide)))
  have F44 : Fld Z h41 a0 "com/example/vellum4/vellum4/PatternCode" "arg" "[I" (.ref b16) := F35.other W41 (Or.inr (slot_ne (Or.inl (hw _ (List.mem_of_getElem? (i := 13) rfl))) (Or.inl (hw _ (List.mem_of_getElem? (i := 15) rfl))) (by decide) (t := (.array .int)) (t' := (.array .int)) (by decide) (by decide)))
  have F45 : Fld Z h41 a0 "com/example/vellum4/vellum4/PatternCode" "arg2" "[I" (.ref b32) := F36.same W41
  have F46 : Fld Z h41 a0 "com/example/vellum4/vellum4/PatternCode" "size" "I" (.int (0 : Int32)) := F37.other W41 (Or.inr (slot_ne (Or.inl (hw _ (List.mem_of_getElem? (i := 22) rfl))) (Or.inl (hw _ (List.mem_of_getElem? (i := 15) rfl))) (by decide) (t := .int) (t' := (.array .int)) (by decide) (by decide)))
  have F47 : ownAI Z h41 b2 .int 8 (fun _ => (0 : Int32)) := F38.other W41 (Ne.symm ne_a0_b2)
  have F48 : ownAI Z h41 b16 .int 8 (fun _ => (0 : Int32)) := F39.other W41 (Ne.symm ne_a0_b16)
  have F49 : ownAI Z h41 b32 .int 8 (fun _ => (0 : Int32)) := F40.other W41 (Ne.symm ne_a0_b32)
  refine ownGo (T' := T41) (f' := (mkF m 28 #[rv a0] [])) (st41) ?_
  refine ownRetV X41 hx Bd.returns (hb hby own_d1_28) hlk (by decide) (by decide) ?_
  rw [e41]
  refine ⟨b2, b16, b32, rfl, N41, K41, sz_b2, sz_b16, sz_b32, F42, F43, F44, F45, F46, F47, F48, F49, ?_⟩
  exact ⟨ne_b2_b16, ne_b2_b32, ne_b16_b32⟩
theorem own_d4_0 : decode prog_15_method_3_code 0 = .ok (.aload_n 0, 1) := by decide +kernel
theorem own_d4_1 : decode prog_15_method_3_code 1 = .ok (.getfield 19, 3) := by decide +kernel
theorem own_d4_4 : decode prog_15_method_3_code 4 = .ok (.aload_n 0, 1) := by decide +kernel
theorem own_d4_5 : decode prog_15_method_3_code 5 = .ok (.getfield 7, 3) := by decide +kernel
theorem own_d4_8 : decode prog_15_method_3_code 8 = .ok (.arraylength, 1) := by decide +kernel
theorem own_d4_9 : decode prog_15_method_3_code 9 = .ok (.if_icmp .ne 54, 3) := by decide +kernel
theorem own_d4_63 : decode prog_15_method_3_code 63 = .ok (.aload_n 0, 1) := by decide +kernel
theorem own_d4_64 : decode prog_15_method_3_code 64 = .ok (.getfield 7, 3) := by decide +kernel
theorem own_d4_67 : decode prog_15_method_3_code 67 = .ok (.aload_n 0, 1) := by decide +kernel
theorem own_d4_68 : decode prog_15_method_3_code 68 = .ok (.getfield 19, 3) := by decide +kernel
theorem own_d4_71 : decode prog_15_method_3_code 71 = .ok (.iload_n 1, 1) := by decide +kernel
theorem own_d4_72 : decode prog_15_method_3_code 72 = .ok (.iastore, 1) := by decide +kernel
theorem own_d4_73 : decode prog_15_method_3_code 73 = .ok (.aload_n 0, 1) := by decide +kernel
theorem own_d4_74 : decode prog_15_method_3_code 74 = .ok (.getfield 13, 3) := by decide +kernel
theorem own_d4_77 : decode prog_15_method_3_code 77 = .ok (.aload_n 0, 1) := by decide +kernel
theorem own_d4_78 : decode prog_15_method_3_code 78 = .ok (.getfield 19, 3) := by decide +kernel
theorem own_d4_81 : decode prog_15_method_3_code 81 = .ok (.iload_n 2, 1) := by decide +kernel
theorem own_d4_82 : decode prog_15_method_3_code 82 = .ok (.iastore, 1) := by decide +kernel
theorem own_d4_83 : decode prog_15_method_3_code 83 = .ok (.aload_n 0, 1) := by decide +kernel
theorem own_d4_84 : decode prog_15_method_3_code 84 = .ok (.getfield 16, 3) := by decide +kernel
theorem own_d4_87 : decode prog_15_method_3_code 87 = .ok (.aload_n 0, 1) := by decide +kernel
theorem own_d4_88 : decode prog_15_method_3_code 88 = .ok (.getfield 19, 3) := by decide +kernel
theorem own_d4_91 : decode prog_15_method_3_code 91 = .ok (.iload_n 3, 1) := by decide +kernel
theorem own_d4_92 : decode prog_15_method_3_code 92 = .ok (.iastore, 1) := by decide +kernel
theorem own_d4_93 : decode prog_15_method_3_code 93 = .ok (.aload_n 0, 1) := by decide +kernel
theorem own_d4_94 : decode prog_15_method_3_code 94 = .ok (.dup, 1) := by decide +kernel
theorem own_d4_95 : decode prog_15_method_3_code 95 = .ok (.getfield 19, 3) := by decide +kernel
theorem own_d4_98 : decode prog_15_method_3_code 98 = .ok (.dup_x1, 1) := by decide +kernel
theorem own_d4_99 : decode prog_15_method_3_code 99 = .ok (.iconst 1, 1) := by decide +kernel
theorem own_d4_100 : decode prog_15_method_3_code 100 = .ok (.iadd, 1) := by decide +kernel
theorem own_d4_101 : decode prog_15_method_3_code 101 = .ok (.putfield 19, 3) := by decide +kernel
theorem own_d4_104 : decode prog_15_method_3_code 104 = .ok (.ireturn, 1) := by decide +kernel
theorem own_ef4_emit_0 (m : MethodId) (a0 : Addr) (p1 : Int32) (p2 : Int32) (p3 : Int32) : entryFrame m #[(.ref a0), (.int p1), (.int p2), (.int p3)] 4 = mkF m 0 #[rv a0, iv p1, iv p2, iv p3] [] := by first | (simp [entryFrame, mkF, argsToLocals, Value.category]; done) | rfl
def Q_emit_0 (Z : State) (a0 : Addr) (p1 : Int32) (p2 : Int32) (p3 : Int32) (a1 : Addr) (a2 : Addr) (a3 : Addr) (g1 : Nat → Int32) (g2 : Nat → Int32) (g3 : Nat → Int32) (h0 : Heap) (n0 : Nat) (v : Option Value) (h : Heap) (L : List Loc) : Prop := v = some (.int (0 : Int32)) ∧ Fr n0 L ∧ Keep h0 h [a0, a1, a2, a3] ∧ Exa Z h a0 "com/example/vellum4/vellum4/PatternCode" ∧ Fld Z h a0 "com/example/vellum4/vellum4/PatternCode" "operation" "[I" (.ref a1) ∧ Fld Z h a0 "com/example/vellum4/vellum4/PatternCode" "arg" "[I" (.ref a2) ∧ Fld Z h a0 "com/example/vellum4/vellum4/PatternCode" "arg2" "[I" (.ref a3) ∧ Fld Z h a0 "com/example/vellum4/vellum4/PatternCode" "size" "I" (.int (1 : Int32)) ∧ ownAI Z h a1 .int 8 (ownUpd g1 0 p1) ∧ ownAI Z h a2 .int 8 (ownUpd g2 0 p2) ∧ ownAI Z h a3 .int 8 (ownUpd g3 0 p3)
set_option maxRecDepth 65536 in
set_option maxHeartbeats 40000000 in
theorem rm_emit_0 (l : Launch) (Z : State) (a0 : Array Value) (hw : ∀ d ∈ tables_1, d.before a0 Z = true) (ws : List Jvm.Cond) (a0 : Addr) (p1 : Int32) (p2 : Int32) (p3 : Int32) (a1 : Addr) (a2 : Addr) (a3 : Addr) (g1 : Nat → Int32) (g2 : Nat → Int32) (g3 : Nat → Int32) (h0 : Heap) (n0 : Nat) (Z0 : n0 ≤ h0.size) (HF0 : Exa Z h0 a0 "com/example/vellum4/vellum4/PatternCode") (HF1 : Fld Z h0 a0 "com/example/vellum4/vellum4/PatternCode" "operation" "[I" (.ref a1)) (HF2 : Fld Z h0 a0 "com/example/vellum4/vellum4/PatternCode" "arg" "[I" (.ref a2)) (HF3 : Fld Z h0 a0 "com/example/vellum4/vellum4/PatternCode" "arg2" "[I" (.ref a3)) (HF4 : Fld Z h0 a0 "com/example/vellum4/vellum4/PatternCode" "size" "I" (.int (0 : Int32))) (HF5 : ownAI Z h0 a1 .int 8 g1) (HF6 : ownAI Z h0 a2 .int 8 g2) (HF7 : ownAI Z h0 a3 .int 8 g3) (G_a0 : n0 ≤ a0) (G_a1 : n0 ≤ a1) (G_a2 : n0 ≤ a2) (G_a3 : n0 ≤ a3) (hn0 : a0 ≠ a1) (hn1 : a0 ≠ a2) (hn2 : a0 ≠ a3) (hn3 : a1 ≠ a2) (hn4 : a1 ≠ a3) (hn5 : a2 ≠ a3) :
    MetFree l (⟨"com/example/vellum4/vellum4/PatternCode", "emitUnchecked", "(III)I"⟩ : MethodName) (head1 (Jvm.Cond.code (⟨"com/example/vellum4/vellum4/PatternCode", "emitUnchecked", "(III)I"⟩ : MethodName) prog_15_method_3_code 4 (some .int) :: ws) ({ frames := 0, cells := 0, slots := 0, locals := 0 } : Room)) (fun a U => a = #[(.ref a0), (.int p1), (.int p2), (.int p3)] ∧ Z.Warmed39 U.vm ∧ U.heap = h0) (fun _ _ _ _ _ => True) (fun _ U o U' => ∃ v L, o = .returned v ∧ (Q_emit_0 Z a0 p1 p2 p3 a1 a2 a3 g1 g2 g3 h0 n0) v U'.heap L ∧ FrameEnd U o U' L ({ frames := 0, cells := 0, slots := 0, locals := 0 } : Room).cells ({ frames := 0, cells := 0, slots := 0, locals := 0 } : Room).slots) := by
  refine MetFree.of_bodySF (plainFor_of_name own_pn_PatternCode) hisR ?_
  intro p e s m args below meth c s₁ Bd hml0 hP hK
  obtain ⟨rfl, hZ, hh⟩ := hP
  have hx := Bd.exec
  have hby := Bd.bytes
  have hml : c.maxLocals = 4 := hml0
  have hown : s.vm.findClass "com/example/vellum4/vellum4/PatternCode" = some m.cls := findClass_of_methodNamed Bd.named
  have hnm := (name_of_methodNamed Bd.named Bd.method).1
  have hlk : meth.locks = false := BodyLoose.notSynchronized Bd
  have X0 : Stand p l e ({ frames := 0, cells := 0, slots := 0, locals := 0 } : Room) s m #[(.ref a0), (.int p1), (.int p2), (.int p3)] below meth c s₁ [] 0 0 := Stand.of_body Bd
  have e0 : s₁.heap = h0 := by rw [← hh, Bd.state]; rfl
  have N0 := Fr.nil n0
  have K0 : Keep h0 h0 [a0, a1, a2, a3] := Keep.refl _ _
  show ownEnds p e below s (Q_emit_0 Z a0 p1 p2 p3 a1 a2 a3 g1 g2 g3 h0 n0) ({ frames := 0, cells := 0, slots := 0, locals := 0 } : Room).cells ({ frames := 0, cells := 0, slots := 0, locals := 0 } : Room).slots s₁ (entryFrame m #[(.ref a0), (.int p1), (.int p2), (.int p3)] 4)
  refine ownCast (own_ef4_emit_0 m a0 p1 p2 p3) ?_
  refine ow_aloadN (q := 1) X0 hx (hb hby own_d4_0) rfl rfl rfl ?_
  obtain ⟨T1, X1, e1, st1⟩ := getF X0 hx hZ hown (host := "") (Or.inl (hw _ (List.mem_of_getElem? (i := 21) rfl))) Via.refl e0 HF4 (g := (mkF m 1 #[rv a0, iv p1, iv p2, iv p3] [(.ref a0)])) rfl rfl (hb hby own_d4_1)
  refine ownGo (T' := T1) (f' := (mkF m 4 #[rv a0, iv p1, iv p2, iv p3] [(.int (0 : Int32))])) (st1) ?_
  refine ow_aloadN (q := 5) X1 hx (hb hby own_d4_4) rfl rfl rfl ?_
  obtain ⟨T2, X2, e2, st2⟩ := getF X1 hx hZ hown (host := "") (Or.inl (hw _ (List.mem_of_getElem? (i := 10) rfl))) Via.refl e1 HF1 (g := (mkF m 5 #[rv a0, iv p1, iv p2, iv p3] [(.ref a0), (.int (0 : Int32))])) rfl rfl (hb hby own_d4_5)
  refine ownGo (T' := T2) (f' := (mkF m 8 #[rv a0, iv p1, iv p2, iv p3] [(.ref a1), (.int (0 : Int32))])) (st2) ?_
  refine ownGo (T' := T2) (f' := (mkF m 9 #[rv a0, iv p1, iv p2, iv p3] [(.int (8 : Int32)), (.int (0 : Int32))])) (ownLenI HF5 X2 hx hZ e2 (z := (8 : Int32)) (by decide) (g := (mkF m 8 #[rv a0, iv p1, iv p2, iv p3] [(.ref a1), (.int (0 : Int32))])) rfl rfl (hb hby own_d4_8)) ?_
  refine ow_icmpYes (q := 63) X2 hx (hb hby own_d4_9) (Jvm.Free.XT.ii_ne_t (by decide)) (by decide) (by decide) ?_
  refine ow_aloadN (q := 64) X2 hx (hb hby own_d4_63) rfl rfl rfl ?_
  obtain ⟨T3, X3, e3, st3⟩ := getF X2 hx hZ hown (host := "") (Or.inl (hw _ (List.mem_of_getElem? (i := 10) rfl))) Via.refl e2 HF1 (g := (mkF m 64 #[rv a0, iv p1, iv p2, iv p3] [(.ref a0)])) rfl rfl (hb hby own_d4_64)
  refine ownGo (T' := T3) (f' := (mkF m 67 #[rv a0, iv p1, iv p2, iv p3] [(.ref a1)])) (st3) ?_
  refine ow_aloadN (q := 68) X3 hx (hb hby own_d4_67) rfl rfl rfl ?_
  obtain ⟨T4, X4, e4, st4⟩ := getF X3 hx hZ hown (host := "") (Or.inl (hw _ (List.mem_of_getElem? (i := 21) rfl))) Via.refl e3 HF4 (g := (mkF m 68 #[rv a0, iv p1, iv p2, iv p3] [(.ref a0), (.ref a1)])) rfl rfl (hb hby own_d4_68)
  refine ownGo (T' := T4) (f' := (mkF m 71 #[rv a0, iv p1, iv p2, iv p3] [(.int (0 : Int32)), (.ref a1)])) (st4) ?_
  refine ow_iloadN (q := 72) X4 hx (hb hby own_d4_71) rfl rfl ?_
  obtain ⟨T5, h5, X5, e5, W5, F5s, st5⟩ := ownIastore HF5 X4 hx hZ e4 (j := (0 : Int32)) (by unfold ownIn; decide) (g := (mkF m 72 #[rv a0, iv p1, iv p2, iv p3] [(.int p1), (.int (0 : Int32)), (.ref a1)])) rfl rfl (hb hby own_d4_72)
  have F5r : ownAI Z h5 a1 .int 8 (ownUpd g1 0 p1) := F5s
  have N5 := Fr.snoc X5 N0 G_a1
  have K5 : Keep h0 h5 [a0, a1, a2, a3] := K0.wr W5 (Or.inl (List.mem_of_getElem? (i := 1) rfl))
  have F6 : Exa Z h5 a0 "com/example/vellum4/vellum4/PatternCode" := HF0.wr W5
  have F7 : Fld Z h5 a0 "com/example/vellum4/vellum4/PatternCode" "operation" "[I" (.ref a1) := HF1.other W5 (Or.inl hn0)
  have F8 : Fld Z h5 a0 "com/example/vellum4/vellum4/PatternCode" "arg" "[I" (.ref a2) := HF2.other W5 (Or.inl hn0)
  have F9 : Fld Z h5 a0 "com/example/vellum4/vellum4/PatternCode" "arg2" "[I" (.ref a3) := HF3.other W5 (Or.inl hn0)
  have F10 : Fld Z h5 a0 "com/example/vellum4/vellum4/PatternCode" "size" "I" (.int (0 : Int32)) := HF4.other W5 (Or.inl hn0)
  have F11 : ownAI Z h5 a2 .int 8 g2 := HF6.other W5 (Ne.symm hn3)
  have F12 : ownAI Z h5 a3 .int 8 g3 := HF7.other W5 (Ne.symm hn4)
  refine ownGo (T' := T5) (f' := (mkF m 73 #[rv a0, iv p1, iv p2, iv p3] [])) (st5) ?_
  refine ow_aloadN (q := 74) X5 hx (hb hby own_d4_73) rfl rfl rfl ?_
  obtain ⟨T13, X13, e13, st13⟩ := getF X5 hx hZ hown (host := "") (Or.inl (hw _ (List.mem_of_getElem? (i := 12) rfl))) Via.refl e5 F8 (g := (mkF m 74 #[rv a0, iv p1, iv p2, iv p3] [(.ref a0)])) rfl rfl (hb hby own_d4_74)
  refine ownGo (T' := T13) (f' := (mkF m 77 #[rv a0, iv p1, iv p2, iv p3] [(.ref a2)])) (st13) ?_
  refine ow_aloadN (q := 78) X13 hx (hb hby own_d4_77) rfl rfl rfl ?_
  obtain ⟨T14, X14, e14, st14⟩ := getF X13 hx hZ hown (host := "") (Or.inl (hw _ (List.mem_of_getElem? (i := 21) rfl))) Via.refl e13 F10 (g := (mkF m 78 #[rv a0, iv p1, iv p2, iv p3] [(.ref a0), (.ref a2)])) rfl rfl (hb hby own_d4_78)
  refine ownGo (T' := T14) (f' := (mkF m 81 #[rv a0, iv p1, iv p2, iv p3] [(.int (0 : Int32)), (.ref a2)])) (st14) ?_
  refine ow_iloadN (q := 82) X14 hx (hb hby own_d4_81) rfl rfl ?_
  obtain ⟨T15, h15, X15, e15, W15, F15s, st15⟩ := ownIastore F11 X14 hx hZ e14 (j := (0 : Int32)) (by unfold ownIn; decide) (g := (mkF m 82 #[rv a0, iv p1, iv p2, iv p3] [(.int p2), (.int (0 : Int32)), (.ref a2)])) rfl rfl (hb hby own_d4_82)
  have F15r : ownAI Z h15 a2 .int 8 (ownUpd g2 0 p2) := F15s
  have N15 := Fr.snoc X15 N5 G_a2
  have K15 : Keep h0 h15 [a0, a1, a2, a3] := K5.wr W15 (Or.inl (List.mem_of_getElem? (i := 2) rfl))
  have F16 : Exa Z h15 a0 "com/example/vellum4/vellum4/PatternCode" := F6.wr W15
  have F17 : Fld Z h15 a0 "com/example/vellum4/vellum4/PatternCode" "operation" "[I" (.ref a1) := F7.other W15 (Or.inl hn1)
  have F18 : Fld Z h15 a0 "com/example/vellum4/vellum4/PatternCode" "arg" "[I" (.ref a2) := F8.other W15 (Or.inl hn1)
  have F19 : Fld Z h15 a0 "com/example/vellum4/vellum4/PatternCode" "arg2" "[I" (.ref a3) := F9.other W15 (Or.inl hn1)
  have F20 : Fld Z h15 a0 "com/example/vellum4/vellum4/PatternCode" "size" "I" (.int (0 : Int32)) := F10.other W15 (Or.inl hn1)
  have F21 : ownAI Z h15 a3 .int 8 g3 := F12.other W15 (Ne.symm hn5)
  have F22 : ownAI Z h15 a1 .int 8 (ownUpd g1 0 p1) := F5r.other W15 hn3
  refine ownGo (T' := T15) (f' := (mkF m 83 #[rv a0, iv p1, iv p2, iv p3] [])) (st15) ?_
  refine ow_aloadN (q := 84) X15 hx (hb hby own_d4_83) rfl rfl rfl ?_
  obtain ⟨T23, X23, e23, st23⟩ := getF X15 hx hZ hown (host := "") (Or.inl (hw _ (List.mem_of_getElem? (i := 14) rfl))) Via.refl e15 F19 (g := (mkF m 84 #[rv a0, iv p1, iv p2, iv p3] [(.ref a0)])) rfl rfl (hb hby own_d4_84)
  refine ownGo (T' := T23) (f' := (mkF m 87 #[rv a0, iv p1, iv p2, iv p3] [(.ref a3)])) (st23) ?_
  refine ow_aloadN (q := 88) X23 hx (hb hby own_d4_87) rfl rfl rfl ?_
  obtain ⟨T24, X24, e24, st24⟩ := getF X23 hx hZ hown (host := "") (Or.inl (hw _ (List.mem_of_getElem? (i := 21) rfl))) Via.refl e23 F20 (g := (mkF m 88 #[rv a0, iv p1, iv p2, iv p3] [(.ref a0), (.ref a3)])) rfl rfl (hb hby own_d4_88)
  refine ownGo (T' := T24) (f' := (mkF m 91 #[rv a0, iv p1, iv p2, iv p3] [(.int (0 : Int32)), (.ref a3)])) (st24) ?_
  refine ow_iloadN (q := 92) X24 hx (hb hby own_d4_91) rfl rfl ?_
  obtain ⟨T25, h25, X25, e25, W25, F25s, st25⟩ := ownIastore F21 X24 hx hZ e24 (j := (0 : Int32)) (by unfold ownIn; decide) (g := (mkF m 92 #[rv a0, iv p1, iv p2, iv p3] [(.int p3), (.int (0 : Int32)), (.ref a3)])) rfl rfl (hb hby own_d4_92)
  have F25r : ownAI Z h25 a3 .int 8 (ownUpd g3 0 p3) := F25s
  have N25 := Fr.snoc X25 N15 G_a3
  have K25 : Keep h0 h25 [a0, a1, a2, a3] := K15.wr W25 (Or.inl (List.mem_of_getElem? (i := 3) rfl))
  have F26 : Exa Z h25 a0 "com/example/vellum4/vellum4/PatternCode" := F16.wr W25
  have F27 : Fld Z h25 a0 "com/example/vellum4/vellum4/PatternCode" "operation" "[I" (.ref a1) := F17.other W25 (Or.inl hn2)
  have F28 : Fld Z h25 a0 "com/example/vellum4/vellum4/PatternCode" "arg" "[I" (.ref a2) := F18.other W25 (Or.inl hn2)
  have F29 : Fld Z h25 a0 "com/example/vellum4/vellum4/PatternCode" "arg2" "[I" (.ref a3) := F19.other W25 (Or.inl hn2)
  have F30 : Fld Z h25 a0 "com/example/vellum4/vellum4/PatternCode" "size" "I" (.int (0 : Int32)) := F20.other W25 (Or.inl hn2)
  have F31 : ownAI Z h25 a1 .int 8 (ownUpd g1 0 p1) := F22.other W25 hn4
  have F32 : ownAI Z h25 a2 .int 8 (ownUpd g2 0 p2) := F15r.other W25 hn5
  refine ownGo (T' := T25) (f' := (mkF m 93 #[rv a0, iv p1, iv p2, iv p3] [])) (st25) ?_
  refine ow_aloadN (q := 94) X25 hx (hb hby own_d4_93) rfl rfl rfl ?_
  refine ow_dup (q := 95) X25 hx (hb hby own_d4_94) rfl rfl ?_
  obtain ⟨T33, X33, e33, st33⟩ := getF X25 hx hZ hown (host := "") (Or.inl (hw _ (List.mem_of_getElem? (i := 21) rfl))) Via.refl e25 F30 (g := (mkF m 95 #[rv a0, iv p1, iv p2, iv p3] [(.ref a0), (.ref a0)])) rfl rfl (hb hby own_d4_95)
  refine ownGo (T' := T33) (f' := (mkF m 98 #[rv a0, iv p1, iv p2, iv p3] [(.int (0 : Int32)), (.ref a0)])) (st33) ?_
  refine ow_dupX1 (q := 99) X33 hx (hb hby own_d4_98) rfl rfl rfl ?_
  refine ow_iconst (q := 100) X33 hx (1 : Int32) (hb hby own_d4_99) rfl rfl ?_
  refine ow_iadd (q := 101) X33 hx (1 : Int32) (hb hby own_d4_100) rfl (by decide) ?_
  obtain ⟨T34, h34, X34, e34, W34, st34⟩ := putF X33 hx hZ hown (host := "") (Or.inl (hw _ (List.mem_of_getElem? (i := 21) rfl))) Via.refl e33 F30 F26 (Or.inl (hw _ (List.mem_of_getElem? (i := 22) rfl))) (hw _ (List.mem_of_getElem? (i := 1) rfl)) (ty := .int) (by decide) rfl rfl (g := (mkF m 101 #[rv a0, iv p1, iv p2, iv p3] [(.int (1 : Int32)), (.ref a0), (.int (0 : Int32))])) rfl rfl (hb hby own_d4_101)
  have N34 := Fr.snoc X34 N25 G_a0
  have K34 : Keep h0 h34 [a0, a1, a2, a3] := K25.wr W34 (Or.inl (List.mem_of_getElem? (i := 0) rfl))
  have F35 : Exa Z h34 a0 "com/example/vellum4/vellum4/PatternCode" := F26.wr W34
  have F36 : Fld Z h34 a0 "com/example/vellum4/vellum4/PatternCode" "operation" "[I" (.ref a1) := F27.other W34 (Or.inr (slot_ne (Or.inl (hw _ (List.mem_of_getElem? (i := 11) rfl))) (Or.inl (hw _ (List.mem_of_getElem? (i := 22) rfl))) (by decide) (t := (.array .int)) (t' := .int) (by decide) (by decide)))
  have F37 : Fld Z h34 a0 "com/example/vellum4/vellum4/PatternCode" "arg" "[I" (.ref a2) := F28.other W34 (Or.inr (slot_ne (Or.inl (hw _ (List.mem_of_getElem? (i := 13) rfl))) (Or.inl (hw _ (List.mem_of_getElem? (i := 22) rfl))) (by decide) (t := (.array .int)) (t' := .int) (by decide) (by decide)))
  have F38 : Fld Z h34 a0 "com/example/vellum4/vellum4/PatternCode" "arg2" "[I" (.ref a3) := F29.other W34 (Or.inr (slot_ne (Or.inl (hw _ (List.mem_of_getElem? (i := 15) rfl))) (Or.inl (hw _ (List.mem_of_getElem? (i := 22) rfl))) (by decide) (t := (.array .int)) (t' := .int) (by decide) (by decide)))
  have F39 : Fld Z h34 a0 "com/example/vellum4/vellum4/PatternCode" "size" "I" (.int (1 : Int32)) := F30.same W34
  have F40 : ownAI Z h34 a1 .int 8 (ownUpd g1 0 p1) := F31.other W34 (Ne.symm hn0)
  have F41 : ownAI Z h34 a2 .int 8 (ownUpd g2 0 p2) := F32.other W34 (Ne.symm hn1)
  have F42 : ownAI Z h34 a3 .int 8 (ownUpd g3 0 p3) := F25r.other W34 (Ne.symm hn2)
  refine ownGo (T' := T34) (f' := (mkF m 104 #[rv a0, iv p1, iv p2, iv p3] [(.int (0 : Int32))])) (st34) ?_
  refine ownRetI X34 hx Bd.returns (hb hby own_d4_104) hlk (by decide) (by decide) ?_
  rw [e34]
  exact ⟨rfl, N34, K34, F35, F36, F37, F38, F39, F40, F41, F42⟩
theorem own_ef4_emit_1 (m : MethodId) (a0 : Addr) (p1 : Int32) (p2 : Int32) (p3 : Int32) : entryFrame m #[(.ref a0), (.int p1), (.int p2), (.int p3)] 4 = mkF m 0 #[rv a0, iv p1, iv p2, iv p3] [] := by first | (simp [entryFrame, mkF, argsToLocals, Value.category]; done) | rfl
def Q_emit_1 (Z : State) (a0 : Addr) (p1 : Int32) (p2 : Int32) (p3 : Int32) (a1 : Addr) (a2 : Addr) (a3 : Addr) (g1 : Nat → Int32) (g2 : Nat → Int32) (g3 : Nat → Int32) (h0 : Heap) (n0 : Nat) (v : Option Value) (h : Heap) (L : List Loc) : Prop := v = some (.int (1 : Int32)) ∧ Fr n0 L ∧ Keep h0 h [a0, a1, a2, a3] ∧ Exa Z h a0 "com/example/vellum4/vellum4/PatternCode" ∧ Fld Z h a0 "com/example/vellum4/vellum4/PatternCode" "operation" "[I" (.ref a1) ∧ Fld Z h a0 "com/example/vellum4/vellum4/PatternCode" "arg" "[I" (.ref a2) ∧ Fld Z h a0 "com/example/vellum4/vellum4/PatternCode" "arg2" "[I" (.ref a3) ∧ Fld Z h a0 "com/example/vellum4/vellum4/PatternCode" "size" "I" (.int (2 : Int32)) ∧ ownAI Z h a1 .int 8 (ownUpd g1 1 p1) ∧ ownAI Z h a2 .int 8 (ownUpd g2 1 p2) ∧ ownAI Z h a3 .int 8 (ownUpd g3 1 p3)
set_option maxRecDepth 65536 in
set_option maxHeartbeats 40000000 in
theorem rm_emit_1 (l : Launch) (Z : State) (a0 : Array Value) (hw : ∀ d ∈ tables_1, d.before a0 Z = true) (ws : List Jvm.Cond) (a0 : Addr) (p1 : Int32) (p2 : Int32) (p3 : Int32) (a1 : Addr) (a2 : Addr) (a3 : Addr) (g1 : Nat → Int32) (g2 : Nat → Int32) (g3 : Nat → Int32) (h0 : Heap) (n0 : Nat) (Z0 : n0 ≤ h0.size) (HF0 : Exa Z h0 a0 "com/example/vellum4/vellum4/PatternCode") (HF1 : Fld Z h0 a0 "com/example/vellum4/vellum4/PatternCode" "operation" "[I" (.ref a1)) (HF2 : Fld Z h0 a0 "com/example/vellum4/vellum4/PatternCode" "arg" "[I" (.ref a2)) (HF3 : Fld Z h0 a0 "com/example/vellum4/vellum4/PatternCode" "arg2" "[I" (.ref a3)) (HF4 : Fld Z h0 a0 "com/example/vellum4/vellum4/PatternCode" "size" "I" (.int (1 : Int32))) (HF5 : ownAI Z h0 a1 .int 8 g1) (HF6 : ownAI Z h0 a2 .int 8 g2) (HF7 : ownAI Z h0 a3 .int 8 g3) (G_a0 : n0 ≤ a0) (G_a1 : n0 ≤ a1) (G_a2 : n0 ≤ a2) (G_a3 : n0 ≤ a3) (hn0 : a0 ≠ a1) (hn1 : a0 ≠ a2) (hn2 : a0 ≠ a3) (hn3 : a1 ≠ a2) (hn4 : a1 ≠ a3) (hn5 : a2 ≠ a3) :
    MetFree l (⟨"com/example/vellum4/vellum4/PatternCode", "emitUnchecked", "(III)I"⟩ : MethodName) (head1 (Jvm.Cond.code (⟨"com/example/vellum4/vellum4/PatternCode", "emitUnchecked", "(III)I"⟩ : MethodName) prog_15_method_3_code 4 (some .int) :: ws) ({ frames := 0, cells := 0, slots := 0, locals := 0 } : Room)) (fun a U => a = #[(.ref a0), (.int p1), (.int p2), (.int p3)] ∧ Z.Warmed39 U.vm ∧ U.heap = h0) (fun _ _ _ _ _ => True) (fun _ U o U' => ∃ v L, o = .returned v ∧ (Q_emit_1 Z a0 p1 p2 p3 a1 a2 a3 g1 g2 g3 h0 n0) v U'.heap L ∧ FrameEnd U o U' L ({ frames := 0, cells := 0, slots := 0, locals := 0 } : Room).cells ({ frames := 0, cells := 0, slots := 0, locals := 0 } : Room).slots) := by
  refine MetFree.of_bodySF (plainFor_of_name own_pn_PatternCode) hisR ?_
  intro p e s m args below meth c s₁ Bd hml0 hP hK
  obtain ⟨rfl, hZ, hh⟩ := hP
  have hx := Bd.exec
  have hby := Bd.bytes
  have hml : c.maxLocals = 4 := hml0
  have hown : s.vm.findClass "com/example/vellum4/vellum4/PatternCode" = some m.cls := findClass_of_methodNamed Bd.named
  have hnm := (name_of_methodNamed Bd.named Bd.method).1
  have hlk : meth.locks = false := BodyLoose.notSynchronized Bd
  have X0 : Stand p l e ({ frames := 0, cells := 0, slots := 0, locals := 0 } : Room) s m #[(.ref a0), (.int p1), (.int p2), (.int p3)] below meth c s₁ [] 0 0 := Stand.of_body Bd
  have e0 : s₁.heap = h0 := by rw [← hh, Bd.state]; rfl
  have N0 := Fr.nil n0
  have K0 : Keep h0 h0 [a0, a1, a2, a3] := Keep.refl _ _
  show ownEnds p e below s (Q_emit_1 Z a0 p1 p2 p3 a1 a2 a3 g1 g2 g3 h0 n0) ({ frames := 0, cells := 0, slots := 0, locals := 0 } : Room).cells ({ frames := 0, cells := 0, slots := 0, locals := 0 } : Room).slots s₁ (entryFrame m #[(.ref a0), (.int p1), (.int p2), (.int p3)] 4)
  refine ownCast (own_ef4_emit_1 m a0 p1 p2 p3) ?_
  refine ow_aloadN (q := 1) X0 hx (hb hby own_d4_0) rfl rfl rfl ?_
  obtain ⟨T1, X1, e1, st1⟩ := getF X0 hx hZ hown (host := "") (Or.inl (hw _ (List.mem_of_getElem? (i := 21) rfl))) Via.refl e0 HF4 (g := (mkF m 1 #[rv a0, iv p1, iv p2, iv p3] [(.ref a0)])) rfl rfl (hb hby own_d4_1)
  refine ownGo (T' := T1) (f' := (mkF m 4 #[rv a0, iv p1, iv p2, iv p3] [(.int (1 : Int32))])) (st1) ?_
  refine ow_aloadN (q := 5) X1 hx (hb hby own_d4_4) rfl rfl rfl ?_
  obtain ⟨T2, X2, e2, st2⟩ := getF X1 hx hZ hown (host := "") (Or.inl (hw _ (List.mem_of_getElem? (i := 10) rfl))) Via.refl e1 HF1 (g := (mkF m 5 #[rv a0, iv p1, iv p2, iv p3] [(.ref a0), (.int (1 : Int32))])) rfl rfl (hb hby own_d4_5)
  refine ownGo (T' := T2) (f' := (mkF m 8 #[rv a0, iv p1, iv p2, iv p3] [(.ref a1), (.int (1 : Int32))])) (st2) ?_
  refine ownGo (T' := T2) (f' := (mkF m 9 #[rv a0, iv p1, iv p2, iv p3] [(.int (8 : Int32)), (.int (1 : Int32))])) (ownLenI HF5 X2 hx hZ e2 (z := (8 : Int32)) (by decide) (g := (mkF m 8 #[rv a0, iv p1, iv p2, iv p3] [(.ref a1), (.int (1 : Int32))])) rfl rfl (hb hby own_d4_8)) ?_
  refine ow_icmpYes (q := 63) X2 hx (hb hby own_d4_9) (Jvm.Free.XT.ii_ne_t (by decide)) (by decide) (by decide) ?_
  refine ow_aloadN (q := 64) X2 hx (hb hby own_d4_63) rfl rfl rfl ?_
  obtain ⟨T3, X3, e3, st3⟩ := getF X2 hx hZ hown (host := "") (Or.inl (hw _ (List.mem_of_getElem? (i := 10) rfl))) Via.refl e2 HF1 (g := (mkF m 64 #[rv a0, iv p1, iv p2, iv p3] [(.ref a0)])) rfl rfl (hb hby own_d4_64)
  refine ownGo (T' := T3) (f' := (mkF m 67 #[rv a0, iv p1, iv p2, iv p3] [(.ref a1)])) (st3) ?_
  refine ow_aloadN (q := 68) X3 hx (hb hby own_d4_67) rfl rfl rfl ?_
  obtain ⟨T4, X4, e4, st4⟩ := getF X3 hx hZ hown (host := "") (Or.inl (hw _ (List.mem_of_getElem? (i := 21) rfl))) Via.refl e3 HF4 (g := (mkF m 68 #[rv a0, iv p1, iv p2, iv p3] [(.ref a0), (.ref a1)])) rfl rfl (hb hby own_d4_68)
  refine ownGo (T' := T4) (f' := (mkF m 71 #[rv a0, iv p1, iv p2, iv p3] [(.int (1 : Int32)), (.ref a1)])) (st4) ?_
  refine ow_iloadN (q := 72) X4 hx (hb hby own_d4_71) rfl rfl ?_
  obtain ⟨T5, h5, X5, e5, W5, F5s, st5⟩ := ownIastore HF5 X4 hx hZ e4 (j := (1 : Int32)) (by unfold ownIn; decide) (g := (mkF m 72 #[rv a0, iv p1, iv p2, iv p3] [(.int p1), (.int (1 : Int32)), (.ref a1)])) rfl rfl (hb hby own_d4_72)
  have F5r : ownAI Z h5 a1 .int 8 (ownUpd g1 1 p1) := F5s
  have N5 := Fr.snoc X5 N0 G_a1
  have K5 : Keep h0 h5 [a0, a1, a2, a3] := K0.wr W5 (Or.inl (List.mem_of_getElem? (i := 1) rfl))
  have F6 : Exa Z h5 a0 "com/example/vellum4/vellum4/PatternCode" := HF0.wr W5
  have F7 : Fld Z h5 a0 "com/example/vellum4/vellum4/PatternCode" "operation" "[I" (.ref a1) := HF1.other W5 (Or.inl hn0)
  have F8 : Fld Z h5 a0 "com/example/vellum4/vellum4/PatternCode" "arg" "[I" (.ref a2) := HF2.other W5 (Or.inl hn0)
  have F9 : Fld Z h5 a0 "com/example/vellum4/vellum4/PatternCode" "arg2" "[I" (.ref a3) := HF3.other W5 (Or.inl hn0)
  have F10 : Fld Z h5 a0 "com/example/vellum4/vellum4/PatternCode" "size" "I" (.int (1 : Int32)) := HF4.other W5 (Or.inl hn0)
  have F11 : ownAI Z h5 a2 .int 8 g2 := HF6.other W5 (Ne.symm hn3)
  have F12 : ownAI Z h5 a3 .int 8 g3 := HF7.other W5 (Ne.symm hn4)
  refine ownGo (T' := T5) (f' := (mkF m 73 #[rv a0, iv p1, iv p2, iv p3] [])) (st5) ?_
  refine ow_aloadN (q := 74) X5 hx (hb hby own_d4_73) rfl rfl rfl ?_
  obtain ⟨T13, X13, e13, st13⟩ := getF X5 hx hZ hown (host := "") (Or.inl (hw _ (List.mem_of_getElem? (i := 12) rfl))) Via.refl e5 F8 (g := (mkF m 74 #[rv a0, iv p1, iv p2, iv p3] [(.ref a0)])) rfl rfl (hb hby own_d4_74)
  refine ownGo (T' := T13) (f' := (mkF m 77 #[rv a0, iv p1, iv p2, iv p3] [(.ref a2)])) (st13) ?_
  refine ow_aloadN (q := 78) X13 hx (hb hby own_d4_77) rfl rfl rfl ?_
  obtain ⟨T14, X14, e14, st14⟩ := getF X13 hx hZ hown (host := "") (Or.inl (hw _ (List.mem_of_getElem? (i := 21) rfl))) Via.refl e13 F10 (g := (mkF m 78 #[rv a0, iv p1, iv p2, iv p3] [(.ref a0), (.ref a2)])) rfl rfl (hb hby own_d4_78)
  refine ownGo (T' := T14) (f' := (mkF m 81 #[rv a0, iv p1, iv p2, iv p3] [(.int (1 : Int32)), (.ref a2)])) (st14) ?_
  refine ow_iloadN (q := 82) X14 hx (hb hby own_d4_81) rfl rfl ?_
  obtain ⟨T15, h15, X15, e15, W15, F15s, st15⟩ := ownIastore F11 X14 hx hZ e14 (j := (1 : Int32)) (by unfold ownIn; decide) (g := (mkF m 82 #[rv a0, iv p1, iv p2, iv p3] [(.int p2), (.int (1 : Int32)), (.ref a2)])) rfl rfl (hb hby own_d4_82)
  have F15r : ownAI Z h15 a2 .int 8 (ownUpd g2 1 p2) := F15s
  have N15 := Fr.snoc X15 N5 G_a2
  have K15 : Keep h0 h15 [a0, a1, a2, a3] := K5.wr W15 (Or.inl (List.mem_of_getElem? (i := 2) rfl))
  have F16 : Exa Z h15 a0 "com/example/vellum4/vellum4/PatternCode" := F6.wr W15
  have F17 : Fld Z h15 a0 "com/example/vellum4/vellum4/PatternCode" "operation" "[I" (.ref a1) := F7.other W15 (Or.inl hn1)
  have F18 : Fld Z h15 a0 "com/example/vellum4/vellum4/PatternCode" "arg" "[I" (.ref a2) := F8.other W15 (Or.inl hn1)
  have F19 : Fld Z h15 a0 "com/example/vellum4/vellum4/PatternCode" "arg2" "[I" (.ref a3) := F9.other W15 (Or.inl hn1)
  have F20 : Fld Z h15 a0 "com/example/vellum4/vellum4/PatternCode" "size" "I" (.int (1 : Int32)) := F10.other W15 (Or.inl hn1)
  have F21 : ownAI Z h15 a3 .int 8 g3 := F12.other W15 (Ne.symm hn5)
  have F22 : ownAI Z h15 a1 .int 8 (ownUpd g1 1 p1) := F5r.other W15 hn3
  refine ownGo (T' := T15) (f' := (mkF m 83 #[rv a0, iv p1, iv p2, iv p3] [])) (st15) ?_
  refine ow_aloadN (q := 84) X15 hx (hb hby own_d4_83) rfl rfl rfl ?_
  obtain ⟨T23, X23, e23, st23⟩ := getF X15 hx hZ hown (host := "") (Or.inl (hw _ (List.mem_of_getElem? (i := 14) rfl))) Via.refl e15 F19 (g := (mkF m 84 #[rv a0, iv p1, iv p2, iv p3] [(.ref a0)])) rfl rfl (hb hby own_d4_84)
  refine ownGo (T' := T23) (f' := (mkF m 87 #[rv a0, iv p1, iv p2, iv p3] [(.ref a3)])) (st23) ?_
  refine ow_aloadN (q := 88) X23 hx (hb hby own_d4_87) rfl rfl rfl ?_
  obtain ⟨T24, X24, e24, st24⟩ := getF X23 hx hZ hown (host := "") (Or.inl (hw _ (List.mem_of_getElem? (i := 21) rfl))) Via.refl e23 F20 (g := (mkF m 88 #[rv a0, iv p1, iv p2, iv p3] [(.ref a0), (.ref a3)])) rfl rfl (hb hby own_d4_88)
  refine ownGo (T' := T24) (f' := (mkF m 91 #[rv a0, iv p1, iv p2, iv p3] [(.int (1 : Int32)), (.ref a3)])) (st24) ?_
  refine ow_iloadN (q := 92) X24 hx (hb hby own_d4_91) rfl rfl ?_
  obtain ⟨T25, h25, X25, e25, W25, F25s, st25⟩ := ownIastore F21 X24 hx hZ e24 (j := (1 : Int32)) (by unfold ownIn; decide) (g := (mkF m 92 #[rv a0, iv p1, iv p2, iv p3] [(.int p3), (.int (1 : Int32)), (.ref a3)])) rfl rfl (hb hby own_d4_92)
  have F25r : ownAI Z h25 a3 .int 8 (ownUpd g3 1 p3) := F25s
  have N25 := Fr.snoc X25 N15 G_a3
  have K25 : Keep h0 h25 [a0, a1, a2, a3] := K15.wr W25 (Or.inl (List.mem_of_getElem? (i := 3) rfl))
  have F26 : Exa Z h25 a0 "com/example/vellum4/vellum4/PatternCode" := F16.wr W25
  have F27 : Fld Z h25 a0 "com/example/vellum4/vellum4/PatternCode" "operation" "[I" (.ref a1) := F17.other W25 (Or.inl hn2)
  have F28 : Fld Z h25 a0 "com/example/vellum4/vellum4/PatternCode" "arg" "[I" (.ref a2) := F18.other W25 (Or.inl hn2)
  have F29 : Fld Z h25 a0 "com/example/vellum4/vellum4/PatternCode" "arg2" "[I" (.ref a3) := F19.other W25 (Or.inl hn2)
  have F30 : Fld Z h25 a0 "com/example/vellum4/vellum4/PatternCode" "size" "I" (.int (1 : Int32)) := F20.other W25 (Or.inl hn2)
  have F31 : ownAI Z h25 a1 .int 8 (ownUpd g1 1 p1) := F22.other W25 hn4
  have F32 : ownAI Z h25 a2 .int 8 (ownUpd g2 1 p2) := F15r.other W25 hn5
  refine ownGo (T' := T25) (f' := (mkF m 93 #[rv a0, iv p1, iv p2, iv p3] [])) (st25) ?_
  refine ow_aloadN (q := 94) X25 hx (hb hby own_d4_93) rfl rfl rfl ?_
  refine ow_dup (q := 95) X25 hx (hb hby own_d4_94) rfl rfl ?_
  obtain ⟨T33, X33, e33, st33⟩ := getF X25 hx hZ hown (host := "") (Or.inl (hw _ (List.mem_of_getElem? (i := 21) rfl))) Via.refl e25 F30 (g := (mkF m 95 #[rv a0, iv p1, iv p2, iv p3] [(.ref a0), (.ref a0)])) rfl rfl (hb hby own_d4_95)
  refine ownGo (T' := T33) (f' := (mkF m 98 #[rv a0, iv p1, iv p2, iv p3] [(.int (1 : Int32)), (.ref a0)])) (st33) ?_
  refine ow_dupX1 (q := 99) X33 hx (hb hby own_d4_98) rfl rfl rfl ?_
  refine ow_iconst (q := 100) X33 hx (1 : Int32) (hb hby own_d4_99) rfl rfl ?_
  refine ow_iadd (q := 101) X33 hx (2 : Int32) (hb hby own_d4_100) rfl (by decide) ?_
  obtain ⟨T34, h34, X34, e34, W34, st34⟩ := putF X33 hx hZ hown (host := "") (Or.inl (hw _ (List.mem_of_getElem? (i := 21) rfl))) Via.refl e33 F30 F26 (Or.inl (hw _ (List.mem_of_getElem? (i := 22) rfl))) (hw _ (List.mem_of_getElem? (i := 1) rfl)) (ty := .int) (by decide) rfl rfl (g := (mkF m 101 #[rv a0, iv p1, iv p2, iv p3] [(.int (2 : Int32)), (.ref a0), (.int (1 : Int32))])) rfl rfl (hb hby own_d4_101)
  have N34 := Fr.snoc X34 N25 G_a0
  have K34 : Keep h0 h34 [a0, a1, a2, a3] := K25.wr W34 (Or.inl (List.mem_of_getElem? (i := 0) rfl))
  have F35 : Exa Z h34 a0 "com/example/vellum4/vellum4/PatternCode" := F26.wr W34
  have F36 : Fld Z h34 a0 "com/example/vellum4/vellum4/PatternCode" "operation" "[I" (.ref a1) := F27.other W34 (Or.inr (slot_ne (Or.inl (hw _ (List.mem_of_getElem? (i := 11) rfl))) (Or.inl (hw _ (List.mem_of_getElem? (i := 22) rfl))) (by decide) (t := (.array .int)) (t' := .int) (by decide) (by decide)))
  have F37 : Fld Z h34 a0 "com/example/vellum4/vellum4/PatternCode" "arg" "[I" (.ref a2) := F28.other W34 (Or.inr (slot_ne (Or.inl (hw _ (List.mem_of_getElem? (i := 13) rfl))) (Or.inl (hw _ (List.mem_of_getElem? (i := 22) rfl))) (by decide) (t := (.array .int)) (t' := .int) (by decide) (by decide)))
  have F38 : Fld Z h34 a0 "com/example/vellum4/vellum4/PatternCode" "arg2" "[I" (.ref a3) := F29.other W34 (Or.inr (slot_ne (Or.inl (hw _ (List.mem_of_getElem? (i := 15) rfl))) (Or.inl (hw _ (List.mem_of_getElem? (i := 22) rfl))) (by decide) (t := (.array .int)) (t' := .int) (by decide) (by decide)))
  have F39 : Fld Z h34 a0 "com/example/vellum4/vellum4/PatternCode" "size" "I" (.int (2 : Int32)) := F30.same W34
  have F40 : ownAI Z h34 a1 .int 8 (ownUpd g1 1 p1) := F31.other W34 (Ne.symm hn0)
  have F41 : ownAI Z h34 a2 .int 8 (ownUpd g2 1 p2) := F32.other W34 (Ne.symm hn1)
  have F42 : ownAI Z h34 a3 .int 8 (ownUpd g3 1 p3) := F25r.other W34 (Ne.symm hn2)
  refine ownGo (T' := T34) (f' := (mkF m 104 #[rv a0, iv p1, iv p2, iv p3] [(.int (1 : Int32))])) (st34) ?_
  refine ownRetI X34 hx Bd.returns (hb hby own_d4_104) hlk (by decide) (by decide) ?_
  rw [e34]
  exact ⟨rfl, N34, K34, F35, F36, F37, F38, F39, F40, F41, F42⟩
theorem own_ef4_emit_2 (m : MethodId) (a0 : Addr) (p1 : Int32) (p2 : Int32) (p3 : Int32) : entryFrame m #[(.ref a0), (.int p1), (.int p2), (.int p3)] 4 = mkF m 0 #[rv a0, iv p1, iv p2, iv p3] [] := by first | (simp [entryFrame, mkF, argsToLocals, Value.category]; done) | rfl
def Q_emit_2 (Z : State) (a0 : Addr) (p1 : Int32) (p2 : Int32) (p3 : Int32) (a1 : Addr) (a2 : Addr) (a3 : Addr) (g1 : Nat → Int32) (g2 : Nat → Int32) (g3 : Nat → Int32) (h0 : Heap) (n0 : Nat) (v : Option Value) (h : Heap) (L : List Loc) : Prop := v = some (.int (2 : Int32)) ∧ Fr n0 L ∧ Keep h0 h [a0, a1, a2, a3] ∧ Exa Z h a0 "com/example/vellum4/vellum4/PatternCode" ∧ Fld Z h a0 "com/example/vellum4/vellum4/PatternCode" "operation" "[I" (.ref a1) ∧ Fld Z h a0 "com/example/vellum4/vellum4/PatternCode" "arg" "[I" (.ref a2) ∧ Fld Z h a0 "com/example/vellum4/vellum4/PatternCode" "arg2" "[I" (.ref a3) ∧ Fld Z h a0 "com/example/vellum4/vellum4/PatternCode" "size" "I" (.int (3 : Int32)) ∧ ownAI Z h a1 .int 8 (ownUpd g1 2 p1) ∧ ownAI Z h a2 .int 8 (ownUpd g2 2 p2) ∧ ownAI Z h a3 .int 8 (ownUpd g3 2 p3)
set_option maxRecDepth 65536 in
set_option maxHeartbeats 40000000 in
theorem rm_emit_2 (l : Launch) (Z : State) (a0 : Array Value) (hw : ∀ d ∈ tables_1, d.before a0 Z = true) (ws : List Jvm.Cond) (a0 : Addr) (p1 : Int32) (p2 : Int32) (p3 : Int32) (a1 : Addr) (a2 : Addr) (a3 : Addr) (g1 : Nat → Int32) (g2 : Nat → Int32) (g3 : Nat → Int32) (h0 : Heap) (n0 : Nat) (Z0 : n0 ≤ h0.size) (HF0 : Exa Z h0 a0 "com/example/vellum4/vellum4/PatternCode") (HF1 : Fld Z h0 a0 "com/example/vellum4/vellum4/PatternCode" "operation" "[I" (.ref a1)) (HF2 : Fld Z h0 a0 "com/example/vellum4/vellum4/PatternCode" "arg" "[I" (.ref a2)) (HF3 : Fld Z h0 a0 "com/example/vellum4/vellum4/PatternCode" "arg2" "[I" (.ref a3)) (HF4 : Fld Z h0 a0 "com/example/vellum4/vellum4/PatternCode" "size" "I" (.int (2 : Int32))) (HF5 : ownAI Z h0 a1 .int 8 g1) (HF6 : ownAI Z h0 a2 .int 8 g2) (HF7 : ownAI Z h0 a3 .int 8 g3) (G_a0 : n0 ≤ a0) (G_a1 : n0 ≤ a1) (G_a2 : n0 ≤ a2) (G_a3 : n0 ≤ a3) (hn0 : a0 ≠ a1) (hn1 : a0 ≠ a2) (hn2 : a0 ≠ a3) (hn3 : a1 ≠ a2) (hn4 : a1 ≠ a3) (hn5 : a2 ≠ a3) :
    MetFree l (⟨"com/example/vellum4/vellum4/PatternCode", "emitUnchecked", "(III)I"⟩ : MethodName) (head1 (Jvm.Cond.code (⟨"com/example/vellum4/vellum4/PatternCode", "emitUnchecked", "(III)I"⟩ : MethodName) prog_15_method_3_code 4 (some .int) :: ws) ({ frames := 0, cells := 0, slots := 0, locals := 0 } : Room)) (fun a U => a = #[(.ref a0), (.int p1), (.int p2), (.int p3)] ∧ Z.Warmed39 U.vm ∧ U.heap = h0) (fun _ _ _ _ _ => True) (fun _ U o U' => ∃ v L, o = .returned v ∧ (Q_emit_2 Z a0 p1 p2 p3 a1 a2 a3 g1 g2 g3 h0 n0) v U'.heap L ∧ FrameEnd U o U' L ({ frames := 0, cells := 0, slots := 0, locals := 0 } : Room).cells ({ frames := 0, cells := 0, slots := 0, locals := 0 } : Room).slots) := by
  refine MetFree.of_bodySF (plainFor_of_name own_pn_PatternCode) hisR ?_
  intro p e s m args below meth c s₁ Bd hml0 hP hK
  obtain ⟨rfl, hZ, hh⟩ := hP
  have hx := Bd.exec
  have hby := Bd.bytes
  have hml : c.maxLocals = 4 := hml0
  have hown : s.vm.findClass "com/example/vellum4/vellum4/PatternCode" = some m.cls := findClass_of_methodNamed Bd.named
  have hnm := (name_of_methodNamed Bd.named Bd.method).1
  have hlk : meth.locks = false := BodyLoose.notSynchronized Bd
  have X0 : Stand p l e ({ frames := 0, cells := 0, slots := 0, locals := 0 } : Room) s m #[(.ref a0), (.int p1), (.int p2), (.int p3)] below meth c s₁ [] 0 0 := Stand.of_body Bd
  have e0 : s₁.heap = h0 := by rw [← hh, Bd.state]; rfl
  have N0 := Fr.nil n0
  have K0 : Keep h0 h0 [a0, a1, a2, a3] := Keep.refl _ _
  show ownEnds p e below s (Q_emit_2 Z a0 p1 p2 p3 a1 a2 a3 g1 g2 g3 h0 n0) ({ frames := 0, cells := 0, slots := 0, locals := 0 } : Room).cells ({ frames := 0, cells := 0, slots := 0, locals := 0 } : Room).slots s₁ (entryFrame m #[(.ref a0), (.int p1), (.int p2), (.int p3)] 4)
  refine ownCast (own_ef4_emit_2 m a0 p1 p2 p3) ?_
  refine ow_aloadN (q := 1) X0 hx (hb hby own_d4_0) rfl rfl rfl ?_
  obtain ⟨T1, X1, e1, st1⟩ := getF X0 hx hZ hown (host := "") (Or.inl (hw _ (List.mem_of_getElem? (i := 21) rfl))) Via.refl e0 HF4 (g := (mkF m 1 #[rv a0, iv p1, iv p2, iv p3] [(.ref a0)])) rfl rfl (hb hby own_d4_1)
  refine ownGo (T' := T1) (f' := (mkF m 4 #[rv a0, iv p1, iv p2, iv p3] [(.int (2 : Int32))])) (st1) ?_
  refine ow_aloadN (q := 5) X1 hx (hb hby own_d4_4) rfl rfl rfl ?_
  obtain ⟨T2, X2, e2, st2⟩ := getF X1 hx hZ hown (host := "") (Or.inl (hw _ (List.mem_of_getElem? (i := 10) rfl))) Via.refl e1 HF1 (g := (mkF m 5 #[rv a0, iv p1, iv p2, iv p3] [(.ref a0), (.int (2 : Int32))])) rfl rfl (hb hby own_d4_5)
  refine ownGo (T' := T2) (f' := (mkF m 8 #[rv a0, iv p1, iv p2, iv p3] [(.ref a1), (.int (2 : Int32))])) (st2) ?_
  refine ownGo (T' := T2) (f' := (mkF m 9 #[rv a0, iv p1, iv p2, iv p3] [(.int (8 : Int32)), (.int (2 : Int32))])) (ownLenI HF5 X2 hx hZ e2 (z := (8 : Int32)) (by decide) (g := (mkF m 8 #[rv a0, iv p1, iv p2, iv p3] [(.ref a1), (.int (2 : Int32))])) rfl rfl (hb hby own_d4_8)) ?_
  refine ow_icmpYes (q := 63) X2 hx (hb hby own_d4_9) (Jvm.Free.XT.ii_ne_t (by decide)) (by decide) (by decide) ?_
  refine ow_aloadN (q := 64) X2 hx (hb hby own_d4_63) rfl rfl rfl ?_
  obtain ⟨T3, X3, e3, st3⟩ := getF X2 hx hZ hown (host := "") (Or.inl (hw _ (List.mem_of_getElem? (i := 10) rfl))) Via.refl e2 HF1 (g := (mkF m 64 #[rv a0, iv p1, iv p2, iv p3] [(.ref a0)])) rfl rfl (hb hby own_d4_64)
  refine ownGo (T' := T3) (f' := (mkF m 67 #[rv a0, iv p1, iv p2, iv p3] [(.ref a1)])) (st3) ?_
  refine ow_aloadN (q := 68) X3 hx (hb hby own_d4_67) rfl rfl rfl ?_
  obtain ⟨T4, X4, e4, st4⟩ := getF X3 hx hZ hown (host := "") (Or.inl (hw _ (List.mem_of_getElem? (i := 21) rfl))) Via.refl e3 HF4 (g := (mkF m 68 #[rv a0, iv p1, iv p2, iv p3] [(.ref a0), (.ref a1)])) rfl rfl (hb hby own_d4_68)
  refine ownGo (T' := T4) (f' := (mkF m 71 #[rv a0, iv p1, iv p2, iv p3] [(.int (2 : Int32)), (.ref a1)])) (st4) ?_
  refine ow_iloadN (q := 72) X4 hx (hb hby own_d4_71) rfl rfl ?_
  obtain ⟨T5, h5, X5, e5, W5, F5s, st5⟩ := ownIastore HF5 X4 hx hZ e4 (j := (2 : Int32)) (by unfold ownIn; decide) (g := (mkF m 72 #[rv a0, iv p1, iv p2, iv p3] [(.int p1), (.int (2 : Int32)), (.ref a1)])) rfl rfl (hb hby own_d4_72)
  have F5r : ownAI Z h5 a1 .int 8 (ownUpd g1 2 p1) := F5s
  have N5 := Fr.snoc X5 N0 G_a1
  have K5 : Keep h0 h5 [a0, a1, a2, a3] := K0.wr W5 (Or.inl (List.mem_of_getElem? (i := 1) rfl))
  have F6 : Exa Z h5 a0 "com/example/vellum4/vellum4/PatternCode" := HF0.wr W5
  have F7 : Fld Z h5 a0 "com/example/vellum4/vellum4/PatternCode" "operation" "[I" (.ref a1) := HF1.other W5 (Or.inl hn0)
  have F8 : Fld Z h5 a0 "com/example/vellum4/vellum4/PatternCode" "arg" "[I" (.ref a2) := HF2.other W5 (Or.inl hn0)
  have F9 : Fld Z h5 a0 "com/example/vellum4/vellum4/PatternCode" "arg2" "[I" (.ref a3) := HF3.other W5 (Or.inl hn0)
  have F10 : Fld Z h5 a0 "com/example/vellum4/vellum4/PatternCode" "size" "I" (.int (2 : Int32)) := HF4.other W5 (Or.inl hn0)
  have F11 : ownAI Z h5 a2 .int 8 g2 := HF6.other W5 (Ne.symm hn3)
  have F12 : ownAI Z h5 a3 .int 8 g3 := HF7.other W5 (Ne.symm hn4)
  refine ownGo (T' := T5) (f' := (mkF m 73 #[rv a0, iv p1, iv p2, iv p3] [])) (st5) ?_
  refine ow_aloadN (q := 74) X5 hx (hb hby own_d4_73) rfl rfl rfl ?_
  obtain ⟨T13, X13, e13, st13⟩ := getF X5 hx hZ hown (host := "") (Or.inl (hw _ (List.mem_of_getElem? (i := 12) rfl))) Via.refl e5 F8 (g := (mkF m 74 #[rv a0, iv p1, iv p2, iv p3] [(.ref a0)])) rfl rfl (hb hby own_d4_74)
  refine ownGo (T' := T13) (f' := (mkF m 77 #[rv a0, iv p1, iv p2, iv p3] [(.ref a2)])) (st13) ?_
  refine ow_aloadN (q := 78) X13 hx (hb hby own_d4_77) rfl rfl rfl ?_
  obtain ⟨T14, X14, e14, st14⟩ := getF X13 hx hZ hown (host := "") (Or.inl (hw _ (List.mem_of_getElem? (i := 21) rfl))) Via.refl e13 F10 (g := (mkF m 78 #[rv a0, iv p1, iv p2, iv p3] [(.ref a0), (.ref a2)])) rfl rfl (hb hby own_d4_78)
  refine ownGo (T' := T14) (f' := (mkF m 81 #[rv a0, iv p1, iv p2, iv p3] [(.int (2 : Int32)), (.ref a2)])) (st14) ?_
  refine ow_iloadN (q := 82) X14 hx (hb hby own_d4_81) rfl rfl ?_
  obtain ⟨T15, h15, X15, e15, W15, F15s, st15⟩ := ownIastore F11 X14 hx hZ e14 (j := (2 : Int32)) (by unfold ownIn; decide) (g := (mkF m 82 #[rv a0, iv p1, iv p2, iv p3] [(.int p2), (.int (2 : Int32)), (.ref a2)])) rfl rfl (hb hby own_d4_82)
  have F15r : ownAI Z h15 a2 .int 8 (ownUpd g2 2 p2) := F15s
  have N15 := Fr.snoc X15 N5 G_a2
  have K15 : Keep h0 h15 [a0, a1, a2, a3] := K5.wr W15 (Or.inl (List.mem_of_getElem? (i := 2) rfl))
  have F16 : Exa Z h15 a0 "com/example/vellum4/vellum4/PatternCode" := F6.wr W15
  have F17 : Fld Z h15 a0 "com/example/vellum4/vellum4/PatternCode" "operation" "[I" (.ref a1) := F7.other W15 (Or.inl hn1)
  have F18 : Fld Z h15 a0 "com/example/vellum4/vellum4/PatternCode" "arg" "[I" (.ref a2) := F8.other W15 (Or.inl hn1)
  have F19 : Fld Z h15 a0 "com/example/vellum4/vellum4/PatternCode" "arg2" "[I" (.ref a3) := F9.other W15 (Or.inl hn1)
  have F20 : Fld Z h15 a0 "com/example/vellum4/vellum4/PatternCode" "size" "I" (.int (2 : Int32)) := F10.other W15 (Or.inl hn1)
  have F21 : ownAI Z h15 a3 .int 8 g3 := F12.other W15 (Ne.symm hn5)
  have F22 : ownAI Z h15 a1 .int 8 (ownUpd g1 2 p1) := F5r.other W15 hn3
  refine ownGo (T' := T15) (f' := (mkF m 83 #[rv a0, iv p1, iv p2, iv p3] [])) (st15) ?_
  refine ow_aloadN (q := 84) X15 hx (hb hby own_d4_83) rfl rfl rfl ?_
  obtain ⟨T23, X23, e23, st23⟩ := getF X15 hx hZ hown (host := "") (Or.inl (hw _ (List.mem_of_getElem? (i := 14) rfl))) Via.refl e15 F19 (g := (mkF m 84 #[rv a0, iv p1, iv p2, iv p3] [(.ref a0)])) rfl rfl (hb hby own_d4_84)
  refine ownGo (T' := T23) (f' := (mkF m 87 #[rv a0, iv p1, iv p2, iv p3] [(.ref a3)])) (st23) ?_
  refine ow_aloadN (q := 88) X23 hx (hb hby own_d4_87) rfl rfl rfl ?_
  obtain ⟨T24, X24, e24, st24⟩ := getF X23 hx hZ hown (host := "") (Or.inl (hw _ (List.mem_of_getElem? (i := 21) rfl))) Via.refl e23 F20 (g := (mkF m 88 #[rv a0, iv p1, iv p2, iv p3] [(.ref a0), (.ref a3)])) rfl rfl (hb hby own_d4_88)
  refine ownGo (T' := T24) (f' := (mkF m 91 #[rv a0, iv p1, iv p2, iv p3] [(.int (2 : Int32)), (.ref a3)])) (st24) ?_
  refine ow_iloadN (q := 92) X24 hx (hb hby own_d4_91) rfl rfl ?_
  obtain ⟨T25, h25, X25, e25, W25, F25s, st25⟩ := ownIastore F21 X24 hx hZ e24 (j := (2 : Int32)) (by unfold ownIn; decide) (g := (mkF m 92 #[rv a0, iv p1, iv p2, iv p3] [(.int p3), (.int (2 : Int32)), (.ref a3)])) rfl rfl (hb hby own_d4_92)
  have F25r : ownAI Z h25 a3 .int 8 (ownUpd g3 2 p3) := F25s
  have N25 := Fr.snoc X25 N15 G_a3
  have K25 : Keep h0 h25 [a0, a1, a2, a3] := K15.wr W25 (Or.inl (List.mem_of_getElem? (i := 3) rfl))
  have F26 : Exa Z h25 a0 "com/example/vellum4/vellum4/PatternCode" := F16.wr W25
  have F27 : Fld Z h25 a0 "com/example/vellum4/vellum4/PatternCode" "operation" "[I" (.ref a1) := F17.other W25 (Or.inl hn2)
  have F28 : Fld Z h25 a0 "com/example/vellum4/vellum4/PatternCode" "arg" "[I" (.ref a2) := F18.other W25 (Or.inl hn2)
  have F29 : Fld Z h25 a0 "com/example/vellum4/vellum4/PatternCode" "arg2" "[I" (.ref a3) := F19.other W25 (Or.inl hn2)
  have F30 : Fld Z h25 a0 "com/example/vellum4/vellum4/PatternCode" "size" "I" (.int (2 : Int32)) := F20.other W25 (Or.inl hn2)
  have F31 : ownAI Z h25 a1 .int 8 (ownUpd g1 2 p1) := F22.other W25 hn4
  have F32 : ownAI Z h25 a2 .int 8 (ownUpd g2 2 p2) := F15r.other W25 hn5
  refine ownGo (T' := T25) (f' := (mkF m 93 #[rv a0, iv p1, iv p2, iv p3] [])) (st25) ?_
  refine ow_aloadN (q := 94) X25 hx (hb hby own_d4_93) rfl rfl rfl ?_
  refine ow_dup (q := 95) X25 hx (hb hby own_d4_94) rfl rfl ?_
  obtain ⟨T33, X33, e33, st33⟩ := getF X25 hx hZ hown (host := "") (Or.inl (hw _ (List.mem_of_getElem? (i := 21) rfl))) Via.refl e25 F30 (g := (mkF m 95 #[rv a0, iv p1, iv p2, iv p3] [(.ref a0), (.ref a0)])) rfl rfl (hb hby own_d4_95)
  refine ownGo (T' := T33) (f' := (mkF m 98 #[rv a0, iv p1, iv p2, iv p3] [(.int (2 : Int32)), (.ref a0)])) (st33) ?_
  refine ow_dupX1 (q := 99) X33 hx (hb hby own_d4_98) rfl rfl rfl ?_
  refine ow_iconst (q := 100) X33 hx (1 : Int32) (hb hby own_d4_99) rfl rfl ?_
  refine ow_iadd (q := 101) X33 hx (3 : Int32) (hb hby own_d4_100) rfl (by decide) ?_
  obtain ⟨T34, h34, X34, e34, W34, st34⟩ := putF X33 hx hZ hown (host := "") (Or.inl (hw _ (List.mem_of_getElem? (i := 21) rfl))) Via.refl e33 F30 F26 (Or.inl (hw _ (List.mem_of_getElem? (i := 22) rfl))) (hw _ (List.mem_of_getElem? (i := 1) rfl)) (ty := .int) (by decide) rfl rfl (g := (mkF m 101 #[rv a0, iv p1, iv p2, iv p3] [(.int (3 : Int32)), (.ref a0), (.int (2 : Int32))])) rfl rfl (hb hby own_d4_101)
  have N34 := Fr.snoc X34 N25 G_a0
  have K34 : Keep h0 h34 [a0, a1, a2, a3] := K25.wr W34 (Or.inl (List.mem_of_getElem? (i := 0) rfl))
  have F35 : Exa Z h34 a0 "com/example/vellum4/vellum4/PatternCode" := F26.wr W34
  have F36 : Fld Z h34 a0 "com/example/vellum4/vellum4/PatternCode" "operation" "[I" (.ref a1) := F27.other W34 (Or.inr (slot_ne (Or.inl (hw _ (List.mem_of_getElem? (i := 11) rfl))) (Or.inl (hw _ (List.mem_of_getElem? (i := 22) rfl))) (by decide) (t := (.array .int)) (t' := .int) (by decide) (by decide)))
  have F37 : Fld Z h34 a0 "com/example/vellum4/vellum4/PatternCode" "arg" "[I" (.ref a2) := F28.other W34 (Or.inr (slot_ne (Or.inl (hw _ (List.mem_of_getElem? (i := 13) rfl))) (Or.inl (hw _ (List.mem_of_getElem? (i := 22) rfl))) (by decide) (t := (.array .int)) (t' := .int) (by decide) (by decide)))
  have F38 : Fld Z h34 a0 "com/example/vellum4/vellum4/PatternCode" "arg2" "[I" (.ref a3) := F29.other W34 (Or.inr (slot_ne (Or.inl (hw _ (List.mem_of_getElem? (i := 15) rfl))) (Or.inl (hw _ (List.mem_of_getElem? (i := 22) rfl))) (by decide) (t := (.array .int)) (t' := .int) (by decide) (by decide)))
  have F39 : Fld Z h34 a0 "com/example/vellum4/vellum4/PatternCode" "size" "I" (.int (3 : Int32)) := F30.same W34
  have F40 : ownAI Z h34 a1 .int 8 (ownUpd g1 2 p1) := F31.other W34 (Ne.symm hn0)
  have F41 : ownAI Z h34 a2 .int 8 (ownUpd g2 2 p2) := F32.other W34 (Ne.symm hn1)
  have F42 : ownAI Z h34 a3 .int 8 (ownUpd g3 2 p3) := F25r.other W34 (Ne.symm hn2)
  refine ownGo (T' := T34) (f' := (mkF m 104 #[rv a0, iv p1, iv p2, iv p3] [(.int (2 : Int32))])) (st34) ?_
  refine ownRetI X34 hx Bd.returns (hb hby own_d4_104) hlk (by decide) (by decide) ?_
  rw [e34]
  exact ⟨rfl, N34, K34, F35, F36, F37, F38, F39, F40, F41, F42⟩
theorem own_d3_0 : decode prog_15_method_6_code 0 = .ok (.iconst 0, 1) := by decide +kernel
theorem own_d3_1 : decode prog_15_method_6_code 1 = .ok (.istore_n 2, 1) := by decide +kernel
theorem own_d3_2 : decode prog_15_method_6_code 2 = .ok (.iconst 0, 1) := by decide +kernel
theorem own_d3_3 : decode prog_15_method_6_code 3 = .ok (.istore_n 3, 1) := by decide +kernel
theorem own_d3_4 : decode prog_15_method_6_code 4 = .ok (.iload_n 3, 1) := by decide +kernel
theorem own_d3_5 : decode prog_15_method_6_code 5 = .ok (.aload_n 0, 1) := by decide +kernel
theorem own_d3_6 : decode prog_15_method_6_code 6 = .ok (.getfield 19, 3) := by decide +kernel
theorem own_d3_9 : decode prog_15_method_6_code 9 = .ok (.if_icmp .ge 29, 3) := by decide +kernel
theorem own_d3_38 : decode prog_15_method_6_code 38 = .ok (.iload_n 2, 1) := by decide +kernel
theorem own_d3_39 : decode prog_15_method_6_code 39 = .ok (.ireturn, 1) := by decide +kernel
theorem own_ef3_contains_0 (m : MethodId) (a0 : Addr) (p1 : Int32) : entryFrame m #[(.ref a0), (.int p1)] 4 = mkF m 0 #[rv a0, iv p1, .unset, .unset] [] := by first | (simp [entryFrame, mkF, argsToLocals, Value.category]; done) | rfl
def Q_contains_0 (Z : State) (a0 : Addr) (p1 : Int32) (a1 : Addr) (gi : Nat → Int32) (h0 : Heap) (n0 : Nat) (v : Option Value) (h : Heap) (L : List Loc) : Prop := v = some (.int (0 : Int32)) ∧ Fr n0 L ∧ h = h0
set_option maxRecDepth 65536 in
set_option maxHeartbeats 40000000 in
theorem rm_contains_0 (l : Launch) (Z : State) (a0 : Array Value) (hw : ∀ d ∈ tables_1, d.before a0 Z = true) (ws : List Jvm.Cond) (a0 : Addr) (p1 : Int32) (a1 : Addr) (gi : Nat → Int32) (h0 : Heap) (n0 : Nat) (Z0 : n0 ≤ h0.size) (HF0 : Fld Z h0 a0 "com/example/vellum4/vellum4/PatternCode" "size" "I" (.int (0 : Int32))) (HF1 : Fld Z h0 a0 "com/example/vellum4/vellum4/PatternCode" "operation" "[I" (.ref a1)) (HF2 : ownAI Z h0 a1 .int 8 gi) :
    MetFree l (⟨"com/example/vellum4/vellum4/PatternCode", "contains", "(I)Z"⟩ : MethodName) (head1 (Jvm.Cond.code (⟨"com/example/vellum4/vellum4/PatternCode", "contains", "(I)Z"⟩ : MethodName) prog_15_method_6_code 4 (some .boolean) :: ws) ({ frames := 0, cells := 0, slots := 0, locals := 0 } : Room)) (fun a U => a = #[(.ref a0), (.int p1)] ∧ Z.Warmed39 U.vm ∧ U.heap = h0) (fun _ _ _ _ _ => True) (fun _ U o U' => ∃ v L, o = .returned v ∧ (Q_contains_0 Z a0 p1 a1 gi h0 n0) v U'.heap L ∧ FrameEnd U o U' L ({ frames := 0, cells := 0, slots := 0, locals := 0 } : Room).cells ({ frames := 0, cells := 0, slots := 0, locals := 0 } : Room).slots) := by
  refine MetFree.of_bodySF (plainFor_of_name own_pn_PatternCode) hisR ?_
  intro p e s m args below meth c s₁ Bd hml0 hP hK
  obtain ⟨rfl, hZ, hh⟩ := hP
  have hx := Bd.exec
  have hby := Bd.bytes
  have hml : c.maxLocals = 4 := hml0
  have hown : s.vm.findClass "com/example/vellum4/vellum4/PatternCode" = some m.cls := findClass_of_methodNamed Bd.named
  have hnm := (name_of_methodNamed Bd.named Bd.method).1
  have hlk : meth.locks = false := BodyLoose.notSynchronized Bd
  have X0 : Stand p l e ({ frames := 0, cells := 0, slots := 0, locals := 0 } : Room) s m #[(.ref a0), (.int p1)] below meth c s₁ [] 0 0 := Stand.of_body Bd
  have e0 : s₁.heap = h0 := by rw [← hh, Bd.state]; rfl
  have N0 := Fr.nil n0
  have K0 : Keep h0 h0 [] := Keep.refl _ _
  show ownEnds p e below s (Q_contains_0 Z a0 p1 a1 gi h0 n0) ({ frames := 0, cells := 0, slots := 0, locals := 0 } : Room).cells ({ frames := 0, cells := 0, slots := 0, locals := 0 } : Room).slots s₁ (entryFrame m #[(.ref a0), (.int p1)] 4)
  refine ownCast (own_ef3_contains_0 m a0 p1) ?_
  refine ow_iconst (q := 1) X0 hx (0 : Int32) (hb hby own_d3_0) rfl rfl ?_
  refine ow_istoreN (q := 2) X0 hx (L' := #[rv a0, iv p1, iv (0 : Int32), .unset]) (hb hby own_d3_1) rfl rfl ?_
  refine ow_iconst (q := 3) X0 hx (0 : Int32) (hb hby own_d3_2) rfl rfl ?_
  refine ow_istoreN (q := 4) X0 hx (L' := #[rv a0, iv p1, iv (0 : Int32), iv (0 : Int32)]) (hb hby own_d3_3) rfl rfl ?_
  refine ow_iloadN (q := 5) X0 hx (hb hby own_d3_4) rfl rfl ?_
  refine ow_aloadN (q := 6) X0 hx (hb hby own_d3_5) rfl rfl rfl ?_
  obtain ⟨T1, X1, e1, st1⟩ := getF X0 hx hZ hown (host := "") (Or.inl (hw _ (List.mem_of_getElem? (i := 21) rfl))) Via.refl e0 HF0 (g := (mkF m 6 #[rv a0, iv p1, iv (0 : Int32), iv (0 : Int32)] [(.ref a0), (.int (0 : Int32))])) rfl rfl (hb hby own_d3_6)
  refine ownGo (T' := T1) (f' := (mkF m 9 #[rv a0, iv p1, iv (0 : Int32), iv (0 : Int32)] [(.int (0 : Int32)), (.int (0 : Int32))])) (st1) ?_
  refine ow_icmpYes (q := 38) X1 hx (hb hby own_d3_9) (Jvm.Free.XT.ii_ge_t (by decide)) (by decide) (by decide) ?_
  refine ow_iloadN (q := 39) X1 hx (hb hby own_d3_38) rfl rfl ?_
  refine ownRetN X1 hx (r := (0 : Int32)) (Or.inl rfl) Bd.returns (hb hby own_d3_39) hlk (by decide) (by decide) (by decide) ?_
  rw [e1]
  exact ⟨rfl, N0, rfl⟩
theorem own_d3_12 : decode prog_15_method_6_code 12 = .ok (.iload_n 2, 1) := by decide +kernel
theorem own_d3_13 : decode prog_15_method_6_code 13 = .ok (.ifCond .ne 25, 3) := by decide +kernel
theorem own_d3_16 : decode prog_15_method_6_code 16 = .ok (.aload_n 0, 1) := by decide +kernel
theorem own_d3_17 : decode prog_15_method_6_code 17 = .ok (.getfield 7, 3) := by decide +kernel
theorem own_d3_20 : decode prog_15_method_6_code 20 = .ok (.iload_n 3, 1) := by decide +kernel
theorem own_d3_21 : decode prog_15_method_6_code 21 = .ok (.iaload, 1) := by decide +kernel
theorem own_d3_22 : decode prog_15_method_6_code 22 = .ok (.iload_n 1, 1) := by decide +kernel
theorem own_d3_23 : decode prog_15_method_6_code 23 = .ok (.if_icmp .ne 7, 3) := by decide +kernel
theorem own_d3_26 : decode prog_15_method_6_code 26 = .ok (.iconst 1, 1) := by decide +kernel
theorem own_d3_27 : decode prog_15_method_6_code 27 = .ok (.goto 4, 3) := by decide +kernel
theorem own_d3_31 : decode prog_15_method_6_code 31 = .ok (.istore_n 2, 1) := by decide +kernel
theorem own_d3_32 : decode prog_15_method_6_code 32 = .ok (.iinc 3 1, 3) := by decide +kernel
theorem own_d3_35 : decode prog_15_method_6_code 35 = .ok (.goto (-31), 3) := by decide +kernel
theorem own_d3_30 : decode prog_15_method_6_code 30 = .ok (.iconst 0, 1) := by decide +kernel
theorem own_ef3_contains_1 (m : MethodId) (a0 : Addr) (p1 : Int32) : entryFrame m #[(.ref a0), (.int p1)] 4 = mkF m 0 #[rv a0, iv p1, .unset, .unset] [] := by first | (simp [entryFrame, mkF, argsToLocals, Value.category]; done) | rfl
def Q_contains_1 (Z : State) (a0 : Addr) (p1 : Int32) (a1 : Addr) (gi : Nat → Int32) (h0 : Heap) (n0 : Nat) (v : Option Value) (h : Heap) (L : List Loc) : Prop := v = some (.int (if gi 0 = p1 then (1 : Int32) else (0 : Int32))) ∧ Fr n0 L ∧ h = h0
set_option maxRecDepth 65536 in
set_option maxHeartbeats 40000000 in
theorem rm_contains_1 (l : Launch) (Z : State) (a0 : Array Value) (hw : ∀ d ∈ tables_1, d.before a0 Z = true) (ws : List Jvm.Cond) (a0 : Addr) (p1 : Int32) (a1 : Addr) (gi : Nat → Int32) (h0 : Heap) (n0 : Nat) (Z0 : n0 ≤ h0.size) (HF0 : Fld Z h0 a0 "com/example/vellum4/vellum4/PatternCode" "size" "I" (.int (1 : Int32))) (HF1 : Fld Z h0 a0 "com/example/vellum4/vellum4/PatternCode" "operation" "[I" (.ref a1)) (HF2 : ownAI Z h0 a1 .int 8 gi) :
    MetFree l (⟨"com/example/vellum4/vellum4/PatternCode", "contains", "(I)Z"⟩ : MethodName) (head1 (Jvm.Cond.code (⟨"com/example/vellum4/vellum4/PatternCode", "contains", "(I)Z"⟩ : MethodName) prog_15_method_6_code 4 (some .boolean) :: ws) ({ frames := 0, cells := 0, slots := 0, locals := 0 } : Room)) (fun a U => a = #[(.ref a0), (.int p1)] ∧ Z.Warmed39 U.vm ∧ U.heap = h0) (fun _ _ _ _ _ => True) (fun _ U o U' => ∃ v L, o = .returned v ∧ (Q_contains_1 Z a0 p1 a1 gi h0 n0) v U'.heap L ∧ FrameEnd U o U' L ({ frames := 0, cells := 0, slots := 0, locals := 0 } : Room).cells ({ frames := 0, cells := 0, slots := 0, locals := 0 } : Room).slots) := by
  refine MetFree.of_bodySF (plainFor_of_name own_pn_PatternCode) hisR ?_
  intro p e s m args below meth c s₁ Bd hml0 hP hK
  obtain ⟨rfl, hZ, hh⟩ := hP
  have hx := Bd.exec
  have hby := Bd.bytes
  have hml : c.maxLocals = 4 := hml0
  have hown : s.vm.findClass "com/example/vellum4/vellum4/PatternCode" = some m.cls := findClass_of_methodNamed Bd.named
  have hnm := (name_of_methodNamed Bd.named Bd.method).1
  have hlk : meth.locks = false := BodyLoose.notSynchronized Bd
  have X0 : Stand p l e ({ frames := 0, cells := 0, slots := 0, locals := 0 } : Room) s m #[(.ref a0), (.int p1)] below meth c s₁ [] 0 0 := Stand.of_body Bd
  have e0 : s₁.heap = h0 := by rw [← hh, Bd.state]; rfl
  have N0 := Fr.nil n0
  have K0 : Keep h0 h0 [] := Keep.refl _ _
  show ownEnds p e below s (Q_contains_1 Z a0 p1 a1 gi h0 n0) ({ frames := 0, cells := 0, slots := 0, locals := 0 } : Room).cells ({ frames := 0, cells := 0, slots := 0, locals := 0 } : Room).slots s₁ (entryFrame m #[(.ref a0), (.int p1)] 4)
  refine ownCast (own_ef3_contains_1 m a0 p1) ?_
  refine ow_iconst (q := 1) X0 hx (0 : Int32) (hb hby own_d3_0) rfl rfl ?_
  refine ow_istoreN (q := 2) X0 hx (L' := #[rv a0, iv p1, iv (0 : Int32), .unset]) (hb hby own_d3_1) rfl rfl ?_
  refine ow_iconst (q := 3) X0 hx (0 : Int32) (hb hby own_d3_2) rfl rfl ?_
  refine ow_istoreN (q := 4) X0 hx (L' := #[rv a0, iv p1, iv (0 : Int32), iv (0 : Int32)]) (hb hby own_d3_3) rfl rfl ?_
  refine ow_iloadN (q := 5) X0 hx (hb hby own_d3_4) rfl rfl ?_
  refine ow_aloadN (q := 6) X0 hx (hb hby own_d3_5) rfl rfl rfl ?_
  obtain ⟨T1, X1, e1, st1⟩ := getF X0 hx hZ hown (host := "") (Or.inl (hw _ (List.mem_of_getElem? (i := 21) rfl))) Via.refl e0 HF0 (g := (mkF m 6 #[rv a0, iv p1, iv (0 : Int32), iv (0 : Int32)] [(.ref a0), (.int (0 : Int32))])) rfl rfl (hb hby own_d3_6)
  refine ownGo (T' := T1) (f' := (mkF m 9 #[rv a0, iv p1, iv (0 : Int32), iv (0 : Int32)] [(.int (1 : Int32)), (.int (0 : Int32))])) (st1) ?_
  refine ow_icmpNo (q := 12) X1 hx (hb hby own_d3_9) rfl (Jvm.Free.XT.ii_ge_f (by decide)) ?_
  refine ow_iloadN (q := 13) X1 hx (hb hby own_d3_12) rfl rfl ?_
  refine ow_ifNo (q := 16) X1 hx (hb hby own_d3_13) rfl (Jvm.Free.XT.i0_ne_f (by decide)) ?_
  refine ow_aloadN (q := 17) X1 hx (hb hby own_d3_16) rfl rfl rfl ?_
  obtain ⟨T2, X2, e2, st2⟩ := getF X1 hx hZ hown (host := "") (Or.inl (hw _ (List.mem_of_getElem? (i := 10) rfl))) Via.refl e1 HF1 (g := (mkF m 17 #[rv a0, iv p1, iv (0 : Int32), iv (0 : Int32)] [(.ref a0)])) rfl rfl (hb hby own_d3_17)
  refine ownGo (T' := T2) (f' := (mkF m 20 #[rv a0, iv p1, iv (0 : Int32), iv (0 : Int32)] [(.ref a1)])) (st2) ?_
  refine ow_iloadN (q := 21) X2 hx (hb hby own_d3_20) rfl rfl ?_
  refine ownGo (T' := T2) (f' := (mkF m 22 #[rv a0, iv p1, iv (0 : Int32), iv (0 : Int32)] [(.int (gi 0))])) (ownIaload HF2 X2 hx hZ e2 (j := (0 : Int32)) (by unfold ownIn; decide) (g := (mkF m 21 #[rv a0, iv p1, iv (0 : Int32), iv (0 : Int32)] [(.int (0 : Int32)), (.ref a1)])) rfl rfl (hb hby own_d3_21)) ?_
  generalize hv_v3 : (gi 0) = v3
  refine ow_iloadN (q := 23) X2 hx (hb hby own_d3_22) rfl rfl ?_
  by_cases hc23_4 : v3 = p1
  · refine ow_icmpNo (q := 26) X2 hx (hb hby own_d3_23) rfl (Jvm.Free.XT.ii_ne_f hc23_4) ?_
    refine ow_iconst (q := 27) X2 hx (1 : Int32) (hb hby own_d3_26) rfl rfl ?_
    refine ow_goto (q := 31) X2 hx (hb hby own_d3_27) (by decide) (by decide) ?_
    refine ow_istoreN (q := 32) X2 hx (L' := #[rv a0, iv p1, iv (1 : Int32), iv (0 : Int32)]) (hb hby own_d3_31) rfl rfl ?_
    refine ow_iinc (q := 35) X2 hx (L' := #[rv a0, iv p1, iv (1 : Int32), iv (1 : Int32)]) (hb hby own_d3_32) rfl rfl rfl ?_
    refine ow_goto (q := 4) X2 hx (hb hby own_d3_35) (by decide) (by decide) ?_
    refine ow_iloadN (q := 5) X2 hx (hb hby own_d3_4) rfl rfl ?_
    refine ow_aloadN (q := 6) X2 hx (hb hby own_d3_5) rfl rfl rfl ?_
    obtain ⟨T5, X5, e5, st5⟩ := getF X2 hx hZ hown (host := "") (Or.inl (hw _ (List.mem_of_getElem? (i := 21) rfl))) Via.refl e2 HF0 (g := (mkF m 6 #[rv a0, iv p1, iv (1 : Int32), iv (1 : Int32)] [(.ref a0), (.int (1 : Int32))])) rfl rfl (hb hby own_d3_6)
    refine ownGo (T' := T5) (f' := (mkF m 9 #[rv a0, iv p1, iv (1 : Int32), iv (1 : Int32)] [(.int (1 : Int32)), (.int (1 : Int32))])) (st5) ?_
    refine ow_icmpYes (q := 38) X5 hx (hb hby own_d3_9) (Jvm.Free.XT.ii_ge_t (by decide)) (by decide) (by decide) ?_
    refine ow_iloadN (q := 39) X5 hx (hb hby own_d3_38) rfl rfl ?_
    refine ownRetN X5 hx (r := (1 : Int32)) (Or.inl rfl) Bd.returns (hb hby own_d3_39) hlk (by decide) (by decide) (by decide) ?_
    subst hv_v3
    rw [e5]
    refine ⟨congrArg (fun q => some (Value.int q)) ?_, N0, rfl⟩
    simp [hc23_4]
  · refine ow_icmpYes (q := 30) X2 hx (hb hby own_d3_23) (Jvm.Free.XT.ii_ne_t hc23_4) (by decide) (by decide) ?_
    refine ow_iconst (q := 31) X2 hx (0 : Int32) (hb hby own_d3_30) rfl rfl ?_
    refine ow_istoreN (q := 32) X2 hx (L' := #[rv a0, iv p1, iv (0 : Int32), iv (0 : Int32)]) (hb hby own_d3_31) rfl rfl ?_
    refine ow_iinc (q := 35) X2 hx (L' := #[rv a0, iv p1, iv (0 : Int32), iv (1 : Int32)]) (hb hby own_d3_32) rfl rfl rfl ?_
    refine ow_goto (q := 4) X2 hx (hb hby own_d3_35) (by decide) (by decide) ?_
    refine ow_iloadN (q := 5) X2 hx (hb hby own_d3_4) rfl rfl ?_
    refine ow_aloadN (q := 6) X2 hx (hb hby own_d3_5) rfl rfl rfl ?_
    obtain ⟨T6, X6, e6, st6⟩ := getF X2 hx hZ hown (host := "") (Or.inl (hw _ (List.mem_of_getElem? (i := 21) rfl))) Via.refl e2 HF0 (g := (mkF m 6 #[rv a0, iv p1, iv (0 : Int32), iv (1 : Int32)] [(.ref a0), (.int (1 : Int32))])) rfl rfl (hb hby own_d3_6)
    refine ownGo (T' := T6) (f' := (mkF m 9 #[rv a0, iv p1, iv (0 : Int32), iv (1 : Int32)] [(.int (1 : Int32)), (.int (1 : Int32))])) (st6) ?_
    refine ow_icmpYes (q := 38) X6 hx (hb hby own_d3_9) (Jvm.Free.XT.ii_ge_t (by decide)) (by decide) (by decide) ?_
    refine ow_iloadN (q := 39) X6 hx (hb hby own_d3_38) rfl rfl ?_
    refine ownRetN X6 hx (r := (0 : Int32)) (Or.inl rfl) Bd.returns (hb hby own_d3_39) hlk (by decide) (by decide) (by decide) ?_
    subst hv_v3
    rw [e6]
    refine ⟨congrArg (fun q => some (Value.int q)) ?_, N0, rfl⟩
    simp [hc23_4]
theorem own_ef3_contains_2 (m : MethodId) (a0 : Addr) (p1 : Int32) : entryFrame m #[(.ref a0), (.int p1)] 4 = mkF m 0 #[rv a0, iv p1, .unset, .unset] [] := by first | (simp [entryFrame, mkF, argsToLocals, Value.category]; done) | rfl
def Q_contains_2 (Z : State) (a0 : Addr) (p1 : Int32) (a1 : Addr) (gi : Nat → Int32) (h0 : Heap) (n0 : Nat) (v : Option Value) (h : Heap) (L : List Loc) : Prop := v = some (.int (if gi 0 = p1 then (1 : Int32) else (if gi 1 = p1 then (1 : Int32) else (0 : Int32)))) ∧ Fr n0 L ∧ h = h0
set_option maxRecDepth 65536 in
set_option maxHeartbeats 40000000 in
theorem rm_contains_2 (l : Launch) (Z : State) (a0 : Array Value) (hw : ∀ d ∈ tables_1, d.before a0 Z = true) (ws : List Jvm.Cond) (a0 : Addr) (p1 : Int32) (a1 : Addr) (gi : Nat → Int32) (h0 : Heap) (n0 : Nat) (Z0 : n0 ≤ h0.size) (HF0 : Fld Z h0 a0 "com/example/vellum4/vellum4/PatternCode" "size" "I" (.int (2 : Int32))) (HF1 : Fld Z h0 a0 "com/example/vellum4/vellum4/PatternCode" "operation" "[I" (.ref a1)) (HF2 : ownAI Z h0 a1 .int 8 gi) :
    MetFree l (⟨"com/example/vellum4/vellum4/PatternCode", "contains", "(I)Z"⟩ : MethodName) (head1 (Jvm.Cond.code (⟨"com/example/vellum4/vellum4/PatternCode", "contains", "(I)Z"⟩ : MethodName) prog_15_method_6_code 4 (some .boolean) :: ws) ({ frames := 0, cells := 0, slots := 0, locals := 0 } : Room)) (fun a U => a = #[(.ref a0), (.int p1)] ∧ Z.Warmed39 U.vm ∧ U.heap = h0) (fun _ _ _ _ _ => True) (fun _ U o U' => ∃ v L, o = .returned v ∧ (Q_contains_2 Z a0 p1 a1 gi h0 n0) v U'.heap L ∧ FrameEnd U o U' L ({ frames := 0, cells := 0, slots := 0, locals := 0 } : Room).cells ({ frames := 0, cells := 0, slots := 0, locals := 0 } : Room).slots) := by
  refine MetFree.of_bodySF (plainFor_of_name own_pn_PatternCode) hisR ?_
  intro p e s m args below meth c s₁ Bd hml0 hP hK
  obtain ⟨rfl, hZ, hh⟩ := hP
  have hx := Bd.exec
  have hby := Bd.bytes
  have hml : c.maxLocals = 4 := hml0
  have hown : s.vm.findClass "com/example/vellum4/vellum4/PatternCode" = some m.cls := findClass_of_methodNamed Bd.named
  have hnm := (name_of_methodNamed Bd.named Bd.method).1
  have hlk : meth.locks = false := BodyLoose.notSynchronized Bd
  have X0 : Stand p l e ({ frames := 0, cells := 0, slots := 0, locals := 0 } : Room) s m #[(.ref a0), (.int p1)] below meth c s₁ [] 0 0 := Stand.of_body Bd
  have e0 : s₁.heap = h0 := by rw [← hh, Bd.state]; rfl
  have N0 := Fr.nil n0
  have K0 : Keep h0 h0 [] := Keep.refl _ _
  show ownEnds p e below s (Q_contains_2 Z a0 p1 a1 gi h0 n0) ({ frames := 0, cells := 0, slots := 0, locals := 0 } : Room).cells ({ frames := 0, cells := 0, slots := 0, locals := 0 } : Room).slots s₁ (entryFrame m #[(.ref a0), (.int p1)] 4)
  refine ownCast (own_ef3_contains_2 m a0 p1) ?_
  refine ow_iconst (q := 1) X0 hx (0 : Int32) (hb hby own_d3_0) rfl rfl ?_
  refine ow_istoreN (q := 2) X0 hx (L' := #[rv a0, iv p1, iv (0 : Int32), .unset]) (hb hby own_d3_1) rfl rfl ?_
  refine ow_iconst (q := 3) X0 hx (0 : Int32) (hb hby own_d3_2) rfl rfl ?_
  refine ow_istoreN (q := 4) X0 hx (L' := #[rv a0, iv p1, iv (0 : Int32), iv (0 : Int32)]) (hb hby own_d3_3) rfl rfl ?_
  refine ow_iloadN (q := 5) X0 hx (hb hby own_d3_4) rfl rfl ?_
  refine ow_aloadN (q := 6) X0 hx (hb hby own_d3_5) rfl rfl rfl ?_
  obtain ⟨T1, X1, e1, st1⟩ := getF X0 hx hZ hown (host := "") (Or.inl (hw _ (List.mem_of_getElem? (i := 21) rfl))) Via.refl e0 HF0 (g := (mkF m 6 #[rv a0, iv p1, iv (0 : Int32), iv (0 : Int32)] [(.ref a0), (.int (0 : Int32))])) rfl rfl (hb hby own_d3_6)
  refine ownGo (T' := T1) (f' := (mkF m 9 #[rv a0, iv p1, iv (0 : Int32), iv (0 : Int32)] [(.int (2 : Int32)), (.int (0 : Int32))])) (st1) ?_
  refine ow_icmpNo (q := 12) X1 hx (hb hby own_d3_9) rfl (Jvm.Free.XT.ii_ge_f (by decide)) ?_
  refine ow_iloadN (q := 13) X1 hx (hb hby own_d3_12) rfl rfl ?_
  refine ow_ifNo (q := 16) X1 hx (hb hby own_d3_13) rfl (Jvm.Free.XT.i0_ne_f (by decide)) ?_
  refine ow_aloadN (q := 17) X1 hx (hb hby own_d3_16) rfl rfl rfl ?_
  obtain ⟨T2, X2, e2, st2⟩ := getF X1 hx hZ hown (host := "") (Or.inl (hw _ (List.mem_of_getElem? (i := 10) rfl))) Via.refl e1 HF1 (g := (mkF m 17 #[rv a0, iv p1, iv (0 : Int32), iv (0 : Int32)] [(.ref a0)])) rfl rfl (hb hby own_d3_17)
  refine ownGo (T' := T2) (f' := (mkF m 20 #[rv a0, iv p1, iv (0 : Int32), iv (0 : Int32)] [(.ref a1)])) (st2) ?_
  refine ow_iloadN (q := 21) X2 hx (hb hby own_d3_20) rfl rfl ?_
  refine ownGo (T' := T2) (f' := (mkF m 22 #[rv a0, iv p1, iv (0 : Int32), iv (0 : Int32)] [(.int (gi 0))])) (ownIaload HF2 X2 hx hZ e2 (j := (0 : Int32)) (by unfold ownIn; decide) (g := (mkF m 21 #[rv a0, iv p1, iv (0 : Int32), iv (0 : Int32)] [(.int (0 : Int32)), (.ref a1)])) rfl rfl (hb hby own_d3_21)) ?_
  generalize hv_v3 : (gi 0) = v3
  refine ow_iloadN (q := 23) X2 hx (hb hby own_d3_22) rfl rfl ?_
  by_cases hc23_4 : v3 = p1
  · refine ow_icmpNo (q := 26) X2 hx (hb hby own_d3_23) rfl (Jvm.Free.XT.ii_ne_f hc23_4) ?_
    refine ow_iconst (q := 27) X2 hx (1 : Int32) (hb hby own_d3_26) rfl rfl ?_
    refine ow_goto (q := 31) X2 hx (hb hby own_d3_27) (by decide) (by decide) ?_
    refine ow_istoreN (q := 32) X2 hx (L' := #[rv a0, iv p1, iv (1 : Int32), iv (0 : Int32)]) (hb hby own_d3_31) rfl rfl ?_
    refine ow_iinc (q := 35) X2 hx (L' := #[rv a0, iv p1, iv (1 : Int32), iv (1 : Int32)]) (hb hby own_d3_32) rfl rfl rfl ?_
    refine ow_goto (q := 4) X2 hx (hb hby own_d3_35) (by decide) (by decide) ?_
    refine ow_iloadN (q := 5) X2 hx (hb hby own_d3_4) rfl rfl ?_
    refine ow_aloadN (q := 6) X2 hx (hb hby own_d3_5) rfl rfl rfl ?_
    obtain ⟨T5, X5, e5, st5⟩ := getF X2 hx hZ hown (host := "") (Or.inl (hw _ (List.mem_of_getElem? (i := 21) rfl))) Via.refl e2 HF0 (g := (mkF m 6 #[rv a0, iv p1, iv (1 : Int32), iv (1 : Int32)] [(.ref a0), (.int (1 : Int32))])) rfl rfl (hb hby own_d3_6)
    refine ownGo (T' := T5) (f' := (mkF m 9 #[rv a0, iv p1, iv (1 : Int32), iv (1 : Int32)] [(.int (2 : Int32)), (.int (1 : Int32))])) (st5) ?_
    refine ow_icmpNo (q := 12) X5 hx (hb hby own_d3_9) rfl (Jvm.Free.XT.ii_ge_f (by decide)) ?_
    refine ow_iloadN (q := 13) X5 hx (hb hby own_d3_12) rfl rfl ?_
    refine ow_ifYes (q := 38) X5 hx (hb hby own_d3_13) (Jvm.Free.XT.i0_ne_t (by decide)) (by decide) (by decide) ?_
    refine ow_iloadN (q := 39) X5 hx (hb hby own_d3_38) rfl rfl ?_
    refine ownRetN X5 hx (r := (1 : Int32)) (Or.inl rfl) Bd.returns (hb hby own_d3_39) hlk (by decide) (by decide) (by decide) ?_
    subst hv_v3
    rw [e5]
    refine ⟨congrArg (fun q => some (Value.int q)) ?_, N0, rfl⟩
    simp [hc23_4]
  · refine ow_icmpYes (q := 30) X2 hx (hb hby own_d3_23) (Jvm.Free.XT.ii_ne_t hc23_4) (by decide) (by decide) ?_
    refine ow_iconst (q := 31) X2 hx (0 : Int32) (hb hby own_d3_30) rfl rfl ?_
    refine ow_istoreN (q := 32) X2 hx (L' := #[rv a0, iv p1, iv (0 : Int32), iv (0 : Int32)]) (hb hby own_d3_31) rfl rfl ?_
    refine ow_iinc (q := 35) X2 hx (L' := #[rv a0, iv p1, iv (0 : Int32), iv (1 : Int32)]) (hb hby own_d3_32) rfl rfl rfl ?_
    refine ow_goto (q := 4) X2 hx (hb hby own_d3_35) (by decide) (by decide) ?_
    refine ow_iloadN (q := 5) X2 hx (hb hby own_d3_4) rfl rfl ?_
    refine ow_aloadN (q := 6) X2 hx (hb hby own_d3_5) rfl rfl rfl ?_
    obtain ⟨T6, X6, e6, st6⟩ := getF X2 hx hZ hown (host := "") (Or.inl (hw _ (List.mem_of_getElem? (i := 21) rfl))) Via.refl e2 HF0 (g := (mkF m 6 #[rv a0, iv p1, iv (0 : Int32), iv (1 : Int32)] [(.ref a0), (.int (1 : Int32))])) rfl rfl (hb hby own_d3_6)
    refine ownGo (T' := T6) (f' := (mkF m 9 #[rv a0, iv p1, iv (0 : Int32), iv (1 : Int32)] [(.int (2 : Int32)), (.int (1 : Int32))])) (st6) ?_
    refine ow_icmpNo (q := 12) X6 hx (hb hby own_d3_9) rfl (Jvm.Free.XT.ii_ge_f (by decide)) ?_
    refine ow_iloadN (q := 13) X6 hx (hb hby own_d3_12) rfl rfl ?_
    refine ow_ifNo (q := 16) X6 hx (hb hby own_d3_13) rfl (Jvm.Free.XT.i0_ne_f (by decide)) ?_
    refine ow_aloadN (q := 17) X6 hx (hb hby own_d3_16) rfl rfl rfl ?_
    obtain ⟨T7, X7, e7, st7⟩ := getF X6 hx hZ hown (host := "") (Or.inl (hw _ (List.mem_of_getElem? (i := 10) rfl))) Via.refl e6 HF1 (g := (mkF m 17 #[rv a0, iv p1, iv (0 : Int32), iv (1 : Int32)] [(.ref a0)])) rfl rfl (hb hby own_d3_17)
    refine ownGo (T' := T7) (f' := (mkF m 20 #[rv a0, iv p1, iv (0 : Int32), iv (1 : Int32)] [(.ref a1)])) (st7) ?_
    refine ow_iloadN (q := 21) X7 hx (hb hby own_d3_20) rfl rfl ?_
    refine ownGo (T' := T7) (f' := (mkF m 22 #[rv a0, iv p1, iv (0 : Int32), iv (1 : Int32)] [(.int (gi 1))])) (ownIaload HF2 X7 hx hZ e7 (j := (1 : Int32)) (by unfold ownIn; decide) (g := (mkF m 21 #[rv a0, iv p1, iv (0 : Int32), iv (1 : Int32)] [(.int (1 : Int32)), (.ref a1)])) rfl rfl (hb hby own_d3_21)) ?_
    generalize hv_v8 : (gi 1) = v8
    refine ow_iloadN (q := 23) X7 hx (hb hby own_d3_22) rfl rfl ?_
    by_cases hc23_9 : v8 = p1
    · refine ow_icmpNo (q := 26) X7 hx (hb hby own_d3_23) rfl (Jvm.Free.XT.ii_ne_f hc23_9) ?_
      refine ow_iconst (q := 27) X7 hx (1 : Int32) (hb hby own_d3_26) rfl rfl ?_
      refine ow_goto (q := 31) X7 hx (hb hby own_d3_27) (by decide) (by decide) ?_
      refine ow_istoreN (q := 32) X7 hx (L' := #[rv a0, iv p1, iv (1 : Int32), iv (1 : Int32)]) (hb hby own_d3_31) rfl rfl ?_
      refine ow_iinc (q := 35) X7 hx (L' := #[rv a0, iv p1, iv (1 : Int32), iv (2 : Int32)]) (hb hby own_d3_32) rfl rfl rfl ?_
      refine ow_goto (q := 4) X7 hx (hb hby own_d3_35) (by decide) (by decide) ?_
      refine ow_iloadN (q := 5) X7 hx (hb hby own_d3_4) rfl rfl ?_
      refine ow_aloadN (q := 6) X7 hx (hb hby own_d3_5) rfl rfl rfl ?_
      obtain ⟨T10, X10, e10, st10⟩ := getF X7 hx hZ hown (host := "") (Or.inl (hw _ (List.mem_of_getElem? (i := 21) rfl))) Via.refl e7 HF0 (g := (mkF m 6 #[rv a0, iv p1, iv (1 : Int32), iv (2 : Int32)] [(.ref a0), (.int (2 : Int32))])) rfl rfl (hb hby own_d3_6)
      refine ownGo (T' := T10) (f' := (mkF m 9 #[rv a0, iv p1, iv (1 : Int32), iv (2 : Int32)] [(.int (2 : Int32)), (.int (2 : Int32))])) (st10) ?_
      refine ow_icmpYes (q := 38) X10 hx (hb hby own_d3_9) (Jvm.Free.XT.ii_ge_t (by decide)) (by decide) (by decide) ?_
      refine ow_iloadN (q := 39) X10 hx (hb hby own_d3_38) rfl rfl ?_
      refine ownRetN X10 hx (r := (1 : Int32)) (Or.inl rfl) Bd.returns (hb hby own_d3_39) hlk (by decide) (by decide) (by decide) ?_
      subst hv_v8 hv_v3
      rw [e10]
      refine ⟨congrArg (fun q => some (Value.int q)) ?_, N0, rfl⟩
      simp [hc23_4, hc23_9]
    · refine ow_icmpYes (q := 30) X7 hx (hb hby own_d3_23) (Jvm.Free.XT.ii_ne_t hc23_9) (by decide) (by decide) ?_
      refine ow_iconst (q := 31) X7 hx (0 : Int32) (hb hby own_d3_30) rfl rfl ?_
      refine ow_istoreN (q := 32) X7 hx (L' := #[rv a0, iv p1, iv (0 : Int32), iv (1 : Int32)]) (hb hby own_d3_31) rfl rfl ?_
      refine ow_iinc (q := 35) X7 hx (L' := #[rv a0, iv p1, iv (0 : Int32), iv (2 : Int32)]) (hb hby own_d3_32) rfl rfl rfl ?_
      refine ow_goto (q := 4) X7 hx (hb hby own_d3_35) (by decide) (by decide) ?_
      refine ow_iloadN (q := 5) X7 hx (hb hby own_d3_4) rfl rfl ?_
      refine ow_aloadN (q := 6) X7 hx (hb hby own_d3_5) rfl rfl rfl ?_
      obtain ⟨T11, X11, e11, st11⟩ := getF X7 hx hZ hown (host := "") (Or.inl (hw _ (List.mem_of_getElem? (i := 21) rfl))) Via.refl e7 HF0 (g := (mkF m 6 #[rv a0, iv p1, iv (0 : Int32), iv (2 : Int32)] [(.ref a0), (.int (2 : Int32))])) rfl rfl (hb hby own_d3_6)
      refine ownGo (T' := T11) (f' := (mkF m 9 #[rv a0, iv p1, iv (0 : Int32), iv (2 : Int32)] [(.int (2 : Int32)), (.int (2 : Int32))])) (st11) ?_
      refine ow_icmpYes (q := 38) X11 hx (hb hby own_d3_9) (Jvm.Free.XT.ii_ge_t (by decide)) (by decide) (by decide) ?_
      refine ow_iloadN (q := 39) X11 hx (hb hby own_d3_38) rfl rfl ?_
      refine ownRetN X11 hx (r := (0 : Int32)) (Or.inl rfl) Bd.returns (hb hby own_d3_39) hlk (by decide) (by decide) (by decide) ?_
      subst hv_v8 hv_v3
      rw [e11]
      refine ⟨congrArg (fun q => some (Value.int q)) ?_, N0, rfl⟩
      simp [hc23_4, hc23_9]
theorem own_ef3_contains_3 (m : MethodId) (a0 : Addr) (p1 : Int32) : entryFrame m #[(.ref a0), (.int p1)] 4 = mkF m 0 #[rv a0, iv p1, .unset, .unset] [] := by first | (simp [entryFrame, mkF, argsToLocals, Value.category]; done) | rfl
def Q_contains_3 (Z : State) (a0 : Addr) (p1 : Int32) (a1 : Addr) (gi : Nat → Int32) (h0 : Heap) (n0 : Nat) (v : Option Value) (h : Heap) (L : List Loc) : Prop := v = some (.int (if gi 0 = p1 then (1 : Int32) else (if gi 1 = p1 then (1 : Int32) else (if gi 2 = p1 then (1 : Int32) else (0 : Int32))))) ∧ Fr n0 L ∧ h = h0
set_option maxRecDepth 65536 in
set_option maxHeartbeats 40000000 in
theorem rm_contains_3 (l : Launch) (Z : State) (a0 : Array Value) (hw : ∀ d ∈ tables_1, d.before a0 Z = true) (ws : List Jvm.Cond) (a0 : Addr) (p1 : Int32) (a1 : Addr) (gi : Nat → Int32) (h0 : Heap) (n0 : Nat) (Z0 : n0 ≤ h0.size) (HF0 : Fld Z h0 a0 "com/example/vellum4/vellum4/PatternCode" "size" "I" (.int (3 : Int32))) (HF1 : Fld Z h0 a0 "com/example/vellum4/vellum4/PatternCode" "operation" "[I" (.ref a1)) (HF2 : ownAI Z h0 a1 .int 8 gi) :
    MetFree l (⟨"com/example/vellum4/vellum4/PatternCode", "contains", "(I)Z"⟩ : MethodName) (head1 (Jvm.Cond.code (⟨"com/example/vellum4/vellum4/PatternCode", "contains", "(I)Z"⟩ : MethodName) prog_15_method_6_code 4 (some .boolean) :: ws) ({ frames := 0, cells := 0, slots := 0, locals := 0 } : Room)) (fun a U => a = #[(.ref a0), (.int p1)] ∧ Z.Warmed39 U.vm ∧ U.heap = h0) (fun _ _ _ _ _ => True) (fun _ U o U' => ∃ v L, o = .returned v ∧ (Q_contains_3 Z a0 p1 a1 gi h0 n0) v U'.heap L ∧ FrameEnd U o U' L ({ frames := 0, cells := 0, slots := 0, locals := 0 } : Room).cells ({ frames := 0, cells := 0, slots := 0, locals := 0 } : Room).slots) := by
  refine MetFree.of_bodySF (plainFor_of_name own_pn_PatternCode) hisR ?_
  intro p e s m args below meth c s₁ Bd hml0 hP hK
  obtain ⟨rfl, hZ, hh⟩ := hP
  have hx := Bd.exec
  have hby := Bd.bytes
  have hml : c.maxLocals = 4 := hml0
  have hown : s.vm.findClass "com/example/vellum4/vellum4/PatternCode" = some m.cls := findClass_of_methodNamed Bd.named
  have hnm := (name_of_methodNamed Bd.named Bd.method).1
  have hlk : meth.locks = false := BodyLoose.notSynchronized Bd
  have X0 : Stand p l e ({ frames := 0, cells := 0, slots := 0, locals := 0 } : Room) s m #[(.ref a0), (.int p1)] below meth c s₁ [] 0 0 := Stand.of_body Bd
  have e0 : s₁.heap = h0 := by rw [← hh, Bd.state]; rfl
  have N0 := Fr.nil n0
  have K0 : Keep h0 h0 [] := Keep.refl _ _
  show ownEnds p e below s (Q_contains_3 Z a0 p1 a1 gi h0 n0) ({ frames := 0, cells := 0, slots := 0, locals := 0 } : Room).cells ({ frames := 0, cells := 0, slots := 0, locals := 0 } : Room).slots s₁ (entryFrame m #[(.ref a0), (.int p1)] 4)
  refine ownCast (own_ef3_contains_3 m a0 p1) ?_
  refine ow_iconst (q := 1) X0 hx (0 : Int32) (hb hby own_d3_0) rfl rfl ?_
  refine ow_istoreN (q := 2) X0 hx (L' := #[rv a0, iv p1, iv (0 : Int32), .unset]) (hb hby own_d3_1) rfl rfl ?_
  refine ow_iconst (q := 3) X0 hx (0 : Int32) (hb hby own_d3_2) rfl rfl ?_
  refine ow_istoreN (q := 4) X0 hx (L' := #[rv a0, iv p1, iv (0 : Int32), iv (0 : Int32)]) (hb hby own_d3_3) rfl rfl ?_
  refine ow_iloadN (q := 5) X0 hx (hb hby own_d3_4) rfl rfl ?_
  refine ow_aloadN (q := 6) X0 hx (hb hby own_d3_5) rfl rfl rfl ?_
  obtain ⟨T1, X1, e1, st1⟩ := getF X0 hx hZ hown (host := "") (Or.inl (hw _ (List.mem_of_getElem? (i := 21) rfl))) Via.refl e0 HF0 (g := (mkF m 6 #[rv a0, iv p1, iv (0 : Int32), iv (0 : Int32)] [(.ref a0), (.int (0 : Int32))])) rfl rfl (hb hby own_d3_6)
  refine ownGo (T' := T1) (f' := (mkF m 9 #[rv a0, iv p1, iv (0 : Int32), iv (0 : Int32)] [(.int (3 : Int32)), (.int (0 : Int32))])) (st1) ?_
  refine ow_icmpNo (q := 12) X1 hx (hb hby own_d3_9) rfl (Jvm.Free.XT.ii_ge_f (by decide)) ?_
  refine ow_iloadN (q := 13) X1 hx (hb hby own_d3_12) rfl rfl ?_
  refine ow_ifNo (q := 16) X1 hx (hb hby own_d3_13) rfl (Jvm.Free.XT.i0_ne_f (by decide)) ?_
  refine ow_aloadN (q := 17) X1 hx (hb hby own_d3_16) rfl rfl rfl ?_
  obtain ⟨T2, X2, e2, st2⟩ := getF X1 hx hZ hown (host := "") (Or.inl (hw _ (List.mem_of_getElem? (i := 10) rfl))) Via.refl e1 HF1 (g := (mkF m 17 #[rv a0, iv p1, iv (0 : Int32), iv (0 : Int32)] [(.ref a0)])) rfl rfl (hb hby own_d3_17)
  refine ownGo (T' := T2) (f' := (mkF m 20 #[rv a0, iv p1, iv (0 : Int32), iv (0 : Int32)] [(.ref a1)])) (st2) ?_
  refine ow_iloadN (q := 21) X2 hx (hb hby own_d3_20) rfl rfl ?_
  refine ownGo (T' := T2) (f' := (mkF m 22 #[rv a0, iv p1, iv (0 : Int32), iv (0 : Int32)] [(.int (gi 0))])) (ownIaload HF2 X2 hx hZ e2 (j := (0 : Int32)) (by unfold ownIn; decide) (g := (mkF m 21 #[rv a0, iv p1, iv (0 : Int32), iv (0 : Int32)] [(.int (0 : Int32)), (.ref a1)])) rfl rfl (hb hby own_d3_21)) ?_
  generalize hv_v3 : (gi 0) = v3
  refine ow_iloadN (q := 23) X2 hx (hb hby own_d3_22) rfl rfl ?_
  by_cases hc23_4 : v3 = p1
  · refine ow_icmpNo (q := 26) X2 hx (hb hby own_d3_23) rfl (Jvm.Free.XT.ii_ne_f hc23_4) ?_
    refine ow_iconst (q := 27) X2 hx (1 : Int32) (hb hby own_d3_26) rfl rfl ?_
    refine ow_goto (q := 31) X2 hx (hb hby own_d3_27) (by decide) (by decide) ?_
    refine ow_istoreN (q := 32) X2 hx (L' := #[rv a0, iv p1, iv (1 : Int32), iv (0 : Int32)]) (hb hby own_d3_31) rfl rfl ?_
    refine ow_iinc (q := 35) X2 hx (L' := #[rv a0, iv p1, iv (1 : Int32), iv (1 : Int32)]) (hb hby own_d3_32) rfl rfl rfl ?_
    refine ow_goto (q := 4) X2 hx (hb hby own_d3_35) (by decide) (by decide) ?_
    refine ow_iloadN (q := 5) X2 hx (hb hby own_d3_4) rfl rfl ?_
    refine ow_aloadN (q := 6) X2 hx (hb hby own_d3_5) rfl rfl rfl ?_
    obtain ⟨T5, X5, e5, st5⟩ := getF X2 hx hZ hown (host := "") (Or.inl (hw _ (List.mem_of_getElem? (i := 21) rfl))) Via.refl e2 HF0 (g := (mkF m 6 #[rv a0, iv p1, iv (1 : Int32), iv (1 : Int32)] [(.ref a0), (.int (1 : Int32))])) rfl rfl (hb hby own_d3_6)
    refine ownGo (T' := T5) (f' := (mkF m 9 #[rv a0, iv p1, iv (1 : Int32), iv (1 : Int32)] [(.int (3 : Int32)), (.int (1 : Int32))])) (st5) ?_
    refine ow_icmpNo (q := 12) X5 hx (hb hby own_d3_9) rfl (Jvm.Free.XT.ii_ge_f (by decide)) ?_
    refine ow_iloadN (q := 13) X5 hx (hb hby own_d3_12) rfl rfl ?_
    refine ow_ifYes (q := 38) X5 hx (hb hby own_d3_13) (Jvm.Free.XT.i0_ne_t (by decide)) (by decide) (by decide) ?_
    refine ow_iloadN (q := 39) X5 hx (hb hby own_d3_38) rfl rfl ?_
    refine ownRetN X5 hx (r := (1 : Int32)) (Or.inl rfl) Bd.returns (hb hby own_d3_39) hlk (by decide) (by decide) (by decide) ?_
    subst hv_v3
    rw [e5]
    refine ⟨congrArg (fun q => some (Value.int q)) ?_, N0, rfl⟩
    simp [hc23_4]
  · refine ow_icmpYes (q := 30) X2 hx (hb hby own_d3_23) (Jvm.Free.XT.ii_ne_t hc23_4) (by decide) (by decide) ?_
    refine ow_iconst (q := 31) X2 hx (0 : Int32) (hb hby own_d3_30) rfl rfl ?_
    refine ow_istoreN (q := 32) X2 hx (L' := #[rv a0, iv p1, iv (0 : Int32), iv (0 : Int32)]) (hb hby own_d3_31) rfl rfl ?_
    refine ow_iinc (q := 35) X2 hx (L' := #[rv a0, iv p1, iv (0 : Int32), iv (1 : Int32)]) (hb hby own_d3_32) rfl rfl rfl ?_
    refine ow_goto (q := 4) X2 hx (hb hby own_d3_35) (by decide) (by decide) ?_
    refine ow_iloadN (q := 5) X2 hx (hb hby own_d3_4) rfl rfl ?_
    refine ow_aloadN (q := 6) X2 hx (hb hby own_d3_5) rfl rfl rfl ?_
    obtain ⟨T6, X6, e6, st6⟩ := getF X2 hx hZ hown (host := "") (Or.inl (hw _ (List.mem_of_getElem? (i := 21) rfl))) Via.refl e2 HF0 (g := (mkF m 6 #[rv a0, iv p1, iv (0 : Int32), iv (1 : Int32)] [(.ref a0), (.int (1 : Int32))])) rfl rfl (hb hby own_d3_6)
    refine ownGo (T' := T6) (f' := (mkF m 9 #[rv a0, iv p1, iv (0 : Int32), iv (1 : Int32)] [(.int (3 : Int32)), (.int (1 : Int32))])) (st6) ?_
    refine ow_icmpNo (q := 12) X6 hx (hb hby own_d3_9) rfl (Jvm.Free.XT.ii_ge_f (by decide)) ?_
    refine ow_iloadN (q := 13) X6 hx (hb hby own_d3_12) rfl rfl ?_
    refine ow_ifNo (q := 16) X6 hx (hb hby own_d3_13) rfl (Jvm.Free.XT.i0_ne_f (by decide)) ?_
    refine ow_aloadN (q := 17) X6 hx (hb hby own_d3_16) rfl rfl rfl ?_
    obtain ⟨T7, X7, e7, st7⟩ := getF X6 hx hZ hown (host := "") (Or.inl (hw _ (List.mem_of_getElem? (i := 10) rfl))) Via.refl e6 HF1 (g := (mkF m 17 #[rv a0, iv p1, iv (0 : Int32), iv (1 : Int32)] [(.ref a0)])) rfl rfl (hb hby own_d3_17)
    refine ownGo (T' := T7) (f' := (mkF m 20 #[rv a0, iv p1, iv (0 : Int32), iv (1 : Int32)] [(.ref a1)])) (st7) ?_
    refine ow_iloadN (q := 21) X7 hx (hb hby own_d3_20) rfl rfl ?_
    refine ownGo (T' := T7) (f' := (mkF m 22 #[rv a0, iv p1, iv (0 : Int32), iv (1 : Int32)] [(.int (gi 1))])) (ownIaload HF2 X7 hx hZ e7 (j := (1 : Int32)) (by unfold ownIn; decide) (g := (mkF m 21 #[rv a0, iv p1, iv (0 : Int32), iv (1 : Int32)] [(.int (1 : Int32)), (.ref a1)])) rfl rfl (hb hby own_d3_21)) ?_
    generalize hv_v8 : (gi 1) = v8
    refine ow_iloadN (q := 23) X7 hx (hb hby own_d3_22) rfl rfl ?_
    by_cases hc23_9 : v8 = p1
    · refine ow_icmpNo (q := 26) X7 hx (hb hby own_d3_23) rfl (Jvm.Free.XT.ii_ne_f hc23_9) ?_
      refine ow_iconst (q := 27) X7 hx (1 : Int32) (hb hby own_d3_26) rfl rfl ?_
      refine ow_goto (q := 31) X7 hx (hb hby own_d3_27) (by decide) (by decide) ?_
      refine ow_istoreN (q := 32) X7 hx (L' := #[rv a0, iv p1, iv (1 : Int32), iv (1 : Int32)]) (hb hby own_d3_31) rfl rfl ?_
      refine ow_iinc (q := 35) X7 hx (L' := #[rv a0, iv p1, iv (1 : Int32), iv (2 : Int32)]) (hb hby own_d3_32) rfl rfl rfl ?_
      refine ow_goto (q := 4) X7 hx (hb hby own_d3_35) (by decide) (by decide) ?_
      refine ow_iloadN (q := 5) X7 hx (hb hby own_d3_4) rfl rfl ?_
      refine ow_aloadN (q := 6) X7 hx (hb hby own_d3_5) rfl rfl rfl ?_
      obtain ⟨T10, X10, e10, st10⟩ := getF X7 hx hZ hown (host := "") (Or.inl (hw _ (List.mem_of_getElem? (i := 21) rfl))) Via.refl e7 HF0 (g := (mkF m 6 #[rv a0, iv p1, iv (1 : Int32), iv (2 : Int32)] [(.ref a0), (.int (2 : Int32))])) rfl rfl (hb hby own_d3_6)
      refine ownGo (T' := T10) (f' := (mkF m 9 #[rv a0, iv p1, iv (1 : Int32), iv (2 : Int32)] [(.int (3 : Int32)), (.int (2 : Int32))])) (st10) ?_
      refine ow_icmpNo (q := 12) X10 hx (hb hby own_d3_9) rfl (Jvm.Free.XT.ii_ge_f (by decide)) ?_
      refine ow_iloadN (q := 13) X10 hx (hb hby own_d3_12) rfl rfl ?_
      refine ow_ifYes (q := 38) X10 hx (hb hby own_d3_13) (Jvm.Free.XT.i0_ne_t (by decide)) (by decide) (by decide) ?_
      refine ow_iloadN (q := 39) X10 hx (hb hby own_d3_38) rfl rfl ?_
      refine ownRetN X10 hx (r := (1 : Int32)) (Or.inl rfl) Bd.returns (hb hby own_d3_39) hlk (by decide) (by decide) (by decide) ?_
      subst hv_v8 hv_v3
      rw [e10]
      refine ⟨congrArg (fun q => some (Value.int q)) ?_, N0, rfl⟩
      simp [hc23_4, hc23_9]
    · refine ow_icmpYes (q := 30) X7 hx (hb hby own_d3_23) (Jvm.Free.XT.ii_ne_t hc23_9) (by decide) (by decide) ?_
      refine ow_iconst (q := 31) X7 hx (0 : Int32) (hb hby own_d3_30) rfl rfl ?_
      refine ow_istoreN (q := 32) X7 hx (L' := #[rv a0, iv p1, iv (0 : Int32), iv (1 : Int32)]) (hb hby own_d3_31) rfl rfl ?_
      refine ow_iinc (q := 35) X7 hx (L' := #[rv a0, iv p1, iv (0 : Int32), iv (2 : Int32)]) (hb hby own_d3_32) rfl rfl rfl ?_
      refine ow_goto (q := 4) X7 hx (hb hby own_d3_35) (by decide) (by decide) ?_
      refine ow_iloadN (q := 5) X7 hx (hb hby own_d3_4) rfl rfl ?_
      refine ow_aloadN (q := 6) X7 hx (hb hby own_d3_5) rfl rfl rfl ?_
      obtain ⟨T11, X11, e11, st11⟩ := getF X7 hx hZ hown (host := "") (Or.inl (hw _ (List.mem_of_getElem? (i := 21) rfl))) Via.refl e7 HF0 (g := (mkF m 6 #[rv a0, iv p1, iv (0 : Int32), iv (2 : Int32)] [(.ref a0), (.int (2 : Int32))])) rfl rfl (hb hby own_d3_6)
      refine ownGo (T' := T11) (f' := (mkF m 9 #[rv a0, iv p1, iv (0 : Int32), iv (2 : Int32)] [(.int (3 : Int32)), (.int (2 : Int32))])) (st11) ?_
      refine ow_icmpNo (q := 12) X11 hx (hb hby own_d3_9) rfl (Jvm.Free.XT.ii_ge_f (by decide)) ?_
      refine ow_iloadN (q := 13) X11 hx (hb hby own_d3_12) rfl rfl ?_
      refine ow_ifNo (q := 16) X11 hx (hb hby own_d3_13) rfl (Jvm.Free.XT.i0_ne_f (by decide)) ?_
      refine ow_aloadN (q := 17) X11 hx (hb hby own_d3_16) rfl rfl rfl ?_
      obtain ⟨T12, X12, e12, st12⟩ := getF X11 hx hZ hown (host := "") (Or.inl (hw _ (List.mem_of_getElem? (i := 10) rfl))) Via.refl e11 HF1 (g := (mkF m 17 #[rv a0, iv p1, iv (0 : Int32), iv (2 : Int32)] [(.ref a0)])) rfl rfl (hb hby own_d3_17)
      refine ownGo (T' := T12) (f' := (mkF m 20 #[rv a0, iv p1, iv (0 : Int32), iv (2 : Int32)] [(.ref a1)])) (st12) ?_
      refine ow_iloadN (q := 21) X12 hx (hb hby own_d3_20) rfl rfl ?_
      refine ownGo (T' := T12) (f' := (mkF m 22 #[rv a0, iv p1, iv (0 : Int32), iv (2 : Int32)] [(.int (gi 2))])) (ownIaload HF2 X12 hx hZ e12 (j := (2 : Int32)) (by unfold ownIn; decide) (g := (mkF m 21 #[rv a0, iv p1, iv (0 : Int32), iv (2 : Int32)] [(.int (2 : Int32)), (.ref a1)])) rfl rfl (hb hby own_d3_21)) ?_
      generalize hv_v13 : (gi 2) = v13
      refine ow_iloadN (q := 23) X12 hx (hb hby own_d3_22) rfl rfl ?_
      by_cases hc23_14 : v13 = p1
      · refine ow_icmpNo (q := 26) X12 hx (hb hby own_d3_23) rfl (Jvm.Free.XT.ii_ne_f hc23_14) ?_
        refine ow_iconst (q := 27) X12 hx (1 : Int32) (hb hby own_d3_26) rfl rfl ?_
        refine ow_goto (q := 31) X12 hx (hb hby own_d3_27) (by decide) (by decide) ?_
        refine ow_istoreN (q := 32) X12 hx (L' := #[rv a0, iv p1, iv (1 : Int32), iv (2 : Int32)]) (hb hby own_d3_31) rfl rfl ?_
        refine ow_iinc (q := 35) X12 hx (L' := #[rv a0, iv p1, iv (1 : Int32), iv (3 : Int32)]) (hb hby own_d3_32) rfl rfl rfl ?_
        refine ow_goto (q := 4) X12 hx (hb hby own_d3_35) (by decide) (by decide) ?_
        refine ow_iloadN (q := 5) X12 hx (hb hby own_d3_4) rfl rfl ?_
        refine ow_aloadN (q := 6) X12 hx (hb hby own_d3_5) rfl rfl rfl ?_
        obtain ⟨T15, X15, e15, st15⟩ := getF X12 hx hZ hown (host := "") (Or.inl (hw _ (List.mem_of_getElem? (i := 21) rfl))) Via.refl e12 HF0 (g := (mkF m 6 #[rv a0, iv p1, iv (1 : Int32), iv (3 : Int32)] [(.ref a0), (.int (3 : Int32))])) rfl rfl (hb hby own_d3_6)
        refine ownGo (T' := T15) (f' := (mkF m 9 #[rv a0, iv p1, iv (1 : Int32), iv (3 : Int32)] [(.int (3 : Int32)), (.int (3 : Int32))])) (st15) ?_
        refine ow_icmpYes (q := 38) X15 hx (hb hby own_d3_9) (Jvm.Free.XT.ii_ge_t (by decide)) (by decide) (by decide) ?_
        refine ow_iloadN (q := 39) X15 hx (hb hby own_d3_38) rfl rfl ?_
        refine ownRetN X15 hx (r := (1 : Int32)) (Or.inl rfl) Bd.returns (hb hby own_d3_39) hlk (by decide) (by decide) (by decide) ?_
        subst hv_v13 hv_v8 hv_v3
        rw [e15]
        refine ⟨congrArg (fun q => some (Value.int q)) ?_, N0, rfl⟩
        simp [hc23_4, hc23_9, hc23_14]
      · refine ow_icmpYes (q := 30) X12 hx (hb hby own_d3_23) (Jvm.Free.XT.ii_ne_t hc23_14) (by decide) (by decide) ?_
        refine ow_iconst (q := 31) X12 hx (0 : Int32) (hb hby own_d3_30) rfl rfl ?_
        refine ow_istoreN (q := 32) X12 hx (L' := #[rv a0, iv p1, iv (0 : Int32), iv (2 : Int32)]) (hb hby own_d3_31) rfl rfl ?_
        refine ow_iinc (q := 35) X12 hx (L' := #[rv a0, iv p1, iv (0 : Int32), iv (3 : Int32)]) (hb hby own_d3_32) rfl rfl rfl ?_
        refine ow_goto (q := 4) X12 hx (hb hby own_d3_35) (by decide) (by decide) ?_
        refine ow_iloadN (q := 5) X12 hx (hb hby own_d3_4) rfl rfl ?_
        refine ow_aloadN (q := 6) X12 hx (hb hby own_d3_5) rfl rfl rfl ?_
        obtain ⟨T16, X16, e16, st16⟩ := getF X12 hx hZ hown (host := "") (Or.inl (hw _ (List.mem_of_getElem? (i := 21) rfl))) Via.refl e12 HF0 (g := (mkF m 6 #[rv a0, iv p1, iv (0 : Int32), iv (3 : Int32)] [(.ref a0), (.int (3 : Int32))])) rfl rfl (hb hby own_d3_6)
        refine ownGo (T' := T16) (f' := (mkF m 9 #[rv a0, iv p1, iv (0 : Int32), iv (3 : Int32)] [(.int (3 : Int32)), (.int (3 : Int32))])) (st16) ?_
        refine ow_icmpYes (q := 38) X16 hx (hb hby own_d3_9) (Jvm.Free.XT.ii_ge_t (by decide)) (by decide) (by decide) ?_
        refine ow_iloadN (q := 39) X16 hx (hb hby own_d3_38) rfl rfl ?_
        refine ownRetN X16 hx (r := (0 : Int32)) (Or.inl rfl) Bd.returns (hb hby own_d3_39) hlk (by decide) (by decide) (by decide) ?_
        subst hv_v13 hv_v8 hv_v3
        rw [e16]
        refine ⟨congrArg (fun q => some (Value.int q)) ?_, N0, rfl⟩
        simp [hc23_4, hc23_9, hc23_14]
theorem own_pn_PatternCodeContainsPinLaw : plainName "com/example/vellum4/vellum4/PatternCodeContainsPinLaw" = true := by first | (simp [plainName, overriddenIn]; done) | decide +kernel
theorem own_pd0 : parseMethodDescriptor "()V" = some ⟨[], none⟩ := by decide +kernel
theorem own_pd1 : parseMethodDescriptor "(I)Z" = some ⟨[.int], some .boolean⟩ := by decide +kernel
theorem own_pd2 : parseMethodDescriptor "(III)I" = some ⟨[.int, .int, .int], some .int⟩ := by decide +kernel
theorem own_ef0_law (m : MethodId) (p0 : Int32) (p1 : Int32) (p2 : Int32) (p3 : Int32) (p4 : Int32) (p5 : Int32) : entryFrame m #[(.int p0), (.int p1), (.int p2), (.int p3), (.int p4), (.int p5)] maxLocals = mkF m 0 #[iv p0, iv p1, iv p2, iv p3, iv p4, iv p5, .unset, .unset, .unset, .unset, .unset] [] := by first | (simp [entryFrame, mkF, argsToLocals, Value.category, maxLocals]; done) | rfl
def Q_law (Z : State) (p0 : Int32) (p1 : Int32) (p2 : Int32) (p3 : Int32) (p4 : Int32) (p5 : Int32) (h0 : Heap) (n0 : Nat) (v : Option Value) (h : Heap) (L : List Loc) : Prop := v = some (.int 1) ∧ Fr n0 L
set_option maxRecDepth 65536 in
set_option maxHeartbeats 40000000 in
theorem rm_law (l : Launch) (Z : State) (a0 : Array Value) (hw : ∀ d ∈ tables_1, d.before a0 Z = true) (ws : List Jvm.Cond) (p0 : Int32) (p1 : Int32) (p2 : Int32) (p3 : Int32) (p4 : Int32) (p5 : Int32) (h0 : Heap) (n0 : Nat) (Z0 : n0 ≤ h0.size) :
    MetFree l x (head1 (Jvm.Cond.code x code maxLocals ret :: ws) room_1) (fun a U => a = #[(.int p0), (.int p1), (.int p2), (.int p3), (.int p4), (.int p5)] ∧ Z.Warmed39 U.vm ∧ U.heap = h0) (fun _ _ _ _ _ => True) (fun _ U o U' => ∃ v L, o = .returned v ∧ (Q_law Z p0 p1 p2 p3 p4 p5 h0 n0) v U'.heap L ∧ FrameEnd U o U' L 16 128) := by
  refine MetFree.of_bodySF (plainFor_of_name own_pn_PatternCodeContainsPinLaw) hisR ?_
  intro p e s m args below meth c s₁ Bd hml0 hP hK
  obtain ⟨rfl, hZ, hh⟩ := hP
  have hx := Bd.exec
  have hby := Bd.bytes
  have hml : c.maxLocals = 11 := hml0
  have hown : s.vm.findClass "com/example/vellum4/vellum4/PatternCodeContainsPinLaw" = some m.cls := findClass_of_methodNamed Bd.named
  have hnm := (name_of_methodNamed Bd.named Bd.method).1
  have hlk : meth.locks = false := BodyLoose.notSynchronized Bd
  have X0 : Stand p l e room_1 s m #[(.int p0), (.int p1), (.int p2), (.int p3), (.int p4), (.int p5)] below meth c s₁ [] 0 0 := Stand.of_body Bd
  have e0 : s₁.heap = h0 := by rw [← hh, Bd.state]; rfl
  have N0 := Fr.nil n0
  have K0 : Keep h0 h0 [] := Keep.refl _ _
  show ownEnds p e below s (Q_law Z p0 p1 p2 p3 p4 p5 h0 n0) 16 128 s₁ (entryFrame m #[(.int p0), (.int p1), (.int p2), (.int p3), (.int p4), (.int p5)] maxLocals)
  refine ownCast (own_ef0_law m p0 p1 p2 p3 p4 p5) ?_
  refine ow_iloadN (q := 1) X0 hx (hb hby at_0) rfl rfl ?_
  refine ow_iconst (q := 2) X0 hx (3 : Int32) (hb hby at_1) rfl rfl ?_
  refine ow_iand (q := 3) X0 hx _ (hb hby at_2) rfl rfl ?_
  generalize hv_v1 : (p0 &&& (3 : Int32)) = v1
  refine ow_istore (q := 5) X0 hx (L' := #[iv p0, iv p1, iv p2, iv p3, iv p4, iv p5, iv v1, .unset, .unset, .unset, .unset]) (hb hby at_3) rfl rfl ?_
  rcases own_and3 hv_v1 with hs2 | hs3 | hs4 | hs5
  · subst hs2
    refine ow_iload (q := 7) X0 hx (hb hby at_5) rfl rfl ?_
    refine ow_iconst (q := 8) X0 hx (3 : Int32) (hb hby at_7) rfl rfl ?_
    refine ow_iand (q := 9) X0 hx _ (hb hby at_8) rfl rfl ?_
    generalize hv_v6 : (p5 &&& (3 : Int32)) = v6
    refine ow_istore (q := 11) X0 hx (L' := #[iv p0, iv p1, iv p2, iv p3, iv p4, iv p5, iv (0 : Int32), iv v6, .unset, .unset, .unset]) (hb hby at_9) rfl rfl ?_
    have cut44_7 : ∀ (qv : Int32) (Tc7 : State) (lc7 : List Loc), Stand p l e room_1 s m #[(.int p0), (.int p1), (.int p2), (.int p3), (.int p4), (.int p5)] below meth c Tc7 lc7 0 0 → Tc7.heap = h0 → Fr n0 lc7 → ownEnds p e below s (Q_law Z p0 p1 p2 p3 p4 p5 h0 n0) 16 128 Tc7 (mkF m 44 #[iv p0, iv p1, iv p2, iv p3, iv p4, iv p5, iv (0 : Int32), iv v6, iv qv, .unset, .unset] []) := by
      intro qv Tc7 lc7 Xc7 ec7 Nc7
      obtain ⟨T8, h8, X8, e8, E8, A8, D8, -, st8⟩ := newO Xc7 hx hZ hown (hw _ (List.mem_of_getElem? (i := 0) rfl)) (hw _ (List.mem_of_getElem? (i := 1) rfl)) (hw _ (List.mem_of_getElem? (i := 2) rfl)) ec7 (g := (mkF m 44 #[iv p0, iv p1, iv p2, iv p3, iv p4, iv p5, iv (0 : Int32), iv v6, iv qv, .unset, .unset] [])) rfl (hb hby at_44) (by decide) (by decide)
      obtain ⟨b8, g8⟩ : ∃ z, z = h0.size := ⟨_, rfl⟩
      rw [← g8] at A8 D8 st8
      have sz_b8 : h0.size ≤ b8 := Nat.le_trans K0.1 (Nat.le_of_eq g8.symm)
      have G_b8 : n0 ≤ b8 := Nat.le_trans Z0 sz_b8
      have K8 : Keep h0 h8 [] := K0.ext E8
      have F9 : Fld Z h8 b8 "com/example/vellum4/vellum4/PatternCode" "operation" "[I" .null := D8 (Or.inl (hw _ (List.mem_of_getElem? (i := 11) rfl))) (ty := (.array .int)) (by decide)
      have F10 : Fld Z h8 b8 "com/example/vellum4/vellum4/PatternCode" "arg" "[I" .null := D8 (Or.inl (hw _ (List.mem_of_getElem? (i := 13) rfl))) (ty := (.array .int)) (by decide)
      have F11 : Fld Z h8 b8 "com/example/vellum4/vellum4/PatternCode" "arg2" "[I" .null := D8 (Or.inl (hw _ (List.mem_of_getElem? (i := 15) rfl))) (ty := (.array .int)) (by decide)
      have F12 : Fld Z h8 b8 "com/example/vellum4/vellum4/PatternCode" "size" "I" (.int (0 : Int32)) := D8 (Or.inl (hw _ (List.mem_of_getElem? (i := 22) rfl))) (ty := .int) (by decide)
      refine ownGo (T' := T8) (f' := (mkF m 47 #[iv p0, iv p1, iv p2, iv p3, iv p4, iv p5, iv (0 : Int32), iv v6, iv qv, .unset, .unset] [(.ref b8)])) (st8) ?_
      refine ow_dup (q := 48) X8 hx (hb hby at_47) rfl rfl ?_
      obtain ⟨_, _, ⟨T13, L13, k13, n13⟩, -, X13, ⟨Lc13, hQ13, l13, y13, z13⟩, st13⟩ := X8.specialBack hx (y := (⟨"com/example/vellum4/vellum4/PatternCode", "<init>", "()V"⟩ : MethodName)) rfl hown (mvT hZ (hw _ (List.mem_of_getElem? (i := 3) rfl))) (mvT hZ (hw _ (List.mem_of_getElem? (i := 4) rfl))) (mvT hZ (hw _ (List.mem_of_getElem? (i := 5) rfl))) (by decide) (backOf (W := 1) (rm_init l Z a0 hw [] b8 h8 n0 (Nat.le_trans Z0 K8.1) A8 F9 F10 F11 F12 G_b8) hZ (hw _ (List.mem_of_getElem? (i := 5) rfl)) (hw _ (List.mem_of_getElem? (i := 2) rfl)) (by decide) (by decide)) (g := (mkF m 48 #[iv p0, iv p1, iv p2, iv p3, iv p4, iv p5, iv (0 : Int32), iv v6, iv qv, .unset, .unset] [(.ref b8), (.ref b8)])) rfl (by rw [hml]; rfl) (Steps.refl _) (a := b8) (argsL := []) (rest := [(.ref b8)]) (lenOf own_pd0 rfl) rfl (by show 2 * 0 + _ ≤ _; exact Nat.le_of_eq rfl) (hb hby at_48) (fun _ _ => ⟨rfl, e8, (by decide : 1 + 3 ≤ _), (by decide : 4 + 24 ≤ _)⟩)
      dsimp only [Pt.U, Pt.locs, Pt.cells, Pt.slots] at X13 l13 y13 z13 st13 hQ13
      subst l13 y13 z13
      obtain ⟨a1_13, a2_13, a3_13, rfl, N13q, Kq13, sq13_a1_13, sq13_a2_13, sq13_a3_13, FP13_0, FP13_1, FP13_2, FP13_3, FP13_4, FP13_5, FP13_6, FP13_7, hp13⟩ := hQ13
      have N13 := Fr.app Nc7 N13q
      have K13 : Keep h0 T13.heap [] := K8.trans Kq13 (allS (Or.inr sz_b8) all0)
      have ne_b8_a1_13 : b8 ≠ a1_13 := Nat.ne_of_lt (Nat.lt_of_lt_of_le A8.lt sq13_a1_13)
      have sz_a1_13 : h0.size ≤ a1_13 := Nat.le_trans K8.1 sq13_a1_13
      have G_a1_13 : n0 ≤ a1_13 := Nat.le_trans Z0 sz_a1_13
      have ne_b8_a2_13 : b8 ≠ a2_13 := Nat.ne_of_lt (Nat.lt_of_lt_of_le A8.lt sq13_a2_13)
      have sz_a2_13 : h0.size ≤ a2_13 := Nat.le_trans K8.1 sq13_a2_13
      have G_a2_13 : n0 ≤ a2_13 := Nat.le_trans Z0 sz_a2_13
      have ne_b8_a3_13 : b8 ≠ a3_13 := Nat.ne_of_lt (Nat.lt_of_lt_of_le A8.lt sq13_a3_13)
      have sz_a3_13 : h0.size ≤ a3_13 := Nat.le_trans K8.1 sq13_a3_13
      have G_a3_13 : n0 ≤ a3_13 := Nat.le_trans Z0 sz_a3_13
      have F14 : Exa Z T13.heap b8 "com/example/vellum4/vellum4/PatternCode" := A8.keep Kq13
      refine ownRun (T' := T13) (f' := (mkF m 51 #[iv p0, iv p1, iv p2, iv p3, iv p4, iv p5, iv (0 : Int32), iv v6, iv qv, .unset, .unset] [(.ref b8)])) st13 ?_
      refine ow_astore (q := 53) X13 hx (L' := #[iv p0, iv p1, iv p2, iv p3, iv p4, iv p5, iv (0 : Int32), iv v6, iv qv, rv b8, .unset]) (hb hby at_51) rfl rfl rfl ?_
      refine ow_iload (q := 55) X13 hx (hb hby at_53) rfl rfl ?_
      refine ow_iconst (q := 56) X13 hx (1 : Int32) (hb hby at_55) rfl rfl ?_
      refine ow_icmpYes (q := 68) X13 hx (hb hby at_56) (Jvm.Free.XT.ii_lt_t (by decide)) (by decide) (by decide) ?_
      refine ow_iload (q := 70) X13 hx (hb hby at_68) rfl rfl ?_
      refine ow_iconst (q := 71) X13 hx (2 : Int32) (hb hby at_70) rfl rfl ?_
      refine ow_icmpYes (q := 83) X13 hx (hb hby at_71) (Jvm.Free.XT.ii_lt_t (by decide)) (by decide) (by decide) ?_
      refine ow_iload (q := 85) X13 hx (hb hby at_83) rfl rfl ?_
      refine ow_iconst (q := 86) X13 hx (3 : Int32) (hb hby at_85) rfl rfl ?_
      refine ow_icmpYes (q := 98) X13 hx (hb hby at_86) (Jvm.Free.XT.ii_lt_t (by decide)) (by decide) (by decide) ?_
      refine ow_iload (q := 100) X13 hx (hb hby at_98) rfl rfl ?_
      refine ow_iconst (q := 101) X13 hx (1 : Int32) (hb hby at_100) rfl rfl ?_
      refine ow_icmpYes (q := 110) X13 hx (hb hby at_101) (Jvm.Free.XT.ii_lt_t (by decide)) (by decide) (by decide) ?_
      refine ow_iload (q := 112) X13 hx (hb hby at_110) rfl rfl ?_
      refine ow_iconst (q := 113) X13 hx (2 : Int32) (hb hby at_112) rfl rfl ?_
      refine ow_icmpYes (q := 122) X13 hx (hb hby at_113) (Jvm.Free.XT.ii_lt_t (by decide)) (by decide) (by decide) ?_
      refine ow_iload (q := 124) X13 hx (hb hby at_122) rfl rfl ?_
      refine ow_iconst (q := 125) X13 hx (3 : Int32) (hb hby at_124) rfl rfl ?_
      refine ow_icmpYes (q := 138) X13 hx (hb hby at_125) (Jvm.Free.XT.ii_lt_t (by decide)) (by decide) (by decide) ?_
      refine ow_iconst (q := 139) X13 hx (0 : Int32) (hb hby at_138) rfl rfl ?_
      refine ow_istore (q := 141) X13 hx (L' := #[iv p0, iv p1, iv p2, iv p3, iv p4, iv p5, iv (0 : Int32), iv v6, iv qv, rv b8, iv (0 : Int32)]) (hb hby at_139) rfl rfl ?_
      refine ow_aload (q := 143) X13 hx (hb hby at_141) rfl rfl rfl ?_
      refine ow_iload (q := 145) X13 hx (hb hby at_143) rfl rfl ?_
      obtain ⟨cq15, kq15, q15a, q15b, q15c⟩ := isOf hZ rfl FP13_0
      obtain ⟨_, _, ⟨T15, L15, k15, n15⟩, -, X15, ⟨Lc15, hQ15, l15, y15, z15⟩, st15⟩ := X13.virtualBack hx (y := (⟨"com/example/vellum4/vellum4/PatternCode", "contains", "(I)Z"⟩ : MethodName)) (z := (⟨"com/example/vellum4/vellum4/PatternCode", "contains", "(I)Z"⟩ : MethodName)) hown (mvT hZ (hw _ (List.mem_of_getElem? (i := 16) rfl))) (mvT hZ (hw _ (List.mem_of_getElem? (i := 17) rfl))) (notFace_of_selects (args := #[]) (mvT hZ (hw _ (List.mem_of_getElem? (i := 19) rfl)))) (mvT hZ (hw _ (List.mem_of_getElem? (i := 19) rfl))) (mvT hZ (hw _ (List.mem_of_getElem? (i := 18) rfl))) (by decide) (backOf (W := 0) (rm_contains_0 l Z a0 hw [] b8 qv a1_13 (fun _ => (0 : Int32)) T13.heap n0 (Nat.le_trans Z0 K13.1) FP13_4 FP13_1 FP13_5) hZ (hw _ (List.mem_of_getElem? (i := 20) rfl)) (hw _ (List.mem_of_getElem? (i := 2) rfl)) (by decide) (by decide)) q15a q15c (g := (mkF m 145 #[iv p0, iv p1, iv p2, iv p3, iv p4, iv p5, iv (0 : Int32), iv v6, iv qv, rv b8, iv (0 : Int32)] [(.int qv), (.ref b8)])) rfl (by rw [hml]; rfl) (Steps.refl _) (argsL := [(.int qv)]) (rest := []) (lenOf own_pd1 rfl) rfl (by show 2 * 0 + _ ≤ _; exact Nat.le_of_eq rfl) (hb hby at_145) (fun _ _ => ⟨rfl, rfl, (by decide : 4 + 0 ≤ _), (by decide : 28 + 0 ≤ _)⟩)
      dsimp only [Pt.U, Pt.locs, Pt.cells, Pt.slots] at X15 l15 y15 z15 st15 hQ15
      subst l15 y15 z15
      obtain ⟨rfl, N15q, e15⟩ := hQ15
      have N15 := Fr.app N13 N15q
      refine ownRun (T' := T15) (f' := (mkF m 148 #[iv p0, iv p1, iv p2, iv p3, iv p4, iv p5, iv (0 : Int32), iv v6, iv qv, rv b8, iv (0 : Int32)] [(.int (0 : Int32))])) st15 ?_
      refine ow_iload (q := 150) X15 hx (hb hby at_148) rfl rfl ?_
      refine ow_icmpNo (q := 153) X15 hx (hb hby at_150) rfl (Jvm.Free.XT.ii_ne_f (by simp [ownUpd, ])) ?_
      refine ow_aload (q := 155) X15 hx (hb hby at_153) rfl rfl rfl ?_
      obtain ⟨T16, X16, e16, st16⟩ := getF X15 hx hZ hown (host := "") (Or.inl (hw _ (List.mem_of_getElem? (i := 23) rfl))) Via.refl e15 FP13_4 (g := (mkF m 155 #[iv p0, iv p1, iv p2, iv p3, iv p4, iv p5, iv (0 : Int32), iv v6, iv qv, rv b8, iv (0 : Int32)] [(.ref b8)])) rfl rfl (hb hby at_155)
      refine ownGo (T' := T16) (f' := (mkF m 158 #[iv p0, iv p1, iv p2, iv p3, iv p4, iv p5, iv (0 : Int32), iv v6, iv qv, rv b8, iv (0 : Int32)] [(.int (0 : Int32))])) (st16) ?_
      refine ow_iload (q := 160) X16 hx (hb hby at_158) rfl rfl ?_
      refine ow_icmpNo (q := 163) X16 hx (hb hby at_160) rfl (Jvm.Free.XT.ii_ne_f (by decide)) ?_
      refine ow_iconst (q := 164) X16 hx (1 : Int32) (hb hby at_163) rfl rfl ?_
      refine ow_goto (q := 168) X16 hx (hb hby at_164) (by decide) (by decide) ?_
      refine ownRetN X16 hx (r := (1 : Int32)) (Or.inl rfl) Bd.returns (hb hby at_168) hlk (by decide) (by decide) (by decide) ?_
      exact ⟨rfl, N15⟩
    refine ow_iload (q := 13) X0 hx (hb hby at_11) rfl rfl ?_
    by_cases hc13_17 : v6 = (0 : Int32)
    · refine ow_ifNo (q := 16) X0 hx (hb hby at_13) rfl (Jvm.Free.XT.i0_ne_f hc13_17) ?_
      refine ow_iload (q := 18) X0 hx (hb hby at_16) rfl rfl ?_
      refine ow_goto (q := 42) X0 hx (hb hby at_18) (by decide) (by decide) ?_
      refine ow_istore (q := 44) X0 hx (L' := #[iv p0, iv p1, iv p2, iv p3, iv p4, iv p5, iv (0 : Int32), iv v6, iv p4, .unset, .unset]) (hb hby at_42) rfl rfl ?_
      exact cut44_7 p4 _ _ X0 e0 N0 
    · refine ow_ifYes (q := 21) X0 hx (hb hby at_13) (Jvm.Free.XT.i0_ne_t hc13_17) (by decide) (by decide) ?_
      refine ow_iload (q := 23) X0 hx (hb hby at_21) rfl rfl ?_
      refine ow_iconst (q := 24) X0 hx (1 : Int32) (hb hby at_23) rfl rfl ?_
      by_cases hc24_18 : v6 = (1 : Int32)
      · refine ow_icmpNo (q := 27) X0 hx (hb hby at_24) rfl (Jvm.Free.XT.ii_ne_f hc24_18) ?_
        refine ow_iloadN (q := 28) X0 hx (hb hby at_27) rfl rfl ?_
        refine ow_goto (q := 42) X0 hx (hb hby at_28) (by decide) (by decide) ?_
        refine ow_istore (q := 44) X0 hx (L' := #[iv p0, iv p1, iv p2, iv p3, iv p4, iv p5, iv (0 : Int32), iv v6, iv p1, .unset, .unset]) (hb hby at_42) rfl rfl ?_
        exact cut44_7 p1 _ _ X0 e0 N0 
      · refine ow_icmpYes (q := 31) X0 hx (hb hby at_24) (Jvm.Free.XT.ii_ne_t hc24_18) (by decide) (by decide) ?_
        refine ow_iload (q := 33) X0 hx (hb hby at_31) rfl rfl ?_
        refine ow_iconst (q := 34) X0 hx (2 : Int32) (hb hby at_33) rfl rfl ?_
        by_cases hc34_19 : v6 = (2 : Int32)
        · refine ow_icmpNo (q := 37) X0 hx (hb hby at_34) rfl (Jvm.Free.XT.ii_ne_f hc34_19) ?_
          refine ow_iloadN (q := 38) X0 hx (hb hby at_37) rfl rfl ?_
          refine ow_goto (q := 42) X0 hx (hb hby at_38) (by decide) (by decide) ?_
          refine ow_istore (q := 44) X0 hx (L' := #[iv p0, iv p1, iv p2, iv p3, iv p4, iv p5, iv (0 : Int32), iv v6, iv p2, .unset, .unset]) (hb hby at_42) rfl rfl ?_
          exact cut44_7 p2 _ _ X0 e0 N0 
        · refine ow_icmpYes (q := 41) X0 hx (hb hby at_34) (Jvm.Free.XT.ii_ne_t hc34_19) (by decide) (by decide) ?_
          refine ow_iloadN (q := 42) X0 hx (hb hby at_41) rfl rfl ?_
          refine ow_istore (q := 44) X0 hx (L' := #[iv p0, iv p1, iv p2, iv p3, iv p4, iv p5, iv (0 : Int32), iv v6, iv p3, .unset, .unset]) (hb hby at_42) rfl rfl ?_
          exact cut44_7 p3 _ _ X0 e0 N0 
  · subst hs3
    refine ow_iload (q := 7) X0 hx (hb hby at_5) rfl rfl ?_
    refine ow_iconst (q := 8) X0 hx (3 : Int32) (hb hby at_7) rfl rfl ?_
    refine ow_iand (q := 9) X0 hx _ (hb hby at_8) rfl rfl ?_
    generalize hv_v20 : (p5 &&& (3 : Int32)) = v20
    refine ow_istore (q := 11) X0 hx (L' := #[iv p0, iv p1, iv p2, iv p3, iv p4, iv p5, iv (1 : Int32), iv v20, .unset, .unset, .unset]) (hb hby at_9) rfl rfl ?_
    have cut44_21 : ∀ (qv : Int32) (Tc21 : State) (lc21 : List Loc), Stand p l e room_1 s m #[(.int p0), (.int p1), (.int p2), (.int p3), (.int p4), (.int p5)] below meth c Tc21 lc21 0 0 → Tc21.heap = h0 → Fr n0 lc21 → ownEnds p e below s (Q_law Z p0 p1 p2 p3 p4 p5 h0 n0) 16 128 Tc21 (mkF m 44 #[iv p0, iv p1, iv p2, iv p3, iv p4, iv p5, iv (1 : Int32), iv v20, iv qv, .unset, .unset] []) := by
      intro qv Tc21 lc21 Xc21 ec21 Nc21
      obtain ⟨T22, h22, X22, e22, E22, A22, D22, -, st22⟩ := newO Xc21 hx hZ hown (hw _ (List.mem_of_getElem? (i := 0) rfl)) (hw _ (List.mem_of_getElem? (i := 1) rfl)) (hw _ (List.mem_of_getElem? (i := 2) rfl)) ec21 (g := (mkF m 44 #[iv p0, iv p1, iv p2, iv p3, iv p4, iv p5, iv (1 : Int32), iv v20, iv qv, .unset, .unset] [])) rfl (hb hby at_44) (by decide) (by decide)
      obtain ⟨b22, g22⟩ : ∃ z, z = h0.size := ⟨_, rfl⟩
      rw [← g22] at A22 D22 st22
      have sz_b22 : h0.size ≤ b22 := Nat.le_trans K0.1 (Nat.le_of_eq g22.symm)
      have G_b22 : n0 ≤ b22 := Nat.le_trans Z0 sz_b22
      have K22 : Keep h0 h22 [] := K0.ext E22
      have F23 : Fld Z h22 b22 "com/example/vellum4/vellum4/PatternCode" "operation" "[I" .null := D22 (Or.inl (hw _ (List.mem_of_getElem? (i := 11) rfl))) (ty := (.array .int)) (by decide)
      have F24 : Fld Z h22 b22 "com/example/vellum4/vellum4/PatternCode" "arg" "[I" .null := D22 (Or.inl (hw _ (List.mem_of_getElem? (i := 13) rfl))) (ty := (.array .int)) (by decide)
      have F25 : Fld Z h22 b22 "com/example/vellum4/vellum4/PatternCode" "arg2" "[I" .null := D22 (Or.inl (hw _ (List.mem_of_getElem? (i := 15) rfl))) (ty := (.array .int)) (by decide)
      have F26 : Fld Z h22 b22 "com/example/vellum4/vellum4/PatternCode" "size" "I" (.int (0 : Int32)) := D22 (Or.inl (hw _ (List.mem_of_getElem? (i := 22) rfl))) (ty := .int) (by decide)
      refine ownGo (T' := T22) (f' := (mkF m 47 #[iv p0, iv p1, iv p2, iv p3, iv p4, iv p5, iv (1 : Int32), iv v20, iv qv, .unset, .unset] [(.ref b22)])) (st22) ?_
      refine ow_dup (q := 48) X22 hx (hb hby at_47) rfl rfl ?_
      obtain ⟨_, _, ⟨T27, L27, k27, n27⟩, -, X27, ⟨Lc27, hQ27, l27, y27, z27⟩, st27⟩ := X22.specialBack hx (y := (⟨"com/example/vellum4/vellum4/PatternCode", "<init>", "()V"⟩ : MethodName)) rfl hown (mvT hZ (hw _ (List.mem_of_getElem? (i := 3) rfl))) (mvT hZ (hw _ (List.mem_of_getElem? (i := 4) rfl))) (mvT hZ (hw _ (List.mem_of_getElem? (i := 5) rfl))) (by decide) (backOf (W := 1) (rm_init l Z a0 hw [] b22 h22 n0 (Nat.le_trans Z0 K22.1) A22 F23 F24 F25 F26 G_b22) hZ (hw _ (List.mem_of_getElem? (i := 5) rfl)) (hw _ (List.mem_of_getElem? (i := 2) rfl)) (by decide) (by decide)) (g := (mkF m 48 #[iv p0, iv p1, iv p2, iv p3, iv p4, iv p5, iv (1 : Int32), iv v20, iv qv, .unset, .unset] [(.ref b22), (.ref b22)])) rfl (by rw [hml]; rfl) (Steps.refl _) (a := b22) (argsL := []) (rest := [(.ref b22)]) (lenOf own_pd0 rfl) rfl (by show 2 * 0 + _ ≤ _; exact Nat.le_of_eq rfl) (hb hby at_48) (fun _ _ => ⟨rfl, e22, (by decide : 1 + 3 ≤ _), (by decide : 4 + 24 ≤ _)⟩)
      dsimp only [Pt.U, Pt.locs, Pt.cells, Pt.slots] at X27 l27 y27 z27 st27 hQ27
      subst l27 y27 z27
      obtain ⟨a1_27, a2_27, a3_27, rfl, N27q, Kq27, sq27_a1_27, sq27_a2_27, sq27_a3_27, FP27_0, FP27_1, FP27_2, FP27_3, FP27_4, FP27_5, FP27_6, FP27_7, hp27⟩ := hQ27
      have N27 := Fr.app Nc21 N27q
      have K27 : Keep h0 T27.heap [] := K22.trans Kq27 (allS (Or.inr sz_b22) all0)
      have ne_b22_a1_27 : b22 ≠ a1_27 := Nat.ne_of_lt (Nat.lt_of_lt_of_le A22.lt sq27_a1_27)
      have sz_a1_27 : h0.size ≤ a1_27 := Nat.le_trans K22.1 sq27_a1_27
      have G_a1_27 : n0 ≤ a1_27 := Nat.le_trans Z0 sz_a1_27
      have ne_b22_a2_27 : b22 ≠ a2_27 := Nat.ne_of_lt (Nat.lt_of_lt_of_le A22.lt sq27_a2_27)
      have sz_a2_27 : h0.size ≤ a2_27 := Nat.le_trans K22.1 sq27_a2_27
      have G_a2_27 : n0 ≤ a2_27 := Nat.le_trans Z0 sz_a2_27
      have ne_b22_a3_27 : b22 ≠ a3_27 := Nat.ne_of_lt (Nat.lt_of_lt_of_le A22.lt sq27_a3_27)
      have sz_a3_27 : h0.size ≤ a3_27 := Nat.le_trans K22.1 sq27_a3_27
      have G_a3_27 : n0 ≤ a3_27 := Nat.le_trans Z0 sz_a3_27
      have F28 : Exa Z T27.heap b22 "com/example/vellum4/vellum4/PatternCode" := A22.keep Kq27
      refine ownRun (T' := T27) (f' := (mkF m 51 #[iv p0, iv p1, iv p2, iv p3, iv p4, iv p5, iv (1 : Int32), iv v20, iv qv, .unset, .unset] [(.ref b22)])) st27 ?_
      refine ow_astore (q := 53) X27 hx (L' := #[iv p0, iv p1, iv p2, iv p3, iv p4, iv p5, iv (1 : Int32), iv v20, iv qv, rv b22, .unset]) (hb hby at_51) rfl rfl rfl ?_
      refine ow_iload (q := 55) X27 hx (hb hby at_53) rfl rfl ?_
      refine ow_iconst (q := 56) X27 hx (1 : Int32) (hb hby at_55) rfl rfl ?_
      refine ow_icmpNo (q := 59) X27 hx (hb hby at_56) rfl (Jvm.Free.XT.ii_lt_f (by decide)) ?_
      refine ow_aload (q := 61) X27 hx (hb hby at_59) rfl rfl rfl ?_
      refine ow_iloadN (q := 62) X27 hx (hb hby at_61) rfl rfl ?_
      refine ow_iloadN (q := 63) X27 hx (hb hby at_62) rfl rfl ?_
      refine ow_iloadN (q := 64) X27 hx (hb hby at_63) rfl rfl ?_
      obtain ⟨cq29, kq29, q29a, q29b, q29c⟩ := isOf hZ rfl FP27_0
      obtain ⟨_, _, ⟨T29, L29, k29, n29⟩, -, X29, ⟨Lc29, hQ29, l29, y29, z29⟩, st29⟩ := X27.virtualBack hx (y := (⟨"com/example/vellum4/vellum4/PatternCode", "emitUnchecked", "(III)I"⟩ : MethodName)) (z := (⟨"com/example/vellum4/vellum4/PatternCode", "emitUnchecked", "(III)I"⟩ : MethodName)) hown (mvT hZ (hw _ (List.mem_of_getElem? (i := 24) rfl))) (mvT hZ (hw _ (List.mem_of_getElem? (i := 25) rfl))) (notFace_of_selects (args := #[]) (mvT hZ (hw _ (List.mem_of_getElem? (i := 27) rfl)))) (mvT hZ (hw _ (List.mem_of_getElem? (i := 27) rfl))) (mvT hZ (hw _ (List.mem_of_getElem? (i := 26) rfl))) (by decide) (backOf (W := 0) (rm_emit_0 l Z a0 hw [] b22 p1 p2 p3 a1_27 a2_27 a3_27 (fun _ => (0 : Int32)) (fun _ => (0 : Int32)) (fun _ => (0 : Int32)) T27.heap n0 (Nat.le_trans Z0 K27.1) FP27_0 FP27_1 FP27_2 FP27_3 FP27_4 FP27_5 FP27_6 FP27_7 G_b22 G_a1_27 G_a2_27 G_a3_27 (ne_b22_a1_27) (ne_b22_a2_27) (ne_b22_a3_27) (hp27.1) (hp27.2.1) (hp27.2.2)) hZ (hw _ (List.mem_of_getElem? (i := 28) rfl)) (hw _ (List.mem_of_getElem? (i := 2) rfl)) (by decide) (by decide)) q29a q29c (g := (mkF m 64 #[iv p0, iv p1, iv p2, iv p3, iv p4, iv p5, iv (1 : Int32), iv v20, iv qv, rv b22, .unset] [(.int p3), (.int p2), (.int p1), (.ref b22)])) rfl (by rw [hml]; rfl) (Steps.refl _) (argsL := [(.int p1), (.int p2), (.int p3)]) (rest := []) (lenOf own_pd2 rfl) rfl (by show 2 * 0 + _ ≤ _; exact Nat.le_of_eq rfl) (hb hby at_64) (fun _ _ => ⟨rfl, rfl, (by decide : 4 + 0 ≤ _), (by decide : 28 + 0 ≤ _)⟩)
      dsimp only [Pt.U, Pt.locs, Pt.cells, Pt.slots] at X29 l29 y29 z29 st29 hQ29
      subst l29 y29 z29
      obtain ⟨rfl, N29q, Kq29, FP29_0, FP29_1, FP29_2, FP29_3, FP29_4, FP29_5, FP29_6, FP29_7⟩ := hQ29
      have N29 := Fr.app N27 N29q
      have K29 : Keep h0 T29.heap [] := K27.trans Kq29 (allS (Or.inr sz_b22) (allS (Or.inr sz_a1_27) (allS (Or.inr sz_a2_27) (allS (Or.inr sz_a3_27) all0))))
      have F30 : Exa Z T29.heap b22 "com/example/vellum4/vellum4/PatternCode" := FP27_0.keep Kq29
      refine ownRun (T' := T29) (f' := (mkF m 67 #[iv p0, iv p1, iv p2, iv p3, iv p4, iv p5, iv (1 : Int32), iv v20, iv qv, rv b22, .unset] [(.int (0 : Int32))])) st29 ?_
      refine ow_pop (q := 68) X29 hx (hb hby at_67) rfl rfl ?_
      refine ow_iload (q := 70) X29 hx (hb hby at_68) rfl rfl ?_
      refine ow_iconst (q := 71) X29 hx (2 : Int32) (hb hby at_70) rfl rfl ?_
      refine ow_icmpYes (q := 83) X29 hx (hb hby at_71) (Jvm.Free.XT.ii_lt_t (by decide)) (by decide) (by decide) ?_
      refine ow_iload (q := 85) X29 hx (hb hby at_83) rfl rfl ?_
      refine ow_iconst (q := 86) X29 hx (3 : Int32) (hb hby at_85) rfl rfl ?_
      refine ow_icmpYes (q := 98) X29 hx (hb hby at_86) (Jvm.Free.XT.ii_lt_t (by decide)) (by decide) (by decide) ?_
      refine ow_iload (q := 100) X29 hx (hb hby at_98) rfl rfl ?_
      refine ow_iconst (q := 101) X29 hx (1 : Int32) (hb hby at_100) rfl rfl ?_
      refine ow_icmpNo (q := 104) X29 hx (hb hby at_101) rfl (Jvm.Free.XT.ii_lt_f (by decide)) ?_
      refine ow_iloadN (q := 105) X29 hx (hb hby at_104) rfl rfl ?_
      refine ow_iload (q := 107) X29 hx (hb hby at_105) rfl rfl ?_
      by_cases hc107_31 : p1 = qv
      · refine ow_icmpYes (q := 134) X29 hx (hb hby at_107) (Jvm.Free.XT.ii_eq_t hc107_31) (by decide) (by decide) ?_
        refine ow_iconst (q := 135) X29 hx (1 : Int32) (hb hby at_134) rfl rfl ?_
        refine ow_goto (q := 139) X29 hx (hb hby at_135) (by decide) (by decide) ?_
        refine ow_istore (q := 141) X29 hx (L' := #[iv p0, iv p1, iv p2, iv p3, iv p4, iv p5, iv (1 : Int32), iv v20, iv qv, rv b22, iv (1 : Int32)]) (hb hby at_139) rfl rfl ?_
        refine ow_aload (q := 143) X29 hx (hb hby at_141) rfl rfl rfl ?_
        refine ow_iload (q := 145) X29 hx (hb hby at_143) rfl rfl ?_
        obtain ⟨cq32, kq32, q32a, q32b, q32c⟩ := isOf hZ rfl FP29_0
        obtain ⟨_, _, ⟨T32, L32, k32, n32⟩, -, X32, ⟨Lc32, hQ32, l32, y32, z32⟩, st32⟩ := X29.virtualBack hx (y := (⟨"com/example/vellum4/vellum4/PatternCode", "contains", "(I)Z"⟩ : MethodName)) (z := (⟨"com/example/vellum4/vellum4/PatternCode", "contains", "(I)Z"⟩ : MethodName)) hown (mvT hZ (hw _ (List.mem_of_getElem? (i := 16) rfl))) (mvT hZ (hw _ (List.mem_of_getElem? (i := 17) rfl))) (notFace_of_selects (args := #[]) (mvT hZ (hw _ (List.mem_of_getElem? (i := 19) rfl)))) (mvT hZ (hw _ (List.mem_of_getElem? (i := 19) rfl))) (mvT hZ (hw _ (List.mem_of_getElem? (i := 18) rfl))) (by decide) (backOf (W := 0) (rm_contains_1 l Z a0 hw [] b22 qv a1_27 (ownUpd (fun _ => (0 : Int32)) 0 p1) T29.heap n0 (Nat.le_trans Z0 K29.1) FP29_4 FP29_1 FP29_5) hZ (hw _ (List.mem_of_getElem? (i := 20) rfl)) (hw _ (List.mem_of_getElem? (i := 2) rfl)) (by decide) (by decide)) q32a q32c (g := (mkF m 145 #[iv p0, iv p1, iv p2, iv p3, iv p4, iv p5, iv (1 : Int32), iv v20, iv qv, rv b22, iv (1 : Int32)] [(.int qv), (.ref b22)])) rfl (by rw [hml]; rfl) (Steps.refl _) (argsL := [(.int qv)]) (rest := []) (lenOf own_pd1 rfl) rfl (by show 2 * 0 + _ ≤ _; exact Nat.le_of_eq rfl) (hb hby at_145) (fun _ _ => ⟨rfl, rfl, (by decide : 4 + 0 ≤ _), (by decide : 28 + 0 ≤ _)⟩)
        dsimp only [Pt.U, Pt.locs, Pt.cells, Pt.slots] at X32 l32 y32 z32 st32 hQ32
        subst l32 y32 z32
        obtain ⟨rfl, N32q, e32⟩ := hQ32
        have N32 := Fr.app N29 N32q
        refine ownRun (T' := T32) (f' := (mkF m 148 #[iv p0, iv p1, iv p2, iv p3, iv p4, iv p5, iv (1 : Int32), iv v20, iv qv, rv b22, iv (1 : Int32)] [(.int (if (ownUpd (fun _ => (0 : Int32)) 0 p1) 0 = qv then (1 : Int32) else (0 : Int32)))])) st32 ?_
        refine ow_iload (q := 150) X32 hx (hb hby at_148) rfl rfl ?_
        refine ow_icmpNo (q := 153) X32 hx (hb hby at_150) rfl (Jvm.Free.XT.ii_ne_f (by simp [ownUpd, hc107_31])) ?_
        refine ow_aload (q := 155) X32 hx (hb hby at_153) rfl rfl rfl ?_
        obtain ⟨T33, X33, e33, st33⟩ := getF X32 hx hZ hown (host := "") (Or.inl (hw _ (List.mem_of_getElem? (i := 23) rfl))) Via.refl e32 FP29_4 (g := (mkF m 155 #[iv p0, iv p1, iv p2, iv p3, iv p4, iv p5, iv (1 : Int32), iv v20, iv qv, rv b22, iv (1 : Int32)] [(.ref b22)])) rfl rfl (hb hby at_155)
        refine ownGo (T' := T33) (f' := (mkF m 158 #[iv p0, iv p1, iv p2, iv p3, iv p4, iv p5, iv (1 : Int32), iv v20, iv qv, rv b22, iv (1 : Int32)] [(.int (1 : Int32))])) (st33) ?_
        refine ow_iload (q := 160) X33 hx (hb hby at_158) rfl rfl ?_
        refine ow_icmpNo (q := 163) X33 hx (hb hby at_160) rfl (Jvm.Free.XT.ii_ne_f (by decide)) ?_
        refine ow_iconst (q := 164) X33 hx (1 : Int32) (hb hby at_163) rfl rfl ?_
        refine ow_goto (q := 168) X33 hx (hb hby at_164) (by decide) (by decide) ?_
        refine ownRetN X33 hx (r := (1 : Int32)) (Or.inl rfl) Bd.returns (hb hby at_168) hlk (by decide) (by decide) (by decide) ?_
        exact ⟨rfl, N32⟩
      · refine ow_icmpNo (q := 110) X29 hx (hb hby at_107) rfl (Jvm.Free.XT.ii_eq_f hc107_31) ?_
        refine ow_iload (q := 112) X29 hx (hb hby at_110) rfl rfl ?_
        refine ow_iconst (q := 113) X29 hx (2 : Int32) (hb hby at_112) rfl rfl ?_
        refine ow_icmpYes (q := 122) X29 hx (hb hby at_113) (Jvm.Free.XT.ii_lt_t (by decide)) (by decide) (by decide) ?_
        refine ow_iload (q := 124) X29 hx (hb hby at_122) rfl rfl ?_
        refine ow_iconst (q := 125) X29 hx (3 : Int32) (hb hby at_124) rfl rfl ?_
        refine ow_icmpYes (q := 138) X29 hx (hb hby at_125) (Jvm.Free.XT.ii_lt_t (by decide)) (by decide) (by decide) ?_
        refine ow_iconst (q := 139) X29 hx (0 : Int32) (hb hby at_138) rfl rfl ?_
        refine ow_istore (q := 141) X29 hx (L' := #[iv p0, iv p1, iv p2, iv p3, iv p4, iv p5, iv (1 : Int32), iv v20, iv qv, rv b22, iv (0 : Int32)]) (hb hby at_139) rfl rfl ?_
        refine ow_aload (q := 143) X29 hx (hb hby at_141) rfl rfl rfl ?_
        refine ow_iload (q := 145) X29 hx (hb hby at_143) rfl rfl ?_
        obtain ⟨cq34, kq34, q34a, q34b, q34c⟩ := isOf hZ rfl FP29_0
        obtain ⟨_, _, ⟨T34, L34, k34, n34⟩, -, X34, ⟨Lc34, hQ34, l34, y34, z34⟩, st34⟩ := X29.virtualBack hx (y := (⟨"com/example/vellum4/vellum4/PatternCode", "contains", "(I)Z"⟩ : MethodName)) (z := (⟨"com/example/vellum4/vellum4/PatternCode", "contains", "(I)Z"⟩ : MethodName)) hown (mvT hZ (hw _ (List.mem_of_getElem? (i := 16) rfl))) (mvT hZ (hw _ (List.mem_of_getElem? (i := 17) rfl))) (notFace_of_selects (args := #[]) (mvT hZ (hw _ (List.mem_of_getElem? (i := 19) rfl)))) (mvT hZ (hw _ (List.mem_of_getElem? (i := 19) rfl))) (mvT hZ (hw _ (List.mem_of_getElem? (i := 18) rfl))) (by decide) (backOf (W := 0) (rm_contains_1 l Z a0 hw [] b22 qv a1_27 (ownUpd (fun _ => (0 : Int32)) 0 p1) T29.heap n0 (Nat.le_trans Z0 K29.1) FP29_4 FP29_1 FP29_5) hZ (hw _ (List.mem_of_getElem? (i := 20) rfl)) (hw _ (List.mem_of_getElem? (i := 2) rfl)) (by decide) (by decide)) q34a q34c (g := (mkF m 145 #[iv p0, iv p1, iv p2, iv p3, iv p4, iv p5, iv (1 : Int32), iv v20, iv qv, rv b22, iv (0 : Int32)] [(.int qv), (.ref b22)])) rfl (by rw [hml]; rfl) (Steps.refl _) (argsL := [(.int qv)]) (rest := []) (lenOf own_pd1 rfl) rfl (by show 2 * 0 + _ ≤ _; exact Nat.le_of_eq rfl) (hb hby at_145) (fun _ _ => ⟨rfl, rfl, (by decide : 4 + 0 ≤ _), (by decide : 28 + 0 ≤ _)⟩)
        dsimp only [Pt.U, Pt.locs, Pt.cells, Pt.slots] at X34 l34 y34 z34 st34 hQ34
        subst l34 y34 z34
        obtain ⟨rfl, N34q, e34⟩ := hQ34
        have N34 := Fr.app N29 N34q
        refine ownRun (T' := T34) (f' := (mkF m 148 #[iv p0, iv p1, iv p2, iv p3, iv p4, iv p5, iv (1 : Int32), iv v20, iv qv, rv b22, iv (0 : Int32)] [(.int (if (ownUpd (fun _ => (0 : Int32)) 0 p1) 0 = qv then (1 : Int32) else (0 : Int32)))])) st34 ?_
        refine ow_iload (q := 150) X34 hx (hb hby at_148) rfl rfl ?_
        refine ow_icmpNo (q := 153) X34 hx (hb hby at_150) rfl (Jvm.Free.XT.ii_ne_f (by simp [ownUpd, hc107_31])) ?_
        refine ow_aload (q := 155) X34 hx (hb hby at_153) rfl rfl rfl ?_
        obtain ⟨T35, X35, e35, st35⟩ := getF X34 hx hZ hown (host := "") (Or.inl (hw _ (List.mem_of_getElem? (i := 23) rfl))) Via.refl e34 FP29_4 (g := (mkF m 155 #[iv p0, iv p1, iv p2, iv p3, iv p4, iv p5, iv (1 : Int32), iv v20, iv qv, rv b22, iv (0 : Int32)] [(.ref b22)])) rfl rfl (hb hby at_155)
        refine ownGo (T' := T35) (f' := (mkF m 158 #[iv p0, iv p1, iv p2, iv p3, iv p4, iv p5, iv (1 : Int32), iv v20, iv qv, rv b22, iv (0 : Int32)] [(.int (1 : Int32))])) (st35) ?_
        refine ow_iload (q := 160) X35 hx (hb hby at_158) rfl rfl ?_
        refine ow_icmpNo (q := 163) X35 hx (hb hby at_160) rfl (Jvm.Free.XT.ii_ne_f (by decide)) ?_
        refine ow_iconst (q := 164) X35 hx (1 : Int32) (hb hby at_163) rfl rfl ?_
        refine ow_goto (q := 168) X35 hx (hb hby at_164) (by decide) (by decide) ?_
        refine ownRetN X35 hx (r := (1 : Int32)) (Or.inl rfl) Bd.returns (hb hby at_168) hlk (by decide) (by decide) (by decide) ?_
        exact ⟨rfl, N34⟩
    refine ow_iload (q := 13) X0 hx (hb hby at_11) rfl rfl ?_
    by_cases hc13_36 : v20 = (0 : Int32)
    · refine ow_ifNo (q := 16) X0 hx (hb hby at_13) rfl (Jvm.Free.XT.i0_ne_f hc13_36) ?_
      refine ow_iload (q := 18) X0 hx (hb hby at_16) rfl rfl ?_
      refine ow_goto (q := 42) X0 hx (hb hby at_18) (by decide) (by decide) ?_
      refine ow_istore (q := 44) X0 hx (L' := #[iv p0, iv p1, iv p2, iv p3, iv p4, iv p5, iv (1 : Int32), iv v20, iv p4, .unset, .unset]) (hb hby at_42) rfl rfl ?_
      exact cut44_21 p4 _ _ X0 e0 N0 
    · refine ow_ifYes (q := 21) X0 hx (hb hby at_13) (Jvm.Free.XT.i0_ne_t hc13_36) (by decide) (by decide) ?_
      refine ow_iload (q := 23) X0 hx (hb hby at_21) rfl rfl ?_
      refine ow_iconst (q := 24) X0 hx (1 : Int32) (hb hby at_23) rfl rfl ?_
      by_cases hc24_37 : v20 = (1 : Int32)
      · refine ow_icmpNo (q := 27) X0 hx (hb hby at_24) rfl (Jvm.Free.XT.ii_ne_f hc24_37) ?_
        refine ow_iloadN (q := 28) X0 hx (hb hby at_27) rfl rfl ?_
        refine ow_goto (q := 42) X0 hx (hb hby at_28) (by decide) (by decide) ?_
        refine ow_istore (q := 44) X0 hx (L' := #[iv p0, iv p1, iv p2, iv p3, iv p4, iv p5, iv (1 : Int32), iv v20, iv p1, .unset, .unset]) (hb hby at_42) rfl rfl ?_
        exact cut44_21 p1 _ _ X0 e0 N0 
      · refine ow_icmpYes (q := 31) X0 hx (hb hby at_24) (Jvm.Free.XT.ii_ne_t hc24_37) (by decide) (by decide) ?_
        refine ow_iload (q := 33) X0 hx (hb hby at_31) rfl rfl ?_
        refine ow_iconst (q := 34) X0 hx (2 : Int32) (hb hby at_33) rfl rfl ?_
        by_cases hc34_38 : v20 = (2 : Int32)
        · refine ow_icmpNo (q := 37) X0 hx (hb hby at_34) rfl (Jvm.Free.XT.ii_ne_f hc34_38) ?_
          refine ow_iloadN (q := 38) X0 hx (hb hby at_37) rfl rfl ?_
          refine ow_goto (q := 42) X0 hx (hb hby at_38) (by decide) (by decide) ?_
          refine ow_istore (q := 44) X0 hx (L' := #[iv p0, iv p1, iv p2, iv p3, iv p4, iv p5, iv (1 : Int32), iv v20, iv p2, .unset, .unset]) (hb hby at_42) rfl rfl ?_
          exact cut44_21 p2 _ _ X0 e0 N0 
        · refine ow_icmpYes (q := 41) X0 hx (hb hby at_34) (Jvm.Free.XT.ii_ne_t hc34_38) (by decide) (by decide) ?_
          refine ow_iloadN (q := 42) X0 hx (hb hby at_41) rfl rfl ?_
          refine ow_istore (q := 44) X0 hx (L' := #[iv p0, iv p1, iv p2, iv p3, iv p4, iv p5, iv (1 : Int32), iv v20, iv p3, .unset, .unset]) (hb hby at_42) rfl rfl ?_
          exact cut44_21 p3 _ _ X0 e0 N0 
  · subst hs4
    refine ow_iload (q := 7) X0 hx (hb hby at_5) rfl rfl ?_
    refine ow_iconst (q := 8) X0 hx (3 : Int32) (hb hby at_7) rfl rfl ?_
    refine ow_iand (q := 9) X0 hx _ (hb hby at_8) rfl rfl ?_
    generalize hv_v39 : (p5 &&& (3 : Int32)) = v39
    refine ow_istore (q := 11) X0 hx (L' := #[iv p0, iv p1, iv p2, iv p3, iv p4, iv p5, iv (2 : Int32), iv v39, .unset, .unset, .unset]) (hb hby at_9) rfl rfl ?_
    have cut44_40 : ∀ (qv : Int32) (Tc40 : State) (lc40 : List Loc), Stand p l e room_1 s m #[(.int p0), (.int p1), (.int p2), (.int p3), (.int p4), (.int p5)] below meth c Tc40 lc40 0 0 → Tc40.heap = h0 → Fr n0 lc40 → ownEnds p e below s (Q_law Z p0 p1 p2 p3 p4 p5 h0 n0) 16 128 Tc40 (mkF m 44 #[iv p0, iv p1, iv p2, iv p3, iv p4, iv p5, iv (2 : Int32), iv v39, iv qv, .unset, .unset] []) := by
      intro qv Tc40 lc40 Xc40 ec40 Nc40
      obtain ⟨T41, h41, X41, e41, E41, A41, D41, -, st41⟩ := newO Xc40 hx hZ hown (hw _ (List.mem_of_getElem? (i := 0) rfl)) (hw _ (List.mem_of_getElem? (i := 1) rfl)) (hw _ (List.mem_of_getElem? (i := 2) rfl)) ec40 (g := (mkF m 44 #[iv p0, iv p1, iv p2, iv p3, iv p4, iv p5, iv (2 : Int32), iv v39, iv qv, .unset, .unset] [])) rfl (hb hby at_44) (by decide) (by decide)
      obtain ⟨b41, g41⟩ : ∃ z, z = h0.size := ⟨_, rfl⟩
      rw [← g41] at A41 D41 st41
      have sz_b41 : h0.size ≤ b41 := Nat.le_trans K0.1 (Nat.le_of_eq g41.symm)
      have G_b41 : n0 ≤ b41 := Nat.le_trans Z0 sz_b41
      have K41 : Keep h0 h41 [] := K0.ext E41
      have F42 : Fld Z h41 b41 "com/example/vellum4/vellum4/PatternCode" "operation" "[I" .null := D41 (Or.inl (hw _ (List.mem_of_getElem? (i := 11) rfl))) (ty := (.array .int)) (by decide)
      have F43 : Fld Z h41 b41 "com/example/vellum4/vellum4/PatternCode" "arg" "[I" .null := D41 (Or.inl (hw _ (List.mem_of_getElem? (i := 13) rfl))) (ty := (.array .int)) (by decide)
      have F44 : Fld Z h41 b41 "com/example/vellum4/vellum4/PatternCode" "arg2" "[I" .null := D41 (Or.inl (hw _ (List.mem_of_getElem? (i := 15) rfl))) (ty := (.array .int)) (by decide)
      have F45 : Fld Z h41 b41 "com/example/vellum4/vellum4/PatternCode" "size" "I" (.int (0 : Int32)) := D41 (Or.inl (hw _ (List.mem_of_getElem? (i := 22) rfl))) (ty := .int) (by decide)
      refine ownGo (T' := T41) (f' := (mkF m 47 #[iv p0, iv p1, iv p2, iv p3, iv p4, iv p5, iv (2 : Int32), iv v39, iv qv, .unset, .unset] [(.ref b41)])) (st41) ?_
      refine ow_dup (q := 48) X41 hx (hb hby at_47) rfl rfl ?_
      obtain ⟨_, _, ⟨T46, L46, k46, n46⟩, -, X46, ⟨Lc46, hQ46, l46, y46, z46⟩, st46⟩ := X41.specialBack hx (y := (⟨"com/example/vellum4/vellum4/PatternCode", "<init>", "()V"⟩ : MethodName)) rfl hown (mvT hZ (hw _ (List.mem_of_getElem? (i := 3) rfl))) (mvT hZ (hw _ (List.mem_of_getElem? (i := 4) rfl))) (mvT hZ (hw _ (List.mem_of_getElem? (i := 5) rfl))) (by decide) (backOf (W := 1) (rm_init l Z a0 hw [] b41 h41 n0 (Nat.le_trans Z0 K41.1) A41 F42 F43 F44 F45 G_b41) hZ (hw _ (List.mem_of_getElem? (i := 5) rfl)) (hw _ (List.mem_of_getElem? (i := 2) rfl)) (by decide) (by decide)) (g := (mkF m 48 #[iv p0, iv p1, iv p2, iv p3, iv p4, iv p5, iv (2 : Int32), iv v39, iv qv, .unset, .unset] [(.ref b41), (.ref b41)])) rfl (by rw [hml]; rfl) (Steps.refl _) (a := b41) (argsL := []) (rest := [(.ref b41)]) (lenOf own_pd0 rfl) rfl (by show 2 * 0 + _ ≤ _; exact Nat.le_of_eq rfl) (hb hby at_48) (fun _ _ => ⟨rfl, e41, (by decide : 1 + 3 ≤ _), (by decide : 4 + 24 ≤ _)⟩)
      dsimp only [Pt.U, Pt.locs, Pt.cells, Pt.slots] at X46 l46 y46 z46 st46 hQ46
      subst l46 y46 z46
      obtain ⟨a1_46, a2_46, a3_46, rfl, N46q, Kq46, sq46_a1_46, sq46_a2_46, sq46_a3_46, FP46_0, FP46_1, FP46_2, FP46_3, FP46_4, FP46_5, FP46_6, FP46_7, hp46⟩ := hQ46
      have N46 := Fr.app Nc40 N46q
      have K46 : Keep h0 T46.heap [] := K41.trans Kq46 (allS (Or.inr sz_b41) all0)
      have ne_b41_a1_46 : b41 ≠ a1_46 := Nat.ne_of_lt (Nat.lt_of_lt_of_le A41.lt sq46_a1_46)
      have sz_a1_46 : h0.size ≤ a1_46 := Nat.le_trans K41.1 sq46_a1_46
      have G_a1_46 : n0 ≤ a1_46 := Nat.le_trans Z0 sz_a1_46
      have ne_b41_a2_46 : b41 ≠ a2_46 := Nat.ne_of_lt (Nat.lt_of_lt_of_le A41.lt sq46_a2_46)
      have sz_a2_46 : h0.size ≤ a2_46 := Nat.le_trans K41.1 sq46_a2_46
      have G_a2_46 : n0 ≤ a2_46 := Nat.le_trans Z0 sz_a2_46
      have ne_b41_a3_46 : b41 ≠ a3_46 := Nat.ne_of_lt (Nat.lt_of_lt_of_le A41.lt sq46_a3_46)
      have sz_a3_46 : h0.size ≤ a3_46 := Nat.le_trans K41.1 sq46_a3_46
      have G_a3_46 : n0 ≤ a3_46 := Nat.le_trans Z0 sz_a3_46
      have F47 : Exa Z T46.heap b41 "com/example/vellum4/vellum4/PatternCode" := A41.keep Kq46
      refine ownRun (T' := T46) (f' := (mkF m 51 #[iv p0, iv p1, iv p2, iv p3, iv p4, iv p5, iv (2 : Int32), iv v39, iv qv, .unset, .unset] [(.ref b41)])) st46 ?_
      refine ow_astore (q := 53) X46 hx (L' := #[iv p0, iv p1, iv p2, iv p3, iv p4, iv p5, iv (2 : Int32), iv v39, iv qv, rv b41, .unset]) (hb hby at_51) rfl rfl rfl ?_
      refine ow_iload (q := 55) X46 hx (hb hby at_53) rfl rfl ?_
      refine ow_iconst (q := 56) X46 hx (1 : Int32) (hb hby at_55) rfl rfl ?_
      refine ow_icmpNo (q := 59) X46 hx (hb hby at_56) rfl (Jvm.Free.XT.ii_lt_f (by decide)) ?_
      refine ow_aload (q := 61) X46 hx (hb hby at_59) rfl rfl rfl ?_
      refine ow_iloadN (q := 62) X46 hx (hb hby at_61) rfl rfl ?_
      refine ow_iloadN (q := 63) X46 hx (hb hby at_62) rfl rfl ?_
      refine ow_iloadN (q := 64) X46 hx (hb hby at_63) rfl rfl ?_
      obtain ⟨cq48, kq48, q48a, q48b, q48c⟩ := isOf hZ rfl FP46_0
      obtain ⟨_, _, ⟨T48, L48, k48, n48⟩, -, X48, ⟨Lc48, hQ48, l48, y48, z48⟩, st48⟩ := X46.virtualBack hx (y := (⟨"com/example/vellum4/vellum4/PatternCode", "emitUnchecked", "(III)I"⟩ : MethodName)) (z := (⟨"com/example/vellum4/vellum4/PatternCode", "emitUnchecked", "(III)I"⟩ : MethodName)) hown (mvT hZ (hw _ (List.mem_of_getElem? (i := 24) rfl))) (mvT hZ (hw _ (List.mem_of_getElem? (i := 25) rfl))) (notFace_of_selects (args := #[]) (mvT hZ (hw _ (List.mem_of_getElem? (i := 27) rfl)))) (mvT hZ (hw _ (List.mem_of_getElem? (i := 27) rfl))) (mvT hZ (hw _ (List.mem_of_getElem? (i := 26) rfl))) (by decide) (backOf (W := 0) (rm_emit_0 l Z a0 hw [] b41 p1 p2 p3 a1_46 a2_46 a3_46 (fun _ => (0 : Int32)) (fun _ => (0 : Int32)) (fun _ => (0 : Int32)) T46.heap n0 (Nat.le_trans Z0 K46.1) FP46_0 FP46_1 FP46_2 FP46_3 FP46_4 FP46_5 FP46_6 FP46_7 G_b41 G_a1_46 G_a2_46 G_a3_46 (ne_b41_a1_46) (ne_b41_a2_46) (ne_b41_a3_46) (hp46.1) (hp46.2.1) (hp46.2.2)) hZ (hw _ (List.mem_of_getElem? (i := 28) rfl)) (hw _ (List.mem_of_getElem? (i := 2) rfl)) (by decide) (by decide)) q48a q48c (g := (mkF m 64 #[iv p0, iv p1, iv p2, iv p3, iv p4, iv p5, iv (2 : Int32), iv v39, iv qv, rv b41, .unset] [(.int p3), (.int p2), (.int p1), (.ref b41)])) rfl (by rw [hml]; rfl) (Steps.refl _) (argsL := [(.int p1), (.int p2), (.int p3)]) (rest := []) (lenOf own_pd2 rfl) rfl (by show 2 * 0 + _ ≤ _; exact Nat.le_of_eq rfl) (hb hby at_64) (fun _ _ => ⟨rfl, rfl, (by decide : 4 + 0 ≤ _), (by decide : 28 + 0 ≤ _)⟩)
      dsimp only [Pt.U, Pt.locs, Pt.cells, Pt.slots] at X48 l48 y48 z48 st48 hQ48
      subst l48 y48 z48
      obtain ⟨rfl, N48q, Kq48, FP48_0, FP48_1, FP48_2, FP48_3, FP48_4, FP48_5, FP48_6, FP48_7⟩ := hQ48
      have N48 := Fr.app N46 N48q
      have K48 : Keep h0 T48.heap [] := K46.trans Kq48 (allS (Or.inr sz_b41) (allS (Or.inr sz_a1_46) (allS (Or.inr sz_a2_46) (allS (Or.inr sz_a3_46) all0))))
      have F49 : Exa Z T48.heap b41 "com/example/vellum4/vellum4/PatternCode" := FP46_0.keep Kq48
      refine ownRun (T' := T48) (f' := (mkF m 67 #[iv p0, iv p1, iv p2, iv p3, iv p4, iv p5, iv (2 : Int32), iv v39, iv qv, rv b41, .unset] [(.int (0 : Int32))])) st48 ?_
      refine ow_pop (q := 68) X48 hx (hb hby at_67) rfl rfl ?_
      refine ow_iload (q := 70) X48 hx (hb hby at_68) rfl rfl ?_
      refine ow_iconst (q := 71) X48 hx (2 : Int32) (hb hby at_70) rfl rfl ?_
      refine ow_icmpNo (q := 74) X48 hx (hb hby at_71) rfl (Jvm.Free.XT.ii_lt_f (by decide)) ?_
      refine ow_aload (q := 76) X48 hx (hb hby at_74) rfl rfl rfl ?_
      refine ow_iloadN (q := 77) X48 hx (hb hby at_76) rfl rfl ?_
      refine ow_iloadN (q := 78) X48 hx (hb hby at_77) rfl rfl ?_
      refine ow_iloadN (q := 79) X48 hx (hb hby at_78) rfl rfl ?_
      obtain ⟨cq50, kq50, q50a, q50b, q50c⟩ := isOf hZ rfl FP48_0
      obtain ⟨_, _, ⟨T50, L50, k50, n50⟩, -, X50, ⟨Lc50, hQ50, l50, y50, z50⟩, st50⟩ := X48.virtualBack hx (y := (⟨"com/example/vellum4/vellum4/PatternCode", "emitUnchecked", "(III)I"⟩ : MethodName)) (z := (⟨"com/example/vellum4/vellum4/PatternCode", "emitUnchecked", "(III)I"⟩ : MethodName)) hown (mvT hZ (hw _ (List.mem_of_getElem? (i := 24) rfl))) (mvT hZ (hw _ (List.mem_of_getElem? (i := 25) rfl))) (notFace_of_selects (args := #[]) (mvT hZ (hw _ (List.mem_of_getElem? (i := 27) rfl)))) (mvT hZ (hw _ (List.mem_of_getElem? (i := 27) rfl))) (mvT hZ (hw _ (List.mem_of_getElem? (i := 26) rfl))) (by decide) (backOf (W := 0) (rm_emit_1 l Z a0 hw [] b41 p2 p3 p1 a1_46 a2_46 a3_46 (ownUpd (fun _ => (0 : Int32)) 0 p1) (ownUpd (fun _ => (0 : Int32)) 0 p2) (ownUpd (fun _ => (0 : Int32)) 0 p3) T48.heap n0 (Nat.le_trans Z0 K48.1) FP48_0 FP48_1 FP48_2 FP48_3 FP48_4 FP48_5 FP48_6 FP48_7 G_b41 G_a1_46 G_a2_46 G_a3_46 (ne_b41_a1_46) (ne_b41_a2_46) (ne_b41_a3_46) (hp46.1) (hp46.2.1) (hp46.2.2)) hZ (hw _ (List.mem_of_getElem? (i := 28) rfl)) (hw _ (List.mem_of_getElem? (i := 2) rfl)) (by decide) (by decide)) q50a q50c (g := (mkF m 79 #[iv p0, iv p1, iv p2, iv p3, iv p4, iv p5, iv (2 : Int32), iv v39, iv qv, rv b41, .unset] [(.int p1), (.int p3), (.int p2), (.ref b41)])) rfl (by rw [hml]; rfl) (Steps.refl _) (argsL := [(.int p2), (.int p3), (.int p1)]) (rest := []) (lenOf own_pd2 rfl) rfl (by show 2 * 0 + _ ≤ _; exact Nat.le_of_eq rfl) (hb hby at_79) (fun _ _ => ⟨rfl, rfl, (by decide : 4 + 0 ≤ _), (by decide : 28 + 0 ≤ _)⟩)
      dsimp only [Pt.U, Pt.locs, Pt.cells, Pt.slots] at X50 l50 y50 z50 st50 hQ50
      subst l50 y50 z50
      obtain ⟨rfl, N50q, Kq50, FP50_0, FP50_1, FP50_2, FP50_3, FP50_4, FP50_5, FP50_6, FP50_7⟩ := hQ50
      have N50 := Fr.app N48 N50q
      have K50 : Keep h0 T50.heap [] := K48.trans Kq50 (allS (Or.inr sz_b41) (allS (Or.inr sz_a1_46) (allS (Or.inr sz_a2_46) (allS (Or.inr sz_a3_46) all0))))
      have F51 : Exa Z T50.heap b41 "com/example/vellum4/vellum4/PatternCode" := FP48_0.keep Kq50
      refine ownRun (T' := T50) (f' := (mkF m 82 #[iv p0, iv p1, iv p2, iv p3, iv p4, iv p5, iv (2 : Int32), iv v39, iv qv, rv b41, .unset] [(.int (1 : Int32))])) st50 ?_
      refine ow_pop (q := 83) X50 hx (hb hby at_82) rfl rfl ?_
      refine ow_iload (q := 85) X50 hx (hb hby at_83) rfl rfl ?_
      refine ow_iconst (q := 86) X50 hx (3 : Int32) (hb hby at_85) rfl rfl ?_
      refine ow_icmpYes (q := 98) X50 hx (hb hby at_86) (Jvm.Free.XT.ii_lt_t (by decide)) (by decide) (by decide) ?_
      refine ow_iload (q := 100) X50 hx (hb hby at_98) rfl rfl ?_
      refine ow_iconst (q := 101) X50 hx (1 : Int32) (hb hby at_100) rfl rfl ?_
      refine ow_icmpNo (q := 104) X50 hx (hb hby at_101) rfl (Jvm.Free.XT.ii_lt_f (by decide)) ?_
      refine ow_iloadN (q := 105) X50 hx (hb hby at_104) rfl rfl ?_
      refine ow_iload (q := 107) X50 hx (hb hby at_105) rfl rfl ?_
      by_cases hc107_52 : p1 = qv
      · refine ow_icmpYes (q := 134) X50 hx (hb hby at_107) (Jvm.Free.XT.ii_eq_t hc107_52) (by decide) (by decide) ?_
        refine ow_iconst (q := 135) X50 hx (1 : Int32) (hb hby at_134) rfl rfl ?_
        refine ow_goto (q := 139) X50 hx (hb hby at_135) (by decide) (by decide) ?_
        refine ow_istore (q := 141) X50 hx (L' := #[iv p0, iv p1, iv p2, iv p3, iv p4, iv p5, iv (2 : Int32), iv v39, iv qv, rv b41, iv (1 : Int32)]) (hb hby at_139) rfl rfl ?_
        refine ow_aload (q := 143) X50 hx (hb hby at_141) rfl rfl rfl ?_
        refine ow_iload (q := 145) X50 hx (hb hby at_143) rfl rfl ?_
        obtain ⟨cq53, kq53, q53a, q53b, q53c⟩ := isOf hZ rfl FP50_0
        obtain ⟨_, _, ⟨T53, L53, k53, n53⟩, -, X53, ⟨Lc53, hQ53, l53, y53, z53⟩, st53⟩ := X50.virtualBack hx (y := (⟨"com/example/vellum4/vellum4/PatternCode", "contains", "(I)Z"⟩ : MethodName)) (z := (⟨"com/example/vellum4/vellum4/PatternCode", "contains", "(I)Z"⟩ : MethodName)) hown (mvT hZ (hw _ (List.mem_of_getElem? (i := 16) rfl))) (mvT hZ (hw _ (List.mem_of_getElem? (i := 17) rfl))) (notFace_of_selects (args := #[]) (mvT hZ (hw _ (List.mem_of_getElem? (i := 19) rfl)))) (mvT hZ (hw _ (List.mem_of_getElem? (i := 19) rfl))) (mvT hZ (hw _ (List.mem_of_getElem? (i := 18) rfl))) (by decide) (backOf (W := 0) (rm_contains_2 l Z a0 hw [] b41 qv a1_46 (ownUpd (ownUpd (fun _ => (0 : Int32)) 0 p1) 1 p2) T50.heap n0 (Nat.le_trans Z0 K50.1) FP50_4 FP50_1 FP50_5) hZ (hw _ (List.mem_of_getElem? (i := 20) rfl)) (hw _ (List.mem_of_getElem? (i := 2) rfl)) (by decide) (by decide)) q53a q53c (g := (mkF m 145 #[iv p0, iv p1, iv p2, iv p3, iv p4, iv p5, iv (2 : Int32), iv v39, iv qv, rv b41, iv (1 : Int32)] [(.int qv), (.ref b41)])) rfl (by rw [hml]; rfl) (Steps.refl _) (argsL := [(.int qv)]) (rest := []) (lenOf own_pd1 rfl) rfl (by show 2 * 0 + _ ≤ _; exact Nat.le_of_eq rfl) (hb hby at_145) (fun _ _ => ⟨rfl, rfl, (by decide : 4 + 0 ≤ _), (by decide : 28 + 0 ≤ _)⟩)
        dsimp only [Pt.U, Pt.locs, Pt.cells, Pt.slots] at X53 l53 y53 z53 st53 hQ53
        subst l53 y53 z53
        obtain ⟨rfl, N53q, e53⟩ := hQ53
        have N53 := Fr.app N50 N53q
        refine ownRun (T' := T53) (f' := (mkF m 148 #[iv p0, iv p1, iv p2, iv p3, iv p4, iv p5, iv (2 : Int32), iv v39, iv qv, rv b41, iv (1 : Int32)] [(.int (if (ownUpd (ownUpd (fun _ => (0 : Int32)) 0 p1) 1 p2) 0 = qv then (1 : Int32) else (if (ownUpd (ownUpd (fun _ => (0 : Int32)) 0 p1) 1 p2) 1 = qv then (1 : Int32) else (0 : Int32))))])) st53 ?_
        refine ow_iload (q := 150) X53 hx (hb hby at_148) rfl rfl ?_
        refine ow_icmpNo (q := 153) X53 hx (hb hby at_150) rfl (Jvm.Free.XT.ii_ne_f (by simp [ownUpd, hc107_52])) ?_
        refine ow_aload (q := 155) X53 hx (hb hby at_153) rfl rfl rfl ?_
        obtain ⟨T54, X54, e54, st54⟩ := getF X53 hx hZ hown (host := "") (Or.inl (hw _ (List.mem_of_getElem? (i := 23) rfl))) Via.refl e53 FP50_4 (g := (mkF m 155 #[iv p0, iv p1, iv p2, iv p3, iv p4, iv p5, iv (2 : Int32), iv v39, iv qv, rv b41, iv (1 : Int32)] [(.ref b41)])) rfl rfl (hb hby at_155)
        refine ownGo (T' := T54) (f' := (mkF m 158 #[iv p0, iv p1, iv p2, iv p3, iv p4, iv p5, iv (2 : Int32), iv v39, iv qv, rv b41, iv (1 : Int32)] [(.int (2 : Int32))])) (st54) ?_
        refine ow_iload (q := 160) X54 hx (hb hby at_158) rfl rfl ?_
        refine ow_icmpNo (q := 163) X54 hx (hb hby at_160) rfl (Jvm.Free.XT.ii_ne_f (by decide)) ?_
        refine ow_iconst (q := 164) X54 hx (1 : Int32) (hb hby at_163) rfl rfl ?_
        refine ow_goto (q := 168) X54 hx (hb hby at_164) (by decide) (by decide) ?_
        refine ownRetN X54 hx (r := (1 : Int32)) (Or.inl rfl) Bd.returns (hb hby at_168) hlk (by decide) (by decide) (by decide) ?_
        exact ⟨rfl, N53⟩
      · refine ow_icmpNo (q := 110) X50 hx (hb hby at_107) rfl (Jvm.Free.XT.ii_eq_f hc107_52) ?_
        refine ow_iload (q := 112) X50 hx (hb hby at_110) rfl rfl ?_
        refine ow_iconst (q := 113) X50 hx (2 : Int32) (hb hby at_112) rfl rfl ?_
        refine ow_icmpNo (q := 116) X50 hx (hb hby at_113) rfl (Jvm.Free.XT.ii_lt_f (by decide)) ?_
        refine ow_iloadN (q := 117) X50 hx (hb hby at_116) rfl rfl ?_
        refine ow_iload (q := 119) X50 hx (hb hby at_117) rfl rfl ?_
        by_cases hc119_55 : p2 = qv
        · refine ow_icmpYes (q := 134) X50 hx (hb hby at_119) (Jvm.Free.XT.ii_eq_t hc119_55) (by decide) (by decide) ?_
          refine ow_iconst (q := 135) X50 hx (1 : Int32) (hb hby at_134) rfl rfl ?_
          refine ow_goto (q := 139) X50 hx (hb hby at_135) (by decide) (by decide) ?_
          refine ow_istore (q := 141) X50 hx (L' := #[iv p0, iv p1, iv p2, iv p3, iv p4, iv p5, iv (2 : Int32), iv v39, iv qv, rv b41, iv (1 : Int32)]) (hb hby at_139) rfl rfl ?_
          refine ow_aload (q := 143) X50 hx (hb hby at_141) rfl rfl rfl ?_
          refine ow_iload (q := 145) X50 hx (hb hby at_143) rfl rfl ?_
          obtain ⟨cq56, kq56, q56a, q56b, q56c⟩ := isOf hZ rfl FP50_0
          obtain ⟨_, _, ⟨T56, L56, k56, n56⟩, -, X56, ⟨Lc56, hQ56, l56, y56, z56⟩, st56⟩ := X50.virtualBack hx (y := (⟨"com/example/vellum4/vellum4/PatternCode", "contains", "(I)Z"⟩ : MethodName)) (z := (⟨"com/example/vellum4/vellum4/PatternCode", "contains", "(I)Z"⟩ : MethodName)) hown (mvT hZ (hw _ (List.mem_of_getElem? (i := 16) rfl))) (mvT hZ (hw _ (List.mem_of_getElem? (i := 17) rfl))) (notFace_of_selects (args := #[]) (mvT hZ (hw _ (List.mem_of_getElem? (i := 19) rfl)))) (mvT hZ (hw _ (List.mem_of_getElem? (i := 19) rfl))) (mvT hZ (hw _ (List.mem_of_getElem? (i := 18) rfl))) (by decide) (backOf (W := 0) (rm_contains_2 l Z a0 hw [] b41 qv a1_46 (ownUpd (ownUpd (fun _ => (0 : Int32)) 0 p1) 1 p2) T50.heap n0 (Nat.le_trans Z0 K50.1) FP50_4 FP50_1 FP50_5) hZ (hw _ (List.mem_of_getElem? (i := 20) rfl)) (hw _ (List.mem_of_getElem? (i := 2) rfl)) (by decide) (by decide)) q56a q56c (g := (mkF m 145 #[iv p0, iv p1, iv p2, iv p3, iv p4, iv p5, iv (2 : Int32), iv v39, iv qv, rv b41, iv (1 : Int32)] [(.int qv), (.ref b41)])) rfl (by rw [hml]; rfl) (Steps.refl _) (argsL := [(.int qv)]) (rest := []) (lenOf own_pd1 rfl) rfl (by show 2 * 0 + _ ≤ _; exact Nat.le_of_eq rfl) (hb hby at_145) (fun _ _ => ⟨rfl, rfl, (by decide : 4 + 0 ≤ _), (by decide : 28 + 0 ≤ _)⟩)
          dsimp only [Pt.U, Pt.locs, Pt.cells, Pt.slots] at X56 l56 y56 z56 st56 hQ56
          subst l56 y56 z56
          obtain ⟨rfl, N56q, e56⟩ := hQ56
          have N56 := Fr.app N50 N56q
          refine ownRun (T' := T56) (f' := (mkF m 148 #[iv p0, iv p1, iv p2, iv p3, iv p4, iv p5, iv (2 : Int32), iv v39, iv qv, rv b41, iv (1 : Int32)] [(.int (if (ownUpd (ownUpd (fun _ => (0 : Int32)) 0 p1) 1 p2) 0 = qv then (1 : Int32) else (if (ownUpd (ownUpd (fun _ => (0 : Int32)) 0 p1) 1 p2) 1 = qv then (1 : Int32) else (0 : Int32))))])) st56 ?_
          refine ow_iload (q := 150) X56 hx (hb hby at_148) rfl rfl ?_
          refine ow_icmpNo (q := 153) X56 hx (hb hby at_150) rfl (Jvm.Free.XT.ii_ne_f (by simp [ownUpd, hc107_52, hc119_55])) ?_
          refine ow_aload (q := 155) X56 hx (hb hby at_153) rfl rfl rfl ?_
          obtain ⟨T57, X57, e57, st57⟩ := getF X56 hx hZ hown (host := "") (Or.inl (hw _ (List.mem_of_getElem? (i := 23) rfl))) Via.refl e56 FP50_4 (g := (mkF m 155 #[iv p0, iv p1, iv p2, iv p3, iv p4, iv p5, iv (2 : Int32), iv v39, iv qv, rv b41, iv (1 : Int32)] [(.ref b41)])) rfl rfl (hb hby at_155)
          refine ownGo (T' := T57) (f' := (mkF m 158 #[iv p0, iv p1, iv p2, iv p3, iv p4, iv p5, iv (2 : Int32), iv v39, iv qv, rv b41, iv (1 : Int32)] [(.int (2 : Int32))])) (st57) ?_
          refine ow_iload (q := 160) X57 hx (hb hby at_158) rfl rfl ?_
          refine ow_icmpNo (q := 163) X57 hx (hb hby at_160) rfl (Jvm.Free.XT.ii_ne_f (by decide)) ?_
          refine ow_iconst (q := 164) X57 hx (1 : Int32) (hb hby at_163) rfl rfl ?_
          refine ow_goto (q := 168) X57 hx (hb hby at_164) (by decide) (by decide) ?_
          refine ownRetN X57 hx (r := (1 : Int32)) (Or.inl rfl) Bd.returns (hb hby at_168) hlk (by decide) (by decide) (by decide) ?_
          exact ⟨rfl, N56⟩
        · refine ow_icmpNo (q := 122) X50 hx (hb hby at_119) rfl (Jvm.Free.XT.ii_eq_f hc119_55) ?_
          refine ow_iload (q := 124) X50 hx (hb hby at_122) rfl rfl ?_
          refine ow_iconst (q := 125) X50 hx (3 : Int32) (hb hby at_124) rfl rfl ?_
          refine ow_icmpYes (q := 138) X50 hx (hb hby at_125) (Jvm.Free.XT.ii_lt_t (by decide)) (by decide) (by decide) ?_
          refine ow_iconst (q := 139) X50 hx (0 : Int32) (hb hby at_138) rfl rfl ?_
          refine ow_istore (q := 141) X50 hx (L' := #[iv p0, iv p1, iv p2, iv p3, iv p4, iv p5, iv (2 : Int32), iv v39, iv qv, rv b41, iv (0 : Int32)]) (hb hby at_139) rfl rfl ?_
          refine ow_aload (q := 143) X50 hx (hb hby at_141) rfl rfl rfl ?_
          refine ow_iload (q := 145) X50 hx (hb hby at_143) rfl rfl ?_
          obtain ⟨cq58, kq58, q58a, q58b, q58c⟩ := isOf hZ rfl FP50_0
          obtain ⟨_, _, ⟨T58, L58, k58, n58⟩, -, X58, ⟨Lc58, hQ58, l58, y58, z58⟩, st58⟩ := X50.virtualBack hx (y := (⟨"com/example/vellum4/vellum4/PatternCode", "contains", "(I)Z"⟩ : MethodName)) (z := (⟨"com/example/vellum4/vellum4/PatternCode", "contains", "(I)Z"⟩ : MethodName)) hown (mvT hZ (hw _ (List.mem_of_getElem? (i := 16) rfl))) (mvT hZ (hw _ (List.mem_of_getElem? (i := 17) rfl))) (notFace_of_selects (args := #[]) (mvT hZ (hw _ (List.mem_of_getElem? (i := 19) rfl)))) (mvT hZ (hw _ (List.mem_of_getElem? (i := 19) rfl))) (mvT hZ (hw _ (List.mem_of_getElem? (i := 18) rfl))) (by decide) (backOf (W := 0) (rm_contains_2 l Z a0 hw [] b41 qv a1_46 (ownUpd (ownUpd (fun _ => (0 : Int32)) 0 p1) 1 p2) T50.heap n0 (Nat.le_trans Z0 K50.1) FP50_4 FP50_1 FP50_5) hZ (hw _ (List.mem_of_getElem? (i := 20) rfl)) (hw _ (List.mem_of_getElem? (i := 2) rfl)) (by decide) (by decide)) q58a q58c (g := (mkF m 145 #[iv p0, iv p1, iv p2, iv p3, iv p4, iv p5, iv (2 : Int32), iv v39, iv qv, rv b41, iv (0 : Int32)] [(.int qv), (.ref b41)])) rfl (by rw [hml]; rfl) (Steps.refl _) (argsL := [(.int qv)]) (rest := []) (lenOf own_pd1 rfl) rfl (by show 2 * 0 + _ ≤ _; exact Nat.le_of_eq rfl) (hb hby at_145) (fun _ _ => ⟨rfl, rfl, (by decide : 4 + 0 ≤ _), (by decide : 28 + 0 ≤ _)⟩)
          dsimp only [Pt.U, Pt.locs, Pt.cells, Pt.slots] at X58 l58 y58 z58 st58 hQ58
          subst l58 y58 z58
          obtain ⟨rfl, N58q, e58⟩ := hQ58
          have N58 := Fr.app N50 N58q
          refine ownRun (T' := T58) (f' := (mkF m 148 #[iv p0, iv p1, iv p2, iv p3, iv p4, iv p5, iv (2 : Int32), iv v39, iv qv, rv b41, iv (0 : Int32)] [(.int (if (ownUpd (ownUpd (fun _ => (0 : Int32)) 0 p1) 1 p2) 0 = qv then (1 : Int32) else (if (ownUpd (ownUpd (fun _ => (0 : Int32)) 0 p1) 1 p2) 1 = qv then (1 : Int32) else (0 : Int32))))])) st58 ?_
          refine ow_iload (q := 150) X58 hx (hb hby at_148) rfl rfl ?_
          refine ow_icmpNo (q := 153) X58 hx (hb hby at_150) rfl (Jvm.Free.XT.ii_ne_f (by simp [ownUpd, hc107_52, hc119_55])) ?_
          refine ow_aload (q := 155) X58 hx (hb hby at_153) rfl rfl rfl ?_
          obtain ⟨T59, X59, e59, st59⟩ := getF X58 hx hZ hown (host := "") (Or.inl (hw _ (List.mem_of_getElem? (i := 23) rfl))) Via.refl e58 FP50_4 (g := (mkF m 155 #[iv p0, iv p1, iv p2, iv p3, iv p4, iv p5, iv (2 : Int32), iv v39, iv qv, rv b41, iv (0 : Int32)] [(.ref b41)])) rfl rfl (hb hby at_155)
          refine ownGo (T' := T59) (f' := (mkF m 158 #[iv p0, iv p1, iv p2, iv p3, iv p4, iv p5, iv (2 : Int32), iv v39, iv qv, rv b41, iv (0 : Int32)] [(.int (2 : Int32))])) (st59) ?_
          refine ow_iload (q := 160) X59 hx (hb hby at_158) rfl rfl ?_
          refine ow_icmpNo (q := 163) X59 hx (hb hby at_160) rfl (Jvm.Free.XT.ii_ne_f (by decide)) ?_
          refine ow_iconst (q := 164) X59 hx (1 : Int32) (hb hby at_163) rfl rfl ?_
          refine ow_goto (q := 168) X59 hx (hb hby at_164) (by decide) (by decide) ?_
          refine ownRetN X59 hx (r := (1 : Int32)) (Or.inl rfl) Bd.returns (hb hby at_168) hlk (by decide) (by decide) (by decide) ?_
          exact ⟨rfl, N58⟩
    refine ow_iload (q := 13) X0 hx (hb hby at_11) rfl rfl ?_
    by_cases hc13_60 : v39 = (0 : Int32)
    · refine ow_ifNo (q := 16) X0 hx (hb hby at_13) rfl (Jvm.Free.XT.i0_ne_f hc13_60) ?_
      refine ow_iload (q := 18) X0 hx (hb hby at_16) rfl rfl ?_
      refine ow_goto (q := 42) X0 hx (hb hby at_18) (by decide) (by decide) ?_
      refine ow_istore (q := 44) X0 hx (L' := #[iv p0, iv p1, iv p2, iv p3, iv p4, iv p5, iv (2 : Int32), iv v39, iv p4, .unset, .unset]) (hb hby at_42) rfl rfl ?_
      exact cut44_40 p4 _ _ X0 e0 N0 
    · refine ow_ifYes (q := 21) X0 hx (hb hby at_13) (Jvm.Free.XT.i0_ne_t hc13_60) (by decide) (by decide) ?_
      refine ow_iload (q := 23) X0 hx (hb hby at_21) rfl rfl ?_
      refine ow_iconst (q := 24) X0 hx (1 : Int32) (hb hby at_23) rfl rfl ?_
      by_cases hc24_61 : v39 = (1 : Int32)
      · refine ow_icmpNo (q := 27) X0 hx (hb hby at_24) rfl (Jvm.Free.XT.ii_ne_f hc24_61) ?_
        refine ow_iloadN (q := 28) X0 hx (hb hby at_27) rfl rfl ?_
        refine ow_goto (q := 42) X0 hx (hb hby at_28) (by decide) (by decide) ?_
        refine ow_istore (q := 44) X0 hx (L' := #[iv p0, iv p1, iv p2, iv p3, iv p4, iv p5, iv (2 : Int32), iv v39, iv p1, .unset, .unset]) (hb hby at_42) rfl rfl ?_
        exact cut44_40 p1 _ _ X0 e0 N0 
      · refine ow_icmpYes (q := 31) X0 hx (hb hby at_24) (Jvm.Free.XT.ii_ne_t hc24_61) (by decide) (by decide) ?_
        refine ow_iload (q := 33) X0 hx (hb hby at_31) rfl rfl ?_
        refine ow_iconst (q := 34) X0 hx (2 : Int32) (hb hby at_33) rfl rfl ?_
        by_cases hc34_62 : v39 = (2 : Int32)
        · refine ow_icmpNo (q := 37) X0 hx (hb hby at_34) rfl (Jvm.Free.XT.ii_ne_f hc34_62) ?_
          refine ow_iloadN (q := 38) X0 hx (hb hby at_37) rfl rfl ?_
          refine ow_goto (q := 42) X0 hx (hb hby at_38) (by decide) (by decide) ?_
          refine ow_istore (q := 44) X0 hx (L' := #[iv p0, iv p1, iv p2, iv p3, iv p4, iv p5, iv (2 : Int32), iv v39, iv p2, .unset, .unset]) (hb hby at_42) rfl rfl ?_
          exact cut44_40 p2 _ _ X0 e0 N0 
        · refine ow_icmpYes (q := 41) X0 hx (hb hby at_34) (Jvm.Free.XT.ii_ne_t hc34_62) (by decide) (by decide) ?_
          refine ow_iloadN (q := 42) X0 hx (hb hby at_41) rfl rfl ?_
          refine ow_istore (q := 44) X0 hx (L' := #[iv p0, iv p1, iv p2, iv p3, iv p4, iv p5, iv (2 : Int32), iv v39, iv p3, .unset, .unset]) (hb hby at_42) rfl rfl ?_
          exact cut44_40 p3 _ _ X0 e0 N0 
  · subst hs5
    refine ow_iload (q := 7) X0 hx (hb hby at_5) rfl rfl ?_
    refine ow_iconst (q := 8) X0 hx (3 : Int32) (hb hby at_7) rfl rfl ?_
    refine ow_iand (q := 9) X0 hx _ (hb hby at_8) rfl rfl ?_
    generalize hv_v63 : (p5 &&& (3 : Int32)) = v63
    refine ow_istore (q := 11) X0 hx (L' := #[iv p0, iv p1, iv p2, iv p3, iv p4, iv p5, iv (3 : Int32), iv v63, .unset, .unset, .unset]) (hb hby at_9) rfl rfl ?_
    have cut44_64 : ∀ (qv : Int32) (Tc64 : State) (lc64 : List Loc), Stand p l e room_1 s m #[(.int p0), (.int p1), (.int p2), (.int p3), (.int p4), (.int p5)] below meth c Tc64 lc64 0 0 → Tc64.heap = h0 → Fr n0 lc64 → ownEnds p e below s (Q_law Z p0 p1 p2 p3 p4 p5 h0 n0) 16 128 Tc64 (mkF m 44 #[iv p0, iv p1, iv p2, iv p3, iv p4, iv p5, iv (3 : Int32), iv v63, iv qv, .unset, .unset] []) := by
      intro qv Tc64 lc64 Xc64 ec64 Nc64
      obtain ⟨T65, h65, X65, e65, E65, A65, D65, -, st65⟩ := newO Xc64 hx hZ hown (hw _ (List.mem_of_getElem? (i := 0) rfl)) (hw _ (List.mem_of_getElem? (i := 1) rfl)) (hw _ (List.mem_of_getElem? (i := 2) rfl)) ec64 (g := (mkF m 44 #[iv p0, iv p1, iv p2, iv p3, iv p4, iv p5, iv (3 : Int32), iv v63, iv qv, .unset, .unset] [])) rfl (hb hby at_44) (by decide) (by decide)
      obtain ⟨b65, g65⟩ : ∃ z, z = h0.size := ⟨_, rfl⟩
      rw [← g65] at A65 D65 st65
      have sz_b65 : h0.size ≤ b65 := Nat.le_trans K0.1 (Nat.le_of_eq g65.symm)
      have G_b65 : n0 ≤ b65 := Nat.le_trans Z0 sz_b65
      have K65 : Keep h0 h65 [] := K0.ext E65
      have F66 : Fld Z h65 b65 "com/example/vellum4/vellum4/PatternCode" "operation" "[I" .null := D65 (Or.inl (hw _ (List.mem_of_getElem? (i := 11) rfl))) (ty := (.array .int)) (by decide)
      have F67 : Fld Z h65 b65 "com/example/vellum4/vellum4/PatternCode" "arg" "[I" .null := D65 (Or.inl (hw _ (List.mem_of_getElem? (i := 13) rfl))) (ty := (.array .int)) (by decide)
      have F68 : Fld Z h65 b65 "com/example/vellum4/vellum4/PatternCode" "arg2" "[I" .null := D65 (Or.inl (hw _ (List.mem_of_getElem? (i := 15) rfl))) (ty := (.array .int)) (by decide)
      have F69 : Fld Z h65 b65 "com/example/vellum4/vellum4/PatternCode" "size" "I" (.int (0 : Int32)) := D65 (Or.inl (hw _ (List.mem_of_getElem? (i := 22) rfl))) (ty := .int) (by decide)
      refine ownGo (T' := T65) (f' := (mkF m 47 #[iv p0, iv p1, iv p2, iv p3, iv p4, iv p5, iv (3 : Int32), iv v63, iv qv, .unset, .unset] [(.ref b65)])) (st65) ?_
      refine ow_dup (q := 48) X65 hx (hb hby at_47) rfl rfl ?_
      obtain ⟨_, _, ⟨T70, L70, k70, n70⟩, -, X70, ⟨Lc70, hQ70, l70, y70, z70⟩, st70⟩ := X65.specialBack hx (y := (⟨"com/example/vellum4/vellum4/PatternCode", "<init>", "()V"⟩ : MethodName)) rfl hown (mvT hZ (hw _ (List.mem_of_getElem? (i := 3) rfl))) (mvT hZ (hw _ (List.mem_of_getElem? (i := 4) rfl))) (mvT hZ (hw _ (List.mem_of_getElem? (i := 5) rfl))) (by decide) (backOf (W := 1) (rm_init l Z a0 hw [] b65 h65 n0 (Nat.le_trans Z0 K65.1) A65 F66 F67 F68 F69 G_b65) hZ (hw _ (List.mem_of_getElem? (i := 5) rfl)) (hw _ (List.mem_of_getElem? (i := 2) rfl)) (by decide) (by decide)) (g := (mkF m 48 #[iv p0, iv p1, iv p2, iv p3, iv p4, iv p5, iv (3 : Int32), iv v63, iv qv, .unset, .unset] [(.ref b65), (.ref b65)])) rfl (by rw [hml]; rfl) (Steps.refl _) (a := b65) (argsL := []) (rest := [(.ref b65)]) (lenOf own_pd0 rfl) rfl (by show 2 * 0 + _ ≤ _; exact Nat.le_of_eq rfl) (hb hby at_48) (fun _ _ => ⟨rfl, e65, (by decide : 1 + 3 ≤ _), (by decide : 4 + 24 ≤ _)⟩)
      dsimp only [Pt.U, Pt.locs, Pt.cells, Pt.slots] at X70 l70 y70 z70 st70 hQ70
      subst l70 y70 z70
      obtain ⟨a1_70, a2_70, a3_70, rfl, N70q, Kq70, sq70_a1_70, sq70_a2_70, sq70_a3_70, FP70_0, FP70_1, FP70_2, FP70_3, FP70_4, FP70_5, FP70_6, FP70_7, hp70⟩ := hQ70
      have N70 := Fr.app Nc64 N70q
      have K70 : Keep h0 T70.heap [] := K65.trans Kq70 (allS (Or.inr sz_b65) all0)
      have ne_b65_a1_70 : b65 ≠ a1_70 := Nat.ne_of_lt (Nat.lt_of_lt_of_le A65.lt sq70_a1_70)
      have sz_a1_70 : h0.size ≤ a1_70 := Nat.le_trans K65.1 sq70_a1_70
      have G_a1_70 : n0 ≤ a1_70 := Nat.le_trans Z0 sz_a1_70
      have ne_b65_a2_70 : b65 ≠ a2_70 := Nat.ne_of_lt (Nat.lt_of_lt_of_le A65.lt sq70_a2_70)
      have sz_a2_70 : h0.size ≤ a2_70 := Nat.le_trans K65.1 sq70_a2_70
      have G_a2_70 : n0 ≤ a2_70 := Nat.le_trans Z0 sz_a2_70
      have ne_b65_a3_70 : b65 ≠ a3_70 := Nat.ne_of_lt (Nat.lt_of_lt_of_le A65.lt sq70_a3_70)
      have sz_a3_70 : h0.size ≤ a3_70 := Nat.le_trans K65.1 sq70_a3_70
      have G_a3_70 : n0 ≤ a3_70 := Nat.le_trans Z0 sz_a3_70
      have F71 : Exa Z T70.heap b65 "com/example/vellum4/vellum4/PatternCode" := A65.keep Kq70
      refine ownRun (T' := T70) (f' := (mkF m 51 #[iv p0, iv p1, iv p2, iv p3, iv p4, iv p5, iv (3 : Int32), iv v63, iv qv, .unset, .unset] [(.ref b65)])) st70 ?_
      refine ow_astore (q := 53) X70 hx (L' := #[iv p0, iv p1, iv p2, iv p3, iv p4, iv p5, iv (3 : Int32), iv v63, iv qv, rv b65, .unset]) (hb hby at_51) rfl rfl rfl ?_
      refine ow_iload (q := 55) X70 hx (hb hby at_53) rfl rfl ?_
      refine ow_iconst (q := 56) X70 hx (1 : Int32) (hb hby at_55) rfl rfl ?_
      refine ow_icmpNo (q := 59) X70 hx (hb hby at_56) rfl (Jvm.Free.XT.ii_lt_f (by decide)) ?_
      refine ow_aload (q := 61) X70 hx (hb hby at_59) rfl rfl rfl ?_
      refine ow_iloadN (q := 62) X70 hx (hb hby at_61) rfl rfl ?_
      refine ow_iloadN (q := 63) X70 hx (hb hby at_62) rfl rfl ?_
      refine ow_iloadN (q := 64) X70 hx (hb hby at_63) rfl rfl ?_
      obtain ⟨cq72, kq72, q72a, q72b, q72c⟩ := isOf hZ rfl FP70_0
      obtain ⟨_, _, ⟨T72, L72, k72, n72⟩, -, X72, ⟨Lc72, hQ72, l72, y72, z72⟩, st72⟩ := X70.virtualBack hx (y := (⟨"com/example/vellum4/vellum4/PatternCode", "emitUnchecked", "(III)I"⟩ : MethodName)) (z := (⟨"com/example/vellum4/vellum4/PatternCode", "emitUnchecked", "(III)I"⟩ : MethodName)) hown (mvT hZ (hw _ (List.mem_of_getElem? (i := 24) rfl))) (mvT hZ (hw _ (List.mem_of_getElem? (i := 25) rfl))) (notFace_of_selects (args := #[]) (mvT hZ (hw _ (List.mem_of_getElem? (i := 27) rfl)))) (mvT hZ (hw _ (List.mem_of_getElem? (i := 27) rfl))) (mvT hZ (hw _ (List.mem_of_getElem? (i := 26) rfl))) (by decide) (backOf (W := 0) (rm_emit_0 l Z a0 hw [] b65 p1 p2 p3 a1_70 a2_70 a3_70 (fun _ => (0 : Int32)) (fun _ => (0 : Int32)) (fun _ => (0 : Int32)) T70.heap n0 (Nat.le_trans Z0 K70.1) FP70_0 FP70_1 FP70_2 FP70_3 FP70_4 FP70_5 FP70_6 FP70_7 G_b65 G_a1_70 G_a2_70 G_a3_70 (ne_b65_a1_70) (ne_b65_a2_70) (ne_b65_a3_70) (hp70.1) (hp70.2.1) (hp70.2.2)) hZ (hw _ (List.mem_of_getElem? (i := 28) rfl)) (hw _ (List.mem_of_getElem? (i := 2) rfl)) (by decide) (by decide)) q72a q72c (g := (mkF m 64 #[iv p0, iv p1, iv p2, iv p3, iv p4, iv p5, iv (3 : Int32), iv v63, iv qv, rv b65, .unset] [(.int p3), (.int p2), (.int p1), (.ref b65)])) rfl (by rw [hml]; rfl) (Steps.refl _) (argsL := [(.int p1), (.int p2), (.int p3)]) (rest := []) (lenOf own_pd2 rfl) rfl (by show 2 * 0 + _ ≤ _; exact Nat.le_of_eq rfl) (hb hby at_64) (fun _ _ => ⟨rfl, rfl, (by decide : 4 + 0 ≤ _), (by decide : 28 + 0 ≤ _)⟩)
      dsimp only [Pt.U, Pt.locs, Pt.cells, Pt.slots] at X72 l72 y72 z72 st72 hQ72
      subst l72 y72 z72
      obtain ⟨rfl, N72q, Kq72, FP72_0, FP72_1, FP72_2, FP72_3, FP72_4, FP72_5, FP72_6, FP72_7⟩ := hQ72
      have N72 := Fr.app N70 N72q
      have K72 : Keep h0 T72.heap [] := K70.trans Kq72 (allS (Or.inr sz_b65) (allS (Or.inr sz_a1_70) (allS (Or.inr sz_a2_70) (allS (Or.inr sz_a3_70) all0))))
      have F73 : Exa Z T72.heap b65 "com/example/vellum4/vellum4/PatternCode" := FP70_0.keep Kq72
      refine ownRun (T' := T72) (f' := (mkF m 67 #[iv p0, iv p1, iv p2, iv p3, iv p4, iv p5, iv (3 : Int32), iv v63, iv qv, rv b65, .unset] [(.int (0 : Int32))])) st72 ?_
      refine ow_pop (q := 68) X72 hx (hb hby at_67) rfl rfl ?_
      refine ow_iload (q := 70) X72 hx (hb hby at_68) rfl rfl ?_
      refine ow_iconst (q := 71) X72 hx (2 : Int32) (hb hby at_70) rfl rfl ?_
      refine ow_icmpNo (q := 74) X72 hx (hb hby at_71) rfl (Jvm.Free.XT.ii_lt_f (by decide)) ?_
      refine ow_aload (q := 76) X72 hx (hb hby at_74) rfl rfl rfl ?_
      refine ow_iloadN (q := 77) X72 hx (hb hby at_76) rfl rfl ?_
      refine ow_iloadN (q := 78) X72 hx (hb hby at_77) rfl rfl ?_
      refine ow_iloadN (q := 79) X72 hx (hb hby at_78) rfl rfl ?_
      obtain ⟨cq74, kq74, q74a, q74b, q74c⟩ := isOf hZ rfl FP72_0
      obtain ⟨_, _, ⟨T74, L74, k74, n74⟩, -, X74, ⟨Lc74, hQ74, l74, y74, z74⟩, st74⟩ := X72.virtualBack hx (y := (⟨"com/example/vellum4/vellum4/PatternCode", "emitUnchecked", "(III)I"⟩ : MethodName)) (z := (⟨"com/example/vellum4/vellum4/PatternCode", "emitUnchecked", "(III)I"⟩ : MethodName)) hown (mvT hZ (hw _ (List.mem_of_getElem? (i := 24) rfl))) (mvT hZ (hw _ (List.mem_of_getElem? (i := 25) rfl))) (notFace_of_selects (args := #[]) (mvT hZ (hw _ (List.mem_of_getElem? (i := 27) rfl)))) (mvT hZ (hw _ (List.mem_of_getElem? (i := 27) rfl))) (mvT hZ (hw _ (List.mem_of_getElem? (i := 26) rfl))) (by decide) (backOf (W := 0) (rm_emit_1 l Z a0 hw [] b65 p2 p3 p1 a1_70 a2_70 a3_70 (ownUpd (fun _ => (0 : Int32)) 0 p1) (ownUpd (fun _ => (0 : Int32)) 0 p2) (ownUpd (fun _ => (0 : Int32)) 0 p3) T72.heap n0 (Nat.le_trans Z0 K72.1) FP72_0 FP72_1 FP72_2 FP72_3 FP72_4 FP72_5 FP72_6 FP72_7 G_b65 G_a1_70 G_a2_70 G_a3_70 (ne_b65_a1_70) (ne_b65_a2_70) (ne_b65_a3_70) (hp70.1) (hp70.2.1) (hp70.2.2)) hZ (hw _ (List.mem_of_getElem? (i := 28) rfl)) (hw _ (List.mem_of_getElem? (i := 2) rfl)) (by decide) (by decide)) q74a q74c (g := (mkF m 79 #[iv p0, iv p1, iv p2, iv p3, iv p4, iv p5, iv (3 : Int32), iv v63, iv qv, rv b65, .unset] [(.int p1), (.int p3), (.int p2), (.ref b65)])) rfl (by rw [hml]; rfl) (Steps.refl _) (argsL := [(.int p2), (.int p3), (.int p1)]) (rest := []) (lenOf own_pd2 rfl) rfl (by show 2 * 0 + _ ≤ _; exact Nat.le_of_eq rfl) (hb hby at_79) (fun _ _ => ⟨rfl, rfl, (by decide : 4 + 0 ≤ _), (by decide : 28 + 0 ≤ _)⟩)
      dsimp only [Pt.U, Pt.locs, Pt.cells, Pt.slots] at X74 l74 y74 z74 st74 hQ74
      subst l74 y74 z74
      obtain ⟨rfl, N74q, Kq74, FP74_0, FP74_1, FP74_2, FP74_3, FP74_4, FP74_5, FP74_6, FP74_7⟩ := hQ74
      have N74 := Fr.app N72 N74q
      have K74 : Keep h0 T74.heap [] := K72.trans Kq74 (allS (Or.inr sz_b65) (allS (Or.inr sz_a1_70) (allS (Or.inr sz_a2_70) (allS (Or.inr sz_a3_70) all0))))
      have F75 : Exa Z T74.heap b65 "com/example/vellum4/vellum4/PatternCode" := FP72_0.keep Kq74
      refine ownRun (T' := T74) (f' := (mkF m 82 #[iv p0, iv p1, iv p2, iv p3, iv p4, iv p5, iv (3 : Int32), iv v63, iv qv, rv b65, .unset] [(.int (1 : Int32))])) st74 ?_
      refine ow_pop (q := 83) X74 hx (hb hby at_82) rfl rfl ?_
      refine ow_iload (q := 85) X74 hx (hb hby at_83) rfl rfl ?_
      refine ow_iconst (q := 86) X74 hx (3 : Int32) (hb hby at_85) rfl rfl ?_
      refine ow_icmpNo (q := 89) X74 hx (hb hby at_86) rfl (Jvm.Free.XT.ii_lt_f (by decide)) ?_
      refine ow_aload (q := 91) X74 hx (hb hby at_89) rfl rfl rfl ?_
      refine ow_iloadN (q := 92) X74 hx (hb hby at_91) rfl rfl ?_
      refine ow_iloadN (q := 93) X74 hx (hb hby at_92) rfl rfl ?_
      refine ow_iloadN (q := 94) X74 hx (hb hby at_93) rfl rfl ?_
      obtain ⟨cq76, kq76, q76a, q76b, q76c⟩ := isOf hZ rfl FP74_0
      obtain ⟨_, _, ⟨T76, L76, k76, n76⟩, -, X76, ⟨Lc76, hQ76, l76, y76, z76⟩, st76⟩ := X74.virtualBack hx (y := (⟨"com/example/vellum4/vellum4/PatternCode", "emitUnchecked", "(III)I"⟩ : MethodName)) (z := (⟨"com/example/vellum4/vellum4/PatternCode", "emitUnchecked", "(III)I"⟩ : MethodName)) hown (mvT hZ (hw _ (List.mem_of_getElem? (i := 24) rfl))) (mvT hZ (hw _ (List.mem_of_getElem? (i := 25) rfl))) (notFace_of_selects (args := #[]) (mvT hZ (hw _ (List.mem_of_getElem? (i := 27) rfl)))) (mvT hZ (hw _ (List.mem_of_getElem? (i := 27) rfl))) (mvT hZ (hw _ (List.mem_of_getElem? (i := 26) rfl))) (by decide) (backOf (W := 0) (rm_emit_2 l Z a0 hw [] b65 p3 p1 p2 a1_70 a2_70 a3_70 (ownUpd (ownUpd (fun _ => (0 : Int32)) 0 p1) 1 p2) (ownUpd (ownUpd (fun _ => (0 : Int32)) 0 p2) 1 p3) (ownUpd (ownUpd (fun _ => (0 : Int32)) 0 p3) 1 p1) T74.heap n0 (Nat.le_trans Z0 K74.1) FP74_0 FP74_1 FP74_2 FP74_3 FP74_4 FP74_5 FP74_6 FP74_7 G_b65 G_a1_70 G_a2_70 G_a3_70 (ne_b65_a1_70) (ne_b65_a2_70) (ne_b65_a3_70) (hp70.1) (hp70.2.1) (hp70.2.2)) hZ (hw _ (List.mem_of_getElem? (i := 28) rfl)) (hw _ (List.mem_of_getElem? (i := 2) rfl)) (by decide) (by decide)) q76a q76c (g := (mkF m 94 #[iv p0, iv p1, iv p2, iv p3, iv p4, iv p5, iv (3 : Int32), iv v63, iv qv, rv b65, .unset] [(.int p2), (.int p1), (.int p3), (.ref b65)])) rfl (by rw [hml]; rfl) (Steps.refl _) (argsL := [(.int p3), (.int p1), (.int p2)]) (rest := []) (lenOf own_pd2 rfl) rfl (by show 2 * 0 + _ ≤ _; exact Nat.le_of_eq rfl) (hb hby at_94) (fun _ _ => ⟨rfl, rfl, (by decide : 4 + 0 ≤ _), (by decide : 28 + 0 ≤ _)⟩)
      dsimp only [Pt.U, Pt.locs, Pt.cells, Pt.slots] at X76 l76 y76 z76 st76 hQ76
      subst l76 y76 z76
      obtain ⟨rfl, N76q, Kq76, FP76_0, FP76_1, FP76_2, FP76_3, FP76_4, FP76_5, FP76_6, FP76_7⟩ := hQ76
      have N76 := Fr.app N74 N76q
      have K76 : Keep h0 T76.heap [] := K74.trans Kq76 (allS (Or.inr sz_b65) (allS (Or.inr sz_a1_70) (allS (Or.inr sz_a2_70) (allS (Or.inr sz_a3_70) all0))))
      have F77 : Exa Z T76.heap b65 "com/example/vellum4/vellum4/PatternCode" := FP74_0.keep Kq76
      refine ownRun (T' := T76) (f' := (mkF m 97 #[iv p0, iv p1, iv p2, iv p3, iv p4, iv p5, iv (3 : Int32), iv v63, iv qv, rv b65, .unset] [(.int (2 : Int32))])) st76 ?_
      refine ow_pop (q := 98) X76 hx (hb hby at_97) rfl rfl ?_
      refine ow_iload (q := 100) X76 hx (hb hby at_98) rfl rfl ?_
      refine ow_iconst (q := 101) X76 hx (1 : Int32) (hb hby at_100) rfl rfl ?_
      refine ow_icmpNo (q := 104) X76 hx (hb hby at_101) rfl (Jvm.Free.XT.ii_lt_f (by decide)) ?_
      refine ow_iloadN (q := 105) X76 hx (hb hby at_104) rfl rfl ?_
      refine ow_iload (q := 107) X76 hx (hb hby at_105) rfl rfl ?_
      by_cases hc107_78 : p1 = qv
      · refine ow_icmpYes (q := 134) X76 hx (hb hby at_107) (Jvm.Free.XT.ii_eq_t hc107_78) (by decide) (by decide) ?_
        refine ow_iconst (q := 135) X76 hx (1 : Int32) (hb hby at_134) rfl rfl ?_
        refine ow_goto (q := 139) X76 hx (hb hby at_135) (by decide) (by decide) ?_
        refine ow_istore (q := 141) X76 hx (L' := #[iv p0, iv p1, iv p2, iv p3, iv p4, iv p5, iv (3 : Int32), iv v63, iv qv, rv b65, iv (1 : Int32)]) (hb hby at_139) rfl rfl ?_
        refine ow_aload (q := 143) X76 hx (hb hby at_141) rfl rfl rfl ?_
        refine ow_iload (q := 145) X76 hx (hb hby at_143) rfl rfl ?_
        obtain ⟨cq79, kq79, q79a, q79b, q79c⟩ := isOf hZ rfl FP76_0
        obtain ⟨_, _, ⟨T79, L79, k79, n79⟩, -, X79, ⟨Lc79, hQ79, l79, y79, z79⟩, st79⟩ := X76.virtualBack hx (y := (⟨"com/example/vellum4/vellum4/PatternCode", "contains", "(I)Z"⟩ : MethodName)) (z := (⟨"com/example/vellum4/vellum4/PatternCode", "contains", "(I)Z"⟩ : MethodName)) hown (mvT hZ (hw _ (List.mem_of_getElem? (i := 16) rfl))) (mvT hZ (hw _ (List.mem_of_getElem? (i := 17) rfl))) (notFace_of_selects (args := #[]) (mvT hZ (hw _ (List.mem_of_getElem? (i := 19) rfl)))) (mvT hZ (hw _ (List.mem_of_getElem? (i := 19) rfl))) (mvT hZ (hw _ (List.mem_of_getElem? (i := 18) rfl))) (by decide) (backOf (W := 0) (rm_contains_3 l Z a0 hw [] b65 qv a1_70 (ownUpd (ownUpd (ownUpd (fun _ => (0 : Int32)) 0 p1) 1 p2) 2 p3) T76.heap n0 (Nat.le_trans Z0 K76.1) FP76_4 FP76_1 FP76_5) hZ (hw _ (List.mem_of_getElem? (i := 20) rfl)) (hw _ (List.mem_of_getElem? (i := 2) rfl)) (by decide) (by decide)) q79a q79c (g := (mkF m 145 #[iv p0, iv p1, iv p2, iv p3, iv p4, iv p5, iv (3 : Int32), iv v63, iv qv, rv b65, iv (1 : Int32)] [(.int qv), (.ref b65)])) rfl (by rw [hml]; rfl) (Steps.refl _) (argsL := [(.int qv)]) (rest := []) (lenOf own_pd1 rfl) rfl (by show 2 * 0 + _ ≤ _; exact Nat.le_of_eq rfl) (hb hby at_145) (fun _ _ => ⟨rfl, rfl, (by decide : 4 + 0 ≤ _), (by decide : 28 + 0 ≤ _)⟩)
        dsimp only [Pt.U, Pt.locs, Pt.cells, Pt.slots] at X79 l79 y79 z79 st79 hQ79
        subst l79 y79 z79
        obtain ⟨rfl, N79q, e79⟩ := hQ79
        have N79 := Fr.app N76 N79q
        refine ownRun (T' := T79) (f' := (mkF m 148 #[iv p0, iv p1, iv p2, iv p3, iv p4, iv p5, iv (3 : Int32), iv v63, iv qv, rv b65, iv (1 : Int32)] [(.int (if (ownUpd (ownUpd (ownUpd (fun _ => (0 : Int32)) 0 p1) 1 p2) 2 p3) 0 = qv then (1 : Int32) else (if (ownUpd (ownUpd (ownUpd (fun _ => (0 : Int32)) 0 p1) 1 p2) 2 p3) 1 = qv then (1 : Int32) else (if (ownUpd (ownUpd (ownUpd (fun _ => (0 : Int32)) 0 p1) 1 p2) 2 p3) 2 = qv then (1 : Int32) else (0 : Int32)))))])) st79 ?_
        refine ow_iload (q := 150) X79 hx (hb hby at_148) rfl rfl ?_
        refine ow_icmpNo (q := 153) X79 hx (hb hby at_150) rfl (Jvm.Free.XT.ii_ne_f (by simp [ownUpd, hc107_78])) ?_
        refine ow_aload (q := 155) X79 hx (hb hby at_153) rfl rfl rfl ?_
        obtain ⟨T80, X80, e80, st80⟩ := getF X79 hx hZ hown (host := "") (Or.inl (hw _ (List.mem_of_getElem? (i := 23) rfl))) Via.refl e79 FP76_4 (g := (mkF m 155 #[iv p0, iv p1, iv p2, iv p3, iv p4, iv p5, iv (3 : Int32), iv v63, iv qv, rv b65, iv (1 : Int32)] [(.ref b65)])) rfl rfl (hb hby at_155)
        refine ownGo (T' := T80) (f' := (mkF m 158 #[iv p0, iv p1, iv p2, iv p3, iv p4, iv p5, iv (3 : Int32), iv v63, iv qv, rv b65, iv (1 : Int32)] [(.int (3 : Int32))])) (st80) ?_
        refine ow_iload (q := 160) X80 hx (hb hby at_158) rfl rfl ?_
        refine ow_icmpNo (q := 163) X80 hx (hb hby at_160) rfl (Jvm.Free.XT.ii_ne_f (by decide)) ?_
        refine ow_iconst (q := 164) X80 hx (1 : Int32) (hb hby at_163) rfl rfl ?_
        refine ow_goto (q := 168) X80 hx (hb hby at_164) (by decide) (by decide) ?_
        refine ownRetN X80 hx (r := (1 : Int32)) (Or.inl rfl) Bd.returns (hb hby at_168) hlk (by decide) (by decide) (by decide) ?_
        exact ⟨rfl, N79⟩
      · refine ow_icmpNo (q := 110) X76 hx (hb hby at_107) rfl (Jvm.Free.XT.ii_eq_f hc107_78) ?_
        refine ow_iload (q := 112) X76 hx (hb hby at_110) rfl rfl ?_
        refine ow_iconst (q := 113) X76 hx (2 : Int32) (hb hby at_112) rfl rfl ?_
        refine ow_icmpNo (q := 116) X76 hx (hb hby at_113) rfl (Jvm.Free.XT.ii_lt_f (by decide)) ?_
        refine ow_iloadN (q := 117) X76 hx (hb hby at_116) rfl rfl ?_
        refine ow_iload (q := 119) X76 hx (hb hby at_117) rfl rfl ?_
        by_cases hc119_81 : p2 = qv
        · refine ow_icmpYes (q := 134) X76 hx (hb hby at_119) (Jvm.Free.XT.ii_eq_t hc119_81) (by decide) (by decide) ?_
          refine ow_iconst (q := 135) X76 hx (1 : Int32) (hb hby at_134) rfl rfl ?_
          refine ow_goto (q := 139) X76 hx (hb hby at_135) (by decide) (by decide) ?_
          refine ow_istore (q := 141) X76 hx (L' := #[iv p0, iv p1, iv p2, iv p3, iv p4, iv p5, iv (3 : Int32), iv v63, iv qv, rv b65, iv (1 : Int32)]) (hb hby at_139) rfl rfl ?_
          refine ow_aload (q := 143) X76 hx (hb hby at_141) rfl rfl rfl ?_
          refine ow_iload (q := 145) X76 hx (hb hby at_143) rfl rfl ?_
          obtain ⟨cq82, kq82, q82a, q82b, q82c⟩ := isOf hZ rfl FP76_0
          obtain ⟨_, _, ⟨T82, L82, k82, n82⟩, -, X82, ⟨Lc82, hQ82, l82, y82, z82⟩, st82⟩ := X76.virtualBack hx (y := (⟨"com/example/vellum4/vellum4/PatternCode", "contains", "(I)Z"⟩ : MethodName)) (z := (⟨"com/example/vellum4/vellum4/PatternCode", "contains", "(I)Z"⟩ : MethodName)) hown (mvT hZ (hw _ (List.mem_of_getElem? (i := 16) rfl))) (mvT hZ (hw _ (List.mem_of_getElem? (i := 17) rfl))) (notFace_of_selects (args := #[]) (mvT hZ (hw _ (List.mem_of_getElem? (i := 19) rfl)))) (mvT hZ (hw _ (List.mem_of_getElem? (i := 19) rfl))) (mvT hZ (hw _ (List.mem_of_getElem? (i := 18) rfl))) (by decide) (backOf (W := 0) (rm_contains_3 l Z a0 hw [] b65 qv a1_70 (ownUpd (ownUpd (ownUpd (fun _ => (0 : Int32)) 0 p1) 1 p2) 2 p3) T76.heap n0 (Nat.le_trans Z0 K76.1) FP76_4 FP76_1 FP76_5) hZ (hw _ (List.mem_of_getElem? (i := 20) rfl)) (hw _ (List.mem_of_getElem? (i := 2) rfl)) (by decide) (by decide)) q82a q82c (g := (mkF m 145 #[iv p0, iv p1, iv p2, iv p3, iv p4, iv p5, iv (3 : Int32), iv v63, iv qv, rv b65, iv (1 : Int32)] [(.int qv), (.ref b65)])) rfl (by rw [hml]; rfl) (Steps.refl _) (argsL := [(.int qv)]) (rest := []) (lenOf own_pd1 rfl) rfl (by show 2 * 0 + _ ≤ _; exact Nat.le_of_eq rfl) (hb hby at_145) (fun _ _ => ⟨rfl, rfl, (by decide : 4 + 0 ≤ _), (by decide : 28 + 0 ≤ _)⟩)
          dsimp only [Pt.U, Pt.locs, Pt.cells, Pt.slots] at X82 l82 y82 z82 st82 hQ82
          subst l82 y82 z82
          obtain ⟨rfl, N82q, e82⟩ := hQ82
          have N82 := Fr.app N76 N82q
          refine ownRun (T' := T82) (f' := (mkF m 148 #[iv p0, iv p1, iv p2, iv p3, iv p4, iv p5, iv (3 : Int32), iv v63, iv qv, rv b65, iv (1 : Int32)] [(.int (if (ownUpd (ownUpd (ownUpd (fun _ => (0 : Int32)) 0 p1) 1 p2) 2 p3) 0 = qv then (1 : Int32) else (if (ownUpd (ownUpd (ownUpd (fun _ => (0 : Int32)) 0 p1) 1 p2) 2 p3) 1 = qv then (1 : Int32) else (if (ownUpd (ownUpd (ownUpd (fun _ => (0 : Int32)) 0 p1) 1 p2) 2 p3) 2 = qv then (1 : Int32) else (0 : Int32)))))])) st82 ?_
          refine ow_iload (q := 150) X82 hx (hb hby at_148) rfl rfl ?_
          refine ow_icmpNo (q := 153) X82 hx (hb hby at_150) rfl (Jvm.Free.XT.ii_ne_f (by simp [ownUpd, hc107_78, hc119_81])) ?_
          refine ow_aload (q := 155) X82 hx (hb hby at_153) rfl rfl rfl ?_
          obtain ⟨T83, X83, e83, st83⟩ := getF X82 hx hZ hown (host := "") (Or.inl (hw _ (List.mem_of_getElem? (i := 23) rfl))) Via.refl e82 FP76_4 (g := (mkF m 155 #[iv p0, iv p1, iv p2, iv p3, iv p4, iv p5, iv (3 : Int32), iv v63, iv qv, rv b65, iv (1 : Int32)] [(.ref b65)])) rfl rfl (hb hby at_155)
          refine ownGo (T' := T83) (f' := (mkF m 158 #[iv p0, iv p1, iv p2, iv p3, iv p4, iv p5, iv (3 : Int32), iv v63, iv qv, rv b65, iv (1 : Int32)] [(.int (3 : Int32))])) (st83) ?_
          refine ow_iload (q := 160) X83 hx (hb hby at_158) rfl rfl ?_
          refine ow_icmpNo (q := 163) X83 hx (hb hby at_160) rfl (Jvm.Free.XT.ii_ne_f (by decide)) ?_
          refine ow_iconst (q := 164) X83 hx (1 : Int32) (hb hby at_163) rfl rfl ?_
          refine ow_goto (q := 168) X83 hx (hb hby at_164) (by decide) (by decide) ?_
          refine ownRetN X83 hx (r := (1 : Int32)) (Or.inl rfl) Bd.returns (hb hby at_168) hlk (by decide) (by decide) (by decide) ?_
          exact ⟨rfl, N82⟩
        · refine ow_icmpNo (q := 122) X76 hx (hb hby at_119) rfl (Jvm.Free.XT.ii_eq_f hc119_81) ?_
          refine ow_iload (q := 124) X76 hx (hb hby at_122) rfl rfl ?_
          refine ow_iconst (q := 125) X76 hx (3 : Int32) (hb hby at_124) rfl rfl ?_
          refine ow_icmpNo (q := 128) X76 hx (hb hby at_125) rfl (Jvm.Free.XT.ii_lt_f (by decide)) ?_
          refine ow_iloadN (q := 129) X76 hx (hb hby at_128) rfl rfl ?_
          refine ow_iload (q := 131) X76 hx (hb hby at_129) rfl rfl ?_
          by_cases hc131_84 : p3 = qv
          · refine ow_icmpNo (q := 134) X76 hx (hb hby at_131) rfl (Jvm.Free.XT.ii_ne_f hc131_84) ?_
            refine ow_iconst (q := 135) X76 hx (1 : Int32) (hb hby at_134) rfl rfl ?_
            refine ow_goto (q := 139) X76 hx (hb hby at_135) (by decide) (by decide) ?_
            refine ow_istore (q := 141) X76 hx (L' := #[iv p0, iv p1, iv p2, iv p3, iv p4, iv p5, iv (3 : Int32), iv v63, iv qv, rv b65, iv (1 : Int32)]) (hb hby at_139) rfl rfl ?_
            refine ow_aload (q := 143) X76 hx (hb hby at_141) rfl rfl rfl ?_
            refine ow_iload (q := 145) X76 hx (hb hby at_143) rfl rfl ?_
            obtain ⟨cq85, kq85, q85a, q85b, q85c⟩ := isOf hZ rfl FP76_0
            obtain ⟨_, _, ⟨T85, L85, k85, n85⟩, -, X85, ⟨Lc85, hQ85, l85, y85, z85⟩, st85⟩ := X76.virtualBack hx (y := (⟨"com/example/vellum4/vellum4/PatternCode", "contains", "(I)Z"⟩ : MethodName)) (z := (⟨"com/example/vellum4/vellum4/PatternCode", "contains", "(I)Z"⟩ : MethodName)) hown (mvT hZ (hw _ (List.mem_of_getElem? (i := 16) rfl))) (mvT hZ (hw _ (List.mem_of_getElem? (i := 17) rfl))) (notFace_of_selects (args := #[]) (mvT hZ (hw _ (List.mem_of_getElem? (i := 19) rfl)))) (mvT hZ (hw _ (List.mem_of_getElem? (i := 19) rfl))) (mvT hZ (hw _ (List.mem_of_getElem? (i := 18) rfl))) (by decide) (backOf (W := 0) (rm_contains_3 l Z a0 hw [] b65 qv a1_70 (ownUpd (ownUpd (ownUpd (fun _ => (0 : Int32)) 0 p1) 1 p2) 2 p3) T76.heap n0 (Nat.le_trans Z0 K76.1) FP76_4 FP76_1 FP76_5) hZ (hw _ (List.mem_of_getElem? (i := 20) rfl)) (hw _ (List.mem_of_getElem? (i := 2) rfl)) (by decide) (by decide)) q85a q85c (g := (mkF m 145 #[iv p0, iv p1, iv p2, iv p3, iv p4, iv p5, iv (3 : Int32), iv v63, iv qv, rv b65, iv (1 : Int32)] [(.int qv), (.ref b65)])) rfl (by rw [hml]; rfl) (Steps.refl _) (argsL := [(.int qv)]) (rest := []) (lenOf own_pd1 rfl) rfl (by show 2 * 0 + _ ≤ _; exact Nat.le_of_eq rfl) (hb hby at_145) (fun _ _ => ⟨rfl, rfl, (by decide : 4 + 0 ≤ _), (by decide : 28 + 0 ≤ _)⟩)
            dsimp only [Pt.U, Pt.locs, Pt.cells, Pt.slots] at X85 l85 y85 z85 st85 hQ85
            subst l85 y85 z85
            obtain ⟨rfl, N85q, e85⟩ := hQ85
            have N85 := Fr.app N76 N85q
            refine ownRun (T' := T85) (f' := (mkF m 148 #[iv p0, iv p1, iv p2, iv p3, iv p4, iv p5, iv (3 : Int32), iv v63, iv qv, rv b65, iv (1 : Int32)] [(.int (if (ownUpd (ownUpd (ownUpd (fun _ => (0 : Int32)) 0 p1) 1 p2) 2 p3) 0 = qv then (1 : Int32) else (if (ownUpd (ownUpd (ownUpd (fun _ => (0 : Int32)) 0 p1) 1 p2) 2 p3) 1 = qv then (1 : Int32) else (if (ownUpd (ownUpd (ownUpd (fun _ => (0 : Int32)) 0 p1) 1 p2) 2 p3) 2 = qv then (1 : Int32) else (0 : Int32)))))])) st85 ?_
            refine ow_iload (q := 150) X85 hx (hb hby at_148) rfl rfl ?_
            refine ow_icmpNo (q := 153) X85 hx (hb hby at_150) rfl (Jvm.Free.XT.ii_ne_f (by simp [ownUpd, hc107_78, hc119_81, hc131_84])) ?_
            refine ow_aload (q := 155) X85 hx (hb hby at_153) rfl rfl rfl ?_
            obtain ⟨T86, X86, e86, st86⟩ := getF X85 hx hZ hown (host := "") (Or.inl (hw _ (List.mem_of_getElem? (i := 23) rfl))) Via.refl e85 FP76_4 (g := (mkF m 155 #[iv p0, iv p1, iv p2, iv p3, iv p4, iv p5, iv (3 : Int32), iv v63, iv qv, rv b65, iv (1 : Int32)] [(.ref b65)])) rfl rfl (hb hby at_155)
            refine ownGo (T' := T86) (f' := (mkF m 158 #[iv p0, iv p1, iv p2, iv p3, iv p4, iv p5, iv (3 : Int32), iv v63, iv qv, rv b65, iv (1 : Int32)] [(.int (3 : Int32))])) (st86) ?_
            refine ow_iload (q := 160) X86 hx (hb hby at_158) rfl rfl ?_
            refine ow_icmpNo (q := 163) X86 hx (hb hby at_160) rfl (Jvm.Free.XT.ii_ne_f (by decide)) ?_
            refine ow_iconst (q := 164) X86 hx (1 : Int32) (hb hby at_163) rfl rfl ?_
            refine ow_goto (q := 168) X86 hx (hb hby at_164) (by decide) (by decide) ?_
            refine ownRetN X86 hx (r := (1 : Int32)) (Or.inl rfl) Bd.returns (hb hby at_168) hlk (by decide) (by decide) (by decide) ?_
            exact ⟨rfl, N85⟩
          · refine ow_icmpYes (q := 138) X76 hx (hb hby at_131) (Jvm.Free.XT.ii_ne_t hc131_84) (by decide) (by decide) ?_
            refine ow_iconst (q := 139) X76 hx (0 : Int32) (hb hby at_138) rfl rfl ?_
            refine ow_istore (q := 141) X76 hx (L' := #[iv p0, iv p1, iv p2, iv p3, iv p4, iv p5, iv (3 : Int32), iv v63, iv qv, rv b65, iv (0 : Int32)]) (hb hby at_139) rfl rfl ?_
            refine ow_aload (q := 143) X76 hx (hb hby at_141) rfl rfl rfl ?_
            refine ow_iload (q := 145) X76 hx (hb hby at_143) rfl rfl ?_
            obtain ⟨cq87, kq87, q87a, q87b, q87c⟩ := isOf hZ rfl FP76_0
            obtain ⟨_, _, ⟨T87, L87, k87, n87⟩, -, X87, ⟨Lc87, hQ87, l87, y87, z87⟩, st87⟩ := X76.virtualBack hx (y := (⟨"com/example/vellum4/vellum4/PatternCode", "contains", "(I)Z"⟩ : MethodName)) (z := (⟨"com/example/vellum4/vellum4/PatternCode", "contains", "(I)Z"⟩ : MethodName)) hown (mvT hZ (hw _ (List.mem_of_getElem? (i := 16) rfl))) (mvT hZ (hw _ (List.mem_of_getElem? (i := 17) rfl))) (notFace_of_selects (args := #[]) (mvT hZ (hw _ (List.mem_of_getElem? (i := 19) rfl)))) (mvT hZ (hw _ (List.mem_of_getElem? (i := 19) rfl))) (mvT hZ (hw _ (List.mem_of_getElem? (i := 18) rfl))) (by decide) (backOf (W := 0) (rm_contains_3 l Z a0 hw [] b65 qv a1_70 (ownUpd (ownUpd (ownUpd (fun _ => (0 : Int32)) 0 p1) 1 p2) 2 p3) T76.heap n0 (Nat.le_trans Z0 K76.1) FP76_4 FP76_1 FP76_5) hZ (hw _ (List.mem_of_getElem? (i := 20) rfl)) (hw _ (List.mem_of_getElem? (i := 2) rfl)) (by decide) (by decide)) q87a q87c (g := (mkF m 145 #[iv p0, iv p1, iv p2, iv p3, iv p4, iv p5, iv (3 : Int32), iv v63, iv qv, rv b65, iv (0 : Int32)] [(.int qv), (.ref b65)])) rfl (by rw [hml]; rfl) (Steps.refl _) (argsL := [(.int qv)]) (rest := []) (lenOf own_pd1 rfl) rfl (by show 2 * 0 + _ ≤ _; exact Nat.le_of_eq rfl) (hb hby at_145) (fun _ _ => ⟨rfl, rfl, (by decide : 4 + 0 ≤ _), (by decide : 28 + 0 ≤ _)⟩)
            dsimp only [Pt.U, Pt.locs, Pt.cells, Pt.slots] at X87 l87 y87 z87 st87 hQ87
            subst l87 y87 z87
            obtain ⟨rfl, N87q, e87⟩ := hQ87
            have N87 := Fr.app N76 N87q
            refine ownRun (T' := T87) (f' := (mkF m 148 #[iv p0, iv p1, iv p2, iv p3, iv p4, iv p5, iv (3 : Int32), iv v63, iv qv, rv b65, iv (0 : Int32)] [(.int (if (ownUpd (ownUpd (ownUpd (fun _ => (0 : Int32)) 0 p1) 1 p2) 2 p3) 0 = qv then (1 : Int32) else (if (ownUpd (ownUpd (ownUpd (fun _ => (0 : Int32)) 0 p1) 1 p2) 2 p3) 1 = qv then (1 : Int32) else (if (ownUpd (ownUpd (ownUpd (fun _ => (0 : Int32)) 0 p1) 1 p2) 2 p3) 2 = qv then (1 : Int32) else (0 : Int32)))))])) st87 ?_
            refine ow_iload (q := 150) X87 hx (hb hby at_148) rfl rfl ?_
            refine ow_icmpNo (q := 153) X87 hx (hb hby at_150) rfl (Jvm.Free.XT.ii_ne_f (by simp [ownUpd, hc107_78, hc119_81, hc131_84])) ?_
            refine ow_aload (q := 155) X87 hx (hb hby at_153) rfl rfl rfl ?_
            obtain ⟨T88, X88, e88, st88⟩ := getF X87 hx hZ hown (host := "") (Or.inl (hw _ (List.mem_of_getElem? (i := 23) rfl))) Via.refl e87 FP76_4 (g := (mkF m 155 #[iv p0, iv p1, iv p2, iv p3, iv p4, iv p5, iv (3 : Int32), iv v63, iv qv, rv b65, iv (0 : Int32)] [(.ref b65)])) rfl rfl (hb hby at_155)
            refine ownGo (T' := T88) (f' := (mkF m 158 #[iv p0, iv p1, iv p2, iv p3, iv p4, iv p5, iv (3 : Int32), iv v63, iv qv, rv b65, iv (0 : Int32)] [(.int (3 : Int32))])) (st88) ?_
            refine ow_iload (q := 160) X88 hx (hb hby at_158) rfl rfl ?_
            refine ow_icmpNo (q := 163) X88 hx (hb hby at_160) rfl (Jvm.Free.XT.ii_ne_f (by decide)) ?_
            refine ow_iconst (q := 164) X88 hx (1 : Int32) (hb hby at_163) rfl rfl ?_
            refine ow_goto (q := 168) X88 hx (hb hby at_164) (by decide) (by decide) ?_
            refine ownRetN X88 hx (r := (1 : Int32)) (Or.inl rfl) Bd.returns (hb hby at_168) hlk (by decide) (by decide) (by decide) ?_
            exact ⟨rfl, N87⟩
    refine ow_iload (q := 13) X0 hx (hb hby at_11) rfl rfl ?_
    by_cases hc13_89 : v63 = (0 : Int32)
    · refine ow_ifNo (q := 16) X0 hx (hb hby at_13) rfl (Jvm.Free.XT.i0_ne_f hc13_89) ?_
      refine ow_iload (q := 18) X0 hx (hb hby at_16) rfl rfl ?_
      refine ow_goto (q := 42) X0 hx (hb hby at_18) (by decide) (by decide) ?_
      refine ow_istore (q := 44) X0 hx (L' := #[iv p0, iv p1, iv p2, iv p3, iv p4, iv p5, iv (3 : Int32), iv v63, iv p4, .unset, .unset]) (hb hby at_42) rfl rfl ?_
      exact cut44_64 p4 _ _ X0 e0 N0 
    · refine ow_ifYes (q := 21) X0 hx (hb hby at_13) (Jvm.Free.XT.i0_ne_t hc13_89) (by decide) (by decide) ?_
      refine ow_iload (q := 23) X0 hx (hb hby at_21) rfl rfl ?_
      refine ow_iconst (q := 24) X0 hx (1 : Int32) (hb hby at_23) rfl rfl ?_
      by_cases hc24_90 : v63 = (1 : Int32)
      · refine ow_icmpNo (q := 27) X0 hx (hb hby at_24) rfl (Jvm.Free.XT.ii_ne_f hc24_90) ?_
        refine ow_iloadN (q := 28) X0 hx (hb hby at_27) rfl rfl ?_
        refine ow_goto (q := 42) X0 hx (hb hby at_28) (by decide) (by decide) ?_
        refine ow_istore (q := 44) X0 hx (L' := #[iv p0, iv p1, iv p2, iv p3, iv p4, iv p5, iv (3 : Int32), iv v63, iv p1, .unset, .unset]) (hb hby at_42) rfl rfl ?_
        exact cut44_64 p1 _ _ X0 e0 N0 
      · refine ow_icmpYes (q := 31) X0 hx (hb hby at_24) (Jvm.Free.XT.ii_ne_t hc24_90) (by decide) (by decide) ?_
        refine ow_iload (q := 33) X0 hx (hb hby at_31) rfl rfl ?_
        refine ow_iconst (q := 34) X0 hx (2 : Int32) (hb hby at_33) rfl rfl ?_
        by_cases hc34_91 : v63 = (2 : Int32)
        · refine ow_icmpNo (q := 37) X0 hx (hb hby at_34) rfl (Jvm.Free.XT.ii_ne_f hc34_91) ?_
          refine ow_iloadN (q := 38) X0 hx (hb hby at_37) rfl rfl ?_
          refine ow_goto (q := 42) X0 hx (hb hby at_38) (by decide) (by decide) ?_
          refine ow_istore (q := 44) X0 hx (L' := #[iv p0, iv p1, iv p2, iv p3, iv p4, iv p5, iv (3 : Int32), iv v63, iv p2, .unset, .unset]) (hb hby at_42) rfl rfl ?_
          exact cut44_64 p2 _ _ X0 e0 N0 
        · refine ow_icmpYes (q := 41) X0 hx (hb hby at_34) (Jvm.Free.XT.ii_ne_t hc34_91) (by decide) (by decide) ?_
          refine ow_iloadN (q := 42) X0 hx (hb hby at_41) rfl rfl ?_
          refine ow_istore (q := 44) X0 hx (L' := #[iv p0, iv p1, iv p2, iv p3, iv p4, iv p5, iv (3 : Int32), iv v63, iv p3, .unset, .unset]) (hb hby at_42) rfl rfl ?_
          exact cut44_64 p3 _ _ X0 e0 N0 
set_option maxRecDepth 65536 in
set_option maxHeartbeats 40000000 in
theorem comes_1 {Post : Tables → Env → Array Value → State → Outcome → State → Prop} (hpost : ∀ tb e args s v u, (limb_1_1.after args s (.returned v) u = true ∧ limb_1_2.after args s (.returned v) u = true ∧ True) → FrameEnd s (.returned v) u (Jvm.fieldLocs frame_1_writes args s ++ Jvm.arrayLocs frame_1_arrays args s ++ Jvm.staticLocs frame_1_statics s) 16 128 → Post tb e args s (.returned v) u) :
    ArmFor flags0 classFile x code maxLocals ret World_1 tables_1 room_1 Calls_1 rest_1 Pre_1 Post := by
  intro l hfl _ _ p e ha hc hk s m args below hf hA hF happ hP
  obtain ⟨hcalls, hrest, hpre⟩ := hP
  obtain ⟨-, -, -, hnamed, -, -, -, hat⟩ := (Spec.applies_iff hf).mp happ
  obtain ⟨hg, hn⟩ := and_e (Cond.before_iff.mp (show (Jvm.Cond.and given_1 narrow_1).before args s = true from hpre))
  obtain ⟨gg1, gg2⟩ := and_e hg
  obtain ⟨gg3, gg4⟩ := and_e gg2
  obtain ⟨gg5, gg6⟩ := and_e gg4
  obtain ⟨gg7, gg8⟩ := and_e gg6
  obtain ⟨gg9, gg10⟩ := and_e gg8
  obtain ⟨gg11, gg12⟩ := and_e gg10
  obtain ⟨w0, w1, w2, w3, w4, w5, rfl⟩ : ∃ w0 w1 w2 w3 w4 w5 : Value, args = #[w0, w1, w2, w3, w4, w5] := by
    have hs : args.size = 6 := by simpa [Cond.value, given_1] using gg1
    obtain ⟨L⟩ := args
    match L, hs with
    | [w0, w1, w2, w3, w4, w5], _ => exact ⟨w0, w1, w2, w3, w4, w5, rfl⟩
  have hw := fun d (hd : d ∈ tables_1) => atoms_spec (ws := Jvm.Cond.code x code maxLocals ret :: tables_1) hat d (List.mem_cons_of_mem _ hd)
  have hfit : Fit s := fun {y c} hc i hi => by
    obtain ⟨ha, rfl⟩ := Array.getElem?_eq_some_iff.mp hc
    have q := List.all_eq_true.mp ((Array.all_eq_true_iff_forall_mem.mp hF) _ (Array.getElem_mem ha)) i (List.mem_range.mpr hi)
    simpa [Array.getElem?_eq_getElem hi] using q
  obtain ⟨i0, ei0⟩ := is_v gg3
  obtain rfl : w0 = (.int i0) := Option.some.inj ei0
  obtain ⟨i1, ei1⟩ := is_v gg5
  obtain rfl : w1 = (.int i1) := Option.some.inj ei1
  obtain ⟨i2, ei2⟩ := is_v gg7
  obtain rfl : w2 = (.int i2) := Option.some.inj ei2
  obtain ⟨i3, ei3⟩ := is_v gg9
  obtain rfl : w3 = (.int i3) := Option.some.inj ei3
  obtain ⟨i4, ei4⟩ := is_v gg11
  obtain rfl : w4 = (.int i4) := Option.some.inj ei4
  obtain ⟨i5, ei5⟩ := is_v gg12
  obtain rfl : w5 = (.int i5) := Option.some.inj ei5
  obtain ⟨n, o, h1, h2, h3, _, L, rfl, ⟨rfl, N⟩, hq⟩ := rm_law l s _ hw tables_1 i0 i1 i2 i3 i4 i5  s.heap s.heap.size (Nat.le_refl _)  p e ha hc hk s m _ below hf ((Spec.applies_iff_loose hf).mp happ).1 ⟨rfl, State.Warmed39.refl s, rfl⟩ trivial
  refine ⟨n, _, h1, h2, h3, hpost _ _ _ _ _ _ ⟨Cond.after_iff.mpr rfl, Cond.after_iff.mpr (eq_i res_at (Term.int_eval (1)) rfl), trivial⟩ ⟨hq.1, hq.2.1, (hq.2.2.sift fun y hy => Or.inr (N y hy)).mono (by decide) (by decide)⟩⟩
theorem main_1_1 : Claimed_1_1 := comes_1 fun _ _ _ _ _ _ h hF => ⟨h.1, hF⟩
theorem main_1_2 : Claimed_1_2 := comes_1 fun _ _ _ _ _ _ h hF => ⟨h.2.1, hF⟩
end Jvm.Pilot.@@N@@
namespace Jvm.Pilot.@@N@@
open Jvm Jvm.ClassFile Sem Op Lib Jvm.Free Jvm.Stand Jvm.Pilot.@@N@@.Jvm.D
/-! MADE BY PROGRAM (witnessworld.py) out of the Statement's table words and the real class files: 9 classes; the members and pool entries that the words name. The judged class is class 1, her method 1. -/
namespace start1
open Jvm.ClassFile
def u (s : String) : CpInfo := .utf8 (stringToUtf16 s)
/-- a pool by its gaps: so many unusable entries, then the entry; so many at the end -/
def gap : Nat → List CpInfo → List CpInfo
  | 0, r => r
  | n + 1, r => .unusable :: gap n r
def poolList (es : List (Nat × CpInfo)) (last : Nat) : List CpInfo := es.foldr (fun e r => gap e.1 (e.2 :: r)) (gap last [])
def pool (es : List (Nat × CpInfo)) (last : Nat) : Array CpInfo := ⟨poolList es last⟩
def fileOf (pool : Array CpInfo) (this : Nat) (attrs : Array Attribute := #[]) (ms : Array MethodInfo := #[]) (fl : Nat := 33) (sup : Nat := 0) (ifs : Array Nat := #[]) (fds : Array FieldInfo := #[]) : ClassFile where
  minorVersion := 0
  majorVersion := 65
  constantPool := pool
  accessFlags := fl
  thisClass := this
  superClass := sup
  interfaces := ifs
  fields := fds
  methods := ms
  attributes := attrs
def plain (name : String) (sup : Option ClassId) : Class where
  name := name
  kind := .ordinary
  loader := none
  accessFlags := 33
  super := sup
  interfaces := #[]
  cf := none
  fields := #[]
  methods := #[]
  instanceTypes := #[]
  staticTypes := #[]
  resolved := #[]
  callSites := []
  init := .initialized
  statics := none
  mirror := none

def pool0 : Array CpInfo := pool [(5, u "<init>"), (0, u "()V"), (1, .class_ 10), (1, u "java/lang/Object")] 113

def k0c0 : Code := { maxStack := 0, maxLocals := 1, code := object_method_1_code, exceptionTable := #[], attributes := #[] }
def k0m0 : Method := { name := "<init>", desc := "()V", sig := { parameters := [], returnType := none }, accessFlags := 1, code := some k0c0 }
/-- java/lang/Object -/
def k0 : Class := { plain "java/lang/Object" none with
  accessFlags := 33
  interfaces := #[]
  cf := some (fileOf pool0 8 #[] #[{ accessFlags := 1, nameIndex := 5, descriptorIndex := 6, attributes := #[] }] 33 0 #[] #[])
  fields := #[]
  methods := #[k0m0]
  instanceTypes := #[]
  staticTypes := #[]
  resolved := Array.replicate 124 none
  statics := none }

def pool1 : Array CpInfo := pool [(2, .class_ 4), (0, .nameAndType 5 6), (0, u "java/lang/Object"), (0, u "<init>"), (0, u "()V"), (0, .class_ 8), (0, u "com/example/vellum4/vellum4/PatternCode"), (0, .methodref 7 3), (0, .methodref 7 11), (0, .nameAndType 12 13), (0, u "emitUnchecked"), (0, u "(III)I"), (0, .methodref 7 15), (0, .nameAndType 16 17), (0, u "contains"), (0, u "(I)Z"), (0, .fieldref 7 19), (0, .nameAndType 20 21), (0, u "size"), (0, u "I"), (0, .class_ 23), (0, u "com/example/vellum4/vellum4/PatternCodeContainsPinLaw"), (2, u "law"), (0, u "(IIIIII)Z")] 3

def k1m0 : Method := { name := "<init>", desc := "()V", sig := { parameters := [], returnType := none }, accessFlags := 1, code := none }
def k1c1 : Code := { maxStack := 4, maxLocals := 11, code := code, exceptionTable := #[], attributes := #[] }
def k1m1 : Method := { name := "law", desc := "(IIIIII)Z", sig := { parameters := [.int, .int, .int, .int, .int, .int], returnType := some .boolean }, accessFlags := 9, code := some k1c1 }
/-- com/example/vellum4/vellum4/PatternCodeContainsPinLaw -/
def k1 : Class := { plain "com/example/vellum4/vellum4/PatternCodeContainsPinLaw" (some 0) with
  accessFlags := 49
  interfaces := #[]
  cf := some (fileOf pool1 22 #[] #[{ accessFlags := 1, nameIndex := 5, descriptorIndex := 6, attributes := #[] }, { accessFlags := 9, nameIndex := 26, descriptorIndex := 27, attributes := #[] }] 49 2 #[] #[])
  fields := #[]
  methods := #[k1m0, k1m1]
  instanceTypes := #[]
  staticTypes := #[]
  resolved := Array.replicate 31 none
  statics := none }

def pool2 : Array CpInfo := pool [(1, .methodref 2 3), (0, .class_ 4), (0, .nameAndType 5 6), (0, u "java/lang/Object"), (0, u "<init>"), (0, u "()V"), (0, .fieldref 8 9), (0, .class_ 10), (0, .nameAndType 11 12), (0, u "com/example/vellum4/vellum4/PatternCode"), (0, u "operation"), (0, u "[I"), (0, .fieldref 8 14), (0, .nameAndType 15 12), (0, u "arg"), (0, .fieldref 8 17), (0, .nameAndType 18 12), (0, u "arg2"), (0, .fieldref 8 20), (0, .nameAndType 21 22), (0, u "size"), (0, u "I"), (6, u "emitUnchecked"), (0, u "(III)I"), (9, u "(I)Z"), (8, u "MAX_INSTRUCTIONS"), (1, u "EXIT"), (8, u "contains")] 4

def k2c0 : Code := { maxStack := 2, maxLocals := 1, code := prog_15_method_1_code, exceptionTable := #[], attributes := #[] }
def k2m0 : Method := { name := "<init>", desc := "()V", sig := { parameters := [], returnType := none }, accessFlags := 0, code := some k2c0 }
def k2c1 : Code := { maxStack := 4, maxLocals := 4, code := prog_15_method_3_code, exceptionTable := #[], attributes := #[] }
def k2m1 : Method := { name := "emitUnchecked", desc := "(III)I", sig := { parameters := [.int, .int, .int], returnType := some .int }, accessFlags := 0, code := some k2c1 }
def k2c2 : Code := { maxStack := 2, maxLocals := 4, code := prog_15_method_6_code, exceptionTable := #[], attributes := #[] }
def k2m2 : Method := { name := "contains", desc := "(I)Z", sig := { parameters := [.int], returnType := some .boolean }, accessFlags := 0, code := some k2c2 }
/-- com/example/vellum4/vellum4/PatternCode -/
def k2 : Class := { plain "com/example/vellum4/vellum4/PatternCode" (some 0) with
  accessFlags := 32
  interfaces := #[]
  cf := some (fileOf pool2 8 #[] #[{ accessFlags := 0, nameIndex := 5, descriptorIndex := 6, attributes := #[] }, { accessFlags := 0, nameIndex := 29, descriptorIndex := 30, attributes := #[] }, { accessFlags := 0, nameIndex := 60, descriptorIndex := 40, attributes := #[] }] 32 2 #[] #[{ accessFlags := 24, nameIndex := 49, descriptorIndex := 22, attributes := #[] }, { accessFlags := 24, nameIndex := 51, descriptorIndex := 22, attributes := #[] }, { accessFlags := 0, nameIndex := 11, descriptorIndex := 12, attributes := #[] }, { accessFlags := 0, nameIndex := 15, descriptorIndex := 12, attributes := #[] }, { accessFlags := 0, nameIndex := 18, descriptorIndex := 12, attributes := #[] }, { accessFlags := 0, nameIndex := 21, descriptorIndex := 22, attributes := #[] }])
  fields := #[{ name := "MAX_INSTRUCTIONS", type := .int, accessFlags := 24, slot := 0, constantValue := 0 }, { name := "EXIT", type := .int, accessFlags := 24, slot := 1, constantValue := 0 }, { name := "operation", type := (.array .int), accessFlags := 0, slot := 0, constantValue := 0 }, { name := "arg", type := (.array .int), accessFlags := 0, slot := 1, constantValue := 0 }, { name := "arg2", type := (.array .int), accessFlags := 0, slot := 2, constantValue := 0 }, { name := "size", type := .int, accessFlags := 0, slot := 3, constantValue := 0 }]
  methods := #[k2m0, k2m1, k2m2]
  instanceTypes := #[(.array .int), (.array .int), (.array .int), .int]
  staticTypes := #[.int, .int]
  resolved := Array.replicate 65 none
  statics := none }

def pool3 : Array CpInfo := pool [(1, u "java/lang/Cloneable"), (0, .class_ 1), (0, u "java/lang/Object"), (0, .class_ 3)] 3

/-- java/lang/Cloneable -/
def k3 : Class := { plain "java/lang/Cloneable" (some 0) with
  accessFlags := 1537
  interfaces := #[]
  cf := some (fileOf pool3 2 #[] #[] 1537 4 #[] #[])
  fields := #[]
  methods := #[]
  instanceTypes := #[]
  staticTypes := #[]
  resolved := Array.replicate 8 none
  statics := none }

def pool4 : Array CpInfo := pool [(1, u "java/io/Serializable"), (0, .class_ 1), (0, u "java/lang/Object"), (0, .class_ 3)] 3

/-- java/io/Serializable -/
def k4 : Class := { plain "java/io/Serializable" (some 0) with
  accessFlags := 1537
  interfaces := #[]
  cf := some (fileOf pool4 2 #[] #[] 1537 4 #[] #[])
  fields := #[]
  methods := #[]
  instanceTypes := #[]
  staticTypes := #[]
  resolved := Array.replicate 8 none
  statics := none }

/-- the primitive byte -/
def k5 : Class := { plain "byte" none with kind := .primitive 'B', accessFlags := 0x411 }
/-- [B -/
def k6 : Class := { plain "[B" (some 0) with kind := .array 5 .byte, interfaces := #[3, 4], accessFlags := 1041 }

/-- the primitive int -/
def k7 : Class := { plain "int" none with kind := .primitive 'I', accessFlags := 0x411 }
/-- [I -/
def k8 : Class := { plain "[I" (some 0) with kind := .array 7 .int, interfaces := #[3, 4], accessFlags := 1041 }

def heap : Heap := #[]
def classes : Array Class := #[k0, k1, k2, k3, k4, k5, k6, k7, k8]
def interned : List (Array UInt16 × Addr) := []
def slotsUsed : Nat := 0
def theMethod : MethodId := ⟨1, 1⟩
def args0 : Array Value := #[.int 5, .int 5, .int 5, .int 5, .int 5, .int 5]
def aboutOver (below : List Frame) : State where
  vm := { classes := classes, interned := interned.toArray }
  heap := heap
  slotsUsed := slotsUsed
  threads := #[{ frames := .invoking theMethod args0 :: below }]
def below0 : List Frame := [.native { method := ⟨0, 0⟩, args := #[] }]
def about1 : State := aboutOver below0
def p0 : Program := .bare "" "" ""
def e0 : Env := launch0.env 0 0 0
theorem w_frames : about1.frames = Frame.invoking theMethod args0 :: below0 := rfl
set_option maxRecDepth 65536 in
theorem w_args : argsFit about1.vm theMethod args0 = true := by decide +kernel
set_option maxRecDepth 65536 in
theorem w_heap : heapFits about1 = true := by decide +kernel
set_option maxRecDepth 65536 in
theorem w_runnable : about1.curStatus? = some .runnable := by decide +kernel
set_option maxRecDepth 65536 in
theorem w_alone : about1.alone = true := by decide +kernel
set_option maxRecDepth 65536 in
theorem w_named : about1.methodNamed? x = some theMethod := by decide +kernel
set_option maxRecDepth 65536 in
theorem w_hears : about1.hears theMethod below0 = true := by decide +kernel
set_option maxRecDepth 65536 in
theorem w_ripe : about1.ripe theMethod args0 below0 = true := by decide +kernel
theorem w_running : about1.status = .running := rfl
set_option maxRecDepth 65536 in
theorem w_room : about1.hasRoom e0.platform room_1 = true :=
  launch0.hasRoom_least _ room_1 (by decide +kernel) (by decide +kernel) (by decide +kernel) (by decide +kernel) (by decide +kernel) (by decide +kernel)
theorem allAtoms_all (ts : List Jvm.Cond) (a : Array Jvm.Value) (st : Jvm.State) : (allAtoms ts).before a st = ts.all (fun c => c.before a st) := by
  induction ts with
  | nil => rfl
  | cons c t ih =>
    show (Jvm.Cond.and c (allAtoms t)).before a st = _
    rw [Jvm.Cond.before_and, ih, List.all_cons]
def words1 : List Jvm.Cond := Jvm.Cond.code x code maxLocals ret :: tables_1
/-- a 'code' word, met by the world's own term for the bytes: nothing is compared byte by byte -/
theorem code_word {y : MethodName} {bytes : ByteArray} {mx : Nat} {rt : Option FieldType} {a : Array Value} {s : State} {m : MethodId} {meth : Method} {c : Code} (h1 : s.methodNamed? y = some m) (h2 : s.vm.method? m = some meth) (h3 : meth.code = some c) (h4 : c.code = bytes)
    (h5 : (c.maxLocals == mx && c.exceptionTable.isEmpty && decide (c.maxStack ≤ mostOperands) && decide (meth.sig.returnType = rt) && !meth.locks && decide (parseMethodDescriptor y.desc = some meth.sig)) = true) : (Jvm.Cond.code y bytes mx rt).before a s = true := by
  simp only [Bool.and_eq_true, beq_iff_eq, Bool.not_eq_true', decide_eq_true_eq] at h5
  obtain ⟨⟨⟨⟨⟨g1, g2⟩, g3⟩, g4⟩, g5⟩, g6⟩ := h5
  simp [Cond.before, Cond.holds, Cond.value, h1, h2, h3, h4, g1, g2, g3, g4, g5, g6]
def isCode : Jvm.Cond → Bool
  | .code _ _ _ _ => true
  | _ => false
theorem all_split {L : List Jvm.Cond} {P : Jvm.Cond → Bool} (h1 : L.all (fun c => isCode c || P c) = true) (h2 : ∀ c ∈ L.filter isCode, P c = true) : L.all P = true := by
  refine List.all_eq_true.mpr fun c hc => ?_
  have h := List.all_eq_true.mp h1 c hc
  rcases Bool.eq_false_or_eq_true (isCode c) with hi | hi
  · exact h2 c (List.mem_filter.mpr ⟨hc, hi⟩)
  · simpa [hi] using h
set_option maxRecDepth 65536 in
theorem w_c0 : (Jvm.Cond.code x code maxLocals ret).before args0 about1 = true := code_word (m := ⟨1, 1⟩) (meth := k1m1) (c := k1c1) (by decide +kernel) rfl rfl rfl (by decide +kernel)
set_option maxRecDepth 65536 in
theorem w_c1 : (Jvm.Cond.code ({ cls := "com/example/vellum4/vellum4/PatternCode", name := "<init>", desc := "()V" } : Jvm.MethodName) prog_15_method_1_code (1 : Nat) (Option.none : Option Jvm.ClassFile.FieldType)).before args0 about1 = true := code_word (m := ⟨2, 0⟩) (meth := k2m0) (c := k2c0) (by decide +kernel) rfl rfl rfl (by decide +kernel)
set_option maxRecDepth 65536 in
theorem w_c2 : (Jvm.Cond.code ({ cls := "java/lang/Object", name := "<init>", desc := "()V" } : Jvm.MethodName) object_method_1_code (1 : Nat) (Option.none : Option Jvm.ClassFile.FieldType)).before args0 about1 = true := code_word (m := ⟨0, 0⟩) (meth := k0m0) (c := k0c0) (by decide +kernel) rfl rfl rfl (by decide +kernel)
set_option maxRecDepth 65536 in
theorem w_c3 : (Jvm.Cond.code ({ cls := "com/example/vellum4/vellum4/PatternCode", name := "contains", desc := "(I)Z" } : Jvm.MethodName) prog_15_method_6_code (4 : Nat) (Option.some Jvm.ClassFile.FieldType.boolean)).before args0 about1 = true := code_word (m := ⟨2, 2⟩) (meth := k2m2) (c := k2c2) (by decide +kernel) rfl rfl rfl (by decide +kernel)
set_option maxRecDepth 65536 in
theorem w_c4 : (Jvm.Cond.code ({ cls := "com/example/vellum4/vellum4/PatternCode", name := "emitUnchecked", desc := "(III)I" } : Jvm.MethodName) prog_15_method_3_code (4 : Nat) (Option.some Jvm.ClassFile.FieldType.int)).before args0 about1 = true := code_word (m := ⟨2, 1⟩) (meth := k2m1) (c := k2c1) (by decide +kernel) rfl rfl rfl (by decide +kernel)
def codes1 : List Jvm.Cond := [Jvm.Cond.code x code maxLocals ret, Jvm.Cond.code ({ cls := "com/example/vellum4/vellum4/PatternCode", name := "<init>", desc := "()V" } : Jvm.MethodName) prog_15_method_1_code (1 : Nat) (Option.none : Option Jvm.ClassFile.FieldType), Jvm.Cond.code ({ cls := "java/lang/Object", name := "<init>", desc := "()V" } : Jvm.MethodName) object_method_1_code (1 : Nat) (Option.none : Option Jvm.ClassFile.FieldType), Jvm.Cond.code ({ cls := "com/example/vellum4/vellum4/PatternCode", name := "contains", desc := "(I)Z" } : Jvm.MethodName) prog_15_method_6_code (4 : Nat) (Option.some Jvm.ClassFile.FieldType.boolean), Jvm.Cond.code ({ cls := "com/example/vellum4/vellum4/PatternCode", name := "emitUnchecked", desc := "(III)I" } : Jvm.MethodName) prog_15_method_3_code (4 : Nat) (Option.some Jvm.ClassFile.FieldType.int)]
set_option maxRecDepth 65536 in
theorem codes_eq : words1.filter isCode = codes1 := rfl
theorem w_codes : ∀ c ∈ words1.filter isCode, c.before args0 about1 = true := by
  rw [codes_eq]
  intro c hc
  simp only [codes1, List.mem_cons, List.not_mem_nil, or_false] at hc
  rcases hc with rfl | rfl | rfl | rfl | rfl
  · exact w_c0
  · exact w_c1
  · exact w_c2
  · exact w_c3
  · exact w_c4
set_option maxRecDepth 65536 in
theorem w_t1 : (words1.take 24).all (fun c => isCode c || c.before args0 about1) = true := by decide +kernel
set_option maxRecDepth 65536 in
theorem w_t2 : (words1.drop 24).all (fun c => isCode c || c.before args0 about1) = true := by decide +kernel
theorem w_tables : (allAtoms (Jvm.Cond.code x code maxLocals ret :: tables_1)).before args0 about1 = true := by
  rw [allAtoms_all]
  show words1.all (fun c => c.before args0 about1) = true
  refine all_split ?_ w_codes
  rw [← List.take_append_drop 24 words1, List.all_append, w_t1, w_t2]
  rfl
set_option maxRecDepth 65536 in
theorem w_case : (Jvm.Cond.and given_1 narrow_1).before args0 about1 = true := by decide +kernel
theorem w_applies : (headSpec (Jvm.Cond.code x code maxLocals ret :: tables_1) room_1).applies x e0.platform about1 = true :=
  (Spec.applies_iff w_frames).mpr ⟨w_running, w_runnable, w_alone, w_named, w_hears, w_ripe, w_room, w_tables⟩
theorem atStart : AtStart classFile x code maxLocals ret World_1 tables_1 room_1 Calls_1 rest_1 Pre_1 launch0 p0 e0 about1 theMethod args0 below0 :=
  ⟨lists_1, trivial, launch0.admits_env _ _ _, launch0.least_env, fairChoices_fair.cas, fairChoices_fair.clock, w_frames, w_args, w_heap, w_applies, trivial, trivial, w_case⟩
end start1
theorem witness_1 : WitnessClaimed_1 := ⟨start1.p0, start1.e0, start1.about1, start1.theMethod, start1.args0, start1.below0, start1.atStart⟩
end Jvm.Pilot.@@N@@
