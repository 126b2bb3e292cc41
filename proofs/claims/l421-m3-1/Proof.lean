import JvmDerived
import JvmDerived.Pilot.@@N@@Statement
import JvmDerived.Pilot.@@N@@Code
set_option linter.unusedVariables false
set_option linter.unusedSimpArgs false
namespace Jvm.Pilot.@@N@@
open Jvm Jvm.ClassFile Sem Op Lib Jvm.Free Jvm.Stand Jvm.LawKit Jvm.RoadKit Bundle Jvm.Pilot.@@N@@.Jvm.D
/-! own layer: the walk in continuation form -/
section OwnWalk
variable {p : Program} {l : Launch} {e : Env} {R : Room} {s : State} {m : MethodId} {args : Array Value} {below : List Frame} {meth : Method} {c : Code} {T T' : State} {locs : List Loc} {cells slots : Nat} {Q : Option Value → Heap → List Loc → Prop} {ck sk : Nat} {f f' : JFrame} {Z : State} {a0 : Array Value} {h h' : Heap}
/-- from this state and frame the invocation returns, and what it leaves is told by Q -/
def ownEnds (p : Program) (e : Env) (below : List Frame) (s : State) (Q : Option Value → Heap → List Loc → Prop) (ck sk : Nat) (T : State) (f : JFrame) : Prop :=
  ∃ s₂ o, Steps p.tables e below (T.setTop f) s₂ ∧ s₂.status = .running ∧ Ended s₂ below o ∧ ∃ v L, o = .returned v ∧ Q v s₂.heap L ∧ FrameEnd s o s₂ L ck sk
theorem ownGo (st : ∀ target, Steps p.tables e below (T'.setTop f') target → Steps p.tables e below (T.setTop f) target) (k : ownEnds p e below s Q ck sk T' f') : ownEnds p e below s Q ck sk T f := by
  obtain ⟨a, b, h1, h2⟩ := k
  exact ⟨a, b, st _ h1, h2⟩
theorem ownRun (st : Steps p.tables e below (T.setTop f) (T'.setTop f')) (k : ownEnds p e below s Q ck sk T' f') : ownEnds p e below s Q ck sk T f :=
  ownGo (fun _ q => st.trans q) k
theorem ownCast (q : f = f') (k : ownEnds p e below s Q ck sk T f') : ownEnds p e below s Q ck sk T f := q ▸ k
theorem ownRetI (X : Stand p l e R s m args below meth c T locs cells slots) (hx : p.tables.exec = Jvm.exec) {pc : Nat} {Ls : Array Slot} {z : Int32} {rest : List Value} (hret : meth.sig.returnType = some .int) (hd : decode c.code pc = .ok (.ireturn, 1)) (hk : meth.locks = false) (hc : cells ≤ ck) (hs : slots ≤ sk)
    (hQ : Q (some (.int z)) T.heap locs) : ownEnds p e below s Q ck sk T (mkF m pc Ls (.int z :: rest)) := by
  obtain ⟨fs, hr, hrun, hended, hW, hsame⟩ := X.leave (v := some (.int z)) (fun h => by rw [hret] at h; cases h) hk
  exact ⟨_, _, retOut X hx hret rfl (Or.inl ⟨rfl, Or.inl rfl, _, rfl⟩) hd hr, hrun, hended, _, _, rfl, hQ, ⟨_, rfl⟩, hW, hsame.mono hc hs⟩
theorem ownRetN (X : Stand p l e R s m args below meth c T locs cells slots) (hx : p.tables.exec = Jvm.exec) {pc : Nat} {Ls : Array Slot} {z r : Int32} {rest : List Value} {t : FieldType} (ht : t = .boolean ∨ t = .byte ∨ t = .char ∨ t = .short) (hret : meth.sig.returnType = some t) (hd : decode c.code pc = .ok (.ireturn, 1)) (hk : meth.locks = false) (hc : cells ≤ ck) (hs : slots ≤ sk)
    (hz : nar t z = r) (hQ : Q (some (.int r)) T.heap locs) : ownEnds p e below s Q ck sk T (mkF m pc Ls (.int z :: rest)) := by
  subst hz
  obtain ⟨fs, hr, hrun, hended, hW, hsame⟩ := X.leave (v := some (.int (nar t z))) (fun h => by rw [hret] at h; cases h) hk
  exact ⟨_, _, retN X hx hret ht hd hr, hrun, hended, _, _, rfl, hQ, ⟨_, rfl⟩, hW, hsame.mono hc hs⟩
theorem ownRetJ (X : Stand p l e R s m args below meth c T locs cells slots) (hx : p.tables.exec = Jvm.exec) {pc : Nat} {Ls : Array Slot} {z : Int64} {rest : List Value} (hret : meth.sig.returnType = some .long) (hd : decode c.code pc = .ok (.lreturn, 1)) (hk : meth.locks = false) (hc : cells ≤ ck) (hs : slots ≤ sk)
    (hQ : Q (some (.long z)) T.heap locs) : ownEnds p e below s Q ck sk T (mkF m pc Ls (.long z :: rest)) := by
  obtain ⟨fs, hr, hrun, hended, hW, hsame⟩ := X.leave (v := some (.long z)) (fun h => by rw [hret] at h; cases h) hk
  exact ⟨_, _, retOut X hx hret rfl (Or.inr (Or.inl ⟨rfl, rfl, _, rfl⟩)) hd hr, hrun, hended, _, _, rfl, hQ, ⟨_, rfl⟩, hW, hsame.mono hc hs⟩
theorem ownRetR (X : Stand p l e R s m args below meth c T locs cells slots) (hx : p.tables.exec = Jvm.exec) {pc : Nat} {Ls : Array Slot} {w : Value} {rest : List Value} {t : FieldType} (ht : t.isReference = true) (hn : narrow t w = w) (hw : w.isRef = true) (hret : meth.sig.returnType = some t) (hd : decode c.code pc = .ok (.areturn, 1)) (hk : meth.locks = false) (hc : cells ≤ ck) (hs : slots ≤ sk)
    (hQ : Q (some w) T.heap locs) : ownEnds p e below s Q ck sk T (mkF m pc Ls (w :: rest)) := by
  obtain ⟨fs, hr, hrun, hended, hW, hsame⟩ := X.leave (v := some w) (fun h => by rw [hret] at h; cases h) hk
  exact ⟨_, _, retOut X hx hret hn (Or.inr (Or.inr (Or.inr (Or.inr ⟨rfl, ht, hw⟩)))) hd hr, hrun, hended, _, _, rfl, hQ, ⟨_, rfl⟩, hW, hsame.mono hc hs⟩
theorem ownRetV (X : Stand p l e R s m args below meth c T locs cells slots) (hx : p.tables.exec = Jvm.exec) {pc : Nat} {Ls : Array Slot} (hret : meth.sig.returnType = none) (hd : decode c.code pc = .ok (.return_, 1)) (hk : meth.locks = false) (hc : cells ≤ ck) (hs : slots ≤ sk)
    (hQ : Q none T.heap locs) : ownEnds p e below s Q ck sk T (mkF m pc Ls []) := by
  obtain ⟨fs, hr, hrun, hended, hW, hsame⟩ := X.leave (v := none) (fun _ => rfl) hk
  exact ⟨_, _, X.returnOut hx hret hd hr, hrun, hended, _, _, rfl, hQ, ⟨_, rfl⟩, hW, hsame.mono hc hs⟩
/-- one place of a function turned -/
def ownUpd {α : Type} (f : Nat → α) (j : Nat) (x : α) : Nat → α := fun i => if i = j then x else f i
theorem ownUpd_same {α : Type} (f : Nat → α) (j : Nat) (x : α) : ownUpd f j x j = x := if_pos rfl
theorem ownUpd_ne {α : Type} (f : Nat → α) {i j : Nat} (x : α) (q : i ≠ j) : ownUpd f j x i = f i := if_neg q
/-- an array of ints (or bytes, chars ..): its length and its components -/
def ownAI (Z : State) (h : Heap) (a : Addr) (ty : FieldType) (n : Nat) (g : Nat → Int32) : Prop := ∃ cl : Cell, Arr Z h a cl ty ∧ cl.slots.size = n ∧ n < 2 ^ 31 ∧ ∀ i, i < n → cl.slots[i]? = some (.int (g i))
/-- an array of longs -/
def ownAJ (Z : State) (h : Heap) (a : Addr) (n : Nat) (g : Nat → Int64) : Prop := ∃ cl : Cell, Arr Z h a cl .long ∧ cl.slots.size = n ∧ n < 2 ^ 31 ∧ ∀ i, i < n → cl.slots[i]? = some (.long (g i))
variable {a b : Addr} {ty : FieldType} {n : Nat} {gi : Nat → Int32} {gj : Nat → Int64} {ws : List Addr} {sl : Nat} {v : Value}
theorem ownAI.lt (F : ownAI Z h a ty n gi) : a < h.size := by obtain ⟨c, A, -⟩ := F; exact A.lt
theorem ownAI.ext (F : ownAI Z h a ty n gi) (E : Ext h h') : ownAI Z h' a ty n gi := by obtain ⟨c, A, r⟩ := F; exact ⟨c, A.ext E, r⟩
theorem ownAI.other (F : ownAI Z h b ty n gi) (W : Wr h h' a sl v) (q : b ≠ a) : ownAI Z h' b ty n gi := by obtain ⟨c, A, r⟩ := F; exact ⟨c, A.other W q, r⟩
theorem ownAI.keep (F : ownAI Z h a ty n gi) (K : Keep h h' ws) (q : a ∉ ws) : ownAI Z h' a ty n gi := by obtain ⟨c, A, r⟩ := F; exact ⟨c, ⟨K.2.1 a c A.1 q, A.2⟩, r⟩
theorem ownAJ.lt (F : ownAJ Z h a n gj) : a < h.size := by obtain ⟨c, A, -⟩ := F; exact A.lt
theorem ownAJ.ext (F : ownAJ Z h a n gj) (E : Ext h h') : ownAJ Z h' a n gj := by obtain ⟨c, A, r⟩ := F; exact ⟨c, A.ext E, r⟩
theorem ownAJ.other (F : ownAJ Z h b n gj) (W : Wr h h' a sl v) (q : b ≠ a) : ownAJ Z h' b n gj := by obtain ⟨c, A, r⟩ := F; exact ⟨c, A.other W q, r⟩
theorem ownAJ.keep (F : ownAJ Z h a n gj) (K : Keep h h' ws) (q : a ∉ ws) : ownAJ Z h' a n gj := by obtain ⟨c, A, r⟩ := F; exact ⟨c, ⟨K.2.1 a c A.1 q, A.2⟩, r⟩
theorem ownAI.new {k : ClassId} {z : Int32} (A : Arr Z h a (newA k ty z) ty) (q : ¬ z < 0) (d : defaultValue ty = .int 0) (N : z.toNatClampNeg = n) : ownAI Z h a ty n (fun _ => 0) := by
  subst N
  refine ⟨_, A, sz_new _ _ _, (back32 q).2, fun i hi => ?_⟩
  simp [newA, hi, d]
theorem ownAJ.new {k : ClassId} {z : Int32} (A : Arr Z h a (newA k .long z) .long) (q : ¬ z < 0) (N : z.toNatClampNeg = n) : ownAJ Z h a n (fun _ => 0) := by
  subst N
  refine ⟨_, A, sz_new _ _ _, (back32 q).2, fun i hi => ?_⟩
  simp [newA, hi, defaultValue]
theorem ownAI.set (F : ownAI Z h a ty n gi) {j : Nat} {x : Int32} (W : Wr h h' a j (.int x)) : ownAI Z h' a ty n (ownUpd gi j x) := by
  obtain ⟨cl, A, S, N, H⟩ := F
  refine ⟨_, A.same W, by simpa [Cell.setSlot] using S, N, fun i hi => ?_⟩
  by_cases e : i = j
  · subst e; simp [Cell.setSlot, ownUpd, S, hi]
  · rw [ownUpd_ne _ _ e]
    show (cl.slots.setIfInBounds j (.int x))[i]? = _
    rw [Array.getElem?_setIfInBounds_ne (Ne.symm e)]; exact H i hi
theorem ownAJ.set (F : ownAJ Z h a n gj) {j : Nat} {x : Int64} (W : Wr h h' a j (.long x)) : ownAJ Z h' a n (ownUpd gj j x) := by
  obtain ⟨cl, A, S, N, H⟩ := F
  refine ⟨_, A.same W, by simpa [Cell.setSlot] using S, N, fun i hi => ?_⟩
  by_cases e : i = j
  · subst e; simp [Cell.setSlot, ownUpd, S, hi]
  · rw [ownUpd_ne _ _ e]
    show (cl.slots.setIfInBounds j (.long x))[i]? = _
    rw [Array.getElem?_setIfInBounds_ne (Ne.symm e)]; exact H i hi
/-- an index is inside -/
def ownIn (j : Int32) (n : Nat) : Prop := ¬ (j < 0 ∨ n ≤ j.toNatClampNeg)
theorem ownIn_of {j : Int32} {n : Nat} (h1 : 0 ≤ j.toInt) (h2 : j.toInt < n) : ownIn j n := by
  intro q
  rcases q with q | q
  · rw [Int32.lt_iff_toInt_lt] at q; simp only [Int32.reduceToInt] at q; omega
  · simp only [Int32.toNatClampNeg] at q; omega
theorem ownIaload (F : ownAI Z h a .int n gi) (X : Stand p l e R s m args below meth c T locs cells slots) (hx : p.tables.exec = Jvm.exec) (hZ : Z.Warmed39 s.vm) (eT : T.heap = h) {j : Int32} (hin : ownIn j n) {g : JFrame} (hg : g.method = m) {rest : List Value} (hs : g.stack = .int j :: .ref a :: rest) (hd : decode c.code g.pc = .ok (.iaload, 1)) :
    ∀ target, Steps p.tables e below (T.setTop { g with pc := g.pc + 1, stack := .int (gi j.toNatClampNeg) :: rest }) target → Steps p.tables e below (T.setTop g) target := by
  obtain ⟨cl, A, S, N, H⟩ := F
  subst S
  exact fun t k => X.iaload hx (by rw [eT]; exact A.1) (State.isArrayOf_alike hZ.alike A.2.1) A.2.2 hin (H _ (Nat.lt_of_not_le fun q => hin (Or.inr q))) hg hs hd t k
theorem ownBaload (F : ownAI Z h a .byte n gi) (X : Stand p l e R s m args below meth c T locs cells slots) (hx : p.tables.exec = Jvm.exec) (hZ : Z.Warmed39 s.vm) (eT : T.heap = h) {j : Int32} (hin : ownIn j n) {g : JFrame} (hg : g.method = m) {rest : List Value} (hs : g.stack = .int j :: .ref a :: rest) (hd : decode c.code g.pc = .ok (.baload, 1)) :
    ∀ target, Steps p.tables e below (T.setTop { g with pc := g.pc + 1, stack := .int (gi j.toNatClampNeg) :: rest }) target → Steps p.tables e below (T.setTop g) target := by
  obtain ⟨cl, A, S, N, H⟩ := F
  subst S
  exact fun t k => X.baloadBytes hx (by rw [eT]; exact A.1) (State.isArrayOf_alike hZ.alike A.2.1) A.2.2 hin (H _ (Nat.lt_of_not_le fun q => hin (Or.inr q))) hg hs hd t k
theorem ownCaload (F : ownAI Z h a .char n gi) (X : Stand p l e R s m args below meth c T locs cells slots) (hx : p.tables.exec = Jvm.exec) (hZ : Z.Warmed39 s.vm) (eT : T.heap = h) {j : Int32} (hin : ownIn j n) {g : JFrame} (hg : g.method = m) {rest : List Value} (hs : g.stack = .int j :: .ref a :: rest) (hd : decode c.code g.pc = .ok (.caload, 1)) :
    ∀ target, Steps p.tables e below (T.setTop { g with pc := g.pc + 1, stack := .int (gi j.toNatClampNeg) :: rest }) target → Steps p.tables e below (T.setTop g) target := by
  obtain ⟨cl, A, S, N, H⟩ := F
  subst S
  exact fun t k => X.caload hx (by rw [eT]; exact A.1) (State.isArrayOf_alike hZ.alike A.2.1) A.2.2 hin (H _ (Nat.lt_of_not_le fun q => hin (Or.inr q))) hg hs hd t k
theorem ownLaload (F : ownAJ Z h a n gj) (X : Stand p l e R s m args below meth c T locs cells slots) (hx : p.tables.exec = Jvm.exec) (hZ : Z.Warmed39 s.vm) (eT : T.heap = h) {j : Int32} (hin : ownIn j n) {g : JFrame} (hg : g.method = m) {rest : List Value} (hs : g.stack = .int j :: .ref a :: rest) (hd : decode c.code g.pc = .ok (.laload, 1)) :
    ∀ target, Steps p.tables e below (T.setTop { g with pc := g.pc + 1, stack := .long (gj j.toNatClampNeg) :: rest }) target → Steps p.tables e below (T.setTop g) target := by
  obtain ⟨cl, A, S, N, H⟩ := F
  subst S
  exact fun t k => X.laload hx (by rw [eT]; exact A.1) (State.isArrayOf_alike hZ.alike A.2.1) A.2.2 hin (H _ (Nat.lt_of_not_le fun q => hin (Or.inr q))) hg hs hd t k
theorem ownLenI (F : ownAI Z h a ty n gi) (X : Stand p l e R s m args below meth c T locs cells slots) (hx : p.tables.exec = Jvm.exec) (hZ : Z.Warmed39 s.vm) (eT : T.heap = h) {z : Int32} (hz : n.toInt32 = z) {g : JFrame} (hg : g.method = m) {rest : List Value} (hs : g.stack = .ref a :: rest) (hd : decode c.code g.pc = .ok (.arraylength, 1)) :
    ∀ target, Steps p.tables e below (T.setTop { g with pc := g.pc + 1, stack := .int z :: rest }) target → Steps p.tables e below (T.setTop g) target := by
  obtain ⟨cl, A, S, N, H⟩ := F
  subst S hz
  exact fun t k => X.arraylength hx (by rw [eT]; exact A.1) (State.isArrayOf_alike hZ.alike A.2.1) hg hs hd t k
theorem ownLenJ (F : ownAJ Z h a n gj) (X : Stand p l e R s m args below meth c T locs cells slots) (hx : p.tables.exec = Jvm.exec) (hZ : Z.Warmed39 s.vm) (eT : T.heap = h) {z : Int32} (hz : n.toInt32 = z) {g : JFrame} (hg : g.method = m) {rest : List Value} (hs : g.stack = .ref a :: rest) (hd : decode c.code g.pc = .ok (.arraylength, 1)) :
    ∀ target, Steps p.tables e below (T.setTop { g with pc := g.pc + 1, stack := .int z :: rest }) target → Steps p.tables e below (T.setTop g) target := by
  obtain ⟨cl, A, S, N, H⟩ := F
  subst S hz
  exact fun t k => X.arraylength hx (by rw [eT]; exact A.1) (State.isArrayOf_alike hZ.alike A.2.1) hg hs hd t k
theorem ownIastore (F : ownAI Z h a .int n gi) (X : Stand p l e R s m args below meth c T locs cells slots) (hx : p.tables.exec = Jvm.exec) (hZ : Z.Warmed39 s.vm) (eT : T.heap = h) {j x : Int32} (hin : ownIn j n) {g : JFrame} (hg : g.method = m) {rest : List Value} (hs : g.stack = .int x :: .int j :: .ref a :: rest) (hd : decode c.code g.pc = .ok (.iastore, 1)) :
    ∃ T' h', Stand p l e R s m args below meth c T' (locs ++ [⟨a, j.toNatClampNeg⟩]) cells slots ∧ T'.heap = h' ∧ Wr h h' a j.toNatClampNeg (.int x) ∧ ownAI Z h' a .int n (ownUpd gi j.toNatClampNeg x) ∧ ∀ target, Steps p.tables e below (T'.setTop { g with pc := g.pc + 1, stack := rest }) target → Steps p.tables e below (T.setTop g) target := by
  obtain ⟨cl, A, S, r⟩ := id F
  obtain ⟨T', h', X', e', W, st⟩ := stI X hx hZ eT A (j := j) (by rw [S]; exact hin) hg hs hd
  exact ⟨T', h', X', e', W, F.set W, st⟩
theorem ownBastore (F : ownAI Z h a .byte n gi) (X : Stand p l e R s m args below meth c T locs cells slots) (hx : p.tables.exec = Jvm.exec) (hZ : Z.Warmed39 s.vm) (eT : T.heap = h) {j x : Int32} (hin : ownIn j n) {g : JFrame} (hg : g.method = m) {rest : List Value} (hs : g.stack = .int x :: .int j :: .ref a :: rest) (hd : decode c.code g.pc = .ok (.bastore, 1)) :
    ∃ T' h', Stand p l e R s m args below meth c T' (locs ++ [⟨a, j.toNatClampNeg⟩]) cells slots ∧ T'.heap = h' ∧ Wr h h' a j.toNatClampNeg (.int (nar .byte x)) ∧ ownAI Z h' a .byte n (ownUpd gi j.toNatClampNeg (nar .byte x)) ∧ ∀ target, Steps p.tables e below (T'.setTop { g with pc := g.pc + 1, stack := rest }) target → Steps p.tables e below (T.setTop g) target := by
  obtain ⟨cl, A, S, r⟩ := id F
  obtain ⟨T', h', X', e', W, st⟩ := stB X hx hZ eT A (j := j) (by rw [S]; exact hin) hg hs hd
  exact ⟨T', h', X', e', W, F.set W, st⟩
theorem ownCastore (F : ownAI Z h a .char n gi) (X : Stand p l e R s m args below meth c T locs cells slots) (hx : p.tables.exec = Jvm.exec) (hZ : Z.Warmed39 s.vm) (eT : T.heap = h) {j x : Int32} (hin : ownIn j n) {g : JFrame} (hg : g.method = m) {rest : List Value} (hs : g.stack = .int x :: .int j :: .ref a :: rest) (hd : decode c.code g.pc = .ok (.castore, 1)) :
    ∃ T' h', Stand p l e R s m args below meth c T' (locs ++ [⟨a, j.toNatClampNeg⟩]) cells slots ∧ T'.heap = h' ∧ Wr h h' a j.toNatClampNeg (.int (nar .char x)) ∧ ownAI Z h' a .char n (ownUpd gi j.toNatClampNeg (nar .char x)) ∧ ∀ target, Steps p.tables e below (T'.setTop { g with pc := g.pc + 1, stack := rest }) target → Steps p.tables e below (T.setTop g) target := by
  obtain ⟨cl, A, S, r⟩ := id F
  obtain ⟨T', h', X', e', W, st⟩ := stC X hx hZ eT A (j := j) (by rw [S]; exact hin) hg hs hd
  exact ⟨T', h', X', e', W, F.set W, st⟩
theorem ownLastore (F : ownAJ Z h a n gj) (X : Stand p l e R s m args below meth c T locs cells slots) (hx : p.tables.exec = Jvm.exec) (hZ : Z.Warmed39 s.vm) (eT : T.heap = h) {j : Int32} {x : Int64} (hin : ownIn j n) {g : JFrame} (hg : g.method = m) {rest : List Value} (hs : g.stack = .long x :: .int j :: .ref a :: rest) (hd : decode c.code g.pc = .ok (.lastore, 1)) :
    ∃ T' h', Stand p l e R s m args below meth c T' (locs ++ [⟨a, j.toNatClampNeg⟩]) cells slots ∧ T'.heap = h' ∧ Wr h h' a j.toNatClampNeg (.long x) ∧ ownAJ Z h' a n (ownUpd gj j.toNatClampNeg x) ∧ ∀ target, Steps p.tables e below (T'.setTop { g with pc := g.pc + 1, stack := rest }) target → Steps p.tables e below (T.setTop g) target := by
  obtain ⟨cl, A, S, r⟩ := id F
  obtain ⟨T', h', X', e', W, st⟩ := stJ X hx hZ eT A (j := j) (by rw [S]; exact hin) hg hs hd
  exact ⟨T', h', X', e', W, F.set W, st⟩
theorem own_narb {x v : Int32} (h : x.toInt8.toInt32 = v) : nar .byte v = v := by subst h; simp [nar]
theorem own_narc {x v : Int32} (h : x.toUInt32.toUInt16.toUInt32.toInt32 = v) : nar .char v = v := by subst h; simp only [nar, UInt32.toUInt32_toInt32, UInt16.toUInt16_toUInt32]
theorem own_evInt {args : Array Value} {t : Term} {k : Int32} (h : (Cond.eq t (.int k)).value args s none s [] = some true) : t.eval args s none [] s = some (.int k) := by
  simp only [Cond.value, Term.eval] at h
  cases ht : t.eval args s none [] s with
  | none => simp [ht] at h
  | some x => cases x <;> simp [ht] at h ⊢; exact h
theorem own_fldInt {args : Array Value} {t : Term} {C n d : String} {k : Int32} {x : Addr} (h : (Cond.eq (.field t C n d) (.int k)).value args s none s [] = some true) (ht : t.eval args s none [] s = some (.ref x)) : Fld s s.heap x C n d (.int k) :=
  Fld.start ((fld_at ht).symm.trans (own_evInt h))
end OwnWalk
section OwnSteps
variable {p : Program} {l : Launch} {e : Env} {R : Room} {s : State} {m : MethodId} {args : Array Value} {below : List Frame} {meth : Method} {c : Code} {T : State} {locs : List Loc} {cells slots : Nat} {Q : Option Value → Heap → List Loc → Prop} {ck sk : Nat}
theorem ow_iloadN (X : Stand p l e R s m args below meth c T locs cells slots) (hx : p.tables.exec = Jvm.exec) {pc q : Nat} {Ls : Array Slot} {S : List Value} {k : Fin 4} {v : Int32} (hd : decode c.code pc = .ok (.iload_n k, 1)) (hq : pc + 1 = q) (hl : Ls[k.val]? = some (.val (.int v))) (k : ownEnds p e below s Q ck sk T (mkF m q Ls (.int v :: S))) : ownEnds p e below s Q ck sk T (mkF m pc Ls S) := by
  subst hq
  exact ownGo (fun _ k => XS.iloadN X.here hx rfl hd hl k) k
theorem ow_iload (X : Stand p l e R s m args below meth c T locs cells slots) (hx : p.tables.exec = Jvm.exec) {pc q : Nat} {Ls : Array Slot} {S : List Value} {k : Nat} {v : Int32} (hd : decode c.code pc = .ok (.iload k, 2)) (hq : pc + 2 = q) (hl : Ls[k]? = some (.val (.int v))) (k : ownEnds p e below s Q ck sk T (mkF m q Ls (.int v :: S))) : ownEnds p e below s Q ck sk T (mkF m pc Ls S) := by
  subst hq
  exact ownGo (fun _ k => XS.iload X.here hx rfl hd hl k) k
theorem ow_istoreN (X : Stand p l e R s m args below meth c T locs cells slots) (hx : p.tables.exec = Jvm.exec) {pc q : Nat} {Ls : Array Slot} {S : List Value} {k : Fin 4} {v : Int32} {L' : Array Slot} (hd : decode c.code pc = .ok (.istore_n k, 1)) (hq : pc + 1 = q) (hl : storeLocals Ls k.val (.int v) = some L') (k : ownEnds p e below s Q ck sk T (mkF m q L' S)) : ownEnds p e below s Q ck sk T (mkF m pc Ls (.int v :: S)) := by
  subst hq
  exact ownGo (fun _ k => XS.istoreN X.here hx rfl hd rfl hl k) k
theorem ow_istore (X : Stand p l e R s m args below meth c T locs cells slots) (hx : p.tables.exec = Jvm.exec) {pc q : Nat} {Ls : Array Slot} {S : List Value} {k : Nat} {v : Int32} {L' : Array Slot} (hd : decode c.code pc = .ok (.istore k, 2)) (hq : pc + 2 = q) (hl : storeLocals Ls k (.int v) = some L') (k : ownEnds p e below s Q ck sk T (mkF m q L' S)) : ownEnds p e below s Q ck sk T (mkF m pc Ls (.int v :: S)) := by
  subst hq
  exact ownGo (fun _ k => XS.istore X.here hx rfl hd rfl hl k) k
theorem ow_lloadN (X : Stand p l e R s m args below meth c T locs cells slots) (hx : p.tables.exec = Jvm.exec) {pc q : Nat} {Ls : Array Slot} {S : List Value} {k : Fin 4} {v : Int64} (hd : decode c.code pc = .ok (.lload_n k, 1)) (hq : pc + 1 = q) (hl : Ls[k.val]? = some (.val (.long v))) (k : ownEnds p e below s Q ck sk T (mkF m q Ls (.long v :: S))) : ownEnds p e below s Q ck sk T (mkF m pc Ls S) := by
  subst hq
  exact ownGo (fun _ k => XS.lloadN X.here hx rfl hd hl k) k
theorem ow_lload (X : Stand p l e R s m args below meth c T locs cells slots) (hx : p.tables.exec = Jvm.exec) {pc q : Nat} {Ls : Array Slot} {S : List Value} {k : Nat} {v : Int64} (hd : decode c.code pc = .ok (.lload k, 2)) (hq : pc + 2 = q) (hl : Ls[k]? = some (.val (.long v))) (k : ownEnds p e below s Q ck sk T (mkF m q Ls (.long v :: S))) : ownEnds p e below s Q ck sk T (mkF m pc Ls S) := by
  subst hq
  exact ownGo (fun _ k => XS.lload X.here hx rfl hd hl k) k
theorem ow_lstoreN (X : Stand p l e R s m args below meth c T locs cells slots) (hx : p.tables.exec = Jvm.exec) {pc q : Nat} {Ls : Array Slot} {S : List Value} {k : Fin 4} {v : Int64} {L' : Array Slot} (hd : decode c.code pc = .ok (.lstore_n k, 1)) (hq : pc + 1 = q) (hl : storeLocals Ls k.val (.long v) = some L') (k : ownEnds p e below s Q ck sk T (mkF m q L' S)) : ownEnds p e below s Q ck sk T (mkF m pc Ls (.long v :: S)) := by
  subst hq
  exact ownGo (fun _ k => XS.lstoreN X.here hx rfl hd rfl hl k) k
theorem ow_lstore (X : Stand p l e R s m args below meth c T locs cells slots) (hx : p.tables.exec = Jvm.exec) {pc q : Nat} {Ls : Array Slot} {S : List Value} {k : Nat} {v : Int64} {L' : Array Slot} (hd : decode c.code pc = .ok (.lstore k, 2)) (hq : pc + 2 = q) (hl : storeLocals Ls k (.long v) = some L') (k : ownEnds p e below s Q ck sk T (mkF m q L' S)) : ownEnds p e below s Q ck sk T (mkF m pc Ls (.long v :: S)) := by
  subst hq
  exact ownGo (fun _ k => XS.lstore X.here hx rfl hd rfl hl k) k
theorem ow_aloadN (X : Stand p l e R s m args below meth c T locs cells slots) (hx : p.tables.exec = Jvm.exec) {pc q : Nat} {Ls : Array Slot} {S : List Value} {k : Fin 4} {v : Value} (hd : decode c.code pc = .ok (.aload_n k, 1)) (hq : pc + 1 = q) (hl : Ls[k.val]? = some (.val v)) (hv : v.isRef = true) (k : ownEnds p e below s Q ck sk T (mkF m q Ls (v :: S))) : ownEnds p e below s Q ck sk T (mkF m pc Ls S) := by
  subst hq
  exact ownGo (fun _ k => XS.aloadN X.here hx rfl hd hl hv k) k
theorem ow_aload (X : Stand p l e R s m args below meth c T locs cells slots) (hx : p.tables.exec = Jvm.exec) {pc q : Nat} {Ls : Array Slot} {S : List Value} {k : Nat} {v : Value} (hd : decode c.code pc = .ok (.aload k, 2)) (hq : pc + 2 = q) (hl : Ls[k]? = some (.val v)) (hv : v.isRef = true) (k : ownEnds p e below s Q ck sk T (mkF m q Ls (v :: S))) : ownEnds p e below s Q ck sk T (mkF m pc Ls S) := by
  subst hq
  exact ownGo (fun _ k => XS.aload X.here hx rfl hd hl hv k) k
theorem ow_astoreN (X : Stand p l e R s m args below meth c T locs cells slots) (hx : p.tables.exec = Jvm.exec) {pc q : Nat} {Ls : Array Slot} {S : List Value} {k : Fin 4} {v : Value} {L' : Array Slot} (hd : decode c.code pc = .ok (.astore_n k, 1)) (hq : pc + 1 = q) (hv : v.isRef = true) (hl : storeLocals Ls k.val v = some L') (k : ownEnds p e below s Q ck sk T (mkF m q L' S)) : ownEnds p e below s Q ck sk T (mkF m pc Ls (v :: S)) := by
  subst hq
  exact ownGo (fun _ k => XS.astoreN X.here hx rfl hd rfl hv hl k) k
theorem ow_astore (X : Stand p l e R s m args below meth c T locs cells slots) (hx : p.tables.exec = Jvm.exec) {pc q : Nat} {Ls : Array Slot} {S : List Value} {k : Nat} {v : Value} {L' : Array Slot} (hd : decode c.code pc = .ok (.astore k, 2)) (hq : pc + 2 = q) (hv : v.isRef = true) (hl : storeLocals Ls k v = some L') (k : ownEnds p e below s Q ck sk T (mkF m q L' S)) : ownEnds p e below s Q ck sk T (mkF m pc Ls (v :: S)) := by
  subst hq
  exact ownGo (fun _ k => XS.astore X.here hx rfl hd rfl hv hl k) k
theorem ow_iconst (X : Stand p l e R s m args below meth c T locs cells slots) (hx : p.tables.exec = Jvm.exec) {pc q : Nat} {Ls : Array Slot} {S : List Value} {i : Int} (v : Int32) (hd : decode c.code pc = .ok (.iconst i, 1)) (hq : pc + 1 = q) (hz : Int32.ofInt i = v) (k : ownEnds p e below s Q ck sk T (mkF m q Ls (.int v :: S))) : ownEnds p e below s Q ck sk T (mkF m pc Ls S) := by
  subst hq hz
  exact ownGo (fun _ k => XS.iconst X.here hx rfl hd k) k
theorem ow_bipush (X : Stand p l e R s m args below meth c T locs cells slots) (hx : p.tables.exec = Jvm.exec) {pc q : Nat} {Ls : Array Slot} {S : List Value} {i : Int} (v : Int32) (hd : decode c.code pc = .ok (.bipush i, 2)) (hq : pc + 2 = q) (hz : (Int8.ofInt i).toInt32 = v) (k : ownEnds p e below s Q ck sk T (mkF m q Ls (.int v :: S))) : ownEnds p e below s Q ck sk T (mkF m pc Ls S) := by
  subst hq hz
  exact ownGo (fun _ k => XS.bipush X.here hx rfl hd k) k
theorem ow_sipush (X : Stand p l e R s m args below meth c T locs cells slots) (hx : p.tables.exec = Jvm.exec) {pc q : Nat} {Ls : Array Slot} {S : List Value} {i : Int} (v : Int32) (hd : decode c.code pc = .ok (.sipush i, 3)) (hq : pc + 3 = q) (hz : (Int16.ofInt i).toInt32 = v) (k : ownEnds p e below s Q ck sk T (mkF m q Ls (.int v :: S))) : ownEnds p e below s Q ck sk T (mkF m pc Ls S) := by
  subst hq hz
  exact ownGo (fun _ k => XS.sipush X.here hx rfl hd k) k
theorem ow_lconst (X : Stand p l e R s m args below meth c T locs cells slots) (hx : p.tables.exec = Jvm.exec) {pc q : Nat} {Ls : Array Slot} {S : List Value} {i : Fin 2} (v : Int64) (hd : decode c.code pc = .ok (.lconst i, 1)) (hq : pc + 1 = q) (hz : Int64.ofNat i = v) (k : ownEnds p e below s Q ck sk T (mkF m q Ls (.long v :: S))) : ownEnds p e below s Q ck sk T (mkF m pc Ls S) := by
  subst hq hz
  exact ownGo (fun _ k => XS.lconst X.here hx rfl hd k) k
theorem ow_iadd (X : Stand p l e R s m args below meth c T locs cells slots) (hx : p.tables.exec = Jvm.exec) {pc q : Nat} {Ls : Array Slot} {S : List Value} {x y : Int32} (z : Int32) (hd : decode c.code pc = .ok (.iadd, 1)) (hq : pc + 1 = q) (hz : x + y = z) (k : ownEnds p e below s Q ck sk T (mkF m q Ls (.int z :: S))) : ownEnds p e below s Q ck sk T (mkF m pc Ls (.int y :: .int x :: S)) := by
  subst hq hz
  exact ownGo (fun _ k => XS.iadd X.here hx rfl hd rfl k) k
theorem ow_ladd (X : Stand p l e R s m args below meth c T locs cells slots) (hx : p.tables.exec = Jvm.exec) {pc q : Nat} {Ls : Array Slot} {S : List Value} {x y : Int64} (z : Int64) (hd : decode c.code pc = .ok (.ladd, 1)) (hq : pc + 1 = q) (hz : x + y = z) (k : ownEnds p e below s Q ck sk T (mkF m q Ls (.long z :: S))) : ownEnds p e below s Q ck sk T (mkF m pc Ls (.long y :: .long x :: S)) := by
  subst hq hz
  exact ownGo (fun _ k => XS.ladd X.here hx rfl hd rfl k) k
theorem ow_isub (X : Stand p l e R s m args below meth c T locs cells slots) (hx : p.tables.exec = Jvm.exec) {pc q : Nat} {Ls : Array Slot} {S : List Value} {x y : Int32} (z : Int32) (hd : decode c.code pc = .ok (.isub, 1)) (hq : pc + 1 = q) (hz : x - y = z) (k : ownEnds p e below s Q ck sk T (mkF m q Ls (.int z :: S))) : ownEnds p e below s Q ck sk T (mkF m pc Ls (.int y :: .int x :: S)) := by
  subst hq hz
  exact ownGo (fun _ k => XS.isub X.here hx rfl hd rfl k) k
theorem ow_lsub (X : Stand p l e R s m args below meth c T locs cells slots) (hx : p.tables.exec = Jvm.exec) {pc q : Nat} {Ls : Array Slot} {S : List Value} {x y : Int64} (z : Int64) (hd : decode c.code pc = .ok (.lsub, 1)) (hq : pc + 1 = q) (hz : x - y = z) (k : ownEnds p e below s Q ck sk T (mkF m q Ls (.long z :: S))) : ownEnds p e below s Q ck sk T (mkF m pc Ls (.long y :: .long x :: S)) := by
  subst hq hz
  exact ownGo (fun _ k => XS.lsub X.here hx rfl hd rfl k) k
theorem ow_imul (X : Stand p l e R s m args below meth c T locs cells slots) (hx : p.tables.exec = Jvm.exec) {pc q : Nat} {Ls : Array Slot} {S : List Value} {x y : Int32} (z : Int32) (hd : decode c.code pc = .ok (.imul, 1)) (hq : pc + 1 = q) (hz : x * y = z) (k : ownEnds p e below s Q ck sk T (mkF m q Ls (.int z :: S))) : ownEnds p e below s Q ck sk T (mkF m pc Ls (.int y :: .int x :: S)) := by
  subst hq hz
  exact ownGo (fun _ k => XS.imul X.here hx rfl hd rfl k) k
theorem ow_lmul (X : Stand p l e R s m args below meth c T locs cells slots) (hx : p.tables.exec = Jvm.exec) {pc q : Nat} {Ls : Array Slot} {S : List Value} {x y : Int64} (z : Int64) (hd : decode c.code pc = .ok (.lmul, 1)) (hq : pc + 1 = q) (hz : x * y = z) (k : ownEnds p e below s Q ck sk T (mkF m q Ls (.long z :: S))) : ownEnds p e below s Q ck sk T (mkF m pc Ls (.long y :: .long x :: S)) := by
  subst hq hz
  exact ownGo (fun _ k => XS.lmul X.here hx rfl hd rfl k) k
theorem ow_iand (X : Stand p l e R s m args below meth c T locs cells slots) (hx : p.tables.exec = Jvm.exec) {pc q : Nat} {Ls : Array Slot} {S : List Value} {x y : Int32} (z : Int32) (hd : decode c.code pc = .ok (.iand, 1)) (hq : pc + 1 = q) (hz : x &&& y = z) (k : ownEnds p e below s Q ck sk T (mkF m q Ls (.int z :: S))) : ownEnds p e below s Q ck sk T (mkF m pc Ls (.int y :: .int x :: S)) := by
  subst hq hz
  exact ownGo (fun _ k => XS.iand X.here hx rfl hd rfl k) k
theorem ow_land (X : Stand p l e R s m args below meth c T locs cells slots) (hx : p.tables.exec = Jvm.exec) {pc q : Nat} {Ls : Array Slot} {S : List Value} {x y : Int64} (z : Int64) (hd : decode c.code pc = .ok (.land, 1)) (hq : pc + 1 = q) (hz : x &&& y = z) (k : ownEnds p e below s Q ck sk T (mkF m q Ls (.long z :: S))) : ownEnds p e below s Q ck sk T (mkF m pc Ls (.long y :: .long x :: S)) := by
  subst hq hz
  exact ownGo (fun _ k => XS.land X.here hx rfl hd rfl k) k
theorem ow_ior (X : Stand p l e R s m args below meth c T locs cells slots) (hx : p.tables.exec = Jvm.exec) {pc q : Nat} {Ls : Array Slot} {S : List Value} {x y : Int32} (z : Int32) (hd : decode c.code pc = .ok (.ior, 1)) (hq : pc + 1 = q) (hz : x ||| y = z) (k : ownEnds p e below s Q ck sk T (mkF m q Ls (.int z :: S))) : ownEnds p e below s Q ck sk T (mkF m pc Ls (.int y :: .int x :: S)) := by
  subst hq hz
  exact ownGo (fun _ k => XS.ior X.here hx rfl hd rfl k) k
theorem ow_lor (X : Stand p l e R s m args below meth c T locs cells slots) (hx : p.tables.exec = Jvm.exec) {pc q : Nat} {Ls : Array Slot} {S : List Value} {x y : Int64} (z : Int64) (hd : decode c.code pc = .ok (.lor, 1)) (hq : pc + 1 = q) (hz : x ||| y = z) (k : ownEnds p e below s Q ck sk T (mkF m q Ls (.long z :: S))) : ownEnds p e below s Q ck sk T (mkF m pc Ls (.long y :: .long x :: S)) := by
  subst hq hz
  exact ownGo (fun _ k => XS.lor X.here hx rfl hd rfl k) k
theorem ow_ixor (X : Stand p l e R s m args below meth c T locs cells slots) (hx : p.tables.exec = Jvm.exec) {pc q : Nat} {Ls : Array Slot} {S : List Value} {x y : Int32} (z : Int32) (hd : decode c.code pc = .ok (.ixor, 1)) (hq : pc + 1 = q) (hz : x ^^^ y = z) (k : ownEnds p e below s Q ck sk T (mkF m q Ls (.int z :: S))) : ownEnds p e below s Q ck sk T (mkF m pc Ls (.int y :: .int x :: S)) := by
  subst hq hz
  exact ownGo (fun _ k => XS.ixor X.here hx rfl hd rfl k) k
theorem ow_lxor (X : Stand p l e R s m args below meth c T locs cells slots) (hx : p.tables.exec = Jvm.exec) {pc q : Nat} {Ls : Array Slot} {S : List Value} {x y : Int64} (z : Int64) (hd : decode c.code pc = .ok (.lxor, 1)) (hq : pc + 1 = q) (hz : x ^^^ y = z) (k : ownEnds p e below s Q ck sk T (mkF m q Ls (.long z :: S))) : ownEnds p e below s Q ck sk T (mkF m pc Ls (.long y :: .long x :: S)) := by
  subst hq hz
  exact ownGo (fun _ k => XS.lxor X.here hx rfl hd rfl k) k
theorem ow_ishl (X : Stand p l e R s m args below meth c T locs cells slots) (hx : p.tables.exec = Jvm.exec) {pc q : Nat} {Ls : Array Slot} {S : List Value} {x y : Int32} (z : Int32) (hd : decode c.code pc = .ok (.ishl, 1)) (hq : pc + 1 = q) (hz : x <<< (y &&& 31) = z) (k : ownEnds p e below s Q ck sk T (mkF m q Ls (.int z :: S))) : ownEnds p e below s Q ck sk T (mkF m pc Ls (.int y :: .int x :: S)) := by
  subst hq hz
  exact ownGo (fun _ k => XS.ishl X.here hx rfl hd rfl k) k
theorem ow_ishr (X : Stand p l e R s m args below meth c T locs cells slots) (hx : p.tables.exec = Jvm.exec) {pc q : Nat} {Ls : Array Slot} {S : List Value} {x y : Int32} (z : Int32) (hd : decode c.code pc = .ok (.ishr, 1)) (hq : pc + 1 = q) (hz : x >>> (y &&& 31) = z) (k : ownEnds p e below s Q ck sk T (mkF m q Ls (.int z :: S))) : ownEnds p e below s Q ck sk T (mkF m pc Ls (.int y :: .int x :: S)) := by
  subst hq hz
  exact ownGo (fun _ k => XS.ishr X.here hx rfl hd rfl k) k
theorem ow_iushr (X : Stand p l e R s m args below meth c T locs cells slots) (hx : p.tables.exec = Jvm.exec) {pc q : Nat} {Ls : Array Slot} {S : List Value} {x y : Int32} (z : Int32) (hd : decode c.code pc = .ok (.iushr, 1)) (hq : pc + 1 = q) (hz : (x.toUInt32 >>> (y &&& 31).toUInt32).toInt32 = z) (k : ownEnds p e below s Q ck sk T (mkF m q Ls (.int z :: S))) : ownEnds p e below s Q ck sk T (mkF m pc Ls (.int y :: .int x :: S)) := by
  subst hq hz
  exact ownGo (fun _ k => XS.iushr X.here hx rfl hd rfl k) k
theorem ow_lshl (X : Stand p l e R s m args below meth c T locs cells slots) (hx : p.tables.exec = Jvm.exec) {pc q : Nat} {Ls : Array Slot} {S : List Value} {x : Int64} {y : Int32} (z : Int64) (hd : decode c.code pc = .ok (.lshl, 1)) (hq : pc + 1 = q) (hz : x <<< (y &&& 0x3f).toInt64 = z) (k : ownEnds p e below s Q ck sk T (mkF m q Ls (.long z :: S))) : ownEnds p e below s Q ck sk T (mkF m pc Ls (.int y :: .long x :: S)) := by
  subst hq hz
  exact ownGo (fun _ k => XS.lshl X.here hx rfl hd rfl k) k
theorem ow_lshr (X : Stand p l e R s m args below meth c T locs cells slots) (hx : p.tables.exec = Jvm.exec) {pc q : Nat} {Ls : Array Slot} {S : List Value} {x : Int64} {y : Int32} (z : Int64) (hd : decode c.code pc = .ok (.lshr, 1)) (hq : pc + 1 = q) (hz : x >>> (y &&& 0x3f).toInt64 = z) (k : ownEnds p e below s Q ck sk T (mkF m q Ls (.long z :: S))) : ownEnds p e below s Q ck sk T (mkF m pc Ls (.int y :: .long x :: S)) := by
  subst hq hz
  exact ownGo (fun _ k => XS.lshr X.here hx rfl hd rfl k) k
theorem ow_lushr (X : Stand p l e R s m args below meth c T locs cells slots) (hx : p.tables.exec = Jvm.exec) {pc q : Nat} {Ls : Array Slot} {S : List Value} {x : Int64} {y : Int32} (z : Int64) (hd : decode c.code pc = .ok (.lushr, 1)) (hq : pc + 1 = q) (hz : (x.toUInt64 >>> (y &&& 0x3f).toInt64.toUInt64).toInt64 = z) (k : ownEnds p e below s Q ck sk T (mkF m q Ls (.long z :: S))) : ownEnds p e below s Q ck sk T (mkF m pc Ls (.int y :: .long x :: S)) := by
  subst hq hz
  exact ownGo (fun _ k => XS.lushr X.here hx rfl hd rfl k) k
theorem ow_ineg (X : Stand p l e R s m args below meth c T locs cells slots) (hx : p.tables.exec = Jvm.exec) {pc q : Nat} {Ls : Array Slot} {S : List Value} {x : Int32} (z : Int32) (hd : decode c.code pc = .ok (.ineg, 1)) (hq : pc + 1 = q) (hz : -x = z) (k : ownEnds p e below s Q ck sk T (mkF m q Ls (.int z :: S))) : ownEnds p e below s Q ck sk T (mkF m pc Ls (.int x :: S)) := by
  subst hq hz
  exact ownGo (fun _ k => XS.ineg X.here hx rfl hd rfl k) k
theorem ow_lneg (X : Stand p l e R s m args below meth c T locs cells slots) (hx : p.tables.exec = Jvm.exec) {pc q : Nat} {Ls : Array Slot} {S : List Value} {x : Int64} (z : Int64) (hd : decode c.code pc = .ok (.lneg, 1)) (hq : pc + 1 = q) (hz : -x = z) (k : ownEnds p e below s Q ck sk T (mkF m q Ls (.long z :: S))) : ownEnds p e below s Q ck sk T (mkF m pc Ls (.long x :: S)) := by
  subst hq hz
  exact ownGo (fun _ k => XS.lneg X.here hx rfl hd rfl k) k
theorem ow_i2l (X : Stand p l e R s m args below meth c T locs cells slots) (hx : p.tables.exec = Jvm.exec) {pc q : Nat} {Ls : Array Slot} {S : List Value} {x : Int32} (z : Int64) (hd : decode c.code pc = .ok (.i2l, 1)) (hq : pc + 1 = q) (hz : x.toInt64 = z) (k : ownEnds p e below s Q ck sk T (mkF m q Ls (.long z :: S))) : ownEnds p e below s Q ck sk T (mkF m pc Ls (.int x :: S)) := by
  subst hq hz
  exact ownGo (fun _ k => XS.i2l X.here hx rfl hd rfl k) k
theorem ow_l2i (X : Stand p l e R s m args below meth c T locs cells slots) (hx : p.tables.exec = Jvm.exec) {pc q : Nat} {Ls : Array Slot} {S : List Value} {x : Int64} (z : Int32) (hd : decode c.code pc = .ok (.l2i, 1)) (hq : pc + 1 = q) (hz : x.toInt32 = z) (k : ownEnds p e below s Q ck sk T (mkF m q Ls (.int z :: S))) : ownEnds p e below s Q ck sk T (mkF m pc Ls (.long x :: S)) := by
  subst hq hz
  exact ownGo (fun _ k => XS.l2i X.here hx rfl hd rfl k) k
theorem ow_i2b (X : Stand p l e R s m args below meth c T locs cells slots) (hx : p.tables.exec = Jvm.exec) {pc q : Nat} {Ls : Array Slot} {S : List Value} {x : Int32} (z : Int32) (hd : decode c.code pc = .ok (.i2b, 1)) (hq : pc + 1 = q) (hz : x.toInt8.toInt32 = z) (k : ownEnds p e below s Q ck sk T (mkF m q Ls (.int z :: S))) : ownEnds p e below s Q ck sk T (mkF m pc Ls (.int x :: S)) := by
  subst hq hz
  exact ownGo (fun _ k => XS.i2b X.here hx rfl hd rfl k) k
theorem ow_i2s (X : Stand p l e R s m args below meth c T locs cells slots) (hx : p.tables.exec = Jvm.exec) {pc q : Nat} {Ls : Array Slot} {S : List Value} {x : Int32} (z : Int32) (hd : decode c.code pc = .ok (.i2s, 1)) (hq : pc + 1 = q) (hz : x.toInt16.toInt32 = z) (k : ownEnds p e below s Q ck sk T (mkF m q Ls (.int z :: S))) : ownEnds p e below s Q ck sk T (mkF m pc Ls (.int x :: S)) := by
  subst hq hz
  exact ownGo (fun _ k => XS.i2s X.here hx rfl hd rfl k) k
theorem ow_i2c (X : Stand p l e R s m args below meth c T locs cells slots) (hx : p.tables.exec = Jvm.exec) {pc q : Nat} {Ls : Array Slot} {S : List Value} {x : Int32} (z : Int32) (hd : decode c.code pc = .ok (.i2c, 1)) (hq : pc + 1 = q) (hz : x.toUInt32.toUInt16.toUInt32.toInt32 = z) (k : ownEnds p e below s Q ck sk T (mkF m q Ls (.int z :: S))) : ownEnds p e below s Q ck sk T (mkF m pc Ls (.int x :: S)) := by
  subst hq hz
  exact ownGo (fun _ k => XS.i2c X.here hx rfl hd rfl k) k
theorem ow_lcmp (X : Stand p l e R s m args below meth c T locs cells slots) (hx : p.tables.exec = Jvm.exec) {pc q : Nat} {Ls : Array Slot} {S : List Value} {x y : Int64} (z : Int32) (hd : decode c.code pc = .ok (.lcmp, 1)) (hq : pc + 1 = q) (hz : Jvm.Free.XT.cmpL x y = z) (k : ownEnds p e below s Q ck sk T (mkF m q Ls (.int z :: S))) : ownEnds p e below s Q ck sk T (mkF m pc Ls (.long y :: .long x :: S)) := by
  subst hq hz
  exact ownGo (fun _ k => Jvm.Free.XT.lcmp X.here hx rfl hd rfl k) k
theorem ow_idiv (X : Stand p l e R s m args below meth c T locs cells slots) (hx : p.tables.exec = Jvm.exec) {pc q : Nat} {Ls : Array Slot} {S : List Value} {x y : Int32} (z : Int32) (hd : decode c.code pc = .ok (.idiv, 1)) (hq : pc + 1 = q) (hy : y ≠ 0) (hz : x / y = z) (k : ownEnds p e below s Q ck sk T (mkF m q Ls (.int z :: S))) : ownEnds p e below s Q ck sk T (mkF m pc Ls (.int y :: .int x :: S)) := by
  subst hq hz
  exact ownGo (fun _ k => XS.idiv X.here hx rfl hd rfl hy k) k
theorem ow_irem (X : Stand p l e R s m args below meth c T locs cells slots) (hx : p.tables.exec = Jvm.exec) {pc q : Nat} {Ls : Array Slot} {S : List Value} {x y : Int32} (z : Int32) (hd : decode c.code pc = .ok (.irem, 1)) (hq : pc + 1 = q) (hy : y ≠ 0) (hz : x % y = z) (k : ownEnds p e below s Q ck sk T (mkF m q Ls (.int z :: S))) : ownEnds p e below s Q ck sk T (mkF m pc Ls (.int y :: .int x :: S)) := by
  subst hq hz
  exact ownGo (fun _ k => iremM X hx rfl hd rfl hy k) k
theorem ow_ldiv (X : Stand p l e R s m args below meth c T locs cells slots) (hx : p.tables.exec = Jvm.exec) {pc q : Nat} {Ls : Array Slot} {S : List Value} {x y : Int64} (z : Int64) (hd : decode c.code pc = .ok (.ldiv, 1)) (hq : pc + 1 = q) (hy : y ≠ 0) (hz : x / y = z) (k : ownEnds p e below s Q ck sk T (mkF m q Ls (.long z :: S))) : ownEnds p e below s Q ck sk T (mkF m pc Ls (.long y :: .long x :: S)) := by
  subst hq hz
  exact ownGo (fun _ k => XS.ldiv X.here hx rfl hd rfl hy k) k
theorem ow_lrem (X : Stand p l e R s m args below meth c T locs cells slots) (hx : p.tables.exec = Jvm.exec) {pc q : Nat} {Ls : Array Slot} {S : List Value} {x y : Int64} (z : Int64) (hd : decode c.code pc = .ok (.lrem, 1)) (hq : pc + 1 = q) (hy : y ≠ 0) (hz : x - (x / y) * y = z) (k : ownEnds p e below s Q ck sk T (mkF m q Ls (.long z :: S))) : ownEnds p e below s Q ck sk T (mkF m pc Ls (.long y :: .long x :: S)) := by
  subst hq hz
  exact ownGo (fun _ k => XS.lrem X.here hx rfl hd rfl hy k) k
theorem ow_iinc (X : Stand p l e R s m args below meth c T locs cells slots) (hx : p.tables.exec = Jvm.exec) {pc q : Nat} {Ls : Array Slot} {S : List Value} {k : Nat} {i : Int} {x : Int32} {L' : Array Slot} (hd : decode c.code pc = .ok (.iinc k i, 3)) (hq : pc + 3 = q) (hl : Ls[k]? = some (.val (.int x))) (hl' : storeLocals Ls k (.int (x + Int32.ofInt i)) = some L') (k : ownEnds p e below s Q ck sk T (mkF m q L' S)) : ownEnds p e below s Q ck sk T (mkF m pc Ls S) := by
  subst hq
  exact ownGo (fun _ k => XS.iinc X.here hx rfl hd hl hl' k) k
theorem ow_dup (X : Stand p l e R s m args below meth c T locs cells slots) (hx : p.tables.exec = Jvm.exec) {pc q : Nat} {Ls : Array Slot} {S : List Value} {v : Value} (hd : decode c.code pc = .ok (.dup, 1)) (hq : pc + 1 = q) (hc : v.category = 1) (k : ownEnds p e below s Q ck sk T (mkF m q Ls (v :: v :: S))) : ownEnds p e below s Q ck sk T (mkF m pc Ls (v :: S)) := by
  subst hq
  exact ownGo (fun _ k => XS.dup X.here hx rfl hd rfl hc k) k
theorem ow_dupX1 (X : Stand p l e R s m args below meth c T locs cells slots) (hx : p.tables.exec = Jvm.exec) {pc q : Nat} {Ls : Array Slot} {S : List Value} {v w : Value} (hd : decode c.code pc = .ok (.dup_x1, 1)) (hq : pc + 1 = q) (hc : v.category = 1) (hc' : w.category = 1) (k : ownEnds p e below s Q ck sk T (mkF m q Ls (v :: w :: v :: S))) : ownEnds p e below s Q ck sk T (mkF m pc Ls (v :: w :: S)) := by
  subst hq
  exact ownGo (fun _ k => XS.dupX1 X.here hx rfl hd rfl hc hc' k) k
theorem ow_dup2 (X : Stand p l e R s m args below meth c T locs cells slots) (hx : p.tables.exec = Jvm.exec) {pc q : Nat} {Ls : Array Slot} {S : List Value} {v w : Value} (hd : decode c.code pc = .ok (.dup2, 1)) (hq : pc + 1 = q) (hc : v.category = 1) (hc' : w.category = 1) (k : ownEnds p e below s Q ck sk T (mkF m q Ls (v :: w :: v :: w :: S))) : ownEnds p e below s Q ck sk T (mkF m pc Ls (v :: w :: S)) := by
  subst hq
  exact ownGo (fun _ k => Jvm.Free.XT.dup2 X.here hx rfl hd rfl hc hc' k) k
theorem ow_dup2L (X : Stand p l e R s m args below meth c T locs cells slots) (hx : p.tables.exec = Jvm.exec) {pc q : Nat} {Ls : Array Slot} {S : List Value} {v : Int64} (hd : decode c.code pc = .ok (.dup2, 1)) (hq : pc + 1 = q) (k : ownEnds p e below s Q ck sk T (mkF m q Ls (.long v :: .long v :: S))) : ownEnds p e below s Q ck sk T (mkF m pc Ls (.long v :: S)) := by
  subst hq
  exact ownGo (fun _ k => Jvm.Free.XT.dup2L X.here hx rfl hd rfl k) k
theorem ow_pop (X : Stand p l e R s m args below meth c T locs cells slots) (hx : p.tables.exec = Jvm.exec) {pc q : Nat} {Ls : Array Slot} {S : List Value} {v : Value} (hd : decode c.code pc = .ok (.pop, 1)) (hq : pc + 1 = q) (hc : v.category = 1) (k : ownEnds p e below s Q ck sk T (mkF m q Ls S)) : ownEnds p e below s Q ck sk T (mkF m pc Ls (v :: S)) := by
  subst hq
  exact ownGo (fun _ k => XS.pop X.here hx rfl hd rfl hc k) k
theorem ow_aconstNull (X : Stand p l e R s m args below meth c T locs cells slots) (hx : p.tables.exec = Jvm.exec) {pc q : Nat} {Ls : Array Slot} {S : List Value}  (hd : decode c.code pc = .ok (.aconst_null, 1)) (hq : pc + 1 = q) (k : ownEnds p e below s Q ck sk T (mkF m q Ls (.null :: S))) : ownEnds p e below s Q ck sk T (mkF m pc Ls S) := by
  subst hq
  exact ownGo (fun _ k => XS.aconstNull X.here hx rfl hd k) k
theorem ow_goto (X : Stand p l e R s m args below meth c T locs cells slots) (hx : p.tables.exec = Jvm.exec) {pc q : Nat} {Ls : Array Slot} {S : List Value} {o : Int} (hd : decode c.code pc = .ok (.goto o, 3)) (ho : 0 ≤ (pc : Int) + o) (hp : ((pc : Int) + o).toNat = q) (k : ownEnds p e below s Q ck sk T (mkF m q Ls S)) : ownEnds p e below s Q ck sk T (mkF m pc Ls S) :=
  ownGo (fun _ k => XS.goto X.here hx rfl rfl hd ho hp k) k
theorem ow_ifYes (X : Stand p l e R s m args below meth c T locs cells slots) (hx : p.tables.exec = Jvm.exec) {pc q : Nat} {Ls : Array Slot} {S : List Value} {cd : ClassFile.Cond} {o : Int} {x : Int32} (hd : decode c.code pc = .ok (.ifCond cd o, 3)) (hc : ifCond.holds cd x = true) (ho : 0 ≤ (pc : Int) + o) (hp : ((pc : Int) + o).toNat = q) (k : ownEnds p e below s Q ck sk T (mkF m q Ls S)) : ownEnds p e below s Q ck sk T (mkF m pc Ls (.int x :: S)) :=
  ownGo (fun _ k => XS.ifYes X.here hx rfl rfl hd rfl hc ho hp k) k
theorem ow_ifNo (X : Stand p l e R s m args below meth c T locs cells slots) (hx : p.tables.exec = Jvm.exec) {pc q : Nat} {Ls : Array Slot} {S : List Value} {cd : ClassFile.Cond} {o : Int} {x : Int32} (hd : decode c.code pc = .ok (.ifCond cd o, 3)) (hq : pc + 3 = q) (hc : ifCond.holds cd x = false) (k : ownEnds p e below s Q ck sk T (mkF m q Ls S)) : ownEnds p e below s Q ck sk T (mkF m pc Ls (.int x :: S)) := by
  subst hq
  exact ownGo (fun _ k => XS.ifNo X.here hx rfl hd rfl hc k) k
theorem ow_icmpYes (X : Stand p l e R s m args below meth c T locs cells slots) (hx : p.tables.exec = Jvm.exec) {pc q : Nat} {Ls : Array Slot} {S : List Value} {cd : ClassFile.Cond} {o : Int} {x y : Int32} (hd : decode c.code pc = .ok (.if_icmp cd o, 3)) (hc : if_icmp.holds cd x y = true) (ho : 0 ≤ (pc : Int) + o) (hp : ((pc : Int) + o).toNat = q) (k : ownEnds p e below s Q ck sk T (mkF m q Ls S)) : ownEnds p e below s Q ck sk T (mkF m pc Ls (.int y :: .int x :: S)) :=
  ownGo (fun _ k => XS.icmpYes X.here hx rfl rfl hd rfl hc ho hp k) k
theorem ow_icmpNo (X : Stand p l e R s m args below meth c T locs cells slots) (hx : p.tables.exec = Jvm.exec) {pc q : Nat} {Ls : Array Slot} {S : List Value} {cd : ClassFile.Cond} {o : Int} {x y : Int32} (hd : decode c.code pc = .ok (.if_icmp cd o, 3)) (hq : pc + 3 = q) (hc : if_icmp.holds cd x y = false) (k : ownEnds p e below s Q ck sk T (mkF m q Ls S)) : ownEnds p e below s Q ck sk T (mkF m pc Ls (.int y :: .int x :: S)) := by
  subst hq
  exact ownGo (fun _ k => XS.icmpNo X.here hx rfl hd rfl hc k) k
end OwnSteps
def own_us (x : Int64) (k : Int32) : Int64 := ((x.toUInt64 >>> (k &&& 0x3f).toInt64.toUInt64).toInt64)
theorem own_us_bv (x : Int64) (k : Int32) (n : Nat) (h : ((k &&& 0x3f).toInt64.toUInt64.toBitVec % 64).toNat = n) : (own_us x k).toBitVec = x.toBitVec >>> n := by
  unfold own_us
  rw [UInt64.toBitVec_toInt64, UInt64.toBitVec_shiftRight, Int64.toBitVec_toUInt64, BitVec.ushiftRight_eq', h]
theorem own_xs (x : BitVec 64) (n : Nat) (h : 64 ≤ n + n + n) : ((x ^^^ x >>> n) ^^^ (x ^^^ x >>> n) >>> n) ^^^ (x ^^^ x >>> n) >>> (n + n) = x := by
  rw [BitVec.ushiftRight_xor_distrib, BitVec.ushiftRight_xor_distrib, ← BitVec.shiftRight_add, ← BitVec.shiftRight_add]
  rw [show x >>> (n + (n + n)) = 0#64 from by
    apply BitVec.eq_of_toNat_eq
    rw [BitVec.toNat_ushiftRight, Nat.shiftRight_eq_div_pow]
    have := x.isLt
    have h2 : 2 ^ 64 ≤ 2 ^ (n + (n + n)) := Nat.pow_le_pow_right (by decide) (by omega)
    exact Nat.div_eq_of_lt (by omega)]
  ext i hi
  simp only [BitVec.getElem_xor, BitVec.getElem_zero]
  generalize x[i] = a
  generalize (x >>> n)[i] = b
  generalize (x >>> (n + n))[i] = c
  cases a <;> cases b <;> cases c <;> rfl
theorem own_xs31 (x : Int64) : ((x ^^^ own_us x 31) ^^^ own_us (x ^^^ own_us x 31) 31) ^^^ own_us (x ^^^ own_us x 31) 62 = x := by
  apply Int64.toBitVec_inj.mp
  simp only [Int64.toBitVec_xor]
  rw [own_us_bv _ 31 31 (by decide), own_us_bv _ 62 62 (by decide)]
  simp only [Int64.toBitVec_xor]
  rw [own_us_bv _ 31 31 (by decide)]
  exact own_xs _ 31 (by decide)
theorem own_xs27 (x : Int64) : ((x ^^^ own_us x 27) ^^^ own_us (x ^^^ own_us x 27) 27) ^^^ own_us (x ^^^ own_us x 27) 54 = x := by
  apply Int64.toBitVec_inj.mp
  simp only [Int64.toBitVec_xor]
  rw [own_us_bv _ 27 27 (by decide), own_us_bv _ 54 54 (by decide)]
  simp only [Int64.toBitVec_xor]
  rw [own_us_bv _ 27 27 (by decide)]
  exact own_xs _ 27 (by decide)
theorem own_xs30 (x : Int64) : ((x ^^^ own_us x 30) ^^^ own_us (x ^^^ own_us x 30) 30) ^^^ own_us (x ^^^ own_us x 30) 60 = x := by
  apply Int64.toBitVec_inj.mp
  simp only [Int64.toBitVec_xor]
  rw [own_us_bv _ 30 30 (by decide), own_us_bv _ 60 60 (by decide)]
  simp only [Int64.toBitVec_xor]
  rw [own_us_bv _ 30 30 (by decide)]
  exact own_xs _ 30 (by decide)
def own_st (c x : Int64) : Int64 := x * ((2 : Int64) - (c * x))
def own_inv (c : Int64) : Int64 := own_st c (own_st c (own_st c (own_st c (own_st c c))))
theorem own_inv1 : (-7723592293110705685 : Int64) * own_inv (-7723592293110705685 : Int64) = 1 := by decide +kernel
theorem own_inv2 : (-4658895280553007687 : Int64) * own_inv (-4658895280553007687 : Int64) = 1 := by decide +kernel
def own_m1 (z : Int64) : Int64 := (z ^^^ own_us z 30) * (-4658895280553007687 : Int64)
def own_m2 (z : Int64) : Int64 := (z ^^^ own_us z 27) * (-7723592293110705685 : Int64)
def own_mix (z : Int64) : Int64 := own_m2 (own_m1 z) ^^^ own_us (own_m2 (own_m1 z)) 31
def own_u1 (x : Int64) : Int64 := ((x ^^^ own_us x 31) ^^^ own_us x 62) * own_inv (-7723592293110705685 : Int64)
def own_u2 (x : Int64) : Int64 := ((x ^^^ own_us x 27) ^^^ own_us x 54) * own_inv (-4658895280553007687 : Int64)
def own_u3 (x : Int64) : Int64 := (x ^^^ own_us x 30) ^^^ own_us x 60
def own_unmix (y : Int64) : Int64 := own_u3 (own_u2 (own_u1 y))
theorem own_unmix_mix (z : Int64) : own_unmix (own_mix z) = z := by
  unfold own_unmix own_mix
  have h1 : ∀ x, own_u1 (own_m2 x ^^^ own_us (own_m2 x) 31) = x ^^^ own_us x 27 := by
    intro x
    unfold own_u1
    rw [own_xs31]
    unfold own_m2
    rw [Int64.mul_assoc, own_inv1, Int64.mul_one]
  have h2 : ∀ x, own_u2 (own_m1 x ^^^ own_us (own_m1 x) 27) = x ^^^ own_us x 30 := by
    intro x
    unfold own_u2
    rw [own_xs27]
    unfold own_m1
    rw [Int64.mul_assoc, own_inv2, Int64.mul_one]
  rw [h1, h2]
  exact own_xs30 z
theorem own_pn_Draws : plainName "com/example/sieveline/sieveline/cli/Draws" = true := by first | (simp [plainName, overriddenIn]; done) | decide +kernel
theorem own_d1_0 : decode prog_4_method_1_code 0 = .ok (.aload_n 0, 1) := by decide +kernel
theorem own_d1_1 : decode prog_4_method_1_code 1 = .ok (.invokespecial 1, 3) := by decide +kernel
theorem own_d1_4 : decode prog_4_method_1_code 4 = .ok (.aload_n 0, 1) := by decide +kernel
theorem own_d1_5 : decode prog_4_method_1_code 5 = .ok (.lload_n 1, 1) := by decide +kernel
theorem own_d1_6 : decode prog_4_method_1_code 6 = .ok (.putfield 7, 3) := by decide +kernel
theorem own_d1_9 : decode prog_4_method_1_code 9 = .ok (.return_, 1) := by decide +kernel
theorem own_ef1_init (m : MethodId) (a0 : Addr) (q1 : Int64) : entryFrame m #[(.ref a0), (.long q1)] 3 = mkF m 0 #[rv a0, .val (.long q1), .second] [] := by first | (simp [entryFrame, mkF, argsToLocals, Value.category]; done) | rfl
def Q_init (Z : State) (a0 : Addr) (q1 : Int64) (u : Int64) (h0 : Heap) (n0 : Nat) (v : Option Value) (h : Heap) (L : List Loc) : Prop := v = none ∧ Fr n0 L ∧ Keep h0 h [a0] ∧ Exa Z h a0 "com/example/sieveline/sieveline/cli/Draws" ∧ Fld Z h a0 "com/example/sieveline/sieveline/cli/Draws" "state" "J" (.long q1)
set_option maxRecDepth 65536 in
set_option maxHeartbeats 40000000 in
theorem rm_init (l : Launch) (Z : State) (a0 : Array Value) (hw : ∀ d ∈ tables_1, d.before a0 Z = true) (ws : List Jvm.Cond) (a0 : Addr) (q1 : Int64) (u : Int64) (h0 : Heap) (n0 : Nat) (Z0 : n0 ≤ h0.size) (HF0 : Exa Z h0 a0 "com/example/sieveline/sieveline/cli/Draws") (HF1 : Fld Z h0 a0 "com/example/sieveline/sieveline/cli/Draws" "state" "J" (.long u)) (G_a0 : n0 ≤ a0) :
    MetFree l (⟨"com/example/sieveline/sieveline/cli/Draws", "<init>", "(J)V"⟩ : MethodName) (head1 (Jvm.Cond.code (⟨"com/example/sieveline/sieveline/cli/Draws", "<init>", "(J)V"⟩ : MethodName) prog_4_method_1_code 3 none :: ws) ({ frames := 1, cells := 0, slots := 0, locals := 12 } : Room)) (fun a U => a = #[(.ref a0), (.long q1)] ∧ Z.Warmed39 U.vm ∧ U.heap = h0) (fun _ _ _ _ _ => True) (fun _ U o U' => ∃ v L, o = .returned v ∧ (Q_init Z a0 q1 u h0 n0) v U'.heap L ∧ FrameEnd U o U' L ({ frames := 1, cells := 0, slots := 0, locals := 12 } : Room).cells ({ frames := 1, cells := 0, slots := 0, locals := 12 } : Room).slots) := by
  refine MetFree.of_bodySF (plainFor_of_name own_pn_Draws) hisR ?_
  intro p e s m args below meth c s₁ Bd hml0 hP hK
  obtain ⟨rfl, hZ, hh⟩ := hP
  have hx := Bd.exec
  have hby := Bd.bytes
  have hml : c.maxLocals = 3 := hml0
  have hown : s.vm.findClass "com/example/sieveline/sieveline/cli/Draws" = some m.cls := findClass_of_methodNamed Bd.named
  have hnm := (name_of_methodNamed Bd.named Bd.method).1
  have hlk : meth.locks = false := BodyLoose.notSynchronized Bd
  have X0 : Stand p l e ({ frames := 1, cells := 0, slots := 0, locals := 12 } : Room) s m #[(.ref a0), (.long q1)] below meth c s₁ [] 0 0 := Stand.of_body Bd
  have e0 : s₁.heap = h0 := by rw [← hh, Bd.state]; rfl
  have N0 := Fr.nil n0
  have K0 : Keep h0 h0 [a0] := Keep.refl _ _
  show ownEnds p e below s (Q_init Z a0 q1 u h0 n0) ({ frames := 1, cells := 0, slots := 0, locals := 12 } : Room).cells ({ frames := 1, cells := 0, slots := 0, locals := 12 } : Room).slots s₁ (entryFrame m #[(.ref a0), (.long q1)] 3)
  refine ownCast (own_ef1_init m a0 q1) ?_
  refine ow_aloadN (q := 1) X0 hx (hb hby own_d1_0) rfl rfl rfl ?_
  obtain ⟨T1, X1, e1, st1⟩ := initO X0 hx hZ hown (hw _ (List.mem_of_getElem? (i := 6) rfl)) (hw _ (List.mem_of_getElem? (i := 7) rfl)) (hw _ (List.mem_of_getElem? (i := 8) rfl)) e0 (g := (mkF m 1 #[rv a0, .val (.long q1), .second] [(.ref a0)])) rfl (by rw [hml]; rfl) rfl (hb hby own_d1_1) (by decide) (W := 0) (by show 2 * 0 + _ ≤ _; exact Nat.le_of_eq rfl) (by decide)
  refine ownGo (T' := T1) (f' := (mkF m 4 #[rv a0, .val (.long q1), .second] [])) (st1) ?_
  refine ow_aloadN (q := 5) X1 hx (hb hby own_d1_4) rfl rfl rfl ?_
  refine ow_lloadN (q := 6) X1 hx (hb hby own_d1_5) rfl rfl ?_
  obtain ⟨T2, h2, X2, e2, W2, st2⟩ := putF X1 hx hZ hown (host := "") (Or.inl (hw _ (List.mem_of_getElem? (i := 9) rfl))) Via.refl e1 HF1 HF0 (Or.inl (hw _ (List.mem_of_getElem? (i := 10) rfl))) (hw _ (List.mem_of_getElem? (i := 1) rfl)) (ty := .long) (by decide) rfl rfl (g := (mkF m 6 #[rv a0, .val (.long q1), .second] [(.long q1), (.ref a0)])) rfl rfl (hb hby own_d1_6)
  have N2 := Fr.snoc X2 N0 G_a0
  have K2 : Keep h0 h2 [a0] := K0.wr W2 (Or.inl (List.mem_of_getElem? (i := 0) rfl))
  have F3 : Exa Z h2 a0 "com/example/sieveline/sieveline/cli/Draws" := HF0.wr W2
  have F4 : Fld Z h2 a0 "com/example/sieveline/sieveline/cli/Draws" "state" "J" (.long q1) := HF1.same W2
  refine ownGo (T' := T2) (f' := (mkF m 9 #[rv a0, .val (.long q1), .second] [])) (st2) ?_
  refine ownRetV X2 hx Bd.returns (hb hby own_d1_9) hlk (by decide) (by decide) ?_
  rw [e2]
  exact ⟨rfl, N2, K2, F3, F4⟩
theorem own_d3_0 : decode prog_4_method_2_code 0 = .ok (.aload_n 0, 1) := by decide +kernel
theorem own_d3_1 : decode prog_4_method_2_code 1 = .ok (.dup, 1) := by decide +kernel
theorem own_d3_2 : decode prog_4_method_2_code 2 = .ok (.getfield 7, 3) := by decide +kernel
theorem own_d3_5 : decode prog_4_method_2_code 5 = .ok (.ldc2_w 13, 3) := by decide +kernel
theorem own_d3_8 : decode prog_4_method_2_code 8 = .ok (.ladd, 1) := by decide +kernel
theorem own_d3_9 : decode prog_4_method_2_code 9 = .ok (.putfield 7, 3) := by decide +kernel
theorem own_d3_12 : decode prog_4_method_2_code 12 = .ok (.aload_n 0, 1) := by decide +kernel
theorem own_d3_13 : decode prog_4_method_2_code 13 = .ok (.getfield 7, 3) := by decide +kernel
theorem own_d3_16 : decode prog_4_method_2_code 16 = .ok (.lstore_n 1, 1) := by decide +kernel
theorem own_d3_17 : decode prog_4_method_2_code 17 = .ok (.lload_n 1, 1) := by decide +kernel
theorem own_d3_18 : decode prog_4_method_2_code 18 = .ok (.lload_n 1, 1) := by decide +kernel
theorem own_d3_19 : decode prog_4_method_2_code 19 = .ok (.bipush 30, 2) := by decide +kernel
theorem own_d3_21 : decode prog_4_method_2_code 21 = .ok (.lushr, 1) := by decide +kernel
theorem own_d3_22 : decode prog_4_method_2_code 22 = .ok (.lxor, 1) := by decide +kernel
theorem own_d3_23 : decode prog_4_method_2_code 23 = .ok (.ldc2_w 15, 3) := by decide +kernel
theorem own_d3_26 : decode prog_4_method_2_code 26 = .ok (.lmul, 1) := by decide +kernel
theorem own_d3_27 : decode prog_4_method_2_code 27 = .ok (.lstore_n 1, 1) := by decide +kernel
theorem own_d3_28 : decode prog_4_method_2_code 28 = .ok (.lload_n 1, 1) := by decide +kernel
theorem own_d3_29 : decode prog_4_method_2_code 29 = .ok (.lload_n 1, 1) := by decide +kernel
theorem own_d3_30 : decode prog_4_method_2_code 30 = .ok (.bipush 27, 2) := by decide +kernel
theorem own_d3_32 : decode prog_4_method_2_code 32 = .ok (.lushr, 1) := by decide +kernel
theorem own_d3_33 : decode prog_4_method_2_code 33 = .ok (.lxor, 1) := by decide +kernel
theorem own_d3_34 : decode prog_4_method_2_code 34 = .ok (.ldc2_w 17, 3) := by decide +kernel
theorem own_d3_37 : decode prog_4_method_2_code 37 = .ok (.lmul, 1) := by decide +kernel
theorem own_d3_38 : decode prog_4_method_2_code 38 = .ok (.lstore_n 1, 1) := by decide +kernel
theorem own_d3_39 : decode prog_4_method_2_code 39 = .ok (.lload_n 1, 1) := by decide +kernel
theorem own_d3_40 : decode prog_4_method_2_code 40 = .ok (.lload_n 1, 1) := by decide +kernel
theorem own_d3_41 : decode prog_4_method_2_code 41 = .ok (.bipush 31, 2) := by decide +kernel
theorem own_d3_43 : decode prog_4_method_2_code 43 = .ok (.lushr, 1) := by decide +kernel
theorem own_d3_44 : decode prog_4_method_2_code 44 = .ok (.lxor, 1) := by decide +kernel
theorem own_d3_45 : decode prog_4_method_2_code 45 = .ok (.lreturn, 1) := by decide +kernel
theorem own_ef3_next (m : MethodId) (a0 : Addr) : entryFrame m #[(.ref a0)] 3 = mkF m 0 #[rv a0, .unset, .unset] [] := by first | (simp [entryFrame, mkF, argsToLocals, Value.category]; done) | rfl
def Q_next (Z : State) (a0 : Addr) (w : Int64) (h0 : Heap) (n0 : Nat) (v : Option Value) (h : Heap) (L : List Loc) : Prop := v = some (.long (own_mix (w + (-7046029254386353131 : Int64)))) ∧ Fr n0 L ∧ Keep h0 h [a0] ∧ Exa Z h a0 "com/example/sieveline/sieveline/cli/Draws" ∧ Fld Z h a0 "com/example/sieveline/sieveline/cli/Draws" "state" "J" (.long (w + (-7046029254386353131 : Int64)))
set_option maxRecDepth 65536 in
set_option maxHeartbeats 40000000 in
theorem rm_next (l : Launch) (Z : State) (a0 : Array Value) (hw : ∀ d ∈ tables_1, d.before a0 Z = true) (ws : List Jvm.Cond) (a0 : Addr) (w : Int64) (h0 : Heap) (n0 : Nat) (Z0 : n0 ≤ h0.size) (HF0 : Exa Z h0 a0 "com/example/sieveline/sieveline/cli/Draws") (HF1 : Fld Z h0 a0 "com/example/sieveline/sieveline/cli/Draws" "state" "J" (.long w)) (G_a0 : n0 ≤ a0) :
    MetFree l (⟨"com/example/sieveline/sieveline/cli/Draws", "next", "()J"⟩ : MethodName) (head1 (Jvm.Cond.code (⟨"com/example/sieveline/sieveline/cli/Draws", "next", "()J"⟩ : MethodName) prog_4_method_2_code 3 (some .long) :: ws) ({ frames := 0, cells := 0, slots := 0, locals := 0 } : Room)) (fun a U => a = #[(.ref a0)] ∧ Z.Warmed39 U.vm ∧ U.heap = h0) (fun _ _ _ _ _ => True) (fun _ U o U' => ∃ v L, o = .returned v ∧ (Q_next Z a0 w h0 n0) v U'.heap L ∧ FrameEnd U o U' L ({ frames := 0, cells := 0, slots := 0, locals := 0 } : Room).cells ({ frames := 0, cells := 0, slots := 0, locals := 0 } : Room).slots) := by
  refine MetFree.of_bodySF (plainFor_of_name own_pn_Draws) hisR ?_
  intro p e s m args below meth c s₁ Bd hml0 hP hK
  obtain ⟨rfl, hZ, hh⟩ := hP
  have hx := Bd.exec
  have hby := Bd.bytes
  have hml : c.maxLocals = 3 := hml0
  have hown : s.vm.findClass "com/example/sieveline/sieveline/cli/Draws" = some m.cls := findClass_of_methodNamed Bd.named
  have hnm := (name_of_methodNamed Bd.named Bd.method).1
  have hlk : meth.locks = false := BodyLoose.notSynchronized Bd
  have X0 : Stand p l e ({ frames := 0, cells := 0, slots := 0, locals := 0 } : Room) s m #[(.ref a0)] below meth c s₁ [] 0 0 := Stand.of_body Bd
  have e0 : s₁.heap = h0 := by rw [← hh, Bd.state]; rfl
  have N0 := Fr.nil n0
  have K0 : Keep h0 h0 [a0] := Keep.refl _ _
  show ownEnds p e below s (Q_next Z a0 w h0 n0) ({ frames := 0, cells := 0, slots := 0, locals := 0 } : Room).cells ({ frames := 0, cells := 0, slots := 0, locals := 0 } : Room).slots s₁ (entryFrame m #[(.ref a0)] 3)
  refine ownCast (own_ef3_next m a0) ?_
  refine ow_aloadN (q := 1) X0 hx (hb hby own_d3_0) rfl rfl rfl ?_
  refine ow_dup (q := 2) X0 hx (hb hby own_d3_1) rfl rfl ?_
  obtain ⟨T1, X1, e1, st1⟩ := getF X0 hx hZ hown (host := "") (Or.inl (hw _ (List.mem_of_getElem? (i := 9) rfl))) Via.refl e0 HF1 (g := (mkF m 2 #[rv a0, .unset, .unset] [(.ref a0), (.ref a0)])) rfl rfl (hb hby own_d3_2)
  refine ownGo (T' := T1) (f' := (mkF m 5 #[rv a0, .unset, .unset] [(.long w), (.ref a0)])) (st1) ?_
  refine ownGo (T' := T1) (f' := (mkF m 8 #[rv a0, .unset, .unset] [(.long (-7046029254386353131 : Int64)), (.long w), (.ref a0)])) (X1.ldc2Long hx hown (mvT hZ (hw _ (List.mem_of_getElem? (i := 16) rfl))) (g := (mkF m 5 #[rv a0, .unset, .unset] [(.long w), (.ref a0)])) rfl (hb hby own_d3_5)) ?_
  refine ow_ladd (q := 9) X1 hx _ (hb hby own_d3_8) rfl rfl ?_
  generalize hv_v2 : (w + (-7046029254386353131 : Int64)) = v2
  obtain ⟨T3, h3, X3, e3, W3, st3⟩ := putF X1 hx hZ hown (host := "") (Or.inl (hw _ (List.mem_of_getElem? (i := 9) rfl))) Via.refl e1 HF1 HF0 (Or.inl (hw _ (List.mem_of_getElem? (i := 10) rfl))) (hw _ (List.mem_of_getElem? (i := 1) rfl)) (ty := .long) (by decide) rfl rfl (g := (mkF m 9 #[rv a0, .unset, .unset] [(.long v2), (.ref a0)])) rfl rfl (hb hby own_d3_9)
  have N3 := Fr.snoc X3 N0 G_a0
  have K3 : Keep h0 h3 [a0] := K0.wr W3 (Or.inl (List.mem_of_getElem? (i := 0) rfl))
  have F4 : Exa Z h3 a0 "com/example/sieveline/sieveline/cli/Draws" := HF0.wr W3
  have F5 : Fld Z h3 a0 "com/example/sieveline/sieveline/cli/Draws" "state" "J" (.long v2) := HF1.same W3
  refine ownGo (T' := T3) (f' := (mkF m 12 #[rv a0, .unset, .unset] [])) (st3) ?_
  refine ow_aloadN (q := 13) X3 hx (hb hby own_d3_12) rfl rfl rfl ?_
  obtain ⟨T6, X6, e6, st6⟩ := getF X3 hx hZ hown (host := "") (Or.inl (hw _ (List.mem_of_getElem? (i := 9) rfl))) Via.refl e3 F5 (g := (mkF m 13 #[rv a0, .unset, .unset] [(.ref a0)])) rfl rfl (hb hby own_d3_13)
  refine ownGo (T' := T6) (f' := (mkF m 16 #[rv a0, .unset, .unset] [(.long v2)])) (st6) ?_
  refine ow_lstoreN (q := 17) X6 hx (L' := #[rv a0, .val (.long v2), .second]) (hb hby own_d3_16) rfl rfl ?_
  refine ow_lloadN (q := 18) X6 hx (hb hby own_d3_17) rfl rfl ?_
  refine ow_lloadN (q := 19) X6 hx (hb hby own_d3_18) rfl rfl ?_
  refine ow_bipush (q := 21) X6 hx (30 : Int32) (hb hby own_d3_19) rfl rfl ?_
  refine ow_lushr (q := 22) X6 hx _ (hb hby own_d3_21) rfl rfl ?_
  refine ow_lxor (q := 23) X6 hx _ (hb hby own_d3_22) rfl rfl ?_
  refine ownGo (T' := T6) (f' := (mkF m 26 #[rv a0, .val (.long v2), .second] [(.long (-4658895280553007687 : Int64)), (.long (v2 ^^^ ((v2.toUInt64 >>> ((30 : Int32) &&& 0x3f).toInt64.toUInt64).toInt64)))])) (X6.ldc2Long hx hown (mvT hZ (hw _ (List.mem_of_getElem? (i := 17) rfl))) (g := (mkF m 23 #[rv a0, .val (.long v2), .second] [(.long (v2 ^^^ ((v2.toUInt64 >>> ((30 : Int32) &&& 0x3f).toInt64.toUInt64).toInt64)))])) rfl (hb hby own_d3_23)) ?_
  refine ow_lmul (q := 27) X6 hx _ (hb hby own_d3_26) rfl rfl ?_
  generalize hv_v7 : ((v2 ^^^ ((v2.toUInt64 >>> ((30 : Int32) &&& 0x3f).toInt64.toUInt64).toInt64)) * (-4658895280553007687 : Int64)) = v7
  refine ow_lstoreN (q := 28) X6 hx (L' := #[rv a0, .val (.long v7), .second]) (hb hby own_d3_27) rfl rfl ?_
  refine ow_lloadN (q := 29) X6 hx (hb hby own_d3_28) rfl rfl ?_
  refine ow_lloadN (q := 30) X6 hx (hb hby own_d3_29) rfl rfl ?_
  refine ow_bipush (q := 32) X6 hx (27 : Int32) (hb hby own_d3_30) rfl rfl ?_
  refine ow_lushr (q := 33) X6 hx _ (hb hby own_d3_32) rfl rfl ?_
  refine ow_lxor (q := 34) X6 hx _ (hb hby own_d3_33) rfl rfl ?_
  refine ownGo (T' := T6) (f' := (mkF m 37 #[rv a0, .val (.long v7), .second] [(.long (-7723592293110705685 : Int64)), (.long (v7 ^^^ ((v7.toUInt64 >>> ((27 : Int32) &&& 0x3f).toInt64.toUInt64).toInt64)))])) (X6.ldc2Long hx hown (mvT hZ (hw _ (List.mem_of_getElem? (i := 18) rfl))) (g := (mkF m 34 #[rv a0, .val (.long v7), .second] [(.long (v7 ^^^ ((v7.toUInt64 >>> ((27 : Int32) &&& 0x3f).toInt64.toUInt64).toInt64)))])) rfl (hb hby own_d3_34)) ?_
  refine ow_lmul (q := 38) X6 hx _ (hb hby own_d3_37) rfl rfl ?_
  generalize hv_v8 : ((v7 ^^^ ((v7.toUInt64 >>> ((27 : Int32) &&& 0x3f).toInt64.toUInt64).toInt64)) * (-7723592293110705685 : Int64)) = v8
  refine ow_lstoreN (q := 39) X6 hx (L' := #[rv a0, .val (.long v8), .second]) (hb hby own_d3_38) rfl rfl ?_
  refine ow_lloadN (q := 40) X6 hx (hb hby own_d3_39) rfl rfl ?_
  refine ow_lloadN (q := 41) X6 hx (hb hby own_d3_40) rfl rfl ?_
  refine ow_bipush (q := 43) X6 hx (31 : Int32) (hb hby own_d3_41) rfl rfl ?_
  refine ow_lushr (q := 44) X6 hx _ (hb hby own_d3_43) rfl rfl ?_
  refine ow_lxor (q := 45) X6 hx _ (hb hby own_d3_44) rfl rfl ?_
  refine ownRetJ X6 hx Bd.returns (hb hby own_d3_45) hlk (by decide) (by decide) ?_
  subst hv_v8 hv_v7 hv_v2
  rw [e6]
  refine ⟨congrArg (fun q => some (Value.long q)) ?_, N3, K3, F4, F5⟩
  rfl
theorem own_pn_DrawsNextPinLaw : plainName "com/example/sieveline/sieveline/cli/DrawsNextPinLaw" = true := by first | (simp [plainName, overriddenIn]; done) | decide +kernel
theorem own_d5_0 : decode method_2_code 0 = .ok (.lload_n 0, 1) := by decide +kernel
theorem own_d5_1 : decode method_2_code 1 = .ok (.lstore_n 2, 1) := by decide +kernel
theorem own_d5_2 : decode method_2_code 2 = .ok (.lload_n 2, 1) := by decide +kernel
theorem own_d5_3 : decode method_2_code 3 = .ok (.ldc2_w 7, 3) := by decide +kernel
theorem own_d5_6 : decode method_2_code 6 = .ok (.lload_n 0, 1) := by decide +kernel
theorem own_d5_7 : decode method_2_code 7 = .ok (.lload_n 2, 1) := by decide +kernel
theorem own_d5_8 : decode method_2_code 8 = .ok (.lmul, 1) := by decide +kernel
theorem own_d5_9 : decode method_2_code 9 = .ok (.lsub, 1) := by decide +kernel
theorem own_d5_10 : decode method_2_code 10 = .ok (.lmul, 1) := by decide +kernel
theorem own_d5_11 : decode method_2_code 11 = .ok (.lstore_n 2, 1) := by decide +kernel
theorem own_d5_12 : decode method_2_code 12 = .ok (.lload_n 2, 1) := by decide +kernel
theorem own_d5_13 : decode method_2_code 13 = .ok (.ldc2_w 7, 3) := by decide +kernel
theorem own_d5_16 : decode method_2_code 16 = .ok (.lload_n 0, 1) := by decide +kernel
theorem own_d5_17 : decode method_2_code 17 = .ok (.lload_n 2, 1) := by decide +kernel
theorem own_d5_18 : decode method_2_code 18 = .ok (.lmul, 1) := by decide +kernel
theorem own_d5_19 : decode method_2_code 19 = .ok (.lsub, 1) := by decide +kernel
theorem own_d5_20 : decode method_2_code 20 = .ok (.lmul, 1) := by decide +kernel
theorem own_d5_21 : decode method_2_code 21 = .ok (.lstore_n 2, 1) := by decide +kernel
theorem own_d5_22 : decode method_2_code 22 = .ok (.lload_n 2, 1) := by decide +kernel
theorem own_d5_23 : decode method_2_code 23 = .ok (.ldc2_w 7, 3) := by decide +kernel
theorem own_d5_26 : decode method_2_code 26 = .ok (.lload_n 0, 1) := by decide +kernel
theorem own_d5_27 : decode method_2_code 27 = .ok (.lload_n 2, 1) := by decide +kernel
theorem own_d5_28 : decode method_2_code 28 = .ok (.lmul, 1) := by decide +kernel
theorem own_d5_29 : decode method_2_code 29 = .ok (.lsub, 1) := by decide +kernel
theorem own_d5_30 : decode method_2_code 30 = .ok (.lmul, 1) := by decide +kernel
theorem own_d5_31 : decode method_2_code 31 = .ok (.lstore_n 2, 1) := by decide +kernel
theorem own_d5_32 : decode method_2_code 32 = .ok (.lload_n 2, 1) := by decide +kernel
theorem own_d5_33 : decode method_2_code 33 = .ok (.ldc2_w 7, 3) := by decide +kernel
theorem own_d5_36 : decode method_2_code 36 = .ok (.lload_n 0, 1) := by decide +kernel
theorem own_d5_37 : decode method_2_code 37 = .ok (.lload_n 2, 1) := by decide +kernel
theorem own_d5_38 : decode method_2_code 38 = .ok (.lmul, 1) := by decide +kernel
theorem own_d5_39 : decode method_2_code 39 = .ok (.lsub, 1) := by decide +kernel
theorem own_d5_40 : decode method_2_code 40 = .ok (.lmul, 1) := by decide +kernel
theorem own_d5_41 : decode method_2_code 41 = .ok (.lstore_n 2, 1) := by decide +kernel
theorem own_d5_42 : decode method_2_code 42 = .ok (.lload_n 2, 1) := by decide +kernel
theorem own_d5_43 : decode method_2_code 43 = .ok (.ldc2_w 7, 3) := by decide +kernel
theorem own_d5_46 : decode method_2_code 46 = .ok (.lload_n 0, 1) := by decide +kernel
theorem own_d5_47 : decode method_2_code 47 = .ok (.lload_n 2, 1) := by decide +kernel
theorem own_d5_48 : decode method_2_code 48 = .ok (.lmul, 1) := by decide +kernel
theorem own_d5_49 : decode method_2_code 49 = .ok (.lsub, 1) := by decide +kernel
theorem own_d5_50 : decode method_2_code 50 = .ok (.lmul, 1) := by decide +kernel
theorem own_d5_51 : decode method_2_code 51 = .ok (.lstore_n 2, 1) := by decide +kernel
theorem own_d5_52 : decode method_2_code 52 = .ok (.lload_n 2, 1) := by decide +kernel
theorem own_d5_53 : decode method_2_code 53 = .ok (.lreturn, 1) := by decide +kernel
theorem own_ef5_inverse (m : MethodId) (q0 : Int64) : entryFrame m #[(.long q0)] 4 = mkF m 0 #[.val (.long q0), .second, .unset, .unset] [] := by first | (simp [entryFrame, mkF, argsToLocals, Value.category]; done) | rfl
def Q_inverse (Z : State) (q0 : Int64) (h0 : Heap) (n0 : Nat) (v : Option Value) (h : Heap) (L : List Loc) : Prop := v = some (.long (own_inv q0)) ∧ Fr n0 L ∧ h = h0
set_option maxRecDepth 65536 in
set_option maxHeartbeats 40000000 in
theorem rm_inverse (l : Launch) (Z : State) (a0 : Array Value) (hw : ∀ d ∈ tables_1, d.before a0 Z = true) (ws : List Jvm.Cond) (q0 : Int64) (h0 : Heap) (n0 : Nat) (Z0 : n0 ≤ h0.size) :
    MetFree l (⟨"com/example/sieveline/sieveline/cli/DrawsNextPinLaw", "inverse", "(J)J"⟩ : MethodName) (head1 (Jvm.Cond.code (⟨"com/example/sieveline/sieveline/cli/DrawsNextPinLaw", "inverse", "(J)J"⟩ : MethodName) method_2_code 4 (some .long) :: ws) ({ frames := 0, cells := 0, slots := 0, locals := 0 } : Room)) (fun a U => a = #[(.long q0)] ∧ Z.Warmed39 U.vm ∧ U.heap = h0) (fun _ _ _ _ _ => True) (fun _ U o U' => ∃ v L, o = .returned v ∧ (Q_inverse Z q0 h0 n0) v U'.heap L ∧ FrameEnd U o U' L ({ frames := 0, cells := 0, slots := 0, locals := 0 } : Room).cells ({ frames := 0, cells := 0, slots := 0, locals := 0 } : Room).slots) := by
  refine MetFree.of_bodySF (plainFor_of_name own_pn_DrawsNextPinLaw) hisR ?_
  intro p e s m args below meth c s₁ Bd hml0 hP hK
  obtain ⟨rfl, hZ, hh⟩ := hP
  have hx := Bd.exec
  have hby := Bd.bytes
  have hml : c.maxLocals = 4 := hml0
  have hown : s.vm.findClass "com/example/sieveline/sieveline/cli/DrawsNextPinLaw" = some m.cls := findClass_of_methodNamed Bd.named
  have hnm := (name_of_methodNamed Bd.named Bd.method).1
  have hlk : meth.locks = false := BodyLoose.notSynchronized Bd
  have X0 : Stand p l e ({ frames := 0, cells := 0, slots := 0, locals := 0 } : Room) s m #[(.long q0)] below meth c s₁ [] 0 0 := Stand.of_body Bd
  have e0 : s₁.heap = h0 := by rw [← hh, Bd.state]; rfl
  have N0 := Fr.nil n0
  have K0 : Keep h0 h0 [] := Keep.refl _ _
  show ownEnds p e below s (Q_inverse Z q0 h0 n0) ({ frames := 0, cells := 0, slots := 0, locals := 0 } : Room).cells ({ frames := 0, cells := 0, slots := 0, locals := 0 } : Room).slots s₁ (entryFrame m #[(.long q0)] 4)
  refine ownCast (own_ef5_inverse m q0) ?_
  refine ow_lloadN (q := 1) X0 hx (hb hby own_d5_0) rfl rfl ?_
  refine ow_lstoreN (q := 2) X0 hx (L' := #[.val (.long q0), .second, .val (.long q0), .second]) (hb hby own_d5_1) rfl rfl ?_
  refine ow_lloadN (q := 3) X0 hx (hb hby own_d5_2) rfl rfl ?_
  refine ownGo (T' := s₁) (f' := (mkF m 6 #[.val (.long q0), .second, .val (.long q0), .second] [(.long (2 : Int64)), (.long q0)])) (X0.ldc2Long hx hown (mvT hZ (hw _ (List.mem_of_getElem? (i := 27) rfl))) (g := (mkF m 3 #[.val (.long q0), .second, .val (.long q0), .second] [(.long q0)])) rfl (hb hby own_d5_3)) ?_
  refine ow_lloadN (q := 7) X0 hx (hb hby own_d5_6) rfl rfl ?_
  refine ow_lloadN (q := 8) X0 hx (hb hby own_d5_7) rfl rfl ?_
  refine ow_lmul (q := 9) X0 hx _ (hb hby own_d5_8) rfl rfl ?_
  refine ow_lsub (q := 10) X0 hx _ (hb hby own_d5_9) rfl rfl ?_
  refine ow_lmul (q := 11) X0 hx _ (hb hby own_d5_10) rfl rfl ?_
  generalize hv_v1 : (q0 * ((2 : Int64) - (q0 * q0))) = v1
  refine ow_lstoreN (q := 12) X0 hx (L' := #[.val (.long q0), .second, .val (.long v1), .second]) (hb hby own_d5_11) rfl rfl ?_
  refine ow_lloadN (q := 13) X0 hx (hb hby own_d5_12) rfl rfl ?_
  refine ownGo (T' := s₁) (f' := (mkF m 16 #[.val (.long q0), .second, .val (.long v1), .second] [(.long (2 : Int64)), (.long v1)])) (X0.ldc2Long hx hown (mvT hZ (hw _ (List.mem_of_getElem? (i := 27) rfl))) (g := (mkF m 13 #[.val (.long q0), .second, .val (.long v1), .second] [(.long v1)])) rfl (hb hby own_d5_13)) ?_
  refine ow_lloadN (q := 17) X0 hx (hb hby own_d5_16) rfl rfl ?_
  refine ow_lloadN (q := 18) X0 hx (hb hby own_d5_17) rfl rfl ?_
  refine ow_lmul (q := 19) X0 hx _ (hb hby own_d5_18) rfl rfl ?_
  refine ow_lsub (q := 20) X0 hx _ (hb hby own_d5_19) rfl rfl ?_
  refine ow_lmul (q := 21) X0 hx _ (hb hby own_d5_20) rfl rfl ?_
  generalize hv_v2 : (v1 * ((2 : Int64) - (q0 * v1))) = v2
  refine ow_lstoreN (q := 22) X0 hx (L' := #[.val (.long q0), .second, .val (.long v2), .second]) (hb hby own_d5_21) rfl rfl ?_
  refine ow_lloadN (q := 23) X0 hx (hb hby own_d5_22) rfl rfl ?_
  refine ownGo (T' := s₁) (f' := (mkF m 26 #[.val (.long q0), .second, .val (.long v2), .second] [(.long (2 : Int64)), (.long v2)])) (X0.ldc2Long hx hown (mvT hZ (hw _ (List.mem_of_getElem? (i := 27) rfl))) (g := (mkF m 23 #[.val (.long q0), .second, .val (.long v2), .second] [(.long v2)])) rfl (hb hby own_d5_23)) ?_
  refine ow_lloadN (q := 27) X0 hx (hb hby own_d5_26) rfl rfl ?_
  refine ow_lloadN (q := 28) X0 hx (hb hby own_d5_27) rfl rfl ?_
  refine ow_lmul (q := 29) X0 hx _ (hb hby own_d5_28) rfl rfl ?_
  refine ow_lsub (q := 30) X0 hx _ (hb hby own_d5_29) rfl rfl ?_
  refine ow_lmul (q := 31) X0 hx _ (hb hby own_d5_30) rfl rfl ?_
  generalize hv_v3 : (v2 * ((2 : Int64) - (q0 * v2))) = v3
  refine ow_lstoreN (q := 32) X0 hx (L' := #[.val (.long q0), .second, .val (.long v3), .second]) (hb hby own_d5_31) rfl rfl ?_
  refine ow_lloadN (q := 33) X0 hx (hb hby own_d5_32) rfl rfl ?_
  refine ownGo (T' := s₁) (f' := (mkF m 36 #[.val (.long q0), .second, .val (.long v3), .second] [(.long (2 : Int64)), (.long v3)])) (X0.ldc2Long hx hown (mvT hZ (hw _ (List.mem_of_getElem? (i := 27) rfl))) (g := (mkF m 33 #[.val (.long q0), .second, .val (.long v3), .second] [(.long v3)])) rfl (hb hby own_d5_33)) ?_
  refine ow_lloadN (q := 37) X0 hx (hb hby own_d5_36) rfl rfl ?_
  refine ow_lloadN (q := 38) X0 hx (hb hby own_d5_37) rfl rfl ?_
  refine ow_lmul (q := 39) X0 hx _ (hb hby own_d5_38) rfl rfl ?_
  refine ow_lsub (q := 40) X0 hx _ (hb hby own_d5_39) rfl rfl ?_
  refine ow_lmul (q := 41) X0 hx _ (hb hby own_d5_40) rfl rfl ?_
  generalize hv_v4 : (v3 * ((2 : Int64) - (q0 * v3))) = v4
  refine ow_lstoreN (q := 42) X0 hx (L' := #[.val (.long q0), .second, .val (.long v4), .second]) (hb hby own_d5_41) rfl rfl ?_
  refine ow_lloadN (q := 43) X0 hx (hb hby own_d5_42) rfl rfl ?_
  refine ownGo (T' := s₁) (f' := (mkF m 46 #[.val (.long q0), .second, .val (.long v4), .second] [(.long (2 : Int64)), (.long v4)])) (X0.ldc2Long hx hown (mvT hZ (hw _ (List.mem_of_getElem? (i := 27) rfl))) (g := (mkF m 43 #[.val (.long q0), .second, .val (.long v4), .second] [(.long v4)])) rfl (hb hby own_d5_43)) ?_
  refine ow_lloadN (q := 47) X0 hx (hb hby own_d5_46) rfl rfl ?_
  refine ow_lloadN (q := 48) X0 hx (hb hby own_d5_47) rfl rfl ?_
  refine ow_lmul (q := 49) X0 hx _ (hb hby own_d5_48) rfl rfl ?_
  refine ow_lsub (q := 50) X0 hx _ (hb hby own_d5_49) rfl rfl ?_
  refine ow_lmul (q := 51) X0 hx _ (hb hby own_d5_50) rfl rfl ?_
  generalize hv_v5 : (v4 * ((2 : Int64) - (q0 * v4))) = v5
  refine ow_lstoreN (q := 52) X0 hx (L' := #[.val (.long q0), .second, .val (.long v5), .second]) (hb hby own_d5_51) rfl rfl ?_
  refine ow_lloadN (q := 53) X0 hx (hb hby own_d5_52) rfl rfl ?_
  refine ownRetJ X0 hx Bd.returns (hb hby own_d5_53) hlk (by decide) (by decide) ?_
  subst hv_v5 hv_v4 hv_v3 hv_v2 hv_v1
  rw [e0]
  refine ⟨congrArg (fun q => some (Value.long q)) ?_, N0, rfl⟩
  rfl
theorem own_d4_0 : decode method_3_code 0 = .ok (.lload_n 0, 1) := by decide +kernel
theorem own_d4_1 : decode method_3_code 1 = .ok (.lstore_n 2, 1) := by decide +kernel
theorem own_d4_2 : decode method_3_code 2 = .ok (.lload_n 2, 1) := by decide +kernel
theorem own_d4_3 : decode method_3_code 3 = .ok (.lload_n 2, 1) := by decide +kernel
theorem own_d4_4 : decode method_3_code 4 = .ok (.bipush 31, 2) := by decide +kernel
theorem own_d4_6 : decode method_3_code 6 = .ok (.lushr, 1) := by decide +kernel
theorem own_d4_7 : decode method_3_code 7 = .ok (.lxor, 1) := by decide +kernel
theorem own_d4_8 : decode method_3_code 8 = .ok (.lload_n 2, 1) := by decide +kernel
theorem own_d4_9 : decode method_3_code 9 = .ok (.bipush 62, 2) := by decide +kernel
theorem own_d4_11 : decode method_3_code 11 = .ok (.lushr, 1) := by decide +kernel
theorem own_d4_12 : decode method_3_code 12 = .ok (.lxor, 1) := by decide +kernel
theorem own_d4_13 : decode method_3_code 13 = .ok (.lstore_n 2, 1) := by decide +kernel
theorem own_d4_14 : decode method_3_code 14 = .ok (.lload_n 2, 1) := by decide +kernel
theorem own_d4_15 : decode method_3_code 15 = .ok (.ldc2_w 9, 3) := by decide +kernel
theorem own_d4_18 : decode method_3_code 18 = .ok (.invokestatic 11, 3) := by decide +kernel
theorem own_pd0 : parseMethodDescriptor "(J)J" = some ⟨[.long], some .long⟩ := by decide +kernel
theorem own_d4_21 : decode method_3_code 21 = .ok (.lmul, 1) := by decide +kernel
theorem own_d4_22 : decode method_3_code 22 = .ok (.lstore_n 2, 1) := by decide +kernel
theorem own_d4_23 : decode method_3_code 23 = .ok (.lload_n 2, 1) := by decide +kernel
theorem own_d4_24 : decode method_3_code 24 = .ok (.lload_n 2, 1) := by decide +kernel
theorem own_d4_25 : decode method_3_code 25 = .ok (.bipush 27, 2) := by decide +kernel
theorem own_d4_27 : decode method_3_code 27 = .ok (.lushr, 1) := by decide +kernel
theorem own_d4_28 : decode method_3_code 28 = .ok (.lxor, 1) := by decide +kernel
theorem own_d4_29 : decode method_3_code 29 = .ok (.lload_n 2, 1) := by decide +kernel
theorem own_d4_30 : decode method_3_code 30 = .ok (.bipush 54, 2) := by decide +kernel
theorem own_d4_32 : decode method_3_code 32 = .ok (.lushr, 1) := by decide +kernel
theorem own_d4_33 : decode method_3_code 33 = .ok (.lxor, 1) := by decide +kernel
theorem own_d4_34 : decode method_3_code 34 = .ok (.lstore_n 2, 1) := by decide +kernel
theorem own_d4_35 : decode method_3_code 35 = .ok (.lload_n 2, 1) := by decide +kernel
theorem own_d4_36 : decode method_3_code 36 = .ok (.ldc2_w 17, 3) := by decide +kernel
theorem own_d4_39 : decode method_3_code 39 = .ok (.invokestatic 11, 3) := by decide +kernel
theorem own_d4_42 : decode method_3_code 42 = .ok (.lmul, 1) := by decide +kernel
theorem own_d4_43 : decode method_3_code 43 = .ok (.lstore_n 2, 1) := by decide +kernel
theorem own_d4_44 : decode method_3_code 44 = .ok (.lload_n 2, 1) := by decide +kernel
theorem own_d4_45 : decode method_3_code 45 = .ok (.lload_n 2, 1) := by decide +kernel
theorem own_d4_46 : decode method_3_code 46 = .ok (.bipush 30, 2) := by decide +kernel
theorem own_d4_48 : decode method_3_code 48 = .ok (.lushr, 1) := by decide +kernel
theorem own_d4_49 : decode method_3_code 49 = .ok (.lxor, 1) := by decide +kernel
theorem own_d4_50 : decode method_3_code 50 = .ok (.lload_n 2, 1) := by decide +kernel
theorem own_d4_51 : decode method_3_code 51 = .ok (.bipush 60, 2) := by decide +kernel
theorem own_d4_53 : decode method_3_code 53 = .ok (.lushr, 1) := by decide +kernel
theorem own_d4_54 : decode method_3_code 54 = .ok (.lxor, 1) := by decide +kernel
theorem own_d4_55 : decode method_3_code 55 = .ok (.lstore_n 2, 1) := by decide +kernel
theorem own_d4_56 : decode method_3_code 56 = .ok (.lload_n 2, 1) := by decide +kernel
theorem own_d4_57 : decode method_3_code 57 = .ok (.lreturn, 1) := by decide +kernel
theorem own_ef4_unmix (m : MethodId) (q0 : Int64) : entryFrame m #[(.long q0)] 4 = mkF m 0 #[.val (.long q0), .second, .unset, .unset] [] := by first | (simp [entryFrame, mkF, argsToLocals, Value.category]; done) | rfl
def Q_unmix (Z : State) (q0 : Int64) (h0 : Heap) (n0 : Nat) (v : Option Value) (h : Heap) (L : List Loc) : Prop := v = some (.long (own_unmix q0)) ∧ Fr n0 L ∧ h = h0
set_option maxRecDepth 65536 in
set_option maxHeartbeats 40000000 in
theorem rm_unmix (l : Launch) (Z : State) (a0 : Array Value) (hw : ∀ d ∈ tables_1, d.before a0 Z = true) (ws : List Jvm.Cond) (q0 : Int64) (h0 : Heap) (n0 : Nat) (Z0 : n0 ≤ h0.size) :
    MetFree l (⟨"com/example/sieveline/sieveline/cli/DrawsNextPinLaw", "unmix", "(J)J"⟩ : MethodName) (head1 (Jvm.Cond.code (⟨"com/example/sieveline/sieveline/cli/DrawsNextPinLaw", "unmix", "(J)J"⟩ : MethodName) method_3_code 4 (some .long) :: ws) ({ frames := 1, cells := 0, slots := 0, locals := 17 } : Room)) (fun a U => a = #[(.long q0)] ∧ Z.Warmed39 U.vm ∧ U.heap = h0) (fun _ _ _ _ _ => True) (fun _ U o U' => ∃ v L, o = .returned v ∧ (Q_unmix Z q0 h0 n0) v U'.heap L ∧ FrameEnd U o U' L ({ frames := 1, cells := 0, slots := 0, locals := 17 } : Room).cells ({ frames := 1, cells := 0, slots := 0, locals := 17 } : Room).slots) := by
  refine MetFree.of_bodySF (plainFor_of_name own_pn_DrawsNextPinLaw) hisR ?_
  intro p e s m args below meth c s₁ Bd hml0 hP hK
  obtain ⟨rfl, hZ, hh⟩ := hP
  have hx := Bd.exec
  have hby := Bd.bytes
  have hml : c.maxLocals = 4 := hml0
  have hown : s.vm.findClass "com/example/sieveline/sieveline/cli/DrawsNextPinLaw" = some m.cls := findClass_of_methodNamed Bd.named
  have hnm := (name_of_methodNamed Bd.named Bd.method).1
  have hlk : meth.locks = false := BodyLoose.notSynchronized Bd
  have X0 : Stand p l e ({ frames := 1, cells := 0, slots := 0, locals := 17 } : Room) s m #[(.long q0)] below meth c s₁ [] 0 0 := Stand.of_body Bd
  have e0 : s₁.heap = h0 := by rw [← hh, Bd.state]; rfl
  have N0 := Fr.nil n0
  have K0 : Keep h0 h0 [] := Keep.refl _ _
  show ownEnds p e below s (Q_unmix Z q0 h0 n0) ({ frames := 1, cells := 0, slots := 0, locals := 17 } : Room).cells ({ frames := 1, cells := 0, slots := 0, locals := 17 } : Room).slots s₁ (entryFrame m #[(.long q0)] 4)
  refine ownCast (own_ef4_unmix m q0) ?_
  refine ow_lloadN (q := 1) X0 hx (hb hby own_d4_0) rfl rfl ?_
  refine ow_lstoreN (q := 2) X0 hx (L' := #[.val (.long q0), .second, .val (.long q0), .second]) (hb hby own_d4_1) rfl rfl ?_
  refine ow_lloadN (q := 3) X0 hx (hb hby own_d4_2) rfl rfl ?_
  refine ow_lloadN (q := 4) X0 hx (hb hby own_d4_3) rfl rfl ?_
  refine ow_bipush (q := 6) X0 hx (31 : Int32) (hb hby own_d4_4) rfl rfl ?_
  refine ow_lushr (q := 7) X0 hx _ (hb hby own_d4_6) rfl rfl ?_
  refine ow_lxor (q := 8) X0 hx _ (hb hby own_d4_7) rfl rfl ?_
  refine ow_lloadN (q := 9) X0 hx (hb hby own_d4_8) rfl rfl ?_
  refine ow_bipush (q := 11) X0 hx (62 : Int32) (hb hby own_d4_9) rfl rfl ?_
  refine ow_lushr (q := 12) X0 hx _ (hb hby own_d4_11) rfl rfl ?_
  refine ow_lxor (q := 13) X0 hx _ (hb hby own_d4_12) rfl rfl ?_
  generalize hv_v1 : ((q0 ^^^ ((q0.toUInt64 >>> ((31 : Int32) &&& 0x3f).toInt64.toUInt64).toInt64)) ^^^ ((q0.toUInt64 >>> ((62 : Int32) &&& 0x3f).toInt64.toUInt64).toInt64)) = v1
  refine ow_lstoreN (q := 14) X0 hx (L' := #[.val (.long q0), .second, .val (.long v1), .second]) (hb hby own_d4_13) rfl rfl ?_
  refine ow_lloadN (q := 15) X0 hx (hb hby own_d4_14) rfl rfl ?_
  refine ownGo (T' := s₁) (f' := (mkF m 18 #[.val (.long q0), .second, .val (.long v1), .second] [(.long (-7723592293110705685 : Int64)), (.long v1)])) (X0.ldc2Long hx hown (mvT hZ (hw _ (List.mem_of_getElem? (i := 23) rfl))) (g := (mkF m 15 #[.val (.long q0), .second, .val (.long v1), .second] [(.long v1)])) rfl (hb hby own_d4_15)) ?_
  obtain ⟨_, _, ⟨T2, L2, k2, n2⟩, -, X2, ⟨Lc2, hQ2, l2, y2, z2⟩, st2⟩ := Jvm.LawKit.callS X0 hx (y := (⟨"com/example/sieveline/sieveline/cli/DrawsNextPinLaw", "inverse", "(J)J"⟩ : MethodName)) hown (mvT hZ (hw _ (List.mem_of_getElem? (i := 24) rfl))) (mvT hZ (hw _ (List.mem_of_getElem? (i := 25) rfl))) (mvT hZ (hw _ (List.mem_of_getElem? (i := 21) rfl))) (mvT hZ (hw _ (List.mem_of_getElem? (i := 26) rfl))) (by decide) (backOf (W := 2) (rm_inverse l Z a0 hw [] (-7723592293110705685 : Int64) h0 n0 (Nat.le_trans Z0 K0.1) ) hZ (hw _ (List.mem_of_getElem? (i := 26) rfl)) (hw _ (List.mem_of_getElem? (i := 21) rfl)) (by decide) (by decide)) (g := (mkF m 18 #[.val (.long q0), .second, .val (.long v1), .second] [(.long (-7723592293110705685 : Int64)), (.long v1)])) rfl (by rw [hml]; rfl) (argsL := [(.long (-7723592293110705685 : Int64))]) (rest := [(.long v1)]) (lenOf own_pd0 rfl) rfl (by show 2 * 0 + _ ≤ _; exact Nat.le_of_eq rfl) (hb hby own_d4_18) (fun _ _ => ⟨rfl, e0, (by decide : 0 + 0 ≤ _), (by decide : 0 + 0 ≤ _)⟩)
  dsimp only [Pt.U, Pt.locs, Pt.cells, Pt.slots] at X2 l2 y2 z2 st2 hQ2
  subst l2 y2 z2
  obtain ⟨rfl, N2q, e2⟩ := hQ2
  have N2 := Fr.app N0 N2q
  refine ownGo (T' := T2) (f' := (mkF m 21 #[.val (.long q0), .second, .val (.long v1), .second] [(.long (own_inv (-7723592293110705685 : Int64))), (.long v1)])) (st2) ?_
  refine ow_lmul (q := 22) X2 hx _ (hb hby own_d4_21) rfl rfl ?_
  generalize hv_v3 : (v1 * (own_inv (-7723592293110705685 : Int64))) = v3
  refine ow_lstoreN (q := 23) X2 hx (L' := #[.val (.long q0), .second, .val (.long v3), .second]) (hb hby own_d4_22) rfl rfl ?_
  refine ow_lloadN (q := 24) X2 hx (hb hby own_d4_23) rfl rfl ?_
  refine ow_lloadN (q := 25) X2 hx (hb hby own_d4_24) rfl rfl ?_
  refine ow_bipush (q := 27) X2 hx (27 : Int32) (hb hby own_d4_25) rfl rfl ?_
  refine ow_lushr (q := 28) X2 hx _ (hb hby own_d4_27) rfl rfl ?_
  refine ow_lxor (q := 29) X2 hx _ (hb hby own_d4_28) rfl rfl ?_
  refine ow_lloadN (q := 30) X2 hx (hb hby own_d4_29) rfl rfl ?_
  refine ow_bipush (q := 32) X2 hx (54 : Int32) (hb hby own_d4_30) rfl rfl ?_
  refine ow_lushr (q := 33) X2 hx _ (hb hby own_d4_32) rfl rfl ?_
  refine ow_lxor (q := 34) X2 hx _ (hb hby own_d4_33) rfl rfl ?_
  generalize hv_v4 : ((v3 ^^^ ((v3.toUInt64 >>> ((27 : Int32) &&& 0x3f).toInt64.toUInt64).toInt64)) ^^^ ((v3.toUInt64 >>> ((54 : Int32) &&& 0x3f).toInt64.toUInt64).toInt64)) = v4
  refine ow_lstoreN (q := 35) X2 hx (L' := #[.val (.long q0), .second, .val (.long v4), .second]) (hb hby own_d4_34) rfl rfl ?_
  refine ow_lloadN (q := 36) X2 hx (hb hby own_d4_35) rfl rfl ?_
  refine ownGo (T' := T2) (f' := (mkF m 39 #[.val (.long q0), .second, .val (.long v4), .second] [(.long (-4658895280553007687 : Int64)), (.long v4)])) (X2.ldc2Long hx hown (mvT hZ (hw _ (List.mem_of_getElem? (i := 28) rfl))) (g := (mkF m 36 #[.val (.long q0), .second, .val (.long v4), .second] [(.long v4)])) rfl (hb hby own_d4_36)) ?_
  obtain ⟨_, _, ⟨T5, L5, k5, n5⟩, -, X5, ⟨Lc5, hQ5, l5, y5, z5⟩, st5⟩ := Jvm.LawKit.callS X2 hx (y := (⟨"com/example/sieveline/sieveline/cli/DrawsNextPinLaw", "inverse", "(J)J"⟩ : MethodName)) hown (mvT hZ (hw _ (List.mem_of_getElem? (i := 24) rfl))) (mvT hZ (hw _ (List.mem_of_getElem? (i := 25) rfl))) (mvT hZ (hw _ (List.mem_of_getElem? (i := 21) rfl))) (mvT hZ (hw _ (List.mem_of_getElem? (i := 26) rfl))) (by decide) (backOf (W := 2) (rm_inverse l Z a0 hw [] (-4658895280553007687 : Int64) h0 n0 (Nat.le_trans Z0 K0.1) ) hZ (hw _ (List.mem_of_getElem? (i := 26) rfl)) (hw _ (List.mem_of_getElem? (i := 21) rfl)) (by decide) (by decide)) (g := (mkF m 39 #[.val (.long q0), .second, .val (.long v4), .second] [(.long (-4658895280553007687 : Int64)), (.long v4)])) rfl (by rw [hml]; rfl) (argsL := [(.long (-4658895280553007687 : Int64))]) (rest := [(.long v4)]) (lenOf own_pd0 rfl) rfl (by show 2 * 0 + _ ≤ _; exact Nat.le_of_eq rfl) (hb hby own_d4_39) (fun _ _ => ⟨rfl, e2, (by decide : 0 + 0 ≤ _), (by decide : 0 + 0 ≤ _)⟩)
  dsimp only [Pt.U, Pt.locs, Pt.cells, Pt.slots] at X5 l5 y5 z5 st5 hQ5
  subst l5 y5 z5
  obtain ⟨rfl, N5q, e5⟩ := hQ5
  have N5 := Fr.app N2 N5q
  refine ownGo (T' := T5) (f' := (mkF m 42 #[.val (.long q0), .second, .val (.long v4), .second] [(.long (own_inv (-4658895280553007687 : Int64))), (.long v4)])) (st5) ?_
  refine ow_lmul (q := 43) X5 hx _ (hb hby own_d4_42) rfl rfl ?_
  generalize hv_v6 : (v4 * (own_inv (-4658895280553007687 : Int64))) = v6
  refine ow_lstoreN (q := 44) X5 hx (L' := #[.val (.long q0), .second, .val (.long v6), .second]) (hb hby own_d4_43) rfl rfl ?_
  refine ow_lloadN (q := 45) X5 hx (hb hby own_d4_44) rfl rfl ?_
  refine ow_lloadN (q := 46) X5 hx (hb hby own_d4_45) rfl rfl ?_
  refine ow_bipush (q := 48) X5 hx (30 : Int32) (hb hby own_d4_46) rfl rfl ?_
  refine ow_lushr (q := 49) X5 hx _ (hb hby own_d4_48) rfl rfl ?_
  refine ow_lxor (q := 50) X5 hx _ (hb hby own_d4_49) rfl rfl ?_
  refine ow_lloadN (q := 51) X5 hx (hb hby own_d4_50) rfl rfl ?_
  refine ow_bipush (q := 53) X5 hx (60 : Int32) (hb hby own_d4_51) rfl rfl ?_
  refine ow_lushr (q := 54) X5 hx _ (hb hby own_d4_53) rfl rfl ?_
  refine ow_lxor (q := 55) X5 hx _ (hb hby own_d4_54) rfl rfl ?_
  generalize hv_v7 : ((v6 ^^^ ((v6.toUInt64 >>> ((30 : Int32) &&& 0x3f).toInt64.toUInt64).toInt64)) ^^^ ((v6.toUInt64 >>> ((60 : Int32) &&& 0x3f).toInt64.toUInt64).toInt64)) = v7
  refine ow_lstoreN (q := 56) X5 hx (L' := #[.val (.long q0), .second, .val (.long v7), .second]) (hb hby own_d4_55) rfl rfl ?_
  refine ow_lloadN (q := 57) X5 hx (hb hby own_d4_56) rfl rfl ?_
  refine ownRetJ X5 hx Bd.returns (hb hby own_d4_57) hlk (by decide) (by decide) ?_
  subst hv_v7 hv_v6 hv_v4 hv_v3 hv_v1
  rw [e5]
  refine ⟨congrArg (fun q => some (Value.long q)) ?_, N5, rfl⟩
  rfl
theorem own_pd1 : parseMethodDescriptor "(J)V" = some ⟨[.long], none⟩ := by decide +kernel
theorem own_pd2 : parseMethodDescriptor "()J" = some ⟨[], some .long⟩ := by decide +kernel
theorem own_ef0_law (m : MethodId) (q0 : Int64) : entryFrame m #[(.long q0)] maxLocals = mkF m 0 #[.val (.long q0), .second, .unset, .unset, .unset, .unset, .unset] [] := by first | (simp [entryFrame, mkF, argsToLocals, Value.category, maxLocals]; done) | rfl
def Q_law (Z : State) (q0 : Int64) (h0 : Heap) (n0 : Nat) (v : Option Value) (h : Heap) (L : List Loc) : Prop := v = some (.int 1) ∧ Fr n0 L
set_option maxRecDepth 65536 in
set_option maxHeartbeats 40000000 in
theorem rm_law (l : Launch) (Z : State) (a0 : Array Value) (hw : ∀ d ∈ tables_1, d.before a0 Z = true) (ws : List Jvm.Cond) (q0 : Int64) (h0 : Heap) (n0 : Nat) (Z0 : n0 ≤ h0.size) :
    MetFree l x (head1 (Jvm.Cond.code x code maxLocals ret :: ws) room_1) (fun a U => a = #[(.long q0)] ∧ Z.Warmed39 U.vm ∧ U.heap = h0) (fun _ _ _ _ _ => True) (fun _ U o U' => ∃ v L, o = .returned v ∧ (Q_law Z q0 h0 n0) v U'.heap L ∧ FrameEnd U o U' L 16 128) := by
  refine MetFree.of_bodySF (plainFor_of_name own_pn_DrawsNextPinLaw) hisR ?_
  intro p e s m args below meth c s₁ Bd hml0 hP hK
  obtain ⟨rfl, hZ, hh⟩ := hP
  have hx := Bd.exec
  have hby := Bd.bytes
  have hml : c.maxLocals = 7 := hml0
  have hown : s.vm.findClass "com/example/sieveline/sieveline/cli/DrawsNextPinLaw" = some m.cls := findClass_of_methodNamed Bd.named
  have hnm := (name_of_methodNamed Bd.named Bd.method).1
  have hlk : meth.locks = false := BodyLoose.notSynchronized Bd
  have X0 : Stand p l e room_1 s m #[(.long q0)] below meth c s₁ [] 0 0 := Stand.of_body Bd
  have e0 : s₁.heap = h0 := by rw [← hh, Bd.state]; rfl
  have N0 := Fr.nil n0
  have K0 : Keep h0 h0 [] := Keep.refl _ _
  show ownEnds p e below s (Q_law Z q0 h0 n0) 16 128 s₁ (entryFrame m #[(.long q0)] maxLocals)
  refine ownCast (own_ef0_law m q0) ?_
  obtain ⟨T1, h1, X1, e1, E1, A1, D1, -, st1⟩ := newO X0 hx hZ hown (hw _ (List.mem_of_getElem? (i := 0) rfl)) (hw _ (List.mem_of_getElem? (i := 1) rfl)) (hw _ (List.mem_of_getElem? (i := 2) rfl)) e0 (g := (mkF m 0 #[.val (.long q0), .second, .unset, .unset, .unset, .unset, .unset] [])) rfl (hb hby at_0) (by decide) (by decide)
  obtain ⟨b1, g1⟩ : ∃ z, z = h0.size := ⟨_, rfl⟩
  rw [← g1] at A1 D1 st1
  have sz_b1 : h0.size ≤ b1 := Nat.le_trans K0.1 (Nat.le_of_eq g1.symm)
  have G_b1 : n0 ≤ b1 := Nat.le_trans Z0 sz_b1
  have K1 : Keep h0 h1 [] := K0.ext E1
  have F2 : Fld Z h1 b1 "com/example/sieveline/sieveline/cli/Draws" "state" "J" (.long (0 : Int64)) := D1 (Or.inl (hw _ (List.mem_of_getElem? (i := 10) rfl))) (ty := .long) (by decide)
  refine ownGo (T' := T1) (f' := (mkF m 3 #[.val (.long q0), .second, .unset, .unset, .unset, .unset, .unset] [(.ref b1)])) (st1) ?_
  refine ow_dup (q := 4) X1 hx (hb hby at_3) rfl rfl ?_
  refine ow_lloadN (q := 5) X1 hx (hb hby at_4) rfl rfl ?_
  obtain ⟨_, _, ⟨T3, L3, k3, n3⟩, -, X3, ⟨Lc3, hQ3, l3, y3, z3⟩, st3⟩ := X1.specialBack hx (y := (⟨"com/example/sieveline/sieveline/cli/Draws", "<init>", "(J)V"⟩ : MethodName)) rfl hown (mvT hZ (hw _ (List.mem_of_getElem? (i := 3) rfl))) (mvT hZ (hw _ (List.mem_of_getElem? (i := 4) rfl))) (mvT hZ (hw _ (List.mem_of_getElem? (i := 5) rfl))) (by decide) (backOf (W := 1) (rm_init l Z a0 hw [] b1 q0 (0 : Int64) h1 n0 (Nat.le_trans Z0 K1.1) A1 F2 G_b1) hZ (hw _ (List.mem_of_getElem? (i := 5) rfl)) (hw _ (List.mem_of_getElem? (i := 2) rfl)) (by decide) (by decide)) (g := (mkF m 5 #[.val (.long q0), .second, .unset, .unset, .unset, .unset, .unset] [(.long q0), (.ref b1), (.ref b1)])) rfl (by rw [hml]; rfl) (Steps.refl _) (a := b1) (argsL := [(.long q0)]) (rest := [(.ref b1)]) (lenOf own_pd1 rfl) rfl (by show 2 * 0 + _ ≤ _; exact Nat.le_of_eq rfl) (hb hby at_5) (fun _ _ => ⟨rfl, e1, (by decide : 1 + 0 ≤ _), (by decide : 1 + 0 ≤ _)⟩)
  dsimp only [Pt.U, Pt.locs, Pt.cells, Pt.slots] at X3 l3 y3 z3 st3 hQ3
  subst l3 y3 z3
  obtain ⟨rfl, N3q, Kq3, FP3_0, FP3_1⟩ := hQ3
  have N3 := Fr.app N0 N3q
  have K3 : Keep h0 T3.heap [] := K1.trans Kq3 (allS (Or.inr sz_b1) all0)
  have F4 : Exa Z T3.heap b1 "com/example/sieveline/sieveline/cli/Draws" := A1.keep Kq3
  refine ownRun (T' := T3) (f' := (mkF m 8 #[.val (.long q0), .second, .unset, .unset, .unset, .unset, .unset] [(.ref b1)])) st3 ?_
  refine ow_astoreN (q := 9) X3 hx (L' := #[.val (.long q0), .second, rv b1, .unset, .unset, .unset, .unset]) (hb hby at_8) rfl rfl rfl ?_
  refine ow_aloadN (q := 10) X3 hx (hb hby at_9) rfl rfl rfl ?_
  obtain ⟨cq5, kq5, q5a, q5b, q5c⟩ := isOf hZ rfl FP3_0
  obtain ⟨_, _, ⟨T5, L5, k5, n5⟩, -, X5, ⟨Lc5, hQ5, l5, y5, z5⟩, st5⟩ := X3.virtualBack hx (y := (⟨"com/example/sieveline/sieveline/cli/Draws", "next", "()J"⟩ : MethodName)) (z := (⟨"com/example/sieveline/sieveline/cli/Draws", "next", "()J"⟩ : MethodName)) hown (mvT hZ (hw _ (List.mem_of_getElem? (i := 11) rfl))) (mvT hZ (hw _ (List.mem_of_getElem? (i := 12) rfl))) (notFace_of_selects (args := #[]) (mvT hZ (hw _ (List.mem_of_getElem? (i := 14) rfl)))) (mvT hZ (hw _ (List.mem_of_getElem? (i := 14) rfl))) (mvT hZ (hw _ (List.mem_of_getElem? (i := 13) rfl))) (by decide) (backOf (W := 0) (rm_next l Z a0 hw [] b1 q0 T3.heap n0 (Nat.le_trans Z0 K3.1) FP3_0 FP3_1 G_b1) hZ (hw _ (List.mem_of_getElem? (i := 15) rfl)) (hw _ (List.mem_of_getElem? (i := 2) rfl)) (by decide) (by decide)) q5a q5c (g := (mkF m 10 #[.val (.long q0), .second, rv b1, .unset, .unset, .unset, .unset] [(.ref b1)])) rfl (by rw [hml]; rfl) (Steps.refl _) (argsL := []) (rest := []) (lenOf own_pd2 rfl) rfl (by show 2 * 0 + _ ≤ _; exact Nat.le_of_eq rfl) (hb hby at_10) (fun _ _ => ⟨rfl, rfl, (by decide : 1 + 0 ≤ _), (by decide : 1 + 0 ≤ _)⟩)
  dsimp only [Pt.U, Pt.locs, Pt.cells, Pt.slots] at X5 l5 y5 z5 st5 hQ5
  subst l5 y5 z5
  obtain ⟨rfl, N5q, Kq5, FP5_0, FP5_1⟩ := hQ5
  have N5 := Fr.app N3 N5q
  have K5 : Keep h0 T5.heap [] := K3.trans Kq5 (allS (Or.inr sz_b1) all0)
  have F6 : Exa Z T5.heap b1 "com/example/sieveline/sieveline/cli/Draws" := FP3_0.keep Kq5
  refine ownRun (T' := T5) (f' := (mkF m 13 #[.val (.long q0), .second, rv b1, .unset, .unset, .unset, .unset] [(.long (own_mix (q0 + (-7046029254386353131 : Int64))))])) st5 ?_
  generalize hv_v7 : (own_mix (q0 + (-7046029254386353131 : Int64))) = v7
  refine ow_lstoreN (q := 14) X5 hx (L' := #[.val (.long q0), .second, rv b1, .val (.long v7), .second, .unset, .unset]) (hb hby at_13) rfl rfl ?_
  refine ow_aloadN (q := 15) X5 hx (hb hby at_14) rfl rfl rfl ?_
  obtain ⟨cq8, kq8, q8a, q8b, q8c⟩ := isOf hZ rfl FP5_0
  obtain ⟨_, _, ⟨T8, L8, k8, n8⟩, -, X8, ⟨Lc8, hQ8, l8, y8, z8⟩, st8⟩ := X5.virtualBack hx (y := (⟨"com/example/sieveline/sieveline/cli/Draws", "next", "()J"⟩ : MethodName)) (z := (⟨"com/example/sieveline/sieveline/cli/Draws", "next", "()J"⟩ : MethodName)) hown (mvT hZ (hw _ (List.mem_of_getElem? (i := 11) rfl))) (mvT hZ (hw _ (List.mem_of_getElem? (i := 12) rfl))) (notFace_of_selects (args := #[]) (mvT hZ (hw _ (List.mem_of_getElem? (i := 14) rfl)))) (mvT hZ (hw _ (List.mem_of_getElem? (i := 14) rfl))) (mvT hZ (hw _ (List.mem_of_getElem? (i := 13) rfl))) (by decide) (backOf (W := 0) (rm_next l Z a0 hw [] b1 (q0 + (-7046029254386353131 : Int64)) T5.heap n0 (Nat.le_trans Z0 K5.1) FP5_0 FP5_1 G_b1) hZ (hw _ (List.mem_of_getElem? (i := 15) rfl)) (hw _ (List.mem_of_getElem? (i := 2) rfl)) (by decide) (by decide)) q8a q8c (g := (mkF m 15 #[.val (.long q0), .second, rv b1, .val (.long v7), .second, .unset, .unset] [(.ref b1)])) rfl (by rw [hml]; rfl) (Steps.refl _) (argsL := []) (rest := []) (lenOf own_pd2 rfl) rfl (by show 2 * 0 + _ ≤ _; exact Nat.le_of_eq rfl) (hb hby at_15) (fun _ _ => ⟨rfl, rfl, (by decide : 1 + 0 ≤ _), (by decide : 1 + 0 ≤ _)⟩)
  dsimp only [Pt.U, Pt.locs, Pt.cells, Pt.slots] at X8 l8 y8 z8 st8 hQ8
  subst l8 y8 z8
  obtain ⟨rfl, N8q, Kq8, FP8_0, FP8_1⟩ := hQ8
  have N8 := Fr.app N5 N8q
  have K8 : Keep h0 T8.heap [] := K5.trans Kq8 (allS (Or.inr sz_b1) all0)
  have F9 : Exa Z T8.heap b1 "com/example/sieveline/sieveline/cli/Draws" := FP5_0.keep Kq8
  refine ownRun (T' := T8) (f' := (mkF m 18 #[.val (.long q0), .second, rv b1, .val (.long v7), .second, .unset, .unset] [(.long (own_mix ((q0 + (-7046029254386353131 : Int64)) + (-7046029254386353131 : Int64))))])) st8 ?_
  generalize hv_v10 : (own_mix ((q0 + (-7046029254386353131 : Int64)) + (-7046029254386353131 : Int64))) = v10
  refine ow_lstore (q := 20) X8 hx (L' := #[.val (.long q0), .second, rv b1, .val (.long v7), .second, .val (.long v10), .second]) (hb hby at_18) rfl rfl ?_
  refine ow_lloadN (q := 21) X8 hx (hb hby at_20) rfl rfl ?_
  obtain ⟨_, _, ⟨T11, L11, k11, n11⟩, -, X11, ⟨Lc11, hQ11, l11, y11, z11⟩, st11⟩ := Jvm.LawKit.callS X8 hx (y := (⟨"com/example/sieveline/sieveline/cli/DrawsNextPinLaw", "unmix", "(J)J"⟩ : MethodName)) hown (mvT hZ (hw _ (List.mem_of_getElem? (i := 19) rfl))) (mvT hZ (hw _ (List.mem_of_getElem? (i := 20) rfl))) (mvT hZ (hw _ (List.mem_of_getElem? (i := 21) rfl))) (mvT hZ (hw _ (List.mem_of_getElem? (i := 22) rfl))) (by decide) (backOf (W := 0) (rm_unmix l Z a0 hw [] v7 T8.heap n0 (Nat.le_trans Z0 K8.1) ) hZ (hw _ (List.mem_of_getElem? (i := 22) rfl)) (hw _ (List.mem_of_getElem? (i := 21) rfl)) (by decide) (by decide)) (g := (mkF m 21 #[.val (.long q0), .second, rv b1, .val (.long v7), .second, .val (.long v10), .second] [(.long v7)])) rfl (by rw [hml]; rfl) (argsL := [(.long v7)]) (rest := []) (lenOf own_pd0 rfl) rfl (by show 2 * 0 + _ ≤ _; exact Nat.le_of_eq rfl) (hb hby at_21) (fun _ _ => ⟨rfl, rfl, (by decide : 1 + 0 ≤ _), (by decide : 1 + 0 ≤ _)⟩)
  dsimp only [Pt.U, Pt.locs, Pt.cells, Pt.slots] at X11 l11 y11 z11 st11 hQ11
  subst l11 y11 z11
  obtain ⟨rfl, N11q, e11⟩ := hQ11
  have N11 := Fr.app N8 N11q
  refine ownGo (T' := T11) (f' := (mkF m 24 #[.val (.long q0), .second, rv b1, .val (.long v7), .second, .val (.long v10), .second] [(.long (own_unmix v7))])) (st11) ?_
  refine ow_lloadN (q := 25) X11 hx (hb hby at_24) rfl rfl ?_
  refine ownGo (T' := T11) (f' := (mkF m 28 #[.val (.long q0), .second, rv b1, .val (.long v7), .second, .val (.long v10), .second] [(.long (-7046029254386353131 : Int64)), (.long q0), (.long (own_unmix v7))])) (X11.ldc2Long hx hown (mvT hZ (hw _ (List.mem_of_getElem? (i := 29) rfl))) (g := (mkF m 25 #[.val (.long q0), .second, rv b1, .val (.long v7), .second, .val (.long v10), .second] [(.long q0), (.long (own_unmix v7))])) rfl (hb hby at_25)) ?_
  refine ow_ladd (q := 29) X11 hx _ (hb hby at_28) rfl rfl ?_
  refine ow_lcmp (q := 30) X11 hx _ (hb hby at_29) rfl rfl ?_
  by_cases hc30_12 : (own_unmix v7) = (q0 + (-7046029254386353131 : Int64))
  · refine ow_ifNo (q := 33) X11 hx (hb hby at_30) rfl (Jvm.Free.XT.ll_ne_f hc30_12) ?_
    refine ow_lload (q := 35) X11 hx (hb hby at_33) rfl rfl ?_
    obtain ⟨_, _, ⟨T13, L13, k13, n13⟩, -, X13, ⟨Lc13, hQ13, l13, y13, z13⟩, st13⟩ := Jvm.LawKit.callS X11 hx (y := (⟨"com/example/sieveline/sieveline/cli/DrawsNextPinLaw", "unmix", "(J)J"⟩ : MethodName)) hown (mvT hZ (hw _ (List.mem_of_getElem? (i := 19) rfl))) (mvT hZ (hw _ (List.mem_of_getElem? (i := 20) rfl))) (mvT hZ (hw _ (List.mem_of_getElem? (i := 21) rfl))) (mvT hZ (hw _ (List.mem_of_getElem? (i := 22) rfl))) (by decide) (backOf (W := 0) (rm_unmix l Z a0 hw [] v10 T8.heap n0 (Nat.le_trans Z0 K8.1) ) hZ (hw _ (List.mem_of_getElem? (i := 22) rfl)) (hw _ (List.mem_of_getElem? (i := 21) rfl)) (by decide) (by decide)) (g := (mkF m 35 #[.val (.long q0), .second, rv b1, .val (.long v7), .second, .val (.long v10), .second] [(.long v10)])) rfl (by rw [hml]; rfl) (argsL := [(.long v10)]) (rest := []) (lenOf own_pd0 rfl) rfl (by show 2 * 0 + _ ≤ _; exact Nat.le_of_eq rfl) (hb hby at_35) (fun _ _ => ⟨rfl, e11, (by decide : 1 + 0 ≤ _), (by decide : 1 + 0 ≤ _)⟩)
    dsimp only [Pt.U, Pt.locs, Pt.cells, Pt.slots] at X13 l13 y13 z13 st13 hQ13
    subst l13 y13 z13
    obtain ⟨rfl, N13q, e13⟩ := hQ13
    have N13 := Fr.app N11 N13q
    refine ownGo (T' := T13) (f' := (mkF m 38 #[.val (.long q0), .second, rv b1, .val (.long v7), .second, .val (.long v10), .second] [(.long (own_unmix v10))])) (st13) ?_
    refine ow_lloadN (q := 39) X13 hx (hb hby at_38) rfl rfl ?_
    refine ownGo (T' := T13) (f' := (mkF m 42 #[.val (.long q0), .second, rv b1, .val (.long v7), .second, .val (.long v10), .second] [(.long (-7046029254386353131 : Int64)), (.long q0), (.long (own_unmix v10))])) (X13.ldc2Long hx hown (mvT hZ (hw _ (List.mem_of_getElem? (i := 29) rfl))) (g := (mkF m 39 #[.val (.long q0), .second, rv b1, .val (.long v7), .second, .val (.long v10), .second] [(.long q0), (.long (own_unmix v10))])) rfl (hb hby at_39)) ?_
    refine ow_ladd (q := 43) X13 hx _ (hb hby at_42) rfl rfl ?_
    refine ownGo (T' := T13) (f' := (mkF m 46 #[.val (.long q0), .second, rv b1, .val (.long v7), .second, .val (.long v10), .second] [(.long (-7046029254386353131 : Int64)), (.long (q0 + (-7046029254386353131 : Int64))), (.long (own_unmix v10))])) (X13.ldc2Long hx hown (mvT hZ (hw _ (List.mem_of_getElem? (i := 29) rfl))) (g := (mkF m 43 #[.val (.long q0), .second, rv b1, .val (.long v7), .second, .val (.long v10), .second] [(.long (q0 + (-7046029254386353131 : Int64))), (.long (own_unmix v10))])) rfl (hb hby at_43)) ?_
    refine ow_ladd (q := 47) X13 hx _ (hb hby at_46) rfl rfl ?_
    refine ow_lcmp (q := 48) X13 hx _ (hb hby at_47) rfl rfl ?_
    by_cases hc48_14 : (own_unmix v10) = ((q0 + (-7046029254386353131 : Int64)) + (-7046029254386353131 : Int64))
    · refine ow_ifNo (q := 51) X13 hx (hb hby at_48) rfl (Jvm.Free.XT.ll_ne_f hc48_14) ?_
      refine ow_iconst (q := 52) X13 hx (1 : Int32) (hb hby at_51) rfl rfl ?_
      refine ow_goto (q := 56) X13 hx (hb hby at_52) (by decide) (by decide) ?_
      refine ownRetN X13 hx (r := (1 : Int32)) (Or.inl rfl) Bd.returns (hb hby at_56) hlk (by decide) (by decide) (by decide) ?_
      exact ⟨rfl, N13⟩
    · refine ow_ifYes (q := 55) X13 hx (hb hby at_48) (Jvm.Free.XT.ll_ne_t hc48_14) (by decide) (by decide) ?_
      refine ow_iconst (q := 56) X13 hx (0 : Int32) (hb hby at_55) rfl rfl ?_
      exfalso
      subst hv_v10 hv_v7
      exact hc48_14 (own_unmix_mix _)
  · refine ow_ifYes (q := 55) X11 hx (hb hby at_30) (Jvm.Free.XT.ll_ne_t hc30_12) (by decide) (by decide) ?_
    refine ow_iconst (q := 56) X11 hx (0 : Int32) (hb hby at_55) rfl rfl ?_
    exfalso
    subst hv_v10 hv_v7
    exact hc30_12 (own_unmix_mix _)
set_option maxRecDepth 65536 in
set_option maxHeartbeats 40000000 in
theorem comes_1 {Post : Tables → Env → Array Value → State → Outcome → State → Prop} (hpost : ∀ tb e args s v u, (limb_1_1.after args s (.returned v) u = true ∧ limb_1_2.after args s (.returned v) u = true ∧ True) → FrameEnd s (.returned v) u (Jvm.fieldLocs frame_1_writes args s ++ Jvm.arrayLocs frame_1_arrays args s ++ Jvm.staticLocs frame_1_statics s) 16 128 → Post tb e args s (.returned v) u) :
    ArmFor flags0 classFile x code maxLocals ret World_1 tables_1 room_1 Calls_1 rest_1 Pre_1 Post := by
  intro l hfl _ _ p e ha hc hk s m args below hf hA hF happ hP
  obtain ⟨hcalls, hrest, hpre⟩ := hP
  obtain ⟨-, -, -, hnamed, -, -, -, hat⟩ := (Spec.applies_iff hf).mp happ
  obtain ⟨hg, hn⟩ := and_e (Cond.before_iff.mp (show (Jvm.Cond.and given_1 narrow_1).before args s = true from hpre))
  obtain ⟨gg1, gg2⟩ := and_e hg
  obtain ⟨w0, rfl⟩ : ∃ w0 : Value, args = #[w0] := by
    have hs : args.size = 1 := by simpa [Cond.value, given_1] using gg1
    obtain ⟨L⟩ := args
    match L, hs with
    | [w0], _ => exact ⟨w0, rfl⟩
  have hw := fun d (hd : d ∈ tables_1) => atoms_spec (ws := Jvm.Cond.code x code maxLocals ret :: tables_1) hat d (List.mem_cons_of_mem _ hd)
  have hfit : Fit s := fun {y c} hc i hi => by
    obtain ⟨ha, rfl⟩ := Array.getElem?_eq_some_iff.mp hc
    have q := List.all_eq_true.mp ((Array.all_eq_true_iff_forall_mem.mp hF) _ (Array.getElem_mem ha)) i (List.mem_range.mpr hi)
    simpa [Array.getElem?_eq_getElem hi] using q
  obtain ⟨i0, ei0⟩ := isL_v gg2
  obtain rfl : w0 = (.long i0) := Option.some.inj ei0
  obtain ⟨n, o, h1, h2, h3, _, L, rfl, ⟨rfl, N⟩, hq⟩ := rm_law l s _ hw tables_1 i0  s.heap s.heap.size (Nat.le_refl _)  p e ha hc hk s m _ below hf ((Spec.applies_iff_loose hf).mp happ).1 ⟨rfl, State.Warmed39.refl s, rfl⟩ trivial
  refine ⟨n, _, h1, h2, h3, hpost _ _ _ _ _ _ ⟨Cond.after_iff.mpr rfl, Cond.after_iff.mpr (eq_i res_at (Term.int_eval (1)) rfl), trivial⟩ ⟨hq.1, hq.2.1, (hq.2.2.sift fun y hy => Or.inr (N y hy)).mono (by decide) (by decide)⟩⟩
theorem main_1_1 : Claimed_1_1 := comes_1 fun _ _ _ _ _ _ h hF => ⟨h.1, hF⟩
theorem main_1_2 : Claimed_1_2 := comes_1 fun _ _ _ _ _ _ h hF => ⟨h.2.1, hF⟩
end Jvm.Pilot.@@N@@
namespace Jvm.Pilot.@@N@@
open Jvm Jvm.ClassFile Sem Op Lib Jvm.Free Jvm.Stand Jvm.Pilot.@@N@@.Jvm.D
/-! MADE BY PROGRAM (witnessworld.py) out of the Statement's table words and the real class files: 7 classes; the members and pool entries that the words name. The judged class is class 1, her method 3. -/
namespace start1
open Jvm.ClassFile
def u (s : String) : CpInfo := .utf8 (stringToUtf16 s)
/-- a pool by its gaps: so many unusable entries, then the entry; so many at the end -/
def gap : Nat → List CpInfo → List CpInfo
  | 0, r => r
  | n + 1, r => .unusable :: gap n r
def poolList (es : List (Nat × CpInfo)) (last : Nat) : List CpInfo := es.foldr (fun e r => gap e.1 (e.2 :: r)) (gap last [])
def pool (es : List (Nat × CpInfo)) (last : Nat) : Array CpInfo := ⟨poolList es last⟩
def fileOf (pool : Array CpInfo) (this : Nat) (attrs : Array Attribute := #[]) (ms : Array MethodInfo := #[]) (fl : Nat := 33) (sup : Nat := 0) (ifs : Array Nat := #[]) (fds : Array FieldInfo := #[]) : ClassFile where
  minorVersion := 0
  majorVersion := 65
  constantPool := pool
  accessFlags := fl
  thisClass := this
  superClass := sup
  interfaces := ifs
  fields := fds
  methods := ms
  attributes := attrs
def plain (name : String) (sup : Option ClassId) : Class where
  name := name
  kind := .ordinary
  loader := none
  accessFlags := 33
  super := sup
  interfaces := #[]
  cf := none
  fields := #[]
  methods := #[]
  instanceTypes := #[]
  staticTypes := #[]
  resolved := #[]
  callSites := []
  init := .initialized
  statics := none
  mirror := none

def pool0 : Array CpInfo := pool [(5, u "<init>"), (0, u "()V"), (1, .class_ 10), (1, u "java/lang/Object")] 113

def k0c0 : Code := { maxStack := 0, maxLocals := 1, code := object_method_1_code, exceptionTable := #[], attributes := #[] }
def k0m0 : Method := { name := "<init>", desc := "()V", sig := { parameters := [], returnType := none }, accessFlags := 1, code := some k0c0 }
/-- java/lang/Object -/
def k0 : Class := { plain "java/lang/Object" none with
  accessFlags := 33
  interfaces := #[]
  cf := some (fileOf pool0 8 #[] #[{ accessFlags := 1, nameIndex := 5, descriptorIndex := 6, attributes := #[] }] 33 0 #[] #[])
  fields := #[]
  methods := #[k0m0]
  instanceTypes := #[]
  staticTypes := #[]
  resolved := Array.replicate 124 none
  statics := none }

def pool1 : Array CpInfo := pool [(2, .class_ 4), (1, u "java/lang/Object"), (0, u "<init>"), (0, u "()V"), (0, .long 2), (1, .long 10723151780598845931), (1, .methodref 12 13), (0, .class_ 14), (0, .nameAndType 15 16), (0, u "com/example/sieveline/sieveline/cli/DrawsNextPinLaw"), (0, u "inverse"), (0, u "(J)J"), (0, .long 13787848793156543929), (1, .class_ 20), (0, u "com/example/sieveline/sieveline/cli/Draws"), (0, .methodref 19 22), (0, .nameAndType 5 23), (0, u "(J)V"), (0, .methodref 19 25), (0, .nameAndType 26 27), (0, u "next"), (0, u "()J"), (0, .methodref 12 29), (0, .nameAndType 30 16), (0, u "unmix"), (0, .long 11400714819323198485), (1, u "GAMMA"), (0, u "J"), (3, u "law"), (0, u "(J)Z")] 3

def k1m0 : Method := { name := "<init>", desc := "()V", sig := { parameters := [], returnType := none }, accessFlags := 1, code := none }
def k1c1 : Code := { maxStack := 8, maxLocals := 4, code := method_2_code, exceptionTable := #[], attributes := #[] }
def k1m1 : Method := { name := "inverse", desc := "(J)J", sig := { parameters := [.long], returnType := some .long }, accessFlags := 10, code := some k1c1 }
def k1c2 : Code := { maxStack := 5, maxLocals := 4, code := method_3_code, exceptionTable := #[], attributes := #[] }
def k1m2 : Method := { name := "unmix", desc := "(J)J", sig := { parameters := [.long], returnType := some .long }, accessFlags := 10, code := some k1c2 }
def k1c3 : Code := { maxStack := 6, maxLocals := 7, code := code, exceptionTable := #[], attributes := #[] }
def k1m3 : Method := { name := "law", desc := "(J)Z", sig := { parameters := [.long], returnType := some .boolean }, accessFlags := 9, code := some k1c3 }
/-- com/example/sieveline/sieveline/cli/DrawsNextPinLaw -/
def k1 : Class := { plain "com/example/sieveline/sieveline/cli/DrawsNextPinLaw" (some 0) with
  accessFlags := 49
  interfaces := #[]
  cf := some (fileOf pool1 12 #[] #[{ accessFlags := 1, nameIndex := 5, descriptorIndex := 6, attributes := #[] }, { accessFlags := 10, nameIndex := 15, descriptorIndex := 16, attributes := #[] }, { accessFlags := 10, nameIndex := 30, descriptorIndex := 16, attributes := #[] }, { accessFlags := 9, nameIndex := 38, descriptorIndex := 39, attributes := #[] }] 49 2 #[] #[{ accessFlags := 26, nameIndex := 33, descriptorIndex := 34, attributes := #[] }])
  fields := #[{ name := "GAMMA", type := .long, accessFlags := 26, slot := 0, constantValue := 0 }]
  methods := #[k1m0, k1m1, k1m2, k1m3]
  instanceTypes := #[]
  staticTypes := #[.long]
  resolved := Array.replicate 43 none
  statics := none }

def pool2 : Array CpInfo := pool [(1, .methodref 2 3), (0, .class_ 4), (0, .nameAndType 5 6), (0, u "java/lang/Object"), (0, u "<init>"), (0, u "()V"), (0, .fieldref 8 9), (0, .class_ 10), (0, .nameAndType 11 12), (0, u "com/example/sieveline/sieveline/cli/Draws"), (0, u "state"), (0, u "J"), (0, .long 11400714819323198485), (1, .long 13787848793156543929), (1, .long 10723151780598845931), (3, u "next"), (0, u "()J"), (45, u "GAMMA"), (1, u "(J)V")] 31

def k2c0 : Code := { maxStack := 3, maxLocals := 3, code := prog_4_method_1_code, exceptionTable := #[], attributes := #[] }
def k2m0 : Method := { name := "<init>", desc := "(J)V", sig := { parameters := [.long], returnType := none }, accessFlags := 0, code := some k2c0 }
def k2c1 : Code := { maxStack := 5, maxLocals := 3, code := prog_4_method_2_code, exceptionTable := #[], attributes := #[] }
def k2m1 : Method := { name := "next", desc := "()J", sig := { parameters := [], returnType := some .long }, accessFlags := 0, code := some k2c1 }
/-- com/example/sieveline/sieveline/cli/Draws -/
def k2 : Class := { plain "com/example/sieveline/sieveline/cli/Draws" (some 0) with
  accessFlags := 48
  interfaces := #[]
  cf := some (fileOf pool2 8 #[] #[{ accessFlags := 0, nameIndex := 5, descriptorIndex := 70, attributes := #[] }, { accessFlags := 0, nameIndex := 21, descriptorIndex := 22, attributes := #[] }] 48 2 #[] #[{ accessFlags := 26, nameIndex := 68, descriptorIndex := 12, attributes := #[] }, { accessFlags := 2, nameIndex := 11, descriptorIndex := 12, attributes := #[] }])
  fields := #[{ name := "GAMMA", type := .long, accessFlags := 26, slot := 0, constantValue := 0 }, { name := "state", type := .long, accessFlags := 2, slot := 0, constantValue := 0 }]
  methods := #[k2m0, k2m1]
  instanceTypes := #[.long]
  staticTypes := #[.long]
  resolved := Array.replicate 102 none
  statics := none }

def pool3 : Array CpInfo := pool [(1, u "java/lang/Cloneable"), (0, .class_ 1), (0, u "java/lang/Object"), (0, .class_ 3)] 3

/-- java/lang/Cloneable -/
def k3 : Class := { plain "java/lang/Cloneable" (some 0) with
  accessFlags := 1537
  interfaces := #[]
  cf := some (fileOf pool3 2 #[] #[] 1537 4 #[] #[])
  fields := #[]
  methods := #[]
  instanceTypes := #[]
  staticTypes := #[]
  resolved := Array.replicate 8 none
  statics := none }

def pool4 : Array CpInfo := pool [(1, u "java/io/Serializable"), (0, .class_ 1), (0, u "java/lang/Object"), (0, .class_ 3)] 3

/-- java/io/Serializable -/
def k4 : Class := { plain "java/io/Serializable" (some 0) with
  accessFlags := 1537
  interfaces := #[]
  cf := some (fileOf pool4 2 #[] #[] 1537 4 #[] #[])
  fields := #[]
  methods := #[]
  instanceTypes := #[]
  staticTypes := #[]
  resolved := Array.replicate 8 none
  statics := none }

/-- the primitive byte -/
def k5 : Class := { plain "byte" none with kind := .primitive 'B', accessFlags := 0x411 }
/-- [B -/
def k6 : Class := { plain "[B" (some 0) with kind := .array 5 .byte, interfaces := #[3, 4], accessFlags := 1041 }

def heap : Heap := #[]
def classes : Array Class := #[k0, k1, k2, k3, k4, k5, k6]
def interned : List (Array UInt16 × Addr) := []
def slotsUsed : Nat := 0
def theMethod : MethodId := ⟨1, 3⟩
def args0 : Array Value := #[.long 5]
def aboutOver (below : List Frame) : State where
  vm := { classes := classes, interned := interned.toArray }
  heap := heap
  slotsUsed := slotsUsed
  threads := #[{ frames := .invoking theMethod args0 :: below }]
def below0 : List Frame := [.native { method := ⟨0, 0⟩, args := #[] }]
def about1 : State := aboutOver below0
def p0 : Program := .bare "" "" ""
def e0 : Env := launch0.env 0 0 0
theorem w_frames : about1.frames = Frame.invoking theMethod args0 :: below0 := rfl
set_option maxRecDepth 65536 in
theorem w_args : argsFit about1.vm theMethod args0 = true := by decide +kernel
set_option maxRecDepth 65536 in
theorem w_heap : heapFits about1 = true := by decide +kernel
set_option maxRecDepth 65536 in
theorem w_runnable : about1.curStatus? = some .runnable := by decide +kernel
set_option maxRecDepth 65536 in
theorem w_alone : about1.alone = true := by decide +kernel
set_option maxRecDepth 65536 in
theorem w_named : about1.methodNamed? x = some theMethod := by decide +kernel
set_option maxRecDepth 65536 in
theorem w_hears : about1.hears theMethod below0 = true := by decide +kernel
set_option maxRecDepth 65536 in
theorem w_ripe : about1.ripe theMethod args0 below0 = true := by decide +kernel
theorem w_running : about1.status = .running := rfl
set_option maxRecDepth 65536 in
theorem w_room : about1.hasRoom e0.platform room_1 = true :=
  launch0.hasRoom_least _ room_1 (by decide +kernel) (by decide +kernel) (by decide +kernel) (by decide +kernel) (by decide +kernel) (by decide +kernel)
theorem allAtoms_all (ts : List Jvm.Cond) (a : Array Jvm.Value) (st : Jvm.State) : (allAtoms ts).before a st = ts.all (fun c => c.before a st) := by
  induction ts with
  | nil => rfl
  | cons c t ih =>
    show (Jvm.Cond.and c (allAtoms t)).before a st = _
    rw [Jvm.Cond.before_and, ih, List.all_cons]
def words1 : List Jvm.Cond := Jvm.Cond.code x code maxLocals ret :: tables_1
/-- a 'code' word, met by the world's own term for the bytes: nothing is compared byte by byte -/
theorem code_word {y : MethodName} {bytes : ByteArray} {mx : Nat} {rt : Option FieldType} {a : Array Value} {s : State} {m : MethodId} {meth : Method} {c : Code} (h1 : s.methodNamed? y = some m) (h2 : s.vm.method? m = some meth) (h3 : meth.code = some c) (h4 : c.code = bytes)
    (h5 : (c.maxLocals == mx && c.exceptionTable.isEmpty && decide (c.maxStack ≤ mostOperands) && decide (meth.sig.returnType = rt) && !meth.locks && decide (parseMethodDescriptor y.desc = some meth.sig)) = true) : (Jvm.Cond.code y bytes mx rt).before a s = true := by
  simp only [Bool.and_eq_true, beq_iff_eq, Bool.not_eq_true', decide_eq_true_eq] at h5
  obtain ⟨⟨⟨⟨⟨g1, g2⟩, g3⟩, g4⟩, g5⟩, g6⟩ := h5
  simp [Cond.before, Cond.holds, Cond.value, h1, h2, h3, h4, g1, g2, g3, g4, g5, g6]
def isCode : Jvm.Cond → Bool
  | .code _ _ _ _ => true
  | _ => false
theorem all_split {L : List Jvm.Cond} {P : Jvm.Cond → Bool} (h1 : L.all (fun c => isCode c || P c) = true) (h2 : ∀ c ∈ L.filter isCode, P c = true) : L.all P = true := by
  refine List.all_eq_true.mpr fun c hc => ?_
  have h := List.all_eq_true.mp h1 c hc
  rcases Bool.eq_false_or_eq_true (isCode c) with hi | hi
  · exact h2 c (List.mem_filter.mpr ⟨hc, hi⟩)
  · simpa [hi] using h
set_option maxRecDepth 65536 in
theorem w_c0 : (Jvm.Cond.code x code maxLocals ret).before args0 about1 = true := code_word (m := ⟨1, 3⟩) (meth := k1m3) (c := k1c3) (by decide +kernel) rfl rfl rfl (by decide +kernel)
set_option maxRecDepth 65536 in
theorem w_c1 : (Jvm.Cond.code ({ cls := "com/example/sieveline/sieveline/cli/Draws", name := "<init>", desc := "(J)V" } : Jvm.MethodName) prog_4_method_1_code (3 : Nat) (Option.none : Option Jvm.ClassFile.FieldType)).before args0 about1 = true := code_word (m := ⟨2, 0⟩) (meth := k2m0) (c := k2c0) (by decide +kernel) rfl rfl rfl (by decide +kernel)
set_option maxRecDepth 65536 in
theorem w_c2 : (Jvm.Cond.code ({ cls := "java/lang/Object", name := "<init>", desc := "()V" } : Jvm.MethodName) object_method_1_code (1 : Nat) (Option.none : Option Jvm.ClassFile.FieldType)).before args0 about1 = true := code_word (m := ⟨0, 0⟩) (meth := k0m0) (c := k0c0) (by decide +kernel) rfl rfl rfl (by decide +kernel)
set_option maxRecDepth 65536 in
theorem w_c3 : (Jvm.Cond.code ({ cls := "com/example/sieveline/sieveline/cli/Draws", name := "next", desc := "()J" } : Jvm.MethodName) prog_4_method_2_code (3 : Nat) (Option.some Jvm.ClassFile.FieldType.long)).before args0 about1 = true := code_word (m := ⟨2, 1⟩) (meth := k2m1) (c := k2c1) (by decide +kernel) rfl rfl rfl (by decide +kernel)
set_option maxRecDepth 65536 in
theorem w_c4 : (Jvm.Cond.code ({ cls := "com/example/sieveline/sieveline/cli/DrawsNextPinLaw", name := "unmix", desc := "(J)J" } : Jvm.MethodName) method_3_code (4 : Nat) (Option.some Jvm.ClassFile.FieldType.long)).before args0 about1 = true := code_word (m := ⟨1, 2⟩) (meth := k1m2) (c := k1c2) (by decide +kernel) rfl rfl rfl (by decide +kernel)
set_option maxRecDepth 65536 in
theorem w_c5 : (Jvm.Cond.code ({ cls := "com/example/sieveline/sieveline/cli/DrawsNextPinLaw", name := "inverse", desc := "(J)J" } : Jvm.MethodName) method_2_code (4 : Nat) (Option.some Jvm.ClassFile.FieldType.long)).before args0 about1 = true := code_word (m := ⟨1, 1⟩) (meth := k1m1) (c := k1c1) (by decide +kernel) rfl rfl rfl (by decide +kernel)
def codes1 : List Jvm.Cond := [Jvm.Cond.code x code maxLocals ret, Jvm.Cond.code ({ cls := "com/example/sieveline/sieveline/cli/Draws", name := "<init>", desc := "(J)V" } : Jvm.MethodName) prog_4_method_1_code (3 : Nat) (Option.none : Option Jvm.ClassFile.FieldType), Jvm.Cond.code ({ cls := "java/lang/Object", name := "<init>", desc := "()V" } : Jvm.MethodName) object_method_1_code (1 : Nat) (Option.none : Option Jvm.ClassFile.FieldType), Jvm.Cond.code ({ cls := "com/example/sieveline/sieveline/cli/Draws", name := "next", desc := "()J" } : Jvm.MethodName) prog_4_method_2_code (3 : Nat) (Option.some Jvm.ClassFile.FieldType.long), Jvm.Cond.code ({ cls := "com/example/sieveline/sieveline/cli/DrawsNextPinLaw", name := "unmix", desc := "(J)J" } : Jvm.MethodName) method_3_code (4 : Nat) (Option.some Jvm.ClassFile.FieldType.long), Jvm.Cond.code ({ cls := "com/example/sieveline/sieveline/cli/DrawsNextPinLaw", name := "inverse", desc := "(J)J" } : Jvm.MethodName) method_2_code (4 : Nat) (Option.some Jvm.ClassFile.FieldType.long)]
set_option maxRecDepth 65536 in
theorem codes_eq : words1.filter isCode = codes1 := rfl
theorem w_codes : ∀ c ∈ words1.filter isCode, c.before args0 about1 = true := by
  rw [codes_eq]
  intro c hc
  simp only [codes1, List.mem_cons, List.not_mem_nil, or_false] at hc
  rcases hc with rfl | rfl | rfl | rfl | rfl | rfl
  · exact w_c0
  · exact w_c1
  · exact w_c2
  · exact w_c3
  · exact w_c4
  · exact w_c5
set_option maxRecDepth 65536 in
theorem w_t1 : (words1.take 24).all (fun c => isCode c || c.before args0 about1) = true := by decide +kernel
set_option maxRecDepth 65536 in
theorem w_t2 : (words1.drop 24).all (fun c => isCode c || c.before args0 about1) = true := by decide +kernel
theorem w_tables : (allAtoms (Jvm.Cond.code x code maxLocals ret :: tables_1)).before args0 about1 = true := by
  rw [allAtoms_all]
  show words1.all (fun c => c.before args0 about1) = true
  refine all_split ?_ w_codes
  rw [← List.take_append_drop 24 words1, List.all_append, w_t1, w_t2]
  rfl
set_option maxRecDepth 65536 in
theorem w_case : (Jvm.Cond.and given_1 narrow_1).before args0 about1 = true := by decide +kernel
theorem w_applies : (headSpec (Jvm.Cond.code x code maxLocals ret :: tables_1) room_1).applies x e0.platform about1 = true :=
  (Spec.applies_iff w_frames).mpr ⟨w_running, w_runnable, w_alone, w_named, w_hears, w_ripe, w_room, w_tables⟩
theorem atStart : AtStart classFile x code maxLocals ret World_1 tables_1 room_1 Calls_1 rest_1 Pre_1 launch0 p0 e0 about1 theMethod args0 below0 :=
  ⟨lists_1, trivial, launch0.admits_env _ _ _, launch0.least_env, fairChoices_fair.cas, fairChoices_fair.clock, w_frames, w_args, w_heap, w_applies, trivial, trivial, w_case⟩
end start1
theorem witness_1 : WitnessClaimed_1 := ⟨start1.p0, start1.e0, start1.about1, start1.theMethod, start1.args0, start1.below0, start1.atStart⟩
end Jvm.Pilot.@@N@@
