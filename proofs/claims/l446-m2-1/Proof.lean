import JvmDerived
import JvmDerived.Pilot.@@N@@Statement
import JvmDerived.Pilot.@@N@@Code
set_option linter.unusedVariables false
set_option linter.unusedSimpArgs false
namespace Jvm.Pilot.@@N@@
open Jvm Jvm.ClassFile Sem Op Lib Jvm.Free Jvm.Stand Jvm.LawKit Jvm.RoadKit Bundle Jvm.Pilot.@@N@@.Jvm.D
/-! own layer: the walk in continuation form -/
section OwnWalk
variable {p : Program} {l : Launch} {e : Env} {R : Room} {s : State} {m : MethodId} {args : Array Value} {below : List Frame} {meth : Method} {c : Code} {T T' : State} {locs : List Loc} {cells slots : Nat} {Q : Option Value → Heap → List Loc → Prop} {ck sk : Nat} {f f' : JFrame} {Z : State} {a0 : Array Value} {h h' : Heap}
/-- from this state and frame the invocation returns, and what it leaves is told by Q -/
def ownEnds (p : Program) (e : Env) (below : List Frame) (s : State) (Q : Option Value → Heap → List Loc → Prop) (ck sk : Nat) (T : State) (f : JFrame) : Prop :=
  ∃ s₂ o, Steps p.tables e below (T.setTop f) s₂ ∧ s₂.status = .running ∧ Ended s₂ below o ∧ ∃ v L, o = .returned v ∧ Q v s₂.heap L ∧ FrameEnd s o s₂ L ck sk
theorem ownGo (st : ∀ target, Steps p.tables e below (T'.setTop f') target → Steps p.tables e below (T.setTop f) target) (k : ownEnds p e below s Q ck sk T' f') : ownEnds p e below s Q ck sk T f := by
  obtain ⟨a, b, h1, h2⟩ := k
  exact ⟨a, b, st _ h1, h2⟩
theorem ownRun (st : Steps p.tables e below (T.setTop f) (T'.setTop f')) (k : ownEnds p e below s Q ck sk T' f') : ownEnds p e below s Q ck sk T f :=
  ownGo (fun _ q => st.trans q) k
theorem ownCast (q : f = f') (k : ownEnds p e below s Q ck sk T f') : ownEnds p e below s Q ck sk T f := q ▸ k
theorem ownRetI (X : Stand p l e R s m args below meth c T locs cells slots) (hx : p.tables.exec = Jvm.exec) {pc : Nat} {Ls : Array Slot} {z : Int32} {rest : List Value} (hret : meth.sig.returnType = some .int) (hd : decode c.code pc = .ok (.ireturn, 1)) (hk : meth.locks = false) (hc : cells ≤ ck) (hs : slots ≤ sk)
    (hQ : Q (some (.int z)) T.heap locs) : ownEnds p e below s Q ck sk T (mkF m pc Ls (.int z :: rest)) := by
  obtain ⟨fs, hr, hrun, hended, hW, hsame⟩ := X.leave (v := some (.int z)) (fun h => by rw [hret] at h; cases h) hk
  exact ⟨_, _, retOut X hx hret rfl (Or.inl ⟨rfl, Or.inl rfl, _, rfl⟩) hd hr, hrun, hended, _, _, rfl, hQ, ⟨_, rfl⟩, hW, hsame.mono hc hs⟩
theorem ownRetN (X : Stand p l e R s m args below meth c T locs cells slots) (hx : p.tables.exec = Jvm.exec) {pc : Nat} {Ls : Array Slot} {z r : Int32} {rest : List Value} {t : FieldType} (ht : t = .boolean ∨ t = .byte ∨ t = .char ∨ t = .short) (hret : meth.sig.returnType = some t) (hd : decode c.code pc = .ok (.ireturn, 1)) (hk : meth.locks = false) (hc : cells ≤ ck) (hs : slots ≤ sk)
    (hz : nar t z = r) (hQ : Q (some (.int r)) T.heap locs) : ownEnds p e below s Q ck sk T (mkF m pc Ls (.int z :: rest)) := by
  subst hz
  obtain ⟨fs, hr, hrun, hended, hW, hsame⟩ := X.leave (v := some (.int (nar t z))) (fun h => by rw [hret] at h; cases h) hk
  exact ⟨_, _, retN X hx hret ht hd hr, hrun, hended, _, _, rfl, hQ, ⟨_, rfl⟩, hW, hsame.mono hc hs⟩
theorem ownRetJ (X : Stand p l e R s m args below meth c T locs cells slots) (hx : p.tables.exec = Jvm.exec) {pc : Nat} {Ls : Array Slot} {z : Int64} {rest : List Value} (hret : meth.sig.returnType = some .long) (hd : decode c.code pc = .ok (.lreturn, 1)) (hk : meth.locks = false) (hc : cells ≤ ck) (hs : slots ≤ sk)
    (hQ : Q (some (.long z)) T.heap locs) : ownEnds p e below s Q ck sk T (mkF m pc Ls (.long z :: rest)) := by
  obtain ⟨fs, hr, hrun, hended, hW, hsame⟩ := X.leave (v := some (.long z)) (fun h => by rw [hret] at h; cases h) hk
  exact ⟨_, _, retOut X hx hret rfl (Or.inr (Or.inl ⟨rfl, rfl, _, rfl⟩)) hd hr, hrun, hended, _, _, rfl, hQ, ⟨_, rfl⟩, hW, hsame.mono hc hs⟩
theorem ownRetR (X : Stand p l e R s m args below meth c T locs cells slots) (hx : p.tables.exec = Jvm.exec) {pc : Nat} {Ls : Array Slot} {w : Value} {rest : List Value} {t : FieldType} (ht : t.isReference = true) (hn : narrow t w = w) (hw : w.isRef = true) (hret : meth.sig.returnType = some t) (hd : decode c.code pc = .ok (.areturn, 1)) (hk : meth.locks = false) (hc : cells ≤ ck) (hs : slots ≤ sk)
    (hQ : Q (some w) T.heap locs) : ownEnds p e below s Q ck sk T (mkF m pc Ls (w :: rest)) := by
  obtain ⟨fs, hr, hrun, hended, hW, hsame⟩ := X.leave (v := some w) (fun h => by rw [hret] at h; cases h) hk
  exact ⟨_, _, retOut X hx hret hn (Or.inr (Or.inr (Or.inr (Or.inr ⟨rfl, ht, hw⟩)))) hd hr, hrun, hended, _, _, rfl, hQ, ⟨_, rfl⟩, hW, hsame.mono hc hs⟩
theorem ownRetV (X : Stand p l e R s m args below meth c T locs cells slots) (hx : p.tables.exec = Jvm.exec) {pc : Nat} {Ls : Array Slot} (hret : meth.sig.returnType = none) (hd : decode c.code pc = .ok (.return_, 1)) (hk : meth.locks = false) (hc : cells ≤ ck) (hs : slots ≤ sk)
    (hQ : Q none T.heap locs) : ownEnds p e below s Q ck sk T (mkF m pc Ls []) := by
  obtain ⟨fs, hr, hrun, hended, hW, hsame⟩ := X.leave (v := none) (fun _ => rfl) hk
  exact ⟨_, _, X.returnOut hx hret hd hr, hrun, hended, _, _, rfl, hQ, ⟨_, rfl⟩, hW, hsame.mono hc hs⟩
/-- one place of a function turned -/
def ownUpd {α : Type} (f : Nat → α) (j : Nat) (x : α) : Nat → α := fun i => if i = j then x else f i
theorem ownUpd_same {α : Type} (f : Nat → α) (j : Nat) (x : α) : ownUpd f j x j = x := if_pos rfl
theorem ownUpd_ne {α : Type} (f : Nat → α) {i j : Nat} (x : α) (q : i ≠ j) : ownUpd f j x i = f i := if_neg q
/-- an array of ints (or bytes, chars ..): its length and its components -/
def ownAI (Z : State) (h : Heap) (a : Addr) (ty : FieldType) (n : Nat) (g : Nat → Int32) : Prop := ∃ cl : Cell, Arr Z h a cl ty ∧ cl.slots.size = n ∧ n < 2 ^ 31 ∧ ∀ i, i < n → cl.slots[i]? = some (.int (g i))
/-- an array of longs -/
def ownAJ (Z : State) (h : Heap) (a : Addr) (n : Nat) (g : Nat → Int64) : Prop := ∃ cl : Cell, Arr Z h a cl .long ∧ cl.slots.size = n ∧ n < 2 ^ 31 ∧ ∀ i, i < n → cl.slots[i]? = some (.long (g i))
variable {a b : Addr} {ty : FieldType} {n : Nat} {gi : Nat → Int32} {gj : Nat → Int64} {ws : List Addr} {sl : Nat} {v : Value}
theorem ownAI.lt (F : ownAI Z h a ty n gi) : a < h.size := by obtain ⟨c, A, -⟩ := F; exact A.lt
theorem ownAI.ext (F : ownAI Z h a ty n gi) (E : Ext h h') : ownAI Z h' a ty n gi := by obtain ⟨c, A, r⟩ := F; exact ⟨c, A.ext E, r⟩
theorem ownAI.other (F : ownAI Z h b ty n gi) (W : Wr h h' a sl v) (q : b ≠ a) : ownAI Z h' b ty n gi := by obtain ⟨c, A, r⟩ := F; exact ⟨c, A.other W q, r⟩
theorem ownAI.keep (F : ownAI Z h a ty n gi) (K : Keep h h' ws) (q : a ∉ ws) : ownAI Z h' a ty n gi := by obtain ⟨c, A, r⟩ := F; exact ⟨c, ⟨K.2.1 a c A.1 q, A.2⟩, r⟩
theorem ownAJ.lt (F : ownAJ Z h a n gj) : a < h.size := by obtain ⟨c, A, -⟩ := F; exact A.lt
theorem ownAJ.ext (F : ownAJ Z h a n gj) (E : Ext h h') : ownAJ Z h' a n gj := by obtain ⟨c, A, r⟩ := F; exact ⟨c, A.ext E, r⟩
theorem ownAJ.other (F : ownAJ Z h b n gj) (W : Wr h h' a sl v) (q : b ≠ a) : ownAJ Z h' b n gj := by obtain ⟨c, A, r⟩ := F; exact ⟨c, A.other W q, r⟩
theorem ownAJ.keep (F : ownAJ Z h a n gj) (K : Keep h h' ws) (q : a ∉ ws) : ownAJ Z h' a n gj := by obtain ⟨c, A, r⟩ := F; exact ⟨c, ⟨K.2.1 a c A.1 q, A.2⟩, r⟩
theorem ownAI.new {k : ClassId} {z : Int32} (A : Arr Z h a (newA k ty z) ty) (q : ¬ z < 0) (d : defaultValue ty = .int 0) (N : z.toNatClampNeg = n) : ownAI Z h a ty n (fun _ => 0) := by
  subst N
  refine ⟨_, A, sz_new _ _ _, (back32 q).2, fun i hi => ?_⟩
  simp [newA, hi, d]
theorem ownAJ.new {k : ClassId} {z : Int32} (A : Arr Z h a (newA k .long z) .long) (q : ¬ z < 0) (N : z.toNatClampNeg = n) : ownAJ Z h a n (fun _ => 0) := by
  subst N
  refine ⟨_, A, sz_new _ _ _, (back32 q).2, fun i hi => ?_⟩
  simp [newA, hi, defaultValue]
theorem ownAI.set (F : ownAI Z h a ty n gi) {j : Nat} {x : Int32} (W : Wr h h' a j (.int x)) : ownAI Z h' a ty n (ownUpd gi j x) := by
  obtain ⟨cl, A, S, N, H⟩ := F
  refine ⟨_, A.same W, by simpa [Cell.setSlot] using S, N, fun i hi => ?_⟩
  by_cases e : i = j
  · subst e; simp [Cell.setSlot, ownUpd, S, hi]
  · rw [ownUpd_ne _ _ e]
    show (cl.slots.setIfInBounds j (.int x))[i]? = _
    rw [Array.getElem?_setIfInBounds_ne (Ne.symm e)]; exact H i hi
theorem ownAJ.set (F : ownAJ Z h a n gj) {j : Nat} {x : Int64} (W : Wr h h' a j (.long x)) : ownAJ Z h' a n (ownUpd gj j x) := by
  obtain ⟨cl, A, S, N, H⟩ := F
  refine ⟨_, A.same W, by simpa [Cell.setSlot] using S, N, fun i hi => ?_⟩
  by_cases e : i = j
  · subst e; simp [Cell.setSlot, ownUpd, S, hi]
  · rw [ownUpd_ne _ _ e]
    show (cl.slots.setIfInBounds j (.long x))[i]? = _
    rw [Array.getElem?_setIfInBounds_ne (Ne.symm e)]; exact H i hi
/-- an index is inside -/
def ownIn (j : Int32) (n : Nat) : Prop := ¬ (j < 0 ∨ n ≤ j.toNatClampNeg)
theorem ownIn_of {j : Int32} {n : Nat} (h1 : 0 ≤ j.toInt) (h2 : j.toInt < n) : ownIn j n := by
  intro q
  rcases q with q | q
  · rw [Int32.lt_iff_toInt_lt] at q; simp only [Int32.reduceToInt] at q; omega
  · simp only [Int32.toNatClampNeg] at q; omega
theorem ownIaload (F : ownAI Z h a .int n gi) (X : Stand p l e R s m args below meth c T locs cells slots) (hx : p.tables.exec = Jvm.exec) (hZ : Z.Warmed39 s.vm) (eT : T.heap = h) {j : Int32} (hin : ownIn j n) {g : JFrame} (hg : g.method = m) {rest : List Value} (hs : g.stack = .int j :: .ref a :: rest) (hd : decode c.code g.pc = .ok (.iaload, 1)) :
    ∀ target, Steps p.tables e below (T.setTop { g with pc := g.pc + 1, stack := .int (gi j.toNatClampNeg) :: rest }) target → Steps p.tables e below (T.setTop g) target := by
  obtain ⟨cl, A, S, N, H⟩ := F
  subst S
  exact fun t k => X.iaload hx (by rw [eT]; exact A.1) (State.isArrayOf_alike hZ.alike A.2.1) A.2.2 hin (H _ (Nat.lt_of_not_le fun q => hin (Or.inr q))) hg hs hd t k
theorem ownBaload (F : ownAI Z h a .byte n gi) (X : Stand p l e R s m args below meth c T locs cells slots) (hx : p.tables.exec = Jvm.exec) (hZ : Z.Warmed39 s.vm) (eT : T.heap = h) {j : Int32} (hin : ownIn j n) {g : JFrame} (hg : g.method = m) {rest : List Value} (hs : g.stack = .int j :: .ref a :: rest) (hd : decode c.code g.pc = .ok (.baload, 1)) :
    ∀ target, Steps p.tables e below (T.setTop { g with pc := g.pc + 1, stack := .int (gi j.toNatClampNeg) :: rest }) target → Steps p.tables e below (T.setTop g) target := by
  obtain ⟨cl, A, S, N, H⟩ := F
  subst S
  exact fun t k => X.baloadBytes hx (by rw [eT]; exact A.1) (State.isArrayOf_alike hZ.alike A.2.1) A.2.2 hin (H _ (Nat.lt_of_not_le fun q => hin (Or.inr q))) hg hs hd t k
theorem ownCaload (F : ownAI Z h a .char n gi) (X : Stand p l e R s m args below meth c T locs cells slots) (hx : p.tables.exec = Jvm.exec) (hZ : Z.Warmed39 s.vm) (eT : T.heap = h) {j : Int32} (hin : ownIn j n) {g : JFrame} (hg : g.method = m) {rest : List Value} (hs : g.stack = .int j :: .ref a :: rest) (hd : decode c.code g.pc = .ok (.caload, 1)) :
    ∀ target, Steps p.tables e below (T.setTop { g with pc := g.pc + 1, stack := .int (gi j.toNatClampNeg) :: rest }) target → Steps p.tables e below (T.setTop g) target := by
  obtain ⟨cl, A, S, N, H⟩ := F
  subst S
  exact fun t k => X.caload hx (by rw [eT]; exact A.1) (State.isArrayOf_alike hZ.alike A.2.1) A.2.2 hin (H _ (Nat.lt_of_not_le fun q => hin (Or.inr q))) hg hs hd t k
theorem ownLaload (F : ownAJ Z h a n gj) (X : Stand p l e R s m args below meth c T locs cells slots) (hx : p.tables.exec = Jvm.exec) (hZ : Z.Warmed39 s.vm) (eT : T.heap = h) {j : Int32} (hin : ownIn j n) {g : JFrame} (hg : g.method = m) {rest : List Value} (hs : g.stack = .int j :: .ref a :: rest) (hd : decode c.code g.pc = .ok (.laload, 1)) :
    ∀ target, Steps p.tables e below (T.setTop { g with pc := g.pc + 1, stack := .long (gj j.toNatClampNeg) :: rest }) target → Steps p.tables e below (T.setTop g) target := by
  obtain ⟨cl, A, S, N, H⟩ := F
  subst S
  exact fun t k => X.laload hx (by rw [eT]; exact A.1) (State.isArrayOf_alike hZ.alike A.2.1) A.2.2 hin (H _ (Nat.lt_of_not_le fun q => hin (Or.inr q))) hg hs hd t k
theorem ownLenI (F : ownAI Z h a ty n gi) (X : Stand p l e R s m args below meth c T locs cells slots) (hx : p.tables.exec = Jvm.exec) (hZ : Z.Warmed39 s.vm) (eT : T.heap = h) {z : Int32} (hz : n.toInt32 = z) {g : JFrame} (hg : g.method = m) {rest : List Value} (hs : g.stack = .ref a :: rest) (hd : decode c.code g.pc = .ok (.arraylength, 1)) :
    ∀ target, Steps p.tables e below (T.setTop { g with pc := g.pc + 1, stack := .int z :: rest }) target → Steps p.tables e below (T.setTop g) target := by
  obtain ⟨cl, A, S, N, H⟩ := F
  subst S hz
  exact fun t k => X.arraylength hx (by rw [eT]; exact A.1) (State.isArrayOf_alike hZ.alike A.2.1) hg hs hd t k
theorem ownLenJ (F : ownAJ Z h a n gj) (X : Stand p l e R s m args below meth c T locs cells slots) (hx : p.tables.exec = Jvm.exec) (hZ : Z.Warmed39 s.vm) (eT : T.heap = h) {z : Int32} (hz : n.toInt32 = z) {g : JFrame} (hg : g.method = m) {rest : List Value} (hs : g.stack = .ref a :: rest) (hd : decode c.code g.pc = .ok (.arraylength, 1)) :
    ∀ target, Steps p.tables e below (T.setTop { g with pc := g.pc + 1, stack := .int z :: rest }) target → Steps p.tables e below (T.setTop g) target := by
  obtain ⟨cl, A, S, N, H⟩ := F
  subst S hz
  exact fun t k => X.arraylength hx (by rw [eT]; exact A.1) (State.isArrayOf_alike hZ.alike A.2.1) hg hs hd t k
theorem ownIastore (F : ownAI Z h a .int n gi) (X : Stand p l e R s m args below meth c T locs cells slots) (hx : p.tables.exec = Jvm.exec) (hZ : Z.Warmed39 s.vm) (eT : T.heap = h) {j x : Int32} (hin : ownIn j n) {g : JFrame} (hg : g.method = m) {rest : List Value} (hs : g.stack = .int x :: .int j :: .ref a :: rest) (hd : decode c.code g.pc = .ok (.iastore, 1)) :
    ∃ T' h', Stand p l e R s m args below meth c T' (locs ++ [⟨a, j.toNatClampNeg⟩]) cells slots ∧ T'.heap = h' ∧ Wr h h' a j.toNatClampNeg (.int x) ∧ ownAI Z h' a .int n (ownUpd gi j.toNatClampNeg x) ∧ ∀ target, Steps p.tables e below (T'.setTop { g with pc := g.pc + 1, stack := rest }) target → Steps p.tables e below (T.setTop g) target := by
  obtain ⟨cl, A, S, r⟩ := id F
  obtain ⟨T', h', X', e', W, st⟩ := stI X hx hZ eT A (j := j) (by rw [S]; exact hin) hg hs hd
  exact ⟨T', h', X', e', W, F.set W, st⟩
theorem ownBastore (F : ownAI Z h a .byte n gi) (X : Stand p l e R s m args below meth c T locs cells slots) (hx : p.tables.exec = Jvm.exec) (hZ : Z.Warmed39 s.vm) (eT : T.heap = h) {j x : Int32} (hin : ownIn j n) {g : JFrame} (hg : g.method = m) {rest : List Value} (hs : g.stack = .int x :: .int j :: .ref a :: rest) (hd : decode c.code g.pc = .ok (.bastore, 1)) :
    ∃ T' h', Stand p l e R s m args below meth c T' (locs ++ [⟨a, j.toNatClampNeg⟩]) cells slots ∧ T'.heap = h' ∧ Wr h h' a j.toNatClampNeg (.int (nar .byte x)) ∧ ownAI Z h' a .byte n (ownUpd gi j.toNatClampNeg (nar .byte x)) ∧ ∀ target, Steps p.tables e below (T'.setTop { g with pc := g.pc + 1, stack := rest }) target → Steps p.tables e below (T.setTop g) target := by
  obtain ⟨cl, A, S, r⟩ := id F
  obtain ⟨T', h', X', e', W, st⟩ := stB X hx hZ eT A (j := j) (by rw [S]; exact hin) hg hs hd
  exact ⟨T', h', X', e', W, F.set W, st⟩
theorem ownCastore (F : ownAI Z h a .char n gi) (X : Stand p l e R s m args below meth c T locs cells slots) (hx : p.tables.exec = Jvm.exec) (hZ : Z.Warmed39 s.vm) (eT : T.heap = h) {j x : Int32} (hin : ownIn j n) {g : JFrame} (hg : g.method = m) {rest : List Value} (hs : g.stack = .int x :: .int j :: .ref a :: rest) (hd : decode c.code g.pc = .ok (.castore, 1)) :
    ∃ T' h', Stand p l e R s m args below meth c T' (locs ++ [⟨a, j.toNatClampNeg⟩]) cells slots ∧ T'.heap = h' ∧ Wr h h' a j.toNatClampNeg (.int (nar .char x)) ∧ ownAI Z h' a .char n (ownUpd gi j.toNatClampNeg (nar .char x)) ∧ ∀ target, Steps p.tables e below (T'.setTop { g with pc := g.pc + 1, stack := rest }) target → Steps p.tables e below (T.setTop g) target := by
  obtain ⟨cl, A, S, r⟩ := id F
  obtain ⟨T', h', X', e', W, st⟩ := stC X hx hZ eT A (j := j) (by rw [S]; exact hin) hg hs hd
  exact ⟨T', h', X', e', W, F.set W, st⟩
theorem ownLastore (F : ownAJ Z h a n gj) (X : Stand p l e R s m args below meth c T locs cells slots) (hx : p.tables.exec = Jvm.exec) (hZ : Z.Warmed39 s.vm) (eT : T.heap = h) {j : Int32} {x : Int64} (hin : ownIn j n) {g : JFrame} (hg : g.method = m) {rest : List Value} (hs : g.stack = .long x :: .int j :: .ref a :: rest) (hd : decode c.code g.pc = .ok (.lastore, 1)) :
    ∃ T' h', Stand p l e R s m args below meth c T' (locs ++ [⟨a, j.toNatClampNeg⟩]) cells slots ∧ T'.heap = h' ∧ Wr h h' a j.toNatClampNeg (.long x) ∧ ownAJ Z h' a n (ownUpd gj j.toNatClampNeg x) ∧ ∀ target, Steps p.tables e below (T'.setTop { g with pc := g.pc + 1, stack := rest }) target → Steps p.tables e below (T.setTop g) target := by
  obtain ⟨cl, A, S, r⟩ := id F
  obtain ⟨T', h', X', e', W, st⟩ := stJ X hx hZ eT A (j := j) (by rw [S]; exact hin) hg hs hd
  exact ⟨T', h', X', e', W, F.set W, st⟩
theorem own_narb {x v : Int32} (h : x.toInt8.toInt32 = v) : nar .byte v = v := by subst h; simp [nar]
theorem own_narc {x v : Int32} (h : x.toUInt32.toUInt16.toUInt32.toInt32 = v) : nar .char v = v := by subst h; simp only [nar, UInt32.toUInt32_toInt32, UInt16.toUInt16_toUInt32]
theorem own_evInt {args : Array Value} {t : Term} {k : Int32} (h : (Cond.eq t (.int k)).value args s none s [] = some true) : t.eval args s none [] s = some (.int k) := by
  simp only [Cond.value, Term.eval] at h
  cases ht : t.eval args s none [] s with
  | none => simp [ht] at h
  | some x => cases x <;> simp [ht] at h ⊢; exact h
theorem own_fldInt {args : Array Value} {t : Term} {C n d : String} {k : Int32} {x : Addr} (h : (Cond.eq (.field t C n d) (.int k)).value args s none s [] = some true) (ht : t.eval args s none [] s = some (.ref x)) : Fld s s.heap x C n d (.int k) :=
  Fld.start ((fld_at ht).symm.trans (own_evInt h))
end OwnWalk
section OwnSteps
variable {p : Program} {l : Launch} {e : Env} {R : Room} {s : State} {m : MethodId} {args : Array Value} {below : List Frame} {meth : Method} {c : Code} {T : State} {locs : List Loc} {cells slots : Nat} {Q : Option Value → Heap → List Loc → Prop} {ck sk : Nat}
theorem ow_iloadN (X : Stand p l e R s m args below meth c T locs cells slots) (hx : p.tables.exec = Jvm.exec) {pc q : Nat} {Ls : Array Slot} {S : List Value} {k : Fin 4} {v : Int32} (hd : decode c.code pc = .ok (.iload_n k, 1)) (hq : pc + 1 = q) (hl : Ls[k.val]? = some (.val (.int v))) (k : ownEnds p e below s Q ck sk T (mkF m q Ls (.int v :: S))) : ownEnds p e below s Q ck sk T (mkF m pc Ls S) := by
  subst hq
  exact ownGo (fun _ k => XS.iloadN X.here hx rfl hd hl k) k
theorem ow_iload (X : Stand p l e R s m args below meth c T locs cells slots) (hx : p.tables.exec = Jvm.exec) {pc q : Nat} {Ls : Array Slot} {S : List Value} {k : Nat} {v : Int32} (hd : decode c.code pc = .ok (.iload k, 2)) (hq : pc + 2 = q) (hl : Ls[k]? = some (.val (.int v))) (k : ownEnds p e below s Q ck sk T (mkF m q Ls (.int v :: S))) : ownEnds p e below s Q ck sk T (mkF m pc Ls S) := by
  subst hq
  exact ownGo (fun _ k => XS.iload X.here hx rfl hd hl k) k
theorem ow_istoreN (X : Stand p l e R s m args below meth c T locs cells slots) (hx : p.tables.exec = Jvm.exec) {pc q : Nat} {Ls : Array Slot} {S : List Value} {k : Fin 4} {v : Int32} {L' : Array Slot} (hd : decode c.code pc = .ok (.istore_n k, 1)) (hq : pc + 1 = q) (hl : storeLocals Ls k.val (.int v) = some L') (k : ownEnds p e below s Q ck sk T (mkF m q L' S)) : ownEnds p e below s Q ck sk T (mkF m pc Ls (.int v :: S)) := by
  subst hq
  exact ownGo (fun _ k => XS.istoreN X.here hx rfl hd rfl hl k) k
theorem ow_istore (X : Stand p l e R s m args below meth c T locs cells slots) (hx : p.tables.exec = Jvm.exec) {pc q : Nat} {Ls : Array Slot} {S : List Value} {k : Nat} {v : Int32} {L' : Array Slot} (hd : decode c.code pc = .ok (.istore k, 2)) (hq : pc + 2 = q) (hl : storeLocals Ls k (.int v) = some L') (k : ownEnds p e below s Q ck sk T (mkF m q L' S)) : ownEnds p e below s Q ck sk T (mkF m pc Ls (.int v :: S)) := by
  subst hq
  exact ownGo (fun _ k => XS.istore X.here hx rfl hd rfl hl k) k
theorem ow_lloadN (X : Stand p l e R s m args below meth c T locs cells slots) (hx : p.tables.exec = Jvm.exec) {pc q : Nat} {Ls : Array Slot} {S : List Value} {k : Fin 4} {v : Int64} (hd : decode c.code pc = .ok (.lload_n k, 1)) (hq : pc + 1 = q) (hl : Ls[k.val]? = some (.val (.long v))) (k : ownEnds p e below s Q ck sk T (mkF m q Ls (.long v :: S))) : ownEnds p e below s Q ck sk T (mkF m pc Ls S) := by
  subst hq
  exact ownGo (fun _ k => XS.lloadN X.here hx rfl hd hl k) k
theorem ow_lload (X : Stand p l e R s m args below meth c T locs cells slots) (hx : p.tables.exec = Jvm.exec) {pc q : Nat} {Ls : Array Slot} {S : List Value} {k : Nat} {v : Int64} (hd : decode c.code pc = .ok (.lload k, 2)) (hq : pc + 2 = q) (hl : Ls[k]? = some (.val (.long v))) (k : ownEnds p e below s Q ck sk T (mkF m q Ls (.long v :: S))) : ownEnds p e below s Q ck sk T (mkF m pc Ls S) := by
  subst hq
  exact ownGo (fun _ k => XS.lload X.here hx rfl hd hl k) k
theorem ow_lstoreN (X : Stand p l e R s m args below meth c T locs cells slots) (hx : p.tables.exec = Jvm.exec) {pc q : Nat} {Ls : Array Slot} {S : List Value} {k : Fin 4} {v : Int64} {L' : Array Slot} (hd : decode c.code pc = .ok (.lstore_n k, 1)) (hq : pc + 1 = q) (hl : storeLocals Ls k.val (.long v) = some L') (k : ownEnds p e below s Q ck sk T (mkF m q L' S)) : ownEnds p e below s Q ck sk T (mkF m pc Ls (.long v :: S)) := by
  subst hq
  exact ownGo (fun _ k => XS.lstoreN X.here hx rfl hd rfl hl k) k
theorem ow_lstore (X : Stand p l e R s m args below meth c T locs cells slots) (hx : p.tables.exec = Jvm.exec) {pc q : Nat} {Ls : Array Slot} {S : List Value} {k : Nat} {v : Int64} {L' : Array Slot} (hd : decode c.code pc = .ok (.lstore k, 2)) (hq : pc + 2 = q) (hl : storeLocals Ls k (.long v) = some L') (k : ownEnds p e below s Q ck sk T (mkF m q L' S)) : ownEnds p e below s Q ck sk T (mkF m pc Ls (.long v :: S)) := by
  subst hq
  exact ownGo (fun _ k => XS.lstore X.here hx rfl hd rfl hl k) k
theorem ow_aloadN (X : Stand p l e R s m args below meth c T locs cells slots) (hx : p.tables.exec = Jvm.exec) {pc q : Nat} {Ls : Array Slot} {S : List Value} {k : Fin 4} {v : Value} (hd : decode c.code pc = .ok (.aload_n k, 1)) (hq : pc + 1 = q) (hl : Ls[k.val]? = some (.val v)) (hv : v.isRef = true) (k : ownEnds p e below s Q ck sk T (mkF m q Ls (v :: S))) : ownEnds p e below s Q ck sk T (mkF m pc Ls S) := by
  subst hq
  exact ownGo (fun _ k => XS.aloadN X.here hx rfl hd hl hv k) k
theorem ow_aload (X : Stand p l e R s m args below meth c T locs cells slots) (hx : p.tables.exec = Jvm.exec) {pc q : Nat} {Ls : Array Slot} {S : List Value} {k : Nat} {v : Value} (hd : decode c.code pc = .ok (.aload k, 2)) (hq : pc + 2 = q) (hl : Ls[k]? = some (.val v)) (hv : v.isRef = true) (k : ownEnds p e below s Q ck sk T (mkF m q Ls (v :: S))) : ownEnds p e below s Q ck sk T (mkF m pc Ls S) := by
  subst hq
  exact ownGo (fun _ k => XS.aload X.here hx rfl hd hl hv k) k
theorem ow_astoreN (X : Stand p l e R s m args below meth c T locs cells slots) (hx : p.tables.exec = Jvm.exec) {pc q : Nat} {Ls : Array Slot} {S : List Value} {k : Fin 4} {v : Value} {L' : Array Slot} (hd : decode c.code pc = .ok (.astore_n k, 1)) (hq : pc + 1 = q) (hv : v.isRef = true) (hl : storeLocals Ls k.val v = some L') (k : ownEnds p e below s Q ck sk T (mkF m q L' S)) : ownEnds p e below s Q ck sk T (mkF m pc Ls (v :: S)) := by
  subst hq
  exact ownGo (fun _ k => XS.astoreN X.here hx rfl hd rfl hv hl k) k
theorem ow_astore (X : Stand p l e R s m args below meth c T locs cells slots) (hx : p.tables.exec = Jvm.exec) {pc q : Nat} {Ls : Array Slot} {S : List Value} {k : Nat} {v : Value} {L' : Array Slot} (hd : decode c.code pc = .ok (.astore k, 2)) (hq : pc + 2 = q) (hv : v.isRef = true) (hl : storeLocals Ls k v = some L') (k : ownEnds p e below s Q ck sk T (mkF m q L' S)) : ownEnds p e below s Q ck sk T (mkF m pc Ls (v :: S)) := by
  subst hq
  exact ownGo (fun _ k => XS.astore X.here hx rfl hd rfl hv hl k) k
theorem ow_iconst (X : Stand p l e R s m args below meth c T locs cells slots) (hx : p.tables.exec = Jvm.exec) {pc q : Nat} {Ls : Array Slot} {S : List Value} {i : Int} (v : Int32) (hd : decode c.code pc = .ok (.iconst i, 1)) (hq : pc + 1 = q) (hz : Int32.ofInt i = v) (k : ownEnds p e below s Q ck sk T (mkF m q Ls (.int v :: S))) : ownEnds p e below s Q ck sk T (mkF m pc Ls S) := by
  subst hq hz
  exact ownGo (fun _ k => XS.iconst X.here hx rfl hd k) k
theorem ow_bipush (X : Stand p l e R s m args below meth c T locs cells slots) (hx : p.tables.exec = Jvm.exec) {pc q : Nat} {Ls : Array Slot} {S : List Value} {i : Int} (v : Int32) (hd : decode c.code pc = .ok (.bipush i, 2)) (hq : pc + 2 = q) (hz : (Int8.ofInt i).toInt32 = v) (k : ownEnds p e below s Q ck sk T (mkF m q Ls (.int v :: S))) : ownEnds p e below s Q ck sk T (mkF m pc Ls S) := by
  subst hq hz
  exact ownGo (fun _ k => XS.bipush X.here hx rfl hd k) k
theorem ow_sipush (X : Stand p l e R s m args below meth c T locs cells slots) (hx : p.tables.exec = Jvm.exec) {pc q : Nat} {Ls : Array Slot} {S : List Value} {i : Int} (v : Int32) (hd : decode c.code pc = .ok (.sipush i, 3)) (hq : pc + 3 = q) (hz : (Int16.ofInt i).toInt32 = v) (k : ownEnds p e below s Q ck sk T (mkF m q Ls (.int v :: S))) : ownEnds p e below s Q ck sk T (mkF m pc Ls S) := by
  subst hq hz
  exact ownGo (fun _ k => XS.sipush X.here hx rfl hd k) k
theorem ow_lconst (X : Stand p l e R s m args below meth c T locs cells slots) (hx : p.tables.exec = Jvm.exec) {pc q : Nat} {Ls : Array Slot} {S : List Value} {i : Fin 2} (v : Int64) (hd : decode c.code pc = .ok (.lconst i, 1)) (hq : pc + 1 = q) (hz : Int64.ofNat i = v) (k : ownEnds p e below s Q ck sk T (mkF m q Ls (.long v :: S))) : ownEnds p e below s Q ck sk T (mkF m pc Ls S) := by
  subst hq hz
  exact ownGo (fun _ k => XS.lconst X.here hx rfl hd k) k
theorem ow_iadd (X : Stand p l e R s m args below meth c T locs cells slots) (hx : p.tables.exec = Jvm.exec) {pc q : Nat} {Ls : Array Slot} {S : List Value} {x y : Int32} (z : Int32) (hd : decode c.code pc = .ok (.iadd, 1)) (hq : pc + 1 = q) (hz : x + y = z) (k : ownEnds p e below s Q ck sk T (mkF m q Ls (.int z :: S))) : ownEnds p e below s Q ck sk T (mkF m pc Ls (.int y :: .int x :: S)) := by
  subst hq hz
  exact ownGo (fun _ k => XS.iadd X.here hx rfl hd rfl k) k
theorem ow_ladd (X : Stand p l e R s m args below meth c T locs cells slots) (hx : p.tables.exec = Jvm.exec) {pc q : Nat} {Ls : Array Slot} {S : List Value} {x y : Int64} (z : Int64) (hd : decode c.code pc = .ok (.ladd, 1)) (hq : pc + 1 = q) (hz : x + y = z) (k : ownEnds p e below s Q ck sk T (mkF m q Ls (.long z :: S))) : ownEnds p e below s Q ck sk T (mkF m pc Ls (.long y :: .long x :: S)) := by
  subst hq hz
  exact ownGo (fun _ k => XS.ladd X.here hx rfl hd rfl k) k
theorem ow_isub (X : Stand p l e R s m args below meth c T locs cells slots) (hx : p.tables.exec = Jvm.exec) {pc q : Nat} {Ls : Array Slot} {S : List Value} {x y : Int32} (z : Int32) (hd : decode c.code pc = .ok (.isub, 1)) (hq : pc + 1 = q) (hz : x - y = z) (k : ownEnds p e below s Q ck sk T (mkF m q Ls (.int z :: S))) : ownEnds p e below s Q ck sk T (mkF m pc Ls (.int y :: .int x :: S)) := by
  subst hq hz
  exact ownGo (fun _ k => XS.isub X.here hx rfl hd rfl k) k
theorem ow_lsub (X : Stand p l e R s m args below meth c T locs cells slots) (hx : p.tables.exec = Jvm.exec) {pc q : Nat} {Ls : Array Slot} {S : List Value} {x y : Int64} (z : Int64) (hd : decode c.code pc = .ok (.lsub, 1)) (hq : pc + 1 = q) (hz : x - y = z) (k : ownEnds p e below s Q ck sk T (mkF m q Ls (.long z :: S))) : ownEnds p e below s Q ck sk T (mkF m pc Ls (.long y :: .long x :: S)) := by
  subst hq hz
  exact ownGo (fun _ k => XS.lsub X.here hx rfl hd rfl k) k
theorem ow_imul (X : Stand p l e R s m args below meth c T locs cells slots) (hx : p.tables.exec = Jvm.exec) {pc q : Nat} {Ls : Array Slot} {S : List Value} {x y : Int32} (z : Int32) (hd : decode c.code pc = .ok (.imul, 1)) (hq : pc + 1 = q) (hz : x * y = z) (k : ownEnds p e below s Q ck sk T (mkF m q Ls (.int z :: S))) : ownEnds p e below s Q ck sk T (mkF m pc Ls (.int y :: .int x :: S)) := by
  subst hq hz
  exact ownGo (fun _ k => XS.imul X.here hx rfl hd rfl k) k
theorem ow_lmul (X : Stand p l e R s m args below meth c T locs cells slots) (hx : p.tables.exec = Jvm.exec) {pc q : Nat} {Ls : Array Slot} {S : List Value} {x y : Int64} (z : Int64) (hd : decode c.code pc = .ok (.lmul, 1)) (hq : pc + 1 = q) (hz : x * y = z) (k : ownEnds p e below s Q ck sk T (mkF m q Ls (.long z :: S))) : ownEnds p e below s Q ck sk T (mkF m pc Ls (.long y :: .long x :: S)) := by
  subst hq hz
  exact ownGo (fun _ k => XS.lmul X.here hx rfl hd rfl k) k
theorem ow_iand (X : Stand p l e R s m args below meth c T locs cells slots) (hx : p.tables.exec = Jvm.exec) {pc q : Nat} {Ls : Array Slot} {S : List Value} {x y : Int32} (z : Int32) (hd : decode c.code pc = .ok (.iand, 1)) (hq : pc + 1 = q) (hz : x &&& y = z) (k : ownEnds p e below s Q ck sk T (mkF m q Ls (.int z :: S))) : ownEnds p e below s Q ck sk T (mkF m pc Ls (.int y :: .int x :: S)) := by
  subst hq hz
  exact ownGo (fun _ k => XS.iand X.here hx rfl hd rfl k) k
theorem ow_land (X : Stand p l e R s m args below meth c T locs cells slots) (hx : p.tables.exec = Jvm.exec) {pc q : Nat} {Ls : Array Slot} {S : List Value} {x y : Int64} (z : Int64) (hd : decode c.code pc = .ok (.land, 1)) (hq : pc + 1 = q) (hz : x &&& y = z) (k : ownEnds p e below s Q ck sk T (mkF m q Ls (.long z :: S))) : ownEnds p e below s Q ck sk T (mkF m pc Ls (.long y :: .long x :: S)) := by
  subst hq hz
  exact ownGo (fun _ k => XS.land X.here hx rfl hd rfl k) k
theorem ow_ior (X : Stand p l e R s m args below meth c T locs cells slots) (hx : p.tables.exec = Jvm.exec) {pc q : Nat} {Ls : Array Slot} {S : List Value} {x y : Int32} (z : Int32) (hd : decode c.code pc = .ok (.ior, 1)) (hq : pc + 1 = q) (hz : x ||| y = z) (k : ownEnds p e below s Q ck sk T (mkF m q Ls (.int z :: S))) : ownEnds p e below s Q ck sk T (mkF m pc Ls (.int y :: .int x :: S)) := by
  subst hq hz
  exact ownGo (fun _ k => XS.ior X.here hx rfl hd rfl k) k
theorem ow_lor (X : Stand p l e R s m args below meth c T locs cells slots) (hx : p.tables.exec = Jvm.exec) {pc q : Nat} {Ls : Array Slot} {S : List Value} {x y : Int64} (z : Int64) (hd : decode c.code pc = .ok (.lor, 1)) (hq : pc + 1 = q) (hz : x ||| y = z) (k : ownEnds p e below s Q ck sk T (mkF m q Ls (.long z :: S))) : ownEnds p e below s Q ck sk T (mkF m pc Ls (.long y :: .long x :: S)) := by
  subst hq hz
  exact ownGo (fun _ k => XS.lor X.here hx rfl hd rfl k) k
theorem ow_ixor (X : Stand p l e R s m args below meth c T locs cells slots) (hx : p.tables.exec = Jvm.exec) {pc q : Nat} {Ls : Array Slot} {S : List Value} {x y : Int32} (z : Int32) (hd : decode c.code pc = .ok (.ixor, 1)) (hq : pc + 1 = q) (hz : x ^^^ y = z) (k : ownEnds p e below s Q ck sk T (mkF m q Ls (.int z :: S))) : ownEnds p e below s Q ck sk T (mkF m pc Ls (.int y :: .int x :: S)) := by
  subst hq hz
  exact ownGo (fun _ k => XS.ixor X.here hx rfl hd rfl k) k
theorem ow_lxor (X : Stand p l e R s m args below meth c T locs cells slots) (hx : p.tables.exec = Jvm.exec) {pc q : Nat} {Ls : Array Slot} {S : List Value} {x y : Int64} (z : Int64) (hd : decode c.code pc = .ok (.lxor, 1)) (hq : pc + 1 = q) (hz : x ^^^ y = z) (k : ownEnds p e below s Q ck sk T (mkF m q Ls (.long z :: S))) : ownEnds p e below s Q ck sk T (mkF m pc Ls (.long y :: .long x :: S)) := by
  subst hq hz
  exact ownGo (fun _ k => XS.lxor X.here hx rfl hd rfl k) k
theorem ow_ishl (X : Stand p l e R s m args below meth c T locs cells slots) (hx : p.tables.exec = Jvm.exec) {pc q : Nat} {Ls : Array Slot} {S : List Value} {x y : Int32} (z : Int32) (hd : decode c.code pc = .ok (.ishl, 1)) (hq : pc + 1 = q) (hz : x <<< (y &&& 31) = z) (k : ownEnds p e below s Q ck sk T (mkF m q Ls (.int z :: S))) : ownEnds p e below s Q ck sk T (mkF m pc Ls (.int y :: .int x :: S)) := by
  subst hq hz
  exact ownGo (fun _ k => XS.ishl X.here hx rfl hd rfl k) k
theorem ow_ishr (X : Stand p l e R s m args below meth c T locs cells slots) (hx : p.tables.exec = Jvm.exec) {pc q : Nat} {Ls : Array Slot} {S : List Value} {x y : Int32} (z : Int32) (hd : decode c.code pc = .ok (.ishr, 1)) (hq : pc + 1 = q) (hz : x >>> (y &&& 31) = z) (k : ownEnds p e below s Q ck sk T (mkF m q Ls (.int z :: S))) : ownEnds p e below s Q ck sk T (mkF m pc Ls (.int y :: .int x :: S)) := by
  subst hq hz
  exact ownGo (fun _ k => XS.ishr X.here hx rfl hd rfl k) k
theorem ow_iushr (X : Stand p l e R s m args below meth c T locs cells slots) (hx : p.tables.exec = Jvm.exec) {pc q : Nat} {Ls : Array Slot} {S : List Value} {x y : Int32} (z : Int32) (hd : decode c.code pc = .ok (.iushr, 1)) (hq : pc + 1 = q) (hz : (x.toUInt32 >>> (y &&& 31).toUInt32).toInt32 = z) (k : ownEnds p e below s Q ck sk T (mkF m q Ls (.int z :: S))) : ownEnds p e below s Q ck sk T (mkF m pc Ls (.int y :: .int x :: S)) := by
  subst hq hz
  exact ownGo (fun _ k => XS.iushr X.here hx rfl hd rfl k) k
theorem ow_lshl (X : Stand p l e R s m args below meth c T locs cells slots) (hx : p.tables.exec = Jvm.exec) {pc q : Nat} {Ls : Array Slot} {S : List Value} {x : Int64} {y : Int32} (z : Int64) (hd : decode c.code pc = .ok (.lshl, 1)) (hq : pc + 1 = q) (hz : x <<< (y &&& 0x3f).toInt64 = z) (k : ownEnds p e below s Q ck sk T (mkF m q Ls (.long z :: S))) : ownEnds p e below s Q ck sk T (mkF m pc Ls (.int y :: .long x :: S)) := by
  subst hq hz
  exact ownGo (fun _ k => XS.lshl X.here hx rfl hd rfl k) k
theorem ow_lshr (X : Stand p l e R s m args below meth c T locs cells slots) (hx : p.tables.exec = Jvm.exec) {pc q : Nat} {Ls : Array Slot} {S : List Value} {x : Int64} {y : Int32} (z : Int64) (hd : decode c.code pc = .ok (.lshr, 1)) (hq : pc + 1 = q) (hz : x >>> (y &&& 0x3f).toInt64 = z) (k : ownEnds p e below s Q ck sk T (mkF m q Ls (.long z :: S))) : ownEnds p e below s Q ck sk T (mkF m pc Ls (.int y :: .long x :: S)) := by
  subst hq hz
  exact ownGo (fun _ k => XS.lshr X.here hx rfl hd rfl k) k
theorem ow_lushr (X : Stand p l e R s m args below meth c T locs cells slots) (hx : p.tables.exec = Jvm.exec) {pc q : Nat} {Ls : Array Slot} {S : List Value} {x : Int64} {y : Int32} (z : Int64) (hd : decode c.code pc = .ok (.lushr, 1)) (hq : pc + 1 = q) (hz : (x.toUInt64 >>> (y &&& 0x3f).toInt64.toUInt64).toInt64 = z) (k : ownEnds p e below s Q ck sk T (mkF m q Ls (.long z :: S))) : ownEnds p e below s Q ck sk T (mkF m pc Ls (.int y :: .long x :: S)) := by
  subst hq hz
  exact ownGo (fun _ k => XS.lushr X.here hx rfl hd rfl k) k
theorem ow_ineg (X : Stand p l e R s m args below meth c T locs cells slots) (hx : p.tables.exec = Jvm.exec) {pc q : Nat} {Ls : Array Slot} {S : List Value} {x : Int32} (z : Int32) (hd : decode c.code pc = .ok (.ineg, 1)) (hq : pc + 1 = q) (hz : -x = z) (k : ownEnds p e below s Q ck sk T (mkF m q Ls (.int z :: S))) : ownEnds p e below s Q ck sk T (mkF m pc Ls (.int x :: S)) := by
  subst hq hz
  exact ownGo (fun _ k => XS.ineg X.here hx rfl hd rfl k) k
theorem ow_lneg (X : Stand p l e R s m args below meth c T locs cells slots) (hx : p.tables.exec = Jvm.exec) {pc q : Nat} {Ls : Array Slot} {S : List Value} {x : Int64} (z : Int64) (hd : decode c.code pc = .ok (.lneg, 1)) (hq : pc + 1 = q) (hz : -x = z) (k : ownEnds p e below s Q ck sk T (mkF m q Ls (.long z :: S))) : ownEnds p e below s Q ck sk T (mkF m pc Ls (.long x :: S)) := by
  subst hq hz
  exact ownGo (fun _ k => XS.lneg X.here hx rfl hd rfl k) k
theorem ow_i2l (X : Stand p l e R s m args below meth c T locs cells slots) (hx : p.tables.exec = Jvm.exec) {pc q : Nat} {Ls : Array Slot} {S : List Value} {x : Int32} (z : Int64) (hd : decode c.code pc = .ok (.i2l, 1)) (hq : pc + 1 = q) (hz : x.toInt64 = z) (k : ownEnds p e below s Q ck sk T (mkF m q Ls (.long z :: S))) : ownEnds p e below s Q ck sk T (mkF m pc Ls (.int x :: S)) := by
  subst hq hz
  exact ownGo (fun _ k => XS.i2l X.here hx rfl hd rfl k) k
theorem ow_l2i (X : Stand p l e R s m args below meth c T locs cells slots) (hx : p.tables.exec = Jvm.exec) {pc q : Nat} {Ls : Array Slot} {S : List Value} {x : Int64} (z : Int32) (hd : decode c.code pc = .ok (.l2i, 1)) (hq : pc + 1 = q) (hz : x.toInt32 = z) (k : ownEnds p e below s Q ck sk T (mkF m q Ls (.int z :: S))) : ownEnds p e below s Q ck sk T (mkF m pc Ls (.long x :: S)) := by
  subst hq hz
  exact ownGo (fun _ k => XS.l2i X.here hx rfl hd rfl k) k
theorem ow_i2b (X : Stand p l e R s m args below meth c T locs cells slots) (hx : p.tables.exec = Jvm.exec) {pc q : Nat} {Ls : Array Slot} {S : List Value} {x : Int32} (z : Int32) (hd : decode c.code pc = .ok (.i2b, 1)) (hq : pc + 1 = q) (hz : x.toInt8.toInt32 = z) (k : ownEnds p e below s Q ck sk T (mkF m q Ls (.int z :: S))) : ownEnds p e below s Q ck sk T (mkF m pc Ls (.int x :: S)) := by
  subst hq hz
  exact ownGo (fun _ k => XS.i2b X.here hx rfl hd rfl k) k
theorem ow_i2s (X : Stand p l e R s m args below meth c T locs cells slots) (hx : p.tables.exec = Jvm.exec) {pc q : Nat} {Ls : Array Slot} {S : List Value} {x : Int32} (z : Int32) (hd : decode c.code pc = .ok (.i2s, 1)) (hq : pc + 1 = q) (hz : x.toInt16.toInt32 = z) (k : ownEnds p e below s Q ck sk T (mkF m q Ls (.int z :: S))) : ownEnds p e below s Q ck sk T (mkF m pc Ls (.int x :: S)) := by
  subst hq hz
  exact ownGo (fun _ k => XS.i2s X.here hx rfl hd rfl k) k
theorem ow_i2c (X : Stand p l e R s m args below meth c T locs cells slots) (hx : p.tables.exec = Jvm.exec) {pc q : Nat} {Ls : Array Slot} {S : List Value} {x : Int32} (z : Int32) (hd : decode c.code pc = .ok (.i2c, 1)) (hq : pc + 1 = q) (hz : x.toUInt32.toUInt16.toUInt32.toInt32 = z) (k : ownEnds p e below s Q ck sk T (mkF m q Ls (.int z :: S))) : ownEnds p e below s Q ck sk T (mkF m pc Ls (.int x :: S)) := by
  subst hq hz
  exact ownGo (fun _ k => XS.i2c X.here hx rfl hd rfl k) k
theorem ow_lcmp (X : Stand p l e R s m args below meth c T locs cells slots) (hx : p.tables.exec = Jvm.exec) {pc q : Nat} {Ls : Array Slot} {S : List Value} {x y : Int64} (z : Int32) (hd : decode c.code pc = .ok (.lcmp, 1)) (hq : pc + 1 = q) (hz : Jvm.Free.XT.cmpL x y = z) (k : ownEnds p e below s Q ck sk T (mkF m q Ls (.int z :: S))) : ownEnds p e below s Q ck sk T (mkF m pc Ls (.long y :: .long x :: S)) := by
  subst hq hz
  exact ownGo (fun _ k => Jvm.Free.XT.lcmp X.here hx rfl hd rfl k) k
theorem ow_idiv (X : Stand p l e R s m args below meth c T locs cells slots) (hx : p.tables.exec = Jvm.exec) {pc q : Nat} {Ls : Array Slot} {S : List Value} {x y : Int32} (z : Int32) (hd : decode c.code pc = .ok (.idiv, 1)) (hq : pc + 1 = q) (hy : y ≠ 0) (hz : x / y = z) (k : ownEnds p e below s Q ck sk T (mkF m q Ls (.int z :: S))) : ownEnds p e below s Q ck sk T (mkF m pc Ls (.int y :: .int x :: S)) := by
  subst hq hz
  exact ownGo (fun _ k => XS.idiv X.here hx rfl hd rfl hy k) k
theorem ow_irem (X : Stand p l e R s m args below meth c T locs cells slots) (hx : p.tables.exec = Jvm.exec) {pc q : Nat} {Ls : Array Slot} {S : List Value} {x y : Int32} (z : Int32) (hd : decode c.code pc = .ok (.irem, 1)) (hq : pc + 1 = q) (hy : y ≠ 0) (hz : x % y = z) (k : ownEnds p e below s Q ck sk T (mkF m q Ls (.int z :: S))) : ownEnds p e below s Q ck sk T (mkF m pc Ls (.int y :: .int x :: S)) := by
  subst hq hz
  exact ownGo (fun _ k => iremM X hx rfl hd rfl hy k) k
theorem ow_ldiv (X : Stand p l e R s m args below meth c T locs cells slots) (hx : p.tables.exec = Jvm.exec) {pc q : Nat} {Ls : Array Slot} {S : List Value} {x y : Int64} (z : Int64) (hd : decode c.code pc = .ok (.ldiv, 1)) (hq : pc + 1 = q) (hy : y ≠ 0) (hz : x / y = z) (k : ownEnds p e below s Q ck sk T (mkF m q Ls (.long z :: S))) : ownEnds p e below s Q ck sk T (mkF m pc Ls (.long y :: .long x :: S)) := by
  subst hq hz
  exact ownGo (fun _ k => XS.ldiv X.here hx rfl hd rfl hy k) k
theorem ow_lrem (X : Stand p l e R s m args below meth c T locs cells slots) (hx : p.tables.exec = Jvm.exec) {pc q : Nat} {Ls : Array Slot} {S : List Value} {x y : Int64} (z : Int64) (hd : decode c.code pc = .ok (.lrem, 1)) (hq : pc + 1 = q) (hy : y ≠ 0) (hz : x - (x / y) * y = z) (k : ownEnds p e below s Q ck sk T (mkF m q Ls (.long z :: S))) : ownEnds p e below s Q ck sk T (mkF m pc Ls (.long y :: .long x :: S)) := by
  subst hq hz
  exact ownGo (fun _ k => XS.lrem X.here hx rfl hd rfl hy k) k
theorem ow_iinc (X : Stand p l e R s m args below meth c T locs cells slots) (hx : p.tables.exec = Jvm.exec) {pc q : Nat} {Ls : Array Slot} {S : List Value} {k : Nat} {i : Int} {x : Int32} {L' : Array Slot} (hd : decode c.code pc = .ok (.iinc k i, 3)) (hq : pc + 3 = q) (hl : Ls[k]? = some (.val (.int x))) (hl' : storeLocals Ls k (.int (x + Int32.ofInt i)) = some L') (k : ownEnds p e below s Q ck sk T (mkF m q L' S)) : ownEnds p e below s Q ck sk T (mkF m pc Ls S) := by
  subst hq
  exact ownGo (fun _ k => XS.iinc X.here hx rfl hd hl hl' k) k
theorem ow_dup (X : Stand p l e R s m args below meth c T locs cells slots) (hx : p.tables.exec = Jvm.exec) {pc q : Nat} {Ls : Array Slot} {S : List Value} {v : Value} (hd : decode c.code pc = .ok (.dup, 1)) (hq : pc + 1 = q) (hc : v.category = 1) (k : ownEnds p e below s Q ck sk T (mkF m q Ls (v :: v :: S))) : ownEnds p e below s Q ck sk T (mkF m pc Ls (v :: S)) := by
  subst hq
  exact ownGo (fun _ k => XS.dup X.here hx rfl hd rfl hc k) k
theorem ow_dupX1 (X : Stand p l e R s m args below meth c T locs cells slots) (hx : p.tables.exec = Jvm.exec) {pc q : Nat} {Ls : Array Slot} {S : List Value} {v w : Value} (hd : decode c.code pc = .ok (.dup_x1, 1)) (hq : pc + 1 = q) (hc : v.category = 1) (hc' : w.category = 1) (k : ownEnds p e below s Q ck sk T (mkF m q Ls (v :: w :: v :: S))) : ownEnds p e below s Q ck sk T (mkF m pc Ls (v :: w :: S)) := by
  subst hq
  exact ownGo (fun _ k => XS.dupX1 X.here hx rfl hd rfl hc hc' k) k
theorem ow_dup2 (X : Stand p l e R s m args below meth c T locs cells slots) (hx : p.tables.exec = Jvm.exec) {pc q : Nat} {Ls : Array Slot} {S : List Value} {v w : Value} (hd : decode c.code pc = .ok (.dup2, 1)) (hq : pc + 1 = q) (hc : v.category = 1) (hc' : w.category = 1) (k : ownEnds p e below s Q ck sk T (mkF m q Ls (v :: w :: v :: w :: S))) : ownEnds p e below s Q ck sk T (mkF m pc Ls (v :: w :: S)) := by
  subst hq
  exact ownGo (fun _ k => Jvm.Free.XT.dup2 X.here hx rfl hd rfl hc hc' k) k
theorem ow_dup2L (X : Stand p l e R s m args below meth c T locs cells slots) (hx : p.tables.exec = Jvm.exec) {pc q : Nat} {Ls : Array Slot} {S : List Value} {v : Int64} (hd : decode c.code pc = .ok (.dup2, 1)) (hq : pc + 1 = q) (k : ownEnds p e below s Q ck sk T (mkF m q Ls (.long v :: .long v :: S))) : ownEnds p e below s Q ck sk T (mkF m pc Ls (.long v :: S)) := by
  subst hq
  exact ownGo (fun _ k => Jvm.Free.XT.dup2L X.here hx rfl hd rfl k) k
theorem ow_pop (X : Stand p l e R s m args below meth c T locs cells slots) (hx : p.tables.exec = Jvm.exec) {pc q : Nat} {Ls : Array Slot} {S : List Value} {v : Value} (hd : decode c.code pc = .ok (.pop, 1)) (hq : pc + 1 = q) (hc : v.category = 1) (k : ownEnds p e below s Q ck sk T (mkF m q Ls S)) : ownEnds p e below s Q ck sk T (mkF m pc Ls (v :: S)) := by
  subst hq
  exact ownGo (fun _ k => XS.pop X.here hx rfl hd rfl hc k) k
theorem ow_aconstNull (X : Stand p l e R s m args below meth c T locs cells slots) (hx : p.tables.exec = Jvm.exec) {pc q : Nat} {Ls : Array Slot} {S : List Value}  (hd : decode c.code pc = .ok (.aconst_null, 1)) (hq : pc + 1 = q) (k : ownEnds p e below s Q ck sk T (mkF m q Ls (.null :: S))) : ownEnds p e below s Q ck sk T (mkF m pc Ls S) := by
  subst hq
  exact ownGo (fun _ k => XS.aconstNull X.here hx rfl hd k) k
theorem ow_goto (X : Stand p l e R s m args below meth c T locs cells slots) (hx : p.tables.exec = Jvm.exec) {pc q : Nat} {Ls : Array Slot} {S : List Value} {o : Int} (hd : decode c.code pc = .ok (.goto o, 3)) (ho : 0 ≤ (pc : Int) + o) (hp : ((pc : Int) + o).toNat = q) (k : ownEnds p e below s Q ck sk T (mkF m q Ls S)) : ownEnds p e below s Q ck sk T (mkF m pc Ls S) :=
  ownGo (fun _ k => XS.goto X.here hx rfl rfl hd ho hp k) k
theorem ow_ifYes (X : Stand p l e R s m args below meth c T locs cells slots) (hx : p.tables.exec = Jvm.exec) {pc q : Nat} {Ls : Array Slot} {S : List Value} {cd : ClassFile.Cond} {o : Int} {x : Int32} (hd : decode c.code pc = .ok (.ifCond cd o, 3)) (hc : ifCond.holds cd x = true) (ho : 0 ≤ (pc : Int) + o) (hp : ((pc : Int) + o).toNat = q) (k : ownEnds p e below s Q ck sk T (mkF m q Ls S)) : ownEnds p e below s Q ck sk T (mkF m pc Ls (.int x :: S)) :=
  ownGo (fun _ k => XS.ifYes X.here hx rfl rfl hd rfl hc ho hp k) k
theorem ow_ifNo (X : Stand p l e R s m args below meth c T locs cells slots) (hx : p.tables.exec = Jvm.exec) {pc q : Nat} {Ls : Array Slot} {S : List Value} {cd : ClassFile.Cond} {o : Int} {x : Int32} (hd : decode c.code pc = .ok (.ifCond cd o, 3)) (hq : pc + 3 = q) (hc : ifCond.holds cd x = false) (k : ownEnds p e below s Q ck sk T (mkF m q Ls S)) : ownEnds p e below s Q ck sk T (mkF m pc Ls (.int x :: S)) := by
  subst hq
  exact ownGo (fun _ k => XS.ifNo X.here hx rfl hd rfl hc k) k
theorem ow_icmpYes (X : Stand p l e R s m args below meth c T locs cells slots) (hx : p.tables.exec = Jvm.exec) {pc q : Nat} {Ls : Array Slot} {S : List Value} {cd : ClassFile.Cond} {o : Int} {x y : Int32} (hd : decode c.code pc = .ok (.if_icmp cd o, 3)) (hc : if_icmp.holds cd x y = true) (ho : 0 ≤ (pc : Int) + o) (hp : ((pc : Int) + o).toNat = q) (k : ownEnds p e below s Q ck sk T (mkF m q Ls S)) : ownEnds p e below s Q ck sk T (mkF m pc Ls (.int y :: .int x :: S)) :=
  ownGo (fun _ k => XS.icmpYes X.here hx rfl rfl hd rfl hc ho hp k) k
theorem ow_icmpNo (X : Stand p l e R s m args below meth c T locs cells slots) (hx : p.tables.exec = Jvm.exec) {pc q : Nat} {Ls : Array Slot} {S : List Value} {cd : ClassFile.Cond} {o : Int} {x y : Int32} (hd : decode c.code pc = .ok (.if_icmp cd o, 3)) (hq : pc + 3 = q) (hc : if_icmp.holds cd x y = false) (k : ownEnds p e below s Q ck sk T (mkF m q Ls S)) : ownEnds p e below s Q ck sk T (mkF m pc Ls (.int y :: .int x :: S)) := by
  subst hq
  exact ownGo (fun _ k => XS.icmpNo X.here hx rfl hd rfl hc k) k
end OwnSteps
theorem own_pn_IntQueue : plainName "com/example/swarm_tally/swarmtally/IntQueue" = true := by first | (simp [plainName, overriddenIn]; done) | decide +kernel
theorem own_d1_0 : decode prog_11_method_1_code 0 = .ok (.aload_n 0, 1) := by decide +kernel
theorem own_d1_1 : decode prog_11_method_1_code 1 = .ok (.invokespecial 1, 3) := by decide +kernel
theorem own_d1_4 : decode prog_11_method_1_code 4 = .ok (.aload_n 0, 1) := by decide +kernel
theorem own_d1_5 : decode prog_11_method_1_code 5 = .ok (.bipush 16, 2) := by decide +kernel
theorem own_d1_7 : decode prog_11_method_1_code 7 = .ok (.newarray .int, 2) := by decide +kernel
theorem own_d1_9 : decode prog_11_method_1_code 9 = .ok (.putfield 7, 3) := by decide +kernel
theorem own_d1_12 : decode prog_11_method_1_code 12 = .ok (.return_, 1) := by decide +kernel
theorem own_ef1_init (m : MethodId) (a0 : Addr) : entryFrame m #[(.ref a0)] 1 = mkF m 0 #[rv a0] [] := by first | (simp [entryFrame, mkF, argsToLocals, Value.category]; done) | rfl
def Q_init (Z : State) (a0 : Addr) (h0 : Heap) (n0 : Nat) (v : Option Value) (h : Heap) (L : List Loc) : Prop := ∃ (ar : Addr), v = none ∧ Fr n0 L ∧ Keep h0 h [a0] ∧ h0.size ≤ ar ∧ Exa Z h a0 "com/example/swarm_tally/swarmtally/IntQueue" ∧ Fld Z h a0 "com/example/swarm_tally/swarmtally/IntQueue" "ring" "[I" (.ref ar) ∧ Fld Z h a0 "com/example/swarm_tally/swarmtally/IntQueue" "size" "I" (.int (0 : Int32)) ∧ Fld Z h a0 "com/example/swarm_tally/swarmtally/IntQueue" "head" "I" (.int (0 : Int32)) ∧ ownAI Z h ar .int 16 (fun _ => (0 : Int32))
set_option maxRecDepth 65536 in
set_option maxHeartbeats 40000000 in
theorem rm_init (l : Launch) (Z : State) (a0 : Array Value) (hw : ∀ d ∈ tables_1, d.before a0 Z = true) (ws : List Jvm.Cond) (a0 : Addr) (h0 : Heap) (n0 : Nat) (Z0 : n0 ≤ h0.size) (HF0 : Exa Z h0 a0 "com/example/swarm_tally/swarmtally/IntQueue") (HF1 : Fld Z h0 a0 "com/example/swarm_tally/swarmtally/IntQueue" "ring" "[I" .null) (HF2 : Fld Z h0 a0 "com/example/swarm_tally/swarmtally/IntQueue" "size" "I" (.int (0 : Int32))) (HF3 : Fld Z h0 a0 "com/example/swarm_tally/swarmtally/IntQueue" "head" "I" (.int (0 : Int32))) (G_a0 : n0 ≤ a0) :
    MetFree l (⟨"com/example/swarm_tally/swarmtally/IntQueue", "<init>", "()V"⟩ : MethodName) (head1 (Jvm.Cond.code (⟨"com/example/swarm_tally/swarmtally/IntQueue", "<init>", "()V"⟩ : MethodName) prog_11_method_1_code 1 none :: ws) ({ frames := 1, cells := 1, slots := 16, locals := 12 } : Room)) (fun a U => a = #[(.ref a0)] ∧ Z.Warmed39 U.vm ∧ U.heap = h0) (fun _ _ _ _ _ => True) (fun _ U o U' => ∃ v L, o = .returned v ∧ (Q_init Z a0 h0 n0) v U'.heap L ∧ FrameEnd U o U' L ({ frames := 1, cells := 1, slots := 16, locals := 12 } : Room).cells ({ frames := 1, cells := 1, slots := 16, locals := 12 } : Room).slots) := by
  refine MetFree.of_bodySF (plainFor_of_name own_pn_IntQueue) hisR ?_
  intro p e s m args below meth c s₁ Bd hml0 hP hK
  obtain ⟨rfl, hZ, hh⟩ := hP
  have hx := Bd.exec
  have hby := Bd.bytes
  have hml : c.maxLocals = 1 := hml0
  have hown : s.vm.findClass "com/example/swarm_tally/swarmtally/IntQueue" = some m.cls := findClass_of_methodNamed Bd.named
  have hnm := (name_of_methodNamed Bd.named Bd.method).1
  have hlk : meth.locks = false := BodyLoose.notSynchronized Bd
  have X0 : Stand p l e ({ frames := 1, cells := 1, slots := 16, locals := 12 } : Room) s m #[(.ref a0)] below meth c s₁ [] 0 0 := Stand.of_body Bd
  have e0 : s₁.heap = h0 := by rw [← hh, Bd.state]; rfl
  have N0 := Fr.nil n0
  have K0 : Keep h0 h0 [a0] := Keep.refl _ _
  show ownEnds p e below s (Q_init Z a0 h0 n0) ({ frames := 1, cells := 1, slots := 16, locals := 12 } : Room).cells ({ frames := 1, cells := 1, slots := 16, locals := 12 } : Room).slots s₁ (entryFrame m #[(.ref a0)] 1)
  refine ownCast (own_ef1_init m a0) ?_
  refine ow_aloadN (q := 1) X0 hx (hb hby own_d1_0) rfl rfl rfl ?_
  obtain ⟨T1, X1, e1, st1⟩ := initO X0 hx hZ hown (hw _ (List.mem_of_getElem? (i := 6) rfl)) (hw _ (List.mem_of_getElem? (i := 7) rfl)) (hw _ (List.mem_of_getElem? (i := 8) rfl)) e0 (g := (mkF m 1 #[rv a0] [(.ref a0)])) rfl (by rw [hml]; rfl) rfl (hb hby own_d1_1) (by decide) (W := 0) (by show 2 * 0 + _ ≤ _; exact Nat.le_of_eq rfl) (by decide)
  refine ownGo (T' := T1) (f' := (mkF m 4 #[rv a0] [])) (st1) ?_
  refine ow_aloadN (q := 5) X1 hx (hb hby own_d1_4) rfl rfl rfl ?_
  refine ow_bipush (q := 7) X1 hx (16 : Int32) (hb hby own_d1_5) rfl rfl ?_
  obtain ⟨T2, h2, k2, X2, e2, E2, A2, st2⟩ := newP X1 hx hZ (hw _ (List.mem_of_getElem? (i := 9) rfl)) e1 (g := (mkF m 7 #[rv a0] [(.int (16 : Int32)), (.ref a0)])) rfl (hb hby own_d1_7) rfl (by decide) (cap := 16) (by decide) (by decide) (by decide) (by decide)
  obtain ⟨b2, g2⟩ : ∃ z, z = h0.size := ⟨_, rfl⟩
  rw [← g2] at A2 st2
  have ne_a0_b2 : a0 ≠ b2 := Nat.ne_of_lt (Nat.lt_of_lt_of_le HF0.lt (Nat.le_of_eq g2.symm))
  have sz_b2 : h0.size ≤ b2 := Nat.le_trans K0.1 (Nat.le_of_eq g2.symm)
  have G_b2 : n0 ≤ b2 := Nat.le_trans Z0 sz_b2
  have K2 : Keep h0 h2 [a0] := K0.ext E2
  have F3 : Exa Z h2 a0 "com/example/swarm_tally/swarmtally/IntQueue" := HF0.ext E2
  have F4 : Fld Z h2 a0 "com/example/swarm_tally/swarmtally/IntQueue" "ring" "[I" .null := HF1.ext E2
  have F5 : Fld Z h2 a0 "com/example/swarm_tally/swarmtally/IntQueue" "size" "I" (.int (0 : Int32)) := HF2.ext E2
  have F6 : Fld Z h2 a0 "com/example/swarm_tally/swarmtally/IntQueue" "head" "I" (.int (0 : Int32)) := HF3.ext E2
  have F7 : ownAI Z h2 b2 .int 16 (fun _ => (0 : Int32)) := ownAI.new A2 (by decide) rfl (by decide)
  refine ownGo (T' := T2) (f' := (mkF m 9 #[rv a0] [(.ref b2), (.ref a0)])) (st2) ?_
  obtain ⟨T8, h8, X8, e8, W8, st8⟩ := putF X2 hx hZ hown (host := "") (Or.inl (hw _ (List.mem_of_getElem? (i := 10) rfl))) Via.refl e2 F4 F3 (Or.inl (hw _ (List.mem_of_getElem? (i := 11) rfl))) (hw _ (List.mem_of_getElem? (i := 1) rfl)) (ty := (.array .int)) (by decide) rfl rfl (g := (mkF m 9 #[rv a0] [(.ref b2), (.ref a0)])) rfl rfl (hb hby own_d1_9)
  have N8 := Fr.snoc X8 N0 G_a0
  have K8 : Keep h0 h8 [a0] := K2.wr W8 (Or.inl (List.mem_of_getElem? (i := 0) rfl))
  have F9 : Exa Z h8 a0 "com/example/swarm_tally/swarmtally/IntQueue" := F3.wr W8
  have F10 : Fld Z h8 a0 "com/example/swarm_tally/swarmtally/IntQueue" "ring" "[I" (.ref b2) := F4.same W8
  have F11 : Fld Z h8 a0 "com/example/swarm_tally/swarmtally/IntQueue" "size" "I" (.int (0 : Int32)) := F5.other W8 (Or.inr (slot_ne (Or.inl (hw _ (List.mem_of_getElem? (i := 18) rfl))) (Or.inl (hw _ (List.mem_of_getElem? (i := 11) rfl))) (by decide) (t := .int) (t' := (.array .int)) (by decide) (by decide)))
  have F12 : Fld Z h8 a0 "com/example/swarm_tally/swarmtally/IntQueue" "head" "I" (.int (0 : Int32)) := F6.other W8 (Or.inr (slot_ne (Or.inl (hw _ (List.mem_of_getElem? (i := 20) rfl))) (Or.inl (hw _ (List.mem_of_getElem? (i := 11) rfl))) (by decide) (t := .int) (t' := (.array .int)) (by decide) (by decide)))
  have F13 : ownAI Z h8 b2 .int 16 (fun _ => (0 : Int32)) := F7.other W8 (Ne.symm ne_a0_b2)
  refine ownGo (T' := T8) (f' := (mkF m 12 #[rv a0] [])) (st8) ?_
  refine ownRetV X8 hx Bd.returns (hb hby own_d1_12) hlk (by decide) (by decide) ?_
  rw [e8]
  exact ⟨b2, rfl, N8, K8, sz_b2, F9, F10, F11, F12, F13⟩
theorem own_d3_0 : decode prog_11_method_2_code 0 = .ok (.aload_n 0, 1) := by decide +kernel
theorem own_d3_1 : decode prog_11_method_2_code 1 = .ok (.getfield 13, 3) := by decide +kernel
theorem own_d3_4 : decode prog_11_method_2_code 4 = .ok (.aload_n 0, 1) := by decide +kernel
theorem own_d3_5 : decode prog_11_method_2_code 5 = .ok (.getfield 7, 3) := by decide +kernel
theorem own_d3_8 : decode prog_11_method_2_code 8 = .ok (.arraylength, 1) := by decide +kernel
theorem own_d3_9 : decode prog_11_method_2_code 9 = .ok (.if_icmp .ne 59, 3) := by decide +kernel
theorem own_d3_68 : decode prog_11_method_2_code 68 = .ok (.aload_n 0, 1) := by decide +kernel
theorem own_d3_69 : decode prog_11_method_2_code 69 = .ok (.getfield 7, 3) := by decide +kernel
theorem own_d3_72 : decode prog_11_method_2_code 72 = .ok (.aload_n 0, 1) := by decide +kernel
theorem own_d3_73 : decode prog_11_method_2_code 73 = .ok (.getfield 17, 3) := by decide +kernel
theorem own_d3_76 : decode prog_11_method_2_code 76 = .ok (.aload_n 0, 1) := by decide +kernel
theorem own_d3_77 : decode prog_11_method_2_code 77 = .ok (.getfield 13, 3) := by decide +kernel
theorem own_d3_80 : decode prog_11_method_2_code 80 = .ok (.iadd, 1) := by decide +kernel
theorem own_d3_81 : decode prog_11_method_2_code 81 = .ok (.aload_n 0, 1) := by decide +kernel
theorem own_d3_82 : decode prog_11_method_2_code 82 = .ok (.getfield 7, 3) := by decide +kernel
theorem own_d3_85 : decode prog_11_method_2_code 85 = .ok (.arraylength, 1) := by decide +kernel
theorem own_d3_86 : decode prog_11_method_2_code 86 = .ok (.irem, 1) := by decide +kernel
theorem own_d3_87 : decode prog_11_method_2_code 87 = .ok (.iload_n 1, 1) := by decide +kernel
theorem own_d3_88 : decode prog_11_method_2_code 88 = .ok (.iastore, 1) := by decide +kernel
theorem own_d3_89 : decode prog_11_method_2_code 89 = .ok (.aload_n 0, 1) := by decide +kernel
theorem own_d3_90 : decode prog_11_method_2_code 90 = .ok (.dup, 1) := by decide +kernel
theorem own_d3_91 : decode prog_11_method_2_code 91 = .ok (.getfield 13, 3) := by decide +kernel
theorem own_d3_94 : decode prog_11_method_2_code 94 = .ok (.iconst 1, 1) := by decide +kernel
theorem own_d3_95 : decode prog_11_method_2_code 95 = .ok (.iadd, 1) := by decide +kernel
theorem own_d3_96 : decode prog_11_method_2_code 96 = .ok (.putfield 13, 3) := by decide +kernel
theorem own_d3_99 : decode prog_11_method_2_code 99 = .ok (.return_, 1) := by decide +kernel
theorem own_ef3_add_0_0 (m : MethodId) (a0 : Addr) (p1 : Int32) : entryFrame m #[(.ref a0), (.int p1)] 4 = mkF m 0 #[rv a0, iv p1, .unset, .unset] [] := by first | (simp [entryFrame, mkF, argsToLocals, Value.category]; done) | rfl
def Q_add_0_0 (Z : State) (a0 : Addr) (p1 : Int32) (ar : Addr) (gi : Nat → Int32) (h0 : Heap) (n0 : Nat) (v : Option Value) (h : Heap) (L : List Loc) : Prop := v = none ∧ Fr n0 L ∧ Keep h0 h [a0, ar] ∧ Exa Z h a0 "com/example/swarm_tally/swarmtally/IntQueue" ∧ Fld Z h a0 "com/example/swarm_tally/swarmtally/IntQueue" "ring" "[I" (.ref ar) ∧ Fld Z h a0 "com/example/swarm_tally/swarmtally/IntQueue" "size" "I" (.int (1 : Int32)) ∧ Fld Z h a0 "com/example/swarm_tally/swarmtally/IntQueue" "head" "I" (.int (0 : Int32)) ∧ ownAI Z h ar .int 16 (ownUpd gi 0 p1)
set_option maxRecDepth 65536 in
set_option maxHeartbeats 40000000 in
theorem rm_add_0_0 (l : Launch) (Z : State) (a0 : Array Value) (hw : ∀ d ∈ tables_1, d.before a0 Z = true) (ws : List Jvm.Cond) (a0 : Addr) (p1 : Int32) (ar : Addr) (gi : Nat → Int32) (h0 : Heap) (n0 : Nat) (Z0 : n0 ≤ h0.size) (HF0 : Exa Z h0 a0 "com/example/swarm_tally/swarmtally/IntQueue") (HF1 : Fld Z h0 a0 "com/example/swarm_tally/swarmtally/IntQueue" "ring" "[I" (.ref ar)) (HF2 : Fld Z h0 a0 "com/example/swarm_tally/swarmtally/IntQueue" "size" "I" (.int (0 : Int32))) (HF3 : Fld Z h0 a0 "com/example/swarm_tally/swarmtally/IntQueue" "head" "I" (.int (0 : Int32))) (HF4 : ownAI Z h0 ar .int 16 gi) (G_a0 : n0 ≤ a0) (G_ar : n0 ≤ ar) (hne : a0 ≠ ar) :
    MetFree l (⟨"com/example/swarm_tally/swarmtally/IntQueue", "add", "(I)V"⟩ : MethodName) (head1 (Jvm.Cond.code (⟨"com/example/swarm_tally/swarmtally/IntQueue", "add", "(I)V"⟩ : MethodName) prog_11_method_2_code 4 none :: ws) ({ frames := 0, cells := 0, slots := 0, locals := 0 } : Room)) (fun a U => a = #[(.ref a0), (.int p1)] ∧ Z.Warmed39 U.vm ∧ U.heap = h0) (fun _ _ _ _ _ => True) (fun _ U o U' => ∃ v L, o = .returned v ∧ (Q_add_0_0 Z a0 p1 ar gi h0 n0) v U'.heap L ∧ FrameEnd U o U' L ({ frames := 0, cells := 0, slots := 0, locals := 0 } : Room).cells ({ frames := 0, cells := 0, slots := 0, locals := 0 } : Room).slots) := by
  refine MetFree.of_bodySF (plainFor_of_name own_pn_IntQueue) hisR ?_
  intro p e s m args below meth c s₁ Bd hml0 hP hK
  obtain ⟨rfl, hZ, hh⟩ := hP
  have hx := Bd.exec
  have hby := Bd.bytes
  have hml : c.maxLocals = 4 := hml0
  have hown : s.vm.findClass "com/example/swarm_tally/swarmtally/IntQueue" = some m.cls := findClass_of_methodNamed Bd.named
  have hnm := (name_of_methodNamed Bd.named Bd.method).1
  have hlk : meth.locks = false := BodyLoose.notSynchronized Bd
  have X0 : Stand p l e ({ frames := 0, cells := 0, slots := 0, locals := 0 } : Room) s m #[(.ref a0), (.int p1)] below meth c s₁ [] 0 0 := Stand.of_body Bd
  have e0 : s₁.heap = h0 := by rw [← hh, Bd.state]; rfl
  have N0 := Fr.nil n0
  have K0 : Keep h0 h0 [a0, ar] := Keep.refl _ _
  show ownEnds p e below s (Q_add_0_0 Z a0 p1 ar gi h0 n0) ({ frames := 0, cells := 0, slots := 0, locals := 0 } : Room).cells ({ frames := 0, cells := 0, slots := 0, locals := 0 } : Room).slots s₁ (entryFrame m #[(.ref a0), (.int p1)] 4)
  refine ownCast (own_ef3_add_0_0 m a0 p1) ?_
  refine ow_aloadN (q := 1) X0 hx (hb hby own_d3_0) rfl rfl rfl ?_
  obtain ⟨T1, X1, e1, st1⟩ := getF X0 hx hZ hown (host := "") (Or.inl (hw _ (List.mem_of_getElem? (i := 17) rfl))) Via.refl e0 HF2 (g := (mkF m 1 #[rv a0, iv p1, .unset, .unset] [(.ref a0)])) rfl rfl (hb hby own_d3_1)
  refine ownGo (T' := T1) (f' := (mkF m 4 #[rv a0, iv p1, .unset, .unset] [(.int (0 : Int32))])) (st1) ?_
  refine ow_aloadN (q := 5) X1 hx (hb hby own_d3_4) rfl rfl rfl ?_
  obtain ⟨T2, X2, e2, st2⟩ := getF X1 hx hZ hown (host := "") (Or.inl (hw _ (List.mem_of_getElem? (i := 10) rfl))) Via.refl e1 HF1 (g := (mkF m 5 #[rv a0, iv p1, .unset, .unset] [(.ref a0), (.int (0 : Int32))])) rfl rfl (hb hby own_d3_5)
  refine ownGo (T' := T2) (f' := (mkF m 8 #[rv a0, iv p1, .unset, .unset] [(.ref ar), (.int (0 : Int32))])) (st2) ?_
  refine ownGo (T' := T2) (f' := (mkF m 9 #[rv a0, iv p1, .unset, .unset] [(.int (16 : Int32)), (.int (0 : Int32))])) (ownLenI HF4 X2 hx hZ e2 (z := (16 : Int32)) (by decide) (g := (mkF m 8 #[rv a0, iv p1, .unset, .unset] [(.ref ar), (.int (0 : Int32))])) rfl rfl (hb hby own_d3_8)) ?_
  refine ow_icmpYes (q := 68) X2 hx (hb hby own_d3_9) (Jvm.Free.XT.ii_ne_t (by decide)) (by decide) (by decide) ?_
  refine ow_aloadN (q := 69) X2 hx (hb hby own_d3_68) rfl rfl rfl ?_
  obtain ⟨T3, X3, e3, st3⟩ := getF X2 hx hZ hown (host := "") (Or.inl (hw _ (List.mem_of_getElem? (i := 10) rfl))) Via.refl e2 HF1 (g := (mkF m 69 #[rv a0, iv p1, .unset, .unset] [(.ref a0)])) rfl rfl (hb hby own_d3_69)
  refine ownGo (T' := T3) (f' := (mkF m 72 #[rv a0, iv p1, .unset, .unset] [(.ref ar)])) (st3) ?_
  refine ow_aloadN (q := 73) X3 hx (hb hby own_d3_72) rfl rfl rfl ?_
  obtain ⟨T4, X4, e4, st4⟩ := getF X3 hx hZ hown (host := "") (Or.inl (hw _ (List.mem_of_getElem? (i := 19) rfl))) Via.refl e3 HF3 (g := (mkF m 73 #[rv a0, iv p1, .unset, .unset] [(.ref a0), (.ref ar)])) rfl rfl (hb hby own_d3_73)
  refine ownGo (T' := T4) (f' := (mkF m 76 #[rv a0, iv p1, .unset, .unset] [(.int (0 : Int32)), (.ref ar)])) (st4) ?_
  refine ow_aloadN (q := 77) X4 hx (hb hby own_d3_76) rfl rfl rfl ?_
  obtain ⟨T5, X5, e5, st5⟩ := getF X4 hx hZ hown (host := "") (Or.inl (hw _ (List.mem_of_getElem? (i := 17) rfl))) Via.refl e4 HF2 (g := (mkF m 77 #[rv a0, iv p1, .unset, .unset] [(.ref a0), (.int (0 : Int32)), (.ref ar)])) rfl rfl (hb hby own_d3_77)
  refine ownGo (T' := T5) (f' := (mkF m 80 #[rv a0, iv p1, .unset, .unset] [(.int (0 : Int32)), (.int (0 : Int32)), (.ref ar)])) (st5) ?_
  refine ow_iadd (q := 81) X5 hx (0 : Int32) (hb hby own_d3_80) rfl (by decide) ?_
  refine ow_aloadN (q := 82) X5 hx (hb hby own_d3_81) rfl rfl rfl ?_
  obtain ⟨T6, X6, e6, st6⟩ := getF X5 hx hZ hown (host := "") (Or.inl (hw _ (List.mem_of_getElem? (i := 10) rfl))) Via.refl e5 HF1 (g := (mkF m 82 #[rv a0, iv p1, .unset, .unset] [(.ref a0), (.int (0 : Int32)), (.ref ar)])) rfl rfl (hb hby own_d3_82)
  refine ownGo (T' := T6) (f' := (mkF m 85 #[rv a0, iv p1, .unset, .unset] [(.ref ar), (.int (0 : Int32)), (.ref ar)])) (st6) ?_
  refine ownGo (T' := T6) (f' := (mkF m 86 #[rv a0, iv p1, .unset, .unset] [(.int (16 : Int32)), (.int (0 : Int32)), (.ref ar)])) (ownLenI HF4 X6 hx hZ e6 (z := (16 : Int32)) (by decide) (g := (mkF m 85 #[rv a0, iv p1, .unset, .unset] [(.ref ar), (.int (0 : Int32)), (.ref ar)])) rfl rfl (hb hby own_d3_85)) ?_
  refine ow_irem (q := 87) X6 hx (0 : Int32) (hb hby own_d3_86) rfl (by decide) (by decide) ?_
  refine ow_iloadN (q := 88) X6 hx (hb hby own_d3_87) rfl rfl ?_
  obtain ⟨T7, h7, X7, e7, W7, F7s, st7⟩ := ownIastore HF4 X6 hx hZ e6 (j := (0 : Int32)) (by unfold ownIn; decide) (g := (mkF m 88 #[rv a0, iv p1, .unset, .unset] [(.int p1), (.int (0 : Int32)), (.ref ar)])) rfl rfl (hb hby own_d3_88)
  have F7r : ownAI Z h7 ar .int 16 (ownUpd gi 0 p1) := F7s
  have N7 := Fr.snoc X7 N0 G_ar
  have K7 : Keep h0 h7 [a0, ar] := K0.wr W7 (Or.inl (List.mem_of_getElem? (i := 1) rfl))
  have F8 : Exa Z h7 a0 "com/example/swarm_tally/swarmtally/IntQueue" := HF0.wr W7
  have F9 : Fld Z h7 a0 "com/example/swarm_tally/swarmtally/IntQueue" "ring" "[I" (.ref ar) := HF1.other W7 (Or.inl hne)
  have F10 : Fld Z h7 a0 "com/example/swarm_tally/swarmtally/IntQueue" "size" "I" (.int (0 : Int32)) := HF2.other W7 (Or.inl hne)
  have F11 : Fld Z h7 a0 "com/example/swarm_tally/swarmtally/IntQueue" "head" "I" (.int (0 : Int32)) := HF3.other W7 (Or.inl hne)
  refine ownGo (T' := T7) (f' := (mkF m 89 #[rv a0, iv p1, .unset, .unset] [])) (st7) ?_
  refine ow_aloadN (q := 90) X7 hx (hb hby own_d3_89) rfl rfl rfl ?_
  refine ow_dup (q := 91) X7 hx (hb hby own_d3_90) rfl rfl ?_
  obtain ⟨T12, X12, e12, st12⟩ := getF X7 hx hZ hown (host := "") (Or.inl (hw _ (List.mem_of_getElem? (i := 17) rfl))) Via.refl e7 F10 (g := (mkF m 91 #[rv a0, iv p1, .unset, .unset] [(.ref a0), (.ref a0)])) rfl rfl (hb hby own_d3_91)
  refine ownGo (T' := T12) (f' := (mkF m 94 #[rv a0, iv p1, .unset, .unset] [(.int (0 : Int32)), (.ref a0)])) (st12) ?_
  refine ow_iconst (q := 95) X12 hx (1 : Int32) (hb hby own_d3_94) rfl rfl ?_
  refine ow_iadd (q := 96) X12 hx (1 : Int32) (hb hby own_d3_95) rfl (by decide) ?_
  obtain ⟨T13, h13, X13, e13, W13, st13⟩ := putF X12 hx hZ hown (host := "") (Or.inl (hw _ (List.mem_of_getElem? (i := 17) rfl))) Via.refl e12 F10 F8 (Or.inl (hw _ (List.mem_of_getElem? (i := 18) rfl))) (hw _ (List.mem_of_getElem? (i := 1) rfl)) (ty := .int) (by decide) rfl rfl (g := (mkF m 96 #[rv a0, iv p1, .unset, .unset] [(.int (1 : Int32)), (.ref a0)])) rfl rfl (hb hby own_d3_96)
  have N13 := Fr.snoc X13 N7 G_a0
  have K13 : Keep h0 h13 [a0, ar] := K7.wr W13 (Or.inl (List.mem_of_getElem? (i := 0) rfl))
  have F14 : Exa Z h13 a0 "com/example/swarm_tally/swarmtally/IntQueue" := F8.wr W13
  have F15 : Fld Z h13 a0 "com/example/swarm_tally/swarmtally/IntQueue" "ring" "[I" (.ref ar) := F9.other W13 (Or.inr (slot_ne (Or.inl (hw _ (List.mem_of_getElem? (i := 11) rfl))) (Or.inl (hw _ (List.mem_of_getElem? (i := 18) rfl))) (by decide) (t := (.array .int)) (t' := .int) (by decide) (by decide)))
  have F16 : Fld Z h13 a0 "com/example/swarm_tally/swarmtally/IntQueue" "size" "I" (.int (1 : Int32)) := F10.same W13
  have F17 : Fld Z h13 a0 "com/example/swarm_tally/swarmtally/IntQueue" "head" "I" (.int (0 : Int32)) := F11.other W13 (Or.inr (slot_ne (Or.inl (hw _ (List.mem_of_getElem? (i := 20) rfl))) (Or.inl (hw _ (List.mem_of_getElem? (i := 18) rfl))) (by decide) (t := .int) (t' := .int) (by decide) (by decide)))
  have F18 : ownAI Z h13 ar .int 16 (ownUpd gi 0 p1) := F7r.other W13 (Ne.symm hne)
  refine ownGo (T' := T13) (f' := (mkF m 99 #[rv a0, iv p1, .unset, .unset] [])) (st13) ?_
  refine ownRetV X13 hx Bd.returns (hb hby own_d3_99) hlk (by decide) (by decide) ?_
  rw [e13]
  exact ⟨rfl, N13, K13, F14, F15, F16, F17, F18⟩
theorem own_ef3_add_0_1 (m : MethodId) (a0 : Addr) (p1 : Int32) : entryFrame m #[(.ref a0), (.int p1)] 4 = mkF m 0 #[rv a0, iv p1, .unset, .unset] [] := by first | (simp [entryFrame, mkF, argsToLocals, Value.category]; done) | rfl
def Q_add_0_1 (Z : State) (a0 : Addr) (p1 : Int32) (ar : Addr) (gi : Nat → Int32) (h0 : Heap) (n0 : Nat) (v : Option Value) (h : Heap) (L : List Loc) : Prop := v = none ∧ Fr n0 L ∧ Keep h0 h [a0, ar] ∧ Exa Z h a0 "com/example/swarm_tally/swarmtally/IntQueue" ∧ Fld Z h a0 "com/example/swarm_tally/swarmtally/IntQueue" "ring" "[I" (.ref ar) ∧ Fld Z h a0 "com/example/swarm_tally/swarmtally/IntQueue" "size" "I" (.int (2 : Int32)) ∧ Fld Z h a0 "com/example/swarm_tally/swarmtally/IntQueue" "head" "I" (.int (0 : Int32)) ∧ ownAI Z h ar .int 16 (ownUpd gi 1 p1)
set_option maxRecDepth 65536 in
set_option maxHeartbeats 40000000 in
theorem rm_add_0_1 (l : Launch) (Z : State) (a0 : Array Value) (hw : ∀ d ∈ tables_1, d.before a0 Z = true) (ws : List Jvm.Cond) (a0 : Addr) (p1 : Int32) (ar : Addr) (gi : Nat → Int32) (h0 : Heap) (n0 : Nat) (Z0 : n0 ≤ h0.size) (HF0 : Exa Z h0 a0 "com/example/swarm_tally/swarmtally/IntQueue") (HF1 : Fld Z h0 a0 "com/example/swarm_tally/swarmtally/IntQueue" "ring" "[I" (.ref ar)) (HF2 : Fld Z h0 a0 "com/example/swarm_tally/swarmtally/IntQueue" "size" "I" (.int (1 : Int32))) (HF3 : Fld Z h0 a0 "com/example/swarm_tally/swarmtally/IntQueue" "head" "I" (.int (0 : Int32))) (HF4 : ownAI Z h0 ar .int 16 gi) (G_a0 : n0 ≤ a0) (G_ar : n0 ≤ ar) (hne : a0 ≠ ar) :
    MetFree l (⟨"com/example/swarm_tally/swarmtally/IntQueue", "add", "(I)V"⟩ : MethodName) (head1 (Jvm.Cond.code (⟨"com/example/swarm_tally/swarmtally/IntQueue", "add", "(I)V"⟩ : MethodName) prog_11_method_2_code 4 none :: ws) ({ frames := 0, cells := 0, slots := 0, locals := 0 } : Room)) (fun a U => a = #[(.ref a0), (.int p1)] ∧ Z.Warmed39 U.vm ∧ U.heap = h0) (fun _ _ _ _ _ => True) (fun _ U o U' => ∃ v L, o = .returned v ∧ (Q_add_0_1 Z a0 p1 ar gi h0 n0) v U'.heap L ∧ FrameEnd U o U' L ({ frames := 0, cells := 0, slots := 0, locals := 0 } : Room).cells ({ frames := 0, cells := 0, slots := 0, locals := 0 } : Room).slots) := by
  refine MetFree.of_bodySF (plainFor_of_name own_pn_IntQueue) hisR ?_
  intro p e s m args below meth c s₁ Bd hml0 hP hK
  obtain ⟨rfl, hZ, hh⟩ := hP
  have hx := Bd.exec
  have hby := Bd.bytes
  have hml : c.maxLocals = 4 := hml0
  have hown : s.vm.findClass "com/example/swarm_tally/swarmtally/IntQueue" = some m.cls := findClass_of_methodNamed Bd.named
  have hnm := (name_of_methodNamed Bd.named Bd.method).1
  have hlk : meth.locks = false := BodyLoose.notSynchronized Bd
  have X0 : Stand p l e ({ frames := 0, cells := 0, slots := 0, locals := 0 } : Room) s m #[(.ref a0), (.int p1)] below meth c s₁ [] 0 0 := Stand.of_body Bd
  have e0 : s₁.heap = h0 := by rw [← hh, Bd.state]; rfl
  have N0 := Fr.nil n0
  have K0 : Keep h0 h0 [a0, ar] := Keep.refl _ _
  show ownEnds p e below s (Q_add_0_1 Z a0 p1 ar gi h0 n0) ({ frames := 0, cells := 0, slots := 0, locals := 0 } : Room).cells ({ frames := 0, cells := 0, slots := 0, locals := 0 } : Room).slots s₁ (entryFrame m #[(.ref a0), (.int p1)] 4)
  refine ownCast (own_ef3_add_0_1 m a0 p1) ?_
  refine ow_aloadN (q := 1) X0 hx (hb hby own_d3_0) rfl rfl rfl ?_
  obtain ⟨T1, X1, e1, st1⟩ := getF X0 hx hZ hown (host := "") (Or.inl (hw _ (List.mem_of_getElem? (i := 17) rfl))) Via.refl e0 HF2 (g := (mkF m 1 #[rv a0, iv p1, .unset, .unset] [(.ref a0)])) rfl rfl (hb hby own_d3_1)
  refine ownGo (T' := T1) (f' := (mkF m 4 #[rv a0, iv p1, .unset, .unset] [(.int (1 : Int32))])) (st1) ?_
  refine ow_aloadN (q := 5) X1 hx (hb hby own_d3_4) rfl rfl rfl ?_
  obtain ⟨T2, X2, e2, st2⟩ := getF X1 hx hZ hown (host := "") (Or.inl (hw _ (List.mem_of_getElem? (i := 10) rfl))) Via.refl e1 HF1 (g := (mkF m 5 #[rv a0, iv p1, .unset, .unset] [(.ref a0), (.int (1 : Int32))])) rfl rfl (hb hby own_d3_5)
  refine ownGo (T' := T2) (f' := (mkF m 8 #[rv a0, iv p1, .unset, .unset] [(.ref ar), (.int (1 : Int32))])) (st2) ?_
  refine ownGo (T' := T2) (f' := (mkF m 9 #[rv a0, iv p1, .unset, .unset] [(.int (16 : Int32)), (.int (1 : Int32))])) (ownLenI HF4 X2 hx hZ e2 (z := (16 : Int32)) (by decide) (g := (mkF m 8 #[rv a0, iv p1, .unset, .unset] [(.ref ar), (.int (1 : Int32))])) rfl rfl (hb hby own_d3_8)) ?_
  refine ow_icmpYes (q := 68) X2 hx (hb hby own_d3_9) (Jvm.Free.XT.ii_ne_t (by decide)) (by decide) (by decide) ?_
  refine ow_aloadN (q := 69) X2 hx (hb hby own_d3_68) rfl rfl rfl ?_
  obtain ⟨T3, X3, e3, st3⟩ := getF X2 hx hZ hown (host := "") (Or.inl (hw _ (List.mem_of_getElem? (i := 10) rfl))) Via.refl e2 HF1 (g := (mkF m 69 #[rv a0, iv p1, .unset, .unset] [(.ref a0)])) rfl rfl (hb hby own_d3_69)
  refine ownGo (T' := T3) (f' := (mkF m 72 #[rv a0, iv p1, .unset, .unset] [(.ref ar)])) (st3) ?_
  refine ow_aloadN (q := 73) X3 hx (hb hby own_d3_72) rfl rfl rfl ?_
  obtain ⟨T4, X4, e4, st4⟩ := getF X3 hx hZ hown (host := "") (Or.inl (hw _ (List.mem_of_getElem? (i := 19) rfl))) Via.refl e3 HF3 (g := (mkF m 73 #[rv a0, iv p1, .unset, .unset] [(.ref a0), (.ref ar)])) rfl rfl (hb hby own_d3_73)
  refine ownGo (T' := T4) (f' := (mkF m 76 #[rv a0, iv p1, .unset, .unset] [(.int (0 : Int32)), (.ref ar)])) (st4) ?_
  refine ow_aloadN (q := 77) X4 hx (hb hby own_d3_76) rfl rfl rfl ?_
  obtain ⟨T5, X5, e5, st5⟩ := getF X4 hx hZ hown (host := "") (Or.inl (hw _ (List.mem_of_getElem? (i := 17) rfl))) Via.refl e4 HF2 (g := (mkF m 77 #[rv a0, iv p1, .unset, .unset] [(.ref a0), (.int (0 : Int32)), (.ref ar)])) rfl rfl (hb hby own_d3_77)
  refine ownGo (T' := T5) (f' := (mkF m 80 #[rv a0, iv p1, .unset, .unset] [(.int (1 : Int32)), (.int (0 : Int32)), (.ref ar)])) (st5) ?_
  refine ow_iadd (q := 81) X5 hx (1 : Int32) (hb hby own_d3_80) rfl (by decide) ?_
  refine ow_aloadN (q := 82) X5 hx (hb hby own_d3_81) rfl rfl rfl ?_
  obtain ⟨T6, X6, e6, st6⟩ := getF X5 hx hZ hown (host := "") (Or.inl (hw _ (List.mem_of_getElem? (i := 10) rfl))) Via.refl e5 HF1 (g := (mkF m 82 #[rv a0, iv p1, .unset, .unset] [(.ref a0), (.int (1 : Int32)), (.ref ar)])) rfl rfl (hb hby own_d3_82)
  refine ownGo (T' := T6) (f' := (mkF m 85 #[rv a0, iv p1, .unset, .unset] [(.ref ar), (.int (1 : Int32)), (.ref ar)])) (st6) ?_
  refine ownGo (T' := T6) (f' := (mkF m 86 #[rv a0, iv p1, .unset, .unset] [(.int (16 : Int32)), (.int (1 : Int32)), (.ref ar)])) (ownLenI HF4 X6 hx hZ e6 (z := (16 : Int32)) (by decide) (g := (mkF m 85 #[rv a0, iv p1, .unset, .unset] [(.ref ar), (.int (1 : Int32)), (.ref ar)])) rfl rfl (hb hby own_d3_85)) ?_
  refine ow_irem (q := 87) X6 hx (1 : Int32) (hb hby own_d3_86) rfl (by decide) (by decide) ?_
  refine ow_iloadN (q := 88) X6 hx (hb hby own_d3_87) rfl rfl ?_
  obtain ⟨T7, h7, X7, e7, W7, F7s, st7⟩ := ownIastore HF4 X6 hx hZ e6 (j := (1 : Int32)) (by unfold ownIn; decide) (g := (mkF m 88 #[rv a0, iv p1, .unset, .unset] [(.int p1), (.int (1 : Int32)), (.ref ar)])) rfl rfl (hb hby own_d3_88)
  have F7r : ownAI Z h7 ar .int 16 (ownUpd gi 1 p1) := F7s
  have N7 := Fr.snoc X7 N0 G_ar
  have K7 : Keep h0 h7 [a0, ar] := K0.wr W7 (Or.inl (List.mem_of_getElem? (i := 1) rfl))
  have F8 : Exa Z h7 a0 "com/example/swarm_tally/swarmtally/IntQueue" := HF0.wr W7
  have F9 : Fld Z h7 a0 "com/example/swarm_tally/swarmtally/IntQueue" "ring" "[I" (.ref ar) := HF1.other W7 (Or.inl hne)
  have F10 : Fld Z h7 a0 "com/example/swarm_tally/swarmtally/IntQueue" "size" "I" (.int (1 : Int32)) := HF2.other W7 (Or.inl hne)
  have F11 : Fld Z h7 a0 "com/example/swarm_tally/swarmtally/IntQueue" "head" "I" (.int (0 : Int32)) := HF3.other W7 (Or.inl hne)
  refine ownGo (T' := T7) (f' := (mkF m 89 #[rv a0, iv p1, .unset, .unset] [])) (st7) ?_
  refine ow_aloadN (q := 90) X7 hx (hb hby own_d3_89) rfl rfl rfl ?_
  refine ow_dup (q := 91) X7 hx (hb hby own_d3_90) rfl rfl ?_
  obtain ⟨T12, X12, e12, st12⟩ := getF X7 hx hZ hown (host := "") (Or.inl (hw _ (List.mem_of_getElem? (i := 17) rfl))) Via.refl e7 F10 (g := (mkF m 91 #[rv a0, iv p1, .unset, .unset] [(.ref a0), (.ref a0)])) rfl rfl (hb hby own_d3_91)
  refine ownGo (T' := T12) (f' := (mkF m 94 #[rv a0, iv p1, .unset, .unset] [(.int (1 : Int32)), (.ref a0)])) (st12) ?_
  refine ow_iconst (q := 95) X12 hx (1 : Int32) (hb hby own_d3_94) rfl rfl ?_
  refine ow_iadd (q := 96) X12 hx (2 : Int32) (hb hby own_d3_95) rfl (by decide) ?_
  obtain ⟨T13, h13, X13, e13, W13, st13⟩ := putF X12 hx hZ hown (host := "") (Or.inl (hw _ (List.mem_of_getElem? (i := 17) rfl))) Via.refl e12 F10 F8 (Or.inl (hw _ (List.mem_of_getElem? (i := 18) rfl))) (hw _ (List.mem_of_getElem? (i := 1) rfl)) (ty := .int) (by decide) rfl rfl (g := (mkF m 96 #[rv a0, iv p1, .unset, .unset] [(.int (2 : Int32)), (.ref a0)])) rfl rfl (hb hby own_d3_96)
  have N13 := Fr.snoc X13 N7 G_a0
  have K13 : Keep h0 h13 [a0, ar] := K7.wr W13 (Or.inl (List.mem_of_getElem? (i := 0) rfl))
  have F14 : Exa Z h13 a0 "com/example/swarm_tally/swarmtally/IntQueue" := F8.wr W13
  have F15 : Fld Z h13 a0 "com/example/swarm_tally/swarmtally/IntQueue" "ring" "[I" (.ref ar) := F9.other W13 (Or.inr (slot_ne (Or.inl (hw _ (List.mem_of_getElem? (i := 11) rfl))) (Or.inl (hw _ (List.mem_of_getElem? (i := 18) rfl))) (by decide) (t := (.array .int)) (t' := .int) (by decide) (by decide)))
  have F16 : Fld Z h13 a0 "com/example/swarm_tally/swarmtally/IntQueue" "size" "I" (.int (2 : Int32)) := F10.same W13
  have F17 : Fld Z h13 a0 "com/example/swarm_tally/swarmtally/IntQueue" "head" "I" (.int (0 : Int32)) := F11.other W13 (Or.inr (slot_ne (Or.inl (hw _ (List.mem_of_getElem? (i := 20) rfl))) (Or.inl (hw _ (List.mem_of_getElem? (i := 18) rfl))) (by decide) (t := .int) (t' := .int) (by decide) (by decide)))
  have F18 : ownAI Z h13 ar .int 16 (ownUpd gi 1 p1) := F7r.other W13 (Ne.symm hne)
  refine ownGo (T' := T13) (f' := (mkF m 99 #[rv a0, iv p1, .unset, .unset] [])) (st13) ?_
  refine ownRetV X13 hx Bd.returns (hb hby own_d3_99) hlk (by decide) (by decide) ?_
  rw [e13]
  exact ⟨rfl, N13, K13, F14, F15, F16, F17, F18⟩
theorem own_ef3_add_1_1 (m : MethodId) (a0 : Addr) (p1 : Int32) : entryFrame m #[(.ref a0), (.int p1)] 4 = mkF m 0 #[rv a0, iv p1, .unset, .unset] [] := by first | (simp [entryFrame, mkF, argsToLocals, Value.category]; done) | rfl
def Q_add_1_1 (Z : State) (a0 : Addr) (p1 : Int32) (ar : Addr) (gi : Nat → Int32) (h0 : Heap) (n0 : Nat) (v : Option Value) (h : Heap) (L : List Loc) : Prop := v = none ∧ Fr n0 L ∧ Keep h0 h [a0, ar] ∧ Exa Z h a0 "com/example/swarm_tally/swarmtally/IntQueue" ∧ Fld Z h a0 "com/example/swarm_tally/swarmtally/IntQueue" "ring" "[I" (.ref ar) ∧ Fld Z h a0 "com/example/swarm_tally/swarmtally/IntQueue" "size" "I" (.int (2 : Int32)) ∧ Fld Z h a0 "com/example/swarm_tally/swarmtally/IntQueue" "head" "I" (.int (1 : Int32)) ∧ ownAI Z h ar .int 16 (ownUpd gi 2 p1)
set_option maxRecDepth 65536 in
set_option maxHeartbeats 40000000 in
theorem rm_add_1_1 (l : Launch) (Z : State) (a0 : Array Value) (hw : ∀ d ∈ tables_1, d.before a0 Z = true) (ws : List Jvm.Cond) (a0 : Addr) (p1 : Int32) (ar : Addr) (gi : Nat → Int32) (h0 : Heap) (n0 : Nat) (Z0 : n0 ≤ h0.size) (HF0 : Exa Z h0 a0 "com/example/swarm_tally/swarmtally/IntQueue") (HF1 : Fld Z h0 a0 "com/example/swarm_tally/swarmtally/IntQueue" "ring" "[I" (.ref ar)) (HF2 : Fld Z h0 a0 "com/example/swarm_tally/swarmtally/IntQueue" "size" "I" (.int (1 : Int32))) (HF3 : Fld Z h0 a0 "com/example/swarm_tally/swarmtally/IntQueue" "head" "I" (.int (1 : Int32))) (HF4 : ownAI Z h0 ar .int 16 gi) (G_a0 : n0 ≤ a0) (G_ar : n0 ≤ ar) (hne : a0 ≠ ar) :
    MetFree l (⟨"com/example/swarm_tally/swarmtally/IntQueue", "add", "(I)V"⟩ : MethodName) (head1 (Jvm.Cond.code (⟨"com/example/swarm_tally/swarmtally/IntQueue", "add", "(I)V"⟩ : MethodName) prog_11_method_2_code 4 none :: ws) ({ frames := 0, cells := 0, slots := 0, locals := 0 } : Room)) (fun a U => a = #[(.ref a0), (.int p1)] ∧ Z.Warmed39 U.vm ∧ U.heap = h0) (fun _ _ _ _ _ => True) (fun _ U o U' => ∃ v L, o = .returned v ∧ (Q_add_1_1 Z a0 p1 ar gi h0 n0) v U'.heap L ∧ FrameEnd U o U' L ({ frames := 0, cells := 0, slots := 0, locals := 0 } : Room).cells ({ frames := 0, cells := 0, slots := 0, locals := 0 } : Room).slots) := by
  refine MetFree.of_bodySF (plainFor_of_name own_pn_IntQueue) hisR ?_
  intro p e s m args below meth c s₁ Bd hml0 hP hK
  obtain ⟨rfl, hZ, hh⟩ := hP
  have hx := Bd.exec
  have hby := Bd.bytes
  have hml : c.maxLocals = 4 := hml0
  have hown : s.vm.findClass "com/example/swarm_tally/swarmtally/IntQueue" = some m.cls := findClass_of_methodNamed Bd.named
  have hnm := (name_of_methodNamed Bd.named Bd.method).1
  have hlk : meth.locks = false := BodyLoose.notSynchronized Bd
  have X0 : Stand p l e ({ frames := 0, cells := 0, slots := 0, locals := 0 } : Room) s m #[(.ref a0), (.int p1)] below meth c s₁ [] 0 0 := Stand.of_body Bd
  have e0 : s₁.heap = h0 := by rw [← hh, Bd.state]; rfl
  have N0 := Fr.nil n0
  have K0 : Keep h0 h0 [a0, ar] := Keep.refl _ _
  show ownEnds p e below s (Q_add_1_1 Z a0 p1 ar gi h0 n0) ({ frames := 0, cells := 0, slots := 0, locals := 0 } : Room).cells ({ frames := 0, cells := 0, slots := 0, locals := 0 } : Room).slots s₁ (entryFrame m #[(.ref a0), (.int p1)] 4)
  refine ownCast (own_ef3_add_1_1 m a0 p1) ?_
  refine ow_aloadN (q := 1) X0 hx (hb hby own_d3_0) rfl rfl rfl ?_
  obtain ⟨T1, X1, e1, st1⟩ := getF X0 hx hZ hown (host := "") (Or.inl (hw _ (List.mem_of_getElem? (i := 17) rfl))) Via.refl e0 HF2 (g := (mkF m 1 #[rv a0, iv p1, .unset, .unset] [(.ref a0)])) rfl rfl (hb hby own_d3_1)
  refine ownGo (T' := T1) (f' := (mkF m 4 #[rv a0, iv p1, .unset, .unset] [(.int (1 : Int32))])) (st1) ?_
  refine ow_aloadN (q := 5) X1 hx (hb hby own_d3_4) rfl rfl rfl ?_
  obtain ⟨T2, X2, e2, st2⟩ := getF X1 hx hZ hown (host := "") (Or.inl (hw _ (List.mem_of_getElem? (i := 10) rfl))) Via.refl e1 HF1 (g := (mkF m 5 #[rv a0, iv p1, .unset, .unset] [(.ref a0), (.int (1 : Int32))])) rfl rfl (hb hby own_d3_5)
  refine ownGo (T' := T2) (f' := (mkF m 8 #[rv a0, iv p1, .unset, .unset] [(.ref ar), (.int (1 : Int32))])) (st2) ?_
  refine ownGo (T' := T2) (f' := (mkF m 9 #[rv a0, iv p1, .unset, .unset] [(.int (16 : Int32)), (.int (1 : Int32))])) (ownLenI HF4 X2 hx hZ e2 (z := (16 : Int32)) (by decide) (g := (mkF m 8 #[rv a0, iv p1, .unset, .unset] [(.ref ar), (.int (1 : Int32))])) rfl rfl (hb hby own_d3_8)) ?_
  refine ow_icmpYes (q := 68) X2 hx (hb hby own_d3_9) (Jvm.Free.XT.ii_ne_t (by decide)) (by decide) (by decide) ?_
  refine ow_aloadN (q := 69) X2 hx (hb hby own_d3_68) rfl rfl rfl ?_
  obtain ⟨T3, X3, e3, st3⟩ := getF X2 hx hZ hown (host := "") (Or.inl (hw _ (List.mem_of_getElem? (i := 10) rfl))) Via.refl e2 HF1 (g := (mkF m 69 #[rv a0, iv p1, .unset, .unset] [(.ref a0)])) rfl rfl (hb hby own_d3_69)
  refine ownGo (T' := T3) (f' := (mkF m 72 #[rv a0, iv p1, .unset, .unset] [(.ref ar)])) (st3) ?_
  refine ow_aloadN (q := 73) X3 hx (hb hby own_d3_72) rfl rfl rfl ?_
  obtain ⟨T4, X4, e4, st4⟩ := getF X3 hx hZ hown (host := "") (Or.inl (hw _ (List.mem_of_getElem? (i := 19) rfl))) Via.refl e3 HF3 (g := (mkF m 73 #[rv a0, iv p1, .unset, .unset] [(.ref a0), (.ref ar)])) rfl rfl (hb hby own_d3_73)
  refine ownGo (T' := T4) (f' := (mkF m 76 #[rv a0, iv p1, .unset, .unset] [(.int (1 : Int32)), (.ref ar)])) (st4) ?_
  refine ow_aloadN (q := 77) X4 hx (hb hby own_d3_76) rfl rfl rfl ?_
  obtain ⟨T5, X5, e5, st5⟩ := getF X4 hx hZ hown (host := "") (Or.inl (hw _ (List.mem_of_getElem? (i := 17) rfl))) Via.refl e4 HF2 (g := (mkF m 77 #[rv a0, iv p1, .unset, .unset] [(.ref a0), (.int (1 : Int32)), (.ref ar)])) rfl rfl (hb hby own_d3_77)
  refine ownGo (T' := T5) (f' := (mkF m 80 #[rv a0, iv p1, .unset, .unset] [(.int (1 : Int32)), (.int (1 : Int32)), (.ref ar)])) (st5) ?_
  refine ow_iadd (q := 81) X5 hx (2 : Int32) (hb hby own_d3_80) rfl (by decide) ?_
  refine ow_aloadN (q := 82) X5 hx (hb hby own_d3_81) rfl rfl rfl ?_
  obtain ⟨T6, X6, e6, st6⟩ := getF X5 hx hZ hown (host := "") (Or.inl (hw _ (List.mem_of_getElem? (i := 10) rfl))) Via.refl e5 HF1 (g := (mkF m 82 #[rv a0, iv p1, .unset, .unset] [(.ref a0), (.int (2 : Int32)), (.ref ar)])) rfl rfl (hb hby own_d3_82)
  refine ownGo (T' := T6) (f' := (mkF m 85 #[rv a0, iv p1, .unset, .unset] [(.ref ar), (.int (2 : Int32)), (.ref ar)])) (st6) ?_
  refine ownGo (T' := T6) (f' := (mkF m 86 #[rv a0, iv p1, .unset, .unset] [(.int (16 : Int32)), (.int (2 : Int32)), (.ref ar)])) (ownLenI HF4 X6 hx hZ e6 (z := (16 : Int32)) (by decide) (g := (mkF m 85 #[rv a0, iv p1, .unset, .unset] [(.ref ar), (.int (2 : Int32)), (.ref ar)])) rfl rfl (hb hby own_d3_85)) ?_
  refine ow_irem (q := 87) X6 hx (2 : Int32) (hb hby own_d3_86) rfl (by decide) (by decide) ?_
  refine ow_iloadN (q := 88) X6 hx (hb hby own_d3_87) rfl rfl ?_
  obtain ⟨T7, h7, X7, e7, W7, F7s, st7⟩ := ownIastore HF4 X6 hx hZ e6 (j := (2 : Int32)) (by unfold ownIn; decide) (g := (mkF m 88 #[rv a0, iv p1, .unset, .unset] [(.int p1), (.int (2 : Int32)), (.ref ar)])) rfl rfl (hb hby own_d3_88)
  have F7r : ownAI Z h7 ar .int 16 (ownUpd gi 2 p1) := F7s
  have N7 := Fr.snoc X7 N0 G_ar
  have K7 : Keep h0 h7 [a0, ar] := K0.wr W7 (Or.inl (List.mem_of_getElem? (i := 1) rfl))
  have F8 : Exa Z h7 a0 "com/example/swarm_tally/swarmtally/IntQueue" := HF0.wr W7
  have F9 : Fld Z h7 a0 "com/example/swarm_tally/swarmtally/IntQueue" "ring" "[I" (.ref ar) := HF1.other W7 (Or.inl hne)
  have F10 : Fld Z h7 a0 "com/example/swarm_tally/swarmtally/IntQueue" "size" "I" (.int (1 : Int32)) := HF2.other W7 (Or.inl hne)
  have F11 : Fld Z h7 a0 "com/example/swarm_tally/swarmtally/IntQueue" "head" "I" (.int (1 : Int32)) := HF3.other W7 (Or.inl hne)
  refine ownGo (T' := T7) (f' := (mkF m 89 #[rv a0, iv p1, .unset, .unset] [])) (st7) ?_
  refine ow_aloadN (q := 90) X7 hx (hb hby own_d3_89) rfl rfl rfl ?_
  refine ow_dup (q := 91) X7 hx (hb hby own_d3_90) rfl rfl ?_
  obtain ⟨T12, X12, e12, st12⟩ := getF X7 hx hZ hown (host := "") (Or.inl (hw _ (List.mem_of_getElem? (i := 17) rfl))) Via.refl e7 F10 (g := (mkF m 91 #[rv a0, iv p1, .unset, .unset] [(.ref a0), (.ref a0)])) rfl rfl (hb hby own_d3_91)
  refine ownGo (T' := T12) (f' := (mkF m 94 #[rv a0, iv p1, .unset, .unset] [(.int (1 : Int32)), (.ref a0)])) (st12) ?_
  refine ow_iconst (q := 95) X12 hx (1 : Int32) (hb hby own_d3_94) rfl rfl ?_
  refine ow_iadd (q := 96) X12 hx (2 : Int32) (hb hby own_d3_95) rfl (by decide) ?_
  obtain ⟨T13, h13, X13, e13, W13, st13⟩ := putF X12 hx hZ hown (host := "") (Or.inl (hw _ (List.mem_of_getElem? (i := 17) rfl))) Via.refl e12 F10 F8 (Or.inl (hw _ (List.mem_of_getElem? (i := 18) rfl))) (hw _ (List.mem_of_getElem? (i := 1) rfl)) (ty := .int) (by decide) rfl rfl (g := (mkF m 96 #[rv a0, iv p1, .unset, .unset] [(.int (2 : Int32)), (.ref a0)])) rfl rfl (hb hby own_d3_96)
  have N13 := Fr.snoc X13 N7 G_a0
  have K13 : Keep h0 h13 [a0, ar] := K7.wr W13 (Or.inl (List.mem_of_getElem? (i := 0) rfl))
  have F14 : Exa Z h13 a0 "com/example/swarm_tally/swarmtally/IntQueue" := F8.wr W13
  have F15 : Fld Z h13 a0 "com/example/swarm_tally/swarmtally/IntQueue" "ring" "[I" (.ref ar) := F9.other W13 (Or.inr (slot_ne (Or.inl (hw _ (List.mem_of_getElem? (i := 11) rfl))) (Or.inl (hw _ (List.mem_of_getElem? (i := 18) rfl))) (by decide) (t := (.array .int)) (t' := .int) (by decide) (by decide)))
  have F16 : Fld Z h13 a0 "com/example/swarm_tally/swarmtally/IntQueue" "size" "I" (.int (2 : Int32)) := F10.same W13
  have F17 : Fld Z h13 a0 "com/example/swarm_tally/swarmtally/IntQueue" "head" "I" (.int (1 : Int32)) := F11.other W13 (Or.inr (slot_ne (Or.inl (hw _ (List.mem_of_getElem? (i := 20) rfl))) (Or.inl (hw _ (List.mem_of_getElem? (i := 18) rfl))) (by decide) (t := .int) (t' := .int) (by decide) (by decide)))
  have F18 : ownAI Z h13 ar .int 16 (ownUpd gi 2 p1) := F7r.other W13 (Ne.symm hne)
  refine ownGo (T' := T13) (f' := (mkF m 99 #[rv a0, iv p1, .unset, .unset] [])) (st13) ?_
  refine ownRetV X13 hx Bd.returns (hb hby own_d3_99) hlk (by decide) (by decide) ?_
  rw [e13]
  exact ⟨rfl, N13, K13, F14, F15, F16, F17, F18⟩
theorem own_ef3_add_3_0 (m : MethodId) (a0 : Addr) (p1 : Int32) : entryFrame m #[(.ref a0), (.int p1)] 4 = mkF m 0 #[rv a0, iv p1, .unset, .unset] [] := by first | (simp [entryFrame, mkF, argsToLocals, Value.category]; done) | rfl
def Q_add_3_0 (Z : State) (a0 : Addr) (p1 : Int32) (ar : Addr) (gi : Nat → Int32) (h0 : Heap) (n0 : Nat) (v : Option Value) (h : Heap) (L : List Loc) : Prop := v = none ∧ Fr n0 L ∧ Keep h0 h [a0, ar] ∧ Exa Z h a0 "com/example/swarm_tally/swarmtally/IntQueue" ∧ Fld Z h a0 "com/example/swarm_tally/swarmtally/IntQueue" "ring" "[I" (.ref ar) ∧ Fld Z h a0 "com/example/swarm_tally/swarmtally/IntQueue" "size" "I" (.int (1 : Int32)) ∧ Fld Z h a0 "com/example/swarm_tally/swarmtally/IntQueue" "head" "I" (.int (3 : Int32)) ∧ ownAI Z h ar .int 16 (ownUpd gi 3 p1)
set_option maxRecDepth 65536 in
set_option maxHeartbeats 40000000 in
theorem rm_add_3_0 (l : Launch) (Z : State) (a0 : Array Value) (hw : ∀ d ∈ tables_1, d.before a0 Z = true) (ws : List Jvm.Cond) (a0 : Addr) (p1 : Int32) (ar : Addr) (gi : Nat → Int32) (h0 : Heap) (n0 : Nat) (Z0 : n0 ≤ h0.size) (HF0 : Exa Z h0 a0 "com/example/swarm_tally/swarmtally/IntQueue") (HF1 : Fld Z h0 a0 "com/example/swarm_tally/swarmtally/IntQueue" "ring" "[I" (.ref ar)) (HF2 : Fld Z h0 a0 "com/example/swarm_tally/swarmtally/IntQueue" "size" "I" (.int (0 : Int32))) (HF3 : Fld Z h0 a0 "com/example/swarm_tally/swarmtally/IntQueue" "head" "I" (.int (3 : Int32))) (HF4 : ownAI Z h0 ar .int 16 gi) (G_a0 : n0 ≤ a0) (G_ar : n0 ≤ ar) (hne : a0 ≠ ar) :
    MetFree l (⟨"com/example/swarm_tally/swarmtally/IntQueue", "add", "(I)V"⟩ : MethodName) (head1 (Jvm.Cond.code (⟨"com/example/swarm_tally/swarmtally/IntQueue", "add", "(I)V"⟩ : MethodName) prog_11_method_2_code 4 none :: ws) ({ frames := 0, cells := 0, slots := 0, locals := 0 } : Room)) (fun a U => a = #[(.ref a0), (.int p1)] ∧ Z.Warmed39 U.vm ∧ U.heap = h0) (fun _ _ _ _ _ => True) (fun _ U o U' => ∃ v L, o = .returned v ∧ (Q_add_3_0 Z a0 p1 ar gi h0 n0) v U'.heap L ∧ FrameEnd U o U' L ({ frames := 0, cells := 0, slots := 0, locals := 0 } : Room).cells ({ frames := 0, cells := 0, slots := 0, locals := 0 } : Room).slots) := by
  refine MetFree.of_bodySF (plainFor_of_name own_pn_IntQueue) hisR ?_
  intro p e s m args below meth c s₁ Bd hml0 hP hK
  obtain ⟨rfl, hZ, hh⟩ := hP
  have hx := Bd.exec
  have hby := Bd.bytes
  have hml : c.maxLocals = 4 := hml0
  have hown : s.vm.findClass "com/example/swarm_tally/swarmtally/IntQueue" = some m.cls := findClass_of_methodNamed Bd.named
  have hnm := (name_of_methodNamed Bd.named Bd.method).1
  have hlk : meth.locks = false := BodyLoose.notSynchronized Bd
  have X0 : Stand p l e ({ frames := 0, cells := 0, slots := 0, locals := 0 } : Room) s m #[(.ref a0), (.int p1)] below meth c s₁ [] 0 0 := Stand.of_body Bd
  have e0 : s₁.heap = h0 := by rw [← hh, Bd.state]; rfl
  have N0 := Fr.nil n0
  have K0 : Keep h0 h0 [a0, ar] := Keep.refl _ _
  show ownEnds p e below s (Q_add_3_0 Z a0 p1 ar gi h0 n0) ({ frames := 0, cells := 0, slots := 0, locals := 0 } : Room).cells ({ frames := 0, cells := 0, slots := 0, locals := 0 } : Room).slots s₁ (entryFrame m #[(.ref a0), (.int p1)] 4)
  refine ownCast (own_ef3_add_3_0 m a0 p1) ?_
  refine ow_aloadN (q := 1) X0 hx (hb hby own_d3_0) rfl rfl rfl ?_
  obtain ⟨T1, X1, e1, st1⟩ := getF X0 hx hZ hown (host := "") (Or.inl (hw _ (List.mem_of_getElem? (i := 17) rfl))) Via.refl e0 HF2 (g := (mkF m 1 #[rv a0, iv p1, .unset, .unset] [(.ref a0)])) rfl rfl (hb hby own_d3_1)
  refine ownGo (T' := T1) (f' := (mkF m 4 #[rv a0, iv p1, .unset, .unset] [(.int (0 : Int32))])) (st1) ?_
  refine ow_aloadN (q := 5) X1 hx (hb hby own_d3_4) rfl rfl rfl ?_
  obtain ⟨T2, X2, e2, st2⟩ := getF X1 hx hZ hown (host := "") (Or.inl (hw _ (List.mem_of_getElem? (i := 10) rfl))) Via.refl e1 HF1 (g := (mkF m 5 #[rv a0, iv p1, .unset, .unset] [(.ref a0), (.int (0 : Int32))])) rfl rfl (hb hby own_d3_5)
  refine ownGo (T' := T2) (f' := (mkF m 8 #[rv a0, iv p1, .unset, .unset] [(.ref ar), (.int (0 : Int32))])) (st2) ?_
  refine ownGo (T' := T2) (f' := (mkF m 9 #[rv a0, iv p1, .unset, .unset] [(.int (16 : Int32)), (.int (0 : Int32))])) (ownLenI HF4 X2 hx hZ e2 (z := (16 : Int32)) (by decide) (g := (mkF m 8 #[rv a0, iv p1, .unset, .unset] [(.ref ar), (.int (0 : Int32))])) rfl rfl (hb hby own_d3_8)) ?_
  refine ow_icmpYes (q := 68) X2 hx (hb hby own_d3_9) (Jvm.Free.XT.ii_ne_t (by decide)) (by decide) (by decide) ?_
  refine ow_aloadN (q := 69) X2 hx (hb hby own_d3_68) rfl rfl rfl ?_
  obtain ⟨T3, X3, e3, st3⟩ := getF X2 hx hZ hown (host := "") (Or.inl (hw _ (List.mem_of_getElem? (i := 10) rfl))) Via.refl e2 HF1 (g := (mkF m 69 #[rv a0, iv p1, .unset, .unset] [(.ref a0)])) rfl rfl (hb hby own_d3_69)
  refine ownGo (T' := T3) (f' := (mkF m 72 #[rv a0, iv p1, .unset, .unset] [(.ref ar)])) (st3) ?_
  refine ow_aloadN (q := 73) X3 hx (hb hby own_d3_72) rfl rfl rfl ?_
  obtain ⟨T4, X4, e4, st4⟩ := getF X3 hx hZ hown (host := "") (Or.inl (hw _ (List.mem_of_getElem? (i := 19) rfl))) Via.refl e3 HF3 (g := (mkF m 73 #[rv a0, iv p1, .unset, .unset] [(.ref a0), (.ref ar)])) rfl rfl (hb hby own_d3_73)
  refine ownGo (T' := T4) (f' := (mkF m 76 #[rv a0, iv p1, .unset, .unset] [(.int (3 : Int32)), (.ref ar)])) (st4) ?_
  refine ow_aloadN (q := 77) X4 hx (hb hby own_d3_76) rfl rfl rfl ?_
  obtain ⟨T5, X5, e5, st5⟩ := getF X4 hx hZ hown (host := "") (Or.inl (hw _ (List.mem_of_getElem? (i := 17) rfl))) Via.refl e4 HF2 (g := (mkF m 77 #[rv a0, iv p1, .unset, .unset] [(.ref a0), (.int (3 : Int32)), (.ref ar)])) rfl rfl (hb hby own_d3_77)
  refine ownGo (T' := T5) (f' := (mkF m 80 #[rv a0, iv p1, .unset, .unset] [(.int (0 : Int32)), (.int (3 : Int32)), (.ref ar)])) (st5) ?_
  refine ow_iadd (q := 81) X5 hx (3 : Int32) (hb hby own_d3_80) rfl (by decide) ?_
  refine ow_aloadN (q := 82) X5 hx (hb hby own_d3_81) rfl rfl rfl ?_
  obtain ⟨T6, X6, e6, st6⟩ := getF X5 hx hZ hown (host := "") (Or.inl (hw _ (List.mem_of_getElem? (i := 10) rfl))) Via.refl e5 HF1 (g := (mkF m 82 #[rv a0, iv p1, .unset, .unset] [(.ref a0), (.int (3 : Int32)), (.ref ar)])) rfl rfl (hb hby own_d3_82)
  refine ownGo (T' := T6) (f' := (mkF m 85 #[rv a0, iv p1, .unset, .unset] [(.ref ar), (.int (3 : Int32)), (.ref ar)])) (st6) ?_
  refine ownGo (T' := T6) (f' := (mkF m 86 #[rv a0, iv p1, .unset, .unset] [(.int (16 : Int32)), (.int (3 : Int32)), (.ref ar)])) (ownLenI HF4 X6 hx hZ e6 (z := (16 : Int32)) (by decide) (g := (mkF m 85 #[rv a0, iv p1, .unset, .unset] [(.ref ar), (.int (3 : Int32)), (.ref ar)])) rfl rfl (hb hby own_d3_85)) ?_
  refine ow_irem (q := 87) X6 hx (3 : Int32) (hb hby own_d3_86) rfl (by decide) (by decide) ?_
  refine ow_iloadN (q := 88) X6 hx (hb hby own_d3_87) rfl rfl ?_
  obtain ⟨T7, h7, X7, e7, W7, F7s, st7⟩ := ownIastore HF4 X6 hx hZ e6 (j := (3 : Int32)) (by unfold ownIn; decide) (g := (mkF m 88 #[rv a0, iv p1, .unset, .unset] [(.int p1), (.int (3 : Int32)), (.ref ar)])) rfl rfl (hb hby own_d3_88)
  have F7r : ownAI Z h7 ar .int 16 (ownUpd gi 3 p1) := F7s
  have N7 := Fr.snoc X7 N0 G_ar
  have K7 : Keep h0 h7 [a0, ar] := K0.wr W7 (Or.inl (List.mem_of_getElem? (i := 1) rfl))
  have F8 : Exa Z h7 a0 "com/example/swarm_tally/swarmtally/IntQueue" := HF0.wr W7
  have F9 : Fld Z h7 a0 "com/example/swarm_tally/swarmtally/IntQueue" "ring" "[I" (.ref ar) := HF1.other W7 (Or.inl hne)
  have F10 : Fld Z h7 a0 "com/example/swarm_tally/swarmtally/IntQueue" "size" "I" (.int (0 : Int32)) := HF2.other W7 (Or.inl hne)
  have F11 : Fld Z h7 a0 "com/example/swarm_tally/swarmtally/IntQueue" "head" "I" (.int (3 : Int32)) := HF3.other W7 (Or.inl hne)
  refine ownGo (T' := T7) (f' := (mkF m 89 #[rv a0, iv p1, .unset, .unset] [])) (st7) ?_
  refine ow_aloadN (q := 90) X7 hx (hb hby own_d3_89) rfl rfl rfl ?_
  refine ow_dup (q := 91) X7 hx (hb hby own_d3_90) rfl rfl ?_
  obtain ⟨T12, X12, e12, st12⟩ := getF X7 hx hZ hown (host := "") (Or.inl (hw _ (List.mem_of_getElem? (i := 17) rfl))) Via.refl e7 F10 (g := (mkF m 91 #[rv a0, iv p1, .unset, .unset] [(.ref a0), (.ref a0)])) rfl rfl (hb hby own_d3_91)
  refine ownGo (T' := T12) (f' := (mkF m 94 #[rv a0, iv p1, .unset, .unset] [(.int (0 : Int32)), (.ref a0)])) (st12) ?_
  refine ow_iconst (q := 95) X12 hx (1 : Int32) (hb hby own_d3_94) rfl rfl ?_
  refine ow_iadd (q := 96) X12 hx (1 : Int32) (hb hby own_d3_95) rfl (by decide) ?_
  obtain ⟨T13, h13, X13, e13, W13, st13⟩ := putF X12 hx hZ hown (host := "") (Or.inl (hw _ (List.mem_of_getElem? (i := 17) rfl))) Via.refl e12 F10 F8 (Or.inl (hw _ (List.mem_of_getElem? (i := 18) rfl))) (hw _ (List.mem_of_getElem? (i := 1) rfl)) (ty := .int) (by decide) rfl rfl (g := (mkF m 96 #[rv a0, iv p1, .unset, .unset] [(.int (1 : Int32)), (.ref a0)])) rfl rfl (hb hby own_d3_96)
  have N13 := Fr.snoc X13 N7 G_a0
  have K13 : Keep h0 h13 [a0, ar] := K7.wr W13 (Or.inl (List.mem_of_getElem? (i := 0) rfl))
  have F14 : Exa Z h13 a0 "com/example/swarm_tally/swarmtally/IntQueue" := F8.wr W13
  have F15 : Fld Z h13 a0 "com/example/swarm_tally/swarmtally/IntQueue" "ring" "[I" (.ref ar) := F9.other W13 (Or.inr (slot_ne (Or.inl (hw _ (List.mem_of_getElem? (i := 11) rfl))) (Or.inl (hw _ (List.mem_of_getElem? (i := 18) rfl))) (by decide) (t := (.array .int)) (t' := .int) (by decide) (by decide)))
  have F16 : Fld Z h13 a0 "com/example/swarm_tally/swarmtally/IntQueue" "size" "I" (.int (1 : Int32)) := F10.same W13
  have F17 : Fld Z h13 a0 "com/example/swarm_tally/swarmtally/IntQueue" "head" "I" (.int (3 : Int32)) := F11.other W13 (Or.inr (slot_ne (Or.inl (hw _ (List.mem_of_getElem? (i := 20) rfl))) (Or.inl (hw _ (List.mem_of_getElem? (i := 18) rfl))) (by decide) (t := .int) (t' := .int) (by decide) (by decide)))
  have F18 : ownAI Z h13 ar .int 16 (ownUpd gi 3 p1) := F7r.other W13 (Ne.symm hne)
  refine ownGo (T' := T13) (f' := (mkF m 99 #[rv a0, iv p1, .unset, .unset] [])) (st13) ?_
  refine ownRetV X13 hx Bd.returns (hb hby own_d3_99) hlk (by decide) (by decide) ?_
  rw [e13]
  exact ⟨rfl, N13, K13, F14, F15, F16, F17, F18⟩
theorem own_d4_0 : decode prog_11_method_3_code 0 = .ok (.aload_n 0, 1) := by decide +kernel
theorem own_d4_1 : decode prog_11_method_3_code 1 = .ok (.getfield 7, 3) := by decide +kernel
theorem own_d4_4 : decode prog_11_method_3_code 4 = .ok (.aload_n 0, 1) := by decide +kernel
theorem own_d4_5 : decode prog_11_method_3_code 5 = .ok (.getfield 17, 3) := by decide +kernel
theorem own_d4_8 : decode prog_11_method_3_code 8 = .ok (.iaload, 1) := by decide +kernel
theorem own_d4_9 : decode prog_11_method_3_code 9 = .ok (.istore_n 1, 1) := by decide +kernel
theorem own_d4_10 : decode prog_11_method_3_code 10 = .ok (.aload_n 0, 1) := by decide +kernel
theorem own_d4_11 : decode prog_11_method_3_code 11 = .ok (.aload_n 0, 1) := by decide +kernel
theorem own_d4_12 : decode prog_11_method_3_code 12 = .ok (.getfield 17, 3) := by decide +kernel
theorem own_d4_15 : decode prog_11_method_3_code 15 = .ok (.iconst 1, 1) := by decide +kernel
theorem own_d4_16 : decode prog_11_method_3_code 16 = .ok (.iadd, 1) := by decide +kernel
theorem own_d4_17 : decode prog_11_method_3_code 17 = .ok (.aload_n 0, 1) := by decide +kernel
theorem own_d4_18 : decode prog_11_method_3_code 18 = .ok (.getfield 7, 3) := by decide +kernel
theorem own_d4_21 : decode prog_11_method_3_code 21 = .ok (.arraylength, 1) := by decide +kernel
theorem own_d4_22 : decode prog_11_method_3_code 22 = .ok (.irem, 1) := by decide +kernel
theorem own_d4_23 : decode prog_11_method_3_code 23 = .ok (.putfield 17, 3) := by decide +kernel
theorem own_d4_26 : decode prog_11_method_3_code 26 = .ok (.aload_n 0, 1) := by decide +kernel
theorem own_d4_27 : decode prog_11_method_3_code 27 = .ok (.dup, 1) := by decide +kernel
theorem own_d4_28 : decode prog_11_method_3_code 28 = .ok (.getfield 13, 3) := by decide +kernel
theorem own_d4_31 : decode prog_11_method_3_code 31 = .ok (.iconst 1, 1) := by decide +kernel
theorem own_d4_32 : decode prog_11_method_3_code 32 = .ok (.isub, 1) := by decide +kernel
theorem own_d4_33 : decode prog_11_method_3_code 33 = .ok (.putfield 13, 3) := by decide +kernel
theorem own_d4_36 : decode prog_11_method_3_code 36 = .ok (.iload_n 1, 1) := by decide +kernel
theorem own_d4_37 : decode prog_11_method_3_code 37 = .ok (.ireturn, 1) := by decide +kernel
theorem own_ef4_remove_0_2 (m : MethodId) (a0 : Addr) : entryFrame m #[(.ref a0)] 2 = mkF m 0 #[rv a0, .unset] [] := by first | (simp [entryFrame, mkF, argsToLocals, Value.category]; done) | rfl
def Q_remove_0_2 (Z : State) (a0 : Addr) (ar : Addr) (gi : Nat → Int32) (h0 : Heap) (n0 : Nat) (v : Option Value) (h : Heap) (L : List Loc) : Prop := v = some (.int (gi 0)) ∧ Fr n0 L ∧ Keep h0 h [a0, ar] ∧ Exa Z h a0 "com/example/swarm_tally/swarmtally/IntQueue" ∧ Fld Z h a0 "com/example/swarm_tally/swarmtally/IntQueue" "ring" "[I" (.ref ar) ∧ Fld Z h a0 "com/example/swarm_tally/swarmtally/IntQueue" "size" "I" (.int (1 : Int32)) ∧ Fld Z h a0 "com/example/swarm_tally/swarmtally/IntQueue" "head" "I" (.int (1 : Int32)) ∧ ownAI Z h ar .int 16 gi
set_option maxRecDepth 65536 in
set_option maxHeartbeats 40000000 in
theorem rm_remove_0_2 (l : Launch) (Z : State) (a0 : Array Value) (hw : ∀ d ∈ tables_1, d.before a0 Z = true) (ws : List Jvm.Cond) (a0 : Addr) (ar : Addr) (gi : Nat → Int32) (h0 : Heap) (n0 : Nat) (Z0 : n0 ≤ h0.size) (HF0 : Exa Z h0 a0 "com/example/swarm_tally/swarmtally/IntQueue") (HF1 : Fld Z h0 a0 "com/example/swarm_tally/swarmtally/IntQueue" "ring" "[I" (.ref ar)) (HF2 : Fld Z h0 a0 "com/example/swarm_tally/swarmtally/IntQueue" "size" "I" (.int (2 : Int32))) (HF3 : Fld Z h0 a0 "com/example/swarm_tally/swarmtally/IntQueue" "head" "I" (.int (0 : Int32))) (HF4 : ownAI Z h0 ar .int 16 gi) (G_a0 : n0 ≤ a0) (G_ar : n0 ≤ ar) (hne : a0 ≠ ar) :
    MetFree l (⟨"com/example/swarm_tally/swarmtally/IntQueue", "remove", "()I"⟩ : MethodName) (head1 (Jvm.Cond.code (⟨"com/example/swarm_tally/swarmtally/IntQueue", "remove", "()I"⟩ : MethodName) prog_11_method_3_code 2 (some .int) :: ws) ({ frames := 0, cells := 0, slots := 0, locals := 0 } : Room)) (fun a U => a = #[(.ref a0)] ∧ Z.Warmed39 U.vm ∧ U.heap = h0) (fun _ _ _ _ _ => True) (fun _ U o U' => ∃ v L, o = .returned v ∧ (Q_remove_0_2 Z a0 ar gi h0 n0) v U'.heap L ∧ FrameEnd U o U' L ({ frames := 0, cells := 0, slots := 0, locals := 0 } : Room).cells ({ frames := 0, cells := 0, slots := 0, locals := 0 } : Room).slots) := by
  refine MetFree.of_bodySF (plainFor_of_name own_pn_IntQueue) hisR ?_
  intro p e s m args below meth c s₁ Bd hml0 hP hK
  obtain ⟨rfl, hZ, hh⟩ := hP
  have hx := Bd.exec
  have hby := Bd.bytes
  have hml : c.maxLocals = 2 := hml0
  have hown : s.vm.findClass "com/example/swarm_tally/swarmtally/IntQueue" = some m.cls := findClass_of_methodNamed Bd.named
  have hnm := (name_of_methodNamed Bd.named Bd.method).1
  have hlk : meth.locks = false := BodyLoose.notSynchronized Bd
  have X0 : Stand p l e ({ frames := 0, cells := 0, slots := 0, locals := 0 } : Room) s m #[(.ref a0)] below meth c s₁ [] 0 0 := Stand.of_body Bd
  have e0 : s₁.heap = h0 := by rw [← hh, Bd.state]; rfl
  have N0 := Fr.nil n0
  have K0 : Keep h0 h0 [a0, ar] := Keep.refl _ _
  show ownEnds p e below s (Q_remove_0_2 Z a0 ar gi h0 n0) ({ frames := 0, cells := 0, slots := 0, locals := 0 } : Room).cells ({ frames := 0, cells := 0, slots := 0, locals := 0 } : Room).slots s₁ (entryFrame m #[(.ref a0)] 2)
  refine ownCast (own_ef4_remove_0_2 m a0) ?_
  refine ow_aloadN (q := 1) X0 hx (hb hby own_d4_0) rfl rfl rfl ?_
  obtain ⟨T1, X1, e1, st1⟩ := getF X0 hx hZ hown (host := "") (Or.inl (hw _ (List.mem_of_getElem? (i := 10) rfl))) Via.refl e0 HF1 (g := (mkF m 1 #[rv a0, .unset] [(.ref a0)])) rfl rfl (hb hby own_d4_1)
  refine ownGo (T' := T1) (f' := (mkF m 4 #[rv a0, .unset] [(.ref ar)])) (st1) ?_
  refine ow_aloadN (q := 5) X1 hx (hb hby own_d4_4) rfl rfl rfl ?_
  obtain ⟨T2, X2, e2, st2⟩ := getF X1 hx hZ hown (host := "") (Or.inl (hw _ (List.mem_of_getElem? (i := 19) rfl))) Via.refl e1 HF3 (g := (mkF m 5 #[rv a0, .unset] [(.ref a0), (.ref ar)])) rfl rfl (hb hby own_d4_5)
  refine ownGo (T' := T2) (f' := (mkF m 8 #[rv a0, .unset] [(.int (0 : Int32)), (.ref ar)])) (st2) ?_
  refine ownGo (T' := T2) (f' := (mkF m 9 #[rv a0, .unset] [(.int (gi 0))])) (ownIaload HF4 X2 hx hZ e2 (j := (0 : Int32)) (by unfold ownIn; decide) (g := (mkF m 8 #[rv a0, .unset] [(.int (0 : Int32)), (.ref ar)])) rfl rfl (hb hby own_d4_8)) ?_
  generalize hv_v3 : (gi 0) = v3
  refine ow_istoreN (q := 10) X2 hx (L' := #[rv a0, iv v3]) (hb hby own_d4_9) rfl rfl ?_
  refine ow_aloadN (q := 11) X2 hx (hb hby own_d4_10) rfl rfl rfl ?_
  refine ow_aloadN (q := 12) X2 hx (hb hby own_d4_11) rfl rfl rfl ?_
  obtain ⟨T4, X4, e4, st4⟩ := getF X2 hx hZ hown (host := "") (Or.inl (hw _ (List.mem_of_getElem? (i := 19) rfl))) Via.refl e2 HF3 (g := (mkF m 12 #[rv a0, iv v3] [(.ref a0), (.ref a0)])) rfl rfl (hb hby own_d4_12)
  refine ownGo (T' := T4) (f' := (mkF m 15 #[rv a0, iv v3] [(.int (0 : Int32)), (.ref a0)])) (st4) ?_
  refine ow_iconst (q := 16) X4 hx (1 : Int32) (hb hby own_d4_15) rfl rfl ?_
  refine ow_iadd (q := 17) X4 hx (1 : Int32) (hb hby own_d4_16) rfl (by decide) ?_
  refine ow_aloadN (q := 18) X4 hx (hb hby own_d4_17) rfl rfl rfl ?_
  obtain ⟨T5, X5, e5, st5⟩ := getF X4 hx hZ hown (host := "") (Or.inl (hw _ (List.mem_of_getElem? (i := 10) rfl))) Via.refl e4 HF1 (g := (mkF m 18 #[rv a0, iv v3] [(.ref a0), (.int (1 : Int32)), (.ref a0)])) rfl rfl (hb hby own_d4_18)
  refine ownGo (T' := T5) (f' := (mkF m 21 #[rv a0, iv v3] [(.ref ar), (.int (1 : Int32)), (.ref a0)])) (st5) ?_
  refine ownGo (T' := T5) (f' := (mkF m 22 #[rv a0, iv v3] [(.int (16 : Int32)), (.int (1 : Int32)), (.ref a0)])) (ownLenI HF4 X5 hx hZ e5 (z := (16 : Int32)) (by decide) (g := (mkF m 21 #[rv a0, iv v3] [(.ref ar), (.int (1 : Int32)), (.ref a0)])) rfl rfl (hb hby own_d4_21)) ?_
  refine ow_irem (q := 23) X5 hx (1 : Int32) (hb hby own_d4_22) rfl (by decide) (by decide) ?_
  obtain ⟨T6, h6, X6, e6, W6, st6⟩ := putF X5 hx hZ hown (host := "") (Or.inl (hw _ (List.mem_of_getElem? (i := 19) rfl))) Via.refl e5 HF3 HF0 (Or.inl (hw _ (List.mem_of_getElem? (i := 20) rfl))) (hw _ (List.mem_of_getElem? (i := 1) rfl)) (ty := .int) (by decide) rfl rfl (g := (mkF m 23 #[rv a0, iv v3] [(.int (1 : Int32)), (.ref a0)])) rfl rfl (hb hby own_d4_23)
  have N6 := Fr.snoc X6 N0 G_a0
  have K6 : Keep h0 h6 [a0, ar] := K0.wr W6 (Or.inl (List.mem_of_getElem? (i := 0) rfl))
  have F7 : Exa Z h6 a0 "com/example/swarm_tally/swarmtally/IntQueue" := HF0.wr W6
  have F8 : Fld Z h6 a0 "com/example/swarm_tally/swarmtally/IntQueue" "ring" "[I" (.ref ar) := HF1.other W6 (Or.inr (slot_ne (Or.inl (hw _ (List.mem_of_getElem? (i := 11) rfl))) (Or.inl (hw _ (List.mem_of_getElem? (i := 20) rfl))) (by decide) (t := (.array .int)) (t' := .int) (by decide) (by decide)))
  have F9 : Fld Z h6 a0 "com/example/swarm_tally/swarmtally/IntQueue" "size" "I" (.int (2 : Int32)) := HF2.other W6 (Or.inr (slot_ne (Or.inl (hw _ (List.mem_of_getElem? (i := 18) rfl))) (Or.inl (hw _ (List.mem_of_getElem? (i := 20) rfl))) (by decide) (t := .int) (t' := .int) (by decide) (by decide)))
  have F10 : Fld Z h6 a0 "com/example/swarm_tally/swarmtally/IntQueue" "head" "I" (.int (1 : Int32)) := HF3.same W6
  have F11 : ownAI Z h6 ar .int 16 gi := HF4.other W6 (Ne.symm hne)
  refine ownGo (T' := T6) (f' := (mkF m 26 #[rv a0, iv v3] [])) (st6) ?_
  refine ow_aloadN (q := 27) X6 hx (hb hby own_d4_26) rfl rfl rfl ?_
  refine ow_dup (q := 28) X6 hx (hb hby own_d4_27) rfl rfl ?_
  obtain ⟨T12, X12, e12, st12⟩ := getF X6 hx hZ hown (host := "") (Or.inl (hw _ (List.mem_of_getElem? (i := 17) rfl))) Via.refl e6 F9 (g := (mkF m 28 #[rv a0, iv v3] [(.ref a0), (.ref a0)])) rfl rfl (hb hby own_d4_28)
  refine ownGo (T' := T12) (f' := (mkF m 31 #[rv a0, iv v3] [(.int (2 : Int32)), (.ref a0)])) (st12) ?_
  refine ow_iconst (q := 32) X12 hx (1 : Int32) (hb hby own_d4_31) rfl rfl ?_
  refine ow_isub (q := 33) X12 hx (1 : Int32) (hb hby own_d4_32) rfl (by decide) ?_
  obtain ⟨T13, h13, X13, e13, W13, st13⟩ := putF X12 hx hZ hown (host := "") (Or.inl (hw _ (List.mem_of_getElem? (i := 17) rfl))) Via.refl e12 F9 F7 (Or.inl (hw _ (List.mem_of_getElem? (i := 18) rfl))) (hw _ (List.mem_of_getElem? (i := 1) rfl)) (ty := .int) (by decide) rfl rfl (g := (mkF m 33 #[rv a0, iv v3] [(.int (1 : Int32)), (.ref a0)])) rfl rfl (hb hby own_d4_33)
  have N13 := Fr.snoc X13 N6 G_a0
  have K13 : Keep h0 h13 [a0, ar] := K6.wr W13 (Or.inl (List.mem_of_getElem? (i := 0) rfl))
  have F14 : Exa Z h13 a0 "com/example/swarm_tally/swarmtally/IntQueue" := F7.wr W13
  have F15 : Fld Z h13 a0 "com/example/swarm_tally/swarmtally/IntQueue" "ring" "[I" (.ref ar) := F8.other W13 (Or.inr (slot_ne (Or.inl (hw _ (List.mem_of_getElem? (i := 11) rfl))) (Or.inl (hw _ (List.mem_of_getElem? (i := 18) rfl))) (by decide) (t := (.array .int)) (t' := .int) (by decide) (by decide)))
  have F16 : Fld Z h13 a0 "com/example/swarm_tally/swarmtally/IntQueue" "size" "I" (.int (1 : Int32)) := F9.same W13
  have F17 : Fld Z h13 a0 "com/example/swarm_tally/swarmtally/IntQueue" "head" "I" (.int (1 : Int32)) := F10.other W13 (Or.inr (slot_ne (Or.inl (hw _ (List.mem_of_getElem? (i := 20) rfl))) (Or.inl (hw _ (List.mem_of_getElem? (i := 18) rfl))) (by decide) (t := .int) (t' := .int) (by decide) (by decide)))
  have F18 : ownAI Z h13 ar .int 16 gi := F11.other W13 (Ne.symm hne)
  refine ownGo (T' := T13) (f' := (mkF m 36 #[rv a0, iv v3] [])) (st13) ?_
  refine ow_iloadN (q := 37) X13 hx (hb hby own_d4_36) rfl rfl ?_
  refine ownRetI X13 hx Bd.returns (hb hby own_d4_37) hlk (by decide) (by decide) ?_
  subst hv_v3
  rw [e13]
  refine ⟨congrArg (fun q => some (Value.int q)) ?_, N13, K13, F14, F15, F16, F17, F18⟩
  rfl
theorem own_ef4_remove_1_2 (m : MethodId) (a0 : Addr) : entryFrame m #[(.ref a0)] 2 = mkF m 0 #[rv a0, .unset] [] := by first | (simp [entryFrame, mkF, argsToLocals, Value.category]; done) | rfl
def Q_remove_1_2 (Z : State) (a0 : Addr) (ar : Addr) (gi : Nat → Int32) (h0 : Heap) (n0 : Nat) (v : Option Value) (h : Heap) (L : List Loc) : Prop := v = some (.int (gi 1)) ∧ Fr n0 L ∧ Keep h0 h [a0, ar] ∧ Exa Z h a0 "com/example/swarm_tally/swarmtally/IntQueue" ∧ Fld Z h a0 "com/example/swarm_tally/swarmtally/IntQueue" "ring" "[I" (.ref ar) ∧ Fld Z h a0 "com/example/swarm_tally/swarmtally/IntQueue" "size" "I" (.int (1 : Int32)) ∧ Fld Z h a0 "com/example/swarm_tally/swarmtally/IntQueue" "head" "I" (.int (2 : Int32)) ∧ ownAI Z h ar .int 16 gi
set_option maxRecDepth 65536 in
set_option maxHeartbeats 40000000 in
theorem rm_remove_1_2 (l : Launch) (Z : State) (a0 : Array Value) (hw : ∀ d ∈ tables_1, d.before a0 Z = true) (ws : List Jvm.Cond) (a0 : Addr) (ar : Addr) (gi : Nat → Int32) (h0 : Heap) (n0 : Nat) (Z0 : n0 ≤ h0.size) (HF0 : Exa Z h0 a0 "com/example/swarm_tally/swarmtally/IntQueue") (HF1 : Fld Z h0 a0 "com/example/swarm_tally/swarmtally/IntQueue" "ring" "[I" (.ref ar)) (HF2 : Fld Z h0 a0 "com/example/swarm_tally/swarmtally/IntQueue" "size" "I" (.int (2 : Int32))) (HF3 : Fld Z h0 a0 "com/example/swarm_tally/swarmtally/IntQueue" "head" "I" (.int (1 : Int32))) (HF4 : ownAI Z h0 ar .int 16 gi) (G_a0 : n0 ≤ a0) (G_ar : n0 ≤ ar) (hne : a0 ≠ ar) :
    MetFree l (⟨"com/example/swarm_tally/swarmtally/IntQueue", "remove", "()I"⟩ : MethodName) (head1 (Jvm.Cond.code (⟨"com/example/swarm_tally/swarmtally/IntQueue", "remove", "()I"⟩ : MethodName) prog_11_method_3_code 2 (some .int) :: ws) ({ frames := 0, cells := 0, slots := 0, locals := 0 } : Room)) (fun a U => a = #[(.ref a0)] ∧ Z.Warmed39 U.vm ∧ U.heap = h0) (fun _ _ _ _ _ => True) (fun _ U o U' => ∃ v L, o = .returned v ∧ (Q_remove_1_2 Z a0 ar gi h0 n0) v U'.heap L ∧ FrameEnd U o U' L ({ frames := 0, cells := 0, slots := 0, locals := 0 } : Room).cells ({ frames := 0, cells := 0, slots := 0, locals := 0 } : Room).slots) := by
  refine MetFree.of_bodySF (plainFor_of_name own_pn_IntQueue) hisR ?_
  intro p e s m args below meth c s₁ Bd hml0 hP hK
  obtain ⟨rfl, hZ, hh⟩ := hP
  have hx := Bd.exec
  have hby := Bd.bytes
  have hml : c.maxLocals = 2 := hml0
  have hown : s.vm.findClass "com/example/swarm_tally/swarmtally/IntQueue" = some m.cls := findClass_of_methodNamed Bd.named
  have hnm := (name_of_methodNamed Bd.named Bd.method).1
  have hlk : meth.locks = false := BodyLoose.notSynchronized Bd
  have X0 : Stand p l e ({ frames := 0, cells := 0, slots := 0, locals := 0 } : Room) s m #[(.ref a0)] below meth c s₁ [] 0 0 := Stand.of_body Bd
  have e0 : s₁.heap = h0 := by rw [← hh, Bd.state]; rfl
  have N0 := Fr.nil n0
  have K0 : Keep h0 h0 [a0, ar] := Keep.refl _ _
  show ownEnds p e below s (Q_remove_1_2 Z a0 ar gi h0 n0) ({ frames := 0, cells := 0, slots := 0, locals := 0 } : Room).cells ({ frames := 0, cells := 0, slots := 0, locals := 0 } : Room).slots s₁ (entryFrame m #[(.ref a0)] 2)
  refine ownCast (own_ef4_remove_1_2 m a0) ?_
  refine ow_aloadN (q := 1) X0 hx (hb hby own_d4_0) rfl rfl rfl ?_
  obtain ⟨T1, X1, e1, st1⟩ := getF X0 hx hZ hown (host := "") (Or.inl (hw _ (List.mem_of_getElem? (i := 10) rfl))) Via.refl e0 HF1 (g := (mkF m 1 #[rv a0, .unset] [(.ref a0)])) rfl rfl (hb hby own_d4_1)
  refine ownGo (T' := T1) (f' := (mkF m 4 #[rv a0, .unset] [(.ref ar)])) (st1) ?_
  refine ow_aloadN (q := 5) X1 hx (hb hby own_d4_4) rfl rfl rfl ?_
  obtain ⟨T2, X2, e2, st2⟩ := getF X1 hx hZ hown (host := "") (Or.inl (hw _ (List.mem_of_getElem? (i := 19) rfl))) Via.refl e1 HF3 (g := (mkF m 5 #[rv a0, .unset] [(.ref a0), (.ref ar)])) rfl rfl (hb hby own_d4_5)
  refine ownGo (T' := T2) (f' := (mkF m 8 #[rv a0, .unset] [(.int (1 : Int32)), (.ref ar)])) (st2) ?_
  refine ownGo (T' := T2) (f' := (mkF m 9 #[rv a0, .unset] [(.int (gi 1))])) (ownIaload HF4 X2 hx hZ e2 (j := (1 : Int32)) (by unfold ownIn; decide) (g := (mkF m 8 #[rv a0, .unset] [(.int (1 : Int32)), (.ref ar)])) rfl rfl (hb hby own_d4_8)) ?_
  generalize hv_v3 : (gi 1) = v3
  refine ow_istoreN (q := 10) X2 hx (L' := #[rv a0, iv v3]) (hb hby own_d4_9) rfl rfl ?_
  refine ow_aloadN (q := 11) X2 hx (hb hby own_d4_10) rfl rfl rfl ?_
  refine ow_aloadN (q := 12) X2 hx (hb hby own_d4_11) rfl rfl rfl ?_
  obtain ⟨T4, X4, e4, st4⟩ := getF X2 hx hZ hown (host := "") (Or.inl (hw _ (List.mem_of_getElem? (i := 19) rfl))) Via.refl e2 HF3 (g := (mkF m 12 #[rv a0, iv v3] [(.ref a0), (.ref a0)])) rfl rfl (hb hby own_d4_12)
  refine ownGo (T' := T4) (f' := (mkF m 15 #[rv a0, iv v3] [(.int (1 : Int32)), (.ref a0)])) (st4) ?_
  refine ow_iconst (q := 16) X4 hx (1 : Int32) (hb hby own_d4_15) rfl rfl ?_
  refine ow_iadd (q := 17) X4 hx (2 : Int32) (hb hby own_d4_16) rfl (by decide) ?_
  refine ow_aloadN (q := 18) X4 hx (hb hby own_d4_17) rfl rfl rfl ?_
  obtain ⟨T5, X5, e5, st5⟩ := getF X4 hx hZ hown (host := "") (Or.inl (hw _ (List.mem_of_getElem? (i := 10) rfl))) Via.refl e4 HF1 (g := (mkF m 18 #[rv a0, iv v3] [(.ref a0), (.int (2 : Int32)), (.ref a0)])) rfl rfl (hb hby own_d4_18)
  refine ownGo (T' := T5) (f' := (mkF m 21 #[rv a0, iv v3] [(.ref ar), (.int (2 : Int32)), (.ref a0)])) (st5) ?_
  refine ownGo (T' := T5) (f' := (mkF m 22 #[rv a0, iv v3] [(.int (16 : Int32)), (.int (2 : Int32)), (.ref a0)])) (ownLenI HF4 X5 hx hZ e5 (z := (16 : Int32)) (by decide) (g := (mkF m 21 #[rv a0, iv v3] [(.ref ar), (.int (2 : Int32)), (.ref a0)])) rfl rfl (hb hby own_d4_21)) ?_
  refine ow_irem (q := 23) X5 hx (2 : Int32) (hb hby own_d4_22) rfl (by decide) (by decide) ?_
  obtain ⟨T6, h6, X6, e6, W6, st6⟩ := putF X5 hx hZ hown (host := "") (Or.inl (hw _ (List.mem_of_getElem? (i := 19) rfl))) Via.refl e5 HF3 HF0 (Or.inl (hw _ (List.mem_of_getElem? (i := 20) rfl))) (hw _ (List.mem_of_getElem? (i := 1) rfl)) (ty := .int) (by decide) rfl rfl (g := (mkF m 23 #[rv a0, iv v3] [(.int (2 : Int32)), (.ref a0)])) rfl rfl (hb hby own_d4_23)
  have N6 := Fr.snoc X6 N0 G_a0
  have K6 : Keep h0 h6 [a0, ar] := K0.wr W6 (Or.inl (List.mem_of_getElem? (i := 0) rfl))
  have F7 : Exa Z h6 a0 "com/example/swarm_tally/swarmtally/IntQueue" := HF0.wr W6
  have F8 : Fld Z h6 a0 "com/example/swarm_tally/swarmtally/IntQueue" "ring" "[I" (.ref ar) := HF1.other W6 (Or.inr (slot_ne (Or.inl (hw _ (List.mem_of_getElem? (i := 11) rfl))) (Or.inl (hw _ (List.mem_of_getElem? (i := 20) rfl))) (by decide) (t := (.array .int)) (t' := .int) (by decide) (by decide)))
  have F9 : Fld Z h6 a0 "com/example/swarm_tally/swarmtally/IntQueue" "size" "I" (.int (2 : Int32)) := HF2.other W6 (Or.inr (slot_ne (Or.inl (hw _ (List.mem_of_getElem? (i := 18) rfl))) (Or.inl (hw _ (List.mem_of_getElem? (i := 20) rfl))) (by decide) (t := .int) (t' := .int) (by decide) (by decide)))
  have F10 : Fld Z h6 a0 "com/example/swarm_tally/swarmtally/IntQueue" "head" "I" (.int (2 : Int32)) := HF3.same W6
  have F11 : ownAI Z h6 ar .int 16 gi := HF4.other W6 (Ne.symm hne)
  refine ownGo (T' := T6) (f' := (mkF m 26 #[rv a0, iv v3] [])) (st6) ?_
  refine ow_aloadN (q := 27) X6 hx (hb hby own_d4_26) rfl rfl rfl ?_
  refine ow_dup (q := 28) X6 hx (hb hby own_d4_27) rfl rfl ?_
  obtain ⟨T12, X12, e12, st12⟩ := getF X6 hx hZ hown (host := "") (Or.inl (hw _ (List.mem_of_getElem? (i := 17) rfl))) Via.refl e6 F9 (g := (mkF m 28 #[rv a0, iv v3] [(.ref a0), (.ref a0)])) rfl rfl (hb hby own_d4_28)
  refine ownGo (T' := T12) (f' := (mkF m 31 #[rv a0, iv v3] [(.int (2 : Int32)), (.ref a0)])) (st12) ?_
  refine ow_iconst (q := 32) X12 hx (1 : Int32) (hb hby own_d4_31) rfl rfl ?_
  refine ow_isub (q := 33) X12 hx (1 : Int32) (hb hby own_d4_32) rfl (by decide) ?_
  obtain ⟨T13, h13, X13, e13, W13, st13⟩ := putF X12 hx hZ hown (host := "") (Or.inl (hw _ (List.mem_of_getElem? (i := 17) rfl))) Via.refl e12 F9 F7 (Or.inl (hw _ (List.mem_of_getElem? (i := 18) rfl))) (hw _ (List.mem_of_getElem? (i := 1) rfl)) (ty := .int) (by decide) rfl rfl (g := (mkF m 33 #[rv a0, iv v3] [(.int (1 : Int32)), (.ref a0)])) rfl rfl (hb hby own_d4_33)
  have N13 := Fr.snoc X13 N6 G_a0
  have K13 : Keep h0 h13 [a0, ar] := K6.wr W13 (Or.inl (List.mem_of_getElem? (i := 0) rfl))
  have F14 : Exa Z h13 a0 "com/example/swarm_tally/swarmtally/IntQueue" := F7.wr W13
  have F15 : Fld Z h13 a0 "com/example/swarm_tally/swarmtally/IntQueue" "ring" "[I" (.ref ar) := F8.other W13 (Or.inr (slot_ne (Or.inl (hw _ (List.mem_of_getElem? (i := 11) rfl))) (Or.inl (hw _ (List.mem_of_getElem? (i := 18) rfl))) (by decide) (t := (.array .int)) (t' := .int) (by decide) (by decide)))
  have F16 : Fld Z h13 a0 "com/example/swarm_tally/swarmtally/IntQueue" "size" "I" (.int (1 : Int32)) := F9.same W13
  have F17 : Fld Z h13 a0 "com/example/swarm_tally/swarmtally/IntQueue" "head" "I" (.int (2 : Int32)) := F10.other W13 (Or.inr (slot_ne (Or.inl (hw _ (List.mem_of_getElem? (i := 20) rfl))) (Or.inl (hw _ (List.mem_of_getElem? (i := 18) rfl))) (by decide) (t := .int) (t' := .int) (by decide) (by decide)))
  have F18 : ownAI Z h13 ar .int 16 gi := F11.other W13 (Ne.symm hne)
  refine ownGo (T' := T13) (f' := (mkF m 36 #[rv a0, iv v3] [])) (st13) ?_
  refine ow_iloadN (q := 37) X13 hx (hb hby own_d4_36) rfl rfl ?_
  refine ownRetI X13 hx Bd.returns (hb hby own_d4_37) hlk (by decide) (by decide) ?_
  subst hv_v3
  rw [e13]
  refine ⟨congrArg (fun q => some (Value.int q)) ?_, N13, K13, F14, F15, F16, F17, F18⟩
  rfl
theorem own_ef4_remove_2_1 (m : MethodId) (a0 : Addr) : entryFrame m #[(.ref a0)] 2 = mkF m 0 #[rv a0, .unset] [] := by first | (simp [entryFrame, mkF, argsToLocals, Value.category]; done) | rfl
def Q_remove_2_1 (Z : State) (a0 : Addr) (ar : Addr) (gi : Nat → Int32) (h0 : Heap) (n0 : Nat) (v : Option Value) (h : Heap) (L : List Loc) : Prop := v = some (.int (gi 2)) ∧ Fr n0 L ∧ Keep h0 h [a0, ar] ∧ Exa Z h a0 "com/example/swarm_tally/swarmtally/IntQueue" ∧ Fld Z h a0 "com/example/swarm_tally/swarmtally/IntQueue" "ring" "[I" (.ref ar) ∧ Fld Z h a0 "com/example/swarm_tally/swarmtally/IntQueue" "size" "I" (.int (0 : Int32)) ∧ Fld Z h a0 "com/example/swarm_tally/swarmtally/IntQueue" "head" "I" (.int (3 : Int32)) ∧ ownAI Z h ar .int 16 gi
set_option maxRecDepth 65536 in
set_option maxHeartbeats 40000000 in
theorem rm_remove_2_1 (l : Launch) (Z : State) (a0 : Array Value) (hw : ∀ d ∈ tables_1, d.before a0 Z = true) (ws : List Jvm.Cond) (a0 : Addr) (ar : Addr) (gi : Nat → Int32) (h0 : Heap) (n0 : Nat) (Z0 : n0 ≤ h0.size) (HF0 : Exa Z h0 a0 "com/example/swarm_tally/swarmtally/IntQueue") (HF1 : Fld Z h0 a0 "com/example/swarm_tally/swarmtally/IntQueue" "ring" "[I" (.ref ar)) (HF2 : Fld Z h0 a0 "com/example/swarm_tally/swarmtally/IntQueue" "size" "I" (.int (1 : Int32))) (HF3 : Fld Z h0 a0 "com/example/swarm_tally/swarmtally/IntQueue" "head" "I" (.int (2 : Int32))) (HF4 : ownAI Z h0 ar .int 16 gi) (G_a0 : n0 ≤ a0) (G_ar : n0 ≤ ar) (hne : a0 ≠ ar) :
    MetFree l (⟨"com/example/swarm_tally/swarmtally/IntQueue", "remove", "()I"⟩ : MethodName) (head1 (Jvm.Cond.code (⟨"com/example/swarm_tally/swarmtally/IntQueue", "remove", "()I"⟩ : MethodName) prog_11_method_3_code 2 (some .int) :: ws) ({ frames := 0, cells := 0, slots := 0, locals := 0 } : Room)) (fun a U => a = #[(.ref a0)] ∧ Z.Warmed39 U.vm ∧ U.heap = h0) (fun _ _ _ _ _ => True) (fun _ U o U' => ∃ v L, o = .returned v ∧ (Q_remove_2_1 Z a0 ar gi h0 n0) v U'.heap L ∧ FrameEnd U o U' L ({ frames := 0, cells := 0, slots := 0, locals := 0 } : Room).cells ({ frames := 0, cells := 0, slots := 0, locals := 0 } : Room).slots) := by
  refine MetFree.of_bodySF (plainFor_of_name own_pn_IntQueue) hisR ?_
  intro p e s m args below meth c s₁ Bd hml0 hP hK
  obtain ⟨rfl, hZ, hh⟩ := hP
  have hx := Bd.exec
  have hby := Bd.bytes
  have hml : c.maxLocals = 2 := hml0
  have hown : s.vm.findClass "com/example/swarm_tally/swarmtally/IntQueue" = some m.cls := findClass_of_methodNamed Bd.named
  have hnm := (name_of_methodNamed Bd.named Bd.method).1
  have hlk : meth.locks = false := BodyLoose.notSynchronized Bd
  have X0 : Stand p l e ({ frames := 0, cells := 0, slots := 0, locals := 0 } : Room) s m #[(.ref a0)] below meth c s₁ [] 0 0 := Stand.of_body Bd
  have e0 : s₁.heap = h0 := by rw [← hh, Bd.state]; rfl
  have N0 := Fr.nil n0
  have K0 : Keep h0 h0 [a0, ar] := Keep.refl _ _
  show ownEnds p e below s (Q_remove_2_1 Z a0 ar gi h0 n0) ({ frames := 0, cells := 0, slots := 0, locals := 0 } : Room).cells ({ frames := 0, cells := 0, slots := 0, locals := 0 } : Room).slots s₁ (entryFrame m #[(.ref a0)] 2)
  refine ownCast (own_ef4_remove_2_1 m a0) ?_
  refine ow_aloadN (q := 1) X0 hx (hb hby own_d4_0) rfl rfl rfl ?_
  obtain ⟨T1, X1, e1, st1⟩ := getF X0 hx hZ hown (host := "") (Or.inl (hw _ (List.mem_of_getElem? (i := 10) rfl))) Via.refl e0 HF1 (g := (mkF m 1 #[rv a0, .unset] [(.ref a0)])) rfl rfl (hb hby own_d4_1)
  refine ownGo (T' := T1) (f' := (mkF m 4 #[rv a0, .unset] [(.ref ar)])) (st1) ?_
  refine ow_aloadN (q := 5) X1 hx (hb hby own_d4_4) rfl rfl rfl ?_
  obtain ⟨T2, X2, e2, st2⟩ := getF X1 hx hZ hown (host := "") (Or.inl (hw _ (List.mem_of_getElem? (i := 19) rfl))) Via.refl e1 HF3 (g := (mkF m 5 #[rv a0, .unset] [(.ref a0), (.ref ar)])) rfl rfl (hb hby own_d4_5)
  refine ownGo (T' := T2) (f' := (mkF m 8 #[rv a0, .unset] [(.int (2 : Int32)), (.ref ar)])) (st2) ?_
  refine ownGo (T' := T2) (f' := (mkF m 9 #[rv a0, .unset] [(.int (gi 2))])) (ownIaload HF4 X2 hx hZ e2 (j := (2 : Int32)) (by unfold ownIn; decide) (g := (mkF m 8 #[rv a0, .unset] [(.int (2 : Int32)), (.ref ar)])) rfl rfl (hb hby own_d4_8)) ?_
  generalize hv_v3 : (gi 2) = v3
  refine ow_istoreN (q := 10) X2 hx (L' := #[rv a0, iv v3]) (hb hby own_d4_9) rfl rfl ?_
  refine ow_aloadN (q := 11) X2 hx (hb hby own_d4_10) rfl rfl rfl ?_
  refine ow_aloadN (q := 12) X2 hx (hb hby own_d4_11) rfl rfl rfl ?_
  obtain ⟨T4, X4, e4, st4⟩ := getF X2 hx hZ hown (host := "") (Or.inl (hw _ (List.mem_of_getElem? (i := 19) rfl))) Via.refl e2 HF3 (g := (mkF m 12 #[rv a0, iv v3] [(.ref a0), (.ref a0)])) rfl rfl (hb hby own_d4_12)
  refine ownGo (T' := T4) (f' := (mkF m 15 #[rv a0, iv v3] [(.int (2 : Int32)), (.ref a0)])) (st4) ?_
  refine ow_iconst (q := 16) X4 hx (1 : Int32) (hb hby own_d4_15) rfl rfl ?_
  refine ow_iadd (q := 17) X4 hx (3 : Int32) (hb hby own_d4_16) rfl (by decide) ?_
  refine ow_aloadN (q := 18) X4 hx (hb hby own_d4_17) rfl rfl rfl ?_
  obtain ⟨T5, X5, e5, st5⟩ := getF X4 hx hZ hown (host := "") (Or.inl (hw _ (List.mem_of_getElem? (i := 10) rfl))) Via.refl e4 HF1 (g := (mkF m 18 #[rv a0, iv v3] [(.ref a0), (.int (3 : Int32)), (.ref a0)])) rfl rfl (hb hby own_d4_18)
  refine ownGo (T' := T5) (f' := (mkF m 21 #[rv a0, iv v3] [(.ref ar), (.int (3 : Int32)), (.ref a0)])) (st5) ?_
  refine ownGo (T' := T5) (f' := (mkF m 22 #[rv a0, iv v3] [(.int (16 : Int32)), (.int (3 : Int32)), (.ref a0)])) (ownLenI HF4 X5 hx hZ e5 (z := (16 : Int32)) (by decide) (g := (mkF m 21 #[rv a0, iv v3] [(.ref ar), (.int (3 : Int32)), (.ref a0)])) rfl rfl (hb hby own_d4_21)) ?_
  refine ow_irem (q := 23) X5 hx (3 : Int32) (hb hby own_d4_22) rfl (by decide) (by decide) ?_
  obtain ⟨T6, h6, X6, e6, W6, st6⟩ := putF X5 hx hZ hown (host := "") (Or.inl (hw _ (List.mem_of_getElem? (i := 19) rfl))) Via.refl e5 HF3 HF0 (Or.inl (hw _ (List.mem_of_getElem? (i := 20) rfl))) (hw _ (List.mem_of_getElem? (i := 1) rfl)) (ty := .int) (by decide) rfl rfl (g := (mkF m 23 #[rv a0, iv v3] [(.int (3 : Int32)), (.ref a0)])) rfl rfl (hb hby own_d4_23)
  have N6 := Fr.snoc X6 N0 G_a0
  have K6 : Keep h0 h6 [a0, ar] := K0.wr W6 (Or.inl (List.mem_of_getElem? (i := 0) rfl))
  have F7 : Exa Z h6 a0 "com/example/swarm_tally/swarmtally/IntQueue" := HF0.wr W6
  have F8 : Fld Z h6 a0 "com/example/swarm_tally/swarmtally/IntQueue" "ring" "[I" (.ref ar) := HF1.other W6 (Or.inr (slot_ne (Or.inl (hw _ (List.mem_of_getElem? (i := 11) rfl))) (Or.inl (hw _ (List.mem_of_getElem? (i := 20) rfl))) (by decide) (t := (.array .int)) (t' := .int) (by decide) (by decide)))
  have F9 : Fld Z h6 a0 "com/example/swarm_tally/swarmtally/IntQueue" "size" "I" (.int (1 : Int32)) := HF2.other W6 (Or.inr (slot_ne (Or.inl (hw _ (List.mem_of_getElem? (i := 18) rfl))) (Or.inl (hw _ (List.mem_of_getElem? (i := 20) rfl))) (by decide) (t := .int) (t' := .int) (by decide) (by decide)))
  have F10 : Fld Z h6 a0 "com/example/swarm_tally/swarmtally/IntQueue" "head" "I" (.int (3 : Int32)) := HF3.same W6
  have F11 : ownAI Z h6 ar .int 16 gi := HF4.other W6 (Ne.symm hne)
  refine ownGo (T' := T6) (f' := (mkF m 26 #[rv a0, iv v3] [])) (st6) ?_
  refine ow_aloadN (q := 27) X6 hx (hb hby own_d4_26) rfl rfl rfl ?_
  refine ow_dup (q := 28) X6 hx (hb hby own_d4_27) rfl rfl ?_
  obtain ⟨T12, X12, e12, st12⟩ := getF X6 hx hZ hown (host := "") (Or.inl (hw _ (List.mem_of_getElem? (i := 17) rfl))) Via.refl e6 F9 (g := (mkF m 28 #[rv a0, iv v3] [(.ref a0), (.ref a0)])) rfl rfl (hb hby own_d4_28)
  refine ownGo (T' := T12) (f' := (mkF m 31 #[rv a0, iv v3] [(.int (1 : Int32)), (.ref a0)])) (st12) ?_
  refine ow_iconst (q := 32) X12 hx (1 : Int32) (hb hby own_d4_31) rfl rfl ?_
  refine ow_isub (q := 33) X12 hx (0 : Int32) (hb hby own_d4_32) rfl (by decide) ?_
  obtain ⟨T13, h13, X13, e13, W13, st13⟩ := putF X12 hx hZ hown (host := "") (Or.inl (hw _ (List.mem_of_getElem? (i := 17) rfl))) Via.refl e12 F9 F7 (Or.inl (hw _ (List.mem_of_getElem? (i := 18) rfl))) (hw _ (List.mem_of_getElem? (i := 1) rfl)) (ty := .int) (by decide) rfl rfl (g := (mkF m 33 #[rv a0, iv v3] [(.int (0 : Int32)), (.ref a0)])) rfl rfl (hb hby own_d4_33)
  have N13 := Fr.snoc X13 N6 G_a0
  have K13 : Keep h0 h13 [a0, ar] := K6.wr W13 (Or.inl (List.mem_of_getElem? (i := 0) rfl))
  have F14 : Exa Z h13 a0 "com/example/swarm_tally/swarmtally/IntQueue" := F7.wr W13
  have F15 : Fld Z h13 a0 "com/example/swarm_tally/swarmtally/IntQueue" "ring" "[I" (.ref ar) := F8.other W13 (Or.inr (slot_ne (Or.inl (hw _ (List.mem_of_getElem? (i := 11) rfl))) (Or.inl (hw _ (List.mem_of_getElem? (i := 18) rfl))) (by decide) (t := (.array .int)) (t' := .int) (by decide) (by decide)))
  have F16 : Fld Z h13 a0 "com/example/swarm_tally/swarmtally/IntQueue" "size" "I" (.int (0 : Int32)) := F9.same W13
  have F17 : Fld Z h13 a0 "com/example/swarm_tally/swarmtally/IntQueue" "head" "I" (.int (3 : Int32)) := F10.other W13 (Or.inr (slot_ne (Or.inl (hw _ (List.mem_of_getElem? (i := 20) rfl))) (Or.inl (hw _ (List.mem_of_getElem? (i := 18) rfl))) (by decide) (t := .int) (t' := .int) (by decide) (by decide)))
  have F18 : ownAI Z h13 ar .int 16 gi := F11.other W13 (Ne.symm hne)
  refine ownGo (T' := T13) (f' := (mkF m 36 #[rv a0, iv v3] [])) (st13) ?_
  refine ow_iloadN (q := 37) X13 hx (hb hby own_d4_36) rfl rfl ?_
  refine ownRetI X13 hx Bd.returns (hb hby own_d4_37) hlk (by decide) (by decide) ?_
  subst hv_v3
  rw [e13]
  refine ⟨congrArg (fun q => some (Value.int q)) ?_, N13, K13, F14, F15, F16, F17, F18⟩
  rfl
theorem own_ef4_remove_3_1 (m : MethodId) (a0 : Addr) : entryFrame m #[(.ref a0)] 2 = mkF m 0 #[rv a0, .unset] [] := by first | (simp [entryFrame, mkF, argsToLocals, Value.category]; done) | rfl
def Q_remove_3_1 (Z : State) (a0 : Addr) (ar : Addr) (gi : Nat → Int32) (h0 : Heap) (n0 : Nat) (v : Option Value) (h : Heap) (L : List Loc) : Prop := v = some (.int (gi 3)) ∧ Fr n0 L ∧ Keep h0 h [a0, ar] ∧ Exa Z h a0 "com/example/swarm_tally/swarmtally/IntQueue" ∧ Fld Z h a0 "com/example/swarm_tally/swarmtally/IntQueue" "ring" "[I" (.ref ar) ∧ Fld Z h a0 "com/example/swarm_tally/swarmtally/IntQueue" "size" "I" (.int (0 : Int32)) ∧ Fld Z h a0 "com/example/swarm_tally/swarmtally/IntQueue" "head" "I" (.int (4 : Int32)) ∧ ownAI Z h ar .int 16 gi
set_option maxRecDepth 65536 in
set_option maxHeartbeats 40000000 in
theorem rm_remove_3_1 (l : Launch) (Z : State) (a0 : Array Value) (hw : ∀ d ∈ tables_1, d.before a0 Z = true) (ws : List Jvm.Cond) (a0 : Addr) (ar : Addr) (gi : Nat → Int32) (h0 : Heap) (n0 : Nat) (Z0 : n0 ≤ h0.size) (HF0 : Exa Z h0 a0 "com/example/swarm_tally/swarmtally/IntQueue") (HF1 : Fld Z h0 a0 "com/example/swarm_tally/swarmtally/IntQueue" "ring" "[I" (.ref ar)) (HF2 : Fld Z h0 a0 "com/example/swarm_tally/swarmtally/IntQueue" "size" "I" (.int (1 : Int32))) (HF3 : Fld Z h0 a0 "com/example/swarm_tally/swarmtally/IntQueue" "head" "I" (.int (3 : Int32))) (HF4 : ownAI Z h0 ar .int 16 gi) (G_a0 : n0 ≤ a0) (G_ar : n0 ≤ ar) (hne : a0 ≠ ar) :
    MetFree l (⟨"com/example/swarm_tally/swarmtally/IntQueue", "remove", "()I"⟩ : MethodName) (head1 (Jvm.Cond.code (⟨"com/example/swarm_tally/swarmtally/IntQueue", "remove", "()I"⟩ : MethodName) prog_11_method_3_code 2 (some .int) :: ws) ({ frames := 0, cells := 0, slots := 0, locals := 0 } : Room)) (fun a U => a = #[(.ref a0)] ∧ Z.Warmed39 U.vm ∧ U.heap = h0) (fun _ _ _ _ _ => True) (fun _ U o U' => ∃ v L, o = .returned v ∧ (Q_remove_3_1 Z a0 ar gi h0 n0) v U'.heap L ∧ FrameEnd U o U' L ({ frames := 0, cells := 0, slots := 0, locals := 0 } : Room).cells ({ frames := 0, cells := 0, slots := 0, locals := 0 } : Room).slots) := by
  refine MetFree.of_bodySF (plainFor_of_name own_pn_IntQueue) hisR ?_
  intro p e s m args below meth c s₁ Bd hml0 hP hK
  obtain ⟨rfl, hZ, hh⟩ := hP
  have hx := Bd.exec
  have hby := Bd.bytes
  have hml : c.maxLocals = 2 := hml0
  have hown : s.vm.findClass "com/example/swarm_tally/swarmtally/IntQueue" = some m.cls := findClass_of_methodNamed Bd.named
  have hnm := (name_of_methodNamed Bd.named Bd.method).1
  have hlk : meth.locks = false := BodyLoose.notSynchronized Bd
  have X0 : Stand p l e ({ frames := 0, cells := 0, slots := 0, locals := 0 } : Room) s m #[(.ref a0)] below meth c s₁ [] 0 0 := Stand.of_body Bd
  have e0 : s₁.heap = h0 := by rw [← hh, Bd.state]; rfl
  have N0 := Fr.nil n0
  have K0 : Keep h0 h0 [a0, ar] := Keep.refl _ _
  show ownEnds p e below s (Q_remove_3_1 Z a0 ar gi h0 n0) ({ frames := 0, cells := 0, slots := 0, locals := 0 } : Room).cells ({ frames := 0, cells := 0, slots := 0, locals := 0 } : Room).slots s₁ (entryFrame m #[(.ref a0)] 2)
  refine ownCast (own_ef4_remove_3_1 m a0) ?_
  refine ow_aloadN (q := 1) X0 hx (hb hby own_d4_0) rfl rfl rfl ?_
  obtain ⟨T1, X1, e1, st1⟩ := getF X0 hx hZ hown (host := "") (Or.inl (hw _ (List.mem_of_getElem? (i := 10) rfl))) Via.refl e0 HF1 (g := (mkF m 1 #[rv a0, .unset] [(.ref a0)])) rfl rfl (hb hby own_d4_1)
  refine ownGo (T' := T1) (f' := (mkF m 4 #[rv a0, .unset] [(.ref ar)])) (st1) ?_
  refine ow_aloadN (q := 5) X1 hx (hb hby own_d4_4) rfl rfl rfl ?_
  obtain ⟨T2, X2, e2, st2⟩ := getF X1 hx hZ hown (host := "") (Or.inl (hw _ (List.mem_of_getElem? (i := 19) rfl))) Via.refl e1 HF3 (g := (mkF m 5 #[rv a0, .unset] [(.ref a0), (.ref ar)])) rfl rfl (hb hby own_d4_5)
  refine ownGo (T' := T2) (f' := (mkF m 8 #[rv a0, .unset] [(.int (3 : Int32)), (.ref ar)])) (st2) ?_
  refine ownGo (T' := T2) (f' := (mkF m 9 #[rv a0, .unset] [(.int (gi 3))])) (ownIaload HF4 X2 hx hZ e2 (j := (3 : Int32)) (by unfold ownIn; decide) (g := (mkF m 8 #[rv a0, .unset] [(.int (3 : Int32)), (.ref ar)])) rfl rfl (hb hby own_d4_8)) ?_
  generalize hv_v3 : (gi 3) = v3
  refine ow_istoreN (q := 10) X2 hx (L' := #[rv a0, iv v3]) (hb hby own_d4_9) rfl rfl ?_
  refine ow_aloadN (q := 11) X2 hx (hb hby own_d4_10) rfl rfl rfl ?_
  refine ow_aloadN (q := 12) X2 hx (hb hby own_d4_11) rfl rfl rfl ?_
  obtain ⟨T4, X4, e4, st4⟩ := getF X2 hx hZ hown (host := "") (Or.inl (hw _ (List.mem_of_getElem? (i := 19) rfl))) Via.refl e2 HF3 (g := (mkF m 12 #[rv a0, iv v3] [(.ref a0), (.ref a0)])) rfl rfl (hb hby own_d4_12)
  refine ownGo (T' := T4) (f' := (mkF m 15 #[rv a0, iv v3] [(.int (3 : Int32)), (.ref a0)])) (st4) ?_
  refine ow_iconst (q := 16) X4 hx (1 : Int32) (hb hby own_d4_15) rfl rfl ?_
  refine ow_iadd (q := 17) X4 hx (4 : Int32) (hb hby own_d4_16) rfl (by decide) ?_
  refine ow_aloadN (q := 18) X4 hx (hb hby own_d4_17) rfl rfl rfl ?_
  obtain ⟨T5, X5, e5, st5⟩ := getF X4 hx hZ hown (host := "") (Or.inl (hw _ (List.mem_of_getElem? (i := 10) rfl))) Via.refl e4 HF1 (g := (mkF m 18 #[rv a0, iv v3] [(.ref a0), (.int (4 : Int32)), (.ref a0)])) rfl rfl (hb hby own_d4_18)
  refine ownGo (T' := T5) (f' := (mkF m 21 #[rv a0, iv v3] [(.ref ar), (.int (4 : Int32)), (.ref a0)])) (st5) ?_
  refine ownGo (T' := T5) (f' := (mkF m 22 #[rv a0, iv v3] [(.int (16 : Int32)), (.int (4 : Int32)), (.ref a0)])) (ownLenI HF4 X5 hx hZ e5 (z := (16 : Int32)) (by decide) (g := (mkF m 21 #[rv a0, iv v3] [(.ref ar), (.int (4 : Int32)), (.ref a0)])) rfl rfl (hb hby own_d4_21)) ?_
  refine ow_irem (q := 23) X5 hx (4 : Int32) (hb hby own_d4_22) rfl (by decide) (by decide) ?_
  obtain ⟨T6, h6, X6, e6, W6, st6⟩ := putF X5 hx hZ hown (host := "") (Or.inl (hw _ (List.mem_of_getElem? (i := 19) rfl))) Via.refl e5 HF3 HF0 (Or.inl (hw _ (List.mem_of_getElem? (i := 20) rfl))) (hw _ (List.mem_of_getElem? (i := 1) rfl)) (ty := .int) (by decide) rfl rfl (g := (mkF m 23 #[rv a0, iv v3] [(.int (4 : Int32)), (.ref a0)])) rfl rfl (hb hby own_d4_23)
  have N6 := Fr.snoc X6 N0 G_a0
  have K6 : Keep h0 h6 [a0, ar] := K0.wr W6 (Or.inl (List.mem_of_getElem? (i := 0) rfl))
  have F7 : Exa Z h6 a0 "com/example/swarm_tally/swarmtally/IntQueue" := HF0.wr W6
  have F8 : Fld Z h6 a0 "com/example/swarm_tally/swarmtally/IntQueue" "ring" "[I" (.ref ar) := HF1.other W6 (Or.inr (slot_ne (Or.inl (hw _ (List.mem_of_getElem? (i := 11) rfl))) (Or.inl (hw _ (List.mem_of_getElem? (i := 20) rfl))) (by decide) (t := (.array .int)) (t' := .int) (by decide) (by decide)))
  have F9 : Fld Z h6 a0 "com/example/swarm_tally/swarmtally/IntQueue" "size" "I" (.int (1 : Int32)) := HF2.other W6 (Or.inr (slot_ne (Or.inl (hw _ (List.mem_of_getElem? (i := 18) rfl))) (Or.inl (hw _ (List.mem_of_getElem? (i := 20) rfl))) (by decide) (t := .int) (t' := .int) (by decide) (by decide)))
  have F10 : Fld Z h6 a0 "com/example/swarm_tally/swarmtally/IntQueue" "head" "I" (.int (4 : Int32)) := HF3.same W6
  have F11 : ownAI Z h6 ar .int 16 gi := HF4.other W6 (Ne.symm hne)
  refine ownGo (T' := T6) (f' := (mkF m 26 #[rv a0, iv v3] [])) (st6) ?_
  refine ow_aloadN (q := 27) X6 hx (hb hby own_d4_26) rfl rfl rfl ?_
  refine ow_dup (q := 28) X6 hx (hb hby own_d4_27) rfl rfl ?_
  obtain ⟨T12, X12, e12, st12⟩ := getF X6 hx hZ hown (host := "") (Or.inl (hw _ (List.mem_of_getElem? (i := 17) rfl))) Via.refl e6 F9 (g := (mkF m 28 #[rv a0, iv v3] [(.ref a0), (.ref a0)])) rfl rfl (hb hby own_d4_28)
  refine ownGo (T' := T12) (f' := (mkF m 31 #[rv a0, iv v3] [(.int (1 : Int32)), (.ref a0)])) (st12) ?_
  refine ow_iconst (q := 32) X12 hx (1 : Int32) (hb hby own_d4_31) rfl rfl ?_
  refine ow_isub (q := 33) X12 hx (0 : Int32) (hb hby own_d4_32) rfl (by decide) ?_
  obtain ⟨T13, h13, X13, e13, W13, st13⟩ := putF X12 hx hZ hown (host := "") (Or.inl (hw _ (List.mem_of_getElem? (i := 17) rfl))) Via.refl e12 F9 F7 (Or.inl (hw _ (List.mem_of_getElem? (i := 18) rfl))) (hw _ (List.mem_of_getElem? (i := 1) rfl)) (ty := .int) (by decide) rfl rfl (g := (mkF m 33 #[rv a0, iv v3] [(.int (0 : Int32)), (.ref a0)])) rfl rfl (hb hby own_d4_33)
  have N13 := Fr.snoc X13 N6 G_a0
  have K13 : Keep h0 h13 [a0, ar] := K6.wr W13 (Or.inl (List.mem_of_getElem? (i := 0) rfl))
  have F14 : Exa Z h13 a0 "com/example/swarm_tally/swarmtally/IntQueue" := F7.wr W13
  have F15 : Fld Z h13 a0 "com/example/swarm_tally/swarmtally/IntQueue" "ring" "[I" (.ref ar) := F8.other W13 (Or.inr (slot_ne (Or.inl (hw _ (List.mem_of_getElem? (i := 11) rfl))) (Or.inl (hw _ (List.mem_of_getElem? (i := 18) rfl))) (by decide) (t := (.array .int)) (t' := .int) (by decide) (by decide)))
  have F16 : Fld Z h13 a0 "com/example/swarm_tally/swarmtally/IntQueue" "size" "I" (.int (0 : Int32)) := F9.same W13
  have F17 : Fld Z h13 a0 "com/example/swarm_tally/swarmtally/IntQueue" "head" "I" (.int (4 : Int32)) := F10.other W13 (Or.inr (slot_ne (Or.inl (hw _ (List.mem_of_getElem? (i := 20) rfl))) (Or.inl (hw _ (List.mem_of_getElem? (i := 18) rfl))) (by decide) (t := .int) (t' := .int) (by decide) (by decide)))
  have F18 : ownAI Z h13 ar .int 16 gi := F11.other W13 (Ne.symm hne)
  refine ownGo (T' := T13) (f' := (mkF m 36 #[rv a0, iv v3] [])) (st13) ?_
  refine ow_iloadN (q := 37) X13 hx (hb hby own_d4_36) rfl rfl ?_
  refine ownRetI X13 hx Bd.returns (hb hby own_d4_37) hlk (by decide) (by decide) ?_
  subst hv_v3
  rw [e13]
  refine ⟨congrArg (fun q => some (Value.int q)) ?_, N13, K13, F14, F15, F16, F17, F18⟩
  rfl
theorem own_d5_0 : decode prog_11_method_5_code 0 = .ok (.aload_n 0, 1) := by decide +kernel
theorem own_d5_1 : decode prog_11_method_5_code 1 = .ok (.getfield 13, 3) := by decide +kernel
theorem own_d5_4 : decode prog_11_method_5_code 4 = .ok (.ireturn, 1) := by decide +kernel
theorem own_ef5_size (m : MethodId) (a0 : Addr) : entryFrame m #[(.ref a0)] 1 = mkF m 0 #[rv a0] [] := by first | (simp [entryFrame, mkF, argsToLocals, Value.category]; done) | rfl
def Q_size (Z : State) (a0 : Addr) (w : Int32) (h0 : Heap) (n0 : Nat) (v : Option Value) (h : Heap) (L : List Loc) : Prop := v = some (.int w) ∧ Fr n0 L ∧ h = h0
set_option maxRecDepth 65536 in
set_option maxHeartbeats 40000000 in
theorem rm_size (l : Launch) (Z : State) (a0 : Array Value) (hw : ∀ d ∈ tables_1, d.before a0 Z = true) (ws : List Jvm.Cond) (a0 : Addr) (w : Int32) (h0 : Heap) (n0 : Nat) (Z0 : n0 ≤ h0.size) (HF0 : Fld Z h0 a0 "com/example/swarm_tally/swarmtally/IntQueue" "size" "I" (.int w)) :
    MetFree l (⟨"com/example/swarm_tally/swarmtally/IntQueue", "size", "()I"⟩ : MethodName) (head1 (Jvm.Cond.code (⟨"com/example/swarm_tally/swarmtally/IntQueue", "size", "()I"⟩ : MethodName) prog_11_method_5_code 1 (some .int) :: ws) ({ frames := 0, cells := 0, slots := 0, locals := 0 } : Room)) (fun a U => a = #[(.ref a0)] ∧ Z.Warmed39 U.vm ∧ U.heap = h0) (fun _ _ _ _ _ => True) (fun _ U o U' => ∃ v L, o = .returned v ∧ (Q_size Z a0 w h0 n0) v U'.heap L ∧ FrameEnd U o U' L ({ frames := 0, cells := 0, slots := 0, locals := 0 } : Room).cells ({ frames := 0, cells := 0, slots := 0, locals := 0 } : Room).slots) := by
  refine MetFree.of_bodySF (plainFor_of_name own_pn_IntQueue) hisR ?_
  intro p e s m args below meth c s₁ Bd hml0 hP hK
  obtain ⟨rfl, hZ, hh⟩ := hP
  have hx := Bd.exec
  have hby := Bd.bytes
  have hml : c.maxLocals = 1 := hml0
  have hown : s.vm.findClass "com/example/swarm_tally/swarmtally/IntQueue" = some m.cls := findClass_of_methodNamed Bd.named
  have hnm := (name_of_methodNamed Bd.named Bd.method).1
  have hlk : meth.locks = false := BodyLoose.notSynchronized Bd
  have X0 : Stand p l e ({ frames := 0, cells := 0, slots := 0, locals := 0 } : Room) s m #[(.ref a0)] below meth c s₁ [] 0 0 := Stand.of_body Bd
  have e0 : s₁.heap = h0 := by rw [← hh, Bd.state]; rfl
  have N0 := Fr.nil n0
  have K0 : Keep h0 h0 [] := Keep.refl _ _
  show ownEnds p e below s (Q_size Z a0 w h0 n0) ({ frames := 0, cells := 0, slots := 0, locals := 0 } : Room).cells ({ frames := 0, cells := 0, slots := 0, locals := 0 } : Room).slots s₁ (entryFrame m #[(.ref a0)] 1)
  refine ownCast (own_ef5_size m a0) ?_
  refine ow_aloadN (q := 1) X0 hx (hb hby own_d5_0) rfl rfl rfl ?_
  obtain ⟨T1, X1, e1, st1⟩ := getF X0 hx hZ hown (host := "") (Or.inl (hw _ (List.mem_of_getElem? (i := 17) rfl))) Via.refl e0 HF0 (g := (mkF m 1 #[rv a0] [(.ref a0)])) rfl rfl (hb hby own_d5_1)
  refine ownGo (T' := T1) (f' := (mkF m 4 #[rv a0] [(.int w)])) (st1) ?_
  refine ownRetI X1 hx Bd.returns (hb hby own_d5_4) hlk (by decide) (by decide) ?_
  rw [e1]
  exact ⟨rfl, N0, rfl⟩
theorem own_d6_0 : decode prog_11_method_4_code 0 = .ok (.aload_n 0, 1) := by decide +kernel
theorem own_d6_1 : decode prog_11_method_4_code 1 = .ok (.getfield 13, 3) := by decide +kernel
theorem own_d6_4 : decode prog_11_method_4_code 4 = .ok (.ifCond .ne 7, 3) := by decide +kernel
theorem own_d6_7 : decode prog_11_method_4_code 7 = .ok (.iconst 1, 1) := by decide +kernel
theorem own_d6_8 : decode prog_11_method_4_code 8 = .ok (.goto 4, 3) := by decide +kernel
theorem own_d6_12 : decode prog_11_method_4_code 12 = .ok (.ireturn, 1) := by decide +kernel
theorem own_ef6_isEmpty_0 (m : MethodId) (a0 : Addr) : entryFrame m #[(.ref a0)] 1 = mkF m 0 #[rv a0] [] := by first | (simp [entryFrame, mkF, argsToLocals, Value.category]; done) | rfl
def Q_isEmpty_0 (Z : State) (a0 : Addr) (h0 : Heap) (n0 : Nat) (v : Option Value) (h : Heap) (L : List Loc) : Prop := v = some (.int (1 : Int32)) ∧ Fr n0 L ∧ h = h0
set_option maxRecDepth 65536 in
set_option maxHeartbeats 40000000 in
theorem rm_isEmpty_0 (l : Launch) (Z : State) (a0 : Array Value) (hw : ∀ d ∈ tables_1, d.before a0 Z = true) (ws : List Jvm.Cond) (a0 : Addr) (h0 : Heap) (n0 : Nat) (Z0 : n0 ≤ h0.size) (HF0 : Fld Z h0 a0 "com/example/swarm_tally/swarmtally/IntQueue" "size" "I" (.int (0 : Int32))) :
    MetFree l (⟨"com/example/swarm_tally/swarmtally/IntQueue", "isEmpty", "()Z"⟩ : MethodName) (head1 (Jvm.Cond.code (⟨"com/example/swarm_tally/swarmtally/IntQueue", "isEmpty", "()Z"⟩ : MethodName) prog_11_method_4_code 1 (some .boolean) :: ws) ({ frames := 0, cells := 0, slots := 0, locals := 0 } : Room)) (fun a U => a = #[(.ref a0)] ∧ Z.Warmed39 U.vm ∧ U.heap = h0) (fun _ _ _ _ _ => True) (fun _ U o U' => ∃ v L, o = .returned v ∧ (Q_isEmpty_0 Z a0 h0 n0) v U'.heap L ∧ FrameEnd U o U' L ({ frames := 0, cells := 0, slots := 0, locals := 0 } : Room).cells ({ frames := 0, cells := 0, slots := 0, locals := 0 } : Room).slots) := by
  refine MetFree.of_bodySF (plainFor_of_name own_pn_IntQueue) hisR ?_
  intro p e s m args below meth c s₁ Bd hml0 hP hK
  obtain ⟨rfl, hZ, hh⟩ := hP
  have hx := Bd.exec
  have hby := Bd.bytes
  have hml : c.maxLocals = 1 := hml0
  have hown : s.vm.findClass "com/example/swarm_tally/swarmtally/IntQueue" = some m.cls := findClass_of_methodNamed Bd.named
  have hnm := (name_of_methodNamed Bd.named Bd.method).1
  have hlk : meth.locks = false := BodyLoose.notSynchronized Bd
  have X0 : Stand p l e ({ frames := 0, cells := 0, slots := 0, locals := 0 } : Room) s m #[(.ref a0)] below meth c s₁ [] 0 0 := Stand.of_body Bd
  have e0 : s₁.heap = h0 := by rw [← hh, Bd.state]; rfl
  have N0 := Fr.nil n0
  have K0 : Keep h0 h0 [] := Keep.refl _ _
  show ownEnds p e below s (Q_isEmpty_0 Z a0 h0 n0) ({ frames := 0, cells := 0, slots := 0, locals := 0 } : Room).cells ({ frames := 0, cells := 0, slots := 0, locals := 0 } : Room).slots s₁ (entryFrame m #[(.ref a0)] 1)
  refine ownCast (own_ef6_isEmpty_0 m a0) ?_
  refine ow_aloadN (q := 1) X0 hx (hb hby own_d6_0) rfl rfl rfl ?_
  obtain ⟨T1, X1, e1, st1⟩ := getF X0 hx hZ hown (host := "") (Or.inl (hw _ (List.mem_of_getElem? (i := 17) rfl))) Via.refl e0 HF0 (g := (mkF m 1 #[rv a0] [(.ref a0)])) rfl rfl (hb hby own_d6_1)
  refine ownGo (T' := T1) (f' := (mkF m 4 #[rv a0] [(.int (0 : Int32))])) (st1) ?_
  refine ow_ifNo (q := 7) X1 hx (hb hby own_d6_4) rfl (Jvm.Free.XT.i0_ne_f (by decide)) ?_
  refine ow_iconst (q := 8) X1 hx (1 : Int32) (hb hby own_d6_7) rfl rfl ?_
  refine ow_goto (q := 12) X1 hx (hb hby own_d6_8) (by decide) (by decide) ?_
  refine ownRetN X1 hx (r := (1 : Int32)) (Or.inl rfl) Bd.returns (hb hby own_d6_12) hlk (by decide) (by decide) (by decide) ?_
  rw [e1]
  exact ⟨rfl, N0, rfl⟩
theorem own_pn_IntQueueRemovePinLaw : plainName "com/example/swarm_tally/swarmtally/IntQueueRemovePinLaw" = true := by first | (simp [plainName, overriddenIn]; done) | decide +kernel
theorem own_pd0 : parseMethodDescriptor "()V" = some ⟨[], none⟩ := by decide +kernel
theorem own_pd1 : parseMethodDescriptor "(I)V" = some ⟨[.int], none⟩ := by decide +kernel
theorem own_pd2 : parseMethodDescriptor "()I" = some ⟨[], some .int⟩ := by decide +kernel
theorem own_pd3 : parseMethodDescriptor "()Z" = some ⟨[], some .boolean⟩ := by decide +kernel
theorem own_ef0_law (m : MethodId) (p0 : Int32) (p1 : Int32) (p2 : Int32) (p3 : Int32) : entryFrame m #[(.int p0), (.int p1), (.int p2), (.int p3)] maxLocals = mkF m 0 #[iv p0, iv p1, iv p2, iv p3, .unset, .unset, .unset, .unset, .unset, .unset, .unset, .unset] [] := by first | (simp [entryFrame, mkF, argsToLocals, Value.category, maxLocals]; done) | rfl
def Q_law (Z : State) (p0 : Int32) (p1 : Int32) (p2 : Int32) (p3 : Int32) (h0 : Heap) (n0 : Nat) (v : Option Value) (h : Heap) (L : List Loc) : Prop := v = some (.int 1) ∧ Fr n0 L
set_option maxRecDepth 65536 in
set_option maxHeartbeats 40000000 in
theorem rm_law (l : Launch) (Z : State) (a0 : Array Value) (hw : ∀ d ∈ tables_1, d.before a0 Z = true) (ws : List Jvm.Cond) (p0 : Int32) (p1 : Int32) (p2 : Int32) (p3 : Int32) (h0 : Heap) (n0 : Nat) (Z0 : n0 ≤ h0.size) :
    MetFree l x (head1 (Jvm.Cond.code x code maxLocals ret :: ws) room_1) (fun a U => a = #[(.int p0), (.int p1), (.int p2), (.int p3)] ∧ Z.Warmed39 U.vm ∧ U.heap = h0) (fun _ _ _ _ _ => True) (fun _ U o U' => ∃ v L, o = .returned v ∧ (Q_law Z p0 p1 p2 p3 h0 n0) v U'.heap L ∧ FrameEnd U o U' L 16 128) := by
  refine MetFree.of_bodySF (plainFor_of_name own_pn_IntQueueRemovePinLaw) hisR ?_
  intro p e s m args below meth c s₁ Bd hml0 hP hK
  obtain ⟨rfl, hZ, hh⟩ := hP
  have hx := Bd.exec
  have hby := Bd.bytes
  have hml : c.maxLocals = 12 := hml0
  have hown : s.vm.findClass "com/example/swarm_tally/swarmtally/IntQueueRemovePinLaw" = some m.cls := findClass_of_methodNamed Bd.named
  have hnm := (name_of_methodNamed Bd.named Bd.method).1
  have hlk : meth.locks = false := BodyLoose.notSynchronized Bd
  have X0 : Stand p l e room_1 s m #[(.int p0), (.int p1), (.int p2), (.int p3)] below meth c s₁ [] 0 0 := Stand.of_body Bd
  have e0 : s₁.heap = h0 := by rw [← hh, Bd.state]; rfl
  have N0 := Fr.nil n0
  have K0 : Keep h0 h0 [] := Keep.refl _ _
  show ownEnds p e below s (Q_law Z p0 p1 p2 p3 h0 n0) 16 128 s₁ (entryFrame m #[(.int p0), (.int p1), (.int p2), (.int p3)] maxLocals)
  refine ownCast (own_ef0_law m p0 p1 p2 p3) ?_
  obtain ⟨T1, h1, X1, e1, E1, A1, D1, -, st1⟩ := newO X0 hx hZ hown (hw _ (List.mem_of_getElem? (i := 0) rfl)) (hw _ (List.mem_of_getElem? (i := 1) rfl)) (hw _ (List.mem_of_getElem? (i := 2) rfl)) e0 (g := (mkF m 0 #[iv p0, iv p1, iv p2, iv p3, .unset, .unset, .unset, .unset, .unset, .unset, .unset, .unset] [])) rfl (hb hby at_0) (by decide) (by decide)
  obtain ⟨b1, g1⟩ : ∃ z, z = h0.size := ⟨_, rfl⟩
  rw [← g1] at A1 D1 st1
  have sz_b1 : h0.size ≤ b1 := Nat.le_trans K0.1 (Nat.le_of_eq g1.symm)
  have G_b1 : n0 ≤ b1 := Nat.le_trans Z0 sz_b1
  have K1 : Keep h0 h1 [] := K0.ext E1
  have F2 : Fld Z h1 b1 "com/example/swarm_tally/swarmtally/IntQueue" "ring" "[I" .null := D1 (Or.inl (hw _ (List.mem_of_getElem? (i := 11) rfl))) (ty := (.array .int)) (by decide)
  have F3 : Fld Z h1 b1 "com/example/swarm_tally/swarmtally/IntQueue" "size" "I" (.int (0 : Int32)) := D1 (Or.inl (hw _ (List.mem_of_getElem? (i := 18) rfl))) (ty := .int) (by decide)
  have F4 : Fld Z h1 b1 "com/example/swarm_tally/swarmtally/IntQueue" "head" "I" (.int (0 : Int32)) := D1 (Or.inl (hw _ (List.mem_of_getElem? (i := 20) rfl))) (ty := .int) (by decide)
  refine ownGo (T' := T1) (f' := (mkF m 3 #[iv p0, iv p1, iv p2, iv p3, .unset, .unset, .unset, .unset, .unset, .unset, .unset, .unset] [(.ref b1)])) (st1) ?_
  refine ow_dup (q := 4) X1 hx (hb hby at_3) rfl rfl ?_
  obtain ⟨_, _, ⟨T5, L5, k5, n5⟩, -, X5, ⟨Lc5, hQ5, l5, y5, z5⟩, st5⟩ := X1.specialBack hx (y := (⟨"com/example/swarm_tally/swarmtally/IntQueue", "<init>", "()V"⟩ : MethodName)) rfl hown (mvT hZ (hw _ (List.mem_of_getElem? (i := 3) rfl))) (mvT hZ (hw _ (List.mem_of_getElem? (i := 4) rfl))) (mvT hZ (hw _ (List.mem_of_getElem? (i := 5) rfl))) (by decide) (backOf (W := 1) (rm_init l Z a0 hw [] b1 h1 n0 (Nat.le_trans Z0 K1.1) A1 F2 F3 F4 G_b1) hZ (hw _ (List.mem_of_getElem? (i := 5) rfl)) (hw _ (List.mem_of_getElem? (i := 2) rfl)) (by decide) (by decide)) (g := (mkF m 4 #[iv p0, iv p1, iv p2, iv p3, .unset, .unset, .unset, .unset, .unset, .unset, .unset, .unset] [(.ref b1), (.ref b1)])) rfl (by rw [hml]; rfl) (Steps.refl _) (a := b1) (argsL := []) (rest := [(.ref b1)]) (lenOf own_pd0 rfl) rfl (by show 2 * 0 + _ ≤ _; exact Nat.le_of_eq rfl) (hb hby at_4) (fun _ _ => ⟨rfl, e1, (by decide : 1 + 1 ≤ _), (by decide : 3 + 16 ≤ _)⟩)
  dsimp only [Pt.U, Pt.locs, Pt.cells, Pt.slots] at X5 l5 y5 z5 st5 hQ5
  subst l5 y5 z5
  obtain ⟨ar_5, rfl, N5q, Kq5, sq5_ar_5, FP5_0, FP5_1, FP5_2, FP5_3, FP5_4⟩ := hQ5
  have N5 := Fr.app N0 N5q
  have K5 : Keep h0 T5.heap [] := K1.trans Kq5 (allS (Or.inr sz_b1) all0)
  have ne_b1_ar_5 : b1 ≠ ar_5 := Nat.ne_of_lt (Nat.lt_of_lt_of_le A1.lt sq5_ar_5)
  have sz_ar_5 : h0.size ≤ ar_5 := Nat.le_trans K1.1 sq5_ar_5
  have G_ar_5 : n0 ≤ ar_5 := Nat.le_trans Z0 sz_ar_5
  have F6 : Exa Z T5.heap b1 "com/example/swarm_tally/swarmtally/IntQueue" := A1.keep Kq5
  refine ownRun (T' := T5) (f' := (mkF m 7 #[iv p0, iv p1, iv p2, iv p3, .unset, .unset, .unset, .unset, .unset, .unset, .unset, .unset] [(.ref b1)])) st5 ?_
  refine ow_astore (q := 9) X5 hx (L' := #[iv p0, iv p1, iv p2, iv p3, rv b1, .unset, .unset, .unset, .unset, .unset, .unset, .unset]) (hb hby at_7) rfl rfl rfl ?_
  refine ow_aload (q := 11) X5 hx (hb hby at_9) rfl rfl rfl ?_
  refine ow_iloadN (q := 12) X5 hx (hb hby at_11) rfl rfl ?_
  obtain ⟨cq7, kq7, q7a, q7b, q7c⟩ := isOf hZ rfl FP5_0
  obtain ⟨_, _, ⟨T7, L7, k7, n7⟩, -, X7, ⟨Lc7, hQ7, l7, y7, z7⟩, st7⟩ := X5.virtualBack hx (y := (⟨"com/example/swarm_tally/swarmtally/IntQueue", "add", "(I)V"⟩ : MethodName)) (z := (⟨"com/example/swarm_tally/swarmtally/IntQueue", "add", "(I)V"⟩ : MethodName)) hown (mvT hZ (hw _ (List.mem_of_getElem? (i := 12) rfl))) (mvT hZ (hw _ (List.mem_of_getElem? (i := 13) rfl))) (notFace_of_selects (args := #[]) (mvT hZ (hw _ (List.mem_of_getElem? (i := 15) rfl)))) (mvT hZ (hw _ (List.mem_of_getElem? (i := 15) rfl))) (mvT hZ (hw _ (List.mem_of_getElem? (i := 14) rfl))) (by decide) (backOf (W := 0) (rm_add_0_0 l Z a0 hw [] b1 p0 ar_5 (fun _ => (0 : Int32)) T5.heap n0 (Nat.le_trans Z0 K5.1) FP5_0 FP5_1 FP5_2 FP5_3 FP5_4 G_b1 G_ar_5 ne_b1_ar_5) hZ (hw _ (List.mem_of_getElem? (i := 16) rfl)) (hw _ (List.mem_of_getElem? (i := 2) rfl)) (by decide) (by decide)) q7a q7c (g := (mkF m 12 #[iv p0, iv p1, iv p2, iv p3, rv b1, .unset, .unset, .unset, .unset, .unset, .unset, .unset] [(.int p0), (.ref b1)])) rfl (by rw [hml]; rfl) (Steps.refl _) (argsL := [(.int p0)]) (rest := []) (lenOf own_pd1 rfl) rfl (by show 2 * 0 + _ ≤ _; exact Nat.le_of_eq rfl) (hb hby at_12) (fun _ _ => ⟨rfl, rfl, (by decide : 2 + 0 ≤ _), (by decide : 19 + 0 ≤ _)⟩)
  dsimp only [Pt.U, Pt.locs, Pt.cells, Pt.slots] at X7 l7 y7 z7 st7 hQ7
  subst l7 y7 z7
  obtain ⟨rfl, N7q, Kq7, FP7_0, FP7_1, FP7_2, FP7_3, FP7_4⟩ := hQ7
  have N7 := Fr.app N5 N7q
  have K7 : Keep h0 T7.heap [] := K5.trans Kq7 (allS (Or.inr sz_b1) (allS (Or.inr sz_ar_5) all0))
  have F8 : Exa Z T7.heap b1 "com/example/swarm_tally/swarmtally/IntQueue" := FP5_0.keep Kq7
  refine ownRun (T' := T7) (f' := (mkF m 15 #[iv p0, iv p1, iv p2, iv p3, rv b1, .unset, .unset, .unset, .unset, .unset, .unset, .unset] [])) st7 ?_
  refine ow_aload (q := 17) X7 hx (hb hby at_15) rfl rfl rfl ?_
  refine ow_iloadN (q := 18) X7 hx (hb hby at_17) rfl rfl ?_
  obtain ⟨cq9, kq9, q9a, q9b, q9c⟩ := isOf hZ rfl FP7_0
  obtain ⟨_, _, ⟨T9, L9, k9, n9⟩, -, X9, ⟨Lc9, hQ9, l9, y9, z9⟩, st9⟩ := X7.virtualBack hx (y := (⟨"com/example/swarm_tally/swarmtally/IntQueue", "add", "(I)V"⟩ : MethodName)) (z := (⟨"com/example/swarm_tally/swarmtally/IntQueue", "add", "(I)V"⟩ : MethodName)) hown (mvT hZ (hw _ (List.mem_of_getElem? (i := 12) rfl))) (mvT hZ (hw _ (List.mem_of_getElem? (i := 13) rfl))) (notFace_of_selects (args := #[]) (mvT hZ (hw _ (List.mem_of_getElem? (i := 15) rfl)))) (mvT hZ (hw _ (List.mem_of_getElem? (i := 15) rfl))) (mvT hZ (hw _ (List.mem_of_getElem? (i := 14) rfl))) (by decide) (backOf (W := 0) (rm_add_0_1 l Z a0 hw [] b1 p1 ar_5 (ownUpd (fun _ => (0 : Int32)) 0 p0) T7.heap n0 (Nat.le_trans Z0 K7.1) FP7_0 FP7_1 FP7_2 FP7_3 FP7_4 G_b1 G_ar_5 ne_b1_ar_5) hZ (hw _ (List.mem_of_getElem? (i := 16) rfl)) (hw _ (List.mem_of_getElem? (i := 2) rfl)) (by decide) (by decide)) q9a q9c (g := (mkF m 18 #[iv p0, iv p1, iv p2, iv p3, rv b1, .unset, .unset, .unset, .unset, .unset, .unset, .unset] [(.int p1), (.ref b1)])) rfl (by rw [hml]; rfl) (Steps.refl _) (argsL := [(.int p1)]) (rest := []) (lenOf own_pd1 rfl) rfl (by show 2 * 0 + _ ≤ _; exact Nat.le_of_eq rfl) (hb hby at_18) (fun _ _ => ⟨rfl, rfl, (by decide : 2 + 0 ≤ _), (by decide : 19 + 0 ≤ _)⟩)
  dsimp only [Pt.U, Pt.locs, Pt.cells, Pt.slots] at X9 l9 y9 z9 st9 hQ9
  subst l9 y9 z9
  obtain ⟨rfl, N9q, Kq9, FP9_0, FP9_1, FP9_2, FP9_3, FP9_4⟩ := hQ9
  have N9 := Fr.app N7 N9q
  have K9 : Keep h0 T9.heap [] := K7.trans Kq9 (allS (Or.inr sz_b1) (allS (Or.inr sz_ar_5) all0))
  have F10 : Exa Z T9.heap b1 "com/example/swarm_tally/swarmtally/IntQueue" := FP7_0.keep Kq9
  refine ownRun (T' := T9) (f' := (mkF m 21 #[iv p0, iv p1, iv p2, iv p3, rv b1, .unset, .unset, .unset, .unset, .unset, .unset, .unset] [])) st9 ?_
  refine ow_aload (q := 23) X9 hx (hb hby at_21) rfl rfl rfl ?_
  obtain ⟨cq11, kq11, q11a, q11b, q11c⟩ := isOf hZ rfl FP9_0
  obtain ⟨_, _, ⟨T11, L11, k11, n11⟩, -, X11, ⟨Lc11, hQ11, l11, y11, z11⟩, st11⟩ := X9.virtualBack hx (y := (⟨"com/example/swarm_tally/swarmtally/IntQueue", "remove", "()I"⟩ : MethodName)) (z := (⟨"com/example/swarm_tally/swarmtally/IntQueue", "remove", "()I"⟩ : MethodName)) hown (mvT hZ (hw _ (List.mem_of_getElem? (i := 21) rfl))) (mvT hZ (hw _ (List.mem_of_getElem? (i := 22) rfl))) (notFace_of_selects (args := #[]) (mvT hZ (hw _ (List.mem_of_getElem? (i := 24) rfl)))) (mvT hZ (hw _ (List.mem_of_getElem? (i := 24) rfl))) (mvT hZ (hw _ (List.mem_of_getElem? (i := 23) rfl))) (by decide) (backOf (W := 0) (rm_remove_0_2 l Z a0 hw [] b1 ar_5 (ownUpd (ownUpd (fun _ => (0 : Int32)) 0 p0) 1 p1) T9.heap n0 (Nat.le_trans Z0 K9.1) FP9_0 FP9_1 FP9_2 FP9_3 FP9_4 G_b1 G_ar_5 ne_b1_ar_5) hZ (hw _ (List.mem_of_getElem? (i := 25) rfl)) (hw _ (List.mem_of_getElem? (i := 2) rfl)) (by decide) (by decide)) q11a q11c (g := (mkF m 23 #[iv p0, iv p1, iv p2, iv p3, rv b1, .unset, .unset, .unset, .unset, .unset, .unset, .unset] [(.ref b1)])) rfl (by rw [hml]; rfl) (Steps.refl _) (argsL := []) (rest := []) (lenOf own_pd2 rfl) rfl (by show 2 * 0 + _ ≤ _; exact Nat.le_of_eq rfl) (hb hby at_23) (fun _ _ => ⟨rfl, rfl, (by decide : 2 + 0 ≤ _), (by decide : 19 + 0 ≤ _)⟩)
  dsimp only [Pt.U, Pt.locs, Pt.cells, Pt.slots] at X11 l11 y11 z11 st11 hQ11
  subst l11 y11 z11
  obtain ⟨rfl, N11q, Kq11, FP11_0, FP11_1, FP11_2, FP11_3, FP11_4⟩ := hQ11
  have N11 := Fr.app N9 N11q
  have K11 : Keep h0 T11.heap [] := K9.trans Kq11 (allS (Or.inr sz_b1) (allS (Or.inr sz_ar_5) all0))
  have F12 : Exa Z T11.heap b1 "com/example/swarm_tally/swarmtally/IntQueue" := FP9_0.keep Kq11
  refine ownRun (T' := T11) (f' := (mkF m 26 #[iv p0, iv p1, iv p2, iv p3, rv b1, .unset, .unset, .unset, .unset, .unset, .unset, .unset] [(.int p0)])) st11 ?_
  refine ow_istore (q := 28) X11 hx (L' := #[iv p0, iv p1, iv p2, iv p3, rv b1, iv p0, .unset, .unset, .unset, .unset, .unset, .unset]) (hb hby at_26) rfl rfl ?_
  refine ow_aload (q := 30) X11 hx (hb hby at_28) rfl rfl rfl ?_
  obtain ⟨cq13, kq13, q13a, q13b, q13c⟩ := isOf hZ rfl FP11_0
  obtain ⟨_, _, ⟨T13, L13, k13, n13⟩, -, X13, ⟨Lc13, hQ13, l13, y13, z13⟩, st13⟩ := X11.virtualBack hx (y := (⟨"com/example/swarm_tally/swarmtally/IntQueue", "size", "()I"⟩ : MethodName)) (z := (⟨"com/example/swarm_tally/swarmtally/IntQueue", "size", "()I"⟩ : MethodName)) hown (mvT hZ (hw _ (List.mem_of_getElem? (i := 26) rfl))) (mvT hZ (hw _ (List.mem_of_getElem? (i := 27) rfl))) (notFace_of_selects (args := #[]) (mvT hZ (hw _ (List.mem_of_getElem? (i := 29) rfl)))) (mvT hZ (hw _ (List.mem_of_getElem? (i := 29) rfl))) (mvT hZ (hw _ (List.mem_of_getElem? (i := 28) rfl))) (by decide) (backOf (W := 0) (rm_size l Z a0 hw [] b1 (1 : Int32) T11.heap n0 (Nat.le_trans Z0 K11.1) FP11_2) hZ (hw _ (List.mem_of_getElem? (i := 30) rfl)) (hw _ (List.mem_of_getElem? (i := 2) rfl)) (by decide) (by decide)) q13a q13c (g := (mkF m 30 #[iv p0, iv p1, iv p2, iv p3, rv b1, iv p0, .unset, .unset, .unset, .unset, .unset, .unset] [(.ref b1)])) rfl (by rw [hml]; rfl) (Steps.refl _) (argsL := []) (rest := []) (lenOf own_pd2 rfl) rfl (by show 2 * 0 + _ ≤ _; exact Nat.le_of_eq rfl) (hb hby at_30) (fun _ _ => ⟨rfl, rfl, (by decide : 2 + 0 ≤ _), (by decide : 19 + 0 ≤ _)⟩)
  dsimp only [Pt.U, Pt.locs, Pt.cells, Pt.slots] at X13 l13 y13 z13 st13 hQ13
  subst l13 y13 z13
  obtain ⟨rfl, N13q, e13⟩ := hQ13
  have N13 := Fr.app N11 N13q
  refine ownRun (T' := T13) (f' := (mkF m 33 #[iv p0, iv p1, iv p2, iv p3, rv b1, iv p0, .unset, .unset, .unset, .unset, .unset, .unset] [(.int (1 : Int32))])) st13 ?_
  refine ow_istore (q := 35) X13 hx (L' := #[iv p0, iv p1, iv p2, iv p3, rv b1, iv p0, iv (1 : Int32), .unset, .unset, .unset, .unset, .unset]) (hb hby at_33) rfl rfl ?_
  refine ow_aload (q := 37) X13 hx (hb hby at_35) rfl rfl rfl ?_
  refine ow_iloadN (q := 38) X13 hx (hb hby at_37) rfl rfl ?_
  obtain ⟨cq14, kq14, q14a, q14b, q14c⟩ := isOf hZ e13 FP11_0
  obtain ⟨_, _, ⟨T14, L14, k14, n14⟩, -, X14, ⟨Lc14, hQ14, l14, y14, z14⟩, st14⟩ := X13.virtualBack hx (y := (⟨"com/example/swarm_tally/swarmtally/IntQueue", "add", "(I)V"⟩ : MethodName)) (z := (⟨"com/example/swarm_tally/swarmtally/IntQueue", "add", "(I)V"⟩ : MethodName)) hown (mvT hZ (hw _ (List.mem_of_getElem? (i := 12) rfl))) (mvT hZ (hw _ (List.mem_of_getElem? (i := 13) rfl))) (notFace_of_selects (args := #[]) (mvT hZ (hw _ (List.mem_of_getElem? (i := 15) rfl)))) (mvT hZ (hw _ (List.mem_of_getElem? (i := 15) rfl))) (mvT hZ (hw _ (List.mem_of_getElem? (i := 14) rfl))) (by decide) (backOf (W := 0) (rm_add_1_1 l Z a0 hw [] b1 p2 ar_5 (ownUpd (ownUpd (fun _ => (0 : Int32)) 0 p0) 1 p1) T11.heap n0 (Nat.le_trans Z0 K11.1) FP11_0 FP11_1 FP11_2 FP11_3 FP11_4 G_b1 G_ar_5 ne_b1_ar_5) hZ (hw _ (List.mem_of_getElem? (i := 16) rfl)) (hw _ (List.mem_of_getElem? (i := 2) rfl)) (by decide) (by decide)) q14a q14c (g := (mkF m 38 #[iv p0, iv p1, iv p2, iv p3, rv b1, iv p0, iv (1 : Int32), .unset, .unset, .unset, .unset, .unset] [(.int p2), (.ref b1)])) rfl (by rw [hml]; rfl) (Steps.refl _) (argsL := [(.int p2)]) (rest := []) (lenOf own_pd1 rfl) rfl (by show 2 * 0 + _ ≤ _; exact Nat.le_of_eq rfl) (hb hby at_38) (fun _ _ => ⟨rfl, e13, (by decide : 2 + 0 ≤ _), (by decide : 19 + 0 ≤ _)⟩)
  dsimp only [Pt.U, Pt.locs, Pt.cells, Pt.slots] at X14 l14 y14 z14 st14 hQ14
  subst l14 y14 z14
  obtain ⟨rfl, N14q, Kq14, FP14_0, FP14_1, FP14_2, FP14_3, FP14_4⟩ := hQ14
  have N14 := Fr.app N13 N14q
  have K14 : Keep h0 T14.heap [] := K11.trans Kq14 (allS (Or.inr sz_b1) (allS (Or.inr sz_ar_5) all0))
  have F15 : Exa Z T14.heap b1 "com/example/swarm_tally/swarmtally/IntQueue" := FP11_0.keep Kq14
  refine ownRun (T' := T14) (f' := (mkF m 41 #[iv p0, iv p1, iv p2, iv p3, rv b1, iv p0, iv (1 : Int32), .unset, .unset, .unset, .unset, .unset] [])) st14 ?_
  refine ow_aload (q := 43) X14 hx (hb hby at_41) rfl rfl rfl ?_
  obtain ⟨cq16, kq16, q16a, q16b, q16c⟩ := isOf hZ rfl FP14_0
  obtain ⟨_, _, ⟨T16, L16, k16, n16⟩, -, X16, ⟨Lc16, hQ16, l16, y16, z16⟩, st16⟩ := X14.virtualBack hx (y := (⟨"com/example/swarm_tally/swarmtally/IntQueue", "remove", "()I"⟩ : MethodName)) (z := (⟨"com/example/swarm_tally/swarmtally/IntQueue", "remove", "()I"⟩ : MethodName)) hown (mvT hZ (hw _ (List.mem_of_getElem? (i := 21) rfl))) (mvT hZ (hw _ (List.mem_of_getElem? (i := 22) rfl))) (notFace_of_selects (args := #[]) (mvT hZ (hw _ (List.mem_of_getElem? (i := 24) rfl)))) (mvT hZ (hw _ (List.mem_of_getElem? (i := 24) rfl))) (mvT hZ (hw _ (List.mem_of_getElem? (i := 23) rfl))) (by decide) (backOf (W := 0) (rm_remove_1_2 l Z a0 hw [] b1 ar_5 (ownUpd (ownUpd (ownUpd (fun _ => (0 : Int32)) 0 p0) 1 p1) 2 p2) T14.heap n0 (Nat.le_trans Z0 K14.1) FP14_0 FP14_1 FP14_2 FP14_3 FP14_4 G_b1 G_ar_5 ne_b1_ar_5) hZ (hw _ (List.mem_of_getElem? (i := 25) rfl)) (hw _ (List.mem_of_getElem? (i := 2) rfl)) (by decide) (by decide)) q16a q16c (g := (mkF m 43 #[iv p0, iv p1, iv p2, iv p3, rv b1, iv p0, iv (1 : Int32), .unset, .unset, .unset, .unset, .unset] [(.ref b1)])) rfl (by rw [hml]; rfl) (Steps.refl _) (argsL := []) (rest := []) (lenOf own_pd2 rfl) rfl (by show 2 * 0 + _ ≤ _; exact Nat.le_of_eq rfl) (hb hby at_43) (fun _ _ => ⟨rfl, rfl, (by decide : 2 + 0 ≤ _), (by decide : 19 + 0 ≤ _)⟩)
  dsimp only [Pt.U, Pt.locs, Pt.cells, Pt.slots] at X16 l16 y16 z16 st16 hQ16
  subst l16 y16 z16
  obtain ⟨rfl, N16q, Kq16, FP16_0, FP16_1, FP16_2, FP16_3, FP16_4⟩ := hQ16
  have N16 := Fr.app N14 N16q
  have K16 : Keep h0 T16.heap [] := K14.trans Kq16 (allS (Or.inr sz_b1) (allS (Or.inr sz_ar_5) all0))
  have F17 : Exa Z T16.heap b1 "com/example/swarm_tally/swarmtally/IntQueue" := FP14_0.keep Kq16
  refine ownRun (T' := T16) (f' := (mkF m 46 #[iv p0, iv p1, iv p2, iv p3, rv b1, iv p0, iv (1 : Int32), .unset, .unset, .unset, .unset, .unset] [(.int p1)])) st16 ?_
  refine ow_istore (q := 48) X16 hx (L' := #[iv p0, iv p1, iv p2, iv p3, rv b1, iv p0, iv (1 : Int32), iv p1, .unset, .unset, .unset, .unset]) (hb hby at_46) rfl rfl ?_
  refine ow_aload (q := 50) X16 hx (hb hby at_48) rfl rfl rfl ?_
  obtain ⟨cq18, kq18, q18a, q18b, q18c⟩ := isOf hZ rfl FP16_0
  obtain ⟨_, _, ⟨T18, L18, k18, n18⟩, -, X18, ⟨Lc18, hQ18, l18, y18, z18⟩, st18⟩ := X16.virtualBack hx (y := (⟨"com/example/swarm_tally/swarmtally/IntQueue", "remove", "()I"⟩ : MethodName)) (z := (⟨"com/example/swarm_tally/swarmtally/IntQueue", "remove", "()I"⟩ : MethodName)) hown (mvT hZ (hw _ (List.mem_of_getElem? (i := 21) rfl))) (mvT hZ (hw _ (List.mem_of_getElem? (i := 22) rfl))) (notFace_of_selects (args := #[]) (mvT hZ (hw _ (List.mem_of_getElem? (i := 24) rfl)))) (mvT hZ (hw _ (List.mem_of_getElem? (i := 24) rfl))) (mvT hZ (hw _ (List.mem_of_getElem? (i := 23) rfl))) (by decide) (backOf (W := 0) (rm_remove_2_1 l Z a0 hw [] b1 ar_5 (ownUpd (ownUpd (ownUpd (fun _ => (0 : Int32)) 0 p0) 1 p1) 2 p2) T16.heap n0 (Nat.le_trans Z0 K16.1) FP16_0 FP16_1 FP16_2 FP16_3 FP16_4 G_b1 G_ar_5 ne_b1_ar_5) hZ (hw _ (List.mem_of_getElem? (i := 25) rfl)) (hw _ (List.mem_of_getElem? (i := 2) rfl)) (by decide) (by decide)) q18a q18c (g := (mkF m 50 #[iv p0, iv p1, iv p2, iv p3, rv b1, iv p0, iv (1 : Int32), iv p1, .unset, .unset, .unset, .unset] [(.ref b1)])) rfl (by rw [hml]; rfl) (Steps.refl _) (argsL := []) (rest := []) (lenOf own_pd2 rfl) rfl (by show 2 * 0 + _ ≤ _; exact Nat.le_of_eq rfl) (hb hby at_50) (fun _ _ => ⟨rfl, rfl, (by decide : 2 + 0 ≤ _), (by decide : 19 + 0 ≤ _)⟩)
  dsimp only [Pt.U, Pt.locs, Pt.cells, Pt.slots] at X18 l18 y18 z18 st18 hQ18
  subst l18 y18 z18
  obtain ⟨rfl, N18q, Kq18, FP18_0, FP18_1, FP18_2, FP18_3, FP18_4⟩ := hQ18
  have N18 := Fr.app N16 N18q
  have K18 : Keep h0 T18.heap [] := K16.trans Kq18 (allS (Or.inr sz_b1) (allS (Or.inr sz_ar_5) all0))
  have F19 : Exa Z T18.heap b1 "com/example/swarm_tally/swarmtally/IntQueue" := FP16_0.keep Kq18
  refine ownRun (T' := T18) (f' := (mkF m 53 #[iv p0, iv p1, iv p2, iv p3, rv b1, iv p0, iv (1 : Int32), iv p1, .unset, .unset, .unset, .unset] [(.int p2)])) st18 ?_
  refine ow_istore (q := 55) X18 hx (L' := #[iv p0, iv p1, iv p2, iv p3, rv b1, iv p0, iv (1 : Int32), iv p1, iv p2, .unset, .unset, .unset]) (hb hby at_53) rfl rfl ?_
  refine ow_aload (q := 57) X18 hx (hb hby at_55) rfl rfl rfl ?_
  obtain ⟨cq20, kq20, q20a, q20b, q20c⟩ := isOf hZ rfl FP18_0
  obtain ⟨_, _, ⟨T20, L20, k20, n20⟩, -, X20, ⟨Lc20, hQ20, l20, y20, z20⟩, st20⟩ := X18.virtualBack hx (y := (⟨"com/example/swarm_tally/swarmtally/IntQueue", "isEmpty", "()Z"⟩ : MethodName)) (z := (⟨"com/example/swarm_tally/swarmtally/IntQueue", "isEmpty", "()Z"⟩ : MethodName)) hown (mvT hZ (hw _ (List.mem_of_getElem? (i := 31) rfl))) (mvT hZ (hw _ (List.mem_of_getElem? (i := 32) rfl))) (notFace_of_selects (args := #[]) (mvT hZ (hw _ (List.mem_of_getElem? (i := 34) rfl)))) (mvT hZ (hw _ (List.mem_of_getElem? (i := 34) rfl))) (mvT hZ (hw _ (List.mem_of_getElem? (i := 33) rfl))) (by decide) (backOf (W := 0) (rm_isEmpty_0 l Z a0 hw [] b1 T18.heap n0 (Nat.le_trans Z0 K18.1) FP18_2) hZ (hw _ (List.mem_of_getElem? (i := 35) rfl)) (hw _ (List.mem_of_getElem? (i := 2) rfl)) (by decide) (by decide)) q20a q20c (g := (mkF m 57 #[iv p0, iv p1, iv p2, iv p3, rv b1, iv p0, iv (1 : Int32), iv p1, iv p2, .unset, .unset, .unset] [(.ref b1)])) rfl (by rw [hml]; rfl) (Steps.refl _) (argsL := []) (rest := []) (lenOf own_pd3 rfl) rfl (by show 2 * 0 + _ ≤ _; exact Nat.le_of_eq rfl) (hb hby at_57) (fun _ _ => ⟨rfl, rfl, (by decide : 2 + 0 ≤ _), (by decide : 19 + 0 ≤ _)⟩)
  dsimp only [Pt.U, Pt.locs, Pt.cells, Pt.slots] at X20 l20 y20 z20 st20 hQ20
  subst l20 y20 z20
  obtain ⟨rfl, N20q, e20⟩ := hQ20
  have N20 := Fr.app N18 N20q
  refine ownRun (T' := T20) (f' := (mkF m 60 #[iv p0, iv p1, iv p2, iv p3, rv b1, iv p0, iv (1 : Int32), iv p1, iv p2, .unset, .unset, .unset] [(.int (1 : Int32))])) st20 ?_
  refine ow_istore (q := 62) X20 hx (L' := #[iv p0, iv p1, iv p2, iv p3, rv b1, iv p0, iv (1 : Int32), iv p1, iv p2, iv (1 : Int32), .unset, .unset]) (hb hby at_60) rfl rfl ?_
  refine ow_aload (q := 64) X20 hx (hb hby at_62) rfl rfl rfl ?_
  refine ow_iloadN (q := 65) X20 hx (hb hby at_64) rfl rfl ?_
  obtain ⟨cq21, kq21, q21a, q21b, q21c⟩ := isOf hZ e20 FP18_0
  obtain ⟨_, _, ⟨T21, L21, k21, n21⟩, -, X21, ⟨Lc21, hQ21, l21, y21, z21⟩, st21⟩ := X20.virtualBack hx (y := (⟨"com/example/swarm_tally/swarmtally/IntQueue", "add", "(I)V"⟩ : MethodName)) (z := (⟨"com/example/swarm_tally/swarmtally/IntQueue", "add", "(I)V"⟩ : MethodName)) hown (mvT hZ (hw _ (List.mem_of_getElem? (i := 12) rfl))) (mvT hZ (hw _ (List.mem_of_getElem? (i := 13) rfl))) (notFace_of_selects (args := #[]) (mvT hZ (hw _ (List.mem_of_getElem? (i := 15) rfl)))) (mvT hZ (hw _ (List.mem_of_getElem? (i := 15) rfl))) (mvT hZ (hw _ (List.mem_of_getElem? (i := 14) rfl))) (by decide) (backOf (W := 0) (rm_add_3_0 l Z a0 hw [] b1 p3 ar_5 (ownUpd (ownUpd (ownUpd (fun _ => (0 : Int32)) 0 p0) 1 p1) 2 p2) T18.heap n0 (Nat.le_trans Z0 K18.1) FP18_0 FP18_1 FP18_2 FP18_3 FP18_4 G_b1 G_ar_5 ne_b1_ar_5) hZ (hw _ (List.mem_of_getElem? (i := 16) rfl)) (hw _ (List.mem_of_getElem? (i := 2) rfl)) (by decide) (by decide)) q21a q21c (g := (mkF m 65 #[iv p0, iv p1, iv p2, iv p3, rv b1, iv p0, iv (1 : Int32), iv p1, iv p2, iv (1 : Int32), .unset, .unset] [(.int p3), (.ref b1)])) rfl (by rw [hml]; rfl) (Steps.refl _) (argsL := [(.int p3)]) (rest := []) (lenOf own_pd1 rfl) rfl (by show 2 * 0 + _ ≤ _; exact Nat.le_of_eq rfl) (hb hby at_65) (fun _ _ => ⟨rfl, e20, (by decide : 2 + 0 ≤ _), (by decide : 19 + 0 ≤ _)⟩)
  dsimp only [Pt.U, Pt.locs, Pt.cells, Pt.slots] at X21 l21 y21 z21 st21 hQ21
  subst l21 y21 z21
  obtain ⟨rfl, N21q, Kq21, FP21_0, FP21_1, FP21_2, FP21_3, FP21_4⟩ := hQ21
  have N21 := Fr.app N20 N21q
  have K21 : Keep h0 T21.heap [] := K18.trans Kq21 (allS (Or.inr sz_b1) (allS (Or.inr sz_ar_5) all0))
  have F22 : Exa Z T21.heap b1 "com/example/swarm_tally/swarmtally/IntQueue" := FP18_0.keep Kq21
  refine ownRun (T' := T21) (f' := (mkF m 68 #[iv p0, iv p1, iv p2, iv p3, rv b1, iv p0, iv (1 : Int32), iv p1, iv p2, iv (1 : Int32), .unset, .unset] [])) st21 ?_
  refine ow_aload (q := 70) X21 hx (hb hby at_68) rfl rfl rfl ?_
  obtain ⟨cq23, kq23, q23a, q23b, q23c⟩ := isOf hZ rfl FP21_0
  obtain ⟨_, _, ⟨T23, L23, k23, n23⟩, -, X23, ⟨Lc23, hQ23, l23, y23, z23⟩, st23⟩ := X21.virtualBack hx (y := (⟨"com/example/swarm_tally/swarmtally/IntQueue", "remove", "()I"⟩ : MethodName)) (z := (⟨"com/example/swarm_tally/swarmtally/IntQueue", "remove", "()I"⟩ : MethodName)) hown (mvT hZ (hw _ (List.mem_of_getElem? (i := 21) rfl))) (mvT hZ (hw _ (List.mem_of_getElem? (i := 22) rfl))) (notFace_of_selects (args := #[]) (mvT hZ (hw _ (List.mem_of_getElem? (i := 24) rfl)))) (mvT hZ (hw _ (List.mem_of_getElem? (i := 24) rfl))) (mvT hZ (hw _ (List.mem_of_getElem? (i := 23) rfl))) (by decide) (backOf (W := 0) (rm_remove_3_1 l Z a0 hw [] b1 ar_5 (ownUpd (ownUpd (ownUpd (ownUpd (fun _ => (0 : Int32)) 0 p0) 1 p1) 2 p2) 3 p3) T21.heap n0 (Nat.le_trans Z0 K21.1) FP21_0 FP21_1 FP21_2 FP21_3 FP21_4 G_b1 G_ar_5 ne_b1_ar_5) hZ (hw _ (List.mem_of_getElem? (i := 25) rfl)) (hw _ (List.mem_of_getElem? (i := 2) rfl)) (by decide) (by decide)) q23a q23c (g := (mkF m 70 #[iv p0, iv p1, iv p2, iv p3, rv b1, iv p0, iv (1 : Int32), iv p1, iv p2, iv (1 : Int32), .unset, .unset] [(.ref b1)])) rfl (by rw [hml]; rfl) (Steps.refl _) (argsL := []) (rest := []) (lenOf own_pd2 rfl) rfl (by show 2 * 0 + _ ≤ _; exact Nat.le_of_eq rfl) (hb hby at_70) (fun _ _ => ⟨rfl, rfl, (by decide : 2 + 0 ≤ _), (by decide : 19 + 0 ≤ _)⟩)
  dsimp only [Pt.U, Pt.locs, Pt.cells, Pt.slots] at X23 l23 y23 z23 st23 hQ23
  subst l23 y23 z23
  obtain ⟨rfl, N23q, Kq23, FP23_0, FP23_1, FP23_2, FP23_3, FP23_4⟩ := hQ23
  have N23 := Fr.app N21 N23q
  have K23 : Keep h0 T23.heap [] := K21.trans Kq23 (allS (Or.inr sz_b1) (allS (Or.inr sz_ar_5) all0))
  have F24 : Exa Z T23.heap b1 "com/example/swarm_tally/swarmtally/IntQueue" := FP21_0.keep Kq23
  refine ownRun (T' := T23) (f' := (mkF m 73 #[iv p0, iv p1, iv p2, iv p3, rv b1, iv p0, iv (1 : Int32), iv p1, iv p2, iv (1 : Int32), .unset, .unset] [(.int p3)])) st23 ?_
  refine ow_istore (q := 75) X23 hx (L' := #[iv p0, iv p1, iv p2, iv p3, rv b1, iv p0, iv (1 : Int32), iv p1, iv p2, iv (1 : Int32), iv p3, .unset]) (hb hby at_73) rfl rfl ?_
  refine ow_aload (q := 77) X23 hx (hb hby at_75) rfl rfl rfl ?_
  obtain ⟨cq25, kq25, q25a, q25b, q25c⟩ := isOf hZ rfl FP23_0
  obtain ⟨_, _, ⟨T25, L25, k25, n25⟩, -, X25, ⟨Lc25, hQ25, l25, y25, z25⟩, st25⟩ := X23.virtualBack hx (y := (⟨"com/example/swarm_tally/swarmtally/IntQueue", "size", "()I"⟩ : MethodName)) (z := (⟨"com/example/swarm_tally/swarmtally/IntQueue", "size", "()I"⟩ : MethodName)) hown (mvT hZ (hw _ (List.mem_of_getElem? (i := 26) rfl))) (mvT hZ (hw _ (List.mem_of_getElem? (i := 27) rfl))) (notFace_of_selects (args := #[]) (mvT hZ (hw _ (List.mem_of_getElem? (i := 29) rfl)))) (mvT hZ (hw _ (List.mem_of_getElem? (i := 29) rfl))) (mvT hZ (hw _ (List.mem_of_getElem? (i := 28) rfl))) (by decide) (backOf (W := 0) (rm_size l Z a0 hw [] b1 (0 : Int32) T23.heap n0 (Nat.le_trans Z0 K23.1) FP23_2) hZ (hw _ (List.mem_of_getElem? (i := 30) rfl)) (hw _ (List.mem_of_getElem? (i := 2) rfl)) (by decide) (by decide)) q25a q25c (g := (mkF m 77 #[iv p0, iv p1, iv p2, iv p3, rv b1, iv p0, iv (1 : Int32), iv p1, iv p2, iv (1 : Int32), iv p3, .unset] [(.ref b1)])) rfl (by rw [hml]; rfl) (Steps.refl _) (argsL := []) (rest := []) (lenOf own_pd2 rfl) rfl (by show 2 * 0 + _ ≤ _; exact Nat.le_of_eq rfl) (hb hby at_77) (fun _ _ => ⟨rfl, rfl, (by decide : 2 + 0 ≤ _), (by decide : 19 + 0 ≤ _)⟩)
  dsimp only [Pt.U, Pt.locs, Pt.cells, Pt.slots] at X25 l25 y25 z25 st25 hQ25
  subst l25 y25 z25
  obtain ⟨rfl, N25q, e25⟩ := hQ25
  have N25 := Fr.app N23 N25q
  refine ownRun (T' := T25) (f' := (mkF m 80 #[iv p0, iv p1, iv p2, iv p3, rv b1, iv p0, iv (1 : Int32), iv p1, iv p2, iv (1 : Int32), iv p3, .unset] [(.int (0 : Int32))])) st25 ?_
  refine ow_istore (q := 82) X25 hx (L' := #[iv p0, iv p1, iv p2, iv p3, rv b1, iv p0, iv (1 : Int32), iv p1, iv p2, iv (1 : Int32), iv p3, iv (0 : Int32)]) (hb hby at_80) rfl rfl ?_
  refine ow_iload (q := 84) X25 hx (hb hby at_82) rfl rfl ?_
  refine ow_iloadN (q := 85) X25 hx (hb hby at_84) rfl rfl ?_
  refine ow_icmpNo (q := 88) X25 hx (hb hby at_85) rfl (Jvm.Free.XT.ii_ne_f rfl) ?_
  refine ow_iload (q := 90) X25 hx (hb hby at_88) rfl rfl ?_
  refine ow_iconst (q := 91) X25 hx (1 : Int32) (hb hby at_90) rfl rfl ?_
  refine ow_icmpNo (q := 94) X25 hx (hb hby at_91) rfl (Jvm.Free.XT.ii_ne_f (by decide)) ?_
  refine ow_iload (q := 96) X25 hx (hb hby at_94) rfl rfl ?_
  refine ow_iloadN (q := 97) X25 hx (hb hby at_96) rfl rfl ?_
  refine ow_icmpNo (q := 100) X25 hx (hb hby at_97) rfl (Jvm.Free.XT.ii_ne_f rfl) ?_
  refine ow_iload (q := 102) X25 hx (hb hby at_100) rfl rfl ?_
  refine ow_iloadN (q := 103) X25 hx (hb hby at_102) rfl rfl ?_
  refine ow_icmpNo (q := 106) X25 hx (hb hby at_103) rfl (Jvm.Free.XT.ii_ne_f rfl) ?_
  refine ow_iload (q := 108) X25 hx (hb hby at_106) rfl rfl ?_
  refine ow_ifNo (q := 111) X25 hx (hb hby at_108) rfl (Jvm.Free.XT.i0_eq_f (by decide)) ?_
  refine ow_iload (q := 113) X25 hx (hb hby at_111) rfl rfl ?_
  refine ow_iloadN (q := 114) X25 hx (hb hby at_113) rfl rfl ?_
  refine ow_icmpNo (q := 117) X25 hx (hb hby at_114) rfl (Jvm.Free.XT.ii_ne_f rfl) ?_
  refine ow_iload (q := 119) X25 hx (hb hby at_117) rfl rfl ?_
  refine ow_ifNo (q := 122) X25 hx (hb hby at_119) rfl (Jvm.Free.XT.i0_ne_f (by decide)) ?_
  refine ow_iconst (q := 123) X25 hx (1 : Int32) (hb hby at_122) rfl rfl ?_
  refine ow_goto (q := 127) X25 hx (hb hby at_123) (by decide) (by decide) ?_
  refine ownRetN X25 hx (r := (1 : Int32)) (Or.inl rfl) Bd.returns (hb hby at_127) hlk (by decide) (by decide) (by decide) ?_
  exact ⟨rfl, N25⟩
set_option maxRecDepth 65536 in
set_option maxHeartbeats 40000000 in
theorem comes_1 {Post : Tables → Env → Array Value → State → Outcome → State → Prop} (hpost : ∀ tb e args s v u, (limb_1_1.after args s (.returned v) u = true ∧ limb_1_2.after args s (.returned v) u = true ∧ True) → FrameEnd s (.returned v) u (Jvm.fieldLocs frame_1_writes args s ++ Jvm.arrayLocs frame_1_arrays args s ++ Jvm.staticLocs frame_1_statics s) 16 128 → Post tb e args s (.returned v) u) :
    ArmFor flags0 classFile x code maxLocals ret World_1 tables_1 room_1 Calls_1 rest_1 Pre_1 Post := by
  intro l hfl _ _ p e ha hc hk s m args below hf hA hF happ hP
  obtain ⟨hcalls, hrest, hpre⟩ := hP
  obtain ⟨-, -, -, hnamed, -, -, -, hat⟩ := (Spec.applies_iff hf).mp happ
  obtain ⟨hg, hn⟩ := and_e (Cond.before_iff.mp (show (Jvm.Cond.and given_1 narrow_1).before args s = true from hpre))
  obtain ⟨gg1, gg2⟩ := and_e hg
  obtain ⟨gg3, gg4⟩ := and_e gg2
  obtain ⟨gg5, gg6⟩ := and_e gg4
  obtain ⟨gg7, gg8⟩ := and_e gg6
  obtain ⟨w0, w1, w2, w3, rfl⟩ : ∃ w0 w1 w2 w3 : Value, args = #[w0, w1, w2, w3] := by
    have hs : args.size = 4 := by simpa [Cond.value, given_1] using gg1
    obtain ⟨L⟩ := args
    match L, hs with
    | [w0, w1, w2, w3], _ => exact ⟨w0, w1, w2, w3, rfl⟩
  have hw := fun d (hd : d ∈ tables_1) => atoms_spec (ws := Jvm.Cond.code x code maxLocals ret :: tables_1) hat d (List.mem_cons_of_mem _ hd)
  have hfit : Fit s := fun {y c} hc i hi => by
    obtain ⟨ha, rfl⟩ := Array.getElem?_eq_some_iff.mp hc
    have q := List.all_eq_true.mp ((Array.all_eq_true_iff_forall_mem.mp hF) _ (Array.getElem_mem ha)) i (List.mem_range.mpr hi)
    simpa [Array.getElem?_eq_getElem hi] using q
  obtain ⟨i0, ei0⟩ := is_v gg3
  obtain rfl : w0 = (.int i0) := Option.some.inj ei0
  obtain ⟨i1, ei1⟩ := is_v gg5
  obtain rfl : w1 = (.int i1) := Option.some.inj ei1
  obtain ⟨i2, ei2⟩ := is_v gg7
  obtain rfl : w2 = (.int i2) := Option.some.inj ei2
  obtain ⟨i3, ei3⟩ := is_v gg8
  obtain rfl : w3 = (.int i3) := Option.some.inj ei3
  obtain ⟨n, o, h1, h2, h3, _, L, rfl, ⟨rfl, N⟩, hq⟩ := rm_law l s _ hw tables_1 i0 i1 i2 i3  s.heap s.heap.size (Nat.le_refl _)  p e ha hc hk s m _ below hf ((Spec.applies_iff_loose hf).mp happ).1 ⟨rfl, State.Warmed39.refl s, rfl⟩ trivial
  refine ⟨n, _, h1, h2, h3, hpost _ _ _ _ _ _ ⟨Cond.after_iff.mpr rfl, Cond.after_iff.mpr (eq_i res_at (Term.int_eval (1)) rfl), trivial⟩ ⟨hq.1, hq.2.1, (hq.2.2.sift fun y hy => Or.inr (N y hy)).mono (by decide) (by decide)⟩⟩
theorem main_1_1 : Claimed_1_1 := comes_1 fun _ _ _ _ _ _ h hF => ⟨h.1, hF⟩
theorem main_1_2 : Claimed_1_2 := comes_1 fun _ _ _ _ _ _ h hF => ⟨h.2.1, hF⟩
end Jvm.Pilot.@@N@@
namespace Jvm.Pilot.@@N@@
open Jvm Jvm.ClassFile Sem Op Lib Jvm.Free Jvm.Stand Jvm.Pilot.@@N@@.Jvm.D
/-! MADE BY PROGRAM (witnessworld.py) out of the Statement's table words and the real class files: 9 classes; the members and pool entries that the words name. The judged class is class 1, her method 1. -/
namespace start1
open Jvm.ClassFile
def u (s : String) : CpInfo := .utf8 (stringToUtf16 s)
/-- a pool by its gaps: so many unusable entries, then the entry; so many at the end -/
def gap : Nat → List CpInfo → List CpInfo
  | 0, r => r
  | n + 1, r => .unusable :: gap n r
def poolList (es : List (Nat × CpInfo)) (last : Nat) : List CpInfo := es.foldr (fun e r => gap e.1 (e.2 :: r)) (gap last [])
def pool (es : List (Nat × CpInfo)) (last : Nat) : Array CpInfo := ⟨poolList es last⟩
def fileOf (pool : Array CpInfo) (this : Nat) (attrs : Array Attribute := #[]) (ms : Array MethodInfo := #[]) (fl : Nat := 33) (sup : Nat := 0) (ifs : Array Nat := #[]) (fds : Array FieldInfo := #[]) : ClassFile where
  minorVersion := 0
  majorVersion := 65
  constantPool := pool
  accessFlags := fl
  thisClass := this
  superClass := sup
  interfaces := ifs
  fields := fds
  methods := ms
  attributes := attrs
def plain (name : String) (sup : Option ClassId) : Class where
  name := name
  kind := .ordinary
  loader := none
  accessFlags := 33
  super := sup
  interfaces := #[]
  cf := none
  fields := #[]
  methods := #[]
  instanceTypes := #[]
  staticTypes := #[]
  resolved := #[]
  callSites := []
  init := .initialized
  statics := none
  mirror := none

def pool0 : Array CpInfo := pool [(5, u "<init>"), (0, u "()V"), (1, .class_ 10), (1, u "java/lang/Object")] 113

def k0c0 : Code := { maxStack := 0, maxLocals := 1, code := object_method_1_code, exceptionTable := #[], attributes := #[] }
def k0m0 : Method := { name := "<init>", desc := "()V", sig := { parameters := [], returnType := none }, accessFlags := 1, code := some k0c0 }
/-- java/lang/Object -/
def k0 : Class := { plain "java/lang/Object" none with
  accessFlags := 33
  interfaces := #[]
  cf := some (fileOf pool0 8 #[] #[{ accessFlags := 1, nameIndex := 5, descriptorIndex := 6, attributes := #[] }] 33 0 #[] #[])
  fields := #[]
  methods := #[k0m0]
  instanceTypes := #[]
  staticTypes := #[]
  resolved := Array.replicate 124 none
  statics := none }

def pool1 : Array CpInfo := pool [(2, .class_ 4), (0, .nameAndType 5 6), (0, u "java/lang/Object"), (0, u "<init>"), (0, u "()V"), (0, .class_ 8), (0, u "com/example/swarm_tally/swarmtally/IntQueue"), (0, .methodref 7 3), (0, .methodref 7 11), (0, .nameAndType 12 13), (0, u "add"), (0, u "(I)V"), (0, .methodref 7 15), (0, .nameAndType 16 17), (0, u "remove"), (0, u "()I"), (0, .methodref 7 19), (0, .nameAndType 20 17), (0, u "size"), (0, .methodref 7 22), (0, .nameAndType 23 24), (0, u "isEmpty"), (0, u "()Z"), (0, .class_ 26), (0, u "com/example/swarm_tally/swarmtally/IntQueueRemovePinLaw"), (2, u "law"), (0, u "(IIII)Z")] 3

def k1m0 : Method := { name := "<init>", desc := "()V", sig := { parameters := [], returnType := none }, accessFlags := 1, code := none }
def k1c1 : Code := { maxStack := 2, maxLocals := 12, code := code, exceptionTable := #[], attributes := #[] }
def k1m1 : Method := { name := "law", desc := "(IIII)Z", sig := { parameters := [.int, .int, .int, .int], returnType := some .boolean }, accessFlags := 9, code := some k1c1 }
/-- com/example/swarm_tally/swarmtally/IntQueueRemovePinLaw -/
def k1 : Class := { plain "com/example/swarm_tally/swarmtally/IntQueueRemovePinLaw" (some 0) with
  accessFlags := 49
  interfaces := #[]
  cf := some (fileOf pool1 25 #[] #[{ accessFlags := 1, nameIndex := 5, descriptorIndex := 6, attributes := #[] }, { accessFlags := 9, nameIndex := 29, descriptorIndex := 30, attributes := #[] }] 49 2 #[] #[])
  fields := #[]
  methods := #[k1m0, k1m1]
  instanceTypes := #[]
  staticTypes := #[]
  resolved := Array.replicate 34 none
  statics := none }

def pool2 : Array CpInfo := pool [(1, .methodref 2 3), (0, .class_ 4), (0, .nameAndType 5 6), (0, u "java/lang/Object"), (0, u "<init>"), (0, u "()V"), (0, .fieldref 8 9), (0, .class_ 10), (0, .nameAndType 11 12), (0, u "com/example/swarm_tally/swarmtally/IntQueue"), (0, u "ring"), (0, u "[I"), (0, .fieldref 8 14), (0, .nameAndType 15 16), (0, u "size"), (0, u "I"), (0, .fieldref 8 18), (0, .nameAndType 19 16), (0, u "head"), (2, u "add"), (0, u "(I)V"), (2, u "remove"), (0, u "()I"), (0, u "isEmpty"), (0, u "()Z")] 2

def k2c0 : Code := { maxStack := 2, maxLocals := 1, code := prog_11_method_1_code, exceptionTable := #[], attributes := #[] }
def k2m0 : Method := { name := "<init>", desc := "()V", sig := { parameters := [], returnType := none }, accessFlags := 0, code := some k2c0 }
def k2c1 : Code := { maxStack := 5, maxLocals := 4, code := prog_11_method_2_code, exceptionTable := #[], attributes := #[] }
def k2m1 : Method := { name := "add", desc := "(I)V", sig := { parameters := [.int], returnType := none }, accessFlags := 0, code := some k2c1 }
def k2c2 : Code := { maxStack := 3, maxLocals := 2, code := prog_11_method_3_code, exceptionTable := #[], attributes := #[] }
def k2m2 : Method := { name := "remove", desc := "()I", sig := { parameters := [], returnType := some .int }, accessFlags := 0, code := some k2c2 }
def k2c3 : Code := { maxStack := 1, maxLocals := 1, code := prog_11_method_4_code, exceptionTable := #[], attributes := #[] }
def k2m3 : Method := { name := "isEmpty", desc := "()Z", sig := { parameters := [], returnType := some .boolean }, accessFlags := 0, code := some k2c3 }
def k2c4 : Code := { maxStack := 1, maxLocals := 1, code := prog_11_method_5_code, exceptionTable := #[], attributes := #[] }
def k2m4 : Method := { name := "size", desc := "()I", sig := { parameters := [], returnType := some .int }, accessFlags := 0, code := some k2c4 }
/-- com/example/swarm_tally/swarmtally/IntQueue -/
def k2 : Class := { plain "com/example/swarm_tally/swarmtally/IntQueue" (some 0) with
  accessFlags := 48
  interfaces := #[]
  cf := some (fileOf pool2 8 #[] #[{ accessFlags := 0, nameIndex := 5, descriptorIndex := 6, attributes := #[] }, { accessFlags := 0, nameIndex := 22, descriptorIndex := 23, attributes := #[] }, { accessFlags := 0, nameIndex := 26, descriptorIndex := 27, attributes := #[] }, { accessFlags := 0, nameIndex := 28, descriptorIndex := 29, attributes := #[] }, { accessFlags := 0, nameIndex := 15, descriptorIndex := 27, attributes := #[] }] 48 2 #[] #[{ accessFlags := 2, nameIndex := 11, descriptorIndex := 12, attributes := #[] }, { accessFlags := 2, nameIndex := 19, descriptorIndex := 16, attributes := #[] }, { accessFlags := 2, nameIndex := 15, descriptorIndex := 16, attributes := #[] }])
  fields := #[{ name := "ring", type := (.array .int), accessFlags := 2, slot := 0, constantValue := 0 }, { name := "head", type := .int, accessFlags := 2, slot := 1, constantValue := 0 }, { name := "size", type := .int, accessFlags := 2, slot := 2, constantValue := 0 }]
  methods := #[k2m0, k2m1, k2m2, k2m3, k2m4]
  instanceTypes := #[(.array .int), .int, .int]
  staticTypes := #[]
  resolved := Array.replicate 32 none
  statics := none }

def pool3 : Array CpInfo := pool [(1, u "java/lang/Cloneable"), (0, .class_ 1), (0, u "java/lang/Object"), (0, .class_ 3)] 3

/-- java/lang/Cloneable -/
def k3 : Class := { plain "java/lang/Cloneable" (some 0) with
  accessFlags := 1537
  interfaces := #[]
  cf := some (fileOf pool3 2 #[] #[] 1537 4 #[] #[])
  fields := #[]
  methods := #[]
  instanceTypes := #[]
  staticTypes := #[]
  resolved := Array.replicate 8 none
  statics := none }

def pool4 : Array CpInfo := pool [(1, u "java/io/Serializable"), (0, .class_ 1), (0, u "java/lang/Object"), (0, .class_ 3)] 3

/-- java/io/Serializable -/
def k4 : Class := { plain "java/io/Serializable" (some 0) with
  accessFlags := 1537
  interfaces := #[]
  cf := some (fileOf pool4 2 #[] #[] 1537 4 #[] #[])
  fields := #[]
  methods := #[]
  instanceTypes := #[]
  staticTypes := #[]
  resolved := Array.replicate 8 none
  statics := none }

/-- the primitive byte -/
def k5 : Class := { plain "byte" none with kind := .primitive 'B', accessFlags := 0x411 }
/-- [B -/
def k6 : Class := { plain "[B" (some 0) with kind := .array 5 .byte, interfaces := #[3, 4], accessFlags := 1041 }

/-- the primitive int -/
def k7 : Class := { plain "int" none with kind := .primitive 'I', accessFlags := 0x411 }
/-- [I -/
def k8 : Class := { plain "[I" (some 0) with kind := .array 7 .int, interfaces := #[3, 4], accessFlags := 1041 }

def heap : Heap := #[]
def classes : Array Class := #[k0, k1, k2, k3, k4, k5, k6, k7, k8]
def interned : List (Array UInt16 × Addr) := []
def slotsUsed : Nat := 0
def theMethod : MethodId := ⟨1, 1⟩
def args0 : Array Value := #[.int 5, .int 6, .int 7, .int 8]
def aboutOver (below : List Frame) : State where
  vm := { classes := classes, interned := interned.toArray }
  heap := heap
  slotsUsed := slotsUsed
  threads := #[{ frames := .invoking theMethod args0 :: below }]
def below0 : List Frame := [.native { method := ⟨0, 0⟩, args := #[] }]
def about1 : State := aboutOver below0
def p0 : Program := .bare "" "" ""
def e0 : Env := launch0.env 0 0 0
theorem w_frames : about1.frames = Frame.invoking theMethod args0 :: below0 := rfl
set_option maxRecDepth 65536 in
theorem w_args : argsFit about1.vm theMethod args0 = true := by decide +kernel
set_option maxRecDepth 65536 in
theorem w_heap : heapFits about1 = true := by decide +kernel
set_option maxRecDepth 65536 in
theorem w_runnable : about1.curStatus? = some .runnable := by decide +kernel
set_option maxRecDepth 65536 in
theorem w_alone : about1.alone = true := by decide +kernel
set_option maxRecDepth 65536 in
theorem w_named : about1.methodNamed? x = some theMethod := by decide +kernel
set_option maxRecDepth 65536 in
theorem w_hears : about1.hears theMethod below0 = true := by decide +kernel
set_option maxRecDepth 65536 in
theorem w_ripe : about1.ripe theMethod args0 below0 = true := by decide +kernel
theorem w_running : about1.status = .running := rfl
set_option maxRecDepth 65536 in
theorem w_room : about1.hasRoom e0.platform room_1 = true :=
  launch0.hasRoom_least _ room_1 (by decide +kernel) (by decide +kernel) (by decide +kernel) (by decide +kernel) (by decide +kernel) (by decide +kernel)
theorem allAtoms_all (ts : List Jvm.Cond) (a : Array Jvm.Value) (st : Jvm.State) : (allAtoms ts).before a st = ts.all (fun c => c.before a st) := by
  induction ts with
  | nil => rfl
  | cons c t ih =>
    show (Jvm.Cond.and c (allAtoms t)).before a st = _
    rw [Jvm.Cond.before_and, ih, List.all_cons]
def words1 : List Jvm.Cond := Jvm.Cond.code x code maxLocals ret :: tables_1
/-- a 'code' word, met by the world's own term for the bytes: nothing is compared byte by byte -/
theorem code_word {y : MethodName} {bytes : ByteArray} {mx : Nat} {rt : Option FieldType} {a : Array Value} {s : State} {m : MethodId} {meth : Method} {c : Code} (h1 : s.methodNamed? y = some m) (h2 : s.vm.method? m = some meth) (h3 : meth.code = some c) (h4 : c.code = bytes)
    (h5 : (c.maxLocals == mx && c.exceptionTable.isEmpty && decide (c.maxStack ≤ mostOperands) && decide (meth.sig.returnType = rt) && !meth.locks && decide (parseMethodDescriptor y.desc = some meth.sig)) = true) : (Jvm.Cond.code y bytes mx rt).before a s = true := by
  simp only [Bool.and_eq_true, beq_iff_eq, Bool.not_eq_true', decide_eq_true_eq] at h5
  obtain ⟨⟨⟨⟨⟨g1, g2⟩, g3⟩, g4⟩, g5⟩, g6⟩ := h5
  simp [Cond.before, Cond.holds, Cond.value, h1, h2, h3, h4, g1, g2, g3, g4, g5, g6]
def isCode : Jvm.Cond → Bool
  | .code _ _ _ _ => true
  | _ => false
theorem all_split {L : List Jvm.Cond} {P : Jvm.Cond → Bool} (h1 : L.all (fun c => isCode c || P c) = true) (h2 : ∀ c ∈ L.filter isCode, P c = true) : L.all P = true := by
  refine List.all_eq_true.mpr fun c hc => ?_
  have h := List.all_eq_true.mp h1 c hc
  rcases Bool.eq_false_or_eq_true (isCode c) with hi | hi
  · exact h2 c (List.mem_filter.mpr ⟨hc, hi⟩)
  · simpa [hi] using h
set_option maxRecDepth 65536 in
theorem w_c0 : (Jvm.Cond.code x code maxLocals ret).before args0 about1 = true := code_word (m := ⟨1, 1⟩) (meth := k1m1) (c := k1c1) (by decide +kernel) rfl rfl rfl (by decide +kernel)
set_option maxRecDepth 65536 in
theorem w_c1 : (Jvm.Cond.code ({ cls := "com/example/swarm_tally/swarmtally/IntQueue", name := "<init>", desc := "()V" } : Jvm.MethodName) prog_11_method_1_code (1 : Nat) (Option.none : Option Jvm.ClassFile.FieldType)).before args0 about1 = true := code_word (m := ⟨2, 0⟩) (meth := k2m0) (c := k2c0) (by decide +kernel) rfl rfl rfl (by decide +kernel)
set_option maxRecDepth 65536 in
theorem w_c2 : (Jvm.Cond.code ({ cls := "java/lang/Object", name := "<init>", desc := "()V" } : Jvm.MethodName) object_method_1_code (1 : Nat) (Option.none : Option Jvm.ClassFile.FieldType)).before args0 about1 = true := code_word (m := ⟨0, 0⟩) (meth := k0m0) (c := k0c0) (by decide +kernel) rfl rfl rfl (by decide +kernel)
set_option maxRecDepth 65536 in
theorem w_c3 : (Jvm.Cond.code ({ cls := "com/example/swarm_tally/swarmtally/IntQueue", name := "add", desc := "(I)V" } : Jvm.MethodName) prog_11_method_2_code (4 : Nat) (Option.none : Option Jvm.ClassFile.FieldType)).before args0 about1 = true := code_word (m := ⟨2, 1⟩) (meth := k2m1) (c := k2c1) (by decide +kernel) rfl rfl rfl (by decide +kernel)
set_option maxRecDepth 65536 in
theorem w_c4 : (Jvm.Cond.code ({ cls := "com/example/swarm_tally/swarmtally/IntQueue", name := "remove", desc := "()I" } : Jvm.MethodName) prog_11_method_3_code (2 : Nat) (Option.some Jvm.ClassFile.FieldType.int)).before args0 about1 = true := code_word (m := ⟨2, 2⟩) (meth := k2m2) (c := k2c2) (by decide +kernel) rfl rfl rfl (by decide +kernel)
set_option maxRecDepth 65536 in
theorem w_c5 : (Jvm.Cond.code ({ cls := "com/example/swarm_tally/swarmtally/IntQueue", name := "size", desc := "()I" } : Jvm.MethodName) prog_11_method_5_code (1 : Nat) (Option.some Jvm.ClassFile.FieldType.int)).before args0 about1 = true := code_word (m := ⟨2, 4⟩) (meth := k2m4) (c := k2c4) (by decide +kernel) rfl rfl rfl (by decide +kernel)
set_option maxRecDepth 65536 in
theorem w_c6 : (Jvm.Cond.code ({ cls := "com/example/swarm_tally/swarmtally/IntQueue", name := "isEmpty", desc := "()Z" } : Jvm.MethodName) prog_11_method_4_code (1 : Nat) (Option.some Jvm.ClassFile.FieldType.boolean)).before args0 about1 = true := code_word (m := ⟨2, 3⟩) (meth := k2m3) (c := k2c3) (by decide +kernel) rfl rfl rfl (by decide +kernel)
def codes1 : List Jvm.Cond := [Jvm.Cond.code x code maxLocals ret, Jvm.Cond.code ({ cls := "com/example/swarm_tally/swarmtally/IntQueue", name := "<init>", desc := "()V" } : Jvm.MethodName) prog_11_method_1_code (1 : Nat) (Option.none : Option Jvm.ClassFile.FieldType), Jvm.Cond.code ({ cls := "java/lang/Object", name := "<init>", desc := "()V" } : Jvm.MethodName) object_method_1_code (1 : Nat) (Option.none : Option Jvm.ClassFile.FieldType), Jvm.Cond.code ({ cls := "com/example/swarm_tally/swarmtally/IntQueue", name := "add", desc := "(I)V" } : Jvm.MethodName) prog_11_method_2_code (4 : Nat) (Option.none : Option Jvm.ClassFile.FieldType), Jvm.Cond.code ({ cls := "com/example/swarm_tally/swarmtally/IntQueue", name := "remove", desc := "()I" } : Jvm.MethodName) prog_11_method_3_code (2 : Nat) (Option.some Jvm.ClassFile.FieldType.int), Jvm.Cond.code ({ cls := "com/example/swarm_tally/swarmtally/IntQueue", name := "size", desc := "()I" } : Jvm.MethodName) prog_11_method_5_code (1 : Nat) (Option.some Jvm.ClassFile.FieldType.int), Jvm.Cond.code ({ cls := "com/example/swarm_tally/swarmtally/IntQueue", name := "isEmpty", desc := "()Z" } : Jvm.MethodName) prog_11_method_4_code (1 : Nat) (Option.some Jvm.ClassFile.FieldType.boolean)]
set_option maxRecDepth 65536 in
theorem codes_eq : words1.filter isCode = codes1 := rfl
theorem w_codes : ∀ c ∈ words1.filter isCode, c.before args0 about1 = true := by
  rw [codes_eq]
  intro c hc
  simp only [codes1, List.mem_cons, List.not_mem_nil, or_false] at hc
  rcases hc with rfl | rfl | rfl | rfl | rfl | rfl | rfl
  · exact w_c0
  · exact w_c1
  · exact w_c2
  · exact w_c3
  · exact w_c4
  · exact w_c5
  · exact w_c6
set_option maxRecDepth 65536 in
theorem w_t1 : (words1.take 24).all (fun c => isCode c || c.before args0 about1) = true := by decide +kernel
set_option maxRecDepth 65536 in
theorem w_t2 : (words1.drop 24).all (fun c => isCode c || c.before args0 about1) = true := by decide +kernel
theorem w_tables : (allAtoms (Jvm.Cond.code x code maxLocals ret :: tables_1)).before args0 about1 = true := by
  rw [allAtoms_all]
  show words1.all (fun c => c.before args0 about1) = true
  refine all_split ?_ w_codes
  rw [← List.take_append_drop 24 words1, List.all_append, w_t1, w_t2]
  rfl
set_option maxRecDepth 65536 in
theorem w_case : (Jvm.Cond.and given_1 narrow_1).before args0 about1 = true := by decide +kernel
theorem w_applies : (headSpec (Jvm.Cond.code x code maxLocals ret :: tables_1) room_1).applies x e0.platform about1 = true :=
  (Spec.applies_iff w_frames).mpr ⟨w_running, w_runnable, w_alone, w_named, w_hears, w_ripe, w_room, w_tables⟩
theorem atStart : AtStart classFile x code maxLocals ret World_1 tables_1 room_1 Calls_1 rest_1 Pre_1 launch0 p0 e0 about1 theMethod args0 below0 :=
  ⟨lists_1, trivial, launch0.admits_env _ _ _, launch0.least_env, fairChoices_fair.cas, fairChoices_fair.clock, w_frames, w_args, w_heap, w_applies, trivial, trivial, w_case⟩
end start1
theorem witness_1 : WitnessClaimed_1 := ⟨start1.p0, start1.e0, start1.about1, start1.theMethod, start1.args0, start1.below0, start1.atStart⟩
end Jvm.Pilot.@@N@@
