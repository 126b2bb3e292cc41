import JvmDerived
import JvmDerived.Pilot.@@N@@Statement
import JvmDerived.Pilot.@@N@@Code
set_option linter.unusedVariables false
set_option linter.unusedSimpArgs false
@@BLOCK:HandJ.lean.txt@@
@@BLOCK:SymMore.lean.txt@@
@@BLOCK:NumsL.lean.txt@@
namespace Jvm.Pilot.@@N@@
open Jvm Jvm.ClassFile Sem Op Lib Jvm.Free Jvm.Stand Jvm.LawKit Jvm.RoadKit Bundle Jvm.Pilot.@@N@@.Jvm.D
/-! own layer: the walk in continuation form -/
section OwnWalk
variable {p : Program} {l : Launch} {e : Env} {R : Room} {s : State} {m : MethodId} {args : Array Value} {below : List Frame} {meth : Method} {c : Code} {T T' : State} {locs : List Loc} {cells slots : Nat} {Q : Option Value → Heap → List Loc → Prop} {ck sk : Nat} {f f' : JFrame} {Z : State} {a0 : Array Value} {h h' : Heap}
/-- from this state and frame the invocation returns, and what it leaves is told by Q -/
def ownEnds (p : Program) (e : Env) (below : List Frame) (s : State) (Q : Option Value → Heap → List Loc → Prop) (ck sk : Nat) (T : State) (f : JFrame) : Prop :=
  ∃ s₂ o, Steps p.tables e below (T.setTop f) s₂ ∧ s₂.status = .running ∧ Ended s₂ below o ∧ ∃ v L, o = .returned v ∧ Q v s₂.heap L ∧ FrameEnd s o s₂ L ck sk
theorem ownGo (st : ∀ target, Steps p.tables e below (T'.setTop f') target → Steps p.tables e below (T.setTop f) target) (k : ownEnds p e below s Q ck sk T' f') : ownEnds p e below s Q ck sk T f := by
  obtain ⟨a, b, h1, h2⟩ := k
  exact ⟨a, b, st _ h1, h2⟩
theorem ownRun (st : Steps p.tables e below (T.setTop f) (T'.setTop f')) (k : ownEnds p e below s Q ck sk T' f') : ownEnds p e below s Q ck sk T f :=
  ownGo (fun _ q => st.trans q) k
theorem ownCast (q : f = f') (k : ownEnds p e below s Q ck sk T f') : ownEnds p e below s Q ck sk T f := q ▸ k
theorem ownRetI (X : Stand p l e R s m args below meth c T locs cells slots) (hx : p.tables.exec = Jvm.exec) {pc : Nat} {Ls : Array Slot} {z : Int32} {rest : List Value} (hret : meth.sig.returnType = some .int) (hd : decode c.code pc = .ok (.ireturn, 1)) (hk : meth.locks = false) (hc : cells ≤ ck) (hs : slots ≤ sk)
    (hQ : Q (some (.int z)) T.heap locs) : ownEnds p e below s Q ck sk T (mkF m pc Ls (.int z :: rest)) := by
  obtain ⟨fs, hr, hrun, hended, hW, hsame⟩ := X.leave (v := some (.int z)) (fun h => by rw [hret] at h; cases h) hk
  exact ⟨_, _, retOut X hx hret rfl (Or.inl ⟨rfl, Or.inl rfl, _, rfl⟩) hd hr, hrun, hended, _, _, rfl, hQ, ⟨_, rfl⟩, hW, hsame.mono hc hs⟩
theorem ownRetN (X : Stand p l e R s m args below meth c T locs cells slots) (hx : p.tables.exec = Jvm.exec) {pc : Nat} {Ls : Array Slot} {z r : Int32} {rest : List Value} {t : FieldType} (ht : t = .boolean ∨ t = .byte ∨ t = .char ∨ t = .short) (hret : meth.sig.returnType = some t) (hd : decode c.code pc = .ok (.ireturn, 1)) (hk : meth.locks = false) (hc : cells ≤ ck) (hs : slots ≤ sk)
    (hz : nar t z = r) (hQ : Q (some (.int r)) T.heap locs) : ownEnds p e below s Q ck sk T (mkF m pc Ls (.int z :: rest)) := by
  subst hz
  obtain ⟨fs, hr, hrun, hended, hW, hsame⟩ := X.leave (v := some (.int (nar t z))) (fun h => by rw [hret] at h; cases h) hk
  exact ⟨_, _, retN X hx hret ht hd hr, hrun, hended, _, _, rfl, hQ, ⟨_, rfl⟩, hW, hsame.mono hc hs⟩
theorem ownRetV (X : Stand p l e R s m args below meth c T locs cells slots) (hx : p.tables.exec = Jvm.exec) {pc : Nat} {Ls : Array Slot} (hret : meth.sig.returnType = none) (hd : decode c.code pc = .ok (.return_, 1)) (hk : meth.locks = false) (hc : cells ≤ ck) (hs : slots ≤ sk)
    (hQ : Q none T.heap locs) : ownEnds p e below s Q ck sk T (mkF m pc Ls []) := by
  obtain ⟨fs, hr, hrun, hended, hW, hsame⟩ := X.leave (v := none) (fun _ => rfl) hk
  exact ⟨_, _, X.returnOut hx hret hd hr, hrun, hended, _, _, rfl, hQ, ⟨_, rfl⟩, hW, hsame.mono hc hs⟩
/-- one place of a function turned -/
def ownUpd {α : Type} (f : Nat → α) (j : Nat) (x : α) : Nat → α := fun i => if i = j then x else f i
theorem ownUpd_same {α : Type} (f : Nat → α) (j : Nat) (x : α) : ownUpd f j x j = x := if_pos rfl
theorem ownUpd_ne {α : Type} (f : Nat → α) {i j : Nat} (x : α) (q : i ≠ j) : ownUpd f j x i = f i := if_neg q
/-- an array of ints (or bytes, chars ..): its length and its components -/
def ownAI (Z : State) (h : Heap) (a : Addr) (ty : FieldType) (n : Nat) (g : Nat → Int32) : Prop := ∃ cl : Cell, Arr Z h a cl ty ∧ cl.slots.size = n ∧ n < 2 ^ 31 ∧ ∀ i, i < n → cl.slots[i]? = some (.int (g i))
/-- an array of longs -/
def ownAJ (Z : State) (h : Heap) (a : Addr) (n : Nat) (g : Nat → Int64) : Prop := ∃ cl : Cell, Arr Z h a cl .long ∧ cl.slots.size = n ∧ n < 2 ^ 31 ∧ ∀ i, i < n → cl.slots[i]? = some (.long (g i))
variable {a b : Addr} {ty : FieldType} {n : Nat} {gi : Nat → Int32} {gj : Nat → Int64} {ws : List Addr} {sl : Nat} {v : Value}
theorem ownAI.lt (F : ownAI Z h a ty n gi) : a < h.size := by obtain ⟨c, A, -⟩ := F; exact A.lt
theorem ownAI.ext (F : ownAI Z h a ty n gi) (E : Ext h h') : ownAI Z h' a ty n gi := by obtain ⟨c, A, r⟩ := F; exact ⟨c, A.ext E, r⟩
theorem ownAI.other (F : ownAI Z h b ty n gi) (W : Wr h h' a sl v) (q : b ≠ a) : ownAI Z h' b ty n gi := by obtain ⟨c, A, r⟩ := F; exact ⟨c, A.other W q, r⟩
theorem ownAI.keep (F : ownAI Z h a ty n gi) (K : Keep h h' ws) (q : a ∉ ws) : ownAI Z h' a ty n gi := by obtain ⟨c, A, r⟩ := F; exact ⟨c, ⟨K.2.1 a c A.1 q, A.2⟩, r⟩
theorem ownAJ.lt (F : ownAJ Z h a n gj) : a < h.size := by obtain ⟨c, A, -⟩ := F; exact A.lt
theorem ownAJ.ext (F : ownAJ Z h a n gj) (E : Ext h h') : ownAJ Z h' a n gj := by obtain ⟨c, A, r⟩ := F; exact ⟨c, A.ext E, r⟩
theorem ownAJ.other (F : ownAJ Z h b n gj) (W : Wr h h' a sl v) (q : b ≠ a) : ownAJ Z h' b n gj := by obtain ⟨c, A, r⟩ := F; exact ⟨c, A.other W q, r⟩
theorem ownAJ.keep (F : ownAJ Z h a n gj) (K : Keep h h' ws) (q : a ∉ ws) : ownAJ Z h' a n gj := by obtain ⟨c, A, r⟩ := F; exact ⟨c, ⟨K.2.1 a c A.1 q, A.2⟩, r⟩
theorem ownAI.new {k : ClassId} {z : Int32} (A : Arr Z h a (newA k ty z) ty) (q : ¬ z < 0) (d : defaultValue ty = .int 0) (N : z.toNatClampNeg = n) : ownAI Z h a ty n (fun _ => 0) := by
  subst N
  refine ⟨_, A, sz_new _ _ _, (back32 q).2, fun i hi => ?_⟩
  simp [newA, hi, d]
theorem ownAJ.new {k : ClassId} {z : Int32} (A : Arr Z h a (newA k .long z) .long) (q : ¬ z < 0) (N : z.toNatClampNeg = n) : ownAJ Z h a n (fun _ => 0) := by
  subst N
  refine ⟨_, A, sz_new _ _ _, (back32 q).2, fun i hi => ?_⟩
  simp [newA, hi, defaultValue]
theorem ownAI.set (F : ownAI Z h a ty n gi) {j : Nat} {x : Int32} (W : Wr h h' a j (.int x)) : ownAI Z h' a ty n (ownUpd gi j x) := by
  obtain ⟨cl, A, S, N, H⟩ := F
  refine ⟨_, A.same W, by simpa [Cell.setSlot] using S, N, fun i hi => ?_⟩
  by_cases e : i = j
  · subst e; simp [Cell.setSlot, ownUpd, S, hi]
  · rw [ownUpd_ne _ _ e]
    show (cl.slots.setIfInBounds j (.int x))[i]? = _
    rw [Array.getElem?_setIfInBounds_ne (Ne.symm e)]; exact H i hi
theorem ownAJ.set (F : ownAJ Z h a n gj) {j : Nat} {x : Int64} (W : Wr h h' a j (.long x)) : ownAJ Z h' a n (ownUpd gj j x) := by
  obtain ⟨cl, A, S, N, H⟩ := F
  refine ⟨_, A.same W, by simpa [Cell.setSlot] using S, N, fun i hi => ?_⟩
  by_cases e : i = j
  · subst e; simp [Cell.setSlot, ownUpd, S, hi]
  · rw [ownUpd_ne _ _ e]
    show (cl.slots.setIfInBounds j (.long x))[i]? = _
    rw [Array.getElem?_setIfInBounds_ne (Ne.symm e)]; exact H i hi
/-- an index is inside -/
def ownIn (j : Int32) (n : Nat) : Prop := ¬ (j < 0 ∨ n ≤ j.toNatClampNeg)
theorem ownIn_of {j : Int32} {n : Nat} (h1 : 0 ≤ j.toInt) (h2 : j.toInt < n) : ownIn j n := by
  intro q
  rcases q with q | q
  · rw [Int32.lt_iff_toInt_lt] at q; simp only [Int32.reduceToInt] at q; omega
  · simp only [Int32.toNatClampNeg] at q; omega
theorem ownIaload (F : ownAI Z h a .int n gi) (X : Stand p l e R s m args below meth c T locs cells slots) (hx : p.tables.exec = Jvm.exec) (hZ : Z.Warmed39 s.vm) (eT : T.heap = h) {j : Int32} (hin : ownIn j n) {g : JFrame} (hg : g.method = m) {rest : List Value} (hs : g.stack = .int j :: .ref a :: rest) (hd : decode c.code g.pc = .ok (.iaload, 1)) :
    ∀ target, Steps p.tables e below (T.setTop { g with pc := g.pc + 1, stack := .int (gi j.toNatClampNeg) :: rest }) target → Steps p.tables e below (T.setTop g) target := by
  obtain ⟨cl, A, S, N, H⟩ := F
  subst S
  exact fun t k => X.iaload hx (by rw [eT]; exact A.1) (State.isArrayOf_alike hZ.alike A.2.1) A.2.2 hin (H _ (Nat.lt_of_not_le fun q => hin (Or.inr q))) hg hs hd t k
theorem ownLenI (F : ownAI Z h a ty n gi) (X : Stand p l e R s m args below meth c T locs cells slots) (hx : p.tables.exec = Jvm.exec) (hZ : Z.Warmed39 s.vm) (eT : T.heap = h) {z : Int32} (hz : n.toInt32 = z) {g : JFrame} (hg : g.method = m) {rest : List Value} (hs : g.stack = .ref a :: rest) (hd : decode c.code g.pc = .ok (.arraylength, 1)) :
    ∀ target, Steps p.tables e below (T.setTop { g with pc := g.pc + 1, stack := .int z :: rest }) target → Steps p.tables e below (T.setTop g) target := by
  obtain ⟨cl, A, S, N, H⟩ := F
  subst S hz
  exact fun t k => X.arraylength hx (by rw [eT]; exact A.1) (State.isArrayOf_alike hZ.alike A.2.1) hg hs hd t k
theorem ownIastore (F : ownAI Z h a .int n gi) (X : Stand p l e R s m args below meth c T locs cells slots) (hx : p.tables.exec = Jvm.exec) (hZ : Z.Warmed39 s.vm) (eT : T.heap = h) {j x : Int32} (hin : ownIn j n) {g : JFrame} (hg : g.method = m) {rest : List Value} (hs : g.stack = .int x :: .int j :: .ref a :: rest) (hd : decode c.code g.pc = .ok (.iastore, 1)) :
    ∃ T' h', Stand p l e R s m args below meth c T' (locs ++ [⟨a, j.toNatClampNeg⟩]) cells slots ∧ T'.heap = h' ∧ Wr h h' a j.toNatClampNeg (.int x) ∧ ownAI Z h' a .int n (ownUpd gi j.toNatClampNeg x) ∧ ∀ target, Steps p.tables e below (T'.setTop { g with pc := g.pc + 1, stack := rest }) target → Steps p.tables e below (T.setTop g) target := by
  obtain ⟨cl, A, S, r⟩ := id F
  obtain ⟨T', h', X', e', W, st⟩ := stI X hx hZ eT A (j := j) (by rw [S]; exact hin) hg hs hd
  exact ⟨T', h', X', e', W, F.set W, st⟩
theorem ownAI.arv (F : ownAI Z h a ty n gi) {z : Int32} (hz : z.toNatClampNeg = n) (hn : ¬ z < 0) (hf : ∀ i, i < n → fits ty (.int (gi i)) = true) : ∃ k, Arv Z h a k ty z ((List.range n).map fun i => Value.int (gi i)) (.int 0) := by
  obtain ⟨cl, A, S, N, H⟩ := F
  refine ⟨cl.cls, cl, A, rfl, by rw [S, hz], hn, fun i hi => ?_, fun i hi => ?_⟩
  · rw [S] at hi; rw [H i hi]; simp [List.getD_eq_getElem?_getD, hi]
  · rw [S] at hi; have := hf i hi; simpa [List.getD_eq_getElem?_getD, hi] using this
theorem ownAI.of_arv {k : ClassId} {z : Int32} {vs : List Value} {dv : Value} (F : Arv Z h a k ty z vs dv) (hz : z.toNatClampNeg = n) (hv : ∀ i, i < n → vs.getD i dv = .int (gi i)) : ownAI Z h a ty n gi := by
  obtain ⟨cl, A, q, S, N, H, G⟩ := F
  refine ⟨cl, A, by rw [S, hz], by rw [← hz]; exact (back32 N).2, fun i hi => ?_⟩
  rw [H i (by rw [S, hz]; exact hi), hv i hi]
theorem ownCloneI {z : Int32} (F : ownAI Z h a ty n gi) (hz : z.toNatClampNeg = n) (hn : ¬ z < 0) (hfa : ∀ i, i < n → fits ty (.int (gi i)) = true) (X : Stand p l e R s m args below meth c T locs cells slots) (hx : p.tables.exec = Jvm.exec) (hZ : Z.Warmed39 s.vm) {own ad : String} {index : Nat} (hown : s.vm.findClass own = some m.cls)
    (w1 : (Cond.methodLink own index ⟨ad, "clone", "()Ljava/lang/Object;"⟩).before a0 Z = true) (w2 : (Cond.sameMethod ad "java/lang/Object" "clone" "()Ljava/lang/Object;").before a0 Z = true) (w3 : (Cond.native ⟨"java/lang/Object", "clone", "()Ljava/lang/Object;"⟩).before a0 Z = true)
    (w4 : (Cond.instanceMethod ⟨"java/lang/Object", "clone", "()Ljava/lang/Object;"⟩).before a0 Z = true) (w5 : (Cond.selects ad ⟨ad, "clone", "()Ljava/lang/Object;"⟩ ⟨"java/lang/Object", "clone", "()Ljava/lang/Object;"⟩).before a0 Z = true) (w6 : (Cond.castable ad "java/lang/Cloneable").before a0 Z = true)
    (eT : T.heap = h) (E : Exa Z h a ad) {g : JFrame} (hg : g.method = m) (hsize : g.locals.size = c.maxLocals) {rest : List Value} (hst : g.stack = .ref a :: rest) (hd : decode c.code g.pc = .ok (.invokevirtual index, 3))
    (hf : 1 ≤ R.frames) {W cap : Nat} (hW : 2 * g.monitorRoom + (rest.map fun v => v.category).sum ≤ W) (hl : W + 14 ≤ R.locals) (hcap : n ≤ cap) (hc : cells + 1 ≤ R.cells) (hsl : slots + cap ≤ R.slots) :
    ∃ T' h', Stand p l e R s m args below meth c T' locs (cells + 1) (slots + cap) ∧ T'.heap = h' ∧ Ext h h' ∧ ownAI Z h' h.size ty n gi ∧ Exa Z h' h.size ad ∧
      ∀ target, Steps p.tables e below (T'.setTop { g with pc := g.pc + 3, stack := .ref h.size :: rest }) target → Steps p.tables e below (T.setTop g) target := by
  obtain ⟨k1, A1⟩ := F.arv hz hn hfa
  obtain ⟨T', h', X', e', ex, A', E', st⟩ := cloneH X hx hZ hown w1 w2 w3 w4 w5 w6 eT A1.arh E hg hsize hst hd hf hW hl (by rw [hz]; exact hcap) hc hsl
  refine ⟨T', h', X', e', ex, ownAI.of_arv (k := k1) (z := z) (vs := (List.range n).map fun i => Value.int (gi i)) (dv := .int 0) A' hz (fun i hi => ?_), E', st⟩
  simp [List.getD_eq_getElem?_getD, hi]
/-- an array of int arrays: its class, its length, its components -/
def ownAR (Z : State) (h : Heap) (a : Addr) (k : ClassId) (n : Nat) (f : Nat → Value) : Prop := ∃ cl : Cell, Arr Z h a cl (.array .int) ∧ cl.cls = k ∧ cl.slots.size = n ∧ n < 2 ^ 31 ∧ ∀ i, i < n → cl.slots[i]? = some (f i)
theorem ownAR.lt {k : ClassId} {fr : Nat → Value} (F : ownAR Z h a k n fr) : a < h.size := by obtain ⟨c, A, -⟩ := F; exact A.lt
theorem ownAR.ext {k : ClassId} {fr : Nat → Value} (F : ownAR Z h a k n fr) (E : Ext h h') : ownAR Z h' a k n fr := by obtain ⟨c, A, r⟩ := F; exact ⟨c, A.ext E, r⟩
theorem ownAR.other {k : ClassId} {fr : Nat → Value} (F : ownAR Z h b k n fr) (W : Wr h h' a sl v) (q : b ≠ a) : ownAR Z h' b k n fr := by obtain ⟨c, A, r⟩ := F; exact ⟨c, A.other W q, r⟩
theorem ownAR.keep {k : ClassId} {fr : Nat → Value} (F : ownAR Z h a k n fr) (K : Keep h h' ws) (q : a ∉ ws) : ownAR Z h' a k n fr := by obtain ⟨c, A, r⟩ := F; exact ⟨c, ⟨K.2.1 a c A.1 q, A.2⟩, r⟩
theorem ownAR.new {k : ClassId} {z : Int32} (A : Arr Z h a (newA k (.array .int) z) (.array .int)) (q : ¬ z < 0) (N : z.toNatClampNeg = n) : ownAR Z h a k n (fun _ => .null) := by
  subst N
  refine ⟨_, A, rfl, sz_new _ _ _, (back32 q).2, fun i hi => ?_⟩
  simp [newA, hi, defaultValue]
theorem ownAR.set {k : ClassId} {fr : Nat → Value} (F : ownAR Z h a k n fr) {j : Nat} {x : Value} (W : Wr h h' a j x) : ownAR Z h' a k n (ownUpd fr j x) := by
  obtain ⟨cl, A, q, S, N, H⟩ := F
  refine ⟨_, A.same W, q, by simpa [Cell.setSlot] using S, N, fun i hi => ?_⟩
  by_cases e : i = j
  · subst e; simp [Cell.setSlot, ownUpd, S, hi]
  · rw [ownUpd_ne _ _ e]
    show (cl.slots.setIfInBounds j x)[i]? = _
    rw [Array.getElem?_setIfInBounds_ne (Ne.symm e)]; exact H i hi
theorem ownAaload {k : ClassId} {fr : Nat → Value} (F : ownAR Z h a k n fr) (X : Stand p l e R s m args below meth c T locs cells slots) (hx : p.tables.exec = Jvm.exec) (hZ : Z.Warmed39 s.vm) (eT : T.heap = h) {j : Int32} (hin : ownIn j n) {g : JFrame} (hg : g.method = m) {rest : List Value} (hs : g.stack = .int j :: .ref a :: rest) (hd : decode c.code g.pc = .ok (.aaload, 1)) :
    ∀ target, Steps p.tables e below (T.setTop { g with pc := g.pc + 1, stack := fr j.toNatClampNeg :: rest }) target → Steps p.tables e below (T.setTop g) target := by
  obtain ⟨cl, A, q, S, N, H⟩ := F
  subst S
  exact fun t k => X.aaload hx (by rw [eT]; exact A.1) (State.isArrayOf_alike hZ.alike A.2.1) rfl A.2.2 hin (H _ (Nat.lt_of_not_le fun q => hin (Or.inr q))) hg hs hd t k
theorem ownAastore {k : ClassId} {fr : Nat → Value} {y : Addr} (F : ownAR Z h a k n fr) (O : OvrA Z k .int "[I") (E : Exa Z h y "[I") (X : Stand p l e R s m args below meth c T locs cells slots) (hx : p.tables.exec = Jvm.exec) (hZ : Z.Warmed39 s.vm) (eT : T.heap = h) {j : Int32} (hin : ownIn j n) {g : JFrame} (hg : g.method = m) {rest : List Value} (hs : g.stack = .ref y :: .int j :: .ref a :: rest) (hd : decode c.code g.pc = .ok (.aastore, 1)) :
    ∃ T' h', Stand p l e R s m args below meth c T' (locs ++ [⟨a, j.toNatClampNeg⟩]) cells slots ∧ T'.heap = h' ∧ Wr h h' a j.toNatClampNeg (.ref y) ∧ ownAR Z h' a k n (ownUpd fr j.toNatClampNeg (.ref y)) ∧ ∀ target, Steps p.tables e below (T'.setTop { g with pc := g.pc + 1, stack := rest }) target → Steps p.tables e below (T.setTop g) target := by
  obtain ⟨cl, A, q, S, r⟩ := id F
  obtain ⟨T', h', X', e', W, st⟩ := stR X hx hZ eT A (j := j) (by rw [S]; exact hin) rfl (Sto.ofVA A q O (Ins.self E)) hg hs hd
  exact ⟨T', h', X', e', W, F.set W, st⟩
theorem ownAI.congr {gi' : Nat → Int32} (F : ownAI Z h a ty n gi) (q : ∀ i, i < n → gi i = gi' i) : ownAI Z h a ty n gi' := by
  obtain ⟨cl, A, S, N, H⟩ := F
  exact ⟨cl, A, S, N, fun i hi => by rw [H i hi, q i hi]⟩
end OwnWalk
section OwnSteps
variable {p : Program} {l : Launch} {e : Env} {R : Room} {s : State} {m : MethodId} {args : Array Value} {below : List Frame} {meth : Method} {c : Code} {T : State} {locs : List Loc} {cells slots : Nat} {Q : Option Value → Heap → List Loc → Prop} {ck sk : Nat}
theorem ow_iloadN (X : Stand p l e R s m args below meth c T locs cells slots) (hx : p.tables.exec = Jvm.exec) {pc q : Nat} {Ls : Array Slot} {S : List Value} {k : Fin 4} {v : Int32} (hd : decode c.code pc = .ok (.iload_n k, 1)) (hq : pc + 1 = q) (hl : Ls[k.val]? = some (.val (.int v))) (k : ownEnds p e below s Q ck sk T (mkF m q Ls (.int v :: S))) : ownEnds p e below s Q ck sk T (mkF m pc Ls S) := by
  subst hq
  exact ownGo (fun _ k => XS.iloadN X.here hx rfl hd hl k) k
theorem ow_iload (X : Stand p l e R s m args below meth c T locs cells slots) (hx : p.tables.exec = Jvm.exec) {pc q : Nat} {Ls : Array Slot} {S : List Value} {k : Nat} {v : Int32} (hd : decode c.code pc = .ok (.iload k, 2)) (hq : pc + 2 = q) (hl : Ls[k]? = some (.val (.int v))) (k : ownEnds p e below s Q ck sk T (mkF m q Ls (.int v :: S))) : ownEnds p e below s Q ck sk T (mkF m pc Ls S) := by
  subst hq
  exact ownGo (fun _ k => XS.iload X.here hx rfl hd hl k) k
theorem ow_istoreN (X : Stand p l e R s m args below meth c T locs cells slots) (hx : p.tables.exec = Jvm.exec) {pc q : Nat} {Ls : Array Slot} {S : List Value} {k : Fin 4} {v : Int32} {L' : Array Slot} (hd : decode c.code pc = .ok (.istore_n k, 1)) (hq : pc + 1 = q) (hl : storeLocals Ls k.val (.int v) = some L') (k : ownEnds p e below s Q ck sk T (mkF m q L' S)) : ownEnds p e below s Q ck sk T (mkF m pc Ls (.int v :: S)) := by
  subst hq
  exact ownGo (fun _ k => XS.istoreN X.here hx rfl hd rfl hl k) k
theorem ow_istore (X : Stand p l e R s m args below meth c T locs cells slots) (hx : p.tables.exec = Jvm.exec) {pc q : Nat} {Ls : Array Slot} {S : List Value} {k : Nat} {v : Int32} {L' : Array Slot} (hd : decode c.code pc = .ok (.istore k, 2)) (hq : pc + 2 = q) (hl : storeLocals Ls k (.int v) = some L') (k : ownEnds p e below s Q ck sk T (mkF m q L' S)) : ownEnds p e below s Q ck sk T (mkF m pc Ls (.int v :: S)) := by
  subst hq
  exact ownGo (fun _ k => XS.istore X.here hx rfl hd rfl hl k) k
theorem ow_aloadN (X : Stand p l e R s m args below meth c T locs cells slots) (hx : p.tables.exec = Jvm.exec) {pc q : Nat} {Ls : Array Slot} {S : List Value} {k : Fin 4} {v : Value} (hd : decode c.code pc = .ok (.aload_n k, 1)) (hq : pc + 1 = q) (hl : Ls[k.val]? = some (.val v)) (hv : v.isRef = true) (k : ownEnds p e below s Q ck sk T (mkF m q Ls (v :: S))) : ownEnds p e below s Q ck sk T (mkF m pc Ls S) := by
  subst hq
  exact ownGo (fun _ k => XS.aloadN X.here hx rfl hd hl hv k) k
theorem ow_aload (X : Stand p l e R s m args below meth c T locs cells slots) (hx : p.tables.exec = Jvm.exec) {pc q : Nat} {Ls : Array Slot} {S : List Value} {k : Nat} {v : Value} (hd : decode c.code pc = .ok (.aload k, 2)) (hq : pc + 2 = q) (hl : Ls[k]? = some (.val v)) (hv : v.isRef = true) (k : ownEnds p e below s Q ck sk T (mkF m q Ls (v :: S))) : ownEnds p e below s Q ck sk T (mkF m pc Ls S) := by
  subst hq
  exact ownGo (fun _ k => XS.aload X.here hx rfl hd hl hv k) k
theorem ow_astore (X : Stand p l e R s m args below meth c T locs cells slots) (hx : p.tables.exec = Jvm.exec) {pc q : Nat} {Ls : Array Slot} {S : List Value} {k : Nat} {v : Value} {L' : Array Slot} (hd : decode c.code pc = .ok (.astore k, 2)) (hq : pc + 2 = q) (hv : v.isRef = true) (hl : storeLocals Ls k v = some L') (k : ownEnds p e below s Q ck sk T (mkF m q L' S)) : ownEnds p e below s Q ck sk T (mkF m pc Ls (v :: S)) := by
  subst hq
  exact ownGo (fun _ k => XS.astore X.here hx rfl hd rfl hv hl k) k
theorem ow_iconst (X : Stand p l e R s m args below meth c T locs cells slots) (hx : p.tables.exec = Jvm.exec) {pc q : Nat} {Ls : Array Slot} {S : List Value} {i : Int} (v : Int32) (hd : decode c.code pc = .ok (.iconst i, 1)) (hq : pc + 1 = q) (hz : Int32.ofInt i = v) (k : ownEnds p e below s Q ck sk T (mkF m q Ls (.int v :: S))) : ownEnds p e below s Q ck sk T (mkF m pc Ls S) := by
  subst hq hz
  exact ownGo (fun _ k => XS.iconst X.here hx rfl hd k) k
theorem ow_bipush (X : Stand p l e R s m args below meth c T locs cells slots) (hx : p.tables.exec = Jvm.exec) {pc q : Nat} {Ls : Array Slot} {S : List Value} {i : Int} (v : Int32) (hd : decode c.code pc = .ok (.bipush i, 2)) (hq : pc + 2 = q) (hz : (Int8.ofInt i).toInt32 = v) (k : ownEnds p e below s Q ck sk T (mkF m q Ls (.int v :: S))) : ownEnds p e below s Q ck sk T (mkF m pc Ls S) := by
  subst hq hz
  exact ownGo (fun _ k => XS.bipush X.here hx rfl hd k) k
theorem ow_iadd (X : Stand p l e R s m args below meth c T locs cells slots) (hx : p.tables.exec = Jvm.exec) {pc q : Nat} {Ls : Array Slot} {S : List Value} {x y : Int32} (z : Int32) (hd : decode c.code pc = .ok (.iadd, 1)) (hq : pc + 1 = q) (hz : x + y = z) (k : ownEnds p e below s Q ck sk T (mkF m q Ls (.int z :: S))) : ownEnds p e below s Q ck sk T (mkF m pc Ls (.int y :: .int x :: S)) := by
  subst hq hz
  exact ownGo (fun _ k => XS.iadd X.here hx rfl hd rfl k) k
theorem ow_isub (X : Stand p l e R s m args below meth c T locs cells slots) (hx : p.tables.exec = Jvm.exec) {pc q : Nat} {Ls : Array Slot} {S : List Value} {x y : Int32} (z : Int32) (hd : decode c.code pc = .ok (.isub, 1)) (hq : pc + 1 = q) (hz : x - y = z) (k : ownEnds p e below s Q ck sk T (mkF m q Ls (.int z :: S))) : ownEnds p e below s Q ck sk T (mkF m pc Ls (.int y :: .int x :: S)) := by
  subst hq hz
  exact ownGo (fun _ k => XS.isub X.here hx rfl hd rfl k) k
theorem ow_iand (X : Stand p l e R s m args below meth c T locs cells slots) (hx : p.tables.exec = Jvm.exec) {pc q : Nat} {Ls : Array Slot} {S : List Value} {x y : Int32} (z : Int32) (hd : decode c.code pc = .ok (.iand, 1)) (hq : pc + 1 = q) (hz : x &&& y = z) (k : ownEnds p e below s Q ck sk T (mkF m q Ls (.int z :: S))) : ownEnds p e below s Q ck sk T (mkF m pc Ls (.int y :: .int x :: S)) := by
  subst hq hz
  exact ownGo (fun _ k => XS.iand X.here hx rfl hd rfl k) k
theorem ow_iushr (X : Stand p l e R s m args below meth c T locs cells slots) (hx : p.tables.exec = Jvm.exec) {pc q : Nat} {Ls : Array Slot} {S : List Value} {x y : Int32} (z : Int32) (hd : decode c.code pc = .ok (.iushr, 1)) (hq : pc + 1 = q) (hz : (x.toUInt32 >>> (y &&& 31).toUInt32).toInt32 = z) (k : ownEnds p e below s Q ck sk T (mkF m q Ls (.int z :: S))) : ownEnds p e below s Q ck sk T (mkF m pc Ls (.int y :: .int x :: S)) := by
  subst hq hz
  exact ownGo (fun _ k => XS.iushr X.here hx rfl hd rfl k) k
theorem ow_irem (X : Stand p l e R s m args below meth c T locs cells slots) (hx : p.tables.exec = Jvm.exec) {pc q : Nat} {Ls : Array Slot} {S : List Value} {x y : Int32} (z : Int32) (hd : decode c.code pc = .ok (.irem, 1)) (hq : pc + 1 = q) (hy : y ≠ 0) (hz : x % y = z) (k : ownEnds p e below s Q ck sk T (mkF m q Ls (.int z :: S))) : ownEnds p e below s Q ck sk T (mkF m pc Ls (.int y :: .int x :: S)) := by
  subst hq hz
  exact ownGo (fun _ k => iremM X hx rfl hd rfl hy k) k
theorem ow_iinc (X : Stand p l e R s m args below meth c T locs cells slots) (hx : p.tables.exec = Jvm.exec) {pc q : Nat} {Ls : Array Slot} {S : List Value} {k : Nat} {i : Int} {x : Int32} {L' : Array Slot} (hd : decode c.code pc = .ok (.iinc k i, 3)) (hq : pc + 3 = q) (hl : Ls[k]? = some (.val (.int x))) (hl' : storeLocals Ls k (.int (x + Int32.ofInt i)) = some L') (k : ownEnds p e below s Q ck sk T (mkF m q L' S)) : ownEnds p e below s Q ck sk T (mkF m pc Ls S) := by
  subst hq
  exact ownGo (fun _ k => XS.iinc X.here hx rfl hd hl hl' k) k
theorem ow_dup (X : Stand p l e R s m args below meth c T locs cells slots) (hx : p.tables.exec = Jvm.exec) {pc q : Nat} {Ls : Array Slot} {S : List Value} {v : Value} (hd : decode c.code pc = .ok (.dup, 1)) (hq : pc + 1 = q) (hc : v.category = 1) (k : ownEnds p e below s Q ck sk T (mkF m q Ls (v :: v :: S))) : ownEnds p e below s Q ck sk T (mkF m pc Ls (v :: S)) := by
  subst hq
  exact ownGo (fun _ k => XS.dup X.here hx rfl hd rfl hc k) k
theorem ow_dupX1 (X : Stand p l e R s m args below meth c T locs cells slots) (hx : p.tables.exec = Jvm.exec) {pc q : Nat} {Ls : Array Slot} {S : List Value} {v w : Value} (hd : decode c.code pc = .ok (.dup_x1, 1)) (hq : pc + 1 = q) (hc : v.category = 1) (hc' : w.category = 1) (k : ownEnds p e below s Q ck sk T (mkF m q Ls (v :: w :: v :: S))) : ownEnds p e below s Q ck sk T (mkF m pc Ls (v :: w :: S)) := by
  subst hq
  exact ownGo (fun _ k => XS.dupX1 X.here hx rfl hd rfl hc hc' k) k
theorem ow_goto (X : Stand p l e R s m args below meth c T locs cells slots) (hx : p.tables.exec = Jvm.exec) {pc q : Nat} {Ls : Array Slot} {S : List Value} {o : Int} (hd : decode c.code pc = .ok (.goto o, 3)) (ho : 0 ≤ (pc : Int) + o) (hp : ((pc : Int) + o).toNat = q) (k : ownEnds p e below s Q ck sk T (mkF m q Ls S)) : ownEnds p e below s Q ck sk T (mkF m pc Ls S) :=
  ownGo (fun _ k => XS.goto X.here hx rfl rfl hd ho hp k) k
theorem ow_ifYes (X : Stand p l e R s m args below meth c T locs cells slots) (hx : p.tables.exec = Jvm.exec) {pc q : Nat} {Ls : Array Slot} {S : List Value} {cd : ClassFile.Cond} {o : Int} {x : Int32} (hd : decode c.code pc = .ok (.ifCond cd o, 3)) (hc : ifCond.holds cd x = true) (ho : 0 ≤ (pc : Int) + o) (hp : ((pc : Int) + o).toNat = q) (k : ownEnds p e below s Q ck sk T (mkF m q Ls S)) : ownEnds p e below s Q ck sk T (mkF m pc Ls (.int x :: S)) :=
  ownGo (fun _ k => XS.ifYes X.here hx rfl rfl hd rfl hc ho hp k) k
theorem ow_ifNo (X : Stand p l e R s m args below meth c T locs cells slots) (hx : p.tables.exec = Jvm.exec) {pc q : Nat} {Ls : Array Slot} {S : List Value} {cd : ClassFile.Cond} {o : Int} {x : Int32} (hd : decode c.code pc = .ok (.ifCond cd o, 3)) (hq : pc + 3 = q) (hc : ifCond.holds cd x = false) (k : ownEnds p e below s Q ck sk T (mkF m q Ls S)) : ownEnds p e below s Q ck sk T (mkF m pc Ls (.int x :: S)) := by
  subst hq
  exact ownGo (fun _ k => XS.ifNo X.here hx rfl hd rfl hc k) k
theorem ow_icmpYes (X : Stand p l e R s m args below meth c T locs cells slots) (hx : p.tables.exec = Jvm.exec) {pc q : Nat} {Ls : Array Slot} {S : List Value} {cd : ClassFile.Cond} {o : Int} {x y : Int32} (hd : decode c.code pc = .ok (.if_icmp cd o, 3)) (hc : if_icmp.holds cd x y = true) (ho : 0 ≤ (pc : Int) + o) (hp : ((pc : Int) + o).toNat = q) (k : ownEnds p e below s Q ck sk T (mkF m q Ls S)) : ownEnds p e below s Q ck sk T (mkF m pc Ls (.int y :: .int x :: S)) :=
  ownGo (fun _ k => XS.icmpYes X.here hx rfl rfl hd rfl hc ho hp k) k
theorem ow_icmpNo (X : Stand p l e R s m args below meth c T locs cells slots) (hx : p.tables.exec = Jvm.exec) {pc q : Nat} {Ls : Array Slot} {S : List Value} {cd : ClassFile.Cond} {o : Int} {x y : Int32} (hd : decode c.code pc = .ok (.if_icmp cd o, 3)) (hq : pc + 3 = q) (hc : if_icmp.holds cd x y = false) (k : ownEnds p e below s Q ck sk T (mkF m q Ls S)) : ownEnds p e below s Q ck sk T (mkF m pc Ls (.int y :: .int x :: S)) := by
  subst hq
  exact ownGo (fun _ k => XS.icmpNo X.here hx rfl hd rfl hc k) k
end OwnSteps
def own_id : Nat → Int32 := fun i => Int32.ofNat i
def own_swD (gd : Nat → Int32) (a b : Int32) : Nat → Int32 := ownUpd (ownUpd gd a.toNatClampNeg (gd b.toNatClampNeg)) b.toNatClampNeg (gd a.toNatClampNeg)
def own_swQ (gd gq : Nat → Int32) (a b : Int32) : Nat → Int32 := ownUpd (ownUpd gq (gd a.toNatClampNeg).toNatClampNeg b) (gd b.toNatClampNeg).toNatClampNeg a
def own_rg (N : Nat) (g : Nat → Int32) : Prop := ∀ i, i < N → 0 ≤ (g i).toInt ∧ (g i).toInt < N
theorem own_inv {j : Int32} {n : Nat} (h : ownIn j n) : 0 ≤ j.toInt ∧ j.toInt < n ∧ j.toNatClampNeg < n := by
  unfold ownIn at h
  have h1 : ¬ j < 0 := fun q => h (Or.inl q)
  have h2 : ¬ n ≤ j.toNatClampNeg := fun q => h (Or.inr q)
  rw [Int32.lt_iff_toInt_lt] at h1
  simp only [Int32.reduceToInt] at h1
  have h3 : (j.toNatClampNeg : Int) = j.toInt := by simp only [Int32.toNatClampNeg]; omega
  omega
theorem own_rgi {N : Nat} {g : Nat → Int32} {a : Int32} (r : own_rg N g) (h : ownIn a N) : ownIn (g a.toNatClampNeg) N := by
  have := r _ (own_inv h).2.2
  exact ownIn_of this.1 this.2
theorem own_pos {N : Nat} {g : Nat → Int32} {a v : Int32} (r : own_rg N g) (h : ownIn a N) (e : g a.toNatClampNeg = v) : ownIn v N := e ▸ own_rgi r h
theorem own_last {N : Nat} {s v l : Int32} (hs : 1 ≤ s.toInt ∧ s.toInt ≤ N) (e : s = v) (el : (v - (1 : Int32)) = l) : ownIn l N := by
  subst e
  have := Jvm.Kit.i32_sub (p := s) (q := 1) (by simp only [Int32.reduceToInt]; omega) (by have := s.toInt_lt; simp only [Int32.reduceToInt]; omega)
  rw [el] at this
  simp only [Int32.reduceToInt] at this
  exact ownIn_of (by omega) (by omega)
theorem own_z {N : Nat} {s : Int32} (hs : 1 ≤ s.toInt ∧ s.toInt ≤ N) : ownIn (0 : Int32) N := ownIn_of (by decide) (by simp only [Int32.reduceToInt]; omega)
theorem own_rg_swD {N : Nat} {gd : Nat → Int32} {a b : Int32} (r : own_rg N gd) (ha : ownIn a N) (hb : ownIn b N) : own_rg N (own_swD gd a b) := by
  intro i hi
  unfold own_swD ownUpd
  split
  · exact r _ (own_inv ha).2.2
  · split
    · exact r _ (own_inv hb).2.2
    · exact r i hi
theorem own_rg_swQ {N : Nat} {gd gq : Nat → Int32} {a b : Int32} (r : own_rg N gq) (ha : ownIn a N) (hb : ownIn b N) : own_rg N (own_swQ gd gq a b) := by
  intro i hi
  unfold own_swQ ownUpd
  split
  · exact ⟨(own_inv ha).1, (own_inv ha).2.1⟩
  · split
    · exact ⟨(own_inv hb).1, (own_inv hb).2.1⟩
    · exact r i hi
theorem own_idv {i : Nat} (h : i < 100) : (own_id i).toInt = i := by
  unfold own_id
  rw [Int32.toInt_ofNat_of_lt (by omega)]
theorem own_idn {a : Int32} (h : 0 ≤ a.toInt) : own_id a.toNatClampNeg = a := by
  apply Int32.toInt_inj.mp
  unfold own_id
  have := a.toInt_lt
  rw [Int32.toInt_ofNat_of_lt (by simp only [Int32.toNatClampNeg]; omega)]
  simp only [Int32.toNatClampNeg]
  omega
theorem own_nn {z : Int32} (h : 0 ≤ z.toInt ∧ z.toInt ≤ 5) : ¬ z < 0 := by rw [Int32.lt_iff_toInt_lt]; simp only [Int32.reduceToInt]; omega
theorem own_c5 {z : Int32} (h : 0 ≤ z.toInt ∧ z.toInt ≤ 5) : z.toNatClampNeg ≤ 5 := by simp only [Int32.toNatClampNeg]; omega
theorem own_b0 {z : Int32} (h : 0 ≤ z.toInt ∧ z.toInt ≤ 5) : 0 ≤ (0 : Int32).toInt ∧ (0 : Int32).toInt ≤ z.toInt ∧ z.toInt ≤ 5 := by simp only [Int32.reduceToInt]; omega
theorem own_ij {j z : Int32} (h : 0 ≤ j.toInt ∧ j.toInt ≤ z.toInt ∧ z.toInt ≤ 5) (hc : j < z) : ownIn j (z.toNatClampNeg) := by
  rw [Int32.lt_iff_toInt_lt] at hc
  exact ownIn_of h.1 (by simp only [Int32.toNatClampNeg]; omega)
theorem own_jn {j z v : Int32} (h : 0 ≤ j.toInt ∧ j.toInt ≤ z.toInt ∧ z.toInt ≤ 5) (e : (j + (1 : Int32)) = v) (hc : j < z) : v.toInt = j.toInt + 1 := by
  rw [Int32.lt_iff_toInt_lt] at hc
  rw [← e, Jvm.Kit.i32_add (by simp only [Int32.reduceToInt]; omega) (by simp only [Int32.reduceToInt]; omega)]
  simp only [Int32.reduceToInt]
theorem own_tm {j z v : Int32} {k : Nat} (hm : z.toInt.toNat - j.toInt.toNat < k + 1) (h : 0 ≤ j.toInt ∧ j.toInt ≤ z.toInt ∧ z.toInt ≤ 5) (e : (j + (1 : Int32)) = v) (hc : j < z) : z.toInt.toNat - v.toInt.toNat < k := by
  have := own_jn h e hc
  rw [Int32.lt_iff_toInt_lt] at hc
  omega
theorem own_tb {j z v : Int32} (h : 0 ≤ j.toInt ∧ j.toInt ≤ z.toInt ∧ z.toInt ≤ 5) (e : (j + (1 : Int32)) = v) (hc : j < z) : 0 ≤ v.toInt ∧ v.toInt ≤ z.toInt ∧ z.toInt ≤ 5 := by
  have := own_jn h e hc
  rw [Int32.lt_iff_toInt_lt] at hc
  omega
theorem own_tp {j z v : Int32} {gD gQ gD' gQ' : Nat → Int32} (hp : ∀ i, i < j.toNatClampNeg → gD i = own_id i ∧ gQ i = own_id i) (h : 0 ≤ j.toInt ∧ j.toInt ≤ z.toInt ∧ z.toInt ≤ 5) (e : (j + (1 : Int32)) = v) (e1 : ownUpd gD j.toNatClampNeg j = gD') (e2 : ownUpd gQ j.toNatClampNeg j = gQ') (hc : j < z) : ∀ i, i < v.toNatClampNeg → gD' i = own_id i ∧ gQ' i = own_id i := by
  intro i hi
  have h1 := own_jn h e hc
  have h2 : (v.toNatClampNeg : Int) = v.toInt := by simp only [Int32.toNatClampNeg]; omega
  have h3 : (j.toNatClampNeg : Int) = j.toInt := by simp only [Int32.toNatClampNeg]; omega
  subst e1 e2
  by_cases q : i = j.toNatClampNeg
  · subst q
    rw [ownUpd_same, ownUpd_same, own_idn h.1]
    exact ⟨rfl, rfl⟩
  · rw [ownUpd_ne _ _ q, ownUpd_ne _ _ q]
    exact hp i (by omega)
theorem own_te {j z : Int32} {i : Nat} (h : 0 ≤ j.toInt ∧ j.toInt ≤ z.toInt ∧ z.toInt ≤ 5) (hc : ¬ j < z) (hi : i < z.toNatClampNeg) : i < j.toNatClampNeg := by
  rw [Int32.lt_iff_toInt_lt] at hc
  simp only [Int32.toNatClampNeg] at hi ⊢
  omega
theorem own_and3 {p v : Int32} (h : (p &&& (3 : Int32)) = v) : v = (0 : Int32) ∨ v = (1 : Int32) ∨ v = (2 : Int32) ∨ v = (3 : Int32) := by
  have h1 := Jvm.Kit.i32_mask p 3 (k := 2) (by decide) (by decide)
  rw [h] at h1
  simp only [← Int32.toInt_inj, Int32.reduceToInt]
  omega
theorem own_n0 {p v : Int32} (h : ((2 : Int32) + (p &&& (3 : Int32))) = v) : 2 ≤ v.toInt ∧ v.toInt ≤ 5 := by
  have h1 := Jvm.Kit.i32_mask p 3 (k := 2) (by decide) (by decide)
  have h2 := Jvm.Kit.i32_add (p := 2) (q := p &&& (3 : Int32)) (by simp only [Int32.reduceToInt]; omega) (by simp only [Int32.reduceToInt]; omega)
  rw [h, h1] at h2
  simp only [Int32.reduceToInt] at h2
  omega
theorem own_n1 {p v : Int32} (h : ((1 : Int32) + (p &&& (3 : Int32))) = v) : 1 ≤ v.toInt ∧ v.toInt ≤ 4 := by
  have h1 := Jvm.Kit.i32_mask p 3 (k := 2) (by decide) (by decide)
  have h2 := Jvm.Kit.i32_add (p := 1) (q := p &&& (3 : Int32)) (by simp only [Int32.reduceToInt]; omega) (by simp only [Int32.reduceToInt]; omega)
  rw [h, h1] at h2
  simp only [Int32.reduceToInt] at h2
  omega
theorem own_h0 {p v : Int32} (h : ((2 : Int32) + (p &&& (3 : Int32))) = v) : 0 ≤ v.toInt ∧ v.toInt ≤ 5 := by have := own_n0 h; omega
theorem own_h1 {p v : Int32} (h : ((1 : Int32) + (p &&& (3 : Int32))) = v) : 0 ≤ v.toInt ∧ v.toInt ≤ 5 := by have := own_n1 h; omega
theorem own_z0 {p v : Int32} (h : ((2 : Int32) + (p &&& (3 : Int32))) = v) : v ≠ 0 := by intro q; have := own_n0 h; rw [q] at this; simp only [Int32.reduceToInt] at this; omega
theorem own_z1 {p v : Int32} (h : ((1 : Int32) + (p &&& (3 : Int32))) = v) : v ≠ 0 := by intro q; have := own_n1 h; rw [q] at this; simp only [Int32.reduceToInt] at this; omega
theorem own_m1 {p v : Int32} (h : ((2 : Int32) + (p &&& (3 : Int32))) = v) : (v - (1 : Int32)).toInt = v.toInt - 1 := by
  have := own_n0 h
  rw [Jvm.Kit.i32_sub (by simp only [Int32.reduceToInt]; omega) (by simp only [Int32.reduceToInt]; omega)]
  simp only [Int32.reduceToInt]
theorem own_z0m {p v : Int32} (h : ((2 : Int32) + (p &&& (3 : Int32))) = v) : (v - (1 : Int32)) ≠ 0 := by
  intro q; have h1 := own_m1 h; have h2 := own_n0 h; rw [q] at h1; simp only [Int32.reduceToInt] at h1; omega
theorem own_nat {v : Int32} (h : 0 ≤ v.toInt) : (v.toNatClampNeg : Int) = v.toInt := by simp only [Int32.toNatClampNeg]; omega
theorem own_rem {a m v : Int32} (h : (a &&& (2147483647 : Int32)) % m = v) (hm : 0 < m.toInt) : 0 ≤ v.toInt ∧ v.toInt < m.toInt := by
  have h1 := Jvm.Kit.i32_mask a 2147483647 (k := 31) (by decide) (by decide)
  have h2 : 0 ≤ (a &&& (2147483647 : Int32)).toInt := by rw [h1]; exact Int.emod_nonneg _ (by decide)
  rw [← h, Jvm.Kit.i32_rem_nonneg h2]
  exact ⟨Int.emod_nonneg _ (by omega), Int.emod_lt_of_pos _ hm⟩
theorem own_v0 {p a n v : Int32} (h : ((2 : Int32) + (p &&& (3 : Int32))) = n) (e : ((a &&& (2147483647 : Int32)) % n) = v) : ownIn v (n.toNatClampNeg) := by
  have h1 := own_n0 h
  have h2 := own_rem e (by omega)
  exact ownIn_of h2.1 (by rw [own_nat (by omega)]; exact h2.2)
theorem own_v1 {p a n v : Int32} (h : ((1 : Int32) + (p &&& (3 : Int32))) = n) (e : ((a &&& (2147483647 : Int32)) % n) = v) : ownIn v (n.toNatClampNeg) := by
  have h1 := own_n1 h
  have h2 := own_rem e (by omega)
  exact ownIn_of h2.1 (by rw [own_nat (by omega)]; exact h2.2)
theorem own_w {p a b n v w : Int32} (h : ((2 : Int32) + (p &&& (3 : Int32))) = n) (e : ((a &&& (2147483647 : Int32)) % n) = v) (e2 : (((v + (1 : Int32)) + ((b &&& (2147483647 : Int32)) % (n - (1 : Int32)))) % n) = w) : ownIn w (n.toNatClampNeg) ∧ w ≠ v := by
  have h1 := own_n0 h
  have h2 := own_rem e (by omega)
  have h3 := own_m1 h
  have h4 := own_rem (a := b) (m := n - (1 : Int32)) rfl (by omega)
  rw [h3] at h4
  have h5 := Jvm.Kit.i32_add (p := v) (q := 1) (by simp only [Int32.reduceToInt]; omega) (by simp only [Int32.reduceToInt]; omega)
  simp only [Int32.reduceToInt] at h5
  have h6 := Jvm.Kit.i32_add (p := v + (1 : Int32)) (q := (b &&& (2147483647 : Int32)) % (n - (1 : Int32))) (by omega) (by omega)
  have h7 := Jvm.Kit.i32_rem_nonneg (x := (v + (1 : Int32)) + ((b &&& (2147483647 : Int32)) % (n - (1 : Int32)))) (y := n) (by omega)
  rw [e2, h6, h5] at h7
  generalize ((b &&& (2147483647 : Int32)) % (n - (1 : Int32))).toInt = r at *
  have h8 : (v.toInt + 1 + r) % n.toInt = if v.toInt + 1 + r < n.toInt then v.toInt + 1 + r else v.toInt + 1 + r - n.toInt := by
    split
    · rw [Int.emod_eq_of_lt (by omega) (by assumption)]
    · rw [← Int.sub_emod_right, Int.emod_eq_of_lt (by omega) (by omega)]
  rw [h8] at h7
  constructor
  · refine ownIn_of ?_ ?_
    · split at h7 <;> omega
    · rw [own_nat (by omega)]; split at h7 <;> omega
  · intro q
    rw [q] at h7
    split at h7 <;> omega
theorem own_s0 {p n : Int32} (h : ((2 : Int32) + (p &&& (3 : Int32))) = n) : 1 ≤ n.toInt ∧ n.toInt ≤ (n.toNatClampNeg : Nat) := by
  have := own_n0 h; rw [own_nat (by omega)]; omega
theorem own_s1 {p n : Int32} (h : ((1 : Int32) + (p &&& (3 : Int32))) = n) : 1 ≤ n.toInt ∧ n.toInt ≤ (n.toNatClampNeg : Nat) := by
  have := own_n1 h; rw [own_nat (by omega)]; omega
theorem own_s0m {p n : Int32} (h : ((2 : Int32) + (p &&& (3 : Int32))) = n) : 1 ≤ (n - (1 : Int32)).toInt ∧ (n - (1 : Int32)).toInt ≤ (n.toNatClampNeg : Nat) := by
  have := own_n0 h; rw [own_nat (by omega), own_m1 h]; omega
theorem own_o1 {n : Int32} (h : 1 ≤ n.toInt ∧ n.toInt ≤ (n.toNatClampNeg : Nat)) : 1 ≤ (1 : Int32).toInt ∧ (1 : Int32).toInt ≤ (n.toNatClampNeg : Nat) := by
  simp only [Int32.reduceToInt]; omega
theorem own_rg_id {z : Int32} : own_rg (z.toNatClampNeg) own_id := by
  intro i hi
  have h1 := z.toInt_lt
  have h2 : i < 2147483648 := by simp only [Int32.toNatClampNeg] at hi; omega
  unfold own_id
  rw [Int32.toInt_ofNat_of_lt (by omega)]
  omega
theorem own_posid {a : Int32} {n : Nat} (h : ownIn a n) : ownIn (own_id a.toNatClampNeg) n := by rw [own_idn (own_inv h).1]; exact h
theorem own_lastid {n : Int32} (h : 1 ≤ n.toInt ∧ n.toInt ≤ (n.toNatClampNeg : Nat)) : ownIn (n - (1 : Int32)) (n.toNatClampNeg) := own_last h rfl rfl
theorem own_t0 {p a n v : Int32} (h : ((2 : Int32) + (p &&& (3 : Int32))) = n) (e : ((a &&& (2147483647 : Int32)) % n) = v) : own_id v.toNatClampNeg < n := by
  have h1 := own_n0 h
  have h2 := own_rem e (by omega)
  rw [own_idn h2.1, Int32.lt_iff_toInt_lt]
  exact h2.2
theorem own_t1 {p a b n v w : Int32} (h : ((2 : Int32) + (p &&& (3 : Int32))) = n) (e : ((a &&& (2147483647 : Int32)) % n) = v) (e2 : (((v + (1 : Int32)) + ((b &&& (2147483647 : Int32)) % (n - (1 : Int32)))) % n) = w) : own_swQ own_id own_id (own_id w.toNatClampNeg) (n - (1 : Int32)) v.toNatClampNeg < n := by
  have h1 := own_n0 h
  have r := own_rg_swQ (gd := own_id) (own_rg_id (z := n)) (own_posid (own_w h e e2).1) (own_lastid (own_s0 h)) v.toNatClampNeg (own_inv (own_v0 h e)).2.2
  rw [Int32.lt_iff_toInt_lt]
  rw [own_nat (by omega)] at r
  exact r.2
theorem own_fk0 : ∀ n : Fin 6, ∀ v : Fin 6, 2 ≤ n.val → v.val < n.val → own_swQ own_id own_id (own_id (Int32.ofNat v.val).toNatClampNeg) (Int32.ofNat n.val - (1 : Int32)) (Int32.ofNat v.val).toNatClampNeg = (Int32.ofNat n.val - (1 : Int32)) := by decide +kernel
theorem own_fk1 : ∀ n : Fin 6, ∀ v : Fin 6, ∀ w : Fin 6, 2 ≤ n.val → v.val < n.val → w.val < n.val → w ≠ v → own_swQ (own_swD own_id (own_id (Int32.ofNat v.val).toNatClampNeg) (Int32.ofNat n.val - (1 : Int32))) (own_swQ own_id own_id (own_id (Int32.ofNat v.val).toNatClampNeg) (Int32.ofNat n.val - (1 : Int32))) (own_swQ own_id own_id (own_id (Int32.ofNat v.val).toNatClampNeg) (Int32.ofNat n.val - (1 : Int32)) (Int32.ofNat w.val).toNatClampNeg) ((Int32.ofNat n.val - (1 : Int32)) - (1 : Int32)) (Int32.ofNat v.val).toNatClampNeg = (Int32.ofNat n.val - (1 : Int32)) := by decide +kernel
theorem own_small {p : Int32} {n : Nat} (h1 : 0 ≤ p.toInt) (h2 : p.toInt < n) (hn : n ≤ 2147483648) : ∃ k : Fin n, p = Int32.ofNat k.val ∧ p.toInt = k.val := by
  have e : p = Int32.ofNat p.toInt.toNat := by
    apply Int32.toInt_inj.mp
    rw [Int32.toInt_ofNat_of_lt (by omega)]
    omega
  exact ⟨⟨p.toInt.toNat, by omega⟩, e, by simp only; omega⟩
theorem own_f0 {p a n v : Int32} (h : ((2 : Int32) + (p &&& (3 : Int32))) = n) (e : ((a &&& (2147483647 : Int32)) % n) = v) : ¬ own_swQ own_id own_id (own_id v.toNatClampNeg) (n - (1 : Int32)) v.toNatClampNeg < (n - (1 : Int32)) := by
  have h1 := own_n0 h
  have h2 := own_rem e (by omega)
  clear h e
  obtain ⟨kn, rfl, en⟩ := own_small (p := n) (n := 6) (by omega) (by omega) (by decide)
  obtain ⟨kv, rfl, ev⟩ := own_small (p := v) (n := 6) (by omega) (by omega) (by decide)
  rw [own_fk0 kn kv (by omega) (by omega)]
  exact Int32.lt_irrefl
theorem own_f1 {p a b n v w : Int32} (h : ((2 : Int32) + (p &&& (3 : Int32))) = n) (e : ((a &&& (2147483647 : Int32)) % n) = v) (e2 : (((v + (1 : Int32)) + ((b &&& (2147483647 : Int32)) % (n - (1 : Int32)))) % n) = w) : ¬ own_swQ (own_swD own_id (own_id v.toNatClampNeg) (n - (1 : Int32))) (own_swQ own_id own_id (own_id v.toNatClampNeg) (n - (1 : Int32))) (own_swQ own_id own_id (own_id v.toNatClampNeg) (n - (1 : Int32)) w.toNatClampNeg) ((n - (1 : Int32)) - (1 : Int32)) v.toNatClampNeg < (n - (1 : Int32)) := by
  have h1 := own_n0 h
  have h2 := own_rem e (by omega)
  have h3 := own_w h e e2
  have h4 := own_inv h3.1
  have h5 := h3.2
  rw [own_nat (by omega)] at h4
  clear h e e2 h3
  obtain ⟨kn, rfl, en⟩ := own_small (p := n) (n := 6) (by omega) (by omega) (by decide)
  obtain ⟨kv, rfl, ev⟩ := own_small (p := v) (n := 6) (by omega) (by omega) (by decide)
  obtain ⟨kw, rfl, ew⟩ := own_small (p := w) (n := 6) (by omega) (by omega) (by decide)
  rw [own_fk1 kn kv kw (by omega) (by omega) (by omega) (fun q => h5 (by rw [q]))]
  exact Int32.lt_irrefl
theorem own_pn_CurrentDomains : plainName "com/example/sieveline/sieveline/model/CurrentDomains" = true := by first | (simp [plainName, overriddenIn]; done) | decide +kernel
theorem own_d1_0 : decode prog_10_method_1_code 0 = .ok (.aload_n 0, 1) := by decide +kernel
theorem own_d1_1 : decode prog_10_method_1_code 1 = .ok (.invokespecial 1, 3) := by decide +kernel
theorem own_d1_4 : decode prog_10_method_1_code 4 = .ok (.aload_n 0, 1) := by decide +kernel
theorem own_d1_5 : decode prog_10_method_1_code 5 = .ok (.bipush 64, 2) := by decide +kernel
theorem own_d1_7 : decode prog_10_method_1_code 7 = .ok (.newarray .int, 2) := by decide +kernel
theorem own_d1_9 : decode prog_10_method_1_code 9 = .ok (.putfield 7, 3) := by decide +kernel
theorem own_d1_12 : decode prog_10_method_1_code 12 = .ok (.aload_n 0, 1) := by decide +kernel
theorem own_d1_13 : decode prog_10_method_1_code 13 = .ok (.aload_n 1, 1) := by decide +kernel
theorem own_d1_14 : decode prog_10_method_1_code 14 = .ok (.invokevirtual 13, 3) := by decide +kernel
theorem own_d1_17 : decode prog_10_method_1_code 17 = .ok (.checkcast 14, 3) := by decide +kernel
theorem own_d1_20 : decode prog_10_method_1_code 20 = .ok (.putfield 18, 3) := by decide +kernel
theorem own_d1_23 : decode prog_10_method_1_code 23 = .ok (.aload_n 0, 1) := by decide +kernel
theorem own_d1_24 : decode prog_10_method_1_code 24 = .ok (.aload_n 1, 1) := by decide +kernel
theorem own_d1_25 : decode prog_10_method_1_code 25 = .ok (.arraylength, 1) := by decide +kernel
theorem own_d1_26 : decode prog_10_method_1_code 26 = .ok (.anewarray 14, 3) := by decide +kernel
theorem own_d1_29 : decode prog_10_method_1_code 29 = .ok (.putfield 21, 3) := by decide +kernel
theorem own_d1_32 : decode prog_10_method_1_code 32 = .ok (.aload_n 0, 1) := by decide +kernel
theorem own_d1_33 : decode prog_10_method_1_code 33 = .ok (.aload_n 1, 1) := by decide +kernel
theorem own_d1_34 : decode prog_10_method_1_code 34 = .ok (.arraylength, 1) := by decide +kernel
theorem own_d1_35 : decode prog_10_method_1_code 35 = .ok (.anewarray 14, 3) := by decide +kernel
theorem own_d1_38 : decode prog_10_method_1_code 38 = .ok (.putfield 25, 3) := by decide +kernel
theorem own_d1_41 : decode prog_10_method_1_code 41 = .ok (.iconst 0, 1) := by decide +kernel
theorem own_d1_42 : decode prog_10_method_1_code 42 = .ok (.istore_n 2, 1) := by decide +kernel
theorem own_d1_43 : decode prog_10_method_1_code 43 = .ok (.iload_n 2, 1) := by decide +kernel
theorem own_d1_44 : decode prog_10_method_1_code 44 = .ok (.aload_n 1, 1) := by decide +kernel
theorem own_d1_45 : decode prog_10_method_1_code 45 = .ok (.arraylength, 1) := by decide +kernel
theorem own_d1_46 : decode prog_10_method_1_code 46 = .ok (.if_icmp .ge 64, 3) := by decide +kernel
theorem own_d1_49 : decode prog_10_method_1_code 49 = .ok (.aload_n 0, 1) := by decide +kernel
theorem own_d1_50 : decode prog_10_method_1_code 50 = .ok (.getfield 21, 3) := by decide +kernel
theorem own_d1_53 : decode prog_10_method_1_code 53 = .ok (.iload_n 2, 1) := by decide +kernel
theorem own_d1_54 : decode prog_10_method_1_code 54 = .ok (.aload_n 1, 1) := by decide +kernel
theorem own_d1_55 : decode prog_10_method_1_code 55 = .ok (.iload_n 2, 1) := by decide +kernel
theorem own_d1_56 : decode prog_10_method_1_code 56 = .ok (.iaload, 1) := by decide +kernel
theorem own_d1_57 : decode prog_10_method_1_code 57 = .ok (.newarray .int, 2) := by decide +kernel
theorem own_d1_59 : decode prog_10_method_1_code 59 = .ok (.aastore, 1) := by decide +kernel
theorem own_d1_60 : decode prog_10_method_1_code 60 = .ok (.aload_n 0, 1) := by decide +kernel
theorem own_d1_61 : decode prog_10_method_1_code 61 = .ok (.getfield 25, 3) := by decide +kernel
theorem own_d1_64 : decode prog_10_method_1_code 64 = .ok (.iload_n 2, 1) := by decide +kernel
theorem own_d1_65 : decode prog_10_method_1_code 65 = .ok (.aload_n 1, 1) := by decide +kernel
theorem own_d1_66 : decode prog_10_method_1_code 66 = .ok (.iload_n 2, 1) := by decide +kernel
theorem own_d1_67 : decode prog_10_method_1_code 67 = .ok (.iaload, 1) := by decide +kernel
theorem own_d1_68 : decode prog_10_method_1_code 68 = .ok (.newarray .int, 2) := by decide +kernel
theorem own_d1_70 : decode prog_10_method_1_code 70 = .ok (.aastore, 1) := by decide +kernel
theorem own_d1_71 : decode prog_10_method_1_code 71 = .ok (.iconst 0, 1) := by decide +kernel
theorem own_d1_72 : decode prog_10_method_1_code 72 = .ok (.istore_n 3, 1) := by decide +kernel
theorem own_d1_73 : decode prog_10_method_1_code 73 = .ok (.iload_n 3, 1) := by decide +kernel
theorem own_d1_74 : decode prog_10_method_1_code 74 = .ok (.aload_n 1, 1) := by decide +kernel
theorem own_d1_75 : decode prog_10_method_1_code 75 = .ok (.iload_n 2, 1) := by decide +kernel
theorem own_d1_76 : decode prog_10_method_1_code 76 = .ok (.iaload, 1) := by decide +kernel
theorem own_d1_77 : decode prog_10_method_1_code 77 = .ok (.if_icmp .ge 27, 3) := by decide +kernel
theorem own_d1_80 : decode prog_10_method_1_code 80 = .ok (.aload_n 0, 1) := by decide +kernel
theorem own_d1_81 : decode prog_10_method_1_code 81 = .ok (.getfield 21, 3) := by decide +kernel
theorem own_d1_84 : decode prog_10_method_1_code 84 = .ok (.iload_n 2, 1) := by decide +kernel
theorem own_d1_85 : decode prog_10_method_1_code 85 = .ok (.aaload, 1) := by decide +kernel
theorem own_d1_86 : decode prog_10_method_1_code 86 = .ok (.iload_n 3, 1) := by decide +kernel
theorem own_d1_87 : decode prog_10_method_1_code 87 = .ok (.iload_n 3, 1) := by decide +kernel
theorem own_d1_88 : decode prog_10_method_1_code 88 = .ok (.iastore, 1) := by decide +kernel
theorem own_d1_89 : decode prog_10_method_1_code 89 = .ok (.aload_n 0, 1) := by decide +kernel
theorem own_d1_90 : decode prog_10_method_1_code 90 = .ok (.getfield 25, 3) := by decide +kernel
theorem own_d1_93 : decode prog_10_method_1_code 93 = .ok (.iload_n 2, 1) := by decide +kernel
theorem own_d1_94 : decode prog_10_method_1_code 94 = .ok (.aaload, 1) := by decide +kernel
theorem own_d1_95 : decode prog_10_method_1_code 95 = .ok (.iload_n 3, 1) := by decide +kernel
theorem own_d1_96 : decode prog_10_method_1_code 96 = .ok (.iload_n 3, 1) := by decide +kernel
theorem own_d1_97 : decode prog_10_method_1_code 97 = .ok (.iastore, 1) := by decide +kernel
theorem own_d1_98 : decode prog_10_method_1_code 98 = .ok (.iinc 3 1, 3) := by decide +kernel
theorem own_d1_101 : decode prog_10_method_1_code 101 = .ok (.goto (-28), 3) := by decide +kernel
theorem own_d1_104 : decode prog_10_method_1_code 104 = .ok (.iinc 2 1, 3) := by decide +kernel
theorem own_d1_107 : decode prog_10_method_1_code 107 = .ok (.goto (-64), 3) := by decide +kernel
theorem own_d1_110 : decode prog_10_method_1_code 110 = .ok (.return_, 1) := by decide +kernel
theorem own_ef1_init (m : MethodId) (a0 : Addr) (a1 : Addr) : entryFrame m #[(.ref a0), (.ref a1)] 4 = mkF m 0 #[rv a0, rv a1, .unset, .unset] [] := by first | (simp [entryFrame, mkF, argsToLocals, Value.category]; done) | rfl
def Q_init (Z : State) (a0 : Addr) (a1 : Addr) (m0 : Int32) (m1 : Int32) (h0 : Heap) (n0 : Nat) (v : Option Value) (h : Heap) (L : List Loc) : Prop := ∃ (at_ : Addr) (as_ : Addr) (ad : Addr) (ap : Addr) (d0 : Addr) (q0 : Addr) (d1 : Addr) (q1 : Addr) (kd : ClassId) (kp : ClassId), v = none ∧ Fr n0 L ∧ Keep h0 h [a0] ∧ h0.size ≤ at_ ∧ h0.size ≤ as_ ∧ h0.size ≤ ad ∧ h0.size ≤ ap ∧ h0.size ≤ d0 ∧ h0.size ≤ q0 ∧ h0.size ≤ d1 ∧ h0.size ≤ q1 ∧ Exa Z h a0 "com/example/sieveline/sieveline/model/CurrentDomains" ∧ Fld Z h a0 "com/example/sieveline/sieveline/model/CurrentDomains" "trail" "[I" (.ref at_) ∧ Fld Z h a0 "com/example/sieveline/sieveline/model/CurrentDomains" "size" "[I" (.ref as_) ∧ Fld Z h a0 "com/example/sieveline/sieveline/model/CurrentDomains" "dense" "[[I" (.ref ad) ∧ Fld Z h a0 "com/example/sieveline/sieveline/model/CurrentDomains" "position" "[[I" (.ref ap) ∧ Fld Z h a0 "com/example/sieveline/sieveline/model/CurrentDomains" "top" "I" (.int (0 : Int32)) ∧ ownAI Z h at_ .int 64 (fun _ => (0 : Int32)) ∧ ownAI Z h as_ .int 2 (ownUpd (ownUpd (fun _ => (0 : Int32)) 0 m0) 1 m1) ∧ ownAR Z h ad kd 2 (ownUpd (ownUpd (fun _ => Value.null) 0 (.ref d0)) 1 (.ref d1)) ∧ ownAR Z h ap kp 2 (ownUpd (ownUpd (fun _ => Value.null) 0 (.ref q0)) 1 (.ref q1)) ∧ ownAI Z h d0 .int (m0.toNatClampNeg) own_id ∧ ownAI Z h q0 .int (m0.toNatClampNeg) own_id ∧ ownAI Z h d1 .int (m1.toNatClampNeg) own_id ∧ ownAI Z h q1 .int (m1.toNatClampNeg) own_id ∧ (at_ ≠ as_ ∧ at_ ≠ ad ∧ at_ ≠ ap ∧ at_ ≠ d0 ∧ at_ ≠ q0 ∧ at_ ≠ d1 ∧ at_ ≠ q1 ∧ as_ ≠ ad ∧ as_ ≠ ap ∧ as_ ≠ d0 ∧ as_ ≠ q0 ∧ as_ ≠ d1 ∧ as_ ≠ q1 ∧ ad ≠ ap ∧ ad ≠ d0 ∧ ad ≠ q0 ∧ ad ≠ d1 ∧ ad ≠ q1 ∧ ap ≠ d0 ∧ ap ≠ q0 ∧ ap ≠ d1 ∧ ap ≠ q1 ∧ d0 ≠ q0 ∧ d0 ≠ d1 ∧ d0 ≠ q1 ∧ q0 ≠ d1 ∧ q0 ≠ q1 ∧ d1 ≠ q1)
set_option maxRecDepth 65536 in
set_option maxHeartbeats 40000000 in
theorem rm_init (l : Launch) (Z : State) (av0 : Array Value) (hw : ∀ d ∈ tables_1, d.before av0 Z = true) (ws : List Jvm.Cond) (a0 : Addr) (a1 : Addr) (m0 : Int32) (m1 : Int32) (h0 : Heap) (n0 : Nat) (Z0 : n0 ≤ h0.size) (HF0 : Exa Z h0 a0 "com/example/sieveline/sieveline/model/CurrentDomains") (HF1 : Fld Z h0 a0 "com/example/sieveline/sieveline/model/CurrentDomains" "trail" "[I" .null) (HF2 : Fld Z h0 a0 "com/example/sieveline/sieveline/model/CurrentDomains" "size" "[I" .null) (HF3 : Fld Z h0 a0 "com/example/sieveline/sieveline/model/CurrentDomains" "dense" "[[I" .null) (HF4 : Fld Z h0 a0 "com/example/sieveline/sieveline/model/CurrentDomains" "position" "[[I" .null) (HF5 : Fld Z h0 a0 "com/example/sieveline/sieveline/model/CurrentDomains" "top" "I" (.int (0 : Int32))) (HF6 : ownAI Z h0 a1 .int 2 (ownUpd (ownUpd (fun _ => (0 : Int32)) 0 m0) 1 m1)) (HF7 : Exa Z h0 a1 "[I") (G_a0 : n0 ≤ a0) (hb0 : 0 ≤ m0.toInt ∧ m0.toInt ≤ 5) (hb1 : 0 ≤ m1.toInt ∧ m1.toInt ≤ 5) (hne : a0 ≠ a1) :
    MetFree l (⟨"com/example/sieveline/sieveline/model/CurrentDomains", "<init>", "([I)V"⟩ : MethodName) (head1 (Jvm.Cond.code (⟨"com/example/sieveline/sieveline/model/CurrentDomains", "<init>", "([I)V"⟩ : MethodName) prog_10_method_1_code 4 none :: ws) ({ frames := 1, cells := 8, slots := 90, locals := 15 } : Room)) (fun a U => a = #[(.ref a0), (.ref a1)] ∧ Z.Warmed39 U.vm ∧ U.heap = h0) (fun _ _ _ _ _ => True) (fun _ U o U' => ∃ v L, o = .returned v ∧ (Q_init Z a0 a1 m0 m1 h0 n0) v U'.heap L ∧ FrameEnd U o U' L ({ frames := 1, cells := 8, slots := 90, locals := 15 } : Room).cells ({ frames := 1, cells := 8, slots := 90, locals := 15 } : Room).slots) := by
  refine MetFree.of_bodySF (plainFor_of_name own_pn_CurrentDomains) hisR ?_
  intro p e s m args below meth c s₁ Bd hml0 hP hK
  obtain ⟨rfl, hZ, hh⟩ := hP
  have hx := Bd.exec
  have hby := Bd.bytes
  have hml : c.maxLocals = 4 := hml0
  have hown : s.vm.findClass "com/example/sieveline/sieveline/model/CurrentDomains" = some m.cls := findClass_of_methodNamed Bd.named
  have hnm := (name_of_methodNamed Bd.named Bd.method).1
  have hlk : meth.locks = false := BodyLoose.notSynchronized Bd
  have X0 : Stand p l e ({ frames := 1, cells := 8, slots := 90, locals := 15 } : Room) s m #[(.ref a0), (.ref a1)] below meth c s₁ [] 0 0 := Stand.of_body Bd
  have e0 : s₁.heap = h0 := by rw [← hh, Bd.state]; rfl
  have N0 := Fr.nil n0
  have K0 : Keep h0 h0 [a0] := Keep.refl _ _
  have ww : ∀ (k : Nat) {d : Jvm.Cond}, tables_1[k]? = some d → d.before av0 Z = true := fun k d h => hw d (List.mem_of_getElem? h)
  show ownEnds p e below s (Q_init Z a0 a1 m0 m1 h0 n0) ({ frames := 1, cells := 8, slots := 90, locals := 15 } : Room).cells ({ frames := 1, cells := 8, slots := 90, locals := 15 } : Room).slots s₁ (entryFrame m #[(.ref a0), (.ref a1)] 4)
  refine ownCast (own_ef1_init m a0 a1) ?_
  refine ow_aloadN (q := 1) X0 hx (hb hby own_d1_0) rfl rfl rfl ?_
  obtain ⟨T1, X1, e1, st1⟩ := initO X0 hx hZ hown (ww 8 rfl) (ww 9 rfl) (ww 10 rfl) e0 (g := (mkF m 1 #[rv a0, rv a1, .unset, .unset] [(.ref a0)])) rfl (by rw [hml]; rfl) rfl (hb hby own_d1_1) (by decide) (W := 0) (by show 2 * 0 + _ ≤ _; exact Nat.le_of_eq rfl) (by decide)
  refine ownGo (T' := T1) (f' := (mkF m 4 #[rv a0, rv a1, .unset, .unset] [])) (st1) ?_
  refine ow_aloadN (q := 5) X1 hx (hb hby own_d1_4) rfl rfl rfl ?_
  refine ow_bipush (q := 7) X1 hx (64 : Int32) (hb hby own_d1_5) rfl rfl ?_
  obtain ⟨T2, h2, k2, X2, e2, E2, A2, EA2, st2⟩ := newPE X1 hx hZ (ww 4 rfl) e1 (g := (mkF m 7 #[rv a0, rv a1, .unset, .unset] [(.int (64 : Int32)), (.ref a0)])) rfl (hb hby own_d1_7) rfl (by decide) (cap := 64) (by decide) (by decide) (by decide) (by decide) (ad := "[I") (by decide)
  obtain ⟨b2, g2⟩ : ∃ z, z = h0.size := ⟨_, rfl⟩
  rw [← g2] at A2 st2 EA2
  have ne_a0_b2 : a0 ≠ b2 := Nat.ne_of_lt (Nat.lt_of_lt_of_le HF0.lt (Nat.le_of_eq g2.symm))
  have ne_a1_b2 : a1 ≠ b2 := Nat.ne_of_lt (Nat.lt_of_lt_of_le HF6.lt (Nat.le_of_eq g2.symm))
  have sz_b2 : h0.size ≤ b2 := Nat.le_trans K0.1 (Nat.le_of_eq g2.symm)
  have G_b2 : n0 ≤ b2 := Nat.le_trans Z0 sz_b2
  have K2 : Keep h0 h2 [a0] := K0.ext E2
  have F3 : Exa Z h2 a0 "com/example/sieveline/sieveline/model/CurrentDomains" := HF0.ext E2
  have F4 : Fld Z h2 a0 "com/example/sieveline/sieveline/model/CurrentDomains" "trail" "[I" .null := HF1.ext E2
  have F5 : Fld Z h2 a0 "com/example/sieveline/sieveline/model/CurrentDomains" "size" "[I" .null := HF2.ext E2
  have F6 : Fld Z h2 a0 "com/example/sieveline/sieveline/model/CurrentDomains" "dense" "[[I" .null := HF3.ext E2
  have F7 : Fld Z h2 a0 "com/example/sieveline/sieveline/model/CurrentDomains" "position" "[[I" .null := HF4.ext E2
  have F8 : Fld Z h2 a0 "com/example/sieveline/sieveline/model/CurrentDomains" "top" "I" (.int (0 : Int32)) := HF5.ext E2
  have F9 : ownAI Z h2 a1 .int 2 (ownUpd (ownUpd (fun _ => (0 : Int32)) 0 m0) 1 m1) := HF6.ext E2
  have F10 : Exa Z h2 a1 "[I" := HF7.ext E2
  have F11 : ownAI Z h2 b2 .int 64 (fun _ => (0 : Int32)) := ownAI.new A2 (by decide) rfl (by decide)
  refine ownGo (T' := T2) (f' := (mkF m 9 #[rv a0, rv a1, .unset, .unset] [(.ref b2), (.ref a0)])) (st2) ?_
  obtain ⟨T12, h12, X12, e12, W12, st12⟩ := putF X2 hx hZ hown (host := "") (Or.inl (ww 11 rfl)) Via.refl e2 F4 F3 (Or.inl (ww 12 rfl)) (ww 2 rfl) (ty := (.array .int)) (by decide) rfl rfl (g := (mkF m 9 #[rv a0, rv a1, .unset, .unset] [(.ref b2), (.ref a0)])) rfl rfl (hb hby own_d1_9)
  have N12 := Fr.snoc X12 N0 G_a0
  have K12 : Keep h0 h12 [a0] := K2.wr W12 (Or.inl (List.mem_of_getElem? (i := 0) rfl))
  have F13 : Exa Z h12 a0 "com/example/sieveline/sieveline/model/CurrentDomains" := F3.wr W12
  have F14 : Fld Z h12 a0 "com/example/sieveline/sieveline/model/CurrentDomains" "trail" "[I" (.ref b2) := F4.same W12
  have F15 : Fld Z h12 a0 "com/example/sieveline/sieveline/model/CurrentDomains" "size" "[I" .null := F5.other W12 (Or.inr (slot_ne (Or.inr (ww 23 rfl)) (Or.inl (ww 12 rfl)) (by decide) (t := (.array .int)) (t' := (.array .int)) (by decide) (by decide)))
  have F16 : Fld Z h12 a0 "com/example/sieveline/sieveline/model/CurrentDomains" "dense" "[[I" .null := F6.other W12 (Or.inr (slot_ne (Or.inr (ww 26 rfl)) (Or.inl (ww 12 rfl)) (by decide) (t := (.array (.array .int))) (t' := (.array .int)) (by decide) (by decide)))
  have F17 : Fld Z h12 a0 "com/example/sieveline/sieveline/model/CurrentDomains" "position" "[[I" .null := F7.other W12 (Or.inr (slot_ne (Or.inr (ww 28 rfl)) (Or.inl (ww 12 rfl)) (by decide) (t := (.array (.array .int))) (t' := (.array .int)) (by decide) (by decide)))
  have F18 : Fld Z h12 a0 "com/example/sieveline/sieveline/model/CurrentDomains" "top" "I" (.int (0 : Int32)) := F8.other W12 (Or.inr (slot_ne (Or.inl (ww 35 rfl)) (Or.inl (ww 12 rfl)) (by decide) (t := .int) (t' := (.array .int)) (by decide) (by decide)))
  have F19 : ownAI Z h12 a1 .int 2 (ownUpd (ownUpd (fun _ => (0 : Int32)) 0 m0) 1 m1) := F9.other W12 (Ne.symm hne)
  have F20 : Exa Z h12 a1 "[I" := F10.wr W12
  have F21 : Exa Z h12 b2 "[I" := EA2.wr W12
  have F22 : ownAI Z h12 b2 .int 64 (fun _ => (0 : Int32)) := F11.other W12 (Ne.symm ne_a0_b2)
  refine ownGo (T' := T12) (f' := (mkF m 12 #[rv a0, rv a1, .unset, .unset] [])) (st12) ?_
  refine ow_aloadN (q := 13) X12 hx (hb hby own_d1_12) rfl rfl rfl ?_
  refine ow_aloadN (q := 14) X12 hx (hb hby own_d1_13) rfl rfl rfl ?_
  obtain ⟨T23, h23, X23, e23, E23, A23, EA23, st23⟩ := ownCloneI (z := (2 : Int32)) F19 (by decide) (by decide) (fun _ _ => rfl) X12 hx hZ hown (ww 13 rfl) (ww 14 rfl) (ww 18 rfl) (ww 16 rfl) (ww 17 rfl) (ww 19 rfl) e12 F20 (g := (mkF m 14 #[rv a0, rv a1, .unset, .unset] [(.ref a1), (.ref a0)])) rfl (by rw [hml]; rfl) rfl (hb hby own_d1_14) (by decide) (W := 1) (cap := 2) (by show 2 * 0 + _ ≤ _; exact Nat.le_of_eq rfl) (by decide) (by decide) (by decide) (by decide)
  obtain ⟨b23, g23⟩ : ∃ z, z = h12.size := ⟨_, rfl⟩
  rw [← g23] at A23 EA23 st23
  have ne_a0_b23 : a0 ≠ b23 := Nat.ne_of_lt (Nat.lt_of_lt_of_le F13.lt (Nat.le_of_eq g23.symm))
  have ne_a1_b23 : a1 ≠ b23 := Nat.ne_of_lt (Nat.lt_of_lt_of_le F19.lt (Nat.le_of_eq g23.symm))
  have ne_b2_b23 : b2 ≠ b23 := Nat.ne_of_lt (Nat.lt_of_lt_of_le F21.lt (Nat.le_of_eq g23.symm))
  have sz_b23 : h0.size ≤ b23 := Nat.le_trans K12.1 (Nat.le_of_eq g23.symm)
  have G_b23 : n0 ≤ b23 := Nat.le_trans Z0 sz_b23
  have K23 : Keep h0 h23 [a0] := K12.ext E23
  have F24 : Exa Z h23 a0 "com/example/sieveline/sieveline/model/CurrentDomains" := F13.ext E23
  have F25 : Fld Z h23 a0 "com/example/sieveline/sieveline/model/CurrentDomains" "trail" "[I" (.ref b2) := F14.ext E23
  have F26 : Fld Z h23 a0 "com/example/sieveline/sieveline/model/CurrentDomains" "size" "[I" .null := F15.ext E23
  have F27 : Fld Z h23 a0 "com/example/sieveline/sieveline/model/CurrentDomains" "dense" "[[I" .null := F16.ext E23
  have F28 : Fld Z h23 a0 "com/example/sieveline/sieveline/model/CurrentDomains" "position" "[[I" .null := F17.ext E23
  have F29 : Fld Z h23 a0 "com/example/sieveline/sieveline/model/CurrentDomains" "top" "I" (.int (0 : Int32)) := F18.ext E23
  have F30 : ownAI Z h23 a1 .int 2 (ownUpd (ownUpd (fun _ => (0 : Int32)) 0 m0) 1 m1) := F19.ext E23
  have F31 : Exa Z h23 a1 "[I" := F20.ext E23
  have F32 : Exa Z h23 b2 "[I" := F21.ext E23
  have F33 : ownAI Z h23 b2 .int 64 (fun _ => (0 : Int32)) := F22.ext E23
  refine ownGo (T' := T23) (f' := (mkF m 17 #[rv a0, rv a1, .unset, .unset] [(.ref b23), (.ref a0)])) (st23) ?_
  obtain ⟨T34, X34, e34, st34⟩ := castY X23 hx hZ hown (ww 20 rfl) e23 (Ins.self EA23) (g := (mkF m 17 #[rv a0, rv a1, .unset, .unset] [(.ref b23), (.ref a0)])) rfl rfl (hb hby own_d1_17)
  refine ownGo (T' := T34) (f' := (mkF m 20 #[rv a0, rv a1, .unset, .unset] [(.ref b23), (.ref a0)])) (st34) ?_
  obtain ⟨T35, h35, X35, e35, W35, st35⟩ := putF X34 hx hZ hown (host := "") (Or.inl (ww 22 rfl)) Via.refl e34 F26 F24 (Or.inr ⟨(ww 23 rfl), rfl, hnm⟩) (ww 2 rfl) (ty := (.array .int)) (by decide) rfl rfl (g := (mkF m 20 #[rv a0, rv a1, .unset, .unset] [(.ref b23), (.ref a0)])) rfl rfl (hb hby own_d1_20)
  have N35 := Fr.snoc X35 N12 G_a0
  have K35 : Keep h0 h35 [a0] := K23.wr W35 (Or.inl (List.mem_of_getElem? (i := 0) rfl))
  have F36 : Exa Z h35 a0 "com/example/sieveline/sieveline/model/CurrentDomains" := F24.wr W35
  have F37 : Fld Z h35 a0 "com/example/sieveline/sieveline/model/CurrentDomains" "trail" "[I" (.ref b2) := F25.other W35 (Or.inr (slot_ne (Or.inl (ww 12 rfl)) (Or.inr (ww 23 rfl)) (by decide) (t := (.array .int)) (t' := (.array .int)) (by decide) (by decide)))
  have F38 : Fld Z h35 a0 "com/example/sieveline/sieveline/model/CurrentDomains" "size" "[I" (.ref b23) := F26.same W35
  have F39 : Fld Z h35 a0 "com/example/sieveline/sieveline/model/CurrentDomains" "dense" "[[I" .null := F27.other W35 (Or.inr (slot_ne (Or.inr (ww 26 rfl)) (Or.inr (ww 23 rfl)) (by decide) (t := (.array (.array .int))) (t' := (.array .int)) (by decide) (by decide)))
  have F40 : Fld Z h35 a0 "com/example/sieveline/sieveline/model/CurrentDomains" "position" "[[I" .null := F28.other W35 (Or.inr (slot_ne (Or.inr (ww 28 rfl)) (Or.inr (ww 23 rfl)) (by decide) (t := (.array (.array .int))) (t' := (.array .int)) (by decide) (by decide)))
  have F41 : Fld Z h35 a0 "com/example/sieveline/sieveline/model/CurrentDomains" "top" "I" (.int (0 : Int32)) := F29.other W35 (Or.inr (slot_ne (Or.inl (ww 35 rfl)) (Or.inr (ww 23 rfl)) (by decide) (t := .int) (t' := (.array .int)) (by decide) (by decide)))
  have F42 : ownAI Z h35 a1 .int 2 (ownUpd (ownUpd (fun _ => (0 : Int32)) 0 m0) 1 m1) := F30.other W35 (Ne.symm hne)
  have F43 : Exa Z h35 a1 "[I" := F31.wr W35
  have F44 : Exa Z h35 b2 "[I" := F32.wr W35
  have F45 : ownAI Z h35 b2 .int 64 (fun _ => (0 : Int32)) := F33.other W35 (Ne.symm ne_a0_b2)
  have F46 : ownAI Z h35 b23 .int 2 (ownUpd (ownUpd (fun _ => (0 : Int32)) 0 m0) 1 m1) := A23.other W35 (Ne.symm ne_a0_b23)
  have F47 : Exa Z h35 b23 "[I" := EA23.wr W35
  refine ownGo (T' := T35) (f' := (mkF m 23 #[rv a0, rv a1, .unset, .unset] [])) (st35) ?_
  refine ow_aloadN (q := 24) X35 hx (hb hby own_d1_23) rfl rfl rfl ?_
  refine ow_aloadN (q := 25) X35 hx (hb hby own_d1_24) rfl rfl rfl ?_
  refine ownGo (T' := T35) (f' := (mkF m 26 #[rv a0, rv a1, .unset, .unset] [(.int (2 : Int32)), (.ref a0)])) (ownLenI F42 X35 hx hZ e35 (z := (2 : Int32)) (by decide) (g := (mkF m 25 #[rv a0, rv a1, .unset, .unset] [(.ref a1), (.ref a0)])) rfl rfl (hb hby own_d1_25)) ?_
  obtain ⟨T48, h48, k48, X48, e48, E48, A48, EA48, O48, st48⟩ := newRA X35 hx hZ hown (C := "[I") (ty := .int) (by decide) (ww 20 rfl) (ww 24 rfl) e35 (g := (mkF m 26 #[rv a0, rv a1, .unset, .unset] [(.int (2 : Int32)), (.ref a0)])) rfl (hb hby own_d1_26) rfl (by decide) (cap := 2) (by decide) (by decide) (by decide) (by decide) (ad := "[[I") (by decide)
  obtain ⟨b48, g48⟩ : ∃ z, z = h35.size := ⟨_, rfl⟩
  rw [← g48] at A48 EA48 st48
  have ne_a0_b48 : a0 ≠ b48 := Nat.ne_of_lt (Nat.lt_of_lt_of_le F36.lt (Nat.le_of_eq g48.symm))
  have ne_a1_b48 : a1 ≠ b48 := Nat.ne_of_lt (Nat.lt_of_lt_of_le F42.lt (Nat.le_of_eq g48.symm))
  have ne_b2_b48 : b2 ≠ b48 := Nat.ne_of_lt (Nat.lt_of_lt_of_le F44.lt (Nat.le_of_eq g48.symm))
  have ne_b23_b48 : b23 ≠ b48 := Nat.ne_of_lt (Nat.lt_of_lt_of_le F46.lt (Nat.le_of_eq g48.symm))
  have sz_b48 : h0.size ≤ b48 := Nat.le_trans K35.1 (Nat.le_of_eq g48.symm)
  have G_b48 : n0 ≤ b48 := Nat.le_trans Z0 sz_b48
  have K48 : Keep h0 h48 [a0] := K35.ext E48
  have F49 : Exa Z h48 a0 "com/example/sieveline/sieveline/model/CurrentDomains" := F36.ext E48
  have F50 : Fld Z h48 a0 "com/example/sieveline/sieveline/model/CurrentDomains" "trail" "[I" (.ref b2) := F37.ext E48
  have F51 : Fld Z h48 a0 "com/example/sieveline/sieveline/model/CurrentDomains" "size" "[I" (.ref b23) := F38.ext E48
  have F52 : Fld Z h48 a0 "com/example/sieveline/sieveline/model/CurrentDomains" "dense" "[[I" .null := F39.ext E48
  have F53 : Fld Z h48 a0 "com/example/sieveline/sieveline/model/CurrentDomains" "position" "[[I" .null := F40.ext E48
  have F54 : Fld Z h48 a0 "com/example/sieveline/sieveline/model/CurrentDomains" "top" "I" (.int (0 : Int32)) := F41.ext E48
  have F55 : ownAI Z h48 a1 .int 2 (ownUpd (ownUpd (fun _ => (0 : Int32)) 0 m0) 1 m1) := F42.ext E48
  have F56 : Exa Z h48 a1 "[I" := F43.ext E48
  have F57 : Exa Z h48 b2 "[I" := F44.ext E48
  have F58 : ownAI Z h48 b2 .int 64 (fun _ => (0 : Int32)) := F45.ext E48
  have F59 : ownAI Z h48 b23 .int 2 (ownUpd (ownUpd (fun _ => (0 : Int32)) 0 m0) 1 m1) := F46.ext E48
  have F60 : Exa Z h48 b23 "[I" := F47.ext E48
  have F61 : ownAR Z h48 b48 k48 2 (fun _ => Value.null) := ownAR.new A48 (by decide) (by decide)
  refine ownGo (T' := T48) (f' := (mkF m 29 #[rv a0, rv a1, .unset, .unset] [(.ref b48), (.ref a0)])) (st48) ?_
  obtain ⟨T62, h62, X62, e62, W62, st62⟩ := putF X48 hx hZ hown (host := "") (Or.inl (ww 25 rfl)) Via.refl e48 F52 F49 (Or.inr ⟨(ww 26 rfl), rfl, hnm⟩) (ww 2 rfl) (ty := (.array (.array .int))) (by decide) rfl rfl (g := (mkF m 29 #[rv a0, rv a1, .unset, .unset] [(.ref b48), (.ref a0)])) rfl rfl (hb hby own_d1_29)
  have N62 := Fr.snoc X62 N35 G_a0
  have K62 : Keep h0 h62 [a0] := K48.wr W62 (Or.inl (List.mem_of_getElem? (i := 0) rfl))
  have F63 : Exa Z h62 a0 "com/example/sieveline/sieveline/model/CurrentDomains" := F49.wr W62
  have F64 : Fld Z h62 a0 "com/example/sieveline/sieveline/model/CurrentDomains" "trail" "[I" (.ref b2) := F50.other W62 (Or.inr (slot_ne (Or.inl (ww 12 rfl)) (Or.inr (ww 26 rfl)) (by decide) (t := (.array .int)) (t' := (.array (.array .int))) (by decide) (by decide)))
  have F65 : Fld Z h62 a0 "com/example/sieveline/sieveline/model/CurrentDomains" "size" "[I" (.ref b23) := F51.other W62 (Or.inr (slot_ne (Or.inr (ww 23 rfl)) (Or.inr (ww 26 rfl)) (by decide) (t := (.array .int)) (t' := (.array (.array .int))) (by decide) (by decide)))
  have F66 : Fld Z h62 a0 "com/example/sieveline/sieveline/model/CurrentDomains" "dense" "[[I" (.ref b48) := F52.same W62
  have F67 : Fld Z h62 a0 "com/example/sieveline/sieveline/model/CurrentDomains" "position" "[[I" .null := F53.other W62 (Or.inr (slot_ne (Or.inr (ww 28 rfl)) (Or.inr (ww 26 rfl)) (by decide) (t := (.array (.array .int))) (t' := (.array (.array .int))) (by decide) (by decide)))
  have F68 : Fld Z h62 a0 "com/example/sieveline/sieveline/model/CurrentDomains" "top" "I" (.int (0 : Int32)) := F54.other W62 (Or.inr (slot_ne (Or.inl (ww 35 rfl)) (Or.inr (ww 26 rfl)) (by decide) (t := .int) (t' := (.array (.array .int))) (by decide) (by decide)))
  have F69 : ownAI Z h62 a1 .int 2 (ownUpd (ownUpd (fun _ => (0 : Int32)) 0 m0) 1 m1) := F55.other W62 (Ne.symm hne)
  have F70 : Exa Z h62 a1 "[I" := F56.wr W62
  have F71 : Exa Z h62 b2 "[I" := F57.wr W62
  have F72 : ownAI Z h62 b2 .int 64 (fun _ => (0 : Int32)) := F58.other W62 (Ne.symm ne_a0_b2)
  have F73 : ownAI Z h62 b23 .int 2 (ownUpd (ownUpd (fun _ => (0 : Int32)) 0 m0) 1 m1) := F59.other W62 (Ne.symm ne_a0_b23)
  have F74 : Exa Z h62 b23 "[I" := F60.wr W62
  have F75 : ownAR Z h62 b48 k48 2 (fun _ => Value.null) := F61.other W62 (Ne.symm ne_a0_b48)
  refine ownGo (T' := T62) (f' := (mkF m 32 #[rv a0, rv a1, .unset, .unset] [])) (st62) ?_
  refine ow_aloadN (q := 33) X62 hx (hb hby own_d1_32) rfl rfl rfl ?_
  refine ow_aloadN (q := 34) X62 hx (hb hby own_d1_33) rfl rfl rfl ?_
  refine ownGo (T' := T62) (f' := (mkF m 35 #[rv a0, rv a1, .unset, .unset] [(.int (2 : Int32)), (.ref a0)])) (ownLenI F69 X62 hx hZ e62 (z := (2 : Int32)) (by decide) (g := (mkF m 34 #[rv a0, rv a1, .unset, .unset] [(.ref a1), (.ref a0)])) rfl rfl (hb hby own_d1_34)) ?_
  obtain ⟨T76, h76, k76, X76, e76, E76, A76, EA76, O76, st76⟩ := newRA X62 hx hZ hown (C := "[I") (ty := .int) (by decide) (ww 20 rfl) (ww 24 rfl) e62 (g := (mkF m 35 #[rv a0, rv a1, .unset, .unset] [(.int (2 : Int32)), (.ref a0)])) rfl (hb hby own_d1_35) rfl (by decide) (cap := 2) (by decide) (by decide) (by decide) (by decide) (ad := "[[I") (by decide)
  obtain ⟨b76, g76⟩ : ∃ z, z = h62.size := ⟨_, rfl⟩
  rw [← g76] at A76 EA76 st76
  have ne_a0_b76 : a0 ≠ b76 := Nat.ne_of_lt (Nat.lt_of_lt_of_le F63.lt (Nat.le_of_eq g76.symm))
  have ne_a1_b76 : a1 ≠ b76 := Nat.ne_of_lt (Nat.lt_of_lt_of_le F69.lt (Nat.le_of_eq g76.symm))
  have ne_b2_b76 : b2 ≠ b76 := Nat.ne_of_lt (Nat.lt_of_lt_of_le F71.lt (Nat.le_of_eq g76.symm))
  have ne_b23_b76 : b23 ≠ b76 := Nat.ne_of_lt (Nat.lt_of_lt_of_le F73.lt (Nat.le_of_eq g76.symm))
  have ne_b48_b76 : b48 ≠ b76 := Nat.ne_of_lt (Nat.lt_of_lt_of_le F75.lt (Nat.le_of_eq g76.symm))
  have sz_b76 : h0.size ≤ b76 := Nat.le_trans K62.1 (Nat.le_of_eq g76.symm)
  have G_b76 : n0 ≤ b76 := Nat.le_trans Z0 sz_b76
  have K76 : Keep h0 h76 [a0] := K62.ext E76
  have F77 : Exa Z h76 a0 "com/example/sieveline/sieveline/model/CurrentDomains" := F63.ext E76
  have F78 : Fld Z h76 a0 "com/example/sieveline/sieveline/model/CurrentDomains" "trail" "[I" (.ref b2) := F64.ext E76
  have F79 : Fld Z h76 a0 "com/example/sieveline/sieveline/model/CurrentDomains" "size" "[I" (.ref b23) := F65.ext E76
  have F80 : Fld Z h76 a0 "com/example/sieveline/sieveline/model/CurrentDomains" "dense" "[[I" (.ref b48) := F66.ext E76
  have F81 : Fld Z h76 a0 "com/example/sieveline/sieveline/model/CurrentDomains" "position" "[[I" .null := F67.ext E76
  have F82 : Fld Z h76 a0 "com/example/sieveline/sieveline/model/CurrentDomains" "top" "I" (.int (0 : Int32)) := F68.ext E76
  have F83 : ownAI Z h76 a1 .int 2 (ownUpd (ownUpd (fun _ => (0 : Int32)) 0 m0) 1 m1) := F69.ext E76
  have F84 : Exa Z h76 a1 "[I" := F70.ext E76
  have F85 : Exa Z h76 b2 "[I" := F71.ext E76
  have F86 : ownAI Z h76 b2 .int 64 (fun _ => (0 : Int32)) := F72.ext E76
  have F87 : ownAI Z h76 b23 .int 2 (ownUpd (ownUpd (fun _ => (0 : Int32)) 0 m0) 1 m1) := F73.ext E76
  have F88 : Exa Z h76 b23 "[I" := F74.ext E76
  have F89 : ownAR Z h76 b48 k48 2 (fun _ => Value.null) := F75.ext E76
  have F90 : ownAR Z h76 b76 k76 2 (fun _ => Value.null) := ownAR.new A76 (by decide) (by decide)
  refine ownGo (T' := T76) (f' := (mkF m 38 #[rv a0, rv a1, .unset, .unset] [(.ref b76), (.ref a0)])) (st76) ?_
  obtain ⟨T91, h91, X91, e91, W91, st91⟩ := putF X76 hx hZ hown (host := "") (Or.inl (ww 27 rfl)) Via.refl e76 F81 F77 (Or.inr ⟨(ww 28 rfl), rfl, hnm⟩) (ww 2 rfl) (ty := (.array (.array .int))) (by decide) rfl rfl (g := (mkF m 38 #[rv a0, rv a1, .unset, .unset] [(.ref b76), (.ref a0)])) rfl rfl (hb hby own_d1_38)
  have N91 := Fr.snoc X91 N62 G_a0
  have K91 : Keep h0 h91 [a0] := K76.wr W91 (Or.inl (List.mem_of_getElem? (i := 0) rfl))
  have F92 : Exa Z h91 a0 "com/example/sieveline/sieveline/model/CurrentDomains" := F77.wr W91
  have F93 : Fld Z h91 a0 "com/example/sieveline/sieveline/model/CurrentDomains" "trail" "[I" (.ref b2) := F78.other W91 (Or.inr (slot_ne (Or.inl (ww 12 rfl)) (Or.inr (ww 28 rfl)) (by decide) (t := (.array .int)) (t' := (.array (.array .int))) (by decide) (by decide)))
  have F94 : Fld Z h91 a0 "com/example/sieveline/sieveline/model/CurrentDomains" "size" "[I" (.ref b23) := F79.other W91 (Or.inr (slot_ne (Or.inr (ww 23 rfl)) (Or.inr (ww 28 rfl)) (by decide) (t := (.array .int)) (t' := (.array (.array .int))) (by decide) (by decide)))
  have F95 : Fld Z h91 a0 "com/example/sieveline/sieveline/model/CurrentDomains" "dense" "[[I" (.ref b48) := F80.other W91 (Or.inr (slot_ne (Or.inr (ww 26 rfl)) (Or.inr (ww 28 rfl)) (by decide) (t := (.array (.array .int))) (t' := (.array (.array .int))) (by decide) (by decide)))
  have F96 : Fld Z h91 a0 "com/example/sieveline/sieveline/model/CurrentDomains" "position" "[[I" (.ref b76) := F81.same W91
  have F97 : Fld Z h91 a0 "com/example/sieveline/sieveline/model/CurrentDomains" "top" "I" (.int (0 : Int32)) := F82.other W91 (Or.inr (slot_ne (Or.inl (ww 35 rfl)) (Or.inr (ww 28 rfl)) (by decide) (t := .int) (t' := (.array (.array .int))) (by decide) (by decide)))
  have F98 : ownAI Z h91 a1 .int 2 (ownUpd (ownUpd (fun _ => (0 : Int32)) 0 m0) 1 m1) := F83.other W91 (Ne.symm hne)
  have F99 : Exa Z h91 a1 "[I" := F84.wr W91
  have F100 : Exa Z h91 b2 "[I" := F85.wr W91
  have F101 : ownAI Z h91 b2 .int 64 (fun _ => (0 : Int32)) := F86.other W91 (Ne.symm ne_a0_b2)
  have F102 : ownAI Z h91 b23 .int 2 (ownUpd (ownUpd (fun _ => (0 : Int32)) 0 m0) 1 m1) := F87.other W91 (Ne.symm ne_a0_b23)
  have F103 : Exa Z h91 b23 "[I" := F88.wr W91
  have F104 : ownAR Z h91 b48 k48 2 (fun _ => Value.null) := F89.other W91 (Ne.symm ne_a0_b48)
  have F105 : ownAR Z h91 b76 k76 2 (fun _ => Value.null) := F90.other W91 (Ne.symm ne_a0_b76)
  refine ownGo (T' := T91) (f' := (mkF m 41 #[rv a0, rv a1, .unset, .unset] [])) (st91) ?_
  refine ow_iconst (q := 42) X91 hx (0 : Int32) (hb hby own_d1_41) rfl rfl ?_
  refine ow_istoreN (q := 43) X91 hx (L' := #[rv a0, rv a1, iv (0 : Int32), .unset]) (hb hby own_d1_42) rfl rfl ?_
  refine ow_iloadN (q := 44) X91 hx (hb hby own_d1_43) rfl rfl ?_
  refine ow_aloadN (q := 45) X91 hx (hb hby own_d1_44) rfl rfl rfl ?_
  refine ownGo (T' := T91) (f' := (mkF m 46 #[rv a0, rv a1, iv (0 : Int32), .unset] [(.int (2 : Int32)), (.int (0 : Int32))])) (ownLenI F98 X91 hx hZ e91 (z := (2 : Int32)) (by decide) (g := (mkF m 45 #[rv a0, rv a1, iv (0 : Int32), .unset] [(.ref a1), (.int (0 : Int32))])) rfl rfl (hb hby own_d1_45)) ?_
  refine ow_icmpNo (q := 49) X91 hx (hb hby own_d1_46) rfl (Jvm.Free.XT.ii_ge_f (by decide)) ?_
  refine ow_aloadN (q := 50) X91 hx (hb hby own_d1_49) rfl rfl rfl ?_
  obtain ⟨T106, X106, e106, st106⟩ := getF X91 hx hZ hown (host := "") (Or.inl (ww 25 rfl)) Via.refl e91 F95 (g := (mkF m 50 #[rv a0, rv a1, iv (0 : Int32), .unset] [(.ref a0)])) rfl rfl (hb hby own_d1_50)
  refine ownGo (T' := T106) (f' := (mkF m 53 #[rv a0, rv a1, iv (0 : Int32), .unset] [(.ref b48)])) (st106) ?_
  refine ow_iloadN (q := 54) X106 hx (hb hby own_d1_53) rfl rfl ?_
  refine ow_aloadN (q := 55) X106 hx (hb hby own_d1_54) rfl rfl rfl ?_
  refine ow_iloadN (q := 56) X106 hx (hb hby own_d1_55) rfl rfl ?_
  refine ownGo (T' := T106) (f' := (mkF m 57 #[rv a0, rv a1, iv (0 : Int32), .unset] [(.int m0), (.int (0 : Int32)), (.ref b48)])) (ownIaload F98 X106 hx hZ e106 (j := (0 : Int32)) (by unfold ownIn; decide) (g := (mkF m 56 #[rv a0, rv a1, iv (0 : Int32), .unset] [(.int (0 : Int32)), (.ref a1), (.int (0 : Int32)), (.ref b48)])) rfl rfl (hb hby own_d1_56)) ?_
  obtain ⟨T107, h107, k107, X107, e107, E107, A107, EA107, st107⟩ := newPE X106 hx hZ (ww 4 rfl) e106 (g := (mkF m 57 #[rv a0, rv a1, iv (0 : Int32), .unset] [(.int m0), (.int (0 : Int32)), (.ref b48)])) rfl (hb hby own_d1_57) rfl (own_nn hb0) (cap := 5) (own_c5 hb0) (by decide) (by decide) (by decide) (ad := "[I") (by decide)
  obtain ⟨b107, g107⟩ : ∃ z, z = h91.size := ⟨_, rfl⟩
  rw [← g107] at A107 st107 EA107
  have ne_a0_b107 : a0 ≠ b107 := Nat.ne_of_lt (Nat.lt_of_lt_of_le F92.lt (Nat.le_of_eq g107.symm))
  have ne_a1_b107 : a1 ≠ b107 := Nat.ne_of_lt (Nat.lt_of_lt_of_le F98.lt (Nat.le_of_eq g107.symm))
  have ne_b2_b107 : b2 ≠ b107 := Nat.ne_of_lt (Nat.lt_of_lt_of_le F100.lt (Nat.le_of_eq g107.symm))
  have ne_b23_b107 : b23 ≠ b107 := Nat.ne_of_lt (Nat.lt_of_lt_of_le F102.lt (Nat.le_of_eq g107.symm))
  have ne_b48_b107 : b48 ≠ b107 := Nat.ne_of_lt (Nat.lt_of_lt_of_le F104.lt (Nat.le_of_eq g107.symm))
  have ne_b76_b107 : b76 ≠ b107 := Nat.ne_of_lt (Nat.lt_of_lt_of_le F105.lt (Nat.le_of_eq g107.symm))
  have sz_b107 : h0.size ≤ b107 := Nat.le_trans K91.1 (Nat.le_of_eq g107.symm)
  have G_b107 : n0 ≤ b107 := Nat.le_trans Z0 sz_b107
  have K107 : Keep h0 h107 [a0] := K91.ext E107
  have F108 : Exa Z h107 a0 "com/example/sieveline/sieveline/model/CurrentDomains" := F92.ext E107
  have F109 : Fld Z h107 a0 "com/example/sieveline/sieveline/model/CurrentDomains" "trail" "[I" (.ref b2) := F93.ext E107
  have F110 : Fld Z h107 a0 "com/example/sieveline/sieveline/model/CurrentDomains" "size" "[I" (.ref b23) := F94.ext E107
  have F111 : Fld Z h107 a0 "com/example/sieveline/sieveline/model/CurrentDomains" "dense" "[[I" (.ref b48) := F95.ext E107
  have F112 : Fld Z h107 a0 "com/example/sieveline/sieveline/model/CurrentDomains" "position" "[[I" (.ref b76) := F96.ext E107
  have F113 : Fld Z h107 a0 "com/example/sieveline/sieveline/model/CurrentDomains" "top" "I" (.int (0 : Int32)) := F97.ext E107
  have F114 : ownAI Z h107 a1 .int 2 (ownUpd (ownUpd (fun _ => (0 : Int32)) 0 m0) 1 m1) := F98.ext E107
  have F115 : Exa Z h107 a1 "[I" := F99.ext E107
  have F116 : Exa Z h107 b2 "[I" := F100.ext E107
  have F117 : ownAI Z h107 b2 .int 64 (fun _ => (0 : Int32)) := F101.ext E107
  have F118 : ownAI Z h107 b23 .int 2 (ownUpd (ownUpd (fun _ => (0 : Int32)) 0 m0) 1 m1) := F102.ext E107
  have F119 : Exa Z h107 b23 "[I" := F103.ext E107
  have F120 : ownAR Z h107 b48 k48 2 (fun _ => Value.null) := F104.ext E107
  have F121 : ownAR Z h107 b76 k76 2 (fun _ => Value.null) := F105.ext E107
  have F122 : ownAI Z h107 b107 .int (m0.toNatClampNeg) (fun _ => (0 : Int32)) := ownAI.new A107 (own_nn hb0) rfl rfl
  refine ownGo (T' := T107) (f' := (mkF m 59 #[rv a0, rv a1, iv (0 : Int32), .unset] [(.ref b107), (.int (0 : Int32)), (.ref b48)])) (st107) ?_
  obtain ⟨T123, h123, X123, e123, W123, F123s, st123⟩ := ownAastore F120 O48 EA107 X107 hx hZ e107 (j := (0 : Int32)) (by unfold ownIn; decide) (g := (mkF m 59 #[rv a0, rv a1, iv (0 : Int32), .unset] [(.ref b107), (.int (0 : Int32)), (.ref b48)])) rfl rfl (hb hby own_d1_59)
  have F123r : ownAR Z h123 b48 k48 2 (ownUpd (fun _ => Value.null) 0 (.ref b107)) := F123s
  have N123 := Fr.snoc X123 N91 G_b48
  have K123 : Keep h0 h123 [a0] := K107.wr W123 (Or.inr sz_b48)
  have F124 : Exa Z h123 a0 "com/example/sieveline/sieveline/model/CurrentDomains" := F108.wr W123
  have F125 : Fld Z h123 a0 "com/example/sieveline/sieveline/model/CurrentDomains" "trail" "[I" (.ref b2) := F109.other W123 (Or.inl ne_a0_b48)
  have F126 : Fld Z h123 a0 "com/example/sieveline/sieveline/model/CurrentDomains" "size" "[I" (.ref b23) := F110.other W123 (Or.inl ne_a0_b48)
  have F127 : Fld Z h123 a0 "com/example/sieveline/sieveline/model/CurrentDomains" "dense" "[[I" (.ref b48) := F111.other W123 (Or.inl ne_a0_b48)
  have F128 : Fld Z h123 a0 "com/example/sieveline/sieveline/model/CurrentDomains" "position" "[[I" (.ref b76) := F112.other W123 (Or.inl ne_a0_b48)
  have F129 : Fld Z h123 a0 "com/example/sieveline/sieveline/model/CurrentDomains" "top" "I" (.int (0 : Int32)) := F113.other W123 (Or.inl ne_a0_b48)
  have F130 : ownAI Z h123 a1 .int 2 (ownUpd (ownUpd (fun _ => (0 : Int32)) 0 m0) 1 m1) := F114.other W123 ne_a1_b48
  have F131 : Exa Z h123 a1 "[I" := F115.wr W123
  have F132 : Exa Z h123 b2 "[I" := F116.wr W123
  have F133 : ownAI Z h123 b2 .int 64 (fun _ => (0 : Int32)) := F117.other W123 ne_b2_b48
  have F134 : ownAI Z h123 b23 .int 2 (ownUpd (ownUpd (fun _ => (0 : Int32)) 0 m0) 1 m1) := F118.other W123 ne_b23_b48
  have F135 : Exa Z h123 b23 "[I" := F119.wr W123
  have F136 : ownAR Z h123 b76 k76 2 (fun _ => Value.null) := F121.other W123 (Ne.symm ne_b48_b76)
  have F137 : Exa Z h123 b107 "[I" := EA107.wr W123
  have F138 : ownAI Z h123 b107 .int (m0.toNatClampNeg) (fun _ => (0 : Int32)) := F122.other W123 (Ne.symm ne_b48_b107)
  refine ownGo (T' := T123) (f' := (mkF m 60 #[rv a0, rv a1, iv (0 : Int32), .unset] [])) (st123) ?_
  refine ow_aloadN (q := 61) X123 hx (hb hby own_d1_60) rfl rfl rfl ?_
  obtain ⟨T139, X139, e139, st139⟩ := getF X123 hx hZ hown (host := "") (Or.inl (ww 27 rfl)) Via.refl e123 F128 (g := (mkF m 61 #[rv a0, rv a1, iv (0 : Int32), .unset] [(.ref a0)])) rfl rfl (hb hby own_d1_61)
  refine ownGo (T' := T139) (f' := (mkF m 64 #[rv a0, rv a1, iv (0 : Int32), .unset] [(.ref b76)])) (st139) ?_
  refine ow_iloadN (q := 65) X139 hx (hb hby own_d1_64) rfl rfl ?_
  refine ow_aloadN (q := 66) X139 hx (hb hby own_d1_65) rfl rfl rfl ?_
  refine ow_iloadN (q := 67) X139 hx (hb hby own_d1_66) rfl rfl ?_
  refine ownGo (T' := T139) (f' := (mkF m 68 #[rv a0, rv a1, iv (0 : Int32), .unset] [(.int m0), (.int (0 : Int32)), (.ref b76)])) (ownIaload F130 X139 hx hZ e139 (j := (0 : Int32)) (by unfold ownIn; decide) (g := (mkF m 67 #[rv a0, rv a1, iv (0 : Int32), .unset] [(.int (0 : Int32)), (.ref a1), (.int (0 : Int32)), (.ref b76)])) rfl rfl (hb hby own_d1_67)) ?_
  obtain ⟨T140, h140, k140, X140, e140, E140, A140, EA140, st140⟩ := newPE X139 hx hZ (ww 4 rfl) e139 (g := (mkF m 68 #[rv a0, rv a1, iv (0 : Int32), .unset] [(.int m0), (.int (0 : Int32)), (.ref b76)])) rfl (hb hby own_d1_68) rfl (own_nn hb0) (cap := 5) (own_c5 hb0) (by decide) (by decide) (by decide) (ad := "[I") (by decide)
  obtain ⟨b140, g140⟩ : ∃ z, z = h123.size := ⟨_, rfl⟩
  rw [← g140] at A140 st140 EA140
  have ne_a0_b140 : a0 ≠ b140 := Nat.ne_of_lt (Nat.lt_of_lt_of_le F124.lt (Nat.le_of_eq g140.symm))
  have ne_a1_b140 : a1 ≠ b140 := Nat.ne_of_lt (Nat.lt_of_lt_of_le F130.lt (Nat.le_of_eq g140.symm))
  have ne_b2_b140 : b2 ≠ b140 := Nat.ne_of_lt (Nat.lt_of_lt_of_le F132.lt (Nat.le_of_eq g140.symm))
  have ne_b23_b140 : b23 ≠ b140 := Nat.ne_of_lt (Nat.lt_of_lt_of_le F134.lt (Nat.le_of_eq g140.symm))
  have ne_b76_b140 : b76 ≠ b140 := Nat.ne_of_lt (Nat.lt_of_lt_of_le F136.lt (Nat.le_of_eq g140.symm))
  have ne_b107_b140 : b107 ≠ b140 := Nat.ne_of_lt (Nat.lt_of_lt_of_le F137.lt (Nat.le_of_eq g140.symm))
  have ne_b48_b140 : b48 ≠ b140 := Nat.ne_of_lt (Nat.lt_of_lt_of_le F123r.lt (Nat.le_of_eq g140.symm))
  have sz_b140 : h0.size ≤ b140 := Nat.le_trans K123.1 (Nat.le_of_eq g140.symm)
  have G_b140 : n0 ≤ b140 := Nat.le_trans Z0 sz_b140
  have K140 : Keep h0 h140 [a0] := K123.ext E140
  have F141 : Exa Z h140 a0 "com/example/sieveline/sieveline/model/CurrentDomains" := F124.ext E140
  have F142 : Fld Z h140 a0 "com/example/sieveline/sieveline/model/CurrentDomains" "trail" "[I" (.ref b2) := F125.ext E140
  have F143 : Fld Z h140 a0 "com/example/sieveline/sieveline/model/CurrentDomains" "size" "[I" (.ref b23) := F126.ext E140
  have F144 : Fld Z h140 a0 "com/example/sieveline/sieveline/model/CurrentDomains" "dense" "[[I" (.ref b48) := F127.ext E140
  have F145 : Fld Z h140 a0 "com/example/sieveline/sieveline/model/CurrentDomains" "position" "[[I" (.ref b76) := F128.ext E140
  have F146 : Fld Z h140 a0 "com/example/sieveline/sieveline/model/CurrentDomains" "top" "I" (.int (0 : Int32)) := F129.ext E140
  have F147 : ownAI Z h140 a1 .int 2 (ownUpd (ownUpd (fun _ => (0 : Int32)) 0 m0) 1 m1) := F130.ext E140
  have F148 : Exa Z h140 a1 "[I" := F131.ext E140
  have F149 : Exa Z h140 b2 "[I" := F132.ext E140
  have F150 : ownAI Z h140 b2 .int 64 (fun _ => (0 : Int32)) := F133.ext E140
  have F151 : ownAI Z h140 b23 .int 2 (ownUpd (ownUpd (fun _ => (0 : Int32)) 0 m0) 1 m1) := F134.ext E140
  have F152 : Exa Z h140 b23 "[I" := F135.ext E140
  have F153 : ownAR Z h140 b76 k76 2 (fun _ => Value.null) := F136.ext E140
  have F154 : Exa Z h140 b107 "[I" := F137.ext E140
  have F155 : ownAI Z h140 b107 .int (m0.toNatClampNeg) (fun _ => (0 : Int32)) := F138.ext E140
  have F156 : ownAR Z h140 b48 k48 2 (ownUpd (fun _ => Value.null) 0 (.ref b107)) := F123r.ext E140
  have F157 : ownAI Z h140 b140 .int (m0.toNatClampNeg) (fun _ => (0 : Int32)) := ownAI.new A140 (own_nn hb0) rfl rfl
  refine ownGo (T' := T140) (f' := (mkF m 70 #[rv a0, rv a1, iv (0 : Int32), .unset] [(.ref b140), (.int (0 : Int32)), (.ref b76)])) (st140) ?_
  obtain ⟨T158, h158, X158, e158, W158, F158s, st158⟩ := ownAastore F153 O76 EA140 X140 hx hZ e140 (j := (0 : Int32)) (by unfold ownIn; decide) (g := (mkF m 70 #[rv a0, rv a1, iv (0 : Int32), .unset] [(.ref b140), (.int (0 : Int32)), (.ref b76)])) rfl rfl (hb hby own_d1_70)
  have F158r : ownAR Z h158 b76 k76 2 (ownUpd (fun _ => Value.null) 0 (.ref b140)) := F158s
  have N158 := Fr.snoc X158 N123 G_b76
  have K158 : Keep h0 h158 [a0] := K140.wr W158 (Or.inr sz_b76)
  have F159 : Exa Z h158 a0 "com/example/sieveline/sieveline/model/CurrentDomains" := F141.wr W158
  have F160 : Fld Z h158 a0 "com/example/sieveline/sieveline/model/CurrentDomains" "trail" "[I" (.ref b2) := F142.other W158 (Or.inl ne_a0_b76)
  have F161 : Fld Z h158 a0 "com/example/sieveline/sieveline/model/CurrentDomains" "size" "[I" (.ref b23) := F143.other W158 (Or.inl ne_a0_b76)
  have F162 : Fld Z h158 a0 "com/example/sieveline/sieveline/model/CurrentDomains" "dense" "[[I" (.ref b48) := F144.other W158 (Or.inl ne_a0_b76)
  have F163 : Fld Z h158 a0 "com/example/sieveline/sieveline/model/CurrentDomains" "position" "[[I" (.ref b76) := F145.other W158 (Or.inl ne_a0_b76)
  have F164 : Fld Z h158 a0 "com/example/sieveline/sieveline/model/CurrentDomains" "top" "I" (.int (0 : Int32)) := F146.other W158 (Or.inl ne_a0_b76)
  have F165 : ownAI Z h158 a1 .int 2 (ownUpd (ownUpd (fun _ => (0 : Int32)) 0 m0) 1 m1) := F147.other W158 ne_a1_b76
  have F166 : Exa Z h158 a1 "[I" := F148.wr W158
  have F167 : Exa Z h158 b2 "[I" := F149.wr W158
  have F168 : ownAI Z h158 b2 .int 64 (fun _ => (0 : Int32)) := F150.other W158 ne_b2_b76
  have F169 : ownAI Z h158 b23 .int 2 (ownUpd (ownUpd (fun _ => (0 : Int32)) 0 m0) 1 m1) := F151.other W158 ne_b23_b76
  have F170 : Exa Z h158 b23 "[I" := F152.wr W158
  have F171 : Exa Z h158 b107 "[I" := F154.wr W158
  have F172 : ownAI Z h158 b107 .int (m0.toNatClampNeg) (fun _ => (0 : Int32)) := F155.other W158 (Ne.symm ne_b76_b107)
  have F173 : ownAR Z h158 b48 k48 2 (ownUpd (fun _ => Value.null) 0 (.ref b107)) := F156.other W158 ne_b48_b76
  have F174 : Exa Z h158 b140 "[I" := EA140.wr W158
  have F175 : ownAI Z h158 b140 .int (m0.toNatClampNeg) (fun _ => (0 : Int32)) := F157.other W158 (Ne.symm ne_b76_b140)
  refine ownGo (T' := T158) (f' := (mkF m 71 #[rv a0, rv a1, iv (0 : Int32), .unset] [])) (st158) ?_
  refine ow_iconst (q := 72) X158 hx (0 : Int32) (hb hby own_d1_71) rfl rfl ?_
  refine ow_istoreN (q := 73) X158 hx (L' := #[rv a0, rv a1, iv (0 : Int32), iv (0 : Int32)]) (hb hby own_d1_72) rfl rfl ?_
  have lp176 : ∀ (kk176 : Nat) (j176 : Int32) (gD176 gQ176 : Nat → Int32) (Tc176 : State) (lc176 : List Loc) (hc176 : Heap), Stand p l e ({ frames := 1, cells := 8, slots := 90, locals := 15 } : Room) s m #[(.ref a0), (.ref a1)] below meth c Tc176 lc176 6 80 → Tc176.heap = hc176 → Fr n0 lc176 → Keep h158 hc176 [b107, b140] → ownAI Z hc176 b107 .int (m0.toNatClampNeg) gD176 → ownAI Z hc176 b140 .int (m0.toNatClampNeg) gQ176 → m0.toInt.toNat - j176.toInt.toNat < kk176 → (0 ≤ j176.toInt ∧ j176.toInt ≤ m0.toInt ∧ m0.toInt ≤ 5) → (∀ i, i < j176.toNatClampNeg → gD176 i = own_id i ∧ gQ176 i = own_id i) → ownEnds p e below s (Q_init Z a0 a1 m0 m1 h0 n0) ({ frames := 1, cells := 8, slots := 90, locals := 15 } : Room).cells ({ frames := 1, cells := 8, slots := 90, locals := 15 } : Room).slots Tc176 (mkF m 73 #[rv a0, rv a1, iv (0 : Int32), iv j176] []) := by
    intro kk176
    induction kk176 with
    | zero => intro j176 gD176 gQ176 Tc176 lc176 hc176 Xc176 ec176 Nc176 KL176 FD176 FQ176 hm176 hjb176 hjp176; exact absurd hm176 (Nat.not_lt_zero _)
    | succ kk176 ih176 =>
      intro j176 gD176 gQ176 Tc176 lc176 hc176 Xc176 ec176 Nc176 KL176 FD176 FQ176 hm176 hjb176 hjp176
      have K176 : Keep h0 hc176 [a0] := K158.trans KL176 (allS (Or.inr sz_b107) (allS (Or.inr sz_b140) all0))
      have F177 : Exa Z hc176 a0 "com/example/sieveline/sieveline/model/CurrentDomains" := F159.keep KL176
      have F178 : Fld Z hc176 a0 "com/example/sieveline/sieveline/model/CurrentDomains" "trail" "[I" (.ref b2) := F160.keep KL176 (ninS ne_a0_b107 (ninS ne_a0_b140 nin0))
      have F179 : Fld Z hc176 a0 "com/example/sieveline/sieveline/model/CurrentDomains" "size" "[I" (.ref b23) := F161.keep KL176 (ninS ne_a0_b107 (ninS ne_a0_b140 nin0))
      have F180 : Fld Z hc176 a0 "com/example/sieveline/sieveline/model/CurrentDomains" "dense" "[[I" (.ref b48) := F162.keep KL176 (ninS ne_a0_b107 (ninS ne_a0_b140 nin0))
      have F181 : Fld Z hc176 a0 "com/example/sieveline/sieveline/model/CurrentDomains" "position" "[[I" (.ref b76) := F163.keep KL176 (ninS ne_a0_b107 (ninS ne_a0_b140 nin0))
      have F182 : Fld Z hc176 a0 "com/example/sieveline/sieveline/model/CurrentDomains" "top" "I" (.int (0 : Int32)) := F164.keep KL176 (ninS ne_a0_b107 (ninS ne_a0_b140 nin0))
      have F183 : ownAI Z hc176 a1 .int 2 (ownUpd (ownUpd (fun _ => (0 : Int32)) 0 m0) 1 m1) := F165.keep KL176 (ninS ne_a1_b107 (ninS ne_a1_b140 nin0))
      have F184 : Exa Z hc176 a1 "[I" := F166.keep KL176
      have F185 : Exa Z hc176 b2 "[I" := F167.keep KL176
      have F186 : ownAI Z hc176 b2 .int 64 (fun _ => (0 : Int32)) := F168.keep KL176 (ninS ne_b2_b107 (ninS ne_b2_b140 nin0))
      have F187 : ownAI Z hc176 b23 .int 2 (ownUpd (ownUpd (fun _ => (0 : Int32)) 0 m0) 1 m1) := F169.keep KL176 (ninS ne_b23_b107 (ninS ne_b23_b140 nin0))
      have F188 : Exa Z hc176 b23 "[I" := F170.keep KL176
      have F189 : Exa Z hc176 b107 "[I" := F171.keep KL176
      have F190 : ownAR Z hc176 b48 k48 2 (ownUpd (fun _ => Value.null) 0 (.ref b107)) := F173.keep KL176 (ninS ne_b48_b107 (ninS ne_b48_b140 nin0))
      have F191 : Exa Z hc176 b140 "[I" := F174.keep KL176
      have F192 : ownAR Z hc176 b76 k76 2 (ownUpd (fun _ => Value.null) 0 (.ref b140)) := F158r.keep KL176 (ninS ne_b76_b107 (ninS ne_b76_b140 nin0))
      refine ow_iloadN (q := 74) Xc176 hx (hb hby own_d1_73) rfl rfl ?_
      refine ow_aloadN (q := 75) Xc176 hx (hb hby own_d1_74) rfl rfl rfl ?_
      refine ow_iloadN (q := 76) Xc176 hx (hb hby own_d1_75) rfl rfl ?_
      refine ownGo (T' := Tc176) (f' := (mkF m 77 #[rv a0, rv a1, iv (0 : Int32), iv j176] [(.int m0), (.int j176)])) (ownIaload F183 Xc176 hx hZ ec176 (j := (0 : Int32)) (by unfold ownIn; decide) (g := (mkF m 76 #[rv a0, rv a1, iv (0 : Int32), iv j176] [(.int (0 : Int32)), (.ref a1), (.int j176)])) rfl rfl (hb hby own_d1_76)) ?_
      by_cases hc77_193 : j176 < m0
      · refine ow_icmpNo (q := 80) Xc176 hx (hb hby own_d1_77) rfl (Jvm.Free.XT.ii_ge_f hc77_193) ?_
        refine ow_aloadN (q := 81) Xc176 hx (hb hby own_d1_80) rfl rfl rfl ?_
        obtain ⟨T194, X194, e194, st194⟩ := getF Xc176 hx hZ hown (host := "") (Or.inl (ww 25 rfl)) Via.refl ec176 F180 (g := (mkF m 81 #[rv a0, rv a1, iv (0 : Int32), iv j176] [(.ref a0)])) rfl rfl (hb hby own_d1_81)
        refine ownGo (T' := T194) (f' := (mkF m 84 #[rv a0, rv a1, iv (0 : Int32), iv j176] [(.ref b48)])) (st194) ?_
        refine ow_iloadN (q := 85) X194 hx (hb hby own_d1_84) rfl rfl ?_
        refine ownGo (T' := T194) (f' := (mkF m 86 #[rv a0, rv a1, iv (0 : Int32), iv j176] [(.ref b107)])) (ownAaload F190 X194 hx hZ e194 (j := (0 : Int32)) (by unfold ownIn; decide) (g := (mkF m 85 #[rv a0, rv a1, iv (0 : Int32), iv j176] [(.int (0 : Int32)), (.ref b48)])) rfl rfl (hb hby own_d1_85)) ?_
        refine ow_iloadN (q := 87) X194 hx (hb hby own_d1_86) rfl rfl ?_
        refine ow_iloadN (q := 88) X194 hx (hb hby own_d1_87) rfl rfl ?_
        obtain ⟨T195, h195, X195, e195, W195, F195s, st195⟩ := ownIastore FD176 X194 hx hZ e194 (j := j176) (own_ij hjb176 hc77_193) (g := (mkF m 88 #[rv a0, rv a1, iv (0 : Int32), iv j176] [(.int j176), (.int j176), (.ref b107)])) rfl rfl (hb hby own_d1_88)
        generalize hg_gf195 : (ownUpd gD176 j176.toNatClampNeg j176) = gf195 at F195s
        have N195 := Fr.snoc X195 Nc176 G_b107
        have K195 : Keep h0 h195 [a0] := K176.wr W195 (Or.inr sz_b107)
        have KL195 : Keep h158 h195 [b107, b140] := KL176.wr W195 (Or.inl (List.mem_of_getElem? (i := 0) rfl))
        have F196 : Exa Z h195 a0 "com/example/sieveline/sieveline/model/CurrentDomains" := F177.wr W195
        have F197 : Fld Z h195 a0 "com/example/sieveline/sieveline/model/CurrentDomains" "trail" "[I" (.ref b2) := F178.other W195 (Or.inl ne_a0_b107)
        have F198 : Fld Z h195 a0 "com/example/sieveline/sieveline/model/CurrentDomains" "size" "[I" (.ref b23) := F179.other W195 (Or.inl ne_a0_b107)
        have F199 : Fld Z h195 a0 "com/example/sieveline/sieveline/model/CurrentDomains" "dense" "[[I" (.ref b48) := F180.other W195 (Or.inl ne_a0_b107)
        have F200 : Fld Z h195 a0 "com/example/sieveline/sieveline/model/CurrentDomains" "position" "[[I" (.ref b76) := F181.other W195 (Or.inl ne_a0_b107)
        have F201 : Fld Z h195 a0 "com/example/sieveline/sieveline/model/CurrentDomains" "top" "I" (.int (0 : Int32)) := F182.other W195 (Or.inl ne_a0_b107)
        have F202 : ownAI Z h195 a1 .int 2 (ownUpd (ownUpd (fun _ => (0 : Int32)) 0 m0) 1 m1) := F183.other W195 ne_a1_b107
        have F203 : Exa Z h195 a1 "[I" := F184.wr W195
        have F204 : Exa Z h195 b2 "[I" := F185.wr W195
        have F205 : ownAI Z h195 b2 .int 64 (fun _ => (0 : Int32)) := F186.other W195 ne_b2_b107
        have F206 : ownAI Z h195 b23 .int 2 (ownUpd (ownUpd (fun _ => (0 : Int32)) 0 m0) 1 m1) := F187.other W195 ne_b23_b107
        have F207 : Exa Z h195 b23 "[I" := F188.wr W195
        have F208 : Exa Z h195 b107 "[I" := F189.wr W195
        have F209 : ownAR Z h195 b48 k48 2 (ownUpd (fun _ => Value.null) 0 (.ref b107)) := F190.other W195 ne_b48_b107
        have F210 : Exa Z h195 b140 "[I" := F191.wr W195
        have F211 : ownAR Z h195 b76 k76 2 (ownUpd (fun _ => Value.null) 0 (.ref b140)) := F192.other W195 ne_b76_b107
        have F212 : ownAI Z h195 b140 .int (m0.toNatClampNeg) gQ176 := FQ176.other W195 (Ne.symm ne_b107_b140)
        refine ownGo (T' := T195) (f' := (mkF m 89 #[rv a0, rv a1, iv (0 : Int32), iv j176] [])) (st195) ?_
        refine ow_aloadN (q := 90) X195 hx (hb hby own_d1_89) rfl rfl rfl ?_
        obtain ⟨T213, X213, e213, st213⟩ := getF X195 hx hZ hown (host := "") (Or.inl (ww 27 rfl)) Via.refl e195 F200 (g := (mkF m 90 #[rv a0, rv a1, iv (0 : Int32), iv j176] [(.ref a0)])) rfl rfl (hb hby own_d1_90)
        refine ownGo (T' := T213) (f' := (mkF m 93 #[rv a0, rv a1, iv (0 : Int32), iv j176] [(.ref b76)])) (st213) ?_
        refine ow_iloadN (q := 94) X213 hx (hb hby own_d1_93) rfl rfl ?_
        refine ownGo (T' := T213) (f' := (mkF m 95 #[rv a0, rv a1, iv (0 : Int32), iv j176] [(.ref b140)])) (ownAaload F211 X213 hx hZ e213 (j := (0 : Int32)) (by unfold ownIn; decide) (g := (mkF m 94 #[rv a0, rv a1, iv (0 : Int32), iv j176] [(.int (0 : Int32)), (.ref b76)])) rfl rfl (hb hby own_d1_94)) ?_
        refine ow_iloadN (q := 96) X213 hx (hb hby own_d1_95) rfl rfl ?_
        refine ow_iloadN (q := 97) X213 hx (hb hby own_d1_96) rfl rfl ?_
        obtain ⟨T214, h214, X214, e214, W214, F214s, st214⟩ := ownIastore F212 X213 hx hZ e213 (j := j176) (own_ij hjb176 hc77_193) (g := (mkF m 97 #[rv a0, rv a1, iv (0 : Int32), iv j176] [(.int j176), (.int j176), (.ref b140)])) rfl rfl (hb hby own_d1_97)
        generalize hg_gf214 : (ownUpd gQ176 j176.toNatClampNeg j176) = gf214 at F214s
        have N214 := Fr.snoc X214 N195 G_b140
        have K214 : Keep h0 h214 [a0] := K195.wr W214 (Or.inr sz_b140)
        have KL214 : Keep h158 h214 [b107, b140] := KL195.wr W214 (Or.inl (List.mem_of_getElem? (i := 1) rfl))
        have F215 : Exa Z h214 a0 "com/example/sieveline/sieveline/model/CurrentDomains" := F196.wr W214
        have F216 : Fld Z h214 a0 "com/example/sieveline/sieveline/model/CurrentDomains" "trail" "[I" (.ref b2) := F197.other W214 (Or.inl ne_a0_b140)
        have F217 : Fld Z h214 a0 "com/example/sieveline/sieveline/model/CurrentDomains" "size" "[I" (.ref b23) := F198.other W214 (Or.inl ne_a0_b140)
        have F218 : Fld Z h214 a0 "com/example/sieveline/sieveline/model/CurrentDomains" "dense" "[[I" (.ref b48) := F199.other W214 (Or.inl ne_a0_b140)
        have F219 : Fld Z h214 a0 "com/example/sieveline/sieveline/model/CurrentDomains" "position" "[[I" (.ref b76) := F200.other W214 (Or.inl ne_a0_b140)
        have F220 : Fld Z h214 a0 "com/example/sieveline/sieveline/model/CurrentDomains" "top" "I" (.int (0 : Int32)) := F201.other W214 (Or.inl ne_a0_b140)
        have F221 : ownAI Z h214 a1 .int 2 (ownUpd (ownUpd (fun _ => (0 : Int32)) 0 m0) 1 m1) := F202.other W214 ne_a1_b140
        have F222 : Exa Z h214 a1 "[I" := F203.wr W214
        have F223 : Exa Z h214 b2 "[I" := F204.wr W214
        have F224 : ownAI Z h214 b2 .int 64 (fun _ => (0 : Int32)) := F205.other W214 ne_b2_b140
        have F225 : ownAI Z h214 b23 .int 2 (ownUpd (ownUpd (fun _ => (0 : Int32)) 0 m0) 1 m1) := F206.other W214 ne_b23_b140
        have F226 : Exa Z h214 b23 "[I" := F207.wr W214
        have F227 : Exa Z h214 b107 "[I" := F208.wr W214
        have F228 : ownAR Z h214 b48 k48 2 (ownUpd (fun _ => Value.null) 0 (.ref b107)) := F209.other W214 ne_b48_b140
        have F229 : Exa Z h214 b140 "[I" := F210.wr W214
        have F230 : ownAR Z h214 b76 k76 2 (ownUpd (fun _ => Value.null) 0 (.ref b140)) := F211.other W214 ne_b76_b140
        have F231 : ownAI Z h214 b107 .int (m0.toNatClampNeg) gf195 := F195s.other W214 ne_b107_b140
        refine ownGo (T' := T214) (f' := (mkF m 98 #[rv a0, rv a1, iv (0 : Int32), iv j176] [])) (st214) ?_
        refine ow_iinc (q := 101) X214 hx (L' := #[rv a0, rv a1, iv (0 : Int32), iv (j176 + (1 : Int32))]) (hb hby own_d1_98) rfl rfl rfl ?_
        generalize hv_v232 : (j176 + (1 : Int32)) = v232
        refine ow_goto (q := 73) X214 hx (hb hby own_d1_101) (by decide) (by decide) ?_
        exact ih176 v232 gf195 gf214 _ _ _ X214 e214 N214 KL214 F231 F214s (own_tm hm176 hjb176 hv_v232 hc77_193) (own_tb hjb176 hv_v232 hc77_193) (own_tp hjp176 hjb176 hv_v232 hg_gf195 hg_gf214 hc77_193)
      · refine ow_icmpYes (q := 104) Xc176 hx (hb hby own_d1_77) (Jvm.Free.XT.ii_ge_t hc77_193) (by decide) (by decide) ?_
        have F233 : ownAI Z hc176 b107 .int (m0.toNatClampNeg) own_id := FD176.congr (fun i hi => (hjp176 i (own_te hjb176 hc77_193 hi)).1)
        have F234 : ownAI Z hc176 b140 .int (m0.toNatClampNeg) own_id := FQ176.congr (fun i hi => (hjp176 i (own_te hjb176 hc77_193 hi)).2)
        refine ow_iinc (q := 107) Xc176 hx (L' := #[rv a0, rv a1, iv (1 : Int32), iv j176]) (hb hby own_d1_104) rfl rfl rfl ?_
        refine ow_goto (q := 43) Xc176 hx (hb hby own_d1_107) (by decide) (by decide) ?_
        refine ow_iloadN (q := 44) Xc176 hx (hb hby own_d1_43) rfl rfl ?_
        refine ow_aloadN (q := 45) Xc176 hx (hb hby own_d1_44) rfl rfl rfl ?_
        refine ownGo (T' := Tc176) (f' := (mkF m 46 #[rv a0, rv a1, iv (1 : Int32), iv j176] [(.int (2 : Int32)), (.int (1 : Int32))])) (ownLenI F183 Xc176 hx hZ ec176 (z := (2 : Int32)) (by decide) (g := (mkF m 45 #[rv a0, rv a1, iv (1 : Int32), iv j176] [(.ref a1), (.int (1 : Int32))])) rfl rfl (hb hby own_d1_45)) ?_
        refine ow_icmpNo (q := 49) Xc176 hx (hb hby own_d1_46) rfl (Jvm.Free.XT.ii_ge_f (by decide)) ?_
        refine ow_aloadN (q := 50) Xc176 hx (hb hby own_d1_49) rfl rfl rfl ?_
        obtain ⟨T235, X235, e235, st235⟩ := getF Xc176 hx hZ hown (host := "") (Or.inl (ww 25 rfl)) Via.refl ec176 F180 (g := (mkF m 50 #[rv a0, rv a1, iv (1 : Int32), iv j176] [(.ref a0)])) rfl rfl (hb hby own_d1_50)
        refine ownGo (T' := T235) (f' := (mkF m 53 #[rv a0, rv a1, iv (1 : Int32), iv j176] [(.ref b48)])) (st235) ?_
        refine ow_iloadN (q := 54) X235 hx (hb hby own_d1_53) rfl rfl ?_
        refine ow_aloadN (q := 55) X235 hx (hb hby own_d1_54) rfl rfl rfl ?_
        refine ow_iloadN (q := 56) X235 hx (hb hby own_d1_55) rfl rfl ?_
        refine ownGo (T' := T235) (f' := (mkF m 57 #[rv a0, rv a1, iv (1 : Int32), iv j176] [(.int m1), (.int (1 : Int32)), (.ref b48)])) (ownIaload F183 X235 hx hZ e235 (j := (1 : Int32)) (by unfold ownIn; decide) (g := (mkF m 56 #[rv a0, rv a1, iv (1 : Int32), iv j176] [(.int (1 : Int32)), (.ref a1), (.int (1 : Int32)), (.ref b48)])) rfl rfl (hb hby own_d1_56)) ?_
        obtain ⟨T236, h236, k236, X236, e236, E236, A236, EA236, st236⟩ := newPE X235 hx hZ (ww 4 rfl) e235 (g := (mkF m 57 #[rv a0, rv a1, iv (1 : Int32), iv j176] [(.int m1), (.int (1 : Int32)), (.ref b48)])) rfl (hb hby own_d1_57) rfl (own_nn hb1) (cap := 5) (own_c5 hb1) (by decide) (by decide) (by decide) (ad := "[I") (by decide)
        obtain ⟨b236, g236⟩ : ∃ z, z = hc176.size := ⟨_, rfl⟩
        rw [← g236] at A236 st236 EA236
        have ne_a0_b236 : a0 ≠ b236 := Nat.ne_of_lt (Nat.lt_of_lt_of_le F177.lt (Nat.le_of_eq g236.symm))
        have ne_a1_b236 : a1 ≠ b236 := Nat.ne_of_lt (Nat.lt_of_lt_of_le F183.lt (Nat.le_of_eq g236.symm))
        have ne_b2_b236 : b2 ≠ b236 := Nat.ne_of_lt (Nat.lt_of_lt_of_le F185.lt (Nat.le_of_eq g236.symm))
        have ne_b23_b236 : b23 ≠ b236 := Nat.ne_of_lt (Nat.lt_of_lt_of_le F187.lt (Nat.le_of_eq g236.symm))
        have ne_b107_b236 : b107 ≠ b236 := Nat.ne_of_lt (Nat.lt_of_lt_of_le F189.lt (Nat.le_of_eq g236.symm))
        have ne_b48_b236 : b48 ≠ b236 := Nat.ne_of_lt (Nat.lt_of_lt_of_le F190.lt (Nat.le_of_eq g236.symm))
        have ne_b140_b236 : b140 ≠ b236 := Nat.ne_of_lt (Nat.lt_of_lt_of_le F191.lt (Nat.le_of_eq g236.symm))
        have ne_b76_b236 : b76 ≠ b236 := Nat.ne_of_lt (Nat.lt_of_lt_of_le F192.lt (Nat.le_of_eq g236.symm))
        have sz_b236 : h0.size ≤ b236 := Nat.le_trans K176.1 (Nat.le_of_eq g236.symm)
        have G_b236 : n0 ≤ b236 := Nat.le_trans Z0 sz_b236
        have K236 : Keep h0 h236 [a0] := K176.ext E236
        have F237 : Exa Z h236 a0 "com/example/sieveline/sieveline/model/CurrentDomains" := F177.ext E236
        have F238 : Fld Z h236 a0 "com/example/sieveline/sieveline/model/CurrentDomains" "trail" "[I" (.ref b2) := F178.ext E236
        have F239 : Fld Z h236 a0 "com/example/sieveline/sieveline/model/CurrentDomains" "size" "[I" (.ref b23) := F179.ext E236
        have F240 : Fld Z h236 a0 "com/example/sieveline/sieveline/model/CurrentDomains" "dense" "[[I" (.ref b48) := F180.ext E236
        have F241 : Fld Z h236 a0 "com/example/sieveline/sieveline/model/CurrentDomains" "position" "[[I" (.ref b76) := F181.ext E236
        have F242 : Fld Z h236 a0 "com/example/sieveline/sieveline/model/CurrentDomains" "top" "I" (.int (0 : Int32)) := F182.ext E236
        have F243 : ownAI Z h236 a1 .int 2 (ownUpd (ownUpd (fun _ => (0 : Int32)) 0 m0) 1 m1) := F183.ext E236
        have F244 : Exa Z h236 a1 "[I" := F184.ext E236
        have F245 : Exa Z h236 b2 "[I" := F185.ext E236
        have F246 : ownAI Z h236 b2 .int 64 (fun _ => (0 : Int32)) := F186.ext E236
        have F247 : ownAI Z h236 b23 .int 2 (ownUpd (ownUpd (fun _ => (0 : Int32)) 0 m0) 1 m1) := F187.ext E236
        have F248 : Exa Z h236 b23 "[I" := F188.ext E236
        have F249 : Exa Z h236 b107 "[I" := F189.ext E236
        have F250 : ownAR Z h236 b48 k48 2 (ownUpd (fun _ => Value.null) 0 (.ref b107)) := F190.ext E236
        have F251 : Exa Z h236 b140 "[I" := F191.ext E236
        have F252 : ownAR Z h236 b76 k76 2 (ownUpd (fun _ => Value.null) 0 (.ref b140)) := F192.ext E236
        have F253 : ownAI Z h236 b107 .int (m0.toNatClampNeg) own_id := F233.ext E236
        have F254 : ownAI Z h236 b140 .int (m0.toNatClampNeg) own_id := F234.ext E236
        have F255 : ownAI Z h236 b236 .int (m1.toNatClampNeg) (fun _ => (0 : Int32)) := ownAI.new A236 (own_nn hb1) rfl rfl
        refine ownGo (T' := T236) (f' := (mkF m 59 #[rv a0, rv a1, iv (1 : Int32), iv j176] [(.ref b236), (.int (1 : Int32)), (.ref b48)])) (st236) ?_
        obtain ⟨T256, h256, X256, e256, W256, F256s, st256⟩ := ownAastore F250 O48 EA236 X236 hx hZ e236 (j := (1 : Int32)) (by unfold ownIn; decide) (g := (mkF m 59 #[rv a0, rv a1, iv (1 : Int32), iv j176] [(.ref b236), (.int (1 : Int32)), (.ref b48)])) rfl rfl (hb hby own_d1_59)
        have F256r : ownAR Z h256 b48 k48 2 (ownUpd (ownUpd (fun _ => Value.null) 0 (.ref b107)) 1 (.ref b236)) := F256s
        have N256 := Fr.snoc X256 Nc176 G_b48
        have K256 : Keep h0 h256 [a0] := K236.wr W256 (Or.inr sz_b48)
        have F257 : Exa Z h256 a0 "com/example/sieveline/sieveline/model/CurrentDomains" := F237.wr W256
        have F258 : Fld Z h256 a0 "com/example/sieveline/sieveline/model/CurrentDomains" "trail" "[I" (.ref b2) := F238.other W256 (Or.inl ne_a0_b48)
        have F259 : Fld Z h256 a0 "com/example/sieveline/sieveline/model/CurrentDomains" "size" "[I" (.ref b23) := F239.other W256 (Or.inl ne_a0_b48)
        have F260 : Fld Z h256 a0 "com/example/sieveline/sieveline/model/CurrentDomains" "dense" "[[I" (.ref b48) := F240.other W256 (Or.inl ne_a0_b48)
        have F261 : Fld Z h256 a0 "com/example/sieveline/sieveline/model/CurrentDomains" "position" "[[I" (.ref b76) := F241.other W256 (Or.inl ne_a0_b48)
        have F262 : Fld Z h256 a0 "com/example/sieveline/sieveline/model/CurrentDomains" "top" "I" (.int (0 : Int32)) := F242.other W256 (Or.inl ne_a0_b48)
        have F263 : ownAI Z h256 a1 .int 2 (ownUpd (ownUpd (fun _ => (0 : Int32)) 0 m0) 1 m1) := F243.other W256 ne_a1_b48
        have F264 : Exa Z h256 a1 "[I" := F244.wr W256
        have F265 : Exa Z h256 b2 "[I" := F245.wr W256
        have F266 : ownAI Z h256 b2 .int 64 (fun _ => (0 : Int32)) := F246.other W256 ne_b2_b48
        have F267 : ownAI Z h256 b23 .int 2 (ownUpd (ownUpd (fun _ => (0 : Int32)) 0 m0) 1 m1) := F247.other W256 ne_b23_b48
        have F268 : Exa Z h256 b23 "[I" := F248.wr W256
        have F269 : Exa Z h256 b107 "[I" := F249.wr W256
        have F270 : Exa Z h256 b140 "[I" := F251.wr W256
        have F271 : ownAR Z h256 b76 k76 2 (ownUpd (fun _ => Value.null) 0 (.ref b140)) := F252.other W256 (Ne.symm ne_b48_b76)
        have F272 : ownAI Z h256 b107 .int (m0.toNatClampNeg) own_id := F253.other W256 (Ne.symm ne_b48_b107)
        have F273 : ownAI Z h256 b140 .int (m0.toNatClampNeg) own_id := F254.other W256 (Ne.symm ne_b48_b140)
        have F274 : Exa Z h256 b236 "[I" := EA236.wr W256
        have F275 : ownAI Z h256 b236 .int (m1.toNatClampNeg) (fun _ => (0 : Int32)) := F255.other W256 (Ne.symm ne_b48_b236)
        refine ownGo (T' := T256) (f' := (mkF m 60 #[rv a0, rv a1, iv (1 : Int32), iv j176] [])) (st256) ?_
        refine ow_aloadN (q := 61) X256 hx (hb hby own_d1_60) rfl rfl rfl ?_
        obtain ⟨T276, X276, e276, st276⟩ := getF X256 hx hZ hown (host := "") (Or.inl (ww 27 rfl)) Via.refl e256 F261 (g := (mkF m 61 #[rv a0, rv a1, iv (1 : Int32), iv j176] [(.ref a0)])) rfl rfl (hb hby own_d1_61)
        refine ownGo (T' := T276) (f' := (mkF m 64 #[rv a0, rv a1, iv (1 : Int32), iv j176] [(.ref b76)])) (st276) ?_
        refine ow_iloadN (q := 65) X276 hx (hb hby own_d1_64) rfl rfl ?_
        refine ow_aloadN (q := 66) X276 hx (hb hby own_d1_65) rfl rfl rfl ?_
        refine ow_iloadN (q := 67) X276 hx (hb hby own_d1_66) rfl rfl ?_
        refine ownGo (T' := T276) (f' := (mkF m 68 #[rv a0, rv a1, iv (1 : Int32), iv j176] [(.int m1), (.int (1 : Int32)), (.ref b76)])) (ownIaload F263 X276 hx hZ e276 (j := (1 : Int32)) (by unfold ownIn; decide) (g := (mkF m 67 #[rv a0, rv a1, iv (1 : Int32), iv j176] [(.int (1 : Int32)), (.ref a1), (.int (1 : Int32)), (.ref b76)])) rfl rfl (hb hby own_d1_67)) ?_
        obtain ⟨T277, h277, k277, X277, e277, E277, A277, EA277, st277⟩ := newPE X276 hx hZ (ww 4 rfl) e276 (g := (mkF m 68 #[rv a0, rv a1, iv (1 : Int32), iv j176] [(.int m1), (.int (1 : Int32)), (.ref b76)])) rfl (hb hby own_d1_68) rfl (own_nn hb1) (cap := 5) (own_c5 hb1) (by decide) (by decide) (by decide) (ad := "[I") (by decide)
        obtain ⟨b277, g277⟩ : ∃ z, z = h256.size := ⟨_, rfl⟩
        rw [← g277] at A277 st277 EA277
        have ne_a0_b277 : a0 ≠ b277 := Nat.ne_of_lt (Nat.lt_of_lt_of_le F257.lt (Nat.le_of_eq g277.symm))
        have ne_a1_b277 : a1 ≠ b277 := Nat.ne_of_lt (Nat.lt_of_lt_of_le F263.lt (Nat.le_of_eq g277.symm))
        have ne_b2_b277 : b2 ≠ b277 := Nat.ne_of_lt (Nat.lt_of_lt_of_le F265.lt (Nat.le_of_eq g277.symm))
        have ne_b23_b277 : b23 ≠ b277 := Nat.ne_of_lt (Nat.lt_of_lt_of_le F267.lt (Nat.le_of_eq g277.symm))
        have ne_b107_b277 : b107 ≠ b277 := Nat.ne_of_lt (Nat.lt_of_lt_of_le F269.lt (Nat.le_of_eq g277.symm))
        have ne_b140_b277 : b140 ≠ b277 := Nat.ne_of_lt (Nat.lt_of_lt_of_le F270.lt (Nat.le_of_eq g277.symm))
        have ne_b76_b277 : b76 ≠ b277 := Nat.ne_of_lt (Nat.lt_of_lt_of_le F271.lt (Nat.le_of_eq g277.symm))
        have ne_b236_b277 : b236 ≠ b277 := Nat.ne_of_lt (Nat.lt_of_lt_of_le F274.lt (Nat.le_of_eq g277.symm))
        have ne_b48_b277 : b48 ≠ b277 := Nat.ne_of_lt (Nat.lt_of_lt_of_le F256r.lt (Nat.le_of_eq g277.symm))
        have sz_b277 : h0.size ≤ b277 := Nat.le_trans K256.1 (Nat.le_of_eq g277.symm)
        have G_b277 : n0 ≤ b277 := Nat.le_trans Z0 sz_b277
        have K277 : Keep h0 h277 [a0] := K256.ext E277
        have F278 : Exa Z h277 a0 "com/example/sieveline/sieveline/model/CurrentDomains" := F257.ext E277
        have F279 : Fld Z h277 a0 "com/example/sieveline/sieveline/model/CurrentDomains" "trail" "[I" (.ref b2) := F258.ext E277
        have F280 : Fld Z h277 a0 "com/example/sieveline/sieveline/model/CurrentDomains" "size" "[I" (.ref b23) := F259.ext E277
        have F281 : Fld Z h277 a0 "com/example/sieveline/sieveline/model/CurrentDomains" "dense" "[[I" (.ref b48) := F260.ext E277
        have F282 : Fld Z h277 a0 "com/example/sieveline/sieveline/model/CurrentDomains" "position" "[[I" (.ref b76) := F261.ext E277
        have F283 : Fld Z h277 a0 "com/example/sieveline/sieveline/model/CurrentDomains" "top" "I" (.int (0 : Int32)) := F262.ext E277
        have F284 : ownAI Z h277 a1 .int 2 (ownUpd (ownUpd (fun _ => (0 : Int32)) 0 m0) 1 m1) := F263.ext E277
        have F285 : Exa Z h277 a1 "[I" := F264.ext E277
        have F286 : Exa Z h277 b2 "[I" := F265.ext E277
        have F287 : ownAI Z h277 b2 .int 64 (fun _ => (0 : Int32)) := F266.ext E277
        have F288 : ownAI Z h277 b23 .int 2 (ownUpd (ownUpd (fun _ => (0 : Int32)) 0 m0) 1 m1) := F267.ext E277
        have F289 : Exa Z h277 b23 "[I" := F268.ext E277
        have F290 : Exa Z h277 b107 "[I" := F269.ext E277
        have F291 : Exa Z h277 b140 "[I" := F270.ext E277
        have F292 : ownAR Z h277 b76 k76 2 (ownUpd (fun _ => Value.null) 0 (.ref b140)) := F271.ext E277
        have F293 : ownAI Z h277 b107 .int (m0.toNatClampNeg) own_id := F272.ext E277
        have F294 : ownAI Z h277 b140 .int (m0.toNatClampNeg) own_id := F273.ext E277
        have F295 : Exa Z h277 b236 "[I" := F274.ext E277
        have F296 : ownAI Z h277 b236 .int (m1.toNatClampNeg) (fun _ => (0 : Int32)) := F275.ext E277
        have F297 : ownAR Z h277 b48 k48 2 (ownUpd (ownUpd (fun _ => Value.null) 0 (.ref b107)) 1 (.ref b236)) := F256r.ext E277
        have F298 : ownAI Z h277 b277 .int (m1.toNatClampNeg) (fun _ => (0 : Int32)) := ownAI.new A277 (own_nn hb1) rfl rfl
        refine ownGo (T' := T277) (f' := (mkF m 70 #[rv a0, rv a1, iv (1 : Int32), iv j176] [(.ref b277), (.int (1 : Int32)), (.ref b76)])) (st277) ?_
        obtain ⟨T299, h299, X299, e299, W299, F299s, st299⟩ := ownAastore F292 O76 EA277 X277 hx hZ e277 (j := (1 : Int32)) (by unfold ownIn; decide) (g := (mkF m 70 #[rv a0, rv a1, iv (1 : Int32), iv j176] [(.ref b277), (.int (1 : Int32)), (.ref b76)])) rfl rfl (hb hby own_d1_70)
        have F299r : ownAR Z h299 b76 k76 2 (ownUpd (ownUpd (fun _ => Value.null) 0 (.ref b140)) 1 (.ref b277)) := F299s
        have N299 := Fr.snoc X299 N256 G_b76
        have K299 : Keep h0 h299 [a0] := K277.wr W299 (Or.inr sz_b76)
        have F300 : Exa Z h299 a0 "com/example/sieveline/sieveline/model/CurrentDomains" := F278.wr W299
        have F301 : Fld Z h299 a0 "com/example/sieveline/sieveline/model/CurrentDomains" "trail" "[I" (.ref b2) := F279.other W299 (Or.inl ne_a0_b76)
        have F302 : Fld Z h299 a0 "com/example/sieveline/sieveline/model/CurrentDomains" "size" "[I" (.ref b23) := F280.other W299 (Or.inl ne_a0_b76)
        have F303 : Fld Z h299 a0 "com/example/sieveline/sieveline/model/CurrentDomains" "dense" "[[I" (.ref b48) := F281.other W299 (Or.inl ne_a0_b76)
        have F304 : Fld Z h299 a0 "com/example/sieveline/sieveline/model/CurrentDomains" "position" "[[I" (.ref b76) := F282.other W299 (Or.inl ne_a0_b76)
        have F305 : Fld Z h299 a0 "com/example/sieveline/sieveline/model/CurrentDomains" "top" "I" (.int (0 : Int32)) := F283.other W299 (Or.inl ne_a0_b76)
        have F306 : ownAI Z h299 a1 .int 2 (ownUpd (ownUpd (fun _ => (0 : Int32)) 0 m0) 1 m1) := F284.other W299 ne_a1_b76
        have F307 : Exa Z h299 a1 "[I" := F285.wr W299
        have F308 : Exa Z h299 b2 "[I" := F286.wr W299
        have F309 : ownAI Z h299 b2 .int 64 (fun _ => (0 : Int32)) := F287.other W299 ne_b2_b76
        have F310 : ownAI Z h299 b23 .int 2 (ownUpd (ownUpd (fun _ => (0 : Int32)) 0 m0) 1 m1) := F288.other W299 ne_b23_b76
        have F311 : Exa Z h299 b23 "[I" := F289.wr W299
        have F312 : Exa Z h299 b107 "[I" := F290.wr W299
        have F313 : Exa Z h299 b140 "[I" := F291.wr W299
        have F314 : ownAI Z h299 b107 .int (m0.toNatClampNeg) own_id := F293.other W299 (Ne.symm ne_b76_b107)
        have F315 : ownAI Z h299 b140 .int (m0.toNatClampNeg) own_id := F294.other W299 (Ne.symm ne_b76_b140)
        have F316 : Exa Z h299 b236 "[I" := F295.wr W299
        have F317 : ownAI Z h299 b236 .int (m1.toNatClampNeg) (fun _ => (0 : Int32)) := F296.other W299 (Ne.symm ne_b76_b236)
        have F318 : ownAR Z h299 b48 k48 2 (ownUpd (ownUpd (fun _ => Value.null) 0 (.ref b107)) 1 (.ref b236)) := F297.other W299 ne_b48_b76
        have F319 : Exa Z h299 b277 "[I" := EA277.wr W299
        have F320 : ownAI Z h299 b277 .int (m1.toNatClampNeg) (fun _ => (0 : Int32)) := F298.other W299 (Ne.symm ne_b76_b277)
        refine ownGo (T' := T299) (f' := (mkF m 71 #[rv a0, rv a1, iv (1 : Int32), iv j176] [])) (st299) ?_
        refine ow_iconst (q := 72) X299 hx (0 : Int32) (hb hby own_d1_71) rfl rfl ?_
        refine ow_istoreN (q := 73) X299 hx (L' := #[rv a0, rv a1, iv (1 : Int32), iv (0 : Int32)]) (hb hby own_d1_72) rfl rfl ?_
        have lp321 : ∀ (kk321 : Nat) (j321 : Int32) (gD321 gQ321 : Nat → Int32) (Tc321 : State) (lc321 : List Loc) (hc321 : Heap), Stand p l e ({ frames := 1, cells := 8, slots := 90, locals := 15 } : Room) s m #[(.ref a0), (.ref a1)] below meth c Tc321 lc321 8 90 → Tc321.heap = hc321 → Fr n0 lc321 → Keep h299 hc321 [b236, b277] → ownAI Z hc321 b236 .int (m1.toNatClampNeg) gD321 → ownAI Z hc321 b277 .int (m1.toNatClampNeg) gQ321 → m1.toInt.toNat - j321.toInt.toNat < kk321 → (0 ≤ j321.toInt ∧ j321.toInt ≤ m1.toInt ∧ m1.toInt ≤ 5) → (∀ i, i < j321.toNatClampNeg → gD321 i = own_id i ∧ gQ321 i = own_id i) → ownEnds p e below s (Q_init Z a0 a1 m0 m1 h0 n0) ({ frames := 1, cells := 8, slots := 90, locals := 15 } : Room).cells ({ frames := 1, cells := 8, slots := 90, locals := 15 } : Room).slots Tc321 (mkF m 73 #[rv a0, rv a1, iv (1 : Int32), iv j321] []) := by
          intro kk321
          induction kk321 with
          | zero => intro j321 gD321 gQ321 Tc321 lc321 hc321 Xc321 ec321 Nc321 KL321 FD321 FQ321 hm321 hjb321 hjp321; exact absurd hm321 (Nat.not_lt_zero _)
          | succ kk321 ih321 =>
            intro j321 gD321 gQ321 Tc321 lc321 hc321 Xc321 ec321 Nc321 KL321 FD321 FQ321 hm321 hjb321 hjp321
            have K321 : Keep h0 hc321 [a0] := K299.trans KL321 (allS (Or.inr sz_b236) (allS (Or.inr sz_b277) all0))
            have F322 : Exa Z hc321 a0 "com/example/sieveline/sieveline/model/CurrentDomains" := F300.keep KL321
            have F323 : Fld Z hc321 a0 "com/example/sieveline/sieveline/model/CurrentDomains" "trail" "[I" (.ref b2) := F301.keep KL321 (ninS ne_a0_b236 (ninS ne_a0_b277 nin0))
            have F324 : Fld Z hc321 a0 "com/example/sieveline/sieveline/model/CurrentDomains" "size" "[I" (.ref b23) := F302.keep KL321 (ninS ne_a0_b236 (ninS ne_a0_b277 nin0))
            have F325 : Fld Z hc321 a0 "com/example/sieveline/sieveline/model/CurrentDomains" "dense" "[[I" (.ref b48) := F303.keep KL321 (ninS ne_a0_b236 (ninS ne_a0_b277 nin0))
            have F326 : Fld Z hc321 a0 "com/example/sieveline/sieveline/model/CurrentDomains" "position" "[[I" (.ref b76) := F304.keep KL321 (ninS ne_a0_b236 (ninS ne_a0_b277 nin0))
            have F327 : Fld Z hc321 a0 "com/example/sieveline/sieveline/model/CurrentDomains" "top" "I" (.int (0 : Int32)) := F305.keep KL321 (ninS ne_a0_b236 (ninS ne_a0_b277 nin0))
            have F328 : ownAI Z hc321 a1 .int 2 (ownUpd (ownUpd (fun _ => (0 : Int32)) 0 m0) 1 m1) := F306.keep KL321 (ninS ne_a1_b236 (ninS ne_a1_b277 nin0))
            have F329 : Exa Z hc321 a1 "[I" := F307.keep KL321
            have F330 : Exa Z hc321 b2 "[I" := F308.keep KL321
            have F331 : ownAI Z hc321 b2 .int 64 (fun _ => (0 : Int32)) := F309.keep KL321 (ninS ne_b2_b236 (ninS ne_b2_b277 nin0))
            have F332 : ownAI Z hc321 b23 .int 2 (ownUpd (ownUpd (fun _ => (0 : Int32)) 0 m0) 1 m1) := F310.keep KL321 (ninS ne_b23_b236 (ninS ne_b23_b277 nin0))
            have F333 : Exa Z hc321 b23 "[I" := F311.keep KL321
            have F334 : Exa Z hc321 b107 "[I" := F312.keep KL321
            have F335 : Exa Z hc321 b140 "[I" := F313.keep KL321
            have F336 : ownAI Z hc321 b107 .int (m0.toNatClampNeg) own_id := F314.keep KL321 (ninS ne_b107_b236 (ninS ne_b107_b277 nin0))
            have F337 : ownAI Z hc321 b140 .int (m0.toNatClampNeg) own_id := F315.keep KL321 (ninS ne_b140_b236 (ninS ne_b140_b277 nin0))
            have F338 : Exa Z hc321 b236 "[I" := F316.keep KL321
            have F339 : ownAR Z hc321 b48 k48 2 (ownUpd (ownUpd (fun _ => Value.null) 0 (.ref b107)) 1 (.ref b236)) := F318.keep KL321 (ninS ne_b48_b236 (ninS ne_b48_b277 nin0))
            have F340 : Exa Z hc321 b277 "[I" := F319.keep KL321
            have F341 : ownAR Z hc321 b76 k76 2 (ownUpd (ownUpd (fun _ => Value.null) 0 (.ref b140)) 1 (.ref b277)) := F299r.keep KL321 (ninS ne_b76_b236 (ninS ne_b76_b277 nin0))
            refine ow_iloadN (q := 74) Xc321 hx (hb hby own_d1_73) rfl rfl ?_
            refine ow_aloadN (q := 75) Xc321 hx (hb hby own_d1_74) rfl rfl rfl ?_
            refine ow_iloadN (q := 76) Xc321 hx (hb hby own_d1_75) rfl rfl ?_
            refine ownGo (T' := Tc321) (f' := (mkF m 77 #[rv a0, rv a1, iv (1 : Int32), iv j321] [(.int m1), (.int j321)])) (ownIaload F328 Xc321 hx hZ ec321 (j := (1 : Int32)) (by unfold ownIn; decide) (g := (mkF m 76 #[rv a0, rv a1, iv (1 : Int32), iv j321] [(.int (1 : Int32)), (.ref a1), (.int j321)])) rfl rfl (hb hby own_d1_76)) ?_
            by_cases hc77_342 : j321 < m1
            · refine ow_icmpNo (q := 80) Xc321 hx (hb hby own_d1_77) rfl (Jvm.Free.XT.ii_ge_f hc77_342) ?_
              refine ow_aloadN (q := 81) Xc321 hx (hb hby own_d1_80) rfl rfl rfl ?_
              obtain ⟨T343, X343, e343, st343⟩ := getF Xc321 hx hZ hown (host := "") (Or.inl (ww 25 rfl)) Via.refl ec321 F325 (g := (mkF m 81 #[rv a0, rv a1, iv (1 : Int32), iv j321] [(.ref a0)])) rfl rfl (hb hby own_d1_81)
              refine ownGo (T' := T343) (f' := (mkF m 84 #[rv a0, rv a1, iv (1 : Int32), iv j321] [(.ref b48)])) (st343) ?_
              refine ow_iloadN (q := 85) X343 hx (hb hby own_d1_84) rfl rfl ?_
              refine ownGo (T' := T343) (f' := (mkF m 86 #[rv a0, rv a1, iv (1 : Int32), iv j321] [(.ref b236)])) (ownAaload F339 X343 hx hZ e343 (j := (1 : Int32)) (by unfold ownIn; decide) (g := (mkF m 85 #[rv a0, rv a1, iv (1 : Int32), iv j321] [(.int (1 : Int32)), (.ref b48)])) rfl rfl (hb hby own_d1_85)) ?_
              refine ow_iloadN (q := 87) X343 hx (hb hby own_d1_86) rfl rfl ?_
              refine ow_iloadN (q := 88) X343 hx (hb hby own_d1_87) rfl rfl ?_
              obtain ⟨T344, h344, X344, e344, W344, F344s, st344⟩ := ownIastore FD321 X343 hx hZ e343 (j := j321) (own_ij hjb321 hc77_342) (g := (mkF m 88 #[rv a0, rv a1, iv (1 : Int32), iv j321] [(.int j321), (.int j321), (.ref b236)])) rfl rfl (hb hby own_d1_88)
              generalize hg_gf344 : (ownUpd gD321 j321.toNatClampNeg j321) = gf344 at F344s
              have N344 := Fr.snoc X344 Nc321 G_b236
              have K344 : Keep h0 h344 [a0] := K321.wr W344 (Or.inr sz_b236)
              have KL344 : Keep h299 h344 [b236, b277] := KL321.wr W344 (Or.inl (List.mem_of_getElem? (i := 0) rfl))
              have F345 : Exa Z h344 a0 "com/example/sieveline/sieveline/model/CurrentDomains" := F322.wr W344
              have F346 : Fld Z h344 a0 "com/example/sieveline/sieveline/model/CurrentDomains" "trail" "[I" (.ref b2) := F323.other W344 (Or.inl ne_a0_b236)
              have F347 : Fld Z h344 a0 "com/example/sieveline/sieveline/model/CurrentDomains" "size" "[I" (.ref b23) := F324.other W344 (Or.inl ne_a0_b236)
              have F348 : Fld Z h344 a0 "com/example/sieveline/sieveline/model/CurrentDomains" "dense" "[[I" (.ref b48) := F325.other W344 (Or.inl ne_a0_b236)
              have F349 : Fld Z h344 a0 "com/example/sieveline/sieveline/model/CurrentDomains" "position" "[[I" (.ref b76) := F326.other W344 (Or.inl ne_a0_b236)
              have F350 : Fld Z h344 a0 "com/example/sieveline/sieveline/model/CurrentDomains" "top" "I" (.int (0 : Int32)) := F327.other W344 (Or.inl ne_a0_b236)
              have F351 : ownAI Z h344 a1 .int 2 (ownUpd (ownUpd (fun _ => (0 : Int32)) 0 m0) 1 m1) := F328.other W344 ne_a1_b236
              have F352 : Exa Z h344 a1 "[I" := F329.wr W344
              have F353 : Exa Z h344 b2 "[I" := F330.wr W344
              have F354 : ownAI Z h344 b2 .int 64 (fun _ => (0 : Int32)) := F331.other W344 ne_b2_b236
              have F355 : ownAI Z h344 b23 .int 2 (ownUpd (ownUpd (fun _ => (0 : Int32)) 0 m0) 1 m1) := F332.other W344 ne_b23_b236
              have F356 : Exa Z h344 b23 "[I" := F333.wr W344
              have F357 : Exa Z h344 b107 "[I" := F334.wr W344
              have F358 : Exa Z h344 b140 "[I" := F335.wr W344
              have F359 : ownAI Z h344 b107 .int (m0.toNatClampNeg) own_id := F336.other W344 ne_b107_b236
              have F360 : ownAI Z h344 b140 .int (m0.toNatClampNeg) own_id := F337.other W344 ne_b140_b236
              have F361 : Exa Z h344 b236 "[I" := F338.wr W344
              have F362 : ownAR Z h344 b48 k48 2 (ownUpd (ownUpd (fun _ => Value.null) 0 (.ref b107)) 1 (.ref b236)) := F339.other W344 ne_b48_b236
              have F363 : Exa Z h344 b277 "[I" := F340.wr W344
              have F364 : ownAR Z h344 b76 k76 2 (ownUpd (ownUpd (fun _ => Value.null) 0 (.ref b140)) 1 (.ref b277)) := F341.other W344 ne_b76_b236
              have F365 : ownAI Z h344 b277 .int (m1.toNatClampNeg) gQ321 := FQ321.other W344 (Ne.symm ne_b236_b277)
              refine ownGo (T' := T344) (f' := (mkF m 89 #[rv a0, rv a1, iv (1 : Int32), iv j321] [])) (st344) ?_
              refine ow_aloadN (q := 90) X344 hx (hb hby own_d1_89) rfl rfl rfl ?_
              obtain ⟨T366, X366, e366, st366⟩ := getF X344 hx hZ hown (host := "") (Or.inl (ww 27 rfl)) Via.refl e344 F349 (g := (mkF m 90 #[rv a0, rv a1, iv (1 : Int32), iv j321] [(.ref a0)])) rfl rfl (hb hby own_d1_90)
              refine ownGo (T' := T366) (f' := (mkF m 93 #[rv a0, rv a1, iv (1 : Int32), iv j321] [(.ref b76)])) (st366) ?_
              refine ow_iloadN (q := 94) X366 hx (hb hby own_d1_93) rfl rfl ?_
              refine ownGo (T' := T366) (f' := (mkF m 95 #[rv a0, rv a1, iv (1 : Int32), iv j321] [(.ref b277)])) (ownAaload F364 X366 hx hZ e366 (j := (1 : Int32)) (by unfold ownIn; decide) (g := (mkF m 94 #[rv a0, rv a1, iv (1 : Int32), iv j321] [(.int (1 : Int32)), (.ref b76)])) rfl rfl (hb hby own_d1_94)) ?_
              refine ow_iloadN (q := 96) X366 hx (hb hby own_d1_95) rfl rfl ?_
              refine ow_iloadN (q := 97) X366 hx (hb hby own_d1_96) rfl rfl ?_
              obtain ⟨T367, h367, X367, e367, W367, F367s, st367⟩ := ownIastore F365 X366 hx hZ e366 (j := j321) (own_ij hjb321 hc77_342) (g := (mkF m 97 #[rv a0, rv a1, iv (1 : Int32), iv j321] [(.int j321), (.int j321), (.ref b277)])) rfl rfl (hb hby own_d1_97)
              generalize hg_gf367 : (ownUpd gQ321 j321.toNatClampNeg j321) = gf367 at F367s
              have N367 := Fr.snoc X367 N344 G_b277
              have K367 : Keep h0 h367 [a0] := K344.wr W367 (Or.inr sz_b277)
              have KL367 : Keep h299 h367 [b236, b277] := KL344.wr W367 (Or.inl (List.mem_of_getElem? (i := 1) rfl))
              have F368 : Exa Z h367 a0 "com/example/sieveline/sieveline/model/CurrentDomains" := F345.wr W367
              have F369 : Fld Z h367 a0 "com/example/sieveline/sieveline/model/CurrentDomains" "trail" "[I" (.ref b2) := F346.other W367 (Or.inl ne_a0_b277)
              have F370 : Fld Z h367 a0 "com/example/sieveline/sieveline/model/CurrentDomains" "size" "[I" (.ref b23) := F347.other W367 (Or.inl ne_a0_b277)
              have F371 : Fld Z h367 a0 "com/example/sieveline/sieveline/model/CurrentDomains" "dense" "[[I" (.ref b48) := F348.other W367 (Or.inl ne_a0_b277)
              have F372 : Fld Z h367 a0 "com/example/sieveline/sieveline/model/CurrentDomains" "position" "[[I" (.ref b76) := F349.other W367 (Or.inl ne_a0_b277)
              have F373 : Fld Z h367 a0 "com/example/sieveline/sieveline/model/CurrentDomains" "top" "I" (.int (0 : Int32)) := F350.other W367 (Or.inl ne_a0_b277)
              have F374 : ownAI Z h367 a1 .int 2 (ownUpd (ownUpd (fun _ => (0 : Int32)) 0 m0) 1 m1) := F351.other W367 ne_a1_b277
              have F375 : Exa Z h367 a1 "[I" := F352.wr W367
              have F376 : Exa Z h367 b2 "[I" := F353.wr W367
              have F377 : ownAI Z h367 b2 .int 64 (fun _ => (0 : Int32)) := F354.other W367 ne_b2_b277
              have F378 : ownAI Z h367 b23 .int 2 (ownUpd (ownUpd (fun _ => (0 : Int32)) 0 m0) 1 m1) := F355.other W367 ne_b23_b277
              have F379 : Exa Z h367 b23 "[I" := F356.wr W367
              have F380 : Exa Z h367 b107 "[I" := F357.wr W367
              have F381 : Exa Z h367 b140 "[I" := F358.wr W367
              have F382 : ownAI Z h367 b107 .int (m0.toNatClampNeg) own_id := F359.other W367 ne_b107_b277
              have F383 : ownAI Z h367 b140 .int (m0.toNatClampNeg) own_id := F360.other W367 ne_b140_b277
              have F384 : Exa Z h367 b236 "[I" := F361.wr W367
              have F385 : ownAR Z h367 b48 k48 2 (ownUpd (ownUpd (fun _ => Value.null) 0 (.ref b107)) 1 (.ref b236)) := F362.other W367 ne_b48_b277
              have F386 : Exa Z h367 b277 "[I" := F363.wr W367
              have F387 : ownAR Z h367 b76 k76 2 (ownUpd (ownUpd (fun _ => Value.null) 0 (.ref b140)) 1 (.ref b277)) := F364.other W367 ne_b76_b277
              have F388 : ownAI Z h367 b236 .int (m1.toNatClampNeg) gf344 := F344s.other W367 ne_b236_b277
              refine ownGo (T' := T367) (f' := (mkF m 98 #[rv a0, rv a1, iv (1 : Int32), iv j321] [])) (st367) ?_
              refine ow_iinc (q := 101) X367 hx (L' := #[rv a0, rv a1, iv (1 : Int32), iv (j321 + (1 : Int32))]) (hb hby own_d1_98) rfl rfl rfl ?_
              generalize hv_v389 : (j321 + (1 : Int32)) = v389
              refine ow_goto (q := 73) X367 hx (hb hby own_d1_101) (by decide) (by decide) ?_
              exact ih321 v389 gf344 gf367 _ _ _ X367 e367 N367 KL367 F388 F367s (own_tm hm321 hjb321 hv_v389 hc77_342) (own_tb hjb321 hv_v389 hc77_342) (own_tp hjp321 hjb321 hv_v389 hg_gf344 hg_gf367 hc77_342)
            · refine ow_icmpYes (q := 104) Xc321 hx (hb hby own_d1_77) (Jvm.Free.XT.ii_ge_t hc77_342) (by decide) (by decide) ?_
              have F390 : ownAI Z hc321 b236 .int (m1.toNatClampNeg) own_id := FD321.congr (fun i hi => (hjp321 i (own_te hjb321 hc77_342 hi)).1)
              have F391 : ownAI Z hc321 b277 .int (m1.toNatClampNeg) own_id := FQ321.congr (fun i hi => (hjp321 i (own_te hjb321 hc77_342 hi)).2)
              refine ow_iinc (q := 107) Xc321 hx (L' := #[rv a0, rv a1, iv (2 : Int32), iv j321]) (hb hby own_d1_104) rfl rfl rfl ?_
              refine ow_goto (q := 43) Xc321 hx (hb hby own_d1_107) (by decide) (by decide) ?_
              refine ow_iloadN (q := 44) Xc321 hx (hb hby own_d1_43) rfl rfl ?_
              refine ow_aloadN (q := 45) Xc321 hx (hb hby own_d1_44) rfl rfl rfl ?_
              refine ownGo (T' := Tc321) (f' := (mkF m 46 #[rv a0, rv a1, iv (2 : Int32), iv j321] [(.int (2 : Int32)), (.int (2 : Int32))])) (ownLenI F328 Xc321 hx hZ ec321 (z := (2 : Int32)) (by decide) (g := (mkF m 45 #[rv a0, rv a1, iv (2 : Int32), iv j321] [(.ref a1), (.int (2 : Int32))])) rfl rfl (hb hby own_d1_45)) ?_
              refine ow_icmpYes (q := 110) Xc321 hx (hb hby own_d1_46) (Jvm.Free.XT.ii_ge_t (by decide)) (by decide) (by decide) ?_
              refine ownRetV Xc321 hx Bd.returns (hb hby own_d1_110) hlk (by decide) (by decide) ?_
              rw [ec321]
              refine ⟨b2, b23, b48, b76, b107, b140, b236, b277, k48, k76, rfl, Nc321, K321, sz_b2, sz_b23, sz_b48, sz_b76, sz_b107, sz_b140, sz_b236, sz_b277, F322, F323, F324, F325, F326, F327, F331, F332, F339, F341, F336, F337, F390, F391, ?_⟩
              exact ⟨ne_b2_b23, ne_b2_b48, ne_b2_b76, ne_b2_b107, ne_b2_b140, ne_b2_b236, ne_b2_b277, ne_b23_b48, ne_b23_b76, ne_b23_b107, ne_b23_b140, ne_b23_b236, ne_b23_b277, ne_b48_b76, ne_b48_b107, ne_b48_b140, ne_b48_b236, ne_b48_b277, ne_b76_b107, ne_b76_b140, ne_b76_b236, ne_b76_b277, ne_b107_b140, ne_b107_b236, ne_b107_b277, ne_b140_b236, ne_b140_b277, ne_b236_b277⟩
        exact lp321 _ (0 : Int32) _ _ _ _ _ X299 e299 N299 (Keep.refl _ _) F317 F320 (Nat.lt_succ_self _) (own_b0 hb1) (fun i hi => absurd hi (Nat.not_lt_zero _))
  exact lp176 _ (0 : Int32) _ _ _ _ _ X158 e158 N158 (Keep.refl _ _) F172 F175 (Nat.lt_succ_self _) (own_b0 hb0) (fun i hi => absurd hi (Nat.not_lt_zero _))
theorem own_d5_0 : decode prog_10_method_10_code 0 = .ok (.aload_n 0, 1) := by decide +kernel
theorem own_d5_1 : decode prog_10_method_10_code 1 = .ok (.getfield 36, 3) := by decide +kernel
theorem own_d5_4 : decode prog_10_method_10_code 4 = .ok (.aload_n 0, 1) := by decide +kernel
theorem own_d5_5 : decode prog_10_method_10_code 5 = .ok (.getfield 7, 3) := by decide +kernel
theorem own_d5_8 : decode prog_10_method_10_code 8 = .ok (.arraylength, 1) := by decide +kernel
theorem own_d5_9 : decode prog_10_method_10_code 9 = .ok (.if_icmp .ne 21, 3) := by decide +kernel
theorem own_d5_30 : decode prog_10_method_10_code 30 = .ok (.aload_n 0, 1) := by decide +kernel
theorem own_d5_31 : decode prog_10_method_10_code 31 = .ok (.getfield 7, 3) := by decide +kernel
theorem own_d5_34 : decode prog_10_method_10_code 34 = .ok (.aload_n 0, 1) := by decide +kernel
theorem own_d5_35 : decode prog_10_method_10_code 35 = .ok (.dup, 1) := by decide +kernel
theorem own_d5_36 : decode prog_10_method_10_code 36 = .ok (.getfield 36, 3) := by decide +kernel
theorem own_d5_39 : decode prog_10_method_10_code 39 = .ok (.dup_x1, 1) := by decide +kernel
theorem own_d5_40 : decode prog_10_method_10_code 40 = .ok (.iconst 1, 1) := by decide +kernel
theorem own_d5_41 : decode prog_10_method_10_code 41 = .ok (.iadd, 1) := by decide +kernel
theorem own_d5_42 : decode prog_10_method_10_code 42 = .ok (.putfield 36, 3) := by decide +kernel
theorem own_d5_45 : decode prog_10_method_10_code 45 = .ok (.iload_n 1, 1) := by decide +kernel
theorem own_d5_46 : decode prog_10_method_10_code 46 = .ok (.iastore, 1) := by decide +kernel
theorem own_d5_47 : decode prog_10_method_10_code 47 = .ok (.aload_n 0, 1) := by decide +kernel
theorem own_d5_48 : decode prog_10_method_10_code 48 = .ok (.getfield 7, 3) := by decide +kernel
theorem own_d5_51 : decode prog_10_method_10_code 51 = .ok (.aload_n 0, 1) := by decide +kernel
theorem own_d5_52 : decode prog_10_method_10_code 52 = .ok (.dup, 1) := by decide +kernel
theorem own_d5_53 : decode prog_10_method_10_code 53 = .ok (.getfield 36, 3) := by decide +kernel
theorem own_d5_56 : decode prog_10_method_10_code 56 = .ok (.dup_x1, 1) := by decide +kernel
theorem own_d5_57 : decode prog_10_method_10_code 57 = .ok (.iconst 1, 1) := by decide +kernel
theorem own_d5_58 : decode prog_10_method_10_code 58 = .ok (.iadd, 1) := by decide +kernel
theorem own_d5_59 : decode prog_10_method_10_code 59 = .ok (.putfield 36, 3) := by decide +kernel
theorem own_d5_62 : decode prog_10_method_10_code 62 = .ok (.aload_n 0, 1) := by decide +kernel
theorem own_d5_63 : decode prog_10_method_10_code 63 = .ok (.getfield 18, 3) := by decide +kernel
theorem own_d5_66 : decode prog_10_method_10_code 66 = .ok (.iload_n 1, 1) := by decide +kernel
theorem own_d5_67 : decode prog_10_method_10_code 67 = .ok (.iaload, 1) := by decide +kernel
theorem own_d5_68 : decode prog_10_method_10_code 68 = .ok (.iastore, 1) := by decide +kernel
theorem own_d5_69 : decode prog_10_method_10_code 69 = .ok (.return_, 1) := by decide +kernel
theorem own_ef5_record_0_0 (m : MethodId) (a0 : Addr) : entryFrame m #[(.ref a0), (.int (0 : Int32))] 2 = mkF m 0 #[rv a0, iv (0 : Int32)] [] := by first | (simp [entryFrame, mkF, argsToLocals, Value.category]; done) | rfl
def Q_record_0_0 (Z : State) (a0 : Addr) (at_ : Addr) (as_ : Addr) (ad : Addr) (ap : Addr) (gt : Nat → Int32) (gs : Nat → Int32) (h0 : Heap) (n0 : Nat) (v : Option Value) (h : Heap) (L : List Loc) : Prop := v = none ∧ Fr n0 L ∧ Keep h0 h [a0, at_] ∧ Exa Z h a0 "com/example/sieveline/sieveline/model/CurrentDomains" ∧ Fld Z h a0 "com/example/sieveline/sieveline/model/CurrentDomains" "trail" "[I" (.ref at_) ∧ Fld Z h a0 "com/example/sieveline/sieveline/model/CurrentDomains" "size" "[I" (.ref as_) ∧ Fld Z h a0 "com/example/sieveline/sieveline/model/CurrentDomains" "dense" "[[I" (.ref ad) ∧ Fld Z h a0 "com/example/sieveline/sieveline/model/CurrentDomains" "position" "[[I" (.ref ap) ∧ Fld Z h a0 "com/example/sieveline/sieveline/model/CurrentDomains" "top" "I" (.int (2 : Int32)) ∧ ownAI Z h at_ .int 64 (ownUpd (ownUpd gt 0 (0 : Int32)) 1 (gs 0))
set_option maxRecDepth 65536 in
set_option maxHeartbeats 40000000 in
theorem rm_record_0_0 (l : Launch) (Z : State) (av0 : Array Value) (hw : ∀ d ∈ tables_1, d.before av0 Z = true) (ws : List Jvm.Cond) (a0 : Addr) (at_ : Addr) (as_ : Addr) (ad : Addr) (ap : Addr) (gt : Nat → Int32) (gs : Nat → Int32) (h0 : Heap) (n0 : Nat) (Z0 : n0 ≤ h0.size) (HF0 : Exa Z h0 a0 "com/example/sieveline/sieveline/model/CurrentDomains") (HF1 : Fld Z h0 a0 "com/example/sieveline/sieveline/model/CurrentDomains" "trail" "[I" (.ref at_)) (HF2 : Fld Z h0 a0 "com/example/sieveline/sieveline/model/CurrentDomains" "size" "[I" (.ref as_)) (HF3 : Fld Z h0 a0 "com/example/sieveline/sieveline/model/CurrentDomains" "dense" "[[I" (.ref ad)) (HF4 : Fld Z h0 a0 "com/example/sieveline/sieveline/model/CurrentDomains" "position" "[[I" (.ref ap)) (HF5 : Fld Z h0 a0 "com/example/sieveline/sieveline/model/CurrentDomains" "top" "I" (.int (0 : Int32))) (HF6 : ownAI Z h0 at_ .int 64 gt) (HF7 : ownAI Z h0 as_ .int 2 gs) (G_a0 : n0 ≤ a0) (G_at_ : n0 ≤ at_) (hn1 : a0 ≠ at_) (hn2 : a0 ≠ as_) (hn3 : at_ ≠ as_) :
    MetFree l (⟨"com/example/sieveline/sieveline/model/CurrentDomains", "record", "(I)V"⟩ : MethodName) (head1 (Jvm.Cond.code (⟨"com/example/sieveline/sieveline/model/CurrentDomains", "record", "(I)V"⟩ : MethodName) prog_10_method_10_code 2 none :: ws) ({ frames := 0, cells := 0, slots := 0, locals := 0 } : Room)) (fun a U => a = #[(.ref a0), (.int (0 : Int32))] ∧ Z.Warmed39 U.vm ∧ U.heap = h0) (fun _ _ _ _ _ => True) (fun _ U o U' => ∃ v L, o = .returned v ∧ (Q_record_0_0 Z a0 at_ as_ ad ap gt gs h0 n0) v U'.heap L ∧ FrameEnd U o U' L ({ frames := 0, cells := 0, slots := 0, locals := 0 } : Room).cells ({ frames := 0, cells := 0, slots := 0, locals := 0 } : Room).slots) := by
  refine MetFree.of_bodySF (plainFor_of_name own_pn_CurrentDomains) hisR ?_
  intro p e s m args below meth c s₁ Bd hml0 hP hK
  obtain ⟨rfl, hZ, hh⟩ := hP
  have hx := Bd.exec
  have hby := Bd.bytes
  have hml : c.maxLocals = 2 := hml0
  have hown : s.vm.findClass "com/example/sieveline/sieveline/model/CurrentDomains" = some m.cls := findClass_of_methodNamed Bd.named
  have hnm := (name_of_methodNamed Bd.named Bd.method).1
  have hlk : meth.locks = false := BodyLoose.notSynchronized Bd
  have X0 : Stand p l e ({ frames := 0, cells := 0, slots := 0, locals := 0 } : Room) s m #[(.ref a0), (.int (0 : Int32))] below meth c s₁ [] 0 0 := Stand.of_body Bd
  have e0 : s₁.heap = h0 := by rw [← hh, Bd.state]; rfl
  have N0 := Fr.nil n0
  have K0 : Keep h0 h0 [a0, at_] := Keep.refl _ _
  have ww : ∀ (k : Nat) {d : Jvm.Cond}, tables_1[k]? = some d → d.before av0 Z = true := fun k d h => hw d (List.mem_of_getElem? h)
  show ownEnds p e below s (Q_record_0_0 Z a0 at_ as_ ad ap gt gs h0 n0) ({ frames := 0, cells := 0, slots := 0, locals := 0 } : Room).cells ({ frames := 0, cells := 0, slots := 0, locals := 0 } : Room).slots s₁ (entryFrame m #[(.ref a0), (.int (0 : Int32))] 2)
  refine ownCast (own_ef5_record_0_0 m a0) ?_
  refine ow_aloadN (q := 1) X0 hx (hb hby own_d5_0) rfl rfl rfl ?_
  obtain ⟨T1, X1, e1, st1⟩ := getF X0 hx hZ hown (host := "") (Or.inl (ww 34 rfl)) Via.refl e0 HF5 (g := (mkF m 1 #[rv a0, iv (0 : Int32)] [(.ref a0)])) rfl rfl (hb hby own_d5_1)
  refine ownGo (T' := T1) (f' := (mkF m 4 #[rv a0, iv (0 : Int32)] [(.int (0 : Int32))])) (st1) ?_
  refine ow_aloadN (q := 5) X1 hx (hb hby own_d5_4) rfl rfl rfl ?_
  obtain ⟨T2, X2, e2, st2⟩ := getF X1 hx hZ hown (host := "") (Or.inl (ww 11 rfl)) Via.refl e1 HF1 (g := (mkF m 5 #[rv a0, iv (0 : Int32)] [(.ref a0), (.int (0 : Int32))])) rfl rfl (hb hby own_d5_5)
  refine ownGo (T' := T2) (f' := (mkF m 8 #[rv a0, iv (0 : Int32)] [(.ref at_), (.int (0 : Int32))])) (st2) ?_
  refine ownGo (T' := T2) (f' := (mkF m 9 #[rv a0, iv (0 : Int32)] [(.int (64 : Int32)), (.int (0 : Int32))])) (ownLenI HF6 X2 hx hZ e2 (z := (64 : Int32)) (by decide) (g := (mkF m 8 #[rv a0, iv (0 : Int32)] [(.ref at_), (.int (0 : Int32))])) rfl rfl (hb hby own_d5_8)) ?_
  refine ow_icmpYes (q := 30) X2 hx (hb hby own_d5_9) (Jvm.Free.XT.ii_ne_t (by decide)) (by decide) (by decide) ?_
  refine ow_aloadN (q := 31) X2 hx (hb hby own_d5_30) rfl rfl rfl ?_
  obtain ⟨T3, X3, e3, st3⟩ := getF X2 hx hZ hown (host := "") (Or.inl (ww 11 rfl)) Via.refl e2 HF1 (g := (mkF m 31 #[rv a0, iv (0 : Int32)] [(.ref a0)])) rfl rfl (hb hby own_d5_31)
  refine ownGo (T' := T3) (f' := (mkF m 34 #[rv a0, iv (0 : Int32)] [(.ref at_)])) (st3) ?_
  refine ow_aloadN (q := 35) X3 hx (hb hby own_d5_34) rfl rfl rfl ?_
  refine ow_dup (q := 36) X3 hx (hb hby own_d5_35) rfl rfl ?_
  obtain ⟨T4, X4, e4, st4⟩ := getF X3 hx hZ hown (host := "") (Or.inl (ww 34 rfl)) Via.refl e3 HF5 (g := (mkF m 36 #[rv a0, iv (0 : Int32)] [(.ref a0), (.ref a0), (.ref at_)])) rfl rfl (hb hby own_d5_36)
  refine ownGo (T' := T4) (f' := (mkF m 39 #[rv a0, iv (0 : Int32)] [(.int (0 : Int32)), (.ref a0), (.ref at_)])) (st4) ?_
  refine ow_dupX1 (q := 40) X4 hx (hb hby own_d5_39) rfl rfl rfl ?_
  refine ow_iconst (q := 41) X4 hx (1 : Int32) (hb hby own_d5_40) rfl rfl ?_
  refine ow_iadd (q := 42) X4 hx (1 : Int32) (hb hby own_d5_41) rfl (by decide) ?_
  obtain ⟨T5, h5, X5, e5, W5, st5⟩ := putF X4 hx hZ hown (host := "") (Or.inl (ww 34 rfl)) Via.refl e4 HF5 HF0 (Or.inl (ww 35 rfl)) (ww 2 rfl) (ty := .int) (by decide) rfl rfl (g := (mkF m 42 #[rv a0, iv (0 : Int32)] [(.int (1 : Int32)), (.ref a0), (.int (0 : Int32)), (.ref at_)])) rfl rfl (hb hby own_d5_42)
  have N5 := Fr.snoc X5 N0 G_a0
  have K5 : Keep h0 h5 [a0, at_] := K0.wr W5 (Or.inl (List.mem_of_getElem? (i := 0) rfl))
  have F6 : Exa Z h5 a0 "com/example/sieveline/sieveline/model/CurrentDomains" := HF0.wr W5
  have F7 : Fld Z h5 a0 "com/example/sieveline/sieveline/model/CurrentDomains" "trail" "[I" (.ref at_) := HF1.other W5 (Or.inr (slot_ne (Or.inl (ww 12 rfl)) (Or.inl (ww 35 rfl)) (by decide) (t := (.array .int)) (t' := .int) (by decide) (by decide)))
  have F8 : Fld Z h5 a0 "com/example/sieveline/sieveline/model/CurrentDomains" "size" "[I" (.ref as_) := HF2.other W5 (Or.inr (slot_ne (Or.inr (ww 23 rfl)) (Or.inl (ww 35 rfl)) (by decide) (t := (.array .int)) (t' := .int) (by decide) (by decide)))
  have F9 : Fld Z h5 a0 "com/example/sieveline/sieveline/model/CurrentDomains" "dense" "[[I" (.ref ad) := HF3.other W5 (Or.inr (slot_ne (Or.inr (ww 26 rfl)) (Or.inl (ww 35 rfl)) (by decide) (t := (.array (.array .int))) (t' := .int) (by decide) (by decide)))
  have F10 : Fld Z h5 a0 "com/example/sieveline/sieveline/model/CurrentDomains" "position" "[[I" (.ref ap) := HF4.other W5 (Or.inr (slot_ne (Or.inr (ww 28 rfl)) (Or.inl (ww 35 rfl)) (by decide) (t := (.array (.array .int))) (t' := .int) (by decide) (by decide)))
  have F11 : Fld Z h5 a0 "com/example/sieveline/sieveline/model/CurrentDomains" "top" "I" (.int (1 : Int32)) := HF5.same W5
  have F12 : ownAI Z h5 at_ .int 64 gt := HF6.other W5 (Ne.symm hn1)
  have F13 : ownAI Z h5 as_ .int 2 gs := HF7.other W5 (Ne.symm hn2)
  refine ownGo (T' := T5) (f' := (mkF m 45 #[rv a0, iv (0 : Int32)] [(.int (0 : Int32)), (.ref at_)])) (st5) ?_
  refine ow_iloadN (q := 46) X5 hx (hb hby own_d5_45) rfl rfl ?_
  obtain ⟨T14, h14, X14, e14, W14, F14s, st14⟩ := ownIastore F12 X5 hx hZ e5 (j := (0 : Int32)) (by unfold ownIn; decide) (g := (mkF m 46 #[rv a0, iv (0 : Int32)] [(.int (0 : Int32)), (.int (0 : Int32)), (.ref at_)])) rfl rfl (hb hby own_d5_46)
  have F14r : ownAI Z h14 at_ .int 64 (ownUpd gt 0 (0 : Int32)) := F14s
  have N14 := Fr.snoc X14 N5 G_at_
  have K14 : Keep h0 h14 [a0, at_] := K5.wr W14 (Or.inl (List.mem_of_getElem? (i := 1) rfl))
  have F15 : Exa Z h14 a0 "com/example/sieveline/sieveline/model/CurrentDomains" := F6.wr W14
  have F16 : Fld Z h14 a0 "com/example/sieveline/sieveline/model/CurrentDomains" "trail" "[I" (.ref at_) := F7.other W14 (Or.inl hn1)
  have F17 : Fld Z h14 a0 "com/example/sieveline/sieveline/model/CurrentDomains" "size" "[I" (.ref as_) := F8.other W14 (Or.inl hn1)
  have F18 : Fld Z h14 a0 "com/example/sieveline/sieveline/model/CurrentDomains" "dense" "[[I" (.ref ad) := F9.other W14 (Or.inl hn1)
  have F19 : Fld Z h14 a0 "com/example/sieveline/sieveline/model/CurrentDomains" "position" "[[I" (.ref ap) := F10.other W14 (Or.inl hn1)
  have F20 : Fld Z h14 a0 "com/example/sieveline/sieveline/model/CurrentDomains" "top" "I" (.int (1 : Int32)) := F11.other W14 (Or.inl hn1)
  have F21 : ownAI Z h14 as_ .int 2 gs := F13.other W14 (Ne.symm hn3)
  refine ownGo (T' := T14) (f' := (mkF m 47 #[rv a0, iv (0 : Int32)] [])) (st14) ?_
  refine ow_aloadN (q := 48) X14 hx (hb hby own_d5_47) rfl rfl rfl ?_
  obtain ⟨T22, X22, e22, st22⟩ := getF X14 hx hZ hown (host := "") (Or.inl (ww 11 rfl)) Via.refl e14 F16 (g := (mkF m 48 #[rv a0, iv (0 : Int32)] [(.ref a0)])) rfl rfl (hb hby own_d5_48)
  refine ownGo (T' := T22) (f' := (mkF m 51 #[rv a0, iv (0 : Int32)] [(.ref at_)])) (st22) ?_
  refine ow_aloadN (q := 52) X22 hx (hb hby own_d5_51) rfl rfl rfl ?_
  refine ow_dup (q := 53) X22 hx (hb hby own_d5_52) rfl rfl ?_
  obtain ⟨T23, X23, e23, st23⟩ := getF X22 hx hZ hown (host := "") (Or.inl (ww 34 rfl)) Via.refl e22 F20 (g := (mkF m 53 #[rv a0, iv (0 : Int32)] [(.ref a0), (.ref a0), (.ref at_)])) rfl rfl (hb hby own_d5_53)
  refine ownGo (T' := T23) (f' := (mkF m 56 #[rv a0, iv (0 : Int32)] [(.int (1 : Int32)), (.ref a0), (.ref at_)])) (st23) ?_
  refine ow_dupX1 (q := 57) X23 hx (hb hby own_d5_56) rfl rfl rfl ?_
  refine ow_iconst (q := 58) X23 hx (1 : Int32) (hb hby own_d5_57) rfl rfl ?_
  refine ow_iadd (q := 59) X23 hx (2 : Int32) (hb hby own_d5_58) rfl (by decide) ?_
  obtain ⟨T24, h24, X24, e24, W24, st24⟩ := putF X23 hx hZ hown (host := "") (Or.inl (ww 34 rfl)) Via.refl e23 F20 F15 (Or.inl (ww 35 rfl)) (ww 2 rfl) (ty := .int) (by decide) rfl rfl (g := (mkF m 59 #[rv a0, iv (0 : Int32)] [(.int (2 : Int32)), (.ref a0), (.int (1 : Int32)), (.ref at_)])) rfl rfl (hb hby own_d5_59)
  have N24 := Fr.snoc X24 N14 G_a0
  have K24 : Keep h0 h24 [a0, at_] := K14.wr W24 (Or.inl (List.mem_of_getElem? (i := 0) rfl))
  have F25 : Exa Z h24 a0 "com/example/sieveline/sieveline/model/CurrentDomains" := F15.wr W24
  have F26 : Fld Z h24 a0 "com/example/sieveline/sieveline/model/CurrentDomains" "trail" "[I" (.ref at_) := F16.other W24 (Or.inr (slot_ne (Or.inl (ww 12 rfl)) (Or.inl (ww 35 rfl)) (by decide) (t := (.array .int)) (t' := .int) (by decide) (by decide)))
  have F27 : Fld Z h24 a0 "com/example/sieveline/sieveline/model/CurrentDomains" "size" "[I" (.ref as_) := F17.other W24 (Or.inr (slot_ne (Or.inr (ww 23 rfl)) (Or.inl (ww 35 rfl)) (by decide) (t := (.array .int)) (t' := .int) (by decide) (by decide)))
  have F28 : Fld Z h24 a0 "com/example/sieveline/sieveline/model/CurrentDomains" "dense" "[[I" (.ref ad) := F18.other W24 (Or.inr (slot_ne (Or.inr (ww 26 rfl)) (Or.inl (ww 35 rfl)) (by decide) (t := (.array (.array .int))) (t' := .int) (by decide) (by decide)))
  have F29 : Fld Z h24 a0 "com/example/sieveline/sieveline/model/CurrentDomains" "position" "[[I" (.ref ap) := F19.other W24 (Or.inr (slot_ne (Or.inr (ww 28 rfl)) (Or.inl (ww 35 rfl)) (by decide) (t := (.array (.array .int))) (t' := .int) (by decide) (by decide)))
  have F30 : Fld Z h24 a0 "com/example/sieveline/sieveline/model/CurrentDomains" "top" "I" (.int (2 : Int32)) := F20.same W24
  have F31 : ownAI Z h24 as_ .int 2 gs := F21.other W24 (Ne.symm hn2)
  have F32 : ownAI Z h24 at_ .int 64 (ownUpd gt 0 (0 : Int32)) := F14r.other W24 (Ne.symm hn1)
  refine ownGo (T' := T24) (f' := (mkF m 62 #[rv a0, iv (0 : Int32)] [(.int (1 : Int32)), (.ref at_)])) (st24) ?_
  refine ow_aloadN (q := 63) X24 hx (hb hby own_d5_62) rfl rfl rfl ?_
  obtain ⟨T33, X33, e33, st33⟩ := getF X24 hx hZ hown (host := "") (Or.inl (ww 22 rfl)) Via.refl e24 F27 (g := (mkF m 63 #[rv a0, iv (0 : Int32)] [(.ref a0), (.int (1 : Int32)), (.ref at_)])) rfl rfl (hb hby own_d5_63)
  refine ownGo (T' := T33) (f' := (mkF m 66 #[rv a0, iv (0 : Int32)] [(.ref as_), (.int (1 : Int32)), (.ref at_)])) (st33) ?_
  refine ow_iloadN (q := 67) X33 hx (hb hby own_d5_66) rfl rfl ?_
  refine ownGo (T' := T33) (f' := (mkF m 68 #[rv a0, iv (0 : Int32)] [(.int (gs 0)), (.int (1 : Int32)), (.ref at_)])) (ownIaload F31 X33 hx hZ e33 (j := (0 : Int32)) (by unfold ownIn; decide) (g := (mkF m 67 #[rv a0, iv (0 : Int32)] [(.int (0 : Int32)), (.ref as_), (.int (1 : Int32)), (.ref at_)])) rfl rfl (hb hby own_d5_67)) ?_
  generalize hv_v34 : (gs 0) = v34
  obtain ⟨T35, h35, X35, e35, W35, F35s, st35⟩ := ownIastore F32 X33 hx hZ e33 (j := (1 : Int32)) (by unfold ownIn; decide) (g := (mkF m 68 #[rv a0, iv (0 : Int32)] [(.int v34), (.int (1 : Int32)), (.ref at_)])) rfl rfl (hb hby own_d5_68)
  have F35r : ownAI Z h35 at_ .int 64 (ownUpd (ownUpd gt 0 (0 : Int32)) 1 v34) := F35s
  have N35 := Fr.snoc X35 N24 G_at_
  have K35 : Keep h0 h35 [a0, at_] := K24.wr W35 (Or.inl (List.mem_of_getElem? (i := 1) rfl))
  have F36 : Exa Z h35 a0 "com/example/sieveline/sieveline/model/CurrentDomains" := F25.wr W35
  have F37 : Fld Z h35 a0 "com/example/sieveline/sieveline/model/CurrentDomains" "trail" "[I" (.ref at_) := F26.other W35 (Or.inl hn1)
  have F38 : Fld Z h35 a0 "com/example/sieveline/sieveline/model/CurrentDomains" "size" "[I" (.ref as_) := F27.other W35 (Or.inl hn1)
  have F39 : Fld Z h35 a0 "com/example/sieveline/sieveline/model/CurrentDomains" "dense" "[[I" (.ref ad) := F28.other W35 (Or.inl hn1)
  have F40 : Fld Z h35 a0 "com/example/sieveline/sieveline/model/CurrentDomains" "position" "[[I" (.ref ap) := F29.other W35 (Or.inl hn1)
  have F41 : Fld Z h35 a0 "com/example/sieveline/sieveline/model/CurrentDomains" "top" "I" (.int (2 : Int32)) := F30.other W35 (Or.inl hn1)
  have F42 : ownAI Z h35 as_ .int 2 gs := F31.other W35 (Ne.symm hn3)
  refine ownGo (T' := T35) (f' := (mkF m 69 #[rv a0, iv (0 : Int32)] [])) (st35) ?_
  refine ownRetV X35 hx Bd.returns (hb hby own_d5_69) hlk (by decide) (by decide) ?_
  subst hv_v34
  rw [e35]
  exact ⟨rfl, N35, K35, F36, F37, F38, F39, F40, F41, F35r⟩
theorem own_ef5_record_0_1 (m : MethodId) (a0 : Addr) : entryFrame m #[(.ref a0), (.int (1 : Int32))] 2 = mkF m 0 #[rv a0, iv (1 : Int32)] [] := by first | (simp [entryFrame, mkF, argsToLocals, Value.category]; done) | rfl
def Q_record_0_1 (Z : State) (a0 : Addr) (at_ : Addr) (as_ : Addr) (ad : Addr) (ap : Addr) (gt : Nat → Int32) (gs : Nat → Int32) (h0 : Heap) (n0 : Nat) (v : Option Value) (h : Heap) (L : List Loc) : Prop := v = none ∧ Fr n0 L ∧ Keep h0 h [a0, at_] ∧ Exa Z h a0 "com/example/sieveline/sieveline/model/CurrentDomains" ∧ Fld Z h a0 "com/example/sieveline/sieveline/model/CurrentDomains" "trail" "[I" (.ref at_) ∧ Fld Z h a0 "com/example/sieveline/sieveline/model/CurrentDomains" "size" "[I" (.ref as_) ∧ Fld Z h a0 "com/example/sieveline/sieveline/model/CurrentDomains" "dense" "[[I" (.ref ad) ∧ Fld Z h a0 "com/example/sieveline/sieveline/model/CurrentDomains" "position" "[[I" (.ref ap) ∧ Fld Z h a0 "com/example/sieveline/sieveline/model/CurrentDomains" "top" "I" (.int (2 : Int32)) ∧ ownAI Z h at_ .int 64 (ownUpd (ownUpd gt 0 (1 : Int32)) 1 (gs 1))
set_option maxRecDepth 65536 in
set_option maxHeartbeats 40000000 in
theorem rm_record_0_1 (l : Launch) (Z : State) (av0 : Array Value) (hw : ∀ d ∈ tables_1, d.before av0 Z = true) (ws : List Jvm.Cond) (a0 : Addr) (at_ : Addr) (as_ : Addr) (ad : Addr) (ap : Addr) (gt : Nat → Int32) (gs : Nat → Int32) (h0 : Heap) (n0 : Nat) (Z0 : n0 ≤ h0.size) (HF0 : Exa Z h0 a0 "com/example/sieveline/sieveline/model/CurrentDomains") (HF1 : Fld Z h0 a0 "com/example/sieveline/sieveline/model/CurrentDomains" "trail" "[I" (.ref at_)) (HF2 : Fld Z h0 a0 "com/example/sieveline/sieveline/model/CurrentDomains" "size" "[I" (.ref as_)) (HF3 : Fld Z h0 a0 "com/example/sieveline/sieveline/model/CurrentDomains" "dense" "[[I" (.ref ad)) (HF4 : Fld Z h0 a0 "com/example/sieveline/sieveline/model/CurrentDomains" "position" "[[I" (.ref ap)) (HF5 : Fld Z h0 a0 "com/example/sieveline/sieveline/model/CurrentDomains" "top" "I" (.int (0 : Int32))) (HF6 : ownAI Z h0 at_ .int 64 gt) (HF7 : ownAI Z h0 as_ .int 2 gs) (G_a0 : n0 ≤ a0) (G_at_ : n0 ≤ at_) (hn1 : a0 ≠ at_) (hn2 : a0 ≠ as_) (hn3 : at_ ≠ as_) :
    MetFree l (⟨"com/example/sieveline/sieveline/model/CurrentDomains", "record", "(I)V"⟩ : MethodName) (head1 (Jvm.Cond.code (⟨"com/example/sieveline/sieveline/model/CurrentDomains", "record", "(I)V"⟩ : MethodName) prog_10_method_10_code 2 none :: ws) ({ frames := 0, cells := 0, slots := 0, locals := 0 } : Room)) (fun a U => a = #[(.ref a0), (.int (1 : Int32))] ∧ Z.Warmed39 U.vm ∧ U.heap = h0) (fun _ _ _ _ _ => True) (fun _ U o U' => ∃ v L, o = .returned v ∧ (Q_record_0_1 Z a0 at_ as_ ad ap gt gs h0 n0) v U'.heap L ∧ FrameEnd U o U' L ({ frames := 0, cells := 0, slots := 0, locals := 0 } : Room).cells ({ frames := 0, cells := 0, slots := 0, locals := 0 } : Room).slots) := by
  refine MetFree.of_bodySF (plainFor_of_name own_pn_CurrentDomains) hisR ?_
  intro p e s m args below meth c s₁ Bd hml0 hP hK
  obtain ⟨rfl, hZ, hh⟩ := hP
  have hx := Bd.exec
  have hby := Bd.bytes
  have hml : c.maxLocals = 2 := hml0
  have hown : s.vm.findClass "com/example/sieveline/sieveline/model/CurrentDomains" = some m.cls := findClass_of_methodNamed Bd.named
  have hnm := (name_of_methodNamed Bd.named Bd.method).1
  have hlk : meth.locks = false := BodyLoose.notSynchronized Bd
  have X0 : Stand p l e ({ frames := 0, cells := 0, slots := 0, locals := 0 } : Room) s m #[(.ref a0), (.int (1 : Int32))] below meth c s₁ [] 0 0 := Stand.of_body Bd
  have e0 : s₁.heap = h0 := by rw [← hh, Bd.state]; rfl
  have N0 := Fr.nil n0
  have K0 : Keep h0 h0 [a0, at_] := Keep.refl _ _
  have ww : ∀ (k : Nat) {d : Jvm.Cond}, tables_1[k]? = some d → d.before av0 Z = true := fun k d h => hw d (List.mem_of_getElem? h)
  show ownEnds p e below s (Q_record_0_1 Z a0 at_ as_ ad ap gt gs h0 n0) ({ frames := 0, cells := 0, slots := 0, locals := 0 } : Room).cells ({ frames := 0, cells := 0, slots := 0, locals := 0 } : Room).slots s₁ (entryFrame m #[(.ref a0), (.int (1 : Int32))] 2)
  refine ownCast (own_ef5_record_0_1 m a0) ?_
  refine ow_aloadN (q := 1) X0 hx (hb hby own_d5_0) rfl rfl rfl ?_
  obtain ⟨T1, X1, e1, st1⟩ := getF X0 hx hZ hown (host := "") (Or.inl (ww 34 rfl)) Via.refl e0 HF5 (g := (mkF m 1 #[rv a0, iv (1 : Int32)] [(.ref a0)])) rfl rfl (hb hby own_d5_1)
  refine ownGo (T' := T1) (f' := (mkF m 4 #[rv a0, iv (1 : Int32)] [(.int (0 : Int32))])) (st1) ?_
  refine ow_aloadN (q := 5) X1 hx (hb hby own_d5_4) rfl rfl rfl ?_
  obtain ⟨T2, X2, e2, st2⟩ := getF X1 hx hZ hown (host := "") (Or.inl (ww 11 rfl)) Via.refl e1 HF1 (g := (mkF m 5 #[rv a0, iv (1 : Int32)] [(.ref a0), (.int (0 : Int32))])) rfl rfl (hb hby own_d5_5)
  refine ownGo (T' := T2) (f' := (mkF m 8 #[rv a0, iv (1 : Int32)] [(.ref at_), (.int (0 : Int32))])) (st2) ?_
  refine ownGo (T' := T2) (f' := (mkF m 9 #[rv a0, iv (1 : Int32)] [(.int (64 : Int32)), (.int (0 : Int32))])) (ownLenI HF6 X2 hx hZ e2 (z := (64 : Int32)) (by decide) (g := (mkF m 8 #[rv a0, iv (1 : Int32)] [(.ref at_), (.int (0 : Int32))])) rfl rfl (hb hby own_d5_8)) ?_
  refine ow_icmpYes (q := 30) X2 hx (hb hby own_d5_9) (Jvm.Free.XT.ii_ne_t (by decide)) (by decide) (by decide) ?_
  refine ow_aloadN (q := 31) X2 hx (hb hby own_d5_30) rfl rfl rfl ?_
  obtain ⟨T3, X3, e3, st3⟩ := getF X2 hx hZ hown (host := "") (Or.inl (ww 11 rfl)) Via.refl e2 HF1 (g := (mkF m 31 #[rv a0, iv (1 : Int32)] [(.ref a0)])) rfl rfl (hb hby own_d5_31)
  refine ownGo (T' := T3) (f' := (mkF m 34 #[rv a0, iv (1 : Int32)] [(.ref at_)])) (st3) ?_
  refine ow_aloadN (q := 35) X3 hx (hb hby own_d5_34) rfl rfl rfl ?_
  refine ow_dup (q := 36) X3 hx (hb hby own_d5_35) rfl rfl ?_
  obtain ⟨T4, X4, e4, st4⟩ := getF X3 hx hZ hown (host := "") (Or.inl (ww 34 rfl)) Via.refl e3 HF5 (g := (mkF m 36 #[rv a0, iv (1 : Int32)] [(.ref a0), (.ref a0), (.ref at_)])) rfl rfl (hb hby own_d5_36)
  refine ownGo (T' := T4) (f' := (mkF m 39 #[rv a0, iv (1 : Int32)] [(.int (0 : Int32)), (.ref a0), (.ref at_)])) (st4) ?_
  refine ow_dupX1 (q := 40) X4 hx (hb hby own_d5_39) rfl rfl rfl ?_
  refine ow_iconst (q := 41) X4 hx (1 : Int32) (hb hby own_d5_40) rfl rfl ?_
  refine ow_iadd (q := 42) X4 hx (1 : Int32) (hb hby own_d5_41) rfl (by decide) ?_
  obtain ⟨T5, h5, X5, e5, W5, st5⟩ := putF X4 hx hZ hown (host := "") (Or.inl (ww 34 rfl)) Via.refl e4 HF5 HF0 (Or.inl (ww 35 rfl)) (ww 2 rfl) (ty := .int) (by decide) rfl rfl (g := (mkF m 42 #[rv a0, iv (1 : Int32)] [(.int (1 : Int32)), (.ref a0), (.int (0 : Int32)), (.ref at_)])) rfl rfl (hb hby own_d5_42)
  have N5 := Fr.snoc X5 N0 G_a0
  have K5 : Keep h0 h5 [a0, at_] := K0.wr W5 (Or.inl (List.mem_of_getElem? (i := 0) rfl))
  have F6 : Exa Z h5 a0 "com/example/sieveline/sieveline/model/CurrentDomains" := HF0.wr W5
  have F7 : Fld Z h5 a0 "com/example/sieveline/sieveline/model/CurrentDomains" "trail" "[I" (.ref at_) := HF1.other W5 (Or.inr (slot_ne (Or.inl (ww 12 rfl)) (Or.inl (ww 35 rfl)) (by decide) (t := (.array .int)) (t' := .int) (by decide) (by decide)))
  have F8 : Fld Z h5 a0 "com/example/sieveline/sieveline/model/CurrentDomains" "size" "[I" (.ref as_) := HF2.other W5 (Or.inr (slot_ne (Or.inr (ww 23 rfl)) (Or.inl (ww 35 rfl)) (by decide) (t := (.array .int)) (t' := .int) (by decide) (by decide)))
  have F9 : Fld Z h5 a0 "com/example/sieveline/sieveline/model/CurrentDomains" "dense" "[[I" (.ref ad) := HF3.other W5 (Or.inr (slot_ne (Or.inr (ww 26 rfl)) (Or.inl (ww 35 rfl)) (by decide) (t := (.array (.array .int))) (t' := .int) (by decide) (by decide)))
  have F10 : Fld Z h5 a0 "com/example/sieveline/sieveline/model/CurrentDomains" "position" "[[I" (.ref ap) := HF4.other W5 (Or.inr (slot_ne (Or.inr (ww 28 rfl)) (Or.inl (ww 35 rfl)) (by decide) (t := (.array (.array .int))) (t' := .int) (by decide) (by decide)))
  have F11 : Fld Z h5 a0 "com/example/sieveline/sieveline/model/CurrentDomains" "top" "I" (.int (1 : Int32)) := HF5.same W5
  have F12 : ownAI Z h5 at_ .int 64 gt := HF6.other W5 (Ne.symm hn1)
  have F13 : ownAI Z h5 as_ .int 2 gs := HF7.other W5 (Ne.symm hn2)
  refine ownGo (T' := T5) (f' := (mkF m 45 #[rv a0, iv (1 : Int32)] [(.int (0 : Int32)), (.ref at_)])) (st5) ?_
  refine ow_iloadN (q := 46) X5 hx (hb hby own_d5_45) rfl rfl ?_
  obtain ⟨T14, h14, X14, e14, W14, F14s, st14⟩ := ownIastore F12 X5 hx hZ e5 (j := (0 : Int32)) (by unfold ownIn; decide) (g := (mkF m 46 #[rv a0, iv (1 : Int32)] [(.int (1 : Int32)), (.int (0 : Int32)), (.ref at_)])) rfl rfl (hb hby own_d5_46)
  have F14r : ownAI Z h14 at_ .int 64 (ownUpd gt 0 (1 : Int32)) := F14s
  have N14 := Fr.snoc X14 N5 G_at_
  have K14 : Keep h0 h14 [a0, at_] := K5.wr W14 (Or.inl (List.mem_of_getElem? (i := 1) rfl))
  have F15 : Exa Z h14 a0 "com/example/sieveline/sieveline/model/CurrentDomains" := F6.wr W14
  have F16 : Fld Z h14 a0 "com/example/sieveline/sieveline/model/CurrentDomains" "trail" "[I" (.ref at_) := F7.other W14 (Or.inl hn1)
  have F17 : Fld Z h14 a0 "com/example/sieveline/sieveline/model/CurrentDomains" "size" "[I" (.ref as_) := F8.other W14 (Or.inl hn1)
  have F18 : Fld Z h14 a0 "com/example/sieveline/sieveline/model/CurrentDomains" "dense" "[[I" (.ref ad) := F9.other W14 (Or.inl hn1)
  have F19 : Fld Z h14 a0 "com/example/sieveline/sieveline/model/CurrentDomains" "position" "[[I" (.ref ap) := F10.other W14 (Or.inl hn1)
  have F20 : Fld Z h14 a0 "com/example/sieveline/sieveline/model/CurrentDomains" "top" "I" (.int (1 : Int32)) := F11.other W14 (Or.inl hn1)
  have F21 : ownAI Z h14 as_ .int 2 gs := F13.other W14 (Ne.symm hn3)
  refine ownGo (T' := T14) (f' := (mkF m 47 #[rv a0, iv (1 : Int32)] [])) (st14) ?_
  refine ow_aloadN (q := 48) X14 hx (hb hby own_d5_47) rfl rfl rfl ?_
  obtain ⟨T22, X22, e22, st22⟩ := getF X14 hx hZ hown (host := "") (Or.inl (ww 11 rfl)) Via.refl e14 F16 (g := (mkF m 48 #[rv a0, iv (1 : Int32)] [(.ref a0)])) rfl rfl (hb hby own_d5_48)
  refine ownGo (T' := T22) (f' := (mkF m 51 #[rv a0, iv (1 : Int32)] [(.ref at_)])) (st22) ?_
  refine ow_aloadN (q := 52) X22 hx (hb hby own_d5_51) rfl rfl rfl ?_
  refine ow_dup (q := 53) X22 hx (hb hby own_d5_52) rfl rfl ?_
  obtain ⟨T23, X23, e23, st23⟩ := getF X22 hx hZ hown (host := "") (Or.inl (ww 34 rfl)) Via.refl e22 F20 (g := (mkF m 53 #[rv a0, iv (1 : Int32)] [(.ref a0), (.ref a0), (.ref at_)])) rfl rfl (hb hby own_d5_53)
  refine ownGo (T' := T23) (f' := (mkF m 56 #[rv a0, iv (1 : Int32)] [(.int (1 : Int32)), (.ref a0), (.ref at_)])) (st23) ?_
  refine ow_dupX1 (q := 57) X23 hx (hb hby own_d5_56) rfl rfl rfl ?_
  refine ow_iconst (q := 58) X23 hx (1 : Int32) (hb hby own_d5_57) rfl rfl ?_
  refine ow_iadd (q := 59) X23 hx (2 : Int32) (hb hby own_d5_58) rfl (by decide) ?_
  obtain ⟨T24, h24, X24, e24, W24, st24⟩ := putF X23 hx hZ hown (host := "") (Or.inl (ww 34 rfl)) Via.refl e23 F20 F15 (Or.inl (ww 35 rfl)) (ww 2 rfl) (ty := .int) (by decide) rfl rfl (g := (mkF m 59 #[rv a0, iv (1 : Int32)] [(.int (2 : Int32)), (.ref a0), (.int (1 : Int32)), (.ref at_)])) rfl rfl (hb hby own_d5_59)
  have N24 := Fr.snoc X24 N14 G_a0
  have K24 : Keep h0 h24 [a0, at_] := K14.wr W24 (Or.inl (List.mem_of_getElem? (i := 0) rfl))
  have F25 : Exa Z h24 a0 "com/example/sieveline/sieveline/model/CurrentDomains" := F15.wr W24
  have F26 : Fld Z h24 a0 "com/example/sieveline/sieveline/model/CurrentDomains" "trail" "[I" (.ref at_) := F16.other W24 (Or.inr (slot_ne (Or.inl (ww 12 rfl)) (Or.inl (ww 35 rfl)) (by decide) (t := (.array .int)) (t' := .int) (by decide) (by decide)))
  have F27 : Fld Z h24 a0 "com/example/sieveline/sieveline/model/CurrentDomains" "size" "[I" (.ref as_) := F17.other W24 (Or.inr (slot_ne (Or.inr (ww 23 rfl)) (Or.inl (ww 35 rfl)) (by decide) (t := (.array .int)) (t' := .int) (by decide) (by decide)))
  have F28 : Fld Z h24 a0 "com/example/sieveline/sieveline/model/CurrentDomains" "dense" "[[I" (.ref ad) := F18.other W24 (Or.inr (slot_ne (Or.inr (ww 26 rfl)) (Or.inl (ww 35 rfl)) (by decide) (t := (.array (.array .int))) (t' := .int) (by decide) (by decide)))
  have F29 : Fld Z h24 a0 "com/example/sieveline/sieveline/model/CurrentDomains" "position" "[[I" (.ref ap) := F19.other W24 (Or.inr (slot_ne (Or.inr (ww 28 rfl)) (Or.inl (ww 35 rfl)) (by decide) (t := (.array (.array .int))) (t' := .int) (by decide) (by decide)))
  have F30 : Fld Z h24 a0 "com/example/sieveline/sieveline/model/CurrentDomains" "top" "I" (.int (2 : Int32)) := F20.same W24
  have F31 : ownAI Z h24 as_ .int 2 gs := F21.other W24 (Ne.symm hn2)
  have F32 : ownAI Z h24 at_ .int 64 (ownUpd gt 0 (1 : Int32)) := F14r.other W24 (Ne.symm hn1)
  refine ownGo (T' := T24) (f' := (mkF m 62 #[rv a0, iv (1 : Int32)] [(.int (1 : Int32)), (.ref at_)])) (st24) ?_
  refine ow_aloadN (q := 63) X24 hx (hb hby own_d5_62) rfl rfl rfl ?_
  obtain ⟨T33, X33, e33, st33⟩ := getF X24 hx hZ hown (host := "") (Or.inl (ww 22 rfl)) Via.refl e24 F27 (g := (mkF m 63 #[rv a0, iv (1 : Int32)] [(.ref a0), (.int (1 : Int32)), (.ref at_)])) rfl rfl (hb hby own_d5_63)
  refine ownGo (T' := T33) (f' := (mkF m 66 #[rv a0, iv (1 : Int32)] [(.ref as_), (.int (1 : Int32)), (.ref at_)])) (st33) ?_
  refine ow_iloadN (q := 67) X33 hx (hb hby own_d5_66) rfl rfl ?_
  refine ownGo (T' := T33) (f' := (mkF m 68 #[rv a0, iv (1 : Int32)] [(.int (gs 1)), (.int (1 : Int32)), (.ref at_)])) (ownIaload F31 X33 hx hZ e33 (j := (1 : Int32)) (by unfold ownIn; decide) (g := (mkF m 67 #[rv a0, iv (1 : Int32)] [(.int (1 : Int32)), (.ref as_), (.int (1 : Int32)), (.ref at_)])) rfl rfl (hb hby own_d5_67)) ?_
  generalize hv_v34 : (gs 1) = v34
  obtain ⟨T35, h35, X35, e35, W35, F35s, st35⟩ := ownIastore F32 X33 hx hZ e33 (j := (1 : Int32)) (by unfold ownIn; decide) (g := (mkF m 68 #[rv a0, iv (1 : Int32)] [(.int v34), (.int (1 : Int32)), (.ref at_)])) rfl rfl (hb hby own_d5_68)
  have F35r : ownAI Z h35 at_ .int 64 (ownUpd (ownUpd gt 0 (1 : Int32)) 1 v34) := F35s
  have N35 := Fr.snoc X35 N24 G_at_
  have K35 : Keep h0 h35 [a0, at_] := K24.wr W35 (Or.inl (List.mem_of_getElem? (i := 1) rfl))
  have F36 : Exa Z h35 a0 "com/example/sieveline/sieveline/model/CurrentDomains" := F25.wr W35
  have F37 : Fld Z h35 a0 "com/example/sieveline/sieveline/model/CurrentDomains" "trail" "[I" (.ref at_) := F26.other W35 (Or.inl hn1)
  have F38 : Fld Z h35 a0 "com/example/sieveline/sieveline/model/CurrentDomains" "size" "[I" (.ref as_) := F27.other W35 (Or.inl hn1)
  have F39 : Fld Z h35 a0 "com/example/sieveline/sieveline/model/CurrentDomains" "dense" "[[I" (.ref ad) := F28.other W35 (Or.inl hn1)
  have F40 : Fld Z h35 a0 "com/example/sieveline/sieveline/model/CurrentDomains" "position" "[[I" (.ref ap) := F29.other W35 (Or.inl hn1)
  have F41 : Fld Z h35 a0 "com/example/sieveline/sieveline/model/CurrentDomains" "top" "I" (.int (2 : Int32)) := F30.other W35 (Or.inl hn1)
  have F42 : ownAI Z h35 as_ .int 2 gs := F31.other W35 (Ne.symm hn3)
  refine ownGo (T' := T35) (f' := (mkF m 69 #[rv a0, iv (1 : Int32)] [])) (st35) ?_
  refine ownRetV X35 hx Bd.returns (hb hby own_d5_69) hlk (by decide) (by decide) ?_
  subst hv_v34
  rw [e35]
  exact ⟨rfl, N35, K35, F36, F37, F38, F39, F40, F41, F35r⟩
theorem own_ef5_record_2_0 (m : MethodId) (a0 : Addr) : entryFrame m #[(.ref a0), (.int (0 : Int32))] 2 = mkF m 0 #[rv a0, iv (0 : Int32)] [] := by first | (simp [entryFrame, mkF, argsToLocals, Value.category]; done) | rfl
def Q_record_2_0 (Z : State) (a0 : Addr) (at_ : Addr) (as_ : Addr) (ad : Addr) (ap : Addr) (gt : Nat → Int32) (gs : Nat → Int32) (h0 : Heap) (n0 : Nat) (v : Option Value) (h : Heap) (L : List Loc) : Prop := v = none ∧ Fr n0 L ∧ Keep h0 h [a0, at_] ∧ Exa Z h a0 "com/example/sieveline/sieveline/model/CurrentDomains" ∧ Fld Z h a0 "com/example/sieveline/sieveline/model/CurrentDomains" "trail" "[I" (.ref at_) ∧ Fld Z h a0 "com/example/sieveline/sieveline/model/CurrentDomains" "size" "[I" (.ref as_) ∧ Fld Z h a0 "com/example/sieveline/sieveline/model/CurrentDomains" "dense" "[[I" (.ref ad) ∧ Fld Z h a0 "com/example/sieveline/sieveline/model/CurrentDomains" "position" "[[I" (.ref ap) ∧ Fld Z h a0 "com/example/sieveline/sieveline/model/CurrentDomains" "top" "I" (.int (4 : Int32)) ∧ ownAI Z h at_ .int 64 (ownUpd (ownUpd gt 2 (0 : Int32)) 3 (gs 0))
set_option maxRecDepth 65536 in
set_option maxHeartbeats 40000000 in
theorem rm_record_2_0 (l : Launch) (Z : State) (av0 : Array Value) (hw : ∀ d ∈ tables_1, d.before av0 Z = true) (ws : List Jvm.Cond) (a0 : Addr) (at_ : Addr) (as_ : Addr) (ad : Addr) (ap : Addr) (gt : Nat → Int32) (gs : Nat → Int32) (h0 : Heap) (n0 : Nat) (Z0 : n0 ≤ h0.size) (HF0 : Exa Z h0 a0 "com/example/sieveline/sieveline/model/CurrentDomains") (HF1 : Fld Z h0 a0 "com/example/sieveline/sieveline/model/CurrentDomains" "trail" "[I" (.ref at_)) (HF2 : Fld Z h0 a0 "com/example/sieveline/sieveline/model/CurrentDomains" "size" "[I" (.ref as_)) (HF3 : Fld Z h0 a0 "com/example/sieveline/sieveline/model/CurrentDomains" "dense" "[[I" (.ref ad)) (HF4 : Fld Z h0 a0 "com/example/sieveline/sieveline/model/CurrentDomains" "position" "[[I" (.ref ap)) (HF5 : Fld Z h0 a0 "com/example/sieveline/sieveline/model/CurrentDomains" "top" "I" (.int (2 : Int32))) (HF6 : ownAI Z h0 at_ .int 64 gt) (HF7 : ownAI Z h0 as_ .int 2 gs) (G_a0 : n0 ≤ a0) (G_at_ : n0 ≤ at_) (hn1 : a0 ≠ at_) (hn2 : a0 ≠ as_) (hn3 : at_ ≠ as_) :
    MetFree l (⟨"com/example/sieveline/sieveline/model/CurrentDomains", "record", "(I)V"⟩ : MethodName) (head1 (Jvm.Cond.code (⟨"com/example/sieveline/sieveline/model/CurrentDomains", "record", "(I)V"⟩ : MethodName) prog_10_method_10_code 2 none :: ws) ({ frames := 0, cells := 0, slots := 0, locals := 0 } : Room)) (fun a U => a = #[(.ref a0), (.int (0 : Int32))] ∧ Z.Warmed39 U.vm ∧ U.heap = h0) (fun _ _ _ _ _ => True) (fun _ U o U' => ∃ v L, o = .returned v ∧ (Q_record_2_0 Z a0 at_ as_ ad ap gt gs h0 n0) v U'.heap L ∧ FrameEnd U o U' L ({ frames := 0, cells := 0, slots := 0, locals := 0 } : Room).cells ({ frames := 0, cells := 0, slots := 0, locals := 0 } : Room).slots) := by
  refine MetFree.of_bodySF (plainFor_of_name own_pn_CurrentDomains) hisR ?_
  intro p e s m args below meth c s₁ Bd hml0 hP hK
  obtain ⟨rfl, hZ, hh⟩ := hP
  have hx := Bd.exec
  have hby := Bd.bytes
  have hml : c.maxLocals = 2 := hml0
  have hown : s.vm.findClass "com/example/sieveline/sieveline/model/CurrentDomains" = some m.cls := findClass_of_methodNamed Bd.named
  have hnm := (name_of_methodNamed Bd.named Bd.method).1
  have hlk : meth.locks = false := BodyLoose.notSynchronized Bd
  have X0 : Stand p l e ({ frames := 0, cells := 0, slots := 0, locals := 0 } : Room) s m #[(.ref a0), (.int (0 : Int32))] below meth c s₁ [] 0 0 := Stand.of_body Bd
  have e0 : s₁.heap = h0 := by rw [← hh, Bd.state]; rfl
  have N0 := Fr.nil n0
  have K0 : Keep h0 h0 [a0, at_] := Keep.refl _ _
  have ww : ∀ (k : Nat) {d : Jvm.Cond}, tables_1[k]? = some d → d.before av0 Z = true := fun k d h => hw d (List.mem_of_getElem? h)
  show ownEnds p e below s (Q_record_2_0 Z a0 at_ as_ ad ap gt gs h0 n0) ({ frames := 0, cells := 0, slots := 0, locals := 0 } : Room).cells ({ frames := 0, cells := 0, slots := 0, locals := 0 } : Room).slots s₁ (entryFrame m #[(.ref a0), (.int (0 : Int32))] 2)
  refine ownCast (own_ef5_record_2_0 m a0) ?_
  refine ow_aloadN (q := 1) X0 hx (hb hby own_d5_0) rfl rfl rfl ?_
  obtain ⟨T1, X1, e1, st1⟩ := getF X0 hx hZ hown (host := "") (Or.inl (ww 34 rfl)) Via.refl e0 HF5 (g := (mkF m 1 #[rv a0, iv (0 : Int32)] [(.ref a0)])) rfl rfl (hb hby own_d5_1)
  refine ownGo (T' := T1) (f' := (mkF m 4 #[rv a0, iv (0 : Int32)] [(.int (2 : Int32))])) (st1) ?_
  refine ow_aloadN (q := 5) X1 hx (hb hby own_d5_4) rfl rfl rfl ?_
  obtain ⟨T2, X2, e2, st2⟩ := getF X1 hx hZ hown (host := "") (Or.inl (ww 11 rfl)) Via.refl e1 HF1 (g := (mkF m 5 #[rv a0, iv (0 : Int32)] [(.ref a0), (.int (2 : Int32))])) rfl rfl (hb hby own_d5_5)
  refine ownGo (T' := T2) (f' := (mkF m 8 #[rv a0, iv (0 : Int32)] [(.ref at_), (.int (2 : Int32))])) (st2) ?_
  refine ownGo (T' := T2) (f' := (mkF m 9 #[rv a0, iv (0 : Int32)] [(.int (64 : Int32)), (.int (2 : Int32))])) (ownLenI HF6 X2 hx hZ e2 (z := (64 : Int32)) (by decide) (g := (mkF m 8 #[rv a0, iv (0 : Int32)] [(.ref at_), (.int (2 : Int32))])) rfl rfl (hb hby own_d5_8)) ?_
  refine ow_icmpYes (q := 30) X2 hx (hb hby own_d5_9) (Jvm.Free.XT.ii_ne_t (by decide)) (by decide) (by decide) ?_
  refine ow_aloadN (q := 31) X2 hx (hb hby own_d5_30) rfl rfl rfl ?_
  obtain ⟨T3, X3, e3, st3⟩ := getF X2 hx hZ hown (host := "") (Or.inl (ww 11 rfl)) Via.refl e2 HF1 (g := (mkF m 31 #[rv a0, iv (0 : Int32)] [(.ref a0)])) rfl rfl (hb hby own_d5_31)
  refine ownGo (T' := T3) (f' := (mkF m 34 #[rv a0, iv (0 : Int32)] [(.ref at_)])) (st3) ?_
  refine ow_aloadN (q := 35) X3 hx (hb hby own_d5_34) rfl rfl rfl ?_
  refine ow_dup (q := 36) X3 hx (hb hby own_d5_35) rfl rfl ?_
  obtain ⟨T4, X4, e4, st4⟩ := getF X3 hx hZ hown (host := "") (Or.inl (ww 34 rfl)) Via.refl e3 HF5 (g := (mkF m 36 #[rv a0, iv (0 : Int32)] [(.ref a0), (.ref a0), (.ref at_)])) rfl rfl (hb hby own_d5_36)
  refine ownGo (T' := T4) (f' := (mkF m 39 #[rv a0, iv (0 : Int32)] [(.int (2 : Int32)), (.ref a0), (.ref at_)])) (st4) ?_
  refine ow_dupX1 (q := 40) X4 hx (hb hby own_d5_39) rfl rfl rfl ?_
  refine ow_iconst (q := 41) X4 hx (1 : Int32) (hb hby own_d5_40) rfl rfl ?_
  refine ow_iadd (q := 42) X4 hx (3 : Int32) (hb hby own_d5_41) rfl (by decide) ?_
  obtain ⟨T5, h5, X5, e5, W5, st5⟩ := putF X4 hx hZ hown (host := "") (Or.inl (ww 34 rfl)) Via.refl e4 HF5 HF0 (Or.inl (ww 35 rfl)) (ww 2 rfl) (ty := .int) (by decide) rfl rfl (g := (mkF m 42 #[rv a0, iv (0 : Int32)] [(.int (3 : Int32)), (.ref a0), (.int (2 : Int32)), (.ref at_)])) rfl rfl (hb hby own_d5_42)
  have N5 := Fr.snoc X5 N0 G_a0
  have K5 : Keep h0 h5 [a0, at_] := K0.wr W5 (Or.inl (List.mem_of_getElem? (i := 0) rfl))
  have F6 : Exa Z h5 a0 "com/example/sieveline/sieveline/model/CurrentDomains" := HF0.wr W5
  have F7 : Fld Z h5 a0 "com/example/sieveline/sieveline/model/CurrentDomains" "trail" "[I" (.ref at_) := HF1.other W5 (Or.inr (slot_ne (Or.inl (ww 12 rfl)) (Or.inl (ww 35 rfl)) (by decide) (t := (.array .int)) (t' := .int) (by decide) (by decide)))
  have F8 : Fld Z h5 a0 "com/example/sieveline/sieveline/model/CurrentDomains" "size" "[I" (.ref as_) := HF2.other W5 (Or.inr (slot_ne (Or.inr (ww 23 rfl)) (Or.inl (ww 35 rfl)) (by decide) (t := (.array .int)) (t' := .int) (by decide) (by decide)))
  have F9 : Fld Z h5 a0 "com/example/sieveline/sieveline/model/CurrentDomains" "dense" "[[I" (.ref ad) := HF3.other W5 (Or.inr (slot_ne (Or.inr (ww 26 rfl)) (Or.inl (ww 35 rfl)) (by decide) (t := (.array (.array .int))) (t' := .int) (by decide) (by decide)))
  have F10 : Fld Z h5 a0 "com/example/sieveline/sieveline/model/CurrentDomains" "position" "[[I" (.ref ap) := HF4.other W5 (Or.inr (slot_ne (Or.inr (ww 28 rfl)) (Or.inl (ww 35 rfl)) (by decide) (t := (.array (.array .int))) (t' := .int) (by decide) (by decide)))
  have F11 : Fld Z h5 a0 "com/example/sieveline/sieveline/model/CurrentDomains" "top" "I" (.int (3 : Int32)) := HF5.same W5
  have F12 : ownAI Z h5 at_ .int 64 gt := HF6.other W5 (Ne.symm hn1)
  have F13 : ownAI Z h5 as_ .int 2 gs := HF7.other W5 (Ne.symm hn2)
  refine ownGo (T' := T5) (f' := (mkF m 45 #[rv a0, iv (0 : Int32)] [(.int (2 : Int32)), (.ref at_)])) (st5) ?_
  refine ow_iloadN (q := 46) X5 hx (hb hby own_d5_45) rfl rfl ?_
  obtain ⟨T14, h14, X14, e14, W14, F14s, st14⟩ := ownIastore F12 X5 hx hZ e5 (j := (2 : Int32)) (by unfold ownIn; decide) (g := (mkF m 46 #[rv a0, iv (0 : Int32)] [(.int (0 : Int32)), (.int (2 : Int32)), (.ref at_)])) rfl rfl (hb hby own_d5_46)
  have F14r : ownAI Z h14 at_ .int 64 (ownUpd gt 2 (0 : Int32)) := F14s
  have N14 := Fr.snoc X14 N5 G_at_
  have K14 : Keep h0 h14 [a0, at_] := K5.wr W14 (Or.inl (List.mem_of_getElem? (i := 1) rfl))
  have F15 : Exa Z h14 a0 "com/example/sieveline/sieveline/model/CurrentDomains" := F6.wr W14
  have F16 : Fld Z h14 a0 "com/example/sieveline/sieveline/model/CurrentDomains" "trail" "[I" (.ref at_) := F7.other W14 (Or.inl hn1)
  have F17 : Fld Z h14 a0 "com/example/sieveline/sieveline/model/CurrentDomains" "size" "[I" (.ref as_) := F8.other W14 (Or.inl hn1)
  have F18 : Fld Z h14 a0 "com/example/sieveline/sieveline/model/CurrentDomains" "dense" "[[I" (.ref ad) := F9.other W14 (Or.inl hn1)
  have F19 : Fld Z h14 a0 "com/example/sieveline/sieveline/model/CurrentDomains" "position" "[[I" (.ref ap) := F10.other W14 (Or.inl hn1)
  have F20 : Fld Z h14 a0 "com/example/sieveline/sieveline/model/CurrentDomains" "top" "I" (.int (3 : Int32)) := F11.other W14 (Or.inl hn1)
  have F21 : ownAI Z h14 as_ .int 2 gs := F13.other W14 (Ne.symm hn3)
  refine ownGo (T' := T14) (f' := (mkF m 47 #[rv a0, iv (0 : Int32)] [])) (st14) ?_
  refine ow_aloadN (q := 48) X14 hx (hb hby own_d5_47) rfl rfl rfl ?_
  obtain ⟨T22, X22, e22, st22⟩ := getF X14 hx hZ hown (host := "") (Or.inl (ww 11 rfl)) Via.refl e14 F16 (g := (mkF m 48 #[rv a0, iv (0 : Int32)] [(.ref a0)])) rfl rfl (hb hby own_d5_48)
  refine ownGo (T' := T22) (f' := (mkF m 51 #[rv a0, iv (0 : Int32)] [(.ref at_)])) (st22) ?_
  refine ow_aloadN (q := 52) X22 hx (hb hby own_d5_51) rfl rfl rfl ?_
  refine ow_dup (q := 53) X22 hx (hb hby own_d5_52) rfl rfl ?_
  obtain ⟨T23, X23, e23, st23⟩ := getF X22 hx hZ hown (host := "") (Or.inl (ww 34 rfl)) Via.refl e22 F20 (g := (mkF m 53 #[rv a0, iv (0 : Int32)] [(.ref a0), (.ref a0), (.ref at_)])) rfl rfl (hb hby own_d5_53)
  refine ownGo (T' := T23) (f' := (mkF m 56 #[rv a0, iv (0 : Int32)] [(.int (3 : Int32)), (.ref a0), (.ref at_)])) (st23) ?_
  refine ow_dupX1 (q := 57) X23 hx (hb hby own_d5_56) rfl rfl rfl ?_
  refine ow_iconst (q := 58) X23 hx (1 : Int32) (hb hby own_d5_57) rfl rfl ?_
  refine ow_iadd (q := 59) X23 hx (4 : Int32) (hb hby own_d5_58) rfl (by decide) ?_
  obtain ⟨T24, h24, X24, e24, W24, st24⟩ := putF X23 hx hZ hown (host := "") (Or.inl (ww 34 rfl)) Via.refl e23 F20 F15 (Or.inl (ww 35 rfl)) (ww 2 rfl) (ty := .int) (by decide) rfl rfl (g := (mkF m 59 #[rv a0, iv (0 : Int32)] [(.int (4 : Int32)), (.ref a0), (.int (3 : Int32)), (.ref at_)])) rfl rfl (hb hby own_d5_59)
  have N24 := Fr.snoc X24 N14 G_a0
  have K24 : Keep h0 h24 [a0, at_] := K14.wr W24 (Or.inl (List.mem_of_getElem? (i := 0) rfl))
  have F25 : Exa Z h24 a0 "com/example/sieveline/sieveline/model/CurrentDomains" := F15.wr W24
  have F26 : Fld Z h24 a0 "com/example/sieveline/sieveline/model/CurrentDomains" "trail" "[I" (.ref at_) := F16.other W24 (Or.inr (slot_ne (Or.inl (ww 12 rfl)) (Or.inl (ww 35 rfl)) (by decide) (t := (.array .int)) (t' := .int) (by decide) (by decide)))
  have F27 : Fld Z h24 a0 "com/example/sieveline/sieveline/model/CurrentDomains" "size" "[I" (.ref as_) := F17.other W24 (Or.inr (slot_ne (Or.inr (ww 23 rfl)) (Or.inl (ww 35 rfl)) (by decide) (t := (.array .int)) (t' := .int) (by decide) (by decide)))
  have F28 : Fld Z h24 a0 "com/example/sieveline/sieveline/model/CurrentDomains" "dense" "[[I" (.ref ad) := F18.other W24 (Or.inr (slot_ne (Or.inr (ww 26 rfl)) (Or.inl (ww 35 rfl)) (by decide) (t := (.array (.array .int))) (t' := .int) (by decide) (by decide)))
  have F29 : Fld Z h24 a0 "com/example/sieveline/sieveline/model/CurrentDomains" "position" "[[I" (.ref ap) := F19.other W24 (Or.inr (slot_ne (Or.inr (ww 28 rfl)) (Or.inl (ww 35 rfl)) (by decide) (t := (.array (.array .int))) (t' := .int) (by decide) (by decide)))
  have F30 : Fld Z h24 a0 "com/example/sieveline/sieveline/model/CurrentDomains" "top" "I" (.int (4 : Int32)) := F20.same W24
  have F31 : ownAI Z h24 as_ .int 2 gs := F21.other W24 (Ne.symm hn2)
  have F32 : ownAI Z h24 at_ .int 64 (ownUpd gt 2 (0 : Int32)) := F14r.other W24 (Ne.symm hn1)
  refine ownGo (T' := T24) (f' := (mkF m 62 #[rv a0, iv (0 : Int32)] [(.int (3 : Int32)), (.ref at_)])) (st24) ?_
  refine ow_aloadN (q := 63) X24 hx (hb hby own_d5_62) rfl rfl rfl ?_
  obtain ⟨T33, X33, e33, st33⟩ := getF X24 hx hZ hown (host := "") (Or.inl (ww 22 rfl)) Via.refl e24 F27 (g := (mkF m 63 #[rv a0, iv (0 : Int32)] [(.ref a0), (.int (3 : Int32)), (.ref at_)])) rfl rfl (hb hby own_d5_63)
  refine ownGo (T' := T33) (f' := (mkF m 66 #[rv a0, iv (0 : Int32)] [(.ref as_), (.int (3 : Int32)), (.ref at_)])) (st33) ?_
  refine ow_iloadN (q := 67) X33 hx (hb hby own_d5_66) rfl rfl ?_
  refine ownGo (T' := T33) (f' := (mkF m 68 #[rv a0, iv (0 : Int32)] [(.int (gs 0)), (.int (3 : Int32)), (.ref at_)])) (ownIaload F31 X33 hx hZ e33 (j := (0 : Int32)) (by unfold ownIn; decide) (g := (mkF m 67 #[rv a0, iv (0 : Int32)] [(.int (0 : Int32)), (.ref as_), (.int (3 : Int32)), (.ref at_)])) rfl rfl (hb hby own_d5_67)) ?_
  generalize hv_v34 : (gs 0) = v34
  obtain ⟨T35, h35, X35, e35, W35, F35s, st35⟩ := ownIastore F32 X33 hx hZ e33 (j := (3 : Int32)) (by unfold ownIn; decide) (g := (mkF m 68 #[rv a0, iv (0 : Int32)] [(.int v34), (.int (3 : Int32)), (.ref at_)])) rfl rfl (hb hby own_d5_68)
  have F35r : ownAI Z h35 at_ .int 64 (ownUpd (ownUpd gt 2 (0 : Int32)) 3 v34) := F35s
  have N35 := Fr.snoc X35 N24 G_at_
  have K35 : Keep h0 h35 [a0, at_] := K24.wr W35 (Or.inl (List.mem_of_getElem? (i := 1) rfl))
  have F36 : Exa Z h35 a0 "com/example/sieveline/sieveline/model/CurrentDomains" := F25.wr W35
  have F37 : Fld Z h35 a0 "com/example/sieveline/sieveline/model/CurrentDomains" "trail" "[I" (.ref at_) := F26.other W35 (Or.inl hn1)
  have F38 : Fld Z h35 a0 "com/example/sieveline/sieveline/model/CurrentDomains" "size" "[I" (.ref as_) := F27.other W35 (Or.inl hn1)
  have F39 : Fld Z h35 a0 "com/example/sieveline/sieveline/model/CurrentDomains" "dense" "[[I" (.ref ad) := F28.other W35 (Or.inl hn1)
  have F40 : Fld Z h35 a0 "com/example/sieveline/sieveline/model/CurrentDomains" "position" "[[I" (.ref ap) := F29.other W35 (Or.inl hn1)
  have F41 : Fld Z h35 a0 "com/example/sieveline/sieveline/model/CurrentDomains" "top" "I" (.int (4 : Int32)) := F30.other W35 (Or.inl hn1)
  have F42 : ownAI Z h35 as_ .int 2 gs := F31.other W35 (Ne.symm hn3)
  refine ownGo (T' := T35) (f' := (mkF m 69 #[rv a0, iv (0 : Int32)] [])) (st35) ?_
  refine ownRetV X35 hx Bd.returns (hb hby own_d5_69) hlk (by decide) (by decide) ?_
  subst hv_v34
  rw [e35]
  exact ⟨rfl, N35, K35, F36, F37, F38, F39, F40, F41, F35r⟩
theorem own_ef5_record_2_1 (m : MethodId) (a0 : Addr) : entryFrame m #[(.ref a0), (.int (1 : Int32))] 2 = mkF m 0 #[rv a0, iv (1 : Int32)] [] := by first | (simp [entryFrame, mkF, argsToLocals, Value.category]; done) | rfl
def Q_record_2_1 (Z : State) (a0 : Addr) (at_ : Addr) (as_ : Addr) (ad : Addr) (ap : Addr) (gt : Nat → Int32) (gs : Nat → Int32) (h0 : Heap) (n0 : Nat) (v : Option Value) (h : Heap) (L : List Loc) : Prop := v = none ∧ Fr n0 L ∧ Keep h0 h [a0, at_] ∧ Exa Z h a0 "com/example/sieveline/sieveline/model/CurrentDomains" ∧ Fld Z h a0 "com/example/sieveline/sieveline/model/CurrentDomains" "trail" "[I" (.ref at_) ∧ Fld Z h a0 "com/example/sieveline/sieveline/model/CurrentDomains" "size" "[I" (.ref as_) ∧ Fld Z h a0 "com/example/sieveline/sieveline/model/CurrentDomains" "dense" "[[I" (.ref ad) ∧ Fld Z h a0 "com/example/sieveline/sieveline/model/CurrentDomains" "position" "[[I" (.ref ap) ∧ Fld Z h a0 "com/example/sieveline/sieveline/model/CurrentDomains" "top" "I" (.int (4 : Int32)) ∧ ownAI Z h at_ .int 64 (ownUpd (ownUpd gt 2 (1 : Int32)) 3 (gs 1))
set_option maxRecDepth 65536 in
set_option maxHeartbeats 40000000 in
theorem rm_record_2_1 (l : Launch) (Z : State) (av0 : Array Value) (hw : ∀ d ∈ tables_1, d.before av0 Z = true) (ws : List Jvm.Cond) (a0 : Addr) (at_ : Addr) (as_ : Addr) (ad : Addr) (ap : Addr) (gt : Nat → Int32) (gs : Nat → Int32) (h0 : Heap) (n0 : Nat) (Z0 : n0 ≤ h0.size) (HF0 : Exa Z h0 a0 "com/example/sieveline/sieveline/model/CurrentDomains") (HF1 : Fld Z h0 a0 "com/example/sieveline/sieveline/model/CurrentDomains" "trail" "[I" (.ref at_)) (HF2 : Fld Z h0 a0 "com/example/sieveline/sieveline/model/CurrentDomains" "size" "[I" (.ref as_)) (HF3 : Fld Z h0 a0 "com/example/sieveline/sieveline/model/CurrentDomains" "dense" "[[I" (.ref ad)) (HF4 : Fld Z h0 a0 "com/example/sieveline/sieveline/model/CurrentDomains" "position" "[[I" (.ref ap)) (HF5 : Fld Z h0 a0 "com/example/sieveline/sieveline/model/CurrentDomains" "top" "I" (.int (2 : Int32))) (HF6 : ownAI Z h0 at_ .int 64 gt) (HF7 : ownAI Z h0 as_ .int 2 gs) (G_a0 : n0 ≤ a0) (G_at_ : n0 ≤ at_) (hn1 : a0 ≠ at_) (hn2 : a0 ≠ as_) (hn3 : at_ ≠ as_) :
    MetFree l (⟨"com/example/sieveline/sieveline/model/CurrentDomains", "record", "(I)V"⟩ : MethodName) (head1 (Jvm.Cond.code (⟨"com/example/sieveline/sieveline/model/CurrentDomains", "record", "(I)V"⟩ : MethodName) prog_10_method_10_code 2 none :: ws) ({ frames := 0, cells := 0, slots := 0, locals := 0 } : Room)) (fun a U => a = #[(.ref a0), (.int (1 : Int32))] ∧ Z.Warmed39 U.vm ∧ U.heap = h0) (fun _ _ _ _ _ => True) (fun _ U o U' => ∃ v L, o = .returned v ∧ (Q_record_2_1 Z a0 at_ as_ ad ap gt gs h0 n0) v U'.heap L ∧ FrameEnd U o U' L ({ frames := 0, cells := 0, slots := 0, locals := 0 } : Room).cells ({ frames := 0, cells := 0, slots := 0, locals := 0 } : Room).slots) := by
  refine MetFree.of_bodySF (plainFor_of_name own_pn_CurrentDomains) hisR ?_
  intro p e s m args below meth c s₁ Bd hml0 hP hK
  obtain ⟨rfl, hZ, hh⟩ := hP
  have hx := Bd.exec
  have hby := Bd.bytes
  have hml : c.maxLocals = 2 := hml0
  have hown : s.vm.findClass "com/example/sieveline/sieveline/model/CurrentDomains" = some m.cls := findClass_of_methodNamed Bd.named
  have hnm := (name_of_methodNamed Bd.named Bd.method).1
  have hlk : meth.locks = false := BodyLoose.notSynchronized Bd
  have X0 : Stand p l e ({ frames := 0, cells := 0, slots := 0, locals := 0 } : Room) s m #[(.ref a0), (.int (1 : Int32))] below meth c s₁ [] 0 0 := Stand.of_body Bd
  have e0 : s₁.heap = h0 := by rw [← hh, Bd.state]; rfl
  have N0 := Fr.nil n0
  have K0 : Keep h0 h0 [a0, at_] := Keep.refl _ _
  have ww : ∀ (k : Nat) {d : Jvm.Cond}, tables_1[k]? = some d → d.before av0 Z = true := fun k d h => hw d (List.mem_of_getElem? h)
  show ownEnds p e below s (Q_record_2_1 Z a0 at_ as_ ad ap gt gs h0 n0) ({ frames := 0, cells := 0, slots := 0, locals := 0 } : Room).cells ({ frames := 0, cells := 0, slots := 0, locals := 0 } : Room).slots s₁ (entryFrame m #[(.ref a0), (.int (1 : Int32))] 2)
  refine ownCast (own_ef5_record_2_1 m a0) ?_
  refine ow_aloadN (q := 1) X0 hx (hb hby own_d5_0) rfl rfl rfl ?_
  obtain ⟨T1, X1, e1, st1⟩ := getF X0 hx hZ hown (host := "") (Or.inl (ww 34 rfl)) Via.refl e0 HF5 (g := (mkF m 1 #[rv a0, iv (1 : Int32)] [(.ref a0)])) rfl rfl (hb hby own_d5_1)
  refine ownGo (T' := T1) (f' := (mkF m 4 #[rv a0, iv (1 : Int32)] [(.int (2 : Int32))])) (st1) ?_
  refine ow_aloadN (q := 5) X1 hx (hb hby own_d5_4) rfl rfl rfl ?_
  obtain ⟨T2, X2, e2, st2⟩ := getF X1 hx hZ hown (host := "") (Or.inl (ww 11 rfl)) Via.refl e1 HF1 (g := (mkF m 5 #[rv a0, iv (1 : Int32)] [(.ref a0), (.int (2 : Int32))])) rfl rfl (hb hby own_d5_5)
  refine ownGo (T' := T2) (f' := (mkF m 8 #[rv a0, iv (1 : Int32)] [(.ref at_), (.int (2 : Int32))])) (st2) ?_
  refine ownGo (T' := T2) (f' := (mkF m 9 #[rv a0, iv (1 : Int32)] [(.int (64 : Int32)), (.int (2 : Int32))])) (ownLenI HF6 X2 hx hZ e2 (z := (64 : Int32)) (by decide) (g := (mkF m 8 #[rv a0, iv (1 : Int32)] [(.ref at_), (.int (2 : Int32))])) rfl rfl (hb hby own_d5_8)) ?_
  refine ow_icmpYes (q := 30) X2 hx (hb hby own_d5_9) (Jvm.Free.XT.ii_ne_t (by decide)) (by decide) (by decide) ?_
  refine ow_aloadN (q := 31) X2 hx (hb hby own_d5_30) rfl rfl rfl ?_
  obtain ⟨T3, X3, e3, st3⟩ := getF X2 hx hZ hown (host := "") (Or.inl (ww 11 rfl)) Via.refl e2 HF1 (g := (mkF m 31 #[rv a0, iv (1 : Int32)] [(.ref a0)])) rfl rfl (hb hby own_d5_31)
  refine ownGo (T' := T3) (f' := (mkF m 34 #[rv a0, iv (1 : Int32)] [(.ref at_)])) (st3) ?_
  refine ow_aloadN (q := 35) X3 hx (hb hby own_d5_34) rfl rfl rfl ?_
  refine ow_dup (q := 36) X3 hx (hb hby own_d5_35) rfl rfl ?_
  obtain ⟨T4, X4, e4, st4⟩ := getF X3 hx hZ hown (host := "") (Or.inl (ww 34 rfl)) Via.refl e3 HF5 (g := (mkF m 36 #[rv a0, iv (1 : Int32)] [(.ref a0), (.ref a0), (.ref at_)])) rfl rfl (hb hby own_d5_36)
  refine ownGo (T' := T4) (f' := (mkF m 39 #[rv a0, iv (1 : Int32)] [(.int (2 : Int32)), (.ref a0), (.ref at_)])) (st4) ?_
  refine ow_dupX1 (q := 40) X4 hx (hb hby own_d5_39) rfl rfl rfl ?_
  refine ow_iconst (q := 41) X4 hx (1 : Int32) (hb hby own_d5_40) rfl rfl ?_
  refine ow_iadd (q := 42) X4 hx (3 : Int32) (hb hby own_d5_41) rfl (by decide) ?_
  obtain ⟨T5, h5, X5, e5, W5, st5⟩ := putF X4 hx hZ hown (host := "") (Or.inl (ww 34 rfl)) Via.refl e4 HF5 HF0 (Or.inl (ww 35 rfl)) (ww 2 rfl) (ty := .int) (by decide) rfl rfl (g := (mkF m 42 #[rv a0, iv (1 : Int32)] [(.int (3 : Int32)), (.ref a0), (.int (2 : Int32)), (.ref at_)])) rfl rfl (hb hby own_d5_42)
  have N5 := Fr.snoc X5 N0 G_a0
  have K5 : Keep h0 h5 [a0, at_] := K0.wr W5 (Or.inl (List.mem_of_getElem? (i := 0) rfl))
  have F6 : Exa Z h5 a0 "com/example/sieveline/sieveline/model/CurrentDomains" := HF0.wr W5
  have F7 : Fld Z h5 a0 "com/example/sieveline/sieveline/model/CurrentDomains" "trail" "[I" (.ref at_) := HF1.other W5 (Or.inr (slot_ne (Or.inl (ww 12 rfl)) (Or.inl (ww 35 rfl)) (by decide) (t := (.array .int)) (t' := .int) (by decide) (by decide)))
  have F8 : Fld Z h5 a0 "com/example/sieveline/sieveline/model/CurrentDomains" "size" "[I" (.ref as_) := HF2.other W5 (Or.inr (slot_ne (Or.inr (ww 23 rfl)) (Or.inl (ww 35 rfl)) (by decide) (t := (.array .int)) (t' := .int) (by decide) (by decide)))
  have F9 : Fld Z h5 a0 "com/example/sieveline/sieveline/model/CurrentDomains" "dense" "[[I" (.ref ad) := HF3.other W5 (Or.inr (slot_ne (Or.inr (ww 26 rfl)) (Or.inl (ww 35 rfl)) (by decide) (t := (.array (.array .int))) (t' := .int) (by decide) (by decide)))
  have F10 : Fld Z h5 a0 "com/example/sieveline/sieveline/model/CurrentDomains" "position" "[[I" (.ref ap) := HF4.other W5 (Or.inr (slot_ne (Or.inr (ww 28 rfl)) (Or.inl (ww 35 rfl)) (by decide) (t := (.array (.array .int))) (t' := .int) (by decide) (by decide)))
  have F11 : Fld Z h5 a0 "com/example/sieveline/sieveline/model/CurrentDomains" "top" "I" (.int (3 : Int32)) := HF5.same W5
  have F12 : ownAI Z h5 at_ .int 64 gt := HF6.other W5 (Ne.symm hn1)
  have F13 : ownAI Z h5 as_ .int 2 gs := HF7.other W5 (Ne.symm hn2)
  refine ownGo (T' := T5) (f' := (mkF m 45 #[rv a0, iv (1 : Int32)] [(.int (2 : Int32)), (.ref at_)])) (st5) ?_
  refine ow_iloadN (q := 46) X5 hx (hb hby own_d5_45) rfl rfl ?_
  obtain ⟨T14, h14, X14, e14, W14, F14s, st14⟩ := ownIastore F12 X5 hx hZ e5 (j := (2 : Int32)) (by unfold ownIn; decide) (g := (mkF m 46 #[rv a0, iv (1 : Int32)] [(.int (1 : Int32)), (.int (2 : Int32)), (.ref at_)])) rfl rfl (hb hby own_d5_46)
  have F14r : ownAI Z h14 at_ .int 64 (ownUpd gt 2 (1 : Int32)) := F14s
  have N14 := Fr.snoc X14 N5 G_at_
  have K14 : Keep h0 h14 [a0, at_] := K5.wr W14 (Or.inl (List.mem_of_getElem? (i := 1) rfl))
  have F15 : Exa Z h14 a0 "com/example/sieveline/sieveline/model/CurrentDomains" := F6.wr W14
  have F16 : Fld Z h14 a0 "com/example/sieveline/sieveline/model/CurrentDomains" "trail" "[I" (.ref at_) := F7.other W14 (Or.inl hn1)
  have F17 : Fld Z h14 a0 "com/example/sieveline/sieveline/model/CurrentDomains" "size" "[I" (.ref as_) := F8.other W14 (Or.inl hn1)
  have F18 : Fld Z h14 a0 "com/example/sieveline/sieveline/model/CurrentDomains" "dense" "[[I" (.ref ad) := F9.other W14 (Or.inl hn1)
  have F19 : Fld Z h14 a0 "com/example/sieveline/sieveline/model/CurrentDomains" "position" "[[I" (.ref ap) := F10.other W14 (Or.inl hn1)
  have F20 : Fld Z h14 a0 "com/example/sieveline/sieveline/model/CurrentDomains" "top" "I" (.int (3 : Int32)) := F11.other W14 (Or.inl hn1)
  have F21 : ownAI Z h14 as_ .int 2 gs := F13.other W14 (Ne.symm hn3)
  refine ownGo (T' := T14) (f' := (mkF m 47 #[rv a0, iv (1 : Int32)] [])) (st14) ?_
  refine ow_aloadN (q := 48) X14 hx (hb hby own_d5_47) rfl rfl rfl ?_
  obtain ⟨T22, X22, e22, st22⟩ := getF X14 hx hZ hown (host := "") (Or.inl (ww 11 rfl)) Via.refl e14 F16 (g := (mkF m 48 #[rv a0, iv (1 : Int32)] [(.ref a0)])) rfl rfl (hb hby own_d5_48)
  refine ownGo (T' := T22) (f' := (mkF m 51 #[rv a0, iv (1 : Int32)] [(.ref at_)])) (st22) ?_
  refine ow_aloadN (q := 52) X22 hx (hb hby own_d5_51) rfl rfl rfl ?_
  refine ow_dup (q := 53) X22 hx (hb hby own_d5_52) rfl rfl ?_
  obtain ⟨T23, X23, e23, st23⟩ := getF X22 hx hZ hown (host := "") (Or.inl (ww 34 rfl)) Via.refl e22 F20 (g := (mkF m 53 #[rv a0, iv (1 : Int32)] [(.ref a0), (.ref a0), (.ref at_)])) rfl rfl (hb hby own_d5_53)
  refine ownGo (T' := T23) (f' := (mkF m 56 #[rv a0, iv (1 : Int32)] [(.int (3 : Int32)), (.ref a0), (.ref at_)])) (st23) ?_
  refine ow_dupX1 (q := 57) X23 hx (hb hby own_d5_56) rfl rfl rfl ?_
  refine ow_iconst (q := 58) X23 hx (1 : Int32) (hb hby own_d5_57) rfl rfl ?_
  refine ow_iadd (q := 59) X23 hx (4 : Int32) (hb hby own_d5_58) rfl (by decide) ?_
  obtain ⟨T24, h24, X24, e24, W24, st24⟩ := putF X23 hx hZ hown (host := "") (Or.inl (ww 34 rfl)) Via.refl e23 F20 F15 (Or.inl (ww 35 rfl)) (ww 2 rfl) (ty := .int) (by decide) rfl rfl (g := (mkF m 59 #[rv a0, iv (1 : Int32)] [(.int (4 : Int32)), (.ref a0), (.int (3 : Int32)), (.ref at_)])) rfl rfl (hb hby own_d5_59)
  have N24 := Fr.snoc X24 N14 G_a0
  have K24 : Keep h0 h24 [a0, at_] := K14.wr W24 (Or.inl (List.mem_of_getElem? (i := 0) rfl))
  have F25 : Exa Z h24 a0 "com/example/sieveline/sieveline/model/CurrentDomains" := F15.wr W24
  have F26 : Fld Z h24 a0 "com/example/sieveline/sieveline/model/CurrentDomains" "trail" "[I" (.ref at_) := F16.other W24 (Or.inr (slot_ne (Or.inl (ww 12 rfl)) (Or.inl (ww 35 rfl)) (by decide) (t := (.array .int)) (t' := .int) (by decide) (by decide)))
  have F27 : Fld Z h24 a0 "com/example/sieveline/sieveline/model/CurrentDomains" "size" "[I" (.ref as_) := F17.other W24 (Or.inr (slot_ne (Or.inr (ww 23 rfl)) (Or.inl (ww 35 rfl)) (by decide) (t := (.array .int)) (t' := .int) (by decide) (by decide)))
  have F28 : Fld Z h24 a0 "com/example/sieveline/sieveline/model/CurrentDomains" "dense" "[[I" (.ref ad) := F18.other W24 (Or.inr (slot_ne (Or.inr (ww 26 rfl)) (Or.inl (ww 35 rfl)) (by decide) (t := (.array (.array .int))) (t' := .int) (by decide) (by decide)))
  have F29 : Fld Z h24 a0 "com/example/sieveline/sieveline/model/CurrentDomains" "position" "[[I" (.ref ap) := F19.other W24 (Or.inr (slot_ne (Or.inr (ww 28 rfl)) (Or.inl (ww 35 rfl)) (by decide) (t := (.array (.array .int))) (t' := .int) (by decide) (by decide)))
  have F30 : Fld Z h24 a0 "com/example/sieveline/sieveline/model/CurrentDomains" "top" "I" (.int (4 : Int32)) := F20.same W24
  have F31 : ownAI Z h24 as_ .int 2 gs := F21.other W24 (Ne.symm hn2)
  have F32 : ownAI Z h24 at_ .int 64 (ownUpd gt 2 (1 : Int32)) := F14r.other W24 (Ne.symm hn1)
  refine ownGo (T' := T24) (f' := (mkF m 62 #[rv a0, iv (1 : Int32)] [(.int (3 : Int32)), (.ref at_)])) (st24) ?_
  refine ow_aloadN (q := 63) X24 hx (hb hby own_d5_62) rfl rfl rfl ?_
  obtain ⟨T33, X33, e33, st33⟩ := getF X24 hx hZ hown (host := "") (Or.inl (ww 22 rfl)) Via.refl e24 F27 (g := (mkF m 63 #[rv a0, iv (1 : Int32)] [(.ref a0), (.int (3 : Int32)), (.ref at_)])) rfl rfl (hb hby own_d5_63)
  refine ownGo (T' := T33) (f' := (mkF m 66 #[rv a0, iv (1 : Int32)] [(.ref as_), (.int (3 : Int32)), (.ref at_)])) (st33) ?_
  refine ow_iloadN (q := 67) X33 hx (hb hby own_d5_66) rfl rfl ?_
  refine ownGo (T' := T33) (f' := (mkF m 68 #[rv a0, iv (1 : Int32)] [(.int (gs 1)), (.int (3 : Int32)), (.ref at_)])) (ownIaload F31 X33 hx hZ e33 (j := (1 : Int32)) (by unfold ownIn; decide) (g := (mkF m 67 #[rv a0, iv (1 : Int32)] [(.int (1 : Int32)), (.ref as_), (.int (3 : Int32)), (.ref at_)])) rfl rfl (hb hby own_d5_67)) ?_
  generalize hv_v34 : (gs 1) = v34
  obtain ⟨T35, h35, X35, e35, W35, F35s, st35⟩ := ownIastore F32 X33 hx hZ e33 (j := (3 : Int32)) (by unfold ownIn; decide) (g := (mkF m 68 #[rv a0, iv (1 : Int32)] [(.int v34), (.int (3 : Int32)), (.ref at_)])) rfl rfl (hb hby own_d5_68)
  have F35r : ownAI Z h35 at_ .int 64 (ownUpd (ownUpd gt 2 (1 : Int32)) 3 v34) := F35s
  have N35 := Fr.snoc X35 N24 G_at_
  have K35 : Keep h0 h35 [a0, at_] := K24.wr W35 (Or.inl (List.mem_of_getElem? (i := 1) rfl))
  have F36 : Exa Z h35 a0 "com/example/sieveline/sieveline/model/CurrentDomains" := F25.wr W35
  have F37 : Fld Z h35 a0 "com/example/sieveline/sieveline/model/CurrentDomains" "trail" "[I" (.ref at_) := F26.other W35 (Or.inl hn1)
  have F38 : Fld Z h35 a0 "com/example/sieveline/sieveline/model/CurrentDomains" "size" "[I" (.ref as_) := F27.other W35 (Or.inl hn1)
  have F39 : Fld Z h35 a0 "com/example/sieveline/sieveline/model/CurrentDomains" "dense" "[[I" (.ref ad) := F28.other W35 (Or.inl hn1)
  have F40 : Fld Z h35 a0 "com/example/sieveline/sieveline/model/CurrentDomains" "position" "[[I" (.ref ap) := F29.other W35 (Or.inl hn1)
  have F41 : Fld Z h35 a0 "com/example/sieveline/sieveline/model/CurrentDomains" "top" "I" (.int (4 : Int32)) := F30.other W35 (Or.inl hn1)
  have F42 : ownAI Z h35 as_ .int 2 gs := F31.other W35 (Ne.symm hn3)
  refine ownGo (T' := T35) (f' := (mkF m 69 #[rv a0, iv (1 : Int32)] [])) (st35) ?_
  refine ownRetV X35 hx Bd.returns (hb hby own_d5_69) hlk (by decide) (by decide) ?_
  subst hv_v34
  rw [e35]
  exact ⟨rfl, N35, K35, F36, F37, F38, F39, F40, F41, F35r⟩
theorem own_ef5_record_4_0 (m : MethodId) (a0 : Addr) : entryFrame m #[(.ref a0), (.int (0 : Int32))] 2 = mkF m 0 #[rv a0, iv (0 : Int32)] [] := by first | (simp [entryFrame, mkF, argsToLocals, Value.category]; done) | rfl
def Q_record_4_0 (Z : State) (a0 : Addr) (at_ : Addr) (as_ : Addr) (ad : Addr) (ap : Addr) (gt : Nat → Int32) (gs : Nat → Int32) (h0 : Heap) (n0 : Nat) (v : Option Value) (h : Heap) (L : List Loc) : Prop := v = none ∧ Fr n0 L ∧ Keep h0 h [a0, at_] ∧ Exa Z h a0 "com/example/sieveline/sieveline/model/CurrentDomains" ∧ Fld Z h a0 "com/example/sieveline/sieveline/model/CurrentDomains" "trail" "[I" (.ref at_) ∧ Fld Z h a0 "com/example/sieveline/sieveline/model/CurrentDomains" "size" "[I" (.ref as_) ∧ Fld Z h a0 "com/example/sieveline/sieveline/model/CurrentDomains" "dense" "[[I" (.ref ad) ∧ Fld Z h a0 "com/example/sieveline/sieveline/model/CurrentDomains" "position" "[[I" (.ref ap) ∧ Fld Z h a0 "com/example/sieveline/sieveline/model/CurrentDomains" "top" "I" (.int (6 : Int32)) ∧ ownAI Z h at_ .int 64 (ownUpd (ownUpd gt 4 (0 : Int32)) 5 (gs 0))
set_option maxRecDepth 65536 in
set_option maxHeartbeats 40000000 in
theorem rm_record_4_0 (l : Launch) (Z : State) (av0 : Array Value) (hw : ∀ d ∈ tables_1, d.before av0 Z = true) (ws : List Jvm.Cond) (a0 : Addr) (at_ : Addr) (as_ : Addr) (ad : Addr) (ap : Addr) (gt : Nat → Int32) (gs : Nat → Int32) (h0 : Heap) (n0 : Nat) (Z0 : n0 ≤ h0.size) (HF0 : Exa Z h0 a0 "com/example/sieveline/sieveline/model/CurrentDomains") (HF1 : Fld Z h0 a0 "com/example/sieveline/sieveline/model/CurrentDomains" "trail" "[I" (.ref at_)) (HF2 : Fld Z h0 a0 "com/example/sieveline/sieveline/model/CurrentDomains" "size" "[I" (.ref as_)) (HF3 : Fld Z h0 a0 "com/example/sieveline/sieveline/model/CurrentDomains" "dense" "[[I" (.ref ad)) (HF4 : Fld Z h0 a0 "com/example/sieveline/sieveline/model/CurrentDomains" "position" "[[I" (.ref ap)) (HF5 : Fld Z h0 a0 "com/example/sieveline/sieveline/model/CurrentDomains" "top" "I" (.int (4 : Int32))) (HF6 : ownAI Z h0 at_ .int 64 gt) (HF7 : ownAI Z h0 as_ .int 2 gs) (G_a0 : n0 ≤ a0) (G_at_ : n0 ≤ at_) (hn1 : a0 ≠ at_) (hn2 : a0 ≠ as_) (hn3 : at_ ≠ as_) :
    MetFree l (⟨"com/example/sieveline/sieveline/model/CurrentDomains", "record", "(I)V"⟩ : MethodName) (head1 (Jvm.Cond.code (⟨"com/example/sieveline/sieveline/model/CurrentDomains", "record", "(I)V"⟩ : MethodName) prog_10_method_10_code 2 none :: ws) ({ frames := 0, cells := 0, slots := 0, locals := 0 } : Room)) (fun a U => a = #[(.ref a0), (.int (0 : Int32))] ∧ Z.Warmed39 U.vm ∧ U.heap = h0) (fun _ _ _ _ _ => True) (fun _ U o U' => ∃ v L, o = .returned v ∧ (Q_record_4_0 Z a0 at_ as_ ad ap gt gs h0 n0) v U'.heap L ∧ FrameEnd U o U' L ({ frames := 0, cells := 0, slots := 0, locals := 0 } : Room).cells ({ frames := 0, cells := 0, slots := 0, locals := 0 } : Room).slots) := by
  refine MetFree.of_bodySF (plainFor_of_name own_pn_CurrentDomains) hisR ?_
  intro p e s m args below meth c s₁ Bd hml0 hP hK
  obtain ⟨rfl, hZ, hh⟩ := hP
  have hx := Bd.exec
  have hby := Bd.bytes
  have hml : c.maxLocals = 2 := hml0
  have hown : s.vm.findClass "com/example/sieveline/sieveline/model/CurrentDomains" = some m.cls := findClass_of_methodNamed Bd.named
  have hnm := (name_of_methodNamed Bd.named Bd.method).1
  have hlk : meth.locks = false := BodyLoose.notSynchronized Bd
  have X0 : Stand p l e ({ frames := 0, cells := 0, slots := 0, locals := 0 } : Room) s m #[(.ref a0), (.int (0 : Int32))] below meth c s₁ [] 0 0 := Stand.of_body Bd
  have e0 : s₁.heap = h0 := by rw [← hh, Bd.state]; rfl
  have N0 := Fr.nil n0
  have K0 : Keep h0 h0 [a0, at_] := Keep.refl _ _
  have ww : ∀ (k : Nat) {d : Jvm.Cond}, tables_1[k]? = some d → d.before av0 Z = true := fun k d h => hw d (List.mem_of_getElem? h)
  show ownEnds p e below s (Q_record_4_0 Z a0 at_ as_ ad ap gt gs h0 n0) ({ frames := 0, cells := 0, slots := 0, locals := 0 } : Room).cells ({ frames := 0, cells := 0, slots := 0, locals := 0 } : Room).slots s₁ (entryFrame m #[(.ref a0), (.int (0 : Int32))] 2)
  refine ownCast (own_ef5_record_4_0 m a0) ?_
  refine ow_aloadN (q := 1) X0 hx (hb hby own_d5_0) rfl rfl rfl ?_
  obtain ⟨T1, X1, e1, st1⟩ := getF X0 hx hZ hown (host := "") (Or.inl (ww 34 rfl)) Via.refl e0 HF5 (g := (mkF m 1 #[rv a0, iv (0 : Int32)] [(.ref a0)])) rfl rfl (hb hby own_d5_1)
  refine ownGo (T' := T1) (f' := (mkF m 4 #[rv a0, iv (0 : Int32)] [(.int (4 : Int32))])) (st1) ?_
  refine ow_aloadN (q := 5) X1 hx (hb hby own_d5_4) rfl rfl rfl ?_
  obtain ⟨T2, X2, e2, st2⟩ := getF X1 hx hZ hown (host := "") (Or.inl (ww 11 rfl)) Via.refl e1 HF1 (g := (mkF m 5 #[rv a0, iv (0 : Int32)] [(.ref a0), (.int (4 : Int32))])) rfl rfl (hb hby own_d5_5)
  refine ownGo (T' := T2) (f' := (mkF m 8 #[rv a0, iv (0 : Int32)] [(.ref at_), (.int (4 : Int32))])) (st2) ?_
  refine ownGo (T' := T2) (f' := (mkF m 9 #[rv a0, iv (0 : Int32)] [(.int (64 : Int32)), (.int (4 : Int32))])) (ownLenI HF6 X2 hx hZ e2 (z := (64 : Int32)) (by decide) (g := (mkF m 8 #[rv a0, iv (0 : Int32)] [(.ref at_), (.int (4 : Int32))])) rfl rfl (hb hby own_d5_8)) ?_
  refine ow_icmpYes (q := 30) X2 hx (hb hby own_d5_9) (Jvm.Free.XT.ii_ne_t (by decide)) (by decide) (by decide) ?_
  refine ow_aloadN (q := 31) X2 hx (hb hby own_d5_30) rfl rfl rfl ?_
  obtain ⟨T3, X3, e3, st3⟩ := getF X2 hx hZ hown (host := "") (Or.inl (ww 11 rfl)) Via.refl e2 HF1 (g := (mkF m 31 #[rv a0, iv (0 : Int32)] [(.ref a0)])) rfl rfl (hb hby own_d5_31)
  refine ownGo (T' := T3) (f' := (mkF m 34 #[rv a0, iv (0 : Int32)] [(.ref at_)])) (st3) ?_
  refine ow_aloadN (q := 35) X3 hx (hb hby own_d5_34) rfl rfl rfl ?_
  refine ow_dup (q := 36) X3 hx (hb hby own_d5_35) rfl rfl ?_
  obtain ⟨T4, X4, e4, st4⟩ := getF X3 hx hZ hown (host := "") (Or.inl (ww 34 rfl)) Via.refl e3 HF5 (g := (mkF m 36 #[rv a0, iv (0 : Int32)] [(.ref a0), (.ref a0), (.ref at_)])) rfl rfl (hb hby own_d5_36)
  refine ownGo (T' := T4) (f' := (mkF m 39 #[rv a0, iv (0 : Int32)] [(.int (4 : Int32)), (.ref a0), (.ref at_)])) (st4) ?_
  refine ow_dupX1 (q := 40) X4 hx (hb hby own_d5_39) rfl rfl rfl ?_
  refine ow_iconst (q := 41) X4 hx (1 : Int32) (hb hby own_d5_40) rfl rfl ?_
  refine ow_iadd (q := 42) X4 hx (5 : Int32) (hb hby own_d5_41) rfl (by decide) ?_
  obtain ⟨T5, h5, X5, e5, W5, st5⟩ := putF X4 hx hZ hown (host := "") (Or.inl (ww 34 rfl)) Via.refl e4 HF5 HF0 (Or.inl (ww 35 rfl)) (ww 2 rfl) (ty := .int) (by decide) rfl rfl (g := (mkF m 42 #[rv a0, iv (0 : Int32)] [(.int (5 : Int32)), (.ref a0), (.int (4 : Int32)), (.ref at_)])) rfl rfl (hb hby own_d5_42)
  have N5 := Fr.snoc X5 N0 G_a0
  have K5 : Keep h0 h5 [a0, at_] := K0.wr W5 (Or.inl (List.mem_of_getElem? (i := 0) rfl))
  have F6 : Exa Z h5 a0 "com/example/sieveline/sieveline/model/CurrentDomains" := HF0.wr W5
  have F7 : Fld Z h5 a0 "com/example/sieveline/sieveline/model/CurrentDomains" "trail" "[I" (.ref at_) := HF1.other W5 (Or.inr (slot_ne (Or.inl (ww 12 rfl)) (Or.inl (ww 35 rfl)) (by decide) (t := (.array .int)) (t' := .int) (by decide) (by decide)))
  have F8 : Fld Z h5 a0 "com/example/sieveline/sieveline/model/CurrentDomains" "size" "[I" (.ref as_) := HF2.other W5 (Or.inr (slot_ne (Or.inr (ww 23 rfl)) (Or.inl (ww 35 rfl)) (by decide) (t := (.array .int)) (t' := .int) (by decide) (by decide)))
  have F9 : Fld Z h5 a0 "com/example/sieveline/sieveline/model/CurrentDomains" "dense" "[[I" (.ref ad) := HF3.other W5 (Or.inr (slot_ne (Or.inr (ww 26 rfl)) (Or.inl (ww 35 rfl)) (by decide) (t := (.array (.array .int))) (t' := .int) (by decide) (by decide)))
  have F10 : Fld Z h5 a0 "com/example/sieveline/sieveline/model/CurrentDomains" "position" "[[I" (.ref ap) := HF4.other W5 (Or.inr (slot_ne (Or.inr (ww 28 rfl)) (Or.inl (ww 35 rfl)) (by decide) (t := (.array (.array .int))) (t' := .int) (by decide) (by decide)))
  have F11 : Fld Z h5 a0 "com/example/sieveline/sieveline/model/CurrentDomains" "top" "I" (.int (5 : Int32)) := HF5.same W5
  have F12 : ownAI Z h5 at_ .int 64 gt := HF6.other W5 (Ne.symm hn1)
  have F13 : ownAI Z h5 as_ .int 2 gs := HF7.other W5 (Ne.symm hn2)
  refine ownGo (T' := T5) (f' := (mkF m 45 #[rv a0, iv (0 : Int32)] [(.int (4 : Int32)), (.ref at_)])) (st5) ?_
  refine ow_iloadN (q := 46) X5 hx (hb hby own_d5_45) rfl rfl ?_
  obtain ⟨T14, h14, X14, e14, W14, F14s, st14⟩ := ownIastore F12 X5 hx hZ e5 (j := (4 : Int32)) (by unfold ownIn; decide) (g := (mkF m 46 #[rv a0, iv (0 : Int32)] [(.int (0 : Int32)), (.int (4 : Int32)), (.ref at_)])) rfl rfl (hb hby own_d5_46)
  have F14r : ownAI Z h14 at_ .int 64 (ownUpd gt 4 (0 : Int32)) := F14s
  have N14 := Fr.snoc X14 N5 G_at_
  have K14 : Keep h0 h14 [a0, at_] := K5.wr W14 (Or.inl (List.mem_of_getElem? (i := 1) rfl))
  have F15 : Exa Z h14 a0 "com/example/sieveline/sieveline/model/CurrentDomains" := F6.wr W14
  have F16 : Fld Z h14 a0 "com/example/sieveline/sieveline/model/CurrentDomains" "trail" "[I" (.ref at_) := F7.other W14 (Or.inl hn1)
  have F17 : Fld Z h14 a0 "com/example/sieveline/sieveline/model/CurrentDomains" "size" "[I" (.ref as_) := F8.other W14 (Or.inl hn1)
  have F18 : Fld Z h14 a0 "com/example/sieveline/sieveline/model/CurrentDomains" "dense" "[[I" (.ref ad) := F9.other W14 (Or.inl hn1)
  have F19 : Fld Z h14 a0 "com/example/sieveline/sieveline/model/CurrentDomains" "position" "[[I" (.ref ap) := F10.other W14 (Or.inl hn1)
  have F20 : Fld Z h14 a0 "com/example/sieveline/sieveline/model/CurrentDomains" "top" "I" (.int (5 : Int32)) := F11.other W14 (Or.inl hn1)
  have F21 : ownAI Z h14 as_ .int 2 gs := F13.other W14 (Ne.symm hn3)
  refine ownGo (T' := T14) (f' := (mkF m 47 #[rv a0, iv (0 : Int32)] [])) (st14) ?_
  refine ow_aloadN (q := 48) X14 hx (hb hby own_d5_47) rfl rfl rfl ?_
  obtain ⟨T22, X22, e22, st22⟩ := getF X14 hx hZ hown (host := "") (Or.inl (ww 11 rfl)) Via.refl e14 F16 (g := (mkF m 48 #[rv a0, iv (0 : Int32)] [(.ref a0)])) rfl rfl (hb hby own_d5_48)
  refine ownGo (T' := T22) (f' := (mkF m 51 #[rv a0, iv (0 : Int32)] [(.ref at_)])) (st22) ?_
  refine ow_aloadN (q := 52) X22 hx (hb hby own_d5_51) rfl rfl rfl ?_
  refine ow_dup (q := 53) X22 hx (hb hby own_d5_52) rfl rfl ?_
  obtain ⟨T23, X23, e23, st23⟩ := getF X22 hx hZ hown (host := "") (Or.inl (ww 34 rfl)) Via.refl e22 F20 (g := (mkF m 53 #[rv a0, iv (0 : Int32)] [(.ref a0), (.ref a0), (.ref at_)])) rfl rfl (hb hby own_d5_53)
  refine ownGo (T' := T23) (f' := (mkF m 56 #[rv a0, iv (0 : Int32)] [(.int (5 : Int32)), (.ref a0), (.ref at_)])) (st23) ?_
  refine ow_dupX1 (q := 57) X23 hx (hb hby own_d5_56) rfl rfl rfl ?_
  refine ow_iconst (q := 58) X23 hx (1 : Int32) (hb hby own_d5_57) rfl rfl ?_
  refine ow_iadd (q := 59) X23 hx (6 : Int32) (hb hby own_d5_58) rfl (by decide) ?_
  obtain ⟨T24, h24, X24, e24, W24, st24⟩ := putF X23 hx hZ hown (host := "") (Or.inl (ww 34 rfl)) Via.refl e23 F20 F15 (Or.inl (ww 35 rfl)) (ww 2 rfl) (ty := .int) (by decide) rfl rfl (g := (mkF m 59 #[rv a0, iv (0 : Int32)] [(.int (6 : Int32)), (.ref a0), (.int (5 : Int32)), (.ref at_)])) rfl rfl (hb hby own_d5_59)
  have N24 := Fr.snoc X24 N14 G_a0
  have K24 : Keep h0 h24 [a0, at_] := K14.wr W24 (Or.inl (List.mem_of_getElem? (i := 0) rfl))
  have F25 : Exa Z h24 a0 "com/example/sieveline/sieveline/model/CurrentDomains" := F15.wr W24
  have F26 : Fld Z h24 a0 "com/example/sieveline/sieveline/model/CurrentDomains" "trail" "[I" (.ref at_) := F16.other W24 (Or.inr (slot_ne (Or.inl (ww 12 rfl)) (Or.inl (ww 35 rfl)) (by decide) (t := (.array .int)) (t' := .int) (by decide) (by decide)))
  have F27 : Fld Z h24 a0 "com/example/sieveline/sieveline/model/CurrentDomains" "size" "[I" (.ref as_) := F17.other W24 (Or.inr (slot_ne (Or.inr (ww 23 rfl)) (Or.inl (ww 35 rfl)) (by decide) (t := (.array .int)) (t' := .int) (by decide) (by decide)))
  have F28 : Fld Z h24 a0 "com/example/sieveline/sieveline/model/CurrentDomains" "dense" "[[I" (.ref ad) := F18.other W24 (Or.inr (slot_ne (Or.inr (ww 26 rfl)) (Or.inl (ww 35 rfl)) (by decide) (t := (.array (.array .int))) (t' := .int) (by decide) (by decide)))
  have F29 : Fld Z h24 a0 "com/example/sieveline/sieveline/model/CurrentDomains" "position" "[[I" (.ref ap) := F19.other W24 (Or.inr (slot_ne (Or.inr (ww 28 rfl)) (Or.inl (ww 35 rfl)) (by decide) (t := (.array (.array .int))) (t' := .int) (by decide) (by decide)))
  have F30 : Fld Z h24 a0 "com/example/sieveline/sieveline/model/CurrentDomains" "top" "I" (.int (6 : Int32)) := F20.same W24
  have F31 : ownAI Z h24 as_ .int 2 gs := F21.other W24 (Ne.symm hn2)
  have F32 : ownAI Z h24 at_ .int 64 (ownUpd gt 4 (0 : Int32)) := F14r.other W24 (Ne.symm hn1)
  refine ownGo (T' := T24) (f' := (mkF m 62 #[rv a0, iv (0 : Int32)] [(.int (5 : Int32)), (.ref at_)])) (st24) ?_
  refine ow_aloadN (q := 63) X24 hx (hb hby own_d5_62) rfl rfl rfl ?_
  obtain ⟨T33, X33, e33, st33⟩ := getF X24 hx hZ hown (host := "") (Or.inl (ww 22 rfl)) Via.refl e24 F27 (g := (mkF m 63 #[rv a0, iv (0 : Int32)] [(.ref a0), (.int (5 : Int32)), (.ref at_)])) rfl rfl (hb hby own_d5_63)
  refine ownGo (T' := T33) (f' := (mkF m 66 #[rv a0, iv (0 : Int32)] [(.ref as_), (.int (5 : Int32)), (.ref at_)])) (st33) ?_
  refine ow_iloadN (q := 67) X33 hx (hb hby own_d5_66) rfl rfl ?_
  refine ownGo (T' := T33) (f' := (mkF m 68 #[rv a0, iv (0 : Int32)] [(.int (gs 0)), (.int (5 : Int32)), (.ref at_)])) (ownIaload F31 X33 hx hZ e33 (j := (0 : Int32)) (by unfold ownIn; decide) (g := (mkF m 67 #[rv a0, iv (0 : Int32)] [(.int (0 : Int32)), (.ref as_), (.int (5 : Int32)), (.ref at_)])) rfl rfl (hb hby own_d5_67)) ?_
  generalize hv_v34 : (gs 0) = v34
  obtain ⟨T35, h35, X35, e35, W35, F35s, st35⟩ := ownIastore F32 X33 hx hZ e33 (j := (5 : Int32)) (by unfold ownIn; decide) (g := (mkF m 68 #[rv a0, iv (0 : Int32)] [(.int v34), (.int (5 : Int32)), (.ref at_)])) rfl rfl (hb hby own_d5_68)
  have F35r : ownAI Z h35 at_ .int 64 (ownUpd (ownUpd gt 4 (0 : Int32)) 5 v34) := F35s
  have N35 := Fr.snoc X35 N24 G_at_
  have K35 : Keep h0 h35 [a0, at_] := K24.wr W35 (Or.inl (List.mem_of_getElem? (i := 1) rfl))
  have F36 : Exa Z h35 a0 "com/example/sieveline/sieveline/model/CurrentDomains" := F25.wr W35
  have F37 : Fld Z h35 a0 "com/example/sieveline/sieveline/model/CurrentDomains" "trail" "[I" (.ref at_) := F26.other W35 (Or.inl hn1)
  have F38 : Fld Z h35 a0 "com/example/sieveline/sieveline/model/CurrentDomains" "size" "[I" (.ref as_) := F27.other W35 (Or.inl hn1)
  have F39 : Fld Z h35 a0 "com/example/sieveline/sieveline/model/CurrentDomains" "dense" "[[I" (.ref ad) := F28.other W35 (Or.inl hn1)
  have F40 : Fld Z h35 a0 "com/example/sieveline/sieveline/model/CurrentDomains" "position" "[[I" (.ref ap) := F29.other W35 (Or.inl hn1)
  have F41 : Fld Z h35 a0 "com/example/sieveline/sieveline/model/CurrentDomains" "top" "I" (.int (6 : Int32)) := F30.other W35 (Or.inl hn1)
  have F42 : ownAI Z h35 as_ .int 2 gs := F31.other W35 (Ne.symm hn3)
  refine ownGo (T' := T35) (f' := (mkF m 69 #[rv a0, iv (0 : Int32)] [])) (st35) ?_
  refine ownRetV X35 hx Bd.returns (hb hby own_d5_69) hlk (by decide) (by decide) ?_
  subst hv_v34
  rw [e35]
  exact ⟨rfl, N35, K35, F36, F37, F38, F39, F40, F41, F35r⟩
theorem own_ef5_record_4_1 (m : MethodId) (a0 : Addr) : entryFrame m #[(.ref a0), (.int (1 : Int32))] 2 = mkF m 0 #[rv a0, iv (1 : Int32)] [] := by first | (simp [entryFrame, mkF, argsToLocals, Value.category]; done) | rfl
def Q_record_4_1 (Z : State) (a0 : Addr) (at_ : Addr) (as_ : Addr) (ad : Addr) (ap : Addr) (gt : Nat → Int32) (gs : Nat → Int32) (h0 : Heap) (n0 : Nat) (v : Option Value) (h : Heap) (L : List Loc) : Prop := v = none ∧ Fr n0 L ∧ Keep h0 h [a0, at_] ∧ Exa Z h a0 "com/example/sieveline/sieveline/model/CurrentDomains" ∧ Fld Z h a0 "com/example/sieveline/sieveline/model/CurrentDomains" "trail" "[I" (.ref at_) ∧ Fld Z h a0 "com/example/sieveline/sieveline/model/CurrentDomains" "size" "[I" (.ref as_) ∧ Fld Z h a0 "com/example/sieveline/sieveline/model/CurrentDomains" "dense" "[[I" (.ref ad) ∧ Fld Z h a0 "com/example/sieveline/sieveline/model/CurrentDomains" "position" "[[I" (.ref ap) ∧ Fld Z h a0 "com/example/sieveline/sieveline/model/CurrentDomains" "top" "I" (.int (6 : Int32)) ∧ ownAI Z h at_ .int 64 (ownUpd (ownUpd gt 4 (1 : Int32)) 5 (gs 1))
set_option maxRecDepth 65536 in
set_option maxHeartbeats 40000000 in
theorem rm_record_4_1 (l : Launch) (Z : State) (av0 : Array Value) (hw : ∀ d ∈ tables_1, d.before av0 Z = true) (ws : List Jvm.Cond) (a0 : Addr) (at_ : Addr) (as_ : Addr) (ad : Addr) (ap : Addr) (gt : Nat → Int32) (gs : Nat → Int32) (h0 : Heap) (n0 : Nat) (Z0 : n0 ≤ h0.size) (HF0 : Exa Z h0 a0 "com/example/sieveline/sieveline/model/CurrentDomains") (HF1 : Fld Z h0 a0 "com/example/sieveline/sieveline/model/CurrentDomains" "trail" "[I" (.ref at_)) (HF2 : Fld Z h0 a0 "com/example/sieveline/sieveline/model/CurrentDomains" "size" "[I" (.ref as_)) (HF3 : Fld Z h0 a0 "com/example/sieveline/sieveline/model/CurrentDomains" "dense" "[[I" (.ref ad)) (HF4 : Fld Z h0 a0 "com/example/sieveline/sieveline/model/CurrentDomains" "position" "[[I" (.ref ap)) (HF5 : Fld Z h0 a0 "com/example/sieveline/sieveline/model/CurrentDomains" "top" "I" (.int (4 : Int32))) (HF6 : ownAI Z h0 at_ .int 64 gt) (HF7 : ownAI Z h0 as_ .int 2 gs) (G_a0 : n0 ≤ a0) (G_at_ : n0 ≤ at_) (hn1 : a0 ≠ at_) (hn2 : a0 ≠ as_) (hn3 : at_ ≠ as_) :
    MetFree l (⟨"com/example/sieveline/sieveline/model/CurrentDomains", "record", "(I)V"⟩ : MethodName) (head1 (Jvm.Cond.code (⟨"com/example/sieveline/sieveline/model/CurrentDomains", "record", "(I)V"⟩ : MethodName) prog_10_method_10_code 2 none :: ws) ({ frames := 0, cells := 0, slots := 0, locals := 0 } : Room)) (fun a U => a = #[(.ref a0), (.int (1 : Int32))] ∧ Z.Warmed39 U.vm ∧ U.heap = h0) (fun _ _ _ _ _ => True) (fun _ U o U' => ∃ v L, o = .returned v ∧ (Q_record_4_1 Z a0 at_ as_ ad ap gt gs h0 n0) v U'.heap L ∧ FrameEnd U o U' L ({ frames := 0, cells := 0, slots := 0, locals := 0 } : Room).cells ({ frames := 0, cells := 0, slots := 0, locals := 0 } : Room).slots) := by
  refine MetFree.of_bodySF (plainFor_of_name own_pn_CurrentDomains) hisR ?_
  intro p e s m args below meth c s₁ Bd hml0 hP hK
  obtain ⟨rfl, hZ, hh⟩ := hP
  have hx := Bd.exec
  have hby := Bd.bytes
  have hml : c.maxLocals = 2 := hml0
  have hown : s.vm.findClass "com/example/sieveline/sieveline/model/CurrentDomains" = some m.cls := findClass_of_methodNamed Bd.named
  have hnm := (name_of_methodNamed Bd.named Bd.method).1
  have hlk : meth.locks = false := BodyLoose.notSynchronized Bd
  have X0 : Stand p l e ({ frames := 0, cells := 0, slots := 0, locals := 0 } : Room) s m #[(.ref a0), (.int (1 : Int32))] below meth c s₁ [] 0 0 := Stand.of_body Bd
  have e0 : s₁.heap = h0 := by rw [← hh, Bd.state]; rfl
  have N0 := Fr.nil n0
  have K0 : Keep h0 h0 [a0, at_] := Keep.refl _ _
  have ww : ∀ (k : Nat) {d : Jvm.Cond}, tables_1[k]? = some d → d.before av0 Z = true := fun k d h => hw d (List.mem_of_getElem? h)
  show ownEnds p e below s (Q_record_4_1 Z a0 at_ as_ ad ap gt gs h0 n0) ({ frames := 0, cells := 0, slots := 0, locals := 0 } : Room).cells ({ frames := 0, cells := 0, slots := 0, locals := 0 } : Room).slots s₁ (entryFrame m #[(.ref a0), (.int (1 : Int32))] 2)
  refine ownCast (own_ef5_record_4_1 m a0) ?_
  refine ow_aloadN (q := 1) X0 hx (hb hby own_d5_0) rfl rfl rfl ?_
  obtain ⟨T1, X1, e1, st1⟩ := getF X0 hx hZ hown (host := "") (Or.inl (ww 34 rfl)) Via.refl e0 HF5 (g := (mkF m 1 #[rv a0, iv (1 : Int32)] [(.ref a0)])) rfl rfl (hb hby own_d5_1)
  refine ownGo (T' := T1) (f' := (mkF m 4 #[rv a0, iv (1 : Int32)] [(.int (4 : Int32))])) (st1) ?_
  refine ow_aloadN (q := 5) X1 hx (hb hby own_d5_4) rfl rfl rfl ?_
  obtain ⟨T2, X2, e2, st2⟩ := getF X1 hx hZ hown (host := "") (Or.inl (ww 11 rfl)) Via.refl e1 HF1 (g := (mkF m 5 #[rv a0, iv (1 : Int32)] [(.ref a0), (.int (4 : Int32))])) rfl rfl (hb hby own_d5_5)
  refine ownGo (T' := T2) (f' := (mkF m 8 #[rv a0, iv (1 : Int32)] [(.ref at_), (.int (4 : Int32))])) (st2) ?_
  refine ownGo (T' := T2) (f' := (mkF m 9 #[rv a0, iv (1 : Int32)] [(.int (64 : Int32)), (.int (4 : Int32))])) (ownLenI HF6 X2 hx hZ e2 (z := (64 : Int32)) (by decide) (g := (mkF m 8 #[rv a0, iv (1 : Int32)] [(.ref at_), (.int (4 : Int32))])) rfl rfl (hb hby own_d5_8)) ?_
  refine ow_icmpYes (q := 30) X2 hx (hb hby own_d5_9) (Jvm.Free.XT.ii_ne_t (by decide)) (by decide) (by decide) ?_
  refine ow_aloadN (q := 31) X2 hx (hb hby own_d5_30) rfl rfl rfl ?_
  obtain ⟨T3, X3, e3, st3⟩ := getF X2 hx hZ hown (host := "") (Or.inl (ww 11 rfl)) Via.refl e2 HF1 (g := (mkF m 31 #[rv a0, iv (1 : Int32)] [(.ref a0)])) rfl rfl (hb hby own_d5_31)
  refine ownGo (T' := T3) (f' := (mkF m 34 #[rv a0, iv (1 : Int32)] [(.ref at_)])) (st3) ?_
  refine ow_aloadN (q := 35) X3 hx (hb hby own_d5_34) rfl rfl rfl ?_
  refine ow_dup (q := 36) X3 hx (hb hby own_d5_35) rfl rfl ?_
  obtain ⟨T4, X4, e4, st4⟩ := getF X3 hx hZ hown (host := "") (Or.inl (ww 34 rfl)) Via.refl e3 HF5 (g := (mkF m 36 #[rv a0, iv (1 : Int32)] [(.ref a0), (.ref a0), (.ref at_)])) rfl rfl (hb hby own_d5_36)
  refine ownGo (T' := T4) (f' := (mkF m 39 #[rv a0, iv (1 : Int32)] [(.int (4 : Int32)), (.ref a0), (.ref at_)])) (st4) ?_
  refine ow_dupX1 (q := 40) X4 hx (hb hby own_d5_39) rfl rfl rfl ?_
  refine ow_iconst (q := 41) X4 hx (1 : Int32) (hb hby own_d5_40) rfl rfl ?_
  refine ow_iadd (q := 42) X4 hx (5 : Int32) (hb hby own_d5_41) rfl (by decide) ?_
  obtain ⟨T5, h5, X5, e5, W5, st5⟩ := putF X4 hx hZ hown (host := "") (Or.inl (ww 34 rfl)) Via.refl e4 HF5 HF0 (Or.inl (ww 35 rfl)) (ww 2 rfl) (ty := .int) (by decide) rfl rfl (g := (mkF m 42 #[rv a0, iv (1 : Int32)] [(.int (5 : Int32)), (.ref a0), (.int (4 : Int32)), (.ref at_)])) rfl rfl (hb hby own_d5_42)
  have N5 := Fr.snoc X5 N0 G_a0
  have K5 : Keep h0 h5 [a0, at_] := K0.wr W5 (Or.inl (List.mem_of_getElem? (i := 0) rfl))
  have F6 : Exa Z h5 a0 "com/example/sieveline/sieveline/model/CurrentDomains" := HF0.wr W5
  have F7 : Fld Z h5 a0 "com/example/sieveline/sieveline/model/CurrentDomains" "trail" "[I" (.ref at_) := HF1.other W5 (Or.inr (slot_ne (Or.inl (ww 12 rfl)) (Or.inl (ww 35 rfl)) (by decide) (t := (.array .int)) (t' := .int) (by decide) (by decide)))
  have F8 : Fld Z h5 a0 "com/example/sieveline/sieveline/model/CurrentDomains" "size" "[I" (.ref as_) := HF2.other W5 (Or.inr (slot_ne (Or.inr (ww 23 rfl)) (Or.inl (ww 35 rfl)) (by decide) (t := (.array .int)) (t' := .int) (by decide) (by decide)))
  have F9 : Fld Z h5 a0 "com/example/sieveline/sieveline/model/CurrentDomains" "dense" "[[I" (.ref ad) := HF3.other W5 (Or.inr (slot_ne (Or.inr (ww 26 rfl)) (Or.inl (ww 35 rfl)) (by decide) (t := (.array (.array .int))) (t' := .int) (by decide) (by decide)))
  have F10 : Fld Z h5 a0 "com/example/sieveline/sieveline/model/CurrentDomains" "position" "[[I" (.ref ap) := HF4.other W5 (Or.inr (slot_ne (Or.inr (ww 28 rfl)) (Or.inl (ww 35 rfl)) (by decide) (t := (.array (.array .int))) (t' := .int) (by decide) (by decide)))
  have F11 : Fld Z h5 a0 "com/example/sieveline/sieveline/model/CurrentDomains" "top" "I" (.int (5 : Int32)) := HF5.same W5
  have F12 : ownAI Z h5 at_ .int 64 gt := HF6.other W5 (Ne.symm hn1)
  have F13 : ownAI Z h5 as_ .int 2 gs := HF7.other W5 (Ne.symm hn2)
  refine ownGo (T' := T5) (f' := (mkF m 45 #[rv a0, iv (1 : Int32)] [(.int (4 : Int32)), (.ref at_)])) (st5) ?_
  refine ow_iloadN (q := 46) X5 hx (hb hby own_d5_45) rfl rfl ?_
  obtain ⟨T14, h14, X14, e14, W14, F14s, st14⟩ := ownIastore F12 X5 hx hZ e5 (j := (4 : Int32)) (by unfold ownIn; decide) (g := (mkF m 46 #[rv a0, iv (1 : Int32)] [(.int (1 : Int32)), (.int (4 : Int32)), (.ref at_)])) rfl rfl (hb hby own_d5_46)
  have F14r : ownAI Z h14 at_ .int 64 (ownUpd gt 4 (1 : Int32)) := F14s
  have N14 := Fr.snoc X14 N5 G_at_
  have K14 : Keep h0 h14 [a0, at_] := K5.wr W14 (Or.inl (List.mem_of_getElem? (i := 1) rfl))
  have F15 : Exa Z h14 a0 "com/example/sieveline/sieveline/model/CurrentDomains" := F6.wr W14
  have F16 : Fld Z h14 a0 "com/example/sieveline/sieveline/model/CurrentDomains" "trail" "[I" (.ref at_) := F7.other W14 (Or.inl hn1)
  have F17 : Fld Z h14 a0 "com/example/sieveline/sieveline/model/CurrentDomains" "size" "[I" (.ref as_) := F8.other W14 (Or.inl hn1)
  have F18 : Fld Z h14 a0 "com/example/sieveline/sieveline/model/CurrentDomains" "dense" "[[I" (.ref ad) := F9.other W14 (Or.inl hn1)
  have F19 : Fld Z h14 a0 "com/example/sieveline/sieveline/model/CurrentDomains" "position" "[[I" (.ref ap) := F10.other W14 (Or.inl hn1)
  have F20 : Fld Z h14 a0 "com/example/sieveline/sieveline/model/CurrentDomains" "top" "I" (.int (5 : Int32)) := F11.other W14 (Or.inl hn1)
  have F21 : ownAI Z h14 as_ .int 2 gs := F13.other W14 (Ne.symm hn3)
  refine ownGo (T' := T14) (f' := (mkF m 47 #[rv a0, iv (1 : Int32)] [])) (st14) ?_
  refine ow_aloadN (q := 48) X14 hx (hb hby own_d5_47) rfl rfl rfl ?_
  obtain ⟨T22, X22, e22, st22⟩ := getF X14 hx hZ hown (host := "") (Or.inl (ww 11 rfl)) Via.refl e14 F16 (g := (mkF m 48 #[rv a0, iv (1 : Int32)] [(.ref a0)])) rfl rfl (hb hby own_d5_48)
  refine ownGo (T' := T22) (f' := (mkF m 51 #[rv a0, iv (1 : Int32)] [(.ref at_)])) (st22) ?_
  refine ow_aloadN (q := 52) X22 hx (hb hby own_d5_51) rfl rfl rfl ?_
  refine ow_dup (q := 53) X22 hx (hb hby own_d5_52) rfl rfl ?_
  obtain ⟨T23, X23, e23, st23⟩ := getF X22 hx hZ hown (host := "") (Or.inl (ww 34 rfl)) Via.refl e22 F20 (g := (mkF m 53 #[rv a0, iv (1 : Int32)] [(.ref a0), (.ref a0), (.ref at_)])) rfl rfl (hb hby own_d5_53)
  refine ownGo (T' := T23) (f' := (mkF m 56 #[rv a0, iv (1 : Int32)] [(.int (5 : Int32)), (.ref a0), (.ref at_)])) (st23) ?_
  refine ow_dupX1 (q := 57) X23 hx (hb hby own_d5_56) rfl rfl rfl ?_
  refine ow_iconst (q := 58) X23 hx (1 : Int32) (hb hby own_d5_57) rfl rfl ?_
  refine ow_iadd (q := 59) X23 hx (6 : Int32) (hb hby own_d5_58) rfl (by decide) ?_
  obtain ⟨T24, h24, X24, e24, W24, st24⟩ := putF X23 hx hZ hown (host := "") (Or.inl (ww 34 rfl)) Via.refl e23 F20 F15 (Or.inl (ww 35 rfl)) (ww 2 rfl) (ty := .int) (by decide) rfl rfl (g := (mkF m 59 #[rv a0, iv (1 : Int32)] [(.int (6 : Int32)), (.ref a0), (.int (5 : Int32)), (.ref at_)])) rfl rfl (hb hby own_d5_59)
  have N24 := Fr.snoc X24 N14 G_a0
  have K24 : Keep h0 h24 [a0, at_] := K14.wr W24 (Or.inl (List.mem_of_getElem? (i := 0) rfl))
  have F25 : Exa Z h24 a0 "com/example/sieveline/sieveline/model/CurrentDomains" := F15.wr W24
  have F26 : Fld Z h24 a0 "com/example/sieveline/sieveline/model/CurrentDomains" "trail" "[I" (.ref at_) := F16.other W24 (Or.inr (slot_ne (Or.inl (ww 12 rfl)) (Or.inl (ww 35 rfl)) (by decide) (t := (.array .int)) (t' := .int) (by decide) (by decide)))
  have F27 : Fld Z h24 a0 "com/example/sieveline/sieveline/model/CurrentDomains" "size" "[I" (.ref as_) := F17.other W24 (Or.inr (slot_ne (Or.inr (ww 23 rfl)) (Or.inl (ww 35 rfl)) (by decide) (t := (.array .int)) (t' := .int) (by decide) (by decide)))
  have F28 : Fld Z h24 a0 "com/example/sieveline/sieveline/model/CurrentDomains" "dense" "[[I" (.ref ad) := F18.other W24 (Or.inr (slot_ne (Or.inr (ww 26 rfl)) (Or.inl (ww 35 rfl)) (by decide) (t := (.array (.array .int))) (t' := .int) (by decide) (by decide)))
  have F29 : Fld Z h24 a0 "com/example/sieveline/sieveline/model/CurrentDomains" "position" "[[I" (.ref ap) := F19.other W24 (Or.inr (slot_ne (Or.inr (ww 28 rfl)) (Or.inl (ww 35 rfl)) (by decide) (t := (.array (.array .int))) (t' := .int) (by decide) (by decide)))
  have F30 : Fld Z h24 a0 "com/example/sieveline/sieveline/model/CurrentDomains" "top" "I" (.int (6 : Int32)) := F20.same W24
  have F31 : ownAI Z h24 as_ .int 2 gs := F21.other W24 (Ne.symm hn2)
  have F32 : ownAI Z h24 at_ .int 64 (ownUpd gt 4 (1 : Int32)) := F14r.other W24 (Ne.symm hn1)
  refine ownGo (T' := T24) (f' := (mkF m 62 #[rv a0, iv (1 : Int32)] [(.int (5 : Int32)), (.ref at_)])) (st24) ?_
  refine ow_aloadN (q := 63) X24 hx (hb hby own_d5_62) rfl rfl rfl ?_
  obtain ⟨T33, X33, e33, st33⟩ := getF X24 hx hZ hown (host := "") (Or.inl (ww 22 rfl)) Via.refl e24 F27 (g := (mkF m 63 #[rv a0, iv (1 : Int32)] [(.ref a0), (.int (5 : Int32)), (.ref at_)])) rfl rfl (hb hby own_d5_63)
  refine ownGo (T' := T33) (f' := (mkF m 66 #[rv a0, iv (1 : Int32)] [(.ref as_), (.int (5 : Int32)), (.ref at_)])) (st33) ?_
  refine ow_iloadN (q := 67) X33 hx (hb hby own_d5_66) rfl rfl ?_
  refine ownGo (T' := T33) (f' := (mkF m 68 #[rv a0, iv (1 : Int32)] [(.int (gs 1)), (.int (5 : Int32)), (.ref at_)])) (ownIaload F31 X33 hx hZ e33 (j := (1 : Int32)) (by unfold ownIn; decide) (g := (mkF m 67 #[rv a0, iv (1 : Int32)] [(.int (1 : Int32)), (.ref as_), (.int (5 : Int32)), (.ref at_)])) rfl rfl (hb hby own_d5_67)) ?_
  generalize hv_v34 : (gs 1) = v34
  obtain ⟨T35, h35, X35, e35, W35, F35s, st35⟩ := ownIastore F32 X33 hx hZ e33 (j := (5 : Int32)) (by unfold ownIn; decide) (g := (mkF m 68 #[rv a0, iv (1 : Int32)] [(.int v34), (.int (5 : Int32)), (.ref at_)])) rfl rfl (hb hby own_d5_68)
  have F35r : ownAI Z h35 at_ .int 64 (ownUpd (ownUpd gt 4 (1 : Int32)) 5 v34) := F35s
  have N35 := Fr.snoc X35 N24 G_at_
  have K35 : Keep h0 h35 [a0, at_] := K24.wr W35 (Or.inl (List.mem_of_getElem? (i := 1) rfl))
  have F36 : Exa Z h35 a0 "com/example/sieveline/sieveline/model/CurrentDomains" := F25.wr W35
  have F37 : Fld Z h35 a0 "com/example/sieveline/sieveline/model/CurrentDomains" "trail" "[I" (.ref at_) := F26.other W35 (Or.inl hn1)
  have F38 : Fld Z h35 a0 "com/example/sieveline/sieveline/model/CurrentDomains" "size" "[I" (.ref as_) := F27.other W35 (Or.inl hn1)
  have F39 : Fld Z h35 a0 "com/example/sieveline/sieveline/model/CurrentDomains" "dense" "[[I" (.ref ad) := F28.other W35 (Or.inl hn1)
  have F40 : Fld Z h35 a0 "com/example/sieveline/sieveline/model/CurrentDomains" "position" "[[I" (.ref ap) := F29.other W35 (Or.inl hn1)
  have F41 : Fld Z h35 a0 "com/example/sieveline/sieveline/model/CurrentDomains" "top" "I" (.int (6 : Int32)) := F30.other W35 (Or.inl hn1)
  have F42 : ownAI Z h35 as_ .int 2 gs := F31.other W35 (Ne.symm hn3)
  refine ownGo (T' := T35) (f' := (mkF m 69 #[rv a0, iv (1 : Int32)] [])) (st35) ?_
  refine ownRetV X35 hx Bd.returns (hb hby own_d5_69) hlk (by decide) (by decide) ?_
  subst hv_v34
  rw [e35]
  exact ⟨rfl, N35, K35, F36, F37, F38, F39, F40, F41, F35r⟩
theorem own_ef5_record_6_0 (m : MethodId) (a0 : Addr) : entryFrame m #[(.ref a0), (.int (0 : Int32))] 2 = mkF m 0 #[rv a0, iv (0 : Int32)] [] := by first | (simp [entryFrame, mkF, argsToLocals, Value.category]; done) | rfl
def Q_record_6_0 (Z : State) (a0 : Addr) (at_ : Addr) (as_ : Addr) (ad : Addr) (ap : Addr) (gt : Nat → Int32) (gs : Nat → Int32) (h0 : Heap) (n0 : Nat) (v : Option Value) (h : Heap) (L : List Loc) : Prop := v = none ∧ Fr n0 L ∧ Keep h0 h [a0, at_] ∧ Exa Z h a0 "com/example/sieveline/sieveline/model/CurrentDomains" ∧ Fld Z h a0 "com/example/sieveline/sieveline/model/CurrentDomains" "trail" "[I" (.ref at_) ∧ Fld Z h a0 "com/example/sieveline/sieveline/model/CurrentDomains" "size" "[I" (.ref as_) ∧ Fld Z h a0 "com/example/sieveline/sieveline/model/CurrentDomains" "dense" "[[I" (.ref ad) ∧ Fld Z h a0 "com/example/sieveline/sieveline/model/CurrentDomains" "position" "[[I" (.ref ap) ∧ Fld Z h a0 "com/example/sieveline/sieveline/model/CurrentDomains" "top" "I" (.int (8 : Int32)) ∧ ownAI Z h at_ .int 64 (ownUpd (ownUpd gt 6 (0 : Int32)) 7 (gs 0))
set_option maxRecDepth 65536 in
set_option maxHeartbeats 40000000 in
theorem rm_record_6_0 (l : Launch) (Z : State) (av0 : Array Value) (hw : ∀ d ∈ tables_1, d.before av0 Z = true) (ws : List Jvm.Cond) (a0 : Addr) (at_ : Addr) (as_ : Addr) (ad : Addr) (ap : Addr) (gt : Nat → Int32) (gs : Nat → Int32) (h0 : Heap) (n0 : Nat) (Z0 : n0 ≤ h0.size) (HF0 : Exa Z h0 a0 "com/example/sieveline/sieveline/model/CurrentDomains") (HF1 : Fld Z h0 a0 "com/example/sieveline/sieveline/model/CurrentDomains" "trail" "[I" (.ref at_)) (HF2 : Fld Z h0 a0 "com/example/sieveline/sieveline/model/CurrentDomains" "size" "[I" (.ref as_)) (HF3 : Fld Z h0 a0 "com/example/sieveline/sieveline/model/CurrentDomains" "dense" "[[I" (.ref ad)) (HF4 : Fld Z h0 a0 "com/example/sieveline/sieveline/model/CurrentDomains" "position" "[[I" (.ref ap)) (HF5 : Fld Z h0 a0 "com/example/sieveline/sieveline/model/CurrentDomains" "top" "I" (.int (6 : Int32))) (HF6 : ownAI Z h0 at_ .int 64 gt) (HF7 : ownAI Z h0 as_ .int 2 gs) (G_a0 : n0 ≤ a0) (G_at_ : n0 ≤ at_) (hn1 : a0 ≠ at_) (hn2 : a0 ≠ as_) (hn3 : at_ ≠ as_) :
    MetFree l (⟨"com/example/sieveline/sieveline/model/CurrentDomains", "record", "(I)V"⟩ : MethodName) (head1 (Jvm.Cond.code (⟨"com/example/sieveline/sieveline/model/CurrentDomains", "record", "(I)V"⟩ : MethodName) prog_10_method_10_code 2 none :: ws) ({ frames := 0, cells := 0, slots := 0, locals := 0 } : Room)) (fun a U => a = #[(.ref a0), (.int (0 : Int32))] ∧ Z.Warmed39 U.vm ∧ U.heap = h0) (fun _ _ _ _ _ => True) (fun _ U o U' => ∃ v L, o = .returned v ∧ (Q_record_6_0 Z a0 at_ as_ ad ap gt gs h0 n0) v U'.heap L ∧ FrameEnd U o U' L ({ frames := 0, cells := 0, slots := 0, locals := 0 } : Room).cells ({ frames := 0, cells := 0, slots := 0, locals := 0 } : Room).slots) := by
  refine MetFree.of_bodySF (plainFor_of_name own_pn_CurrentDomains) hisR ?_
  intro p e s m args below meth c s₁ Bd hml0 hP hK
  obtain ⟨rfl, hZ, hh⟩ := hP
  have hx := Bd.exec
  have hby := Bd.bytes
  have hml : c.maxLocals = 2 := hml0
  have hown : s.vm.findClass "com/example/sieveline/sieveline/model/CurrentDomains" = some m.cls := findClass_of_methodNamed Bd.named
  have hnm := (name_of_methodNamed Bd.named Bd.method).1
  have hlk : meth.locks = false := BodyLoose.notSynchronized Bd
  have X0 : Stand p l e ({ frames := 0, cells := 0, slots := 0, locals := 0 } : Room) s m #[(.ref a0), (.int (0 : Int32))] below meth c s₁ [] 0 0 := Stand.of_body Bd
  have e0 : s₁.heap = h0 := by rw [← hh, Bd.state]; rfl
  have N0 := Fr.nil n0
  have K0 : Keep h0 h0 [a0, at_] := Keep.refl _ _
  have ww : ∀ (k : Nat) {d : Jvm.Cond}, tables_1[k]? = some d → d.before av0 Z = true := fun k d h => hw d (List.mem_of_getElem? h)
  show ownEnds p e below s (Q_record_6_0 Z a0 at_ as_ ad ap gt gs h0 n0) ({ frames := 0, cells := 0, slots := 0, locals := 0 } : Room).cells ({ frames := 0, cells := 0, slots := 0, locals := 0 } : Room).slots s₁ (entryFrame m #[(.ref a0), (.int (0 : Int32))] 2)
  refine ownCast (own_ef5_record_6_0 m a0) ?_
  refine ow_aloadN (q := 1) X0 hx (hb hby own_d5_0) rfl rfl rfl ?_
  obtain ⟨T1, X1, e1, st1⟩ := getF X0 hx hZ hown (host := "") (Or.inl (ww 34 rfl)) Via.refl e0 HF5 (g := (mkF m 1 #[rv a0, iv (0 : Int32)] [(.ref a0)])) rfl rfl (hb hby own_d5_1)
  refine ownGo (T' := T1) (f' := (mkF m 4 #[rv a0, iv (0 : Int32)] [(.int (6 : Int32))])) (st1) ?_
  refine ow_aloadN (q := 5) X1 hx (hb hby own_d5_4) rfl rfl rfl ?_
  obtain ⟨T2, X2, e2, st2⟩ := getF X1 hx hZ hown (host := "") (Or.inl (ww 11 rfl)) Via.refl e1 HF1 (g := (mkF m 5 #[rv a0, iv (0 : Int32)] [(.ref a0), (.int (6 : Int32))])) rfl rfl (hb hby own_d5_5)
  refine ownGo (T' := T2) (f' := (mkF m 8 #[rv a0, iv (0 : Int32)] [(.ref at_), (.int (6 : Int32))])) (st2) ?_
  refine ownGo (T' := T2) (f' := (mkF m 9 #[rv a0, iv (0 : Int32)] [(.int (64 : Int32)), (.int (6 : Int32))])) (ownLenI HF6 X2 hx hZ e2 (z := (64 : Int32)) (by decide) (g := (mkF m 8 #[rv a0, iv (0 : Int32)] [(.ref at_), (.int (6 : Int32))])) rfl rfl (hb hby own_d5_8)) ?_
  refine ow_icmpYes (q := 30) X2 hx (hb hby own_d5_9) (Jvm.Free.XT.ii_ne_t (by decide)) (by decide) (by decide) ?_
  refine ow_aloadN (q := 31) X2 hx (hb hby own_d5_30) rfl rfl rfl ?_
  obtain ⟨T3, X3, e3, st3⟩ := getF X2 hx hZ hown (host := "") (Or.inl (ww 11 rfl)) Via.refl e2 HF1 (g := (mkF m 31 #[rv a0, iv (0 : Int32)] [(.ref a0)])) rfl rfl (hb hby own_d5_31)
  refine ownGo (T' := T3) (f' := (mkF m 34 #[rv a0, iv (0 : Int32)] [(.ref at_)])) (st3) ?_
  refine ow_aloadN (q := 35) X3 hx (hb hby own_d5_34) rfl rfl rfl ?_
  refine ow_dup (q := 36) X3 hx (hb hby own_d5_35) rfl rfl ?_
  obtain ⟨T4, X4, e4, st4⟩ := getF X3 hx hZ hown (host := "") (Or.inl (ww 34 rfl)) Via.refl e3 HF5 (g := (mkF m 36 #[rv a0, iv (0 : Int32)] [(.ref a0), (.ref a0), (.ref at_)])) rfl rfl (hb hby own_d5_36)
  refine ownGo (T' := T4) (f' := (mkF m 39 #[rv a0, iv (0 : Int32)] [(.int (6 : Int32)), (.ref a0), (.ref at_)])) (st4) ?_
  refine ow_dupX1 (q := 40) X4 hx (hb hby own_d5_39) rfl rfl rfl ?_
  refine ow_iconst (q := 41) X4 hx (1 : Int32) (hb hby own_d5_40) rfl rfl ?_
  refine ow_iadd (q := 42) X4 hx (7 : Int32) (hb hby own_d5_41) rfl (by decide) ?_
  obtain ⟨T5, h5, X5, e5, W5, st5⟩ := putF X4 hx hZ hown (host := "") (Or.inl (ww 34 rfl)) Via.refl e4 HF5 HF0 (Or.inl (ww 35 rfl)) (ww 2 rfl) (ty := .int) (by decide) rfl rfl (g := (mkF m 42 #[rv a0, iv (0 : Int32)] [(.int (7 : Int32)), (.ref a0), (.int (6 : Int32)), (.ref at_)])) rfl rfl (hb hby own_d5_42)
  have N5 := Fr.snoc X5 N0 G_a0
  have K5 : Keep h0 h5 [a0, at_] := K0.wr W5 (Or.inl (List.mem_of_getElem? (i := 0) rfl))
  have F6 : Exa Z h5 a0 "com/example/sieveline/sieveline/model/CurrentDomains" := HF0.wr W5
  have F7 : Fld Z h5 a0 "com/example/sieveline/sieveline/model/CurrentDomains" "trail" "[I" (.ref at_) := HF1.other W5 (Or.inr (slot_ne (Or.inl (ww 12 rfl)) (Or.inl (ww 35 rfl)) (by decide) (t := (.array .int)) (t' := .int) (by decide) (by decide)))
  have F8 : Fld Z h5 a0 "com/example/sieveline/sieveline/model/CurrentDomains" "size" "[I" (.ref as_) := HF2.other W5 (Or.inr (slot_ne (Or.inr (ww 23 rfl)) (Or.inl (ww 35 rfl)) (by decide) (t := (.array .int)) (t' := .int) (by decide) (by decide)))
  have F9 : Fld Z h5 a0 "com/example/sieveline/sieveline/model/CurrentDomains" "dense" "[[I" (.ref ad) := HF3.other W5 (Or.inr (slot_ne (Or.inr (ww 26 rfl)) (Or.inl (ww 35 rfl)) (by decide) (t := (.array (.array .int))) (t' := .int) (by decide) (by decide)))
  have F10 : Fld Z h5 a0 "com/example/sieveline/sieveline/model/CurrentDomains" "position" "[[I" (.ref ap) := HF4.other W5 (Or.inr (slot_ne (Or.inr (ww 28 rfl)) (Or.inl (ww 35 rfl)) (by decide) (t := (.array (.array .int))) (t' := .int) (by decide) (by decide)))
  have F11 : Fld Z h5 a0 "com/example/sieveline/sieveline/model/CurrentDomains" "top" "I" (.int (7 : Int32)) := HF5.same W5
  have F12 : ownAI Z h5 at_ .int 64 gt := HF6.other W5 (Ne.symm hn1)
  have F13 : ownAI Z h5 as_ .int 2 gs := HF7.other W5 (Ne.symm hn2)
  refine ownGo (T' := T5) (f' := (mkF m 45 #[rv a0, iv (0 : Int32)] [(.int (6 : Int32)), (.ref at_)])) (st5) ?_
  refine ow_iloadN (q := 46) X5 hx (hb hby own_d5_45) rfl rfl ?_
  obtain ⟨T14, h14, X14, e14, W14, F14s, st14⟩ := ownIastore F12 X5 hx hZ e5 (j := (6 : Int32)) (by unfold ownIn; decide) (g := (mkF m 46 #[rv a0, iv (0 : Int32)] [(.int (0 : Int32)), (.int (6 : Int32)), (.ref at_)])) rfl rfl (hb hby own_d5_46)
  have F14r : ownAI Z h14 at_ .int 64 (ownUpd gt 6 (0 : Int32)) := F14s
  have N14 := Fr.snoc X14 N5 G_at_
  have K14 : Keep h0 h14 [a0, at_] := K5.wr W14 (Or.inl (List.mem_of_getElem? (i := 1) rfl))
  have F15 : Exa Z h14 a0 "com/example/sieveline/sieveline/model/CurrentDomains" := F6.wr W14
  have F16 : Fld Z h14 a0 "com/example/sieveline/sieveline/model/CurrentDomains" "trail" "[I" (.ref at_) := F7.other W14 (Or.inl hn1)
  have F17 : Fld Z h14 a0 "com/example/sieveline/sieveline/model/CurrentDomains" "size" "[I" (.ref as_) := F8.other W14 (Or.inl hn1)
  have F18 : Fld Z h14 a0 "com/example/sieveline/sieveline/model/CurrentDomains" "dense" "[[I" (.ref ad) := F9.other W14 (Or.inl hn1)
  have F19 : Fld Z h14 a0 "com/example/sieveline/sieveline/model/CurrentDomains" "position" "[[I" (.ref ap) := F10.other W14 (Or.inl hn1)
  have F20 : Fld Z h14 a0 "com/example/sieveline/sieveline/model/CurrentDomains" "top" "I" (.int (7 : Int32)) := F11.other W14 (Or.inl hn1)
  have F21 : ownAI Z h14 as_ .int 2 gs := F13.other W14 (Ne.symm hn3)
  refine ownGo (T' := T14) (f' := (mkF m 47 #[rv a0, iv (0 : Int32)] [])) (st14) ?_
  refine ow_aloadN (q := 48) X14 hx (hb hby own_d5_47) rfl rfl rfl ?_
  obtain ⟨T22, X22, e22, st22⟩ := getF X14 hx hZ hown (host := "") (Or.inl (ww 11 rfl)) Via.refl e14 F16 (g := (mkF m 48 #[rv a0, iv (0 : Int32)] [(.ref a0)])) rfl rfl (hb hby own_d5_48)
  refine ownGo (T' := T22) (f' := (mkF m 51 #[rv a0, iv (0 : Int32)] [(.ref at_)])) (st22) ?_
  refine ow_aloadN (q := 52) X22 hx (hb hby own_d5_51) rfl rfl rfl ?_
  refine ow_dup (q := 53) X22 hx (hb hby own_d5_52) rfl rfl ?_
  obtain ⟨T23, X23, e23, st23⟩ := getF X22 hx hZ hown (host := "") (Or.inl (ww 34 rfl)) Via.refl e22 F20 (g := (mkF m 53 #[rv a0, iv (0 : Int32)] [(.ref a0), (.ref a0), (.ref at_)])) rfl rfl (hb hby own_d5_53)
  refine ownGo (T' := T23) (f' := (mkF m 56 #[rv a0, iv (0 : Int32)] [(.int (7 : Int32)), (.ref a0), (.ref at_)])) (st23) ?_
  refine ow_dupX1 (q := 57) X23 hx (hb hby own_d5_56) rfl rfl rfl ?_
  refine ow_iconst (q := 58) X23 hx (1 : Int32) (hb hby own_d5_57) rfl rfl ?_
  refine ow_iadd (q := 59) X23 hx (8 : Int32) (hb hby own_d5_58) rfl (by decide) ?_
  obtain ⟨T24, h24, X24, e24, W24, st24⟩ := putF X23 hx hZ hown (host := "") (Or.inl (ww 34 rfl)) Via.refl e23 F20 F15 (Or.inl (ww 35 rfl)) (ww 2 rfl) (ty := .int) (by decide) rfl rfl (g := (mkF m 59 #[rv a0, iv (0 : Int32)] [(.int (8 : Int32)), (.ref a0), (.int (7 : Int32)), (.ref at_)])) rfl rfl (hb hby own_d5_59)
  have N24 := Fr.snoc X24 N14 G_a0
  have K24 : Keep h0 h24 [a0, at_] := K14.wr W24 (Or.inl (List.mem_of_getElem? (i := 0) rfl))
  have F25 : Exa Z h24 a0 "com/example/sieveline/sieveline/model/CurrentDomains" := F15.wr W24
  have F26 : Fld Z h24 a0 "com/example/sieveline/sieveline/model/CurrentDomains" "trail" "[I" (.ref at_) := F16.other W24 (Or.inr (slot_ne (Or.inl (ww 12 rfl)) (Or.inl (ww 35 rfl)) (by decide) (t := (.array .int)) (t' := .int) (by decide) (by decide)))
  have F27 : Fld Z h24 a0 "com/example/sieveline/sieveline/model/CurrentDomains" "size" "[I" (.ref as_) := F17.other W24 (Or.inr (slot_ne (Or.inr (ww 23 rfl)) (Or.inl (ww 35 rfl)) (by decide) (t := (.array .int)) (t' := .int) (by decide) (by decide)))
  have F28 : Fld Z h24 a0 "com/example/sieveline/sieveline/model/CurrentDomains" "dense" "[[I" (.ref ad) := F18.other W24 (Or.inr (slot_ne (Or.inr (ww 26 rfl)) (Or.inl (ww 35 rfl)) (by decide) (t := (.array (.array .int))) (t' := .int) (by decide) (by decide)))
  have F29 : Fld Z h24 a0 "com/example/sieveline/sieveline/model/CurrentDomains" "position" "[[I" (.ref ap) := F19.other W24 (Or.inr (slot_ne (Or.inr (ww 28 rfl)) (Or.inl (ww 35 rfl)) (by decide) (t := (.array (.array .int))) (t' := .int) (by decide) (by decide)))
  have F30 : Fld Z h24 a0 "com/example/sieveline/sieveline/model/CurrentDomains" "top" "I" (.int (8 : Int32)) := F20.same W24
  have F31 : ownAI Z h24 as_ .int 2 gs := F21.other W24 (Ne.symm hn2)
  have F32 : ownAI Z h24 at_ .int 64 (ownUpd gt 6 (0 : Int32)) := F14r.other W24 (Ne.symm hn1)
  refine ownGo (T' := T24) (f' := (mkF m 62 #[rv a0, iv (0 : Int32)] [(.int (7 : Int32)), (.ref at_)])) (st24) ?_
  refine ow_aloadN (q := 63) X24 hx (hb hby own_d5_62) rfl rfl rfl ?_
  obtain ⟨T33, X33, e33, st33⟩ := getF X24 hx hZ hown (host := "") (Or.inl (ww 22 rfl)) Via.refl e24 F27 (g := (mkF m 63 #[rv a0, iv (0 : Int32)] [(.ref a0), (.int (7 : Int32)), (.ref at_)])) rfl rfl (hb hby own_d5_63)
  refine ownGo (T' := T33) (f' := (mkF m 66 #[rv a0, iv (0 : Int32)] [(.ref as_), (.int (7 : Int32)), (.ref at_)])) (st33) ?_
  refine ow_iloadN (q := 67) X33 hx (hb hby own_d5_66) rfl rfl ?_
  refine ownGo (T' := T33) (f' := (mkF m 68 #[rv a0, iv (0 : Int32)] [(.int (gs 0)), (.int (7 : Int32)), (.ref at_)])) (ownIaload F31 X33 hx hZ e33 (j := (0 : Int32)) (by unfold ownIn; decide) (g := (mkF m 67 #[rv a0, iv (0 : Int32)] [(.int (0 : Int32)), (.ref as_), (.int (7 : Int32)), (.ref at_)])) rfl rfl (hb hby own_d5_67)) ?_
  generalize hv_v34 : (gs 0) = v34
  obtain ⟨T35, h35, X35, e35, W35, F35s, st35⟩ := ownIastore F32 X33 hx hZ e33 (j := (7 : Int32)) (by unfold ownIn; decide) (g := (mkF m 68 #[rv a0, iv (0 : Int32)] [(.int v34), (.int (7 : Int32)), (.ref at_)])) rfl rfl (hb hby own_d5_68)
  have F35r : ownAI Z h35 at_ .int 64 (ownUpd (ownUpd gt 6 (0 : Int32)) 7 v34) := F35s
  have N35 := Fr.snoc X35 N24 G_at_
  have K35 : Keep h0 h35 [a0, at_] := K24.wr W35 (Or.inl (List.mem_of_getElem? (i := 1) rfl))
  have F36 : Exa Z h35 a0 "com/example/sieveline/sieveline/model/CurrentDomains" := F25.wr W35
  have F37 : Fld Z h35 a0 "com/example/sieveline/sieveline/model/CurrentDomains" "trail" "[I" (.ref at_) := F26.other W35 (Or.inl hn1)
  have F38 : Fld Z h35 a0 "com/example/sieveline/sieveline/model/CurrentDomains" "size" "[I" (.ref as_) := F27.other W35 (Or.inl hn1)
  have F39 : Fld Z h35 a0 "com/example/sieveline/sieveline/model/CurrentDomains" "dense" "[[I" (.ref ad) := F28.other W35 (Or.inl hn1)
  have F40 : Fld Z h35 a0 "com/example/sieveline/sieveline/model/CurrentDomains" "position" "[[I" (.ref ap) := F29.other W35 (Or.inl hn1)
  have F41 : Fld Z h35 a0 "com/example/sieveline/sieveline/model/CurrentDomains" "top" "I" (.int (8 : Int32)) := F30.other W35 (Or.inl hn1)
  have F42 : ownAI Z h35 as_ .int 2 gs := F31.other W35 (Ne.symm hn3)
  refine ownGo (T' := T35) (f' := (mkF m 69 #[rv a0, iv (0 : Int32)] [])) (st35) ?_
  refine ownRetV X35 hx Bd.returns (hb hby own_d5_69) hlk (by decide) (by decide) ?_
  subst hv_v34
  rw [e35]
  exact ⟨rfl, N35, K35, F36, F37, F38, F39, F40, F41, F35r⟩
theorem own_ef5_record_6_1 (m : MethodId) (a0 : Addr) : entryFrame m #[(.ref a0), (.int (1 : Int32))] 2 = mkF m 0 #[rv a0, iv (1 : Int32)] [] := by first | (simp [entryFrame, mkF, argsToLocals, Value.category]; done) | rfl
def Q_record_6_1 (Z : State) (a0 : Addr) (at_ : Addr) (as_ : Addr) (ad : Addr) (ap : Addr) (gt : Nat → Int32) (gs : Nat → Int32) (h0 : Heap) (n0 : Nat) (v : Option Value) (h : Heap) (L : List Loc) : Prop := v = none ∧ Fr n0 L ∧ Keep h0 h [a0, at_] ∧ Exa Z h a0 "com/example/sieveline/sieveline/model/CurrentDomains" ∧ Fld Z h a0 "com/example/sieveline/sieveline/model/CurrentDomains" "trail" "[I" (.ref at_) ∧ Fld Z h a0 "com/example/sieveline/sieveline/model/CurrentDomains" "size" "[I" (.ref as_) ∧ Fld Z h a0 "com/example/sieveline/sieveline/model/CurrentDomains" "dense" "[[I" (.ref ad) ∧ Fld Z h a0 "com/example/sieveline/sieveline/model/CurrentDomains" "position" "[[I" (.ref ap) ∧ Fld Z h a0 "com/example/sieveline/sieveline/model/CurrentDomains" "top" "I" (.int (8 : Int32)) ∧ ownAI Z h at_ .int 64 (ownUpd (ownUpd gt 6 (1 : Int32)) 7 (gs 1))
set_option maxRecDepth 65536 in
set_option maxHeartbeats 40000000 in
theorem rm_record_6_1 (l : Launch) (Z : State) (av0 : Array Value) (hw : ∀ d ∈ tables_1, d.before av0 Z = true) (ws : List Jvm.Cond) (a0 : Addr) (at_ : Addr) (as_ : Addr) (ad : Addr) (ap : Addr) (gt : Nat → Int32) (gs : Nat → Int32) (h0 : Heap) (n0 : Nat) (Z0 : n0 ≤ h0.size) (HF0 : Exa Z h0 a0 "com/example/sieveline/sieveline/model/CurrentDomains") (HF1 : Fld Z h0 a0 "com/example/sieveline/sieveline/model/CurrentDomains" "trail" "[I" (.ref at_)) (HF2 : Fld Z h0 a0 "com/example/sieveline/sieveline/model/CurrentDomains" "size" "[I" (.ref as_)) (HF3 : Fld Z h0 a0 "com/example/sieveline/sieveline/model/CurrentDomains" "dense" "[[I" (.ref ad)) (HF4 : Fld Z h0 a0 "com/example/sieveline/sieveline/model/CurrentDomains" "position" "[[I" (.ref ap)) (HF5 : Fld Z h0 a0 "com/example/sieveline/sieveline/model/CurrentDomains" "top" "I" (.int (6 : Int32))) (HF6 : ownAI Z h0 at_ .int 64 gt) (HF7 : ownAI Z h0 as_ .int 2 gs) (G_a0 : n0 ≤ a0) (G_at_ : n0 ≤ at_) (hn1 : a0 ≠ at_) (hn2 : a0 ≠ as_) (hn3 : at_ ≠ as_) :
    MetFree l (⟨"com/example/sieveline/sieveline/model/CurrentDomains", "record", "(I)V"⟩ : MethodName) (head1 (Jvm.Cond.code (⟨"com/example/sieveline/sieveline/model/CurrentDomains", "record", "(I)V"⟩ : MethodName) prog_10_method_10_code 2 none :: ws) ({ frames := 0, cells := 0, slots := 0, locals := 0 } : Room)) (fun a U => a = #[(.ref a0), (.int (1 : Int32))] ∧ Z.Warmed39 U.vm ∧ U.heap = h0) (fun _ _ _ _ _ => True) (fun _ U o U' => ∃ v L, o = .returned v ∧ (Q_record_6_1 Z a0 at_ as_ ad ap gt gs h0 n0) v U'.heap L ∧ FrameEnd U o U' L ({ frames := 0, cells := 0, slots := 0, locals := 0 } : Room).cells ({ frames := 0, cells := 0, slots := 0, locals := 0 } : Room).slots) := by
  refine MetFree.of_bodySF (plainFor_of_name own_pn_CurrentDomains) hisR ?_
  intro p e s m args below meth c s₁ Bd hml0 hP hK
  obtain ⟨rfl, hZ, hh⟩ := hP
  have hx := Bd.exec
  have hby := Bd.bytes
  have hml : c.maxLocals = 2 := hml0
  have hown : s.vm.findClass "com/example/sieveline/sieveline/model/CurrentDomains" = some m.cls := findClass_of_methodNamed Bd.named
  have hnm := (name_of_methodNamed Bd.named Bd.method).1
  have hlk : meth.locks = false := BodyLoose.notSynchronized Bd
  have X0 : Stand p l e ({ frames := 0, cells := 0, slots := 0, locals := 0 } : Room) s m #[(.ref a0), (.int (1 : Int32))] below meth c s₁ [] 0 0 := Stand.of_body Bd
  have e0 : s₁.heap = h0 := by rw [← hh, Bd.state]; rfl
  have N0 := Fr.nil n0
  have K0 : Keep h0 h0 [a0, at_] := Keep.refl _ _
  have ww : ∀ (k : Nat) {d : Jvm.Cond}, tables_1[k]? = some d → d.before av0 Z = true := fun k d h => hw d (List.mem_of_getElem? h)
  show ownEnds p e below s (Q_record_6_1 Z a0 at_ as_ ad ap gt gs h0 n0) ({ frames := 0, cells := 0, slots := 0, locals := 0 } : Room).cells ({ frames := 0, cells := 0, slots := 0, locals := 0 } : Room).slots s₁ (entryFrame m #[(.ref a0), (.int (1 : Int32))] 2)
  refine ownCast (own_ef5_record_6_1 m a0) ?_
  refine ow_aloadN (q := 1) X0 hx (hb hby own_d5_0) rfl rfl rfl ?_
  obtain ⟨T1, X1, e1, st1⟩ := getF X0 hx hZ hown (host := "") (Or.inl (ww 34 rfl)) Via.refl e0 HF5 (g := (mkF m 1 #[rv a0, iv (1 : Int32)] [(.ref a0)])) rfl rfl (hb hby own_d5_1)
  refine ownGo (T' := T1) (f' := (mkF m 4 #[rv a0, iv (1 : Int32)] [(.int (6 : Int32))])) (st1) ?_
  refine ow_aloadN (q := 5) X1 hx (hb hby own_d5_4) rfl rfl rfl ?_
  obtain ⟨T2, X2, e2, st2⟩ := getF X1 hx hZ hown (host := "") (Or.inl (ww 11 rfl)) Via.refl e1 HF1 (g := (mkF m 5 #[rv a0, iv (1 : Int32)] [(.ref a0), (.int (6 : Int32))])) rfl rfl (hb hby own_d5_5)
  refine ownGo (T' := T2) (f' := (mkF m 8 #[rv a0, iv (1 : Int32)] [(.ref at_), (.int (6 : Int32))])) (st2) ?_
  refine ownGo (T' := T2) (f' := (mkF m 9 #[rv a0, iv (1 : Int32)] [(.int (64 : Int32)), (.int (6 : Int32))])) (ownLenI HF6 X2 hx hZ e2 (z := (64 : Int32)) (by decide) (g := (mkF m 8 #[rv a0, iv (1 : Int32)] [(.ref at_), (.int (6 : Int32))])) rfl rfl (hb hby own_d5_8)) ?_
  refine ow_icmpYes (q := 30) X2 hx (hb hby own_d5_9) (Jvm.Free.XT.ii_ne_t (by decide)) (by decide) (by decide) ?_
  refine ow_aloadN (q := 31) X2 hx (hb hby own_d5_30) rfl rfl rfl ?_
  obtain ⟨T3, X3, e3, st3⟩ := getF X2 hx hZ hown (host := "") (Or.inl (ww 11 rfl)) Via.refl e2 HF1 (g := (mkF m 31 #[rv a0, iv (1 : Int32)] [(.ref a0)])) rfl rfl (hb hby own_d5_31)
  refine ownGo (T' := T3) (f' := (mkF m 34 #[rv a0, iv (1 : Int32)] [(.ref at_)])) (st3) ?_
  refine ow_aloadN (q := 35) X3 hx (hb hby own_d5_34) rfl rfl rfl ?_
  refine ow_dup (q := 36) X3 hx (hb hby own_d5_35) rfl rfl ?_
  obtain ⟨T4, X4, e4, st4⟩ := getF X3 hx hZ hown (host := "") (Or.inl (ww 34 rfl)) Via.refl e3 HF5 (g := (mkF m 36 #[rv a0, iv (1 : Int32)] [(.ref a0), (.ref a0), (.ref at_)])) rfl rfl (hb hby own_d5_36)
  refine ownGo (T' := T4) (f' := (mkF m 39 #[rv a0, iv (1 : Int32)] [(.int (6 : Int32)), (.ref a0), (.ref at_)])) (st4) ?_
  refine ow_dupX1 (q := 40) X4 hx (hb hby own_d5_39) rfl rfl rfl ?_
  refine ow_iconst (q := 41) X4 hx (1 : Int32) (hb hby own_d5_40) rfl rfl ?_
  refine ow_iadd (q := 42) X4 hx (7 : Int32) (hb hby own_d5_41) rfl (by decide) ?_
  obtain ⟨T5, h5, X5, e5, W5, st5⟩ := putF X4 hx hZ hown (host := "") (Or.inl (ww 34 rfl)) Via.refl e4 HF5 HF0 (Or.inl (ww 35 rfl)) (ww 2 rfl) (ty := .int) (by decide) rfl rfl (g := (mkF m 42 #[rv a0, iv (1 : Int32)] [(.int (7 : Int32)), (.ref a0), (.int (6 : Int32)), (.ref at_)])) rfl rfl (hb hby own_d5_42)
  have N5 := Fr.snoc X5 N0 G_a0
  have K5 : Keep h0 h5 [a0, at_] := K0.wr W5 (Or.inl (List.mem_of_getElem? (i := 0) rfl))
  have F6 : Exa Z h5 a0 "com/example/sieveline/sieveline/model/CurrentDomains" := HF0.wr W5
  have F7 : Fld Z h5 a0 "com/example/sieveline/sieveline/model/CurrentDomains" "trail" "[I" (.ref at_) := HF1.other W5 (Or.inr (slot_ne (Or.inl (ww 12 rfl)) (Or.inl (ww 35 rfl)) (by decide) (t := (.array .int)) (t' := .int) (by decide) (by decide)))
  have F8 : Fld Z h5 a0 "com/example/sieveline/sieveline/model/CurrentDomains" "size" "[I" (.ref as_) := HF2.other W5 (Or.inr (slot_ne (Or.inr (ww 23 rfl)) (Or.inl (ww 35 rfl)) (by decide) (t := (.array .int)) (t' := .int) (by decide) (by decide)))
  have F9 : Fld Z h5 a0 "com/example/sieveline/sieveline/model/CurrentDomains" "dense" "[[I" (.ref ad) := HF3.other W5 (Or.inr (slot_ne (Or.inr (ww 26 rfl)) (Or.inl (ww 35 rfl)) (by decide) (t := (.array (.array .int))) (t' := .int) (by decide) (by decide)))
  have F10 : Fld Z h5 a0 "com/example/sieveline/sieveline/model/CurrentDomains" "position" "[[I" (.ref ap) := HF4.other W5 (Or.inr (slot_ne (Or.inr (ww 28 rfl)) (Or.inl (ww 35 rfl)) (by decide) (t := (.array (.array .int))) (t' := .int) (by decide) (by decide)))
  have F11 : Fld Z h5 a0 "com/example/sieveline/sieveline/model/CurrentDomains" "top" "I" (.int (7 : Int32)) := HF5.same W5
  have F12 : ownAI Z h5 at_ .int 64 gt := HF6.other W5 (Ne.symm hn1)
  have F13 : ownAI Z h5 as_ .int 2 gs := HF7.other W5 (Ne.symm hn2)
  refine ownGo (T' := T5) (f' := (mkF m 45 #[rv a0, iv (1 : Int32)] [(.int (6 : Int32)), (.ref at_)])) (st5) ?_
  refine ow_iloadN (q := 46) X5 hx (hb hby own_d5_45) rfl rfl ?_
  obtain ⟨T14, h14, X14, e14, W14, F14s, st14⟩ := ownIastore F12 X5 hx hZ e5 (j := (6 : Int32)) (by unfold ownIn; decide) (g := (mkF m 46 #[rv a0, iv (1 : Int32)] [(.int (1 : Int32)), (.int (6 : Int32)), (.ref at_)])) rfl rfl (hb hby own_d5_46)
  have F14r : ownAI Z h14 at_ .int 64 (ownUpd gt 6 (1 : Int32)) := F14s
  have N14 := Fr.snoc X14 N5 G_at_
  have K14 : Keep h0 h14 [a0, at_] := K5.wr W14 (Or.inl (List.mem_of_getElem? (i := 1) rfl))
  have F15 : Exa Z h14 a0 "com/example/sieveline/sieveline/model/CurrentDomains" := F6.wr W14
  have F16 : Fld Z h14 a0 "com/example/sieveline/sieveline/model/CurrentDomains" "trail" "[I" (.ref at_) := F7.other W14 (Or.inl hn1)
  have F17 : Fld Z h14 a0 "com/example/sieveline/sieveline/model/CurrentDomains" "size" "[I" (.ref as_) := F8.other W14 (Or.inl hn1)
  have F18 : Fld Z h14 a0 "com/example/sieveline/sieveline/model/CurrentDomains" "dense" "[[I" (.ref ad) := F9.other W14 (Or.inl hn1)
  have F19 : Fld Z h14 a0 "com/example/sieveline/sieveline/model/CurrentDomains" "position" "[[I" (.ref ap) := F10.other W14 (Or.inl hn1)
  have F20 : Fld Z h14 a0 "com/example/sieveline/sieveline/model/CurrentDomains" "top" "I" (.int (7 : Int32)) := F11.other W14 (Or.inl hn1)
  have F21 : ownAI Z h14 as_ .int 2 gs := F13.other W14 (Ne.symm hn3)
  refine ownGo (T' := T14) (f' := (mkF m 47 #[rv a0, iv (1 : Int32)] [])) (st14) ?_
  refine ow_aloadN (q := 48) X14 hx (hb hby own_d5_47) rfl rfl rfl ?_
  obtain ⟨T22, X22, e22, st22⟩ := getF X14 hx hZ hown (host := "") (Or.inl (ww 11 rfl)) Via.refl e14 F16 (g := (mkF m 48 #[rv a0, iv (1 : Int32)] [(.ref a0)])) rfl rfl (hb hby own_d5_48)
  refine ownGo (T' := T22) (f' := (mkF m 51 #[rv a0, iv (1 : Int32)] [(.ref at_)])) (st22) ?_
  refine ow_aloadN (q := 52) X22 hx (hb hby own_d5_51) rfl rfl rfl ?_
  refine ow_dup (q := 53) X22 hx (hb hby own_d5_52) rfl rfl ?_
  obtain ⟨T23, X23, e23, st23⟩ := getF X22 hx hZ hown (host := "") (Or.inl (ww 34 rfl)) Via.refl e22 F20 (g := (mkF m 53 #[rv a0, iv (1 : Int32)] [(.ref a0), (.ref a0), (.ref at_)])) rfl rfl (hb hby own_d5_53)
  refine ownGo (T' := T23) (f' := (mkF m 56 #[rv a0, iv (1 : Int32)] [(.int (7 : Int32)), (.ref a0), (.ref at_)])) (st23) ?_
  refine ow_dupX1 (q := 57) X23 hx (hb hby own_d5_56) rfl rfl rfl ?_
  refine ow_iconst (q := 58) X23 hx (1 : Int32) (hb hby own_d5_57) rfl rfl ?_
  refine ow_iadd (q := 59) X23 hx (8 : Int32) (hb hby own_d5_58) rfl (by decide) ?_
  obtain ⟨T24, h24, X24, e24, W24, st24⟩ := putF X23 hx hZ hown (host := "") (Or.inl (ww 34 rfl)) Via.refl e23 F20 F15 (Or.inl (ww 35 rfl)) (ww 2 rfl) (ty := .int) (by decide) rfl rfl (g := (mkF m 59 #[rv a0, iv (1 : Int32)] [(.int (8 : Int32)), (.ref a0), (.int (7 : Int32)), (.ref at_)])) rfl rfl (hb hby own_d5_59)
  have N24 := Fr.snoc X24 N14 G_a0
  have K24 : Keep h0 h24 [a0, at_] := K14.wr W24 (Or.inl (List.mem_of_getElem? (i := 0) rfl))
  have F25 : Exa Z h24 a0 "com/example/sieveline/sieveline/model/CurrentDomains" := F15.wr W24
  have F26 : Fld Z h24 a0 "com/example/sieveline/sieveline/model/CurrentDomains" "trail" "[I" (.ref at_) := F16.other W24 (Or.inr (slot_ne (Or.inl (ww 12 rfl)) (Or.inl (ww 35 rfl)) (by decide) (t := (.array .int)) (t' := .int) (by decide) (by decide)))
  have F27 : Fld Z h24 a0 "com/example/sieveline/sieveline/model/CurrentDomains" "size" "[I" (.ref as_) := F17.other W24 (Or.inr (slot_ne (Or.inr (ww 23 rfl)) (Or.inl (ww 35 rfl)) (by decide) (t := (.array .int)) (t' := .int) (by decide) (by decide)))
  have F28 : Fld Z h24 a0 "com/example/sieveline/sieveline/model/CurrentDomains" "dense" "[[I" (.ref ad) := F18.other W24 (Or.inr (slot_ne (Or.inr (ww 26 rfl)) (Or.inl (ww 35 rfl)) (by decide) (t := (.array (.array .int))) (t' := .int) (by decide) (by decide)))
  have F29 : Fld Z h24 a0 "com/example/sieveline/sieveline/model/CurrentDomains" "position" "[[I" (.ref ap) := F19.other W24 (Or.inr (slot_ne (Or.inr (ww 28 rfl)) (Or.inl (ww 35 rfl)) (by decide) (t := (.array (.array .int))) (t' := .int) (by decide) (by decide)))
  have F30 : Fld Z h24 a0 "com/example/sieveline/sieveline/model/CurrentDomains" "top" "I" (.int (8 : Int32)) := F20.same W24
  have F31 : ownAI Z h24 as_ .int 2 gs := F21.other W24 (Ne.symm hn2)
  have F32 : ownAI Z h24 at_ .int 64 (ownUpd gt 6 (1 : Int32)) := F14r.other W24 (Ne.symm hn1)
  refine ownGo (T' := T24) (f' := (mkF m 62 #[rv a0, iv (1 : Int32)] [(.int (7 : Int32)), (.ref at_)])) (st24) ?_
  refine ow_aloadN (q := 63) X24 hx (hb hby own_d5_62) rfl rfl rfl ?_
  obtain ⟨T33, X33, e33, st33⟩ := getF X24 hx hZ hown (host := "") (Or.inl (ww 22 rfl)) Via.refl e24 F27 (g := (mkF m 63 #[rv a0, iv (1 : Int32)] [(.ref a0), (.int (7 : Int32)), (.ref at_)])) rfl rfl (hb hby own_d5_63)
  refine ownGo (T' := T33) (f' := (mkF m 66 #[rv a0, iv (1 : Int32)] [(.ref as_), (.int (7 : Int32)), (.ref at_)])) (st33) ?_
  refine ow_iloadN (q := 67) X33 hx (hb hby own_d5_66) rfl rfl ?_
  refine ownGo (T' := T33) (f' := (mkF m 68 #[rv a0, iv (1 : Int32)] [(.int (gs 1)), (.int (7 : Int32)), (.ref at_)])) (ownIaload F31 X33 hx hZ e33 (j := (1 : Int32)) (by unfold ownIn; decide) (g := (mkF m 67 #[rv a0, iv (1 : Int32)] [(.int (1 : Int32)), (.ref as_), (.int (7 : Int32)), (.ref at_)])) rfl rfl (hb hby own_d5_67)) ?_
  generalize hv_v34 : (gs 1) = v34
  obtain ⟨T35, h35, X35, e35, W35, F35s, st35⟩ := ownIastore F32 X33 hx hZ e33 (j := (7 : Int32)) (by unfold ownIn; decide) (g := (mkF m 68 #[rv a0, iv (1 : Int32)] [(.int v34), (.int (7 : Int32)), (.ref at_)])) rfl rfl (hb hby own_d5_68)
  have F35r : ownAI Z h35 at_ .int 64 (ownUpd (ownUpd gt 6 (1 : Int32)) 7 v34) := F35s
  have N35 := Fr.snoc X35 N24 G_at_
  have K35 : Keep h0 h35 [a0, at_] := K24.wr W35 (Or.inl (List.mem_of_getElem? (i := 1) rfl))
  have F36 : Exa Z h35 a0 "com/example/sieveline/sieveline/model/CurrentDomains" := F25.wr W35
  have F37 : Fld Z h35 a0 "com/example/sieveline/sieveline/model/CurrentDomains" "trail" "[I" (.ref at_) := F26.other W35 (Or.inl hn1)
  have F38 : Fld Z h35 a0 "com/example/sieveline/sieveline/model/CurrentDomains" "size" "[I" (.ref as_) := F27.other W35 (Or.inl hn1)
  have F39 : Fld Z h35 a0 "com/example/sieveline/sieveline/model/CurrentDomains" "dense" "[[I" (.ref ad) := F28.other W35 (Or.inl hn1)
  have F40 : Fld Z h35 a0 "com/example/sieveline/sieveline/model/CurrentDomains" "position" "[[I" (.ref ap) := F29.other W35 (Or.inl hn1)
  have F41 : Fld Z h35 a0 "com/example/sieveline/sieveline/model/CurrentDomains" "top" "I" (.int (8 : Int32)) := F30.other W35 (Or.inl hn1)
  have F42 : ownAI Z h35 as_ .int 2 gs := F31.other W35 (Ne.symm hn3)
  refine ownGo (T' := T35) (f' := (mkF m 69 #[rv a0, iv (1 : Int32)] [])) (st35) ?_
  refine ownRetV X35 hx Bd.returns (hb hby own_d5_69) hlk (by decide) (by decide) ?_
  subst hv_v34
  rw [e35]
  exact ⟨rfl, N35, K35, F36, F37, F38, F39, F40, F41, F35r⟩
theorem own_d6_0 : decode prog_10_method_11_code 0 = .ok (.aload_n 0, 1) := by decide +kernel
theorem own_d6_1 : decode prog_10_method_11_code 1 = .ok (.getfield 21, 3) := by decide +kernel
theorem own_d6_4 : decode prog_10_method_11_code 4 = .ok (.iload_n 1, 1) := by decide +kernel
theorem own_d6_5 : decode prog_10_method_11_code 5 = .ok (.aaload, 1) := by decide +kernel
theorem own_d6_6 : decode prog_10_method_11_code 6 = .ok (.astore 4, 2) := by decide +kernel
theorem own_d6_8 : decode prog_10_method_11_code 8 = .ok (.aload 4, 2) := by decide +kernel
theorem own_d6_10 : decode prog_10_method_11_code 10 = .ok (.iload_n 2, 1) := by decide +kernel
theorem own_d6_11 : decode prog_10_method_11_code 11 = .ok (.iaload, 1) := by decide +kernel
theorem own_d6_12 : decode prog_10_method_11_code 12 = .ok (.istore 5, 2) := by decide +kernel
theorem own_d6_14 : decode prog_10_method_11_code 14 = .ok (.aload 4, 2) := by decide +kernel
theorem own_d6_16 : decode prog_10_method_11_code 16 = .ok (.iload_n 3, 1) := by decide +kernel
theorem own_d6_17 : decode prog_10_method_11_code 17 = .ok (.iaload, 1) := by decide +kernel
theorem own_d6_18 : decode prog_10_method_11_code 18 = .ok (.istore 6, 2) := by decide +kernel
theorem own_d6_20 : decode prog_10_method_11_code 20 = .ok (.aload 4, 2) := by decide +kernel
theorem own_d6_22 : decode prog_10_method_11_code 22 = .ok (.iload_n 2, 1) := by decide +kernel
theorem own_d6_23 : decode prog_10_method_11_code 23 = .ok (.iload 6, 2) := by decide +kernel
theorem own_d6_25 : decode prog_10_method_11_code 25 = .ok (.iastore, 1) := by decide +kernel
theorem own_d6_26 : decode prog_10_method_11_code 26 = .ok (.aload 4, 2) := by decide +kernel
theorem own_d6_28 : decode prog_10_method_11_code 28 = .ok (.iload_n 3, 1) := by decide +kernel
theorem own_d6_29 : decode prog_10_method_11_code 29 = .ok (.iload 5, 2) := by decide +kernel
theorem own_d6_31 : decode prog_10_method_11_code 31 = .ok (.iastore, 1) := by decide +kernel
theorem own_d6_32 : decode prog_10_method_11_code 32 = .ok (.aload_n 0, 1) := by decide +kernel
theorem own_d6_33 : decode prog_10_method_11_code 33 = .ok (.getfield 25, 3) := by decide +kernel
theorem own_d6_36 : decode prog_10_method_11_code 36 = .ok (.iload_n 1, 1) := by decide +kernel
theorem own_d6_37 : decode prog_10_method_11_code 37 = .ok (.aaload, 1) := by decide +kernel
theorem own_d6_38 : decode prog_10_method_11_code 38 = .ok (.iload 5, 2) := by decide +kernel
theorem own_d6_40 : decode prog_10_method_11_code 40 = .ok (.iload_n 3, 1) := by decide +kernel
theorem own_d6_41 : decode prog_10_method_11_code 41 = .ok (.iastore, 1) := by decide +kernel
theorem own_d6_42 : decode prog_10_method_11_code 42 = .ok (.aload_n 0, 1) := by decide +kernel
theorem own_d6_43 : decode prog_10_method_11_code 43 = .ok (.getfield 25, 3) := by decide +kernel
theorem own_d6_46 : decode prog_10_method_11_code 46 = .ok (.iload_n 1, 1) := by decide +kernel
theorem own_d6_47 : decode prog_10_method_11_code 47 = .ok (.aaload, 1) := by decide +kernel
theorem own_d6_48 : decode prog_10_method_11_code 48 = .ok (.iload 6, 2) := by decide +kernel
theorem own_d6_50 : decode prog_10_method_11_code 50 = .ok (.iload_n 2, 1) := by decide +kernel
theorem own_d6_51 : decode prog_10_method_11_code 51 = .ok (.iastore, 1) := by decide +kernel
theorem own_d6_52 : decode prog_10_method_11_code 52 = .ok (.return_, 1) := by decide +kernel
theorem own_ef6_swap_0 (m : MethodId) (a0 : Addr) (p2 : Int32) (p3 : Int32) : entryFrame m #[(.ref a0), (.int (0 : Int32)), (.int p2), (.int p3)] 7 = mkF m 0 #[rv a0, iv (0 : Int32), iv p2, iv p3, .unset, .unset, .unset] [] := by first | (simp [entryFrame, mkF, argsToLocals, Value.category]; done) | rfl
def Q_swap_0 (Z : State) (a0 : Addr) (p2 : Int32) (p3 : Int32) (ad : Addr) (ap : Addr) (d0 : Addr) (q0 : Addr) (d1 : Addr) (q1 : Addr) (kd : ClassId) (kp : ClassId) (N : Nat) (gd : Nat → Int32) (gq : Nat → Int32) (h0 : Heap) (n0 : Nat) (v : Option Value) (h : Heap) (L : List Loc) : Prop := v = none ∧ Fr n0 L ∧ Keep h0 h [d0, q0] ∧ ownAI Z h d0 .int N (own_swD gd p2 p3) ∧ ownAI Z h q0 .int N (own_swQ gd gq p2 p3)
set_option maxRecDepth 65536 in
set_option maxHeartbeats 40000000 in
theorem rm_swap_0 (l : Launch) (Z : State) (av0 : Array Value) (hw : ∀ d ∈ tables_1, d.before av0 Z = true) (ws : List Jvm.Cond) (a0 : Addr) (p2 : Int32) (p3 : Int32) (ad : Addr) (ap : Addr) (d0 : Addr) (q0 : Addr) (d1 : Addr) (q1 : Addr) (kd : ClassId) (kp : ClassId) (N : Nat) (gd : Nat → Int32) (gq : Nat → Int32) (h0 : Heap) (n0 : Nat) (Z0 : n0 ≤ h0.size) (HF0 : Fld Z h0 a0 "com/example/sieveline/sieveline/model/CurrentDomains" "dense" "[[I" (.ref ad)) (HF1 : Fld Z h0 a0 "com/example/sieveline/sieveline/model/CurrentDomains" "position" "[[I" (.ref ap)) (HF2 : ownAR Z h0 ad kd 2 (ownUpd (ownUpd (fun _ => Value.null) 0 (.ref d0)) 1 (.ref d1))) (HF3 : ownAR Z h0 ap kp 2 (ownUpd (ownUpd (fun _ => Value.null) 0 (.ref q0)) 1 (.ref q1))) (HF4 : ownAI Z h0 d0 .int N gd) (HF5 : ownAI Z h0 q0 .int N gq) (G_d0 : n0 ≤ d0) (G_q0 : n0 ≤ q0) (hn0 : a0 ≠ d0) (hn1 : a0 ≠ q0) (hn2 : ad ≠ d0) (hn3 : ad ≠ q0) (hn4 : ap ≠ d0) (hn5 : ap ≠ q0) (hn6 : d0 ≠ q0) (hi2 : ownIn p2 N) (hi3 : ownIn p3 N) (hx2 : ownIn (gd p2.toNatClampNeg) N) (hx3 : ownIn (gd p3.toNatClampNeg) N) :
    MetFree l (⟨"com/example/sieveline/sieveline/model/CurrentDomains", "swap", "(III)V"⟩ : MethodName) (head1 (Jvm.Cond.code (⟨"com/example/sieveline/sieveline/model/CurrentDomains", "swap", "(III)V"⟩ : MethodName) prog_10_method_11_code 7 none :: ws) ({ frames := 0, cells := 0, slots := 0, locals := 0 } : Room)) (fun a U => a = #[(.ref a0), (.int (0 : Int32)), (.int p2), (.int p3)] ∧ Z.Warmed39 U.vm ∧ U.heap = h0) (fun _ _ _ _ _ => True) (fun _ U o U' => ∃ v L, o = .returned v ∧ (Q_swap_0 Z a0 p2 p3 ad ap d0 q0 d1 q1 kd kp N gd gq h0 n0) v U'.heap L ∧ FrameEnd U o U' L ({ frames := 0, cells := 0, slots := 0, locals := 0 } : Room).cells ({ frames := 0, cells := 0, slots := 0, locals := 0 } : Room).slots) := by
  refine MetFree.of_bodySF (plainFor_of_name own_pn_CurrentDomains) hisR ?_
  intro p e s m args below meth c s₁ Bd hml0 hP hK
  obtain ⟨rfl, hZ, hh⟩ := hP
  have hx := Bd.exec
  have hby := Bd.bytes
  have hml : c.maxLocals = 7 := hml0
  have hown : s.vm.findClass "com/example/sieveline/sieveline/model/CurrentDomains" = some m.cls := findClass_of_methodNamed Bd.named
  have hnm := (name_of_methodNamed Bd.named Bd.method).1
  have hlk : meth.locks = false := BodyLoose.notSynchronized Bd
  have X0 : Stand p l e ({ frames := 0, cells := 0, slots := 0, locals := 0 } : Room) s m #[(.ref a0), (.int (0 : Int32)), (.int p2), (.int p3)] below meth c s₁ [] 0 0 := Stand.of_body Bd
  have e0 : s₁.heap = h0 := by rw [← hh, Bd.state]; rfl
  have N0 := Fr.nil n0
  have K0 : Keep h0 h0 [d0, q0] := Keep.refl _ _
  have ww : ∀ (k : Nat) {d : Jvm.Cond}, tables_1[k]? = some d → d.before av0 Z = true := fun k d h => hw d (List.mem_of_getElem? h)
  show ownEnds p e below s (Q_swap_0 Z a0 p2 p3 ad ap d0 q0 d1 q1 kd kp N gd gq h0 n0) ({ frames := 0, cells := 0, slots := 0, locals := 0 } : Room).cells ({ frames := 0, cells := 0, slots := 0, locals := 0 } : Room).slots s₁ (entryFrame m #[(.ref a0), (.int (0 : Int32)), (.int p2), (.int p3)] 7)
  refine ownCast (own_ef6_swap_0 m a0 p2 p3) ?_
  refine ow_aloadN (q := 1) X0 hx (hb hby own_d6_0) rfl rfl rfl ?_
  obtain ⟨T1, X1, e1, st1⟩ := getF X0 hx hZ hown (host := "") (Or.inl (ww 25 rfl)) Via.refl e0 HF0 (g := (mkF m 1 #[rv a0, iv (0 : Int32), iv p2, iv p3, .unset, .unset, .unset] [(.ref a0)])) rfl rfl (hb hby own_d6_1)
  refine ownGo (T' := T1) (f' := (mkF m 4 #[rv a0, iv (0 : Int32), iv p2, iv p3, .unset, .unset, .unset] [(.ref ad)])) (st1) ?_
  refine ow_iloadN (q := 5) X1 hx (hb hby own_d6_4) rfl rfl ?_
  refine ownGo (T' := T1) (f' := (mkF m 6 #[rv a0, iv (0 : Int32), iv p2, iv p3, .unset, .unset, .unset] [(.ref d0)])) (ownAaload HF2 X1 hx hZ e1 (j := (0 : Int32)) (by unfold ownIn; decide) (g := (mkF m 5 #[rv a0, iv (0 : Int32), iv p2, iv p3, .unset, .unset, .unset] [(.int (0 : Int32)), (.ref ad)])) rfl rfl (hb hby own_d6_5)) ?_
  refine ow_astore (q := 8) X1 hx (L' := #[rv a0, iv (0 : Int32), iv p2, iv p3, rv d0, .unset, .unset]) (hb hby own_d6_6) rfl rfl rfl ?_
  refine ow_aload (q := 10) X1 hx (hb hby own_d6_8) rfl rfl rfl ?_
  refine ow_iloadN (q := 11) X1 hx (hb hby own_d6_10) rfl rfl ?_
  refine ownGo (T' := T1) (f' := (mkF m 12 #[rv a0, iv (0 : Int32), iv p2, iv p3, rv d0, .unset, .unset] [(.int (gd p2.toNatClampNeg))])) (ownIaload HF4 X1 hx hZ e1 (j := p2) hi2 (g := (mkF m 11 #[rv a0, iv (0 : Int32), iv p2, iv p3, rv d0, .unset, .unset] [(.int p2), (.ref d0)])) rfl rfl (hb hby own_d6_11)) ?_
  generalize hv_v2 : (gd p2.toNatClampNeg) = v2
  refine ow_istore (q := 14) X1 hx (L' := #[rv a0, iv (0 : Int32), iv p2, iv p3, rv d0, iv v2, .unset]) (hb hby own_d6_12) rfl rfl ?_
  refine ow_aload (q := 16) X1 hx (hb hby own_d6_14) rfl rfl rfl ?_
  refine ow_iloadN (q := 17) X1 hx (hb hby own_d6_16) rfl rfl ?_
  refine ownGo (T' := T1) (f' := (mkF m 18 #[rv a0, iv (0 : Int32), iv p2, iv p3, rv d0, iv v2, .unset] [(.int (gd p3.toNatClampNeg))])) (ownIaload HF4 X1 hx hZ e1 (j := p3) hi3 (g := (mkF m 17 #[rv a0, iv (0 : Int32), iv p2, iv p3, rv d0, iv v2, .unset] [(.int p3), (.ref d0)])) rfl rfl (hb hby own_d6_17)) ?_
  generalize hv_v3 : (gd p3.toNatClampNeg) = v3
  refine ow_istore (q := 20) X1 hx (L' := #[rv a0, iv (0 : Int32), iv p2, iv p3, rv d0, iv v2, iv v3]) (hb hby own_d6_18) rfl rfl ?_
  refine ow_aload (q := 22) X1 hx (hb hby own_d6_20) rfl rfl rfl ?_
  refine ow_iloadN (q := 23) X1 hx (hb hby own_d6_22) rfl rfl ?_
  refine ow_iload (q := 25) X1 hx (hb hby own_d6_23) rfl rfl ?_
  obtain ⟨T4, h4, X4, e4, W4, F4s, st4⟩ := ownIastore HF4 X1 hx hZ e1 (j := p2) hi2 (g := (mkF m 25 #[rv a0, iv (0 : Int32), iv p2, iv p3, rv d0, iv v2, iv v3] [(.int v3), (.int p2), (.ref d0)])) rfl rfl (hb hby own_d6_25)
  generalize hg_gf4 : (ownUpd gd p2.toNatClampNeg v3) = gf4 at F4s
  have N4 := Fr.snoc X4 N0 G_d0
  have K4 : Keep h0 h4 [d0, q0] := K0.wr W4 (Or.inl (List.mem_of_getElem? (i := 0) rfl))
  have F5 : Fld Z h4 a0 "com/example/sieveline/sieveline/model/CurrentDomains" "dense" "[[I" (.ref ad) := HF0.other W4 (Or.inl hn0)
  have F6 : Fld Z h4 a0 "com/example/sieveline/sieveline/model/CurrentDomains" "position" "[[I" (.ref ap) := HF1.other W4 (Or.inl hn0)
  have F7 : ownAR Z h4 ad kd 2 (ownUpd (ownUpd (fun _ => Value.null) 0 (.ref d0)) 1 (.ref d1)) := HF2.other W4 hn2
  have F8 : ownAR Z h4 ap kp 2 (ownUpd (ownUpd (fun _ => Value.null) 0 (.ref q0)) 1 (.ref q1)) := HF3.other W4 hn4
  have F9 : ownAI Z h4 q0 .int N gq := HF5.other W4 (Ne.symm hn6)
  refine ownGo (T' := T4) (f' := (mkF m 26 #[rv a0, iv (0 : Int32), iv p2, iv p3, rv d0, iv v2, iv v3] [])) (st4) ?_
  refine ow_aload (q := 28) X4 hx (hb hby own_d6_26) rfl rfl rfl ?_
  refine ow_iloadN (q := 29) X4 hx (hb hby own_d6_28) rfl rfl ?_
  refine ow_iload (q := 31) X4 hx (hb hby own_d6_29) rfl rfl ?_
  obtain ⟨T10, h10, X10, e10, W10, F10s, st10⟩ := ownIastore F4s X4 hx hZ e4 (j := p3) hi3 (g := (mkF m 31 #[rv a0, iv (0 : Int32), iv p2, iv p3, rv d0, iv v2, iv v3] [(.int v2), (.int p3), (.ref d0)])) rfl rfl (hb hby own_d6_31)
  generalize hg_gf10 : (ownUpd gf4 p3.toNatClampNeg v2) = gf10 at F10s
  have N10 := Fr.snoc X10 N4 G_d0
  have K10 : Keep h0 h10 [d0, q0] := K4.wr W10 (Or.inl (List.mem_of_getElem? (i := 0) rfl))
  have F11 : Fld Z h10 a0 "com/example/sieveline/sieveline/model/CurrentDomains" "dense" "[[I" (.ref ad) := F5.other W10 (Or.inl hn0)
  have F12 : Fld Z h10 a0 "com/example/sieveline/sieveline/model/CurrentDomains" "position" "[[I" (.ref ap) := F6.other W10 (Or.inl hn0)
  have F13 : ownAR Z h10 ad kd 2 (ownUpd (ownUpd (fun _ => Value.null) 0 (.ref d0)) 1 (.ref d1)) := F7.other W10 hn2
  have F14 : ownAR Z h10 ap kp 2 (ownUpd (ownUpd (fun _ => Value.null) 0 (.ref q0)) 1 (.ref q1)) := F8.other W10 hn4
  have F15 : ownAI Z h10 q0 .int N gq := F9.other W10 (Ne.symm hn6)
  refine ownGo (T' := T10) (f' := (mkF m 32 #[rv a0, iv (0 : Int32), iv p2, iv p3, rv d0, iv v2, iv v3] [])) (st10) ?_
  refine ow_aloadN (q := 33) X10 hx (hb hby own_d6_32) rfl rfl rfl ?_
  obtain ⟨T16, X16, e16, st16⟩ := getF X10 hx hZ hown (host := "") (Or.inl (ww 27 rfl)) Via.refl e10 F12 (g := (mkF m 33 #[rv a0, iv (0 : Int32), iv p2, iv p3, rv d0, iv v2, iv v3] [(.ref a0)])) rfl rfl (hb hby own_d6_33)
  refine ownGo (T' := T16) (f' := (mkF m 36 #[rv a0, iv (0 : Int32), iv p2, iv p3, rv d0, iv v2, iv v3] [(.ref ap)])) (st16) ?_
  refine ow_iloadN (q := 37) X16 hx (hb hby own_d6_36) rfl rfl ?_
  refine ownGo (T' := T16) (f' := (mkF m 38 #[rv a0, iv (0 : Int32), iv p2, iv p3, rv d0, iv v2, iv v3] [(.ref q0)])) (ownAaload F14 X16 hx hZ e16 (j := (0 : Int32)) (by unfold ownIn; decide) (g := (mkF m 37 #[rv a0, iv (0 : Int32), iv p2, iv p3, rv d0, iv v2, iv v3] [(.int (0 : Int32)), (.ref ap)])) rfl rfl (hb hby own_d6_37)) ?_
  refine ow_iload (q := 40) X16 hx (hb hby own_d6_38) rfl rfl ?_
  refine ow_iloadN (q := 41) X16 hx (hb hby own_d6_40) rfl rfl ?_
  obtain ⟨T17, h17, X17, e17, W17, F17s, st17⟩ := ownIastore F15 X16 hx hZ e16 (j := v2) (by rw [← hv_v2]; exact hx2) (g := (mkF m 41 #[rv a0, iv (0 : Int32), iv p2, iv p3, rv d0, iv v2, iv v3] [(.int p3), (.int v2), (.ref q0)])) rfl rfl (hb hby own_d6_41)
  generalize hg_gf17 : (ownUpd gq v2.toNatClampNeg p3) = gf17 at F17s
  have N17 := Fr.snoc X17 N10 G_q0
  have K17 : Keep h0 h17 [d0, q0] := K10.wr W17 (Or.inl (List.mem_of_getElem? (i := 1) rfl))
  have F18 : Fld Z h17 a0 "com/example/sieveline/sieveline/model/CurrentDomains" "dense" "[[I" (.ref ad) := F11.other W17 (Or.inl hn1)
  have F19 : Fld Z h17 a0 "com/example/sieveline/sieveline/model/CurrentDomains" "position" "[[I" (.ref ap) := F12.other W17 (Or.inl hn1)
  have F20 : ownAR Z h17 ad kd 2 (ownUpd (ownUpd (fun _ => Value.null) 0 (.ref d0)) 1 (.ref d1)) := F13.other W17 hn3
  have F21 : ownAR Z h17 ap kp 2 (ownUpd (ownUpd (fun _ => Value.null) 0 (.ref q0)) 1 (.ref q1)) := F14.other W17 hn5
  have F22 : ownAI Z h17 d0 .int N gf10 := F10s.other W17 hn6
  refine ownGo (T' := T17) (f' := (mkF m 42 #[rv a0, iv (0 : Int32), iv p2, iv p3, rv d0, iv v2, iv v3] [])) (st17) ?_
  refine ow_aloadN (q := 43) X17 hx (hb hby own_d6_42) rfl rfl rfl ?_
  obtain ⟨T23, X23, e23, st23⟩ := getF X17 hx hZ hown (host := "") (Or.inl (ww 27 rfl)) Via.refl e17 F19 (g := (mkF m 43 #[rv a0, iv (0 : Int32), iv p2, iv p3, rv d0, iv v2, iv v3] [(.ref a0)])) rfl rfl (hb hby own_d6_43)
  refine ownGo (T' := T23) (f' := (mkF m 46 #[rv a0, iv (0 : Int32), iv p2, iv p3, rv d0, iv v2, iv v3] [(.ref ap)])) (st23) ?_
  refine ow_iloadN (q := 47) X23 hx (hb hby own_d6_46) rfl rfl ?_
  refine ownGo (T' := T23) (f' := (mkF m 48 #[rv a0, iv (0 : Int32), iv p2, iv p3, rv d0, iv v2, iv v3] [(.ref q0)])) (ownAaload F21 X23 hx hZ e23 (j := (0 : Int32)) (by unfold ownIn; decide) (g := (mkF m 47 #[rv a0, iv (0 : Int32), iv p2, iv p3, rv d0, iv v2, iv v3] [(.int (0 : Int32)), (.ref ap)])) rfl rfl (hb hby own_d6_47)) ?_
  refine ow_iload (q := 50) X23 hx (hb hby own_d6_48) rfl rfl ?_
  refine ow_iloadN (q := 51) X23 hx (hb hby own_d6_50) rfl rfl ?_
  obtain ⟨T24, h24, X24, e24, W24, F24s, st24⟩ := ownIastore F17s X23 hx hZ e23 (j := v3) (by rw [← hv_v3]; exact hx3) (g := (mkF m 51 #[rv a0, iv (0 : Int32), iv p2, iv p3, rv d0, iv v2, iv v3] [(.int p2), (.int v3), (.ref q0)])) rfl rfl (hb hby own_d6_51)
  generalize hg_gf24 : (ownUpd gf17 v3.toNatClampNeg p2) = gf24 at F24s
  have N24 := Fr.snoc X24 N17 G_q0
  have K24 : Keep h0 h24 [d0, q0] := K17.wr W24 (Or.inl (List.mem_of_getElem? (i := 1) rfl))
  have F25 : Fld Z h24 a0 "com/example/sieveline/sieveline/model/CurrentDomains" "dense" "[[I" (.ref ad) := F18.other W24 (Or.inl hn1)
  have F26 : Fld Z h24 a0 "com/example/sieveline/sieveline/model/CurrentDomains" "position" "[[I" (.ref ap) := F19.other W24 (Or.inl hn1)
  have F27 : ownAR Z h24 ad kd 2 (ownUpd (ownUpd (fun _ => Value.null) 0 (.ref d0)) 1 (.ref d1)) := F20.other W24 hn3
  have F28 : ownAR Z h24 ap kp 2 (ownUpd (ownUpd (fun _ => Value.null) 0 (.ref q0)) 1 (.ref q1)) := F21.other W24 hn5
  have F29 : ownAI Z h24 d0 .int N gf10 := F22.other W24 hn6
  refine ownGo (T' := T24) (f' := (mkF m 52 #[rv a0, iv (0 : Int32), iv p2, iv p3, rv d0, iv v2, iv v3] [])) (st24) ?_
  refine ownRetV X24 hx Bd.returns (hb hby own_d6_52) hlk (by decide) (by decide) ?_
  subst hg_gf24 hg_gf17 hg_gf10 hg_gf4 hv_v3 hv_v2
  rw [e24]
  exact ⟨rfl, N24, K24, F29, F24s⟩
theorem own_d4_0 : decode prog_10_method_6_code 0 = .ok (.aload_n 0, 1) := by decide +kernel
theorem own_d4_1 : decode prog_10_method_6_code 1 = .ok (.getfield 18, 3) := by decide +kernel
theorem own_d4_4 : decode prog_10_method_6_code 4 = .ok (.iload_n 1, 1) := by decide +kernel
theorem own_d4_5 : decode prog_10_method_6_code 5 = .ok (.iaload, 1) := by decide +kernel
theorem own_d4_6 : decode prog_10_method_6_code 6 = .ok (.iconst 1, 1) := by decide +kernel
theorem own_d4_7 : decode prog_10_method_6_code 7 = .ok (.isub, 1) := by decide +kernel
theorem own_d4_8 : decode prog_10_method_6_code 8 = .ok (.istore_n 3, 1) := by decide +kernel
theorem own_d4_9 : decode prog_10_method_6_code 9 = .ok (.aload_n 0, 1) := by decide +kernel
theorem own_d4_10 : decode prog_10_method_6_code 10 = .ok (.iload_n 1, 1) := by decide +kernel
theorem own_d4_11 : decode prog_10_method_6_code 11 = .ok (.invokevirtual 28, 3) := by decide +kernel
theorem own_pd0 : parseMethodDescriptor "(I)V" = some ⟨[.int], none⟩ := by decide +kernel
theorem own_d4_14 : decode prog_10_method_6_code 14 = .ok (.aload_n 0, 1) := by decide +kernel
theorem own_d4_15 : decode prog_10_method_6_code 15 = .ok (.iload_n 1, 1) := by decide +kernel
theorem own_d4_16 : decode prog_10_method_6_code 16 = .ok (.aload_n 0, 1) := by decide +kernel
theorem own_d4_17 : decode prog_10_method_6_code 17 = .ok (.getfield 25, 3) := by decide +kernel
theorem own_d4_20 : decode prog_10_method_6_code 20 = .ok (.iload_n 1, 1) := by decide +kernel
theorem own_d4_21 : decode prog_10_method_6_code 21 = .ok (.aaload, 1) := by decide +kernel
theorem own_d4_22 : decode prog_10_method_6_code 22 = .ok (.iload_n 2, 1) := by decide +kernel
theorem own_d4_23 : decode prog_10_method_6_code 23 = .ok (.iaload, 1) := by decide +kernel
theorem own_d4_24 : decode prog_10_method_6_code 24 = .ok (.iload_n 3, 1) := by decide +kernel
theorem own_d4_25 : decode prog_10_method_6_code 25 = .ok (.invokevirtual 32, 3) := by decide +kernel
theorem own_pd1 : parseMethodDescriptor "(III)V" = some ⟨[.int, .int, .int], none⟩ := by decide +kernel
theorem own_d4_28 : decode prog_10_method_6_code 28 = .ok (.aload_n 0, 1) := by decide +kernel
theorem own_d4_29 : decode prog_10_method_6_code 29 = .ok (.getfield 18, 3) := by decide +kernel
theorem own_d4_32 : decode prog_10_method_6_code 32 = .ok (.iload_n 1, 1) := by decide +kernel
theorem own_d4_33 : decode prog_10_method_6_code 33 = .ok (.iload_n 3, 1) := by decide +kernel
theorem own_d4_34 : decode prog_10_method_6_code 34 = .ok (.iastore, 1) := by decide +kernel
theorem own_d4_35 : decode prog_10_method_6_code 35 = .ok (.return_, 1) := by decide +kernel
theorem own_ef4_remove_0_0 (m : MethodId) (a0 : Addr) (p2 : Int32) : entryFrame m #[(.ref a0), (.int (0 : Int32)), (.int p2)] 4 = mkF m 0 #[rv a0, iv (0 : Int32), iv p2, .unset] [] := by first | (simp [entryFrame, mkF, argsToLocals, Value.category]; done) | rfl
def Q_remove_0_0 (Z : State) (a0 : Addr) (p2 : Int32) (at_ : Addr) (as_ : Addr) (ad : Addr) (ap : Addr) (d0 : Addr) (q0 : Addr) (d1 : Addr) (q1 : Addr) (kd : ClassId) (kp : ClassId) (N : Nat) (gd : Nat → Int32) (gq : Nat → Int32) (gt : Nat → Int32) (gs : Nat → Int32) (h0 : Heap) (n0 : Nat) (v : Option Value) (h : Heap) (L : List Loc) : Prop := v = none ∧ Fr n0 L ∧ Keep h0 h [a0, at_, as_, d0, q0] ∧ Exa Z h a0 "com/example/sieveline/sieveline/model/CurrentDomains" ∧ Fld Z h a0 "com/example/sieveline/sieveline/model/CurrentDomains" "trail" "[I" (.ref at_) ∧ Fld Z h a0 "com/example/sieveline/sieveline/model/CurrentDomains" "size" "[I" (.ref as_) ∧ Fld Z h a0 "com/example/sieveline/sieveline/model/CurrentDomains" "dense" "[[I" (.ref ad) ∧ Fld Z h a0 "com/example/sieveline/sieveline/model/CurrentDomains" "position" "[[I" (.ref ap) ∧ Fld Z h a0 "com/example/sieveline/sieveline/model/CurrentDomains" "top" "I" (.int (2 : Int32)) ∧ ownAI Z h at_ .int 64 (ownUpd (ownUpd gt 0 (0 : Int32)) 1 (gs 0)) ∧ ownAI Z h as_ .int 2 (ownUpd gs 0 ((gs 0) - (1 : Int32))) ∧ ownAI Z h d0 .int N (own_swD gd (gq p2.toNatClampNeg) ((gs 0) - (1 : Int32))) ∧ ownAI Z h q0 .int N (own_swQ gd gq (gq p2.toNatClampNeg) ((gs 0) - (1 : Int32)))
set_option maxRecDepth 65536 in
set_option maxHeartbeats 40000000 in
theorem rm_remove_0_0 (l : Launch) (Z : State) (av0 : Array Value) (hw : ∀ d ∈ tables_1, d.before av0 Z = true) (ws : List Jvm.Cond) (a0 : Addr) (p2 : Int32) (at_ : Addr) (as_ : Addr) (ad : Addr) (ap : Addr) (d0 : Addr) (q0 : Addr) (d1 : Addr) (q1 : Addr) (kd : ClassId) (kp : ClassId) (N : Nat) (gd : Nat → Int32) (gq : Nat → Int32) (gt : Nat → Int32) (gs : Nat → Int32) (h0 : Heap) (n0 : Nat) (Z0 : n0 ≤ h0.size) (HF0 : Exa Z h0 a0 "com/example/sieveline/sieveline/model/CurrentDomains") (HF1 : Fld Z h0 a0 "com/example/sieveline/sieveline/model/CurrentDomains" "trail" "[I" (.ref at_)) (HF2 : Fld Z h0 a0 "com/example/sieveline/sieveline/model/CurrentDomains" "size" "[I" (.ref as_)) (HF3 : Fld Z h0 a0 "com/example/sieveline/sieveline/model/CurrentDomains" "dense" "[[I" (.ref ad)) (HF4 : Fld Z h0 a0 "com/example/sieveline/sieveline/model/CurrentDomains" "position" "[[I" (.ref ap)) (HF5 : Fld Z h0 a0 "com/example/sieveline/sieveline/model/CurrentDomains" "top" "I" (.int (0 : Int32))) (HF6 : ownAI Z h0 at_ .int 64 gt) (HF7 : ownAI Z h0 as_ .int 2 gs) (HF8 : ownAR Z h0 ad kd 2 (ownUpd (ownUpd (fun _ => Value.null) 0 (.ref d0)) 1 (.ref d1))) (HF9 : ownAR Z h0 ap kp 2 (ownUpd (ownUpd (fun _ => Value.null) 0 (.ref q0)) 1 (.ref q1))) (HF10 : ownAI Z h0 d0 .int N gd) (HF11 : ownAI Z h0 q0 .int N gq) (G_a0 : n0 ≤ a0) (G_at_ : n0 ≤ at_) (G_as_ : n0 ≤ as_) (G_d0 : n0 ≤ d0) (G_q0 : n0 ≤ q0) (hn0 : a0 ≠ at_) (hn1 : a0 ≠ as_) (hn2 : a0 ≠ ad) (hn3 : a0 ≠ ap) (hn4 : a0 ≠ d0) (hn5 : a0 ≠ q0) (hn6 : at_ ≠ as_) (hn7 : at_ ≠ ad) (hn8 : at_ ≠ ap) (hn9 : at_ ≠ d0) (hn10 : at_ ≠ q0) (hn11 : as_ ≠ ad) (hn12 : as_ ≠ ap) (hn13 : as_ ≠ d0) (hn14 : as_ ≠ q0) (hn15 : ad ≠ ap) (hn16 : ad ≠ d0) (hn17 : ad ≠ q0) (hn18 : ap ≠ d0) (hn19 : ap ≠ q0) (hn20 : d0 ≠ q0) (hv2 : ownIn p2 N) (rd : own_rg N gd) (rq : own_rg N gq) (hsz : 1 ≤ (gs 0).toInt ∧ (gs 0).toInt ≤ N) :
    MetFree l (⟨"com/example/sieveline/sieveline/model/CurrentDomains", "remove", "(II)V"⟩ : MethodName) (head1 (Jvm.Cond.code (⟨"com/example/sieveline/sieveline/model/CurrentDomains", "remove", "(II)V"⟩ : MethodName) prog_10_method_6_code 4 none :: ws) ({ frames := 1, cells := 0, slots := 0, locals := 18 } : Room)) (fun a U => a = #[(.ref a0), (.int (0 : Int32)), (.int p2)] ∧ Z.Warmed39 U.vm ∧ U.heap = h0) (fun _ _ _ _ _ => True) (fun _ U o U' => ∃ v L, o = .returned v ∧ (Q_remove_0_0 Z a0 p2 at_ as_ ad ap d0 q0 d1 q1 kd kp N gd gq gt gs h0 n0) v U'.heap L ∧ FrameEnd U o U' L ({ frames := 1, cells := 0, slots := 0, locals := 18 } : Room).cells ({ frames := 1, cells := 0, slots := 0, locals := 18 } : Room).slots) := by
  refine MetFree.of_bodySF (plainFor_of_name own_pn_CurrentDomains) hisR ?_
  intro p e s m args below meth c s₁ Bd hml0 hP hK
  obtain ⟨rfl, hZ, hh⟩ := hP
  have hx := Bd.exec
  have hby := Bd.bytes
  have hml : c.maxLocals = 4 := hml0
  have hown : s.vm.findClass "com/example/sieveline/sieveline/model/CurrentDomains" = some m.cls := findClass_of_methodNamed Bd.named
  have hnm := (name_of_methodNamed Bd.named Bd.method).1
  have hlk : meth.locks = false := BodyLoose.notSynchronized Bd
  have X0 : Stand p l e ({ frames := 1, cells := 0, slots := 0, locals := 18 } : Room) s m #[(.ref a0), (.int (0 : Int32)), (.int p2)] below meth c s₁ [] 0 0 := Stand.of_body Bd
  have e0 : s₁.heap = h0 := by rw [← hh, Bd.state]; rfl
  have N0 := Fr.nil n0
  have K0 : Keep h0 h0 [a0, at_, as_, d0, q0] := Keep.refl _ _
  have ww : ∀ (k : Nat) {d : Jvm.Cond}, tables_1[k]? = some d → d.before av0 Z = true := fun k d h => hw d (List.mem_of_getElem? h)
  show ownEnds p e below s (Q_remove_0_0 Z a0 p2 at_ as_ ad ap d0 q0 d1 q1 kd kp N gd gq gt gs h0 n0) ({ frames := 1, cells := 0, slots := 0, locals := 18 } : Room).cells ({ frames := 1, cells := 0, slots := 0, locals := 18 } : Room).slots s₁ (entryFrame m #[(.ref a0), (.int (0 : Int32)), (.int p2)] 4)
  refine ownCast (own_ef4_remove_0_0 m a0 p2) ?_
  refine ow_aloadN (q := 1) X0 hx (hb hby own_d4_0) rfl rfl rfl ?_
  obtain ⟨T1, X1, e1, st1⟩ := getF X0 hx hZ hown (host := "") (Or.inl (ww 22 rfl)) Via.refl e0 HF2 (g := (mkF m 1 #[rv a0, iv (0 : Int32), iv p2, .unset] [(.ref a0)])) rfl rfl (hb hby own_d4_1)
  refine ownGo (T' := T1) (f' := (mkF m 4 #[rv a0, iv (0 : Int32), iv p2, .unset] [(.ref as_)])) (st1) ?_
  refine ow_iloadN (q := 5) X1 hx (hb hby own_d4_4) rfl rfl ?_
  refine ownGo (T' := T1) (f' := (mkF m 6 #[rv a0, iv (0 : Int32), iv p2, .unset] [(.int (gs 0))])) (ownIaload HF7 X1 hx hZ e1 (j := (0 : Int32)) (by unfold ownIn; decide) (g := (mkF m 5 #[rv a0, iv (0 : Int32), iv p2, .unset] [(.int (0 : Int32)), (.ref as_)])) rfl rfl (hb hby own_d4_5)) ?_
  generalize hv_v2 : (gs 0) = v2
  refine ow_iconst (q := 7) X1 hx (1 : Int32) (hb hby own_d4_6) rfl rfl ?_
  refine ow_isub (q := 8) X1 hx _ (hb hby own_d4_7) rfl rfl ?_
  generalize hv_v3 : (v2 - (1 : Int32)) = v3
  refine ow_istoreN (q := 9) X1 hx (L' := #[rv a0, iv (0 : Int32), iv p2, iv v3]) (hb hby own_d4_8) rfl rfl ?_
  refine ow_aloadN (q := 10) X1 hx (hb hby own_d4_9) rfl rfl rfl ?_
  refine ow_iloadN (q := 11) X1 hx (hb hby own_d4_10) rfl rfl ?_
  obtain ⟨cq4, qp_4, qp_4'⟩ := HF0.cell
  obtain ⟨_, _, ⟨T4, L4, k4, n4⟩, -, X4, ⟨Lc4, hQ4, l4, y4, z4⟩, st4⟩ := X1.privateBack hx (y := (⟨"com/example/sieveline/sieveline/model/CurrentDomains", "record", "(I)V"⟩ : MethodName)) hown (mvT hZ (ww 41 rfl)) (mvT hZ (ww 42 rfl)) (Jvm.Kit.selects_private (y := (⟨"com/example/sieveline/sieveline/model/CurrentDomains", "record", "(I)V"⟩ : MethodName)) (by decide) (mvT hZ (ww 2 rfl)) (mvP hZ (ww 43 rfl)) (mvT hZ (ww 42 rfl))) (Cond.privateMethod_at (mvP hZ (ww 43 rfl) (args := #[]))) (mvT hZ (ww 44 rfl)) (by decide) (backOf (W := 0) (rm_record_0_0 l Z av0 hw [] a0 at_ as_ ad ap gt gs h0 n0 (Nat.le_trans Z0 K0.1) HF0 HF1 HF2 HF3 HF4 HF5 HF6 HF7 G_a0 G_at_ hn0 hn1 hn6) hZ (ww 44 rfl) (ww 3 rfl) (by decide) (by decide)) (g := (mkF m 11 #[rv a0, iv (0 : Int32), iv p2, iv v3] [(.int (0 : Int32)), (.ref a0)])) rfl (by rw [hml]; rfl) (Steps.refl _) (a := a0) (by rw [e1]; exact qp_4) qp_4' (argsL := [(.int (0 : Int32))]) (rest := []) (lenOf own_pd0 rfl) rfl (by show 2 * 0 + _ ≤ _; exact Nat.le_of_eq rfl) (hb hby own_d4_11) (fun _ _ => ⟨rfl, e1, (by decide : 0 + 0 ≤ _), (by decide : 0 + 0 ≤ _)⟩)
  dsimp only [Pt.U, Pt.locs, Pt.cells, Pt.slots] at X4 l4 y4 z4 st4 hQ4
  subst l4 y4 z4
  obtain ⟨rfl, N4q, Kq4, FP4_0, FP4_1, FP4_2, FP4_3, FP4_4, FP4_5, FP4_6⟩ := hQ4
  have N4 := Fr.app N0 N4q
  have K4 : Keep h0 T4.heap [a0, at_, as_, d0, q0] := K0.trans Kq4 (allS (Or.inl (List.mem_of_getElem? (i := 0) rfl)) (allS (Or.inl (List.mem_of_getElem? (i := 1) rfl)) all0))
  have F5 : Exa Z T4.heap a0 "com/example/sieveline/sieveline/model/CurrentDomains" := HF0.keep Kq4
  have F6 : ownAI Z T4.heap as_ .int 2 gs := HF7.keep Kq4 (ninS (Ne.symm hn1) (ninS (Ne.symm hn6) nin0))
  have F7 : ownAR Z T4.heap ad kd 2 (ownUpd (ownUpd (fun _ => Value.null) 0 (.ref d0)) 1 (.ref d1)) := HF8.keep Kq4 (ninS (Ne.symm hn2) (ninS (Ne.symm hn7) nin0))
  have F8 : ownAR Z T4.heap ap kp 2 (ownUpd (ownUpd (fun _ => Value.null) 0 (.ref q0)) 1 (.ref q1)) := HF9.keep Kq4 (ninS (Ne.symm hn3) (ninS (Ne.symm hn8) nin0))
  have F9 : ownAI Z T4.heap d0 .int N gd := HF10.keep Kq4 (ninS (Ne.symm hn4) (ninS (Ne.symm hn9) nin0))
  have F10 : ownAI Z T4.heap q0 .int N gq := HF11.keep Kq4 (ninS (Ne.symm hn5) (ninS (Ne.symm hn10) nin0))
  refine ownRun (T' := T4) (f' := (mkF m 14 #[rv a0, iv (0 : Int32), iv p2, iv v3] [])) st4 ?_
  refine ow_aloadN (q := 15) X4 hx (hb hby own_d4_14) rfl rfl rfl ?_
  refine ow_iloadN (q := 16) X4 hx (hb hby own_d4_15) rfl rfl ?_
  refine ow_aloadN (q := 17) X4 hx (hb hby own_d4_16) rfl rfl rfl ?_
  obtain ⟨T11, X11, e11, st11⟩ := getF X4 hx hZ hown (host := "") (Or.inl (ww 27 rfl)) Via.refl rfl FP4_4 (g := (mkF m 17 #[rv a0, iv (0 : Int32), iv p2, iv v3] [(.ref a0), (.int (0 : Int32)), (.ref a0)])) rfl rfl (hb hby own_d4_17)
  refine ownGo (T' := T11) (f' := (mkF m 20 #[rv a0, iv (0 : Int32), iv p2, iv v3] [(.ref ap), (.int (0 : Int32)), (.ref a0)])) (st11) ?_
  refine ow_iloadN (q := 21) X11 hx (hb hby own_d4_20) rfl rfl ?_
  refine ownGo (T' := T11) (f' := (mkF m 22 #[rv a0, iv (0 : Int32), iv p2, iv v3] [(.ref q0), (.int (0 : Int32)), (.ref a0)])) (ownAaload F8 X11 hx hZ e11 (j := (0 : Int32)) (by unfold ownIn; decide) (g := (mkF m 21 #[rv a0, iv (0 : Int32), iv p2, iv v3] [(.int (0 : Int32)), (.ref ap), (.int (0 : Int32)), (.ref a0)])) rfl rfl (hb hby own_d4_21)) ?_
  refine ow_iloadN (q := 23) X11 hx (hb hby own_d4_22) rfl rfl ?_
  refine ownGo (T' := T11) (f' := (mkF m 24 #[rv a0, iv (0 : Int32), iv p2, iv v3] [(.int (gq p2.toNatClampNeg)), (.int (0 : Int32)), (.ref a0)])) (ownIaload F10 X11 hx hZ e11 (j := p2) hv2 (g := (mkF m 23 #[rv a0, iv (0 : Int32), iv p2, iv v3] [(.int p2), (.ref q0), (.int (0 : Int32)), (.ref a0)])) rfl rfl (hb hby own_d4_23)) ?_
  generalize hv_v12 : (gq p2.toNatClampNeg) = v12
  refine ow_iloadN (q := 25) X11 hx (hb hby own_d4_24) rfl rfl ?_
  obtain ⟨cq13, qp_13, qp_13'⟩ := FP4_0.cell
  obtain ⟨_, _, ⟨T13, L13, k13, n13⟩, -, X13, ⟨Lc13, hQ13, l13, y13, z13⟩, st13⟩ := X11.privateBack hx (y := (⟨"com/example/sieveline/sieveline/model/CurrentDomains", "swap", "(III)V"⟩ : MethodName)) hown (mvT hZ (ww 45 rfl)) (mvT hZ (ww 46 rfl)) (Jvm.Kit.selects_private (y := (⟨"com/example/sieveline/sieveline/model/CurrentDomains", "swap", "(III)V"⟩ : MethodName)) (by decide) (mvT hZ (ww 2 rfl)) (mvP hZ (ww 47 rfl)) (mvT hZ (ww 46 rfl))) (Cond.privateMethod_at (mvP hZ (ww 47 rfl) (args := #[]))) (mvT hZ (ww 48 rfl)) (by decide) (backOf (W := 0) (rm_swap_0 l Z av0 hw [] a0 v12 v3 ad ap d0 q0 d1 q1 kd kp N gd gq T4.heap n0 (Nat.le_trans Z0 K4.1) FP4_3 FP4_4 F7 F8 F9 F10 G_d0 G_q0 hn4 hn5 hn16 hn17 hn18 hn19 hn20 (own_pos rq hv2 hv_v12) (own_last hsz hv_v2 hv_v3) (own_rgi rd (own_pos rq hv2 hv_v12)) (own_rgi rd (own_last hsz hv_v2 hv_v3))) hZ (ww 48 rfl) (ww 3 rfl) (by decide) (by decide)) (g := (mkF m 25 #[rv a0, iv (0 : Int32), iv p2, iv v3] [(.int v3), (.int v12), (.int (0 : Int32)), (.ref a0)])) rfl (by rw [hml]; rfl) (Steps.refl _) (a := a0) (by rw [e11]; exact qp_13) qp_13' (argsL := [(.int (0 : Int32)), (.int v12), (.int v3)]) (rest := []) (lenOf own_pd1 rfl) rfl (by show 2 * 0 + _ ≤ _; exact Nat.le_of_eq rfl) (hb hby own_d4_25) (fun _ _ => ⟨rfl, e11, (by decide : 0 + 0 ≤ _), (by decide : 0 + 0 ≤ _)⟩)
  dsimp only [Pt.U, Pt.locs, Pt.cells, Pt.slots] at X13 l13 y13 z13 st13 hQ13
  subst l13 y13 z13
  obtain ⟨rfl, N13q, Kq13, FP13_0, FP13_1⟩ := hQ13
  have N13 := Fr.app N4 N13q
  have K13 : Keep h0 T13.heap [a0, at_, as_, d0, q0] := K4.trans Kq13 (allS (Or.inl (List.mem_of_getElem? (i := 3) rfl)) (allS (Or.inl (List.mem_of_getElem? (i := 4) rfl)) all0))
  have F14 : Exa Z T13.heap a0 "com/example/sieveline/sieveline/model/CurrentDomains" := FP4_0.keep Kq13
  have F15 : ownAI Z T13.heap as_ .int 2 gs := F6.keep Kq13 (ninS hn13 (ninS hn14 nin0))
  have F16 : ownAR Z T13.heap ad kd 2 (ownUpd (ownUpd (fun _ => Value.null) 0 (.ref d0)) 1 (.ref d1)) := F7.keep Kq13 (ninS hn16 (ninS hn17 nin0))
  have F17 : ownAR Z T13.heap ap kp 2 (ownUpd (ownUpd (fun _ => Value.null) 0 (.ref q0)) 1 (.ref q1)) := F8.keep Kq13 (ninS hn18 (ninS hn19 nin0))
  have F18 : Fld Z T13.heap a0 "com/example/sieveline/sieveline/model/CurrentDomains" "trail" "[I" (.ref at_) := FP4_1.keep Kq13 (ninS hn4 (ninS hn5 nin0))
  have F19 : Fld Z T13.heap a0 "com/example/sieveline/sieveline/model/CurrentDomains" "size" "[I" (.ref as_) := FP4_2.keep Kq13 (ninS hn4 (ninS hn5 nin0))
  have F20 : Fld Z T13.heap a0 "com/example/sieveline/sieveline/model/CurrentDomains" "dense" "[[I" (.ref ad) := FP4_3.keep Kq13 (ninS hn4 (ninS hn5 nin0))
  have F21 : Fld Z T13.heap a0 "com/example/sieveline/sieveline/model/CurrentDomains" "position" "[[I" (.ref ap) := FP4_4.keep Kq13 (ninS hn4 (ninS hn5 nin0))
  have F22 : Fld Z T13.heap a0 "com/example/sieveline/sieveline/model/CurrentDomains" "top" "I" (.int (2 : Int32)) := FP4_5.keep Kq13 (ninS hn4 (ninS hn5 nin0))
  have F23 : ownAI Z T13.heap at_ .int 64 (ownUpd (ownUpd gt 0 (0 : Int32)) 1 (gs 0)) := FP4_6.keep Kq13 (ninS hn9 (ninS hn10 nin0))
  refine ownRun (T' := T13) (f' := (mkF m 28 #[rv a0, iv (0 : Int32), iv p2, iv v3] [])) st13 ?_
  refine ow_aloadN (q := 29) X13 hx (hb hby own_d4_28) rfl rfl rfl ?_
  obtain ⟨T24, X24, e24, st24⟩ := getF X13 hx hZ hown (host := "") (Or.inl (ww 22 rfl)) Via.refl rfl F19 (g := (mkF m 29 #[rv a0, iv (0 : Int32), iv p2, iv v3] [(.ref a0)])) rfl rfl (hb hby own_d4_29)
  refine ownGo (T' := T24) (f' := (mkF m 32 #[rv a0, iv (0 : Int32), iv p2, iv v3] [(.ref as_)])) (st24) ?_
  refine ow_iloadN (q := 33) X24 hx (hb hby own_d4_32) rfl rfl ?_
  refine ow_iloadN (q := 34) X24 hx (hb hby own_d4_33) rfl rfl ?_
  obtain ⟨T25, h25, X25, e25, W25, F25s, st25⟩ := ownIastore F15 X24 hx hZ e24 (j := (0 : Int32)) (by unfold ownIn; decide) (g := (mkF m 34 #[rv a0, iv (0 : Int32), iv p2, iv v3] [(.int v3), (.int (0 : Int32)), (.ref as_)])) rfl rfl (hb hby own_d4_34)
  have F25r : ownAI Z h25 as_ .int 2 (ownUpd gs 0 v3) := F25s
  have N25 := Fr.snoc X25 N13 G_as_
  have K25 : Keep h0 h25 [a0, at_, as_, d0, q0] := K13.wr W25 (Or.inl (List.mem_of_getElem? (i := 2) rfl))
  have F26 : Exa Z h25 a0 "com/example/sieveline/sieveline/model/CurrentDomains" := F14.wr W25
  have F27 : ownAR Z h25 ad kd 2 (ownUpd (ownUpd (fun _ => Value.null) 0 (.ref d0)) 1 (.ref d1)) := F16.other W25 (Ne.symm hn11)
  have F28 : ownAR Z h25 ap kp 2 (ownUpd (ownUpd (fun _ => Value.null) 0 (.ref q0)) 1 (.ref q1)) := F17.other W25 (Ne.symm hn12)
  have F29 : Fld Z h25 a0 "com/example/sieveline/sieveline/model/CurrentDomains" "trail" "[I" (.ref at_) := F18.other W25 (Or.inl hn1)
  have F30 : Fld Z h25 a0 "com/example/sieveline/sieveline/model/CurrentDomains" "size" "[I" (.ref as_) := F19.other W25 (Or.inl hn1)
  have F31 : Fld Z h25 a0 "com/example/sieveline/sieveline/model/CurrentDomains" "dense" "[[I" (.ref ad) := F20.other W25 (Or.inl hn1)
  have F32 : Fld Z h25 a0 "com/example/sieveline/sieveline/model/CurrentDomains" "position" "[[I" (.ref ap) := F21.other W25 (Or.inl hn1)
  have F33 : Fld Z h25 a0 "com/example/sieveline/sieveline/model/CurrentDomains" "top" "I" (.int (2 : Int32)) := F22.other W25 (Or.inl hn1)
  have F34 : ownAI Z h25 at_ .int 64 (ownUpd (ownUpd gt 0 (0 : Int32)) 1 (gs 0)) := F23.other W25 hn6
  have F35 : ownAI Z h25 d0 .int N (own_swD gd v12 v3) := FP13_0.other W25 (Ne.symm hn13)
  have F36 : ownAI Z h25 q0 .int N (own_swQ gd gq v12 v3) := FP13_1.other W25 (Ne.symm hn14)
  refine ownGo (T' := T25) (f' := (mkF m 35 #[rv a0, iv (0 : Int32), iv p2, iv v3] [])) (st25) ?_
  refine ownRetV X25 hx Bd.returns (hb hby own_d4_35) hlk (by decide) (by decide) ?_
  subst hv_v12 hv_v3 hv_v2
  rw [e25]
  exact ⟨rfl, N25, K25, F26, F29, F30, F31, F32, F33, F34, F25r, F35, F36⟩
theorem own_ef4_remove_2_0 (m : MethodId) (a0 : Addr) (p2 : Int32) : entryFrame m #[(.ref a0), (.int (0 : Int32)), (.int p2)] 4 = mkF m 0 #[rv a0, iv (0 : Int32), iv p2, .unset] [] := by first | (simp [entryFrame, mkF, argsToLocals, Value.category]; done) | rfl
def Q_remove_2_0 (Z : State) (a0 : Addr) (p2 : Int32) (at_ : Addr) (as_ : Addr) (ad : Addr) (ap : Addr) (d0 : Addr) (q0 : Addr) (d1 : Addr) (q1 : Addr) (kd : ClassId) (kp : ClassId) (N : Nat) (gd : Nat → Int32) (gq : Nat → Int32) (gt : Nat → Int32) (gs : Nat → Int32) (h0 : Heap) (n0 : Nat) (v : Option Value) (h : Heap) (L : List Loc) : Prop := v = none ∧ Fr n0 L ∧ Keep h0 h [a0, at_, as_, d0, q0] ∧ Exa Z h a0 "com/example/sieveline/sieveline/model/CurrentDomains" ∧ Fld Z h a0 "com/example/sieveline/sieveline/model/CurrentDomains" "trail" "[I" (.ref at_) ∧ Fld Z h a0 "com/example/sieveline/sieveline/model/CurrentDomains" "size" "[I" (.ref as_) ∧ Fld Z h a0 "com/example/sieveline/sieveline/model/CurrentDomains" "dense" "[[I" (.ref ad) ∧ Fld Z h a0 "com/example/sieveline/sieveline/model/CurrentDomains" "position" "[[I" (.ref ap) ∧ Fld Z h a0 "com/example/sieveline/sieveline/model/CurrentDomains" "top" "I" (.int (4 : Int32)) ∧ ownAI Z h at_ .int 64 (ownUpd (ownUpd gt 2 (0 : Int32)) 3 (gs 0)) ∧ ownAI Z h as_ .int 2 (ownUpd gs 0 ((gs 0) - (1 : Int32))) ∧ ownAI Z h d0 .int N (own_swD gd (gq p2.toNatClampNeg) ((gs 0) - (1 : Int32))) ∧ ownAI Z h q0 .int N (own_swQ gd gq (gq p2.toNatClampNeg) ((gs 0) - (1 : Int32)))
set_option maxRecDepth 65536 in
set_option maxHeartbeats 40000000 in
theorem rm_remove_2_0 (l : Launch) (Z : State) (av0 : Array Value) (hw : ∀ d ∈ tables_1, d.before av0 Z = true) (ws : List Jvm.Cond) (a0 : Addr) (p2 : Int32) (at_ : Addr) (as_ : Addr) (ad : Addr) (ap : Addr) (d0 : Addr) (q0 : Addr) (d1 : Addr) (q1 : Addr) (kd : ClassId) (kp : ClassId) (N : Nat) (gd : Nat → Int32) (gq : Nat → Int32) (gt : Nat → Int32) (gs : Nat → Int32) (h0 : Heap) (n0 : Nat) (Z0 : n0 ≤ h0.size) (HF0 : Exa Z h0 a0 "com/example/sieveline/sieveline/model/CurrentDomains") (HF1 : Fld Z h0 a0 "com/example/sieveline/sieveline/model/CurrentDomains" "trail" "[I" (.ref at_)) (HF2 : Fld Z h0 a0 "com/example/sieveline/sieveline/model/CurrentDomains" "size" "[I" (.ref as_)) (HF3 : Fld Z h0 a0 "com/example/sieveline/sieveline/model/CurrentDomains" "dense" "[[I" (.ref ad)) (HF4 : Fld Z h0 a0 "com/example/sieveline/sieveline/model/CurrentDomains" "position" "[[I" (.ref ap)) (HF5 : Fld Z h0 a0 "com/example/sieveline/sieveline/model/CurrentDomains" "top" "I" (.int (2 : Int32))) (HF6 : ownAI Z h0 at_ .int 64 gt) (HF7 : ownAI Z h0 as_ .int 2 gs) (HF8 : ownAR Z h0 ad kd 2 (ownUpd (ownUpd (fun _ => Value.null) 0 (.ref d0)) 1 (.ref d1))) (HF9 : ownAR Z h0 ap kp 2 (ownUpd (ownUpd (fun _ => Value.null) 0 (.ref q0)) 1 (.ref q1))) (HF10 : ownAI Z h0 d0 .int N gd) (HF11 : ownAI Z h0 q0 .int N gq) (G_a0 : n0 ≤ a0) (G_at_ : n0 ≤ at_) (G_as_ : n0 ≤ as_) (G_d0 : n0 ≤ d0) (G_q0 : n0 ≤ q0) (hn0 : a0 ≠ at_) (hn1 : a0 ≠ as_) (hn2 : a0 ≠ ad) (hn3 : a0 ≠ ap) (hn4 : a0 ≠ d0) (hn5 : a0 ≠ q0) (hn6 : at_ ≠ as_) (hn7 : at_ ≠ ad) (hn8 : at_ ≠ ap) (hn9 : at_ ≠ d0) (hn10 : at_ ≠ q0) (hn11 : as_ ≠ ad) (hn12 : as_ ≠ ap) (hn13 : as_ ≠ d0) (hn14 : as_ ≠ q0) (hn15 : ad ≠ ap) (hn16 : ad ≠ d0) (hn17 : ad ≠ q0) (hn18 : ap ≠ d0) (hn19 : ap ≠ q0) (hn20 : d0 ≠ q0) (hv2 : ownIn p2 N) (rd : own_rg N gd) (rq : own_rg N gq) (hsz : 1 ≤ (gs 0).toInt ∧ (gs 0).toInt ≤ N) :
    MetFree l (⟨"com/example/sieveline/sieveline/model/CurrentDomains", "remove", "(II)V"⟩ : MethodName) (head1 (Jvm.Cond.code (⟨"com/example/sieveline/sieveline/model/CurrentDomains", "remove", "(II)V"⟩ : MethodName) prog_10_method_6_code 4 none :: ws) ({ frames := 1, cells := 0, slots := 0, locals := 18 } : Room)) (fun a U => a = #[(.ref a0), (.int (0 : Int32)), (.int p2)] ∧ Z.Warmed39 U.vm ∧ U.heap = h0) (fun _ _ _ _ _ => True) (fun _ U o U' => ∃ v L, o = .returned v ∧ (Q_remove_2_0 Z a0 p2 at_ as_ ad ap d0 q0 d1 q1 kd kp N gd gq gt gs h0 n0) v U'.heap L ∧ FrameEnd U o U' L ({ frames := 1, cells := 0, slots := 0, locals := 18 } : Room).cells ({ frames := 1, cells := 0, slots := 0, locals := 18 } : Room).slots) := by
  refine MetFree.of_bodySF (plainFor_of_name own_pn_CurrentDomains) hisR ?_
  intro p e s m args below meth c s₁ Bd hml0 hP hK
  obtain ⟨rfl, hZ, hh⟩ := hP
  have hx := Bd.exec
  have hby := Bd.bytes
  have hml : c.maxLocals = 4 := hml0
  have hown : s.vm.findClass "com/example/sieveline/sieveline/model/CurrentDomains" = some m.cls := findClass_of_methodNamed Bd.named
  have hnm := (name_of_methodNamed Bd.named Bd.method).1
  have hlk : meth.locks = false := BodyLoose.notSynchronized Bd
  have X0 : Stand p l e ({ frames := 1, cells := 0, slots := 0, locals := 18 } : Room) s m #[(.ref a0), (.int (0 : Int32)), (.int p2)] below meth c s₁ [] 0 0 := Stand.of_body Bd
  have e0 : s₁.heap = h0 := by rw [← hh, Bd.state]; rfl
  have N0 := Fr.nil n0
  have K0 : Keep h0 h0 [a0, at_, as_, d0, q0] := Keep.refl _ _
  have ww : ∀ (k : Nat) {d : Jvm.Cond}, tables_1[k]? = some d → d.before av0 Z = true := fun k d h => hw d (List.mem_of_getElem? h)
  show ownEnds p e below s (Q_remove_2_0 Z a0 p2 at_ as_ ad ap d0 q0 d1 q1 kd kp N gd gq gt gs h0 n0) ({ frames := 1, cells := 0, slots := 0, locals := 18 } : Room).cells ({ frames := 1, cells := 0, slots := 0, locals := 18 } : Room).slots s₁ (entryFrame m #[(.ref a0), (.int (0 : Int32)), (.int p2)] 4)
  refine ownCast (own_ef4_remove_2_0 m a0 p2) ?_
  refine ow_aloadN (q := 1) X0 hx (hb hby own_d4_0) rfl rfl rfl ?_
  obtain ⟨T1, X1, e1, st1⟩ := getF X0 hx hZ hown (host := "") (Or.inl (ww 22 rfl)) Via.refl e0 HF2 (g := (mkF m 1 #[rv a0, iv (0 : Int32), iv p2, .unset] [(.ref a0)])) rfl rfl (hb hby own_d4_1)
  refine ownGo (T' := T1) (f' := (mkF m 4 #[rv a0, iv (0 : Int32), iv p2, .unset] [(.ref as_)])) (st1) ?_
  refine ow_iloadN (q := 5) X1 hx (hb hby own_d4_4) rfl rfl ?_
  refine ownGo (T' := T1) (f' := (mkF m 6 #[rv a0, iv (0 : Int32), iv p2, .unset] [(.int (gs 0))])) (ownIaload HF7 X1 hx hZ e1 (j := (0 : Int32)) (by unfold ownIn; decide) (g := (mkF m 5 #[rv a0, iv (0 : Int32), iv p2, .unset] [(.int (0 : Int32)), (.ref as_)])) rfl rfl (hb hby own_d4_5)) ?_
  generalize hv_v2 : (gs 0) = v2
  refine ow_iconst (q := 7) X1 hx (1 : Int32) (hb hby own_d4_6) rfl rfl ?_
  refine ow_isub (q := 8) X1 hx _ (hb hby own_d4_7) rfl rfl ?_
  generalize hv_v3 : (v2 - (1 : Int32)) = v3
  refine ow_istoreN (q := 9) X1 hx (L' := #[rv a0, iv (0 : Int32), iv p2, iv v3]) (hb hby own_d4_8) rfl rfl ?_
  refine ow_aloadN (q := 10) X1 hx (hb hby own_d4_9) rfl rfl rfl ?_
  refine ow_iloadN (q := 11) X1 hx (hb hby own_d4_10) rfl rfl ?_
  obtain ⟨cq4, qp_4, qp_4'⟩ := HF0.cell
  obtain ⟨_, _, ⟨T4, L4, k4, n4⟩, -, X4, ⟨Lc4, hQ4, l4, y4, z4⟩, st4⟩ := X1.privateBack hx (y := (⟨"com/example/sieveline/sieveline/model/CurrentDomains", "record", "(I)V"⟩ : MethodName)) hown (mvT hZ (ww 41 rfl)) (mvT hZ (ww 42 rfl)) (Jvm.Kit.selects_private (y := (⟨"com/example/sieveline/sieveline/model/CurrentDomains", "record", "(I)V"⟩ : MethodName)) (by decide) (mvT hZ (ww 2 rfl)) (mvP hZ (ww 43 rfl)) (mvT hZ (ww 42 rfl))) (Cond.privateMethod_at (mvP hZ (ww 43 rfl) (args := #[]))) (mvT hZ (ww 44 rfl)) (by decide) (backOf (W := 0) (rm_record_2_0 l Z av0 hw [] a0 at_ as_ ad ap gt gs h0 n0 (Nat.le_trans Z0 K0.1) HF0 HF1 HF2 HF3 HF4 HF5 HF6 HF7 G_a0 G_at_ hn0 hn1 hn6) hZ (ww 44 rfl) (ww 3 rfl) (by decide) (by decide)) (g := (mkF m 11 #[rv a0, iv (0 : Int32), iv p2, iv v3] [(.int (0 : Int32)), (.ref a0)])) rfl (by rw [hml]; rfl) (Steps.refl _) (a := a0) (by rw [e1]; exact qp_4) qp_4' (argsL := [(.int (0 : Int32))]) (rest := []) (lenOf own_pd0 rfl) rfl (by show 2 * 0 + _ ≤ _; exact Nat.le_of_eq rfl) (hb hby own_d4_11) (fun _ _ => ⟨rfl, e1, (by decide : 0 + 0 ≤ _), (by decide : 0 + 0 ≤ _)⟩)
  dsimp only [Pt.U, Pt.locs, Pt.cells, Pt.slots] at X4 l4 y4 z4 st4 hQ4
  subst l4 y4 z4
  obtain ⟨rfl, N4q, Kq4, FP4_0, FP4_1, FP4_2, FP4_3, FP4_4, FP4_5, FP4_6⟩ := hQ4
  have N4 := Fr.app N0 N4q
  have K4 : Keep h0 T4.heap [a0, at_, as_, d0, q0] := K0.trans Kq4 (allS (Or.inl (List.mem_of_getElem? (i := 0) rfl)) (allS (Or.inl (List.mem_of_getElem? (i := 1) rfl)) all0))
  have F5 : Exa Z T4.heap a0 "com/example/sieveline/sieveline/model/CurrentDomains" := HF0.keep Kq4
  have F6 : ownAI Z T4.heap as_ .int 2 gs := HF7.keep Kq4 (ninS (Ne.symm hn1) (ninS (Ne.symm hn6) nin0))
  have F7 : ownAR Z T4.heap ad kd 2 (ownUpd (ownUpd (fun _ => Value.null) 0 (.ref d0)) 1 (.ref d1)) := HF8.keep Kq4 (ninS (Ne.symm hn2) (ninS (Ne.symm hn7) nin0))
  have F8 : ownAR Z T4.heap ap kp 2 (ownUpd (ownUpd (fun _ => Value.null) 0 (.ref q0)) 1 (.ref q1)) := HF9.keep Kq4 (ninS (Ne.symm hn3) (ninS (Ne.symm hn8) nin0))
  have F9 : ownAI Z T4.heap d0 .int N gd := HF10.keep Kq4 (ninS (Ne.symm hn4) (ninS (Ne.symm hn9) nin0))
  have F10 : ownAI Z T4.heap q0 .int N gq := HF11.keep Kq4 (ninS (Ne.symm hn5) (ninS (Ne.symm hn10) nin0))
  refine ownRun (T' := T4) (f' := (mkF m 14 #[rv a0, iv (0 : Int32), iv p2, iv v3] [])) st4 ?_
  refine ow_aloadN (q := 15) X4 hx (hb hby own_d4_14) rfl rfl rfl ?_
  refine ow_iloadN (q := 16) X4 hx (hb hby own_d4_15) rfl rfl ?_
  refine ow_aloadN (q := 17) X4 hx (hb hby own_d4_16) rfl rfl rfl ?_
  obtain ⟨T11, X11, e11, st11⟩ := getF X4 hx hZ hown (host := "") (Or.inl (ww 27 rfl)) Via.refl rfl FP4_4 (g := (mkF m 17 #[rv a0, iv (0 : Int32), iv p2, iv v3] [(.ref a0), (.int (0 : Int32)), (.ref a0)])) rfl rfl (hb hby own_d4_17)
  refine ownGo (T' := T11) (f' := (mkF m 20 #[rv a0, iv (0 : Int32), iv p2, iv v3] [(.ref ap), (.int (0 : Int32)), (.ref a0)])) (st11) ?_
  refine ow_iloadN (q := 21) X11 hx (hb hby own_d4_20) rfl rfl ?_
  refine ownGo (T' := T11) (f' := (mkF m 22 #[rv a0, iv (0 : Int32), iv p2, iv v3] [(.ref q0), (.int (0 : Int32)), (.ref a0)])) (ownAaload F8 X11 hx hZ e11 (j := (0 : Int32)) (by unfold ownIn; decide) (g := (mkF m 21 #[rv a0, iv (0 : Int32), iv p2, iv v3] [(.int (0 : Int32)), (.ref ap), (.int (0 : Int32)), (.ref a0)])) rfl rfl (hb hby own_d4_21)) ?_
  refine ow_iloadN (q := 23) X11 hx (hb hby own_d4_22) rfl rfl ?_
  refine ownGo (T' := T11) (f' := (mkF m 24 #[rv a0, iv (0 : Int32), iv p2, iv v3] [(.int (gq p2.toNatClampNeg)), (.int (0 : Int32)), (.ref a0)])) (ownIaload F10 X11 hx hZ e11 (j := p2) hv2 (g := (mkF m 23 #[rv a0, iv (0 : Int32), iv p2, iv v3] [(.int p2), (.ref q0), (.int (0 : Int32)), (.ref a0)])) rfl rfl (hb hby own_d4_23)) ?_
  generalize hv_v12 : (gq p2.toNatClampNeg) = v12
  refine ow_iloadN (q := 25) X11 hx (hb hby own_d4_24) rfl rfl ?_
  obtain ⟨cq13, qp_13, qp_13'⟩ := FP4_0.cell
  obtain ⟨_, _, ⟨T13, L13, k13, n13⟩, -, X13, ⟨Lc13, hQ13, l13, y13, z13⟩, st13⟩ := X11.privateBack hx (y := (⟨"com/example/sieveline/sieveline/model/CurrentDomains", "swap", "(III)V"⟩ : MethodName)) hown (mvT hZ (ww 45 rfl)) (mvT hZ (ww 46 rfl)) (Jvm.Kit.selects_private (y := (⟨"com/example/sieveline/sieveline/model/CurrentDomains", "swap", "(III)V"⟩ : MethodName)) (by decide) (mvT hZ (ww 2 rfl)) (mvP hZ (ww 47 rfl)) (mvT hZ (ww 46 rfl))) (Cond.privateMethod_at (mvP hZ (ww 47 rfl) (args := #[]))) (mvT hZ (ww 48 rfl)) (by decide) (backOf (W := 0) (rm_swap_0 l Z av0 hw [] a0 v12 v3 ad ap d0 q0 d1 q1 kd kp N gd gq T4.heap n0 (Nat.le_trans Z0 K4.1) FP4_3 FP4_4 F7 F8 F9 F10 G_d0 G_q0 hn4 hn5 hn16 hn17 hn18 hn19 hn20 (own_pos rq hv2 hv_v12) (own_last hsz hv_v2 hv_v3) (own_rgi rd (own_pos rq hv2 hv_v12)) (own_rgi rd (own_last hsz hv_v2 hv_v3))) hZ (ww 48 rfl) (ww 3 rfl) (by decide) (by decide)) (g := (mkF m 25 #[rv a0, iv (0 : Int32), iv p2, iv v3] [(.int v3), (.int v12), (.int (0 : Int32)), (.ref a0)])) rfl (by rw [hml]; rfl) (Steps.refl _) (a := a0) (by rw [e11]; exact qp_13) qp_13' (argsL := [(.int (0 : Int32)), (.int v12), (.int v3)]) (rest := []) (lenOf own_pd1 rfl) rfl (by show 2 * 0 + _ ≤ _; exact Nat.le_of_eq rfl) (hb hby own_d4_25) (fun _ _ => ⟨rfl, e11, (by decide : 0 + 0 ≤ _), (by decide : 0 + 0 ≤ _)⟩)
  dsimp only [Pt.U, Pt.locs, Pt.cells, Pt.slots] at X13 l13 y13 z13 st13 hQ13
  subst l13 y13 z13
  obtain ⟨rfl, N13q, Kq13, FP13_0, FP13_1⟩ := hQ13
  have N13 := Fr.app N4 N13q
  have K13 : Keep h0 T13.heap [a0, at_, as_, d0, q0] := K4.trans Kq13 (allS (Or.inl (List.mem_of_getElem? (i := 3) rfl)) (allS (Or.inl (List.mem_of_getElem? (i := 4) rfl)) all0))
  have F14 : Exa Z T13.heap a0 "com/example/sieveline/sieveline/model/CurrentDomains" := FP4_0.keep Kq13
  have F15 : ownAI Z T13.heap as_ .int 2 gs := F6.keep Kq13 (ninS hn13 (ninS hn14 nin0))
  have F16 : ownAR Z T13.heap ad kd 2 (ownUpd (ownUpd (fun _ => Value.null) 0 (.ref d0)) 1 (.ref d1)) := F7.keep Kq13 (ninS hn16 (ninS hn17 nin0))
  have F17 : ownAR Z T13.heap ap kp 2 (ownUpd (ownUpd (fun _ => Value.null) 0 (.ref q0)) 1 (.ref q1)) := F8.keep Kq13 (ninS hn18 (ninS hn19 nin0))
  have F18 : Fld Z T13.heap a0 "com/example/sieveline/sieveline/model/CurrentDomains" "trail" "[I" (.ref at_) := FP4_1.keep Kq13 (ninS hn4 (ninS hn5 nin0))
  have F19 : Fld Z T13.heap a0 "com/example/sieveline/sieveline/model/CurrentDomains" "size" "[I" (.ref as_) := FP4_2.keep Kq13 (ninS hn4 (ninS hn5 nin0))
  have F20 : Fld Z T13.heap a0 "com/example/sieveline/sieveline/model/CurrentDomains" "dense" "[[I" (.ref ad) := FP4_3.keep Kq13 (ninS hn4 (ninS hn5 nin0))
  have F21 : Fld Z T13.heap a0 "com/example/sieveline/sieveline/model/CurrentDomains" "position" "[[I" (.ref ap) := FP4_4.keep Kq13 (ninS hn4 (ninS hn5 nin0))
  have F22 : Fld Z T13.heap a0 "com/example/sieveline/sieveline/model/CurrentDomains" "top" "I" (.int (4 : Int32)) := FP4_5.keep Kq13 (ninS hn4 (ninS hn5 nin0))
  have F23 : ownAI Z T13.heap at_ .int 64 (ownUpd (ownUpd gt 2 (0 : Int32)) 3 (gs 0)) := FP4_6.keep Kq13 (ninS hn9 (ninS hn10 nin0))
  refine ownRun (T' := T13) (f' := (mkF m 28 #[rv a0, iv (0 : Int32), iv p2, iv v3] [])) st13 ?_
  refine ow_aloadN (q := 29) X13 hx (hb hby own_d4_28) rfl rfl rfl ?_
  obtain ⟨T24, X24, e24, st24⟩ := getF X13 hx hZ hown (host := "") (Or.inl (ww 22 rfl)) Via.refl rfl F19 (g := (mkF m 29 #[rv a0, iv (0 : Int32), iv p2, iv v3] [(.ref a0)])) rfl rfl (hb hby own_d4_29)
  refine ownGo (T' := T24) (f' := (mkF m 32 #[rv a0, iv (0 : Int32), iv p2, iv v3] [(.ref as_)])) (st24) ?_
  refine ow_iloadN (q := 33) X24 hx (hb hby own_d4_32) rfl rfl ?_
  refine ow_iloadN (q := 34) X24 hx (hb hby own_d4_33) rfl rfl ?_
  obtain ⟨T25, h25, X25, e25, W25, F25s, st25⟩ := ownIastore F15 X24 hx hZ e24 (j := (0 : Int32)) (by unfold ownIn; decide) (g := (mkF m 34 #[rv a0, iv (0 : Int32), iv p2, iv v3] [(.int v3), (.int (0 : Int32)), (.ref as_)])) rfl rfl (hb hby own_d4_34)
  have F25r : ownAI Z h25 as_ .int 2 (ownUpd gs 0 v3) := F25s
  have N25 := Fr.snoc X25 N13 G_as_
  have K25 : Keep h0 h25 [a0, at_, as_, d0, q0] := K13.wr W25 (Or.inl (List.mem_of_getElem? (i := 2) rfl))
  have F26 : Exa Z h25 a0 "com/example/sieveline/sieveline/model/CurrentDomains" := F14.wr W25
  have F27 : ownAR Z h25 ad kd 2 (ownUpd (ownUpd (fun _ => Value.null) 0 (.ref d0)) 1 (.ref d1)) := F16.other W25 (Ne.symm hn11)
  have F28 : ownAR Z h25 ap kp 2 (ownUpd (ownUpd (fun _ => Value.null) 0 (.ref q0)) 1 (.ref q1)) := F17.other W25 (Ne.symm hn12)
  have F29 : Fld Z h25 a0 "com/example/sieveline/sieveline/model/CurrentDomains" "trail" "[I" (.ref at_) := F18.other W25 (Or.inl hn1)
  have F30 : Fld Z h25 a0 "com/example/sieveline/sieveline/model/CurrentDomains" "size" "[I" (.ref as_) := F19.other W25 (Or.inl hn1)
  have F31 : Fld Z h25 a0 "com/example/sieveline/sieveline/model/CurrentDomains" "dense" "[[I" (.ref ad) := F20.other W25 (Or.inl hn1)
  have F32 : Fld Z h25 a0 "com/example/sieveline/sieveline/model/CurrentDomains" "position" "[[I" (.ref ap) := F21.other W25 (Or.inl hn1)
  have F33 : Fld Z h25 a0 "com/example/sieveline/sieveline/model/CurrentDomains" "top" "I" (.int (4 : Int32)) := F22.other W25 (Or.inl hn1)
  have F34 : ownAI Z h25 at_ .int 64 (ownUpd (ownUpd gt 2 (0 : Int32)) 3 (gs 0)) := F23.other W25 hn6
  have F35 : ownAI Z h25 d0 .int N (own_swD gd v12 v3) := FP13_0.other W25 (Ne.symm hn13)
  have F36 : ownAI Z h25 q0 .int N (own_swQ gd gq v12 v3) := FP13_1.other W25 (Ne.symm hn14)
  refine ownGo (T' := T25) (f' := (mkF m 35 #[rv a0, iv (0 : Int32), iv p2, iv v3] [])) (st25) ?_
  refine ownRetV X25 hx Bd.returns (hb hby own_d4_35) hlk (by decide) (by decide) ?_
  subst hv_v12 hv_v3 hv_v2
  rw [e25]
  exact ⟨rfl, N25, K25, F26, F29, F30, F31, F32, F33, F34, F25r, F35, F36⟩
theorem own_ef6_swap_1 (m : MethodId) (a0 : Addr) (p2 : Int32) (p3 : Int32) : entryFrame m #[(.ref a0), (.int (1 : Int32)), (.int p2), (.int p3)] 7 = mkF m 0 #[rv a0, iv (1 : Int32), iv p2, iv p3, .unset, .unset, .unset] [] := by first | (simp [entryFrame, mkF, argsToLocals, Value.category]; done) | rfl
def Q_swap_1 (Z : State) (a0 : Addr) (p2 : Int32) (p3 : Int32) (ad : Addr) (ap : Addr) (d0 : Addr) (q0 : Addr) (d1 : Addr) (q1 : Addr) (kd : ClassId) (kp : ClassId) (N : Nat) (gd : Nat → Int32) (gq : Nat → Int32) (h0 : Heap) (n0 : Nat) (v : Option Value) (h : Heap) (L : List Loc) : Prop := v = none ∧ Fr n0 L ∧ Keep h0 h [d1, q1] ∧ ownAI Z h d1 .int N (own_swD gd p2 p3) ∧ ownAI Z h q1 .int N (own_swQ gd gq p2 p3)
set_option maxRecDepth 65536 in
set_option maxHeartbeats 40000000 in
theorem rm_swap_1 (l : Launch) (Z : State) (av0 : Array Value) (hw : ∀ d ∈ tables_1, d.before av0 Z = true) (ws : List Jvm.Cond) (a0 : Addr) (p2 : Int32) (p3 : Int32) (ad : Addr) (ap : Addr) (d0 : Addr) (q0 : Addr) (d1 : Addr) (q1 : Addr) (kd : ClassId) (kp : ClassId) (N : Nat) (gd : Nat → Int32) (gq : Nat → Int32) (h0 : Heap) (n0 : Nat) (Z0 : n0 ≤ h0.size) (HF0 : Fld Z h0 a0 "com/example/sieveline/sieveline/model/CurrentDomains" "dense" "[[I" (.ref ad)) (HF1 : Fld Z h0 a0 "com/example/sieveline/sieveline/model/CurrentDomains" "position" "[[I" (.ref ap)) (HF2 : ownAR Z h0 ad kd 2 (ownUpd (ownUpd (fun _ => Value.null) 0 (.ref d0)) 1 (.ref d1))) (HF3 : ownAR Z h0 ap kp 2 (ownUpd (ownUpd (fun _ => Value.null) 0 (.ref q0)) 1 (.ref q1))) (HF4 : ownAI Z h0 d1 .int N gd) (HF5 : ownAI Z h0 q1 .int N gq) (G_d1 : n0 ≤ d1) (G_q1 : n0 ≤ q1) (hn0 : a0 ≠ d1) (hn1 : a0 ≠ q1) (hn2 : ad ≠ d1) (hn3 : ad ≠ q1) (hn4 : ap ≠ d1) (hn5 : ap ≠ q1) (hn6 : d1 ≠ q1) (hi2 : ownIn p2 N) (hi3 : ownIn p3 N) (hx2 : ownIn (gd p2.toNatClampNeg) N) (hx3 : ownIn (gd p3.toNatClampNeg) N) :
    MetFree l (⟨"com/example/sieveline/sieveline/model/CurrentDomains", "swap", "(III)V"⟩ : MethodName) (head1 (Jvm.Cond.code (⟨"com/example/sieveline/sieveline/model/CurrentDomains", "swap", "(III)V"⟩ : MethodName) prog_10_method_11_code 7 none :: ws) ({ frames := 0, cells := 0, slots := 0, locals := 0 } : Room)) (fun a U => a = #[(.ref a0), (.int (1 : Int32)), (.int p2), (.int p3)] ∧ Z.Warmed39 U.vm ∧ U.heap = h0) (fun _ _ _ _ _ => True) (fun _ U o U' => ∃ v L, o = .returned v ∧ (Q_swap_1 Z a0 p2 p3 ad ap d0 q0 d1 q1 kd kp N gd gq h0 n0) v U'.heap L ∧ FrameEnd U o U' L ({ frames := 0, cells := 0, slots := 0, locals := 0 } : Room).cells ({ frames := 0, cells := 0, slots := 0, locals := 0 } : Room).slots) := by
  refine MetFree.of_bodySF (plainFor_of_name own_pn_CurrentDomains) hisR ?_
  intro p e s m args below meth c s₁ Bd hml0 hP hK
  obtain ⟨rfl, hZ, hh⟩ := hP
  have hx := Bd.exec
  have hby := Bd.bytes
  have hml : c.maxLocals = 7 := hml0
  have hown : s.vm.findClass "com/example/sieveline/sieveline/model/CurrentDomains" = some m.cls := findClass_of_methodNamed Bd.named
  have hnm := (name_of_methodNamed Bd.named Bd.method).1
  have hlk : meth.locks = false := BodyLoose.notSynchronized Bd
  have X0 : Stand p l e ({ frames := 0, cells := 0, slots := 0, locals := 0 } : Room) s m #[(.ref a0), (.int (1 : Int32)), (.int p2), (.int p3)] below meth c s₁ [] 0 0 := Stand.of_body Bd
  have e0 : s₁.heap = h0 := by rw [← hh, Bd.state]; rfl
  have N0 := Fr.nil n0
  have K0 : Keep h0 h0 [d1, q1] := Keep.refl _ _
  have ww : ∀ (k : Nat) {d : Jvm.Cond}, tables_1[k]? = some d → d.before av0 Z = true := fun k d h => hw d (List.mem_of_getElem? h)
  show ownEnds p e below s (Q_swap_1 Z a0 p2 p3 ad ap d0 q0 d1 q1 kd kp N gd gq h0 n0) ({ frames := 0, cells := 0, slots := 0, locals := 0 } : Room).cells ({ frames := 0, cells := 0, slots := 0, locals := 0 } : Room).slots s₁ (entryFrame m #[(.ref a0), (.int (1 : Int32)), (.int p2), (.int p3)] 7)
  refine ownCast (own_ef6_swap_1 m a0 p2 p3) ?_
  refine ow_aloadN (q := 1) X0 hx (hb hby own_d6_0) rfl rfl rfl ?_
  obtain ⟨T1, X1, e1, st1⟩ := getF X0 hx hZ hown (host := "") (Or.inl (ww 25 rfl)) Via.refl e0 HF0 (g := (mkF m 1 #[rv a0, iv (1 : Int32), iv p2, iv p3, .unset, .unset, .unset] [(.ref a0)])) rfl rfl (hb hby own_d6_1)
  refine ownGo (T' := T1) (f' := (mkF m 4 #[rv a0, iv (1 : Int32), iv p2, iv p3, .unset, .unset, .unset] [(.ref ad)])) (st1) ?_
  refine ow_iloadN (q := 5) X1 hx (hb hby own_d6_4) rfl rfl ?_
  refine ownGo (T' := T1) (f' := (mkF m 6 #[rv a0, iv (1 : Int32), iv p2, iv p3, .unset, .unset, .unset] [(.ref d1)])) (ownAaload HF2 X1 hx hZ e1 (j := (1 : Int32)) (by unfold ownIn; decide) (g := (mkF m 5 #[rv a0, iv (1 : Int32), iv p2, iv p3, .unset, .unset, .unset] [(.int (1 : Int32)), (.ref ad)])) rfl rfl (hb hby own_d6_5)) ?_
  refine ow_astore (q := 8) X1 hx (L' := #[rv a0, iv (1 : Int32), iv p2, iv p3, rv d1, .unset, .unset]) (hb hby own_d6_6) rfl rfl rfl ?_
  refine ow_aload (q := 10) X1 hx (hb hby own_d6_8) rfl rfl rfl ?_
  refine ow_iloadN (q := 11) X1 hx (hb hby own_d6_10) rfl rfl ?_
  refine ownGo (T' := T1) (f' := (mkF m 12 #[rv a0, iv (1 : Int32), iv p2, iv p3, rv d1, .unset, .unset] [(.int (gd p2.toNatClampNeg))])) (ownIaload HF4 X1 hx hZ e1 (j := p2) hi2 (g := (mkF m 11 #[rv a0, iv (1 : Int32), iv p2, iv p3, rv d1, .unset, .unset] [(.int p2), (.ref d1)])) rfl rfl (hb hby own_d6_11)) ?_
  generalize hv_v2 : (gd p2.toNatClampNeg) = v2
  refine ow_istore (q := 14) X1 hx (L' := #[rv a0, iv (1 : Int32), iv p2, iv p3, rv d1, iv v2, .unset]) (hb hby own_d6_12) rfl rfl ?_
  refine ow_aload (q := 16) X1 hx (hb hby own_d6_14) rfl rfl rfl ?_
  refine ow_iloadN (q := 17) X1 hx (hb hby own_d6_16) rfl rfl ?_
  refine ownGo (T' := T1) (f' := (mkF m 18 #[rv a0, iv (1 : Int32), iv p2, iv p3, rv d1, iv v2, .unset] [(.int (gd p3.toNatClampNeg))])) (ownIaload HF4 X1 hx hZ e1 (j := p3) hi3 (g := (mkF m 17 #[rv a0, iv (1 : Int32), iv p2, iv p3, rv d1, iv v2, .unset] [(.int p3), (.ref d1)])) rfl rfl (hb hby own_d6_17)) ?_
  generalize hv_v3 : (gd p3.toNatClampNeg) = v3
  refine ow_istore (q := 20) X1 hx (L' := #[rv a0, iv (1 : Int32), iv p2, iv p3, rv d1, iv v2, iv v3]) (hb hby own_d6_18) rfl rfl ?_
  refine ow_aload (q := 22) X1 hx (hb hby own_d6_20) rfl rfl rfl ?_
  refine ow_iloadN (q := 23) X1 hx (hb hby own_d6_22) rfl rfl ?_
  refine ow_iload (q := 25) X1 hx (hb hby own_d6_23) rfl rfl ?_
  obtain ⟨T4, h4, X4, e4, W4, F4s, st4⟩ := ownIastore HF4 X1 hx hZ e1 (j := p2) hi2 (g := (mkF m 25 #[rv a0, iv (1 : Int32), iv p2, iv p3, rv d1, iv v2, iv v3] [(.int v3), (.int p2), (.ref d1)])) rfl rfl (hb hby own_d6_25)
  generalize hg_gf4 : (ownUpd gd p2.toNatClampNeg v3) = gf4 at F4s
  have N4 := Fr.snoc X4 N0 G_d1
  have K4 : Keep h0 h4 [d1, q1] := K0.wr W4 (Or.inl (List.mem_of_getElem? (i := 0) rfl))
  have F5 : Fld Z h4 a0 "com/example/sieveline/sieveline/model/CurrentDomains" "dense" "[[I" (.ref ad) := HF0.other W4 (Or.inl hn0)
  have F6 : Fld Z h4 a0 "com/example/sieveline/sieveline/model/CurrentDomains" "position" "[[I" (.ref ap) := HF1.other W4 (Or.inl hn0)
  have F7 : ownAR Z h4 ad kd 2 (ownUpd (ownUpd (fun _ => Value.null) 0 (.ref d0)) 1 (.ref d1)) := HF2.other W4 hn2
  have F8 : ownAR Z h4 ap kp 2 (ownUpd (ownUpd (fun _ => Value.null) 0 (.ref q0)) 1 (.ref q1)) := HF3.other W4 hn4
  have F9 : ownAI Z h4 q1 .int N gq := HF5.other W4 (Ne.symm hn6)
  refine ownGo (T' := T4) (f' := (mkF m 26 #[rv a0, iv (1 : Int32), iv p2, iv p3, rv d1, iv v2, iv v3] [])) (st4) ?_
  refine ow_aload (q := 28) X4 hx (hb hby own_d6_26) rfl rfl rfl ?_
  refine ow_iloadN (q := 29) X4 hx (hb hby own_d6_28) rfl rfl ?_
  refine ow_iload (q := 31) X4 hx (hb hby own_d6_29) rfl rfl ?_
  obtain ⟨T10, h10, X10, e10, W10, F10s, st10⟩ := ownIastore F4s X4 hx hZ e4 (j := p3) hi3 (g := (mkF m 31 #[rv a0, iv (1 : Int32), iv p2, iv p3, rv d1, iv v2, iv v3] [(.int v2), (.int p3), (.ref d1)])) rfl rfl (hb hby own_d6_31)
  generalize hg_gf10 : (ownUpd gf4 p3.toNatClampNeg v2) = gf10 at F10s
  have N10 := Fr.snoc X10 N4 G_d1
  have K10 : Keep h0 h10 [d1, q1] := K4.wr W10 (Or.inl (List.mem_of_getElem? (i := 0) rfl))
  have F11 : Fld Z h10 a0 "com/example/sieveline/sieveline/model/CurrentDomains" "dense" "[[I" (.ref ad) := F5.other W10 (Or.inl hn0)
  have F12 : Fld Z h10 a0 "com/example/sieveline/sieveline/model/CurrentDomains" "position" "[[I" (.ref ap) := F6.other W10 (Or.inl hn0)
  have F13 : ownAR Z h10 ad kd 2 (ownUpd (ownUpd (fun _ => Value.null) 0 (.ref d0)) 1 (.ref d1)) := F7.other W10 hn2
  have F14 : ownAR Z h10 ap kp 2 (ownUpd (ownUpd (fun _ => Value.null) 0 (.ref q0)) 1 (.ref q1)) := F8.other W10 hn4
  have F15 : ownAI Z h10 q1 .int N gq := F9.other W10 (Ne.symm hn6)
  refine ownGo (T' := T10) (f' := (mkF m 32 #[rv a0, iv (1 : Int32), iv p2, iv p3, rv d1, iv v2, iv v3] [])) (st10) ?_
  refine ow_aloadN (q := 33) X10 hx (hb hby own_d6_32) rfl rfl rfl ?_
  obtain ⟨T16, X16, e16, st16⟩ := getF X10 hx hZ hown (host := "") (Or.inl (ww 27 rfl)) Via.refl e10 F12 (g := (mkF m 33 #[rv a0, iv (1 : Int32), iv p2, iv p3, rv d1, iv v2, iv v3] [(.ref a0)])) rfl rfl (hb hby own_d6_33)
  refine ownGo (T' := T16) (f' := (mkF m 36 #[rv a0, iv (1 : Int32), iv p2, iv p3, rv d1, iv v2, iv v3] [(.ref ap)])) (st16) ?_
  refine ow_iloadN (q := 37) X16 hx (hb hby own_d6_36) rfl rfl ?_
  refine ownGo (T' := T16) (f' := (mkF m 38 #[rv a0, iv (1 : Int32), iv p2, iv p3, rv d1, iv v2, iv v3] [(.ref q1)])) (ownAaload F14 X16 hx hZ e16 (j := (1 : Int32)) (by unfold ownIn; decide) (g := (mkF m 37 #[rv a0, iv (1 : Int32), iv p2, iv p3, rv d1, iv v2, iv v3] [(.int (1 : Int32)), (.ref ap)])) rfl rfl (hb hby own_d6_37)) ?_
  refine ow_iload (q := 40) X16 hx (hb hby own_d6_38) rfl rfl ?_
  refine ow_iloadN (q := 41) X16 hx (hb hby own_d6_40) rfl rfl ?_
  obtain ⟨T17, h17, X17, e17, W17, F17s, st17⟩ := ownIastore F15 X16 hx hZ e16 (j := v2) (by rw [← hv_v2]; exact hx2) (g := (mkF m 41 #[rv a0, iv (1 : Int32), iv p2, iv p3, rv d1, iv v2, iv v3] [(.int p3), (.int v2), (.ref q1)])) rfl rfl (hb hby own_d6_41)
  generalize hg_gf17 : (ownUpd gq v2.toNatClampNeg p3) = gf17 at F17s
  have N17 := Fr.snoc X17 N10 G_q1
  have K17 : Keep h0 h17 [d1, q1] := K10.wr W17 (Or.inl (List.mem_of_getElem? (i := 1) rfl))
  have F18 : Fld Z h17 a0 "com/example/sieveline/sieveline/model/CurrentDomains" "dense" "[[I" (.ref ad) := F11.other W17 (Or.inl hn1)
  have F19 : Fld Z h17 a0 "com/example/sieveline/sieveline/model/CurrentDomains" "position" "[[I" (.ref ap) := F12.other W17 (Or.inl hn1)
  have F20 : ownAR Z h17 ad kd 2 (ownUpd (ownUpd (fun _ => Value.null) 0 (.ref d0)) 1 (.ref d1)) := F13.other W17 hn3
  have F21 : ownAR Z h17 ap kp 2 (ownUpd (ownUpd (fun _ => Value.null) 0 (.ref q0)) 1 (.ref q1)) := F14.other W17 hn5
  have F22 : ownAI Z h17 d1 .int N gf10 := F10s.other W17 hn6
  refine ownGo (T' := T17) (f' := (mkF m 42 #[rv a0, iv (1 : Int32), iv p2, iv p3, rv d1, iv v2, iv v3] [])) (st17) ?_
  refine ow_aloadN (q := 43) X17 hx (hb hby own_d6_42) rfl rfl rfl ?_
  obtain ⟨T23, X23, e23, st23⟩ := getF X17 hx hZ hown (host := "") (Or.inl (ww 27 rfl)) Via.refl e17 F19 (g := (mkF m 43 #[rv a0, iv (1 : Int32), iv p2, iv p3, rv d1, iv v2, iv v3] [(.ref a0)])) rfl rfl (hb hby own_d6_43)
  refine ownGo (T' := T23) (f' := (mkF m 46 #[rv a0, iv (1 : Int32), iv p2, iv p3, rv d1, iv v2, iv v3] [(.ref ap)])) (st23) ?_
  refine ow_iloadN (q := 47) X23 hx (hb hby own_d6_46) rfl rfl ?_
  refine ownGo (T' := T23) (f' := (mkF m 48 #[rv a0, iv (1 : Int32), iv p2, iv p3, rv d1, iv v2, iv v3] [(.ref q1)])) (ownAaload F21 X23 hx hZ e23 (j := (1 : Int32)) (by unfold ownIn; decide) (g := (mkF m 47 #[rv a0, iv (1 : Int32), iv p2, iv p3, rv d1, iv v2, iv v3] [(.int (1 : Int32)), (.ref ap)])) rfl rfl (hb hby own_d6_47)) ?_
  refine ow_iload (q := 50) X23 hx (hb hby own_d6_48) rfl rfl ?_
  refine ow_iloadN (q := 51) X23 hx (hb hby own_d6_50) rfl rfl ?_
  obtain ⟨T24, h24, X24, e24, W24, F24s, st24⟩ := ownIastore F17s X23 hx hZ e23 (j := v3) (by rw [← hv_v3]; exact hx3) (g := (mkF m 51 #[rv a0, iv (1 : Int32), iv p2, iv p3, rv d1, iv v2, iv v3] [(.int p2), (.int v3), (.ref q1)])) rfl rfl (hb hby own_d6_51)
  generalize hg_gf24 : (ownUpd gf17 v3.toNatClampNeg p2) = gf24 at F24s
  have N24 := Fr.snoc X24 N17 G_q1
  have K24 : Keep h0 h24 [d1, q1] := K17.wr W24 (Or.inl (List.mem_of_getElem? (i := 1) rfl))
  have F25 : Fld Z h24 a0 "com/example/sieveline/sieveline/model/CurrentDomains" "dense" "[[I" (.ref ad) := F18.other W24 (Or.inl hn1)
  have F26 : Fld Z h24 a0 "com/example/sieveline/sieveline/model/CurrentDomains" "position" "[[I" (.ref ap) := F19.other W24 (Or.inl hn1)
  have F27 : ownAR Z h24 ad kd 2 (ownUpd (ownUpd (fun _ => Value.null) 0 (.ref d0)) 1 (.ref d1)) := F20.other W24 hn3
  have F28 : ownAR Z h24 ap kp 2 (ownUpd (ownUpd (fun _ => Value.null) 0 (.ref q0)) 1 (.ref q1)) := F21.other W24 hn5
  have F29 : ownAI Z h24 d1 .int N gf10 := F22.other W24 hn6
  refine ownGo (T' := T24) (f' := (mkF m 52 #[rv a0, iv (1 : Int32), iv p2, iv p3, rv d1, iv v2, iv v3] [])) (st24) ?_
  refine ownRetV X24 hx Bd.returns (hb hby own_d6_52) hlk (by decide) (by decide) ?_
  subst hg_gf24 hg_gf17 hg_gf10 hg_gf4 hv_v3 hv_v2
  rw [e24]
  exact ⟨rfl, N24, K24, F29, F24s⟩
theorem own_ef4_remove_4_1 (m : MethodId) (a0 : Addr) (p2 : Int32) : entryFrame m #[(.ref a0), (.int (1 : Int32)), (.int p2)] 4 = mkF m 0 #[rv a0, iv (1 : Int32), iv p2, .unset] [] := by first | (simp [entryFrame, mkF, argsToLocals, Value.category]; done) | rfl
def Q_remove_4_1 (Z : State) (a0 : Addr) (p2 : Int32) (at_ : Addr) (as_ : Addr) (ad : Addr) (ap : Addr) (d0 : Addr) (q0 : Addr) (d1 : Addr) (q1 : Addr) (kd : ClassId) (kp : ClassId) (N : Nat) (gd : Nat → Int32) (gq : Nat → Int32) (gt : Nat → Int32) (gs : Nat → Int32) (h0 : Heap) (n0 : Nat) (v : Option Value) (h : Heap) (L : List Loc) : Prop := v = none ∧ Fr n0 L ∧ Keep h0 h [a0, at_, as_, d1, q1] ∧ Exa Z h a0 "com/example/sieveline/sieveline/model/CurrentDomains" ∧ Fld Z h a0 "com/example/sieveline/sieveline/model/CurrentDomains" "trail" "[I" (.ref at_) ∧ Fld Z h a0 "com/example/sieveline/sieveline/model/CurrentDomains" "size" "[I" (.ref as_) ∧ Fld Z h a0 "com/example/sieveline/sieveline/model/CurrentDomains" "dense" "[[I" (.ref ad) ∧ Fld Z h a0 "com/example/sieveline/sieveline/model/CurrentDomains" "position" "[[I" (.ref ap) ∧ Fld Z h a0 "com/example/sieveline/sieveline/model/CurrentDomains" "top" "I" (.int (6 : Int32)) ∧ ownAI Z h at_ .int 64 (ownUpd (ownUpd gt 4 (1 : Int32)) 5 (gs 1)) ∧ ownAI Z h as_ .int 2 (ownUpd gs 1 ((gs 1) - (1 : Int32))) ∧ ownAI Z h d1 .int N (own_swD gd (gq p2.toNatClampNeg) ((gs 1) - (1 : Int32))) ∧ ownAI Z h q1 .int N (own_swQ gd gq (gq p2.toNatClampNeg) ((gs 1) - (1 : Int32)))
set_option maxRecDepth 65536 in
set_option maxHeartbeats 40000000 in
theorem rm_remove_4_1 (l : Launch) (Z : State) (av0 : Array Value) (hw : ∀ d ∈ tables_1, d.before av0 Z = true) (ws : List Jvm.Cond) (a0 : Addr) (p2 : Int32) (at_ : Addr) (as_ : Addr) (ad : Addr) (ap : Addr) (d0 : Addr) (q0 : Addr) (d1 : Addr) (q1 : Addr) (kd : ClassId) (kp : ClassId) (N : Nat) (gd : Nat → Int32) (gq : Nat → Int32) (gt : Nat → Int32) (gs : Nat → Int32) (h0 : Heap) (n0 : Nat) (Z0 : n0 ≤ h0.size) (HF0 : Exa Z h0 a0 "com/example/sieveline/sieveline/model/CurrentDomains") (HF1 : Fld Z h0 a0 "com/example/sieveline/sieveline/model/CurrentDomains" "trail" "[I" (.ref at_)) (HF2 : Fld Z h0 a0 "com/example/sieveline/sieveline/model/CurrentDomains" "size" "[I" (.ref as_)) (HF3 : Fld Z h0 a0 "com/example/sieveline/sieveline/model/CurrentDomains" "dense" "[[I" (.ref ad)) (HF4 : Fld Z h0 a0 "com/example/sieveline/sieveline/model/CurrentDomains" "position" "[[I" (.ref ap)) (HF5 : Fld Z h0 a0 "com/example/sieveline/sieveline/model/CurrentDomains" "top" "I" (.int (4 : Int32))) (HF6 : ownAI Z h0 at_ .int 64 gt) (HF7 : ownAI Z h0 as_ .int 2 gs) (HF8 : ownAR Z h0 ad kd 2 (ownUpd (ownUpd (fun _ => Value.null) 0 (.ref d0)) 1 (.ref d1))) (HF9 : ownAR Z h0 ap kp 2 (ownUpd (ownUpd (fun _ => Value.null) 0 (.ref q0)) 1 (.ref q1))) (HF10 : ownAI Z h0 d1 .int N gd) (HF11 : ownAI Z h0 q1 .int N gq) (G_a0 : n0 ≤ a0) (G_at_ : n0 ≤ at_) (G_as_ : n0 ≤ as_) (G_d1 : n0 ≤ d1) (G_q1 : n0 ≤ q1) (hn0 : a0 ≠ at_) (hn1 : a0 ≠ as_) (hn2 : a0 ≠ ad) (hn3 : a0 ≠ ap) (hn4 : a0 ≠ d1) (hn5 : a0 ≠ q1) (hn6 : at_ ≠ as_) (hn7 : at_ ≠ ad) (hn8 : at_ ≠ ap) (hn9 : at_ ≠ d1) (hn10 : at_ ≠ q1) (hn11 : as_ ≠ ad) (hn12 : as_ ≠ ap) (hn13 : as_ ≠ d1) (hn14 : as_ ≠ q1) (hn15 : ad ≠ ap) (hn16 : ad ≠ d1) (hn17 : ad ≠ q1) (hn18 : ap ≠ d1) (hn19 : ap ≠ q1) (hn20 : d1 ≠ q1) (hv2 : ownIn p2 N) (rd : own_rg N gd) (rq : own_rg N gq) (hsz : 1 ≤ (gs 1).toInt ∧ (gs 1).toInt ≤ N) :
    MetFree l (⟨"com/example/sieveline/sieveline/model/CurrentDomains", "remove", "(II)V"⟩ : MethodName) (head1 (Jvm.Cond.code (⟨"com/example/sieveline/sieveline/model/CurrentDomains", "remove", "(II)V"⟩ : MethodName) prog_10_method_6_code 4 none :: ws) ({ frames := 1, cells := 0, slots := 0, locals := 18 } : Room)) (fun a U => a = #[(.ref a0), (.int (1 : Int32)), (.int p2)] ∧ Z.Warmed39 U.vm ∧ U.heap = h0) (fun _ _ _ _ _ => True) (fun _ U o U' => ∃ v L, o = .returned v ∧ (Q_remove_4_1 Z a0 p2 at_ as_ ad ap d0 q0 d1 q1 kd kp N gd gq gt gs h0 n0) v U'.heap L ∧ FrameEnd U o U' L ({ frames := 1, cells := 0, slots := 0, locals := 18 } : Room).cells ({ frames := 1, cells := 0, slots := 0, locals := 18 } : Room).slots) := by
  refine MetFree.of_bodySF (plainFor_of_name own_pn_CurrentDomains) hisR ?_
  intro p e s m args below meth c s₁ Bd hml0 hP hK
  obtain ⟨rfl, hZ, hh⟩ := hP
  have hx := Bd.exec
  have hby := Bd.bytes
  have hml : c.maxLocals = 4 := hml0
  have hown : s.vm.findClass "com/example/sieveline/sieveline/model/CurrentDomains" = some m.cls := findClass_of_methodNamed Bd.named
  have hnm := (name_of_methodNamed Bd.named Bd.method).1
  have hlk : meth.locks = false := BodyLoose.notSynchronized Bd
  have X0 : Stand p l e ({ frames := 1, cells := 0, slots := 0, locals := 18 } : Room) s m #[(.ref a0), (.int (1 : Int32)), (.int p2)] below meth c s₁ [] 0 0 := Stand.of_body Bd
  have e0 : s₁.heap = h0 := by rw [← hh, Bd.state]; rfl
  have N0 := Fr.nil n0
  have K0 : Keep h0 h0 [a0, at_, as_, d1, q1] := Keep.refl _ _
  have ww : ∀ (k : Nat) {d : Jvm.Cond}, tables_1[k]? = some d → d.before av0 Z = true := fun k d h => hw d (List.mem_of_getElem? h)
  show ownEnds p e below s (Q_remove_4_1 Z a0 p2 at_ as_ ad ap d0 q0 d1 q1 kd kp N gd gq gt gs h0 n0) ({ frames := 1, cells := 0, slots := 0, locals := 18 } : Room).cells ({ frames := 1, cells := 0, slots := 0, locals := 18 } : Room).slots s₁ (entryFrame m #[(.ref a0), (.int (1 : Int32)), (.int p2)] 4)
  refine ownCast (own_ef4_remove_4_1 m a0 p2) ?_
  refine ow_aloadN (q := 1) X0 hx (hb hby own_d4_0) rfl rfl rfl ?_
  obtain ⟨T1, X1, e1, st1⟩ := getF X0 hx hZ hown (host := "") (Or.inl (ww 22 rfl)) Via.refl e0 HF2 (g := (mkF m 1 #[rv a0, iv (1 : Int32), iv p2, .unset] [(.ref a0)])) rfl rfl (hb hby own_d4_1)
  refine ownGo (T' := T1) (f' := (mkF m 4 #[rv a0, iv (1 : Int32), iv p2, .unset] [(.ref as_)])) (st1) ?_
  refine ow_iloadN (q := 5) X1 hx (hb hby own_d4_4) rfl rfl ?_
  refine ownGo (T' := T1) (f' := (mkF m 6 #[rv a0, iv (1 : Int32), iv p2, .unset] [(.int (gs 1))])) (ownIaload HF7 X1 hx hZ e1 (j := (1 : Int32)) (by unfold ownIn; decide) (g := (mkF m 5 #[rv a0, iv (1 : Int32), iv p2, .unset] [(.int (1 : Int32)), (.ref as_)])) rfl rfl (hb hby own_d4_5)) ?_
  generalize hv_v2 : (gs 1) = v2
  refine ow_iconst (q := 7) X1 hx (1 : Int32) (hb hby own_d4_6) rfl rfl ?_
  refine ow_isub (q := 8) X1 hx _ (hb hby own_d4_7) rfl rfl ?_
  generalize hv_v3 : (v2 - (1 : Int32)) = v3
  refine ow_istoreN (q := 9) X1 hx (L' := #[rv a0, iv (1 : Int32), iv p2, iv v3]) (hb hby own_d4_8) rfl rfl ?_
  refine ow_aloadN (q := 10) X1 hx (hb hby own_d4_9) rfl rfl rfl ?_
  refine ow_iloadN (q := 11) X1 hx (hb hby own_d4_10) rfl rfl ?_
  obtain ⟨cq4, qp_4, qp_4'⟩ := HF0.cell
  obtain ⟨_, _, ⟨T4, L4, k4, n4⟩, -, X4, ⟨Lc4, hQ4, l4, y4, z4⟩, st4⟩ := X1.privateBack hx (y := (⟨"com/example/sieveline/sieveline/model/CurrentDomains", "record", "(I)V"⟩ : MethodName)) hown (mvT hZ (ww 41 rfl)) (mvT hZ (ww 42 rfl)) (Jvm.Kit.selects_private (y := (⟨"com/example/sieveline/sieveline/model/CurrentDomains", "record", "(I)V"⟩ : MethodName)) (by decide) (mvT hZ (ww 2 rfl)) (mvP hZ (ww 43 rfl)) (mvT hZ (ww 42 rfl))) (Cond.privateMethod_at (mvP hZ (ww 43 rfl) (args := #[]))) (mvT hZ (ww 44 rfl)) (by decide) (backOf (W := 0) (rm_record_4_1 l Z av0 hw [] a0 at_ as_ ad ap gt gs h0 n0 (Nat.le_trans Z0 K0.1) HF0 HF1 HF2 HF3 HF4 HF5 HF6 HF7 G_a0 G_at_ hn0 hn1 hn6) hZ (ww 44 rfl) (ww 3 rfl) (by decide) (by decide)) (g := (mkF m 11 #[rv a0, iv (1 : Int32), iv p2, iv v3] [(.int (1 : Int32)), (.ref a0)])) rfl (by rw [hml]; rfl) (Steps.refl _) (a := a0) (by rw [e1]; exact qp_4) qp_4' (argsL := [(.int (1 : Int32))]) (rest := []) (lenOf own_pd0 rfl) rfl (by show 2 * 0 + _ ≤ _; exact Nat.le_of_eq rfl) (hb hby own_d4_11) (fun _ _ => ⟨rfl, e1, (by decide : 0 + 0 ≤ _), (by decide : 0 + 0 ≤ _)⟩)
  dsimp only [Pt.U, Pt.locs, Pt.cells, Pt.slots] at X4 l4 y4 z4 st4 hQ4
  subst l4 y4 z4
  obtain ⟨rfl, N4q, Kq4, FP4_0, FP4_1, FP4_2, FP4_3, FP4_4, FP4_5, FP4_6⟩ := hQ4
  have N4 := Fr.app N0 N4q
  have K4 : Keep h0 T4.heap [a0, at_, as_, d1, q1] := K0.trans Kq4 (allS (Or.inl (List.mem_of_getElem? (i := 0) rfl)) (allS (Or.inl (List.mem_of_getElem? (i := 1) rfl)) all0))
  have F5 : Exa Z T4.heap a0 "com/example/sieveline/sieveline/model/CurrentDomains" := HF0.keep Kq4
  have F6 : ownAI Z T4.heap as_ .int 2 gs := HF7.keep Kq4 (ninS (Ne.symm hn1) (ninS (Ne.symm hn6) nin0))
  have F7 : ownAR Z T4.heap ad kd 2 (ownUpd (ownUpd (fun _ => Value.null) 0 (.ref d0)) 1 (.ref d1)) := HF8.keep Kq4 (ninS (Ne.symm hn2) (ninS (Ne.symm hn7) nin0))
  have F8 : ownAR Z T4.heap ap kp 2 (ownUpd (ownUpd (fun _ => Value.null) 0 (.ref q0)) 1 (.ref q1)) := HF9.keep Kq4 (ninS (Ne.symm hn3) (ninS (Ne.symm hn8) nin0))
  have F9 : ownAI Z T4.heap d1 .int N gd := HF10.keep Kq4 (ninS (Ne.symm hn4) (ninS (Ne.symm hn9) nin0))
  have F10 : ownAI Z T4.heap q1 .int N gq := HF11.keep Kq4 (ninS (Ne.symm hn5) (ninS (Ne.symm hn10) nin0))
  refine ownRun (T' := T4) (f' := (mkF m 14 #[rv a0, iv (1 : Int32), iv p2, iv v3] [])) st4 ?_
  refine ow_aloadN (q := 15) X4 hx (hb hby own_d4_14) rfl rfl rfl ?_
  refine ow_iloadN (q := 16) X4 hx (hb hby own_d4_15) rfl rfl ?_
  refine ow_aloadN (q := 17) X4 hx (hb hby own_d4_16) rfl rfl rfl ?_
  obtain ⟨T11, X11, e11, st11⟩ := getF X4 hx hZ hown (host := "") (Or.inl (ww 27 rfl)) Via.refl rfl FP4_4 (g := (mkF m 17 #[rv a0, iv (1 : Int32), iv p2, iv v3] [(.ref a0), (.int (1 : Int32)), (.ref a0)])) rfl rfl (hb hby own_d4_17)
  refine ownGo (T' := T11) (f' := (mkF m 20 #[rv a0, iv (1 : Int32), iv p2, iv v3] [(.ref ap), (.int (1 : Int32)), (.ref a0)])) (st11) ?_
  refine ow_iloadN (q := 21) X11 hx (hb hby own_d4_20) rfl rfl ?_
  refine ownGo (T' := T11) (f' := (mkF m 22 #[rv a0, iv (1 : Int32), iv p2, iv v3] [(.ref q1), (.int (1 : Int32)), (.ref a0)])) (ownAaload F8 X11 hx hZ e11 (j := (1 : Int32)) (by unfold ownIn; decide) (g := (mkF m 21 #[rv a0, iv (1 : Int32), iv p2, iv v3] [(.int (1 : Int32)), (.ref ap), (.int (1 : Int32)), (.ref a0)])) rfl rfl (hb hby own_d4_21)) ?_
  refine ow_iloadN (q := 23) X11 hx (hb hby own_d4_22) rfl rfl ?_
  refine ownGo (T' := T11) (f' := (mkF m 24 #[rv a0, iv (1 : Int32), iv p2, iv v3] [(.int (gq p2.toNatClampNeg)), (.int (1 : Int32)), (.ref a0)])) (ownIaload F10 X11 hx hZ e11 (j := p2) hv2 (g := (mkF m 23 #[rv a0, iv (1 : Int32), iv p2, iv v3] [(.int p2), (.ref q1), (.int (1 : Int32)), (.ref a0)])) rfl rfl (hb hby own_d4_23)) ?_
  generalize hv_v12 : (gq p2.toNatClampNeg) = v12
  refine ow_iloadN (q := 25) X11 hx (hb hby own_d4_24) rfl rfl ?_
  obtain ⟨cq13, qp_13, qp_13'⟩ := FP4_0.cell
  obtain ⟨_, _, ⟨T13, L13, k13, n13⟩, -, X13, ⟨Lc13, hQ13, l13, y13, z13⟩, st13⟩ := X11.privateBack hx (y := (⟨"com/example/sieveline/sieveline/model/CurrentDomains", "swap", "(III)V"⟩ : MethodName)) hown (mvT hZ (ww 45 rfl)) (mvT hZ (ww 46 rfl)) (Jvm.Kit.selects_private (y := (⟨"com/example/sieveline/sieveline/model/CurrentDomains", "swap", "(III)V"⟩ : MethodName)) (by decide) (mvT hZ (ww 2 rfl)) (mvP hZ (ww 47 rfl)) (mvT hZ (ww 46 rfl))) (Cond.privateMethod_at (mvP hZ (ww 47 rfl) (args := #[]))) (mvT hZ (ww 48 rfl)) (by decide) (backOf (W := 0) (rm_swap_1 l Z av0 hw [] a0 v12 v3 ad ap d0 q0 d1 q1 kd kp N gd gq T4.heap n0 (Nat.le_trans Z0 K4.1) FP4_3 FP4_4 F7 F8 F9 F10 G_d1 G_q1 hn4 hn5 hn16 hn17 hn18 hn19 hn20 (own_pos rq hv2 hv_v12) (own_last hsz hv_v2 hv_v3) (own_rgi rd (own_pos rq hv2 hv_v12)) (own_rgi rd (own_last hsz hv_v2 hv_v3))) hZ (ww 48 rfl) (ww 3 rfl) (by decide) (by decide)) (g := (mkF m 25 #[rv a0, iv (1 : Int32), iv p2, iv v3] [(.int v3), (.int v12), (.int (1 : Int32)), (.ref a0)])) rfl (by rw [hml]; rfl) (Steps.refl _) (a := a0) (by rw [e11]; exact qp_13) qp_13' (argsL := [(.int (1 : Int32)), (.int v12), (.int v3)]) (rest := []) (lenOf own_pd1 rfl) rfl (by show 2 * 0 + _ ≤ _; exact Nat.le_of_eq rfl) (hb hby own_d4_25) (fun _ _ => ⟨rfl, e11, (by decide : 0 + 0 ≤ _), (by decide : 0 + 0 ≤ _)⟩)
  dsimp only [Pt.U, Pt.locs, Pt.cells, Pt.slots] at X13 l13 y13 z13 st13 hQ13
  subst l13 y13 z13
  obtain ⟨rfl, N13q, Kq13, FP13_0, FP13_1⟩ := hQ13
  have N13 := Fr.app N4 N13q
  have K13 : Keep h0 T13.heap [a0, at_, as_, d1, q1] := K4.trans Kq13 (allS (Or.inl (List.mem_of_getElem? (i := 3) rfl)) (allS (Or.inl (List.mem_of_getElem? (i := 4) rfl)) all0))
  have F14 : Exa Z T13.heap a0 "com/example/sieveline/sieveline/model/CurrentDomains" := FP4_0.keep Kq13
  have F15 : ownAI Z T13.heap as_ .int 2 gs := F6.keep Kq13 (ninS hn13 (ninS hn14 nin0))
  have F16 : ownAR Z T13.heap ad kd 2 (ownUpd (ownUpd (fun _ => Value.null) 0 (.ref d0)) 1 (.ref d1)) := F7.keep Kq13 (ninS hn16 (ninS hn17 nin0))
  have F17 : ownAR Z T13.heap ap kp 2 (ownUpd (ownUpd (fun _ => Value.null) 0 (.ref q0)) 1 (.ref q1)) := F8.keep Kq13 (ninS hn18 (ninS hn19 nin0))
  have F18 : Fld Z T13.heap a0 "com/example/sieveline/sieveline/model/CurrentDomains" "trail" "[I" (.ref at_) := FP4_1.keep Kq13 (ninS hn4 (ninS hn5 nin0))
  have F19 : Fld Z T13.heap a0 "com/example/sieveline/sieveline/model/CurrentDomains" "size" "[I" (.ref as_) := FP4_2.keep Kq13 (ninS hn4 (ninS hn5 nin0))
  have F20 : Fld Z T13.heap a0 "com/example/sieveline/sieveline/model/CurrentDomains" "dense" "[[I" (.ref ad) := FP4_3.keep Kq13 (ninS hn4 (ninS hn5 nin0))
  have F21 : Fld Z T13.heap a0 "com/example/sieveline/sieveline/model/CurrentDomains" "position" "[[I" (.ref ap) := FP4_4.keep Kq13 (ninS hn4 (ninS hn5 nin0))
  have F22 : Fld Z T13.heap a0 "com/example/sieveline/sieveline/model/CurrentDomains" "top" "I" (.int (6 : Int32)) := FP4_5.keep Kq13 (ninS hn4 (ninS hn5 nin0))
  have F23 : ownAI Z T13.heap at_ .int 64 (ownUpd (ownUpd gt 4 (1 : Int32)) 5 (gs 1)) := FP4_6.keep Kq13 (ninS hn9 (ninS hn10 nin0))
  refine ownRun (T' := T13) (f' := (mkF m 28 #[rv a0, iv (1 : Int32), iv p2, iv v3] [])) st13 ?_
  refine ow_aloadN (q := 29) X13 hx (hb hby own_d4_28) rfl rfl rfl ?_
  obtain ⟨T24, X24, e24, st24⟩ := getF X13 hx hZ hown (host := "") (Or.inl (ww 22 rfl)) Via.refl rfl F19 (g := (mkF m 29 #[rv a0, iv (1 : Int32), iv p2, iv v3] [(.ref a0)])) rfl rfl (hb hby own_d4_29)
  refine ownGo (T' := T24) (f' := (mkF m 32 #[rv a0, iv (1 : Int32), iv p2, iv v3] [(.ref as_)])) (st24) ?_
  refine ow_iloadN (q := 33) X24 hx (hb hby own_d4_32) rfl rfl ?_
  refine ow_iloadN (q := 34) X24 hx (hb hby own_d4_33) rfl rfl ?_
  obtain ⟨T25, h25, X25, e25, W25, F25s, st25⟩ := ownIastore F15 X24 hx hZ e24 (j := (1 : Int32)) (by unfold ownIn; decide) (g := (mkF m 34 #[rv a0, iv (1 : Int32), iv p2, iv v3] [(.int v3), (.int (1 : Int32)), (.ref as_)])) rfl rfl (hb hby own_d4_34)
  have F25r : ownAI Z h25 as_ .int 2 (ownUpd gs 1 v3) := F25s
  have N25 := Fr.snoc X25 N13 G_as_
  have K25 : Keep h0 h25 [a0, at_, as_, d1, q1] := K13.wr W25 (Or.inl (List.mem_of_getElem? (i := 2) rfl))
  have F26 : Exa Z h25 a0 "com/example/sieveline/sieveline/model/CurrentDomains" := F14.wr W25
  have F27 : ownAR Z h25 ad kd 2 (ownUpd (ownUpd (fun _ => Value.null) 0 (.ref d0)) 1 (.ref d1)) := F16.other W25 (Ne.symm hn11)
  have F28 : ownAR Z h25 ap kp 2 (ownUpd (ownUpd (fun _ => Value.null) 0 (.ref q0)) 1 (.ref q1)) := F17.other W25 (Ne.symm hn12)
  have F29 : Fld Z h25 a0 "com/example/sieveline/sieveline/model/CurrentDomains" "trail" "[I" (.ref at_) := F18.other W25 (Or.inl hn1)
  have F30 : Fld Z h25 a0 "com/example/sieveline/sieveline/model/CurrentDomains" "size" "[I" (.ref as_) := F19.other W25 (Or.inl hn1)
  have F31 : Fld Z h25 a0 "com/example/sieveline/sieveline/model/CurrentDomains" "dense" "[[I" (.ref ad) := F20.other W25 (Or.inl hn1)
  have F32 : Fld Z h25 a0 "com/example/sieveline/sieveline/model/CurrentDomains" "position" "[[I" (.ref ap) := F21.other W25 (Or.inl hn1)
  have F33 : Fld Z h25 a0 "com/example/sieveline/sieveline/model/CurrentDomains" "top" "I" (.int (6 : Int32)) := F22.other W25 (Or.inl hn1)
  have F34 : ownAI Z h25 at_ .int 64 (ownUpd (ownUpd gt 4 (1 : Int32)) 5 (gs 1)) := F23.other W25 hn6
  have F35 : ownAI Z h25 d1 .int N (own_swD gd v12 v3) := FP13_0.other W25 (Ne.symm hn13)
  have F36 : ownAI Z h25 q1 .int N (own_swQ gd gq v12 v3) := FP13_1.other W25 (Ne.symm hn14)
  refine ownGo (T' := T25) (f' := (mkF m 35 #[rv a0, iv (1 : Int32), iv p2, iv v3] [])) (st25) ?_
  refine ownRetV X25 hx Bd.returns (hb hby own_d4_35) hlk (by decide) (by decide) ?_
  subst hv_v12 hv_v3 hv_v2
  rw [e25]
  exact ⟨rfl, N25, K25, F26, F29, F30, F31, F32, F33, F34, F25r, F35, F36⟩
theorem own_ef4_remove_6_1 (m : MethodId) (a0 : Addr) (p2 : Int32) : entryFrame m #[(.ref a0), (.int (1 : Int32)), (.int p2)] 4 = mkF m 0 #[rv a0, iv (1 : Int32), iv p2, .unset] [] := by first | (simp [entryFrame, mkF, argsToLocals, Value.category]; done) | rfl
def Q_remove_6_1 (Z : State) (a0 : Addr) (p2 : Int32) (at_ : Addr) (as_ : Addr) (ad : Addr) (ap : Addr) (d0 : Addr) (q0 : Addr) (d1 : Addr) (q1 : Addr) (kd : ClassId) (kp : ClassId) (N : Nat) (gd : Nat → Int32) (gq : Nat → Int32) (gt : Nat → Int32) (gs : Nat → Int32) (h0 : Heap) (n0 : Nat) (v : Option Value) (h : Heap) (L : List Loc) : Prop := v = none ∧ Fr n0 L ∧ Keep h0 h [a0, at_, as_, d1, q1] ∧ Exa Z h a0 "com/example/sieveline/sieveline/model/CurrentDomains" ∧ Fld Z h a0 "com/example/sieveline/sieveline/model/CurrentDomains" "trail" "[I" (.ref at_) ∧ Fld Z h a0 "com/example/sieveline/sieveline/model/CurrentDomains" "size" "[I" (.ref as_) ∧ Fld Z h a0 "com/example/sieveline/sieveline/model/CurrentDomains" "dense" "[[I" (.ref ad) ∧ Fld Z h a0 "com/example/sieveline/sieveline/model/CurrentDomains" "position" "[[I" (.ref ap) ∧ Fld Z h a0 "com/example/sieveline/sieveline/model/CurrentDomains" "top" "I" (.int (8 : Int32)) ∧ ownAI Z h at_ .int 64 (ownUpd (ownUpd gt 6 (1 : Int32)) 7 (gs 1)) ∧ ownAI Z h as_ .int 2 (ownUpd gs 1 ((gs 1) - (1 : Int32))) ∧ ownAI Z h d1 .int N (own_swD gd (gq p2.toNatClampNeg) ((gs 1) - (1 : Int32))) ∧ ownAI Z h q1 .int N (own_swQ gd gq (gq p2.toNatClampNeg) ((gs 1) - (1 : Int32)))
set_option maxRecDepth 65536 in
set_option maxHeartbeats 40000000 in
theorem rm_remove_6_1 (l : Launch) (Z : State) (av0 : Array Value) (hw : ∀ d ∈ tables_1, d.before av0 Z = true) (ws : List Jvm.Cond) (a0 : Addr) (p2 : Int32) (at_ : Addr) (as_ : Addr) (ad : Addr) (ap : Addr) (d0 : Addr) (q0 : Addr) (d1 : Addr) (q1 : Addr) (kd : ClassId) (kp : ClassId) (N : Nat) (gd : Nat → Int32) (gq : Nat → Int32) (gt : Nat → Int32) (gs : Nat → Int32) (h0 : Heap) (n0 : Nat) (Z0 : n0 ≤ h0.size) (HF0 : Exa Z h0 a0 "com/example/sieveline/sieveline/model/CurrentDomains") (HF1 : Fld Z h0 a0 "com/example/sieveline/sieveline/model/CurrentDomains" "trail" "[I" (.ref at_)) (HF2 : Fld Z h0 a0 "com/example/sieveline/sieveline/model/CurrentDomains" "size" "[I" (.ref as_)) (HF3 : Fld Z h0 a0 "com/example/sieveline/sieveline/model/CurrentDomains" "dense" "[[I" (.ref ad)) (HF4 : Fld Z h0 a0 "com/example/sieveline/sieveline/model/CurrentDomains" "position" "[[I" (.ref ap)) (HF5 : Fld Z h0 a0 "com/example/sieveline/sieveline/model/CurrentDomains" "top" "I" (.int (6 : Int32))) (HF6 : ownAI Z h0 at_ .int 64 gt) (HF7 : ownAI Z h0 as_ .int 2 gs) (HF8 : ownAR Z h0 ad kd 2 (ownUpd (ownUpd (fun _ => Value.null) 0 (.ref d0)) 1 (.ref d1))) (HF9 : ownAR Z h0 ap kp 2 (ownUpd (ownUpd (fun _ => Value.null) 0 (.ref q0)) 1 (.ref q1))) (HF10 : ownAI Z h0 d1 .int N gd) (HF11 : ownAI Z h0 q1 .int N gq) (G_a0 : n0 ≤ a0) (G_at_ : n0 ≤ at_) (G_as_ : n0 ≤ as_) (G_d1 : n0 ≤ d1) (G_q1 : n0 ≤ q1) (hn0 : a0 ≠ at_) (hn1 : a0 ≠ as_) (hn2 : a0 ≠ ad) (hn3 : a0 ≠ ap) (hn4 : a0 ≠ d1) (hn5 : a0 ≠ q1) (hn6 : at_ ≠ as_) (hn7 : at_ ≠ ad) (hn8 : at_ ≠ ap) (hn9 : at_ ≠ d1) (hn10 : at_ ≠ q1) (hn11 : as_ ≠ ad) (hn12 : as_ ≠ ap) (hn13 : as_ ≠ d1) (hn14 : as_ ≠ q1) (hn15 : ad ≠ ap) (hn16 : ad ≠ d1) (hn17 : ad ≠ q1) (hn18 : ap ≠ d1) (hn19 : ap ≠ q1) (hn20 : d1 ≠ q1) (hv2 : ownIn p2 N) (rd : own_rg N gd) (rq : own_rg N gq) (hsz : 1 ≤ (gs 1).toInt ∧ (gs 1).toInt ≤ N) :
    MetFree l (⟨"com/example/sieveline/sieveline/model/CurrentDomains", "remove", "(II)V"⟩ : MethodName) (head1 (Jvm.Cond.code (⟨"com/example/sieveline/sieveline/model/CurrentDomains", "remove", "(II)V"⟩ : MethodName) prog_10_method_6_code 4 none :: ws) ({ frames := 1, cells := 0, slots := 0, locals := 18 } : Room)) (fun a U => a = #[(.ref a0), (.int (1 : Int32)), (.int p2)] ∧ Z.Warmed39 U.vm ∧ U.heap = h0) (fun _ _ _ _ _ => True) (fun _ U o U' => ∃ v L, o = .returned v ∧ (Q_remove_6_1 Z a0 p2 at_ as_ ad ap d0 q0 d1 q1 kd kp N gd gq gt gs h0 n0) v U'.heap L ∧ FrameEnd U o U' L ({ frames := 1, cells := 0, slots := 0, locals := 18 } : Room).cells ({ frames := 1, cells := 0, slots := 0, locals := 18 } : Room).slots) := by
  refine MetFree.of_bodySF (plainFor_of_name own_pn_CurrentDomains) hisR ?_
  intro p e s m args below meth c s₁ Bd hml0 hP hK
  obtain ⟨rfl, hZ, hh⟩ := hP
  have hx := Bd.exec
  have hby := Bd.bytes
  have hml : c.maxLocals = 4 := hml0
  have hown : s.vm.findClass "com/example/sieveline/sieveline/model/CurrentDomains" = some m.cls := findClass_of_methodNamed Bd.named
  have hnm := (name_of_methodNamed Bd.named Bd.method).1
  have hlk : meth.locks = false := BodyLoose.notSynchronized Bd
  have X0 : Stand p l e ({ frames := 1, cells := 0, slots := 0, locals := 18 } : Room) s m #[(.ref a0), (.int (1 : Int32)), (.int p2)] below meth c s₁ [] 0 0 := Stand.of_body Bd
  have e0 : s₁.heap = h0 := by rw [← hh, Bd.state]; rfl
  have N0 := Fr.nil n0
  have K0 : Keep h0 h0 [a0, at_, as_, d1, q1] := Keep.refl _ _
  have ww : ∀ (k : Nat) {d : Jvm.Cond}, tables_1[k]? = some d → d.before av0 Z = true := fun k d h => hw d (List.mem_of_getElem? h)
  show ownEnds p e below s (Q_remove_6_1 Z a0 p2 at_ as_ ad ap d0 q0 d1 q1 kd kp N gd gq gt gs h0 n0) ({ frames := 1, cells := 0, slots := 0, locals := 18 } : Room).cells ({ frames := 1, cells := 0, slots := 0, locals := 18 } : Room).slots s₁ (entryFrame m #[(.ref a0), (.int (1 : Int32)), (.int p2)] 4)
  refine ownCast (own_ef4_remove_6_1 m a0 p2) ?_
  refine ow_aloadN (q := 1) X0 hx (hb hby own_d4_0) rfl rfl rfl ?_
  obtain ⟨T1, X1, e1, st1⟩ := getF X0 hx hZ hown (host := "") (Or.inl (ww 22 rfl)) Via.refl e0 HF2 (g := (mkF m 1 #[rv a0, iv (1 : Int32), iv p2, .unset] [(.ref a0)])) rfl rfl (hb hby own_d4_1)
  refine ownGo (T' := T1) (f' := (mkF m 4 #[rv a0, iv (1 : Int32), iv p2, .unset] [(.ref as_)])) (st1) ?_
  refine ow_iloadN (q := 5) X1 hx (hb hby own_d4_4) rfl rfl ?_
  refine ownGo (T' := T1) (f' := (mkF m 6 #[rv a0, iv (1 : Int32), iv p2, .unset] [(.int (gs 1))])) (ownIaload HF7 X1 hx hZ e1 (j := (1 : Int32)) (by unfold ownIn; decide) (g := (mkF m 5 #[rv a0, iv (1 : Int32), iv p2, .unset] [(.int (1 : Int32)), (.ref as_)])) rfl rfl (hb hby own_d4_5)) ?_
  generalize hv_v2 : (gs 1) = v2
  refine ow_iconst (q := 7) X1 hx (1 : Int32) (hb hby own_d4_6) rfl rfl ?_
  refine ow_isub (q := 8) X1 hx _ (hb hby own_d4_7) rfl rfl ?_
  generalize hv_v3 : (v2 - (1 : Int32)) = v3
  refine ow_istoreN (q := 9) X1 hx (L' := #[rv a0, iv (1 : Int32), iv p2, iv v3]) (hb hby own_d4_8) rfl rfl ?_
  refine ow_aloadN (q := 10) X1 hx (hb hby own_d4_9) rfl rfl rfl ?_
  refine ow_iloadN (q := 11) X1 hx (hb hby own_d4_10) rfl rfl ?_
  obtain ⟨cq4, qp_4, qp_4'⟩ := HF0.cell
  obtain ⟨_, _, ⟨T4, L4, k4, n4⟩, -, X4, ⟨Lc4, hQ4, l4, y4, z4⟩, st4⟩ := X1.privateBack hx (y := (⟨"com/example/sieveline/sieveline/model/CurrentDomains", "record", "(I)V"⟩ : MethodName)) hown (mvT hZ (ww 41 rfl)) (mvT hZ (ww 42 rfl)) (Jvm.Kit.selects_private (y := (⟨"com/example/sieveline/sieveline/model/CurrentDomains", "record", "(I)V"⟩ : MethodName)) (by decide) (mvT hZ (ww 2 rfl)) (mvP hZ (ww 43 rfl)) (mvT hZ (ww 42 rfl))) (Cond.privateMethod_at (mvP hZ (ww 43 rfl) (args := #[]))) (mvT hZ (ww 44 rfl)) (by decide) (backOf (W := 0) (rm_record_6_1 l Z av0 hw [] a0 at_ as_ ad ap gt gs h0 n0 (Nat.le_trans Z0 K0.1) HF0 HF1 HF2 HF3 HF4 HF5 HF6 HF7 G_a0 G_at_ hn0 hn1 hn6) hZ (ww 44 rfl) (ww 3 rfl) (by decide) (by decide)) (g := (mkF m 11 #[rv a0, iv (1 : Int32), iv p2, iv v3] [(.int (1 : Int32)), (.ref a0)])) rfl (by rw [hml]; rfl) (Steps.refl _) (a := a0) (by rw [e1]; exact qp_4) qp_4' (argsL := [(.int (1 : Int32))]) (rest := []) (lenOf own_pd0 rfl) rfl (by show 2 * 0 + _ ≤ _; exact Nat.le_of_eq rfl) (hb hby own_d4_11) (fun _ _ => ⟨rfl, e1, (by decide : 0 + 0 ≤ _), (by decide : 0 + 0 ≤ _)⟩)
  dsimp only [Pt.U, Pt.locs, Pt.cells, Pt.slots] at X4 l4 y4 z4 st4 hQ4
  subst l4 y4 z4
  obtain ⟨rfl, N4q, Kq4, FP4_0, FP4_1, FP4_2, FP4_3, FP4_4, FP4_5, FP4_6⟩ := hQ4
  have N4 := Fr.app N0 N4q
  have K4 : Keep h0 T4.heap [a0, at_, as_, d1, q1] := K0.trans Kq4 (allS (Or.inl (List.mem_of_getElem? (i := 0) rfl)) (allS (Or.inl (List.mem_of_getElem? (i := 1) rfl)) all0))
  have F5 : Exa Z T4.heap a0 "com/example/sieveline/sieveline/model/CurrentDomains" := HF0.keep Kq4
  have F6 : ownAI Z T4.heap as_ .int 2 gs := HF7.keep Kq4 (ninS (Ne.symm hn1) (ninS (Ne.symm hn6) nin0))
  have F7 : ownAR Z T4.heap ad kd 2 (ownUpd (ownUpd (fun _ => Value.null) 0 (.ref d0)) 1 (.ref d1)) := HF8.keep Kq4 (ninS (Ne.symm hn2) (ninS (Ne.symm hn7) nin0))
  have F8 : ownAR Z T4.heap ap kp 2 (ownUpd (ownUpd (fun _ => Value.null) 0 (.ref q0)) 1 (.ref q1)) := HF9.keep Kq4 (ninS (Ne.symm hn3) (ninS (Ne.symm hn8) nin0))
  have F9 : ownAI Z T4.heap d1 .int N gd := HF10.keep Kq4 (ninS (Ne.symm hn4) (ninS (Ne.symm hn9) nin0))
  have F10 : ownAI Z T4.heap q1 .int N gq := HF11.keep Kq4 (ninS (Ne.symm hn5) (ninS (Ne.symm hn10) nin0))
  refine ownRun (T' := T4) (f' := (mkF m 14 #[rv a0, iv (1 : Int32), iv p2, iv v3] [])) st4 ?_
  refine ow_aloadN (q := 15) X4 hx (hb hby own_d4_14) rfl rfl rfl ?_
  refine ow_iloadN (q := 16) X4 hx (hb hby own_d4_15) rfl rfl ?_
  refine ow_aloadN (q := 17) X4 hx (hb hby own_d4_16) rfl rfl rfl ?_
  obtain ⟨T11, X11, e11, st11⟩ := getF X4 hx hZ hown (host := "") (Or.inl (ww 27 rfl)) Via.refl rfl FP4_4 (g := (mkF m 17 #[rv a0, iv (1 : Int32), iv p2, iv v3] [(.ref a0), (.int (1 : Int32)), (.ref a0)])) rfl rfl (hb hby own_d4_17)
  refine ownGo (T' := T11) (f' := (mkF m 20 #[rv a0, iv (1 : Int32), iv p2, iv v3] [(.ref ap), (.int (1 : Int32)), (.ref a0)])) (st11) ?_
  refine ow_iloadN (q := 21) X11 hx (hb hby own_d4_20) rfl rfl ?_
  refine ownGo (T' := T11) (f' := (mkF m 22 #[rv a0, iv (1 : Int32), iv p2, iv v3] [(.ref q1), (.int (1 : Int32)), (.ref a0)])) (ownAaload F8 X11 hx hZ e11 (j := (1 : Int32)) (by unfold ownIn; decide) (g := (mkF m 21 #[rv a0, iv (1 : Int32), iv p2, iv v3] [(.int (1 : Int32)), (.ref ap), (.int (1 : Int32)), (.ref a0)])) rfl rfl (hb hby own_d4_21)) ?_
  refine ow_iloadN (q := 23) X11 hx (hb hby own_d4_22) rfl rfl ?_
  refine ownGo (T' := T11) (f' := (mkF m 24 #[rv a0, iv (1 : Int32), iv p2, iv v3] [(.int (gq p2.toNatClampNeg)), (.int (1 : Int32)), (.ref a0)])) (ownIaload F10 X11 hx hZ e11 (j := p2) hv2 (g := (mkF m 23 #[rv a0, iv (1 : Int32), iv p2, iv v3] [(.int p2), (.ref q1), (.int (1 : Int32)), (.ref a0)])) rfl rfl (hb hby own_d4_23)) ?_
  generalize hv_v12 : (gq p2.toNatClampNeg) = v12
  refine ow_iloadN (q := 25) X11 hx (hb hby own_d4_24) rfl rfl ?_
  obtain ⟨cq13, qp_13, qp_13'⟩ := FP4_0.cell
  obtain ⟨_, _, ⟨T13, L13, k13, n13⟩, -, X13, ⟨Lc13, hQ13, l13, y13, z13⟩, st13⟩ := X11.privateBack hx (y := (⟨"com/example/sieveline/sieveline/model/CurrentDomains", "swap", "(III)V"⟩ : MethodName)) hown (mvT hZ (ww 45 rfl)) (mvT hZ (ww 46 rfl)) (Jvm.Kit.selects_private (y := (⟨"com/example/sieveline/sieveline/model/CurrentDomains", "swap", "(III)V"⟩ : MethodName)) (by decide) (mvT hZ (ww 2 rfl)) (mvP hZ (ww 47 rfl)) (mvT hZ (ww 46 rfl))) (Cond.privateMethod_at (mvP hZ (ww 47 rfl) (args := #[]))) (mvT hZ (ww 48 rfl)) (by decide) (backOf (W := 0) (rm_swap_1 l Z av0 hw [] a0 v12 v3 ad ap d0 q0 d1 q1 kd kp N gd gq T4.heap n0 (Nat.le_trans Z0 K4.1) FP4_3 FP4_4 F7 F8 F9 F10 G_d1 G_q1 hn4 hn5 hn16 hn17 hn18 hn19 hn20 (own_pos rq hv2 hv_v12) (own_last hsz hv_v2 hv_v3) (own_rgi rd (own_pos rq hv2 hv_v12)) (own_rgi rd (own_last hsz hv_v2 hv_v3))) hZ (ww 48 rfl) (ww 3 rfl) (by decide) (by decide)) (g := (mkF m 25 #[rv a0, iv (1 : Int32), iv p2, iv v3] [(.int v3), (.int v12), (.int (1 : Int32)), (.ref a0)])) rfl (by rw [hml]; rfl) (Steps.refl _) (a := a0) (by rw [e11]; exact qp_13) qp_13' (argsL := [(.int (1 : Int32)), (.int v12), (.int v3)]) (rest := []) (lenOf own_pd1 rfl) rfl (by show 2 * 0 + _ ≤ _; exact Nat.le_of_eq rfl) (hb hby own_d4_25) (fun _ _ => ⟨rfl, e11, (by decide : 0 + 0 ≤ _), (by decide : 0 + 0 ≤ _)⟩)
  dsimp only [Pt.U, Pt.locs, Pt.cells, Pt.slots] at X13 l13 y13 z13 st13 hQ13
  subst l13 y13 z13
  obtain ⟨rfl, N13q, Kq13, FP13_0, FP13_1⟩ := hQ13
  have N13 := Fr.app N4 N13q
  have K13 : Keep h0 T13.heap [a0, at_, as_, d1, q1] := K4.trans Kq13 (allS (Or.inl (List.mem_of_getElem? (i := 3) rfl)) (allS (Or.inl (List.mem_of_getElem? (i := 4) rfl)) all0))
  have F14 : Exa Z T13.heap a0 "com/example/sieveline/sieveline/model/CurrentDomains" := FP4_0.keep Kq13
  have F15 : ownAI Z T13.heap as_ .int 2 gs := F6.keep Kq13 (ninS hn13 (ninS hn14 nin0))
  have F16 : ownAR Z T13.heap ad kd 2 (ownUpd (ownUpd (fun _ => Value.null) 0 (.ref d0)) 1 (.ref d1)) := F7.keep Kq13 (ninS hn16 (ninS hn17 nin0))
  have F17 : ownAR Z T13.heap ap kp 2 (ownUpd (ownUpd (fun _ => Value.null) 0 (.ref q0)) 1 (.ref q1)) := F8.keep Kq13 (ninS hn18 (ninS hn19 nin0))
  have F18 : Fld Z T13.heap a0 "com/example/sieveline/sieveline/model/CurrentDomains" "trail" "[I" (.ref at_) := FP4_1.keep Kq13 (ninS hn4 (ninS hn5 nin0))
  have F19 : Fld Z T13.heap a0 "com/example/sieveline/sieveline/model/CurrentDomains" "size" "[I" (.ref as_) := FP4_2.keep Kq13 (ninS hn4 (ninS hn5 nin0))
  have F20 : Fld Z T13.heap a0 "com/example/sieveline/sieveline/model/CurrentDomains" "dense" "[[I" (.ref ad) := FP4_3.keep Kq13 (ninS hn4 (ninS hn5 nin0))
  have F21 : Fld Z T13.heap a0 "com/example/sieveline/sieveline/model/CurrentDomains" "position" "[[I" (.ref ap) := FP4_4.keep Kq13 (ninS hn4 (ninS hn5 nin0))
  have F22 : Fld Z T13.heap a0 "com/example/sieveline/sieveline/model/CurrentDomains" "top" "I" (.int (8 : Int32)) := FP4_5.keep Kq13 (ninS hn4 (ninS hn5 nin0))
  have F23 : ownAI Z T13.heap at_ .int 64 (ownUpd (ownUpd gt 6 (1 : Int32)) 7 (gs 1)) := FP4_6.keep Kq13 (ninS hn9 (ninS hn10 nin0))
  refine ownRun (T' := T13) (f' := (mkF m 28 #[rv a0, iv (1 : Int32), iv p2, iv v3] [])) st13 ?_
  refine ow_aloadN (q := 29) X13 hx (hb hby own_d4_28) rfl rfl rfl ?_
  obtain ⟨T24, X24, e24, st24⟩ := getF X13 hx hZ hown (host := "") (Or.inl (ww 22 rfl)) Via.refl rfl F19 (g := (mkF m 29 #[rv a0, iv (1 : Int32), iv p2, iv v3] [(.ref a0)])) rfl rfl (hb hby own_d4_29)
  refine ownGo (T' := T24) (f' := (mkF m 32 #[rv a0, iv (1 : Int32), iv p2, iv v3] [(.ref as_)])) (st24) ?_
  refine ow_iloadN (q := 33) X24 hx (hb hby own_d4_32) rfl rfl ?_
  refine ow_iloadN (q := 34) X24 hx (hb hby own_d4_33) rfl rfl ?_
  obtain ⟨T25, h25, X25, e25, W25, F25s, st25⟩ := ownIastore F15 X24 hx hZ e24 (j := (1 : Int32)) (by unfold ownIn; decide) (g := (mkF m 34 #[rv a0, iv (1 : Int32), iv p2, iv v3] [(.int v3), (.int (1 : Int32)), (.ref as_)])) rfl rfl (hb hby own_d4_34)
  have F25r : ownAI Z h25 as_ .int 2 (ownUpd gs 1 v3) := F25s
  have N25 := Fr.snoc X25 N13 G_as_
  have K25 : Keep h0 h25 [a0, at_, as_, d1, q1] := K13.wr W25 (Or.inl (List.mem_of_getElem? (i := 2) rfl))
  have F26 : Exa Z h25 a0 "com/example/sieveline/sieveline/model/CurrentDomains" := F14.wr W25
  have F27 : ownAR Z h25 ad kd 2 (ownUpd (ownUpd (fun _ => Value.null) 0 (.ref d0)) 1 (.ref d1)) := F16.other W25 (Ne.symm hn11)
  have F28 : ownAR Z h25 ap kp 2 (ownUpd (ownUpd (fun _ => Value.null) 0 (.ref q0)) 1 (.ref q1)) := F17.other W25 (Ne.symm hn12)
  have F29 : Fld Z h25 a0 "com/example/sieveline/sieveline/model/CurrentDomains" "trail" "[I" (.ref at_) := F18.other W25 (Or.inl hn1)
  have F30 : Fld Z h25 a0 "com/example/sieveline/sieveline/model/CurrentDomains" "size" "[I" (.ref as_) := F19.other W25 (Or.inl hn1)
  have F31 : Fld Z h25 a0 "com/example/sieveline/sieveline/model/CurrentDomains" "dense" "[[I" (.ref ad) := F20.other W25 (Or.inl hn1)
  have F32 : Fld Z h25 a0 "com/example/sieveline/sieveline/model/CurrentDomains" "position" "[[I" (.ref ap) := F21.other W25 (Or.inl hn1)
  have F33 : Fld Z h25 a0 "com/example/sieveline/sieveline/model/CurrentDomains" "top" "I" (.int (8 : Int32)) := F22.other W25 (Or.inl hn1)
  have F34 : ownAI Z h25 at_ .int 64 (ownUpd (ownUpd gt 6 (1 : Int32)) 7 (gs 1)) := F23.other W25 hn6
  have F35 : ownAI Z h25 d1 .int N (own_swD gd v12 v3) := FP13_0.other W25 (Ne.symm hn13)
  have F36 : ownAI Z h25 q1 .int N (own_swQ gd gq v12 v3) := FP13_1.other W25 (Ne.symm hn14)
  refine ownGo (T' := T25) (f' := (mkF m 35 #[rv a0, iv (1 : Int32), iv p2, iv v3] [])) (st25) ?_
  refine ownRetV X25 hx Bd.returns (hb hby own_d4_35) hlk (by decide) (by decide) ?_
  subst hv_v12 hv_v3 hv_v2
  rw [e25]
  exact ⟨rfl, N25, K25, F26, F29, F30, F31, F32, F33, F34, F25r, F35, F36⟩
theorem own_d10_0 : decode prog_10_method_7_code 0 = .ok (.aload_n 0, 1) := by decide +kernel
theorem own_d10_1 : decode prog_10_method_7_code 1 = .ok (.iload_n 1, 1) := by decide +kernel
theorem own_d10_2 : decode prog_10_method_7_code 2 = .ok (.invokevirtual 28, 3) := by decide +kernel
theorem own_d10_5 : decode prog_10_method_7_code 5 = .ok (.aload_n 0, 1) := by decide +kernel
theorem own_d10_6 : decode prog_10_method_7_code 6 = .ok (.iload_n 1, 1) := by decide +kernel
theorem own_d10_7 : decode prog_10_method_7_code 7 = .ok (.aload_n 0, 1) := by decide +kernel
theorem own_d10_8 : decode prog_10_method_7_code 8 = .ok (.getfield 25, 3) := by decide +kernel
theorem own_d10_11 : decode prog_10_method_7_code 11 = .ok (.iload_n 1, 1) := by decide +kernel
theorem own_d10_12 : decode prog_10_method_7_code 12 = .ok (.aaload, 1) := by decide +kernel
theorem own_d10_13 : decode prog_10_method_7_code 13 = .ok (.iload_n 2, 1) := by decide +kernel
theorem own_d10_14 : decode prog_10_method_7_code 14 = .ok (.iaload, 1) := by decide +kernel
theorem own_d10_15 : decode prog_10_method_7_code 15 = .ok (.iconst 0, 1) := by decide +kernel
theorem own_d10_16 : decode prog_10_method_7_code 16 = .ok (.invokevirtual 32, 3) := by decide +kernel
theorem own_d10_19 : decode prog_10_method_7_code 19 = .ok (.aload_n 0, 1) := by decide +kernel
theorem own_d10_20 : decode prog_10_method_7_code 20 = .ok (.getfield 18, 3) := by decide +kernel
theorem own_d10_23 : decode prog_10_method_7_code 23 = .ok (.iload_n 1, 1) := by decide +kernel
theorem own_d10_24 : decode prog_10_method_7_code 24 = .ok (.iconst 1, 1) := by decide +kernel
theorem own_d10_25 : decode prog_10_method_7_code 25 = .ok (.iastore, 1) := by decide +kernel
theorem own_d10_26 : decode prog_10_method_7_code 26 = .ok (.return_, 1) := by decide +kernel
theorem own_ef10_reduceTo_2 (m : MethodId) (a0 : Addr) (p2 : Int32) : entryFrame m #[(.ref a0), (.int (1 : Int32)), (.int p2)] 3 = mkF m 0 #[rv a0, iv (1 : Int32), iv p2] [] := by first | (simp [entryFrame, mkF, argsToLocals, Value.category]; done) | rfl
def Q_reduceTo_2 (Z : State) (a0 : Addr) (p2 : Int32) (at_ : Addr) (as_ : Addr) (ad : Addr) (ap : Addr) (d0 : Addr) (q0 : Addr) (d1 : Addr) (q1 : Addr) (kd : ClassId) (kp : ClassId) (N : Nat) (gd : Nat → Int32) (gq : Nat → Int32) (gt : Nat → Int32) (gs : Nat → Int32) (h0 : Heap) (n0 : Nat) (v : Option Value) (h : Heap) (L : List Loc) : Prop := v = none ∧ Fr n0 L ∧ Keep h0 h [a0, at_, as_, d1, q1] ∧ Exa Z h a0 "com/example/sieveline/sieveline/model/CurrentDomains" ∧ Fld Z h a0 "com/example/sieveline/sieveline/model/CurrentDomains" "trail" "[I" (.ref at_) ∧ Fld Z h a0 "com/example/sieveline/sieveline/model/CurrentDomains" "size" "[I" (.ref as_) ∧ Fld Z h a0 "com/example/sieveline/sieveline/model/CurrentDomains" "dense" "[[I" (.ref ad) ∧ Fld Z h a0 "com/example/sieveline/sieveline/model/CurrentDomains" "position" "[[I" (.ref ap) ∧ Fld Z h a0 "com/example/sieveline/sieveline/model/CurrentDomains" "top" "I" (.int (4 : Int32)) ∧ ownAI Z h at_ .int 64 (ownUpd (ownUpd gt 2 (1 : Int32)) 3 (gs 1)) ∧ ownAI Z h as_ .int 2 (ownUpd gs 1 (1 : Int32)) ∧ ownAI Z h d1 .int N (own_swD gd (gq p2.toNatClampNeg) (0 : Int32)) ∧ ownAI Z h q1 .int N (own_swQ gd gq (gq p2.toNatClampNeg) (0 : Int32))
set_option maxRecDepth 65536 in
set_option maxHeartbeats 40000000 in
theorem rm_reduceTo_2 (l : Launch) (Z : State) (av0 : Array Value) (hw : ∀ d ∈ tables_1, d.before av0 Z = true) (ws : List Jvm.Cond) (a0 : Addr) (p2 : Int32) (at_ : Addr) (as_ : Addr) (ad : Addr) (ap : Addr) (d0 : Addr) (q0 : Addr) (d1 : Addr) (q1 : Addr) (kd : ClassId) (kp : ClassId) (N : Nat) (gd : Nat → Int32) (gq : Nat → Int32) (gt : Nat → Int32) (gs : Nat → Int32) (h0 : Heap) (n0 : Nat) (Z0 : n0 ≤ h0.size) (HF0 : Exa Z h0 a0 "com/example/sieveline/sieveline/model/CurrentDomains") (HF1 : Fld Z h0 a0 "com/example/sieveline/sieveline/model/CurrentDomains" "trail" "[I" (.ref at_)) (HF2 : Fld Z h0 a0 "com/example/sieveline/sieveline/model/CurrentDomains" "size" "[I" (.ref as_)) (HF3 : Fld Z h0 a0 "com/example/sieveline/sieveline/model/CurrentDomains" "dense" "[[I" (.ref ad)) (HF4 : Fld Z h0 a0 "com/example/sieveline/sieveline/model/CurrentDomains" "position" "[[I" (.ref ap)) (HF5 : Fld Z h0 a0 "com/example/sieveline/sieveline/model/CurrentDomains" "top" "I" (.int (2 : Int32))) (HF6 : ownAI Z h0 at_ .int 64 gt) (HF7 : ownAI Z h0 as_ .int 2 gs) (HF8 : ownAR Z h0 ad kd 2 (ownUpd (ownUpd (fun _ => Value.null) 0 (.ref d0)) 1 (.ref d1))) (HF9 : ownAR Z h0 ap kp 2 (ownUpd (ownUpd (fun _ => Value.null) 0 (.ref q0)) 1 (.ref q1))) (HF10 : ownAI Z h0 d1 .int N gd) (HF11 : ownAI Z h0 q1 .int N gq) (G_a0 : n0 ≤ a0) (G_at_ : n0 ≤ at_) (G_as_ : n0 ≤ as_) (G_d1 : n0 ≤ d1) (G_q1 : n0 ≤ q1) (hn0 : a0 ≠ at_) (hn1 : a0 ≠ as_) (hn2 : a0 ≠ ad) (hn3 : a0 ≠ ap) (hn4 : a0 ≠ d1) (hn5 : a0 ≠ q1) (hn6 : at_ ≠ as_) (hn7 : at_ ≠ ad) (hn8 : at_ ≠ ap) (hn9 : at_ ≠ d1) (hn10 : at_ ≠ q1) (hn11 : as_ ≠ ad) (hn12 : as_ ≠ ap) (hn13 : as_ ≠ d1) (hn14 : as_ ≠ q1) (hn15 : ad ≠ ap) (hn16 : ad ≠ d1) (hn17 : ad ≠ q1) (hn18 : ap ≠ d1) (hn19 : ap ≠ q1) (hn20 : d1 ≠ q1) (hv2 : ownIn p2 N) (rd : own_rg N gd) (rq : own_rg N gq) (hsz : 1 ≤ (gs 1).toInt ∧ (gs 1).toInt ≤ N) :
    MetFree l (⟨"com/example/sieveline/sieveline/model/CurrentDomains", "reduceTo", "(II)V"⟩ : MethodName) (head1 (Jvm.Cond.code (⟨"com/example/sieveline/sieveline/model/CurrentDomains", "reduceTo", "(II)V"⟩ : MethodName) prog_10_method_7_code 3 none :: ws) ({ frames := 1, cells := 0, slots := 0, locals := 18 } : Room)) (fun a U => a = #[(.ref a0), (.int (1 : Int32)), (.int p2)] ∧ Z.Warmed39 U.vm ∧ U.heap = h0) (fun _ _ _ _ _ => True) (fun _ U o U' => ∃ v L, o = .returned v ∧ (Q_reduceTo_2 Z a0 p2 at_ as_ ad ap d0 q0 d1 q1 kd kp N gd gq gt gs h0 n0) v U'.heap L ∧ FrameEnd U o U' L ({ frames := 1, cells := 0, slots := 0, locals := 18 } : Room).cells ({ frames := 1, cells := 0, slots := 0, locals := 18 } : Room).slots) := by
  refine MetFree.of_bodySF (plainFor_of_name own_pn_CurrentDomains) hisR ?_
  intro p e s m args below meth c s₁ Bd hml0 hP hK
  obtain ⟨rfl, hZ, hh⟩ := hP
  have hx := Bd.exec
  have hby := Bd.bytes
  have hml : c.maxLocals = 3 := hml0
  have hown : s.vm.findClass "com/example/sieveline/sieveline/model/CurrentDomains" = some m.cls := findClass_of_methodNamed Bd.named
  have hnm := (name_of_methodNamed Bd.named Bd.method).1
  have hlk : meth.locks = false := BodyLoose.notSynchronized Bd
  have X0 : Stand p l e ({ frames := 1, cells := 0, slots := 0, locals := 18 } : Room) s m #[(.ref a0), (.int (1 : Int32)), (.int p2)] below meth c s₁ [] 0 0 := Stand.of_body Bd
  have e0 : s₁.heap = h0 := by rw [← hh, Bd.state]; rfl
  have N0 := Fr.nil n0
  have K0 : Keep h0 h0 [a0, at_, as_, d1, q1] := Keep.refl _ _
  have ww : ∀ (k : Nat) {d : Jvm.Cond}, tables_1[k]? = some d → d.before av0 Z = true := fun k d h => hw d (List.mem_of_getElem? h)
  show ownEnds p e below s (Q_reduceTo_2 Z a0 p2 at_ as_ ad ap d0 q0 d1 q1 kd kp N gd gq gt gs h0 n0) ({ frames := 1, cells := 0, slots := 0, locals := 18 } : Room).cells ({ frames := 1, cells := 0, slots := 0, locals := 18 } : Room).slots s₁ (entryFrame m #[(.ref a0), (.int (1 : Int32)), (.int p2)] 3)
  refine ownCast (own_ef10_reduceTo_2 m a0 p2) ?_
  refine ow_aloadN (q := 1) X0 hx (hb hby own_d10_0) rfl rfl rfl ?_
  refine ow_iloadN (q := 2) X0 hx (hb hby own_d10_1) rfl rfl ?_
  obtain ⟨cq1, qp_1, qp_1'⟩ := HF0.cell
  obtain ⟨_, _, ⟨T1, L1, k1, n1⟩, -, X1, ⟨Lc1, hQ1, l1, y1, z1⟩, st1⟩ := X0.privateBack hx (y := (⟨"com/example/sieveline/sieveline/model/CurrentDomains", "record", "(I)V"⟩ : MethodName)) hown (mvT hZ (ww 41 rfl)) (mvT hZ (ww 42 rfl)) (Jvm.Kit.selects_private (y := (⟨"com/example/sieveline/sieveline/model/CurrentDomains", "record", "(I)V"⟩ : MethodName)) (by decide) (mvT hZ (ww 2 rfl)) (mvP hZ (ww 43 rfl)) (mvT hZ (ww 42 rfl))) (Cond.privateMethod_at (mvP hZ (ww 43 rfl) (args := #[]))) (mvT hZ (ww 44 rfl)) (by decide) (backOf (W := 0) (rm_record_2_1 l Z av0 hw [] a0 at_ as_ ad ap gt gs h0 n0 (Nat.le_trans Z0 K0.1) HF0 HF1 HF2 HF3 HF4 HF5 HF6 HF7 G_a0 G_at_ hn0 hn1 hn6) hZ (ww 44 rfl) (ww 3 rfl) (by decide) (by decide)) (g := (mkF m 2 #[rv a0, iv (1 : Int32), iv p2] [(.int (1 : Int32)), (.ref a0)])) rfl (by rw [hml]; rfl) (Steps.refl _) (a := a0) (by rw [e0]; exact qp_1) qp_1' (argsL := [(.int (1 : Int32))]) (rest := []) (lenOf own_pd0 rfl) rfl (by show 2 * 0 + _ ≤ _; exact Nat.le_of_eq rfl) (hb hby own_d10_2) (fun _ _ => ⟨rfl, e0, (by decide : 0 + 0 ≤ _), (by decide : 0 + 0 ≤ _)⟩)
  dsimp only [Pt.U, Pt.locs, Pt.cells, Pt.slots] at X1 l1 y1 z1 st1 hQ1
  subst l1 y1 z1
  obtain ⟨rfl, N1q, Kq1, FP1_0, FP1_1, FP1_2, FP1_3, FP1_4, FP1_5, FP1_6⟩ := hQ1
  have N1 := Fr.app N0 N1q
  have K1 : Keep h0 T1.heap [a0, at_, as_, d1, q1] := K0.trans Kq1 (allS (Or.inl (List.mem_of_getElem? (i := 0) rfl)) (allS (Or.inl (List.mem_of_getElem? (i := 1) rfl)) all0))
  have F2 : Exa Z T1.heap a0 "com/example/sieveline/sieveline/model/CurrentDomains" := HF0.keep Kq1
  have F3 : ownAI Z T1.heap as_ .int 2 gs := HF7.keep Kq1 (ninS (Ne.symm hn1) (ninS (Ne.symm hn6) nin0))
  have F4 : ownAR Z T1.heap ad kd 2 (ownUpd (ownUpd (fun _ => Value.null) 0 (.ref d0)) 1 (.ref d1)) := HF8.keep Kq1 (ninS (Ne.symm hn2) (ninS (Ne.symm hn7) nin0))
  have F5 : ownAR Z T1.heap ap kp 2 (ownUpd (ownUpd (fun _ => Value.null) 0 (.ref q0)) 1 (.ref q1)) := HF9.keep Kq1 (ninS (Ne.symm hn3) (ninS (Ne.symm hn8) nin0))
  have F6 : ownAI Z T1.heap d1 .int N gd := HF10.keep Kq1 (ninS (Ne.symm hn4) (ninS (Ne.symm hn9) nin0))
  have F7 : ownAI Z T1.heap q1 .int N gq := HF11.keep Kq1 (ninS (Ne.symm hn5) (ninS (Ne.symm hn10) nin0))
  refine ownRun (T' := T1) (f' := (mkF m 5 #[rv a0, iv (1 : Int32), iv p2] [])) st1 ?_
  refine ow_aloadN (q := 6) X1 hx (hb hby own_d10_5) rfl rfl rfl ?_
  refine ow_iloadN (q := 7) X1 hx (hb hby own_d10_6) rfl rfl ?_
  refine ow_aloadN (q := 8) X1 hx (hb hby own_d10_7) rfl rfl rfl ?_
  obtain ⟨T8, X8, e8, st8⟩ := getF X1 hx hZ hown (host := "") (Or.inl (ww 27 rfl)) Via.refl rfl FP1_4 (g := (mkF m 8 #[rv a0, iv (1 : Int32), iv p2] [(.ref a0), (.int (1 : Int32)), (.ref a0)])) rfl rfl (hb hby own_d10_8)
  refine ownGo (T' := T8) (f' := (mkF m 11 #[rv a0, iv (1 : Int32), iv p2] [(.ref ap), (.int (1 : Int32)), (.ref a0)])) (st8) ?_
  refine ow_iloadN (q := 12) X8 hx (hb hby own_d10_11) rfl rfl ?_
  refine ownGo (T' := T8) (f' := (mkF m 13 #[rv a0, iv (1 : Int32), iv p2] [(.ref q1), (.int (1 : Int32)), (.ref a0)])) (ownAaload F5 X8 hx hZ e8 (j := (1 : Int32)) (by unfold ownIn; decide) (g := (mkF m 12 #[rv a0, iv (1 : Int32), iv p2] [(.int (1 : Int32)), (.ref ap), (.int (1 : Int32)), (.ref a0)])) rfl rfl (hb hby own_d10_12)) ?_
  refine ow_iloadN (q := 14) X8 hx (hb hby own_d10_13) rfl rfl ?_
  refine ownGo (T' := T8) (f' := (mkF m 15 #[rv a0, iv (1 : Int32), iv p2] [(.int (gq p2.toNatClampNeg)), (.int (1 : Int32)), (.ref a0)])) (ownIaload F7 X8 hx hZ e8 (j := p2) hv2 (g := (mkF m 14 #[rv a0, iv (1 : Int32), iv p2] [(.int p2), (.ref q1), (.int (1 : Int32)), (.ref a0)])) rfl rfl (hb hby own_d10_14)) ?_
  generalize hv_v9 : (gq p2.toNatClampNeg) = v9
  refine ow_iconst (q := 16) X8 hx (0 : Int32) (hb hby own_d10_15) rfl rfl ?_
  obtain ⟨cq10, qp_10, qp_10'⟩ := FP1_0.cell
  obtain ⟨_, _, ⟨T10, L10, k10, n10⟩, -, X10, ⟨Lc10, hQ10, l10, y10, z10⟩, st10⟩ := X8.privateBack hx (y := (⟨"com/example/sieveline/sieveline/model/CurrentDomains", "swap", "(III)V"⟩ : MethodName)) hown (mvT hZ (ww 45 rfl)) (mvT hZ (ww 46 rfl)) (Jvm.Kit.selects_private (y := (⟨"com/example/sieveline/sieveline/model/CurrentDomains", "swap", "(III)V"⟩ : MethodName)) (by decide) (mvT hZ (ww 2 rfl)) (mvP hZ (ww 47 rfl)) (mvT hZ (ww 46 rfl))) (Cond.privateMethod_at (mvP hZ (ww 47 rfl) (args := #[]))) (mvT hZ (ww 48 rfl)) (by decide) (backOf (W := 0) (rm_swap_1 l Z av0 hw [] a0 v9 (0 : Int32) ad ap d0 q0 d1 q1 kd kp N gd gq T1.heap n0 (Nat.le_trans Z0 K1.1) FP1_3 FP1_4 F4 F5 F6 F7 G_d1 G_q1 hn4 hn5 hn16 hn17 hn18 hn19 hn20 (own_pos rq hv2 hv_v9) (own_z hsz) (own_rgi rd (own_pos rq hv2 hv_v9)) (own_rgi rd (own_z hsz))) hZ (ww 48 rfl) (ww 3 rfl) (by decide) (by decide)) (g := (mkF m 16 #[rv a0, iv (1 : Int32), iv p2] [(.int (0 : Int32)), (.int v9), (.int (1 : Int32)), (.ref a0)])) rfl (by rw [hml]; rfl) (Steps.refl _) (a := a0) (by rw [e8]; exact qp_10) qp_10' (argsL := [(.int (1 : Int32)), (.int v9), (.int (0 : Int32))]) (rest := []) (lenOf own_pd1 rfl) rfl (by show 2 * 0 + _ ≤ _; exact Nat.le_of_eq rfl) (hb hby own_d10_16) (fun _ _ => ⟨rfl, e8, (by decide : 0 + 0 ≤ _), (by decide : 0 + 0 ≤ _)⟩)
  dsimp only [Pt.U, Pt.locs, Pt.cells, Pt.slots] at X10 l10 y10 z10 st10 hQ10
  subst l10 y10 z10
  obtain ⟨rfl, N10q, Kq10, FP10_0, FP10_1⟩ := hQ10
  have N10 := Fr.app N1 N10q
  have K10 : Keep h0 T10.heap [a0, at_, as_, d1, q1] := K1.trans Kq10 (allS (Or.inl (List.mem_of_getElem? (i := 3) rfl)) (allS (Or.inl (List.mem_of_getElem? (i := 4) rfl)) all0))
  have F11 : Exa Z T10.heap a0 "com/example/sieveline/sieveline/model/CurrentDomains" := FP1_0.keep Kq10
  have F12 : ownAI Z T10.heap as_ .int 2 gs := F3.keep Kq10 (ninS hn13 (ninS hn14 nin0))
  have F13 : ownAR Z T10.heap ad kd 2 (ownUpd (ownUpd (fun _ => Value.null) 0 (.ref d0)) 1 (.ref d1)) := F4.keep Kq10 (ninS hn16 (ninS hn17 nin0))
  have F14 : ownAR Z T10.heap ap kp 2 (ownUpd (ownUpd (fun _ => Value.null) 0 (.ref q0)) 1 (.ref q1)) := F5.keep Kq10 (ninS hn18 (ninS hn19 nin0))
  have F15 : Fld Z T10.heap a0 "com/example/sieveline/sieveline/model/CurrentDomains" "trail" "[I" (.ref at_) := FP1_1.keep Kq10 (ninS hn4 (ninS hn5 nin0))
  have F16 : Fld Z T10.heap a0 "com/example/sieveline/sieveline/model/CurrentDomains" "size" "[I" (.ref as_) := FP1_2.keep Kq10 (ninS hn4 (ninS hn5 nin0))
  have F17 : Fld Z T10.heap a0 "com/example/sieveline/sieveline/model/CurrentDomains" "dense" "[[I" (.ref ad) := FP1_3.keep Kq10 (ninS hn4 (ninS hn5 nin0))
  have F18 : Fld Z T10.heap a0 "com/example/sieveline/sieveline/model/CurrentDomains" "position" "[[I" (.ref ap) := FP1_4.keep Kq10 (ninS hn4 (ninS hn5 nin0))
  have F19 : Fld Z T10.heap a0 "com/example/sieveline/sieveline/model/CurrentDomains" "top" "I" (.int (4 : Int32)) := FP1_5.keep Kq10 (ninS hn4 (ninS hn5 nin0))
  have F20 : ownAI Z T10.heap at_ .int 64 (ownUpd (ownUpd gt 2 (1 : Int32)) 3 (gs 1)) := FP1_6.keep Kq10 (ninS hn9 (ninS hn10 nin0))
  refine ownRun (T' := T10) (f' := (mkF m 19 #[rv a0, iv (1 : Int32), iv p2] [])) st10 ?_
  refine ow_aloadN (q := 20) X10 hx (hb hby own_d10_19) rfl rfl rfl ?_
  obtain ⟨T21, X21, e21, st21⟩ := getF X10 hx hZ hown (host := "") (Or.inl (ww 22 rfl)) Via.refl rfl F16 (g := (mkF m 20 #[rv a0, iv (1 : Int32), iv p2] [(.ref a0)])) rfl rfl (hb hby own_d10_20)
  refine ownGo (T' := T21) (f' := (mkF m 23 #[rv a0, iv (1 : Int32), iv p2] [(.ref as_)])) (st21) ?_
  refine ow_iloadN (q := 24) X21 hx (hb hby own_d10_23) rfl rfl ?_
  refine ow_iconst (q := 25) X21 hx (1 : Int32) (hb hby own_d10_24) rfl rfl ?_
  obtain ⟨T22, h22, X22, e22, W22, F22s, st22⟩ := ownIastore F12 X21 hx hZ e21 (j := (1 : Int32)) (by unfold ownIn; decide) (g := (mkF m 25 #[rv a0, iv (1 : Int32), iv p2] [(.int (1 : Int32)), (.int (1 : Int32)), (.ref as_)])) rfl rfl (hb hby own_d10_25)
  have F22r : ownAI Z h22 as_ .int 2 (ownUpd gs 1 (1 : Int32)) := F22s
  have N22 := Fr.snoc X22 N10 G_as_
  have K22 : Keep h0 h22 [a0, at_, as_, d1, q1] := K10.wr W22 (Or.inl (List.mem_of_getElem? (i := 2) rfl))
  have F23 : Exa Z h22 a0 "com/example/sieveline/sieveline/model/CurrentDomains" := F11.wr W22
  have F24 : ownAR Z h22 ad kd 2 (ownUpd (ownUpd (fun _ => Value.null) 0 (.ref d0)) 1 (.ref d1)) := F13.other W22 (Ne.symm hn11)
  have F25 : ownAR Z h22 ap kp 2 (ownUpd (ownUpd (fun _ => Value.null) 0 (.ref q0)) 1 (.ref q1)) := F14.other W22 (Ne.symm hn12)
  have F26 : Fld Z h22 a0 "com/example/sieveline/sieveline/model/CurrentDomains" "trail" "[I" (.ref at_) := F15.other W22 (Or.inl hn1)
  have F27 : Fld Z h22 a0 "com/example/sieveline/sieveline/model/CurrentDomains" "size" "[I" (.ref as_) := F16.other W22 (Or.inl hn1)
  have F28 : Fld Z h22 a0 "com/example/sieveline/sieveline/model/CurrentDomains" "dense" "[[I" (.ref ad) := F17.other W22 (Or.inl hn1)
  have F29 : Fld Z h22 a0 "com/example/sieveline/sieveline/model/CurrentDomains" "position" "[[I" (.ref ap) := F18.other W22 (Or.inl hn1)
  have F30 : Fld Z h22 a0 "com/example/sieveline/sieveline/model/CurrentDomains" "top" "I" (.int (4 : Int32)) := F19.other W22 (Or.inl hn1)
  have F31 : ownAI Z h22 at_ .int 64 (ownUpd (ownUpd gt 2 (1 : Int32)) 3 (gs 1)) := F20.other W22 hn6
  have F32 : ownAI Z h22 d1 .int N (own_swD gd v9 (0 : Int32)) := FP10_0.other W22 (Ne.symm hn13)
  have F33 : ownAI Z h22 q1 .int N (own_swQ gd gq v9 (0 : Int32)) := FP10_1.other W22 (Ne.symm hn14)
  refine ownGo (T' := T22) (f' := (mkF m 26 #[rv a0, iv (1 : Int32), iv p2] [])) (st22) ?_
  refine ownRetV X22 hx Bd.returns (hb hby own_d10_26) hlk (by decide) (by decide) ?_
  subst hv_v9
  rw [e22]
  exact ⟨rfl, N22, K22, F23, F26, F27, F28, F29, F30, F31, F22r, F32, F33⟩
theorem own_ef10_reduceTo_4 (m : MethodId) (a0 : Addr) (p2 : Int32) : entryFrame m #[(.ref a0), (.int (1 : Int32)), (.int p2)] 3 = mkF m 0 #[rv a0, iv (1 : Int32), iv p2] [] := by first | (simp [entryFrame, mkF, argsToLocals, Value.category]; done) | rfl
def Q_reduceTo_4 (Z : State) (a0 : Addr) (p2 : Int32) (at_ : Addr) (as_ : Addr) (ad : Addr) (ap : Addr) (d0 : Addr) (q0 : Addr) (d1 : Addr) (q1 : Addr) (kd : ClassId) (kp : ClassId) (N : Nat) (gd : Nat → Int32) (gq : Nat → Int32) (gt : Nat → Int32) (gs : Nat → Int32) (h0 : Heap) (n0 : Nat) (v : Option Value) (h : Heap) (L : List Loc) : Prop := v = none ∧ Fr n0 L ∧ Keep h0 h [a0, at_, as_, d1, q1] ∧ Exa Z h a0 "com/example/sieveline/sieveline/model/CurrentDomains" ∧ Fld Z h a0 "com/example/sieveline/sieveline/model/CurrentDomains" "trail" "[I" (.ref at_) ∧ Fld Z h a0 "com/example/sieveline/sieveline/model/CurrentDomains" "size" "[I" (.ref as_) ∧ Fld Z h a0 "com/example/sieveline/sieveline/model/CurrentDomains" "dense" "[[I" (.ref ad) ∧ Fld Z h a0 "com/example/sieveline/sieveline/model/CurrentDomains" "position" "[[I" (.ref ap) ∧ Fld Z h a0 "com/example/sieveline/sieveline/model/CurrentDomains" "top" "I" (.int (6 : Int32)) ∧ ownAI Z h at_ .int 64 (ownUpd (ownUpd gt 4 (1 : Int32)) 5 (gs 1)) ∧ ownAI Z h as_ .int 2 (ownUpd gs 1 (1 : Int32)) ∧ ownAI Z h d1 .int N (own_swD gd (gq p2.toNatClampNeg) (0 : Int32)) ∧ ownAI Z h q1 .int N (own_swQ gd gq (gq p2.toNatClampNeg) (0 : Int32))
set_option maxRecDepth 65536 in
set_option maxHeartbeats 40000000 in
theorem rm_reduceTo_4 (l : Launch) (Z : State) (av0 : Array Value) (hw : ∀ d ∈ tables_1, d.before av0 Z = true) (ws : List Jvm.Cond) (a0 : Addr) (p2 : Int32) (at_ : Addr) (as_ : Addr) (ad : Addr) (ap : Addr) (d0 : Addr) (q0 : Addr) (d1 : Addr) (q1 : Addr) (kd : ClassId) (kp : ClassId) (N : Nat) (gd : Nat → Int32) (gq : Nat → Int32) (gt : Nat → Int32) (gs : Nat → Int32) (h0 : Heap) (n0 : Nat) (Z0 : n0 ≤ h0.size) (HF0 : Exa Z h0 a0 "com/example/sieveline/sieveline/model/CurrentDomains") (HF1 : Fld Z h0 a0 "com/example/sieveline/sieveline/model/CurrentDomains" "trail" "[I" (.ref at_)) (HF2 : Fld Z h0 a0 "com/example/sieveline/sieveline/model/CurrentDomains" "size" "[I" (.ref as_)) (HF3 : Fld Z h0 a0 "com/example/sieveline/sieveline/model/CurrentDomains" "dense" "[[I" (.ref ad)) (HF4 : Fld Z h0 a0 "com/example/sieveline/sieveline/model/CurrentDomains" "position" "[[I" (.ref ap)) (HF5 : Fld Z h0 a0 "com/example/sieveline/sieveline/model/CurrentDomains" "top" "I" (.int (4 : Int32))) (HF6 : ownAI Z h0 at_ .int 64 gt) (HF7 : ownAI Z h0 as_ .int 2 gs) (HF8 : ownAR Z h0 ad kd 2 (ownUpd (ownUpd (fun _ => Value.null) 0 (.ref d0)) 1 (.ref d1))) (HF9 : ownAR Z h0 ap kp 2 (ownUpd (ownUpd (fun _ => Value.null) 0 (.ref q0)) 1 (.ref q1))) (HF10 : ownAI Z h0 d1 .int N gd) (HF11 : ownAI Z h0 q1 .int N gq) (G_a0 : n0 ≤ a0) (G_at_ : n0 ≤ at_) (G_as_ : n0 ≤ as_) (G_d1 : n0 ≤ d1) (G_q1 : n0 ≤ q1) (hn0 : a0 ≠ at_) (hn1 : a0 ≠ as_) (hn2 : a0 ≠ ad) (hn3 : a0 ≠ ap) (hn4 : a0 ≠ d1) (hn5 : a0 ≠ q1) (hn6 : at_ ≠ as_) (hn7 : at_ ≠ ad) (hn8 : at_ ≠ ap) (hn9 : at_ ≠ d1) (hn10 : at_ ≠ q1) (hn11 : as_ ≠ ad) (hn12 : as_ ≠ ap) (hn13 : as_ ≠ d1) (hn14 : as_ ≠ q1) (hn15 : ad ≠ ap) (hn16 : ad ≠ d1) (hn17 : ad ≠ q1) (hn18 : ap ≠ d1) (hn19 : ap ≠ q1) (hn20 : d1 ≠ q1) (hv2 : ownIn p2 N) (rd : own_rg N gd) (rq : own_rg N gq) (hsz : 1 ≤ (gs 1).toInt ∧ (gs 1).toInt ≤ N) :
    MetFree l (⟨"com/example/sieveline/sieveline/model/CurrentDomains", "reduceTo", "(II)V"⟩ : MethodName) (head1 (Jvm.Cond.code (⟨"com/example/sieveline/sieveline/model/CurrentDomains", "reduceTo", "(II)V"⟩ : MethodName) prog_10_method_7_code 3 none :: ws) ({ frames := 1, cells := 0, slots := 0, locals := 18 } : Room)) (fun a U => a = #[(.ref a0), (.int (1 : Int32)), (.int p2)] ∧ Z.Warmed39 U.vm ∧ U.heap = h0) (fun _ _ _ _ _ => True) (fun _ U o U' => ∃ v L, o = .returned v ∧ (Q_reduceTo_4 Z a0 p2 at_ as_ ad ap d0 q0 d1 q1 kd kp N gd gq gt gs h0 n0) v U'.heap L ∧ FrameEnd U o U' L ({ frames := 1, cells := 0, slots := 0, locals := 18 } : Room).cells ({ frames := 1, cells := 0, slots := 0, locals := 18 } : Room).slots) := by
  refine MetFree.of_bodySF (plainFor_of_name own_pn_CurrentDomains) hisR ?_
  intro p e s m args below meth c s₁ Bd hml0 hP hK
  obtain ⟨rfl, hZ, hh⟩ := hP
  have hx := Bd.exec
  have hby := Bd.bytes
  have hml : c.maxLocals = 3 := hml0
  have hown : s.vm.findClass "com/example/sieveline/sieveline/model/CurrentDomains" = some m.cls := findClass_of_methodNamed Bd.named
  have hnm := (name_of_methodNamed Bd.named Bd.method).1
  have hlk : meth.locks = false := BodyLoose.notSynchronized Bd
  have X0 : Stand p l e ({ frames := 1, cells := 0, slots := 0, locals := 18 } : Room) s m #[(.ref a0), (.int (1 : Int32)), (.int p2)] below meth c s₁ [] 0 0 := Stand.of_body Bd
  have e0 : s₁.heap = h0 := by rw [← hh, Bd.state]; rfl
  have N0 := Fr.nil n0
  have K0 : Keep h0 h0 [a0, at_, as_, d1, q1] := Keep.refl _ _
  have ww : ∀ (k : Nat) {d : Jvm.Cond}, tables_1[k]? = some d → d.before av0 Z = true := fun k d h => hw d (List.mem_of_getElem? h)
  show ownEnds p e below s (Q_reduceTo_4 Z a0 p2 at_ as_ ad ap d0 q0 d1 q1 kd kp N gd gq gt gs h0 n0) ({ frames := 1, cells := 0, slots := 0, locals := 18 } : Room).cells ({ frames := 1, cells := 0, slots := 0, locals := 18 } : Room).slots s₁ (entryFrame m #[(.ref a0), (.int (1 : Int32)), (.int p2)] 3)
  refine ownCast (own_ef10_reduceTo_4 m a0 p2) ?_
  refine ow_aloadN (q := 1) X0 hx (hb hby own_d10_0) rfl rfl rfl ?_
  refine ow_iloadN (q := 2) X0 hx (hb hby own_d10_1) rfl rfl ?_
  obtain ⟨cq1, qp_1, qp_1'⟩ := HF0.cell
  obtain ⟨_, _, ⟨T1, L1, k1, n1⟩, -, X1, ⟨Lc1, hQ1, l1, y1, z1⟩, st1⟩ := X0.privateBack hx (y := (⟨"com/example/sieveline/sieveline/model/CurrentDomains", "record", "(I)V"⟩ : MethodName)) hown (mvT hZ (ww 41 rfl)) (mvT hZ (ww 42 rfl)) (Jvm.Kit.selects_private (y := (⟨"com/example/sieveline/sieveline/model/CurrentDomains", "record", "(I)V"⟩ : MethodName)) (by decide) (mvT hZ (ww 2 rfl)) (mvP hZ (ww 43 rfl)) (mvT hZ (ww 42 rfl))) (Cond.privateMethod_at (mvP hZ (ww 43 rfl) (args := #[]))) (mvT hZ (ww 44 rfl)) (by decide) (backOf (W := 0) (rm_record_4_1 l Z av0 hw [] a0 at_ as_ ad ap gt gs h0 n0 (Nat.le_trans Z0 K0.1) HF0 HF1 HF2 HF3 HF4 HF5 HF6 HF7 G_a0 G_at_ hn0 hn1 hn6) hZ (ww 44 rfl) (ww 3 rfl) (by decide) (by decide)) (g := (mkF m 2 #[rv a0, iv (1 : Int32), iv p2] [(.int (1 : Int32)), (.ref a0)])) rfl (by rw [hml]; rfl) (Steps.refl _) (a := a0) (by rw [e0]; exact qp_1) qp_1' (argsL := [(.int (1 : Int32))]) (rest := []) (lenOf own_pd0 rfl) rfl (by show 2 * 0 + _ ≤ _; exact Nat.le_of_eq rfl) (hb hby own_d10_2) (fun _ _ => ⟨rfl, e0, (by decide : 0 + 0 ≤ _), (by decide : 0 + 0 ≤ _)⟩)
  dsimp only [Pt.U, Pt.locs, Pt.cells, Pt.slots] at X1 l1 y1 z1 st1 hQ1
  subst l1 y1 z1
  obtain ⟨rfl, N1q, Kq1, FP1_0, FP1_1, FP1_2, FP1_3, FP1_4, FP1_5, FP1_6⟩ := hQ1
  have N1 := Fr.app N0 N1q
  have K1 : Keep h0 T1.heap [a0, at_, as_, d1, q1] := K0.trans Kq1 (allS (Or.inl (List.mem_of_getElem? (i := 0) rfl)) (allS (Or.inl (List.mem_of_getElem? (i := 1) rfl)) all0))
  have F2 : Exa Z T1.heap a0 "com/example/sieveline/sieveline/model/CurrentDomains" := HF0.keep Kq1
  have F3 : ownAI Z T1.heap as_ .int 2 gs := HF7.keep Kq1 (ninS (Ne.symm hn1) (ninS (Ne.symm hn6) nin0))
  have F4 : ownAR Z T1.heap ad kd 2 (ownUpd (ownUpd (fun _ => Value.null) 0 (.ref d0)) 1 (.ref d1)) := HF8.keep Kq1 (ninS (Ne.symm hn2) (ninS (Ne.symm hn7) nin0))
  have F5 : ownAR Z T1.heap ap kp 2 (ownUpd (ownUpd (fun _ => Value.null) 0 (.ref q0)) 1 (.ref q1)) := HF9.keep Kq1 (ninS (Ne.symm hn3) (ninS (Ne.symm hn8) nin0))
  have F6 : ownAI Z T1.heap d1 .int N gd := HF10.keep Kq1 (ninS (Ne.symm hn4) (ninS (Ne.symm hn9) nin0))
  have F7 : ownAI Z T1.heap q1 .int N gq := HF11.keep Kq1 (ninS (Ne.symm hn5) (ninS (Ne.symm hn10) nin0))
  refine ownRun (T' := T1) (f' := (mkF m 5 #[rv a0, iv (1 : Int32), iv p2] [])) st1 ?_
  refine ow_aloadN (q := 6) X1 hx (hb hby own_d10_5) rfl rfl rfl ?_
  refine ow_iloadN (q := 7) X1 hx (hb hby own_d10_6) rfl rfl ?_
  refine ow_aloadN (q := 8) X1 hx (hb hby own_d10_7) rfl rfl rfl ?_
  obtain ⟨T8, X8, e8, st8⟩ := getF X1 hx hZ hown (host := "") (Or.inl (ww 27 rfl)) Via.refl rfl FP1_4 (g := (mkF m 8 #[rv a0, iv (1 : Int32), iv p2] [(.ref a0), (.int (1 : Int32)), (.ref a0)])) rfl rfl (hb hby own_d10_8)
  refine ownGo (T' := T8) (f' := (mkF m 11 #[rv a0, iv (1 : Int32), iv p2] [(.ref ap), (.int (1 : Int32)), (.ref a0)])) (st8) ?_
  refine ow_iloadN (q := 12) X8 hx (hb hby own_d10_11) rfl rfl ?_
  refine ownGo (T' := T8) (f' := (mkF m 13 #[rv a0, iv (1 : Int32), iv p2] [(.ref q1), (.int (1 : Int32)), (.ref a0)])) (ownAaload F5 X8 hx hZ e8 (j := (1 : Int32)) (by unfold ownIn; decide) (g := (mkF m 12 #[rv a0, iv (1 : Int32), iv p2] [(.int (1 : Int32)), (.ref ap), (.int (1 : Int32)), (.ref a0)])) rfl rfl (hb hby own_d10_12)) ?_
  refine ow_iloadN (q := 14) X8 hx (hb hby own_d10_13) rfl rfl ?_
  refine ownGo (T' := T8) (f' := (mkF m 15 #[rv a0, iv (1 : Int32), iv p2] [(.int (gq p2.toNatClampNeg)), (.int (1 : Int32)), (.ref a0)])) (ownIaload F7 X8 hx hZ e8 (j := p2) hv2 (g := (mkF m 14 #[rv a0, iv (1 : Int32), iv p2] [(.int p2), (.ref q1), (.int (1 : Int32)), (.ref a0)])) rfl rfl (hb hby own_d10_14)) ?_
  generalize hv_v9 : (gq p2.toNatClampNeg) = v9
  refine ow_iconst (q := 16) X8 hx (0 : Int32) (hb hby own_d10_15) rfl rfl ?_
  obtain ⟨cq10, qp_10, qp_10'⟩ := FP1_0.cell
  obtain ⟨_, _, ⟨T10, L10, k10, n10⟩, -, X10, ⟨Lc10, hQ10, l10, y10, z10⟩, st10⟩ := X8.privateBack hx (y := (⟨"com/example/sieveline/sieveline/model/CurrentDomains", "swap", "(III)V"⟩ : MethodName)) hown (mvT hZ (ww 45 rfl)) (mvT hZ (ww 46 rfl)) (Jvm.Kit.selects_private (y := (⟨"com/example/sieveline/sieveline/model/CurrentDomains", "swap", "(III)V"⟩ : MethodName)) (by decide) (mvT hZ (ww 2 rfl)) (mvP hZ (ww 47 rfl)) (mvT hZ (ww 46 rfl))) (Cond.privateMethod_at (mvP hZ (ww 47 rfl) (args := #[]))) (mvT hZ (ww 48 rfl)) (by decide) (backOf (W := 0) (rm_swap_1 l Z av0 hw [] a0 v9 (0 : Int32) ad ap d0 q0 d1 q1 kd kp N gd gq T1.heap n0 (Nat.le_trans Z0 K1.1) FP1_3 FP1_4 F4 F5 F6 F7 G_d1 G_q1 hn4 hn5 hn16 hn17 hn18 hn19 hn20 (own_pos rq hv2 hv_v9) (own_z hsz) (own_rgi rd (own_pos rq hv2 hv_v9)) (own_rgi rd (own_z hsz))) hZ (ww 48 rfl) (ww 3 rfl) (by decide) (by decide)) (g := (mkF m 16 #[rv a0, iv (1 : Int32), iv p2] [(.int (0 : Int32)), (.int v9), (.int (1 : Int32)), (.ref a0)])) rfl (by rw [hml]; rfl) (Steps.refl _) (a := a0) (by rw [e8]; exact qp_10) qp_10' (argsL := [(.int (1 : Int32)), (.int v9), (.int (0 : Int32))]) (rest := []) (lenOf own_pd1 rfl) rfl (by show 2 * 0 + _ ≤ _; exact Nat.le_of_eq rfl) (hb hby own_d10_16) (fun _ _ => ⟨rfl, e8, (by decide : 0 + 0 ≤ _), (by decide : 0 + 0 ≤ _)⟩)
  dsimp only [Pt.U, Pt.locs, Pt.cells, Pt.slots] at X10 l10 y10 z10 st10 hQ10
  subst l10 y10 z10
  obtain ⟨rfl, N10q, Kq10, FP10_0, FP10_1⟩ := hQ10
  have N10 := Fr.app N1 N10q
  have K10 : Keep h0 T10.heap [a0, at_, as_, d1, q1] := K1.trans Kq10 (allS (Or.inl (List.mem_of_getElem? (i := 3) rfl)) (allS (Or.inl (List.mem_of_getElem? (i := 4) rfl)) all0))
  have F11 : Exa Z T10.heap a0 "com/example/sieveline/sieveline/model/CurrentDomains" := FP1_0.keep Kq10
  have F12 : ownAI Z T10.heap as_ .int 2 gs := F3.keep Kq10 (ninS hn13 (ninS hn14 nin0))
  have F13 : ownAR Z T10.heap ad kd 2 (ownUpd (ownUpd (fun _ => Value.null) 0 (.ref d0)) 1 (.ref d1)) := F4.keep Kq10 (ninS hn16 (ninS hn17 nin0))
  have F14 : ownAR Z T10.heap ap kp 2 (ownUpd (ownUpd (fun _ => Value.null) 0 (.ref q0)) 1 (.ref q1)) := F5.keep Kq10 (ninS hn18 (ninS hn19 nin0))
  have F15 : Fld Z T10.heap a0 "com/example/sieveline/sieveline/model/CurrentDomains" "trail" "[I" (.ref at_) := FP1_1.keep Kq10 (ninS hn4 (ninS hn5 nin0))
  have F16 : Fld Z T10.heap a0 "com/example/sieveline/sieveline/model/CurrentDomains" "size" "[I" (.ref as_) := FP1_2.keep Kq10 (ninS hn4 (ninS hn5 nin0))
  have F17 : Fld Z T10.heap a0 "com/example/sieveline/sieveline/model/CurrentDomains" "dense" "[[I" (.ref ad) := FP1_3.keep Kq10 (ninS hn4 (ninS hn5 nin0))
  have F18 : Fld Z T10.heap a0 "com/example/sieveline/sieveline/model/CurrentDomains" "position" "[[I" (.ref ap) := FP1_4.keep Kq10 (ninS hn4 (ninS hn5 nin0))
  have F19 : Fld Z T10.heap a0 "com/example/sieveline/sieveline/model/CurrentDomains" "top" "I" (.int (6 : Int32)) := FP1_5.keep Kq10 (ninS hn4 (ninS hn5 nin0))
  have F20 : ownAI Z T10.heap at_ .int 64 (ownUpd (ownUpd gt 4 (1 : Int32)) 5 (gs 1)) := FP1_6.keep Kq10 (ninS hn9 (ninS hn10 nin0))
  refine ownRun (T' := T10) (f' := (mkF m 19 #[rv a0, iv (1 : Int32), iv p2] [])) st10 ?_
  refine ow_aloadN (q := 20) X10 hx (hb hby own_d10_19) rfl rfl rfl ?_
  obtain ⟨T21, X21, e21, st21⟩ := getF X10 hx hZ hown (host := "") (Or.inl (ww 22 rfl)) Via.refl rfl F16 (g := (mkF m 20 #[rv a0, iv (1 : Int32), iv p2] [(.ref a0)])) rfl rfl (hb hby own_d10_20)
  refine ownGo (T' := T21) (f' := (mkF m 23 #[rv a0, iv (1 : Int32), iv p2] [(.ref as_)])) (st21) ?_
  refine ow_iloadN (q := 24) X21 hx (hb hby own_d10_23) rfl rfl ?_
  refine ow_iconst (q := 25) X21 hx (1 : Int32) (hb hby own_d10_24) rfl rfl ?_
  obtain ⟨T22, h22, X22, e22, W22, F22s, st22⟩ := ownIastore F12 X21 hx hZ e21 (j := (1 : Int32)) (by unfold ownIn; decide) (g := (mkF m 25 #[rv a0, iv (1 : Int32), iv p2] [(.int (1 : Int32)), (.int (1 : Int32)), (.ref as_)])) rfl rfl (hb hby own_d10_25)
  have F22r : ownAI Z h22 as_ .int 2 (ownUpd gs 1 (1 : Int32)) := F22s
  have N22 := Fr.snoc X22 N10 G_as_
  have K22 : Keep h0 h22 [a0, at_, as_, d1, q1] := K10.wr W22 (Or.inl (List.mem_of_getElem? (i := 2) rfl))
  have F23 : Exa Z h22 a0 "com/example/sieveline/sieveline/model/CurrentDomains" := F11.wr W22
  have F24 : ownAR Z h22 ad kd 2 (ownUpd (ownUpd (fun _ => Value.null) 0 (.ref d0)) 1 (.ref d1)) := F13.other W22 (Ne.symm hn11)
  have F25 : ownAR Z h22 ap kp 2 (ownUpd (ownUpd (fun _ => Value.null) 0 (.ref q0)) 1 (.ref q1)) := F14.other W22 (Ne.symm hn12)
  have F26 : Fld Z h22 a0 "com/example/sieveline/sieveline/model/CurrentDomains" "trail" "[I" (.ref at_) := F15.other W22 (Or.inl hn1)
  have F27 : Fld Z h22 a0 "com/example/sieveline/sieveline/model/CurrentDomains" "size" "[I" (.ref as_) := F16.other W22 (Or.inl hn1)
  have F28 : Fld Z h22 a0 "com/example/sieveline/sieveline/model/CurrentDomains" "dense" "[[I" (.ref ad) := F17.other W22 (Or.inl hn1)
  have F29 : Fld Z h22 a0 "com/example/sieveline/sieveline/model/CurrentDomains" "position" "[[I" (.ref ap) := F18.other W22 (Or.inl hn1)
  have F30 : Fld Z h22 a0 "com/example/sieveline/sieveline/model/CurrentDomains" "top" "I" (.int (6 : Int32)) := F19.other W22 (Or.inl hn1)
  have F31 : ownAI Z h22 at_ .int 64 (ownUpd (ownUpd gt 4 (1 : Int32)) 5 (gs 1)) := F20.other W22 hn6
  have F32 : ownAI Z h22 d1 .int N (own_swD gd v9 (0 : Int32)) := FP10_0.other W22 (Ne.symm hn13)
  have F33 : ownAI Z h22 q1 .int N (own_swQ gd gq v9 (0 : Int32)) := FP10_1.other W22 (Ne.symm hn14)
  refine ownGo (T' := T22) (f' := (mkF m 26 #[rv a0, iv (1 : Int32), iv p2] [])) (st22) ?_
  refine ownRetV X22 hx Bd.returns (hb hby own_d10_26) hlk (by decide) (by decide) ?_
  subst hv_v9
  rw [e22]
  exact ⟨rfl, N22, K22, F23, F26, F27, F28, F29, F30, F31, F22r, F32, F33⟩
theorem own_d3_0 : decode prog_10_method_8_code 0 = .ok (.aload_n 0, 1) := by decide +kernel
theorem own_d3_1 : decode prog_10_method_8_code 1 = .ok (.getfield 36, 3) := by decide +kernel
theorem own_d3_4 : decode prog_10_method_8_code 4 = .ok (.ireturn, 1) := by decide +kernel
theorem own_ef3_mark (m : MethodId) (a0 : Addr) : entryFrame m #[(.ref a0)] 1 = mkF m 0 #[rv a0] [] := by first | (simp [entryFrame, mkF, argsToLocals, Value.category]; done) | rfl
def Q_mark (Z : State) (a0 : Addr) (w : Int32) (h0 : Heap) (n0 : Nat) (v : Option Value) (h : Heap) (L : List Loc) : Prop := v = some (.int w) ∧ Fr n0 L ∧ h = h0
set_option maxRecDepth 65536 in
set_option maxHeartbeats 40000000 in
theorem rm_mark (l : Launch) (Z : State) (av0 : Array Value) (hw : ∀ d ∈ tables_1, d.before av0 Z = true) (ws : List Jvm.Cond) (a0 : Addr) (w : Int32) (h0 : Heap) (n0 : Nat) (Z0 : n0 ≤ h0.size) (HF0 : Fld Z h0 a0 "com/example/sieveline/sieveline/model/CurrentDomains" "top" "I" (.int w)) :
    MetFree l (⟨"com/example/sieveline/sieveline/model/CurrentDomains", "mark", "()I"⟩ : MethodName) (head1 (Jvm.Cond.code (⟨"com/example/sieveline/sieveline/model/CurrentDomains", "mark", "()I"⟩ : MethodName) prog_10_method_8_code 1 (some .int) :: ws) ({ frames := 0, cells := 0, slots := 0, locals := 0 } : Room)) (fun a U => a = #[(.ref a0)] ∧ Z.Warmed39 U.vm ∧ U.heap = h0) (fun _ _ _ _ _ => True) (fun _ U o U' => ∃ v L, o = .returned v ∧ (Q_mark Z a0 w h0 n0) v U'.heap L ∧ FrameEnd U o U' L ({ frames := 0, cells := 0, slots := 0, locals := 0 } : Room).cells ({ frames := 0, cells := 0, slots := 0, locals := 0 } : Room).slots) := by
  refine MetFree.of_bodySF (plainFor_of_name own_pn_CurrentDomains) hisR ?_
  intro p e s m args below meth c s₁ Bd hml0 hP hK
  obtain ⟨rfl, hZ, hh⟩ := hP
  have hx := Bd.exec
  have hby := Bd.bytes
  have hml : c.maxLocals = 1 := hml0
  have hown : s.vm.findClass "com/example/sieveline/sieveline/model/CurrentDomains" = some m.cls := findClass_of_methodNamed Bd.named
  have hnm := (name_of_methodNamed Bd.named Bd.method).1
  have hlk : meth.locks = false := BodyLoose.notSynchronized Bd
  have X0 : Stand p l e ({ frames := 0, cells := 0, slots := 0, locals := 0 } : Room) s m #[(.ref a0)] below meth c s₁ [] 0 0 := Stand.of_body Bd
  have e0 : s₁.heap = h0 := by rw [← hh, Bd.state]; rfl
  have N0 := Fr.nil n0
  have K0 : Keep h0 h0 [] := Keep.refl _ _
  have ww : ∀ (k : Nat) {d : Jvm.Cond}, tables_1[k]? = some d → d.before av0 Z = true := fun k d h => hw d (List.mem_of_getElem? h)
  show ownEnds p e below s (Q_mark Z a0 w h0 n0) ({ frames := 0, cells := 0, slots := 0, locals := 0 } : Room).cells ({ frames := 0, cells := 0, slots := 0, locals := 0 } : Room).slots s₁ (entryFrame m #[(.ref a0)] 1)
  refine ownCast (own_ef3_mark m a0) ?_
  refine ow_aloadN (q := 1) X0 hx (hb hby own_d3_0) rfl rfl rfl ?_
  obtain ⟨T1, X1, e1, st1⟩ := getF X0 hx hZ hown (host := "") (Or.inl (ww 34 rfl)) Via.refl e0 HF0 (g := (mkF m 1 #[rv a0] [(.ref a0)])) rfl rfl (hb hby own_d3_1)
  refine ownGo (T' := T1) (f' := (mkF m 4 #[rv a0] [(.int w)])) (st1) ?_
  refine ownRetI X1 hx Bd.returns (hb hby own_d3_4) hlk (by decide) (by decide) ?_
  rw [e1]
  exact ⟨rfl, N0, rfl⟩
theorem own_d8_0 : decode prog_10_method_2_code 0 = .ok (.aload_n 0, 1) := by decide +kernel
theorem own_d8_1 : decode prog_10_method_2_code 1 = .ok (.getfield 18, 3) := by decide +kernel
theorem own_d8_4 : decode prog_10_method_2_code 4 = .ok (.iload_n 1, 1) := by decide +kernel
theorem own_d8_5 : decode prog_10_method_2_code 5 = .ok (.iaload, 1) := by decide +kernel
theorem own_d8_6 : decode prog_10_method_2_code 6 = .ok (.ireturn, 1) := by decide +kernel
theorem own_ef8_size_0 (m : MethodId) (a0 : Addr) : entryFrame m #[(.ref a0), (.int (0 : Int32))] 2 = mkF m 0 #[rv a0, iv (0 : Int32)] [] := by first | (simp [entryFrame, mkF, argsToLocals, Value.category]; done) | rfl
def Q_size_0 (Z : State) (a0 : Addr) (as_ : Addr) (gs : Nat → Int32) (h0 : Heap) (n0 : Nat) (v : Option Value) (h : Heap) (L : List Loc) : Prop := v = some (.int (gs 0)) ∧ Fr n0 L ∧ h = h0
set_option maxRecDepth 65536 in
set_option maxHeartbeats 40000000 in
theorem rm_size_0 (l : Launch) (Z : State) (av0 : Array Value) (hw : ∀ d ∈ tables_1, d.before av0 Z = true) (ws : List Jvm.Cond) (a0 : Addr) (as_ : Addr) (gs : Nat → Int32) (h0 : Heap) (n0 : Nat) (Z0 : n0 ≤ h0.size) (HF0 : Fld Z h0 a0 "com/example/sieveline/sieveline/model/CurrentDomains" "size" "[I" (.ref as_)) (HF1 : ownAI Z h0 as_ .int 2 gs) :
    MetFree l (⟨"com/example/sieveline/sieveline/model/CurrentDomains", "size", "(I)I"⟩ : MethodName) (head1 (Jvm.Cond.code (⟨"com/example/sieveline/sieveline/model/CurrentDomains", "size", "(I)I"⟩ : MethodName) prog_10_method_2_code 2 (some .int) :: ws) ({ frames := 0, cells := 0, slots := 0, locals := 0 } : Room)) (fun a U => a = #[(.ref a0), (.int (0 : Int32))] ∧ Z.Warmed39 U.vm ∧ U.heap = h0) (fun _ _ _ _ _ => True) (fun _ U o U' => ∃ v L, o = .returned v ∧ (Q_size_0 Z a0 as_ gs h0 n0) v U'.heap L ∧ FrameEnd U o U' L ({ frames := 0, cells := 0, slots := 0, locals := 0 } : Room).cells ({ frames := 0, cells := 0, slots := 0, locals := 0 } : Room).slots) := by
  refine MetFree.of_bodySF (plainFor_of_name own_pn_CurrentDomains) hisR ?_
  intro p e s m args below meth c s₁ Bd hml0 hP hK
  obtain ⟨rfl, hZ, hh⟩ := hP
  have hx := Bd.exec
  have hby := Bd.bytes
  have hml : c.maxLocals = 2 := hml0
  have hown : s.vm.findClass "com/example/sieveline/sieveline/model/CurrentDomains" = some m.cls := findClass_of_methodNamed Bd.named
  have hnm := (name_of_methodNamed Bd.named Bd.method).1
  have hlk : meth.locks = false := BodyLoose.notSynchronized Bd
  have X0 : Stand p l e ({ frames := 0, cells := 0, slots := 0, locals := 0 } : Room) s m #[(.ref a0), (.int (0 : Int32))] below meth c s₁ [] 0 0 := Stand.of_body Bd
  have e0 : s₁.heap = h0 := by rw [← hh, Bd.state]; rfl
  have N0 := Fr.nil n0
  have K0 : Keep h0 h0 [] := Keep.refl _ _
  have ww : ∀ (k : Nat) {d : Jvm.Cond}, tables_1[k]? = some d → d.before av0 Z = true := fun k d h => hw d (List.mem_of_getElem? h)
  show ownEnds p e below s (Q_size_0 Z a0 as_ gs h0 n0) ({ frames := 0, cells := 0, slots := 0, locals := 0 } : Room).cells ({ frames := 0, cells := 0, slots := 0, locals := 0 } : Room).slots s₁ (entryFrame m #[(.ref a0), (.int (0 : Int32))] 2)
  refine ownCast (own_ef8_size_0 m a0) ?_
  refine ow_aloadN (q := 1) X0 hx (hb hby own_d8_0) rfl rfl rfl ?_
  obtain ⟨T1, X1, e1, st1⟩ := getF X0 hx hZ hown (host := "") (Or.inl (ww 22 rfl)) Via.refl e0 HF0 (g := (mkF m 1 #[rv a0, iv (0 : Int32)] [(.ref a0)])) rfl rfl (hb hby own_d8_1)
  refine ownGo (T' := T1) (f' := (mkF m 4 #[rv a0, iv (0 : Int32)] [(.ref as_)])) (st1) ?_
  refine ow_iloadN (q := 5) X1 hx (hb hby own_d8_4) rfl rfl ?_
  refine ownGo (T' := T1) (f' := (mkF m 6 #[rv a0, iv (0 : Int32)] [(.int (gs 0))])) (ownIaload HF1 X1 hx hZ e1 (j := (0 : Int32)) (by unfold ownIn; decide) (g := (mkF m 5 #[rv a0, iv (0 : Int32)] [(.int (0 : Int32)), (.ref as_)])) rfl rfl (hb hby own_d8_5)) ?_
  generalize hv_v2 : (gs 0) = v2
  refine ownRetI X1 hx Bd.returns (hb hby own_d8_6) hlk (by decide) (by decide) ?_
  subst hv_v2
  rw [e1]
  refine ⟨congrArg (fun q => some (Value.int q)) ?_, N0, rfl⟩
  rfl
theorem own_ef8_size_1 (m : MethodId) (a0 : Addr) : entryFrame m #[(.ref a0), (.int (1 : Int32))] 2 = mkF m 0 #[rv a0, iv (1 : Int32)] [] := by first | (simp [entryFrame, mkF, argsToLocals, Value.category]; done) | rfl
def Q_size_1 (Z : State) (a0 : Addr) (as_ : Addr) (gs : Nat → Int32) (h0 : Heap) (n0 : Nat) (v : Option Value) (h : Heap) (L : List Loc) : Prop := v = some (.int (gs 1)) ∧ Fr n0 L ∧ h = h0
set_option maxRecDepth 65536 in
set_option maxHeartbeats 40000000 in
theorem rm_size_1 (l : Launch) (Z : State) (av0 : Array Value) (hw : ∀ d ∈ tables_1, d.before av0 Z = true) (ws : List Jvm.Cond) (a0 : Addr) (as_ : Addr) (gs : Nat → Int32) (h0 : Heap) (n0 : Nat) (Z0 : n0 ≤ h0.size) (HF0 : Fld Z h0 a0 "com/example/sieveline/sieveline/model/CurrentDomains" "size" "[I" (.ref as_)) (HF1 : ownAI Z h0 as_ .int 2 gs) :
    MetFree l (⟨"com/example/sieveline/sieveline/model/CurrentDomains", "size", "(I)I"⟩ : MethodName) (head1 (Jvm.Cond.code (⟨"com/example/sieveline/sieveline/model/CurrentDomains", "size", "(I)I"⟩ : MethodName) prog_10_method_2_code 2 (some .int) :: ws) ({ frames := 0, cells := 0, slots := 0, locals := 0 } : Room)) (fun a U => a = #[(.ref a0), (.int (1 : Int32))] ∧ Z.Warmed39 U.vm ∧ U.heap = h0) (fun _ _ _ _ _ => True) (fun _ U o U' => ∃ v L, o = .returned v ∧ (Q_size_1 Z a0 as_ gs h0 n0) v U'.heap L ∧ FrameEnd U o U' L ({ frames := 0, cells := 0, slots := 0, locals := 0 } : Room).cells ({ frames := 0, cells := 0, slots := 0, locals := 0 } : Room).slots) := by
  refine MetFree.of_bodySF (plainFor_of_name own_pn_CurrentDomains) hisR ?_
  intro p e s m args below meth c s₁ Bd hml0 hP hK
  obtain ⟨rfl, hZ, hh⟩ := hP
  have hx := Bd.exec
  have hby := Bd.bytes
  have hml : c.maxLocals = 2 := hml0
  have hown : s.vm.findClass "com/example/sieveline/sieveline/model/CurrentDomains" = some m.cls := findClass_of_methodNamed Bd.named
  have hnm := (name_of_methodNamed Bd.named Bd.method).1
  have hlk : meth.locks = false := BodyLoose.notSynchronized Bd
  have X0 : Stand p l e ({ frames := 0, cells := 0, slots := 0, locals := 0 } : Room) s m #[(.ref a0), (.int (1 : Int32))] below meth c s₁ [] 0 0 := Stand.of_body Bd
  have e0 : s₁.heap = h0 := by rw [← hh, Bd.state]; rfl
  have N0 := Fr.nil n0
  have K0 : Keep h0 h0 [] := Keep.refl _ _
  have ww : ∀ (k : Nat) {d : Jvm.Cond}, tables_1[k]? = some d → d.before av0 Z = true := fun k d h => hw d (List.mem_of_getElem? h)
  show ownEnds p e below s (Q_size_1 Z a0 as_ gs h0 n0) ({ frames := 0, cells := 0, slots := 0, locals := 0 } : Room).cells ({ frames := 0, cells := 0, slots := 0, locals := 0 } : Room).slots s₁ (entryFrame m #[(.ref a0), (.int (1 : Int32))] 2)
  refine ownCast (own_ef8_size_1 m a0) ?_
  refine ow_aloadN (q := 1) X0 hx (hb hby own_d8_0) rfl rfl rfl ?_
  obtain ⟨T1, X1, e1, st1⟩ := getF X0 hx hZ hown (host := "") (Or.inl (ww 22 rfl)) Via.refl e0 HF0 (g := (mkF m 1 #[rv a0, iv (1 : Int32)] [(.ref a0)])) rfl rfl (hb hby own_d8_1)
  refine ownGo (T' := T1) (f' := (mkF m 4 #[rv a0, iv (1 : Int32)] [(.ref as_)])) (st1) ?_
  refine ow_iloadN (q := 5) X1 hx (hb hby own_d8_4) rfl rfl ?_
  refine ownGo (T' := T1) (f' := (mkF m 6 #[rv a0, iv (1 : Int32)] [(.int (gs 1))])) (ownIaload HF1 X1 hx hZ e1 (j := (1 : Int32)) (by unfold ownIn; decide) (g := (mkF m 5 #[rv a0, iv (1 : Int32)] [(.int (1 : Int32)), (.ref as_)])) rfl rfl (hb hby own_d8_5)) ?_
  generalize hv_v2 : (gs 1) = v2
  refine ownRetI X1 hx Bd.returns (hb hby own_d8_6) hlk (by decide) (by decide) ?_
  subst hv_v2
  rw [e1]
  refine ⟨congrArg (fun q => some (Value.int q)) ?_, N0, rfl⟩
  rfl
theorem own_d9_0 : decode prog_10_method_5_code 0 = .ok (.aload_n 0, 1) := by decide +kernel
theorem own_d9_1 : decode prog_10_method_5_code 1 = .ok (.getfield 25, 3) := by decide +kernel
theorem own_d9_4 : decode prog_10_method_5_code 4 = .ok (.iload_n 1, 1) := by decide +kernel
theorem own_d9_5 : decode prog_10_method_5_code 5 = .ok (.aaload, 1) := by decide +kernel
theorem own_d9_6 : decode prog_10_method_5_code 6 = .ok (.iload_n 2, 1) := by decide +kernel
theorem own_d9_7 : decode prog_10_method_5_code 7 = .ok (.iaload, 1) := by decide +kernel
theorem own_d9_8 : decode prog_10_method_5_code 8 = .ok (.aload_n 0, 1) := by decide +kernel
theorem own_d9_9 : decode prog_10_method_5_code 9 = .ok (.getfield 18, 3) := by decide +kernel
theorem own_d9_12 : decode prog_10_method_5_code 12 = .ok (.iload_n 1, 1) := by decide +kernel
theorem own_d9_13 : decode prog_10_method_5_code 13 = .ok (.iaload, 1) := by decide +kernel
theorem own_d9_14 : decode prog_10_method_5_code 14 = .ok (.if_icmp .ge 7, 3) := by decide +kernel
theorem own_d9_17 : decode prog_10_method_5_code 17 = .ok (.iconst 1, 1) := by decide +kernel
theorem own_d9_18 : decode prog_10_method_5_code 18 = .ok (.goto 4, 3) := by decide +kernel
theorem own_d9_22 : decode prog_10_method_5_code 22 = .ok (.ireturn, 1) := by decide +kernel
theorem own_d9_21 : decode prog_10_method_5_code 21 = .ok (.iconst 0, 1) := by decide +kernel
theorem own_ef9_contains (m : MethodId) (a0 : Addr) (p2 : Int32) : entryFrame m #[(.ref a0), (.int (0 : Int32)), (.int p2)] 3 = mkF m 0 #[rv a0, iv (0 : Int32), iv p2] [] := by first | (simp [entryFrame, mkF, argsToLocals, Value.category]; done) | rfl
def Q_contains (Z : State) (a0 : Addr) (p2 : Int32) (as_ : Addr) (ap : Addr) (q0 : Addr) (q1 : Addr) (kp : ClassId) (N : Nat) (gq : Nat → Int32) (gs : Nat → Int32) (h0 : Heap) (n0 : Nat) (v : Option Value) (h : Heap) (L : List Loc) : Prop := v = some (.int (if (gq p2.toNatClampNeg) < (gs 0) then (1 : Int32) else (0 : Int32))) ∧ Fr n0 L ∧ h = h0
set_option maxRecDepth 65536 in
set_option maxHeartbeats 40000000 in
theorem rm_contains (l : Launch) (Z : State) (av0 : Array Value) (hw : ∀ d ∈ tables_1, d.before av0 Z = true) (ws : List Jvm.Cond) (a0 : Addr) (p2 : Int32) (as_ : Addr) (ap : Addr) (q0 : Addr) (q1 : Addr) (kp : ClassId) (N : Nat) (gq : Nat → Int32) (gs : Nat → Int32) (h0 : Heap) (n0 : Nat) (Z0 : n0 ≤ h0.size) (HF0 : Fld Z h0 a0 "com/example/sieveline/sieveline/model/CurrentDomains" "size" "[I" (.ref as_)) (HF1 : Fld Z h0 a0 "com/example/sieveline/sieveline/model/CurrentDomains" "position" "[[I" (.ref ap)) (HF2 : ownAI Z h0 as_ .int 2 gs) (HF3 : ownAR Z h0 ap kp 2 (ownUpd (ownUpd (fun _ => Value.null) 0 (.ref q0)) 1 (.ref q1))) (HF4 : ownAI Z h0 q0 .int N gq) (hv2 : ownIn p2 N) :
    MetFree l (⟨"com/example/sieveline/sieveline/model/CurrentDomains", "contains", "(II)Z"⟩ : MethodName) (head1 (Jvm.Cond.code (⟨"com/example/sieveline/sieveline/model/CurrentDomains", "contains", "(II)Z"⟩ : MethodName) prog_10_method_5_code 3 (some .boolean) :: ws) ({ frames := 0, cells := 0, slots := 0, locals := 0 } : Room)) (fun a U => a = #[(.ref a0), (.int (0 : Int32)), (.int p2)] ∧ Z.Warmed39 U.vm ∧ U.heap = h0) (fun _ _ _ _ _ => True) (fun _ U o U' => ∃ v L, o = .returned v ∧ (Q_contains Z a0 p2 as_ ap q0 q1 kp N gq gs h0 n0) v U'.heap L ∧ FrameEnd U o U' L ({ frames := 0, cells := 0, slots := 0, locals := 0 } : Room).cells ({ frames := 0, cells := 0, slots := 0, locals := 0 } : Room).slots) := by
  refine MetFree.of_bodySF (plainFor_of_name own_pn_CurrentDomains) hisR ?_
  intro p e s m args below meth c s₁ Bd hml0 hP hK
  obtain ⟨rfl, hZ, hh⟩ := hP
  have hx := Bd.exec
  have hby := Bd.bytes
  have hml : c.maxLocals = 3 := hml0
  have hown : s.vm.findClass "com/example/sieveline/sieveline/model/CurrentDomains" = some m.cls := findClass_of_methodNamed Bd.named
  have hnm := (name_of_methodNamed Bd.named Bd.method).1
  have hlk : meth.locks = false := BodyLoose.notSynchronized Bd
  have X0 : Stand p l e ({ frames := 0, cells := 0, slots := 0, locals := 0 } : Room) s m #[(.ref a0), (.int (0 : Int32)), (.int p2)] below meth c s₁ [] 0 0 := Stand.of_body Bd
  have e0 : s₁.heap = h0 := by rw [← hh, Bd.state]; rfl
  have N0 := Fr.nil n0
  have K0 : Keep h0 h0 [] := Keep.refl _ _
  have ww : ∀ (k : Nat) {d : Jvm.Cond}, tables_1[k]? = some d → d.before av0 Z = true := fun k d h => hw d (List.mem_of_getElem? h)
  show ownEnds p e below s (Q_contains Z a0 p2 as_ ap q0 q1 kp N gq gs h0 n0) ({ frames := 0, cells := 0, slots := 0, locals := 0 } : Room).cells ({ frames := 0, cells := 0, slots := 0, locals := 0 } : Room).slots s₁ (entryFrame m #[(.ref a0), (.int (0 : Int32)), (.int p2)] 3)
  refine ownCast (own_ef9_contains m a0 p2) ?_
  refine ow_aloadN (q := 1) X0 hx (hb hby own_d9_0) rfl rfl rfl ?_
  obtain ⟨T1, X1, e1, st1⟩ := getF X0 hx hZ hown (host := "") (Or.inl (ww 27 rfl)) Via.refl e0 HF1 (g := (mkF m 1 #[rv a0, iv (0 : Int32), iv p2] [(.ref a0)])) rfl rfl (hb hby own_d9_1)
  refine ownGo (T' := T1) (f' := (mkF m 4 #[rv a0, iv (0 : Int32), iv p2] [(.ref ap)])) (st1) ?_
  refine ow_iloadN (q := 5) X1 hx (hb hby own_d9_4) rfl rfl ?_
  refine ownGo (T' := T1) (f' := (mkF m 6 #[rv a0, iv (0 : Int32), iv p2] [(.ref q0)])) (ownAaload HF3 X1 hx hZ e1 (j := (0 : Int32)) (by unfold ownIn; decide) (g := (mkF m 5 #[rv a0, iv (0 : Int32), iv p2] [(.int (0 : Int32)), (.ref ap)])) rfl rfl (hb hby own_d9_5)) ?_
  refine ow_iloadN (q := 7) X1 hx (hb hby own_d9_6) rfl rfl ?_
  refine ownGo (T' := T1) (f' := (mkF m 8 #[rv a0, iv (0 : Int32), iv p2] [(.int (gq p2.toNatClampNeg))])) (ownIaload HF4 X1 hx hZ e1 (j := p2) hv2 (g := (mkF m 7 #[rv a0, iv (0 : Int32), iv p2] [(.int p2), (.ref q0)])) rfl rfl (hb hby own_d9_7)) ?_
  generalize hv_v2 : (gq p2.toNatClampNeg) = v2
  refine ow_aloadN (q := 9) X1 hx (hb hby own_d9_8) rfl rfl rfl ?_
  obtain ⟨T3, X3, e3, st3⟩ := getF X1 hx hZ hown (host := "") (Or.inl (ww 22 rfl)) Via.refl e1 HF0 (g := (mkF m 9 #[rv a0, iv (0 : Int32), iv p2] [(.ref a0), (.int v2)])) rfl rfl (hb hby own_d9_9)
  refine ownGo (T' := T3) (f' := (mkF m 12 #[rv a0, iv (0 : Int32), iv p2] [(.ref as_), (.int v2)])) (st3) ?_
  refine ow_iloadN (q := 13) X3 hx (hb hby own_d9_12) rfl rfl ?_
  refine ownGo (T' := T3) (f' := (mkF m 14 #[rv a0, iv (0 : Int32), iv p2] [(.int (gs 0)), (.int v2)])) (ownIaload HF2 X3 hx hZ e3 (j := (0 : Int32)) (by unfold ownIn; decide) (g := (mkF m 13 #[rv a0, iv (0 : Int32), iv p2] [(.int (0 : Int32)), (.ref as_), (.int v2)])) rfl rfl (hb hby own_d9_13)) ?_
  generalize hv_v4 : (gs 0) = v4
  by_cases hc14_5 : v2 < v4
  · refine ow_icmpNo (q := 17) X3 hx (hb hby own_d9_14) rfl (Jvm.Free.XT.ii_ge_f hc14_5) ?_
    refine ow_iconst (q := 18) X3 hx (1 : Int32) (hb hby own_d9_17) rfl rfl ?_
    refine ow_goto (q := 22) X3 hx (hb hby own_d9_18) (by decide) (by decide) ?_
    refine ownRetN X3 hx (r := (1 : Int32)) (Or.inl rfl) Bd.returns (hb hby own_d9_22) hlk (by decide) (by decide) (by decide) ?_
    subst hv_v4 hv_v2
    rw [e3]
    refine ⟨congrArg (fun q => some (Value.int q)) ?_, N0, rfl⟩
    simp [hc14_5]
  · refine ow_icmpYes (q := 21) X3 hx (hb hby own_d9_14) (Jvm.Free.XT.ii_ge_t hc14_5) (by decide) (by decide) ?_
    refine ow_iconst (q := 22) X3 hx (0 : Int32) (hb hby own_d9_21) rfl rfl ?_
    refine ownRetN X3 hx (r := (0 : Int32)) (Or.inl rfl) Bd.returns (hb hby own_d9_22) hlk (by decide) (by decide) (by decide) ?_
    subst hv_v4 hv_v2
    rw [e3]
    refine ⟨congrArg (fun q => some (Value.int q)) ?_, N0, rfl⟩
    simp [hc14_5]
theorem own_d7_0 : decode prog_10_method_9_code 0 = .ok (.aload_n 0, 1) := by decide +kernel
theorem own_d7_1 : decode prog_10_method_9_code 1 = .ok (.getfield 36, 3) := by decide +kernel
theorem own_d7_4 : decode prog_10_method_9_code 4 = .ok (.iload_n 1, 1) := by decide +kernel
theorem own_d7_5 : decode prog_10_method_9_code 5 = .ok (.if_icmp .le 41, 3) := by decide +kernel
theorem own_d7_46 : decode prog_10_method_9_code 46 = .ok (.return_, 1) := by decide +kernel
theorem own_ef7_undo_0_0 (m : MethodId) (a0 : Addr) : entryFrame m #[(.ref a0), (.int (0 : Int32))] 2 = mkF m 0 #[rv a0, iv (0 : Int32)] [] := by first | (simp [entryFrame, mkF, argsToLocals, Value.category]; done) | rfl
def Q_undo_0_0 (Z : State) (a0 : Addr) (at_ : Addr) (as_ : Addr) (ad : Addr) (ap : Addr) (gt : Nat → Int32) (gs : Nat → Int32) (h0 : Heap) (n0 : Nat) (v : Option Value) (h : Heap) (L : List Loc) : Prop := v = none ∧ Fr n0 L ∧ h = h0
set_option maxRecDepth 65536 in
set_option maxHeartbeats 40000000 in
theorem rm_undo_0_0 (l : Launch) (Z : State) (av0 : Array Value) (hw : ∀ d ∈ tables_1, d.before av0 Z = true) (ws : List Jvm.Cond) (a0 : Addr) (at_ : Addr) (as_ : Addr) (ad : Addr) (ap : Addr) (gt : Nat → Int32) (gs : Nat → Int32) (h0 : Heap) (n0 : Nat) (Z0 : n0 ≤ h0.size) (HF0 : Exa Z h0 a0 "com/example/sieveline/sieveline/model/CurrentDomains") (HF1 : Fld Z h0 a0 "com/example/sieveline/sieveline/model/CurrentDomains" "trail" "[I" (.ref at_)) (HF2 : Fld Z h0 a0 "com/example/sieveline/sieveline/model/CurrentDomains" "size" "[I" (.ref as_)) (HF3 : Fld Z h0 a0 "com/example/sieveline/sieveline/model/CurrentDomains" "dense" "[[I" (.ref ad)) (HF4 : Fld Z h0 a0 "com/example/sieveline/sieveline/model/CurrentDomains" "position" "[[I" (.ref ap)) (HF5 : Fld Z h0 a0 "com/example/sieveline/sieveline/model/CurrentDomains" "top" "I" (.int (0 : Int32))) (HF6 : ownAI Z h0 at_ .int 64 gt) (HF7 : ownAI Z h0 as_ .int 2 gs) (hn1 : a0 ≠ at_) (hn2 : a0 ≠ as_) (hn3 : at_ ≠ as_) :
    MetFree l (⟨"com/example/sieveline/sieveline/model/CurrentDomains", "undo", "(I)V"⟩ : MethodName) (head1 (Jvm.Cond.code (⟨"com/example/sieveline/sieveline/model/CurrentDomains", "undo", "(I)V"⟩ : MethodName) prog_10_method_9_code 2 none :: ws) ({ frames := 0, cells := 0, slots := 0, locals := 0 } : Room)) (fun a U => a = #[(.ref a0), (.int (0 : Int32))] ∧ Z.Warmed39 U.vm ∧ U.heap = h0) (fun _ _ _ _ _ => True) (fun _ U o U' => ∃ v L, o = .returned v ∧ (Q_undo_0_0 Z a0 at_ as_ ad ap gt gs h0 n0) v U'.heap L ∧ FrameEnd U o U' L ({ frames := 0, cells := 0, slots := 0, locals := 0 } : Room).cells ({ frames := 0, cells := 0, slots := 0, locals := 0 } : Room).slots) := by
  refine MetFree.of_bodySF (plainFor_of_name own_pn_CurrentDomains) hisR ?_
  intro p e s m args below meth c s₁ Bd hml0 hP hK
  obtain ⟨rfl, hZ, hh⟩ := hP
  have hx := Bd.exec
  have hby := Bd.bytes
  have hml : c.maxLocals = 2 := hml0
  have hown : s.vm.findClass "com/example/sieveline/sieveline/model/CurrentDomains" = some m.cls := findClass_of_methodNamed Bd.named
  have hnm := (name_of_methodNamed Bd.named Bd.method).1
  have hlk : meth.locks = false := BodyLoose.notSynchronized Bd
  have X0 : Stand p l e ({ frames := 0, cells := 0, slots := 0, locals := 0 } : Room) s m #[(.ref a0), (.int (0 : Int32))] below meth c s₁ [] 0 0 := Stand.of_body Bd
  have e0 : s₁.heap = h0 := by rw [← hh, Bd.state]; rfl
  have N0 := Fr.nil n0
  have K0 : Keep h0 h0 [] := Keep.refl _ _
  have ww : ∀ (k : Nat) {d : Jvm.Cond}, tables_1[k]? = some d → d.before av0 Z = true := fun k d h => hw d (List.mem_of_getElem? h)
  show ownEnds p e below s (Q_undo_0_0 Z a0 at_ as_ ad ap gt gs h0 n0) ({ frames := 0, cells := 0, slots := 0, locals := 0 } : Room).cells ({ frames := 0, cells := 0, slots := 0, locals := 0 } : Room).slots s₁ (entryFrame m #[(.ref a0), (.int (0 : Int32))] 2)
  refine ownCast (own_ef7_undo_0_0 m a0) ?_
  refine ow_aloadN (q := 1) X0 hx (hb hby own_d7_0) rfl rfl rfl ?_
  obtain ⟨T1, X1, e1, st1⟩ := getF X0 hx hZ hown (host := "") (Or.inl (ww 34 rfl)) Via.refl e0 HF5 (g := (mkF m 1 #[rv a0, iv (0 : Int32)] [(.ref a0)])) rfl rfl (hb hby own_d7_1)
  refine ownGo (T' := T1) (f' := (mkF m 4 #[rv a0, iv (0 : Int32)] [(.int (0 : Int32))])) (st1) ?_
  refine ow_iloadN (q := 5) X1 hx (hb hby own_d7_4) rfl rfl ?_
  refine ow_icmpYes (q := 46) X1 hx (hb hby own_d7_5) (Jvm.Free.XT.ii_le_t (by decide)) (by decide) (by decide) ?_
  refine ownRetV X1 hx Bd.returns (hb hby own_d7_46) hlk (by decide) (by decide) ?_
  rw [e1]
  exact ⟨rfl, N0, rfl⟩
theorem own_d7_8 : decode prog_10_method_9_code 8 = .ok (.aload_n 0, 1) := by decide +kernel
theorem own_d7_9 : decode prog_10_method_9_code 9 = .ok (.dup, 1) := by decide +kernel
theorem own_d7_10 : decode prog_10_method_9_code 10 = .ok (.getfield 36, 3) := by decide +kernel
theorem own_d7_13 : decode prog_10_method_9_code 13 = .ok (.iconst 2, 1) := by decide +kernel
theorem own_d7_14 : decode prog_10_method_9_code 14 = .ok (.isub, 1) := by decide +kernel
theorem own_d7_15 : decode prog_10_method_9_code 15 = .ok (.putfield 36, 3) := by decide +kernel
theorem own_d7_18 : decode prog_10_method_9_code 18 = .ok (.aload_n 0, 1) := by decide +kernel
theorem own_d7_19 : decode prog_10_method_9_code 19 = .ok (.getfield 18, 3) := by decide +kernel
theorem own_d7_22 : decode prog_10_method_9_code 22 = .ok (.aload_n 0, 1) := by decide +kernel
theorem own_d7_23 : decode prog_10_method_9_code 23 = .ok (.getfield 7, 3) := by decide +kernel
theorem own_d7_26 : decode prog_10_method_9_code 26 = .ok (.aload_n 0, 1) := by decide +kernel
theorem own_d7_27 : decode prog_10_method_9_code 27 = .ok (.getfield 36, 3) := by decide +kernel
theorem own_d7_30 : decode prog_10_method_9_code 30 = .ok (.iaload, 1) := by decide +kernel
theorem own_d7_31 : decode prog_10_method_9_code 31 = .ok (.aload_n 0, 1) := by decide +kernel
theorem own_d7_32 : decode prog_10_method_9_code 32 = .ok (.getfield 7, 3) := by decide +kernel
theorem own_d7_35 : decode prog_10_method_9_code 35 = .ok (.aload_n 0, 1) := by decide +kernel
theorem own_d7_36 : decode prog_10_method_9_code 36 = .ok (.getfield 36, 3) := by decide +kernel
theorem own_d7_39 : decode prog_10_method_9_code 39 = .ok (.iconst 1, 1) := by decide +kernel
theorem own_d7_40 : decode prog_10_method_9_code 40 = .ok (.iadd, 1) := by decide +kernel
theorem own_d7_41 : decode prog_10_method_9_code 41 = .ok (.iaload, 1) := by decide +kernel
theorem own_d7_42 : decode prog_10_method_9_code 42 = .ok (.iastore, 1) := by decide +kernel
theorem own_d7_43 : decode prog_10_method_9_code 43 = .ok (.goto (-43), 3) := by decide +kernel
theorem own_ef7_undo_0_1 (m : MethodId) (a0 : Addr) : entryFrame m #[(.ref a0), (.int (0 : Int32))] 2 = mkF m 0 #[rv a0, iv (0 : Int32)] [] := by first | (simp [entryFrame, mkF, argsToLocals, Value.category]; done) | rfl
def Q_undo_0_1 (Z : State) (a0 : Addr) (at_ : Addr) (as_ : Addr) (ad : Addr) (ap : Addr) (gt : Nat → Int32) (gs : Nat → Int32) (h0 : Heap) (n0 : Nat) (v : Option Value) (h : Heap) (L : List Loc) : Prop := v = none ∧ Fr n0 L ∧ Keep h0 h [a0, as_] ∧ Exa Z h a0 "com/example/sieveline/sieveline/model/CurrentDomains" ∧ Fld Z h a0 "com/example/sieveline/sieveline/model/CurrentDomains" "trail" "[I" (.ref at_) ∧ Fld Z h a0 "com/example/sieveline/sieveline/model/CurrentDomains" "size" "[I" (.ref as_) ∧ Fld Z h a0 "com/example/sieveline/sieveline/model/CurrentDomains" "dense" "[[I" (.ref ad) ∧ Fld Z h a0 "com/example/sieveline/sieveline/model/CurrentDomains" "position" "[[I" (.ref ap) ∧ Fld Z h a0 "com/example/sieveline/sieveline/model/CurrentDomains" "top" "I" (.int (0 : Int32)) ∧ ownAI Z h as_ .int 2 (ownUpd gs 0 (gt 1))
set_option maxRecDepth 65536 in
set_option maxHeartbeats 40000000 in
theorem rm_undo_0_1 (l : Launch) (Z : State) (av0 : Array Value) (hw : ∀ d ∈ tables_1, d.before av0 Z = true) (ws : List Jvm.Cond) (a0 : Addr) (at_ : Addr) (as_ : Addr) (ad : Addr) (ap : Addr) (gt : Nat → Int32) (gs : Nat → Int32) (h0 : Heap) (n0 : Nat) (Z0 : n0 ≤ h0.size) (HF0 : Exa Z h0 a0 "com/example/sieveline/sieveline/model/CurrentDomains") (HF1 : Fld Z h0 a0 "com/example/sieveline/sieveline/model/CurrentDomains" "trail" "[I" (.ref at_)) (HF2 : Fld Z h0 a0 "com/example/sieveline/sieveline/model/CurrentDomains" "size" "[I" (.ref as_)) (HF3 : Fld Z h0 a0 "com/example/sieveline/sieveline/model/CurrentDomains" "dense" "[[I" (.ref ad)) (HF4 : Fld Z h0 a0 "com/example/sieveline/sieveline/model/CurrentDomains" "position" "[[I" (.ref ap)) (HF5 : Fld Z h0 a0 "com/example/sieveline/sieveline/model/CurrentDomains" "top" "I" (.int (2 : Int32))) (HF6 : ownAI Z h0 at_ .int 64 gt) (HF7 : ownAI Z h0 as_ .int 2 gs) (G_a0 : n0 ≤ a0) (G_as_ : n0 ≤ as_) (hn1 : a0 ≠ at_) (hn2 : a0 ≠ as_) (hn3 : at_ ≠ as_) (he0 : (gt 0) = (0 : Int32)) :
    MetFree l (⟨"com/example/sieveline/sieveline/model/CurrentDomains", "undo", "(I)V"⟩ : MethodName) (head1 (Jvm.Cond.code (⟨"com/example/sieveline/sieveline/model/CurrentDomains", "undo", "(I)V"⟩ : MethodName) prog_10_method_9_code 2 none :: ws) ({ frames := 0, cells := 0, slots := 0, locals := 0 } : Room)) (fun a U => a = #[(.ref a0), (.int (0 : Int32))] ∧ Z.Warmed39 U.vm ∧ U.heap = h0) (fun _ _ _ _ _ => True) (fun _ U o U' => ∃ v L, o = .returned v ∧ (Q_undo_0_1 Z a0 at_ as_ ad ap gt gs h0 n0) v U'.heap L ∧ FrameEnd U o U' L ({ frames := 0, cells := 0, slots := 0, locals := 0 } : Room).cells ({ frames := 0, cells := 0, slots := 0, locals := 0 } : Room).slots) := by
  refine MetFree.of_bodySF (plainFor_of_name own_pn_CurrentDomains) hisR ?_
  intro p e s m args below meth c s₁ Bd hml0 hP hK
  obtain ⟨rfl, hZ, hh⟩ := hP
  have hx := Bd.exec
  have hby := Bd.bytes
  have hml : c.maxLocals = 2 := hml0
  have hown : s.vm.findClass "com/example/sieveline/sieveline/model/CurrentDomains" = some m.cls := findClass_of_methodNamed Bd.named
  have hnm := (name_of_methodNamed Bd.named Bd.method).1
  have hlk : meth.locks = false := BodyLoose.notSynchronized Bd
  have X0 : Stand p l e ({ frames := 0, cells := 0, slots := 0, locals := 0 } : Room) s m #[(.ref a0), (.int (0 : Int32))] below meth c s₁ [] 0 0 := Stand.of_body Bd
  have e0 : s₁.heap = h0 := by rw [← hh, Bd.state]; rfl
  have N0 := Fr.nil n0
  have K0 : Keep h0 h0 [a0, as_] := Keep.refl _ _
  have ww : ∀ (k : Nat) {d : Jvm.Cond}, tables_1[k]? = some d → d.before av0 Z = true := fun k d h => hw d (List.mem_of_getElem? h)
  show ownEnds p e below s (Q_undo_0_1 Z a0 at_ as_ ad ap gt gs h0 n0) ({ frames := 0, cells := 0, slots := 0, locals := 0 } : Room).cells ({ frames := 0, cells := 0, slots := 0, locals := 0 } : Room).slots s₁ (entryFrame m #[(.ref a0), (.int (0 : Int32))] 2)
  refine ownCast (own_ef7_undo_0_1 m a0) ?_
  refine ow_aloadN (q := 1) X0 hx (hb hby own_d7_0) rfl rfl rfl ?_
  obtain ⟨T1, X1, e1, st1⟩ := getF X0 hx hZ hown (host := "") (Or.inl (ww 34 rfl)) Via.refl e0 HF5 (g := (mkF m 1 #[rv a0, iv (0 : Int32)] [(.ref a0)])) rfl rfl (hb hby own_d7_1)
  refine ownGo (T' := T1) (f' := (mkF m 4 #[rv a0, iv (0 : Int32)] [(.int (2 : Int32))])) (st1) ?_
  refine ow_iloadN (q := 5) X1 hx (hb hby own_d7_4) rfl rfl ?_
  refine ow_icmpNo (q := 8) X1 hx (hb hby own_d7_5) rfl (Jvm.Free.XT.ii_le_f (by decide)) ?_
  refine ow_aloadN (q := 9) X1 hx (hb hby own_d7_8) rfl rfl rfl ?_
  refine ow_dup (q := 10) X1 hx (hb hby own_d7_9) rfl rfl ?_
  obtain ⟨T2, X2, e2, st2⟩ := getF X1 hx hZ hown (host := "") (Or.inl (ww 34 rfl)) Via.refl e1 HF5 (g := (mkF m 10 #[rv a0, iv (0 : Int32)] [(.ref a0), (.ref a0)])) rfl rfl (hb hby own_d7_10)
  refine ownGo (T' := T2) (f' := (mkF m 13 #[rv a0, iv (0 : Int32)] [(.int (2 : Int32)), (.ref a0)])) (st2) ?_
  refine ow_iconst (q := 14) X2 hx (2 : Int32) (hb hby own_d7_13) rfl rfl ?_
  refine ow_isub (q := 15) X2 hx (0 : Int32) (hb hby own_d7_14) rfl (by decide) ?_
  obtain ⟨T3, h3, X3, e3, W3, st3⟩ := putF X2 hx hZ hown (host := "") (Or.inl (ww 34 rfl)) Via.refl e2 HF5 HF0 (Or.inl (ww 35 rfl)) (ww 2 rfl) (ty := .int) (by decide) rfl rfl (g := (mkF m 15 #[rv a0, iv (0 : Int32)] [(.int (0 : Int32)), (.ref a0)])) rfl rfl (hb hby own_d7_15)
  have N3 := Fr.snoc X3 N0 G_a0
  have K3 : Keep h0 h3 [a0, as_] := K0.wr W3 (Or.inl (List.mem_of_getElem? (i := 0) rfl))
  have F4 : Exa Z h3 a0 "com/example/sieveline/sieveline/model/CurrentDomains" := HF0.wr W3
  have F5 : Fld Z h3 a0 "com/example/sieveline/sieveline/model/CurrentDomains" "trail" "[I" (.ref at_) := HF1.other W3 (Or.inr (slot_ne (Or.inl (ww 12 rfl)) (Or.inl (ww 35 rfl)) (by decide) (t := (.array .int)) (t' := .int) (by decide) (by decide)))
  have F6 : Fld Z h3 a0 "com/example/sieveline/sieveline/model/CurrentDomains" "size" "[I" (.ref as_) := HF2.other W3 (Or.inr (slot_ne (Or.inr (ww 23 rfl)) (Or.inl (ww 35 rfl)) (by decide) (t := (.array .int)) (t' := .int) (by decide) (by decide)))
  have F7 : Fld Z h3 a0 "com/example/sieveline/sieveline/model/CurrentDomains" "dense" "[[I" (.ref ad) := HF3.other W3 (Or.inr (slot_ne (Or.inr (ww 26 rfl)) (Or.inl (ww 35 rfl)) (by decide) (t := (.array (.array .int))) (t' := .int) (by decide) (by decide)))
  have F8 : Fld Z h3 a0 "com/example/sieveline/sieveline/model/CurrentDomains" "position" "[[I" (.ref ap) := HF4.other W3 (Or.inr (slot_ne (Or.inr (ww 28 rfl)) (Or.inl (ww 35 rfl)) (by decide) (t := (.array (.array .int))) (t' := .int) (by decide) (by decide)))
  have F9 : Fld Z h3 a0 "com/example/sieveline/sieveline/model/CurrentDomains" "top" "I" (.int (0 : Int32)) := HF5.same W3
  have F10 : ownAI Z h3 at_ .int 64 gt := HF6.other W3 (Ne.symm hn1)
  have F11 : ownAI Z h3 as_ .int 2 gs := HF7.other W3 (Ne.symm hn2)
  refine ownGo (T' := T3) (f' := (mkF m 18 #[rv a0, iv (0 : Int32)] [])) (st3) ?_
  refine ow_aloadN (q := 19) X3 hx (hb hby own_d7_18) rfl rfl rfl ?_
  obtain ⟨T12, X12, e12, st12⟩ := getF X3 hx hZ hown (host := "") (Or.inl (ww 22 rfl)) Via.refl e3 F6 (g := (mkF m 19 #[rv a0, iv (0 : Int32)] [(.ref a0)])) rfl rfl (hb hby own_d7_19)
  refine ownGo (T' := T12) (f' := (mkF m 22 #[rv a0, iv (0 : Int32)] [(.ref as_)])) (st12) ?_
  refine ow_aloadN (q := 23) X12 hx (hb hby own_d7_22) rfl rfl rfl ?_
  obtain ⟨T13, X13, e13, st13⟩ := getF X12 hx hZ hown (host := "") (Or.inl (ww 11 rfl)) Via.refl e12 F5 (g := (mkF m 23 #[rv a0, iv (0 : Int32)] [(.ref a0), (.ref as_)])) rfl rfl (hb hby own_d7_23)
  refine ownGo (T' := T13) (f' := (mkF m 26 #[rv a0, iv (0 : Int32)] [(.ref at_), (.ref as_)])) (st13) ?_
  refine ow_aloadN (q := 27) X13 hx (hb hby own_d7_26) rfl rfl rfl ?_
  obtain ⟨T14, X14, e14, st14⟩ := getF X13 hx hZ hown (host := "") (Or.inl (ww 34 rfl)) Via.refl e13 F9 (g := (mkF m 27 #[rv a0, iv (0 : Int32)] [(.ref a0), (.ref at_), (.ref as_)])) rfl rfl (hb hby own_d7_27)
  refine ownGo (T' := T14) (f' := (mkF m 30 #[rv a0, iv (0 : Int32)] [(.int (0 : Int32)), (.ref at_), (.ref as_)])) (st14) ?_
  refine ownGo (T' := T14) (f' := (mkF m 31 #[rv a0, iv (0 : Int32)] [(.int (gt 0)), (.ref as_)])) (ownIaload F10 X14 hx hZ e14 (j := (0 : Int32)) (by unfold ownIn; decide) (g := (mkF m 30 #[rv a0, iv (0 : Int32)] [(.int (0 : Int32)), (.ref at_), (.ref as_)])) rfl rfl (hb hby own_d7_30)) ?_
  generalize hv_v15 : (gt 0) = v15
  have hs16 := (hv_v15.symm.trans he0)
  subst hs16
  refine ow_aloadN (q := 32) X14 hx (hb hby own_d7_31) rfl rfl rfl ?_
  obtain ⟨T17, X17, e17, st17⟩ := getF X14 hx hZ hown (host := "") (Or.inl (ww 11 rfl)) Via.refl e14 F5 (g := (mkF m 32 #[rv a0, iv (0 : Int32)] [(.ref a0), (.int (0 : Int32)), (.ref as_)])) rfl rfl (hb hby own_d7_32)
  refine ownGo (T' := T17) (f' := (mkF m 35 #[rv a0, iv (0 : Int32)] [(.ref at_), (.int (0 : Int32)), (.ref as_)])) (st17) ?_
  refine ow_aloadN (q := 36) X17 hx (hb hby own_d7_35) rfl rfl rfl ?_
  obtain ⟨T18, X18, e18, st18⟩ := getF X17 hx hZ hown (host := "") (Or.inl (ww 34 rfl)) Via.refl e17 F9 (g := (mkF m 36 #[rv a0, iv (0 : Int32)] [(.ref a0), (.ref at_), (.int (0 : Int32)), (.ref as_)])) rfl rfl (hb hby own_d7_36)
  refine ownGo (T' := T18) (f' := (mkF m 39 #[rv a0, iv (0 : Int32)] [(.int (0 : Int32)), (.ref at_), (.int (0 : Int32)), (.ref as_)])) (st18) ?_
  refine ow_iconst (q := 40) X18 hx (1 : Int32) (hb hby own_d7_39) rfl rfl ?_
  refine ow_iadd (q := 41) X18 hx (1 : Int32) (hb hby own_d7_40) rfl (by decide) ?_
  refine ownGo (T' := T18) (f' := (mkF m 42 #[rv a0, iv (0 : Int32)] [(.int (gt 1)), (.int (0 : Int32)), (.ref as_)])) (ownIaload F10 X18 hx hZ e18 (j := (1 : Int32)) (by unfold ownIn; decide) (g := (mkF m 41 #[rv a0, iv (0 : Int32)] [(.int (1 : Int32)), (.ref at_), (.int (0 : Int32)), (.ref as_)])) rfl rfl (hb hby own_d7_41)) ?_
  generalize hv_v19 : (gt 1) = v19
  obtain ⟨T20, h20, X20, e20, W20, F20s, st20⟩ := ownIastore F11 X18 hx hZ e18 (j := (0 : Int32)) (by unfold ownIn; decide) (g := (mkF m 42 #[rv a0, iv (0 : Int32)] [(.int v19), (.int (0 : Int32)), (.ref as_)])) rfl rfl (hb hby own_d7_42)
  have F20r : ownAI Z h20 as_ .int 2 (ownUpd gs 0 v19) := F20s
  have N20 := Fr.snoc X20 N3 G_as_
  have K20 : Keep h0 h20 [a0, as_] := K3.wr W20 (Or.inl (List.mem_of_getElem? (i := 1) rfl))
  have F21 : Exa Z h20 a0 "com/example/sieveline/sieveline/model/CurrentDomains" := F4.wr W20
  have F22 : Fld Z h20 a0 "com/example/sieveline/sieveline/model/CurrentDomains" "trail" "[I" (.ref at_) := F5.other W20 (Or.inl hn2)
  have F23 : Fld Z h20 a0 "com/example/sieveline/sieveline/model/CurrentDomains" "size" "[I" (.ref as_) := F6.other W20 (Or.inl hn2)
  have F24 : Fld Z h20 a0 "com/example/sieveline/sieveline/model/CurrentDomains" "dense" "[[I" (.ref ad) := F7.other W20 (Or.inl hn2)
  have F25 : Fld Z h20 a0 "com/example/sieveline/sieveline/model/CurrentDomains" "position" "[[I" (.ref ap) := F8.other W20 (Or.inl hn2)
  have F26 : Fld Z h20 a0 "com/example/sieveline/sieveline/model/CurrentDomains" "top" "I" (.int (0 : Int32)) := F9.other W20 (Or.inl hn2)
  have F27 : ownAI Z h20 at_ .int 64 gt := F10.other W20 hn3
  refine ownGo (T' := T20) (f' := (mkF m 43 #[rv a0, iv (0 : Int32)] [])) (st20) ?_
  refine ow_goto (q := 0) X20 hx (hb hby own_d7_43) (by decide) (by decide) ?_
  refine ow_aloadN (q := 1) X20 hx (hb hby own_d7_0) rfl rfl rfl ?_
  obtain ⟨T28, X28, e28, st28⟩ := getF X20 hx hZ hown (host := "") (Or.inl (ww 34 rfl)) Via.refl e20 F26 (g := (mkF m 1 #[rv a0, iv (0 : Int32)] [(.ref a0)])) rfl rfl (hb hby own_d7_1)
  refine ownGo (T' := T28) (f' := (mkF m 4 #[rv a0, iv (0 : Int32)] [(.int (0 : Int32))])) (st28) ?_
  refine ow_iloadN (q := 5) X28 hx (hb hby own_d7_4) rfl rfl ?_
  refine ow_icmpYes (q := 46) X28 hx (hb hby own_d7_5) (Jvm.Free.XT.ii_le_t (by decide)) (by decide) (by decide) ?_
  refine ownRetV X28 hx Bd.returns (hb hby own_d7_46) hlk (by decide) (by decide) ?_
  subst hv_v19
  rw [e28]
  exact ⟨rfl, N20, K20, F21, F22, F23, F24, F25, F26, F20r⟩
theorem own_ef7_undo_0_2 (m : MethodId) (a0 : Addr) : entryFrame m #[(.ref a0), (.int (0 : Int32))] 2 = mkF m 0 #[rv a0, iv (0 : Int32)] [] := by first | (simp [entryFrame, mkF, argsToLocals, Value.category]; done) | rfl
def Q_undo_0_2 (Z : State) (a0 : Addr) (at_ : Addr) (as_ : Addr) (ad : Addr) (ap : Addr) (gt : Nat → Int32) (gs : Nat → Int32) (h0 : Heap) (n0 : Nat) (v : Option Value) (h : Heap) (L : List Loc) : Prop := v = none ∧ Fr n0 L ∧ Keep h0 h [a0, as_] ∧ Exa Z h a0 "com/example/sieveline/sieveline/model/CurrentDomains" ∧ Fld Z h a0 "com/example/sieveline/sieveline/model/CurrentDomains" "trail" "[I" (.ref at_) ∧ Fld Z h a0 "com/example/sieveline/sieveline/model/CurrentDomains" "size" "[I" (.ref as_) ∧ Fld Z h a0 "com/example/sieveline/sieveline/model/CurrentDomains" "dense" "[[I" (.ref ad) ∧ Fld Z h a0 "com/example/sieveline/sieveline/model/CurrentDomains" "position" "[[I" (.ref ap) ∧ Fld Z h a0 "com/example/sieveline/sieveline/model/CurrentDomains" "top" "I" (.int (0 : Int32)) ∧ ownAI Z h as_ .int 2 (ownUpd (ownUpd gs 1 (gt 3)) 0 (gt 1))
set_option maxRecDepth 65536 in
set_option maxHeartbeats 40000000 in
theorem rm_undo_0_2 (l : Launch) (Z : State) (av0 : Array Value) (hw : ∀ d ∈ tables_1, d.before av0 Z = true) (ws : List Jvm.Cond) (a0 : Addr) (at_ : Addr) (as_ : Addr) (ad : Addr) (ap : Addr) (gt : Nat → Int32) (gs : Nat → Int32) (h0 : Heap) (n0 : Nat) (Z0 : n0 ≤ h0.size) (HF0 : Exa Z h0 a0 "com/example/sieveline/sieveline/model/CurrentDomains") (HF1 : Fld Z h0 a0 "com/example/sieveline/sieveline/model/CurrentDomains" "trail" "[I" (.ref at_)) (HF2 : Fld Z h0 a0 "com/example/sieveline/sieveline/model/CurrentDomains" "size" "[I" (.ref as_)) (HF3 : Fld Z h0 a0 "com/example/sieveline/sieveline/model/CurrentDomains" "dense" "[[I" (.ref ad)) (HF4 : Fld Z h0 a0 "com/example/sieveline/sieveline/model/CurrentDomains" "position" "[[I" (.ref ap)) (HF5 : Fld Z h0 a0 "com/example/sieveline/sieveline/model/CurrentDomains" "top" "I" (.int (4 : Int32))) (HF6 : ownAI Z h0 at_ .int 64 gt) (HF7 : ownAI Z h0 as_ .int 2 gs) (G_a0 : n0 ≤ a0) (G_as_ : n0 ≤ as_) (hn1 : a0 ≠ at_) (hn2 : a0 ≠ as_) (hn3 : at_ ≠ as_) (he0 : (gt 0) = (0 : Int32)) (he1 : (gt 2) = (1 : Int32)) :
    MetFree l (⟨"com/example/sieveline/sieveline/model/CurrentDomains", "undo", "(I)V"⟩ : MethodName) (head1 (Jvm.Cond.code (⟨"com/example/sieveline/sieveline/model/CurrentDomains", "undo", "(I)V"⟩ : MethodName) prog_10_method_9_code 2 none :: ws) ({ frames := 0, cells := 0, slots := 0, locals := 0 } : Room)) (fun a U => a = #[(.ref a0), (.int (0 : Int32))] ∧ Z.Warmed39 U.vm ∧ U.heap = h0) (fun _ _ _ _ _ => True) (fun _ U o U' => ∃ v L, o = .returned v ∧ (Q_undo_0_2 Z a0 at_ as_ ad ap gt gs h0 n0) v U'.heap L ∧ FrameEnd U o U' L ({ frames := 0, cells := 0, slots := 0, locals := 0 } : Room).cells ({ frames := 0, cells := 0, slots := 0, locals := 0 } : Room).slots) := by
  refine MetFree.of_bodySF (plainFor_of_name own_pn_CurrentDomains) hisR ?_
  intro p e s m args below meth c s₁ Bd hml0 hP hK
  obtain ⟨rfl, hZ, hh⟩ := hP
  have hx := Bd.exec
  have hby := Bd.bytes
  have hml : c.maxLocals = 2 := hml0
  have hown : s.vm.findClass "com/example/sieveline/sieveline/model/CurrentDomains" = some m.cls := findClass_of_methodNamed Bd.named
  have hnm := (name_of_methodNamed Bd.named Bd.method).1
  have hlk : meth.locks = false := BodyLoose.notSynchronized Bd
  have X0 : Stand p l e ({ frames := 0, cells := 0, slots := 0, locals := 0 } : Room) s m #[(.ref a0), (.int (0 : Int32))] below meth c s₁ [] 0 0 := Stand.of_body Bd
  have e0 : s₁.heap = h0 := by rw [← hh, Bd.state]; rfl
  have N0 := Fr.nil n0
  have K0 : Keep h0 h0 [a0, as_] := Keep.refl _ _
  have ww : ∀ (k : Nat) {d : Jvm.Cond}, tables_1[k]? = some d → d.before av0 Z = true := fun k d h => hw d (List.mem_of_getElem? h)
  show ownEnds p e below s (Q_undo_0_2 Z a0 at_ as_ ad ap gt gs h0 n0) ({ frames := 0, cells := 0, slots := 0, locals := 0 } : Room).cells ({ frames := 0, cells := 0, slots := 0, locals := 0 } : Room).slots s₁ (entryFrame m #[(.ref a0), (.int (0 : Int32))] 2)
  refine ownCast (own_ef7_undo_0_2 m a0) ?_
  refine ow_aloadN (q := 1) X0 hx (hb hby own_d7_0) rfl rfl rfl ?_
  obtain ⟨T1, X1, e1, st1⟩ := getF X0 hx hZ hown (host := "") (Or.inl (ww 34 rfl)) Via.refl e0 HF5 (g := (mkF m 1 #[rv a0, iv (0 : Int32)] [(.ref a0)])) rfl rfl (hb hby own_d7_1)
  refine ownGo (T' := T1) (f' := (mkF m 4 #[rv a0, iv (0 : Int32)] [(.int (4 : Int32))])) (st1) ?_
  refine ow_iloadN (q := 5) X1 hx (hb hby own_d7_4) rfl rfl ?_
  refine ow_icmpNo (q := 8) X1 hx (hb hby own_d7_5) rfl (Jvm.Free.XT.ii_le_f (by decide)) ?_
  refine ow_aloadN (q := 9) X1 hx (hb hby own_d7_8) rfl rfl rfl ?_
  refine ow_dup (q := 10) X1 hx (hb hby own_d7_9) rfl rfl ?_
  obtain ⟨T2, X2, e2, st2⟩ := getF X1 hx hZ hown (host := "") (Or.inl (ww 34 rfl)) Via.refl e1 HF5 (g := (mkF m 10 #[rv a0, iv (0 : Int32)] [(.ref a0), (.ref a0)])) rfl rfl (hb hby own_d7_10)
  refine ownGo (T' := T2) (f' := (mkF m 13 #[rv a0, iv (0 : Int32)] [(.int (4 : Int32)), (.ref a0)])) (st2) ?_
  refine ow_iconst (q := 14) X2 hx (2 : Int32) (hb hby own_d7_13) rfl rfl ?_
  refine ow_isub (q := 15) X2 hx (2 : Int32) (hb hby own_d7_14) rfl (by decide) ?_
  obtain ⟨T3, h3, X3, e3, W3, st3⟩ := putF X2 hx hZ hown (host := "") (Or.inl (ww 34 rfl)) Via.refl e2 HF5 HF0 (Or.inl (ww 35 rfl)) (ww 2 rfl) (ty := .int) (by decide) rfl rfl (g := (mkF m 15 #[rv a0, iv (0 : Int32)] [(.int (2 : Int32)), (.ref a0)])) rfl rfl (hb hby own_d7_15)
  have N3 := Fr.snoc X3 N0 G_a0
  have K3 : Keep h0 h3 [a0, as_] := K0.wr W3 (Or.inl (List.mem_of_getElem? (i := 0) rfl))
  have F4 : Exa Z h3 a0 "com/example/sieveline/sieveline/model/CurrentDomains" := HF0.wr W3
  have F5 : Fld Z h3 a0 "com/example/sieveline/sieveline/model/CurrentDomains" "trail" "[I" (.ref at_) := HF1.other W3 (Or.inr (slot_ne (Or.inl (ww 12 rfl)) (Or.inl (ww 35 rfl)) (by decide) (t := (.array .int)) (t' := .int) (by decide) (by decide)))
  have F6 : Fld Z h3 a0 "com/example/sieveline/sieveline/model/CurrentDomains" "size" "[I" (.ref as_) := HF2.other W3 (Or.inr (slot_ne (Or.inr (ww 23 rfl)) (Or.inl (ww 35 rfl)) (by decide) (t := (.array .int)) (t' := .int) (by decide) (by decide)))
  have F7 : Fld Z h3 a0 "com/example/sieveline/sieveline/model/CurrentDomains" "dense" "[[I" (.ref ad) := HF3.other W3 (Or.inr (slot_ne (Or.inr (ww 26 rfl)) (Or.inl (ww 35 rfl)) (by decide) (t := (.array (.array .int))) (t' := .int) (by decide) (by decide)))
  have F8 : Fld Z h3 a0 "com/example/sieveline/sieveline/model/CurrentDomains" "position" "[[I" (.ref ap) := HF4.other W3 (Or.inr (slot_ne (Or.inr (ww 28 rfl)) (Or.inl (ww 35 rfl)) (by decide) (t := (.array (.array .int))) (t' := .int) (by decide) (by decide)))
  have F9 : Fld Z h3 a0 "com/example/sieveline/sieveline/model/CurrentDomains" "top" "I" (.int (2 : Int32)) := HF5.same W3
  have F10 : ownAI Z h3 at_ .int 64 gt := HF6.other W3 (Ne.symm hn1)
  have F11 : ownAI Z h3 as_ .int 2 gs := HF7.other W3 (Ne.symm hn2)
  refine ownGo (T' := T3) (f' := (mkF m 18 #[rv a0, iv (0 : Int32)] [])) (st3) ?_
  refine ow_aloadN (q := 19) X3 hx (hb hby own_d7_18) rfl rfl rfl ?_
  obtain ⟨T12, X12, e12, st12⟩ := getF X3 hx hZ hown (host := "") (Or.inl (ww 22 rfl)) Via.refl e3 F6 (g := (mkF m 19 #[rv a0, iv (0 : Int32)] [(.ref a0)])) rfl rfl (hb hby own_d7_19)
  refine ownGo (T' := T12) (f' := (mkF m 22 #[rv a0, iv (0 : Int32)] [(.ref as_)])) (st12) ?_
  refine ow_aloadN (q := 23) X12 hx (hb hby own_d7_22) rfl rfl rfl ?_
  obtain ⟨T13, X13, e13, st13⟩ := getF X12 hx hZ hown (host := "") (Or.inl (ww 11 rfl)) Via.refl e12 F5 (g := (mkF m 23 #[rv a0, iv (0 : Int32)] [(.ref a0), (.ref as_)])) rfl rfl (hb hby own_d7_23)
  refine ownGo (T' := T13) (f' := (mkF m 26 #[rv a0, iv (0 : Int32)] [(.ref at_), (.ref as_)])) (st13) ?_
  refine ow_aloadN (q := 27) X13 hx (hb hby own_d7_26) rfl rfl rfl ?_
  obtain ⟨T14, X14, e14, st14⟩ := getF X13 hx hZ hown (host := "") (Or.inl (ww 34 rfl)) Via.refl e13 F9 (g := (mkF m 27 #[rv a0, iv (0 : Int32)] [(.ref a0), (.ref at_), (.ref as_)])) rfl rfl (hb hby own_d7_27)
  refine ownGo (T' := T14) (f' := (mkF m 30 #[rv a0, iv (0 : Int32)] [(.int (2 : Int32)), (.ref at_), (.ref as_)])) (st14) ?_
  refine ownGo (T' := T14) (f' := (mkF m 31 #[rv a0, iv (0 : Int32)] [(.int (gt 2)), (.ref as_)])) (ownIaload F10 X14 hx hZ e14 (j := (2 : Int32)) (by unfold ownIn; decide) (g := (mkF m 30 #[rv a0, iv (0 : Int32)] [(.int (2 : Int32)), (.ref at_), (.ref as_)])) rfl rfl (hb hby own_d7_30)) ?_
  generalize hv_v15 : (gt 2) = v15
  have hs16 := (hv_v15.symm.trans he1)
  subst hs16
  refine ow_aloadN (q := 32) X14 hx (hb hby own_d7_31) rfl rfl rfl ?_
  obtain ⟨T17, X17, e17, st17⟩ := getF X14 hx hZ hown (host := "") (Or.inl (ww 11 rfl)) Via.refl e14 F5 (g := (mkF m 32 #[rv a0, iv (0 : Int32)] [(.ref a0), (.int (1 : Int32)), (.ref as_)])) rfl rfl (hb hby own_d7_32)
  refine ownGo (T' := T17) (f' := (mkF m 35 #[rv a0, iv (0 : Int32)] [(.ref at_), (.int (1 : Int32)), (.ref as_)])) (st17) ?_
  refine ow_aloadN (q := 36) X17 hx (hb hby own_d7_35) rfl rfl rfl ?_
  obtain ⟨T18, X18, e18, st18⟩ := getF X17 hx hZ hown (host := "") (Or.inl (ww 34 rfl)) Via.refl e17 F9 (g := (mkF m 36 #[rv a0, iv (0 : Int32)] [(.ref a0), (.ref at_), (.int (1 : Int32)), (.ref as_)])) rfl rfl (hb hby own_d7_36)
  refine ownGo (T' := T18) (f' := (mkF m 39 #[rv a0, iv (0 : Int32)] [(.int (2 : Int32)), (.ref at_), (.int (1 : Int32)), (.ref as_)])) (st18) ?_
  refine ow_iconst (q := 40) X18 hx (1 : Int32) (hb hby own_d7_39) rfl rfl ?_
  refine ow_iadd (q := 41) X18 hx (3 : Int32) (hb hby own_d7_40) rfl (by decide) ?_
  refine ownGo (T' := T18) (f' := (mkF m 42 #[rv a0, iv (0 : Int32)] [(.int (gt 3)), (.int (1 : Int32)), (.ref as_)])) (ownIaload F10 X18 hx hZ e18 (j := (3 : Int32)) (by unfold ownIn; decide) (g := (mkF m 41 #[rv a0, iv (0 : Int32)] [(.int (3 : Int32)), (.ref at_), (.int (1 : Int32)), (.ref as_)])) rfl rfl (hb hby own_d7_41)) ?_
  generalize hv_v19 : (gt 3) = v19
  obtain ⟨T20, h20, X20, e20, W20, F20s, st20⟩ := ownIastore F11 X18 hx hZ e18 (j := (1 : Int32)) (by unfold ownIn; decide) (g := (mkF m 42 #[rv a0, iv (0 : Int32)] [(.int v19), (.int (1 : Int32)), (.ref as_)])) rfl rfl (hb hby own_d7_42)
  have F20r : ownAI Z h20 as_ .int 2 (ownUpd gs 1 v19) := F20s
  have N20 := Fr.snoc X20 N3 G_as_
  have K20 : Keep h0 h20 [a0, as_] := K3.wr W20 (Or.inl (List.mem_of_getElem? (i := 1) rfl))
  have F21 : Exa Z h20 a0 "com/example/sieveline/sieveline/model/CurrentDomains" := F4.wr W20
  have F22 : Fld Z h20 a0 "com/example/sieveline/sieveline/model/CurrentDomains" "trail" "[I" (.ref at_) := F5.other W20 (Or.inl hn2)
  have F23 : Fld Z h20 a0 "com/example/sieveline/sieveline/model/CurrentDomains" "size" "[I" (.ref as_) := F6.other W20 (Or.inl hn2)
  have F24 : Fld Z h20 a0 "com/example/sieveline/sieveline/model/CurrentDomains" "dense" "[[I" (.ref ad) := F7.other W20 (Or.inl hn2)
  have F25 : Fld Z h20 a0 "com/example/sieveline/sieveline/model/CurrentDomains" "position" "[[I" (.ref ap) := F8.other W20 (Or.inl hn2)
  have F26 : Fld Z h20 a0 "com/example/sieveline/sieveline/model/CurrentDomains" "top" "I" (.int (2 : Int32)) := F9.other W20 (Or.inl hn2)
  have F27 : ownAI Z h20 at_ .int 64 gt := F10.other W20 hn3
  refine ownGo (T' := T20) (f' := (mkF m 43 #[rv a0, iv (0 : Int32)] [])) (st20) ?_
  refine ow_goto (q := 0) X20 hx (hb hby own_d7_43) (by decide) (by decide) ?_
  refine ow_aloadN (q := 1) X20 hx (hb hby own_d7_0) rfl rfl rfl ?_
  obtain ⟨T28, X28, e28, st28⟩ := getF X20 hx hZ hown (host := "") (Or.inl (ww 34 rfl)) Via.refl e20 F26 (g := (mkF m 1 #[rv a0, iv (0 : Int32)] [(.ref a0)])) rfl rfl (hb hby own_d7_1)
  refine ownGo (T' := T28) (f' := (mkF m 4 #[rv a0, iv (0 : Int32)] [(.int (2 : Int32))])) (st28) ?_
  refine ow_iloadN (q := 5) X28 hx (hb hby own_d7_4) rfl rfl ?_
  refine ow_icmpNo (q := 8) X28 hx (hb hby own_d7_5) rfl (Jvm.Free.XT.ii_le_f (by decide)) ?_
  refine ow_aloadN (q := 9) X28 hx (hb hby own_d7_8) rfl rfl rfl ?_
  refine ow_dup (q := 10) X28 hx (hb hby own_d7_9) rfl rfl ?_
  obtain ⟨T29, X29, e29, st29⟩ := getF X28 hx hZ hown (host := "") (Or.inl (ww 34 rfl)) Via.refl e28 F26 (g := (mkF m 10 #[rv a0, iv (0 : Int32)] [(.ref a0), (.ref a0)])) rfl rfl (hb hby own_d7_10)
  refine ownGo (T' := T29) (f' := (mkF m 13 #[rv a0, iv (0 : Int32)] [(.int (2 : Int32)), (.ref a0)])) (st29) ?_
  refine ow_iconst (q := 14) X29 hx (2 : Int32) (hb hby own_d7_13) rfl rfl ?_
  refine ow_isub (q := 15) X29 hx (0 : Int32) (hb hby own_d7_14) rfl (by decide) ?_
  obtain ⟨T30, h30, X30, e30, W30, st30⟩ := putF X29 hx hZ hown (host := "") (Or.inl (ww 34 rfl)) Via.refl e29 F26 F21 (Or.inl (ww 35 rfl)) (ww 2 rfl) (ty := .int) (by decide) rfl rfl (g := (mkF m 15 #[rv a0, iv (0 : Int32)] [(.int (0 : Int32)), (.ref a0)])) rfl rfl (hb hby own_d7_15)
  have N30 := Fr.snoc X30 N20 G_a0
  have K30 : Keep h0 h30 [a0, as_] := K20.wr W30 (Or.inl (List.mem_of_getElem? (i := 0) rfl))
  have F31 : Exa Z h30 a0 "com/example/sieveline/sieveline/model/CurrentDomains" := F21.wr W30
  have F32 : Fld Z h30 a0 "com/example/sieveline/sieveline/model/CurrentDomains" "trail" "[I" (.ref at_) := F22.other W30 (Or.inr (slot_ne (Or.inl (ww 12 rfl)) (Or.inl (ww 35 rfl)) (by decide) (t := (.array .int)) (t' := .int) (by decide) (by decide)))
  have F33 : Fld Z h30 a0 "com/example/sieveline/sieveline/model/CurrentDomains" "size" "[I" (.ref as_) := F23.other W30 (Or.inr (slot_ne (Or.inr (ww 23 rfl)) (Or.inl (ww 35 rfl)) (by decide) (t := (.array .int)) (t' := .int) (by decide) (by decide)))
  have F34 : Fld Z h30 a0 "com/example/sieveline/sieveline/model/CurrentDomains" "dense" "[[I" (.ref ad) := F24.other W30 (Or.inr (slot_ne (Or.inr (ww 26 rfl)) (Or.inl (ww 35 rfl)) (by decide) (t := (.array (.array .int))) (t' := .int) (by decide) (by decide)))
  have F35 : Fld Z h30 a0 "com/example/sieveline/sieveline/model/CurrentDomains" "position" "[[I" (.ref ap) := F25.other W30 (Or.inr (slot_ne (Or.inr (ww 28 rfl)) (Or.inl (ww 35 rfl)) (by decide) (t := (.array (.array .int))) (t' := .int) (by decide) (by decide)))
  have F36 : Fld Z h30 a0 "com/example/sieveline/sieveline/model/CurrentDomains" "top" "I" (.int (0 : Int32)) := F26.same W30
  have F37 : ownAI Z h30 at_ .int 64 gt := F27.other W30 (Ne.symm hn1)
  have F38 : ownAI Z h30 as_ .int 2 (ownUpd gs 1 v19) := F20r.other W30 (Ne.symm hn2)
  refine ownGo (T' := T30) (f' := (mkF m 18 #[rv a0, iv (0 : Int32)] [])) (st30) ?_
  refine ow_aloadN (q := 19) X30 hx (hb hby own_d7_18) rfl rfl rfl ?_
  obtain ⟨T39, X39, e39, st39⟩ := getF X30 hx hZ hown (host := "") (Or.inl (ww 22 rfl)) Via.refl e30 F33 (g := (mkF m 19 #[rv a0, iv (0 : Int32)] [(.ref a0)])) rfl rfl (hb hby own_d7_19)
  refine ownGo (T' := T39) (f' := (mkF m 22 #[rv a0, iv (0 : Int32)] [(.ref as_)])) (st39) ?_
  refine ow_aloadN (q := 23) X39 hx (hb hby own_d7_22) rfl rfl rfl ?_
  obtain ⟨T40, X40, e40, st40⟩ := getF X39 hx hZ hown (host := "") (Or.inl (ww 11 rfl)) Via.refl e39 F32 (g := (mkF m 23 #[rv a0, iv (0 : Int32)] [(.ref a0), (.ref as_)])) rfl rfl (hb hby own_d7_23)
  refine ownGo (T' := T40) (f' := (mkF m 26 #[rv a0, iv (0 : Int32)] [(.ref at_), (.ref as_)])) (st40) ?_
  refine ow_aloadN (q := 27) X40 hx (hb hby own_d7_26) rfl rfl rfl ?_
  obtain ⟨T41, X41, e41, st41⟩ := getF X40 hx hZ hown (host := "") (Or.inl (ww 34 rfl)) Via.refl e40 F36 (g := (mkF m 27 #[rv a0, iv (0 : Int32)] [(.ref a0), (.ref at_), (.ref as_)])) rfl rfl (hb hby own_d7_27)
  refine ownGo (T' := T41) (f' := (mkF m 30 #[rv a0, iv (0 : Int32)] [(.int (0 : Int32)), (.ref at_), (.ref as_)])) (st41) ?_
  refine ownGo (T' := T41) (f' := (mkF m 31 #[rv a0, iv (0 : Int32)] [(.int (gt 0)), (.ref as_)])) (ownIaload F37 X41 hx hZ e41 (j := (0 : Int32)) (by unfold ownIn; decide) (g := (mkF m 30 #[rv a0, iv (0 : Int32)] [(.int (0 : Int32)), (.ref at_), (.ref as_)])) rfl rfl (hb hby own_d7_30)) ?_
  generalize hv_v42 : (gt 0) = v42
  have hs43 := (hv_v42.symm.trans he0)
  subst hs43
  refine ow_aloadN (q := 32) X41 hx (hb hby own_d7_31) rfl rfl rfl ?_
  obtain ⟨T44, X44, e44, st44⟩ := getF X41 hx hZ hown (host := "") (Or.inl (ww 11 rfl)) Via.refl e41 F32 (g := (mkF m 32 #[rv a0, iv (0 : Int32)] [(.ref a0), (.int (0 : Int32)), (.ref as_)])) rfl rfl (hb hby own_d7_32)
  refine ownGo (T' := T44) (f' := (mkF m 35 #[rv a0, iv (0 : Int32)] [(.ref at_), (.int (0 : Int32)), (.ref as_)])) (st44) ?_
  refine ow_aloadN (q := 36) X44 hx (hb hby own_d7_35) rfl rfl rfl ?_
  obtain ⟨T45, X45, e45, st45⟩ := getF X44 hx hZ hown (host := "") (Or.inl (ww 34 rfl)) Via.refl e44 F36 (g := (mkF m 36 #[rv a0, iv (0 : Int32)] [(.ref a0), (.ref at_), (.int (0 : Int32)), (.ref as_)])) rfl rfl (hb hby own_d7_36)
  refine ownGo (T' := T45) (f' := (mkF m 39 #[rv a0, iv (0 : Int32)] [(.int (0 : Int32)), (.ref at_), (.int (0 : Int32)), (.ref as_)])) (st45) ?_
  refine ow_iconst (q := 40) X45 hx (1 : Int32) (hb hby own_d7_39) rfl rfl ?_
  refine ow_iadd (q := 41) X45 hx (1 : Int32) (hb hby own_d7_40) rfl (by decide) ?_
  refine ownGo (T' := T45) (f' := (mkF m 42 #[rv a0, iv (0 : Int32)] [(.int (gt 1)), (.int (0 : Int32)), (.ref as_)])) (ownIaload F37 X45 hx hZ e45 (j := (1 : Int32)) (by unfold ownIn; decide) (g := (mkF m 41 #[rv a0, iv (0 : Int32)] [(.int (1 : Int32)), (.ref at_), (.int (0 : Int32)), (.ref as_)])) rfl rfl (hb hby own_d7_41)) ?_
  generalize hv_v46 : (gt 1) = v46
  obtain ⟨T47, h47, X47, e47, W47, F47s, st47⟩ := ownIastore F38 X45 hx hZ e45 (j := (0 : Int32)) (by unfold ownIn; decide) (g := (mkF m 42 #[rv a0, iv (0 : Int32)] [(.int v46), (.int (0 : Int32)), (.ref as_)])) rfl rfl (hb hby own_d7_42)
  have F47r : ownAI Z h47 as_ .int 2 (ownUpd (ownUpd gs 1 v19) 0 v46) := F47s
  have N47 := Fr.snoc X47 N30 G_as_
  have K47 : Keep h0 h47 [a0, as_] := K30.wr W47 (Or.inl (List.mem_of_getElem? (i := 1) rfl))
  have F48 : Exa Z h47 a0 "com/example/sieveline/sieveline/model/CurrentDomains" := F31.wr W47
  have F49 : Fld Z h47 a0 "com/example/sieveline/sieveline/model/CurrentDomains" "trail" "[I" (.ref at_) := F32.other W47 (Or.inl hn2)
  have F50 : Fld Z h47 a0 "com/example/sieveline/sieveline/model/CurrentDomains" "size" "[I" (.ref as_) := F33.other W47 (Or.inl hn2)
  have F51 : Fld Z h47 a0 "com/example/sieveline/sieveline/model/CurrentDomains" "dense" "[[I" (.ref ad) := F34.other W47 (Or.inl hn2)
  have F52 : Fld Z h47 a0 "com/example/sieveline/sieveline/model/CurrentDomains" "position" "[[I" (.ref ap) := F35.other W47 (Or.inl hn2)
  have F53 : Fld Z h47 a0 "com/example/sieveline/sieveline/model/CurrentDomains" "top" "I" (.int (0 : Int32)) := F36.other W47 (Or.inl hn2)
  have F54 : ownAI Z h47 at_ .int 64 gt := F37.other W47 hn3
  refine ownGo (T' := T47) (f' := (mkF m 43 #[rv a0, iv (0 : Int32)] [])) (st47) ?_
  refine ow_goto (q := 0) X47 hx (hb hby own_d7_43) (by decide) (by decide) ?_
  refine ow_aloadN (q := 1) X47 hx (hb hby own_d7_0) rfl rfl rfl ?_
  obtain ⟨T55, X55, e55, st55⟩ := getF X47 hx hZ hown (host := "") (Or.inl (ww 34 rfl)) Via.refl e47 F53 (g := (mkF m 1 #[rv a0, iv (0 : Int32)] [(.ref a0)])) rfl rfl (hb hby own_d7_1)
  refine ownGo (T' := T55) (f' := (mkF m 4 #[rv a0, iv (0 : Int32)] [(.int (0 : Int32))])) (st55) ?_
  refine ow_iloadN (q := 5) X55 hx (hb hby own_d7_4) rfl rfl ?_
  refine ow_icmpYes (q := 46) X55 hx (hb hby own_d7_5) (Jvm.Free.XT.ii_le_t (by decide)) (by decide) (by decide) ?_
  refine ownRetV X55 hx Bd.returns (hb hby own_d7_46) hlk (by decide) (by decide) ?_
  subst hv_v46 hv_v19
  rw [e55]
  exact ⟨rfl, N47, K47, F48, F49, F50, F51, F52, F53, F47r⟩
theorem own_ef7_undo_0_3 (m : MethodId) (a0 : Addr) : entryFrame m #[(.ref a0), (.int (0 : Int32))] 2 = mkF m 0 #[rv a0, iv (0 : Int32)] [] := by first | (simp [entryFrame, mkF, argsToLocals, Value.category]; done) | rfl
def Q_undo_0_3 (Z : State) (a0 : Addr) (at_ : Addr) (as_ : Addr) (ad : Addr) (ap : Addr) (gt : Nat → Int32) (gs : Nat → Int32) (h0 : Heap) (n0 : Nat) (v : Option Value) (h : Heap) (L : List Loc) : Prop := v = none ∧ Fr n0 L ∧ Keep h0 h [a0, as_] ∧ Exa Z h a0 "com/example/sieveline/sieveline/model/CurrentDomains" ∧ Fld Z h a0 "com/example/sieveline/sieveline/model/CurrentDomains" "trail" "[I" (.ref at_) ∧ Fld Z h a0 "com/example/sieveline/sieveline/model/CurrentDomains" "size" "[I" (.ref as_) ∧ Fld Z h a0 "com/example/sieveline/sieveline/model/CurrentDomains" "dense" "[[I" (.ref ad) ∧ Fld Z h a0 "com/example/sieveline/sieveline/model/CurrentDomains" "position" "[[I" (.ref ap) ∧ Fld Z h a0 "com/example/sieveline/sieveline/model/CurrentDomains" "top" "I" (.int (0 : Int32)) ∧ ownAI Z h as_ .int 2 (ownUpd (ownUpd (ownUpd gs 1 (gt 5)) 1 (gt 3)) 0 (gt 1))
set_option maxRecDepth 65536 in
set_option maxHeartbeats 40000000 in
theorem rm_undo_0_3 (l : Launch) (Z : State) (av0 : Array Value) (hw : ∀ d ∈ tables_1, d.before av0 Z = true) (ws : List Jvm.Cond) (a0 : Addr) (at_ : Addr) (as_ : Addr) (ad : Addr) (ap : Addr) (gt : Nat → Int32) (gs : Nat → Int32) (h0 : Heap) (n0 : Nat) (Z0 : n0 ≤ h0.size) (HF0 : Exa Z h0 a0 "com/example/sieveline/sieveline/model/CurrentDomains") (HF1 : Fld Z h0 a0 "com/example/sieveline/sieveline/model/CurrentDomains" "trail" "[I" (.ref at_)) (HF2 : Fld Z h0 a0 "com/example/sieveline/sieveline/model/CurrentDomains" "size" "[I" (.ref as_)) (HF3 : Fld Z h0 a0 "com/example/sieveline/sieveline/model/CurrentDomains" "dense" "[[I" (.ref ad)) (HF4 : Fld Z h0 a0 "com/example/sieveline/sieveline/model/CurrentDomains" "position" "[[I" (.ref ap)) (HF5 : Fld Z h0 a0 "com/example/sieveline/sieveline/model/CurrentDomains" "top" "I" (.int (6 : Int32))) (HF6 : ownAI Z h0 at_ .int 64 gt) (HF7 : ownAI Z h0 as_ .int 2 gs) (G_a0 : n0 ≤ a0) (G_as_ : n0 ≤ as_) (hn1 : a0 ≠ at_) (hn2 : a0 ≠ as_) (hn3 : at_ ≠ as_) (he0 : (gt 0) = (0 : Int32)) (he1 : (gt 2) = (1 : Int32)) (he2 : (gt 4) = (1 : Int32)) :
    MetFree l (⟨"com/example/sieveline/sieveline/model/CurrentDomains", "undo", "(I)V"⟩ : MethodName) (head1 (Jvm.Cond.code (⟨"com/example/sieveline/sieveline/model/CurrentDomains", "undo", "(I)V"⟩ : MethodName) prog_10_method_9_code 2 none :: ws) ({ frames := 0, cells := 0, slots := 0, locals := 0 } : Room)) (fun a U => a = #[(.ref a0), (.int (0 : Int32))] ∧ Z.Warmed39 U.vm ∧ U.heap = h0) (fun _ _ _ _ _ => True) (fun _ U o U' => ∃ v L, o = .returned v ∧ (Q_undo_0_3 Z a0 at_ as_ ad ap gt gs h0 n0) v U'.heap L ∧ FrameEnd U o U' L ({ frames := 0, cells := 0, slots := 0, locals := 0 } : Room).cells ({ frames := 0, cells := 0, slots := 0, locals := 0 } : Room).slots) := by
  refine MetFree.of_bodySF (plainFor_of_name own_pn_CurrentDomains) hisR ?_
  intro p e s m args below meth c s₁ Bd hml0 hP hK
  obtain ⟨rfl, hZ, hh⟩ := hP
  have hx := Bd.exec
  have hby := Bd.bytes
  have hml : c.maxLocals = 2 := hml0
  have hown : s.vm.findClass "com/example/sieveline/sieveline/model/CurrentDomains" = some m.cls := findClass_of_methodNamed Bd.named
  have hnm := (name_of_methodNamed Bd.named Bd.method).1
  have hlk : meth.locks = false := BodyLoose.notSynchronized Bd
  have X0 : Stand p l e ({ frames := 0, cells := 0, slots := 0, locals := 0 } : Room) s m #[(.ref a0), (.int (0 : Int32))] below meth c s₁ [] 0 0 := Stand.of_body Bd
  have e0 : s₁.heap = h0 := by rw [← hh, Bd.state]; rfl
  have N0 := Fr.nil n0
  have K0 : Keep h0 h0 [a0, as_] := Keep.refl _ _
  have ww : ∀ (k : Nat) {d : Jvm.Cond}, tables_1[k]? = some d → d.before av0 Z = true := fun k d h => hw d (List.mem_of_getElem? h)
  show ownEnds p e below s (Q_undo_0_3 Z a0 at_ as_ ad ap gt gs h0 n0) ({ frames := 0, cells := 0, slots := 0, locals := 0 } : Room).cells ({ frames := 0, cells := 0, slots := 0, locals := 0 } : Room).slots s₁ (entryFrame m #[(.ref a0), (.int (0 : Int32))] 2)
  refine ownCast (own_ef7_undo_0_3 m a0) ?_
  refine ow_aloadN (q := 1) X0 hx (hb hby own_d7_0) rfl rfl rfl ?_
  obtain ⟨T1, X1, e1, st1⟩ := getF X0 hx hZ hown (host := "") (Or.inl (ww 34 rfl)) Via.refl e0 HF5 (g := (mkF m 1 #[rv a0, iv (0 : Int32)] [(.ref a0)])) rfl rfl (hb hby own_d7_1)
  refine ownGo (T' := T1) (f' := (mkF m 4 #[rv a0, iv (0 : Int32)] [(.int (6 : Int32))])) (st1) ?_
  refine ow_iloadN (q := 5) X1 hx (hb hby own_d7_4) rfl rfl ?_
  refine ow_icmpNo (q := 8) X1 hx (hb hby own_d7_5) rfl (Jvm.Free.XT.ii_le_f (by decide)) ?_
  refine ow_aloadN (q := 9) X1 hx (hb hby own_d7_8) rfl rfl rfl ?_
  refine ow_dup (q := 10) X1 hx (hb hby own_d7_9) rfl rfl ?_
  obtain ⟨T2, X2, e2, st2⟩ := getF X1 hx hZ hown (host := "") (Or.inl (ww 34 rfl)) Via.refl e1 HF5 (g := (mkF m 10 #[rv a0, iv (0 : Int32)] [(.ref a0), (.ref a0)])) rfl rfl (hb hby own_d7_10)
  refine ownGo (T' := T2) (f' := (mkF m 13 #[rv a0, iv (0 : Int32)] [(.int (6 : Int32)), (.ref a0)])) (st2) ?_
  refine ow_iconst (q := 14) X2 hx (2 : Int32) (hb hby own_d7_13) rfl rfl ?_
  refine ow_isub (q := 15) X2 hx (4 : Int32) (hb hby own_d7_14) rfl (by decide) ?_
  obtain ⟨T3, h3, X3, e3, W3, st3⟩ := putF X2 hx hZ hown (host := "") (Or.inl (ww 34 rfl)) Via.refl e2 HF5 HF0 (Or.inl (ww 35 rfl)) (ww 2 rfl) (ty := .int) (by decide) rfl rfl (g := (mkF m 15 #[rv a0, iv (0 : Int32)] [(.int (4 : Int32)), (.ref a0)])) rfl rfl (hb hby own_d7_15)
  have N3 := Fr.snoc X3 N0 G_a0
  have K3 : Keep h0 h3 [a0, as_] := K0.wr W3 (Or.inl (List.mem_of_getElem? (i := 0) rfl))
  have F4 : Exa Z h3 a0 "com/example/sieveline/sieveline/model/CurrentDomains" := HF0.wr W3
  have F5 : Fld Z h3 a0 "com/example/sieveline/sieveline/model/CurrentDomains" "trail" "[I" (.ref at_) := HF1.other W3 (Or.inr (slot_ne (Or.inl (ww 12 rfl)) (Or.inl (ww 35 rfl)) (by decide) (t := (.array .int)) (t' := .int) (by decide) (by decide)))
  have F6 : Fld Z h3 a0 "com/example/sieveline/sieveline/model/CurrentDomains" "size" "[I" (.ref as_) := HF2.other W3 (Or.inr (slot_ne (Or.inr (ww 23 rfl)) (Or.inl (ww 35 rfl)) (by decide) (t := (.array .int)) (t' := .int) (by decide) (by decide)))
  have F7 : Fld Z h3 a0 "com/example/sieveline/sieveline/model/CurrentDomains" "dense" "[[I" (.ref ad) := HF3.other W3 (Or.inr (slot_ne (Or.inr (ww 26 rfl)) (Or.inl (ww 35 rfl)) (by decide) (t := (.array (.array .int))) (t' := .int) (by decide) (by decide)))
  have F8 : Fld Z h3 a0 "com/example/sieveline/sieveline/model/CurrentDomains" "position" "[[I" (.ref ap) := HF4.other W3 (Or.inr (slot_ne (Or.inr (ww 28 rfl)) (Or.inl (ww 35 rfl)) (by decide) (t := (.array (.array .int))) (t' := .int) (by decide) (by decide)))
  have F9 : Fld Z h3 a0 "com/example/sieveline/sieveline/model/CurrentDomains" "top" "I" (.int (4 : Int32)) := HF5.same W3
  have F10 : ownAI Z h3 at_ .int 64 gt := HF6.other W3 (Ne.symm hn1)
  have F11 : ownAI Z h3 as_ .int 2 gs := HF7.other W3 (Ne.symm hn2)
  refine ownGo (T' := T3) (f' := (mkF m 18 #[rv a0, iv (0 : Int32)] [])) (st3) ?_
  refine ow_aloadN (q := 19) X3 hx (hb hby own_d7_18) rfl rfl rfl ?_
  obtain ⟨T12, X12, e12, st12⟩ := getF X3 hx hZ hown (host := "") (Or.inl (ww 22 rfl)) Via.refl e3 F6 (g := (mkF m 19 #[rv a0, iv (0 : Int32)] [(.ref a0)])) rfl rfl (hb hby own_d7_19)
  refine ownGo (T' := T12) (f' := (mkF m 22 #[rv a0, iv (0 : Int32)] [(.ref as_)])) (st12) ?_
  refine ow_aloadN (q := 23) X12 hx (hb hby own_d7_22) rfl rfl rfl ?_
  obtain ⟨T13, X13, e13, st13⟩ := getF X12 hx hZ hown (host := "") (Or.inl (ww 11 rfl)) Via.refl e12 F5 (g := (mkF m 23 #[rv a0, iv (0 : Int32)] [(.ref a0), (.ref as_)])) rfl rfl (hb hby own_d7_23)
  refine ownGo (T' := T13) (f' := (mkF m 26 #[rv a0, iv (0 : Int32)] [(.ref at_), (.ref as_)])) (st13) ?_
  refine ow_aloadN (q := 27) X13 hx (hb hby own_d7_26) rfl rfl rfl ?_
  obtain ⟨T14, X14, e14, st14⟩ := getF X13 hx hZ hown (host := "") (Or.inl (ww 34 rfl)) Via.refl e13 F9 (g := (mkF m 27 #[rv a0, iv (0 : Int32)] [(.ref a0), (.ref at_), (.ref as_)])) rfl rfl (hb hby own_d7_27)
  refine ownGo (T' := T14) (f' := (mkF m 30 #[rv a0, iv (0 : Int32)] [(.int (4 : Int32)), (.ref at_), (.ref as_)])) (st14) ?_
  refine ownGo (T' := T14) (f' := (mkF m 31 #[rv a0, iv (0 : Int32)] [(.int (gt 4)), (.ref as_)])) (ownIaload F10 X14 hx hZ e14 (j := (4 : Int32)) (by unfold ownIn; decide) (g := (mkF m 30 #[rv a0, iv (0 : Int32)] [(.int (4 : Int32)), (.ref at_), (.ref as_)])) rfl rfl (hb hby own_d7_30)) ?_
  generalize hv_v15 : (gt 4) = v15
  have hs16 := (hv_v15.symm.trans he2)
  subst hs16
  refine ow_aloadN (q := 32) X14 hx (hb hby own_d7_31) rfl rfl rfl ?_
  obtain ⟨T17, X17, e17, st17⟩ := getF X14 hx hZ hown (host := "") (Or.inl (ww 11 rfl)) Via.refl e14 F5 (g := (mkF m 32 #[rv a0, iv (0 : Int32)] [(.ref a0), (.int (1 : Int32)), (.ref as_)])) rfl rfl (hb hby own_d7_32)
  refine ownGo (T' := T17) (f' := (mkF m 35 #[rv a0, iv (0 : Int32)] [(.ref at_), (.int (1 : Int32)), (.ref as_)])) (st17) ?_
  refine ow_aloadN (q := 36) X17 hx (hb hby own_d7_35) rfl rfl rfl ?_
  obtain ⟨T18, X18, e18, st18⟩ := getF X17 hx hZ hown (host := "") (Or.inl (ww 34 rfl)) Via.refl e17 F9 (g := (mkF m 36 #[rv a0, iv (0 : Int32)] [(.ref a0), (.ref at_), (.int (1 : Int32)), (.ref as_)])) rfl rfl (hb hby own_d7_36)
  refine ownGo (T' := T18) (f' := (mkF m 39 #[rv a0, iv (0 : Int32)] [(.int (4 : Int32)), (.ref at_), (.int (1 : Int32)), (.ref as_)])) (st18) ?_
  refine ow_iconst (q := 40) X18 hx (1 : Int32) (hb hby own_d7_39) rfl rfl ?_
  refine ow_iadd (q := 41) X18 hx (5 : Int32) (hb hby own_d7_40) rfl (by decide) ?_
  refine ownGo (T' := T18) (f' := (mkF m 42 #[rv a0, iv (0 : Int32)] [(.int (gt 5)), (.int (1 : Int32)), (.ref as_)])) (ownIaload F10 X18 hx hZ e18 (j := (5 : Int32)) (by unfold ownIn; decide) (g := (mkF m 41 #[rv a0, iv (0 : Int32)] [(.int (5 : Int32)), (.ref at_), (.int (1 : Int32)), (.ref as_)])) rfl rfl (hb hby own_d7_41)) ?_
  generalize hv_v19 : (gt 5) = v19
  obtain ⟨T20, h20, X20, e20, W20, F20s, st20⟩ := ownIastore F11 X18 hx hZ e18 (j := (1 : Int32)) (by unfold ownIn; decide) (g := (mkF m 42 #[rv a0, iv (0 : Int32)] [(.int v19), (.int (1 : Int32)), (.ref as_)])) rfl rfl (hb hby own_d7_42)
  have F20r : ownAI Z h20 as_ .int 2 (ownUpd gs 1 v19) := F20s
  have N20 := Fr.snoc X20 N3 G_as_
  have K20 : Keep h0 h20 [a0, as_] := K3.wr W20 (Or.inl (List.mem_of_getElem? (i := 1) rfl))
  have F21 : Exa Z h20 a0 "com/example/sieveline/sieveline/model/CurrentDomains" := F4.wr W20
  have F22 : Fld Z h20 a0 "com/example/sieveline/sieveline/model/CurrentDomains" "trail" "[I" (.ref at_) := F5.other W20 (Or.inl hn2)
  have F23 : Fld Z h20 a0 "com/example/sieveline/sieveline/model/CurrentDomains" "size" "[I" (.ref as_) := F6.other W20 (Or.inl hn2)
  have F24 : Fld Z h20 a0 "com/example/sieveline/sieveline/model/CurrentDomains" "dense" "[[I" (.ref ad) := F7.other W20 (Or.inl hn2)
  have F25 : Fld Z h20 a0 "com/example/sieveline/sieveline/model/CurrentDomains" "position" "[[I" (.ref ap) := F8.other W20 (Or.inl hn2)
  have F26 : Fld Z h20 a0 "com/example/sieveline/sieveline/model/CurrentDomains" "top" "I" (.int (4 : Int32)) := F9.other W20 (Or.inl hn2)
  have F27 : ownAI Z h20 at_ .int 64 gt := F10.other W20 hn3
  refine ownGo (T' := T20) (f' := (mkF m 43 #[rv a0, iv (0 : Int32)] [])) (st20) ?_
  refine ow_goto (q := 0) X20 hx (hb hby own_d7_43) (by decide) (by decide) ?_
  refine ow_aloadN (q := 1) X20 hx (hb hby own_d7_0) rfl rfl rfl ?_
  obtain ⟨T28, X28, e28, st28⟩ := getF X20 hx hZ hown (host := "") (Or.inl (ww 34 rfl)) Via.refl e20 F26 (g := (mkF m 1 #[rv a0, iv (0 : Int32)] [(.ref a0)])) rfl rfl (hb hby own_d7_1)
  refine ownGo (T' := T28) (f' := (mkF m 4 #[rv a0, iv (0 : Int32)] [(.int (4 : Int32))])) (st28) ?_
  refine ow_iloadN (q := 5) X28 hx (hb hby own_d7_4) rfl rfl ?_
  refine ow_icmpNo (q := 8) X28 hx (hb hby own_d7_5) rfl (Jvm.Free.XT.ii_le_f (by decide)) ?_
  refine ow_aloadN (q := 9) X28 hx (hb hby own_d7_8) rfl rfl rfl ?_
  refine ow_dup (q := 10) X28 hx (hb hby own_d7_9) rfl rfl ?_
  obtain ⟨T29, X29, e29, st29⟩ := getF X28 hx hZ hown (host := "") (Or.inl (ww 34 rfl)) Via.refl e28 F26 (g := (mkF m 10 #[rv a0, iv (0 : Int32)] [(.ref a0), (.ref a0)])) rfl rfl (hb hby own_d7_10)
  refine ownGo (T' := T29) (f' := (mkF m 13 #[rv a0, iv (0 : Int32)] [(.int (4 : Int32)), (.ref a0)])) (st29) ?_
  refine ow_iconst (q := 14) X29 hx (2 : Int32) (hb hby own_d7_13) rfl rfl ?_
  refine ow_isub (q := 15) X29 hx (2 : Int32) (hb hby own_d7_14) rfl (by decide) ?_
  obtain ⟨T30, h30, X30, e30, W30, st30⟩ := putF X29 hx hZ hown (host := "") (Or.inl (ww 34 rfl)) Via.refl e29 F26 F21 (Or.inl (ww 35 rfl)) (ww 2 rfl) (ty := .int) (by decide) rfl rfl (g := (mkF m 15 #[rv a0, iv (0 : Int32)] [(.int (2 : Int32)), (.ref a0)])) rfl rfl (hb hby own_d7_15)
  have N30 := Fr.snoc X30 N20 G_a0
  have K30 : Keep h0 h30 [a0, as_] := K20.wr W30 (Or.inl (List.mem_of_getElem? (i := 0) rfl))
  have F31 : Exa Z h30 a0 "com/example/sieveline/sieveline/model/CurrentDomains" := F21.wr W30
  have F32 : Fld Z h30 a0 "com/example/sieveline/sieveline/model/CurrentDomains" "trail" "[I" (.ref at_) := F22.other W30 (Or.inr (slot_ne (Or.inl (ww 12 rfl)) (Or.inl (ww 35 rfl)) (by decide) (t := (.array .int)) (t' := .int) (by decide) (by decide)))
  have F33 : Fld Z h30 a0 "com/example/sieveline/sieveline/model/CurrentDomains" "size" "[I" (.ref as_) := F23.other W30 (Or.inr (slot_ne (Or.inr (ww 23 rfl)) (Or.inl (ww 35 rfl)) (by decide) (t := (.array .int)) (t' := .int) (by decide) (by decide)))
  have F34 : Fld Z h30 a0 "com/example/sieveline/sieveline/model/CurrentDomains" "dense" "[[I" (.ref ad) := F24.other W30 (Or.inr (slot_ne (Or.inr (ww 26 rfl)) (Or.inl (ww 35 rfl)) (by decide) (t := (.array (.array .int))) (t' := .int) (by decide) (by decide)))
  have F35 : Fld Z h30 a0 "com/example/sieveline/sieveline/model/CurrentDomains" "position" "[[I" (.ref ap) := F25.other W30 (Or.inr (slot_ne (Or.inr (ww 28 rfl)) (Or.inl (ww 35 rfl)) (by decide) (t := (.array (.array .int))) (t' := .int) (by decide) (by decide)))
  have F36 : Fld Z h30 a0 "com/example/sieveline/sieveline/model/CurrentDomains" "top" "I" (.int (2 : Int32)) := F26.same W30
  have F37 : ownAI Z h30 at_ .int 64 gt := F27.other W30 (Ne.symm hn1)
  have F38 : ownAI Z h30 as_ .int 2 (ownUpd gs 1 v19) := F20r.other W30 (Ne.symm hn2)
  refine ownGo (T' := T30) (f' := (mkF m 18 #[rv a0, iv (0 : Int32)] [])) (st30) ?_
  refine ow_aloadN (q := 19) X30 hx (hb hby own_d7_18) rfl rfl rfl ?_
  obtain ⟨T39, X39, e39, st39⟩ := getF X30 hx hZ hown (host := "") (Or.inl (ww 22 rfl)) Via.refl e30 F33 (g := (mkF m 19 #[rv a0, iv (0 : Int32)] [(.ref a0)])) rfl rfl (hb hby own_d7_19)
  refine ownGo (T' := T39) (f' := (mkF m 22 #[rv a0, iv (0 : Int32)] [(.ref as_)])) (st39) ?_
  refine ow_aloadN (q := 23) X39 hx (hb hby own_d7_22) rfl rfl rfl ?_
  obtain ⟨T40, X40, e40, st40⟩ := getF X39 hx hZ hown (host := "") (Or.inl (ww 11 rfl)) Via.refl e39 F32 (g := (mkF m 23 #[rv a0, iv (0 : Int32)] [(.ref a0), (.ref as_)])) rfl rfl (hb hby own_d7_23)
  refine ownGo (T' := T40) (f' := (mkF m 26 #[rv a0, iv (0 : Int32)] [(.ref at_), (.ref as_)])) (st40) ?_
  refine ow_aloadN (q := 27) X40 hx (hb hby own_d7_26) rfl rfl rfl ?_
  obtain ⟨T41, X41, e41, st41⟩ := getF X40 hx hZ hown (host := "") (Or.inl (ww 34 rfl)) Via.refl e40 F36 (g := (mkF m 27 #[rv a0, iv (0 : Int32)] [(.ref a0), (.ref at_), (.ref as_)])) rfl rfl (hb hby own_d7_27)
  refine ownGo (T' := T41) (f' := (mkF m 30 #[rv a0, iv (0 : Int32)] [(.int (2 : Int32)), (.ref at_), (.ref as_)])) (st41) ?_
  refine ownGo (T' := T41) (f' := (mkF m 31 #[rv a0, iv (0 : Int32)] [(.int (gt 2)), (.ref as_)])) (ownIaload F37 X41 hx hZ e41 (j := (2 : Int32)) (by unfold ownIn; decide) (g := (mkF m 30 #[rv a0, iv (0 : Int32)] [(.int (2 : Int32)), (.ref at_), (.ref as_)])) rfl rfl (hb hby own_d7_30)) ?_
  generalize hv_v42 : (gt 2) = v42
  have hs43 := (hv_v42.symm.trans he1)
  subst hs43
  refine ow_aloadN (q := 32) X41 hx (hb hby own_d7_31) rfl rfl rfl ?_
  obtain ⟨T44, X44, e44, st44⟩ := getF X41 hx hZ hown (host := "") (Or.inl (ww 11 rfl)) Via.refl e41 F32 (g := (mkF m 32 #[rv a0, iv (0 : Int32)] [(.ref a0), (.int (1 : Int32)), (.ref as_)])) rfl rfl (hb hby own_d7_32)
  refine ownGo (T' := T44) (f' := (mkF m 35 #[rv a0, iv (0 : Int32)] [(.ref at_), (.int (1 : Int32)), (.ref as_)])) (st44) ?_
  refine ow_aloadN (q := 36) X44 hx (hb hby own_d7_35) rfl rfl rfl ?_
  obtain ⟨T45, X45, e45, st45⟩ := getF X44 hx hZ hown (host := "") (Or.inl (ww 34 rfl)) Via.refl e44 F36 (g := (mkF m 36 #[rv a0, iv (0 : Int32)] [(.ref a0), (.ref at_), (.int (1 : Int32)), (.ref as_)])) rfl rfl (hb hby own_d7_36)
  refine ownGo (T' := T45) (f' := (mkF m 39 #[rv a0, iv (0 : Int32)] [(.int (2 : Int32)), (.ref at_), (.int (1 : Int32)), (.ref as_)])) (st45) ?_
  refine ow_iconst (q := 40) X45 hx (1 : Int32) (hb hby own_d7_39) rfl rfl ?_
  refine ow_iadd (q := 41) X45 hx (3 : Int32) (hb hby own_d7_40) rfl (by decide) ?_
  refine ownGo (T' := T45) (f' := (mkF m 42 #[rv a0, iv (0 : Int32)] [(.int (gt 3)), (.int (1 : Int32)), (.ref as_)])) (ownIaload F37 X45 hx hZ e45 (j := (3 : Int32)) (by unfold ownIn; decide) (g := (mkF m 41 #[rv a0, iv (0 : Int32)] [(.int (3 : Int32)), (.ref at_), (.int (1 : Int32)), (.ref as_)])) rfl rfl (hb hby own_d7_41)) ?_
  generalize hv_v46 : (gt 3) = v46
  obtain ⟨T47, h47, X47, e47, W47, F47s, st47⟩ := ownIastore F38 X45 hx hZ e45 (j := (1 : Int32)) (by unfold ownIn; decide) (g := (mkF m 42 #[rv a0, iv (0 : Int32)] [(.int v46), (.int (1 : Int32)), (.ref as_)])) rfl rfl (hb hby own_d7_42)
  have F47r : ownAI Z h47 as_ .int 2 (ownUpd (ownUpd gs 1 v19) 1 v46) := F47s
  have N47 := Fr.snoc X47 N30 G_as_
  have K47 : Keep h0 h47 [a0, as_] := K30.wr W47 (Or.inl (List.mem_of_getElem? (i := 1) rfl))
  have F48 : Exa Z h47 a0 "com/example/sieveline/sieveline/model/CurrentDomains" := F31.wr W47
  have F49 : Fld Z h47 a0 "com/example/sieveline/sieveline/model/CurrentDomains" "trail" "[I" (.ref at_) := F32.other W47 (Or.inl hn2)
  have F50 : Fld Z h47 a0 "com/example/sieveline/sieveline/model/CurrentDomains" "size" "[I" (.ref as_) := F33.other W47 (Or.inl hn2)
  have F51 : Fld Z h47 a0 "com/example/sieveline/sieveline/model/CurrentDomains" "dense" "[[I" (.ref ad) := F34.other W47 (Or.inl hn2)
  have F52 : Fld Z h47 a0 "com/example/sieveline/sieveline/model/CurrentDomains" "position" "[[I" (.ref ap) := F35.other W47 (Or.inl hn2)
  have F53 : Fld Z h47 a0 "com/example/sieveline/sieveline/model/CurrentDomains" "top" "I" (.int (2 : Int32)) := F36.other W47 (Or.inl hn2)
  have F54 : ownAI Z h47 at_ .int 64 gt := F37.other W47 hn3
  refine ownGo (T' := T47) (f' := (mkF m 43 #[rv a0, iv (0 : Int32)] [])) (st47) ?_
  refine ow_goto (q := 0) X47 hx (hb hby own_d7_43) (by decide) (by decide) ?_
  refine ow_aloadN (q := 1) X47 hx (hb hby own_d7_0) rfl rfl rfl ?_
  obtain ⟨T55, X55, e55, st55⟩ := getF X47 hx hZ hown (host := "") (Or.inl (ww 34 rfl)) Via.refl e47 F53 (g := (mkF m 1 #[rv a0, iv (0 : Int32)] [(.ref a0)])) rfl rfl (hb hby own_d7_1)
  refine ownGo (T' := T55) (f' := (mkF m 4 #[rv a0, iv (0 : Int32)] [(.int (2 : Int32))])) (st55) ?_
  refine ow_iloadN (q := 5) X55 hx (hb hby own_d7_4) rfl rfl ?_
  refine ow_icmpNo (q := 8) X55 hx (hb hby own_d7_5) rfl (Jvm.Free.XT.ii_le_f (by decide)) ?_
  refine ow_aloadN (q := 9) X55 hx (hb hby own_d7_8) rfl rfl rfl ?_
  refine ow_dup (q := 10) X55 hx (hb hby own_d7_9) rfl rfl ?_
  obtain ⟨T56, X56, e56, st56⟩ := getF X55 hx hZ hown (host := "") (Or.inl (ww 34 rfl)) Via.refl e55 F53 (g := (mkF m 10 #[rv a0, iv (0 : Int32)] [(.ref a0), (.ref a0)])) rfl rfl (hb hby own_d7_10)
  refine ownGo (T' := T56) (f' := (mkF m 13 #[rv a0, iv (0 : Int32)] [(.int (2 : Int32)), (.ref a0)])) (st56) ?_
  refine ow_iconst (q := 14) X56 hx (2 : Int32) (hb hby own_d7_13) rfl rfl ?_
  refine ow_isub (q := 15) X56 hx (0 : Int32) (hb hby own_d7_14) rfl (by decide) ?_
  obtain ⟨T57, h57, X57, e57, W57, st57⟩ := putF X56 hx hZ hown (host := "") (Or.inl (ww 34 rfl)) Via.refl e56 F53 F48 (Or.inl (ww 35 rfl)) (ww 2 rfl) (ty := .int) (by decide) rfl rfl (g := (mkF m 15 #[rv a0, iv (0 : Int32)] [(.int (0 : Int32)), (.ref a0)])) rfl rfl (hb hby own_d7_15)
  have N57 := Fr.snoc X57 N47 G_a0
  have K57 : Keep h0 h57 [a0, as_] := K47.wr W57 (Or.inl (List.mem_of_getElem? (i := 0) rfl))
  have F58 : Exa Z h57 a0 "com/example/sieveline/sieveline/model/CurrentDomains" := F48.wr W57
  have F59 : Fld Z h57 a0 "com/example/sieveline/sieveline/model/CurrentDomains" "trail" "[I" (.ref at_) := F49.other W57 (Or.inr (slot_ne (Or.inl (ww 12 rfl)) (Or.inl (ww 35 rfl)) (by decide) (t := (.array .int)) (t' := .int) (by decide) (by decide)))
  have F60 : Fld Z h57 a0 "com/example/sieveline/sieveline/model/CurrentDomains" "size" "[I" (.ref as_) := F50.other W57 (Or.inr (slot_ne (Or.inr (ww 23 rfl)) (Or.inl (ww 35 rfl)) (by decide) (t := (.array .int)) (t' := .int) (by decide) (by decide)))
  have F61 : Fld Z h57 a0 "com/example/sieveline/sieveline/model/CurrentDomains" "dense" "[[I" (.ref ad) := F51.other W57 (Or.inr (slot_ne (Or.inr (ww 26 rfl)) (Or.inl (ww 35 rfl)) (by decide) (t := (.array (.array .int))) (t' := .int) (by decide) (by decide)))
  have F62 : Fld Z h57 a0 "com/example/sieveline/sieveline/model/CurrentDomains" "position" "[[I" (.ref ap) := F52.other W57 (Or.inr (slot_ne (Or.inr (ww 28 rfl)) (Or.inl (ww 35 rfl)) (by decide) (t := (.array (.array .int))) (t' := .int) (by decide) (by decide)))
  have F63 : Fld Z h57 a0 "com/example/sieveline/sieveline/model/CurrentDomains" "top" "I" (.int (0 : Int32)) := F53.same W57
  have F64 : ownAI Z h57 at_ .int 64 gt := F54.other W57 (Ne.symm hn1)
  have F65 : ownAI Z h57 as_ .int 2 (ownUpd (ownUpd gs 1 v19) 1 v46) := F47r.other W57 (Ne.symm hn2)
  refine ownGo (T' := T57) (f' := (mkF m 18 #[rv a0, iv (0 : Int32)] [])) (st57) ?_
  refine ow_aloadN (q := 19) X57 hx (hb hby own_d7_18) rfl rfl rfl ?_
  obtain ⟨T66, X66, e66, st66⟩ := getF X57 hx hZ hown (host := "") (Or.inl (ww 22 rfl)) Via.refl e57 F60 (g := (mkF m 19 #[rv a0, iv (0 : Int32)] [(.ref a0)])) rfl rfl (hb hby own_d7_19)
  refine ownGo (T' := T66) (f' := (mkF m 22 #[rv a0, iv (0 : Int32)] [(.ref as_)])) (st66) ?_
  refine ow_aloadN (q := 23) X66 hx (hb hby own_d7_22) rfl rfl rfl ?_
  obtain ⟨T67, X67, e67, st67⟩ := getF X66 hx hZ hown (host := "") (Or.inl (ww 11 rfl)) Via.refl e66 F59 (g := (mkF m 23 #[rv a0, iv (0 : Int32)] [(.ref a0), (.ref as_)])) rfl rfl (hb hby own_d7_23)
  refine ownGo (T' := T67) (f' := (mkF m 26 #[rv a0, iv (0 : Int32)] [(.ref at_), (.ref as_)])) (st67) ?_
  refine ow_aloadN (q := 27) X67 hx (hb hby own_d7_26) rfl rfl rfl ?_
  obtain ⟨T68, X68, e68, st68⟩ := getF X67 hx hZ hown (host := "") (Or.inl (ww 34 rfl)) Via.refl e67 F63 (g := (mkF m 27 #[rv a0, iv (0 : Int32)] [(.ref a0), (.ref at_), (.ref as_)])) rfl rfl (hb hby own_d7_27)
  refine ownGo (T' := T68) (f' := (mkF m 30 #[rv a0, iv (0 : Int32)] [(.int (0 : Int32)), (.ref at_), (.ref as_)])) (st68) ?_
  refine ownGo (T' := T68) (f' := (mkF m 31 #[rv a0, iv (0 : Int32)] [(.int (gt 0)), (.ref as_)])) (ownIaload F64 X68 hx hZ e68 (j := (0 : Int32)) (by unfold ownIn; decide) (g := (mkF m 30 #[rv a0, iv (0 : Int32)] [(.int (0 : Int32)), (.ref at_), (.ref as_)])) rfl rfl (hb hby own_d7_30)) ?_
  generalize hv_v69 : (gt 0) = v69
  have hs70 := (hv_v69.symm.trans he0)
  subst hs70
  refine ow_aloadN (q := 32) X68 hx (hb hby own_d7_31) rfl rfl rfl ?_
  obtain ⟨T71, X71, e71, st71⟩ := getF X68 hx hZ hown (host := "") (Or.inl (ww 11 rfl)) Via.refl e68 F59 (g := (mkF m 32 #[rv a0, iv (0 : Int32)] [(.ref a0), (.int (0 : Int32)), (.ref as_)])) rfl rfl (hb hby own_d7_32)
  refine ownGo (T' := T71) (f' := (mkF m 35 #[rv a0, iv (0 : Int32)] [(.ref at_), (.int (0 : Int32)), (.ref as_)])) (st71) ?_
  refine ow_aloadN (q := 36) X71 hx (hb hby own_d7_35) rfl rfl rfl ?_
  obtain ⟨T72, X72, e72, st72⟩ := getF X71 hx hZ hown (host := "") (Or.inl (ww 34 rfl)) Via.refl e71 F63 (g := (mkF m 36 #[rv a0, iv (0 : Int32)] [(.ref a0), (.ref at_), (.int (0 : Int32)), (.ref as_)])) rfl rfl (hb hby own_d7_36)
  refine ownGo (T' := T72) (f' := (mkF m 39 #[rv a0, iv (0 : Int32)] [(.int (0 : Int32)), (.ref at_), (.int (0 : Int32)), (.ref as_)])) (st72) ?_
  refine ow_iconst (q := 40) X72 hx (1 : Int32) (hb hby own_d7_39) rfl rfl ?_
  refine ow_iadd (q := 41) X72 hx (1 : Int32) (hb hby own_d7_40) rfl (by decide) ?_
  refine ownGo (T' := T72) (f' := (mkF m 42 #[rv a0, iv (0 : Int32)] [(.int (gt 1)), (.int (0 : Int32)), (.ref as_)])) (ownIaload F64 X72 hx hZ e72 (j := (1 : Int32)) (by unfold ownIn; decide) (g := (mkF m 41 #[rv a0, iv (0 : Int32)] [(.int (1 : Int32)), (.ref at_), (.int (0 : Int32)), (.ref as_)])) rfl rfl (hb hby own_d7_41)) ?_
  generalize hv_v73 : (gt 1) = v73
  obtain ⟨T74, h74, X74, e74, W74, F74s, st74⟩ := ownIastore F65 X72 hx hZ e72 (j := (0 : Int32)) (by unfold ownIn; decide) (g := (mkF m 42 #[rv a0, iv (0 : Int32)] [(.int v73), (.int (0 : Int32)), (.ref as_)])) rfl rfl (hb hby own_d7_42)
  have F74r : ownAI Z h74 as_ .int 2 (ownUpd (ownUpd (ownUpd gs 1 v19) 1 v46) 0 v73) := F74s
  have N74 := Fr.snoc X74 N57 G_as_
  have K74 : Keep h0 h74 [a0, as_] := K57.wr W74 (Or.inl (List.mem_of_getElem? (i := 1) rfl))
  have F75 : Exa Z h74 a0 "com/example/sieveline/sieveline/model/CurrentDomains" := F58.wr W74
  have F76 : Fld Z h74 a0 "com/example/sieveline/sieveline/model/CurrentDomains" "trail" "[I" (.ref at_) := F59.other W74 (Or.inl hn2)
  have F77 : Fld Z h74 a0 "com/example/sieveline/sieveline/model/CurrentDomains" "size" "[I" (.ref as_) := F60.other W74 (Or.inl hn2)
  have F78 : Fld Z h74 a0 "com/example/sieveline/sieveline/model/CurrentDomains" "dense" "[[I" (.ref ad) := F61.other W74 (Or.inl hn2)
  have F79 : Fld Z h74 a0 "com/example/sieveline/sieveline/model/CurrentDomains" "position" "[[I" (.ref ap) := F62.other W74 (Or.inl hn2)
  have F80 : Fld Z h74 a0 "com/example/sieveline/sieveline/model/CurrentDomains" "top" "I" (.int (0 : Int32)) := F63.other W74 (Or.inl hn2)
  have F81 : ownAI Z h74 at_ .int 64 gt := F64.other W74 hn3
  refine ownGo (T' := T74) (f' := (mkF m 43 #[rv a0, iv (0 : Int32)] [])) (st74) ?_
  refine ow_goto (q := 0) X74 hx (hb hby own_d7_43) (by decide) (by decide) ?_
  refine ow_aloadN (q := 1) X74 hx (hb hby own_d7_0) rfl rfl rfl ?_
  obtain ⟨T82, X82, e82, st82⟩ := getF X74 hx hZ hown (host := "") (Or.inl (ww 34 rfl)) Via.refl e74 F80 (g := (mkF m 1 #[rv a0, iv (0 : Int32)] [(.ref a0)])) rfl rfl (hb hby own_d7_1)
  refine ownGo (T' := T82) (f' := (mkF m 4 #[rv a0, iv (0 : Int32)] [(.int (0 : Int32))])) (st82) ?_
  refine ow_iloadN (q := 5) X82 hx (hb hby own_d7_4) rfl rfl ?_
  refine ow_icmpYes (q := 46) X82 hx (hb hby own_d7_5) (Jvm.Free.XT.ii_le_t (by decide)) (by decide) (by decide) ?_
  refine ownRetV X82 hx Bd.returns (hb hby own_d7_46) hlk (by decide) (by decide) ?_
  subst hv_v73 hv_v46 hv_v19
  rw [e82]
  exact ⟨rfl, N74, K74, F75, F76, F77, F78, F79, F80, F74r⟩
theorem own_ef7_undo_2_0 (m : MethodId) (a0 : Addr) : entryFrame m #[(.ref a0), (.int (2 : Int32))] 2 = mkF m 0 #[rv a0, iv (2 : Int32)] [] := by first | (simp [entryFrame, mkF, argsToLocals, Value.category]; done) | rfl
def Q_undo_2_0 (Z : State) (a0 : Addr) (at_ : Addr) (as_ : Addr) (ad : Addr) (ap : Addr) (gt : Nat → Int32) (gs : Nat → Int32) (h0 : Heap) (n0 : Nat) (v : Option Value) (h : Heap) (L : List Loc) : Prop := v = none ∧ Fr n0 L ∧ h = h0
set_option maxRecDepth 65536 in
set_option maxHeartbeats 40000000 in
theorem rm_undo_2_0 (l : Launch) (Z : State) (av0 : Array Value) (hw : ∀ d ∈ tables_1, d.before av0 Z = true) (ws : List Jvm.Cond) (a0 : Addr) (at_ : Addr) (as_ : Addr) (ad : Addr) (ap : Addr) (gt : Nat → Int32) (gs : Nat → Int32) (h0 : Heap) (n0 : Nat) (Z0 : n0 ≤ h0.size) (HF0 : Exa Z h0 a0 "com/example/sieveline/sieveline/model/CurrentDomains") (HF1 : Fld Z h0 a0 "com/example/sieveline/sieveline/model/CurrentDomains" "trail" "[I" (.ref at_)) (HF2 : Fld Z h0 a0 "com/example/sieveline/sieveline/model/CurrentDomains" "size" "[I" (.ref as_)) (HF3 : Fld Z h0 a0 "com/example/sieveline/sieveline/model/CurrentDomains" "dense" "[[I" (.ref ad)) (HF4 : Fld Z h0 a0 "com/example/sieveline/sieveline/model/CurrentDomains" "position" "[[I" (.ref ap)) (HF5 : Fld Z h0 a0 "com/example/sieveline/sieveline/model/CurrentDomains" "top" "I" (.int (2 : Int32))) (HF6 : ownAI Z h0 at_ .int 64 gt) (HF7 : ownAI Z h0 as_ .int 2 gs) (hn1 : a0 ≠ at_) (hn2 : a0 ≠ as_) (hn3 : at_ ≠ as_) :
    MetFree l (⟨"com/example/sieveline/sieveline/model/CurrentDomains", "undo", "(I)V"⟩ : MethodName) (head1 (Jvm.Cond.code (⟨"com/example/sieveline/sieveline/model/CurrentDomains", "undo", "(I)V"⟩ : MethodName) prog_10_method_9_code 2 none :: ws) ({ frames := 0, cells := 0, slots := 0, locals := 0 } : Room)) (fun a U => a = #[(.ref a0), (.int (2 : Int32))] ∧ Z.Warmed39 U.vm ∧ U.heap = h0) (fun _ _ _ _ _ => True) (fun _ U o U' => ∃ v L, o = .returned v ∧ (Q_undo_2_0 Z a0 at_ as_ ad ap gt gs h0 n0) v U'.heap L ∧ FrameEnd U o U' L ({ frames := 0, cells := 0, slots := 0, locals := 0 } : Room).cells ({ frames := 0, cells := 0, slots := 0, locals := 0 } : Room).slots) := by
  refine MetFree.of_bodySF (plainFor_of_name own_pn_CurrentDomains) hisR ?_
  intro p e s m args below meth c s₁ Bd hml0 hP hK
  obtain ⟨rfl, hZ, hh⟩ := hP
  have hx := Bd.exec
  have hby := Bd.bytes
  have hml : c.maxLocals = 2 := hml0
  have hown : s.vm.findClass "com/example/sieveline/sieveline/model/CurrentDomains" = some m.cls := findClass_of_methodNamed Bd.named
  have hnm := (name_of_methodNamed Bd.named Bd.method).1
  have hlk : meth.locks = false := BodyLoose.notSynchronized Bd
  have X0 : Stand p l e ({ frames := 0, cells := 0, slots := 0, locals := 0 } : Room) s m #[(.ref a0), (.int (2 : Int32))] below meth c s₁ [] 0 0 := Stand.of_body Bd
  have e0 : s₁.heap = h0 := by rw [← hh, Bd.state]; rfl
  have N0 := Fr.nil n0
  have K0 : Keep h0 h0 [] := Keep.refl _ _
  have ww : ∀ (k : Nat) {d : Jvm.Cond}, tables_1[k]? = some d → d.before av0 Z = true := fun k d h => hw d (List.mem_of_getElem? h)
  show ownEnds p e below s (Q_undo_2_0 Z a0 at_ as_ ad ap gt gs h0 n0) ({ frames := 0, cells := 0, slots := 0, locals := 0 } : Room).cells ({ frames := 0, cells := 0, slots := 0, locals := 0 } : Room).slots s₁ (entryFrame m #[(.ref a0), (.int (2 : Int32))] 2)
  refine ownCast (own_ef7_undo_2_0 m a0) ?_
  refine ow_aloadN (q := 1) X0 hx (hb hby own_d7_0) rfl rfl rfl ?_
  obtain ⟨T1, X1, e1, st1⟩ := getF X0 hx hZ hown (host := "") (Or.inl (ww 34 rfl)) Via.refl e0 HF5 (g := (mkF m 1 #[rv a0, iv (2 : Int32)] [(.ref a0)])) rfl rfl (hb hby own_d7_1)
  refine ownGo (T' := T1) (f' := (mkF m 4 #[rv a0, iv (2 : Int32)] [(.int (2 : Int32))])) (st1) ?_
  refine ow_iloadN (q := 5) X1 hx (hb hby own_d7_4) rfl rfl ?_
  refine ow_icmpYes (q := 46) X1 hx (hb hby own_d7_5) (Jvm.Free.XT.ii_le_t (by decide)) (by decide) (by decide) ?_
  refine ownRetV X1 hx Bd.returns (hb hby own_d7_46) hlk (by decide) (by decide) ?_
  rw [e1]
  exact ⟨rfl, N0, rfl⟩
theorem own_ef7_undo_2_1 (m : MethodId) (a0 : Addr) : entryFrame m #[(.ref a0), (.int (2 : Int32))] 2 = mkF m 0 #[rv a0, iv (2 : Int32)] [] := by first | (simp [entryFrame, mkF, argsToLocals, Value.category]; done) | rfl
def Q_undo_2_1 (Z : State) (a0 : Addr) (at_ : Addr) (as_ : Addr) (ad : Addr) (ap : Addr) (gt : Nat → Int32) (gs : Nat → Int32) (h0 : Heap) (n0 : Nat) (v : Option Value) (h : Heap) (L : List Loc) : Prop := v = none ∧ Fr n0 L ∧ Keep h0 h [a0, as_] ∧ Exa Z h a0 "com/example/sieveline/sieveline/model/CurrentDomains" ∧ Fld Z h a0 "com/example/sieveline/sieveline/model/CurrentDomains" "trail" "[I" (.ref at_) ∧ Fld Z h a0 "com/example/sieveline/sieveline/model/CurrentDomains" "size" "[I" (.ref as_) ∧ Fld Z h a0 "com/example/sieveline/sieveline/model/CurrentDomains" "dense" "[[I" (.ref ad) ∧ Fld Z h a0 "com/example/sieveline/sieveline/model/CurrentDomains" "position" "[[I" (.ref ap) ∧ Fld Z h a0 "com/example/sieveline/sieveline/model/CurrentDomains" "top" "I" (.int (2 : Int32)) ∧ ownAI Z h as_ .int 2 (ownUpd gs 0 (gt 3))
set_option maxRecDepth 65536 in
set_option maxHeartbeats 40000000 in
theorem rm_undo_2_1 (l : Launch) (Z : State) (av0 : Array Value) (hw : ∀ d ∈ tables_1, d.before av0 Z = true) (ws : List Jvm.Cond) (a0 : Addr) (at_ : Addr) (as_ : Addr) (ad : Addr) (ap : Addr) (gt : Nat → Int32) (gs : Nat → Int32) (h0 : Heap) (n0 : Nat) (Z0 : n0 ≤ h0.size) (HF0 : Exa Z h0 a0 "com/example/sieveline/sieveline/model/CurrentDomains") (HF1 : Fld Z h0 a0 "com/example/sieveline/sieveline/model/CurrentDomains" "trail" "[I" (.ref at_)) (HF2 : Fld Z h0 a0 "com/example/sieveline/sieveline/model/CurrentDomains" "size" "[I" (.ref as_)) (HF3 : Fld Z h0 a0 "com/example/sieveline/sieveline/model/CurrentDomains" "dense" "[[I" (.ref ad)) (HF4 : Fld Z h0 a0 "com/example/sieveline/sieveline/model/CurrentDomains" "position" "[[I" (.ref ap)) (HF5 : Fld Z h0 a0 "com/example/sieveline/sieveline/model/CurrentDomains" "top" "I" (.int (4 : Int32))) (HF6 : ownAI Z h0 at_ .int 64 gt) (HF7 : ownAI Z h0 as_ .int 2 gs) (G_a0 : n0 ≤ a0) (G_as_ : n0 ≤ as_) (hn1 : a0 ≠ at_) (hn2 : a0 ≠ as_) (hn3 : at_ ≠ as_) (he0 : (gt 2) = (0 : Int32)) :
    MetFree l (⟨"com/example/sieveline/sieveline/model/CurrentDomains", "undo", "(I)V"⟩ : MethodName) (head1 (Jvm.Cond.code (⟨"com/example/sieveline/sieveline/model/CurrentDomains", "undo", "(I)V"⟩ : MethodName) prog_10_method_9_code 2 none :: ws) ({ frames := 0, cells := 0, slots := 0, locals := 0 } : Room)) (fun a U => a = #[(.ref a0), (.int (2 : Int32))] ∧ Z.Warmed39 U.vm ∧ U.heap = h0) (fun _ _ _ _ _ => True) (fun _ U o U' => ∃ v L, o = .returned v ∧ (Q_undo_2_1 Z a0 at_ as_ ad ap gt gs h0 n0) v U'.heap L ∧ FrameEnd U o U' L ({ frames := 0, cells := 0, slots := 0, locals := 0 } : Room).cells ({ frames := 0, cells := 0, slots := 0, locals := 0 } : Room).slots) := by
  refine MetFree.of_bodySF (plainFor_of_name own_pn_CurrentDomains) hisR ?_
  intro p e s m args below meth c s₁ Bd hml0 hP hK
  obtain ⟨rfl, hZ, hh⟩ := hP
  have hx := Bd.exec
  have hby := Bd.bytes
  have hml : c.maxLocals = 2 := hml0
  have hown : s.vm.findClass "com/example/sieveline/sieveline/model/CurrentDomains" = some m.cls := findClass_of_methodNamed Bd.named
  have hnm := (name_of_methodNamed Bd.named Bd.method).1
  have hlk : meth.locks = false := BodyLoose.notSynchronized Bd
  have X0 : Stand p l e ({ frames := 0, cells := 0, slots := 0, locals := 0 } : Room) s m #[(.ref a0), (.int (2 : Int32))] below meth c s₁ [] 0 0 := Stand.of_body Bd
  have e0 : s₁.heap = h0 := by rw [← hh, Bd.state]; rfl
  have N0 := Fr.nil n0
  have K0 : Keep h0 h0 [a0, as_] := Keep.refl _ _
  have ww : ∀ (k : Nat) {d : Jvm.Cond}, tables_1[k]? = some d → d.before av0 Z = true := fun k d h => hw d (List.mem_of_getElem? h)
  show ownEnds p e below s (Q_undo_2_1 Z a0 at_ as_ ad ap gt gs h0 n0) ({ frames := 0, cells := 0, slots := 0, locals := 0 } : Room).cells ({ frames := 0, cells := 0, slots := 0, locals := 0 } : Room).slots s₁ (entryFrame m #[(.ref a0), (.int (2 : Int32))] 2)
  refine ownCast (own_ef7_undo_2_1 m a0) ?_
  refine ow_aloadN (q := 1) X0 hx (hb hby own_d7_0) rfl rfl rfl ?_
  obtain ⟨T1, X1, e1, st1⟩ := getF X0 hx hZ hown (host := "") (Or.inl (ww 34 rfl)) Via.refl e0 HF5 (g := (mkF m 1 #[rv a0, iv (2 : Int32)] [(.ref a0)])) rfl rfl (hb hby own_d7_1)
  refine ownGo (T' := T1) (f' := (mkF m 4 #[rv a0, iv (2 : Int32)] [(.int (4 : Int32))])) (st1) ?_
  refine ow_iloadN (q := 5) X1 hx (hb hby own_d7_4) rfl rfl ?_
  refine ow_icmpNo (q := 8) X1 hx (hb hby own_d7_5) rfl (Jvm.Free.XT.ii_le_f (by decide)) ?_
  refine ow_aloadN (q := 9) X1 hx (hb hby own_d7_8) rfl rfl rfl ?_
  refine ow_dup (q := 10) X1 hx (hb hby own_d7_9) rfl rfl ?_
  obtain ⟨T2, X2, e2, st2⟩ := getF X1 hx hZ hown (host := "") (Or.inl (ww 34 rfl)) Via.refl e1 HF5 (g := (mkF m 10 #[rv a0, iv (2 : Int32)] [(.ref a0), (.ref a0)])) rfl rfl (hb hby own_d7_10)
  refine ownGo (T' := T2) (f' := (mkF m 13 #[rv a0, iv (2 : Int32)] [(.int (4 : Int32)), (.ref a0)])) (st2) ?_
  refine ow_iconst (q := 14) X2 hx (2 : Int32) (hb hby own_d7_13) rfl rfl ?_
  refine ow_isub (q := 15) X2 hx (2 : Int32) (hb hby own_d7_14) rfl (by decide) ?_
  obtain ⟨T3, h3, X3, e3, W3, st3⟩ := putF X2 hx hZ hown (host := "") (Or.inl (ww 34 rfl)) Via.refl e2 HF5 HF0 (Or.inl (ww 35 rfl)) (ww 2 rfl) (ty := .int) (by decide) rfl rfl (g := (mkF m 15 #[rv a0, iv (2 : Int32)] [(.int (2 : Int32)), (.ref a0)])) rfl rfl (hb hby own_d7_15)
  have N3 := Fr.snoc X3 N0 G_a0
  have K3 : Keep h0 h3 [a0, as_] := K0.wr W3 (Or.inl (List.mem_of_getElem? (i := 0) rfl))
  have F4 : Exa Z h3 a0 "com/example/sieveline/sieveline/model/CurrentDomains" := HF0.wr W3
  have F5 : Fld Z h3 a0 "com/example/sieveline/sieveline/model/CurrentDomains" "trail" "[I" (.ref at_) := HF1.other W3 (Or.inr (slot_ne (Or.inl (ww 12 rfl)) (Or.inl (ww 35 rfl)) (by decide) (t := (.array .int)) (t' := .int) (by decide) (by decide)))
  have F6 : Fld Z h3 a0 "com/example/sieveline/sieveline/model/CurrentDomains" "size" "[I" (.ref as_) := HF2.other W3 (Or.inr (slot_ne (Or.inr (ww 23 rfl)) (Or.inl (ww 35 rfl)) (by decide) (t := (.array .int)) (t' := .int) (by decide) (by decide)))
  have F7 : Fld Z h3 a0 "com/example/sieveline/sieveline/model/CurrentDomains" "dense" "[[I" (.ref ad) := HF3.other W3 (Or.inr (slot_ne (Or.inr (ww 26 rfl)) (Or.inl (ww 35 rfl)) (by decide) (t := (.array (.array .int))) (t' := .int) (by decide) (by decide)))
  have F8 : Fld Z h3 a0 "com/example/sieveline/sieveline/model/CurrentDomains" "position" "[[I" (.ref ap) := HF4.other W3 (Or.inr (slot_ne (Or.inr (ww 28 rfl)) (Or.inl (ww 35 rfl)) (by decide) (t := (.array (.array .int))) (t' := .int) (by decide) (by decide)))
  have F9 : Fld Z h3 a0 "com/example/sieveline/sieveline/model/CurrentDomains" "top" "I" (.int (2 : Int32)) := HF5.same W3
  have F10 : ownAI Z h3 at_ .int 64 gt := HF6.other W3 (Ne.symm hn1)
  have F11 : ownAI Z h3 as_ .int 2 gs := HF7.other W3 (Ne.symm hn2)
  refine ownGo (T' := T3) (f' := (mkF m 18 #[rv a0, iv (2 : Int32)] [])) (st3) ?_
  refine ow_aloadN (q := 19) X3 hx (hb hby own_d7_18) rfl rfl rfl ?_
  obtain ⟨T12, X12, e12, st12⟩ := getF X3 hx hZ hown (host := "") (Or.inl (ww 22 rfl)) Via.refl e3 F6 (g := (mkF m 19 #[rv a0, iv (2 : Int32)] [(.ref a0)])) rfl rfl (hb hby own_d7_19)
  refine ownGo (T' := T12) (f' := (mkF m 22 #[rv a0, iv (2 : Int32)] [(.ref as_)])) (st12) ?_
  refine ow_aloadN (q := 23) X12 hx (hb hby own_d7_22) rfl rfl rfl ?_
  obtain ⟨T13, X13, e13, st13⟩ := getF X12 hx hZ hown (host := "") (Or.inl (ww 11 rfl)) Via.refl e12 F5 (g := (mkF m 23 #[rv a0, iv (2 : Int32)] [(.ref a0), (.ref as_)])) rfl rfl (hb hby own_d7_23)
  refine ownGo (T' := T13) (f' := (mkF m 26 #[rv a0, iv (2 : Int32)] [(.ref at_), (.ref as_)])) (st13) ?_
  refine ow_aloadN (q := 27) X13 hx (hb hby own_d7_26) rfl rfl rfl ?_
  obtain ⟨T14, X14, e14, st14⟩ := getF X13 hx hZ hown (host := "") (Or.inl (ww 34 rfl)) Via.refl e13 F9 (g := (mkF m 27 #[rv a0, iv (2 : Int32)] [(.ref a0), (.ref at_), (.ref as_)])) rfl rfl (hb hby own_d7_27)
  refine ownGo (T' := T14) (f' := (mkF m 30 #[rv a0, iv (2 : Int32)] [(.int (2 : Int32)), (.ref at_), (.ref as_)])) (st14) ?_
  refine ownGo (T' := T14) (f' := (mkF m 31 #[rv a0, iv (2 : Int32)] [(.int (gt 2)), (.ref as_)])) (ownIaload F10 X14 hx hZ e14 (j := (2 : Int32)) (by unfold ownIn; decide) (g := (mkF m 30 #[rv a0, iv (2 : Int32)] [(.int (2 : Int32)), (.ref at_), (.ref as_)])) rfl rfl (hb hby own_d7_30)) ?_
  generalize hv_v15 : (gt 2) = v15
  have hs16 := (hv_v15.symm.trans he0)
  subst hs16
  refine ow_aloadN (q := 32) X14 hx (hb hby own_d7_31) rfl rfl rfl ?_
  obtain ⟨T17, X17, e17, st17⟩ := getF X14 hx hZ hown (host := "") (Or.inl (ww 11 rfl)) Via.refl e14 F5 (g := (mkF m 32 #[rv a0, iv (2 : Int32)] [(.ref a0), (.int (0 : Int32)), (.ref as_)])) rfl rfl (hb hby own_d7_32)
  refine ownGo (T' := T17) (f' := (mkF m 35 #[rv a0, iv (2 : Int32)] [(.ref at_), (.int (0 : Int32)), (.ref as_)])) (st17) ?_
  refine ow_aloadN (q := 36) X17 hx (hb hby own_d7_35) rfl rfl rfl ?_
  obtain ⟨T18, X18, e18, st18⟩ := getF X17 hx hZ hown (host := "") (Or.inl (ww 34 rfl)) Via.refl e17 F9 (g := (mkF m 36 #[rv a0, iv (2 : Int32)] [(.ref a0), (.ref at_), (.int (0 : Int32)), (.ref as_)])) rfl rfl (hb hby own_d7_36)
  refine ownGo (T' := T18) (f' := (mkF m 39 #[rv a0, iv (2 : Int32)] [(.int (2 : Int32)), (.ref at_), (.int (0 : Int32)), (.ref as_)])) (st18) ?_
  refine ow_iconst (q := 40) X18 hx (1 : Int32) (hb hby own_d7_39) rfl rfl ?_
  refine ow_iadd (q := 41) X18 hx (3 : Int32) (hb hby own_d7_40) rfl (by decide) ?_
  refine ownGo (T' := T18) (f' := (mkF m 42 #[rv a0, iv (2 : Int32)] [(.int (gt 3)), (.int (0 : Int32)), (.ref as_)])) (ownIaload F10 X18 hx hZ e18 (j := (3 : Int32)) (by unfold ownIn; decide) (g := (mkF m 41 #[rv a0, iv (2 : Int32)] [(.int (3 : Int32)), (.ref at_), (.int (0 : Int32)), (.ref as_)])) rfl rfl (hb hby own_d7_41)) ?_
  generalize hv_v19 : (gt 3) = v19
  obtain ⟨T20, h20, X20, e20, W20, F20s, st20⟩ := ownIastore F11 X18 hx hZ e18 (j := (0 : Int32)) (by unfold ownIn; decide) (g := (mkF m 42 #[rv a0, iv (2 : Int32)] [(.int v19), (.int (0 : Int32)), (.ref as_)])) rfl rfl (hb hby own_d7_42)
  have F20r : ownAI Z h20 as_ .int 2 (ownUpd gs 0 v19) := F20s
  have N20 := Fr.snoc X20 N3 G_as_
  have K20 : Keep h0 h20 [a0, as_] := K3.wr W20 (Or.inl (List.mem_of_getElem? (i := 1) rfl))
  have F21 : Exa Z h20 a0 "com/example/sieveline/sieveline/model/CurrentDomains" := F4.wr W20
  have F22 : Fld Z h20 a0 "com/example/sieveline/sieveline/model/CurrentDomains" "trail" "[I" (.ref at_) := F5.other W20 (Or.inl hn2)
  have F23 : Fld Z h20 a0 "com/example/sieveline/sieveline/model/CurrentDomains" "size" "[I" (.ref as_) := F6.other W20 (Or.inl hn2)
  have F24 : Fld Z h20 a0 "com/example/sieveline/sieveline/model/CurrentDomains" "dense" "[[I" (.ref ad) := F7.other W20 (Or.inl hn2)
  have F25 : Fld Z h20 a0 "com/example/sieveline/sieveline/model/CurrentDomains" "position" "[[I" (.ref ap) := F8.other W20 (Or.inl hn2)
  have F26 : Fld Z h20 a0 "com/example/sieveline/sieveline/model/CurrentDomains" "top" "I" (.int (2 : Int32)) := F9.other W20 (Or.inl hn2)
  have F27 : ownAI Z h20 at_ .int 64 gt := F10.other W20 hn3
  refine ownGo (T' := T20) (f' := (mkF m 43 #[rv a0, iv (2 : Int32)] [])) (st20) ?_
  refine ow_goto (q := 0) X20 hx (hb hby own_d7_43) (by decide) (by decide) ?_
  refine ow_aloadN (q := 1) X20 hx (hb hby own_d7_0) rfl rfl rfl ?_
  obtain ⟨T28, X28, e28, st28⟩ := getF X20 hx hZ hown (host := "") (Or.inl (ww 34 rfl)) Via.refl e20 F26 (g := (mkF m 1 #[rv a0, iv (2 : Int32)] [(.ref a0)])) rfl rfl (hb hby own_d7_1)
  refine ownGo (T' := T28) (f' := (mkF m 4 #[rv a0, iv (2 : Int32)] [(.int (2 : Int32))])) (st28) ?_
  refine ow_iloadN (q := 5) X28 hx (hb hby own_d7_4) rfl rfl ?_
  refine ow_icmpYes (q := 46) X28 hx (hb hby own_d7_5) (Jvm.Free.XT.ii_le_t (by decide)) (by decide) (by decide) ?_
  refine ownRetV X28 hx Bd.returns (hb hby own_d7_46) hlk (by decide) (by decide) ?_
  subst hv_v19
  rw [e28]
  exact ⟨rfl, N20, K20, F21, F22, F23, F24, F25, F26, F20r⟩
theorem own_ef7_undo_2_2 (m : MethodId) (a0 : Addr) : entryFrame m #[(.ref a0), (.int (2 : Int32))] 2 = mkF m 0 #[rv a0, iv (2 : Int32)] [] := by first | (simp [entryFrame, mkF, argsToLocals, Value.category]; done) | rfl
def Q_undo_2_2 (Z : State) (a0 : Addr) (at_ : Addr) (as_ : Addr) (ad : Addr) (ap : Addr) (gt : Nat → Int32) (gs : Nat → Int32) (h0 : Heap) (n0 : Nat) (v : Option Value) (h : Heap) (L : List Loc) : Prop := v = none ∧ Fr n0 L ∧ Keep h0 h [a0, as_] ∧ Exa Z h a0 "com/example/sieveline/sieveline/model/CurrentDomains" ∧ Fld Z h a0 "com/example/sieveline/sieveline/model/CurrentDomains" "trail" "[I" (.ref at_) ∧ Fld Z h a0 "com/example/sieveline/sieveline/model/CurrentDomains" "size" "[I" (.ref as_) ∧ Fld Z h a0 "com/example/sieveline/sieveline/model/CurrentDomains" "dense" "[[I" (.ref ad) ∧ Fld Z h a0 "com/example/sieveline/sieveline/model/CurrentDomains" "position" "[[I" (.ref ap) ∧ Fld Z h a0 "com/example/sieveline/sieveline/model/CurrentDomains" "top" "I" (.int (2 : Int32)) ∧ ownAI Z h as_ .int 2 (ownUpd (ownUpd gs 1 (gt 5)) 0 (gt 3))
set_option maxRecDepth 65536 in
set_option maxHeartbeats 40000000 in
theorem rm_undo_2_2 (l : Launch) (Z : State) (av0 : Array Value) (hw : ∀ d ∈ tables_1, d.before av0 Z = true) (ws : List Jvm.Cond) (a0 : Addr) (at_ : Addr) (as_ : Addr) (ad : Addr) (ap : Addr) (gt : Nat → Int32) (gs : Nat → Int32) (h0 : Heap) (n0 : Nat) (Z0 : n0 ≤ h0.size) (HF0 : Exa Z h0 a0 "com/example/sieveline/sieveline/model/CurrentDomains") (HF1 : Fld Z h0 a0 "com/example/sieveline/sieveline/model/CurrentDomains" "trail" "[I" (.ref at_)) (HF2 : Fld Z h0 a0 "com/example/sieveline/sieveline/model/CurrentDomains" "size" "[I" (.ref as_)) (HF3 : Fld Z h0 a0 "com/example/sieveline/sieveline/model/CurrentDomains" "dense" "[[I" (.ref ad)) (HF4 : Fld Z h0 a0 "com/example/sieveline/sieveline/model/CurrentDomains" "position" "[[I" (.ref ap)) (HF5 : Fld Z h0 a0 "com/example/sieveline/sieveline/model/CurrentDomains" "top" "I" (.int (6 : Int32))) (HF6 : ownAI Z h0 at_ .int 64 gt) (HF7 : ownAI Z h0 as_ .int 2 gs) (G_a0 : n0 ≤ a0) (G_as_ : n0 ≤ as_) (hn1 : a0 ≠ at_) (hn2 : a0 ≠ as_) (hn3 : at_ ≠ as_) (he0 : (gt 2) = (0 : Int32)) (he1 : (gt 4) = (1 : Int32)) :
    MetFree l (⟨"com/example/sieveline/sieveline/model/CurrentDomains", "undo", "(I)V"⟩ : MethodName) (head1 (Jvm.Cond.code (⟨"com/example/sieveline/sieveline/model/CurrentDomains", "undo", "(I)V"⟩ : MethodName) prog_10_method_9_code 2 none :: ws) ({ frames := 0, cells := 0, slots := 0, locals := 0 } : Room)) (fun a U => a = #[(.ref a0), (.int (2 : Int32))] ∧ Z.Warmed39 U.vm ∧ U.heap = h0) (fun _ _ _ _ _ => True) (fun _ U o U' => ∃ v L, o = .returned v ∧ (Q_undo_2_2 Z a0 at_ as_ ad ap gt gs h0 n0) v U'.heap L ∧ FrameEnd U o U' L ({ frames := 0, cells := 0, slots := 0, locals := 0 } : Room).cells ({ frames := 0, cells := 0, slots := 0, locals := 0 } : Room).slots) := by
  refine MetFree.of_bodySF (plainFor_of_name own_pn_CurrentDomains) hisR ?_
  intro p e s m args below meth c s₁ Bd hml0 hP hK
  obtain ⟨rfl, hZ, hh⟩ := hP
  have hx := Bd.exec
  have hby := Bd.bytes
  have hml : c.maxLocals = 2 := hml0
  have hown : s.vm.findClass "com/example/sieveline/sieveline/model/CurrentDomains" = some m.cls := findClass_of_methodNamed Bd.named
  have hnm := (name_of_methodNamed Bd.named Bd.method).1
  have hlk : meth.locks = false := BodyLoose.notSynchronized Bd
  have X0 : Stand p l e ({ frames := 0, cells := 0, slots := 0, locals := 0 } : Room) s m #[(.ref a0), (.int (2 : Int32))] below meth c s₁ [] 0 0 := Stand.of_body Bd
  have e0 : s₁.heap = h0 := by rw [← hh, Bd.state]; rfl
  have N0 := Fr.nil n0
  have K0 : Keep h0 h0 [a0, as_] := Keep.refl _ _
  have ww : ∀ (k : Nat) {d : Jvm.Cond}, tables_1[k]? = some d → d.before av0 Z = true := fun k d h => hw d (List.mem_of_getElem? h)
  show ownEnds p e below s (Q_undo_2_2 Z a0 at_ as_ ad ap gt gs h0 n0) ({ frames := 0, cells := 0, slots := 0, locals := 0 } : Room).cells ({ frames := 0, cells := 0, slots := 0, locals := 0 } : Room).slots s₁ (entryFrame m #[(.ref a0), (.int (2 : Int32))] 2)
  refine ownCast (own_ef7_undo_2_2 m a0) ?_
  refine ow_aloadN (q := 1) X0 hx (hb hby own_d7_0) rfl rfl rfl ?_
  obtain ⟨T1, X1, e1, st1⟩ := getF X0 hx hZ hown (host := "") (Or.inl (ww 34 rfl)) Via.refl e0 HF5 (g := (mkF m 1 #[rv a0, iv (2 : Int32)] [(.ref a0)])) rfl rfl (hb hby own_d7_1)
  refine ownGo (T' := T1) (f' := (mkF m 4 #[rv a0, iv (2 : Int32)] [(.int (6 : Int32))])) (st1) ?_
  refine ow_iloadN (q := 5) X1 hx (hb hby own_d7_4) rfl rfl ?_
  refine ow_icmpNo (q := 8) X1 hx (hb hby own_d7_5) rfl (Jvm.Free.XT.ii_le_f (by decide)) ?_
  refine ow_aloadN (q := 9) X1 hx (hb hby own_d7_8) rfl rfl rfl ?_
  refine ow_dup (q := 10) X1 hx (hb hby own_d7_9) rfl rfl ?_
  obtain ⟨T2, X2, e2, st2⟩ := getF X1 hx hZ hown (host := "") (Or.inl (ww 34 rfl)) Via.refl e1 HF5 (g := (mkF m 10 #[rv a0, iv (2 : Int32)] [(.ref a0), (.ref a0)])) rfl rfl (hb hby own_d7_10)
  refine ownGo (T' := T2) (f' := (mkF m 13 #[rv a0, iv (2 : Int32)] [(.int (6 : Int32)), (.ref a0)])) (st2) ?_
  refine ow_iconst (q := 14) X2 hx (2 : Int32) (hb hby own_d7_13) rfl rfl ?_
  refine ow_isub (q := 15) X2 hx (4 : Int32) (hb hby own_d7_14) rfl (by decide) ?_
  obtain ⟨T3, h3, X3, e3, W3, st3⟩ := putF X2 hx hZ hown (host := "") (Or.inl (ww 34 rfl)) Via.refl e2 HF5 HF0 (Or.inl (ww 35 rfl)) (ww 2 rfl) (ty := .int) (by decide) rfl rfl (g := (mkF m 15 #[rv a0, iv (2 : Int32)] [(.int (4 : Int32)), (.ref a0)])) rfl rfl (hb hby own_d7_15)
  have N3 := Fr.snoc X3 N0 G_a0
  have K3 : Keep h0 h3 [a0, as_] := K0.wr W3 (Or.inl (List.mem_of_getElem? (i := 0) rfl))
  have F4 : Exa Z h3 a0 "com/example/sieveline/sieveline/model/CurrentDomains" := HF0.wr W3
  have F5 : Fld Z h3 a0 "com/example/sieveline/sieveline/model/CurrentDomains" "trail" "[I" (.ref at_) := HF1.other W3 (Or.inr (slot_ne (Or.inl (ww 12 rfl)) (Or.inl (ww 35 rfl)) (by decide) (t := (.array .int)) (t' := .int) (by decide) (by decide)))
  have F6 : Fld Z h3 a0 "com/example/sieveline/sieveline/model/CurrentDomains" "size" "[I" (.ref as_) := HF2.other W3 (Or.inr (slot_ne (Or.inr (ww 23 rfl)) (Or.inl (ww 35 rfl)) (by decide) (t := (.array .int)) (t' := .int) (by decide) (by decide)))
  have F7 : Fld Z h3 a0 "com/example/sieveline/sieveline/model/CurrentDomains" "dense" "[[I" (.ref ad) := HF3.other W3 (Or.inr (slot_ne (Or.inr (ww 26 rfl)) (Or.inl (ww 35 rfl)) (by decide) (t := (.array (.array .int))) (t' := .int) (by decide) (by decide)))
  have F8 : Fld Z h3 a0 "com/example/sieveline/sieveline/model/CurrentDomains" "position" "[[I" (.ref ap) := HF4.other W3 (Or.inr (slot_ne (Or.inr (ww 28 rfl)) (Or.inl (ww 35 rfl)) (by decide) (t := (.array (.array .int))) (t' := .int) (by decide) (by decide)))
  have F9 : Fld Z h3 a0 "com/example/sieveline/sieveline/model/CurrentDomains" "top" "I" (.int (4 : Int32)) := HF5.same W3
  have F10 : ownAI Z h3 at_ .int 64 gt := HF6.other W3 (Ne.symm hn1)
  have F11 : ownAI Z h3 as_ .int 2 gs := HF7.other W3 (Ne.symm hn2)
  refine ownGo (T' := T3) (f' := (mkF m 18 #[rv a0, iv (2 : Int32)] [])) (st3) ?_
  refine ow_aloadN (q := 19) X3 hx (hb hby own_d7_18) rfl rfl rfl ?_
  obtain ⟨T12, X12, e12, st12⟩ := getF X3 hx hZ hown (host := "") (Or.inl (ww 22 rfl)) Via.refl e3 F6 (g := (mkF m 19 #[rv a0, iv (2 : Int32)] [(.ref a0)])) rfl rfl (hb hby own_d7_19)
  refine ownGo (T' := T12) (f' := (mkF m 22 #[rv a0, iv (2 : Int32)] [(.ref as_)])) (st12) ?_
  refine ow_aloadN (q := 23) X12 hx (hb hby own_d7_22) rfl rfl rfl ?_
  obtain ⟨T13, X13, e13, st13⟩ := getF X12 hx hZ hown (host := "") (Or.inl (ww 11 rfl)) Via.refl e12 F5 (g := (mkF m 23 #[rv a0, iv (2 : Int32)] [(.ref a0), (.ref as_)])) rfl rfl (hb hby own_d7_23)
  refine ownGo (T' := T13) (f' := (mkF m 26 #[rv a0, iv (2 : Int32)] [(.ref at_), (.ref as_)])) (st13) ?_
  refine ow_aloadN (q := 27) X13 hx (hb hby own_d7_26) rfl rfl rfl ?_
  obtain ⟨T14, X14, e14, st14⟩ := getF X13 hx hZ hown (host := "") (Or.inl (ww 34 rfl)) Via.refl e13 F9 (g := (mkF m 27 #[rv a0, iv (2 : Int32)] [(.ref a0), (.ref at_), (.ref as_)])) rfl rfl (hb hby own_d7_27)
  refine ownGo (T' := T14) (f' := (mkF m 30 #[rv a0, iv (2 : Int32)] [(.int (4 : Int32)), (.ref at_), (.ref as_)])) (st14) ?_
  refine ownGo (T' := T14) (f' := (mkF m 31 #[rv a0, iv (2 : Int32)] [(.int (gt 4)), (.ref as_)])) (ownIaload F10 X14 hx hZ e14 (j := (4 : Int32)) (by unfold ownIn; decide) (g := (mkF m 30 #[rv a0, iv (2 : Int32)] [(.int (4 : Int32)), (.ref at_), (.ref as_)])) rfl rfl (hb hby own_d7_30)) ?_
  generalize hv_v15 : (gt 4) = v15
  have hs16 := (hv_v15.symm.trans he1)
  subst hs16
  refine ow_aloadN (q := 32) X14 hx (hb hby own_d7_31) rfl rfl rfl ?_
  obtain ⟨T17, X17, e17, st17⟩ := getF X14 hx hZ hown (host := "") (Or.inl (ww 11 rfl)) Via.refl e14 F5 (g := (mkF m 32 #[rv a0, iv (2 : Int32)] [(.ref a0), (.int (1 : Int32)), (.ref as_)])) rfl rfl (hb hby own_d7_32)
  refine ownGo (T' := T17) (f' := (mkF m 35 #[rv a0, iv (2 : Int32)] [(.ref at_), (.int (1 : Int32)), (.ref as_)])) (st17) ?_
  refine ow_aloadN (q := 36) X17 hx (hb hby own_d7_35) rfl rfl rfl ?_
  obtain ⟨T18, X18, e18, st18⟩ := getF X17 hx hZ hown (host := "") (Or.inl (ww 34 rfl)) Via.refl e17 F9 (g := (mkF m 36 #[rv a0, iv (2 : Int32)] [(.ref a0), (.ref at_), (.int (1 : Int32)), (.ref as_)])) rfl rfl (hb hby own_d7_36)
  refine ownGo (T' := T18) (f' := (mkF m 39 #[rv a0, iv (2 : Int32)] [(.int (4 : Int32)), (.ref at_), (.int (1 : Int32)), (.ref as_)])) (st18) ?_
  refine ow_iconst (q := 40) X18 hx (1 : Int32) (hb hby own_d7_39) rfl rfl ?_
  refine ow_iadd (q := 41) X18 hx (5 : Int32) (hb hby own_d7_40) rfl (by decide) ?_
  refine ownGo (T' := T18) (f' := (mkF m 42 #[rv a0, iv (2 : Int32)] [(.int (gt 5)), (.int (1 : Int32)), (.ref as_)])) (ownIaload F10 X18 hx hZ e18 (j := (5 : Int32)) (by unfold ownIn; decide) (g := (mkF m 41 #[rv a0, iv (2 : Int32)] [(.int (5 : Int32)), (.ref at_), (.int (1 : Int32)), (.ref as_)])) rfl rfl (hb hby own_d7_41)) ?_
  generalize hv_v19 : (gt 5) = v19
  obtain ⟨T20, h20, X20, e20, W20, F20s, st20⟩ := ownIastore F11 X18 hx hZ e18 (j := (1 : Int32)) (by unfold ownIn; decide) (g := (mkF m 42 #[rv a0, iv (2 : Int32)] [(.int v19), (.int (1 : Int32)), (.ref as_)])) rfl rfl (hb hby own_d7_42)
  have F20r : ownAI Z h20 as_ .int 2 (ownUpd gs 1 v19) := F20s
  have N20 := Fr.snoc X20 N3 G_as_
  have K20 : Keep h0 h20 [a0, as_] := K3.wr W20 (Or.inl (List.mem_of_getElem? (i := 1) rfl))
  have F21 : Exa Z h20 a0 "com/example/sieveline/sieveline/model/CurrentDomains" := F4.wr W20
  have F22 : Fld Z h20 a0 "com/example/sieveline/sieveline/model/CurrentDomains" "trail" "[I" (.ref at_) := F5.other W20 (Or.inl hn2)
  have F23 : Fld Z h20 a0 "com/example/sieveline/sieveline/model/CurrentDomains" "size" "[I" (.ref as_) := F6.other W20 (Or.inl hn2)
  have F24 : Fld Z h20 a0 "com/example/sieveline/sieveline/model/CurrentDomains" "dense" "[[I" (.ref ad) := F7.other W20 (Or.inl hn2)
  have F25 : Fld Z h20 a0 "com/example/sieveline/sieveline/model/CurrentDomains" "position" "[[I" (.ref ap) := F8.other W20 (Or.inl hn2)
  have F26 : Fld Z h20 a0 "com/example/sieveline/sieveline/model/CurrentDomains" "top" "I" (.int (4 : Int32)) := F9.other W20 (Or.inl hn2)
  have F27 : ownAI Z h20 at_ .int 64 gt := F10.other W20 hn3
  refine ownGo (T' := T20) (f' := (mkF m 43 #[rv a0, iv (2 : Int32)] [])) (st20) ?_
  refine ow_goto (q := 0) X20 hx (hb hby own_d7_43) (by decide) (by decide) ?_
  refine ow_aloadN (q := 1) X20 hx (hb hby own_d7_0) rfl rfl rfl ?_
  obtain ⟨T28, X28, e28, st28⟩ := getF X20 hx hZ hown (host := "") (Or.inl (ww 34 rfl)) Via.refl e20 F26 (g := (mkF m 1 #[rv a0, iv (2 : Int32)] [(.ref a0)])) rfl rfl (hb hby own_d7_1)
  refine ownGo (T' := T28) (f' := (mkF m 4 #[rv a0, iv (2 : Int32)] [(.int (4 : Int32))])) (st28) ?_
  refine ow_iloadN (q := 5) X28 hx (hb hby own_d7_4) rfl rfl ?_
  refine ow_icmpNo (q := 8) X28 hx (hb hby own_d7_5) rfl (Jvm.Free.XT.ii_le_f (by decide)) ?_
  refine ow_aloadN (q := 9) X28 hx (hb hby own_d7_8) rfl rfl rfl ?_
  refine ow_dup (q := 10) X28 hx (hb hby own_d7_9) rfl rfl ?_
  obtain ⟨T29, X29, e29, st29⟩ := getF X28 hx hZ hown (host := "") (Or.inl (ww 34 rfl)) Via.refl e28 F26 (g := (mkF m 10 #[rv a0, iv (2 : Int32)] [(.ref a0), (.ref a0)])) rfl rfl (hb hby own_d7_10)
  refine ownGo (T' := T29) (f' := (mkF m 13 #[rv a0, iv (2 : Int32)] [(.int (4 : Int32)), (.ref a0)])) (st29) ?_
  refine ow_iconst (q := 14) X29 hx (2 : Int32) (hb hby own_d7_13) rfl rfl ?_
  refine ow_isub (q := 15) X29 hx (2 : Int32) (hb hby own_d7_14) rfl (by decide) ?_
  obtain ⟨T30, h30, X30, e30, W30, st30⟩ := putF X29 hx hZ hown (host := "") (Or.inl (ww 34 rfl)) Via.refl e29 F26 F21 (Or.inl (ww 35 rfl)) (ww 2 rfl) (ty := .int) (by decide) rfl rfl (g := (mkF m 15 #[rv a0, iv (2 : Int32)] [(.int (2 : Int32)), (.ref a0)])) rfl rfl (hb hby own_d7_15)
  have N30 := Fr.snoc X30 N20 G_a0
  have K30 : Keep h0 h30 [a0, as_] := K20.wr W30 (Or.inl (List.mem_of_getElem? (i := 0) rfl))
  have F31 : Exa Z h30 a0 "com/example/sieveline/sieveline/model/CurrentDomains" := F21.wr W30
  have F32 : Fld Z h30 a0 "com/example/sieveline/sieveline/model/CurrentDomains" "trail" "[I" (.ref at_) := F22.other W30 (Or.inr (slot_ne (Or.inl (ww 12 rfl)) (Or.inl (ww 35 rfl)) (by decide) (t := (.array .int)) (t' := .int) (by decide) (by decide)))
  have F33 : Fld Z h30 a0 "com/example/sieveline/sieveline/model/CurrentDomains" "size" "[I" (.ref as_) := F23.other W30 (Or.inr (slot_ne (Or.inr (ww 23 rfl)) (Or.inl (ww 35 rfl)) (by decide) (t := (.array .int)) (t' := .int) (by decide) (by decide)))
  have F34 : Fld Z h30 a0 "com/example/sieveline/sieveline/model/CurrentDomains" "dense" "[[I" (.ref ad) := F24.other W30 (Or.inr (slot_ne (Or.inr (ww 26 rfl)) (Or.inl (ww 35 rfl)) (by decide) (t := (.array (.array .int))) (t' := .int) (by decide) (by decide)))
  have F35 : Fld Z h30 a0 "com/example/sieveline/sieveline/model/CurrentDomains" "position" "[[I" (.ref ap) := F25.other W30 (Or.inr (slot_ne (Or.inr (ww 28 rfl)) (Or.inl (ww 35 rfl)) (by decide) (t := (.array (.array .int))) (t' := .int) (by decide) (by decide)))
  have F36 : Fld Z h30 a0 "com/example/sieveline/sieveline/model/CurrentDomains" "top" "I" (.int (2 : Int32)) := F26.same W30
  have F37 : ownAI Z h30 at_ .int 64 gt := F27.other W30 (Ne.symm hn1)
  have F38 : ownAI Z h30 as_ .int 2 (ownUpd gs 1 v19) := F20r.other W30 (Ne.symm hn2)
  refine ownGo (T' := T30) (f' := (mkF m 18 #[rv a0, iv (2 : Int32)] [])) (st30) ?_
  refine ow_aloadN (q := 19) X30 hx (hb hby own_d7_18) rfl rfl rfl ?_
  obtain ⟨T39, X39, e39, st39⟩ := getF X30 hx hZ hown (host := "") (Or.inl (ww 22 rfl)) Via.refl e30 F33 (g := (mkF m 19 #[rv a0, iv (2 : Int32)] [(.ref a0)])) rfl rfl (hb hby own_d7_19)
  refine ownGo (T' := T39) (f' := (mkF m 22 #[rv a0, iv (2 : Int32)] [(.ref as_)])) (st39) ?_
  refine ow_aloadN (q := 23) X39 hx (hb hby own_d7_22) rfl rfl rfl ?_
  obtain ⟨T40, X40, e40, st40⟩ := getF X39 hx hZ hown (host := "") (Or.inl (ww 11 rfl)) Via.refl e39 F32 (g := (mkF m 23 #[rv a0, iv (2 : Int32)] [(.ref a0), (.ref as_)])) rfl rfl (hb hby own_d7_23)
  refine ownGo (T' := T40) (f' := (mkF m 26 #[rv a0, iv (2 : Int32)] [(.ref at_), (.ref as_)])) (st40) ?_
  refine ow_aloadN (q := 27) X40 hx (hb hby own_d7_26) rfl rfl rfl ?_
  obtain ⟨T41, X41, e41, st41⟩ := getF X40 hx hZ hown (host := "") (Or.inl (ww 34 rfl)) Via.refl e40 F36 (g := (mkF m 27 #[rv a0, iv (2 : Int32)] [(.ref a0), (.ref at_), (.ref as_)])) rfl rfl (hb hby own_d7_27)
  refine ownGo (T' := T41) (f' := (mkF m 30 #[rv a0, iv (2 : Int32)] [(.int (2 : Int32)), (.ref at_), (.ref as_)])) (st41) ?_
  refine ownGo (T' := T41) (f' := (mkF m 31 #[rv a0, iv (2 : Int32)] [(.int (gt 2)), (.ref as_)])) (ownIaload F37 X41 hx hZ e41 (j := (2 : Int32)) (by unfold ownIn; decide) (g := (mkF m 30 #[rv a0, iv (2 : Int32)] [(.int (2 : Int32)), (.ref at_), (.ref as_)])) rfl rfl (hb hby own_d7_30)) ?_
  generalize hv_v42 : (gt 2) = v42
  have hs43 := (hv_v42.symm.trans he0)
  subst hs43
  refine ow_aloadN (q := 32) X41 hx (hb hby own_d7_31) rfl rfl rfl ?_
  obtain ⟨T44, X44, e44, st44⟩ := getF X41 hx hZ hown (host := "") (Or.inl (ww 11 rfl)) Via.refl e41 F32 (g := (mkF m 32 #[rv a0, iv (2 : Int32)] [(.ref a0), (.int (0 : Int32)), (.ref as_)])) rfl rfl (hb hby own_d7_32)
  refine ownGo (T' := T44) (f' := (mkF m 35 #[rv a0, iv (2 : Int32)] [(.ref at_), (.int (0 : Int32)), (.ref as_)])) (st44) ?_
  refine ow_aloadN (q := 36) X44 hx (hb hby own_d7_35) rfl rfl rfl ?_
  obtain ⟨T45, X45, e45, st45⟩ := getF X44 hx hZ hown (host := "") (Or.inl (ww 34 rfl)) Via.refl e44 F36 (g := (mkF m 36 #[rv a0, iv (2 : Int32)] [(.ref a0), (.ref at_), (.int (0 : Int32)), (.ref as_)])) rfl rfl (hb hby own_d7_36)
  refine ownGo (T' := T45) (f' := (mkF m 39 #[rv a0, iv (2 : Int32)] [(.int (2 : Int32)), (.ref at_), (.int (0 : Int32)), (.ref as_)])) (st45) ?_
  refine ow_iconst (q := 40) X45 hx (1 : Int32) (hb hby own_d7_39) rfl rfl ?_
  refine ow_iadd (q := 41) X45 hx (3 : Int32) (hb hby own_d7_40) rfl (by decide) ?_
  refine ownGo (T' := T45) (f' := (mkF m 42 #[rv a0, iv (2 : Int32)] [(.int (gt 3)), (.int (0 : Int32)), (.ref as_)])) (ownIaload F37 X45 hx hZ e45 (j := (3 : Int32)) (by unfold ownIn; decide) (g := (mkF m 41 #[rv a0, iv (2 : Int32)] [(.int (3 : Int32)), (.ref at_), (.int (0 : Int32)), (.ref as_)])) rfl rfl (hb hby own_d7_41)) ?_
  generalize hv_v46 : (gt 3) = v46
  obtain ⟨T47, h47, X47, e47, W47, F47s, st47⟩ := ownIastore F38 X45 hx hZ e45 (j := (0 : Int32)) (by unfold ownIn; decide) (g := (mkF m 42 #[rv a0, iv (2 : Int32)] [(.int v46), (.int (0 : Int32)), (.ref as_)])) rfl rfl (hb hby own_d7_42)
  have F47r : ownAI Z h47 as_ .int 2 (ownUpd (ownUpd gs 1 v19) 0 v46) := F47s
  have N47 := Fr.snoc X47 N30 G_as_
  have K47 : Keep h0 h47 [a0, as_] := K30.wr W47 (Or.inl (List.mem_of_getElem? (i := 1) rfl))
  have F48 : Exa Z h47 a0 "com/example/sieveline/sieveline/model/CurrentDomains" := F31.wr W47
  have F49 : Fld Z h47 a0 "com/example/sieveline/sieveline/model/CurrentDomains" "trail" "[I" (.ref at_) := F32.other W47 (Or.inl hn2)
  have F50 : Fld Z h47 a0 "com/example/sieveline/sieveline/model/CurrentDomains" "size" "[I" (.ref as_) := F33.other W47 (Or.inl hn2)
  have F51 : Fld Z h47 a0 "com/example/sieveline/sieveline/model/CurrentDomains" "dense" "[[I" (.ref ad) := F34.other W47 (Or.inl hn2)
  have F52 : Fld Z h47 a0 "com/example/sieveline/sieveline/model/CurrentDomains" "position" "[[I" (.ref ap) := F35.other W47 (Or.inl hn2)
  have F53 : Fld Z h47 a0 "com/example/sieveline/sieveline/model/CurrentDomains" "top" "I" (.int (2 : Int32)) := F36.other W47 (Or.inl hn2)
  have F54 : ownAI Z h47 at_ .int 64 gt := F37.other W47 hn3
  refine ownGo (T' := T47) (f' := (mkF m 43 #[rv a0, iv (2 : Int32)] [])) (st47) ?_
  refine ow_goto (q := 0) X47 hx (hb hby own_d7_43) (by decide) (by decide) ?_
  refine ow_aloadN (q := 1) X47 hx (hb hby own_d7_0) rfl rfl rfl ?_
  obtain ⟨T55, X55, e55, st55⟩ := getF X47 hx hZ hown (host := "") (Or.inl (ww 34 rfl)) Via.refl e47 F53 (g := (mkF m 1 #[rv a0, iv (2 : Int32)] [(.ref a0)])) rfl rfl (hb hby own_d7_1)
  refine ownGo (T' := T55) (f' := (mkF m 4 #[rv a0, iv (2 : Int32)] [(.int (2 : Int32))])) (st55) ?_
  refine ow_iloadN (q := 5) X55 hx (hb hby own_d7_4) rfl rfl ?_
  refine ow_icmpYes (q := 46) X55 hx (hb hby own_d7_5) (Jvm.Free.XT.ii_le_t (by decide)) (by decide) (by decide) ?_
  refine ownRetV X55 hx Bd.returns (hb hby own_d7_46) hlk (by decide) (by decide) ?_
  subst hv_v46 hv_v19
  rw [e55]
  exact ⟨rfl, N47, K47, F48, F49, F50, F51, F52, F53, F47r⟩
theorem own_ef7_undo_2_3 (m : MethodId) (a0 : Addr) : entryFrame m #[(.ref a0), (.int (2 : Int32))] 2 = mkF m 0 #[rv a0, iv (2 : Int32)] [] := by first | (simp [entryFrame, mkF, argsToLocals, Value.category]; done) | rfl
def Q_undo_2_3 (Z : State) (a0 : Addr) (at_ : Addr) (as_ : Addr) (ad : Addr) (ap : Addr) (gt : Nat → Int32) (gs : Nat → Int32) (h0 : Heap) (n0 : Nat) (v : Option Value) (h : Heap) (L : List Loc) : Prop := v = none ∧ Fr n0 L ∧ Keep h0 h [a0, as_] ∧ Exa Z h a0 "com/example/sieveline/sieveline/model/CurrentDomains" ∧ Fld Z h a0 "com/example/sieveline/sieveline/model/CurrentDomains" "trail" "[I" (.ref at_) ∧ Fld Z h a0 "com/example/sieveline/sieveline/model/CurrentDomains" "size" "[I" (.ref as_) ∧ Fld Z h a0 "com/example/sieveline/sieveline/model/CurrentDomains" "dense" "[[I" (.ref ad) ∧ Fld Z h a0 "com/example/sieveline/sieveline/model/CurrentDomains" "position" "[[I" (.ref ap) ∧ Fld Z h a0 "com/example/sieveline/sieveline/model/CurrentDomains" "top" "I" (.int (2 : Int32)) ∧ ownAI Z h as_ .int 2 (ownUpd (ownUpd (ownUpd gs 1 (gt 7)) 1 (gt 5)) 0 (gt 3))
set_option maxRecDepth 65536 in
set_option maxHeartbeats 40000000 in
theorem rm_undo_2_3 (l : Launch) (Z : State) (av0 : Array Value) (hw : ∀ d ∈ tables_1, d.before av0 Z = true) (ws : List Jvm.Cond) (a0 : Addr) (at_ : Addr) (as_ : Addr) (ad : Addr) (ap : Addr) (gt : Nat → Int32) (gs : Nat → Int32) (h0 : Heap) (n0 : Nat) (Z0 : n0 ≤ h0.size) (HF0 : Exa Z h0 a0 "com/example/sieveline/sieveline/model/CurrentDomains") (HF1 : Fld Z h0 a0 "com/example/sieveline/sieveline/model/CurrentDomains" "trail" "[I" (.ref at_)) (HF2 : Fld Z h0 a0 "com/example/sieveline/sieveline/model/CurrentDomains" "size" "[I" (.ref as_)) (HF3 : Fld Z h0 a0 "com/example/sieveline/sieveline/model/CurrentDomains" "dense" "[[I" (.ref ad)) (HF4 : Fld Z h0 a0 "com/example/sieveline/sieveline/model/CurrentDomains" "position" "[[I" (.ref ap)) (HF5 : Fld Z h0 a0 "com/example/sieveline/sieveline/model/CurrentDomains" "top" "I" (.int (8 : Int32))) (HF6 : ownAI Z h0 at_ .int 64 gt) (HF7 : ownAI Z h0 as_ .int 2 gs) (G_a0 : n0 ≤ a0) (G_as_ : n0 ≤ as_) (hn1 : a0 ≠ at_) (hn2 : a0 ≠ as_) (hn3 : at_ ≠ as_) (he0 : (gt 2) = (0 : Int32)) (he1 : (gt 4) = (1 : Int32)) (he2 : (gt 6) = (1 : Int32)) :
    MetFree l (⟨"com/example/sieveline/sieveline/model/CurrentDomains", "undo", "(I)V"⟩ : MethodName) (head1 (Jvm.Cond.code (⟨"com/example/sieveline/sieveline/model/CurrentDomains", "undo", "(I)V"⟩ : MethodName) prog_10_method_9_code 2 none :: ws) ({ frames := 0, cells := 0, slots := 0, locals := 0 } : Room)) (fun a U => a = #[(.ref a0), (.int (2 : Int32))] ∧ Z.Warmed39 U.vm ∧ U.heap = h0) (fun _ _ _ _ _ => True) (fun _ U o U' => ∃ v L, o = .returned v ∧ (Q_undo_2_3 Z a0 at_ as_ ad ap gt gs h0 n0) v U'.heap L ∧ FrameEnd U o U' L ({ frames := 0, cells := 0, slots := 0, locals := 0 } : Room).cells ({ frames := 0, cells := 0, slots := 0, locals := 0 } : Room).slots) := by
  refine MetFree.of_bodySF (plainFor_of_name own_pn_CurrentDomains) hisR ?_
  intro p e s m args below meth c s₁ Bd hml0 hP hK
  obtain ⟨rfl, hZ, hh⟩ := hP
  have hx := Bd.exec
  have hby := Bd.bytes
  have hml : c.maxLocals = 2 := hml0
  have hown : s.vm.findClass "com/example/sieveline/sieveline/model/CurrentDomains" = some m.cls := findClass_of_methodNamed Bd.named
  have hnm := (name_of_methodNamed Bd.named Bd.method).1
  have hlk : meth.locks = false := BodyLoose.notSynchronized Bd
  have X0 : Stand p l e ({ frames := 0, cells := 0, slots := 0, locals := 0 } : Room) s m #[(.ref a0), (.int (2 : Int32))] below meth c s₁ [] 0 0 := Stand.of_body Bd
  have e0 : s₁.heap = h0 := by rw [← hh, Bd.state]; rfl
  have N0 := Fr.nil n0
  have K0 : Keep h0 h0 [a0, as_] := Keep.refl _ _
  have ww : ∀ (k : Nat) {d : Jvm.Cond}, tables_1[k]? = some d → d.before av0 Z = true := fun k d h => hw d (List.mem_of_getElem? h)
  show ownEnds p e below s (Q_undo_2_3 Z a0 at_ as_ ad ap gt gs h0 n0) ({ frames := 0, cells := 0, slots := 0, locals := 0 } : Room).cells ({ frames := 0, cells := 0, slots := 0, locals := 0 } : Room).slots s₁ (entryFrame m #[(.ref a0), (.int (2 : Int32))] 2)
  refine ownCast (own_ef7_undo_2_3 m a0) ?_
  refine ow_aloadN (q := 1) X0 hx (hb hby own_d7_0) rfl rfl rfl ?_
  obtain ⟨T1, X1, e1, st1⟩ := getF X0 hx hZ hown (host := "") (Or.inl (ww 34 rfl)) Via.refl e0 HF5 (g := (mkF m 1 #[rv a0, iv (2 : Int32)] [(.ref a0)])) rfl rfl (hb hby own_d7_1)
  refine ownGo (T' := T1) (f' := (mkF m 4 #[rv a0, iv (2 : Int32)] [(.int (8 : Int32))])) (st1) ?_
  refine ow_iloadN (q := 5) X1 hx (hb hby own_d7_4) rfl rfl ?_
  refine ow_icmpNo (q := 8) X1 hx (hb hby own_d7_5) rfl (Jvm.Free.XT.ii_le_f (by decide)) ?_
  refine ow_aloadN (q := 9) X1 hx (hb hby own_d7_8) rfl rfl rfl ?_
  refine ow_dup (q := 10) X1 hx (hb hby own_d7_9) rfl rfl ?_
  obtain ⟨T2, X2, e2, st2⟩ := getF X1 hx hZ hown (host := "") (Or.inl (ww 34 rfl)) Via.refl e1 HF5 (g := (mkF m 10 #[rv a0, iv (2 : Int32)] [(.ref a0), (.ref a0)])) rfl rfl (hb hby own_d7_10)
  refine ownGo (T' := T2) (f' := (mkF m 13 #[rv a0, iv (2 : Int32)] [(.int (8 : Int32)), (.ref a0)])) (st2) ?_
  refine ow_iconst (q := 14) X2 hx (2 : Int32) (hb hby own_d7_13) rfl rfl ?_
  refine ow_isub (q := 15) X2 hx (6 : Int32) (hb hby own_d7_14) rfl (by decide) ?_
  obtain ⟨T3, h3, X3, e3, W3, st3⟩ := putF X2 hx hZ hown (host := "") (Or.inl (ww 34 rfl)) Via.refl e2 HF5 HF0 (Or.inl (ww 35 rfl)) (ww 2 rfl) (ty := .int) (by decide) rfl rfl (g := (mkF m 15 #[rv a0, iv (2 : Int32)] [(.int (6 : Int32)), (.ref a0)])) rfl rfl (hb hby own_d7_15)
  have N3 := Fr.snoc X3 N0 G_a0
  have K3 : Keep h0 h3 [a0, as_] := K0.wr W3 (Or.inl (List.mem_of_getElem? (i := 0) rfl))
  have F4 : Exa Z h3 a0 "com/example/sieveline/sieveline/model/CurrentDomains" := HF0.wr W3
  have F5 : Fld Z h3 a0 "com/example/sieveline/sieveline/model/CurrentDomains" "trail" "[I" (.ref at_) := HF1.other W3 (Or.inr (slot_ne (Or.inl (ww 12 rfl)) (Or.inl (ww 35 rfl)) (by decide) (t := (.array .int)) (t' := .int) (by decide) (by decide)))
  have F6 : Fld Z h3 a0 "com/example/sieveline/sieveline/model/CurrentDomains" "size" "[I" (.ref as_) := HF2.other W3 (Or.inr (slot_ne (Or.inr (ww 23 rfl)) (Or.inl (ww 35 rfl)) (by decide) (t := (.array .int)) (t' := .int) (by decide) (by decide)))
  have F7 : Fld Z h3 a0 "com/example/sieveline/sieveline/model/CurrentDomains" "dense" "[[I" (.ref ad) := HF3.other W3 (Or.inr (slot_ne (Or.inr (ww 26 rfl)) (Or.inl (ww 35 rfl)) (by decide) (t := (.array (.array .int))) (t' := .int) (by decide) (by decide)))
  have F8 : Fld Z h3 a0 "com/example/sieveline/sieveline/model/CurrentDomains" "position" "[[I" (.ref ap) := HF4.other W3 (Or.inr (slot_ne (Or.inr (ww 28 rfl)) (Or.inl (ww 35 rfl)) (by decide) (t := (.array (.array .int))) (t' := .int) (by decide) (by decide)))
  have F9 : Fld Z h3 a0 "com/example/sieveline/sieveline/model/CurrentDomains" "top" "I" (.int (6 : Int32)) := HF5.same W3
  have F10 : ownAI Z h3 at_ .int 64 gt := HF6.other W3 (Ne.symm hn1)
  have F11 : ownAI Z h3 as_ .int 2 gs := HF7.other W3 (Ne.symm hn2)
  refine ownGo (T' := T3) (f' := (mkF m 18 #[rv a0, iv (2 : Int32)] [])) (st3) ?_
  refine ow_aloadN (q := 19) X3 hx (hb hby own_d7_18) rfl rfl rfl ?_
  obtain ⟨T12, X12, e12, st12⟩ := getF X3 hx hZ hown (host := "") (Or.inl (ww 22 rfl)) Via.refl e3 F6 (g := (mkF m 19 #[rv a0, iv (2 : Int32)] [(.ref a0)])) rfl rfl (hb hby own_d7_19)
  refine ownGo (T' := T12) (f' := (mkF m 22 #[rv a0, iv (2 : Int32)] [(.ref as_)])) (st12) ?_
  refine ow_aloadN (q := 23) X12 hx (hb hby own_d7_22) rfl rfl rfl ?_
  obtain ⟨T13, X13, e13, st13⟩ := getF X12 hx hZ hown (host := "") (Or.inl (ww 11 rfl)) Via.refl e12 F5 (g := (mkF m 23 #[rv a0, iv (2 : Int32)] [(.ref a0), (.ref as_)])) rfl rfl (hb hby own_d7_23)
  refine ownGo (T' := T13) (f' := (mkF m 26 #[rv a0, iv (2 : Int32)] [(.ref at_), (.ref as_)])) (st13) ?_
  refine ow_aloadN (q := 27) X13 hx (hb hby own_d7_26) rfl rfl rfl ?_
  obtain ⟨T14, X14, e14, st14⟩ := getF X13 hx hZ hown (host := "") (Or.inl (ww 34 rfl)) Via.refl e13 F9 (g := (mkF m 27 #[rv a0, iv (2 : Int32)] [(.ref a0), (.ref at_), (.ref as_)])) rfl rfl (hb hby own_d7_27)
  refine ownGo (T' := T14) (f' := (mkF m 30 #[rv a0, iv (2 : Int32)] [(.int (6 : Int32)), (.ref at_), (.ref as_)])) (st14) ?_
  refine ownGo (T' := T14) (f' := (mkF m 31 #[rv a0, iv (2 : Int32)] [(.int (gt 6)), (.ref as_)])) (ownIaload F10 X14 hx hZ e14 (j := (6 : Int32)) (by unfold ownIn; decide) (g := (mkF m 30 #[rv a0, iv (2 : Int32)] [(.int (6 : Int32)), (.ref at_), (.ref as_)])) rfl rfl (hb hby own_d7_30)) ?_
  generalize hv_v15 : (gt 6) = v15
  have hs16 := (hv_v15.symm.trans he2)
  subst hs16
  refine ow_aloadN (q := 32) X14 hx (hb hby own_d7_31) rfl rfl rfl ?_
  obtain ⟨T17, X17, e17, st17⟩ := getF X14 hx hZ hown (host := "") (Or.inl (ww 11 rfl)) Via.refl e14 F5 (g := (mkF m 32 #[rv a0, iv (2 : Int32)] [(.ref a0), (.int (1 : Int32)), (.ref as_)])) rfl rfl (hb hby own_d7_32)
  refine ownGo (T' := T17) (f' := (mkF m 35 #[rv a0, iv (2 : Int32)] [(.ref at_), (.int (1 : Int32)), (.ref as_)])) (st17) ?_
  refine ow_aloadN (q := 36) X17 hx (hb hby own_d7_35) rfl rfl rfl ?_
  obtain ⟨T18, X18, e18, st18⟩ := getF X17 hx hZ hown (host := "") (Or.inl (ww 34 rfl)) Via.refl e17 F9 (g := (mkF m 36 #[rv a0, iv (2 : Int32)] [(.ref a0), (.ref at_), (.int (1 : Int32)), (.ref as_)])) rfl rfl (hb hby own_d7_36)
  refine ownGo (T' := T18) (f' := (mkF m 39 #[rv a0, iv (2 : Int32)] [(.int (6 : Int32)), (.ref at_), (.int (1 : Int32)), (.ref as_)])) (st18) ?_
  refine ow_iconst (q := 40) X18 hx (1 : Int32) (hb hby own_d7_39) rfl rfl ?_
  refine ow_iadd (q := 41) X18 hx (7 : Int32) (hb hby own_d7_40) rfl (by decide) ?_
  refine ownGo (T' := T18) (f' := (mkF m 42 #[rv a0, iv (2 : Int32)] [(.int (gt 7)), (.int (1 : Int32)), (.ref as_)])) (ownIaload F10 X18 hx hZ e18 (j := (7 : Int32)) (by unfold ownIn; decide) (g := (mkF m 41 #[rv a0, iv (2 : Int32)] [(.int (7 : Int32)), (.ref at_), (.int (1 : Int32)), (.ref as_)])) rfl rfl (hb hby own_d7_41)) ?_
  generalize hv_v19 : (gt 7) = v19
  obtain ⟨T20, h20, X20, e20, W20, F20s, st20⟩ := ownIastore F11 X18 hx hZ e18 (j := (1 : Int32)) (by unfold ownIn; decide) (g := (mkF m 42 #[rv a0, iv (2 : Int32)] [(.int v19), (.int (1 : Int32)), (.ref as_)])) rfl rfl (hb hby own_d7_42)
  have F20r : ownAI Z h20 as_ .int 2 (ownUpd gs 1 v19) := F20s
  have N20 := Fr.snoc X20 N3 G_as_
  have K20 : Keep h0 h20 [a0, as_] := K3.wr W20 (Or.inl (List.mem_of_getElem? (i := 1) rfl))
  have F21 : Exa Z h20 a0 "com/example/sieveline/sieveline/model/CurrentDomains" := F4.wr W20
  have F22 : Fld Z h20 a0 "com/example/sieveline/sieveline/model/CurrentDomains" "trail" "[I" (.ref at_) := F5.other W20 (Or.inl hn2)
  have F23 : Fld Z h20 a0 "com/example/sieveline/sieveline/model/CurrentDomains" "size" "[I" (.ref as_) := F6.other W20 (Or.inl hn2)
  have F24 : Fld Z h20 a0 "com/example/sieveline/sieveline/model/CurrentDomains" "dense" "[[I" (.ref ad) := F7.other W20 (Or.inl hn2)
  have F25 : Fld Z h20 a0 "com/example/sieveline/sieveline/model/CurrentDomains" "position" "[[I" (.ref ap) := F8.other W20 (Or.inl hn2)
  have F26 : Fld Z h20 a0 "com/example/sieveline/sieveline/model/CurrentDomains" "top" "I" (.int (6 : Int32)) := F9.other W20 (Or.inl hn2)
  have F27 : ownAI Z h20 at_ .int 64 gt := F10.other W20 hn3
  refine ownGo (T' := T20) (f' := (mkF m 43 #[rv a0, iv (2 : Int32)] [])) (st20) ?_
  refine ow_goto (q := 0) X20 hx (hb hby own_d7_43) (by decide) (by decide) ?_
  refine ow_aloadN (q := 1) X20 hx (hb hby own_d7_0) rfl rfl rfl ?_
  obtain ⟨T28, X28, e28, st28⟩ := getF X20 hx hZ hown (host := "") (Or.inl (ww 34 rfl)) Via.refl e20 F26 (g := (mkF m 1 #[rv a0, iv (2 : Int32)] [(.ref a0)])) rfl rfl (hb hby own_d7_1)
  refine ownGo (T' := T28) (f' := (mkF m 4 #[rv a0, iv (2 : Int32)] [(.int (6 : Int32))])) (st28) ?_
  refine ow_iloadN (q := 5) X28 hx (hb hby own_d7_4) rfl rfl ?_
  refine ow_icmpNo (q := 8) X28 hx (hb hby own_d7_5) rfl (Jvm.Free.XT.ii_le_f (by decide)) ?_
  refine ow_aloadN (q := 9) X28 hx (hb hby own_d7_8) rfl rfl rfl ?_
  refine ow_dup (q := 10) X28 hx (hb hby own_d7_9) rfl rfl ?_
  obtain ⟨T29, X29, e29, st29⟩ := getF X28 hx hZ hown (host := "") (Or.inl (ww 34 rfl)) Via.refl e28 F26 (g := (mkF m 10 #[rv a0, iv (2 : Int32)] [(.ref a0), (.ref a0)])) rfl rfl (hb hby own_d7_10)
  refine ownGo (T' := T29) (f' := (mkF m 13 #[rv a0, iv (2 : Int32)] [(.int (6 : Int32)), (.ref a0)])) (st29) ?_
  refine ow_iconst (q := 14) X29 hx (2 : Int32) (hb hby own_d7_13) rfl rfl ?_
  refine ow_isub (q := 15) X29 hx (4 : Int32) (hb hby own_d7_14) rfl (by decide) ?_
  obtain ⟨T30, h30, X30, e30, W30, st30⟩ := putF X29 hx hZ hown (host := "") (Or.inl (ww 34 rfl)) Via.refl e29 F26 F21 (Or.inl (ww 35 rfl)) (ww 2 rfl) (ty := .int) (by decide) rfl rfl (g := (mkF m 15 #[rv a0, iv (2 : Int32)] [(.int (4 : Int32)), (.ref a0)])) rfl rfl (hb hby own_d7_15)
  have N30 := Fr.snoc X30 N20 G_a0
  have K30 : Keep h0 h30 [a0, as_] := K20.wr W30 (Or.inl (List.mem_of_getElem? (i := 0) rfl))
  have F31 : Exa Z h30 a0 "com/example/sieveline/sieveline/model/CurrentDomains" := F21.wr W30
  have F32 : Fld Z h30 a0 "com/example/sieveline/sieveline/model/CurrentDomains" "trail" "[I" (.ref at_) := F22.other W30 (Or.inr (slot_ne (Or.inl (ww 12 rfl)) (Or.inl (ww 35 rfl)) (by decide) (t := (.array .int)) (t' := .int) (by decide) (by decide)))
  have F33 : Fld Z h30 a0 "com/example/sieveline/sieveline/model/CurrentDomains" "size" "[I" (.ref as_) := F23.other W30 (Or.inr (slot_ne (Or.inr (ww 23 rfl)) (Or.inl (ww 35 rfl)) (by decide) (t := (.array .int)) (t' := .int) (by decide) (by decide)))
  have F34 : Fld Z h30 a0 "com/example/sieveline/sieveline/model/CurrentDomains" "dense" "[[I" (.ref ad) := F24.other W30 (Or.inr (slot_ne (Or.inr (ww 26 rfl)) (Or.inl (ww 35 rfl)) (by decide) (t := (.array (.array .int))) (t' := .int) (by decide) (by decide)))
  have F35 : Fld Z h30 a0 "com/example/sieveline/sieveline/model/CurrentDomains" "position" "[[I" (.ref ap) := F25.other W30 (Or.inr (slot_ne (Or.inr (ww 28 rfl)) (Or.inl (ww 35 rfl)) (by decide) (t := (.array (.array .int))) (t' := .int) (by decide) (by decide)))
  have F36 : Fld Z h30 a0 "com/example/sieveline/sieveline/model/CurrentDomains" "top" "I" (.int (4 : Int32)) := F26.same W30
  have F37 : ownAI Z h30 at_ .int 64 gt := F27.other W30 (Ne.symm hn1)
  have F38 : ownAI Z h30 as_ .int 2 (ownUpd gs 1 v19) := F20r.other W30 (Ne.symm hn2)
  refine ownGo (T' := T30) (f' := (mkF m 18 #[rv a0, iv (2 : Int32)] [])) (st30) ?_
  refine ow_aloadN (q := 19) X30 hx (hb hby own_d7_18) rfl rfl rfl ?_
  obtain ⟨T39, X39, e39, st39⟩ := getF X30 hx hZ hown (host := "") (Or.inl (ww 22 rfl)) Via.refl e30 F33 (g := (mkF m 19 #[rv a0, iv (2 : Int32)] [(.ref a0)])) rfl rfl (hb hby own_d7_19)
  refine ownGo (T' := T39) (f' := (mkF m 22 #[rv a0, iv (2 : Int32)] [(.ref as_)])) (st39) ?_
  refine ow_aloadN (q := 23) X39 hx (hb hby own_d7_22) rfl rfl rfl ?_
  obtain ⟨T40, X40, e40, st40⟩ := getF X39 hx hZ hown (host := "") (Or.inl (ww 11 rfl)) Via.refl e39 F32 (g := (mkF m 23 #[rv a0, iv (2 : Int32)] [(.ref a0), (.ref as_)])) rfl rfl (hb hby own_d7_23)
  refine ownGo (T' := T40) (f' := (mkF m 26 #[rv a0, iv (2 : Int32)] [(.ref at_), (.ref as_)])) (st40) ?_
  refine ow_aloadN (q := 27) X40 hx (hb hby own_d7_26) rfl rfl rfl ?_
  obtain ⟨T41, X41, e41, st41⟩ := getF X40 hx hZ hown (host := "") (Or.inl (ww 34 rfl)) Via.refl e40 F36 (g := (mkF m 27 #[rv a0, iv (2 : Int32)] [(.ref a0), (.ref at_), (.ref as_)])) rfl rfl (hb hby own_d7_27)
  refine ownGo (T' := T41) (f' := (mkF m 30 #[rv a0, iv (2 : Int32)] [(.int (4 : Int32)), (.ref at_), (.ref as_)])) (st41) ?_
  refine ownGo (T' := T41) (f' := (mkF m 31 #[rv a0, iv (2 : Int32)] [(.int (gt 4)), (.ref as_)])) (ownIaload F37 X41 hx hZ e41 (j := (4 : Int32)) (by unfold ownIn; decide) (g := (mkF m 30 #[rv a0, iv (2 : Int32)] [(.int (4 : Int32)), (.ref at_), (.ref as_)])) rfl rfl (hb hby own_d7_30)) ?_
  generalize hv_v42 : (gt 4) = v42
  have hs43 := (hv_v42.symm.trans he1)
  subst hs43
  refine ow_aloadN (q := 32) X41 hx (hb hby own_d7_31) rfl rfl rfl ?_
  obtain ⟨T44, X44, e44, st44⟩ := getF X41 hx hZ hown (host := "") (Or.inl (ww 11 rfl)) Via.refl e41 F32 (g := (mkF m 32 #[rv a0, iv (2 : Int32)] [(.ref a0), (.int (1 : Int32)), (.ref as_)])) rfl rfl (hb hby own_d7_32)
  refine ownGo (T' := T44) (f' := (mkF m 35 #[rv a0, iv (2 : Int32)] [(.ref at_), (.int (1 : Int32)), (.ref as_)])) (st44) ?_
  refine ow_aloadN (q := 36) X44 hx (hb hby own_d7_35) rfl rfl rfl ?_
  obtain ⟨T45, X45, e45, st45⟩ := getF X44 hx hZ hown (host := "") (Or.inl (ww 34 rfl)) Via.refl e44 F36 (g := (mkF m 36 #[rv a0, iv (2 : Int32)] [(.ref a0), (.ref at_), (.int (1 : Int32)), (.ref as_)])) rfl rfl (hb hby own_d7_36)
  refine ownGo (T' := T45) (f' := (mkF m 39 #[rv a0, iv (2 : Int32)] [(.int (4 : Int32)), (.ref at_), (.int (1 : Int32)), (.ref as_)])) (st45) ?_
  refine ow_iconst (q := 40) X45 hx (1 : Int32) (hb hby own_d7_39) rfl rfl ?_
  refine ow_iadd (q := 41) X45 hx (5 : Int32) (hb hby own_d7_40) rfl (by decide) ?_
  refine ownGo (T' := T45) (f' := (mkF m 42 #[rv a0, iv (2 : Int32)] [(.int (gt 5)), (.int (1 : Int32)), (.ref as_)])) (ownIaload F37 X45 hx hZ e45 (j := (5 : Int32)) (by unfold ownIn; decide) (g := (mkF m 41 #[rv a0, iv (2 : Int32)] [(.int (5 : Int32)), (.ref at_), (.int (1 : Int32)), (.ref as_)])) rfl rfl (hb hby own_d7_41)) ?_
  generalize hv_v46 : (gt 5) = v46
  obtain ⟨T47, h47, X47, e47, W47, F47s, st47⟩ := ownIastore F38 X45 hx hZ e45 (j := (1 : Int32)) (by unfold ownIn; decide) (g := (mkF m 42 #[rv a0, iv (2 : Int32)] [(.int v46), (.int (1 : Int32)), (.ref as_)])) rfl rfl (hb hby own_d7_42)
  have F47r : ownAI Z h47 as_ .int 2 (ownUpd (ownUpd gs 1 v19) 1 v46) := F47s
  have N47 := Fr.snoc X47 N30 G_as_
  have K47 : Keep h0 h47 [a0, as_] := K30.wr W47 (Or.inl (List.mem_of_getElem? (i := 1) rfl))
  have F48 : Exa Z h47 a0 "com/example/sieveline/sieveline/model/CurrentDomains" := F31.wr W47
  have F49 : Fld Z h47 a0 "com/example/sieveline/sieveline/model/CurrentDomains" "trail" "[I" (.ref at_) := F32.other W47 (Or.inl hn2)
  have F50 : Fld Z h47 a0 "com/example/sieveline/sieveline/model/CurrentDomains" "size" "[I" (.ref as_) := F33.other W47 (Or.inl hn2)
  have F51 : Fld Z h47 a0 "com/example/sieveline/sieveline/model/CurrentDomains" "dense" "[[I" (.ref ad) := F34.other W47 (Or.inl hn2)
  have F52 : Fld Z h47 a0 "com/example/sieveline/sieveline/model/CurrentDomains" "position" "[[I" (.ref ap) := F35.other W47 (Or.inl hn2)
  have F53 : Fld Z h47 a0 "com/example/sieveline/sieveline/model/CurrentDomains" "top" "I" (.int (4 : Int32)) := F36.other W47 (Or.inl hn2)
  have F54 : ownAI Z h47 at_ .int 64 gt := F37.other W47 hn3
  refine ownGo (T' := T47) (f' := (mkF m 43 #[rv a0, iv (2 : Int32)] [])) (st47) ?_
  refine ow_goto (q := 0) X47 hx (hb hby own_d7_43) (by decide) (by decide) ?_
  refine ow_aloadN (q := 1) X47 hx (hb hby own_d7_0) rfl rfl rfl ?_
  obtain ⟨T55, X55, e55, st55⟩ := getF X47 hx hZ hown (host := "") (Or.inl (ww 34 rfl)) Via.refl e47 F53 (g := (mkF m 1 #[rv a0, iv (2 : Int32)] [(.ref a0)])) rfl rfl (hb hby own_d7_1)
  refine ownGo (T' := T55) (f' := (mkF m 4 #[rv a0, iv (2 : Int32)] [(.int (4 : Int32))])) (st55) ?_
  refine ow_iloadN (q := 5) X55 hx (hb hby own_d7_4) rfl rfl ?_
  refine ow_icmpNo (q := 8) X55 hx (hb hby own_d7_5) rfl (Jvm.Free.XT.ii_le_f (by decide)) ?_
  refine ow_aloadN (q := 9) X55 hx (hb hby own_d7_8) rfl rfl rfl ?_
  refine ow_dup (q := 10) X55 hx (hb hby own_d7_9) rfl rfl ?_
  obtain ⟨T56, X56, e56, st56⟩ := getF X55 hx hZ hown (host := "") (Or.inl (ww 34 rfl)) Via.refl e55 F53 (g := (mkF m 10 #[rv a0, iv (2 : Int32)] [(.ref a0), (.ref a0)])) rfl rfl (hb hby own_d7_10)
  refine ownGo (T' := T56) (f' := (mkF m 13 #[rv a0, iv (2 : Int32)] [(.int (4 : Int32)), (.ref a0)])) (st56) ?_
  refine ow_iconst (q := 14) X56 hx (2 : Int32) (hb hby own_d7_13) rfl rfl ?_
  refine ow_isub (q := 15) X56 hx (2 : Int32) (hb hby own_d7_14) rfl (by decide) ?_
  obtain ⟨T57, h57, X57, e57, W57, st57⟩ := putF X56 hx hZ hown (host := "") (Or.inl (ww 34 rfl)) Via.refl e56 F53 F48 (Or.inl (ww 35 rfl)) (ww 2 rfl) (ty := .int) (by decide) rfl rfl (g := (mkF m 15 #[rv a0, iv (2 : Int32)] [(.int (2 : Int32)), (.ref a0)])) rfl rfl (hb hby own_d7_15)
  have N57 := Fr.snoc X57 N47 G_a0
  have K57 : Keep h0 h57 [a0, as_] := K47.wr W57 (Or.inl (List.mem_of_getElem? (i := 0) rfl))
  have F58 : Exa Z h57 a0 "com/example/sieveline/sieveline/model/CurrentDomains" := F48.wr W57
  have F59 : Fld Z h57 a0 "com/example/sieveline/sieveline/model/CurrentDomains" "trail" "[I" (.ref at_) := F49.other W57 (Or.inr (slot_ne (Or.inl (ww 12 rfl)) (Or.inl (ww 35 rfl)) (by decide) (t := (.array .int)) (t' := .int) (by decide) (by decide)))
  have F60 : Fld Z h57 a0 "com/example/sieveline/sieveline/model/CurrentDomains" "size" "[I" (.ref as_) := F50.other W57 (Or.inr (slot_ne (Or.inr (ww 23 rfl)) (Or.inl (ww 35 rfl)) (by decide) (t := (.array .int)) (t' := .int) (by decide) (by decide)))
  have F61 : Fld Z h57 a0 "com/example/sieveline/sieveline/model/CurrentDomains" "dense" "[[I" (.ref ad) := F51.other W57 (Or.inr (slot_ne (Or.inr (ww 26 rfl)) (Or.inl (ww 35 rfl)) (by decide) (t := (.array (.array .int))) (t' := .int) (by decide) (by decide)))
  have F62 : Fld Z h57 a0 "com/example/sieveline/sieveline/model/CurrentDomains" "position" "[[I" (.ref ap) := F52.other W57 (Or.inr (slot_ne (Or.inr (ww 28 rfl)) (Or.inl (ww 35 rfl)) (by decide) (t := (.array (.array .int))) (t' := .int) (by decide) (by decide)))
  have F63 : Fld Z h57 a0 "com/example/sieveline/sieveline/model/CurrentDomains" "top" "I" (.int (2 : Int32)) := F53.same W57
  have F64 : ownAI Z h57 at_ .int 64 gt := F54.other W57 (Ne.symm hn1)
  have F65 : ownAI Z h57 as_ .int 2 (ownUpd (ownUpd gs 1 v19) 1 v46) := F47r.other W57 (Ne.symm hn2)
  refine ownGo (T' := T57) (f' := (mkF m 18 #[rv a0, iv (2 : Int32)] [])) (st57) ?_
  refine ow_aloadN (q := 19) X57 hx (hb hby own_d7_18) rfl rfl rfl ?_
  obtain ⟨T66, X66, e66, st66⟩ := getF X57 hx hZ hown (host := "") (Or.inl (ww 22 rfl)) Via.refl e57 F60 (g := (mkF m 19 #[rv a0, iv (2 : Int32)] [(.ref a0)])) rfl rfl (hb hby own_d7_19)
  refine ownGo (T' := T66) (f' := (mkF m 22 #[rv a0, iv (2 : Int32)] [(.ref as_)])) (st66) ?_
  refine ow_aloadN (q := 23) X66 hx (hb hby own_d7_22) rfl rfl rfl ?_
  obtain ⟨T67, X67, e67, st67⟩ := getF X66 hx hZ hown (host := "") (Or.inl (ww 11 rfl)) Via.refl e66 F59 (g := (mkF m 23 #[rv a0, iv (2 : Int32)] [(.ref a0), (.ref as_)])) rfl rfl (hb hby own_d7_23)
  refine ownGo (T' := T67) (f' := (mkF m 26 #[rv a0, iv (2 : Int32)] [(.ref at_), (.ref as_)])) (st67) ?_
  refine ow_aloadN (q := 27) X67 hx (hb hby own_d7_26) rfl rfl rfl ?_
  obtain ⟨T68, X68, e68, st68⟩ := getF X67 hx hZ hown (host := "") (Or.inl (ww 34 rfl)) Via.refl e67 F63 (g := (mkF m 27 #[rv a0, iv (2 : Int32)] [(.ref a0), (.ref at_), (.ref as_)])) rfl rfl (hb hby own_d7_27)
  refine ownGo (T' := T68) (f' := (mkF m 30 #[rv a0, iv (2 : Int32)] [(.int (2 : Int32)), (.ref at_), (.ref as_)])) (st68) ?_
  refine ownGo (T' := T68) (f' := (mkF m 31 #[rv a0, iv (2 : Int32)] [(.int (gt 2)), (.ref as_)])) (ownIaload F64 X68 hx hZ e68 (j := (2 : Int32)) (by unfold ownIn; decide) (g := (mkF m 30 #[rv a0, iv (2 : Int32)] [(.int (2 : Int32)), (.ref at_), (.ref as_)])) rfl rfl (hb hby own_d7_30)) ?_
  generalize hv_v69 : (gt 2) = v69
  have hs70 := (hv_v69.symm.trans he0)
  subst hs70
  refine ow_aloadN (q := 32) X68 hx (hb hby own_d7_31) rfl rfl rfl ?_
  obtain ⟨T71, X71, e71, st71⟩ := getF X68 hx hZ hown (host := "") (Or.inl (ww 11 rfl)) Via.refl e68 F59 (g := (mkF m 32 #[rv a0, iv (2 : Int32)] [(.ref a0), (.int (0 : Int32)), (.ref as_)])) rfl rfl (hb hby own_d7_32)
  refine ownGo (T' := T71) (f' := (mkF m 35 #[rv a0, iv (2 : Int32)] [(.ref at_), (.int (0 : Int32)), (.ref as_)])) (st71) ?_
  refine ow_aloadN (q := 36) X71 hx (hb hby own_d7_35) rfl rfl rfl ?_
  obtain ⟨T72, X72, e72, st72⟩ := getF X71 hx hZ hown (host := "") (Or.inl (ww 34 rfl)) Via.refl e71 F63 (g := (mkF m 36 #[rv a0, iv (2 : Int32)] [(.ref a0), (.ref at_), (.int (0 : Int32)), (.ref as_)])) rfl rfl (hb hby own_d7_36)
  refine ownGo (T' := T72) (f' := (mkF m 39 #[rv a0, iv (2 : Int32)] [(.int (2 : Int32)), (.ref at_), (.int (0 : Int32)), (.ref as_)])) (st72) ?_
  refine ow_iconst (q := 40) X72 hx (1 : Int32) (hb hby own_d7_39) rfl rfl ?_
  refine ow_iadd (q := 41) X72 hx (3 : Int32) (hb hby own_d7_40) rfl (by decide) ?_
  refine ownGo (T' := T72) (f' := (mkF m 42 #[rv a0, iv (2 : Int32)] [(.int (gt 3)), (.int (0 : Int32)), (.ref as_)])) (ownIaload F64 X72 hx hZ e72 (j := (3 : Int32)) (by unfold ownIn; decide) (g := (mkF m 41 #[rv a0, iv (2 : Int32)] [(.int (3 : Int32)), (.ref at_), (.int (0 : Int32)), (.ref as_)])) rfl rfl (hb hby own_d7_41)) ?_
  generalize hv_v73 : (gt 3) = v73
  obtain ⟨T74, h74, X74, e74, W74, F74s, st74⟩ := ownIastore F65 X72 hx hZ e72 (j := (0 : Int32)) (by unfold ownIn; decide) (g := (mkF m 42 #[rv a0, iv (2 : Int32)] [(.int v73), (.int (0 : Int32)), (.ref as_)])) rfl rfl (hb hby own_d7_42)
  have F74r : ownAI Z h74 as_ .int 2 (ownUpd (ownUpd (ownUpd gs 1 v19) 1 v46) 0 v73) := F74s
  have N74 := Fr.snoc X74 N57 G_as_
  have K74 : Keep h0 h74 [a0, as_] := K57.wr W74 (Or.inl (List.mem_of_getElem? (i := 1) rfl))
  have F75 : Exa Z h74 a0 "com/example/sieveline/sieveline/model/CurrentDomains" := F58.wr W74
  have F76 : Fld Z h74 a0 "com/example/sieveline/sieveline/model/CurrentDomains" "trail" "[I" (.ref at_) := F59.other W74 (Or.inl hn2)
  have F77 : Fld Z h74 a0 "com/example/sieveline/sieveline/model/CurrentDomains" "size" "[I" (.ref as_) := F60.other W74 (Or.inl hn2)
  have F78 : Fld Z h74 a0 "com/example/sieveline/sieveline/model/CurrentDomains" "dense" "[[I" (.ref ad) := F61.other W74 (Or.inl hn2)
  have F79 : Fld Z h74 a0 "com/example/sieveline/sieveline/model/CurrentDomains" "position" "[[I" (.ref ap) := F62.other W74 (Or.inl hn2)
  have F80 : Fld Z h74 a0 "com/example/sieveline/sieveline/model/CurrentDomains" "top" "I" (.int (2 : Int32)) := F63.other W74 (Or.inl hn2)
  have F81 : ownAI Z h74 at_ .int 64 gt := F64.other W74 hn3
  refine ownGo (T' := T74) (f' := (mkF m 43 #[rv a0, iv (2 : Int32)] [])) (st74) ?_
  refine ow_goto (q := 0) X74 hx (hb hby own_d7_43) (by decide) (by decide) ?_
  refine ow_aloadN (q := 1) X74 hx (hb hby own_d7_0) rfl rfl rfl ?_
  obtain ⟨T82, X82, e82, st82⟩ := getF X74 hx hZ hown (host := "") (Or.inl (ww 34 rfl)) Via.refl e74 F80 (g := (mkF m 1 #[rv a0, iv (2 : Int32)] [(.ref a0)])) rfl rfl (hb hby own_d7_1)
  refine ownGo (T' := T82) (f' := (mkF m 4 #[rv a0, iv (2 : Int32)] [(.int (2 : Int32))])) (st82) ?_
  refine ow_iloadN (q := 5) X82 hx (hb hby own_d7_4) rfl rfl ?_
  refine ow_icmpYes (q := 46) X82 hx (hb hby own_d7_5) (Jvm.Free.XT.ii_le_t (by decide)) (by decide) (by decide) ?_
  refine ownRetV X82 hx Bd.returns (hb hby own_d7_46) hlk (by decide) (by decide) ?_
  subst hv_v73 hv_v46 hv_v19
  rw [e82]
  exact ⟨rfl, N74, K74, F75, F76, F77, F78, F79, F80, F74r⟩
theorem own_pn_CurrentDomainsUndoPinLaw : plainName "com/example/sieveline/sieveline/model/CurrentDomainsUndoPinLaw" = true := by first | (simp [plainName, overriddenIn]; done) | decide +kernel
theorem own_pd2 : parseMethodDescriptor "([I)V" = some ⟨[(.array .int)], none⟩ := by decide +kernel
theorem own_pd3 : parseMethodDescriptor "()I" = some ⟨[], some .int⟩ := by decide +kernel
theorem own_pd4 : parseMethodDescriptor "(I)I" = some ⟨[.int], some .int⟩ := by decide +kernel
theorem own_pd5 : parseMethodDescriptor "(II)Z" = some ⟨[.int, .int], some .boolean⟩ := by decide +kernel
theorem own_pd6 : parseMethodDescriptor "(II)V" = some ⟨[.int, .int], none⟩ := by decide +kernel
theorem own_ef0_law (m : MethodId) (p0 : Int32) (p1 : Int32) (p2 : Int32) (p3 : Int32) (p4 : Int32) (p5 : Int32) : entryFrame m #[(.int p0), (.int p1), (.int p2), (.int p3), (.int p4), (.int p5)] maxLocals = mkF m 0 #[iv p0, iv p1, iv p2, iv p3, iv p4, iv p5, .unset, .unset, .unset, .unset, .unset, .unset, .unset, .unset, .unset, .unset] [] := by first | (simp [entryFrame, mkF, argsToLocals, Value.category, maxLocals]; done) | rfl
def Q_law (Z : State) (p0 : Int32) (p1 : Int32) (p2 : Int32) (p3 : Int32) (p4 : Int32) (p5 : Int32) (h0 : Heap) (n0 : Nat) (v : Option Value) (h : Heap) (L : List Loc) : Prop := v = some (.int 1) ∧ Fr n0 L
set_option maxRecDepth 65536 in
set_option maxHeartbeats 40000000 in
theorem rm_law (l : Launch) (Z : State) (av0 : Array Value) (hw : ∀ d ∈ tables_1, d.before av0 Z = true) (ws : List Jvm.Cond) (p0 : Int32) (p1 : Int32) (p2 : Int32) (p3 : Int32) (p4 : Int32) (p5 : Int32) (h0 : Heap) (n0 : Nat) (Z0 : n0 ≤ h0.size) :
    MetFree l x (head1 (Jvm.Cond.code x code maxLocals ret :: ws) room_1) (fun a U => a = #[(.int p0), (.int p1), (.int p2), (.int p3), (.int p4), (.int p5)] ∧ Z.Warmed39 U.vm ∧ U.heap = h0) (fun _ _ _ _ _ => True) (fun _ U o U' => ∃ v L, o = .returned v ∧ (Q_law Z p0 p1 p2 p3 p4 p5 h0 n0) v U'.heap L ∧ FrameEnd U o U' L 32 256) := by
  refine MetFree.of_bodySF (plainFor_of_name own_pn_CurrentDomainsUndoPinLaw) hisR ?_
  intro p e s m args below meth c s₁ Bd hml0 hP hK
  obtain ⟨rfl, hZ, hh⟩ := hP
  have hx := Bd.exec
  have hby := Bd.bytes
  have hml : c.maxLocals = 16 := hml0
  have hown : s.vm.findClass "com/example/sieveline/sieveline/model/CurrentDomainsUndoPinLaw" = some m.cls := findClass_of_methodNamed Bd.named
  have hnm := (name_of_methodNamed Bd.named Bd.method).1
  have hlk : meth.locks = false := BodyLoose.notSynchronized Bd
  have X0 : Stand p l e room_1 s m #[(.int p0), (.int p1), (.int p2), (.int p3), (.int p4), (.int p5)] below meth c s₁ [] 0 0 := Stand.of_body Bd
  have e0 : s₁.heap = h0 := by rw [← hh, Bd.state]; rfl
  have N0 := Fr.nil n0
  have K0 : Keep h0 h0 [] := Keep.refl _ _
  have ww : ∀ (k : Nat) {d : Jvm.Cond}, tables_1[k]? = some d → d.before av0 Z = true := fun k d h => hw d (List.mem_of_getElem? h)
  show ownEnds p e below s (Q_law Z p0 p1 p2 p3 p4 p5 h0 n0) 32 256 s₁ (entryFrame m #[(.int p0), (.int p1), (.int p2), (.int p3), (.int p4), (.int p5)] maxLocals)
  refine ownCast (own_ef0_law m p0 p1 p2 p3 p4 p5) ?_
  refine ow_iconst (q := 1) X0 hx (2 : Int32) (hb hby at_0) rfl rfl ?_
  refine ow_iloadN (q := 2) X0 hx (hb hby at_1) rfl rfl ?_
  refine ow_iconst (q := 3) X0 hx (3 : Int32) (hb hby at_2) rfl rfl ?_
  refine ow_iand (q := 4) X0 hx _ (hb hby at_3) rfl rfl ?_
  refine ow_iadd (q := 5) X0 hx _ (hb hby at_4) rfl rfl ?_
  generalize hv_v1 : ((2 : Int32) + (p0 &&& (3 : Int32))) = v1
  refine ow_istore (q := 7) X0 hx (L' := #[iv p0, iv p1, iv p2, iv p3, iv p4, iv p5, iv v1, .unset, .unset, .unset, .unset, .unset, .unset, .unset, .unset, .unset]) (hb hby at_5) rfl rfl ?_
  refine ow_iconst (q := 8) X0 hx (1 : Int32) (hb hby at_7) rfl rfl ?_
  refine ow_iloadN (q := 9) X0 hx (hb hby at_8) rfl rfl ?_
  refine ow_iconst (q := 10) X0 hx (3 : Int32) (hb hby at_9) rfl rfl ?_
  refine ow_iand (q := 11) X0 hx _ (hb hby at_10) rfl rfl ?_
  refine ow_iadd (q := 12) X0 hx _ (hb hby at_11) rfl rfl ?_
  generalize hv_v2 : ((1 : Int32) + (p1 &&& (3 : Int32))) = v2
  refine ow_istore (q := 14) X0 hx (L' := #[iv p0, iv p1, iv p2, iv p3, iv p4, iv p5, iv v1, iv v2, .unset, .unset, .unset, .unset, .unset, .unset, .unset, .unset]) (hb hby at_12) rfl rfl ?_
  refine ow_iloadN (q := 15) X0 hx (hb hby at_14) rfl rfl ?_
  refine ow_iconst (q := 16) X0 hx (1 : Int32) (hb hby at_15) rfl rfl ?_
  refine ow_iand (q := 17) X0 hx _ (hb hby at_16) rfl rfl ?_
  by_cases hc17_3 : (p2 &&& (1 : Int32)) = (0 : Int32)
  · refine ow_ifYes (q := 24) X0 hx (hb hby at_17) (Jvm.Free.XT.i0_eq_t hc17_3) (by decide) (by decide) ?_
    refine ow_iconst (q := 25) X0 hx (0 : Int32) (hb hby at_24) rfl rfl ?_
    refine ow_istore (q := 27) X0 hx (L' := #[iv p0, iv p1, iv p2, iv p3, iv p4, iv p5, iv v1, iv v2, iv (0 : Int32), .unset, .unset, .unset, .unset, .unset, .unset, .unset]) (hb hby at_25) rfl rfl ?_
    refine ow_iloadN (q := 28) X0 hx (hb hby at_27) rfl rfl ?_
    refine ow_iconst (q := 29) X0 hx (1 : Int32) (hb hby at_28) rfl rfl ?_
    refine ow_iushr (q := 30) X0 hx _ (hb hby at_29) rfl rfl ?_
    refine ow_iconst (q := 31) X0 hx (3 : Int32) (hb hby at_30) rfl rfl ?_
    refine ow_iand (q := 32) X0 hx _ (hb hby at_31) rfl rfl ?_
    generalize hv_v4 : (((p2.toUInt32 >>> ((1 : Int32) &&& 31).toUInt32).toInt32) &&& (3 : Int32)) = v4
    refine ow_istore (q := 34) X0 hx (L' := #[iv p0, iv p1, iv p2, iv p3, iv p4, iv p5, iv v1, iv v2, iv (0 : Int32), iv v4, .unset, .unset, .unset, .unset, .unset, .unset]) (hb hby at_32) rfl rfl ?_
    rcases own_and3 hv_v4 with hs5 | hs6 | hs7 | hs8
    · subst hs5
      refine ow_iloadN (q := 35) X0 hx (hb hby at_34) rfl rfl ?_
      refine ownGo (T' := s₁) (f' := (mkF m 37 #[iv p0, iv p1, iv p2, iv p3, iv p4, iv p5, iv v1, iv v2, iv (0 : Int32), iv (0 : Int32), .unset, .unset, .unset, .unset, .unset, .unset] [(.int (2147483647 : Int32)), (.int p3)])) (X0.ldcInt hx hown (mvT hZ (ww 0 rfl)) (g := (mkF m 35 #[iv p0, iv p1, iv p2, iv p3, iv p4, iv p5, iv v1, iv v2, iv (0 : Int32), iv (0 : Int32), .unset, .unset, .unset, .unset, .unset, .unset] [(.int p3)])) rfl (hb hby at_35)) ?_
      refine ow_iand (q := 38) X0 hx _ (hb hby at_37) rfl rfl ?_
      refine ow_iload (q := 40) X0 hx (hb hby at_38) rfl rfl ?_
      refine ow_irem (q := 41) X0 hx _ (hb hby at_40) rfl (own_z0 hv_v1) rfl ?_
      generalize hv_v9 : ((p3 &&& (2147483647 : Int32)) % v1) = v9
      refine ow_istore (q := 43) X0 hx (L' := #[iv p0, iv p1, iv p2, iv p3, iv p4, iv p5, iv v1, iv v2, iv (0 : Int32), iv (0 : Int32), iv v9, .unset, .unset, .unset, .unset, .unset]) (hb hby at_41) rfl rfl ?_
      refine ow_iload (q := 45) X0 hx (hb hby at_43) rfl rfl ?_
      refine ow_iconst (q := 46) X0 hx (1 : Int32) (hb hby at_45) rfl rfl ?_
      refine ow_iadd (q := 47) X0 hx _ (hb hby at_46) rfl rfl ?_
      refine ow_iload (q := 49) X0 hx (hb hby at_47) rfl rfl ?_
      refine ownGo (T' := s₁) (f' := (mkF m 51 #[iv p0, iv p1, iv p2, iv p3, iv p4, iv p5, iv v1, iv v2, iv (0 : Int32), iv (0 : Int32), iv v9, .unset, .unset, .unset, .unset, .unset] [(.int (2147483647 : Int32)), (.int p4), (.int (v9 + (1 : Int32)))])) (X0.ldcInt hx hown (mvT hZ (ww 0 rfl)) (g := (mkF m 49 #[iv p0, iv p1, iv p2, iv p3, iv p4, iv p5, iv v1, iv v2, iv (0 : Int32), iv (0 : Int32), iv v9, .unset, .unset, .unset, .unset, .unset] [(.int p4), (.int (v9 + (1 : Int32)))])) rfl (hb hby at_49)) ?_
      refine ow_iand (q := 52) X0 hx _ (hb hby at_51) rfl rfl ?_
      refine ow_iload (q := 54) X0 hx (hb hby at_52) rfl rfl ?_
      refine ow_iconst (q := 55) X0 hx (1 : Int32) (hb hby at_54) rfl rfl ?_
      refine ow_isub (q := 56) X0 hx _ (hb hby at_55) rfl rfl ?_
      refine ow_irem (q := 57) X0 hx _ (hb hby at_56) rfl (own_z0m hv_v1) rfl ?_
      refine ow_iadd (q := 58) X0 hx _ (hb hby at_57) rfl rfl ?_
      refine ow_iload (q := 60) X0 hx (hb hby at_58) rfl rfl ?_
      refine ow_irem (q := 61) X0 hx _ (hb hby at_60) rfl (own_z0 hv_v1) rfl ?_
      generalize hv_v10 : (((v9 + (1 : Int32)) + ((p4 &&& (2147483647 : Int32)) % (v1 - (1 : Int32)))) % v1) = v10
      refine ow_istore (q := 63) X0 hx (L' := #[iv p0, iv p1, iv p2, iv p3, iv p4, iv p5, iv v1, iv v2, iv (0 : Int32), iv (0 : Int32), iv v9, iv v10, .unset, .unset, .unset, .unset]) (hb hby at_61) rfl rfl ?_
      refine ow_iload (q := 65) X0 hx (hb hby at_63) rfl rfl ?_
      refine ownGo (T' := s₁) (f' := (mkF m 67 #[iv p0, iv p1, iv p2, iv p3, iv p4, iv p5, iv v1, iv v2, iv (0 : Int32), iv (0 : Int32), iv v9, iv v10, .unset, .unset, .unset, .unset] [(.int (2147483647 : Int32)), (.int p5)])) (X0.ldcInt hx hown (mvT hZ (ww 0 rfl)) (g := (mkF m 65 #[iv p0, iv p1, iv p2, iv p3, iv p4, iv p5, iv v1, iv v2, iv (0 : Int32), iv (0 : Int32), iv v9, iv v10, .unset, .unset, .unset, .unset] [(.int p5)])) rfl (hb hby at_65)) ?_
      refine ow_iand (q := 68) X0 hx _ (hb hby at_67) rfl rfl ?_
      refine ow_iload (q := 70) X0 hx (hb hby at_68) rfl rfl ?_
      refine ow_irem (q := 71) X0 hx _ (hb hby at_70) rfl (own_z1 hv_v2) rfl ?_
      generalize hv_v11 : ((p5 &&& (2147483647 : Int32)) % v2) = v11
      refine ow_istore (q := 73) X0 hx (L' := #[iv p0, iv p1, iv p2, iv p3, iv p4, iv p5, iv v1, iv v2, iv (0 : Int32), iv (0 : Int32), iv v9, iv v10, iv v11, .unset, .unset, .unset]) (hb hby at_71) rfl rfl ?_
      obtain ⟨T12, h12, X12, e12, E12, A12, D12, -, st12⟩ := newO X0 hx hZ hown (ww 1 rfl) (ww 2 rfl) (ww 3 rfl) e0 (g := (mkF m 73 #[iv p0, iv p1, iv p2, iv p3, iv p4, iv p5, iv v1, iv v2, iv (0 : Int32), iv (0 : Int32), iv v9, iv v10, iv v11, .unset, .unset, .unset] [])) rfl (hb hby at_73) (by decide) (by decide)
      obtain ⟨b12, g12⟩ : ∃ z, z = h0.size := ⟨_, rfl⟩
      rw [← g12] at A12 D12 st12
      have sz_b12 : h0.size ≤ b12 := Nat.le_trans K0.1 (Nat.le_of_eq g12.symm)
      have G_b12 : n0 ≤ b12 := Nat.le_trans Z0 sz_b12
      have K12 : Keep h0 h12 [] := K0.ext E12
      have F13 : Fld Z h12 b12 "com/example/sieveline/sieveline/model/CurrentDomains" "trail" "[I" .null := D12 (Or.inl (ww 12 rfl)) (ty := (.array .int)) (by decide)
      have F14 : Fld Z h12 b12 "com/example/sieveline/sieveline/model/CurrentDomains" "size" "[I" .null := D12 (Or.inr (ww 23 rfl)) (ty := (.array .int)) (by decide)
      have F15 : Fld Z h12 b12 "com/example/sieveline/sieveline/model/CurrentDomains" "dense" "[[I" .null := D12 (Or.inr (ww 26 rfl)) (ty := (.array (.array .int))) (by decide)
      have F16 : Fld Z h12 b12 "com/example/sieveline/sieveline/model/CurrentDomains" "position" "[[I" .null := D12 (Or.inr (ww 28 rfl)) (ty := (.array (.array .int))) (by decide)
      have F17 : Fld Z h12 b12 "com/example/sieveline/sieveline/model/CurrentDomains" "top" "I" (.int (0 : Int32)) := D12 (Or.inl (ww 35 rfl)) (ty := .int) (by decide)
      refine ownGo (T' := T12) (f' := (mkF m 76 #[iv p0, iv p1, iv p2, iv p3, iv p4, iv p5, iv v1, iv v2, iv (0 : Int32), iv (0 : Int32), iv v9, iv v10, iv v11, .unset, .unset, .unset] [(.ref b12)])) (st12) ?_
      refine ow_dup (q := 77) X12 hx (hb hby at_76) rfl rfl ?_
      refine ow_iconst (q := 78) X12 hx (2 : Int32) (hb hby at_77) rfl rfl ?_
      obtain ⟨T18, h18, k18, X18, e18, E18, A18, EA18, st18⟩ := newPE X12 hx hZ (ww 4 rfl) e12 (g := (mkF m 78 #[iv p0, iv p1, iv p2, iv p3, iv p4, iv p5, iv v1, iv v2, iv (0 : Int32), iv (0 : Int32), iv v9, iv v10, iv v11, .unset, .unset, .unset] [(.int (2 : Int32)), (.ref b12), (.ref b12)])) rfl (hb hby at_78) rfl (by decide) (cap := 2) (by decide) (by decide) (by decide) (by decide) (ad := "[I") (by decide)
      obtain ⟨b18, g18⟩ : ∃ z, z = h12.size := ⟨_, rfl⟩
      rw [← g18] at A18 st18 EA18
      have ne_b12_b18 : b12 ≠ b18 := Nat.ne_of_lt (Nat.lt_of_lt_of_le A12.lt (Nat.le_of_eq g18.symm))
      have sz_b18 : h0.size ≤ b18 := Nat.le_trans K12.1 (Nat.le_of_eq g18.symm)
      have G_b18 : n0 ≤ b18 := Nat.le_trans Z0 sz_b18
      have K18 : Keep h0 h18 [] := K12.ext E18
      have F19 : Exa Z h18 b12 "com/example/sieveline/sieveline/model/CurrentDomains" := A12.ext E18
      have F20 : Fld Z h18 b12 "com/example/sieveline/sieveline/model/CurrentDomains" "trail" "[I" .null := F13.ext E18
      have F21 : Fld Z h18 b12 "com/example/sieveline/sieveline/model/CurrentDomains" "size" "[I" .null := F14.ext E18
      have F22 : Fld Z h18 b12 "com/example/sieveline/sieveline/model/CurrentDomains" "dense" "[[I" .null := F15.ext E18
      have F23 : Fld Z h18 b12 "com/example/sieveline/sieveline/model/CurrentDomains" "position" "[[I" .null := F16.ext E18
      have F24 : Fld Z h18 b12 "com/example/sieveline/sieveline/model/CurrentDomains" "top" "I" (.int (0 : Int32)) := F17.ext E18
      have F25 : ownAI Z h18 b18 .int 2 (fun _ => (0 : Int32)) := ownAI.new A18 (by decide) rfl (by decide)
      refine ownGo (T' := T18) (f' := (mkF m 80 #[iv p0, iv p1, iv p2, iv p3, iv p4, iv p5, iv v1, iv v2, iv (0 : Int32), iv (0 : Int32), iv v9, iv v10, iv v11, .unset, .unset, .unset] [(.ref b18), (.ref b12), (.ref b12)])) (st18) ?_
      refine ow_dup (q := 81) X18 hx (hb hby at_80) rfl rfl ?_
      refine ow_iconst (q := 82) X18 hx (0 : Int32) (hb hby at_81) rfl rfl ?_
      refine ow_iload (q := 84) X18 hx (hb hby at_82) rfl rfl ?_
      obtain ⟨T26, h26, X26, e26, W26, F26s, st26⟩ := ownIastore F25 X18 hx hZ e18 (j := (0 : Int32)) (by unfold ownIn; decide) (g := (mkF m 84 #[iv p0, iv p1, iv p2, iv p3, iv p4, iv p5, iv v1, iv v2, iv (0 : Int32), iv (0 : Int32), iv v9, iv v10, iv v11, .unset, .unset, .unset] [(.int v1), (.int (0 : Int32)), (.ref b18), (.ref b18), (.ref b12), (.ref b12)])) rfl rfl (hb hby at_84)
      have F26r : ownAI Z h26 b18 .int 2 (ownUpd (fun _ => (0 : Int32)) 0 v1) := F26s
      have N26 := Fr.snoc X26 N0 G_b18
      have K26 : Keep h0 h26 [] := K18.wr W26 (Or.inr sz_b18)
      have F27 : Exa Z h26 b12 "com/example/sieveline/sieveline/model/CurrentDomains" := F19.wr W26
      have F28 : Fld Z h26 b12 "com/example/sieveline/sieveline/model/CurrentDomains" "trail" "[I" .null := F20.other W26 (Or.inl ne_b12_b18)
      have F29 : Fld Z h26 b12 "com/example/sieveline/sieveline/model/CurrentDomains" "size" "[I" .null := F21.other W26 (Or.inl ne_b12_b18)
      have F30 : Fld Z h26 b12 "com/example/sieveline/sieveline/model/CurrentDomains" "dense" "[[I" .null := F22.other W26 (Or.inl ne_b12_b18)
      have F31 : Fld Z h26 b12 "com/example/sieveline/sieveline/model/CurrentDomains" "position" "[[I" .null := F23.other W26 (Or.inl ne_b12_b18)
      have F32 : Fld Z h26 b12 "com/example/sieveline/sieveline/model/CurrentDomains" "top" "I" (.int (0 : Int32)) := F24.other W26 (Or.inl ne_b12_b18)
      have F33 : Exa Z h26 b18 "[I" := EA18.wr W26
      refine ownGo (T' := T26) (f' := (mkF m 85 #[iv p0, iv p1, iv p2, iv p3, iv p4, iv p5, iv v1, iv v2, iv (0 : Int32), iv (0 : Int32), iv v9, iv v10, iv v11, .unset, .unset, .unset] [(.ref b18), (.ref b12), (.ref b12)])) (st26) ?_
      refine ow_dup (q := 86) X26 hx (hb hby at_85) rfl rfl ?_
      refine ow_iconst (q := 87) X26 hx (1 : Int32) (hb hby at_86) rfl rfl ?_
      refine ow_iload (q := 89) X26 hx (hb hby at_87) rfl rfl ?_
      obtain ⟨T34, h34, X34, e34, W34, F34s, st34⟩ := ownIastore F26r X26 hx hZ e26 (j := (1 : Int32)) (by unfold ownIn; decide) (g := (mkF m 89 #[iv p0, iv p1, iv p2, iv p3, iv p4, iv p5, iv v1, iv v2, iv (0 : Int32), iv (0 : Int32), iv v9, iv v10, iv v11, .unset, .unset, .unset] [(.int v2), (.int (1 : Int32)), (.ref b18), (.ref b18), (.ref b12), (.ref b12)])) rfl rfl (hb hby at_89)
      have F34r : ownAI Z h34 b18 .int 2 (ownUpd (ownUpd (fun _ => (0 : Int32)) 0 v1) 1 v2) := F34s
      have N34 := Fr.snoc X34 N26 G_b18
      have K34 : Keep h0 h34 [] := K26.wr W34 (Or.inr sz_b18)
      have F35 : Exa Z h34 b12 "com/example/sieveline/sieveline/model/CurrentDomains" := F27.wr W34
      have F36 : Fld Z h34 b12 "com/example/sieveline/sieveline/model/CurrentDomains" "trail" "[I" .null := F28.other W34 (Or.inl ne_b12_b18)
      have F37 : Fld Z h34 b12 "com/example/sieveline/sieveline/model/CurrentDomains" "size" "[I" .null := F29.other W34 (Or.inl ne_b12_b18)
      have F38 : Fld Z h34 b12 "com/example/sieveline/sieveline/model/CurrentDomains" "dense" "[[I" .null := F30.other W34 (Or.inl ne_b12_b18)
      have F39 : Fld Z h34 b12 "com/example/sieveline/sieveline/model/CurrentDomains" "position" "[[I" .null := F31.other W34 (Or.inl ne_b12_b18)
      have F40 : Fld Z h34 b12 "com/example/sieveline/sieveline/model/CurrentDomains" "top" "I" (.int (0 : Int32)) := F32.other W34 (Or.inl ne_b12_b18)
      have F41 : Exa Z h34 b18 "[I" := F33.wr W34
      refine ownGo (T' := T34) (f' := (mkF m 90 #[iv p0, iv p1, iv p2, iv p3, iv p4, iv p5, iv v1, iv v2, iv (0 : Int32), iv (0 : Int32), iv v9, iv v10, iv v11, .unset, .unset, .unset] [(.ref b18), (.ref b12), (.ref b12)])) (st34) ?_
      obtain ⟨_, _, ⟨T42, L42, k42, n42⟩, -, X42, ⟨Lc42, hQ42, l42, y42, z42⟩, st42⟩ := X34.specialBack hx (y := (⟨"com/example/sieveline/sieveline/model/CurrentDomains", "<init>", "([I)V"⟩ : MethodName)) rfl hown (mvT hZ (ww 5 rfl)) (mvT hZ (ww 6 rfl)) (mvT hZ (ww 7 rfl)) (by decide) (backOf (W := 1) (rm_init l Z av0 hw [] b12 b18 v1 v2 h34 n0 (Nat.le_trans Z0 K34.1) F35 F36 F37 F38 F39 F40 F34r F41 G_b12 (own_h0 hv_v1) (own_h1 hv_v2) ne_b12_b18) hZ (ww 7 rfl) (ww 3 rfl) (by decide) (by decide)) (g := (mkF m 90 #[iv p0, iv p1, iv p2, iv p3, iv p4, iv p5, iv v1, iv v2, iv (0 : Int32), iv (0 : Int32), iv v9, iv v10, iv v11, .unset, .unset, .unset] [(.ref b18), (.ref b12), (.ref b12)])) rfl (by rw [hml]; rfl) (Steps.refl _) (a := b12) (argsL := [(.ref b18)]) (rest := [(.ref b12)]) (lenOf own_pd2 rfl) rfl (by show 2 * 0 + _ ≤ _; exact Nat.le_of_eq rfl) (hb hby at_90) (fun _ _ => ⟨rfl, e34, (by decide : 2 + 8 ≤ _), (by decide : 7 + 90 ≤ _)⟩)
      dsimp only [Pt.U, Pt.locs, Pt.cells, Pt.slots] at X42 l42 y42 z42 st42 hQ42
      subst l42 y42 z42
      obtain ⟨at__42, as__42, ad_42, ap_42, d0_42, q0_42, d1_42, q1_42, kd_42, kp_42, rfl, N42q, Kq42, sq42_at__42, sq42_as__42, sq42_ad_42, sq42_ap_42, sq42_d0_42, sq42_q0_42, sq42_d1_42, sq42_q1_42, FP42_0, FP42_1, FP42_2, FP42_3, FP42_4, FP42_5, FP42_6, FP42_7, FP42_8, FP42_9, FP42_10, FP42_11, FP42_12, FP42_13, hp42⟩ := hQ42
      have N42 := Fr.app N34 N42q
      have K42 : Keep h0 T42.heap [] := K34.trans Kq42 (allS (Or.inr sz_b12) all0)
      have ne_b12_at__42 : b12 ≠ at__42 := Nat.ne_of_lt (Nat.lt_of_lt_of_le F35.lt sq42_at__42)
      have ne_b18_at__42 : b18 ≠ at__42 := Nat.ne_of_lt (Nat.lt_of_lt_of_le F41.lt sq42_at__42)
      have sz_at__42 : h0.size ≤ at__42 := Nat.le_trans K34.1 sq42_at__42
      have G_at__42 : n0 ≤ at__42 := Nat.le_trans Z0 sz_at__42
      have ne_b12_as__42 : b12 ≠ as__42 := Nat.ne_of_lt (Nat.lt_of_lt_of_le F35.lt sq42_as__42)
      have ne_b18_as__42 : b18 ≠ as__42 := Nat.ne_of_lt (Nat.lt_of_lt_of_le F41.lt sq42_as__42)
      have sz_as__42 : h0.size ≤ as__42 := Nat.le_trans K34.1 sq42_as__42
      have G_as__42 : n0 ≤ as__42 := Nat.le_trans Z0 sz_as__42
      have ne_b12_ad_42 : b12 ≠ ad_42 := Nat.ne_of_lt (Nat.lt_of_lt_of_le F35.lt sq42_ad_42)
      have ne_b18_ad_42 : b18 ≠ ad_42 := Nat.ne_of_lt (Nat.lt_of_lt_of_le F41.lt sq42_ad_42)
      have sz_ad_42 : h0.size ≤ ad_42 := Nat.le_trans K34.1 sq42_ad_42
      have G_ad_42 : n0 ≤ ad_42 := Nat.le_trans Z0 sz_ad_42
      have ne_b12_ap_42 : b12 ≠ ap_42 := Nat.ne_of_lt (Nat.lt_of_lt_of_le F35.lt sq42_ap_42)
      have ne_b18_ap_42 : b18 ≠ ap_42 := Nat.ne_of_lt (Nat.lt_of_lt_of_le F41.lt sq42_ap_42)
      have sz_ap_42 : h0.size ≤ ap_42 := Nat.le_trans K34.1 sq42_ap_42
      have G_ap_42 : n0 ≤ ap_42 := Nat.le_trans Z0 sz_ap_42
      have ne_b12_d0_42 : b12 ≠ d0_42 := Nat.ne_of_lt (Nat.lt_of_lt_of_le F35.lt sq42_d0_42)
      have ne_b18_d0_42 : b18 ≠ d0_42 := Nat.ne_of_lt (Nat.lt_of_lt_of_le F41.lt sq42_d0_42)
      have sz_d0_42 : h0.size ≤ d0_42 := Nat.le_trans K34.1 sq42_d0_42
      have G_d0_42 : n0 ≤ d0_42 := Nat.le_trans Z0 sz_d0_42
      have ne_b12_q0_42 : b12 ≠ q0_42 := Nat.ne_of_lt (Nat.lt_of_lt_of_le F35.lt sq42_q0_42)
      have ne_b18_q0_42 : b18 ≠ q0_42 := Nat.ne_of_lt (Nat.lt_of_lt_of_le F41.lt sq42_q0_42)
      have sz_q0_42 : h0.size ≤ q0_42 := Nat.le_trans K34.1 sq42_q0_42
      have G_q0_42 : n0 ≤ q0_42 := Nat.le_trans Z0 sz_q0_42
      have ne_b12_d1_42 : b12 ≠ d1_42 := Nat.ne_of_lt (Nat.lt_of_lt_of_le F35.lt sq42_d1_42)
      have ne_b18_d1_42 : b18 ≠ d1_42 := Nat.ne_of_lt (Nat.lt_of_lt_of_le F41.lt sq42_d1_42)
      have sz_d1_42 : h0.size ≤ d1_42 := Nat.le_trans K34.1 sq42_d1_42
      have G_d1_42 : n0 ≤ d1_42 := Nat.le_trans Z0 sz_d1_42
      have ne_b12_q1_42 : b12 ≠ q1_42 := Nat.ne_of_lt (Nat.lt_of_lt_of_le F35.lt sq42_q1_42)
      have ne_b18_q1_42 : b18 ≠ q1_42 := Nat.ne_of_lt (Nat.lt_of_lt_of_le F41.lt sq42_q1_42)
      have sz_q1_42 : h0.size ≤ q1_42 := Nat.le_trans K34.1 sq42_q1_42
      have G_q1_42 : n0 ≤ q1_42 := Nat.le_trans Z0 sz_q1_42
      have F43 : Exa Z T42.heap b12 "com/example/sieveline/sieveline/model/CurrentDomains" := F35.keep Kq42
      have F44 : Exa Z T42.heap b18 "[I" := F41.keep Kq42
      have F45 : ownAI Z T42.heap b18 .int 2 (ownUpd (ownUpd (fun _ => (0 : Int32)) 0 v1) 1 v2) := F34r.keep Kq42 (ninS (Ne.symm ne_b12_b18) nin0)
      refine ownRun (T' := T42) (f' := (mkF m 93 #[iv p0, iv p1, iv p2, iv p3, iv p4, iv p5, iv v1, iv v2, iv (0 : Int32), iv (0 : Int32), iv v9, iv v10, iv v11, .unset, .unset, .unset] [(.ref b12)])) st42 ?_
      refine ow_astore (q := 95) X42 hx (L' := #[iv p0, iv p1, iv p2, iv p3, iv p4, iv p5, iv v1, iv v2, iv (0 : Int32), iv (0 : Int32), iv v9, iv v10, iv v11, rv b12, .unset, .unset]) (hb hby at_93) rfl rfl rfl ?_
      refine ow_iload (q := 97) X42 hx (hb hby at_95) rfl rfl ?_
      refine ow_ifYes (q := 108) X42 hx (hb hby at_97) (Jvm.Free.XT.i0_eq_t (by decide)) (by decide) (by decide) ?_
      refine ow_iload (q := 110) X42 hx (hb hby at_108) rfl rfl ?_
      refine ow_ifYes (q := 120) X42 hx (hb hby at_110) (Jvm.Free.XT.i0_eq_t (by decide)) (by decide) (by decide) ?_
      refine ow_iload (q := 122) X42 hx (hb hby at_120) rfl rfl ?_
      refine ow_istore (q := 124) X42 hx (L' := #[iv p0, iv p1, iv p2, iv p3, iv p4, iv p5, iv v1, iv v2, iv (0 : Int32), iv (0 : Int32), iv v9, iv v10, iv v11, rv b12, iv v1, .unset]) (hb hby at_122) rfl rfl ?_
      refine ow_aload (q := 126) X42 hx (hb hby at_124) rfl rfl rfl ?_
      obtain ⟨cq46, kq46, q46a, q46b, q46c⟩ := isOf hZ rfl FP42_0
      obtain ⟨_, _, ⟨T46, L46, k46, n46⟩, -, X46, ⟨Lc46, hQ46, l46, y46, z46⟩, st46⟩ := X42.virtualBack hx (y := (⟨"com/example/sieveline/sieveline/model/CurrentDomains", "mark", "()I"⟩ : MethodName)) (z := (⟨"com/example/sieveline/sieveline/model/CurrentDomains", "mark", "()I"⟩ : MethodName)) hown (mvT hZ (ww 29 rfl)) (mvT hZ (ww 30 rfl)) (notFace_of_selects (args := #[]) (mvT hZ (ww 32 rfl))) (mvT hZ (ww 32 rfl)) (mvT hZ (ww 31 rfl)) (by decide) (backOf (W := 0) (rm_mark l Z av0 hw [] b12 (0 : Int32) T42.heap n0 (Nat.le_trans Z0 K42.1) FP42_5) hZ (ww 33 rfl) (ww 3 rfl) (by decide) (by decide)) q46a q46c (g := (mkF m 126 #[iv p0, iv p1, iv p2, iv p3, iv p4, iv p5, iv v1, iv v2, iv (0 : Int32), iv (0 : Int32), iv v9, iv v10, iv v11, rv b12, iv v1, .unset] [(.ref b12)])) rfl (by rw [hml]; rfl) (Steps.refl _) (argsL := []) (rest := []) (lenOf own_pd3 rfl) rfl (by show 2 * 0 + _ ≤ _; exact Nat.le_of_eq rfl) (hb hby at_126) (fun _ _ => ⟨rfl, rfl, (by decide : 10 + 0 ≤ _), (by decide : 97 + 0 ≤ _)⟩)
      dsimp only [Pt.U, Pt.locs, Pt.cells, Pt.slots] at X46 l46 y46 z46 st46 hQ46
      subst l46 y46 z46
      obtain ⟨rfl, N46q, e46⟩ := hQ46
      have N46 := Fr.app N42 N46q
      refine ownRun (T' := T46) (f' := (mkF m 129 #[iv p0, iv p1, iv p2, iv p3, iv p4, iv p5, iv v1, iv v2, iv (0 : Int32), iv (0 : Int32), iv v9, iv v10, iv v11, rv b12, iv v1, .unset] [(.int (0 : Int32))])) st46 ?_
      refine ow_istore (q := 131) X46 hx (L' := #[iv p0, iv p1, iv p2, iv p3, iv p4, iv p5, iv v1, iv v2, iv (0 : Int32), iv (0 : Int32), iv v9, iv v10, iv v11, rv b12, iv v1, iv (0 : Int32)]) (hb hby at_129) rfl rfl ?_
      refine ow_iload (q := 133) X46 hx (hb hby at_131) rfl rfl ?_
      refine ow_iconst (q := 134) X46 hx (1 : Int32) (hb hby at_133) rfl rfl ?_
      refine ow_icmpYes (q := 145) X46 hx (hb hby at_134) (Jvm.Free.XT.ii_lt_t (by decide)) (by decide) (by decide) ?_
      refine ow_iload (q := 147) X46 hx (hb hby at_145) rfl rfl ?_
      refine ow_iconst (q := 148) X46 hx (2 : Int32) (hb hby at_147) rfl rfl ?_
      refine ow_icmpYes (q := 159) X46 hx (hb hby at_148) (Jvm.Free.XT.ii_lt_t (by decide)) (by decide) (by decide) ?_
      refine ow_iload (q := 161) X46 hx (hb hby at_159) rfl rfl ?_
      refine ow_iconst (q := 162) X46 hx (3 : Int32) (hb hby at_161) rfl rfl ?_
      refine ow_icmpYes (q := 173) X46 hx (hb hby at_162) (Jvm.Free.XT.ii_lt_t (by decide)) (by decide) (by decide) ?_
      refine ow_aload (q := 175) X46 hx (hb hby at_173) rfl rfl rfl ?_
      refine ow_iload (q := 177) X46 hx (hb hby at_175) rfl rfl ?_
      obtain ⟨cq47, kq47, q47a, q47b, q47c⟩ := isOf hZ e46 FP42_0
      obtain ⟨_, _, ⟨T47, L47, k47, n47⟩, -, X47, ⟨Lc47, hQ47, l47, y47, z47⟩, st47⟩ := X46.virtualBack hx (y := (⟨"com/example/sieveline/sieveline/model/CurrentDomains", "undo", "(I)V"⟩ : MethodName)) (z := (⟨"com/example/sieveline/sieveline/model/CurrentDomains", "undo", "(I)V"⟩ : MethodName)) hown (mvT hZ (ww 49 rfl)) (mvT hZ (ww 50 rfl)) (notFace_of_selects (args := #[]) (mvT hZ (ww 52 rfl))) (mvT hZ (ww 52 rfl)) (mvT hZ (ww 51 rfl)) (by decide) (backOf (W := 0) (rm_undo_0_0 l Z av0 hw [] b12 at__42 as__42 ad_42 ap_42 (fun _ => (0 : Int32)) (ownUpd (ownUpd (fun _ => (0 : Int32)) 0 v1) 1 v2) T42.heap n0 (Nat.le_trans Z0 K42.1) FP42_0 FP42_1 FP42_2 FP42_3 FP42_4 FP42_5 FP42_6 FP42_7 (ne_b12_at__42) (ne_b12_as__42) (hp42.1)) hZ (ww 53 rfl) (ww 3 rfl) (by decide) (by decide)) q47a q47c (g := (mkF m 177 #[iv p0, iv p1, iv p2, iv p3, iv p4, iv p5, iv v1, iv v2, iv (0 : Int32), iv (0 : Int32), iv v9, iv v10, iv v11, rv b12, iv v1, iv (0 : Int32)] [(.int (0 : Int32)), (.ref b12)])) rfl (by rw [hml]; rfl) (Steps.refl _) (argsL := [(.int (0 : Int32))]) (rest := []) (lenOf own_pd0 rfl) rfl (by show 2 * 0 + _ ≤ _; exact Nat.le_of_eq rfl) (hb hby at_177) (fun _ _ => ⟨rfl, e46, (by decide : 10 + 0 ≤ _), (by decide : 97 + 0 ≤ _)⟩)
      dsimp only [Pt.U, Pt.locs, Pt.cells, Pt.slots] at X47 l47 y47 z47 st47 hQ47
      subst l47 y47 z47
      obtain ⟨rfl, N47q, e47⟩ := hQ47
      have N47 := Fr.app N46 N47q
      refine ownRun (T' := T47) (f' := (mkF m 180 #[iv p0, iv p1, iv p2, iv p3, iv p4, iv p5, iv v1, iv v2, iv (0 : Int32), iv (0 : Int32), iv v9, iv v10, iv v11, rv b12, iv v1, iv (0 : Int32)] [])) st47 ?_
      refine ow_aload (q := 182) X47 hx (hb hby at_180) rfl rfl rfl ?_
      refine ow_iconst (q := 183) X47 hx (0 : Int32) (hb hby at_182) rfl rfl ?_
      obtain ⟨cq48, kq48, q48a, q48b, q48c⟩ := isOf hZ e47 FP42_0
      obtain ⟨_, _, ⟨T48, L48, k48, n48⟩, -, X48, ⟨Lc48, hQ48, l48, y48, z48⟩, st48⟩ := X47.virtualBack hx (y := (⟨"com/example/sieveline/sieveline/model/CurrentDomains", "size", "(I)I"⟩ : MethodName)) (z := (⟨"com/example/sieveline/sieveline/model/CurrentDomains", "size", "(I)I"⟩ : MethodName)) hown (mvT hZ (ww 54 rfl)) (mvT hZ (ww 55 rfl)) (notFace_of_selects (args := #[]) (mvT hZ (ww 57 rfl))) (mvT hZ (ww 57 rfl)) (mvT hZ (ww 56 rfl)) (by decide) (backOf (W := 0) (rm_size_0 l Z av0 hw [] b12 as__42 (ownUpd (ownUpd (fun _ => (0 : Int32)) 0 v1) 1 v2) T42.heap n0 (Nat.le_trans Z0 K42.1) FP42_2 FP42_7) hZ (ww 58 rfl) (ww 3 rfl) (by decide) (by decide)) q48a q48c (g := (mkF m 183 #[iv p0, iv p1, iv p2, iv p3, iv p4, iv p5, iv v1, iv v2, iv (0 : Int32), iv (0 : Int32), iv v9, iv v10, iv v11, rv b12, iv v1, iv (0 : Int32)] [(.int (0 : Int32)), (.ref b12)])) rfl (by rw [hml]; rfl) (Steps.refl _) (argsL := [(.int (0 : Int32))]) (rest := []) (lenOf own_pd4 rfl) rfl (by show 2 * 0 + _ ≤ _; exact Nat.le_of_eq rfl) (hb hby at_183) (fun _ _ => ⟨rfl, e47, (by decide : 10 + 0 ≤ _), (by decide : 97 + 0 ≤ _)⟩)
      dsimp only [Pt.U, Pt.locs, Pt.cells, Pt.slots] at X48 l48 y48 z48 st48 hQ48
      subst l48 y48 z48
      obtain ⟨rfl, N48q, e48⟩ := hQ48
      have N48 := Fr.app N47 N48q
      refine ownRun (T' := T48) (f' := (mkF m 186 #[iv p0, iv p1, iv p2, iv p3, iv p4, iv p5, iv v1, iv v2, iv (0 : Int32), iv (0 : Int32), iv v9, iv v10, iv v11, rv b12, iv v1, iv (0 : Int32)] [(.int v1)])) st48 ?_
      refine ow_iload (q := 188) X48 hx (hb hby at_186) rfl rfl ?_
      refine ow_icmpNo (q := 191) X48 hx (hb hby at_188) rfl (Jvm.Free.XT.ii_ne_f rfl) ?_
      refine ow_aload (q := 193) X48 hx (hb hby at_191) rfl rfl rfl ?_
      refine ow_iconst (q := 194) X48 hx (1 : Int32) (hb hby at_193) rfl rfl ?_
      obtain ⟨cq49, kq49, q49a, q49b, q49c⟩ := isOf hZ e48 FP42_0
      obtain ⟨_, _, ⟨T49, L49, k49, n49⟩, -, X49, ⟨Lc49, hQ49, l49, y49, z49⟩, st49⟩ := X48.virtualBack hx (y := (⟨"com/example/sieveline/sieveline/model/CurrentDomains", "size", "(I)I"⟩ : MethodName)) (z := (⟨"com/example/sieveline/sieveline/model/CurrentDomains", "size", "(I)I"⟩ : MethodName)) hown (mvT hZ (ww 54 rfl)) (mvT hZ (ww 55 rfl)) (notFace_of_selects (args := #[]) (mvT hZ (ww 57 rfl))) (mvT hZ (ww 57 rfl)) (mvT hZ (ww 56 rfl)) (by decide) (backOf (W := 0) (rm_size_1 l Z av0 hw [] b12 as__42 (ownUpd (ownUpd (fun _ => (0 : Int32)) 0 v1) 1 v2) T42.heap n0 (Nat.le_trans Z0 K42.1) FP42_2 FP42_7) hZ (ww 58 rfl) (ww 3 rfl) (by decide) (by decide)) q49a q49c (g := (mkF m 194 #[iv p0, iv p1, iv p2, iv p3, iv p4, iv p5, iv v1, iv v2, iv (0 : Int32), iv (0 : Int32), iv v9, iv v10, iv v11, rv b12, iv v1, iv (0 : Int32)] [(.int (1 : Int32)), (.ref b12)])) rfl (by rw [hml]; rfl) (Steps.refl _) (argsL := [(.int (1 : Int32))]) (rest := []) (lenOf own_pd4 rfl) rfl (by show 2 * 0 + _ ≤ _; exact Nat.le_of_eq rfl) (hb hby at_194) (fun _ _ => ⟨rfl, e48, (by decide : 10 + 0 ≤ _), (by decide : 97 + 0 ≤ _)⟩)
      dsimp only [Pt.U, Pt.locs, Pt.cells, Pt.slots] at X49 l49 y49 z49 st49 hQ49
      subst l49 y49 z49
      obtain ⟨rfl, N49q, e49⟩ := hQ49
      have N49 := Fr.app N48 N49q
      refine ownRun (T' := T49) (f' := (mkF m 197 #[iv p0, iv p1, iv p2, iv p3, iv p4, iv p5, iv v1, iv v2, iv (0 : Int32), iv (0 : Int32), iv v9, iv v10, iv v11, rv b12, iv v1, iv (0 : Int32)] [(.int v2)])) st49 ?_
      refine ow_iload (q := 199) X49 hx (hb hby at_197) rfl rfl ?_
      refine ow_icmpNo (q := 202) X49 hx (hb hby at_199) rfl (Jvm.Free.XT.ii_ne_f rfl) ?_
      refine ow_aload (q := 204) X49 hx (hb hby at_202) rfl rfl rfl ?_
      refine ow_iconst (q := 205) X49 hx (0 : Int32) (hb hby at_204) rfl rfl ?_
      refine ow_iload (q := 207) X49 hx (hb hby at_205) rfl rfl ?_
      obtain ⟨cq50, kq50, q50a, q50b, q50c⟩ := isOf hZ e49 FP42_0
      obtain ⟨_, _, ⟨T50, L50, k50, n50⟩, -, X50, ⟨Lc50, hQ50, l50, y50, z50⟩, st50⟩ := X49.virtualBack hx (y := (⟨"com/example/sieveline/sieveline/model/CurrentDomains", "contains", "(II)Z"⟩ : MethodName)) (z := (⟨"com/example/sieveline/sieveline/model/CurrentDomains", "contains", "(II)Z"⟩ : MethodName)) hown (mvT hZ (ww 59 rfl)) (mvT hZ (ww 60 rfl)) (notFace_of_selects (args := #[]) (mvT hZ (ww 62 rfl))) (mvT hZ (ww 62 rfl)) (mvT hZ (ww 61 rfl)) (by decide) (backOf (W := 0) (rm_contains l Z av0 hw [] b12 v9 as__42 ap_42 q0_42 q1_42 kp_42 (v1.toNatClampNeg) own_id (ownUpd (ownUpd (fun _ => (0 : Int32)) 0 v1) 1 v2) T42.heap n0 (Nat.le_trans Z0 K42.1) FP42_2 FP42_4 FP42_7 FP42_9 FP42_11 (own_v0 hv_v1 hv_v9)) hZ (ww 63 rfl) (ww 3 rfl) (by decide) (by decide)) q50a q50c (g := (mkF m 207 #[iv p0, iv p1, iv p2, iv p3, iv p4, iv p5, iv v1, iv v2, iv (0 : Int32), iv (0 : Int32), iv v9, iv v10, iv v11, rv b12, iv v1, iv (0 : Int32)] [(.int v9), (.int (0 : Int32)), (.ref b12)])) rfl (by rw [hml]; rfl) (Steps.refl _) (argsL := [(.int (0 : Int32)), (.int v9)]) (rest := []) (lenOf own_pd5 rfl) rfl (by show 2 * 0 + _ ≤ _; exact Nat.le_of_eq rfl) (hb hby at_207) (fun _ _ => ⟨rfl, e49, (by decide : 10 + 0 ≤ _), (by decide : 97 + 0 ≤ _)⟩)
      dsimp only [Pt.U, Pt.locs, Pt.cells, Pt.slots] at X50 l50 y50 z50 st50 hQ50
      subst l50 y50 z50
      obtain ⟨rfl, N50q, e50⟩ := hQ50
      have N50 := Fr.app N49 N50q
      refine ownRun (T' := T50) (f' := (mkF m 210 #[iv p0, iv p1, iv p2, iv p3, iv p4, iv p5, iv v1, iv v2, iv (0 : Int32), iv (0 : Int32), iv v9, iv v10, iv v11, rv b12, iv v1, iv (0 : Int32)] [(.int (if (own_id v9.toNatClampNeg) < v1 then (1 : Int32) else (0 : Int32)))])) st50 ?_
      refine ow_iload (q := 212) X50 hx (hb hby at_210) rfl rfl ?_
      refine ow_ifNo (q := 215) X50 hx (hb hby at_212) rfl (Jvm.Free.XT.i0_ne_f (by decide)) ?_
      refine ow_iconst (q := 216) X50 hx (1 : Int32) (hb hby at_215) rfl rfl ?_
      refine ow_goto (q := 220) X50 hx (hb hby at_216) (by decide) (by decide) ?_
      refine ow_icmpNo (q := 223) X50 hx (hb hby at_220) rfl (Jvm.Free.XT.ii_ne_f (by rw [if_pos (own_t0 hv_v1 hv_v9)])) ?_
      refine ow_aload (q := 225) X50 hx (hb hby at_223) rfl rfl rfl ?_
      obtain ⟨cq51, kq51, q51a, q51b, q51c⟩ := isOf hZ e50 FP42_0
      obtain ⟨_, _, ⟨T51, L51, k51, n51⟩, -, X51, ⟨Lc51, hQ51, l51, y51, z51⟩, st51⟩ := X50.virtualBack hx (y := (⟨"com/example/sieveline/sieveline/model/CurrentDomains", "mark", "()I"⟩ : MethodName)) (z := (⟨"com/example/sieveline/sieveline/model/CurrentDomains", "mark", "()I"⟩ : MethodName)) hown (mvT hZ (ww 29 rfl)) (mvT hZ (ww 30 rfl)) (notFace_of_selects (args := #[]) (mvT hZ (ww 32 rfl))) (mvT hZ (ww 32 rfl)) (mvT hZ (ww 31 rfl)) (by decide) (backOf (W := 0) (rm_mark l Z av0 hw [] b12 (0 : Int32) T42.heap n0 (Nat.le_trans Z0 K42.1) FP42_5) hZ (ww 33 rfl) (ww 3 rfl) (by decide) (by decide)) q51a q51c (g := (mkF m 225 #[iv p0, iv p1, iv p2, iv p3, iv p4, iv p5, iv v1, iv v2, iv (0 : Int32), iv (0 : Int32), iv v9, iv v10, iv v11, rv b12, iv v1, iv (0 : Int32)] [(.ref b12)])) rfl (by rw [hml]; rfl) (Steps.refl _) (argsL := []) (rest := []) (lenOf own_pd3 rfl) rfl (by show 2 * 0 + _ ≤ _; exact Nat.le_of_eq rfl) (hb hby at_225) (fun _ _ => ⟨rfl, e50, (by decide : 10 + 0 ≤ _), (by decide : 97 + 0 ≤ _)⟩)
      dsimp only [Pt.U, Pt.locs, Pt.cells, Pt.slots] at X51 l51 y51 z51 st51 hQ51
      subst l51 y51 z51
      obtain ⟨rfl, N51q, e51⟩ := hQ51
      have N51 := Fr.app N50 N51q
      refine ownRun (T' := T51) (f' := (mkF m 228 #[iv p0, iv p1, iv p2, iv p3, iv p4, iv p5, iv v1, iv v2, iv (0 : Int32), iv (0 : Int32), iv v9, iv v10, iv v11, rv b12, iv v1, iv (0 : Int32)] [(.int (0 : Int32))])) st51 ?_
      refine ow_iload (q := 230) X51 hx (hb hby at_228) rfl rfl ?_
      refine ow_icmpNo (q := 233) X51 hx (hb hby at_230) rfl (Jvm.Free.XT.ii_ne_f (by decide)) ?_
      refine ow_iconst (q := 234) X51 hx (1 : Int32) (hb hby at_233) rfl rfl ?_
      refine ow_goto (q := 238) X51 hx (hb hby at_234) (by decide) (by decide) ?_
      refine ownRetN X51 hx (r := (1 : Int32)) (Or.inl rfl) Bd.returns (hb hby at_238) hlk (by decide) (by decide) (by decide) ?_
      exact ⟨rfl, N51⟩
    · subst hs6
      refine ow_iloadN (q := 35) X0 hx (hb hby at_34) rfl rfl ?_
      refine ownGo (T' := s₁) (f' := (mkF m 37 #[iv p0, iv p1, iv p2, iv p3, iv p4, iv p5, iv v1, iv v2, iv (0 : Int32), iv (1 : Int32), .unset, .unset, .unset, .unset, .unset, .unset] [(.int (2147483647 : Int32)), (.int p3)])) (X0.ldcInt hx hown (mvT hZ (ww 0 rfl)) (g := (mkF m 35 #[iv p0, iv p1, iv p2, iv p3, iv p4, iv p5, iv v1, iv v2, iv (0 : Int32), iv (1 : Int32), .unset, .unset, .unset, .unset, .unset, .unset] [(.int p3)])) rfl (hb hby at_35)) ?_
      refine ow_iand (q := 38) X0 hx _ (hb hby at_37) rfl rfl ?_
      refine ow_iload (q := 40) X0 hx (hb hby at_38) rfl rfl ?_
      refine ow_irem (q := 41) X0 hx _ (hb hby at_40) rfl (own_z0 hv_v1) rfl ?_
      generalize hv_v52 : ((p3 &&& (2147483647 : Int32)) % v1) = v52
      refine ow_istore (q := 43) X0 hx (L' := #[iv p0, iv p1, iv p2, iv p3, iv p4, iv p5, iv v1, iv v2, iv (0 : Int32), iv (1 : Int32), iv v52, .unset, .unset, .unset, .unset, .unset]) (hb hby at_41) rfl rfl ?_
      refine ow_iload (q := 45) X0 hx (hb hby at_43) rfl rfl ?_
      refine ow_iconst (q := 46) X0 hx (1 : Int32) (hb hby at_45) rfl rfl ?_
      refine ow_iadd (q := 47) X0 hx _ (hb hby at_46) rfl rfl ?_
      refine ow_iload (q := 49) X0 hx (hb hby at_47) rfl rfl ?_
      refine ownGo (T' := s₁) (f' := (mkF m 51 #[iv p0, iv p1, iv p2, iv p3, iv p4, iv p5, iv v1, iv v2, iv (0 : Int32), iv (1 : Int32), iv v52, .unset, .unset, .unset, .unset, .unset] [(.int (2147483647 : Int32)), (.int p4), (.int (v52 + (1 : Int32)))])) (X0.ldcInt hx hown (mvT hZ (ww 0 rfl)) (g := (mkF m 49 #[iv p0, iv p1, iv p2, iv p3, iv p4, iv p5, iv v1, iv v2, iv (0 : Int32), iv (1 : Int32), iv v52, .unset, .unset, .unset, .unset, .unset] [(.int p4), (.int (v52 + (1 : Int32)))])) rfl (hb hby at_49)) ?_
      refine ow_iand (q := 52) X0 hx _ (hb hby at_51) rfl rfl ?_
      refine ow_iload (q := 54) X0 hx (hb hby at_52) rfl rfl ?_
      refine ow_iconst (q := 55) X0 hx (1 : Int32) (hb hby at_54) rfl rfl ?_
      refine ow_isub (q := 56) X0 hx _ (hb hby at_55) rfl rfl ?_
      refine ow_irem (q := 57) X0 hx _ (hb hby at_56) rfl (own_z0m hv_v1) rfl ?_
      refine ow_iadd (q := 58) X0 hx _ (hb hby at_57) rfl rfl ?_
      refine ow_iload (q := 60) X0 hx (hb hby at_58) rfl rfl ?_
      refine ow_irem (q := 61) X0 hx _ (hb hby at_60) rfl (own_z0 hv_v1) rfl ?_
      generalize hv_v53 : (((v52 + (1 : Int32)) + ((p4 &&& (2147483647 : Int32)) % (v1 - (1 : Int32)))) % v1) = v53
      refine ow_istore (q := 63) X0 hx (L' := #[iv p0, iv p1, iv p2, iv p3, iv p4, iv p5, iv v1, iv v2, iv (0 : Int32), iv (1 : Int32), iv v52, iv v53, .unset, .unset, .unset, .unset]) (hb hby at_61) rfl rfl ?_
      refine ow_iload (q := 65) X0 hx (hb hby at_63) rfl rfl ?_
      refine ownGo (T' := s₁) (f' := (mkF m 67 #[iv p0, iv p1, iv p2, iv p3, iv p4, iv p5, iv v1, iv v2, iv (0 : Int32), iv (1 : Int32), iv v52, iv v53, .unset, .unset, .unset, .unset] [(.int (2147483647 : Int32)), (.int p5)])) (X0.ldcInt hx hown (mvT hZ (ww 0 rfl)) (g := (mkF m 65 #[iv p0, iv p1, iv p2, iv p3, iv p4, iv p5, iv v1, iv v2, iv (0 : Int32), iv (1 : Int32), iv v52, iv v53, .unset, .unset, .unset, .unset] [(.int p5)])) rfl (hb hby at_65)) ?_
      refine ow_iand (q := 68) X0 hx _ (hb hby at_67) rfl rfl ?_
      refine ow_iload (q := 70) X0 hx (hb hby at_68) rfl rfl ?_
      refine ow_irem (q := 71) X0 hx _ (hb hby at_70) rfl (own_z1 hv_v2) rfl ?_
      generalize hv_v54 : ((p5 &&& (2147483647 : Int32)) % v2) = v54
      refine ow_istore (q := 73) X0 hx (L' := #[iv p0, iv p1, iv p2, iv p3, iv p4, iv p5, iv v1, iv v2, iv (0 : Int32), iv (1 : Int32), iv v52, iv v53, iv v54, .unset, .unset, .unset]) (hb hby at_71) rfl rfl ?_
      obtain ⟨T55, h55, X55, e55, E55, A55, D55, -, st55⟩ := newO X0 hx hZ hown (ww 1 rfl) (ww 2 rfl) (ww 3 rfl) e0 (g := (mkF m 73 #[iv p0, iv p1, iv p2, iv p3, iv p4, iv p5, iv v1, iv v2, iv (0 : Int32), iv (1 : Int32), iv v52, iv v53, iv v54, .unset, .unset, .unset] [])) rfl (hb hby at_73) (by decide) (by decide)
      obtain ⟨b55, g55⟩ : ∃ z, z = h0.size := ⟨_, rfl⟩
      rw [← g55] at A55 D55 st55
      have sz_b55 : h0.size ≤ b55 := Nat.le_trans K0.1 (Nat.le_of_eq g55.symm)
      have G_b55 : n0 ≤ b55 := Nat.le_trans Z0 sz_b55
      have K55 : Keep h0 h55 [] := K0.ext E55
      have F56 : Fld Z h55 b55 "com/example/sieveline/sieveline/model/CurrentDomains" "trail" "[I" .null := D55 (Or.inl (ww 12 rfl)) (ty := (.array .int)) (by decide)
      have F57 : Fld Z h55 b55 "com/example/sieveline/sieveline/model/CurrentDomains" "size" "[I" .null := D55 (Or.inr (ww 23 rfl)) (ty := (.array .int)) (by decide)
      have F58 : Fld Z h55 b55 "com/example/sieveline/sieveline/model/CurrentDomains" "dense" "[[I" .null := D55 (Or.inr (ww 26 rfl)) (ty := (.array (.array .int))) (by decide)
      have F59 : Fld Z h55 b55 "com/example/sieveline/sieveline/model/CurrentDomains" "position" "[[I" .null := D55 (Or.inr (ww 28 rfl)) (ty := (.array (.array .int))) (by decide)
      have F60 : Fld Z h55 b55 "com/example/sieveline/sieveline/model/CurrentDomains" "top" "I" (.int (0 : Int32)) := D55 (Or.inl (ww 35 rfl)) (ty := .int) (by decide)
      refine ownGo (T' := T55) (f' := (mkF m 76 #[iv p0, iv p1, iv p2, iv p3, iv p4, iv p5, iv v1, iv v2, iv (0 : Int32), iv (1 : Int32), iv v52, iv v53, iv v54, .unset, .unset, .unset] [(.ref b55)])) (st55) ?_
      refine ow_dup (q := 77) X55 hx (hb hby at_76) rfl rfl ?_
      refine ow_iconst (q := 78) X55 hx (2 : Int32) (hb hby at_77) rfl rfl ?_
      obtain ⟨T61, h61, k61, X61, e61, E61, A61, EA61, st61⟩ := newPE X55 hx hZ (ww 4 rfl) e55 (g := (mkF m 78 #[iv p0, iv p1, iv p2, iv p3, iv p4, iv p5, iv v1, iv v2, iv (0 : Int32), iv (1 : Int32), iv v52, iv v53, iv v54, .unset, .unset, .unset] [(.int (2 : Int32)), (.ref b55), (.ref b55)])) rfl (hb hby at_78) rfl (by decide) (cap := 2) (by decide) (by decide) (by decide) (by decide) (ad := "[I") (by decide)
      obtain ⟨b61, g61⟩ : ∃ z, z = h55.size := ⟨_, rfl⟩
      rw [← g61] at A61 st61 EA61
      have ne_b55_b61 : b55 ≠ b61 := Nat.ne_of_lt (Nat.lt_of_lt_of_le A55.lt (Nat.le_of_eq g61.symm))
      have sz_b61 : h0.size ≤ b61 := Nat.le_trans K55.1 (Nat.le_of_eq g61.symm)
      have G_b61 : n0 ≤ b61 := Nat.le_trans Z0 sz_b61
      have K61 : Keep h0 h61 [] := K55.ext E61
      have F62 : Exa Z h61 b55 "com/example/sieveline/sieveline/model/CurrentDomains" := A55.ext E61
      have F63 : Fld Z h61 b55 "com/example/sieveline/sieveline/model/CurrentDomains" "trail" "[I" .null := F56.ext E61
      have F64 : Fld Z h61 b55 "com/example/sieveline/sieveline/model/CurrentDomains" "size" "[I" .null := F57.ext E61
      have F65 : Fld Z h61 b55 "com/example/sieveline/sieveline/model/CurrentDomains" "dense" "[[I" .null := F58.ext E61
      have F66 : Fld Z h61 b55 "com/example/sieveline/sieveline/model/CurrentDomains" "position" "[[I" .null := F59.ext E61
      have F67 : Fld Z h61 b55 "com/example/sieveline/sieveline/model/CurrentDomains" "top" "I" (.int (0 : Int32)) := F60.ext E61
      have F68 : ownAI Z h61 b61 .int 2 (fun _ => (0 : Int32)) := ownAI.new A61 (by decide) rfl (by decide)
      refine ownGo (T' := T61) (f' := (mkF m 80 #[iv p0, iv p1, iv p2, iv p3, iv p4, iv p5, iv v1, iv v2, iv (0 : Int32), iv (1 : Int32), iv v52, iv v53, iv v54, .unset, .unset, .unset] [(.ref b61), (.ref b55), (.ref b55)])) (st61) ?_
      refine ow_dup (q := 81) X61 hx (hb hby at_80) rfl rfl ?_
      refine ow_iconst (q := 82) X61 hx (0 : Int32) (hb hby at_81) rfl rfl ?_
      refine ow_iload (q := 84) X61 hx (hb hby at_82) rfl rfl ?_
      obtain ⟨T69, h69, X69, e69, W69, F69s, st69⟩ := ownIastore F68 X61 hx hZ e61 (j := (0 : Int32)) (by unfold ownIn; decide) (g := (mkF m 84 #[iv p0, iv p1, iv p2, iv p3, iv p4, iv p5, iv v1, iv v2, iv (0 : Int32), iv (1 : Int32), iv v52, iv v53, iv v54, .unset, .unset, .unset] [(.int v1), (.int (0 : Int32)), (.ref b61), (.ref b61), (.ref b55), (.ref b55)])) rfl rfl (hb hby at_84)
      have F69r : ownAI Z h69 b61 .int 2 (ownUpd (fun _ => (0 : Int32)) 0 v1) := F69s
      have N69 := Fr.snoc X69 N0 G_b61
      have K69 : Keep h0 h69 [] := K61.wr W69 (Or.inr sz_b61)
      have F70 : Exa Z h69 b55 "com/example/sieveline/sieveline/model/CurrentDomains" := F62.wr W69
      have F71 : Fld Z h69 b55 "com/example/sieveline/sieveline/model/CurrentDomains" "trail" "[I" .null := F63.other W69 (Or.inl ne_b55_b61)
      have F72 : Fld Z h69 b55 "com/example/sieveline/sieveline/model/CurrentDomains" "size" "[I" .null := F64.other W69 (Or.inl ne_b55_b61)
      have F73 : Fld Z h69 b55 "com/example/sieveline/sieveline/model/CurrentDomains" "dense" "[[I" .null := F65.other W69 (Or.inl ne_b55_b61)
      have F74 : Fld Z h69 b55 "com/example/sieveline/sieveline/model/CurrentDomains" "position" "[[I" .null := F66.other W69 (Or.inl ne_b55_b61)
      have F75 : Fld Z h69 b55 "com/example/sieveline/sieveline/model/CurrentDomains" "top" "I" (.int (0 : Int32)) := F67.other W69 (Or.inl ne_b55_b61)
      have F76 : Exa Z h69 b61 "[I" := EA61.wr W69
      refine ownGo (T' := T69) (f' := (mkF m 85 #[iv p0, iv p1, iv p2, iv p3, iv p4, iv p5, iv v1, iv v2, iv (0 : Int32), iv (1 : Int32), iv v52, iv v53, iv v54, .unset, .unset, .unset] [(.ref b61), (.ref b55), (.ref b55)])) (st69) ?_
      refine ow_dup (q := 86) X69 hx (hb hby at_85) rfl rfl ?_
      refine ow_iconst (q := 87) X69 hx (1 : Int32) (hb hby at_86) rfl rfl ?_
      refine ow_iload (q := 89) X69 hx (hb hby at_87) rfl rfl ?_
      obtain ⟨T77, h77, X77, e77, W77, F77s, st77⟩ := ownIastore F69r X69 hx hZ e69 (j := (1 : Int32)) (by unfold ownIn; decide) (g := (mkF m 89 #[iv p0, iv p1, iv p2, iv p3, iv p4, iv p5, iv v1, iv v2, iv (0 : Int32), iv (1 : Int32), iv v52, iv v53, iv v54, .unset, .unset, .unset] [(.int v2), (.int (1 : Int32)), (.ref b61), (.ref b61), (.ref b55), (.ref b55)])) rfl rfl (hb hby at_89)
      have F77r : ownAI Z h77 b61 .int 2 (ownUpd (ownUpd (fun _ => (0 : Int32)) 0 v1) 1 v2) := F77s
      have N77 := Fr.snoc X77 N69 G_b61
      have K77 : Keep h0 h77 [] := K69.wr W77 (Or.inr sz_b61)
      have F78 : Exa Z h77 b55 "com/example/sieveline/sieveline/model/CurrentDomains" := F70.wr W77
      have F79 : Fld Z h77 b55 "com/example/sieveline/sieveline/model/CurrentDomains" "trail" "[I" .null := F71.other W77 (Or.inl ne_b55_b61)
      have F80 : Fld Z h77 b55 "com/example/sieveline/sieveline/model/CurrentDomains" "size" "[I" .null := F72.other W77 (Or.inl ne_b55_b61)
      have F81 : Fld Z h77 b55 "com/example/sieveline/sieveline/model/CurrentDomains" "dense" "[[I" .null := F73.other W77 (Or.inl ne_b55_b61)
      have F82 : Fld Z h77 b55 "com/example/sieveline/sieveline/model/CurrentDomains" "position" "[[I" .null := F74.other W77 (Or.inl ne_b55_b61)
      have F83 : Fld Z h77 b55 "com/example/sieveline/sieveline/model/CurrentDomains" "top" "I" (.int (0 : Int32)) := F75.other W77 (Or.inl ne_b55_b61)
      have F84 : Exa Z h77 b61 "[I" := F76.wr W77
      refine ownGo (T' := T77) (f' := (mkF m 90 #[iv p0, iv p1, iv p2, iv p3, iv p4, iv p5, iv v1, iv v2, iv (0 : Int32), iv (1 : Int32), iv v52, iv v53, iv v54, .unset, .unset, .unset] [(.ref b61), (.ref b55), (.ref b55)])) (st77) ?_
      obtain ⟨_, _, ⟨T85, L85, k85, n85⟩, -, X85, ⟨Lc85, hQ85, l85, y85, z85⟩, st85⟩ := X77.specialBack hx (y := (⟨"com/example/sieveline/sieveline/model/CurrentDomains", "<init>", "([I)V"⟩ : MethodName)) rfl hown (mvT hZ (ww 5 rfl)) (mvT hZ (ww 6 rfl)) (mvT hZ (ww 7 rfl)) (by decide) (backOf (W := 1) (rm_init l Z av0 hw [] b55 b61 v1 v2 h77 n0 (Nat.le_trans Z0 K77.1) F78 F79 F80 F81 F82 F83 F77r F84 G_b55 (own_h0 hv_v1) (own_h1 hv_v2) ne_b55_b61) hZ (ww 7 rfl) (ww 3 rfl) (by decide) (by decide)) (g := (mkF m 90 #[iv p0, iv p1, iv p2, iv p3, iv p4, iv p5, iv v1, iv v2, iv (0 : Int32), iv (1 : Int32), iv v52, iv v53, iv v54, .unset, .unset, .unset] [(.ref b61), (.ref b55), (.ref b55)])) rfl (by rw [hml]; rfl) (Steps.refl _) (a := b55) (argsL := [(.ref b61)]) (rest := [(.ref b55)]) (lenOf own_pd2 rfl) rfl (by show 2 * 0 + _ ≤ _; exact Nat.le_of_eq rfl) (hb hby at_90) (fun _ _ => ⟨rfl, e77, (by decide : 2 + 8 ≤ _), (by decide : 7 + 90 ≤ _)⟩)
      dsimp only [Pt.U, Pt.locs, Pt.cells, Pt.slots] at X85 l85 y85 z85 st85 hQ85
      subst l85 y85 z85
      obtain ⟨at__85, as__85, ad_85, ap_85, d0_85, q0_85, d1_85, q1_85, kd_85, kp_85, rfl, N85q, Kq85, sq85_at__85, sq85_as__85, sq85_ad_85, sq85_ap_85, sq85_d0_85, sq85_q0_85, sq85_d1_85, sq85_q1_85, FP85_0, FP85_1, FP85_2, FP85_3, FP85_4, FP85_5, FP85_6, FP85_7, FP85_8, FP85_9, FP85_10, FP85_11, FP85_12, FP85_13, hp85⟩ := hQ85
      have N85 := Fr.app N77 N85q
      have K85 : Keep h0 T85.heap [] := K77.trans Kq85 (allS (Or.inr sz_b55) all0)
      have ne_b55_at__85 : b55 ≠ at__85 := Nat.ne_of_lt (Nat.lt_of_lt_of_le F78.lt sq85_at__85)
      have ne_b61_at__85 : b61 ≠ at__85 := Nat.ne_of_lt (Nat.lt_of_lt_of_le F84.lt sq85_at__85)
      have sz_at__85 : h0.size ≤ at__85 := Nat.le_trans K77.1 sq85_at__85
      have G_at__85 : n0 ≤ at__85 := Nat.le_trans Z0 sz_at__85
      have ne_b55_as__85 : b55 ≠ as__85 := Nat.ne_of_lt (Nat.lt_of_lt_of_le F78.lt sq85_as__85)
      have ne_b61_as__85 : b61 ≠ as__85 := Nat.ne_of_lt (Nat.lt_of_lt_of_le F84.lt sq85_as__85)
      have sz_as__85 : h0.size ≤ as__85 := Nat.le_trans K77.1 sq85_as__85
      have G_as__85 : n0 ≤ as__85 := Nat.le_trans Z0 sz_as__85
      have ne_b55_ad_85 : b55 ≠ ad_85 := Nat.ne_of_lt (Nat.lt_of_lt_of_le F78.lt sq85_ad_85)
      have ne_b61_ad_85 : b61 ≠ ad_85 := Nat.ne_of_lt (Nat.lt_of_lt_of_le F84.lt sq85_ad_85)
      have sz_ad_85 : h0.size ≤ ad_85 := Nat.le_trans K77.1 sq85_ad_85
      have G_ad_85 : n0 ≤ ad_85 := Nat.le_trans Z0 sz_ad_85
      have ne_b55_ap_85 : b55 ≠ ap_85 := Nat.ne_of_lt (Nat.lt_of_lt_of_le F78.lt sq85_ap_85)
      have ne_b61_ap_85 : b61 ≠ ap_85 := Nat.ne_of_lt (Nat.lt_of_lt_of_le F84.lt sq85_ap_85)
      have sz_ap_85 : h0.size ≤ ap_85 := Nat.le_trans K77.1 sq85_ap_85
      have G_ap_85 : n0 ≤ ap_85 := Nat.le_trans Z0 sz_ap_85
      have ne_b55_d0_85 : b55 ≠ d0_85 := Nat.ne_of_lt (Nat.lt_of_lt_of_le F78.lt sq85_d0_85)
      have ne_b61_d0_85 : b61 ≠ d0_85 := Nat.ne_of_lt (Nat.lt_of_lt_of_le F84.lt sq85_d0_85)
      have sz_d0_85 : h0.size ≤ d0_85 := Nat.le_trans K77.1 sq85_d0_85
      have G_d0_85 : n0 ≤ d0_85 := Nat.le_trans Z0 sz_d0_85
      have ne_b55_q0_85 : b55 ≠ q0_85 := Nat.ne_of_lt (Nat.lt_of_lt_of_le F78.lt sq85_q0_85)
      have ne_b61_q0_85 : b61 ≠ q0_85 := Nat.ne_of_lt (Nat.lt_of_lt_of_le F84.lt sq85_q0_85)
      have sz_q0_85 : h0.size ≤ q0_85 := Nat.le_trans K77.1 sq85_q0_85
      have G_q0_85 : n0 ≤ q0_85 := Nat.le_trans Z0 sz_q0_85
      have ne_b55_d1_85 : b55 ≠ d1_85 := Nat.ne_of_lt (Nat.lt_of_lt_of_le F78.lt sq85_d1_85)
      have ne_b61_d1_85 : b61 ≠ d1_85 := Nat.ne_of_lt (Nat.lt_of_lt_of_le F84.lt sq85_d1_85)
      have sz_d1_85 : h0.size ≤ d1_85 := Nat.le_trans K77.1 sq85_d1_85
      have G_d1_85 : n0 ≤ d1_85 := Nat.le_trans Z0 sz_d1_85
      have ne_b55_q1_85 : b55 ≠ q1_85 := Nat.ne_of_lt (Nat.lt_of_lt_of_le F78.lt sq85_q1_85)
      have ne_b61_q1_85 : b61 ≠ q1_85 := Nat.ne_of_lt (Nat.lt_of_lt_of_le F84.lt sq85_q1_85)
      have sz_q1_85 : h0.size ≤ q1_85 := Nat.le_trans K77.1 sq85_q1_85
      have G_q1_85 : n0 ≤ q1_85 := Nat.le_trans Z0 sz_q1_85
      have F86 : Exa Z T85.heap b55 "com/example/sieveline/sieveline/model/CurrentDomains" := F78.keep Kq85
      have F87 : Exa Z T85.heap b61 "[I" := F84.keep Kq85
      have F88 : ownAI Z T85.heap b61 .int 2 (ownUpd (ownUpd (fun _ => (0 : Int32)) 0 v1) 1 v2) := F77r.keep Kq85 (ninS (Ne.symm ne_b55_b61) nin0)
      refine ownRun (T' := T85) (f' := (mkF m 93 #[iv p0, iv p1, iv p2, iv p3, iv p4, iv p5, iv v1, iv v2, iv (0 : Int32), iv (1 : Int32), iv v52, iv v53, iv v54, .unset, .unset, .unset] [(.ref b55)])) st85 ?_
      refine ow_astore (q := 95) X85 hx (L' := #[iv p0, iv p1, iv p2, iv p3, iv p4, iv p5, iv v1, iv v2, iv (0 : Int32), iv (1 : Int32), iv v52, iv v53, iv v54, rv b55, .unset, .unset]) (hb hby at_93) rfl rfl rfl ?_
      refine ow_iload (q := 97) X85 hx (hb hby at_95) rfl rfl ?_
      refine ow_ifYes (q := 108) X85 hx (hb hby at_97) (Jvm.Free.XT.i0_eq_t (by decide)) (by decide) (by decide) ?_
      refine ow_iload (q := 110) X85 hx (hb hby at_108) rfl rfl ?_
      refine ow_ifYes (q := 120) X85 hx (hb hby at_110) (Jvm.Free.XT.i0_eq_t (by decide)) (by decide) (by decide) ?_
      refine ow_iload (q := 122) X85 hx (hb hby at_120) rfl rfl ?_
      refine ow_istore (q := 124) X85 hx (L' := #[iv p0, iv p1, iv p2, iv p3, iv p4, iv p5, iv v1, iv v2, iv (0 : Int32), iv (1 : Int32), iv v52, iv v53, iv v54, rv b55, iv v1, .unset]) (hb hby at_122) rfl rfl ?_
      refine ow_aload (q := 126) X85 hx (hb hby at_124) rfl rfl rfl ?_
      obtain ⟨cq89, kq89, q89a, q89b, q89c⟩ := isOf hZ rfl FP85_0
      obtain ⟨_, _, ⟨T89, L89, k89, n89⟩, -, X89, ⟨Lc89, hQ89, l89, y89, z89⟩, st89⟩ := X85.virtualBack hx (y := (⟨"com/example/sieveline/sieveline/model/CurrentDomains", "mark", "()I"⟩ : MethodName)) (z := (⟨"com/example/sieveline/sieveline/model/CurrentDomains", "mark", "()I"⟩ : MethodName)) hown (mvT hZ (ww 29 rfl)) (mvT hZ (ww 30 rfl)) (notFace_of_selects (args := #[]) (mvT hZ (ww 32 rfl))) (mvT hZ (ww 32 rfl)) (mvT hZ (ww 31 rfl)) (by decide) (backOf (W := 0) (rm_mark l Z av0 hw [] b55 (0 : Int32) T85.heap n0 (Nat.le_trans Z0 K85.1) FP85_5) hZ (ww 33 rfl) (ww 3 rfl) (by decide) (by decide)) q89a q89c (g := (mkF m 126 #[iv p0, iv p1, iv p2, iv p3, iv p4, iv p5, iv v1, iv v2, iv (0 : Int32), iv (1 : Int32), iv v52, iv v53, iv v54, rv b55, iv v1, .unset] [(.ref b55)])) rfl (by rw [hml]; rfl) (Steps.refl _) (argsL := []) (rest := []) (lenOf own_pd3 rfl) rfl (by show 2 * 0 + _ ≤ _; exact Nat.le_of_eq rfl) (hb hby at_126) (fun _ _ => ⟨rfl, rfl, (by decide : 10 + 0 ≤ _), (by decide : 97 + 0 ≤ _)⟩)
      dsimp only [Pt.U, Pt.locs, Pt.cells, Pt.slots] at X89 l89 y89 z89 st89 hQ89
      subst l89 y89 z89
      obtain ⟨rfl, N89q, e89⟩ := hQ89
      have N89 := Fr.app N85 N89q
      refine ownRun (T' := T89) (f' := (mkF m 129 #[iv p0, iv p1, iv p2, iv p3, iv p4, iv p5, iv v1, iv v2, iv (0 : Int32), iv (1 : Int32), iv v52, iv v53, iv v54, rv b55, iv v1, .unset] [(.int (0 : Int32))])) st89 ?_
      refine ow_istore (q := 131) X89 hx (L' := #[iv p0, iv p1, iv p2, iv p3, iv p4, iv p5, iv v1, iv v2, iv (0 : Int32), iv (1 : Int32), iv v52, iv v53, iv v54, rv b55, iv v1, iv (0 : Int32)]) (hb hby at_129) rfl rfl ?_
      refine ow_iload (q := 133) X89 hx (hb hby at_131) rfl rfl ?_
      refine ow_iconst (q := 134) X89 hx (1 : Int32) (hb hby at_133) rfl rfl ?_
      refine ow_icmpNo (q := 137) X89 hx (hb hby at_134) rfl (Jvm.Free.XT.ii_lt_f (by decide)) ?_
      refine ow_aload (q := 139) X89 hx (hb hby at_137) rfl rfl rfl ?_
      refine ow_iconst (q := 140) X89 hx (0 : Int32) (hb hby at_139) rfl rfl ?_
      refine ow_iload (q := 142) X89 hx (hb hby at_140) rfl rfl ?_
      obtain ⟨cq90, kq90, q90a, q90b, q90c⟩ := isOf hZ e89 FP85_0
      obtain ⟨_, _, ⟨T90, L90, k90, n90⟩, -, X90, ⟨Lc90, hQ90, l90, y90, z90⟩, st90⟩ := X89.virtualBack hx (y := (⟨"com/example/sieveline/sieveline/model/CurrentDomains", "remove", "(II)V"⟩ : MethodName)) (z := (⟨"com/example/sieveline/sieveline/model/CurrentDomains", "remove", "(II)V"⟩ : MethodName)) hown (mvT hZ (ww 36 rfl)) (mvT hZ (ww 37 rfl)) (notFace_of_selects (args := #[]) (mvT hZ (ww 39 rfl))) (mvT hZ (ww 39 rfl)) (mvT hZ (ww 38 rfl)) (by decide) (backOf (W := 0) (rm_remove_0_0 l Z av0 hw [] b55 v53 at__85 as__85 ad_85 ap_85 d0_85 q0_85 d1_85 q1_85 kd_85 kp_85 (v1.toNatClampNeg) own_id own_id (fun _ => (0 : Int32)) (ownUpd (ownUpd (fun _ => (0 : Int32)) 0 v1) 1 v2) T85.heap n0 (Nat.le_trans Z0 K85.1) FP85_0 FP85_1 FP85_2 FP85_3 FP85_4 FP85_5 FP85_6 FP85_7 FP85_8 FP85_9 FP85_10 FP85_11 G_b55 G_at__85 G_as__85 G_d0_85 G_q0_85 (ne_b55_at__85) (ne_b55_as__85) (ne_b55_ad_85) (ne_b55_ap_85) (ne_b55_d0_85) (ne_b55_q0_85) (hp85.1) (hp85.2.1) (hp85.2.2.1) (hp85.2.2.2.1) (hp85.2.2.2.2.1) (hp85.2.2.2.2.2.2.2.1) (hp85.2.2.2.2.2.2.2.2.1) (hp85.2.2.2.2.2.2.2.2.2.1) (hp85.2.2.2.2.2.2.2.2.2.2.1) (hp85.2.2.2.2.2.2.2.2.2.2.2.2.2.1) (hp85.2.2.2.2.2.2.2.2.2.2.2.2.2.2.1) (hp85.2.2.2.2.2.2.2.2.2.2.2.2.2.2.2.1) (hp85.2.2.2.2.2.2.2.2.2.2.2.2.2.2.2.2.2.2.1) (hp85.2.2.2.2.2.2.2.2.2.2.2.2.2.2.2.2.2.2.2.1) (hp85.2.2.2.2.2.2.2.2.2.2.2.2.2.2.2.2.2.2.2.2.2.2.1) (own_w hv_v1 hv_v52 hv_v53).1 own_rg_id own_rg_id (own_s0 hv_v1)) hZ (ww 40 rfl) (ww 3 rfl) (by decide) (by decide)) q90a q90c (g := (mkF m 142 #[iv p0, iv p1, iv p2, iv p3, iv p4, iv p5, iv v1, iv v2, iv (0 : Int32), iv (1 : Int32), iv v52, iv v53, iv v54, rv b55, iv v1, iv (0 : Int32)] [(.int v53), (.int (0 : Int32)), (.ref b55)])) rfl (by rw [hml]; rfl) (Steps.refl _) (argsL := [(.int (0 : Int32)), (.int v53)]) (rest := []) (lenOf own_pd6 rfl) rfl (by show 2 * 0 + _ ≤ _; exact Nat.le_of_eq rfl) (hb hby at_142) (fun _ _ => ⟨rfl, e89, (by decide : 10 + 0 ≤ _), (by decide : 97 + 0 ≤ _)⟩)
      dsimp only [Pt.U, Pt.locs, Pt.cells, Pt.slots] at X90 l90 y90 z90 st90 hQ90
      subst l90 y90 z90
      obtain ⟨rfl, N90q, Kq90, FP90_0, FP90_1, FP90_2, FP90_3, FP90_4, FP90_5, FP90_6, FP90_7, FP90_8, FP90_9⟩ := hQ90
      have N90 := Fr.app N89 N90q
      have K90 : Keep h0 T90.heap [] := K85.trans Kq90 (allS (Or.inr sz_b55) (allS (Or.inr sz_at__85) (allS (Or.inr sz_as__85) (allS (Or.inr sz_d0_85) (allS (Or.inr sz_q0_85) all0)))))
      have F91 : Exa Z T90.heap b55 "com/example/sieveline/sieveline/model/CurrentDomains" := FP85_0.keep Kq90
      have F92 : Exa Z T90.heap b61 "[I" := F87.keep Kq90
      have F93 : ownAI Z T90.heap b61 .int 2 (ownUpd (ownUpd (fun _ => (0 : Int32)) 0 v1) 1 v2) := F88.keep Kq90 (ninS (Ne.symm ne_b55_b61) (ninS ne_b61_at__85 (ninS ne_b61_as__85 (ninS ne_b61_d0_85 (ninS ne_b61_q0_85 nin0)))))
      have F94 : ownAR Z T90.heap ad_85 kd_85 2 (ownUpd (ownUpd (fun _ => Value.null) 0 (.ref d0_85)) 1 (.ref d1_85)) := FP85_8.keep Kq90 (ninS (Ne.symm ne_b55_ad_85) (ninS (Ne.symm hp85.2.1) (ninS (Ne.symm hp85.2.2.2.2.2.2.2.1) (ninS hp85.2.2.2.2.2.2.2.2.2.2.2.2.2.2.1 (ninS hp85.2.2.2.2.2.2.2.2.2.2.2.2.2.2.2.1 nin0)))))
      have F95 : ownAR Z T90.heap ap_85 kp_85 2 (ownUpd (ownUpd (fun _ => Value.null) 0 (.ref q0_85)) 1 (.ref q1_85)) := FP85_9.keep Kq90 (ninS (Ne.symm ne_b55_ap_85) (ninS (Ne.symm hp85.2.2.1) (ninS (Ne.symm hp85.2.2.2.2.2.2.2.2.1) (ninS hp85.2.2.2.2.2.2.2.2.2.2.2.2.2.2.2.2.2.2.1 (ninS hp85.2.2.2.2.2.2.2.2.2.2.2.2.2.2.2.2.2.2.2.1 nin0)))))
      have F96 : ownAI Z T90.heap d1_85 .int (v2.toNatClampNeg) own_id := FP85_12.keep Kq90 (ninS (Ne.symm ne_b55_d1_85) (ninS (Ne.symm hp85.2.2.2.2.2.1) (ninS (Ne.symm hp85.2.2.2.2.2.2.2.2.2.2.2.1) (ninS (Ne.symm hp85.2.2.2.2.2.2.2.2.2.2.2.2.2.2.2.2.2.2.2.2.2.2.2.1) (ninS (Ne.symm hp85.2.2.2.2.2.2.2.2.2.2.2.2.2.2.2.2.2.2.2.2.2.2.2.2.2.1) nin0)))))
      have F97 : ownAI Z T90.heap q1_85 .int (v2.toNatClampNeg) own_id := FP85_13.keep Kq90 (ninS (Ne.symm ne_b55_q1_85) (ninS (Ne.symm hp85.2.2.2.2.2.2.1) (ninS (Ne.symm hp85.2.2.2.2.2.2.2.2.2.2.2.2.1) (ninS (Ne.symm hp85.2.2.2.2.2.2.2.2.2.2.2.2.2.2.2.2.2.2.2.2.2.2.2.2.1) (ninS (Ne.symm hp85.2.2.2.2.2.2.2.2.2.2.2.2.2.2.2.2.2.2.2.2.2.2.2.2.2.2.1) nin0)))))
      refine ownRun (T' := T90) (f' := (mkF m 145 #[iv p0, iv p1, iv p2, iv p3, iv p4, iv p5, iv v1, iv v2, iv (0 : Int32), iv (1 : Int32), iv v52, iv v53, iv v54, rv b55, iv v1, iv (0 : Int32)] [])) st90 ?_
      refine ow_iload (q := 147) X90 hx (hb hby at_145) rfl rfl ?_
      refine ow_iconst (q := 148) X90 hx (2 : Int32) (hb hby at_147) rfl rfl ?_
      refine ow_icmpYes (q := 159) X90 hx (hb hby at_148) (Jvm.Free.XT.ii_lt_t (by decide)) (by decide) (by decide) ?_
      refine ow_iload (q := 161) X90 hx (hb hby at_159) rfl rfl ?_
      refine ow_iconst (q := 162) X90 hx (3 : Int32) (hb hby at_161) rfl rfl ?_
      refine ow_icmpYes (q := 173) X90 hx (hb hby at_162) (Jvm.Free.XT.ii_lt_t (by decide)) (by decide) (by decide) ?_
      refine ow_aload (q := 175) X90 hx (hb hby at_173) rfl rfl rfl ?_
      refine ow_iload (q := 177) X90 hx (hb hby at_175) rfl rfl ?_
      obtain ⟨cq98, kq98, q98a, q98b, q98c⟩ := isOf hZ rfl FP90_0
      obtain ⟨_, _, ⟨T98, L98, k98, n98⟩, -, X98, ⟨Lc98, hQ98, l98, y98, z98⟩, st98⟩ := X90.virtualBack hx (y := (⟨"com/example/sieveline/sieveline/model/CurrentDomains", "undo", "(I)V"⟩ : MethodName)) (z := (⟨"com/example/sieveline/sieveline/model/CurrentDomains", "undo", "(I)V"⟩ : MethodName)) hown (mvT hZ (ww 49 rfl)) (mvT hZ (ww 50 rfl)) (notFace_of_selects (args := #[]) (mvT hZ (ww 52 rfl))) (mvT hZ (ww 52 rfl)) (mvT hZ (ww 51 rfl)) (by decide) (backOf (W := 0) (rm_undo_0_1 l Z av0 hw [] b55 at__85 as__85 ad_85 ap_85 (ownUpd (ownUpd (fun _ => (0 : Int32)) 0 (0 : Int32)) 1 v1) (ownUpd (ownUpd (ownUpd (fun _ => (0 : Int32)) 0 v1) 1 v2) 0 (v1 - (1 : Int32))) T90.heap n0 (Nat.le_trans Z0 K90.1) FP90_0 FP90_1 FP90_2 FP90_3 FP90_4 FP90_5 FP90_6 FP90_7 G_b55 G_as__85 (ne_b55_at__85) (ne_b55_as__85) (hp85.1) rfl) hZ (ww 53 rfl) (ww 3 rfl) (by decide) (by decide)) q98a q98c (g := (mkF m 177 #[iv p0, iv p1, iv p2, iv p3, iv p4, iv p5, iv v1, iv v2, iv (0 : Int32), iv (1 : Int32), iv v52, iv v53, iv v54, rv b55, iv v1, iv (0 : Int32)] [(.int (0 : Int32)), (.ref b55)])) rfl (by rw [hml]; rfl) (Steps.refl _) (argsL := [(.int (0 : Int32))]) (rest := []) (lenOf own_pd0 rfl) rfl (by show 2 * 0 + _ ≤ _; exact Nat.le_of_eq rfl) (hb hby at_177) (fun _ _ => ⟨rfl, rfl, (by decide : 10 + 0 ≤ _), (by decide : 97 + 0 ≤ _)⟩)
      dsimp only [Pt.U, Pt.locs, Pt.cells, Pt.slots] at X98 l98 y98 z98 st98 hQ98
      subst l98 y98 z98
      obtain ⟨rfl, N98q, Kq98, FP98_0, FP98_1, FP98_2, FP98_3, FP98_4, FP98_5, FP98_6⟩ := hQ98
      have N98 := Fr.app N90 N98q
      have K98 : Keep h0 T98.heap [] := K90.trans Kq98 (allS (Or.inr sz_b55) (allS (Or.inr sz_as__85) all0))
      have F99 : Exa Z T98.heap b55 "com/example/sieveline/sieveline/model/CurrentDomains" := FP90_0.keep Kq98
      have F100 : Exa Z T98.heap b61 "[I" := F92.keep Kq98
      have F101 : ownAI Z T98.heap b61 .int 2 (ownUpd (ownUpd (fun _ => (0 : Int32)) 0 v1) 1 v2) := F93.keep Kq98 (ninS (Ne.symm ne_b55_b61) (ninS ne_b61_as__85 nin0))
      have F102 : ownAR Z T98.heap ad_85 kd_85 2 (ownUpd (ownUpd (fun _ => Value.null) 0 (.ref d0_85)) 1 (.ref d1_85)) := F94.keep Kq98 (ninS (Ne.symm ne_b55_ad_85) (ninS (Ne.symm hp85.2.2.2.2.2.2.2.1) nin0))
      have F103 : ownAR Z T98.heap ap_85 kp_85 2 (ownUpd (ownUpd (fun _ => Value.null) 0 (.ref q0_85)) 1 (.ref q1_85)) := F95.keep Kq98 (ninS (Ne.symm ne_b55_ap_85) (ninS (Ne.symm hp85.2.2.2.2.2.2.2.2.1) nin0))
      have F104 : ownAI Z T98.heap d1_85 .int (v2.toNatClampNeg) own_id := F96.keep Kq98 (ninS (Ne.symm ne_b55_d1_85) (ninS (Ne.symm hp85.2.2.2.2.2.2.2.2.2.2.2.1) nin0))
      have F105 : ownAI Z T98.heap q1_85 .int (v2.toNatClampNeg) own_id := F97.keep Kq98 (ninS (Ne.symm ne_b55_q1_85) (ninS (Ne.symm hp85.2.2.2.2.2.2.2.2.2.2.2.2.1) nin0))
      have F106 : ownAI Z T98.heap at__85 .int 64 (ownUpd (ownUpd (fun _ => (0 : Int32)) 0 (0 : Int32)) 1 v1) := FP90_6.keep Kq98 (ninS (Ne.symm ne_b55_at__85) (ninS hp85.1 nin0))
      have F107 : ownAI Z T98.heap d0_85 .int (v1.toNatClampNeg) (own_swD own_id (own_id v53.toNatClampNeg) (v1 - (1 : Int32))) := FP90_8.keep Kq98 (ninS (Ne.symm ne_b55_d0_85) (ninS (Ne.symm hp85.2.2.2.2.2.2.2.2.2.1) nin0))
      have F108 : ownAI Z T98.heap q0_85 .int (v1.toNatClampNeg) (own_swQ own_id own_id (own_id v53.toNatClampNeg) (v1 - (1 : Int32))) := FP90_9.keep Kq98 (ninS (Ne.symm ne_b55_q0_85) (ninS (Ne.symm hp85.2.2.2.2.2.2.2.2.2.2.1) nin0))
      refine ownRun (T' := T98) (f' := (mkF m 180 #[iv p0, iv p1, iv p2, iv p3, iv p4, iv p5, iv v1, iv v2, iv (0 : Int32), iv (1 : Int32), iv v52, iv v53, iv v54, rv b55, iv v1, iv (0 : Int32)] [])) st98 ?_
      refine ow_aload (q := 182) X98 hx (hb hby at_180) rfl rfl rfl ?_
      refine ow_iconst (q := 183) X98 hx (0 : Int32) (hb hby at_182) rfl rfl ?_
      obtain ⟨cq109, kq109, q109a, q109b, q109c⟩ := isOf hZ rfl FP98_0
      obtain ⟨_, _, ⟨T109, L109, k109, n109⟩, -, X109, ⟨Lc109, hQ109, l109, y109, z109⟩, st109⟩ := X98.virtualBack hx (y := (⟨"com/example/sieveline/sieveline/model/CurrentDomains", "size", "(I)I"⟩ : MethodName)) (z := (⟨"com/example/sieveline/sieveline/model/CurrentDomains", "size", "(I)I"⟩ : MethodName)) hown (mvT hZ (ww 54 rfl)) (mvT hZ (ww 55 rfl)) (notFace_of_selects (args := #[]) (mvT hZ (ww 57 rfl))) (mvT hZ (ww 57 rfl)) (mvT hZ (ww 56 rfl)) (by decide) (backOf (W := 0) (rm_size_0 l Z av0 hw [] b55 as__85 (ownUpd (ownUpd (ownUpd (ownUpd (fun _ => (0 : Int32)) 0 v1) 1 v2) 0 (v1 - (1 : Int32))) 0 v1) T98.heap n0 (Nat.le_trans Z0 K98.1) FP98_2 FP98_6) hZ (ww 58 rfl) (ww 3 rfl) (by decide) (by decide)) q109a q109c (g := (mkF m 183 #[iv p0, iv p1, iv p2, iv p3, iv p4, iv p5, iv v1, iv v2, iv (0 : Int32), iv (1 : Int32), iv v52, iv v53, iv v54, rv b55, iv v1, iv (0 : Int32)] [(.int (0 : Int32)), (.ref b55)])) rfl (by rw [hml]; rfl) (Steps.refl _) (argsL := [(.int (0 : Int32))]) (rest := []) (lenOf own_pd4 rfl) rfl (by show 2 * 0 + _ ≤ _; exact Nat.le_of_eq rfl) (hb hby at_183) (fun _ _ => ⟨rfl, rfl, (by decide : 10 + 0 ≤ _), (by decide : 97 + 0 ≤ _)⟩)
      dsimp only [Pt.U, Pt.locs, Pt.cells, Pt.slots] at X109 l109 y109 z109 st109 hQ109
      subst l109 y109 z109
      obtain ⟨rfl, N109q, e109⟩ := hQ109
      have N109 := Fr.app N98 N109q
      refine ownRun (T' := T109) (f' := (mkF m 186 #[iv p0, iv p1, iv p2, iv p3, iv p4, iv p5, iv v1, iv v2, iv (0 : Int32), iv (1 : Int32), iv v52, iv v53, iv v54, rv b55, iv v1, iv (0 : Int32)] [(.int v1)])) st109 ?_
      refine ow_iload (q := 188) X109 hx (hb hby at_186) rfl rfl ?_
      refine ow_icmpNo (q := 191) X109 hx (hb hby at_188) rfl (Jvm.Free.XT.ii_ne_f rfl) ?_
      refine ow_aload (q := 193) X109 hx (hb hby at_191) rfl rfl rfl ?_
      refine ow_iconst (q := 194) X109 hx (1 : Int32) (hb hby at_193) rfl rfl ?_
      obtain ⟨cq110, kq110, q110a, q110b, q110c⟩ := isOf hZ e109 FP98_0
      obtain ⟨_, _, ⟨T110, L110, k110, n110⟩, -, X110, ⟨Lc110, hQ110, l110, y110, z110⟩, st110⟩ := X109.virtualBack hx (y := (⟨"com/example/sieveline/sieveline/model/CurrentDomains", "size", "(I)I"⟩ : MethodName)) (z := (⟨"com/example/sieveline/sieveline/model/CurrentDomains", "size", "(I)I"⟩ : MethodName)) hown (mvT hZ (ww 54 rfl)) (mvT hZ (ww 55 rfl)) (notFace_of_selects (args := #[]) (mvT hZ (ww 57 rfl))) (mvT hZ (ww 57 rfl)) (mvT hZ (ww 56 rfl)) (by decide) (backOf (W := 0) (rm_size_1 l Z av0 hw [] b55 as__85 (ownUpd (ownUpd (ownUpd (ownUpd (fun _ => (0 : Int32)) 0 v1) 1 v2) 0 (v1 - (1 : Int32))) 0 v1) T98.heap n0 (Nat.le_trans Z0 K98.1) FP98_2 FP98_6) hZ (ww 58 rfl) (ww 3 rfl) (by decide) (by decide)) q110a q110c (g := (mkF m 194 #[iv p0, iv p1, iv p2, iv p3, iv p4, iv p5, iv v1, iv v2, iv (0 : Int32), iv (1 : Int32), iv v52, iv v53, iv v54, rv b55, iv v1, iv (0 : Int32)] [(.int (1 : Int32)), (.ref b55)])) rfl (by rw [hml]; rfl) (Steps.refl _) (argsL := [(.int (1 : Int32))]) (rest := []) (lenOf own_pd4 rfl) rfl (by show 2 * 0 + _ ≤ _; exact Nat.le_of_eq rfl) (hb hby at_194) (fun _ _ => ⟨rfl, e109, (by decide : 10 + 0 ≤ _), (by decide : 97 + 0 ≤ _)⟩)
      dsimp only [Pt.U, Pt.locs, Pt.cells, Pt.slots] at X110 l110 y110 z110 st110 hQ110
      subst l110 y110 z110
      obtain ⟨rfl, N110q, e110⟩ := hQ110
      have N110 := Fr.app N109 N110q
      refine ownRun (T' := T110) (f' := (mkF m 197 #[iv p0, iv p1, iv p2, iv p3, iv p4, iv p5, iv v1, iv v2, iv (0 : Int32), iv (1 : Int32), iv v52, iv v53, iv v54, rv b55, iv v1, iv (0 : Int32)] [(.int v2)])) st110 ?_
      refine ow_iload (q := 199) X110 hx (hb hby at_197) rfl rfl ?_
      refine ow_icmpNo (q := 202) X110 hx (hb hby at_199) rfl (Jvm.Free.XT.ii_ne_f rfl) ?_
      refine ow_aload (q := 204) X110 hx (hb hby at_202) rfl rfl rfl ?_
      refine ow_iconst (q := 205) X110 hx (0 : Int32) (hb hby at_204) rfl rfl ?_
      refine ow_iload (q := 207) X110 hx (hb hby at_205) rfl rfl ?_
      obtain ⟨cq111, kq111, q111a, q111b, q111c⟩ := isOf hZ e110 FP98_0
      obtain ⟨_, _, ⟨T111, L111, k111, n111⟩, -, X111, ⟨Lc111, hQ111, l111, y111, z111⟩, st111⟩ := X110.virtualBack hx (y := (⟨"com/example/sieveline/sieveline/model/CurrentDomains", "contains", "(II)Z"⟩ : MethodName)) (z := (⟨"com/example/sieveline/sieveline/model/CurrentDomains", "contains", "(II)Z"⟩ : MethodName)) hown (mvT hZ (ww 59 rfl)) (mvT hZ (ww 60 rfl)) (notFace_of_selects (args := #[]) (mvT hZ (ww 62 rfl))) (mvT hZ (ww 62 rfl)) (mvT hZ (ww 61 rfl)) (by decide) (backOf (W := 0) (rm_contains l Z av0 hw [] b55 v52 as__85 ap_85 q0_85 q1_85 kp_85 (v1.toNatClampNeg) (own_swQ own_id own_id (own_id v53.toNatClampNeg) (v1 - (1 : Int32))) (ownUpd (ownUpd (ownUpd (ownUpd (fun _ => (0 : Int32)) 0 v1) 1 v2) 0 (v1 - (1 : Int32))) 0 v1) T98.heap n0 (Nat.le_trans Z0 K98.1) FP98_2 FP98_4 FP98_6 F103 F108 (own_v0 hv_v1 hv_v52)) hZ (ww 63 rfl) (ww 3 rfl) (by decide) (by decide)) q111a q111c (g := (mkF m 207 #[iv p0, iv p1, iv p2, iv p3, iv p4, iv p5, iv v1, iv v2, iv (0 : Int32), iv (1 : Int32), iv v52, iv v53, iv v54, rv b55, iv v1, iv (0 : Int32)] [(.int v52), (.int (0 : Int32)), (.ref b55)])) rfl (by rw [hml]; rfl) (Steps.refl _) (argsL := [(.int (0 : Int32)), (.int v52)]) (rest := []) (lenOf own_pd5 rfl) rfl (by show 2 * 0 + _ ≤ _; exact Nat.le_of_eq rfl) (hb hby at_207) (fun _ _ => ⟨rfl, e110, (by decide : 10 + 0 ≤ _), (by decide : 97 + 0 ≤ _)⟩)
      dsimp only [Pt.U, Pt.locs, Pt.cells, Pt.slots] at X111 l111 y111 z111 st111 hQ111
      subst l111 y111 z111
      obtain ⟨rfl, N111q, e111⟩ := hQ111
      have N111 := Fr.app N110 N111q
      refine ownRun (T' := T111) (f' := (mkF m 210 #[iv p0, iv p1, iv p2, iv p3, iv p4, iv p5, iv v1, iv v2, iv (0 : Int32), iv (1 : Int32), iv v52, iv v53, iv v54, rv b55, iv v1, iv (0 : Int32)] [(.int (if ((own_swQ own_id own_id (own_id v53.toNatClampNeg) (v1 - (1 : Int32))) v52.toNatClampNeg) < v1 then (1 : Int32) else (0 : Int32)))])) st111 ?_
      refine ow_iload (q := 212) X111 hx (hb hby at_210) rfl rfl ?_
      refine ow_ifNo (q := 215) X111 hx (hb hby at_212) rfl (Jvm.Free.XT.i0_ne_f (by decide)) ?_
      refine ow_iconst (q := 216) X111 hx (1 : Int32) (hb hby at_215) rfl rfl ?_
      refine ow_goto (q := 220) X111 hx (hb hby at_216) (by decide) (by decide) ?_
      refine ow_icmpNo (q := 223) X111 hx (hb hby at_220) rfl (Jvm.Free.XT.ii_ne_f (by rw [if_pos (own_t1 hv_v1 hv_v52 hv_v53)])) ?_
      refine ow_aload (q := 225) X111 hx (hb hby at_223) rfl rfl rfl ?_
      obtain ⟨cq112, kq112, q112a, q112b, q112c⟩ := isOf hZ e111 FP98_0
      obtain ⟨_, _, ⟨T112, L112, k112, n112⟩, -, X112, ⟨Lc112, hQ112, l112, y112, z112⟩, st112⟩ := X111.virtualBack hx (y := (⟨"com/example/sieveline/sieveline/model/CurrentDomains", "mark", "()I"⟩ : MethodName)) (z := (⟨"com/example/sieveline/sieveline/model/CurrentDomains", "mark", "()I"⟩ : MethodName)) hown (mvT hZ (ww 29 rfl)) (mvT hZ (ww 30 rfl)) (notFace_of_selects (args := #[]) (mvT hZ (ww 32 rfl))) (mvT hZ (ww 32 rfl)) (mvT hZ (ww 31 rfl)) (by decide) (backOf (W := 0) (rm_mark l Z av0 hw [] b55 (0 : Int32) T98.heap n0 (Nat.le_trans Z0 K98.1) FP98_5) hZ (ww 33 rfl) (ww 3 rfl) (by decide) (by decide)) q112a q112c (g := (mkF m 225 #[iv p0, iv p1, iv p2, iv p3, iv p4, iv p5, iv v1, iv v2, iv (0 : Int32), iv (1 : Int32), iv v52, iv v53, iv v54, rv b55, iv v1, iv (0 : Int32)] [(.ref b55)])) rfl (by rw [hml]; rfl) (Steps.refl _) (argsL := []) (rest := []) (lenOf own_pd3 rfl) rfl (by show 2 * 0 + _ ≤ _; exact Nat.le_of_eq rfl) (hb hby at_225) (fun _ _ => ⟨rfl, e111, (by decide : 10 + 0 ≤ _), (by decide : 97 + 0 ≤ _)⟩)
      dsimp only [Pt.U, Pt.locs, Pt.cells, Pt.slots] at X112 l112 y112 z112 st112 hQ112
      subst l112 y112 z112
      obtain ⟨rfl, N112q, e112⟩ := hQ112
      have N112 := Fr.app N111 N112q
      refine ownRun (T' := T112) (f' := (mkF m 228 #[iv p0, iv p1, iv p2, iv p3, iv p4, iv p5, iv v1, iv v2, iv (0 : Int32), iv (1 : Int32), iv v52, iv v53, iv v54, rv b55, iv v1, iv (0 : Int32)] [(.int (0 : Int32))])) st112 ?_
      refine ow_iload (q := 230) X112 hx (hb hby at_228) rfl rfl ?_
      refine ow_icmpNo (q := 233) X112 hx (hb hby at_230) rfl (Jvm.Free.XT.ii_ne_f (by decide)) ?_
      refine ow_iconst (q := 234) X112 hx (1 : Int32) (hb hby at_233) rfl rfl ?_
      refine ow_goto (q := 238) X112 hx (hb hby at_234) (by decide) (by decide) ?_
      refine ownRetN X112 hx (r := (1 : Int32)) (Or.inl rfl) Bd.returns (hb hby at_238) hlk (by decide) (by decide) (by decide) ?_
      exact ⟨rfl, N112⟩
    · subst hs7
      refine ow_iloadN (q := 35) X0 hx (hb hby at_34) rfl rfl ?_
      refine ownGo (T' := s₁) (f' := (mkF m 37 #[iv p0, iv p1, iv p2, iv p3, iv p4, iv p5, iv v1, iv v2, iv (0 : Int32), iv (2 : Int32), .unset, .unset, .unset, .unset, .unset, .unset] [(.int (2147483647 : Int32)), (.int p3)])) (X0.ldcInt hx hown (mvT hZ (ww 0 rfl)) (g := (mkF m 35 #[iv p0, iv p1, iv p2, iv p3, iv p4, iv p5, iv v1, iv v2, iv (0 : Int32), iv (2 : Int32), .unset, .unset, .unset, .unset, .unset, .unset] [(.int p3)])) rfl (hb hby at_35)) ?_
      refine ow_iand (q := 38) X0 hx _ (hb hby at_37) rfl rfl ?_
      refine ow_iload (q := 40) X0 hx (hb hby at_38) rfl rfl ?_
      refine ow_irem (q := 41) X0 hx _ (hb hby at_40) rfl (own_z0 hv_v1) rfl ?_
      generalize hv_v113 : ((p3 &&& (2147483647 : Int32)) % v1) = v113
      refine ow_istore (q := 43) X0 hx (L' := #[iv p0, iv p1, iv p2, iv p3, iv p4, iv p5, iv v1, iv v2, iv (0 : Int32), iv (2 : Int32), iv v113, .unset, .unset, .unset, .unset, .unset]) (hb hby at_41) rfl rfl ?_
      refine ow_iload (q := 45) X0 hx (hb hby at_43) rfl rfl ?_
      refine ow_iconst (q := 46) X0 hx (1 : Int32) (hb hby at_45) rfl rfl ?_
      refine ow_iadd (q := 47) X0 hx _ (hb hby at_46) rfl rfl ?_
      refine ow_iload (q := 49) X0 hx (hb hby at_47) rfl rfl ?_
      refine ownGo (T' := s₁) (f' := (mkF m 51 #[iv p0, iv p1, iv p2, iv p3, iv p4, iv p5, iv v1, iv v2, iv (0 : Int32), iv (2 : Int32), iv v113, .unset, .unset, .unset, .unset, .unset] [(.int (2147483647 : Int32)), (.int p4), (.int (v113 + (1 : Int32)))])) (X0.ldcInt hx hown (mvT hZ (ww 0 rfl)) (g := (mkF m 49 #[iv p0, iv p1, iv p2, iv p3, iv p4, iv p5, iv v1, iv v2, iv (0 : Int32), iv (2 : Int32), iv v113, .unset, .unset, .unset, .unset, .unset] [(.int p4), (.int (v113 + (1 : Int32)))])) rfl (hb hby at_49)) ?_
      refine ow_iand (q := 52) X0 hx _ (hb hby at_51) rfl rfl ?_
      refine ow_iload (q := 54) X0 hx (hb hby at_52) rfl rfl ?_
      refine ow_iconst (q := 55) X0 hx (1 : Int32) (hb hby at_54) rfl rfl ?_
      refine ow_isub (q := 56) X0 hx _ (hb hby at_55) rfl rfl ?_
      refine ow_irem (q := 57) X0 hx _ (hb hby at_56) rfl (own_z0m hv_v1) rfl ?_
      refine ow_iadd (q := 58) X0 hx _ (hb hby at_57) rfl rfl ?_
      refine ow_iload (q := 60) X0 hx (hb hby at_58) rfl rfl ?_
      refine ow_irem (q := 61) X0 hx _ (hb hby at_60) rfl (own_z0 hv_v1) rfl ?_
      generalize hv_v114 : (((v113 + (1 : Int32)) + ((p4 &&& (2147483647 : Int32)) % (v1 - (1 : Int32)))) % v1) = v114
      refine ow_istore (q := 63) X0 hx (L' := #[iv p0, iv p1, iv p2, iv p3, iv p4, iv p5, iv v1, iv v2, iv (0 : Int32), iv (2 : Int32), iv v113, iv v114, .unset, .unset, .unset, .unset]) (hb hby at_61) rfl rfl ?_
      refine ow_iload (q := 65) X0 hx (hb hby at_63) rfl rfl ?_
      refine ownGo (T' := s₁) (f' := (mkF m 67 #[iv p0, iv p1, iv p2, iv p3, iv p4, iv p5, iv v1, iv v2, iv (0 : Int32), iv (2 : Int32), iv v113, iv v114, .unset, .unset, .unset, .unset] [(.int (2147483647 : Int32)), (.int p5)])) (X0.ldcInt hx hown (mvT hZ (ww 0 rfl)) (g := (mkF m 65 #[iv p0, iv p1, iv p2, iv p3, iv p4, iv p5, iv v1, iv v2, iv (0 : Int32), iv (2 : Int32), iv v113, iv v114, .unset, .unset, .unset, .unset] [(.int p5)])) rfl (hb hby at_65)) ?_
      refine ow_iand (q := 68) X0 hx _ (hb hby at_67) rfl rfl ?_
      refine ow_iload (q := 70) X0 hx (hb hby at_68) rfl rfl ?_
      refine ow_irem (q := 71) X0 hx _ (hb hby at_70) rfl (own_z1 hv_v2) rfl ?_
      generalize hv_v115 : ((p5 &&& (2147483647 : Int32)) % v2) = v115
      refine ow_istore (q := 73) X0 hx (L' := #[iv p0, iv p1, iv p2, iv p3, iv p4, iv p5, iv v1, iv v2, iv (0 : Int32), iv (2 : Int32), iv v113, iv v114, iv v115, .unset, .unset, .unset]) (hb hby at_71) rfl rfl ?_
      obtain ⟨T116, h116, X116, e116, E116, A116, D116, -, st116⟩ := newO X0 hx hZ hown (ww 1 rfl) (ww 2 rfl) (ww 3 rfl) e0 (g := (mkF m 73 #[iv p0, iv p1, iv p2, iv p3, iv p4, iv p5, iv v1, iv v2, iv (0 : Int32), iv (2 : Int32), iv v113, iv v114, iv v115, .unset, .unset, .unset] [])) rfl (hb hby at_73) (by decide) (by decide)
      obtain ⟨b116, g116⟩ : ∃ z, z = h0.size := ⟨_, rfl⟩
      rw [← g116] at A116 D116 st116
      have sz_b116 : h0.size ≤ b116 := Nat.le_trans K0.1 (Nat.le_of_eq g116.symm)
      have G_b116 : n0 ≤ b116 := Nat.le_trans Z0 sz_b116
      have K116 : Keep h0 h116 [] := K0.ext E116
      have F117 : Fld Z h116 b116 "com/example/sieveline/sieveline/model/CurrentDomains" "trail" "[I" .null := D116 (Or.inl (ww 12 rfl)) (ty := (.array .int)) (by decide)
      have F118 : Fld Z h116 b116 "com/example/sieveline/sieveline/model/CurrentDomains" "size" "[I" .null := D116 (Or.inr (ww 23 rfl)) (ty := (.array .int)) (by decide)
      have F119 : Fld Z h116 b116 "com/example/sieveline/sieveline/model/CurrentDomains" "dense" "[[I" .null := D116 (Or.inr (ww 26 rfl)) (ty := (.array (.array .int))) (by decide)
      have F120 : Fld Z h116 b116 "com/example/sieveline/sieveline/model/CurrentDomains" "position" "[[I" .null := D116 (Or.inr (ww 28 rfl)) (ty := (.array (.array .int))) (by decide)
      have F121 : Fld Z h116 b116 "com/example/sieveline/sieveline/model/CurrentDomains" "top" "I" (.int (0 : Int32)) := D116 (Or.inl (ww 35 rfl)) (ty := .int) (by decide)
      refine ownGo (T' := T116) (f' := (mkF m 76 #[iv p0, iv p1, iv p2, iv p3, iv p4, iv p5, iv v1, iv v2, iv (0 : Int32), iv (2 : Int32), iv v113, iv v114, iv v115, .unset, .unset, .unset] [(.ref b116)])) (st116) ?_
      refine ow_dup (q := 77) X116 hx (hb hby at_76) rfl rfl ?_
      refine ow_iconst (q := 78) X116 hx (2 : Int32) (hb hby at_77) rfl rfl ?_
      obtain ⟨T122, h122, k122, X122, e122, E122, A122, EA122, st122⟩ := newPE X116 hx hZ (ww 4 rfl) e116 (g := (mkF m 78 #[iv p0, iv p1, iv p2, iv p3, iv p4, iv p5, iv v1, iv v2, iv (0 : Int32), iv (2 : Int32), iv v113, iv v114, iv v115, .unset, .unset, .unset] [(.int (2 : Int32)), (.ref b116), (.ref b116)])) rfl (hb hby at_78) rfl (by decide) (cap := 2) (by decide) (by decide) (by decide) (by decide) (ad := "[I") (by decide)
      obtain ⟨b122, g122⟩ : ∃ z, z = h116.size := ⟨_, rfl⟩
      rw [← g122] at A122 st122 EA122
      have ne_b116_b122 : b116 ≠ b122 := Nat.ne_of_lt (Nat.lt_of_lt_of_le A116.lt (Nat.le_of_eq g122.symm))
      have sz_b122 : h0.size ≤ b122 := Nat.le_trans K116.1 (Nat.le_of_eq g122.symm)
      have G_b122 : n0 ≤ b122 := Nat.le_trans Z0 sz_b122
      have K122 : Keep h0 h122 [] := K116.ext E122
      have F123 : Exa Z h122 b116 "com/example/sieveline/sieveline/model/CurrentDomains" := A116.ext E122
      have F124 : Fld Z h122 b116 "com/example/sieveline/sieveline/model/CurrentDomains" "trail" "[I" .null := F117.ext E122
      have F125 : Fld Z h122 b116 "com/example/sieveline/sieveline/model/CurrentDomains" "size" "[I" .null := F118.ext E122
      have F126 : Fld Z h122 b116 "com/example/sieveline/sieveline/model/CurrentDomains" "dense" "[[I" .null := F119.ext E122
      have F127 : Fld Z h122 b116 "com/example/sieveline/sieveline/model/CurrentDomains" "position" "[[I" .null := F120.ext E122
      have F128 : Fld Z h122 b116 "com/example/sieveline/sieveline/model/CurrentDomains" "top" "I" (.int (0 : Int32)) := F121.ext E122
      have F129 : ownAI Z h122 b122 .int 2 (fun _ => (0 : Int32)) := ownAI.new A122 (by decide) rfl (by decide)
      refine ownGo (T' := T122) (f' := (mkF m 80 #[iv p0, iv p1, iv p2, iv p3, iv p4, iv p5, iv v1, iv v2, iv (0 : Int32), iv (2 : Int32), iv v113, iv v114, iv v115, .unset, .unset, .unset] [(.ref b122), (.ref b116), (.ref b116)])) (st122) ?_
      refine ow_dup (q := 81) X122 hx (hb hby at_80) rfl rfl ?_
      refine ow_iconst (q := 82) X122 hx (0 : Int32) (hb hby at_81) rfl rfl ?_
      refine ow_iload (q := 84) X122 hx (hb hby at_82) rfl rfl ?_
      obtain ⟨T130, h130, X130, e130, W130, F130s, st130⟩ := ownIastore F129 X122 hx hZ e122 (j := (0 : Int32)) (by unfold ownIn; decide) (g := (mkF m 84 #[iv p0, iv p1, iv p2, iv p3, iv p4, iv p5, iv v1, iv v2, iv (0 : Int32), iv (2 : Int32), iv v113, iv v114, iv v115, .unset, .unset, .unset] [(.int v1), (.int (0 : Int32)), (.ref b122), (.ref b122), (.ref b116), (.ref b116)])) rfl rfl (hb hby at_84)
      have F130r : ownAI Z h130 b122 .int 2 (ownUpd (fun _ => (0 : Int32)) 0 v1) := F130s
      have N130 := Fr.snoc X130 N0 G_b122
      have K130 : Keep h0 h130 [] := K122.wr W130 (Or.inr sz_b122)
      have F131 : Exa Z h130 b116 "com/example/sieveline/sieveline/model/CurrentDomains" := F123.wr W130
      have F132 : Fld Z h130 b116 "com/example/sieveline/sieveline/model/CurrentDomains" "trail" "[I" .null := F124.other W130 (Or.inl ne_b116_b122)
      have F133 : Fld Z h130 b116 "com/example/sieveline/sieveline/model/CurrentDomains" "size" "[I" .null := F125.other W130 (Or.inl ne_b116_b122)
      have F134 : Fld Z h130 b116 "com/example/sieveline/sieveline/model/CurrentDomains" "dense" "[[I" .null := F126.other W130 (Or.inl ne_b116_b122)
      have F135 : Fld Z h130 b116 "com/example/sieveline/sieveline/model/CurrentDomains" "position" "[[I" .null := F127.other W130 (Or.inl ne_b116_b122)
      have F136 : Fld Z h130 b116 "com/example/sieveline/sieveline/model/CurrentDomains" "top" "I" (.int (0 : Int32)) := F128.other W130 (Or.inl ne_b116_b122)
      have F137 : Exa Z h130 b122 "[I" := EA122.wr W130
      refine ownGo (T' := T130) (f' := (mkF m 85 #[iv p0, iv p1, iv p2, iv p3, iv p4, iv p5, iv v1, iv v2, iv (0 : Int32), iv (2 : Int32), iv v113, iv v114, iv v115, .unset, .unset, .unset] [(.ref b122), (.ref b116), (.ref b116)])) (st130) ?_
      refine ow_dup (q := 86) X130 hx (hb hby at_85) rfl rfl ?_
      refine ow_iconst (q := 87) X130 hx (1 : Int32) (hb hby at_86) rfl rfl ?_
      refine ow_iload (q := 89) X130 hx (hb hby at_87) rfl rfl ?_
      obtain ⟨T138, h138, X138, e138, W138, F138s, st138⟩ := ownIastore F130r X130 hx hZ e130 (j := (1 : Int32)) (by unfold ownIn; decide) (g := (mkF m 89 #[iv p0, iv p1, iv p2, iv p3, iv p4, iv p5, iv v1, iv v2, iv (0 : Int32), iv (2 : Int32), iv v113, iv v114, iv v115, .unset, .unset, .unset] [(.int v2), (.int (1 : Int32)), (.ref b122), (.ref b122), (.ref b116), (.ref b116)])) rfl rfl (hb hby at_89)
      have F138r : ownAI Z h138 b122 .int 2 (ownUpd (ownUpd (fun _ => (0 : Int32)) 0 v1) 1 v2) := F138s
      have N138 := Fr.snoc X138 N130 G_b122
      have K138 : Keep h0 h138 [] := K130.wr W138 (Or.inr sz_b122)
      have F139 : Exa Z h138 b116 "com/example/sieveline/sieveline/model/CurrentDomains" := F131.wr W138
      have F140 : Fld Z h138 b116 "com/example/sieveline/sieveline/model/CurrentDomains" "trail" "[I" .null := F132.other W138 (Or.inl ne_b116_b122)
      have F141 : Fld Z h138 b116 "com/example/sieveline/sieveline/model/CurrentDomains" "size" "[I" .null := F133.other W138 (Or.inl ne_b116_b122)
      have F142 : Fld Z h138 b116 "com/example/sieveline/sieveline/model/CurrentDomains" "dense" "[[I" .null := F134.other W138 (Or.inl ne_b116_b122)
      have F143 : Fld Z h138 b116 "com/example/sieveline/sieveline/model/CurrentDomains" "position" "[[I" .null := F135.other W138 (Or.inl ne_b116_b122)
      have F144 : Fld Z h138 b116 "com/example/sieveline/sieveline/model/CurrentDomains" "top" "I" (.int (0 : Int32)) := F136.other W138 (Or.inl ne_b116_b122)
      have F145 : Exa Z h138 b122 "[I" := F137.wr W138
      refine ownGo (T' := T138) (f' := (mkF m 90 #[iv p0, iv p1, iv p2, iv p3, iv p4, iv p5, iv v1, iv v2, iv (0 : Int32), iv (2 : Int32), iv v113, iv v114, iv v115, .unset, .unset, .unset] [(.ref b122), (.ref b116), (.ref b116)])) (st138) ?_
      obtain ⟨_, _, ⟨T146, L146, k146, n146⟩, -, X146, ⟨Lc146, hQ146, l146, y146, z146⟩, st146⟩ := X138.specialBack hx (y := (⟨"com/example/sieveline/sieveline/model/CurrentDomains", "<init>", "([I)V"⟩ : MethodName)) rfl hown (mvT hZ (ww 5 rfl)) (mvT hZ (ww 6 rfl)) (mvT hZ (ww 7 rfl)) (by decide) (backOf (W := 1) (rm_init l Z av0 hw [] b116 b122 v1 v2 h138 n0 (Nat.le_trans Z0 K138.1) F139 F140 F141 F142 F143 F144 F138r F145 G_b116 (own_h0 hv_v1) (own_h1 hv_v2) ne_b116_b122) hZ (ww 7 rfl) (ww 3 rfl) (by decide) (by decide)) (g := (mkF m 90 #[iv p0, iv p1, iv p2, iv p3, iv p4, iv p5, iv v1, iv v2, iv (0 : Int32), iv (2 : Int32), iv v113, iv v114, iv v115, .unset, .unset, .unset] [(.ref b122), (.ref b116), (.ref b116)])) rfl (by rw [hml]; rfl) (Steps.refl _) (a := b116) (argsL := [(.ref b122)]) (rest := [(.ref b116)]) (lenOf own_pd2 rfl) rfl (by show 2 * 0 + _ ≤ _; exact Nat.le_of_eq rfl) (hb hby at_90) (fun _ _ => ⟨rfl, e138, (by decide : 2 + 8 ≤ _), (by decide : 7 + 90 ≤ _)⟩)
      dsimp only [Pt.U, Pt.locs, Pt.cells, Pt.slots] at X146 l146 y146 z146 st146 hQ146
      subst l146 y146 z146
      obtain ⟨at__146, as__146, ad_146, ap_146, d0_146, q0_146, d1_146, q1_146, kd_146, kp_146, rfl, N146q, Kq146, sq146_at__146, sq146_as__146, sq146_ad_146, sq146_ap_146, sq146_d0_146, sq146_q0_146, sq146_d1_146, sq146_q1_146, FP146_0, FP146_1, FP146_2, FP146_3, FP146_4, FP146_5, FP146_6, FP146_7, FP146_8, FP146_9, FP146_10, FP146_11, FP146_12, FP146_13, hp146⟩ := hQ146
      have N146 := Fr.app N138 N146q
      have K146 : Keep h0 T146.heap [] := K138.trans Kq146 (allS (Or.inr sz_b116) all0)
      have ne_b116_at__146 : b116 ≠ at__146 := Nat.ne_of_lt (Nat.lt_of_lt_of_le F139.lt sq146_at__146)
      have ne_b122_at__146 : b122 ≠ at__146 := Nat.ne_of_lt (Nat.lt_of_lt_of_le F145.lt sq146_at__146)
      have sz_at__146 : h0.size ≤ at__146 := Nat.le_trans K138.1 sq146_at__146
      have G_at__146 : n0 ≤ at__146 := Nat.le_trans Z0 sz_at__146
      have ne_b116_as__146 : b116 ≠ as__146 := Nat.ne_of_lt (Nat.lt_of_lt_of_le F139.lt sq146_as__146)
      have ne_b122_as__146 : b122 ≠ as__146 := Nat.ne_of_lt (Nat.lt_of_lt_of_le F145.lt sq146_as__146)
      have sz_as__146 : h0.size ≤ as__146 := Nat.le_trans K138.1 sq146_as__146
      have G_as__146 : n0 ≤ as__146 := Nat.le_trans Z0 sz_as__146
      have ne_b116_ad_146 : b116 ≠ ad_146 := Nat.ne_of_lt (Nat.lt_of_lt_of_le F139.lt sq146_ad_146)
      have ne_b122_ad_146 : b122 ≠ ad_146 := Nat.ne_of_lt (Nat.lt_of_lt_of_le F145.lt sq146_ad_146)
      have sz_ad_146 : h0.size ≤ ad_146 := Nat.le_trans K138.1 sq146_ad_146
      have G_ad_146 : n0 ≤ ad_146 := Nat.le_trans Z0 sz_ad_146
      have ne_b116_ap_146 : b116 ≠ ap_146 := Nat.ne_of_lt (Nat.lt_of_lt_of_le F139.lt sq146_ap_146)
      have ne_b122_ap_146 : b122 ≠ ap_146 := Nat.ne_of_lt (Nat.lt_of_lt_of_le F145.lt sq146_ap_146)
      have sz_ap_146 : h0.size ≤ ap_146 := Nat.le_trans K138.1 sq146_ap_146
      have G_ap_146 : n0 ≤ ap_146 := Nat.le_trans Z0 sz_ap_146
      have ne_b116_d0_146 : b116 ≠ d0_146 := Nat.ne_of_lt (Nat.lt_of_lt_of_le F139.lt sq146_d0_146)
      have ne_b122_d0_146 : b122 ≠ d0_146 := Nat.ne_of_lt (Nat.lt_of_lt_of_le F145.lt sq146_d0_146)
      have sz_d0_146 : h0.size ≤ d0_146 := Nat.le_trans K138.1 sq146_d0_146
      have G_d0_146 : n0 ≤ d0_146 := Nat.le_trans Z0 sz_d0_146
      have ne_b116_q0_146 : b116 ≠ q0_146 := Nat.ne_of_lt (Nat.lt_of_lt_of_le F139.lt sq146_q0_146)
      have ne_b122_q0_146 : b122 ≠ q0_146 := Nat.ne_of_lt (Nat.lt_of_lt_of_le F145.lt sq146_q0_146)
      have sz_q0_146 : h0.size ≤ q0_146 := Nat.le_trans K138.1 sq146_q0_146
      have G_q0_146 : n0 ≤ q0_146 := Nat.le_trans Z0 sz_q0_146
      have ne_b116_d1_146 : b116 ≠ d1_146 := Nat.ne_of_lt (Nat.lt_of_lt_of_le F139.lt sq146_d1_146)
      have ne_b122_d1_146 : b122 ≠ d1_146 := Nat.ne_of_lt (Nat.lt_of_lt_of_le F145.lt sq146_d1_146)
      have sz_d1_146 : h0.size ≤ d1_146 := Nat.le_trans K138.1 sq146_d1_146
      have G_d1_146 : n0 ≤ d1_146 := Nat.le_trans Z0 sz_d1_146
      have ne_b116_q1_146 : b116 ≠ q1_146 := Nat.ne_of_lt (Nat.lt_of_lt_of_le F139.lt sq146_q1_146)
      have ne_b122_q1_146 : b122 ≠ q1_146 := Nat.ne_of_lt (Nat.lt_of_lt_of_le F145.lt sq146_q1_146)
      have sz_q1_146 : h0.size ≤ q1_146 := Nat.le_trans K138.1 sq146_q1_146
      have G_q1_146 : n0 ≤ q1_146 := Nat.le_trans Z0 sz_q1_146
      have F147 : Exa Z T146.heap b116 "com/example/sieveline/sieveline/model/CurrentDomains" := F139.keep Kq146
      have F148 : Exa Z T146.heap b122 "[I" := F145.keep Kq146
      have F149 : ownAI Z T146.heap b122 .int 2 (ownUpd (ownUpd (fun _ => (0 : Int32)) 0 v1) 1 v2) := F138r.keep Kq146 (ninS (Ne.symm ne_b116_b122) nin0)
      refine ownRun (T' := T146) (f' := (mkF m 93 #[iv p0, iv p1, iv p2, iv p3, iv p4, iv p5, iv v1, iv v2, iv (0 : Int32), iv (2 : Int32), iv v113, iv v114, iv v115, .unset, .unset, .unset] [(.ref b116)])) st146 ?_
      refine ow_astore (q := 95) X146 hx (L' := #[iv p0, iv p1, iv p2, iv p3, iv p4, iv p5, iv v1, iv v2, iv (0 : Int32), iv (2 : Int32), iv v113, iv v114, iv v115, rv b116, .unset, .unset]) (hb hby at_93) rfl rfl rfl ?_
      refine ow_iload (q := 97) X146 hx (hb hby at_95) rfl rfl ?_
      refine ow_ifYes (q := 108) X146 hx (hb hby at_97) (Jvm.Free.XT.i0_eq_t (by decide)) (by decide) (by decide) ?_
      refine ow_iload (q := 110) X146 hx (hb hby at_108) rfl rfl ?_
      refine ow_ifYes (q := 120) X146 hx (hb hby at_110) (Jvm.Free.XT.i0_eq_t (by decide)) (by decide) (by decide) ?_
      refine ow_iload (q := 122) X146 hx (hb hby at_120) rfl rfl ?_
      refine ow_istore (q := 124) X146 hx (L' := #[iv p0, iv p1, iv p2, iv p3, iv p4, iv p5, iv v1, iv v2, iv (0 : Int32), iv (2 : Int32), iv v113, iv v114, iv v115, rv b116, iv v1, .unset]) (hb hby at_122) rfl rfl ?_
      refine ow_aload (q := 126) X146 hx (hb hby at_124) rfl rfl rfl ?_
      obtain ⟨cq150, kq150, q150a, q150b, q150c⟩ := isOf hZ rfl FP146_0
      obtain ⟨_, _, ⟨T150, L150, k150, n150⟩, -, X150, ⟨Lc150, hQ150, l150, y150, z150⟩, st150⟩ := X146.virtualBack hx (y := (⟨"com/example/sieveline/sieveline/model/CurrentDomains", "mark", "()I"⟩ : MethodName)) (z := (⟨"com/example/sieveline/sieveline/model/CurrentDomains", "mark", "()I"⟩ : MethodName)) hown (mvT hZ (ww 29 rfl)) (mvT hZ (ww 30 rfl)) (notFace_of_selects (args := #[]) (mvT hZ (ww 32 rfl))) (mvT hZ (ww 32 rfl)) (mvT hZ (ww 31 rfl)) (by decide) (backOf (W := 0) (rm_mark l Z av0 hw [] b116 (0 : Int32) T146.heap n0 (Nat.le_trans Z0 K146.1) FP146_5) hZ (ww 33 rfl) (ww 3 rfl) (by decide) (by decide)) q150a q150c (g := (mkF m 126 #[iv p0, iv p1, iv p2, iv p3, iv p4, iv p5, iv v1, iv v2, iv (0 : Int32), iv (2 : Int32), iv v113, iv v114, iv v115, rv b116, iv v1, .unset] [(.ref b116)])) rfl (by rw [hml]; rfl) (Steps.refl _) (argsL := []) (rest := []) (lenOf own_pd3 rfl) rfl (by show 2 * 0 + _ ≤ _; exact Nat.le_of_eq rfl) (hb hby at_126) (fun _ _ => ⟨rfl, rfl, (by decide : 10 + 0 ≤ _), (by decide : 97 + 0 ≤ _)⟩)
      dsimp only [Pt.U, Pt.locs, Pt.cells, Pt.slots] at X150 l150 y150 z150 st150 hQ150
      subst l150 y150 z150
      obtain ⟨rfl, N150q, e150⟩ := hQ150
      have N150 := Fr.app N146 N150q
      refine ownRun (T' := T150) (f' := (mkF m 129 #[iv p0, iv p1, iv p2, iv p3, iv p4, iv p5, iv v1, iv v2, iv (0 : Int32), iv (2 : Int32), iv v113, iv v114, iv v115, rv b116, iv v1, .unset] [(.int (0 : Int32))])) st150 ?_
      refine ow_istore (q := 131) X150 hx (L' := #[iv p0, iv p1, iv p2, iv p3, iv p4, iv p5, iv v1, iv v2, iv (0 : Int32), iv (2 : Int32), iv v113, iv v114, iv v115, rv b116, iv v1, iv (0 : Int32)]) (hb hby at_129) rfl rfl ?_
      refine ow_iload (q := 133) X150 hx (hb hby at_131) rfl rfl ?_
      refine ow_iconst (q := 134) X150 hx (1 : Int32) (hb hby at_133) rfl rfl ?_
      refine ow_icmpNo (q := 137) X150 hx (hb hby at_134) rfl (Jvm.Free.XT.ii_lt_f (by decide)) ?_
      refine ow_aload (q := 139) X150 hx (hb hby at_137) rfl rfl rfl ?_
      refine ow_iconst (q := 140) X150 hx (0 : Int32) (hb hby at_139) rfl rfl ?_
      refine ow_iload (q := 142) X150 hx (hb hby at_140) rfl rfl ?_
      obtain ⟨cq151, kq151, q151a, q151b, q151c⟩ := isOf hZ e150 FP146_0
      obtain ⟨_, _, ⟨T151, L151, k151, n151⟩, -, X151, ⟨Lc151, hQ151, l151, y151, z151⟩, st151⟩ := X150.virtualBack hx (y := (⟨"com/example/sieveline/sieveline/model/CurrentDomains", "remove", "(II)V"⟩ : MethodName)) (z := (⟨"com/example/sieveline/sieveline/model/CurrentDomains", "remove", "(II)V"⟩ : MethodName)) hown (mvT hZ (ww 36 rfl)) (mvT hZ (ww 37 rfl)) (notFace_of_selects (args := #[]) (mvT hZ (ww 39 rfl))) (mvT hZ (ww 39 rfl)) (mvT hZ (ww 38 rfl)) (by decide) (backOf (W := 0) (rm_remove_0_0 l Z av0 hw [] b116 v114 at__146 as__146 ad_146 ap_146 d0_146 q0_146 d1_146 q1_146 kd_146 kp_146 (v1.toNatClampNeg) own_id own_id (fun _ => (0 : Int32)) (ownUpd (ownUpd (fun _ => (0 : Int32)) 0 v1) 1 v2) T146.heap n0 (Nat.le_trans Z0 K146.1) FP146_0 FP146_1 FP146_2 FP146_3 FP146_4 FP146_5 FP146_6 FP146_7 FP146_8 FP146_9 FP146_10 FP146_11 G_b116 G_at__146 G_as__146 G_d0_146 G_q0_146 (ne_b116_at__146) (ne_b116_as__146) (ne_b116_ad_146) (ne_b116_ap_146) (ne_b116_d0_146) (ne_b116_q0_146) (hp146.1) (hp146.2.1) (hp146.2.2.1) (hp146.2.2.2.1) (hp146.2.2.2.2.1) (hp146.2.2.2.2.2.2.2.1) (hp146.2.2.2.2.2.2.2.2.1) (hp146.2.2.2.2.2.2.2.2.2.1) (hp146.2.2.2.2.2.2.2.2.2.2.1) (hp146.2.2.2.2.2.2.2.2.2.2.2.2.2.1) (hp146.2.2.2.2.2.2.2.2.2.2.2.2.2.2.1) (hp146.2.2.2.2.2.2.2.2.2.2.2.2.2.2.2.1) (hp146.2.2.2.2.2.2.2.2.2.2.2.2.2.2.2.2.2.2.1) (hp146.2.2.2.2.2.2.2.2.2.2.2.2.2.2.2.2.2.2.2.1) (hp146.2.2.2.2.2.2.2.2.2.2.2.2.2.2.2.2.2.2.2.2.2.2.1) (own_w hv_v1 hv_v113 hv_v114).1 own_rg_id own_rg_id (own_s0 hv_v1)) hZ (ww 40 rfl) (ww 3 rfl) (by decide) (by decide)) q151a q151c (g := (mkF m 142 #[iv p0, iv p1, iv p2, iv p3, iv p4, iv p5, iv v1, iv v2, iv (0 : Int32), iv (2 : Int32), iv v113, iv v114, iv v115, rv b116, iv v1, iv (0 : Int32)] [(.int v114), (.int (0 : Int32)), (.ref b116)])) rfl (by rw [hml]; rfl) (Steps.refl _) (argsL := [(.int (0 : Int32)), (.int v114)]) (rest := []) (lenOf own_pd6 rfl) rfl (by show 2 * 0 + _ ≤ _; exact Nat.le_of_eq rfl) (hb hby at_142) (fun _ _ => ⟨rfl, e150, (by decide : 10 + 0 ≤ _), (by decide : 97 + 0 ≤ _)⟩)
      dsimp only [Pt.U, Pt.locs, Pt.cells, Pt.slots] at X151 l151 y151 z151 st151 hQ151
      subst l151 y151 z151
      obtain ⟨rfl, N151q, Kq151, FP151_0, FP151_1, FP151_2, FP151_3, FP151_4, FP151_5, FP151_6, FP151_7, FP151_8, FP151_9⟩ := hQ151
      have N151 := Fr.app N150 N151q
      have K151 : Keep h0 T151.heap [] := K146.trans Kq151 (allS (Or.inr sz_b116) (allS (Or.inr sz_at__146) (allS (Or.inr sz_as__146) (allS (Or.inr sz_d0_146) (allS (Or.inr sz_q0_146) all0)))))
      have F152 : Exa Z T151.heap b116 "com/example/sieveline/sieveline/model/CurrentDomains" := FP146_0.keep Kq151
      have F153 : Exa Z T151.heap b122 "[I" := F148.keep Kq151
      have F154 : ownAI Z T151.heap b122 .int 2 (ownUpd (ownUpd (fun _ => (0 : Int32)) 0 v1) 1 v2) := F149.keep Kq151 (ninS (Ne.symm ne_b116_b122) (ninS ne_b122_at__146 (ninS ne_b122_as__146 (ninS ne_b122_d0_146 (ninS ne_b122_q0_146 nin0)))))
      have F155 : ownAR Z T151.heap ad_146 kd_146 2 (ownUpd (ownUpd (fun _ => Value.null) 0 (.ref d0_146)) 1 (.ref d1_146)) := FP146_8.keep Kq151 (ninS (Ne.symm ne_b116_ad_146) (ninS (Ne.symm hp146.2.1) (ninS (Ne.symm hp146.2.2.2.2.2.2.2.1) (ninS hp146.2.2.2.2.2.2.2.2.2.2.2.2.2.2.1 (ninS hp146.2.2.2.2.2.2.2.2.2.2.2.2.2.2.2.1 nin0)))))
      have F156 : ownAR Z T151.heap ap_146 kp_146 2 (ownUpd (ownUpd (fun _ => Value.null) 0 (.ref q0_146)) 1 (.ref q1_146)) := FP146_9.keep Kq151 (ninS (Ne.symm ne_b116_ap_146) (ninS (Ne.symm hp146.2.2.1) (ninS (Ne.symm hp146.2.2.2.2.2.2.2.2.1) (ninS hp146.2.2.2.2.2.2.2.2.2.2.2.2.2.2.2.2.2.2.1 (ninS hp146.2.2.2.2.2.2.2.2.2.2.2.2.2.2.2.2.2.2.2.1 nin0)))))
      have F157 : ownAI Z T151.heap d1_146 .int (v2.toNatClampNeg) own_id := FP146_12.keep Kq151 (ninS (Ne.symm ne_b116_d1_146) (ninS (Ne.symm hp146.2.2.2.2.2.1) (ninS (Ne.symm hp146.2.2.2.2.2.2.2.2.2.2.2.1) (ninS (Ne.symm hp146.2.2.2.2.2.2.2.2.2.2.2.2.2.2.2.2.2.2.2.2.2.2.2.1) (ninS (Ne.symm hp146.2.2.2.2.2.2.2.2.2.2.2.2.2.2.2.2.2.2.2.2.2.2.2.2.2.1) nin0)))))
      have F158 : ownAI Z T151.heap q1_146 .int (v2.toNatClampNeg) own_id := FP146_13.keep Kq151 (ninS (Ne.symm ne_b116_q1_146) (ninS (Ne.symm hp146.2.2.2.2.2.2.1) (ninS (Ne.symm hp146.2.2.2.2.2.2.2.2.2.2.2.2.1) (ninS (Ne.symm hp146.2.2.2.2.2.2.2.2.2.2.2.2.2.2.2.2.2.2.2.2.2.2.2.2.1) (ninS (Ne.symm hp146.2.2.2.2.2.2.2.2.2.2.2.2.2.2.2.2.2.2.2.2.2.2.2.2.2.2.1) nin0)))))
      refine ownRun (T' := T151) (f' := (mkF m 145 #[iv p0, iv p1, iv p2, iv p3, iv p4, iv p5, iv v1, iv v2, iv (0 : Int32), iv (2 : Int32), iv v113, iv v114, iv v115, rv b116, iv v1, iv (0 : Int32)] [])) st151 ?_
      refine ow_iload (q := 147) X151 hx (hb hby at_145) rfl rfl ?_
      refine ow_iconst (q := 148) X151 hx (2 : Int32) (hb hby at_147) rfl rfl ?_
      refine ow_icmpNo (q := 151) X151 hx (hb hby at_148) rfl (Jvm.Free.XT.ii_lt_f (by decide)) ?_
      refine ow_aload (q := 153) X151 hx (hb hby at_151) rfl rfl rfl ?_
      refine ow_iconst (q := 154) X151 hx (1 : Int32) (hb hby at_153) rfl rfl ?_
      refine ow_iload (q := 156) X151 hx (hb hby at_154) rfl rfl ?_
      obtain ⟨cq159, kq159, q159a, q159b, q159c⟩ := isOf hZ rfl FP151_0
      obtain ⟨_, _, ⟨T159, L159, k159, n159⟩, -, X159, ⟨Lc159, hQ159, l159, y159, z159⟩, st159⟩ := X151.virtualBack hx (y := (⟨"com/example/sieveline/sieveline/model/CurrentDomains", "reduceTo", "(II)V"⟩ : MethodName)) (z := (⟨"com/example/sieveline/sieveline/model/CurrentDomains", "reduceTo", "(II)V"⟩ : MethodName)) hown (mvT hZ (ww 64 rfl)) (mvT hZ (ww 65 rfl)) (notFace_of_selects (args := #[]) (mvT hZ (ww 67 rfl))) (mvT hZ (ww 67 rfl)) (mvT hZ (ww 66 rfl)) (by decide) (backOf (W := 0) (rm_reduceTo_2 l Z av0 hw [] b116 v115 at__146 as__146 ad_146 ap_146 d0_146 q0_146 d1_146 q1_146 kd_146 kp_146 (v2.toNatClampNeg) own_id own_id (ownUpd (ownUpd (fun _ => (0 : Int32)) 0 (0 : Int32)) 1 v1) (ownUpd (ownUpd (ownUpd (fun _ => (0 : Int32)) 0 v1) 1 v2) 0 (v1 - (1 : Int32))) T151.heap n0 (Nat.le_trans Z0 K151.1) FP151_0 FP151_1 FP151_2 FP151_3 FP151_4 FP151_5 FP151_6 FP151_7 F155 F156 F157 F158 G_b116 G_at__146 G_as__146 G_d1_146 G_q1_146 (ne_b116_at__146) (ne_b116_as__146) (ne_b116_ad_146) (ne_b116_ap_146) (ne_b116_d1_146) (ne_b116_q1_146) (hp146.1) (hp146.2.1) (hp146.2.2.1) (hp146.2.2.2.2.2.1) (hp146.2.2.2.2.2.2.1) (hp146.2.2.2.2.2.2.2.1) (hp146.2.2.2.2.2.2.2.2.1) (hp146.2.2.2.2.2.2.2.2.2.2.2.1) (hp146.2.2.2.2.2.2.2.2.2.2.2.2.1) (hp146.2.2.2.2.2.2.2.2.2.2.2.2.2.1) (hp146.2.2.2.2.2.2.2.2.2.2.2.2.2.2.2.2.1) (hp146.2.2.2.2.2.2.2.2.2.2.2.2.2.2.2.2.2.1) (hp146.2.2.2.2.2.2.2.2.2.2.2.2.2.2.2.2.2.2.2.2.1) (hp146.2.2.2.2.2.2.2.2.2.2.2.2.2.2.2.2.2.2.2.2.2.1) (hp146.2.2.2.2.2.2.2.2.2.2.2.2.2.2.2.2.2.2.2.2.2.2.2.2.2.2.2) (own_v1 hv_v2 hv_v115) own_rg_id own_rg_id (own_s1 hv_v2)) hZ (ww 68 rfl) (ww 3 rfl) (by decide) (by decide)) q159a q159c (g := (mkF m 156 #[iv p0, iv p1, iv p2, iv p3, iv p4, iv p5, iv v1, iv v2, iv (0 : Int32), iv (2 : Int32), iv v113, iv v114, iv v115, rv b116, iv v1, iv (0 : Int32)] [(.int v115), (.int (1 : Int32)), (.ref b116)])) rfl (by rw [hml]; rfl) (Steps.refl _) (argsL := [(.int (1 : Int32)), (.int v115)]) (rest := []) (lenOf own_pd6 rfl) rfl (by show 2 * 0 + _ ≤ _; exact Nat.le_of_eq rfl) (hb hby at_156) (fun _ _ => ⟨rfl, rfl, (by decide : 10 + 0 ≤ _), (by decide : 97 + 0 ≤ _)⟩)
      dsimp only [Pt.U, Pt.locs, Pt.cells, Pt.slots] at X159 l159 y159 z159 st159 hQ159
      subst l159 y159 z159
      obtain ⟨rfl, N159q, Kq159, FP159_0, FP159_1, FP159_2, FP159_3, FP159_4, FP159_5, FP159_6, FP159_7, FP159_8, FP159_9⟩ := hQ159
      have N159 := Fr.app N151 N159q
      have K159 : Keep h0 T159.heap [] := K151.trans Kq159 (allS (Or.inr sz_b116) (allS (Or.inr sz_at__146) (allS (Or.inr sz_as__146) (allS (Or.inr sz_d1_146) (allS (Or.inr sz_q1_146) all0)))))
      have F160 : Exa Z T159.heap b116 "com/example/sieveline/sieveline/model/CurrentDomains" := FP151_0.keep Kq159
      have F161 : Exa Z T159.heap b122 "[I" := F153.keep Kq159
      have F162 : ownAI Z T159.heap b122 .int 2 (ownUpd (ownUpd (fun _ => (0 : Int32)) 0 v1) 1 v2) := F154.keep Kq159 (ninS (Ne.symm ne_b116_b122) (ninS ne_b122_at__146 (ninS ne_b122_as__146 (ninS ne_b122_d1_146 (ninS ne_b122_q1_146 nin0)))))
      have F163 : ownAR Z T159.heap ad_146 kd_146 2 (ownUpd (ownUpd (fun _ => Value.null) 0 (.ref d0_146)) 1 (.ref d1_146)) := F155.keep Kq159 (ninS (Ne.symm ne_b116_ad_146) (ninS (Ne.symm hp146.2.1) (ninS (Ne.symm hp146.2.2.2.2.2.2.2.1) (ninS hp146.2.2.2.2.2.2.2.2.2.2.2.2.2.2.2.2.1 (ninS hp146.2.2.2.2.2.2.2.2.2.2.2.2.2.2.2.2.2.1 nin0)))))
      have F164 : ownAR Z T159.heap ap_146 kp_146 2 (ownUpd (ownUpd (fun _ => Value.null) 0 (.ref q0_146)) 1 (.ref q1_146)) := F156.keep Kq159 (ninS (Ne.symm ne_b116_ap_146) (ninS (Ne.symm hp146.2.2.1) (ninS (Ne.symm hp146.2.2.2.2.2.2.2.2.1) (ninS hp146.2.2.2.2.2.2.2.2.2.2.2.2.2.2.2.2.2.2.2.2.1 (ninS hp146.2.2.2.2.2.2.2.2.2.2.2.2.2.2.2.2.2.2.2.2.2.1 nin0)))))
      have F165 : ownAI Z T159.heap d0_146 .int (v1.toNatClampNeg) (own_swD own_id (own_id v114.toNatClampNeg) (v1 - (1 : Int32))) := FP151_8.keep Kq159 (ninS (Ne.symm ne_b116_d0_146) (ninS (Ne.symm hp146.2.2.2.1) (ninS (Ne.symm hp146.2.2.2.2.2.2.2.2.2.1) (ninS hp146.2.2.2.2.2.2.2.2.2.2.2.2.2.2.2.2.2.2.2.2.2.2.2.1 (ninS hp146.2.2.2.2.2.2.2.2.2.2.2.2.2.2.2.2.2.2.2.2.2.2.2.2.1 nin0)))))
      have F166 : ownAI Z T159.heap q0_146 .int (v1.toNatClampNeg) (own_swQ own_id own_id (own_id v114.toNatClampNeg) (v1 - (1 : Int32))) := FP151_9.keep Kq159 (ninS (Ne.symm ne_b116_q0_146) (ninS (Ne.symm hp146.2.2.2.2.1) (ninS (Ne.symm hp146.2.2.2.2.2.2.2.2.2.2.1) (ninS hp146.2.2.2.2.2.2.2.2.2.2.2.2.2.2.2.2.2.2.2.2.2.2.2.2.2.1 (ninS hp146.2.2.2.2.2.2.2.2.2.2.2.2.2.2.2.2.2.2.2.2.2.2.2.2.2.2.1 nin0)))))
      refine ownRun (T' := T159) (f' := (mkF m 159 #[iv p0, iv p1, iv p2, iv p3, iv p4, iv p5, iv v1, iv v2, iv (0 : Int32), iv (2 : Int32), iv v113, iv v114, iv v115, rv b116, iv v1, iv (0 : Int32)] [])) st159 ?_
      refine ow_iload (q := 161) X159 hx (hb hby at_159) rfl rfl ?_
      refine ow_iconst (q := 162) X159 hx (3 : Int32) (hb hby at_161) rfl rfl ?_
      refine ow_icmpYes (q := 173) X159 hx (hb hby at_162) (Jvm.Free.XT.ii_lt_t (by decide)) (by decide) (by decide) ?_
      refine ow_aload (q := 175) X159 hx (hb hby at_173) rfl rfl rfl ?_
      refine ow_iload (q := 177) X159 hx (hb hby at_175) rfl rfl ?_
      obtain ⟨cq167, kq167, q167a, q167b, q167c⟩ := isOf hZ rfl FP159_0
      obtain ⟨_, _, ⟨T167, L167, k167, n167⟩, -, X167, ⟨Lc167, hQ167, l167, y167, z167⟩, st167⟩ := X159.virtualBack hx (y := (⟨"com/example/sieveline/sieveline/model/CurrentDomains", "undo", "(I)V"⟩ : MethodName)) (z := (⟨"com/example/sieveline/sieveline/model/CurrentDomains", "undo", "(I)V"⟩ : MethodName)) hown (mvT hZ (ww 49 rfl)) (mvT hZ (ww 50 rfl)) (notFace_of_selects (args := #[]) (mvT hZ (ww 52 rfl))) (mvT hZ (ww 52 rfl)) (mvT hZ (ww 51 rfl)) (by decide) (backOf (W := 0) (rm_undo_0_2 l Z av0 hw [] b116 at__146 as__146 ad_146 ap_146 (ownUpd (ownUpd (ownUpd (ownUpd (fun _ => (0 : Int32)) 0 (0 : Int32)) 1 v1) 2 (1 : Int32)) 3 v2) (ownUpd (ownUpd (ownUpd (ownUpd (fun _ => (0 : Int32)) 0 v1) 1 v2) 0 (v1 - (1 : Int32))) 1 (1 : Int32)) T159.heap n0 (Nat.le_trans Z0 K159.1) FP159_0 FP159_1 FP159_2 FP159_3 FP159_4 FP159_5 FP159_6 FP159_7 G_b116 G_as__146 (ne_b116_at__146) (ne_b116_as__146) (hp146.1) rfl rfl) hZ (ww 53 rfl) (ww 3 rfl) (by decide) (by decide)) q167a q167c (g := (mkF m 177 #[iv p0, iv p1, iv p2, iv p3, iv p4, iv p5, iv v1, iv v2, iv (0 : Int32), iv (2 : Int32), iv v113, iv v114, iv v115, rv b116, iv v1, iv (0 : Int32)] [(.int (0 : Int32)), (.ref b116)])) rfl (by rw [hml]; rfl) (Steps.refl _) (argsL := [(.int (0 : Int32))]) (rest := []) (lenOf own_pd0 rfl) rfl (by show 2 * 0 + _ ≤ _; exact Nat.le_of_eq rfl) (hb hby at_177) (fun _ _ => ⟨rfl, rfl, (by decide : 10 + 0 ≤ _), (by decide : 97 + 0 ≤ _)⟩)
      dsimp only [Pt.U, Pt.locs, Pt.cells, Pt.slots] at X167 l167 y167 z167 st167 hQ167
      subst l167 y167 z167
      obtain ⟨rfl, N167q, Kq167, FP167_0, FP167_1, FP167_2, FP167_3, FP167_4, FP167_5, FP167_6⟩ := hQ167
      have N167 := Fr.app N159 N167q
      have K167 : Keep h0 T167.heap [] := K159.trans Kq167 (allS (Or.inr sz_b116) (allS (Or.inr sz_as__146) all0))
      have F168 : Exa Z T167.heap b116 "com/example/sieveline/sieveline/model/CurrentDomains" := FP159_0.keep Kq167
      have F169 : Exa Z T167.heap b122 "[I" := F161.keep Kq167
      have F170 : ownAI Z T167.heap b122 .int 2 (ownUpd (ownUpd (fun _ => (0 : Int32)) 0 v1) 1 v2) := F162.keep Kq167 (ninS (Ne.symm ne_b116_b122) (ninS ne_b122_as__146 nin0))
      have F171 : ownAR Z T167.heap ad_146 kd_146 2 (ownUpd (ownUpd (fun _ => Value.null) 0 (.ref d0_146)) 1 (.ref d1_146)) := F163.keep Kq167 (ninS (Ne.symm ne_b116_ad_146) (ninS (Ne.symm hp146.2.2.2.2.2.2.2.1) nin0))
      have F172 : ownAR Z T167.heap ap_146 kp_146 2 (ownUpd (ownUpd (fun _ => Value.null) 0 (.ref q0_146)) 1 (.ref q1_146)) := F164.keep Kq167 (ninS (Ne.symm ne_b116_ap_146) (ninS (Ne.symm hp146.2.2.2.2.2.2.2.2.1) nin0))
      have F173 : ownAI Z T167.heap d0_146 .int (v1.toNatClampNeg) (own_swD own_id (own_id v114.toNatClampNeg) (v1 - (1 : Int32))) := F165.keep Kq167 (ninS (Ne.symm ne_b116_d0_146) (ninS (Ne.symm hp146.2.2.2.2.2.2.2.2.2.1) nin0))
      have F174 : ownAI Z T167.heap q0_146 .int (v1.toNatClampNeg) (own_swQ own_id own_id (own_id v114.toNatClampNeg) (v1 - (1 : Int32))) := F166.keep Kq167 (ninS (Ne.symm ne_b116_q0_146) (ninS (Ne.symm hp146.2.2.2.2.2.2.2.2.2.2.1) nin0))
      have F175 : ownAI Z T167.heap at__146 .int 64 (ownUpd (ownUpd (ownUpd (ownUpd (fun _ => (0 : Int32)) 0 (0 : Int32)) 1 v1) 2 (1 : Int32)) 3 v2) := FP159_6.keep Kq167 (ninS (Ne.symm ne_b116_at__146) (ninS hp146.1 nin0))
      have F176 : ownAI Z T167.heap d1_146 .int (v2.toNatClampNeg) (own_swD own_id (own_id v115.toNatClampNeg) (0 : Int32)) := FP159_8.keep Kq167 (ninS (Ne.symm ne_b116_d1_146) (ninS (Ne.symm hp146.2.2.2.2.2.2.2.2.2.2.2.1) nin0))
      have F177 : ownAI Z T167.heap q1_146 .int (v2.toNatClampNeg) (own_swQ own_id own_id (own_id v115.toNatClampNeg) (0 : Int32)) := FP159_9.keep Kq167 (ninS (Ne.symm ne_b116_q1_146) (ninS (Ne.symm hp146.2.2.2.2.2.2.2.2.2.2.2.2.1) nin0))
      refine ownRun (T' := T167) (f' := (mkF m 180 #[iv p0, iv p1, iv p2, iv p3, iv p4, iv p5, iv v1, iv v2, iv (0 : Int32), iv (2 : Int32), iv v113, iv v114, iv v115, rv b116, iv v1, iv (0 : Int32)] [])) st167 ?_
      refine ow_aload (q := 182) X167 hx (hb hby at_180) rfl rfl rfl ?_
      refine ow_iconst (q := 183) X167 hx (0 : Int32) (hb hby at_182) rfl rfl ?_
      obtain ⟨cq178, kq178, q178a, q178b, q178c⟩ := isOf hZ rfl FP167_0
      obtain ⟨_, _, ⟨T178, L178, k178, n178⟩, -, X178, ⟨Lc178, hQ178, l178, y178, z178⟩, st178⟩ := X167.virtualBack hx (y := (⟨"com/example/sieveline/sieveline/model/CurrentDomains", "size", "(I)I"⟩ : MethodName)) (z := (⟨"com/example/sieveline/sieveline/model/CurrentDomains", "size", "(I)I"⟩ : MethodName)) hown (mvT hZ (ww 54 rfl)) (mvT hZ (ww 55 rfl)) (notFace_of_selects (args := #[]) (mvT hZ (ww 57 rfl))) (mvT hZ (ww 57 rfl)) (mvT hZ (ww 56 rfl)) (by decide) (backOf (W := 0) (rm_size_0 l Z av0 hw [] b116 as__146 (ownUpd (ownUpd (ownUpd (ownUpd (ownUpd (ownUpd (fun _ => (0 : Int32)) 0 v1) 1 v2) 0 (v1 - (1 : Int32))) 1 (1 : Int32)) 1 v2) 0 v1) T167.heap n0 (Nat.le_trans Z0 K167.1) FP167_2 FP167_6) hZ (ww 58 rfl) (ww 3 rfl) (by decide) (by decide)) q178a q178c (g := (mkF m 183 #[iv p0, iv p1, iv p2, iv p3, iv p4, iv p5, iv v1, iv v2, iv (0 : Int32), iv (2 : Int32), iv v113, iv v114, iv v115, rv b116, iv v1, iv (0 : Int32)] [(.int (0 : Int32)), (.ref b116)])) rfl (by rw [hml]; rfl) (Steps.refl _) (argsL := [(.int (0 : Int32))]) (rest := []) (lenOf own_pd4 rfl) rfl (by show 2 * 0 + _ ≤ _; exact Nat.le_of_eq rfl) (hb hby at_183) (fun _ _ => ⟨rfl, rfl, (by decide : 10 + 0 ≤ _), (by decide : 97 + 0 ≤ _)⟩)
      dsimp only [Pt.U, Pt.locs, Pt.cells, Pt.slots] at X178 l178 y178 z178 st178 hQ178
      subst l178 y178 z178
      obtain ⟨rfl, N178q, e178⟩ := hQ178
      have N178 := Fr.app N167 N178q
      refine ownRun (T' := T178) (f' := (mkF m 186 #[iv p0, iv p1, iv p2, iv p3, iv p4, iv p5, iv v1, iv v2, iv (0 : Int32), iv (2 : Int32), iv v113, iv v114, iv v115, rv b116, iv v1, iv (0 : Int32)] [(.int v1)])) st178 ?_
      refine ow_iload (q := 188) X178 hx (hb hby at_186) rfl rfl ?_
      refine ow_icmpNo (q := 191) X178 hx (hb hby at_188) rfl (Jvm.Free.XT.ii_ne_f rfl) ?_
      refine ow_aload (q := 193) X178 hx (hb hby at_191) rfl rfl rfl ?_
      refine ow_iconst (q := 194) X178 hx (1 : Int32) (hb hby at_193) rfl rfl ?_
      obtain ⟨cq179, kq179, q179a, q179b, q179c⟩ := isOf hZ e178 FP167_0
      obtain ⟨_, _, ⟨T179, L179, k179, n179⟩, -, X179, ⟨Lc179, hQ179, l179, y179, z179⟩, st179⟩ := X178.virtualBack hx (y := (⟨"com/example/sieveline/sieveline/model/CurrentDomains", "size", "(I)I"⟩ : MethodName)) (z := (⟨"com/example/sieveline/sieveline/model/CurrentDomains", "size", "(I)I"⟩ : MethodName)) hown (mvT hZ (ww 54 rfl)) (mvT hZ (ww 55 rfl)) (notFace_of_selects (args := #[]) (mvT hZ (ww 57 rfl))) (mvT hZ (ww 57 rfl)) (mvT hZ (ww 56 rfl)) (by decide) (backOf (W := 0) (rm_size_1 l Z av0 hw [] b116 as__146 (ownUpd (ownUpd (ownUpd (ownUpd (ownUpd (ownUpd (fun _ => (0 : Int32)) 0 v1) 1 v2) 0 (v1 - (1 : Int32))) 1 (1 : Int32)) 1 v2) 0 v1) T167.heap n0 (Nat.le_trans Z0 K167.1) FP167_2 FP167_6) hZ (ww 58 rfl) (ww 3 rfl) (by decide) (by decide)) q179a q179c (g := (mkF m 194 #[iv p0, iv p1, iv p2, iv p3, iv p4, iv p5, iv v1, iv v2, iv (0 : Int32), iv (2 : Int32), iv v113, iv v114, iv v115, rv b116, iv v1, iv (0 : Int32)] [(.int (1 : Int32)), (.ref b116)])) rfl (by rw [hml]; rfl) (Steps.refl _) (argsL := [(.int (1 : Int32))]) (rest := []) (lenOf own_pd4 rfl) rfl (by show 2 * 0 + _ ≤ _; exact Nat.le_of_eq rfl) (hb hby at_194) (fun _ _ => ⟨rfl, e178, (by decide : 10 + 0 ≤ _), (by decide : 97 + 0 ≤ _)⟩)
      dsimp only [Pt.U, Pt.locs, Pt.cells, Pt.slots] at X179 l179 y179 z179 st179 hQ179
      subst l179 y179 z179
      obtain ⟨rfl, N179q, e179⟩ := hQ179
      have N179 := Fr.app N178 N179q
      refine ownRun (T' := T179) (f' := (mkF m 197 #[iv p0, iv p1, iv p2, iv p3, iv p4, iv p5, iv v1, iv v2, iv (0 : Int32), iv (2 : Int32), iv v113, iv v114, iv v115, rv b116, iv v1, iv (0 : Int32)] [(.int v2)])) st179 ?_
      refine ow_iload (q := 199) X179 hx (hb hby at_197) rfl rfl ?_
      refine ow_icmpNo (q := 202) X179 hx (hb hby at_199) rfl (Jvm.Free.XT.ii_ne_f rfl) ?_
      refine ow_aload (q := 204) X179 hx (hb hby at_202) rfl rfl rfl ?_
      refine ow_iconst (q := 205) X179 hx (0 : Int32) (hb hby at_204) rfl rfl ?_
      refine ow_iload (q := 207) X179 hx (hb hby at_205) rfl rfl ?_
      obtain ⟨cq180, kq180, q180a, q180b, q180c⟩ := isOf hZ e179 FP167_0
      obtain ⟨_, _, ⟨T180, L180, k180, n180⟩, -, X180, ⟨Lc180, hQ180, l180, y180, z180⟩, st180⟩ := X179.virtualBack hx (y := (⟨"com/example/sieveline/sieveline/model/CurrentDomains", "contains", "(II)Z"⟩ : MethodName)) (z := (⟨"com/example/sieveline/sieveline/model/CurrentDomains", "contains", "(II)Z"⟩ : MethodName)) hown (mvT hZ (ww 59 rfl)) (mvT hZ (ww 60 rfl)) (notFace_of_selects (args := #[]) (mvT hZ (ww 62 rfl))) (mvT hZ (ww 62 rfl)) (mvT hZ (ww 61 rfl)) (by decide) (backOf (W := 0) (rm_contains l Z av0 hw [] b116 v113 as__146 ap_146 q0_146 q1_146 kp_146 (v1.toNatClampNeg) (own_swQ own_id own_id (own_id v114.toNatClampNeg) (v1 - (1 : Int32))) (ownUpd (ownUpd (ownUpd (ownUpd (ownUpd (ownUpd (fun _ => (0 : Int32)) 0 v1) 1 v2) 0 (v1 - (1 : Int32))) 1 (1 : Int32)) 1 v2) 0 v1) T167.heap n0 (Nat.le_trans Z0 K167.1) FP167_2 FP167_4 FP167_6 F172 F174 (own_v0 hv_v1 hv_v113)) hZ (ww 63 rfl) (ww 3 rfl) (by decide) (by decide)) q180a q180c (g := (mkF m 207 #[iv p0, iv p1, iv p2, iv p3, iv p4, iv p5, iv v1, iv v2, iv (0 : Int32), iv (2 : Int32), iv v113, iv v114, iv v115, rv b116, iv v1, iv (0 : Int32)] [(.int v113), (.int (0 : Int32)), (.ref b116)])) rfl (by rw [hml]; rfl) (Steps.refl _) (argsL := [(.int (0 : Int32)), (.int v113)]) (rest := []) (lenOf own_pd5 rfl) rfl (by show 2 * 0 + _ ≤ _; exact Nat.le_of_eq rfl) (hb hby at_207) (fun _ _ => ⟨rfl, e179, (by decide : 10 + 0 ≤ _), (by decide : 97 + 0 ≤ _)⟩)
      dsimp only [Pt.U, Pt.locs, Pt.cells, Pt.slots] at X180 l180 y180 z180 st180 hQ180
      subst l180 y180 z180
      obtain ⟨rfl, N180q, e180⟩ := hQ180
      have N180 := Fr.app N179 N180q
      refine ownRun (T' := T180) (f' := (mkF m 210 #[iv p0, iv p1, iv p2, iv p3, iv p4, iv p5, iv v1, iv v2, iv (0 : Int32), iv (2 : Int32), iv v113, iv v114, iv v115, rv b116, iv v1, iv (0 : Int32)] [(.int (if ((own_swQ own_id own_id (own_id v114.toNatClampNeg) (v1 - (1 : Int32))) v113.toNatClampNeg) < v1 then (1 : Int32) else (0 : Int32)))])) st180 ?_
      refine ow_iload (q := 212) X180 hx (hb hby at_210) rfl rfl ?_
      refine ow_ifNo (q := 215) X180 hx (hb hby at_212) rfl (Jvm.Free.XT.i0_ne_f (by decide)) ?_
      refine ow_iconst (q := 216) X180 hx (1 : Int32) (hb hby at_215) rfl rfl ?_
      refine ow_goto (q := 220) X180 hx (hb hby at_216) (by decide) (by decide) ?_
      refine ow_icmpNo (q := 223) X180 hx (hb hby at_220) rfl (Jvm.Free.XT.ii_ne_f (by rw [if_pos (own_t1 hv_v1 hv_v113 hv_v114)])) ?_
      refine ow_aload (q := 225) X180 hx (hb hby at_223) rfl rfl rfl ?_
      obtain ⟨cq181, kq181, q181a, q181b, q181c⟩ := isOf hZ e180 FP167_0
      obtain ⟨_, _, ⟨T181, L181, k181, n181⟩, -, X181, ⟨Lc181, hQ181, l181, y181, z181⟩, st181⟩ := X180.virtualBack hx (y := (⟨"com/example/sieveline/sieveline/model/CurrentDomains", "mark", "()I"⟩ : MethodName)) (z := (⟨"com/example/sieveline/sieveline/model/CurrentDomains", "mark", "()I"⟩ : MethodName)) hown (mvT hZ (ww 29 rfl)) (mvT hZ (ww 30 rfl)) (notFace_of_selects (args := #[]) (mvT hZ (ww 32 rfl))) (mvT hZ (ww 32 rfl)) (mvT hZ (ww 31 rfl)) (by decide) (backOf (W := 0) (rm_mark l Z av0 hw [] b116 (0 : Int32) T167.heap n0 (Nat.le_trans Z0 K167.1) FP167_5) hZ (ww 33 rfl) (ww 3 rfl) (by decide) (by decide)) q181a q181c (g := (mkF m 225 #[iv p0, iv p1, iv p2, iv p3, iv p4, iv p5, iv v1, iv v2, iv (0 : Int32), iv (2 : Int32), iv v113, iv v114, iv v115, rv b116, iv v1, iv (0 : Int32)] [(.ref b116)])) rfl (by rw [hml]; rfl) (Steps.refl _) (argsL := []) (rest := []) (lenOf own_pd3 rfl) rfl (by show 2 * 0 + _ ≤ _; exact Nat.le_of_eq rfl) (hb hby at_225) (fun _ _ => ⟨rfl, e180, (by decide : 10 + 0 ≤ _), (by decide : 97 + 0 ≤ _)⟩)
      dsimp only [Pt.U, Pt.locs, Pt.cells, Pt.slots] at X181 l181 y181 z181 st181 hQ181
      subst l181 y181 z181
      obtain ⟨rfl, N181q, e181⟩ := hQ181
      have N181 := Fr.app N180 N181q
      refine ownRun (T' := T181) (f' := (mkF m 228 #[iv p0, iv p1, iv p2, iv p3, iv p4, iv p5, iv v1, iv v2, iv (0 : Int32), iv (2 : Int32), iv v113, iv v114, iv v115, rv b116, iv v1, iv (0 : Int32)] [(.int (0 : Int32))])) st181 ?_
      refine ow_iload (q := 230) X181 hx (hb hby at_228) rfl rfl ?_
      refine ow_icmpNo (q := 233) X181 hx (hb hby at_230) rfl (Jvm.Free.XT.ii_ne_f (by decide)) ?_
      refine ow_iconst (q := 234) X181 hx (1 : Int32) (hb hby at_233) rfl rfl ?_
      refine ow_goto (q := 238) X181 hx (hb hby at_234) (by decide) (by decide) ?_
      refine ownRetN X181 hx (r := (1 : Int32)) (Or.inl rfl) Bd.returns (hb hby at_238) hlk (by decide) (by decide) (by decide) ?_
      exact ⟨rfl, N181⟩
    · subst hs8
      refine ow_iloadN (q := 35) X0 hx (hb hby at_34) rfl rfl ?_
      refine ownGo (T' := s₁) (f' := (mkF m 37 #[iv p0, iv p1, iv p2, iv p3, iv p4, iv p5, iv v1, iv v2, iv (0 : Int32), iv (3 : Int32), .unset, .unset, .unset, .unset, .unset, .unset] [(.int (2147483647 : Int32)), (.int p3)])) (X0.ldcInt hx hown (mvT hZ (ww 0 rfl)) (g := (mkF m 35 #[iv p0, iv p1, iv p2, iv p3, iv p4, iv p5, iv v1, iv v2, iv (0 : Int32), iv (3 : Int32), .unset, .unset, .unset, .unset, .unset, .unset] [(.int p3)])) rfl (hb hby at_35)) ?_
      refine ow_iand (q := 38) X0 hx _ (hb hby at_37) rfl rfl ?_
      refine ow_iload (q := 40) X0 hx (hb hby at_38) rfl rfl ?_
      refine ow_irem (q := 41) X0 hx _ (hb hby at_40) rfl (own_z0 hv_v1) rfl ?_
      generalize hv_v182 : ((p3 &&& (2147483647 : Int32)) % v1) = v182
      refine ow_istore (q := 43) X0 hx (L' := #[iv p0, iv p1, iv p2, iv p3, iv p4, iv p5, iv v1, iv v2, iv (0 : Int32), iv (3 : Int32), iv v182, .unset, .unset, .unset, .unset, .unset]) (hb hby at_41) rfl rfl ?_
      refine ow_iload (q := 45) X0 hx (hb hby at_43) rfl rfl ?_
      refine ow_iconst (q := 46) X0 hx (1 : Int32) (hb hby at_45) rfl rfl ?_
      refine ow_iadd (q := 47) X0 hx _ (hb hby at_46) rfl rfl ?_
      refine ow_iload (q := 49) X0 hx (hb hby at_47) rfl rfl ?_
      refine ownGo (T' := s₁) (f' := (mkF m 51 #[iv p0, iv p1, iv p2, iv p3, iv p4, iv p5, iv v1, iv v2, iv (0 : Int32), iv (3 : Int32), iv v182, .unset, .unset, .unset, .unset, .unset] [(.int (2147483647 : Int32)), (.int p4), (.int (v182 + (1 : Int32)))])) (X0.ldcInt hx hown (mvT hZ (ww 0 rfl)) (g := (mkF m 49 #[iv p0, iv p1, iv p2, iv p3, iv p4, iv p5, iv v1, iv v2, iv (0 : Int32), iv (3 : Int32), iv v182, .unset, .unset, .unset, .unset, .unset] [(.int p4), (.int (v182 + (1 : Int32)))])) rfl (hb hby at_49)) ?_
      refine ow_iand (q := 52) X0 hx _ (hb hby at_51) rfl rfl ?_
      refine ow_iload (q := 54) X0 hx (hb hby at_52) rfl rfl ?_
      refine ow_iconst (q := 55) X0 hx (1 : Int32) (hb hby at_54) rfl rfl ?_
      refine ow_isub (q := 56) X0 hx _ (hb hby at_55) rfl rfl ?_
      refine ow_irem (q := 57) X0 hx _ (hb hby at_56) rfl (own_z0m hv_v1) rfl ?_
      refine ow_iadd (q := 58) X0 hx _ (hb hby at_57) rfl rfl ?_
      refine ow_iload (q := 60) X0 hx (hb hby at_58) rfl rfl ?_
      refine ow_irem (q := 61) X0 hx _ (hb hby at_60) rfl (own_z0 hv_v1) rfl ?_
      generalize hv_v183 : (((v182 + (1 : Int32)) + ((p4 &&& (2147483647 : Int32)) % (v1 - (1 : Int32)))) % v1) = v183
      refine ow_istore (q := 63) X0 hx (L' := #[iv p0, iv p1, iv p2, iv p3, iv p4, iv p5, iv v1, iv v2, iv (0 : Int32), iv (3 : Int32), iv v182, iv v183, .unset, .unset, .unset, .unset]) (hb hby at_61) rfl rfl ?_
      refine ow_iload (q := 65) X0 hx (hb hby at_63) rfl rfl ?_
      refine ownGo (T' := s₁) (f' := (mkF m 67 #[iv p0, iv p1, iv p2, iv p3, iv p4, iv p5, iv v1, iv v2, iv (0 : Int32), iv (3 : Int32), iv v182, iv v183, .unset, .unset, .unset, .unset] [(.int (2147483647 : Int32)), (.int p5)])) (X0.ldcInt hx hown (mvT hZ (ww 0 rfl)) (g := (mkF m 65 #[iv p0, iv p1, iv p2, iv p3, iv p4, iv p5, iv v1, iv v2, iv (0 : Int32), iv (3 : Int32), iv v182, iv v183, .unset, .unset, .unset, .unset] [(.int p5)])) rfl (hb hby at_65)) ?_
      refine ow_iand (q := 68) X0 hx _ (hb hby at_67) rfl rfl ?_
      refine ow_iload (q := 70) X0 hx (hb hby at_68) rfl rfl ?_
      refine ow_irem (q := 71) X0 hx _ (hb hby at_70) rfl (own_z1 hv_v2) rfl ?_
      generalize hv_v184 : ((p5 &&& (2147483647 : Int32)) % v2) = v184
      refine ow_istore (q := 73) X0 hx (L' := #[iv p0, iv p1, iv p2, iv p3, iv p4, iv p5, iv v1, iv v2, iv (0 : Int32), iv (3 : Int32), iv v182, iv v183, iv v184, .unset, .unset, .unset]) (hb hby at_71) rfl rfl ?_
      obtain ⟨T185, h185, X185, e185, E185, A185, D185, -, st185⟩ := newO X0 hx hZ hown (ww 1 rfl) (ww 2 rfl) (ww 3 rfl) e0 (g := (mkF m 73 #[iv p0, iv p1, iv p2, iv p3, iv p4, iv p5, iv v1, iv v2, iv (0 : Int32), iv (3 : Int32), iv v182, iv v183, iv v184, .unset, .unset, .unset] [])) rfl (hb hby at_73) (by decide) (by decide)
      obtain ⟨b185, g185⟩ : ∃ z, z = h0.size := ⟨_, rfl⟩
      rw [← g185] at A185 D185 st185
      have sz_b185 : h0.size ≤ b185 := Nat.le_trans K0.1 (Nat.le_of_eq g185.symm)
      have G_b185 : n0 ≤ b185 := Nat.le_trans Z0 sz_b185
      have K185 : Keep h0 h185 [] := K0.ext E185
      have F186 : Fld Z h185 b185 "com/example/sieveline/sieveline/model/CurrentDomains" "trail" "[I" .null := D185 (Or.inl (ww 12 rfl)) (ty := (.array .int)) (by decide)
      have F187 : Fld Z h185 b185 "com/example/sieveline/sieveline/model/CurrentDomains" "size" "[I" .null := D185 (Or.inr (ww 23 rfl)) (ty := (.array .int)) (by decide)
      have F188 : Fld Z h185 b185 "com/example/sieveline/sieveline/model/CurrentDomains" "dense" "[[I" .null := D185 (Or.inr (ww 26 rfl)) (ty := (.array (.array .int))) (by decide)
      have F189 : Fld Z h185 b185 "com/example/sieveline/sieveline/model/CurrentDomains" "position" "[[I" .null := D185 (Or.inr (ww 28 rfl)) (ty := (.array (.array .int))) (by decide)
      have F190 : Fld Z h185 b185 "com/example/sieveline/sieveline/model/CurrentDomains" "top" "I" (.int (0 : Int32)) := D185 (Or.inl (ww 35 rfl)) (ty := .int) (by decide)
      refine ownGo (T' := T185) (f' := (mkF m 76 #[iv p0, iv p1, iv p2, iv p3, iv p4, iv p5, iv v1, iv v2, iv (0 : Int32), iv (3 : Int32), iv v182, iv v183, iv v184, .unset, .unset, .unset] [(.ref b185)])) (st185) ?_
      refine ow_dup (q := 77) X185 hx (hb hby at_76) rfl rfl ?_
      refine ow_iconst (q := 78) X185 hx (2 : Int32) (hb hby at_77) rfl rfl ?_
      obtain ⟨T191, h191, k191, X191, e191, E191, A191, EA191, st191⟩ := newPE X185 hx hZ (ww 4 rfl) e185 (g := (mkF m 78 #[iv p0, iv p1, iv p2, iv p3, iv p4, iv p5, iv v1, iv v2, iv (0 : Int32), iv (3 : Int32), iv v182, iv v183, iv v184, .unset, .unset, .unset] [(.int (2 : Int32)), (.ref b185), (.ref b185)])) rfl (hb hby at_78) rfl (by decide) (cap := 2) (by decide) (by decide) (by decide) (by decide) (ad := "[I") (by decide)
      obtain ⟨b191, g191⟩ : ∃ z, z = h185.size := ⟨_, rfl⟩
      rw [← g191] at A191 st191 EA191
      have ne_b185_b191 : b185 ≠ b191 := Nat.ne_of_lt (Nat.lt_of_lt_of_le A185.lt (Nat.le_of_eq g191.symm))
      have sz_b191 : h0.size ≤ b191 := Nat.le_trans K185.1 (Nat.le_of_eq g191.symm)
      have G_b191 : n0 ≤ b191 := Nat.le_trans Z0 sz_b191
      have K191 : Keep h0 h191 [] := K185.ext E191
      have F192 : Exa Z h191 b185 "com/example/sieveline/sieveline/model/CurrentDomains" := A185.ext E191
      have F193 : Fld Z h191 b185 "com/example/sieveline/sieveline/model/CurrentDomains" "trail" "[I" .null := F186.ext E191
      have F194 : Fld Z h191 b185 "com/example/sieveline/sieveline/model/CurrentDomains" "size" "[I" .null := F187.ext E191
      have F195 : Fld Z h191 b185 "com/example/sieveline/sieveline/model/CurrentDomains" "dense" "[[I" .null := F188.ext E191
      have F196 : Fld Z h191 b185 "com/example/sieveline/sieveline/model/CurrentDomains" "position" "[[I" .null := F189.ext E191
      have F197 : Fld Z h191 b185 "com/example/sieveline/sieveline/model/CurrentDomains" "top" "I" (.int (0 : Int32)) := F190.ext E191
      have F198 : ownAI Z h191 b191 .int 2 (fun _ => (0 : Int32)) := ownAI.new A191 (by decide) rfl (by decide)
      refine ownGo (T' := T191) (f' := (mkF m 80 #[iv p0, iv p1, iv p2, iv p3, iv p4, iv p5, iv v1, iv v2, iv (0 : Int32), iv (3 : Int32), iv v182, iv v183, iv v184, .unset, .unset, .unset] [(.ref b191), (.ref b185), (.ref b185)])) (st191) ?_
      refine ow_dup (q := 81) X191 hx (hb hby at_80) rfl rfl ?_
      refine ow_iconst (q := 82) X191 hx (0 : Int32) (hb hby at_81) rfl rfl ?_
      refine ow_iload (q := 84) X191 hx (hb hby at_82) rfl rfl ?_
      obtain ⟨T199, h199, X199, e199, W199, F199s, st199⟩ := ownIastore F198 X191 hx hZ e191 (j := (0 : Int32)) (by unfold ownIn; decide) (g := (mkF m 84 #[iv p0, iv p1, iv p2, iv p3, iv p4, iv p5, iv v1, iv v2, iv (0 : Int32), iv (3 : Int32), iv v182, iv v183, iv v184, .unset, .unset, .unset] [(.int v1), (.int (0 : Int32)), (.ref b191), (.ref b191), (.ref b185), (.ref b185)])) rfl rfl (hb hby at_84)
      have F199r : ownAI Z h199 b191 .int 2 (ownUpd (fun _ => (0 : Int32)) 0 v1) := F199s
      have N199 := Fr.snoc X199 N0 G_b191
      have K199 : Keep h0 h199 [] := K191.wr W199 (Or.inr sz_b191)
      have F200 : Exa Z h199 b185 "com/example/sieveline/sieveline/model/CurrentDomains" := F192.wr W199
      have F201 : Fld Z h199 b185 "com/example/sieveline/sieveline/model/CurrentDomains" "trail" "[I" .null := F193.other W199 (Or.inl ne_b185_b191)
      have F202 : Fld Z h199 b185 "com/example/sieveline/sieveline/model/CurrentDomains" "size" "[I" .null := F194.other W199 (Or.inl ne_b185_b191)
      have F203 : Fld Z h199 b185 "com/example/sieveline/sieveline/model/CurrentDomains" "dense" "[[I" .null := F195.other W199 (Or.inl ne_b185_b191)
      have F204 : Fld Z h199 b185 "com/example/sieveline/sieveline/model/CurrentDomains" "position" "[[I" .null := F196.other W199 (Or.inl ne_b185_b191)
      have F205 : Fld Z h199 b185 "com/example/sieveline/sieveline/model/CurrentDomains" "top" "I" (.int (0 : Int32)) := F197.other W199 (Or.inl ne_b185_b191)
      have F206 : Exa Z h199 b191 "[I" := EA191.wr W199
      refine ownGo (T' := T199) (f' := (mkF m 85 #[iv p0, iv p1, iv p2, iv p3, iv p4, iv p5, iv v1, iv v2, iv (0 : Int32), iv (3 : Int32), iv v182, iv v183, iv v184, .unset, .unset, .unset] [(.ref b191), (.ref b185), (.ref b185)])) (st199) ?_
      refine ow_dup (q := 86) X199 hx (hb hby at_85) rfl rfl ?_
      refine ow_iconst (q := 87) X199 hx (1 : Int32) (hb hby at_86) rfl rfl ?_
      refine ow_iload (q := 89) X199 hx (hb hby at_87) rfl rfl ?_
      obtain ⟨T207, h207, X207, e207, W207, F207s, st207⟩ := ownIastore F199r X199 hx hZ e199 (j := (1 : Int32)) (by unfold ownIn; decide) (g := (mkF m 89 #[iv p0, iv p1, iv p2, iv p3, iv p4, iv p5, iv v1, iv v2, iv (0 : Int32), iv (3 : Int32), iv v182, iv v183, iv v184, .unset, .unset, .unset] [(.int v2), (.int (1 : Int32)), (.ref b191), (.ref b191), (.ref b185), (.ref b185)])) rfl rfl (hb hby at_89)
      have F207r : ownAI Z h207 b191 .int 2 (ownUpd (ownUpd (fun _ => (0 : Int32)) 0 v1) 1 v2) := F207s
      have N207 := Fr.snoc X207 N199 G_b191
      have K207 : Keep h0 h207 [] := K199.wr W207 (Or.inr sz_b191)
      have F208 : Exa Z h207 b185 "com/example/sieveline/sieveline/model/CurrentDomains" := F200.wr W207
      have F209 : Fld Z h207 b185 "com/example/sieveline/sieveline/model/CurrentDomains" "trail" "[I" .null := F201.other W207 (Or.inl ne_b185_b191)
      have F210 : Fld Z h207 b185 "com/example/sieveline/sieveline/model/CurrentDomains" "size" "[I" .null := F202.other W207 (Or.inl ne_b185_b191)
      have F211 : Fld Z h207 b185 "com/example/sieveline/sieveline/model/CurrentDomains" "dense" "[[I" .null := F203.other W207 (Or.inl ne_b185_b191)
      have F212 : Fld Z h207 b185 "com/example/sieveline/sieveline/model/CurrentDomains" "position" "[[I" .null := F204.other W207 (Or.inl ne_b185_b191)
      have F213 : Fld Z h207 b185 "com/example/sieveline/sieveline/model/CurrentDomains" "top" "I" (.int (0 : Int32)) := F205.other W207 (Or.inl ne_b185_b191)
      have F214 : Exa Z h207 b191 "[I" := F206.wr W207
      refine ownGo (T' := T207) (f' := (mkF m 90 #[iv p0, iv p1, iv p2, iv p3, iv p4, iv p5, iv v1, iv v2, iv (0 : Int32), iv (3 : Int32), iv v182, iv v183, iv v184, .unset, .unset, .unset] [(.ref b191), (.ref b185), (.ref b185)])) (st207) ?_
      obtain ⟨_, _, ⟨T215, L215, k215, n215⟩, -, X215, ⟨Lc215, hQ215, l215, y215, z215⟩, st215⟩ := X207.specialBack hx (y := (⟨"com/example/sieveline/sieveline/model/CurrentDomains", "<init>", "([I)V"⟩ : MethodName)) rfl hown (mvT hZ (ww 5 rfl)) (mvT hZ (ww 6 rfl)) (mvT hZ (ww 7 rfl)) (by decide) (backOf (W := 1) (rm_init l Z av0 hw [] b185 b191 v1 v2 h207 n0 (Nat.le_trans Z0 K207.1) F208 F209 F210 F211 F212 F213 F207r F214 G_b185 (own_h0 hv_v1) (own_h1 hv_v2) ne_b185_b191) hZ (ww 7 rfl) (ww 3 rfl) (by decide) (by decide)) (g := (mkF m 90 #[iv p0, iv p1, iv p2, iv p3, iv p4, iv p5, iv v1, iv v2, iv (0 : Int32), iv (3 : Int32), iv v182, iv v183, iv v184, .unset, .unset, .unset] [(.ref b191), (.ref b185), (.ref b185)])) rfl (by rw [hml]; rfl) (Steps.refl _) (a := b185) (argsL := [(.ref b191)]) (rest := [(.ref b185)]) (lenOf own_pd2 rfl) rfl (by show 2 * 0 + _ ≤ _; exact Nat.le_of_eq rfl) (hb hby at_90) (fun _ _ => ⟨rfl, e207, (by decide : 2 + 8 ≤ _), (by decide : 7 + 90 ≤ _)⟩)
      dsimp only [Pt.U, Pt.locs, Pt.cells, Pt.slots] at X215 l215 y215 z215 st215 hQ215
      subst l215 y215 z215
      obtain ⟨at__215, as__215, ad_215, ap_215, d0_215, q0_215, d1_215, q1_215, kd_215, kp_215, rfl, N215q, Kq215, sq215_at__215, sq215_as__215, sq215_ad_215, sq215_ap_215, sq215_d0_215, sq215_q0_215, sq215_d1_215, sq215_q1_215, FP215_0, FP215_1, FP215_2, FP215_3, FP215_4, FP215_5, FP215_6, FP215_7, FP215_8, FP215_9, FP215_10, FP215_11, FP215_12, FP215_13, hp215⟩ := hQ215
      have N215 := Fr.app N207 N215q
      have K215 : Keep h0 T215.heap [] := K207.trans Kq215 (allS (Or.inr sz_b185) all0)
      have ne_b185_at__215 : b185 ≠ at__215 := Nat.ne_of_lt (Nat.lt_of_lt_of_le F208.lt sq215_at__215)
      have ne_b191_at__215 : b191 ≠ at__215 := Nat.ne_of_lt (Nat.lt_of_lt_of_le F214.lt sq215_at__215)
      have sz_at__215 : h0.size ≤ at__215 := Nat.le_trans K207.1 sq215_at__215
      have G_at__215 : n0 ≤ at__215 := Nat.le_trans Z0 sz_at__215
      have ne_b185_as__215 : b185 ≠ as__215 := Nat.ne_of_lt (Nat.lt_of_lt_of_le F208.lt sq215_as__215)
      have ne_b191_as__215 : b191 ≠ as__215 := Nat.ne_of_lt (Nat.lt_of_lt_of_le F214.lt sq215_as__215)
      have sz_as__215 : h0.size ≤ as__215 := Nat.le_trans K207.1 sq215_as__215
      have G_as__215 : n0 ≤ as__215 := Nat.le_trans Z0 sz_as__215
      have ne_b185_ad_215 : b185 ≠ ad_215 := Nat.ne_of_lt (Nat.lt_of_lt_of_le F208.lt sq215_ad_215)
      have ne_b191_ad_215 : b191 ≠ ad_215 := Nat.ne_of_lt (Nat.lt_of_lt_of_le F214.lt sq215_ad_215)
      have sz_ad_215 : h0.size ≤ ad_215 := Nat.le_trans K207.1 sq215_ad_215
      have G_ad_215 : n0 ≤ ad_215 := Nat.le_trans Z0 sz_ad_215
      have ne_b185_ap_215 : b185 ≠ ap_215 := Nat.ne_of_lt (Nat.lt_of_lt_of_le F208.lt sq215_ap_215)
      have ne_b191_ap_215 : b191 ≠ ap_215 := Nat.ne_of_lt (Nat.lt_of_lt_of_le F214.lt sq215_ap_215)
      have sz_ap_215 : h0.size ≤ ap_215 := Nat.le_trans K207.1 sq215_ap_215
      have G_ap_215 : n0 ≤ ap_215 := Nat.le_trans Z0 sz_ap_215
      have ne_b185_d0_215 : b185 ≠ d0_215 := Nat.ne_of_lt (Nat.lt_of_lt_of_le F208.lt sq215_d0_215)
      have ne_b191_d0_215 : b191 ≠ d0_215 := Nat.ne_of_lt (Nat.lt_of_lt_of_le F214.lt sq215_d0_215)
      have sz_d0_215 : h0.size ≤ d0_215 := Nat.le_trans K207.1 sq215_d0_215
      have G_d0_215 : n0 ≤ d0_215 := Nat.le_trans Z0 sz_d0_215
      have ne_b185_q0_215 : b185 ≠ q0_215 := Nat.ne_of_lt (Nat.lt_of_lt_of_le F208.lt sq215_q0_215)
      have ne_b191_q0_215 : b191 ≠ q0_215 := Nat.ne_of_lt (Nat.lt_of_lt_of_le F214.lt sq215_q0_215)
      have sz_q0_215 : h0.size ≤ q0_215 := Nat.le_trans K207.1 sq215_q0_215
      have G_q0_215 : n0 ≤ q0_215 := Nat.le_trans Z0 sz_q0_215
      have ne_b185_d1_215 : b185 ≠ d1_215 := Nat.ne_of_lt (Nat.lt_of_lt_of_le F208.lt sq215_d1_215)
      have ne_b191_d1_215 : b191 ≠ d1_215 := Nat.ne_of_lt (Nat.lt_of_lt_of_le F214.lt sq215_d1_215)
      have sz_d1_215 : h0.size ≤ d1_215 := Nat.le_trans K207.1 sq215_d1_215
      have G_d1_215 : n0 ≤ d1_215 := Nat.le_trans Z0 sz_d1_215
      have ne_b185_q1_215 : b185 ≠ q1_215 := Nat.ne_of_lt (Nat.lt_of_lt_of_le F208.lt sq215_q1_215)
      have ne_b191_q1_215 : b191 ≠ q1_215 := Nat.ne_of_lt (Nat.lt_of_lt_of_le F214.lt sq215_q1_215)
      have sz_q1_215 : h0.size ≤ q1_215 := Nat.le_trans K207.1 sq215_q1_215
      have G_q1_215 : n0 ≤ q1_215 := Nat.le_trans Z0 sz_q1_215
      have F216 : Exa Z T215.heap b185 "com/example/sieveline/sieveline/model/CurrentDomains" := F208.keep Kq215
      have F217 : Exa Z T215.heap b191 "[I" := F214.keep Kq215
      have F218 : ownAI Z T215.heap b191 .int 2 (ownUpd (ownUpd (fun _ => (0 : Int32)) 0 v1) 1 v2) := F207r.keep Kq215 (ninS (Ne.symm ne_b185_b191) nin0)
      refine ownRun (T' := T215) (f' := (mkF m 93 #[iv p0, iv p1, iv p2, iv p3, iv p4, iv p5, iv v1, iv v2, iv (0 : Int32), iv (3 : Int32), iv v182, iv v183, iv v184, .unset, .unset, .unset] [(.ref b185)])) st215 ?_
      refine ow_astore (q := 95) X215 hx (L' := #[iv p0, iv p1, iv p2, iv p3, iv p4, iv p5, iv v1, iv v2, iv (0 : Int32), iv (3 : Int32), iv v182, iv v183, iv v184, rv b185, .unset, .unset]) (hb hby at_93) rfl rfl rfl ?_
      refine ow_iload (q := 97) X215 hx (hb hby at_95) rfl rfl ?_
      refine ow_ifYes (q := 108) X215 hx (hb hby at_97) (Jvm.Free.XT.i0_eq_t (by decide)) (by decide) (by decide) ?_
      refine ow_iload (q := 110) X215 hx (hb hby at_108) rfl rfl ?_
      refine ow_ifYes (q := 120) X215 hx (hb hby at_110) (Jvm.Free.XT.i0_eq_t (by decide)) (by decide) (by decide) ?_
      refine ow_iload (q := 122) X215 hx (hb hby at_120) rfl rfl ?_
      refine ow_istore (q := 124) X215 hx (L' := #[iv p0, iv p1, iv p2, iv p3, iv p4, iv p5, iv v1, iv v2, iv (0 : Int32), iv (3 : Int32), iv v182, iv v183, iv v184, rv b185, iv v1, .unset]) (hb hby at_122) rfl rfl ?_
      refine ow_aload (q := 126) X215 hx (hb hby at_124) rfl rfl rfl ?_
      obtain ⟨cq219, kq219, q219a, q219b, q219c⟩ := isOf hZ rfl FP215_0
      obtain ⟨_, _, ⟨T219, L219, k219, n219⟩, -, X219, ⟨Lc219, hQ219, l219, y219, z219⟩, st219⟩ := X215.virtualBack hx (y := (⟨"com/example/sieveline/sieveline/model/CurrentDomains", "mark", "()I"⟩ : MethodName)) (z := (⟨"com/example/sieveline/sieveline/model/CurrentDomains", "mark", "()I"⟩ : MethodName)) hown (mvT hZ (ww 29 rfl)) (mvT hZ (ww 30 rfl)) (notFace_of_selects (args := #[]) (mvT hZ (ww 32 rfl))) (mvT hZ (ww 32 rfl)) (mvT hZ (ww 31 rfl)) (by decide) (backOf (W := 0) (rm_mark l Z av0 hw [] b185 (0 : Int32) T215.heap n0 (Nat.le_trans Z0 K215.1) FP215_5) hZ (ww 33 rfl) (ww 3 rfl) (by decide) (by decide)) q219a q219c (g := (mkF m 126 #[iv p0, iv p1, iv p2, iv p3, iv p4, iv p5, iv v1, iv v2, iv (0 : Int32), iv (3 : Int32), iv v182, iv v183, iv v184, rv b185, iv v1, .unset] [(.ref b185)])) rfl (by rw [hml]; rfl) (Steps.refl _) (argsL := []) (rest := []) (lenOf own_pd3 rfl) rfl (by show 2 * 0 + _ ≤ _; exact Nat.le_of_eq rfl) (hb hby at_126) (fun _ _ => ⟨rfl, rfl, (by decide : 10 + 0 ≤ _), (by decide : 97 + 0 ≤ _)⟩)
      dsimp only [Pt.U, Pt.locs, Pt.cells, Pt.slots] at X219 l219 y219 z219 st219 hQ219
      subst l219 y219 z219
      obtain ⟨rfl, N219q, e219⟩ := hQ219
      have N219 := Fr.app N215 N219q
      refine ownRun (T' := T219) (f' := (mkF m 129 #[iv p0, iv p1, iv p2, iv p3, iv p4, iv p5, iv v1, iv v2, iv (0 : Int32), iv (3 : Int32), iv v182, iv v183, iv v184, rv b185, iv v1, .unset] [(.int (0 : Int32))])) st219 ?_
      refine ow_istore (q := 131) X219 hx (L' := #[iv p0, iv p1, iv p2, iv p3, iv p4, iv p5, iv v1, iv v2, iv (0 : Int32), iv (3 : Int32), iv v182, iv v183, iv v184, rv b185, iv v1, iv (0 : Int32)]) (hb hby at_129) rfl rfl ?_
      refine ow_iload (q := 133) X219 hx (hb hby at_131) rfl rfl ?_
      refine ow_iconst (q := 134) X219 hx (1 : Int32) (hb hby at_133) rfl rfl ?_
      refine ow_icmpNo (q := 137) X219 hx (hb hby at_134) rfl (Jvm.Free.XT.ii_lt_f (by decide)) ?_
      refine ow_aload (q := 139) X219 hx (hb hby at_137) rfl rfl rfl ?_
      refine ow_iconst (q := 140) X219 hx (0 : Int32) (hb hby at_139) rfl rfl ?_
      refine ow_iload (q := 142) X219 hx (hb hby at_140) rfl rfl ?_
      obtain ⟨cq220, kq220, q220a, q220b, q220c⟩ := isOf hZ e219 FP215_0
      obtain ⟨_, _, ⟨T220, L220, k220, n220⟩, -, X220, ⟨Lc220, hQ220, l220, y220, z220⟩, st220⟩ := X219.virtualBack hx (y := (⟨"com/example/sieveline/sieveline/model/CurrentDomains", "remove", "(II)V"⟩ : MethodName)) (z := (⟨"com/example/sieveline/sieveline/model/CurrentDomains", "remove", "(II)V"⟩ : MethodName)) hown (mvT hZ (ww 36 rfl)) (mvT hZ (ww 37 rfl)) (notFace_of_selects (args := #[]) (mvT hZ (ww 39 rfl))) (mvT hZ (ww 39 rfl)) (mvT hZ (ww 38 rfl)) (by decide) (backOf (W := 0) (rm_remove_0_0 l Z av0 hw [] b185 v183 at__215 as__215 ad_215 ap_215 d0_215 q0_215 d1_215 q1_215 kd_215 kp_215 (v1.toNatClampNeg) own_id own_id (fun _ => (0 : Int32)) (ownUpd (ownUpd (fun _ => (0 : Int32)) 0 v1) 1 v2) T215.heap n0 (Nat.le_trans Z0 K215.1) FP215_0 FP215_1 FP215_2 FP215_3 FP215_4 FP215_5 FP215_6 FP215_7 FP215_8 FP215_9 FP215_10 FP215_11 G_b185 G_at__215 G_as__215 G_d0_215 G_q0_215 (ne_b185_at__215) (ne_b185_as__215) (ne_b185_ad_215) (ne_b185_ap_215) (ne_b185_d0_215) (ne_b185_q0_215) (hp215.1) (hp215.2.1) (hp215.2.2.1) (hp215.2.2.2.1) (hp215.2.2.2.2.1) (hp215.2.2.2.2.2.2.2.1) (hp215.2.2.2.2.2.2.2.2.1) (hp215.2.2.2.2.2.2.2.2.2.1) (hp215.2.2.2.2.2.2.2.2.2.2.1) (hp215.2.2.2.2.2.2.2.2.2.2.2.2.2.1) (hp215.2.2.2.2.2.2.2.2.2.2.2.2.2.2.1) (hp215.2.2.2.2.2.2.2.2.2.2.2.2.2.2.2.1) (hp215.2.2.2.2.2.2.2.2.2.2.2.2.2.2.2.2.2.2.1) (hp215.2.2.2.2.2.2.2.2.2.2.2.2.2.2.2.2.2.2.2.1) (hp215.2.2.2.2.2.2.2.2.2.2.2.2.2.2.2.2.2.2.2.2.2.2.1) (own_w hv_v1 hv_v182 hv_v183).1 own_rg_id own_rg_id (own_s0 hv_v1)) hZ (ww 40 rfl) (ww 3 rfl) (by decide) (by decide)) q220a q220c (g := (mkF m 142 #[iv p0, iv p1, iv p2, iv p3, iv p4, iv p5, iv v1, iv v2, iv (0 : Int32), iv (3 : Int32), iv v182, iv v183, iv v184, rv b185, iv v1, iv (0 : Int32)] [(.int v183), (.int (0 : Int32)), (.ref b185)])) rfl (by rw [hml]; rfl) (Steps.refl _) (argsL := [(.int (0 : Int32)), (.int v183)]) (rest := []) (lenOf own_pd6 rfl) rfl (by show 2 * 0 + _ ≤ _; exact Nat.le_of_eq rfl) (hb hby at_142) (fun _ _ => ⟨rfl, e219, (by decide : 10 + 0 ≤ _), (by decide : 97 + 0 ≤ _)⟩)
      dsimp only [Pt.U, Pt.locs, Pt.cells, Pt.slots] at X220 l220 y220 z220 st220 hQ220
      subst l220 y220 z220
      obtain ⟨rfl, N220q, Kq220, FP220_0, FP220_1, FP220_2, FP220_3, FP220_4, FP220_5, FP220_6, FP220_7, FP220_8, FP220_9⟩ := hQ220
      have N220 := Fr.app N219 N220q
      have K220 : Keep h0 T220.heap [] := K215.trans Kq220 (allS (Or.inr sz_b185) (allS (Or.inr sz_at__215) (allS (Or.inr sz_as__215) (allS (Or.inr sz_d0_215) (allS (Or.inr sz_q0_215) all0)))))
      have F221 : Exa Z T220.heap b185 "com/example/sieveline/sieveline/model/CurrentDomains" := FP215_0.keep Kq220
      have F222 : Exa Z T220.heap b191 "[I" := F217.keep Kq220
      have F223 : ownAI Z T220.heap b191 .int 2 (ownUpd (ownUpd (fun _ => (0 : Int32)) 0 v1) 1 v2) := F218.keep Kq220 (ninS (Ne.symm ne_b185_b191) (ninS ne_b191_at__215 (ninS ne_b191_as__215 (ninS ne_b191_d0_215 (ninS ne_b191_q0_215 nin0)))))
      have F224 : ownAR Z T220.heap ad_215 kd_215 2 (ownUpd (ownUpd (fun _ => Value.null) 0 (.ref d0_215)) 1 (.ref d1_215)) := FP215_8.keep Kq220 (ninS (Ne.symm ne_b185_ad_215) (ninS (Ne.symm hp215.2.1) (ninS (Ne.symm hp215.2.2.2.2.2.2.2.1) (ninS hp215.2.2.2.2.2.2.2.2.2.2.2.2.2.2.1 (ninS hp215.2.2.2.2.2.2.2.2.2.2.2.2.2.2.2.1 nin0)))))
      have F225 : ownAR Z T220.heap ap_215 kp_215 2 (ownUpd (ownUpd (fun _ => Value.null) 0 (.ref q0_215)) 1 (.ref q1_215)) := FP215_9.keep Kq220 (ninS (Ne.symm ne_b185_ap_215) (ninS (Ne.symm hp215.2.2.1) (ninS (Ne.symm hp215.2.2.2.2.2.2.2.2.1) (ninS hp215.2.2.2.2.2.2.2.2.2.2.2.2.2.2.2.2.2.2.1 (ninS hp215.2.2.2.2.2.2.2.2.2.2.2.2.2.2.2.2.2.2.2.1 nin0)))))
      have F226 : ownAI Z T220.heap d1_215 .int (v2.toNatClampNeg) own_id := FP215_12.keep Kq220 (ninS (Ne.symm ne_b185_d1_215) (ninS (Ne.symm hp215.2.2.2.2.2.1) (ninS (Ne.symm hp215.2.2.2.2.2.2.2.2.2.2.2.1) (ninS (Ne.symm hp215.2.2.2.2.2.2.2.2.2.2.2.2.2.2.2.2.2.2.2.2.2.2.2.1) (ninS (Ne.symm hp215.2.2.2.2.2.2.2.2.2.2.2.2.2.2.2.2.2.2.2.2.2.2.2.2.2.1) nin0)))))
      have F227 : ownAI Z T220.heap q1_215 .int (v2.toNatClampNeg) own_id := FP215_13.keep Kq220 (ninS (Ne.symm ne_b185_q1_215) (ninS (Ne.symm hp215.2.2.2.2.2.2.1) (ninS (Ne.symm hp215.2.2.2.2.2.2.2.2.2.2.2.2.1) (ninS (Ne.symm hp215.2.2.2.2.2.2.2.2.2.2.2.2.2.2.2.2.2.2.2.2.2.2.2.2.1) (ninS (Ne.symm hp215.2.2.2.2.2.2.2.2.2.2.2.2.2.2.2.2.2.2.2.2.2.2.2.2.2.2.1) nin0)))))
      refine ownRun (T' := T220) (f' := (mkF m 145 #[iv p0, iv p1, iv p2, iv p3, iv p4, iv p5, iv v1, iv v2, iv (0 : Int32), iv (3 : Int32), iv v182, iv v183, iv v184, rv b185, iv v1, iv (0 : Int32)] [])) st220 ?_
      refine ow_iload (q := 147) X220 hx (hb hby at_145) rfl rfl ?_
      refine ow_iconst (q := 148) X220 hx (2 : Int32) (hb hby at_147) rfl rfl ?_
      refine ow_icmpNo (q := 151) X220 hx (hb hby at_148) rfl (Jvm.Free.XT.ii_lt_f (by decide)) ?_
      refine ow_aload (q := 153) X220 hx (hb hby at_151) rfl rfl rfl ?_
      refine ow_iconst (q := 154) X220 hx (1 : Int32) (hb hby at_153) rfl rfl ?_
      refine ow_iload (q := 156) X220 hx (hb hby at_154) rfl rfl ?_
      obtain ⟨cq228, kq228, q228a, q228b, q228c⟩ := isOf hZ rfl FP220_0
      obtain ⟨_, _, ⟨T228, L228, k228, n228⟩, -, X228, ⟨Lc228, hQ228, l228, y228, z228⟩, st228⟩ := X220.virtualBack hx (y := (⟨"com/example/sieveline/sieveline/model/CurrentDomains", "reduceTo", "(II)V"⟩ : MethodName)) (z := (⟨"com/example/sieveline/sieveline/model/CurrentDomains", "reduceTo", "(II)V"⟩ : MethodName)) hown (mvT hZ (ww 64 rfl)) (mvT hZ (ww 65 rfl)) (notFace_of_selects (args := #[]) (mvT hZ (ww 67 rfl))) (mvT hZ (ww 67 rfl)) (mvT hZ (ww 66 rfl)) (by decide) (backOf (W := 0) (rm_reduceTo_2 l Z av0 hw [] b185 v184 at__215 as__215 ad_215 ap_215 d0_215 q0_215 d1_215 q1_215 kd_215 kp_215 (v2.toNatClampNeg) own_id own_id (ownUpd (ownUpd (fun _ => (0 : Int32)) 0 (0 : Int32)) 1 v1) (ownUpd (ownUpd (ownUpd (fun _ => (0 : Int32)) 0 v1) 1 v2) 0 (v1 - (1 : Int32))) T220.heap n0 (Nat.le_trans Z0 K220.1) FP220_0 FP220_1 FP220_2 FP220_3 FP220_4 FP220_5 FP220_6 FP220_7 F224 F225 F226 F227 G_b185 G_at__215 G_as__215 G_d1_215 G_q1_215 (ne_b185_at__215) (ne_b185_as__215) (ne_b185_ad_215) (ne_b185_ap_215) (ne_b185_d1_215) (ne_b185_q1_215) (hp215.1) (hp215.2.1) (hp215.2.2.1) (hp215.2.2.2.2.2.1) (hp215.2.2.2.2.2.2.1) (hp215.2.2.2.2.2.2.2.1) (hp215.2.2.2.2.2.2.2.2.1) (hp215.2.2.2.2.2.2.2.2.2.2.2.1) (hp215.2.2.2.2.2.2.2.2.2.2.2.2.1) (hp215.2.2.2.2.2.2.2.2.2.2.2.2.2.1) (hp215.2.2.2.2.2.2.2.2.2.2.2.2.2.2.2.2.1) (hp215.2.2.2.2.2.2.2.2.2.2.2.2.2.2.2.2.2.1) (hp215.2.2.2.2.2.2.2.2.2.2.2.2.2.2.2.2.2.2.2.2.1) (hp215.2.2.2.2.2.2.2.2.2.2.2.2.2.2.2.2.2.2.2.2.2.1) (hp215.2.2.2.2.2.2.2.2.2.2.2.2.2.2.2.2.2.2.2.2.2.2.2.2.2.2.2) (own_v1 hv_v2 hv_v184) own_rg_id own_rg_id (own_s1 hv_v2)) hZ (ww 68 rfl) (ww 3 rfl) (by decide) (by decide)) q228a q228c (g := (mkF m 156 #[iv p0, iv p1, iv p2, iv p3, iv p4, iv p5, iv v1, iv v2, iv (0 : Int32), iv (3 : Int32), iv v182, iv v183, iv v184, rv b185, iv v1, iv (0 : Int32)] [(.int v184), (.int (1 : Int32)), (.ref b185)])) rfl (by rw [hml]; rfl) (Steps.refl _) (argsL := [(.int (1 : Int32)), (.int v184)]) (rest := []) (lenOf own_pd6 rfl) rfl (by show 2 * 0 + _ ≤ _; exact Nat.le_of_eq rfl) (hb hby at_156) (fun _ _ => ⟨rfl, rfl, (by decide : 10 + 0 ≤ _), (by decide : 97 + 0 ≤ _)⟩)
      dsimp only [Pt.U, Pt.locs, Pt.cells, Pt.slots] at X228 l228 y228 z228 st228 hQ228
      subst l228 y228 z228
      obtain ⟨rfl, N228q, Kq228, FP228_0, FP228_1, FP228_2, FP228_3, FP228_4, FP228_5, FP228_6, FP228_7, FP228_8, FP228_9⟩ := hQ228
      have N228 := Fr.app N220 N228q
      have K228 : Keep h0 T228.heap [] := K220.trans Kq228 (allS (Or.inr sz_b185) (allS (Or.inr sz_at__215) (allS (Or.inr sz_as__215) (allS (Or.inr sz_d1_215) (allS (Or.inr sz_q1_215) all0)))))
      have F229 : Exa Z T228.heap b185 "com/example/sieveline/sieveline/model/CurrentDomains" := FP220_0.keep Kq228
      have F230 : Exa Z T228.heap b191 "[I" := F222.keep Kq228
      have F231 : ownAI Z T228.heap b191 .int 2 (ownUpd (ownUpd (fun _ => (0 : Int32)) 0 v1) 1 v2) := F223.keep Kq228 (ninS (Ne.symm ne_b185_b191) (ninS ne_b191_at__215 (ninS ne_b191_as__215 (ninS ne_b191_d1_215 (ninS ne_b191_q1_215 nin0)))))
      have F232 : ownAR Z T228.heap ad_215 kd_215 2 (ownUpd (ownUpd (fun _ => Value.null) 0 (.ref d0_215)) 1 (.ref d1_215)) := F224.keep Kq228 (ninS (Ne.symm ne_b185_ad_215) (ninS (Ne.symm hp215.2.1) (ninS (Ne.symm hp215.2.2.2.2.2.2.2.1) (ninS hp215.2.2.2.2.2.2.2.2.2.2.2.2.2.2.2.2.1 (ninS hp215.2.2.2.2.2.2.2.2.2.2.2.2.2.2.2.2.2.1 nin0)))))
      have F233 : ownAR Z T228.heap ap_215 kp_215 2 (ownUpd (ownUpd (fun _ => Value.null) 0 (.ref q0_215)) 1 (.ref q1_215)) := F225.keep Kq228 (ninS (Ne.symm ne_b185_ap_215) (ninS (Ne.symm hp215.2.2.1) (ninS (Ne.symm hp215.2.2.2.2.2.2.2.2.1) (ninS hp215.2.2.2.2.2.2.2.2.2.2.2.2.2.2.2.2.2.2.2.2.1 (ninS hp215.2.2.2.2.2.2.2.2.2.2.2.2.2.2.2.2.2.2.2.2.2.1 nin0)))))
      have F234 : ownAI Z T228.heap d0_215 .int (v1.toNatClampNeg) (own_swD own_id (own_id v183.toNatClampNeg) (v1 - (1 : Int32))) := FP220_8.keep Kq228 (ninS (Ne.symm ne_b185_d0_215) (ninS (Ne.symm hp215.2.2.2.1) (ninS (Ne.symm hp215.2.2.2.2.2.2.2.2.2.1) (ninS hp215.2.2.2.2.2.2.2.2.2.2.2.2.2.2.2.2.2.2.2.2.2.2.2.1 (ninS hp215.2.2.2.2.2.2.2.2.2.2.2.2.2.2.2.2.2.2.2.2.2.2.2.2.1 nin0)))))
      have F235 : ownAI Z T228.heap q0_215 .int (v1.toNatClampNeg) (own_swQ own_id own_id (own_id v183.toNatClampNeg) (v1 - (1 : Int32))) := FP220_9.keep Kq228 (ninS (Ne.symm ne_b185_q0_215) (ninS (Ne.symm hp215.2.2.2.2.1) (ninS (Ne.symm hp215.2.2.2.2.2.2.2.2.2.2.1) (ninS hp215.2.2.2.2.2.2.2.2.2.2.2.2.2.2.2.2.2.2.2.2.2.2.2.2.2.1 (ninS hp215.2.2.2.2.2.2.2.2.2.2.2.2.2.2.2.2.2.2.2.2.2.2.2.2.2.2.1 nin0)))))
      refine ownRun (T' := T228) (f' := (mkF m 159 #[iv p0, iv p1, iv p2, iv p3, iv p4, iv p5, iv v1, iv v2, iv (0 : Int32), iv (3 : Int32), iv v182, iv v183, iv v184, rv b185, iv v1, iv (0 : Int32)] [])) st228 ?_
      refine ow_iload (q := 161) X228 hx (hb hby at_159) rfl rfl ?_
      refine ow_iconst (q := 162) X228 hx (3 : Int32) (hb hby at_161) rfl rfl ?_
      refine ow_icmpNo (q := 165) X228 hx (hb hby at_162) rfl (Jvm.Free.XT.ii_lt_f (by decide)) ?_
      refine ow_aload (q := 167) X228 hx (hb hby at_165) rfl rfl rfl ?_
      refine ow_iconst (q := 168) X228 hx (1 : Int32) (hb hby at_167) rfl rfl ?_
      refine ow_iload (q := 170) X228 hx (hb hby at_168) rfl rfl ?_
      obtain ⟨cq236, kq236, q236a, q236b, q236c⟩ := isOf hZ rfl FP228_0
      obtain ⟨_, _, ⟨T236, L236, k236, n236⟩, -, X236, ⟨Lc236, hQ236, l236, y236, z236⟩, st236⟩ := X228.virtualBack hx (y := (⟨"com/example/sieveline/sieveline/model/CurrentDomains", "remove", "(II)V"⟩ : MethodName)) (z := (⟨"com/example/sieveline/sieveline/model/CurrentDomains", "remove", "(II)V"⟩ : MethodName)) hown (mvT hZ (ww 36 rfl)) (mvT hZ (ww 37 rfl)) (notFace_of_selects (args := #[]) (mvT hZ (ww 39 rfl))) (mvT hZ (ww 39 rfl)) (mvT hZ (ww 38 rfl)) (by decide) (backOf (W := 0) (rm_remove_4_1 l Z av0 hw [] b185 v184 at__215 as__215 ad_215 ap_215 d0_215 q0_215 d1_215 q1_215 kd_215 kp_215 (v2.toNatClampNeg) (own_swD own_id (own_id v184.toNatClampNeg) (0 : Int32)) (own_swQ own_id own_id (own_id v184.toNatClampNeg) (0 : Int32)) (ownUpd (ownUpd (ownUpd (ownUpd (fun _ => (0 : Int32)) 0 (0 : Int32)) 1 v1) 2 (1 : Int32)) 3 v2) (ownUpd (ownUpd (ownUpd (ownUpd (fun _ => (0 : Int32)) 0 v1) 1 v2) 0 (v1 - (1 : Int32))) 1 (1 : Int32)) T228.heap n0 (Nat.le_trans Z0 K228.1) FP228_0 FP228_1 FP228_2 FP228_3 FP228_4 FP228_5 FP228_6 FP228_7 F232 F233 FP228_8 FP228_9 G_b185 G_at__215 G_as__215 G_d1_215 G_q1_215 (ne_b185_at__215) (ne_b185_as__215) (ne_b185_ad_215) (ne_b185_ap_215) (ne_b185_d1_215) (ne_b185_q1_215) (hp215.1) (hp215.2.1) (hp215.2.2.1) (hp215.2.2.2.2.2.1) (hp215.2.2.2.2.2.2.1) (hp215.2.2.2.2.2.2.2.1) (hp215.2.2.2.2.2.2.2.2.1) (hp215.2.2.2.2.2.2.2.2.2.2.2.1) (hp215.2.2.2.2.2.2.2.2.2.2.2.2.1) (hp215.2.2.2.2.2.2.2.2.2.2.2.2.2.1) (hp215.2.2.2.2.2.2.2.2.2.2.2.2.2.2.2.2.1) (hp215.2.2.2.2.2.2.2.2.2.2.2.2.2.2.2.2.2.1) (hp215.2.2.2.2.2.2.2.2.2.2.2.2.2.2.2.2.2.2.2.2.1) (hp215.2.2.2.2.2.2.2.2.2.2.2.2.2.2.2.2.2.2.2.2.2.1) (hp215.2.2.2.2.2.2.2.2.2.2.2.2.2.2.2.2.2.2.2.2.2.2.2.2.2.2.2) (own_v1 hv_v2 hv_v184) (own_rg_swD own_rg_id (own_posid (own_v1 hv_v2 hv_v184)) (own_z (own_s1 hv_v2))) (own_rg_swQ own_rg_id (own_posid (own_v1 hv_v2 hv_v184)) (own_z (own_s1 hv_v2))) (own_o1 (own_s1 hv_v2))) hZ (ww 40 rfl) (ww 3 rfl) (by decide) (by decide)) q236a q236c (g := (mkF m 170 #[iv p0, iv p1, iv p2, iv p3, iv p4, iv p5, iv v1, iv v2, iv (0 : Int32), iv (3 : Int32), iv v182, iv v183, iv v184, rv b185, iv v1, iv (0 : Int32)] [(.int v184), (.int (1 : Int32)), (.ref b185)])) rfl (by rw [hml]; rfl) (Steps.refl _) (argsL := [(.int (1 : Int32)), (.int v184)]) (rest := []) (lenOf own_pd6 rfl) rfl (by show 2 * 0 + _ ≤ _; exact Nat.le_of_eq rfl) (hb hby at_170) (fun _ _ => ⟨rfl, rfl, (by decide : 10 + 0 ≤ _), (by decide : 97 + 0 ≤ _)⟩)
      dsimp only [Pt.U, Pt.locs, Pt.cells, Pt.slots] at X236 l236 y236 z236 st236 hQ236
      subst l236 y236 z236
      obtain ⟨rfl, N236q, Kq236, FP236_0, FP236_1, FP236_2, FP236_3, FP236_4, FP236_5, FP236_6, FP236_7, FP236_8, FP236_9⟩ := hQ236
      have N236 := Fr.app N228 N236q
      have K236 : Keep h0 T236.heap [] := K228.trans Kq236 (allS (Or.inr sz_b185) (allS (Or.inr sz_at__215) (allS (Or.inr sz_as__215) (allS (Or.inr sz_d1_215) (allS (Or.inr sz_q1_215) all0)))))
      have F237 : Exa Z T236.heap b185 "com/example/sieveline/sieveline/model/CurrentDomains" := FP228_0.keep Kq236
      have F238 : Exa Z T236.heap b191 "[I" := F230.keep Kq236
      have F239 : ownAI Z T236.heap b191 .int 2 (ownUpd (ownUpd (fun _ => (0 : Int32)) 0 v1) 1 v2) := F231.keep Kq236 (ninS (Ne.symm ne_b185_b191) (ninS ne_b191_at__215 (ninS ne_b191_as__215 (ninS ne_b191_d1_215 (ninS ne_b191_q1_215 nin0)))))
      have F240 : ownAR Z T236.heap ad_215 kd_215 2 (ownUpd (ownUpd (fun _ => Value.null) 0 (.ref d0_215)) 1 (.ref d1_215)) := F232.keep Kq236 (ninS (Ne.symm ne_b185_ad_215) (ninS (Ne.symm hp215.2.1) (ninS (Ne.symm hp215.2.2.2.2.2.2.2.1) (ninS hp215.2.2.2.2.2.2.2.2.2.2.2.2.2.2.2.2.1 (ninS hp215.2.2.2.2.2.2.2.2.2.2.2.2.2.2.2.2.2.1 nin0)))))
      have F241 : ownAR Z T236.heap ap_215 kp_215 2 (ownUpd (ownUpd (fun _ => Value.null) 0 (.ref q0_215)) 1 (.ref q1_215)) := F233.keep Kq236 (ninS (Ne.symm ne_b185_ap_215) (ninS (Ne.symm hp215.2.2.1) (ninS (Ne.symm hp215.2.2.2.2.2.2.2.2.1) (ninS hp215.2.2.2.2.2.2.2.2.2.2.2.2.2.2.2.2.2.2.2.2.1 (ninS hp215.2.2.2.2.2.2.2.2.2.2.2.2.2.2.2.2.2.2.2.2.2.1 nin0)))))
      have F242 : ownAI Z T236.heap d0_215 .int (v1.toNatClampNeg) (own_swD own_id (own_id v183.toNatClampNeg) (v1 - (1 : Int32))) := F234.keep Kq236 (ninS (Ne.symm ne_b185_d0_215) (ninS (Ne.symm hp215.2.2.2.1) (ninS (Ne.symm hp215.2.2.2.2.2.2.2.2.2.1) (ninS hp215.2.2.2.2.2.2.2.2.2.2.2.2.2.2.2.2.2.2.2.2.2.2.2.1 (ninS hp215.2.2.2.2.2.2.2.2.2.2.2.2.2.2.2.2.2.2.2.2.2.2.2.2.1 nin0)))))
      have F243 : ownAI Z T236.heap q0_215 .int (v1.toNatClampNeg) (own_swQ own_id own_id (own_id v183.toNatClampNeg) (v1 - (1 : Int32))) := F235.keep Kq236 (ninS (Ne.symm ne_b185_q0_215) (ninS (Ne.symm hp215.2.2.2.2.1) (ninS (Ne.symm hp215.2.2.2.2.2.2.2.2.2.2.1) (ninS hp215.2.2.2.2.2.2.2.2.2.2.2.2.2.2.2.2.2.2.2.2.2.2.2.2.2.1 (ninS hp215.2.2.2.2.2.2.2.2.2.2.2.2.2.2.2.2.2.2.2.2.2.2.2.2.2.2.1 nin0)))))
      refine ownRun (T' := T236) (f' := (mkF m 173 #[iv p0, iv p1, iv p2, iv p3, iv p4, iv p5, iv v1, iv v2, iv (0 : Int32), iv (3 : Int32), iv v182, iv v183, iv v184, rv b185, iv v1, iv (0 : Int32)] [])) st236 ?_
      refine ow_aload (q := 175) X236 hx (hb hby at_173) rfl rfl rfl ?_
      refine ow_iload (q := 177) X236 hx (hb hby at_175) rfl rfl ?_
      obtain ⟨cq244, kq244, q244a, q244b, q244c⟩ := isOf hZ rfl FP236_0
      obtain ⟨_, _, ⟨T244, L244, k244, n244⟩, -, X244, ⟨Lc244, hQ244, l244, y244, z244⟩, st244⟩ := X236.virtualBack hx (y := (⟨"com/example/sieveline/sieveline/model/CurrentDomains", "undo", "(I)V"⟩ : MethodName)) (z := (⟨"com/example/sieveline/sieveline/model/CurrentDomains", "undo", "(I)V"⟩ : MethodName)) hown (mvT hZ (ww 49 rfl)) (mvT hZ (ww 50 rfl)) (notFace_of_selects (args := #[]) (mvT hZ (ww 52 rfl))) (mvT hZ (ww 52 rfl)) (mvT hZ (ww 51 rfl)) (by decide) (backOf (W := 0) (rm_undo_0_3 l Z av0 hw [] b185 at__215 as__215 ad_215 ap_215 (ownUpd (ownUpd (ownUpd (ownUpd (ownUpd (ownUpd (fun _ => (0 : Int32)) 0 (0 : Int32)) 1 v1) 2 (1 : Int32)) 3 v2) 4 (1 : Int32)) 5 (1 : Int32)) (ownUpd (ownUpd (ownUpd (ownUpd (ownUpd (fun _ => (0 : Int32)) 0 v1) 1 v2) 0 (v1 - (1 : Int32))) 1 (1 : Int32)) 1 ((1 : Int32) - (1 : Int32))) T236.heap n0 (Nat.le_trans Z0 K236.1) FP236_0 FP236_1 FP236_2 FP236_3 FP236_4 FP236_5 FP236_6 FP236_7 G_b185 G_as__215 (ne_b185_at__215) (ne_b185_as__215) (hp215.1) rfl rfl rfl) hZ (ww 53 rfl) (ww 3 rfl) (by decide) (by decide)) q244a q244c (g := (mkF m 177 #[iv p0, iv p1, iv p2, iv p3, iv p4, iv p5, iv v1, iv v2, iv (0 : Int32), iv (3 : Int32), iv v182, iv v183, iv v184, rv b185, iv v1, iv (0 : Int32)] [(.int (0 : Int32)), (.ref b185)])) rfl (by rw [hml]; rfl) (Steps.refl _) (argsL := [(.int (0 : Int32))]) (rest := []) (lenOf own_pd0 rfl) rfl (by show 2 * 0 + _ ≤ _; exact Nat.le_of_eq rfl) (hb hby at_177) (fun _ _ => ⟨rfl, rfl, (by decide : 10 + 0 ≤ _), (by decide : 97 + 0 ≤ _)⟩)
      dsimp only [Pt.U, Pt.locs, Pt.cells, Pt.slots] at X244 l244 y244 z244 st244 hQ244
      subst l244 y244 z244
      obtain ⟨rfl, N244q, Kq244, FP244_0, FP244_1, FP244_2, FP244_3, FP244_4, FP244_5, FP244_6⟩ := hQ244
      have N244 := Fr.app N236 N244q
      have K244 : Keep h0 T244.heap [] := K236.trans Kq244 (allS (Or.inr sz_b185) (allS (Or.inr sz_as__215) all0))
      have F245 : Exa Z T244.heap b185 "com/example/sieveline/sieveline/model/CurrentDomains" := FP236_0.keep Kq244
      have F246 : Exa Z T244.heap b191 "[I" := F238.keep Kq244
      have F247 : ownAI Z T244.heap b191 .int 2 (ownUpd (ownUpd (fun _ => (0 : Int32)) 0 v1) 1 v2) := F239.keep Kq244 (ninS (Ne.symm ne_b185_b191) (ninS ne_b191_as__215 nin0))
      have F248 : ownAR Z T244.heap ad_215 kd_215 2 (ownUpd (ownUpd (fun _ => Value.null) 0 (.ref d0_215)) 1 (.ref d1_215)) := F240.keep Kq244 (ninS (Ne.symm ne_b185_ad_215) (ninS (Ne.symm hp215.2.2.2.2.2.2.2.1) nin0))
      have F249 : ownAR Z T244.heap ap_215 kp_215 2 (ownUpd (ownUpd (fun _ => Value.null) 0 (.ref q0_215)) 1 (.ref q1_215)) := F241.keep Kq244 (ninS (Ne.symm ne_b185_ap_215) (ninS (Ne.symm hp215.2.2.2.2.2.2.2.2.1) nin0))
      have F250 : ownAI Z T244.heap d0_215 .int (v1.toNatClampNeg) (own_swD own_id (own_id v183.toNatClampNeg) (v1 - (1 : Int32))) := F242.keep Kq244 (ninS (Ne.symm ne_b185_d0_215) (ninS (Ne.symm hp215.2.2.2.2.2.2.2.2.2.1) nin0))
      have F251 : ownAI Z T244.heap q0_215 .int (v1.toNatClampNeg) (own_swQ own_id own_id (own_id v183.toNatClampNeg) (v1 - (1 : Int32))) := F243.keep Kq244 (ninS (Ne.symm ne_b185_q0_215) (ninS (Ne.symm hp215.2.2.2.2.2.2.2.2.2.2.1) nin0))
      have F252 : ownAI Z T244.heap at__215 .int 64 (ownUpd (ownUpd (ownUpd (ownUpd (ownUpd (ownUpd (fun _ => (0 : Int32)) 0 (0 : Int32)) 1 v1) 2 (1 : Int32)) 3 v2) 4 (1 : Int32)) 5 (1 : Int32)) := FP236_6.keep Kq244 (ninS (Ne.symm ne_b185_at__215) (ninS hp215.1 nin0))
      have F253 : ownAI Z T244.heap d1_215 .int (v2.toNatClampNeg) (own_swD (own_swD own_id (own_id v184.toNatClampNeg) (0 : Int32)) ((own_swQ own_id own_id (own_id v184.toNatClampNeg) (0 : Int32)) v184.toNatClampNeg) ((1 : Int32) - (1 : Int32))) := FP236_8.keep Kq244 (ninS (Ne.symm ne_b185_d1_215) (ninS (Ne.symm hp215.2.2.2.2.2.2.2.2.2.2.2.1) nin0))
      have F254 : ownAI Z T244.heap q1_215 .int (v2.toNatClampNeg) (own_swQ (own_swD own_id (own_id v184.toNatClampNeg) (0 : Int32)) (own_swQ own_id own_id (own_id v184.toNatClampNeg) (0 : Int32)) ((own_swQ own_id own_id (own_id v184.toNatClampNeg) (0 : Int32)) v184.toNatClampNeg) ((1 : Int32) - (1 : Int32))) := FP236_9.keep Kq244 (ninS (Ne.symm ne_b185_q1_215) (ninS (Ne.symm hp215.2.2.2.2.2.2.2.2.2.2.2.2.1) nin0))
      refine ownRun (T' := T244) (f' := (mkF m 180 #[iv p0, iv p1, iv p2, iv p3, iv p4, iv p5, iv v1, iv v2, iv (0 : Int32), iv (3 : Int32), iv v182, iv v183, iv v184, rv b185, iv v1, iv (0 : Int32)] [])) st244 ?_
      refine ow_aload (q := 182) X244 hx (hb hby at_180) rfl rfl rfl ?_
      refine ow_iconst (q := 183) X244 hx (0 : Int32) (hb hby at_182) rfl rfl ?_
      obtain ⟨cq255, kq255, q255a, q255b, q255c⟩ := isOf hZ rfl FP244_0
      obtain ⟨_, _, ⟨T255, L255, k255, n255⟩, -, X255, ⟨Lc255, hQ255, l255, y255, z255⟩, st255⟩ := X244.virtualBack hx (y := (⟨"com/example/sieveline/sieveline/model/CurrentDomains", "size", "(I)I"⟩ : MethodName)) (z := (⟨"com/example/sieveline/sieveline/model/CurrentDomains", "size", "(I)I"⟩ : MethodName)) hown (mvT hZ (ww 54 rfl)) (mvT hZ (ww 55 rfl)) (notFace_of_selects (args := #[]) (mvT hZ (ww 57 rfl))) (mvT hZ (ww 57 rfl)) (mvT hZ (ww 56 rfl)) (by decide) (backOf (W := 0) (rm_size_0 l Z av0 hw [] b185 as__215 (ownUpd (ownUpd (ownUpd (ownUpd (ownUpd (ownUpd (ownUpd (ownUpd (fun _ => (0 : Int32)) 0 v1) 1 v2) 0 (v1 - (1 : Int32))) 1 (1 : Int32)) 1 ((1 : Int32) - (1 : Int32))) 1 (1 : Int32)) 1 v2) 0 v1) T244.heap n0 (Nat.le_trans Z0 K244.1) FP244_2 FP244_6) hZ (ww 58 rfl) (ww 3 rfl) (by decide) (by decide)) q255a q255c (g := (mkF m 183 #[iv p0, iv p1, iv p2, iv p3, iv p4, iv p5, iv v1, iv v2, iv (0 : Int32), iv (3 : Int32), iv v182, iv v183, iv v184, rv b185, iv v1, iv (0 : Int32)] [(.int (0 : Int32)), (.ref b185)])) rfl (by rw [hml]; rfl) (Steps.refl _) (argsL := [(.int (0 : Int32))]) (rest := []) (lenOf own_pd4 rfl) rfl (by show 2 * 0 + _ ≤ _; exact Nat.le_of_eq rfl) (hb hby at_183) (fun _ _ => ⟨rfl, rfl, (by decide : 10 + 0 ≤ _), (by decide : 97 + 0 ≤ _)⟩)
      dsimp only [Pt.U, Pt.locs, Pt.cells, Pt.slots] at X255 l255 y255 z255 st255 hQ255
      subst l255 y255 z255
      obtain ⟨rfl, N255q, e255⟩ := hQ255
      have N255 := Fr.app N244 N255q
      refine ownRun (T' := T255) (f' := (mkF m 186 #[iv p0, iv p1, iv p2, iv p3, iv p4, iv p5, iv v1, iv v2, iv (0 : Int32), iv (3 : Int32), iv v182, iv v183, iv v184, rv b185, iv v1, iv (0 : Int32)] [(.int v1)])) st255 ?_
      refine ow_iload (q := 188) X255 hx (hb hby at_186) rfl rfl ?_
      refine ow_icmpNo (q := 191) X255 hx (hb hby at_188) rfl (Jvm.Free.XT.ii_ne_f rfl) ?_
      refine ow_aload (q := 193) X255 hx (hb hby at_191) rfl rfl rfl ?_
      refine ow_iconst (q := 194) X255 hx (1 : Int32) (hb hby at_193) rfl rfl ?_
      obtain ⟨cq256, kq256, q256a, q256b, q256c⟩ := isOf hZ e255 FP244_0
      obtain ⟨_, _, ⟨T256, L256, k256, n256⟩, -, X256, ⟨Lc256, hQ256, l256, y256, z256⟩, st256⟩ := X255.virtualBack hx (y := (⟨"com/example/sieveline/sieveline/model/CurrentDomains", "size", "(I)I"⟩ : MethodName)) (z := (⟨"com/example/sieveline/sieveline/model/CurrentDomains", "size", "(I)I"⟩ : MethodName)) hown (mvT hZ (ww 54 rfl)) (mvT hZ (ww 55 rfl)) (notFace_of_selects (args := #[]) (mvT hZ (ww 57 rfl))) (mvT hZ (ww 57 rfl)) (mvT hZ (ww 56 rfl)) (by decide) (backOf (W := 0) (rm_size_1 l Z av0 hw [] b185 as__215 (ownUpd (ownUpd (ownUpd (ownUpd (ownUpd (ownUpd (ownUpd (ownUpd (fun _ => (0 : Int32)) 0 v1) 1 v2) 0 (v1 - (1 : Int32))) 1 (1 : Int32)) 1 ((1 : Int32) - (1 : Int32))) 1 (1 : Int32)) 1 v2) 0 v1) T244.heap n0 (Nat.le_trans Z0 K244.1) FP244_2 FP244_6) hZ (ww 58 rfl) (ww 3 rfl) (by decide) (by decide)) q256a q256c (g := (mkF m 194 #[iv p0, iv p1, iv p2, iv p3, iv p4, iv p5, iv v1, iv v2, iv (0 : Int32), iv (3 : Int32), iv v182, iv v183, iv v184, rv b185, iv v1, iv (0 : Int32)] [(.int (1 : Int32)), (.ref b185)])) rfl (by rw [hml]; rfl) (Steps.refl _) (argsL := [(.int (1 : Int32))]) (rest := []) (lenOf own_pd4 rfl) rfl (by show 2 * 0 + _ ≤ _; exact Nat.le_of_eq rfl) (hb hby at_194) (fun _ _ => ⟨rfl, e255, (by decide : 10 + 0 ≤ _), (by decide : 97 + 0 ≤ _)⟩)
      dsimp only [Pt.U, Pt.locs, Pt.cells, Pt.slots] at X256 l256 y256 z256 st256 hQ256
      subst l256 y256 z256
      obtain ⟨rfl, N256q, e256⟩ := hQ256
      have N256 := Fr.app N255 N256q
      refine ownRun (T' := T256) (f' := (mkF m 197 #[iv p0, iv p1, iv p2, iv p3, iv p4, iv p5, iv v1, iv v2, iv (0 : Int32), iv (3 : Int32), iv v182, iv v183, iv v184, rv b185, iv v1, iv (0 : Int32)] [(.int v2)])) st256 ?_
      refine ow_iload (q := 199) X256 hx (hb hby at_197) rfl rfl ?_
      refine ow_icmpNo (q := 202) X256 hx (hb hby at_199) rfl (Jvm.Free.XT.ii_ne_f rfl) ?_
      refine ow_aload (q := 204) X256 hx (hb hby at_202) rfl rfl rfl ?_
      refine ow_iconst (q := 205) X256 hx (0 : Int32) (hb hby at_204) rfl rfl ?_
      refine ow_iload (q := 207) X256 hx (hb hby at_205) rfl rfl ?_
      obtain ⟨cq257, kq257, q257a, q257b, q257c⟩ := isOf hZ e256 FP244_0
      obtain ⟨_, _, ⟨T257, L257, k257, n257⟩, -, X257, ⟨Lc257, hQ257, l257, y257, z257⟩, st257⟩ := X256.virtualBack hx (y := (⟨"com/example/sieveline/sieveline/model/CurrentDomains", "contains", "(II)Z"⟩ : MethodName)) (z := (⟨"com/example/sieveline/sieveline/model/CurrentDomains", "contains", "(II)Z"⟩ : MethodName)) hown (mvT hZ (ww 59 rfl)) (mvT hZ (ww 60 rfl)) (notFace_of_selects (args := #[]) (mvT hZ (ww 62 rfl))) (mvT hZ (ww 62 rfl)) (mvT hZ (ww 61 rfl)) (by decide) (backOf (W := 0) (rm_contains l Z av0 hw [] b185 v182 as__215 ap_215 q0_215 q1_215 kp_215 (v1.toNatClampNeg) (own_swQ own_id own_id (own_id v183.toNatClampNeg) (v1 - (1 : Int32))) (ownUpd (ownUpd (ownUpd (ownUpd (ownUpd (ownUpd (ownUpd (ownUpd (fun _ => (0 : Int32)) 0 v1) 1 v2) 0 (v1 - (1 : Int32))) 1 (1 : Int32)) 1 ((1 : Int32) - (1 : Int32))) 1 (1 : Int32)) 1 v2) 0 v1) T244.heap n0 (Nat.le_trans Z0 K244.1) FP244_2 FP244_4 FP244_6 F249 F251 (own_v0 hv_v1 hv_v182)) hZ (ww 63 rfl) (ww 3 rfl) (by decide) (by decide)) q257a q257c (g := (mkF m 207 #[iv p0, iv p1, iv p2, iv p3, iv p4, iv p5, iv v1, iv v2, iv (0 : Int32), iv (3 : Int32), iv v182, iv v183, iv v184, rv b185, iv v1, iv (0 : Int32)] [(.int v182), (.int (0 : Int32)), (.ref b185)])) rfl (by rw [hml]; rfl) (Steps.refl _) (argsL := [(.int (0 : Int32)), (.int v182)]) (rest := []) (lenOf own_pd5 rfl) rfl (by show 2 * 0 + _ ≤ _; exact Nat.le_of_eq rfl) (hb hby at_207) (fun _ _ => ⟨rfl, e256, (by decide : 10 + 0 ≤ _), (by decide : 97 + 0 ≤ _)⟩)
      dsimp only [Pt.U, Pt.locs, Pt.cells, Pt.slots] at X257 l257 y257 z257 st257 hQ257
      subst l257 y257 z257
      obtain ⟨rfl, N257q, e257⟩ := hQ257
      have N257 := Fr.app N256 N257q
      refine ownRun (T' := T257) (f' := (mkF m 210 #[iv p0, iv p1, iv p2, iv p3, iv p4, iv p5, iv v1, iv v2, iv (0 : Int32), iv (3 : Int32), iv v182, iv v183, iv v184, rv b185, iv v1, iv (0 : Int32)] [(.int (if ((own_swQ own_id own_id (own_id v183.toNatClampNeg) (v1 - (1 : Int32))) v182.toNatClampNeg) < v1 then (1 : Int32) else (0 : Int32)))])) st257 ?_
      refine ow_iload (q := 212) X257 hx (hb hby at_210) rfl rfl ?_
      refine ow_ifNo (q := 215) X257 hx (hb hby at_212) rfl (Jvm.Free.XT.i0_ne_f (by decide)) ?_
      refine ow_iconst (q := 216) X257 hx (1 : Int32) (hb hby at_215) rfl rfl ?_
      refine ow_goto (q := 220) X257 hx (hb hby at_216) (by decide) (by decide) ?_
      refine ow_icmpNo (q := 223) X257 hx (hb hby at_220) rfl (Jvm.Free.XT.ii_ne_f (by rw [if_pos (own_t1 hv_v1 hv_v182 hv_v183)])) ?_
      refine ow_aload (q := 225) X257 hx (hb hby at_223) rfl rfl rfl ?_
      obtain ⟨cq258, kq258, q258a, q258b, q258c⟩ := isOf hZ e257 FP244_0
      obtain ⟨_, _, ⟨T258, L258, k258, n258⟩, -, X258, ⟨Lc258, hQ258, l258, y258, z258⟩, st258⟩ := X257.virtualBack hx (y := (⟨"com/example/sieveline/sieveline/model/CurrentDomains", "mark", "()I"⟩ : MethodName)) (z := (⟨"com/example/sieveline/sieveline/model/CurrentDomains", "mark", "()I"⟩ : MethodName)) hown (mvT hZ (ww 29 rfl)) (mvT hZ (ww 30 rfl)) (notFace_of_selects (args := #[]) (mvT hZ (ww 32 rfl))) (mvT hZ (ww 32 rfl)) (mvT hZ (ww 31 rfl)) (by decide) (backOf (W := 0) (rm_mark l Z av0 hw [] b185 (0 : Int32) T244.heap n0 (Nat.le_trans Z0 K244.1) FP244_5) hZ (ww 33 rfl) (ww 3 rfl) (by decide) (by decide)) q258a q258c (g := (mkF m 225 #[iv p0, iv p1, iv p2, iv p3, iv p4, iv p5, iv v1, iv v2, iv (0 : Int32), iv (3 : Int32), iv v182, iv v183, iv v184, rv b185, iv v1, iv (0 : Int32)] [(.ref b185)])) rfl (by rw [hml]; rfl) (Steps.refl _) (argsL := []) (rest := []) (lenOf own_pd3 rfl) rfl (by show 2 * 0 + _ ≤ _; exact Nat.le_of_eq rfl) (hb hby at_225) (fun _ _ => ⟨rfl, e257, (by decide : 10 + 0 ≤ _), (by decide : 97 + 0 ≤ _)⟩)
      dsimp only [Pt.U, Pt.locs, Pt.cells, Pt.slots] at X258 l258 y258 z258 st258 hQ258
      subst l258 y258 z258
      obtain ⟨rfl, N258q, e258⟩ := hQ258
      have N258 := Fr.app N257 N258q
      refine ownRun (T' := T258) (f' := (mkF m 228 #[iv p0, iv p1, iv p2, iv p3, iv p4, iv p5, iv v1, iv v2, iv (0 : Int32), iv (3 : Int32), iv v182, iv v183, iv v184, rv b185, iv v1, iv (0 : Int32)] [(.int (0 : Int32))])) st258 ?_
      refine ow_iload (q := 230) X258 hx (hb hby at_228) rfl rfl ?_
      refine ow_icmpNo (q := 233) X258 hx (hb hby at_230) rfl (Jvm.Free.XT.ii_ne_f (by decide)) ?_
      refine ow_iconst (q := 234) X258 hx (1 : Int32) (hb hby at_233) rfl rfl ?_
      refine ow_goto (q := 238) X258 hx (hb hby at_234) (by decide) (by decide) ?_
      refine ownRetN X258 hx (r := (1 : Int32)) (Or.inl rfl) Bd.returns (hb hby at_238) hlk (by decide) (by decide) (by decide) ?_
      exact ⟨rfl, N258⟩
  · refine ow_ifNo (q := 20) X0 hx (hb hby at_17) rfl (Jvm.Free.XT.i0_eq_f hc17_3) ?_
    refine ow_iconst (q := 21) X0 hx (1 : Int32) (hb hby at_20) rfl rfl ?_
    refine ow_goto (q := 25) X0 hx (hb hby at_21) (by decide) (by decide) ?_
    refine ow_istore (q := 27) X0 hx (L' := #[iv p0, iv p1, iv p2, iv p3, iv p4, iv p5, iv v1, iv v2, iv (1 : Int32), .unset, .unset, .unset, .unset, .unset, .unset, .unset]) (hb hby at_25) rfl rfl ?_
    refine ow_iloadN (q := 28) X0 hx (hb hby at_27) rfl rfl ?_
    refine ow_iconst (q := 29) X0 hx (1 : Int32) (hb hby at_28) rfl rfl ?_
    refine ow_iushr (q := 30) X0 hx _ (hb hby at_29) rfl rfl ?_
    refine ow_iconst (q := 31) X0 hx (3 : Int32) (hb hby at_30) rfl rfl ?_
    refine ow_iand (q := 32) X0 hx _ (hb hby at_31) rfl rfl ?_
    generalize hv_v259 : (((p2.toUInt32 >>> ((1 : Int32) &&& 31).toUInt32).toInt32) &&& (3 : Int32)) = v259
    refine ow_istore (q := 34) X0 hx (L' := #[iv p0, iv p1, iv p2, iv p3, iv p4, iv p5, iv v1, iv v2, iv (1 : Int32), iv v259, .unset, .unset, .unset, .unset, .unset, .unset]) (hb hby at_32) rfl rfl ?_
    rcases own_and3 hv_v259 with hs260 | hs261 | hs262 | hs263
    · subst hs260
      refine ow_iloadN (q := 35) X0 hx (hb hby at_34) rfl rfl ?_
      refine ownGo (T' := s₁) (f' := (mkF m 37 #[iv p0, iv p1, iv p2, iv p3, iv p4, iv p5, iv v1, iv v2, iv (1 : Int32), iv (0 : Int32), .unset, .unset, .unset, .unset, .unset, .unset] [(.int (2147483647 : Int32)), (.int p3)])) (X0.ldcInt hx hown (mvT hZ (ww 0 rfl)) (g := (mkF m 35 #[iv p0, iv p1, iv p2, iv p3, iv p4, iv p5, iv v1, iv v2, iv (1 : Int32), iv (0 : Int32), .unset, .unset, .unset, .unset, .unset, .unset] [(.int p3)])) rfl (hb hby at_35)) ?_
      refine ow_iand (q := 38) X0 hx _ (hb hby at_37) rfl rfl ?_
      refine ow_iload (q := 40) X0 hx (hb hby at_38) rfl rfl ?_
      refine ow_irem (q := 41) X0 hx _ (hb hby at_40) rfl (own_z0 hv_v1) rfl ?_
      generalize hv_v264 : ((p3 &&& (2147483647 : Int32)) % v1) = v264
      refine ow_istore (q := 43) X0 hx (L' := #[iv p0, iv p1, iv p2, iv p3, iv p4, iv p5, iv v1, iv v2, iv (1 : Int32), iv (0 : Int32), iv v264, .unset, .unset, .unset, .unset, .unset]) (hb hby at_41) rfl rfl ?_
      refine ow_iload (q := 45) X0 hx (hb hby at_43) rfl rfl ?_
      refine ow_iconst (q := 46) X0 hx (1 : Int32) (hb hby at_45) rfl rfl ?_
      refine ow_iadd (q := 47) X0 hx _ (hb hby at_46) rfl rfl ?_
      refine ow_iload (q := 49) X0 hx (hb hby at_47) rfl rfl ?_
      refine ownGo (T' := s₁) (f' := (mkF m 51 #[iv p0, iv p1, iv p2, iv p3, iv p4, iv p5, iv v1, iv v2, iv (1 : Int32), iv (0 : Int32), iv v264, .unset, .unset, .unset, .unset, .unset] [(.int (2147483647 : Int32)), (.int p4), (.int (v264 + (1 : Int32)))])) (X0.ldcInt hx hown (mvT hZ (ww 0 rfl)) (g := (mkF m 49 #[iv p0, iv p1, iv p2, iv p3, iv p4, iv p5, iv v1, iv v2, iv (1 : Int32), iv (0 : Int32), iv v264, .unset, .unset, .unset, .unset, .unset] [(.int p4), (.int (v264 + (1 : Int32)))])) rfl (hb hby at_49)) ?_
      refine ow_iand (q := 52) X0 hx _ (hb hby at_51) rfl rfl ?_
      refine ow_iload (q := 54) X0 hx (hb hby at_52) rfl rfl ?_
      refine ow_iconst (q := 55) X0 hx (1 : Int32) (hb hby at_54) rfl rfl ?_
      refine ow_isub (q := 56) X0 hx _ (hb hby at_55) rfl rfl ?_
      refine ow_irem (q := 57) X0 hx _ (hb hby at_56) rfl (own_z0m hv_v1) rfl ?_
      refine ow_iadd (q := 58) X0 hx _ (hb hby at_57) rfl rfl ?_
      refine ow_iload (q := 60) X0 hx (hb hby at_58) rfl rfl ?_
      refine ow_irem (q := 61) X0 hx _ (hb hby at_60) rfl (own_z0 hv_v1) rfl ?_
      generalize hv_v265 : (((v264 + (1 : Int32)) + ((p4 &&& (2147483647 : Int32)) % (v1 - (1 : Int32)))) % v1) = v265
      refine ow_istore (q := 63) X0 hx (L' := #[iv p0, iv p1, iv p2, iv p3, iv p4, iv p5, iv v1, iv v2, iv (1 : Int32), iv (0 : Int32), iv v264, iv v265, .unset, .unset, .unset, .unset]) (hb hby at_61) rfl rfl ?_
      refine ow_iload (q := 65) X0 hx (hb hby at_63) rfl rfl ?_
      refine ownGo (T' := s₁) (f' := (mkF m 67 #[iv p0, iv p1, iv p2, iv p3, iv p4, iv p5, iv v1, iv v2, iv (1 : Int32), iv (0 : Int32), iv v264, iv v265, .unset, .unset, .unset, .unset] [(.int (2147483647 : Int32)), (.int p5)])) (X0.ldcInt hx hown (mvT hZ (ww 0 rfl)) (g := (mkF m 65 #[iv p0, iv p1, iv p2, iv p3, iv p4, iv p5, iv v1, iv v2, iv (1 : Int32), iv (0 : Int32), iv v264, iv v265, .unset, .unset, .unset, .unset] [(.int p5)])) rfl (hb hby at_65)) ?_
      refine ow_iand (q := 68) X0 hx _ (hb hby at_67) rfl rfl ?_
      refine ow_iload (q := 70) X0 hx (hb hby at_68) rfl rfl ?_
      refine ow_irem (q := 71) X0 hx _ (hb hby at_70) rfl (own_z1 hv_v2) rfl ?_
      generalize hv_v266 : ((p5 &&& (2147483647 : Int32)) % v2) = v266
      refine ow_istore (q := 73) X0 hx (L' := #[iv p0, iv p1, iv p2, iv p3, iv p4, iv p5, iv v1, iv v2, iv (1 : Int32), iv (0 : Int32), iv v264, iv v265, iv v266, .unset, .unset, .unset]) (hb hby at_71) rfl rfl ?_
      obtain ⟨T267, h267, X267, e267, E267, A267, D267, -, st267⟩ := newO X0 hx hZ hown (ww 1 rfl) (ww 2 rfl) (ww 3 rfl) e0 (g := (mkF m 73 #[iv p0, iv p1, iv p2, iv p3, iv p4, iv p5, iv v1, iv v2, iv (1 : Int32), iv (0 : Int32), iv v264, iv v265, iv v266, .unset, .unset, .unset] [])) rfl (hb hby at_73) (by decide) (by decide)
      obtain ⟨b267, g267⟩ : ∃ z, z = h0.size := ⟨_, rfl⟩
      rw [← g267] at A267 D267 st267
      have sz_b267 : h0.size ≤ b267 := Nat.le_trans K0.1 (Nat.le_of_eq g267.symm)
      have G_b267 : n0 ≤ b267 := Nat.le_trans Z0 sz_b267
      have K267 : Keep h0 h267 [] := K0.ext E267
      have F268 : Fld Z h267 b267 "com/example/sieveline/sieveline/model/CurrentDomains" "trail" "[I" .null := D267 (Or.inl (ww 12 rfl)) (ty := (.array .int)) (by decide)
      have F269 : Fld Z h267 b267 "com/example/sieveline/sieveline/model/CurrentDomains" "size" "[I" .null := D267 (Or.inr (ww 23 rfl)) (ty := (.array .int)) (by decide)
      have F270 : Fld Z h267 b267 "com/example/sieveline/sieveline/model/CurrentDomains" "dense" "[[I" .null := D267 (Or.inr (ww 26 rfl)) (ty := (.array (.array .int))) (by decide)
      have F271 : Fld Z h267 b267 "com/example/sieveline/sieveline/model/CurrentDomains" "position" "[[I" .null := D267 (Or.inr (ww 28 rfl)) (ty := (.array (.array .int))) (by decide)
      have F272 : Fld Z h267 b267 "com/example/sieveline/sieveline/model/CurrentDomains" "top" "I" (.int (0 : Int32)) := D267 (Or.inl (ww 35 rfl)) (ty := .int) (by decide)
      refine ownGo (T' := T267) (f' := (mkF m 76 #[iv p0, iv p1, iv p2, iv p3, iv p4, iv p5, iv v1, iv v2, iv (1 : Int32), iv (0 : Int32), iv v264, iv v265, iv v266, .unset, .unset, .unset] [(.ref b267)])) (st267) ?_
      refine ow_dup (q := 77) X267 hx (hb hby at_76) rfl rfl ?_
      refine ow_iconst (q := 78) X267 hx (2 : Int32) (hb hby at_77) rfl rfl ?_
      obtain ⟨T273, h273, k273, X273, e273, E273, A273, EA273, st273⟩ := newPE X267 hx hZ (ww 4 rfl) e267 (g := (mkF m 78 #[iv p0, iv p1, iv p2, iv p3, iv p4, iv p5, iv v1, iv v2, iv (1 : Int32), iv (0 : Int32), iv v264, iv v265, iv v266, .unset, .unset, .unset] [(.int (2 : Int32)), (.ref b267), (.ref b267)])) rfl (hb hby at_78) rfl (by decide) (cap := 2) (by decide) (by decide) (by decide) (by decide) (ad := "[I") (by decide)
      obtain ⟨b273, g273⟩ : ∃ z, z = h267.size := ⟨_, rfl⟩
      rw [← g273] at A273 st273 EA273
      have ne_b267_b273 : b267 ≠ b273 := Nat.ne_of_lt (Nat.lt_of_lt_of_le A267.lt (Nat.le_of_eq g273.symm))
      have sz_b273 : h0.size ≤ b273 := Nat.le_trans K267.1 (Nat.le_of_eq g273.symm)
      have G_b273 : n0 ≤ b273 := Nat.le_trans Z0 sz_b273
      have K273 : Keep h0 h273 [] := K267.ext E273
      have F274 : Exa Z h273 b267 "com/example/sieveline/sieveline/model/CurrentDomains" := A267.ext E273
      have F275 : Fld Z h273 b267 "com/example/sieveline/sieveline/model/CurrentDomains" "trail" "[I" .null := F268.ext E273
      have F276 : Fld Z h273 b267 "com/example/sieveline/sieveline/model/CurrentDomains" "size" "[I" .null := F269.ext E273
      have F277 : Fld Z h273 b267 "com/example/sieveline/sieveline/model/CurrentDomains" "dense" "[[I" .null := F270.ext E273
      have F278 : Fld Z h273 b267 "com/example/sieveline/sieveline/model/CurrentDomains" "position" "[[I" .null := F271.ext E273
      have F279 : Fld Z h273 b267 "com/example/sieveline/sieveline/model/CurrentDomains" "top" "I" (.int (0 : Int32)) := F272.ext E273
      have F280 : ownAI Z h273 b273 .int 2 (fun _ => (0 : Int32)) := ownAI.new A273 (by decide) rfl (by decide)
      refine ownGo (T' := T273) (f' := (mkF m 80 #[iv p0, iv p1, iv p2, iv p3, iv p4, iv p5, iv v1, iv v2, iv (1 : Int32), iv (0 : Int32), iv v264, iv v265, iv v266, .unset, .unset, .unset] [(.ref b273), (.ref b267), (.ref b267)])) (st273) ?_
      refine ow_dup (q := 81) X273 hx (hb hby at_80) rfl rfl ?_
      refine ow_iconst (q := 82) X273 hx (0 : Int32) (hb hby at_81) rfl rfl ?_
      refine ow_iload (q := 84) X273 hx (hb hby at_82) rfl rfl ?_
      obtain ⟨T281, h281, X281, e281, W281, F281s, st281⟩ := ownIastore F280 X273 hx hZ e273 (j := (0 : Int32)) (by unfold ownIn; decide) (g := (mkF m 84 #[iv p0, iv p1, iv p2, iv p3, iv p4, iv p5, iv v1, iv v2, iv (1 : Int32), iv (0 : Int32), iv v264, iv v265, iv v266, .unset, .unset, .unset] [(.int v1), (.int (0 : Int32)), (.ref b273), (.ref b273), (.ref b267), (.ref b267)])) rfl rfl (hb hby at_84)
      have F281r : ownAI Z h281 b273 .int 2 (ownUpd (fun _ => (0 : Int32)) 0 v1) := F281s
      have N281 := Fr.snoc X281 N0 G_b273
      have K281 : Keep h0 h281 [] := K273.wr W281 (Or.inr sz_b273)
      have F282 : Exa Z h281 b267 "com/example/sieveline/sieveline/model/CurrentDomains" := F274.wr W281
      have F283 : Fld Z h281 b267 "com/example/sieveline/sieveline/model/CurrentDomains" "trail" "[I" .null := F275.other W281 (Or.inl ne_b267_b273)
      have F284 : Fld Z h281 b267 "com/example/sieveline/sieveline/model/CurrentDomains" "size" "[I" .null := F276.other W281 (Or.inl ne_b267_b273)
      have F285 : Fld Z h281 b267 "com/example/sieveline/sieveline/model/CurrentDomains" "dense" "[[I" .null := F277.other W281 (Or.inl ne_b267_b273)
      have F286 : Fld Z h281 b267 "com/example/sieveline/sieveline/model/CurrentDomains" "position" "[[I" .null := F278.other W281 (Or.inl ne_b267_b273)
      have F287 : Fld Z h281 b267 "com/example/sieveline/sieveline/model/CurrentDomains" "top" "I" (.int (0 : Int32)) := F279.other W281 (Or.inl ne_b267_b273)
      have F288 : Exa Z h281 b273 "[I" := EA273.wr W281
      refine ownGo (T' := T281) (f' := (mkF m 85 #[iv p0, iv p1, iv p2, iv p3, iv p4, iv p5, iv v1, iv v2, iv (1 : Int32), iv (0 : Int32), iv v264, iv v265, iv v266, .unset, .unset, .unset] [(.ref b273), (.ref b267), (.ref b267)])) (st281) ?_
      refine ow_dup (q := 86) X281 hx (hb hby at_85) rfl rfl ?_
      refine ow_iconst (q := 87) X281 hx (1 : Int32) (hb hby at_86) rfl rfl ?_
      refine ow_iload (q := 89) X281 hx (hb hby at_87) rfl rfl ?_
      obtain ⟨T289, h289, X289, e289, W289, F289s, st289⟩ := ownIastore F281r X281 hx hZ e281 (j := (1 : Int32)) (by unfold ownIn; decide) (g := (mkF m 89 #[iv p0, iv p1, iv p2, iv p3, iv p4, iv p5, iv v1, iv v2, iv (1 : Int32), iv (0 : Int32), iv v264, iv v265, iv v266, .unset, .unset, .unset] [(.int v2), (.int (1 : Int32)), (.ref b273), (.ref b273), (.ref b267), (.ref b267)])) rfl rfl (hb hby at_89)
      have F289r : ownAI Z h289 b273 .int 2 (ownUpd (ownUpd (fun _ => (0 : Int32)) 0 v1) 1 v2) := F289s
      have N289 := Fr.snoc X289 N281 G_b273
      have K289 : Keep h0 h289 [] := K281.wr W289 (Or.inr sz_b273)
      have F290 : Exa Z h289 b267 "com/example/sieveline/sieveline/model/CurrentDomains" := F282.wr W289
      have F291 : Fld Z h289 b267 "com/example/sieveline/sieveline/model/CurrentDomains" "trail" "[I" .null := F283.other W289 (Or.inl ne_b267_b273)
      have F292 : Fld Z h289 b267 "com/example/sieveline/sieveline/model/CurrentDomains" "size" "[I" .null := F284.other W289 (Or.inl ne_b267_b273)
      have F293 : Fld Z h289 b267 "com/example/sieveline/sieveline/model/CurrentDomains" "dense" "[[I" .null := F285.other W289 (Or.inl ne_b267_b273)
      have F294 : Fld Z h289 b267 "com/example/sieveline/sieveline/model/CurrentDomains" "position" "[[I" .null := F286.other W289 (Or.inl ne_b267_b273)
      have F295 : Fld Z h289 b267 "com/example/sieveline/sieveline/model/CurrentDomains" "top" "I" (.int (0 : Int32)) := F287.other W289 (Or.inl ne_b267_b273)
      have F296 : Exa Z h289 b273 "[I" := F288.wr W289
      refine ownGo (T' := T289) (f' := (mkF m 90 #[iv p0, iv p1, iv p2, iv p3, iv p4, iv p5, iv v1, iv v2, iv (1 : Int32), iv (0 : Int32), iv v264, iv v265, iv v266, .unset, .unset, .unset] [(.ref b273), (.ref b267), (.ref b267)])) (st289) ?_
      obtain ⟨_, _, ⟨T297, L297, k297, n297⟩, -, X297, ⟨Lc297, hQ297, l297, y297, z297⟩, st297⟩ := X289.specialBack hx (y := (⟨"com/example/sieveline/sieveline/model/CurrentDomains", "<init>", "([I)V"⟩ : MethodName)) rfl hown (mvT hZ (ww 5 rfl)) (mvT hZ (ww 6 rfl)) (mvT hZ (ww 7 rfl)) (by decide) (backOf (W := 1) (rm_init l Z av0 hw [] b267 b273 v1 v2 h289 n0 (Nat.le_trans Z0 K289.1) F290 F291 F292 F293 F294 F295 F289r F296 G_b267 (own_h0 hv_v1) (own_h1 hv_v2) ne_b267_b273) hZ (ww 7 rfl) (ww 3 rfl) (by decide) (by decide)) (g := (mkF m 90 #[iv p0, iv p1, iv p2, iv p3, iv p4, iv p5, iv v1, iv v2, iv (1 : Int32), iv (0 : Int32), iv v264, iv v265, iv v266, .unset, .unset, .unset] [(.ref b273), (.ref b267), (.ref b267)])) rfl (by rw [hml]; rfl) (Steps.refl _) (a := b267) (argsL := [(.ref b273)]) (rest := [(.ref b267)]) (lenOf own_pd2 rfl) rfl (by show 2 * 0 + _ ≤ _; exact Nat.le_of_eq rfl) (hb hby at_90) (fun _ _ => ⟨rfl, e289, (by decide : 2 + 8 ≤ _), (by decide : 7 + 90 ≤ _)⟩)
      dsimp only [Pt.U, Pt.locs, Pt.cells, Pt.slots] at X297 l297 y297 z297 st297 hQ297
      subst l297 y297 z297
      obtain ⟨at__297, as__297, ad_297, ap_297, d0_297, q0_297, d1_297, q1_297, kd_297, kp_297, rfl, N297q, Kq297, sq297_at__297, sq297_as__297, sq297_ad_297, sq297_ap_297, sq297_d0_297, sq297_q0_297, sq297_d1_297, sq297_q1_297, FP297_0, FP297_1, FP297_2, FP297_3, FP297_4, FP297_5, FP297_6, FP297_7, FP297_8, FP297_9, FP297_10, FP297_11, FP297_12, FP297_13, hp297⟩ := hQ297
      have N297 := Fr.app N289 N297q
      have K297 : Keep h0 T297.heap [] := K289.trans Kq297 (allS (Or.inr sz_b267) all0)
      have ne_b267_at__297 : b267 ≠ at__297 := Nat.ne_of_lt (Nat.lt_of_lt_of_le F290.lt sq297_at__297)
      have ne_b273_at__297 : b273 ≠ at__297 := Nat.ne_of_lt (Nat.lt_of_lt_of_le F296.lt sq297_at__297)
      have sz_at__297 : h0.size ≤ at__297 := Nat.le_trans K289.1 sq297_at__297
      have G_at__297 : n0 ≤ at__297 := Nat.le_trans Z0 sz_at__297
      have ne_b267_as__297 : b267 ≠ as__297 := Nat.ne_of_lt (Nat.lt_of_lt_of_le F290.lt sq297_as__297)
      have ne_b273_as__297 : b273 ≠ as__297 := Nat.ne_of_lt (Nat.lt_of_lt_of_le F296.lt sq297_as__297)
      have sz_as__297 : h0.size ≤ as__297 := Nat.le_trans K289.1 sq297_as__297
      have G_as__297 : n0 ≤ as__297 := Nat.le_trans Z0 sz_as__297
      have ne_b267_ad_297 : b267 ≠ ad_297 := Nat.ne_of_lt (Nat.lt_of_lt_of_le F290.lt sq297_ad_297)
      have ne_b273_ad_297 : b273 ≠ ad_297 := Nat.ne_of_lt (Nat.lt_of_lt_of_le F296.lt sq297_ad_297)
      have sz_ad_297 : h0.size ≤ ad_297 := Nat.le_trans K289.1 sq297_ad_297
      have G_ad_297 : n0 ≤ ad_297 := Nat.le_trans Z0 sz_ad_297
      have ne_b267_ap_297 : b267 ≠ ap_297 := Nat.ne_of_lt (Nat.lt_of_lt_of_le F290.lt sq297_ap_297)
      have ne_b273_ap_297 : b273 ≠ ap_297 := Nat.ne_of_lt (Nat.lt_of_lt_of_le F296.lt sq297_ap_297)
      have sz_ap_297 : h0.size ≤ ap_297 := Nat.le_trans K289.1 sq297_ap_297
      have G_ap_297 : n0 ≤ ap_297 := Nat.le_trans Z0 sz_ap_297
      have ne_b267_d0_297 : b267 ≠ d0_297 := Nat.ne_of_lt (Nat.lt_of_lt_of_le F290.lt sq297_d0_297)
      have ne_b273_d0_297 : b273 ≠ d0_297 := Nat.ne_of_lt (Nat.lt_of_lt_of_le F296.lt sq297_d0_297)
      have sz_d0_297 : h0.size ≤ d0_297 := Nat.le_trans K289.1 sq297_d0_297
      have G_d0_297 : n0 ≤ d0_297 := Nat.le_trans Z0 sz_d0_297
      have ne_b267_q0_297 : b267 ≠ q0_297 := Nat.ne_of_lt (Nat.lt_of_lt_of_le F290.lt sq297_q0_297)
      have ne_b273_q0_297 : b273 ≠ q0_297 := Nat.ne_of_lt (Nat.lt_of_lt_of_le F296.lt sq297_q0_297)
      have sz_q0_297 : h0.size ≤ q0_297 := Nat.le_trans K289.1 sq297_q0_297
      have G_q0_297 : n0 ≤ q0_297 := Nat.le_trans Z0 sz_q0_297
      have ne_b267_d1_297 : b267 ≠ d1_297 := Nat.ne_of_lt (Nat.lt_of_lt_of_le F290.lt sq297_d1_297)
      have ne_b273_d1_297 : b273 ≠ d1_297 := Nat.ne_of_lt (Nat.lt_of_lt_of_le F296.lt sq297_d1_297)
      have sz_d1_297 : h0.size ≤ d1_297 := Nat.le_trans K289.1 sq297_d1_297
      have G_d1_297 : n0 ≤ d1_297 := Nat.le_trans Z0 sz_d1_297
      have ne_b267_q1_297 : b267 ≠ q1_297 := Nat.ne_of_lt (Nat.lt_of_lt_of_le F290.lt sq297_q1_297)
      have ne_b273_q1_297 : b273 ≠ q1_297 := Nat.ne_of_lt (Nat.lt_of_lt_of_le F296.lt sq297_q1_297)
      have sz_q1_297 : h0.size ≤ q1_297 := Nat.le_trans K289.1 sq297_q1_297
      have G_q1_297 : n0 ≤ q1_297 := Nat.le_trans Z0 sz_q1_297
      have F298 : Exa Z T297.heap b267 "com/example/sieveline/sieveline/model/CurrentDomains" := F290.keep Kq297
      have F299 : Exa Z T297.heap b273 "[I" := F296.keep Kq297
      have F300 : ownAI Z T297.heap b273 .int 2 (ownUpd (ownUpd (fun _ => (0 : Int32)) 0 v1) 1 v2) := F289r.keep Kq297 (ninS (Ne.symm ne_b267_b273) nin0)
      refine ownRun (T' := T297) (f' := (mkF m 93 #[iv p0, iv p1, iv p2, iv p3, iv p4, iv p5, iv v1, iv v2, iv (1 : Int32), iv (0 : Int32), iv v264, iv v265, iv v266, .unset, .unset, .unset] [(.ref b267)])) st297 ?_
      refine ow_astore (q := 95) X297 hx (L' := #[iv p0, iv p1, iv p2, iv p3, iv p4, iv p5, iv v1, iv v2, iv (1 : Int32), iv (0 : Int32), iv v264, iv v265, iv v266, rv b267, .unset, .unset]) (hb hby at_93) rfl rfl rfl ?_
      refine ow_iload (q := 97) X297 hx (hb hby at_95) rfl rfl ?_
      refine ow_ifNo (q := 100) X297 hx (hb hby at_97) rfl (Jvm.Free.XT.i0_eq_f (by decide)) ?_
      refine ow_aload (q := 102) X297 hx (hb hby at_100) rfl rfl rfl ?_
      refine ow_iconst (q := 103) X297 hx (0 : Int32) (hb hby at_102) rfl rfl ?_
      refine ow_iload (q := 105) X297 hx (hb hby at_103) rfl rfl ?_
      obtain ⟨cq301, kq301, q301a, q301b, q301c⟩ := isOf hZ rfl FP297_0
      obtain ⟨_, _, ⟨T301, L301, k301, n301⟩, -, X301, ⟨Lc301, hQ301, l301, y301, z301⟩, st301⟩ := X297.virtualBack hx (y := (⟨"com/example/sieveline/sieveline/model/CurrentDomains", "remove", "(II)V"⟩ : MethodName)) (z := (⟨"com/example/sieveline/sieveline/model/CurrentDomains", "remove", "(II)V"⟩ : MethodName)) hown (mvT hZ (ww 36 rfl)) (mvT hZ (ww 37 rfl)) (notFace_of_selects (args := #[]) (mvT hZ (ww 39 rfl))) (mvT hZ (ww 39 rfl)) (mvT hZ (ww 38 rfl)) (by decide) (backOf (W := 0) (rm_remove_0_0 l Z av0 hw [] b267 v264 at__297 as__297 ad_297 ap_297 d0_297 q0_297 d1_297 q1_297 kd_297 kp_297 (v1.toNatClampNeg) own_id own_id (fun _ => (0 : Int32)) (ownUpd (ownUpd (fun _ => (0 : Int32)) 0 v1) 1 v2) T297.heap n0 (Nat.le_trans Z0 K297.1) FP297_0 FP297_1 FP297_2 FP297_3 FP297_4 FP297_5 FP297_6 FP297_7 FP297_8 FP297_9 FP297_10 FP297_11 G_b267 G_at__297 G_as__297 G_d0_297 G_q0_297 (ne_b267_at__297) (ne_b267_as__297) (ne_b267_ad_297) (ne_b267_ap_297) (ne_b267_d0_297) (ne_b267_q0_297) (hp297.1) (hp297.2.1) (hp297.2.2.1) (hp297.2.2.2.1) (hp297.2.2.2.2.1) (hp297.2.2.2.2.2.2.2.1) (hp297.2.2.2.2.2.2.2.2.1) (hp297.2.2.2.2.2.2.2.2.2.1) (hp297.2.2.2.2.2.2.2.2.2.2.1) (hp297.2.2.2.2.2.2.2.2.2.2.2.2.2.1) (hp297.2.2.2.2.2.2.2.2.2.2.2.2.2.2.1) (hp297.2.2.2.2.2.2.2.2.2.2.2.2.2.2.2.1) (hp297.2.2.2.2.2.2.2.2.2.2.2.2.2.2.2.2.2.2.1) (hp297.2.2.2.2.2.2.2.2.2.2.2.2.2.2.2.2.2.2.2.1) (hp297.2.2.2.2.2.2.2.2.2.2.2.2.2.2.2.2.2.2.2.2.2.2.1) (own_v0 hv_v1 hv_v264) own_rg_id own_rg_id (own_s0 hv_v1)) hZ (ww 40 rfl) (ww 3 rfl) (by decide) (by decide)) q301a q301c (g := (mkF m 105 #[iv p0, iv p1, iv p2, iv p3, iv p4, iv p5, iv v1, iv v2, iv (1 : Int32), iv (0 : Int32), iv v264, iv v265, iv v266, rv b267, .unset, .unset] [(.int v264), (.int (0 : Int32)), (.ref b267)])) rfl (by rw [hml]; rfl) (Steps.refl _) (argsL := [(.int (0 : Int32)), (.int v264)]) (rest := []) (lenOf own_pd6 rfl) rfl (by show 2 * 0 + _ ≤ _; exact Nat.le_of_eq rfl) (hb hby at_105) (fun _ _ => ⟨rfl, rfl, (by decide : 10 + 0 ≤ _), (by decide : 97 + 0 ≤ _)⟩)
      dsimp only [Pt.U, Pt.locs, Pt.cells, Pt.slots] at X301 l301 y301 z301 st301 hQ301
      subst l301 y301 z301
      obtain ⟨rfl, N301q, Kq301, FP301_0, FP301_1, FP301_2, FP301_3, FP301_4, FP301_5, FP301_6, FP301_7, FP301_8, FP301_9⟩ := hQ301
      have N301 := Fr.app N297 N301q
      have K301 : Keep h0 T301.heap [] := K297.trans Kq301 (allS (Or.inr sz_b267) (allS (Or.inr sz_at__297) (allS (Or.inr sz_as__297) (allS (Or.inr sz_d0_297) (allS (Or.inr sz_q0_297) all0)))))
      have F302 : Exa Z T301.heap b267 "com/example/sieveline/sieveline/model/CurrentDomains" := FP297_0.keep Kq301
      have F303 : Exa Z T301.heap b273 "[I" := F299.keep Kq301
      have F304 : ownAI Z T301.heap b273 .int 2 (ownUpd (ownUpd (fun _ => (0 : Int32)) 0 v1) 1 v2) := F300.keep Kq301 (ninS (Ne.symm ne_b267_b273) (ninS ne_b273_at__297 (ninS ne_b273_as__297 (ninS ne_b273_d0_297 (ninS ne_b273_q0_297 nin0)))))
      have F305 : ownAR Z T301.heap ad_297 kd_297 2 (ownUpd (ownUpd (fun _ => Value.null) 0 (.ref d0_297)) 1 (.ref d1_297)) := FP297_8.keep Kq301 (ninS (Ne.symm ne_b267_ad_297) (ninS (Ne.symm hp297.2.1) (ninS (Ne.symm hp297.2.2.2.2.2.2.2.1) (ninS hp297.2.2.2.2.2.2.2.2.2.2.2.2.2.2.1 (ninS hp297.2.2.2.2.2.2.2.2.2.2.2.2.2.2.2.1 nin0)))))
      have F306 : ownAR Z T301.heap ap_297 kp_297 2 (ownUpd (ownUpd (fun _ => Value.null) 0 (.ref q0_297)) 1 (.ref q1_297)) := FP297_9.keep Kq301 (ninS (Ne.symm ne_b267_ap_297) (ninS (Ne.symm hp297.2.2.1) (ninS (Ne.symm hp297.2.2.2.2.2.2.2.2.1) (ninS hp297.2.2.2.2.2.2.2.2.2.2.2.2.2.2.2.2.2.2.1 (ninS hp297.2.2.2.2.2.2.2.2.2.2.2.2.2.2.2.2.2.2.2.1 nin0)))))
      have F307 : ownAI Z T301.heap d1_297 .int (v2.toNatClampNeg) own_id := FP297_12.keep Kq301 (ninS (Ne.symm ne_b267_d1_297) (ninS (Ne.symm hp297.2.2.2.2.2.1) (ninS (Ne.symm hp297.2.2.2.2.2.2.2.2.2.2.2.1) (ninS (Ne.symm hp297.2.2.2.2.2.2.2.2.2.2.2.2.2.2.2.2.2.2.2.2.2.2.2.1) (ninS (Ne.symm hp297.2.2.2.2.2.2.2.2.2.2.2.2.2.2.2.2.2.2.2.2.2.2.2.2.2.1) nin0)))))
      have F308 : ownAI Z T301.heap q1_297 .int (v2.toNatClampNeg) own_id := FP297_13.keep Kq301 (ninS (Ne.symm ne_b267_q1_297) (ninS (Ne.symm hp297.2.2.2.2.2.2.1) (ninS (Ne.symm hp297.2.2.2.2.2.2.2.2.2.2.2.2.1) (ninS (Ne.symm hp297.2.2.2.2.2.2.2.2.2.2.2.2.2.2.2.2.2.2.2.2.2.2.2.2.1) (ninS (Ne.symm hp297.2.2.2.2.2.2.2.2.2.2.2.2.2.2.2.2.2.2.2.2.2.2.2.2.2.2.1) nin0)))))
      refine ownRun (T' := T301) (f' := (mkF m 108 #[iv p0, iv p1, iv p2, iv p3, iv p4, iv p5, iv v1, iv v2, iv (1 : Int32), iv (0 : Int32), iv v264, iv v265, iv v266, rv b267, .unset, .unset] [])) st301 ?_
      refine ow_iload (q := 110) X301 hx (hb hby at_108) rfl rfl ?_
      refine ow_ifNo (q := 113) X301 hx (hb hby at_110) rfl (Jvm.Free.XT.i0_eq_f (by decide)) ?_
      refine ow_iload (q := 115) X301 hx (hb hby at_113) rfl rfl ?_
      refine ow_iconst (q := 116) X301 hx (1 : Int32) (hb hby at_115) rfl rfl ?_
      refine ow_isub (q := 117) X301 hx _ (hb hby at_116) rfl rfl ?_
      refine ow_goto (q := 122) X301 hx (hb hby at_117) (by decide) (by decide) ?_
      generalize hv_v309 : (v1 - (1 : Int32)) = v309
      refine ow_istore (q := 124) X301 hx (L' := #[iv p0, iv p1, iv p2, iv p3, iv p4, iv p5, iv v1, iv v2, iv (1 : Int32), iv (0 : Int32), iv v264, iv v265, iv v266, rv b267, iv v309, .unset]) (hb hby at_122) rfl rfl ?_
      refine ow_aload (q := 126) X301 hx (hb hby at_124) rfl rfl rfl ?_
      obtain ⟨cq310, kq310, q310a, q310b, q310c⟩ := isOf hZ rfl FP301_0
      obtain ⟨_, _, ⟨T310, L310, k310, n310⟩, -, X310, ⟨Lc310, hQ310, l310, y310, z310⟩, st310⟩ := X301.virtualBack hx (y := (⟨"com/example/sieveline/sieveline/model/CurrentDomains", "mark", "()I"⟩ : MethodName)) (z := (⟨"com/example/sieveline/sieveline/model/CurrentDomains", "mark", "()I"⟩ : MethodName)) hown (mvT hZ (ww 29 rfl)) (mvT hZ (ww 30 rfl)) (notFace_of_selects (args := #[]) (mvT hZ (ww 32 rfl))) (mvT hZ (ww 32 rfl)) (mvT hZ (ww 31 rfl)) (by decide) (backOf (W := 0) (rm_mark l Z av0 hw [] b267 (2 : Int32) T301.heap n0 (Nat.le_trans Z0 K301.1) FP301_5) hZ (ww 33 rfl) (ww 3 rfl) (by decide) (by decide)) q310a q310c (g := (mkF m 126 #[iv p0, iv p1, iv p2, iv p3, iv p4, iv p5, iv v1, iv v2, iv (1 : Int32), iv (0 : Int32), iv v264, iv v265, iv v266, rv b267, iv v309, .unset] [(.ref b267)])) rfl (by rw [hml]; rfl) (Steps.refl _) (argsL := []) (rest := []) (lenOf own_pd3 rfl) rfl (by show 2 * 0 + _ ≤ _; exact Nat.le_of_eq rfl) (hb hby at_126) (fun _ _ => ⟨rfl, rfl, (by decide : 10 + 0 ≤ _), (by decide : 97 + 0 ≤ _)⟩)
      dsimp only [Pt.U, Pt.locs, Pt.cells, Pt.slots] at X310 l310 y310 z310 st310 hQ310
      subst l310 y310 z310
      obtain ⟨rfl, N310q, e310⟩ := hQ310
      have N310 := Fr.app N301 N310q
      refine ownRun (T' := T310) (f' := (mkF m 129 #[iv p0, iv p1, iv p2, iv p3, iv p4, iv p5, iv v1, iv v2, iv (1 : Int32), iv (0 : Int32), iv v264, iv v265, iv v266, rv b267, iv v309, .unset] [(.int (2 : Int32))])) st310 ?_
      refine ow_istore (q := 131) X310 hx (L' := #[iv p0, iv p1, iv p2, iv p3, iv p4, iv p5, iv v1, iv v2, iv (1 : Int32), iv (0 : Int32), iv v264, iv v265, iv v266, rv b267, iv v309, iv (2 : Int32)]) (hb hby at_129) rfl rfl ?_
      refine ow_iload (q := 133) X310 hx (hb hby at_131) rfl rfl ?_
      refine ow_iconst (q := 134) X310 hx (1 : Int32) (hb hby at_133) rfl rfl ?_
      refine ow_icmpYes (q := 145) X310 hx (hb hby at_134) (Jvm.Free.XT.ii_lt_t (by decide)) (by decide) (by decide) ?_
      refine ow_iload (q := 147) X310 hx (hb hby at_145) rfl rfl ?_
      refine ow_iconst (q := 148) X310 hx (2 : Int32) (hb hby at_147) rfl rfl ?_
      refine ow_icmpYes (q := 159) X310 hx (hb hby at_148) (Jvm.Free.XT.ii_lt_t (by decide)) (by decide) (by decide) ?_
      refine ow_iload (q := 161) X310 hx (hb hby at_159) rfl rfl ?_
      refine ow_iconst (q := 162) X310 hx (3 : Int32) (hb hby at_161) rfl rfl ?_
      refine ow_icmpYes (q := 173) X310 hx (hb hby at_162) (Jvm.Free.XT.ii_lt_t (by decide)) (by decide) (by decide) ?_
      refine ow_aload (q := 175) X310 hx (hb hby at_173) rfl rfl rfl ?_
      refine ow_iload (q := 177) X310 hx (hb hby at_175) rfl rfl ?_
      obtain ⟨cq311, kq311, q311a, q311b, q311c⟩ := isOf hZ e310 FP301_0
      obtain ⟨_, _, ⟨T311, L311, k311, n311⟩, -, X311, ⟨Lc311, hQ311, l311, y311, z311⟩, st311⟩ := X310.virtualBack hx (y := (⟨"com/example/sieveline/sieveline/model/CurrentDomains", "undo", "(I)V"⟩ : MethodName)) (z := (⟨"com/example/sieveline/sieveline/model/CurrentDomains", "undo", "(I)V"⟩ : MethodName)) hown (mvT hZ (ww 49 rfl)) (mvT hZ (ww 50 rfl)) (notFace_of_selects (args := #[]) (mvT hZ (ww 52 rfl))) (mvT hZ (ww 52 rfl)) (mvT hZ (ww 51 rfl)) (by decide) (backOf (W := 0) (rm_undo_2_0 l Z av0 hw [] b267 at__297 as__297 ad_297 ap_297 (ownUpd (ownUpd (fun _ => (0 : Int32)) 0 (0 : Int32)) 1 v1) (ownUpd (ownUpd (ownUpd (fun _ => (0 : Int32)) 0 v1) 1 v2) 0 (v1 - (1 : Int32))) T301.heap n0 (Nat.le_trans Z0 K301.1) FP301_0 FP301_1 FP301_2 FP301_3 FP301_4 FP301_5 FP301_6 FP301_7 (ne_b267_at__297) (ne_b267_as__297) (hp297.1)) hZ (ww 53 rfl) (ww 3 rfl) (by decide) (by decide)) q311a q311c (g := (mkF m 177 #[iv p0, iv p1, iv p2, iv p3, iv p4, iv p5, iv v1, iv v2, iv (1 : Int32), iv (0 : Int32), iv v264, iv v265, iv v266, rv b267, iv v309, iv (2 : Int32)] [(.int (2 : Int32)), (.ref b267)])) rfl (by rw [hml]; rfl) (Steps.refl _) (argsL := [(.int (2 : Int32))]) (rest := []) (lenOf own_pd0 rfl) rfl (by show 2 * 0 + _ ≤ _; exact Nat.le_of_eq rfl) (hb hby at_177) (fun _ _ => ⟨rfl, e310, (by decide : 10 + 0 ≤ _), (by decide : 97 + 0 ≤ _)⟩)
      dsimp only [Pt.U, Pt.locs, Pt.cells, Pt.slots] at X311 l311 y311 z311 st311 hQ311
      subst l311 y311 z311
      obtain ⟨rfl, N311q, e311⟩ := hQ311
      have N311 := Fr.app N310 N311q
      refine ownRun (T' := T311) (f' := (mkF m 180 #[iv p0, iv p1, iv p2, iv p3, iv p4, iv p5, iv v1, iv v2, iv (1 : Int32), iv (0 : Int32), iv v264, iv v265, iv v266, rv b267, iv v309, iv (2 : Int32)] [])) st311 ?_
      refine ow_aload (q := 182) X311 hx (hb hby at_180) rfl rfl rfl ?_
      refine ow_iconst (q := 183) X311 hx (0 : Int32) (hb hby at_182) rfl rfl ?_
      obtain ⟨cq312, kq312, q312a, q312b, q312c⟩ := isOf hZ e311 FP301_0
      obtain ⟨_, _, ⟨T312, L312, k312, n312⟩, -, X312, ⟨Lc312, hQ312, l312, y312, z312⟩, st312⟩ := X311.virtualBack hx (y := (⟨"com/example/sieveline/sieveline/model/CurrentDomains", "size", "(I)I"⟩ : MethodName)) (z := (⟨"com/example/sieveline/sieveline/model/CurrentDomains", "size", "(I)I"⟩ : MethodName)) hown (mvT hZ (ww 54 rfl)) (mvT hZ (ww 55 rfl)) (notFace_of_selects (args := #[]) (mvT hZ (ww 57 rfl))) (mvT hZ (ww 57 rfl)) (mvT hZ (ww 56 rfl)) (by decide) (backOf (W := 0) (rm_size_0 l Z av0 hw [] b267 as__297 (ownUpd (ownUpd (ownUpd (fun _ => (0 : Int32)) 0 v1) 1 v2) 0 (v1 - (1 : Int32))) T301.heap n0 (Nat.le_trans Z0 K301.1) FP301_2 FP301_7) hZ (ww 58 rfl) (ww 3 rfl) (by decide) (by decide)) q312a q312c (g := (mkF m 183 #[iv p0, iv p1, iv p2, iv p3, iv p4, iv p5, iv v1, iv v2, iv (1 : Int32), iv (0 : Int32), iv v264, iv v265, iv v266, rv b267, iv v309, iv (2 : Int32)] [(.int (0 : Int32)), (.ref b267)])) rfl (by rw [hml]; rfl) (Steps.refl _) (argsL := [(.int (0 : Int32))]) (rest := []) (lenOf own_pd4 rfl) rfl (by show 2 * 0 + _ ≤ _; exact Nat.le_of_eq rfl) (hb hby at_183) (fun _ _ => ⟨rfl, e311, (by decide : 10 + 0 ≤ _), (by decide : 97 + 0 ≤ _)⟩)
      dsimp only [Pt.U, Pt.locs, Pt.cells, Pt.slots] at X312 l312 y312 z312 st312 hQ312
      subst l312 y312 z312
      obtain ⟨rfl, N312q, e312⟩ := hQ312
      have N312 := Fr.app N311 N312q
      refine ownRun (T' := T312) (f' := (mkF m 186 #[iv p0, iv p1, iv p2, iv p3, iv p4, iv p5, iv v1, iv v2, iv (1 : Int32), iv (0 : Int32), iv v264, iv v265, iv v266, rv b267, iv v309, iv (2 : Int32)] [(.int (v1 - (1 : Int32)))])) st312 ?_
      refine ow_iload (q := 188) X312 hx (hb hby at_186) rfl rfl ?_
      refine ow_icmpNo (q := 191) X312 hx (hb hby at_188) rfl (Jvm.Free.XT.ii_ne_f hv_v309) ?_
      refine ow_aload (q := 193) X312 hx (hb hby at_191) rfl rfl rfl ?_
      refine ow_iconst (q := 194) X312 hx (1 : Int32) (hb hby at_193) rfl rfl ?_
      obtain ⟨cq313, kq313, q313a, q313b, q313c⟩ := isOf hZ e312 FP301_0
      obtain ⟨_, _, ⟨T313, L313, k313, n313⟩, -, X313, ⟨Lc313, hQ313, l313, y313, z313⟩, st313⟩ := X312.virtualBack hx (y := (⟨"com/example/sieveline/sieveline/model/CurrentDomains", "size", "(I)I"⟩ : MethodName)) (z := (⟨"com/example/sieveline/sieveline/model/CurrentDomains", "size", "(I)I"⟩ : MethodName)) hown (mvT hZ (ww 54 rfl)) (mvT hZ (ww 55 rfl)) (notFace_of_selects (args := #[]) (mvT hZ (ww 57 rfl))) (mvT hZ (ww 57 rfl)) (mvT hZ (ww 56 rfl)) (by decide) (backOf (W := 0) (rm_size_1 l Z av0 hw [] b267 as__297 (ownUpd (ownUpd (ownUpd (fun _ => (0 : Int32)) 0 v1) 1 v2) 0 (v1 - (1 : Int32))) T301.heap n0 (Nat.le_trans Z0 K301.1) FP301_2 FP301_7) hZ (ww 58 rfl) (ww 3 rfl) (by decide) (by decide)) q313a q313c (g := (mkF m 194 #[iv p0, iv p1, iv p2, iv p3, iv p4, iv p5, iv v1, iv v2, iv (1 : Int32), iv (0 : Int32), iv v264, iv v265, iv v266, rv b267, iv v309, iv (2 : Int32)] [(.int (1 : Int32)), (.ref b267)])) rfl (by rw [hml]; rfl) (Steps.refl _) (argsL := [(.int (1 : Int32))]) (rest := []) (lenOf own_pd4 rfl) rfl (by show 2 * 0 + _ ≤ _; exact Nat.le_of_eq rfl) (hb hby at_194) (fun _ _ => ⟨rfl, e312, (by decide : 10 + 0 ≤ _), (by decide : 97 + 0 ≤ _)⟩)
      dsimp only [Pt.U, Pt.locs, Pt.cells, Pt.slots] at X313 l313 y313 z313 st313 hQ313
      subst l313 y313 z313
      obtain ⟨rfl, N313q, e313⟩ := hQ313
      have N313 := Fr.app N312 N313q
      refine ownRun (T' := T313) (f' := (mkF m 197 #[iv p0, iv p1, iv p2, iv p3, iv p4, iv p5, iv v1, iv v2, iv (1 : Int32), iv (0 : Int32), iv v264, iv v265, iv v266, rv b267, iv v309, iv (2 : Int32)] [(.int v2)])) st313 ?_
      refine ow_iload (q := 199) X313 hx (hb hby at_197) rfl rfl ?_
      refine ow_icmpNo (q := 202) X313 hx (hb hby at_199) rfl (Jvm.Free.XT.ii_ne_f rfl) ?_
      refine ow_aload (q := 204) X313 hx (hb hby at_202) rfl rfl rfl ?_
      refine ow_iconst (q := 205) X313 hx (0 : Int32) (hb hby at_204) rfl rfl ?_
      refine ow_iload (q := 207) X313 hx (hb hby at_205) rfl rfl ?_
      obtain ⟨cq314, kq314, q314a, q314b, q314c⟩ := isOf hZ e313 FP301_0
      obtain ⟨_, _, ⟨T314, L314, k314, n314⟩, -, X314, ⟨Lc314, hQ314, l314, y314, z314⟩, st314⟩ := X313.virtualBack hx (y := (⟨"com/example/sieveline/sieveline/model/CurrentDomains", "contains", "(II)Z"⟩ : MethodName)) (z := (⟨"com/example/sieveline/sieveline/model/CurrentDomains", "contains", "(II)Z"⟩ : MethodName)) hown (mvT hZ (ww 59 rfl)) (mvT hZ (ww 60 rfl)) (notFace_of_selects (args := #[]) (mvT hZ (ww 62 rfl))) (mvT hZ (ww 62 rfl)) (mvT hZ (ww 61 rfl)) (by decide) (backOf (W := 0) (rm_contains l Z av0 hw [] b267 v264 as__297 ap_297 q0_297 q1_297 kp_297 (v1.toNatClampNeg) (own_swQ own_id own_id (own_id v264.toNatClampNeg) (v1 - (1 : Int32))) (ownUpd (ownUpd (ownUpd (fun _ => (0 : Int32)) 0 v1) 1 v2) 0 (v1 - (1 : Int32))) T301.heap n0 (Nat.le_trans Z0 K301.1) FP301_2 FP301_4 FP301_7 F306 FP301_9 (own_v0 hv_v1 hv_v264)) hZ (ww 63 rfl) (ww 3 rfl) (by decide) (by decide)) q314a q314c (g := (mkF m 207 #[iv p0, iv p1, iv p2, iv p3, iv p4, iv p5, iv v1, iv v2, iv (1 : Int32), iv (0 : Int32), iv v264, iv v265, iv v266, rv b267, iv v309, iv (2 : Int32)] [(.int v264), (.int (0 : Int32)), (.ref b267)])) rfl (by rw [hml]; rfl) (Steps.refl _) (argsL := [(.int (0 : Int32)), (.int v264)]) (rest := []) (lenOf own_pd5 rfl) rfl (by show 2 * 0 + _ ≤ _; exact Nat.le_of_eq rfl) (hb hby at_207) (fun _ _ => ⟨rfl, e313, (by decide : 10 + 0 ≤ _), (by decide : 97 + 0 ≤ _)⟩)
      dsimp only [Pt.U, Pt.locs, Pt.cells, Pt.slots] at X314 l314 y314 z314 st314 hQ314
      subst l314 y314 z314
      obtain ⟨rfl, N314q, e314⟩ := hQ314
      have N314 := Fr.app N313 N314q
      refine ownRun (T' := T314) (f' := (mkF m 210 #[iv p0, iv p1, iv p2, iv p3, iv p4, iv p5, iv v1, iv v2, iv (1 : Int32), iv (0 : Int32), iv v264, iv v265, iv v266, rv b267, iv v309, iv (2 : Int32)] [(.int (if ((own_swQ own_id own_id (own_id v264.toNatClampNeg) (v1 - (1 : Int32))) v264.toNatClampNeg) < (v1 - (1 : Int32)) then (1 : Int32) else (0 : Int32)))])) st314 ?_
      refine ow_iload (q := 212) X314 hx (hb hby at_210) rfl rfl ?_
      refine ow_ifYes (q := 219) X314 hx (hb hby at_212) (Jvm.Free.XT.i0_ne_t (by decide)) (by decide) (by decide) ?_
      refine ow_iconst (q := 220) X314 hx (0 : Int32) (hb hby at_219) rfl rfl ?_
      refine ow_icmpNo (q := 223) X314 hx (hb hby at_220) rfl (Jvm.Free.XT.ii_ne_f (by rw [if_neg (own_f0 hv_v1 hv_v264)])) ?_
      refine ow_aload (q := 225) X314 hx (hb hby at_223) rfl rfl rfl ?_
      obtain ⟨cq315, kq315, q315a, q315b, q315c⟩ := isOf hZ e314 FP301_0
      obtain ⟨_, _, ⟨T315, L315, k315, n315⟩, -, X315, ⟨Lc315, hQ315, l315, y315, z315⟩, st315⟩ := X314.virtualBack hx (y := (⟨"com/example/sieveline/sieveline/model/CurrentDomains", "mark", "()I"⟩ : MethodName)) (z := (⟨"com/example/sieveline/sieveline/model/CurrentDomains", "mark", "()I"⟩ : MethodName)) hown (mvT hZ (ww 29 rfl)) (mvT hZ (ww 30 rfl)) (notFace_of_selects (args := #[]) (mvT hZ (ww 32 rfl))) (mvT hZ (ww 32 rfl)) (mvT hZ (ww 31 rfl)) (by decide) (backOf (W := 0) (rm_mark l Z av0 hw [] b267 (2 : Int32) T301.heap n0 (Nat.le_trans Z0 K301.1) FP301_5) hZ (ww 33 rfl) (ww 3 rfl) (by decide) (by decide)) q315a q315c (g := (mkF m 225 #[iv p0, iv p1, iv p2, iv p3, iv p4, iv p5, iv v1, iv v2, iv (1 : Int32), iv (0 : Int32), iv v264, iv v265, iv v266, rv b267, iv v309, iv (2 : Int32)] [(.ref b267)])) rfl (by rw [hml]; rfl) (Steps.refl _) (argsL := []) (rest := []) (lenOf own_pd3 rfl) rfl (by show 2 * 0 + _ ≤ _; exact Nat.le_of_eq rfl) (hb hby at_225) (fun _ _ => ⟨rfl, e314, (by decide : 10 + 0 ≤ _), (by decide : 97 + 0 ≤ _)⟩)
      dsimp only [Pt.U, Pt.locs, Pt.cells, Pt.slots] at X315 l315 y315 z315 st315 hQ315
      subst l315 y315 z315
      obtain ⟨rfl, N315q, e315⟩ := hQ315
      have N315 := Fr.app N314 N315q
      refine ownRun (T' := T315) (f' := (mkF m 228 #[iv p0, iv p1, iv p2, iv p3, iv p4, iv p5, iv v1, iv v2, iv (1 : Int32), iv (0 : Int32), iv v264, iv v265, iv v266, rv b267, iv v309, iv (2 : Int32)] [(.int (2 : Int32))])) st315 ?_
      refine ow_iload (q := 230) X315 hx (hb hby at_228) rfl rfl ?_
      refine ow_icmpNo (q := 233) X315 hx (hb hby at_230) rfl (Jvm.Free.XT.ii_ne_f (by decide)) ?_
      refine ow_iconst (q := 234) X315 hx (1 : Int32) (hb hby at_233) rfl rfl ?_
      refine ow_goto (q := 238) X315 hx (hb hby at_234) (by decide) (by decide) ?_
      refine ownRetN X315 hx (r := (1 : Int32)) (Or.inl rfl) Bd.returns (hb hby at_238) hlk (by decide) (by decide) (by decide) ?_
      exact ⟨rfl, N315⟩
    · subst hs261
      refine ow_iloadN (q := 35) X0 hx (hb hby at_34) rfl rfl ?_
      refine ownGo (T' := s₁) (f' := (mkF m 37 #[iv p0, iv p1, iv p2, iv p3, iv p4, iv p5, iv v1, iv v2, iv (1 : Int32), iv (1 : Int32), .unset, .unset, .unset, .unset, .unset, .unset] [(.int (2147483647 : Int32)), (.int p3)])) (X0.ldcInt hx hown (mvT hZ (ww 0 rfl)) (g := (mkF m 35 #[iv p0, iv p1, iv p2, iv p3, iv p4, iv p5, iv v1, iv v2, iv (1 : Int32), iv (1 : Int32), .unset, .unset, .unset, .unset, .unset, .unset] [(.int p3)])) rfl (hb hby at_35)) ?_
      refine ow_iand (q := 38) X0 hx _ (hb hby at_37) rfl rfl ?_
      refine ow_iload (q := 40) X0 hx (hb hby at_38) rfl rfl ?_
      refine ow_irem (q := 41) X0 hx _ (hb hby at_40) rfl (own_z0 hv_v1) rfl ?_
      generalize hv_v316 : ((p3 &&& (2147483647 : Int32)) % v1) = v316
      refine ow_istore (q := 43) X0 hx (L' := #[iv p0, iv p1, iv p2, iv p3, iv p4, iv p5, iv v1, iv v2, iv (1 : Int32), iv (1 : Int32), iv v316, .unset, .unset, .unset, .unset, .unset]) (hb hby at_41) rfl rfl ?_
      refine ow_iload (q := 45) X0 hx (hb hby at_43) rfl rfl ?_
      refine ow_iconst (q := 46) X0 hx (1 : Int32) (hb hby at_45) rfl rfl ?_
      refine ow_iadd (q := 47) X0 hx _ (hb hby at_46) rfl rfl ?_
      refine ow_iload (q := 49) X0 hx (hb hby at_47) rfl rfl ?_
      refine ownGo (T' := s₁) (f' := (mkF m 51 #[iv p0, iv p1, iv p2, iv p3, iv p4, iv p5, iv v1, iv v2, iv (1 : Int32), iv (1 : Int32), iv v316, .unset, .unset, .unset, .unset, .unset] [(.int (2147483647 : Int32)), (.int p4), (.int (v316 + (1 : Int32)))])) (X0.ldcInt hx hown (mvT hZ (ww 0 rfl)) (g := (mkF m 49 #[iv p0, iv p1, iv p2, iv p3, iv p4, iv p5, iv v1, iv v2, iv (1 : Int32), iv (1 : Int32), iv v316, .unset, .unset, .unset, .unset, .unset] [(.int p4), (.int (v316 + (1 : Int32)))])) rfl (hb hby at_49)) ?_
      refine ow_iand (q := 52) X0 hx _ (hb hby at_51) rfl rfl ?_
      refine ow_iload (q := 54) X0 hx (hb hby at_52) rfl rfl ?_
      refine ow_iconst (q := 55) X0 hx (1 : Int32) (hb hby at_54) rfl rfl ?_
      refine ow_isub (q := 56) X0 hx _ (hb hby at_55) rfl rfl ?_
      refine ow_irem (q := 57) X0 hx _ (hb hby at_56) rfl (own_z0m hv_v1) rfl ?_
      refine ow_iadd (q := 58) X0 hx _ (hb hby at_57) rfl rfl ?_
      refine ow_iload (q := 60) X0 hx (hb hby at_58) rfl rfl ?_
      refine ow_irem (q := 61) X0 hx _ (hb hby at_60) rfl (own_z0 hv_v1) rfl ?_
      generalize hv_v317 : (((v316 + (1 : Int32)) + ((p4 &&& (2147483647 : Int32)) % (v1 - (1 : Int32)))) % v1) = v317
      refine ow_istore (q := 63) X0 hx (L' := #[iv p0, iv p1, iv p2, iv p3, iv p4, iv p5, iv v1, iv v2, iv (1 : Int32), iv (1 : Int32), iv v316, iv v317, .unset, .unset, .unset, .unset]) (hb hby at_61) rfl rfl ?_
      refine ow_iload (q := 65) X0 hx (hb hby at_63) rfl rfl ?_
      refine ownGo (T' := s₁) (f' := (mkF m 67 #[iv p0, iv p1, iv p2, iv p3, iv p4, iv p5, iv v1, iv v2, iv (1 : Int32), iv (1 : Int32), iv v316, iv v317, .unset, .unset, .unset, .unset] [(.int (2147483647 : Int32)), (.int p5)])) (X0.ldcInt hx hown (mvT hZ (ww 0 rfl)) (g := (mkF m 65 #[iv p0, iv p1, iv p2, iv p3, iv p4, iv p5, iv v1, iv v2, iv (1 : Int32), iv (1 : Int32), iv v316, iv v317, .unset, .unset, .unset, .unset] [(.int p5)])) rfl (hb hby at_65)) ?_
      refine ow_iand (q := 68) X0 hx _ (hb hby at_67) rfl rfl ?_
      refine ow_iload (q := 70) X0 hx (hb hby at_68) rfl rfl ?_
      refine ow_irem (q := 71) X0 hx _ (hb hby at_70) rfl (own_z1 hv_v2) rfl ?_
      generalize hv_v318 : ((p5 &&& (2147483647 : Int32)) % v2) = v318
      refine ow_istore (q := 73) X0 hx (L' := #[iv p0, iv p1, iv p2, iv p3, iv p4, iv p5, iv v1, iv v2, iv (1 : Int32), iv (1 : Int32), iv v316, iv v317, iv v318, .unset, .unset, .unset]) (hb hby at_71) rfl rfl ?_
      obtain ⟨T319, h319, X319, e319, E319, A319, D319, -, st319⟩ := newO X0 hx hZ hown (ww 1 rfl) (ww 2 rfl) (ww 3 rfl) e0 (g := (mkF m 73 #[iv p0, iv p1, iv p2, iv p3, iv p4, iv p5, iv v1, iv v2, iv (1 : Int32), iv (1 : Int32), iv v316, iv v317, iv v318, .unset, .unset, .unset] [])) rfl (hb hby at_73) (by decide) (by decide)
      obtain ⟨b319, g319⟩ : ∃ z, z = h0.size := ⟨_, rfl⟩
      rw [← g319] at A319 D319 st319
      have sz_b319 : h0.size ≤ b319 := Nat.le_trans K0.1 (Nat.le_of_eq g319.symm)
      have G_b319 : n0 ≤ b319 := Nat.le_trans Z0 sz_b319
      have K319 : Keep h0 h319 [] := K0.ext E319
      have F320 : Fld Z h319 b319 "com/example/sieveline/sieveline/model/CurrentDomains" "trail" "[I" .null := D319 (Or.inl (ww 12 rfl)) (ty := (.array .int)) (by decide)
      have F321 : Fld Z h319 b319 "com/example/sieveline/sieveline/model/CurrentDomains" "size" "[I" .null := D319 (Or.inr (ww 23 rfl)) (ty := (.array .int)) (by decide)
      have F322 : Fld Z h319 b319 "com/example/sieveline/sieveline/model/CurrentDomains" "dense" "[[I" .null := D319 (Or.inr (ww 26 rfl)) (ty := (.array (.array .int))) (by decide)
      have F323 : Fld Z h319 b319 "com/example/sieveline/sieveline/model/CurrentDomains" "position" "[[I" .null := D319 (Or.inr (ww 28 rfl)) (ty := (.array (.array .int))) (by decide)
      have F324 : Fld Z h319 b319 "com/example/sieveline/sieveline/model/CurrentDomains" "top" "I" (.int (0 : Int32)) := D319 (Or.inl (ww 35 rfl)) (ty := .int) (by decide)
      refine ownGo (T' := T319) (f' := (mkF m 76 #[iv p0, iv p1, iv p2, iv p3, iv p4, iv p5, iv v1, iv v2, iv (1 : Int32), iv (1 : Int32), iv v316, iv v317, iv v318, .unset, .unset, .unset] [(.ref b319)])) (st319) ?_
      refine ow_dup (q := 77) X319 hx (hb hby at_76) rfl rfl ?_
      refine ow_iconst (q := 78) X319 hx (2 : Int32) (hb hby at_77) rfl rfl ?_
      obtain ⟨T325, h325, k325, X325, e325, E325, A325, EA325, st325⟩ := newPE X319 hx hZ (ww 4 rfl) e319 (g := (mkF m 78 #[iv p0, iv p1, iv p2, iv p3, iv p4, iv p5, iv v1, iv v2, iv (1 : Int32), iv (1 : Int32), iv v316, iv v317, iv v318, .unset, .unset, .unset] [(.int (2 : Int32)), (.ref b319), (.ref b319)])) rfl (hb hby at_78) rfl (by decide) (cap := 2) (by decide) (by decide) (by decide) (by decide) (ad := "[I") (by decide)
      obtain ⟨b325, g325⟩ : ∃ z, z = h319.size := ⟨_, rfl⟩
      rw [← g325] at A325 st325 EA325
      have ne_b319_b325 : b319 ≠ b325 := Nat.ne_of_lt (Nat.lt_of_lt_of_le A319.lt (Nat.le_of_eq g325.symm))
      have sz_b325 : h0.size ≤ b325 := Nat.le_trans K319.1 (Nat.le_of_eq g325.symm)
      have G_b325 : n0 ≤ b325 := Nat.le_trans Z0 sz_b325
      have K325 : Keep h0 h325 [] := K319.ext E325
      have F326 : Exa Z h325 b319 "com/example/sieveline/sieveline/model/CurrentDomains" := A319.ext E325
      have F327 : Fld Z h325 b319 "com/example/sieveline/sieveline/model/CurrentDomains" "trail" "[I" .null := F320.ext E325
      have F328 : Fld Z h325 b319 "com/example/sieveline/sieveline/model/CurrentDomains" "size" "[I" .null := F321.ext E325
      have F329 : Fld Z h325 b319 "com/example/sieveline/sieveline/model/CurrentDomains" "dense" "[[I" .null := F322.ext E325
      have F330 : Fld Z h325 b319 "com/example/sieveline/sieveline/model/CurrentDomains" "position" "[[I" .null := F323.ext E325
      have F331 : Fld Z h325 b319 "com/example/sieveline/sieveline/model/CurrentDomains" "top" "I" (.int (0 : Int32)) := F324.ext E325
      have F332 : ownAI Z h325 b325 .int 2 (fun _ => (0 : Int32)) := ownAI.new A325 (by decide) rfl (by decide)
      refine ownGo (T' := T325) (f' := (mkF m 80 #[iv p0, iv p1, iv p2, iv p3, iv p4, iv p5, iv v1, iv v2, iv (1 : Int32), iv (1 : Int32), iv v316, iv v317, iv v318, .unset, .unset, .unset] [(.ref b325), (.ref b319), (.ref b319)])) (st325) ?_
      refine ow_dup (q := 81) X325 hx (hb hby at_80) rfl rfl ?_
      refine ow_iconst (q := 82) X325 hx (0 : Int32) (hb hby at_81) rfl rfl ?_
      refine ow_iload (q := 84) X325 hx (hb hby at_82) rfl rfl ?_
      obtain ⟨T333, h333, X333, e333, W333, F333s, st333⟩ := ownIastore F332 X325 hx hZ e325 (j := (0 : Int32)) (by unfold ownIn; decide) (g := (mkF m 84 #[iv p0, iv p1, iv p2, iv p3, iv p4, iv p5, iv v1, iv v2, iv (1 : Int32), iv (1 : Int32), iv v316, iv v317, iv v318, .unset, .unset, .unset] [(.int v1), (.int (0 : Int32)), (.ref b325), (.ref b325), (.ref b319), (.ref b319)])) rfl rfl (hb hby at_84)
      have F333r : ownAI Z h333 b325 .int 2 (ownUpd (fun _ => (0 : Int32)) 0 v1) := F333s
      have N333 := Fr.snoc X333 N0 G_b325
      have K333 : Keep h0 h333 [] := K325.wr W333 (Or.inr sz_b325)
      have F334 : Exa Z h333 b319 "com/example/sieveline/sieveline/model/CurrentDomains" := F326.wr W333
      have F335 : Fld Z h333 b319 "com/example/sieveline/sieveline/model/CurrentDomains" "trail" "[I" .null := F327.other W333 (Or.inl ne_b319_b325)
      have F336 : Fld Z h333 b319 "com/example/sieveline/sieveline/model/CurrentDomains" "size" "[I" .null := F328.other W333 (Or.inl ne_b319_b325)
      have F337 : Fld Z h333 b319 "com/example/sieveline/sieveline/model/CurrentDomains" "dense" "[[I" .null := F329.other W333 (Or.inl ne_b319_b325)
      have F338 : Fld Z h333 b319 "com/example/sieveline/sieveline/model/CurrentDomains" "position" "[[I" .null := F330.other W333 (Or.inl ne_b319_b325)
      have F339 : Fld Z h333 b319 "com/example/sieveline/sieveline/model/CurrentDomains" "top" "I" (.int (0 : Int32)) := F331.other W333 (Or.inl ne_b319_b325)
      have F340 : Exa Z h333 b325 "[I" := EA325.wr W333
      refine ownGo (T' := T333) (f' := (mkF m 85 #[iv p0, iv p1, iv p2, iv p3, iv p4, iv p5, iv v1, iv v2, iv (1 : Int32), iv (1 : Int32), iv v316, iv v317, iv v318, .unset, .unset, .unset] [(.ref b325), (.ref b319), (.ref b319)])) (st333) ?_
      refine ow_dup (q := 86) X333 hx (hb hby at_85) rfl rfl ?_
      refine ow_iconst (q := 87) X333 hx (1 : Int32) (hb hby at_86) rfl rfl ?_
      refine ow_iload (q := 89) X333 hx (hb hby at_87) rfl rfl ?_
      obtain ⟨T341, h341, X341, e341, W341, F341s, st341⟩ := ownIastore F333r X333 hx hZ e333 (j := (1 : Int32)) (by unfold ownIn; decide) (g := (mkF m 89 #[iv p0, iv p1, iv p2, iv p3, iv p4, iv p5, iv v1, iv v2, iv (1 : Int32), iv (1 : Int32), iv v316, iv v317, iv v318, .unset, .unset, .unset] [(.int v2), (.int (1 : Int32)), (.ref b325), (.ref b325), (.ref b319), (.ref b319)])) rfl rfl (hb hby at_89)
      have F341r : ownAI Z h341 b325 .int 2 (ownUpd (ownUpd (fun _ => (0 : Int32)) 0 v1) 1 v2) := F341s
      have N341 := Fr.snoc X341 N333 G_b325
      have K341 : Keep h0 h341 [] := K333.wr W341 (Or.inr sz_b325)
      have F342 : Exa Z h341 b319 "com/example/sieveline/sieveline/model/CurrentDomains" := F334.wr W341
      have F343 : Fld Z h341 b319 "com/example/sieveline/sieveline/model/CurrentDomains" "trail" "[I" .null := F335.other W341 (Or.inl ne_b319_b325)
      have F344 : Fld Z h341 b319 "com/example/sieveline/sieveline/model/CurrentDomains" "size" "[I" .null := F336.other W341 (Or.inl ne_b319_b325)
      have F345 : Fld Z h341 b319 "com/example/sieveline/sieveline/model/CurrentDomains" "dense" "[[I" .null := F337.other W341 (Or.inl ne_b319_b325)
      have F346 : Fld Z h341 b319 "com/example/sieveline/sieveline/model/CurrentDomains" "position" "[[I" .null := F338.other W341 (Or.inl ne_b319_b325)
      have F347 : Fld Z h341 b319 "com/example/sieveline/sieveline/model/CurrentDomains" "top" "I" (.int (0 : Int32)) := F339.other W341 (Or.inl ne_b319_b325)
      have F348 : Exa Z h341 b325 "[I" := F340.wr W341
      refine ownGo (T' := T341) (f' := (mkF m 90 #[iv p0, iv p1, iv p2, iv p3, iv p4, iv p5, iv v1, iv v2, iv (1 : Int32), iv (1 : Int32), iv v316, iv v317, iv v318, .unset, .unset, .unset] [(.ref b325), (.ref b319), (.ref b319)])) (st341) ?_
      obtain ⟨_, _, ⟨T349, L349, k349, n349⟩, -, X349, ⟨Lc349, hQ349, l349, y349, z349⟩, st349⟩ := X341.specialBack hx (y := (⟨"com/example/sieveline/sieveline/model/CurrentDomains", "<init>", "([I)V"⟩ : MethodName)) rfl hown (mvT hZ (ww 5 rfl)) (mvT hZ (ww 6 rfl)) (mvT hZ (ww 7 rfl)) (by decide) (backOf (W := 1) (rm_init l Z av0 hw [] b319 b325 v1 v2 h341 n0 (Nat.le_trans Z0 K341.1) F342 F343 F344 F345 F346 F347 F341r F348 G_b319 (own_h0 hv_v1) (own_h1 hv_v2) ne_b319_b325) hZ (ww 7 rfl) (ww 3 rfl) (by decide) (by decide)) (g := (mkF m 90 #[iv p0, iv p1, iv p2, iv p3, iv p4, iv p5, iv v1, iv v2, iv (1 : Int32), iv (1 : Int32), iv v316, iv v317, iv v318, .unset, .unset, .unset] [(.ref b325), (.ref b319), (.ref b319)])) rfl (by rw [hml]; rfl) (Steps.refl _) (a := b319) (argsL := [(.ref b325)]) (rest := [(.ref b319)]) (lenOf own_pd2 rfl) rfl (by show 2 * 0 + _ ≤ _; exact Nat.le_of_eq rfl) (hb hby at_90) (fun _ _ => ⟨rfl, e341, (by decide : 2 + 8 ≤ _), (by decide : 7 + 90 ≤ _)⟩)
      dsimp only [Pt.U, Pt.locs, Pt.cells, Pt.slots] at X349 l349 y349 z349 st349 hQ349
      subst l349 y349 z349
      obtain ⟨at__349, as__349, ad_349, ap_349, d0_349, q0_349, d1_349, q1_349, kd_349, kp_349, rfl, N349q, Kq349, sq349_at__349, sq349_as__349, sq349_ad_349, sq349_ap_349, sq349_d0_349, sq349_q0_349, sq349_d1_349, sq349_q1_349, FP349_0, FP349_1, FP349_2, FP349_3, FP349_4, FP349_5, FP349_6, FP349_7, FP349_8, FP349_9, FP349_10, FP349_11, FP349_12, FP349_13, hp349⟩ := hQ349
      have N349 := Fr.app N341 N349q
      have K349 : Keep h0 T349.heap [] := K341.trans Kq349 (allS (Or.inr sz_b319) all0)
      have ne_b319_at__349 : b319 ≠ at__349 := Nat.ne_of_lt (Nat.lt_of_lt_of_le F342.lt sq349_at__349)
      have ne_b325_at__349 : b325 ≠ at__349 := Nat.ne_of_lt (Nat.lt_of_lt_of_le F348.lt sq349_at__349)
      have sz_at__349 : h0.size ≤ at__349 := Nat.le_trans K341.1 sq349_at__349
      have G_at__349 : n0 ≤ at__349 := Nat.le_trans Z0 sz_at__349
      have ne_b319_as__349 : b319 ≠ as__349 := Nat.ne_of_lt (Nat.lt_of_lt_of_le F342.lt sq349_as__349)
      have ne_b325_as__349 : b325 ≠ as__349 := Nat.ne_of_lt (Nat.lt_of_lt_of_le F348.lt sq349_as__349)
      have sz_as__349 : h0.size ≤ as__349 := Nat.le_trans K341.1 sq349_as__349
      have G_as__349 : n0 ≤ as__349 := Nat.le_trans Z0 sz_as__349
      have ne_b319_ad_349 : b319 ≠ ad_349 := Nat.ne_of_lt (Nat.lt_of_lt_of_le F342.lt sq349_ad_349)
      have ne_b325_ad_349 : b325 ≠ ad_349 := Nat.ne_of_lt (Nat.lt_of_lt_of_le F348.lt sq349_ad_349)
      have sz_ad_349 : h0.size ≤ ad_349 := Nat.le_trans K341.1 sq349_ad_349
      have G_ad_349 : n0 ≤ ad_349 := Nat.le_trans Z0 sz_ad_349
      have ne_b319_ap_349 : b319 ≠ ap_349 := Nat.ne_of_lt (Nat.lt_of_lt_of_le F342.lt sq349_ap_349)
      have ne_b325_ap_349 : b325 ≠ ap_349 := Nat.ne_of_lt (Nat.lt_of_lt_of_le F348.lt sq349_ap_349)
      have sz_ap_349 : h0.size ≤ ap_349 := Nat.le_trans K341.1 sq349_ap_349
      have G_ap_349 : n0 ≤ ap_349 := Nat.le_trans Z0 sz_ap_349
      have ne_b319_d0_349 : b319 ≠ d0_349 := Nat.ne_of_lt (Nat.lt_of_lt_of_le F342.lt sq349_d0_349)
      have ne_b325_d0_349 : b325 ≠ d0_349 := Nat.ne_of_lt (Nat.lt_of_lt_of_le F348.lt sq349_d0_349)
      have sz_d0_349 : h0.size ≤ d0_349 := Nat.le_trans K341.1 sq349_d0_349
      have G_d0_349 : n0 ≤ d0_349 := Nat.le_trans Z0 sz_d0_349
      have ne_b319_q0_349 : b319 ≠ q0_349 := Nat.ne_of_lt (Nat.lt_of_lt_of_le F342.lt sq349_q0_349)
      have ne_b325_q0_349 : b325 ≠ q0_349 := Nat.ne_of_lt (Nat.lt_of_lt_of_le F348.lt sq349_q0_349)
      have sz_q0_349 : h0.size ≤ q0_349 := Nat.le_trans K341.1 sq349_q0_349
      have G_q0_349 : n0 ≤ q0_349 := Nat.le_trans Z0 sz_q0_349
      have ne_b319_d1_349 : b319 ≠ d1_349 := Nat.ne_of_lt (Nat.lt_of_lt_of_le F342.lt sq349_d1_349)
      have ne_b325_d1_349 : b325 ≠ d1_349 := Nat.ne_of_lt (Nat.lt_of_lt_of_le F348.lt sq349_d1_349)
      have sz_d1_349 : h0.size ≤ d1_349 := Nat.le_trans K341.1 sq349_d1_349
      have G_d1_349 : n0 ≤ d1_349 := Nat.le_trans Z0 sz_d1_349
      have ne_b319_q1_349 : b319 ≠ q1_349 := Nat.ne_of_lt (Nat.lt_of_lt_of_le F342.lt sq349_q1_349)
      have ne_b325_q1_349 : b325 ≠ q1_349 := Nat.ne_of_lt (Nat.lt_of_lt_of_le F348.lt sq349_q1_349)
      have sz_q1_349 : h0.size ≤ q1_349 := Nat.le_trans K341.1 sq349_q1_349
      have G_q1_349 : n0 ≤ q1_349 := Nat.le_trans Z0 sz_q1_349
      have F350 : Exa Z T349.heap b319 "com/example/sieveline/sieveline/model/CurrentDomains" := F342.keep Kq349
      have F351 : Exa Z T349.heap b325 "[I" := F348.keep Kq349
      have F352 : ownAI Z T349.heap b325 .int 2 (ownUpd (ownUpd (fun _ => (0 : Int32)) 0 v1) 1 v2) := F341r.keep Kq349 (ninS (Ne.symm ne_b319_b325) nin0)
      refine ownRun (T' := T349) (f' := (mkF m 93 #[iv p0, iv p1, iv p2, iv p3, iv p4, iv p5, iv v1, iv v2, iv (1 : Int32), iv (1 : Int32), iv v316, iv v317, iv v318, .unset, .unset, .unset] [(.ref b319)])) st349 ?_
      refine ow_astore (q := 95) X349 hx (L' := #[iv p0, iv p1, iv p2, iv p3, iv p4, iv p5, iv v1, iv v2, iv (1 : Int32), iv (1 : Int32), iv v316, iv v317, iv v318, rv b319, .unset, .unset]) (hb hby at_93) rfl rfl rfl ?_
      refine ow_iload (q := 97) X349 hx (hb hby at_95) rfl rfl ?_
      refine ow_ifNo (q := 100) X349 hx (hb hby at_97) rfl (Jvm.Free.XT.i0_eq_f (by decide)) ?_
      refine ow_aload (q := 102) X349 hx (hb hby at_100) rfl rfl rfl ?_
      refine ow_iconst (q := 103) X349 hx (0 : Int32) (hb hby at_102) rfl rfl ?_
      refine ow_iload (q := 105) X349 hx (hb hby at_103) rfl rfl ?_
      obtain ⟨cq353, kq353, q353a, q353b, q353c⟩ := isOf hZ rfl FP349_0
      obtain ⟨_, _, ⟨T353, L353, k353, n353⟩, -, X353, ⟨Lc353, hQ353, l353, y353, z353⟩, st353⟩ := X349.virtualBack hx (y := (⟨"com/example/sieveline/sieveline/model/CurrentDomains", "remove", "(II)V"⟩ : MethodName)) (z := (⟨"com/example/sieveline/sieveline/model/CurrentDomains", "remove", "(II)V"⟩ : MethodName)) hown (mvT hZ (ww 36 rfl)) (mvT hZ (ww 37 rfl)) (notFace_of_selects (args := #[]) (mvT hZ (ww 39 rfl))) (mvT hZ (ww 39 rfl)) (mvT hZ (ww 38 rfl)) (by decide) (backOf (W := 0) (rm_remove_0_0 l Z av0 hw [] b319 v316 at__349 as__349 ad_349 ap_349 d0_349 q0_349 d1_349 q1_349 kd_349 kp_349 (v1.toNatClampNeg) own_id own_id (fun _ => (0 : Int32)) (ownUpd (ownUpd (fun _ => (0 : Int32)) 0 v1) 1 v2) T349.heap n0 (Nat.le_trans Z0 K349.1) FP349_0 FP349_1 FP349_2 FP349_3 FP349_4 FP349_5 FP349_6 FP349_7 FP349_8 FP349_9 FP349_10 FP349_11 G_b319 G_at__349 G_as__349 G_d0_349 G_q0_349 (ne_b319_at__349) (ne_b319_as__349) (ne_b319_ad_349) (ne_b319_ap_349) (ne_b319_d0_349) (ne_b319_q0_349) (hp349.1) (hp349.2.1) (hp349.2.2.1) (hp349.2.2.2.1) (hp349.2.2.2.2.1) (hp349.2.2.2.2.2.2.2.1) (hp349.2.2.2.2.2.2.2.2.1) (hp349.2.2.2.2.2.2.2.2.2.1) (hp349.2.2.2.2.2.2.2.2.2.2.1) (hp349.2.2.2.2.2.2.2.2.2.2.2.2.2.1) (hp349.2.2.2.2.2.2.2.2.2.2.2.2.2.2.1) (hp349.2.2.2.2.2.2.2.2.2.2.2.2.2.2.2.1) (hp349.2.2.2.2.2.2.2.2.2.2.2.2.2.2.2.2.2.2.1) (hp349.2.2.2.2.2.2.2.2.2.2.2.2.2.2.2.2.2.2.2.1) (hp349.2.2.2.2.2.2.2.2.2.2.2.2.2.2.2.2.2.2.2.2.2.2.1) (own_v0 hv_v1 hv_v316) own_rg_id own_rg_id (own_s0 hv_v1)) hZ (ww 40 rfl) (ww 3 rfl) (by decide) (by decide)) q353a q353c (g := (mkF m 105 #[iv p0, iv p1, iv p2, iv p3, iv p4, iv p5, iv v1, iv v2, iv (1 : Int32), iv (1 : Int32), iv v316, iv v317, iv v318, rv b319, .unset, .unset] [(.int v316), (.int (0 : Int32)), (.ref b319)])) rfl (by rw [hml]; rfl) (Steps.refl _) (argsL := [(.int (0 : Int32)), (.int v316)]) (rest := []) (lenOf own_pd6 rfl) rfl (by show 2 * 0 + _ ≤ _; exact Nat.le_of_eq rfl) (hb hby at_105) (fun _ _ => ⟨rfl, rfl, (by decide : 10 + 0 ≤ _), (by decide : 97 + 0 ≤ _)⟩)
      dsimp only [Pt.U, Pt.locs, Pt.cells, Pt.slots] at X353 l353 y353 z353 st353 hQ353
      subst l353 y353 z353
      obtain ⟨rfl, N353q, Kq353, FP353_0, FP353_1, FP353_2, FP353_3, FP353_4, FP353_5, FP353_6, FP353_7, FP353_8, FP353_9⟩ := hQ353
      have N353 := Fr.app N349 N353q
      have K353 : Keep h0 T353.heap [] := K349.trans Kq353 (allS (Or.inr sz_b319) (allS (Or.inr sz_at__349) (allS (Or.inr sz_as__349) (allS (Or.inr sz_d0_349) (allS (Or.inr sz_q0_349) all0)))))
      have F354 : Exa Z T353.heap b319 "com/example/sieveline/sieveline/model/CurrentDomains" := FP349_0.keep Kq353
      have F355 : Exa Z T353.heap b325 "[I" := F351.keep Kq353
      have F356 : ownAI Z T353.heap b325 .int 2 (ownUpd (ownUpd (fun _ => (0 : Int32)) 0 v1) 1 v2) := F352.keep Kq353 (ninS (Ne.symm ne_b319_b325) (ninS ne_b325_at__349 (ninS ne_b325_as__349 (ninS ne_b325_d0_349 (ninS ne_b325_q0_349 nin0)))))
      have F357 : ownAR Z T353.heap ad_349 kd_349 2 (ownUpd (ownUpd (fun _ => Value.null) 0 (.ref d0_349)) 1 (.ref d1_349)) := FP349_8.keep Kq353 (ninS (Ne.symm ne_b319_ad_349) (ninS (Ne.symm hp349.2.1) (ninS (Ne.symm hp349.2.2.2.2.2.2.2.1) (ninS hp349.2.2.2.2.2.2.2.2.2.2.2.2.2.2.1 (ninS hp349.2.2.2.2.2.2.2.2.2.2.2.2.2.2.2.1 nin0)))))
      have F358 : ownAR Z T353.heap ap_349 kp_349 2 (ownUpd (ownUpd (fun _ => Value.null) 0 (.ref q0_349)) 1 (.ref q1_349)) := FP349_9.keep Kq353 (ninS (Ne.symm ne_b319_ap_349) (ninS (Ne.symm hp349.2.2.1) (ninS (Ne.symm hp349.2.2.2.2.2.2.2.2.1) (ninS hp349.2.2.2.2.2.2.2.2.2.2.2.2.2.2.2.2.2.2.1 (ninS hp349.2.2.2.2.2.2.2.2.2.2.2.2.2.2.2.2.2.2.2.1 nin0)))))
      have F359 : ownAI Z T353.heap d1_349 .int (v2.toNatClampNeg) own_id := FP349_12.keep Kq353 (ninS (Ne.symm ne_b319_d1_349) (ninS (Ne.symm hp349.2.2.2.2.2.1) (ninS (Ne.symm hp349.2.2.2.2.2.2.2.2.2.2.2.1) (ninS (Ne.symm hp349.2.2.2.2.2.2.2.2.2.2.2.2.2.2.2.2.2.2.2.2.2.2.2.1) (ninS (Ne.symm hp349.2.2.2.2.2.2.2.2.2.2.2.2.2.2.2.2.2.2.2.2.2.2.2.2.2.1) nin0)))))
      have F360 : ownAI Z T353.heap q1_349 .int (v2.toNatClampNeg) own_id := FP349_13.keep Kq353 (ninS (Ne.symm ne_b319_q1_349) (ninS (Ne.symm hp349.2.2.2.2.2.2.1) (ninS (Ne.symm hp349.2.2.2.2.2.2.2.2.2.2.2.2.1) (ninS (Ne.symm hp349.2.2.2.2.2.2.2.2.2.2.2.2.2.2.2.2.2.2.2.2.2.2.2.2.1) (ninS (Ne.symm hp349.2.2.2.2.2.2.2.2.2.2.2.2.2.2.2.2.2.2.2.2.2.2.2.2.2.2.1) nin0)))))
      refine ownRun (T' := T353) (f' := (mkF m 108 #[iv p0, iv p1, iv p2, iv p3, iv p4, iv p5, iv v1, iv v2, iv (1 : Int32), iv (1 : Int32), iv v316, iv v317, iv v318, rv b319, .unset, .unset] [])) st353 ?_
      refine ow_iload (q := 110) X353 hx (hb hby at_108) rfl rfl ?_
      refine ow_ifNo (q := 113) X353 hx (hb hby at_110) rfl (Jvm.Free.XT.i0_eq_f (by decide)) ?_
      refine ow_iload (q := 115) X353 hx (hb hby at_113) rfl rfl ?_
      refine ow_iconst (q := 116) X353 hx (1 : Int32) (hb hby at_115) rfl rfl ?_
      refine ow_isub (q := 117) X353 hx _ (hb hby at_116) rfl rfl ?_
      refine ow_goto (q := 122) X353 hx (hb hby at_117) (by decide) (by decide) ?_
      generalize hv_v361 : (v1 - (1 : Int32)) = v361
      refine ow_istore (q := 124) X353 hx (L' := #[iv p0, iv p1, iv p2, iv p3, iv p4, iv p5, iv v1, iv v2, iv (1 : Int32), iv (1 : Int32), iv v316, iv v317, iv v318, rv b319, iv v361, .unset]) (hb hby at_122) rfl rfl ?_
      refine ow_aload (q := 126) X353 hx (hb hby at_124) rfl rfl rfl ?_
      obtain ⟨cq362, kq362, q362a, q362b, q362c⟩ := isOf hZ rfl FP353_0
      obtain ⟨_, _, ⟨T362, L362, k362, n362⟩, -, X362, ⟨Lc362, hQ362, l362, y362, z362⟩, st362⟩ := X353.virtualBack hx (y := (⟨"com/example/sieveline/sieveline/model/CurrentDomains", "mark", "()I"⟩ : MethodName)) (z := (⟨"com/example/sieveline/sieveline/model/CurrentDomains", "mark", "()I"⟩ : MethodName)) hown (mvT hZ (ww 29 rfl)) (mvT hZ (ww 30 rfl)) (notFace_of_selects (args := #[]) (mvT hZ (ww 32 rfl))) (mvT hZ (ww 32 rfl)) (mvT hZ (ww 31 rfl)) (by decide) (backOf (W := 0) (rm_mark l Z av0 hw [] b319 (2 : Int32) T353.heap n0 (Nat.le_trans Z0 K353.1) FP353_5) hZ (ww 33 rfl) (ww 3 rfl) (by decide) (by decide)) q362a q362c (g := (mkF m 126 #[iv p0, iv p1, iv p2, iv p3, iv p4, iv p5, iv v1, iv v2, iv (1 : Int32), iv (1 : Int32), iv v316, iv v317, iv v318, rv b319, iv v361, .unset] [(.ref b319)])) rfl (by rw [hml]; rfl) (Steps.refl _) (argsL := []) (rest := []) (lenOf own_pd3 rfl) rfl (by show 2 * 0 + _ ≤ _; exact Nat.le_of_eq rfl) (hb hby at_126) (fun _ _ => ⟨rfl, rfl, (by decide : 10 + 0 ≤ _), (by decide : 97 + 0 ≤ _)⟩)
      dsimp only [Pt.U, Pt.locs, Pt.cells, Pt.slots] at X362 l362 y362 z362 st362 hQ362
      subst l362 y362 z362
      obtain ⟨rfl, N362q, e362⟩ := hQ362
      have N362 := Fr.app N353 N362q
      refine ownRun (T' := T362) (f' := (mkF m 129 #[iv p0, iv p1, iv p2, iv p3, iv p4, iv p5, iv v1, iv v2, iv (1 : Int32), iv (1 : Int32), iv v316, iv v317, iv v318, rv b319, iv v361, .unset] [(.int (2 : Int32))])) st362 ?_
      refine ow_istore (q := 131) X362 hx (L' := #[iv p0, iv p1, iv p2, iv p3, iv p4, iv p5, iv v1, iv v2, iv (1 : Int32), iv (1 : Int32), iv v316, iv v317, iv v318, rv b319, iv v361, iv (2 : Int32)]) (hb hby at_129) rfl rfl ?_
      refine ow_iload (q := 133) X362 hx (hb hby at_131) rfl rfl ?_
      refine ow_iconst (q := 134) X362 hx (1 : Int32) (hb hby at_133) rfl rfl ?_
      refine ow_icmpNo (q := 137) X362 hx (hb hby at_134) rfl (Jvm.Free.XT.ii_lt_f (by decide)) ?_
      refine ow_aload (q := 139) X362 hx (hb hby at_137) rfl rfl rfl ?_
      refine ow_iconst (q := 140) X362 hx (0 : Int32) (hb hby at_139) rfl rfl ?_
      refine ow_iload (q := 142) X362 hx (hb hby at_140) rfl rfl ?_
      obtain ⟨cq363, kq363, q363a, q363b, q363c⟩ := isOf hZ e362 FP353_0
      obtain ⟨_, _, ⟨T363, L363, k363, n363⟩, -, X363, ⟨Lc363, hQ363, l363, y363, z363⟩, st363⟩ := X362.virtualBack hx (y := (⟨"com/example/sieveline/sieveline/model/CurrentDomains", "remove", "(II)V"⟩ : MethodName)) (z := (⟨"com/example/sieveline/sieveline/model/CurrentDomains", "remove", "(II)V"⟩ : MethodName)) hown (mvT hZ (ww 36 rfl)) (mvT hZ (ww 37 rfl)) (notFace_of_selects (args := #[]) (mvT hZ (ww 39 rfl))) (mvT hZ (ww 39 rfl)) (mvT hZ (ww 38 rfl)) (by decide) (backOf (W := 0) (rm_remove_2_0 l Z av0 hw [] b319 v317 at__349 as__349 ad_349 ap_349 d0_349 q0_349 d1_349 q1_349 kd_349 kp_349 (v1.toNatClampNeg) (own_swD own_id (own_id v316.toNatClampNeg) (v1 - (1 : Int32))) (own_swQ own_id own_id (own_id v316.toNatClampNeg) (v1 - (1 : Int32))) (ownUpd (ownUpd (fun _ => (0 : Int32)) 0 (0 : Int32)) 1 v1) (ownUpd (ownUpd (ownUpd (fun _ => (0 : Int32)) 0 v1) 1 v2) 0 (v1 - (1 : Int32))) T353.heap n0 (Nat.le_trans Z0 K353.1) FP353_0 FP353_1 FP353_2 FP353_3 FP353_4 FP353_5 FP353_6 FP353_7 F357 F358 FP353_8 FP353_9 G_b319 G_at__349 G_as__349 G_d0_349 G_q0_349 (ne_b319_at__349) (ne_b319_as__349) (ne_b319_ad_349) (ne_b319_ap_349) (ne_b319_d0_349) (ne_b319_q0_349) (hp349.1) (hp349.2.1) (hp349.2.2.1) (hp349.2.2.2.1) (hp349.2.2.2.2.1) (hp349.2.2.2.2.2.2.2.1) (hp349.2.2.2.2.2.2.2.2.1) (hp349.2.2.2.2.2.2.2.2.2.1) (hp349.2.2.2.2.2.2.2.2.2.2.1) (hp349.2.2.2.2.2.2.2.2.2.2.2.2.2.1) (hp349.2.2.2.2.2.2.2.2.2.2.2.2.2.2.1) (hp349.2.2.2.2.2.2.2.2.2.2.2.2.2.2.2.1) (hp349.2.2.2.2.2.2.2.2.2.2.2.2.2.2.2.2.2.2.1) (hp349.2.2.2.2.2.2.2.2.2.2.2.2.2.2.2.2.2.2.2.1) (hp349.2.2.2.2.2.2.2.2.2.2.2.2.2.2.2.2.2.2.2.2.2.2.1) (own_w hv_v1 hv_v316 hv_v317).1 (own_rg_swD own_rg_id (own_posid (own_v0 hv_v1 hv_v316)) (own_lastid (own_s0 hv_v1))) (own_rg_swQ own_rg_id (own_posid (own_v0 hv_v1 hv_v316)) (own_lastid (own_s0 hv_v1))) (own_s0m hv_v1)) hZ (ww 40 rfl) (ww 3 rfl) (by decide) (by decide)) q363a q363c (g := (mkF m 142 #[iv p0, iv p1, iv p2, iv p3, iv p4, iv p5, iv v1, iv v2, iv (1 : Int32), iv (1 : Int32), iv v316, iv v317, iv v318, rv b319, iv v361, iv (2 : Int32)] [(.int v317), (.int (0 : Int32)), (.ref b319)])) rfl (by rw [hml]; rfl) (Steps.refl _) (argsL := [(.int (0 : Int32)), (.int v317)]) (rest := []) (lenOf own_pd6 rfl) rfl (by show 2 * 0 + _ ≤ _; exact Nat.le_of_eq rfl) (hb hby at_142) (fun _ _ => ⟨rfl, e362, (by decide : 10 + 0 ≤ _), (by decide : 97 + 0 ≤ _)⟩)
      dsimp only [Pt.U, Pt.locs, Pt.cells, Pt.slots] at X363 l363 y363 z363 st363 hQ363
      subst l363 y363 z363
      obtain ⟨rfl, N363q, Kq363, FP363_0, FP363_1, FP363_2, FP363_3, FP363_4, FP363_5, FP363_6, FP363_7, FP363_8, FP363_9⟩ := hQ363
      have N363 := Fr.app N362 N363q
      have K363 : Keep h0 T363.heap [] := K353.trans Kq363 (allS (Or.inr sz_b319) (allS (Or.inr sz_at__349) (allS (Or.inr sz_as__349) (allS (Or.inr sz_d0_349) (allS (Or.inr sz_q0_349) all0)))))
      have F364 : Exa Z T363.heap b319 "com/example/sieveline/sieveline/model/CurrentDomains" := FP353_0.keep Kq363
      have F365 : Exa Z T363.heap b325 "[I" := F355.keep Kq363
      have F366 : ownAI Z T363.heap b325 .int 2 (ownUpd (ownUpd (fun _ => (0 : Int32)) 0 v1) 1 v2) := F356.keep Kq363 (ninS (Ne.symm ne_b319_b325) (ninS ne_b325_at__349 (ninS ne_b325_as__349 (ninS ne_b325_d0_349 (ninS ne_b325_q0_349 nin0)))))
      have F367 : ownAR Z T363.heap ad_349 kd_349 2 (ownUpd (ownUpd (fun _ => Value.null) 0 (.ref d0_349)) 1 (.ref d1_349)) := F357.keep Kq363 (ninS (Ne.symm ne_b319_ad_349) (ninS (Ne.symm hp349.2.1) (ninS (Ne.symm hp349.2.2.2.2.2.2.2.1) (ninS hp349.2.2.2.2.2.2.2.2.2.2.2.2.2.2.1 (ninS hp349.2.2.2.2.2.2.2.2.2.2.2.2.2.2.2.1 nin0)))))
      have F368 : ownAR Z T363.heap ap_349 kp_349 2 (ownUpd (ownUpd (fun _ => Value.null) 0 (.ref q0_349)) 1 (.ref q1_349)) := F358.keep Kq363 (ninS (Ne.symm ne_b319_ap_349) (ninS (Ne.symm hp349.2.2.1) (ninS (Ne.symm hp349.2.2.2.2.2.2.2.2.1) (ninS hp349.2.2.2.2.2.2.2.2.2.2.2.2.2.2.2.2.2.2.1 (ninS hp349.2.2.2.2.2.2.2.2.2.2.2.2.2.2.2.2.2.2.2.1 nin0)))))
      have F369 : ownAI Z T363.heap d1_349 .int (v2.toNatClampNeg) own_id := F359.keep Kq363 (ninS (Ne.symm ne_b319_d1_349) (ninS (Ne.symm hp349.2.2.2.2.2.1) (ninS (Ne.symm hp349.2.2.2.2.2.2.2.2.2.2.2.1) (ninS (Ne.symm hp349.2.2.2.2.2.2.2.2.2.2.2.2.2.2.2.2.2.2.2.2.2.2.2.1) (ninS (Ne.symm hp349.2.2.2.2.2.2.2.2.2.2.2.2.2.2.2.2.2.2.2.2.2.2.2.2.2.1) nin0)))))
      have F370 : ownAI Z T363.heap q1_349 .int (v2.toNatClampNeg) own_id := F360.keep Kq363 (ninS (Ne.symm ne_b319_q1_349) (ninS (Ne.symm hp349.2.2.2.2.2.2.1) (ninS (Ne.symm hp349.2.2.2.2.2.2.2.2.2.2.2.2.1) (ninS (Ne.symm hp349.2.2.2.2.2.2.2.2.2.2.2.2.2.2.2.2.2.2.2.2.2.2.2.2.1) (ninS (Ne.symm hp349.2.2.2.2.2.2.2.2.2.2.2.2.2.2.2.2.2.2.2.2.2.2.2.2.2.2.1) nin0)))))
      refine ownRun (T' := T363) (f' := (mkF m 145 #[iv p0, iv p1, iv p2, iv p3, iv p4, iv p5, iv v1, iv v2, iv (1 : Int32), iv (1 : Int32), iv v316, iv v317, iv v318, rv b319, iv v361, iv (2 : Int32)] [])) st363 ?_
      refine ow_iload (q := 147) X363 hx (hb hby at_145) rfl rfl ?_
      refine ow_iconst (q := 148) X363 hx (2 : Int32) (hb hby at_147) rfl rfl ?_
      refine ow_icmpYes (q := 159) X363 hx (hb hby at_148) (Jvm.Free.XT.ii_lt_t (by decide)) (by decide) (by decide) ?_
      refine ow_iload (q := 161) X363 hx (hb hby at_159) rfl rfl ?_
      refine ow_iconst (q := 162) X363 hx (3 : Int32) (hb hby at_161) rfl rfl ?_
      refine ow_icmpYes (q := 173) X363 hx (hb hby at_162) (Jvm.Free.XT.ii_lt_t (by decide)) (by decide) (by decide) ?_
      refine ow_aload (q := 175) X363 hx (hb hby at_173) rfl rfl rfl ?_
      refine ow_iload (q := 177) X363 hx (hb hby at_175) rfl rfl ?_
      obtain ⟨cq371, kq371, q371a, q371b, q371c⟩ := isOf hZ rfl FP363_0
      obtain ⟨_, _, ⟨T371, L371, k371, n371⟩, -, X371, ⟨Lc371, hQ371, l371, y371, z371⟩, st371⟩ := X363.virtualBack hx (y := (⟨"com/example/sieveline/sieveline/model/CurrentDomains", "undo", "(I)V"⟩ : MethodName)) (z := (⟨"com/example/sieveline/sieveline/model/CurrentDomains", "undo", "(I)V"⟩ : MethodName)) hown (mvT hZ (ww 49 rfl)) (mvT hZ (ww 50 rfl)) (notFace_of_selects (args := #[]) (mvT hZ (ww 52 rfl))) (mvT hZ (ww 52 rfl)) (mvT hZ (ww 51 rfl)) (by decide) (backOf (W := 0) (rm_undo_2_1 l Z av0 hw [] b319 at__349 as__349 ad_349 ap_349 (ownUpd (ownUpd (ownUpd (ownUpd (fun _ => (0 : Int32)) 0 (0 : Int32)) 1 v1) 2 (0 : Int32)) 3 (v1 - (1 : Int32))) (ownUpd (ownUpd (ownUpd (ownUpd (fun _ => (0 : Int32)) 0 v1) 1 v2) 0 (v1 - (1 : Int32))) 0 ((v1 - (1 : Int32)) - (1 : Int32))) T363.heap n0 (Nat.le_trans Z0 K363.1) FP363_0 FP363_1 FP363_2 FP363_3 FP363_4 FP363_5 FP363_6 FP363_7 G_b319 G_as__349 (ne_b319_at__349) (ne_b319_as__349) (hp349.1) rfl) hZ (ww 53 rfl) (ww 3 rfl) (by decide) (by decide)) q371a q371c (g := (mkF m 177 #[iv p0, iv p1, iv p2, iv p3, iv p4, iv p5, iv v1, iv v2, iv (1 : Int32), iv (1 : Int32), iv v316, iv v317, iv v318, rv b319, iv v361, iv (2 : Int32)] [(.int (2 : Int32)), (.ref b319)])) rfl (by rw [hml]; rfl) (Steps.refl _) (argsL := [(.int (2 : Int32))]) (rest := []) (lenOf own_pd0 rfl) rfl (by show 2 * 0 + _ ≤ _; exact Nat.le_of_eq rfl) (hb hby at_177) (fun _ _ => ⟨rfl, rfl, (by decide : 10 + 0 ≤ _), (by decide : 97 + 0 ≤ _)⟩)
      dsimp only [Pt.U, Pt.locs, Pt.cells, Pt.slots] at X371 l371 y371 z371 st371 hQ371
      subst l371 y371 z371
      obtain ⟨rfl, N371q, Kq371, FP371_0, FP371_1, FP371_2, FP371_3, FP371_4, FP371_5, FP371_6⟩ := hQ371
      have N371 := Fr.app N363 N371q
      have K371 : Keep h0 T371.heap [] := K363.trans Kq371 (allS (Or.inr sz_b319) (allS (Or.inr sz_as__349) all0))
      have F372 : Exa Z T371.heap b319 "com/example/sieveline/sieveline/model/CurrentDomains" := FP363_0.keep Kq371
      have F373 : Exa Z T371.heap b325 "[I" := F365.keep Kq371
      have F374 : ownAI Z T371.heap b325 .int 2 (ownUpd (ownUpd (fun _ => (0 : Int32)) 0 v1) 1 v2) := F366.keep Kq371 (ninS (Ne.symm ne_b319_b325) (ninS ne_b325_as__349 nin0))
      have F375 : ownAR Z T371.heap ad_349 kd_349 2 (ownUpd (ownUpd (fun _ => Value.null) 0 (.ref d0_349)) 1 (.ref d1_349)) := F367.keep Kq371 (ninS (Ne.symm ne_b319_ad_349) (ninS (Ne.symm hp349.2.2.2.2.2.2.2.1) nin0))
      have F376 : ownAR Z T371.heap ap_349 kp_349 2 (ownUpd (ownUpd (fun _ => Value.null) 0 (.ref q0_349)) 1 (.ref q1_349)) := F368.keep Kq371 (ninS (Ne.symm ne_b319_ap_349) (ninS (Ne.symm hp349.2.2.2.2.2.2.2.2.1) nin0))
      have F377 : ownAI Z T371.heap d1_349 .int (v2.toNatClampNeg) own_id := F369.keep Kq371 (ninS (Ne.symm ne_b319_d1_349) (ninS (Ne.symm hp349.2.2.2.2.2.2.2.2.2.2.2.1) nin0))
      have F378 : ownAI Z T371.heap q1_349 .int (v2.toNatClampNeg) own_id := F370.keep Kq371 (ninS (Ne.symm ne_b319_q1_349) (ninS (Ne.symm hp349.2.2.2.2.2.2.2.2.2.2.2.2.1) nin0))
      have F379 : ownAI Z T371.heap at__349 .int 64 (ownUpd (ownUpd (ownUpd (ownUpd (fun _ => (0 : Int32)) 0 (0 : Int32)) 1 v1) 2 (0 : Int32)) 3 (v1 - (1 : Int32))) := FP363_6.keep Kq371 (ninS (Ne.symm ne_b319_at__349) (ninS hp349.1 nin0))
      have F380 : ownAI Z T371.heap d0_349 .int (v1.toNatClampNeg) (own_swD (own_swD own_id (own_id v316.toNatClampNeg) (v1 - (1 : Int32))) ((own_swQ own_id own_id (own_id v316.toNatClampNeg) (v1 - (1 : Int32))) v317.toNatClampNeg) ((v1 - (1 : Int32)) - (1 : Int32))) := FP363_8.keep Kq371 (ninS (Ne.symm ne_b319_d0_349) (ninS (Ne.symm hp349.2.2.2.2.2.2.2.2.2.1) nin0))
      have F381 : ownAI Z T371.heap q0_349 .int (v1.toNatClampNeg) (own_swQ (own_swD own_id (own_id v316.toNatClampNeg) (v1 - (1 : Int32))) (own_swQ own_id own_id (own_id v316.toNatClampNeg) (v1 - (1 : Int32))) ((own_swQ own_id own_id (own_id v316.toNatClampNeg) (v1 - (1 : Int32))) v317.toNatClampNeg) ((v1 - (1 : Int32)) - (1 : Int32))) := FP363_9.keep Kq371 (ninS (Ne.symm ne_b319_q0_349) (ninS (Ne.symm hp349.2.2.2.2.2.2.2.2.2.2.1) nin0))
      refine ownRun (T' := T371) (f' := (mkF m 180 #[iv p0, iv p1, iv p2, iv p3, iv p4, iv p5, iv v1, iv v2, iv (1 : Int32), iv (1 : Int32), iv v316, iv v317, iv v318, rv b319, iv v361, iv (2 : Int32)] [])) st371 ?_
      refine ow_aload (q := 182) X371 hx (hb hby at_180) rfl rfl rfl ?_
      refine ow_iconst (q := 183) X371 hx (0 : Int32) (hb hby at_182) rfl rfl ?_
      obtain ⟨cq382, kq382, q382a, q382b, q382c⟩ := isOf hZ rfl FP371_0
      obtain ⟨_, _, ⟨T382, L382, k382, n382⟩, -, X382, ⟨Lc382, hQ382, l382, y382, z382⟩, st382⟩ := X371.virtualBack hx (y := (⟨"com/example/sieveline/sieveline/model/CurrentDomains", "size", "(I)I"⟩ : MethodName)) (z := (⟨"com/example/sieveline/sieveline/model/CurrentDomains", "size", "(I)I"⟩ : MethodName)) hown (mvT hZ (ww 54 rfl)) (mvT hZ (ww 55 rfl)) (notFace_of_selects (args := #[]) (mvT hZ (ww 57 rfl))) (mvT hZ (ww 57 rfl)) (mvT hZ (ww 56 rfl)) (by decide) (backOf (W := 0) (rm_size_0 l Z av0 hw [] b319 as__349 (ownUpd (ownUpd (ownUpd (ownUpd (ownUpd (fun _ => (0 : Int32)) 0 v1) 1 v2) 0 (v1 - (1 : Int32))) 0 ((v1 - (1 : Int32)) - (1 : Int32))) 0 (v1 - (1 : Int32))) T371.heap n0 (Nat.le_trans Z0 K371.1) FP371_2 FP371_6) hZ (ww 58 rfl) (ww 3 rfl) (by decide) (by decide)) q382a q382c (g := (mkF m 183 #[iv p0, iv p1, iv p2, iv p3, iv p4, iv p5, iv v1, iv v2, iv (1 : Int32), iv (1 : Int32), iv v316, iv v317, iv v318, rv b319, iv v361, iv (2 : Int32)] [(.int (0 : Int32)), (.ref b319)])) rfl (by rw [hml]; rfl) (Steps.refl _) (argsL := [(.int (0 : Int32))]) (rest := []) (lenOf own_pd4 rfl) rfl (by show 2 * 0 + _ ≤ _; exact Nat.le_of_eq rfl) (hb hby at_183) (fun _ _ => ⟨rfl, rfl, (by decide : 10 + 0 ≤ _), (by decide : 97 + 0 ≤ _)⟩)
      dsimp only [Pt.U, Pt.locs, Pt.cells, Pt.slots] at X382 l382 y382 z382 st382 hQ382
      subst l382 y382 z382
      obtain ⟨rfl, N382q, e382⟩ := hQ382
      have N382 := Fr.app N371 N382q
      refine ownRun (T' := T382) (f' := (mkF m 186 #[iv p0, iv p1, iv p2, iv p3, iv p4, iv p5, iv v1, iv v2, iv (1 : Int32), iv (1 : Int32), iv v316, iv v317, iv v318, rv b319, iv v361, iv (2 : Int32)] [(.int (v1 - (1 : Int32)))])) st382 ?_
      refine ow_iload (q := 188) X382 hx (hb hby at_186) rfl rfl ?_
      refine ow_icmpNo (q := 191) X382 hx (hb hby at_188) rfl (Jvm.Free.XT.ii_ne_f hv_v361) ?_
      refine ow_aload (q := 193) X382 hx (hb hby at_191) rfl rfl rfl ?_
      refine ow_iconst (q := 194) X382 hx (1 : Int32) (hb hby at_193) rfl rfl ?_
      obtain ⟨cq383, kq383, q383a, q383b, q383c⟩ := isOf hZ e382 FP371_0
      obtain ⟨_, _, ⟨T383, L383, k383, n383⟩, -, X383, ⟨Lc383, hQ383, l383, y383, z383⟩, st383⟩ := X382.virtualBack hx (y := (⟨"com/example/sieveline/sieveline/model/CurrentDomains", "size", "(I)I"⟩ : MethodName)) (z := (⟨"com/example/sieveline/sieveline/model/CurrentDomains", "size", "(I)I"⟩ : MethodName)) hown (mvT hZ (ww 54 rfl)) (mvT hZ (ww 55 rfl)) (notFace_of_selects (args := #[]) (mvT hZ (ww 57 rfl))) (mvT hZ (ww 57 rfl)) (mvT hZ (ww 56 rfl)) (by decide) (backOf (W := 0) (rm_size_1 l Z av0 hw [] b319 as__349 (ownUpd (ownUpd (ownUpd (ownUpd (ownUpd (fun _ => (0 : Int32)) 0 v1) 1 v2) 0 (v1 - (1 : Int32))) 0 ((v1 - (1 : Int32)) - (1 : Int32))) 0 (v1 - (1 : Int32))) T371.heap n0 (Nat.le_trans Z0 K371.1) FP371_2 FP371_6) hZ (ww 58 rfl) (ww 3 rfl) (by decide) (by decide)) q383a q383c (g := (mkF m 194 #[iv p0, iv p1, iv p2, iv p3, iv p4, iv p5, iv v1, iv v2, iv (1 : Int32), iv (1 : Int32), iv v316, iv v317, iv v318, rv b319, iv v361, iv (2 : Int32)] [(.int (1 : Int32)), (.ref b319)])) rfl (by rw [hml]; rfl) (Steps.refl _) (argsL := [(.int (1 : Int32))]) (rest := []) (lenOf own_pd4 rfl) rfl (by show 2 * 0 + _ ≤ _; exact Nat.le_of_eq rfl) (hb hby at_194) (fun _ _ => ⟨rfl, e382, (by decide : 10 + 0 ≤ _), (by decide : 97 + 0 ≤ _)⟩)
      dsimp only [Pt.U, Pt.locs, Pt.cells, Pt.slots] at X383 l383 y383 z383 st383 hQ383
      subst l383 y383 z383
      obtain ⟨rfl, N383q, e383⟩ := hQ383
      have N383 := Fr.app N382 N383q
      refine ownRun (T' := T383) (f' := (mkF m 197 #[iv p0, iv p1, iv p2, iv p3, iv p4, iv p5, iv v1, iv v2, iv (1 : Int32), iv (1 : Int32), iv v316, iv v317, iv v318, rv b319, iv v361, iv (2 : Int32)] [(.int v2)])) st383 ?_
      refine ow_iload (q := 199) X383 hx (hb hby at_197) rfl rfl ?_
      refine ow_icmpNo (q := 202) X383 hx (hb hby at_199) rfl (Jvm.Free.XT.ii_ne_f rfl) ?_
      refine ow_aload (q := 204) X383 hx (hb hby at_202) rfl rfl rfl ?_
      refine ow_iconst (q := 205) X383 hx (0 : Int32) (hb hby at_204) rfl rfl ?_
      refine ow_iload (q := 207) X383 hx (hb hby at_205) rfl rfl ?_
      obtain ⟨cq384, kq384, q384a, q384b, q384c⟩ := isOf hZ e383 FP371_0
      obtain ⟨_, _, ⟨T384, L384, k384, n384⟩, -, X384, ⟨Lc384, hQ384, l384, y384, z384⟩, st384⟩ := X383.virtualBack hx (y := (⟨"com/example/sieveline/sieveline/model/CurrentDomains", "contains", "(II)Z"⟩ : MethodName)) (z := (⟨"com/example/sieveline/sieveline/model/CurrentDomains", "contains", "(II)Z"⟩ : MethodName)) hown (mvT hZ (ww 59 rfl)) (mvT hZ (ww 60 rfl)) (notFace_of_selects (args := #[]) (mvT hZ (ww 62 rfl))) (mvT hZ (ww 62 rfl)) (mvT hZ (ww 61 rfl)) (by decide) (backOf (W := 0) (rm_contains l Z av0 hw [] b319 v316 as__349 ap_349 q0_349 q1_349 kp_349 (v1.toNatClampNeg) (own_swQ (own_swD own_id (own_id v316.toNatClampNeg) (v1 - (1 : Int32))) (own_swQ own_id own_id (own_id v316.toNatClampNeg) (v1 - (1 : Int32))) ((own_swQ own_id own_id (own_id v316.toNatClampNeg) (v1 - (1 : Int32))) v317.toNatClampNeg) ((v1 - (1 : Int32)) - (1 : Int32))) (ownUpd (ownUpd (ownUpd (ownUpd (ownUpd (fun _ => (0 : Int32)) 0 v1) 1 v2) 0 (v1 - (1 : Int32))) 0 ((v1 - (1 : Int32)) - (1 : Int32))) 0 (v1 - (1 : Int32))) T371.heap n0 (Nat.le_trans Z0 K371.1) FP371_2 FP371_4 FP371_6 F376 F381 (own_v0 hv_v1 hv_v316)) hZ (ww 63 rfl) (ww 3 rfl) (by decide) (by decide)) q384a q384c (g := (mkF m 207 #[iv p0, iv p1, iv p2, iv p3, iv p4, iv p5, iv v1, iv v2, iv (1 : Int32), iv (1 : Int32), iv v316, iv v317, iv v318, rv b319, iv v361, iv (2 : Int32)] [(.int v316), (.int (0 : Int32)), (.ref b319)])) rfl (by rw [hml]; rfl) (Steps.refl _) (argsL := [(.int (0 : Int32)), (.int v316)]) (rest := []) (lenOf own_pd5 rfl) rfl (by show 2 * 0 + _ ≤ _; exact Nat.le_of_eq rfl) (hb hby at_207) (fun _ _ => ⟨rfl, e383, (by decide : 10 + 0 ≤ _), (by decide : 97 + 0 ≤ _)⟩)
      dsimp only [Pt.U, Pt.locs, Pt.cells, Pt.slots] at X384 l384 y384 z384 st384 hQ384
      subst l384 y384 z384
      obtain ⟨rfl, N384q, e384⟩ := hQ384
      have N384 := Fr.app N383 N384q
      refine ownRun (T' := T384) (f' := (mkF m 210 #[iv p0, iv p1, iv p2, iv p3, iv p4, iv p5, iv v1, iv v2, iv (1 : Int32), iv (1 : Int32), iv v316, iv v317, iv v318, rv b319, iv v361, iv (2 : Int32)] [(.int (if ((own_swQ (own_swD own_id (own_id v316.toNatClampNeg) (v1 - (1 : Int32))) (own_swQ own_id own_id (own_id v316.toNatClampNeg) (v1 - (1 : Int32))) ((own_swQ own_id own_id (own_id v316.toNatClampNeg) (v1 - (1 : Int32))) v317.toNatClampNeg) ((v1 - (1 : Int32)) - (1 : Int32))) v316.toNatClampNeg) < (v1 - (1 : Int32)) then (1 : Int32) else (0 : Int32)))])) st384 ?_
      refine ow_iload (q := 212) X384 hx (hb hby at_210) rfl rfl ?_
      refine ow_ifYes (q := 219) X384 hx (hb hby at_212) (Jvm.Free.XT.i0_ne_t (by decide)) (by decide) (by decide) ?_
      refine ow_iconst (q := 220) X384 hx (0 : Int32) (hb hby at_219) rfl rfl ?_
      refine ow_icmpNo (q := 223) X384 hx (hb hby at_220) rfl (Jvm.Free.XT.ii_ne_f (by rw [if_neg (own_f1 hv_v1 hv_v316 hv_v317)])) ?_
      refine ow_aload (q := 225) X384 hx (hb hby at_223) rfl rfl rfl ?_
      obtain ⟨cq385, kq385, q385a, q385b, q385c⟩ := isOf hZ e384 FP371_0
      obtain ⟨_, _, ⟨T385, L385, k385, n385⟩, -, X385, ⟨Lc385, hQ385, l385, y385, z385⟩, st385⟩ := X384.virtualBack hx (y := (⟨"com/example/sieveline/sieveline/model/CurrentDomains", "mark", "()I"⟩ : MethodName)) (z := (⟨"com/example/sieveline/sieveline/model/CurrentDomains", "mark", "()I"⟩ : MethodName)) hown (mvT hZ (ww 29 rfl)) (mvT hZ (ww 30 rfl)) (notFace_of_selects (args := #[]) (mvT hZ (ww 32 rfl))) (mvT hZ (ww 32 rfl)) (mvT hZ (ww 31 rfl)) (by decide) (backOf (W := 0) (rm_mark l Z av0 hw [] b319 (2 : Int32) T371.heap n0 (Nat.le_trans Z0 K371.1) FP371_5) hZ (ww 33 rfl) (ww 3 rfl) (by decide) (by decide)) q385a q385c (g := (mkF m 225 #[iv p0, iv p1, iv p2, iv p3, iv p4, iv p5, iv v1, iv v2, iv (1 : Int32), iv (1 : Int32), iv v316, iv v317, iv v318, rv b319, iv v361, iv (2 : Int32)] [(.ref b319)])) rfl (by rw [hml]; rfl) (Steps.refl _) (argsL := []) (rest := []) (lenOf own_pd3 rfl) rfl (by show 2 * 0 + _ ≤ _; exact Nat.le_of_eq rfl) (hb hby at_225) (fun _ _ => ⟨rfl, e384, (by decide : 10 + 0 ≤ _), (by decide : 97 + 0 ≤ _)⟩)
      dsimp only [Pt.U, Pt.locs, Pt.cells, Pt.slots] at X385 l385 y385 z385 st385 hQ385
      subst l385 y385 z385
      obtain ⟨rfl, N385q, e385⟩ := hQ385
      have N385 := Fr.app N384 N385q
      refine ownRun (T' := T385) (f' := (mkF m 228 #[iv p0, iv p1, iv p2, iv p3, iv p4, iv p5, iv v1, iv v2, iv (1 : Int32), iv (1 : Int32), iv v316, iv v317, iv v318, rv b319, iv v361, iv (2 : Int32)] [(.int (2 : Int32))])) st385 ?_
      refine ow_iload (q := 230) X385 hx (hb hby at_228) rfl rfl ?_
      refine ow_icmpNo (q := 233) X385 hx (hb hby at_230) rfl (Jvm.Free.XT.ii_ne_f (by decide)) ?_
      refine ow_iconst (q := 234) X385 hx (1 : Int32) (hb hby at_233) rfl rfl ?_
      refine ow_goto (q := 238) X385 hx (hb hby at_234) (by decide) (by decide) ?_
      refine ownRetN X385 hx (r := (1 : Int32)) (Or.inl rfl) Bd.returns (hb hby at_238) hlk (by decide) (by decide) (by decide) ?_
      exact ⟨rfl, N385⟩
    · subst hs262
      refine ow_iloadN (q := 35) X0 hx (hb hby at_34) rfl rfl ?_
      refine ownGo (T' := s₁) (f' := (mkF m 37 #[iv p0, iv p1, iv p2, iv p3, iv p4, iv p5, iv v1, iv v2, iv (1 : Int32), iv (2 : Int32), .unset, .unset, .unset, .unset, .unset, .unset] [(.int (2147483647 : Int32)), (.int p3)])) (X0.ldcInt hx hown (mvT hZ (ww 0 rfl)) (g := (mkF m 35 #[iv p0, iv p1, iv p2, iv p3, iv p4, iv p5, iv v1, iv v2, iv (1 : Int32), iv (2 : Int32), .unset, .unset, .unset, .unset, .unset, .unset] [(.int p3)])) rfl (hb hby at_35)) ?_
      refine ow_iand (q := 38) X0 hx _ (hb hby at_37) rfl rfl ?_
      refine ow_iload (q := 40) X0 hx (hb hby at_38) rfl rfl ?_
      refine ow_irem (q := 41) X0 hx _ (hb hby at_40) rfl (own_z0 hv_v1) rfl ?_
      generalize hv_v386 : ((p3 &&& (2147483647 : Int32)) % v1) = v386
      refine ow_istore (q := 43) X0 hx (L' := #[iv p0, iv p1, iv p2, iv p3, iv p4, iv p5, iv v1, iv v2, iv (1 : Int32), iv (2 : Int32), iv v386, .unset, .unset, .unset, .unset, .unset]) (hb hby at_41) rfl rfl ?_
      refine ow_iload (q := 45) X0 hx (hb hby at_43) rfl rfl ?_
      refine ow_iconst (q := 46) X0 hx (1 : Int32) (hb hby at_45) rfl rfl ?_
      refine ow_iadd (q := 47) X0 hx _ (hb hby at_46) rfl rfl ?_
      refine ow_iload (q := 49) X0 hx (hb hby at_47) rfl rfl ?_
      refine ownGo (T' := s₁) (f' := (mkF m 51 #[iv p0, iv p1, iv p2, iv p3, iv p4, iv p5, iv v1, iv v2, iv (1 : Int32), iv (2 : Int32), iv v386, .unset, .unset, .unset, .unset, .unset] [(.int (2147483647 : Int32)), (.int p4), (.int (v386 + (1 : Int32)))])) (X0.ldcInt hx hown (mvT hZ (ww 0 rfl)) (g := (mkF m 49 #[iv p0, iv p1, iv p2, iv p3, iv p4, iv p5, iv v1, iv v2, iv (1 : Int32), iv (2 : Int32), iv v386, .unset, .unset, .unset, .unset, .unset] [(.int p4), (.int (v386 + (1 : Int32)))])) rfl (hb hby at_49)) ?_
      refine ow_iand (q := 52) X0 hx _ (hb hby at_51) rfl rfl ?_
      refine ow_iload (q := 54) X0 hx (hb hby at_52) rfl rfl ?_
      refine ow_iconst (q := 55) X0 hx (1 : Int32) (hb hby at_54) rfl rfl ?_
      refine ow_isub (q := 56) X0 hx _ (hb hby at_55) rfl rfl ?_
      refine ow_irem (q := 57) X0 hx _ (hb hby at_56) rfl (own_z0m hv_v1) rfl ?_
      refine ow_iadd (q := 58) X0 hx _ (hb hby at_57) rfl rfl ?_
      refine ow_iload (q := 60) X0 hx (hb hby at_58) rfl rfl ?_
      refine ow_irem (q := 61) X0 hx _ (hb hby at_60) rfl (own_z0 hv_v1) rfl ?_
      generalize hv_v387 : (((v386 + (1 : Int32)) + ((p4 &&& (2147483647 : Int32)) % (v1 - (1 : Int32)))) % v1) = v387
      refine ow_istore (q := 63) X0 hx (L' := #[iv p0, iv p1, iv p2, iv p3, iv p4, iv p5, iv v1, iv v2, iv (1 : Int32), iv (2 : Int32), iv v386, iv v387, .unset, .unset, .unset, .unset]) (hb hby at_61) rfl rfl ?_
      refine ow_iload (q := 65) X0 hx (hb hby at_63) rfl rfl ?_
      refine ownGo (T' := s₁) (f' := (mkF m 67 #[iv p0, iv p1, iv p2, iv p3, iv p4, iv p5, iv v1, iv v2, iv (1 : Int32), iv (2 : Int32), iv v386, iv v387, .unset, .unset, .unset, .unset] [(.int (2147483647 : Int32)), (.int p5)])) (X0.ldcInt hx hown (mvT hZ (ww 0 rfl)) (g := (mkF m 65 #[iv p0, iv p1, iv p2, iv p3, iv p4, iv p5, iv v1, iv v2, iv (1 : Int32), iv (2 : Int32), iv v386, iv v387, .unset, .unset, .unset, .unset] [(.int p5)])) rfl (hb hby at_65)) ?_
      refine ow_iand (q := 68) X0 hx _ (hb hby at_67) rfl rfl ?_
      refine ow_iload (q := 70) X0 hx (hb hby at_68) rfl rfl ?_
      refine ow_irem (q := 71) X0 hx _ (hb hby at_70) rfl (own_z1 hv_v2) rfl ?_
      generalize hv_v388 : ((p5 &&& (2147483647 : Int32)) % v2) = v388
      refine ow_istore (q := 73) X0 hx (L' := #[iv p0, iv p1, iv p2, iv p3, iv p4, iv p5, iv v1, iv v2, iv (1 : Int32), iv (2 : Int32), iv v386, iv v387, iv v388, .unset, .unset, .unset]) (hb hby at_71) rfl rfl ?_
      obtain ⟨T389, h389, X389, e389, E389, A389, D389, -, st389⟩ := newO X0 hx hZ hown (ww 1 rfl) (ww 2 rfl) (ww 3 rfl) e0 (g := (mkF m 73 #[iv p0, iv p1, iv p2, iv p3, iv p4, iv p5, iv v1, iv v2, iv (1 : Int32), iv (2 : Int32), iv v386, iv v387, iv v388, .unset, .unset, .unset] [])) rfl (hb hby at_73) (by decide) (by decide)
      obtain ⟨b389, g389⟩ : ∃ z, z = h0.size := ⟨_, rfl⟩
      rw [← g389] at A389 D389 st389
      have sz_b389 : h0.size ≤ b389 := Nat.le_trans K0.1 (Nat.le_of_eq g389.symm)
      have G_b389 : n0 ≤ b389 := Nat.le_trans Z0 sz_b389
      have K389 : Keep h0 h389 [] := K0.ext E389
      have F390 : Fld Z h389 b389 "com/example/sieveline/sieveline/model/CurrentDomains" "trail" "[I" .null := D389 (Or.inl (ww 12 rfl)) (ty := (.array .int)) (by decide)
      have F391 : Fld Z h389 b389 "com/example/sieveline/sieveline/model/CurrentDomains" "size" "[I" .null := D389 (Or.inr (ww 23 rfl)) (ty := (.array .int)) (by decide)
      have F392 : Fld Z h389 b389 "com/example/sieveline/sieveline/model/CurrentDomains" "dense" "[[I" .null := D389 (Or.inr (ww 26 rfl)) (ty := (.array (.array .int))) (by decide)
      have F393 : Fld Z h389 b389 "com/example/sieveline/sieveline/model/CurrentDomains" "position" "[[I" .null := D389 (Or.inr (ww 28 rfl)) (ty := (.array (.array .int))) (by decide)
      have F394 : Fld Z h389 b389 "com/example/sieveline/sieveline/model/CurrentDomains" "top" "I" (.int (0 : Int32)) := D389 (Or.inl (ww 35 rfl)) (ty := .int) (by decide)
      refine ownGo (T' := T389) (f' := (mkF m 76 #[iv p0, iv p1, iv p2, iv p3, iv p4, iv p5, iv v1, iv v2, iv (1 : Int32), iv (2 : Int32), iv v386, iv v387, iv v388, .unset, .unset, .unset] [(.ref b389)])) (st389) ?_
      refine ow_dup (q := 77) X389 hx (hb hby at_76) rfl rfl ?_
      refine ow_iconst (q := 78) X389 hx (2 : Int32) (hb hby at_77) rfl rfl ?_
      obtain ⟨T395, h395, k395, X395, e395, E395, A395, EA395, st395⟩ := newPE X389 hx hZ (ww 4 rfl) e389 (g := (mkF m 78 #[iv p0, iv p1, iv p2, iv p3, iv p4, iv p5, iv v1, iv v2, iv (1 : Int32), iv (2 : Int32), iv v386, iv v387, iv v388, .unset, .unset, .unset] [(.int (2 : Int32)), (.ref b389), (.ref b389)])) rfl (hb hby at_78) rfl (by decide) (cap := 2) (by decide) (by decide) (by decide) (by decide) (ad := "[I") (by decide)
      obtain ⟨b395, g395⟩ : ∃ z, z = h389.size := ⟨_, rfl⟩
      rw [← g395] at A395 st395 EA395
      have ne_b389_b395 : b389 ≠ b395 := Nat.ne_of_lt (Nat.lt_of_lt_of_le A389.lt (Nat.le_of_eq g395.symm))
      have sz_b395 : h0.size ≤ b395 := Nat.le_trans K389.1 (Nat.le_of_eq g395.symm)
      have G_b395 : n0 ≤ b395 := Nat.le_trans Z0 sz_b395
      have K395 : Keep h0 h395 [] := K389.ext E395
      have F396 : Exa Z h395 b389 "com/example/sieveline/sieveline/model/CurrentDomains" := A389.ext E395
      have F397 : Fld Z h395 b389 "com/example/sieveline/sieveline/model/CurrentDomains" "trail" "[I" .null := F390.ext E395
      have F398 : Fld Z h395 b389 "com/example/sieveline/sieveline/model/CurrentDomains" "size" "[I" .null := F391.ext E395
      have F399 : Fld Z h395 b389 "com/example/sieveline/sieveline/model/CurrentDomains" "dense" "[[I" .null := F392.ext E395
      have F400 : Fld Z h395 b389 "com/example/sieveline/sieveline/model/CurrentDomains" "position" "[[I" .null := F393.ext E395
      have F401 : Fld Z h395 b389 "com/example/sieveline/sieveline/model/CurrentDomains" "top" "I" (.int (0 : Int32)) := F394.ext E395
      have F402 : ownAI Z h395 b395 .int 2 (fun _ => (0 : Int32)) := ownAI.new A395 (by decide) rfl (by decide)
      refine ownGo (T' := T395) (f' := (mkF m 80 #[iv p0, iv p1, iv p2, iv p3, iv p4, iv p5, iv v1, iv v2, iv (1 : Int32), iv (2 : Int32), iv v386, iv v387, iv v388, .unset, .unset, .unset] [(.ref b395), (.ref b389), (.ref b389)])) (st395) ?_
      refine ow_dup (q := 81) X395 hx (hb hby at_80) rfl rfl ?_
      refine ow_iconst (q := 82) X395 hx (0 : Int32) (hb hby at_81) rfl rfl ?_
      refine ow_iload (q := 84) X395 hx (hb hby at_82) rfl rfl ?_
      obtain ⟨T403, h403, X403, e403, W403, F403s, st403⟩ := ownIastore F402 X395 hx hZ e395 (j := (0 : Int32)) (by unfold ownIn; decide) (g := (mkF m 84 #[iv p0, iv p1, iv p2, iv p3, iv p4, iv p5, iv v1, iv v2, iv (1 : Int32), iv (2 : Int32), iv v386, iv v387, iv v388, .unset, .unset, .unset] [(.int v1), (.int (0 : Int32)), (.ref b395), (.ref b395), (.ref b389), (.ref b389)])) rfl rfl (hb hby at_84)
      have F403r : ownAI Z h403 b395 .int 2 (ownUpd (fun _ => (0 : Int32)) 0 v1) := F403s
      have N403 := Fr.snoc X403 N0 G_b395
      have K403 : Keep h0 h403 [] := K395.wr W403 (Or.inr sz_b395)
      have F404 : Exa Z h403 b389 "com/example/sieveline/sieveline/model/CurrentDomains" := F396.wr W403
      have F405 : Fld Z h403 b389 "com/example/sieveline/sieveline/model/CurrentDomains" "trail" "[I" .null := F397.other W403 (Or.inl ne_b389_b395)
      have F406 : Fld Z h403 b389 "com/example/sieveline/sieveline/model/CurrentDomains" "size" "[I" .null := F398.other W403 (Or.inl ne_b389_b395)
      have F407 : Fld Z h403 b389 "com/example/sieveline/sieveline/model/CurrentDomains" "dense" "[[I" .null := F399.other W403 (Or.inl ne_b389_b395)
      have F408 : Fld Z h403 b389 "com/example/sieveline/sieveline/model/CurrentDomains" "position" "[[I" .null := F400.other W403 (Or.inl ne_b389_b395)
      have F409 : Fld Z h403 b389 "com/example/sieveline/sieveline/model/CurrentDomains" "top" "I" (.int (0 : Int32)) := F401.other W403 (Or.inl ne_b389_b395)
      have F410 : Exa Z h403 b395 "[I" := EA395.wr W403
      refine ownGo (T' := T403) (f' := (mkF m 85 #[iv p0, iv p1, iv p2, iv p3, iv p4, iv p5, iv v1, iv v2, iv (1 : Int32), iv (2 : Int32), iv v386, iv v387, iv v388, .unset, .unset, .unset] [(.ref b395), (.ref b389), (.ref b389)])) (st403) ?_
      refine ow_dup (q := 86) X403 hx (hb hby at_85) rfl rfl ?_
      refine ow_iconst (q := 87) X403 hx (1 : Int32) (hb hby at_86) rfl rfl ?_
      refine ow_iload (q := 89) X403 hx (hb hby at_87) rfl rfl ?_
      obtain ⟨T411, h411, X411, e411, W411, F411s, st411⟩ := ownIastore F403r X403 hx hZ e403 (j := (1 : Int32)) (by unfold ownIn; decide) (g := (mkF m 89 #[iv p0, iv p1, iv p2, iv p3, iv p4, iv p5, iv v1, iv v2, iv (1 : Int32), iv (2 : Int32), iv v386, iv v387, iv v388, .unset, .unset, .unset] [(.int v2), (.int (1 : Int32)), (.ref b395), (.ref b395), (.ref b389), (.ref b389)])) rfl rfl (hb hby at_89)
      have F411r : ownAI Z h411 b395 .int 2 (ownUpd (ownUpd (fun _ => (0 : Int32)) 0 v1) 1 v2) := F411s
      have N411 := Fr.snoc X411 N403 G_b395
      have K411 : Keep h0 h411 [] := K403.wr W411 (Or.inr sz_b395)
      have F412 : Exa Z h411 b389 "com/example/sieveline/sieveline/model/CurrentDomains" := F404.wr W411
      have F413 : Fld Z h411 b389 "com/example/sieveline/sieveline/model/CurrentDomains" "trail" "[I" .null := F405.other W411 (Or.inl ne_b389_b395)
      have F414 : Fld Z h411 b389 "com/example/sieveline/sieveline/model/CurrentDomains" "size" "[I" .null := F406.other W411 (Or.inl ne_b389_b395)
      have F415 : Fld Z h411 b389 "com/example/sieveline/sieveline/model/CurrentDomains" "dense" "[[I" .null := F407.other W411 (Or.inl ne_b389_b395)
      have F416 : Fld Z h411 b389 "com/example/sieveline/sieveline/model/CurrentDomains" "position" "[[I" .null := F408.other W411 (Or.inl ne_b389_b395)
      have F417 : Fld Z h411 b389 "com/example/sieveline/sieveline/model/CurrentDomains" "top" "I" (.int (0 : Int32)) := F409.other W411 (Or.inl ne_b389_b395)
      have F418 : Exa Z h411 b395 "[I" := F410.wr W411
      refine ownGo (T' := T411) (f' := (mkF m 90 #[iv p0, iv p1, iv p2, iv p3, iv p4, iv p5, iv v1, iv v2, iv (1 : Int32), iv (2 : Int32), iv v386, iv v387, iv v388, .unset, .unset, .unset] [(.ref b395), (.ref b389), (.ref b389)])) (st411) ?_
      obtain ⟨_, _, ⟨T419, L419, k419, n419⟩, -, X419, ⟨Lc419, hQ419, l419, y419, z419⟩, st419⟩ := X411.specialBack hx (y := (⟨"com/example/sieveline/sieveline/model/CurrentDomains", "<init>", "([I)V"⟩ : MethodName)) rfl hown (mvT hZ (ww 5 rfl)) (mvT hZ (ww 6 rfl)) (mvT hZ (ww 7 rfl)) (by decide) (backOf (W := 1) (rm_init l Z av0 hw [] b389 b395 v1 v2 h411 n0 (Nat.le_trans Z0 K411.1) F412 F413 F414 F415 F416 F417 F411r F418 G_b389 (own_h0 hv_v1) (own_h1 hv_v2) ne_b389_b395) hZ (ww 7 rfl) (ww 3 rfl) (by decide) (by decide)) (g := (mkF m 90 #[iv p0, iv p1, iv p2, iv p3, iv p4, iv p5, iv v1, iv v2, iv (1 : Int32), iv (2 : Int32), iv v386, iv v387, iv v388, .unset, .unset, .unset] [(.ref b395), (.ref b389), (.ref b389)])) rfl (by rw [hml]; rfl) (Steps.refl _) (a := b389) (argsL := [(.ref b395)]) (rest := [(.ref b389)]) (lenOf own_pd2 rfl) rfl (by show 2 * 0 + _ ≤ _; exact Nat.le_of_eq rfl) (hb hby at_90) (fun _ _ => ⟨rfl, e411, (by decide : 2 + 8 ≤ _), (by decide : 7 + 90 ≤ _)⟩)
      dsimp only [Pt.U, Pt.locs, Pt.cells, Pt.slots] at X419 l419 y419 z419 st419 hQ419
      subst l419 y419 z419
      obtain ⟨at__419, as__419, ad_419, ap_419, d0_419, q0_419, d1_419, q1_419, kd_419, kp_419, rfl, N419q, Kq419, sq419_at__419, sq419_as__419, sq419_ad_419, sq419_ap_419, sq419_d0_419, sq419_q0_419, sq419_d1_419, sq419_q1_419, FP419_0, FP419_1, FP419_2, FP419_3, FP419_4, FP419_5, FP419_6, FP419_7, FP419_8, FP419_9, FP419_10, FP419_11, FP419_12, FP419_13, hp419⟩ := hQ419
      have N419 := Fr.app N411 N419q
      have K419 : Keep h0 T419.heap [] := K411.trans Kq419 (allS (Or.inr sz_b389) all0)
      have ne_b389_at__419 : b389 ≠ at__419 := Nat.ne_of_lt (Nat.lt_of_lt_of_le F412.lt sq419_at__419)
      have ne_b395_at__419 : b395 ≠ at__419 := Nat.ne_of_lt (Nat.lt_of_lt_of_le F418.lt sq419_at__419)
      have sz_at__419 : h0.size ≤ at__419 := Nat.le_trans K411.1 sq419_at__419
      have G_at__419 : n0 ≤ at__419 := Nat.le_trans Z0 sz_at__419
      have ne_b389_as__419 : b389 ≠ as__419 := Nat.ne_of_lt (Nat.lt_of_lt_of_le F412.lt sq419_as__419)
      have ne_b395_as__419 : b395 ≠ as__419 := Nat.ne_of_lt (Nat.lt_of_lt_of_le F418.lt sq419_as__419)
      have sz_as__419 : h0.size ≤ as__419 := Nat.le_trans K411.1 sq419_as__419
      have G_as__419 : n0 ≤ as__419 := Nat.le_trans Z0 sz_as__419
      have ne_b389_ad_419 : b389 ≠ ad_419 := Nat.ne_of_lt (Nat.lt_of_lt_of_le F412.lt sq419_ad_419)
      have ne_b395_ad_419 : b395 ≠ ad_419 := Nat.ne_of_lt (Nat.lt_of_lt_of_le F418.lt sq419_ad_419)
      have sz_ad_419 : h0.size ≤ ad_419 := Nat.le_trans K411.1 sq419_ad_419
      have G_ad_419 : n0 ≤ ad_419 := Nat.le_trans Z0 sz_ad_419
      have ne_b389_ap_419 : b389 ≠ ap_419 := Nat.ne_of_lt (Nat.lt_of_lt_of_le F412.lt sq419_ap_419)
      have ne_b395_ap_419 : b395 ≠ ap_419 := Nat.ne_of_lt (Nat.lt_of_lt_of_le F418.lt sq419_ap_419)
      have sz_ap_419 : h0.size ≤ ap_419 := Nat.le_trans K411.1 sq419_ap_419
      have G_ap_419 : n0 ≤ ap_419 := Nat.le_trans Z0 sz_ap_419
      have ne_b389_d0_419 : b389 ≠ d0_419 := Nat.ne_of_lt (Nat.lt_of_lt_of_le F412.lt sq419_d0_419)
      have ne_b395_d0_419 : b395 ≠ d0_419 := Nat.ne_of_lt (Nat.lt_of_lt_of_le F418.lt sq419_d0_419)
      have sz_d0_419 : h0.size ≤ d0_419 := Nat.le_trans K411.1 sq419_d0_419
      have G_d0_419 : n0 ≤ d0_419 := Nat.le_trans Z0 sz_d0_419
      have ne_b389_q0_419 : b389 ≠ q0_419 := Nat.ne_of_lt (Nat.lt_of_lt_of_le F412.lt sq419_q0_419)
      have ne_b395_q0_419 : b395 ≠ q0_419 := Nat.ne_of_lt (Nat.lt_of_lt_of_le F418.lt sq419_q0_419)
      have sz_q0_419 : h0.size ≤ q0_419 := Nat.le_trans K411.1 sq419_q0_419
      have G_q0_419 : n0 ≤ q0_419 := Nat.le_trans Z0 sz_q0_419
      have ne_b389_d1_419 : b389 ≠ d1_419 := Nat.ne_of_lt (Nat.lt_of_lt_of_le F412.lt sq419_d1_419)
      have ne_b395_d1_419 : b395 ≠ d1_419 := Nat.ne_of_lt (Nat.lt_of_lt_of_le F418.lt sq419_d1_419)
      have sz_d1_419 : h0.size ≤ d1_419 := Nat.le_trans K411.1 sq419_d1_419
      have G_d1_419 : n0 ≤ d1_419 := Nat.le_trans Z0 sz_d1_419
      have ne_b389_q1_419 : b389 ≠ q1_419 := Nat.ne_of_lt (Nat.lt_of_lt_of_le F412.lt sq419_q1_419)
      have ne_b395_q1_419 : b395 ≠ q1_419 := Nat.ne_of_lt (Nat.lt_of_lt_of_le F418.lt sq419_q1_419)
      have sz_q1_419 : h0.size ≤ q1_419 := Nat.le_trans K411.1 sq419_q1_419
      have G_q1_419 : n0 ≤ q1_419 := Nat.le_trans Z0 sz_q1_419
      have F420 : Exa Z T419.heap b389 "com/example/sieveline/sieveline/model/CurrentDomains" := F412.keep Kq419
      have F421 : Exa Z T419.heap b395 "[I" := F418.keep Kq419
      have F422 : ownAI Z T419.heap b395 .int 2 (ownUpd (ownUpd (fun _ => (0 : Int32)) 0 v1) 1 v2) := F411r.keep Kq419 (ninS (Ne.symm ne_b389_b395) nin0)
      refine ownRun (T' := T419) (f' := (mkF m 93 #[iv p0, iv p1, iv p2, iv p3, iv p4, iv p5, iv v1, iv v2, iv (1 : Int32), iv (2 : Int32), iv v386, iv v387, iv v388, .unset, .unset, .unset] [(.ref b389)])) st419 ?_
      refine ow_astore (q := 95) X419 hx (L' := #[iv p0, iv p1, iv p2, iv p3, iv p4, iv p5, iv v1, iv v2, iv (1 : Int32), iv (2 : Int32), iv v386, iv v387, iv v388, rv b389, .unset, .unset]) (hb hby at_93) rfl rfl rfl ?_
      refine ow_iload (q := 97) X419 hx (hb hby at_95) rfl rfl ?_
      refine ow_ifNo (q := 100) X419 hx (hb hby at_97) rfl (Jvm.Free.XT.i0_eq_f (by decide)) ?_
      refine ow_aload (q := 102) X419 hx (hb hby at_100) rfl rfl rfl ?_
      refine ow_iconst (q := 103) X419 hx (0 : Int32) (hb hby at_102) rfl rfl ?_
      refine ow_iload (q := 105) X419 hx (hb hby at_103) rfl rfl ?_
      obtain ⟨cq423, kq423, q423a, q423b, q423c⟩ := isOf hZ rfl FP419_0
      obtain ⟨_, _, ⟨T423, L423, k423, n423⟩, -, X423, ⟨Lc423, hQ423, l423, y423, z423⟩, st423⟩ := X419.virtualBack hx (y := (⟨"com/example/sieveline/sieveline/model/CurrentDomains", "remove", "(II)V"⟩ : MethodName)) (z := (⟨"com/example/sieveline/sieveline/model/CurrentDomains", "remove", "(II)V"⟩ : MethodName)) hown (mvT hZ (ww 36 rfl)) (mvT hZ (ww 37 rfl)) (notFace_of_selects (args := #[]) (mvT hZ (ww 39 rfl))) (mvT hZ (ww 39 rfl)) (mvT hZ (ww 38 rfl)) (by decide) (backOf (W := 0) (rm_remove_0_0 l Z av0 hw [] b389 v386 at__419 as__419 ad_419 ap_419 d0_419 q0_419 d1_419 q1_419 kd_419 kp_419 (v1.toNatClampNeg) own_id own_id (fun _ => (0 : Int32)) (ownUpd (ownUpd (fun _ => (0 : Int32)) 0 v1) 1 v2) T419.heap n0 (Nat.le_trans Z0 K419.1) FP419_0 FP419_1 FP419_2 FP419_3 FP419_4 FP419_5 FP419_6 FP419_7 FP419_8 FP419_9 FP419_10 FP419_11 G_b389 G_at__419 G_as__419 G_d0_419 G_q0_419 (ne_b389_at__419) (ne_b389_as__419) (ne_b389_ad_419) (ne_b389_ap_419) (ne_b389_d0_419) (ne_b389_q0_419) (hp419.1) (hp419.2.1) (hp419.2.2.1) (hp419.2.2.2.1) (hp419.2.2.2.2.1) (hp419.2.2.2.2.2.2.2.1) (hp419.2.2.2.2.2.2.2.2.1) (hp419.2.2.2.2.2.2.2.2.2.1) (hp419.2.2.2.2.2.2.2.2.2.2.1) (hp419.2.2.2.2.2.2.2.2.2.2.2.2.2.1) (hp419.2.2.2.2.2.2.2.2.2.2.2.2.2.2.1) (hp419.2.2.2.2.2.2.2.2.2.2.2.2.2.2.2.1) (hp419.2.2.2.2.2.2.2.2.2.2.2.2.2.2.2.2.2.2.1) (hp419.2.2.2.2.2.2.2.2.2.2.2.2.2.2.2.2.2.2.2.1) (hp419.2.2.2.2.2.2.2.2.2.2.2.2.2.2.2.2.2.2.2.2.2.2.1) (own_v0 hv_v1 hv_v386) own_rg_id own_rg_id (own_s0 hv_v1)) hZ (ww 40 rfl) (ww 3 rfl) (by decide) (by decide)) q423a q423c (g := (mkF m 105 #[iv p0, iv p1, iv p2, iv p3, iv p4, iv p5, iv v1, iv v2, iv (1 : Int32), iv (2 : Int32), iv v386, iv v387, iv v388, rv b389, .unset, .unset] [(.int v386), (.int (0 : Int32)), (.ref b389)])) rfl (by rw [hml]; rfl) (Steps.refl _) (argsL := [(.int (0 : Int32)), (.int v386)]) (rest := []) (lenOf own_pd6 rfl) rfl (by show 2 * 0 + _ ≤ _; exact Nat.le_of_eq rfl) (hb hby at_105) (fun _ _ => ⟨rfl, rfl, (by decide : 10 + 0 ≤ _), (by decide : 97 + 0 ≤ _)⟩)
      dsimp only [Pt.U, Pt.locs, Pt.cells, Pt.slots] at X423 l423 y423 z423 st423 hQ423
      subst l423 y423 z423
      obtain ⟨rfl, N423q, Kq423, FP423_0, FP423_1, FP423_2, FP423_3, FP423_4, FP423_5, FP423_6, FP423_7, FP423_8, FP423_9⟩ := hQ423
      have N423 := Fr.app N419 N423q
      have K423 : Keep h0 T423.heap [] := K419.trans Kq423 (allS (Or.inr sz_b389) (allS (Or.inr sz_at__419) (allS (Or.inr sz_as__419) (allS (Or.inr sz_d0_419) (allS (Or.inr sz_q0_419) all0)))))
      have F424 : Exa Z T423.heap b389 "com/example/sieveline/sieveline/model/CurrentDomains" := FP419_0.keep Kq423
      have F425 : Exa Z T423.heap b395 "[I" := F421.keep Kq423
      have F426 : ownAI Z T423.heap b395 .int 2 (ownUpd (ownUpd (fun _ => (0 : Int32)) 0 v1) 1 v2) := F422.keep Kq423 (ninS (Ne.symm ne_b389_b395) (ninS ne_b395_at__419 (ninS ne_b395_as__419 (ninS ne_b395_d0_419 (ninS ne_b395_q0_419 nin0)))))
      have F427 : ownAR Z T423.heap ad_419 kd_419 2 (ownUpd (ownUpd (fun _ => Value.null) 0 (.ref d0_419)) 1 (.ref d1_419)) := FP419_8.keep Kq423 (ninS (Ne.symm ne_b389_ad_419) (ninS (Ne.symm hp419.2.1) (ninS (Ne.symm hp419.2.2.2.2.2.2.2.1) (ninS hp419.2.2.2.2.2.2.2.2.2.2.2.2.2.2.1 (ninS hp419.2.2.2.2.2.2.2.2.2.2.2.2.2.2.2.1 nin0)))))
      have F428 : ownAR Z T423.heap ap_419 kp_419 2 (ownUpd (ownUpd (fun _ => Value.null) 0 (.ref q0_419)) 1 (.ref q1_419)) := FP419_9.keep Kq423 (ninS (Ne.symm ne_b389_ap_419) (ninS (Ne.symm hp419.2.2.1) (ninS (Ne.symm hp419.2.2.2.2.2.2.2.2.1) (ninS hp419.2.2.2.2.2.2.2.2.2.2.2.2.2.2.2.2.2.2.1 (ninS hp419.2.2.2.2.2.2.2.2.2.2.2.2.2.2.2.2.2.2.2.1 nin0)))))
      have F429 : ownAI Z T423.heap d1_419 .int (v2.toNatClampNeg) own_id := FP419_12.keep Kq423 (ninS (Ne.symm ne_b389_d1_419) (ninS (Ne.symm hp419.2.2.2.2.2.1) (ninS (Ne.symm hp419.2.2.2.2.2.2.2.2.2.2.2.1) (ninS (Ne.symm hp419.2.2.2.2.2.2.2.2.2.2.2.2.2.2.2.2.2.2.2.2.2.2.2.1) (ninS (Ne.symm hp419.2.2.2.2.2.2.2.2.2.2.2.2.2.2.2.2.2.2.2.2.2.2.2.2.2.1) nin0)))))
      have F430 : ownAI Z T423.heap q1_419 .int (v2.toNatClampNeg) own_id := FP419_13.keep Kq423 (ninS (Ne.symm ne_b389_q1_419) (ninS (Ne.symm hp419.2.2.2.2.2.2.1) (ninS (Ne.symm hp419.2.2.2.2.2.2.2.2.2.2.2.2.1) (ninS (Ne.symm hp419.2.2.2.2.2.2.2.2.2.2.2.2.2.2.2.2.2.2.2.2.2.2.2.2.1) (ninS (Ne.symm hp419.2.2.2.2.2.2.2.2.2.2.2.2.2.2.2.2.2.2.2.2.2.2.2.2.2.2.1) nin0)))))
      refine ownRun (T' := T423) (f' := (mkF m 108 #[iv p0, iv p1, iv p2, iv p3, iv p4, iv p5, iv v1, iv v2, iv (1 : Int32), iv (2 : Int32), iv v386, iv v387, iv v388, rv b389, .unset, .unset] [])) st423 ?_
      refine ow_iload (q := 110) X423 hx (hb hby at_108) rfl rfl ?_
      refine ow_ifNo (q := 113) X423 hx (hb hby at_110) rfl (Jvm.Free.XT.i0_eq_f (by decide)) ?_
      refine ow_iload (q := 115) X423 hx (hb hby at_113) rfl rfl ?_
      refine ow_iconst (q := 116) X423 hx (1 : Int32) (hb hby at_115) rfl rfl ?_
      refine ow_isub (q := 117) X423 hx _ (hb hby at_116) rfl rfl ?_
      refine ow_goto (q := 122) X423 hx (hb hby at_117) (by decide) (by decide) ?_
      generalize hv_v431 : (v1 - (1 : Int32)) = v431
      refine ow_istore (q := 124) X423 hx (L' := #[iv p0, iv p1, iv p2, iv p3, iv p4, iv p5, iv v1, iv v2, iv (1 : Int32), iv (2 : Int32), iv v386, iv v387, iv v388, rv b389, iv v431, .unset]) (hb hby at_122) rfl rfl ?_
      refine ow_aload (q := 126) X423 hx (hb hby at_124) rfl rfl rfl ?_
      obtain ⟨cq432, kq432, q432a, q432b, q432c⟩ := isOf hZ rfl FP423_0
      obtain ⟨_, _, ⟨T432, L432, k432, n432⟩, -, X432, ⟨Lc432, hQ432, l432, y432, z432⟩, st432⟩ := X423.virtualBack hx (y := (⟨"com/example/sieveline/sieveline/model/CurrentDomains", "mark", "()I"⟩ : MethodName)) (z := (⟨"com/example/sieveline/sieveline/model/CurrentDomains", "mark", "()I"⟩ : MethodName)) hown (mvT hZ (ww 29 rfl)) (mvT hZ (ww 30 rfl)) (notFace_of_selects (args := #[]) (mvT hZ (ww 32 rfl))) (mvT hZ (ww 32 rfl)) (mvT hZ (ww 31 rfl)) (by decide) (backOf (W := 0) (rm_mark l Z av0 hw [] b389 (2 : Int32) T423.heap n0 (Nat.le_trans Z0 K423.1) FP423_5) hZ (ww 33 rfl) (ww 3 rfl) (by decide) (by decide)) q432a q432c (g := (mkF m 126 #[iv p0, iv p1, iv p2, iv p3, iv p4, iv p5, iv v1, iv v2, iv (1 : Int32), iv (2 : Int32), iv v386, iv v387, iv v388, rv b389, iv v431, .unset] [(.ref b389)])) rfl (by rw [hml]; rfl) (Steps.refl _) (argsL := []) (rest := []) (lenOf own_pd3 rfl) rfl (by show 2 * 0 + _ ≤ _; exact Nat.le_of_eq rfl) (hb hby at_126) (fun _ _ => ⟨rfl, rfl, (by decide : 10 + 0 ≤ _), (by decide : 97 + 0 ≤ _)⟩)
      dsimp only [Pt.U, Pt.locs, Pt.cells, Pt.slots] at X432 l432 y432 z432 st432 hQ432
      subst l432 y432 z432
      obtain ⟨rfl, N432q, e432⟩ := hQ432
      have N432 := Fr.app N423 N432q
      refine ownRun (T' := T432) (f' := (mkF m 129 #[iv p0, iv p1, iv p2, iv p3, iv p4, iv p5, iv v1, iv v2, iv (1 : Int32), iv (2 : Int32), iv v386, iv v387, iv v388, rv b389, iv v431, .unset] [(.int (2 : Int32))])) st432 ?_
      refine ow_istore (q := 131) X432 hx (L' := #[iv p0, iv p1, iv p2, iv p3, iv p4, iv p5, iv v1, iv v2, iv (1 : Int32), iv (2 : Int32), iv v386, iv v387, iv v388, rv b389, iv v431, iv (2 : Int32)]) (hb hby at_129) rfl rfl ?_
      refine ow_iload (q := 133) X432 hx (hb hby at_131) rfl rfl ?_
      refine ow_iconst (q := 134) X432 hx (1 : Int32) (hb hby at_133) rfl rfl ?_
      refine ow_icmpNo (q := 137) X432 hx (hb hby at_134) rfl (Jvm.Free.XT.ii_lt_f (by decide)) ?_
      refine ow_aload (q := 139) X432 hx (hb hby at_137) rfl rfl rfl ?_
      refine ow_iconst (q := 140) X432 hx (0 : Int32) (hb hby at_139) rfl rfl ?_
      refine ow_iload (q := 142) X432 hx (hb hby at_140) rfl rfl ?_
      obtain ⟨cq433, kq433, q433a, q433b, q433c⟩ := isOf hZ e432 FP423_0
      obtain ⟨_, _, ⟨T433, L433, k433, n433⟩, -, X433, ⟨Lc433, hQ433, l433, y433, z433⟩, st433⟩ := X432.virtualBack hx (y := (⟨"com/example/sieveline/sieveline/model/CurrentDomains", "remove", "(II)V"⟩ : MethodName)) (z := (⟨"com/example/sieveline/sieveline/model/CurrentDomains", "remove", "(II)V"⟩ : MethodName)) hown (mvT hZ (ww 36 rfl)) (mvT hZ (ww 37 rfl)) (notFace_of_selects (args := #[]) (mvT hZ (ww 39 rfl))) (mvT hZ (ww 39 rfl)) (mvT hZ (ww 38 rfl)) (by decide) (backOf (W := 0) (rm_remove_2_0 l Z av0 hw [] b389 v387 at__419 as__419 ad_419 ap_419 d0_419 q0_419 d1_419 q1_419 kd_419 kp_419 (v1.toNatClampNeg) (own_swD own_id (own_id v386.toNatClampNeg) (v1 - (1 : Int32))) (own_swQ own_id own_id (own_id v386.toNatClampNeg) (v1 - (1 : Int32))) (ownUpd (ownUpd (fun _ => (0 : Int32)) 0 (0 : Int32)) 1 v1) (ownUpd (ownUpd (ownUpd (fun _ => (0 : Int32)) 0 v1) 1 v2) 0 (v1 - (1 : Int32))) T423.heap n0 (Nat.le_trans Z0 K423.1) FP423_0 FP423_1 FP423_2 FP423_3 FP423_4 FP423_5 FP423_6 FP423_7 F427 F428 FP423_8 FP423_9 G_b389 G_at__419 G_as__419 G_d0_419 G_q0_419 (ne_b389_at__419) (ne_b389_as__419) (ne_b389_ad_419) (ne_b389_ap_419) (ne_b389_d0_419) (ne_b389_q0_419) (hp419.1) (hp419.2.1) (hp419.2.2.1) (hp419.2.2.2.1) (hp419.2.2.2.2.1) (hp419.2.2.2.2.2.2.2.1) (hp419.2.2.2.2.2.2.2.2.1) (hp419.2.2.2.2.2.2.2.2.2.1) (hp419.2.2.2.2.2.2.2.2.2.2.1) (hp419.2.2.2.2.2.2.2.2.2.2.2.2.2.1) (hp419.2.2.2.2.2.2.2.2.2.2.2.2.2.2.1) (hp419.2.2.2.2.2.2.2.2.2.2.2.2.2.2.2.1) (hp419.2.2.2.2.2.2.2.2.2.2.2.2.2.2.2.2.2.2.1) (hp419.2.2.2.2.2.2.2.2.2.2.2.2.2.2.2.2.2.2.2.1) (hp419.2.2.2.2.2.2.2.2.2.2.2.2.2.2.2.2.2.2.2.2.2.2.1) (own_w hv_v1 hv_v386 hv_v387).1 (own_rg_swD own_rg_id (own_posid (own_v0 hv_v1 hv_v386)) (own_lastid (own_s0 hv_v1))) (own_rg_swQ own_rg_id (own_posid (own_v0 hv_v1 hv_v386)) (own_lastid (own_s0 hv_v1))) (own_s0m hv_v1)) hZ (ww 40 rfl) (ww 3 rfl) (by decide) (by decide)) q433a q433c (g := (mkF m 142 #[iv p0, iv p1, iv p2, iv p3, iv p4, iv p5, iv v1, iv v2, iv (1 : Int32), iv (2 : Int32), iv v386, iv v387, iv v388, rv b389, iv v431, iv (2 : Int32)] [(.int v387), (.int (0 : Int32)), (.ref b389)])) rfl (by rw [hml]; rfl) (Steps.refl _) (argsL := [(.int (0 : Int32)), (.int v387)]) (rest := []) (lenOf own_pd6 rfl) rfl (by show 2 * 0 + _ ≤ _; exact Nat.le_of_eq rfl) (hb hby at_142) (fun _ _ => ⟨rfl, e432, (by decide : 10 + 0 ≤ _), (by decide : 97 + 0 ≤ _)⟩)
      dsimp only [Pt.U, Pt.locs, Pt.cells, Pt.slots] at X433 l433 y433 z433 st433 hQ433
      subst l433 y433 z433
      obtain ⟨rfl, N433q, Kq433, FP433_0, FP433_1, FP433_2, FP433_3, FP433_4, FP433_5, FP433_6, FP433_7, FP433_8, FP433_9⟩ := hQ433
      have N433 := Fr.app N432 N433q
      have K433 : Keep h0 T433.heap [] := K423.trans Kq433 (allS (Or.inr sz_b389) (allS (Or.inr sz_at__419) (allS (Or.inr sz_as__419) (allS (Or.inr sz_d0_419) (allS (Or.inr sz_q0_419) all0)))))
      have F434 : Exa Z T433.heap b389 "com/example/sieveline/sieveline/model/CurrentDomains" := FP423_0.keep Kq433
      have F435 : Exa Z T433.heap b395 "[I" := F425.keep Kq433
      have F436 : ownAI Z T433.heap b395 .int 2 (ownUpd (ownUpd (fun _ => (0 : Int32)) 0 v1) 1 v2) := F426.keep Kq433 (ninS (Ne.symm ne_b389_b395) (ninS ne_b395_at__419 (ninS ne_b395_as__419 (ninS ne_b395_d0_419 (ninS ne_b395_q0_419 nin0)))))
      have F437 : ownAR Z T433.heap ad_419 kd_419 2 (ownUpd (ownUpd (fun _ => Value.null) 0 (.ref d0_419)) 1 (.ref d1_419)) := F427.keep Kq433 (ninS (Ne.symm ne_b389_ad_419) (ninS (Ne.symm hp419.2.1) (ninS (Ne.symm hp419.2.2.2.2.2.2.2.1) (ninS hp419.2.2.2.2.2.2.2.2.2.2.2.2.2.2.1 (ninS hp419.2.2.2.2.2.2.2.2.2.2.2.2.2.2.2.1 nin0)))))
      have F438 : ownAR Z T433.heap ap_419 kp_419 2 (ownUpd (ownUpd (fun _ => Value.null) 0 (.ref q0_419)) 1 (.ref q1_419)) := F428.keep Kq433 (ninS (Ne.symm ne_b389_ap_419) (ninS (Ne.symm hp419.2.2.1) (ninS (Ne.symm hp419.2.2.2.2.2.2.2.2.1) (ninS hp419.2.2.2.2.2.2.2.2.2.2.2.2.2.2.2.2.2.2.1 (ninS hp419.2.2.2.2.2.2.2.2.2.2.2.2.2.2.2.2.2.2.2.1 nin0)))))
      have F439 : ownAI Z T433.heap d1_419 .int (v2.toNatClampNeg) own_id := F429.keep Kq433 (ninS (Ne.symm ne_b389_d1_419) (ninS (Ne.symm hp419.2.2.2.2.2.1) (ninS (Ne.symm hp419.2.2.2.2.2.2.2.2.2.2.2.1) (ninS (Ne.symm hp419.2.2.2.2.2.2.2.2.2.2.2.2.2.2.2.2.2.2.2.2.2.2.2.1) (ninS (Ne.symm hp419.2.2.2.2.2.2.2.2.2.2.2.2.2.2.2.2.2.2.2.2.2.2.2.2.2.1) nin0)))))
      have F440 : ownAI Z T433.heap q1_419 .int (v2.toNatClampNeg) own_id := F430.keep Kq433 (ninS (Ne.symm ne_b389_q1_419) (ninS (Ne.symm hp419.2.2.2.2.2.2.1) (ninS (Ne.symm hp419.2.2.2.2.2.2.2.2.2.2.2.2.1) (ninS (Ne.symm hp419.2.2.2.2.2.2.2.2.2.2.2.2.2.2.2.2.2.2.2.2.2.2.2.2.1) (ninS (Ne.symm hp419.2.2.2.2.2.2.2.2.2.2.2.2.2.2.2.2.2.2.2.2.2.2.2.2.2.2.1) nin0)))))
      refine ownRun (T' := T433) (f' := (mkF m 145 #[iv p0, iv p1, iv p2, iv p3, iv p4, iv p5, iv v1, iv v2, iv (1 : Int32), iv (2 : Int32), iv v386, iv v387, iv v388, rv b389, iv v431, iv (2 : Int32)] [])) st433 ?_
      refine ow_iload (q := 147) X433 hx (hb hby at_145) rfl rfl ?_
      refine ow_iconst (q := 148) X433 hx (2 : Int32) (hb hby at_147) rfl rfl ?_
      refine ow_icmpNo (q := 151) X433 hx (hb hby at_148) rfl (Jvm.Free.XT.ii_lt_f (by decide)) ?_
      refine ow_aload (q := 153) X433 hx (hb hby at_151) rfl rfl rfl ?_
      refine ow_iconst (q := 154) X433 hx (1 : Int32) (hb hby at_153) rfl rfl ?_
      refine ow_iload (q := 156) X433 hx (hb hby at_154) rfl rfl ?_
      obtain ⟨cq441, kq441, q441a, q441b, q441c⟩ := isOf hZ rfl FP433_0
      obtain ⟨_, _, ⟨T441, L441, k441, n441⟩, -, X441, ⟨Lc441, hQ441, l441, y441, z441⟩, st441⟩ := X433.virtualBack hx (y := (⟨"com/example/sieveline/sieveline/model/CurrentDomains", "reduceTo", "(II)V"⟩ : MethodName)) (z := (⟨"com/example/sieveline/sieveline/model/CurrentDomains", "reduceTo", "(II)V"⟩ : MethodName)) hown (mvT hZ (ww 64 rfl)) (mvT hZ (ww 65 rfl)) (notFace_of_selects (args := #[]) (mvT hZ (ww 67 rfl))) (mvT hZ (ww 67 rfl)) (mvT hZ (ww 66 rfl)) (by decide) (backOf (W := 0) (rm_reduceTo_4 l Z av0 hw [] b389 v388 at__419 as__419 ad_419 ap_419 d0_419 q0_419 d1_419 q1_419 kd_419 kp_419 (v2.toNatClampNeg) own_id own_id (ownUpd (ownUpd (ownUpd (ownUpd (fun _ => (0 : Int32)) 0 (0 : Int32)) 1 v1) 2 (0 : Int32)) 3 (v1 - (1 : Int32))) (ownUpd (ownUpd (ownUpd (ownUpd (fun _ => (0 : Int32)) 0 v1) 1 v2) 0 (v1 - (1 : Int32))) 0 ((v1 - (1 : Int32)) - (1 : Int32))) T433.heap n0 (Nat.le_trans Z0 K433.1) FP433_0 FP433_1 FP433_2 FP433_3 FP433_4 FP433_5 FP433_6 FP433_7 F437 F438 F439 F440 G_b389 G_at__419 G_as__419 G_d1_419 G_q1_419 (ne_b389_at__419) (ne_b389_as__419) (ne_b389_ad_419) (ne_b389_ap_419) (ne_b389_d1_419) (ne_b389_q1_419) (hp419.1) (hp419.2.1) (hp419.2.2.1) (hp419.2.2.2.2.2.1) (hp419.2.2.2.2.2.2.1) (hp419.2.2.2.2.2.2.2.1) (hp419.2.2.2.2.2.2.2.2.1) (hp419.2.2.2.2.2.2.2.2.2.2.2.1) (hp419.2.2.2.2.2.2.2.2.2.2.2.2.1) (hp419.2.2.2.2.2.2.2.2.2.2.2.2.2.1) (hp419.2.2.2.2.2.2.2.2.2.2.2.2.2.2.2.2.1) (hp419.2.2.2.2.2.2.2.2.2.2.2.2.2.2.2.2.2.1) (hp419.2.2.2.2.2.2.2.2.2.2.2.2.2.2.2.2.2.2.2.2.1) (hp419.2.2.2.2.2.2.2.2.2.2.2.2.2.2.2.2.2.2.2.2.2.1) (hp419.2.2.2.2.2.2.2.2.2.2.2.2.2.2.2.2.2.2.2.2.2.2.2.2.2.2.2) (own_v1 hv_v2 hv_v388) own_rg_id own_rg_id (own_s1 hv_v2)) hZ (ww 68 rfl) (ww 3 rfl) (by decide) (by decide)) q441a q441c (g := (mkF m 156 #[iv p0, iv p1, iv p2, iv p3, iv p4, iv p5, iv v1, iv v2, iv (1 : Int32), iv (2 : Int32), iv v386, iv v387, iv v388, rv b389, iv v431, iv (2 : Int32)] [(.int v388), (.int (1 : Int32)), (.ref b389)])) rfl (by rw [hml]; rfl) (Steps.refl _) (argsL := [(.int (1 : Int32)), (.int v388)]) (rest := []) (lenOf own_pd6 rfl) rfl (by show 2 * 0 + _ ≤ _; exact Nat.le_of_eq rfl) (hb hby at_156) (fun _ _ => ⟨rfl, rfl, (by decide : 10 + 0 ≤ _), (by decide : 97 + 0 ≤ _)⟩)
      dsimp only [Pt.U, Pt.locs, Pt.cells, Pt.slots] at X441 l441 y441 z441 st441 hQ441
      subst l441 y441 z441
      obtain ⟨rfl, N441q, Kq441, FP441_0, FP441_1, FP441_2, FP441_3, FP441_4, FP441_5, FP441_6, FP441_7, FP441_8, FP441_9⟩ := hQ441
      have N441 := Fr.app N433 N441q
      have K441 : Keep h0 T441.heap [] := K433.trans Kq441 (allS (Or.inr sz_b389) (allS (Or.inr sz_at__419) (allS (Or.inr sz_as__419) (allS (Or.inr sz_d1_419) (allS (Or.inr sz_q1_419) all0)))))
      have F442 : Exa Z T441.heap b389 "com/example/sieveline/sieveline/model/CurrentDomains" := FP433_0.keep Kq441
      have F443 : Exa Z T441.heap b395 "[I" := F435.keep Kq441
      have F444 : ownAI Z T441.heap b395 .int 2 (ownUpd (ownUpd (fun _ => (0 : Int32)) 0 v1) 1 v2) := F436.keep Kq441 (ninS (Ne.symm ne_b389_b395) (ninS ne_b395_at__419 (ninS ne_b395_as__419 (ninS ne_b395_d1_419 (ninS ne_b395_q1_419 nin0)))))
      have F445 : ownAR Z T441.heap ad_419 kd_419 2 (ownUpd (ownUpd (fun _ => Value.null) 0 (.ref d0_419)) 1 (.ref d1_419)) := F437.keep Kq441 (ninS (Ne.symm ne_b389_ad_419) (ninS (Ne.symm hp419.2.1) (ninS (Ne.symm hp419.2.2.2.2.2.2.2.1) (ninS hp419.2.2.2.2.2.2.2.2.2.2.2.2.2.2.2.2.1 (ninS hp419.2.2.2.2.2.2.2.2.2.2.2.2.2.2.2.2.2.1 nin0)))))
      have F446 : ownAR Z T441.heap ap_419 kp_419 2 (ownUpd (ownUpd (fun _ => Value.null) 0 (.ref q0_419)) 1 (.ref q1_419)) := F438.keep Kq441 (ninS (Ne.symm ne_b389_ap_419) (ninS (Ne.symm hp419.2.2.1) (ninS (Ne.symm hp419.2.2.2.2.2.2.2.2.1) (ninS hp419.2.2.2.2.2.2.2.2.2.2.2.2.2.2.2.2.2.2.2.2.1 (ninS hp419.2.2.2.2.2.2.2.2.2.2.2.2.2.2.2.2.2.2.2.2.2.1 nin0)))))
      have F447 : ownAI Z T441.heap d0_419 .int (v1.toNatClampNeg) (own_swD (own_swD own_id (own_id v386.toNatClampNeg) (v1 - (1 : Int32))) ((own_swQ own_id own_id (own_id v386.toNatClampNeg) (v1 - (1 : Int32))) v387.toNatClampNeg) ((v1 - (1 : Int32)) - (1 : Int32))) := FP433_8.keep Kq441 (ninS (Ne.symm ne_b389_d0_419) (ninS (Ne.symm hp419.2.2.2.1) (ninS (Ne.symm hp419.2.2.2.2.2.2.2.2.2.1) (ninS hp419.2.2.2.2.2.2.2.2.2.2.2.2.2.2.2.2.2.2.2.2.2.2.2.1 (ninS hp419.2.2.2.2.2.2.2.2.2.2.2.2.2.2.2.2.2.2.2.2.2.2.2.2.1 nin0)))))
      have F448 : ownAI Z T441.heap q0_419 .int (v1.toNatClampNeg) (own_swQ (own_swD own_id (own_id v386.toNatClampNeg) (v1 - (1 : Int32))) (own_swQ own_id own_id (own_id v386.toNatClampNeg) (v1 - (1 : Int32))) ((own_swQ own_id own_id (own_id v386.toNatClampNeg) (v1 - (1 : Int32))) v387.toNatClampNeg) ((v1 - (1 : Int32)) - (1 : Int32))) := FP433_9.keep Kq441 (ninS (Ne.symm ne_b389_q0_419) (ninS (Ne.symm hp419.2.2.2.2.1) (ninS (Ne.symm hp419.2.2.2.2.2.2.2.2.2.2.1) (ninS hp419.2.2.2.2.2.2.2.2.2.2.2.2.2.2.2.2.2.2.2.2.2.2.2.2.2.1 (ninS hp419.2.2.2.2.2.2.2.2.2.2.2.2.2.2.2.2.2.2.2.2.2.2.2.2.2.2.1 nin0)))))
      refine ownRun (T' := T441) (f' := (mkF m 159 #[iv p0, iv p1, iv p2, iv p3, iv p4, iv p5, iv v1, iv v2, iv (1 : Int32), iv (2 : Int32), iv v386, iv v387, iv v388, rv b389, iv v431, iv (2 : Int32)] [])) st441 ?_
      refine ow_iload (q := 161) X441 hx (hb hby at_159) rfl rfl ?_
      refine ow_iconst (q := 162) X441 hx (3 : Int32) (hb hby at_161) rfl rfl ?_
      refine ow_icmpYes (q := 173) X441 hx (hb hby at_162) (Jvm.Free.XT.ii_lt_t (by decide)) (by decide) (by decide) ?_
      refine ow_aload (q := 175) X441 hx (hb hby at_173) rfl rfl rfl ?_
      refine ow_iload (q := 177) X441 hx (hb hby at_175) rfl rfl ?_
      obtain ⟨cq449, kq449, q449a, q449b, q449c⟩ := isOf hZ rfl FP441_0
      obtain ⟨_, _, ⟨T449, L449, k449, n449⟩, -, X449, ⟨Lc449, hQ449, l449, y449, z449⟩, st449⟩ := X441.virtualBack hx (y := (⟨"com/example/sieveline/sieveline/model/CurrentDomains", "undo", "(I)V"⟩ : MethodName)) (z := (⟨"com/example/sieveline/sieveline/model/CurrentDomains", "undo", "(I)V"⟩ : MethodName)) hown (mvT hZ (ww 49 rfl)) (mvT hZ (ww 50 rfl)) (notFace_of_selects (args := #[]) (mvT hZ (ww 52 rfl))) (mvT hZ (ww 52 rfl)) (mvT hZ (ww 51 rfl)) (by decide) (backOf (W := 0) (rm_undo_2_2 l Z av0 hw [] b389 at__419 as__419 ad_419 ap_419 (ownUpd (ownUpd (ownUpd (ownUpd (ownUpd (ownUpd (fun _ => (0 : Int32)) 0 (0 : Int32)) 1 v1) 2 (0 : Int32)) 3 (v1 - (1 : Int32))) 4 (1 : Int32)) 5 v2) (ownUpd (ownUpd (ownUpd (ownUpd (ownUpd (fun _ => (0 : Int32)) 0 v1) 1 v2) 0 (v1 - (1 : Int32))) 0 ((v1 - (1 : Int32)) - (1 : Int32))) 1 (1 : Int32)) T441.heap n0 (Nat.le_trans Z0 K441.1) FP441_0 FP441_1 FP441_2 FP441_3 FP441_4 FP441_5 FP441_6 FP441_7 G_b389 G_as__419 (ne_b389_at__419) (ne_b389_as__419) (hp419.1) rfl rfl) hZ (ww 53 rfl) (ww 3 rfl) (by decide) (by decide)) q449a q449c (g := (mkF m 177 #[iv p0, iv p1, iv p2, iv p3, iv p4, iv p5, iv v1, iv v2, iv (1 : Int32), iv (2 : Int32), iv v386, iv v387, iv v388, rv b389, iv v431, iv (2 : Int32)] [(.int (2 : Int32)), (.ref b389)])) rfl (by rw [hml]; rfl) (Steps.refl _) (argsL := [(.int (2 : Int32))]) (rest := []) (lenOf own_pd0 rfl) rfl (by show 2 * 0 + _ ≤ _; exact Nat.le_of_eq rfl) (hb hby at_177) (fun _ _ => ⟨rfl, rfl, (by decide : 10 + 0 ≤ _), (by decide : 97 + 0 ≤ _)⟩)
      dsimp only [Pt.U, Pt.locs, Pt.cells, Pt.slots] at X449 l449 y449 z449 st449 hQ449
      subst l449 y449 z449
      obtain ⟨rfl, N449q, Kq449, FP449_0, FP449_1, FP449_2, FP449_3, FP449_4, FP449_5, FP449_6⟩ := hQ449
      have N449 := Fr.app N441 N449q
      have K449 : Keep h0 T449.heap [] := K441.trans Kq449 (allS (Or.inr sz_b389) (allS (Or.inr sz_as__419) all0))
      have F450 : Exa Z T449.heap b389 "com/example/sieveline/sieveline/model/CurrentDomains" := FP441_0.keep Kq449
      have F451 : Exa Z T449.heap b395 "[I" := F443.keep Kq449
      have F452 : ownAI Z T449.heap b395 .int 2 (ownUpd (ownUpd (fun _ => (0 : Int32)) 0 v1) 1 v2) := F444.keep Kq449 (ninS (Ne.symm ne_b389_b395) (ninS ne_b395_as__419 nin0))
      have F453 : ownAR Z T449.heap ad_419 kd_419 2 (ownUpd (ownUpd (fun _ => Value.null) 0 (.ref d0_419)) 1 (.ref d1_419)) := F445.keep Kq449 (ninS (Ne.symm ne_b389_ad_419) (ninS (Ne.symm hp419.2.2.2.2.2.2.2.1) nin0))
      have F454 : ownAR Z T449.heap ap_419 kp_419 2 (ownUpd (ownUpd (fun _ => Value.null) 0 (.ref q0_419)) 1 (.ref q1_419)) := F446.keep Kq449 (ninS (Ne.symm ne_b389_ap_419) (ninS (Ne.symm hp419.2.2.2.2.2.2.2.2.1) nin0))
      have F455 : ownAI Z T449.heap d0_419 .int (v1.toNatClampNeg) (own_swD (own_swD own_id (own_id v386.toNatClampNeg) (v1 - (1 : Int32))) ((own_swQ own_id own_id (own_id v386.toNatClampNeg) (v1 - (1 : Int32))) v387.toNatClampNeg) ((v1 - (1 : Int32)) - (1 : Int32))) := F447.keep Kq449 (ninS (Ne.symm ne_b389_d0_419) (ninS (Ne.symm hp419.2.2.2.2.2.2.2.2.2.1) nin0))
      have F456 : ownAI Z T449.heap q0_419 .int (v1.toNatClampNeg) (own_swQ (own_swD own_id (own_id v386.toNatClampNeg) (v1 - (1 : Int32))) (own_swQ own_id own_id (own_id v386.toNatClampNeg) (v1 - (1 : Int32))) ((own_swQ own_id own_id (own_id v386.toNatClampNeg) (v1 - (1 : Int32))) v387.toNatClampNeg) ((v1 - (1 : Int32)) - (1 : Int32))) := F448.keep Kq449 (ninS (Ne.symm ne_b389_q0_419) (ninS (Ne.symm hp419.2.2.2.2.2.2.2.2.2.2.1) nin0))
      have F457 : ownAI Z T449.heap at__419 .int 64 (ownUpd (ownUpd (ownUpd (ownUpd (ownUpd (ownUpd (fun _ => (0 : Int32)) 0 (0 : Int32)) 1 v1) 2 (0 : Int32)) 3 (v1 - (1 : Int32))) 4 (1 : Int32)) 5 v2) := FP441_6.keep Kq449 (ninS (Ne.symm ne_b389_at__419) (ninS hp419.1 nin0))
      have F458 : ownAI Z T449.heap d1_419 .int (v2.toNatClampNeg) (own_swD own_id (own_id v388.toNatClampNeg) (0 : Int32)) := FP441_8.keep Kq449 (ninS (Ne.symm ne_b389_d1_419) (ninS (Ne.symm hp419.2.2.2.2.2.2.2.2.2.2.2.1) nin0))
      have F459 : ownAI Z T449.heap q1_419 .int (v2.toNatClampNeg) (own_swQ own_id own_id (own_id v388.toNatClampNeg) (0 : Int32)) := FP441_9.keep Kq449 (ninS (Ne.symm ne_b389_q1_419) (ninS (Ne.symm hp419.2.2.2.2.2.2.2.2.2.2.2.2.1) nin0))
      refine ownRun (T' := T449) (f' := (mkF m 180 #[iv p0, iv p1, iv p2, iv p3, iv p4, iv p5, iv v1, iv v2, iv (1 : Int32), iv (2 : Int32), iv v386, iv v387, iv v388, rv b389, iv v431, iv (2 : Int32)] [])) st449 ?_
      refine ow_aload (q := 182) X449 hx (hb hby at_180) rfl rfl rfl ?_
      refine ow_iconst (q := 183) X449 hx (0 : Int32) (hb hby at_182) rfl rfl ?_
      obtain ⟨cq460, kq460, q460a, q460b, q460c⟩ := isOf hZ rfl FP449_0
      obtain ⟨_, _, ⟨T460, L460, k460, n460⟩, -, X460, ⟨Lc460, hQ460, l460, y460, z460⟩, st460⟩ := X449.virtualBack hx (y := (⟨"com/example/sieveline/sieveline/model/CurrentDomains", "size", "(I)I"⟩ : MethodName)) (z := (⟨"com/example/sieveline/sieveline/model/CurrentDomains", "size", "(I)I"⟩ : MethodName)) hown (mvT hZ (ww 54 rfl)) (mvT hZ (ww 55 rfl)) (notFace_of_selects (args := #[]) (mvT hZ (ww 57 rfl))) (mvT hZ (ww 57 rfl)) (mvT hZ (ww 56 rfl)) (by decide) (backOf (W := 0) (rm_size_0 l Z av0 hw [] b389 as__419 (ownUpd (ownUpd (ownUpd (ownUpd (ownUpd (ownUpd (ownUpd (fun _ => (0 : Int32)) 0 v1) 1 v2) 0 (v1 - (1 : Int32))) 0 ((v1 - (1 : Int32)) - (1 : Int32))) 1 (1 : Int32)) 1 v2) 0 (v1 - (1 : Int32))) T449.heap n0 (Nat.le_trans Z0 K449.1) FP449_2 FP449_6) hZ (ww 58 rfl) (ww 3 rfl) (by decide) (by decide)) q460a q460c (g := (mkF m 183 #[iv p0, iv p1, iv p2, iv p3, iv p4, iv p5, iv v1, iv v2, iv (1 : Int32), iv (2 : Int32), iv v386, iv v387, iv v388, rv b389, iv v431, iv (2 : Int32)] [(.int (0 : Int32)), (.ref b389)])) rfl (by rw [hml]; rfl) (Steps.refl _) (argsL := [(.int (0 : Int32))]) (rest := []) (lenOf own_pd4 rfl) rfl (by show 2 * 0 + _ ≤ _; exact Nat.le_of_eq rfl) (hb hby at_183) (fun _ _ => ⟨rfl, rfl, (by decide : 10 + 0 ≤ _), (by decide : 97 + 0 ≤ _)⟩)
      dsimp only [Pt.U, Pt.locs, Pt.cells, Pt.slots] at X460 l460 y460 z460 st460 hQ460
      subst l460 y460 z460
      obtain ⟨rfl, N460q, e460⟩ := hQ460
      have N460 := Fr.app N449 N460q
      refine ownRun (T' := T460) (f' := (mkF m 186 #[iv p0, iv p1, iv p2, iv p3, iv p4, iv p5, iv v1, iv v2, iv (1 : Int32), iv (2 : Int32), iv v386, iv v387, iv v388, rv b389, iv v431, iv (2 : Int32)] [(.int (v1 - (1 : Int32)))])) st460 ?_
      refine ow_iload (q := 188) X460 hx (hb hby at_186) rfl rfl ?_
      refine ow_icmpNo (q := 191) X460 hx (hb hby at_188) rfl (Jvm.Free.XT.ii_ne_f hv_v431) ?_
      refine ow_aload (q := 193) X460 hx (hb hby at_191) rfl rfl rfl ?_
      refine ow_iconst (q := 194) X460 hx (1 : Int32) (hb hby at_193) rfl rfl ?_
      obtain ⟨cq461, kq461, q461a, q461b, q461c⟩ := isOf hZ e460 FP449_0
      obtain ⟨_, _, ⟨T461, L461, k461, n461⟩, -, X461, ⟨Lc461, hQ461, l461, y461, z461⟩, st461⟩ := X460.virtualBack hx (y := (⟨"com/example/sieveline/sieveline/model/CurrentDomains", "size", "(I)I"⟩ : MethodName)) (z := (⟨"com/example/sieveline/sieveline/model/CurrentDomains", "size", "(I)I"⟩ : MethodName)) hown (mvT hZ (ww 54 rfl)) (mvT hZ (ww 55 rfl)) (notFace_of_selects (args := #[]) (mvT hZ (ww 57 rfl))) (mvT hZ (ww 57 rfl)) (mvT hZ (ww 56 rfl)) (by decide) (backOf (W := 0) (rm_size_1 l Z av0 hw [] b389 as__419 (ownUpd (ownUpd (ownUpd (ownUpd (ownUpd (ownUpd (ownUpd (fun _ => (0 : Int32)) 0 v1) 1 v2) 0 (v1 - (1 : Int32))) 0 ((v1 - (1 : Int32)) - (1 : Int32))) 1 (1 : Int32)) 1 v2) 0 (v1 - (1 : Int32))) T449.heap n0 (Nat.le_trans Z0 K449.1) FP449_2 FP449_6) hZ (ww 58 rfl) (ww 3 rfl) (by decide) (by decide)) q461a q461c (g := (mkF m 194 #[iv p0, iv p1, iv p2, iv p3, iv p4, iv p5, iv v1, iv v2, iv (1 : Int32), iv (2 : Int32), iv v386, iv v387, iv v388, rv b389, iv v431, iv (2 : Int32)] [(.int (1 : Int32)), (.ref b389)])) rfl (by rw [hml]; rfl) (Steps.refl _) (argsL := [(.int (1 : Int32))]) (rest := []) (lenOf own_pd4 rfl) rfl (by show 2 * 0 + _ ≤ _; exact Nat.le_of_eq rfl) (hb hby at_194) (fun _ _ => ⟨rfl, e460, (by decide : 10 + 0 ≤ _), (by decide : 97 + 0 ≤ _)⟩)
      dsimp only [Pt.U, Pt.locs, Pt.cells, Pt.slots] at X461 l461 y461 z461 st461 hQ461
      subst l461 y461 z461
      obtain ⟨rfl, N461q, e461⟩ := hQ461
      have N461 := Fr.app N460 N461q
      refine ownRun (T' := T461) (f' := (mkF m 197 #[iv p0, iv p1, iv p2, iv p3, iv p4, iv p5, iv v1, iv v2, iv (1 : Int32), iv (2 : Int32), iv v386, iv v387, iv v388, rv b389, iv v431, iv (2 : Int32)] [(.int v2)])) st461 ?_
      refine ow_iload (q := 199) X461 hx (hb hby at_197) rfl rfl ?_
      refine ow_icmpNo (q := 202) X461 hx (hb hby at_199) rfl (Jvm.Free.XT.ii_ne_f rfl) ?_
      refine ow_aload (q := 204) X461 hx (hb hby at_202) rfl rfl rfl ?_
      refine ow_iconst (q := 205) X461 hx (0 : Int32) (hb hby at_204) rfl rfl ?_
      refine ow_iload (q := 207) X461 hx (hb hby at_205) rfl rfl ?_
      obtain ⟨cq462, kq462, q462a, q462b, q462c⟩ := isOf hZ e461 FP449_0
      obtain ⟨_, _, ⟨T462, L462, k462, n462⟩, -, X462, ⟨Lc462, hQ462, l462, y462, z462⟩, st462⟩ := X461.virtualBack hx (y := (⟨"com/example/sieveline/sieveline/model/CurrentDomains", "contains", "(II)Z"⟩ : MethodName)) (z := (⟨"com/example/sieveline/sieveline/model/CurrentDomains", "contains", "(II)Z"⟩ : MethodName)) hown (mvT hZ (ww 59 rfl)) (mvT hZ (ww 60 rfl)) (notFace_of_selects (args := #[]) (mvT hZ (ww 62 rfl))) (mvT hZ (ww 62 rfl)) (mvT hZ (ww 61 rfl)) (by decide) (backOf (W := 0) (rm_contains l Z av0 hw [] b389 v386 as__419 ap_419 q0_419 q1_419 kp_419 (v1.toNatClampNeg) (own_swQ (own_swD own_id (own_id v386.toNatClampNeg) (v1 - (1 : Int32))) (own_swQ own_id own_id (own_id v386.toNatClampNeg) (v1 - (1 : Int32))) ((own_swQ own_id own_id (own_id v386.toNatClampNeg) (v1 - (1 : Int32))) v387.toNatClampNeg) ((v1 - (1 : Int32)) - (1 : Int32))) (ownUpd (ownUpd (ownUpd (ownUpd (ownUpd (ownUpd (ownUpd (fun _ => (0 : Int32)) 0 v1) 1 v2) 0 (v1 - (1 : Int32))) 0 ((v1 - (1 : Int32)) - (1 : Int32))) 1 (1 : Int32)) 1 v2) 0 (v1 - (1 : Int32))) T449.heap n0 (Nat.le_trans Z0 K449.1) FP449_2 FP449_4 FP449_6 F454 F456 (own_v0 hv_v1 hv_v386)) hZ (ww 63 rfl) (ww 3 rfl) (by decide) (by decide)) q462a q462c (g := (mkF m 207 #[iv p0, iv p1, iv p2, iv p3, iv p4, iv p5, iv v1, iv v2, iv (1 : Int32), iv (2 : Int32), iv v386, iv v387, iv v388, rv b389, iv v431, iv (2 : Int32)] [(.int v386), (.int (0 : Int32)), (.ref b389)])) rfl (by rw [hml]; rfl) (Steps.refl _) (argsL := [(.int (0 : Int32)), (.int v386)]) (rest := []) (lenOf own_pd5 rfl) rfl (by show 2 * 0 + _ ≤ _; exact Nat.le_of_eq rfl) (hb hby at_207) (fun _ _ => ⟨rfl, e461, (by decide : 10 + 0 ≤ _), (by decide : 97 + 0 ≤ _)⟩)
      dsimp only [Pt.U, Pt.locs, Pt.cells, Pt.slots] at X462 l462 y462 z462 st462 hQ462
      subst l462 y462 z462
      obtain ⟨rfl, N462q, e462⟩ := hQ462
      have N462 := Fr.app N461 N462q
      refine ownRun (T' := T462) (f' := (mkF m 210 #[iv p0, iv p1, iv p2, iv p3, iv p4, iv p5, iv v1, iv v2, iv (1 : Int32), iv (2 : Int32), iv v386, iv v387, iv v388, rv b389, iv v431, iv (2 : Int32)] [(.int (if ((own_swQ (own_swD own_id (own_id v386.toNatClampNeg) (v1 - (1 : Int32))) (own_swQ own_id own_id (own_id v386.toNatClampNeg) (v1 - (1 : Int32))) ((own_swQ own_id own_id (own_id v386.toNatClampNeg) (v1 - (1 : Int32))) v387.toNatClampNeg) ((v1 - (1 : Int32)) - (1 : Int32))) v386.toNatClampNeg) < (v1 - (1 : Int32)) then (1 : Int32) else (0 : Int32)))])) st462 ?_
      refine ow_iload (q := 212) X462 hx (hb hby at_210) rfl rfl ?_
      refine ow_ifYes (q := 219) X462 hx (hb hby at_212) (Jvm.Free.XT.i0_ne_t (by decide)) (by decide) (by decide) ?_
      refine ow_iconst (q := 220) X462 hx (0 : Int32) (hb hby at_219) rfl rfl ?_
      refine ow_icmpNo (q := 223) X462 hx (hb hby at_220) rfl (Jvm.Free.XT.ii_ne_f (by rw [if_neg (own_f1 hv_v1 hv_v386 hv_v387)])) ?_
      refine ow_aload (q := 225) X462 hx (hb hby at_223) rfl rfl rfl ?_
      obtain ⟨cq463, kq463, q463a, q463b, q463c⟩ := isOf hZ e462 FP449_0
      obtain ⟨_, _, ⟨T463, L463, k463, n463⟩, -, X463, ⟨Lc463, hQ463, l463, y463, z463⟩, st463⟩ := X462.virtualBack hx (y := (⟨"com/example/sieveline/sieveline/model/CurrentDomains", "mark", "()I"⟩ : MethodName)) (z := (⟨"com/example/sieveline/sieveline/model/CurrentDomains", "mark", "()I"⟩ : MethodName)) hown (mvT hZ (ww 29 rfl)) (mvT hZ (ww 30 rfl)) (notFace_of_selects (args := #[]) (mvT hZ (ww 32 rfl))) (mvT hZ (ww 32 rfl)) (mvT hZ (ww 31 rfl)) (by decide) (backOf (W := 0) (rm_mark l Z av0 hw [] b389 (2 : Int32) T449.heap n0 (Nat.le_trans Z0 K449.1) FP449_5) hZ (ww 33 rfl) (ww 3 rfl) (by decide) (by decide)) q463a q463c (g := (mkF m 225 #[iv p0, iv p1, iv p2, iv p3, iv p4, iv p5, iv v1, iv v2, iv (1 : Int32), iv (2 : Int32), iv v386, iv v387, iv v388, rv b389, iv v431, iv (2 : Int32)] [(.ref b389)])) rfl (by rw [hml]; rfl) (Steps.refl _) (argsL := []) (rest := []) (lenOf own_pd3 rfl) rfl (by show 2 * 0 + _ ≤ _; exact Nat.le_of_eq rfl) (hb hby at_225) (fun _ _ => ⟨rfl, e462, (by decide : 10 + 0 ≤ _), (by decide : 97 + 0 ≤ _)⟩)
      dsimp only [Pt.U, Pt.locs, Pt.cells, Pt.slots] at X463 l463 y463 z463 st463 hQ463
      subst l463 y463 z463
      obtain ⟨rfl, N463q, e463⟩ := hQ463
      have N463 := Fr.app N462 N463q
      refine ownRun (T' := T463) (f' := (mkF m 228 #[iv p0, iv p1, iv p2, iv p3, iv p4, iv p5, iv v1, iv v2, iv (1 : Int32), iv (2 : Int32), iv v386, iv v387, iv v388, rv b389, iv v431, iv (2 : Int32)] [(.int (2 : Int32))])) st463 ?_
      refine ow_iload (q := 230) X463 hx (hb hby at_228) rfl rfl ?_
      refine ow_icmpNo (q := 233) X463 hx (hb hby at_230) rfl (Jvm.Free.XT.ii_ne_f (by decide)) ?_
      refine ow_iconst (q := 234) X463 hx (1 : Int32) (hb hby at_233) rfl rfl ?_
      refine ow_goto (q := 238) X463 hx (hb hby at_234) (by decide) (by decide) ?_
      refine ownRetN X463 hx (r := (1 : Int32)) (Or.inl rfl) Bd.returns (hb hby at_238) hlk (by decide) (by decide) (by decide) ?_
      exact ⟨rfl, N463⟩
    · subst hs263
      refine ow_iloadN (q := 35) X0 hx (hb hby at_34) rfl rfl ?_
      refine ownGo (T' := s₁) (f' := (mkF m 37 #[iv p0, iv p1, iv p2, iv p3, iv p4, iv p5, iv v1, iv v2, iv (1 : Int32), iv (3 : Int32), .unset, .unset, .unset, .unset, .unset, .unset] [(.int (2147483647 : Int32)), (.int p3)])) (X0.ldcInt hx hown (mvT hZ (ww 0 rfl)) (g := (mkF m 35 #[iv p0, iv p1, iv p2, iv p3, iv p4, iv p5, iv v1, iv v2, iv (1 : Int32), iv (3 : Int32), .unset, .unset, .unset, .unset, .unset, .unset] [(.int p3)])) rfl (hb hby at_35)) ?_
      refine ow_iand (q := 38) X0 hx _ (hb hby at_37) rfl rfl ?_
      refine ow_iload (q := 40) X0 hx (hb hby at_38) rfl rfl ?_
      refine ow_irem (q := 41) X0 hx _ (hb hby at_40) rfl (own_z0 hv_v1) rfl ?_
      generalize hv_v464 : ((p3 &&& (2147483647 : Int32)) % v1) = v464
      refine ow_istore (q := 43) X0 hx (L' := #[iv p0, iv p1, iv p2, iv p3, iv p4, iv p5, iv v1, iv v2, iv (1 : Int32), iv (3 : Int32), iv v464, .unset, .unset, .unset, .unset, .unset]) (hb hby at_41) rfl rfl ?_
      refine ow_iload (q := 45) X0 hx (hb hby at_43) rfl rfl ?_
      refine ow_iconst (q := 46) X0 hx (1 : Int32) (hb hby at_45) rfl rfl ?_
      refine ow_iadd (q := 47) X0 hx _ (hb hby at_46) rfl rfl ?_
      refine ow_iload (q := 49) X0 hx (hb hby at_47) rfl rfl ?_
      refine ownGo (T' := s₁) (f' := (mkF m 51 #[iv p0, iv p1, iv p2, iv p3, iv p4, iv p5, iv v1, iv v2, iv (1 : Int32), iv (3 : Int32), iv v464, .unset, .unset, .unset, .unset, .unset] [(.int (2147483647 : Int32)), (.int p4), (.int (v464 + (1 : Int32)))])) (X0.ldcInt hx hown (mvT hZ (ww 0 rfl)) (g := (mkF m 49 #[iv p0, iv p1, iv p2, iv p3, iv p4, iv p5, iv v1, iv v2, iv (1 : Int32), iv (3 : Int32), iv v464, .unset, .unset, .unset, .unset, .unset] [(.int p4), (.int (v464 + (1 : Int32)))])) rfl (hb hby at_49)) ?_
      refine ow_iand (q := 52) X0 hx _ (hb hby at_51) rfl rfl ?_
      refine ow_iload (q := 54) X0 hx (hb hby at_52) rfl rfl ?_
      refine ow_iconst (q := 55) X0 hx (1 : Int32) (hb hby at_54) rfl rfl ?_
      refine ow_isub (q := 56) X0 hx _ (hb hby at_55) rfl rfl ?_
      refine ow_irem (q := 57) X0 hx _ (hb hby at_56) rfl (own_z0m hv_v1) rfl ?_
      refine ow_iadd (q := 58) X0 hx _ (hb hby at_57) rfl rfl ?_
      refine ow_iload (q := 60) X0 hx (hb hby at_58) rfl rfl ?_
      refine ow_irem (q := 61) X0 hx _ (hb hby at_60) rfl (own_z0 hv_v1) rfl ?_
      generalize hv_v465 : (((v464 + (1 : Int32)) + ((p4 &&& (2147483647 : Int32)) % (v1 - (1 : Int32)))) % v1) = v465
      refine ow_istore (q := 63) X0 hx (L' := #[iv p0, iv p1, iv p2, iv p3, iv p4, iv p5, iv v1, iv v2, iv (1 : Int32), iv (3 : Int32), iv v464, iv v465, .unset, .unset, .unset, .unset]) (hb hby at_61) rfl rfl ?_
      refine ow_iload (q := 65) X0 hx (hb hby at_63) rfl rfl ?_
      refine ownGo (T' := s₁) (f' := (mkF m 67 #[iv p0, iv p1, iv p2, iv p3, iv p4, iv p5, iv v1, iv v2, iv (1 : Int32), iv (3 : Int32), iv v464, iv v465, .unset, .unset, .unset, .unset] [(.int (2147483647 : Int32)), (.int p5)])) (X0.ldcInt hx hown (mvT hZ (ww 0 rfl)) (g := (mkF m 65 #[iv p0, iv p1, iv p2, iv p3, iv p4, iv p5, iv v1, iv v2, iv (1 : Int32), iv (3 : Int32), iv v464, iv v465, .unset, .unset, .unset, .unset] [(.int p5)])) rfl (hb hby at_65)) ?_
      refine ow_iand (q := 68) X0 hx _ (hb hby at_67) rfl rfl ?_
      refine ow_iload (q := 70) X0 hx (hb hby at_68) rfl rfl ?_
      refine ow_irem (q := 71) X0 hx _ (hb hby at_70) rfl (own_z1 hv_v2) rfl ?_
      generalize hv_v466 : ((p5 &&& (2147483647 : Int32)) % v2) = v466
      refine ow_istore (q := 73) X0 hx (L' := #[iv p0, iv p1, iv p2, iv p3, iv p4, iv p5, iv v1, iv v2, iv (1 : Int32), iv (3 : Int32), iv v464, iv v465, iv v466, .unset, .unset, .unset]) (hb hby at_71) rfl rfl ?_
      obtain ⟨T467, h467, X467, e467, E467, A467, D467, -, st467⟩ := newO X0 hx hZ hown (ww 1 rfl) (ww 2 rfl) (ww 3 rfl) e0 (g := (mkF m 73 #[iv p0, iv p1, iv p2, iv p3, iv p4, iv p5, iv v1, iv v2, iv (1 : Int32), iv (3 : Int32), iv v464, iv v465, iv v466, .unset, .unset, .unset] [])) rfl (hb hby at_73) (by decide) (by decide)
      obtain ⟨b467, g467⟩ : ∃ z, z = h0.size := ⟨_, rfl⟩
      rw [← g467] at A467 D467 st467
      have sz_b467 : h0.size ≤ b467 := Nat.le_trans K0.1 (Nat.le_of_eq g467.symm)
      have G_b467 : n0 ≤ b467 := Nat.le_trans Z0 sz_b467
      have K467 : Keep h0 h467 [] := K0.ext E467
      have F468 : Fld Z h467 b467 "com/example/sieveline/sieveline/model/CurrentDomains" "trail" "[I" .null := D467 (Or.inl (ww 12 rfl)) (ty := (.array .int)) (by decide)
      have F469 : Fld Z h467 b467 "com/example/sieveline/sieveline/model/CurrentDomains" "size" "[I" .null := D467 (Or.inr (ww 23 rfl)) (ty := (.array .int)) (by decide)
      have F470 : Fld Z h467 b467 "com/example/sieveline/sieveline/model/CurrentDomains" "dense" "[[I" .null := D467 (Or.inr (ww 26 rfl)) (ty := (.array (.array .int))) (by decide)
      have F471 : Fld Z h467 b467 "com/example/sieveline/sieveline/model/CurrentDomains" "position" "[[I" .null := D467 (Or.inr (ww 28 rfl)) (ty := (.array (.array .int))) (by decide)
      have F472 : Fld Z h467 b467 "com/example/sieveline/sieveline/model/CurrentDomains" "top" "I" (.int (0 : Int32)) := D467 (Or.inl (ww 35 rfl)) (ty := .int) (by decide)
      refine ownGo (T' := T467) (f' := (mkF m 76 #[iv p0, iv p1, iv p2, iv p3, iv p4, iv p5, iv v1, iv v2, iv (1 : Int32), iv (3 : Int32), iv v464, iv v465, iv v466, .unset, .unset, .unset] [(.ref b467)])) (st467) ?_
      refine ow_dup (q := 77) X467 hx (hb hby at_76) rfl rfl ?_
      refine ow_iconst (q := 78) X467 hx (2 : Int32) (hb hby at_77) rfl rfl ?_
      obtain ⟨T473, h473, k473, X473, e473, E473, A473, EA473, st473⟩ := newPE X467 hx hZ (ww 4 rfl) e467 (g := (mkF m 78 #[iv p0, iv p1, iv p2, iv p3, iv p4, iv p5, iv v1, iv v2, iv (1 : Int32), iv (3 : Int32), iv v464, iv v465, iv v466, .unset, .unset, .unset] [(.int (2 : Int32)), (.ref b467), (.ref b467)])) rfl (hb hby at_78) rfl (by decide) (cap := 2) (by decide) (by decide) (by decide) (by decide) (ad := "[I") (by decide)
      obtain ⟨b473, g473⟩ : ∃ z, z = h467.size := ⟨_, rfl⟩
      rw [← g473] at A473 st473 EA473
      have ne_b467_b473 : b467 ≠ b473 := Nat.ne_of_lt (Nat.lt_of_lt_of_le A467.lt (Nat.le_of_eq g473.symm))
      have sz_b473 : h0.size ≤ b473 := Nat.le_trans K467.1 (Nat.le_of_eq g473.symm)
      have G_b473 : n0 ≤ b473 := Nat.le_trans Z0 sz_b473
      have K473 : Keep h0 h473 [] := K467.ext E473
      have F474 : Exa Z h473 b467 "com/example/sieveline/sieveline/model/CurrentDomains" := A467.ext E473
      have F475 : Fld Z h473 b467 "com/example/sieveline/sieveline/model/CurrentDomains" "trail" "[I" .null := F468.ext E473
      have F476 : Fld Z h473 b467 "com/example/sieveline/sieveline/model/CurrentDomains" "size" "[I" .null := F469.ext E473
      have F477 : Fld Z h473 b467 "com/example/sieveline/sieveline/model/CurrentDomains" "dense" "[[I" .null := F470.ext E473
      have F478 : Fld Z h473 b467 "com/example/sieveline/sieveline/model/CurrentDomains" "position" "[[I" .null := F471.ext E473
      have F479 : Fld Z h473 b467 "com/example/sieveline/sieveline/model/CurrentDomains" "top" "I" (.int (0 : Int32)) := F472.ext E473
      have F480 : ownAI Z h473 b473 .int 2 (fun _ => (0 : Int32)) := ownAI.new A473 (by decide) rfl (by decide)
      refine ownGo (T' := T473) (f' := (mkF m 80 #[iv p0, iv p1, iv p2, iv p3, iv p4, iv p5, iv v1, iv v2, iv (1 : Int32), iv (3 : Int32), iv v464, iv v465, iv v466, .unset, .unset, .unset] [(.ref b473), (.ref b467), (.ref b467)])) (st473) ?_
      refine ow_dup (q := 81) X473 hx (hb hby at_80) rfl rfl ?_
      refine ow_iconst (q := 82) X473 hx (0 : Int32) (hb hby at_81) rfl rfl ?_
      refine ow_iload (q := 84) X473 hx (hb hby at_82) rfl rfl ?_
      obtain ⟨T481, h481, X481, e481, W481, F481s, st481⟩ := ownIastore F480 X473 hx hZ e473 (j := (0 : Int32)) (by unfold ownIn; decide) (g := (mkF m 84 #[iv p0, iv p1, iv p2, iv p3, iv p4, iv p5, iv v1, iv v2, iv (1 : Int32), iv (3 : Int32), iv v464, iv v465, iv v466, .unset, .unset, .unset] [(.int v1), (.int (0 : Int32)), (.ref b473), (.ref b473), (.ref b467), (.ref b467)])) rfl rfl (hb hby at_84)
      have F481r : ownAI Z h481 b473 .int 2 (ownUpd (fun _ => (0 : Int32)) 0 v1) := F481s
      have N481 := Fr.snoc X481 N0 G_b473
      have K481 : Keep h0 h481 [] := K473.wr W481 (Or.inr sz_b473)
      have F482 : Exa Z h481 b467 "com/example/sieveline/sieveline/model/CurrentDomains" := F474.wr W481
      have F483 : Fld Z h481 b467 "com/example/sieveline/sieveline/model/CurrentDomains" "trail" "[I" .null := F475.other W481 (Or.inl ne_b467_b473)
      have F484 : Fld Z h481 b467 "com/example/sieveline/sieveline/model/CurrentDomains" "size" "[I" .null := F476.other W481 (Or.inl ne_b467_b473)
      have F485 : Fld Z h481 b467 "com/example/sieveline/sieveline/model/CurrentDomains" "dense" "[[I" .null := F477.other W481 (Or.inl ne_b467_b473)
      have F486 : Fld Z h481 b467 "com/example/sieveline/sieveline/model/CurrentDomains" "position" "[[I" .null := F478.other W481 (Or.inl ne_b467_b473)
      have F487 : Fld Z h481 b467 "com/example/sieveline/sieveline/model/CurrentDomains" "top" "I" (.int (0 : Int32)) := F479.other W481 (Or.inl ne_b467_b473)
      have F488 : Exa Z h481 b473 "[I" := EA473.wr W481
      refine ownGo (T' := T481) (f' := (mkF m 85 #[iv p0, iv p1, iv p2, iv p3, iv p4, iv p5, iv v1, iv v2, iv (1 : Int32), iv (3 : Int32), iv v464, iv v465, iv v466, .unset, .unset, .unset] [(.ref b473), (.ref b467), (.ref b467)])) (st481) ?_
      refine ow_dup (q := 86) X481 hx (hb hby at_85) rfl rfl ?_
      refine ow_iconst (q := 87) X481 hx (1 : Int32) (hb hby at_86) rfl rfl ?_
      refine ow_iload (q := 89) X481 hx (hb hby at_87) rfl rfl ?_
      obtain ⟨T489, h489, X489, e489, W489, F489s, st489⟩ := ownIastore F481r X481 hx hZ e481 (j := (1 : Int32)) (by unfold ownIn; decide) (g := (mkF m 89 #[iv p0, iv p1, iv p2, iv p3, iv p4, iv p5, iv v1, iv v2, iv (1 : Int32), iv (3 : Int32), iv v464, iv v465, iv v466, .unset, .unset, .unset] [(.int v2), (.int (1 : Int32)), (.ref b473), (.ref b473), (.ref b467), (.ref b467)])) rfl rfl (hb hby at_89)
      have F489r : ownAI Z h489 b473 .int 2 (ownUpd (ownUpd (fun _ => (0 : Int32)) 0 v1) 1 v2) := F489s
      have N489 := Fr.snoc X489 N481 G_b473
      have K489 : Keep h0 h489 [] := K481.wr W489 (Or.inr sz_b473)
      have F490 : Exa Z h489 b467 "com/example/sieveline/sieveline/model/CurrentDomains" := F482.wr W489
      have F491 : Fld Z h489 b467 "com/example/sieveline/sieveline/model/CurrentDomains" "trail" "[I" .null := F483.other W489 (Or.inl ne_b467_b473)
      have F492 : Fld Z h489 b467 "com/example/sieveline/sieveline/model/CurrentDomains" "size" "[I" .null := F484.other W489 (Or.inl ne_b467_b473)
      have F493 : Fld Z h489 b467 "com/example/sieveline/sieveline/model/CurrentDomains" "dense" "[[I" .null := F485.other W489 (Or.inl ne_b467_b473)
      have F494 : Fld Z h489 b467 "com/example/sieveline/sieveline/model/CurrentDomains" "position" "[[I" .null := F486.other W489 (Or.inl ne_b467_b473)
      have F495 : Fld Z h489 b467 "com/example/sieveline/sieveline/model/CurrentDomains" "top" "I" (.int (0 : Int32)) := F487.other W489 (Or.inl ne_b467_b473)
      have F496 : Exa Z h489 b473 "[I" := F488.wr W489
      refine ownGo (T' := T489) (f' := (mkF m 90 #[iv p0, iv p1, iv p2, iv p3, iv p4, iv p5, iv v1, iv v2, iv (1 : Int32), iv (3 : Int32), iv v464, iv v465, iv v466, .unset, .unset, .unset] [(.ref b473), (.ref b467), (.ref b467)])) (st489) ?_
      obtain ⟨_, _, ⟨T497, L497, k497, n497⟩, -, X497, ⟨Lc497, hQ497, l497, y497, z497⟩, st497⟩ := X489.specialBack hx (y := (⟨"com/example/sieveline/sieveline/model/CurrentDomains", "<init>", "([I)V"⟩ : MethodName)) rfl hown (mvT hZ (ww 5 rfl)) (mvT hZ (ww 6 rfl)) (mvT hZ (ww 7 rfl)) (by decide) (backOf (W := 1) (rm_init l Z av0 hw [] b467 b473 v1 v2 h489 n0 (Nat.le_trans Z0 K489.1) F490 F491 F492 F493 F494 F495 F489r F496 G_b467 (own_h0 hv_v1) (own_h1 hv_v2) ne_b467_b473) hZ (ww 7 rfl) (ww 3 rfl) (by decide) (by decide)) (g := (mkF m 90 #[iv p0, iv p1, iv p2, iv p3, iv p4, iv p5, iv v1, iv v2, iv (1 : Int32), iv (3 : Int32), iv v464, iv v465, iv v466, .unset, .unset, .unset] [(.ref b473), (.ref b467), (.ref b467)])) rfl (by rw [hml]; rfl) (Steps.refl _) (a := b467) (argsL := [(.ref b473)]) (rest := [(.ref b467)]) (lenOf own_pd2 rfl) rfl (by show 2 * 0 + _ ≤ _; exact Nat.le_of_eq rfl) (hb hby at_90) (fun _ _ => ⟨rfl, e489, (by decide : 2 + 8 ≤ _), (by decide : 7 + 90 ≤ _)⟩)
      dsimp only [Pt.U, Pt.locs, Pt.cells, Pt.slots] at X497 l497 y497 z497 st497 hQ497
      subst l497 y497 z497
      obtain ⟨at__497, as__497, ad_497, ap_497, d0_497, q0_497, d1_497, q1_497, kd_497, kp_497, rfl, N497q, Kq497, sq497_at__497, sq497_as__497, sq497_ad_497, sq497_ap_497, sq497_d0_497, sq497_q0_497, sq497_d1_497, sq497_q1_497, FP497_0, FP497_1, FP497_2, FP497_3, FP497_4, FP497_5, FP497_6, FP497_7, FP497_8, FP497_9, FP497_10, FP497_11, FP497_12, FP497_13, hp497⟩ := hQ497
      have N497 := Fr.app N489 N497q
      have K497 : Keep h0 T497.heap [] := K489.trans Kq497 (allS (Or.inr sz_b467) all0)
      have ne_b467_at__497 : b467 ≠ at__497 := Nat.ne_of_lt (Nat.lt_of_lt_of_le F490.lt sq497_at__497)
      have ne_b473_at__497 : b473 ≠ at__497 := Nat.ne_of_lt (Nat.lt_of_lt_of_le F496.lt sq497_at__497)
      have sz_at__497 : h0.size ≤ at__497 := Nat.le_trans K489.1 sq497_at__497
      have G_at__497 : n0 ≤ at__497 := Nat.le_trans Z0 sz_at__497
      have ne_b467_as__497 : b467 ≠ as__497 := Nat.ne_of_lt (Nat.lt_of_lt_of_le F490.lt sq497_as__497)
      have ne_b473_as__497 : b473 ≠ as__497 := Nat.ne_of_lt (Nat.lt_of_lt_of_le F496.lt sq497_as__497)
      have sz_as__497 : h0.size ≤ as__497 := Nat.le_trans K489.1 sq497_as__497
      have G_as__497 : n0 ≤ as__497 := Nat.le_trans Z0 sz_as__497
      have ne_b467_ad_497 : b467 ≠ ad_497 := Nat.ne_of_lt (Nat.lt_of_lt_of_le F490.lt sq497_ad_497)
      have ne_b473_ad_497 : b473 ≠ ad_497 := Nat.ne_of_lt (Nat.lt_of_lt_of_le F496.lt sq497_ad_497)
      have sz_ad_497 : h0.size ≤ ad_497 := Nat.le_trans K489.1 sq497_ad_497
      have G_ad_497 : n0 ≤ ad_497 := Nat.le_trans Z0 sz_ad_497
      have ne_b467_ap_497 : b467 ≠ ap_497 := Nat.ne_of_lt (Nat.lt_of_lt_of_le F490.lt sq497_ap_497)
      have ne_b473_ap_497 : b473 ≠ ap_497 := Nat.ne_of_lt (Nat.lt_of_lt_of_le F496.lt sq497_ap_497)
      have sz_ap_497 : h0.size ≤ ap_497 := Nat.le_trans K489.1 sq497_ap_497
      have G_ap_497 : n0 ≤ ap_497 := Nat.le_trans Z0 sz_ap_497
      have ne_b467_d0_497 : b467 ≠ d0_497 := Nat.ne_of_lt (Nat.lt_of_lt_of_le F490.lt sq497_d0_497)
      have ne_b473_d0_497 : b473 ≠ d0_497 := Nat.ne_of_lt (Nat.lt_of_lt_of_le F496.lt sq497_d0_497)
      have sz_d0_497 : h0.size ≤ d0_497 := Nat.le_trans K489.1 sq497_d0_497
      have G_d0_497 : n0 ≤ d0_497 := Nat.le_trans Z0 sz_d0_497
      have ne_b467_q0_497 : b467 ≠ q0_497 := Nat.ne_of_lt (Nat.lt_of_lt_of_le F490.lt sq497_q0_497)
      have ne_b473_q0_497 : b473 ≠ q0_497 := Nat.ne_of_lt (Nat.lt_of_lt_of_le F496.lt sq497_q0_497)
      have sz_q0_497 : h0.size ≤ q0_497 := Nat.le_trans K489.1 sq497_q0_497
      have G_q0_497 : n0 ≤ q0_497 := Nat.le_trans Z0 sz_q0_497
      have ne_b467_d1_497 : b467 ≠ d1_497 := Nat.ne_of_lt (Nat.lt_of_lt_of_le F490.lt sq497_d1_497)
      have ne_b473_d1_497 : b473 ≠ d1_497 := Nat.ne_of_lt (Nat.lt_of_lt_of_le F496.lt sq497_d1_497)
      have sz_d1_497 : h0.size ≤ d1_497 := Nat.le_trans K489.1 sq497_d1_497
      have G_d1_497 : n0 ≤ d1_497 := Nat.le_trans Z0 sz_d1_497
      have ne_b467_q1_497 : b467 ≠ q1_497 := Nat.ne_of_lt (Nat.lt_of_lt_of_le F490.lt sq497_q1_497)
      have ne_b473_q1_497 : b473 ≠ q1_497 := Nat.ne_of_lt (Nat.lt_of_lt_of_le F496.lt sq497_q1_497)
      have sz_q1_497 : h0.size ≤ q1_497 := Nat.le_trans K489.1 sq497_q1_497
      have G_q1_497 : n0 ≤ q1_497 := Nat.le_trans Z0 sz_q1_497
      have F498 : Exa Z T497.heap b467 "com/example/sieveline/sieveline/model/CurrentDomains" := F490.keep Kq497
      have F499 : Exa Z T497.heap b473 "[I" := F496.keep Kq497
      have F500 : ownAI Z T497.heap b473 .int 2 (ownUpd (ownUpd (fun _ => (0 : Int32)) 0 v1) 1 v2) := F489r.keep Kq497 (ninS (Ne.symm ne_b467_b473) nin0)
      refine ownRun (T' := T497) (f' := (mkF m 93 #[iv p0, iv p1, iv p2, iv p3, iv p4, iv p5, iv v1, iv v2, iv (1 : Int32), iv (3 : Int32), iv v464, iv v465, iv v466, .unset, .unset, .unset] [(.ref b467)])) st497 ?_
      refine ow_astore (q := 95) X497 hx (L' := #[iv p0, iv p1, iv p2, iv p3, iv p4, iv p5, iv v1, iv v2, iv (1 : Int32), iv (3 : Int32), iv v464, iv v465, iv v466, rv b467, .unset, .unset]) (hb hby at_93) rfl rfl rfl ?_
      refine ow_iload (q := 97) X497 hx (hb hby at_95) rfl rfl ?_
      refine ow_ifNo (q := 100) X497 hx (hb hby at_97) rfl (Jvm.Free.XT.i0_eq_f (by decide)) ?_
      refine ow_aload (q := 102) X497 hx (hb hby at_100) rfl rfl rfl ?_
      refine ow_iconst (q := 103) X497 hx (0 : Int32) (hb hby at_102) rfl rfl ?_
      refine ow_iload (q := 105) X497 hx (hb hby at_103) rfl rfl ?_
      obtain ⟨cq501, kq501, q501a, q501b, q501c⟩ := isOf hZ rfl FP497_0
      obtain ⟨_, _, ⟨T501, L501, k501, n501⟩, -, X501, ⟨Lc501, hQ501, l501, y501, z501⟩, st501⟩ := X497.virtualBack hx (y := (⟨"com/example/sieveline/sieveline/model/CurrentDomains", "remove", "(II)V"⟩ : MethodName)) (z := (⟨"com/example/sieveline/sieveline/model/CurrentDomains", "remove", "(II)V"⟩ : MethodName)) hown (mvT hZ (ww 36 rfl)) (mvT hZ (ww 37 rfl)) (notFace_of_selects (args := #[]) (mvT hZ (ww 39 rfl))) (mvT hZ (ww 39 rfl)) (mvT hZ (ww 38 rfl)) (by decide) (backOf (W := 0) (rm_remove_0_0 l Z av0 hw [] b467 v464 at__497 as__497 ad_497 ap_497 d0_497 q0_497 d1_497 q1_497 kd_497 kp_497 (v1.toNatClampNeg) own_id own_id (fun _ => (0 : Int32)) (ownUpd (ownUpd (fun _ => (0 : Int32)) 0 v1) 1 v2) T497.heap n0 (Nat.le_trans Z0 K497.1) FP497_0 FP497_1 FP497_2 FP497_3 FP497_4 FP497_5 FP497_6 FP497_7 FP497_8 FP497_9 FP497_10 FP497_11 G_b467 G_at__497 G_as__497 G_d0_497 G_q0_497 (ne_b467_at__497) (ne_b467_as__497) (ne_b467_ad_497) (ne_b467_ap_497) (ne_b467_d0_497) (ne_b467_q0_497) (hp497.1) (hp497.2.1) (hp497.2.2.1) (hp497.2.2.2.1) (hp497.2.2.2.2.1) (hp497.2.2.2.2.2.2.2.1) (hp497.2.2.2.2.2.2.2.2.1) (hp497.2.2.2.2.2.2.2.2.2.1) (hp497.2.2.2.2.2.2.2.2.2.2.1) (hp497.2.2.2.2.2.2.2.2.2.2.2.2.2.1) (hp497.2.2.2.2.2.2.2.2.2.2.2.2.2.2.1) (hp497.2.2.2.2.2.2.2.2.2.2.2.2.2.2.2.1) (hp497.2.2.2.2.2.2.2.2.2.2.2.2.2.2.2.2.2.2.1) (hp497.2.2.2.2.2.2.2.2.2.2.2.2.2.2.2.2.2.2.2.1) (hp497.2.2.2.2.2.2.2.2.2.2.2.2.2.2.2.2.2.2.2.2.2.2.1) (own_v0 hv_v1 hv_v464) own_rg_id own_rg_id (own_s0 hv_v1)) hZ (ww 40 rfl) (ww 3 rfl) (by decide) (by decide)) q501a q501c (g := (mkF m 105 #[iv p0, iv p1, iv p2, iv p3, iv p4, iv p5, iv v1, iv v2, iv (1 : Int32), iv (3 : Int32), iv v464, iv v465, iv v466, rv b467, .unset, .unset] [(.int v464), (.int (0 : Int32)), (.ref b467)])) rfl (by rw [hml]; rfl) (Steps.refl _) (argsL := [(.int (0 : Int32)), (.int v464)]) (rest := []) (lenOf own_pd6 rfl) rfl (by show 2 * 0 + _ ≤ _; exact Nat.le_of_eq rfl) (hb hby at_105) (fun _ _ => ⟨rfl, rfl, (by decide : 10 + 0 ≤ _), (by decide : 97 + 0 ≤ _)⟩)
      dsimp only [Pt.U, Pt.locs, Pt.cells, Pt.slots] at X501 l501 y501 z501 st501 hQ501
      subst l501 y501 z501
      obtain ⟨rfl, N501q, Kq501, FP501_0, FP501_1, FP501_2, FP501_3, FP501_4, FP501_5, FP501_6, FP501_7, FP501_8, FP501_9⟩ := hQ501
      have N501 := Fr.app N497 N501q
      have K501 : Keep h0 T501.heap [] := K497.trans Kq501 (allS (Or.inr sz_b467) (allS (Or.inr sz_at__497) (allS (Or.inr sz_as__497) (allS (Or.inr sz_d0_497) (allS (Or.inr sz_q0_497) all0)))))
      have F502 : Exa Z T501.heap b467 "com/example/sieveline/sieveline/model/CurrentDomains" := FP497_0.keep Kq501
      have F503 : Exa Z T501.heap b473 "[I" := F499.keep Kq501
      have F504 : ownAI Z T501.heap b473 .int 2 (ownUpd (ownUpd (fun _ => (0 : Int32)) 0 v1) 1 v2) := F500.keep Kq501 (ninS (Ne.symm ne_b467_b473) (ninS ne_b473_at__497 (ninS ne_b473_as__497 (ninS ne_b473_d0_497 (ninS ne_b473_q0_497 nin0)))))
      have F505 : ownAR Z T501.heap ad_497 kd_497 2 (ownUpd (ownUpd (fun _ => Value.null) 0 (.ref d0_497)) 1 (.ref d1_497)) := FP497_8.keep Kq501 (ninS (Ne.symm ne_b467_ad_497) (ninS (Ne.symm hp497.2.1) (ninS (Ne.symm hp497.2.2.2.2.2.2.2.1) (ninS hp497.2.2.2.2.2.2.2.2.2.2.2.2.2.2.1 (ninS hp497.2.2.2.2.2.2.2.2.2.2.2.2.2.2.2.1 nin0)))))
      have F506 : ownAR Z T501.heap ap_497 kp_497 2 (ownUpd (ownUpd (fun _ => Value.null) 0 (.ref q0_497)) 1 (.ref q1_497)) := FP497_9.keep Kq501 (ninS (Ne.symm ne_b467_ap_497) (ninS (Ne.symm hp497.2.2.1) (ninS (Ne.symm hp497.2.2.2.2.2.2.2.2.1) (ninS hp497.2.2.2.2.2.2.2.2.2.2.2.2.2.2.2.2.2.2.1 (ninS hp497.2.2.2.2.2.2.2.2.2.2.2.2.2.2.2.2.2.2.2.1 nin0)))))
      have F507 : ownAI Z T501.heap d1_497 .int (v2.toNatClampNeg) own_id := FP497_12.keep Kq501 (ninS (Ne.symm ne_b467_d1_497) (ninS (Ne.symm hp497.2.2.2.2.2.1) (ninS (Ne.symm hp497.2.2.2.2.2.2.2.2.2.2.2.1) (ninS (Ne.symm hp497.2.2.2.2.2.2.2.2.2.2.2.2.2.2.2.2.2.2.2.2.2.2.2.1) (ninS (Ne.symm hp497.2.2.2.2.2.2.2.2.2.2.2.2.2.2.2.2.2.2.2.2.2.2.2.2.2.1) nin0)))))
      have F508 : ownAI Z T501.heap q1_497 .int (v2.toNatClampNeg) own_id := FP497_13.keep Kq501 (ninS (Ne.symm ne_b467_q1_497) (ninS (Ne.symm hp497.2.2.2.2.2.2.1) (ninS (Ne.symm hp497.2.2.2.2.2.2.2.2.2.2.2.2.1) (ninS (Ne.symm hp497.2.2.2.2.2.2.2.2.2.2.2.2.2.2.2.2.2.2.2.2.2.2.2.2.1) (ninS (Ne.symm hp497.2.2.2.2.2.2.2.2.2.2.2.2.2.2.2.2.2.2.2.2.2.2.2.2.2.2.1) nin0)))))
      refine ownRun (T' := T501) (f' := (mkF m 108 #[iv p0, iv p1, iv p2, iv p3, iv p4, iv p5, iv v1, iv v2, iv (1 : Int32), iv (3 : Int32), iv v464, iv v465, iv v466, rv b467, .unset, .unset] [])) st501 ?_
      refine ow_iload (q := 110) X501 hx (hb hby at_108) rfl rfl ?_
      refine ow_ifNo (q := 113) X501 hx (hb hby at_110) rfl (Jvm.Free.XT.i0_eq_f (by decide)) ?_
      refine ow_iload (q := 115) X501 hx (hb hby at_113) rfl rfl ?_
      refine ow_iconst (q := 116) X501 hx (1 : Int32) (hb hby at_115) rfl rfl ?_
      refine ow_isub (q := 117) X501 hx _ (hb hby at_116) rfl rfl ?_
      refine ow_goto (q := 122) X501 hx (hb hby at_117) (by decide) (by decide) ?_
      generalize hv_v509 : (v1 - (1 : Int32)) = v509
      refine ow_istore (q := 124) X501 hx (L' := #[iv p0, iv p1, iv p2, iv p3, iv p4, iv p5, iv v1, iv v2, iv (1 : Int32), iv (3 : Int32), iv v464, iv v465, iv v466, rv b467, iv v509, .unset]) (hb hby at_122) rfl rfl ?_
      refine ow_aload (q := 126) X501 hx (hb hby at_124) rfl rfl rfl ?_
      obtain ⟨cq510, kq510, q510a, q510b, q510c⟩ := isOf hZ rfl FP501_0
      obtain ⟨_, _, ⟨T510, L510, k510, n510⟩, -, X510, ⟨Lc510, hQ510, l510, y510, z510⟩, st510⟩ := X501.virtualBack hx (y := (⟨"com/example/sieveline/sieveline/model/CurrentDomains", "mark", "()I"⟩ : MethodName)) (z := (⟨"com/example/sieveline/sieveline/model/CurrentDomains", "mark", "()I"⟩ : MethodName)) hown (mvT hZ (ww 29 rfl)) (mvT hZ (ww 30 rfl)) (notFace_of_selects (args := #[]) (mvT hZ (ww 32 rfl))) (mvT hZ (ww 32 rfl)) (mvT hZ (ww 31 rfl)) (by decide) (backOf (W := 0) (rm_mark l Z av0 hw [] b467 (2 : Int32) T501.heap n0 (Nat.le_trans Z0 K501.1) FP501_5) hZ (ww 33 rfl) (ww 3 rfl) (by decide) (by decide)) q510a q510c (g := (mkF m 126 #[iv p0, iv p1, iv p2, iv p3, iv p4, iv p5, iv v1, iv v2, iv (1 : Int32), iv (3 : Int32), iv v464, iv v465, iv v466, rv b467, iv v509, .unset] [(.ref b467)])) rfl (by rw [hml]; rfl) (Steps.refl _) (argsL := []) (rest := []) (lenOf own_pd3 rfl) rfl (by show 2 * 0 + _ ≤ _; exact Nat.le_of_eq rfl) (hb hby at_126) (fun _ _ => ⟨rfl, rfl, (by decide : 10 + 0 ≤ _), (by decide : 97 + 0 ≤ _)⟩)
      dsimp only [Pt.U, Pt.locs, Pt.cells, Pt.slots] at X510 l510 y510 z510 st510 hQ510
      subst l510 y510 z510
      obtain ⟨rfl, N510q, e510⟩ := hQ510
      have N510 := Fr.app N501 N510q
      refine ownRun (T' := T510) (f' := (mkF m 129 #[iv p0, iv p1, iv p2, iv p3, iv p4, iv p5, iv v1, iv v2, iv (1 : Int32), iv (3 : Int32), iv v464, iv v465, iv v466, rv b467, iv v509, .unset] [(.int (2 : Int32))])) st510 ?_
      refine ow_istore (q := 131) X510 hx (L' := #[iv p0, iv p1, iv p2, iv p3, iv p4, iv p5, iv v1, iv v2, iv (1 : Int32), iv (3 : Int32), iv v464, iv v465, iv v466, rv b467, iv v509, iv (2 : Int32)]) (hb hby at_129) rfl rfl ?_
      refine ow_iload (q := 133) X510 hx (hb hby at_131) rfl rfl ?_
      refine ow_iconst (q := 134) X510 hx (1 : Int32) (hb hby at_133) rfl rfl ?_
      refine ow_icmpNo (q := 137) X510 hx (hb hby at_134) rfl (Jvm.Free.XT.ii_lt_f (by decide)) ?_
      refine ow_aload (q := 139) X510 hx (hb hby at_137) rfl rfl rfl ?_
      refine ow_iconst (q := 140) X510 hx (0 : Int32) (hb hby at_139) rfl rfl ?_
      refine ow_iload (q := 142) X510 hx (hb hby at_140) rfl rfl ?_
      obtain ⟨cq511, kq511, q511a, q511b, q511c⟩ := isOf hZ e510 FP501_0
      obtain ⟨_, _, ⟨T511, L511, k511, n511⟩, -, X511, ⟨Lc511, hQ511, l511, y511, z511⟩, st511⟩ := X510.virtualBack hx (y := (⟨"com/example/sieveline/sieveline/model/CurrentDomains", "remove", "(II)V"⟩ : MethodName)) (z := (⟨"com/example/sieveline/sieveline/model/CurrentDomains", "remove", "(II)V"⟩ : MethodName)) hown (mvT hZ (ww 36 rfl)) (mvT hZ (ww 37 rfl)) (notFace_of_selects (args := #[]) (mvT hZ (ww 39 rfl))) (mvT hZ (ww 39 rfl)) (mvT hZ (ww 38 rfl)) (by decide) (backOf (W := 0) (rm_remove_2_0 l Z av0 hw [] b467 v465 at__497 as__497 ad_497 ap_497 d0_497 q0_497 d1_497 q1_497 kd_497 kp_497 (v1.toNatClampNeg) (own_swD own_id (own_id v464.toNatClampNeg) (v1 - (1 : Int32))) (own_swQ own_id own_id (own_id v464.toNatClampNeg) (v1 - (1 : Int32))) (ownUpd (ownUpd (fun _ => (0 : Int32)) 0 (0 : Int32)) 1 v1) (ownUpd (ownUpd (ownUpd (fun _ => (0 : Int32)) 0 v1) 1 v2) 0 (v1 - (1 : Int32))) T501.heap n0 (Nat.le_trans Z0 K501.1) FP501_0 FP501_1 FP501_2 FP501_3 FP501_4 FP501_5 FP501_6 FP501_7 F505 F506 FP501_8 FP501_9 G_b467 G_at__497 G_as__497 G_d0_497 G_q0_497 (ne_b467_at__497) (ne_b467_as__497) (ne_b467_ad_497) (ne_b467_ap_497) (ne_b467_d0_497) (ne_b467_q0_497) (hp497.1) (hp497.2.1) (hp497.2.2.1) (hp497.2.2.2.1) (hp497.2.2.2.2.1) (hp497.2.2.2.2.2.2.2.1) (hp497.2.2.2.2.2.2.2.2.1) (hp497.2.2.2.2.2.2.2.2.2.1) (hp497.2.2.2.2.2.2.2.2.2.2.1) (hp497.2.2.2.2.2.2.2.2.2.2.2.2.2.1) (hp497.2.2.2.2.2.2.2.2.2.2.2.2.2.2.1) (hp497.2.2.2.2.2.2.2.2.2.2.2.2.2.2.2.1) (hp497.2.2.2.2.2.2.2.2.2.2.2.2.2.2.2.2.2.2.1) (hp497.2.2.2.2.2.2.2.2.2.2.2.2.2.2.2.2.2.2.2.1) (hp497.2.2.2.2.2.2.2.2.2.2.2.2.2.2.2.2.2.2.2.2.2.2.1) (own_w hv_v1 hv_v464 hv_v465).1 (own_rg_swD own_rg_id (own_posid (own_v0 hv_v1 hv_v464)) (own_lastid (own_s0 hv_v1))) (own_rg_swQ own_rg_id (own_posid (own_v0 hv_v1 hv_v464)) (own_lastid (own_s0 hv_v1))) (own_s0m hv_v1)) hZ (ww 40 rfl) (ww 3 rfl) (by decide) (by decide)) q511a q511c (g := (mkF m 142 #[iv p0, iv p1, iv p2, iv p3, iv p4, iv p5, iv v1, iv v2, iv (1 : Int32), iv (3 : Int32), iv v464, iv v465, iv v466, rv b467, iv v509, iv (2 : Int32)] [(.int v465), (.int (0 : Int32)), (.ref b467)])) rfl (by rw [hml]; rfl) (Steps.refl _) (argsL := [(.int (0 : Int32)), (.int v465)]) (rest := []) (lenOf own_pd6 rfl) rfl (by show 2 * 0 + _ ≤ _; exact Nat.le_of_eq rfl) (hb hby at_142) (fun _ _ => ⟨rfl, e510, (by decide : 10 + 0 ≤ _), (by decide : 97 + 0 ≤ _)⟩)
      dsimp only [Pt.U, Pt.locs, Pt.cells, Pt.slots] at X511 l511 y511 z511 st511 hQ511
      subst l511 y511 z511
      obtain ⟨rfl, N511q, Kq511, FP511_0, FP511_1, FP511_2, FP511_3, FP511_4, FP511_5, FP511_6, FP511_7, FP511_8, FP511_9⟩ := hQ511
      have N511 := Fr.app N510 N511q
      have K511 : Keep h0 T511.heap [] := K501.trans Kq511 (allS (Or.inr sz_b467) (allS (Or.inr sz_at__497) (allS (Or.inr sz_as__497) (allS (Or.inr sz_d0_497) (allS (Or.inr sz_q0_497) all0)))))
      have F512 : Exa Z T511.heap b467 "com/example/sieveline/sieveline/model/CurrentDomains" := FP501_0.keep Kq511
      have F513 : Exa Z T511.heap b473 "[I" := F503.keep Kq511
      have F514 : ownAI Z T511.heap b473 .int 2 (ownUpd (ownUpd (fun _ => (0 : Int32)) 0 v1) 1 v2) := F504.keep Kq511 (ninS (Ne.symm ne_b467_b473) (ninS ne_b473_at__497 (ninS ne_b473_as__497 (ninS ne_b473_d0_497 (ninS ne_b473_q0_497 nin0)))))
      have F515 : ownAR Z T511.heap ad_497 kd_497 2 (ownUpd (ownUpd (fun _ => Value.null) 0 (.ref d0_497)) 1 (.ref d1_497)) := F505.keep Kq511 (ninS (Ne.symm ne_b467_ad_497) (ninS (Ne.symm hp497.2.1) (ninS (Ne.symm hp497.2.2.2.2.2.2.2.1) (ninS hp497.2.2.2.2.2.2.2.2.2.2.2.2.2.2.1 (ninS hp497.2.2.2.2.2.2.2.2.2.2.2.2.2.2.2.1 nin0)))))
      have F516 : ownAR Z T511.heap ap_497 kp_497 2 (ownUpd (ownUpd (fun _ => Value.null) 0 (.ref q0_497)) 1 (.ref q1_497)) := F506.keep Kq511 (ninS (Ne.symm ne_b467_ap_497) (ninS (Ne.symm hp497.2.2.1) (ninS (Ne.symm hp497.2.2.2.2.2.2.2.2.1) (ninS hp497.2.2.2.2.2.2.2.2.2.2.2.2.2.2.2.2.2.2.1 (ninS hp497.2.2.2.2.2.2.2.2.2.2.2.2.2.2.2.2.2.2.2.1 nin0)))))
      have F517 : ownAI Z T511.heap d1_497 .int (v2.toNatClampNeg) own_id := F507.keep Kq511 (ninS (Ne.symm ne_b467_d1_497) (ninS (Ne.symm hp497.2.2.2.2.2.1) (ninS (Ne.symm hp497.2.2.2.2.2.2.2.2.2.2.2.1) (ninS (Ne.symm hp497.2.2.2.2.2.2.2.2.2.2.2.2.2.2.2.2.2.2.2.2.2.2.2.1) (ninS (Ne.symm hp497.2.2.2.2.2.2.2.2.2.2.2.2.2.2.2.2.2.2.2.2.2.2.2.2.2.1) nin0)))))
      have F518 : ownAI Z T511.heap q1_497 .int (v2.toNatClampNeg) own_id := F508.keep Kq511 (ninS (Ne.symm ne_b467_q1_497) (ninS (Ne.symm hp497.2.2.2.2.2.2.1) (ninS (Ne.symm hp497.2.2.2.2.2.2.2.2.2.2.2.2.1) (ninS (Ne.symm hp497.2.2.2.2.2.2.2.2.2.2.2.2.2.2.2.2.2.2.2.2.2.2.2.2.1) (ninS (Ne.symm hp497.2.2.2.2.2.2.2.2.2.2.2.2.2.2.2.2.2.2.2.2.2.2.2.2.2.2.1) nin0)))))
      refine ownRun (T' := T511) (f' := (mkF m 145 #[iv p0, iv p1, iv p2, iv p3, iv p4, iv p5, iv v1, iv v2, iv (1 : Int32), iv (3 : Int32), iv v464, iv v465, iv v466, rv b467, iv v509, iv (2 : Int32)] [])) st511 ?_
      refine ow_iload (q := 147) X511 hx (hb hby at_145) rfl rfl ?_
      refine ow_iconst (q := 148) X511 hx (2 : Int32) (hb hby at_147) rfl rfl ?_
      refine ow_icmpNo (q := 151) X511 hx (hb hby at_148) rfl (Jvm.Free.XT.ii_lt_f (by decide)) ?_
      refine ow_aload (q := 153) X511 hx (hb hby at_151) rfl rfl rfl ?_
      refine ow_iconst (q := 154) X511 hx (1 : Int32) (hb hby at_153) rfl rfl ?_
      refine ow_iload (q := 156) X511 hx (hb hby at_154) rfl rfl ?_
      obtain ⟨cq519, kq519, q519a, q519b, q519c⟩ := isOf hZ rfl FP511_0
      obtain ⟨_, _, ⟨T519, L519, k519, n519⟩, -, X519, ⟨Lc519, hQ519, l519, y519, z519⟩, st519⟩ := X511.virtualBack hx (y := (⟨"com/example/sieveline/sieveline/model/CurrentDomains", "reduceTo", "(II)V"⟩ : MethodName)) (z := (⟨"com/example/sieveline/sieveline/model/CurrentDomains", "reduceTo", "(II)V"⟩ : MethodName)) hown (mvT hZ (ww 64 rfl)) (mvT hZ (ww 65 rfl)) (notFace_of_selects (args := #[]) (mvT hZ (ww 67 rfl))) (mvT hZ (ww 67 rfl)) (mvT hZ (ww 66 rfl)) (by decide) (backOf (W := 0) (rm_reduceTo_4 l Z av0 hw [] b467 v466 at__497 as__497 ad_497 ap_497 d0_497 q0_497 d1_497 q1_497 kd_497 kp_497 (v2.toNatClampNeg) own_id own_id (ownUpd (ownUpd (ownUpd (ownUpd (fun _ => (0 : Int32)) 0 (0 : Int32)) 1 v1) 2 (0 : Int32)) 3 (v1 - (1 : Int32))) (ownUpd (ownUpd (ownUpd (ownUpd (fun _ => (0 : Int32)) 0 v1) 1 v2) 0 (v1 - (1 : Int32))) 0 ((v1 - (1 : Int32)) - (1 : Int32))) T511.heap n0 (Nat.le_trans Z0 K511.1) FP511_0 FP511_1 FP511_2 FP511_3 FP511_4 FP511_5 FP511_6 FP511_7 F515 F516 F517 F518 G_b467 G_at__497 G_as__497 G_d1_497 G_q1_497 (ne_b467_at__497) (ne_b467_as__497) (ne_b467_ad_497) (ne_b467_ap_497) (ne_b467_d1_497) (ne_b467_q1_497) (hp497.1) (hp497.2.1) (hp497.2.2.1) (hp497.2.2.2.2.2.1) (hp497.2.2.2.2.2.2.1) (hp497.2.2.2.2.2.2.2.1) (hp497.2.2.2.2.2.2.2.2.1) (hp497.2.2.2.2.2.2.2.2.2.2.2.1) (hp497.2.2.2.2.2.2.2.2.2.2.2.2.1) (hp497.2.2.2.2.2.2.2.2.2.2.2.2.2.1) (hp497.2.2.2.2.2.2.2.2.2.2.2.2.2.2.2.2.1) (hp497.2.2.2.2.2.2.2.2.2.2.2.2.2.2.2.2.2.1) (hp497.2.2.2.2.2.2.2.2.2.2.2.2.2.2.2.2.2.2.2.2.1) (hp497.2.2.2.2.2.2.2.2.2.2.2.2.2.2.2.2.2.2.2.2.2.1) (hp497.2.2.2.2.2.2.2.2.2.2.2.2.2.2.2.2.2.2.2.2.2.2.2.2.2.2.2) (own_v1 hv_v2 hv_v466) own_rg_id own_rg_id (own_s1 hv_v2)) hZ (ww 68 rfl) (ww 3 rfl) (by decide) (by decide)) q519a q519c (g := (mkF m 156 #[iv p0, iv p1, iv p2, iv p3, iv p4, iv p5, iv v1, iv v2, iv (1 : Int32), iv (3 : Int32), iv v464, iv v465, iv v466, rv b467, iv v509, iv (2 : Int32)] [(.int v466), (.int (1 : Int32)), (.ref b467)])) rfl (by rw [hml]; rfl) (Steps.refl _) (argsL := [(.int (1 : Int32)), (.int v466)]) (rest := []) (lenOf own_pd6 rfl) rfl (by show 2 * 0 + _ ≤ _; exact Nat.le_of_eq rfl) (hb hby at_156) (fun _ _ => ⟨rfl, rfl, (by decide : 10 + 0 ≤ _), (by decide : 97 + 0 ≤ _)⟩)
      dsimp only [Pt.U, Pt.locs, Pt.cells, Pt.slots] at X519 l519 y519 z519 st519 hQ519
      subst l519 y519 z519
      obtain ⟨rfl, N519q, Kq519, FP519_0, FP519_1, FP519_2, FP519_3, FP519_4, FP519_5, FP519_6, FP519_7, FP519_8, FP519_9⟩ := hQ519
      have N519 := Fr.app N511 N519q
      have K519 : Keep h0 T519.heap [] := K511.trans Kq519 (allS (Or.inr sz_b467) (allS (Or.inr sz_at__497) (allS (Or.inr sz_as__497) (allS (Or.inr sz_d1_497) (allS (Or.inr sz_q1_497) all0)))))
      have F520 : Exa Z T519.heap b467 "com/example/sieveline/sieveline/model/CurrentDomains" := FP511_0.keep Kq519
      have F521 : Exa Z T519.heap b473 "[I" := F513.keep Kq519
      have F522 : ownAI Z T519.heap b473 .int 2 (ownUpd (ownUpd (fun _ => (0 : Int32)) 0 v1) 1 v2) := F514.keep Kq519 (ninS (Ne.symm ne_b467_b473) (ninS ne_b473_at__497 (ninS ne_b473_as__497 (ninS ne_b473_d1_497 (ninS ne_b473_q1_497 nin0)))))
      have F523 : ownAR Z T519.heap ad_497 kd_497 2 (ownUpd (ownUpd (fun _ => Value.null) 0 (.ref d0_497)) 1 (.ref d1_497)) := F515.keep Kq519 (ninS (Ne.symm ne_b467_ad_497) (ninS (Ne.symm hp497.2.1) (ninS (Ne.symm hp497.2.2.2.2.2.2.2.1) (ninS hp497.2.2.2.2.2.2.2.2.2.2.2.2.2.2.2.2.1 (ninS hp497.2.2.2.2.2.2.2.2.2.2.2.2.2.2.2.2.2.1 nin0)))))
      have F524 : ownAR Z T519.heap ap_497 kp_497 2 (ownUpd (ownUpd (fun _ => Value.null) 0 (.ref q0_497)) 1 (.ref q1_497)) := F516.keep Kq519 (ninS (Ne.symm ne_b467_ap_497) (ninS (Ne.symm hp497.2.2.1) (ninS (Ne.symm hp497.2.2.2.2.2.2.2.2.1) (ninS hp497.2.2.2.2.2.2.2.2.2.2.2.2.2.2.2.2.2.2.2.2.1 (ninS hp497.2.2.2.2.2.2.2.2.2.2.2.2.2.2.2.2.2.2.2.2.2.1 nin0)))))
      have F525 : ownAI Z T519.heap d0_497 .int (v1.toNatClampNeg) (own_swD (own_swD own_id (own_id v464.toNatClampNeg) (v1 - (1 : Int32))) ((own_swQ own_id own_id (own_id v464.toNatClampNeg) (v1 - (1 : Int32))) v465.toNatClampNeg) ((v1 - (1 : Int32)) - (1 : Int32))) := FP511_8.keep Kq519 (ninS (Ne.symm ne_b467_d0_497) (ninS (Ne.symm hp497.2.2.2.1) (ninS (Ne.symm hp497.2.2.2.2.2.2.2.2.2.1) (ninS hp497.2.2.2.2.2.2.2.2.2.2.2.2.2.2.2.2.2.2.2.2.2.2.2.1 (ninS hp497.2.2.2.2.2.2.2.2.2.2.2.2.2.2.2.2.2.2.2.2.2.2.2.2.1 nin0)))))
      have F526 : ownAI Z T519.heap q0_497 .int (v1.toNatClampNeg) (own_swQ (own_swD own_id (own_id v464.toNatClampNeg) (v1 - (1 : Int32))) (own_swQ own_id own_id (own_id v464.toNatClampNeg) (v1 - (1 : Int32))) ((own_swQ own_id own_id (own_id v464.toNatClampNeg) (v1 - (1 : Int32))) v465.toNatClampNeg) ((v1 - (1 : Int32)) - (1 : Int32))) := FP511_9.keep Kq519 (ninS (Ne.symm ne_b467_q0_497) (ninS (Ne.symm hp497.2.2.2.2.1) (ninS (Ne.symm hp497.2.2.2.2.2.2.2.2.2.2.1) (ninS hp497.2.2.2.2.2.2.2.2.2.2.2.2.2.2.2.2.2.2.2.2.2.2.2.2.2.1 (ninS hp497.2.2.2.2.2.2.2.2.2.2.2.2.2.2.2.2.2.2.2.2.2.2.2.2.2.2.1 nin0)))))
      refine ownRun (T' := T519) (f' := (mkF m 159 #[iv p0, iv p1, iv p2, iv p3, iv p4, iv p5, iv v1, iv v2, iv (1 : Int32), iv (3 : Int32), iv v464, iv v465, iv v466, rv b467, iv v509, iv (2 : Int32)] [])) st519 ?_
      refine ow_iload (q := 161) X519 hx (hb hby at_159) rfl rfl ?_
      refine ow_iconst (q := 162) X519 hx (3 : Int32) (hb hby at_161) rfl rfl ?_
      refine ow_icmpNo (q := 165) X519 hx (hb hby at_162) rfl (Jvm.Free.XT.ii_lt_f (by decide)) ?_
      refine ow_aload (q := 167) X519 hx (hb hby at_165) rfl rfl rfl ?_
      refine ow_iconst (q := 168) X519 hx (1 : Int32) (hb hby at_167) rfl rfl ?_
      refine ow_iload (q := 170) X519 hx (hb hby at_168) rfl rfl ?_
      obtain ⟨cq527, kq527, q527a, q527b, q527c⟩ := isOf hZ rfl FP519_0
      obtain ⟨_, _, ⟨T527, L527, k527, n527⟩, -, X527, ⟨Lc527, hQ527, l527, y527, z527⟩, st527⟩ := X519.virtualBack hx (y := (⟨"com/example/sieveline/sieveline/model/CurrentDomains", "remove", "(II)V"⟩ : MethodName)) (z := (⟨"com/example/sieveline/sieveline/model/CurrentDomains", "remove", "(II)V"⟩ : MethodName)) hown (mvT hZ (ww 36 rfl)) (mvT hZ (ww 37 rfl)) (notFace_of_selects (args := #[]) (mvT hZ (ww 39 rfl))) (mvT hZ (ww 39 rfl)) (mvT hZ (ww 38 rfl)) (by decide) (backOf (W := 0) (rm_remove_6_1 l Z av0 hw [] b467 v466 at__497 as__497 ad_497 ap_497 d0_497 q0_497 d1_497 q1_497 kd_497 kp_497 (v2.toNatClampNeg) (own_swD own_id (own_id v466.toNatClampNeg) (0 : Int32)) (own_swQ own_id own_id (own_id v466.toNatClampNeg) (0 : Int32)) (ownUpd (ownUpd (ownUpd (ownUpd (ownUpd (ownUpd (fun _ => (0 : Int32)) 0 (0 : Int32)) 1 v1) 2 (0 : Int32)) 3 (v1 - (1 : Int32))) 4 (1 : Int32)) 5 v2) (ownUpd (ownUpd (ownUpd (ownUpd (ownUpd (fun _ => (0 : Int32)) 0 v1) 1 v2) 0 (v1 - (1 : Int32))) 0 ((v1 - (1 : Int32)) - (1 : Int32))) 1 (1 : Int32)) T519.heap n0 (Nat.le_trans Z0 K519.1) FP519_0 FP519_1 FP519_2 FP519_3 FP519_4 FP519_5 FP519_6 FP519_7 F523 F524 FP519_8 FP519_9 G_b467 G_at__497 G_as__497 G_d1_497 G_q1_497 (ne_b467_at__497) (ne_b467_as__497) (ne_b467_ad_497) (ne_b467_ap_497) (ne_b467_d1_497) (ne_b467_q1_497) (hp497.1) (hp497.2.1) (hp497.2.2.1) (hp497.2.2.2.2.2.1) (hp497.2.2.2.2.2.2.1) (hp497.2.2.2.2.2.2.2.1) (hp497.2.2.2.2.2.2.2.2.1) (hp497.2.2.2.2.2.2.2.2.2.2.2.1) (hp497.2.2.2.2.2.2.2.2.2.2.2.2.1) (hp497.2.2.2.2.2.2.2.2.2.2.2.2.2.1) (hp497.2.2.2.2.2.2.2.2.2.2.2.2.2.2.2.2.1) (hp497.2.2.2.2.2.2.2.2.2.2.2.2.2.2.2.2.2.1) (hp497.2.2.2.2.2.2.2.2.2.2.2.2.2.2.2.2.2.2.2.2.1) (hp497.2.2.2.2.2.2.2.2.2.2.2.2.2.2.2.2.2.2.2.2.2.1) (hp497.2.2.2.2.2.2.2.2.2.2.2.2.2.2.2.2.2.2.2.2.2.2.2.2.2.2.2) (own_v1 hv_v2 hv_v466) (own_rg_swD own_rg_id (own_posid (own_v1 hv_v2 hv_v466)) (own_z (own_s1 hv_v2))) (own_rg_swQ own_rg_id (own_posid (own_v1 hv_v2 hv_v466)) (own_z (own_s1 hv_v2))) (own_o1 (own_s1 hv_v2))) hZ (ww 40 rfl) (ww 3 rfl) (by decide) (by decide)) q527a q527c (g := (mkF m 170 #[iv p0, iv p1, iv p2, iv p3, iv p4, iv p5, iv v1, iv v2, iv (1 : Int32), iv (3 : Int32), iv v464, iv v465, iv v466, rv b467, iv v509, iv (2 : Int32)] [(.int v466), (.int (1 : Int32)), (.ref b467)])) rfl (by rw [hml]; rfl) (Steps.refl _) (argsL := [(.int (1 : Int32)), (.int v466)]) (rest := []) (lenOf own_pd6 rfl) rfl (by show 2 * 0 + _ ≤ _; exact Nat.le_of_eq rfl) (hb hby at_170) (fun _ _ => ⟨rfl, rfl, (by decide : 10 + 0 ≤ _), (by decide : 97 + 0 ≤ _)⟩)
      dsimp only [Pt.U, Pt.locs, Pt.cells, Pt.slots] at X527 l527 y527 z527 st527 hQ527
      subst l527 y527 z527
      obtain ⟨rfl, N527q, Kq527, FP527_0, FP527_1, FP527_2, FP527_3, FP527_4, FP527_5, FP527_6, FP527_7, FP527_8, FP527_9⟩ := hQ527
      have N527 := Fr.app N519 N527q
      have K527 : Keep h0 T527.heap [] := K519.trans Kq527 (allS (Or.inr sz_b467) (allS (Or.inr sz_at__497) (allS (Or.inr sz_as__497) (allS (Or.inr sz_d1_497) (allS (Or.inr sz_q1_497) all0)))))
      have F528 : Exa Z T527.heap b467 "com/example/sieveline/sieveline/model/CurrentDomains" := FP519_0.keep Kq527
      have F529 : Exa Z T527.heap b473 "[I" := F521.keep Kq527
      have F530 : ownAI Z T527.heap b473 .int 2 (ownUpd (ownUpd (fun _ => (0 : Int32)) 0 v1) 1 v2) := F522.keep Kq527 (ninS (Ne.symm ne_b467_b473) (ninS ne_b473_at__497 (ninS ne_b473_as__497 (ninS ne_b473_d1_497 (ninS ne_b473_q1_497 nin0)))))
      have F531 : ownAR Z T527.heap ad_497 kd_497 2 (ownUpd (ownUpd (fun _ => Value.null) 0 (.ref d0_497)) 1 (.ref d1_497)) := F523.keep Kq527 (ninS (Ne.symm ne_b467_ad_497) (ninS (Ne.symm hp497.2.1) (ninS (Ne.symm hp497.2.2.2.2.2.2.2.1) (ninS hp497.2.2.2.2.2.2.2.2.2.2.2.2.2.2.2.2.1 (ninS hp497.2.2.2.2.2.2.2.2.2.2.2.2.2.2.2.2.2.1 nin0)))))
      have F532 : ownAR Z T527.heap ap_497 kp_497 2 (ownUpd (ownUpd (fun _ => Value.null) 0 (.ref q0_497)) 1 (.ref q1_497)) := F524.keep Kq527 (ninS (Ne.symm ne_b467_ap_497) (ninS (Ne.symm hp497.2.2.1) (ninS (Ne.symm hp497.2.2.2.2.2.2.2.2.1) (ninS hp497.2.2.2.2.2.2.2.2.2.2.2.2.2.2.2.2.2.2.2.2.1 (ninS hp497.2.2.2.2.2.2.2.2.2.2.2.2.2.2.2.2.2.2.2.2.2.1 nin0)))))
      have F533 : ownAI Z T527.heap d0_497 .int (v1.toNatClampNeg) (own_swD (own_swD own_id (own_id v464.toNatClampNeg) (v1 - (1 : Int32))) ((own_swQ own_id own_id (own_id v464.toNatClampNeg) (v1 - (1 : Int32))) v465.toNatClampNeg) ((v1 - (1 : Int32)) - (1 : Int32))) := F525.keep Kq527 (ninS (Ne.symm ne_b467_d0_497) (ninS (Ne.symm hp497.2.2.2.1) (ninS (Ne.symm hp497.2.2.2.2.2.2.2.2.2.1) (ninS hp497.2.2.2.2.2.2.2.2.2.2.2.2.2.2.2.2.2.2.2.2.2.2.2.1 (ninS hp497.2.2.2.2.2.2.2.2.2.2.2.2.2.2.2.2.2.2.2.2.2.2.2.2.1 nin0)))))
      have F534 : ownAI Z T527.heap q0_497 .int (v1.toNatClampNeg) (own_swQ (own_swD own_id (own_id v464.toNatClampNeg) (v1 - (1 : Int32))) (own_swQ own_id own_id (own_id v464.toNatClampNeg) (v1 - (1 : Int32))) ((own_swQ own_id own_id (own_id v464.toNatClampNeg) (v1 - (1 : Int32))) v465.toNatClampNeg) ((v1 - (1 : Int32)) - (1 : Int32))) := F526.keep Kq527 (ninS (Ne.symm ne_b467_q0_497) (ninS (Ne.symm hp497.2.2.2.2.1) (ninS (Ne.symm hp497.2.2.2.2.2.2.2.2.2.2.1) (ninS hp497.2.2.2.2.2.2.2.2.2.2.2.2.2.2.2.2.2.2.2.2.2.2.2.2.2.1 (ninS hp497.2.2.2.2.2.2.2.2.2.2.2.2.2.2.2.2.2.2.2.2.2.2.2.2.2.2.1 nin0)))))
      refine ownRun (T' := T527) (f' := (mkF m 173 #[iv p0, iv p1, iv p2, iv p3, iv p4, iv p5, iv v1, iv v2, iv (1 : Int32), iv (3 : Int32), iv v464, iv v465, iv v466, rv b467, iv v509, iv (2 : Int32)] [])) st527 ?_
      refine ow_aload (q := 175) X527 hx (hb hby at_173) rfl rfl rfl ?_
      refine ow_iload (q := 177) X527 hx (hb hby at_175) rfl rfl ?_
      obtain ⟨cq535, kq535, q535a, q535b, q535c⟩ := isOf hZ rfl FP527_0
      obtain ⟨_, _, ⟨T535, L535, k535, n535⟩, -, X535, ⟨Lc535, hQ535, l535, y535, z535⟩, st535⟩ := X527.virtualBack hx (y := (⟨"com/example/sieveline/sieveline/model/CurrentDomains", "undo", "(I)V"⟩ : MethodName)) (z := (⟨"com/example/sieveline/sieveline/model/CurrentDomains", "undo", "(I)V"⟩ : MethodName)) hown (mvT hZ (ww 49 rfl)) (mvT hZ (ww 50 rfl)) (notFace_of_selects (args := #[]) (mvT hZ (ww 52 rfl))) (mvT hZ (ww 52 rfl)) (mvT hZ (ww 51 rfl)) (by decide) (backOf (W := 0) (rm_undo_2_3 l Z av0 hw [] b467 at__497 as__497 ad_497 ap_497 (ownUpd (ownUpd (ownUpd (ownUpd (ownUpd (ownUpd (ownUpd (ownUpd (fun _ => (0 : Int32)) 0 (0 : Int32)) 1 v1) 2 (0 : Int32)) 3 (v1 - (1 : Int32))) 4 (1 : Int32)) 5 v2) 6 (1 : Int32)) 7 (1 : Int32)) (ownUpd (ownUpd (ownUpd (ownUpd (ownUpd (ownUpd (fun _ => (0 : Int32)) 0 v1) 1 v2) 0 (v1 - (1 : Int32))) 0 ((v1 - (1 : Int32)) - (1 : Int32))) 1 (1 : Int32)) 1 ((1 : Int32) - (1 : Int32))) T527.heap n0 (Nat.le_trans Z0 K527.1) FP527_0 FP527_1 FP527_2 FP527_3 FP527_4 FP527_5 FP527_6 FP527_7 G_b467 G_as__497 (ne_b467_at__497) (ne_b467_as__497) (hp497.1) rfl rfl rfl) hZ (ww 53 rfl) (ww 3 rfl) (by decide) (by decide)) q535a q535c (g := (mkF m 177 #[iv p0, iv p1, iv p2, iv p3, iv p4, iv p5, iv v1, iv v2, iv (1 : Int32), iv (3 : Int32), iv v464, iv v465, iv v466, rv b467, iv v509, iv (2 : Int32)] [(.int (2 : Int32)), (.ref b467)])) rfl (by rw [hml]; rfl) (Steps.refl _) (argsL := [(.int (2 : Int32))]) (rest := []) (lenOf own_pd0 rfl) rfl (by show 2 * 0 + _ ≤ _; exact Nat.le_of_eq rfl) (hb hby at_177) (fun _ _ => ⟨rfl, rfl, (by decide : 10 + 0 ≤ _), (by decide : 97 + 0 ≤ _)⟩)
      dsimp only [Pt.U, Pt.locs, Pt.cells, Pt.slots] at X535 l535 y535 z535 st535 hQ535
      subst l535 y535 z535
      obtain ⟨rfl, N535q, Kq535, FP535_0, FP535_1, FP535_2, FP535_3, FP535_4, FP535_5, FP535_6⟩ := hQ535
      have N535 := Fr.app N527 N535q
      have K535 : Keep h0 T535.heap [] := K527.trans Kq535 (allS (Or.inr sz_b467) (allS (Or.inr sz_as__497) all0))
      have F536 : Exa Z T535.heap b467 "com/example/sieveline/sieveline/model/CurrentDomains" := FP527_0.keep Kq535
      have F537 : Exa Z T535.heap b473 "[I" := F529.keep Kq535
      have F538 : ownAI Z T535.heap b473 .int 2 (ownUpd (ownUpd (fun _ => (0 : Int32)) 0 v1) 1 v2) := F530.keep Kq535 (ninS (Ne.symm ne_b467_b473) (ninS ne_b473_as__497 nin0))
      have F539 : ownAR Z T535.heap ad_497 kd_497 2 (ownUpd (ownUpd (fun _ => Value.null) 0 (.ref d0_497)) 1 (.ref d1_497)) := F531.keep Kq535 (ninS (Ne.symm ne_b467_ad_497) (ninS (Ne.symm hp497.2.2.2.2.2.2.2.1) nin0))
      have F540 : ownAR Z T535.heap ap_497 kp_497 2 (ownUpd (ownUpd (fun _ => Value.null) 0 (.ref q0_497)) 1 (.ref q1_497)) := F532.keep Kq535 (ninS (Ne.symm ne_b467_ap_497) (ninS (Ne.symm hp497.2.2.2.2.2.2.2.2.1) nin0))
      have F541 : ownAI Z T535.heap d0_497 .int (v1.toNatClampNeg) (own_swD (own_swD own_id (own_id v464.toNatClampNeg) (v1 - (1 : Int32))) ((own_swQ own_id own_id (own_id v464.toNatClampNeg) (v1 - (1 : Int32))) v465.toNatClampNeg) ((v1 - (1 : Int32)) - (1 : Int32))) := F533.keep Kq535 (ninS (Ne.symm ne_b467_d0_497) (ninS (Ne.symm hp497.2.2.2.2.2.2.2.2.2.1) nin0))
      have F542 : ownAI Z T535.heap q0_497 .int (v1.toNatClampNeg) (own_swQ (own_swD own_id (own_id v464.toNatClampNeg) (v1 - (1 : Int32))) (own_swQ own_id own_id (own_id v464.toNatClampNeg) (v1 - (1 : Int32))) ((own_swQ own_id own_id (own_id v464.toNatClampNeg) (v1 - (1 : Int32))) v465.toNatClampNeg) ((v1 - (1 : Int32)) - (1 : Int32))) := F534.keep Kq535 (ninS (Ne.symm ne_b467_q0_497) (ninS (Ne.symm hp497.2.2.2.2.2.2.2.2.2.2.1) nin0))
      have F543 : ownAI Z T535.heap at__497 .int 64 (ownUpd (ownUpd (ownUpd (ownUpd (ownUpd (ownUpd (ownUpd (ownUpd (fun _ => (0 : Int32)) 0 (0 : Int32)) 1 v1) 2 (0 : Int32)) 3 (v1 - (1 : Int32))) 4 (1 : Int32)) 5 v2) 6 (1 : Int32)) 7 (1 : Int32)) := FP527_6.keep Kq535 (ninS (Ne.symm ne_b467_at__497) (ninS hp497.1 nin0))
      have F544 : ownAI Z T535.heap d1_497 .int (v2.toNatClampNeg) (own_swD (own_swD own_id (own_id v466.toNatClampNeg) (0 : Int32)) ((own_swQ own_id own_id (own_id v466.toNatClampNeg) (0 : Int32)) v466.toNatClampNeg) ((1 : Int32) - (1 : Int32))) := FP527_8.keep Kq535 (ninS (Ne.symm ne_b467_d1_497) (ninS (Ne.symm hp497.2.2.2.2.2.2.2.2.2.2.2.1) nin0))
      have F545 : ownAI Z T535.heap q1_497 .int (v2.toNatClampNeg) (own_swQ (own_swD own_id (own_id v466.toNatClampNeg) (0 : Int32)) (own_swQ own_id own_id (own_id v466.toNatClampNeg) (0 : Int32)) ((own_swQ own_id own_id (own_id v466.toNatClampNeg) (0 : Int32)) v466.toNatClampNeg) ((1 : Int32) - (1 : Int32))) := FP527_9.keep Kq535 (ninS (Ne.symm ne_b467_q1_497) (ninS (Ne.symm hp497.2.2.2.2.2.2.2.2.2.2.2.2.1) nin0))
      refine ownRun (T' := T535) (f' := (mkF m 180 #[iv p0, iv p1, iv p2, iv p3, iv p4, iv p5, iv v1, iv v2, iv (1 : Int32), iv (3 : Int32), iv v464, iv v465, iv v466, rv b467, iv v509, iv (2 : Int32)] [])) st535 ?_
      refine ow_aload (q := 182) X535 hx (hb hby at_180) rfl rfl rfl ?_
      refine ow_iconst (q := 183) X535 hx (0 : Int32) (hb hby at_182) rfl rfl ?_
      obtain ⟨cq546, kq546, q546a, q546b, q546c⟩ := isOf hZ rfl FP535_0
      obtain ⟨_, _, ⟨T546, L546, k546, n546⟩, -, X546, ⟨Lc546, hQ546, l546, y546, z546⟩, st546⟩ := X535.virtualBack hx (y := (⟨"com/example/sieveline/sieveline/model/CurrentDomains", "size", "(I)I"⟩ : MethodName)) (z := (⟨"com/example/sieveline/sieveline/model/CurrentDomains", "size", "(I)I"⟩ : MethodName)) hown (mvT hZ (ww 54 rfl)) (mvT hZ (ww 55 rfl)) (notFace_of_selects (args := #[]) (mvT hZ (ww 57 rfl))) (mvT hZ (ww 57 rfl)) (mvT hZ (ww 56 rfl)) (by decide) (backOf (W := 0) (rm_size_0 l Z av0 hw [] b467 as__497 (ownUpd (ownUpd (ownUpd (ownUpd (ownUpd (ownUpd (ownUpd (ownUpd (ownUpd (fun _ => (0 : Int32)) 0 v1) 1 v2) 0 (v1 - (1 : Int32))) 0 ((v1 - (1 : Int32)) - (1 : Int32))) 1 (1 : Int32)) 1 ((1 : Int32) - (1 : Int32))) 1 (1 : Int32)) 1 v2) 0 (v1 - (1 : Int32))) T535.heap n0 (Nat.le_trans Z0 K535.1) FP535_2 FP535_6) hZ (ww 58 rfl) (ww 3 rfl) (by decide) (by decide)) q546a q546c (g := (mkF m 183 #[iv p0, iv p1, iv p2, iv p3, iv p4, iv p5, iv v1, iv v2, iv (1 : Int32), iv (3 : Int32), iv v464, iv v465, iv v466, rv b467, iv v509, iv (2 : Int32)] [(.int (0 : Int32)), (.ref b467)])) rfl (by rw [hml]; rfl) (Steps.refl _) (argsL := [(.int (0 : Int32))]) (rest := []) (lenOf own_pd4 rfl) rfl (by show 2 * 0 + _ ≤ _; exact Nat.le_of_eq rfl) (hb hby at_183) (fun _ _ => ⟨rfl, rfl, (by decide : 10 + 0 ≤ _), (by decide : 97 + 0 ≤ _)⟩)
      dsimp only [Pt.U, Pt.locs, Pt.cells, Pt.slots] at X546 l546 y546 z546 st546 hQ546
      subst l546 y546 z546
      obtain ⟨rfl, N546q, e546⟩ := hQ546
      have N546 := Fr.app N535 N546q
      refine ownRun (T' := T546) (f' := (mkF m 186 #[iv p0, iv p1, iv p2, iv p3, iv p4, iv p5, iv v1, iv v2, iv (1 : Int32), iv (3 : Int32), iv v464, iv v465, iv v466, rv b467, iv v509, iv (2 : Int32)] [(.int (v1 - (1 : Int32)))])) st546 ?_
      refine ow_iload (q := 188) X546 hx (hb hby at_186) rfl rfl ?_
      refine ow_icmpNo (q := 191) X546 hx (hb hby at_188) rfl (Jvm.Free.XT.ii_ne_f hv_v509) ?_
      refine ow_aload (q := 193) X546 hx (hb hby at_191) rfl rfl rfl ?_
      refine ow_iconst (q := 194) X546 hx (1 : Int32) (hb hby at_193) rfl rfl ?_
      obtain ⟨cq547, kq547, q547a, q547b, q547c⟩ := isOf hZ e546 FP535_0
      obtain ⟨_, _, ⟨T547, L547, k547, n547⟩, -, X547, ⟨Lc547, hQ547, l547, y547, z547⟩, st547⟩ := X546.virtualBack hx (y := (⟨"com/example/sieveline/sieveline/model/CurrentDomains", "size", "(I)I"⟩ : MethodName)) (z := (⟨"com/example/sieveline/sieveline/model/CurrentDomains", "size", "(I)I"⟩ : MethodName)) hown (mvT hZ (ww 54 rfl)) (mvT hZ (ww 55 rfl)) (notFace_of_selects (args := #[]) (mvT hZ (ww 57 rfl))) (mvT hZ (ww 57 rfl)) (mvT hZ (ww 56 rfl)) (by decide) (backOf (W := 0) (rm_size_1 l Z av0 hw [] b467 as__497 (ownUpd (ownUpd (ownUpd (ownUpd (ownUpd (ownUpd (ownUpd (ownUpd (ownUpd (fun _ => (0 : Int32)) 0 v1) 1 v2) 0 (v1 - (1 : Int32))) 0 ((v1 - (1 : Int32)) - (1 : Int32))) 1 (1 : Int32)) 1 ((1 : Int32) - (1 : Int32))) 1 (1 : Int32)) 1 v2) 0 (v1 - (1 : Int32))) T535.heap n0 (Nat.le_trans Z0 K535.1) FP535_2 FP535_6) hZ (ww 58 rfl) (ww 3 rfl) (by decide) (by decide)) q547a q547c (g := (mkF m 194 #[iv p0, iv p1, iv p2, iv p3, iv p4, iv p5, iv v1, iv v2, iv (1 : Int32), iv (3 : Int32), iv v464, iv v465, iv v466, rv b467, iv v509, iv (2 : Int32)] [(.int (1 : Int32)), (.ref b467)])) rfl (by rw [hml]; rfl) (Steps.refl _) (argsL := [(.int (1 : Int32))]) (rest := []) (lenOf own_pd4 rfl) rfl (by show 2 * 0 + _ ≤ _; exact Nat.le_of_eq rfl) (hb hby at_194) (fun _ _ => ⟨rfl, e546, (by decide : 10 + 0 ≤ _), (by decide : 97 + 0 ≤ _)⟩)
      dsimp only [Pt.U, Pt.locs, Pt.cells, Pt.slots] at X547 l547 y547 z547 st547 hQ547
      subst l547 y547 z547
      obtain ⟨rfl, N547q, e547⟩ := hQ547
      have N547 := Fr.app N546 N547q
      refine ownRun (T' := T547) (f' := (mkF m 197 #[iv p0, iv p1, iv p2, iv p3, iv p4, iv p5, iv v1, iv v2, iv (1 : Int32), iv (3 : Int32), iv v464, iv v465, iv v466, rv b467, iv v509, iv (2 : Int32)] [(.int v2)])) st547 ?_
      refine ow_iload (q := 199) X547 hx (hb hby at_197) rfl rfl ?_
      refine ow_icmpNo (q := 202) X547 hx (hb hby at_199) rfl (Jvm.Free.XT.ii_ne_f rfl) ?_
      refine ow_aload (q := 204) X547 hx (hb hby at_202) rfl rfl rfl ?_
      refine ow_iconst (q := 205) X547 hx (0 : Int32) (hb hby at_204) rfl rfl ?_
      refine ow_iload (q := 207) X547 hx (hb hby at_205) rfl rfl ?_
      obtain ⟨cq548, kq548, q548a, q548b, q548c⟩ := isOf hZ e547 FP535_0
      obtain ⟨_, _, ⟨T548, L548, k548, n548⟩, -, X548, ⟨Lc548, hQ548, l548, y548, z548⟩, st548⟩ := X547.virtualBack hx (y := (⟨"com/example/sieveline/sieveline/model/CurrentDomains", "contains", "(II)Z"⟩ : MethodName)) (z := (⟨"com/example/sieveline/sieveline/model/CurrentDomains", "contains", "(II)Z"⟩ : MethodName)) hown (mvT hZ (ww 59 rfl)) (mvT hZ (ww 60 rfl)) (notFace_of_selects (args := #[]) (mvT hZ (ww 62 rfl))) (mvT hZ (ww 62 rfl)) (mvT hZ (ww 61 rfl)) (by decide) (backOf (W := 0) (rm_contains l Z av0 hw [] b467 v464 as__497 ap_497 q0_497 q1_497 kp_497 (v1.toNatClampNeg) (own_swQ (own_swD own_id (own_id v464.toNatClampNeg) (v1 - (1 : Int32))) (own_swQ own_id own_id (own_id v464.toNatClampNeg) (v1 - (1 : Int32))) ((own_swQ own_id own_id (own_id v464.toNatClampNeg) (v1 - (1 : Int32))) v465.toNatClampNeg) ((v1 - (1 : Int32)) - (1 : Int32))) (ownUpd (ownUpd (ownUpd (ownUpd (ownUpd (ownUpd (ownUpd (ownUpd (ownUpd (fun _ => (0 : Int32)) 0 v1) 1 v2) 0 (v1 - (1 : Int32))) 0 ((v1 - (1 : Int32)) - (1 : Int32))) 1 (1 : Int32)) 1 ((1 : Int32) - (1 : Int32))) 1 (1 : Int32)) 1 v2) 0 (v1 - (1 : Int32))) T535.heap n0 (Nat.le_trans Z0 K535.1) FP535_2 FP535_4 FP535_6 F540 F542 (own_v0 hv_v1 hv_v464)) hZ (ww 63 rfl) (ww 3 rfl) (by decide) (by decide)) q548a q548c (g := (mkF m 207 #[iv p0, iv p1, iv p2, iv p3, iv p4, iv p5, iv v1, iv v2, iv (1 : Int32), iv (3 : Int32), iv v464, iv v465, iv v466, rv b467, iv v509, iv (2 : Int32)] [(.int v464), (.int (0 : Int32)), (.ref b467)])) rfl (by rw [hml]; rfl) (Steps.refl _) (argsL := [(.int (0 : Int32)), (.int v464)]) (rest := []) (lenOf own_pd5 rfl) rfl (by show 2 * 0 + _ ≤ _; exact Nat.le_of_eq rfl) (hb hby at_207) (fun _ _ => ⟨rfl, e547, (by decide : 10 + 0 ≤ _), (by decide : 97 + 0 ≤ _)⟩)
      dsimp only [Pt.U, Pt.locs, Pt.cells, Pt.slots] at X548 l548 y548 z548 st548 hQ548
      subst l548 y548 z548
      obtain ⟨rfl, N548q, e548⟩ := hQ548
      have N548 := Fr.app N547 N548q
      refine ownRun (T' := T548) (f' := (mkF m 210 #[iv p0, iv p1, iv p2, iv p3, iv p4, iv p5, iv v1, iv v2, iv (1 : Int32), iv (3 : Int32), iv v464, iv v465, iv v466, rv b467, iv v509, iv (2 : Int32)] [(.int (if ((own_swQ (own_swD own_id (own_id v464.toNatClampNeg) (v1 - (1 : Int32))) (own_swQ own_id own_id (own_id v464.toNatClampNeg) (v1 - (1 : Int32))) ((own_swQ own_id own_id (own_id v464.toNatClampNeg) (v1 - (1 : Int32))) v465.toNatClampNeg) ((v1 - (1 : Int32)) - (1 : Int32))) v464.toNatClampNeg) < (v1 - (1 : Int32)) then (1 : Int32) else (0 : Int32)))])) st548 ?_
      refine ow_iload (q := 212) X548 hx (hb hby at_210) rfl rfl ?_
      refine ow_ifYes (q := 219) X548 hx (hb hby at_212) (Jvm.Free.XT.i0_ne_t (by decide)) (by decide) (by decide) ?_
      refine ow_iconst (q := 220) X548 hx (0 : Int32) (hb hby at_219) rfl rfl ?_
      refine ow_icmpNo (q := 223) X548 hx (hb hby at_220) rfl (Jvm.Free.XT.ii_ne_f (by rw [if_neg (own_f1 hv_v1 hv_v464 hv_v465)])) ?_
      refine ow_aload (q := 225) X548 hx (hb hby at_223) rfl rfl rfl ?_
      obtain ⟨cq549, kq549, q549a, q549b, q549c⟩ := isOf hZ e548 FP535_0
      obtain ⟨_, _, ⟨T549, L549, k549, n549⟩, -, X549, ⟨Lc549, hQ549, l549, y549, z549⟩, st549⟩ := X548.virtualBack hx (y := (⟨"com/example/sieveline/sieveline/model/CurrentDomains", "mark", "()I"⟩ : MethodName)) (z := (⟨"com/example/sieveline/sieveline/model/CurrentDomains", "mark", "()I"⟩ : MethodName)) hown (mvT hZ (ww 29 rfl)) (mvT hZ (ww 30 rfl)) (notFace_of_selects (args := #[]) (mvT hZ (ww 32 rfl))) (mvT hZ (ww 32 rfl)) (mvT hZ (ww 31 rfl)) (by decide) (backOf (W := 0) (rm_mark l Z av0 hw [] b467 (2 : Int32) T535.heap n0 (Nat.le_trans Z0 K535.1) FP535_5) hZ (ww 33 rfl) (ww 3 rfl) (by decide) (by decide)) q549a q549c (g := (mkF m 225 #[iv p0, iv p1, iv p2, iv p3, iv p4, iv p5, iv v1, iv v2, iv (1 : Int32), iv (3 : Int32), iv v464, iv v465, iv v466, rv b467, iv v509, iv (2 : Int32)] [(.ref b467)])) rfl (by rw [hml]; rfl) (Steps.refl _) (argsL := []) (rest := []) (lenOf own_pd3 rfl) rfl (by show 2 * 0 + _ ≤ _; exact Nat.le_of_eq rfl) (hb hby at_225) (fun _ _ => ⟨rfl, e548, (by decide : 10 + 0 ≤ _), (by decide : 97 + 0 ≤ _)⟩)
      dsimp only [Pt.U, Pt.locs, Pt.cells, Pt.slots] at X549 l549 y549 z549 st549 hQ549
      subst l549 y549 z549
      obtain ⟨rfl, N549q, e549⟩ := hQ549
      have N549 := Fr.app N548 N549q
      refine ownRun (T' := T549) (f' := (mkF m 228 #[iv p0, iv p1, iv p2, iv p3, iv p4, iv p5, iv v1, iv v2, iv (1 : Int32), iv (3 : Int32), iv v464, iv v465, iv v466, rv b467, iv v509, iv (2 : Int32)] [(.int (2 : Int32))])) st549 ?_
      refine ow_iload (q := 230) X549 hx (hb hby at_228) rfl rfl ?_
      refine ow_icmpNo (q := 233) X549 hx (hb hby at_230) rfl (Jvm.Free.XT.ii_ne_f (by decide)) ?_
      refine ow_iconst (q := 234) X549 hx (1 : Int32) (hb hby at_233) rfl rfl ?_
      refine ow_goto (q := 238) X549 hx (hb hby at_234) (by decide) (by decide) ?_
      refine ownRetN X549 hx (r := (1 : Int32)) (Or.inl rfl) Bd.returns (hb hby at_238) hlk (by decide) (by decide) (by decide) ?_
      exact ⟨rfl, N549⟩
set_option maxRecDepth 65536 in
set_option maxHeartbeats 40000000 in
theorem comes_1 {Post : Tables → Env → Array Value → State → Outcome → State → Prop} (hpost : ∀ tb e args s v u, (limb_1_1.after args s (.returned v) u = true ∧ limb_1_2.after args s (.returned v) u = true ∧ True) → FrameEnd s (.returned v) u (Jvm.fieldLocs frame_1_writes args s ++ Jvm.arrayLocs frame_1_arrays args s ++ Jvm.staticLocs frame_1_statics s) 32 256 → Post tb e args s (.returned v) u) :
    ArmFor flags0 classFile x code maxLocals ret World_1 tables_1 room_1 Calls_1 rest_1 Pre_1 Post := by
  intro l hfl _ _ p e ha hc hk s m args below hf hA hF happ hP
  obtain ⟨hcalls, hrest, hpre⟩ := hP
  obtain ⟨-, -, -, hnamed, -, -, -, hat⟩ := (Spec.applies_iff hf).mp happ
  obtain ⟨hg, hn⟩ := and_e (Cond.before_iff.mp (show (Jvm.Cond.and given_1 narrow_1).before args s = true from hpre))
  obtain ⟨gg1, gg2⟩ := and_e hg
  obtain ⟨gg3, gg4⟩ := and_e gg2
  obtain ⟨gg5, gg6⟩ := and_e gg4
  obtain ⟨gg7, gg8⟩ := and_e gg6
  obtain ⟨gg9, gg10⟩ := and_e gg8
  obtain ⟨gg11, gg12⟩ := and_e gg10
  obtain ⟨w0, w1, w2, w3, w4, w5, rfl⟩ : ∃ w0 w1 w2 w3 w4 w5 : Value, args = #[w0, w1, w2, w3, w4, w5] := by
    have hs : args.size = 6 := by simpa [Cond.value, given_1] using gg1
    obtain ⟨L⟩ := args
    match L, hs with
    | [w0, w1, w2, w3, w4, w5], _ => exact ⟨w0, w1, w2, w3, w4, w5, rfl⟩
  have hw := fun d (hd : d ∈ tables_1) => atoms_spec (ws := Jvm.Cond.code x code maxLocals ret :: tables_1) hat d (List.mem_cons_of_mem _ hd)
  have hfit : Fit s := fun {y c} hc i hi => by
    obtain ⟨ha, rfl⟩ := Array.getElem?_eq_some_iff.mp hc
    have q := List.all_eq_true.mp ((Array.all_eq_true_iff_forall_mem.mp hF) _ (Array.getElem_mem ha)) i (List.mem_range.mpr hi)
    simpa [Array.getElem?_eq_getElem hi] using q
  obtain ⟨i0, ei0⟩ := is_v gg3
  obtain rfl : w0 = (.int i0) := Option.some.inj ei0
  obtain ⟨i1, ei1⟩ := is_v gg5
  obtain rfl : w1 = (.int i1) := Option.some.inj ei1
  obtain ⟨i2, ei2⟩ := is_v gg7
  obtain rfl : w2 = (.int i2) := Option.some.inj ei2
  obtain ⟨i3, ei3⟩ := is_v gg9
  obtain rfl : w3 = (.int i3) := Option.some.inj ei3
  obtain ⟨i4, ei4⟩ := is_v gg11
  obtain rfl : w4 = (.int i4) := Option.some.inj ei4
  obtain ⟨i5, ei5⟩ := is_v gg12
  obtain rfl : w5 = (.int i5) := Option.some.inj ei5
  obtain ⟨n, o, h1, h2, h3, _, L, rfl, ⟨rfl, N⟩, hq⟩ := rm_law l s _ hw tables_1 i0 i1 i2 i3 i4 i5  s.heap s.heap.size (Nat.le_refl _)  p e ha hc hk s m _ below hf ((Spec.applies_iff_loose hf).mp happ).1 ⟨rfl, State.Warmed39.refl s, rfl⟩ trivial
  refine ⟨n, _, h1, h2, h3, hpost _ _ _ _ _ _ ⟨Cond.after_iff.mpr rfl, Cond.after_iff.mpr (eq_i res_at (Term.int_eval (1)) rfl), trivial⟩ ⟨hq.1, hq.2.1, (hq.2.2.sift fun y hy => Or.inr (N y hy)).mono (by decide) (by decide)⟩⟩
theorem main_1_1 : Claimed_1_1 := comes_1 fun _ _ _ _ _ _ h hF => ⟨h.1, hF⟩
theorem main_1_2 : Claimed_1_2 := comes_1 fun _ _ _ _ _ _ h hF => ⟨h.2.1, hF⟩
end Jvm.Pilot.@@N@@
namespace Jvm.Pilot.@@N@@
open Jvm Jvm.ClassFile Sem Op Lib Jvm.Free Jvm.Stand Jvm.Pilot.@@N@@.Jvm.D
/-! MADE BY PROGRAM (witnessworld.py) out of the Statement's table words and the real class files: 9 classes; the members and pool entries that the words name. The judged class is class 1, her method 1. -/
namespace start1
open Jvm.ClassFile
def u (s : String) : CpInfo := .utf8 (stringToUtf16 s)
/-- a pool by its gaps: so many unusable entries, then the entry; so many at the end -/
def gap : Nat → List CpInfo → List CpInfo
  | 0, r => r
  | n + 1, r => .unusable :: gap n r
def poolList (es : List (Nat × CpInfo)) (last : Nat) : List CpInfo := es.foldr (fun e r => gap e.1 (e.2 :: r)) (gap last [])
def pool (es : List (Nat × CpInfo)) (last : Nat) : Array CpInfo := ⟨poolList es last⟩
def fileOf (pool : Array CpInfo) (this : Nat) (attrs : Array Attribute := #[]) (ms : Array MethodInfo := #[]) (fl : Nat := 33) (sup : Nat := 0) (ifs : Array Nat := #[]) (fds : Array FieldInfo := #[]) : ClassFile where
  minorVersion := 0
  majorVersion := 65
  constantPool := pool
  accessFlags := fl
  thisClass := this
  superClass := sup
  interfaces := ifs
  fields := fds
  methods := ms
  attributes := attrs
def plain (name : String) (sup : Option ClassId) : Class where
  name := name
  kind := .ordinary
  loader := none
  accessFlags := 33
  super := sup
  interfaces := #[]
  cf := none
  fields := #[]
  methods := #[]
  instanceTypes := #[]
  staticTypes := #[]
  resolved := #[]
  callSites := []
  init := .initialized
  statics := none
  mirror := none

def pool0 : Array CpInfo := pool [(5, u "<init>"), (0, u "()V"), (1, .class_ 10), (1, u "java/lang/Object"), (85, u "clone"), (0, u "()Ljava/lang/Object;")] 26

def k0c0 : Code := { maxStack := 0, maxLocals := 1, code := object_method_1_code, exceptionTable := #[], attributes := #[] }
def k0m0 : Method := { name := "<init>", desc := "()V", sig := { parameters := [], returnType := none }, accessFlags := 1, code := some k0c0 }
def k0m1 : Method := { name := "clone", desc := "()Ljava/lang/Object;", sig := { parameters := [], returnType := some (.object "java/lang/Object") }, accessFlags := 260, code := none }
/-- java/lang/Object -/
def k0 : Class := { plain "java/lang/Object" none with
  accessFlags := 33
  interfaces := #[]
  cf := some (fileOf pool0 8 #[] #[{ accessFlags := 1, nameIndex := 5, descriptorIndex := 6, attributes := #[] }, { accessFlags := 260, nameIndex := 96, descriptorIndex := 97, attributes := #[] }] 33 0 #[] #[])
  fields := #[]
  methods := #[k0m0, k0m1]
  instanceTypes := #[]
  staticTypes := #[]
  resolved := Array.replicate 124 none
  statics := none }

def pool1 : Array CpInfo := pool [(2, .class_ 4), (1, u "java/lang/Object"), (0, u "<init>"), (0, u "()V"), (0, .integer 2147483647), (0, .class_ 9), (0, u "com/example/sieveline/sieveline/model/CurrentDomains"), (0, .methodref 8 11), (0, .nameAndType 5 12), (0, u "([I)V"), (0, .methodref 8 14), (0, .nameAndType 15 16), (0, u "remove"), (0, u "(II)V"), (0, .methodref 8 18), (0, .nameAndType 19 20), (0, u "mark"), (0, u "()I"), (0, .methodref 8 22), (0, .nameAndType 23 16), (0, u "reduceTo"), (0, .methodref 8 25), (0, .nameAndType 26 27), (0, u "undo"), (0, u "(I)V"), (0, .methodref 8 29), (0, .nameAndType 30 31), (0, u "size"), (0, u "(I)I"), (0, .methodref 8 33), (0, .nameAndType 34 35), (0, u "contains"), (0, u "(II)Z"), (0, .class_ 37), (0, u "com/example/sieveline/sieveline/model/CurrentDomainsUndoPinLaw"), (2, u "law"), (0, u "(IIIIII)Z")] 3

def k1m0 : Method := { name := "<init>", desc := "()V", sig := { parameters := [], returnType := none }, accessFlags := 1, code := none }
def k1c1 : Code := { maxStack := 6, maxLocals := 16, code := code, exceptionTable := #[], attributes := #[] }
def k1m1 : Method := { name := "law", desc := "(IIIIII)Z", sig := { parameters := [.int, .int, .int, .int, .int, .int], returnType := some .boolean }, accessFlags := 9, code := some k1c1 }
/-- com/example/sieveline/sieveline/model/CurrentDomainsUndoPinLaw -/
def k1 : Class := { plain "com/example/sieveline/sieveline/model/CurrentDomainsUndoPinLaw" (some 0) with
  accessFlags := 49
  interfaces := #[]
  cf := some (fileOf pool1 36 #[] #[{ accessFlags := 1, nameIndex := 5, descriptorIndex := 6, attributes := #[] }, { accessFlags := 9, nameIndex := 40, descriptorIndex := 41, attributes := #[] }] 49 2 #[] #[])
  fields := #[]
  methods := #[k1m0, k1m1]
  instanceTypes := #[]
  staticTypes := #[]
  resolved := Array.replicate 45 none
  statics := none }

def pool2 : Array CpInfo := pool [(1, .methodref 2 3), (0, .class_ 4), (0, .nameAndType 5 6), (0, u "java/lang/Object"), (0, u "<init>"), (0, u "()V"), (0, .fieldref 8 9), (0, .class_ 10), (0, .nameAndType 11 12), (0, u "com/example/sieveline/sieveline/model/CurrentDomains"), (0, u "trail"), (0, u "[I"), (0, .methodref 14 15), (0, .class_ 12), (0, .nameAndType 16 17), (0, u "clone"), (0, u "()Ljava/lang/Object;"), (0, .fieldref 8 19), (0, .nameAndType 20 12), (0, u "size"), (0, .fieldref 8 22), (0, .nameAndType 23 24), (0, u "dense"), (0, u "[[I"), (0, .fieldref 8 26), (0, .nameAndType 27 24), (0, u "position"), (0, .methodref 8 29), (0, .nameAndType 30 31), (0, u "record"), (0, u "(I)V"), (0, .methodref 8 33), (0, .nameAndType 34 35), (0, u "swap"), (0, u "(III)V"), (0, .fieldref 8 37), (0, .nameAndType 38 39), (0, u "top"), (0, u "I"), (6, u "([I)V"), (3, u "(I)I"), (4, u "contains"), (0, u "(II)Z"), (0, u "remove"), (0, u "(II)V"), (0, u "reduceTo"), (0, u "mark"), (0, u "()I"), (0, u "undo")] 2

def k2c0 : Code := { maxStack := 4, maxLocals := 4, code := prog_10_method_1_code, exceptionTable := #[], attributes := #[] }
def k2m0 : Method := { name := "<init>", desc := "([I)V", sig := { parameters := [(.array .int)], returnType := none }, accessFlags := 129, code := some k2c0 }
def k2c1 : Code := { maxStack := 2, maxLocals := 2, code := prog_10_method_2_code, exceptionTable := #[], attributes := #[] }
def k2m1 : Method := { name := "size", desc := "(I)I", sig := { parameters := [.int], returnType := some .int }, accessFlags := 1, code := some k2c1 }
def k2c2 : Code := { maxStack := 3, maxLocals := 3, code := prog_10_method_5_code, exceptionTable := #[], attributes := #[] }
def k2m2 : Method := { name := "contains", desc := "(II)Z", sig := { parameters := [.int, .int], returnType := some .boolean }, accessFlags := 1, code := some k2c2 }
def k2c3 : Code := { maxStack := 4, maxLocals := 4, code := prog_10_method_6_code, exceptionTable := #[], attributes := #[] }
def k2m3 : Method := { name := "remove", desc := "(II)V", sig := { parameters := [.int, .int], returnType := none }, accessFlags := 1, code := some k2c3 }
def k2c4 : Code := { maxStack := 4, maxLocals := 3, code := prog_10_method_7_code, exceptionTable := #[], attributes := #[] }
def k2m4 : Method := { name := "reduceTo", desc := "(II)V", sig := { parameters := [.int, .int], returnType := none }, accessFlags := 1, code := some k2c4 }
def k2c5 : Code := { maxStack := 1, maxLocals := 1, code := prog_10_method_8_code, exceptionTable := #[], attributes := #[] }
def k2m5 : Method := { name := "mark", desc := "()I", sig := { parameters := [], returnType := some .int }, accessFlags := 1, code := some k2c5 }
def k2c6 : Code := { maxStack := 5, maxLocals := 2, code := prog_10_method_9_code, exceptionTable := #[], attributes := #[] }
def k2m6 : Method := { name := "undo", desc := "(I)V", sig := { parameters := [.int], returnType := none }, accessFlags := 1, code := some k2c6 }
def k2c7 : Code := { maxStack := 5, maxLocals := 2, code := prog_10_method_10_code, exceptionTable := #[], attributes := #[] }
def k2m7 : Method := { name := "record", desc := "(I)V", sig := { parameters := [.int], returnType := none }, accessFlags := 2, code := some k2c7 }
def k2c8 : Code := { maxStack := 3, maxLocals := 7, code := prog_10_method_11_code, exceptionTable := #[], attributes := #[] }
def k2m8 : Method := { name := "swap", desc := "(III)V", sig := { parameters := [.int, .int, .int], returnType := none }, accessFlags := 2, code := some k2c8 }
/-- com/example/sieveline/sieveline/model/CurrentDomains -/
def k2 : Class := { plain "com/example/sieveline/sieveline/model/CurrentDomains" (some 0) with
  accessFlags := 49
  interfaces := #[]
  cf := some (fileOf pool2 8 #[] #[{ accessFlags := 129, nameIndex := 5, descriptorIndex := 46, attributes := #[] }, { accessFlags := 1, nameIndex := 20, descriptorIndex := 50, attributes := #[] }, { accessFlags := 1, nameIndex := 55, descriptorIndex := 56, attributes := #[] }, { accessFlags := 1, nameIndex := 57, descriptorIndex := 58, attributes := #[] }, { accessFlags := 1, nameIndex := 59, descriptorIndex := 58, attributes := #[] }, { accessFlags := 1, nameIndex := 60, descriptorIndex := 61, attributes := #[] }, { accessFlags := 1, nameIndex := 62, descriptorIndex := 31, attributes := #[] }, { accessFlags := 2, nameIndex := 30, descriptorIndex := 31, attributes := #[] }, { accessFlags := 2, nameIndex := 34, descriptorIndex := 35, attributes := #[] }] 49 2 #[] #[{ accessFlags := 18, nameIndex := 23, descriptorIndex := 24, attributes := #[] }, { accessFlags := 18, nameIndex := 27, descriptorIndex := 24, attributes := #[] }, { accessFlags := 18, nameIndex := 20, descriptorIndex := 12, attributes := #[] }, { accessFlags := 2, nameIndex := 11, descriptorIndex := 12, attributes := #[] }, { accessFlags := 2, nameIndex := 38, descriptorIndex := 39, attributes := #[] }])
  fields := #[{ name := "dense", type := (.array (.array .int)), accessFlags := 18, slot := 0, constantValue := 0 }, { name := "position", type := (.array (.array .int)), accessFlags := 18, slot := 1, constantValue := 0 }, { name := "size", type := (.array .int), accessFlags := 18, slot := 2, constantValue := 0 }, { name := "trail", type := (.array .int), accessFlags := 2, slot := 3, constantValue := 0 }, { name := "top", type := .int, accessFlags := 2, slot := 4, constantValue := 0 }]
  methods := #[k2m0, k2m1, k2m2, k2m3, k2m4, k2m5, k2m6, k2m7, k2m8]
  instanceTypes := #[(.array (.array .int)), (.array (.array .int)), (.array .int), (.array .int), .int]
  staticTypes := #[]
  resolved := Array.replicate 65 none
  statics := none }

def pool3 : Array CpInfo := pool [(1, .class_ 2), (0, u "java/lang/Cloneable"), (0, .class_ 4), (0, u "java/lang/Object")] 2

/-- java/lang/Cloneable -/
def k3 : Class := { plain "java/lang/Cloneable" (some 0) with
  accessFlags := 1537
  interfaces := #[]
  cf := some (fileOf pool3 1 #[] #[] 1537 3 #[] #[])
  fields := #[]
  methods := #[]
  instanceTypes := #[]
  staticTypes := #[]
  resolved := Array.replicate 7 none
  statics := none }

def pool4 : Array CpInfo := pool [(1, u "java/io/Serializable"), (0, .class_ 1), (0, u "java/lang/Object"), (0, .class_ 3)] 3

/-- java/io/Serializable -/
def k4 : Class := { plain "java/io/Serializable" (some 0) with
  accessFlags := 1537
  interfaces := #[]
  cf := some (fileOf pool4 2 #[] #[] 1537 4 #[] #[])
  fields := #[]
  methods := #[]
  instanceTypes := #[]
  staticTypes := #[]
  resolved := Array.replicate 8 none
  statics := none }

/-- the primitive byte -/
def k5 : Class := { plain "byte" none with kind := .primitive 'B', accessFlags := 0x411 }
/-- [B -/
def k6 : Class := { plain "[B" (some 0) with kind := .array 5 .byte, interfaces := #[3, 4], accessFlags := 1041 }

/-- the primitive int -/
def k7 : Class := { plain "int" none with kind := .primitive 'I', accessFlags := 0x411 }
/-- [I -/
def k8 : Class := { plain "[I" (some 0) with kind := .array 7 .int, interfaces := #[3, 4], accessFlags := 1041 }

def heap : Heap := #[]
/-- The class of the arrays of int arrays. -/
def k9 : Class := { plain "[[I" (some 0) with kind := .array 8 (.array .int), interfaces := #[3, 4], accessFlags := 1041 }

/-- The classes. -/
def classes : Array Class := #[k0, k1, k2, k3, k4, k5, k6, k7, k8, k9]
def interned : List (Array UInt16 × Addr) := []
def slotsUsed : Nat := 0
def theMethod : MethodId := ⟨1, 1⟩
def args0 : Array Value := #[.int 5, .int 5, .int 5, .int 5, .int 5, .int 5]
def aboutOver (below : List Frame) : State where
  vm := { classes := classes, interned := interned.toArray }
  heap := heap
  slotsUsed := slotsUsed
  threads := #[{ frames := .invoking theMethod args0 :: below }]
def below0 : List Frame := [.native { method := ⟨0, 0⟩, args := #[] }]
def about1 : State := aboutOver below0
def p0 : Program := .bare "" "" ""
def e0 : Env := launch0.env 0 0 0
theorem w_frames : about1.frames = Frame.invoking theMethod args0 :: below0 := rfl
set_option maxRecDepth 65536 in
theorem w_args : argsFit about1.vm theMethod args0 = true := by decide +kernel
set_option maxRecDepth 65536 in
theorem w_heap : heapFits about1 = true := by decide +kernel
set_option maxRecDepth 65536 in
theorem w_runnable : about1.curStatus? = some .runnable := by decide +kernel
set_option maxRecDepth 65536 in
theorem w_alone : about1.alone = true := by decide +kernel
set_option maxRecDepth 65536 in
theorem w_named : about1.methodNamed? x = some theMethod := by decide +kernel
set_option maxRecDepth 65536 in
theorem w_hears : about1.hears theMethod below0 = true := by decide +kernel
set_option maxRecDepth 65536 in
theorem w_ripe : about1.ripe theMethod args0 below0 = true := by decide +kernel
theorem w_running : about1.status = .running := rfl
set_option maxRecDepth 65536 in
theorem w_room : about1.hasRoom e0.platform room_1 = true :=
  launch0.hasRoom_least _ room_1 (by decide +kernel) (by decide +kernel) (by decide +kernel) (by decide +kernel) (by decide +kernel) (by decide +kernel)
theorem allAtoms_all (ts : List Jvm.Cond) (a : Array Jvm.Value) (st : Jvm.State) : (allAtoms ts).before a st = ts.all (fun c => c.before a st) := by
  induction ts with
  | nil => rfl
  | cons c t ih =>
    show (Jvm.Cond.and c (allAtoms t)).before a st = _
    rw [Jvm.Cond.before_and, ih, List.all_cons]
def words1 : List Jvm.Cond := Jvm.Cond.code x code maxLocals ret :: tables_1
/-- a 'code' word, met by the world's own term for the bytes: nothing is compared byte by byte -/
theorem code_word {y : MethodName} {bytes : ByteArray} {mx : Nat} {rt : Option FieldType} {a : Array Value} {s : State} {m : MethodId} {meth : Method} {c : Code} (h1 : s.methodNamed? y = some m) (h2 : s.vm.method? m = some meth) (h3 : meth.code = some c) (h4 : c.code = bytes)
    (h5 : (c.maxLocals == mx && c.exceptionTable.isEmpty && decide (c.maxStack ≤ mostOperands) && decide (meth.sig.returnType = rt) && !meth.locks && decide (parseMethodDescriptor y.desc = some meth.sig)) = true) : (Jvm.Cond.code y bytes mx rt).before a s = true := by
  simp only [Bool.and_eq_true, beq_iff_eq, Bool.not_eq_true', decide_eq_true_eq] at h5
  obtain ⟨⟨⟨⟨⟨g1, g2⟩, g3⟩, g4⟩, g5⟩, g6⟩ := h5
  simp [Cond.before, Cond.holds, Cond.value, h1, h2, h3, h4, g1, g2, g3, g4, g5, g6]
def isCode : Jvm.Cond → Bool
  | .code _ _ _ _ => true
  | _ => false
theorem all_split {L : List Jvm.Cond} {P : Jvm.Cond → Bool} (h1 : L.all (fun c => isCode c || P c) = true) (h2 : ∀ c ∈ L.filter isCode, P c = true) : L.all P = true := by
  refine List.all_eq_true.mpr fun c hc => ?_
  have h := List.all_eq_true.mp h1 c hc
  rcases Bool.eq_false_or_eq_true (isCode c) with hi | hi
  · exact h2 c (List.mem_filter.mpr ⟨hc, hi⟩)
  · simpa [hi] using h
set_option maxRecDepth 65536 in
theorem w_c0 : (Jvm.Cond.code x code maxLocals ret).before args0 about1 = true := code_word (m := ⟨1, 1⟩) (meth := k1m1) (c := k1c1) (by decide +kernel) rfl rfl rfl (by decide +kernel)
set_option maxRecDepth 65536 in
theorem w_c1 : (Jvm.Cond.code ({ cls := "com/example/sieveline/sieveline/model/CurrentDomains", name := "<init>", desc := "([I)V" } : Jvm.MethodName) prog_10_method_1_code (4 : Nat) (Option.none : Option Jvm.ClassFile.FieldType)).before args0 about1 = true := code_word (m := ⟨2, 0⟩) (meth := k2m0) (c := k2c0) (by decide +kernel) rfl rfl rfl (by decide +kernel)
set_option maxRecDepth 65536 in
theorem w_c2 : (Jvm.Cond.code ({ cls := "java/lang/Object", name := "<init>", desc := "()V" } : Jvm.MethodName) object_method_1_code (1 : Nat) (Option.none : Option Jvm.ClassFile.FieldType)).before args0 about1 = true := code_word (m := ⟨0, 0⟩) (meth := k0m0) (c := k0c0) (by decide +kernel) rfl rfl rfl (by decide +kernel)
set_option maxRecDepth 65536 in
theorem w_c3 : (Jvm.Cond.code ({ cls := "com/example/sieveline/sieveline/model/CurrentDomains", name := "mark", desc := "()I" } : Jvm.MethodName) prog_10_method_8_code (1 : Nat) (Option.some Jvm.ClassFile.FieldType.int)).before args0 about1 = true := code_word (m := ⟨2, 5⟩) (meth := k2m5) (c := k2c5) (by decide +kernel) rfl rfl rfl (by decide +kernel)
set_option maxRecDepth 65536 in
theorem w_c4 : (Jvm.Cond.code ({ cls := "com/example/sieveline/sieveline/model/CurrentDomains", name := "remove", desc := "(II)V" } : Jvm.MethodName) prog_10_method_6_code (4 : Nat) (Option.none : Option Jvm.ClassFile.FieldType)).before args0 about1 = true := code_word (m := ⟨2, 3⟩) (meth := k2m3) (c := k2c3) (by decide +kernel) rfl rfl rfl (by decide +kernel)
set_option maxRecDepth 65536 in
theorem w_c5 : (Jvm.Cond.code ({ cls := "com/example/sieveline/sieveline/model/CurrentDomains", name := "record", desc := "(I)V" } : Jvm.MethodName) prog_10_method_10_code (2 : Nat) (Option.none : Option Jvm.ClassFile.FieldType)).before args0 about1 = true := code_word (m := ⟨2, 7⟩) (meth := k2m7) (c := k2c7) (by decide +kernel) rfl rfl rfl (by decide +kernel)
set_option maxRecDepth 65536 in
theorem w_c6 : (Jvm.Cond.code ({ cls := "com/example/sieveline/sieveline/model/CurrentDomains", name := "swap", desc := "(III)V" } : Jvm.MethodName) prog_10_method_11_code (7 : Nat) (Option.none : Option Jvm.ClassFile.FieldType)).before args0 about1 = true := code_word (m := ⟨2, 8⟩) (meth := k2m8) (c := k2c8) (by decide +kernel) rfl rfl rfl (by decide +kernel)
set_option maxRecDepth 65536 in
theorem w_c7 : (Jvm.Cond.code ({ cls := "com/example/sieveline/sieveline/model/CurrentDomains", name := "undo", desc := "(I)V" } : Jvm.MethodName) prog_10_method_9_code (2 : Nat) (Option.none : Option Jvm.ClassFile.FieldType)).before args0 about1 = true := code_word (m := ⟨2, 6⟩) (meth := k2m6) (c := k2c6) (by decide +kernel) rfl rfl rfl (by decide +kernel)
set_option maxRecDepth 65536 in
theorem w_c8 : (Jvm.Cond.code ({ cls := "com/example/sieveline/sieveline/model/CurrentDomains", name := "size", desc := "(I)I" } : Jvm.MethodName) prog_10_method_2_code (2 : Nat) (Option.some Jvm.ClassFile.FieldType.int)).before args0 about1 = true := code_word (m := ⟨2, 1⟩) (meth := k2m1) (c := k2c1) (by decide +kernel) rfl rfl rfl (by decide +kernel)
set_option maxRecDepth 65536 in
theorem w_c9 : (Jvm.Cond.code ({ cls := "com/example/sieveline/sieveline/model/CurrentDomains", name := "contains", desc := "(II)Z" } : Jvm.MethodName) prog_10_method_5_code (3 : Nat) (Option.some Jvm.ClassFile.FieldType.boolean)).before args0 about1 = true := code_word (m := ⟨2, 2⟩) (meth := k2m2) (c := k2c2) (by decide +kernel) rfl rfl rfl (by decide +kernel)
set_option maxRecDepth 65536 in
theorem w_c10 : (Jvm.Cond.code ({ cls := "com/example/sieveline/sieveline/model/CurrentDomains", name := "reduceTo", desc := "(II)V" } : Jvm.MethodName) prog_10_method_7_code (3 : Nat) (Option.none : Option Jvm.ClassFile.FieldType)).before args0 about1 = true := code_word (m := ⟨2, 4⟩) (meth := k2m4) (c := k2c4) (by decide +kernel) rfl rfl rfl (by decide +kernel)
def codes1 : List Jvm.Cond := [Jvm.Cond.code x code maxLocals ret, Jvm.Cond.code ({ cls := "com/example/sieveline/sieveline/model/CurrentDomains", name := "<init>", desc := "([I)V" } : Jvm.MethodName) prog_10_method_1_code (4 : Nat) (Option.none : Option Jvm.ClassFile.FieldType), Jvm.Cond.code ({ cls := "java/lang/Object", name := "<init>", desc := "()V" } : Jvm.MethodName) object_method_1_code (1 : Nat) (Option.none : Option Jvm.ClassFile.FieldType), Jvm.Cond.code ({ cls := "com/example/sieveline/sieveline/model/CurrentDomains", name := "mark", desc := "()I" } : Jvm.MethodName) prog_10_method_8_code (1 : Nat) (Option.some Jvm.ClassFile.FieldType.int), Jvm.Cond.code ({ cls := "com/example/sieveline/sieveline/model/CurrentDomains", name := "remove", desc := "(II)V" } : Jvm.MethodName) prog_10_method_6_code (4 : Nat) (Option.none : Option Jvm.ClassFile.FieldType), Jvm.Cond.code ({ cls := "com/example/sieveline/sieveline/model/CurrentDomains", name := "record", desc := "(I)V" } : Jvm.MethodName) prog_10_method_10_code (2 : Nat) (Option.none : Option Jvm.ClassFile.FieldType), Jvm.Cond.code ({ cls := "com/example/sieveline/sieveline/model/CurrentDomains", name := "swap", desc := "(III)V" } : Jvm.MethodName) prog_10_method_11_code (7 : Nat) (Option.none : Option Jvm.ClassFile.FieldType), Jvm.Cond.code ({ cls := "com/example/sieveline/sieveline/model/CurrentDomains", name := "undo", desc := "(I)V" } : Jvm.MethodName) prog_10_method_9_code (2 : Nat) (Option.none : Option Jvm.ClassFile.FieldType), Jvm.Cond.code ({ cls := "com/example/sieveline/sieveline/model/CurrentDomains", name := "size", desc := "(I)I" } : Jvm.MethodName) prog_10_method_2_code (2 : Nat) (Option.some Jvm.ClassFile.FieldType.int), Jvm.Cond.code ({ cls := "com/example/sieveline/sieveline/model/CurrentDomains", name := "contains", desc := "(II)Z" } : Jvm.MethodName) prog_10_method_5_code (3 : Nat) (Option.some Jvm.ClassFile.FieldType.boolean), Jvm.Cond.code ({ cls := "com/example/sieveline/sieveline/model/CurrentDomains", name := "reduceTo", desc := "(II)V" } : Jvm.MethodName) prog_10_method_7_code (3 : Nat) (Option.none : Option Jvm.ClassFile.FieldType)]
set_option maxRecDepth 65536 in
theorem codes_eq : words1.filter isCode = codes1 := rfl
theorem w_codes : ∀ c ∈ words1.filter isCode, c.before args0 about1 = true := by
  rw [codes_eq]
  intro c hc
  simp only [codes1, List.mem_cons, List.not_mem_nil, or_false] at hc
  rcases hc with rfl | rfl | rfl | rfl | rfl | rfl | rfl | rfl | rfl | rfl | rfl
  · exact w_c0
  · exact w_c1
  · exact w_c2
  · exact w_c3
  · exact w_c4
  · exact w_c5
  · exact w_c6
  · exact w_c7
  · exact w_c8
  · exact w_c9
  · exact w_c10
set_option maxRecDepth 65536 in
theorem w_t1 : (words1.take 24).all (fun c => isCode c || c.before args0 about1) = true := by decide +kernel
set_option maxRecDepth 65536 in
theorem w_t2 : ((words1.drop 24).take 24).all (fun c => isCode c || c.before args0 about1) = true := by decide +kernel
set_option maxRecDepth 65536 in
theorem w_t3 : ((words1.drop 24).drop 24).all (fun c => isCode c || c.before args0 about1) = true := by decide +kernel
theorem w_tables : (allAtoms (Jvm.Cond.code x code maxLocals ret :: tables_1)).before args0 about1 = true := by
  rw [allAtoms_all]
  show words1.all (fun c => c.before args0 about1) = true
  refine all_split ?_ w_codes
  rw [← List.take_append_drop 24 words1, List.all_append, w_t1, ← List.take_append_drop 24 (words1.drop 24), List.all_append, w_t2, w_t3]
  rfl
set_option maxRecDepth 65536 in
theorem w_case : (Jvm.Cond.and given_1 narrow_1).before args0 about1 = true := by decide +kernel
theorem w_applies : (headSpec (Jvm.Cond.code x code maxLocals ret :: tables_1) room_1).applies x e0.platform about1 = true :=
  (Spec.applies_iff w_frames).mpr ⟨w_running, w_runnable, w_alone, w_named, w_hears, w_ripe, w_room, w_tables⟩
theorem atStart : AtStart classFile x code maxLocals ret World_1 tables_1 room_1 Calls_1 rest_1 Pre_1 launch0 p0 e0 about1 theMethod args0 below0 :=
  ⟨lists_1, trivial, launch0.admits_env _ _ _, launch0.least_env, fairChoices_fair.cas, fairChoices_fair.clock, w_frames, w_args, w_heap, w_applies, trivial, trivial, w_case⟩
end start1
theorem witness_1 : WitnessClaimed_1 := ⟨start1.p0, start1.e0, start1.about1, start1.theMethod, start1.args0, start1.below0, start1.atStart⟩
end Jvm.Pilot.@@N@@
