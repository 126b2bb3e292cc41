import JvmDerived
import JvmDerived.Pilot.@@N@@Statement
import JvmDerived.Pilot.@@N@@Code
set_option linter.unusedVariables false
set_option linter.unusedSimpArgs false
@@BLOCK:NumsL.lean.txt@@
namespace Jvm.Pilot.@@N@@
open Jvm Jvm.ClassFile Sem Op Lib Jvm.Free Jvm.Stand Jvm.LawKit Jvm.RoadKit Bundle Jvm.Pilot.@@N@@.Jvm.D
/-! own layer: the walk in continuation form -/
section OwnWalk
variable {p : Program} {l : Launch} {e : Env} {R : Room} {s : State} {m : MethodId} {args : Array Value} {below : List Frame} {meth : Method} {c : Code} {T T' : State} {locs : List Loc} {cells slots : Nat} {Q : Option Value → Heap → List Loc → Prop} {ck sk : Nat} {f f' : JFrame} {Z : State} {a0 : Array Value} {h h' : Heap}
/-- from this state and frame the invocation returns, and what it leaves is told by Q -/
def ownEnds (p : Program) (e : Env) (below : List Frame) (s : State) (Q : Option Value → Heap → List Loc → Prop) (ck sk : Nat) (T : State) (f : JFrame) : Prop :=
  ∃ s₂ o, Steps p.tables e below (T.setTop f) s₂ ∧ s₂.status = .running ∧ Ended s₂ below o ∧ ∃ v L, o = .returned v ∧ Q v s₂.heap L ∧ FrameEnd s o s₂ L ck sk
theorem ownGo (st : ∀ target, Steps p.tables e below (T'.setTop f') target → Steps p.tables e below (T.setTop f) target) (k : ownEnds p e below s Q ck sk T' f') : ownEnds p e below s Q ck sk T f := by
  obtain ⟨a, b, h1, h2⟩ := k
  exact ⟨a, b, st _ h1, h2⟩
theorem ownRun (st : Steps p.tables e below (T.setTop f) (T'.setTop f')) (k : ownEnds p e below s Q ck sk T' f') : ownEnds p e below s Q ck sk T f :=
  ownGo (fun _ q => st.trans q) k
theorem ownCast (q : f = f') (k : ownEnds p e below s Q ck sk T f') : ownEnds p e below s Q ck sk T f := q ▸ k
theorem ownRetI (X : Stand p l e R s m args below meth c T locs cells slots) (hx : p.tables.exec = Jvm.exec) {pc : Nat} {Ls : Array Slot} {z : Int32} {rest : List Value} (hret : meth.sig.returnType = some .int) (hd : decode c.code pc = .ok (.ireturn, 1)) (hk : meth.locks = false) (hc : cells ≤ ck) (hs : slots ≤ sk)
    (hQ : Q (some (.int z)) T.heap locs) : ownEnds p e below s Q ck sk T (mkF m pc Ls (.int z :: rest)) := by
  obtain ⟨fs, hr, hrun, hended, hW, hsame⟩ := X.leave (v := some (.int z)) (fun h => by rw [hret] at h; cases h) hk
  exact ⟨_, _, retOut X hx hret rfl (Or.inl ⟨rfl, Or.inl rfl, _, rfl⟩) hd hr, hrun, hended, _, _, rfl, hQ, ⟨_, rfl⟩, hW, hsame.mono hc hs⟩
theorem ownRetN (X : Stand p l e R s m args below meth c T locs cells slots) (hx : p.tables.exec = Jvm.exec) {pc : Nat} {Ls : Array Slot} {z r : Int32} {rest : List Value} {t : FieldType} (ht : t = .boolean ∨ t = .byte ∨ t = .char ∨ t = .short) (hret : meth.sig.returnType = some t) (hd : decode c.code pc = .ok (.ireturn, 1)) (hk : meth.locks = false) (hc : cells ≤ ck) (hs : slots ≤ sk)
    (hz : nar t z = r) (hQ : Q (some (.int r)) T.heap locs) : ownEnds p e below s Q ck sk T (mkF m pc Ls (.int z :: rest)) := by
  subst hz
  obtain ⟨fs, hr, hrun, hended, hW, hsame⟩ := X.leave (v := some (.int (nar t z))) (fun h => by rw [hret] at h; cases h) hk
  exact ⟨_, _, retN X hx hret ht hd hr, hrun, hended, _, _, rfl, hQ, ⟨_, rfl⟩, hW, hsame.mono hc hs⟩
theorem ownRetR (X : Stand p l e R s m args below meth c T locs cells slots) (hx : p.tables.exec = Jvm.exec) {pc : Nat} {Ls : Array Slot} {w : Value} {rest : List Value} {t : FieldType} (ht : t.isReference = true) (hn : narrow t w = w) (hw : w.isRef = true) (hret : meth.sig.returnType = some t) (hd : decode c.code pc = .ok (.areturn, 1)) (hk : meth.locks = false) (hc : cells ≤ ck) (hs : slots ≤ sk)
    (hQ : Q (some w) T.heap locs) : ownEnds p e below s Q ck sk T (mkF m pc Ls (w :: rest)) := by
  obtain ⟨fs, hr, hrun, hended, hW, hsame⟩ := X.leave (v := some w) (fun h => by rw [hret] at h; cases h) hk
  exact ⟨_, _, retOut X hx hret hn (Or.inr (Or.inr (Or.inr (Or.inr ⟨rfl, ht, hw⟩)))) hd hr, hrun, hended, _, _, rfl, hQ, ⟨_, rfl⟩, hW, hsame.mono hc hs⟩
theorem ownRetV (X : Stand p l e R s m args below meth c T locs cells slots) (hx : p.tables.exec = Jvm.exec) {pc : Nat} {Ls : Array Slot} (hret : meth.sig.returnType = none) (hd : decode c.code pc = .ok (.return_, 1)) (hk : meth.locks = false) (hc : cells ≤ ck) (hs : slots ≤ sk)
    (hQ : Q none T.heap locs) : ownEnds p e below s Q ck sk T (mkF m pc Ls []) := by
  obtain ⟨fs, hr, hrun, hended, hW, hsame⟩ := X.leave (v := none) (fun _ => rfl) hk
  exact ⟨_, _, X.returnOut hx hret hd hr, hrun, hended, _, _, rfl, hQ, ⟨_, rfl⟩, hW, hsame.mono hc hs⟩
/-- one place of a function turned -/
def ownUpd {α : Type} (f : Nat → α) (j : Nat) (x : α) : Nat → α := fun i => if i = j then x else f i
theorem ownUpd_ne {α : Type} (f : Nat → α) {i j : Nat} (x : α) (q : i ≠ j) : ownUpd f j x i = f i := if_neg q
/-- an array of ints (or bytes, chars ..): its length and its components -/
def ownAI (Z : State) (h : Heap) (a : Addr) (ty : FieldType) (n : Nat) (g : Nat → Int32) : Prop := ∃ cl : Cell, Arr Z h a cl ty ∧ cl.slots.size = n ∧ n < 2 ^ 31 ∧ ∀ i, i < n → cl.slots[i]? = some (.int (g i))
/-- an array of longs -/
def ownAJ (Z : State) (h : Heap) (a : Addr) (n : Nat) (g : Nat → Int64) : Prop := ∃ cl : Cell, Arr Z h a cl .long ∧ cl.slots.size = n ∧ n < 2 ^ 31 ∧ ∀ i, i < n → cl.slots[i]? = some (.long (g i))
variable {a b : Addr} {ty : FieldType} {n : Nat} {gi : Nat → Int32} {gj : Nat → Int64} {ws : List Addr} {sl : Nat} {v : Value}
theorem ownAI.lt (F : ownAI Z h a ty n gi) : a < h.size := by obtain ⟨c, A, -⟩ := F; exact A.lt
theorem ownAI.ext (F : ownAI Z h a ty n gi) (E : Ext h h') : ownAI Z h' a ty n gi := by obtain ⟨c, A, r⟩ := F; exact ⟨c, A.ext E, r⟩
theorem ownAI.other (F : ownAI Z h b ty n gi) (W : Wr h h' a sl v) (q : b ≠ a) : ownAI Z h' b ty n gi := by obtain ⟨c, A, r⟩ := F; exact ⟨c, A.other W q, r⟩
theorem ownAI.keep (F : ownAI Z h a ty n gi) (K : Keep h h' ws) (q : a ∉ ws) : ownAI Z h' a ty n gi := by obtain ⟨c, A, r⟩ := F; exact ⟨c, ⟨K.2.1 a c A.1 q, A.2⟩, r⟩
theorem ownAJ.lt (F : ownAJ Z h a n gj) : a < h.size := by obtain ⟨c, A, -⟩ := F; exact A.lt
theorem ownAJ.ext (F : ownAJ Z h a n gj) (E : Ext h h') : ownAJ Z h' a n gj := by obtain ⟨c, A, r⟩ := F; exact ⟨c, A.ext E, r⟩
theorem ownAJ.other (F : ownAJ Z h b n gj) (W : Wr h h' a sl v) (q : b ≠ a) : ownAJ Z h' b n gj := by obtain ⟨c, A, r⟩ := F; exact ⟨c, A.other W q, r⟩
theorem ownAJ.keep (F : ownAJ Z h a n gj) (K : Keep h h' ws) (q : a ∉ ws) : ownAJ Z h' a n gj := by obtain ⟨c, A, r⟩ := F; exact ⟨c, ⟨K.2.1 a c A.1 q, A.2⟩, r⟩
theorem ownAI.new {k : ClassId} {z : Int32} (A : Arr Z h a (newA k ty z) ty) (q : ¬ z < 0) (d : defaultValue ty = .int 0) (N : z.toNatClampNeg = n) : ownAI Z h a ty n (fun _ => 0) := by
  subst N
  refine ⟨_, A, sz_new _ _ _, (back32 q).2, fun i hi => ?_⟩
  simp [newA, hi, d]
theorem ownAJ.new {k : ClassId} {z : Int32} (A : Arr Z h a (newA k .long z) .long) (q : ¬ z < 0) (N : z.toNatClampNeg = n) : ownAJ Z h a n (fun _ => 0) := by
  subst N
  refine ⟨_, A, sz_new _ _ _, (back32 q).2, fun i hi => ?_⟩
  simp [newA, hi, defaultValue]
theorem ownAI.set (F : ownAI Z h a ty n gi) {j : Nat} {x : Int32} (W : Wr h h' a j (.int x)) : ownAI Z h' a ty n (ownUpd gi j x) := by
  obtain ⟨cl, A, S, N, H⟩ := F
  refine ⟨_, A.same W, by simpa [Cell.setSlot] using S, N, fun i hi => ?_⟩
  by_cases e : i = j
  · subst e; simp [Cell.setSlot, ownUpd, S, hi]
  · rw [ownUpd_ne _ _ e]
    show (cl.slots.setIfInBounds j (.int x))[i]? = _
    rw [Array.getElem?_setIfInBounds_ne (Ne.symm e)]; exact H i hi
theorem ownAJ.set (F : ownAJ Z h a n gj) {j : Nat} {x : Int64} (W : Wr h h' a j (.long x)) : ownAJ Z h' a n (ownUpd gj j x) := by
  obtain ⟨cl, A, S, N, H⟩ := F
  refine ⟨_, A.same W, by simpa [Cell.setSlot] using S, N, fun i hi => ?_⟩
  by_cases e : i = j
  · subst e; simp [Cell.setSlot, ownUpd, S, hi]
  · rw [ownUpd_ne _ _ e]
    show (cl.slots.setIfInBounds j (.long x))[i]? = _
    rw [Array.getElem?_setIfInBounds_ne (Ne.symm e)]; exact H i hi
/-- an index is inside -/
def ownIn (j : Int32) (n : Nat) : Prop := ¬ (j < 0 ∨ n ≤ j.toNatClampNeg)
theorem ownIaload (F : ownAI Z h a .int n gi) (X : Stand p l e R s m args below meth c T locs cells slots) (hx : p.tables.exec = Jvm.exec) (hZ : Z.Warmed39 s.vm) (eT : T.heap = h) {j : Int32} (hin : ownIn j n) {g : JFrame} (hg : g.method = m) {rest : List Value} (hs : g.stack = .int j :: .ref a :: rest) (hd : decode c.code g.pc = .ok (.iaload, 1)) :
    ∀ target, Steps p.tables e below (T.setTop { g with pc := g.pc + 1, stack := .int (gi j.toNatClampNeg) :: rest }) target → Steps p.tables e below (T.setTop g) target := by
  obtain ⟨cl, A, S, N, H⟩ := F
  subst S
  exact fun t k => X.iaload hx (by rw [eT]; exact A.1) (State.isArrayOf_alike hZ.alike A.2.1) A.2.2 hin (H _ (Nat.lt_of_not_le fun q => hin (Or.inr q))) hg hs hd t k
theorem ownLenI (F : ownAI Z h a ty n gi) (X : Stand p l e R s m args below meth c T locs cells slots) (hx : p.tables.exec = Jvm.exec) (hZ : Z.Warmed39 s.vm) (eT : T.heap = h) {z : Int32} (hz : n.toInt32 = z) {g : JFrame} (hg : g.method = m) {rest : List Value} (hs : g.stack = .ref a :: rest) (hd : decode c.code g.pc = .ok (.arraylength, 1)) :
    ∀ target, Steps p.tables e below (T.setTop { g with pc := g.pc + 1, stack := .int z :: rest }) target → Steps p.tables e below (T.setTop g) target := by
  obtain ⟨cl, A, S, N, H⟩ := F
  subst S hz
  exact fun t k => X.arraylength hx (by rw [eT]; exact A.1) (State.isArrayOf_alike hZ.alike A.2.1) hg hs hd t k
theorem ownIastore (F : ownAI Z h a .int n gi) (X : Stand p l e R s m args below meth c T locs cells slots) (hx : p.tables.exec = Jvm.exec) (hZ : Z.Warmed39 s.vm) (eT : T.heap = h) {j x : Int32} (hin : ownIn j n) {g : JFrame} (hg : g.method = m) {rest : List Value} (hs : g.stack = .int x :: .int j :: .ref a :: rest) (hd : decode c.code g.pc = .ok (.iastore, 1)) :
    ∃ T' h', Stand p l e R s m args below meth c T' (locs ++ [⟨a, j.toNatClampNeg⟩]) cells slots ∧ T'.heap = h' ∧ Wr h h' a j.toNatClampNeg (.int x) ∧ ownAI Z h' a .int n (ownUpd gi j.toNatClampNeg x) ∧ ∀ target, Steps p.tables e below (T'.setTop { g with pc := g.pc + 1, stack := rest }) target → Steps p.tables e below (T.setTop g) target := by
  obtain ⟨cl, A, S, r⟩ := id F
  obtain ⟨T', h', X', e', W, st⟩ := stI X hx hZ eT A (j := j) (by rw [S]; exact hin) hg hs hd
  exact ⟨T', h', X', e', W, F.set W, st⟩
theorem ownAI.arv (F : ownAI Z h a ty n gi) {z : Int32} (hz : z.toNatClampNeg = n) (hn : ¬ z < 0) (hf : ∀ i, i < n → fits ty (.int (gi i)) = true) : ∃ k, Arv Z h a k ty z ((List.range n).map fun i => Value.int (gi i)) (.int 0) := by
  obtain ⟨cl, A, S, N, H⟩ := F
  refine ⟨cl.cls, cl, A, rfl, by rw [S, hz], hn, fun i hi => ?_, fun i hi => ?_⟩
  · rw [S] at hi; rw [H i hi]; simp [List.getD_eq_getElem?_getD, hi]
  · rw [S] at hi; have := hf i hi; simpa [List.getD_eq_getElem?_getD, hi] using this
theorem ownAI.of_arv {k : ClassId} {z : Int32} {vs : List Value} {dv : Value} (F : Arv Z h a k ty z vs dv) (hz : z.toNatClampNeg = n) (hv : ∀ i, i < n → vs.getD i dv = .int (gi i)) : ownAI Z h a ty n gi := by
  obtain ⟨cl, A, q, S, N, H, G⟩ := F
  refine ⟨cl, A, by rw [S, hz], by rw [← hz]; exact (back32 N).2, fun i hi => ?_⟩
  rw [H i (by rw [S, hz]; exact hi), hv i hi]
theorem ownCopyI {n' : Nat} {gi' gr : Nat → Int32} {z z' nn : Int32} (A : ownAI Z h a ty n gi) (B : ownAI Z h b ty n' gi') (hz : z.toNatClampNeg = n) (hn : ¬ z < 0) (hz' : z'.toNatClampNeg = n') (hn' : ¬ z' < 0) (hty : refKind ty = false) (hfa : ∀ i, i < n → fits ty (.int (gi i)) = true) (hfb : ∀ i, i < n' → fits ty (.int (gi' i)) = true)
    (X : Stand p l e R s m args below meth c T locs cells slots) (hx : p.tables.exec = Jvm.exec) (hZ : Z.Warmed39 s.vm) {own : String} {index : Nat} (hown : s.vm.findClass own = some m.cls)
    (w1 : (Cond.methodLink own index Jvm.Stand.acN).before a0 Z = true) (w2 : (Cond.native Jvm.Stand.acN).before a0 Z = true) (w3 : (Cond.static Jvm.Stand.acN).before a0 Z = true) (w4 : (Cond.initialized "java/lang/System").before a0 Z = true) (eT : T.heap = h)
    (h3 : ¬ nn < 0) (h4 : nn.toNatClampNeg ≤ n) (h5 : nn.toNatClampNeg ≤ n') (hgr : ∀ i, i < n' → (if i < nn.toNatClampNeg then gi i else gi' i) = gr i) {n0 : Nat} (N : Fr n0 locs) (ge : n0 ≤ b)
    {g : JFrame} (hg : g.method = m) (hsize : g.locals.size = c.maxLocals) {rest : List Value} (hs : g.stack = .int nn :: .int 0 :: .ref b :: .int 0 :: .ref a :: rest) (hd : decode c.code g.pc = .ok (.invokestatic index, 3))
    (hf : 1 ≤ R.frames) {W : Nat} (hW : 2 * g.monitorRoom + (rest.map fun v => v.category).sum ≤ W) (hlo : W + (nativeFrameWords "java/lang/System" "arraycopy" 5 + 11) ≤ R.locals) :
    ∃ T' h' L, Stand p l e R s m args below meth c T' L cells slots ∧ T'.heap = h' ∧ Fr n0 L ∧ Keep h h' [b] ∧ ownAI Z h' b ty n' gr ∧
      ∀ target, Steps p.tables e below (T'.setTop { g with pc := g.pc + 3, stack := rest }) target → Steps p.tables e below (T.setTop g) target := by
  obtain ⟨k1, A1⟩ := A.arv hz hn hfa
  obtain ⟨k2, B1⟩ := B.arv hz' hn' hfb
  obtain ⟨T', h', L, X', e', N', K', F', st⟩ := cpA X hx hZ hown w1 w2 w3 w4 eT (sp := 0) (dp := 0) A1 B1 (Or.inl ⟨rfl, hty⟩) (by decide) (by decide) h3 (by show 0 + _ ≤ _; rw [hz]; omega) (by show 0 + _ ≤ _; rw [hz']; omega) rfl (by show 0 + _ ≤ _; simp; exact h5) N ge hg hsize hs hd hf hW hlo
  refine ⟨T', h', L, X', e', N', K', ownAI.of_arv F' hz' (fun i hi => ?_), st⟩
  rw [← hgr i hi]
  show (List.take 0 _ ++ (List.range nn.toNatClampNeg).map (fun i => ((List.range n).map fun i => Value.int (gi i)).getD (0 + i) (.int 0)) ++ List.drop (0 + nn.toNatClampNeg) _).getD i (.int 0) = _
  by_cases q : i < nn.toNatClampNeg
  · rw [if_pos q]
    have : i < n := by omega
    simp [List.getD_eq_getElem?_getD, List.getElem?_append, q, this]
  · rw [if_neg q]
    have h6 : nn.toNatClampNeg + (i - nn.toNatClampNeg) = i := by omega
    simp [List.getD_eq_getElem?_getD, List.getElem?_append, q, hi, h6]
theorem ownCloneI {z : Int32} (F : ownAI Z h a ty n gi) (hz : z.toNatClampNeg = n) (hn : ¬ z < 0) (hfa : ∀ i, i < n → fits ty (.int (gi i)) = true) (X : Stand p l e R s m args below meth c T locs cells slots) (hx : p.tables.exec = Jvm.exec) (hZ : Z.Warmed39 s.vm) {own ad : String} {index : Nat} (hown : s.vm.findClass own = some m.cls)
    (w1 : (Cond.methodLink own index ⟨ad, "clone", "()Ljava/lang/Object;"⟩).before a0 Z = true) (w2 : (Cond.sameMethod ad "java/lang/Object" "clone" "()Ljava/lang/Object;").before a0 Z = true) (w3 : (Cond.native ⟨"java/lang/Object", "clone", "()Ljava/lang/Object;"⟩).before a0 Z = true)
    (w4 : (Cond.instanceMethod ⟨"java/lang/Object", "clone", "()Ljava/lang/Object;"⟩).before a0 Z = true) (w5 : (Cond.selects ad ⟨ad, "clone", "()Ljava/lang/Object;"⟩ ⟨"java/lang/Object", "clone", "()Ljava/lang/Object;"⟩).before a0 Z = true) (w6 : (Cond.castable ad "java/lang/Cloneable").before a0 Z = true)
    (eT : T.heap = h) (E : Exa Z h a ad) {g : JFrame} (hg : g.method = m) (hsize : g.locals.size = c.maxLocals) {rest : List Value} (hst : g.stack = .ref a :: rest) (hd : decode c.code g.pc = .ok (.invokevirtual index, 3))
    (hf : 1 ≤ R.frames) {W cap : Nat} (hW : 2 * g.monitorRoom + (rest.map fun v => v.category).sum ≤ W) (hl : W + 14 ≤ R.locals) (hcap : n ≤ cap) (hc : cells + 1 ≤ R.cells) (hsl : slots + cap ≤ R.slots) :
    ∃ T' h', Stand p l e R s m args below meth c T' locs (cells + 1) (slots + cap) ∧ T'.heap = h' ∧ Ext h h' ∧ ownAI Z h' h.size ty n gi ∧ Exa Z h' h.size ad ∧
      ∀ target, Steps p.tables e below (T'.setTop { g with pc := g.pc + 3, stack := .ref h.size :: rest }) target → Steps p.tables e below (T.setTop g) target := by
  obtain ⟨k1, A1⟩ := F.arv hz hn hfa
  obtain ⟨T', h', X', e', ex, A', E', st⟩ := cloneH X hx hZ hown w1 w2 w3 w4 w5 w6 eT A1.arh E hg hsize hst hd hf hW hl (by rw [hz]; exact hcap) hc hsl
  refine ⟨T', h', X', e', ex, ownAI.of_arv (k := k1) (z := z) (vs := (List.range n).map fun i => Value.int (gi i)) (dv := .int 0) A' hz (fun i hi => ?_), E', st⟩
  simp [List.getD_eq_getElem?_getD, hi]
end OwnWalk
section OwnSteps
variable {p : Program} {l : Launch} {e : Env} {R : Room} {s : State} {m : MethodId} {args : Array Value} {below : List Frame} {meth : Method} {c : Code} {T : State} {locs : List Loc} {cells slots : Nat} {Q : Option Value → Heap → List Loc → Prop} {ck sk : Nat}
theorem ow_iloadN (X : Stand p l e R s m args below meth c T locs cells slots) (hx : p.tables.exec = Jvm.exec) {pc q : Nat} {Ls : Array Slot} {S : List Value} {k : Fin 4} {v : Int32} (hd : decode c.code pc = .ok (.iload_n k, 1)) (hq : pc + 1 = q) (hl : Ls[k.val]? = some (.val (.int v))) (k : ownEnds p e below s Q ck sk T (mkF m q Ls (.int v :: S))) : ownEnds p e below s Q ck sk T (mkF m pc Ls S) := by
  subst hq
  exact ownGo (fun _ k => XS.iloadN X.here hx rfl hd hl k) k
theorem ow_iload (X : Stand p l e R s m args below meth c T locs cells slots) (hx : p.tables.exec = Jvm.exec) {pc q : Nat} {Ls : Array Slot} {S : List Value} {k : Nat} {v : Int32} (hd : decode c.code pc = .ok (.iload k, 2)) (hq : pc + 2 = q) (hl : Ls[k]? = some (.val (.int v))) (k : ownEnds p e below s Q ck sk T (mkF m q Ls (.int v :: S))) : ownEnds p e below s Q ck sk T (mkF m pc Ls S) := by
  subst hq
  exact ownGo (fun _ k => XS.iload X.here hx rfl hd hl k) k
theorem ow_istoreN (X : Stand p l e R s m args below meth c T locs cells slots) (hx : p.tables.exec = Jvm.exec) {pc q : Nat} {Ls : Array Slot} {S : List Value} {k : Fin 4} {v : Int32} {L' : Array Slot} (hd : decode c.code pc = .ok (.istore_n k, 1)) (hq : pc + 1 = q) (hl : storeLocals Ls k.val (.int v) = some L') (k : ownEnds p e below s Q ck sk T (mkF m q L' S)) : ownEnds p e below s Q ck sk T (mkF m pc Ls (.int v :: S)) := by
  subst hq
  exact ownGo (fun _ k => XS.istoreN X.here hx rfl hd rfl hl k) k
theorem ow_istore (X : Stand p l e R s m args below meth c T locs cells slots) (hx : p.tables.exec = Jvm.exec) {pc q : Nat} {Ls : Array Slot} {S : List Value} {k : Nat} {v : Int32} {L' : Array Slot} (hd : decode c.code pc = .ok (.istore k, 2)) (hq : pc + 2 = q) (hl : storeLocals Ls k (.int v) = some L') (k : ownEnds p e below s Q ck sk T (mkF m q L' S)) : ownEnds p e below s Q ck sk T (mkF m pc Ls (.int v :: S)) := by
  subst hq
  exact ownGo (fun _ k => XS.istore X.here hx rfl hd rfl hl k) k
theorem ow_aloadN (X : Stand p l e R s m args below meth c T locs cells slots) (hx : p.tables.exec = Jvm.exec) {pc q : Nat} {Ls : Array Slot} {S : List Value} {k : Fin 4} {v : Value} (hd : decode c.code pc = .ok (.aload_n k, 1)) (hq : pc + 1 = q) (hl : Ls[k.val]? = some (.val v)) (hv : v.isRef = true) (k : ownEnds p e below s Q ck sk T (mkF m q Ls (v :: S))) : ownEnds p e below s Q ck sk T (mkF m pc Ls S) := by
  subst hq
  exact ownGo (fun _ k => XS.aloadN X.here hx rfl hd hl hv k) k
theorem ow_aload (X : Stand p l e R s m args below meth c T locs cells slots) (hx : p.tables.exec = Jvm.exec) {pc q : Nat} {Ls : Array Slot} {S : List Value} {k : Nat} {v : Value} (hd : decode c.code pc = .ok (.aload k, 2)) (hq : pc + 2 = q) (hl : Ls[k]? = some (.val v)) (hv : v.isRef = true) (k : ownEnds p e below s Q ck sk T (mkF m q Ls (v :: S))) : ownEnds p e below s Q ck sk T (mkF m pc Ls S) := by
  subst hq
  exact ownGo (fun _ k => XS.aload X.here hx rfl hd hl hv k) k
theorem ow_astoreN (X : Stand p l e R s m args below meth c T locs cells slots) (hx : p.tables.exec = Jvm.exec) {pc q : Nat} {Ls : Array Slot} {S : List Value} {k : Fin 4} {v : Value} {L' : Array Slot} (hd : decode c.code pc = .ok (.astore_n k, 1)) (hq : pc + 1 = q) (hv : v.isRef = true) (hl : storeLocals Ls k.val v = some L') (k : ownEnds p e below s Q ck sk T (mkF m q L' S)) : ownEnds p e below s Q ck sk T (mkF m pc Ls (v :: S)) := by
  subst hq
  exact ownGo (fun _ k => XS.astoreN X.here hx rfl hd rfl hv hl k) k
theorem ow_astore (X : Stand p l e R s m args below meth c T locs cells slots) (hx : p.tables.exec = Jvm.exec) {pc q : Nat} {Ls : Array Slot} {S : List Value} {k : Nat} {v : Value} {L' : Array Slot} (hd : decode c.code pc = .ok (.astore k, 2)) (hq : pc + 2 = q) (hv : v.isRef = true) (hl : storeLocals Ls k v = some L') (k : ownEnds p e below s Q ck sk T (mkF m q L' S)) : ownEnds p e below s Q ck sk T (mkF m pc Ls (v :: S)) := by
  subst hq
  exact ownGo (fun _ k => XS.astore X.here hx rfl hd rfl hv hl k) k
theorem ow_iconst (X : Stand p l e R s m args below meth c T locs cells slots) (hx : p.tables.exec = Jvm.exec) {pc q : Nat} {Ls : Array Slot} {S : List Value} {i : Int} (v : Int32) (hd : decode c.code pc = .ok (.iconst i, 1)) (hq : pc + 1 = q) (hz : Int32.ofInt i = v) (k : ownEnds p e below s Q ck sk T (mkF m q Ls (.int v :: S))) : ownEnds p e below s Q ck sk T (mkF m pc Ls S) := by
  subst hq hz
  exact ownGo (fun _ k => XS.iconst X.here hx rfl hd k) k
theorem ow_bipush (X : Stand p l e R s m args below meth c T locs cells slots) (hx : p.tables.exec = Jvm.exec) {pc q : Nat} {Ls : Array Slot} {S : List Value} {i : Int} (v : Int32) (hd : decode c.code pc = .ok (.bipush i, 2)) (hq : pc + 2 = q) (hz : (Int8.ofInt i).toInt32 = v) (k : ownEnds p e below s Q ck sk T (mkF m q Ls (.int v :: S))) : ownEnds p e below s Q ck sk T (mkF m pc Ls S) := by
  subst hq hz
  exact ownGo (fun _ k => XS.bipush X.here hx rfl hd k) k
theorem ow_iadd (X : Stand p l e R s m args below meth c T locs cells slots) (hx : p.tables.exec = Jvm.exec) {pc q : Nat} {Ls : Array Slot} {S : List Value} {x y : Int32} (z : Int32) (hd : decode c.code pc = .ok (.iadd, 1)) (hq : pc + 1 = q) (hz : x + y = z) (k : ownEnds p e below s Q ck sk T (mkF m q Ls (.int z :: S))) : ownEnds p e below s Q ck sk T (mkF m pc Ls (.int y :: .int x :: S)) := by
  subst hq hz
  exact ownGo (fun _ k => XS.iadd X.here hx rfl hd rfl k) k
theorem ow_isub (X : Stand p l e R s m args below meth c T locs cells slots) (hx : p.tables.exec = Jvm.exec) {pc q : Nat} {Ls : Array Slot} {S : List Value} {x y : Int32} (z : Int32) (hd : decode c.code pc = .ok (.isub, 1)) (hq : pc + 1 = q) (hz : x - y = z) (k : ownEnds p e below s Q ck sk T (mkF m q Ls (.int z :: S))) : ownEnds p e below s Q ck sk T (mkF m pc Ls (.int y :: .int x :: S)) := by
  subst hq hz
  exact ownGo (fun _ k => XS.isub X.here hx rfl hd rfl k) k
theorem ow_iand (X : Stand p l e R s m args below meth c T locs cells slots) (hx : p.tables.exec = Jvm.exec) {pc q : Nat} {Ls : Array Slot} {S : List Value} {x y : Int32} (z : Int32) (hd : decode c.code pc = .ok (.iand, 1)) (hq : pc + 1 = q) (hz : x &&& y = z) (k : ownEnds p e below s Q ck sk T (mkF m q Ls (.int z :: S))) : ownEnds p e below s Q ck sk T (mkF m pc Ls (.int y :: .int x :: S)) := by
  subst hq hz
  exact ownGo (fun _ k => XS.iand X.here hx rfl hd rfl k) k
theorem ow_irem (X : Stand p l e R s m args below meth c T locs cells slots) (hx : p.tables.exec = Jvm.exec) {pc q : Nat} {Ls : Array Slot} {S : List Value} {x y : Int32} (z : Int32) (hd : decode c.code pc = .ok (.irem, 1)) (hq : pc + 1 = q) (hy : y ≠ 0) (hz : x % y = z) (k : ownEnds p e below s Q ck sk T (mkF m q Ls (.int z :: S))) : ownEnds p e below s Q ck sk T (mkF m pc Ls (.int y :: .int x :: S)) := by
  subst hq hz
  exact ownGo (fun _ k => iremM X hx rfl hd rfl hy k) k
theorem ow_iinc (X : Stand p l e R s m args below meth c T locs cells slots) (hx : p.tables.exec = Jvm.exec) {pc q : Nat} {Ls : Array Slot} {S : List Value} {k : Nat} {i : Int} {x : Int32} {L' : Array Slot} (hd : decode c.code pc = .ok (.iinc k i, 3)) (hq : pc + 3 = q) (hl : Ls[k]? = some (.val (.int x))) (hl' : storeLocals Ls k (.int (x + Int32.ofInt i)) = some L') (k : ownEnds p e below s Q ck sk T (mkF m q L' S)) : ownEnds p e below s Q ck sk T (mkF m pc Ls S) := by
  subst hq
  exact ownGo (fun _ k => XS.iinc X.here hx rfl hd hl hl' k) k
theorem ow_dup (X : Stand p l e R s m args below meth c T locs cells slots) (hx : p.tables.exec = Jvm.exec) {pc q : Nat} {Ls : Array Slot} {S : List Value} {v : Value} (hd : decode c.code pc = .ok (.dup, 1)) (hq : pc + 1 = q) (hc : v.category = 1) (k : ownEnds p e below s Q ck sk T (mkF m q Ls (v :: v :: S))) : ownEnds p e below s Q ck sk T (mkF m pc Ls (v :: S)) := by
  subst hq
  exact ownGo (fun _ k => XS.dup X.here hx rfl hd rfl hc k) k
theorem ow_dupX1 (X : Stand p l e R s m args below meth c T locs cells slots) (hx : p.tables.exec = Jvm.exec) {pc q : Nat} {Ls : Array Slot} {S : List Value} {v w : Value} (hd : decode c.code pc = .ok (.dup_x1, 1)) (hq : pc + 1 = q) (hc : v.category = 1) (hc' : w.category = 1) (k : ownEnds p e below s Q ck sk T (mkF m q Ls (v :: w :: v :: S))) : ownEnds p e below s Q ck sk T (mkF m pc Ls (v :: w :: S)) := by
  subst hq
  exact ownGo (fun _ k => XS.dupX1 X.here hx rfl hd rfl hc hc' k) k
theorem ow_goto (X : Stand p l e R s m args below meth c T locs cells slots) (hx : p.tables.exec = Jvm.exec) {pc q : Nat} {Ls : Array Slot} {S : List Value} {o : Int} (hd : decode c.code pc = .ok (.goto o, 3)) (ho : 0 ≤ (pc : Int) + o) (hp : ((pc : Int) + o).toNat = q) (k : ownEnds p e below s Q ck sk T (mkF m q Ls S)) : ownEnds p e below s Q ck sk T (mkF m pc Ls S) :=
  ownGo (fun _ k => XS.goto X.here hx rfl rfl hd ho hp k) k
theorem ow_ifYes (X : Stand p l e R s m args below meth c T locs cells slots) (hx : p.tables.exec = Jvm.exec) {pc q : Nat} {Ls : Array Slot} {S : List Value} {cd : ClassFile.Cond} {o : Int} {x : Int32} (hd : decode c.code pc = .ok (.ifCond cd o, 3)) (hc : ifCond.holds cd x = true) (ho : 0 ≤ (pc : Int) + o) (hp : ((pc : Int) + o).toNat = q) (k : ownEnds p e below s Q ck sk T (mkF m q Ls S)) : ownEnds p e below s Q ck sk T (mkF m pc Ls (.int x :: S)) :=
  ownGo (fun _ k => XS.ifYes X.here hx rfl rfl hd rfl hc ho hp k) k
theorem ow_ifNo (X : Stand p l e R s m args below meth c T locs cells slots) (hx : p.tables.exec = Jvm.exec) {pc q : Nat} {Ls : Array Slot} {S : List Value} {cd : ClassFile.Cond} {o : Int} {x : Int32} (hd : decode c.code pc = .ok (.ifCond cd o, 3)) (hq : pc + 3 = q) (hc : ifCond.holds cd x = false) (k : ownEnds p e below s Q ck sk T (mkF m q Ls S)) : ownEnds p e below s Q ck sk T (mkF m pc Ls (.int x :: S)) := by
  subst hq
  exact ownGo (fun _ k => XS.ifNo X.here hx rfl hd rfl hc k) k
theorem ow_icmpYes (X : Stand p l e R s m args below meth c T locs cells slots) (hx : p.tables.exec = Jvm.exec) {pc q : Nat} {Ls : Array Slot} {S : List Value} {cd : ClassFile.Cond} {o : Int} {x y : Int32} (hd : decode c.code pc = .ok (.if_icmp cd o, 3)) (hc : if_icmp.holds cd x y = true) (ho : 0 ≤ (pc : Int) + o) (hp : ((pc : Int) + o).toNat = q) (k : ownEnds p e below s Q ck sk T (mkF m q Ls S)) : ownEnds p e below s Q ck sk T (mkF m pc Ls (.int y :: .int x :: S)) :=
  ownGo (fun _ k => XS.icmpYes X.here hx rfl rfl hd rfl hc ho hp k) k
theorem ow_icmpNo (X : Stand p l e R s m args below meth c T locs cells slots) (hx : p.tables.exec = Jvm.exec) {pc q : Nat} {Ls : Array Slot} {S : List Value} {cd : ClassFile.Cond} {o : Int} {x y : Int32} (hd : decode c.code pc = .ok (.if_icmp cd o, 3)) (hq : pc + 3 = q) (hc : if_icmp.holds cd x y = false) (k : ownEnds p e below s Q ck sk T (mkF m q Ls S)) : ownEnds p e below s Q ck sk T (mkF m pc Ls (.int y :: .int x :: S)) := by
  subst hq
  exact ownGo (fun _ k => XS.icmpNo X.here hx rfl hd rfl hc k) k
end OwnSteps
def own_max (a b : Int32) : Int32 := if a < b then b else a
def own_inn (f1 l1 f2 l2 f3 l3 x : Int32) : Int32 := if (¬ x < f1 ∧ ¬ l1 < x) ∨ (¬ x < f2 ∧ ¬ l2 < x) ∨ (¬ x < f3 ∧ ¬ l3 < x) then 1 else 0
def own_ch (f1 l1 f2 l2 f3 l3 x : Int32) : Int32 := if x < (0 : Int32) then 0 else if (1114111 : Int32) < x then 0 else if own_inn f1 l1 f2 l2 f3 l3 x = own_inn f1 l1 f2 l2 f3 l3 (x - (1 : Int32)) then 0 else 1
def own_ind (v c : Int32) (prev : List Int32) : Int := if v = (0 : Int32) ∨ c ∈ prev then 0 else 1
def own_R (f1 l1 f2 l2 f3 l3 : Int32) : Prop := 0 ≤ f1.toInt ∧ f1.toInt ≤ l1.toInt ∧ l1.toInt ≤ 1114111 ∧ f1.toInt ≤ f2.toInt ∧ f2.toInt ≤ l2.toInt ∧ l2.toInt ≤ 1114111 ∧ f2.toInt ≤ f3.toInt ∧ f3.toInt ≤ l3.toInt ∧ l3.toInt ≤ 1114111
theorem own_u {a v m : Int32} (h : (a &&& (2147483647 : Int32)) % m = v) (hm : 0 < m.toInt) : 0 ≤ v.toInt ∧ v.toInt < m.toInt := by
  have h1 := Jvm.Kit.i32_mask a 2147483647 (k := 31) (by decide) (by decide)
  have h2 : 0 ≤ (a &&& (2147483647 : Int32)).toInt := by rw [h1]; exact Int.emod_nonneg _ (by decide)
  rw [← h, Jvm.Kit.i32_rem_nonneg h2]
  exact ⟨Int.emod_nonneg _ (by omega), Int.emod_lt_of_pos _ hm⟩
theorem own_f {a f : Int32} (h : (a &&& (2147483647 : Int32)) % (1114112 : Int32) = f) : 0 ≤ f.toInt ∧ f.toInt ≤ 1114111 := by
  have := own_u h (by decide)
  simp only [Int32.reduceToInt] at this
  omega
theorem own_sub {f : Int32} (h : 0 ≤ f.toInt ∧ f.toInt ≤ 1114111) : ((1114112 : Int32) - f).toInt = 1114112 - f.toInt := by
  rw [Jvm.Kit.i32_sub (by simp only [Int32.reduceToInt]; omega) (by simp only [Int32.reduceToInt]; omega)]
  simp only [Int32.reduceToInt]
theorem own_nzf {f : Int32} (h1 : 0 ≤ f.toInt ∧ f.toInt ≤ 1114111) : ((1114112 : Int32) - f) ≠ 0 := by
  intro q
  have h2 := own_sub h1
  rw [q] at h2
  simp only [Int32.reduceToInt] at h2
  omega
theorem own_nx {b f l : Int32} (h1 : 0 ≤ f.toInt ∧ f.toInt ≤ 1114111) (e : (f + ((b &&& (2147483647 : Int32)) % ((1114112 : Int32) - f))) = l) : f.toInt ≤ l.toInt ∧ l.toInt ≤ 1114111 := by
  have h2 := own_sub h1
  have h3 := own_u (a := b) (m := (1114112 : Int32) - f) rfl (by omega)
  rw [h2] at h3
  rw [← e, Jvm.Kit.i32_add (by omega) (by omega)]
  omega
theorem own_nxf {b f l : Int32} (h1 : 0 ≤ f.toInt ∧ f.toInt ≤ 1114111) (e : (f + ((b &&& (2147483647 : Int32)) % ((1114112 : Int32) - f))) = l) : 0 ≤ l.toInt ∧ l.toInt ≤ 1114111 := by
  have := own_nx h1 e; omega
theorem own_nz1 {a f : Int32} (h : (a &&& (2147483647 : Int32)) % (1114112 : Int32) = f) : ((1114112 : Int32) - f) ≠ 0 := own_nzf (own_f h)
theorem own_nz2 {a c f g : Int32} (h : (a &&& (2147483647 : Int32)) % (1114112 : Int32) = f) (e : (f + ((c &&& (2147483647 : Int32)) % ((1114112 : Int32) - f))) = g) : ((1114112 : Int32) - g) ≠ 0 := own_nzf (own_nxf (own_f h) e)
theorem own_nz3 {a c b f g k : Int32} (h : (a &&& (2147483647 : Int32)) % (1114112 : Int32) = f) (e : (f + ((c &&& (2147483647 : Int32)) % ((1114112 : Int32) - f))) = g) (e2 : (g + ((b &&& (2147483647 : Int32)) % ((1114112 : Int32) - g))) = k) : ((1114112 : Int32) - k) ≠ 0 := own_nzf (own_nxf (own_nxf (own_f h) e) e2)
theorem own_rng {a b c d e g f1 l1 f2 l2 f3 l3 : Int32} (h1 : (a &&& (2147483647 : Int32)) % (1114112 : Int32) = f1) (h2 : (f1 + ((b &&& (2147483647 : Int32)) % ((1114112 : Int32) - f1))) = l1) (h3 : (f1 + ((c &&& (2147483647 : Int32)) % ((1114112 : Int32) - f1))) = f2) (h4 : (f2 + ((d &&& (2147483647 : Int32)) % ((1114112 : Int32) - f2))) = l2) (h5 : (f2 + ((e &&& (2147483647 : Int32)) % ((1114112 : Int32) - f2))) = f3) (h6 : (f3 + ((g &&& (2147483647 : Int32)) % ((1114112 : Int32) - f3))) = l3) : own_R f1 l1 f2 l2 f3 l3 := by
  have e1 := own_f h1
  have e2 := own_nx e1 h2
  have e3 := own_nx e1 h3
  have e3' := own_nxf e1 h3
  have e4 := own_nx e3' h4
  have e5 := own_nx e3' h5
  have e5' := own_nxf e3' h5
  have e6 := own_nx e5' h6
  unfold own_R
  omega
theorem own_nk0 {n v c : Int32} {prev : List Int32} {S : Int} {k : Nat} (hn : n.toInt = S ∧ 0 ≤ n.toInt ∧ n.toInt ≤ (k : Int)) (h : v = (0 : Int32) ∨ c ∈ prev) : n.toInt = (S + own_ind v c prev) ∧ 0 ≤ n.toInt ∧ n.toInt ≤ ((k + 1 : Nat) : Int) := by
  unfold own_ind
  rw [if_pos h]
  omega
theorem own_nk1 {n n' v c : Int32} {prev : List Int32} {S : Int} {k : Nat} (hn : n.toInt = S ∧ 0 ≤ n.toInt ∧ n.toInt ≤ (k : Int)) (e : n + (1 : Int32) = n') (h : ¬ (v = (0 : Int32) ∨ c ∈ prev)) (hk : (k : Int) ≤ 100 := by decide) : n'.toInt = (S + own_ind v c prev) ∧ 0 ≤ n'.toInt ∧ n'.toInt ≤ ((k + 1 : Nat) : Int) := by
  unfold own_ind
  rw [if_neg h, ← e, Jvm.Kit.i32_add (by simp only [Int32.reduceToInt]; omega) (by simp only [Int32.reduceToInt]; omega)]
  simp only [Int32.reduceToInt]
  omega
theorem own_len {n z : Int32} {S : Int} {k : Int} (hn : n.toInt = S ∧ 0 ≤ n.toInt ∧ n.toInt ≤ k) (h : S = z.toInt) : z = n := by
  apply Int32.toInt_inj.mp
  omega
theorem own_mx (a b : Int32) : ((own_max a b).toInt = a.toInt ∧ b.toInt ≤ a.toInt ∧ own_max a b = a) ∨ ((own_max a b).toInt = b.toInt ∧ a.toInt ≤ b.toInt ∧ own_max a b = b) := by
  unfold own_max
  by_cases h : a < b
  · rw [if_pos h]; rw [Int32.lt_iff_toInt_lt] at h; exact Or.inr ⟨rfl, by omega, rfl⟩
  · rw [if_neg h]; rw [Int32.lt_iff_toInt_lt] at h; exact Or.inl ⟨rfl, by omega, rfl⟩
def own_IN (f1 l1 f2 l2 f3 l3 : Int32) (x : Int) : Prop := (f1.toInt ≤ x ∧ x ≤ l1.toInt) ∨ (f2.toInt ≤ x ∧ x ≤ l2.toInt) ∨ (f3.toInt ≤ x ∧ x ≤ l3.toInt)
theorem own_inn1 (f1 l1 f2 l2 f3 l3 x : Int32) : (own_inn f1 l1 f2 l2 f3 l3 x = (1 : Int32) ∧ own_IN f1 l1 f2 l2 f3 l3 x.toInt) ∨ (own_inn f1 l1 f2 l2 f3 l3 x = (0 : Int32) ∧ ¬ own_IN f1 l1 f2 l2 f3 l3 x.toInt) := by
  have e : ((¬ x < f1 ∧ ¬ l1 < x) ∨ (¬ x < f2 ∧ ¬ l2 < x) ∨ (¬ x < f3 ∧ ¬ l3 < x)) ↔ own_IN f1 l1 f2 l2 f3 l3 x.toInt := by
    unfold own_IN
    simp only [Int32.lt_iff_toInt_lt, Int.not_lt]
  unfold own_inn
  by_cases h : (¬ x < f1 ∧ ¬ l1 < x) ∨ (¬ x < f2 ∧ ¬ l2 < x) ∨ (¬ x < f3 ∧ ¬ l3 < x)
  · rw [if_pos h]; exact Or.inl ⟨rfl, e.mp h⟩
  · rw [if_neg h]; exact Or.inr ⟨rfl, fun q => h (e.mpr q)⟩
theorem own_chI (f1 l1 f2 l2 f3 l3 x : Int32) : ¬ own_ch f1 l1 f2 l2 f3 l3 x = (0 : Int32) ↔ (0 ≤ x.toInt ∧ x.toInt ≤ 1114111 ∧ ((own_IN f1 l1 f2 l2 f3 l3 x.toInt ∧ ¬ own_IN f1 l1 f2 l2 f3 l3 (x.toInt - 1)) ∨ (¬ own_IN f1 l1 f2 l2 f3 l3 x.toInt ∧ own_IN f1 l1 f2 l2 f3 l3 (x.toInt - 1)))) := by
  unfold own_ch
  by_cases h0 : x < (0 : Int32)
  · rw [if_pos h0]
    simp only [Int32.lt_iff_toInt_lt, Int32.reduceToInt] at h0
    constructor
    · intro q; exact absurd rfl q
    · intro q; omega
  · rw [if_neg h0]
    by_cases h1 : (1114111 : Int32) < x
    · rw [if_pos h1]
      simp only [Int32.lt_iff_toInt_lt, Int32.reduceToInt] at h1
      constructor
      · intro q; exact absurd rfl q
      · intro q; omega
    · rw [if_neg h1]
      simp only [Int32.lt_iff_toInt_lt, Int32.reduceToInt] at h0 h1
      have hs := Jvm.Kit.i32_sub (p := x) (q := 1) (by simp only [Int32.reduceToInt]; omega) (by simp only [Int32.reduceToInt]; omega)
      simp only [Int32.reduceToInt] at hs
      have a := own_inn1 f1 l1 f2 l2 f3 l3 x
      have b := own_inn1 f1 l1 f2 l2 f3 l3 (x - 1)
      rw [hs] at b
      rcases a with ⟨a1, a2⟩ | ⟨a1, a2⟩ <;> rcases b with ⟨b1, b2⟩ | ⟨b1, b2⟩ <;> rw [a1, b1]
      · exact ⟨fun q => absurd rfl q, fun q => by rcases q.2.2 with w | w; exact absurd b2 w.2; exact absurd a2 w.1⟩
      · exact ⟨fun _ => ⟨by omega, by omega, Or.inl ⟨a2, b2⟩⟩, fun _ => by decide⟩
      · exact ⟨fun _ => ⟨by omega, by omega, Or.inr ⟨a2, b2⟩⟩, fun _ => by decide⟩
      · exact ⟨fun q => absurd rfl q, fun q => by rcases q.2.2 with w | w; exact absurd w.1 a2; exact absurd w.2 b2⟩
def own_cnt (P : Int32 → Prop) [DecidablePred P] : List Int32 → List Int32 → Nat
  | _, [] => 0
  | prev, c :: cs => (if P c ∧ ¬ c ∈ prev then 1 else 0) + own_cnt P (c :: prev) cs
theorem own_cntE (P : Int32 → Prop) [DecidablePred P] : ∀ (cs prev E : List Int32), E.Nodup → (∀ x, x ∈ E ↔ (x ∈ cs ∧ ¬ x ∈ prev ∧ P x)) → own_cnt P prev cs = E.length := by
  intro cs
  induction cs with
  | nil =>
    intro prev E hn h
    cases E with
    | nil => rfl
    | cons a t => exact absurd ((h a).mp (List.mem_cons_self ..)).1 (by simp)
  | cons c cs ih =>
    intro prev E hn h
    show (if P c ∧ ¬ c ∈ prev then 1 else 0) + own_cnt P (c :: prev) cs = E.length
    by_cases q : P c ∧ ¬ c ∈ prev
    · rw [if_pos q]
      have hc : c ∈ E := (h c).mpr ⟨List.mem_cons_self .., q.2, q.1⟩
      rw [ih (c :: prev) (E.erase c) (hn.erase c) (fun x => ?_), List.length_erase_of_mem hc]
      · have := List.length_pos_of_mem hc; omega
      · rw [hn.mem_erase_iff, h x]
        simp only [List.mem_cons, not_or]
        constructor
        · rintro ⟨a, b, c1, d⟩
          exact ⟨b.resolve_left a, ⟨a, c1⟩, d⟩
        · rintro ⟨a, ⟨b, c1⟩, d⟩
          exact ⟨b, Or.inr a, c1, d⟩
    · rw [if_neg q, Nat.zero_add]
      refine ih (c :: prev) E hn (fun x => ?_)
      rw [h x]
      simp only [List.mem_cons, not_or]
      constructor
      · rintro ⟨a, b, d⟩
        rcases a with a | a
        · subst a; exact absurd ⟨d, b⟩ q
        · by_cases e : x = c
          · subst e; exact absurd ⟨d, b⟩ q
          · exact ⟨a, ⟨e, b⟩, d⟩
      · rintro ⟨a, ⟨b, c1⟩, d⟩
        exact ⟨Or.inr a, c1, d⟩
theorem own_indc {v c : Int32} {prev prev' : List Int32} {P : Int32 → Prop} [DecidablePred P] (hP : P c ↔ ¬ v = (0 : Int32)) (hm : c ∈ prev ↔ c ∈ prev') : own_ind v c prev = (((if P c ∧ ¬ c ∈ prev' then 1 else 0 : Nat)) : Int) := by
  unfold own_ind
  by_cases q : v = (0 : Int32) ∨ c ∈ prev
  · rw [if_pos q, if_neg]
    · rfl
    · intro w
      rcases q with q | q
      · exact hP.mp w.1 q
      · exact w.2 (hm.mp q)
  · rw [if_neg q, if_pos]
    · rfl
    · exact ⟨hP.mpr fun w => q (Or.inl w), fun w => q (Or.inr (hm.mpr w))⟩
def own_s1 (f1 l1 f2 l2 f3 l3 k0 : Int32) : Int := (0 : Int) + own_ind (own_ch f1 l1 f2 l2 f3 l3 k0) k0 []
def own_s2 (f1 l1 f2 l2 f3 l3 k0 k1 : Int32) : Int := (own_s1 f1 l1 f2 l2 f3 l3 k0) + own_ind (own_ch f1 l1 f2 l2 f3 l3 k1) k1 [k0]
def own_s3 (f1 l1 f2 l2 f3 l3 k0 k1 k2 : Int32) : Int := (own_s2 f1 l1 f2 l2 f3 l3 k0 k1) + own_ind (own_ch f1 l1 f2 l2 f3 l3 k2) k2 [k0, k1]
def own_s4 (f1 l1 f2 l2 f3 l3 k0 k1 k2 k3 : Int32) : Int := (own_s3 f1 l1 f2 l2 f3 l3 k0 k1 k2) + own_ind (own_ch f1 l1 f2 l2 f3 l3 k3) k3 [k0, k1, k2]
def own_s5 (f1 l1 f2 l2 f3 l3 k0 k1 k2 k3 k4 : Int32) : Int := (own_s4 f1 l1 f2 l2 f3 l3 k0 k1 k2 k3) + own_ind (own_ch f1 l1 f2 l2 f3 l3 k4) k4 [k0, k1, k2, k3]
def own_s6 (f1 l1 f2 l2 f3 l3 k0 k1 k2 k3 k4 k5 : Int32) : Int := (own_s5 f1 l1 f2 l2 f3 l3 k0 k1 k2 k3 k4) + own_ind (own_ch f1 l1 f2 l2 f3 l3 k5) k5 [k0, k1, k2, k3, k4]
theorem own_tot {f1 l1 f2 l2 f3 l3 c1 c3 c5 : Int32} {E : List Int32} (hn : E.Nodup) (h : ∀ x, x ∈ E ↔ (x ∈ [f1, c1, f2, c3, f3, c5] ∧ ¬ own_ch f1 l1 f2 l2 f3 l3 x = (0 : Int32))) : (own_s6 f1 l1 f2 l2 f3 l3 f1 c1 f2 c3 f3 c5) = (E.length : Int) := by
  simp only [own_s6, own_s5, own_s4, own_s3, own_s2, own_s1]
  have e := own_cntE (fun x => ¬ own_ch f1 l1 f2 l2 f3 l3 x = (0 : Int32)) [f1, c1, f2, c3, f3, c5] [] E hn (fun x => by rw [h x]; simp)
  rw [← e]
  rw [own_indc (prev' := []) (P := fun x => ¬ own_ch f1 l1 f2 l2 f3 l3 x = (0 : Int32)) (v := (own_ch f1 l1 f2 l2 f3 l3 f1)) (c := f1) Iff.rfl (List.mem_reverse).symm]
  rw [own_indc (prev' := [f1]) (P := fun x => ¬ own_ch f1 l1 f2 l2 f3 l3 x = (0 : Int32)) (v := (own_ch f1 l1 f2 l2 f3 l3 c1)) (c := c1) Iff.rfl (List.mem_reverse).symm]
  rw [own_indc (prev' := [c1, f1]) (P := fun x => ¬ own_ch f1 l1 f2 l2 f3 l3 x = (0 : Int32)) (v := (own_ch f1 l1 f2 l2 f3 l3 f2)) (c := f2) Iff.rfl (List.mem_reverse).symm]
  rw [own_indc (prev' := [f2, c1, f1]) (P := fun x => ¬ own_ch f1 l1 f2 l2 f3 l3 x = (0 : Int32)) (v := (own_ch f1 l1 f2 l2 f3 l3 c3)) (c := c3) Iff.rfl (List.mem_reverse).symm]
  rw [own_indc (prev' := [c3, f2, c1, f1]) (P := fun x => ¬ own_ch f1 l1 f2 l2 f3 l3 x = (0 : Int32)) (v := (own_ch f1 l1 f2 l2 f3 l3 f3)) (c := f3) Iff.rfl (List.mem_reverse).symm]
  rw [own_indc (prev' := [f3, c3, f2, c1, f1]) (P := fun x => ¬ own_ch f1 l1 f2 l2 f3 l3 x = (0 : Int32)) (v := (own_ch f1 l1 f2 l2 f3 l3 c5)) (c := c5) Iff.rfl (List.mem_reverse).symm]
  simp only [own_cnt]
  omega
theorem own_p1 {x : Int32} (h : 0 ≤ x.toInt ∧ x.toInt ≤ 1114111) : (x + (1 : Int32)).toInt = x.toInt + 1 := by
  rw [Jvm.Kit.i32_add (by simp only [Int32.reduceToInt]; omega) (by simp only [Int32.reduceToInt]; omega)]
  simp only [Int32.reduceToInt]
theorem own_nf_mm {f1 l1 f2 l2 f3 l3 : Int32} (hr : own_R f1 l1 f2 l2 f3 l3) (hm2 : ¬ (l1 + (1 : Int32)) < f2) (hm3 : ¬ ((own_max l1 l2) + (1 : Int32)) < f3) (x : Int) : own_IN f1 l1 f2 l2 f3 l3 x ↔ ((f1.toInt ≤ x ∧ x ≤ (own_max (own_max l1 l2) l3).toInt)) := by
  unfold own_R at hr
  have p1 := own_p1 (x := l1) (by omega)
  have p2 := own_p1 (x := l2) (by omega)
  have p3 := own_p1 (x := l3) (by omega)
  have m12 := own_mx l1 l2
  have m23 := own_mx l2 l3
  have m123 := own_mx (own_max l1 l2) l3
  have p12 := own_p1 (x := own_max l1 l2) (by omega)
  have p23 := own_p1 (x := own_max l2 l3) (by omega)
  have p123 := own_p1 (x := own_max (own_max l1 l2) l3) (by omega)
  rw [Int32.lt_iff_toInt_lt] at hm2 hm3
  unfold own_IN
  omega
theorem own_case_mml {f1 l1 f2 l2 f3 l3 : Int32} (hr : own_R f1 l1 f2 l2 f3 l3) (hm2 : ¬ (l1 + (1 : Int32)) < f2) (hm3 : ¬ ((own_max l1 l2) + (1 : Int32)) < f3) (hmx : (own_max (own_max l1 l2) l3) < (1114111 : Int32)) (x : Int32) : ¬ own_ch f1 l1 f2 l2 f3 l3 x = (0 : Int32) ↔ (x = f1 ∨ x = ((own_max (own_max l1 l2) l3) + (1 : Int32))) := by
  rw [own_chI, own_nf_mm hr hm2 hm3, own_nf_mm hr hm2 hm3]
  unfold own_R at hr
  have p1 := own_p1 (x := l1) (by omega)
  have p2 := own_p1 (x := l2) (by omega)
  have p3 := own_p1 (x := l3) (by omega)
  have m12 := own_mx l1 l2
  have m23 := own_mx l2 l3
  have m123 := own_mx (own_max l1 l2) l3
  have p12 := own_p1 (x := own_max l1 l2) (by omega)
  have p23 := own_p1 (x := own_max l2 l3) (by omega)
  have p123 := own_p1 (x := own_max (own_max l1 l2) l3) (by omega)
  rw [Int32.lt_iff_toInt_lt] at hm2 hm3
  rw [Int32.lt_iff_toInt_lt] at hmx
  simp only [Int32.reduceToInt] at hmx
  simp only [← Int32.toInt_inj]
  omega
theorem own_inc_mml {f1 l1 f2 l2 f3 l3 : Int32} (hr : own_R f1 l1 f2 l2 f3 l3) (hm2 : ¬ (l1 + (1 : Int32)) < f2) (hm3 : ¬ ((own_max l1 l2) + (1 : Int32)) < f3) (hmx : (own_max (own_max l1 l2) l3) < (1114111 : Int32)) : f1 < ((own_max (own_max l1 l2) l3) + (1 : Int32)) := by
  unfold own_R at hr
  have p1 := own_p1 (x := l1) (by omega)
  have p2 := own_p1 (x := l2) (by omega)
  have p3 := own_p1 (x := l3) (by omega)
  have m12 := own_mx l1 l2
  have m23 := own_mx l2 l3
  have m123 := own_mx (own_max l1 l2) l3
  have p12 := own_p1 (x := own_max l1 l2) (by omega)
  have p23 := own_p1 (x := own_max l2 l3) (by omega)
  have p123 := own_p1 (x := own_max (own_max l1 l2) l3) (by omega)
  rw [Int32.lt_iff_toInt_lt] at hm2 hm3
  simp only [Int32.lt_iff_toInt_lt]
  omega
theorem own_total_mml {f1 l1 f2 l2 f3 l3 c1 c3 c5 : Int32} (hr : own_R f1 l1 f2 l2 f3 l3) (hm2 : ¬ (l1 + (1 : Int32)) < f2) (hm3 : ¬ ((own_max l1 l2) + (1 : Int32)) < f3) (hmx : (own_max (own_max l1 l2) l3) < (1114111 : Int32)) (e1 : (l1 + (1 : Int32)) = c1) (e3 : (l2 + (1 : Int32)) = c3) (e5 : (l3 + (1 : Int32)) = c5) : (own_s6 f1 l1 f2 l2 f3 l3 f1 c1 f2 c3 f3 c5) = ((2 : Int32)).toInt := by
  have hn : ([f1, ((own_max (own_max l1 l2) l3) + (1 : Int32))] : List Int32).Nodup := by
    simp only [List.nodup_cons, List.mem_cons, List.not_mem_nil, or_false, not_or, List.nodup_nil, and_true, not_false_eq_true]
    have hi := own_inc_mml hr hm2 hm3 hmx
    simp only [Int32.lt_iff_toInt_lt] at hi
    simp only [← Int32.toInt_inj]
    omega

  rw [own_tot hn (fun x => ?_)]
  · rfl
  · have hk := own_case_mml hr hm2 hm3 hmx x
    have m12 := own_mx l1 l2
    have m23 := own_mx l2 l3
    have m123 := own_mx (own_max l1 l2) l3
    subst e1 e3 e5
    rw [hk]
    simp only [List.mem_cons, List.not_mem_nil, or_false]
    constructor
    · intro q
      refine ⟨?_, q⟩
      rcases m12 with ⟨-, -, m12⟩ | ⟨-, -, m12⟩ <;> rcases m23 with ⟨-, -, m23⟩ | ⟨-, -, m23⟩ <;> rcases m123 with ⟨-, -, m123⟩ | ⟨-, -, m123⟩ <;> (try simp only [m12, m23, m123] at q m123 ⊢) <;> (try simp only [m12, m23, m123] at q ⊢) <;> (rcases q with q | q <;> simp [q])
    · exact fun q => q.2
theorem own_ok_mml_0 {f1 l1 f2 l2 f3 l3 : Int32} (hr : own_R f1 l1 f2 l2 f3 l3) (hm2 : ¬ (l1 + (1 : Int32)) < f2) (hm3 : ¬ ((own_max l1 l2) + (1 : Int32)) < f3) (hmx : (own_max (own_max l1 l2) l3) < (1114111 : Int32)) : ¬ (if (own_ch f1 l1 f2 l2 f3 l3 f1) = (0 : Int32) then (0 : Int32) else if f1 < ((own_max (own_max l1 l2) l3) + (1 : Int32)) then (1 : Int32) else (0 : Int32)) = (0 : Int32) := by
  have h1 : ¬ own_ch f1 l1 f2 l2 f3 l3 f1 = (0 : Int32) := (own_case_mml hr hm2 hm3 hmx _).mpr (by simp)
  rw [if_neg h1]
  rw [if_pos ((own_inc_mml hr hm2 hm3 hmx))]
  decide
theorem own_ok_mml_1 {f1 l1 f2 l2 f3 l3 : Int32} (hr : own_R f1 l1 f2 l2 f3 l3) (hm2 : ¬ (l1 + (1 : Int32)) < f2) (hm3 : ¬ ((own_max l1 l2) + (1 : Int32)) < f3) (hmx : (own_max (own_max l1 l2) l3) < (1114111 : Int32)) : ¬ (if (own_ch f1 l1 f2 l2 f3 l3 ((own_max (own_max l1 l2) l3) + (1 : Int32))) = (0 : Int32) then (0 : Int32) else (1 : Int32)) = (0 : Int32) := by
  have h1 : ¬ own_ch f1 l1 f2 l2 f3 l3 ((own_max (own_max l1 l2) l3) + (1 : Int32)) = (0 : Int32) := (own_case_mml hr hm2 hm3 hmx _).mpr (by simp)
  rw [if_neg h1]
  decide
theorem own_case_mme {f1 l1 f2 l2 f3 l3 : Int32} (hr : own_R f1 l1 f2 l2 f3 l3) (hm2 : ¬ (l1 + (1 : Int32)) < f2) (hm3 : ¬ ((own_max l1 l2) + (1 : Int32)) < f3) (hmx : ¬ (own_max (own_max l1 l2) l3) < (1114111 : Int32)) (x : Int32) : ¬ own_ch f1 l1 f2 l2 f3 l3 x = (0 : Int32) ↔ (x = f1) := by
  rw [own_chI, own_nf_mm hr hm2 hm3, own_nf_mm hr hm2 hm3]
  unfold own_R at hr
  have p1 := own_p1 (x := l1) (by omega)
  have p2 := own_p1 (x := l2) (by omega)
  have p3 := own_p1 (x := l3) (by omega)
  have m12 := own_mx l1 l2
  have m23 := own_mx l2 l3
  have m123 := own_mx (own_max l1 l2) l3
  have p12 := own_p1 (x := own_max l1 l2) (by omega)
  have p23 := own_p1 (x := own_max l2 l3) (by omega)
  have p123 := own_p1 (x := own_max (own_max l1 l2) l3) (by omega)
  rw [Int32.lt_iff_toInt_lt] at hm2 hm3
  rw [Int32.lt_iff_toInt_lt] at hmx
  simp only [Int32.reduceToInt] at hmx
  simp only [← Int32.toInt_inj]
  omega
theorem own_total_mme {f1 l1 f2 l2 f3 l3 c1 c3 c5 : Int32} (hr : own_R f1 l1 f2 l2 f3 l3) (hm2 : ¬ (l1 + (1 : Int32)) < f2) (hm3 : ¬ ((own_max l1 l2) + (1 : Int32)) < f3) (hmx : ¬ (own_max (own_max l1 l2) l3) < (1114111 : Int32)) (e1 : (l1 + (1 : Int32)) = c1) (e3 : (l2 + (1 : Int32)) = c3) (e5 : (l3 + (1 : Int32)) = c5) : (own_s6 f1 l1 f2 l2 f3 l3 f1 c1 f2 c3 f3 c5) = ((1 : Int32)).toInt := by
  have hn : ([f1] : List Int32).Nodup := by
    simp only [List.nodup_cons, List.mem_cons, List.not_mem_nil, or_false, not_or, List.nodup_nil, and_true, not_false_eq_true]

  rw [own_tot hn (fun x => ?_)]
  · rfl
  · have hk := own_case_mme hr hm2 hm3 hmx x
    have m12 := own_mx l1 l2
    have m23 := own_mx l2 l3
    have m123 := own_mx (own_max l1 l2) l3
    subst e1 e3 e5
    rw [hk]
    simp only [List.mem_cons, List.not_mem_nil, or_false]
    constructor
    · intro q
      refine ⟨?_, q⟩
      rcases m12 with ⟨-, -, m12⟩ | ⟨-, -, m12⟩ <;> rcases m23 with ⟨-, -, m23⟩ | ⟨-, -, m23⟩ <;> rcases m123 with ⟨-, -, m123⟩ | ⟨-, -, m123⟩ <;> (try simp only [m12, m23, m123] at q m123 ⊢) <;> (try simp only [m12, m23, m123] at q ⊢) <;> (rcases q with q <;> simp [q])
    · exact fun q => q.2
theorem own_ok_mme_0 {f1 l1 f2 l2 f3 l3 : Int32} (hr : own_R f1 l1 f2 l2 f3 l3) (hm2 : ¬ (l1 + (1 : Int32)) < f2) (hm3 : ¬ ((own_max l1 l2) + (1 : Int32)) < f3) (hmx : ¬ (own_max (own_max l1 l2) l3) < (1114111 : Int32)) : ¬ (if (own_ch f1 l1 f2 l2 f3 l3 f1) = (0 : Int32) then (0 : Int32) else (1 : Int32)) = (0 : Int32) := by
  have h1 : ¬ own_ch f1 l1 f2 l2 f3 l3 f1 = (0 : Int32) := (own_case_mme hr hm2 hm3 hmx _).mpr (by simp)
  rw [if_neg h1]
  decide
theorem own_lt_ma_0 {f1 l1 f2 l2 f3 l3 : Int32} (hr : own_R f1 l1 f2 l2 f3 l3) (hm2 : ¬ (l1 + (1 : Int32)) < f2) (hm3 : ((own_max l1 l2) + (1 : Int32)) < f3) : (own_max l1 l2) < (1114111 : Int32) := by
  unfold own_R at hr
  have p1 := own_p1 (x := l1) (by omega)
  have p2 := own_p1 (x := l2) (by omega)
  have p3 := own_p1 (x := l3) (by omega)
  have m12 := own_mx l1 l2
  have m23 := own_mx l2 l3
  have m123 := own_mx (own_max l1 l2) l3
  have p12 := own_p1 (x := own_max l1 l2) (by omega)
  have p23 := own_p1 (x := own_max l2 l3) (by omega)
  have p123 := own_p1 (x := own_max (own_max l1 l2) l3) (by omega)
  rw [Int32.lt_iff_toInt_lt] at hm2 hm3
  rw [Int32.lt_iff_toInt_lt]
  simp only [Int32.reduceToInt]
  omega
theorem own_nf_ma {f1 l1 f2 l2 f3 l3 : Int32} (hr : own_R f1 l1 f2 l2 f3 l3) (hm2 : ¬ (l1 + (1 : Int32)) < f2) (hm3 : ((own_max l1 l2) + (1 : Int32)) < f3) (x : Int) : own_IN f1 l1 f2 l2 f3 l3 x ↔ ((f1.toInt ≤ x ∧ x ≤ (own_max l1 l2).toInt) ∨ (f3.toInt ≤ x ∧ x ≤ l3.toInt)) := by
  unfold own_R at hr
  have p1 := own_p1 (x := l1) (by omega)
  have p2 := own_p1 (x := l2) (by omega)
  have p3 := own_p1 (x := l3) (by omega)
  have m12 := own_mx l1 l2
  have m23 := own_mx l2 l3
  have m123 := own_mx (own_max l1 l2) l3
  have p12 := own_p1 (x := own_max l1 l2) (by omega)
  have p23 := own_p1 (x := own_max l2 l3) (by omega)
  have p123 := own_p1 (x := own_max (own_max l1 l2) l3) (by omega)
  rw [Int32.lt_iff_toInt_lt] at hm2 hm3
  unfold own_IN
  omega
theorem own_case_mal {f1 l1 f2 l2 f3 l3 : Int32} (hr : own_R f1 l1 f2 l2 f3 l3) (hm2 : ¬ (l1 + (1 : Int32)) < f2) (hm3 : ((own_max l1 l2) + (1 : Int32)) < f3) (hmx : l3 < (1114111 : Int32)) (x : Int32) : ¬ own_ch f1 l1 f2 l2 f3 l3 x = (0 : Int32) ↔ (x = f1 ∨ x = ((own_max l1 l2) + (1 : Int32)) ∨ x = f3 ∨ x = (l3 + (1 : Int32))) := by
  rw [own_chI, own_nf_ma hr hm2 hm3, own_nf_ma hr hm2 hm3]
  unfold own_R at hr
  have p1 := own_p1 (x := l1) (by omega)
  have p2 := own_p1 (x := l2) (by omega)
  have p3 := own_p1 (x := l3) (by omega)
  have m12 := own_mx l1 l2
  have m23 := own_mx l2 l3
  have m123 := own_mx (own_max l1 l2) l3
  have p12 := own_p1 (x := own_max l1 l2) (by omega)
  have p23 := own_p1 (x := own_max l2 l3) (by omega)
  have p123 := own_p1 (x := own_max (own_max l1 l2) l3) (by omega)
  rw [Int32.lt_iff_toInt_lt] at hm2 hm3
  rw [Int32.lt_iff_toInt_lt] at hmx
  simp only [Int32.reduceToInt] at hmx
  simp only [← Int32.toInt_inj]
  omega
theorem own_inc_mal {f1 l1 f2 l2 f3 l3 : Int32} (hr : own_R f1 l1 f2 l2 f3 l3) (hm2 : ¬ (l1 + (1 : Int32)) < f2) (hm3 : ((own_max l1 l2) + (1 : Int32)) < f3) (hmx : l3 < (1114111 : Int32)) : f1 < ((own_max l1 l2) + (1 : Int32)) ∧ ((own_max l1 l2) + (1 : Int32)) < f3 ∧ f3 < (l3 + (1 : Int32)) := by
  unfold own_R at hr
  have p1 := own_p1 (x := l1) (by omega)
  have p2 := own_p1 (x := l2) (by omega)
  have p3 := own_p1 (x := l3) (by omega)
  have m12 := own_mx l1 l2
  have m23 := own_mx l2 l3
  have m123 := own_mx (own_max l1 l2) l3
  have p12 := own_p1 (x := own_max l1 l2) (by omega)
  have p23 := own_p1 (x := own_max l2 l3) (by omega)
  have p123 := own_p1 (x := own_max (own_max l1 l2) l3) (by omega)
  rw [Int32.lt_iff_toInt_lt] at hm2 hm3
  simp only [Int32.lt_iff_toInt_lt]
  omega
theorem own_total_mal {f1 l1 f2 l2 f3 l3 c1 c3 c5 : Int32} (hr : own_R f1 l1 f2 l2 f3 l3) (hm2 : ¬ (l1 + (1 : Int32)) < f2) (hm3 : ((own_max l1 l2) + (1 : Int32)) < f3) (hmx : l3 < (1114111 : Int32)) (e1 : (l1 + (1 : Int32)) = c1) (e3 : (l2 + (1 : Int32)) = c3) (e5 : (l3 + (1 : Int32)) = c5) : (own_s6 f1 l1 f2 l2 f3 l3 f1 c1 f2 c3 f3 c5) = ((4 : Int32)).toInt := by
  have hn : ([f1, ((own_max l1 l2) + (1 : Int32)), f3, (l3 + (1 : Int32))] : List Int32).Nodup := by
    simp only [List.nodup_cons, List.mem_cons, List.not_mem_nil, or_false, not_or, List.nodup_nil, and_true, not_false_eq_true]
    have hi := own_inc_mal hr hm2 hm3 hmx
    simp only [Int32.lt_iff_toInt_lt] at hi
    simp only [← Int32.toInt_inj]
    omega

  rw [own_tot hn (fun x => ?_)]
  · rfl
  · have hk := own_case_mal hr hm2 hm3 hmx x
    have m12 := own_mx l1 l2
    have m23 := own_mx l2 l3
    have m123 := own_mx (own_max l1 l2) l3
    subst e1 e3 e5
    rw [hk]
    simp only [List.mem_cons, List.not_mem_nil, or_false]
    constructor
    · intro q
      refine ⟨?_, q⟩
      rcases m12 with ⟨-, -, m12⟩ | ⟨-, -, m12⟩ <;> rcases m23 with ⟨-, -, m23⟩ | ⟨-, -, m23⟩ <;> rcases m123 with ⟨-, -, m123⟩ | ⟨-, -, m123⟩ <;> (try simp only [m12, m23, m123] at q m123 ⊢) <;> (try simp only [m12, m23, m123] at q ⊢) <;> (rcases q with q | q | q | q <;> simp [q])
    · exact fun q => q.2
theorem own_ok_mal_0 {f1 l1 f2 l2 f3 l3 : Int32} (hr : own_R f1 l1 f2 l2 f3 l3) (hm2 : ¬ (l1 + (1 : Int32)) < f2) (hm3 : ((own_max l1 l2) + (1 : Int32)) < f3) (hmx : l3 < (1114111 : Int32)) : ¬ (if (own_ch f1 l1 f2 l2 f3 l3 f1) = (0 : Int32) then (0 : Int32) else if f1 < ((own_max l1 l2) + (1 : Int32)) then (1 : Int32) else (0 : Int32)) = (0 : Int32) := by
  have h1 : ¬ own_ch f1 l1 f2 l2 f3 l3 f1 = (0 : Int32) := (own_case_mal hr hm2 hm3 hmx _).mpr (by simp)
  rw [if_neg h1]
  rw [if_pos ((own_inc_mal hr hm2 hm3 hmx).1)]
  decide
theorem own_ok_mal_1 {f1 l1 f2 l2 f3 l3 : Int32} (hr : own_R f1 l1 f2 l2 f3 l3) (hm2 : ¬ (l1 + (1 : Int32)) < f2) (hm3 : ((own_max l1 l2) + (1 : Int32)) < f3) (hmx : l3 < (1114111 : Int32)) : ¬ (if (own_ch f1 l1 f2 l2 f3 l3 ((own_max l1 l2) + (1 : Int32))) = (0 : Int32) then (0 : Int32) else if ((own_max l1 l2) + (1 : Int32)) < f3 then (1 : Int32) else (0 : Int32)) = (0 : Int32) := by
  have h1 : ¬ own_ch f1 l1 f2 l2 f3 l3 ((own_max l1 l2) + (1 : Int32)) = (0 : Int32) := (own_case_mal hr hm2 hm3 hmx _).mpr (by simp)
  rw [if_neg h1]
  rw [if_pos ((own_inc_mal hr hm2 hm3 hmx).2.1)]
  decide
theorem own_ok_mal_2 {f1 l1 f2 l2 f3 l3 : Int32} (hr : own_R f1 l1 f2 l2 f3 l3) (hm2 : ¬ (l1 + (1 : Int32)) < f2) (hm3 : ((own_max l1 l2) + (1 : Int32)) < f3) (hmx : l3 < (1114111 : Int32)) : ¬ (if (own_ch f1 l1 f2 l2 f3 l3 f3) = (0 : Int32) then (0 : Int32) else if f3 < (l3 + (1 : Int32)) then (1 : Int32) else (0 : Int32)) = (0 : Int32) := by
  have h1 : ¬ own_ch f1 l1 f2 l2 f3 l3 f3 = (0 : Int32) := (own_case_mal hr hm2 hm3 hmx _).mpr (by simp)
  rw [if_neg h1]
  rw [if_pos ((own_inc_mal hr hm2 hm3 hmx).2.2)]
  decide
theorem own_ok_mal_3 {f1 l1 f2 l2 f3 l3 : Int32} (hr : own_R f1 l1 f2 l2 f3 l3) (hm2 : ¬ (l1 + (1 : Int32)) < f2) (hm3 : ((own_max l1 l2) + (1 : Int32)) < f3) (hmx : l3 < (1114111 : Int32)) : ¬ (if (own_ch f1 l1 f2 l2 f3 l3 (l3 + (1 : Int32))) = (0 : Int32) then (0 : Int32) else (1 : Int32)) = (0 : Int32) := by
  have h1 : ¬ own_ch f1 l1 f2 l2 f3 l3 (l3 + (1 : Int32)) = (0 : Int32) := (own_case_mal hr hm2 hm3 hmx _).mpr (by simp)
  rw [if_neg h1]
  decide
theorem own_case_mae {f1 l1 f2 l2 f3 l3 : Int32} (hr : own_R f1 l1 f2 l2 f3 l3) (hm2 : ¬ (l1 + (1 : Int32)) < f2) (hm3 : ((own_max l1 l2) + (1 : Int32)) < f3) (hmx : ¬ l3 < (1114111 : Int32)) (x : Int32) : ¬ own_ch f1 l1 f2 l2 f3 l3 x = (0 : Int32) ↔ (x = f1 ∨ x = ((own_max l1 l2) + (1 : Int32)) ∨ x = f3) := by
  rw [own_chI, own_nf_ma hr hm2 hm3, own_nf_ma hr hm2 hm3]
  unfold own_R at hr
  have p1 := own_p1 (x := l1) (by omega)
  have p2 := own_p1 (x := l2) (by omega)
  have p3 := own_p1 (x := l3) (by omega)
  have m12 := own_mx l1 l2
  have m23 := own_mx l2 l3
  have m123 := own_mx (own_max l1 l2) l3
  have p12 := own_p1 (x := own_max l1 l2) (by omega)
  have p23 := own_p1 (x := own_max l2 l3) (by omega)
  have p123 := own_p1 (x := own_max (own_max l1 l2) l3) (by omega)
  rw [Int32.lt_iff_toInt_lt] at hm2 hm3
  rw [Int32.lt_iff_toInt_lt] at hmx
  simp only [Int32.reduceToInt] at hmx
  simp only [← Int32.toInt_inj]
  omega
theorem own_inc_mae {f1 l1 f2 l2 f3 l3 : Int32} (hr : own_R f1 l1 f2 l2 f3 l3) (hm2 : ¬ (l1 + (1 : Int32)) < f2) (hm3 : ((own_max l1 l2) + (1 : Int32)) < f3) (hmx : ¬ l3 < (1114111 : Int32)) : f1 < ((own_max l1 l2) + (1 : Int32)) ∧ ((own_max l1 l2) + (1 : Int32)) < f3 := by
  unfold own_R at hr
  have p1 := own_p1 (x := l1) (by omega)
  have p2 := own_p1 (x := l2) (by omega)
  have p3 := own_p1 (x := l3) (by omega)
  have m12 := own_mx l1 l2
  have m23 := own_mx l2 l3
  have m123 := own_mx (own_max l1 l2) l3
  have p12 := own_p1 (x := own_max l1 l2) (by omega)
  have p23 := own_p1 (x := own_max l2 l3) (by omega)
  have p123 := own_p1 (x := own_max (own_max l1 l2) l3) (by omega)
  rw [Int32.lt_iff_toInt_lt] at hm2 hm3
  simp only [Int32.lt_iff_toInt_lt]
  omega
theorem own_total_mae {f1 l1 f2 l2 f3 l3 c1 c3 c5 : Int32} (hr : own_R f1 l1 f2 l2 f3 l3) (hm2 : ¬ (l1 + (1 : Int32)) < f2) (hm3 : ((own_max l1 l2) + (1 : Int32)) < f3) (hmx : ¬ l3 < (1114111 : Int32)) (e1 : (l1 + (1 : Int32)) = c1) (e3 : (l2 + (1 : Int32)) = c3) (e5 : (l3 + (1 : Int32)) = c5) : (own_s6 f1 l1 f2 l2 f3 l3 f1 c1 f2 c3 f3 c5) = ((3 : Int32)).toInt := by
  have hn : ([f1, ((own_max l1 l2) + (1 : Int32)), f3] : List Int32).Nodup := by
    simp only [List.nodup_cons, List.mem_cons, List.not_mem_nil, or_false, not_or, List.nodup_nil, and_true, not_false_eq_true]
    have hi := own_inc_mae hr hm2 hm3 hmx
    simp only [Int32.lt_iff_toInt_lt] at hi
    simp only [← Int32.toInt_inj]
    omega

  rw [own_tot hn (fun x => ?_)]
  · rfl
  · have hk := own_case_mae hr hm2 hm3 hmx x
    have m12 := own_mx l1 l2
    have m23 := own_mx l2 l3
    have m123 := own_mx (own_max l1 l2) l3
    subst e1 e3 e5
    rw [hk]
    simp only [List.mem_cons, List.not_mem_nil, or_false]
    constructor
    · intro q
      refine ⟨?_, q⟩
      rcases m12 with ⟨-, -, m12⟩ | ⟨-, -, m12⟩ <;> rcases m23 with ⟨-, -, m23⟩ | ⟨-, -, m23⟩ <;> rcases m123 with ⟨-, -, m123⟩ | ⟨-, -, m123⟩ <;> (try simp only [m12, m23, m123] at q m123 ⊢) <;> (try simp only [m12, m23, m123] at q ⊢) <;> (rcases q with q | q | q <;> simp [q])
    · exact fun q => q.2
theorem own_ok_mae_0 {f1 l1 f2 l2 f3 l3 : Int32} (hr : own_R f1 l1 f2 l2 f3 l3) (hm2 : ¬ (l1 + (1 : Int32)) < f2) (hm3 : ((own_max l1 l2) + (1 : Int32)) < f3) (hmx : ¬ l3 < (1114111 : Int32)) : ¬ (if (own_ch f1 l1 f2 l2 f3 l3 f1) = (0 : Int32) then (0 : Int32) else if f1 < ((own_max l1 l2) + (1 : Int32)) then (1 : Int32) else (0 : Int32)) = (0 : Int32) := by
  have h1 : ¬ own_ch f1 l1 f2 l2 f3 l3 f1 = (0 : Int32) := (own_case_mae hr hm2 hm3 hmx _).mpr (by simp)
  rw [if_neg h1]
  rw [if_pos ((own_inc_mae hr hm2 hm3 hmx).1)]
  decide
theorem own_ok_mae_1 {f1 l1 f2 l2 f3 l3 : Int32} (hr : own_R f1 l1 f2 l2 f3 l3) (hm2 : ¬ (l1 + (1 : Int32)) < f2) (hm3 : ((own_max l1 l2) + (1 : Int32)) < f3) (hmx : ¬ l3 < (1114111 : Int32)) : ¬ (if (own_ch f1 l1 f2 l2 f3 l3 ((own_max l1 l2) + (1 : Int32))) = (0 : Int32) then (0 : Int32) else if ((own_max l1 l2) + (1 : Int32)) < f3 then (1 : Int32) else (0 : Int32)) = (0 : Int32) := by
  have h1 : ¬ own_ch f1 l1 f2 l2 f3 l3 ((own_max l1 l2) + (1 : Int32)) = (0 : Int32) := (own_case_mae hr hm2 hm3 hmx _).mpr (by simp)
  rw [if_neg h1]
  rw [if_pos ((own_inc_mae hr hm2 hm3 hmx).2)]
  decide
theorem own_ok_mae_2 {f1 l1 f2 l2 f3 l3 : Int32} (hr : own_R f1 l1 f2 l2 f3 l3) (hm2 : ¬ (l1 + (1 : Int32)) < f2) (hm3 : ((own_max l1 l2) + (1 : Int32)) < f3) (hmx : ¬ l3 < (1114111 : Int32)) : ¬ (if (own_ch f1 l1 f2 l2 f3 l3 f3) = (0 : Int32) then (0 : Int32) else (1 : Int32)) = (0 : Int32) := by
  have h1 : ¬ own_ch f1 l1 f2 l2 f3 l3 f3 = (0 : Int32) := (own_case_mae hr hm2 hm3 hmx _).mpr (by simp)
  rw [if_neg h1]
  decide
theorem own_lt_am_0 {f1 l1 f2 l2 f3 l3 : Int32} (hr : own_R f1 l1 f2 l2 f3 l3) (hm2 : (l1 + (1 : Int32)) < f2) (hm3 : ¬ (l2 + (1 : Int32)) < f3) : l1 < (1114111 : Int32) := by
  unfold own_R at hr
  have p1 := own_p1 (x := l1) (by omega)
  have p2 := own_p1 (x := l2) (by omega)
  have p3 := own_p1 (x := l3) (by omega)
  have m12 := own_mx l1 l2
  have m23 := own_mx l2 l3
  have m123 := own_mx (own_max l1 l2) l3
  have p12 := own_p1 (x := own_max l1 l2) (by omega)
  have p23 := own_p1 (x := own_max l2 l3) (by omega)
  have p123 := own_p1 (x := own_max (own_max l1 l2) l3) (by omega)
  rw [Int32.lt_iff_toInt_lt] at hm2 hm3
  rw [Int32.lt_iff_toInt_lt]
  simp only [Int32.reduceToInt]
  omega
theorem own_nf_am {f1 l1 f2 l2 f3 l3 : Int32} (hr : own_R f1 l1 f2 l2 f3 l3) (hm2 : (l1 + (1 : Int32)) < f2) (hm3 : ¬ (l2 + (1 : Int32)) < f3) (x : Int) : own_IN f1 l1 f2 l2 f3 l3 x ↔ ((f1.toInt ≤ x ∧ x ≤ l1.toInt) ∨ (f2.toInt ≤ x ∧ x ≤ (own_max l2 l3).toInt)) := by
  unfold own_R at hr
  have p1 := own_p1 (x := l1) (by omega)
  have p2 := own_p1 (x := l2) (by omega)
  have p3 := own_p1 (x := l3) (by omega)
  have m12 := own_mx l1 l2
  have m23 := own_mx l2 l3
  have m123 := own_mx (own_max l1 l2) l3
  have p12 := own_p1 (x := own_max l1 l2) (by omega)
  have p23 := own_p1 (x := own_max l2 l3) (by omega)
  have p123 := own_p1 (x := own_max (own_max l1 l2) l3) (by omega)
  rw [Int32.lt_iff_toInt_lt] at hm2 hm3
  unfold own_IN
  omega
theorem own_case_aml {f1 l1 f2 l2 f3 l3 : Int32} (hr : own_R f1 l1 f2 l2 f3 l3) (hm2 : (l1 + (1 : Int32)) < f2) (hm3 : ¬ (l2 + (1 : Int32)) < f3) (hmx : (own_max l2 l3) < (1114111 : Int32)) (x : Int32) : ¬ own_ch f1 l1 f2 l2 f3 l3 x = (0 : Int32) ↔ (x = f1 ∨ x = (l1 + (1 : Int32)) ∨ x = f2 ∨ x = ((own_max l2 l3) + (1 : Int32))) := by
  rw [own_chI, own_nf_am hr hm2 hm3, own_nf_am hr hm2 hm3]
  unfold own_R at hr
  have p1 := own_p1 (x := l1) (by omega)
  have p2 := own_p1 (x := l2) (by omega)
  have p3 := own_p1 (x := l3) (by omega)
  have m12 := own_mx l1 l2
  have m23 := own_mx l2 l3
  have m123 := own_mx (own_max l1 l2) l3
  have p12 := own_p1 (x := own_max l1 l2) (by omega)
  have p23 := own_p1 (x := own_max l2 l3) (by omega)
  have p123 := own_p1 (x := own_max (own_max l1 l2) l3) (by omega)
  rw [Int32.lt_iff_toInt_lt] at hm2 hm3
  rw [Int32.lt_iff_toInt_lt] at hmx
  simp only [Int32.reduceToInt] at hmx
  simp only [← Int32.toInt_inj]
  omega
theorem own_inc_aml {f1 l1 f2 l2 f3 l3 : Int32} (hr : own_R f1 l1 f2 l2 f3 l3) (hm2 : (l1 + (1 : Int32)) < f2) (hm3 : ¬ (l2 + (1 : Int32)) < f3) (hmx : (own_max l2 l3) < (1114111 : Int32)) : f1 < (l1 + (1 : Int32)) ∧ (l1 + (1 : Int32)) < f2 ∧ f2 < ((own_max l2 l3) + (1 : Int32)) := by
  unfold own_R at hr
  have p1 := own_p1 (x := l1) (by omega)
  have p2 := own_p1 (x := l2) (by omega)
  have p3 := own_p1 (x := l3) (by omega)
  have m12 := own_mx l1 l2
  have m23 := own_mx l2 l3
  have m123 := own_mx (own_max l1 l2) l3
  have p12 := own_p1 (x := own_max l1 l2) (by omega)
  have p23 := own_p1 (x := own_max l2 l3) (by omega)
  have p123 := own_p1 (x := own_max (own_max l1 l2) l3) (by omega)
  rw [Int32.lt_iff_toInt_lt] at hm2 hm3
  simp only [Int32.lt_iff_toInt_lt]
  omega
theorem own_total_aml {f1 l1 f2 l2 f3 l3 c1 c3 c5 : Int32} (hr : own_R f1 l1 f2 l2 f3 l3) (hm2 : (l1 + (1 : Int32)) < f2) (hm3 : ¬ (l2 + (1 : Int32)) < f3) (hmx : (own_max l2 l3) < (1114111 : Int32)) (e1 : (l1 + (1 : Int32)) = c1) (e3 : (l2 + (1 : Int32)) = c3) (e5 : (l3 + (1 : Int32)) = c5) : (own_s6 f1 l1 f2 l2 f3 l3 f1 c1 f2 c3 f3 c5) = ((4 : Int32)).toInt := by
  have hn : ([f1, (l1 + (1 : Int32)), f2, ((own_max l2 l3) + (1 : Int32))] : List Int32).Nodup := by
    simp only [List.nodup_cons, List.mem_cons, List.not_mem_nil, or_false, not_or, List.nodup_nil, and_true, not_false_eq_true]
    have hi := own_inc_aml hr hm2 hm3 hmx
    simp only [Int32.lt_iff_toInt_lt] at hi
    simp only [← Int32.toInt_inj]
    omega

  rw [own_tot hn (fun x => ?_)]
  · rfl
  · have hk := own_case_aml hr hm2 hm3 hmx x
    have m12 := own_mx l1 l2
    have m23 := own_mx l2 l3
    have m123 := own_mx (own_max l1 l2) l3
    subst e1 e3 e5
    rw [hk]
    simp only [List.mem_cons, List.not_mem_nil, or_false]
    constructor
    · intro q
      refine ⟨?_, q⟩
      rcases m12 with ⟨-, -, m12⟩ | ⟨-, -, m12⟩ <;> rcases m23 with ⟨-, -, m23⟩ | ⟨-, -, m23⟩ <;> rcases m123 with ⟨-, -, m123⟩ | ⟨-, -, m123⟩ <;> (try simp only [m12, m23, m123] at q m123 ⊢) <;> (try simp only [m12, m23, m123] at q ⊢) <;> (rcases q with q | q | q | q <;> simp [q])
    · exact fun q => q.2
theorem own_ok_aml_0 {f1 l1 f2 l2 f3 l3 : Int32} (hr : own_R f1 l1 f2 l2 f3 l3) (hm2 : (l1 + (1 : Int32)) < f2) (hm3 : ¬ (l2 + (1 : Int32)) < f3) (hmx : (own_max l2 l3) < (1114111 : Int32)) : ¬ (if (own_ch f1 l1 f2 l2 f3 l3 f1) = (0 : Int32) then (0 : Int32) else if f1 < (l1 + (1 : Int32)) then (1 : Int32) else (0 : Int32)) = (0 : Int32) := by
  have h1 : ¬ own_ch f1 l1 f2 l2 f3 l3 f1 = (0 : Int32) := (own_case_aml hr hm2 hm3 hmx _).mpr (by simp)
  rw [if_neg h1]
  rw [if_pos ((own_inc_aml hr hm2 hm3 hmx).1)]
  decide
theorem own_ok_aml_1 {f1 l1 f2 l2 f3 l3 : Int32} (hr : own_R f1 l1 f2 l2 f3 l3) (hm2 : (l1 + (1 : Int32)) < f2) (hm3 : ¬ (l2 + (1 : Int32)) < f3) (hmx : (own_max l2 l3) < (1114111 : Int32)) : ¬ (if (own_ch f1 l1 f2 l2 f3 l3 (l1 + (1 : Int32))) = (0 : Int32) then (0 : Int32) else if (l1 + (1 : Int32)) < f2 then (1 : Int32) else (0 : Int32)) = (0 : Int32) := by
  have h1 : ¬ own_ch f1 l1 f2 l2 f3 l3 (l1 + (1 : Int32)) = (0 : Int32) := (own_case_aml hr hm2 hm3 hmx _).mpr (by simp)
  rw [if_neg h1]
  rw [if_pos ((own_inc_aml hr hm2 hm3 hmx).2.1)]
  decide
theorem own_ok_aml_2 {f1 l1 f2 l2 f3 l3 : Int32} (hr : own_R f1 l1 f2 l2 f3 l3) (hm2 : (l1 + (1 : Int32)) < f2) (hm3 : ¬ (l2 + (1 : Int32)) < f3) (hmx : (own_max l2 l3) < (1114111 : Int32)) : ¬ (if (own_ch f1 l1 f2 l2 f3 l3 f2) = (0 : Int32) then (0 : Int32) else if f2 < ((own_max l2 l3) + (1 : Int32)) then (1 : Int32) else (0 : Int32)) = (0 : Int32) := by
  have h1 : ¬ own_ch f1 l1 f2 l2 f3 l3 f2 = (0 : Int32) := (own_case_aml hr hm2 hm3 hmx _).mpr (by simp)
  rw [if_neg h1]
  rw [if_pos ((own_inc_aml hr hm2 hm3 hmx).2.2)]
  decide
theorem own_ok_aml_3 {f1 l1 f2 l2 f3 l3 : Int32} (hr : own_R f1 l1 f2 l2 f3 l3) (hm2 : (l1 + (1 : Int32)) < f2) (hm3 : ¬ (l2 + (1 : Int32)) < f3) (hmx : (own_max l2 l3) < (1114111 : Int32)) : ¬ (if (own_ch f1 l1 f2 l2 f3 l3 ((own_max l2 l3) + (1 : Int32))) = (0 : Int32) then (0 : Int32) else (1 : Int32)) = (0 : Int32) := by
  have h1 : ¬ own_ch f1 l1 f2 l2 f3 l3 ((own_max l2 l3) + (1 : Int32)) = (0 : Int32) := (own_case_aml hr hm2 hm3 hmx _).mpr (by simp)
  rw [if_neg h1]
  decide
theorem own_case_ame {f1 l1 f2 l2 f3 l3 : Int32} (hr : own_R f1 l1 f2 l2 f3 l3) (hm2 : (l1 + (1 : Int32)) < f2) (hm3 : ¬ (l2 + (1 : Int32)) < f3) (hmx : ¬ (own_max l2 l3) < (1114111 : Int32)) (x : Int32) : ¬ own_ch f1 l1 f2 l2 f3 l3 x = (0 : Int32) ↔ (x = f1 ∨ x = (l1 + (1 : Int32)) ∨ x = f2) := by
  rw [own_chI, own_nf_am hr hm2 hm3, own_nf_am hr hm2 hm3]
  unfold own_R at hr
  have p1 := own_p1 (x := l1) (by omega)
  have p2 := own_p1 (x := l2) (by omega)
  have p3 := own_p1 (x := l3) (by omega)
  have m12 := own_mx l1 l2
  have m23 := own_mx l2 l3
  have m123 := own_mx (own_max l1 l2) l3
  have p12 := own_p1 (x := own_max l1 l2) (by omega)
  have p23 := own_p1 (x := own_max l2 l3) (by omega)
  have p123 := own_p1 (x := own_max (own_max l1 l2) l3) (by omega)
  rw [Int32.lt_iff_toInt_lt] at hm2 hm3
  rw [Int32.lt_iff_toInt_lt] at hmx
  simp only [Int32.reduceToInt] at hmx
  simp only [← Int32.toInt_inj]
  omega
theorem own_inc_ame {f1 l1 f2 l2 f3 l3 : Int32} (hr : own_R f1 l1 f2 l2 f3 l3) (hm2 : (l1 + (1 : Int32)) < f2) (hm3 : ¬ (l2 + (1 : Int32)) < f3) (hmx : ¬ (own_max l2 l3) < (1114111 : Int32)) : f1 < (l1 + (1 : Int32)) ∧ (l1 + (1 : Int32)) < f2 := by
  unfold own_R at hr
  have p1 := own_p1 (x := l1) (by omega)
  have p2 := own_p1 (x := l2) (by omega)
  have p3 := own_p1 (x := l3) (by omega)
  have m12 := own_mx l1 l2
  have m23 := own_mx l2 l3
  have m123 := own_mx (own_max l1 l2) l3
  have p12 := own_p1 (x := own_max l1 l2) (by omega)
  have p23 := own_p1 (x := own_max l2 l3) (by omega)
  have p123 := own_p1 (x := own_max (own_max l1 l2) l3) (by omega)
  rw [Int32.lt_iff_toInt_lt] at hm2 hm3
  simp only [Int32.lt_iff_toInt_lt]
  omega
theorem own_total_ame {f1 l1 f2 l2 f3 l3 c1 c3 c5 : Int32} (hr : own_R f1 l1 f2 l2 f3 l3) (hm2 : (l1 + (1 : Int32)) < f2) (hm3 : ¬ (l2 + (1 : Int32)) < f3) (hmx : ¬ (own_max l2 l3) < (1114111 : Int32)) (e1 : (l1 + (1 : Int32)) = c1) (e3 : (l2 + (1 : Int32)) = c3) (e5 : (l3 + (1 : Int32)) = c5) : (own_s6 f1 l1 f2 l2 f3 l3 f1 c1 f2 c3 f3 c5) = ((3 : Int32)).toInt := by
  have hn : ([f1, (l1 + (1 : Int32)), f2] : List Int32).Nodup := by
    simp only [List.nodup_cons, List.mem_cons, List.not_mem_nil, or_false, not_or, List.nodup_nil, and_true, not_false_eq_true]
    have hi := own_inc_ame hr hm2 hm3 hmx
    simp only [Int32.lt_iff_toInt_lt] at hi
    simp only [← Int32.toInt_inj]
    omega

  rw [own_tot hn (fun x => ?_)]
  · rfl
  · have hk := own_case_ame hr hm2 hm3 hmx x
    have m12 := own_mx l1 l2
    have m23 := own_mx l2 l3
    have m123 := own_mx (own_max l1 l2) l3
    subst e1 e3 e5
    rw [hk]
    simp only [List.mem_cons, List.not_mem_nil, or_false]
    constructor
    · intro q
      refine ⟨?_, q⟩
      rcases m12 with ⟨-, -, m12⟩ | ⟨-, -, m12⟩ <;> rcases m23 with ⟨-, -, m23⟩ | ⟨-, -, m23⟩ <;> rcases m123 with ⟨-, -, m123⟩ | ⟨-, -, m123⟩ <;> (try simp only [m12, m23, m123] at q m123 ⊢) <;> (try simp only [m12, m23, m123] at q ⊢) <;> (rcases q with q | q | q <;> simp [q])
    · exact fun q => q.2
theorem own_ok_ame_0 {f1 l1 f2 l2 f3 l3 : Int32} (hr : own_R f1 l1 f2 l2 f3 l3) (hm2 : (l1 + (1 : Int32)) < f2) (hm3 : ¬ (l2 + (1 : Int32)) < f3) (hmx : ¬ (own_max l2 l3) < (1114111 : Int32)) : ¬ (if (own_ch f1 l1 f2 l2 f3 l3 f1) = (0 : Int32) then (0 : Int32) else if f1 < (l1 + (1 : Int32)) then (1 : Int32) else (0 : Int32)) = (0 : Int32) := by
  have h1 : ¬ own_ch f1 l1 f2 l2 f3 l3 f1 = (0 : Int32) := (own_case_ame hr hm2 hm3 hmx _).mpr (by simp)
  rw [if_neg h1]
  rw [if_pos ((own_inc_ame hr hm2 hm3 hmx).1)]
  decide
theorem own_ok_ame_1 {f1 l1 f2 l2 f3 l3 : Int32} (hr : own_R f1 l1 f2 l2 f3 l3) (hm2 : (l1 + (1 : Int32)) < f2) (hm3 : ¬ (l2 + (1 : Int32)) < f3) (hmx : ¬ (own_max l2 l3) < (1114111 : Int32)) : ¬ (if (own_ch f1 l1 f2 l2 f3 l3 (l1 + (1 : Int32))) = (0 : Int32) then (0 : Int32) else if (l1 + (1 : Int32)) < f2 then (1 : Int32) else (0 : Int32)) = (0 : Int32) := by
  have h1 : ¬ own_ch f1 l1 f2 l2 f3 l3 (l1 + (1 : Int32)) = (0 : Int32) := (own_case_ame hr hm2 hm3 hmx _).mpr (by simp)
  rw [if_neg h1]
  rw [if_pos ((own_inc_ame hr hm2 hm3 hmx).2)]
  decide
theorem own_ok_ame_2 {f1 l1 f2 l2 f3 l3 : Int32} (hr : own_R f1 l1 f2 l2 f3 l3) (hm2 : (l1 + (1 : Int32)) < f2) (hm3 : ¬ (l2 + (1 : Int32)) < f3) (hmx : ¬ (own_max l2 l3) < (1114111 : Int32)) : ¬ (if (own_ch f1 l1 f2 l2 f3 l3 f2) = (0 : Int32) then (0 : Int32) else (1 : Int32)) = (0 : Int32) := by
  have h1 : ¬ own_ch f1 l1 f2 l2 f3 l3 f2 = (0 : Int32) := (own_case_ame hr hm2 hm3 hmx _).mpr (by simp)
  rw [if_neg h1]
  decide
theorem own_lt_aa_0 {f1 l1 f2 l2 f3 l3 : Int32} (hr : own_R f1 l1 f2 l2 f3 l3) (hm2 : (l1 + (1 : Int32)) < f2) (hm3 : (l2 + (1 : Int32)) < f3) : l1 < (1114111 : Int32) := by
  unfold own_R at hr
  have p1 := own_p1 (x := l1) (by omega)
  have p2 := own_p1 (x := l2) (by omega)
  have p3 := own_p1 (x := l3) (by omega)
  have m12 := own_mx l1 l2
  have m23 := own_mx l2 l3
  have m123 := own_mx (own_max l1 l2) l3
  have p12 := own_p1 (x := own_max l1 l2) (by omega)
  have p23 := own_p1 (x := own_max l2 l3) (by omega)
  have p123 := own_p1 (x := own_max (own_max l1 l2) l3) (by omega)
  rw [Int32.lt_iff_toInt_lt] at hm2 hm3
  rw [Int32.lt_iff_toInt_lt]
  simp only [Int32.reduceToInt]
  omega
theorem own_lt_aa_1 {f1 l1 f2 l2 f3 l3 : Int32} (hr : own_R f1 l1 f2 l2 f3 l3) (hm2 : (l1 + (1 : Int32)) < f2) (hm3 : (l2 + (1 : Int32)) < f3) : l2 < (1114111 : Int32) := by
  unfold own_R at hr
  have p1 := own_p1 (x := l1) (by omega)
  have p2 := own_p1 (x := l2) (by omega)
  have p3 := own_p1 (x := l3) (by omega)
  have m12 := own_mx l1 l2
  have m23 := own_mx l2 l3
  have m123 := own_mx (own_max l1 l2) l3
  have p12 := own_p1 (x := own_max l1 l2) (by omega)
  have p23 := own_p1 (x := own_max l2 l3) (by omega)
  have p123 := own_p1 (x := own_max (own_max l1 l2) l3) (by omega)
  rw [Int32.lt_iff_toInt_lt] at hm2 hm3
  rw [Int32.lt_iff_toInt_lt]
  simp only [Int32.reduceToInt]
  omega
theorem own_nf_aa {f1 l1 f2 l2 f3 l3 : Int32} (hr : own_R f1 l1 f2 l2 f3 l3) (hm2 : (l1 + (1 : Int32)) < f2) (hm3 : (l2 + (1 : Int32)) < f3) (x : Int) : own_IN f1 l1 f2 l2 f3 l3 x ↔ ((f1.toInt ≤ x ∧ x ≤ l1.toInt) ∨ (f2.toInt ≤ x ∧ x ≤ l2.toInt) ∨ (f3.toInt ≤ x ∧ x ≤ l3.toInt)) := by
  unfold own_R at hr
  have p1 := own_p1 (x := l1) (by omega)
  have p2 := own_p1 (x := l2) (by omega)
  have p3 := own_p1 (x := l3) (by omega)
  have m12 := own_mx l1 l2
  have m23 := own_mx l2 l3
  have m123 := own_mx (own_max l1 l2) l3
  have p12 := own_p1 (x := own_max l1 l2) (by omega)
  have p23 := own_p1 (x := own_max l2 l3) (by omega)
  have p123 := own_p1 (x := own_max (own_max l1 l2) l3) (by omega)
  rw [Int32.lt_iff_toInt_lt] at hm2 hm3
  unfold own_IN
  omega
theorem own_case_aal {f1 l1 f2 l2 f3 l3 : Int32} (hr : own_R f1 l1 f2 l2 f3 l3) (hm2 : (l1 + (1 : Int32)) < f2) (hm3 : (l2 + (1 : Int32)) < f3) (hmx : l3 < (1114111 : Int32)) (x : Int32) : ¬ own_ch f1 l1 f2 l2 f3 l3 x = (0 : Int32) ↔ (x = f1 ∨ x = (l1 + (1 : Int32)) ∨ x = f2 ∨ x = (l2 + (1 : Int32)) ∨ x = f3 ∨ x = (l3 + (1 : Int32))) := by
  rw [own_chI, own_nf_aa hr hm2 hm3, own_nf_aa hr hm2 hm3]
  unfold own_R at hr
  have p1 := own_p1 (x := l1) (by omega)
  have p2 := own_p1 (x := l2) (by omega)
  have p3 := own_p1 (x := l3) (by omega)
  have m12 := own_mx l1 l2
  have m23 := own_mx l2 l3
  have m123 := own_mx (own_max l1 l2) l3
  have p12 := own_p1 (x := own_max l1 l2) (by omega)
  have p23 := own_p1 (x := own_max l2 l3) (by omega)
  have p123 := own_p1 (x := own_max (own_max l1 l2) l3) (by omega)
  rw [Int32.lt_iff_toInt_lt] at hm2 hm3
  rw [Int32.lt_iff_toInt_lt] at hmx
  simp only [Int32.reduceToInt] at hmx
  simp only [← Int32.toInt_inj]
  omega
theorem own_inc_aal {f1 l1 f2 l2 f3 l3 : Int32} (hr : own_R f1 l1 f2 l2 f3 l3) (hm2 : (l1 + (1 : Int32)) < f2) (hm3 : (l2 + (1 : Int32)) < f3) (hmx : l3 < (1114111 : Int32)) : f1 < (l1 + (1 : Int32)) ∧ (l1 + (1 : Int32)) < f2 ∧ f2 < (l2 + (1 : Int32)) ∧ (l2 + (1 : Int32)) < f3 ∧ f3 < (l3 + (1 : Int32)) := by
  unfold own_R at hr
  have p1 := own_p1 (x := l1) (by omega)
  have p2 := own_p1 (x := l2) (by omega)
  have p3 := own_p1 (x := l3) (by omega)
  have m12 := own_mx l1 l2
  have m23 := own_mx l2 l3
  have m123 := own_mx (own_max l1 l2) l3
  have p12 := own_p1 (x := own_max l1 l2) (by omega)
  have p23 := own_p1 (x := own_max l2 l3) (by omega)
  have p123 := own_p1 (x := own_max (own_max l1 l2) l3) (by omega)
  rw [Int32.lt_iff_toInt_lt] at hm2 hm3
  simp only [Int32.lt_iff_toInt_lt]
  omega
theorem own_total_aal {f1 l1 f2 l2 f3 l3 c1 c3 c5 : Int32} (hr : own_R f1 l1 f2 l2 f3 l3) (hm2 : (l1 + (1 : Int32)) < f2) (hm3 : (l2 + (1 : Int32)) < f3) (hmx : l3 < (1114111 : Int32)) (e1 : (l1 + (1 : Int32)) = c1) (e3 : (l2 + (1 : Int32)) = c3) (e5 : (l3 + (1 : Int32)) = c5) : (own_s6 f1 l1 f2 l2 f3 l3 f1 c1 f2 c3 f3 c5) = ((6 : Int32)).toInt := by
  have hn : ([f1, (l1 + (1 : Int32)), f2, (l2 + (1 : Int32)), f3, (l3 + (1 : Int32))] : List Int32).Nodup := by
    simp only [List.nodup_cons, List.mem_cons, List.not_mem_nil, or_false, not_or, List.nodup_nil, and_true, not_false_eq_true]
    have hi := own_inc_aal hr hm2 hm3 hmx
    simp only [Int32.lt_iff_toInt_lt] at hi
    simp only [← Int32.toInt_inj]
    omega

  rw [own_tot hn (fun x => ?_)]
  · rfl
  · have hk := own_case_aal hr hm2 hm3 hmx x
    have m12 := own_mx l1 l2
    have m23 := own_mx l2 l3
    have m123 := own_mx (own_max l1 l2) l3
    subst e1 e3 e5
    rw [hk]
    simp only [List.mem_cons, List.not_mem_nil, or_false]
    constructor
    · intro q
      refine ⟨?_, q⟩
      rcases m12 with ⟨-, -, m12⟩ | ⟨-, -, m12⟩ <;> rcases m23 with ⟨-, -, m23⟩ | ⟨-, -, m23⟩ <;> rcases m123 with ⟨-, -, m123⟩ | ⟨-, -, m123⟩ <;> (try simp only [m12, m23, m123] at q m123 ⊢) <;> (try simp only [m12, m23, m123] at q ⊢) <;> (rcases q with q | q | q | q | q | q <;> simp [q])
    · exact fun q => q.2
theorem own_ok_aal_0 {f1 l1 f2 l2 f3 l3 : Int32} (hr : own_R f1 l1 f2 l2 f3 l3) (hm2 : (l1 + (1 : Int32)) < f2) (hm3 : (l2 + (1 : Int32)) < f3) (hmx : l3 < (1114111 : Int32)) : ¬ (if (own_ch f1 l1 f2 l2 f3 l3 f1) = (0 : Int32) then (0 : Int32) else if f1 < (l1 + (1 : Int32)) then (1 : Int32) else (0 : Int32)) = (0 : Int32) := by
  have h1 : ¬ own_ch f1 l1 f2 l2 f3 l3 f1 = (0 : Int32) := (own_case_aal hr hm2 hm3 hmx _).mpr (by simp)
  rw [if_neg h1]
  rw [if_pos ((own_inc_aal hr hm2 hm3 hmx).1)]
  decide
theorem own_ok_aal_1 {f1 l1 f2 l2 f3 l3 : Int32} (hr : own_R f1 l1 f2 l2 f3 l3) (hm2 : (l1 + (1 : Int32)) < f2) (hm3 : (l2 + (1 : Int32)) < f3) (hmx : l3 < (1114111 : Int32)) : ¬ (if (own_ch f1 l1 f2 l2 f3 l3 (l1 + (1 : Int32))) = (0 : Int32) then (0 : Int32) else if (l1 + (1 : Int32)) < f2 then (1 : Int32) else (0 : Int32)) = (0 : Int32) := by
  have h1 : ¬ own_ch f1 l1 f2 l2 f3 l3 (l1 + (1 : Int32)) = (0 : Int32) := (own_case_aal hr hm2 hm3 hmx _).mpr (by simp)
  rw [if_neg h1]
  rw [if_pos ((own_inc_aal hr hm2 hm3 hmx).2.1)]
  decide
theorem own_ok_aal_2 {f1 l1 f2 l2 f3 l3 : Int32} (hr : own_R f1 l1 f2 l2 f3 l3) (hm2 : (l1 + (1 : Int32)) < f2) (hm3 : (l2 + (1 : Int32)) < f3) (hmx : l3 < (1114111 : Int32)) : ¬ (if (own_ch f1 l1 f2 l2 f3 l3 f2) = (0 : Int32) then (0 : Int32) else if f2 < (l2 + (1 : Int32)) then (1 : Int32) else (0 : Int32)) = (0 : Int32) := by
  have h1 : ¬ own_ch f1 l1 f2 l2 f3 l3 f2 = (0 : Int32) := (own_case_aal hr hm2 hm3 hmx _).mpr (by simp)
  rw [if_neg h1]
  rw [if_pos ((own_inc_aal hr hm2 hm3 hmx).2.2.1)]
  decide
theorem own_ok_aal_3 {f1 l1 f2 l2 f3 l3 : Int32} (hr : own_R f1 l1 f2 l2 f3 l3) (hm2 : (l1 + (1 : Int32)) < f2) (hm3 : (l2 + (1 : Int32)) < f3) (hmx : l3 < (1114111 : Int32)) : ¬ (if (own_ch f1 l1 f2 l2 f3 l3 (l2 + (1 : Int32))) = (0 : Int32) then (0 : Int32) else if (l2 + (1 : Int32)) < f3 then (1 : Int32) else (0 : Int32)) = (0 : Int32) := by
  have h1 : ¬ own_ch f1 l1 f2 l2 f3 l3 (l2 + (1 : Int32)) = (0 : Int32) := (own_case_aal hr hm2 hm3 hmx _).mpr (by simp)
  rw [if_neg h1]
  rw [if_pos ((own_inc_aal hr hm2 hm3 hmx).2.2.2.1)]
  decide
theorem own_ok_aal_4 {f1 l1 f2 l2 f3 l3 : Int32} (hr : own_R f1 l1 f2 l2 f3 l3) (hm2 : (l1 + (1 : Int32)) < f2) (hm3 : (l2 + (1 : Int32)) < f3) (hmx : l3 < (1114111 : Int32)) : ¬ (if (own_ch f1 l1 f2 l2 f3 l3 f3) = (0 : Int32) then (0 : Int32) else if f3 < (l3 + (1 : Int32)) then (1 : Int32) else (0 : Int32)) = (0 : Int32) := by
  have h1 : ¬ own_ch f1 l1 f2 l2 f3 l3 f3 = (0 : Int32) := (own_case_aal hr hm2 hm3 hmx _).mpr (by simp)
  rw [if_neg h1]
  rw [if_pos ((own_inc_aal hr hm2 hm3 hmx).2.2.2.2)]
  decide
theorem own_ok_aal_5 {f1 l1 f2 l2 f3 l3 : Int32} (hr : own_R f1 l1 f2 l2 f3 l3) (hm2 : (l1 + (1 : Int32)) < f2) (hm3 : (l2 + (1 : Int32)) < f3) (hmx : l3 < (1114111 : Int32)) : ¬ (if (own_ch f1 l1 f2 l2 f3 l3 (l3 + (1 : Int32))) = (0 : Int32) then (0 : Int32) else (1 : Int32)) = (0 : Int32) := by
  have h1 : ¬ own_ch f1 l1 f2 l2 f3 l3 (l3 + (1 : Int32)) = (0 : Int32) := (own_case_aal hr hm2 hm3 hmx _).mpr (by simp)
  rw [if_neg h1]
  decide
theorem own_case_aae {f1 l1 f2 l2 f3 l3 : Int32} (hr : own_R f1 l1 f2 l2 f3 l3) (hm2 : (l1 + (1 : Int32)) < f2) (hm3 : (l2 + (1 : Int32)) < f3) (hmx : ¬ l3 < (1114111 : Int32)) (x : Int32) : ¬ own_ch f1 l1 f2 l2 f3 l3 x = (0 : Int32) ↔ (x = f1 ∨ x = (l1 + (1 : Int32)) ∨ x = f2 ∨ x = (l2 + (1 : Int32)) ∨ x = f3) := by
  rw [own_chI, own_nf_aa hr hm2 hm3, own_nf_aa hr hm2 hm3]
  unfold own_R at hr
  have p1 := own_p1 (x := l1) (by omega)
  have p2 := own_p1 (x := l2) (by omega)
  have p3 := own_p1 (x := l3) (by omega)
  have m12 := own_mx l1 l2
  have m23 := own_mx l2 l3
  have m123 := own_mx (own_max l1 l2) l3
  have p12 := own_p1 (x := own_max l1 l2) (by omega)
  have p23 := own_p1 (x := own_max l2 l3) (by omega)
  have p123 := own_p1 (x := own_max (own_max l1 l2) l3) (by omega)
  rw [Int32.lt_iff_toInt_lt] at hm2 hm3
  rw [Int32.lt_iff_toInt_lt] at hmx
  simp only [Int32.reduceToInt] at hmx
  simp only [← Int32.toInt_inj]
  omega
theorem own_inc_aae {f1 l1 f2 l2 f3 l3 : Int32} (hr : own_R f1 l1 f2 l2 f3 l3) (hm2 : (l1 + (1 : Int32)) < f2) (hm3 : (l2 + (1 : Int32)) < f3) (hmx : ¬ l3 < (1114111 : Int32)) : f1 < (l1 + (1 : Int32)) ∧ (l1 + (1 : Int32)) < f2 ∧ f2 < (l2 + (1 : Int32)) ∧ (l2 + (1 : Int32)) < f3 := by
  unfold own_R at hr
  have p1 := own_p1 (x := l1) (by omega)
  have p2 := own_p1 (x := l2) (by omega)
  have p3 := own_p1 (x := l3) (by omega)
  have m12 := own_mx l1 l2
  have m23 := own_mx l2 l3
  have m123 := own_mx (own_max l1 l2) l3
  have p12 := own_p1 (x := own_max l1 l2) (by omega)
  have p23 := own_p1 (x := own_max l2 l3) (by omega)
  have p123 := own_p1 (x := own_max (own_max l1 l2) l3) (by omega)
  rw [Int32.lt_iff_toInt_lt] at hm2 hm3
  simp only [Int32.lt_iff_toInt_lt]
  omega
theorem own_total_aae {f1 l1 f2 l2 f3 l3 c1 c3 c5 : Int32} (hr : own_R f1 l1 f2 l2 f3 l3) (hm2 : (l1 + (1 : Int32)) < f2) (hm3 : (l2 + (1 : Int32)) < f3) (hmx : ¬ l3 < (1114111 : Int32)) (e1 : (l1 + (1 : Int32)) = c1) (e3 : (l2 + (1 : Int32)) = c3) (e5 : (l3 + (1 : Int32)) = c5) : (own_s6 f1 l1 f2 l2 f3 l3 f1 c1 f2 c3 f3 c5) = ((5 : Int32)).toInt := by
  have hn : ([f1, (l1 + (1 : Int32)), f2, (l2 + (1 : Int32)), f3] : List Int32).Nodup := by
    simp only [List.nodup_cons, List.mem_cons, List.not_mem_nil, or_false, not_or, List.nodup_nil, and_true, not_false_eq_true]
    have hi := own_inc_aae hr hm2 hm3 hmx
    simp only [Int32.lt_iff_toInt_lt] at hi
    simp only [← Int32.toInt_inj]
    omega

  rw [own_tot hn (fun x => ?_)]
  · rfl
  · have hk := own_case_aae hr hm2 hm3 hmx x
    have m12 := own_mx l1 l2
    have m23 := own_mx l2 l3
    have m123 := own_mx (own_max l1 l2) l3
    subst e1 e3 e5
    rw [hk]
    simp only [List.mem_cons, List.not_mem_nil, or_false]
    constructor
    · intro q
      refine ⟨?_, q⟩
      rcases m12 with ⟨-, -, m12⟩ | ⟨-, -, m12⟩ <;> rcases m23 with ⟨-, -, m23⟩ | ⟨-, -, m23⟩ <;> rcases m123 with ⟨-, -, m123⟩ | ⟨-, -, m123⟩ <;> (try simp only [m12, m23, m123] at q m123 ⊢) <;> (try simp only [m12, m23, m123] at q ⊢) <;> (rcases q with q | q | q | q | q <;> simp [q])
    · exact fun q => q.2
theorem own_ok_aae_0 {f1 l1 f2 l2 f3 l3 : Int32} (hr : own_R f1 l1 f2 l2 f3 l3) (hm2 : (l1 + (1 : Int32)) < f2) (hm3 : (l2 + (1 : Int32)) < f3) (hmx : ¬ l3 < (1114111 : Int32)) : ¬ (if (own_ch f1 l1 f2 l2 f3 l3 f1) = (0 : Int32) then (0 : Int32) else if f1 < (l1 + (1 : Int32)) then (1 : Int32) else (0 : Int32)) = (0 : Int32) := by
  have h1 : ¬ own_ch f1 l1 f2 l2 f3 l3 f1 = (0 : Int32) := (own_case_aae hr hm2 hm3 hmx _).mpr (by simp)
  rw [if_neg h1]
  rw [if_pos ((own_inc_aae hr hm2 hm3 hmx).1)]
  decide
theorem own_ok_aae_1 {f1 l1 f2 l2 f3 l3 : Int32} (hr : own_R f1 l1 f2 l2 f3 l3) (hm2 : (l1 + (1 : Int32)) < f2) (hm3 : (l2 + (1 : Int32)) < f3) (hmx : ¬ l3 < (1114111 : Int32)) : ¬ (if (own_ch f1 l1 f2 l2 f3 l3 (l1 + (1 : Int32))) = (0 : Int32) then (0 : Int32) else if (l1 + (1 : Int32)) < f2 then (1 : Int32) else (0 : Int32)) = (0 : Int32) := by
  have h1 : ¬ own_ch f1 l1 f2 l2 f3 l3 (l1 + (1 : Int32)) = (0 : Int32) := (own_case_aae hr hm2 hm3 hmx _).mpr (by simp)
  rw [if_neg h1]
  rw [if_pos ((own_inc_aae hr hm2 hm3 hmx).2.1)]
  decide
theorem own_ok_aae_2 {f1 l1 f2 l2 f3 l3 : Int32} (hr : own_R f1 l1 f2 l2 f3 l3) (hm2 : (l1 + (1 : Int32)) < f2) (hm3 : (l2 + (1 : Int32)) < f3) (hmx : ¬ l3 < (1114111 : Int32)) : ¬ (if (own_ch f1 l1 f2 l2 f3 l3 f2) = (0 : Int32) then (0 : Int32) else if f2 < (l2 + (1 : Int32)) then (1 : Int32) else (0 : Int32)) = (0 : Int32) := by
  have h1 : ¬ own_ch f1 l1 f2 l2 f3 l3 f2 = (0 : Int32) := (own_case_aae hr hm2 hm3 hmx _).mpr (by simp)
  rw [if_neg h1]
  rw [if_pos ((own_inc_aae hr hm2 hm3 hmx).2.2.1)]
  decide
theorem own_ok_aae_3 {f1 l1 f2 l2 f3 l3 : Int32} (hr : own_R f1 l1 f2 l2 f3 l3) (hm2 : (l1 + (1 : Int32)) < f2) (hm3 : (l2 + (1 : Int32)) < f3) (hmx : ¬ l3 < (1114111 : Int32)) : ¬ (if (own_ch f1 l1 f2 l2 f3 l3 (l2 + (1 : Int32))) = (0 : Int32) then (0 : Int32) else if (l2 + (1 : Int32)) < f3 then (1 : Int32) else (0 : Int32)) = (0 : Int32) := by
  have h1 : ¬ own_ch f1 l1 f2 l2 f3 l3 (l2 + (1 : Int32)) = (0 : Int32) := (own_case_aae hr hm2 hm3 hmx _).mpr (by simp)
  rw [if_neg h1]
  rw [if_pos ((own_inc_aae hr hm2 hm3 hmx).2.2.2)]
  decide
theorem own_ok_aae_4 {f1 l1 f2 l2 f3 l3 : Int32} (hr : own_R f1 l1 f2 l2 f3 l3) (hm2 : (l1 + (1 : Int32)) < f2) (hm3 : (l2 + (1 : Int32)) < f3) (hmx : ¬ l3 < (1114111 : Int32)) : ¬ (if (own_ch f1 l1 f2 l2 f3 l3 f3) = (0 : Int32) then (0 : Int32) else (1 : Int32)) = (0 : Int32) := by
  have h1 : ¬ own_ch f1 l1 f2 l2 f3 l3 f3 = (0 : Int32) := (own_case_aae hr hm2 hm3 hmx _).mpr (by simp)
  rw [if_neg h1]
  decide
theorem own_d4_0 : decode jdk_29_method_65_code 0 = .ok (.iload_n 0, 1) := by decide +kernel
theorem own_d4_1 : decode jdk_29_method_65_code 1 = .ok (.iload_n 1, 1) := by decide +kernel
theorem own_d4_2 : decode jdk_29_method_65_code 2 = .ok (.if_icmp .lt 7, 3) := by decide +kernel
theorem own_d4_9 : decode jdk_29_method_65_code 9 = .ok (.iload_n 1, 1) := by decide +kernel
theorem own_d4_10 : decode jdk_29_method_65_code 10 = .ok (.ireturn, 1) := by decide +kernel
theorem own_d4_5 : decode jdk_29_method_65_code 5 = .ok (.iload_n 0, 1) := by decide +kernel
theorem own_d4_6 : decode jdk_29_method_65_code 6 = .ok (.goto 4, 3) := by decide +kernel
theorem own_ef4_max (m : MethodId) (p0 : Int32) (p1 : Int32) : entryFrame m #[(.int p0), (.int p1)] 2 = mkF m 0 #[iv p0, iv p1] [] := by first | (simp [entryFrame, mkF, argsToLocals, Value.category]; done) | rfl
def Q_max (Z : State) (p0 : Int32) (p1 : Int32) (h0 : Heap) (n0 : Nat) (v : Option Value) (h : Heap) (L : List Loc) : Prop := v = some (.int (own_max p0 p1)) ∧ Fr n0 L ∧ h = h0
set_option maxRecDepth 65536 in
set_option maxHeartbeats 40000000 in
theorem rm_max (l : Launch) (Z : State) (av0 : Array Value) (hw : ∀ d ∈ tables_1, d.before av0 Z = true) (ws : List Jvm.Cond) (p0 : Int32) (p1 : Int32) (h0 : Heap) (n0 : Nat) (Z0 : n0 ≤ h0.size) :
    MetFree l (⟨"java/lang/Math", "max", "(II)I"⟩ : MethodName) (head1 (Jvm.Cond.code (⟨"java/lang/Math", "max", "(II)I"⟩ : MethodName) jdk_29_method_65_code 2 (some .int) :: ws) ({ frames := 0, cells := 0, slots := 0, locals := 0 } : Room)) (fun a U => a = #[(.int p0), (.int p1)] ∧ Z.Warmed39 U.vm ∧ U.heap = h0) (fun _ _ _ _ _ => True) (fun _ U o U' => ∃ v L, o = .returned v ∧ (Q_max Z p0 p1 h0 n0) v U'.heap L ∧ FrameEnd U o U' L ({ frames := 0, cells := 0, slots := 0, locals := 0 } : Room).cells ({ frames := 0, cells := 0, slots := 0, locals := 0 } : Room).slots) := by
  refine MetFree.of_bodySF (Jvm.Free.JP.mathPlain rfl (by decide +kernel)) hisR ?_
  intro p e s m args below meth c s₁ Bd hml0 hP hK
  obtain ⟨rfl, hZ, hh⟩ := hP
  have hx := Bd.exec
  have hby := Bd.bytes
  have hml : c.maxLocals = 2 := hml0
  have hown : s.vm.findClass "java/lang/Math" = some m.cls := findClass_of_methodNamed Bd.named
  have hnm := (name_of_methodNamed Bd.named Bd.method).1
  have hlk : meth.locks = false := BodyLoose.notSynchronized Bd
  have X0 : Stand p l e ({ frames := 0, cells := 0, slots := 0, locals := 0 } : Room) s m #[(.int p0), (.int p1)] below meth c s₁ [] 0 0 := Stand.of_body Bd
  have e0 : s₁.heap = h0 := by rw [← hh, Bd.state]; rfl
  have N0 := Fr.nil n0
  have K0 : Keep h0 h0 [] := Keep.refl _ _
  have ww : ∀ (k : Nat) {d : Jvm.Cond}, tables_1[k]? = some d → d.before av0 Z = true := fun k d h => hw d (List.mem_of_getElem? h)
  show ownEnds p e below s (Q_max Z p0 p1 h0 n0) ({ frames := 0, cells := 0, slots := 0, locals := 0 } : Room).cells ({ frames := 0, cells := 0, slots := 0, locals := 0 } : Room).slots s₁ (entryFrame m #[(.int p0), (.int p1)] 2)
  refine ownCast (own_ef4_max m p0 p1) ?_
  refine ow_iloadN (q := 1) X0 hx (hb hby own_d4_0) rfl rfl ?_
  refine ow_iloadN (q := 2) X0 hx (hb hby own_d4_1) rfl rfl ?_
  by_cases hc2_1 : p0 < p1
  · refine ow_icmpYes (q := 9) X0 hx (hb hby own_d4_2) (Jvm.Free.XT.ii_lt_t hc2_1) (by decide) (by decide) ?_
    refine ow_iloadN (q := 10) X0 hx (hb hby own_d4_9) rfl rfl ?_
    refine ownRetI X0 hx Bd.returns (hb hby own_d4_10) hlk (by decide) (by decide) ?_
    rw [e0]
    refine ⟨congrArg (fun q => some (Value.int q)) ?_, N0, rfl⟩
    simp [own_max, hc2_1]
  · refine ow_icmpNo (q := 5) X0 hx (hb hby own_d4_2) rfl (Jvm.Free.XT.ii_lt_f hc2_1) ?_
    refine ow_iloadN (q := 6) X0 hx (hb hby own_d4_5) rfl rfl ?_
    refine ow_goto (q := 10) X0 hx (hb hby own_d4_6) (by decide) (by decide) ?_
    refine ownRetI X0 hx Bd.returns (hb hby own_d4_10) hlk (by decide) (by decide) ?_
    rw [e0]
    refine ⟨congrArg (fun q => some (Value.int q)) ?_, N0, rfl⟩
    simp [own_max, hc2_1]
theorem own_d7_0 : decode jdk_29_method_69_code 0 = .ok (.iload_n 0, 1) := by decide +kernel
theorem own_d7_1 : decode jdk_29_method_69_code 1 = .ok (.iload_n 1, 1) := by decide +kernel
theorem own_d7_2 : decode jdk_29_method_69_code 2 = .ok (.if_icmp .gt 7, 3) := by decide +kernel
theorem own_d7_9 : decode jdk_29_method_69_code 9 = .ok (.iload_n 1, 1) := by decide +kernel
theorem own_d7_10 : decode jdk_29_method_69_code 10 = .ok (.ireturn, 1) := by decide +kernel
theorem own_ef7_min_16_2 (m : MethodId)  : entryFrame m #[(.int (16 : Int32)), (.int (2 : Int32))] 2 = mkF m 0 #[iv (16 : Int32), iv (2 : Int32)] [] := by first | (simp [entryFrame, mkF, argsToLocals, Value.category]; done) | rfl
def Q_min_16_2 (Z : State)  (h0 : Heap) (n0 : Nat) (v : Option Value) (h : Heap) (L : List Loc) : Prop := v = some (.int (2 : Int32)) ∧ Fr n0 L ∧ h = h0
set_option maxRecDepth 65536 in
set_option maxHeartbeats 40000000 in
theorem rm_min_16_2 (l : Launch) (Z : State) (av0 : Array Value) (hw : ∀ d ∈ tables_1, d.before av0 Z = true) (ws : List Jvm.Cond)  (h0 : Heap) (n0 : Nat) (Z0 : n0 ≤ h0.size) :
    MetFree l (⟨"java/lang/Math", "min", "(II)I"⟩ : MethodName) (head1 (Jvm.Cond.code (⟨"java/lang/Math", "min", "(II)I"⟩ : MethodName) jdk_29_method_69_code 2 (some .int) :: ws) ({ frames := 0, cells := 0, slots := 0, locals := 0 } : Room)) (fun a U => a = #[(.int (16 : Int32)), (.int (2 : Int32))] ∧ Z.Warmed39 U.vm ∧ U.heap = h0) (fun _ _ _ _ _ => True) (fun _ U o U' => ∃ v L, o = .returned v ∧ (Q_min_16_2 Z  h0 n0) v U'.heap L ∧ FrameEnd U o U' L ({ frames := 0, cells := 0, slots := 0, locals := 0 } : Room).cells ({ frames := 0, cells := 0, slots := 0, locals := 0 } : Room).slots) := by
  refine MetFree.of_bodySF (Jvm.Free.JP.mathPlain rfl (by decide +kernel)) hisR ?_
  intro p e s m args below meth c s₁ Bd hml0 hP hK
  obtain ⟨rfl, hZ, hh⟩ := hP
  have hx := Bd.exec
  have hby := Bd.bytes
  have hml : c.maxLocals = 2 := hml0
  have hown : s.vm.findClass "java/lang/Math" = some m.cls := findClass_of_methodNamed Bd.named
  have hnm := (name_of_methodNamed Bd.named Bd.method).1
  have hlk : meth.locks = false := BodyLoose.notSynchronized Bd
  have X0 : Stand p l e ({ frames := 0, cells := 0, slots := 0, locals := 0 } : Room) s m #[(.int (16 : Int32)), (.int (2 : Int32))] below meth c s₁ [] 0 0 := Stand.of_body Bd
  have e0 : s₁.heap = h0 := by rw [← hh, Bd.state]; rfl
  have N0 := Fr.nil n0
  have K0 : Keep h0 h0 [] := Keep.refl _ _
  have ww : ∀ (k : Nat) {d : Jvm.Cond}, tables_1[k]? = some d → d.before av0 Z = true := fun k d h => hw d (List.mem_of_getElem? h)
  show ownEnds p e below s (Q_min_16_2 Z  h0 n0) ({ frames := 0, cells := 0, slots := 0, locals := 0 } : Room).cells ({ frames := 0, cells := 0, slots := 0, locals := 0 } : Room).slots s₁ (entryFrame m #[(.int (16 : Int32)), (.int (2 : Int32))] 2)
  refine ownCast (own_ef7_min_16_2 m ) ?_
  refine ow_iloadN (q := 1) X0 hx (hb hby own_d7_0) rfl rfl ?_
  refine ow_iloadN (q := 2) X0 hx (hb hby own_d7_1) rfl rfl ?_
  refine ow_icmpYes (q := 9) X0 hx (hb hby own_d7_2) (Jvm.Free.XT.ii_gt_t (by decide)) (by decide) (by decide) ?_
  refine ow_iloadN (q := 10) X0 hx (hb hby own_d7_9) rfl rfl ?_
  refine ownRetI X0 hx Bd.returns (hb hby own_d7_10) hlk (by decide) (by decide) ?_
  rw [e0]
  exact ⟨rfl, N0, rfl⟩
theorem own_pn_Arrays : plainName "java/util/Arrays" = true := by first | (simp [plainName, overriddenIn]; done) | decide +kernel
theorem own_d6_0 : decode jdk_65_method_123_code 0 = .ok (.iload_n 1, 1) := by decide +kernel
theorem own_d6_1 : decode jdk_65_method_123_code 1 = .ok (.aload_n 0, 1) := by decide +kernel
theorem own_d6_2 : decode jdk_65_method_123_code 2 = .ok (.arraylength, 1) := by decide +kernel
theorem own_d6_3 : decode jdk_65_method_123_code 3 = .ok (.if_icmp .ne 11, 3) := by decide +kernel
theorem own_d6_14 : decode jdk_65_method_123_code 14 = .ok (.iload_n 1, 1) := by decide +kernel
theorem own_d6_15 : decode jdk_65_method_123_code 15 = .ok (.newarray .int, 2) := by decide +kernel
theorem own_d6_17 : decode jdk_65_method_123_code 17 = .ok (.astore_n 2, 1) := by decide +kernel
theorem own_d6_18 : decode jdk_65_method_123_code 18 = .ok (.aload_n 0, 1) := by decide +kernel
theorem own_d6_19 : decode jdk_65_method_123_code 19 = .ok (.iconst 0, 1) := by decide +kernel
theorem own_d6_20 : decode jdk_65_method_123_code 20 = .ok (.aload_n 2, 1) := by decide +kernel
theorem own_d6_21 : decode jdk_65_method_123_code 21 = .ok (.iconst 0, 1) := by decide +kernel
theorem own_d6_22 : decode jdk_65_method_123_code 22 = .ok (.aload_n 0, 1) := by decide +kernel
theorem own_d6_23 : decode jdk_65_method_123_code 23 = .ok (.arraylength, 1) := by decide +kernel
theorem own_d6_24 : decode jdk_65_method_123_code 24 = .ok (.iload_n 1, 1) := by decide +kernel
theorem own_d6_25 : decode jdk_65_method_123_code 25 = .ok (.invokestatic 304, 3) := by decide +kernel
theorem own_pd0 : parseMethodDescriptor "(II)I" = some ⟨[.int, .int], some .int⟩ := by decide +kernel
theorem own_d6_28 : decode jdk_65_method_123_code 28 = .ok (.invokestatic 150, 3) := by decide +kernel
theorem own_d6_31 : decode jdk_65_method_123_code 31 = .ok (.aload_n 2, 1) := by decide +kernel
theorem own_d6_32 : decode jdk_65_method_123_code 32 = .ok (.areturn, 1) := by decide +kernel
theorem own_ef6_copyOf_16_2 (m : MethodId) (a0 : Addr) : entryFrame m #[(.ref a0), (.int (2 : Int32))] 3 = mkF m 0 #[rv a0, iv (2 : Int32), .unset] [] := by first | (simp [entryFrame, mkF, argsToLocals, Value.category]; done) | rfl
def Q_copyOf_16_2 (Z : State) (a0 : Addr) (g : Nat → Int32) (h0 : Heap) (n0 : Nat) (v : Option Value) (h : Heap) (L : List Loc) : Prop := ∃ (r : Addr), v = some (.ref r) ∧ Fr n0 L ∧ Keep h0 h [] ∧ h0.size ≤ r ∧ ownAI Z h r .int 2 g
set_option maxRecDepth 65536 in
set_option maxHeartbeats 40000000 in
theorem rm_copyOf_16_2 (l : Launch) (Z : State) (av0 : Array Value) (hw : ∀ d ∈ tables_1, d.before av0 Z = true) (ws : List Jvm.Cond) (a0 : Addr) (g : Nat → Int32) (h0 : Heap) (n0 : Nat) (Z0 : n0 ≤ h0.size) (HF0 : ownAI Z h0 a0 .int 16 g) :
    MetFree l (⟨"java/util/Arrays", "copyOf", "([II)[I"⟩ : MethodName) (head1 (Jvm.Cond.code (⟨"java/util/Arrays", "copyOf", "([II)[I"⟩ : MethodName) jdk_65_method_123_code 3 (some (.array .int)) :: ws) ({ frames := 1, cells := 1, slots := 2, locals := 18 } : Room)) (fun a U => a = #[(.ref a0), (.int (2 : Int32))] ∧ Z.Warmed39 U.vm ∧ U.heap = h0) (fun _ _ _ _ _ => True) (fun _ U o U' => ∃ v L, o = .returned v ∧ (Q_copyOf_16_2 Z a0 g h0 n0) v U'.heap L ∧ FrameEnd U o U' L ({ frames := 1, cells := 1, slots := 2, locals := 18 } : Room).cells ({ frames := 1, cells := 1, slots := 2, locals := 18 } : Room).slots) := by
  refine MetFree.of_bodySF (plainFor_of_name own_pn_Arrays) hisR ?_
  intro p e s m args below meth c s₁ Bd hml0 hP hK
  obtain ⟨rfl, hZ, hh⟩ := hP
  have hx := Bd.exec
  have hby := Bd.bytes
  have hml : c.maxLocals = 3 := hml0
  have hown : s.vm.findClass "java/util/Arrays" = some m.cls := findClass_of_methodNamed Bd.named
  have hnm := (name_of_methodNamed Bd.named Bd.method).1
  have hlk : meth.locks = false := BodyLoose.notSynchronized Bd
  have X0 : Stand p l e ({ frames := 1, cells := 1, slots := 2, locals := 18 } : Room) s m #[(.ref a0), (.int (2 : Int32))] below meth c s₁ [] 0 0 := Stand.of_body Bd
  have e0 : s₁.heap = h0 := by rw [← hh, Bd.state]; rfl
  have N0 := Fr.nil n0
  have K0 : Keep h0 h0 [] := Keep.refl _ _
  have ww : ∀ (k : Nat) {d : Jvm.Cond}, tables_1[k]? = some d → d.before av0 Z = true := fun k d h => hw d (List.mem_of_getElem? h)
  show ownEnds p e below s (Q_copyOf_16_2 Z a0 g h0 n0) ({ frames := 1, cells := 1, slots := 2, locals := 18 } : Room).cells ({ frames := 1, cells := 1, slots := 2, locals := 18 } : Room).slots s₁ (entryFrame m #[(.ref a0), (.int (2 : Int32))] 3)
  refine ownCast (own_ef6_copyOf_16_2 m a0) ?_
  refine ow_iloadN (q := 1) X0 hx (hb hby own_d6_0) rfl rfl ?_
  refine ow_aloadN (q := 2) X0 hx (hb hby own_d6_1) rfl rfl rfl ?_
  refine ownGo (T' := s₁) (f' := (mkF m 3 #[rv a0, iv (2 : Int32), .unset] [(.int (16 : Int32)), (.int (2 : Int32))])) (ownLenI HF0 X0 hx hZ e0 (z := (16 : Int32)) (by decide) (g := (mkF m 2 #[rv a0, iv (2 : Int32), .unset] [(.ref a0), (.int (2 : Int32))])) rfl rfl (hb hby own_d6_2)) ?_
  refine ow_icmpYes (q := 14) X0 hx (hb hby own_d6_3) (Jvm.Free.XT.ii_ne_t (by decide)) (by decide) (by decide) ?_
  refine ow_iloadN (q := 15) X0 hx (hb hby own_d6_14) rfl rfl ?_
  obtain ⟨T1, h1, k1, X1, e1, E1, A1, EA1, st1⟩ := newPE X0 hx hZ (ww 2 rfl) e0 (g := (mkF m 15 #[rv a0, iv (2 : Int32), .unset] [(.int (2 : Int32))])) rfl (hb hby own_d6_15) rfl (by decide) (cap := 2) (by decide) (by decide) (by decide) (by decide) (ad := "[I") (by decide)
  obtain ⟨b1, g1⟩ : ∃ z, z = h0.size := ⟨_, rfl⟩
  rw [← g1] at A1 st1 EA1
  have ne_a0_b1 : a0 ≠ b1 := Nat.ne_of_lt (Nat.lt_of_lt_of_le HF0.lt (Nat.le_of_eq g1.symm))
  have sz_b1 : h0.size ≤ b1 := Nat.le_trans K0.1 (Nat.le_of_eq g1.symm)
  have G_b1 : n0 ≤ b1 := Nat.le_trans Z0 sz_b1
  have K1 : Keep h0 h1 [] := K0.ext E1
  have F2 : ownAI Z h1 a0 .int 16 g := HF0.ext E1
  have F3 : ownAI Z h1 b1 .int 2 (fun _ => (0 : Int32)) := ownAI.new A1 (by decide) rfl (by decide)
  refine ownGo (T' := T1) (f' := (mkF m 17 #[rv a0, iv (2 : Int32), .unset] [(.ref b1)])) (st1) ?_
  refine ow_astoreN (q := 18) X1 hx (L' := #[rv a0, iv (2 : Int32), rv b1]) (hb hby own_d6_17) rfl rfl rfl ?_
  refine ow_aloadN (q := 19) X1 hx (hb hby own_d6_18) rfl rfl rfl ?_
  refine ow_iconst (q := 20) X1 hx (0 : Int32) (hb hby own_d6_19) rfl rfl ?_
  refine ow_aloadN (q := 21) X1 hx (hb hby own_d6_20) rfl rfl rfl ?_
  refine ow_iconst (q := 22) X1 hx (0 : Int32) (hb hby own_d6_21) rfl rfl ?_
  refine ow_aloadN (q := 23) X1 hx (hb hby own_d6_22) rfl rfl rfl ?_
  refine ownGo (T' := T1) (f' := (mkF m 24 #[rv a0, iv (2 : Int32), rv b1] [(.int (16 : Int32)), (.int (0 : Int32)), (.ref b1), (.int (0 : Int32)), (.ref a0)])) (ownLenI F2 X1 hx hZ e1 (z := (16 : Int32)) (by decide) (g := (mkF m 23 #[rv a0, iv (2 : Int32), rv b1] [(.ref a0), (.int (0 : Int32)), (.ref b1), (.int (0 : Int32)), (.ref a0)])) rfl rfl (hb hby own_d6_23)) ?_
  refine ow_iloadN (q := 25) X1 hx (hb hby own_d6_24) rfl rfl ?_
  obtain ⟨_, _, ⟨T4, L4, k4, n4⟩, -, X4, ⟨Lc4, hQ4, l4, y4, z4⟩, st4⟩ := Jvm.LawKit.callS X1 hx (y := (⟨"java/lang/Math", "min", "(II)I"⟩ : MethodName)) hown (mvT hZ (ww 37 rfl)) (mvT hZ (ww 38 rfl)) (mvT hZ (ww 23 rfl)) (mvT hZ (ww 39 rfl)) (by decide) (backOf (W := 4) (rm_min_16_2 l Z av0 hw []  h1 n0 (Nat.le_trans Z0 K1.1) ) hZ (ww 39 rfl) (ww 23 rfl) (by decide) (by decide)) (g := (mkF m 25 #[rv a0, iv (2 : Int32), rv b1] [(.int (2 : Int32)), (.int (16 : Int32)), (.int (0 : Int32)), (.ref b1), (.int (0 : Int32)), (.ref a0)])) rfl (by rw [hml]; rfl) (argsL := [(.int (16 : Int32)), (.int (2 : Int32))]) (rest := [(.int (0 : Int32)), (.ref b1), (.int (0 : Int32)), (.ref a0)]) (lenOf own_pd0 rfl) rfl (by show 2 * 0 + _ ≤ _; exact Nat.le_of_eq rfl) (hb hby own_d6_25) (fun _ _ => ⟨rfl, e1, (by decide : 1 + 0 ≤ _), (by decide : 2 + 0 ≤ _)⟩)
  dsimp only [Pt.U, Pt.locs, Pt.cells, Pt.slots] at X4 l4 y4 z4 st4 hQ4
  subst l4 y4 z4
  obtain ⟨rfl, N4q, e4⟩ := hQ4
  have N4 := Fr.app N0 N4q
  refine ownGo (T' := T4) (f' := (mkF m 28 #[rv a0, iv (2 : Int32), rv b1] [(.int (2 : Int32)), (.int (0 : Int32)), (.ref b1), (.int (0 : Int32)), (.ref a0)])) (st4) ?_
  obtain ⟨T5, h5, L5, X5, e5, N5, Kq5, FC5, st5⟩ := ownCopyI (gr := g) (z := (16 : Int32)) (z' := (2 : Int32)) (nn := (2 : Int32)) F2 F3 (by decide) (by decide) (by decide) (by decide) rfl (fun _ _ => rfl) (fun _ _ => rfl) X4 hx hZ hown (ww 40 rfl) (ww 43 rfl) (ww 41 rfl) (ww 42 rfl) e4 (by decide) (by decide) (by decide) (fun i hi => if_pos hi) N4 G_b1 (g := (mkF m 28 #[rv a0, iv (2 : Int32), rv b1] [(.int (2 : Int32)), (.int (0 : Int32)), (.ref b1), (.int (0 : Int32)), (.ref a0)])) rfl (by rw [hml]; rfl) rfl (hb hby own_d6_28) (by decide) (W := 0) (by show 2 * 0 + _ ≤ _; exact Nat.le_of_eq rfl) (by decide)
  have K5 : Keep h0 h5 [] := K1.trans Kq5 (allS (Or.inr sz_b1) all0)
  have F6 : ownAI Z h5 a0 .int 16 g := F2.keep Kq5 (ninS ne_a0_b1 nin0)
  have F7 : Exa Z h5 b1 "[I" := EA1.keep Kq5
  refine ownGo (T' := T5) (f' := (mkF m 31 #[rv a0, iv (2 : Int32), rv b1] [])) (st5) ?_
  refine ow_aloadN (q := 32) X5 hx (hb hby own_d6_31) rfl rfl rfl ?_
  refine ownRetR X5 hx rfl rfl rfl Bd.returns (hb hby own_d6_32) hlk (by decide) (by decide) ?_
  rw [e5]
  exact ⟨b1, rfl, N5, K5, sz_b1, FC5⟩
theorem own_d6_6 : decode jdk_65_method_123_code 6 = .ok (.aload_n 0, 1) := by decide +kernel
theorem own_d6_7 : decode jdk_65_method_123_code 7 = .ok (.invokevirtual 316, 3) := by decide +kernel
theorem own_d6_10 : decode jdk_65_method_123_code 10 = .ok (.checkcast 317, 3) := by decide +kernel
theorem own_d6_13 : decode jdk_65_method_123_code 13 = .ok (.areturn, 1) := by decide +kernel
theorem own_ef6_copyOf_2_2 (m : MethodId) (a0 : Addr) : entryFrame m #[(.ref a0), (.int (2 : Int32))] 3 = mkF m 0 #[rv a0, iv (2 : Int32), .unset] [] := by first | (simp [entryFrame, mkF, argsToLocals, Value.category]; done) | rfl
def Q_copyOf_2_2 (Z : State) (a0 : Addr) (g : Nat → Int32) (h0 : Heap) (n0 : Nat) (v : Option Value) (h : Heap) (L : List Loc) : Prop := ∃ (r : Addr), v = some (.ref r) ∧ Fr n0 L ∧ Keep h0 h [] ∧ h0.size ≤ r ∧ ownAI Z h r .int 2 g
set_option maxRecDepth 65536 in
set_option maxHeartbeats 40000000 in
theorem rm_copyOf_2_2 (l : Launch) (Z : State) (av0 : Array Value) (hw : ∀ d ∈ tables_1, d.before av0 Z = true) (ws : List Jvm.Cond) (a0 : Addr) (g : Nat → Int32) (h0 : Heap) (n0 : Nat) (Z0 : n0 ≤ h0.size) (HF0 : ownAI Z h0 a0 .int 2 g) (HF1 : Exa Z h0 a0 "[I") :
    MetFree l (⟨"java/util/Arrays", "copyOf", "([II)[I"⟩ : MethodName) (head1 (Jvm.Cond.code (⟨"java/util/Arrays", "copyOf", "([II)[I"⟩ : MethodName) jdk_65_method_123_code 3 (some (.array .int)) :: ws) ({ frames := 1, cells := 1, slots := 2, locals := 14 } : Room)) (fun a U => a = #[(.ref a0), (.int (2 : Int32))] ∧ Z.Warmed39 U.vm ∧ U.heap = h0) (fun _ _ _ _ _ => True) (fun _ U o U' => ∃ v L, o = .returned v ∧ (Q_copyOf_2_2 Z a0 g h0 n0) v U'.heap L ∧ FrameEnd U o U' L ({ frames := 1, cells := 1, slots := 2, locals := 14 } : Room).cells ({ frames := 1, cells := 1, slots := 2, locals := 14 } : Room).slots) := by
  refine MetFree.of_bodySF (plainFor_of_name own_pn_Arrays) hisR ?_
  intro p e s m args below meth c s₁ Bd hml0 hP hK
  obtain ⟨rfl, hZ, hh⟩ := hP
  have hx := Bd.exec
  have hby := Bd.bytes
  have hml : c.maxLocals = 3 := hml0
  have hown : s.vm.findClass "java/util/Arrays" = some m.cls := findClass_of_methodNamed Bd.named
  have hnm := (name_of_methodNamed Bd.named Bd.method).1
  have hlk : meth.locks = false := BodyLoose.notSynchronized Bd
  have X0 : Stand p l e ({ frames := 1, cells := 1, slots := 2, locals := 14 } : Room) s m #[(.ref a0), (.int (2 : Int32))] below meth c s₁ [] 0 0 := Stand.of_body Bd
  have e0 : s₁.heap = h0 := by rw [← hh, Bd.state]; rfl
  have N0 := Fr.nil n0
  have K0 : Keep h0 h0 [] := Keep.refl _ _
  have ww : ∀ (k : Nat) {d : Jvm.Cond}, tables_1[k]? = some d → d.before av0 Z = true := fun k d h => hw d (List.mem_of_getElem? h)
  show ownEnds p e below s (Q_copyOf_2_2 Z a0 g h0 n0) ({ frames := 1, cells := 1, slots := 2, locals := 14 } : Room).cells ({ frames := 1, cells := 1, slots := 2, locals := 14 } : Room).slots s₁ (entryFrame m #[(.ref a0), (.int (2 : Int32))] 3)
  refine ownCast (own_ef6_copyOf_2_2 m a0) ?_
  refine ow_iloadN (q := 1) X0 hx (hb hby own_d6_0) rfl rfl ?_
  refine ow_aloadN (q := 2) X0 hx (hb hby own_d6_1) rfl rfl rfl ?_
  refine ownGo (T' := s₁) (f' := (mkF m 3 #[rv a0, iv (2 : Int32), .unset] [(.int (2 : Int32)), (.int (2 : Int32))])) (ownLenI HF0 X0 hx hZ e0 (z := (2 : Int32)) (by decide) (g := (mkF m 2 #[rv a0, iv (2 : Int32), .unset] [(.ref a0), (.int (2 : Int32))])) rfl rfl (hb hby own_d6_2)) ?_
  refine ow_icmpNo (q := 6) X0 hx (hb hby own_d6_3) rfl (Jvm.Free.XT.ii_ne_f (by decide)) ?_
  refine ow_aloadN (q := 7) X0 hx (hb hby own_d6_6) rfl rfl rfl ?_
  obtain ⟨T1, h1, X1, e1, E1, A1, EA1, st1⟩ := ownCloneI (z := (2 : Int32)) HF0 (by decide) (by decide) (fun _ _ => rfl) X0 hx hZ hown (ww 57 rfl) (ww 58 rfl) (ww 62 rfl) (ww 60 rfl) (ww 61 rfl) (ww 63 rfl) e0 HF1 (g := (mkF m 7 #[rv a0, iv (2 : Int32), .unset] [(.ref a0)])) rfl (by rw [hml]; rfl) rfl (hb hby own_d6_7) (by decide) (W := 0) (cap := 2) (by show 2 * 0 + _ ≤ _; exact Nat.le_of_eq rfl) (by decide) (by decide) (by decide) (by decide)
  obtain ⟨b1, g1⟩ : ∃ z, z = h0.size := ⟨_, rfl⟩
  rw [← g1] at A1 EA1 st1
  have ne_a0_b1 : a0 ≠ b1 := Nat.ne_of_lt (Nat.lt_of_lt_of_le HF0.lt (Nat.le_of_eq g1.symm))
  have sz_b1 : h0.size ≤ b1 := Nat.le_trans K0.1 (Nat.le_of_eq g1.symm)
  have G_b1 : n0 ≤ b1 := Nat.le_trans Z0 sz_b1
  have K1 : Keep h0 h1 [] := K0.ext E1
  have F2 : ownAI Z h1 a0 .int 2 g := HF0.ext E1
  have F3 : Exa Z h1 a0 "[I" := HF1.ext E1
  refine ownGo (T' := T1) (f' := (mkF m 10 #[rv a0, iv (2 : Int32), .unset] [(.ref b1)])) (st1) ?_
  obtain ⟨T4, X4, e4, st4⟩ := castY X1 hx hZ hown (ww 64 rfl) e1 (Ins.self EA1) (g := (mkF m 10 #[rv a0, iv (2 : Int32), .unset] [(.ref b1)])) rfl rfl (hb hby own_d6_10)
  refine ownGo (T' := T4) (f' := (mkF m 13 #[rv a0, iv (2 : Int32), .unset] [(.ref b1)])) (st4) ?_
  refine ownRetR X4 hx rfl rfl rfl Bd.returns (hb hby own_d6_13) hlk (by decide) (by decide) ?_
  rw [e4]
  exact ⟨b1, rfl, N0, K1, sz_b1, A1⟩
theorem own_ef7_min_2_1 (m : MethodId)  : entryFrame m #[(.int (2 : Int32)), (.int (1 : Int32))] 2 = mkF m 0 #[iv (2 : Int32), iv (1 : Int32)] [] := by first | (simp [entryFrame, mkF, argsToLocals, Value.category]; done) | rfl
def Q_min_2_1 (Z : State)  (h0 : Heap) (n0 : Nat) (v : Option Value) (h : Heap) (L : List Loc) : Prop := v = some (.int (1 : Int32)) ∧ Fr n0 L ∧ h = h0
set_option maxRecDepth 65536 in
set_option maxHeartbeats 40000000 in
theorem rm_min_2_1 (l : Launch) (Z : State) (av0 : Array Value) (hw : ∀ d ∈ tables_1, d.before av0 Z = true) (ws : List Jvm.Cond)  (h0 : Heap) (n0 : Nat) (Z0 : n0 ≤ h0.size) :
    MetFree l (⟨"java/lang/Math", "min", "(II)I"⟩ : MethodName) (head1 (Jvm.Cond.code (⟨"java/lang/Math", "min", "(II)I"⟩ : MethodName) jdk_29_method_69_code 2 (some .int) :: ws) ({ frames := 0, cells := 0, slots := 0, locals := 0 } : Room)) (fun a U => a = #[(.int (2 : Int32)), (.int (1 : Int32))] ∧ Z.Warmed39 U.vm ∧ U.heap = h0) (fun _ _ _ _ _ => True) (fun _ U o U' => ∃ v L, o = .returned v ∧ (Q_min_2_1 Z  h0 n0) v U'.heap L ∧ FrameEnd U o U' L ({ frames := 0, cells := 0, slots := 0, locals := 0 } : Room).cells ({ frames := 0, cells := 0, slots := 0, locals := 0 } : Room).slots) := by
  refine MetFree.of_bodySF (Jvm.Free.JP.mathPlain rfl (by decide +kernel)) hisR ?_
  intro p e s m args below meth c s₁ Bd hml0 hP hK
  obtain ⟨rfl, hZ, hh⟩ := hP
  have hx := Bd.exec
  have hby := Bd.bytes
  have hml : c.maxLocals = 2 := hml0
  have hown : s.vm.findClass "java/lang/Math" = some m.cls := findClass_of_methodNamed Bd.named
  have hnm := (name_of_methodNamed Bd.named Bd.method).1
  have hlk : meth.locks = false := BodyLoose.notSynchronized Bd
  have X0 : Stand p l e ({ frames := 0, cells := 0, slots := 0, locals := 0 } : Room) s m #[(.int (2 : Int32)), (.int (1 : Int32))] below meth c s₁ [] 0 0 := Stand.of_body Bd
  have e0 : s₁.heap = h0 := by rw [← hh, Bd.state]; rfl
  have N0 := Fr.nil n0
  have K0 : Keep h0 h0 [] := Keep.refl _ _
  have ww : ∀ (k : Nat) {d : Jvm.Cond}, tables_1[k]? = some d → d.before av0 Z = true := fun k d h => hw d (List.mem_of_getElem? h)
  show ownEnds p e below s (Q_min_2_1 Z  h0 n0) ({ frames := 0, cells := 0, slots := 0, locals := 0 } : Room).cells ({ frames := 0, cells := 0, slots := 0, locals := 0 } : Room).slots s₁ (entryFrame m #[(.int (2 : Int32)), (.int (1 : Int32))] 2)
  refine ownCast (own_ef7_min_2_1 m ) ?_
  refine ow_iloadN (q := 1) X0 hx (hb hby own_d7_0) rfl rfl ?_
  refine ow_iloadN (q := 2) X0 hx (hb hby own_d7_1) rfl rfl ?_
  refine ow_icmpYes (q := 9) X0 hx (hb hby own_d7_2) (Jvm.Free.XT.ii_gt_t (by decide)) (by decide) (by decide) ?_
  refine ow_iloadN (q := 10) X0 hx (hb hby own_d7_9) rfl rfl ?_
  refine ownRetI X0 hx Bd.returns (hb hby own_d7_10) hlk (by decide) (by decide) ?_
  rw [e0]
  exact ⟨rfl, N0, rfl⟩
theorem own_ef6_copyOf_2_1 (m : MethodId) (a0 : Addr) : entryFrame m #[(.ref a0), (.int (1 : Int32))] 3 = mkF m 0 #[rv a0, iv (1 : Int32), .unset] [] := by first | (simp [entryFrame, mkF, argsToLocals, Value.category]; done) | rfl
def Q_copyOf_2_1 (Z : State) (a0 : Addr) (g : Nat → Int32) (h0 : Heap) (n0 : Nat) (v : Option Value) (h : Heap) (L : List Loc) : Prop := ∃ (r : Addr), v = some (.ref r) ∧ Fr n0 L ∧ Keep h0 h [] ∧ h0.size ≤ r ∧ ownAI Z h r .int 1 g
set_option maxRecDepth 65536 in
set_option maxHeartbeats 40000000 in
theorem rm_copyOf_2_1 (l : Launch) (Z : State) (av0 : Array Value) (hw : ∀ d ∈ tables_1, d.before av0 Z = true) (ws : List Jvm.Cond) (a0 : Addr) (g : Nat → Int32) (h0 : Heap) (n0 : Nat) (Z0 : n0 ≤ h0.size) (HF0 : ownAI Z h0 a0 .int 2 g) :
    MetFree l (⟨"java/util/Arrays", "copyOf", "([II)[I"⟩ : MethodName) (head1 (Jvm.Cond.code (⟨"java/util/Arrays", "copyOf", "([II)[I"⟩ : MethodName) jdk_65_method_123_code 3 (some (.array .int)) :: ws) ({ frames := 1, cells := 1, slots := 1, locals := 18 } : Room)) (fun a U => a = #[(.ref a0), (.int (1 : Int32))] ∧ Z.Warmed39 U.vm ∧ U.heap = h0) (fun _ _ _ _ _ => True) (fun _ U o U' => ∃ v L, o = .returned v ∧ (Q_copyOf_2_1 Z a0 g h0 n0) v U'.heap L ∧ FrameEnd U o U' L ({ frames := 1, cells := 1, slots := 1, locals := 18 } : Room).cells ({ frames := 1, cells := 1, slots := 1, locals := 18 } : Room).slots) := by
  refine MetFree.of_bodySF (plainFor_of_name own_pn_Arrays) hisR ?_
  intro p e s m args below meth c s₁ Bd hml0 hP hK
  obtain ⟨rfl, hZ, hh⟩ := hP
  have hx := Bd.exec
  have hby := Bd.bytes
  have hml : c.maxLocals = 3 := hml0
  have hown : s.vm.findClass "java/util/Arrays" = some m.cls := findClass_of_methodNamed Bd.named
  have hnm := (name_of_methodNamed Bd.named Bd.method).1
  have hlk : meth.locks = false := BodyLoose.notSynchronized Bd
  have X0 : Stand p l e ({ frames := 1, cells := 1, slots := 1, locals := 18 } : Room) s m #[(.ref a0), (.int (1 : Int32))] below meth c s₁ [] 0 0 := Stand.of_body Bd
  have e0 : s₁.heap = h0 := by rw [← hh, Bd.state]; rfl
  have N0 := Fr.nil n0
  have K0 : Keep h0 h0 [] := Keep.refl _ _
  have ww : ∀ (k : Nat) {d : Jvm.Cond}, tables_1[k]? = some d → d.before av0 Z = true := fun k d h => hw d (List.mem_of_getElem? h)
  show ownEnds p e below s (Q_copyOf_2_1 Z a0 g h0 n0) ({ frames := 1, cells := 1, slots := 1, locals := 18 } : Room).cells ({ frames := 1, cells := 1, slots := 1, locals := 18 } : Room).slots s₁ (entryFrame m #[(.ref a0), (.int (1 : Int32))] 3)
  refine ownCast (own_ef6_copyOf_2_1 m a0) ?_
  refine ow_iloadN (q := 1) X0 hx (hb hby own_d6_0) rfl rfl ?_
  refine ow_aloadN (q := 2) X0 hx (hb hby own_d6_1) rfl rfl rfl ?_
  refine ownGo (T' := s₁) (f' := (mkF m 3 #[rv a0, iv (1 : Int32), .unset] [(.int (2 : Int32)), (.int (1 : Int32))])) (ownLenI HF0 X0 hx hZ e0 (z := (2 : Int32)) (by decide) (g := (mkF m 2 #[rv a0, iv (1 : Int32), .unset] [(.ref a0), (.int (1 : Int32))])) rfl rfl (hb hby own_d6_2)) ?_
  refine ow_icmpYes (q := 14) X0 hx (hb hby own_d6_3) (Jvm.Free.XT.ii_ne_t (by decide)) (by decide) (by decide) ?_
  refine ow_iloadN (q := 15) X0 hx (hb hby own_d6_14) rfl rfl ?_
  obtain ⟨T1, h1, k1, X1, e1, E1, A1, EA1, st1⟩ := newPE X0 hx hZ (ww 2 rfl) e0 (g := (mkF m 15 #[rv a0, iv (1 : Int32), .unset] [(.int (1 : Int32))])) rfl (hb hby own_d6_15) rfl (by decide) (cap := 1) (by decide) (by decide) (by decide) (by decide) (ad := "[I") (by decide)
  obtain ⟨b1, g1⟩ : ∃ z, z = h0.size := ⟨_, rfl⟩
  rw [← g1] at A1 st1 EA1
  have ne_a0_b1 : a0 ≠ b1 := Nat.ne_of_lt (Nat.lt_of_lt_of_le HF0.lt (Nat.le_of_eq g1.symm))
  have sz_b1 : h0.size ≤ b1 := Nat.le_trans K0.1 (Nat.le_of_eq g1.symm)
  have G_b1 : n0 ≤ b1 := Nat.le_trans Z0 sz_b1
  have K1 : Keep h0 h1 [] := K0.ext E1
  have F2 : ownAI Z h1 a0 .int 2 g := HF0.ext E1
  have F3 : ownAI Z h1 b1 .int 1 (fun _ => (0 : Int32)) := ownAI.new A1 (by decide) rfl (by decide)
  refine ownGo (T' := T1) (f' := (mkF m 17 #[rv a0, iv (1 : Int32), .unset] [(.ref b1)])) (st1) ?_
  refine ow_astoreN (q := 18) X1 hx (L' := #[rv a0, iv (1 : Int32), rv b1]) (hb hby own_d6_17) rfl rfl rfl ?_
  refine ow_aloadN (q := 19) X1 hx (hb hby own_d6_18) rfl rfl rfl ?_
  refine ow_iconst (q := 20) X1 hx (0 : Int32) (hb hby own_d6_19) rfl rfl ?_
  refine ow_aloadN (q := 21) X1 hx (hb hby own_d6_20) rfl rfl rfl ?_
  refine ow_iconst (q := 22) X1 hx (0 : Int32) (hb hby own_d6_21) rfl rfl ?_
  refine ow_aloadN (q := 23) X1 hx (hb hby own_d6_22) rfl rfl rfl ?_
  refine ownGo (T' := T1) (f' := (mkF m 24 #[rv a0, iv (1 : Int32), rv b1] [(.int (2 : Int32)), (.int (0 : Int32)), (.ref b1), (.int (0 : Int32)), (.ref a0)])) (ownLenI F2 X1 hx hZ e1 (z := (2 : Int32)) (by decide) (g := (mkF m 23 #[rv a0, iv (1 : Int32), rv b1] [(.ref a0), (.int (0 : Int32)), (.ref b1), (.int (0 : Int32)), (.ref a0)])) rfl rfl (hb hby own_d6_23)) ?_
  refine ow_iloadN (q := 25) X1 hx (hb hby own_d6_24) rfl rfl ?_
  obtain ⟨_, _, ⟨T4, L4, k4, n4⟩, -, X4, ⟨Lc4, hQ4, l4, y4, z4⟩, st4⟩ := Jvm.LawKit.callS X1 hx (y := (⟨"java/lang/Math", "min", "(II)I"⟩ : MethodName)) hown (mvT hZ (ww 37 rfl)) (mvT hZ (ww 38 rfl)) (mvT hZ (ww 23 rfl)) (mvT hZ (ww 39 rfl)) (by decide) (backOf (W := 4) (rm_min_2_1 l Z av0 hw []  h1 n0 (Nat.le_trans Z0 K1.1) ) hZ (ww 39 rfl) (ww 23 rfl) (by decide) (by decide)) (g := (mkF m 25 #[rv a0, iv (1 : Int32), rv b1] [(.int (1 : Int32)), (.int (2 : Int32)), (.int (0 : Int32)), (.ref b1), (.int (0 : Int32)), (.ref a0)])) rfl (by rw [hml]; rfl) (argsL := [(.int (2 : Int32)), (.int (1 : Int32))]) (rest := [(.int (0 : Int32)), (.ref b1), (.int (0 : Int32)), (.ref a0)]) (lenOf own_pd0 rfl) rfl (by show 2 * 0 + _ ≤ _; exact Nat.le_of_eq rfl) (hb hby own_d6_25) (fun _ _ => ⟨rfl, e1, (by decide : 1 + 0 ≤ _), (by decide : 1 + 0 ≤ _)⟩)
  dsimp only [Pt.U, Pt.locs, Pt.cells, Pt.slots] at X4 l4 y4 z4 st4 hQ4
  subst l4 y4 z4
  obtain ⟨rfl, N4q, e4⟩ := hQ4
  have N4 := Fr.app N0 N4q
  refine ownGo (T' := T4) (f' := (mkF m 28 #[rv a0, iv (1 : Int32), rv b1] [(.int (1 : Int32)), (.int (0 : Int32)), (.ref b1), (.int (0 : Int32)), (.ref a0)])) (st4) ?_
  obtain ⟨T5, h5, L5, X5, e5, N5, Kq5, FC5, st5⟩ := ownCopyI (gr := g) (z := (2 : Int32)) (z' := (1 : Int32)) (nn := (1 : Int32)) F2 F3 (by decide) (by decide) (by decide) (by decide) rfl (fun _ _ => rfl) (fun _ _ => rfl) X4 hx hZ hown (ww 40 rfl) (ww 43 rfl) (ww 41 rfl) (ww 42 rfl) e4 (by decide) (by decide) (by decide) (fun i hi => if_pos hi) N4 G_b1 (g := (mkF m 28 #[rv a0, iv (1 : Int32), rv b1] [(.int (1 : Int32)), (.int (0 : Int32)), (.ref b1), (.int (0 : Int32)), (.ref a0)])) rfl (by rw [hml]; rfl) rfl (hb hby own_d6_28) (by decide) (W := 0) (by show 2 * 0 + _ ≤ _; exact Nat.le_of_eq rfl) (by decide)
  have K5 : Keep h0 h5 [] := K1.trans Kq5 (allS (Or.inr sz_b1) all0)
  have F6 : ownAI Z h5 a0 .int 2 g := F2.keep Kq5 (ninS ne_a0_b1 nin0)
  have F7 : Exa Z h5 b1 "[I" := EA1.keep Kq5
  refine ownGo (T' := T5) (f' := (mkF m 31 #[rv a0, iv (1 : Int32), rv b1] [])) (st5) ?_
  refine ow_aloadN (q := 32) X5 hx (hb hby own_d6_31) rfl rfl rfl ?_
  refine ownRetR X5 hx rfl rfl rfl Bd.returns (hb hby own_d6_32) hlk (by decide) (by decide) ?_
  rw [e5]
  exact ⟨b1, rfl, N5, K5, sz_b1, FC5⟩
theorem own_ef7_min_16_4 (m : MethodId)  : entryFrame m #[(.int (16 : Int32)), (.int (4 : Int32))] 2 = mkF m 0 #[iv (16 : Int32), iv (4 : Int32)] [] := by first | (simp [entryFrame, mkF, argsToLocals, Value.category]; done) | rfl
def Q_min_16_4 (Z : State)  (h0 : Heap) (n0 : Nat) (v : Option Value) (h : Heap) (L : List Loc) : Prop := v = some (.int (4 : Int32)) ∧ Fr n0 L ∧ h = h0
set_option maxRecDepth 65536 in
set_option maxHeartbeats 40000000 in
theorem rm_min_16_4 (l : Launch) (Z : State) (av0 : Array Value) (hw : ∀ d ∈ tables_1, d.before av0 Z = true) (ws : List Jvm.Cond)  (h0 : Heap) (n0 : Nat) (Z0 : n0 ≤ h0.size) :
    MetFree l (⟨"java/lang/Math", "min", "(II)I"⟩ : MethodName) (head1 (Jvm.Cond.code (⟨"java/lang/Math", "min", "(II)I"⟩ : MethodName) jdk_29_method_69_code 2 (some .int) :: ws) ({ frames := 0, cells := 0, slots := 0, locals := 0 } : Room)) (fun a U => a = #[(.int (16 : Int32)), (.int (4 : Int32))] ∧ Z.Warmed39 U.vm ∧ U.heap = h0) (fun _ _ _ _ _ => True) (fun _ U o U' => ∃ v L, o = .returned v ∧ (Q_min_16_4 Z  h0 n0) v U'.heap L ∧ FrameEnd U o U' L ({ frames := 0, cells := 0, slots := 0, locals := 0 } : Room).cells ({ frames := 0, cells := 0, slots := 0, locals := 0 } : Room).slots) := by
  refine MetFree.of_bodySF (Jvm.Free.JP.mathPlain rfl (by decide +kernel)) hisR ?_
  intro p e s m args below meth c s₁ Bd hml0 hP hK
  obtain ⟨rfl, hZ, hh⟩ := hP
  have hx := Bd.exec
  have hby := Bd.bytes
  have hml : c.maxLocals = 2 := hml0
  have hown : s.vm.findClass "java/lang/Math" = some m.cls := findClass_of_methodNamed Bd.named
  have hnm := (name_of_methodNamed Bd.named Bd.method).1
  have hlk : meth.locks = false := BodyLoose.notSynchronized Bd
  have X0 : Stand p l e ({ frames := 0, cells := 0, slots := 0, locals := 0 } : Room) s m #[(.int (16 : Int32)), (.int (4 : Int32))] below meth c s₁ [] 0 0 := Stand.of_body Bd
  have e0 : s₁.heap = h0 := by rw [← hh, Bd.state]; rfl
  have N0 := Fr.nil n0
  have K0 : Keep h0 h0 [] := Keep.refl _ _
  have ww : ∀ (k : Nat) {d : Jvm.Cond}, tables_1[k]? = some d → d.before av0 Z = true := fun k d h => hw d (List.mem_of_getElem? h)
  show ownEnds p e below s (Q_min_16_4 Z  h0 n0) ({ frames := 0, cells := 0, slots := 0, locals := 0 } : Room).cells ({ frames := 0, cells := 0, slots := 0, locals := 0 } : Room).slots s₁ (entryFrame m #[(.int (16 : Int32)), (.int (4 : Int32))] 2)
  refine ownCast (own_ef7_min_16_4 m ) ?_
  refine ow_iloadN (q := 1) X0 hx (hb hby own_d7_0) rfl rfl ?_
  refine ow_iloadN (q := 2) X0 hx (hb hby own_d7_1) rfl rfl ?_
  refine ow_icmpYes (q := 9) X0 hx (hb hby own_d7_2) (Jvm.Free.XT.ii_gt_t (by decide)) (by decide) (by decide) ?_
  refine ow_iloadN (q := 10) X0 hx (hb hby own_d7_9) rfl rfl ?_
  refine ownRetI X0 hx Bd.returns (hb hby own_d7_10) hlk (by decide) (by decide) ?_
  rw [e0]
  exact ⟨rfl, N0, rfl⟩
theorem own_ef6_copyOf_16_4 (m : MethodId) (a0 : Addr) : entryFrame m #[(.ref a0), (.int (4 : Int32))] 3 = mkF m 0 #[rv a0, iv (4 : Int32), .unset] [] := by first | (simp [entryFrame, mkF, argsToLocals, Value.category]; done) | rfl
def Q_copyOf_16_4 (Z : State) (a0 : Addr) (g : Nat → Int32) (h0 : Heap) (n0 : Nat) (v : Option Value) (h : Heap) (L : List Loc) : Prop := ∃ (r : Addr), v = some (.ref r) ∧ Fr n0 L ∧ Keep h0 h [] ∧ h0.size ≤ r ∧ ownAI Z h r .int 4 g
set_option maxRecDepth 65536 in
set_option maxHeartbeats 40000000 in
theorem rm_copyOf_16_4 (l : Launch) (Z : State) (av0 : Array Value) (hw : ∀ d ∈ tables_1, d.before av0 Z = true) (ws : List Jvm.Cond) (a0 : Addr) (g : Nat → Int32) (h0 : Heap) (n0 : Nat) (Z0 : n0 ≤ h0.size) (HF0 : ownAI Z h0 a0 .int 16 g) :
    MetFree l (⟨"java/util/Arrays", "copyOf", "([II)[I"⟩ : MethodName) (head1 (Jvm.Cond.code (⟨"java/util/Arrays", "copyOf", "([II)[I"⟩ : MethodName) jdk_65_method_123_code 3 (some (.array .int)) :: ws) ({ frames := 1, cells := 1, slots := 4, locals := 18 } : Room)) (fun a U => a = #[(.ref a0), (.int (4 : Int32))] ∧ Z.Warmed39 U.vm ∧ U.heap = h0) (fun _ _ _ _ _ => True) (fun _ U o U' => ∃ v L, o = .returned v ∧ (Q_copyOf_16_4 Z a0 g h0 n0) v U'.heap L ∧ FrameEnd U o U' L ({ frames := 1, cells := 1, slots := 4, locals := 18 } : Room).cells ({ frames := 1, cells := 1, slots := 4, locals := 18 } : Room).slots) := by
  refine MetFree.of_bodySF (plainFor_of_name own_pn_Arrays) hisR ?_
  intro p e s m args below meth c s₁ Bd hml0 hP hK
  obtain ⟨rfl, hZ, hh⟩ := hP
  have hx := Bd.exec
  have hby := Bd.bytes
  have hml : c.maxLocals = 3 := hml0
  have hown : s.vm.findClass "java/util/Arrays" = some m.cls := findClass_of_methodNamed Bd.named
  have hnm := (name_of_methodNamed Bd.named Bd.method).1
  have hlk : meth.locks = false := BodyLoose.notSynchronized Bd
  have X0 : Stand p l e ({ frames := 1, cells := 1, slots := 4, locals := 18 } : Room) s m #[(.ref a0), (.int (4 : Int32))] below meth c s₁ [] 0 0 := Stand.of_body Bd
  have e0 : s₁.heap = h0 := by rw [← hh, Bd.state]; rfl
  have N0 := Fr.nil n0
  have K0 : Keep h0 h0 [] := Keep.refl _ _
  have ww : ∀ (k : Nat) {d : Jvm.Cond}, tables_1[k]? = some d → d.before av0 Z = true := fun k d h => hw d (List.mem_of_getElem? h)
  show ownEnds p e below s (Q_copyOf_16_4 Z a0 g h0 n0) ({ frames := 1, cells := 1, slots := 4, locals := 18 } : Room).cells ({ frames := 1, cells := 1, slots := 4, locals := 18 } : Room).slots s₁ (entryFrame m #[(.ref a0), (.int (4 : Int32))] 3)
  refine ownCast (own_ef6_copyOf_16_4 m a0) ?_
  refine ow_iloadN (q := 1) X0 hx (hb hby own_d6_0) rfl rfl ?_
  refine ow_aloadN (q := 2) X0 hx (hb hby own_d6_1) rfl rfl rfl ?_
  refine ownGo (T' := s₁) (f' := (mkF m 3 #[rv a0, iv (4 : Int32), .unset] [(.int (16 : Int32)), (.int (4 : Int32))])) (ownLenI HF0 X0 hx hZ e0 (z := (16 : Int32)) (by decide) (g := (mkF m 2 #[rv a0, iv (4 : Int32), .unset] [(.ref a0), (.int (4 : Int32))])) rfl rfl (hb hby own_d6_2)) ?_
  refine ow_icmpYes (q := 14) X0 hx (hb hby own_d6_3) (Jvm.Free.XT.ii_ne_t (by decide)) (by decide) (by decide) ?_
  refine ow_iloadN (q := 15) X0 hx (hb hby own_d6_14) rfl rfl ?_
  obtain ⟨T1, h1, k1, X1, e1, E1, A1, EA1, st1⟩ := newPE X0 hx hZ (ww 2 rfl) e0 (g := (mkF m 15 #[rv a0, iv (4 : Int32), .unset] [(.int (4 : Int32))])) rfl (hb hby own_d6_15) rfl (by decide) (cap := 4) (by decide) (by decide) (by decide) (by decide) (ad := "[I") (by decide)
  obtain ⟨b1, g1⟩ : ∃ z, z = h0.size := ⟨_, rfl⟩
  rw [← g1] at A1 st1 EA1
  have ne_a0_b1 : a0 ≠ b1 := Nat.ne_of_lt (Nat.lt_of_lt_of_le HF0.lt (Nat.le_of_eq g1.symm))
  have sz_b1 : h0.size ≤ b1 := Nat.le_trans K0.1 (Nat.le_of_eq g1.symm)
  have G_b1 : n0 ≤ b1 := Nat.le_trans Z0 sz_b1
  have K1 : Keep h0 h1 [] := K0.ext E1
  have F2 : ownAI Z h1 a0 .int 16 g := HF0.ext E1
  have F3 : ownAI Z h1 b1 .int 4 (fun _ => (0 : Int32)) := ownAI.new A1 (by decide) rfl (by decide)
  refine ownGo (T' := T1) (f' := (mkF m 17 #[rv a0, iv (4 : Int32), .unset] [(.ref b1)])) (st1) ?_
  refine ow_astoreN (q := 18) X1 hx (L' := #[rv a0, iv (4 : Int32), rv b1]) (hb hby own_d6_17) rfl rfl rfl ?_
  refine ow_aloadN (q := 19) X1 hx (hb hby own_d6_18) rfl rfl rfl ?_
  refine ow_iconst (q := 20) X1 hx (0 : Int32) (hb hby own_d6_19) rfl rfl ?_
  refine ow_aloadN (q := 21) X1 hx (hb hby own_d6_20) rfl rfl rfl ?_
  refine ow_iconst (q := 22) X1 hx (0 : Int32) (hb hby own_d6_21) rfl rfl ?_
  refine ow_aloadN (q := 23) X1 hx (hb hby own_d6_22) rfl rfl rfl ?_
  refine ownGo (T' := T1) (f' := (mkF m 24 #[rv a0, iv (4 : Int32), rv b1] [(.int (16 : Int32)), (.int (0 : Int32)), (.ref b1), (.int (0 : Int32)), (.ref a0)])) (ownLenI F2 X1 hx hZ e1 (z := (16 : Int32)) (by decide) (g := (mkF m 23 #[rv a0, iv (4 : Int32), rv b1] [(.ref a0), (.int (0 : Int32)), (.ref b1), (.int (0 : Int32)), (.ref a0)])) rfl rfl (hb hby own_d6_23)) ?_
  refine ow_iloadN (q := 25) X1 hx (hb hby own_d6_24) rfl rfl ?_
  obtain ⟨_, _, ⟨T4, L4, k4, n4⟩, -, X4, ⟨Lc4, hQ4, l4, y4, z4⟩, st4⟩ := Jvm.LawKit.callS X1 hx (y := (⟨"java/lang/Math", "min", "(II)I"⟩ : MethodName)) hown (mvT hZ (ww 37 rfl)) (mvT hZ (ww 38 rfl)) (mvT hZ (ww 23 rfl)) (mvT hZ (ww 39 rfl)) (by decide) (backOf (W := 4) (rm_min_16_4 l Z av0 hw []  h1 n0 (Nat.le_trans Z0 K1.1) ) hZ (ww 39 rfl) (ww 23 rfl) (by decide) (by decide)) (g := (mkF m 25 #[rv a0, iv (4 : Int32), rv b1] [(.int (4 : Int32)), (.int (16 : Int32)), (.int (0 : Int32)), (.ref b1), (.int (0 : Int32)), (.ref a0)])) rfl (by rw [hml]; rfl) (argsL := [(.int (16 : Int32)), (.int (4 : Int32))]) (rest := [(.int (0 : Int32)), (.ref b1), (.int (0 : Int32)), (.ref a0)]) (lenOf own_pd0 rfl) rfl (by show 2 * 0 + _ ≤ _; exact Nat.le_of_eq rfl) (hb hby own_d6_25) (fun _ _ => ⟨rfl, e1, (by decide : 1 + 0 ≤ _), (by decide : 4 + 0 ≤ _)⟩)
  dsimp only [Pt.U, Pt.locs, Pt.cells, Pt.slots] at X4 l4 y4 z4 st4 hQ4
  subst l4 y4 z4
  obtain ⟨rfl, N4q, e4⟩ := hQ4
  have N4 := Fr.app N0 N4q
  refine ownGo (T' := T4) (f' := (mkF m 28 #[rv a0, iv (4 : Int32), rv b1] [(.int (4 : Int32)), (.int (0 : Int32)), (.ref b1), (.int (0 : Int32)), (.ref a0)])) (st4) ?_
  obtain ⟨T5, h5, L5, X5, e5, N5, Kq5, FC5, st5⟩ := ownCopyI (gr := g) (z := (16 : Int32)) (z' := (4 : Int32)) (nn := (4 : Int32)) F2 F3 (by decide) (by decide) (by decide) (by decide) rfl (fun _ _ => rfl) (fun _ _ => rfl) X4 hx hZ hown (ww 40 rfl) (ww 43 rfl) (ww 41 rfl) (ww 42 rfl) e4 (by decide) (by decide) (by decide) (fun i hi => if_pos hi) N4 G_b1 (g := (mkF m 28 #[rv a0, iv (4 : Int32), rv b1] [(.int (4 : Int32)), (.int (0 : Int32)), (.ref b1), (.int (0 : Int32)), (.ref a0)])) rfl (by rw [hml]; rfl) rfl (hb hby own_d6_28) (by decide) (W := 0) (by show 2 * 0 + _ ≤ _; exact Nat.le_of_eq rfl) (by decide)
  have K5 : Keep h0 h5 [] := K1.trans Kq5 (allS (Or.inr sz_b1) all0)
  have F6 : ownAI Z h5 a0 .int 16 g := F2.keep Kq5 (ninS ne_a0_b1 nin0)
  have F7 : Exa Z h5 b1 "[I" := EA1.keep Kq5
  refine ownGo (T' := T5) (f' := (mkF m 31 #[rv a0, iv (4 : Int32), rv b1] [])) (st5) ?_
  refine ow_aloadN (q := 32) X5 hx (hb hby own_d6_31) rfl rfl rfl ?_
  refine ownRetR X5 hx rfl rfl rfl Bd.returns (hb hby own_d6_32) hlk (by decide) (by decide) ?_
  rw [e5]
  exact ⟨b1, rfl, N5, K5, sz_b1, FC5⟩
theorem own_ef6_copyOf_4_4 (m : MethodId) (a0 : Addr) : entryFrame m #[(.ref a0), (.int (4 : Int32))] 3 = mkF m 0 #[rv a0, iv (4 : Int32), .unset] [] := by first | (simp [entryFrame, mkF, argsToLocals, Value.category]; done) | rfl
def Q_copyOf_4_4 (Z : State) (a0 : Addr) (g : Nat → Int32) (h0 : Heap) (n0 : Nat) (v : Option Value) (h : Heap) (L : List Loc) : Prop := ∃ (r : Addr), v = some (.ref r) ∧ Fr n0 L ∧ Keep h0 h [] ∧ h0.size ≤ r ∧ ownAI Z h r .int 4 g
set_option maxRecDepth 65536 in
set_option maxHeartbeats 40000000 in
theorem rm_copyOf_4_4 (l : Launch) (Z : State) (av0 : Array Value) (hw : ∀ d ∈ tables_1, d.before av0 Z = true) (ws : List Jvm.Cond) (a0 : Addr) (g : Nat → Int32) (h0 : Heap) (n0 : Nat) (Z0 : n0 ≤ h0.size) (HF0 : ownAI Z h0 a0 .int 4 g) (HF1 : Exa Z h0 a0 "[I") :
    MetFree l (⟨"java/util/Arrays", "copyOf", "([II)[I"⟩ : MethodName) (head1 (Jvm.Cond.code (⟨"java/util/Arrays", "copyOf", "([II)[I"⟩ : MethodName) jdk_65_method_123_code 3 (some (.array .int)) :: ws) ({ frames := 1, cells := 1, slots := 4, locals := 14 } : Room)) (fun a U => a = #[(.ref a0), (.int (4 : Int32))] ∧ Z.Warmed39 U.vm ∧ U.heap = h0) (fun _ _ _ _ _ => True) (fun _ U o U' => ∃ v L, o = .returned v ∧ (Q_copyOf_4_4 Z a0 g h0 n0) v U'.heap L ∧ FrameEnd U o U' L ({ frames := 1, cells := 1, slots := 4, locals := 14 } : Room).cells ({ frames := 1, cells := 1, slots := 4, locals := 14 } : Room).slots) := by
  refine MetFree.of_bodySF (plainFor_of_name own_pn_Arrays) hisR ?_
  intro p e s m args below meth c s₁ Bd hml0 hP hK
  obtain ⟨rfl, hZ, hh⟩ := hP
  have hx := Bd.exec
  have hby := Bd.bytes
  have hml : c.maxLocals = 3 := hml0
  have hown : s.vm.findClass "java/util/Arrays" = some m.cls := findClass_of_methodNamed Bd.named
  have hnm := (name_of_methodNamed Bd.named Bd.method).1
  have hlk : meth.locks = false := BodyLoose.notSynchronized Bd
  have X0 : Stand p l e ({ frames := 1, cells := 1, slots := 4, locals := 14 } : Room) s m #[(.ref a0), (.int (4 : Int32))] below meth c s₁ [] 0 0 := Stand.of_body Bd
  have e0 : s₁.heap = h0 := by rw [← hh, Bd.state]; rfl
  have N0 := Fr.nil n0
  have K0 : Keep h0 h0 [] := Keep.refl _ _
  have ww : ∀ (k : Nat) {d : Jvm.Cond}, tables_1[k]? = some d → d.before av0 Z = true := fun k d h => hw d (List.mem_of_getElem? h)
  show ownEnds p e below s (Q_copyOf_4_4 Z a0 g h0 n0) ({ frames := 1, cells := 1, slots := 4, locals := 14 } : Room).cells ({ frames := 1, cells := 1, slots := 4, locals := 14 } : Room).slots s₁ (entryFrame m #[(.ref a0), (.int (4 : Int32))] 3)
  refine ownCast (own_ef6_copyOf_4_4 m a0) ?_
  refine ow_iloadN (q := 1) X0 hx (hb hby own_d6_0) rfl rfl ?_
  refine ow_aloadN (q := 2) X0 hx (hb hby own_d6_1) rfl rfl rfl ?_
  refine ownGo (T' := s₁) (f' := (mkF m 3 #[rv a0, iv (4 : Int32), .unset] [(.int (4 : Int32)), (.int (4 : Int32))])) (ownLenI HF0 X0 hx hZ e0 (z := (4 : Int32)) (by decide) (g := (mkF m 2 #[rv a0, iv (4 : Int32), .unset] [(.ref a0), (.int (4 : Int32))])) rfl rfl (hb hby own_d6_2)) ?_
  refine ow_icmpNo (q := 6) X0 hx (hb hby own_d6_3) rfl (Jvm.Free.XT.ii_ne_f (by decide)) ?_
  refine ow_aloadN (q := 7) X0 hx (hb hby own_d6_6) rfl rfl rfl ?_
  obtain ⟨T1, h1, X1, e1, E1, A1, EA1, st1⟩ := ownCloneI (z := (4 : Int32)) HF0 (by decide) (by decide) (fun _ _ => rfl) X0 hx hZ hown (ww 57 rfl) (ww 58 rfl) (ww 62 rfl) (ww 60 rfl) (ww 61 rfl) (ww 63 rfl) e0 HF1 (g := (mkF m 7 #[rv a0, iv (4 : Int32), .unset] [(.ref a0)])) rfl (by rw [hml]; rfl) rfl (hb hby own_d6_7) (by decide) (W := 0) (cap := 4) (by show 2 * 0 + _ ≤ _; exact Nat.le_of_eq rfl) (by decide) (by decide) (by decide) (by decide)
  obtain ⟨b1, g1⟩ : ∃ z, z = h0.size := ⟨_, rfl⟩
  rw [← g1] at A1 EA1 st1
  have ne_a0_b1 : a0 ≠ b1 := Nat.ne_of_lt (Nat.lt_of_lt_of_le HF0.lt (Nat.le_of_eq g1.symm))
  have sz_b1 : h0.size ≤ b1 := Nat.le_trans K0.1 (Nat.le_of_eq g1.symm)
  have G_b1 : n0 ≤ b1 := Nat.le_trans Z0 sz_b1
  have K1 : Keep h0 h1 [] := K0.ext E1
  have F2 : ownAI Z h1 a0 .int 4 g := HF0.ext E1
  have F3 : Exa Z h1 a0 "[I" := HF1.ext E1
  refine ownGo (T' := T1) (f' := (mkF m 10 #[rv a0, iv (4 : Int32), .unset] [(.ref b1)])) (st1) ?_
  obtain ⟨T4, X4, e4, st4⟩ := castY X1 hx hZ hown (ww 64 rfl) e1 (Ins.self EA1) (g := (mkF m 10 #[rv a0, iv (4 : Int32), .unset] [(.ref b1)])) rfl rfl (hb hby own_d6_10)
  refine ownGo (T' := T4) (f' := (mkF m 13 #[rv a0, iv (4 : Int32), .unset] [(.ref b1)])) (st4) ?_
  refine ownRetR X4 hx rfl rfl rfl Bd.returns (hb hby own_d6_13) hlk (by decide) (by decide) ?_
  rw [e4]
  exact ⟨b1, rfl, N0, K1, sz_b1, A1⟩
theorem own_ef7_min_4_3 (m : MethodId)  : entryFrame m #[(.int (4 : Int32)), (.int (3 : Int32))] 2 = mkF m 0 #[iv (4 : Int32), iv (3 : Int32)] [] := by first | (simp [entryFrame, mkF, argsToLocals, Value.category]; done) | rfl
def Q_min_4_3 (Z : State)  (h0 : Heap) (n0 : Nat) (v : Option Value) (h : Heap) (L : List Loc) : Prop := v = some (.int (3 : Int32)) ∧ Fr n0 L ∧ h = h0
set_option maxRecDepth 65536 in
set_option maxHeartbeats 40000000 in
theorem rm_min_4_3 (l : Launch) (Z : State) (av0 : Array Value) (hw : ∀ d ∈ tables_1, d.before av0 Z = true) (ws : List Jvm.Cond)  (h0 : Heap) (n0 : Nat) (Z0 : n0 ≤ h0.size) :
    MetFree l (⟨"java/lang/Math", "min", "(II)I"⟩ : MethodName) (head1 (Jvm.Cond.code (⟨"java/lang/Math", "min", "(II)I"⟩ : MethodName) jdk_29_method_69_code 2 (some .int) :: ws) ({ frames := 0, cells := 0, slots := 0, locals := 0 } : Room)) (fun a U => a = #[(.int (4 : Int32)), (.int (3 : Int32))] ∧ Z.Warmed39 U.vm ∧ U.heap = h0) (fun _ _ _ _ _ => True) (fun _ U o U' => ∃ v L, o = .returned v ∧ (Q_min_4_3 Z  h0 n0) v U'.heap L ∧ FrameEnd U o U' L ({ frames := 0, cells := 0, slots := 0, locals := 0 } : Room).cells ({ frames := 0, cells := 0, slots := 0, locals := 0 } : Room).slots) := by
  refine MetFree.of_bodySF (Jvm.Free.JP.mathPlain rfl (by decide +kernel)) hisR ?_
  intro p e s m args below meth c s₁ Bd hml0 hP hK
  obtain ⟨rfl, hZ, hh⟩ := hP
  have hx := Bd.exec
  have hby := Bd.bytes
  have hml : c.maxLocals = 2 := hml0
  have hown : s.vm.findClass "java/lang/Math" = some m.cls := findClass_of_methodNamed Bd.named
  have hnm := (name_of_methodNamed Bd.named Bd.method).1
  have hlk : meth.locks = false := BodyLoose.notSynchronized Bd
  have X0 : Stand p l e ({ frames := 0, cells := 0, slots := 0, locals := 0 } : Room) s m #[(.int (4 : Int32)), (.int (3 : Int32))] below meth c s₁ [] 0 0 := Stand.of_body Bd
  have e0 : s₁.heap = h0 := by rw [← hh, Bd.state]; rfl
  have N0 := Fr.nil n0
  have K0 : Keep h0 h0 [] := Keep.refl _ _
  have ww : ∀ (k : Nat) {d : Jvm.Cond}, tables_1[k]? = some d → d.before av0 Z = true := fun k d h => hw d (List.mem_of_getElem? h)
  show ownEnds p e below s (Q_min_4_3 Z  h0 n0) ({ frames := 0, cells := 0, slots := 0, locals := 0 } : Room).cells ({ frames := 0, cells := 0, slots := 0, locals := 0 } : Room).slots s₁ (entryFrame m #[(.int (4 : Int32)), (.int (3 : Int32))] 2)
  refine ownCast (own_ef7_min_4_3 m ) ?_
  refine ow_iloadN (q := 1) X0 hx (hb hby own_d7_0) rfl rfl ?_
  refine ow_iloadN (q := 2) X0 hx (hb hby own_d7_1) rfl rfl ?_
  refine ow_icmpYes (q := 9) X0 hx (hb hby own_d7_2) (Jvm.Free.XT.ii_gt_t (by decide)) (by decide) (by decide) ?_
  refine ow_iloadN (q := 10) X0 hx (hb hby own_d7_9) rfl rfl ?_
  refine ownRetI X0 hx Bd.returns (hb hby own_d7_10) hlk (by decide) (by decide) ?_
  rw [e0]
  exact ⟨rfl, N0, rfl⟩
theorem own_ef6_copyOf_4_3 (m : MethodId) (a0 : Addr) : entryFrame m #[(.ref a0), (.int (3 : Int32))] 3 = mkF m 0 #[rv a0, iv (3 : Int32), .unset] [] := by first | (simp [entryFrame, mkF, argsToLocals, Value.category]; done) | rfl
def Q_copyOf_4_3 (Z : State) (a0 : Addr) (g : Nat → Int32) (h0 : Heap) (n0 : Nat) (v : Option Value) (h : Heap) (L : List Loc) : Prop := ∃ (r : Addr), v = some (.ref r) ∧ Fr n0 L ∧ Keep h0 h [] ∧ h0.size ≤ r ∧ ownAI Z h r .int 3 g
set_option maxRecDepth 65536 in
set_option maxHeartbeats 40000000 in
theorem rm_copyOf_4_3 (l : Launch) (Z : State) (av0 : Array Value) (hw : ∀ d ∈ tables_1, d.before av0 Z = true) (ws : List Jvm.Cond) (a0 : Addr) (g : Nat → Int32) (h0 : Heap) (n0 : Nat) (Z0 : n0 ≤ h0.size) (HF0 : ownAI Z h0 a0 .int 4 g) :
    MetFree l (⟨"java/util/Arrays", "copyOf", "([II)[I"⟩ : MethodName) (head1 (Jvm.Cond.code (⟨"java/util/Arrays", "copyOf", "([II)[I"⟩ : MethodName) jdk_65_method_123_code 3 (some (.array .int)) :: ws) ({ frames := 1, cells := 1, slots := 3, locals := 18 } : Room)) (fun a U => a = #[(.ref a0), (.int (3 : Int32))] ∧ Z.Warmed39 U.vm ∧ U.heap = h0) (fun _ _ _ _ _ => True) (fun _ U o U' => ∃ v L, o = .returned v ∧ (Q_copyOf_4_3 Z a0 g h0 n0) v U'.heap L ∧ FrameEnd U o U' L ({ frames := 1, cells := 1, slots := 3, locals := 18 } : Room).cells ({ frames := 1, cells := 1, slots := 3, locals := 18 } : Room).slots) := by
  refine MetFree.of_bodySF (plainFor_of_name own_pn_Arrays) hisR ?_
  intro p e s m args below meth c s₁ Bd hml0 hP hK
  obtain ⟨rfl, hZ, hh⟩ := hP
  have hx := Bd.exec
  have hby := Bd.bytes
  have hml : c.maxLocals = 3 := hml0
  have hown : s.vm.findClass "java/util/Arrays" = some m.cls := findClass_of_methodNamed Bd.named
  have hnm := (name_of_methodNamed Bd.named Bd.method).1
  have hlk : meth.locks = false := BodyLoose.notSynchronized Bd
  have X0 : Stand p l e ({ frames := 1, cells := 1, slots := 3, locals := 18 } : Room) s m #[(.ref a0), (.int (3 : Int32))] below meth c s₁ [] 0 0 := Stand.of_body Bd
  have e0 : s₁.heap = h0 := by rw [← hh, Bd.state]; rfl
  have N0 := Fr.nil n0
  have K0 : Keep h0 h0 [] := Keep.refl _ _
  have ww : ∀ (k : Nat) {d : Jvm.Cond}, tables_1[k]? = some d → d.before av0 Z = true := fun k d h => hw d (List.mem_of_getElem? h)
  show ownEnds p e below s (Q_copyOf_4_3 Z a0 g h0 n0) ({ frames := 1, cells := 1, slots := 3, locals := 18 } : Room).cells ({ frames := 1, cells := 1, slots := 3, locals := 18 } : Room).slots s₁ (entryFrame m #[(.ref a0), (.int (3 : Int32))] 3)
  refine ownCast (own_ef6_copyOf_4_3 m a0) ?_
  refine ow_iloadN (q := 1) X0 hx (hb hby own_d6_0) rfl rfl ?_
  refine ow_aloadN (q := 2) X0 hx (hb hby own_d6_1) rfl rfl rfl ?_
  refine ownGo (T' := s₁) (f' := (mkF m 3 #[rv a0, iv (3 : Int32), .unset] [(.int (4 : Int32)), (.int (3 : Int32))])) (ownLenI HF0 X0 hx hZ e0 (z := (4 : Int32)) (by decide) (g := (mkF m 2 #[rv a0, iv (3 : Int32), .unset] [(.ref a0), (.int (3 : Int32))])) rfl rfl (hb hby own_d6_2)) ?_
  refine ow_icmpYes (q := 14) X0 hx (hb hby own_d6_3) (Jvm.Free.XT.ii_ne_t (by decide)) (by decide) (by decide) ?_
  refine ow_iloadN (q := 15) X0 hx (hb hby own_d6_14) rfl rfl ?_
  obtain ⟨T1, h1, k1, X1, e1, E1, A1, EA1, st1⟩ := newPE X0 hx hZ (ww 2 rfl) e0 (g := (mkF m 15 #[rv a0, iv (3 : Int32), .unset] [(.int (3 : Int32))])) rfl (hb hby own_d6_15) rfl (by decide) (cap := 3) (by decide) (by decide) (by decide) (by decide) (ad := "[I") (by decide)
  obtain ⟨b1, g1⟩ : ∃ z, z = h0.size := ⟨_, rfl⟩
  rw [← g1] at A1 st1 EA1
  have ne_a0_b1 : a0 ≠ b1 := Nat.ne_of_lt (Nat.lt_of_lt_of_le HF0.lt (Nat.le_of_eq g1.symm))
  have sz_b1 : h0.size ≤ b1 := Nat.le_trans K0.1 (Nat.le_of_eq g1.symm)
  have G_b1 : n0 ≤ b1 := Nat.le_trans Z0 sz_b1
  have K1 : Keep h0 h1 [] := K0.ext E1
  have F2 : ownAI Z h1 a0 .int 4 g := HF0.ext E1
  have F3 : ownAI Z h1 b1 .int 3 (fun _ => (0 : Int32)) := ownAI.new A1 (by decide) rfl (by decide)
  refine ownGo (T' := T1) (f' := (mkF m 17 #[rv a0, iv (3 : Int32), .unset] [(.ref b1)])) (st1) ?_
  refine ow_astoreN (q := 18) X1 hx (L' := #[rv a0, iv (3 : Int32), rv b1]) (hb hby own_d6_17) rfl rfl rfl ?_
  refine ow_aloadN (q := 19) X1 hx (hb hby own_d6_18) rfl rfl rfl ?_
  refine ow_iconst (q := 20) X1 hx (0 : Int32) (hb hby own_d6_19) rfl rfl ?_
  refine ow_aloadN (q := 21) X1 hx (hb hby own_d6_20) rfl rfl rfl ?_
  refine ow_iconst (q := 22) X1 hx (0 : Int32) (hb hby own_d6_21) rfl rfl ?_
  refine ow_aloadN (q := 23) X1 hx (hb hby own_d6_22) rfl rfl rfl ?_
  refine ownGo (T' := T1) (f' := (mkF m 24 #[rv a0, iv (3 : Int32), rv b1] [(.int (4 : Int32)), (.int (0 : Int32)), (.ref b1), (.int (0 : Int32)), (.ref a0)])) (ownLenI F2 X1 hx hZ e1 (z := (4 : Int32)) (by decide) (g := (mkF m 23 #[rv a0, iv (3 : Int32), rv b1] [(.ref a0), (.int (0 : Int32)), (.ref b1), (.int (0 : Int32)), (.ref a0)])) rfl rfl (hb hby own_d6_23)) ?_
  refine ow_iloadN (q := 25) X1 hx (hb hby own_d6_24) rfl rfl ?_
  obtain ⟨_, _, ⟨T4, L4, k4, n4⟩, -, X4, ⟨Lc4, hQ4, l4, y4, z4⟩, st4⟩ := Jvm.LawKit.callS X1 hx (y := (⟨"java/lang/Math", "min", "(II)I"⟩ : MethodName)) hown (mvT hZ (ww 37 rfl)) (mvT hZ (ww 38 rfl)) (mvT hZ (ww 23 rfl)) (mvT hZ (ww 39 rfl)) (by decide) (backOf (W := 4) (rm_min_4_3 l Z av0 hw []  h1 n0 (Nat.le_trans Z0 K1.1) ) hZ (ww 39 rfl) (ww 23 rfl) (by decide) (by decide)) (g := (mkF m 25 #[rv a0, iv (3 : Int32), rv b1] [(.int (3 : Int32)), (.int (4 : Int32)), (.int (0 : Int32)), (.ref b1), (.int (0 : Int32)), (.ref a0)])) rfl (by rw [hml]; rfl) (argsL := [(.int (4 : Int32)), (.int (3 : Int32))]) (rest := [(.int (0 : Int32)), (.ref b1), (.int (0 : Int32)), (.ref a0)]) (lenOf own_pd0 rfl) rfl (by show 2 * 0 + _ ≤ _; exact Nat.le_of_eq rfl) (hb hby own_d6_25) (fun _ _ => ⟨rfl, e1, (by decide : 1 + 0 ≤ _), (by decide : 3 + 0 ≤ _)⟩)
  dsimp only [Pt.U, Pt.locs, Pt.cells, Pt.slots] at X4 l4 y4 z4 st4 hQ4
  subst l4 y4 z4
  obtain ⟨rfl, N4q, e4⟩ := hQ4
  have N4 := Fr.app N0 N4q
  refine ownGo (T' := T4) (f' := (mkF m 28 #[rv a0, iv (3 : Int32), rv b1] [(.int (3 : Int32)), (.int (0 : Int32)), (.ref b1), (.int (0 : Int32)), (.ref a0)])) (st4) ?_
  obtain ⟨T5, h5, L5, X5, e5, N5, Kq5, FC5, st5⟩ := ownCopyI (gr := g) (z := (4 : Int32)) (z' := (3 : Int32)) (nn := (3 : Int32)) F2 F3 (by decide) (by decide) (by decide) (by decide) rfl (fun _ _ => rfl) (fun _ _ => rfl) X4 hx hZ hown (ww 40 rfl) (ww 43 rfl) (ww 41 rfl) (ww 42 rfl) e4 (by decide) (by decide) (by decide) (fun i hi => if_pos hi) N4 G_b1 (g := (mkF m 28 #[rv a0, iv (3 : Int32), rv b1] [(.int (3 : Int32)), (.int (0 : Int32)), (.ref b1), (.int (0 : Int32)), (.ref a0)])) rfl (by rw [hml]; rfl) rfl (hb hby own_d6_28) (by decide) (W := 0) (by show 2 * 0 + _ ≤ _; exact Nat.le_of_eq rfl) (by decide)
  have K5 : Keep h0 h5 [] := K1.trans Kq5 (allS (Or.inr sz_b1) all0)
  have F6 : ownAI Z h5 a0 .int 4 g := F2.keep Kq5 (ninS ne_a0_b1 nin0)
  have F7 : Exa Z h5 b1 "[I" := EA1.keep Kq5
  refine ownGo (T' := T5) (f' := (mkF m 31 #[rv a0, iv (3 : Int32), rv b1] [])) (st5) ?_
  refine ow_aloadN (q := 32) X5 hx (hb hby own_d6_31) rfl rfl rfl ?_
  refine ownRetR X5 hx rfl rfl rfl Bd.returns (hb hby own_d6_32) hlk (by decide) (by decide) ?_
  rw [e5]
  exact ⟨b1, rfl, N5, K5, sz_b1, FC5⟩
theorem own_ef7_min_16_6 (m : MethodId)  : entryFrame m #[(.int (16 : Int32)), (.int (6 : Int32))] 2 = mkF m 0 #[iv (16 : Int32), iv (6 : Int32)] [] := by first | (simp [entryFrame, mkF, argsToLocals, Value.category]; done) | rfl
def Q_min_16_6 (Z : State)  (h0 : Heap) (n0 : Nat) (v : Option Value) (h : Heap) (L : List Loc) : Prop := v = some (.int (6 : Int32)) ∧ Fr n0 L ∧ h = h0
set_option maxRecDepth 65536 in
set_option maxHeartbeats 40000000 in
theorem rm_min_16_6 (l : Launch) (Z : State) (av0 : Array Value) (hw : ∀ d ∈ tables_1, d.before av0 Z = true) (ws : List Jvm.Cond)  (h0 : Heap) (n0 : Nat) (Z0 : n0 ≤ h0.size) :
    MetFree l (⟨"java/lang/Math", "min", "(II)I"⟩ : MethodName) (head1 (Jvm.Cond.code (⟨"java/lang/Math", "min", "(II)I"⟩ : MethodName) jdk_29_method_69_code 2 (some .int) :: ws) ({ frames := 0, cells := 0, slots := 0, locals := 0 } : Room)) (fun a U => a = #[(.int (16 : Int32)), (.int (6 : Int32))] ∧ Z.Warmed39 U.vm ∧ U.heap = h0) (fun _ _ _ _ _ => True) (fun _ U o U' => ∃ v L, o = .returned v ∧ (Q_min_16_6 Z  h0 n0) v U'.heap L ∧ FrameEnd U o U' L ({ frames := 0, cells := 0, slots := 0, locals := 0 } : Room).cells ({ frames := 0, cells := 0, slots := 0, locals := 0 } : Room).slots) := by
  refine MetFree.of_bodySF (Jvm.Free.JP.mathPlain rfl (by decide +kernel)) hisR ?_
  intro p e s m args below meth c s₁ Bd hml0 hP hK
  obtain ⟨rfl, hZ, hh⟩ := hP
  have hx := Bd.exec
  have hby := Bd.bytes
  have hml : c.maxLocals = 2 := hml0
  have hown : s.vm.findClass "java/lang/Math" = some m.cls := findClass_of_methodNamed Bd.named
  have hnm := (name_of_methodNamed Bd.named Bd.method).1
  have hlk : meth.locks = false := BodyLoose.notSynchronized Bd
  have X0 : Stand p l e ({ frames := 0, cells := 0, slots := 0, locals := 0 } : Room) s m #[(.int (16 : Int32)), (.int (6 : Int32))] below meth c s₁ [] 0 0 := Stand.of_body Bd
  have e0 : s₁.heap = h0 := by rw [← hh, Bd.state]; rfl
  have N0 := Fr.nil n0
  have K0 : Keep h0 h0 [] := Keep.refl _ _
  have ww : ∀ (k : Nat) {d : Jvm.Cond}, tables_1[k]? = some d → d.before av0 Z = true := fun k d h => hw d (List.mem_of_getElem? h)
  show ownEnds p e below s (Q_min_16_6 Z  h0 n0) ({ frames := 0, cells := 0, slots := 0, locals := 0 } : Room).cells ({ frames := 0, cells := 0, slots := 0, locals := 0 } : Room).slots s₁ (entryFrame m #[(.int (16 : Int32)), (.int (6 : Int32))] 2)
  refine ownCast (own_ef7_min_16_6 m ) ?_
  refine ow_iloadN (q := 1) X0 hx (hb hby own_d7_0) rfl rfl ?_
  refine ow_iloadN (q := 2) X0 hx (hb hby own_d7_1) rfl rfl ?_
  refine ow_icmpYes (q := 9) X0 hx (hb hby own_d7_2) (Jvm.Free.XT.ii_gt_t (by decide)) (by decide) (by decide) ?_
  refine ow_iloadN (q := 10) X0 hx (hb hby own_d7_9) rfl rfl ?_
  refine ownRetI X0 hx Bd.returns (hb hby own_d7_10) hlk (by decide) (by decide) ?_
  rw [e0]
  exact ⟨rfl, N0, rfl⟩
theorem own_ef6_copyOf_16_6 (m : MethodId) (a0 : Addr) : entryFrame m #[(.ref a0), (.int (6 : Int32))] 3 = mkF m 0 #[rv a0, iv (6 : Int32), .unset] [] := by first | (simp [entryFrame, mkF, argsToLocals, Value.category]; done) | rfl
def Q_copyOf_16_6 (Z : State) (a0 : Addr) (g : Nat → Int32) (h0 : Heap) (n0 : Nat) (v : Option Value) (h : Heap) (L : List Loc) : Prop := ∃ (r : Addr), v = some (.ref r) ∧ Fr n0 L ∧ Keep h0 h [] ∧ h0.size ≤ r ∧ ownAI Z h r .int 6 g
set_option maxRecDepth 65536 in
set_option maxHeartbeats 40000000 in
theorem rm_copyOf_16_6 (l : Launch) (Z : State) (av0 : Array Value) (hw : ∀ d ∈ tables_1, d.before av0 Z = true) (ws : List Jvm.Cond) (a0 : Addr) (g : Nat → Int32) (h0 : Heap) (n0 : Nat) (Z0 : n0 ≤ h0.size) (HF0 : ownAI Z h0 a0 .int 16 g) :
    MetFree l (⟨"java/util/Arrays", "copyOf", "([II)[I"⟩ : MethodName) (head1 (Jvm.Cond.code (⟨"java/util/Arrays", "copyOf", "([II)[I"⟩ : MethodName) jdk_65_method_123_code 3 (some (.array .int)) :: ws) ({ frames := 1, cells := 1, slots := 6, locals := 18 } : Room)) (fun a U => a = #[(.ref a0), (.int (6 : Int32))] ∧ Z.Warmed39 U.vm ∧ U.heap = h0) (fun _ _ _ _ _ => True) (fun _ U o U' => ∃ v L, o = .returned v ∧ (Q_copyOf_16_6 Z a0 g h0 n0) v U'.heap L ∧ FrameEnd U o U' L ({ frames := 1, cells := 1, slots := 6, locals := 18 } : Room).cells ({ frames := 1, cells := 1, slots := 6, locals := 18 } : Room).slots) := by
  refine MetFree.of_bodySF (plainFor_of_name own_pn_Arrays) hisR ?_
  intro p e s m args below meth c s₁ Bd hml0 hP hK
  obtain ⟨rfl, hZ, hh⟩ := hP
  have hx := Bd.exec
  have hby := Bd.bytes
  have hml : c.maxLocals = 3 := hml0
  have hown : s.vm.findClass "java/util/Arrays" = some m.cls := findClass_of_methodNamed Bd.named
  have hnm := (name_of_methodNamed Bd.named Bd.method).1
  have hlk : meth.locks = false := BodyLoose.notSynchronized Bd
  have X0 : Stand p l e ({ frames := 1, cells := 1, slots := 6, locals := 18 } : Room) s m #[(.ref a0), (.int (6 : Int32))] below meth c s₁ [] 0 0 := Stand.of_body Bd
  have e0 : s₁.heap = h0 := by rw [← hh, Bd.state]; rfl
  have N0 := Fr.nil n0
  have K0 : Keep h0 h0 [] := Keep.refl _ _
  have ww : ∀ (k : Nat) {d : Jvm.Cond}, tables_1[k]? = some d → d.before av0 Z = true := fun k d h => hw d (List.mem_of_getElem? h)
  show ownEnds p e below s (Q_copyOf_16_6 Z a0 g h0 n0) ({ frames := 1, cells := 1, slots := 6, locals := 18 } : Room).cells ({ frames := 1, cells := 1, slots := 6, locals := 18 } : Room).slots s₁ (entryFrame m #[(.ref a0), (.int (6 : Int32))] 3)
  refine ownCast (own_ef6_copyOf_16_6 m a0) ?_
  refine ow_iloadN (q := 1) X0 hx (hb hby own_d6_0) rfl rfl ?_
  refine ow_aloadN (q := 2) X0 hx (hb hby own_d6_1) rfl rfl rfl ?_
  refine ownGo (T' := s₁) (f' := (mkF m 3 #[rv a0, iv (6 : Int32), .unset] [(.int (16 : Int32)), (.int (6 : Int32))])) (ownLenI HF0 X0 hx hZ e0 (z := (16 : Int32)) (by decide) (g := (mkF m 2 #[rv a0, iv (6 : Int32), .unset] [(.ref a0), (.int (6 : Int32))])) rfl rfl (hb hby own_d6_2)) ?_
  refine ow_icmpYes (q := 14) X0 hx (hb hby own_d6_3) (Jvm.Free.XT.ii_ne_t (by decide)) (by decide) (by decide) ?_
  refine ow_iloadN (q := 15) X0 hx (hb hby own_d6_14) rfl rfl ?_
  obtain ⟨T1, h1, k1, X1, e1, E1, A1, EA1, st1⟩ := newPE X0 hx hZ (ww 2 rfl) e0 (g := (mkF m 15 #[rv a0, iv (6 : Int32), .unset] [(.int (6 : Int32))])) rfl (hb hby own_d6_15) rfl (by decide) (cap := 6) (by decide) (by decide) (by decide) (by decide) (ad := "[I") (by decide)
  obtain ⟨b1, g1⟩ : ∃ z, z = h0.size := ⟨_, rfl⟩
  rw [← g1] at A1 st1 EA1
  have ne_a0_b1 : a0 ≠ b1 := Nat.ne_of_lt (Nat.lt_of_lt_of_le HF0.lt (Nat.le_of_eq g1.symm))
  have sz_b1 : h0.size ≤ b1 := Nat.le_trans K0.1 (Nat.le_of_eq g1.symm)
  have G_b1 : n0 ≤ b1 := Nat.le_trans Z0 sz_b1
  have K1 : Keep h0 h1 [] := K0.ext E1
  have F2 : ownAI Z h1 a0 .int 16 g := HF0.ext E1
  have F3 : ownAI Z h1 b1 .int 6 (fun _ => (0 : Int32)) := ownAI.new A1 (by decide) rfl (by decide)
  refine ownGo (T' := T1) (f' := (mkF m 17 #[rv a0, iv (6 : Int32), .unset] [(.ref b1)])) (st1) ?_
  refine ow_astoreN (q := 18) X1 hx (L' := #[rv a0, iv (6 : Int32), rv b1]) (hb hby own_d6_17) rfl rfl rfl ?_
  refine ow_aloadN (q := 19) X1 hx (hb hby own_d6_18) rfl rfl rfl ?_
  refine ow_iconst (q := 20) X1 hx (0 : Int32) (hb hby own_d6_19) rfl rfl ?_
  refine ow_aloadN (q := 21) X1 hx (hb hby own_d6_20) rfl rfl rfl ?_
  refine ow_iconst (q := 22) X1 hx (0 : Int32) (hb hby own_d6_21) rfl rfl ?_
  refine ow_aloadN (q := 23) X1 hx (hb hby own_d6_22) rfl rfl rfl ?_
  refine ownGo (T' := T1) (f' := (mkF m 24 #[rv a0, iv (6 : Int32), rv b1] [(.int (16 : Int32)), (.int (0 : Int32)), (.ref b1), (.int (0 : Int32)), (.ref a0)])) (ownLenI F2 X1 hx hZ e1 (z := (16 : Int32)) (by decide) (g := (mkF m 23 #[rv a0, iv (6 : Int32), rv b1] [(.ref a0), (.int (0 : Int32)), (.ref b1), (.int (0 : Int32)), (.ref a0)])) rfl rfl (hb hby own_d6_23)) ?_
  refine ow_iloadN (q := 25) X1 hx (hb hby own_d6_24) rfl rfl ?_
  obtain ⟨_, _, ⟨T4, L4, k4, n4⟩, -, X4, ⟨Lc4, hQ4, l4, y4, z4⟩, st4⟩ := Jvm.LawKit.callS X1 hx (y := (⟨"java/lang/Math", "min", "(II)I"⟩ : MethodName)) hown (mvT hZ (ww 37 rfl)) (mvT hZ (ww 38 rfl)) (mvT hZ (ww 23 rfl)) (mvT hZ (ww 39 rfl)) (by decide) (backOf (W := 4) (rm_min_16_6 l Z av0 hw []  h1 n0 (Nat.le_trans Z0 K1.1) ) hZ (ww 39 rfl) (ww 23 rfl) (by decide) (by decide)) (g := (mkF m 25 #[rv a0, iv (6 : Int32), rv b1] [(.int (6 : Int32)), (.int (16 : Int32)), (.int (0 : Int32)), (.ref b1), (.int (0 : Int32)), (.ref a0)])) rfl (by rw [hml]; rfl) (argsL := [(.int (16 : Int32)), (.int (6 : Int32))]) (rest := [(.int (0 : Int32)), (.ref b1), (.int (0 : Int32)), (.ref a0)]) (lenOf own_pd0 rfl) rfl (by show 2 * 0 + _ ≤ _; exact Nat.le_of_eq rfl) (hb hby own_d6_25) (fun _ _ => ⟨rfl, e1, (by decide : 1 + 0 ≤ _), (by decide : 6 + 0 ≤ _)⟩)
  dsimp only [Pt.U, Pt.locs, Pt.cells, Pt.slots] at X4 l4 y4 z4 st4 hQ4
  subst l4 y4 z4
  obtain ⟨rfl, N4q, e4⟩ := hQ4
  have N4 := Fr.app N0 N4q
  refine ownGo (T' := T4) (f' := (mkF m 28 #[rv a0, iv (6 : Int32), rv b1] [(.int (6 : Int32)), (.int (0 : Int32)), (.ref b1), (.int (0 : Int32)), (.ref a0)])) (st4) ?_
  obtain ⟨T5, h5, L5, X5, e5, N5, Kq5, FC5, st5⟩ := ownCopyI (gr := g) (z := (16 : Int32)) (z' := (6 : Int32)) (nn := (6 : Int32)) F2 F3 (by decide) (by decide) (by decide) (by decide) rfl (fun _ _ => rfl) (fun _ _ => rfl) X4 hx hZ hown (ww 40 rfl) (ww 43 rfl) (ww 41 rfl) (ww 42 rfl) e4 (by decide) (by decide) (by decide) (fun i hi => if_pos hi) N4 G_b1 (g := (mkF m 28 #[rv a0, iv (6 : Int32), rv b1] [(.int (6 : Int32)), (.int (0 : Int32)), (.ref b1), (.int (0 : Int32)), (.ref a0)])) rfl (by rw [hml]; rfl) rfl (hb hby own_d6_28) (by decide) (W := 0) (by show 2 * 0 + _ ≤ _; exact Nat.le_of_eq rfl) (by decide)
  have K5 : Keep h0 h5 [] := K1.trans Kq5 (allS (Or.inr sz_b1) all0)
  have F6 : ownAI Z h5 a0 .int 16 g := F2.keep Kq5 (ninS ne_a0_b1 nin0)
  have F7 : Exa Z h5 b1 "[I" := EA1.keep Kq5
  refine ownGo (T' := T5) (f' := (mkF m 31 #[rv a0, iv (6 : Int32), rv b1] [])) (st5) ?_
  refine ow_aloadN (q := 32) X5 hx (hb hby own_d6_31) rfl rfl rfl ?_
  refine ownRetR X5 hx rfl rfl rfl Bd.returns (hb hby own_d6_32) hlk (by decide) (by decide) ?_
  rw [e5]
  exact ⟨b1, rfl, N5, K5, sz_b1, FC5⟩
theorem own_ef6_copyOf_6_6 (m : MethodId) (a0 : Addr) : entryFrame m #[(.ref a0), (.int (6 : Int32))] 3 = mkF m 0 #[rv a0, iv (6 : Int32), .unset] [] := by first | (simp [entryFrame, mkF, argsToLocals, Value.category]; done) | rfl
def Q_copyOf_6_6 (Z : State) (a0 : Addr) (g : Nat → Int32) (h0 : Heap) (n0 : Nat) (v : Option Value) (h : Heap) (L : List Loc) : Prop := ∃ (r : Addr), v = some (.ref r) ∧ Fr n0 L ∧ Keep h0 h [] ∧ h0.size ≤ r ∧ ownAI Z h r .int 6 g
set_option maxRecDepth 65536 in
set_option maxHeartbeats 40000000 in
theorem rm_copyOf_6_6 (l : Launch) (Z : State) (av0 : Array Value) (hw : ∀ d ∈ tables_1, d.before av0 Z = true) (ws : List Jvm.Cond) (a0 : Addr) (g : Nat → Int32) (h0 : Heap) (n0 : Nat) (Z0 : n0 ≤ h0.size) (HF0 : ownAI Z h0 a0 .int 6 g) (HF1 : Exa Z h0 a0 "[I") :
    MetFree l (⟨"java/util/Arrays", "copyOf", "([II)[I"⟩ : MethodName) (head1 (Jvm.Cond.code (⟨"java/util/Arrays", "copyOf", "([II)[I"⟩ : MethodName) jdk_65_method_123_code 3 (some (.array .int)) :: ws) ({ frames := 1, cells := 1, slots := 6, locals := 14 } : Room)) (fun a U => a = #[(.ref a0), (.int (6 : Int32))] ∧ Z.Warmed39 U.vm ∧ U.heap = h0) (fun _ _ _ _ _ => True) (fun _ U o U' => ∃ v L, o = .returned v ∧ (Q_copyOf_6_6 Z a0 g h0 n0) v U'.heap L ∧ FrameEnd U o U' L ({ frames := 1, cells := 1, slots := 6, locals := 14 } : Room).cells ({ frames := 1, cells := 1, slots := 6, locals := 14 } : Room).slots) := by
  refine MetFree.of_bodySF (plainFor_of_name own_pn_Arrays) hisR ?_
  intro p e s m args below meth c s₁ Bd hml0 hP hK
  obtain ⟨rfl, hZ, hh⟩ := hP
  have hx := Bd.exec
  have hby := Bd.bytes
  have hml : c.maxLocals = 3 := hml0
  have hown : s.vm.findClass "java/util/Arrays" = some m.cls := findClass_of_methodNamed Bd.named
  have hnm := (name_of_methodNamed Bd.named Bd.method).1
  have hlk : meth.locks = false := BodyLoose.notSynchronized Bd
  have X0 : Stand p l e ({ frames := 1, cells := 1, slots := 6, locals := 14 } : Room) s m #[(.ref a0), (.int (6 : Int32))] below meth c s₁ [] 0 0 := Stand.of_body Bd
  have e0 : s₁.heap = h0 := by rw [← hh, Bd.state]; rfl
  have N0 := Fr.nil n0
  have K0 : Keep h0 h0 [] := Keep.refl _ _
  have ww : ∀ (k : Nat) {d : Jvm.Cond}, tables_1[k]? = some d → d.before av0 Z = true := fun k d h => hw d (List.mem_of_getElem? h)
  show ownEnds p e below s (Q_copyOf_6_6 Z a0 g h0 n0) ({ frames := 1, cells := 1, slots := 6, locals := 14 } : Room).cells ({ frames := 1, cells := 1, slots := 6, locals := 14 } : Room).slots s₁ (entryFrame m #[(.ref a0), (.int (6 : Int32))] 3)
  refine ownCast (own_ef6_copyOf_6_6 m a0) ?_
  refine ow_iloadN (q := 1) X0 hx (hb hby own_d6_0) rfl rfl ?_
  refine ow_aloadN (q := 2) X0 hx (hb hby own_d6_1) rfl rfl rfl ?_
  refine ownGo (T' := s₁) (f' := (mkF m 3 #[rv a0, iv (6 : Int32), .unset] [(.int (6 : Int32)), (.int (6 : Int32))])) (ownLenI HF0 X0 hx hZ e0 (z := (6 : Int32)) (by decide) (g := (mkF m 2 #[rv a0, iv (6 : Int32), .unset] [(.ref a0), (.int (6 : Int32))])) rfl rfl (hb hby own_d6_2)) ?_
  refine ow_icmpNo (q := 6) X0 hx (hb hby own_d6_3) rfl (Jvm.Free.XT.ii_ne_f (by decide)) ?_
  refine ow_aloadN (q := 7) X0 hx (hb hby own_d6_6) rfl rfl rfl ?_
  obtain ⟨T1, h1, X1, e1, E1, A1, EA1, st1⟩ := ownCloneI (z := (6 : Int32)) HF0 (by decide) (by decide) (fun _ _ => rfl) X0 hx hZ hown (ww 57 rfl) (ww 58 rfl) (ww 62 rfl) (ww 60 rfl) (ww 61 rfl) (ww 63 rfl) e0 HF1 (g := (mkF m 7 #[rv a0, iv (6 : Int32), .unset] [(.ref a0)])) rfl (by rw [hml]; rfl) rfl (hb hby own_d6_7) (by decide) (W := 0) (cap := 6) (by show 2 * 0 + _ ≤ _; exact Nat.le_of_eq rfl) (by decide) (by decide) (by decide) (by decide)
  obtain ⟨b1, g1⟩ : ∃ z, z = h0.size := ⟨_, rfl⟩
  rw [← g1] at A1 EA1 st1
  have ne_a0_b1 : a0 ≠ b1 := Nat.ne_of_lt (Nat.lt_of_lt_of_le HF0.lt (Nat.le_of_eq g1.symm))
  have sz_b1 : h0.size ≤ b1 := Nat.le_trans K0.1 (Nat.le_of_eq g1.symm)
  have G_b1 : n0 ≤ b1 := Nat.le_trans Z0 sz_b1
  have K1 : Keep h0 h1 [] := K0.ext E1
  have F2 : ownAI Z h1 a0 .int 6 g := HF0.ext E1
  have F3 : Exa Z h1 a0 "[I" := HF1.ext E1
  refine ownGo (T' := T1) (f' := (mkF m 10 #[rv a0, iv (6 : Int32), .unset] [(.ref b1)])) (st1) ?_
  obtain ⟨T4, X4, e4, st4⟩ := castY X1 hx hZ hown (ww 64 rfl) e1 (Ins.self EA1) (g := (mkF m 10 #[rv a0, iv (6 : Int32), .unset] [(.ref b1)])) rfl rfl (hb hby own_d6_10)
  refine ownGo (T' := T4) (f' := (mkF m 13 #[rv a0, iv (6 : Int32), .unset] [(.ref b1)])) (st4) ?_
  refine ownRetR X4 hx rfl rfl rfl Bd.returns (hb hby own_d6_13) hlk (by decide) (by decide) ?_
  rw [e4]
  exact ⟨b1, rfl, N0, K1, sz_b1, A1⟩
theorem own_ef7_min_6_5 (m : MethodId)  : entryFrame m #[(.int (6 : Int32)), (.int (5 : Int32))] 2 = mkF m 0 #[iv (6 : Int32), iv (5 : Int32)] [] := by first | (simp [entryFrame, mkF, argsToLocals, Value.category]; done) | rfl
def Q_min_6_5 (Z : State)  (h0 : Heap) (n0 : Nat) (v : Option Value) (h : Heap) (L : List Loc) : Prop := v = some (.int (5 : Int32)) ∧ Fr n0 L ∧ h = h0
set_option maxRecDepth 65536 in
set_option maxHeartbeats 40000000 in
theorem rm_min_6_5 (l : Launch) (Z : State) (av0 : Array Value) (hw : ∀ d ∈ tables_1, d.before av0 Z = true) (ws : List Jvm.Cond)  (h0 : Heap) (n0 : Nat) (Z0 : n0 ≤ h0.size) :
    MetFree l (⟨"java/lang/Math", "min", "(II)I"⟩ : MethodName) (head1 (Jvm.Cond.code (⟨"java/lang/Math", "min", "(II)I"⟩ : MethodName) jdk_29_method_69_code 2 (some .int) :: ws) ({ frames := 0, cells := 0, slots := 0, locals := 0 } : Room)) (fun a U => a = #[(.int (6 : Int32)), (.int (5 : Int32))] ∧ Z.Warmed39 U.vm ∧ U.heap = h0) (fun _ _ _ _ _ => True) (fun _ U o U' => ∃ v L, o = .returned v ∧ (Q_min_6_5 Z  h0 n0) v U'.heap L ∧ FrameEnd U o U' L ({ frames := 0, cells := 0, slots := 0, locals := 0 } : Room).cells ({ frames := 0, cells := 0, slots := 0, locals := 0 } : Room).slots) := by
  refine MetFree.of_bodySF (Jvm.Free.JP.mathPlain rfl (by decide +kernel)) hisR ?_
  intro p e s m args below meth c s₁ Bd hml0 hP hK
  obtain ⟨rfl, hZ, hh⟩ := hP
  have hx := Bd.exec
  have hby := Bd.bytes
  have hml : c.maxLocals = 2 := hml0
  have hown : s.vm.findClass "java/lang/Math" = some m.cls := findClass_of_methodNamed Bd.named
  have hnm := (name_of_methodNamed Bd.named Bd.method).1
  have hlk : meth.locks = false := BodyLoose.notSynchronized Bd
  have X0 : Stand p l e ({ frames := 0, cells := 0, slots := 0, locals := 0 } : Room) s m #[(.int (6 : Int32)), (.int (5 : Int32))] below meth c s₁ [] 0 0 := Stand.of_body Bd
  have e0 : s₁.heap = h0 := by rw [← hh, Bd.state]; rfl
  have N0 := Fr.nil n0
  have K0 : Keep h0 h0 [] := Keep.refl _ _
  have ww : ∀ (k : Nat) {d : Jvm.Cond}, tables_1[k]? = some d → d.before av0 Z = true := fun k d h => hw d (List.mem_of_getElem? h)
  show ownEnds p e below s (Q_min_6_5 Z  h0 n0) ({ frames := 0, cells := 0, slots := 0, locals := 0 } : Room).cells ({ frames := 0, cells := 0, slots := 0, locals := 0 } : Room).slots s₁ (entryFrame m #[(.int (6 : Int32)), (.int (5 : Int32))] 2)
  refine ownCast (own_ef7_min_6_5 m ) ?_
  refine ow_iloadN (q := 1) X0 hx (hb hby own_d7_0) rfl rfl ?_
  refine ow_iloadN (q := 2) X0 hx (hb hby own_d7_1) rfl rfl ?_
  refine ow_icmpYes (q := 9) X0 hx (hb hby own_d7_2) (Jvm.Free.XT.ii_gt_t (by decide)) (by decide) (by decide) ?_
  refine ow_iloadN (q := 10) X0 hx (hb hby own_d7_9) rfl rfl ?_
  refine ownRetI X0 hx Bd.returns (hb hby own_d7_10) hlk (by decide) (by decide) ?_
  rw [e0]
  exact ⟨rfl, N0, rfl⟩
theorem own_ef6_copyOf_6_5 (m : MethodId) (a0 : Addr) : entryFrame m #[(.ref a0), (.int (5 : Int32))] 3 = mkF m 0 #[rv a0, iv (5 : Int32), .unset] [] := by first | (simp [entryFrame, mkF, argsToLocals, Value.category]; done) | rfl
def Q_copyOf_6_5 (Z : State) (a0 : Addr) (g : Nat → Int32) (h0 : Heap) (n0 : Nat) (v : Option Value) (h : Heap) (L : List Loc) : Prop := ∃ (r : Addr), v = some (.ref r) ∧ Fr n0 L ∧ Keep h0 h [] ∧ h0.size ≤ r ∧ ownAI Z h r .int 5 g
set_option maxRecDepth 65536 in
set_option maxHeartbeats 40000000 in
theorem rm_copyOf_6_5 (l : Launch) (Z : State) (av0 : Array Value) (hw : ∀ d ∈ tables_1, d.before av0 Z = true) (ws : List Jvm.Cond) (a0 : Addr) (g : Nat → Int32) (h0 : Heap) (n0 : Nat) (Z0 : n0 ≤ h0.size) (HF0 : ownAI Z h0 a0 .int 6 g) :
    MetFree l (⟨"java/util/Arrays", "copyOf", "([II)[I"⟩ : MethodName) (head1 (Jvm.Cond.code (⟨"java/util/Arrays", "copyOf", "([II)[I"⟩ : MethodName) jdk_65_method_123_code 3 (some (.array .int)) :: ws) ({ frames := 1, cells := 1, slots := 5, locals := 18 } : Room)) (fun a U => a = #[(.ref a0), (.int (5 : Int32))] ∧ Z.Warmed39 U.vm ∧ U.heap = h0) (fun _ _ _ _ _ => True) (fun _ U o U' => ∃ v L, o = .returned v ∧ (Q_copyOf_6_5 Z a0 g h0 n0) v U'.heap L ∧ FrameEnd U o U' L ({ frames := 1, cells := 1, slots := 5, locals := 18 } : Room).cells ({ frames := 1, cells := 1, slots := 5, locals := 18 } : Room).slots) := by
  refine MetFree.of_bodySF (plainFor_of_name own_pn_Arrays) hisR ?_
  intro p e s m args below meth c s₁ Bd hml0 hP hK
  obtain ⟨rfl, hZ, hh⟩ := hP
  have hx := Bd.exec
  have hby := Bd.bytes
  have hml : c.maxLocals = 3 := hml0
  have hown : s.vm.findClass "java/util/Arrays" = some m.cls := findClass_of_methodNamed Bd.named
  have hnm := (name_of_methodNamed Bd.named Bd.method).1
  have hlk : meth.locks = false := BodyLoose.notSynchronized Bd
  have X0 : Stand p l e ({ frames := 1, cells := 1, slots := 5, locals := 18 } : Room) s m #[(.ref a0), (.int (5 : Int32))] below meth c s₁ [] 0 0 := Stand.of_body Bd
  have e0 : s₁.heap = h0 := by rw [← hh, Bd.state]; rfl
  have N0 := Fr.nil n0
  have K0 : Keep h0 h0 [] := Keep.refl _ _
  have ww : ∀ (k : Nat) {d : Jvm.Cond}, tables_1[k]? = some d → d.before av0 Z = true := fun k d h => hw d (List.mem_of_getElem? h)
  show ownEnds p e below s (Q_copyOf_6_5 Z a0 g h0 n0) ({ frames := 1, cells := 1, slots := 5, locals := 18 } : Room).cells ({ frames := 1, cells := 1, slots := 5, locals := 18 } : Room).slots s₁ (entryFrame m #[(.ref a0), (.int (5 : Int32))] 3)
  refine ownCast (own_ef6_copyOf_6_5 m a0) ?_
  refine ow_iloadN (q := 1) X0 hx (hb hby own_d6_0) rfl rfl ?_
  refine ow_aloadN (q := 2) X0 hx (hb hby own_d6_1) rfl rfl rfl ?_
  refine ownGo (T' := s₁) (f' := (mkF m 3 #[rv a0, iv (5 : Int32), .unset] [(.int (6 : Int32)), (.int (5 : Int32))])) (ownLenI HF0 X0 hx hZ e0 (z := (6 : Int32)) (by decide) (g := (mkF m 2 #[rv a0, iv (5 : Int32), .unset] [(.ref a0), (.int (5 : Int32))])) rfl rfl (hb hby own_d6_2)) ?_
  refine ow_icmpYes (q := 14) X0 hx (hb hby own_d6_3) (Jvm.Free.XT.ii_ne_t (by decide)) (by decide) (by decide) ?_
  refine ow_iloadN (q := 15) X0 hx (hb hby own_d6_14) rfl rfl ?_
  obtain ⟨T1, h1, k1, X1, e1, E1, A1, EA1, st1⟩ := newPE X0 hx hZ (ww 2 rfl) e0 (g := (mkF m 15 #[rv a0, iv (5 : Int32), .unset] [(.int (5 : Int32))])) rfl (hb hby own_d6_15) rfl (by decide) (cap := 5) (by decide) (by decide) (by decide) (by decide) (ad := "[I") (by decide)
  obtain ⟨b1, g1⟩ : ∃ z, z = h0.size := ⟨_, rfl⟩
  rw [← g1] at A1 st1 EA1
  have ne_a0_b1 : a0 ≠ b1 := Nat.ne_of_lt (Nat.lt_of_lt_of_le HF0.lt (Nat.le_of_eq g1.symm))
  have sz_b1 : h0.size ≤ b1 := Nat.le_trans K0.1 (Nat.le_of_eq g1.symm)
  have G_b1 : n0 ≤ b1 := Nat.le_trans Z0 sz_b1
  have K1 : Keep h0 h1 [] := K0.ext E1
  have F2 : ownAI Z h1 a0 .int 6 g := HF0.ext E1
  have F3 : ownAI Z h1 b1 .int 5 (fun _ => (0 : Int32)) := ownAI.new A1 (by decide) rfl (by decide)
  refine ownGo (T' := T1) (f' := (mkF m 17 #[rv a0, iv (5 : Int32), .unset] [(.ref b1)])) (st1) ?_
  refine ow_astoreN (q := 18) X1 hx (L' := #[rv a0, iv (5 : Int32), rv b1]) (hb hby own_d6_17) rfl rfl rfl ?_
  refine ow_aloadN (q := 19) X1 hx (hb hby own_d6_18) rfl rfl rfl ?_
  refine ow_iconst (q := 20) X1 hx (0 : Int32) (hb hby own_d6_19) rfl rfl ?_
  refine ow_aloadN (q := 21) X1 hx (hb hby own_d6_20) rfl rfl rfl ?_
  refine ow_iconst (q := 22) X1 hx (0 : Int32) (hb hby own_d6_21) rfl rfl ?_
  refine ow_aloadN (q := 23) X1 hx (hb hby own_d6_22) rfl rfl rfl ?_
  refine ownGo (T' := T1) (f' := (mkF m 24 #[rv a0, iv (5 : Int32), rv b1] [(.int (6 : Int32)), (.int (0 : Int32)), (.ref b1), (.int (0 : Int32)), (.ref a0)])) (ownLenI F2 X1 hx hZ e1 (z := (6 : Int32)) (by decide) (g := (mkF m 23 #[rv a0, iv (5 : Int32), rv b1] [(.ref a0), (.int (0 : Int32)), (.ref b1), (.int (0 : Int32)), (.ref a0)])) rfl rfl (hb hby own_d6_23)) ?_
  refine ow_iloadN (q := 25) X1 hx (hb hby own_d6_24) rfl rfl ?_
  obtain ⟨_, _, ⟨T4, L4, k4, n4⟩, -, X4, ⟨Lc4, hQ4, l4, y4, z4⟩, st4⟩ := Jvm.LawKit.callS X1 hx (y := (⟨"java/lang/Math", "min", "(II)I"⟩ : MethodName)) hown (mvT hZ (ww 37 rfl)) (mvT hZ (ww 38 rfl)) (mvT hZ (ww 23 rfl)) (mvT hZ (ww 39 rfl)) (by decide) (backOf (W := 4) (rm_min_6_5 l Z av0 hw []  h1 n0 (Nat.le_trans Z0 K1.1) ) hZ (ww 39 rfl) (ww 23 rfl) (by decide) (by decide)) (g := (mkF m 25 #[rv a0, iv (5 : Int32), rv b1] [(.int (5 : Int32)), (.int (6 : Int32)), (.int (0 : Int32)), (.ref b1), (.int (0 : Int32)), (.ref a0)])) rfl (by rw [hml]; rfl) (argsL := [(.int (6 : Int32)), (.int (5 : Int32))]) (rest := [(.int (0 : Int32)), (.ref b1), (.int (0 : Int32)), (.ref a0)]) (lenOf own_pd0 rfl) rfl (by show 2 * 0 + _ ≤ _; exact Nat.le_of_eq rfl) (hb hby own_d6_25) (fun _ _ => ⟨rfl, e1, (by decide : 1 + 0 ≤ _), (by decide : 5 + 0 ≤ _)⟩)
  dsimp only [Pt.U, Pt.locs, Pt.cells, Pt.slots] at X4 l4 y4 z4 st4 hQ4
  subst l4 y4 z4
  obtain ⟨rfl, N4q, e4⟩ := hQ4
  have N4 := Fr.app N0 N4q
  refine ownGo (T' := T4) (f' := (mkF m 28 #[rv a0, iv (5 : Int32), rv b1] [(.int (5 : Int32)), (.int (0 : Int32)), (.ref b1), (.int (0 : Int32)), (.ref a0)])) (st4) ?_
  obtain ⟨T5, h5, L5, X5, e5, N5, Kq5, FC5, st5⟩ := ownCopyI (gr := g) (z := (6 : Int32)) (z' := (5 : Int32)) (nn := (5 : Int32)) F2 F3 (by decide) (by decide) (by decide) (by decide) rfl (fun _ _ => rfl) (fun _ _ => rfl) X4 hx hZ hown (ww 40 rfl) (ww 43 rfl) (ww 41 rfl) (ww 42 rfl) e4 (by decide) (by decide) (by decide) (fun i hi => if_pos hi) N4 G_b1 (g := (mkF m 28 #[rv a0, iv (5 : Int32), rv b1] [(.int (5 : Int32)), (.int (0 : Int32)), (.ref b1), (.int (0 : Int32)), (.ref a0)])) rfl (by rw [hml]; rfl) rfl (hb hby own_d6_28) (by decide) (W := 0) (by show 2 * 0 + _ ≤ _; exact Nat.le_of_eq rfl) (by decide)
  have K5 : Keep h0 h5 [] := K1.trans Kq5 (allS (Or.inr sz_b1) all0)
  have F6 : ownAI Z h5 a0 .int 6 g := F2.keep Kq5 (ninS ne_a0_b1 nin0)
  have F7 : Exa Z h5 b1 "[I" := EA1.keep Kq5
  refine ownGo (T' := T5) (f' := (mkF m 31 #[rv a0, iv (5 : Int32), rv b1] [])) (st5) ?_
  refine ow_aloadN (q := 32) X5 hx (hb hby own_d6_31) rfl rfl rfl ?_
  refine ownRetR X5 hx rfl rfl rfl Bd.returns (hb hby own_d6_32) hlk (by decide) (by decide) ?_
  rw [e5]
  exact ⟨b1, rfl, N5, K5, sz_b1, FC5⟩
theorem own_pn_CodePointSet_Builder : plainName "com/example/shapewright/shapewright/regex/CodePointSet$Builder" = true := by first | (simp [plainName, overriddenIn]; done) | decide +kernel
theorem own_d1_0 : decode prog_19_method_1_code 0 = .ok (.aload_n 0, 1) := by decide +kernel
theorem own_d1_1 : decode prog_19_method_1_code 1 = .ok (.invokespecial 1, 3) := by decide +kernel
theorem own_d1_4 : decode prog_19_method_1_code 4 = .ok (.aload_n 0, 1) := by decide +kernel
theorem own_d1_5 : decode prog_19_method_1_code 5 = .ok (.bipush 16, 2) := by decide +kernel
theorem own_d1_7 : decode prog_19_method_1_code 7 = .ok (.newarray .int, 2) := by decide +kernel
theorem own_d1_9 : decode prog_19_method_1_code 9 = .ok (.putfield 7, 3) := by decide +kernel
theorem own_d1_12 : decode prog_19_method_1_code 12 = .ok (.return_, 1) := by decide +kernel
theorem own_ef1_binit (m : MethodId) (a0 : Addr) : entryFrame m #[(.ref a0)] 1 = mkF m 0 #[rv a0] [] := by first | (simp [entryFrame, mkF, argsToLocals, Value.category]; done) | rfl
def Q_binit (Z : State) (a0 : Addr) (h0 : Heap) (n0 : Nat) (v : Option Value) (h : Heap) (L : List Loc) : Prop := ∃ (ar : Addr), v = none ∧ Fr n0 L ∧ Keep h0 h [a0] ∧ h0.size ≤ ar ∧ Exa Z h a0 "com/example/shapewright/shapewright/regex/CodePointSet$Builder" ∧ Fld Z h a0 "com/example/shapewright/shapewright/regex/CodePointSet$Builder" "ranges" "[I" (.ref ar) ∧ Fld Z h a0 "com/example/shapewright/shapewright/regex/CodePointSet$Builder" "length" "I" (.int (0 : Int32)) ∧ ownAI Z h ar .int 16 (fun _ => (0 : Int32))
set_option maxRecDepth 65536 in
set_option maxHeartbeats 40000000 in
theorem rm_binit (l : Launch) (Z : State) (av0 : Array Value) (hw : ∀ d ∈ tables_1, d.before av0 Z = true) (ws : List Jvm.Cond) (a0 : Addr) (h0 : Heap) (n0 : Nat) (Z0 : n0 ≤ h0.size) (HF0 : Exa Z h0 a0 "com/example/shapewright/shapewright/regex/CodePointSet$Builder") (HF1 : Fld Z h0 a0 "com/example/shapewright/shapewright/regex/CodePointSet$Builder" "ranges" "[I" .null) (HF2 : Fld Z h0 a0 "com/example/shapewright/shapewright/regex/CodePointSet$Builder" "length" "I" (.int (0 : Int32))) (G_a0 : n0 ≤ a0) :
    MetFree l (⟨"com/example/shapewright/shapewright/regex/CodePointSet$Builder", "<init>", "()V"⟩ : MethodName) (head1 (Jvm.Cond.code (⟨"com/example/shapewright/shapewright/regex/CodePointSet$Builder", "<init>", "()V"⟩ : MethodName) prog_19_method_1_code 1 none :: ws) ({ frames := 1, cells := 1, slots := 16, locals := 12 } : Room)) (fun a U => a = #[(.ref a0)] ∧ Z.Warmed39 U.vm ∧ U.heap = h0) (fun _ _ _ _ _ => True) (fun _ U o U' => ∃ v L, o = .returned v ∧ (Q_binit Z a0 h0 n0) v U'.heap L ∧ FrameEnd U o U' L ({ frames := 1, cells := 1, slots := 16, locals := 12 } : Room).cells ({ frames := 1, cells := 1, slots := 16, locals := 12 } : Room).slots) := by
  refine MetFree.of_bodySF (plainFor_of_name own_pn_CodePointSet_Builder) hisR ?_
  intro p e s m args below meth c s₁ Bd hml0 hP hK
  obtain ⟨rfl, hZ, hh⟩ := hP
  have hx := Bd.exec
  have hby := Bd.bytes
  have hml : c.maxLocals = 1 := hml0
  have hown : s.vm.findClass "com/example/shapewright/shapewright/regex/CodePointSet$Builder" = some m.cls := findClass_of_methodNamed Bd.named
  have hnm := (name_of_methodNamed Bd.named Bd.method).1
  have hlk : meth.locks = false := BodyLoose.notSynchronized Bd
  have X0 : Stand p l e ({ frames := 1, cells := 1, slots := 16, locals := 12 } : Room) s m #[(.ref a0)] below meth c s₁ [] 0 0 := Stand.of_body Bd
  have e0 : s₁.heap = h0 := by rw [← hh, Bd.state]; rfl
  have N0 := Fr.nil n0
  have K0 : Keep h0 h0 [a0] := Keep.refl _ _
  have ww : ∀ (k : Nat) {d : Jvm.Cond}, tables_1[k]? = some d → d.before av0 Z = true := fun k d h => hw d (List.mem_of_getElem? h)
  show ownEnds p e below s (Q_binit Z a0 h0 n0) ({ frames := 1, cells := 1, slots := 16, locals := 12 } : Room).cells ({ frames := 1, cells := 1, slots := 16, locals := 12 } : Room).slots s₁ (entryFrame m #[(.ref a0)] 1)
  refine ownCast (own_ef1_binit m a0) ?_
  refine ow_aloadN (q := 1) X0 hx (hb hby own_d1_0) rfl rfl rfl ?_
  obtain ⟨T1, X1, e1, st1⟩ := initO X0 hx hZ hown (ww 9 rfl) (ww 10 rfl) (ww 11 rfl) e0 (g := (mkF m 1 #[rv a0] [(.ref a0)])) rfl (by rw [hml]; rfl) rfl (hb hby own_d1_1) (by decide) (W := 0) (by show 2 * 0 + _ ≤ _; exact Nat.le_of_eq rfl) (by decide)
  refine ownGo (T' := T1) (f' := (mkF m 4 #[rv a0] [])) (st1) ?_
  refine ow_aloadN (q := 5) X1 hx (hb hby own_d1_4) rfl rfl rfl ?_
  refine ow_bipush (q := 7) X1 hx (16 : Int32) (hb hby own_d1_5) rfl rfl ?_
  obtain ⟨T2, h2, k2, X2, e2, E2, A2, st2⟩ := newP X1 hx hZ (ww 2 rfl) e1 (g := (mkF m 7 #[rv a0] [(.int (16 : Int32)), (.ref a0)])) rfl (hb hby own_d1_7) rfl (by decide) (cap := 16) (by decide) (by decide) (by decide) (by decide)
  obtain ⟨b2, g2⟩ : ∃ z, z = h0.size := ⟨_, rfl⟩
  rw [← g2] at A2 st2
  have ne_a0_b2 : a0 ≠ b2 := Nat.ne_of_lt (Nat.lt_of_lt_of_le HF0.lt (Nat.le_of_eq g2.symm))
  have sz_b2 : h0.size ≤ b2 := Nat.le_trans K0.1 (Nat.le_of_eq g2.symm)
  have G_b2 : n0 ≤ b2 := Nat.le_trans Z0 sz_b2
  have K2 : Keep h0 h2 [a0] := K0.ext E2
  have F3 : Exa Z h2 a0 "com/example/shapewright/shapewright/regex/CodePointSet$Builder" := HF0.ext E2
  have F4 : Fld Z h2 a0 "com/example/shapewright/shapewright/regex/CodePointSet$Builder" "ranges" "[I" .null := HF1.ext E2
  have F5 : Fld Z h2 a0 "com/example/shapewright/shapewright/regex/CodePointSet$Builder" "length" "I" (.int (0 : Int32)) := HF2.ext E2
  have F6 : ownAI Z h2 b2 .int 16 (fun _ => (0 : Int32)) := ownAI.new A2 (by decide) rfl (by decide)
  refine ownGo (T' := T2) (f' := (mkF m 9 #[rv a0] [(.ref b2), (.ref a0)])) (st2) ?_
  obtain ⟨T7, h7, X7, e7, W7, st7⟩ := putF X2 hx hZ hown (host := "") (Or.inl (ww 12 rfl)) Via.refl e2 F4 F3 (Or.inl (ww 13 rfl)) (ww 4 rfl) (ty := (.array .int)) (by decide) rfl rfl (g := (mkF m 9 #[rv a0] [(.ref b2), (.ref a0)])) rfl rfl (hb hby own_d1_9)
  have N7 := Fr.snoc X7 N0 G_a0
  have K7 : Keep h0 h7 [a0] := K2.wr W7 (Or.inl (List.mem_of_getElem? (i := 0) rfl))
  have F8 : Exa Z h7 a0 "com/example/shapewright/shapewright/regex/CodePointSet$Builder" := F3.wr W7
  have F9 : Fld Z h7 a0 "com/example/shapewright/shapewright/regex/CodePointSet$Builder" "ranges" "[I" (.ref b2) := F4.same W7
  have F10 : Fld Z h7 a0 "com/example/shapewright/shapewright/regex/CodePointSet$Builder" "length" "I" (.int (0 : Int32)) := F5.other W7 (Or.inr (slot_ne (Or.inl (ww 20 rfl)) (Or.inl (ww 13 rfl)) (by decide) (t := .int) (t' := (.array .int)) (by decide) (by decide)))
  have F11 : ownAI Z h7 b2 .int 16 (fun _ => (0 : Int32)) := F6.other W7 (Ne.symm ne_a0_b2)
  refine ownGo (T' := T7) (f' := (mkF m 12 #[rv a0] [])) (st7) ?_
  refine ownRetV X7 hx Bd.returns (hb hby own_d1_12) hlk (by decide) (by decide) ?_
  rw [e7]
  exact ⟨b2, rfl, N7, K7, sz_b2, F8, F9, F10, F11⟩
theorem own_d3_0 : decode prog_19_method_2_code 0 = .ok (.aload_n 0, 1) := by decide +kernel
theorem own_d3_1 : decode prog_19_method_2_code 1 = .ok (.getfield 13, 3) := by decide +kernel
theorem own_d3_4 : decode prog_19_method_2_code 4 = .ok (.ifCond .le 49, 3) := by decide +kernel
theorem own_d3_53 : decode prog_19_method_2_code 53 = .ok (.aload_n 0, 1) := by decide +kernel
theorem own_d3_54 : decode prog_19_method_2_code 54 = .ok (.getfield 13, 3) := by decide +kernel
theorem own_d3_57 : decode prog_19_method_2_code 57 = .ok (.aload_n 0, 1) := by decide +kernel
theorem own_d3_58 : decode prog_19_method_2_code 58 = .ok (.getfield 7, 3) := by decide +kernel
theorem own_d3_61 : decode prog_19_method_2_code 61 = .ok (.arraylength, 1) := by decide +kernel
theorem own_d3_62 : decode prog_19_method_2_code 62 = .ok (.if_icmp .ne 20, 3) := by decide +kernel
theorem own_d3_82 : decode prog_19_method_2_code 82 = .ok (.aload_n 0, 1) := by decide +kernel
theorem own_d3_83 : decode prog_19_method_2_code 83 = .ok (.getfield 7, 3) := by decide +kernel
theorem own_d3_86 : decode prog_19_method_2_code 86 = .ok (.aload_n 0, 1) := by decide +kernel
theorem own_d3_87 : decode prog_19_method_2_code 87 = .ok (.dup, 1) := by decide +kernel
theorem own_d3_88 : decode prog_19_method_2_code 88 = .ok (.getfield 13, 3) := by decide +kernel
theorem own_d3_91 : decode prog_19_method_2_code 91 = .ok (.dup_x1, 1) := by decide +kernel
theorem own_d3_92 : decode prog_19_method_2_code 92 = .ok (.iconst 1, 1) := by decide +kernel
theorem own_d3_93 : decode prog_19_method_2_code 93 = .ok (.iadd, 1) := by decide +kernel
theorem own_d3_94 : decode prog_19_method_2_code 94 = .ok (.putfield 13, 3) := by decide +kernel
theorem own_d3_97 : decode prog_19_method_2_code 97 = .ok (.iload_n 1, 1) := by decide +kernel
theorem own_d3_98 : decode prog_19_method_2_code 98 = .ok (.iastore, 1) := by decide +kernel
theorem own_d3_99 : decode prog_19_method_2_code 99 = .ok (.aload_n 0, 1) := by decide +kernel
theorem own_d3_100 : decode prog_19_method_2_code 100 = .ok (.getfield 7, 3) := by decide +kernel
theorem own_d3_103 : decode prog_19_method_2_code 103 = .ok (.aload_n 0, 1) := by decide +kernel
theorem own_d3_104 : decode prog_19_method_2_code 104 = .ok (.dup, 1) := by decide +kernel
theorem own_d3_105 : decode prog_19_method_2_code 105 = .ok (.getfield 13, 3) := by decide +kernel
theorem own_d3_108 : decode prog_19_method_2_code 108 = .ok (.dup_x1, 1) := by decide +kernel
theorem own_d3_109 : decode prog_19_method_2_code 109 = .ok (.iconst 1, 1) := by decide +kernel
theorem own_d3_110 : decode prog_19_method_2_code 110 = .ok (.iadd, 1) := by decide +kernel
theorem own_d3_111 : decode prog_19_method_2_code 111 = .ok (.putfield 13, 3) := by decide +kernel
theorem own_d3_114 : decode prog_19_method_2_code 114 = .ok (.iload_n 2, 1) := by decide +kernel
theorem own_d3_115 : decode prog_19_method_2_code 115 = .ok (.iastore, 1) := by decide +kernel
theorem own_d3_116 : decode prog_19_method_2_code 116 = .ok (.aload_n 0, 1) := by decide +kernel
theorem own_d3_117 : decode prog_19_method_2_code 117 = .ok (.areturn, 1) := by decide +kernel
theorem own_ef3_add_0_a (m : MethodId) (a0 : Addr) (p1 : Int32) (p2 : Int32) : entryFrame m #[(.ref a0), (.int p1), (.int p2)] 3 = mkF m 0 #[rv a0, iv p1, iv p2] [] := by first | (simp [entryFrame, mkF, argsToLocals, Value.category]; done) | rfl
def Q_add_0_a (Z : State) (a0 : Addr) (p1 : Int32) (p2 : Int32) (ar : Addr) (g : Nat → Int32) (h0 : Heap) (n0 : Nat) (v : Option Value) (h : Heap) (L : List Loc) : Prop := v = some (.ref a0) ∧ Fr n0 L ∧ Keep h0 h [a0, ar] ∧ Exa Z h a0 "com/example/shapewright/shapewright/regex/CodePointSet$Builder" ∧ Fld Z h a0 "com/example/shapewright/shapewright/regex/CodePointSet$Builder" "ranges" "[I" (.ref ar) ∧ Fld Z h a0 "com/example/shapewright/shapewright/regex/CodePointSet$Builder" "length" "I" (.int (2 : Int32)) ∧ ownAI Z h ar .int 16 (ownUpd (ownUpd g 0 p1) 1 p2)
set_option maxRecDepth 65536 in
set_option maxHeartbeats 40000000 in
theorem rm_add_0_a (l : Launch) (Z : State) (av0 : Array Value) (hw : ∀ d ∈ tables_1, d.before av0 Z = true) (ws : List Jvm.Cond) (a0 : Addr) (p1 : Int32) (p2 : Int32) (ar : Addr) (g : Nat → Int32) (h0 : Heap) (n0 : Nat) (Z0 : n0 ≤ h0.size) (HF0 : Exa Z h0 a0 "com/example/shapewright/shapewright/regex/CodePointSet$Builder") (HF1 : Fld Z h0 a0 "com/example/shapewright/shapewright/regex/CodePointSet$Builder" "ranges" "[I" (.ref ar)) (HF2 : Fld Z h0 a0 "com/example/shapewright/shapewright/regex/CodePointSet$Builder" "length" "I" (.int (0 : Int32))) (HF3 : ownAI Z h0 ar .int 16 g) (G_a0 : n0 ≤ a0) (G_ar : n0 ≤ ar) (hne : a0 ≠ ar) :
    MetFree l (⟨"com/example/shapewright/shapewright/regex/CodePointSet$Builder", "add", "(II)Lcom/example/shapewright/shapewright/regex/CodePointSet$Builder;"⟩ : MethodName) (head1 (Jvm.Cond.code (⟨"com/example/shapewright/shapewright/regex/CodePointSet$Builder", "add", "(II)Lcom/example/shapewright/shapewright/regex/CodePointSet$Builder;"⟩ : MethodName) prog_19_method_2_code 3 (some (.object "com/example/shapewright/shapewright/regex/CodePointSet$Builder")) :: ws) ({ frames := 0, cells := 0, slots := 0, locals := 0 } : Room)) (fun a U => a = #[(.ref a0), (.int p1), (.int p2)] ∧ Z.Warmed39 U.vm ∧ U.heap = h0) (fun _ _ _ _ _ => True) (fun _ U o U' => ∃ v L, o = .returned v ∧ (Q_add_0_a Z a0 p1 p2 ar g h0 n0) v U'.heap L ∧ FrameEnd U o U' L ({ frames := 0, cells := 0, slots := 0, locals := 0 } : Room).cells ({ frames := 0, cells := 0, slots := 0, locals := 0 } : Room).slots) := by
  refine MetFree.of_bodySF (plainFor_of_name own_pn_CodePointSet_Builder) hisR ?_
  intro p e s m args below meth c s₁ Bd hml0 hP hK
  obtain ⟨rfl, hZ, hh⟩ := hP
  have hx := Bd.exec
  have hby := Bd.bytes
  have hml : c.maxLocals = 3 := hml0
  have hown : s.vm.findClass "com/example/shapewright/shapewright/regex/CodePointSet$Builder" = some m.cls := findClass_of_methodNamed Bd.named
  have hnm := (name_of_methodNamed Bd.named Bd.method).1
  have hlk : meth.locks = false := BodyLoose.notSynchronized Bd
  have X0 : Stand p l e ({ frames := 0, cells := 0, slots := 0, locals := 0 } : Room) s m #[(.ref a0), (.int p1), (.int p2)] below meth c s₁ [] 0 0 := Stand.of_body Bd
  have e0 : s₁.heap = h0 := by rw [← hh, Bd.state]; rfl
  have N0 := Fr.nil n0
  have K0 : Keep h0 h0 [a0, ar] := Keep.refl _ _
  have ww : ∀ (k : Nat) {d : Jvm.Cond}, tables_1[k]? = some d → d.before av0 Z = true := fun k d h => hw d (List.mem_of_getElem? h)
  show ownEnds p e below s (Q_add_0_a Z a0 p1 p2 ar g h0 n0) ({ frames := 0, cells := 0, slots := 0, locals := 0 } : Room).cells ({ frames := 0, cells := 0, slots := 0, locals := 0 } : Room).slots s₁ (entryFrame m #[(.ref a0), (.int p1), (.int p2)] 3)
  refine ownCast (own_ef3_add_0_a m a0 p1 p2) ?_
  refine ow_aloadN (q := 1) X0 hx (hb hby own_d3_0) rfl rfl rfl ?_
  obtain ⟨T1, X1, e1, st1⟩ := getF X0 hx hZ hown (host := "") (Or.inl (ww 19 rfl)) Via.refl e0 HF2 (g := (mkF m 1 #[rv a0, iv p1, iv p2] [(.ref a0)])) rfl rfl (hb hby own_d3_1)
  refine ownGo (T' := T1) (f' := (mkF m 4 #[rv a0, iv p1, iv p2] [(.int (0 : Int32))])) (st1) ?_
  refine ow_ifYes (q := 53) X1 hx (hb hby own_d3_4) (Jvm.Free.XT.i0_le_t (by decide)) (by decide) (by decide) ?_
  refine ow_aloadN (q := 54) X1 hx (hb hby own_d3_53) rfl rfl rfl ?_
  obtain ⟨T2, X2, e2, st2⟩ := getF X1 hx hZ hown (host := "") (Or.inl (ww 19 rfl)) Via.refl e1 HF2 (g := (mkF m 54 #[rv a0, iv p1, iv p2] [(.ref a0)])) rfl rfl (hb hby own_d3_54)
  refine ownGo (T' := T2) (f' := (mkF m 57 #[rv a0, iv p1, iv p2] [(.int (0 : Int32))])) (st2) ?_
  refine ow_aloadN (q := 58) X2 hx (hb hby own_d3_57) rfl rfl rfl ?_
  obtain ⟨T3, X3, e3, st3⟩ := getF X2 hx hZ hown (host := "") (Or.inl (ww 12 rfl)) Via.refl e2 HF1 (g := (mkF m 58 #[rv a0, iv p1, iv p2] [(.ref a0), (.int (0 : Int32))])) rfl rfl (hb hby own_d3_58)
  refine ownGo (T' := T3) (f' := (mkF m 61 #[rv a0, iv p1, iv p2] [(.ref ar), (.int (0 : Int32))])) (st3) ?_
  refine ownGo (T' := T3) (f' := (mkF m 62 #[rv a0, iv p1, iv p2] [(.int (16 : Int32)), (.int (0 : Int32))])) (ownLenI HF3 X3 hx hZ e3 (z := (16 : Int32)) (by decide) (g := (mkF m 61 #[rv a0, iv p1, iv p2] [(.ref ar), (.int (0 : Int32))])) rfl rfl (hb hby own_d3_61)) ?_
  refine ow_icmpYes (q := 82) X3 hx (hb hby own_d3_62) (Jvm.Free.XT.ii_ne_t (by decide)) (by decide) (by decide) ?_
  refine ow_aloadN (q := 83) X3 hx (hb hby own_d3_82) rfl rfl rfl ?_
  obtain ⟨T4, X4, e4, st4⟩ := getF X3 hx hZ hown (host := "") (Or.inl (ww 12 rfl)) Via.refl e3 HF1 (g := (mkF m 83 #[rv a0, iv p1, iv p2] [(.ref a0)])) rfl rfl (hb hby own_d3_83)
  refine ownGo (T' := T4) (f' := (mkF m 86 #[rv a0, iv p1, iv p2] [(.ref ar)])) (st4) ?_
  refine ow_aloadN (q := 87) X4 hx (hb hby own_d3_86) rfl rfl rfl ?_
  refine ow_dup (q := 88) X4 hx (hb hby own_d3_87) rfl rfl ?_
  obtain ⟨T5, X5, e5, st5⟩ := getF X4 hx hZ hown (host := "") (Or.inl (ww 19 rfl)) Via.refl e4 HF2 (g := (mkF m 88 #[rv a0, iv p1, iv p2] [(.ref a0), (.ref a0), (.ref ar)])) rfl rfl (hb hby own_d3_88)
  refine ownGo (T' := T5) (f' := (mkF m 91 #[rv a0, iv p1, iv p2] [(.int (0 : Int32)), (.ref a0), (.ref ar)])) (st5) ?_
  refine ow_dupX1 (q := 92) X5 hx (hb hby own_d3_91) rfl rfl rfl ?_
  refine ow_iconst (q := 93) X5 hx (1 : Int32) (hb hby own_d3_92) rfl rfl ?_
  refine ow_iadd (q := 94) X5 hx (1 : Int32) (hb hby own_d3_93) rfl (by decide) ?_
  obtain ⟨T6, h6, X6, e6, W6, st6⟩ := putF X5 hx hZ hown (host := "") (Or.inl (ww 19 rfl)) Via.refl e5 HF2 HF0 (Or.inl (ww 20 rfl)) (ww 4 rfl) (ty := .int) (by decide) rfl rfl (g := (mkF m 94 #[rv a0, iv p1, iv p2] [(.int (1 : Int32)), (.ref a0), (.int (0 : Int32)), (.ref ar)])) rfl rfl (hb hby own_d3_94)
  have N6 := Fr.snoc X6 N0 G_a0
  have K6 : Keep h0 h6 [a0, ar] := K0.wr W6 (Or.inl (List.mem_of_getElem? (i := 0) rfl))
  have F7 : Exa Z h6 a0 "com/example/shapewright/shapewright/regex/CodePointSet$Builder" := HF0.wr W6
  have F8 : Fld Z h6 a0 "com/example/shapewright/shapewright/regex/CodePointSet$Builder" "ranges" "[I" (.ref ar) := HF1.other W6 (Or.inr (slot_ne (Or.inl (ww 13 rfl)) (Or.inl (ww 20 rfl)) (by decide) (t := (.array .int)) (t' := .int) (by decide) (by decide)))
  have F9 : Fld Z h6 a0 "com/example/shapewright/shapewright/regex/CodePointSet$Builder" "length" "I" (.int (1 : Int32)) := HF2.same W6
  have F10 : ownAI Z h6 ar .int 16 g := HF3.other W6 (Ne.symm hne)
  refine ownGo (T' := T6) (f' := (mkF m 97 #[rv a0, iv p1, iv p2] [(.int (0 : Int32)), (.ref ar)])) (st6) ?_
  refine ow_iloadN (q := 98) X6 hx (hb hby own_d3_97) rfl rfl ?_
  obtain ⟨T11, h11, X11, e11, W11, F11s, st11⟩ := ownIastore F10 X6 hx hZ e6 (j := (0 : Int32)) (by unfold ownIn; decide) (g := (mkF m 98 #[rv a0, iv p1, iv p2] [(.int p1), (.int (0 : Int32)), (.ref ar)])) rfl rfl (hb hby own_d3_98)
  have F11r : ownAI Z h11 ar .int 16 (ownUpd g 0 p1) := F11s
  have N11 := Fr.snoc X11 N6 G_ar
  have K11 : Keep h0 h11 [a0, ar] := K6.wr W11 (Or.inl (List.mem_of_getElem? (i := 1) rfl))
  have F12 : Exa Z h11 a0 "com/example/shapewright/shapewright/regex/CodePointSet$Builder" := F7.wr W11
  have F13 : Fld Z h11 a0 "com/example/shapewright/shapewright/regex/CodePointSet$Builder" "ranges" "[I" (.ref ar) := F8.other W11 (Or.inl hne)
  have F14 : Fld Z h11 a0 "com/example/shapewright/shapewright/regex/CodePointSet$Builder" "length" "I" (.int (1 : Int32)) := F9.other W11 (Or.inl hne)
  refine ownGo (T' := T11) (f' := (mkF m 99 #[rv a0, iv p1, iv p2] [])) (st11) ?_
  refine ow_aloadN (q := 100) X11 hx (hb hby own_d3_99) rfl rfl rfl ?_
  obtain ⟨T15, X15, e15, st15⟩ := getF X11 hx hZ hown (host := "") (Or.inl (ww 12 rfl)) Via.refl e11 F13 (g := (mkF m 100 #[rv a0, iv p1, iv p2] [(.ref a0)])) rfl rfl (hb hby own_d3_100)
  refine ownGo (T' := T15) (f' := (mkF m 103 #[rv a0, iv p1, iv p2] [(.ref ar)])) (st15) ?_
  refine ow_aloadN (q := 104) X15 hx (hb hby own_d3_103) rfl rfl rfl ?_
  refine ow_dup (q := 105) X15 hx (hb hby own_d3_104) rfl rfl ?_
  obtain ⟨T16, X16, e16, st16⟩ := getF X15 hx hZ hown (host := "") (Or.inl (ww 19 rfl)) Via.refl e15 F14 (g := (mkF m 105 #[rv a0, iv p1, iv p2] [(.ref a0), (.ref a0), (.ref ar)])) rfl rfl (hb hby own_d3_105)
  refine ownGo (T' := T16) (f' := (mkF m 108 #[rv a0, iv p1, iv p2] [(.int (1 : Int32)), (.ref a0), (.ref ar)])) (st16) ?_
  refine ow_dupX1 (q := 109) X16 hx (hb hby own_d3_108) rfl rfl rfl ?_
  refine ow_iconst (q := 110) X16 hx (1 : Int32) (hb hby own_d3_109) rfl rfl ?_
  refine ow_iadd (q := 111) X16 hx (2 : Int32) (hb hby own_d3_110) rfl (by decide) ?_
  obtain ⟨T17, h17, X17, e17, W17, st17⟩ := putF X16 hx hZ hown (host := "") (Or.inl (ww 19 rfl)) Via.refl e16 F14 F12 (Or.inl (ww 20 rfl)) (ww 4 rfl) (ty := .int) (by decide) rfl rfl (g := (mkF m 111 #[rv a0, iv p1, iv p2] [(.int (2 : Int32)), (.ref a0), (.int (1 : Int32)), (.ref ar)])) rfl rfl (hb hby own_d3_111)
  have N17 := Fr.snoc X17 N11 G_a0
  have K17 : Keep h0 h17 [a0, ar] := K11.wr W17 (Or.inl (List.mem_of_getElem? (i := 0) rfl))
  have F18 : Exa Z h17 a0 "com/example/shapewright/shapewright/regex/CodePointSet$Builder" := F12.wr W17
  have F19 : Fld Z h17 a0 "com/example/shapewright/shapewright/regex/CodePointSet$Builder" "ranges" "[I" (.ref ar) := F13.other W17 (Or.inr (slot_ne (Or.inl (ww 13 rfl)) (Or.inl (ww 20 rfl)) (by decide) (t := (.array .int)) (t' := .int) (by decide) (by decide)))
  have F20 : Fld Z h17 a0 "com/example/shapewright/shapewright/regex/CodePointSet$Builder" "length" "I" (.int (2 : Int32)) := F14.same W17
  have F21 : ownAI Z h17 ar .int 16 (ownUpd g 0 p1) := F11r.other W17 (Ne.symm hne)
  refine ownGo (T' := T17) (f' := (mkF m 114 #[rv a0, iv p1, iv p2] [(.int (1 : Int32)), (.ref ar)])) (st17) ?_
  refine ow_iloadN (q := 115) X17 hx (hb hby own_d3_114) rfl rfl ?_
  obtain ⟨T22, h22, X22, e22, W22, F22s, st22⟩ := ownIastore F21 X17 hx hZ e17 (j := (1 : Int32)) (by unfold ownIn; decide) (g := (mkF m 115 #[rv a0, iv p1, iv p2] [(.int p2), (.int (1 : Int32)), (.ref ar)])) rfl rfl (hb hby own_d3_115)
  have F22r : ownAI Z h22 ar .int 16 (ownUpd (ownUpd g 0 p1) 1 p2) := F22s
  have N22 := Fr.snoc X22 N17 G_ar
  have K22 : Keep h0 h22 [a0, ar] := K17.wr W22 (Or.inl (List.mem_of_getElem? (i := 1) rfl))
  have F23 : Exa Z h22 a0 "com/example/shapewright/shapewright/regex/CodePointSet$Builder" := F18.wr W22
  have F24 : Fld Z h22 a0 "com/example/shapewright/shapewright/regex/CodePointSet$Builder" "ranges" "[I" (.ref ar) := F19.other W22 (Or.inl hne)
  have F25 : Fld Z h22 a0 "com/example/shapewright/shapewright/regex/CodePointSet$Builder" "length" "I" (.int (2 : Int32)) := F20.other W22 (Or.inl hne)
  refine ownGo (T' := T22) (f' := (mkF m 116 #[rv a0, iv p1, iv p2] [])) (st22) ?_
  refine ow_aloadN (q := 117) X22 hx (hb hby own_d3_116) rfl rfl rfl ?_
  refine ownRetR X22 hx rfl rfl rfl Bd.returns (hb hby own_d3_117) hlk (by decide) (by decide) ?_
  rw [e22]
  exact ⟨rfl, N22, K22, F23, F24, F25, F22r⟩
theorem own_d3_7 : decode prog_19_method_2_code 7 = .ok (.iload_n 1, 1) := by decide +kernel
theorem own_d3_8 : decode prog_19_method_2_code 8 = .ok (.aload_n 0, 1) := by decide +kernel
theorem own_d3_9 : decode prog_19_method_2_code 9 = .ok (.getfield 7, 3) := by decide +kernel
theorem own_d3_12 : decode prog_19_method_2_code 12 = .ok (.aload_n 0, 1) := by decide +kernel
theorem own_d3_13 : decode prog_19_method_2_code 13 = .ok (.getfield 13, 3) := by decide +kernel
theorem own_d3_16 : decode prog_19_method_2_code 16 = .ok (.iconst 1, 1) := by decide +kernel
theorem own_d3_17 : decode prog_19_method_2_code 17 = .ok (.isub, 1) := by decide +kernel
theorem own_d3_18 : decode prog_19_method_2_code 18 = .ok (.iaload, 1) := by decide +kernel
theorem own_d3_19 : decode prog_19_method_2_code 19 = .ok (.iconst 1, 1) := by decide +kernel
theorem own_d3_20 : decode prog_19_method_2_code 20 = .ok (.iadd, 1) := by decide +kernel
theorem own_d3_21 : decode prog_19_method_2_code 21 = .ok (.if_icmp .gt 32, 3) := by decide +kernel
theorem own_ef3_add_2_a (m : MethodId) (a0 : Addr) (p1 : Int32) (p2 : Int32) : entryFrame m #[(.ref a0), (.int p1), (.int p2)] 3 = mkF m 0 #[rv a0, iv p1, iv p2] [] := by first | (simp [entryFrame, mkF, argsToLocals, Value.category]; done) | rfl
def Q_add_2_a (Z : State) (a0 : Addr) (p1 : Int32) (p2 : Int32) (ar : Addr) (g : Nat → Int32) (h0 : Heap) (n0 : Nat) (v : Option Value) (h : Heap) (L : List Loc) : Prop := v = some (.ref a0) ∧ Fr n0 L ∧ Keep h0 h [a0, ar] ∧ Exa Z h a0 "com/example/shapewright/shapewright/regex/CodePointSet$Builder" ∧ Fld Z h a0 "com/example/shapewright/shapewright/regex/CodePointSet$Builder" "ranges" "[I" (.ref ar) ∧ Fld Z h a0 "com/example/shapewright/shapewright/regex/CodePointSet$Builder" "length" "I" (.int (4 : Int32)) ∧ ownAI Z h ar .int 16 (ownUpd (ownUpd g 2 p1) 3 p2)
set_option maxRecDepth 65536 in
set_option maxHeartbeats 40000000 in
theorem rm_add_2_a (l : Launch) (Z : State) (av0 : Array Value) (hw : ∀ d ∈ tables_1, d.before av0 Z = true) (ws : List Jvm.Cond) (a0 : Addr) (p1 : Int32) (p2 : Int32) (ar : Addr) (g : Nat → Int32) (h0 : Heap) (n0 : Nat) (Z0 : n0 ≤ h0.size) (HF0 : Exa Z h0 a0 "com/example/shapewright/shapewright/regex/CodePointSet$Builder") (HF1 : Fld Z h0 a0 "com/example/shapewright/shapewright/regex/CodePointSet$Builder" "ranges" "[I" (.ref ar)) (HF2 : Fld Z h0 a0 "com/example/shapewright/shapewright/regex/CodePointSet$Builder" "length" "I" (.int (2 : Int32))) (HF3 : ownAI Z h0 ar .int 16 g) (G_a0 : n0 ≤ a0) (G_ar : n0 ≤ ar) (hne : a0 ≠ ar) (hm : ((g 1) + (1 : Int32)) < p1) :
    MetFree l (⟨"com/example/shapewright/shapewright/regex/CodePointSet$Builder", "add", "(II)Lcom/example/shapewright/shapewright/regex/CodePointSet$Builder;"⟩ : MethodName) (head1 (Jvm.Cond.code (⟨"com/example/shapewright/shapewright/regex/CodePointSet$Builder", "add", "(II)Lcom/example/shapewright/shapewright/regex/CodePointSet$Builder;"⟩ : MethodName) prog_19_method_2_code 3 (some (.object "com/example/shapewright/shapewright/regex/CodePointSet$Builder")) :: ws) ({ frames := 0, cells := 0, slots := 0, locals := 0 } : Room)) (fun a U => a = #[(.ref a0), (.int p1), (.int p2)] ∧ Z.Warmed39 U.vm ∧ U.heap = h0) (fun _ _ _ _ _ => True) (fun _ U o U' => ∃ v L, o = .returned v ∧ (Q_add_2_a Z a0 p1 p2 ar g h0 n0) v U'.heap L ∧ FrameEnd U o U' L ({ frames := 0, cells := 0, slots := 0, locals := 0 } : Room).cells ({ frames := 0, cells := 0, slots := 0, locals := 0 } : Room).slots) := by
  refine MetFree.of_bodySF (plainFor_of_name own_pn_CodePointSet_Builder) hisR ?_
  intro p e s m args below meth c s₁ Bd hml0 hP hK
  obtain ⟨rfl, hZ, hh⟩ := hP
  have hx := Bd.exec
  have hby := Bd.bytes
  have hml : c.maxLocals = 3 := hml0
  have hown : s.vm.findClass "com/example/shapewright/shapewright/regex/CodePointSet$Builder" = some m.cls := findClass_of_methodNamed Bd.named
  have hnm := (name_of_methodNamed Bd.named Bd.method).1
  have hlk : meth.locks = false := BodyLoose.notSynchronized Bd
  have X0 : Stand p l e ({ frames := 0, cells := 0, slots := 0, locals := 0 } : Room) s m #[(.ref a0), (.int p1), (.int p2)] below meth c s₁ [] 0 0 := Stand.of_body Bd
  have e0 : s₁.heap = h0 := by rw [← hh, Bd.state]; rfl
  have N0 := Fr.nil n0
  have K0 : Keep h0 h0 [a0, ar] := Keep.refl _ _
  have ww : ∀ (k : Nat) {d : Jvm.Cond}, tables_1[k]? = some d → d.before av0 Z = true := fun k d h => hw d (List.mem_of_getElem? h)
  show ownEnds p e below s (Q_add_2_a Z a0 p1 p2 ar g h0 n0) ({ frames := 0, cells := 0, slots := 0, locals := 0 } : Room).cells ({ frames := 0, cells := 0, slots := 0, locals := 0 } : Room).slots s₁ (entryFrame m #[(.ref a0), (.int p1), (.int p2)] 3)
  refine ownCast (own_ef3_add_2_a m a0 p1 p2) ?_
  refine ow_aloadN (q := 1) X0 hx (hb hby own_d3_0) rfl rfl rfl ?_
  obtain ⟨T1, X1, e1, st1⟩ := getF X0 hx hZ hown (host := "") (Or.inl (ww 19 rfl)) Via.refl e0 HF2 (g := (mkF m 1 #[rv a0, iv p1, iv p2] [(.ref a0)])) rfl rfl (hb hby own_d3_1)
  refine ownGo (T' := T1) (f' := (mkF m 4 #[rv a0, iv p1, iv p2] [(.int (2 : Int32))])) (st1) ?_
  refine ow_ifNo (q := 7) X1 hx (hb hby own_d3_4) rfl (Jvm.Free.XT.i0_le_f (by decide)) ?_
  refine ow_iloadN (q := 8) X1 hx (hb hby own_d3_7) rfl rfl ?_
  refine ow_aloadN (q := 9) X1 hx (hb hby own_d3_8) rfl rfl rfl ?_
  obtain ⟨T2, X2, e2, st2⟩ := getF X1 hx hZ hown (host := "") (Or.inl (ww 12 rfl)) Via.refl e1 HF1 (g := (mkF m 9 #[rv a0, iv p1, iv p2] [(.ref a0), (.int p1)])) rfl rfl (hb hby own_d3_9)
  refine ownGo (T' := T2) (f' := (mkF m 12 #[rv a0, iv p1, iv p2] [(.ref ar), (.int p1)])) (st2) ?_
  refine ow_aloadN (q := 13) X2 hx (hb hby own_d3_12) rfl rfl rfl ?_
  obtain ⟨T3, X3, e3, st3⟩ := getF X2 hx hZ hown (host := "") (Or.inl (ww 19 rfl)) Via.refl e2 HF2 (g := (mkF m 13 #[rv a0, iv p1, iv p2] [(.ref a0), (.ref ar), (.int p1)])) rfl rfl (hb hby own_d3_13)
  refine ownGo (T' := T3) (f' := (mkF m 16 #[rv a0, iv p1, iv p2] [(.int (2 : Int32)), (.ref ar), (.int p1)])) (st3) ?_
  refine ow_iconst (q := 17) X3 hx (1 : Int32) (hb hby own_d3_16) rfl rfl ?_
  refine ow_isub (q := 18) X3 hx (1 : Int32) (hb hby own_d3_17) rfl (by decide) ?_
  refine ownGo (T' := T3) (f' := (mkF m 19 #[rv a0, iv p1, iv p2] [(.int (g 1)), (.int p1)])) (ownIaload HF3 X3 hx hZ e3 (j := (1 : Int32)) (by unfold ownIn; decide) (g := (mkF m 18 #[rv a0, iv p1, iv p2] [(.int (1 : Int32)), (.ref ar), (.int p1)])) rfl rfl (hb hby own_d3_18)) ?_
  generalize hv_v4 : (g 1) = v4
  refine ow_iconst (q := 20) X3 hx (1 : Int32) (hb hby own_d3_19) rfl rfl ?_
  refine ow_iadd (q := 21) X3 hx _ (hb hby own_d3_20) rfl rfl ?_
  refine ow_icmpYes (q := 53) X3 hx (hb hby own_d3_21) (Jvm.Free.XT.ii_gt_t (by first | exact hm | (rw [hv_v4] at hm; exact hm))) (by decide) (by decide) ?_
  refine ow_aloadN (q := 54) X3 hx (hb hby own_d3_53) rfl rfl rfl ?_
  obtain ⟨T5, X5, e5, st5⟩ := getF X3 hx hZ hown (host := "") (Or.inl (ww 19 rfl)) Via.refl e3 HF2 (g := (mkF m 54 #[rv a0, iv p1, iv p2] [(.ref a0)])) rfl rfl (hb hby own_d3_54)
  refine ownGo (T' := T5) (f' := (mkF m 57 #[rv a0, iv p1, iv p2] [(.int (2 : Int32))])) (st5) ?_
  refine ow_aloadN (q := 58) X5 hx (hb hby own_d3_57) rfl rfl rfl ?_
  obtain ⟨T6, X6, e6, st6⟩ := getF X5 hx hZ hown (host := "") (Or.inl (ww 12 rfl)) Via.refl e5 HF1 (g := (mkF m 58 #[rv a0, iv p1, iv p2] [(.ref a0), (.int (2 : Int32))])) rfl rfl (hb hby own_d3_58)
  refine ownGo (T' := T6) (f' := (mkF m 61 #[rv a0, iv p1, iv p2] [(.ref ar), (.int (2 : Int32))])) (st6) ?_
  refine ownGo (T' := T6) (f' := (mkF m 62 #[rv a0, iv p1, iv p2] [(.int (16 : Int32)), (.int (2 : Int32))])) (ownLenI HF3 X6 hx hZ e6 (z := (16 : Int32)) (by decide) (g := (mkF m 61 #[rv a0, iv p1, iv p2] [(.ref ar), (.int (2 : Int32))])) rfl rfl (hb hby own_d3_61)) ?_
  refine ow_icmpYes (q := 82) X6 hx (hb hby own_d3_62) (Jvm.Free.XT.ii_ne_t (by decide)) (by decide) (by decide) ?_
  refine ow_aloadN (q := 83) X6 hx (hb hby own_d3_82) rfl rfl rfl ?_
  obtain ⟨T7, X7, e7, st7⟩ := getF X6 hx hZ hown (host := "") (Or.inl (ww 12 rfl)) Via.refl e6 HF1 (g := (mkF m 83 #[rv a0, iv p1, iv p2] [(.ref a0)])) rfl rfl (hb hby own_d3_83)
  refine ownGo (T' := T7) (f' := (mkF m 86 #[rv a0, iv p1, iv p2] [(.ref ar)])) (st7) ?_
  refine ow_aloadN (q := 87) X7 hx (hb hby own_d3_86) rfl rfl rfl ?_
  refine ow_dup (q := 88) X7 hx (hb hby own_d3_87) rfl rfl ?_
  obtain ⟨T8, X8, e8, st8⟩ := getF X7 hx hZ hown (host := "") (Or.inl (ww 19 rfl)) Via.refl e7 HF2 (g := (mkF m 88 #[rv a0, iv p1, iv p2] [(.ref a0), (.ref a0), (.ref ar)])) rfl rfl (hb hby own_d3_88)
  refine ownGo (T' := T8) (f' := (mkF m 91 #[rv a0, iv p1, iv p2] [(.int (2 : Int32)), (.ref a0), (.ref ar)])) (st8) ?_
  refine ow_dupX1 (q := 92) X8 hx (hb hby own_d3_91) rfl rfl rfl ?_
  refine ow_iconst (q := 93) X8 hx (1 : Int32) (hb hby own_d3_92) rfl rfl ?_
  refine ow_iadd (q := 94) X8 hx (3 : Int32) (hb hby own_d3_93) rfl (by decide) ?_
  obtain ⟨T9, h9, X9, e9, W9, st9⟩ := putF X8 hx hZ hown (host := "") (Or.inl (ww 19 rfl)) Via.refl e8 HF2 HF0 (Or.inl (ww 20 rfl)) (ww 4 rfl) (ty := .int) (by decide) rfl rfl (g := (mkF m 94 #[rv a0, iv p1, iv p2] [(.int (3 : Int32)), (.ref a0), (.int (2 : Int32)), (.ref ar)])) rfl rfl (hb hby own_d3_94)
  have N9 := Fr.snoc X9 N0 G_a0
  have K9 : Keep h0 h9 [a0, ar] := K0.wr W9 (Or.inl (List.mem_of_getElem? (i := 0) rfl))
  have F10 : Exa Z h9 a0 "com/example/shapewright/shapewright/regex/CodePointSet$Builder" := HF0.wr W9
  have F11 : Fld Z h9 a0 "com/example/shapewright/shapewright/regex/CodePointSet$Builder" "ranges" "[I" (.ref ar) := HF1.other W9 (Or.inr (slot_ne (Or.inl (ww 13 rfl)) (Or.inl (ww 20 rfl)) (by decide) (t := (.array .int)) (t' := .int) (by decide) (by decide)))
  have F12 : Fld Z h9 a0 "com/example/shapewright/shapewright/regex/CodePointSet$Builder" "length" "I" (.int (3 : Int32)) := HF2.same W9
  have F13 : ownAI Z h9 ar .int 16 g := HF3.other W9 (Ne.symm hne)
  refine ownGo (T' := T9) (f' := (mkF m 97 #[rv a0, iv p1, iv p2] [(.int (2 : Int32)), (.ref ar)])) (st9) ?_
  refine ow_iloadN (q := 98) X9 hx (hb hby own_d3_97) rfl rfl ?_
  obtain ⟨T14, h14, X14, e14, W14, F14s, st14⟩ := ownIastore F13 X9 hx hZ e9 (j := (2 : Int32)) (by unfold ownIn; decide) (g := (mkF m 98 #[rv a0, iv p1, iv p2] [(.int p1), (.int (2 : Int32)), (.ref ar)])) rfl rfl (hb hby own_d3_98)
  have F14r : ownAI Z h14 ar .int 16 (ownUpd g 2 p1) := F14s
  have N14 := Fr.snoc X14 N9 G_ar
  have K14 : Keep h0 h14 [a0, ar] := K9.wr W14 (Or.inl (List.mem_of_getElem? (i := 1) rfl))
  have F15 : Exa Z h14 a0 "com/example/shapewright/shapewright/regex/CodePointSet$Builder" := F10.wr W14
  have F16 : Fld Z h14 a0 "com/example/shapewright/shapewright/regex/CodePointSet$Builder" "ranges" "[I" (.ref ar) := F11.other W14 (Or.inl hne)
  have F17 : Fld Z h14 a0 "com/example/shapewright/shapewright/regex/CodePointSet$Builder" "length" "I" (.int (3 : Int32)) := F12.other W14 (Or.inl hne)
  refine ownGo (T' := T14) (f' := (mkF m 99 #[rv a0, iv p1, iv p2] [])) (st14) ?_
  refine ow_aloadN (q := 100) X14 hx (hb hby own_d3_99) rfl rfl rfl ?_
  obtain ⟨T18, X18, e18, st18⟩ := getF X14 hx hZ hown (host := "") (Or.inl (ww 12 rfl)) Via.refl e14 F16 (g := (mkF m 100 #[rv a0, iv p1, iv p2] [(.ref a0)])) rfl rfl (hb hby own_d3_100)
  refine ownGo (T' := T18) (f' := (mkF m 103 #[rv a0, iv p1, iv p2] [(.ref ar)])) (st18) ?_
  refine ow_aloadN (q := 104) X18 hx (hb hby own_d3_103) rfl rfl rfl ?_
  refine ow_dup (q := 105) X18 hx (hb hby own_d3_104) rfl rfl ?_
  obtain ⟨T19, X19, e19, st19⟩ := getF X18 hx hZ hown (host := "") (Or.inl (ww 19 rfl)) Via.refl e18 F17 (g := (mkF m 105 #[rv a0, iv p1, iv p2] [(.ref a0), (.ref a0), (.ref ar)])) rfl rfl (hb hby own_d3_105)
  refine ownGo (T' := T19) (f' := (mkF m 108 #[rv a0, iv p1, iv p2] [(.int (3 : Int32)), (.ref a0), (.ref ar)])) (st19) ?_
  refine ow_dupX1 (q := 109) X19 hx (hb hby own_d3_108) rfl rfl rfl ?_
  refine ow_iconst (q := 110) X19 hx (1 : Int32) (hb hby own_d3_109) rfl rfl ?_
  refine ow_iadd (q := 111) X19 hx (4 : Int32) (hb hby own_d3_110) rfl (by decide) ?_
  obtain ⟨T20, h20, X20, e20, W20, st20⟩ := putF X19 hx hZ hown (host := "") (Or.inl (ww 19 rfl)) Via.refl e19 F17 F15 (Or.inl (ww 20 rfl)) (ww 4 rfl) (ty := .int) (by decide) rfl rfl (g := (mkF m 111 #[rv a0, iv p1, iv p2] [(.int (4 : Int32)), (.ref a0), (.int (3 : Int32)), (.ref ar)])) rfl rfl (hb hby own_d3_111)
  have N20 := Fr.snoc X20 N14 G_a0
  have K20 : Keep h0 h20 [a0, ar] := K14.wr W20 (Or.inl (List.mem_of_getElem? (i := 0) rfl))
  have F21 : Exa Z h20 a0 "com/example/shapewright/shapewright/regex/CodePointSet$Builder" := F15.wr W20
  have F22 : Fld Z h20 a0 "com/example/shapewright/shapewright/regex/CodePointSet$Builder" "ranges" "[I" (.ref ar) := F16.other W20 (Or.inr (slot_ne (Or.inl (ww 13 rfl)) (Or.inl (ww 20 rfl)) (by decide) (t := (.array .int)) (t' := .int) (by decide) (by decide)))
  have F23 : Fld Z h20 a0 "com/example/shapewright/shapewright/regex/CodePointSet$Builder" "length" "I" (.int (4 : Int32)) := F17.same W20
  have F24 : ownAI Z h20 ar .int 16 (ownUpd g 2 p1) := F14r.other W20 (Ne.symm hne)
  refine ownGo (T' := T20) (f' := (mkF m 114 #[rv a0, iv p1, iv p2] [(.int (3 : Int32)), (.ref ar)])) (st20) ?_
  refine ow_iloadN (q := 115) X20 hx (hb hby own_d3_114) rfl rfl ?_
  obtain ⟨T25, h25, X25, e25, W25, F25s, st25⟩ := ownIastore F24 X20 hx hZ e20 (j := (3 : Int32)) (by unfold ownIn; decide) (g := (mkF m 115 #[rv a0, iv p1, iv p2] [(.int p2), (.int (3 : Int32)), (.ref ar)])) rfl rfl (hb hby own_d3_115)
  have F25r : ownAI Z h25 ar .int 16 (ownUpd (ownUpd g 2 p1) 3 p2) := F25s
  have N25 := Fr.snoc X25 N20 G_ar
  have K25 : Keep h0 h25 [a0, ar] := K20.wr W25 (Or.inl (List.mem_of_getElem? (i := 1) rfl))
  have F26 : Exa Z h25 a0 "com/example/shapewright/shapewright/regex/CodePointSet$Builder" := F21.wr W25
  have F27 : Fld Z h25 a0 "com/example/shapewright/shapewright/regex/CodePointSet$Builder" "ranges" "[I" (.ref ar) := F22.other W25 (Or.inl hne)
  have F28 : Fld Z h25 a0 "com/example/shapewright/shapewright/regex/CodePointSet$Builder" "length" "I" (.int (4 : Int32)) := F23.other W25 (Or.inl hne)
  refine ownGo (T' := T25) (f' := (mkF m 116 #[rv a0, iv p1, iv p2] [])) (st25) ?_
  refine ow_aloadN (q := 117) X25 hx (hb hby own_d3_116) rfl rfl rfl ?_
  refine ownRetR X25 hx rfl rfl rfl Bd.returns (hb hby own_d3_117) hlk (by decide) (by decide) ?_
  subst hv_v4
  rw [e25]
  exact ⟨rfl, N25, K25, F26, F27, F28, F25r⟩
theorem own_d3_24 : decode prog_19_method_2_code 24 = .ok (.aload_n 0, 1) := by decide +kernel
theorem own_d3_25 : decode prog_19_method_2_code 25 = .ok (.getfield 7, 3) := by decide +kernel
theorem own_d3_28 : decode prog_19_method_2_code 28 = .ok (.aload_n 0, 1) := by decide +kernel
theorem own_d3_29 : decode prog_19_method_2_code 29 = .ok (.getfield 13, 3) := by decide +kernel
theorem own_d3_32 : decode prog_19_method_2_code 32 = .ok (.iconst 1, 1) := by decide +kernel
theorem own_d3_33 : decode prog_19_method_2_code 33 = .ok (.isub, 1) := by decide +kernel
theorem own_d3_34 : decode prog_19_method_2_code 34 = .ok (.aload_n 0, 1) := by decide +kernel
theorem own_d3_35 : decode prog_19_method_2_code 35 = .ok (.getfield 7, 3) := by decide +kernel
theorem own_d3_38 : decode prog_19_method_2_code 38 = .ok (.aload_n 0, 1) := by decide +kernel
theorem own_d3_39 : decode prog_19_method_2_code 39 = .ok (.getfield 13, 3) := by decide +kernel
theorem own_d3_42 : decode prog_19_method_2_code 42 = .ok (.iconst 1, 1) := by decide +kernel
theorem own_d3_43 : decode prog_19_method_2_code 43 = .ok (.isub, 1) := by decide +kernel
theorem own_d3_44 : decode prog_19_method_2_code 44 = .ok (.iaload, 1) := by decide +kernel
theorem own_d3_45 : decode prog_19_method_2_code 45 = .ok (.iload_n 2, 1) := by decide +kernel
theorem own_d3_46 : decode prog_19_method_2_code 46 = .ok (.invokestatic 17, 3) := by decide +kernel
theorem own_d3_49 : decode prog_19_method_2_code 49 = .ok (.iastore, 1) := by decide +kernel
theorem own_d3_50 : decode prog_19_method_2_code 50 = .ok (.goto 66, 3) := by decide +kernel
theorem own_ef3_add_2_m (m : MethodId) (a0 : Addr) (p1 : Int32) (p2 : Int32) : entryFrame m #[(.ref a0), (.int p1), (.int p2)] 3 = mkF m 0 #[rv a0, iv p1, iv p2] [] := by first | (simp [entryFrame, mkF, argsToLocals, Value.category]; done) | rfl
def Q_add_2_m (Z : State) (a0 : Addr) (p1 : Int32) (p2 : Int32) (ar : Addr) (g : Nat → Int32) (h0 : Heap) (n0 : Nat) (v : Option Value) (h : Heap) (L : List Loc) : Prop := v = some (.ref a0) ∧ Fr n0 L ∧ Keep h0 h [a0, ar] ∧ Exa Z h a0 "com/example/shapewright/shapewright/regex/CodePointSet$Builder" ∧ Fld Z h a0 "com/example/shapewright/shapewright/regex/CodePointSet$Builder" "ranges" "[I" (.ref ar) ∧ Fld Z h a0 "com/example/shapewright/shapewright/regex/CodePointSet$Builder" "length" "I" (.int (2 : Int32)) ∧ ownAI Z h ar .int 16 (ownUpd g 1 (own_max (g 1) p2))
set_option maxRecDepth 65536 in
set_option maxHeartbeats 40000000 in
theorem rm_add_2_m (l : Launch) (Z : State) (av0 : Array Value) (hw : ∀ d ∈ tables_1, d.before av0 Z = true) (ws : List Jvm.Cond) (a0 : Addr) (p1 : Int32) (p2 : Int32) (ar : Addr) (g : Nat → Int32) (h0 : Heap) (n0 : Nat) (Z0 : n0 ≤ h0.size) (HF0 : Exa Z h0 a0 "com/example/shapewright/shapewright/regex/CodePointSet$Builder") (HF1 : Fld Z h0 a0 "com/example/shapewright/shapewright/regex/CodePointSet$Builder" "ranges" "[I" (.ref ar)) (HF2 : Fld Z h0 a0 "com/example/shapewright/shapewright/regex/CodePointSet$Builder" "length" "I" (.int (2 : Int32))) (HF3 : ownAI Z h0 ar .int 16 g) (G_a0 : n0 ≤ a0) (G_ar : n0 ≤ ar) (hne : a0 ≠ ar) (hm : ¬ ((g 1) + (1 : Int32)) < p1) :
    MetFree l (⟨"com/example/shapewright/shapewright/regex/CodePointSet$Builder", "add", "(II)Lcom/example/shapewright/shapewright/regex/CodePointSet$Builder;"⟩ : MethodName) (head1 (Jvm.Cond.code (⟨"com/example/shapewright/shapewright/regex/CodePointSet$Builder", "add", "(II)Lcom/example/shapewright/shapewright/regex/CodePointSet$Builder;"⟩ : MethodName) prog_19_method_2_code 3 (some (.object "com/example/shapewright/shapewright/regex/CodePointSet$Builder")) :: ws) ({ frames := 1, cells := 0, slots := 0, locals := 15 } : Room)) (fun a U => a = #[(.ref a0), (.int p1), (.int p2)] ∧ Z.Warmed39 U.vm ∧ U.heap = h0) (fun _ _ _ _ _ => True) (fun _ U o U' => ∃ v L, o = .returned v ∧ (Q_add_2_m Z a0 p1 p2 ar g h0 n0) v U'.heap L ∧ FrameEnd U o U' L ({ frames := 1, cells := 0, slots := 0, locals := 15 } : Room).cells ({ frames := 1, cells := 0, slots := 0, locals := 15 } : Room).slots) := by
  refine MetFree.of_bodySF (plainFor_of_name own_pn_CodePointSet_Builder) hisR ?_
  intro p e s m args below meth c s₁ Bd hml0 hP hK
  obtain ⟨rfl, hZ, hh⟩ := hP
  have hx := Bd.exec
  have hby := Bd.bytes
  have hml : c.maxLocals = 3 := hml0
  have hown : s.vm.findClass "com/example/shapewright/shapewright/regex/CodePointSet$Builder" = some m.cls := findClass_of_methodNamed Bd.named
  have hnm := (name_of_methodNamed Bd.named Bd.method).1
  have hlk : meth.locks = false := BodyLoose.notSynchronized Bd
  have X0 : Stand p l e ({ frames := 1, cells := 0, slots := 0, locals := 15 } : Room) s m #[(.ref a0), (.int p1), (.int p2)] below meth c s₁ [] 0 0 := Stand.of_body Bd
  have e0 : s₁.heap = h0 := by rw [← hh, Bd.state]; rfl
  have N0 := Fr.nil n0
  have K0 : Keep h0 h0 [a0, ar] := Keep.refl _ _
  have ww : ∀ (k : Nat) {d : Jvm.Cond}, tables_1[k]? = some d → d.before av0 Z = true := fun k d h => hw d (List.mem_of_getElem? h)
  show ownEnds p e below s (Q_add_2_m Z a0 p1 p2 ar g h0 n0) ({ frames := 1, cells := 0, slots := 0, locals := 15 } : Room).cells ({ frames := 1, cells := 0, slots := 0, locals := 15 } : Room).slots s₁ (entryFrame m #[(.ref a0), (.int p1), (.int p2)] 3)
  refine ownCast (own_ef3_add_2_m m a0 p1 p2) ?_
  refine ow_aloadN (q := 1) X0 hx (hb hby own_d3_0) rfl rfl rfl ?_
  obtain ⟨T1, X1, e1, st1⟩ := getF X0 hx hZ hown (host := "") (Or.inl (ww 19 rfl)) Via.refl e0 HF2 (g := (mkF m 1 #[rv a0, iv p1, iv p2] [(.ref a0)])) rfl rfl (hb hby own_d3_1)
  refine ownGo (T' := T1) (f' := (mkF m 4 #[rv a0, iv p1, iv p2] [(.int (2 : Int32))])) (st1) ?_
  refine ow_ifNo (q := 7) X1 hx (hb hby own_d3_4) rfl (Jvm.Free.XT.i0_le_f (by decide)) ?_
  refine ow_iloadN (q := 8) X1 hx (hb hby own_d3_7) rfl rfl ?_
  refine ow_aloadN (q := 9) X1 hx (hb hby own_d3_8) rfl rfl rfl ?_
  obtain ⟨T2, X2, e2, st2⟩ := getF X1 hx hZ hown (host := "") (Or.inl (ww 12 rfl)) Via.refl e1 HF1 (g := (mkF m 9 #[rv a0, iv p1, iv p2] [(.ref a0), (.int p1)])) rfl rfl (hb hby own_d3_9)
  refine ownGo (T' := T2) (f' := (mkF m 12 #[rv a0, iv p1, iv p2] [(.ref ar), (.int p1)])) (st2) ?_
  refine ow_aloadN (q := 13) X2 hx (hb hby own_d3_12) rfl rfl rfl ?_
  obtain ⟨T3, X3, e3, st3⟩ := getF X2 hx hZ hown (host := "") (Or.inl (ww 19 rfl)) Via.refl e2 HF2 (g := (mkF m 13 #[rv a0, iv p1, iv p2] [(.ref a0), (.ref ar), (.int p1)])) rfl rfl (hb hby own_d3_13)
  refine ownGo (T' := T3) (f' := (mkF m 16 #[rv a0, iv p1, iv p2] [(.int (2 : Int32)), (.ref ar), (.int p1)])) (st3) ?_
  refine ow_iconst (q := 17) X3 hx (1 : Int32) (hb hby own_d3_16) rfl rfl ?_
  refine ow_isub (q := 18) X3 hx (1 : Int32) (hb hby own_d3_17) rfl (by decide) ?_
  refine ownGo (T' := T3) (f' := (mkF m 19 #[rv a0, iv p1, iv p2] [(.int (g 1)), (.int p1)])) (ownIaload HF3 X3 hx hZ e3 (j := (1 : Int32)) (by unfold ownIn; decide) (g := (mkF m 18 #[rv a0, iv p1, iv p2] [(.int (1 : Int32)), (.ref ar), (.int p1)])) rfl rfl (hb hby own_d3_18)) ?_
  generalize hv_v4 : (g 1) = v4
  refine ow_iconst (q := 20) X3 hx (1 : Int32) (hb hby own_d3_19) rfl rfl ?_
  refine ow_iadd (q := 21) X3 hx _ (hb hby own_d3_20) rfl rfl ?_
  refine ow_icmpNo (q := 24) X3 hx (hb hby own_d3_21) rfl (Jvm.Free.XT.ii_gt_f (by first | exact hm | (rw [hv_v4] at hm; exact hm))) ?_
  refine ow_aloadN (q := 25) X3 hx (hb hby own_d3_24) rfl rfl rfl ?_
  obtain ⟨T5, X5, e5, st5⟩ := getF X3 hx hZ hown (host := "") (Or.inl (ww 12 rfl)) Via.refl e3 HF1 (g := (mkF m 25 #[rv a0, iv p1, iv p2] [(.ref a0)])) rfl rfl (hb hby own_d3_25)
  refine ownGo (T' := T5) (f' := (mkF m 28 #[rv a0, iv p1, iv p2] [(.ref ar)])) (st5) ?_
  refine ow_aloadN (q := 29) X5 hx (hb hby own_d3_28) rfl rfl rfl ?_
  obtain ⟨T6, X6, e6, st6⟩ := getF X5 hx hZ hown (host := "") (Or.inl (ww 19 rfl)) Via.refl e5 HF2 (g := (mkF m 29 #[rv a0, iv p1, iv p2] [(.ref a0), (.ref ar)])) rfl rfl (hb hby own_d3_29)
  refine ownGo (T' := T6) (f' := (mkF m 32 #[rv a0, iv p1, iv p2] [(.int (2 : Int32)), (.ref ar)])) (st6) ?_
  refine ow_iconst (q := 33) X6 hx (1 : Int32) (hb hby own_d3_32) rfl rfl ?_
  refine ow_isub (q := 34) X6 hx (1 : Int32) (hb hby own_d3_33) rfl (by decide) ?_
  refine ow_aloadN (q := 35) X6 hx (hb hby own_d3_34) rfl rfl rfl ?_
  obtain ⟨T7, X7, e7, st7⟩ := getF X6 hx hZ hown (host := "") (Or.inl (ww 12 rfl)) Via.refl e6 HF1 (g := (mkF m 35 #[rv a0, iv p1, iv p2] [(.ref a0), (.int (1 : Int32)), (.ref ar)])) rfl rfl (hb hby own_d3_35)
  refine ownGo (T' := T7) (f' := (mkF m 38 #[rv a0, iv p1, iv p2] [(.ref ar), (.int (1 : Int32)), (.ref ar)])) (st7) ?_
  refine ow_aloadN (q := 39) X7 hx (hb hby own_d3_38) rfl rfl rfl ?_
  obtain ⟨T8, X8, e8, st8⟩ := getF X7 hx hZ hown (host := "") (Or.inl (ww 19 rfl)) Via.refl e7 HF2 (g := (mkF m 39 #[rv a0, iv p1, iv p2] [(.ref a0), (.ref ar), (.int (1 : Int32)), (.ref ar)])) rfl rfl (hb hby own_d3_39)
  refine ownGo (T' := T8) (f' := (mkF m 42 #[rv a0, iv p1, iv p2] [(.int (2 : Int32)), (.ref ar), (.int (1 : Int32)), (.ref ar)])) (st8) ?_
  refine ow_iconst (q := 43) X8 hx (1 : Int32) (hb hby own_d3_42) rfl rfl ?_
  refine ow_isub (q := 44) X8 hx (1 : Int32) (hb hby own_d3_43) rfl (by decide) ?_
  refine ownGo (T' := T8) (f' := (mkF m 45 #[rv a0, iv p1, iv p2] [(.int (g 1)), (.int (1 : Int32)), (.ref ar)])) (ownIaload HF3 X8 hx hZ e8 (j := (1 : Int32)) (by unfold ownIn; decide) (g := (mkF m 44 #[rv a0, iv p1, iv p2] [(.int (1 : Int32)), (.ref ar), (.int (1 : Int32)), (.ref ar)])) rfl rfl (hb hby own_d3_44)) ?_
  generalize hv_v9 : (g 1) = v9
  refine ow_iloadN (q := 46) X8 hx (hb hby own_d3_45) rfl rfl ?_
  obtain ⟨_, _, ⟨T10, L10, k10, n10⟩, -, X10, ⟨Lc10, hQ10, l10, y10, z10⟩, st10⟩ := Jvm.LawKit.callS X8 hx (y := (⟨"java/lang/Math", "max", "(II)I"⟩ : MethodName)) hown (mvT hZ (ww 21 rfl)) (mvT hZ (ww 22 rfl)) (mvT hZ (ww 23 rfl)) (mvT hZ (ww 24 rfl)) (by decide) (backOf (W := 2) (rm_max l Z av0 hw [] v9 p2 h0 n0 (Nat.le_trans Z0 K0.1) ) hZ (ww 24 rfl) (ww 23 rfl) (by decide) (by decide)) (g := (mkF m 46 #[rv a0, iv p1, iv p2] [(.int p2), (.int v9), (.int (1 : Int32)), (.ref ar)])) rfl (by rw [hml]; rfl) (argsL := [(.int v9), (.int p2)]) (rest := [(.int (1 : Int32)), (.ref ar)]) (lenOf own_pd0 rfl) rfl (by show 2 * 0 + _ ≤ _; exact Nat.le_of_eq rfl) (hb hby own_d3_46) (fun _ _ => ⟨rfl, e8, (by decide : 0 + 0 ≤ _), (by decide : 0 + 0 ≤ _)⟩)
  dsimp only [Pt.U, Pt.locs, Pt.cells, Pt.slots] at X10 l10 y10 z10 st10 hQ10
  subst l10 y10 z10
  obtain ⟨rfl, N10q, e10⟩ := hQ10
  have N10 := Fr.app N0 N10q
  refine ownGo (T' := T10) (f' := (mkF m 49 #[rv a0, iv p1, iv p2] [(.int (own_max v9 p2)), (.int (1 : Int32)), (.ref ar)])) (st10) ?_
  generalize hv_v11 : (own_max v9 p2) = v11
  obtain ⟨T12, h12, X12, e12, W12, F12s, st12⟩ := ownIastore HF3 X10 hx hZ e10 (j := (1 : Int32)) (by unfold ownIn; decide) (g := (mkF m 49 #[rv a0, iv p1, iv p2] [(.int v11), (.int (1 : Int32)), (.ref ar)])) rfl rfl (hb hby own_d3_49)
  have F12r : ownAI Z h12 ar .int 16 (ownUpd g 1 v11) := F12s
  have N12 := Fr.snoc X12 N10 G_ar
  have K12 : Keep h0 h12 [a0, ar] := K0.wr W12 (Or.inl (List.mem_of_getElem? (i := 1) rfl))
  have F13 : Exa Z h12 a0 "com/example/shapewright/shapewright/regex/CodePointSet$Builder" := HF0.wr W12
  have F14 : Fld Z h12 a0 "com/example/shapewright/shapewright/regex/CodePointSet$Builder" "ranges" "[I" (.ref ar) := HF1.other W12 (Or.inl hne)
  have F15 : Fld Z h12 a0 "com/example/shapewright/shapewright/regex/CodePointSet$Builder" "length" "I" (.int (2 : Int32)) := HF2.other W12 (Or.inl hne)
  refine ownGo (T' := T12) (f' := (mkF m 50 #[rv a0, iv p1, iv p2] [])) (st12) ?_
  refine ow_goto (q := 116) X12 hx (hb hby own_d3_50) (by decide) (by decide) ?_
  refine ow_aloadN (q := 117) X12 hx (hb hby own_d3_116) rfl rfl rfl ?_
  refine ownRetR X12 hx rfl rfl rfl Bd.returns (hb hby own_d3_117) hlk (by decide) (by decide) ?_
  subst hv_v11 hv_v9 hv_v4
  rw [e12]
  exact ⟨rfl, N12, K12, F13, F14, F15, F12r⟩
theorem own_ef3_add_4_a (m : MethodId) (a0 : Addr) (p1 : Int32) (p2 : Int32) : entryFrame m #[(.ref a0), (.int p1), (.int p2)] 3 = mkF m 0 #[rv a0, iv p1, iv p2] [] := by first | (simp [entryFrame, mkF, argsToLocals, Value.category]; done) | rfl
def Q_add_4_a (Z : State) (a0 : Addr) (p1 : Int32) (p2 : Int32) (ar : Addr) (g : Nat → Int32) (h0 : Heap) (n0 : Nat) (v : Option Value) (h : Heap) (L : List Loc) : Prop := v = some (.ref a0) ∧ Fr n0 L ∧ Keep h0 h [a0, ar] ∧ Exa Z h a0 "com/example/shapewright/shapewright/regex/CodePointSet$Builder" ∧ Fld Z h a0 "com/example/shapewright/shapewright/regex/CodePointSet$Builder" "ranges" "[I" (.ref ar) ∧ Fld Z h a0 "com/example/shapewright/shapewright/regex/CodePointSet$Builder" "length" "I" (.int (6 : Int32)) ∧ ownAI Z h ar .int 16 (ownUpd (ownUpd g 4 p1) 5 p2)
set_option maxRecDepth 65536 in
set_option maxHeartbeats 40000000 in
theorem rm_add_4_a (l : Launch) (Z : State) (av0 : Array Value) (hw : ∀ d ∈ tables_1, d.before av0 Z = true) (ws : List Jvm.Cond) (a0 : Addr) (p1 : Int32) (p2 : Int32) (ar : Addr) (g : Nat → Int32) (h0 : Heap) (n0 : Nat) (Z0 : n0 ≤ h0.size) (HF0 : Exa Z h0 a0 "com/example/shapewright/shapewright/regex/CodePointSet$Builder") (HF1 : Fld Z h0 a0 "com/example/shapewright/shapewright/regex/CodePointSet$Builder" "ranges" "[I" (.ref ar)) (HF2 : Fld Z h0 a0 "com/example/shapewright/shapewright/regex/CodePointSet$Builder" "length" "I" (.int (4 : Int32))) (HF3 : ownAI Z h0 ar .int 16 g) (G_a0 : n0 ≤ a0) (G_ar : n0 ≤ ar) (hne : a0 ≠ ar) (hm : ((g 3) + (1 : Int32)) < p1) :
    MetFree l (⟨"com/example/shapewright/shapewright/regex/CodePointSet$Builder", "add", "(II)Lcom/example/shapewright/shapewright/regex/CodePointSet$Builder;"⟩ : MethodName) (head1 (Jvm.Cond.code (⟨"com/example/shapewright/shapewright/regex/CodePointSet$Builder", "add", "(II)Lcom/example/shapewright/shapewright/regex/CodePointSet$Builder;"⟩ : MethodName) prog_19_method_2_code 3 (some (.object "com/example/shapewright/shapewright/regex/CodePointSet$Builder")) :: ws) ({ frames := 0, cells := 0, slots := 0, locals := 0 } : Room)) (fun a U => a = #[(.ref a0), (.int p1), (.int p2)] ∧ Z.Warmed39 U.vm ∧ U.heap = h0) (fun _ _ _ _ _ => True) (fun _ U o U' => ∃ v L, o = .returned v ∧ (Q_add_4_a Z a0 p1 p2 ar g h0 n0) v U'.heap L ∧ FrameEnd U o U' L ({ frames := 0, cells := 0, slots := 0, locals := 0 } : Room).cells ({ frames := 0, cells := 0, slots := 0, locals := 0 } : Room).slots) := by
  refine MetFree.of_bodySF (plainFor_of_name own_pn_CodePointSet_Builder) hisR ?_
  intro p e s m args below meth c s₁ Bd hml0 hP hK
  obtain ⟨rfl, hZ, hh⟩ := hP
  have hx := Bd.exec
  have hby := Bd.bytes
  have hml : c.maxLocals = 3 := hml0
  have hown : s.vm.findClass "com/example/shapewright/shapewright/regex/CodePointSet$Builder" = some m.cls := findClass_of_methodNamed Bd.named
  have hnm := (name_of_methodNamed Bd.named Bd.method).1
  have hlk : meth.locks = false := BodyLoose.notSynchronized Bd
  have X0 : Stand p l e ({ frames := 0, cells := 0, slots := 0, locals := 0 } : Room) s m #[(.ref a0), (.int p1), (.int p2)] below meth c s₁ [] 0 0 := Stand.of_body Bd
  have e0 : s₁.heap = h0 := by rw [← hh, Bd.state]; rfl
  have N0 := Fr.nil n0
  have K0 : Keep h0 h0 [a0, ar] := Keep.refl _ _
  have ww : ∀ (k : Nat) {d : Jvm.Cond}, tables_1[k]? = some d → d.before av0 Z = true := fun k d h => hw d (List.mem_of_getElem? h)
  show ownEnds p e below s (Q_add_4_a Z a0 p1 p2 ar g h0 n0) ({ frames := 0, cells := 0, slots := 0, locals := 0 } : Room).cells ({ frames := 0, cells := 0, slots := 0, locals := 0 } : Room).slots s₁ (entryFrame m #[(.ref a0), (.int p1), (.int p2)] 3)
  refine ownCast (own_ef3_add_4_a m a0 p1 p2) ?_
  refine ow_aloadN (q := 1) X0 hx (hb hby own_d3_0) rfl rfl rfl ?_
  obtain ⟨T1, X1, e1, st1⟩ := getF X0 hx hZ hown (host := "") (Or.inl (ww 19 rfl)) Via.refl e0 HF2 (g := (mkF m 1 #[rv a0, iv p1, iv p2] [(.ref a0)])) rfl rfl (hb hby own_d3_1)
  refine ownGo (T' := T1) (f' := (mkF m 4 #[rv a0, iv p1, iv p2] [(.int (4 : Int32))])) (st1) ?_
  refine ow_ifNo (q := 7) X1 hx (hb hby own_d3_4) rfl (Jvm.Free.XT.i0_le_f (by decide)) ?_
  refine ow_iloadN (q := 8) X1 hx (hb hby own_d3_7) rfl rfl ?_
  refine ow_aloadN (q := 9) X1 hx (hb hby own_d3_8) rfl rfl rfl ?_
  obtain ⟨T2, X2, e2, st2⟩ := getF X1 hx hZ hown (host := "") (Or.inl (ww 12 rfl)) Via.refl e1 HF1 (g := (mkF m 9 #[rv a0, iv p1, iv p2] [(.ref a0), (.int p1)])) rfl rfl (hb hby own_d3_9)
  refine ownGo (T' := T2) (f' := (mkF m 12 #[rv a0, iv p1, iv p2] [(.ref ar), (.int p1)])) (st2) ?_
  refine ow_aloadN (q := 13) X2 hx (hb hby own_d3_12) rfl rfl rfl ?_
  obtain ⟨T3, X3, e3, st3⟩ := getF X2 hx hZ hown (host := "") (Or.inl (ww 19 rfl)) Via.refl e2 HF2 (g := (mkF m 13 #[rv a0, iv p1, iv p2] [(.ref a0), (.ref ar), (.int p1)])) rfl rfl (hb hby own_d3_13)
  refine ownGo (T' := T3) (f' := (mkF m 16 #[rv a0, iv p1, iv p2] [(.int (4 : Int32)), (.ref ar), (.int p1)])) (st3) ?_
  refine ow_iconst (q := 17) X3 hx (1 : Int32) (hb hby own_d3_16) rfl rfl ?_
  refine ow_isub (q := 18) X3 hx (3 : Int32) (hb hby own_d3_17) rfl (by decide) ?_
  refine ownGo (T' := T3) (f' := (mkF m 19 #[rv a0, iv p1, iv p2] [(.int (g 3)), (.int p1)])) (ownIaload HF3 X3 hx hZ e3 (j := (3 : Int32)) (by unfold ownIn; decide) (g := (mkF m 18 #[rv a0, iv p1, iv p2] [(.int (3 : Int32)), (.ref ar), (.int p1)])) rfl rfl (hb hby own_d3_18)) ?_
  generalize hv_v4 : (g 3) = v4
  refine ow_iconst (q := 20) X3 hx (1 : Int32) (hb hby own_d3_19) rfl rfl ?_
  refine ow_iadd (q := 21) X3 hx _ (hb hby own_d3_20) rfl rfl ?_
  refine ow_icmpYes (q := 53) X3 hx (hb hby own_d3_21) (Jvm.Free.XT.ii_gt_t (by first | exact hm | (rw [hv_v4] at hm; exact hm))) (by decide) (by decide) ?_
  refine ow_aloadN (q := 54) X3 hx (hb hby own_d3_53) rfl rfl rfl ?_
  obtain ⟨T5, X5, e5, st5⟩ := getF X3 hx hZ hown (host := "") (Or.inl (ww 19 rfl)) Via.refl e3 HF2 (g := (mkF m 54 #[rv a0, iv p1, iv p2] [(.ref a0)])) rfl rfl (hb hby own_d3_54)
  refine ownGo (T' := T5) (f' := (mkF m 57 #[rv a0, iv p1, iv p2] [(.int (4 : Int32))])) (st5) ?_
  refine ow_aloadN (q := 58) X5 hx (hb hby own_d3_57) rfl rfl rfl ?_
  obtain ⟨T6, X6, e6, st6⟩ := getF X5 hx hZ hown (host := "") (Or.inl (ww 12 rfl)) Via.refl e5 HF1 (g := (mkF m 58 #[rv a0, iv p1, iv p2] [(.ref a0), (.int (4 : Int32))])) rfl rfl (hb hby own_d3_58)
  refine ownGo (T' := T6) (f' := (mkF m 61 #[rv a0, iv p1, iv p2] [(.ref ar), (.int (4 : Int32))])) (st6) ?_
  refine ownGo (T' := T6) (f' := (mkF m 62 #[rv a0, iv p1, iv p2] [(.int (16 : Int32)), (.int (4 : Int32))])) (ownLenI HF3 X6 hx hZ e6 (z := (16 : Int32)) (by decide) (g := (mkF m 61 #[rv a0, iv p1, iv p2] [(.ref ar), (.int (4 : Int32))])) rfl rfl (hb hby own_d3_61)) ?_
  refine ow_icmpYes (q := 82) X6 hx (hb hby own_d3_62) (Jvm.Free.XT.ii_ne_t (by decide)) (by decide) (by decide) ?_
  refine ow_aloadN (q := 83) X6 hx (hb hby own_d3_82) rfl rfl rfl ?_
  obtain ⟨T7, X7, e7, st7⟩ := getF X6 hx hZ hown (host := "") (Or.inl (ww 12 rfl)) Via.refl e6 HF1 (g := (mkF m 83 #[rv a0, iv p1, iv p2] [(.ref a0)])) rfl rfl (hb hby own_d3_83)
  refine ownGo (T' := T7) (f' := (mkF m 86 #[rv a0, iv p1, iv p2] [(.ref ar)])) (st7) ?_
  refine ow_aloadN (q := 87) X7 hx (hb hby own_d3_86) rfl rfl rfl ?_
  refine ow_dup (q := 88) X7 hx (hb hby own_d3_87) rfl rfl ?_
  obtain ⟨T8, X8, e8, st8⟩ := getF X7 hx hZ hown (host := "") (Or.inl (ww 19 rfl)) Via.refl e7 HF2 (g := (mkF m 88 #[rv a0, iv p1, iv p2] [(.ref a0), (.ref a0), (.ref ar)])) rfl rfl (hb hby own_d3_88)
  refine ownGo (T' := T8) (f' := (mkF m 91 #[rv a0, iv p1, iv p2] [(.int (4 : Int32)), (.ref a0), (.ref ar)])) (st8) ?_
  refine ow_dupX1 (q := 92) X8 hx (hb hby own_d3_91) rfl rfl rfl ?_
  refine ow_iconst (q := 93) X8 hx (1 : Int32) (hb hby own_d3_92) rfl rfl ?_
  refine ow_iadd (q := 94) X8 hx (5 : Int32) (hb hby own_d3_93) rfl (by decide) ?_
  obtain ⟨T9, h9, X9, e9, W9, st9⟩ := putF X8 hx hZ hown (host := "") (Or.inl (ww 19 rfl)) Via.refl e8 HF2 HF0 (Or.inl (ww 20 rfl)) (ww 4 rfl) (ty := .int) (by decide) rfl rfl (g := (mkF m 94 #[rv a0, iv p1, iv p2] [(.int (5 : Int32)), (.ref a0), (.int (4 : Int32)), (.ref ar)])) rfl rfl (hb hby own_d3_94)
  have N9 := Fr.snoc X9 N0 G_a0
  have K9 : Keep h0 h9 [a0, ar] := K0.wr W9 (Or.inl (List.mem_of_getElem? (i := 0) rfl))
  have F10 : Exa Z h9 a0 "com/example/shapewright/shapewright/regex/CodePointSet$Builder" := HF0.wr W9
  have F11 : Fld Z h9 a0 "com/example/shapewright/shapewright/regex/CodePointSet$Builder" "ranges" "[I" (.ref ar) := HF1.other W9 (Or.inr (slot_ne (Or.inl (ww 13 rfl)) (Or.inl (ww 20 rfl)) (by decide) (t := (.array .int)) (t' := .int) (by decide) (by decide)))
  have F12 : Fld Z h9 a0 "com/example/shapewright/shapewright/regex/CodePointSet$Builder" "length" "I" (.int (5 : Int32)) := HF2.same W9
  have F13 : ownAI Z h9 ar .int 16 g := HF3.other W9 (Ne.symm hne)
  refine ownGo (T' := T9) (f' := (mkF m 97 #[rv a0, iv p1, iv p2] [(.int (4 : Int32)), (.ref ar)])) (st9) ?_
  refine ow_iloadN (q := 98) X9 hx (hb hby own_d3_97) rfl rfl ?_
  obtain ⟨T14, h14, X14, e14, W14, F14s, st14⟩ := ownIastore F13 X9 hx hZ e9 (j := (4 : Int32)) (by unfold ownIn; decide) (g := (mkF m 98 #[rv a0, iv p1, iv p2] [(.int p1), (.int (4 : Int32)), (.ref ar)])) rfl rfl (hb hby own_d3_98)
  have F14r : ownAI Z h14 ar .int 16 (ownUpd g 4 p1) := F14s
  have N14 := Fr.snoc X14 N9 G_ar
  have K14 : Keep h0 h14 [a0, ar] := K9.wr W14 (Or.inl (List.mem_of_getElem? (i := 1) rfl))
  have F15 : Exa Z h14 a0 "com/example/shapewright/shapewright/regex/CodePointSet$Builder" := F10.wr W14
  have F16 : Fld Z h14 a0 "com/example/shapewright/shapewright/regex/CodePointSet$Builder" "ranges" "[I" (.ref ar) := F11.other W14 (Or.inl hne)
  have F17 : Fld Z h14 a0 "com/example/shapewright/shapewright/regex/CodePointSet$Builder" "length" "I" (.int (5 : Int32)) := F12.other W14 (Or.inl hne)
  refine ownGo (T' := T14) (f' := (mkF m 99 #[rv a0, iv p1, iv p2] [])) (st14) ?_
  refine ow_aloadN (q := 100) X14 hx (hb hby own_d3_99) rfl rfl rfl ?_
  obtain ⟨T18, X18, e18, st18⟩ := getF X14 hx hZ hown (host := "") (Or.inl (ww 12 rfl)) Via.refl e14 F16 (g := (mkF m 100 #[rv a0, iv p1, iv p2] [(.ref a0)])) rfl rfl (hb hby own_d3_100)
  refine ownGo (T' := T18) (f' := (mkF m 103 #[rv a0, iv p1, iv p2] [(.ref ar)])) (st18) ?_
  refine ow_aloadN (q := 104) X18 hx (hb hby own_d3_103) rfl rfl rfl ?_
  refine ow_dup (q := 105) X18 hx (hb hby own_d3_104) rfl rfl ?_
  obtain ⟨T19, X19, e19, st19⟩ := getF X18 hx hZ hown (host := "") (Or.inl (ww 19 rfl)) Via.refl e18 F17 (g := (mkF m 105 #[rv a0, iv p1, iv p2] [(.ref a0), (.ref a0), (.ref ar)])) rfl rfl (hb hby own_d3_105)
  refine ownGo (T' := T19) (f' := (mkF m 108 #[rv a0, iv p1, iv p2] [(.int (5 : Int32)), (.ref a0), (.ref ar)])) (st19) ?_
  refine ow_dupX1 (q := 109) X19 hx (hb hby own_d3_108) rfl rfl rfl ?_
  refine ow_iconst (q := 110) X19 hx (1 : Int32) (hb hby own_d3_109) rfl rfl ?_
  refine ow_iadd (q := 111) X19 hx (6 : Int32) (hb hby own_d3_110) rfl (by decide) ?_
  obtain ⟨T20, h20, X20, e20, W20, st20⟩ := putF X19 hx hZ hown (host := "") (Or.inl (ww 19 rfl)) Via.refl e19 F17 F15 (Or.inl (ww 20 rfl)) (ww 4 rfl) (ty := .int) (by decide) rfl rfl (g := (mkF m 111 #[rv a0, iv p1, iv p2] [(.int (6 : Int32)), (.ref a0), (.int (5 : Int32)), (.ref ar)])) rfl rfl (hb hby own_d3_111)
  have N20 := Fr.snoc X20 N14 G_a0
  have K20 : Keep h0 h20 [a0, ar] := K14.wr W20 (Or.inl (List.mem_of_getElem? (i := 0) rfl))
  have F21 : Exa Z h20 a0 "com/example/shapewright/shapewright/regex/CodePointSet$Builder" := F15.wr W20
  have F22 : Fld Z h20 a0 "com/example/shapewright/shapewright/regex/CodePointSet$Builder" "ranges" "[I" (.ref ar) := F16.other W20 (Or.inr (slot_ne (Or.inl (ww 13 rfl)) (Or.inl (ww 20 rfl)) (by decide) (t := (.array .int)) (t' := .int) (by decide) (by decide)))
  have F23 : Fld Z h20 a0 "com/example/shapewright/shapewright/regex/CodePointSet$Builder" "length" "I" (.int (6 : Int32)) := F17.same W20
  have F24 : ownAI Z h20 ar .int 16 (ownUpd g 4 p1) := F14r.other W20 (Ne.symm hne)
  refine ownGo (T' := T20) (f' := (mkF m 114 #[rv a0, iv p1, iv p2] [(.int (5 : Int32)), (.ref ar)])) (st20) ?_
  refine ow_iloadN (q := 115) X20 hx (hb hby own_d3_114) rfl rfl ?_
  obtain ⟨T25, h25, X25, e25, W25, F25s, st25⟩ := ownIastore F24 X20 hx hZ e20 (j := (5 : Int32)) (by unfold ownIn; decide) (g := (mkF m 115 #[rv a0, iv p1, iv p2] [(.int p2), (.int (5 : Int32)), (.ref ar)])) rfl rfl (hb hby own_d3_115)
  have F25r : ownAI Z h25 ar .int 16 (ownUpd (ownUpd g 4 p1) 5 p2) := F25s
  have N25 := Fr.snoc X25 N20 G_ar
  have K25 : Keep h0 h25 [a0, ar] := K20.wr W25 (Or.inl (List.mem_of_getElem? (i := 1) rfl))
  have F26 : Exa Z h25 a0 "com/example/shapewright/shapewright/regex/CodePointSet$Builder" := F21.wr W25
  have F27 : Fld Z h25 a0 "com/example/shapewright/shapewright/regex/CodePointSet$Builder" "ranges" "[I" (.ref ar) := F22.other W25 (Or.inl hne)
  have F28 : Fld Z h25 a0 "com/example/shapewright/shapewright/regex/CodePointSet$Builder" "length" "I" (.int (6 : Int32)) := F23.other W25 (Or.inl hne)
  refine ownGo (T' := T25) (f' := (mkF m 116 #[rv a0, iv p1, iv p2] [])) (st25) ?_
  refine ow_aloadN (q := 117) X25 hx (hb hby own_d3_116) rfl rfl rfl ?_
  refine ownRetR X25 hx rfl rfl rfl Bd.returns (hb hby own_d3_117) hlk (by decide) (by decide) ?_
  subst hv_v4
  rw [e25]
  exact ⟨rfl, N25, K25, F26, F27, F28, F25r⟩
theorem own_ef3_add_4_m (m : MethodId) (a0 : Addr) (p1 : Int32) (p2 : Int32) : entryFrame m #[(.ref a0), (.int p1), (.int p2)] 3 = mkF m 0 #[rv a0, iv p1, iv p2] [] := by first | (simp [entryFrame, mkF, argsToLocals, Value.category]; done) | rfl
def Q_add_4_m (Z : State) (a0 : Addr) (p1 : Int32) (p2 : Int32) (ar : Addr) (g : Nat → Int32) (h0 : Heap) (n0 : Nat) (v : Option Value) (h : Heap) (L : List Loc) : Prop := v = some (.ref a0) ∧ Fr n0 L ∧ Keep h0 h [a0, ar] ∧ Exa Z h a0 "com/example/shapewright/shapewright/regex/CodePointSet$Builder" ∧ Fld Z h a0 "com/example/shapewright/shapewright/regex/CodePointSet$Builder" "ranges" "[I" (.ref ar) ∧ Fld Z h a0 "com/example/shapewright/shapewright/regex/CodePointSet$Builder" "length" "I" (.int (4 : Int32)) ∧ ownAI Z h ar .int 16 (ownUpd g 3 (own_max (g 3) p2))
set_option maxRecDepth 65536 in
set_option maxHeartbeats 40000000 in
theorem rm_add_4_m (l : Launch) (Z : State) (av0 : Array Value) (hw : ∀ d ∈ tables_1, d.before av0 Z = true) (ws : List Jvm.Cond) (a0 : Addr) (p1 : Int32) (p2 : Int32) (ar : Addr) (g : Nat → Int32) (h0 : Heap) (n0 : Nat) (Z0 : n0 ≤ h0.size) (HF0 : Exa Z h0 a0 "com/example/shapewright/shapewright/regex/CodePointSet$Builder") (HF1 : Fld Z h0 a0 "com/example/shapewright/shapewright/regex/CodePointSet$Builder" "ranges" "[I" (.ref ar)) (HF2 : Fld Z h0 a0 "com/example/shapewright/shapewright/regex/CodePointSet$Builder" "length" "I" (.int (4 : Int32))) (HF3 : ownAI Z h0 ar .int 16 g) (G_a0 : n0 ≤ a0) (G_ar : n0 ≤ ar) (hne : a0 ≠ ar) (hm : ¬ ((g 3) + (1 : Int32)) < p1) :
    MetFree l (⟨"com/example/shapewright/shapewright/regex/CodePointSet$Builder", "add", "(II)Lcom/example/shapewright/shapewright/regex/CodePointSet$Builder;"⟩ : MethodName) (head1 (Jvm.Cond.code (⟨"com/example/shapewright/shapewright/regex/CodePointSet$Builder", "add", "(II)Lcom/example/shapewright/shapewright/regex/CodePointSet$Builder;"⟩ : MethodName) prog_19_method_2_code 3 (some (.object "com/example/shapewright/shapewright/regex/CodePointSet$Builder")) :: ws) ({ frames := 1, cells := 0, slots := 0, locals := 15 } : Room)) (fun a U => a = #[(.ref a0), (.int p1), (.int p2)] ∧ Z.Warmed39 U.vm ∧ U.heap = h0) (fun _ _ _ _ _ => True) (fun _ U o U' => ∃ v L, o = .returned v ∧ (Q_add_4_m Z a0 p1 p2 ar g h0 n0) v U'.heap L ∧ FrameEnd U o U' L ({ frames := 1, cells := 0, slots := 0, locals := 15 } : Room).cells ({ frames := 1, cells := 0, slots := 0, locals := 15 } : Room).slots) := by
  refine MetFree.of_bodySF (plainFor_of_name own_pn_CodePointSet_Builder) hisR ?_
  intro p e s m args below meth c s₁ Bd hml0 hP hK
  obtain ⟨rfl, hZ, hh⟩ := hP
  have hx := Bd.exec
  have hby := Bd.bytes
  have hml : c.maxLocals = 3 := hml0
  have hown : s.vm.findClass "com/example/shapewright/shapewright/regex/CodePointSet$Builder" = some m.cls := findClass_of_methodNamed Bd.named
  have hnm := (name_of_methodNamed Bd.named Bd.method).1
  have hlk : meth.locks = false := BodyLoose.notSynchronized Bd
  have X0 : Stand p l e ({ frames := 1, cells := 0, slots := 0, locals := 15 } : Room) s m #[(.ref a0), (.int p1), (.int p2)] below meth c s₁ [] 0 0 := Stand.of_body Bd
  have e0 : s₁.heap = h0 := by rw [← hh, Bd.state]; rfl
  have N0 := Fr.nil n0
  have K0 : Keep h0 h0 [a0, ar] := Keep.refl _ _
  have ww : ∀ (k : Nat) {d : Jvm.Cond}, tables_1[k]? = some d → d.before av0 Z = true := fun k d h => hw d (List.mem_of_getElem? h)
  show ownEnds p e below s (Q_add_4_m Z a0 p1 p2 ar g h0 n0) ({ frames := 1, cells := 0, slots := 0, locals := 15 } : Room).cells ({ frames := 1, cells := 0, slots := 0, locals := 15 } : Room).slots s₁ (entryFrame m #[(.ref a0), (.int p1), (.int p2)] 3)
  refine ownCast (own_ef3_add_4_m m a0 p1 p2) ?_
  refine ow_aloadN (q := 1) X0 hx (hb hby own_d3_0) rfl rfl rfl ?_
  obtain ⟨T1, X1, e1, st1⟩ := getF X0 hx hZ hown (host := "") (Or.inl (ww 19 rfl)) Via.refl e0 HF2 (g := (mkF m 1 #[rv a0, iv p1, iv p2] [(.ref a0)])) rfl rfl (hb hby own_d3_1)
  refine ownGo (T' := T1) (f' := (mkF m 4 #[rv a0, iv p1, iv p2] [(.int (4 : Int32))])) (st1) ?_
  refine ow_ifNo (q := 7) X1 hx (hb hby own_d3_4) rfl (Jvm.Free.XT.i0_le_f (by decide)) ?_
  refine ow_iloadN (q := 8) X1 hx (hb hby own_d3_7) rfl rfl ?_
  refine ow_aloadN (q := 9) X1 hx (hb hby own_d3_8) rfl rfl rfl ?_
  obtain ⟨T2, X2, e2, st2⟩ := getF X1 hx hZ hown (host := "") (Or.inl (ww 12 rfl)) Via.refl e1 HF1 (g := (mkF m 9 #[rv a0, iv p1, iv p2] [(.ref a0), (.int p1)])) rfl rfl (hb hby own_d3_9)
  refine ownGo (T' := T2) (f' := (mkF m 12 #[rv a0, iv p1, iv p2] [(.ref ar), (.int p1)])) (st2) ?_
  refine ow_aloadN (q := 13) X2 hx (hb hby own_d3_12) rfl rfl rfl ?_
  obtain ⟨T3, X3, e3, st3⟩ := getF X2 hx hZ hown (host := "") (Or.inl (ww 19 rfl)) Via.refl e2 HF2 (g := (mkF m 13 #[rv a0, iv p1, iv p2] [(.ref a0), (.ref ar), (.int p1)])) rfl rfl (hb hby own_d3_13)
  refine ownGo (T' := T3) (f' := (mkF m 16 #[rv a0, iv p1, iv p2] [(.int (4 : Int32)), (.ref ar), (.int p1)])) (st3) ?_
  refine ow_iconst (q := 17) X3 hx (1 : Int32) (hb hby own_d3_16) rfl rfl ?_
  refine ow_isub (q := 18) X3 hx (3 : Int32) (hb hby own_d3_17) rfl (by decide) ?_
  refine ownGo (T' := T3) (f' := (mkF m 19 #[rv a0, iv p1, iv p2] [(.int (g 3)), (.int p1)])) (ownIaload HF3 X3 hx hZ e3 (j := (3 : Int32)) (by unfold ownIn; decide) (g := (mkF m 18 #[rv a0, iv p1, iv p2] [(.int (3 : Int32)), (.ref ar), (.int p1)])) rfl rfl (hb hby own_d3_18)) ?_
  generalize hv_v4 : (g 3) = v4
  refine ow_iconst (q := 20) X3 hx (1 : Int32) (hb hby own_d3_19) rfl rfl ?_
  refine ow_iadd (q := 21) X3 hx _ (hb hby own_d3_20) rfl rfl ?_
  refine ow_icmpNo (q := 24) X3 hx (hb hby own_d3_21) rfl (Jvm.Free.XT.ii_gt_f (by first | exact hm | (rw [hv_v4] at hm; exact hm))) ?_
  refine ow_aloadN (q := 25) X3 hx (hb hby own_d3_24) rfl rfl rfl ?_
  obtain ⟨T5, X5, e5, st5⟩ := getF X3 hx hZ hown (host := "") (Or.inl (ww 12 rfl)) Via.refl e3 HF1 (g := (mkF m 25 #[rv a0, iv p1, iv p2] [(.ref a0)])) rfl rfl (hb hby own_d3_25)
  refine ownGo (T' := T5) (f' := (mkF m 28 #[rv a0, iv p1, iv p2] [(.ref ar)])) (st5) ?_
  refine ow_aloadN (q := 29) X5 hx (hb hby own_d3_28) rfl rfl rfl ?_
  obtain ⟨T6, X6, e6, st6⟩ := getF X5 hx hZ hown (host := "") (Or.inl (ww 19 rfl)) Via.refl e5 HF2 (g := (mkF m 29 #[rv a0, iv p1, iv p2] [(.ref a0), (.ref ar)])) rfl rfl (hb hby own_d3_29)
  refine ownGo (T' := T6) (f' := (mkF m 32 #[rv a0, iv p1, iv p2] [(.int (4 : Int32)), (.ref ar)])) (st6) ?_
  refine ow_iconst (q := 33) X6 hx (1 : Int32) (hb hby own_d3_32) rfl rfl ?_
  refine ow_isub (q := 34) X6 hx (3 : Int32) (hb hby own_d3_33) rfl (by decide) ?_
  refine ow_aloadN (q := 35) X6 hx (hb hby own_d3_34) rfl rfl rfl ?_
  obtain ⟨T7, X7, e7, st7⟩ := getF X6 hx hZ hown (host := "") (Or.inl (ww 12 rfl)) Via.refl e6 HF1 (g := (mkF m 35 #[rv a0, iv p1, iv p2] [(.ref a0), (.int (3 : Int32)), (.ref ar)])) rfl rfl (hb hby own_d3_35)
  refine ownGo (T' := T7) (f' := (mkF m 38 #[rv a0, iv p1, iv p2] [(.ref ar), (.int (3 : Int32)), (.ref ar)])) (st7) ?_
  refine ow_aloadN (q := 39) X7 hx (hb hby own_d3_38) rfl rfl rfl ?_
  obtain ⟨T8, X8, e8, st8⟩ := getF X7 hx hZ hown (host := "") (Or.inl (ww 19 rfl)) Via.refl e7 HF2 (g := (mkF m 39 #[rv a0, iv p1, iv p2] [(.ref a0), (.ref ar), (.int (3 : Int32)), (.ref ar)])) rfl rfl (hb hby own_d3_39)
  refine ownGo (T' := T8) (f' := (mkF m 42 #[rv a0, iv p1, iv p2] [(.int (4 : Int32)), (.ref ar), (.int (3 : Int32)), (.ref ar)])) (st8) ?_
  refine ow_iconst (q := 43) X8 hx (1 : Int32) (hb hby own_d3_42) rfl rfl ?_
  refine ow_isub (q := 44) X8 hx (3 : Int32) (hb hby own_d3_43) rfl (by decide) ?_
  refine ownGo (T' := T8) (f' := (mkF m 45 #[rv a0, iv p1, iv p2] [(.int (g 3)), (.int (3 : Int32)), (.ref ar)])) (ownIaload HF3 X8 hx hZ e8 (j := (3 : Int32)) (by unfold ownIn; decide) (g := (mkF m 44 #[rv a0, iv p1, iv p2] [(.int (3 : Int32)), (.ref ar), (.int (3 : Int32)), (.ref ar)])) rfl rfl (hb hby own_d3_44)) ?_
  generalize hv_v9 : (g 3) = v9
  refine ow_iloadN (q := 46) X8 hx (hb hby own_d3_45) rfl rfl ?_
  obtain ⟨_, _, ⟨T10, L10, k10, n10⟩, -, X10, ⟨Lc10, hQ10, l10, y10, z10⟩, st10⟩ := Jvm.LawKit.callS X8 hx (y := (⟨"java/lang/Math", "max", "(II)I"⟩ : MethodName)) hown (mvT hZ (ww 21 rfl)) (mvT hZ (ww 22 rfl)) (mvT hZ (ww 23 rfl)) (mvT hZ (ww 24 rfl)) (by decide) (backOf (W := 2) (rm_max l Z av0 hw [] v9 p2 h0 n0 (Nat.le_trans Z0 K0.1) ) hZ (ww 24 rfl) (ww 23 rfl) (by decide) (by decide)) (g := (mkF m 46 #[rv a0, iv p1, iv p2] [(.int p2), (.int v9), (.int (3 : Int32)), (.ref ar)])) rfl (by rw [hml]; rfl) (argsL := [(.int v9), (.int p2)]) (rest := [(.int (3 : Int32)), (.ref ar)]) (lenOf own_pd0 rfl) rfl (by show 2 * 0 + _ ≤ _; exact Nat.le_of_eq rfl) (hb hby own_d3_46) (fun _ _ => ⟨rfl, e8, (by decide : 0 + 0 ≤ _), (by decide : 0 + 0 ≤ _)⟩)
  dsimp only [Pt.U, Pt.locs, Pt.cells, Pt.slots] at X10 l10 y10 z10 st10 hQ10
  subst l10 y10 z10
  obtain ⟨rfl, N10q, e10⟩ := hQ10
  have N10 := Fr.app N0 N10q
  refine ownGo (T' := T10) (f' := (mkF m 49 #[rv a0, iv p1, iv p2] [(.int (own_max v9 p2)), (.int (3 : Int32)), (.ref ar)])) (st10) ?_
  generalize hv_v11 : (own_max v9 p2) = v11
  obtain ⟨T12, h12, X12, e12, W12, F12s, st12⟩ := ownIastore HF3 X10 hx hZ e10 (j := (3 : Int32)) (by unfold ownIn; decide) (g := (mkF m 49 #[rv a0, iv p1, iv p2] [(.int v11), (.int (3 : Int32)), (.ref ar)])) rfl rfl (hb hby own_d3_49)
  have F12r : ownAI Z h12 ar .int 16 (ownUpd g 3 v11) := F12s
  have N12 := Fr.snoc X12 N10 G_ar
  have K12 : Keep h0 h12 [a0, ar] := K0.wr W12 (Or.inl (List.mem_of_getElem? (i := 1) rfl))
  have F13 : Exa Z h12 a0 "com/example/shapewright/shapewright/regex/CodePointSet$Builder" := HF0.wr W12
  have F14 : Fld Z h12 a0 "com/example/shapewright/shapewright/regex/CodePointSet$Builder" "ranges" "[I" (.ref ar) := HF1.other W12 (Or.inl hne)
  have F15 : Fld Z h12 a0 "com/example/shapewright/shapewright/regex/CodePointSet$Builder" "length" "I" (.int (4 : Int32)) := HF2.other W12 (Or.inl hne)
  refine ownGo (T' := T12) (f' := (mkF m 50 #[rv a0, iv p1, iv p2] [])) (st12) ?_
  refine ow_goto (q := 116) X12 hx (hb hby own_d3_50) (by decide) (by decide) ?_
  refine ow_aloadN (q := 117) X12 hx (hb hby own_d3_116) rfl rfl rfl ?_
  refine ownRetR X12 hx rfl rfl rfl Bd.returns (hb hby own_d3_117) hlk (by decide) (by decide) ?_
  subst hv_v11 hv_v9 hv_v4
  rw [e12]
  exact ⟨rfl, N12, K12, F13, F14, F15, F12r⟩
theorem own_pn_CodePointSet : plainName "com/example/shapewright/shapewright/regex/CodePointSet" = true := by first | (simp [plainName, overriddenIn]; done) | decide +kernel
theorem own_d8_0 : decode prog_18_method_1_code 0 = .ok (.aload_n 0, 1) := by decide +kernel
theorem own_d8_1 : decode prog_18_method_1_code 1 = .ok (.invokespecial 3, 3) := by decide +kernel
theorem own_d8_4 : decode prog_18_method_1_code 4 = .ok (.aload_n 0, 1) := by decide +kernel
theorem own_d8_5 : decode prog_18_method_1_code 5 = .ok (.aload_n 1, 1) := by decide +kernel
theorem own_d8_6 : decode prog_18_method_1_code 6 = .ok (.putfield 9, 3) := by decide +kernel
theorem own_d8_9 : decode prog_18_method_1_code 9 = .ok (.return_, 1) := by decide +kernel
theorem own_ef8_cinit (m : MethodId) (a0 : Addr) (a1 : Addr) : entryFrame m #[(.ref a0), (.ref a1)] 2 = mkF m 0 #[rv a0, rv a1] [] := by first | (simp [entryFrame, mkF, argsToLocals, Value.category]; done) | rfl
def Q_cinit (Z : State) (a0 : Addr) (a1 : Addr) (h0 : Heap) (n0 : Nat) (v : Option Value) (h : Heap) (L : List Loc) : Prop := v = none ∧ Fr n0 L ∧ Keep h0 h [a0] ∧ Exa Z h a0 "com/example/shapewright/shapewright/regex/CodePointSet" ∧ Fld Z h a0 "com/example/shapewright/shapewright/regex/CodePointSet" "ranges" "[I" (.ref a1)
set_option maxRecDepth 65536 in
set_option maxHeartbeats 40000000 in
theorem rm_cinit (l : Launch) (Z : State) (av0 : Array Value) (hw : ∀ d ∈ tables_1, d.before av0 Z = true) (ws : List Jvm.Cond) (a0 : Addr) (a1 : Addr) (h0 : Heap) (n0 : Nat) (Z0 : n0 ≤ h0.size) (HF0 : Exa Z h0 a0 "com/example/shapewright/shapewright/regex/CodePointSet") (HF1 : Fld Z h0 a0 "com/example/shapewright/shapewright/regex/CodePointSet" "ranges" "[I" .null) (G_a0 : n0 ≤ a0) :
    MetFree l (⟨"com/example/shapewright/shapewright/regex/CodePointSet", "<init>", "([I)V"⟩ : MethodName) (head1 (Jvm.Cond.code (⟨"com/example/shapewright/shapewright/regex/CodePointSet", "<init>", "([I)V"⟩ : MethodName) prog_18_method_1_code 2 none :: ws) ({ frames := 1, cells := 0, slots := 0, locals := 12 } : Room)) (fun a U => a = #[(.ref a0), (.ref a1)] ∧ Z.Warmed39 U.vm ∧ U.heap = h0) (fun _ _ _ _ _ => True) (fun _ U o U' => ∃ v L, o = .returned v ∧ (Q_cinit Z a0 a1 h0 n0) v U'.heap L ∧ FrameEnd U o U' L ({ frames := 1, cells := 0, slots := 0, locals := 12 } : Room).cells ({ frames := 1, cells := 0, slots := 0, locals := 12 } : Room).slots) := by
  refine MetFree.of_bodySF (plainFor_of_name own_pn_CodePointSet) hisR ?_
  intro p e s m args below meth c s₁ Bd hml0 hP hK
  obtain ⟨rfl, hZ, hh⟩ := hP
  have hx := Bd.exec
  have hby := Bd.bytes
  have hml : c.maxLocals = 2 := hml0
  have hown : s.vm.findClass "com/example/shapewright/shapewright/regex/CodePointSet" = some m.cls := findClass_of_methodNamed Bd.named
  have hnm := (name_of_methodNamed Bd.named Bd.method).1
  have hlk : meth.locks = false := BodyLoose.notSynchronized Bd
  have X0 : Stand p l e ({ frames := 1, cells := 0, slots := 0, locals := 12 } : Room) s m #[(.ref a0), (.ref a1)] below meth c s₁ [] 0 0 := Stand.of_body Bd
  have e0 : s₁.heap = h0 := by rw [← hh, Bd.state]; rfl
  have N0 := Fr.nil n0
  have K0 : Keep h0 h0 [a0] := Keep.refl _ _
  have ww : ∀ (k : Nat) {d : Jvm.Cond}, tables_1[k]? = some d → d.before av0 Z = true := fun k d h => hw d (List.mem_of_getElem? h)
  show ownEnds p e below s (Q_cinit Z a0 a1 h0 n0) ({ frames := 1, cells := 0, slots := 0, locals := 12 } : Room).cells ({ frames := 1, cells := 0, slots := 0, locals := 12 } : Room).slots s₁ (entryFrame m #[(.ref a0), (.ref a1)] 2)
  refine ownCast (own_ef8_cinit m a0 a1) ?_
  refine ow_aloadN (q := 1) X0 hx (hb hby own_d8_0) rfl rfl rfl ?_
  obtain ⟨T1, X1, e1, st1⟩ := initO X0 hx hZ hown (ww 47 rfl) (ww 10 rfl) (ww 11 rfl) e0 (g := (mkF m 1 #[rv a0, rv a1] [(.ref a0)])) rfl (by rw [hml]; rfl) rfl (hb hby own_d8_1) (by decide) (W := 0) (by show 2 * 0 + _ ≤ _; exact Nat.le_of_eq rfl) (by decide)
  refine ownGo (T' := T1) (f' := (mkF m 4 #[rv a0, rv a1] [])) (st1) ?_
  refine ow_aloadN (q := 5) X1 hx (hb hby own_d8_4) rfl rfl rfl ?_
  refine ow_aloadN (q := 6) X1 hx (hb hby own_d8_5) rfl rfl rfl ?_
  obtain ⟨T2, h2, X2, e2, W2, st2⟩ := putF X1 hx hZ hown (host := "") (Or.inl (ww 48 rfl)) Via.refl e1 HF1 HF0 (Or.inr ⟨(ww 49 rfl), rfl, hnm⟩) (ww 31 rfl) (ty := (.array .int)) (by decide) rfl rfl (g := (mkF m 6 #[rv a0, rv a1] [(.ref a1), (.ref a0)])) rfl rfl (hb hby own_d8_6)
  have N2 := Fr.snoc X2 N0 G_a0
  have K2 : Keep h0 h2 [a0] := K0.wr W2 (Or.inl (List.mem_of_getElem? (i := 0) rfl))
  have F3 : Exa Z h2 a0 "com/example/shapewright/shapewright/regex/CodePointSet" := HF0.wr W2
  have F4 : Fld Z h2 a0 "com/example/shapewright/shapewright/regex/CodePointSet" "ranges" "[I" (.ref a1) := HF1.same W2
  refine ownGo (T' := T2) (f' := (mkF m 9 #[rv a0, rv a1] [])) (st2) ?_
  refine ownRetV X2 hx Bd.returns (hb hby own_d8_9) hlk (by decide) (by decide) ?_
  rw [e2]
  exact ⟨rfl, N2, K2, F3, F4⟩
theorem own_d5_0 : decode prog_19_method_3_code 0 = .ok (.new 29, 3) := by decide +kernel
theorem own_d5_3 : decode prog_19_method_3_code 3 = .ok (.dup, 1) := by decide +kernel
theorem own_d5_4 : decode prog_19_method_3_code 4 = .ok (.aload_n 0, 1) := by decide +kernel
theorem own_d5_5 : decode prog_19_method_3_code 5 = .ok (.getfield 7, 3) := by decide +kernel
theorem own_d5_8 : decode prog_19_method_3_code 8 = .ok (.aload_n 0, 1) := by decide +kernel
theorem own_d5_9 : decode prog_19_method_3_code 9 = .ok (.getfield 13, 3) := by decide +kernel
theorem own_d5_12 : decode prog_19_method_3_code 12 = .ok (.invokestatic 23, 3) := by decide +kernel
theorem own_pd1 : parseMethodDescriptor "([II)[I" = some ⟨[(.array .int), .int], some (.array .int)⟩ := by decide +kernel
theorem own_d5_15 : decode prog_19_method_3_code 15 = .ok (.invokespecial 31, 3) := by decide +kernel
theorem own_pd2 : parseMethodDescriptor "([I)V" = some ⟨[(.array .int)], none⟩ := by decide +kernel
theorem own_d5_18 : decode prog_19_method_3_code 18 = .ok (.areturn, 1) := by decide +kernel
theorem own_ef5_build_2 (m : MethodId) (a0 : Addr) : entryFrame m #[(.ref a0)] 1 = mkF m 0 #[rv a0] [] := by first | (simp [entryFrame, mkF, argsToLocals, Value.category]; done) | rfl
def Q_build_2 (Z : State) (a0 : Addr) (ar : Addr) (g : Nat → Int32) (h0 : Heap) (n0 : Nat) (v : Option Value) (h : Heap) (L : List Loc) : Prop := ∃ (r : Addr) (ar2 : Addr), v = some (.ref r) ∧ Fr n0 L ∧ Keep h0 h [] ∧ h0.size ≤ r ∧ h0.size ≤ ar2 ∧ Exa Z h r "com/example/shapewright/shapewright/regex/CodePointSet" ∧ Fld Z h r "com/example/shapewright/shapewright/regex/CodePointSet" "ranges" "[I" (.ref ar2) ∧ ownAI Z h ar2 .int 2 g ∧ (r ≠ ar2)
set_option maxRecDepth 65536 in
set_option maxHeartbeats 40000000 in
theorem rm_build_2 (l : Launch) (Z : State) (av0 : Array Value) (hw : ∀ d ∈ tables_1, d.before av0 Z = true) (ws : List Jvm.Cond) (a0 : Addr) (ar : Addr) (g : Nat → Int32) (h0 : Heap) (n0 : Nat) (Z0 : n0 ≤ h0.size) (HF0 : Fld Z h0 a0 "com/example/shapewright/shapewright/regex/CodePointSet$Builder" "ranges" "[I" (.ref ar)) (HF1 : Fld Z h0 a0 "com/example/shapewright/shapewright/regex/CodePointSet$Builder" "length" "I" (.int (2 : Int32))) (HF2 : ownAI Z h0 ar .int 16 g) :
    MetFree l (⟨"com/example/shapewright/shapewright/regex/CodePointSet$Builder", "build", "()Lcom/example/shapewright/shapewright/regex/CodePointSet;"⟩ : MethodName) (head1 (Jvm.Cond.code (⟨"com/example/shapewright/shapewright/regex/CodePointSet$Builder", "build", "()Lcom/example/shapewright/shapewright/regex/CodePointSet;"⟩ : MethodName) prog_19_method_3_code 1 (some (.object "com/example/shapewright/shapewright/regex/CodePointSet")) :: ws) ({ frames := 2, cells := 2, slots := 3, locals := 34 } : Room)) (fun a U => a = #[(.ref a0)] ∧ Z.Warmed39 U.vm ∧ U.heap = h0) (fun _ _ _ _ _ => True) (fun _ U o U' => ∃ v L, o = .returned v ∧ (Q_build_2 Z a0 ar g h0 n0) v U'.heap L ∧ FrameEnd U o U' L ({ frames := 2, cells := 2, slots := 3, locals := 34 } : Room).cells ({ frames := 2, cells := 2, slots := 3, locals := 34 } : Room).slots) := by
  refine MetFree.of_bodySF (plainFor_of_name own_pn_CodePointSet_Builder) hisR ?_
  intro p e s m args below meth c s₁ Bd hml0 hP hK
  obtain ⟨rfl, hZ, hh⟩ := hP
  have hx := Bd.exec
  have hby := Bd.bytes
  have hml : c.maxLocals = 1 := hml0
  have hown : s.vm.findClass "com/example/shapewright/shapewright/regex/CodePointSet$Builder" = some m.cls := findClass_of_methodNamed Bd.named
  have hnm := (name_of_methodNamed Bd.named Bd.method).1
  have hlk : meth.locks = false := BodyLoose.notSynchronized Bd
  have X0 : Stand p l e ({ frames := 2, cells := 2, slots := 3, locals := 34 } : Room) s m #[(.ref a0)] below meth c s₁ [] 0 0 := Stand.of_body Bd
  have e0 : s₁.heap = h0 := by rw [← hh, Bd.state]; rfl
  have N0 := Fr.nil n0
  have K0 : Keep h0 h0 [] := Keep.refl _ _
  have ww : ∀ (k : Nat) {d : Jvm.Cond}, tables_1[k]? = some d → d.before av0 Z = true := fun k d h => hw d (List.mem_of_getElem? h)
  show ownEnds p e below s (Q_build_2 Z a0 ar g h0 n0) ({ frames := 2, cells := 2, slots := 3, locals := 34 } : Room).cells ({ frames := 2, cells := 2, slots := 3, locals := 34 } : Room).slots s₁ (entryFrame m #[(.ref a0)] 1)
  refine ownCast (own_ef5_build_2 m a0) ?_
  obtain ⟨T1, h1, X1, e1, E1, A1, D1, -, st1⟩ := newO X0 hx hZ hown (ww 30 rfl) (ww 31 rfl) (ww 32 rfl) e0 (g := (mkF m 0 #[rv a0] [])) rfl (hb hby own_d5_0) (by decide) (by decide)
  obtain ⟨b1, g1⟩ : ∃ z, z = h0.size := ⟨_, rfl⟩
  rw [← g1] at A1 D1 st1
  have ne_a0_b1 : a0 ≠ b1 := Nat.ne_of_lt (Nat.lt_of_lt_of_le HF0.lt (Nat.le_of_eq g1.symm))
  have ne_ar_b1 : ar ≠ b1 := Nat.ne_of_lt (Nat.lt_of_lt_of_le HF2.lt (Nat.le_of_eq g1.symm))
  have sz_b1 : h0.size ≤ b1 := Nat.le_trans K0.1 (Nat.le_of_eq g1.symm)
  have G_b1 : n0 ≤ b1 := Nat.le_trans Z0 sz_b1
  have K1 : Keep h0 h1 [] := K0.ext E1
  have F2 : Fld Z h1 a0 "com/example/shapewright/shapewright/regex/CodePointSet$Builder" "ranges" "[I" (.ref ar) := HF0.ext E1
  have F3 : Fld Z h1 a0 "com/example/shapewright/shapewright/regex/CodePointSet$Builder" "length" "I" (.int (2 : Int32)) := HF1.ext E1
  have F4 : ownAI Z h1 ar .int 16 g := HF2.ext E1
  have F5 : Fld Z h1 b1 "com/example/shapewright/shapewright/regex/CodePointSet" "ranges" "[I" .null := D1 (Or.inr (ww 49 rfl)) (ty := (.array .int)) (by decide)
  refine ownGo (T' := T1) (f' := (mkF m 3 #[rv a0] [(.ref b1)])) (st1) ?_
  refine ow_dup (q := 4) X1 hx (hb hby own_d5_3) rfl rfl ?_
  refine ow_aloadN (q := 5) X1 hx (hb hby own_d5_4) rfl rfl rfl ?_
  obtain ⟨T6, X6, e6, st6⟩ := getF X1 hx hZ hown (host := "") (Or.inl (ww 12 rfl)) Via.refl e1 F2 (g := (mkF m 5 #[rv a0] [(.ref a0), (.ref b1), (.ref b1)])) rfl rfl (hb hby own_d5_5)
  refine ownGo (T' := T6) (f' := (mkF m 8 #[rv a0] [(.ref ar), (.ref b1), (.ref b1)])) (st6) ?_
  refine ow_aloadN (q := 9) X6 hx (hb hby own_d5_8) rfl rfl rfl ?_
  obtain ⟨T7, X7, e7, st7⟩ := getF X6 hx hZ hown (host := "") (Or.inl (ww 19 rfl)) Via.refl e6 F3 (g := (mkF m 9 #[rv a0] [(.ref a0), (.ref ar), (.ref b1), (.ref b1)])) rfl rfl (hb hby own_d5_9)
  refine ownGo (T' := T7) (f' := (mkF m 12 #[rv a0] [(.int (2 : Int32)), (.ref ar), (.ref b1), (.ref b1)])) (st7) ?_
  obtain ⟨_, _, ⟨T8, L8, k8, n8⟩, -, X8, ⟨Lc8, hQ8, l8, y8, z8⟩, st8⟩ := Jvm.LawKit.callS X7 hx (y := (⟨"java/util/Arrays", "copyOf", "([II)[I"⟩ : MethodName)) hown (mvT hZ (ww 33 rfl)) (mvT hZ (ww 34 rfl)) (mvT hZ (ww 35 rfl)) (mvT hZ (ww 36 rfl)) (by decide) (backOf (W := 2) (rm_copyOf_16_2 l Z av0 hw [] ar g h1 n0 (Nat.le_trans Z0 K1.1) F4) hZ (ww 36 rfl) (ww 35 rfl) (by decide) (by decide)) (g := (mkF m 12 #[rv a0] [(.int (2 : Int32)), (.ref ar), (.ref b1), (.ref b1)])) rfl (by rw [hml]; rfl) (argsL := [(.ref ar), (.int (2 : Int32))]) (rest := [(.ref b1), (.ref b1)]) (lenOf own_pd1 rfl) rfl (by show 2 * 0 + _ ≤ _; exact Nat.le_of_eq rfl) (hb hby own_d5_12) (fun _ _ => ⟨rfl, e7, (by decide : 1 + 1 ≤ _), (by decide : 1 + 2 ≤ _)⟩)
  dsimp only [Pt.U, Pt.locs, Pt.cells, Pt.slots] at X8 l8 y8 z8 st8 hQ8
  subst l8 y8 z8
  obtain ⟨b8, rfl, N8q, Kq8, sq8_b8, FP8_0⟩ := hQ8
  have N8 := Fr.app N0 N8q
  have K8 : Keep h0 T8.heap [] := K1.trans Kq8 all0
  have ne_a0_b8 : a0 ≠ b8 := Nat.ne_of_lt (Nat.lt_of_lt_of_le F2.lt sq8_b8)
  have ne_ar_b8 : ar ≠ b8 := Nat.ne_of_lt (Nat.lt_of_lt_of_le F4.lt sq8_b8)
  have ne_b1_b8 : b1 ≠ b8 := Nat.ne_of_lt (Nat.lt_of_lt_of_le A1.lt sq8_b8)
  have sz_b8 : h0.size ≤ b8 := Nat.le_trans K1.1 sq8_b8
  have G_b8 : n0 ≤ b8 := Nat.le_trans Z0 sz_b8
  have F9 : Fld Z T8.heap a0 "com/example/shapewright/shapewright/regex/CodePointSet$Builder" "ranges" "[I" (.ref ar) := F2.keep Kq8 nin0
  have F10 : Fld Z T8.heap a0 "com/example/shapewright/shapewright/regex/CodePointSet$Builder" "length" "I" (.int (2 : Int32)) := F3.keep Kq8 nin0
  have F11 : ownAI Z T8.heap ar .int 16 g := F4.keep Kq8 nin0
  have F12 : Exa Z T8.heap b1 "com/example/shapewright/shapewright/regex/CodePointSet" := A1.keep Kq8
  have F13 : Fld Z T8.heap b1 "com/example/shapewright/shapewright/regex/CodePointSet" "ranges" "[I" .null := F5.keep Kq8 nin0
  refine ownGo (T' := T8) (f' := (mkF m 15 #[rv a0] [(.ref b8), (.ref b1), (.ref b1)])) (st8) ?_
  obtain ⟨_, _, ⟨T14, L14, k14, n14⟩, -, X14, ⟨Lc14, hQ14, l14, y14, z14⟩, st14⟩ := X8.specialBackNest hx (y := (⟨"com/example/shapewright/shapewright/regex/CodePointSet", "<init>", "([I)V"⟩ : MethodName)) rfl hown (Cond.methodLinkNest_wide hZ (ww 44 rfl) :) (mvT hZ (ww 45 rfl)) (mvT hZ (ww 46 rfl)) (by decide) (backOf (W := 1) (rm_cinit l Z av0 hw [] b1 b8 T8.heap n0 (Nat.le_trans Z0 K8.1) F12 F13 G_b1) hZ (ww 46 rfl) (ww 32 rfl) (by decide) (by decide)) (g := (mkF m 15 #[rv a0] [(.ref b8), (.ref b1), (.ref b1)])) rfl (by rw [hml]; rfl) (Steps.refl _) (a := b1) (argsL := [(.ref b8)]) (rest := [(.ref b1)]) (lenOf own_pd2 rfl) rfl (by show 2 * 0 + _ ≤ _; exact Nat.le_of_eq rfl) (hb hby own_d5_15) (fun _ _ => ⟨rfl, rfl, (by decide : 2 + 0 ≤ _), (by decide : 3 + 0 ≤ _)⟩)
  dsimp only [Pt.U, Pt.locs, Pt.cells, Pt.slots] at X14 l14 y14 z14 st14 hQ14
  subst l14 y14 z14
  obtain ⟨rfl, N14q, Kq14, FP14_0, FP14_1⟩ := hQ14
  have N14 := Fr.app N8 N14q
  have K14 : Keep h0 T14.heap [] := K8.trans Kq14 (allS (Or.inr sz_b1) all0)
  have F15 : Fld Z T14.heap a0 "com/example/shapewright/shapewright/regex/CodePointSet$Builder" "ranges" "[I" (.ref ar) := F9.keep Kq14 (ninS ne_a0_b1 nin0)
  have F16 : Fld Z T14.heap a0 "com/example/shapewright/shapewright/regex/CodePointSet$Builder" "length" "I" (.int (2 : Int32)) := F10.keep Kq14 (ninS ne_a0_b1 nin0)
  have F17 : ownAI Z T14.heap ar .int 16 g := F11.keep Kq14 (ninS ne_ar_b1 nin0)
  have F18 : Exa Z T14.heap b1 "com/example/shapewright/shapewright/regex/CodePointSet" := F12.keep Kq14
  have F19 : ownAI Z T14.heap b8 .int 2 g := FP8_0.keep Kq14 (ninS (Ne.symm ne_b1_b8) nin0)
  refine ownRun (T' := T14) (f' := (mkF m 18 #[rv a0] [(.ref b1)])) st14 ?_
  refine ownRetR X14 hx rfl rfl rfl Bd.returns (hb hby own_d5_18) hlk (by decide) (by decide) ?_
  refine ⟨b1, b8, rfl, N14, K14, sz_b1, sz_b8, FP14_0, FP14_1, F19, ?_⟩
  exact ne_b1_b8
theorem own_d9_0 : decode prog_18_method_7_code 0 = .ok (.aload_n 0, 1) := by decide +kernel
theorem own_d9_1 : decode prog_18_method_7_code 1 = .ok (.getfield 9, 3) := by decide +kernel
theorem own_d9_4 : decode prog_18_method_7_code 4 = .ok (.arraylength, 1) := by decide +kernel
theorem own_d9_5 : decode prog_18_method_7_code 5 = .ok (.newarray .int, 2) := by decide +kernel
theorem own_d9_7 : decode prog_18_method_7_code 7 = .ok (.astore_n 1, 1) := by decide +kernel
theorem own_d9_8 : decode prog_18_method_7_code 8 = .ok (.iconst 0, 1) := by decide +kernel
theorem own_d9_9 : decode prog_18_method_7_code 9 = .ok (.istore_n 2, 1) := by decide +kernel
theorem own_d9_10 : decode prog_18_method_7_code 10 = .ok (.iconst 0, 1) := by decide +kernel
theorem own_d9_11 : decode prog_18_method_7_code 11 = .ok (.istore_n 3, 1) := by decide +kernel
theorem own_d9_12 : decode prog_18_method_7_code 12 = .ok (.iload_n 3, 1) := by decide +kernel
theorem own_d9_13 : decode prog_18_method_7_code 13 = .ok (.aload_n 0, 1) := by decide +kernel
theorem own_d9_14 : decode prog_18_method_7_code 14 = .ok (.getfield 9, 3) := by decide +kernel
theorem own_d9_17 : decode prog_18_method_7_code 17 = .ok (.arraylength, 1) := by decide +kernel
theorem own_d9_18 : decode prog_18_method_7_code 18 = .ok (.if_icmp .ge 50, 3) := by decide +kernel
theorem own_d9_21 : decode prog_18_method_7_code 21 = .ok (.aload_n 1, 1) := by decide +kernel
theorem own_d9_22 : decode prog_18_method_7_code 22 = .ok (.iload_n 2, 1) := by decide +kernel
theorem own_d9_23 : decode prog_18_method_7_code 23 = .ok (.iinc 2 1, 3) := by decide +kernel
theorem own_d9_26 : decode prog_18_method_7_code 26 = .ok (.aload_n 0, 1) := by decide +kernel
theorem own_d9_27 : decode prog_18_method_7_code 27 = .ok (.getfield 9, 3) := by decide +kernel
theorem own_d9_30 : decode prog_18_method_7_code 30 = .ok (.iload_n 3, 1) := by decide +kernel
theorem own_d9_31 : decode prog_18_method_7_code 31 = .ok (.iaload, 1) := by decide +kernel
theorem own_d9_32 : decode prog_18_method_7_code 32 = .ok (.iastore, 1) := by decide +kernel
theorem own_d9_33 : decode prog_18_method_7_code 33 = .ok (.aload_n 0, 1) := by decide +kernel
theorem own_d9_34 : decode prog_18_method_7_code 34 = .ok (.getfield 9, 3) := by decide +kernel
theorem own_d9_37 : decode prog_18_method_7_code 37 = .ok (.iload_n 3, 1) := by decide +kernel
theorem own_d9_38 : decode prog_18_method_7_code 38 = .ok (.iconst 1, 1) := by decide +kernel
theorem own_d9_39 : decode prog_18_method_7_code 39 = .ok (.iadd, 1) := by decide +kernel
theorem own_d9_40 : decode prog_18_method_7_code 40 = .ok (.iaload, 1) := by decide +kernel
theorem own_d9_41 : decode prog_18_method_7_code 41 = .ok (.ldc 43, 2) := by decide +kernel
theorem own_d9_43 : decode prog_18_method_7_code 43 = .ok (.if_icmp .ge 19, 3) := by decide +kernel
theorem own_d9_46 : decode prog_18_method_7_code 46 = .ok (.aload_n 1, 1) := by decide +kernel
theorem own_d9_47 : decode prog_18_method_7_code 47 = .ok (.iload_n 2, 1) := by decide +kernel
theorem own_d9_48 : decode prog_18_method_7_code 48 = .ok (.iinc 2 1, 3) := by decide +kernel
theorem own_d9_51 : decode prog_18_method_7_code 51 = .ok (.aload_n 0, 1) := by decide +kernel
theorem own_d9_52 : decode prog_18_method_7_code 52 = .ok (.getfield 9, 3) := by decide +kernel
theorem own_d9_55 : decode prog_18_method_7_code 55 = .ok (.iload_n 3, 1) := by decide +kernel
theorem own_d9_56 : decode prog_18_method_7_code 56 = .ok (.iconst 1, 1) := by decide +kernel
theorem own_d9_57 : decode prog_18_method_7_code 57 = .ok (.iadd, 1) := by decide +kernel
theorem own_d9_58 : decode prog_18_method_7_code 58 = .ok (.iaload, 1) := by decide +kernel
theorem own_d9_59 : decode prog_18_method_7_code 59 = .ok (.iconst 1, 1) := by decide +kernel
theorem own_d9_60 : decode prog_18_method_7_code 60 = .ok (.iadd, 1) := by decide +kernel
theorem own_d9_61 : decode prog_18_method_7_code 61 = .ok (.iastore, 1) := by decide +kernel
theorem own_d9_62 : decode prog_18_method_7_code 62 = .ok (.iinc 3 2, 3) := by decide +kernel
theorem own_d9_65 : decode prog_18_method_7_code 65 = .ok (.goto (-53), 3) := by decide +kernel
theorem own_d9_68 : decode prog_18_method_7_code 68 = .ok (.aload_n 1, 1) := by decide +kernel
theorem own_d9_69 : decode prog_18_method_7_code 69 = .ok (.iload_n 2, 1) := by decide +kernel
theorem own_d9_70 : decode prog_18_method_7_code 70 = .ok (.invokestatic 44, 3) := by decide +kernel
theorem own_d9_73 : decode prog_18_method_7_code 73 = .ok (.areturn, 1) := by decide +kernel
theorem own_ef9_edges_2_l (m : MethodId) (a0 : Addr) : entryFrame m #[(.ref a0)] 4 = mkF m 0 #[rv a0, .unset, .unset, .unset] [] := by first | (simp [entryFrame, mkF, argsToLocals, Value.category]; done) | rfl
def Q_edges_2_l (Z : State) (a0 : Addr) (ar : Addr) (g : Nat → Int32) (h0 : Heap) (n0 : Nat) (v : Option Value) (h : Heap) (L : List Loc) : Prop := ∃ (r : Addr), v = some (.ref r) ∧ Fr n0 L ∧ Keep h0 h [] ∧ h0.size ≤ r ∧ ownAI Z h r .int 2 (ownUpd (ownUpd (fun _ => (0 : Int32)) 0 (g 0)) 1 ((g 1) + (1 : Int32)))
set_option maxRecDepth 65536 in
set_option maxHeartbeats 40000000 in
theorem rm_edges_2_l (l : Launch) (Z : State) (av0 : Array Value) (hw : ∀ d ∈ tables_1, d.before av0 Z = true) (ws : List Jvm.Cond) (a0 : Addr) (ar : Addr) (g : Nat → Int32) (h0 : Heap) (n0 : Nat) (Z0 : n0 ≤ h0.size) (HF0 : Fld Z h0 a0 "com/example/shapewright/shapewright/regex/CodePointSet" "ranges" "[I" (.ref ar)) (HF1 : ownAI Z h0 ar .int 2 g) (hl1 : (g 1) < (1114111 : Int32)) :
    MetFree l (⟨"com/example/shapewright/shapewright/regex/CodePointSet", "edges", "()[I"⟩ : MethodName) (head1 (Jvm.Cond.code (⟨"com/example/shapewright/shapewright/regex/CodePointSet", "edges", "()[I"⟩ : MethodName) prog_18_method_7_code 4 (some (.array .int)) :: ws) ({ frames := 2, cells := 2, slots := 4, locals := 28 } : Room)) (fun a U => a = #[(.ref a0)] ∧ Z.Warmed39 U.vm ∧ U.heap = h0) (fun _ _ _ _ _ => True) (fun _ U o U' => ∃ v L, o = .returned v ∧ (Q_edges_2_l Z a0 ar g h0 n0) v U'.heap L ∧ FrameEnd U o U' L ({ frames := 2, cells := 2, slots := 4, locals := 28 } : Room).cells ({ frames := 2, cells := 2, slots := 4, locals := 28 } : Room).slots) := by
  refine MetFree.of_bodySF (plainFor_of_name own_pn_CodePointSet) hisR ?_
  intro p e s m args below meth c s₁ Bd hml0 hP hK
  obtain ⟨rfl, hZ, hh⟩ := hP
  have hx := Bd.exec
  have hby := Bd.bytes
  have hml : c.maxLocals = 4 := hml0
  have hown : s.vm.findClass "com/example/shapewright/shapewright/regex/CodePointSet" = some m.cls := findClass_of_methodNamed Bd.named
  have hnm := (name_of_methodNamed Bd.named Bd.method).1
  have hlk : meth.locks = false := BodyLoose.notSynchronized Bd
  have X0 : Stand p l e ({ frames := 2, cells := 2, slots := 4, locals := 28 } : Room) s m #[(.ref a0)] below meth c s₁ [] 0 0 := Stand.of_body Bd
  have e0 : s₁.heap = h0 := by rw [← hh, Bd.state]; rfl
  have N0 := Fr.nil n0
  have K0 : Keep h0 h0 [] := Keep.refl _ _
  have ww : ∀ (k : Nat) {d : Jvm.Cond}, tables_1[k]? = some d → d.before av0 Z = true := fun k d h => hw d (List.mem_of_getElem? h)
  show ownEnds p e below s (Q_edges_2_l Z a0 ar g h0 n0) ({ frames := 2, cells := 2, slots := 4, locals := 28 } : Room).cells ({ frames := 2, cells := 2, slots := 4, locals := 28 } : Room).slots s₁ (entryFrame m #[(.ref a0)] 4)
  refine ownCast (own_ef9_edges_2_l m a0) ?_
  refine ow_aloadN (q := 1) X0 hx (hb hby own_d9_0) rfl rfl rfl ?_
  obtain ⟨T1, X1, e1, st1⟩ := getF X0 hx hZ hown (host := "") (Or.inl (ww 48 rfl)) Via.refl e0 HF0 (g := (mkF m 1 #[rv a0, .unset, .unset, .unset] [(.ref a0)])) rfl rfl (hb hby own_d9_1)
  refine ownGo (T' := T1) (f' := (mkF m 4 #[rv a0, .unset, .unset, .unset] [(.ref ar)])) (st1) ?_
  refine ownGo (T' := T1) (f' := (mkF m 5 #[rv a0, .unset, .unset, .unset] [(.int (2 : Int32))])) (ownLenI HF1 X1 hx hZ e1 (z := (2 : Int32)) (by decide) (g := (mkF m 4 #[rv a0, .unset, .unset, .unset] [(.ref ar)])) rfl rfl (hb hby own_d9_4)) ?_
  obtain ⟨T2, h2, k2, X2, e2, E2, A2, EA2, st2⟩ := newPE X1 hx hZ (ww 2 rfl) e1 (g := (mkF m 5 #[rv a0, .unset, .unset, .unset] [(.int (2 : Int32))])) rfl (hb hby own_d9_5) rfl (by decide) (cap := 2) (by decide) (by decide) (by decide) (by decide) (ad := "[I") (by decide)
  obtain ⟨b2, g2⟩ : ∃ z, z = h0.size := ⟨_, rfl⟩
  rw [← g2] at A2 st2 EA2
  have ne_a0_b2 : a0 ≠ b2 := Nat.ne_of_lt (Nat.lt_of_lt_of_le HF0.lt (Nat.le_of_eq g2.symm))
  have ne_ar_b2 : ar ≠ b2 := Nat.ne_of_lt (Nat.lt_of_lt_of_le HF1.lt (Nat.le_of_eq g2.symm))
  have sz_b2 : h0.size ≤ b2 := Nat.le_trans K0.1 (Nat.le_of_eq g2.symm)
  have G_b2 : n0 ≤ b2 := Nat.le_trans Z0 sz_b2
  have K2 : Keep h0 h2 [] := K0.ext E2
  have F3 : Fld Z h2 a0 "com/example/shapewright/shapewright/regex/CodePointSet" "ranges" "[I" (.ref ar) := HF0.ext E2
  have F4 : ownAI Z h2 ar .int 2 g := HF1.ext E2
  have F5 : ownAI Z h2 b2 .int 2 (fun _ => (0 : Int32)) := ownAI.new A2 (by decide) rfl (by decide)
  refine ownGo (T' := T2) (f' := (mkF m 7 #[rv a0, .unset, .unset, .unset] [(.ref b2)])) (st2) ?_
  refine ow_astoreN (q := 8) X2 hx (L' := #[rv a0, rv b2, .unset, .unset]) (hb hby own_d9_7) rfl rfl rfl ?_
  refine ow_iconst (q := 9) X2 hx (0 : Int32) (hb hby own_d9_8) rfl rfl ?_
  refine ow_istoreN (q := 10) X2 hx (L' := #[rv a0, rv b2, iv (0 : Int32), .unset]) (hb hby own_d9_9) rfl rfl ?_
  refine ow_iconst (q := 11) X2 hx (0 : Int32) (hb hby own_d9_10) rfl rfl ?_
  refine ow_istoreN (q := 12) X2 hx (L' := #[rv a0, rv b2, iv (0 : Int32), iv (0 : Int32)]) (hb hby own_d9_11) rfl rfl ?_
  refine ow_iloadN (q := 13) X2 hx (hb hby own_d9_12) rfl rfl ?_
  refine ow_aloadN (q := 14) X2 hx (hb hby own_d9_13) rfl rfl rfl ?_
  obtain ⟨T6, X6, e6, st6⟩ := getF X2 hx hZ hown (host := "") (Or.inl (ww 48 rfl)) Via.refl e2 F3 (g := (mkF m 14 #[rv a0, rv b2, iv (0 : Int32), iv (0 : Int32)] [(.ref a0), (.int (0 : Int32))])) rfl rfl (hb hby own_d9_14)
  refine ownGo (T' := T6) (f' := (mkF m 17 #[rv a0, rv b2, iv (0 : Int32), iv (0 : Int32)] [(.ref ar), (.int (0 : Int32))])) (st6) ?_
  refine ownGo (T' := T6) (f' := (mkF m 18 #[rv a0, rv b2, iv (0 : Int32), iv (0 : Int32)] [(.int (2 : Int32)), (.int (0 : Int32))])) (ownLenI F4 X6 hx hZ e6 (z := (2 : Int32)) (by decide) (g := (mkF m 17 #[rv a0, rv b2, iv (0 : Int32), iv (0 : Int32)] [(.ref ar), (.int (0 : Int32))])) rfl rfl (hb hby own_d9_17)) ?_
  refine ow_icmpNo (q := 21) X6 hx (hb hby own_d9_18) rfl (Jvm.Free.XT.ii_ge_f (by decide)) ?_
  refine ow_aloadN (q := 22) X6 hx (hb hby own_d9_21) rfl rfl rfl ?_
  refine ow_iloadN (q := 23) X6 hx (hb hby own_d9_22) rfl rfl ?_
  refine ow_iinc (q := 26) X6 hx (L' := #[rv a0, rv b2, iv (1 : Int32), iv (0 : Int32)]) (hb hby own_d9_23) rfl rfl rfl ?_
  refine ow_aloadN (q := 27) X6 hx (hb hby own_d9_26) rfl rfl rfl ?_
  obtain ⟨T7, X7, e7, st7⟩ := getF X6 hx hZ hown (host := "") (Or.inl (ww 48 rfl)) Via.refl e6 F3 (g := (mkF m 27 #[rv a0, rv b2, iv (1 : Int32), iv (0 : Int32)] [(.ref a0), (.int (0 : Int32)), (.ref b2)])) rfl rfl (hb hby own_d9_27)
  refine ownGo (T' := T7) (f' := (mkF m 30 #[rv a0, rv b2, iv (1 : Int32), iv (0 : Int32)] [(.ref ar), (.int (0 : Int32)), (.ref b2)])) (st7) ?_
  refine ow_iloadN (q := 31) X7 hx (hb hby own_d9_30) rfl rfl ?_
  refine ownGo (T' := T7) (f' := (mkF m 32 #[rv a0, rv b2, iv (1 : Int32), iv (0 : Int32)] [(.int (g 0)), (.int (0 : Int32)), (.ref b2)])) (ownIaload F4 X7 hx hZ e7 (j := (0 : Int32)) (by unfold ownIn; decide) (g := (mkF m 31 #[rv a0, rv b2, iv (1 : Int32), iv (0 : Int32)] [(.int (0 : Int32)), (.ref ar), (.int (0 : Int32)), (.ref b2)])) rfl rfl (hb hby own_d9_31)) ?_
  generalize hv_v8 : (g 0) = v8
  obtain ⟨T9, h9, X9, e9, W9, F9s, st9⟩ := ownIastore F5 X7 hx hZ e7 (j := (0 : Int32)) (by unfold ownIn; decide) (g := (mkF m 32 #[rv a0, rv b2, iv (1 : Int32), iv (0 : Int32)] [(.int v8), (.int (0 : Int32)), (.ref b2)])) rfl rfl (hb hby own_d9_32)
  have F9r : ownAI Z h9 b2 .int 2 (ownUpd (fun _ => (0 : Int32)) 0 v8) := F9s
  have N9 := Fr.snoc X9 N0 G_b2
  have K9 : Keep h0 h9 [] := K2.wr W9 (Or.inr sz_b2)
  have F10 : Fld Z h9 a0 "com/example/shapewright/shapewright/regex/CodePointSet" "ranges" "[I" (.ref ar) := F3.other W9 (Or.inl ne_a0_b2)
  have F11 : ownAI Z h9 ar .int 2 g := F4.other W9 ne_ar_b2
  have F12 : Exa Z h9 b2 "[I" := EA2.wr W9
  refine ownGo (T' := T9) (f' := (mkF m 33 #[rv a0, rv b2, iv (1 : Int32), iv (0 : Int32)] [])) (st9) ?_
  refine ow_aloadN (q := 34) X9 hx (hb hby own_d9_33) rfl rfl rfl ?_
  obtain ⟨T13, X13, e13, st13⟩ := getF X9 hx hZ hown (host := "") (Or.inl (ww 48 rfl)) Via.refl e9 F10 (g := (mkF m 34 #[rv a0, rv b2, iv (1 : Int32), iv (0 : Int32)] [(.ref a0)])) rfl rfl (hb hby own_d9_34)
  refine ownGo (T' := T13) (f' := (mkF m 37 #[rv a0, rv b2, iv (1 : Int32), iv (0 : Int32)] [(.ref ar)])) (st13) ?_
  refine ow_iloadN (q := 38) X13 hx (hb hby own_d9_37) rfl rfl ?_
  refine ow_iconst (q := 39) X13 hx (1 : Int32) (hb hby own_d9_38) rfl rfl ?_
  refine ow_iadd (q := 40) X13 hx (1 : Int32) (hb hby own_d9_39) rfl (by decide) ?_
  refine ownGo (T' := T13) (f' := (mkF m 41 #[rv a0, rv b2, iv (1 : Int32), iv (0 : Int32)] [(.int (g 1))])) (ownIaload F11 X13 hx hZ e13 (j := (1 : Int32)) (by unfold ownIn; decide) (g := (mkF m 40 #[rv a0, rv b2, iv (1 : Int32), iv (0 : Int32)] [(.int (1 : Int32)), (.ref ar)])) rfl rfl (hb hby own_d9_40)) ?_
  generalize hv_v14 : (g 1) = v14
  refine ownGo (T' := T13) (f' := (mkF m 43 #[rv a0, rv b2, iv (1 : Int32), iv (0 : Int32)] [(.int (1114111 : Int32)), (.int v14)])) (X13.ldcInt hx hown (mvT hZ (ww 55 rfl)) (g := (mkF m 41 #[rv a0, rv b2, iv (1 : Int32), iv (0 : Int32)] [(.int v14)])) rfl (hb hby own_d9_41)) ?_
  refine ow_icmpNo (q := 46) X13 hx (hb hby own_d9_43) rfl (Jvm.Free.XT.ii_ge_f (by first | exact hl1 | (rw [hv_v14] at hl1; exact hl1))) ?_
  refine ow_aloadN (q := 47) X13 hx (hb hby own_d9_46) rfl rfl rfl ?_
  refine ow_iloadN (q := 48) X13 hx (hb hby own_d9_47) rfl rfl ?_
  refine ow_iinc (q := 51) X13 hx (L' := #[rv a0, rv b2, iv (2 : Int32), iv (0 : Int32)]) (hb hby own_d9_48) rfl rfl rfl ?_
  refine ow_aloadN (q := 52) X13 hx (hb hby own_d9_51) rfl rfl rfl ?_
  obtain ⟨T15, X15, e15, st15⟩ := getF X13 hx hZ hown (host := "") (Or.inl (ww 48 rfl)) Via.refl e13 F10 (g := (mkF m 52 #[rv a0, rv b2, iv (2 : Int32), iv (0 : Int32)] [(.ref a0), (.int (1 : Int32)), (.ref b2)])) rfl rfl (hb hby own_d9_52)
  refine ownGo (T' := T15) (f' := (mkF m 55 #[rv a0, rv b2, iv (2 : Int32), iv (0 : Int32)] [(.ref ar), (.int (1 : Int32)), (.ref b2)])) (st15) ?_
  refine ow_iloadN (q := 56) X15 hx (hb hby own_d9_55) rfl rfl ?_
  refine ow_iconst (q := 57) X15 hx (1 : Int32) (hb hby own_d9_56) rfl rfl ?_
  refine ow_iadd (q := 58) X15 hx (1 : Int32) (hb hby own_d9_57) rfl (by decide) ?_
  refine ownGo (T' := T15) (f' := (mkF m 59 #[rv a0, rv b2, iv (2 : Int32), iv (0 : Int32)] [(.int (g 1)), (.int (1 : Int32)), (.ref b2)])) (ownIaload F11 X15 hx hZ e15 (j := (1 : Int32)) (by unfold ownIn; decide) (g := (mkF m 58 #[rv a0, rv b2, iv (2 : Int32), iv (0 : Int32)] [(.int (1 : Int32)), (.ref ar), (.int (1 : Int32)), (.ref b2)])) rfl rfl (hb hby own_d9_58)) ?_
  generalize hv_v16 : (g 1) = v16
  refine ow_iconst (q := 60) X15 hx (1 : Int32) (hb hby own_d9_59) rfl rfl ?_
  refine ow_iadd (q := 61) X15 hx _ (hb hby own_d9_60) rfl rfl ?_
  generalize hv_v17 : (v16 + (1 : Int32)) = v17
  obtain ⟨T18, h18, X18, e18, W18, F18s, st18⟩ := ownIastore F9r X15 hx hZ e15 (j := (1 : Int32)) (by unfold ownIn; decide) (g := (mkF m 61 #[rv a0, rv b2, iv (2 : Int32), iv (0 : Int32)] [(.int v17), (.int (1 : Int32)), (.ref b2)])) rfl rfl (hb hby own_d9_61)
  have F18r : ownAI Z h18 b2 .int 2 (ownUpd (ownUpd (fun _ => (0 : Int32)) 0 v8) 1 v17) := F18s
  have N18 := Fr.snoc X18 N9 G_b2
  have K18 : Keep h0 h18 [] := K9.wr W18 (Or.inr sz_b2)
  have F19 : Fld Z h18 a0 "com/example/shapewright/shapewright/regex/CodePointSet" "ranges" "[I" (.ref ar) := F10.other W18 (Or.inl ne_a0_b2)
  have F20 : ownAI Z h18 ar .int 2 g := F11.other W18 ne_ar_b2
  have F21 : Exa Z h18 b2 "[I" := F12.wr W18
  refine ownGo (T' := T18) (f' := (mkF m 62 #[rv a0, rv b2, iv (2 : Int32), iv (0 : Int32)] [])) (st18) ?_
  refine ow_iinc (q := 65) X18 hx (L' := #[rv a0, rv b2, iv (2 : Int32), iv (2 : Int32)]) (hb hby own_d9_62) rfl rfl rfl ?_
  refine ow_goto (q := 12) X18 hx (hb hby own_d9_65) (by decide) (by decide) ?_
  refine ow_iloadN (q := 13) X18 hx (hb hby own_d9_12) rfl rfl ?_
  refine ow_aloadN (q := 14) X18 hx (hb hby own_d9_13) rfl rfl rfl ?_
  obtain ⟨T22, X22, e22, st22⟩ := getF X18 hx hZ hown (host := "") (Or.inl (ww 48 rfl)) Via.refl e18 F19 (g := (mkF m 14 #[rv a0, rv b2, iv (2 : Int32), iv (2 : Int32)] [(.ref a0), (.int (2 : Int32))])) rfl rfl (hb hby own_d9_14)
  refine ownGo (T' := T22) (f' := (mkF m 17 #[rv a0, rv b2, iv (2 : Int32), iv (2 : Int32)] [(.ref ar), (.int (2 : Int32))])) (st22) ?_
  refine ownGo (T' := T22) (f' := (mkF m 18 #[rv a0, rv b2, iv (2 : Int32), iv (2 : Int32)] [(.int (2 : Int32)), (.int (2 : Int32))])) (ownLenI F20 X22 hx hZ e22 (z := (2 : Int32)) (by decide) (g := (mkF m 17 #[rv a0, rv b2, iv (2 : Int32), iv (2 : Int32)] [(.ref ar), (.int (2 : Int32))])) rfl rfl (hb hby own_d9_17)) ?_
  refine ow_icmpYes (q := 68) X22 hx (hb hby own_d9_18) (Jvm.Free.XT.ii_ge_t (by decide)) (by decide) (by decide) ?_
  refine ow_aloadN (q := 69) X22 hx (hb hby own_d9_68) rfl rfl rfl ?_
  refine ow_iloadN (q := 70) X22 hx (hb hby own_d9_69) rfl rfl ?_
  obtain ⟨_, _, ⟨T23, L23, k23, n23⟩, -, X23, ⟨Lc23, hQ23, l23, y23, z23⟩, st23⟩ := Jvm.LawKit.callS X22 hx (y := (⟨"java/util/Arrays", "copyOf", "([II)[I"⟩ : MethodName)) hown (mvT hZ (ww 56 rfl)) (mvT hZ (ww 34 rfl)) (mvT hZ (ww 35 rfl)) (mvT hZ (ww 36 rfl)) (by decide) (backOf (W := 0) (rm_copyOf_2_2 l Z av0 hw [] b2 (ownUpd (ownUpd (fun _ => (0 : Int32)) 0 v8) 1 v17) h18 n0 (Nat.le_trans Z0 K18.1) F18r F21) hZ (ww 36 rfl) (ww 35 rfl) (by decide) (by decide)) (g := (mkF m 70 #[rv a0, rv b2, iv (2 : Int32), iv (2 : Int32)] [(.int (2 : Int32)), (.ref b2)])) rfl (by rw [hml]; rfl) (argsL := [(.ref b2), (.int (2 : Int32))]) (rest := []) (lenOf own_pd1 rfl) rfl (by show 2 * 0 + _ ≤ _; exact Nat.le_of_eq rfl) (hb hby own_d9_70) (fun _ _ => ⟨rfl, e22, (by decide : 1 + 1 ≤ _), (by decide : 2 + 2 ≤ _)⟩)
  dsimp only [Pt.U, Pt.locs, Pt.cells, Pt.slots] at X23 l23 y23 z23 st23 hQ23
  subst l23 y23 z23
  obtain ⟨b23, rfl, N23q, Kq23, sq23_b23, FP23_0⟩ := hQ23
  have N23 := Fr.app N18 N23q
  have K23 : Keep h0 T23.heap [] := K18.trans Kq23 all0
  have ne_a0_b23 : a0 ≠ b23 := Nat.ne_of_lt (Nat.lt_of_lt_of_le F19.lt sq23_b23)
  have ne_ar_b23 : ar ≠ b23 := Nat.ne_of_lt (Nat.lt_of_lt_of_le F20.lt sq23_b23)
  have ne_b2_b23 : b2 ≠ b23 := Nat.ne_of_lt (Nat.lt_of_lt_of_le F21.lt sq23_b23)
  have sz_b23 : h0.size ≤ b23 := Nat.le_trans K18.1 sq23_b23
  have G_b23 : n0 ≤ b23 := Nat.le_trans Z0 sz_b23
  have F24 : Fld Z T23.heap a0 "com/example/shapewright/shapewright/regex/CodePointSet" "ranges" "[I" (.ref ar) := F19.keep Kq23 nin0
  have F25 : ownAI Z T23.heap ar .int 2 g := F20.keep Kq23 nin0
  have F26 : Exa Z T23.heap b2 "[I" := F21.keep Kq23
  have F27 : ownAI Z T23.heap b2 .int 2 (ownUpd (ownUpd (fun _ => (0 : Int32)) 0 v8) 1 v17) := F18r.keep Kq23 nin0
  refine ownGo (T' := T23) (f' := (mkF m 73 #[rv a0, rv b2, iv (2 : Int32), iv (2 : Int32)] [(.ref b23)])) (st23) ?_
  refine ownRetR X23 hx rfl rfl rfl Bd.returns (hb hby own_d9_73) hlk (by decide) (by decide) ?_
  subst hv_v17 hv_v16 hv_v14 hv_v8
  exact ⟨b23, rfl, N23, K23, sz_b23, FP23_0⟩
theorem own_ef9_edges_2_e (m : MethodId) (a0 : Addr) : entryFrame m #[(.ref a0)] 4 = mkF m 0 #[rv a0, .unset, .unset, .unset] [] := by first | (simp [entryFrame, mkF, argsToLocals, Value.category]; done) | rfl
def Q_edges_2_e (Z : State) (a0 : Addr) (ar : Addr) (g : Nat → Int32) (h0 : Heap) (n0 : Nat) (v : Option Value) (h : Heap) (L : List Loc) : Prop := ∃ (r : Addr), v = some (.ref r) ∧ Fr n0 L ∧ Keep h0 h [] ∧ h0.size ≤ r ∧ ownAI Z h r .int 1 (ownUpd (fun _ => (0 : Int32)) 0 (g 0))
set_option maxRecDepth 65536 in
set_option maxHeartbeats 40000000 in
theorem rm_edges_2_e (l : Launch) (Z : State) (av0 : Array Value) (hw : ∀ d ∈ tables_1, d.before av0 Z = true) (ws : List Jvm.Cond) (a0 : Addr) (ar : Addr) (g : Nat → Int32) (h0 : Heap) (n0 : Nat) (Z0 : n0 ≤ h0.size) (HF0 : Fld Z h0 a0 "com/example/shapewright/shapewright/regex/CodePointSet" "ranges" "[I" (.ref ar)) (HF1 : ownAI Z h0 ar .int 2 g) (hl1 : ¬ (g 1) < (1114111 : Int32)) :
    MetFree l (⟨"com/example/shapewright/shapewright/regex/CodePointSet", "edges", "()[I"⟩ : MethodName) (head1 (Jvm.Cond.code (⟨"com/example/shapewright/shapewright/regex/CodePointSet", "edges", "()[I"⟩ : MethodName) prog_18_method_7_code 4 (some (.array .int)) :: ws) ({ frames := 2, cells := 2, slots := 3, locals := 32 } : Room)) (fun a U => a = #[(.ref a0)] ∧ Z.Warmed39 U.vm ∧ U.heap = h0) (fun _ _ _ _ _ => True) (fun _ U o U' => ∃ v L, o = .returned v ∧ (Q_edges_2_e Z a0 ar g h0 n0) v U'.heap L ∧ FrameEnd U o U' L ({ frames := 2, cells := 2, slots := 3, locals := 32 } : Room).cells ({ frames := 2, cells := 2, slots := 3, locals := 32 } : Room).slots) := by
  refine MetFree.of_bodySF (plainFor_of_name own_pn_CodePointSet) hisR ?_
  intro p e s m args below meth c s₁ Bd hml0 hP hK
  obtain ⟨rfl, hZ, hh⟩ := hP
  have hx := Bd.exec
  have hby := Bd.bytes
  have hml : c.maxLocals = 4 := hml0
  have hown : s.vm.findClass "com/example/shapewright/shapewright/regex/CodePointSet" = some m.cls := findClass_of_methodNamed Bd.named
  have hnm := (name_of_methodNamed Bd.named Bd.method).1
  have hlk : meth.locks = false := BodyLoose.notSynchronized Bd
  have X0 : Stand p l e ({ frames := 2, cells := 2, slots := 3, locals := 32 } : Room) s m #[(.ref a0)] below meth c s₁ [] 0 0 := Stand.of_body Bd
  have e0 : s₁.heap = h0 := by rw [← hh, Bd.state]; rfl
  have N0 := Fr.nil n0
  have K0 : Keep h0 h0 [] := Keep.refl _ _
  have ww : ∀ (k : Nat) {d : Jvm.Cond}, tables_1[k]? = some d → d.before av0 Z = true := fun k d h => hw d (List.mem_of_getElem? h)
  show ownEnds p e below s (Q_edges_2_e Z a0 ar g h0 n0) ({ frames := 2, cells := 2, slots := 3, locals := 32 } : Room).cells ({ frames := 2, cells := 2, slots := 3, locals := 32 } : Room).slots s₁ (entryFrame m #[(.ref a0)] 4)
  refine ownCast (own_ef9_edges_2_e m a0) ?_
  refine ow_aloadN (q := 1) X0 hx (hb hby own_d9_0) rfl rfl rfl ?_
  obtain ⟨T1, X1, e1, st1⟩ := getF X0 hx hZ hown (host := "") (Or.inl (ww 48 rfl)) Via.refl e0 HF0 (g := (mkF m 1 #[rv a0, .unset, .unset, .unset] [(.ref a0)])) rfl rfl (hb hby own_d9_1)
  refine ownGo (T' := T1) (f' := (mkF m 4 #[rv a0, .unset, .unset, .unset] [(.ref ar)])) (st1) ?_
  refine ownGo (T' := T1) (f' := (mkF m 5 #[rv a0, .unset, .unset, .unset] [(.int (2 : Int32))])) (ownLenI HF1 X1 hx hZ e1 (z := (2 : Int32)) (by decide) (g := (mkF m 4 #[rv a0, .unset, .unset, .unset] [(.ref ar)])) rfl rfl (hb hby own_d9_4)) ?_
  obtain ⟨T2, h2, k2, X2, e2, E2, A2, EA2, st2⟩ := newPE X1 hx hZ (ww 2 rfl) e1 (g := (mkF m 5 #[rv a0, .unset, .unset, .unset] [(.int (2 : Int32))])) rfl (hb hby own_d9_5) rfl (by decide) (cap := 2) (by decide) (by decide) (by decide) (by decide) (ad := "[I") (by decide)
  obtain ⟨b2, g2⟩ : ∃ z, z = h0.size := ⟨_, rfl⟩
  rw [← g2] at A2 st2 EA2
  have ne_a0_b2 : a0 ≠ b2 := Nat.ne_of_lt (Nat.lt_of_lt_of_le HF0.lt (Nat.le_of_eq g2.symm))
  have ne_ar_b2 : ar ≠ b2 := Nat.ne_of_lt (Nat.lt_of_lt_of_le HF1.lt (Nat.le_of_eq g2.symm))
  have sz_b2 : h0.size ≤ b2 := Nat.le_trans K0.1 (Nat.le_of_eq g2.symm)
  have G_b2 : n0 ≤ b2 := Nat.le_trans Z0 sz_b2
  have K2 : Keep h0 h2 [] := K0.ext E2
  have F3 : Fld Z h2 a0 "com/example/shapewright/shapewright/regex/CodePointSet" "ranges" "[I" (.ref ar) := HF0.ext E2
  have F4 : ownAI Z h2 ar .int 2 g := HF1.ext E2
  have F5 : ownAI Z h2 b2 .int 2 (fun _ => (0 : Int32)) := ownAI.new A2 (by decide) rfl (by decide)
  refine ownGo (T' := T2) (f' := (mkF m 7 #[rv a0, .unset, .unset, .unset] [(.ref b2)])) (st2) ?_
  refine ow_astoreN (q := 8) X2 hx (L' := #[rv a0, rv b2, .unset, .unset]) (hb hby own_d9_7) rfl rfl rfl ?_
  refine ow_iconst (q := 9) X2 hx (0 : Int32) (hb hby own_d9_8) rfl rfl ?_
  refine ow_istoreN (q := 10) X2 hx (L' := #[rv a0, rv b2, iv (0 : Int32), .unset]) (hb hby own_d9_9) rfl rfl ?_
  refine ow_iconst (q := 11) X2 hx (0 : Int32) (hb hby own_d9_10) rfl rfl ?_
  refine ow_istoreN (q := 12) X2 hx (L' := #[rv a0, rv b2, iv (0 : Int32), iv (0 : Int32)]) (hb hby own_d9_11) rfl rfl ?_
  refine ow_iloadN (q := 13) X2 hx (hb hby own_d9_12) rfl rfl ?_
  refine ow_aloadN (q := 14) X2 hx (hb hby own_d9_13) rfl rfl rfl ?_
  obtain ⟨T6, X6, e6, st6⟩ := getF X2 hx hZ hown (host := "") (Or.inl (ww 48 rfl)) Via.refl e2 F3 (g := (mkF m 14 #[rv a0, rv b2, iv (0 : Int32), iv (0 : Int32)] [(.ref a0), (.int (0 : Int32))])) rfl rfl (hb hby own_d9_14)
  refine ownGo (T' := T6) (f' := (mkF m 17 #[rv a0, rv b2, iv (0 : Int32), iv (0 : Int32)] [(.ref ar), (.int (0 : Int32))])) (st6) ?_
  refine ownGo (T' := T6) (f' := (mkF m 18 #[rv a0, rv b2, iv (0 : Int32), iv (0 : Int32)] [(.int (2 : Int32)), (.int (0 : Int32))])) (ownLenI F4 X6 hx hZ e6 (z := (2 : Int32)) (by decide) (g := (mkF m 17 #[rv a0, rv b2, iv (0 : Int32), iv (0 : Int32)] [(.ref ar), (.int (0 : Int32))])) rfl rfl (hb hby own_d9_17)) ?_
  refine ow_icmpNo (q := 21) X6 hx (hb hby own_d9_18) rfl (Jvm.Free.XT.ii_ge_f (by decide)) ?_
  refine ow_aloadN (q := 22) X6 hx (hb hby own_d9_21) rfl rfl rfl ?_
  refine ow_iloadN (q := 23) X6 hx (hb hby own_d9_22) rfl rfl ?_
  refine ow_iinc (q := 26) X6 hx (L' := #[rv a0, rv b2, iv (1 : Int32), iv (0 : Int32)]) (hb hby own_d9_23) rfl rfl rfl ?_
  refine ow_aloadN (q := 27) X6 hx (hb hby own_d9_26) rfl rfl rfl ?_
  obtain ⟨T7, X7, e7, st7⟩ := getF X6 hx hZ hown (host := "") (Or.inl (ww 48 rfl)) Via.refl e6 F3 (g := (mkF m 27 #[rv a0, rv b2, iv (1 : Int32), iv (0 : Int32)] [(.ref a0), (.int (0 : Int32)), (.ref b2)])) rfl rfl (hb hby own_d9_27)
  refine ownGo (T' := T7) (f' := (mkF m 30 #[rv a0, rv b2, iv (1 : Int32), iv (0 : Int32)] [(.ref ar), (.int (0 : Int32)), (.ref b2)])) (st7) ?_
  refine ow_iloadN (q := 31) X7 hx (hb hby own_d9_30) rfl rfl ?_
  refine ownGo (T' := T7) (f' := (mkF m 32 #[rv a0, rv b2, iv (1 : Int32), iv (0 : Int32)] [(.int (g 0)), (.int (0 : Int32)), (.ref b2)])) (ownIaload F4 X7 hx hZ e7 (j := (0 : Int32)) (by unfold ownIn; decide) (g := (mkF m 31 #[rv a0, rv b2, iv (1 : Int32), iv (0 : Int32)] [(.int (0 : Int32)), (.ref ar), (.int (0 : Int32)), (.ref b2)])) rfl rfl (hb hby own_d9_31)) ?_
  generalize hv_v8 : (g 0) = v8
  obtain ⟨T9, h9, X9, e9, W9, F9s, st9⟩ := ownIastore F5 X7 hx hZ e7 (j := (0 : Int32)) (by unfold ownIn; decide) (g := (mkF m 32 #[rv a0, rv b2, iv (1 : Int32), iv (0 : Int32)] [(.int v8), (.int (0 : Int32)), (.ref b2)])) rfl rfl (hb hby own_d9_32)
  have F9r : ownAI Z h9 b2 .int 2 (ownUpd (fun _ => (0 : Int32)) 0 v8) := F9s
  have N9 := Fr.snoc X9 N0 G_b2
  have K9 : Keep h0 h9 [] := K2.wr W9 (Or.inr sz_b2)
  have F10 : Fld Z h9 a0 "com/example/shapewright/shapewright/regex/CodePointSet" "ranges" "[I" (.ref ar) := F3.other W9 (Or.inl ne_a0_b2)
  have F11 : ownAI Z h9 ar .int 2 g := F4.other W9 ne_ar_b2
  have F12 : Exa Z h9 b2 "[I" := EA2.wr W9
  refine ownGo (T' := T9) (f' := (mkF m 33 #[rv a0, rv b2, iv (1 : Int32), iv (0 : Int32)] [])) (st9) ?_
  refine ow_aloadN (q := 34) X9 hx (hb hby own_d9_33) rfl rfl rfl ?_
  obtain ⟨T13, X13, e13, st13⟩ := getF X9 hx hZ hown (host := "") (Or.inl (ww 48 rfl)) Via.refl e9 F10 (g := (mkF m 34 #[rv a0, rv b2, iv (1 : Int32), iv (0 : Int32)] [(.ref a0)])) rfl rfl (hb hby own_d9_34)
  refine ownGo (T' := T13) (f' := (mkF m 37 #[rv a0, rv b2, iv (1 : Int32), iv (0 : Int32)] [(.ref ar)])) (st13) ?_
  refine ow_iloadN (q := 38) X13 hx (hb hby own_d9_37) rfl rfl ?_
  refine ow_iconst (q := 39) X13 hx (1 : Int32) (hb hby own_d9_38) rfl rfl ?_
  refine ow_iadd (q := 40) X13 hx (1 : Int32) (hb hby own_d9_39) rfl (by decide) ?_
  refine ownGo (T' := T13) (f' := (mkF m 41 #[rv a0, rv b2, iv (1 : Int32), iv (0 : Int32)] [(.int (g 1))])) (ownIaload F11 X13 hx hZ e13 (j := (1 : Int32)) (by unfold ownIn; decide) (g := (mkF m 40 #[rv a0, rv b2, iv (1 : Int32), iv (0 : Int32)] [(.int (1 : Int32)), (.ref ar)])) rfl rfl (hb hby own_d9_40)) ?_
  generalize hv_v14 : (g 1) = v14
  refine ownGo (T' := T13) (f' := (mkF m 43 #[rv a0, rv b2, iv (1 : Int32), iv (0 : Int32)] [(.int (1114111 : Int32)), (.int v14)])) (X13.ldcInt hx hown (mvT hZ (ww 55 rfl)) (g := (mkF m 41 #[rv a0, rv b2, iv (1 : Int32), iv (0 : Int32)] [(.int v14)])) rfl (hb hby own_d9_41)) ?_
  refine ow_icmpYes (q := 62) X13 hx (hb hby own_d9_43) (Jvm.Free.XT.ii_ge_t (by first | exact hl1 | (rw [hv_v14] at hl1; exact hl1))) (by decide) (by decide) ?_
  refine ow_iinc (q := 65) X13 hx (L' := #[rv a0, rv b2, iv (1 : Int32), iv (2 : Int32)]) (hb hby own_d9_62) rfl rfl rfl ?_
  refine ow_goto (q := 12) X13 hx (hb hby own_d9_65) (by decide) (by decide) ?_
  refine ow_iloadN (q := 13) X13 hx (hb hby own_d9_12) rfl rfl ?_
  refine ow_aloadN (q := 14) X13 hx (hb hby own_d9_13) rfl rfl rfl ?_
  obtain ⟨T15, X15, e15, st15⟩ := getF X13 hx hZ hown (host := "") (Or.inl (ww 48 rfl)) Via.refl e13 F10 (g := (mkF m 14 #[rv a0, rv b2, iv (1 : Int32), iv (2 : Int32)] [(.ref a0), (.int (2 : Int32))])) rfl rfl (hb hby own_d9_14)
  refine ownGo (T' := T15) (f' := (mkF m 17 #[rv a0, rv b2, iv (1 : Int32), iv (2 : Int32)] [(.ref ar), (.int (2 : Int32))])) (st15) ?_
  refine ownGo (T' := T15) (f' := (mkF m 18 #[rv a0, rv b2, iv (1 : Int32), iv (2 : Int32)] [(.int (2 : Int32)), (.int (2 : Int32))])) (ownLenI F11 X15 hx hZ e15 (z := (2 : Int32)) (by decide) (g := (mkF m 17 #[rv a0, rv b2, iv (1 : Int32), iv (2 : Int32)] [(.ref ar), (.int (2 : Int32))])) rfl rfl (hb hby own_d9_17)) ?_
  refine ow_icmpYes (q := 68) X15 hx (hb hby own_d9_18) (Jvm.Free.XT.ii_ge_t (by decide)) (by decide) (by decide) ?_
  refine ow_aloadN (q := 69) X15 hx (hb hby own_d9_68) rfl rfl rfl ?_
  refine ow_iloadN (q := 70) X15 hx (hb hby own_d9_69) rfl rfl ?_
  obtain ⟨_, _, ⟨T16, L16, k16, n16⟩, -, X16, ⟨Lc16, hQ16, l16, y16, z16⟩, st16⟩ := Jvm.LawKit.callS X15 hx (y := (⟨"java/util/Arrays", "copyOf", "([II)[I"⟩ : MethodName)) hown (mvT hZ (ww 56 rfl)) (mvT hZ (ww 34 rfl)) (mvT hZ (ww 35 rfl)) (mvT hZ (ww 36 rfl)) (by decide) (backOf (W := 0) (rm_copyOf_2_1 l Z av0 hw [] b2 (ownUpd (fun _ => (0 : Int32)) 0 v8) h9 n0 (Nat.le_trans Z0 K9.1) F9r) hZ (ww 36 rfl) (ww 35 rfl) (by decide) (by decide)) (g := (mkF m 70 #[rv a0, rv b2, iv (1 : Int32), iv (2 : Int32)] [(.int (1 : Int32)), (.ref b2)])) rfl (by rw [hml]; rfl) (argsL := [(.ref b2), (.int (1 : Int32))]) (rest := []) (lenOf own_pd1 rfl) rfl (by show 2 * 0 + _ ≤ _; exact Nat.le_of_eq rfl) (hb hby own_d9_70) (fun _ _ => ⟨rfl, e15, (by decide : 1 + 1 ≤ _), (by decide : 2 + 1 ≤ _)⟩)
  dsimp only [Pt.U, Pt.locs, Pt.cells, Pt.slots] at X16 l16 y16 z16 st16 hQ16
  subst l16 y16 z16
  obtain ⟨b16, rfl, N16q, Kq16, sq16_b16, FP16_0⟩ := hQ16
  have N16 := Fr.app N9 N16q
  have K16 : Keep h0 T16.heap [] := K9.trans Kq16 all0
  have ne_a0_b16 : a0 ≠ b16 := Nat.ne_of_lt (Nat.lt_of_lt_of_le F10.lt sq16_b16)
  have ne_ar_b16 : ar ≠ b16 := Nat.ne_of_lt (Nat.lt_of_lt_of_le F11.lt sq16_b16)
  have ne_b2_b16 : b2 ≠ b16 := Nat.ne_of_lt (Nat.lt_of_lt_of_le F12.lt sq16_b16)
  have sz_b16 : h0.size ≤ b16 := Nat.le_trans K9.1 sq16_b16
  have G_b16 : n0 ≤ b16 := Nat.le_trans Z0 sz_b16
  have F17 : Fld Z T16.heap a0 "com/example/shapewright/shapewright/regex/CodePointSet" "ranges" "[I" (.ref ar) := F10.keep Kq16 nin0
  have F18 : ownAI Z T16.heap ar .int 2 g := F11.keep Kq16 nin0
  have F19 : Exa Z T16.heap b2 "[I" := F12.keep Kq16
  have F20 : ownAI Z T16.heap b2 .int 2 (ownUpd (fun _ => (0 : Int32)) 0 v8) := F9r.keep Kq16 nin0
  refine ownGo (T' := T16) (f' := (mkF m 73 #[rv a0, rv b2, iv (1 : Int32), iv (2 : Int32)] [(.ref b16)])) (st16) ?_
  refine ownRetR X16 hx rfl rfl rfl Bd.returns (hb hby own_d9_73) hlk (by decide) (by decide) ?_
  subst hv_v14 hv_v8
  exact ⟨b16, rfl, N16, K16, sz_b16, FP16_0⟩
theorem own_ef5_build_4 (m : MethodId) (a0 : Addr) : entryFrame m #[(.ref a0)] 1 = mkF m 0 #[rv a0] [] := by first | (simp [entryFrame, mkF, argsToLocals, Value.category]; done) | rfl
def Q_build_4 (Z : State) (a0 : Addr) (ar : Addr) (g : Nat → Int32) (h0 : Heap) (n0 : Nat) (v : Option Value) (h : Heap) (L : List Loc) : Prop := ∃ (r : Addr) (ar2 : Addr), v = some (.ref r) ∧ Fr n0 L ∧ Keep h0 h [] ∧ h0.size ≤ r ∧ h0.size ≤ ar2 ∧ Exa Z h r "com/example/shapewright/shapewright/regex/CodePointSet" ∧ Fld Z h r "com/example/shapewright/shapewright/regex/CodePointSet" "ranges" "[I" (.ref ar2) ∧ ownAI Z h ar2 .int 4 g ∧ (r ≠ ar2)
set_option maxRecDepth 65536 in
set_option maxHeartbeats 40000000 in
theorem rm_build_4 (l : Launch) (Z : State) (av0 : Array Value) (hw : ∀ d ∈ tables_1, d.before av0 Z = true) (ws : List Jvm.Cond) (a0 : Addr) (ar : Addr) (g : Nat → Int32) (h0 : Heap) (n0 : Nat) (Z0 : n0 ≤ h0.size) (HF0 : Fld Z h0 a0 "com/example/shapewright/shapewright/regex/CodePointSet$Builder" "ranges" "[I" (.ref ar)) (HF1 : Fld Z h0 a0 "com/example/shapewright/shapewright/regex/CodePointSet$Builder" "length" "I" (.int (4 : Int32))) (HF2 : ownAI Z h0 ar .int 16 g) :
    MetFree l (⟨"com/example/shapewright/shapewright/regex/CodePointSet$Builder", "build", "()Lcom/example/shapewright/shapewright/regex/CodePointSet;"⟩ : MethodName) (head1 (Jvm.Cond.code (⟨"com/example/shapewright/shapewright/regex/CodePointSet$Builder", "build", "()Lcom/example/shapewright/shapewright/regex/CodePointSet;"⟩ : MethodName) prog_19_method_3_code 1 (some (.object "com/example/shapewright/shapewright/regex/CodePointSet")) :: ws) ({ frames := 2, cells := 2, slots := 5, locals := 34 } : Room)) (fun a U => a = #[(.ref a0)] ∧ Z.Warmed39 U.vm ∧ U.heap = h0) (fun _ _ _ _ _ => True) (fun _ U o U' => ∃ v L, o = .returned v ∧ (Q_build_4 Z a0 ar g h0 n0) v U'.heap L ∧ FrameEnd U o U' L ({ frames := 2, cells := 2, slots := 5, locals := 34 } : Room).cells ({ frames := 2, cells := 2, slots := 5, locals := 34 } : Room).slots) := by
  refine MetFree.of_bodySF (plainFor_of_name own_pn_CodePointSet_Builder) hisR ?_
  intro p e s m args below meth c s₁ Bd hml0 hP hK
  obtain ⟨rfl, hZ, hh⟩ := hP
  have hx := Bd.exec
  have hby := Bd.bytes
  have hml : c.maxLocals = 1 := hml0
  have hown : s.vm.findClass "com/example/shapewright/shapewright/regex/CodePointSet$Builder" = some m.cls := findClass_of_methodNamed Bd.named
  have hnm := (name_of_methodNamed Bd.named Bd.method).1
  have hlk : meth.locks = false := BodyLoose.notSynchronized Bd
  have X0 : Stand p l e ({ frames := 2, cells := 2, slots := 5, locals := 34 } : Room) s m #[(.ref a0)] below meth c s₁ [] 0 0 := Stand.of_body Bd
  have e0 : s₁.heap = h0 := by rw [← hh, Bd.state]; rfl
  have N0 := Fr.nil n0
  have K0 : Keep h0 h0 [] := Keep.refl _ _
  have ww : ∀ (k : Nat) {d : Jvm.Cond}, tables_1[k]? = some d → d.before av0 Z = true := fun k d h => hw d (List.mem_of_getElem? h)
  show ownEnds p e below s (Q_build_4 Z a0 ar g h0 n0) ({ frames := 2, cells := 2, slots := 5, locals := 34 } : Room).cells ({ frames := 2, cells := 2, slots := 5, locals := 34 } : Room).slots s₁ (entryFrame m #[(.ref a0)] 1)
  refine ownCast (own_ef5_build_4 m a0) ?_
  obtain ⟨T1, h1, X1, e1, E1, A1, D1, -, st1⟩ := newO X0 hx hZ hown (ww 30 rfl) (ww 31 rfl) (ww 32 rfl) e0 (g := (mkF m 0 #[rv a0] [])) rfl (hb hby own_d5_0) (by decide) (by decide)
  obtain ⟨b1, g1⟩ : ∃ z, z = h0.size := ⟨_, rfl⟩
  rw [← g1] at A1 D1 st1
  have ne_a0_b1 : a0 ≠ b1 := Nat.ne_of_lt (Nat.lt_of_lt_of_le HF0.lt (Nat.le_of_eq g1.symm))
  have ne_ar_b1 : ar ≠ b1 := Nat.ne_of_lt (Nat.lt_of_lt_of_le HF2.lt (Nat.le_of_eq g1.symm))
  have sz_b1 : h0.size ≤ b1 := Nat.le_trans K0.1 (Nat.le_of_eq g1.symm)
  have G_b1 : n0 ≤ b1 := Nat.le_trans Z0 sz_b1
  have K1 : Keep h0 h1 [] := K0.ext E1
  have F2 : Fld Z h1 a0 "com/example/shapewright/shapewright/regex/CodePointSet$Builder" "ranges" "[I" (.ref ar) := HF0.ext E1
  have F3 : Fld Z h1 a0 "com/example/shapewright/shapewright/regex/CodePointSet$Builder" "length" "I" (.int (4 : Int32)) := HF1.ext E1
  have F4 : ownAI Z h1 ar .int 16 g := HF2.ext E1
  have F5 : Fld Z h1 b1 "com/example/shapewright/shapewright/regex/CodePointSet" "ranges" "[I" .null := D1 (Or.inr (ww 49 rfl)) (ty := (.array .int)) (by decide)
  refine ownGo (T' := T1) (f' := (mkF m 3 #[rv a0] [(.ref b1)])) (st1) ?_
  refine ow_dup (q := 4) X1 hx (hb hby own_d5_3) rfl rfl ?_
  refine ow_aloadN (q := 5) X1 hx (hb hby own_d5_4) rfl rfl rfl ?_
  obtain ⟨T6, X6, e6, st6⟩ := getF X1 hx hZ hown (host := "") (Or.inl (ww 12 rfl)) Via.refl e1 F2 (g := (mkF m 5 #[rv a0] [(.ref a0), (.ref b1), (.ref b1)])) rfl rfl (hb hby own_d5_5)
  refine ownGo (T' := T6) (f' := (mkF m 8 #[rv a0] [(.ref ar), (.ref b1), (.ref b1)])) (st6) ?_
  refine ow_aloadN (q := 9) X6 hx (hb hby own_d5_8) rfl rfl rfl ?_
  obtain ⟨T7, X7, e7, st7⟩ := getF X6 hx hZ hown (host := "") (Or.inl (ww 19 rfl)) Via.refl e6 F3 (g := (mkF m 9 #[rv a0] [(.ref a0), (.ref ar), (.ref b1), (.ref b1)])) rfl rfl (hb hby own_d5_9)
  refine ownGo (T' := T7) (f' := (mkF m 12 #[rv a0] [(.int (4 : Int32)), (.ref ar), (.ref b1), (.ref b1)])) (st7) ?_
  obtain ⟨_, _, ⟨T8, L8, k8, n8⟩, -, X8, ⟨Lc8, hQ8, l8, y8, z8⟩, st8⟩ := Jvm.LawKit.callS X7 hx (y := (⟨"java/util/Arrays", "copyOf", "([II)[I"⟩ : MethodName)) hown (mvT hZ (ww 33 rfl)) (mvT hZ (ww 34 rfl)) (mvT hZ (ww 35 rfl)) (mvT hZ (ww 36 rfl)) (by decide) (backOf (W := 2) (rm_copyOf_16_4 l Z av0 hw [] ar g h1 n0 (Nat.le_trans Z0 K1.1) F4) hZ (ww 36 rfl) (ww 35 rfl) (by decide) (by decide)) (g := (mkF m 12 #[rv a0] [(.int (4 : Int32)), (.ref ar), (.ref b1), (.ref b1)])) rfl (by rw [hml]; rfl) (argsL := [(.ref ar), (.int (4 : Int32))]) (rest := [(.ref b1), (.ref b1)]) (lenOf own_pd1 rfl) rfl (by show 2 * 0 + _ ≤ _; exact Nat.le_of_eq rfl) (hb hby own_d5_12) (fun _ _ => ⟨rfl, e7, (by decide : 1 + 1 ≤ _), (by decide : 1 + 4 ≤ _)⟩)
  dsimp only [Pt.U, Pt.locs, Pt.cells, Pt.slots] at X8 l8 y8 z8 st8 hQ8
  subst l8 y8 z8
  obtain ⟨b8, rfl, N8q, Kq8, sq8_b8, FP8_0⟩ := hQ8
  have N8 := Fr.app N0 N8q
  have K8 : Keep h0 T8.heap [] := K1.trans Kq8 all0
  have ne_a0_b8 : a0 ≠ b8 := Nat.ne_of_lt (Nat.lt_of_lt_of_le F2.lt sq8_b8)
  have ne_ar_b8 : ar ≠ b8 := Nat.ne_of_lt (Nat.lt_of_lt_of_le F4.lt sq8_b8)
  have ne_b1_b8 : b1 ≠ b8 := Nat.ne_of_lt (Nat.lt_of_lt_of_le A1.lt sq8_b8)
  have sz_b8 : h0.size ≤ b8 := Nat.le_trans K1.1 sq8_b8
  have G_b8 : n0 ≤ b8 := Nat.le_trans Z0 sz_b8
  have F9 : Fld Z T8.heap a0 "com/example/shapewright/shapewright/regex/CodePointSet$Builder" "ranges" "[I" (.ref ar) := F2.keep Kq8 nin0
  have F10 : Fld Z T8.heap a0 "com/example/shapewright/shapewright/regex/CodePointSet$Builder" "length" "I" (.int (4 : Int32)) := F3.keep Kq8 nin0
  have F11 : ownAI Z T8.heap ar .int 16 g := F4.keep Kq8 nin0
  have F12 : Exa Z T8.heap b1 "com/example/shapewright/shapewright/regex/CodePointSet" := A1.keep Kq8
  have F13 : Fld Z T8.heap b1 "com/example/shapewright/shapewright/regex/CodePointSet" "ranges" "[I" .null := F5.keep Kq8 nin0
  refine ownGo (T' := T8) (f' := (mkF m 15 #[rv a0] [(.ref b8), (.ref b1), (.ref b1)])) (st8) ?_
  obtain ⟨_, _, ⟨T14, L14, k14, n14⟩, -, X14, ⟨Lc14, hQ14, l14, y14, z14⟩, st14⟩ := X8.specialBackNest hx (y := (⟨"com/example/shapewright/shapewright/regex/CodePointSet", "<init>", "([I)V"⟩ : MethodName)) rfl hown (Cond.methodLinkNest_wide hZ (ww 44 rfl) :) (mvT hZ (ww 45 rfl)) (mvT hZ (ww 46 rfl)) (by decide) (backOf (W := 1) (rm_cinit l Z av0 hw [] b1 b8 T8.heap n0 (Nat.le_trans Z0 K8.1) F12 F13 G_b1) hZ (ww 46 rfl) (ww 32 rfl) (by decide) (by decide)) (g := (mkF m 15 #[rv a0] [(.ref b8), (.ref b1), (.ref b1)])) rfl (by rw [hml]; rfl) (Steps.refl _) (a := b1) (argsL := [(.ref b8)]) (rest := [(.ref b1)]) (lenOf own_pd2 rfl) rfl (by show 2 * 0 + _ ≤ _; exact Nat.le_of_eq rfl) (hb hby own_d5_15) (fun _ _ => ⟨rfl, rfl, (by decide : 2 + 0 ≤ _), (by decide : 5 + 0 ≤ _)⟩)
  dsimp only [Pt.U, Pt.locs, Pt.cells, Pt.slots] at X14 l14 y14 z14 st14 hQ14
  subst l14 y14 z14
  obtain ⟨rfl, N14q, Kq14, FP14_0, FP14_1⟩ := hQ14
  have N14 := Fr.app N8 N14q
  have K14 : Keep h0 T14.heap [] := K8.trans Kq14 (allS (Or.inr sz_b1) all0)
  have F15 : Fld Z T14.heap a0 "com/example/shapewright/shapewright/regex/CodePointSet$Builder" "ranges" "[I" (.ref ar) := F9.keep Kq14 (ninS ne_a0_b1 nin0)
  have F16 : Fld Z T14.heap a0 "com/example/shapewright/shapewright/regex/CodePointSet$Builder" "length" "I" (.int (4 : Int32)) := F10.keep Kq14 (ninS ne_a0_b1 nin0)
  have F17 : ownAI Z T14.heap ar .int 16 g := F11.keep Kq14 (ninS ne_ar_b1 nin0)
  have F18 : Exa Z T14.heap b1 "com/example/shapewright/shapewright/regex/CodePointSet" := F12.keep Kq14
  have F19 : ownAI Z T14.heap b8 .int 4 g := FP8_0.keep Kq14 (ninS (Ne.symm ne_b1_b8) nin0)
  refine ownRun (T' := T14) (f' := (mkF m 18 #[rv a0] [(.ref b1)])) st14 ?_
  refine ownRetR X14 hx rfl rfl rfl Bd.returns (hb hby own_d5_18) hlk (by decide) (by decide) ?_
  refine ⟨b1, b8, rfl, N14, K14, sz_b1, sz_b8, FP14_0, FP14_1, F19, ?_⟩
  exact ne_b1_b8
theorem own_ef9_edges_4_l (m : MethodId) (a0 : Addr) : entryFrame m #[(.ref a0)] 4 = mkF m 0 #[rv a0, .unset, .unset, .unset] [] := by first | (simp [entryFrame, mkF, argsToLocals, Value.category]; done) | rfl
def Q_edges_4_l (Z : State) (a0 : Addr) (ar : Addr) (g : Nat → Int32) (h0 : Heap) (n0 : Nat) (v : Option Value) (h : Heap) (L : List Loc) : Prop := ∃ (r : Addr), v = some (.ref r) ∧ Fr n0 L ∧ Keep h0 h [] ∧ h0.size ≤ r ∧ ownAI Z h r .int 4 (ownUpd (ownUpd (ownUpd (ownUpd (fun _ => (0 : Int32)) 0 (g 0)) 1 ((g 1) + (1 : Int32))) 2 (g 2)) 3 ((g 3) + (1 : Int32)))
set_option maxRecDepth 65536 in
set_option maxHeartbeats 40000000 in
theorem rm_edges_4_l (l : Launch) (Z : State) (av0 : Array Value) (hw : ∀ d ∈ tables_1, d.before av0 Z = true) (ws : List Jvm.Cond) (a0 : Addr) (ar : Addr) (g : Nat → Int32) (h0 : Heap) (n0 : Nat) (Z0 : n0 ≤ h0.size) (HF0 : Fld Z h0 a0 "com/example/shapewright/shapewright/regex/CodePointSet" "ranges" "[I" (.ref ar)) (HF1 : ownAI Z h0 ar .int 4 g) (hl1 : (g 1) < (1114111 : Int32)) (hl3 : (g 3) < (1114111 : Int32)) :
    MetFree l (⟨"com/example/shapewright/shapewright/regex/CodePointSet", "edges", "()[I"⟩ : MethodName) (head1 (Jvm.Cond.code (⟨"com/example/shapewright/shapewright/regex/CodePointSet", "edges", "()[I"⟩ : MethodName) prog_18_method_7_code 4 (some (.array .int)) :: ws) ({ frames := 2, cells := 2, slots := 8, locals := 28 } : Room)) (fun a U => a = #[(.ref a0)] ∧ Z.Warmed39 U.vm ∧ U.heap = h0) (fun _ _ _ _ _ => True) (fun _ U o U' => ∃ v L, o = .returned v ∧ (Q_edges_4_l Z a0 ar g h0 n0) v U'.heap L ∧ FrameEnd U o U' L ({ frames := 2, cells := 2, slots := 8, locals := 28 } : Room).cells ({ frames := 2, cells := 2, slots := 8, locals := 28 } : Room).slots) := by
  refine MetFree.of_bodySF (plainFor_of_name own_pn_CodePointSet) hisR ?_
  intro p e s m args below meth c s₁ Bd hml0 hP hK
  obtain ⟨rfl, hZ, hh⟩ := hP
  have hx := Bd.exec
  have hby := Bd.bytes
  have hml : c.maxLocals = 4 := hml0
  have hown : s.vm.findClass "com/example/shapewright/shapewright/regex/CodePointSet" = some m.cls := findClass_of_methodNamed Bd.named
  have hnm := (name_of_methodNamed Bd.named Bd.method).1
  have hlk : meth.locks = false := BodyLoose.notSynchronized Bd
  have X0 : Stand p l e ({ frames := 2, cells := 2, slots := 8, locals := 28 } : Room) s m #[(.ref a0)] below meth c s₁ [] 0 0 := Stand.of_body Bd
  have e0 : s₁.heap = h0 := by rw [← hh, Bd.state]; rfl
  have N0 := Fr.nil n0
  have K0 : Keep h0 h0 [] := Keep.refl _ _
  have ww : ∀ (k : Nat) {d : Jvm.Cond}, tables_1[k]? = some d → d.before av0 Z = true := fun k d h => hw d (List.mem_of_getElem? h)
  show ownEnds p e below s (Q_edges_4_l Z a0 ar g h0 n0) ({ frames := 2, cells := 2, slots := 8, locals := 28 } : Room).cells ({ frames := 2, cells := 2, slots := 8, locals := 28 } : Room).slots s₁ (entryFrame m #[(.ref a0)] 4)
  refine ownCast (own_ef9_edges_4_l m a0) ?_
  refine ow_aloadN (q := 1) X0 hx (hb hby own_d9_0) rfl rfl rfl ?_
  obtain ⟨T1, X1, e1, st1⟩ := getF X0 hx hZ hown (host := "") (Or.inl (ww 48 rfl)) Via.refl e0 HF0 (g := (mkF m 1 #[rv a0, .unset, .unset, .unset] [(.ref a0)])) rfl rfl (hb hby own_d9_1)
  refine ownGo (T' := T1) (f' := (mkF m 4 #[rv a0, .unset, .unset, .unset] [(.ref ar)])) (st1) ?_
  refine ownGo (T' := T1) (f' := (mkF m 5 #[rv a0, .unset, .unset, .unset] [(.int (4 : Int32))])) (ownLenI HF1 X1 hx hZ e1 (z := (4 : Int32)) (by decide) (g := (mkF m 4 #[rv a0, .unset, .unset, .unset] [(.ref ar)])) rfl rfl (hb hby own_d9_4)) ?_
  obtain ⟨T2, h2, k2, X2, e2, E2, A2, EA2, st2⟩ := newPE X1 hx hZ (ww 2 rfl) e1 (g := (mkF m 5 #[rv a0, .unset, .unset, .unset] [(.int (4 : Int32))])) rfl (hb hby own_d9_5) rfl (by decide) (cap := 4) (by decide) (by decide) (by decide) (by decide) (ad := "[I") (by decide)
  obtain ⟨b2, g2⟩ : ∃ z, z = h0.size := ⟨_, rfl⟩
  rw [← g2] at A2 st2 EA2
  have ne_a0_b2 : a0 ≠ b2 := Nat.ne_of_lt (Nat.lt_of_lt_of_le HF0.lt (Nat.le_of_eq g2.symm))
  have ne_ar_b2 : ar ≠ b2 := Nat.ne_of_lt (Nat.lt_of_lt_of_le HF1.lt (Nat.le_of_eq g2.symm))
  have sz_b2 : h0.size ≤ b2 := Nat.le_trans K0.1 (Nat.le_of_eq g2.symm)
  have G_b2 : n0 ≤ b2 := Nat.le_trans Z0 sz_b2
  have K2 : Keep h0 h2 [] := K0.ext E2
  have F3 : Fld Z h2 a0 "com/example/shapewright/shapewright/regex/CodePointSet" "ranges" "[I" (.ref ar) := HF0.ext E2
  have F4 : ownAI Z h2 ar .int 4 g := HF1.ext E2
  have F5 : ownAI Z h2 b2 .int 4 (fun _ => (0 : Int32)) := ownAI.new A2 (by decide) rfl (by decide)
  refine ownGo (T' := T2) (f' := (mkF m 7 #[rv a0, .unset, .unset, .unset] [(.ref b2)])) (st2) ?_
  refine ow_astoreN (q := 8) X2 hx (L' := #[rv a0, rv b2, .unset, .unset]) (hb hby own_d9_7) rfl rfl rfl ?_
  refine ow_iconst (q := 9) X2 hx (0 : Int32) (hb hby own_d9_8) rfl rfl ?_
  refine ow_istoreN (q := 10) X2 hx (L' := #[rv a0, rv b2, iv (0 : Int32), .unset]) (hb hby own_d9_9) rfl rfl ?_
  refine ow_iconst (q := 11) X2 hx (0 : Int32) (hb hby own_d9_10) rfl rfl ?_
  refine ow_istoreN (q := 12) X2 hx (L' := #[rv a0, rv b2, iv (0 : Int32), iv (0 : Int32)]) (hb hby own_d9_11) rfl rfl ?_
  refine ow_iloadN (q := 13) X2 hx (hb hby own_d9_12) rfl rfl ?_
  refine ow_aloadN (q := 14) X2 hx (hb hby own_d9_13) rfl rfl rfl ?_
  obtain ⟨T6, X6, e6, st6⟩ := getF X2 hx hZ hown (host := "") (Or.inl (ww 48 rfl)) Via.refl e2 F3 (g := (mkF m 14 #[rv a0, rv b2, iv (0 : Int32), iv (0 : Int32)] [(.ref a0), (.int (0 : Int32))])) rfl rfl (hb hby own_d9_14)
  refine ownGo (T' := T6) (f' := (mkF m 17 #[rv a0, rv b2, iv (0 : Int32), iv (0 : Int32)] [(.ref ar), (.int (0 : Int32))])) (st6) ?_
  refine ownGo (T' := T6) (f' := (mkF m 18 #[rv a0, rv b2, iv (0 : Int32), iv (0 : Int32)] [(.int (4 : Int32)), (.int (0 : Int32))])) (ownLenI F4 X6 hx hZ e6 (z := (4 : Int32)) (by decide) (g := (mkF m 17 #[rv a0, rv b2, iv (0 : Int32), iv (0 : Int32)] [(.ref ar), (.int (0 : Int32))])) rfl rfl (hb hby own_d9_17)) ?_
  refine ow_icmpNo (q := 21) X6 hx (hb hby own_d9_18) rfl (Jvm.Free.XT.ii_ge_f (by decide)) ?_
  refine ow_aloadN (q := 22) X6 hx (hb hby own_d9_21) rfl rfl rfl ?_
  refine ow_iloadN (q := 23) X6 hx (hb hby own_d9_22) rfl rfl ?_
  refine ow_iinc (q := 26) X6 hx (L' := #[rv a0, rv b2, iv (1 : Int32), iv (0 : Int32)]) (hb hby own_d9_23) rfl rfl rfl ?_
  refine ow_aloadN (q := 27) X6 hx (hb hby own_d9_26) rfl rfl rfl ?_
  obtain ⟨T7, X7, e7, st7⟩ := getF X6 hx hZ hown (host := "") (Or.inl (ww 48 rfl)) Via.refl e6 F3 (g := (mkF m 27 #[rv a0, rv b2, iv (1 : Int32), iv (0 : Int32)] [(.ref a0), (.int (0 : Int32)), (.ref b2)])) rfl rfl (hb hby own_d9_27)
  refine ownGo (T' := T7) (f' := (mkF m 30 #[rv a0, rv b2, iv (1 : Int32), iv (0 : Int32)] [(.ref ar), (.int (0 : Int32)), (.ref b2)])) (st7) ?_
  refine ow_iloadN (q := 31) X7 hx (hb hby own_d9_30) rfl rfl ?_
  refine ownGo (T' := T7) (f' := (mkF m 32 #[rv a0, rv b2, iv (1 : Int32), iv (0 : Int32)] [(.int (g 0)), (.int (0 : Int32)), (.ref b2)])) (ownIaload F4 X7 hx hZ e7 (j := (0 : Int32)) (by unfold ownIn; decide) (g := (mkF m 31 #[rv a0, rv b2, iv (1 : Int32), iv (0 : Int32)] [(.int (0 : Int32)), (.ref ar), (.int (0 : Int32)), (.ref b2)])) rfl rfl (hb hby own_d9_31)) ?_
  generalize hv_v8 : (g 0) = v8
  obtain ⟨T9, h9, X9, e9, W9, F9s, st9⟩ := ownIastore F5 X7 hx hZ e7 (j := (0 : Int32)) (by unfold ownIn; decide) (g := (mkF m 32 #[rv a0, rv b2, iv (1 : Int32), iv (0 : Int32)] [(.int v8), (.int (0 : Int32)), (.ref b2)])) rfl rfl (hb hby own_d9_32)
  have F9r : ownAI Z h9 b2 .int 4 (ownUpd (fun _ => (0 : Int32)) 0 v8) := F9s
  have N9 := Fr.snoc X9 N0 G_b2
  have K9 : Keep h0 h9 [] := K2.wr W9 (Or.inr sz_b2)
  have F10 : Fld Z h9 a0 "com/example/shapewright/shapewright/regex/CodePointSet" "ranges" "[I" (.ref ar) := F3.other W9 (Or.inl ne_a0_b2)
  have F11 : ownAI Z h9 ar .int 4 g := F4.other W9 ne_ar_b2
  have F12 : Exa Z h9 b2 "[I" := EA2.wr W9
  refine ownGo (T' := T9) (f' := (mkF m 33 #[rv a0, rv b2, iv (1 : Int32), iv (0 : Int32)] [])) (st9) ?_
  refine ow_aloadN (q := 34) X9 hx (hb hby own_d9_33) rfl rfl rfl ?_
  obtain ⟨T13, X13, e13, st13⟩ := getF X9 hx hZ hown (host := "") (Or.inl (ww 48 rfl)) Via.refl e9 F10 (g := (mkF m 34 #[rv a0, rv b2, iv (1 : Int32), iv (0 : Int32)] [(.ref a0)])) rfl rfl (hb hby own_d9_34)
  refine ownGo (T' := T13) (f' := (mkF m 37 #[rv a0, rv b2, iv (1 : Int32), iv (0 : Int32)] [(.ref ar)])) (st13) ?_
  refine ow_iloadN (q := 38) X13 hx (hb hby own_d9_37) rfl rfl ?_
  refine ow_iconst (q := 39) X13 hx (1 : Int32) (hb hby own_d9_38) rfl rfl ?_
  refine ow_iadd (q := 40) X13 hx (1 : Int32) (hb hby own_d9_39) rfl (by decide) ?_
  refine ownGo (T' := T13) (f' := (mkF m 41 #[rv a0, rv b2, iv (1 : Int32), iv (0 : Int32)] [(.int (g 1))])) (ownIaload F11 X13 hx hZ e13 (j := (1 : Int32)) (by unfold ownIn; decide) (g := (mkF m 40 #[rv a0, rv b2, iv (1 : Int32), iv (0 : Int32)] [(.int (1 : Int32)), (.ref ar)])) rfl rfl (hb hby own_d9_40)) ?_
  generalize hv_v14 : (g 1) = v14
  refine ownGo (T' := T13) (f' := (mkF m 43 #[rv a0, rv b2, iv (1 : Int32), iv (0 : Int32)] [(.int (1114111 : Int32)), (.int v14)])) (X13.ldcInt hx hown (mvT hZ (ww 55 rfl)) (g := (mkF m 41 #[rv a0, rv b2, iv (1 : Int32), iv (0 : Int32)] [(.int v14)])) rfl (hb hby own_d9_41)) ?_
  refine ow_icmpNo (q := 46) X13 hx (hb hby own_d9_43) rfl (Jvm.Free.XT.ii_ge_f (by first | exact hl1 | (rw [hv_v14] at hl1; exact hl1))) ?_
  refine ow_aloadN (q := 47) X13 hx (hb hby own_d9_46) rfl rfl rfl ?_
  refine ow_iloadN (q := 48) X13 hx (hb hby own_d9_47) rfl rfl ?_
  refine ow_iinc (q := 51) X13 hx (L' := #[rv a0, rv b2, iv (2 : Int32), iv (0 : Int32)]) (hb hby own_d9_48) rfl rfl rfl ?_
  refine ow_aloadN (q := 52) X13 hx (hb hby own_d9_51) rfl rfl rfl ?_
  obtain ⟨T15, X15, e15, st15⟩ := getF X13 hx hZ hown (host := "") (Or.inl (ww 48 rfl)) Via.refl e13 F10 (g := (mkF m 52 #[rv a0, rv b2, iv (2 : Int32), iv (0 : Int32)] [(.ref a0), (.int (1 : Int32)), (.ref b2)])) rfl rfl (hb hby own_d9_52)
  refine ownGo (T' := T15) (f' := (mkF m 55 #[rv a0, rv b2, iv (2 : Int32), iv (0 : Int32)] [(.ref ar), (.int (1 : Int32)), (.ref b2)])) (st15) ?_
  refine ow_iloadN (q := 56) X15 hx (hb hby own_d9_55) rfl rfl ?_
  refine ow_iconst (q := 57) X15 hx (1 : Int32) (hb hby own_d9_56) rfl rfl ?_
  refine ow_iadd (q := 58) X15 hx (1 : Int32) (hb hby own_d9_57) rfl (by decide) ?_
  refine ownGo (T' := T15) (f' := (mkF m 59 #[rv a0, rv b2, iv (2 : Int32), iv (0 : Int32)] [(.int (g 1)), (.int (1 : Int32)), (.ref b2)])) (ownIaload F11 X15 hx hZ e15 (j := (1 : Int32)) (by unfold ownIn; decide) (g := (mkF m 58 #[rv a0, rv b2, iv (2 : Int32), iv (0 : Int32)] [(.int (1 : Int32)), (.ref ar), (.int (1 : Int32)), (.ref b2)])) rfl rfl (hb hby own_d9_58)) ?_
  generalize hv_v16 : (g 1) = v16
  refine ow_iconst (q := 60) X15 hx (1 : Int32) (hb hby own_d9_59) rfl rfl ?_
  refine ow_iadd (q := 61) X15 hx _ (hb hby own_d9_60) rfl rfl ?_
  generalize hv_v17 : (v16 + (1 : Int32)) = v17
  obtain ⟨T18, h18, X18, e18, W18, F18s, st18⟩ := ownIastore F9r X15 hx hZ e15 (j := (1 : Int32)) (by unfold ownIn; decide) (g := (mkF m 61 #[rv a0, rv b2, iv (2 : Int32), iv (0 : Int32)] [(.int v17), (.int (1 : Int32)), (.ref b2)])) rfl rfl (hb hby own_d9_61)
  have F18r : ownAI Z h18 b2 .int 4 (ownUpd (ownUpd (fun _ => (0 : Int32)) 0 v8) 1 v17) := F18s
  have N18 := Fr.snoc X18 N9 G_b2
  have K18 : Keep h0 h18 [] := K9.wr W18 (Or.inr sz_b2)
  have F19 : Fld Z h18 a0 "com/example/shapewright/shapewright/regex/CodePointSet" "ranges" "[I" (.ref ar) := F10.other W18 (Or.inl ne_a0_b2)
  have F20 : ownAI Z h18 ar .int 4 g := F11.other W18 ne_ar_b2
  have F21 : Exa Z h18 b2 "[I" := F12.wr W18
  refine ownGo (T' := T18) (f' := (mkF m 62 #[rv a0, rv b2, iv (2 : Int32), iv (0 : Int32)] [])) (st18) ?_
  refine ow_iinc (q := 65) X18 hx (L' := #[rv a0, rv b2, iv (2 : Int32), iv (2 : Int32)]) (hb hby own_d9_62) rfl rfl rfl ?_
  refine ow_goto (q := 12) X18 hx (hb hby own_d9_65) (by decide) (by decide) ?_
  refine ow_iloadN (q := 13) X18 hx (hb hby own_d9_12) rfl rfl ?_
  refine ow_aloadN (q := 14) X18 hx (hb hby own_d9_13) rfl rfl rfl ?_
  obtain ⟨T22, X22, e22, st22⟩ := getF X18 hx hZ hown (host := "") (Or.inl (ww 48 rfl)) Via.refl e18 F19 (g := (mkF m 14 #[rv a0, rv b2, iv (2 : Int32), iv (2 : Int32)] [(.ref a0), (.int (2 : Int32))])) rfl rfl (hb hby own_d9_14)
  refine ownGo (T' := T22) (f' := (mkF m 17 #[rv a0, rv b2, iv (2 : Int32), iv (2 : Int32)] [(.ref ar), (.int (2 : Int32))])) (st22) ?_
  refine ownGo (T' := T22) (f' := (mkF m 18 #[rv a0, rv b2, iv (2 : Int32), iv (2 : Int32)] [(.int (4 : Int32)), (.int (2 : Int32))])) (ownLenI F20 X22 hx hZ e22 (z := (4 : Int32)) (by decide) (g := (mkF m 17 #[rv a0, rv b2, iv (2 : Int32), iv (2 : Int32)] [(.ref ar), (.int (2 : Int32))])) rfl rfl (hb hby own_d9_17)) ?_
  refine ow_icmpNo (q := 21) X22 hx (hb hby own_d9_18) rfl (Jvm.Free.XT.ii_ge_f (by decide)) ?_
  refine ow_aloadN (q := 22) X22 hx (hb hby own_d9_21) rfl rfl rfl ?_
  refine ow_iloadN (q := 23) X22 hx (hb hby own_d9_22) rfl rfl ?_
  refine ow_iinc (q := 26) X22 hx (L' := #[rv a0, rv b2, iv (3 : Int32), iv (2 : Int32)]) (hb hby own_d9_23) rfl rfl rfl ?_
  refine ow_aloadN (q := 27) X22 hx (hb hby own_d9_26) rfl rfl rfl ?_
  obtain ⟨T23, X23, e23, st23⟩ := getF X22 hx hZ hown (host := "") (Or.inl (ww 48 rfl)) Via.refl e22 F19 (g := (mkF m 27 #[rv a0, rv b2, iv (3 : Int32), iv (2 : Int32)] [(.ref a0), (.int (2 : Int32)), (.ref b2)])) rfl rfl (hb hby own_d9_27)
  refine ownGo (T' := T23) (f' := (mkF m 30 #[rv a0, rv b2, iv (3 : Int32), iv (2 : Int32)] [(.ref ar), (.int (2 : Int32)), (.ref b2)])) (st23) ?_
  refine ow_iloadN (q := 31) X23 hx (hb hby own_d9_30) rfl rfl ?_
  refine ownGo (T' := T23) (f' := (mkF m 32 #[rv a0, rv b2, iv (3 : Int32), iv (2 : Int32)] [(.int (g 2)), (.int (2 : Int32)), (.ref b2)])) (ownIaload F20 X23 hx hZ e23 (j := (2 : Int32)) (by unfold ownIn; decide) (g := (mkF m 31 #[rv a0, rv b2, iv (3 : Int32), iv (2 : Int32)] [(.int (2 : Int32)), (.ref ar), (.int (2 : Int32)), (.ref b2)])) rfl rfl (hb hby own_d9_31)) ?_
  generalize hv_v24 : (g 2) = v24
  obtain ⟨T25, h25, X25, e25, W25, F25s, st25⟩ := ownIastore F18r X23 hx hZ e23 (j := (2 : Int32)) (by unfold ownIn; decide) (g := (mkF m 32 #[rv a0, rv b2, iv (3 : Int32), iv (2 : Int32)] [(.int v24), (.int (2 : Int32)), (.ref b2)])) rfl rfl (hb hby own_d9_32)
  have F25r : ownAI Z h25 b2 .int 4 (ownUpd (ownUpd (ownUpd (fun _ => (0 : Int32)) 0 v8) 1 v17) 2 v24) := F25s
  have N25 := Fr.snoc X25 N18 G_b2
  have K25 : Keep h0 h25 [] := K18.wr W25 (Or.inr sz_b2)
  have F26 : Fld Z h25 a0 "com/example/shapewright/shapewright/regex/CodePointSet" "ranges" "[I" (.ref ar) := F19.other W25 (Or.inl ne_a0_b2)
  have F27 : ownAI Z h25 ar .int 4 g := F20.other W25 ne_ar_b2
  have F28 : Exa Z h25 b2 "[I" := F21.wr W25
  refine ownGo (T' := T25) (f' := (mkF m 33 #[rv a0, rv b2, iv (3 : Int32), iv (2 : Int32)] [])) (st25) ?_
  refine ow_aloadN (q := 34) X25 hx (hb hby own_d9_33) rfl rfl rfl ?_
  obtain ⟨T29, X29, e29, st29⟩ := getF X25 hx hZ hown (host := "") (Or.inl (ww 48 rfl)) Via.refl e25 F26 (g := (mkF m 34 #[rv a0, rv b2, iv (3 : Int32), iv (2 : Int32)] [(.ref a0)])) rfl rfl (hb hby own_d9_34)
  refine ownGo (T' := T29) (f' := (mkF m 37 #[rv a0, rv b2, iv (3 : Int32), iv (2 : Int32)] [(.ref ar)])) (st29) ?_
  refine ow_iloadN (q := 38) X29 hx (hb hby own_d9_37) rfl rfl ?_
  refine ow_iconst (q := 39) X29 hx (1 : Int32) (hb hby own_d9_38) rfl rfl ?_
  refine ow_iadd (q := 40) X29 hx (3 : Int32) (hb hby own_d9_39) rfl (by decide) ?_
  refine ownGo (T' := T29) (f' := (mkF m 41 #[rv a0, rv b2, iv (3 : Int32), iv (2 : Int32)] [(.int (g 3))])) (ownIaload F27 X29 hx hZ e29 (j := (3 : Int32)) (by unfold ownIn; decide) (g := (mkF m 40 #[rv a0, rv b2, iv (3 : Int32), iv (2 : Int32)] [(.int (3 : Int32)), (.ref ar)])) rfl rfl (hb hby own_d9_40)) ?_
  generalize hv_v30 : (g 3) = v30
  refine ownGo (T' := T29) (f' := (mkF m 43 #[rv a0, rv b2, iv (3 : Int32), iv (2 : Int32)] [(.int (1114111 : Int32)), (.int v30)])) (X29.ldcInt hx hown (mvT hZ (ww 55 rfl)) (g := (mkF m 41 #[rv a0, rv b2, iv (3 : Int32), iv (2 : Int32)] [(.int v30)])) rfl (hb hby own_d9_41)) ?_
  refine ow_icmpNo (q := 46) X29 hx (hb hby own_d9_43) rfl (Jvm.Free.XT.ii_ge_f (by first | exact hl3 | (rw [hv_v30] at hl3; exact hl3))) ?_
  refine ow_aloadN (q := 47) X29 hx (hb hby own_d9_46) rfl rfl rfl ?_
  refine ow_iloadN (q := 48) X29 hx (hb hby own_d9_47) rfl rfl ?_
  refine ow_iinc (q := 51) X29 hx (L' := #[rv a0, rv b2, iv (4 : Int32), iv (2 : Int32)]) (hb hby own_d9_48) rfl rfl rfl ?_
  refine ow_aloadN (q := 52) X29 hx (hb hby own_d9_51) rfl rfl rfl ?_
  obtain ⟨T31, X31, e31, st31⟩ := getF X29 hx hZ hown (host := "") (Or.inl (ww 48 rfl)) Via.refl e29 F26 (g := (mkF m 52 #[rv a0, rv b2, iv (4 : Int32), iv (2 : Int32)] [(.ref a0), (.int (3 : Int32)), (.ref b2)])) rfl rfl (hb hby own_d9_52)
  refine ownGo (T' := T31) (f' := (mkF m 55 #[rv a0, rv b2, iv (4 : Int32), iv (2 : Int32)] [(.ref ar), (.int (3 : Int32)), (.ref b2)])) (st31) ?_
  refine ow_iloadN (q := 56) X31 hx (hb hby own_d9_55) rfl rfl ?_
  refine ow_iconst (q := 57) X31 hx (1 : Int32) (hb hby own_d9_56) rfl rfl ?_
  refine ow_iadd (q := 58) X31 hx (3 : Int32) (hb hby own_d9_57) rfl (by decide) ?_
  refine ownGo (T' := T31) (f' := (mkF m 59 #[rv a0, rv b2, iv (4 : Int32), iv (2 : Int32)] [(.int (g 3)), (.int (3 : Int32)), (.ref b2)])) (ownIaload F27 X31 hx hZ e31 (j := (3 : Int32)) (by unfold ownIn; decide) (g := (mkF m 58 #[rv a0, rv b2, iv (4 : Int32), iv (2 : Int32)] [(.int (3 : Int32)), (.ref ar), (.int (3 : Int32)), (.ref b2)])) rfl rfl (hb hby own_d9_58)) ?_
  generalize hv_v32 : (g 3) = v32
  refine ow_iconst (q := 60) X31 hx (1 : Int32) (hb hby own_d9_59) rfl rfl ?_
  refine ow_iadd (q := 61) X31 hx _ (hb hby own_d9_60) rfl rfl ?_
  generalize hv_v33 : (v32 + (1 : Int32)) = v33
  obtain ⟨T34, h34, X34, e34, W34, F34s, st34⟩ := ownIastore F25r X31 hx hZ e31 (j := (3 : Int32)) (by unfold ownIn; decide) (g := (mkF m 61 #[rv a0, rv b2, iv (4 : Int32), iv (2 : Int32)] [(.int v33), (.int (3 : Int32)), (.ref b2)])) rfl rfl (hb hby own_d9_61)
  have F34r : ownAI Z h34 b2 .int 4 (ownUpd (ownUpd (ownUpd (ownUpd (fun _ => (0 : Int32)) 0 v8) 1 v17) 2 v24) 3 v33) := F34s
  have N34 := Fr.snoc X34 N25 G_b2
  have K34 : Keep h0 h34 [] := K25.wr W34 (Or.inr sz_b2)
  have F35 : Fld Z h34 a0 "com/example/shapewright/shapewright/regex/CodePointSet" "ranges" "[I" (.ref ar) := F26.other W34 (Or.inl ne_a0_b2)
  have F36 : ownAI Z h34 ar .int 4 g := F27.other W34 ne_ar_b2
  have F37 : Exa Z h34 b2 "[I" := F28.wr W34
  refine ownGo (T' := T34) (f' := (mkF m 62 #[rv a0, rv b2, iv (4 : Int32), iv (2 : Int32)] [])) (st34) ?_
  refine ow_iinc (q := 65) X34 hx (L' := #[rv a0, rv b2, iv (4 : Int32), iv (4 : Int32)]) (hb hby own_d9_62) rfl rfl rfl ?_
  refine ow_goto (q := 12) X34 hx (hb hby own_d9_65) (by decide) (by decide) ?_
  refine ow_iloadN (q := 13) X34 hx (hb hby own_d9_12) rfl rfl ?_
  refine ow_aloadN (q := 14) X34 hx (hb hby own_d9_13) rfl rfl rfl ?_
  obtain ⟨T38, X38, e38, st38⟩ := getF X34 hx hZ hown (host := "") (Or.inl (ww 48 rfl)) Via.refl e34 F35 (g := (mkF m 14 #[rv a0, rv b2, iv (4 : Int32), iv (4 : Int32)] [(.ref a0), (.int (4 : Int32))])) rfl rfl (hb hby own_d9_14)
  refine ownGo (T' := T38) (f' := (mkF m 17 #[rv a0, rv b2, iv (4 : Int32), iv (4 : Int32)] [(.ref ar), (.int (4 : Int32))])) (st38) ?_
  refine ownGo (T' := T38) (f' := (mkF m 18 #[rv a0, rv b2, iv (4 : Int32), iv (4 : Int32)] [(.int (4 : Int32)), (.int (4 : Int32))])) (ownLenI F36 X38 hx hZ e38 (z := (4 : Int32)) (by decide) (g := (mkF m 17 #[rv a0, rv b2, iv (4 : Int32), iv (4 : Int32)] [(.ref ar), (.int (4 : Int32))])) rfl rfl (hb hby own_d9_17)) ?_
  refine ow_icmpYes (q := 68) X38 hx (hb hby own_d9_18) (Jvm.Free.XT.ii_ge_t (by decide)) (by decide) (by decide) ?_
  refine ow_aloadN (q := 69) X38 hx (hb hby own_d9_68) rfl rfl rfl ?_
  refine ow_iloadN (q := 70) X38 hx (hb hby own_d9_69) rfl rfl ?_
  obtain ⟨_, _, ⟨T39, L39, k39, n39⟩, -, X39, ⟨Lc39, hQ39, l39, y39, z39⟩, st39⟩ := Jvm.LawKit.callS X38 hx (y := (⟨"java/util/Arrays", "copyOf", "([II)[I"⟩ : MethodName)) hown (mvT hZ (ww 56 rfl)) (mvT hZ (ww 34 rfl)) (mvT hZ (ww 35 rfl)) (mvT hZ (ww 36 rfl)) (by decide) (backOf (W := 0) (rm_copyOf_4_4 l Z av0 hw [] b2 (ownUpd (ownUpd (ownUpd (ownUpd (fun _ => (0 : Int32)) 0 v8) 1 v17) 2 v24) 3 v33) h34 n0 (Nat.le_trans Z0 K34.1) F34r F37) hZ (ww 36 rfl) (ww 35 rfl) (by decide) (by decide)) (g := (mkF m 70 #[rv a0, rv b2, iv (4 : Int32), iv (4 : Int32)] [(.int (4 : Int32)), (.ref b2)])) rfl (by rw [hml]; rfl) (argsL := [(.ref b2), (.int (4 : Int32))]) (rest := []) (lenOf own_pd1 rfl) rfl (by show 2 * 0 + _ ≤ _; exact Nat.le_of_eq rfl) (hb hby own_d9_70) (fun _ _ => ⟨rfl, e38, (by decide : 1 + 1 ≤ _), (by decide : 4 + 4 ≤ _)⟩)
  dsimp only [Pt.U, Pt.locs, Pt.cells, Pt.slots] at X39 l39 y39 z39 st39 hQ39
  subst l39 y39 z39
  obtain ⟨b39, rfl, N39q, Kq39, sq39_b39, FP39_0⟩ := hQ39
  have N39 := Fr.app N34 N39q
  have K39 : Keep h0 T39.heap [] := K34.trans Kq39 all0
  have ne_a0_b39 : a0 ≠ b39 := Nat.ne_of_lt (Nat.lt_of_lt_of_le F35.lt sq39_b39)
  have ne_ar_b39 : ar ≠ b39 := Nat.ne_of_lt (Nat.lt_of_lt_of_le F36.lt sq39_b39)
  have ne_b2_b39 : b2 ≠ b39 := Nat.ne_of_lt (Nat.lt_of_lt_of_le F37.lt sq39_b39)
  have sz_b39 : h0.size ≤ b39 := Nat.le_trans K34.1 sq39_b39
  have G_b39 : n0 ≤ b39 := Nat.le_trans Z0 sz_b39
  have F40 : Fld Z T39.heap a0 "com/example/shapewright/shapewright/regex/CodePointSet" "ranges" "[I" (.ref ar) := F35.keep Kq39 nin0
  have F41 : ownAI Z T39.heap ar .int 4 g := F36.keep Kq39 nin0
  have F42 : Exa Z T39.heap b2 "[I" := F37.keep Kq39
  have F43 : ownAI Z T39.heap b2 .int 4 (ownUpd (ownUpd (ownUpd (ownUpd (fun _ => (0 : Int32)) 0 v8) 1 v17) 2 v24) 3 v33) := F34r.keep Kq39 nin0
  refine ownGo (T' := T39) (f' := (mkF m 73 #[rv a0, rv b2, iv (4 : Int32), iv (4 : Int32)] [(.ref b39)])) (st39) ?_
  refine ownRetR X39 hx rfl rfl rfl Bd.returns (hb hby own_d9_73) hlk (by decide) (by decide) ?_
  subst hv_v33 hv_v32 hv_v30 hv_v24 hv_v17 hv_v16 hv_v14 hv_v8
  exact ⟨b39, rfl, N39, K39, sz_b39, FP39_0⟩
theorem own_ef9_edges_4_e (m : MethodId) (a0 : Addr) : entryFrame m #[(.ref a0)] 4 = mkF m 0 #[rv a0, .unset, .unset, .unset] [] := by first | (simp [entryFrame, mkF, argsToLocals, Value.category]; done) | rfl
def Q_edges_4_e (Z : State) (a0 : Addr) (ar : Addr) (g : Nat → Int32) (h0 : Heap) (n0 : Nat) (v : Option Value) (h : Heap) (L : List Loc) : Prop := ∃ (r : Addr), v = some (.ref r) ∧ Fr n0 L ∧ Keep h0 h [] ∧ h0.size ≤ r ∧ ownAI Z h r .int 3 (ownUpd (ownUpd (ownUpd (fun _ => (0 : Int32)) 0 (g 0)) 1 ((g 1) + (1 : Int32))) 2 (g 2))
set_option maxRecDepth 65536 in
set_option maxHeartbeats 40000000 in
theorem rm_edges_4_e (l : Launch) (Z : State) (av0 : Array Value) (hw : ∀ d ∈ tables_1, d.before av0 Z = true) (ws : List Jvm.Cond) (a0 : Addr) (ar : Addr) (g : Nat → Int32) (h0 : Heap) (n0 : Nat) (Z0 : n0 ≤ h0.size) (HF0 : Fld Z h0 a0 "com/example/shapewright/shapewright/regex/CodePointSet" "ranges" "[I" (.ref ar)) (HF1 : ownAI Z h0 ar .int 4 g) (hl1 : (g 1) < (1114111 : Int32)) (hl3 : ¬ (g 3) < (1114111 : Int32)) :
    MetFree l (⟨"com/example/shapewright/shapewright/regex/CodePointSet", "edges", "()[I"⟩ : MethodName) (head1 (Jvm.Cond.code (⟨"com/example/shapewright/shapewright/regex/CodePointSet", "edges", "()[I"⟩ : MethodName) prog_18_method_7_code 4 (some (.array .int)) :: ws) ({ frames := 2, cells := 2, slots := 7, locals := 32 } : Room)) (fun a U => a = #[(.ref a0)] ∧ Z.Warmed39 U.vm ∧ U.heap = h0) (fun _ _ _ _ _ => True) (fun _ U o U' => ∃ v L, o = .returned v ∧ (Q_edges_4_e Z a0 ar g h0 n0) v U'.heap L ∧ FrameEnd U o U' L ({ frames := 2, cells := 2, slots := 7, locals := 32 } : Room).cells ({ frames := 2, cells := 2, slots := 7, locals := 32 } : Room).slots) := by
  refine MetFree.of_bodySF (plainFor_of_name own_pn_CodePointSet) hisR ?_
  intro p e s m args below meth c s₁ Bd hml0 hP hK
  obtain ⟨rfl, hZ, hh⟩ := hP
  have hx := Bd.exec
  have hby := Bd.bytes
  have hml : c.maxLocals = 4 := hml0
  have hown : s.vm.findClass "com/example/shapewright/shapewright/regex/CodePointSet" = some m.cls := findClass_of_methodNamed Bd.named
  have hnm := (name_of_methodNamed Bd.named Bd.method).1
  have hlk : meth.locks = false := BodyLoose.notSynchronized Bd
  have X0 : Stand p l e ({ frames := 2, cells := 2, slots := 7, locals := 32 } : Room) s m #[(.ref a0)] below meth c s₁ [] 0 0 := Stand.of_body Bd
  have e0 : s₁.heap = h0 := by rw [← hh, Bd.state]; rfl
  have N0 := Fr.nil n0
  have K0 : Keep h0 h0 [] := Keep.refl _ _
  have ww : ∀ (k : Nat) {d : Jvm.Cond}, tables_1[k]? = some d → d.before av0 Z = true := fun k d h => hw d (List.mem_of_getElem? h)
  show ownEnds p e below s (Q_edges_4_e Z a0 ar g h0 n0) ({ frames := 2, cells := 2, slots := 7, locals := 32 } : Room).cells ({ frames := 2, cells := 2, slots := 7, locals := 32 } : Room).slots s₁ (entryFrame m #[(.ref a0)] 4)
  refine ownCast (own_ef9_edges_4_e m a0) ?_
  refine ow_aloadN (q := 1) X0 hx (hb hby own_d9_0) rfl rfl rfl ?_
  obtain ⟨T1, X1, e1, st1⟩ := getF X0 hx hZ hown (host := "") (Or.inl (ww 48 rfl)) Via.refl e0 HF0 (g := (mkF m 1 #[rv a0, .unset, .unset, .unset] [(.ref a0)])) rfl rfl (hb hby own_d9_1)
  refine ownGo (T' := T1) (f' := (mkF m 4 #[rv a0, .unset, .unset, .unset] [(.ref ar)])) (st1) ?_
  refine ownGo (T' := T1) (f' := (mkF m 5 #[rv a0, .unset, .unset, .unset] [(.int (4 : Int32))])) (ownLenI HF1 X1 hx hZ e1 (z := (4 : Int32)) (by decide) (g := (mkF m 4 #[rv a0, .unset, .unset, .unset] [(.ref ar)])) rfl rfl (hb hby own_d9_4)) ?_
  obtain ⟨T2, h2, k2, X2, e2, E2, A2, EA2, st2⟩ := newPE X1 hx hZ (ww 2 rfl) e1 (g := (mkF m 5 #[rv a0, .unset, .unset, .unset] [(.int (4 : Int32))])) rfl (hb hby own_d9_5) rfl (by decide) (cap := 4) (by decide) (by decide) (by decide) (by decide) (ad := "[I") (by decide)
  obtain ⟨b2, g2⟩ : ∃ z, z = h0.size := ⟨_, rfl⟩
  rw [← g2] at A2 st2 EA2
  have ne_a0_b2 : a0 ≠ b2 := Nat.ne_of_lt (Nat.lt_of_lt_of_le HF0.lt (Nat.le_of_eq g2.symm))
  have ne_ar_b2 : ar ≠ b2 := Nat.ne_of_lt (Nat.lt_of_lt_of_le HF1.lt (Nat.le_of_eq g2.symm))
  have sz_b2 : h0.size ≤ b2 := Nat.le_trans K0.1 (Nat.le_of_eq g2.symm)
  have G_b2 : n0 ≤ b2 := Nat.le_trans Z0 sz_b2
  have K2 : Keep h0 h2 [] := K0.ext E2
  have F3 : Fld Z h2 a0 "com/example/shapewright/shapewright/regex/CodePointSet" "ranges" "[I" (.ref ar) := HF0.ext E2
  have F4 : ownAI Z h2 ar .int 4 g := HF1.ext E2
  have F5 : ownAI Z h2 b2 .int 4 (fun _ => (0 : Int32)) := ownAI.new A2 (by decide) rfl (by decide)
  refine ownGo (T' := T2) (f' := (mkF m 7 #[rv a0, .unset, .unset, .unset] [(.ref b2)])) (st2) ?_
  refine ow_astoreN (q := 8) X2 hx (L' := #[rv a0, rv b2, .unset, .unset]) (hb hby own_d9_7) rfl rfl rfl ?_
  refine ow_iconst (q := 9) X2 hx (0 : Int32) (hb hby own_d9_8) rfl rfl ?_
  refine ow_istoreN (q := 10) X2 hx (L' := #[rv a0, rv b2, iv (0 : Int32), .unset]) (hb hby own_d9_9) rfl rfl ?_
  refine ow_iconst (q := 11) X2 hx (0 : Int32) (hb hby own_d9_10) rfl rfl ?_
  refine ow_istoreN (q := 12) X2 hx (L' := #[rv a0, rv b2, iv (0 : Int32), iv (0 : Int32)]) (hb hby own_d9_11) rfl rfl ?_
  refine ow_iloadN (q := 13) X2 hx (hb hby own_d9_12) rfl rfl ?_
  refine ow_aloadN (q := 14) X2 hx (hb hby own_d9_13) rfl rfl rfl ?_
  obtain ⟨T6, X6, e6, st6⟩ := getF X2 hx hZ hown (host := "") (Or.inl (ww 48 rfl)) Via.refl e2 F3 (g := (mkF m 14 #[rv a0, rv b2, iv (0 : Int32), iv (0 : Int32)] [(.ref a0), (.int (0 : Int32))])) rfl rfl (hb hby own_d9_14)
  refine ownGo (T' := T6) (f' := (mkF m 17 #[rv a0, rv b2, iv (0 : Int32), iv (0 : Int32)] [(.ref ar), (.int (0 : Int32))])) (st6) ?_
  refine ownGo (T' := T6) (f' := (mkF m 18 #[rv a0, rv b2, iv (0 : Int32), iv (0 : Int32)] [(.int (4 : Int32)), (.int (0 : Int32))])) (ownLenI F4 X6 hx hZ e6 (z := (4 : Int32)) (by decide) (g := (mkF m 17 #[rv a0, rv b2, iv (0 : Int32), iv (0 : Int32)] [(.ref ar), (.int (0 : Int32))])) rfl rfl (hb hby own_d9_17)) ?_
  refine ow_icmpNo (q := 21) X6 hx (hb hby own_d9_18) rfl (Jvm.Free.XT.ii_ge_f (by decide)) ?_
  refine ow_aloadN (q := 22) X6 hx (hb hby own_d9_21) rfl rfl rfl ?_
  refine ow_iloadN (q := 23) X6 hx (hb hby own_d9_22) rfl rfl ?_
  refine ow_iinc (q := 26) X6 hx (L' := #[rv a0, rv b2, iv (1 : Int32), iv (0 : Int32)]) (hb hby own_d9_23) rfl rfl rfl ?_
  refine ow_aloadN (q := 27) X6 hx (hb hby own_d9_26) rfl rfl rfl ?_
  obtain ⟨T7, X7, e7, st7⟩ := getF X6 hx hZ hown (host := "") (Or.inl (ww 48 rfl)) Via.refl e6 F3 (g := (mkF m 27 #[rv a0, rv b2, iv (1 : Int32), iv (0 : Int32)] [(.ref a0), (.int (0 : Int32)), (.ref b2)])) rfl rfl (hb hby own_d9_27)
  refine ownGo (T' := T7) (f' := (mkF m 30 #[rv a0, rv b2, iv (1 : Int32), iv (0 : Int32)] [(.ref ar), (.int (0 : Int32)), (.ref b2)])) (st7) ?_
  refine ow_iloadN (q := 31) X7 hx (hb hby own_d9_30) rfl rfl ?_
  refine ownGo (T' := T7) (f' := (mkF m 32 #[rv a0, rv b2, iv (1 : Int32), iv (0 : Int32)] [(.int (g 0)), (.int (0 : Int32)), (.ref b2)])) (ownIaload F4 X7 hx hZ e7 (j := (0 : Int32)) (by unfold ownIn; decide) (g := (mkF m 31 #[rv a0, rv b2, iv (1 : Int32), iv (0 : Int32)] [(.int (0 : Int32)), (.ref ar), (.int (0 : Int32)), (.ref b2)])) rfl rfl (hb hby own_d9_31)) ?_
  generalize hv_v8 : (g 0) = v8
  obtain ⟨T9, h9, X9, e9, W9, F9s, st9⟩ := ownIastore F5 X7 hx hZ e7 (j := (0 : Int32)) (by unfold ownIn; decide) (g := (mkF m 32 #[rv a0, rv b2, iv (1 : Int32), iv (0 : Int32)] [(.int v8), (.int (0 : Int32)), (.ref b2)])) rfl rfl (hb hby own_d9_32)
  have F9r : ownAI Z h9 b2 .int 4 (ownUpd (fun _ => (0 : Int32)) 0 v8) := F9s
  have N9 := Fr.snoc X9 N0 G_b2
  have K9 : Keep h0 h9 [] := K2.wr W9 (Or.inr sz_b2)
  have F10 : Fld Z h9 a0 "com/example/shapewright/shapewright/regex/CodePointSet" "ranges" "[I" (.ref ar) := F3.other W9 (Or.inl ne_a0_b2)
  have F11 : ownAI Z h9 ar .int 4 g := F4.other W9 ne_ar_b2
  have F12 : Exa Z h9 b2 "[I" := EA2.wr W9
  refine ownGo (T' := T9) (f' := (mkF m 33 #[rv a0, rv b2, iv (1 : Int32), iv (0 : Int32)] [])) (st9) ?_
  refine ow_aloadN (q := 34) X9 hx (hb hby own_d9_33) rfl rfl rfl ?_
  obtain ⟨T13, X13, e13, st13⟩ := getF X9 hx hZ hown (host := "") (Or.inl (ww 48 rfl)) Via.refl e9 F10 (g := (mkF m 34 #[rv a0, rv b2, iv (1 : Int32), iv (0 : Int32)] [(.ref a0)])) rfl rfl (hb hby own_d9_34)
  refine ownGo (T' := T13) (f' := (mkF m 37 #[rv a0, rv b2, iv (1 : Int32), iv (0 : Int32)] [(.ref ar)])) (st13) ?_
  refine ow_iloadN (q := 38) X13 hx (hb hby own_d9_37) rfl rfl ?_
  refine ow_iconst (q := 39) X13 hx (1 : Int32) (hb hby own_d9_38) rfl rfl ?_
  refine ow_iadd (q := 40) X13 hx (1 : Int32) (hb hby own_d9_39) rfl (by decide) ?_
  refine ownGo (T' := T13) (f' := (mkF m 41 #[rv a0, rv b2, iv (1 : Int32), iv (0 : Int32)] [(.int (g 1))])) (ownIaload F11 X13 hx hZ e13 (j := (1 : Int32)) (by unfold ownIn; decide) (g := (mkF m 40 #[rv a0, rv b2, iv (1 : Int32), iv (0 : Int32)] [(.int (1 : Int32)), (.ref ar)])) rfl rfl (hb hby own_d9_40)) ?_
  generalize hv_v14 : (g 1) = v14
  refine ownGo (T' := T13) (f' := (mkF m 43 #[rv a0, rv b2, iv (1 : Int32), iv (0 : Int32)] [(.int (1114111 : Int32)), (.int v14)])) (X13.ldcInt hx hown (mvT hZ (ww 55 rfl)) (g := (mkF m 41 #[rv a0, rv b2, iv (1 : Int32), iv (0 : Int32)] [(.int v14)])) rfl (hb hby own_d9_41)) ?_
  refine ow_icmpNo (q := 46) X13 hx (hb hby own_d9_43) rfl (Jvm.Free.XT.ii_ge_f (by first | exact hl1 | (rw [hv_v14] at hl1; exact hl1))) ?_
  refine ow_aloadN (q := 47) X13 hx (hb hby own_d9_46) rfl rfl rfl ?_
  refine ow_iloadN (q := 48) X13 hx (hb hby own_d9_47) rfl rfl ?_
  refine ow_iinc (q := 51) X13 hx (L' := #[rv a0, rv b2, iv (2 : Int32), iv (0 : Int32)]) (hb hby own_d9_48) rfl rfl rfl ?_
  refine ow_aloadN (q := 52) X13 hx (hb hby own_d9_51) rfl rfl rfl ?_
  obtain ⟨T15, X15, e15, st15⟩ := getF X13 hx hZ hown (host := "") (Or.inl (ww 48 rfl)) Via.refl e13 F10 (g := (mkF m 52 #[rv a0, rv b2, iv (2 : Int32), iv (0 : Int32)] [(.ref a0), (.int (1 : Int32)), (.ref b2)])) rfl rfl (hb hby own_d9_52)
  refine ownGo (T' := T15) (f' := (mkF m 55 #[rv a0, rv b2, iv (2 : Int32), iv (0 : Int32)] [(.ref ar), (.int (1 : Int32)), (.ref b2)])) (st15) ?_
  refine ow_iloadN (q := 56) X15 hx (hb hby own_d9_55) rfl rfl ?_
  refine ow_iconst (q := 57) X15 hx (1 : Int32) (hb hby own_d9_56) rfl rfl ?_
  refine ow_iadd (q := 58) X15 hx (1 : Int32) (hb hby own_d9_57) rfl (by decide) ?_
  refine ownGo (T' := T15) (f' := (mkF m 59 #[rv a0, rv b2, iv (2 : Int32), iv (0 : Int32)] [(.int (g 1)), (.int (1 : Int32)), (.ref b2)])) (ownIaload F11 X15 hx hZ e15 (j := (1 : Int32)) (by unfold ownIn; decide) (g := (mkF m 58 #[rv a0, rv b2, iv (2 : Int32), iv (0 : Int32)] [(.int (1 : Int32)), (.ref ar), (.int (1 : Int32)), (.ref b2)])) rfl rfl (hb hby own_d9_58)) ?_
  generalize hv_v16 : (g 1) = v16
  refine ow_iconst (q := 60) X15 hx (1 : Int32) (hb hby own_d9_59) rfl rfl ?_
  refine ow_iadd (q := 61) X15 hx _ (hb hby own_d9_60) rfl rfl ?_
  generalize hv_v17 : (v16 + (1 : Int32)) = v17
  obtain ⟨T18, h18, X18, e18, W18, F18s, st18⟩ := ownIastore F9r X15 hx hZ e15 (j := (1 : Int32)) (by unfold ownIn; decide) (g := (mkF m 61 #[rv a0, rv b2, iv (2 : Int32), iv (0 : Int32)] [(.int v17), (.int (1 : Int32)), (.ref b2)])) rfl rfl (hb hby own_d9_61)
  have F18r : ownAI Z h18 b2 .int 4 (ownUpd (ownUpd (fun _ => (0 : Int32)) 0 v8) 1 v17) := F18s
  have N18 := Fr.snoc X18 N9 G_b2
  have K18 : Keep h0 h18 [] := K9.wr W18 (Or.inr sz_b2)
  have F19 : Fld Z h18 a0 "com/example/shapewright/shapewright/regex/CodePointSet" "ranges" "[I" (.ref ar) := F10.other W18 (Or.inl ne_a0_b2)
  have F20 : ownAI Z h18 ar .int 4 g := F11.other W18 ne_ar_b2
  have F21 : Exa Z h18 b2 "[I" := F12.wr W18
  refine ownGo (T' := T18) (f' := (mkF m 62 #[rv a0, rv b2, iv (2 : Int32), iv (0 : Int32)] [])) (st18) ?_
  refine ow_iinc (q := 65) X18 hx (L' := #[rv a0, rv b2, iv (2 : Int32), iv (2 : Int32)]) (hb hby own_d9_62) rfl rfl rfl ?_
  refine ow_goto (q := 12) X18 hx (hb hby own_d9_65) (by decide) (by decide) ?_
  refine ow_iloadN (q := 13) X18 hx (hb hby own_d9_12) rfl rfl ?_
  refine ow_aloadN (q := 14) X18 hx (hb hby own_d9_13) rfl rfl rfl ?_
  obtain ⟨T22, X22, e22, st22⟩ := getF X18 hx hZ hown (host := "") (Or.inl (ww 48 rfl)) Via.refl e18 F19 (g := (mkF m 14 #[rv a0, rv b2, iv (2 : Int32), iv (2 : Int32)] [(.ref a0), (.int (2 : Int32))])) rfl rfl (hb hby own_d9_14)
  refine ownGo (T' := T22) (f' := (mkF m 17 #[rv a0, rv b2, iv (2 : Int32), iv (2 : Int32)] [(.ref ar), (.int (2 : Int32))])) (st22) ?_
  refine ownGo (T' := T22) (f' := (mkF m 18 #[rv a0, rv b2, iv (2 : Int32), iv (2 : Int32)] [(.int (4 : Int32)), (.int (2 : Int32))])) (ownLenI F20 X22 hx hZ e22 (z := (4 : Int32)) (by decide) (g := (mkF m 17 #[rv a0, rv b2, iv (2 : Int32), iv (2 : Int32)] [(.ref ar), (.int (2 : Int32))])) rfl rfl (hb hby own_d9_17)) ?_
  refine ow_icmpNo (q := 21) X22 hx (hb hby own_d9_18) rfl (Jvm.Free.XT.ii_ge_f (by decide)) ?_
  refine ow_aloadN (q := 22) X22 hx (hb hby own_d9_21) rfl rfl rfl ?_
  refine ow_iloadN (q := 23) X22 hx (hb hby own_d9_22) rfl rfl ?_
  refine ow_iinc (q := 26) X22 hx (L' := #[rv a0, rv b2, iv (3 : Int32), iv (2 : Int32)]) (hb hby own_d9_23) rfl rfl rfl ?_
  refine ow_aloadN (q := 27) X22 hx (hb hby own_d9_26) rfl rfl rfl ?_
  obtain ⟨T23, X23, e23, st23⟩ := getF X22 hx hZ hown (host := "") (Or.inl (ww 48 rfl)) Via.refl e22 F19 (g := (mkF m 27 #[rv a0, rv b2, iv (3 : Int32), iv (2 : Int32)] [(.ref a0), (.int (2 : Int32)), (.ref b2)])) rfl rfl (hb hby own_d9_27)
  refine ownGo (T' := T23) (f' := (mkF m 30 #[rv a0, rv b2, iv (3 : Int32), iv (2 : Int32)] [(.ref ar), (.int (2 : Int32)), (.ref b2)])) (st23) ?_
  refine ow_iloadN (q := 31) X23 hx (hb hby own_d9_30) rfl rfl ?_
  refine ownGo (T' := T23) (f' := (mkF m 32 #[rv a0, rv b2, iv (3 : Int32), iv (2 : Int32)] [(.int (g 2)), (.int (2 : Int32)), (.ref b2)])) (ownIaload F20 X23 hx hZ e23 (j := (2 : Int32)) (by unfold ownIn; decide) (g := (mkF m 31 #[rv a0, rv b2, iv (3 : Int32), iv (2 : Int32)] [(.int (2 : Int32)), (.ref ar), (.int (2 : Int32)), (.ref b2)])) rfl rfl (hb hby own_d9_31)) ?_
  generalize hv_v24 : (g 2) = v24
  obtain ⟨T25, h25, X25, e25, W25, F25s, st25⟩ := ownIastore F18r X23 hx hZ e23 (j := (2 : Int32)) (by unfold ownIn; decide) (g := (mkF m 32 #[rv a0, rv b2, iv (3 : Int32), iv (2 : Int32)] [(.int v24), (.int (2 : Int32)), (.ref b2)])) rfl rfl (hb hby own_d9_32)
  have F25r : ownAI Z h25 b2 .int 4 (ownUpd (ownUpd (ownUpd (fun _ => (0 : Int32)) 0 v8) 1 v17) 2 v24) := F25s
  have N25 := Fr.snoc X25 N18 G_b2
  have K25 : Keep h0 h25 [] := K18.wr W25 (Or.inr sz_b2)
  have F26 : Fld Z h25 a0 "com/example/shapewright/shapewright/regex/CodePointSet" "ranges" "[I" (.ref ar) := F19.other W25 (Or.inl ne_a0_b2)
  have F27 : ownAI Z h25 ar .int 4 g := F20.other W25 ne_ar_b2
  have F28 : Exa Z h25 b2 "[I" := F21.wr W25
  refine ownGo (T' := T25) (f' := (mkF m 33 #[rv a0, rv b2, iv (3 : Int32), iv (2 : Int32)] [])) (st25) ?_
  refine ow_aloadN (q := 34) X25 hx (hb hby own_d9_33) rfl rfl rfl ?_
  obtain ⟨T29, X29, e29, st29⟩ := getF X25 hx hZ hown (host := "") (Or.inl (ww 48 rfl)) Via.refl e25 F26 (g := (mkF m 34 #[rv a0, rv b2, iv (3 : Int32), iv (2 : Int32)] [(.ref a0)])) rfl rfl (hb hby own_d9_34)
  refine ownGo (T' := T29) (f' := (mkF m 37 #[rv a0, rv b2, iv (3 : Int32), iv (2 : Int32)] [(.ref ar)])) (st29) ?_
  refine ow_iloadN (q := 38) X29 hx (hb hby own_d9_37) rfl rfl ?_
  refine ow_iconst (q := 39) X29 hx (1 : Int32) (hb hby own_d9_38) rfl rfl ?_
  refine ow_iadd (q := 40) X29 hx (3 : Int32) (hb hby own_d9_39) rfl (by decide) ?_
  refine ownGo (T' := T29) (f' := (mkF m 41 #[rv a0, rv b2, iv (3 : Int32), iv (2 : Int32)] [(.int (g 3))])) (ownIaload F27 X29 hx hZ e29 (j := (3 : Int32)) (by unfold ownIn; decide) (g := (mkF m 40 #[rv a0, rv b2, iv (3 : Int32), iv (2 : Int32)] [(.int (3 : Int32)), (.ref ar)])) rfl rfl (hb hby own_d9_40)) ?_
  generalize hv_v30 : (g 3) = v30
  refine ownGo (T' := T29) (f' := (mkF m 43 #[rv a0, rv b2, iv (3 : Int32), iv (2 : Int32)] [(.int (1114111 : Int32)), (.int v30)])) (X29.ldcInt hx hown (mvT hZ (ww 55 rfl)) (g := (mkF m 41 #[rv a0, rv b2, iv (3 : Int32), iv (2 : Int32)] [(.int v30)])) rfl (hb hby own_d9_41)) ?_
  refine ow_icmpYes (q := 62) X29 hx (hb hby own_d9_43) (Jvm.Free.XT.ii_ge_t (by first | exact hl3 | (rw [hv_v30] at hl3; exact hl3))) (by decide) (by decide) ?_
  refine ow_iinc (q := 65) X29 hx (L' := #[rv a0, rv b2, iv (3 : Int32), iv (4 : Int32)]) (hb hby own_d9_62) rfl rfl rfl ?_
  refine ow_goto (q := 12) X29 hx (hb hby own_d9_65) (by decide) (by decide) ?_
  refine ow_iloadN (q := 13) X29 hx (hb hby own_d9_12) rfl rfl ?_
  refine ow_aloadN (q := 14) X29 hx (hb hby own_d9_13) rfl rfl rfl ?_
  obtain ⟨T31, X31, e31, st31⟩ := getF X29 hx hZ hown (host := "") (Or.inl (ww 48 rfl)) Via.refl e29 F26 (g := (mkF m 14 #[rv a0, rv b2, iv (3 : Int32), iv (4 : Int32)] [(.ref a0), (.int (4 : Int32))])) rfl rfl (hb hby own_d9_14)
  refine ownGo (T' := T31) (f' := (mkF m 17 #[rv a0, rv b2, iv (3 : Int32), iv (4 : Int32)] [(.ref ar), (.int (4 : Int32))])) (st31) ?_
  refine ownGo (T' := T31) (f' := (mkF m 18 #[rv a0, rv b2, iv (3 : Int32), iv (4 : Int32)] [(.int (4 : Int32)), (.int (4 : Int32))])) (ownLenI F27 X31 hx hZ e31 (z := (4 : Int32)) (by decide) (g := (mkF m 17 #[rv a0, rv b2, iv (3 : Int32), iv (4 : Int32)] [(.ref ar), (.int (4 : Int32))])) rfl rfl (hb hby own_d9_17)) ?_
  refine ow_icmpYes (q := 68) X31 hx (hb hby own_d9_18) (Jvm.Free.XT.ii_ge_t (by decide)) (by decide) (by decide) ?_
  refine ow_aloadN (q := 69) X31 hx (hb hby own_d9_68) rfl rfl rfl ?_
  refine ow_iloadN (q := 70) X31 hx (hb hby own_d9_69) rfl rfl ?_
  obtain ⟨_, _, ⟨T32, L32, k32, n32⟩, -, X32, ⟨Lc32, hQ32, l32, y32, z32⟩, st32⟩ := Jvm.LawKit.callS X31 hx (y := (⟨"java/util/Arrays", "copyOf", "([II)[I"⟩ : MethodName)) hown (mvT hZ (ww 56 rfl)) (mvT hZ (ww 34 rfl)) (mvT hZ (ww 35 rfl)) (mvT hZ (ww 36 rfl)) (by decide) (backOf (W := 0) (rm_copyOf_4_3 l Z av0 hw [] b2 (ownUpd (ownUpd (ownUpd (fun _ => (0 : Int32)) 0 v8) 1 v17) 2 v24) h25 n0 (Nat.le_trans Z0 K25.1) F25r) hZ (ww 36 rfl) (ww 35 rfl) (by decide) (by decide)) (g := (mkF m 70 #[rv a0, rv b2, iv (3 : Int32), iv (4 : Int32)] [(.int (3 : Int32)), (.ref b2)])) rfl (by rw [hml]; rfl) (argsL := [(.ref b2), (.int (3 : Int32))]) (rest := []) (lenOf own_pd1 rfl) rfl (by show 2 * 0 + _ ≤ _; exact Nat.le_of_eq rfl) (hb hby own_d9_70) (fun _ _ => ⟨rfl, e31, (by decide : 1 + 1 ≤ _), (by decide : 4 + 3 ≤ _)⟩)
  dsimp only [Pt.U, Pt.locs, Pt.cells, Pt.slots] at X32 l32 y32 z32 st32 hQ32
  subst l32 y32 z32
  obtain ⟨b32, rfl, N32q, Kq32, sq32_b32, FP32_0⟩ := hQ32
  have N32 := Fr.app N25 N32q
  have K32 : Keep h0 T32.heap [] := K25.trans Kq32 all0
  have ne_a0_b32 : a0 ≠ b32 := Nat.ne_of_lt (Nat.lt_of_lt_of_le F26.lt sq32_b32)
  have ne_ar_b32 : ar ≠ b32 := Nat.ne_of_lt (Nat.lt_of_lt_of_le F27.lt sq32_b32)
  have ne_b2_b32 : b2 ≠ b32 := Nat.ne_of_lt (Nat.lt_of_lt_of_le F28.lt sq32_b32)
  have sz_b32 : h0.size ≤ b32 := Nat.le_trans K25.1 sq32_b32
  have G_b32 : n0 ≤ b32 := Nat.le_trans Z0 sz_b32
  have F33 : Fld Z T32.heap a0 "com/example/shapewright/shapewright/regex/CodePointSet" "ranges" "[I" (.ref ar) := F26.keep Kq32 nin0
  have F34 : ownAI Z T32.heap ar .int 4 g := F27.keep Kq32 nin0
  have F35 : Exa Z T32.heap b2 "[I" := F28.keep Kq32
  have F36 : ownAI Z T32.heap b2 .int 4 (ownUpd (ownUpd (ownUpd (fun _ => (0 : Int32)) 0 v8) 1 v17) 2 v24) := F25r.keep Kq32 nin0
  refine ownGo (T' := T32) (f' := (mkF m 73 #[rv a0, rv b2, iv (3 : Int32), iv (4 : Int32)] [(.ref b32)])) (st32) ?_
  refine ownRetR X32 hx rfl rfl rfl Bd.returns (hb hby own_d9_73) hlk (by decide) (by decide) ?_
  subst hv_v30 hv_v24 hv_v17 hv_v16 hv_v14 hv_v8
  exact ⟨b32, rfl, N32, K32, sz_b32, FP32_0⟩
theorem own_ef5_build_6 (m : MethodId) (a0 : Addr) : entryFrame m #[(.ref a0)] 1 = mkF m 0 #[rv a0] [] := by first | (simp [entryFrame, mkF, argsToLocals, Value.category]; done) | rfl
def Q_build_6 (Z : State) (a0 : Addr) (ar : Addr) (g : Nat → Int32) (h0 : Heap) (n0 : Nat) (v : Option Value) (h : Heap) (L : List Loc) : Prop := ∃ (r : Addr) (ar2 : Addr), v = some (.ref r) ∧ Fr n0 L ∧ Keep h0 h [] ∧ h0.size ≤ r ∧ h0.size ≤ ar2 ∧ Exa Z h r "com/example/shapewright/shapewright/regex/CodePointSet" ∧ Fld Z h r "com/example/shapewright/shapewright/regex/CodePointSet" "ranges" "[I" (.ref ar2) ∧ ownAI Z h ar2 .int 6 g ∧ (r ≠ ar2)
set_option maxRecDepth 65536 in
set_option maxHeartbeats 40000000 in
theorem rm_build_6 (l : Launch) (Z : State) (av0 : Array Value) (hw : ∀ d ∈ tables_1, d.before av0 Z = true) (ws : List Jvm.Cond) (a0 : Addr) (ar : Addr) (g : Nat → Int32) (h0 : Heap) (n0 : Nat) (Z0 : n0 ≤ h0.size) (HF0 : Fld Z h0 a0 "com/example/shapewright/shapewright/regex/CodePointSet$Builder" "ranges" "[I" (.ref ar)) (HF1 : Fld Z h0 a0 "com/example/shapewright/shapewright/regex/CodePointSet$Builder" "length" "I" (.int (6 : Int32))) (HF2 : ownAI Z h0 ar .int 16 g) :
    MetFree l (⟨"com/example/shapewright/shapewright/regex/CodePointSet$Builder", "build", "()Lcom/example/shapewright/shapewright/regex/CodePointSet;"⟩ : MethodName) (head1 (Jvm.Cond.code (⟨"com/example/shapewright/shapewright/regex/CodePointSet$Builder", "build", "()Lcom/example/shapewright/shapewright/regex/CodePointSet;"⟩ : MethodName) prog_19_method_3_code 1 (some (.object "com/example/shapewright/shapewright/regex/CodePointSet")) :: ws) ({ frames := 2, cells := 2, slots := 7, locals := 34 } : Room)) (fun a U => a = #[(.ref a0)] ∧ Z.Warmed39 U.vm ∧ U.heap = h0) (fun _ _ _ _ _ => True) (fun _ U o U' => ∃ v L, o = .returned v ∧ (Q_build_6 Z a0 ar g h0 n0) v U'.heap L ∧ FrameEnd U o U' L ({ frames := 2, cells := 2, slots := 7, locals := 34 } : Room).cells ({ frames := 2, cells := 2, slots := 7, locals := 34 } : Room).slots) := by
  refine MetFree.of_bodySF (plainFor_of_name own_pn_CodePointSet_Builder) hisR ?_
  intro p e s m args below meth c s₁ Bd hml0 hP hK
  obtain ⟨rfl, hZ, hh⟩ := hP
  have hx := Bd.exec
  have hby := Bd.bytes
  have hml : c.maxLocals = 1 := hml0
  have hown : s.vm.findClass "com/example/shapewright/shapewright/regex/CodePointSet$Builder" = some m.cls := findClass_of_methodNamed Bd.named
  have hnm := (name_of_methodNamed Bd.named Bd.method).1
  have hlk : meth.locks = false := BodyLoose.notSynchronized Bd
  have X0 : Stand p l e ({ frames := 2, cells := 2, slots := 7, locals := 34 } : Room) s m #[(.ref a0)] below meth c s₁ [] 0 0 := Stand.of_body Bd
  have e0 : s₁.heap = h0 := by rw [← hh, Bd.state]; rfl
  have N0 := Fr.nil n0
  have K0 : Keep h0 h0 [] := Keep.refl _ _
  have ww : ∀ (k : Nat) {d : Jvm.Cond}, tables_1[k]? = some d → d.before av0 Z = true := fun k d h => hw d (List.mem_of_getElem? h)
  show ownEnds p e below s (Q_build_6 Z a0 ar g h0 n0) ({ frames := 2, cells := 2, slots := 7, locals := 34 } : Room).cells ({ frames := 2, cells := 2, slots := 7, locals := 34 } : Room).slots s₁ (entryFrame m #[(.ref a0)] 1)
  refine ownCast (own_ef5_build_6 m a0) ?_
  obtain ⟨T1, h1, X1, e1, E1, A1, D1, -, st1⟩ := newO X0 hx hZ hown (ww 30 rfl) (ww 31 rfl) (ww 32 rfl) e0 (g := (mkF m 0 #[rv a0] [])) rfl (hb hby own_d5_0) (by decide) (by decide)
  obtain ⟨b1, g1⟩ : ∃ z, z = h0.size := ⟨_, rfl⟩
  rw [← g1] at A1 D1 st1
  have ne_a0_b1 : a0 ≠ b1 := Nat.ne_of_lt (Nat.lt_of_lt_of_le HF0.lt (Nat.le_of_eq g1.symm))
  have ne_ar_b1 : ar ≠ b1 := Nat.ne_of_lt (Nat.lt_of_lt_of_le HF2.lt (Nat.le_of_eq g1.symm))
  have sz_b1 : h0.size ≤ b1 := Nat.le_trans K0.1 (Nat.le_of_eq g1.symm)
  have G_b1 : n0 ≤ b1 := Nat.le_trans Z0 sz_b1
  have K1 : Keep h0 h1 [] := K0.ext E1
  have F2 : Fld Z h1 a0 "com/example/shapewright/shapewright/regex/CodePointSet$Builder" "ranges" "[I" (.ref ar) := HF0.ext E1
  have F3 : Fld Z h1 a0 "com/example/shapewright/shapewright/regex/CodePointSet$Builder" "length" "I" (.int (6 : Int32)) := HF1.ext E1
  have F4 : ownAI Z h1 ar .int 16 g := HF2.ext E1
  have F5 : Fld Z h1 b1 "com/example/shapewright/shapewright/regex/CodePointSet" "ranges" "[I" .null := D1 (Or.inr (ww 49 rfl)) (ty := (.array .int)) (by decide)
  refine ownGo (T' := T1) (f' := (mkF m 3 #[rv a0] [(.ref b1)])) (st1) ?_
  refine ow_dup (q := 4) X1 hx (hb hby own_d5_3) rfl rfl ?_
  refine ow_aloadN (q := 5) X1 hx (hb hby own_d5_4) rfl rfl rfl ?_
  obtain ⟨T6, X6, e6, st6⟩ := getF X1 hx hZ hown (host := "") (Or.inl (ww 12 rfl)) Via.refl e1 F2 (g := (mkF m 5 #[rv a0] [(.ref a0), (.ref b1), (.ref b1)])) rfl rfl (hb hby own_d5_5)
  refine ownGo (T' := T6) (f' := (mkF m 8 #[rv a0] [(.ref ar), (.ref b1), (.ref b1)])) (st6) ?_
  refine ow_aloadN (q := 9) X6 hx (hb hby own_d5_8) rfl rfl rfl ?_
  obtain ⟨T7, X7, e7, st7⟩ := getF X6 hx hZ hown (host := "") (Or.inl (ww 19 rfl)) Via.refl e6 F3 (g := (mkF m 9 #[rv a0] [(.ref a0), (.ref ar), (.ref b1), (.ref b1)])) rfl rfl (hb hby own_d5_9)
  refine ownGo (T' := T7) (f' := (mkF m 12 #[rv a0] [(.int (6 : Int32)), (.ref ar), (.ref b1), (.ref b1)])) (st7) ?_
  obtain ⟨_, _, ⟨T8, L8, k8, n8⟩, -, X8, ⟨Lc8, hQ8, l8, y8, z8⟩, st8⟩ := Jvm.LawKit.callS X7 hx (y := (⟨"java/util/Arrays", "copyOf", "([II)[I"⟩ : MethodName)) hown (mvT hZ (ww 33 rfl)) (mvT hZ (ww 34 rfl)) (mvT hZ (ww 35 rfl)) (mvT hZ (ww 36 rfl)) (by decide) (backOf (W := 2) (rm_copyOf_16_6 l Z av0 hw [] ar g h1 n0 (Nat.le_trans Z0 K1.1) F4) hZ (ww 36 rfl) (ww 35 rfl) (by decide) (by decide)) (g := (mkF m 12 #[rv a0] [(.int (6 : Int32)), (.ref ar), (.ref b1), (.ref b1)])) rfl (by rw [hml]; rfl) (argsL := [(.ref ar), (.int (6 : Int32))]) (rest := [(.ref b1), (.ref b1)]) (lenOf own_pd1 rfl) rfl (by show 2 * 0 + _ ≤ _; exact Nat.le_of_eq rfl) (hb hby own_d5_12) (fun _ _ => ⟨rfl, e7, (by decide : 1 + 1 ≤ _), (by decide : 1 + 6 ≤ _)⟩)
  dsimp only [Pt.U, Pt.locs, Pt.cells, Pt.slots] at X8 l8 y8 z8 st8 hQ8
  subst l8 y8 z8
  obtain ⟨b8, rfl, N8q, Kq8, sq8_b8, FP8_0⟩ := hQ8
  have N8 := Fr.app N0 N8q
  have K8 : Keep h0 T8.heap [] := K1.trans Kq8 all0
  have ne_a0_b8 : a0 ≠ b8 := Nat.ne_of_lt (Nat.lt_of_lt_of_le F2.lt sq8_b8)
  have ne_ar_b8 : ar ≠ b8 := Nat.ne_of_lt (Nat.lt_of_lt_of_le F4.lt sq8_b8)
  have ne_b1_b8 : b1 ≠ b8 := Nat.ne_of_lt (Nat.lt_of_lt_of_le A1.lt sq8_b8)
  have sz_b8 : h0.size ≤ b8 := Nat.le_trans K1.1 sq8_b8
  have G_b8 : n0 ≤ b8 := Nat.le_trans Z0 sz_b8
  have F9 : Fld Z T8.heap a0 "com/example/shapewright/shapewright/regex/CodePointSet$Builder" "ranges" "[I" (.ref ar) := F2.keep Kq8 nin0
  have F10 : Fld Z T8.heap a0 "com/example/shapewright/shapewright/regex/CodePointSet$Builder" "length" "I" (.int (6 : Int32)) := F3.keep Kq8 nin0
  have F11 : ownAI Z T8.heap ar .int 16 g := F4.keep Kq8 nin0
  have F12 : Exa Z T8.heap b1 "com/example/shapewright/shapewright/regex/CodePointSet" := A1.keep Kq8
  have F13 : Fld Z T8.heap b1 "com/example/shapewright/shapewright/regex/CodePointSet" "ranges" "[I" .null := F5.keep Kq8 nin0
  refine ownGo (T' := T8) (f' := (mkF m 15 #[rv a0] [(.ref b8), (.ref b1), (.ref b1)])) (st8) ?_
  obtain ⟨_, _, ⟨T14, L14, k14, n14⟩, -, X14, ⟨Lc14, hQ14, l14, y14, z14⟩, st14⟩ := X8.specialBackNest hx (y := (⟨"com/example/shapewright/shapewright/regex/CodePointSet", "<init>", "([I)V"⟩ : MethodName)) rfl hown (Cond.methodLinkNest_wide hZ (ww 44 rfl) :) (mvT hZ (ww 45 rfl)) (mvT hZ (ww 46 rfl)) (by decide) (backOf (W := 1) (rm_cinit l Z av0 hw [] b1 b8 T8.heap n0 (Nat.le_trans Z0 K8.1) F12 F13 G_b1) hZ (ww 46 rfl) (ww 32 rfl) (by decide) (by decide)) (g := (mkF m 15 #[rv a0] [(.ref b8), (.ref b1), (.ref b1)])) rfl (by rw [hml]; rfl) (Steps.refl _) (a := b1) (argsL := [(.ref b8)]) (rest := [(.ref b1)]) (lenOf own_pd2 rfl) rfl (by show 2 * 0 + _ ≤ _; exact Nat.le_of_eq rfl) (hb hby own_d5_15) (fun _ _ => ⟨rfl, rfl, (by decide : 2 + 0 ≤ _), (by decide : 7 + 0 ≤ _)⟩)
  dsimp only [Pt.U, Pt.locs, Pt.cells, Pt.slots] at X14 l14 y14 z14 st14 hQ14
  subst l14 y14 z14
  obtain ⟨rfl, N14q, Kq14, FP14_0, FP14_1⟩ := hQ14
  have N14 := Fr.app N8 N14q
  have K14 : Keep h0 T14.heap [] := K8.trans Kq14 (allS (Or.inr sz_b1) all0)
  have F15 : Fld Z T14.heap a0 "com/example/shapewright/shapewright/regex/CodePointSet$Builder" "ranges" "[I" (.ref ar) := F9.keep Kq14 (ninS ne_a0_b1 nin0)
  have F16 : Fld Z T14.heap a0 "com/example/shapewright/shapewright/regex/CodePointSet$Builder" "length" "I" (.int (6 : Int32)) := F10.keep Kq14 (ninS ne_a0_b1 nin0)
  have F17 : ownAI Z T14.heap ar .int 16 g := F11.keep Kq14 (ninS ne_ar_b1 nin0)
  have F18 : Exa Z T14.heap b1 "com/example/shapewright/shapewright/regex/CodePointSet" := F12.keep Kq14
  have F19 : ownAI Z T14.heap b8 .int 6 g := FP8_0.keep Kq14 (ninS (Ne.symm ne_b1_b8) nin0)
  refine ownRun (T' := T14) (f' := (mkF m 18 #[rv a0] [(.ref b1)])) st14 ?_
  refine ownRetR X14 hx rfl rfl rfl Bd.returns (hb hby own_d5_18) hlk (by decide) (by decide) ?_
  refine ⟨b1, b8, rfl, N14, K14, sz_b1, sz_b8, FP14_0, FP14_1, F19, ?_⟩
  exact ne_b1_b8
theorem own_ef9_edges_6_l (m : MethodId) (a0 : Addr) : entryFrame m #[(.ref a0)] 4 = mkF m 0 #[rv a0, .unset, .unset, .unset] [] := by first | (simp [entryFrame, mkF, argsToLocals, Value.category]; done) | rfl
def Q_edges_6_l (Z : State) (a0 : Addr) (ar : Addr) (g : Nat → Int32) (h0 : Heap) (n0 : Nat) (v : Option Value) (h : Heap) (L : List Loc) : Prop := ∃ (r : Addr), v = some (.ref r) ∧ Fr n0 L ∧ Keep h0 h [] ∧ h0.size ≤ r ∧ ownAI Z h r .int 6 (ownUpd (ownUpd (ownUpd (ownUpd (ownUpd (ownUpd (fun _ => (0 : Int32)) 0 (g 0)) 1 ((g 1) + (1 : Int32))) 2 (g 2)) 3 ((g 3) + (1 : Int32))) 4 (g 4)) 5 ((g 5) + (1 : Int32)))
set_option maxRecDepth 65536 in
set_option maxHeartbeats 40000000 in
theorem rm_edges_6_l (l : Launch) (Z : State) (av0 : Array Value) (hw : ∀ d ∈ tables_1, d.before av0 Z = true) (ws : List Jvm.Cond) (a0 : Addr) (ar : Addr) (g : Nat → Int32) (h0 : Heap) (n0 : Nat) (Z0 : n0 ≤ h0.size) (HF0 : Fld Z h0 a0 "com/example/shapewright/shapewright/regex/CodePointSet" "ranges" "[I" (.ref ar)) (HF1 : ownAI Z h0 ar .int 6 g) (hl1 : (g 1) < (1114111 : Int32)) (hl3 : (g 3) < (1114111 : Int32)) (hl5 : (g 5) < (1114111 : Int32)) :
    MetFree l (⟨"com/example/shapewright/shapewright/regex/CodePointSet", "edges", "()[I"⟩ : MethodName) (head1 (Jvm.Cond.code (⟨"com/example/shapewright/shapewright/regex/CodePointSet", "edges", "()[I"⟩ : MethodName) prog_18_method_7_code 4 (some (.array .int)) :: ws) ({ frames := 2, cells := 2, slots := 12, locals := 28 } : Room)) (fun a U => a = #[(.ref a0)] ∧ Z.Warmed39 U.vm ∧ U.heap = h0) (fun _ _ _ _ _ => True) (fun _ U o U' => ∃ v L, o = .returned v ∧ (Q_edges_6_l Z a0 ar g h0 n0) v U'.heap L ∧ FrameEnd U o U' L ({ frames := 2, cells := 2, slots := 12, locals := 28 } : Room).cells ({ frames := 2, cells := 2, slots := 12, locals := 28 } : Room).slots) := by
  refine MetFree.of_bodySF (plainFor_of_name own_pn_CodePointSet) hisR ?_
  intro p e s m args below meth c s₁ Bd hml0 hP hK
  obtain ⟨rfl, hZ, hh⟩ := hP
  have hx := Bd.exec
  have hby := Bd.bytes
  have hml : c.maxLocals = 4 := hml0
  have hown : s.vm.findClass "com/example/shapewright/shapewright/regex/CodePointSet" = some m.cls := findClass_of_methodNamed Bd.named
  have hnm := (name_of_methodNamed Bd.named Bd.method).1
  have hlk : meth.locks = false := BodyLoose.notSynchronized Bd
  have X0 : Stand p l e ({ frames := 2, cells := 2, slots := 12, locals := 28 } : Room) s m #[(.ref a0)] below meth c s₁ [] 0 0 := Stand.of_body Bd
  have e0 : s₁.heap = h0 := by rw [← hh, Bd.state]; rfl
  have N0 := Fr.nil n0
  have K0 : Keep h0 h0 [] := Keep.refl _ _
  have ww : ∀ (k : Nat) {d : Jvm.Cond}, tables_1[k]? = some d → d.before av0 Z = true := fun k d h => hw d (List.mem_of_getElem? h)
  show ownEnds p e below s (Q_edges_6_l Z a0 ar g h0 n0) ({ frames := 2, cells := 2, slots := 12, locals := 28 } : Room).cells ({ frames := 2, cells := 2, slots := 12, locals := 28 } : Room).slots s₁ (entryFrame m #[(.ref a0)] 4)
  refine ownCast (own_ef9_edges_6_l m a0) ?_
  refine ow_aloadN (q := 1) X0 hx (hb hby own_d9_0) rfl rfl rfl ?_
  obtain ⟨T1, X1, e1, st1⟩ := getF X0 hx hZ hown (host := "") (Or.inl (ww 48 rfl)) Via.refl e0 HF0 (g := (mkF m 1 #[rv a0, .unset, .unset, .unset] [(.ref a0)])) rfl rfl (hb hby own_d9_1)
  refine ownGo (T' := T1) (f' := (mkF m 4 #[rv a0, .unset, .unset, .unset] [(.ref ar)])) (st1) ?_
  refine ownGo (T' := T1) (f' := (mkF m 5 #[rv a0, .unset, .unset, .unset] [(.int (6 : Int32))])) (ownLenI HF1 X1 hx hZ e1 (z := (6 : Int32)) (by decide) (g := (mkF m 4 #[rv a0, .unset, .unset, .unset] [(.ref ar)])) rfl rfl (hb hby own_d9_4)) ?_
  obtain ⟨T2, h2, k2, X2, e2, E2, A2, EA2, st2⟩ := newPE X1 hx hZ (ww 2 rfl) e1 (g := (mkF m 5 #[rv a0, .unset, .unset, .unset] [(.int (6 : Int32))])) rfl (hb hby own_d9_5) rfl (by decide) (cap := 6) (by decide) (by decide) (by decide) (by decide) (ad := "[I") (by decide)
  obtain ⟨b2, g2⟩ : ∃ z, z = h0.size := ⟨_, rfl⟩
  rw [← g2] at A2 st2 EA2
  have ne_a0_b2 : a0 ≠ b2 := Nat.ne_of_lt (Nat.lt_of_lt_of_le HF0.lt (Nat.le_of_eq g2.symm))
  have ne_ar_b2 : ar ≠ b2 := Nat.ne_of_lt (Nat.lt_of_lt_of_le HF1.lt (Nat.le_of_eq g2.symm))
  have sz_b2 : h0.size ≤ b2 := Nat.le_trans K0.1 (Nat.le_of_eq g2.symm)
  have G_b2 : n0 ≤ b2 := Nat.le_trans Z0 sz_b2
  have K2 : Keep h0 h2 [] := K0.ext E2
  have F3 : Fld Z h2 a0 "com/example/shapewright/shapewright/regex/CodePointSet" "ranges" "[I" (.ref ar) := HF0.ext E2
  have F4 : ownAI Z h2 ar .int 6 g := HF1.ext E2
  have F5 : ownAI Z h2 b2 .int 6 (fun _ => (0 : Int32)) := ownAI.new A2 (by decide) rfl (by decide)
  refine ownGo (T' := T2) (f' := (mkF m 7 #[rv a0, .unset, .unset, .unset] [(.ref b2)])) (st2) ?_
  refine ow_astoreN (q := 8) X2 hx (L' := #[rv a0, rv b2, .unset, .unset]) (hb hby own_d9_7) rfl rfl rfl ?_
  refine ow_iconst (q := 9) X2 hx (0 : Int32) (hb hby own_d9_8) rfl rfl ?_
  refine ow_istoreN (q := 10) X2 hx (L' := #[rv a0, rv b2, iv (0 : Int32), .unset]) (hb hby own_d9_9) rfl rfl ?_
  refine ow_iconst (q := 11) X2 hx (0 : Int32) (hb hby own_d9_10) rfl rfl ?_
  refine ow_istoreN (q := 12) X2 hx (L' := #[rv a0, rv b2, iv (0 : Int32), iv (0 : Int32)]) (hb hby own_d9_11) rfl rfl ?_
  refine ow_iloadN (q := 13) X2 hx (hb hby own_d9_12) rfl rfl ?_
  refine ow_aloadN (q := 14) X2 hx (hb hby own_d9_13) rfl rfl rfl ?_
  obtain ⟨T6, X6, e6, st6⟩ := getF X2 hx hZ hown (host := "") (Or.inl (ww 48 rfl)) Via.refl e2 F3 (g := (mkF m 14 #[rv a0, rv b2, iv (0 : Int32), iv (0 : Int32)] [(.ref a0), (.int (0 : Int32))])) rfl rfl (hb hby own_d9_14)
  refine ownGo (T' := T6) (f' := (mkF m 17 #[rv a0, rv b2, iv (0 : Int32), iv (0 : Int32)] [(.ref ar), (.int (0 : Int32))])) (st6) ?_
  refine ownGo (T' := T6) (f' := (mkF m 18 #[rv a0, rv b2, iv (0 : Int32), iv (0 : Int32)] [(.int (6 : Int32)), (.int (0 : Int32))])) (ownLenI F4 X6 hx hZ e6 (z := (6 : Int32)) (by decide) (g := (mkF m 17 #[rv a0, rv b2, iv (0 : Int32), iv (0 : Int32)] [(.ref ar), (.int (0 : Int32))])) rfl rfl (hb hby own_d9_17)) ?_
  refine ow_icmpNo (q := 21) X6 hx (hb hby own_d9_18) rfl (Jvm.Free.XT.ii_ge_f (by decide)) ?_
  refine ow_aloadN (q := 22) X6 hx (hb hby own_d9_21) rfl rfl rfl ?_
  refine ow_iloadN (q := 23) X6 hx (hb hby own_d9_22) rfl rfl ?_
  refine ow_iinc (q := 26) X6 hx (L' := #[rv a0, rv b2, iv (1 : Int32), iv (0 : Int32)]) (hb hby own_d9_23) rfl rfl rfl ?_
  refine ow_aloadN (q := 27) X6 hx (hb hby own_d9_26) rfl rfl rfl ?_
  obtain ⟨T7, X7, e7, st7⟩ := getF X6 hx hZ hown (host := "") (Or.inl (ww 48 rfl)) Via.refl e6 F3 (g := (mkF m 27 #[rv a0, rv b2, iv (1 : Int32), iv (0 : Int32)] [(.ref a0), (.int (0 : Int32)), (.ref b2)])) rfl rfl (hb hby own_d9_27)
  refine ownGo (T' := T7) (f' := (mkF m 30 #[rv a0, rv b2, iv (1 : Int32), iv (0 : Int32)] [(.ref ar), (.int (0 : Int32)), (.ref b2)])) (st7) ?_
  refine ow_iloadN (q := 31) X7 hx (hb hby own_d9_30) rfl rfl ?_
  refine ownGo (T' := T7) (f' := (mkF m 32 #[rv a0, rv b2, iv (1 : Int32), iv (0 : Int32)] [(.int (g 0)), (.int (0 : Int32)), (.ref b2)])) (ownIaload F4 X7 hx hZ e7 (j := (0 : Int32)) (by unfold ownIn; decide) (g := (mkF m 31 #[rv a0, rv b2, iv (1 : Int32), iv (0 : Int32)] [(.int (0 : Int32)), (.ref ar), (.int (0 : Int32)), (.ref b2)])) rfl rfl (hb hby own_d9_31)) ?_
  generalize hv_v8 : (g 0) = v8
  obtain ⟨T9, h9, X9, e9, W9, F9s, st9⟩ := ownIastore F5 X7 hx hZ e7 (j := (0 : Int32)) (by unfold ownIn; decide) (g := (mkF m 32 #[rv a0, rv b2, iv (1 : Int32), iv (0 : Int32)] [(.int v8), (.int (0 : Int32)), (.ref b2)])) rfl rfl (hb hby own_d9_32)
  have F9r : ownAI Z h9 b2 .int 6 (ownUpd (fun _ => (0 : Int32)) 0 v8) := F9s
  have N9 := Fr.snoc X9 N0 G_b2
  have K9 : Keep h0 h9 [] := K2.wr W9 (Or.inr sz_b2)
  have F10 : Fld Z h9 a0 "com/example/shapewright/shapewright/regex/CodePointSet" "ranges" "[I" (.ref ar) := F3.other W9 (Or.inl ne_a0_b2)
  have F11 : ownAI Z h9 ar .int 6 g := F4.other W9 ne_ar_b2
  have F12 : Exa Z h9 b2 "[I" := EA2.wr W9
  refine ownGo (T' := T9) (f' := (mkF m 33 #[rv a0, rv b2, iv (1 : Int32), iv (0 : Int32)] [])) (st9) ?_
  refine ow_aloadN (q := 34) X9 hx (hb hby own_d9_33) rfl rfl rfl ?_
  obtain ⟨T13, X13, e13, st13⟩ := getF X9 hx hZ hown (host := "") (Or.inl (ww 48 rfl)) Via.refl e9 F10 (g := (mkF m 34 #[rv a0, rv b2, iv (1 : Int32), iv (0 : Int32)] [(.ref a0)])) rfl rfl (hb hby own_d9_34)
  refine ownGo (T' := T13) (f' := (mkF m 37 #[rv a0, rv b2, iv (1 : Int32), iv (0 : Int32)] [(.ref ar)])) (st13) ?_
  refine ow_iloadN (q := 38) X13 hx (hb hby own_d9_37) rfl rfl ?_
  refine ow_iconst (q := 39) X13 hx (1 : Int32) (hb hby own_d9_38) rfl rfl ?_
  refine ow_iadd (q := 40) X13 hx (1 : Int32) (hb hby own_d9_39) rfl (by decide) ?_
  refine ownGo (T' := T13) (f' := (mkF m 41 #[rv a0, rv b2, iv (1 : Int32), iv (0 : Int32)] [(.int (g 1))])) (ownIaload F11 X13 hx hZ e13 (j := (1 : Int32)) (by unfold ownIn; decide) (g := (mkF m 40 #[rv a0, rv b2, iv (1 : Int32), iv (0 : Int32)] [(.int (1 : Int32)), (.ref ar)])) rfl rfl (hb hby own_d9_40)) ?_
  generalize hv_v14 : (g 1) = v14
  refine ownGo (T' := T13) (f' := (mkF m 43 #[rv a0, rv b2, iv (1 : Int32), iv (0 : Int32)] [(.int (1114111 : Int32)), (.int v14)])) (X13.ldcInt hx hown (mvT hZ (ww 55 rfl)) (g := (mkF m 41 #[rv a0, rv b2, iv (1 : Int32), iv (0 : Int32)] [(.int v14)])) rfl (hb hby own_d9_41)) ?_
  refine ow_icmpNo (q := 46) X13 hx (hb hby own_d9_43) rfl (Jvm.Free.XT.ii_ge_f (by first | exact hl1 | (rw [hv_v14] at hl1; exact hl1))) ?_
  refine ow_aloadN (q := 47) X13 hx (hb hby own_d9_46) rfl rfl rfl ?_
  refine ow_iloadN (q := 48) X13 hx (hb hby own_d9_47) rfl rfl ?_
  refine ow_iinc (q := 51) X13 hx (L' := #[rv a0, rv b2, iv (2 : Int32), iv (0 : Int32)]) (hb hby own_d9_48) rfl rfl rfl ?_
  refine ow_aloadN (q := 52) X13 hx (hb hby own_d9_51) rfl rfl rfl ?_
  obtain ⟨T15, X15, e15, st15⟩ := getF X13 hx hZ hown (host := "") (Or.inl (ww 48 rfl)) Via.refl e13 F10 (g := (mkF m 52 #[rv a0, rv b2, iv (2 : Int32), iv (0 : Int32)] [(.ref a0), (.int (1 : Int32)), (.ref b2)])) rfl rfl (hb hby own_d9_52)
  refine ownGo (T' := T15) (f' := (mkF m 55 #[rv a0, rv b2, iv (2 : Int32), iv (0 : Int32)] [(.ref ar), (.int (1 : Int32)), (.ref b2)])) (st15) ?_
  refine ow_iloadN (q := 56) X15 hx (hb hby own_d9_55) rfl rfl ?_
  refine ow_iconst (q := 57) X15 hx (1 : Int32) (hb hby own_d9_56) rfl rfl ?_
  refine ow_iadd (q := 58) X15 hx (1 : Int32) (hb hby own_d9_57) rfl (by decide) ?_
  refine ownGo (T' := T15) (f' := (mkF m 59 #[rv a0, rv b2, iv (2 : Int32), iv (0 : Int32)] [(.int (g 1)), (.int (1 : Int32)), (.ref b2)])) (ownIaload F11 X15 hx hZ e15 (j := (1 : Int32)) (by unfold ownIn; decide) (g := (mkF m 58 #[rv a0, rv b2, iv (2 : Int32), iv (0 : Int32)] [(.int (1 : Int32)), (.ref ar), (.int (1 : Int32)), (.ref b2)])) rfl rfl (hb hby own_d9_58)) ?_
  generalize hv_v16 : (g 1) = v16
  refine ow_iconst (q := 60) X15 hx (1 : Int32) (hb hby own_d9_59) rfl rfl ?_
  refine ow_iadd (q := 61) X15 hx _ (hb hby own_d9_60) rfl rfl ?_
  generalize hv_v17 : (v16 + (1 : Int32)) = v17
  obtain ⟨T18, h18, X18, e18, W18, F18s, st18⟩ := ownIastore F9r X15 hx hZ e15 (j := (1 : Int32)) (by unfold ownIn; decide) (g := (mkF m 61 #[rv a0, rv b2, iv (2 : Int32), iv (0 : Int32)] [(.int v17), (.int (1 : Int32)), (.ref b2)])) rfl rfl (hb hby own_d9_61)
  have F18r : ownAI Z h18 b2 .int 6 (ownUpd (ownUpd (fun _ => (0 : Int32)) 0 v8) 1 v17) := F18s
  have N18 := Fr.snoc X18 N9 G_b2
  have K18 : Keep h0 h18 [] := K9.wr W18 (Or.inr sz_b2)
  have F19 : Fld Z h18 a0 "com/example/shapewright/shapewright/regex/CodePointSet" "ranges" "[I" (.ref ar) := F10.other W18 (Or.inl ne_a0_b2)
  have F20 : ownAI Z h18 ar .int 6 g := F11.other W18 ne_ar_b2
  have F21 : Exa Z h18 b2 "[I" := F12.wr W18
  refine ownGo (T' := T18) (f' := (mkF m 62 #[rv a0, rv b2, iv (2 : Int32), iv (0 : Int32)] [])) (st18) ?_
  refine ow_iinc (q := 65) X18 hx (L' := #[rv a0, rv b2, iv (2 : Int32), iv (2 : Int32)]) (hb hby own_d9_62) rfl rfl rfl ?_
  refine ow_goto (q := 12) X18 hx (hb hby own_d9_65) (by decide) (by decide) ?_
  refine ow_iloadN (q := 13) X18 hx (hb hby own_d9_12) rfl rfl ?_
  refine ow_aloadN (q := 14) X18 hx (hb hby own_d9_13) rfl rfl rfl ?_
  obtain ⟨T22, X22, e22, st22⟩ := getF X18 hx hZ hown (host := "") (Or.inl (ww 48 rfl)) Via.refl e18 F19 (g := (mkF m 14 #[rv a0, rv b2, iv (2 : Int32), iv (2 : Int32)] [(.ref a0), (.int (2 : Int32))])) rfl rfl (hb hby own_d9_14)
  refine ownGo (T' := T22) (f' := (mkF m 17 #[rv a0, rv b2, iv (2 : Int32), iv (2 : Int32)] [(.ref ar), (.int (2 : Int32))])) (st22) ?_
  refine ownGo (T' := T22) (f' := (mkF m 18 #[rv a0, rv b2, iv (2 : Int32), iv (2 : Int32)] [(.int (6 : Int32)), (.int (2 : Int32))])) (ownLenI F20 X22 hx hZ e22 (z := (6 : Int32)) (by decide) (g := (mkF m 17 #[rv a0, rv b2, iv (2 : Int32), iv (2 : Int32)] [(.ref ar), (.int (2 : Int32))])) rfl rfl (hb hby own_d9_17)) ?_
  refine ow_icmpNo (q := 21) X22 hx (hb hby own_d9_18) rfl (Jvm.Free.XT.ii_ge_f (by decide)) ?_
  refine ow_aloadN (q := 22) X22 hx (hb hby own_d9_21) rfl rfl rfl ?_
  refine ow_iloadN (q := 23) X22 hx (hb hby own_d9_22) rfl rfl ?_
  refine ow_iinc (q := 26) X22 hx (L' := #[rv a0, rv b2, iv (3 : Int32), iv (2 : Int32)]) (hb hby own_d9_23) rfl rfl rfl ?_
  refine ow_aloadN (q := 27) X22 hx (hb hby own_d9_26) rfl rfl rfl ?_
  obtain ⟨T23, X23, e23, st23⟩ := getF X22 hx hZ hown (host := "") (Or.inl (ww 48 rfl)) Via.refl e22 F19 (g := (mkF m 27 #[rv a0, rv b2, iv (3 : Int32), iv (2 : Int32)] [(.ref a0), (.int (2 : Int32)), (.ref b2)])) rfl rfl (hb hby own_d9_27)
  refine ownGo (T' := T23) (f' := (mkF m 30 #[rv a0, rv b2, iv (3 : Int32), iv (2 : Int32)] [(.ref ar), (.int (2 : Int32)), (.ref b2)])) (st23) ?_
  refine ow_iloadN (q := 31) X23 hx (hb hby own_d9_30) rfl rfl ?_
  refine ownGo (T' := T23) (f' := (mkF m 32 #[rv a0, rv b2, iv (3 : Int32), iv (2 : Int32)] [(.int (g 2)), (.int (2 : Int32)), (.ref b2)])) (ownIaload F20 X23 hx hZ e23 (j := (2 : Int32)) (by unfold ownIn; decide) (g := (mkF m 31 #[rv a0, rv b2, iv (3 : Int32), iv (2 : Int32)] [(.int (2 : Int32)), (.ref ar), (.int (2 : Int32)), (.ref b2)])) rfl rfl (hb hby own_d9_31)) ?_
  generalize hv_v24 : (g 2) = v24
  obtain ⟨T25, h25, X25, e25, W25, F25s, st25⟩ := ownIastore F18r X23 hx hZ e23 (j := (2 : Int32)) (by unfold ownIn; decide) (g := (mkF m 32 #[rv a0, rv b2, iv (3 : Int32), iv (2 : Int32)] [(.int v24), (.int (2 : Int32)), (.ref b2)])) rfl rfl (hb hby own_d9_32)
  have F25r : ownAI Z h25 b2 .int 6 (ownUpd (ownUpd (ownUpd (fun _ => (0 : Int32)) 0 v8) 1 v17) 2 v24) := F25s
  have N25 := Fr.snoc X25 N18 G_b2
  have K25 : Keep h0 h25 [] := K18.wr W25 (Or.inr sz_b2)
  have F26 : Fld Z h25 a0 "com/example/shapewright/shapewright/regex/CodePointSet" "ranges" "[I" (.ref ar) := F19.other W25 (Or.inl ne_a0_b2)
  have F27 : ownAI Z h25 ar .int 6 g := F20.other W25 ne_ar_b2
  have F28 : Exa Z h25 b2 "[I" := F21.wr W25
  refine ownGo (T' := T25) (f' := (mkF m 33 #[rv a0, rv b2, iv (3 : Int32), iv (2 : Int32)] [])) (st25) ?_
  refine ow_aloadN (q := 34) X25 hx (hb hby own_d9_33) rfl rfl rfl ?_
  obtain ⟨T29, X29, e29, st29⟩ := getF X25 hx hZ hown (host := "") (Or.inl (ww 48 rfl)) Via.refl e25 F26 (g := (mkF m 34 #[rv a0, rv b2, iv (3 : Int32), iv (2 : Int32)] [(.ref a0)])) rfl rfl (hb hby own_d9_34)
  refine ownGo (T' := T29) (f' := (mkF m 37 #[rv a0, rv b2, iv (3 : Int32), iv (2 : Int32)] [(.ref ar)])) (st29) ?_
  refine ow_iloadN (q := 38) X29 hx (hb hby own_d9_37) rfl rfl ?_
  refine ow_iconst (q := 39) X29 hx (1 : Int32) (hb hby own_d9_38) rfl rfl ?_
  refine ow_iadd (q := 40) X29 hx (3 : Int32) (hb hby own_d9_39) rfl (by decide) ?_
  refine ownGo (T' := T29) (f' := (mkF m 41 #[rv a0, rv b2, iv (3 : Int32), iv (2 : Int32)] [(.int (g 3))])) (ownIaload F27 X29 hx hZ e29 (j := (3 : Int32)) (by unfold ownIn; decide) (g := (mkF m 40 #[rv a0, rv b2, iv (3 : Int32), iv (2 : Int32)] [(.int (3 : Int32)), (.ref ar)])) rfl rfl (hb hby own_d9_40)) ?_
  generalize hv_v30 : (g 3) = v30
  refine ownGo (T' := T29) (f' := (mkF m 43 #[rv a0, rv b2, iv (3 : Int32), iv (2 : Int32)] [(.int (1114111 : Int32)), (.int v30)])) (X29.ldcInt hx hown (mvT hZ (ww 55 rfl)) (g := (mkF m 41 #[rv a0, rv b2, iv (3 : Int32), iv (2 : Int32)] [(.int v30)])) rfl (hb hby own_d9_41)) ?_
  refine ow_icmpNo (q := 46) X29 hx (hb hby own_d9_43) rfl (Jvm.Free.XT.ii_ge_f (by first | exact hl3 | (rw [hv_v30] at hl3; exact hl3))) ?_
  refine ow_aloadN (q := 47) X29 hx (hb hby own_d9_46) rfl rfl rfl ?_
  refine ow_iloadN (q := 48) X29 hx (hb hby own_d9_47) rfl rfl ?_
  refine ow_iinc (q := 51) X29 hx (L' := #[rv a0, rv b2, iv (4 : Int32), iv (2 : Int32)]) (hb hby own_d9_48) rfl rfl rfl ?_
  refine ow_aloadN (q := 52) X29 hx (hb hby own_d9_51) rfl rfl rfl ?_
  obtain ⟨T31, X31, e31, st31⟩ := getF X29 hx hZ hown (host := "") (Or.inl (ww 48 rfl)) Via.refl e29 F26 (g := (mkF m 52 #[rv a0, rv b2, iv (4 : Int32), iv (2 : Int32)] [(.ref a0), (.int (3 : Int32)), (.ref b2)])) rfl rfl (hb hby own_d9_52)
  refine ownGo (T' := T31) (f' := (mkF m 55 #[rv a0, rv b2, iv (4 : Int32), iv (2 : Int32)] [(.ref ar), (.int (3 : Int32)), (.ref b2)])) (st31) ?_
  refine ow_iloadN (q := 56) X31 hx (hb hby own_d9_55) rfl rfl ?_
  refine ow_iconst (q := 57) X31 hx (1 : Int32) (hb hby own_d9_56) rfl rfl ?_
  refine ow_iadd (q := 58) X31 hx (3 : Int32) (hb hby own_d9_57) rfl (by decide) ?_
  refine ownGo (T' := T31) (f' := (mkF m 59 #[rv a0, rv b2, iv (4 : Int32), iv (2 : Int32)] [(.int (g 3)), (.int (3 : Int32)), (.ref b2)])) (ownIaload F27 X31 hx hZ e31 (j := (3 : Int32)) (by unfold ownIn; decide) (g := (mkF m 58 #[rv a0, rv b2, iv (4 : Int32), iv (2 : Int32)] [(.int (3 : Int32)), (.ref ar), (.int (3 : Int32)), (.ref b2)])) rfl rfl (hb hby own_d9_58)) ?_
  generalize hv_v32 : (g 3) = v32
  refine ow_iconst (q := 60) X31 hx (1 : Int32) (hb hby own_d9_59) rfl rfl ?_
  refine ow_iadd (q := 61) X31 hx _ (hb hby own_d9_60) rfl rfl ?_
  generalize hv_v33 : (v32 + (1 : Int32)) = v33
  obtain ⟨T34, h34, X34, e34, W34, F34s, st34⟩ := ownIastore F25r X31 hx hZ e31 (j := (3 : Int32)) (by unfold ownIn; decide) (g := (mkF m 61 #[rv a0, rv b2, iv (4 : Int32), iv (2 : Int32)] [(.int v33), (.int (3 : Int32)), (.ref b2)])) rfl rfl (hb hby own_d9_61)
  have F34r : ownAI Z h34 b2 .int 6 (ownUpd (ownUpd (ownUpd (ownUpd (fun _ => (0 : Int32)) 0 v8) 1 v17) 2 v24) 3 v33) := F34s
  have N34 := Fr.snoc X34 N25 G_b2
  have K34 : Keep h0 h34 [] := K25.wr W34 (Or.inr sz_b2)
  have F35 : Fld Z h34 a0 "com/example/shapewright/shapewright/regex/CodePointSet" "ranges" "[I" (.ref ar) := F26.other W34 (Or.inl ne_a0_b2)
  have F36 : ownAI Z h34 ar .int 6 g := F27.other W34 ne_ar_b2
  have F37 : Exa Z h34 b2 "[I" := F28.wr W34
  refine ownGo (T' := T34) (f' := (mkF m 62 #[rv a0, rv b2, iv (4 : Int32), iv (2 : Int32)] [])) (st34) ?_
  refine ow_iinc (q := 65) X34 hx (L' := #[rv a0, rv b2, iv (4 : Int32), iv (4 : Int32)]) (hb hby own_d9_62) rfl rfl rfl ?_
  refine ow_goto (q := 12) X34 hx (hb hby own_d9_65) (by decide) (by decide) ?_
  refine ow_iloadN (q := 13) X34 hx (hb hby own_d9_12) rfl rfl ?_
  refine ow_aloadN (q := 14) X34 hx (hb hby own_d9_13) rfl rfl rfl ?_
  obtain ⟨T38, X38, e38, st38⟩ := getF X34 hx hZ hown (host := "") (Or.inl (ww 48 rfl)) Via.refl e34 F35 (g := (mkF m 14 #[rv a0, rv b2, iv (4 : Int32), iv (4 : Int32)] [(.ref a0), (.int (4 : Int32))])) rfl rfl (hb hby own_d9_14)
  refine ownGo (T' := T38) (f' := (mkF m 17 #[rv a0, rv b2, iv (4 : Int32), iv (4 : Int32)] [(.ref ar), (.int (4 : Int32))])) (st38) ?_
  refine ownGo (T' := T38) (f' := (mkF m 18 #[rv a0, rv b2, iv (4 : Int32), iv (4 : Int32)] [(.int (6 : Int32)), (.int (4 : Int32))])) (ownLenI F36 X38 hx hZ e38 (z := (6 : Int32)) (by decide) (g := (mkF m 17 #[rv a0, rv b2, iv (4 : Int32), iv (4 : Int32)] [(.ref ar), (.int (4 : Int32))])) rfl rfl (hb hby own_d9_17)) ?_
  refine ow_icmpNo (q := 21) X38 hx (hb hby own_d9_18) rfl (Jvm.Free.XT.ii_ge_f (by decide)) ?_
  refine ow_aloadN (q := 22) X38 hx (hb hby own_d9_21) rfl rfl rfl ?_
  refine ow_iloadN (q := 23) X38 hx (hb hby own_d9_22) rfl rfl ?_
  refine ow_iinc (q := 26) X38 hx (L' := #[rv a0, rv b2, iv (5 : Int32), iv (4 : Int32)]) (hb hby own_d9_23) rfl rfl rfl ?_
  refine ow_aloadN (q := 27) X38 hx (hb hby own_d9_26) rfl rfl rfl ?_
  obtain ⟨T39, X39, e39, st39⟩ := getF X38 hx hZ hown (host := "") (Or.inl (ww 48 rfl)) Via.refl e38 F35 (g := (mkF m 27 #[rv a0, rv b2, iv (5 : Int32), iv (4 : Int32)] [(.ref a0), (.int (4 : Int32)), (.ref b2)])) rfl rfl (hb hby own_d9_27)
  refine ownGo (T' := T39) (f' := (mkF m 30 #[rv a0, rv b2, iv (5 : Int32), iv (4 : Int32)] [(.ref ar), (.int (4 : Int32)), (.ref b2)])) (st39) ?_
  refine ow_iloadN (q := 31) X39 hx (hb hby own_d9_30) rfl rfl ?_
  refine ownGo (T' := T39) (f' := (mkF m 32 #[rv a0, rv b2, iv (5 : Int32), iv (4 : Int32)] [(.int (g 4)), (.int (4 : Int32)), (.ref b2)])) (ownIaload F36 X39 hx hZ e39 (j := (4 : Int32)) (by unfold ownIn; decide) (g := (mkF m 31 #[rv a0, rv b2, iv (5 : Int32), iv (4 : Int32)] [(.int (4 : Int32)), (.ref ar), (.int (4 : Int32)), (.ref b2)])) rfl rfl (hb hby own_d9_31)) ?_
  generalize hv_v40 : (g 4) = v40
  obtain ⟨T41, h41, X41, e41, W41, F41s, st41⟩ := ownIastore F34r X39 hx hZ e39 (j := (4 : Int32)) (by unfold ownIn; decide) (g := (mkF m 32 #[rv a0, rv b2, iv (5 : Int32), iv (4 : Int32)] [(.int v40), (.int (4 : Int32)), (.ref b2)])) rfl rfl (hb hby own_d9_32)
  have F41r : ownAI Z h41 b2 .int 6 (ownUpd (ownUpd (ownUpd (ownUpd (ownUpd (fun _ => (0 : Int32)) 0 v8) 1 v17) 2 v24) 3 v33) 4 v40) := F41s
  have N41 := Fr.snoc X41 N34 G_b2
  have K41 : Keep h0 h41 [] := K34.wr W41 (Or.inr sz_b2)
  have F42 : Fld Z h41 a0 "com/example/shapewright/shapewright/regex/CodePointSet" "ranges" "[I" (.ref ar) := F35.other W41 (Or.inl ne_a0_b2)
  have F43 : ownAI Z h41 ar .int 6 g := F36.other W41 ne_ar_b2
  have F44 : Exa Z h41 b2 "[I" := F37.wr W41
  refine ownGo (T' := T41) (f' := (mkF m 33 #[rv a0, rv b2, iv (5 : Int32), iv (4 : Int32)] [])) (st41) ?_
  refine ow_aloadN (q := 34) X41 hx (hb hby own_d9_33) rfl rfl rfl ?_
  obtain ⟨T45, X45, e45, st45⟩ := getF X41 hx hZ hown (host := "") (Or.inl (ww 48 rfl)) Via.refl e41 F42 (g := (mkF m 34 #[rv a0, rv b2, iv (5 : Int32), iv (4 : Int32)] [(.ref a0)])) rfl rfl (hb hby own_d9_34)
  refine ownGo (T' := T45) (f' := (mkF m 37 #[rv a0, rv b2, iv (5 : Int32), iv (4 : Int32)] [(.ref ar)])) (st45) ?_
  refine ow_iloadN (q := 38) X45 hx (hb hby own_d9_37) rfl rfl ?_
  refine ow_iconst (q := 39) X45 hx (1 : Int32) (hb hby own_d9_38) rfl rfl ?_
  refine ow_iadd (q := 40) X45 hx (5 : Int32) (hb hby own_d9_39) rfl (by decide) ?_
  refine ownGo (T' := T45) (f' := (mkF m 41 #[rv a0, rv b2, iv (5 : Int32), iv (4 : Int32)] [(.int (g 5))])) (ownIaload F43 X45 hx hZ e45 (j := (5 : Int32)) (by unfold ownIn; decide) (g := (mkF m 40 #[rv a0, rv b2, iv (5 : Int32), iv (4 : Int32)] [(.int (5 : Int32)), (.ref ar)])) rfl rfl (hb hby own_d9_40)) ?_
  generalize hv_v46 : (g 5) = v46
  refine ownGo (T' := T45) (f' := (mkF m 43 #[rv a0, rv b2, iv (5 : Int32), iv (4 : Int32)] [(.int (1114111 : Int32)), (.int v46)])) (X45.ldcInt hx hown (mvT hZ (ww 55 rfl)) (g := (mkF m 41 #[rv a0, rv b2, iv (5 : Int32), iv (4 : Int32)] [(.int v46)])) rfl (hb hby own_d9_41)) ?_
  refine ow_icmpNo (q := 46) X45 hx (hb hby own_d9_43) rfl (Jvm.Free.XT.ii_ge_f (by first | exact hl5 | (rw [hv_v46] at hl5; exact hl5))) ?_
  refine ow_aloadN (q := 47) X45 hx (hb hby own_d9_46) rfl rfl rfl ?_
  refine ow_iloadN (q := 48) X45 hx (hb hby own_d9_47) rfl rfl ?_
  refine ow_iinc (q := 51) X45 hx (L' := #[rv a0, rv b2, iv (6 : Int32), iv (4 : Int32)]) (hb hby own_d9_48) rfl rfl rfl ?_
  refine ow_aloadN (q := 52) X45 hx (hb hby own_d9_51) rfl rfl rfl ?_
  obtain ⟨T47, X47, e47, st47⟩ := getF X45 hx hZ hown (host := "") (Or.inl (ww 48 rfl)) Via.refl e45 F42 (g := (mkF m 52 #[rv a0, rv b2, iv (6 : Int32), iv (4 : Int32)] [(.ref a0), (.int (5 : Int32)), (.ref b2)])) rfl rfl (hb hby own_d9_52)
  refine ownGo (T' := T47) (f' := (mkF m 55 #[rv a0, rv b2, iv (6 : Int32), iv (4 : Int32)] [(.ref ar), (.int (5 : Int32)), (.ref b2)])) (st47) ?_
  refine ow_iloadN (q := 56) X47 hx (hb hby own_d9_55) rfl rfl ?_
  refine ow_iconst (q := 57) X47 hx (1 : Int32) (hb hby own_d9_56) rfl rfl ?_
  refine ow_iadd (q := 58) X47 hx (5 : Int32) (hb hby own_d9_57) rfl (by decide) ?_
  refine ownGo (T' := T47) (f' := (mkF m 59 #[rv a0, rv b2, iv (6 : Int32), iv (4 : Int32)] [(.int (g 5)), (.int (5 : Int32)), (.ref b2)])) (ownIaload F43 X47 hx hZ e47 (j := (5 : Int32)) (by unfold ownIn; decide) (g := (mkF m 58 #[rv a0, rv b2, iv (6 : Int32), iv (4 : Int32)] [(.int (5 : Int32)), (.ref ar), (.int (5 : Int32)), (.ref b2)])) rfl rfl (hb hby own_d9_58)) ?_
  generalize hv_v48 : (g 5) = v48
  refine ow_iconst (q := 60) X47 hx (1 : Int32) (hb hby own_d9_59) rfl rfl ?_
  refine ow_iadd (q := 61) X47 hx _ (hb hby own_d9_60) rfl rfl ?_
  generalize hv_v49 : (v48 + (1 : Int32)) = v49
  obtain ⟨T50, h50, X50, e50, W50, F50s, st50⟩ := ownIastore F41r X47 hx hZ e47 (j := (5 : Int32)) (by unfold ownIn; decide) (g := (mkF m 61 #[rv a0, rv b2, iv (6 : Int32), iv (4 : Int32)] [(.int v49), (.int (5 : Int32)), (.ref b2)])) rfl rfl (hb hby own_d9_61)
  have F50r : ownAI Z h50 b2 .int 6 (ownUpd (ownUpd (ownUpd (ownUpd (ownUpd (ownUpd (fun _ => (0 : Int32)) 0 v8) 1 v17) 2 v24) 3 v33) 4 v40) 5 v49) := F50s
  have N50 := Fr.snoc X50 N41 G_b2
  have K50 : Keep h0 h50 [] := K41.wr W50 (Or.inr sz_b2)
  have F51 : Fld Z h50 a0 "com/example/shapewright/shapewright/regex/CodePointSet" "ranges" "[I" (.ref ar) := F42.other W50 (Or.inl ne_a0_b2)
  have F52 : ownAI Z h50 ar .int 6 g := F43.other W50 ne_ar_b2
  have F53 : Exa Z h50 b2 "[I" := F44.wr W50
  refine ownGo (T' := T50) (f' := (mkF m 62 #[rv a0, rv b2, iv (6 : Int32), iv (4 : Int32)] [])) (st50) ?_
  refine ow_iinc (q := 65) X50 hx (L' := #[rv a0, rv b2, iv (6 : Int32), iv (6 : Int32)]) (hb hby own_d9_62) rfl rfl rfl ?_
  refine ow_goto (q := 12) X50 hx (hb hby own_d9_65) (by decide) (by decide) ?_
  refine ow_iloadN (q := 13) X50 hx (hb hby own_d9_12) rfl rfl ?_
  refine ow_aloadN (q := 14) X50 hx (hb hby own_d9_13) rfl rfl rfl ?_
  obtain ⟨T54, X54, e54, st54⟩ := getF X50 hx hZ hown (host := "") (Or.inl (ww 48 rfl)) Via.refl e50 F51 (g := (mkF m 14 #[rv a0, rv b2, iv (6 : Int32), iv (6 : Int32)] [(.ref a0), (.int (6 : Int32))])) rfl rfl (hb hby own_d9_14)
  refine ownGo (T' := T54) (f' := (mkF m 17 #[rv a0, rv b2, iv (6 : Int32), iv (6 : Int32)] [(.ref ar), (.int (6 : Int32))])) (st54) ?_
  refine ownGo (T' := T54) (f' := (mkF m 18 #[rv a0, rv b2, iv (6 : Int32), iv (6 : Int32)] [(.int (6 : Int32)), (.int (6 : Int32))])) (ownLenI F52 X54 hx hZ e54 (z := (6 : Int32)) (by decide) (g := (mkF m 17 #[rv a0, rv b2, iv (6 : Int32), iv (6 : Int32)] [(.ref ar), (.int (6 : Int32))])) rfl rfl (hb hby own_d9_17)) ?_
  refine ow_icmpYes (q := 68) X54 hx (hb hby own_d9_18) (Jvm.Free.XT.ii_ge_t (by decide)) (by decide) (by decide) ?_
  refine ow_aloadN (q := 69) X54 hx (hb hby own_d9_68) rfl rfl rfl ?_
  refine ow_iloadN (q := 70) X54 hx (hb hby own_d9_69) rfl rfl ?_
  obtain ⟨_, _, ⟨T55, L55, k55, n55⟩, -, X55, ⟨Lc55, hQ55, l55, y55, z55⟩, st55⟩ := Jvm.LawKit.callS X54 hx (y := (⟨"java/util/Arrays", "copyOf", "([II)[I"⟩ : MethodName)) hown (mvT hZ (ww 56 rfl)) (mvT hZ (ww 34 rfl)) (mvT hZ (ww 35 rfl)) (mvT hZ (ww 36 rfl)) (by decide) (backOf (W := 0) (rm_copyOf_6_6 l Z av0 hw [] b2 (ownUpd (ownUpd (ownUpd (ownUpd (ownUpd (ownUpd (fun _ => (0 : Int32)) 0 v8) 1 v17) 2 v24) 3 v33) 4 v40) 5 v49) h50 n0 (Nat.le_trans Z0 K50.1) F50r F53) hZ (ww 36 rfl) (ww 35 rfl) (by decide) (by decide)) (g := (mkF m 70 #[rv a0, rv b2, iv (6 : Int32), iv (6 : Int32)] [(.int (6 : Int32)), (.ref b2)])) rfl (by rw [hml]; rfl) (argsL := [(.ref b2), (.int (6 : Int32))]) (rest := []) (lenOf own_pd1 rfl) rfl (by show 2 * 0 + _ ≤ _; exact Nat.le_of_eq rfl) (hb hby own_d9_70) (fun _ _ => ⟨rfl, e54, (by decide : 1 + 1 ≤ _), (by decide : 6 + 6 ≤ _)⟩)
  dsimp only [Pt.U, Pt.locs, Pt.cells, Pt.slots] at X55 l55 y55 z55 st55 hQ55
  subst l55 y55 z55
  obtain ⟨b55, rfl, N55q, Kq55, sq55_b55, FP55_0⟩ := hQ55
  have N55 := Fr.app N50 N55q
  have K55 : Keep h0 T55.heap [] := K50.trans Kq55 all0
  have ne_a0_b55 : a0 ≠ b55 := Nat.ne_of_lt (Nat.lt_of_lt_of_le F51.lt sq55_b55)
  have ne_ar_b55 : ar ≠ b55 := Nat.ne_of_lt (Nat.lt_of_lt_of_le F52.lt sq55_b55)
  have ne_b2_b55 : b2 ≠ b55 := Nat.ne_of_lt (Nat.lt_of_lt_of_le F53.lt sq55_b55)
  have sz_b55 : h0.size ≤ b55 := Nat.le_trans K50.1 sq55_b55
  have G_b55 : n0 ≤ b55 := Nat.le_trans Z0 sz_b55
  have F56 : Fld Z T55.heap a0 "com/example/shapewright/shapewright/regex/CodePointSet" "ranges" "[I" (.ref ar) := F51.keep Kq55 nin0
  have F57 : ownAI Z T55.heap ar .int 6 g := F52.keep Kq55 nin0
  have F58 : Exa Z T55.heap b2 "[I" := F53.keep Kq55
  have F59 : ownAI Z T55.heap b2 .int 6 (ownUpd (ownUpd (ownUpd (ownUpd (ownUpd (ownUpd (fun _ => (0 : Int32)) 0 v8) 1 v17) 2 v24) 3 v33) 4 v40) 5 v49) := F50r.keep Kq55 nin0
  refine ownGo (T' := T55) (f' := (mkF m 73 #[rv a0, rv b2, iv (6 : Int32), iv (6 : Int32)] [(.ref b55)])) (st55) ?_
  refine ownRetR X55 hx rfl rfl rfl Bd.returns (hb hby own_d9_73) hlk (by decide) (by decide) ?_
  subst hv_v49 hv_v48 hv_v46 hv_v40 hv_v33 hv_v32 hv_v30 hv_v24 hv_v17 hv_v16 hv_v14 hv_v8
  exact ⟨b55, rfl, N55, K55, sz_b55, FP55_0⟩
theorem own_ef9_edges_6_e (m : MethodId) (a0 : Addr) : entryFrame m #[(.ref a0)] 4 = mkF m 0 #[rv a0, .unset, .unset, .unset] [] := by first | (simp [entryFrame, mkF, argsToLocals, Value.category]; done) | rfl
def Q_edges_6_e (Z : State) (a0 : Addr) (ar : Addr) (g : Nat → Int32) (h0 : Heap) (n0 : Nat) (v : Option Value) (h : Heap) (L : List Loc) : Prop := ∃ (r : Addr), v = some (.ref r) ∧ Fr n0 L ∧ Keep h0 h [] ∧ h0.size ≤ r ∧ ownAI Z h r .int 5 (ownUpd (ownUpd (ownUpd (ownUpd (ownUpd (fun _ => (0 : Int32)) 0 (g 0)) 1 ((g 1) + (1 : Int32))) 2 (g 2)) 3 ((g 3) + (1 : Int32))) 4 (g 4))
set_option maxRecDepth 65536 in
set_option maxHeartbeats 40000000 in
theorem rm_edges_6_e (l : Launch) (Z : State) (av0 : Array Value) (hw : ∀ d ∈ tables_1, d.before av0 Z = true) (ws : List Jvm.Cond) (a0 : Addr) (ar : Addr) (g : Nat → Int32) (h0 : Heap) (n0 : Nat) (Z0 : n0 ≤ h0.size) (HF0 : Fld Z h0 a0 "com/example/shapewright/shapewright/regex/CodePointSet" "ranges" "[I" (.ref ar)) (HF1 : ownAI Z h0 ar .int 6 g) (hl1 : (g 1) < (1114111 : Int32)) (hl3 : (g 3) < (1114111 : Int32)) (hl5 : ¬ (g 5) < (1114111 : Int32)) :
    MetFree l (⟨"com/example/shapewright/shapewright/regex/CodePointSet", "edges", "()[I"⟩ : MethodName) (head1 (Jvm.Cond.code (⟨"com/example/shapewright/shapewright/regex/CodePointSet", "edges", "()[I"⟩ : MethodName) prog_18_method_7_code 4 (some (.array .int)) :: ws) ({ frames := 2, cells := 2, slots := 11, locals := 32 } : Room)) (fun a U => a = #[(.ref a0)] ∧ Z.Warmed39 U.vm ∧ U.heap = h0) (fun _ _ _ _ _ => True) (fun _ U o U' => ∃ v L, o = .returned v ∧ (Q_edges_6_e Z a0 ar g h0 n0) v U'.heap L ∧ FrameEnd U o U' L ({ frames := 2, cells := 2, slots := 11, locals := 32 } : Room).cells ({ frames := 2, cells := 2, slots := 11, locals := 32 } : Room).slots) := by
  refine MetFree.of_bodySF (plainFor_of_name own_pn_CodePointSet) hisR ?_
  intro p e s m args below meth c s₁ Bd hml0 hP hK
  obtain ⟨rfl, hZ, hh⟩ := hP
  have hx := Bd.exec
  have hby := Bd.bytes
  have hml : c.maxLocals = 4 := hml0
  have hown : s.vm.findClass "com/example/shapewright/shapewright/regex/CodePointSet" = some m.cls := findClass_of_methodNamed Bd.named
  have hnm := (name_of_methodNamed Bd.named Bd.method).1
  have hlk : meth.locks = false := BodyLoose.notSynchronized Bd
  have X0 : Stand p l e ({ frames := 2, cells := 2, slots := 11, locals := 32 } : Room) s m #[(.ref a0)] below meth c s₁ [] 0 0 := Stand.of_body Bd
  have e0 : s₁.heap = h0 := by rw [← hh, Bd.state]; rfl
  have N0 := Fr.nil n0
  have K0 : Keep h0 h0 [] := Keep.refl _ _
  have ww : ∀ (k : Nat) {d : Jvm.Cond}, tables_1[k]? = some d → d.before av0 Z = true := fun k d h => hw d (List.mem_of_getElem? h)
  show ownEnds p e below s (Q_edges_6_e Z a0 ar g h0 n0) ({ frames := 2, cells := 2, slots := 11, locals := 32 } : Room).cells ({ frames := 2, cells := 2, slots := 11, locals := 32 } : Room).slots s₁ (entryFrame m #[(.ref a0)] 4)
  refine ownCast (own_ef9_edges_6_e m a0) ?_
  refine ow_aloadN (q := 1) X0 hx (hb hby own_d9_0) rfl rfl rfl ?_
  obtain ⟨T1, X1, e1, st1⟩ := getF X0 hx hZ hown (host := "") (Or.inl (ww 48 rfl)) Via.refl e0 HF0 (g := (mkF m 1 #[rv a0, .unset, .unset, .unset] [(.ref a0)])) rfl rfl (hb hby own_d9_1)
  refine ownGo (T' := T1) (f' := (mkF m 4 #[rv a0, .unset, .unset, .unset] [(.ref ar)])) (st1) ?_
  refine ownGo (T' := T1) (f' := (mkF m 5 #[rv a0, .unset, .unset, .unset] [(.int (6 : Int32))])) (ownLenI HF1 X1 hx hZ e1 (z := (6 : Int32)) (by decide) (g := (mkF m 4 #[rv a0, .unset, .unset, .unset] [(.ref ar)])) rfl rfl (hb hby own_d9_4)) ?_
  obtain ⟨T2, h2, k2, X2, e2, E2, A2, EA2, st2⟩ := newPE X1 hx hZ (ww 2 rfl) e1 (g := (mkF m 5 #[rv a0, .unset, .unset, .unset] [(.int (6 : Int32))])) rfl (hb hby own_d9_5) rfl (by decide) (cap := 6) (by decide) (by decide) (by decide) (by decide) (ad := "[I") (by decide)
  obtain ⟨b2, g2⟩ : ∃ z, z = h0.size := ⟨_, rfl⟩
  rw [← g2] at A2 st2 EA2
  have ne_a0_b2 : a0 ≠ b2 := Nat.ne_of_lt (Nat.lt_of_lt_of_le HF0.lt (Nat.le_of_eq g2.symm))
  have ne_ar_b2 : ar ≠ b2 := Nat.ne_of_lt (Nat.lt_of_lt_of_le HF1.lt (Nat.le_of_eq g2.symm))
  have sz_b2 : h0.size ≤ b2 := Nat.le_trans K0.1 (Nat.le_of_eq g2.symm)
  have G_b2 : n0 ≤ b2 := Nat.le_trans Z0 sz_b2
  have K2 : Keep h0 h2 [] := K0.ext E2
  have F3 : Fld Z h2 a0 "com/example/shapewright/shapewright/regex/CodePointSet" "ranges" "[I" (.ref ar) := HF0.ext E2
  have F4 : ownAI Z h2 ar .int 6 g := HF1.ext E2
  have F5 : ownAI Z h2 b2 .int 6 (fun _ => (0 : Int32)) := ownAI.new A2 (by decide) rfl (by decide)
  refine ownGo (T' := T2) (f' := (mkF m 7 #[rv a0, .unset, .unset, .unset] [(.ref b2)])) (st2) ?_
  refine ow_astoreN (q := 8) X2 hx (L' := #[rv a0, rv b2, .unset, .unset]) (hb hby own_d9_7) rfl rfl rfl ?_
  refine ow_iconst (q := 9) X2 hx (0 : Int32) (hb hby own_d9_8) rfl rfl ?_
  refine ow_istoreN (q := 10) X2 hx (L' := #[rv a0, rv b2, iv (0 : Int32), .unset]) (hb hby own_d9_9) rfl rfl ?_
  refine ow_iconst (q := 11) X2 hx (0 : Int32) (hb hby own_d9_10) rfl rfl ?_
  refine ow_istoreN (q := 12) X2 hx (L' := #[rv a0, rv b2, iv (0 : Int32), iv (0 : Int32)]) (hb hby own_d9_11) rfl rfl ?_
  refine ow_iloadN (q := 13) X2 hx (hb hby own_d9_12) rfl rfl ?_
  refine ow_aloadN (q := 14) X2 hx (hb hby own_d9_13) rfl rfl rfl ?_
  obtain ⟨T6, X6, e6, st6⟩ := getF X2 hx hZ hown (host := "") (Or.inl (ww 48 rfl)) Via.refl e2 F3 (g := (mkF m 14 #[rv a0, rv b2, iv (0 : Int32), iv (0 : Int32)] [(.ref a0), (.int (0 : Int32))])) rfl rfl (hb hby own_d9_14)
  refine ownGo (T' := T6) (f' := (mkF m 17 #[rv a0, rv b2, iv (0 : Int32), iv (0 : Int32)] [(.ref ar), (.int (0 : Int32))])) (st6) ?_
  refine ownGo (T' := T6) (f' := (mkF m 18 #[rv a0, rv b2, iv (0 : Int32), iv (0 : Int32)] [(.int (6 : Int32)), (.int (0 : Int32))])) (ownLenI F4 X6 hx hZ e6 (z := (6 : Int32)) (by decide) (g := (mkF m 17 #[rv a0, rv b2, iv (0 : Int32), iv (0 : Int32)] [(.ref ar), (.int (0 : Int32))])) rfl rfl (hb hby own_d9_17)) ?_
  refine ow_icmpNo (q := 21) X6 hx (hb hby own_d9_18) rfl (Jvm.Free.XT.ii_ge_f (by decide)) ?_
  refine ow_aloadN (q := 22) X6 hx (hb hby own_d9_21) rfl rfl rfl ?_
  refine ow_iloadN (q := 23) X6 hx (hb hby own_d9_22) rfl rfl ?_
  refine ow_iinc (q := 26) X6 hx (L' := #[rv a0, rv b2, iv (1 : Int32), iv (0 : Int32)]) (hb hby own_d9_23) rfl rfl rfl ?_
  refine ow_aloadN (q := 27) X6 hx (hb hby own_d9_26) rfl rfl rfl ?_
  obtain ⟨T7, X7, e7, st7⟩ := getF X6 hx hZ hown (host := "") (Or.inl (ww 48 rfl)) Via.refl e6 F3 (g := (mkF m 27 #[rv a0, rv b2, iv (1 : Int32), iv (0 : Int32)] [(.ref a0), (.int (0 : Int32)), (.ref b2)])) rfl rfl (hb hby own_d9_27)
  refine ownGo (T' := T7) (f' := (mkF m 30 #[rv a0, rv b2, iv (1 : Int32), iv (0 : Int32)] [(.ref ar), (.int (0 : Int32)), (.ref b2)])) (st7) ?_
  refine ow_iloadN (q := 31) X7 hx (hb hby own_d9_30) rfl rfl ?_
  refine ownGo (T' := T7) (f' := (mkF m 32 #[rv a0, rv b2, iv (1 : Int32), iv (0 : Int32)] [(.int (g 0)), (.int (0 : Int32)), (.ref b2)])) (ownIaload F4 X7 hx hZ e7 (j := (0 : Int32)) (by unfold ownIn; decide) (g := (mkF m 31 #[rv a0, rv b2, iv (1 : Int32), iv (0 : Int32)] [(.int (0 : Int32)), (.ref ar), (.int (0 : Int32)), (.ref b2)])) rfl rfl (hb hby own_d9_31)) ?_
  generalize hv_v8 : (g 0) = v8
  obtain ⟨T9, h9, X9, e9, W9, F9s, st9⟩ := ownIastore F5 X7 hx hZ e7 (j := (0 : Int32)) (by unfold ownIn; decide) (g := (mkF m 32 #[rv a0, rv b2, iv (1 : Int32), iv (0 : Int32)] [(.int v8), (.int (0 : Int32)), (.ref b2)])) rfl rfl (hb hby own_d9_32)
  have F9r : ownAI Z h9 b2 .int 6 (ownUpd (fun _ => (0 : Int32)) 0 v8) := F9s
  have N9 := Fr.snoc X9 N0 G_b2
  have K9 : Keep h0 h9 [] := K2.wr W9 (Or.inr sz_b2)
  have F10 : Fld Z h9 a0 "com/example/shapewright/shapewright/regex/CodePointSet" "ranges" "[I" (.ref ar) := F3.other W9 (Or.inl ne_a0_b2)
  have F11 : ownAI Z h9 ar .int 6 g := F4.other W9 ne_ar_b2
  have F12 : Exa Z h9 b2 "[I" := EA2.wr W9
  refine ownGo (T' := T9) (f' := (mkF m 33 #[rv a0, rv b2, iv (1 : Int32), iv (0 : Int32)] [])) (st9) ?_
  refine ow_aloadN (q := 34) X9 hx (hb hby own_d9_33) rfl rfl rfl ?_
  obtain ⟨T13, X13, e13, st13⟩ := getF X9 hx hZ hown (host := "") (Or.inl (ww 48 rfl)) Via.refl e9 F10 (g := (mkF m 34 #[rv a0, rv b2, iv (1 : Int32), iv (0 : Int32)] [(.ref a0)])) rfl rfl (hb hby own_d9_34)
  refine ownGo (T' := T13) (f' := (mkF m 37 #[rv a0, rv b2, iv (1 : Int32), iv (0 : Int32)] [(.ref ar)])) (st13) ?_
  refine ow_iloadN (q := 38) X13 hx (hb hby own_d9_37) rfl rfl ?_
  refine ow_iconst (q := 39) X13 hx (1 : Int32) (hb hby own_d9_38) rfl rfl ?_
  refine ow_iadd (q := 40) X13 hx (1 : Int32) (hb hby own_d9_39) rfl (by decide) ?_
  refine ownGo (T' := T13) (f' := (mkF m 41 #[rv a0, rv b2, iv (1 : Int32), iv (0 : Int32)] [(.int (g 1))])) (ownIaload F11 X13 hx hZ e13 (j := (1 : Int32)) (by unfold ownIn; decide) (g := (mkF m 40 #[rv a0, rv b2, iv (1 : Int32), iv (0 : Int32)] [(.int (1 : Int32)), (.ref ar)])) rfl rfl (hb hby own_d9_40)) ?_
  generalize hv_v14 : (g 1) = v14
  refine ownGo (T' := T13) (f' := (mkF m 43 #[rv a0, rv b2, iv (1 : Int32), iv (0 : Int32)] [(.int (1114111 : Int32)), (.int v14)])) (X13.ldcInt hx hown (mvT hZ (ww 55 rfl)) (g := (mkF m 41 #[rv a0, rv b2, iv (1 : Int32), iv (0 : Int32)] [(.int v14)])) rfl (hb hby own_d9_41)) ?_
  refine ow_icmpNo (q := 46) X13 hx (hb hby own_d9_43) rfl (Jvm.Free.XT.ii_ge_f (by first | exact hl1 | (rw [hv_v14] at hl1; exact hl1))) ?_
  refine ow_aloadN (q := 47) X13 hx (hb hby own_d9_46) rfl rfl rfl ?_
  refine ow_iloadN (q := 48) X13 hx (hb hby own_d9_47) rfl rfl ?_
  refine ow_iinc (q := 51) X13 hx (L' := #[rv a0, rv b2, iv (2 : Int32), iv (0 : Int32)]) (hb hby own_d9_48) rfl rfl rfl ?_
  refine ow_aloadN (q := 52) X13 hx (hb hby own_d9_51) rfl rfl rfl ?_
  obtain ⟨T15, X15, e15, st15⟩ := getF X13 hx hZ hown (host := "") (Or.inl (ww 48 rfl)) Via.refl e13 F10 (g := (mkF m 52 #[rv a0, rv b2, iv (2 : Int32), iv (0 : Int32)] [(.ref a0), (.int (1 : Int32)), (.ref b2)])) rfl rfl (hb hby own_d9_52)
  refine ownGo (T' := T15) (f' := (mkF m 55 #[rv a0, rv b2, iv (2 : Int32), iv (0 : Int32)] [(.ref ar), (.int (1 : Int32)), (.ref b2)])) (st15) ?_
  refine ow_iloadN (q := 56) X15 hx (hb hby own_d9_55) rfl rfl ?_
  refine ow_iconst (q := 57) X15 hx (1 : Int32) (hb hby own_d9_56) rfl rfl ?_
  refine ow_iadd (q := 58) X15 hx (1 : Int32) (hb hby own_d9_57) rfl (by decide) ?_
  refine ownGo (T' := T15) (f' := (mkF m 59 #[rv a0, rv b2, iv (2 : Int32), iv (0 : Int32)] [(.int (g 1)), (.int (1 : Int32)), (.ref b2)])) (ownIaload F11 X15 hx hZ e15 (j := (1 : Int32)) (by unfold ownIn; decide) (g := (mkF m 58 #[rv a0, rv b2, iv (2 : Int32), iv (0 : Int32)] [(.int (1 : Int32)), (.ref ar), (.int (1 : Int32)), (.ref b2)])) rfl rfl (hb hby own_d9_58)) ?_
  generalize hv_v16 : (g 1) = v16
  refine ow_iconst (q := 60) X15 hx (1 : Int32) (hb hby own_d9_59) rfl rfl ?_
  refine ow_iadd (q := 61) X15 hx _ (hb hby own_d9_60) rfl rfl ?_
  generalize hv_v17 : (v16 + (1 : Int32)) = v17
  obtain ⟨T18, h18, X18, e18, W18, F18s, st18⟩ := ownIastore F9r X15 hx hZ e15 (j := (1 : Int32)) (by unfold ownIn; decide) (g := (mkF m 61 #[rv a0, rv b2, iv (2 : Int32), iv (0 : Int32)] [(.int v17), (.int (1 : Int32)), (.ref b2)])) rfl rfl (hb hby own_d9_61)
  have F18r : ownAI Z h18 b2 .int 6 (ownUpd (ownUpd (fun _ => (0 : Int32)) 0 v8) 1 v17) := F18s
  have N18 := Fr.snoc X18 N9 G_b2
  have K18 : Keep h0 h18 [] := K9.wr W18 (Or.inr sz_b2)
  have F19 : Fld Z h18 a0 "com/example/shapewright/shapewright/regex/CodePointSet" "ranges" "[I" (.ref ar) := F10.other W18 (Or.inl ne_a0_b2)
  have F20 : ownAI Z h18 ar .int 6 g := F11.other W18 ne_ar_b2
  have F21 : Exa Z h18 b2 "[I" := F12.wr W18
  refine ownGo (T' := T18) (f' := (mkF m 62 #[rv a0, rv b2, iv (2 : Int32), iv (0 : Int32)] [])) (st18) ?_
  refine ow_iinc (q := 65) X18 hx (L' := #[rv a0, rv b2, iv (2 : Int32), iv (2 : Int32)]) (hb hby own_d9_62) rfl rfl rfl ?_
  refine ow_goto (q := 12) X18 hx (hb hby own_d9_65) (by decide) (by decide) ?_
  refine ow_iloadN (q := 13) X18 hx (hb hby own_d9_12) rfl rfl ?_
  refine ow_aloadN (q := 14) X18 hx (hb hby own_d9_13) rfl rfl rfl ?_
  obtain ⟨T22, X22, e22, st22⟩ := getF X18 hx hZ hown (host := "") (Or.inl (ww 48 rfl)) Via.refl e18 F19 (g := (mkF m 14 #[rv a0, rv b2, iv (2 : Int32), iv (2 : Int32)] [(.ref a0), (.int (2 : Int32))])) rfl rfl (hb hby own_d9_14)
  refine ownGo (T' := T22) (f' := (mkF m 17 #[rv a0, rv b2, iv (2 : Int32), iv (2 : Int32)] [(.ref ar), (.int (2 : Int32))])) (st22) ?_
  refine ownGo (T' := T22) (f' := (mkF m 18 #[rv a0, rv b2, iv (2 : Int32), iv (2 : Int32)] [(.int (6 : Int32)), (.int (2 : Int32))])) (ownLenI F20 X22 hx hZ e22 (z := (6 : Int32)) (by decide) (g := (mkF m 17 #[rv a0, rv b2, iv (2 : Int32), iv (2 : Int32)] [(.ref ar), (.int (2 : Int32))])) rfl rfl (hb hby own_d9_17)) ?_
  refine ow_icmpNo (q := 21) X22 hx (hb hby own_d9_18) rfl (Jvm.Free.XT.ii_ge_f (by decide)) ?_
  refine ow_aloadN (q := 22) X22 hx (hb hby own_d9_21) rfl rfl rfl ?_
  refine ow_iloadN (q := 23) X22 hx (hb hby own_d9_22) rfl rfl ?_
  refine ow_iinc (q := 26) X22 hx (L' := #[rv a0, rv b2, iv (3 : Int32), iv (2 : Int32)]) (hb hby own_d9_23) rfl rfl rfl ?_
  refine ow_aloadN (q := 27) X22 hx (hb hby own_d9_26) rfl rfl rfl ?_
  obtain ⟨T23, X23, e23, st23⟩ := getF X22 hx hZ hown (host := "") (Or.inl (ww 48 rfl)) Via.refl e22 F19 (g := (mkF m 27 #[rv a0, rv b2, iv (3 : Int32), iv (2 : Int32)] [(.ref a0), (.int (2 : Int32)), (.ref b2)])) rfl rfl (hb hby own_d9_27)
  refine ownGo (T' := T23) (f' := (mkF m 30 #[rv a0, rv b2, iv (3 : Int32), iv (2 : Int32)] [(.ref ar), (.int (2 : Int32)), (.ref b2)])) (st23) ?_
  refine ow_iloadN (q := 31) X23 hx (hb hby own_d9_30) rfl rfl ?_
  refine ownGo (T' := T23) (f' := (mkF m 32 #[rv a0, rv b2, iv (3 : Int32), iv (2 : Int32)] [(.int (g 2)), (.int (2 : Int32)), (.ref b2)])) (ownIaload F20 X23 hx hZ e23 (j := (2 : Int32)) (by unfold ownIn; decide) (g := (mkF m 31 #[rv a0, rv b2, iv (3 : Int32), iv (2 : Int32)] [(.int (2 : Int32)), (.ref ar), (.int (2 : Int32)), (.ref b2)])) rfl rfl (hb hby own_d9_31)) ?_
  generalize hv_v24 : (g 2) = v24
  obtain ⟨T25, h25, X25, e25, W25, F25s, st25⟩ := ownIastore F18r X23 hx hZ e23 (j := (2 : Int32)) (by unfold ownIn; decide) (g := (mkF m 32 #[rv a0, rv b2, iv (3 : Int32), iv (2 : Int32)] [(.int v24), (.int (2 : Int32)), (.ref b2)])) rfl rfl (hb hby own_d9_32)
  have F25r : ownAI Z h25 b2 .int 6 (ownUpd (ownUpd (ownUpd (fun _ => (0 : Int32)) 0 v8) 1 v17) 2 v24) := F25s
  have N25 := Fr.snoc X25 N18 G_b2
  have K25 : Keep h0 h25 [] := K18.wr W25 (Or.inr sz_b2)
  have F26 : Fld Z h25 a0 "com/example/shapewright/shapewright/regex/CodePointSet" "ranges" "[I" (.ref ar) := F19.other W25 (Or.inl ne_a0_b2)
  have F27 : ownAI Z h25 ar .int 6 g := F20.other W25 ne_ar_b2
  have F28 : Exa Z h25 b2 "[I" := F21.wr W25
  refine ownGo (T' := T25) (f' := (mkF m 33 #[rv a0, rv b2, iv (3 : Int32), iv (2 : Int32)] [])) (st25) ?_
  refine ow_aloadN (q := 34) X25 hx (hb hby own_d9_33) rfl rfl rfl ?_
  obtain ⟨T29, X29, e29, st29⟩ := getF X25 hx hZ hown (host := "") (Or.inl (ww 48 rfl)) Via.refl e25 F26 (g := (mkF m 34 #[rv a0, rv b2, iv (3 : Int32), iv (2 : Int32)] [(.ref a0)])) rfl rfl (hb hby own_d9_34)
  refine ownGo (T' := T29) (f' := (mkF m 37 #[rv a0, rv b2, iv (3 : Int32), iv (2 : Int32)] [(.ref ar)])) (st29) ?_
  refine ow_iloadN (q := 38) X29 hx (hb hby own_d9_37) rfl rfl ?_
  refine ow_iconst (q := 39) X29 hx (1 : Int32) (hb hby own_d9_38) rfl rfl ?_
  refine ow_iadd (q := 40) X29 hx (3 : Int32) (hb hby own_d9_39) rfl (by decide) ?_
  refine ownGo (T' := T29) (f' := (mkF m 41 #[rv a0, rv b2, iv (3 : Int32), iv (2 : Int32)] [(.int (g 3))])) (ownIaload F27 X29 hx hZ e29 (j := (3 : Int32)) (by unfold ownIn; decide) (g := (mkF m 40 #[rv a0, rv b2, iv (3 : Int32), iv (2 : Int32)] [(.int (3 : Int32)), (.ref ar)])) rfl rfl (hb hby own_d9_40)) ?_
  generalize hv_v30 : (g 3) = v30
  refine ownGo (T' := T29) (f' := (mkF m 43 #[rv a0, rv b2, iv (3 : Int32), iv (2 : Int32)] [(.int (1114111 : Int32)), (.int v30)])) (X29.ldcInt hx hown (mvT hZ (ww 55 rfl)) (g := (mkF m 41 #[rv a0, rv b2, iv (3 : Int32), iv (2 : Int32)] [(.int v30)])) rfl (hb hby own_d9_41)) ?_
  refine ow_icmpNo (q := 46) X29 hx (hb hby own_d9_43) rfl (Jvm.Free.XT.ii_ge_f (by first | exact hl3 | (rw [hv_v30] at hl3; exact hl3))) ?_
  refine ow_aloadN (q := 47) X29 hx (hb hby own_d9_46) rfl rfl rfl ?_
  refine ow_iloadN (q := 48) X29 hx (hb hby own_d9_47) rfl rfl ?_
  refine ow_iinc (q := 51) X29 hx (L' := #[rv a0, rv b2, iv (4 : Int32), iv (2 : Int32)]) (hb hby own_d9_48) rfl rfl rfl ?_
  refine ow_aloadN (q := 52) X29 hx (hb hby own_d9_51) rfl rfl rfl ?_
  obtain ⟨T31, X31, e31, st31⟩ := getF X29 hx hZ hown (host := "") (Or.inl (ww 48 rfl)) Via.refl e29 F26 (g := (mkF m 52 #[rv a0, rv b2, iv (4 : Int32), iv (2 : Int32)] [(.ref a0), (.int (3 : Int32)), (.ref b2)])) rfl rfl (hb hby own_d9_52)
  refine ownGo (T' := T31) (f' := (mkF m 55 #[rv a0, rv b2, iv (4 : Int32), iv (2 : Int32)] [(.ref ar), (.int (3 : Int32)), (.ref b2)])) (st31) ?_
  refine ow_iloadN (q := 56) X31 hx (hb hby own_d9_55) rfl rfl ?_
  refine ow_iconst (q := 57) X31 hx (1 : Int32) (hb hby own_d9_56) rfl rfl ?_
  refine ow_iadd (q := 58) X31 hx (3 : Int32) (hb hby own_d9_57) rfl (by decide) ?_
  refine ownGo (T' := T31) (f' := (mkF m 59 #[rv a0, rv b2, iv (4 : Int32), iv (2 : Int32)] [(.int (g 3)), (.int (3 : Int32)), (.ref b2)])) (ownIaload F27 X31 hx hZ e31 (j := (3 : Int32)) (by unfold ownIn; decide) (g := (mkF m 58 #[rv a0, rv b2, iv (4 : Int32), iv (2 : Int32)] [(.int (3 : Int32)), (.ref ar), (.int (3 : Int32)), (.ref b2)])) rfl rfl (hb hby own_d9_58)) ?_
  generalize hv_v32 : (g 3) = v32
  refine ow_iconst (q := 60) X31 hx (1 : Int32) (hb hby own_d9_59) rfl rfl ?_
  refine ow_iadd (q := 61) X31 hx _ (hb hby own_d9_60) rfl rfl ?_
  generalize hv_v33 : (v32 + (1 : Int32)) = v33
  obtain ⟨T34, h34, X34, e34, W34, F34s, st34⟩ := ownIastore F25r X31 hx hZ e31 (j := (3 : Int32)) (by unfold ownIn; decide) (g := (mkF m 61 #[rv a0, rv b2, iv (4 : Int32), iv (2 : Int32)] [(.int v33), (.int (3 : Int32)), (.ref b2)])) rfl rfl (hb hby own_d9_61)
  have F34r : ownAI Z h34 b2 .int 6 (ownUpd (ownUpd (ownUpd (ownUpd (fun _ => (0 : Int32)) 0 v8) 1 v17) 2 v24) 3 v33) := F34s
  have N34 := Fr.snoc X34 N25 G_b2
  have K34 : Keep h0 h34 [] := K25.wr W34 (Or.inr sz_b2)
  have F35 : Fld Z h34 a0 "com/example/shapewright/shapewright/regex/CodePointSet" "ranges" "[I" (.ref ar) := F26.other W34 (Or.inl ne_a0_b2)
  have F36 : ownAI Z h34 ar .int 6 g := F27.other W34 ne_ar_b2
  have F37 : Exa Z h34 b2 "[I" := F28.wr W34
  refine ownGo (T' := T34) (f' := (mkF m 62 #[rv a0, rv b2, iv (4 : Int32), iv (2 : Int32)] [])) (st34) ?_
  refine ow_iinc (q := 65) X34 hx (L' := #[rv a0, rv b2, iv (4 : Int32), iv (4 : Int32)]) (hb hby own_d9_62) rfl rfl rfl ?_
  refine ow_goto (q := 12) X34 hx (hb hby own_d9_65) (by decide) (by decide) ?_
  refine ow_iloadN (q := 13) X34 hx (hb hby own_d9_12) rfl rfl ?_
  refine ow_aloadN (q := 14) X34 hx (hb hby own_d9_13) rfl rfl rfl ?_
  obtain ⟨T38, X38, e38, st38⟩ := getF X34 hx hZ hown (host := "") (Or.inl (ww 48 rfl)) Via.refl e34 F35 (g := (mkF m 14 #[rv a0, rv b2, iv (4 : Int32), iv (4 : Int32)] [(.ref a0), (.int (4 : Int32))])) rfl rfl (hb hby own_d9_14)
  refine ownGo (T' := T38) (f' := (mkF m 17 #[rv a0, rv b2, iv (4 : Int32), iv (4 : Int32)] [(.ref ar), (.int (4 : Int32))])) (st38) ?_
  refine ownGo (T' := T38) (f' := (mkF m 18 #[rv a0, rv b2, iv (4 : Int32), iv (4 : Int32)] [(.int (6 : Int32)), (.int (4 : Int32))])) (ownLenI F36 X38 hx hZ e38 (z := (6 : Int32)) (by decide) (g := (mkF m 17 #[rv a0, rv b2, iv (4 : Int32), iv (4 : Int32)] [(.ref ar), (.int (4 : Int32))])) rfl rfl (hb hby own_d9_17)) ?_
  refine ow_icmpNo (q := 21) X38 hx (hb hby own_d9_18) rfl (Jvm.Free.XT.ii_ge_f (by decide)) ?_
  refine ow_aloadN (q := 22) X38 hx (hb hby own_d9_21) rfl rfl rfl ?_
  refine ow_iloadN (q := 23) X38 hx (hb hby own_d9_22) rfl rfl ?_
  refine ow_iinc (q := 26) X38 hx (L' := #[rv a0, rv b2, iv (5 : Int32), iv (4 : Int32)]) (hb hby own_d9_23) rfl rfl rfl ?_
  refine ow_aloadN (q := 27) X38 hx (hb hby own_d9_26) rfl rfl rfl ?_
  obtain ⟨T39, X39, e39, st39⟩ := getF X38 hx hZ hown (host := "") (Or.inl (ww 48 rfl)) Via.refl e38 F35 (g := (mkF m 27 #[rv a0, rv b2, iv (5 : Int32), iv (4 : Int32)] [(.ref a0), (.int (4 : Int32)), (.ref b2)])) rfl rfl (hb hby own_d9_27)
  refine ownGo (T' := T39) (f' := (mkF m 30 #[rv a0, rv b2, iv (5 : Int32), iv (4 : Int32)] [(.ref ar), (.int (4 : Int32)), (.ref b2)])) (st39) ?_
  refine ow_iloadN (q := 31) X39 hx (hb hby own_d9_30) rfl rfl ?_
  refine ownGo (T' := T39) (f' := (mkF m 32 #[rv a0, rv b2, iv (5 : Int32), iv (4 : Int32)] [(.int (g 4)), (.int (4 : Int32)), (.ref b2)])) (ownIaload F36 X39 hx hZ e39 (j := (4 : Int32)) (by unfold ownIn; decide) (g := (mkF m 31 #[rv a0, rv b2, iv (5 : Int32), iv (4 : Int32)] [(.int (4 : Int32)), (.ref ar), (.int (4 : Int32)), (.ref b2)])) rfl rfl (hb hby own_d9_31)) ?_
  generalize hv_v40 : (g 4) = v40
  obtain ⟨T41, h41, X41, e41, W41, F41s, st41⟩ := ownIastore F34r X39 hx hZ e39 (j := (4 : Int32)) (by unfold ownIn; decide) (g := (mkF m 32 #[rv a0, rv b2, iv (5 : Int32), iv (4 : Int32)] [(.int v40), (.int (4 : Int32)), (.ref b2)])) rfl rfl (hb hby own_d9_32)
  have F41r : ownAI Z h41 b2 .int 6 (ownUpd (ownUpd (ownUpd (ownUpd (ownUpd (fun _ => (0 : Int32)) 0 v8) 1 v17) 2 v24) 3 v33) 4 v40) := F41s
  have N41 := Fr.snoc X41 N34 G_b2
  have K41 : Keep h0 h41 [] := K34.wr W41 (Or.inr sz_b2)
  have F42 : Fld Z h41 a0 "com/example/shapewright/shapewright/regex/CodePointSet" "ranges" "[I" (.ref ar) := F35.other W41 (Or.inl ne_a0_b2)
  have F43 : ownAI Z h41 ar .int 6 g := F36.other W41 ne_ar_b2
  have F44 : Exa Z h41 b2 "[I" := F37.wr W41
  refine ownGo (T' := T41) (f' := (mkF m 33 #[rv a0, rv b2, iv (5 : Int32), iv (4 : Int32)] [])) (st41) ?_
  refine ow_aloadN (q := 34) X41 hx (hb hby own_d9_33) rfl rfl rfl ?_
  obtain ⟨T45, X45, e45, st45⟩ := getF X41 hx hZ hown (host := "") (Or.inl (ww 48 rfl)) Via.refl e41 F42 (g := (mkF m 34 #[rv a0, rv b2, iv (5 : Int32), iv (4 : Int32)] [(.ref a0)])) rfl rfl (hb hby own_d9_34)
  refine ownGo (T' := T45) (f' := (mkF m 37 #[rv a0, rv b2, iv (5 : Int32), iv (4 : Int32)] [(.ref ar)])) (st45) ?_
  refine ow_iloadN (q := 38) X45 hx (hb hby own_d9_37) rfl rfl ?_
  refine ow_iconst (q := 39) X45 hx (1 : Int32) (hb hby own_d9_38) rfl rfl ?_
  refine ow_iadd (q := 40) X45 hx (5 : Int32) (hb hby own_d9_39) rfl (by decide) ?_
  refine ownGo (T' := T45) (f' := (mkF m 41 #[rv a0, rv b2, iv (5 : Int32), iv (4 : Int32)] [(.int (g 5))])) (ownIaload F43 X45 hx hZ e45 (j := (5 : Int32)) (by unfold ownIn; decide) (g := (mkF m 40 #[rv a0, rv b2, iv (5 : Int32), iv (4 : Int32)] [(.int (5 : Int32)), (.ref ar)])) rfl rfl (hb hby own_d9_40)) ?_
  generalize hv_v46 : (g 5) = v46
  refine ownGo (T' := T45) (f' := (mkF m 43 #[rv a0, rv b2, iv (5 : Int32), iv (4 : Int32)] [(.int (1114111 : Int32)), (.int v46)])) (X45.ldcInt hx hown (mvT hZ (ww 55 rfl)) (g := (mkF m 41 #[rv a0, rv b2, iv (5 : Int32), iv (4 : Int32)] [(.int v46)])) rfl (hb hby own_d9_41)) ?_
  refine ow_icmpYes (q := 62) X45 hx (hb hby own_d9_43) (Jvm.Free.XT.ii_ge_t (by first | exact hl5 | (rw [hv_v46] at hl5; exact hl5))) (by decide) (by decide) ?_
  refine ow_iinc (q := 65) X45 hx (L' := #[rv a0, rv b2, iv (5 : Int32), iv (6 : Int32)]) (hb hby own_d9_62) rfl rfl rfl ?_
  refine ow_goto (q := 12) X45 hx (hb hby own_d9_65) (by decide) (by decide) ?_
  refine ow_iloadN (q := 13) X45 hx (hb hby own_d9_12) rfl rfl ?_
  refine ow_aloadN (q := 14) X45 hx (hb hby own_d9_13) rfl rfl rfl ?_
  obtain ⟨T47, X47, e47, st47⟩ := getF X45 hx hZ hown (host := "") (Or.inl (ww 48 rfl)) Via.refl e45 F42 (g := (mkF m 14 #[rv a0, rv b2, iv (5 : Int32), iv (6 : Int32)] [(.ref a0), (.int (6 : Int32))])) rfl rfl (hb hby own_d9_14)
  refine ownGo (T' := T47) (f' := (mkF m 17 #[rv a0, rv b2, iv (5 : Int32), iv (6 : Int32)] [(.ref ar), (.int (6 : Int32))])) (st47) ?_
  refine ownGo (T' := T47) (f' := (mkF m 18 #[rv a0, rv b2, iv (5 : Int32), iv (6 : Int32)] [(.int (6 : Int32)), (.int (6 : Int32))])) (ownLenI F43 X47 hx hZ e47 (z := (6 : Int32)) (by decide) (g := (mkF m 17 #[rv a0, rv b2, iv (5 : Int32), iv (6 : Int32)] [(.ref ar), (.int (6 : Int32))])) rfl rfl (hb hby own_d9_17)) ?_
  refine ow_icmpYes (q := 68) X47 hx (hb hby own_d9_18) (Jvm.Free.XT.ii_ge_t (by decide)) (by decide) (by decide) ?_
  refine ow_aloadN (q := 69) X47 hx (hb hby own_d9_68) rfl rfl rfl ?_
  refine ow_iloadN (q := 70) X47 hx (hb hby own_d9_69) rfl rfl ?_
  obtain ⟨_, _, ⟨T48, L48, k48, n48⟩, -, X48, ⟨Lc48, hQ48, l48, y48, z48⟩, st48⟩ := Jvm.LawKit.callS X47 hx (y := (⟨"java/util/Arrays", "copyOf", "([II)[I"⟩ : MethodName)) hown (mvT hZ (ww 56 rfl)) (mvT hZ (ww 34 rfl)) (mvT hZ (ww 35 rfl)) (mvT hZ (ww 36 rfl)) (by decide) (backOf (W := 0) (rm_copyOf_6_5 l Z av0 hw [] b2 (ownUpd (ownUpd (ownUpd (ownUpd (ownUpd (fun _ => (0 : Int32)) 0 v8) 1 v17) 2 v24) 3 v33) 4 v40) h41 n0 (Nat.le_trans Z0 K41.1) F41r) hZ (ww 36 rfl) (ww 35 rfl) (by decide) (by decide)) (g := (mkF m 70 #[rv a0, rv b2, iv (5 : Int32), iv (6 : Int32)] [(.int (5 : Int32)), (.ref b2)])) rfl (by rw [hml]; rfl) (argsL := [(.ref b2), (.int (5 : Int32))]) (rest := []) (lenOf own_pd1 rfl) rfl (by show 2 * 0 + _ ≤ _; exact Nat.le_of_eq rfl) (hb hby own_d9_70) (fun _ _ => ⟨rfl, e47, (by decide : 1 + 1 ≤ _), (by decide : 6 + 5 ≤ _)⟩)
  dsimp only [Pt.U, Pt.locs, Pt.cells, Pt.slots] at X48 l48 y48 z48 st48 hQ48
  subst l48 y48 z48
  obtain ⟨b48, rfl, N48q, Kq48, sq48_b48, FP48_0⟩ := hQ48
  have N48 := Fr.app N41 N48q
  have K48 : Keep h0 T48.heap [] := K41.trans Kq48 all0
  have ne_a0_b48 : a0 ≠ b48 := Nat.ne_of_lt (Nat.lt_of_lt_of_le F42.lt sq48_b48)
  have ne_ar_b48 : ar ≠ b48 := Nat.ne_of_lt (Nat.lt_of_lt_of_le F43.lt sq48_b48)
  have ne_b2_b48 : b2 ≠ b48 := Nat.ne_of_lt (Nat.lt_of_lt_of_le F44.lt sq48_b48)
  have sz_b48 : h0.size ≤ b48 := Nat.le_trans K41.1 sq48_b48
  have G_b48 : n0 ≤ b48 := Nat.le_trans Z0 sz_b48
  have F49 : Fld Z T48.heap a0 "com/example/shapewright/shapewright/regex/CodePointSet" "ranges" "[I" (.ref ar) := F42.keep Kq48 nin0
  have F50 : ownAI Z T48.heap ar .int 6 g := F43.keep Kq48 nin0
  have F51 : Exa Z T48.heap b2 "[I" := F44.keep Kq48
  have F52 : ownAI Z T48.heap b2 .int 6 (ownUpd (ownUpd (ownUpd (ownUpd (ownUpd (fun _ => (0 : Int32)) 0 v8) 1 v17) 2 v24) 3 v33) 4 v40) := F41r.keep Kq48 nin0
  refine ownGo (T' := T48) (f' := (mkF m 73 #[rv a0, rv b2, iv (5 : Int32), iv (6 : Int32)] [(.ref b48)])) (st48) ?_
  refine ownRetR X48 hx rfl rfl rfl Bd.returns (hb hby own_d9_73) hlk (by decide) (by decide) ?_
  subst hv_v46 hv_v40 hv_v33 hv_v32 hv_v30 hv_v24 hv_v17 hv_v16 hv_v14 hv_v8
  exact ⟨b48, rfl, N48, K48, sz_b48, FP48_0⟩
theorem own_pn_BuilderAddPinLaw : plainName "com/example/shapewright/shapewright/regex/BuilderAddPinLaw" = true := by first | (simp [plainName, overriddenIn]; done) | decide +kernel
theorem own_d11_0 : decode method_2_code 0 = .ok (.aload_n 0, 1) := by decide +kernel
theorem own_d11_1 : decode method_2_code 1 = .ok (.iconst 0, 1) := by decide +kernel
theorem own_d11_2 : decode method_2_code 2 = .ok (.iaload, 1) := by decide +kernel
theorem own_d11_3 : decode method_2_code 3 = .ok (.iload_n 1, 1) := by decide +kernel
theorem own_d11_4 : decode method_2_code 4 = .ok (.if_icmp .gt 10, 3) := by decide +kernel
theorem own_d11_14 : decode method_2_code 14 = .ok (.aload_n 0, 1) := by decide +kernel
theorem own_d11_15 : decode method_2_code 15 = .ok (.iconst 2, 1) := by decide +kernel
theorem own_d11_16 : decode method_2_code 16 = .ok (.iaload, 1) := by decide +kernel
theorem own_d11_17 : decode method_2_code 17 = .ok (.iload_n 1, 1) := by decide +kernel
theorem own_d11_18 : decode method_2_code 18 = .ok (.if_icmp .gt 10, 3) := by decide +kernel
theorem own_d11_28 : decode method_2_code 28 = .ok (.aload_n 0, 1) := by decide +kernel
theorem own_d11_29 : decode method_2_code 29 = .ok (.iconst 4, 1) := by decide +kernel
theorem own_d11_30 : decode method_2_code 30 = .ok (.iaload, 1) := by decide +kernel
theorem own_d11_31 : decode method_2_code 31 = .ok (.iload_n 1, 1) := by decide +kernel
theorem own_d11_32 : decode method_2_code 32 = .ok (.if_icmp .gt 14, 3) := by decide +kernel
theorem own_d11_46 : decode method_2_code 46 = .ok (.iconst 0, 1) := by decide +kernel
theorem own_d11_47 : decode method_2_code 47 = .ok (.ireturn, 1) := by decide +kernel
theorem own_d11_35 : decode method_2_code 35 = .ok (.iload_n 1, 1) := by decide +kernel
theorem own_d11_36 : decode method_2_code 36 = .ok (.aload_n 0, 1) := by decide +kernel
theorem own_d11_37 : decode method_2_code 37 = .ok (.iconst 5, 1) := by decide +kernel
theorem own_d11_38 : decode method_2_code 38 = .ok (.iaload, 1) := by decide +kernel
theorem own_d11_39 : decode method_2_code 39 = .ok (.if_icmp .gt 7, 3) := by decide +kernel
theorem own_d11_42 : decode method_2_code 42 = .ok (.iconst 1, 1) := by decide +kernel
theorem own_d11_43 : decode method_2_code 43 = .ok (.goto 4, 3) := by decide +kernel
theorem own_d11_21 : decode method_2_code 21 = .ok (.iload_n 1, 1) := by decide +kernel
theorem own_d11_22 : decode method_2_code 22 = .ok (.aload_n 0, 1) := by decide +kernel
theorem own_d11_23 : decode method_2_code 23 = .ok (.iconst 3, 1) := by decide +kernel
theorem own_d11_24 : decode method_2_code 24 = .ok (.iaload, 1) := by decide +kernel
theorem own_d11_25 : decode method_2_code 25 = .ok (.if_icmp .le 17, 3) := by decide +kernel
theorem own_d11_7 : decode method_2_code 7 = .ok (.iload_n 1, 1) := by decide +kernel
theorem own_d11_8 : decode method_2_code 8 = .ok (.aload_n 0, 1) := by decide +kernel
theorem own_d11_9 : decode method_2_code 9 = .ok (.iconst 1, 1) := by decide +kernel
theorem own_d11_10 : decode method_2_code 10 = .ok (.iaload, 1) := by decide +kernel
theorem own_d11_11 : decode method_2_code 11 = .ok (.if_icmp .le 31, 3) := by decide +kernel
theorem own_ef11_in (m : MethodId) (a0 : Addr) (p1 : Int32) : entryFrame m #[(.ref a0), (.int p1)] 2 = mkF m 0 #[rv a0, iv p1] [] := by first | (simp [entryFrame, mkF, argsToLocals, Value.category]; done) | rfl
def Q_in (Z : State) (a0 : Addr) (p1 : Int32) (g : Nat → Int32) (h0 : Heap) (n0 : Nat) (v : Option Value) (h : Heap) (L : List Loc) : Prop := v = some (.int (own_inn (g 0) (g 1) (g 2) (g 3) (g 4) (g 5) p1)) ∧ Fr n0 L ∧ h = h0
set_option maxRecDepth 65536 in
set_option maxHeartbeats 40000000 in
theorem rm_in (l : Launch) (Z : State) (av0 : Array Value) (hw : ∀ d ∈ tables_1, d.before av0 Z = true) (ws : List Jvm.Cond) (a0 : Addr) (p1 : Int32) (g : Nat → Int32) (h0 : Heap) (n0 : Nat) (Z0 : n0 ≤ h0.size) (HF0 : ownAI Z h0 a0 .int 6 g) :
    MetFree l (⟨"com/example/shapewright/shapewright/regex/BuilderAddPinLaw", "in", "([II)Z"⟩ : MethodName) (head1 (Jvm.Cond.code (⟨"com/example/shapewright/shapewright/regex/BuilderAddPinLaw", "in", "([II)Z"⟩ : MethodName) method_2_code 2 (some .boolean) :: ws) ({ frames := 0, cells := 0, slots := 0, locals := 0 } : Room)) (fun a U => a = #[(.ref a0), (.int p1)] ∧ Z.Warmed39 U.vm ∧ U.heap = h0) (fun _ _ _ _ _ => True) (fun _ U o U' => ∃ v L, o = .returned v ∧ (Q_in Z a0 p1 g h0 n0) v U'.heap L ∧ FrameEnd U o U' L ({ frames := 0, cells := 0, slots := 0, locals := 0 } : Room).cells ({ frames := 0, cells := 0, slots := 0, locals := 0 } : Room).slots) := by
  refine MetFree.of_bodySF (plainFor_of_name own_pn_BuilderAddPinLaw) hisR ?_
  intro p e s m args below meth c s₁ Bd hml0 hP hK
  obtain ⟨rfl, hZ, hh⟩ := hP
  have hx := Bd.exec
  have hby := Bd.bytes
  have hml : c.maxLocals = 2 := hml0
  have hown : s.vm.findClass "com/example/shapewright/shapewright/regex/BuilderAddPinLaw" = some m.cls := findClass_of_methodNamed Bd.named
  have hnm := (name_of_methodNamed Bd.named Bd.method).1
  have hlk : meth.locks = false := BodyLoose.notSynchronized Bd
  have X0 : Stand p l e ({ frames := 0, cells := 0, slots := 0, locals := 0 } : Room) s m #[(.ref a0), (.int p1)] below meth c s₁ [] 0 0 := Stand.of_body Bd
  have e0 : s₁.heap = h0 := by rw [← hh, Bd.state]; rfl
  have N0 := Fr.nil n0
  have K0 : Keep h0 h0 [] := Keep.refl _ _
  have ww : ∀ (k : Nat) {d : Jvm.Cond}, tables_1[k]? = some d → d.before av0 Z = true := fun k d h => hw d (List.mem_of_getElem? h)
  show ownEnds p e below s (Q_in Z a0 p1 g h0 n0) ({ frames := 0, cells := 0, slots := 0, locals := 0 } : Room).cells ({ frames := 0, cells := 0, slots := 0, locals := 0 } : Room).slots s₁ (entryFrame m #[(.ref a0), (.int p1)] 2)
  refine ownCast (own_ef11_in m a0 p1) ?_
  refine ow_aloadN (q := 1) X0 hx (hb hby own_d11_0) rfl rfl rfl ?_
  refine ow_iconst (q := 2) X0 hx (0 : Int32) (hb hby own_d11_1) rfl rfl ?_
  refine ownGo (T' := s₁) (f' := (mkF m 3 #[rv a0, iv p1] [(.int (g 0))])) (ownIaload HF0 X0 hx hZ e0 (j := (0 : Int32)) (by unfold ownIn; decide) (g := (mkF m 2 #[rv a0, iv p1] [(.int (0 : Int32)), (.ref a0)])) rfl rfl (hb hby own_d11_2)) ?_
  generalize hv_v1 : (g 0) = v1
  refine ow_iloadN (q := 4) X0 hx (hb hby own_d11_3) rfl rfl ?_
  by_cases hc4_2 : p1 < v1
  · refine ow_icmpYes (q := 14) X0 hx (hb hby own_d11_4) (Jvm.Free.XT.ii_gt_t hc4_2) (by decide) (by decide) ?_
    refine ow_aloadN (q := 15) X0 hx (hb hby own_d11_14) rfl rfl rfl ?_
    refine ow_iconst (q := 16) X0 hx (2 : Int32) (hb hby own_d11_15) rfl rfl ?_
    refine ownGo (T' := s₁) (f' := (mkF m 17 #[rv a0, iv p1] [(.int (g 2))])) (ownIaload HF0 X0 hx hZ e0 (j := (2 : Int32)) (by unfold ownIn; decide) (g := (mkF m 16 #[rv a0, iv p1] [(.int (2 : Int32)), (.ref a0)])) rfl rfl (hb hby own_d11_16)) ?_
    generalize hv_v3 : (g 2) = v3
    refine ow_iloadN (q := 18) X0 hx (hb hby own_d11_17) rfl rfl ?_
    by_cases hc18_4 : p1 < v3
    · refine ow_icmpYes (q := 28) X0 hx (hb hby own_d11_18) (Jvm.Free.XT.ii_gt_t hc18_4) (by decide) (by decide) ?_
      refine ow_aloadN (q := 29) X0 hx (hb hby own_d11_28) rfl rfl rfl ?_
      refine ow_iconst (q := 30) X0 hx (4 : Int32) (hb hby own_d11_29) rfl rfl ?_
      refine ownGo (T' := s₁) (f' := (mkF m 31 #[rv a0, iv p1] [(.int (g 4))])) (ownIaload HF0 X0 hx hZ e0 (j := (4 : Int32)) (by unfold ownIn; decide) (g := (mkF m 30 #[rv a0, iv p1] [(.int (4 : Int32)), (.ref a0)])) rfl rfl (hb hby own_d11_30)) ?_
      generalize hv_v5 : (g 4) = v5
      refine ow_iloadN (q := 32) X0 hx (hb hby own_d11_31) rfl rfl ?_
      by_cases hc32_6 : p1 < v5
      · refine ow_icmpYes (q := 46) X0 hx (hb hby own_d11_32) (Jvm.Free.XT.ii_gt_t hc32_6) (by decide) (by decide) ?_
        refine ow_iconst (q := 47) X0 hx (0 : Int32) (hb hby own_d11_46) rfl rfl ?_
        refine ownRetN X0 hx (r := (0 : Int32)) (Or.inl rfl) Bd.returns (hb hby own_d11_47) hlk (by decide) (by decide) (by decide) ?_
        subst hv_v5 hv_v3 hv_v1
        rw [e0]
        refine ⟨congrArg (fun q => some (Value.int q)) ?_, N0, rfl⟩
        simp [own_inn, hc4_2, hc18_4, hc32_6]
      · refine ow_icmpNo (q := 35) X0 hx (hb hby own_d11_32) rfl (Jvm.Free.XT.ii_gt_f hc32_6) ?_
        refine ow_iloadN (q := 36) X0 hx (hb hby own_d11_35) rfl rfl ?_
        refine ow_aloadN (q := 37) X0 hx (hb hby own_d11_36) rfl rfl rfl ?_
        refine ow_iconst (q := 38) X0 hx (5 : Int32) (hb hby own_d11_37) rfl rfl ?_
        refine ownGo (T' := s₁) (f' := (mkF m 39 #[rv a0, iv p1] [(.int (g 5)), (.int p1)])) (ownIaload HF0 X0 hx hZ e0 (j := (5 : Int32)) (by unfold ownIn; decide) (g := (mkF m 38 #[rv a0, iv p1] [(.int (5 : Int32)), (.ref a0), (.int p1)])) rfl rfl (hb hby own_d11_38)) ?_
        generalize hv_v7 : (g 5) = v7
        by_cases hc39_8 : v7 < p1
        · refine ow_icmpYes (q := 46) X0 hx (hb hby own_d11_39) (Jvm.Free.XT.ii_gt_t hc39_8) (by decide) (by decide) ?_
          refine ow_iconst (q := 47) X0 hx (0 : Int32) (hb hby own_d11_46) rfl rfl ?_
          refine ownRetN X0 hx (r := (0 : Int32)) (Or.inl rfl) Bd.returns (hb hby own_d11_47) hlk (by decide) (by decide) (by decide) ?_
          subst hv_v7 hv_v5 hv_v3 hv_v1
          rw [e0]
          refine ⟨congrArg (fun q => some (Value.int q)) ?_, N0, rfl⟩
          simp [own_inn, hc4_2, hc18_4, hc32_6, hc39_8]
        · refine ow_icmpNo (q := 42) X0 hx (hb hby own_d11_39) rfl (Jvm.Free.XT.ii_gt_f hc39_8) ?_
          refine ow_iconst (q := 43) X0 hx (1 : Int32) (hb hby own_d11_42) rfl rfl ?_
          refine ow_goto (q := 47) X0 hx (hb hby own_d11_43) (by decide) (by decide) ?_
          refine ownRetN X0 hx (r := (1 : Int32)) (Or.inl rfl) Bd.returns (hb hby own_d11_47) hlk (by decide) (by decide) (by decide) ?_
          subst hv_v7 hv_v5 hv_v3 hv_v1
          rw [e0]
          refine ⟨congrArg (fun q => some (Value.int q)) ?_, N0, rfl⟩
          simp [own_inn, hc4_2, hc18_4, hc32_6, hc39_8]
    · refine ow_icmpNo (q := 21) X0 hx (hb hby own_d11_18) rfl (Jvm.Free.XT.ii_gt_f hc18_4) ?_
      refine ow_iloadN (q := 22) X0 hx (hb hby own_d11_21) rfl rfl ?_
      refine ow_aloadN (q := 23) X0 hx (hb hby own_d11_22) rfl rfl rfl ?_
      refine ow_iconst (q := 24) X0 hx (3 : Int32) (hb hby own_d11_23) rfl rfl ?_
      refine ownGo (T' := s₁) (f' := (mkF m 25 #[rv a0, iv p1] [(.int (g 3)), (.int p1)])) (ownIaload HF0 X0 hx hZ e0 (j := (3 : Int32)) (by unfold ownIn; decide) (g := (mkF m 24 #[rv a0, iv p1] [(.int (3 : Int32)), (.ref a0), (.int p1)])) rfl rfl (hb hby own_d11_24)) ?_
      generalize hv_v9 : (g 3) = v9
      by_cases hc25_10 : v9 < p1
      · refine ow_icmpNo (q := 28) X0 hx (hb hby own_d11_25) rfl (Jvm.Free.XT.ii_le_f hc25_10) ?_
        refine ow_aloadN (q := 29) X0 hx (hb hby own_d11_28) rfl rfl rfl ?_
        refine ow_iconst (q := 30) X0 hx (4 : Int32) (hb hby own_d11_29) rfl rfl ?_
        refine ownGo (T' := s₁) (f' := (mkF m 31 #[rv a0, iv p1] [(.int (g 4))])) (ownIaload HF0 X0 hx hZ e0 (j := (4 : Int32)) (by unfold ownIn; decide) (g := (mkF m 30 #[rv a0, iv p1] [(.int (4 : Int32)), (.ref a0)])) rfl rfl (hb hby own_d11_30)) ?_
        generalize hv_v11 : (g 4) = v11
        refine ow_iloadN (q := 32) X0 hx (hb hby own_d11_31) rfl rfl ?_
        by_cases hc32_12 : p1 < v11
        · refine ow_icmpYes (q := 46) X0 hx (hb hby own_d11_32) (Jvm.Free.XT.ii_gt_t hc32_12) (by decide) (by decide) ?_
          refine ow_iconst (q := 47) X0 hx (0 : Int32) (hb hby own_d11_46) rfl rfl ?_
          refine ownRetN X0 hx (r := (0 : Int32)) (Or.inl rfl) Bd.returns (hb hby own_d11_47) hlk (by decide) (by decide) (by decide) ?_
          subst hv_v11 hv_v9 hv_v3 hv_v1
          rw [e0]
          refine ⟨congrArg (fun q => some (Value.int q)) ?_, N0, rfl⟩
          simp [own_inn, hc4_2, hc18_4, hc25_10, hc32_12]
        · refine ow_icmpNo (q := 35) X0 hx (hb hby own_d11_32) rfl (Jvm.Free.XT.ii_gt_f hc32_12) ?_
          refine ow_iloadN (q := 36) X0 hx (hb hby own_d11_35) rfl rfl ?_
          refine ow_aloadN (q := 37) X0 hx (hb hby own_d11_36) rfl rfl rfl ?_
          refine ow_iconst (q := 38) X0 hx (5 : Int32) (hb hby own_d11_37) rfl rfl ?_
          refine ownGo (T' := s₁) (f' := (mkF m 39 #[rv a0, iv p1] [(.int (g 5)), (.int p1)])) (ownIaload HF0 X0 hx hZ e0 (j := (5 : Int32)) (by unfold ownIn; decide) (g := (mkF m 38 #[rv a0, iv p1] [(.int (5 : Int32)), (.ref a0), (.int p1)])) rfl rfl (hb hby own_d11_38)) ?_
          generalize hv_v13 : (g 5) = v13
          by_cases hc39_14 : v13 < p1
          · refine ow_icmpYes (q := 46) X0 hx (hb hby own_d11_39) (Jvm.Free.XT.ii_gt_t hc39_14) (by decide) (by decide) ?_
            refine ow_iconst (q := 47) X0 hx (0 : Int32) (hb hby own_d11_46) rfl rfl ?_
            refine ownRetN X0 hx (r := (0 : Int32)) (Or.inl rfl) Bd.returns (hb hby own_d11_47) hlk (by decide) (by decide) (by decide) ?_
            subst hv_v13 hv_v11 hv_v9 hv_v3 hv_v1
            rw [e0]
            refine ⟨congrArg (fun q => some (Value.int q)) ?_, N0, rfl⟩
            simp [own_inn, hc4_2, hc18_4, hc25_10, hc32_12, hc39_14]
          · refine ow_icmpNo (q := 42) X0 hx (hb hby own_d11_39) rfl (Jvm.Free.XT.ii_gt_f hc39_14) ?_
            refine ow_iconst (q := 43) X0 hx (1 : Int32) (hb hby own_d11_42) rfl rfl ?_
            refine ow_goto (q := 47) X0 hx (hb hby own_d11_43) (by decide) (by decide) ?_
            refine ownRetN X0 hx (r := (1 : Int32)) (Or.inl rfl) Bd.returns (hb hby own_d11_47) hlk (by decide) (by decide) (by decide) ?_
            subst hv_v13 hv_v11 hv_v9 hv_v3 hv_v1
            rw [e0]
            refine ⟨congrArg (fun q => some (Value.int q)) ?_, N0, rfl⟩
            simp [own_inn, hc4_2, hc18_4, hc25_10, hc32_12, hc39_14]
      · refine ow_icmpYes (q := 42) X0 hx (hb hby own_d11_25) (Jvm.Free.XT.ii_le_t hc25_10) (by decide) (by decide) ?_
        refine ow_iconst (q := 43) X0 hx (1 : Int32) (hb hby own_d11_42) rfl rfl ?_
        refine ow_goto (q := 47) X0 hx (hb hby own_d11_43) (by decide) (by decide) ?_
        refine ownRetN X0 hx (r := (1 : Int32)) (Or.inl rfl) Bd.returns (hb hby own_d11_47) hlk (by decide) (by decide) (by decide) ?_
        subst hv_v9 hv_v3 hv_v1
        rw [e0]
        refine ⟨congrArg (fun q => some (Value.int q)) ?_, N0, rfl⟩
        simp [own_inn, hc4_2, hc18_4, hc25_10]
  · refine ow_icmpNo (q := 7) X0 hx (hb hby own_d11_4) rfl (Jvm.Free.XT.ii_gt_f hc4_2) ?_
    refine ow_iloadN (q := 8) X0 hx (hb hby own_d11_7) rfl rfl ?_
    refine ow_aloadN (q := 9) X0 hx (hb hby own_d11_8) rfl rfl rfl ?_
    refine ow_iconst (q := 10) X0 hx (1 : Int32) (hb hby own_d11_9) rfl rfl ?_
    refine ownGo (T' := s₁) (f' := (mkF m 11 #[rv a0, iv p1] [(.int (g 1)), (.int p1)])) (ownIaload HF0 X0 hx hZ e0 (j := (1 : Int32)) (by unfold ownIn; decide) (g := (mkF m 10 #[rv a0, iv p1] [(.int (1 : Int32)), (.ref a0), (.int p1)])) rfl rfl (hb hby own_d11_10)) ?_
    generalize hv_v15 : (g 1) = v15
    by_cases hc11_16 : v15 < p1
    · refine ow_icmpNo (q := 14) X0 hx (hb hby own_d11_11) rfl (Jvm.Free.XT.ii_le_f hc11_16) ?_
      refine ow_aloadN (q := 15) X0 hx (hb hby own_d11_14) rfl rfl rfl ?_
      refine ow_iconst (q := 16) X0 hx (2 : Int32) (hb hby own_d11_15) rfl rfl ?_
      refine ownGo (T' := s₁) (f' := (mkF m 17 #[rv a0, iv p1] [(.int (g 2))])) (ownIaload HF0 X0 hx hZ e0 (j := (2 : Int32)) (by unfold ownIn; decide) (g := (mkF m 16 #[rv a0, iv p1] [(.int (2 : Int32)), (.ref a0)])) rfl rfl (hb hby own_d11_16)) ?_
      generalize hv_v17 : (g 2) = v17
      refine ow_iloadN (q := 18) X0 hx (hb hby own_d11_17) rfl rfl ?_
      by_cases hc18_18 : p1 < v17
      · refine ow_icmpYes (q := 28) X0 hx (hb hby own_d11_18) (Jvm.Free.XT.ii_gt_t hc18_18) (by decide) (by decide) ?_
        refine ow_aloadN (q := 29) X0 hx (hb hby own_d11_28) rfl rfl rfl ?_
        refine ow_iconst (q := 30) X0 hx (4 : Int32) (hb hby own_d11_29) rfl rfl ?_
        refine ownGo (T' := s₁) (f' := (mkF m 31 #[rv a0, iv p1] [(.int (g 4))])) (ownIaload HF0 X0 hx hZ e0 (j := (4 : Int32)) (by unfold ownIn; decide) (g := (mkF m 30 #[rv a0, iv p1] [(.int (4 : Int32)), (.ref a0)])) rfl rfl (hb hby own_d11_30)) ?_
        generalize hv_v19 : (g 4) = v19
        refine ow_iloadN (q := 32) X0 hx (hb hby own_d11_31) rfl rfl ?_
        by_cases hc32_20 : p1 < v19
        · refine ow_icmpYes (q := 46) X0 hx (hb hby own_d11_32) (Jvm.Free.XT.ii_gt_t hc32_20) (by decide) (by decide) ?_
          refine ow_iconst (q := 47) X0 hx (0 : Int32) (hb hby own_d11_46) rfl rfl ?_
          refine ownRetN X0 hx (r := (0 : Int32)) (Or.inl rfl) Bd.returns (hb hby own_d11_47) hlk (by decide) (by decide) (by decide) ?_
          subst hv_v19 hv_v17 hv_v15 hv_v1
          rw [e0]
          refine ⟨congrArg (fun q => some (Value.int q)) ?_, N0, rfl⟩
          simp [own_inn, hc4_2, hc11_16, hc18_18, hc32_20]
        · refine ow_icmpNo (q := 35) X0 hx (hb hby own_d11_32) rfl (Jvm.Free.XT.ii_gt_f hc32_20) ?_
          refine ow_iloadN (q := 36) X0 hx (hb hby own_d11_35) rfl rfl ?_
          refine ow_aloadN (q := 37) X0 hx (hb hby own_d11_36) rfl rfl rfl ?_
          refine ow_iconst (q := 38) X0 hx (5 : Int32) (hb hby own_d11_37) rfl rfl ?_
          refine ownGo (T' := s₁) (f' := (mkF m 39 #[rv a0, iv p1] [(.int (g 5)), (.int p1)])) (ownIaload HF0 X0 hx hZ e0 (j := (5 : Int32)) (by unfold ownIn; decide) (g := (mkF m 38 #[rv a0, iv p1] [(.int (5 : Int32)), (.ref a0), (.int p1)])) rfl rfl (hb hby own_d11_38)) ?_
          generalize hv_v21 : (g 5) = v21
          by_cases hc39_22 : v21 < p1
          · refine ow_icmpYes (q := 46) X0 hx (hb hby own_d11_39) (Jvm.Free.XT.ii_gt_t hc39_22) (by decide) (by decide) ?_
            refine ow_iconst (q := 47) X0 hx (0 : Int32) (hb hby own_d11_46) rfl rfl ?_
            refine ownRetN X0 hx (r := (0 : Int32)) (Or.inl rfl) Bd.returns (hb hby own_d11_47) hlk (by decide) (by decide) (by decide) ?_
            subst hv_v21 hv_v19 hv_v17 hv_v15 hv_v1
            rw [e0]
            refine ⟨congrArg (fun q => some (Value.int q)) ?_, N0, rfl⟩
            simp [own_inn, hc4_2, hc11_16, hc18_18, hc32_20, hc39_22]
          · refine ow_icmpNo (q := 42) X0 hx (hb hby own_d11_39) rfl (Jvm.Free.XT.ii_gt_f hc39_22) ?_
            refine ow_iconst (q := 43) X0 hx (1 : Int32) (hb hby own_d11_42) rfl rfl ?_
            refine ow_goto (q := 47) X0 hx (hb hby own_d11_43) (by decide) (by decide) ?_
            refine ownRetN X0 hx (r := (1 : Int32)) (Or.inl rfl) Bd.returns (hb hby own_d11_47) hlk (by decide) (by decide) (by decide) ?_
            subst hv_v21 hv_v19 hv_v17 hv_v15 hv_v1
            rw [e0]
            refine ⟨congrArg (fun q => some (Value.int q)) ?_, N0, rfl⟩
            simp [own_inn, hc4_2, hc11_16, hc18_18, hc32_20, hc39_22]
      · refine ow_icmpNo (q := 21) X0 hx (hb hby own_d11_18) rfl (Jvm.Free.XT.ii_gt_f hc18_18) ?_
        refine ow_iloadN (q := 22) X0 hx (hb hby own_d11_21) rfl rfl ?_
        refine ow_aloadN (q := 23) X0 hx (hb hby own_d11_22) rfl rfl rfl ?_
        refine ow_iconst (q := 24) X0 hx (3 : Int32) (hb hby own_d11_23) rfl rfl ?_
        refine ownGo (T' := s₁) (f' := (mkF m 25 #[rv a0, iv p1] [(.int (g 3)), (.int p1)])) (ownIaload HF0 X0 hx hZ e0 (j := (3 : Int32)) (by unfold ownIn; decide) (g := (mkF m 24 #[rv a0, iv p1] [(.int (3 : Int32)), (.ref a0), (.int p1)])) rfl rfl (hb hby own_d11_24)) ?_
        generalize hv_v23 : (g 3) = v23
        by_cases hc25_24 : v23 < p1
        · refine ow_icmpNo (q := 28) X0 hx (hb hby own_d11_25) rfl (Jvm.Free.XT.ii_le_f hc25_24) ?_
          refine ow_aloadN (q := 29) X0 hx (hb hby own_d11_28) rfl rfl rfl ?_
          refine ow_iconst (q := 30) X0 hx (4 : Int32) (hb hby own_d11_29) rfl rfl ?_
          refine ownGo (T' := s₁) (f' := (mkF m 31 #[rv a0, iv p1] [(.int (g 4))])) (ownIaload HF0 X0 hx hZ e0 (j := (4 : Int32)) (by unfold ownIn; decide) (g := (mkF m 30 #[rv a0, iv p1] [(.int (4 : Int32)), (.ref a0)])) rfl rfl (hb hby own_d11_30)) ?_
          generalize hv_v25 : (g 4) = v25
          refine ow_iloadN (q := 32) X0 hx (hb hby own_d11_31) rfl rfl ?_
          by_cases hc32_26 : p1 < v25
          · refine ow_icmpYes (q := 46) X0 hx (hb hby own_d11_32) (Jvm.Free.XT.ii_gt_t hc32_26) (by decide) (by decide) ?_
            refine ow_iconst (q := 47) X0 hx (0 : Int32) (hb hby own_d11_46) rfl rfl ?_
            refine ownRetN X0 hx (r := (0 : Int32)) (Or.inl rfl) Bd.returns (hb hby own_d11_47) hlk (by decide) (by decide) (by decide) ?_
            subst hv_v25 hv_v23 hv_v17 hv_v15 hv_v1
            rw [e0]
            refine ⟨congrArg (fun q => some (Value.int q)) ?_, N0, rfl⟩
            simp [own_inn, hc4_2, hc11_16, hc18_18, hc25_24, hc32_26]
          · refine ow_icmpNo (q := 35) X0 hx (hb hby own_d11_32) rfl (Jvm.Free.XT.ii_gt_f hc32_26) ?_
            refine ow_iloadN (q := 36) X0 hx (hb hby own_d11_35) rfl rfl ?_
            refine ow_aloadN (q := 37) X0 hx (hb hby own_d11_36) rfl rfl rfl ?_
            refine ow_iconst (q := 38) X0 hx (5 : Int32) (hb hby own_d11_37) rfl rfl ?_
            refine ownGo (T' := s₁) (f' := (mkF m 39 #[rv a0, iv p1] [(.int (g 5)), (.int p1)])) (ownIaload HF0 X0 hx hZ e0 (j := (5 : Int32)) (by unfold ownIn; decide) (g := (mkF m 38 #[rv a0, iv p1] [(.int (5 : Int32)), (.ref a0), (.int p1)])) rfl rfl (hb hby own_d11_38)) ?_
            generalize hv_v27 : (g 5) = v27
            by_cases hc39_28 : v27 < p1
            · refine ow_icmpYes (q := 46) X0 hx (hb hby own_d11_39) (Jvm.Free.XT.ii_gt_t hc39_28) (by decide) (by decide) ?_
              refine ow_iconst (q := 47) X0 hx (0 : Int32) (hb hby own_d11_46) rfl rfl ?_
              refine ownRetN X0 hx (r := (0 : Int32)) (Or.inl rfl) Bd.returns (hb hby own_d11_47) hlk (by decide) (by decide) (by decide) ?_
              subst hv_v27 hv_v25 hv_v23 hv_v17 hv_v15 hv_v1
              rw [e0]
              refine ⟨congrArg (fun q => some (Value.int q)) ?_, N0, rfl⟩
              simp [own_inn, hc4_2, hc11_16, hc18_18, hc25_24, hc32_26, hc39_28]
            · refine ow_icmpNo (q := 42) X0 hx (hb hby own_d11_39) rfl (Jvm.Free.XT.ii_gt_f hc39_28) ?_
              refine ow_iconst (q := 43) X0 hx (1 : Int32) (hb hby own_d11_42) rfl rfl ?_
              refine ow_goto (q := 47) X0 hx (hb hby own_d11_43) (by decide) (by decide) ?_
              refine ownRetN X0 hx (r := (1 : Int32)) (Or.inl rfl) Bd.returns (hb hby own_d11_47) hlk (by decide) (by decide) (by decide) ?_
              subst hv_v27 hv_v25 hv_v23 hv_v17 hv_v15 hv_v1
              rw [e0]
              refine ⟨congrArg (fun q => some (Value.int q)) ?_, N0, rfl⟩
              simp [own_inn, hc4_2, hc11_16, hc18_18, hc25_24, hc32_26, hc39_28]
        · refine ow_icmpYes (q := 42) X0 hx (hb hby own_d11_25) (Jvm.Free.XT.ii_le_t hc25_24) (by decide) (by decide) ?_
          refine ow_iconst (q := 43) X0 hx (1 : Int32) (hb hby own_d11_42) rfl rfl ?_
          refine ow_goto (q := 47) X0 hx (hb hby own_d11_43) (by decide) (by decide) ?_
          refine ownRetN X0 hx (r := (1 : Int32)) (Or.inl rfl) Bd.returns (hb hby own_d11_47) hlk (by decide) (by decide) (by decide) ?_
          subst hv_v23 hv_v17 hv_v15 hv_v1
          rw [e0]
          refine ⟨congrArg (fun q => some (Value.int q)) ?_, N0, rfl⟩
          simp [own_inn, hc4_2, hc11_16, hc18_18, hc25_24]
    · refine ow_icmpYes (q := 42) X0 hx (hb hby own_d11_11) (Jvm.Free.XT.ii_le_t hc11_16) (by decide) (by decide) ?_
      refine ow_iconst (q := 43) X0 hx (1 : Int32) (hb hby own_d11_42) rfl rfl ?_
      refine ow_goto (q := 47) X0 hx (hb hby own_d11_43) (by decide) (by decide) ?_
      refine ownRetN X0 hx (r := (1 : Int32)) (Or.inl rfl) Bd.returns (hb hby own_d11_47) hlk (by decide) (by decide) (by decide) ?_
      subst hv_v15 hv_v1
      rw [e0]
      refine ⟨congrArg (fun q => some (Value.int q)) ?_, N0, rfl⟩
      simp [own_inn, hc4_2, hc11_16]
theorem own_d10_0 : decode method_3_code 0 = .ok (.iload_n 1, 1) := by decide +kernel
theorem own_d10_1 : decode method_3_code 1 = .ok (.ifCond .lt 28, 3) := by decide +kernel
theorem own_d10_29 : decode method_3_code 29 = .ok (.iconst 0, 1) := by decide +kernel
theorem own_d10_30 : decode method_3_code 30 = .ok (.ireturn, 1) := by decide +kernel
theorem own_d10_4 : decode method_3_code 4 = .ok (.iload_n 1, 1) := by decide +kernel
theorem own_d10_5 : decode method_3_code 5 = .ok (.ldc 7, 2) := by decide +kernel
theorem own_d10_7 : decode method_3_code 7 = .ok (.if_icmp .gt 22, 3) := by decide +kernel
theorem own_d10_10 : decode method_3_code 10 = .ok (.aload_n 0, 1) := by decide +kernel
theorem own_d10_11 : decode method_3_code 11 = .ok (.iload_n 1, 1) := by decide +kernel
theorem own_d10_12 : decode method_3_code 12 = .ok (.invokestatic 8, 3) := by decide +kernel
theorem own_pd3 : parseMethodDescriptor "([II)Z" = some ⟨[(.array .int), .int], some .boolean⟩ := by decide +kernel
theorem own_d10_15 : decode method_3_code 15 = .ok (.aload_n 0, 1) := by decide +kernel
theorem own_d10_16 : decode method_3_code 16 = .ok (.iload_n 1, 1) := by decide +kernel
theorem own_d10_17 : decode method_3_code 17 = .ok (.iconst 1, 1) := by decide +kernel
theorem own_d10_18 : decode method_3_code 18 = .ok (.isub, 1) := by decide +kernel
theorem own_d10_19 : decode method_3_code 19 = .ok (.invokestatic 8, 3) := by decide +kernel
theorem own_d10_22 : decode method_3_code 22 = .ok (.if_icmp .eq 7, 3) := by decide +kernel
theorem own_d10_25 : decode method_3_code 25 = .ok (.iconst 1, 1) := by decide +kernel
theorem own_d10_26 : decode method_3_code 26 = .ok (.goto 4, 3) := by decide +kernel
theorem own_ef10_ch (m : MethodId) (a0 : Addr) (p1 : Int32) : entryFrame m #[(.ref a0), (.int p1)] 2 = mkF m 0 #[rv a0, iv p1] [] := by first | (simp [entryFrame, mkF, argsToLocals, Value.category]; done) | rfl
def Q_ch (Z : State) (a0 : Addr) (p1 : Int32) (g : Nat → Int32) (h0 : Heap) (n0 : Nat) (v : Option Value) (h : Heap) (L : List Loc) : Prop := v = some (.int (own_ch (g 0) (g 1) (g 2) (g 3) (g 4) (g 5) p1)) ∧ Fr n0 L ∧ h = h0
set_option maxRecDepth 65536 in
set_option maxHeartbeats 40000000 in
theorem rm_ch (l : Launch) (Z : State) (av0 : Array Value) (hw : ∀ d ∈ tables_1, d.before av0 Z = true) (ws : List Jvm.Cond) (a0 : Addr) (p1 : Int32) (g : Nat → Int32) (h0 : Heap) (n0 : Nat) (Z0 : n0 ≤ h0.size) (HF0 : ownAI Z h0 a0 .int 6 g) :
    MetFree l (⟨"com/example/shapewright/shapewright/regex/BuilderAddPinLaw", "ch", "([II)Z"⟩ : MethodName) (head1 (Jvm.Cond.code (⟨"com/example/shapewright/shapewright/regex/BuilderAddPinLaw", "ch", "([II)Z"⟩ : MethodName) method_3_code 2 (some .boolean) :: ws) ({ frames := 1, cells := 0, slots := 0, locals := 14 } : Room)) (fun a U => a = #[(.ref a0), (.int p1)] ∧ Z.Warmed39 U.vm ∧ U.heap = h0) (fun _ _ _ _ _ => True) (fun _ U o U' => ∃ v L, o = .returned v ∧ (Q_ch Z a0 p1 g h0 n0) v U'.heap L ∧ FrameEnd U o U' L ({ frames := 1, cells := 0, slots := 0, locals := 14 } : Room).cells ({ frames := 1, cells := 0, slots := 0, locals := 14 } : Room).slots) := by
  refine MetFree.of_bodySF (plainFor_of_name own_pn_BuilderAddPinLaw) hisR ?_
  intro p e s m args below meth c s₁ Bd hml0 hP hK
  obtain ⟨rfl, hZ, hh⟩ := hP
  have hx := Bd.exec
  have hby := Bd.bytes
  have hml : c.maxLocals = 2 := hml0
  have hown : s.vm.findClass "com/example/shapewright/shapewright/regex/BuilderAddPinLaw" = some m.cls := findClass_of_methodNamed Bd.named
  have hnm := (name_of_methodNamed Bd.named Bd.method).1
  have hlk : meth.locks = false := BodyLoose.notSynchronized Bd
  have X0 : Stand p l e ({ frames := 1, cells := 0, slots := 0, locals := 14 } : Room) s m #[(.ref a0), (.int p1)] below meth c s₁ [] 0 0 := Stand.of_body Bd
  have e0 : s₁.heap = h0 := by rw [← hh, Bd.state]; rfl
  have N0 := Fr.nil n0
  have K0 : Keep h0 h0 [] := Keep.refl _ _
  have ww : ∀ (k : Nat) {d : Jvm.Cond}, tables_1[k]? = some d → d.before av0 Z = true := fun k d h => hw d (List.mem_of_getElem? h)
  show ownEnds p e below s (Q_ch Z a0 p1 g h0 n0) ({ frames := 1, cells := 0, slots := 0, locals := 14 } : Room).cells ({ frames := 1, cells := 0, slots := 0, locals := 14 } : Room).slots s₁ (entryFrame m #[(.ref a0), (.int p1)] 2)
  refine ownCast (own_ef10_ch m a0 p1) ?_
  refine ow_iloadN (q := 1) X0 hx (hb hby own_d10_0) rfl rfl ?_
  by_cases hc1_1 : p1 < (0 : Int32)
  · refine ow_ifYes (q := 29) X0 hx (hb hby own_d10_1) (Jvm.Free.XT.i0_lt_t hc1_1) (by decide) (by decide) ?_
    refine ow_iconst (q := 30) X0 hx (0 : Int32) (hb hby own_d10_29) rfl rfl ?_
    refine ownRetN X0 hx (r := (0 : Int32)) (Or.inl rfl) Bd.returns (hb hby own_d10_30) hlk (by decide) (by decide) (by decide) ?_
    rw [e0]
    refine ⟨congrArg (fun q => some (Value.int q)) ?_, N0, rfl⟩
    simp [own_ch, hc1_1]
  · refine ow_ifNo (q := 4) X0 hx (hb hby own_d10_1) rfl (Jvm.Free.XT.i0_lt_f hc1_1) ?_
    refine ow_iloadN (q := 5) X0 hx (hb hby own_d10_4) rfl rfl ?_
    refine ownGo (T' := s₁) (f' := (mkF m 7 #[rv a0, iv p1] [(.int (1114111 : Int32)), (.int p1)])) (X0.ldcInt hx hown (mvT hZ (ww 70 rfl)) (g := (mkF m 5 #[rv a0, iv p1] [(.int p1)])) rfl (hb hby own_d10_5)) ?_
    by_cases hc7_2 : (1114111 : Int32) < p1
    · refine ow_icmpYes (q := 29) X0 hx (hb hby own_d10_7) (Jvm.Free.XT.ii_gt_t hc7_2) (by decide) (by decide) ?_
      refine ow_iconst (q := 30) X0 hx (0 : Int32) (hb hby own_d10_29) rfl rfl ?_
      refine ownRetN X0 hx (r := (0 : Int32)) (Or.inl rfl) Bd.returns (hb hby own_d10_30) hlk (by decide) (by decide) (by decide) ?_
      rw [e0]
      refine ⟨congrArg (fun q => some (Value.int q)) ?_, N0, rfl⟩
      simp [own_ch, hc1_1, hc7_2]
    · refine ow_icmpNo (q := 10) X0 hx (hb hby own_d10_7) rfl (Jvm.Free.XT.ii_gt_f hc7_2) ?_
      refine ow_aloadN (q := 11) X0 hx (hb hby own_d10_10) rfl rfl rfl ?_
      refine ow_iloadN (q := 12) X0 hx (hb hby own_d10_11) rfl rfl ?_
      obtain ⟨_, _, ⟨T3, L3, k3, n3⟩, -, X3, ⟨Lc3, hQ3, l3, y3, z3⟩, st3⟩ := Jvm.LawKit.callS X0 hx (y := (⟨"com/example/shapewright/shapewright/regex/BuilderAddPinLaw", "in", "([II)Z"⟩ : MethodName)) hown (mvT hZ (ww 71 rfl)) (mvT hZ (ww 72 rfl)) (mvT hZ (ww 68 rfl)) (mvT hZ (ww 73 rfl)) (by decide) (backOf (W := 0) (rm_in l Z av0 hw [] a0 p1 g h0 n0 (Nat.le_trans Z0 K0.1) HF0) hZ (ww 73 rfl) (ww 68 rfl) (by decide) (by decide)) (g := (mkF m 12 #[rv a0, iv p1] [(.int p1), (.ref a0)])) rfl (by rw [hml]; rfl) (argsL := [(.ref a0), (.int p1)]) (rest := []) (lenOf own_pd3 rfl) rfl (by show 2 * 0 + _ ≤ _; exact Nat.le_of_eq rfl) (hb hby own_d10_12) (fun _ _ => ⟨rfl, e0, (by decide : 0 + 0 ≤ _), (by decide : 0 + 0 ≤ _)⟩)
      dsimp only [Pt.U, Pt.locs, Pt.cells, Pt.slots] at X3 l3 y3 z3 st3 hQ3
      subst l3 y3 z3
      obtain ⟨rfl, N3q, e3⟩ := hQ3
      have N3 := Fr.app N0 N3q
      refine ownGo (T' := T3) (f' := (mkF m 15 #[rv a0, iv p1] [(.int (own_inn (g 0) (g 1) (g 2) (g 3) (g 4) (g 5) p1))])) (st3) ?_
      refine ow_aloadN (q := 16) X3 hx (hb hby own_d10_15) rfl rfl rfl ?_
      refine ow_iloadN (q := 17) X3 hx (hb hby own_d10_16) rfl rfl ?_
      refine ow_iconst (q := 18) X3 hx (1 : Int32) (hb hby own_d10_17) rfl rfl ?_
      refine ow_isub (q := 19) X3 hx _ (hb hby own_d10_18) rfl rfl ?_
      generalize hv_v4 : (p1 - (1 : Int32)) = v4
      obtain ⟨_, _, ⟨T5, L5, k5, n5⟩, -, X5, ⟨Lc5, hQ5, l5, y5, z5⟩, st5⟩ := Jvm.LawKit.callS X3 hx (y := (⟨"com/example/shapewright/shapewright/regex/BuilderAddPinLaw", "in", "([II)Z"⟩ : MethodName)) hown (mvT hZ (ww 71 rfl)) (mvT hZ (ww 72 rfl)) (mvT hZ (ww 68 rfl)) (mvT hZ (ww 73 rfl)) (by decide) (backOf (W := 1) (rm_in l Z av0 hw [] a0 v4 g h0 n0 (Nat.le_trans Z0 K0.1) HF0) hZ (ww 73 rfl) (ww 68 rfl) (by decide) (by decide)) (g := (mkF m 19 #[rv a0, iv p1] [(.int v4), (.ref a0), (.int (own_inn (g 0) (g 1) (g 2) (g 3) (g 4) (g 5) p1))])) rfl (by rw [hml]; rfl) (argsL := [(.ref a0), (.int v4)]) (rest := [(.int (own_inn (g 0) (g 1) (g 2) (g 3) (g 4) (g 5) p1))]) (lenOf own_pd3 rfl) rfl (by show 2 * 0 + _ ≤ _; exact Nat.le_of_eq rfl) (hb hby own_d10_19) (fun _ _ => ⟨rfl, e3, (by decide : 0 + 0 ≤ _), (by decide : 0 + 0 ≤ _)⟩)
      dsimp only [Pt.U, Pt.locs, Pt.cells, Pt.slots] at X5 l5 y5 z5 st5 hQ5
      subst l5 y5 z5
      obtain ⟨rfl, N5q, e5⟩ := hQ5
      have N5 := Fr.app N3 N5q
      refine ownGo (T' := T5) (f' := (mkF m 22 #[rv a0, iv p1] [(.int (own_inn (g 0) (g 1) (g 2) (g 3) (g 4) (g 5) v4)), (.int (own_inn (g 0) (g 1) (g 2) (g 3) (g 4) (g 5) p1))])) (st5) ?_
      by_cases hc22_6 : (own_inn (g 0) (g 1) (g 2) (g 3) (g 4) (g 5) p1) = (own_inn (g 0) (g 1) (g 2) (g 3) (g 4) (g 5) v4)
      · refine ow_icmpYes (q := 29) X5 hx (hb hby own_d10_22) (Jvm.Free.XT.ii_eq_t hc22_6) (by decide) (by decide) ?_
        refine ow_iconst (q := 30) X5 hx (0 : Int32) (hb hby own_d10_29) rfl rfl ?_
        refine ownRetN X5 hx (r := (0 : Int32)) (Or.inl rfl) Bd.returns (hb hby own_d10_30) hlk (by decide) (by decide) (by decide) ?_
        subst hv_v4
        rw [e5]
        refine ⟨congrArg (fun q => some (Value.int q)) ?_, N5, rfl⟩
        simp [own_ch, hc1_1, hc7_2, hc22_6]
      · refine ow_icmpNo (q := 25) X5 hx (hb hby own_d10_22) rfl (Jvm.Free.XT.ii_eq_f hc22_6) ?_
        refine ow_iconst (q := 26) X5 hx (1 : Int32) (hb hby own_d10_25) rfl rfl ?_
        refine ow_goto (q := 30) X5 hx (hb hby own_d10_26) (by decide) (by decide) ?_
        refine ownRetN X5 hx (r := (1 : Int32)) (Or.inl rfl) Bd.returns (hb hby own_d10_30) hlk (by decide) (by decide) (by decide) ?_
        subst hv_v4
        rw [e5]
        refine ⟨congrArg (fun q => some (Value.int q)) ?_, N5, rfl⟩
        simp [own_ch, hc1_1, hc7_2, hc22_6]
theorem own_d12_0 : decode method_4_code 0 = .ok (.aload_n 0, 1) := by decide +kernel
theorem own_d12_1 : decode method_4_code 1 = .ok (.arraylength, 1) := by decide +kernel
theorem own_d12_2 : decode method_4_code 2 = .ok (.iload_n 1, 1) := by decide +kernel
theorem own_d12_3 : decode method_4_code 3 = .ok (.if_icmp .le 32, 3) := by decide +kernel
theorem own_d12_35 : decode method_4_code 35 = .ok (.iconst 1, 1) := by decide +kernel
theorem own_d12_36 : decode method_4_code 36 = .ok (.goto 4, 3) := by decide +kernel
theorem own_d12_40 : decode method_4_code 40 = .ok (.ireturn, 1) := by decide +kernel
theorem own_ef12_okA (m : MethodId) (a0 : Addr) (p1 : Int32) (a2 : Addr) : entryFrame m #[(.ref a0), (.int p1), (.ref a2)] 3 = mkF m 0 #[rv a0, iv p1, rv a2] [] := by first | (simp [entryFrame, mkF, argsToLocals, Value.category]; done) | rfl
def Q_okA (Z : State) (a0 : Addr) (p1 : Int32) (a2 : Addr) (N : Nat) (zN : Int32) (ge : Nat → Int32) (g : Nat → Int32) (h0 : Heap) (n0 : Nat) (v : Option Value) (h : Heap) (L : List Loc) : Prop := v = some (.int (1 : Int32)) ∧ Fr n0 L ∧ h = h0
set_option maxRecDepth 65536 in
set_option maxHeartbeats 40000000 in
theorem rm_okA (l : Launch) (Z : State) (av0 : Array Value) (hw : ∀ d ∈ tables_1, d.before av0 Z = true) (ws : List Jvm.Cond) (a0 : Addr) (p1 : Int32) (a2 : Addr) (N : Nat) (zN : Int32) (ge : Nat → Int32) (g : Nat → Int32) (h0 : Heap) (n0 : Nat) (Z0 : n0 ≤ h0.size) (HF0 : ownAI Z h0 a0 .int N ge) (HF1 : ownAI Z h0 a2 .int 6 g) (hN : N.toInt32 = zN) (hk : ¬ p1 < zN) :
    MetFree l (⟨"com/example/shapewright/shapewright/regex/BuilderAddPinLaw", "okAt", "([II[I)Z"⟩ : MethodName) (head1 (Jvm.Cond.code (⟨"com/example/shapewright/shapewright/regex/BuilderAddPinLaw", "okAt", "([II[I)Z"⟩ : MethodName) method_4_code 3 (some .boolean) :: ws) ({ frames := 0, cells := 0, slots := 0, locals := 0 } : Room)) (fun a U => a = #[(.ref a0), (.int p1), (.ref a2)] ∧ Z.Warmed39 U.vm ∧ U.heap = h0) (fun _ _ _ _ _ => True) (fun _ U o U' => ∃ v L, o = .returned v ∧ (Q_okA Z a0 p1 a2 N zN ge g h0 n0) v U'.heap L ∧ FrameEnd U o U' L ({ frames := 0, cells := 0, slots := 0, locals := 0 } : Room).cells ({ frames := 0, cells := 0, slots := 0, locals := 0 } : Room).slots) := by
  refine MetFree.of_bodySF (plainFor_of_name own_pn_BuilderAddPinLaw) hisR ?_
  intro p e s m args below meth c s₁ Bd hml0 hP hK
  obtain ⟨rfl, hZ, hh⟩ := hP
  have hx := Bd.exec
  have hby := Bd.bytes
  have hml : c.maxLocals = 3 := hml0
  have hown : s.vm.findClass "com/example/shapewright/shapewright/regex/BuilderAddPinLaw" = some m.cls := findClass_of_methodNamed Bd.named
  have hnm := (name_of_methodNamed Bd.named Bd.method).1
  have hlk : meth.locks = false := BodyLoose.notSynchronized Bd
  have X0 : Stand p l e ({ frames := 0, cells := 0, slots := 0, locals := 0 } : Room) s m #[(.ref a0), (.int p1), (.ref a2)] below meth c s₁ [] 0 0 := Stand.of_body Bd
  have e0 : s₁.heap = h0 := by rw [← hh, Bd.state]; rfl
  have N0 := Fr.nil n0
  have K0 : Keep h0 h0 [] := Keep.refl _ _
  have ww : ∀ (k : Nat) {d : Jvm.Cond}, tables_1[k]? = some d → d.before av0 Z = true := fun k d h => hw d (List.mem_of_getElem? h)
  show ownEnds p e below s (Q_okA Z a0 p1 a2 N zN ge g h0 n0) ({ frames := 0, cells := 0, slots := 0, locals := 0 } : Room).cells ({ frames := 0, cells := 0, slots := 0, locals := 0 } : Room).slots s₁ (entryFrame m #[(.ref a0), (.int p1), (.ref a2)] 3)
  refine ownCast (own_ef12_okA m a0 p1 a2) ?_
  refine ow_aloadN (q := 1) X0 hx (hb hby own_d12_0) rfl rfl rfl ?_
  refine ownGo (T' := s₁) (f' := (mkF m 2 #[rv a0, iv p1, rv a2] [(.int zN)])) (ownLenI HF0 X0 hx hZ e0 (z := zN) hN (g := (mkF m 1 #[rv a0, iv p1, rv a2] [(.ref a0)])) rfl rfl (hb hby own_d12_1)) ?_
  refine ow_iloadN (q := 3) X0 hx (hb hby own_d12_2) rfl rfl ?_
  refine ow_icmpYes (q := 35) X0 hx (hb hby own_d12_3) (Jvm.Free.XT.ii_le_t hk) (by decide) (by decide) ?_
  refine ow_iconst (q := 36) X0 hx (1 : Int32) (hb hby own_d12_35) rfl rfl ?_
  refine ow_goto (q := 40) X0 hx (hb hby own_d12_36) (by decide) (by decide) ?_
  refine ownRetN X0 hx (r := (1 : Int32)) (Or.inl rfl) Bd.returns (hb hby own_d12_40) hlk (by decide) (by decide) (by decide) ?_
  rw [e0]
  exact ⟨rfl, N0, rfl⟩
theorem own_d12_6 : decode method_4_code 6 = .ok (.aload_n 2, 1) := by decide +kernel
theorem own_d12_7 : decode method_4_code 7 = .ok (.aload_n 0, 1) := by decide +kernel
theorem own_d12_8 : decode method_4_code 8 = .ok (.iload_n 1, 1) := by decide +kernel
theorem own_d12_9 : decode method_4_code 9 = .ok (.iaload, 1) := by decide +kernel
theorem own_d12_10 : decode method_4_code 10 = .ok (.invokestatic 14, 3) := by decide +kernel
theorem own_d12_13 : decode method_4_code 13 = .ok (.ifCond .eq 26, 3) := by decide +kernel
theorem own_d12_39 : decode method_4_code 39 = .ok (.iconst 0, 1) := by decide +kernel
theorem own_d12_16 : decode method_4_code 16 = .ok (.iload_n 1, 1) := by decide +kernel
theorem own_d12_17 : decode method_4_code 17 = .ok (.iconst 1, 1) := by decide +kernel
theorem own_d12_18 : decode method_4_code 18 = .ok (.iadd, 1) := by decide +kernel
theorem own_d12_19 : decode method_4_code 19 = .ok (.aload_n 0, 1) := by decide +kernel
theorem own_d12_20 : decode method_4_code 20 = .ok (.arraylength, 1) := by decide +kernel
theorem own_d12_21 : decode method_4_code 21 = .ok (.if_icmp .ge 14, 3) := by decide +kernel
theorem own_ef12_okB (m : MethodId) (a0 : Addr) (p1 : Int32) (a2 : Addr) : entryFrame m #[(.ref a0), (.int p1), (.ref a2)] 3 = mkF m 0 #[rv a0, iv p1, rv a2] [] := by first | (simp [entryFrame, mkF, argsToLocals, Value.category]; done) | rfl
def Q_okB (Z : State) (a0 : Addr) (p1 : Int32) (a2 : Addr) (N : Nat) (zN : Int32) (ge : Nat → Int32) (g : Nat → Int32) (h0 : Heap) (n0 : Nat) (v : Option Value) (h : Heap) (L : List Loc) : Prop := v = some (.int (if (own_ch (g 0) (g 1) (g 2) (g 3) (g 4) (g 5) (ge p1.toNatClampNeg)) = (0 : Int32) then (0 : Int32) else (1 : Int32))) ∧ Fr n0 L ∧ h = h0
set_option maxRecDepth 65536 in
set_option maxHeartbeats 40000000 in
theorem rm_okB (l : Launch) (Z : State) (av0 : Array Value) (hw : ∀ d ∈ tables_1, d.before av0 Z = true) (ws : List Jvm.Cond) (a0 : Addr) (p1 : Int32) (a2 : Addr) (N : Nat) (zN : Int32) (ge : Nat → Int32) (g : Nat → Int32) (h0 : Heap) (n0 : Nat) (Z0 : n0 ≤ h0.size) (HF0 : ownAI Z h0 a0 .int N ge) (HF1 : ownAI Z h0 a2 .int 6 g) (hN : N.toInt32 = zN) (hk : p1 < zN) (hin : ownIn p1 N) (hk2 : ¬ (p1 + (1 : Int32)) < zN) :
    MetFree l (⟨"com/example/shapewright/shapewright/regex/BuilderAddPinLaw", "okAt", "([II[I)Z"⟩ : MethodName) (head1 (Jvm.Cond.code (⟨"com/example/shapewright/shapewright/regex/BuilderAddPinLaw", "okAt", "([II[I)Z"⟩ : MethodName) method_4_code 3 (some .boolean) :: ws) ({ frames := 2, cells := 0, slots := 0, locals := 27 } : Room)) (fun a U => a = #[(.ref a0), (.int p1), (.ref a2)] ∧ Z.Warmed39 U.vm ∧ U.heap = h0) (fun _ _ _ _ _ => True) (fun _ U o U' => ∃ v L, o = .returned v ∧ (Q_okB Z a0 p1 a2 N zN ge g h0 n0) v U'.heap L ∧ FrameEnd U o U' L ({ frames := 2, cells := 0, slots := 0, locals := 27 } : Room).cells ({ frames := 2, cells := 0, slots := 0, locals := 27 } : Room).slots) := by
  refine MetFree.of_bodySF (plainFor_of_name own_pn_BuilderAddPinLaw) hisR ?_
  intro p e s m args below meth c s₁ Bd hml0 hP hK
  obtain ⟨rfl, hZ, hh⟩ := hP
  have hx := Bd.exec
  have hby := Bd.bytes
  have hml : c.maxLocals = 3 := hml0
  have hown : s.vm.findClass "com/example/shapewright/shapewright/regex/BuilderAddPinLaw" = some m.cls := findClass_of_methodNamed Bd.named
  have hnm := (name_of_methodNamed Bd.named Bd.method).1
  have hlk : meth.locks = false := BodyLoose.notSynchronized Bd
  have X0 : Stand p l e ({ frames := 2, cells := 0, slots := 0, locals := 27 } : Room) s m #[(.ref a0), (.int p1), (.ref a2)] below meth c s₁ [] 0 0 := Stand.of_body Bd
  have e0 : s₁.heap = h0 := by rw [← hh, Bd.state]; rfl
  have N0 := Fr.nil n0
  have K0 : Keep h0 h0 [] := Keep.refl _ _
  have ww : ∀ (k : Nat) {d : Jvm.Cond}, tables_1[k]? = some d → d.before av0 Z = true := fun k d h => hw d (List.mem_of_getElem? h)
  show ownEnds p e below s (Q_okB Z a0 p1 a2 N zN ge g h0 n0) ({ frames := 2, cells := 0, slots := 0, locals := 27 } : Room).cells ({ frames := 2, cells := 0, slots := 0, locals := 27 } : Room).slots s₁ (entryFrame m #[(.ref a0), (.int p1), (.ref a2)] 3)
  refine ownCast (own_ef12_okB m a0 p1 a2) ?_
  refine ow_aloadN (q := 1) X0 hx (hb hby own_d12_0) rfl rfl rfl ?_
  refine ownGo (T' := s₁) (f' := (mkF m 2 #[rv a0, iv p1, rv a2] [(.int zN)])) (ownLenI HF0 X0 hx hZ e0 (z := zN) hN (g := (mkF m 1 #[rv a0, iv p1, rv a2] [(.ref a0)])) rfl rfl (hb hby own_d12_1)) ?_
  refine ow_iloadN (q := 3) X0 hx (hb hby own_d12_2) rfl rfl ?_
  refine ow_icmpNo (q := 6) X0 hx (hb hby own_d12_3) rfl (Jvm.Free.XT.ii_le_f hk) ?_
  refine ow_aloadN (q := 7) X0 hx (hb hby own_d12_6) rfl rfl rfl ?_
  refine ow_aloadN (q := 8) X0 hx (hb hby own_d12_7) rfl rfl rfl ?_
  refine ow_iloadN (q := 9) X0 hx (hb hby own_d12_8) rfl rfl ?_
  refine ownGo (T' := s₁) (f' := (mkF m 10 #[rv a0, iv p1, rv a2] [(.int (ge p1.toNatClampNeg)), (.ref a2)])) (ownIaload HF0 X0 hx hZ e0 (j := p1) hin (g := (mkF m 9 #[rv a0, iv p1, rv a2] [(.int p1), (.ref a0), (.ref a2)])) rfl rfl (hb hby own_d12_9)) ?_
  generalize hv_v1 : (ge p1.toNatClampNeg) = v1
  obtain ⟨_, _, ⟨T2, L2, k2, n2⟩, -, X2, ⟨Lc2, hQ2, l2, y2, z2⟩, st2⟩ := Jvm.LawKit.callS X0 hx (y := (⟨"com/example/shapewright/shapewright/regex/BuilderAddPinLaw", "ch", "([II)Z"⟩ : MethodName)) hown (mvT hZ (ww 66 rfl)) (mvT hZ (ww 67 rfl)) (mvT hZ (ww 68 rfl)) (mvT hZ (ww 69 rfl)) (by decide) (backOf (W := 0) (rm_ch l Z av0 hw [] a2 v1 g h0 n0 (Nat.le_trans Z0 K0.1) HF1) hZ (ww 69 rfl) (ww 68 rfl) (by decide) (by decide)) (g := (mkF m 10 #[rv a0, iv p1, rv a2] [(.int v1), (.ref a2)])) rfl (by rw [hml]; rfl) (argsL := [(.ref a2), (.int v1)]) (rest := []) (lenOf own_pd3 rfl) rfl (by show 2 * 0 + _ ≤ _; exact Nat.le_of_eq rfl) (hb hby own_d12_10) (fun _ _ => ⟨rfl, e0, (by decide : 0 + 0 ≤ _), (by decide : 0 + 0 ≤ _)⟩)
  dsimp only [Pt.U, Pt.locs, Pt.cells, Pt.slots] at X2 l2 y2 z2 st2 hQ2
  subst l2 y2 z2
  obtain ⟨rfl, N2q, e2⟩ := hQ2
  have N2 := Fr.app N0 N2q
  refine ownGo (T' := T2) (f' := (mkF m 13 #[rv a0, iv p1, rv a2] [(.int (own_ch (g 0) (g 1) (g 2) (g 3) (g 4) (g 5) v1))])) (st2) ?_
  by_cases hc13_3 : (own_ch (g 0) (g 1) (g 2) (g 3) (g 4) (g 5) v1) = (0 : Int32)
  · refine ow_ifYes (q := 39) X2 hx (hb hby own_d12_13) (Jvm.Free.XT.i0_eq_t hc13_3) (by decide) (by decide) ?_
    refine ow_iconst (q := 40) X2 hx (0 : Int32) (hb hby own_d12_39) rfl rfl ?_
    refine ownRetN X2 hx (r := (0 : Int32)) (Or.inl rfl) Bd.returns (hb hby own_d12_40) hlk (by decide) (by decide) (by decide) ?_
    subst hv_v1
    rw [e2]
    refine ⟨congrArg (fun q => some (Value.int q)) ?_, N2, rfl⟩
    simp [hc13_3]
  · refine ow_ifNo (q := 16) X2 hx (hb hby own_d12_13) rfl (Jvm.Free.XT.i0_eq_f hc13_3) ?_
    refine ow_iloadN (q := 17) X2 hx (hb hby own_d12_16) rfl rfl ?_
    refine ow_iconst (q := 18) X2 hx (1 : Int32) (hb hby own_d12_17) rfl rfl ?_
    refine ow_iadd (q := 19) X2 hx _ (hb hby own_d12_18) rfl rfl ?_
    refine ow_aloadN (q := 20) X2 hx (hb hby own_d12_19) rfl rfl rfl ?_
    refine ownGo (T' := T2) (f' := (mkF m 21 #[rv a0, iv p1, rv a2] [(.int zN), (.int (p1 + (1 : Int32)))])) (ownLenI HF0 X2 hx hZ e2 (z := zN) hN (g := (mkF m 20 #[rv a0, iv p1, rv a2] [(.ref a0), (.int (p1 + (1 : Int32)))])) rfl rfl (hb hby own_d12_20)) ?_
    refine ow_icmpYes (q := 35) X2 hx (hb hby own_d12_21) (Jvm.Free.XT.ii_ge_t (by first | exact hk2 | (rw [hv_v1] at hk2; exact hk2))) (by decide) (by decide) ?_
    refine ow_iconst (q := 36) X2 hx (1 : Int32) (hb hby own_d12_35) rfl rfl ?_
    refine ow_goto (q := 40) X2 hx (hb hby own_d12_36) (by decide) (by decide) ?_
    refine ownRetN X2 hx (r := (1 : Int32)) (Or.inl rfl) Bd.returns (hb hby own_d12_40) hlk (by decide) (by decide) (by decide) ?_
    subst hv_v1
    rw [e2]
    refine ⟨congrArg (fun q => some (Value.int q)) ?_, N2, rfl⟩
    simp [hc13_3]
theorem own_d12_24 : decode method_4_code 24 = .ok (.aload_n 0, 1) := by decide +kernel
theorem own_d12_25 : decode method_4_code 25 = .ok (.iload_n 1, 1) := by decide +kernel
theorem own_d12_26 : decode method_4_code 26 = .ok (.iaload, 1) := by decide +kernel
theorem own_d12_27 : decode method_4_code 27 = .ok (.aload_n 0, 1) := by decide +kernel
theorem own_d12_28 : decode method_4_code 28 = .ok (.iload_n 1, 1) := by decide +kernel
theorem own_d12_29 : decode method_4_code 29 = .ok (.iconst 1, 1) := by decide +kernel
theorem own_d12_30 : decode method_4_code 30 = .ok (.iadd, 1) := by decide +kernel
theorem own_d12_31 : decode method_4_code 31 = .ok (.iaload, 1) := by decide +kernel
theorem own_d12_32 : decode method_4_code 32 = .ok (.if_icmp .ge 7, 3) := by decide +kernel
theorem own_ef12_okC (m : MethodId) (a0 : Addr) (p1 : Int32) (a2 : Addr) : entryFrame m #[(.ref a0), (.int p1), (.ref a2)] 3 = mkF m 0 #[rv a0, iv p1, rv a2] [] := by first | (simp [entryFrame, mkF, argsToLocals, Value.category]; done) | rfl
def Q_okC (Z : State) (a0 : Addr) (p1 : Int32) (a2 : Addr) (N : Nat) (zN : Int32) (ge : Nat → Int32) (g : Nat → Int32) (h0 : Heap) (n0 : Nat) (v : Option Value) (h : Heap) (L : List Loc) : Prop := v = some (.int (if (own_ch (g 0) (g 1) (g 2) (g 3) (g 4) (g 5) (ge p1.toNatClampNeg)) = (0 : Int32) then (0 : Int32) else if (ge p1.toNatClampNeg) < (ge (p1 + (1 : Int32)).toNatClampNeg) then (1 : Int32) else (0 : Int32))) ∧ Fr n0 L ∧ h = h0
set_option maxRecDepth 65536 in
set_option maxHeartbeats 40000000 in
theorem rm_okC (l : Launch) (Z : State) (av0 : Array Value) (hw : ∀ d ∈ tables_1, d.before av0 Z = true) (ws : List Jvm.Cond) (a0 : Addr) (p1 : Int32) (a2 : Addr) (N : Nat) (zN : Int32) (ge : Nat → Int32) (g : Nat → Int32) (h0 : Heap) (n0 : Nat) (Z0 : n0 ≤ h0.size) (HF0 : ownAI Z h0 a0 .int N ge) (HF1 : ownAI Z h0 a2 .int 6 g) (hN : N.toInt32 = zN) (hk : p1 < zN) (hin : ownIn p1 N) (hk2 : (p1 + (1 : Int32)) < zN) (hin2 : ownIn (p1 + (1 : Int32)) N) :
    MetFree l (⟨"com/example/shapewright/shapewright/regex/BuilderAddPinLaw", "okAt", "([II[I)Z"⟩ : MethodName) (head1 (Jvm.Cond.code (⟨"com/example/shapewright/shapewright/regex/BuilderAddPinLaw", "okAt", "([II[I)Z"⟩ : MethodName) method_4_code 3 (some .boolean) :: ws) ({ frames := 2, cells := 0, slots := 0, locals := 27 } : Room)) (fun a U => a = #[(.ref a0), (.int p1), (.ref a2)] ∧ Z.Warmed39 U.vm ∧ U.heap = h0) (fun _ _ _ _ _ => True) (fun _ U o U' => ∃ v L, o = .returned v ∧ (Q_okC Z a0 p1 a2 N zN ge g h0 n0) v U'.heap L ∧ FrameEnd U o U' L ({ frames := 2, cells := 0, slots := 0, locals := 27 } : Room).cells ({ frames := 2, cells := 0, slots := 0, locals := 27 } : Room).slots) := by
  refine MetFree.of_bodySF (plainFor_of_name own_pn_BuilderAddPinLaw) hisR ?_
  intro p e s m args below meth c s₁ Bd hml0 hP hK
  obtain ⟨rfl, hZ, hh⟩ := hP
  have hx := Bd.exec
  have hby := Bd.bytes
  have hml : c.maxLocals = 3 := hml0
  have hown : s.vm.findClass "com/example/shapewright/shapewright/regex/BuilderAddPinLaw" = some m.cls := findClass_of_methodNamed Bd.named
  have hnm := (name_of_methodNamed Bd.named Bd.method).1
  have hlk : meth.locks = false := BodyLoose.notSynchronized Bd
  have X0 : Stand p l e ({ frames := 2, cells := 0, slots := 0, locals := 27 } : Room) s m #[(.ref a0), (.int p1), (.ref a2)] below meth c s₁ [] 0 0 := Stand.of_body Bd
  have e0 : s₁.heap = h0 := by rw [← hh, Bd.state]; rfl
  have N0 := Fr.nil n0
  have K0 : Keep h0 h0 [] := Keep.refl _ _
  have ww : ∀ (k : Nat) {d : Jvm.Cond}, tables_1[k]? = some d → d.before av0 Z = true := fun k d h => hw d (List.mem_of_getElem? h)
  show ownEnds p e below s (Q_okC Z a0 p1 a2 N zN ge g h0 n0) ({ frames := 2, cells := 0, slots := 0, locals := 27 } : Room).cells ({ frames := 2, cells := 0, slots := 0, locals := 27 } : Room).slots s₁ (entryFrame m #[(.ref a0), (.int p1), (.ref a2)] 3)
  refine ownCast (own_ef12_okC m a0 p1 a2) ?_
  refine ow_aloadN (q := 1) X0 hx (hb hby own_d12_0) rfl rfl rfl ?_
  refine ownGo (T' := s₁) (f' := (mkF m 2 #[rv a0, iv p1, rv a2] [(.int zN)])) (ownLenI HF0 X0 hx hZ e0 (z := zN) hN (g := (mkF m 1 #[rv a0, iv p1, rv a2] [(.ref a0)])) rfl rfl (hb hby own_d12_1)) ?_
  refine ow_iloadN (q := 3) X0 hx (hb hby own_d12_2) rfl rfl ?_
  refine ow_icmpNo (q := 6) X0 hx (hb hby own_d12_3) rfl (Jvm.Free.XT.ii_le_f hk) ?_
  refine ow_aloadN (q := 7) X0 hx (hb hby own_d12_6) rfl rfl rfl ?_
  refine ow_aloadN (q := 8) X0 hx (hb hby own_d12_7) rfl rfl rfl ?_
  refine ow_iloadN (q := 9) X0 hx (hb hby own_d12_8) rfl rfl ?_
  refine ownGo (T' := s₁) (f' := (mkF m 10 #[rv a0, iv p1, rv a2] [(.int (ge p1.toNatClampNeg)), (.ref a2)])) (ownIaload HF0 X0 hx hZ e0 (j := p1) hin (g := (mkF m 9 #[rv a0, iv p1, rv a2] [(.int p1), (.ref a0), (.ref a2)])) rfl rfl (hb hby own_d12_9)) ?_
  generalize hv_v1 : (ge p1.toNatClampNeg) = v1
  obtain ⟨_, _, ⟨T2, L2, k2, n2⟩, -, X2, ⟨Lc2, hQ2, l2, y2, z2⟩, st2⟩ := Jvm.LawKit.callS X0 hx (y := (⟨"com/example/shapewright/shapewright/regex/BuilderAddPinLaw", "ch", "([II)Z"⟩ : MethodName)) hown (mvT hZ (ww 66 rfl)) (mvT hZ (ww 67 rfl)) (mvT hZ (ww 68 rfl)) (mvT hZ (ww 69 rfl)) (by decide) (backOf (W := 0) (rm_ch l Z av0 hw [] a2 v1 g h0 n0 (Nat.le_trans Z0 K0.1) HF1) hZ (ww 69 rfl) (ww 68 rfl) (by decide) (by decide)) (g := (mkF m 10 #[rv a0, iv p1, rv a2] [(.int v1), (.ref a2)])) rfl (by rw [hml]; rfl) (argsL := [(.ref a2), (.int v1)]) (rest := []) (lenOf own_pd3 rfl) rfl (by show 2 * 0 + _ ≤ _; exact Nat.le_of_eq rfl) (hb hby own_d12_10) (fun _ _ => ⟨rfl, e0, (by decide : 0 + 0 ≤ _), (by decide : 0 + 0 ≤ _)⟩)
  dsimp only [Pt.U, Pt.locs, Pt.cells, Pt.slots] at X2 l2 y2 z2 st2 hQ2
  subst l2 y2 z2
  obtain ⟨rfl, N2q, e2⟩ := hQ2
  have N2 := Fr.app N0 N2q
  refine ownGo (T' := T2) (f' := (mkF m 13 #[rv a0, iv p1, rv a2] [(.int (own_ch (g 0) (g 1) (g 2) (g 3) (g 4) (g 5) v1))])) (st2) ?_
  by_cases hc13_3 : (own_ch (g 0) (g 1) (g 2) (g 3) (g 4) (g 5) v1) = (0 : Int32)
  · refine ow_ifYes (q := 39) X2 hx (hb hby own_d12_13) (Jvm.Free.XT.i0_eq_t hc13_3) (by decide) (by decide) ?_
    refine ow_iconst (q := 40) X2 hx (0 : Int32) (hb hby own_d12_39) rfl rfl ?_
    refine ownRetN X2 hx (r := (0 : Int32)) (Or.inl rfl) Bd.returns (hb hby own_d12_40) hlk (by decide) (by decide) (by decide) ?_
    subst hv_v1
    rw [e2]
    refine ⟨congrArg (fun q => some (Value.int q)) ?_, N2, rfl⟩
    simp [hc13_3]
  · refine ow_ifNo (q := 16) X2 hx (hb hby own_d12_13) rfl (Jvm.Free.XT.i0_eq_f hc13_3) ?_
    refine ow_iloadN (q := 17) X2 hx (hb hby own_d12_16) rfl rfl ?_
    refine ow_iconst (q := 18) X2 hx (1 : Int32) (hb hby own_d12_17) rfl rfl ?_
    refine ow_iadd (q := 19) X2 hx _ (hb hby own_d12_18) rfl rfl ?_
    refine ow_aloadN (q := 20) X2 hx (hb hby own_d12_19) rfl rfl rfl ?_
    refine ownGo (T' := T2) (f' := (mkF m 21 #[rv a0, iv p1, rv a2] [(.int zN), (.int (p1 + (1 : Int32)))])) (ownLenI HF0 X2 hx hZ e2 (z := zN) hN (g := (mkF m 20 #[rv a0, iv p1, rv a2] [(.ref a0), (.int (p1 + (1 : Int32)))])) rfl rfl (hb hby own_d12_20)) ?_
    refine ow_icmpNo (q := 24) X2 hx (hb hby own_d12_21) rfl (Jvm.Free.XT.ii_ge_f (by first | exact hk2 | (rw [hv_v1] at hk2; exact hk2))) ?_
    refine ow_aloadN (q := 25) X2 hx (hb hby own_d12_24) rfl rfl rfl ?_
    refine ow_iloadN (q := 26) X2 hx (hb hby own_d12_25) rfl rfl ?_
    refine ownGo (T' := T2) (f' := (mkF m 27 #[rv a0, iv p1, rv a2] [(.int (ge p1.toNatClampNeg))])) (ownIaload HF0 X2 hx hZ e2 (j := p1) hin (g := (mkF m 26 #[rv a0, iv p1, rv a2] [(.int p1), (.ref a0)])) rfl rfl (hb hby own_d12_26)) ?_
    generalize hv_v4 : (ge p1.toNatClampNeg) = v4
    refine ow_aloadN (q := 28) X2 hx (hb hby own_d12_27) rfl rfl rfl ?_
    refine ow_iloadN (q := 29) X2 hx (hb hby own_d12_28) rfl rfl ?_
    refine ow_iconst (q := 30) X2 hx (1 : Int32) (hb hby own_d12_29) rfl rfl ?_
    refine ow_iadd (q := 31) X2 hx _ (hb hby own_d12_30) rfl rfl ?_
    generalize hv_v5 : (p1 + (1 : Int32)) = v5
    refine ownGo (T' := T2) (f' := (mkF m 32 #[rv a0, iv p1, rv a2] [(.int (ge v5.toNatClampNeg)), (.int v4)])) (ownIaload HF0 X2 hx hZ e2 (j := v5) (by first | exact hin2 | (rw [hv_v5] at hin2; exact hin2)) (g := (mkF m 31 #[rv a0, iv p1, rv a2] [(.int v5), (.ref a0), (.int v4)])) rfl rfl (hb hby own_d12_31)) ?_
    generalize hv_v6 : (ge v5.toNatClampNeg) = v6
    by_cases hc32_7 : v4 < v6
    · refine ow_icmpNo (q := 35) X2 hx (hb hby own_d12_32) rfl (Jvm.Free.XT.ii_ge_f hc32_7) ?_
      refine ow_iconst (q := 36) X2 hx (1 : Int32) (hb hby own_d12_35) rfl rfl ?_
      refine ow_goto (q := 40) X2 hx (hb hby own_d12_36) (by decide) (by decide) ?_
      refine ownRetN X2 hx (r := (1 : Int32)) (Or.inl rfl) Bd.returns (hb hby own_d12_40) hlk (by decide) (by decide) (by decide) ?_
      subst hv_v6 hv_v5 hv_v4 hv_v1
      rw [e2]
      refine ⟨congrArg (fun q => some (Value.int q)) ?_, N2, rfl⟩
      simp [hc13_3, hc32_7]
    · refine ow_icmpYes (q := 39) X2 hx (hb hby own_d12_32) (Jvm.Free.XT.ii_ge_t hc32_7) (by decide) (by decide) ?_
      refine ow_iconst (q := 40) X2 hx (0 : Int32) (hb hby own_d12_39) rfl rfl ?_
      refine ownRetN X2 hx (r := (0 : Int32)) (Or.inl rfl) Bd.returns (hb hby own_d12_40) hlk (by decide) (by decide) (by decide) ?_
      subst hv_v6 hv_v5 hv_v4 hv_v1
      rw [e2]
      refine ⟨congrArg (fun q => some (Value.int q)) ?_, N2, rfl⟩
      simp [hc13_3, hc32_7]
theorem own_pd4 : parseMethodDescriptor "()V" = some ⟨[], none⟩ := by decide +kernel
theorem own_pd5 : parseMethodDescriptor "(II)Lcom/example/shapewright/shapewright/regex/CodePointSet$Builder;" = some ⟨[.int, .int], some (.object "com/example/shapewright/shapewright/regex/CodePointSet$Builder")⟩ := by decide +kernel
theorem own_pd6 : parseMethodDescriptor "()Lcom/example/shapewright/shapewright/regex/CodePointSet;" = some ⟨[], some (.object "com/example/shapewright/shapewright/regex/CodePointSet")⟩ := by decide +kernel
theorem own_pd7 : parseMethodDescriptor "()[I" = some ⟨[], some (.array .int)⟩ := by decide +kernel
theorem own_pd8 : parseMethodDescriptor "([II[I)Z" = some ⟨[(.array .int), .int, (.array .int)], some .boolean⟩ := by decide +kernel
theorem own_ef0_law (m : MethodId) (p0 : Int32) (p1 : Int32) (p2 : Int32) (p3 : Int32) (p4 : Int32) (p5 : Int32) : entryFrame m #[(.int p0), (.int p1), (.int p2), (.int p3), (.int p4), (.int p5)] maxLocals = mkF m 0 #[iv p0, iv p1, iv p2, iv p3, iv p4, iv p5, .unset, .unset, .unset, .unset, .unset, .unset, .unset, .unset, .unset, .unset, .unset, .unset, .unset, .unset, .unset, .unset, .unset, .unset] [] := by first | (simp [entryFrame, mkF, argsToLocals, Value.category, maxLocals]; done) | rfl
def Q_law (Z : State) (p0 : Int32) (p1 : Int32) (p2 : Int32) (p3 : Int32) (p4 : Int32) (p5 : Int32) (h0 : Heap) (n0 : Nat) (v : Option Value) (h : Heap) (L : List Loc) : Prop := v = some (.int 1) ∧ Fr n0 L
set_option maxRecDepth 65536 in
set_option maxHeartbeats 40000000 in
theorem rm_law (l : Launch) (Z : State) (av0 : Array Value) (hw : ∀ d ∈ tables_1, d.before av0 Z = true) (ws : List Jvm.Cond) (p0 : Int32) (p1 : Int32) (p2 : Int32) (p3 : Int32) (p4 : Int32) (p5 : Int32) (h0 : Heap) (n0 : Nat) (Z0 : n0 ≤ h0.size) :
    MetFree l x (head1 (Jvm.Cond.code x code maxLocals ret :: ws) room_1) (fun a U => a = #[(.int p0), (.int p1), (.int p2), (.int p3), (.int p4), (.int p5)] ∧ Z.Warmed39 U.vm ∧ U.heap = h0) (fun _ _ _ _ _ => True) (fun _ U o U' => ∃ v L, o = .returned v ∧ (Q_law Z p0 p1 p2 p3 p4 p5 h0 n0) v U'.heap L ∧ FrameEnd U o U' L 24 192) := by
  refine MetFree.of_bodySF (plainFor_of_name own_pn_BuilderAddPinLaw) hisR ?_
  intro p e s m args below meth c s₁ Bd hml0 hP hK
  obtain ⟨rfl, hZ, hh⟩ := hP
  have hx := Bd.exec
  have hby := Bd.bytes
  have hml : c.maxLocals = 24 := hml0
  have hown : s.vm.findClass "com/example/shapewright/shapewright/regex/BuilderAddPinLaw" = some m.cls := findClass_of_methodNamed Bd.named
  have hnm := (name_of_methodNamed Bd.named Bd.method).1
  have hlk : meth.locks = false := BodyLoose.notSynchronized Bd
  have X0 : Stand p l e room_1 s m #[(.int p0), (.int p1), (.int p2), (.int p3), (.int p4), (.int p5)] below meth c s₁ [] 0 0 := Stand.of_body Bd
  have e0 : s₁.heap = h0 := by rw [← hh, Bd.state]; rfl
  have N0 := Fr.nil n0
  have K0 : Keep h0 h0 [] := Keep.refl _ _
  have ww : ∀ (k : Nat) {d : Jvm.Cond}, tables_1[k]? = some d → d.before av0 Z = true := fun k d h => hw d (List.mem_of_getElem? h)
  show ownEnds p e below s (Q_law Z p0 p1 p2 p3 p4 p5 h0 n0) 24 192 s₁ (entryFrame m #[(.int p0), (.int p1), (.int p2), (.int p3), (.int p4), (.int p5)] maxLocals)
  refine ownCast (own_ef0_law m p0 p1 p2 p3 p4 p5) ?_
  refine ownGo (T' := s₁) (f' := (mkF m 2 #[iv p0, iv p1, iv p2, iv p3, iv p4, iv p5, .unset, .unset, .unset, .unset, .unset, .unset, .unset, .unset, .unset, .unset, .unset, .unset, .unset, .unset, .unset, .unset, .unset, .unset] [(.int (1114112 : Int32))])) (X0.ldcInt hx hown (mvT hZ (ww 0 rfl)) (g := (mkF m 0 #[iv p0, iv p1, iv p2, iv p3, iv p4, iv p5, .unset, .unset, .unset, .unset, .unset, .unset, .unset, .unset, .unset, .unset, .unset, .unset, .unset, .unset, .unset, .unset, .unset, .unset] [])) rfl (hb hby at_0)) ?_
  refine ow_istore (q := 4) X0 hx (L' := #[iv p0, iv p1, iv p2, iv p3, iv p4, iv p5, iv (1114112 : Int32), .unset, .unset, .unset, .unset, .unset, .unset, .unset, .unset, .unset, .unset, .unset, .unset, .unset, .unset, .unset, .unset, .unset]) (hb hby at_2) rfl rfl ?_
  refine ow_iloadN (q := 5) X0 hx (hb hby at_4) rfl rfl ?_
  refine ownGo (T' := s₁) (f' := (mkF m 7 #[iv p0, iv p1, iv p2, iv p3, iv p4, iv p5, iv (1114112 : Int32), .unset, .unset, .unset, .unset, .unset, .unset, .unset, .unset, .unset, .unset, .unset, .unset, .unset, .unset, .unset, .unset, .unset] [(.int (2147483647 : Int32)), (.int p0)])) (X0.ldcInt hx hown (mvT hZ (ww 1 rfl)) (g := (mkF m 5 #[iv p0, iv p1, iv p2, iv p3, iv p4, iv p5, iv (1114112 : Int32), .unset, .unset, .unset, .unset, .unset, .unset, .unset, .unset, .unset, .unset, .unset, .unset, .unset, .unset, .unset, .unset, .unset] [(.int p0)])) rfl (hb hby at_5)) ?_
  refine ow_iand (q := 8) X0 hx _ (hb hby at_7) rfl rfl ?_
  refine ow_iload (q := 10) X0 hx (hb hby at_8) rfl rfl ?_
  refine ow_irem (q := 11) X0 hx _ (hb hby at_10) rfl (by decide) rfl ?_
  generalize hv_v1 : ((p0 &&& (2147483647 : Int32)) % (1114112 : Int32)) = v1
  refine ow_istore (q := 13) X0 hx (L' := #[iv p0, iv p1, iv p2, iv p3, iv p4, iv p5, iv (1114112 : Int32), iv v1, .unset, .unset, .unset, .unset, .unset, .unset, .unset, .unset, .unset, .unset, .unset, .unset, .unset, .unset, .unset, .unset]) (hb hby at_11) rfl rfl ?_
  refine ow_iload (q := 15) X0 hx (hb hby at_13) rfl rfl ?_
  refine ow_iloadN (q := 16) X0 hx (hb hby at_15) rfl rfl ?_
  refine ownGo (T' := s₁) (f' := (mkF m 18 #[iv p0, iv p1, iv p2, iv p3, iv p4, iv p5, iv (1114112 : Int32), iv v1, .unset, .unset, .unset, .unset, .unset, .unset, .unset, .unset, .unset, .unset, .unset, .unset, .unset, .unset, .unset, .unset] [(.int (2147483647 : Int32)), (.int p1), (.int v1)])) (X0.ldcInt hx hown (mvT hZ (ww 1 rfl)) (g := (mkF m 16 #[iv p0, iv p1, iv p2, iv p3, iv p4, iv p5, iv (1114112 : Int32), iv v1, .unset, .unset, .unset, .unset, .unset, .unset, .unset, .unset, .unset, .unset, .unset, .unset, .unset, .unset, .unset, .unset] [(.int p1), (.int v1)])) rfl (hb hby at_16)) ?_
  refine ow_iand (q := 19) X0 hx _ (hb hby at_18) rfl rfl ?_
  refine ow_iload (q := 21) X0 hx (hb hby at_19) rfl rfl ?_
  refine ow_iload (q := 23) X0 hx (hb hby at_21) rfl rfl ?_
  refine ow_isub (q := 24) X0 hx _ (hb hby at_23) rfl rfl ?_
  refine ow_irem (q := 25) X0 hx _ (hb hby at_24) rfl (own_nz1 hv_v1) rfl ?_
  refine ow_iadd (q := 26) X0 hx _ (hb hby at_25) rfl rfl ?_
  generalize hv_v2 : (v1 + ((p1 &&& (2147483647 : Int32)) % ((1114112 : Int32) - v1))) = v2
  refine ow_istore (q := 28) X0 hx (L' := #[iv p0, iv p1, iv p2, iv p3, iv p4, iv p5, iv (1114112 : Int32), iv v1, iv v2, .unset, .unset, .unset, .unset, .unset, .unset, .unset, .unset, .unset, .unset, .unset, .unset, .unset, .unset, .unset]) (hb hby at_26) rfl rfl ?_
  refine ow_iload (q := 30) X0 hx (hb hby at_28) rfl rfl ?_
  refine ow_iloadN (q := 31) X0 hx (hb hby at_30) rfl rfl ?_
  refine ownGo (T' := s₁) (f' := (mkF m 33 #[iv p0, iv p1, iv p2, iv p3, iv p4, iv p5, iv (1114112 : Int32), iv v1, iv v2, .unset, .unset, .unset, .unset, .unset, .unset, .unset, .unset, .unset, .unset, .unset, .unset, .unset, .unset, .unset] [(.int (2147483647 : Int32)), (.int p2), (.int v1)])) (X0.ldcInt hx hown (mvT hZ (ww 1 rfl)) (g := (mkF m 31 #[iv p0, iv p1, iv p2, iv p3, iv p4, iv p5, iv (1114112 : Int32), iv v1, iv v2, .unset, .unset, .unset, .unset, .unset, .unset, .unset, .unset, .unset, .unset, .unset, .unset, .unset, .unset, .unset] [(.int p2), (.int v1)])) rfl (hb hby at_31)) ?_
  refine ow_iand (q := 34) X0 hx _ (hb hby at_33) rfl rfl ?_
  refine ow_iload (q := 36) X0 hx (hb hby at_34) rfl rfl ?_
  refine ow_iload (q := 38) X0 hx (hb hby at_36) rfl rfl ?_
  refine ow_isub (q := 39) X0 hx _ (hb hby at_38) rfl rfl ?_
  refine ow_irem (q := 40) X0 hx _ (hb hby at_39) rfl (own_nz1 hv_v1) rfl ?_
  refine ow_iadd (q := 41) X0 hx _ (hb hby at_40) rfl rfl ?_
  generalize hv_v3 : (v1 + ((p2 &&& (2147483647 : Int32)) % ((1114112 : Int32) - v1))) = v3
  refine ow_istore (q := 43) X0 hx (L' := #[iv p0, iv p1, iv p2, iv p3, iv p4, iv p5, iv (1114112 : Int32), iv v1, iv v2, iv v3, .unset, .unset, .unset, .unset, .unset, .unset, .unset, .unset, .unset, .unset, .unset, .unset, .unset, .unset]) (hb hby at_41) rfl rfl ?_
  refine ow_iload (q := 45) X0 hx (hb hby at_43) rfl rfl ?_
  refine ow_iloadN (q := 46) X0 hx (hb hby at_45) rfl rfl ?_
  refine ownGo (T' := s₁) (f' := (mkF m 48 #[iv p0, iv p1, iv p2, iv p3, iv p4, iv p5, iv (1114112 : Int32), iv v1, iv v2, iv v3, .unset, .unset, .unset, .unset, .unset, .unset, .unset, .unset, .unset, .unset, .unset, .unset, .unset, .unset] [(.int (2147483647 : Int32)), (.int p3), (.int v3)])) (X0.ldcInt hx hown (mvT hZ (ww 1 rfl)) (g := (mkF m 46 #[iv p0, iv p1, iv p2, iv p3, iv p4, iv p5, iv (1114112 : Int32), iv v1, iv v2, iv v3, .unset, .unset, .unset, .unset, .unset, .unset, .unset, .unset, .unset, .unset, .unset, .unset, .unset, .unset] [(.int p3), (.int v3)])) rfl (hb hby at_46)) ?_
  refine ow_iand (q := 49) X0 hx _ (hb hby at_48) rfl rfl ?_
  refine ow_iload (q := 51) X0 hx (hb hby at_49) rfl rfl ?_
  refine ow_iload (q := 53) X0 hx (hb hby at_51) rfl rfl ?_
  refine ow_isub (q := 54) X0 hx _ (hb hby at_53) rfl rfl ?_
  refine ow_irem (q := 55) X0 hx _ (hb hby at_54) rfl (own_nz2 hv_v1 hv_v3) rfl ?_
  refine ow_iadd (q := 56) X0 hx _ (hb hby at_55) rfl rfl ?_
  generalize hv_v4 : (v3 + ((p3 &&& (2147483647 : Int32)) % ((1114112 : Int32) - v3))) = v4
  refine ow_istore (q := 58) X0 hx (L' := #[iv p0, iv p1, iv p2, iv p3, iv p4, iv p5, iv (1114112 : Int32), iv v1, iv v2, iv v3, iv v4, .unset, .unset, .unset, .unset, .unset, .unset, .unset, .unset, .unset, .unset, .unset, .unset, .unset]) (hb hby at_56) rfl rfl ?_
  refine ow_iload (q := 60) X0 hx (hb hby at_58) rfl rfl ?_
  refine ow_iload (q := 62) X0 hx (hb hby at_60) rfl rfl ?_
  refine ownGo (T' := s₁) (f' := (mkF m 64 #[iv p0, iv p1, iv p2, iv p3, iv p4, iv p5, iv (1114112 : Int32), iv v1, iv v2, iv v3, iv v4, .unset, .unset, .unset, .unset, .unset, .unset, .unset, .unset, .unset, .unset, .unset, .unset, .unset] [(.int (2147483647 : Int32)), (.int p4), (.int v3)])) (X0.ldcInt hx hown (mvT hZ (ww 1 rfl)) (g := (mkF m 62 #[iv p0, iv p1, iv p2, iv p3, iv p4, iv p5, iv (1114112 : Int32), iv v1, iv v2, iv v3, iv v4, .unset, .unset, .unset, .unset, .unset, .unset, .unset, .unset, .unset, .unset, .unset, .unset, .unset] [(.int p4), (.int v3)])) rfl (hb hby at_62)) ?_
  refine ow_iand (q := 65) X0 hx _ (hb hby at_64) rfl rfl ?_
  refine ow_iload (q := 67) X0 hx (hb hby at_65) rfl rfl ?_
  refine ow_iload (q := 69) X0 hx (hb hby at_67) rfl rfl ?_
  refine ow_isub (q := 70) X0 hx _ (hb hby at_69) rfl rfl ?_
  refine ow_irem (q := 71) X0 hx _ (hb hby at_70) rfl (own_nz2 hv_v1 hv_v3) rfl ?_
  refine ow_iadd (q := 72) X0 hx _ (hb hby at_71) rfl rfl ?_
  generalize hv_v5 : (v3 + ((p4 &&& (2147483647 : Int32)) % ((1114112 : Int32) - v3))) = v5
  refine ow_istore (q := 74) X0 hx (L' := #[iv p0, iv p1, iv p2, iv p3, iv p4, iv p5, iv (1114112 : Int32), iv v1, iv v2, iv v3, iv v4, iv v5, .unset, .unset, .unset, .unset, .unset, .unset, .unset, .unset, .unset, .unset, .unset, .unset]) (hb hby at_72) rfl rfl ?_
  refine ow_iload (q := 76) X0 hx (hb hby at_74) rfl rfl ?_
  refine ow_iload (q := 78) X0 hx (hb hby at_76) rfl rfl ?_
  refine ownGo (T' := s₁) (f' := (mkF m 80 #[iv p0, iv p1, iv p2, iv p3, iv p4, iv p5, iv (1114112 : Int32), iv v1, iv v2, iv v3, iv v4, iv v5, .unset, .unset, .unset, .unset, .unset, .unset, .unset, .unset, .unset, .unset, .unset, .unset] [(.int (2147483647 : Int32)), (.int p5), (.int v5)])) (X0.ldcInt hx hown (mvT hZ (ww 1 rfl)) (g := (mkF m 78 #[iv p0, iv p1, iv p2, iv p3, iv p4, iv p5, iv (1114112 : Int32), iv v1, iv v2, iv v3, iv v4, iv v5, .unset, .unset, .unset, .unset, .unset, .unset, .unset, .unset, .unset, .unset, .unset, .unset] [(.int p5), (.int v5)])) rfl (hb hby at_78)) ?_
  refine ow_iand (q := 81) X0 hx _ (hb hby at_80) rfl rfl ?_
  refine ow_iload (q := 83) X0 hx (hb hby at_81) rfl rfl ?_
  refine ow_iload (q := 85) X0 hx (hb hby at_83) rfl rfl ?_
  refine ow_isub (q := 86) X0 hx _ (hb hby at_85) rfl rfl ?_
  refine ow_irem (q := 87) X0 hx _ (hb hby at_86) rfl (own_nz3 hv_v1 hv_v3 hv_v5) rfl ?_
  refine ow_iadd (q := 88) X0 hx _ (hb hby at_87) rfl rfl ?_
  generalize hv_v6 : (v5 + ((p5 &&& (2147483647 : Int32)) % ((1114112 : Int32) - v5))) = v6
  refine ow_istore (q := 90) X0 hx (L' := #[iv p0, iv p1, iv p2, iv p3, iv p4, iv p5, iv (1114112 : Int32), iv v1, iv v2, iv v3, iv v4, iv v5, iv v6, .unset, .unset, .unset, .unset, .unset, .unset, .unset, .unset, .unset, .unset, .unset]) (hb hby at_88) rfl rfl ?_
  have cut90_7 : ∀ (f1 : Int32) (l1 : Int32) (f2 : Int32) (l2 : Int32) (f3 : Int32) (l3 : Int32) (Tc7 : State) (lc7 : List Loc), Stand p l e room_1 s m #[(.int p0), (.int p1), (.int p2), (.int p3), (.int p4), (.int p5)] below meth c Tc7 lc7 0 0 → Tc7.heap = h0 → Fr n0 lc7 → (own_R f1 l1 f2 l2 f3 l3) → ownEnds p e below s (Q_law Z p0 p1 p2 p3 p4 p5 h0 n0) 24 192 Tc7 (mkF m 90 #[iv p0, iv p1, iv p2, iv p3, iv p4, iv p5, iv (1114112 : Int32), iv f1, iv l1, iv f2, iv l2, iv f3, iv l3, .unset, .unset, .unset, .unset, .unset, .unset, .unset, .unset, .unset, .unset, .unset] []) := by
    intro f1 l1 f2 l2 f3 l3 Tc7 lc7 Xc7 ec7 Nc7 hr
    refine ow_bipush (q := 92) Xc7 hx (6 : Int32) (hb hby at_90) rfl rfl ?_
    obtain ⟨T8, h8, k8, X8, e8, E8, A8, st8⟩ := newP Xc7 hx hZ (ww 2 rfl) ec7 (g := (mkF m 92 #[iv p0, iv p1, iv p2, iv p3, iv p4, iv p5, iv (1114112 : Int32), iv f1, iv l1, iv f2, iv l2, iv f3, iv l3, .unset, .unset, .unset, .unset, .unset, .unset, .unset, .unset, .unset, .unset, .unset] [(.int (6 : Int32))])) rfl (hb hby at_92) rfl (by decide) (cap := 6) (by decide) (by decide) (by decide) (by decide)
    obtain ⟨b8, g8⟩ : ∃ z, z = h0.size := ⟨_, rfl⟩
    rw [← g8] at A8 st8
    have sz_b8 : h0.size ≤ b8 := Nat.le_trans K0.1 (Nat.le_of_eq g8.symm)
    have G_b8 : n0 ≤ b8 := Nat.le_trans Z0 sz_b8
    have K8 : Keep h0 h8 [] := K0.ext E8
    have F9 : ownAI Z h8 b8 .int 6 (fun _ => (0 : Int32)) := ownAI.new A8 (by decide) rfl (by decide)
    refine ownGo (T' := T8) (f' := (mkF m 94 #[iv p0, iv p1, iv p2, iv p3, iv p4, iv p5, iv (1114112 : Int32), iv f1, iv l1, iv f2, iv l2, iv f3, iv l3, .unset, .unset, .unset, .unset, .unset, .unset, .unset, .unset, .unset, .unset, .unset] [(.ref b8)])) (st8) ?_
    refine ow_dup (q := 95) X8 hx (hb hby at_94) rfl rfl ?_
    refine ow_iconst (q := 96) X8 hx (0 : Int32) (hb hby at_95) rfl rfl ?_
    refine ow_iload (q := 98) X8 hx (hb hby at_96) rfl rfl ?_
    obtain ⟨T10, h10, X10, e10, W10, F10s, st10⟩ := ownIastore F9 X8 hx hZ e8 (j := (0 : Int32)) (by unfold ownIn; decide) (g := (mkF m 98 #[iv p0, iv p1, iv p2, iv p3, iv p4, iv p5, iv (1114112 : Int32), iv f1, iv l1, iv f2, iv l2, iv f3, iv l3, .unset, .unset, .unset, .unset, .unset, .unset, .unset, .unset, .unset, .unset, .unset] [(.int f1), (.int (0 : Int32)), (.ref b8), (.ref b8)])) rfl rfl (hb hby at_98)
    have F10r : ownAI Z h10 b8 .int 6 (ownUpd (fun _ => (0 : Int32)) 0 f1) := F10s
    have N10 := Fr.snoc X10 Nc7 G_b8
    have K10 : Keep h0 h10 [] := K8.wr W10 (Or.inr sz_b8)
    refine ownGo (T' := T10) (f' := (mkF m 99 #[iv p0, iv p1, iv p2, iv p3, iv p4, iv p5, iv (1114112 : Int32), iv f1, iv l1, iv f2, iv l2, iv f3, iv l3, .unset, .unset, .unset, .unset, .unset, .unset, .unset, .unset, .unset, .unset, .unset] [(.ref b8)])) (st10) ?_
    refine ow_dup (q := 100) X10 hx (hb hby at_99) rfl rfl ?_
    refine ow_iconst (q := 101) X10 hx (1 : Int32) (hb hby at_100) rfl rfl ?_
    refine ow_iload (q := 103) X10 hx (hb hby at_101) rfl rfl ?_
    obtain ⟨T11, h11, X11, e11, W11, F11s, st11⟩ := ownIastore F10r X10 hx hZ e10 (j := (1 : Int32)) (by unfold ownIn; decide) (g := (mkF m 103 #[iv p0, iv p1, iv p2, iv p3, iv p4, iv p5, iv (1114112 : Int32), iv f1, iv l1, iv f2, iv l2, iv f3, iv l3, .unset, .unset, .unset, .unset, .unset, .unset, .unset, .unset, .unset, .unset, .unset] [(.int l1), (.int (1 : Int32)), (.ref b8), (.ref b8)])) rfl rfl (hb hby at_103)
    have F11r : ownAI Z h11 b8 .int 6 (ownUpd (ownUpd (fun _ => (0 : Int32)) 0 f1) 1 l1) := F11s
    have N11 := Fr.snoc X11 N10 G_b8
    have K11 : Keep h0 h11 [] := K10.wr W11 (Or.inr sz_b8)
    refine ownGo (T' := T11) (f' := (mkF m 104 #[iv p0, iv p1, iv p2, iv p3, iv p4, iv p5, iv (1114112 : Int32), iv f1, iv l1, iv f2, iv l2, iv f3, iv l3, .unset, .unset, .unset, .unset, .unset, .unset, .unset, .unset, .unset, .unset, .unset] [(.ref b8)])) (st11) ?_
    refine ow_dup (q := 105) X11 hx (hb hby at_104) rfl rfl ?_
    refine ow_iconst (q := 106) X11 hx (2 : Int32) (hb hby at_105) rfl rfl ?_
    refine ow_iload (q := 108) X11 hx (hb hby at_106) rfl rfl ?_
    obtain ⟨T12, h12, X12, e12, W12, F12s, st12⟩ := ownIastore F11r X11 hx hZ e11 (j := (2 : Int32)) (by unfold ownIn; decide) (g := (mkF m 108 #[iv p0, iv p1, iv p2, iv p3, iv p4, iv p5, iv (1114112 : Int32), iv f1, iv l1, iv f2, iv l2, iv f3, iv l3, .unset, .unset, .unset, .unset, .unset, .unset, .unset, .unset, .unset, .unset, .unset] [(.int f2), (.int (2 : Int32)), (.ref b8), (.ref b8)])) rfl rfl (hb hby at_108)
    have F12r : ownAI Z h12 b8 .int 6 (ownUpd (ownUpd (ownUpd (fun _ => (0 : Int32)) 0 f1) 1 l1) 2 f2) := F12s
    have N12 := Fr.snoc X12 N11 G_b8
    have K12 : Keep h0 h12 [] := K11.wr W12 (Or.inr sz_b8)
    refine ownGo (T' := T12) (f' := (mkF m 109 #[iv p0, iv p1, iv p2, iv p3, iv p4, iv p5, iv (1114112 : Int32), iv f1, iv l1, iv f2, iv l2, iv f3, iv l3, .unset, .unset, .unset, .unset, .unset, .unset, .unset, .unset, .unset, .unset, .unset] [(.ref b8)])) (st12) ?_
    refine ow_dup (q := 110) X12 hx (hb hby at_109) rfl rfl ?_
    refine ow_iconst (q := 111) X12 hx (3 : Int32) (hb hby at_110) rfl rfl ?_
    refine ow_iload (q := 113) X12 hx (hb hby at_111) rfl rfl ?_
    obtain ⟨T13, h13, X13, e13, W13, F13s, st13⟩ := ownIastore F12r X12 hx hZ e12 (j := (3 : Int32)) (by unfold ownIn; decide) (g := (mkF m 113 #[iv p0, iv p1, iv p2, iv p3, iv p4, iv p5, iv (1114112 : Int32), iv f1, iv l1, iv f2, iv l2, iv f3, iv l3, .unset, .unset, .unset, .unset, .unset, .unset, .unset, .unset, .unset, .unset, .unset] [(.int l2), (.int (3 : Int32)), (.ref b8), (.ref b8)])) rfl rfl (hb hby at_113)
    have F13r : ownAI Z h13 b8 .int 6 (ownUpd (ownUpd (ownUpd (ownUpd (fun _ => (0 : Int32)) 0 f1) 1 l1) 2 f2) 3 l2) := F13s
    have N13 := Fr.snoc X13 N12 G_b8
    have K13 : Keep h0 h13 [] := K12.wr W13 (Or.inr sz_b8)
    refine ownGo (T' := T13) (f' := (mkF m 114 #[iv p0, iv p1, iv p2, iv p3, iv p4, iv p5, iv (1114112 : Int32), iv f1, iv l1, iv f2, iv l2, iv f3, iv l3, .unset, .unset, .unset, .unset, .unset, .unset, .unset, .unset, .unset, .unset, .unset] [(.ref b8)])) (st13) ?_
    refine ow_dup (q := 115) X13 hx (hb hby at_114) rfl rfl ?_
    refine ow_iconst (q := 116) X13 hx (4 : Int32) (hb hby at_115) rfl rfl ?_
    refine ow_iload (q := 118) X13 hx (hb hby at_116) rfl rfl ?_
    obtain ⟨T14, h14, X14, e14, W14, F14s, st14⟩ := ownIastore F13r X13 hx hZ e13 (j := (4 : Int32)) (by unfold ownIn; decide) (g := (mkF m 118 #[iv p0, iv p1, iv p2, iv p3, iv p4, iv p5, iv (1114112 : Int32), iv f1, iv l1, iv f2, iv l2, iv f3, iv l3, .unset, .unset, .unset, .unset, .unset, .unset, .unset, .unset, .unset, .unset, .unset] [(.int f3), (.int (4 : Int32)), (.ref b8), (.ref b8)])) rfl rfl (hb hby at_118)
    have F14r : ownAI Z h14 b8 .int 6 (ownUpd (ownUpd (ownUpd (ownUpd (ownUpd (fun _ => (0 : Int32)) 0 f1) 1 l1) 2 f2) 3 l2) 4 f3) := F14s
    have N14 := Fr.snoc X14 N13 G_b8
    have K14 : Keep h0 h14 [] := K13.wr W14 (Or.inr sz_b8)
    refine ownGo (T' := T14) (f' := (mkF m 119 #[iv p0, iv p1, iv p2, iv p3, iv p4, iv p5, iv (1114112 : Int32), iv f1, iv l1, iv f2, iv l2, iv f3, iv l3, .unset, .unset, .unset, .unset, .unset, .unset, .unset, .unset, .unset, .unset, .unset] [(.ref b8)])) (st14) ?_
    refine ow_dup (q := 120) X14 hx (hb hby at_119) rfl rfl ?_
    refine ow_iconst (q := 121) X14 hx (5 : Int32) (hb hby at_120) rfl rfl ?_
    refine ow_iload (q := 123) X14 hx (hb hby at_121) rfl rfl ?_
    obtain ⟨T15, h15, X15, e15, W15, F15s, st15⟩ := ownIastore F14r X14 hx hZ e14 (j := (5 : Int32)) (by unfold ownIn; decide) (g := (mkF m 123 #[iv p0, iv p1, iv p2, iv p3, iv p4, iv p5, iv (1114112 : Int32), iv f1, iv l1, iv f2, iv l2, iv f3, iv l3, .unset, .unset, .unset, .unset, .unset, .unset, .unset, .unset, .unset, .unset, .unset] [(.int l3), (.int (5 : Int32)), (.ref b8), (.ref b8)])) rfl rfl (hb hby at_123)
    have F15r : ownAI Z h15 b8 .int 6 (ownUpd (ownUpd (ownUpd (ownUpd (ownUpd (ownUpd (fun _ => (0 : Int32)) 0 f1) 1 l1) 2 f2) 3 l2) 4 f3) 5 l3) := F15s
    have N15 := Fr.snoc X15 N14 G_b8
    have K15 : Keep h0 h15 [] := K14.wr W15 (Or.inr sz_b8)
    refine ownGo (T' := T15) (f' := (mkF m 124 #[iv p0, iv p1, iv p2, iv p3, iv p4, iv p5, iv (1114112 : Int32), iv f1, iv l1, iv f2, iv l2, iv f3, iv l3, .unset, .unset, .unset, .unset, .unset, .unset, .unset, .unset, .unset, .unset, .unset] [(.ref b8)])) (st15) ?_
    refine ow_astore (q := 126) X15 hx (L' := #[iv p0, iv p1, iv p2, iv p3, iv p4, iv p5, iv (1114112 : Int32), iv f1, iv l1, iv f2, iv l2, iv f3, iv l3, rv b8, .unset, .unset, .unset, .unset, .unset, .unset, .unset, .unset, .unset, .unset]) (hb hby at_124) rfl rfl rfl ?_
    obtain ⟨T16, h16, X16, e16, E16, A16, D16, -, st16⟩ := newO X15 hx hZ hown (ww 3 rfl) (ww 4 rfl) (ww 5 rfl) e15 (g := (mkF m 126 #[iv p0, iv p1, iv p2, iv p3, iv p4, iv p5, iv (1114112 : Int32), iv f1, iv l1, iv f2, iv l2, iv f3, iv l3, rv b8, .unset, .unset, .unset, .unset, .unset, .unset, .unset, .unset, .unset, .unset] [])) rfl (hb hby at_126) (by decide) (by decide)
    obtain ⟨b16, g16⟩ : ∃ z, z = h15.size := ⟨_, rfl⟩
    rw [← g16] at A16 D16 st16
    have ne_b8_b16 : b8 ≠ b16 := Nat.ne_of_lt (Nat.lt_of_lt_of_le F15r.lt (Nat.le_of_eq g16.symm))
    have sz_b16 : h0.size ≤ b16 := Nat.le_trans K15.1 (Nat.le_of_eq g16.symm)
    have G_b16 : n0 ≤ b16 := Nat.le_trans Z0 sz_b16
    have K16 : Keep h0 h16 [] := K15.ext E16
    have F17 : ownAI Z h16 b8 .int 6 (ownUpd (ownUpd (ownUpd (ownUpd (ownUpd (ownUpd (fun _ => (0 : Int32)) 0 f1) 1 l1) 2 f2) 3 l2) 4 f3) 5 l3) := F15r.ext E16
    have F18 : Fld Z h16 b16 "com/example/shapewright/shapewright/regex/CodePointSet$Builder" "ranges" "[I" .null := D16 (Or.inl (ww 13 rfl)) (ty := (.array .int)) (by decide)
    have F19 : Fld Z h16 b16 "com/example/shapewright/shapewright/regex/CodePointSet$Builder" "length" "I" (.int (0 : Int32)) := D16 (Or.inl (ww 20 rfl)) (ty := .int) (by decide)
    refine ownGo (T' := T16) (f' := (mkF m 129 #[iv p0, iv p1, iv p2, iv p3, iv p4, iv p5, iv (1114112 : Int32), iv f1, iv l1, iv f2, iv l2, iv f3, iv l3, rv b8, .unset, .unset, .unset, .unset, .unset, .unset, .unset, .unset, .unset, .unset] [(.ref b16)])) (st16) ?_
    refine ow_dup (q := 130) X16 hx (hb hby at_129) rfl rfl ?_
    obtain ⟨_, _, ⟨T20, L20, k20, n20⟩, -, X20, ⟨Lc20, hQ20, l20, y20, z20⟩, st20⟩ := X16.specialBack hx (y := (⟨"com/example/shapewright/shapewright/regex/CodePointSet$Builder", "<init>", "()V"⟩ : MethodName)) rfl hown (mvT hZ (ww 6 rfl)) (mvT hZ (ww 7 rfl)) (mvT hZ (ww 8 rfl)) (by decide) (backOf (W := 1) (rm_binit l Z av0 hw [] b16 h16 n0 (Nat.le_trans Z0 K16.1) A16 F18 F19 G_b16) hZ (ww 8 rfl) (ww 5 rfl) (by decide) (by decide)) (g := (mkF m 130 #[iv p0, iv p1, iv p2, iv p3, iv p4, iv p5, iv (1114112 : Int32), iv f1, iv l1, iv f2, iv l2, iv f3, iv l3, rv b8, .unset, .unset, .unset, .unset, .unset, .unset, .unset, .unset, .unset, .unset] [(.ref b16), (.ref b16)])) rfl (by rw [hml]; rfl) (Steps.refl _) (a := b16) (argsL := []) (rest := [(.ref b16)]) (lenOf own_pd4 rfl) rfl (by show 2 * 0 + _ ≤ _; exact Nat.le_of_eq rfl) (hb hby at_130) (fun _ _ => ⟨rfl, e16, (by decide : 2 + 1 ≤ _), (by decide : 8 + 16 ≤ _)⟩)
    dsimp only [Pt.U, Pt.locs, Pt.cells, Pt.slots] at X20 l20 y20 z20 st20 hQ20
    subst l20 y20 z20
    obtain ⟨ar_20, rfl, N20q, Kq20, sq20_ar_20, FP20_0, FP20_1, FP20_2, FP20_3⟩ := hQ20
    have N20 := Fr.app N15 N20q
    have K20 : Keep h0 T20.heap [] := K16.trans Kq20 (allS (Or.inr sz_b16) all0)
    have ne_b8_ar_20 : b8 ≠ ar_20 := Nat.ne_of_lt (Nat.lt_of_lt_of_le F17.lt sq20_ar_20)
    have ne_b16_ar_20 : b16 ≠ ar_20 := Nat.ne_of_lt (Nat.lt_of_lt_of_le A16.lt sq20_ar_20)
    have sz_ar_20 : h0.size ≤ ar_20 := Nat.le_trans K16.1 sq20_ar_20
    have G_ar_20 : n0 ≤ ar_20 := Nat.le_trans Z0 sz_ar_20
    have F21 : ownAI Z T20.heap b8 .int 6 (ownUpd (ownUpd (ownUpd (ownUpd (ownUpd (ownUpd (fun _ => (0 : Int32)) 0 f1) 1 l1) 2 f2) 3 l2) 4 f3) 5 l3) := F17.keep Kq20 (ninS ne_b8_b16 nin0)
    have F22 : Exa Z T20.heap b16 "com/example/shapewright/shapewright/regex/CodePointSet$Builder" := A16.keep Kq20
    refine ownRun (T' := T20) (f' := (mkF m 133 #[iv p0, iv p1, iv p2, iv p3, iv p4, iv p5, iv (1114112 : Int32), iv f1, iv l1, iv f2, iv l2, iv f3, iv l3, rv b8, .unset, .unset, .unset, .unset, .unset, .unset, .unset, .unset, .unset, .unset] [(.ref b16)])) st20 ?_
    refine ow_astore (q := 135) X20 hx (L' := #[iv p0, iv p1, iv p2, iv p3, iv p4, iv p5, iv (1114112 : Int32), iv f1, iv l1, iv f2, iv l2, iv f3, iv l3, rv b8, rv b16, .unset, .unset, .unset, .unset, .unset, .unset, .unset, .unset, .unset]) (hb hby at_133) rfl rfl rfl ?_
    refine ow_aload (q := 137) X20 hx (hb hby at_135) rfl rfl rfl ?_
    refine ow_iload (q := 139) X20 hx (hb hby at_137) rfl rfl ?_
    refine ow_iload (q := 141) X20 hx (hb hby at_139) rfl rfl ?_
    obtain ⟨cq23, kq23, q23a, q23b, q23c⟩ := isOf hZ rfl FP20_0
    obtain ⟨_, _, ⟨T23, L23, k23, n23⟩, -, X23, ⟨Lc23, hQ23, l23, y23, z23⟩, st23⟩ := X20.virtualBack hx (y := (⟨"com/example/shapewright/shapewright/regex/CodePointSet$Builder", "add", "(II)Lcom/example/shapewright/shapewright/regex/CodePointSet$Builder;"⟩ : MethodName)) (z := (⟨"com/example/shapewright/shapewright/regex/CodePointSet$Builder", "add", "(II)Lcom/example/shapewright/shapewright/regex/CodePointSet$Builder;"⟩ : MethodName)) hown (mvT hZ (ww 14 rfl)) (mvT hZ (ww 15 rfl)) (notFace_of_selects (args := #[]) (mvT hZ (ww 17 rfl))) (mvT hZ (ww 17 rfl)) (mvT hZ (ww 16 rfl)) (by decide) (backOf (W := 0) (rm_add_0_a l Z av0 hw [] b16 f1 l1 ar_20 (fun _ => (0 : Int32)) T20.heap n0 (Nat.le_trans Z0 K20.1) FP20_0 FP20_1 FP20_2 FP20_3 G_b16 G_ar_20 ne_b16_ar_20) hZ (ww 18 rfl) (ww 5 rfl) (by decide) (by decide)) q23a q23c (g := (mkF m 141 #[iv p0, iv p1, iv p2, iv p3, iv p4, iv p5, iv (1114112 : Int32), iv f1, iv l1, iv f2, iv l2, iv f3, iv l3, rv b8, rv b16, .unset, .unset, .unset, .unset, .unset, .unset, .unset, .unset, .unset] [(.int l1), (.int f1), (.ref b16)])) rfl (by rw [hml]; rfl) (Steps.refl _) (argsL := [(.int f1), (.int l1)]) (rest := []) (lenOf own_pd5 rfl) rfl (by show 2 * 0 + _ ≤ _; exact Nat.le_of_eq rfl) (hb hby at_141) (fun _ _ => ⟨rfl, rfl, (by decide : 3 + 0 ≤ _), (by decide : 24 + 0 ≤ _)⟩)
    dsimp only [Pt.U, Pt.locs, Pt.cells, Pt.slots] at X23 l23 y23 z23 st23 hQ23
    subst l23 y23 z23
    obtain ⟨rfl, N23q, Kq23, FP23_0, FP23_1, FP23_2, FP23_3⟩ := hQ23
    have N23 := Fr.app N20 N23q
    have K23 : Keep h0 T23.heap [] := K20.trans Kq23 (allS (Or.inr sz_b16) (allS (Or.inr sz_ar_20) all0))
    have F24 : ownAI Z T23.heap b8 .int 6 (ownUpd (ownUpd (ownUpd (ownUpd (ownUpd (ownUpd (fun _ => (0 : Int32)) 0 f1) 1 l1) 2 f2) 3 l2) 4 f3) 5 l3) := F21.keep Kq23 (ninS ne_b8_b16 (ninS ne_b8_ar_20 nin0))
    have F25 : Exa Z T23.heap b16 "com/example/shapewright/shapewright/regex/CodePointSet$Builder" := FP20_0.keep Kq23
    refine ownRun (T' := T23) (f' := (mkF m 144 #[iv p0, iv p1, iv p2, iv p3, iv p4, iv p5, iv (1114112 : Int32), iv f1, iv l1, iv f2, iv l2, iv f3, iv l3, rv b8, rv b16, .unset, .unset, .unset, .unset, .unset, .unset, .unset, .unset, .unset] [(.ref b16)])) st23 ?_
    refine ow_aload (q := 146) X23 hx (hb hby at_144) rfl rfl rfl ?_
    refine ownGo (T' := T23) (f' := (mkF m 149 #[iv p0, iv p1, iv p2, iv p3, iv p4, iv p5, iv (1114112 : Int32), iv f1, iv l1, iv f2, iv l2, iv f3, iv l3, rv b8, rv b16, .unset, .unset, .unset, .unset, .unset, .unset, .unset, .unset, .unset] [])) (fun _ k => Jvm.RoadKit.acmp (g := (mkF m 146 #[iv p0, iv p1, iv p2, iv p3, iv p4, iv p5, iv (1114112 : Int32), iv f1, iv l1, iv f2, iv l2, iv f3, iv l3, rv b8, rv b16, .unset, .unset, .unset, .unset, .unset, .unset, .unset, .unset, .unset] [(.ref b16), (.ref b16)])) X23 hx rfl rfl rfl (pc0 := 146) (pc' := 149) (same := true) rfl (hb hby at_146) rfl (decide_eq_true rfl) (by decide) (by decide) k) ?_
    refine ow_iconst (q := 150) X23 hx (1 : Int32) (hb hby at_149) rfl rfl ?_
    refine ow_goto (q := 154) X23 hx (hb hby at_150) (by decide) (by decide) ?_
    refine ow_istore (q := 156) X23 hx (L' := #[iv p0, iv p1, iv p2, iv p3, iv p4, iv p5, iv (1114112 : Int32), iv f1, iv l1, iv f2, iv l2, iv f3, iv l3, rv b8, rv b16, iv (1 : Int32), .unset, .unset, .unset, .unset, .unset, .unset, .unset, .unset]) (hb hby at_154) rfl rfl ?_
    refine ow_iload (q := 158) X23 hx (hb hby at_156) rfl rfl ?_
    refine ow_ifNo (q := 161) X23 hx (hb hby at_158) rfl (Jvm.Free.XT.i0_eq_f (by decide)) ?_
    by_cases hm2 : (l1 + (1 : Int32)) < f2
    · refine ow_aload (q := 163) X23 hx (hb hby at_161) rfl rfl rfl ?_
      refine ow_iload (q := 165) X23 hx (hb hby at_163) rfl rfl ?_
      refine ow_iload (q := 167) X23 hx (hb hby at_165) rfl rfl ?_
      obtain ⟨cq26, kq26, q26a, q26b, q26c⟩ := isOf hZ rfl FP23_0
      obtain ⟨_, _, ⟨T26, L26, k26, n26⟩, -, X26, ⟨Lc26, hQ26, l26, y26, z26⟩, st26⟩ := X23.virtualBack hx (y := (⟨"com/example/shapewright/shapewright/regex/CodePointSet$Builder", "add", "(II)Lcom/example/shapewright/shapewright/regex/CodePointSet$Builder;"⟩ : MethodName)) (z := (⟨"com/example/shapewright/shapewright/regex/CodePointSet$Builder", "add", "(II)Lcom/example/shapewright/shapewright/regex/CodePointSet$Builder;"⟩ : MethodName)) hown (mvT hZ (ww 14 rfl)) (mvT hZ (ww 15 rfl)) (notFace_of_selects (args := #[]) (mvT hZ (ww 17 rfl))) (mvT hZ (ww 17 rfl)) (mvT hZ (ww 16 rfl)) (by decide) (backOf (W := 0) (rm_add_2_a l Z av0 hw [] b16 f2 l2 ar_20 (ownUpd (ownUpd (fun _ => (0 : Int32)) 0 f1) 1 l1) T23.heap n0 (Nat.le_trans Z0 K23.1) FP23_0 FP23_1 FP23_2 FP23_3 G_b16 G_ar_20 ne_b16_ar_20 hm2) hZ (ww 18 rfl) (ww 5 rfl) (by decide) (by decide)) q26a q26c (g := (mkF m 167 #[iv p0, iv p1, iv p2, iv p3, iv p4, iv p5, iv (1114112 : Int32), iv f1, iv l1, iv f2, iv l2, iv f3, iv l3, rv b8, rv b16, iv (1 : Int32), .unset, .unset, .unset, .unset, .unset, .unset, .unset, .unset] [(.int l2), (.int f2), (.ref b16)])) rfl (by rw [hml]; rfl) (Steps.refl _) (argsL := [(.int f2), (.int l2)]) (rest := []) (lenOf own_pd5 rfl) rfl (by show 2 * 0 + _ ≤ _; exact Nat.le_of_eq rfl) (hb hby at_167) (fun _ _ => ⟨rfl, rfl, (by decide : 3 + 0 ≤ _), (by decide : 24 + 0 ≤ _)⟩)
      dsimp only [Pt.U, Pt.locs, Pt.cells, Pt.slots] at X26 l26 y26 z26 st26 hQ26
      subst l26 y26 z26
      obtain ⟨rfl, N26q, Kq26, FP26_0, FP26_1, FP26_2, FP26_3⟩ := hQ26
      have N26 := Fr.app N23 N26q
      have K26 : Keep h0 T26.heap [] := K23.trans Kq26 (allS (Or.inr sz_b16) (allS (Or.inr sz_ar_20) all0))
      have F27 : ownAI Z T26.heap b8 .int 6 (ownUpd (ownUpd (ownUpd (ownUpd (ownUpd (ownUpd (fun _ => (0 : Int32)) 0 f1) 1 l1) 2 f2) 3 l2) 4 f3) 5 l3) := F24.keep Kq26 (ninS ne_b8_b16 (ninS ne_b8_ar_20 nin0))
      have F28 : Exa Z T26.heap b16 "com/example/shapewright/shapewright/regex/CodePointSet$Builder" := FP23_0.keep Kq26
      refine ownRun (T' := T26) (f' := (mkF m 170 #[iv p0, iv p1, iv p2, iv p3, iv p4, iv p5, iv (1114112 : Int32), iv f1, iv l1, iv f2, iv l2, iv f3, iv l3, rv b8, rv b16, iv (1 : Int32), .unset, .unset, .unset, .unset, .unset, .unset, .unset, .unset] [(.ref b16)])) st26 ?_
      refine ow_aload (q := 172) X26 hx (hb hby at_170) rfl rfl rfl ?_
      refine ownGo (T' := T26) (f' := (mkF m 175 #[iv p0, iv p1, iv p2, iv p3, iv p4, iv p5, iv (1114112 : Int32), iv f1, iv l1, iv f2, iv l2, iv f3, iv l3, rv b8, rv b16, iv (1 : Int32), .unset, .unset, .unset, .unset, .unset, .unset, .unset, .unset] [])) (fun _ k => Jvm.RoadKit.acmp (g := (mkF m 172 #[iv p0, iv p1, iv p2, iv p3, iv p4, iv p5, iv (1114112 : Int32), iv f1, iv l1, iv f2, iv l2, iv f3, iv l3, rv b8, rv b16, iv (1 : Int32), .unset, .unset, .unset, .unset, .unset, .unset, .unset, .unset] [(.ref b16), (.ref b16)])) X26 hx rfl rfl rfl (pc0 := 172) (pc' := 175) (same := true) rfl (hb hby at_172) rfl (decide_eq_true rfl) (by decide) (by decide) k) ?_
      refine ow_iconst (q := 176) X26 hx (1 : Int32) (hb hby at_175) rfl rfl ?_
      refine ow_goto (q := 180) X26 hx (hb hby at_176) (by decide) (by decide) ?_
      refine ow_istore (q := 182) X26 hx (L' := #[iv p0, iv p1, iv p2, iv p3, iv p4, iv p5, iv (1114112 : Int32), iv f1, iv l1, iv f2, iv l2, iv f3, iv l3, rv b8, rv b16, iv (1 : Int32), .unset, .unset, .unset, .unset, .unset, .unset, .unset, .unset]) (hb hby at_180) rfl rfl ?_
      refine ow_iload (q := 184) X26 hx (hb hby at_182) rfl rfl ?_
      refine ow_ifNo (q := 187) X26 hx (hb hby at_184) rfl (Jvm.Free.XT.i0_eq_f (by decide)) ?_
      by_cases hm3 : (l2 + (1 : Int32)) < f3
      · refine ow_aload (q := 189) X26 hx (hb hby at_187) rfl rfl rfl ?_
        refine ow_iload (q := 191) X26 hx (hb hby at_189) rfl rfl ?_
        refine ow_iload (q := 193) X26 hx (hb hby at_191) rfl rfl ?_
        obtain ⟨cq29, kq29, q29a, q29b, q29c⟩ := isOf hZ rfl FP26_0
        obtain ⟨_, _, ⟨T29, L29, k29, n29⟩, -, X29, ⟨Lc29, hQ29, l29, y29, z29⟩, st29⟩ := X26.virtualBack hx (y := (⟨"com/example/shapewright/shapewright/regex/CodePointSet$Builder", "add", "(II)Lcom/example/shapewright/shapewright/regex/CodePointSet$Builder;"⟩ : MethodName)) (z := (⟨"com/example/shapewright/shapewright/regex/CodePointSet$Builder", "add", "(II)Lcom/example/shapewright/shapewright/regex/CodePointSet$Builder;"⟩ : MethodName)) hown (mvT hZ (ww 14 rfl)) (mvT hZ (ww 15 rfl)) (notFace_of_selects (args := #[]) (mvT hZ (ww 17 rfl))) (mvT hZ (ww 17 rfl)) (mvT hZ (ww 16 rfl)) (by decide) (backOf (W := 0) (rm_add_4_a l Z av0 hw [] b16 f3 l3 ar_20 (ownUpd (ownUpd (ownUpd (ownUpd (fun _ => (0 : Int32)) 0 f1) 1 l1) 2 f2) 3 l2) T26.heap n0 (Nat.le_trans Z0 K26.1) FP26_0 FP26_1 FP26_2 FP26_3 G_b16 G_ar_20 ne_b16_ar_20 hm3) hZ (ww 18 rfl) (ww 5 rfl) (by decide) (by decide)) q29a q29c (g := (mkF m 193 #[iv p0, iv p1, iv p2, iv p3, iv p4, iv p5, iv (1114112 : Int32), iv f1, iv l1, iv f2, iv l2, iv f3, iv l3, rv b8, rv b16, iv (1 : Int32), .unset, .unset, .unset, .unset, .unset, .unset, .unset, .unset] [(.int l3), (.int f3), (.ref b16)])) rfl (by rw [hml]; rfl) (Steps.refl _) (argsL := [(.int f3), (.int l3)]) (rest := []) (lenOf own_pd5 rfl) rfl (by show 2 * 0 + _ ≤ _; exact Nat.le_of_eq rfl) (hb hby at_193) (fun _ _ => ⟨rfl, rfl, (by decide : 3 + 0 ≤ _), (by decide : 24 + 0 ≤ _)⟩)
        dsimp only [Pt.U, Pt.locs, Pt.cells, Pt.slots] at X29 l29 y29 z29 st29 hQ29
        subst l29 y29 z29
        obtain ⟨rfl, N29q, Kq29, FP29_0, FP29_1, FP29_2, FP29_3⟩ := hQ29
        have N29 := Fr.app N26 N29q
        have K29 : Keep h0 T29.heap [] := K26.trans Kq29 (allS (Or.inr sz_b16) (allS (Or.inr sz_ar_20) all0))
        have F30 : ownAI Z T29.heap b8 .int 6 (ownUpd (ownUpd (ownUpd (ownUpd (ownUpd (ownUpd (fun _ => (0 : Int32)) 0 f1) 1 l1) 2 f2) 3 l2) 4 f3) 5 l3) := F27.keep Kq29 (ninS ne_b8_b16 (ninS ne_b8_ar_20 nin0))
        have F31 : Exa Z T29.heap b16 "com/example/shapewright/shapewright/regex/CodePointSet$Builder" := FP26_0.keep Kq29
        refine ownRun (T' := T29) (f' := (mkF m 196 #[iv p0, iv p1, iv p2, iv p3, iv p4, iv p5, iv (1114112 : Int32), iv f1, iv l1, iv f2, iv l2, iv f3, iv l3, rv b8, rv b16, iv (1 : Int32), .unset, .unset, .unset, .unset, .unset, .unset, .unset, .unset] [(.ref b16)])) st29 ?_
        refine ow_aload (q := 198) X29 hx (hb hby at_196) rfl rfl rfl ?_
        refine ownGo (T' := T29) (f' := (mkF m 201 #[iv p0, iv p1, iv p2, iv p3, iv p4, iv p5, iv (1114112 : Int32), iv f1, iv l1, iv f2, iv l2, iv f3, iv l3, rv b8, rv b16, iv (1 : Int32), .unset, .unset, .unset, .unset, .unset, .unset, .unset, .unset] [])) (fun _ k => Jvm.RoadKit.acmp (g := (mkF m 198 #[iv p0, iv p1, iv p2, iv p3, iv p4, iv p5, iv (1114112 : Int32), iv f1, iv l1, iv f2, iv l2, iv f3, iv l3, rv b8, rv b16, iv (1 : Int32), .unset, .unset, .unset, .unset, .unset, .unset, .unset, .unset] [(.ref b16), (.ref b16)])) X29 hx rfl rfl rfl (pc0 := 198) (pc' := 201) (same := true) rfl (hb hby at_198) rfl (decide_eq_true rfl) (by decide) (by decide) k) ?_
        refine ow_iconst (q := 202) X29 hx (1 : Int32) (hb hby at_201) rfl rfl ?_
        refine ow_goto (q := 206) X29 hx (hb hby at_202) (by decide) (by decide) ?_
        refine ow_istore (q := 208) X29 hx (L' := #[iv p0, iv p1, iv p2, iv p3, iv p4, iv p5, iv (1114112 : Int32), iv f1, iv l1, iv f2, iv l2, iv f3, iv l3, rv b8, rv b16, iv (1 : Int32), .unset, .unset, .unset, .unset, .unset, .unset, .unset, .unset]) (hb hby at_206) rfl rfl ?_
        by_cases hmx : l3 < (1114111 : Int32)
        · refine ow_aload (q := 210) X29 hx (hb hby at_208) rfl rfl rfl ?_
          obtain ⟨cq32, kq32, q32a, q32b, q32c⟩ := isOf hZ rfl FP29_0
          obtain ⟨_, _, ⟨T32, L32, k32, n32⟩, -, X32, ⟨Lc32, hQ32, l32, y32, z32⟩, st32⟩ := X29.virtualBack hx (y := (⟨"com/example/shapewright/shapewright/regex/CodePointSet$Builder", "build", "()Lcom/example/shapewright/shapewright/regex/CodePointSet;"⟩ : MethodName)) (z := (⟨"com/example/shapewright/shapewright/regex/CodePointSet$Builder", "build", "()Lcom/example/shapewright/shapewright/regex/CodePointSet;"⟩ : MethodName)) hown (mvT hZ (ww 25 rfl)) (mvT hZ (ww 26 rfl)) (notFace_of_selects (args := #[]) (mvT hZ (ww 28 rfl))) (mvT hZ (ww 28 rfl)) (mvT hZ (ww 27 rfl)) (by decide) (backOf (W := 0) (rm_build_6 l Z av0 hw [] b16 ar_20 (ownUpd (ownUpd (ownUpd (ownUpd (ownUpd (ownUpd (fun _ => (0 : Int32)) 0 f1) 1 l1) 2 f2) 3 l2) 4 f3) 5 l3) T29.heap n0 (Nat.le_trans Z0 K29.1) FP29_1 FP29_2 FP29_3) hZ (ww 29 rfl) (ww 5 rfl) (by decide) (by decide)) q32a q32c (g := (mkF m 210 #[iv p0, iv p1, iv p2, iv p3, iv p4, iv p5, iv (1114112 : Int32), iv f1, iv l1, iv f2, iv l2, iv f3, iv l3, rv b8, rv b16, iv (1 : Int32), .unset, .unset, .unset, .unset, .unset, .unset, .unset, .unset] [(.ref b16)])) rfl (by rw [hml]; rfl) (Steps.refl _) (argsL := []) (rest := []) (lenOf own_pd6 rfl) rfl (by show 2 * 0 + _ ≤ _; exact Nat.le_of_eq rfl) (hb hby at_210) (fun _ _ => ⟨rfl, rfl, (by decide : 3 + 2 ≤ _), (by decide : 24 + 7 ≤ _)⟩)
          dsimp only [Pt.U, Pt.locs, Pt.cells, Pt.slots] at X32 l32 y32 z32 st32 hQ32
          subst l32 y32 z32
          obtain ⟨b32, ar2_32, rfl, N32q, Kq32, sq32_b32, sq32_ar2_32, FP32_0, FP32_1, FP32_2, hp32⟩ := hQ32
          have N32 := Fr.app N29 N32q
          have K32 : Keep h0 T32.heap [] := K29.trans Kq32 all0
          have ne_b8_b32 : b8 ≠ b32 := Nat.ne_of_lt (Nat.lt_of_lt_of_le F30.lt sq32_b32)
          have ne_b16_b32 : b16 ≠ b32 := Nat.ne_of_lt (Nat.lt_of_lt_of_le FP29_0.lt sq32_b32)
          have ne_ar_20_b32 : ar_20 ≠ b32 := Nat.ne_of_lt (Nat.lt_of_lt_of_le FP29_3.lt sq32_b32)
          have sz_b32 : h0.size ≤ b32 := Nat.le_trans K29.1 sq32_b32
          have G_b32 : n0 ≤ b32 := Nat.le_trans Z0 sz_b32
          have ne_b8_ar2_32 : b8 ≠ ar2_32 := Nat.ne_of_lt (Nat.lt_of_lt_of_le F30.lt sq32_ar2_32)
          have ne_b16_ar2_32 : b16 ≠ ar2_32 := Nat.ne_of_lt (Nat.lt_of_lt_of_le FP29_0.lt sq32_ar2_32)
          have ne_ar_20_ar2_32 : ar_20 ≠ ar2_32 := Nat.ne_of_lt (Nat.lt_of_lt_of_le FP29_3.lt sq32_ar2_32)
          have sz_ar2_32 : h0.size ≤ ar2_32 := Nat.le_trans K29.1 sq32_ar2_32
          have G_ar2_32 : n0 ≤ ar2_32 := Nat.le_trans Z0 sz_ar2_32
          have F33 : ownAI Z T32.heap b8 .int 6 (ownUpd (ownUpd (ownUpd (ownUpd (ownUpd (ownUpd (fun _ => (0 : Int32)) 0 f1) 1 l1) 2 f2) 3 l2) 4 f3) 5 l3) := F30.keep Kq32 nin0
          have F34 : Exa Z T32.heap b16 "com/example/shapewright/shapewright/regex/CodePointSet$Builder" := FP29_0.keep Kq32
          have F35 : Fld Z T32.heap b16 "com/example/shapewright/shapewright/regex/CodePointSet$Builder" "ranges" "[I" (.ref ar_20) := FP29_1.keep Kq32 nin0
          have F36 : Fld Z T32.heap b16 "com/example/shapewright/shapewright/regex/CodePointSet$Builder" "length" "I" (.int (6 : Int32)) := FP29_2.keep Kq32 nin0
          have F37 : ownAI Z T32.heap ar_20 .int 16 (ownUpd (ownUpd (ownUpd (ownUpd (ownUpd (ownUpd (fun _ => (0 : Int32)) 0 f1) 1 l1) 2 f2) 3 l2) 4 f3) 5 l3) := FP29_3.keep Kq32 nin0
          refine ownRun (T' := T32) (f' := (mkF m 213 #[iv p0, iv p1, iv p2, iv p3, iv p4, iv p5, iv (1114112 : Int32), iv f1, iv l1, iv f2, iv l2, iv f3, iv l3, rv b8, rv b16, iv (1 : Int32), .unset, .unset, .unset, .unset, .unset, .unset, .unset, .unset] [(.ref b32)])) st32 ?_
          obtain ⟨cq38, kq38, q38a, q38b, q38c⟩ := isOf hZ rfl FP32_0
          obtain ⟨_, _, ⟨T38, L38, k38, n38⟩, -, X38, ⟨Lc38, hQ38, l38, y38, z38⟩, st38⟩ := X32.virtualBack hx (y := (⟨"com/example/shapewright/shapewright/regex/CodePointSet", "edges", "()[I"⟩ : MethodName)) (z := (⟨"com/example/shapewright/shapewright/regex/CodePointSet", "edges", "()[I"⟩ : MethodName)) hown (mvT hZ (ww 50 rfl)) (mvT hZ (ww 51 rfl)) (notFace_of_selects (args := #[]) (mvT hZ (ww 53 rfl))) (mvT hZ (ww 53 rfl)) (mvT hZ (ww 52 rfl)) (by decide) (backOf (W := 0) (rm_edges_6_l l Z av0 hw [] b32 ar2_32 (ownUpd (ownUpd (ownUpd (ownUpd (ownUpd (ownUpd (fun _ => (0 : Int32)) 0 f1) 1 l1) 2 f2) 3 l2) 4 f3) 5 l3) T32.heap n0 (Nat.le_trans Z0 K32.1) FP32_1 FP32_2 (own_lt_aa_0 hr hm2 hm3) (own_lt_aa_1 hr hm2 hm3) hmx) hZ (ww 54 rfl) (ww 32 rfl) (by decide) (by decide)) q38a q38c (g := (mkF m 213 #[iv p0, iv p1, iv p2, iv p3, iv p4, iv p5, iv (1114112 : Int32), iv f1, iv l1, iv f2, iv l2, iv f3, iv l3, rv b8, rv b16, iv (1 : Int32), .unset, .unset, .unset, .unset, .unset, .unset, .unset, .unset] [(.ref b32)])) rfl (by rw [hml]; rfl) (Steps.refl _) (argsL := []) (rest := []) (lenOf own_pd7 rfl) rfl (by show 2 * 0 + _ ≤ _; exact Nat.le_of_eq rfl) (hb hby at_213) (fun _ _ => ⟨rfl, rfl, (by decide : 5 + 2 ≤ _), (by decide : 31 + 12 ≤ _)⟩)
          dsimp only [Pt.U, Pt.locs, Pt.cells, Pt.slots] at X38 l38 y38 z38 st38 hQ38
          subst l38 y38 z38
          obtain ⟨b38, rfl, N38q, Kq38, sq38_b38, FP38_0⟩ := hQ38
          have N38 := Fr.app N32 N38q
          have K38 : Keep h0 T38.heap [] := K32.trans Kq38 all0
          have ne_b8_b38 : b8 ≠ b38 := Nat.ne_of_lt (Nat.lt_of_lt_of_le F33.lt sq38_b38)
          have ne_b16_b38 : b16 ≠ b38 := Nat.ne_of_lt (Nat.lt_of_lt_of_le F34.lt sq38_b38)
          have ne_ar_20_b38 : ar_20 ≠ b38 := Nat.ne_of_lt (Nat.lt_of_lt_of_le F37.lt sq38_b38)
          have ne_b32_b38 : b32 ≠ b38 := Nat.ne_of_lt (Nat.lt_of_lt_of_le FP32_0.lt sq38_b38)
          have ne_ar2_32_b38 : ar2_32 ≠ b38 := Nat.ne_of_lt (Nat.lt_of_lt_of_le FP32_2.lt sq38_b38)
          have sz_b38 : h0.size ≤ b38 := Nat.le_trans K32.1 sq38_b38
          have G_b38 : n0 ≤ b38 := Nat.le_trans Z0 sz_b38
          have F39 : ownAI Z T38.heap b8 .int 6 (ownUpd (ownUpd (ownUpd (ownUpd (ownUpd (ownUpd (fun _ => (0 : Int32)) 0 f1) 1 l1) 2 f2) 3 l2) 4 f3) 5 l3) := F33.keep Kq38 nin0
          have F40 : Exa Z T38.heap b16 "com/example/shapewright/shapewright/regex/CodePointSet$Builder" := F34.keep Kq38
          have F41 : Fld Z T38.heap b16 "com/example/shapewright/shapewright/regex/CodePointSet$Builder" "ranges" "[I" (.ref ar_20) := F35.keep Kq38 nin0
          have F42 : Fld Z T38.heap b16 "com/example/shapewright/shapewright/regex/CodePointSet$Builder" "length" "I" (.int (6 : Int32)) := F36.keep Kq38 nin0
          have F43 : ownAI Z T38.heap ar_20 .int 16 (ownUpd (ownUpd (ownUpd (ownUpd (ownUpd (ownUpd (fun _ => (0 : Int32)) 0 f1) 1 l1) 2 f2) 3 l2) 4 f3) 5 l3) := F37.keep Kq38 nin0
          have F44 : Exa Z T38.heap b32 "com/example/shapewright/shapewright/regex/CodePointSet" := FP32_0.keep Kq38
          have F45 : Fld Z T38.heap b32 "com/example/shapewright/shapewright/regex/CodePointSet" "ranges" "[I" (.ref ar2_32) := FP32_1.keep Kq38 nin0
          have F46 : ownAI Z T38.heap ar2_32 .int 6 (ownUpd (ownUpd (ownUpd (ownUpd (ownUpd (ownUpd (fun _ => (0 : Int32)) 0 f1) 1 l1) 2 f2) 3 l2) 4 f3) 5 l3) := FP32_2.keep Kq38 nin0
          refine ownRun (T' := T38) (f' := (mkF m 216 #[iv p0, iv p1, iv p2, iv p3, iv p4, iv p5, iv (1114112 : Int32), iv f1, iv l1, iv f2, iv l2, iv f3, iv l3, rv b8, rv b16, iv (1 : Int32), .unset, .unset, .unset, .unset, .unset, .unset, .unset, .unset] [(.ref b38)])) st38 ?_
          refine ow_astore (q := 218) X38 hx (L' := #[iv p0, iv p1, iv p2, iv p3, iv p4, iv p5, iv (1114112 : Int32), iv f1, iv l1, iv f2, iv l2, iv f3, iv l3, rv b8, rv b16, iv (1 : Int32), rv b38, .unset, .unset, .unset, .unset, .unset, .unset, .unset]) (hb hby at_216) rfl rfl rfl ?_
          refine ow_iload (q := 220) X38 hx (hb hby at_218) rfl rfl ?_
          refine ow_istore (q := 222) X38 hx (L' := #[iv p0, iv p1, iv p2, iv p3, iv p4, iv p5, iv (1114112 : Int32), iv f1, iv l1, iv f2, iv l2, iv f3, iv l3, rv b8, rv b16, iv (1 : Int32), rv b38, iv f1, .unset, .unset, .unset, .unset, .unset, .unset]) (hb hby at_220) rfl rfl ?_
          refine ow_iload (q := 224) X38 hx (hb hby at_222) rfl rfl ?_
          refine ow_iconst (q := 225) X38 hx (1 : Int32) (hb hby at_224) rfl rfl ?_
          refine ow_iadd (q := 226) X38 hx _ (hb hby at_225) rfl rfl ?_
          generalize hv_v47 : (l1 + (1 : Int32)) = v47
          refine ow_istore (q := 228) X38 hx (L' := #[iv p0, iv p1, iv p2, iv p3, iv p4, iv p5, iv (1114112 : Int32), iv f1, iv l1, iv f2, iv l2, iv f3, iv l3, rv b8, rv b16, iv (1 : Int32), rv b38, iv f1, iv v47, .unset, .unset, .unset, .unset, .unset]) (hb hby at_226) rfl rfl ?_
          refine ow_iload (q := 230) X38 hx (hb hby at_228) rfl rfl ?_
          refine ow_istore (q := 232) X38 hx (L' := #[iv p0, iv p1, iv p2, iv p3, iv p4, iv p5, iv (1114112 : Int32), iv f1, iv l1, iv f2, iv l2, iv f3, iv l3, rv b8, rv b16, iv (1 : Int32), rv b38, iv f1, iv v47, iv f2, .unset, .unset, .unset, .unset]) (hb hby at_230) rfl rfl ?_
          refine ow_iload (q := 234) X38 hx (hb hby at_232) rfl rfl ?_
          refine ow_iconst (q := 235) X38 hx (1 : Int32) (hb hby at_234) rfl rfl ?_
          refine ow_iadd (q := 236) X38 hx _ (hb hby at_235) rfl rfl ?_
          generalize hv_v48 : (l2 + (1 : Int32)) = v48
          refine ow_istore (q := 238) X38 hx (L' := #[iv p0, iv p1, iv p2, iv p3, iv p4, iv p5, iv (1114112 : Int32), iv f1, iv l1, iv f2, iv l2, iv f3, iv l3, rv b8, rv b16, iv (1 : Int32), rv b38, iv f1, iv v47, iv f2, iv v48, .unset, .unset, .unset]) (hb hby at_236) rfl rfl ?_
          refine ow_iload (q := 240) X38 hx (hb hby at_238) rfl rfl ?_
          refine ow_istore (q := 242) X38 hx (L' := #[iv p0, iv p1, iv p2, iv p3, iv p4, iv p5, iv (1114112 : Int32), iv f1, iv l1, iv f2, iv l2, iv f3, iv l3, rv b8, rv b16, iv (1 : Int32), rv b38, iv f1, iv v47, iv f2, iv v48, iv f3, .unset, .unset]) (hb hby at_240) rfl rfl ?_
          refine ow_iload (q := 244) X38 hx (hb hby at_242) rfl rfl ?_
          refine ow_iconst (q := 245) X38 hx (1 : Int32) (hb hby at_244) rfl rfl ?_
          refine ow_iadd (q := 246) X38 hx _ (hb hby at_245) rfl rfl ?_
          generalize hv_v49 : (l3 + (1 : Int32)) = v49
          refine ow_istore (q := 248) X38 hx (L' := #[iv p0, iv p1, iv p2, iv p3, iv p4, iv p5, iv (1114112 : Int32), iv f1, iv l1, iv f2, iv l2, iv f3, iv l3, rv b8, rv b16, iv (1 : Int32), rv b38, iv f1, iv v47, iv f2, iv v48, iv f3, iv v49, .unset]) (hb hby at_246) rfl rfl ?_
          refine ow_iconst (q := 249) X38 hx (0 : Int32) (hb hby at_248) rfl rfl ?_
          refine ow_istore (q := 251) X38 hx (L' := #[iv p0, iv p1, iv p2, iv p3, iv p4, iv p5, iv (1114112 : Int32), iv f1, iv l1, iv f2, iv l2, iv f3, iv l3, rv b8, rv b16, iv (1 : Int32), rv b38, iv f1, iv v47, iv f2, iv v48, iv f3, iv v49, iv (0 : Int32)]) (hb hby at_249) rfl rfl ?_
          have cut434_50 : ∀ (nk6 : Int32) (Tc50 : State) (lc50 : List Loc), Stand p l e room_1 s m #[(.int p0), (.int p1), (.int p2), (.int p3), (.int p4), (.int p5)] below meth c Tc50 lc50 7 43 → Tc50.heap = T38.heap → Fr n0 lc50 → (nk6.toInt = (own_s6 f1 l1 f2 l2 f3 l3 f1 v47 f2 v48 f3 v49) ∧ 0 ≤ nk6.toInt ∧ nk6.toInt ≤ ((6 : Nat) : Int)) → ownEnds p e below s (Q_law Z p0 p1 p2 p3 p4 p5 h0 n0) 24 192 Tc50 (mkF m 434 #[iv p0, iv p1, iv p2, iv p3, iv p4, iv p5, iv (1114112 : Int32), iv f1, iv l1, iv f2, iv l2, iv f3, iv l3, rv b8, rv b16, iv (1 : Int32), rv b38, iv f1, iv v47, iv f2, iv v48, iv f3, iv v49, iv nk6] []) := by
            intro nk6 Tc50 lc50 Xc50 ec50 Nc50 hn6
            refine ow_iload (q := 436) Xc50 hx (hb hby at_434) rfl rfl ?_
            refine ow_ifNo (q := 439) Xc50 hx (hb hby at_436) rfl (Jvm.Free.XT.i0_eq_f (by decide)) ?_
            refine ow_aload (q := 441) Xc50 hx (hb hby at_439) rfl rfl rfl ?_
            refine ownGo (T' := Tc50) (f' := (mkF m 442 #[iv p0, iv p1, iv p2, iv p3, iv p4, iv p5, iv (1114112 : Int32), iv f1, iv l1, iv f2, iv l2, iv f3, iv l3, rv b8, rv b16, iv (1 : Int32), rv b38, iv f1, iv v47, iv f2, iv v48, iv f3, iv v49, iv nk6] [(.int (6 : Int32))])) (ownLenI FP38_0 Xc50 hx hZ ec50 (z := (6 : Int32)) (by decide) (g := (mkF m 441 #[iv p0, iv p1, iv p2, iv p3, iv p4, iv p5, iv (1114112 : Int32), iv f1, iv l1, iv f2, iv l2, iv f3, iv l3, rv b8, rv b16, iv (1 : Int32), rv b38, iv f1, iv v47, iv f2, iv v48, iv f3, iv v49, iv nk6] [(.ref b38)])) rfl rfl (hb hby at_441)) ?_
            refine ow_iload (q := 444) Xc50 hx (hb hby at_442) rfl rfl ?_
            refine ow_icmpNo (q := 447) Xc50 hx (hb hby at_444) rfl (Jvm.Free.XT.ii_ne_f (own_len hn6 (own_total_aal hr hm2 hm3 hmx hv_v47 hv_v48 hv_v49))) ?_
            refine ow_aload (q := 449) Xc50 hx (hb hby at_447) rfl rfl rfl ?_
            refine ow_iconst (q := 450) Xc50 hx (0 : Int32) (hb hby at_449) rfl rfl ?_
            refine ow_aload (q := 452) Xc50 hx (hb hby at_450) rfl rfl rfl ?_
            obtain ⟨_, _, ⟨T51, L51, k51, n51⟩, -, X51, ⟨Lc51, hQ51, l51, y51, z51⟩, st51⟩ := Jvm.LawKit.callS Xc50 hx (y := (⟨"com/example/shapewright/shapewright/regex/BuilderAddPinLaw", "okAt", "([II[I)Z"⟩ : MethodName)) hown (mvT hZ (ww 74 rfl)) (mvT hZ (ww 75 rfl)) (mvT hZ (ww 68 rfl)) (mvT hZ (ww 76 rfl)) (by decide) (backOf (W := 0) (rm_okC l Z av0 hw [] b38 (0 : Int32) b8 6 (6 : Int32) (ownUpd (ownUpd (ownUpd (ownUpd (ownUpd (ownUpd (fun _ => (0 : Int32)) 0 f1) 1 (l1 + (1 : Int32))) 2 f2) 3 (l2 + (1 : Int32))) 4 f3) 5 (l3 + (1 : Int32))) (ownUpd (ownUpd (ownUpd (ownUpd (ownUpd (ownUpd (fun _ => (0 : Int32)) 0 f1) 1 l1) 2 f2) 3 l2) 4 f3) 5 l3) T38.heap n0 (Nat.le_trans Z0 K38.1) FP38_0 F39 (by decide) (by decide) (by unfold ownIn; decide) (by decide) (by unfold ownIn; decide)) hZ (ww 76 rfl) (ww 68 rfl) (by decide) (by decide)) (g := (mkF m 452 #[iv p0, iv p1, iv p2, iv p3, iv p4, iv p5, iv (1114112 : Int32), iv f1, iv l1, iv f2, iv l2, iv f3, iv l3, rv b8, rv b16, iv (1 : Int32), rv b38, iv f1, iv v47, iv f2, iv v48, iv f3, iv v49, iv nk6] [(.ref b8), (.int (0 : Int32)), (.ref b38)])) rfl (by rw [hml]; rfl) (argsL := [(.ref b38), (.int (0 : Int32)), (.ref b8)]) (rest := []) (lenOf own_pd8 rfl) rfl (by show 2 * 0 + _ ≤ _; exact Nat.le_of_eq rfl) (hb hby at_452) (fun _ _ => ⟨rfl, ec50, (by decide : 7 + 0 ≤ _), (by decide : 43 + 0 ≤ _)⟩)
            dsimp only [Pt.U, Pt.locs, Pt.cells, Pt.slots] at X51 l51 y51 z51 st51 hQ51
            subst l51 y51 z51
            obtain ⟨rfl, N51q, e51⟩ := hQ51
            have N51 := Fr.app Nc50 N51q
            refine ownGo (T' := T51) (f' := (mkF m 455 #[iv p0, iv p1, iv p2, iv p3, iv p4, iv p5, iv (1114112 : Int32), iv f1, iv l1, iv f2, iv l2, iv f3, iv l3, rv b8, rv b16, iv (1 : Int32), rv b38, iv f1, iv v47, iv f2, iv v48, iv f3, iv v49, iv nk6] [(.int (if (own_ch f1 l1 f2 l2 f3 l3 f1) = (0 : Int32) then (0 : Int32) else if f1 < (l1 + (1 : Int32)) then (1 : Int32) else (0 : Int32)))])) (st51) ?_
            refine ow_ifNo (q := 458) X51 hx (hb hby at_455) rfl (Jvm.Free.XT.i0_eq_f (own_ok_aal_0 hr hm2 hm3 hmx)) ?_
            refine ow_aload (q := 460) X51 hx (hb hby at_458) rfl rfl rfl ?_
            refine ow_iconst (q := 461) X51 hx (1 : Int32) (hb hby at_460) rfl rfl ?_
            refine ow_aload (q := 463) X51 hx (hb hby at_461) rfl rfl rfl ?_
            obtain ⟨_, _, ⟨T52, L52, k52, n52⟩, -, X52, ⟨Lc52, hQ52, l52, y52, z52⟩, st52⟩ := Jvm.LawKit.callS X51 hx (y := (⟨"com/example/shapewright/shapewright/regex/BuilderAddPinLaw", "okAt", "([II[I)Z"⟩ : MethodName)) hown (mvT hZ (ww 74 rfl)) (mvT hZ (ww 75 rfl)) (mvT hZ (ww 68 rfl)) (mvT hZ (ww 76 rfl)) (by decide) (backOf (W := 0) (rm_okC l Z av0 hw [] b38 (1 : Int32) b8 6 (6 : Int32) (ownUpd (ownUpd (ownUpd (ownUpd (ownUpd (ownUpd (fun _ => (0 : Int32)) 0 f1) 1 (l1 + (1 : Int32))) 2 f2) 3 (l2 + (1 : Int32))) 4 f3) 5 (l3 + (1 : Int32))) (ownUpd (ownUpd (ownUpd (ownUpd (ownUpd (ownUpd (fun _ => (0 : Int32)) 0 f1) 1 l1) 2 f2) 3 l2) 4 f3) 5 l3) T38.heap n0 (Nat.le_trans Z0 K38.1) FP38_0 F39 (by decide) (by decide) (by unfold ownIn; decide) (by decide) (by unfold ownIn; decide)) hZ (ww 76 rfl) (ww 68 rfl) (by decide) (by decide)) (g := (mkF m 463 #[iv p0, iv p1, iv p2, iv p3, iv p4, iv p5, iv (1114112 : Int32), iv f1, iv l1, iv f2, iv l2, iv f3, iv l3, rv b8, rv b16, iv (1 : Int32), rv b38, iv f1, iv v47, iv f2, iv v48, iv f3, iv v49, iv nk6] [(.ref b8), (.int (1 : Int32)), (.ref b38)])) rfl (by rw [hml]; rfl) (argsL := [(.ref b38), (.int (1 : Int32)), (.ref b8)]) (rest := []) (lenOf own_pd8 rfl) rfl (by show 2 * 0 + _ ≤ _; exact Nat.le_of_eq rfl) (hb hby at_463) (fun _ _ => ⟨rfl, e51, (by decide : 7 + 0 ≤ _), (by decide : 43 + 0 ≤ _)⟩)
            dsimp only [Pt.U, Pt.locs, Pt.cells, Pt.slots] at X52 l52 y52 z52 st52 hQ52
            subst l52 y52 z52
            obtain ⟨rfl, N52q, e52⟩ := hQ52
            have N52 := Fr.app N51 N52q
            refine ownGo (T' := T52) (f' := (mkF m 466 #[iv p0, iv p1, iv p2, iv p3, iv p4, iv p5, iv (1114112 : Int32), iv f1, iv l1, iv f2, iv l2, iv f3, iv l3, rv b8, rv b16, iv (1 : Int32), rv b38, iv f1, iv v47, iv f2, iv v48, iv f3, iv v49, iv nk6] [(.int (if (own_ch f1 l1 f2 l2 f3 l3 (l1 + (1 : Int32))) = (0 : Int32) then (0 : Int32) else if (l1 + (1 : Int32)) < f2 then (1 : Int32) else (0 : Int32)))])) (st52) ?_
            refine ow_ifNo (q := 469) X52 hx (hb hby at_466) rfl (Jvm.Free.XT.i0_eq_f (own_ok_aal_1 hr hm2 hm3 hmx)) ?_
            refine ow_aload (q := 471) X52 hx (hb hby at_469) rfl rfl rfl ?_
            refine ow_iconst (q := 472) X52 hx (2 : Int32) (hb hby at_471) rfl rfl ?_
            refine ow_aload (q := 474) X52 hx (hb hby at_472) rfl rfl rfl ?_
            obtain ⟨_, _, ⟨T53, L53, k53, n53⟩, -, X53, ⟨Lc53, hQ53, l53, y53, z53⟩, st53⟩ := Jvm.LawKit.callS X52 hx (y := (⟨"com/example/shapewright/shapewright/regex/BuilderAddPinLaw", "okAt", "([II[I)Z"⟩ : MethodName)) hown (mvT hZ (ww 74 rfl)) (mvT hZ (ww 75 rfl)) (mvT hZ (ww 68 rfl)) (mvT hZ (ww 76 rfl)) (by decide) (backOf (W := 0) (rm_okC l Z av0 hw [] b38 (2 : Int32) b8 6 (6 : Int32) (ownUpd (ownUpd (ownUpd (ownUpd (ownUpd (ownUpd (fun _ => (0 : Int32)) 0 f1) 1 (l1 + (1 : Int32))) 2 f2) 3 (l2 + (1 : Int32))) 4 f3) 5 (l3 + (1 : Int32))) (ownUpd (ownUpd (ownUpd (ownUpd (ownUpd (ownUpd (fun _ => (0 : Int32)) 0 f1) 1 l1) 2 f2) 3 l2) 4 f3) 5 l3) T38.heap n0 (Nat.le_trans Z0 K38.1) FP38_0 F39 (by decide) (by decide) (by unfold ownIn; decide) (by decide) (by unfold ownIn; decide)) hZ (ww 76 rfl) (ww 68 rfl) (by decide) (by decide)) (g := (mkF m 474 #[iv p0, iv p1, iv p2, iv p3, iv p4, iv p5, iv (1114112 : Int32), iv f1, iv l1, iv f2, iv l2, iv f3, iv l3, rv b8, rv b16, iv (1 : Int32), rv b38, iv f1, iv v47, iv f2, iv v48, iv f3, iv v49, iv nk6] [(.ref b8), (.int (2 : Int32)), (.ref b38)])) rfl (by rw [hml]; rfl) (argsL := [(.ref b38), (.int (2 : Int32)), (.ref b8)]) (rest := []) (lenOf own_pd8 rfl) rfl (by show 2 * 0 + _ ≤ _; exact Nat.le_of_eq rfl) (hb hby at_474) (fun _ _ => ⟨rfl, e52, (by decide : 7 + 0 ≤ _), (by decide : 43 + 0 ≤ _)⟩)
            dsimp only [Pt.U, Pt.locs, Pt.cells, Pt.slots] at X53 l53 y53 z53 st53 hQ53
            subst l53 y53 z53
            obtain ⟨rfl, N53q, e53⟩ := hQ53
            have N53 := Fr.app N52 N53q
            refine ownGo (T' := T53) (f' := (mkF m 477 #[iv p0, iv p1, iv p2, iv p3, iv p4, iv p5, iv (1114112 : Int32), iv f1, iv l1, iv f2, iv l2, iv f3, iv l3, rv b8, rv b16, iv (1 : Int32), rv b38, iv f1, iv v47, iv f2, iv v48, iv f3, iv v49, iv nk6] [(.int (if (own_ch f1 l1 f2 l2 f3 l3 f2) = (0 : Int32) then (0 : Int32) else if f2 < (l2 + (1 : Int32)) then (1 : Int32) else (0 : Int32)))])) (st53) ?_
            refine ow_ifNo (q := 480) X53 hx (hb hby at_477) rfl (Jvm.Free.XT.i0_eq_f (own_ok_aal_2 hr hm2 hm3 hmx)) ?_
            refine ow_aload (q := 482) X53 hx (hb hby at_480) rfl rfl rfl ?_
            refine ow_iconst (q := 483) X53 hx (3 : Int32) (hb hby at_482) rfl rfl ?_
            refine ow_aload (q := 485) X53 hx (hb hby at_483) rfl rfl rfl ?_
            obtain ⟨_, _, ⟨T54, L54, k54, n54⟩, -, X54, ⟨Lc54, hQ54, l54, y54, z54⟩, st54⟩ := Jvm.LawKit.callS X53 hx (y := (⟨"com/example/shapewright/shapewright/regex/BuilderAddPinLaw", "okAt", "([II[I)Z"⟩ : MethodName)) hown (mvT hZ (ww 74 rfl)) (mvT hZ (ww 75 rfl)) (mvT hZ (ww 68 rfl)) (mvT hZ (ww 76 rfl)) (by decide) (backOf (W := 0) (rm_okC l Z av0 hw [] b38 (3 : Int32) b8 6 (6 : Int32) (ownUpd (ownUpd (ownUpd (ownUpd (ownUpd (ownUpd (fun _ => (0 : Int32)) 0 f1) 1 (l1 + (1 : Int32))) 2 f2) 3 (l2 + (1 : Int32))) 4 f3) 5 (l3 + (1 : Int32))) (ownUpd (ownUpd (ownUpd (ownUpd (ownUpd (ownUpd (fun _ => (0 : Int32)) 0 f1) 1 l1) 2 f2) 3 l2) 4 f3) 5 l3) T38.heap n0 (Nat.le_trans Z0 K38.1) FP38_0 F39 (by decide) (by decide) (by unfold ownIn; decide) (by decide) (by unfold ownIn; decide)) hZ (ww 76 rfl) (ww 68 rfl) (by decide) (by decide)) (g := (mkF m 485 #[iv p0, iv p1, iv p2, iv p3, iv p4, iv p5, iv (1114112 : Int32), iv f1, iv l1, iv f2, iv l2, iv f3, iv l3, rv b8, rv b16, iv (1 : Int32), rv b38, iv f1, iv v47, iv f2, iv v48, iv f3, iv v49, iv nk6] [(.ref b8), (.int (3 : Int32)), (.ref b38)])) rfl (by rw [hml]; rfl) (argsL := [(.ref b38), (.int (3 : Int32)), (.ref b8)]) (rest := []) (lenOf own_pd8 rfl) rfl (by show 2 * 0 + _ ≤ _; exact Nat.le_of_eq rfl) (hb hby at_485) (fun _ _ => ⟨rfl, e53, (by decide : 7 + 0 ≤ _), (by decide : 43 + 0 ≤ _)⟩)
            dsimp only [Pt.U, Pt.locs, Pt.cells, Pt.slots] at X54 l54 y54 z54 st54 hQ54
            subst l54 y54 z54
            obtain ⟨rfl, N54q, e54⟩ := hQ54
            have N54 := Fr.app N53 N54q
            refine ownGo (T' := T54) (f' := (mkF m 488 #[iv p0, iv p1, iv p2, iv p3, iv p4, iv p5, iv (1114112 : Int32), iv f1, iv l1, iv f2, iv l2, iv f3, iv l3, rv b8, rv b16, iv (1 : Int32), rv b38, iv f1, iv v47, iv f2, iv v48, iv f3, iv v49, iv nk6] [(.int (if (own_ch f1 l1 f2 l2 f3 l3 (l2 + (1 : Int32))) = (0 : Int32) then (0 : Int32) else if (l2 + (1 : Int32)) < f3 then (1 : Int32) else (0 : Int32)))])) (st54) ?_
            refine ow_ifNo (q := 491) X54 hx (hb hby at_488) rfl (Jvm.Free.XT.i0_eq_f (own_ok_aal_3 hr hm2 hm3 hmx)) ?_
            refine ow_aload (q := 493) X54 hx (hb hby at_491) rfl rfl rfl ?_
            refine ow_iconst (q := 494) X54 hx (4 : Int32) (hb hby at_493) rfl rfl ?_
            refine ow_aload (q := 496) X54 hx (hb hby at_494) rfl rfl rfl ?_
            obtain ⟨_, _, ⟨T55, L55, k55, n55⟩, -, X55, ⟨Lc55, hQ55, l55, y55, z55⟩, st55⟩ := Jvm.LawKit.callS X54 hx (y := (⟨"com/example/shapewright/shapewright/regex/BuilderAddPinLaw", "okAt", "([II[I)Z"⟩ : MethodName)) hown (mvT hZ (ww 74 rfl)) (mvT hZ (ww 75 rfl)) (mvT hZ (ww 68 rfl)) (mvT hZ (ww 76 rfl)) (by decide) (backOf (W := 0) (rm_okC l Z av0 hw [] b38 (4 : Int32) b8 6 (6 : Int32) (ownUpd (ownUpd (ownUpd (ownUpd (ownUpd (ownUpd (fun _ => (0 : Int32)) 0 f1) 1 (l1 + (1 : Int32))) 2 f2) 3 (l2 + (1 : Int32))) 4 f3) 5 (l3 + (1 : Int32))) (ownUpd (ownUpd (ownUpd (ownUpd (ownUpd (ownUpd (fun _ => (0 : Int32)) 0 f1) 1 l1) 2 f2) 3 l2) 4 f3) 5 l3) T38.heap n0 (Nat.le_trans Z0 K38.1) FP38_0 F39 (by decide) (by decide) (by unfold ownIn; decide) (by decide) (by unfold ownIn; decide)) hZ (ww 76 rfl) (ww 68 rfl) (by decide) (by decide)) (g := (mkF m 496 #[iv p0, iv p1, iv p2, iv p3, iv p4, iv p5, iv (1114112 : Int32), iv f1, iv l1, iv f2, iv l2, iv f3, iv l3, rv b8, rv b16, iv (1 : Int32), rv b38, iv f1, iv v47, iv f2, iv v48, iv f3, iv v49, iv nk6] [(.ref b8), (.int (4 : Int32)), (.ref b38)])) rfl (by rw [hml]; rfl) (argsL := [(.ref b38), (.int (4 : Int32)), (.ref b8)]) (rest := []) (lenOf own_pd8 rfl) rfl (by show 2 * 0 + _ ≤ _; exact Nat.le_of_eq rfl) (hb hby at_496) (fun _ _ => ⟨rfl, e54, (by decide : 7 + 0 ≤ _), (by decide : 43 + 0 ≤ _)⟩)
            dsimp only [Pt.U, Pt.locs, Pt.cells, Pt.slots] at X55 l55 y55 z55 st55 hQ55
            subst l55 y55 z55
            obtain ⟨rfl, N55q, e55⟩ := hQ55
            have N55 := Fr.app N54 N55q
            refine ownGo (T' := T55) (f' := (mkF m 499 #[iv p0, iv p1, iv p2, iv p3, iv p4, iv p5, iv (1114112 : Int32), iv f1, iv l1, iv f2, iv l2, iv f3, iv l3, rv b8, rv b16, iv (1 : Int32), rv b38, iv f1, iv v47, iv f2, iv v48, iv f3, iv v49, iv nk6] [(.int (if (own_ch f1 l1 f2 l2 f3 l3 f3) = (0 : Int32) then (0 : Int32) else if f3 < (l3 + (1 : Int32)) then (1 : Int32) else (0 : Int32)))])) (st55) ?_
            refine ow_ifNo (q := 502) X55 hx (hb hby at_499) rfl (Jvm.Free.XT.i0_eq_f (own_ok_aal_4 hr hm2 hm3 hmx)) ?_
            refine ow_aload (q := 504) X55 hx (hb hby at_502) rfl rfl rfl ?_
            refine ow_iconst (q := 505) X55 hx (5 : Int32) (hb hby at_504) rfl rfl ?_
            refine ow_aload (q := 507) X55 hx (hb hby at_505) rfl rfl rfl ?_
            obtain ⟨_, _, ⟨T56, L56, k56, n56⟩, -, X56, ⟨Lc56, hQ56, l56, y56, z56⟩, st56⟩ := Jvm.LawKit.callS X55 hx (y := (⟨"com/example/shapewright/shapewright/regex/BuilderAddPinLaw", "okAt", "([II[I)Z"⟩ : MethodName)) hown (mvT hZ (ww 74 rfl)) (mvT hZ (ww 75 rfl)) (mvT hZ (ww 68 rfl)) (mvT hZ (ww 76 rfl)) (by decide) (backOf (W := 0) (rm_okB l Z av0 hw [] b38 (5 : Int32) b8 6 (6 : Int32) (ownUpd (ownUpd (ownUpd (ownUpd (ownUpd (ownUpd (fun _ => (0 : Int32)) 0 f1) 1 (l1 + (1 : Int32))) 2 f2) 3 (l2 + (1 : Int32))) 4 f3) 5 (l3 + (1 : Int32))) (ownUpd (ownUpd (ownUpd (ownUpd (ownUpd (ownUpd (fun _ => (0 : Int32)) 0 f1) 1 l1) 2 f2) 3 l2) 4 f3) 5 l3) T38.heap n0 (Nat.le_trans Z0 K38.1) FP38_0 F39 (by decide) (by decide) (by unfold ownIn; decide) (by decide)) hZ (ww 76 rfl) (ww 68 rfl) (by decide) (by decide)) (g := (mkF m 507 #[iv p0, iv p1, iv p2, iv p3, iv p4, iv p5, iv (1114112 : Int32), iv f1, iv l1, iv f2, iv l2, iv f3, iv l3, rv b8, rv b16, iv (1 : Int32), rv b38, iv f1, iv v47, iv f2, iv v48, iv f3, iv v49, iv nk6] [(.ref b8), (.int (5 : Int32)), (.ref b38)])) rfl (by rw [hml]; rfl) (argsL := [(.ref b38), (.int (5 : Int32)), (.ref b8)]) (rest := []) (lenOf own_pd8 rfl) rfl (by show 2 * 0 + _ ≤ _; exact Nat.le_of_eq rfl) (hb hby at_507) (fun _ _ => ⟨rfl, e55, (by decide : 7 + 0 ≤ _), (by decide : 43 + 0 ≤ _)⟩)
            dsimp only [Pt.U, Pt.locs, Pt.cells, Pt.slots] at X56 l56 y56 z56 st56 hQ56
            subst l56 y56 z56
            obtain ⟨rfl, N56q, e56⟩ := hQ56
            have N56 := Fr.app N55 N56q
            refine ownGo (T' := T56) (f' := (mkF m 510 #[iv p0, iv p1, iv p2, iv p3, iv p4, iv p5, iv (1114112 : Int32), iv f1, iv l1, iv f2, iv l2, iv f3, iv l3, rv b8, rv b16, iv (1 : Int32), rv b38, iv f1, iv v47, iv f2, iv v48, iv f3, iv v49, iv nk6] [(.int (if (own_ch f1 l1 f2 l2 f3 l3 (l3 + (1 : Int32))) = (0 : Int32) then (0 : Int32) else (1 : Int32)))])) (st56) ?_
            refine ow_ifNo (q := 513) X56 hx (hb hby at_510) rfl (Jvm.Free.XT.i0_eq_f (own_ok_aal_5 hr hm2 hm3 hmx)) ?_
            refine ow_iconst (q := 514) X56 hx (1 : Int32) (hb hby at_513) rfl rfl ?_
            refine ow_goto (q := 518) X56 hx (hb hby at_514) (by decide) (by decide) ?_
            refine ownRetN X56 hx (r := (1 : Int32)) (Or.inl rfl) Bd.returns (hb hby at_518) hlk (by decide) (by decide) (by decide) ?_
            exact ⟨rfl, N56⟩
          have cut386_57 : ∀ (nk5 : Int32) (Tc57 : State) (lc57 : List Loc), Stand p l e room_1 s m #[(.int p0), (.int p1), (.int p2), (.int p3), (.int p4), (.int p5)] below meth c Tc57 lc57 7 43 → Tc57.heap = T38.heap → Fr n0 lc57 → (nk5.toInt = (own_s5 f1 l1 f2 l2 f3 l3 f1 v47 f2 v48 f3) ∧ 0 ≤ nk5.toInt ∧ nk5.toInt ≤ ((5 : Nat) : Int)) → ownEnds p e below s (Q_law Z p0 p1 p2 p3 p4 p5 h0 n0) 24 192 Tc57 (mkF m 386 #[iv p0, iv p1, iv p2, iv p3, iv p4, iv p5, iv (1114112 : Int32), iv f1, iv l1, iv f2, iv l2, iv f3, iv l3, rv b8, rv b16, iv (1 : Int32), rv b38, iv f1, iv v47, iv f2, iv v48, iv f3, iv v49, iv nk5] []) := by
            intro nk5 Tc57 lc57 Xc57 ec57 Nc57 hn5
            refine ow_aload (q := 388) Xc57 hx (hb hby at_386) rfl rfl rfl ?_
            refine ow_iload (q := 390) Xc57 hx (hb hby at_388) rfl rfl ?_
            obtain ⟨_, _, ⟨T58, L58, k58, n58⟩, -, X58, ⟨Lc58, hQ58, l58, y58, z58⟩, st58⟩ := Jvm.LawKit.callS Xc57 hx (y := (⟨"com/example/shapewright/shapewright/regex/BuilderAddPinLaw", "ch", "([II)Z"⟩ : MethodName)) hown (mvT hZ (ww 66 rfl)) (mvT hZ (ww 67 rfl)) (mvT hZ (ww 68 rfl)) (mvT hZ (ww 69 rfl)) (by decide) (backOf (W := 0) (rm_ch l Z av0 hw [] b8 v49 (ownUpd (ownUpd (ownUpd (ownUpd (ownUpd (ownUpd (fun _ => (0 : Int32)) 0 f1) 1 l1) 2 f2) 3 l2) 4 f3) 5 l3) T38.heap n0 (Nat.le_trans Z0 K38.1) F39) hZ (ww 69 rfl) (ww 68 rfl) (by decide) (by decide)) (g := (mkF m 390 #[iv p0, iv p1, iv p2, iv p3, iv p4, iv p5, iv (1114112 : Int32), iv f1, iv l1, iv f2, iv l2, iv f3, iv l3, rv b8, rv b16, iv (1 : Int32), rv b38, iv f1, iv v47, iv f2, iv v48, iv f3, iv v49, iv nk5] [(.int v49), (.ref b8)])) rfl (by rw [hml]; rfl) (argsL := [(.ref b8), (.int v49)]) (rest := []) (lenOf own_pd3 rfl) rfl (by show 2 * 0 + _ ≤ _; exact Nat.le_of_eq rfl) (hb hby at_390) (fun _ _ => ⟨rfl, ec57, (by decide : 7 + 0 ≤ _), (by decide : 43 + 0 ≤ _)⟩)
            dsimp only [Pt.U, Pt.locs, Pt.cells, Pt.slots] at X58 l58 y58 z58 st58 hQ58
            subst l58 y58 z58
            obtain ⟨rfl, N58q, e58⟩ := hQ58
            have N58 := Fr.app Nc57 N58q
            refine ownGo (T' := T58) (f' := (mkF m 393 #[iv p0, iv p1, iv p2, iv p3, iv p4, iv p5, iv (1114112 : Int32), iv f1, iv l1, iv f2, iv l2, iv f3, iv l3, rv b8, rv b16, iv (1 : Int32), rv b38, iv f1, iv v47, iv f2, iv v48, iv f3, iv v49, iv nk5] [(.int (own_ch f1 l1 f2 l2 f3 l3 v49))])) (st58) ?_
            by_cases hc393_59 : (own_ch f1 l1 f2 l2 f3 l3 v49) = (0 : Int32)
            · refine ow_ifYes (q := 434) X58 hx (hb hby at_393) (Jvm.Free.XT.i0_eq_t hc393_59) (by decide) (by decide) ?_
              exact cut434_50 nk5 _ _ X58 e58 N58 (own_nk0 (k := 5) hn5 (by simp [hc393_59]))
            · refine ow_ifNo (q := 396) X58 hx (hb hby at_393) rfl (Jvm.Free.XT.i0_eq_f hc393_59) ?_
              refine ow_iload (q := 398) X58 hx (hb hby at_396) rfl rfl ?_
              refine ow_iload (q := 400) X58 hx (hb hby at_398) rfl rfl ?_
              by_cases hc400_60 : v49 = f1
              · refine ow_icmpYes (q := 434) X58 hx (hb hby at_400) (Jvm.Free.XT.ii_eq_t hc400_60) (by decide) (by decide) ?_
                exact cut434_50 nk5 _ _ X58 e58 N58 (own_nk0 (k := 5) hn5 (Or.inr (by simp [hc400_60])))
              · refine ow_icmpNo (q := 403) X58 hx (hb hby at_400) rfl (Jvm.Free.XT.ii_eq_f hc400_60) ?_
                refine ow_iload (q := 405) X58 hx (hb hby at_403) rfl rfl ?_
                refine ow_iload (q := 407) X58 hx (hb hby at_405) rfl rfl ?_
                by_cases hc407_61 : v49 = v47
                · refine ow_icmpYes (q := 434) X58 hx (hb hby at_407) (Jvm.Free.XT.ii_eq_t hc407_61) (by decide) (by decide) ?_
                  exact cut434_50 nk5 _ _ X58 e58 N58 (own_nk0 (k := 5) hn5 (Or.inr (by simp [hc407_61])))
                · refine ow_icmpNo (q := 410) X58 hx (hb hby at_407) rfl (Jvm.Free.XT.ii_eq_f hc407_61) ?_
                  refine ow_iload (q := 412) X58 hx (hb hby at_410) rfl rfl ?_
                  refine ow_iload (q := 414) X58 hx (hb hby at_412) rfl rfl ?_
                  by_cases hc414_62 : v49 = f2
                  · refine ow_icmpYes (q := 434) X58 hx (hb hby at_414) (Jvm.Free.XT.ii_eq_t hc414_62) (by decide) (by decide) ?_
                    exact cut434_50 nk5 _ _ X58 e58 N58 (own_nk0 (k := 5) hn5 (Or.inr (by simp [hc414_62])))
                  · refine ow_icmpNo (q := 417) X58 hx (hb hby at_414) rfl (Jvm.Free.XT.ii_eq_f hc414_62) ?_
                    refine ow_iload (q := 419) X58 hx (hb hby at_417) rfl rfl ?_
                    refine ow_iload (q := 421) X58 hx (hb hby at_419) rfl rfl ?_
                    by_cases hc421_63 : v49 = v48
                    · refine ow_icmpYes (q := 434) X58 hx (hb hby at_421) (Jvm.Free.XT.ii_eq_t hc421_63) (by decide) (by decide) ?_
                      exact cut434_50 nk5 _ _ X58 e58 N58 (own_nk0 (k := 5) hn5 (Or.inr (by simp [hc421_63])))
                    · refine ow_icmpNo (q := 424) X58 hx (hb hby at_421) rfl (Jvm.Free.XT.ii_eq_f hc421_63) ?_
                      refine ow_iload (q := 426) X58 hx (hb hby at_424) rfl rfl ?_
                      refine ow_iload (q := 428) X58 hx (hb hby at_426) rfl rfl ?_
                      by_cases hc428_64 : v49 = f3
                      · refine ow_icmpYes (q := 434) X58 hx (hb hby at_428) (Jvm.Free.XT.ii_eq_t hc428_64) (by decide) (by decide) ?_
                        exact cut434_50 nk5 _ _ X58 e58 N58 (own_nk0 (k := 5) hn5 (Or.inr (by simp [hc428_64])))
                      · refine ow_icmpNo (q := 431) X58 hx (hb hby at_428) rfl (Jvm.Free.XT.ii_eq_f hc428_64) ?_
                        refine ow_iinc (q := 434) X58 hx (L' := #[iv p0, iv p1, iv p2, iv p3, iv p4, iv p5, iv (1114112 : Int32), iv f1, iv l1, iv f2, iv l2, iv f3, iv l3, rv b8, rv b16, iv (1 : Int32), rv b38, iv f1, iv v47, iv f2, iv v48, iv f3, iv v49, iv (nk5 + (1 : Int32))]) (hb hby at_431) rfl rfl rfl ?_
                        generalize hv_v65 : (nk5 + (1 : Int32)) = v65
                        exact cut434_50 v65 _ _ X58 e58 N58 (own_nk1 (k := 5) hn5 hv_v65 (by simp [hc393_59, hc400_60, hc407_61, hc414_62, hc421_63, hc428_64]))
          have cut345_66 : ∀ (nk4 : Int32) (Tc66 : State) (lc66 : List Loc), Stand p l e room_1 s m #[(.int p0), (.int p1), (.int p2), (.int p3), (.int p4), (.int p5)] below meth c Tc66 lc66 7 43 → Tc66.heap = T38.heap → Fr n0 lc66 → (nk4.toInt = (own_s4 f1 l1 f2 l2 f3 l3 f1 v47 f2 v48) ∧ 0 ≤ nk4.toInt ∧ nk4.toInt ≤ ((4 : Nat) : Int)) → ownEnds p e below s (Q_law Z p0 p1 p2 p3 p4 p5 h0 n0) 24 192 Tc66 (mkF m 345 #[iv p0, iv p1, iv p2, iv p3, iv p4, iv p5, iv (1114112 : Int32), iv f1, iv l1, iv f2, iv l2, iv f3, iv l3, rv b8, rv b16, iv (1 : Int32), rv b38, iv f1, iv v47, iv f2, iv v48, iv f3, iv v49, iv nk4] []) := by
            intro nk4 Tc66 lc66 Xc66 ec66 Nc66 hn4
            refine ow_aload (q := 347) Xc66 hx (hb hby at_345) rfl rfl rfl ?_
            refine ow_iload (q := 349) Xc66 hx (hb hby at_347) rfl rfl ?_
            obtain ⟨_, _, ⟨T67, L67, k67, n67⟩, -, X67, ⟨Lc67, hQ67, l67, y67, z67⟩, st67⟩ := Jvm.LawKit.callS Xc66 hx (y := (⟨"com/example/shapewright/shapewright/regex/BuilderAddPinLaw", "ch", "([II)Z"⟩ : MethodName)) hown (mvT hZ (ww 66 rfl)) (mvT hZ (ww 67 rfl)) (mvT hZ (ww 68 rfl)) (mvT hZ (ww 69 rfl)) (by decide) (backOf (W := 0) (rm_ch l Z av0 hw [] b8 f3 (ownUpd (ownUpd (ownUpd (ownUpd (ownUpd (ownUpd (fun _ => (0 : Int32)) 0 f1) 1 l1) 2 f2) 3 l2) 4 f3) 5 l3) T38.heap n0 (Nat.le_trans Z0 K38.1) F39) hZ (ww 69 rfl) (ww 68 rfl) (by decide) (by decide)) (g := (mkF m 349 #[iv p0, iv p1, iv p2, iv p3, iv p4, iv p5, iv (1114112 : Int32), iv f1, iv l1, iv f2, iv l2, iv f3, iv l3, rv b8, rv b16, iv (1 : Int32), rv b38, iv f1, iv v47, iv f2, iv v48, iv f3, iv v49, iv nk4] [(.int f3), (.ref b8)])) rfl (by rw [hml]; rfl) (argsL := [(.ref b8), (.int f3)]) (rest := []) (lenOf own_pd3 rfl) rfl (by show 2 * 0 + _ ≤ _; exact Nat.le_of_eq rfl) (hb hby at_349) (fun _ _ => ⟨rfl, ec66, (by decide : 7 + 0 ≤ _), (by decide : 43 + 0 ≤ _)⟩)
            dsimp only [Pt.U, Pt.locs, Pt.cells, Pt.slots] at X67 l67 y67 z67 st67 hQ67
            subst l67 y67 z67
            obtain ⟨rfl, N67q, e67⟩ := hQ67
            have N67 := Fr.app Nc66 N67q
            refine ownGo (T' := T67) (f' := (mkF m 352 #[iv p0, iv p1, iv p2, iv p3, iv p4, iv p5, iv (1114112 : Int32), iv f1, iv l1, iv f2, iv l2, iv f3, iv l3, rv b8, rv b16, iv (1 : Int32), rv b38, iv f1, iv v47, iv f2, iv v48, iv f3, iv v49, iv nk4] [(.int (own_ch f1 l1 f2 l2 f3 l3 f3))])) (st67) ?_
            by_cases hc352_68 : (own_ch f1 l1 f2 l2 f3 l3 f3) = (0 : Int32)
            · refine ow_ifYes (q := 386) X67 hx (hb hby at_352) (Jvm.Free.XT.i0_eq_t hc352_68) (by decide) (by decide) ?_
              exact cut386_57 nk4 _ _ X67 e67 N67 (own_nk0 (k := 4) hn4 (by simp [hc352_68]))
            · refine ow_ifNo (q := 355) X67 hx (hb hby at_352) rfl (Jvm.Free.XT.i0_eq_f hc352_68) ?_
              refine ow_iload (q := 357) X67 hx (hb hby at_355) rfl rfl ?_
              refine ow_iload (q := 359) X67 hx (hb hby at_357) rfl rfl ?_
              by_cases hc359_69 : f3 = f1
              · refine ow_icmpYes (q := 386) X67 hx (hb hby at_359) (Jvm.Free.XT.ii_eq_t hc359_69) (by decide) (by decide) ?_
                exact cut386_57 nk4 _ _ X67 e67 N67 (own_nk0 (k := 4) hn4 (Or.inr (by simp [hc359_69])))
              · refine ow_icmpNo (q := 362) X67 hx (hb hby at_359) rfl (Jvm.Free.XT.ii_eq_f hc359_69) ?_
                refine ow_iload (q := 364) X67 hx (hb hby at_362) rfl rfl ?_
                refine ow_iload (q := 366) X67 hx (hb hby at_364) rfl rfl ?_
                by_cases hc366_70 : f3 = v47
                · refine ow_icmpYes (q := 386) X67 hx (hb hby at_366) (Jvm.Free.XT.ii_eq_t hc366_70) (by decide) (by decide) ?_
                  exact cut386_57 nk4 _ _ X67 e67 N67 (own_nk0 (k := 4) hn4 (Or.inr (by simp [hc366_70])))
                · refine ow_icmpNo (q := 369) X67 hx (hb hby at_366) rfl (Jvm.Free.XT.ii_eq_f hc366_70) ?_
                  refine ow_iload (q := 371) X67 hx (hb hby at_369) rfl rfl ?_
                  refine ow_iload (q := 373) X67 hx (hb hby at_371) rfl rfl ?_
                  by_cases hc373_71 : f3 = f2
                  · refine ow_icmpYes (q := 386) X67 hx (hb hby at_373) (Jvm.Free.XT.ii_eq_t hc373_71) (by decide) (by decide) ?_
                    exact cut386_57 nk4 _ _ X67 e67 N67 (own_nk0 (k := 4) hn4 (Or.inr (by simp [hc373_71])))
                  · refine ow_icmpNo (q := 376) X67 hx (hb hby at_373) rfl (Jvm.Free.XT.ii_eq_f hc373_71) ?_
                    refine ow_iload (q := 378) X67 hx (hb hby at_376) rfl rfl ?_
                    refine ow_iload (q := 380) X67 hx (hb hby at_378) rfl rfl ?_
                    by_cases hc380_72 : f3 = v48
                    · refine ow_icmpYes (q := 386) X67 hx (hb hby at_380) (Jvm.Free.XT.ii_eq_t hc380_72) (by decide) (by decide) ?_
                      exact cut386_57 nk4 _ _ X67 e67 N67 (own_nk0 (k := 4) hn4 (Or.inr (by simp [hc380_72])))
                    · refine ow_icmpNo (q := 383) X67 hx (hb hby at_380) rfl (Jvm.Free.XT.ii_eq_f hc380_72) ?_
                      refine ow_iinc (q := 386) X67 hx (L' := #[iv p0, iv p1, iv p2, iv p3, iv p4, iv p5, iv (1114112 : Int32), iv f1, iv l1, iv f2, iv l2, iv f3, iv l3, rv b8, rv b16, iv (1 : Int32), rv b38, iv f1, iv v47, iv f2, iv v48, iv f3, iv v49, iv (nk4 + (1 : Int32))]) (hb hby at_383) rfl rfl rfl ?_
                      generalize hv_v73 : (nk4 + (1 : Int32)) = v73
                      exact cut386_57 v73 _ _ X67 e67 N67 (own_nk1 (k := 4) hn4 hv_v73 (by simp [hc352_68, hc359_69, hc366_70, hc373_71, hc380_72]))
          have cut311_74 : ∀ (nk3 : Int32) (Tc74 : State) (lc74 : List Loc), Stand p l e room_1 s m #[(.int p0), (.int p1), (.int p2), (.int p3), (.int p4), (.int p5)] below meth c Tc74 lc74 7 43 → Tc74.heap = T38.heap → Fr n0 lc74 → (nk3.toInt = (own_s3 f1 l1 f2 l2 f3 l3 f1 v47 f2) ∧ 0 ≤ nk3.toInt ∧ nk3.toInt ≤ ((3 : Nat) : Int)) → ownEnds p e below s (Q_law Z p0 p1 p2 p3 p4 p5 h0 n0) 24 192 Tc74 (mkF m 311 #[iv p0, iv p1, iv p2, iv p3, iv p4, iv p5, iv (1114112 : Int32), iv f1, iv l1, iv f2, iv l2, iv f3, iv l3, rv b8, rv b16, iv (1 : Int32), rv b38, iv f1, iv v47, iv f2, iv v48, iv f3, iv v49, iv nk3] []) := by
            intro nk3 Tc74 lc74 Xc74 ec74 Nc74 hn3
            refine ow_aload (q := 313) Xc74 hx (hb hby at_311) rfl rfl rfl ?_
            refine ow_iload (q := 315) Xc74 hx (hb hby at_313) rfl rfl ?_
            obtain ⟨_, _, ⟨T75, L75, k75, n75⟩, -, X75, ⟨Lc75, hQ75, l75, y75, z75⟩, st75⟩ := Jvm.LawKit.callS Xc74 hx (y := (⟨"com/example/shapewright/shapewright/regex/BuilderAddPinLaw", "ch", "([II)Z"⟩ : MethodName)) hown (mvT hZ (ww 66 rfl)) (mvT hZ (ww 67 rfl)) (mvT hZ (ww 68 rfl)) (mvT hZ (ww 69 rfl)) (by decide) (backOf (W := 0) (rm_ch l Z av0 hw [] b8 v48 (ownUpd (ownUpd (ownUpd (ownUpd (ownUpd (ownUpd (fun _ => (0 : Int32)) 0 f1) 1 l1) 2 f2) 3 l2) 4 f3) 5 l3) T38.heap n0 (Nat.le_trans Z0 K38.1) F39) hZ (ww 69 rfl) (ww 68 rfl) (by decide) (by decide)) (g := (mkF m 315 #[iv p0, iv p1, iv p2, iv p3, iv p4, iv p5, iv (1114112 : Int32), iv f1, iv l1, iv f2, iv l2, iv f3, iv l3, rv b8, rv b16, iv (1 : Int32), rv b38, iv f1, iv v47, iv f2, iv v48, iv f3, iv v49, iv nk3] [(.int v48), (.ref b8)])) rfl (by rw [hml]; rfl) (argsL := [(.ref b8), (.int v48)]) (rest := []) (lenOf own_pd3 rfl) rfl (by show 2 * 0 + _ ≤ _; exact Nat.le_of_eq rfl) (hb hby at_315) (fun _ _ => ⟨rfl, ec74, (by decide : 7 + 0 ≤ _), (by decide : 43 + 0 ≤ _)⟩)
            dsimp only [Pt.U, Pt.locs, Pt.cells, Pt.slots] at X75 l75 y75 z75 st75 hQ75
            subst l75 y75 z75
            obtain ⟨rfl, N75q, e75⟩ := hQ75
            have N75 := Fr.app Nc74 N75q
            refine ownGo (T' := T75) (f' := (mkF m 318 #[iv p0, iv p1, iv p2, iv p3, iv p4, iv p5, iv (1114112 : Int32), iv f1, iv l1, iv f2, iv l2, iv f3, iv l3, rv b8, rv b16, iv (1 : Int32), rv b38, iv f1, iv v47, iv f2, iv v48, iv f3, iv v49, iv nk3] [(.int (own_ch f1 l1 f2 l2 f3 l3 v48))])) (st75) ?_
            by_cases hc318_76 : (own_ch f1 l1 f2 l2 f3 l3 v48) = (0 : Int32)
            · refine ow_ifYes (q := 345) X75 hx (hb hby at_318) (Jvm.Free.XT.i0_eq_t hc318_76) (by decide) (by decide) ?_
              exact cut345_66 nk3 _ _ X75 e75 N75 (own_nk0 (k := 3) hn3 (by simp [hc318_76]))
            · refine ow_ifNo (q := 321) X75 hx (hb hby at_318) rfl (Jvm.Free.XT.i0_eq_f hc318_76) ?_
              refine ow_iload (q := 323) X75 hx (hb hby at_321) rfl rfl ?_
              refine ow_iload (q := 325) X75 hx (hb hby at_323) rfl rfl ?_
              by_cases hc325_77 : v48 = f1
              · refine ow_icmpYes (q := 345) X75 hx (hb hby at_325) (Jvm.Free.XT.ii_eq_t hc325_77) (by decide) (by decide) ?_
                exact cut345_66 nk3 _ _ X75 e75 N75 (own_nk0 (k := 3) hn3 (Or.inr (by simp [hc325_77])))
              · refine ow_icmpNo (q := 328) X75 hx (hb hby at_325) rfl (Jvm.Free.XT.ii_eq_f hc325_77) ?_
                refine ow_iload (q := 330) X75 hx (hb hby at_328) rfl rfl ?_
                refine ow_iload (q := 332) X75 hx (hb hby at_330) rfl rfl ?_
                by_cases hc332_78 : v48 = v47
                · refine ow_icmpYes (q := 345) X75 hx (hb hby at_332) (Jvm.Free.XT.ii_eq_t hc332_78) (by decide) (by decide) ?_
                  exact cut345_66 nk3 _ _ X75 e75 N75 (own_nk0 (k := 3) hn3 (Or.inr (by simp [hc332_78])))
                · refine ow_icmpNo (q := 335) X75 hx (hb hby at_332) rfl (Jvm.Free.XT.ii_eq_f hc332_78) ?_
                  refine ow_iload (q := 337) X75 hx (hb hby at_335) rfl rfl ?_
                  refine ow_iload (q := 339) X75 hx (hb hby at_337) rfl rfl ?_
                  by_cases hc339_79 : v48 = f2
                  · refine ow_icmpYes (q := 345) X75 hx (hb hby at_339) (Jvm.Free.XT.ii_eq_t hc339_79) (by decide) (by decide) ?_
                    exact cut345_66 nk3 _ _ X75 e75 N75 (own_nk0 (k := 3) hn3 (Or.inr (by simp [hc339_79])))
                  · refine ow_icmpNo (q := 342) X75 hx (hb hby at_339) rfl (Jvm.Free.XT.ii_eq_f hc339_79) ?_
                    refine ow_iinc (q := 345) X75 hx (L' := #[iv p0, iv p1, iv p2, iv p3, iv p4, iv p5, iv (1114112 : Int32), iv f1, iv l1, iv f2, iv l2, iv f3, iv l3, rv b8, rv b16, iv (1 : Int32), rv b38, iv f1, iv v47, iv f2, iv v48, iv f3, iv v49, iv (nk3 + (1 : Int32))]) (hb hby at_342) rfl rfl rfl ?_
                    generalize hv_v80 : (nk3 + (1 : Int32)) = v80
                    exact cut345_66 v80 _ _ X75 e75 N75 (own_nk1 (k := 3) hn3 hv_v80 (by simp [hc318_76, hc325_77, hc332_78, hc339_79]))
          have cut284_81 : ∀ (nk2 : Int32) (Tc81 : State) (lc81 : List Loc), Stand p l e room_1 s m #[(.int p0), (.int p1), (.int p2), (.int p3), (.int p4), (.int p5)] below meth c Tc81 lc81 7 43 → Tc81.heap = T38.heap → Fr n0 lc81 → (nk2.toInt = (own_s2 f1 l1 f2 l2 f3 l3 f1 v47) ∧ 0 ≤ nk2.toInt ∧ nk2.toInt ≤ ((2 : Nat) : Int)) → ownEnds p e below s (Q_law Z p0 p1 p2 p3 p4 p5 h0 n0) 24 192 Tc81 (mkF m 284 #[iv p0, iv p1, iv p2, iv p3, iv p4, iv p5, iv (1114112 : Int32), iv f1, iv l1, iv f2, iv l2, iv f3, iv l3, rv b8, rv b16, iv (1 : Int32), rv b38, iv f1, iv v47, iv f2, iv v48, iv f3, iv v49, iv nk2] []) := by
            intro nk2 Tc81 lc81 Xc81 ec81 Nc81 hn2
            refine ow_aload (q := 286) Xc81 hx (hb hby at_284) rfl rfl rfl ?_
            refine ow_iload (q := 288) Xc81 hx (hb hby at_286) rfl rfl ?_
            obtain ⟨_, _, ⟨T82, L82, k82, n82⟩, -, X82, ⟨Lc82, hQ82, l82, y82, z82⟩, st82⟩ := Jvm.LawKit.callS Xc81 hx (y := (⟨"com/example/shapewright/shapewright/regex/BuilderAddPinLaw", "ch", "([II)Z"⟩ : MethodName)) hown (mvT hZ (ww 66 rfl)) (mvT hZ (ww 67 rfl)) (mvT hZ (ww 68 rfl)) (mvT hZ (ww 69 rfl)) (by decide) (backOf (W := 0) (rm_ch l Z av0 hw [] b8 f2 (ownUpd (ownUpd (ownUpd (ownUpd (ownUpd (ownUpd (fun _ => (0 : Int32)) 0 f1) 1 l1) 2 f2) 3 l2) 4 f3) 5 l3) T38.heap n0 (Nat.le_trans Z0 K38.1) F39) hZ (ww 69 rfl) (ww 68 rfl) (by decide) (by decide)) (g := (mkF m 288 #[iv p0, iv p1, iv p2, iv p3, iv p4, iv p5, iv (1114112 : Int32), iv f1, iv l1, iv f2, iv l2, iv f3, iv l3, rv b8, rv b16, iv (1 : Int32), rv b38, iv f1, iv v47, iv f2, iv v48, iv f3, iv v49, iv nk2] [(.int f2), (.ref b8)])) rfl (by rw [hml]; rfl) (argsL := [(.ref b8), (.int f2)]) (rest := []) (lenOf own_pd3 rfl) rfl (by show 2 * 0 + _ ≤ _; exact Nat.le_of_eq rfl) (hb hby at_288) (fun _ _ => ⟨rfl, ec81, (by decide : 7 + 0 ≤ _), (by decide : 43 + 0 ≤ _)⟩)
            dsimp only [Pt.U, Pt.locs, Pt.cells, Pt.slots] at X82 l82 y82 z82 st82 hQ82
            subst l82 y82 z82
            obtain ⟨rfl, N82q, e82⟩ := hQ82
            have N82 := Fr.app Nc81 N82q
            refine ownGo (T' := T82) (f' := (mkF m 291 #[iv p0, iv p1, iv p2, iv p3, iv p4, iv p5, iv (1114112 : Int32), iv f1, iv l1, iv f2, iv l2, iv f3, iv l3, rv b8, rv b16, iv (1 : Int32), rv b38, iv f1, iv v47, iv f2, iv v48, iv f3, iv v49, iv nk2] [(.int (own_ch f1 l1 f2 l2 f3 l3 f2))])) (st82) ?_
            by_cases hc291_83 : (own_ch f1 l1 f2 l2 f3 l3 f2) = (0 : Int32)
            · refine ow_ifYes (q := 311) X82 hx (hb hby at_291) (Jvm.Free.XT.i0_eq_t hc291_83) (by decide) (by decide) ?_
              exact cut311_74 nk2 _ _ X82 e82 N82 (own_nk0 (k := 2) hn2 (by simp [hc291_83]))
            · refine ow_ifNo (q := 294) X82 hx (hb hby at_291) rfl (Jvm.Free.XT.i0_eq_f hc291_83) ?_
              refine ow_iload (q := 296) X82 hx (hb hby at_294) rfl rfl ?_
              refine ow_iload (q := 298) X82 hx (hb hby at_296) rfl rfl ?_
              by_cases hc298_84 : f2 = f1
              · refine ow_icmpYes (q := 311) X82 hx (hb hby at_298) (Jvm.Free.XT.ii_eq_t hc298_84) (by decide) (by decide) ?_
                exact cut311_74 nk2 _ _ X82 e82 N82 (own_nk0 (k := 2) hn2 (Or.inr (by simp [hc298_84])))
              · refine ow_icmpNo (q := 301) X82 hx (hb hby at_298) rfl (Jvm.Free.XT.ii_eq_f hc298_84) ?_
                refine ow_iload (q := 303) X82 hx (hb hby at_301) rfl rfl ?_
                refine ow_iload (q := 305) X82 hx (hb hby at_303) rfl rfl ?_
                by_cases hc305_85 : f2 = v47
                · refine ow_icmpYes (q := 311) X82 hx (hb hby at_305) (Jvm.Free.XT.ii_eq_t hc305_85) (by decide) (by decide) ?_
                  exact cut311_74 nk2 _ _ X82 e82 N82 (own_nk0 (k := 2) hn2 (Or.inr (by simp [hc305_85])))
                · refine ow_icmpNo (q := 308) X82 hx (hb hby at_305) rfl (Jvm.Free.XT.ii_eq_f hc305_85) ?_
                  refine ow_iinc (q := 311) X82 hx (L' := #[iv p0, iv p1, iv p2, iv p3, iv p4, iv p5, iv (1114112 : Int32), iv f1, iv l1, iv f2, iv l2, iv f3, iv l3, rv b8, rv b16, iv (1 : Int32), rv b38, iv f1, iv v47, iv f2, iv v48, iv f3, iv v49, iv (nk2 + (1 : Int32))]) (hb hby at_308) rfl rfl rfl ?_
                  generalize hv_v86 : (nk2 + (1 : Int32)) = v86
                  exact cut311_74 v86 _ _ X82 e82 N82 (own_nk1 (k := 2) hn2 hv_v86 (by simp [hc291_83, hc298_84, hc305_85]))
          have cut264_87 : ∀ (nk1 : Int32) (Tc87 : State) (lc87 : List Loc), Stand p l e room_1 s m #[(.int p0), (.int p1), (.int p2), (.int p3), (.int p4), (.int p5)] below meth c Tc87 lc87 7 43 → Tc87.heap = T38.heap → Fr n0 lc87 → (nk1.toInt = (own_s1 f1 l1 f2 l2 f3 l3 f1) ∧ 0 ≤ nk1.toInt ∧ nk1.toInt ≤ ((1 : Nat) : Int)) → ownEnds p e below s (Q_law Z p0 p1 p2 p3 p4 p5 h0 n0) 24 192 Tc87 (mkF m 264 #[iv p0, iv p1, iv p2, iv p3, iv p4, iv p5, iv (1114112 : Int32), iv f1, iv l1, iv f2, iv l2, iv f3, iv l3, rv b8, rv b16, iv (1 : Int32), rv b38, iv f1, iv v47, iv f2, iv v48, iv f3, iv v49, iv nk1] []) := by
            intro nk1 Tc87 lc87 Xc87 ec87 Nc87 hn1
            refine ow_aload (q := 266) Xc87 hx (hb hby at_264) rfl rfl rfl ?_
            refine ow_iload (q := 268) Xc87 hx (hb hby at_266) rfl rfl ?_
            obtain ⟨_, _, ⟨T88, L88, k88, n88⟩, -, X88, ⟨Lc88, hQ88, l88, y88, z88⟩, st88⟩ := Jvm.LawKit.callS Xc87 hx (y := (⟨"com/example/shapewright/shapewright/regex/BuilderAddPinLaw", "ch", "([II)Z"⟩ : MethodName)) hown (mvT hZ (ww 66 rfl)) (mvT hZ (ww 67 rfl)) (mvT hZ (ww 68 rfl)) (mvT hZ (ww 69 rfl)) (by decide) (backOf (W := 0) (rm_ch l Z av0 hw [] b8 v47 (ownUpd (ownUpd (ownUpd (ownUpd (ownUpd (ownUpd (fun _ => (0 : Int32)) 0 f1) 1 l1) 2 f2) 3 l2) 4 f3) 5 l3) T38.heap n0 (Nat.le_trans Z0 K38.1) F39) hZ (ww 69 rfl) (ww 68 rfl) (by decide) (by decide)) (g := (mkF m 268 #[iv p0, iv p1, iv p2, iv p3, iv p4, iv p5, iv (1114112 : Int32), iv f1, iv l1, iv f2, iv l2, iv f3, iv l3, rv b8, rv b16, iv (1 : Int32), rv b38, iv f1, iv v47, iv f2, iv v48, iv f3, iv v49, iv nk1] [(.int v47), (.ref b8)])) rfl (by rw [hml]; rfl) (argsL := [(.ref b8), (.int v47)]) (rest := []) (lenOf own_pd3 rfl) rfl (by show 2 * 0 + _ ≤ _; exact Nat.le_of_eq rfl) (hb hby at_268) (fun _ _ => ⟨rfl, ec87, (by decide : 7 + 0 ≤ _), (by decide : 43 + 0 ≤ _)⟩)
            dsimp only [Pt.U, Pt.locs, Pt.cells, Pt.slots] at X88 l88 y88 z88 st88 hQ88
            subst l88 y88 z88
            obtain ⟨rfl, N88q, e88⟩ := hQ88
            have N88 := Fr.app Nc87 N88q
            refine ownGo (T' := T88) (f' := (mkF m 271 #[iv p0, iv p1, iv p2, iv p3, iv p4, iv p5, iv (1114112 : Int32), iv f1, iv l1, iv f2, iv l2, iv f3, iv l3, rv b8, rv b16, iv (1 : Int32), rv b38, iv f1, iv v47, iv f2, iv v48, iv f3, iv v49, iv nk1] [(.int (own_ch f1 l1 f2 l2 f3 l3 v47))])) (st88) ?_
            by_cases hc271_89 : (own_ch f1 l1 f2 l2 f3 l3 v47) = (0 : Int32)
            · refine ow_ifYes (q := 284) X88 hx (hb hby at_271) (Jvm.Free.XT.i0_eq_t hc271_89) (by decide) (by decide) ?_
              exact cut284_81 nk1 _ _ X88 e88 N88 (own_nk0 (k := 1) hn1 (by simp [hc271_89]))
            · refine ow_ifNo (q := 274) X88 hx (hb hby at_271) rfl (Jvm.Free.XT.i0_eq_f hc271_89) ?_
              refine ow_iload (q := 276) X88 hx (hb hby at_274) rfl rfl ?_
              refine ow_iload (q := 278) X88 hx (hb hby at_276) rfl rfl ?_
              by_cases hc278_90 : v47 = f1
              · refine ow_icmpYes (q := 284) X88 hx (hb hby at_278) (Jvm.Free.XT.ii_eq_t hc278_90) (by decide) (by decide) ?_
                exact cut284_81 nk1 _ _ X88 e88 N88 (own_nk0 (k := 1) hn1 (Or.inr (by simp [hc278_90])))
              · refine ow_icmpNo (q := 281) X88 hx (hb hby at_278) rfl (Jvm.Free.XT.ii_eq_f hc278_90) ?_
                refine ow_iinc (q := 284) X88 hx (L' := #[iv p0, iv p1, iv p2, iv p3, iv p4, iv p5, iv (1114112 : Int32), iv f1, iv l1, iv f2, iv l2, iv f3, iv l3, rv b8, rv b16, iv (1 : Int32), rv b38, iv f1, iv v47, iv f2, iv v48, iv f3, iv v49, iv (nk1 + (1 : Int32))]) (hb hby at_281) rfl rfl rfl ?_
                generalize hv_v91 : (nk1 + (1 : Int32)) = v91
                exact cut284_81 v91 _ _ X88 e88 N88 (own_nk1 (k := 1) hn1 hv_v91 (by simp [hc271_89, hc278_90]))
          refine ow_aload (q := 253) X38 hx (hb hby at_251) rfl rfl rfl ?_
          refine ow_iload (q := 255) X38 hx (hb hby at_253) rfl rfl ?_
          obtain ⟨_, _, ⟨T92, L92, k92, n92⟩, -, X92, ⟨Lc92, hQ92, l92, y92, z92⟩, st92⟩ := Jvm.LawKit.callS X38 hx (y := (⟨"com/example/shapewright/shapewright/regex/BuilderAddPinLaw", "ch", "([II)Z"⟩ : MethodName)) hown (mvT hZ (ww 66 rfl)) (mvT hZ (ww 67 rfl)) (mvT hZ (ww 68 rfl)) (mvT hZ (ww 69 rfl)) (by decide) (backOf (W := 0) (rm_ch l Z av0 hw [] b8 f1 (ownUpd (ownUpd (ownUpd (ownUpd (ownUpd (ownUpd (fun _ => (0 : Int32)) 0 f1) 1 l1) 2 f2) 3 l2) 4 f3) 5 l3) T38.heap n0 (Nat.le_trans Z0 K38.1) F39) hZ (ww 69 rfl) (ww 68 rfl) (by decide) (by decide)) (g := (mkF m 255 #[iv p0, iv p1, iv p2, iv p3, iv p4, iv p5, iv (1114112 : Int32), iv f1, iv l1, iv f2, iv l2, iv f3, iv l3, rv b8, rv b16, iv (1 : Int32), rv b38, iv f1, iv v47, iv f2, iv v48, iv f3, iv v49, iv (0 : Int32)] [(.int f1), (.ref b8)])) rfl (by rw [hml]; rfl) (argsL := [(.ref b8), (.int f1)]) (rest := []) (lenOf own_pd3 rfl) rfl (by show 2 * 0 + _ ≤ _; exact Nat.le_of_eq rfl) (hb hby at_255) (fun _ _ => ⟨rfl, rfl, (by decide : 7 + 0 ≤ _), (by decide : 43 + 0 ≤ _)⟩)
          dsimp only [Pt.U, Pt.locs, Pt.cells, Pt.slots] at X92 l92 y92 z92 st92 hQ92
          subst l92 y92 z92
          obtain ⟨rfl, N92q, e92⟩ := hQ92
          have N92 := Fr.app N38 N92q
          refine ownGo (T' := T92) (f' := (mkF m 258 #[iv p0, iv p1, iv p2, iv p3, iv p4, iv p5, iv (1114112 : Int32), iv f1, iv l1, iv f2, iv l2, iv f3, iv l3, rv b8, rv b16, iv (1 : Int32), rv b38, iv f1, iv v47, iv f2, iv v48, iv f3, iv v49, iv (0 : Int32)] [(.int (own_ch f1 l1 f2 l2 f3 l3 f1))])) (st92) ?_
          by_cases hc258_93 : (own_ch f1 l1 f2 l2 f3 l3 f1) = (0 : Int32)
          · refine ow_ifYes (q := 264) X92 hx (hb hby at_258) (Jvm.Free.XT.i0_eq_t hc258_93) (by decide) (by decide) ?_
            exact cut264_87 (0 : Int32) _ _ X92 e92 N92 (own_nk0 (k := 0) (by decide : (0 : Int32).toInt = (0 : Int) ∧ 0 ≤ (0 : Int32).toInt ∧ (0 : Int32).toInt ≤ ((0 : Nat) : Int)) (by simp [hc258_93]))
          · refine ow_ifNo (q := 261) X92 hx (hb hby at_258) rfl (Jvm.Free.XT.i0_eq_f hc258_93) ?_
            refine ow_iinc (q := 264) X92 hx (L' := #[iv p0, iv p1, iv p2, iv p3, iv p4, iv p5, iv (1114112 : Int32), iv f1, iv l1, iv f2, iv l2, iv f3, iv l3, rv b8, rv b16, iv (1 : Int32), rv b38, iv f1, iv v47, iv f2, iv v48, iv f3, iv v49, iv (1 : Int32)]) (hb hby at_261) rfl rfl rfl ?_
            exact cut264_87 (1 : Int32) _ _ X92 e92 N92 (own_nk1 (k := 0) (by decide : (0 : Int32).toInt = (0 : Int) ∧ 0 ≤ (0 : Int32).toInt ∧ (0 : Int32).toInt ≤ ((0 : Nat) : Int)) (by decide) (by simp [hc258_93]))
        · refine ow_aload (q := 210) X29 hx (hb hby at_208) rfl rfl rfl ?_
          obtain ⟨cq94, kq94, q94a, q94b, q94c⟩ := isOf hZ rfl FP29_0
          obtain ⟨_, _, ⟨T94, L94, k94, n94⟩, -, X94, ⟨Lc94, hQ94, l94, y94, z94⟩, st94⟩ := X29.virtualBack hx (y := (⟨"com/example/shapewright/shapewright/regex/CodePointSet$Builder", "build", "()Lcom/example/shapewright/shapewright/regex/CodePointSet;"⟩ : MethodName)) (z := (⟨"com/example/shapewright/shapewright/regex/CodePointSet$Builder", "build", "()Lcom/example/shapewright/shapewright/regex/CodePointSet;"⟩ : MethodName)) hown (mvT hZ (ww 25 rfl)) (mvT hZ (ww 26 rfl)) (notFace_of_selects (args := #[]) (mvT hZ (ww 28 rfl))) (mvT hZ (ww 28 rfl)) (mvT hZ (ww 27 rfl)) (by decide) (backOf (W := 0) (rm_build_6 l Z av0 hw [] b16 ar_20 (ownUpd (ownUpd (ownUpd (ownUpd (ownUpd (ownUpd (fun _ => (0 : Int32)) 0 f1) 1 l1) 2 f2) 3 l2) 4 f3) 5 l3) T29.heap n0 (Nat.le_trans Z0 K29.1) FP29_1 FP29_2 FP29_3) hZ (ww 29 rfl) (ww 5 rfl) (by decide) (by decide)) q94a q94c (g := (mkF m 210 #[iv p0, iv p1, iv p2, iv p3, iv p4, iv p5, iv (1114112 : Int32), iv f1, iv l1, iv f2, iv l2, iv f3, iv l3, rv b8, rv b16, iv (1 : Int32), .unset, .unset, .unset, .unset, .unset, .unset, .unset, .unset] [(.ref b16)])) rfl (by rw [hml]; rfl) (Steps.refl _) (argsL := []) (rest := []) (lenOf own_pd6 rfl) rfl (by show 2 * 0 + _ ≤ _; exact Nat.le_of_eq rfl) (hb hby at_210) (fun _ _ => ⟨rfl, rfl, (by decide : 3 + 2 ≤ _), (by decide : 24 + 7 ≤ _)⟩)
          dsimp only [Pt.U, Pt.locs, Pt.cells, Pt.slots] at X94 l94 y94 z94 st94 hQ94
          subst l94 y94 z94
          obtain ⟨b94, ar2_94, rfl, N94q, Kq94, sq94_b94, sq94_ar2_94, FP94_0, FP94_1, FP94_2, hp94⟩ := hQ94
          have N94 := Fr.app N29 N94q
          have K94 : Keep h0 T94.heap [] := K29.trans Kq94 all0
          have ne_b8_b94 : b8 ≠ b94 := Nat.ne_of_lt (Nat.lt_of_lt_of_le F30.lt sq94_b94)
          have ne_b16_b94 : b16 ≠ b94 := Nat.ne_of_lt (Nat.lt_of_lt_of_le FP29_0.lt sq94_b94)
          have ne_ar_20_b94 : ar_20 ≠ b94 := Nat.ne_of_lt (Nat.lt_of_lt_of_le FP29_3.lt sq94_b94)
          have sz_b94 : h0.size ≤ b94 := Nat.le_trans K29.1 sq94_b94
          have G_b94 : n0 ≤ b94 := Nat.le_trans Z0 sz_b94
          have ne_b8_ar2_94 : b8 ≠ ar2_94 := Nat.ne_of_lt (Nat.lt_of_lt_of_le F30.lt sq94_ar2_94)
          have ne_b16_ar2_94 : b16 ≠ ar2_94 := Nat.ne_of_lt (Nat.lt_of_lt_of_le FP29_0.lt sq94_ar2_94)
          have ne_ar_20_ar2_94 : ar_20 ≠ ar2_94 := Nat.ne_of_lt (Nat.lt_of_lt_of_le FP29_3.lt sq94_ar2_94)
          have sz_ar2_94 : h0.size ≤ ar2_94 := Nat.le_trans K29.1 sq94_ar2_94
          have G_ar2_94 : n0 ≤ ar2_94 := Nat.le_trans Z0 sz_ar2_94
          have F95 : ownAI Z T94.heap b8 .int 6 (ownUpd (ownUpd (ownUpd (ownUpd (ownUpd (ownUpd (fun _ => (0 : Int32)) 0 f1) 1 l1) 2 f2) 3 l2) 4 f3) 5 l3) := F30.keep Kq94 nin0
          have F96 : Exa Z T94.heap b16 "com/example/shapewright/shapewright/regex/CodePointSet$Builder" := FP29_0.keep Kq94
          have F97 : Fld Z T94.heap b16 "com/example/shapewright/shapewright/regex/CodePointSet$Builder" "ranges" "[I" (.ref ar_20) := FP29_1.keep Kq94 nin0
          have F98 : Fld Z T94.heap b16 "com/example/shapewright/shapewright/regex/CodePointSet$Builder" "length" "I" (.int (6 : Int32)) := FP29_2.keep Kq94 nin0
          have F99 : ownAI Z T94.heap ar_20 .int 16 (ownUpd (ownUpd (ownUpd (ownUpd (ownUpd (ownUpd (fun _ => (0 : Int32)) 0 f1) 1 l1) 2 f2) 3 l2) 4 f3) 5 l3) := FP29_3.keep Kq94 nin0
          refine ownRun (T' := T94) (f' := (mkF m 213 #[iv p0, iv p1, iv p2, iv p3, iv p4, iv p5, iv (1114112 : Int32), iv f1, iv l1, iv f2, iv l2, iv f3, iv l3, rv b8, rv b16, iv (1 : Int32), .unset, .unset, .unset, .unset, .unset, .unset, .unset, .unset] [(.ref b94)])) st94 ?_
          obtain ⟨cq100, kq100, q100a, q100b, q100c⟩ := isOf hZ rfl FP94_0
          obtain ⟨_, _, ⟨T100, L100, k100, n100⟩, -, X100, ⟨Lc100, hQ100, l100, y100, z100⟩, st100⟩ := X94.virtualBack hx (y := (⟨"com/example/shapewright/shapewright/regex/CodePointSet", "edges", "()[I"⟩ : MethodName)) (z := (⟨"com/example/shapewright/shapewright/regex/CodePointSet", "edges", "()[I"⟩ : MethodName)) hown (mvT hZ (ww 50 rfl)) (mvT hZ (ww 51 rfl)) (notFace_of_selects (args := #[]) (mvT hZ (ww 53 rfl))) (mvT hZ (ww 53 rfl)) (mvT hZ (ww 52 rfl)) (by decide) (backOf (W := 0) (rm_edges_6_e l Z av0 hw [] b94 ar2_94 (ownUpd (ownUpd (ownUpd (ownUpd (ownUpd (ownUpd (fun _ => (0 : Int32)) 0 f1) 1 l1) 2 f2) 3 l2) 4 f3) 5 l3) T94.heap n0 (Nat.le_trans Z0 K94.1) FP94_1 FP94_2 (own_lt_aa_0 hr hm2 hm3) (own_lt_aa_1 hr hm2 hm3) hmx) hZ (ww 54 rfl) (ww 32 rfl) (by decide) (by decide)) q100a q100c (g := (mkF m 213 #[iv p0, iv p1, iv p2, iv p3, iv p4, iv p5, iv (1114112 : Int32), iv f1, iv l1, iv f2, iv l2, iv f3, iv l3, rv b8, rv b16, iv (1 : Int32), .unset, .unset, .unset, .unset, .unset, .unset, .unset, .unset] [(.ref b94)])) rfl (by rw [hml]; rfl) (Steps.refl _) (argsL := []) (rest := []) (lenOf own_pd7 rfl) rfl (by show 2 * 0 + _ ≤ _; exact Nat.le_of_eq rfl) (hb hby at_213) (fun _ _ => ⟨rfl, rfl, (by decide : 5 + 2 ≤ _), (by decide : 31 + 11 ≤ _)⟩)
          dsimp only [Pt.U, Pt.locs, Pt.cells, Pt.slots] at X100 l100 y100 z100 st100 hQ100
          subst l100 y100 z100
          obtain ⟨b100, rfl, N100q, Kq100, sq100_b100, FP100_0⟩ := hQ100
          have N100 := Fr.app N94 N100q
          have K100 : Keep h0 T100.heap [] := K94.trans Kq100 all0
          have ne_b8_b100 : b8 ≠ b100 := Nat.ne_of_lt (Nat.lt_of_lt_of_le F95.lt sq100_b100)
          have ne_b16_b100 : b16 ≠ b100 := Nat.ne_of_lt (Nat.lt_of_lt_of_le F96.lt sq100_b100)
          have ne_ar_20_b100 : ar_20 ≠ b100 := Nat.ne_of_lt (Nat.lt_of_lt_of_le F99.lt sq100_b100)
          have ne_b94_b100 : b94 ≠ b100 := Nat.ne_of_lt (Nat.lt_of_lt_of_le FP94_0.lt sq100_b100)
          have ne_ar2_94_b100 : ar2_94 ≠ b100 := Nat.ne_of_lt (Nat.lt_of_lt_of_le FP94_2.lt sq100_b100)
          have sz_b100 : h0.size ≤ b100 := Nat.le_trans K94.1 sq100_b100
          have G_b100 : n0 ≤ b100 := Nat.le_trans Z0 sz_b100
          have F101 : ownAI Z T100.heap b8 .int 6 (ownUpd (ownUpd (ownUpd (ownUpd (ownUpd (ownUpd (fun _ => (0 : Int32)) 0 f1) 1 l1) 2 f2) 3 l2) 4 f3) 5 l3) := F95.keep Kq100 nin0
          have F102 : Exa Z T100.heap b16 "com/example/shapewright/shapewright/regex/CodePointSet$Builder" := F96.keep Kq100
          have F103 : Fld Z T100.heap b16 "com/example/shapewright/shapewright/regex/CodePointSet$Builder" "ranges" "[I" (.ref ar_20) := F97.keep Kq100 nin0
          have F104 : Fld Z T100.heap b16 "com/example/shapewright/shapewright/regex/CodePointSet$Builder" "length" "I" (.int (6 : Int32)) := F98.keep Kq100 nin0
          have F105 : ownAI Z T100.heap ar_20 .int 16 (ownUpd (ownUpd (ownUpd (ownUpd (ownUpd (ownUpd (fun _ => (0 : Int32)) 0 f1) 1 l1) 2 f2) 3 l2) 4 f3) 5 l3) := F99.keep Kq100 nin0
          have F106 : Exa Z T100.heap b94 "com/example/shapewright/shapewright/regex/CodePointSet" := FP94_0.keep Kq100
          have F107 : Fld Z T100.heap b94 "com/example/shapewright/shapewright/regex/CodePointSet" "ranges" "[I" (.ref ar2_94) := FP94_1.keep Kq100 nin0
          have F108 : ownAI Z T100.heap ar2_94 .int 6 (ownUpd (ownUpd (ownUpd (ownUpd (ownUpd (ownUpd (fun _ => (0 : Int32)) 0 f1) 1 l1) 2 f2) 3 l2) 4 f3) 5 l3) := FP94_2.keep Kq100 nin0
          refine ownRun (T' := T100) (f' := (mkF m 216 #[iv p0, iv p1, iv p2, iv p3, iv p4, iv p5, iv (1114112 : Int32), iv f1, iv l1, iv f2, iv l2, iv f3, iv l3, rv b8, rv b16, iv (1 : Int32), .unset, .unset, .unset, .unset, .unset, .unset, .unset, .unset] [(.ref b100)])) st100 ?_
          refine ow_astore (q := 218) X100 hx (L' := #[iv p0, iv p1, iv p2, iv p3, iv p4, iv p5, iv (1114112 : Int32), iv f1, iv l1, iv f2, iv l2, iv f3, iv l3, rv b8, rv b16, iv (1 : Int32), rv b100, .unset, .unset, .unset, .unset, .unset, .unset, .unset]) (hb hby at_216) rfl rfl rfl ?_
          refine ow_iload (q := 220) X100 hx (hb hby at_218) rfl rfl ?_
          refine ow_istore (q := 222) X100 hx (L' := #[iv p0, iv p1, iv p2, iv p3, iv p4, iv p5, iv (1114112 : Int32), iv f1, iv l1, iv f2, iv l2, iv f3, iv l3, rv b8, rv b16, iv (1 : Int32), rv b100, iv f1, .unset, .unset, .unset, .unset, .unset, .unset]) (hb hby at_220) rfl rfl ?_
          refine ow_iload (q := 224) X100 hx (hb hby at_222) rfl rfl ?_
          refine ow_iconst (q := 225) X100 hx (1 : Int32) (hb hby at_224) rfl rfl ?_
          refine ow_iadd (q := 226) X100 hx _ (hb hby at_225) rfl rfl ?_
          generalize hv_v109 : (l1 + (1 : Int32)) = v109
          refine ow_istore (q := 228) X100 hx (L' := #[iv p0, iv p1, iv p2, iv p3, iv p4, iv p5, iv (1114112 : Int32), iv f1, iv l1, iv f2, iv l2, iv f3, iv l3, rv b8, rv b16, iv (1 : Int32), rv b100, iv f1, iv v109, .unset, .unset, .unset, .unset, .unset]) (hb hby at_226) rfl rfl ?_
          refine ow_iload (q := 230) X100 hx (hb hby at_228) rfl rfl ?_
          refine ow_istore (q := 232) X100 hx (L' := #[iv p0, iv p1, iv p2, iv p3, iv p4, iv p5, iv (1114112 : Int32), iv f1, iv l1, iv f2, iv l2, iv f3, iv l3, rv b8, rv b16, iv (1 : Int32), rv b100, iv f1, iv v109, iv f2, .unset, .unset, .unset, .unset]) (hb hby at_230) rfl rfl ?_
          refine ow_iload (q := 234) X100 hx (hb hby at_232) rfl rfl ?_
          refine ow_iconst (q := 235) X100 hx (1 : Int32) (hb hby at_234) rfl rfl ?_
          refine ow_iadd (q := 236) X100 hx _ (hb hby at_235) rfl rfl ?_
          generalize hv_v110 : (l2 + (1 : Int32)) = v110
          refine ow_istore (q := 238) X100 hx (L' := #[iv p0, iv p1, iv p2, iv p3, iv p4, iv p5, iv (1114112 : Int32), iv f1, iv l1, iv f2, iv l2, iv f3, iv l3, rv b8, rv b16, iv (1 : Int32), rv b100, iv f1, iv v109, iv f2, iv v110, .unset, .unset, .unset]) (hb hby at_236) rfl rfl ?_
          refine ow_iload (q := 240) X100 hx (hb hby at_238) rfl rfl ?_
          refine ow_istore (q := 242) X100 hx (L' := #[iv p0, iv p1, iv p2, iv p3, iv p4, iv p5, iv (1114112 : Int32), iv f1, iv l1, iv f2, iv l2, iv f3, iv l3, rv b8, rv b16, iv (1 : Int32), rv b100, iv f1, iv v109, iv f2, iv v110, iv f3, .unset, .unset]) (hb hby at_240) rfl rfl ?_
          refine ow_iload (q := 244) X100 hx (hb hby at_242) rfl rfl ?_
          refine ow_iconst (q := 245) X100 hx (1 : Int32) (hb hby at_244) rfl rfl ?_
          refine ow_iadd (q := 246) X100 hx _ (hb hby at_245) rfl rfl ?_
          generalize hv_v111 : (l3 + (1 : Int32)) = v111
          refine ow_istore (q := 248) X100 hx (L' := #[iv p0, iv p1, iv p2, iv p3, iv p4, iv p5, iv (1114112 : Int32), iv f1, iv l1, iv f2, iv l2, iv f3, iv l3, rv b8, rv b16, iv (1 : Int32), rv b100, iv f1, iv v109, iv f2, iv v110, iv f3, iv v111, .unset]) (hb hby at_246) rfl rfl ?_
          refine ow_iconst (q := 249) X100 hx (0 : Int32) (hb hby at_248) rfl rfl ?_
          refine ow_istore (q := 251) X100 hx (L' := #[iv p0, iv p1, iv p2, iv p3, iv p4, iv p5, iv (1114112 : Int32), iv f1, iv l1, iv f2, iv l2, iv f3, iv l3, rv b8, rv b16, iv (1 : Int32), rv b100, iv f1, iv v109, iv f2, iv v110, iv f3, iv v111, iv (0 : Int32)]) (hb hby at_249) rfl rfl ?_
          have cut434_112 : ∀ (nk6 : Int32) (Tc112 : State) (lc112 : List Loc), Stand p l e room_1 s m #[(.int p0), (.int p1), (.int p2), (.int p3), (.int p4), (.int p5)] below meth c Tc112 lc112 7 42 → Tc112.heap = T100.heap → Fr n0 lc112 → (nk6.toInt = (own_s6 f1 l1 f2 l2 f3 l3 f1 v109 f2 v110 f3 v111) ∧ 0 ≤ nk6.toInt ∧ nk6.toInt ≤ ((6 : Nat) : Int)) → ownEnds p e below s (Q_law Z p0 p1 p2 p3 p4 p5 h0 n0) 24 192 Tc112 (mkF m 434 #[iv p0, iv p1, iv p2, iv p3, iv p4, iv p5, iv (1114112 : Int32), iv f1, iv l1, iv f2, iv l2, iv f3, iv l3, rv b8, rv b16, iv (1 : Int32), rv b100, iv f1, iv v109, iv f2, iv v110, iv f3, iv v111, iv nk6] []) := by
            intro nk6 Tc112 lc112 Xc112 ec112 Nc112 hn6
            refine ow_iload (q := 436) Xc112 hx (hb hby at_434) rfl rfl ?_
            refine ow_ifNo (q := 439) Xc112 hx (hb hby at_436) rfl (Jvm.Free.XT.i0_eq_f (by decide)) ?_
            refine ow_aload (q := 441) Xc112 hx (hb hby at_439) rfl rfl rfl ?_
            refine ownGo (T' := Tc112) (f' := (mkF m 442 #[iv p0, iv p1, iv p2, iv p3, iv p4, iv p5, iv (1114112 : Int32), iv f1, iv l1, iv f2, iv l2, iv f3, iv l3, rv b8, rv b16, iv (1 : Int32), rv b100, iv f1, iv v109, iv f2, iv v110, iv f3, iv v111, iv nk6] [(.int (5 : Int32))])) (ownLenI FP100_0 Xc112 hx hZ ec112 (z := (5 : Int32)) (by decide) (g := (mkF m 441 #[iv p0, iv p1, iv p2, iv p3, iv p4, iv p5, iv (1114112 : Int32), iv f1, iv l1, iv f2, iv l2, iv f3, iv l3, rv b8, rv b16, iv (1 : Int32), rv b100, iv f1, iv v109, iv f2, iv v110, iv f3, iv v111, iv nk6] [(.ref b100)])) rfl rfl (hb hby at_441)) ?_
            refine ow_iload (q := 444) Xc112 hx (hb hby at_442) rfl rfl ?_
            refine ow_icmpNo (q := 447) Xc112 hx (hb hby at_444) rfl (Jvm.Free.XT.ii_ne_f (own_len hn6 (own_total_aae hr hm2 hm3 hmx hv_v109 hv_v110 hv_v111))) ?_
            refine ow_aload (q := 449) Xc112 hx (hb hby at_447) rfl rfl rfl ?_
            refine ow_iconst (q := 450) Xc112 hx (0 : Int32) (hb hby at_449) rfl rfl ?_
            refine ow_aload (q := 452) Xc112 hx (hb hby at_450) rfl rfl rfl ?_
            obtain ⟨_, _, ⟨T113, L113, k113, n113⟩, -, X113, ⟨Lc113, hQ113, l113, y113, z113⟩, st113⟩ := Jvm.LawKit.callS Xc112 hx (y := (⟨"com/example/shapewright/shapewright/regex/BuilderAddPinLaw", "okAt", "([II[I)Z"⟩ : MethodName)) hown (mvT hZ (ww 74 rfl)) (mvT hZ (ww 75 rfl)) (mvT hZ (ww 68 rfl)) (mvT hZ (ww 76 rfl)) (by decide) (backOf (W := 0) (rm_okC l Z av0 hw [] b100 (0 : Int32) b8 5 (5 : Int32) (ownUpd (ownUpd (ownUpd (ownUpd (ownUpd (fun _ => (0 : Int32)) 0 f1) 1 (l1 + (1 : Int32))) 2 f2) 3 (l2 + (1 : Int32))) 4 f3) (ownUpd (ownUpd (ownUpd (ownUpd (ownUpd (ownUpd (fun _ => (0 : Int32)) 0 f1) 1 l1) 2 f2) 3 l2) 4 f3) 5 l3) T100.heap n0 (Nat.le_trans Z0 K100.1) FP100_0 F101 (by decide) (by decide) (by unfold ownIn; decide) (by decide) (by unfold ownIn; decide)) hZ (ww 76 rfl) (ww 68 rfl) (by decide) (by decide)) (g := (mkF m 452 #[iv p0, iv p1, iv p2, iv p3, iv p4, iv p5, iv (1114112 : Int32), iv f1, iv l1, iv f2, iv l2, iv f3, iv l3, rv b8, rv b16, iv (1 : Int32), rv b100, iv f1, iv v109, iv f2, iv v110, iv f3, iv v111, iv nk6] [(.ref b8), (.int (0 : Int32)), (.ref b100)])) rfl (by rw [hml]; rfl) (argsL := [(.ref b100), (.int (0 : Int32)), (.ref b8)]) (rest := []) (lenOf own_pd8 rfl) rfl (by show 2 * 0 + _ ≤ _; exact Nat.le_of_eq rfl) (hb hby at_452) (fun _ _ => ⟨rfl, ec112, (by decide : 7 + 0 ≤ _), (by decide : 42 + 0 ≤ _)⟩)
            dsimp only [Pt.U, Pt.locs, Pt.cells, Pt.slots] at X113 l113 y113 z113 st113 hQ113
            subst l113 y113 z113
            obtain ⟨rfl, N113q, e113⟩ := hQ113
            have N113 := Fr.app Nc112 N113q
            refine ownGo (T' := T113) (f' := (mkF m 455 #[iv p0, iv p1, iv p2, iv p3, iv p4, iv p5, iv (1114112 : Int32), iv f1, iv l1, iv f2, iv l2, iv f3, iv l3, rv b8, rv b16, iv (1 : Int32), rv b100, iv f1, iv v109, iv f2, iv v110, iv f3, iv v111, iv nk6] [(.int (if (own_ch f1 l1 f2 l2 f3 l3 f1) = (0 : Int32) then (0 : Int32) else if f1 < (l1 + (1 : Int32)) then (1 : Int32) else (0 : Int32)))])) (st113) ?_
            refine ow_ifNo (q := 458) X113 hx (hb hby at_455) rfl (Jvm.Free.XT.i0_eq_f (own_ok_aae_0 hr hm2 hm3 hmx)) ?_
            refine ow_aload (q := 460) X113 hx (hb hby at_458) rfl rfl rfl ?_
            refine ow_iconst (q := 461) X113 hx (1 : Int32) (hb hby at_460) rfl rfl ?_
            refine ow_aload (q := 463) X113 hx (hb hby at_461) rfl rfl rfl ?_
            obtain ⟨_, _, ⟨T114, L114, k114, n114⟩, -, X114, ⟨Lc114, hQ114, l114, y114, z114⟩, st114⟩ := Jvm.LawKit.callS X113 hx (y := (⟨"com/example/shapewright/shapewright/regex/BuilderAddPinLaw", "okAt", "([II[I)Z"⟩ : MethodName)) hown (mvT hZ (ww 74 rfl)) (mvT hZ (ww 75 rfl)) (mvT hZ (ww 68 rfl)) (mvT hZ (ww 76 rfl)) (by decide) (backOf (W := 0) (rm_okC l Z av0 hw [] b100 (1 : Int32) b8 5 (5 : Int32) (ownUpd (ownUpd (ownUpd (ownUpd (ownUpd (fun _ => (0 : Int32)) 0 f1) 1 (l1 + (1 : Int32))) 2 f2) 3 (l2 + (1 : Int32))) 4 f3) (ownUpd (ownUpd (ownUpd (ownUpd (ownUpd (ownUpd (fun _ => (0 : Int32)) 0 f1) 1 l1) 2 f2) 3 l2) 4 f3) 5 l3) T100.heap n0 (Nat.le_trans Z0 K100.1) FP100_0 F101 (by decide) (by decide) (by unfold ownIn; decide) (by decide) (by unfold ownIn; decide)) hZ (ww 76 rfl) (ww 68 rfl) (by decide) (by decide)) (g := (mkF m 463 #[iv p0, iv p1, iv p2, iv p3, iv p4, iv p5, iv (1114112 : Int32), iv f1, iv l1, iv f2, iv l2, iv f3, iv l3, rv b8, rv b16, iv (1 : Int32), rv b100, iv f1, iv v109, iv f2, iv v110, iv f3, iv v111, iv nk6] [(.ref b8), (.int (1 : Int32)), (.ref b100)])) rfl (by rw [hml]; rfl) (argsL := [(.ref b100), (.int (1 : Int32)), (.ref b8)]) (rest := []) (lenOf own_pd8 rfl) rfl (by show 2 * 0 + _ ≤ _; exact Nat.le_of_eq rfl) (hb hby at_463) (fun _ _ => ⟨rfl, e113, (by decide : 7 + 0 ≤ _), (by decide : 42 + 0 ≤ _)⟩)
            dsimp only [Pt.U, Pt.locs, Pt.cells, Pt.slots] at X114 l114 y114 z114 st114 hQ114
            subst l114 y114 z114
            obtain ⟨rfl, N114q, e114⟩ := hQ114
            have N114 := Fr.app N113 N114q
            refine ownGo (T' := T114) (f' := (mkF m 466 #[iv p0, iv p1, iv p2, iv p3, iv p4, iv p5, iv (1114112 : Int32), iv f1, iv l1, iv f2, iv l2, iv f3, iv l3, rv b8, rv b16, iv (1 : Int32), rv b100, iv f1, iv v109, iv f2, iv v110, iv f3, iv v111, iv nk6] [(.int (if (own_ch f1 l1 f2 l2 f3 l3 (l1 + (1 : Int32))) = (0 : Int32) then (0 : Int32) else if (l1 + (1 : Int32)) < f2 then (1 : Int32) else (0 : Int32)))])) (st114) ?_
            refine ow_ifNo (q := 469) X114 hx (hb hby at_466) rfl (Jvm.Free.XT.i0_eq_f (own_ok_aae_1 hr hm2 hm3 hmx)) ?_
            refine ow_aload (q := 471) X114 hx (hb hby at_469) rfl rfl rfl ?_
            refine ow_iconst (q := 472) X114 hx (2 : Int32) (hb hby at_471) rfl rfl ?_
            refine ow_aload (q := 474) X114 hx (hb hby at_472) rfl rfl rfl ?_
            obtain ⟨_, _, ⟨T115, L115, k115, n115⟩, -, X115, ⟨Lc115, hQ115, l115, y115, z115⟩, st115⟩ := Jvm.LawKit.callS X114 hx (y := (⟨"com/example/shapewright/shapewright/regex/BuilderAddPinLaw", "okAt", "([II[I)Z"⟩ : MethodName)) hown (mvT hZ (ww 74 rfl)) (mvT hZ (ww 75 rfl)) (mvT hZ (ww 68 rfl)) (mvT hZ (ww 76 rfl)) (by decide) (backOf (W := 0) (rm_okC l Z av0 hw [] b100 (2 : Int32) b8 5 (5 : Int32) (ownUpd (ownUpd (ownUpd (ownUpd (ownUpd (fun _ => (0 : Int32)) 0 f1) 1 (l1 + (1 : Int32))) 2 f2) 3 (l2 + (1 : Int32))) 4 f3) (ownUpd (ownUpd (ownUpd (ownUpd (ownUpd (ownUpd (fun _ => (0 : Int32)) 0 f1) 1 l1) 2 f2) 3 l2) 4 f3) 5 l3) T100.heap n0 (Nat.le_trans Z0 K100.1) FP100_0 F101 (by decide) (by decide) (by unfold ownIn; decide) (by decide) (by unfold ownIn; decide)) hZ (ww 76 rfl) (ww 68 rfl) (by decide) (by decide)) (g := (mkF m 474 #[iv p0, iv p1, iv p2, iv p3, iv p4, iv p5, iv (1114112 : Int32), iv f1, iv l1, iv f2, iv l2, iv f3, iv l3, rv b8, rv b16, iv (1 : Int32), rv b100, iv f1, iv v109, iv f2, iv v110, iv f3, iv v111, iv nk6] [(.ref b8), (.int (2 : Int32)), (.ref b100)])) rfl (by rw [hml]; rfl) (argsL := [(.ref b100), (.int (2 : Int32)), (.ref b8)]) (rest := []) (lenOf own_pd8 rfl) rfl (by show 2 * 0 + _ ≤ _; exact Nat.le_of_eq rfl) (hb hby at_474) (fun _ _ => ⟨rfl, e114, (by decide : 7 + 0 ≤ _), (by decide : 42 + 0 ≤ _)⟩)
            dsimp only [Pt.U, Pt.locs, Pt.cells, Pt.slots] at X115 l115 y115 z115 st115 hQ115
            subst l115 y115 z115
            obtain ⟨rfl, N115q, e115⟩ := hQ115
            have N115 := Fr.app N114 N115q
            refine ownGo (T' := T115) (f' := (mkF m 477 #[iv p0, iv p1, iv p2, iv p3, iv p4, iv p5, iv (1114112 : Int32), iv f1, iv l1, iv f2, iv l2, iv f3, iv l3, rv b8, rv b16, iv (1 : Int32), rv b100, iv f1, iv v109, iv f2, iv v110, iv f3, iv v111, iv nk6] [(.int (if (own_ch f1 l1 f2 l2 f3 l3 f2) = (0 : Int32) then (0 : Int32) else if f2 < (l2 + (1 : Int32)) then (1 : Int32) else (0 : Int32)))])) (st115) ?_
            refine ow_ifNo (q := 480) X115 hx (hb hby at_477) rfl (Jvm.Free.XT.i0_eq_f (own_ok_aae_2 hr hm2 hm3 hmx)) ?_
            refine ow_aload (q := 482) X115 hx (hb hby at_480) rfl rfl rfl ?_
            refine ow_iconst (q := 483) X115 hx (3 : Int32) (hb hby at_482) rfl rfl ?_
            refine ow_aload (q := 485) X115 hx (hb hby at_483) rfl rfl rfl ?_
            obtain ⟨_, _, ⟨T116, L116, k116, n116⟩, -, X116, ⟨Lc116, hQ116, l116, y116, z116⟩, st116⟩ := Jvm.LawKit.callS X115 hx (y := (⟨"com/example/shapewright/shapewright/regex/BuilderAddPinLaw", "okAt", "([II[I)Z"⟩ : MethodName)) hown (mvT hZ (ww 74 rfl)) (mvT hZ (ww 75 rfl)) (mvT hZ (ww 68 rfl)) (mvT hZ (ww 76 rfl)) (by decide) (backOf (W := 0) (rm_okC l Z av0 hw [] b100 (3 : Int32) b8 5 (5 : Int32) (ownUpd (ownUpd (ownUpd (ownUpd (ownUpd (fun _ => (0 : Int32)) 0 f1) 1 (l1 + (1 : Int32))) 2 f2) 3 (l2 + (1 : Int32))) 4 f3) (ownUpd (ownUpd (ownUpd (ownUpd (ownUpd (ownUpd (fun _ => (0 : Int32)) 0 f1) 1 l1) 2 f2) 3 l2) 4 f3) 5 l3) T100.heap n0 (Nat.le_trans Z0 K100.1) FP100_0 F101 (by decide) (by decide) (by unfold ownIn; decide) (by decide) (by unfold ownIn; decide)) hZ (ww 76 rfl) (ww 68 rfl) (by decide) (by decide)) (g := (mkF m 485 #[iv p0, iv p1, iv p2, iv p3, iv p4, iv p5, iv (1114112 : Int32), iv f1, iv l1, iv f2, iv l2, iv f3, iv l3, rv b8, rv b16, iv (1 : Int32), rv b100, iv f1, iv v109, iv f2, iv v110, iv f3, iv v111, iv nk6] [(.ref b8), (.int (3 : Int32)), (.ref b100)])) rfl (by rw [hml]; rfl) (argsL := [(.ref b100), (.int (3 : Int32)), (.ref b8)]) (rest := []) (lenOf own_pd8 rfl) rfl (by show 2 * 0 + _ ≤ _; exact Nat.le_of_eq rfl) (hb hby at_485) (fun _ _ => ⟨rfl, e115, (by decide : 7 + 0 ≤ _), (by decide : 42 + 0 ≤ _)⟩)
            dsimp only [Pt.U, Pt.locs, Pt.cells, Pt.slots] at X116 l116 y116 z116 st116 hQ116
            subst l116 y116 z116
            obtain ⟨rfl, N116q, e116⟩ := hQ116
            have N116 := Fr.app N115 N116q
            refine ownGo (T' := T116) (f' := (mkF m 488 #[iv p0, iv p1, iv p2, iv p3, iv p4, iv p5, iv (1114112 : Int32), iv f1, iv l1, iv f2, iv l2, iv f3, iv l3, rv b8, rv b16, iv (1 : Int32), rv b100, iv f1, iv v109, iv f2, iv v110, iv f3, iv v111, iv nk6] [(.int (if (own_ch f1 l1 f2 l2 f3 l3 (l2 + (1 : Int32))) = (0 : Int32) then (0 : Int32) else if (l2 + (1 : Int32)) < f3 then (1 : Int32) else (0 : Int32)))])) (st116) ?_
            refine ow_ifNo (q := 491) X116 hx (hb hby at_488) rfl (Jvm.Free.XT.i0_eq_f (own_ok_aae_3 hr hm2 hm3 hmx)) ?_
            refine ow_aload (q := 493) X116 hx (hb hby at_491) rfl rfl rfl ?_
            refine ow_iconst (q := 494) X116 hx (4 : Int32) (hb hby at_493) rfl rfl ?_
            refine ow_aload (q := 496) X116 hx (hb hby at_494) rfl rfl rfl ?_
            obtain ⟨_, _, ⟨T117, L117, k117, n117⟩, -, X117, ⟨Lc117, hQ117, l117, y117, z117⟩, st117⟩ := Jvm.LawKit.callS X116 hx (y := (⟨"com/example/shapewright/shapewright/regex/BuilderAddPinLaw", "okAt", "([II[I)Z"⟩ : MethodName)) hown (mvT hZ (ww 74 rfl)) (mvT hZ (ww 75 rfl)) (mvT hZ (ww 68 rfl)) (mvT hZ (ww 76 rfl)) (by decide) (backOf (W := 0) (rm_okB l Z av0 hw [] b100 (4 : Int32) b8 5 (5 : Int32) (ownUpd (ownUpd (ownUpd (ownUpd (ownUpd (fun _ => (0 : Int32)) 0 f1) 1 (l1 + (1 : Int32))) 2 f2) 3 (l2 + (1 : Int32))) 4 f3) (ownUpd (ownUpd (ownUpd (ownUpd (ownUpd (ownUpd (fun _ => (0 : Int32)) 0 f1) 1 l1) 2 f2) 3 l2) 4 f3) 5 l3) T100.heap n0 (Nat.le_trans Z0 K100.1) FP100_0 F101 (by decide) (by decide) (by unfold ownIn; decide) (by decide)) hZ (ww 76 rfl) (ww 68 rfl) (by decide) (by decide)) (g := (mkF m 496 #[iv p0, iv p1, iv p2, iv p3, iv p4, iv p5, iv (1114112 : Int32), iv f1, iv l1, iv f2, iv l2, iv f3, iv l3, rv b8, rv b16, iv (1 : Int32), rv b100, iv f1, iv v109, iv f2, iv v110, iv f3, iv v111, iv nk6] [(.ref b8), (.int (4 : Int32)), (.ref b100)])) rfl (by rw [hml]; rfl) (argsL := [(.ref b100), (.int (4 : Int32)), (.ref b8)]) (rest := []) (lenOf own_pd8 rfl) rfl (by show 2 * 0 + _ ≤ _; exact Nat.le_of_eq rfl) (hb hby at_496) (fun _ _ => ⟨rfl, e116, (by decide : 7 + 0 ≤ _), (by decide : 42 + 0 ≤ _)⟩)
            dsimp only [Pt.U, Pt.locs, Pt.cells, Pt.slots] at X117 l117 y117 z117 st117 hQ117
            subst l117 y117 z117
            obtain ⟨rfl, N117q, e117⟩ := hQ117
            have N117 := Fr.app N116 N117q
            refine ownGo (T' := T117) (f' := (mkF m 499 #[iv p0, iv p1, iv p2, iv p3, iv p4, iv p5, iv (1114112 : Int32), iv f1, iv l1, iv f2, iv l2, iv f3, iv l3, rv b8, rv b16, iv (1 : Int32), rv b100, iv f1, iv v109, iv f2, iv v110, iv f3, iv v111, iv nk6] [(.int (if (own_ch f1 l1 f2 l2 f3 l3 f3) = (0 : Int32) then (0 : Int32) else (1 : Int32)))])) (st117) ?_
            refine ow_ifNo (q := 502) X117 hx (hb hby at_499) rfl (Jvm.Free.XT.i0_eq_f (own_ok_aae_4 hr hm2 hm3 hmx)) ?_
            refine ow_aload (q := 504) X117 hx (hb hby at_502) rfl rfl rfl ?_
            refine ow_iconst (q := 505) X117 hx (5 : Int32) (hb hby at_504) rfl rfl ?_
            refine ow_aload (q := 507) X117 hx (hb hby at_505) rfl rfl rfl ?_
            obtain ⟨_, _, ⟨T118, L118, k118, n118⟩, -, X118, ⟨Lc118, hQ118, l118, y118, z118⟩, st118⟩ := Jvm.LawKit.callS X117 hx (y := (⟨"com/example/shapewright/shapewright/regex/BuilderAddPinLaw", "okAt", "([II[I)Z"⟩ : MethodName)) hown (mvT hZ (ww 74 rfl)) (mvT hZ (ww 75 rfl)) (mvT hZ (ww 68 rfl)) (mvT hZ (ww 76 rfl)) (by decide) (backOf (W := 0) (rm_okA l Z av0 hw [] b100 (5 : Int32) b8 5 (5 : Int32) (ownUpd (ownUpd (ownUpd (ownUpd (ownUpd (fun _ => (0 : Int32)) 0 f1) 1 (l1 + (1 : Int32))) 2 f2) 3 (l2 + (1 : Int32))) 4 f3) (ownUpd (ownUpd (ownUpd (ownUpd (ownUpd (ownUpd (fun _ => (0 : Int32)) 0 f1) 1 l1) 2 f2) 3 l2) 4 f3) 5 l3) T100.heap n0 (Nat.le_trans Z0 K100.1) FP100_0 F101 (by decide) (by decide)) hZ (ww 76 rfl) (ww 68 rfl) (by decide) (by decide)) (g := (mkF m 507 #[iv p0, iv p1, iv p2, iv p3, iv p4, iv p5, iv (1114112 : Int32), iv f1, iv l1, iv f2, iv l2, iv f3, iv l3, rv b8, rv b16, iv (1 : Int32), rv b100, iv f1, iv v109, iv f2, iv v110, iv f3, iv v111, iv nk6] [(.ref b8), (.int (5 : Int32)), (.ref b100)])) rfl (by rw [hml]; rfl) (argsL := [(.ref b100), (.int (5 : Int32)), (.ref b8)]) (rest := []) (lenOf own_pd8 rfl) rfl (by show 2 * 0 + _ ≤ _; exact Nat.le_of_eq rfl) (hb hby at_507) (fun _ _ => ⟨rfl, e117, (by decide : 7 + 0 ≤ _), (by decide : 42 + 0 ≤ _)⟩)
            dsimp only [Pt.U, Pt.locs, Pt.cells, Pt.slots] at X118 l118 y118 z118 st118 hQ118
            subst l118 y118 z118
            obtain ⟨rfl, N118q, e118⟩ := hQ118
            have N118 := Fr.app N117 N118q
            refine ownGo (T' := T118) (f' := (mkF m 510 #[iv p0, iv p1, iv p2, iv p3, iv p4, iv p5, iv (1114112 : Int32), iv f1, iv l1, iv f2, iv l2, iv f3, iv l3, rv b8, rv b16, iv (1 : Int32), rv b100, iv f1, iv v109, iv f2, iv v110, iv f3, iv v111, iv nk6] [(.int (1 : Int32))])) (st118) ?_
            refine ow_ifNo (q := 513) X118 hx (hb hby at_510) rfl (Jvm.Free.XT.i0_eq_f (by decide)) ?_
            refine ow_iconst (q := 514) X118 hx (1 : Int32) (hb hby at_513) rfl rfl ?_
            refine ow_goto (q := 518) X118 hx (hb hby at_514) (by decide) (by decide) ?_
            refine ownRetN X118 hx (r := (1 : Int32)) (Or.inl rfl) Bd.returns (hb hby at_518) hlk (by decide) (by decide) (by decide) ?_
            exact ⟨rfl, N118⟩
          have cut386_119 : ∀ (nk5 : Int32) (Tc119 : State) (lc119 : List Loc), Stand p l e room_1 s m #[(.int p0), (.int p1), (.int p2), (.int p3), (.int p4), (.int p5)] below meth c Tc119 lc119 7 42 → Tc119.heap = T100.heap → Fr n0 lc119 → (nk5.toInt = (own_s5 f1 l1 f2 l2 f3 l3 f1 v109 f2 v110 f3) ∧ 0 ≤ nk5.toInt ∧ nk5.toInt ≤ ((5 : Nat) : Int)) → ownEnds p e below s (Q_law Z p0 p1 p2 p3 p4 p5 h0 n0) 24 192 Tc119 (mkF m 386 #[iv p0, iv p1, iv p2, iv p3, iv p4, iv p5, iv (1114112 : Int32), iv f1, iv l1, iv f2, iv l2, iv f3, iv l3, rv b8, rv b16, iv (1 : Int32), rv b100, iv f1, iv v109, iv f2, iv v110, iv f3, iv v111, iv nk5] []) := by
            intro nk5 Tc119 lc119 Xc119 ec119 Nc119 hn5
            refine ow_aload (q := 388) Xc119 hx (hb hby at_386) rfl rfl rfl ?_
            refine ow_iload (q := 390) Xc119 hx (hb hby at_388) rfl rfl ?_
            obtain ⟨_, _, ⟨T120, L120, k120, n120⟩, -, X120, ⟨Lc120, hQ120, l120, y120, z120⟩, st120⟩ := Jvm.LawKit.callS Xc119 hx (y := (⟨"com/example/shapewright/shapewright/regex/BuilderAddPinLaw", "ch", "([II)Z"⟩ : MethodName)) hown (mvT hZ (ww 66 rfl)) (mvT hZ (ww 67 rfl)) (mvT hZ (ww 68 rfl)) (mvT hZ (ww 69 rfl)) (by decide) (backOf (W := 0) (rm_ch l Z av0 hw [] b8 v111 (ownUpd (ownUpd (ownUpd (ownUpd (ownUpd (ownUpd (fun _ => (0 : Int32)) 0 f1) 1 l1) 2 f2) 3 l2) 4 f3) 5 l3) T100.heap n0 (Nat.le_trans Z0 K100.1) F101) hZ (ww 69 rfl) (ww 68 rfl) (by decide) (by decide)) (g := (mkF m 390 #[iv p0, iv p1, iv p2, iv p3, iv p4, iv p5, iv (1114112 : Int32), iv f1, iv l1, iv f2, iv l2, iv f3, iv l3, rv b8, rv b16, iv (1 : Int32), rv b100, iv f1, iv v109, iv f2, iv v110, iv f3, iv v111, iv nk5] [(.int v111), (.ref b8)])) rfl (by rw [hml]; rfl) (argsL := [(.ref b8), (.int v111)]) (rest := []) (lenOf own_pd3 rfl) rfl (by show 2 * 0 + _ ≤ _; exact Nat.le_of_eq rfl) (hb hby at_390) (fun _ _ => ⟨rfl, ec119, (by decide : 7 + 0 ≤ _), (by decide : 42 + 0 ≤ _)⟩)
            dsimp only [Pt.U, Pt.locs, Pt.cells, Pt.slots] at X120 l120 y120 z120 st120 hQ120
            subst l120 y120 z120
            obtain ⟨rfl, N120q, e120⟩ := hQ120
            have N120 := Fr.app Nc119 N120q
            refine ownGo (T' := T120) (f' := (mkF m 393 #[iv p0, iv p1, iv p2, iv p3, iv p4, iv p5, iv (1114112 : Int32), iv f1, iv l1, iv f2, iv l2, iv f3, iv l3, rv b8, rv b16, iv (1 : Int32), rv b100, iv f1, iv v109, iv f2, iv v110, iv f3, iv v111, iv nk5] [(.int (own_ch f1 l1 f2 l2 f3 l3 v111))])) (st120) ?_
            by_cases hc393_121 : (own_ch f1 l1 f2 l2 f3 l3 v111) = (0 : Int32)
            · refine ow_ifYes (q := 434) X120 hx (hb hby at_393) (Jvm.Free.XT.i0_eq_t hc393_121) (by decide) (by decide) ?_
              exact cut434_112 nk5 _ _ X120 e120 N120 (own_nk0 (k := 5) hn5 (by simp [hc393_121]))
            · refine ow_ifNo (q := 396) X120 hx (hb hby at_393) rfl (Jvm.Free.XT.i0_eq_f hc393_121) ?_
              refine ow_iload (q := 398) X120 hx (hb hby at_396) rfl rfl ?_
              refine ow_iload (q := 400) X120 hx (hb hby at_398) rfl rfl ?_
              by_cases hc400_122 : v111 = f1
              · refine ow_icmpYes (q := 434) X120 hx (hb hby at_400) (Jvm.Free.XT.ii_eq_t hc400_122) (by decide) (by decide) ?_
                exact cut434_112 nk5 _ _ X120 e120 N120 (own_nk0 (k := 5) hn5 (Or.inr (by simp [hc400_122])))
              · refine ow_icmpNo (q := 403) X120 hx (hb hby at_400) rfl (Jvm.Free.XT.ii_eq_f hc400_122) ?_
                refine ow_iload (q := 405) X120 hx (hb hby at_403) rfl rfl ?_
                refine ow_iload (q := 407) X120 hx (hb hby at_405) rfl rfl ?_
                by_cases hc407_123 : v111 = v109
                · refine ow_icmpYes (q := 434) X120 hx (hb hby at_407) (Jvm.Free.XT.ii_eq_t hc407_123) (by decide) (by decide) ?_
                  exact cut434_112 nk5 _ _ X120 e120 N120 (own_nk0 (k := 5) hn5 (Or.inr (by simp [hc407_123])))
                · refine ow_icmpNo (q := 410) X120 hx (hb hby at_407) rfl (Jvm.Free.XT.ii_eq_f hc407_123) ?_
                  refine ow_iload (q := 412) X120 hx (hb hby at_410) rfl rfl ?_
                  refine ow_iload (q := 414) X120 hx (hb hby at_412) rfl rfl ?_
                  by_cases hc414_124 : v111 = f2
                  · refine ow_icmpYes (q := 434) X120 hx (hb hby at_414) (Jvm.Free.XT.ii_eq_t hc414_124) (by decide) (by decide) ?_
                    exact cut434_112 nk5 _ _ X120 e120 N120 (own_nk0 (k := 5) hn5 (Or.inr (by simp [hc414_124])))
                  · refine ow_icmpNo (q := 417) X120 hx (hb hby at_414) rfl (Jvm.Free.XT.ii_eq_f hc414_124) ?_
                    refine ow_iload (q := 419) X120 hx (hb hby at_417) rfl rfl ?_
                    refine ow_iload (q := 421) X120 hx (hb hby at_419) rfl rfl ?_
                    by_cases hc421_125 : v111 = v110
                    · refine ow_icmpYes (q := 434) X120 hx (hb hby at_421) (Jvm.Free.XT.ii_eq_t hc421_125) (by decide) (by decide) ?_
                      exact cut434_112 nk5 _ _ X120 e120 N120 (own_nk0 (k := 5) hn5 (Or.inr (by simp [hc421_125])))
                    · refine ow_icmpNo (q := 424) X120 hx (hb hby at_421) rfl (Jvm.Free.XT.ii_eq_f hc421_125) ?_
                      refine ow_iload (q := 426) X120 hx (hb hby at_424) rfl rfl ?_
                      refine ow_iload (q := 428) X120 hx (hb hby at_426) rfl rfl ?_
                      by_cases hc428_126 : v111 = f3
                      · refine ow_icmpYes (q := 434) X120 hx (hb hby at_428) (Jvm.Free.XT.ii_eq_t hc428_126) (by decide) (by decide) ?_
                        exact cut434_112 nk5 _ _ X120 e120 N120 (own_nk0 (k := 5) hn5 (Or.inr (by simp [hc428_126])))
                      · refine ow_icmpNo (q := 431) X120 hx (hb hby at_428) rfl (Jvm.Free.XT.ii_eq_f hc428_126) ?_
                        refine ow_iinc (q := 434) X120 hx (L' := #[iv p0, iv p1, iv p2, iv p3, iv p4, iv p5, iv (1114112 : Int32), iv f1, iv l1, iv f2, iv l2, iv f3, iv l3, rv b8, rv b16, iv (1 : Int32), rv b100, iv f1, iv v109, iv f2, iv v110, iv f3, iv v111, iv (nk5 + (1 : Int32))]) (hb hby at_431) rfl rfl rfl ?_
                        generalize hv_v127 : (nk5 + (1 : Int32)) = v127
                        exact cut434_112 v127 _ _ X120 e120 N120 (own_nk1 (k := 5) hn5 hv_v127 (by simp [hc393_121, hc400_122, hc407_123, hc414_124, hc421_125, hc428_126]))
          have cut345_128 : ∀ (nk4 : Int32) (Tc128 : State) (lc128 : List Loc), Stand p l e room_1 s m #[(.int p0), (.int p1), (.int p2), (.int p3), (.int p4), (.int p5)] below meth c Tc128 lc128 7 42 → Tc128.heap = T100.heap → Fr n0 lc128 → (nk4.toInt = (own_s4 f1 l1 f2 l2 f3 l3 f1 v109 f2 v110) ∧ 0 ≤ nk4.toInt ∧ nk4.toInt ≤ ((4 : Nat) : Int)) → ownEnds p e below s (Q_law Z p0 p1 p2 p3 p4 p5 h0 n0) 24 192 Tc128 (mkF m 345 #[iv p0, iv p1, iv p2, iv p3, iv p4, iv p5, iv (1114112 : Int32), iv f1, iv l1, iv f2, iv l2, iv f3, iv l3, rv b8, rv b16, iv (1 : Int32), rv b100, iv f1, iv v109, iv f2, iv v110, iv f3, iv v111, iv nk4] []) := by
            intro nk4 Tc128 lc128 Xc128 ec128 Nc128 hn4
            refine ow_aload (q := 347) Xc128 hx (hb hby at_345) rfl rfl rfl ?_
            refine ow_iload (q := 349) Xc128 hx (hb hby at_347) rfl rfl ?_
            obtain ⟨_, _, ⟨T129, L129, k129, n129⟩, -, X129, ⟨Lc129, hQ129, l129, y129, z129⟩, st129⟩ := Jvm.LawKit.callS Xc128 hx (y := (⟨"com/example/shapewright/shapewright/regex/BuilderAddPinLaw", "ch", "([II)Z"⟩ : MethodName)) hown (mvT hZ (ww 66 rfl)) (mvT hZ (ww 67 rfl)) (mvT hZ (ww 68 rfl)) (mvT hZ (ww 69 rfl)) (by decide) (backOf (W := 0) (rm_ch l Z av0 hw [] b8 f3 (ownUpd (ownUpd (ownUpd (ownUpd (ownUpd (ownUpd (fun _ => (0 : Int32)) 0 f1) 1 l1) 2 f2) 3 l2) 4 f3) 5 l3) T100.heap n0 (Nat.le_trans Z0 K100.1) F101) hZ (ww 69 rfl) (ww 68 rfl) (by decide) (by decide)) (g := (mkF m 349 #[iv p0, iv p1, iv p2, iv p3, iv p4, iv p5, iv (1114112 : Int32), iv f1, iv l1, iv f2, iv l2, iv f3, iv l3, rv b8, rv b16, iv (1 : Int32), rv b100, iv f1, iv v109, iv f2, iv v110, iv f3, iv v111, iv nk4] [(.int f3), (.ref b8)])) rfl (by rw [hml]; rfl) (argsL := [(.ref b8), (.int f3)]) (rest := []) (lenOf own_pd3 rfl) rfl (by show 2 * 0 + _ ≤ _; exact Nat.le_of_eq rfl) (hb hby at_349) (fun _ _ => ⟨rfl, ec128, (by decide : 7 + 0 ≤ _), (by decide : 42 + 0 ≤ _)⟩)
            dsimp only [Pt.U, Pt.locs, Pt.cells, Pt.slots] at X129 l129 y129 z129 st129 hQ129
            subst l129 y129 z129
            obtain ⟨rfl, N129q, e129⟩ := hQ129
            have N129 := Fr.app Nc128 N129q
            refine ownGo (T' := T129) (f' := (mkF m 352 #[iv p0, iv p1, iv p2, iv p3, iv p4, iv p5, iv (1114112 : Int32), iv f1, iv l1, iv f2, iv l2, iv f3, iv l3, rv b8, rv b16, iv (1 : Int32), rv b100, iv f1, iv v109, iv f2, iv v110, iv f3, iv v111, iv nk4] [(.int (own_ch f1 l1 f2 l2 f3 l3 f3))])) (st129) ?_
            by_cases hc352_130 : (own_ch f1 l1 f2 l2 f3 l3 f3) = (0 : Int32)
            · refine ow_ifYes (q := 386) X129 hx (hb hby at_352) (Jvm.Free.XT.i0_eq_t hc352_130) (by decide) (by decide) ?_
              exact cut386_119 nk4 _ _ X129 e129 N129 (own_nk0 (k := 4) hn4 (by simp [hc352_130]))
            · refine ow_ifNo (q := 355) X129 hx (hb hby at_352) rfl (Jvm.Free.XT.i0_eq_f hc352_130) ?_
              refine ow_iload (q := 357) X129 hx (hb hby at_355) rfl rfl ?_
              refine ow_iload (q := 359) X129 hx (hb hby at_357) rfl rfl ?_
              by_cases hc359_131 : f3 = f1
              · refine ow_icmpYes (q := 386) X129 hx (hb hby at_359) (Jvm.Free.XT.ii_eq_t hc359_131) (by decide) (by decide) ?_
                exact cut386_119 nk4 _ _ X129 e129 N129 (own_nk0 (k := 4) hn4 (Or.inr (by simp [hc359_131])))
              · refine ow_icmpNo (q := 362) X129 hx (hb hby at_359) rfl (Jvm.Free.XT.ii_eq_f hc359_131) ?_
                refine ow_iload (q := 364) X129 hx (hb hby at_362) rfl rfl ?_
                refine ow_iload (q := 366) X129 hx (hb hby at_364) rfl rfl ?_
                by_cases hc366_132 : f3 = v109
                · refine ow_icmpYes (q := 386) X129 hx (hb hby at_366) (Jvm.Free.XT.ii_eq_t hc366_132) (by decide) (by decide) ?_
                  exact cut386_119 nk4 _ _ X129 e129 N129 (own_nk0 (k := 4) hn4 (Or.inr (by simp [hc366_132])))
                · refine ow_icmpNo (q := 369) X129 hx (hb hby at_366) rfl (Jvm.Free.XT.ii_eq_f hc366_132) ?_
                  refine ow_iload (q := 371) X129 hx (hb hby at_369) rfl rfl ?_
                  refine ow_iload (q := 373) X129 hx (hb hby at_371) rfl rfl ?_
                  by_cases hc373_133 : f3 = f2
                  · refine ow_icmpYes (q := 386) X129 hx (hb hby at_373) (Jvm.Free.XT.ii_eq_t hc373_133) (by decide) (by decide) ?_
                    exact cut386_119 nk4 _ _ X129 e129 N129 (own_nk0 (k := 4) hn4 (Or.inr (by simp [hc373_133])))
                  · refine ow_icmpNo (q := 376) X129 hx (hb hby at_373) rfl (Jvm.Free.XT.ii_eq_f hc373_133) ?_
                    refine ow_iload (q := 378) X129 hx (hb hby at_376) rfl rfl ?_
                    refine ow_iload (q := 380) X129 hx (hb hby at_378) rfl rfl ?_
                    by_cases hc380_134 : f3 = v110
                    · refine ow_icmpYes (q := 386) X129 hx (hb hby at_380) (Jvm.Free.XT.ii_eq_t hc380_134) (by decide) (by decide) ?_
                      exact cut386_119 nk4 _ _ X129 e129 N129 (own_nk0 (k := 4) hn4 (Or.inr (by simp [hc380_134])))
                    · refine ow_icmpNo (q := 383) X129 hx (hb hby at_380) rfl (Jvm.Free.XT.ii_eq_f hc380_134) ?_
                      refine ow_iinc (q := 386) X129 hx (L' := #[iv p0, iv p1, iv p2, iv p3, iv p4, iv p5, iv (1114112 : Int32), iv f1, iv l1, iv f2, iv l2, iv f3, iv l3, rv b8, rv b16, iv (1 : Int32), rv b100, iv f1, iv v109, iv f2, iv v110, iv f3, iv v111, iv (nk4 + (1 : Int32))]) (hb hby at_383) rfl rfl rfl ?_
                      generalize hv_v135 : (nk4 + (1 : Int32)) = v135
                      exact cut386_119 v135 _ _ X129 e129 N129 (own_nk1 (k := 4) hn4 hv_v135 (by simp [hc352_130, hc359_131, hc366_132, hc373_133, hc380_134]))
          have cut311_136 : ∀ (nk3 : Int32) (Tc136 : State) (lc136 : List Loc), Stand p l e room_1 s m #[(.int p0), (.int p1), (.int p2), (.int p3), (.int p4), (.int p5)] below meth c Tc136 lc136 7 42 → Tc136.heap = T100.heap → Fr n0 lc136 → (nk3.toInt = (own_s3 f1 l1 f2 l2 f3 l3 f1 v109 f2) ∧ 0 ≤ nk3.toInt ∧ nk3.toInt ≤ ((3 : Nat) : Int)) → ownEnds p e below s (Q_law Z p0 p1 p2 p3 p4 p5 h0 n0) 24 192 Tc136 (mkF m 311 #[iv p0, iv p1, iv p2, iv p3, iv p4, iv p5, iv (1114112 : Int32), iv f1, iv l1, iv f2, iv l2, iv f3, iv l3, rv b8, rv b16, iv (1 : Int32), rv b100, iv f1, iv v109, iv f2, iv v110, iv f3, iv v111, iv nk3] []) := by
            intro nk3 Tc136 lc136 Xc136 ec136 Nc136 hn3
            refine ow_aload (q := 313) Xc136 hx (hb hby at_311) rfl rfl rfl ?_
            refine ow_iload (q := 315) Xc136 hx (hb hby at_313) rfl rfl ?_
            obtain ⟨_, _, ⟨T137, L137, k137, n137⟩, -, X137, ⟨Lc137, hQ137, l137, y137, z137⟩, st137⟩ := Jvm.LawKit.callS Xc136 hx (y := (⟨"com/example/shapewright/shapewright/regex/BuilderAddPinLaw", "ch", "([II)Z"⟩ : MethodName)) hown (mvT hZ (ww 66 rfl)) (mvT hZ (ww 67 rfl)) (mvT hZ (ww 68 rfl)) (mvT hZ (ww 69 rfl)) (by decide) (backOf (W := 0) (rm_ch l Z av0 hw [] b8 v110 (ownUpd (ownUpd (ownUpd (ownUpd (ownUpd (ownUpd (fun _ => (0 : Int32)) 0 f1) 1 l1) 2 f2) 3 l2) 4 f3) 5 l3) T100.heap n0 (Nat.le_trans Z0 K100.1) F101) hZ (ww 69 rfl) (ww 68 rfl) (by decide) (by decide)) (g := (mkF m 315 #[iv p0, iv p1, iv p2, iv p3, iv p4, iv p5, iv (1114112 : Int32), iv f1, iv l1, iv f2, iv l2, iv f3, iv l3, rv b8, rv b16, iv (1 : Int32), rv b100, iv f1, iv v109, iv f2, iv v110, iv f3, iv v111, iv nk3] [(.int v110), (.ref b8)])) rfl (by rw [hml]; rfl) (argsL := [(.ref b8), (.int v110)]) (rest := []) (lenOf own_pd3 rfl) rfl (by show 2 * 0 + _ ≤ _; exact Nat.le_of_eq rfl) (hb hby at_315) (fun _ _ => ⟨rfl, ec136, (by decide : 7 + 0 ≤ _), (by decide : 42 + 0 ≤ _)⟩)
            dsimp only [Pt.U, Pt.locs, Pt.cells, Pt.slots] at X137 l137 y137 z137 st137 hQ137
            subst l137 y137 z137
            obtain ⟨rfl, N137q, e137⟩ := hQ137
            have N137 := Fr.app Nc136 N137q
            refine ownGo (T' := T137) (f' := (mkF m 318 #[iv p0, iv p1, iv p2, iv p3, iv p4, iv p5, iv (1114112 : Int32), iv f1, iv l1, iv f2, iv l2, iv f3, iv l3, rv b8, rv b16, iv (1 : Int32), rv b100, iv f1, iv v109, iv f2, iv v110, iv f3, iv v111, iv nk3] [(.int (own_ch f1 l1 f2 l2 f3 l3 v110))])) (st137) ?_
            by_cases hc318_138 : (own_ch f1 l1 f2 l2 f3 l3 v110) = (0 : Int32)
            · refine ow_ifYes (q := 345) X137 hx (hb hby at_318) (Jvm.Free.XT.i0_eq_t hc318_138) (by decide) (by decide) ?_
              exact cut345_128 nk3 _ _ X137 e137 N137 (own_nk0 (k := 3) hn3 (by simp [hc318_138]))
            · refine ow_ifNo (q := 321) X137 hx (hb hby at_318) rfl (Jvm.Free.XT.i0_eq_f hc318_138) ?_
              refine ow_iload (q := 323) X137 hx (hb hby at_321) rfl rfl ?_
              refine ow_iload (q := 325) X137 hx (hb hby at_323) rfl rfl ?_
              by_cases hc325_139 : v110 = f1
              · refine ow_icmpYes (q := 345) X137 hx (hb hby at_325) (Jvm.Free.XT.ii_eq_t hc325_139) (by decide) (by decide) ?_
                exact cut345_128 nk3 _ _ X137 e137 N137 (own_nk0 (k := 3) hn3 (Or.inr (by simp [hc325_139])))
              · refine ow_icmpNo (q := 328) X137 hx (hb hby at_325) rfl (Jvm.Free.XT.ii_eq_f hc325_139) ?_
                refine ow_iload (q := 330) X137 hx (hb hby at_328) rfl rfl ?_
                refine ow_iload (q := 332) X137 hx (hb hby at_330) rfl rfl ?_
                by_cases hc332_140 : v110 = v109
                · refine ow_icmpYes (q := 345) X137 hx (hb hby at_332) (Jvm.Free.XT.ii_eq_t hc332_140) (by decide) (by decide) ?_
                  exact cut345_128 nk3 _ _ X137 e137 N137 (own_nk0 (k := 3) hn3 (Or.inr (by simp [hc332_140])))
                · refine ow_icmpNo (q := 335) X137 hx (hb hby at_332) rfl (Jvm.Free.XT.ii_eq_f hc332_140) ?_
                  refine ow_iload (q := 337) X137 hx (hb hby at_335) rfl rfl ?_
                  refine ow_iload (q := 339) X137 hx (hb hby at_337) rfl rfl ?_
                  by_cases hc339_141 : v110 = f2
                  · refine ow_icmpYes (q := 345) X137 hx (hb hby at_339) (Jvm.Free.XT.ii_eq_t hc339_141) (by decide) (by decide) ?_
                    exact cut345_128 nk3 _ _ X137 e137 N137 (own_nk0 (k := 3) hn3 (Or.inr (by simp [hc339_141])))
                  · refine ow_icmpNo (q := 342) X137 hx (hb hby at_339) rfl (Jvm.Free.XT.ii_eq_f hc339_141) ?_
                    refine ow_iinc (q := 345) X137 hx (L' := #[iv p0, iv p1, iv p2, iv p3, iv p4, iv p5, iv (1114112 : Int32), iv f1, iv l1, iv f2, iv l2, iv f3, iv l3, rv b8, rv b16, iv (1 : Int32), rv b100, iv f1, iv v109, iv f2, iv v110, iv f3, iv v111, iv (nk3 + (1 : Int32))]) (hb hby at_342) rfl rfl rfl ?_
                    generalize hv_v142 : (nk3 + (1 : Int32)) = v142
                    exact cut345_128 v142 _ _ X137 e137 N137 (own_nk1 (k := 3) hn3 hv_v142 (by simp [hc318_138, hc325_139, hc332_140, hc339_141]))
          have cut284_143 : ∀ (nk2 : Int32) (Tc143 : State) (lc143 : List Loc), Stand p l e room_1 s m #[(.int p0), (.int p1), (.int p2), (.int p3), (.int p4), (.int p5)] below meth c Tc143 lc143 7 42 → Tc143.heap = T100.heap → Fr n0 lc143 → (nk2.toInt = (own_s2 f1 l1 f2 l2 f3 l3 f1 v109) ∧ 0 ≤ nk2.toInt ∧ nk2.toInt ≤ ((2 : Nat) : Int)) → ownEnds p e below s (Q_law Z p0 p1 p2 p3 p4 p5 h0 n0) 24 192 Tc143 (mkF m 284 #[iv p0, iv p1, iv p2, iv p3, iv p4, iv p5, iv (1114112 : Int32), iv f1, iv l1, iv f2, iv l2, iv f3, iv l3, rv b8, rv b16, iv (1 : Int32), rv b100, iv f1, iv v109, iv f2, iv v110, iv f3, iv v111, iv nk2] []) := by
            intro nk2 Tc143 lc143 Xc143 ec143 Nc143 hn2
            refine ow_aload (q := 286) Xc143 hx (hb hby at_284) rfl rfl rfl ?_
            refine ow_iload (q := 288) Xc143 hx (hb hby at_286) rfl rfl ?_
            obtain ⟨_, _, ⟨T144, L144, k144, n144⟩, -, X144, ⟨Lc144, hQ144, l144, y144, z144⟩, st144⟩ := Jvm.LawKit.callS Xc143 hx (y := (⟨"com/example/shapewright/shapewright/regex/BuilderAddPinLaw", "ch", "([II)Z"⟩ : MethodName)) hown (mvT hZ (ww 66 rfl)) (mvT hZ (ww 67 rfl)) (mvT hZ (ww 68 rfl)) (mvT hZ (ww 69 rfl)) (by decide) (backOf (W := 0) (rm_ch l Z av0 hw [] b8 f2 (ownUpd (ownUpd (ownUpd (ownUpd (ownUpd (ownUpd (fun _ => (0 : Int32)) 0 f1) 1 l1) 2 f2) 3 l2) 4 f3) 5 l3) T100.heap n0 (Nat.le_trans Z0 K100.1) F101) hZ (ww 69 rfl) (ww 68 rfl) (by decide) (by decide)) (g := (mkF m 288 #[iv p0, iv p1, iv p2, iv p3, iv p4, iv p5, iv (1114112 : Int32), iv f1, iv l1, iv f2, iv l2, iv f3, iv l3, rv b8, rv b16, iv (1 : Int32), rv b100, iv f1, iv v109, iv f2, iv v110, iv f3, iv v111, iv nk2] [(.int f2), (.ref b8)])) rfl (by rw [hml]; rfl) (argsL := [(.ref b8), (.int f2)]) (rest := []) (lenOf own_pd3 rfl) rfl (by show 2 * 0 + _ ≤ _; exact Nat.le_of_eq rfl) (hb hby at_288) (fun _ _ => ⟨rfl, ec143, (by decide : 7 + 0 ≤ _), (by decide : 42 + 0 ≤ _)⟩)
            dsimp only [Pt.U, Pt.locs, Pt.cells, Pt.slots] at X144 l144 y144 z144 st144 hQ144
            subst l144 y144 z144
            obtain ⟨rfl, N144q, e144⟩ := hQ144
            have N144 := Fr.app Nc143 N144q
            refine ownGo (T' := T144) (f' := (mkF m 291 #[iv p0, iv p1, iv p2, iv p3, iv p4, iv p5, iv (1114112 : Int32), iv f1, iv l1, iv f2, iv l2, iv f3, iv l3, rv b8, rv b16, iv (1 : Int32), rv b100, iv f1, iv v109, iv f2, iv v110, iv f3, iv v111, iv nk2] [(.int (own_ch f1 l1 f2 l2 f3 l3 f2))])) (st144) ?_
            by_cases hc291_145 : (own_ch f1 l1 f2 l2 f3 l3 f2) = (0 : Int32)
            · refine ow_ifYes (q := 311) X144 hx (hb hby at_291) (Jvm.Free.XT.i0_eq_t hc291_145) (by decide) (by decide) ?_
              exact cut311_136 nk2 _ _ X144 e144 N144 (own_nk0 (k := 2) hn2 (by simp [hc291_145]))
            · refine ow_ifNo (q := 294) X144 hx (hb hby at_291) rfl (Jvm.Free.XT.i0_eq_f hc291_145) ?_
              refine ow_iload (q := 296) X144 hx (hb hby at_294) rfl rfl ?_
              refine ow_iload (q := 298) X144 hx (hb hby at_296) rfl rfl ?_
              by_cases hc298_146 : f2 = f1
              · refine ow_icmpYes (q := 311) X144 hx (hb hby at_298) (Jvm.Free.XT.ii_eq_t hc298_146) (by decide) (by decide) ?_
                exact cut311_136 nk2 _ _ X144 e144 N144 (own_nk0 (k := 2) hn2 (Or.inr (by simp [hc298_146])))
              · refine ow_icmpNo (q := 301) X144 hx (hb hby at_298) rfl (Jvm.Free.XT.ii_eq_f hc298_146) ?_
                refine ow_iload (q := 303) X144 hx (hb hby at_301) rfl rfl ?_
                refine ow_iload (q := 305) X144 hx (hb hby at_303) rfl rfl ?_
                by_cases hc305_147 : f2 = v109
                · refine ow_icmpYes (q := 311) X144 hx (hb hby at_305) (Jvm.Free.XT.ii_eq_t hc305_147) (by decide) (by decide) ?_
                  exact cut311_136 nk2 _ _ X144 e144 N144 (own_nk0 (k := 2) hn2 (Or.inr (by simp [hc305_147])))
                · refine ow_icmpNo (q := 308) X144 hx (hb hby at_305) rfl (Jvm.Free.XT.ii_eq_f hc305_147) ?_
                  refine ow_iinc (q := 311) X144 hx (L' := #[iv p0, iv p1, iv p2, iv p3, iv p4, iv p5, iv (1114112 : Int32), iv f1, iv l1, iv f2, iv l2, iv f3, iv l3, rv b8, rv b16, iv (1 : Int32), rv b100, iv f1, iv v109, iv f2, iv v110, iv f3, iv v111, iv (nk2 + (1 : Int32))]) (hb hby at_308) rfl rfl rfl ?_
                  generalize hv_v148 : (nk2 + (1 : Int32)) = v148
                  exact cut311_136 v148 _ _ X144 e144 N144 (own_nk1 (k := 2) hn2 hv_v148 (by simp [hc291_145, hc298_146, hc305_147]))
          have cut264_149 : ∀ (nk1 : Int32) (Tc149 : State) (lc149 : List Loc), Stand p l e room_1 s m #[(.int p0), (.int p1), (.int p2), (.int p3), (.int p4), (.int p5)] below meth c Tc149 lc149 7 42 → Tc149.heap = T100.heap → Fr n0 lc149 → (nk1.toInt = (own_s1 f1 l1 f2 l2 f3 l3 f1) ∧ 0 ≤ nk1.toInt ∧ nk1.toInt ≤ ((1 : Nat) : Int)) → ownEnds p e below s (Q_law Z p0 p1 p2 p3 p4 p5 h0 n0) 24 192 Tc149 (mkF m 264 #[iv p0, iv p1, iv p2, iv p3, iv p4, iv p5, iv (1114112 : Int32), iv f1, iv l1, iv f2, iv l2, iv f3, iv l3, rv b8, rv b16, iv (1 : Int32), rv b100, iv f1, iv v109, iv f2, iv v110, iv f3, iv v111, iv nk1] []) := by
            intro nk1 Tc149 lc149 Xc149 ec149 Nc149 hn1
            refine ow_aload (q := 266) Xc149 hx (hb hby at_264) rfl rfl rfl ?_
            refine ow_iload (q := 268) Xc149 hx (hb hby at_266) rfl rfl ?_
            obtain ⟨_, _, ⟨T150, L150, k150, n150⟩, -, X150, ⟨Lc150, hQ150, l150, y150, z150⟩, st150⟩ := Jvm.LawKit.callS Xc149 hx (y := (⟨"com/example/shapewright/shapewright/regex/BuilderAddPinLaw", "ch", "([II)Z"⟩ : MethodName)) hown (mvT hZ (ww 66 rfl)) (mvT hZ (ww 67 rfl)) (mvT hZ (ww 68 rfl)) (mvT hZ (ww 69 rfl)) (by decide) (backOf (W := 0) (rm_ch l Z av0 hw [] b8 v109 (ownUpd (ownUpd (ownUpd (ownUpd (ownUpd (ownUpd (fun _ => (0 : Int32)) 0 f1) 1 l1) 2 f2) 3 l2) 4 f3) 5 l3) T100.heap n0 (Nat.le_trans Z0 K100.1) F101) hZ (ww 69 rfl) (ww 68 rfl) (by decide) (by decide)) (g := (mkF m 268 #[iv p0, iv p1, iv p2, iv p3, iv p4, iv p5, iv (1114112 : Int32), iv f1, iv l1, iv f2, iv l2, iv f3, iv l3, rv b8, rv b16, iv (1 : Int32), rv b100, iv f1, iv v109, iv f2, iv v110, iv f3, iv v111, iv nk1] [(.int v109), (.ref b8)])) rfl (by rw [hml]; rfl) (argsL := [(.ref b8), (.int v109)]) (rest := []) (lenOf own_pd3 rfl) rfl (by show 2 * 0 + _ ≤ _; exact Nat.le_of_eq rfl) (hb hby at_268) (fun _ _ => ⟨rfl, ec149, (by decide : 7 + 0 ≤ _), (by decide : 42 + 0 ≤ _)⟩)
            dsimp only [Pt.U, Pt.locs, Pt.cells, Pt.slots] at X150 l150 y150 z150 st150 hQ150
            subst l150 y150 z150
            obtain ⟨rfl, N150q, e150⟩ := hQ150
            have N150 := Fr.app Nc149 N150q
            refine ownGo (T' := T150) (f' := (mkF m 271 #[iv p0, iv p1, iv p2, iv p3, iv p4, iv p5, iv (1114112 : Int32), iv f1, iv l1, iv f2, iv l2, iv f3, iv l3, rv b8, rv b16, iv (1 : Int32), rv b100, iv f1, iv v109, iv f2, iv v110, iv f3, iv v111, iv nk1] [(.int (own_ch f1 l1 f2 l2 f3 l3 v109))])) (st150) ?_
            by_cases hc271_151 : (own_ch f1 l1 f2 l2 f3 l3 v109) = (0 : Int32)
            · refine ow_ifYes (q := 284) X150 hx (hb hby at_271) (Jvm.Free.XT.i0_eq_t hc271_151) (by decide) (by decide) ?_
              exact cut284_143 nk1 _ _ X150 e150 N150 (own_nk0 (k := 1) hn1 (by simp [hc271_151]))
            · refine ow_ifNo (q := 274) X150 hx (hb hby at_271) rfl (Jvm.Free.XT.i0_eq_f hc271_151) ?_
              refine ow_iload (q := 276) X150 hx (hb hby at_274) rfl rfl ?_
              refine ow_iload (q := 278) X150 hx (hb hby at_276) rfl rfl ?_
              by_cases hc278_152 : v109 = f1
              · refine ow_icmpYes (q := 284) X150 hx (hb hby at_278) (Jvm.Free.XT.ii_eq_t hc278_152) (by decide) (by decide) ?_
                exact cut284_143 nk1 _ _ X150 e150 N150 (own_nk0 (k := 1) hn1 (Or.inr (by simp [hc278_152])))
              · refine ow_icmpNo (q := 281) X150 hx (hb hby at_278) rfl (Jvm.Free.XT.ii_eq_f hc278_152) ?_
                refine ow_iinc (q := 284) X150 hx (L' := #[iv p0, iv p1, iv p2, iv p3, iv p4, iv p5, iv (1114112 : Int32), iv f1, iv l1, iv f2, iv l2, iv f3, iv l3, rv b8, rv b16, iv (1 : Int32), rv b100, iv f1, iv v109, iv f2, iv v110, iv f3, iv v111, iv (nk1 + (1 : Int32))]) (hb hby at_281) rfl rfl rfl ?_
                generalize hv_v153 : (nk1 + (1 : Int32)) = v153
                exact cut284_143 v153 _ _ X150 e150 N150 (own_nk1 (k := 1) hn1 hv_v153 (by simp [hc271_151, hc278_152]))
          refine ow_aload (q := 253) X100 hx (hb hby at_251) rfl rfl rfl ?_
          refine ow_iload (q := 255) X100 hx (hb hby at_253) rfl rfl ?_
          obtain ⟨_, _, ⟨T154, L154, k154, n154⟩, -, X154, ⟨Lc154, hQ154, l154, y154, z154⟩, st154⟩ := Jvm.LawKit.callS X100 hx (y := (⟨"com/example/shapewright/shapewright/regex/BuilderAddPinLaw", "ch", "([II)Z"⟩ : MethodName)) hown (mvT hZ (ww 66 rfl)) (mvT hZ (ww 67 rfl)) (mvT hZ (ww 68 rfl)) (mvT hZ (ww 69 rfl)) (by decide) (backOf (W := 0) (rm_ch l Z av0 hw [] b8 f1 (ownUpd (ownUpd (ownUpd (ownUpd (ownUpd (ownUpd (fun _ => (0 : Int32)) 0 f1) 1 l1) 2 f2) 3 l2) 4 f3) 5 l3) T100.heap n0 (Nat.le_trans Z0 K100.1) F101) hZ (ww 69 rfl) (ww 68 rfl) (by decide) (by decide)) (g := (mkF m 255 #[iv p0, iv p1, iv p2, iv p3, iv p4, iv p5, iv (1114112 : Int32), iv f1, iv l1, iv f2, iv l2, iv f3, iv l3, rv b8, rv b16, iv (1 : Int32), rv b100, iv f1, iv v109, iv f2, iv v110, iv f3, iv v111, iv (0 : Int32)] [(.int f1), (.ref b8)])) rfl (by rw [hml]; rfl) (argsL := [(.ref b8), (.int f1)]) (rest := []) (lenOf own_pd3 rfl) rfl (by show 2 * 0 + _ ≤ _; exact Nat.le_of_eq rfl) (hb hby at_255) (fun _ _ => ⟨rfl, rfl, (by decide : 7 + 0 ≤ _), (by decide : 42 + 0 ≤ _)⟩)
          dsimp only [Pt.U, Pt.locs, Pt.cells, Pt.slots] at X154 l154 y154 z154 st154 hQ154
          subst l154 y154 z154
          obtain ⟨rfl, N154q, e154⟩ := hQ154
          have N154 := Fr.app N100 N154q
          refine ownGo (T' := T154) (f' := (mkF m 258 #[iv p0, iv p1, iv p2, iv p3, iv p4, iv p5, iv (1114112 : Int32), iv f1, iv l1, iv f2, iv l2, iv f3, iv l3, rv b8, rv b16, iv (1 : Int32), rv b100, iv f1, iv v109, iv f2, iv v110, iv f3, iv v111, iv (0 : Int32)] [(.int (own_ch f1 l1 f2 l2 f3 l3 f1))])) (st154) ?_
          by_cases hc258_155 : (own_ch f1 l1 f2 l2 f3 l3 f1) = (0 : Int32)
          · refine ow_ifYes (q := 264) X154 hx (hb hby at_258) (Jvm.Free.XT.i0_eq_t hc258_155) (by decide) (by decide) ?_
            exact cut264_149 (0 : Int32) _ _ X154 e154 N154 (own_nk0 (k := 0) (by decide : (0 : Int32).toInt = (0 : Int) ∧ 0 ≤ (0 : Int32).toInt ∧ (0 : Int32).toInt ≤ ((0 : Nat) : Int)) (by simp [hc258_155]))
          · refine ow_ifNo (q := 261) X154 hx (hb hby at_258) rfl (Jvm.Free.XT.i0_eq_f hc258_155) ?_
            refine ow_iinc (q := 264) X154 hx (L' := #[iv p0, iv p1, iv p2, iv p3, iv p4, iv p5, iv (1114112 : Int32), iv f1, iv l1, iv f2, iv l2, iv f3, iv l3, rv b8, rv b16, iv (1 : Int32), rv b100, iv f1, iv v109, iv f2, iv v110, iv f3, iv v111, iv (1 : Int32)]) (hb hby at_261) rfl rfl rfl ?_
            exact cut264_149 (1 : Int32) _ _ X154 e154 N154 (own_nk1 (k := 0) (by decide : (0 : Int32).toInt = (0 : Int) ∧ 0 ≤ (0 : Int32).toInt ∧ (0 : Int32).toInt ≤ ((0 : Nat) : Int)) (by decide) (by simp [hc258_155]))
      · refine ow_aload (q := 189) X26 hx (hb hby at_187) rfl rfl rfl ?_
        refine ow_iload (q := 191) X26 hx (hb hby at_189) rfl rfl ?_
        refine ow_iload (q := 193) X26 hx (hb hby at_191) rfl rfl ?_
        obtain ⟨cq156, kq156, q156a, q156b, q156c⟩ := isOf hZ rfl FP26_0
        obtain ⟨_, _, ⟨T156, L156, k156, n156⟩, -, X156, ⟨Lc156, hQ156, l156, y156, z156⟩, st156⟩ := X26.virtualBack hx (y := (⟨"com/example/shapewright/shapewright/regex/CodePointSet$Builder", "add", "(II)Lcom/example/shapewright/shapewright/regex/CodePointSet$Builder;"⟩ : MethodName)) (z := (⟨"com/example/shapewright/shapewright/regex/CodePointSet$Builder", "add", "(II)Lcom/example/shapewright/shapewright/regex/CodePointSet$Builder;"⟩ : MethodName)) hown (mvT hZ (ww 14 rfl)) (mvT hZ (ww 15 rfl)) (notFace_of_selects (args := #[]) (mvT hZ (ww 17 rfl))) (mvT hZ (ww 17 rfl)) (mvT hZ (ww 16 rfl)) (by decide) (backOf (W := 0) (rm_add_4_m l Z av0 hw [] b16 f3 l3 ar_20 (ownUpd (ownUpd (ownUpd (ownUpd (fun _ => (0 : Int32)) 0 f1) 1 l1) 2 f2) 3 l2) T26.heap n0 (Nat.le_trans Z0 K26.1) FP26_0 FP26_1 FP26_2 FP26_3 G_b16 G_ar_20 ne_b16_ar_20 hm3) hZ (ww 18 rfl) (ww 5 rfl) (by decide) (by decide)) q156a q156c (g := (mkF m 193 #[iv p0, iv p1, iv p2, iv p3, iv p4, iv p5, iv (1114112 : Int32), iv f1, iv l1, iv f2, iv l2, iv f3, iv l3, rv b8, rv b16, iv (1 : Int32), .unset, .unset, .unset, .unset, .unset, .unset, .unset, .unset] [(.int l3), (.int f3), (.ref b16)])) rfl (by rw [hml]; rfl) (Steps.refl _) (argsL := [(.int f3), (.int l3)]) (rest := []) (lenOf own_pd5 rfl) rfl (by show 2 * 0 + _ ≤ _; exact Nat.le_of_eq rfl) (hb hby at_193) (fun _ _ => ⟨rfl, rfl, (by decide : 3 + 0 ≤ _), (by decide : 24 + 0 ≤ _)⟩)
        dsimp only [Pt.U, Pt.locs, Pt.cells, Pt.slots] at X156 l156 y156 z156 st156 hQ156
        subst l156 y156 z156
        obtain ⟨rfl, N156q, Kq156, FP156_0, FP156_1, FP156_2, FP156_3⟩ := hQ156
        have N156 := Fr.app N26 N156q
        have K156 : Keep h0 T156.heap [] := K26.trans Kq156 (allS (Or.inr sz_b16) (allS (Or.inr sz_ar_20) all0))
        have F157 : ownAI Z T156.heap b8 .int 6 (ownUpd (ownUpd (ownUpd (ownUpd (ownUpd (ownUpd (fun _ => (0 : Int32)) 0 f1) 1 l1) 2 f2) 3 l2) 4 f3) 5 l3) := F27.keep Kq156 (ninS ne_b8_b16 (ninS ne_b8_ar_20 nin0))
        have F158 : Exa Z T156.heap b16 "com/example/shapewright/shapewright/regex/CodePointSet$Builder" := FP26_0.keep Kq156
        refine ownRun (T' := T156) (f' := (mkF m 196 #[iv p0, iv p1, iv p2, iv p3, iv p4, iv p5, iv (1114112 : Int32), iv f1, iv l1, iv f2, iv l2, iv f3, iv l3, rv b8, rv b16, iv (1 : Int32), .unset, .unset, .unset, .unset, .unset, .unset, .unset, .unset] [(.ref b16)])) st156 ?_
        refine ow_aload (q := 198) X156 hx (hb hby at_196) rfl rfl rfl ?_
        refine ownGo (T' := T156) (f' := (mkF m 201 #[iv p0, iv p1, iv p2, iv p3, iv p4, iv p5, iv (1114112 : Int32), iv f1, iv l1, iv f2, iv l2, iv f3, iv l3, rv b8, rv b16, iv (1 : Int32), .unset, .unset, .unset, .unset, .unset, .unset, .unset, .unset] [])) (fun _ k => Jvm.RoadKit.acmp (g := (mkF m 198 #[iv p0, iv p1, iv p2, iv p3, iv p4, iv p5, iv (1114112 : Int32), iv f1, iv l1, iv f2, iv l2, iv f3, iv l3, rv b8, rv b16, iv (1 : Int32), .unset, .unset, .unset, .unset, .unset, .unset, .unset, .unset] [(.ref b16), (.ref b16)])) X156 hx rfl rfl rfl (pc0 := 198) (pc' := 201) (same := true) rfl (hb hby at_198) rfl (decide_eq_true rfl) (by decide) (by decide) k) ?_
        refine ow_iconst (q := 202) X156 hx (1 : Int32) (hb hby at_201) rfl rfl ?_
        refine ow_goto (q := 206) X156 hx (hb hby at_202) (by decide) (by decide) ?_
        refine ow_istore (q := 208) X156 hx (L' := #[iv p0, iv p1, iv p2, iv p3, iv p4, iv p5, iv (1114112 : Int32), iv f1, iv l1, iv f2, iv l2, iv f3, iv l3, rv b8, rv b16, iv (1 : Int32), .unset, .unset, .unset, .unset, .unset, .unset, .unset, .unset]) (hb hby at_206) rfl rfl ?_
        by_cases hmx : (own_max l2 l3) < (1114111 : Int32)
        · refine ow_aload (q := 210) X156 hx (hb hby at_208) rfl rfl rfl ?_
          obtain ⟨cq159, kq159, q159a, q159b, q159c⟩ := isOf hZ rfl FP156_0
          obtain ⟨_, _, ⟨T159, L159, k159, n159⟩, -, X159, ⟨Lc159, hQ159, l159, y159, z159⟩, st159⟩ := X156.virtualBack hx (y := (⟨"com/example/shapewright/shapewright/regex/CodePointSet$Builder", "build", "()Lcom/example/shapewright/shapewright/regex/CodePointSet;"⟩ : MethodName)) (z := (⟨"com/example/shapewright/shapewright/regex/CodePointSet$Builder", "build", "()Lcom/example/shapewright/shapewright/regex/CodePointSet;"⟩ : MethodName)) hown (mvT hZ (ww 25 rfl)) (mvT hZ (ww 26 rfl)) (notFace_of_selects (args := #[]) (mvT hZ (ww 28 rfl))) (mvT hZ (ww 28 rfl)) (mvT hZ (ww 27 rfl)) (by decide) (backOf (W := 0) (rm_build_4 l Z av0 hw [] b16 ar_20 (ownUpd (ownUpd (ownUpd (ownUpd (ownUpd (fun _ => (0 : Int32)) 0 f1) 1 l1) 2 f2) 3 l2) 3 (own_max l2 l3)) T156.heap n0 (Nat.le_trans Z0 K156.1) FP156_1 FP156_2 FP156_3) hZ (ww 29 rfl) (ww 5 rfl) (by decide) (by decide)) q159a q159c (g := (mkF m 210 #[iv p0, iv p1, iv p2, iv p3, iv p4, iv p5, iv (1114112 : Int32), iv f1, iv l1, iv f2, iv l2, iv f3, iv l3, rv b8, rv b16, iv (1 : Int32), .unset, .unset, .unset, .unset, .unset, .unset, .unset, .unset] [(.ref b16)])) rfl (by rw [hml]; rfl) (Steps.refl _) (argsL := []) (rest := []) (lenOf own_pd6 rfl) rfl (by show 2 * 0 + _ ≤ _; exact Nat.le_of_eq rfl) (hb hby at_210) (fun _ _ => ⟨rfl, rfl, (by decide : 3 + 2 ≤ _), (by decide : 24 + 5 ≤ _)⟩)
          dsimp only [Pt.U, Pt.locs, Pt.cells, Pt.slots] at X159 l159 y159 z159 st159 hQ159
          subst l159 y159 z159
          obtain ⟨b159, ar2_159, rfl, N159q, Kq159, sq159_b159, sq159_ar2_159, FP159_0, FP159_1, FP159_2, hp159⟩ := hQ159
          have N159 := Fr.app N156 N159q
          have K159 : Keep h0 T159.heap [] := K156.trans Kq159 all0
          have ne_b8_b159 : b8 ≠ b159 := Nat.ne_of_lt (Nat.lt_of_lt_of_le F157.lt sq159_b159)
          have ne_b16_b159 : b16 ≠ b159 := Nat.ne_of_lt (Nat.lt_of_lt_of_le FP156_0.lt sq159_b159)
          have ne_ar_20_b159 : ar_20 ≠ b159 := Nat.ne_of_lt (Nat.lt_of_lt_of_le FP156_3.lt sq159_b159)
          have sz_b159 : h0.size ≤ b159 := Nat.le_trans K156.1 sq159_b159
          have G_b159 : n0 ≤ b159 := Nat.le_trans Z0 sz_b159
          have ne_b8_ar2_159 : b8 ≠ ar2_159 := Nat.ne_of_lt (Nat.lt_of_lt_of_le F157.lt sq159_ar2_159)
          have ne_b16_ar2_159 : b16 ≠ ar2_159 := Nat.ne_of_lt (Nat.lt_of_lt_of_le FP156_0.lt sq159_ar2_159)
          have ne_ar_20_ar2_159 : ar_20 ≠ ar2_159 := Nat.ne_of_lt (Nat.lt_of_lt_of_le FP156_3.lt sq159_ar2_159)
          have sz_ar2_159 : h0.size ≤ ar2_159 := Nat.le_trans K156.1 sq159_ar2_159
          have G_ar2_159 : n0 ≤ ar2_159 := Nat.le_trans Z0 sz_ar2_159
          have F160 : ownAI Z T159.heap b8 .int 6 (ownUpd (ownUpd (ownUpd (ownUpd (ownUpd (ownUpd (fun _ => (0 : Int32)) 0 f1) 1 l1) 2 f2) 3 l2) 4 f3) 5 l3) := F157.keep Kq159 nin0
          have F161 : Exa Z T159.heap b16 "com/example/shapewright/shapewright/regex/CodePointSet$Builder" := FP156_0.keep Kq159
          have F162 : Fld Z T159.heap b16 "com/example/shapewright/shapewright/regex/CodePointSet$Builder" "ranges" "[I" (.ref ar_20) := FP156_1.keep Kq159 nin0
          have F163 : Fld Z T159.heap b16 "com/example/shapewright/shapewright/regex/CodePointSet$Builder" "length" "I" (.int (4 : Int32)) := FP156_2.keep Kq159 nin0
          have F164 : ownAI Z T159.heap ar_20 .int 16 (ownUpd (ownUpd (ownUpd (ownUpd (ownUpd (fun _ => (0 : Int32)) 0 f1) 1 l1) 2 f2) 3 l2) 3 (own_max l2 l3)) := FP156_3.keep Kq159 nin0
          refine ownRun (T' := T159) (f' := (mkF m 213 #[iv p0, iv p1, iv p2, iv p3, iv p4, iv p5, iv (1114112 : Int32), iv f1, iv l1, iv f2, iv l2, iv f3, iv l3, rv b8, rv b16, iv (1 : Int32), .unset, .unset, .unset, .unset, .unset, .unset, .unset, .unset] [(.ref b159)])) st159 ?_
          obtain ⟨cq165, kq165, q165a, q165b, q165c⟩ := isOf hZ rfl FP159_0
          obtain ⟨_, _, ⟨T165, L165, k165, n165⟩, -, X165, ⟨Lc165, hQ165, l165, y165, z165⟩, st165⟩ := X159.virtualBack hx (y := (⟨"com/example/shapewright/shapewright/regex/CodePointSet", "edges", "()[I"⟩ : MethodName)) (z := (⟨"com/example/shapewright/shapewright/regex/CodePointSet", "edges", "()[I"⟩ : MethodName)) hown (mvT hZ (ww 50 rfl)) (mvT hZ (ww 51 rfl)) (notFace_of_selects (args := #[]) (mvT hZ (ww 53 rfl))) (mvT hZ (ww 53 rfl)) (mvT hZ (ww 52 rfl)) (by decide) (backOf (W := 0) (rm_edges_4_l l Z av0 hw [] b159 ar2_159 (ownUpd (ownUpd (ownUpd (ownUpd (ownUpd (fun _ => (0 : Int32)) 0 f1) 1 l1) 2 f2) 3 l2) 3 (own_max l2 l3)) T159.heap n0 (Nat.le_trans Z0 K159.1) FP159_1 FP159_2 (own_lt_am_0 hr hm2 hm3) hmx) hZ (ww 54 rfl) (ww 32 rfl) (by decide) (by decide)) q165a q165c (g := (mkF m 213 #[iv p0, iv p1, iv p2, iv p3, iv p4, iv p5, iv (1114112 : Int32), iv f1, iv l1, iv f2, iv l2, iv f3, iv l3, rv b8, rv b16, iv (1 : Int32), .unset, .unset, .unset, .unset, .unset, .unset, .unset, .unset] [(.ref b159)])) rfl (by rw [hml]; rfl) (Steps.refl _) (argsL := []) (rest := []) (lenOf own_pd7 rfl) rfl (by show 2 * 0 + _ ≤ _; exact Nat.le_of_eq rfl) (hb hby at_213) (fun _ _ => ⟨rfl, rfl, (by decide : 5 + 2 ≤ _), (by decide : 29 + 8 ≤ _)⟩)
          dsimp only [Pt.U, Pt.locs, Pt.cells, Pt.slots] at X165 l165 y165 z165 st165 hQ165
          subst l165 y165 z165
          obtain ⟨b165, rfl, N165q, Kq165, sq165_b165, FP165_0⟩ := hQ165
          have N165 := Fr.app N159 N165q
          have K165 : Keep h0 T165.heap [] := K159.trans Kq165 all0
          have ne_b8_b165 : b8 ≠ b165 := Nat.ne_of_lt (Nat.lt_of_lt_of_le F160.lt sq165_b165)
          have ne_b16_b165 : b16 ≠ b165 := Nat.ne_of_lt (Nat.lt_of_lt_of_le F161.lt sq165_b165)
          have ne_ar_20_b165 : ar_20 ≠ b165 := Nat.ne_of_lt (Nat.lt_of_lt_of_le F164.lt sq165_b165)
          have ne_b159_b165 : b159 ≠ b165 := Nat.ne_of_lt (Nat.lt_of_lt_of_le FP159_0.lt sq165_b165)
          have ne_ar2_159_b165 : ar2_159 ≠ b165 := Nat.ne_of_lt (Nat.lt_of_lt_of_le FP159_2.lt sq165_b165)
          have sz_b165 : h0.size ≤ b165 := Nat.le_trans K159.1 sq165_b165
          have G_b165 : n0 ≤ b165 := Nat.le_trans Z0 sz_b165
          have F166 : ownAI Z T165.heap b8 .int 6 (ownUpd (ownUpd (ownUpd (ownUpd (ownUpd (ownUpd (fun _ => (0 : Int32)) 0 f1) 1 l1) 2 f2) 3 l2) 4 f3) 5 l3) := F160.keep Kq165 nin0
          have F167 : Exa Z T165.heap b16 "com/example/shapewright/shapewright/regex/CodePointSet$Builder" := F161.keep Kq165
          have F168 : Fld Z T165.heap b16 "com/example/shapewright/shapewright/regex/CodePointSet$Builder" "ranges" "[I" (.ref ar_20) := F162.keep Kq165 nin0
          have F169 : Fld Z T165.heap b16 "com/example/shapewright/shapewright/regex/CodePointSet$Builder" "length" "I" (.int (4 : Int32)) := F163.keep Kq165 nin0
          have F170 : ownAI Z T165.heap ar_20 .int 16 (ownUpd (ownUpd (ownUpd (ownUpd (ownUpd (fun _ => (0 : Int32)) 0 f1) 1 l1) 2 f2) 3 l2) 3 (own_max l2 l3)) := F164.keep Kq165 nin0
          have F171 : Exa Z T165.heap b159 "com/example/shapewright/shapewright/regex/CodePointSet" := FP159_0.keep Kq165
          have F172 : Fld Z T165.heap b159 "com/example/shapewright/shapewright/regex/CodePointSet" "ranges" "[I" (.ref ar2_159) := FP159_1.keep Kq165 nin0
          have F173 : ownAI Z T165.heap ar2_159 .int 4 (ownUpd (ownUpd (ownUpd (ownUpd (ownUpd (fun _ => (0 : Int32)) 0 f1) 1 l1) 2 f2) 3 l2) 3 (own_max l2 l3)) := FP159_2.keep Kq165 nin0
          refine ownRun (T' := T165) (f' := (mkF m 216 #[iv p0, iv p1, iv p2, iv p3, iv p4, iv p5, iv (1114112 : Int32), iv f1, iv l1, iv f2, iv l2, iv f3, iv l3, rv b8, rv b16, iv (1 : Int32), .unset, .unset, .unset, .unset, .unset, .unset, .unset, .unset] [(.ref b165)])) st165 ?_
          refine ow_astore (q := 218) X165 hx (L' := #[iv p0, iv p1, iv p2, iv p3, iv p4, iv p5, iv (1114112 : Int32), iv f1, iv l1, iv f2, iv l2, iv f3, iv l3, rv b8, rv b16, iv (1 : Int32), rv b165, .unset, .unset, .unset, .unset, .unset, .unset, .unset]) (hb hby at_216) rfl rfl rfl ?_
          refine ow_iload (q := 220) X165 hx (hb hby at_218) rfl rfl ?_
          refine ow_istore (q := 222) X165 hx (L' := #[iv p0, iv p1, iv p2, iv p3, iv p4, iv p5, iv (1114112 : Int32), iv f1, iv l1, iv f2, iv l2, iv f3, iv l3, rv b8, rv b16, iv (1 : Int32), rv b165, iv f1, .unset, .unset, .unset, .unset, .unset, .unset]) (hb hby at_220) rfl rfl ?_
          refine ow_iload (q := 224) X165 hx (hb hby at_222) rfl rfl ?_
          refine ow_iconst (q := 225) X165 hx (1 : Int32) (hb hby at_224) rfl rfl ?_
          refine ow_iadd (q := 226) X165 hx _ (hb hby at_225) rfl rfl ?_
          generalize hv_v174 : (l1 + (1 : Int32)) = v174
          refine ow_istore (q := 228) X165 hx (L' := #[iv p0, iv p1, iv p2, iv p3, iv p4, iv p5, iv (1114112 : Int32), iv f1, iv l1, iv f2, iv l2, iv f3, iv l3, rv b8, rv b16, iv (1 : Int32), rv b165, iv f1, iv v174, .unset, .unset, .unset, .unset, .unset]) (hb hby at_226) rfl rfl ?_
          refine ow_iload (q := 230) X165 hx (hb hby at_228) rfl rfl ?_
          refine ow_istore (q := 232) X165 hx (L' := #[iv p0, iv p1, iv p2, iv p3, iv p4, iv p5, iv (1114112 : Int32), iv f1, iv l1, iv f2, iv l2, iv f3, iv l3, rv b8, rv b16, iv (1 : Int32), rv b165, iv f1, iv v174, iv f2, .unset, .unset, .unset, .unset]) (hb hby at_230) rfl rfl ?_
          refine ow_iload (q := 234) X165 hx (hb hby at_232) rfl rfl ?_
          refine ow_iconst (q := 235) X165 hx (1 : Int32) (hb hby at_234) rfl rfl ?_
          refine ow_iadd (q := 236) X165 hx _ (hb hby at_235) rfl rfl ?_
          generalize hv_v175 : (l2 + (1 : Int32)) = v175
          refine ow_istore (q := 238) X165 hx (L' := #[iv p0, iv p1, iv p2, iv p3, iv p4, iv p5, iv (1114112 : Int32), iv f1, iv l1, iv f2, iv l2, iv f3, iv l3, rv b8, rv b16, iv (1 : Int32), rv b165, iv f1, iv v174, iv f2, iv v175, .unset, .unset, .unset]) (hb hby at_236) rfl rfl ?_
          refine ow_iload (q := 240) X165 hx (hb hby at_238) rfl rfl ?_
          refine ow_istore (q := 242) X165 hx (L' := #[iv p0, iv p1, iv p2, iv p3, iv p4, iv p5, iv (1114112 : Int32), iv f1, iv l1, iv f2, iv l2, iv f3, iv l3, rv b8, rv b16, iv (1 : Int32), rv b165, iv f1, iv v174, iv f2, iv v175, iv f3, .unset, .unset]) (hb hby at_240) rfl rfl ?_
          refine ow_iload (q := 244) X165 hx (hb hby at_242) rfl rfl ?_
          refine ow_iconst (q := 245) X165 hx (1 : Int32) (hb hby at_244) rfl rfl ?_
          refine ow_iadd (q := 246) X165 hx _ (hb hby at_245) rfl rfl ?_
          generalize hv_v176 : (l3 + (1 : Int32)) = v176
          refine ow_istore (q := 248) X165 hx (L' := #[iv p0, iv p1, iv p2, iv p3, iv p4, iv p5, iv (1114112 : Int32), iv f1, iv l1, iv f2, iv l2, iv f3, iv l3, rv b8, rv b16, iv (1 : Int32), rv b165, iv f1, iv v174, iv f2, iv v175, iv f3, iv v176, .unset]) (hb hby at_246) rfl rfl ?_
          refine ow_iconst (q := 249) X165 hx (0 : Int32) (hb hby at_248) rfl rfl ?_
          refine ow_istore (q := 251) X165 hx (L' := #[iv p0, iv p1, iv p2, iv p3, iv p4, iv p5, iv (1114112 : Int32), iv f1, iv l1, iv f2, iv l2, iv f3, iv l3, rv b8, rv b16, iv (1 : Int32), rv b165, iv f1, iv v174, iv f2, iv v175, iv f3, iv v176, iv (0 : Int32)]) (hb hby at_249) rfl rfl ?_
          have cut434_177 : ∀ (nk6 : Int32) (Tc177 : State) (lc177 : List Loc), Stand p l e room_1 s m #[(.int p0), (.int p1), (.int p2), (.int p3), (.int p4), (.int p5)] below meth c Tc177 lc177 7 37 → Tc177.heap = T165.heap → Fr n0 lc177 → (nk6.toInt = (own_s6 f1 l1 f2 l2 f3 l3 f1 v174 f2 v175 f3 v176) ∧ 0 ≤ nk6.toInt ∧ nk6.toInt ≤ ((6 : Nat) : Int)) → ownEnds p e below s (Q_law Z p0 p1 p2 p3 p4 p5 h0 n0) 24 192 Tc177 (mkF m 434 #[iv p0, iv p1, iv p2, iv p3, iv p4, iv p5, iv (1114112 : Int32), iv f1, iv l1, iv f2, iv l2, iv f3, iv l3, rv b8, rv b16, iv (1 : Int32), rv b165, iv f1, iv v174, iv f2, iv v175, iv f3, iv v176, iv nk6] []) := by
            intro nk6 Tc177 lc177 Xc177 ec177 Nc177 hn6
            refine ow_iload (q := 436) Xc177 hx (hb hby at_434) rfl rfl ?_
            refine ow_ifNo (q := 439) Xc177 hx (hb hby at_436) rfl (Jvm.Free.XT.i0_eq_f (by decide)) ?_
            refine ow_aload (q := 441) Xc177 hx (hb hby at_439) rfl rfl rfl ?_
            refine ownGo (T' := Tc177) (f' := (mkF m 442 #[iv p0, iv p1, iv p2, iv p3, iv p4, iv p5, iv (1114112 : Int32), iv f1, iv l1, iv f2, iv l2, iv f3, iv l3, rv b8, rv b16, iv (1 : Int32), rv b165, iv f1, iv v174, iv f2, iv v175, iv f3, iv v176, iv nk6] [(.int (4 : Int32))])) (ownLenI FP165_0 Xc177 hx hZ ec177 (z := (4 : Int32)) (by decide) (g := (mkF m 441 #[iv p0, iv p1, iv p2, iv p3, iv p4, iv p5, iv (1114112 : Int32), iv f1, iv l1, iv f2, iv l2, iv f3, iv l3, rv b8, rv b16, iv (1 : Int32), rv b165, iv f1, iv v174, iv f2, iv v175, iv f3, iv v176, iv nk6] [(.ref b165)])) rfl rfl (hb hby at_441)) ?_
            refine ow_iload (q := 444) Xc177 hx (hb hby at_442) rfl rfl ?_
            refine ow_icmpNo (q := 447) Xc177 hx (hb hby at_444) rfl (Jvm.Free.XT.ii_ne_f (own_len hn6 (own_total_aml hr hm2 hm3 hmx hv_v174 hv_v175 hv_v176))) ?_
            refine ow_aload (q := 449) Xc177 hx (hb hby at_447) rfl rfl rfl ?_
            refine ow_iconst (q := 450) Xc177 hx (0 : Int32) (hb hby at_449) rfl rfl ?_
            refine ow_aload (q := 452) Xc177 hx (hb hby at_450) rfl rfl rfl ?_
            obtain ⟨_, _, ⟨T178, L178, k178, n178⟩, -, X178, ⟨Lc178, hQ178, l178, y178, z178⟩, st178⟩ := Jvm.LawKit.callS Xc177 hx (y := (⟨"com/example/shapewright/shapewright/regex/BuilderAddPinLaw", "okAt", "([II[I)Z"⟩ : MethodName)) hown (mvT hZ (ww 74 rfl)) (mvT hZ (ww 75 rfl)) (mvT hZ (ww 68 rfl)) (mvT hZ (ww 76 rfl)) (by decide) (backOf (W := 0) (rm_okC l Z av0 hw [] b165 (0 : Int32) b8 4 (4 : Int32) (ownUpd (ownUpd (ownUpd (ownUpd (fun _ => (0 : Int32)) 0 f1) 1 (l1 + (1 : Int32))) 2 f2) 3 ((own_max l2 l3) + (1 : Int32))) (ownUpd (ownUpd (ownUpd (ownUpd (ownUpd (ownUpd (fun _ => (0 : Int32)) 0 f1) 1 l1) 2 f2) 3 l2) 4 f3) 5 l3) T165.heap n0 (Nat.le_trans Z0 K165.1) FP165_0 F166 (by decide) (by decide) (by unfold ownIn; decide) (by decide) (by unfold ownIn; decide)) hZ (ww 76 rfl) (ww 68 rfl) (by decide) (by decide)) (g := (mkF m 452 #[iv p0, iv p1, iv p2, iv p3, iv p4, iv p5, iv (1114112 : Int32), iv f1, iv l1, iv f2, iv l2, iv f3, iv l3, rv b8, rv b16, iv (1 : Int32), rv b165, iv f1, iv v174, iv f2, iv v175, iv f3, iv v176, iv nk6] [(.ref b8), (.int (0 : Int32)), (.ref b165)])) rfl (by rw [hml]; rfl) (argsL := [(.ref b165), (.int (0 : Int32)), (.ref b8)]) (rest := []) (lenOf own_pd8 rfl) rfl (by show 2 * 0 + _ ≤ _; exact Nat.le_of_eq rfl) (hb hby at_452) (fun _ _ => ⟨rfl, ec177, (by decide : 7 + 0 ≤ _), (by decide : 37 + 0 ≤ _)⟩)
            dsimp only [Pt.U, Pt.locs, Pt.cells, Pt.slots] at X178 l178 y178 z178 st178 hQ178
            subst l178 y178 z178
            obtain ⟨rfl, N178q, e178⟩ := hQ178
            have N178 := Fr.app Nc177 N178q
            refine ownGo (T' := T178) (f' := (mkF m 455 #[iv p0, iv p1, iv p2, iv p3, iv p4, iv p5, iv (1114112 : Int32), iv f1, iv l1, iv f2, iv l2, iv f3, iv l3, rv b8, rv b16, iv (1 : Int32), rv b165, iv f1, iv v174, iv f2, iv v175, iv f3, iv v176, iv nk6] [(.int (if (own_ch f1 l1 f2 l2 f3 l3 f1) = (0 : Int32) then (0 : Int32) else if f1 < (l1 + (1 : Int32)) then (1 : Int32) else (0 : Int32)))])) (st178) ?_
            refine ow_ifNo (q := 458) X178 hx (hb hby at_455) rfl (Jvm.Free.XT.i0_eq_f (own_ok_aml_0 hr hm2 hm3 hmx)) ?_
            refine ow_aload (q := 460) X178 hx (hb hby at_458) rfl rfl rfl ?_
            refine ow_iconst (q := 461) X178 hx (1 : Int32) (hb hby at_460) rfl rfl ?_
            refine ow_aload (q := 463) X178 hx (hb hby at_461) rfl rfl rfl ?_
            obtain ⟨_, _, ⟨T179, L179, k179, n179⟩, -, X179, ⟨Lc179, hQ179, l179, y179, z179⟩, st179⟩ := Jvm.LawKit.callS X178 hx (y := (⟨"com/example/shapewright/shapewright/regex/BuilderAddPinLaw", "okAt", "([II[I)Z"⟩ : MethodName)) hown (mvT hZ (ww 74 rfl)) (mvT hZ (ww 75 rfl)) (mvT hZ (ww 68 rfl)) (mvT hZ (ww 76 rfl)) (by decide) (backOf (W := 0) (rm_okC l Z av0 hw [] b165 (1 : Int32) b8 4 (4 : Int32) (ownUpd (ownUpd (ownUpd (ownUpd (fun _ => (0 : Int32)) 0 f1) 1 (l1 + (1 : Int32))) 2 f2) 3 ((own_max l2 l3) + (1 : Int32))) (ownUpd (ownUpd (ownUpd (ownUpd (ownUpd (ownUpd (fun _ => (0 : Int32)) 0 f1) 1 l1) 2 f2) 3 l2) 4 f3) 5 l3) T165.heap n0 (Nat.le_trans Z0 K165.1) FP165_0 F166 (by decide) (by decide) (by unfold ownIn; decide) (by decide) (by unfold ownIn; decide)) hZ (ww 76 rfl) (ww 68 rfl) (by decide) (by decide)) (g := (mkF m 463 #[iv p0, iv p1, iv p2, iv p3, iv p4, iv p5, iv (1114112 : Int32), iv f1, iv l1, iv f2, iv l2, iv f3, iv l3, rv b8, rv b16, iv (1 : Int32), rv b165, iv f1, iv v174, iv f2, iv v175, iv f3, iv v176, iv nk6] [(.ref b8), (.int (1 : Int32)), (.ref b165)])) rfl (by rw [hml]; rfl) (argsL := [(.ref b165), (.int (1 : Int32)), (.ref b8)]) (rest := []) (lenOf own_pd8 rfl) rfl (by show 2 * 0 + _ ≤ _; exact Nat.le_of_eq rfl) (hb hby at_463) (fun _ _ => ⟨rfl, e178, (by decide : 7 + 0 ≤ _), (by decide : 37 + 0 ≤ _)⟩)
            dsimp only [Pt.U, Pt.locs, Pt.cells, Pt.slots] at X179 l179 y179 z179 st179 hQ179
            subst l179 y179 z179
            obtain ⟨rfl, N179q, e179⟩ := hQ179
            have N179 := Fr.app N178 N179q
            refine ownGo (T' := T179) (f' := (mkF m 466 #[iv p0, iv p1, iv p2, iv p3, iv p4, iv p5, iv (1114112 : Int32), iv f1, iv l1, iv f2, iv l2, iv f3, iv l3, rv b8, rv b16, iv (1 : Int32), rv b165, iv f1, iv v174, iv f2, iv v175, iv f3, iv v176, iv nk6] [(.int (if (own_ch f1 l1 f2 l2 f3 l3 (l1 + (1 : Int32))) = (0 : Int32) then (0 : Int32) else if (l1 + (1 : Int32)) < f2 then (1 : Int32) else (0 : Int32)))])) (st179) ?_
            refine ow_ifNo (q := 469) X179 hx (hb hby at_466) rfl (Jvm.Free.XT.i0_eq_f (own_ok_aml_1 hr hm2 hm3 hmx)) ?_
            refine ow_aload (q := 471) X179 hx (hb hby at_469) rfl rfl rfl ?_
            refine ow_iconst (q := 472) X179 hx (2 : Int32) (hb hby at_471) rfl rfl ?_
            refine ow_aload (q := 474) X179 hx (hb hby at_472) rfl rfl rfl ?_
            obtain ⟨_, _, ⟨T180, L180, k180, n180⟩, -, X180, ⟨Lc180, hQ180, l180, y180, z180⟩, st180⟩ := Jvm.LawKit.callS X179 hx (y := (⟨"com/example/shapewright/shapewright/regex/BuilderAddPinLaw", "okAt", "([II[I)Z"⟩ : MethodName)) hown (mvT hZ (ww 74 rfl)) (mvT hZ (ww 75 rfl)) (mvT hZ (ww 68 rfl)) (mvT hZ (ww 76 rfl)) (by decide) (backOf (W := 0) (rm_okC l Z av0 hw [] b165 (2 : Int32) b8 4 (4 : Int32) (ownUpd (ownUpd (ownUpd (ownUpd (fun _ => (0 : Int32)) 0 f1) 1 (l1 + (1 : Int32))) 2 f2) 3 ((own_max l2 l3) + (1 : Int32))) (ownUpd (ownUpd (ownUpd (ownUpd (ownUpd (ownUpd (fun _ => (0 : Int32)) 0 f1) 1 l1) 2 f2) 3 l2) 4 f3) 5 l3) T165.heap n0 (Nat.le_trans Z0 K165.1) FP165_0 F166 (by decide) (by decide) (by unfold ownIn; decide) (by decide) (by unfold ownIn; decide)) hZ (ww 76 rfl) (ww 68 rfl) (by decide) (by decide)) (g := (mkF m 474 #[iv p0, iv p1, iv p2, iv p3, iv p4, iv p5, iv (1114112 : Int32), iv f1, iv l1, iv f2, iv l2, iv f3, iv l3, rv b8, rv b16, iv (1 : Int32), rv b165, iv f1, iv v174, iv f2, iv v175, iv f3, iv v176, iv nk6] [(.ref b8), (.int (2 : Int32)), (.ref b165)])) rfl (by rw [hml]; rfl) (argsL := [(.ref b165), (.int (2 : Int32)), (.ref b8)]) (rest := []) (lenOf own_pd8 rfl) rfl (by show 2 * 0 + _ ≤ _; exact Nat.le_of_eq rfl) (hb hby at_474) (fun _ _ => ⟨rfl, e179, (by decide : 7 + 0 ≤ _), (by decide : 37 + 0 ≤ _)⟩)
            dsimp only [Pt.U, Pt.locs, Pt.cells, Pt.slots] at X180 l180 y180 z180 st180 hQ180
            subst l180 y180 z180
            obtain ⟨rfl, N180q, e180⟩ := hQ180
            have N180 := Fr.app N179 N180q
            refine ownGo (T' := T180) (f' := (mkF m 477 #[iv p0, iv p1, iv p2, iv p3, iv p4, iv p5, iv (1114112 : Int32), iv f1, iv l1, iv f2, iv l2, iv f3, iv l3, rv b8, rv b16, iv (1 : Int32), rv b165, iv f1, iv v174, iv f2, iv v175, iv f3, iv v176, iv nk6] [(.int (if (own_ch f1 l1 f2 l2 f3 l3 f2) = (0 : Int32) then (0 : Int32) else if f2 < ((own_max l2 l3) + (1 : Int32)) then (1 : Int32) else (0 : Int32)))])) (st180) ?_
            refine ow_ifNo (q := 480) X180 hx (hb hby at_477) rfl (Jvm.Free.XT.i0_eq_f (own_ok_aml_2 hr hm2 hm3 hmx)) ?_
            refine ow_aload (q := 482) X180 hx (hb hby at_480) rfl rfl rfl ?_
            refine ow_iconst (q := 483) X180 hx (3 : Int32) (hb hby at_482) rfl rfl ?_
            refine ow_aload (q := 485) X180 hx (hb hby at_483) rfl rfl rfl ?_
            obtain ⟨_, _, ⟨T181, L181, k181, n181⟩, -, X181, ⟨Lc181, hQ181, l181, y181, z181⟩, st181⟩ := Jvm.LawKit.callS X180 hx (y := (⟨"com/example/shapewright/shapewright/regex/BuilderAddPinLaw", "okAt", "([II[I)Z"⟩ : MethodName)) hown (mvT hZ (ww 74 rfl)) (mvT hZ (ww 75 rfl)) (mvT hZ (ww 68 rfl)) (mvT hZ (ww 76 rfl)) (by decide) (backOf (W := 0) (rm_okB l Z av0 hw [] b165 (3 : Int32) b8 4 (4 : Int32) (ownUpd (ownUpd (ownUpd (ownUpd (fun _ => (0 : Int32)) 0 f1) 1 (l1 + (1 : Int32))) 2 f2) 3 ((own_max l2 l3) + (1 : Int32))) (ownUpd (ownUpd (ownUpd (ownUpd (ownUpd (ownUpd (fun _ => (0 : Int32)) 0 f1) 1 l1) 2 f2) 3 l2) 4 f3) 5 l3) T165.heap n0 (Nat.le_trans Z0 K165.1) FP165_0 F166 (by decide) (by decide) (by unfold ownIn; decide) (by decide)) hZ (ww 76 rfl) (ww 68 rfl) (by decide) (by decide)) (g := (mkF m 485 #[iv p0, iv p1, iv p2, iv p3, iv p4, iv p5, iv (1114112 : Int32), iv f1, iv l1, iv f2, iv l2, iv f3, iv l3, rv b8, rv b16, iv (1 : Int32), rv b165, iv f1, iv v174, iv f2, iv v175, iv f3, iv v176, iv nk6] [(.ref b8), (.int (3 : Int32)), (.ref b165)])) rfl (by rw [hml]; rfl) (argsL := [(.ref b165), (.int (3 : Int32)), (.ref b8)]) (rest := []) (lenOf own_pd8 rfl) rfl (by show 2 * 0 + _ ≤ _; exact Nat.le_of_eq rfl) (hb hby at_485) (fun _ _ => ⟨rfl, e180, (by decide : 7 + 0 ≤ _), (by decide : 37 + 0 ≤ _)⟩)
            dsimp only [Pt.U, Pt.locs, Pt.cells, Pt.slots] at X181 l181 y181 z181 st181 hQ181
            subst l181 y181 z181
            obtain ⟨rfl, N181q, e181⟩ := hQ181
            have N181 := Fr.app N180 N181q
            refine ownGo (T' := T181) (f' := (mkF m 488 #[iv p0, iv p1, iv p2, iv p3, iv p4, iv p5, iv (1114112 : Int32), iv f1, iv l1, iv f2, iv l2, iv f3, iv l3, rv b8, rv b16, iv (1 : Int32), rv b165, iv f1, iv v174, iv f2, iv v175, iv f3, iv v176, iv nk6] [(.int (if (own_ch f1 l1 f2 l2 f3 l3 ((own_max l2 l3) + (1 : Int32))) = (0 : Int32) then (0 : Int32) else (1 : Int32)))])) (st181) ?_
            refine ow_ifNo (q := 491) X181 hx (hb hby at_488) rfl (Jvm.Free.XT.i0_eq_f (own_ok_aml_3 hr hm2 hm3 hmx)) ?_
            refine ow_aload (q := 493) X181 hx (hb hby at_491) rfl rfl rfl ?_
            refine ow_iconst (q := 494) X181 hx (4 : Int32) (hb hby at_493) rfl rfl ?_
            refine ow_aload (q := 496) X181 hx (hb hby at_494) rfl rfl rfl ?_
            obtain ⟨_, _, ⟨T182, L182, k182, n182⟩, -, X182, ⟨Lc182, hQ182, l182, y182, z182⟩, st182⟩ := Jvm.LawKit.callS X181 hx (y := (⟨"com/example/shapewright/shapewright/regex/BuilderAddPinLaw", "okAt", "([II[I)Z"⟩ : MethodName)) hown (mvT hZ (ww 74 rfl)) (mvT hZ (ww 75 rfl)) (mvT hZ (ww 68 rfl)) (mvT hZ (ww 76 rfl)) (by decide) (backOf (W := 0) (rm_okA l Z av0 hw [] b165 (4 : Int32) b8 4 (4 : Int32) (ownUpd (ownUpd (ownUpd (ownUpd (fun _ => (0 : Int32)) 0 f1) 1 (l1 + (1 : Int32))) 2 f2) 3 ((own_max l2 l3) + (1 : Int32))) (ownUpd (ownUpd (ownUpd (ownUpd (ownUpd (ownUpd (fun _ => (0 : Int32)) 0 f1) 1 l1) 2 f2) 3 l2) 4 f3) 5 l3) T165.heap n0 (Nat.le_trans Z0 K165.1) FP165_0 F166 (by decide) (by decide)) hZ (ww 76 rfl) (ww 68 rfl) (by decide) (by decide)) (g := (mkF m 496 #[iv p0, iv p1, iv p2, iv p3, iv p4, iv p5, iv (1114112 : Int32), iv f1, iv l1, iv f2, iv l2, iv f3, iv l3, rv b8, rv b16, iv (1 : Int32), rv b165, iv f1, iv v174, iv f2, iv v175, iv f3, iv v176, iv nk6] [(.ref b8), (.int (4 : Int32)), (.ref b165)])) rfl (by rw [hml]; rfl) (argsL := [(.ref b165), (.int (4 : Int32)), (.ref b8)]) (rest := []) (lenOf own_pd8 rfl) rfl (by show 2 * 0 + _ ≤ _; exact Nat.le_of_eq rfl) (hb hby at_496) (fun _ _ => ⟨rfl, e181, (by decide : 7 + 0 ≤ _), (by decide : 37 + 0 ≤ _)⟩)
            dsimp only [Pt.U, Pt.locs, Pt.cells, Pt.slots] at X182 l182 y182 z182 st182 hQ182
            subst l182 y182 z182
            obtain ⟨rfl, N182q, e182⟩ := hQ182
            have N182 := Fr.app N181 N182q
            refine ownGo (T' := T182) (f' := (mkF m 499 #[iv p0, iv p1, iv p2, iv p3, iv p4, iv p5, iv (1114112 : Int32), iv f1, iv l1, iv f2, iv l2, iv f3, iv l3, rv b8, rv b16, iv (1 : Int32), rv b165, iv f1, iv v174, iv f2, iv v175, iv f3, iv v176, iv nk6] [(.int (1 : Int32))])) (st182) ?_
            refine ow_ifNo (q := 502) X182 hx (hb hby at_499) rfl (Jvm.Free.XT.i0_eq_f (by decide)) ?_
            refine ow_aload (q := 504) X182 hx (hb hby at_502) rfl rfl rfl ?_
            refine ow_iconst (q := 505) X182 hx (5 : Int32) (hb hby at_504) rfl rfl ?_
            refine ow_aload (q := 507) X182 hx (hb hby at_505) rfl rfl rfl ?_
            obtain ⟨_, _, ⟨T183, L183, k183, n183⟩, -, X183, ⟨Lc183, hQ183, l183, y183, z183⟩, st183⟩ := Jvm.LawKit.callS X182 hx (y := (⟨"com/example/shapewright/shapewright/regex/BuilderAddPinLaw", "okAt", "([II[I)Z"⟩ : MethodName)) hown (mvT hZ (ww 74 rfl)) (mvT hZ (ww 75 rfl)) (mvT hZ (ww 68 rfl)) (mvT hZ (ww 76 rfl)) (by decide) (backOf (W := 0) (rm_okA l Z av0 hw [] b165 (5 : Int32) b8 4 (4 : Int32) (ownUpd (ownUpd (ownUpd (ownUpd (fun _ => (0 : Int32)) 0 f1) 1 (l1 + (1 : Int32))) 2 f2) 3 ((own_max l2 l3) + (1 : Int32))) (ownUpd (ownUpd (ownUpd (ownUpd (ownUpd (ownUpd (fun _ => (0 : Int32)) 0 f1) 1 l1) 2 f2) 3 l2) 4 f3) 5 l3) T165.heap n0 (Nat.le_trans Z0 K165.1) FP165_0 F166 (by decide) (by decide)) hZ (ww 76 rfl) (ww 68 rfl) (by decide) (by decide)) (g := (mkF m 507 #[iv p0, iv p1, iv p2, iv p3, iv p4, iv p5, iv (1114112 : Int32), iv f1, iv l1, iv f2, iv l2, iv f3, iv l3, rv b8, rv b16, iv (1 : Int32), rv b165, iv f1, iv v174, iv f2, iv v175, iv f3, iv v176, iv nk6] [(.ref b8), (.int (5 : Int32)), (.ref b165)])) rfl (by rw [hml]; rfl) (argsL := [(.ref b165), (.int (5 : Int32)), (.ref b8)]) (rest := []) (lenOf own_pd8 rfl) rfl (by show 2 * 0 + _ ≤ _; exact Nat.le_of_eq rfl) (hb hby at_507) (fun _ _ => ⟨rfl, e182, (by decide : 7 + 0 ≤ _), (by decide : 37 + 0 ≤ _)⟩)
            dsimp only [Pt.U, Pt.locs, Pt.cells, Pt.slots] at X183 l183 y183 z183 st183 hQ183
            subst l183 y183 z183
            obtain ⟨rfl, N183q, e183⟩ := hQ183
            have N183 := Fr.app N182 N183q
            refine ownGo (T' := T183) (f' := (mkF m 510 #[iv p0, iv p1, iv p2, iv p3, iv p4, iv p5, iv (1114112 : Int32), iv f1, iv l1, iv f2, iv l2, iv f3, iv l3, rv b8, rv b16, iv (1 : Int32), rv b165, iv f1, iv v174, iv f2, iv v175, iv f3, iv v176, iv nk6] [(.int (1 : Int32))])) (st183) ?_
            refine ow_ifNo (q := 513) X183 hx (hb hby at_510) rfl (Jvm.Free.XT.i0_eq_f (by decide)) ?_
            refine ow_iconst (q := 514) X183 hx (1 : Int32) (hb hby at_513) rfl rfl ?_
            refine ow_goto (q := 518) X183 hx (hb hby at_514) (by decide) (by decide) ?_
            refine ownRetN X183 hx (r := (1 : Int32)) (Or.inl rfl) Bd.returns (hb hby at_518) hlk (by decide) (by decide) (by decide) ?_
            exact ⟨rfl, N183⟩
          have cut386_184 : ∀ (nk5 : Int32) (Tc184 : State) (lc184 : List Loc), Stand p l e room_1 s m #[(.int p0), (.int p1), (.int p2), (.int p3), (.int p4), (.int p5)] below meth c Tc184 lc184 7 37 → Tc184.heap = T165.heap → Fr n0 lc184 → (nk5.toInt = (own_s5 f1 l1 f2 l2 f3 l3 f1 v174 f2 v175 f3) ∧ 0 ≤ nk5.toInt ∧ nk5.toInt ≤ ((5 : Nat) : Int)) → ownEnds p e below s (Q_law Z p0 p1 p2 p3 p4 p5 h0 n0) 24 192 Tc184 (mkF m 386 #[iv p0, iv p1, iv p2, iv p3, iv p4, iv p5, iv (1114112 : Int32), iv f1, iv l1, iv f2, iv l2, iv f3, iv l3, rv b8, rv b16, iv (1 : Int32), rv b165, iv f1, iv v174, iv f2, iv v175, iv f3, iv v176, iv nk5] []) := by
            intro nk5 Tc184 lc184 Xc184 ec184 Nc184 hn5
            refine ow_aload (q := 388) Xc184 hx (hb hby at_386) rfl rfl rfl ?_
            refine ow_iload (q := 390) Xc184 hx (hb hby at_388) rfl rfl ?_
            obtain ⟨_, _, ⟨T185, L185, k185, n185⟩, -, X185, ⟨Lc185, hQ185, l185, y185, z185⟩, st185⟩ := Jvm.LawKit.callS Xc184 hx (y := (⟨"com/example/shapewright/shapewright/regex/BuilderAddPinLaw", "ch", "([II)Z"⟩ : MethodName)) hown (mvT hZ (ww 66 rfl)) (mvT hZ (ww 67 rfl)) (mvT hZ (ww 68 rfl)) (mvT hZ (ww 69 rfl)) (by decide) (backOf (W := 0) (rm_ch l Z av0 hw [] b8 v176 (ownUpd (ownUpd (ownUpd (ownUpd (ownUpd (ownUpd (fun _ => (0 : Int32)) 0 f1) 1 l1) 2 f2) 3 l2) 4 f3) 5 l3) T165.heap n0 (Nat.le_trans Z0 K165.1) F166) hZ (ww 69 rfl) (ww 68 rfl) (by decide) (by decide)) (g := (mkF m 390 #[iv p0, iv p1, iv p2, iv p3, iv p4, iv p5, iv (1114112 : Int32), iv f1, iv l1, iv f2, iv l2, iv f3, iv l3, rv b8, rv b16, iv (1 : Int32), rv b165, iv f1, iv v174, iv f2, iv v175, iv f3, iv v176, iv nk5] [(.int v176), (.ref b8)])) rfl (by rw [hml]; rfl) (argsL := [(.ref b8), (.int v176)]) (rest := []) (lenOf own_pd3 rfl) rfl (by show 2 * 0 + _ ≤ _; exact Nat.le_of_eq rfl) (hb hby at_390) (fun _ _ => ⟨rfl, ec184, (by decide : 7 + 0 ≤ _), (by decide : 37 + 0 ≤ _)⟩)
            dsimp only [Pt.U, Pt.locs, Pt.cells, Pt.slots] at X185 l185 y185 z185 st185 hQ185
            subst l185 y185 z185
            obtain ⟨rfl, N185q, e185⟩ := hQ185
            have N185 := Fr.app Nc184 N185q
            refine ownGo (T' := T185) (f' := (mkF m 393 #[iv p0, iv p1, iv p2, iv p3, iv p4, iv p5, iv (1114112 : Int32), iv f1, iv l1, iv f2, iv l2, iv f3, iv l3, rv b8, rv b16, iv (1 : Int32), rv b165, iv f1, iv v174, iv f2, iv v175, iv f3, iv v176, iv nk5] [(.int (own_ch f1 l1 f2 l2 f3 l3 v176))])) (st185) ?_
            by_cases hc393_186 : (own_ch f1 l1 f2 l2 f3 l3 v176) = (0 : Int32)
            · refine ow_ifYes (q := 434) X185 hx (hb hby at_393) (Jvm.Free.XT.i0_eq_t hc393_186) (by decide) (by decide) ?_
              exact cut434_177 nk5 _ _ X185 e185 N185 (own_nk0 (k := 5) hn5 (by simp [hc393_186]))
            · refine ow_ifNo (q := 396) X185 hx (hb hby at_393) rfl (Jvm.Free.XT.i0_eq_f hc393_186) ?_
              refine ow_iload (q := 398) X185 hx (hb hby at_396) rfl rfl ?_
              refine ow_iload (q := 400) X185 hx (hb hby at_398) rfl rfl ?_
              by_cases hc400_187 : v176 = f1
              · refine ow_icmpYes (q := 434) X185 hx (hb hby at_400) (Jvm.Free.XT.ii_eq_t hc400_187) (by decide) (by decide) ?_
                exact cut434_177 nk5 _ _ X185 e185 N185 (own_nk0 (k := 5) hn5 (Or.inr (by simp [hc400_187])))
              · refine ow_icmpNo (q := 403) X185 hx (hb hby at_400) rfl (Jvm.Free.XT.ii_eq_f hc400_187) ?_
                refine ow_iload (q := 405) X185 hx (hb hby at_403) rfl rfl ?_
                refine ow_iload (q := 407) X185 hx (hb hby at_405) rfl rfl ?_
                by_cases hc407_188 : v176 = v174
                · refine ow_icmpYes (q := 434) X185 hx (hb hby at_407) (Jvm.Free.XT.ii_eq_t hc407_188) (by decide) (by decide) ?_
                  exact cut434_177 nk5 _ _ X185 e185 N185 (own_nk0 (k := 5) hn5 (Or.inr (by simp [hc407_188])))
                · refine ow_icmpNo (q := 410) X185 hx (hb hby at_407) rfl (Jvm.Free.XT.ii_eq_f hc407_188) ?_
                  refine ow_iload (q := 412) X185 hx (hb hby at_410) rfl rfl ?_
                  refine ow_iload (q := 414) X185 hx (hb hby at_412) rfl rfl ?_
                  by_cases hc414_189 : v176 = f2
                  · refine ow_icmpYes (q := 434) X185 hx (hb hby at_414) (Jvm.Free.XT.ii_eq_t hc414_189) (by decide) (by decide) ?_
                    exact cut434_177 nk5 _ _ X185 e185 N185 (own_nk0 (k := 5) hn5 (Or.inr (by simp [hc414_189])))
                  · refine ow_icmpNo (q := 417) X185 hx (hb hby at_414) rfl (Jvm.Free.XT.ii_eq_f hc414_189) ?_
                    refine ow_iload (q := 419) X185 hx (hb hby at_417) rfl rfl ?_
                    refine ow_iload (q := 421) X185 hx (hb hby at_419) rfl rfl ?_
                    by_cases hc421_190 : v176 = v175
                    · refine ow_icmpYes (q := 434) X185 hx (hb hby at_421) (Jvm.Free.XT.ii_eq_t hc421_190) (by decide) (by decide) ?_
                      exact cut434_177 nk5 _ _ X185 e185 N185 (own_nk0 (k := 5) hn5 (Or.inr (by simp [hc421_190])))
                    · refine ow_icmpNo (q := 424) X185 hx (hb hby at_421) rfl (Jvm.Free.XT.ii_eq_f hc421_190) ?_
                      refine ow_iload (q := 426) X185 hx (hb hby at_424) rfl rfl ?_
                      refine ow_iload (q := 428) X185 hx (hb hby at_426) rfl rfl ?_
                      by_cases hc428_191 : v176 = f3
                      · refine ow_icmpYes (q := 434) X185 hx (hb hby at_428) (Jvm.Free.XT.ii_eq_t hc428_191) (by decide) (by decide) ?_
                        exact cut434_177 nk5 _ _ X185 e185 N185 (own_nk0 (k := 5) hn5 (Or.inr (by simp [hc428_191])))
                      · refine ow_icmpNo (q := 431) X185 hx (hb hby at_428) rfl (Jvm.Free.XT.ii_eq_f hc428_191) ?_
                        refine ow_iinc (q := 434) X185 hx (L' := #[iv p0, iv p1, iv p2, iv p3, iv p4, iv p5, iv (1114112 : Int32), iv f1, iv l1, iv f2, iv l2, iv f3, iv l3, rv b8, rv b16, iv (1 : Int32), rv b165, iv f1, iv v174, iv f2, iv v175, iv f3, iv v176, iv (nk5 + (1 : Int32))]) (hb hby at_431) rfl rfl rfl ?_
                        generalize hv_v192 : (nk5 + (1 : Int32)) = v192
                        exact cut434_177 v192 _ _ X185 e185 N185 (own_nk1 (k := 5) hn5 hv_v192 (by simp [hc393_186, hc400_187, hc407_188, hc414_189, hc421_190, hc428_191]))
          have cut345_193 : ∀ (nk4 : Int32) (Tc193 : State) (lc193 : List Loc), Stand p l e room_1 s m #[(.int p0), (.int p1), (.int p2), (.int p3), (.int p4), (.int p5)] below meth c Tc193 lc193 7 37 → Tc193.heap = T165.heap → Fr n0 lc193 → (nk4.toInt = (own_s4 f1 l1 f2 l2 f3 l3 f1 v174 f2 v175) ∧ 0 ≤ nk4.toInt ∧ nk4.toInt ≤ ((4 : Nat) : Int)) → ownEnds p e below s (Q_law Z p0 p1 p2 p3 p4 p5 h0 n0) 24 192 Tc193 (mkF m 345 #[iv p0, iv p1, iv p2, iv p3, iv p4, iv p5, iv (1114112 : Int32), iv f1, iv l1, iv f2, iv l2, iv f3, iv l3, rv b8, rv b16, iv (1 : Int32), rv b165, iv f1, iv v174, iv f2, iv v175, iv f3, iv v176, iv nk4] []) := by
            intro nk4 Tc193 lc193 Xc193 ec193 Nc193 hn4
            refine ow_aload (q := 347) Xc193 hx (hb hby at_345) rfl rfl rfl ?_
            refine ow_iload (q := 349) Xc193 hx (hb hby at_347) rfl rfl ?_
            obtain ⟨_, _, ⟨T194, L194, k194, n194⟩, -, X194, ⟨Lc194, hQ194, l194, y194, z194⟩, st194⟩ := Jvm.LawKit.callS Xc193 hx (y := (⟨"com/example/shapewright/shapewright/regex/BuilderAddPinLaw", "ch", "([II)Z"⟩ : MethodName)) hown (mvT hZ (ww 66 rfl)) (mvT hZ (ww 67 rfl)) (mvT hZ (ww 68 rfl)) (mvT hZ (ww 69 rfl)) (by decide) (backOf (W := 0) (rm_ch l Z av0 hw [] b8 f3 (ownUpd (ownUpd (ownUpd (ownUpd (ownUpd (ownUpd (fun _ => (0 : Int32)) 0 f1) 1 l1) 2 f2) 3 l2) 4 f3) 5 l3) T165.heap n0 (Nat.le_trans Z0 K165.1) F166) hZ (ww 69 rfl) (ww 68 rfl) (by decide) (by decide)) (g := (mkF m 349 #[iv p0, iv p1, iv p2, iv p3, iv p4, iv p5, iv (1114112 : Int32), iv f1, iv l1, iv f2, iv l2, iv f3, iv l3, rv b8, rv b16, iv (1 : Int32), rv b165, iv f1, iv v174, iv f2, iv v175, iv f3, iv v176, iv nk4] [(.int f3), (.ref b8)])) rfl (by rw [hml]; rfl) (argsL := [(.ref b8), (.int f3)]) (rest := []) (lenOf own_pd3 rfl) rfl (by show 2 * 0 + _ ≤ _; exact Nat.le_of_eq rfl) (hb hby at_349) (fun _ _ => ⟨rfl, ec193, (by decide : 7 + 0 ≤ _), (by decide : 37 + 0 ≤ _)⟩)
            dsimp only [Pt.U, Pt.locs, Pt.cells, Pt.slots] at X194 l194 y194 z194 st194 hQ194
            subst l194 y194 z194
            obtain ⟨rfl, N194q, e194⟩ := hQ194
            have N194 := Fr.app Nc193 N194q
            refine ownGo (T' := T194) (f' := (mkF m 352 #[iv p0, iv p1, iv p2, iv p3, iv p4, iv p5, iv (1114112 : Int32), iv f1, iv l1, iv f2, iv l2, iv f3, iv l3, rv b8, rv b16, iv (1 : Int32), rv b165, iv f1, iv v174, iv f2, iv v175, iv f3, iv v176, iv nk4] [(.int (own_ch f1 l1 f2 l2 f3 l3 f3))])) (st194) ?_
            by_cases hc352_195 : (own_ch f1 l1 f2 l2 f3 l3 f3) = (0 : Int32)
            · refine ow_ifYes (q := 386) X194 hx (hb hby at_352) (Jvm.Free.XT.i0_eq_t hc352_195) (by decide) (by decide) ?_
              exact cut386_184 nk4 _ _ X194 e194 N194 (own_nk0 (k := 4) hn4 (by simp [hc352_195]))
            · refine ow_ifNo (q := 355) X194 hx (hb hby at_352) rfl (Jvm.Free.XT.i0_eq_f hc352_195) ?_
              refine ow_iload (q := 357) X194 hx (hb hby at_355) rfl rfl ?_
              refine ow_iload (q := 359) X194 hx (hb hby at_357) rfl rfl ?_
              by_cases hc359_196 : f3 = f1
              · refine ow_icmpYes (q := 386) X194 hx (hb hby at_359) (Jvm.Free.XT.ii_eq_t hc359_196) (by decide) (by decide) ?_
                exact cut386_184 nk4 _ _ X194 e194 N194 (own_nk0 (k := 4) hn4 (Or.inr (by simp [hc359_196])))
              · refine ow_icmpNo (q := 362) X194 hx (hb hby at_359) rfl (Jvm.Free.XT.ii_eq_f hc359_196) ?_
                refine ow_iload (q := 364) X194 hx (hb hby at_362) rfl rfl ?_
                refine ow_iload (q := 366) X194 hx (hb hby at_364) rfl rfl ?_
                by_cases hc366_197 : f3 = v174
                · refine ow_icmpYes (q := 386) X194 hx (hb hby at_366) (Jvm.Free.XT.ii_eq_t hc366_197) (by decide) (by decide) ?_
                  exact cut386_184 nk4 _ _ X194 e194 N194 (own_nk0 (k := 4) hn4 (Or.inr (by simp [hc366_197])))
                · refine ow_icmpNo (q := 369) X194 hx (hb hby at_366) rfl (Jvm.Free.XT.ii_eq_f hc366_197) ?_
                  refine ow_iload (q := 371) X194 hx (hb hby at_369) rfl rfl ?_
                  refine ow_iload (q := 373) X194 hx (hb hby at_371) rfl rfl ?_
                  by_cases hc373_198 : f3 = f2
                  · refine ow_icmpYes (q := 386) X194 hx (hb hby at_373) (Jvm.Free.XT.ii_eq_t hc373_198) (by decide) (by decide) ?_
                    exact cut386_184 nk4 _ _ X194 e194 N194 (own_nk0 (k := 4) hn4 (Or.inr (by simp [hc373_198])))
                  · refine ow_icmpNo (q := 376) X194 hx (hb hby at_373) rfl (Jvm.Free.XT.ii_eq_f hc373_198) ?_
                    refine ow_iload (q := 378) X194 hx (hb hby at_376) rfl rfl ?_
                    refine ow_iload (q := 380) X194 hx (hb hby at_378) rfl rfl ?_
                    by_cases hc380_199 : f3 = v175
                    · refine ow_icmpYes (q := 386) X194 hx (hb hby at_380) (Jvm.Free.XT.ii_eq_t hc380_199) (by decide) (by decide) ?_
                      exact cut386_184 nk4 _ _ X194 e194 N194 (own_nk0 (k := 4) hn4 (Or.inr (by simp [hc380_199])))
                    · refine ow_icmpNo (q := 383) X194 hx (hb hby at_380) rfl (Jvm.Free.XT.ii_eq_f hc380_199) ?_
                      refine ow_iinc (q := 386) X194 hx (L' := #[iv p0, iv p1, iv p2, iv p3, iv p4, iv p5, iv (1114112 : Int32), iv f1, iv l1, iv f2, iv l2, iv f3, iv l3, rv b8, rv b16, iv (1 : Int32), rv b165, iv f1, iv v174, iv f2, iv v175, iv f3, iv v176, iv (nk4 + (1 : Int32))]) (hb hby at_383) rfl rfl rfl ?_
                      generalize hv_v200 : (nk4 + (1 : Int32)) = v200
                      exact cut386_184 v200 _ _ X194 e194 N194 (own_nk1 (k := 4) hn4 hv_v200 (by simp [hc352_195, hc359_196, hc366_197, hc373_198, hc380_199]))
          have cut311_201 : ∀ (nk3 : Int32) (Tc201 : State) (lc201 : List Loc), Stand p l e room_1 s m #[(.int p0), (.int p1), (.int p2), (.int p3), (.int p4), (.int p5)] below meth c Tc201 lc201 7 37 → Tc201.heap = T165.heap → Fr n0 lc201 → (nk3.toInt = (own_s3 f1 l1 f2 l2 f3 l3 f1 v174 f2) ∧ 0 ≤ nk3.toInt ∧ nk3.toInt ≤ ((3 : Nat) : Int)) → ownEnds p e below s (Q_law Z p0 p1 p2 p3 p4 p5 h0 n0) 24 192 Tc201 (mkF m 311 #[iv p0, iv p1, iv p2, iv p3, iv p4, iv p5, iv (1114112 : Int32), iv f1, iv l1, iv f2, iv l2, iv f3, iv l3, rv b8, rv b16, iv (1 : Int32), rv b165, iv f1, iv v174, iv f2, iv v175, iv f3, iv v176, iv nk3] []) := by
            intro nk3 Tc201 lc201 Xc201 ec201 Nc201 hn3
            refine ow_aload (q := 313) Xc201 hx (hb hby at_311) rfl rfl rfl ?_
            refine ow_iload (q := 315) Xc201 hx (hb hby at_313) rfl rfl ?_
            obtain ⟨_, _, ⟨T202, L202, k202, n202⟩, -, X202, ⟨Lc202, hQ202, l202, y202, z202⟩, st202⟩ := Jvm.LawKit.callS Xc201 hx (y := (⟨"com/example/shapewright/shapewright/regex/BuilderAddPinLaw", "ch", "([II)Z"⟩ : MethodName)) hown (mvT hZ (ww 66 rfl)) (mvT hZ (ww 67 rfl)) (mvT hZ (ww 68 rfl)) (mvT hZ (ww 69 rfl)) (by decide) (backOf (W := 0) (rm_ch l Z av0 hw [] b8 v175 (ownUpd (ownUpd (ownUpd (ownUpd (ownUpd (ownUpd (fun _ => (0 : Int32)) 0 f1) 1 l1) 2 f2) 3 l2) 4 f3) 5 l3) T165.heap n0 (Nat.le_trans Z0 K165.1) F166) hZ (ww 69 rfl) (ww 68 rfl) (by decide) (by decide)) (g := (mkF m 315 #[iv p0, iv p1, iv p2, iv p3, iv p4, iv p5, iv (1114112 : Int32), iv f1, iv l1, iv f2, iv l2, iv f3, iv l3, rv b8, rv b16, iv (1 : Int32), rv b165, iv f1, iv v174, iv f2, iv v175, iv f3, iv v176, iv nk3] [(.int v175), (.ref b8)])) rfl (by rw [hml]; rfl) (argsL := [(.ref b8), (.int v175)]) (rest := []) (lenOf own_pd3 rfl) rfl (by show 2 * 0 + _ ≤ _; exact Nat.le_of_eq rfl) (hb hby at_315) (fun _ _ => ⟨rfl, ec201, (by decide : 7 + 0 ≤ _), (by decide : 37 + 0 ≤ _)⟩)
            dsimp only [Pt.U, Pt.locs, Pt.cells, Pt.slots] at X202 l202 y202 z202 st202 hQ202
            subst l202 y202 z202
            obtain ⟨rfl, N202q, e202⟩ := hQ202
            have N202 := Fr.app Nc201 N202q
            refine ownGo (T' := T202) (f' := (mkF m 318 #[iv p0, iv p1, iv p2, iv p3, iv p4, iv p5, iv (1114112 : Int32), iv f1, iv l1, iv f2, iv l2, iv f3, iv l3, rv b8, rv b16, iv (1 : Int32), rv b165, iv f1, iv v174, iv f2, iv v175, iv f3, iv v176, iv nk3] [(.int (own_ch f1 l1 f2 l2 f3 l3 v175))])) (st202) ?_
            by_cases hc318_203 : (own_ch f1 l1 f2 l2 f3 l3 v175) = (0 : Int32)
            · refine ow_ifYes (q := 345) X202 hx (hb hby at_318) (Jvm.Free.XT.i0_eq_t hc318_203) (by decide) (by decide) ?_
              exact cut345_193 nk3 _ _ X202 e202 N202 (own_nk0 (k := 3) hn3 (by simp [hc318_203]))
            · refine ow_ifNo (q := 321) X202 hx (hb hby at_318) rfl (Jvm.Free.XT.i0_eq_f hc318_203) ?_
              refine ow_iload (q := 323) X202 hx (hb hby at_321) rfl rfl ?_
              refine ow_iload (q := 325) X202 hx (hb hby at_323) rfl rfl ?_
              by_cases hc325_204 : v175 = f1
              · refine ow_icmpYes (q := 345) X202 hx (hb hby at_325) (Jvm.Free.XT.ii_eq_t hc325_204) (by decide) (by decide) ?_
                exact cut345_193 nk3 _ _ X202 e202 N202 (own_nk0 (k := 3) hn3 (Or.inr (by simp [hc325_204])))
              · refine ow_icmpNo (q := 328) X202 hx (hb hby at_325) rfl (Jvm.Free.XT.ii_eq_f hc325_204) ?_
                refine ow_iload (q := 330) X202 hx (hb hby at_328) rfl rfl ?_
                refine ow_iload (q := 332) X202 hx (hb hby at_330) rfl rfl ?_
                by_cases hc332_205 : v175 = v174
                · refine ow_icmpYes (q := 345) X202 hx (hb hby at_332) (Jvm.Free.XT.ii_eq_t hc332_205) (by decide) (by decide) ?_
                  exact cut345_193 nk3 _ _ X202 e202 N202 (own_nk0 (k := 3) hn3 (Or.inr (by simp [hc332_205])))
                · refine ow_icmpNo (q := 335) X202 hx (hb hby at_332) rfl (Jvm.Free.XT.ii_eq_f hc332_205) ?_
                  refine ow_iload (q := 337) X202 hx (hb hby at_335) rfl rfl ?_
                  refine ow_iload (q := 339) X202 hx (hb hby at_337) rfl rfl ?_
                  by_cases hc339_206 : v175 = f2
                  · refine ow_icmpYes (q := 345) X202 hx (hb hby at_339) (Jvm.Free.XT.ii_eq_t hc339_206) (by decide) (by decide) ?_
                    exact cut345_193 nk3 _ _ X202 e202 N202 (own_nk0 (k := 3) hn3 (Or.inr (by simp [hc339_206])))
                  · refine ow_icmpNo (q := 342) X202 hx (hb hby at_339) rfl (Jvm.Free.XT.ii_eq_f hc339_206) ?_
                    refine ow_iinc (q := 345) X202 hx (L' := #[iv p0, iv p1, iv p2, iv p3, iv p4, iv p5, iv (1114112 : Int32), iv f1, iv l1, iv f2, iv l2, iv f3, iv l3, rv b8, rv b16, iv (1 : Int32), rv b165, iv f1, iv v174, iv f2, iv v175, iv f3, iv v176, iv (nk3 + (1 : Int32))]) (hb hby at_342) rfl rfl rfl ?_
                    generalize hv_v207 : (nk3 + (1 : Int32)) = v207
                    exact cut345_193 v207 _ _ X202 e202 N202 (own_nk1 (k := 3) hn3 hv_v207 (by simp [hc318_203, hc325_204, hc332_205, hc339_206]))
          have cut284_208 : ∀ (nk2 : Int32) (Tc208 : State) (lc208 : List Loc), Stand p l e room_1 s m #[(.int p0), (.int p1), (.int p2), (.int p3), (.int p4), (.int p5)] below meth c Tc208 lc208 7 37 → Tc208.heap = T165.heap → Fr n0 lc208 → (nk2.toInt = (own_s2 f1 l1 f2 l2 f3 l3 f1 v174) ∧ 0 ≤ nk2.toInt ∧ nk2.toInt ≤ ((2 : Nat) : Int)) → ownEnds p e below s (Q_law Z p0 p1 p2 p3 p4 p5 h0 n0) 24 192 Tc208 (mkF m 284 #[iv p0, iv p1, iv p2, iv p3, iv p4, iv p5, iv (1114112 : Int32), iv f1, iv l1, iv f2, iv l2, iv f3, iv l3, rv b8, rv b16, iv (1 : Int32), rv b165, iv f1, iv v174, iv f2, iv v175, iv f3, iv v176, iv nk2] []) := by
            intro nk2 Tc208 lc208 Xc208 ec208 Nc208 hn2
            refine ow_aload (q := 286) Xc208 hx (hb hby at_284) rfl rfl rfl ?_
            refine ow_iload (q := 288) Xc208 hx (hb hby at_286) rfl rfl ?_
            obtain ⟨_, _, ⟨T209, L209, k209, n209⟩, -, X209, ⟨Lc209, hQ209, l209, y209, z209⟩, st209⟩ := Jvm.LawKit.callS Xc208 hx (y := (⟨"com/example/shapewright/shapewright/regex/BuilderAddPinLaw", "ch", "([II)Z"⟩ : MethodName)) hown (mvT hZ (ww 66 rfl)) (mvT hZ (ww 67 rfl)) (mvT hZ (ww 68 rfl)) (mvT hZ (ww 69 rfl)) (by decide) (backOf (W := 0) (rm_ch l Z av0 hw [] b8 f2 (ownUpd (ownUpd (ownUpd (ownUpd (ownUpd (ownUpd (fun _ => (0 : Int32)) 0 f1) 1 l1) 2 f2) 3 l2) 4 f3) 5 l3) T165.heap n0 (Nat.le_trans Z0 K165.1) F166) hZ (ww 69 rfl) (ww 68 rfl) (by decide) (by decide)) (g := (mkF m 288 #[iv p0, iv p1, iv p2, iv p3, iv p4, iv p5, iv (1114112 : Int32), iv f1, iv l1, iv f2, iv l2, iv f3, iv l3, rv b8, rv b16, iv (1 : Int32), rv b165, iv f1, iv v174, iv f2, iv v175, iv f3, iv v176, iv nk2] [(.int f2), (.ref b8)])) rfl (by rw [hml]; rfl) (argsL := [(.ref b8), (.int f2)]) (rest := []) (lenOf own_pd3 rfl) rfl (by show 2 * 0 + _ ≤ _; exact Nat.le_of_eq rfl) (hb hby at_288) (fun _ _ => ⟨rfl, ec208, (by decide : 7 + 0 ≤ _), (by decide : 37 + 0 ≤ _)⟩)
            dsimp only [Pt.U, Pt.locs, Pt.cells, Pt.slots] at X209 l209 y209 z209 st209 hQ209
            subst l209 y209 z209
            obtain ⟨rfl, N209q, e209⟩ := hQ209
            have N209 := Fr.app Nc208 N209q
            refine ownGo (T' := T209) (f' := (mkF m 291 #[iv p0, iv p1, iv p2, iv p3, iv p4, iv p5, iv (1114112 : Int32), iv f1, iv l1, iv f2, iv l2, iv f3, iv l3, rv b8, rv b16, iv (1 : Int32), rv b165, iv f1, iv v174, iv f2, iv v175, iv f3, iv v176, iv nk2] [(.int (own_ch f1 l1 f2 l2 f3 l3 f2))])) (st209) ?_
            by_cases hc291_210 : (own_ch f1 l1 f2 l2 f3 l3 f2) = (0 : Int32)
            · refine ow_ifYes (q := 311) X209 hx (hb hby at_291) (Jvm.Free.XT.i0_eq_t hc291_210) (by decide) (by decide) ?_
              exact cut311_201 nk2 _ _ X209 e209 N209 (own_nk0 (k := 2) hn2 (by simp [hc291_210]))
            · refine ow_ifNo (q := 294) X209 hx (hb hby at_291) rfl (Jvm.Free.XT.i0_eq_f hc291_210) ?_
              refine ow_iload (q := 296) X209 hx (hb hby at_294) rfl rfl ?_
              refine ow_iload (q := 298) X209 hx (hb hby at_296) rfl rfl ?_
              by_cases hc298_211 : f2 = f1
              · refine ow_icmpYes (q := 311) X209 hx (hb hby at_298) (Jvm.Free.XT.ii_eq_t hc298_211) (by decide) (by decide) ?_
                exact cut311_201 nk2 _ _ X209 e209 N209 (own_nk0 (k := 2) hn2 (Or.inr (by simp [hc298_211])))
              · refine ow_icmpNo (q := 301) X209 hx (hb hby at_298) rfl (Jvm.Free.XT.ii_eq_f hc298_211) ?_
                refine ow_iload (q := 303) X209 hx (hb hby at_301) rfl rfl ?_
                refine ow_iload (q := 305) X209 hx (hb hby at_303) rfl rfl ?_
                by_cases hc305_212 : f2 = v174
                · refine ow_icmpYes (q := 311) X209 hx (hb hby at_305) (Jvm.Free.XT.ii_eq_t hc305_212) (by decide) (by decide) ?_
                  exact cut311_201 nk2 _ _ X209 e209 N209 (own_nk0 (k := 2) hn2 (Or.inr (by simp [hc305_212])))
                · refine ow_icmpNo (q := 308) X209 hx (hb hby at_305) rfl (Jvm.Free.XT.ii_eq_f hc305_212) ?_
                  refine ow_iinc (q := 311) X209 hx (L' := #[iv p0, iv p1, iv p2, iv p3, iv p4, iv p5, iv (1114112 : Int32), iv f1, iv l1, iv f2, iv l2, iv f3, iv l3, rv b8, rv b16, iv (1 : Int32), rv b165, iv f1, iv v174, iv f2, iv v175, iv f3, iv v176, iv (nk2 + (1 : Int32))]) (hb hby at_308) rfl rfl rfl ?_
                  generalize hv_v213 : (nk2 + (1 : Int32)) = v213
                  exact cut311_201 v213 _ _ X209 e209 N209 (own_nk1 (k := 2) hn2 hv_v213 (by simp [hc291_210, hc298_211, hc305_212]))
          have cut264_214 : ∀ (nk1 : Int32) (Tc214 : State) (lc214 : List Loc), Stand p l e room_1 s m #[(.int p0), (.int p1), (.int p2), (.int p3), (.int p4), (.int p5)] below meth c Tc214 lc214 7 37 → Tc214.heap = T165.heap → Fr n0 lc214 → (nk1.toInt = (own_s1 f1 l1 f2 l2 f3 l3 f1) ∧ 0 ≤ nk1.toInt ∧ nk1.toInt ≤ ((1 : Nat) : Int)) → ownEnds p e below s (Q_law Z p0 p1 p2 p3 p4 p5 h0 n0) 24 192 Tc214 (mkF m 264 #[iv p0, iv p1, iv p2, iv p3, iv p4, iv p5, iv (1114112 : Int32), iv f1, iv l1, iv f2, iv l2, iv f3, iv l3, rv b8, rv b16, iv (1 : Int32), rv b165, iv f1, iv v174, iv f2, iv v175, iv f3, iv v176, iv nk1] []) := by
            intro nk1 Tc214 lc214 Xc214 ec214 Nc214 hn1
            refine ow_aload (q := 266) Xc214 hx (hb hby at_264) rfl rfl rfl ?_
            refine ow_iload (q := 268) Xc214 hx (hb hby at_266) rfl rfl ?_
            obtain ⟨_, _, ⟨T215, L215, k215, n215⟩, -, X215, ⟨Lc215, hQ215, l215, y215, z215⟩, st215⟩ := Jvm.LawKit.callS Xc214 hx (y := (⟨"com/example/shapewright/shapewright/regex/BuilderAddPinLaw", "ch", "([II)Z"⟩ : MethodName)) hown (mvT hZ (ww 66 rfl)) (mvT hZ (ww 67 rfl)) (mvT hZ (ww 68 rfl)) (mvT hZ (ww 69 rfl)) (by decide) (backOf (W := 0) (rm_ch l Z av0 hw [] b8 v174 (ownUpd (ownUpd (ownUpd (ownUpd (ownUpd (ownUpd (fun _ => (0 : Int32)) 0 f1) 1 l1) 2 f2) 3 l2) 4 f3) 5 l3) T165.heap n0 (Nat.le_trans Z0 K165.1) F166) hZ (ww 69 rfl) (ww 68 rfl) (by decide) (by decide)) (g := (mkF m 268 #[iv p0, iv p1, iv p2, iv p3, iv p4, iv p5, iv (1114112 : Int32), iv f1, iv l1, iv f2, iv l2, iv f3, iv l3, rv b8, rv b16, iv (1 : Int32), rv b165, iv f1, iv v174, iv f2, iv v175, iv f3, iv v176, iv nk1] [(.int v174), (.ref b8)])) rfl (by rw [hml]; rfl) (argsL := [(.ref b8), (.int v174)]) (rest := []) (lenOf own_pd3 rfl) rfl (by show 2 * 0 + _ ≤ _; exact Nat.le_of_eq rfl) (hb hby at_268) (fun _ _ => ⟨rfl, ec214, (by decide : 7 + 0 ≤ _), (by decide : 37 + 0 ≤ _)⟩)
            dsimp only [Pt.U, Pt.locs, Pt.cells, Pt.slots] at X215 l215 y215 z215 st215 hQ215
            subst l215 y215 z215
            obtain ⟨rfl, N215q, e215⟩ := hQ215
            have N215 := Fr.app Nc214 N215q
            refine ownGo (T' := T215) (f' := (mkF m 271 #[iv p0, iv p1, iv p2, iv p3, iv p4, iv p5, iv (1114112 : Int32), iv f1, iv l1, iv f2, iv l2, iv f3, iv l3, rv b8, rv b16, iv (1 : Int32), rv b165, iv f1, iv v174, iv f2, iv v175, iv f3, iv v176, iv nk1] [(.int (own_ch f1 l1 f2 l2 f3 l3 v174))])) (st215) ?_
            by_cases hc271_216 : (own_ch f1 l1 f2 l2 f3 l3 v174) = (0 : Int32)
            · refine ow_ifYes (q := 284) X215 hx (hb hby at_271) (Jvm.Free.XT.i0_eq_t hc271_216) (by decide) (by decide) ?_
              exact cut284_208 nk1 _ _ X215 e215 N215 (own_nk0 (k := 1) hn1 (by simp [hc271_216]))
            · refine ow_ifNo (q := 274) X215 hx (hb hby at_271) rfl (Jvm.Free.XT.i0_eq_f hc271_216) ?_
              refine ow_iload (q := 276) X215 hx (hb hby at_274) rfl rfl ?_
              refine ow_iload (q := 278) X215 hx (hb hby at_276) rfl rfl ?_
              by_cases hc278_217 : v174 = f1
              · refine ow_icmpYes (q := 284) X215 hx (hb hby at_278) (Jvm.Free.XT.ii_eq_t hc278_217) (by decide) (by decide) ?_
                exact cut284_208 nk1 _ _ X215 e215 N215 (own_nk0 (k := 1) hn1 (Or.inr (by simp [hc278_217])))
              · refine ow_icmpNo (q := 281) X215 hx (hb hby at_278) rfl (Jvm.Free.XT.ii_eq_f hc278_217) ?_
                refine ow_iinc (q := 284) X215 hx (L' := #[iv p0, iv p1, iv p2, iv p3, iv p4, iv p5, iv (1114112 : Int32), iv f1, iv l1, iv f2, iv l2, iv f3, iv l3, rv b8, rv b16, iv (1 : Int32), rv b165, iv f1, iv v174, iv f2, iv v175, iv f3, iv v176, iv (nk1 + (1 : Int32))]) (hb hby at_281) rfl rfl rfl ?_
                generalize hv_v218 : (nk1 + (1 : Int32)) = v218
                exact cut284_208 v218 _ _ X215 e215 N215 (own_nk1 (k := 1) hn1 hv_v218 (by simp [hc271_216, hc278_217]))
          refine ow_aload (q := 253) X165 hx (hb hby at_251) rfl rfl rfl ?_
          refine ow_iload (q := 255) X165 hx (hb hby at_253) rfl rfl ?_
          obtain ⟨_, _, ⟨T219, L219, k219, n219⟩, -, X219, ⟨Lc219, hQ219, l219, y219, z219⟩, st219⟩ := Jvm.LawKit.callS X165 hx (y := (⟨"com/example/shapewright/shapewright/regex/BuilderAddPinLaw", "ch", "([II)Z"⟩ : MethodName)) hown (mvT hZ (ww 66 rfl)) (mvT hZ (ww 67 rfl)) (mvT hZ (ww 68 rfl)) (mvT hZ (ww 69 rfl)) (by decide) (backOf (W := 0) (rm_ch l Z av0 hw [] b8 f1 (ownUpd (ownUpd (ownUpd (ownUpd (ownUpd (ownUpd (fun _ => (0 : Int32)) 0 f1) 1 l1) 2 f2) 3 l2) 4 f3) 5 l3) T165.heap n0 (Nat.le_trans Z0 K165.1) F166) hZ (ww 69 rfl) (ww 68 rfl) (by decide) (by decide)) (g := (mkF m 255 #[iv p0, iv p1, iv p2, iv p3, iv p4, iv p5, iv (1114112 : Int32), iv f1, iv l1, iv f2, iv l2, iv f3, iv l3, rv b8, rv b16, iv (1 : Int32), rv b165, iv f1, iv v174, iv f2, iv v175, iv f3, iv v176, iv (0 : Int32)] [(.int f1), (.ref b8)])) rfl (by rw [hml]; rfl) (argsL := [(.ref b8), (.int f1)]) (rest := []) (lenOf own_pd3 rfl) rfl (by show 2 * 0 + _ ≤ _; exact Nat.le_of_eq rfl) (hb hby at_255) (fun _ _ => ⟨rfl, rfl, (by decide : 7 + 0 ≤ _), (by decide : 37 + 0 ≤ _)⟩)
          dsimp only [Pt.U, Pt.locs, Pt.cells, Pt.slots] at X219 l219 y219 z219 st219 hQ219
          subst l219 y219 z219
          obtain ⟨rfl, N219q, e219⟩ := hQ219
          have N219 := Fr.app N165 N219q
          refine ownGo (T' := T219) (f' := (mkF m 258 #[iv p0, iv p1, iv p2, iv p3, iv p4, iv p5, iv (1114112 : Int32), iv f1, iv l1, iv f2, iv l2, iv f3, iv l3, rv b8, rv b16, iv (1 : Int32), rv b165, iv f1, iv v174, iv f2, iv v175, iv f3, iv v176, iv (0 : Int32)] [(.int (own_ch f1 l1 f2 l2 f3 l3 f1))])) (st219) ?_
          by_cases hc258_220 : (own_ch f1 l1 f2 l2 f3 l3 f1) = (0 : Int32)
          · refine ow_ifYes (q := 264) X219 hx (hb hby at_258) (Jvm.Free.XT.i0_eq_t hc258_220) (by decide) (by decide) ?_
            exact cut264_214 (0 : Int32) _ _ X219 e219 N219 (own_nk0 (k := 0) (by decide : (0 : Int32).toInt = (0 : Int) ∧ 0 ≤ (0 : Int32).toInt ∧ (0 : Int32).toInt ≤ ((0 : Nat) : Int)) (by simp [hc258_220]))
          · refine ow_ifNo (q := 261) X219 hx (hb hby at_258) rfl (Jvm.Free.XT.i0_eq_f hc258_220) ?_
            refine ow_iinc (q := 264) X219 hx (L' := #[iv p0, iv p1, iv p2, iv p3, iv p4, iv p5, iv (1114112 : Int32), iv f1, iv l1, iv f2, iv l2, iv f3, iv l3, rv b8, rv b16, iv (1 : Int32), rv b165, iv f1, iv v174, iv f2, iv v175, iv f3, iv v176, iv (1 : Int32)]) (hb hby at_261) rfl rfl rfl ?_
            exact cut264_214 (1 : Int32) _ _ X219 e219 N219 (own_nk1 (k := 0) (by decide : (0 : Int32).toInt = (0 : Int) ∧ 0 ≤ (0 : Int32).toInt ∧ (0 : Int32).toInt ≤ ((0 : Nat) : Int)) (by decide) (by simp [hc258_220]))
        · refine ow_aload (q := 210) X156 hx (hb hby at_208) rfl rfl rfl ?_
          obtain ⟨cq221, kq221, q221a, q221b, q221c⟩ := isOf hZ rfl FP156_0
          obtain ⟨_, _, ⟨T221, L221, k221, n221⟩, -, X221, ⟨Lc221, hQ221, l221, y221, z221⟩, st221⟩ := X156.virtualBack hx (y := (⟨"com/example/shapewright/shapewright/regex/CodePointSet$Builder", "build", "()Lcom/example/shapewright/shapewright/regex/CodePointSet;"⟩ : MethodName)) (z := (⟨"com/example/shapewright/shapewright/regex/CodePointSet$Builder", "build", "()Lcom/example/shapewright/shapewright/regex/CodePointSet;"⟩ : MethodName)) hown (mvT hZ (ww 25 rfl)) (mvT hZ (ww 26 rfl)) (notFace_of_selects (args := #[]) (mvT hZ (ww 28 rfl))) (mvT hZ (ww 28 rfl)) (mvT hZ (ww 27 rfl)) (by decide) (backOf (W := 0) (rm_build_4 l Z av0 hw [] b16 ar_20 (ownUpd (ownUpd (ownUpd (ownUpd (ownUpd (fun _ => (0 : Int32)) 0 f1) 1 l1) 2 f2) 3 l2) 3 (own_max l2 l3)) T156.heap n0 (Nat.le_trans Z0 K156.1) FP156_1 FP156_2 FP156_3) hZ (ww 29 rfl) (ww 5 rfl) (by decide) (by decide)) q221a q221c (g := (mkF m 210 #[iv p0, iv p1, iv p2, iv p3, iv p4, iv p5, iv (1114112 : Int32), iv f1, iv l1, iv f2, iv l2, iv f3, iv l3, rv b8, rv b16, iv (1 : Int32), .unset, .unset, .unset, .unset, .unset, .unset, .unset, .unset] [(.ref b16)])) rfl (by rw [hml]; rfl) (Steps.refl _) (argsL := []) (rest := []) (lenOf own_pd6 rfl) rfl (by show 2 * 0 + _ ≤ _; exact Nat.le_of_eq rfl) (hb hby at_210) (fun _ _ => ⟨rfl, rfl, (by decide : 3 + 2 ≤ _), (by decide : 24 + 5 ≤ _)⟩)
          dsimp only [Pt.U, Pt.locs, Pt.cells, Pt.slots] at X221 l221 y221 z221 st221 hQ221
          subst l221 y221 z221
          obtain ⟨b221, ar2_221, rfl, N221q, Kq221, sq221_b221, sq221_ar2_221, FP221_0, FP221_1, FP221_2, hp221⟩ := hQ221
          have N221 := Fr.app N156 N221q
          have K221 : Keep h0 T221.heap [] := K156.trans Kq221 all0
          have ne_b8_b221 : b8 ≠ b221 := Nat.ne_of_lt (Nat.lt_of_lt_of_le F157.lt sq221_b221)
          have ne_b16_b221 : b16 ≠ b221 := Nat.ne_of_lt (Nat.lt_of_lt_of_le FP156_0.lt sq221_b221)
          have ne_ar_20_b221 : ar_20 ≠ b221 := Nat.ne_of_lt (Nat.lt_of_lt_of_le FP156_3.lt sq221_b221)
          have sz_b221 : h0.size ≤ b221 := Nat.le_trans K156.1 sq221_b221
          have G_b221 : n0 ≤ b221 := Nat.le_trans Z0 sz_b221
          have ne_b8_ar2_221 : b8 ≠ ar2_221 := Nat.ne_of_lt (Nat.lt_of_lt_of_le F157.lt sq221_ar2_221)
          have ne_b16_ar2_221 : b16 ≠ ar2_221 := Nat.ne_of_lt (Nat.lt_of_lt_of_le FP156_0.lt sq221_ar2_221)
          have ne_ar_20_ar2_221 : ar_20 ≠ ar2_221 := Nat.ne_of_lt (Nat.lt_of_lt_of_le FP156_3.lt sq221_ar2_221)
          have sz_ar2_221 : h0.size ≤ ar2_221 := Nat.le_trans K156.1 sq221_ar2_221
          have G_ar2_221 : n0 ≤ ar2_221 := Nat.le_trans Z0 sz_ar2_221
          have F222 : ownAI Z T221.heap b8 .int 6 (ownUpd (ownUpd (ownUpd (ownUpd (ownUpd (ownUpd (fun _ => (0 : Int32)) 0 f1) 1 l1) 2 f2) 3 l2) 4 f3) 5 l3) := F157.keep Kq221 nin0
          have F223 : Exa Z T221.heap b16 "com/example/shapewright/shapewright/regex/CodePointSet$Builder" := FP156_0.keep Kq221
          have F224 : Fld Z T221.heap b16 "com/example/shapewright/shapewright/regex/CodePointSet$Builder" "ranges" "[I" (.ref ar_20) := FP156_1.keep Kq221 nin0
          have F225 : Fld Z T221.heap b16 "com/example/shapewright/shapewright/regex/CodePointSet$Builder" "length" "I" (.int (4 : Int32)) := FP156_2.keep Kq221 nin0
          have F226 : ownAI Z T221.heap ar_20 .int 16 (ownUpd (ownUpd (ownUpd (ownUpd (ownUpd (fun _ => (0 : Int32)) 0 f1) 1 l1) 2 f2) 3 l2) 3 (own_max l2 l3)) := FP156_3.keep Kq221 nin0
          refine ownRun (T' := T221) (f' := (mkF m 213 #[iv p0, iv p1, iv p2, iv p3, iv p4, iv p5, iv (1114112 : Int32), iv f1, iv l1, iv f2, iv l2, iv f3, iv l3, rv b8, rv b16, iv (1 : Int32), .unset, .unset, .unset, .unset, .unset, .unset, .unset, .unset] [(.ref b221)])) st221 ?_
          obtain ⟨cq227, kq227, q227a, q227b, q227c⟩ := isOf hZ rfl FP221_0
          obtain ⟨_, _, ⟨T227, L227, k227, n227⟩, -, X227, ⟨Lc227, hQ227, l227, y227, z227⟩, st227⟩ := X221.virtualBack hx (y := (⟨"com/example/shapewright/shapewright/regex/CodePointSet", "edges", "()[I"⟩ : MethodName)) (z := (⟨"com/example/shapewright/shapewright/regex/CodePointSet", "edges", "()[I"⟩ : MethodName)) hown (mvT hZ (ww 50 rfl)) (mvT hZ (ww 51 rfl)) (notFace_of_selects (args := #[]) (mvT hZ (ww 53 rfl))) (mvT hZ (ww 53 rfl)) (mvT hZ (ww 52 rfl)) (by decide) (backOf (W := 0) (rm_edges_4_e l Z av0 hw [] b221 ar2_221 (ownUpd (ownUpd (ownUpd (ownUpd (ownUpd (fun _ => (0 : Int32)) 0 f1) 1 l1) 2 f2) 3 l2) 3 (own_max l2 l3)) T221.heap n0 (Nat.le_trans Z0 K221.1) FP221_1 FP221_2 (own_lt_am_0 hr hm2 hm3) hmx) hZ (ww 54 rfl) (ww 32 rfl) (by decide) (by decide)) q227a q227c (g := (mkF m 213 #[iv p0, iv p1, iv p2, iv p3, iv p4, iv p5, iv (1114112 : Int32), iv f1, iv l1, iv f2, iv l2, iv f3, iv l3, rv b8, rv b16, iv (1 : Int32), .unset, .unset, .unset, .unset, .unset, .unset, .unset, .unset] [(.ref b221)])) rfl (by rw [hml]; rfl) (Steps.refl _) (argsL := []) (rest := []) (lenOf own_pd7 rfl) rfl (by show 2 * 0 + _ ≤ _; exact Nat.le_of_eq rfl) (hb hby at_213) (fun _ _ => ⟨rfl, rfl, (by decide : 5 + 2 ≤ _), (by decide : 29 + 7 ≤ _)⟩)
          dsimp only [Pt.U, Pt.locs, Pt.cells, Pt.slots] at X227 l227 y227 z227 st227 hQ227
          subst l227 y227 z227
          obtain ⟨b227, rfl, N227q, Kq227, sq227_b227, FP227_0⟩ := hQ227
          have N227 := Fr.app N221 N227q
          have K227 : Keep h0 T227.heap [] := K221.trans Kq227 all0
          have ne_b8_b227 : b8 ≠ b227 := Nat.ne_of_lt (Nat.lt_of_lt_of_le F222.lt sq227_b227)
          have ne_b16_b227 : b16 ≠ b227 := Nat.ne_of_lt (Nat.lt_of_lt_of_le F223.lt sq227_b227)
          have ne_ar_20_b227 : ar_20 ≠ b227 := Nat.ne_of_lt (Nat.lt_of_lt_of_le F226.lt sq227_b227)
          have ne_b221_b227 : b221 ≠ b227 := Nat.ne_of_lt (Nat.lt_of_lt_of_le FP221_0.lt sq227_b227)
          have ne_ar2_221_b227 : ar2_221 ≠ b227 := Nat.ne_of_lt (Nat.lt_of_lt_of_le FP221_2.lt sq227_b227)
          have sz_b227 : h0.size ≤ b227 := Nat.le_trans K221.1 sq227_b227
          have G_b227 : n0 ≤ b227 := Nat.le_trans Z0 sz_b227
          have F228 : ownAI Z T227.heap b8 .int 6 (ownUpd (ownUpd (ownUpd (ownUpd (ownUpd (ownUpd (fun _ => (0 : Int32)) 0 f1) 1 l1) 2 f2) 3 l2) 4 f3) 5 l3) := F222.keep Kq227 nin0
          have F229 : Exa Z T227.heap b16 "com/example/shapewright/shapewright/regex/CodePointSet$Builder" := F223.keep Kq227
          have F230 : Fld Z T227.heap b16 "com/example/shapewright/shapewright/regex/CodePointSet$Builder" "ranges" "[I" (.ref ar_20) := F224.keep Kq227 nin0
          have F231 : Fld Z T227.heap b16 "com/example/shapewright/shapewright/regex/CodePointSet$Builder" "length" "I" (.int (4 : Int32)) := F225.keep Kq227 nin0
          have F232 : ownAI Z T227.heap ar_20 .int 16 (ownUpd (ownUpd (ownUpd (ownUpd (ownUpd (fun _ => (0 : Int32)) 0 f1) 1 l1) 2 f2) 3 l2) 3 (own_max l2 l3)) := F226.keep Kq227 nin0
          have F233 : Exa Z T227.heap b221 "com/example/shapewright/shapewright/regex/CodePointSet" := FP221_0.keep Kq227
          have F234 : Fld Z T227.heap b221 "com/example/shapewright/shapewright/regex/CodePointSet" "ranges" "[I" (.ref ar2_221) := FP221_1.keep Kq227 nin0
          have F235 : ownAI Z T227.heap ar2_221 .int 4 (ownUpd (ownUpd (ownUpd (ownUpd (ownUpd (fun _ => (0 : Int32)) 0 f1) 1 l1) 2 f2) 3 l2) 3 (own_max l2 l3)) := FP221_2.keep Kq227 nin0
          refine ownRun (T' := T227) (f' := (mkF m 216 #[iv p0, iv p1, iv p2, iv p3, iv p4, iv p5, iv (1114112 : Int32), iv f1, iv l1, iv f2, iv l2, iv f3, iv l3, rv b8, rv b16, iv (1 : Int32), .unset, .unset, .unset, .unset, .unset, .unset, .unset, .unset] [(.ref b227)])) st227 ?_
          refine ow_astore (q := 218) X227 hx (L' := #[iv p0, iv p1, iv p2, iv p3, iv p4, iv p5, iv (1114112 : Int32), iv f1, iv l1, iv f2, iv l2, iv f3, iv l3, rv b8, rv b16, iv (1 : Int32), rv b227, .unset, .unset, .unset, .unset, .unset, .unset, .unset]) (hb hby at_216) rfl rfl rfl ?_
          refine ow_iload (q := 220) X227 hx (hb hby at_218) rfl rfl ?_
          refine ow_istore (q := 222) X227 hx (L' := #[iv p0, iv p1, iv p2, iv p3, iv p4, iv p5, iv (1114112 : Int32), iv f1, iv l1, iv f2, iv l2, iv f3, iv l3, rv b8, rv b16, iv (1 : Int32), rv b227, iv f1, .unset, .unset, .unset, .unset, .unset, .unset]) (hb hby at_220) rfl rfl ?_
          refine ow_iload (q := 224) X227 hx (hb hby at_222) rfl rfl ?_
          refine ow_iconst (q := 225) X227 hx (1 : Int32) (hb hby at_224) rfl rfl ?_
          refine ow_iadd (q := 226) X227 hx _ (hb hby at_225) rfl rfl ?_
          generalize hv_v236 : (l1 + (1 : Int32)) = v236
          refine ow_istore (q := 228) X227 hx (L' := #[iv p0, iv p1, iv p2, iv p3, iv p4, iv p5, iv (1114112 : Int32), iv f1, iv l1, iv f2, iv l2, iv f3, iv l3, rv b8, rv b16, iv (1 : Int32), rv b227, iv f1, iv v236, .unset, .unset, .unset, .unset, .unset]) (hb hby at_226) rfl rfl ?_
          refine ow_iload (q := 230) X227 hx (hb hby at_228) rfl rfl ?_
          refine ow_istore (q := 232) X227 hx (L' := #[iv p0, iv p1, iv p2, iv p3, iv p4, iv p5, iv (1114112 : Int32), iv f1, iv l1, iv f2, iv l2, iv f3, iv l3, rv b8, rv b16, iv (1 : Int32), rv b227, iv f1, iv v236, iv f2, .unset, .unset, .unset, .unset]) (hb hby at_230) rfl rfl ?_
          refine ow_iload (q := 234) X227 hx (hb hby at_232) rfl rfl ?_
          refine ow_iconst (q := 235) X227 hx (1 : Int32) (hb hby at_234) rfl rfl ?_
          refine ow_iadd (q := 236) X227 hx _ (hb hby at_235) rfl rfl ?_
          generalize hv_v237 : (l2 + (1 : Int32)) = v237
          refine ow_istore (q := 238) X227 hx (L' := #[iv p0, iv p1, iv p2, iv p3, iv p4, iv p5, iv (1114112 : Int32), iv f1, iv l1, iv f2, iv l2, iv f3, iv l3, rv b8, rv b16, iv (1 : Int32), rv b227, iv f1, iv v236, iv f2, iv v237, .unset, .unset, .unset]) (hb hby at_236) rfl rfl ?_
          refine ow_iload (q := 240) X227 hx (hb hby at_238) rfl rfl ?_
          refine ow_istore (q := 242) X227 hx (L' := #[iv p0, iv p1, iv p2, iv p3, iv p4, iv p5, iv (1114112 : Int32), iv f1, iv l1, iv f2, iv l2, iv f3, iv l3, rv b8, rv b16, iv (1 : Int32), rv b227, iv f1, iv v236, iv f2, iv v237, iv f3, .unset, .unset]) (hb hby at_240) rfl rfl ?_
          refine ow_iload (q := 244) X227 hx (hb hby at_242) rfl rfl ?_
          refine ow_iconst (q := 245) X227 hx (1 : Int32) (hb hby at_244) rfl rfl ?_
          refine ow_iadd (q := 246) X227 hx _ (hb hby at_245) rfl rfl ?_
          generalize hv_v238 : (l3 + (1 : Int32)) = v238
          refine ow_istore (q := 248) X227 hx (L' := #[iv p0, iv p1, iv p2, iv p3, iv p4, iv p5, iv (1114112 : Int32), iv f1, iv l1, iv f2, iv l2, iv f3, iv l3, rv b8, rv b16, iv (1 : Int32), rv b227, iv f1, iv v236, iv f2, iv v237, iv f3, iv v238, .unset]) (hb hby at_246) rfl rfl ?_
          refine ow_iconst (q := 249) X227 hx (0 : Int32) (hb hby at_248) rfl rfl ?_
          refine ow_istore (q := 251) X227 hx (L' := #[iv p0, iv p1, iv p2, iv p3, iv p4, iv p5, iv (1114112 : Int32), iv f1, iv l1, iv f2, iv l2, iv f3, iv l3, rv b8, rv b16, iv (1 : Int32), rv b227, iv f1, iv v236, iv f2, iv v237, iv f3, iv v238, iv (0 : Int32)]) (hb hby at_249) rfl rfl ?_
          have cut434_239 : ∀ (nk6 : Int32) (Tc239 : State) (lc239 : List Loc), Stand p l e room_1 s m #[(.int p0), (.int p1), (.int p2), (.int p3), (.int p4), (.int p5)] below meth c Tc239 lc239 7 36 → Tc239.heap = T227.heap → Fr n0 lc239 → (nk6.toInt = (own_s6 f1 l1 f2 l2 f3 l3 f1 v236 f2 v237 f3 v238) ∧ 0 ≤ nk6.toInt ∧ nk6.toInt ≤ ((6 : Nat) : Int)) → ownEnds p e below s (Q_law Z p0 p1 p2 p3 p4 p5 h0 n0) 24 192 Tc239 (mkF m 434 #[iv p0, iv p1, iv p2, iv p3, iv p4, iv p5, iv (1114112 : Int32), iv f1, iv l1, iv f2, iv l2, iv f3, iv l3, rv b8, rv b16, iv (1 : Int32), rv b227, iv f1, iv v236, iv f2, iv v237, iv f3, iv v238, iv nk6] []) := by
            intro nk6 Tc239 lc239 Xc239 ec239 Nc239 hn6
            refine ow_iload (q := 436) Xc239 hx (hb hby at_434) rfl rfl ?_
            refine ow_ifNo (q := 439) Xc239 hx (hb hby at_436) rfl (Jvm.Free.XT.i0_eq_f (by decide)) ?_
            refine ow_aload (q := 441) Xc239 hx (hb hby at_439) rfl rfl rfl ?_
            refine ownGo (T' := Tc239) (f' := (mkF m 442 #[iv p0, iv p1, iv p2, iv p3, iv p4, iv p5, iv (1114112 : Int32), iv f1, iv l1, iv f2, iv l2, iv f3, iv l3, rv b8, rv b16, iv (1 : Int32), rv b227, iv f1, iv v236, iv f2, iv v237, iv f3, iv v238, iv nk6] [(.int (3 : Int32))])) (ownLenI FP227_0 Xc239 hx hZ ec239 (z := (3 : Int32)) (by decide) (g := (mkF m 441 #[iv p0, iv p1, iv p2, iv p3, iv p4, iv p5, iv (1114112 : Int32), iv f1, iv l1, iv f2, iv l2, iv f3, iv l3, rv b8, rv b16, iv (1 : Int32), rv b227, iv f1, iv v236, iv f2, iv v237, iv f3, iv v238, iv nk6] [(.ref b227)])) rfl rfl (hb hby at_441)) ?_
            refine ow_iload (q := 444) Xc239 hx (hb hby at_442) rfl rfl ?_
            refine ow_icmpNo (q := 447) Xc239 hx (hb hby at_444) rfl (Jvm.Free.XT.ii_ne_f (own_len hn6 (own_total_ame hr hm2 hm3 hmx hv_v236 hv_v237 hv_v238))) ?_
            refine ow_aload (q := 449) Xc239 hx (hb hby at_447) rfl rfl rfl ?_
            refine ow_iconst (q := 450) Xc239 hx (0 : Int32) (hb hby at_449) rfl rfl ?_
            refine ow_aload (q := 452) Xc239 hx (hb hby at_450) rfl rfl rfl ?_
            obtain ⟨_, _, ⟨T240, L240, k240, n240⟩, -, X240, ⟨Lc240, hQ240, l240, y240, z240⟩, st240⟩ := Jvm.LawKit.callS Xc239 hx (y := (⟨"com/example/shapewright/shapewright/regex/BuilderAddPinLaw", "okAt", "([II[I)Z"⟩ : MethodName)) hown (mvT hZ (ww 74 rfl)) (mvT hZ (ww 75 rfl)) (mvT hZ (ww 68 rfl)) (mvT hZ (ww 76 rfl)) (by decide) (backOf (W := 0) (rm_okC l Z av0 hw [] b227 (0 : Int32) b8 3 (3 : Int32) (ownUpd (ownUpd (ownUpd (fun _ => (0 : Int32)) 0 f1) 1 (l1 + (1 : Int32))) 2 f2) (ownUpd (ownUpd (ownUpd (ownUpd (ownUpd (ownUpd (fun _ => (0 : Int32)) 0 f1) 1 l1) 2 f2) 3 l2) 4 f3) 5 l3) T227.heap n0 (Nat.le_trans Z0 K227.1) FP227_0 F228 (by decide) (by decide) (by unfold ownIn; decide) (by decide) (by unfold ownIn; decide)) hZ (ww 76 rfl) (ww 68 rfl) (by decide) (by decide)) (g := (mkF m 452 #[iv p0, iv p1, iv p2, iv p3, iv p4, iv p5, iv (1114112 : Int32), iv f1, iv l1, iv f2, iv l2, iv f3, iv l3, rv b8, rv b16, iv (1 : Int32), rv b227, iv f1, iv v236, iv f2, iv v237, iv f3, iv v238, iv nk6] [(.ref b8), (.int (0 : Int32)), (.ref b227)])) rfl (by rw [hml]; rfl) (argsL := [(.ref b227), (.int (0 : Int32)), (.ref b8)]) (rest := []) (lenOf own_pd8 rfl) rfl (by show 2 * 0 + _ ≤ _; exact Nat.le_of_eq rfl) (hb hby at_452) (fun _ _ => ⟨rfl, ec239, (by decide : 7 + 0 ≤ _), (by decide : 36 + 0 ≤ _)⟩)
            dsimp only [Pt.U, Pt.locs, Pt.cells, Pt.slots] at X240 l240 y240 z240 st240 hQ240
            subst l240 y240 z240
            obtain ⟨rfl, N240q, e240⟩ := hQ240
            have N240 := Fr.app Nc239 N240q
            refine ownGo (T' := T240) (f' := (mkF m 455 #[iv p0, iv p1, iv p2, iv p3, iv p4, iv p5, iv (1114112 : Int32), iv f1, iv l1, iv f2, iv l2, iv f3, iv l3, rv b8, rv b16, iv (1 : Int32), rv b227, iv f1, iv v236, iv f2, iv v237, iv f3, iv v238, iv nk6] [(.int (if (own_ch f1 l1 f2 l2 f3 l3 f1) = (0 : Int32) then (0 : Int32) else if f1 < (l1 + (1 : Int32)) then (1 : Int32) else (0 : Int32)))])) (st240) ?_
            refine ow_ifNo (q := 458) X240 hx (hb hby at_455) rfl (Jvm.Free.XT.i0_eq_f (own_ok_ame_0 hr hm2 hm3 hmx)) ?_
            refine ow_aload (q := 460) X240 hx (hb hby at_458) rfl rfl rfl ?_
            refine ow_iconst (q := 461) X240 hx (1 : Int32) (hb hby at_460) rfl rfl ?_
            refine ow_aload (q := 463) X240 hx (hb hby at_461) rfl rfl rfl ?_
            obtain ⟨_, _, ⟨T241, L241, k241, n241⟩, -, X241, ⟨Lc241, hQ241, l241, y241, z241⟩, st241⟩ := Jvm.LawKit.callS X240 hx (y := (⟨"com/example/shapewright/shapewright/regex/BuilderAddPinLaw", "okAt", "([II[I)Z"⟩ : MethodName)) hown (mvT hZ (ww 74 rfl)) (mvT hZ (ww 75 rfl)) (mvT hZ (ww 68 rfl)) (mvT hZ (ww 76 rfl)) (by decide) (backOf (W := 0) (rm_okC l Z av0 hw [] b227 (1 : Int32) b8 3 (3 : Int32) (ownUpd (ownUpd (ownUpd (fun _ => (0 : Int32)) 0 f1) 1 (l1 + (1 : Int32))) 2 f2) (ownUpd (ownUpd (ownUpd (ownUpd (ownUpd (ownUpd (fun _ => (0 : Int32)) 0 f1) 1 l1) 2 f2) 3 l2) 4 f3) 5 l3) T227.heap n0 (Nat.le_trans Z0 K227.1) FP227_0 F228 (by decide) (by decide) (by unfold ownIn; decide) (by decide) (by unfold ownIn; decide)) hZ (ww 76 rfl) (ww 68 rfl) (by decide) (by decide)) (g := (mkF m 463 #[iv p0, iv p1, iv p2, iv p3, iv p4, iv p5, iv (1114112 : Int32), iv f1, iv l1, iv f2, iv l2, iv f3, iv l3, rv b8, rv b16, iv (1 : Int32), rv b227, iv f1, iv v236, iv f2, iv v237, iv f3, iv v238, iv nk6] [(.ref b8), (.int (1 : Int32)), (.ref b227)])) rfl (by rw [hml]; rfl) (argsL := [(.ref b227), (.int (1 : Int32)), (.ref b8)]) (rest := []) (lenOf own_pd8 rfl) rfl (by show 2 * 0 + _ ≤ _; exact Nat.le_of_eq rfl) (hb hby at_463) (fun _ _ => ⟨rfl, e240, (by decide : 7 + 0 ≤ _), (by decide : 36 + 0 ≤ _)⟩)
            dsimp only [Pt.U, Pt.locs, Pt.cells, Pt.slots] at X241 l241 y241 z241 st241 hQ241
            subst l241 y241 z241
            obtain ⟨rfl, N241q, e241⟩ := hQ241
            have N241 := Fr.app N240 N241q
            refine ownGo (T' := T241) (f' := (mkF m 466 #[iv p0, iv p1, iv p2, iv p3, iv p4, iv p5, iv (1114112 : Int32), iv f1, iv l1, iv f2, iv l2, iv f3, iv l3, rv b8, rv b16, iv (1 : Int32), rv b227, iv f1, iv v236, iv f2, iv v237, iv f3, iv v238, iv nk6] [(.int (if (own_ch f1 l1 f2 l2 f3 l3 (l1 + (1 : Int32))) = (0 : Int32) then (0 : Int32) else if (l1 + (1 : Int32)) < f2 then (1 : Int32) else (0 : Int32)))])) (st241) ?_
            refine ow_ifNo (q := 469) X241 hx (hb hby at_466) rfl (Jvm.Free.XT.i0_eq_f (own_ok_ame_1 hr hm2 hm3 hmx)) ?_
            refine ow_aload (q := 471) X241 hx (hb hby at_469) rfl rfl rfl ?_
            refine ow_iconst (q := 472) X241 hx (2 : Int32) (hb hby at_471) rfl rfl ?_
            refine ow_aload (q := 474) X241 hx (hb hby at_472) rfl rfl rfl ?_
            obtain ⟨_, _, ⟨T242, L242, k242, n242⟩, -, X242, ⟨Lc242, hQ242, l242, y242, z242⟩, st242⟩ := Jvm.LawKit.callS X241 hx (y := (⟨"com/example/shapewright/shapewright/regex/BuilderAddPinLaw", "okAt", "([II[I)Z"⟩ : MethodName)) hown (mvT hZ (ww 74 rfl)) (mvT hZ (ww 75 rfl)) (mvT hZ (ww 68 rfl)) (mvT hZ (ww 76 rfl)) (by decide) (backOf (W := 0) (rm_okB l Z av0 hw [] b227 (2 : Int32) b8 3 (3 : Int32) (ownUpd (ownUpd (ownUpd (fun _ => (0 : Int32)) 0 f1) 1 (l1 + (1 : Int32))) 2 f2) (ownUpd (ownUpd (ownUpd (ownUpd (ownUpd (ownUpd (fun _ => (0 : Int32)) 0 f1) 1 l1) 2 f2) 3 l2) 4 f3) 5 l3) T227.heap n0 (Nat.le_trans Z0 K227.1) FP227_0 F228 (by decide) (by decide) (by unfold ownIn; decide) (by decide)) hZ (ww 76 rfl) (ww 68 rfl) (by decide) (by decide)) (g := (mkF m 474 #[iv p0, iv p1, iv p2, iv p3, iv p4, iv p5, iv (1114112 : Int32), iv f1, iv l1, iv f2, iv l2, iv f3, iv l3, rv b8, rv b16, iv (1 : Int32), rv b227, iv f1, iv v236, iv f2, iv v237, iv f3, iv v238, iv nk6] [(.ref b8), (.int (2 : Int32)), (.ref b227)])) rfl (by rw [hml]; rfl) (argsL := [(.ref b227), (.int (2 : Int32)), (.ref b8)]) (rest := []) (lenOf own_pd8 rfl) rfl (by show 2 * 0 + _ ≤ _; exact Nat.le_of_eq rfl) (hb hby at_474) (fun _ _ => ⟨rfl, e241, (by decide : 7 + 0 ≤ _), (by decide : 36 + 0 ≤ _)⟩)
            dsimp only [Pt.U, Pt.locs, Pt.cells, Pt.slots] at X242 l242 y242 z242 st242 hQ242
            subst l242 y242 z242
            obtain ⟨rfl, N242q, e242⟩ := hQ242
            have N242 := Fr.app N241 N242q
            refine ownGo (T' := T242) (f' := (mkF m 477 #[iv p0, iv p1, iv p2, iv p3, iv p4, iv p5, iv (1114112 : Int32), iv f1, iv l1, iv f2, iv l2, iv f3, iv l3, rv b8, rv b16, iv (1 : Int32), rv b227, iv f1, iv v236, iv f2, iv v237, iv f3, iv v238, iv nk6] [(.int (if (own_ch f1 l1 f2 l2 f3 l3 f2) = (0 : Int32) then (0 : Int32) else (1 : Int32)))])) (st242) ?_
            refine ow_ifNo (q := 480) X242 hx (hb hby at_477) rfl (Jvm.Free.XT.i0_eq_f (own_ok_ame_2 hr hm2 hm3 hmx)) ?_
            refine ow_aload (q := 482) X242 hx (hb hby at_480) rfl rfl rfl ?_
            refine ow_iconst (q := 483) X242 hx (3 : Int32) (hb hby at_482) rfl rfl ?_
            refine ow_aload (q := 485) X242 hx (hb hby at_483) rfl rfl rfl ?_
            obtain ⟨_, _, ⟨T243, L243, k243, n243⟩, -, X243, ⟨Lc243, hQ243, l243, y243, z243⟩, st243⟩ := Jvm.LawKit.callS X242 hx (y := (⟨"com/example/shapewright/shapewright/regex/BuilderAddPinLaw", "okAt", "([II[I)Z"⟩ : MethodName)) hown (mvT hZ (ww 74 rfl)) (mvT hZ (ww 75 rfl)) (mvT hZ (ww 68 rfl)) (mvT hZ (ww 76 rfl)) (by decide) (backOf (W := 0) (rm_okA l Z av0 hw [] b227 (3 : Int32) b8 3 (3 : Int32) (ownUpd (ownUpd (ownUpd (fun _ => (0 : Int32)) 0 f1) 1 (l1 + (1 : Int32))) 2 f2) (ownUpd (ownUpd (ownUpd (ownUpd (ownUpd (ownUpd (fun _ => (0 : Int32)) 0 f1) 1 l1) 2 f2) 3 l2) 4 f3) 5 l3) T227.heap n0 (Nat.le_trans Z0 K227.1) FP227_0 F228 (by decide) (by decide)) hZ (ww 76 rfl) (ww 68 rfl) (by decide) (by decide)) (g := (mkF m 485 #[iv p0, iv p1, iv p2, iv p3, iv p4, iv p5, iv (1114112 : Int32), iv f1, iv l1, iv f2, iv l2, iv f3, iv l3, rv b8, rv b16, iv (1 : Int32), rv b227, iv f1, iv v236, iv f2, iv v237, iv f3, iv v238, iv nk6] [(.ref b8), (.int (3 : Int32)), (.ref b227)])) rfl (by rw [hml]; rfl) (argsL := [(.ref b227), (.int (3 : Int32)), (.ref b8)]) (rest := []) (lenOf own_pd8 rfl) rfl (by show 2 * 0 + _ ≤ _; exact Nat.le_of_eq rfl) (hb hby at_485) (fun _ _ => ⟨rfl, e242, (by decide : 7 + 0 ≤ _), (by decide : 36 + 0 ≤ _)⟩)
            dsimp only [Pt.U, Pt.locs, Pt.cells, Pt.slots] at X243 l243 y243 z243 st243 hQ243
            subst l243 y243 z243
            obtain ⟨rfl, N243q, e243⟩ := hQ243
            have N243 := Fr.app N242 N243q
            refine ownGo (T' := T243) (f' := (mkF m 488 #[iv p0, iv p1, iv p2, iv p3, iv p4, iv p5, iv (1114112 : Int32), iv f1, iv l1, iv f2, iv l2, iv f3, iv l3, rv b8, rv b16, iv (1 : Int32), rv b227, iv f1, iv v236, iv f2, iv v237, iv f3, iv v238, iv nk6] [(.int (1 : Int32))])) (st243) ?_
            refine ow_ifNo (q := 491) X243 hx (hb hby at_488) rfl (Jvm.Free.XT.i0_eq_f (by decide)) ?_
            refine ow_aload (q := 493) X243 hx (hb hby at_491) rfl rfl rfl ?_
            refine ow_iconst (q := 494) X243 hx (4 : Int32) (hb hby at_493) rfl rfl ?_
            refine ow_aload (q := 496) X243 hx (hb hby at_494) rfl rfl rfl ?_
            obtain ⟨_, _, ⟨T244, L244, k244, n244⟩, -, X244, ⟨Lc244, hQ244, l244, y244, z244⟩, st244⟩ := Jvm.LawKit.callS X243 hx (y := (⟨"com/example/shapewright/shapewright/regex/BuilderAddPinLaw", "okAt", "([II[I)Z"⟩ : MethodName)) hown (mvT hZ (ww 74 rfl)) (mvT hZ (ww 75 rfl)) (mvT hZ (ww 68 rfl)) (mvT hZ (ww 76 rfl)) (by decide) (backOf (W := 0) (rm_okA l Z av0 hw [] b227 (4 : Int32) b8 3 (3 : Int32) (ownUpd (ownUpd (ownUpd (fun _ => (0 : Int32)) 0 f1) 1 (l1 + (1 : Int32))) 2 f2) (ownUpd (ownUpd (ownUpd (ownUpd (ownUpd (ownUpd (fun _ => (0 : Int32)) 0 f1) 1 l1) 2 f2) 3 l2) 4 f3) 5 l3) T227.heap n0 (Nat.le_trans Z0 K227.1) FP227_0 F228 (by decide) (by decide)) hZ (ww 76 rfl) (ww 68 rfl) (by decide) (by decide)) (g := (mkF m 496 #[iv p0, iv p1, iv p2, iv p3, iv p4, iv p5, iv (1114112 : Int32), iv f1, iv l1, iv f2, iv l2, iv f3, iv l3, rv b8, rv b16, iv (1 : Int32), rv b227, iv f1, iv v236, iv f2, iv v237, iv f3, iv v238, iv nk6] [(.ref b8), (.int (4 : Int32)), (.ref b227)])) rfl (by rw [hml]; rfl) (argsL := [(.ref b227), (.int (4 : Int32)), (.ref b8)]) (rest := []) (lenOf own_pd8 rfl) rfl (by show 2 * 0 + _ ≤ _; exact Nat.le_of_eq rfl) (hb hby at_496) (fun _ _ => ⟨rfl, e243, (by decide : 7 + 0 ≤ _), (by decide : 36 + 0 ≤ _)⟩)
            dsimp only [Pt.U, Pt.locs, Pt.cells, Pt.slots] at X244 l244 y244 z244 st244 hQ244
            subst l244 y244 z244
            obtain ⟨rfl, N244q, e244⟩ := hQ244
            have N244 := Fr.app N243 N244q
            refine ownGo (T' := T244) (f' := (mkF m 499 #[iv p0, iv p1, iv p2, iv p3, iv p4, iv p5, iv (1114112 : Int32), iv f1, iv l1, iv f2, iv l2, iv f3, iv l3, rv b8, rv b16, iv (1 : Int32), rv b227, iv f1, iv v236, iv f2, iv v237, iv f3, iv v238, iv nk6] [(.int (1 : Int32))])) (st244) ?_
            refine ow_ifNo (q := 502) X244 hx (hb hby at_499) rfl (Jvm.Free.XT.i0_eq_f (by decide)) ?_
            refine ow_aload (q := 504) X244 hx (hb hby at_502) rfl rfl rfl ?_
            refine ow_iconst (q := 505) X244 hx (5 : Int32) (hb hby at_504) rfl rfl ?_
            refine ow_aload (q := 507) X244 hx (hb hby at_505) rfl rfl rfl ?_
            obtain ⟨_, _, ⟨T245, L245, k245, n245⟩, -, X245, ⟨Lc245, hQ245, l245, y245, z245⟩, st245⟩ := Jvm.LawKit.callS X244 hx (y := (⟨"com/example/shapewright/shapewright/regex/BuilderAddPinLaw", "okAt", "([II[I)Z"⟩ : MethodName)) hown (mvT hZ (ww 74 rfl)) (mvT hZ (ww 75 rfl)) (mvT hZ (ww 68 rfl)) (mvT hZ (ww 76 rfl)) (by decide) (backOf (W := 0) (rm_okA l Z av0 hw [] b227 (5 : Int32) b8 3 (3 : Int32) (ownUpd (ownUpd (ownUpd (fun _ => (0 : Int32)) 0 f1) 1 (l1 + (1 : Int32))) 2 f2) (ownUpd (ownUpd (ownUpd (ownUpd (ownUpd (ownUpd (fun _ => (0 : Int32)) 0 f1) 1 l1) 2 f2) 3 l2) 4 f3) 5 l3) T227.heap n0 (Nat.le_trans Z0 K227.1) FP227_0 F228 (by decide) (by decide)) hZ (ww 76 rfl) (ww 68 rfl) (by decide) (by decide)) (g := (mkF m 507 #[iv p0, iv p1, iv p2, iv p3, iv p4, iv p5, iv (1114112 : Int32), iv f1, iv l1, iv f2, iv l2, iv f3, iv l3, rv b8, rv b16, iv (1 : Int32), rv b227, iv f1, iv v236, iv f2, iv v237, iv f3, iv v238, iv nk6] [(.ref b8), (.int (5 : Int32)), (.ref b227)])) rfl (by rw [hml]; rfl) (argsL := [(.ref b227), (.int (5 : Int32)), (.ref b8)]) (rest := []) (lenOf own_pd8 rfl) rfl (by show 2 * 0 + _ ≤ _; exact Nat.le_of_eq rfl) (hb hby at_507) (fun _ _ => ⟨rfl, e244, (by decide : 7 + 0 ≤ _), (by decide : 36 + 0 ≤ _)⟩)
            dsimp only [Pt.U, Pt.locs, Pt.cells, Pt.slots] at X245 l245 y245 z245 st245 hQ245
            subst l245 y245 z245
            obtain ⟨rfl, N245q, e245⟩ := hQ245
            have N245 := Fr.app N244 N245q
            refine ownGo (T' := T245) (f' := (mkF m 510 #[iv p0, iv p1, iv p2, iv p3, iv p4, iv p5, iv (1114112 : Int32), iv f1, iv l1, iv f2, iv l2, iv f3, iv l3, rv b8, rv b16, iv (1 : Int32), rv b227, iv f1, iv v236, iv f2, iv v237, iv f3, iv v238, iv nk6] [(.int (1 : Int32))])) (st245) ?_
            refine ow_ifNo (q := 513) X245 hx (hb hby at_510) rfl (Jvm.Free.XT.i0_eq_f (by decide)) ?_
            refine ow_iconst (q := 514) X245 hx (1 : Int32) (hb hby at_513) rfl rfl ?_
            refine ow_goto (q := 518) X245 hx (hb hby at_514) (by decide) (by decide) ?_
            refine ownRetN X245 hx (r := (1 : Int32)) (Or.inl rfl) Bd.returns (hb hby at_518) hlk (by decide) (by decide) (by decide) ?_
            exact ⟨rfl, N245⟩
          have cut386_246 : ∀ (nk5 : Int32) (Tc246 : State) (lc246 : List Loc), Stand p l e room_1 s m #[(.int p0), (.int p1), (.int p2), (.int p3), (.int p4), (.int p5)] below meth c Tc246 lc246 7 36 → Tc246.heap = T227.heap → Fr n0 lc246 → (nk5.toInt = (own_s5 f1 l1 f2 l2 f3 l3 f1 v236 f2 v237 f3) ∧ 0 ≤ nk5.toInt ∧ nk5.toInt ≤ ((5 : Nat) : Int)) → ownEnds p e below s (Q_law Z p0 p1 p2 p3 p4 p5 h0 n0) 24 192 Tc246 (mkF m 386 #[iv p0, iv p1, iv p2, iv p3, iv p4, iv p5, iv (1114112 : Int32), iv f1, iv l1, iv f2, iv l2, iv f3, iv l3, rv b8, rv b16, iv (1 : Int32), rv b227, iv f1, iv v236, iv f2, iv v237, iv f3, iv v238, iv nk5] []) := by
            intro nk5 Tc246 lc246 Xc246 ec246 Nc246 hn5
            refine ow_aload (q := 388) Xc246 hx (hb hby at_386) rfl rfl rfl ?_
            refine ow_iload (q := 390) Xc246 hx (hb hby at_388) rfl rfl ?_
            obtain ⟨_, _, ⟨T247, L247, k247, n247⟩, -, X247, ⟨Lc247, hQ247, l247, y247, z247⟩, st247⟩ := Jvm.LawKit.callS Xc246 hx (y := (⟨"com/example/shapewright/shapewright/regex/BuilderAddPinLaw", "ch", "([II)Z"⟩ : MethodName)) hown (mvT hZ (ww 66 rfl)) (mvT hZ (ww 67 rfl)) (mvT hZ (ww 68 rfl)) (mvT hZ (ww 69 rfl)) (by decide) (backOf (W := 0) (rm_ch l Z av0 hw [] b8 v238 (ownUpd (ownUpd (ownUpd (ownUpd (ownUpd (ownUpd (fun _ => (0 : Int32)) 0 f1) 1 l1) 2 f2) 3 l2) 4 f3) 5 l3) T227.heap n0 (Nat.le_trans Z0 K227.1) F228) hZ (ww 69 rfl) (ww 68 rfl) (by decide) (by decide)) (g := (mkF m 390 #[iv p0, iv p1, iv p2, iv p3, iv p4, iv p5, iv (1114112 : Int32), iv f1, iv l1, iv f2, iv l2, iv f3, iv l3, rv b8, rv b16, iv (1 : Int32), rv b227, iv f1, iv v236, iv f2, iv v237, iv f3, iv v238, iv nk5] [(.int v238), (.ref b8)])) rfl (by rw [hml]; rfl) (argsL := [(.ref b8), (.int v238)]) (rest := []) (lenOf own_pd3 rfl) rfl (by show 2 * 0 + _ ≤ _; exact Nat.le_of_eq rfl) (hb hby at_390) (fun _ _ => ⟨rfl, ec246, (by decide : 7 + 0 ≤ _), (by decide : 36 + 0 ≤ _)⟩)
            dsimp only [Pt.U, Pt.locs, Pt.cells, Pt.slots] at X247 l247 y247 z247 st247 hQ247
            subst l247 y247 z247
            obtain ⟨rfl, N247q, e247⟩ := hQ247
            have N247 := Fr.app Nc246 N247q
            refine ownGo (T' := T247) (f' := (mkF m 393 #[iv p0, iv p1, iv p2, iv p3, iv p4, iv p5, iv (1114112 : Int32), iv f1, iv l1, iv f2, iv l2, iv f3, iv l3, rv b8, rv b16, iv (1 : Int32), rv b227, iv f1, iv v236, iv f2, iv v237, iv f3, iv v238, iv nk5] [(.int (own_ch f1 l1 f2 l2 f3 l3 v238))])) (st247) ?_
            by_cases hc393_248 : (own_ch f1 l1 f2 l2 f3 l3 v238) = (0 : Int32)
            · refine ow_ifYes (q := 434) X247 hx (hb hby at_393) (Jvm.Free.XT.i0_eq_t hc393_248) (by decide) (by decide) ?_
              exact cut434_239 nk5 _ _ X247 e247 N247 (own_nk0 (k := 5) hn5 (by simp [hc393_248]))
            · refine ow_ifNo (q := 396) X247 hx (hb hby at_393) rfl (Jvm.Free.XT.i0_eq_f hc393_248) ?_
              refine ow_iload (q := 398) X247 hx (hb hby at_396) rfl rfl ?_
              refine ow_iload (q := 400) X247 hx (hb hby at_398) rfl rfl ?_
              by_cases hc400_249 : v238 = f1
              · refine ow_icmpYes (q := 434) X247 hx (hb hby at_400) (Jvm.Free.XT.ii_eq_t hc400_249) (by decide) (by decide) ?_
                exact cut434_239 nk5 _ _ X247 e247 N247 (own_nk0 (k := 5) hn5 (Or.inr (by simp [hc400_249])))
              · refine ow_icmpNo (q := 403) X247 hx (hb hby at_400) rfl (Jvm.Free.XT.ii_eq_f hc400_249) ?_
                refine ow_iload (q := 405) X247 hx (hb hby at_403) rfl rfl ?_
                refine ow_iload (q := 407) X247 hx (hb hby at_405) rfl rfl ?_
                by_cases hc407_250 : v238 = v236
                · refine ow_icmpYes (q := 434) X247 hx (hb hby at_407) (Jvm.Free.XT.ii_eq_t hc407_250) (by decide) (by decide) ?_
                  exact cut434_239 nk5 _ _ X247 e247 N247 (own_nk0 (k := 5) hn5 (Or.inr (by simp [hc407_250])))
                · refine ow_icmpNo (q := 410) X247 hx (hb hby at_407) rfl (Jvm.Free.XT.ii_eq_f hc407_250) ?_
                  refine ow_iload (q := 412) X247 hx (hb hby at_410) rfl rfl ?_
                  refine ow_iload (q := 414) X247 hx (hb hby at_412) rfl rfl ?_
                  by_cases hc414_251 : v238 = f2
                  · refine ow_icmpYes (q := 434) X247 hx (hb hby at_414) (Jvm.Free.XT.ii_eq_t hc414_251) (by decide) (by decide) ?_
                    exact cut434_239 nk5 _ _ X247 e247 N247 (own_nk0 (k := 5) hn5 (Or.inr (by simp [hc414_251])))
                  · refine ow_icmpNo (q := 417) X247 hx (hb hby at_414) rfl (Jvm.Free.XT.ii_eq_f hc414_251) ?_
                    refine ow_iload (q := 419) X247 hx (hb hby at_417) rfl rfl ?_
                    refine ow_iload (q := 421) X247 hx (hb hby at_419) rfl rfl ?_
                    by_cases hc421_252 : v238 = v237
                    · refine ow_icmpYes (q := 434) X247 hx (hb hby at_421) (Jvm.Free.XT.ii_eq_t hc421_252) (by decide) (by decide) ?_
                      exact cut434_239 nk5 _ _ X247 e247 N247 (own_nk0 (k := 5) hn5 (Or.inr (by simp [hc421_252])))
                    · refine ow_icmpNo (q := 424) X247 hx (hb hby at_421) rfl (Jvm.Free.XT.ii_eq_f hc421_252) ?_
                      refine ow_iload (q := 426) X247 hx (hb hby at_424) rfl rfl ?_
                      refine ow_iload (q := 428) X247 hx (hb hby at_426) rfl rfl ?_
                      by_cases hc428_253 : v238 = f3
                      · refine ow_icmpYes (q := 434) X247 hx (hb hby at_428) (Jvm.Free.XT.ii_eq_t hc428_253) (by decide) (by decide) ?_
                        exact cut434_239 nk5 _ _ X247 e247 N247 (own_nk0 (k := 5) hn5 (Or.inr (by simp [hc428_253])))
                      · refine ow_icmpNo (q := 431) X247 hx (hb hby at_428) rfl (Jvm.Free.XT.ii_eq_f hc428_253) ?_
                        refine ow_iinc (q := 434) X247 hx (L' := #[iv p0, iv p1, iv p2, iv p3, iv p4, iv p5, iv (1114112 : Int32), iv f1, iv l1, iv f2, iv l2, iv f3, iv l3, rv b8, rv b16, iv (1 : Int32), rv b227, iv f1, iv v236, iv f2, iv v237, iv f3, iv v238, iv (nk5 + (1 : Int32))]) (hb hby at_431) rfl rfl rfl ?_
                        generalize hv_v254 : (nk5 + (1 : Int32)) = v254
                        exact cut434_239 v254 _ _ X247 e247 N247 (own_nk1 (k := 5) hn5 hv_v254 (by simp [hc393_248, hc400_249, hc407_250, hc414_251, hc421_252, hc428_253]))
          have cut345_255 : ∀ (nk4 : Int32) (Tc255 : State) (lc255 : List Loc), Stand p l e room_1 s m #[(.int p0), (.int p1), (.int p2), (.int p3), (.int p4), (.int p5)] below meth c Tc255 lc255 7 36 → Tc255.heap = T227.heap → Fr n0 lc255 → (nk4.toInt = (own_s4 f1 l1 f2 l2 f3 l3 f1 v236 f2 v237) ∧ 0 ≤ nk4.toInt ∧ nk4.toInt ≤ ((4 : Nat) : Int)) → ownEnds p e below s (Q_law Z p0 p1 p2 p3 p4 p5 h0 n0) 24 192 Tc255 (mkF m 345 #[iv p0, iv p1, iv p2, iv p3, iv p4, iv p5, iv (1114112 : Int32), iv f1, iv l1, iv f2, iv l2, iv f3, iv l3, rv b8, rv b16, iv (1 : Int32), rv b227, iv f1, iv v236, iv f2, iv v237, iv f3, iv v238, iv nk4] []) := by
            intro nk4 Tc255 lc255 Xc255 ec255 Nc255 hn4
            refine ow_aload (q := 347) Xc255 hx (hb hby at_345) rfl rfl rfl ?_
            refine ow_iload (q := 349) Xc255 hx (hb hby at_347) rfl rfl ?_
            obtain ⟨_, _, ⟨T256, L256, k256, n256⟩, -, X256, ⟨Lc256, hQ256, l256, y256, z256⟩, st256⟩ := Jvm.LawKit.callS Xc255 hx (y := (⟨"com/example/shapewright/shapewright/regex/BuilderAddPinLaw", "ch", "([II)Z"⟩ : MethodName)) hown (mvT hZ (ww 66 rfl)) (mvT hZ (ww 67 rfl)) (mvT hZ (ww 68 rfl)) (mvT hZ (ww 69 rfl)) (by decide) (backOf (W := 0) (rm_ch l Z av0 hw [] b8 f3 (ownUpd (ownUpd (ownUpd (ownUpd (ownUpd (ownUpd (fun _ => (0 : Int32)) 0 f1) 1 l1) 2 f2) 3 l2) 4 f3) 5 l3) T227.heap n0 (Nat.le_trans Z0 K227.1) F228) hZ (ww 69 rfl) (ww 68 rfl) (by decide) (by decide)) (g := (mkF m 349 #[iv p0, iv p1, iv p2, iv p3, iv p4, iv p5, iv (1114112 : Int32), iv f1, iv l1, iv f2, iv l2, iv f3, iv l3, rv b8, rv b16, iv (1 : Int32), rv b227, iv f1, iv v236, iv f2, iv v237, iv f3, iv v238, iv nk4] [(.int f3), (.ref b8)])) rfl (by rw [hml]; rfl) (argsL := [(.ref b8), (.int f3)]) (rest := []) (lenOf own_pd3 rfl) rfl (by show 2 * 0 + _ ≤ _; exact Nat.le_of_eq rfl) (hb hby at_349) (fun _ _ => ⟨rfl, ec255, (by decide : 7 + 0 ≤ _), (by decide : 36 + 0 ≤ _)⟩)
            dsimp only [Pt.U, Pt.locs, Pt.cells, Pt.slots] at X256 l256 y256 z256 st256 hQ256
            subst l256 y256 z256
            obtain ⟨rfl, N256q, e256⟩ := hQ256
            have N256 := Fr.app Nc255 N256q
            refine ownGo (T' := T256) (f' := (mkF m 352 #[iv p0, iv p1, iv p2, iv p3, iv p4, iv p5, iv (1114112 : Int32), iv f1, iv l1, iv f2, iv l2, iv f3, iv l3, rv b8, rv b16, iv (1 : Int32), rv b227, iv f1, iv v236, iv f2, iv v237, iv f3, iv v238, iv nk4] [(.int (own_ch f1 l1 f2 l2 f3 l3 f3))])) (st256) ?_
            by_cases hc352_257 : (own_ch f1 l1 f2 l2 f3 l3 f3) = (0 : Int32)
            · refine ow_ifYes (q := 386) X256 hx (hb hby at_352) (Jvm.Free.XT.i0_eq_t hc352_257) (by decide) (by decide) ?_
              exact cut386_246 nk4 _ _ X256 e256 N256 (own_nk0 (k := 4) hn4 (by simp [hc352_257]))
            · refine ow_ifNo (q := 355) X256 hx (hb hby at_352) rfl (Jvm.Free.XT.i0_eq_f hc352_257) ?_
              refine ow_iload (q := 357) X256 hx (hb hby at_355) rfl rfl ?_
              refine ow_iload (q := 359) X256 hx (hb hby at_357) rfl rfl ?_
              by_cases hc359_258 : f3 = f1
              · refine ow_icmpYes (q := 386) X256 hx (hb hby at_359) (Jvm.Free.XT.ii_eq_t hc359_258) (by decide) (by decide) ?_
                exact cut386_246 nk4 _ _ X256 e256 N256 (own_nk0 (k := 4) hn4 (Or.inr (by simp [hc359_258])))
              · refine ow_icmpNo (q := 362) X256 hx (hb hby at_359) rfl (Jvm.Free.XT.ii_eq_f hc359_258) ?_
                refine ow_iload (q := 364) X256 hx (hb hby at_362) rfl rfl ?_
                refine ow_iload (q := 366) X256 hx (hb hby at_364) rfl rfl ?_
                by_cases hc366_259 : f3 = v236
                · refine ow_icmpYes (q := 386) X256 hx (hb hby at_366) (Jvm.Free.XT.ii_eq_t hc366_259) (by decide) (by decide) ?_
                  exact cut386_246 nk4 _ _ X256 e256 N256 (own_nk0 (k := 4) hn4 (Or.inr (by simp [hc366_259])))
                · refine ow_icmpNo (q := 369) X256 hx (hb hby at_366) rfl (Jvm.Free.XT.ii_eq_f hc366_259) ?_
                  refine ow_iload (q := 371) X256 hx (hb hby at_369) rfl rfl ?_
                  refine ow_iload (q := 373) X256 hx (hb hby at_371) rfl rfl ?_
                  by_cases hc373_260 : f3 = f2
                  · refine ow_icmpYes (q := 386) X256 hx (hb hby at_373) (Jvm.Free.XT.ii_eq_t hc373_260) (by decide) (by decide) ?_
                    exact cut386_246 nk4 _ _ X256 e256 N256 (own_nk0 (k := 4) hn4 (Or.inr (by simp [hc373_260])))
                  · refine ow_icmpNo (q := 376) X256 hx (hb hby at_373) rfl (Jvm.Free.XT.ii_eq_f hc373_260) ?_
                    refine ow_iload (q := 378) X256 hx (hb hby at_376) rfl rfl ?_
                    refine ow_iload (q := 380) X256 hx (hb hby at_378) rfl rfl ?_
                    by_cases hc380_261 : f3 = v237
                    · refine ow_icmpYes (q := 386) X256 hx (hb hby at_380) (Jvm.Free.XT.ii_eq_t hc380_261) (by decide) (by decide) ?_
                      exact cut386_246 nk4 _ _ X256 e256 N256 (own_nk0 (k := 4) hn4 (Or.inr (by simp [hc380_261])))
                    · refine ow_icmpNo (q := 383) X256 hx (hb hby at_380) rfl (Jvm.Free.XT.ii_eq_f hc380_261) ?_
                      refine ow_iinc (q := 386) X256 hx (L' := #[iv p0, iv p1, iv p2, iv p3, iv p4, iv p5, iv (1114112 : Int32), iv f1, iv l1, iv f2, iv l2, iv f3, iv l3, rv b8, rv b16, iv (1 : Int32), rv b227, iv f1, iv v236, iv f2, iv v237, iv f3, iv v238, iv (nk4 + (1 : Int32))]) (hb hby at_383) rfl rfl rfl ?_
                      generalize hv_v262 : (nk4 + (1 : Int32)) = v262
                      exact cut386_246 v262 _ _ X256 e256 N256 (own_nk1 (k := 4) hn4 hv_v262 (by simp [hc352_257, hc359_258, hc366_259, hc373_260, hc380_261]))
          have cut311_263 : ∀ (nk3 : Int32) (Tc263 : State) (lc263 : List Loc), Stand p l e room_1 s m #[(.int p0), (.int p1), (.int p2), (.int p3), (.int p4), (.int p5)] below meth c Tc263 lc263 7 36 → Tc263.heap = T227.heap → Fr n0 lc263 → (nk3.toInt = (own_s3 f1 l1 f2 l2 f3 l3 f1 v236 f2) ∧ 0 ≤ nk3.toInt ∧ nk3.toInt ≤ ((3 : Nat) : Int)) → ownEnds p e below s (Q_law Z p0 p1 p2 p3 p4 p5 h0 n0) 24 192 Tc263 (mkF m 311 #[iv p0, iv p1, iv p2, iv p3, iv p4, iv p5, iv (1114112 : Int32), iv f1, iv l1, iv f2, iv l2, iv f3, iv l3, rv b8, rv b16, iv (1 : Int32), rv b227, iv f1, iv v236, iv f2, iv v237, iv f3, iv v238, iv nk3] []) := by
            intro nk3 Tc263 lc263 Xc263 ec263 Nc263 hn3
            refine ow_aload (q := 313) Xc263 hx (hb hby at_311) rfl rfl rfl ?_
            refine ow_iload (q := 315) Xc263 hx (hb hby at_313) rfl rfl ?_
            obtain ⟨_, _, ⟨T264, L264, k264, n264⟩, -, X264, ⟨Lc264, hQ264, l264, y264, z264⟩, st264⟩ := Jvm.LawKit.callS Xc263 hx (y := (⟨"com/example/shapewright/shapewright/regex/BuilderAddPinLaw", "ch", "([II)Z"⟩ : MethodName)) hown (mvT hZ (ww 66 rfl)) (mvT hZ (ww 67 rfl)) (mvT hZ (ww 68 rfl)) (mvT hZ (ww 69 rfl)) (by decide) (backOf (W := 0) (rm_ch l Z av0 hw [] b8 v237 (ownUpd (ownUpd (ownUpd (ownUpd (ownUpd (ownUpd (fun _ => (0 : Int32)) 0 f1) 1 l1) 2 f2) 3 l2) 4 f3) 5 l3) T227.heap n0 (Nat.le_trans Z0 K227.1) F228) hZ (ww 69 rfl) (ww 68 rfl) (by decide) (by decide)) (g := (mkF m 315 #[iv p0, iv p1, iv p2, iv p3, iv p4, iv p5, iv (1114112 : Int32), iv f1, iv l1, iv f2, iv l2, iv f3, iv l3, rv b8, rv b16, iv (1 : Int32), rv b227, iv f1, iv v236, iv f2, iv v237, iv f3, iv v238, iv nk3] [(.int v237), (.ref b8)])) rfl (by rw [hml]; rfl) (argsL := [(.ref b8), (.int v237)]) (rest := []) (lenOf own_pd3 rfl) rfl (by show 2 * 0 + _ ≤ _; exact Nat.le_of_eq rfl) (hb hby at_315) (fun _ _ => ⟨rfl, ec263, (by decide : 7 + 0 ≤ _), (by decide : 36 + 0 ≤ _)⟩)
            dsimp only [Pt.U, Pt.locs, Pt.cells, Pt.slots] at X264 l264 y264 z264 st264 hQ264
            subst l264 y264 z264
            obtain ⟨rfl, N264q, e264⟩ := hQ264
            have N264 := Fr.app Nc263 N264q
            refine ownGo (T' := T264) (f' := (mkF m 318 #[iv p0, iv p1, iv p2, iv p3, iv p4, iv p5, iv (1114112 : Int32), iv f1, iv l1, iv f2, iv l2, iv f3, iv l3, rv b8, rv b16, iv (1 : Int32), rv b227, iv f1, iv v236, iv f2, iv v237, iv f3, iv v238, iv nk3] [(.int (own_ch f1 l1 f2 l2 f3 l3 v237))])) (st264) ?_
            by_cases hc318_265 : (own_ch f1 l1 f2 l2 f3 l3 v237) = (0 : Int32)
            · refine ow_ifYes (q := 345) X264 hx (hb hby at_318) (Jvm.Free.XT.i0_eq_t hc318_265) (by decide) (by decide) ?_
              exact cut345_255 nk3 _ _ X264 e264 N264 (own_nk0 (k := 3) hn3 (by simp [hc318_265]))
            · refine ow_ifNo (q := 321) X264 hx (hb hby at_318) rfl (Jvm.Free.XT.i0_eq_f hc318_265) ?_
              refine ow_iload (q := 323) X264 hx (hb hby at_321) rfl rfl ?_
              refine ow_iload (q := 325) X264 hx (hb hby at_323) rfl rfl ?_
              by_cases hc325_266 : v237 = f1
              · refine ow_icmpYes (q := 345) X264 hx (hb hby at_325) (Jvm.Free.XT.ii_eq_t hc325_266) (by decide) (by decide) ?_
                exact cut345_255 nk3 _ _ X264 e264 N264 (own_nk0 (k := 3) hn3 (Or.inr (by simp [hc325_266])))
              · refine ow_icmpNo (q := 328) X264 hx (hb hby at_325) rfl (Jvm.Free.XT.ii_eq_f hc325_266) ?_
                refine ow_iload (q := 330) X264 hx (hb hby at_328) rfl rfl ?_
                refine ow_iload (q := 332) X264 hx (hb hby at_330) rfl rfl ?_
                by_cases hc332_267 : v237 = v236
                · refine ow_icmpYes (q := 345) X264 hx (hb hby at_332) (Jvm.Free.XT.ii_eq_t hc332_267) (by decide) (by decide) ?_
                  exact cut345_255 nk3 _ _ X264 e264 N264 (own_nk0 (k := 3) hn3 (Or.inr (by simp [hc332_267])))
                · refine ow_icmpNo (q := 335) X264 hx (hb hby at_332) rfl (Jvm.Free.XT.ii_eq_f hc332_267) ?_
                  refine ow_iload (q := 337) X264 hx (hb hby at_335) rfl rfl ?_
                  refine ow_iload (q := 339) X264 hx (hb hby at_337) rfl rfl ?_
                  by_cases hc339_268 : v237 = f2
                  · refine ow_icmpYes (q := 345) X264 hx (hb hby at_339) (Jvm.Free.XT.ii_eq_t hc339_268) (by decide) (by decide) ?_
                    exact cut345_255 nk3 _ _ X264 e264 N264 (own_nk0 (k := 3) hn3 (Or.inr (by simp [hc339_268])))
                  · refine ow_icmpNo (q := 342) X264 hx (hb hby at_339) rfl (Jvm.Free.XT.ii_eq_f hc339_268) ?_
                    refine ow_iinc (q := 345) X264 hx (L' := #[iv p0, iv p1, iv p2, iv p3, iv p4, iv p5, iv (1114112 : Int32), iv f1, iv l1, iv f2, iv l2, iv f3, iv l3, rv b8, rv b16, iv (1 : Int32), rv b227, iv f1, iv v236, iv f2, iv v237, iv f3, iv v238, iv (nk3 + (1 : Int32))]) (hb hby at_342) rfl rfl rfl ?_
                    generalize hv_v269 : (nk3 + (1 : Int32)) = v269
                    exact cut345_255 v269 _ _ X264 e264 N264 (own_nk1 (k := 3) hn3 hv_v269 (by simp [hc318_265, hc325_266, hc332_267, hc339_268]))
          have cut284_270 : ∀ (nk2 : Int32) (Tc270 : State) (lc270 : List Loc), Stand p l e room_1 s m #[(.int p0), (.int p1), (.int p2), (.int p3), (.int p4), (.int p5)] below meth c Tc270 lc270 7 36 → Tc270.heap = T227.heap → Fr n0 lc270 → (nk2.toInt = (own_s2 f1 l1 f2 l2 f3 l3 f1 v236) ∧ 0 ≤ nk2.toInt ∧ nk2.toInt ≤ ((2 : Nat) : Int)) → ownEnds p e below s (Q_law Z p0 p1 p2 p3 p4 p5 h0 n0) 24 192 Tc270 (mkF m 284 #[iv p0, iv p1, iv p2, iv p3, iv p4, iv p5, iv (1114112 : Int32), iv f1, iv l1, iv f2, iv l2, iv f3, iv l3, rv b8, rv b16, iv (1 : Int32), rv b227, iv f1, iv v236, iv f2, iv v237, iv f3, iv v238, iv nk2] []) := by
            intro nk2 Tc270 lc270 Xc270 ec270 Nc270 hn2
            refine ow_aload (q := 286) Xc270 hx (hb hby at_284) rfl rfl rfl ?_
            refine ow_iload (q := 288) Xc270 hx (hb hby at_286) rfl rfl ?_
            obtain ⟨_, _, ⟨T271, L271, k271, n271⟩, -, X271, ⟨Lc271, hQ271, l271, y271, z271⟩, st271⟩ := Jvm.LawKit.callS Xc270 hx (y := (⟨"com/example/shapewright/shapewright/regex/BuilderAddPinLaw", "ch", "([II)Z"⟩ : MethodName)) hown (mvT hZ (ww 66 rfl)) (mvT hZ (ww 67 rfl)) (mvT hZ (ww 68 rfl)) (mvT hZ (ww 69 rfl)) (by decide) (backOf (W := 0) (rm_ch l Z av0 hw [] b8 f2 (ownUpd (ownUpd (ownUpd (ownUpd (ownUpd (ownUpd (fun _ => (0 : Int32)) 0 f1) 1 l1) 2 f2) 3 l2) 4 f3) 5 l3) T227.heap n0 (Nat.le_trans Z0 K227.1) F228) hZ (ww 69 rfl) (ww 68 rfl) (by decide) (by decide)) (g := (mkF m 288 #[iv p0, iv p1, iv p2, iv p3, iv p4, iv p5, iv (1114112 : Int32), iv f1, iv l1, iv f2, iv l2, iv f3, iv l3, rv b8, rv b16, iv (1 : Int32), rv b227, iv f1, iv v236, iv f2, iv v237, iv f3, iv v238, iv nk2] [(.int f2), (.ref b8)])) rfl (by rw [hml]; rfl) (argsL := [(.ref b8), (.int f2)]) (rest := []) (lenOf own_pd3 rfl) rfl (by show 2 * 0 + _ ≤ _; exact Nat.le_of_eq rfl) (hb hby at_288) (fun _ _ => ⟨rfl, ec270, (by decide : 7 + 0 ≤ _), (by decide : 36 + 0 ≤ _)⟩)
            dsimp only [Pt.U, Pt.locs, Pt.cells, Pt.slots] at X271 l271 y271 z271 st271 hQ271
            subst l271 y271 z271
            obtain ⟨rfl, N271q, e271⟩ := hQ271
            have N271 := Fr.app Nc270 N271q
            refine ownGo (T' := T271) (f' := (mkF m 291 #[iv p0, iv p1, iv p2, iv p3, iv p4, iv p5, iv (1114112 : Int32), iv f1, iv l1, iv f2, iv l2, iv f3, iv l3, rv b8, rv b16, iv (1 : Int32), rv b227, iv f1, iv v236, iv f2, iv v237, iv f3, iv v238, iv nk2] [(.int (own_ch f1 l1 f2 l2 f3 l3 f2))])) (st271) ?_
            by_cases hc291_272 : (own_ch f1 l1 f2 l2 f3 l3 f2) = (0 : Int32)
            · refine ow_ifYes (q := 311) X271 hx (hb hby at_291) (Jvm.Free.XT.i0_eq_t hc291_272) (by decide) (by decide) ?_
              exact cut311_263 nk2 _ _ X271 e271 N271 (own_nk0 (k := 2) hn2 (by simp [hc291_272]))
            · refine ow_ifNo (q := 294) X271 hx (hb hby at_291) rfl (Jvm.Free.XT.i0_eq_f hc291_272) ?_
              refine ow_iload (q := 296) X271 hx (hb hby at_294) rfl rfl ?_
              refine ow_iload (q := 298) X271 hx (hb hby at_296) rfl rfl ?_
              by_cases hc298_273 : f2 = f1
              · refine ow_icmpYes (q := 311) X271 hx (hb hby at_298) (Jvm.Free.XT.ii_eq_t hc298_273) (by decide) (by decide) ?_
                exact cut311_263 nk2 _ _ X271 e271 N271 (own_nk0 (k := 2) hn2 (Or.inr (by simp [hc298_273])))
              · refine ow_icmpNo (q := 301) X271 hx (hb hby at_298) rfl (Jvm.Free.XT.ii_eq_f hc298_273) ?_
                refine ow_iload (q := 303) X271 hx (hb hby at_301) rfl rfl ?_
                refine ow_iload (q := 305) X271 hx (hb hby at_303) rfl rfl ?_
                by_cases hc305_274 : f2 = v236
                · refine ow_icmpYes (q := 311) X271 hx (hb hby at_305) (Jvm.Free.XT.ii_eq_t hc305_274) (by decide) (by decide) ?_
                  exact cut311_263 nk2 _ _ X271 e271 N271 (own_nk0 (k := 2) hn2 (Or.inr (by simp [hc305_274])))
                · refine ow_icmpNo (q := 308) X271 hx (hb hby at_305) rfl (Jvm.Free.XT.ii_eq_f hc305_274) ?_
                  refine ow_iinc (q := 311) X271 hx (L' := #[iv p0, iv p1, iv p2, iv p3, iv p4, iv p5, iv (1114112 : Int32), iv f1, iv l1, iv f2, iv l2, iv f3, iv l3, rv b8, rv b16, iv (1 : Int32), rv b227, iv f1, iv v236, iv f2, iv v237, iv f3, iv v238, iv (nk2 + (1 : Int32))]) (hb hby at_308) rfl rfl rfl ?_
                  generalize hv_v275 : (nk2 + (1 : Int32)) = v275
                  exact cut311_263 v275 _ _ X271 e271 N271 (own_nk1 (k := 2) hn2 hv_v275 (by simp [hc291_272, hc298_273, hc305_274]))
          have cut264_276 : ∀ (nk1 : Int32) (Tc276 : State) (lc276 : List Loc), Stand p l e room_1 s m #[(.int p0), (.int p1), (.int p2), (.int p3), (.int p4), (.int p5)] below meth c Tc276 lc276 7 36 → Tc276.heap = T227.heap → Fr n0 lc276 → (nk1.toInt = (own_s1 f1 l1 f2 l2 f3 l3 f1) ∧ 0 ≤ nk1.toInt ∧ nk1.toInt ≤ ((1 : Nat) : Int)) → ownEnds p e below s (Q_law Z p0 p1 p2 p3 p4 p5 h0 n0) 24 192 Tc276 (mkF m 264 #[iv p0, iv p1, iv p2, iv p3, iv p4, iv p5, iv (1114112 : Int32), iv f1, iv l1, iv f2, iv l2, iv f3, iv l3, rv b8, rv b16, iv (1 : Int32), rv b227, iv f1, iv v236, iv f2, iv v237, iv f3, iv v238, iv nk1] []) := by
            intro nk1 Tc276 lc276 Xc276 ec276 Nc276 hn1
            refine ow_aload (q := 266) Xc276 hx (hb hby at_264) rfl rfl rfl ?_
            refine ow_iload (q := 268) Xc276 hx (hb hby at_266) rfl rfl ?_
            obtain ⟨_, _, ⟨T277, L277, k277, n277⟩, -, X277, ⟨Lc277, hQ277, l277, y277, z277⟩, st277⟩ := Jvm.LawKit.callS Xc276 hx (y := (⟨"com/example/shapewright/shapewright/regex/BuilderAddPinLaw", "ch", "([II)Z"⟩ : MethodName)) hown (mvT hZ (ww 66 rfl)) (mvT hZ (ww 67 rfl)) (mvT hZ (ww 68 rfl)) (mvT hZ (ww 69 rfl)) (by decide) (backOf (W := 0) (rm_ch l Z av0 hw [] b8 v236 (ownUpd (ownUpd (ownUpd (ownUpd (ownUpd (ownUpd (fun _ => (0 : Int32)) 0 f1) 1 l1) 2 f2) 3 l2) 4 f3) 5 l3) T227.heap n0 (Nat.le_trans Z0 K227.1) F228) hZ (ww 69 rfl) (ww 68 rfl) (by decide) (by decide)) (g := (mkF m 268 #[iv p0, iv p1, iv p2, iv p3, iv p4, iv p5, iv (1114112 : Int32), iv f1, iv l1, iv f2, iv l2, iv f3, iv l3, rv b8, rv b16, iv (1 : Int32), rv b227, iv f1, iv v236, iv f2, iv v237, iv f3, iv v238, iv nk1] [(.int v236), (.ref b8)])) rfl (by rw [hml]; rfl) (argsL := [(.ref b8), (.int v236)]) (rest := []) (lenOf own_pd3 rfl) rfl (by show 2 * 0 + _ ≤ _; exact Nat.le_of_eq rfl) (hb hby at_268) (fun _ _ => ⟨rfl, ec276, (by decide : 7 + 0 ≤ _), (by decide : 36 + 0 ≤ _)⟩)
            dsimp only [Pt.U, Pt.locs, Pt.cells, Pt.slots] at X277 l277 y277 z277 st277 hQ277
            subst l277 y277 z277
            obtain ⟨rfl, N277q, e277⟩ := hQ277
            have N277 := Fr.app Nc276 N277q
            refine ownGo (T' := T277) (f' := (mkF m 271 #[iv p0, iv p1, iv p2, iv p3, iv p4, iv p5, iv (1114112 : Int32), iv f1, iv l1, iv f2, iv l2, iv f3, iv l3, rv b8, rv b16, iv (1 : Int32), rv b227, iv f1, iv v236, iv f2, iv v237, iv f3, iv v238, iv nk1] [(.int (own_ch f1 l1 f2 l2 f3 l3 v236))])) (st277) ?_
            by_cases hc271_278 : (own_ch f1 l1 f2 l2 f3 l3 v236) = (0 : Int32)
            · refine ow_ifYes (q := 284) X277 hx (hb hby at_271) (Jvm.Free.XT.i0_eq_t hc271_278) (by decide) (by decide) ?_
              exact cut284_270 nk1 _ _ X277 e277 N277 (own_nk0 (k := 1) hn1 (by simp [hc271_278]))
            · refine ow_ifNo (q := 274) X277 hx (hb hby at_271) rfl (Jvm.Free.XT.i0_eq_f hc271_278) ?_
              refine ow_iload (q := 276) X277 hx (hb hby at_274) rfl rfl ?_
              refine ow_iload (q := 278) X277 hx (hb hby at_276) rfl rfl ?_
              by_cases hc278_279 : v236 = f1
              · refine ow_icmpYes (q := 284) X277 hx (hb hby at_278) (Jvm.Free.XT.ii_eq_t hc278_279) (by decide) (by decide) ?_
                exact cut284_270 nk1 _ _ X277 e277 N277 (own_nk0 (k := 1) hn1 (Or.inr (by simp [hc278_279])))
              · refine ow_icmpNo (q := 281) X277 hx (hb hby at_278) rfl (Jvm.Free.XT.ii_eq_f hc278_279) ?_
                refine ow_iinc (q := 284) X277 hx (L' := #[iv p0, iv p1, iv p2, iv p3, iv p4, iv p5, iv (1114112 : Int32), iv f1, iv l1, iv f2, iv l2, iv f3, iv l3, rv b8, rv b16, iv (1 : Int32), rv b227, iv f1, iv v236, iv f2, iv v237, iv f3, iv v238, iv (nk1 + (1 : Int32))]) (hb hby at_281) rfl rfl rfl ?_
                generalize hv_v280 : (nk1 + (1 : Int32)) = v280
                exact cut284_270 v280 _ _ X277 e277 N277 (own_nk1 (k := 1) hn1 hv_v280 (by simp [hc271_278, hc278_279]))
          refine ow_aload (q := 253) X227 hx (hb hby at_251) rfl rfl rfl ?_
          refine ow_iload (q := 255) X227 hx (hb hby at_253) rfl rfl ?_
          obtain ⟨_, _, ⟨T281, L281, k281, n281⟩, -, X281, ⟨Lc281, hQ281, l281, y281, z281⟩, st281⟩ := Jvm.LawKit.callS X227 hx (y := (⟨"com/example/shapewright/shapewright/regex/BuilderAddPinLaw", "ch", "([II)Z"⟩ : MethodName)) hown (mvT hZ (ww 66 rfl)) (mvT hZ (ww 67 rfl)) (mvT hZ (ww 68 rfl)) (mvT hZ (ww 69 rfl)) (by decide) (backOf (W := 0) (rm_ch l Z av0 hw [] b8 f1 (ownUpd (ownUpd (ownUpd (ownUpd (ownUpd (ownUpd (fun _ => (0 : Int32)) 0 f1) 1 l1) 2 f2) 3 l2) 4 f3) 5 l3) T227.heap n0 (Nat.le_trans Z0 K227.1) F228) hZ (ww 69 rfl) (ww 68 rfl) (by decide) (by decide)) (g := (mkF m 255 #[iv p0, iv p1, iv p2, iv p3, iv p4, iv p5, iv (1114112 : Int32), iv f1, iv l1, iv f2, iv l2, iv f3, iv l3, rv b8, rv b16, iv (1 : Int32), rv b227, iv f1, iv v236, iv f2, iv v237, iv f3, iv v238, iv (0 : Int32)] [(.int f1), (.ref b8)])) rfl (by rw [hml]; rfl) (argsL := [(.ref b8), (.int f1)]) (rest := []) (lenOf own_pd3 rfl) rfl (by show 2 * 0 + _ ≤ _; exact Nat.le_of_eq rfl) (hb hby at_255) (fun _ _ => ⟨rfl, rfl, (by decide : 7 + 0 ≤ _), (by decide : 36 + 0 ≤ _)⟩)
          dsimp only [Pt.U, Pt.locs, Pt.cells, Pt.slots] at X281 l281 y281 z281 st281 hQ281
          subst l281 y281 z281
          obtain ⟨rfl, N281q, e281⟩ := hQ281
          have N281 := Fr.app N227 N281q
          refine ownGo (T' := T281) (f' := (mkF m 258 #[iv p0, iv p1, iv p2, iv p3, iv p4, iv p5, iv (1114112 : Int32), iv f1, iv l1, iv f2, iv l2, iv f3, iv l3, rv b8, rv b16, iv (1 : Int32), rv b227, iv f1, iv v236, iv f2, iv v237, iv f3, iv v238, iv (0 : Int32)] [(.int (own_ch f1 l1 f2 l2 f3 l3 f1))])) (st281) ?_
          by_cases hc258_282 : (own_ch f1 l1 f2 l2 f3 l3 f1) = (0 : Int32)
          · refine ow_ifYes (q := 264) X281 hx (hb hby at_258) (Jvm.Free.XT.i0_eq_t hc258_282) (by decide) (by decide) ?_
            exact cut264_276 (0 : Int32) _ _ X281 e281 N281 (own_nk0 (k := 0) (by decide : (0 : Int32).toInt = (0 : Int) ∧ 0 ≤ (0 : Int32).toInt ∧ (0 : Int32).toInt ≤ ((0 : Nat) : Int)) (by simp [hc258_282]))
          · refine ow_ifNo (q := 261) X281 hx (hb hby at_258) rfl (Jvm.Free.XT.i0_eq_f hc258_282) ?_
            refine ow_iinc (q := 264) X281 hx (L' := #[iv p0, iv p1, iv p2, iv p3, iv p4, iv p5, iv (1114112 : Int32), iv f1, iv l1, iv f2, iv l2, iv f3, iv l3, rv b8, rv b16, iv (1 : Int32), rv b227, iv f1, iv v236, iv f2, iv v237, iv f3, iv v238, iv (1 : Int32)]) (hb hby at_261) rfl rfl rfl ?_
            exact cut264_276 (1 : Int32) _ _ X281 e281 N281 (own_nk1 (k := 0) (by decide : (0 : Int32).toInt = (0 : Int) ∧ 0 ≤ (0 : Int32).toInt ∧ (0 : Int32).toInt ≤ ((0 : Nat) : Int)) (by decide) (by simp [hc258_282]))
    · refine ow_aload (q := 163) X23 hx (hb hby at_161) rfl rfl rfl ?_
      refine ow_iload (q := 165) X23 hx (hb hby at_163) rfl rfl ?_
      refine ow_iload (q := 167) X23 hx (hb hby at_165) rfl rfl ?_
      obtain ⟨cq283, kq283, q283a, q283b, q283c⟩ := isOf hZ rfl FP23_0
      obtain ⟨_, _, ⟨T283, L283, k283, n283⟩, -, X283, ⟨Lc283, hQ283, l283, y283, z283⟩, st283⟩ := X23.virtualBack hx (y := (⟨"com/example/shapewright/shapewright/regex/CodePointSet$Builder", "add", "(II)Lcom/example/shapewright/shapewright/regex/CodePointSet$Builder;"⟩ : MethodName)) (z := (⟨"com/example/shapewright/shapewright/regex/CodePointSet$Builder", "add", "(II)Lcom/example/shapewright/shapewright/regex/CodePointSet$Builder;"⟩ : MethodName)) hown (mvT hZ (ww 14 rfl)) (mvT hZ (ww 15 rfl)) (notFace_of_selects (args := #[]) (mvT hZ (ww 17 rfl))) (mvT hZ (ww 17 rfl)) (mvT hZ (ww 16 rfl)) (by decide) (backOf (W := 0) (rm_add_2_m l Z av0 hw [] b16 f2 l2 ar_20 (ownUpd (ownUpd (fun _ => (0 : Int32)) 0 f1) 1 l1) T23.heap n0 (Nat.le_trans Z0 K23.1) FP23_0 FP23_1 FP23_2 FP23_3 G_b16 G_ar_20 ne_b16_ar_20 hm2) hZ (ww 18 rfl) (ww 5 rfl) (by decide) (by decide)) q283a q283c (g := (mkF m 167 #[iv p0, iv p1, iv p2, iv p3, iv p4, iv p5, iv (1114112 : Int32), iv f1, iv l1, iv f2, iv l2, iv f3, iv l3, rv b8, rv b16, iv (1 : Int32), .unset, .unset, .unset, .unset, .unset, .unset, .unset, .unset] [(.int l2), (.int f2), (.ref b16)])) rfl (by rw [hml]; rfl) (Steps.refl _) (argsL := [(.int f2), (.int l2)]) (rest := []) (lenOf own_pd5 rfl) rfl (by show 2 * 0 + _ ≤ _; exact Nat.le_of_eq rfl) (hb hby at_167) (fun _ _ => ⟨rfl, rfl, (by decide : 3 + 0 ≤ _), (by decide : 24 + 0 ≤ _)⟩)
      dsimp only [Pt.U, Pt.locs, Pt.cells, Pt.slots] at X283 l283 y283 z283 st283 hQ283
      subst l283 y283 z283
      obtain ⟨rfl, N283q, Kq283, FP283_0, FP283_1, FP283_2, FP283_3⟩ := hQ283
      have N283 := Fr.app N23 N283q
      have K283 : Keep h0 T283.heap [] := K23.trans Kq283 (allS (Or.inr sz_b16) (allS (Or.inr sz_ar_20) all0))
      have F284 : ownAI Z T283.heap b8 .int 6 (ownUpd (ownUpd (ownUpd (ownUpd (ownUpd (ownUpd (fun _ => (0 : Int32)) 0 f1) 1 l1) 2 f2) 3 l2) 4 f3) 5 l3) := F24.keep Kq283 (ninS ne_b8_b16 (ninS ne_b8_ar_20 nin0))
      have F285 : Exa Z T283.heap b16 "com/example/shapewright/shapewright/regex/CodePointSet$Builder" := FP23_0.keep Kq283
      refine ownRun (T' := T283) (f' := (mkF m 170 #[iv p0, iv p1, iv p2, iv p3, iv p4, iv p5, iv (1114112 : Int32), iv f1, iv l1, iv f2, iv l2, iv f3, iv l3, rv b8, rv b16, iv (1 : Int32), .unset, .unset, .unset, .unset, .unset, .unset, .unset, .unset] [(.ref b16)])) st283 ?_
      refine ow_aload (q := 172) X283 hx (hb hby at_170) rfl rfl rfl ?_
      refine ownGo (T' := T283) (f' := (mkF m 175 #[iv p0, iv p1, iv p2, iv p3, iv p4, iv p5, iv (1114112 : Int32), iv f1, iv l1, iv f2, iv l2, iv f3, iv l3, rv b8, rv b16, iv (1 : Int32), .unset, .unset, .unset, .unset, .unset, .unset, .unset, .unset] [])) (fun _ k => Jvm.RoadKit.acmp (g := (mkF m 172 #[iv p0, iv p1, iv p2, iv p3, iv p4, iv p5, iv (1114112 : Int32), iv f1, iv l1, iv f2, iv l2, iv f3, iv l3, rv b8, rv b16, iv (1 : Int32), .unset, .unset, .unset, .unset, .unset, .unset, .unset, .unset] [(.ref b16), (.ref b16)])) X283 hx rfl rfl rfl (pc0 := 172) (pc' := 175) (same := true) rfl (hb hby at_172) rfl (decide_eq_true rfl) (by decide) (by decide) k) ?_
      refine ow_iconst (q := 176) X283 hx (1 : Int32) (hb hby at_175) rfl rfl ?_
      refine ow_goto (q := 180) X283 hx (hb hby at_176) (by decide) (by decide) ?_
      refine ow_istore (q := 182) X283 hx (L' := #[iv p0, iv p1, iv p2, iv p3, iv p4, iv p5, iv (1114112 : Int32), iv f1, iv l1, iv f2, iv l2, iv f3, iv l3, rv b8, rv b16, iv (1 : Int32), .unset, .unset, .unset, .unset, .unset, .unset, .unset, .unset]) (hb hby at_180) rfl rfl ?_
      refine ow_iload (q := 184) X283 hx (hb hby at_182) rfl rfl ?_
      refine ow_ifNo (q := 187) X283 hx (hb hby at_184) rfl (Jvm.Free.XT.i0_eq_f (by decide)) ?_
      by_cases hm3 : ((own_max l1 l2) + (1 : Int32)) < f3
      · refine ow_aload (q := 189) X283 hx (hb hby at_187) rfl rfl rfl ?_
        refine ow_iload (q := 191) X283 hx (hb hby at_189) rfl rfl ?_
        refine ow_iload (q := 193) X283 hx (hb hby at_191) rfl rfl ?_
        obtain ⟨cq286, kq286, q286a, q286b, q286c⟩ := isOf hZ rfl FP283_0
        obtain ⟨_, _, ⟨T286, L286, k286, n286⟩, -, X286, ⟨Lc286, hQ286, l286, y286, z286⟩, st286⟩ := X283.virtualBack hx (y := (⟨"com/example/shapewright/shapewright/regex/CodePointSet$Builder", "add", "(II)Lcom/example/shapewright/shapewright/regex/CodePointSet$Builder;"⟩ : MethodName)) (z := (⟨"com/example/shapewright/shapewright/regex/CodePointSet$Builder", "add", "(II)Lcom/example/shapewright/shapewright/regex/CodePointSet$Builder;"⟩ : MethodName)) hown (mvT hZ (ww 14 rfl)) (mvT hZ (ww 15 rfl)) (notFace_of_selects (args := #[]) (mvT hZ (ww 17 rfl))) (mvT hZ (ww 17 rfl)) (mvT hZ (ww 16 rfl)) (by decide) (backOf (W := 0) (rm_add_2_a l Z av0 hw [] b16 f3 l3 ar_20 (ownUpd (ownUpd (ownUpd (fun _ => (0 : Int32)) 0 f1) 1 l1) 1 (own_max l1 l2)) T283.heap n0 (Nat.le_trans Z0 K283.1) FP283_0 FP283_1 FP283_2 FP283_3 G_b16 G_ar_20 ne_b16_ar_20 hm3) hZ (ww 18 rfl) (ww 5 rfl) (by decide) (by decide)) q286a q286c (g := (mkF m 193 #[iv p0, iv p1, iv p2, iv p3, iv p4, iv p5, iv (1114112 : Int32), iv f1, iv l1, iv f2, iv l2, iv f3, iv l3, rv b8, rv b16, iv (1 : Int32), .unset, .unset, .unset, .unset, .unset, .unset, .unset, .unset] [(.int l3), (.int f3), (.ref b16)])) rfl (by rw [hml]; rfl) (Steps.refl _) (argsL := [(.int f3), (.int l3)]) (rest := []) (lenOf own_pd5 rfl) rfl (by show 2 * 0 + _ ≤ _; exact Nat.le_of_eq rfl) (hb hby at_193) (fun _ _ => ⟨rfl, rfl, (by decide : 3 + 0 ≤ _), (by decide : 24 + 0 ≤ _)⟩)
        dsimp only [Pt.U, Pt.locs, Pt.cells, Pt.slots] at X286 l286 y286 z286 st286 hQ286
        subst l286 y286 z286
        obtain ⟨rfl, N286q, Kq286, FP286_0, FP286_1, FP286_2, FP286_3⟩ := hQ286
        have N286 := Fr.app N283 N286q
        have K286 : Keep h0 T286.heap [] := K283.trans Kq286 (allS (Or.inr sz_b16) (allS (Or.inr sz_ar_20) all0))
        have F287 : ownAI Z T286.heap b8 .int 6 (ownUpd (ownUpd (ownUpd (ownUpd (ownUpd (ownUpd (fun _ => (0 : Int32)) 0 f1) 1 l1) 2 f2) 3 l2) 4 f3) 5 l3) := F284.keep Kq286 (ninS ne_b8_b16 (ninS ne_b8_ar_20 nin0))
        have F288 : Exa Z T286.heap b16 "com/example/shapewright/shapewright/regex/CodePointSet$Builder" := FP283_0.keep Kq286
        refine ownRun (T' := T286) (f' := (mkF m 196 #[iv p0, iv p1, iv p2, iv p3, iv p4, iv p5, iv (1114112 : Int32), iv f1, iv l1, iv f2, iv l2, iv f3, iv l3, rv b8, rv b16, iv (1 : Int32), .unset, .unset, .unset, .unset, .unset, .unset, .unset, .unset] [(.ref b16)])) st286 ?_
        refine ow_aload (q := 198) X286 hx (hb hby at_196) rfl rfl rfl ?_
        refine ownGo (T' := T286) (f' := (mkF m 201 #[iv p0, iv p1, iv p2, iv p3, iv p4, iv p5, iv (1114112 : Int32), iv f1, iv l1, iv f2, iv l2, iv f3, iv l3, rv b8, rv b16, iv (1 : Int32), .unset, .unset, .unset, .unset, .unset, .unset, .unset, .unset] [])) (fun _ k => Jvm.RoadKit.acmp (g := (mkF m 198 #[iv p0, iv p1, iv p2, iv p3, iv p4, iv p5, iv (1114112 : Int32), iv f1, iv l1, iv f2, iv l2, iv f3, iv l3, rv b8, rv b16, iv (1 : Int32), .unset, .unset, .unset, .unset, .unset, .unset, .unset, .unset] [(.ref b16), (.ref b16)])) X286 hx rfl rfl rfl (pc0 := 198) (pc' := 201) (same := true) rfl (hb hby at_198) rfl (decide_eq_true rfl) (by decide) (by decide) k) ?_
        refine ow_iconst (q := 202) X286 hx (1 : Int32) (hb hby at_201) rfl rfl ?_
        refine ow_goto (q := 206) X286 hx (hb hby at_202) (by decide) (by decide) ?_
        refine ow_istore (q := 208) X286 hx (L' := #[iv p0, iv p1, iv p2, iv p3, iv p4, iv p5, iv (1114112 : Int32), iv f1, iv l1, iv f2, iv l2, iv f3, iv l3, rv b8, rv b16, iv (1 : Int32), .unset, .unset, .unset, .unset, .unset, .unset, .unset, .unset]) (hb hby at_206) rfl rfl ?_
        by_cases hmx : l3 < (1114111 : Int32)
        · refine ow_aload (q := 210) X286 hx (hb hby at_208) rfl rfl rfl ?_
          obtain ⟨cq289, kq289, q289a, q289b, q289c⟩ := isOf hZ rfl FP286_0
          obtain ⟨_, _, ⟨T289, L289, k289, n289⟩, -, X289, ⟨Lc289, hQ289, l289, y289, z289⟩, st289⟩ := X286.virtualBack hx (y := (⟨"com/example/shapewright/shapewright/regex/CodePointSet$Builder", "build", "()Lcom/example/shapewright/shapewright/regex/CodePointSet;"⟩ : MethodName)) (z := (⟨"com/example/shapewright/shapewright/regex/CodePointSet$Builder", "build", "()Lcom/example/shapewright/shapewright/regex/CodePointSet;"⟩ : MethodName)) hown (mvT hZ (ww 25 rfl)) (mvT hZ (ww 26 rfl)) (notFace_of_selects (args := #[]) (mvT hZ (ww 28 rfl))) (mvT hZ (ww 28 rfl)) (mvT hZ (ww 27 rfl)) (by decide) (backOf (W := 0) (rm_build_4 l Z av0 hw [] b16 ar_20 (ownUpd (ownUpd (ownUpd (ownUpd (ownUpd (fun _ => (0 : Int32)) 0 f1) 1 l1) 1 (own_max l1 l2)) 2 f3) 3 l3) T286.heap n0 (Nat.le_trans Z0 K286.1) FP286_1 FP286_2 FP286_3) hZ (ww 29 rfl) (ww 5 rfl) (by decide) (by decide)) q289a q289c (g := (mkF m 210 #[iv p0, iv p1, iv p2, iv p3, iv p4, iv p5, iv (1114112 : Int32), iv f1, iv l1, iv f2, iv l2, iv f3, iv l3, rv b8, rv b16, iv (1 : Int32), .unset, .unset, .unset, .unset, .unset, .unset, .unset, .unset] [(.ref b16)])) rfl (by rw [hml]; rfl) (Steps.refl _) (argsL := []) (rest := []) (lenOf own_pd6 rfl) rfl (by show 2 * 0 + _ ≤ _; exact Nat.le_of_eq rfl) (hb hby at_210) (fun _ _ => ⟨rfl, rfl, (by decide : 3 + 2 ≤ _), (by decide : 24 + 5 ≤ _)⟩)
          dsimp only [Pt.U, Pt.locs, Pt.cells, Pt.slots] at X289 l289 y289 z289 st289 hQ289
          subst l289 y289 z289
          obtain ⟨b289, ar2_289, rfl, N289q, Kq289, sq289_b289, sq289_ar2_289, FP289_0, FP289_1, FP289_2, hp289⟩ := hQ289
          have N289 := Fr.app N286 N289q
          have K289 : Keep h0 T289.heap [] := K286.trans Kq289 all0
          have ne_b8_b289 : b8 ≠ b289 := Nat.ne_of_lt (Nat.lt_of_lt_of_le F287.lt sq289_b289)
          have ne_b16_b289 : b16 ≠ b289 := Nat.ne_of_lt (Nat.lt_of_lt_of_le FP286_0.lt sq289_b289)
          have ne_ar_20_b289 : ar_20 ≠ b289 := Nat.ne_of_lt (Nat.lt_of_lt_of_le FP286_3.lt sq289_b289)
          have sz_b289 : h0.size ≤ b289 := Nat.le_trans K286.1 sq289_b289
          have G_b289 : n0 ≤ b289 := Nat.le_trans Z0 sz_b289
          have ne_b8_ar2_289 : b8 ≠ ar2_289 := Nat.ne_of_lt (Nat.lt_of_lt_of_le F287.lt sq289_ar2_289)
          have ne_b16_ar2_289 : b16 ≠ ar2_289 := Nat.ne_of_lt (Nat.lt_of_lt_of_le FP286_0.lt sq289_ar2_289)
          have ne_ar_20_ar2_289 : ar_20 ≠ ar2_289 := Nat.ne_of_lt (Nat.lt_of_lt_of_le FP286_3.lt sq289_ar2_289)
          have sz_ar2_289 : h0.size ≤ ar2_289 := Nat.le_trans K286.1 sq289_ar2_289
          have G_ar2_289 : n0 ≤ ar2_289 := Nat.le_trans Z0 sz_ar2_289
          have F290 : ownAI Z T289.heap b8 .int 6 (ownUpd (ownUpd (ownUpd (ownUpd (ownUpd (ownUpd (fun _ => (0 : Int32)) 0 f1) 1 l1) 2 f2) 3 l2) 4 f3) 5 l3) := F287.keep Kq289 nin0
          have F291 : Exa Z T289.heap b16 "com/example/shapewright/shapewright/regex/CodePointSet$Builder" := FP286_0.keep Kq289
          have F292 : Fld Z T289.heap b16 "com/example/shapewright/shapewright/regex/CodePointSet$Builder" "ranges" "[I" (.ref ar_20) := FP286_1.keep Kq289 nin0
          have F293 : Fld Z T289.heap b16 "com/example/shapewright/shapewright/regex/CodePointSet$Builder" "length" "I" (.int (4 : Int32)) := FP286_2.keep Kq289 nin0
          have F294 : ownAI Z T289.heap ar_20 .int 16 (ownUpd (ownUpd (ownUpd (ownUpd (ownUpd (fun _ => (0 : Int32)) 0 f1) 1 l1) 1 (own_max l1 l2)) 2 f3) 3 l3) := FP286_3.keep Kq289 nin0
          refine ownRun (T' := T289) (f' := (mkF m 213 #[iv p0, iv p1, iv p2, iv p3, iv p4, iv p5, iv (1114112 : Int32), iv f1, iv l1, iv f2, iv l2, iv f3, iv l3, rv b8, rv b16, iv (1 : Int32), .unset, .unset, .unset, .unset, .unset, .unset, .unset, .unset] [(.ref b289)])) st289 ?_
          obtain ⟨cq295, kq295, q295a, q295b, q295c⟩ := isOf hZ rfl FP289_0
          obtain ⟨_, _, ⟨T295, L295, k295, n295⟩, -, X295, ⟨Lc295, hQ295, l295, y295, z295⟩, st295⟩ := X289.virtualBack hx (y := (⟨"com/example/shapewright/shapewright/regex/CodePointSet", "edges", "()[I"⟩ : MethodName)) (z := (⟨"com/example/shapewright/shapewright/regex/CodePointSet", "edges", "()[I"⟩ : MethodName)) hown (mvT hZ (ww 50 rfl)) (mvT hZ (ww 51 rfl)) (notFace_of_selects (args := #[]) (mvT hZ (ww 53 rfl))) (mvT hZ (ww 53 rfl)) (mvT hZ (ww 52 rfl)) (by decide) (backOf (W := 0) (rm_edges_4_l l Z av0 hw [] b289 ar2_289 (ownUpd (ownUpd (ownUpd (ownUpd (ownUpd (fun _ => (0 : Int32)) 0 f1) 1 l1) 1 (own_max l1 l2)) 2 f3) 3 l3) T289.heap n0 (Nat.le_trans Z0 K289.1) FP289_1 FP289_2 (own_lt_ma_0 hr hm2 hm3) hmx) hZ (ww 54 rfl) (ww 32 rfl) (by decide) (by decide)) q295a q295c (g := (mkF m 213 #[iv p0, iv p1, iv p2, iv p3, iv p4, iv p5, iv (1114112 : Int32), iv f1, iv l1, iv f2, iv l2, iv f3, iv l3, rv b8, rv b16, iv (1 : Int32), .unset, .unset, .unset, .unset, .unset, .unset, .unset, .unset] [(.ref b289)])) rfl (by rw [hml]; rfl) (Steps.refl _) (argsL := []) (rest := []) (lenOf own_pd7 rfl) rfl (by show 2 * 0 + _ ≤ _; exact Nat.le_of_eq rfl) (hb hby at_213) (fun _ _ => ⟨rfl, rfl, (by decide : 5 + 2 ≤ _), (by decide : 29 + 8 ≤ _)⟩)
          dsimp only [Pt.U, Pt.locs, Pt.cells, Pt.slots] at X295 l295 y295 z295 st295 hQ295
          subst l295 y295 z295
          obtain ⟨b295, rfl, N295q, Kq295, sq295_b295, FP295_0⟩ := hQ295
          have N295 := Fr.app N289 N295q
          have K295 : Keep h0 T295.heap [] := K289.trans Kq295 all0
          have ne_b8_b295 : b8 ≠ b295 := Nat.ne_of_lt (Nat.lt_of_lt_of_le F290.lt sq295_b295)
          have ne_b16_b295 : b16 ≠ b295 := Nat.ne_of_lt (Nat.lt_of_lt_of_le F291.lt sq295_b295)
          have ne_ar_20_b295 : ar_20 ≠ b295 := Nat.ne_of_lt (Nat.lt_of_lt_of_le F294.lt sq295_b295)
          have ne_b289_b295 : b289 ≠ b295 := Nat.ne_of_lt (Nat.lt_of_lt_of_le FP289_0.lt sq295_b295)
          have ne_ar2_289_b295 : ar2_289 ≠ b295 := Nat.ne_of_lt (Nat.lt_of_lt_of_le FP289_2.lt sq295_b295)
          have sz_b295 : h0.size ≤ b295 := Nat.le_trans K289.1 sq295_b295
          have G_b295 : n0 ≤ b295 := Nat.le_trans Z0 sz_b295
          have F296 : ownAI Z T295.heap b8 .int 6 (ownUpd (ownUpd (ownUpd (ownUpd (ownUpd (ownUpd (fun _ => (0 : Int32)) 0 f1) 1 l1) 2 f2) 3 l2) 4 f3) 5 l3) := F290.keep Kq295 nin0
          have F297 : Exa Z T295.heap b16 "com/example/shapewright/shapewright/regex/CodePointSet$Builder" := F291.keep Kq295
          have F298 : Fld Z T295.heap b16 "com/example/shapewright/shapewright/regex/CodePointSet$Builder" "ranges" "[I" (.ref ar_20) := F292.keep Kq295 nin0
          have F299 : Fld Z T295.heap b16 "com/example/shapewright/shapewright/regex/CodePointSet$Builder" "length" "I" (.int (4 : Int32)) := F293.keep Kq295 nin0
          have F300 : ownAI Z T295.heap ar_20 .int 16 (ownUpd (ownUpd (ownUpd (ownUpd (ownUpd (fun _ => (0 : Int32)) 0 f1) 1 l1) 1 (own_max l1 l2)) 2 f3) 3 l3) := F294.keep Kq295 nin0
          have F301 : Exa Z T295.heap b289 "com/example/shapewright/shapewright/regex/CodePointSet" := FP289_0.keep Kq295
          have F302 : Fld Z T295.heap b289 "com/example/shapewright/shapewright/regex/CodePointSet" "ranges" "[I" (.ref ar2_289) := FP289_1.keep Kq295 nin0
          have F303 : ownAI Z T295.heap ar2_289 .int 4 (ownUpd (ownUpd (ownUpd (ownUpd (ownUpd (fun _ => (0 : Int32)) 0 f1) 1 l1) 1 (own_max l1 l2)) 2 f3) 3 l3) := FP289_2.keep Kq295 nin0
          refine ownRun (T' := T295) (f' := (mkF m 216 #[iv p0, iv p1, iv p2, iv p3, iv p4, iv p5, iv (1114112 : Int32), iv f1, iv l1, iv f2, iv l2, iv f3, iv l3, rv b8, rv b16, iv (1 : Int32), .unset, .unset, .unset, .unset, .unset, .unset, .unset, .unset] [(.ref b295)])) st295 ?_
          refine ow_astore (q := 218) X295 hx (L' := #[iv p0, iv p1, iv p2, iv p3, iv p4, iv p5, iv (1114112 : Int32), iv f1, iv l1, iv f2, iv l2, iv f3, iv l3, rv b8, rv b16, iv (1 : Int32), rv b295, .unset, .unset, .unset, .unset, .unset, .unset, .unset]) (hb hby at_216) rfl rfl rfl ?_
          refine ow_iload (q := 220) X295 hx (hb hby at_218) rfl rfl ?_
          refine ow_istore (q := 222) X295 hx (L' := #[iv p0, iv p1, iv p2, iv p3, iv p4, iv p5, iv (1114112 : Int32), iv f1, iv l1, iv f2, iv l2, iv f3, iv l3, rv b8, rv b16, iv (1 : Int32), rv b295, iv f1, .unset, .unset, .unset, .unset, .unset, .unset]) (hb hby at_220) rfl rfl ?_
          refine ow_iload (q := 224) X295 hx (hb hby at_222) rfl rfl ?_
          refine ow_iconst (q := 225) X295 hx (1 : Int32) (hb hby at_224) rfl rfl ?_
          refine ow_iadd (q := 226) X295 hx _ (hb hby at_225) rfl rfl ?_
          generalize hv_v304 : (l1 + (1 : Int32)) = v304
          refine ow_istore (q := 228) X295 hx (L' := #[iv p0, iv p1, iv p2, iv p3, iv p4, iv p5, iv (1114112 : Int32), iv f1, iv l1, iv f2, iv l2, iv f3, iv l3, rv b8, rv b16, iv (1 : Int32), rv b295, iv f1, iv v304, .unset, .unset, .unset, .unset, .unset]) (hb hby at_226) rfl rfl ?_
          refine ow_iload (q := 230) X295 hx (hb hby at_228) rfl rfl ?_
          refine ow_istore (q := 232) X295 hx (L' := #[iv p0, iv p1, iv p2, iv p3, iv p4, iv p5, iv (1114112 : Int32), iv f1, iv l1, iv f2, iv l2, iv f3, iv l3, rv b8, rv b16, iv (1 : Int32), rv b295, iv f1, iv v304, iv f2, .unset, .unset, .unset, .unset]) (hb hby at_230) rfl rfl ?_
          refine ow_iload (q := 234) X295 hx (hb hby at_232) rfl rfl ?_
          refine ow_iconst (q := 235) X295 hx (1 : Int32) (hb hby at_234) rfl rfl ?_
          refine ow_iadd (q := 236) X295 hx _ (hb hby at_235) rfl rfl ?_
          generalize hv_v305 : (l2 + (1 : Int32)) = v305
          refine ow_istore (q := 238) X295 hx (L' := #[iv p0, iv p1, iv p2, iv p3, iv p4, iv p5, iv (1114112 : Int32), iv f1, iv l1, iv f2, iv l2, iv f3, iv l3, rv b8, rv b16, iv (1 : Int32), rv b295, iv f1, iv v304, iv f2, iv v305, .unset, .unset, .unset]) (hb hby at_236) rfl rfl ?_
          refine ow_iload (q := 240) X295 hx (hb hby at_238) rfl rfl ?_
          refine ow_istore (q := 242) X295 hx (L' := #[iv p0, iv p1, iv p2, iv p3, iv p4, iv p5, iv (1114112 : Int32), iv f1, iv l1, iv f2, iv l2, iv f3, iv l3, rv b8, rv b16, iv (1 : Int32), rv b295, iv f1, iv v304, iv f2, iv v305, iv f3, .unset, .unset]) (hb hby at_240) rfl rfl ?_
          refine ow_iload (q := 244) X295 hx (hb hby at_242) rfl rfl ?_
          refine ow_iconst (q := 245) X295 hx (1 : Int32) (hb hby at_244) rfl rfl ?_
          refine ow_iadd (q := 246) X295 hx _ (hb hby at_245) rfl rfl ?_
          generalize hv_v306 : (l3 + (1 : Int32)) = v306
          refine ow_istore (q := 248) X295 hx (L' := #[iv p0, iv p1, iv p2, iv p3, iv p4, iv p5, iv (1114112 : Int32), iv f1, iv l1, iv f2, iv l2, iv f3, iv l3, rv b8, rv b16, iv (1 : Int32), rv b295, iv f1, iv v304, iv f2, iv v305, iv f3, iv v306, .unset]) (hb hby at_246) rfl rfl ?_
          refine ow_iconst (q := 249) X295 hx (0 : Int32) (hb hby at_248) rfl rfl ?_
          refine ow_istore (q := 251) X295 hx (L' := #[iv p0, iv p1, iv p2, iv p3, iv p4, iv p5, iv (1114112 : Int32), iv f1, iv l1, iv f2, iv l2, iv f3, iv l3, rv b8, rv b16, iv (1 : Int32), rv b295, iv f1, iv v304, iv f2, iv v305, iv f3, iv v306, iv (0 : Int32)]) (hb hby at_249) rfl rfl ?_
          have cut434_307 : ∀ (nk6 : Int32) (Tc307 : State) (lc307 : List Loc), Stand p l e room_1 s m #[(.int p0), (.int p1), (.int p2), (.int p3), (.int p4), (.int p5)] below meth c Tc307 lc307 7 37 → Tc307.heap = T295.heap → Fr n0 lc307 → (nk6.toInt = (own_s6 f1 l1 f2 l2 f3 l3 f1 v304 f2 v305 f3 v306) ∧ 0 ≤ nk6.toInt ∧ nk6.toInt ≤ ((6 : Nat) : Int)) → ownEnds p e below s (Q_law Z p0 p1 p2 p3 p4 p5 h0 n0) 24 192 Tc307 (mkF m 434 #[iv p0, iv p1, iv p2, iv p3, iv p4, iv p5, iv (1114112 : Int32), iv f1, iv l1, iv f2, iv l2, iv f3, iv l3, rv b8, rv b16, iv (1 : Int32), rv b295, iv f1, iv v304, iv f2, iv v305, iv f3, iv v306, iv nk6] []) := by
            intro nk6 Tc307 lc307 Xc307 ec307 Nc307 hn6
            refine ow_iload (q := 436) Xc307 hx (hb hby at_434) rfl rfl ?_
            refine ow_ifNo (q := 439) Xc307 hx (hb hby at_436) rfl (Jvm.Free.XT.i0_eq_f (by decide)) ?_
            refine ow_aload (q := 441) Xc307 hx (hb hby at_439) rfl rfl rfl ?_
            refine ownGo (T' := Tc307) (f' := (mkF m 442 #[iv p0, iv p1, iv p2, iv p3, iv p4, iv p5, iv (1114112 : Int32), iv f1, iv l1, iv f2, iv l2, iv f3, iv l3, rv b8, rv b16, iv (1 : Int32), rv b295, iv f1, iv v304, iv f2, iv v305, iv f3, iv v306, iv nk6] [(.int (4 : Int32))])) (ownLenI FP295_0 Xc307 hx hZ ec307 (z := (4 : Int32)) (by decide) (g := (mkF m 441 #[iv p0, iv p1, iv p2, iv p3, iv p4, iv p5, iv (1114112 : Int32), iv f1, iv l1, iv f2, iv l2, iv f3, iv l3, rv b8, rv b16, iv (1 : Int32), rv b295, iv f1, iv v304, iv f2, iv v305, iv f3, iv v306, iv nk6] [(.ref b295)])) rfl rfl (hb hby at_441)) ?_
            refine ow_iload (q := 444) Xc307 hx (hb hby at_442) rfl rfl ?_
            refine ow_icmpNo (q := 447) Xc307 hx (hb hby at_444) rfl (Jvm.Free.XT.ii_ne_f (own_len hn6 (own_total_mal hr hm2 hm3 hmx hv_v304 hv_v305 hv_v306))) ?_
            refine ow_aload (q := 449) Xc307 hx (hb hby at_447) rfl rfl rfl ?_
            refine ow_iconst (q := 450) Xc307 hx (0 : Int32) (hb hby at_449) rfl rfl ?_
            refine ow_aload (q := 452) Xc307 hx (hb hby at_450) rfl rfl rfl ?_
            obtain ⟨_, _, ⟨T308, L308, k308, n308⟩, -, X308, ⟨Lc308, hQ308, l308, y308, z308⟩, st308⟩ := Jvm.LawKit.callS Xc307 hx (y := (⟨"com/example/shapewright/shapewright/regex/BuilderAddPinLaw", "okAt", "([II[I)Z"⟩ : MethodName)) hown (mvT hZ (ww 74 rfl)) (mvT hZ (ww 75 rfl)) (mvT hZ (ww 68 rfl)) (mvT hZ (ww 76 rfl)) (by decide) (backOf (W := 0) (rm_okC l Z av0 hw [] b295 (0 : Int32) b8 4 (4 : Int32) (ownUpd (ownUpd (ownUpd (ownUpd (fun _ => (0 : Int32)) 0 f1) 1 ((own_max l1 l2) + (1 : Int32))) 2 f3) 3 (l3 + (1 : Int32))) (ownUpd (ownUpd (ownUpd (ownUpd (ownUpd (ownUpd (fun _ => (0 : Int32)) 0 f1) 1 l1) 2 f2) 3 l2) 4 f3) 5 l3) T295.heap n0 (Nat.le_trans Z0 K295.1) FP295_0 F296 (by decide) (by decide) (by unfold ownIn; decide) (by decide) (by unfold ownIn; decide)) hZ (ww 76 rfl) (ww 68 rfl) (by decide) (by decide)) (g := (mkF m 452 #[iv p0, iv p1, iv p2, iv p3, iv p4, iv p5, iv (1114112 : Int32), iv f1, iv l1, iv f2, iv l2, iv f3, iv l3, rv b8, rv b16, iv (1 : Int32), rv b295, iv f1, iv v304, iv f2, iv v305, iv f3, iv v306, iv nk6] [(.ref b8), (.int (0 : Int32)), (.ref b295)])) rfl (by rw [hml]; rfl) (argsL := [(.ref b295), (.int (0 : Int32)), (.ref b8)]) (rest := []) (lenOf own_pd8 rfl) rfl (by show 2 * 0 + _ ≤ _; exact Nat.le_of_eq rfl) (hb hby at_452) (fun _ _ => ⟨rfl, ec307, (by decide : 7 + 0 ≤ _), (by decide : 37 + 0 ≤ _)⟩)
            dsimp only [Pt.U, Pt.locs, Pt.cells, Pt.slots] at X308 l308 y308 z308 st308 hQ308
            subst l308 y308 z308
            obtain ⟨rfl, N308q, e308⟩ := hQ308
            have N308 := Fr.app Nc307 N308q
            refine ownGo (T' := T308) (f' := (mkF m 455 #[iv p0, iv p1, iv p2, iv p3, iv p4, iv p5, iv (1114112 : Int32), iv f1, iv l1, iv f2, iv l2, iv f3, iv l3, rv b8, rv b16, iv (1 : Int32), rv b295, iv f1, iv v304, iv f2, iv v305, iv f3, iv v306, iv nk6] [(.int (if (own_ch f1 l1 f2 l2 f3 l3 f1) = (0 : Int32) then (0 : Int32) else if f1 < ((own_max l1 l2) + (1 : Int32)) then (1 : Int32) else (0 : Int32)))])) (st308) ?_
            refine ow_ifNo (q := 458) X308 hx (hb hby at_455) rfl (Jvm.Free.XT.i0_eq_f (own_ok_mal_0 hr hm2 hm3 hmx)) ?_
            refine ow_aload (q := 460) X308 hx (hb hby at_458) rfl rfl rfl ?_
            refine ow_iconst (q := 461) X308 hx (1 : Int32) (hb hby at_460) rfl rfl ?_
            refine ow_aload (q := 463) X308 hx (hb hby at_461) rfl rfl rfl ?_
            obtain ⟨_, _, ⟨T309, L309, k309, n309⟩, -, X309, ⟨Lc309, hQ309, l309, y309, z309⟩, st309⟩ := Jvm.LawKit.callS X308 hx (y := (⟨"com/example/shapewright/shapewright/regex/BuilderAddPinLaw", "okAt", "([II[I)Z"⟩ : MethodName)) hown (mvT hZ (ww 74 rfl)) (mvT hZ (ww 75 rfl)) (mvT hZ (ww 68 rfl)) (mvT hZ (ww 76 rfl)) (by decide) (backOf (W := 0) (rm_okC l Z av0 hw [] b295 (1 : Int32) b8 4 (4 : Int32) (ownUpd (ownUpd (ownUpd (ownUpd (fun _ => (0 : Int32)) 0 f1) 1 ((own_max l1 l2) + (1 : Int32))) 2 f3) 3 (l3 + (1 : Int32))) (ownUpd (ownUpd (ownUpd (ownUpd (ownUpd (ownUpd (fun _ => (0 : Int32)) 0 f1) 1 l1) 2 f2) 3 l2) 4 f3) 5 l3) T295.heap n0 (Nat.le_trans Z0 K295.1) FP295_0 F296 (by decide) (by decide) (by unfold ownIn; decide) (by decide) (by unfold ownIn; decide)) hZ (ww 76 rfl) (ww 68 rfl) (by decide) (by decide)) (g := (mkF m 463 #[iv p0, iv p1, iv p2, iv p3, iv p4, iv p5, iv (1114112 : Int32), iv f1, iv l1, iv f2, iv l2, iv f3, iv l3, rv b8, rv b16, iv (1 : Int32), rv b295, iv f1, iv v304, iv f2, iv v305, iv f3, iv v306, iv nk6] [(.ref b8), (.int (1 : Int32)), (.ref b295)])) rfl (by rw [hml]; rfl) (argsL := [(.ref b295), (.int (1 : Int32)), (.ref b8)]) (rest := []) (lenOf own_pd8 rfl) rfl (by show 2 * 0 + _ ≤ _; exact Nat.le_of_eq rfl) (hb hby at_463) (fun _ _ => ⟨rfl, e308, (by decide : 7 + 0 ≤ _), (by decide : 37 + 0 ≤ _)⟩)
            dsimp only [Pt.U, Pt.locs, Pt.cells, Pt.slots] at X309 l309 y309 z309 st309 hQ309
            subst l309 y309 z309
            obtain ⟨rfl, N309q, e309⟩ := hQ309
            have N309 := Fr.app N308 N309q
            refine ownGo (T' := T309) (f' := (mkF m 466 #[iv p0, iv p1, iv p2, iv p3, iv p4, iv p5, iv (1114112 : Int32), iv f1, iv l1, iv f2, iv l2, iv f3, iv l3, rv b8, rv b16, iv (1 : Int32), rv b295, iv f1, iv v304, iv f2, iv v305, iv f3, iv v306, iv nk6] [(.int (if (own_ch f1 l1 f2 l2 f3 l3 ((own_max l1 l2) + (1 : Int32))) = (0 : Int32) then (0 : Int32) else if ((own_max l1 l2) + (1 : Int32)) < f3 then (1 : Int32) else (0 : Int32)))])) (st309) ?_
            refine ow_ifNo (q := 469) X309 hx (hb hby at_466) rfl (Jvm.Free.XT.i0_eq_f (own_ok_mal_1 hr hm2 hm3 hmx)) ?_
            refine ow_aload (q := 471) X309 hx (hb hby at_469) rfl rfl rfl ?_
            refine ow_iconst (q := 472) X309 hx (2 : Int32) (hb hby at_471) rfl rfl ?_
            refine ow_aload (q := 474) X309 hx (hb hby at_472) rfl rfl rfl ?_
            obtain ⟨_, _, ⟨T310, L310, k310, n310⟩, -, X310, ⟨Lc310, hQ310, l310, y310, z310⟩, st310⟩ := Jvm.LawKit.callS X309 hx (y := (⟨"com/example/shapewright/shapewright/regex/BuilderAddPinLaw", "okAt", "([II[I)Z"⟩ : MethodName)) hown (mvT hZ (ww 74 rfl)) (mvT hZ (ww 75 rfl)) (mvT hZ (ww 68 rfl)) (mvT hZ (ww 76 rfl)) (by decide) (backOf (W := 0) (rm_okC l Z av0 hw [] b295 (2 : Int32) b8 4 (4 : Int32) (ownUpd (ownUpd (ownUpd (ownUpd (fun _ => (0 : Int32)) 0 f1) 1 ((own_max l1 l2) + (1 : Int32))) 2 f3) 3 (l3 + (1 : Int32))) (ownUpd (ownUpd (ownUpd (ownUpd (ownUpd (ownUpd (fun _ => (0 : Int32)) 0 f1) 1 l1) 2 f2) 3 l2) 4 f3) 5 l3) T295.heap n0 (Nat.le_trans Z0 K295.1) FP295_0 F296 (by decide) (by decide) (by unfold ownIn; decide) (by decide) (by unfold ownIn; decide)) hZ (ww 76 rfl) (ww 68 rfl) (by decide) (by decide)) (g := (mkF m 474 #[iv p0, iv p1, iv p2, iv p3, iv p4, iv p5, iv (1114112 : Int32), iv f1, iv l1, iv f2, iv l2, iv f3, iv l3, rv b8, rv b16, iv (1 : Int32), rv b295, iv f1, iv v304, iv f2, iv v305, iv f3, iv v306, iv nk6] [(.ref b8), (.int (2 : Int32)), (.ref b295)])) rfl (by rw [hml]; rfl) (argsL := [(.ref b295), (.int (2 : Int32)), (.ref b8)]) (rest := []) (lenOf own_pd8 rfl) rfl (by show 2 * 0 + _ ≤ _; exact Nat.le_of_eq rfl) (hb hby at_474) (fun _ _ => ⟨rfl, e309, (by decide : 7 + 0 ≤ _), (by decide : 37 + 0 ≤ _)⟩)
            dsimp only [Pt.U, Pt.locs, Pt.cells, Pt.slots] at X310 l310 y310 z310 st310 hQ310
            subst l310 y310 z310
            obtain ⟨rfl, N310q, e310⟩ := hQ310
            have N310 := Fr.app N309 N310q
            refine ownGo (T' := T310) (f' := (mkF m 477 #[iv p0, iv p1, iv p2, iv p3, iv p4, iv p5, iv (1114112 : Int32), iv f1, iv l1, iv f2, iv l2, iv f3, iv l3, rv b8, rv b16, iv (1 : Int32), rv b295, iv f1, iv v304, iv f2, iv v305, iv f3, iv v306, iv nk6] [(.int (if (own_ch f1 l1 f2 l2 f3 l3 f3) = (0 : Int32) then (0 : Int32) else if f3 < (l3 + (1 : Int32)) then (1 : Int32) else (0 : Int32)))])) (st310) ?_
            refine ow_ifNo (q := 480) X310 hx (hb hby at_477) rfl (Jvm.Free.XT.i0_eq_f (own_ok_mal_2 hr hm2 hm3 hmx)) ?_
            refine ow_aload (q := 482) X310 hx (hb hby at_480) rfl rfl rfl ?_
            refine ow_iconst (q := 483) X310 hx (3 : Int32) (hb hby at_482) rfl rfl ?_
            refine ow_aload (q := 485) X310 hx (hb hby at_483) rfl rfl rfl ?_
            obtain ⟨_, _, ⟨T311, L311, k311, n311⟩, -, X311, ⟨Lc311, hQ311, l311, y311, z311⟩, st311⟩ := Jvm.LawKit.callS X310 hx (y := (⟨"com/example/shapewright/shapewright/regex/BuilderAddPinLaw", "okAt", "([II[I)Z"⟩ : MethodName)) hown (mvT hZ (ww 74 rfl)) (mvT hZ (ww 75 rfl)) (mvT hZ (ww 68 rfl)) (mvT hZ (ww 76 rfl)) (by decide) (backOf (W := 0) (rm_okB l Z av0 hw [] b295 (3 : Int32) b8 4 (4 : Int32) (ownUpd (ownUpd (ownUpd (ownUpd (fun _ => (0 : Int32)) 0 f1) 1 ((own_max l1 l2) + (1 : Int32))) 2 f3) 3 (l3 + (1 : Int32))) (ownUpd (ownUpd (ownUpd (ownUpd (ownUpd (ownUpd (fun _ => (0 : Int32)) 0 f1) 1 l1) 2 f2) 3 l2) 4 f3) 5 l3) T295.heap n0 (Nat.le_trans Z0 K295.1) FP295_0 F296 (by decide) (by decide) (by unfold ownIn; decide) (by decide)) hZ (ww 76 rfl) (ww 68 rfl) (by decide) (by decide)) (g := (mkF m 485 #[iv p0, iv p1, iv p2, iv p3, iv p4, iv p5, iv (1114112 : Int32), iv f1, iv l1, iv f2, iv l2, iv f3, iv l3, rv b8, rv b16, iv (1 : Int32), rv b295, iv f1, iv v304, iv f2, iv v305, iv f3, iv v306, iv nk6] [(.ref b8), (.int (3 : Int32)), (.ref b295)])) rfl (by rw [hml]; rfl) (argsL := [(.ref b295), (.int (3 : Int32)), (.ref b8)]) (rest := []) (lenOf own_pd8 rfl) rfl (by show 2 * 0 + _ ≤ _; exact Nat.le_of_eq rfl) (hb hby at_485) (fun _ _ => ⟨rfl, e310, (by decide : 7 + 0 ≤ _), (by decide : 37 + 0 ≤ _)⟩)
            dsimp only [Pt.U, Pt.locs, Pt.cells, Pt.slots] at X311 l311 y311 z311 st311 hQ311
            subst l311 y311 z311
            obtain ⟨rfl, N311q, e311⟩ := hQ311
            have N311 := Fr.app N310 N311q
            refine ownGo (T' := T311) (f' := (mkF m 488 #[iv p0, iv p1, iv p2, iv p3, iv p4, iv p5, iv (1114112 : Int32), iv f1, iv l1, iv f2, iv l2, iv f3, iv l3, rv b8, rv b16, iv (1 : Int32), rv b295, iv f1, iv v304, iv f2, iv v305, iv f3, iv v306, iv nk6] [(.int (if (own_ch f1 l1 f2 l2 f3 l3 (l3 + (1 : Int32))) = (0 : Int32) then (0 : Int32) else (1 : Int32)))])) (st311) ?_
            refine ow_ifNo (q := 491) X311 hx (hb hby at_488) rfl (Jvm.Free.XT.i0_eq_f (own_ok_mal_3 hr hm2 hm3 hmx)) ?_
            refine ow_aload (q := 493) X311 hx (hb hby at_491) rfl rfl rfl ?_
            refine ow_iconst (q := 494) X311 hx (4 : Int32) (hb hby at_493) rfl rfl ?_
            refine ow_aload (q := 496) X311 hx (hb hby at_494) rfl rfl rfl ?_
            obtain ⟨_, _, ⟨T312, L312, k312, n312⟩, -, X312, ⟨Lc312, hQ312, l312, y312, z312⟩, st312⟩ := Jvm.LawKit.callS X311 hx (y := (⟨"com/example/shapewright/shapewright/regex/BuilderAddPinLaw", "okAt", "([II[I)Z"⟩ : MethodName)) hown (mvT hZ (ww 74 rfl)) (mvT hZ (ww 75 rfl)) (mvT hZ (ww 68 rfl)) (mvT hZ (ww 76 rfl)) (by decide) (backOf (W := 0) (rm_okA l Z av0 hw [] b295 (4 : Int32) b8 4 (4 : Int32) (ownUpd (ownUpd (ownUpd (ownUpd (fun _ => (0 : Int32)) 0 f1) 1 ((own_max l1 l2) + (1 : Int32))) 2 f3) 3 (l3 + (1 : Int32))) (ownUpd (ownUpd (ownUpd (ownUpd (ownUpd (ownUpd (fun _ => (0 : Int32)) 0 f1) 1 l1) 2 f2) 3 l2) 4 f3) 5 l3) T295.heap n0 (Nat.le_trans Z0 K295.1) FP295_0 F296 (by decide) (by decide)) hZ (ww 76 rfl) (ww 68 rfl) (by decide) (by decide)) (g := (mkF m 496 #[iv p0, iv p1, iv p2, iv p3, iv p4, iv p5, iv (1114112 : Int32), iv f1, iv l1, iv f2, iv l2, iv f3, iv l3, rv b8, rv b16, iv (1 : Int32), rv b295, iv f1, iv v304, iv f2, iv v305, iv f3, iv v306, iv nk6] [(.ref b8), (.int (4 : Int32)), (.ref b295)])) rfl (by rw [hml]; rfl) (argsL := [(.ref b295), (.int (4 : Int32)), (.ref b8)]) (rest := []) (lenOf own_pd8 rfl) rfl (by show 2 * 0 + _ ≤ _; exact Nat.le_of_eq rfl) (hb hby at_496) (fun _ _ => ⟨rfl, e311, (by decide : 7 + 0 ≤ _), (by decide : 37 + 0 ≤ _)⟩)
            dsimp only [Pt.U, Pt.locs, Pt.cells, Pt.slots] at X312 l312 y312 z312 st312 hQ312
            subst l312 y312 z312
            obtain ⟨rfl, N312q, e312⟩ := hQ312
            have N312 := Fr.app N311 N312q
            refine ownGo (T' := T312) (f' := (mkF m 499 #[iv p0, iv p1, iv p2, iv p3, iv p4, iv p5, iv (1114112 : Int32), iv f1, iv l1, iv f2, iv l2, iv f3, iv l3, rv b8, rv b16, iv (1 : Int32), rv b295, iv f1, iv v304, iv f2, iv v305, iv f3, iv v306, iv nk6] [(.int (1 : Int32))])) (st312) ?_
            refine ow_ifNo (q := 502) X312 hx (hb hby at_499) rfl (Jvm.Free.XT.i0_eq_f (by decide)) ?_
            refine ow_aload (q := 504) X312 hx (hb hby at_502) rfl rfl rfl ?_
            refine ow_iconst (q := 505) X312 hx (5 : Int32) (hb hby at_504) rfl rfl ?_
            refine ow_aload (q := 507) X312 hx (hb hby at_505) rfl rfl rfl ?_
            obtain ⟨_, _, ⟨T313, L313, k313, n313⟩, -, X313, ⟨Lc313, hQ313, l313, y313, z313⟩, st313⟩ := Jvm.LawKit.callS X312 hx (y := (⟨"com/example/shapewright/shapewright/regex/BuilderAddPinLaw", "okAt", "([II[I)Z"⟩ : MethodName)) hown (mvT hZ (ww 74 rfl)) (mvT hZ (ww 75 rfl)) (mvT hZ (ww 68 rfl)) (mvT hZ (ww 76 rfl)) (by decide) (backOf (W := 0) (rm_okA l Z av0 hw [] b295 (5 : Int32) b8 4 (4 : Int32) (ownUpd (ownUpd (ownUpd (ownUpd (fun _ => (0 : Int32)) 0 f1) 1 ((own_max l1 l2) + (1 : Int32))) 2 f3) 3 (l3 + (1 : Int32))) (ownUpd (ownUpd (ownUpd (ownUpd (ownUpd (ownUpd (fun _ => (0 : Int32)) 0 f1) 1 l1) 2 f2) 3 l2) 4 f3) 5 l3) T295.heap n0 (Nat.le_trans Z0 K295.1) FP295_0 F296 (by decide) (by decide)) hZ (ww 76 rfl) (ww 68 rfl) (by decide) (by decide)) (g := (mkF m 507 #[iv p0, iv p1, iv p2, iv p3, iv p4, iv p5, iv (1114112 : Int32), iv f1, iv l1, iv f2, iv l2, iv f3, iv l3, rv b8, rv b16, iv (1 : Int32), rv b295, iv f1, iv v304, iv f2, iv v305, iv f3, iv v306, iv nk6] [(.ref b8), (.int (5 : Int32)), (.ref b295)])) rfl (by rw [hml]; rfl) (argsL := [(.ref b295), (.int (5 : Int32)), (.ref b8)]) (rest := []) (lenOf own_pd8 rfl) rfl (by show 2 * 0 + _ ≤ _; exact Nat.le_of_eq rfl) (hb hby at_507) (fun _ _ => ⟨rfl, e312, (by decide : 7 + 0 ≤ _), (by decide : 37 + 0 ≤ _)⟩)
            dsimp only [Pt.U, Pt.locs, Pt.cells, Pt.slots] at X313 l313 y313 z313 st313 hQ313
            subst l313 y313 z313
            obtain ⟨rfl, N313q, e313⟩ := hQ313
            have N313 := Fr.app N312 N313q
            refine ownGo (T' := T313) (f' := (mkF m 510 #[iv p0, iv p1, iv p2, iv p3, iv p4, iv p5, iv (1114112 : Int32), iv f1, iv l1, iv f2, iv l2, iv f3, iv l3, rv b8, rv b16, iv (1 : Int32), rv b295, iv f1, iv v304, iv f2, iv v305, iv f3, iv v306, iv nk6] [(.int (1 : Int32))])) (st313) ?_
            refine ow_ifNo (q := 513) X313 hx (hb hby at_510) rfl (Jvm.Free.XT.i0_eq_f (by decide)) ?_
            refine ow_iconst (q := 514) X313 hx (1 : Int32) (hb hby at_513) rfl rfl ?_
            refine ow_goto (q := 518) X313 hx (hb hby at_514) (by decide) (by decide) ?_
            refine ownRetN X313 hx (r := (1 : Int32)) (Or.inl rfl) Bd.returns (hb hby at_518) hlk (by decide) (by decide) (by decide) ?_
            exact ⟨rfl, N313⟩
          have cut386_314 : ∀ (nk5 : Int32) (Tc314 : State) (lc314 : List Loc), Stand p l e room_1 s m #[(.int p0), (.int p1), (.int p2), (.int p3), (.int p4), (.int p5)] below meth c Tc314 lc314 7 37 → Tc314.heap = T295.heap → Fr n0 lc314 → (nk5.toInt = (own_s5 f1 l1 f2 l2 f3 l3 f1 v304 f2 v305 f3) ∧ 0 ≤ nk5.toInt ∧ nk5.toInt ≤ ((5 : Nat) : Int)) → ownEnds p e below s (Q_law Z p0 p1 p2 p3 p4 p5 h0 n0) 24 192 Tc314 (mkF m 386 #[iv p0, iv p1, iv p2, iv p3, iv p4, iv p5, iv (1114112 : Int32), iv f1, iv l1, iv f2, iv l2, iv f3, iv l3, rv b8, rv b16, iv (1 : Int32), rv b295, iv f1, iv v304, iv f2, iv v305, iv f3, iv v306, iv nk5] []) := by
            intro nk5 Tc314 lc314 Xc314 ec314 Nc314 hn5
            refine ow_aload (q := 388) Xc314 hx (hb hby at_386) rfl rfl rfl ?_
            refine ow_iload (q := 390) Xc314 hx (hb hby at_388) rfl rfl ?_
            obtain ⟨_, _, ⟨T315, L315, k315, n315⟩, -, X315, ⟨Lc315, hQ315, l315, y315, z315⟩, st315⟩ := Jvm.LawKit.callS Xc314 hx (y := (⟨"com/example/shapewright/shapewright/regex/BuilderAddPinLaw", "ch", "([II)Z"⟩ : MethodName)) hown (mvT hZ (ww 66 rfl)) (mvT hZ (ww 67 rfl)) (mvT hZ (ww 68 rfl)) (mvT hZ (ww 69 rfl)) (by decide) (backOf (W := 0) (rm_ch l Z av0 hw [] b8 v306 (ownUpd (ownUpd (ownUpd (ownUpd (ownUpd (ownUpd (fun _ => (0 : Int32)) 0 f1) 1 l1) 2 f2) 3 l2) 4 f3) 5 l3) T295.heap n0 (Nat.le_trans Z0 K295.1) F296) hZ (ww 69 rfl) (ww 68 rfl) (by decide) (by decide)) (g := (mkF m 390 #[iv p0, iv p1, iv p2, iv p3, iv p4, iv p5, iv (1114112 : Int32), iv f1, iv l1, iv f2, iv l2, iv f3, iv l3, rv b8, rv b16, iv (1 : Int32), rv b295, iv f1, iv v304, iv f2, iv v305, iv f3, iv v306, iv nk5] [(.int v306), (.ref b8)])) rfl (by rw [hml]; rfl) (argsL := [(.ref b8), (.int v306)]) (rest := []) (lenOf own_pd3 rfl) rfl (by show 2 * 0 + _ ≤ _; exact Nat.le_of_eq rfl) (hb hby at_390) (fun _ _ => ⟨rfl, ec314, (by decide : 7 + 0 ≤ _), (by decide : 37 + 0 ≤ _)⟩)
            dsimp only [Pt.U, Pt.locs, Pt.cells, Pt.slots] at X315 l315 y315 z315 st315 hQ315
            subst l315 y315 z315
            obtain ⟨rfl, N315q, e315⟩ := hQ315
            have N315 := Fr.app Nc314 N315q
            refine ownGo (T' := T315) (f' := (mkF m 393 #[iv p0, iv p1, iv p2, iv p3, iv p4, iv p5, iv (1114112 : Int32), iv f1, iv l1, iv f2, iv l2, iv f3, iv l3, rv b8, rv b16, iv (1 : Int32), rv b295, iv f1, iv v304, iv f2, iv v305, iv f3, iv v306, iv nk5] [(.int (own_ch f1 l1 f2 l2 f3 l3 v306))])) (st315) ?_
            by_cases hc393_316 : (own_ch f1 l1 f2 l2 f3 l3 v306) = (0 : Int32)
            · refine ow_ifYes (q := 434) X315 hx (hb hby at_393) (Jvm.Free.XT.i0_eq_t hc393_316) (by decide) (by decide) ?_
              exact cut434_307 nk5 _ _ X315 e315 N315 (own_nk0 (k := 5) hn5 (by simp [hc393_316]))
            · refine ow_ifNo (q := 396) X315 hx (hb hby at_393) rfl (Jvm.Free.XT.i0_eq_f hc393_316) ?_
              refine ow_iload (q := 398) X315 hx (hb hby at_396) rfl rfl ?_
              refine ow_iload (q := 400) X315 hx (hb hby at_398) rfl rfl ?_
              by_cases hc400_317 : v306 = f1
              · refine ow_icmpYes (q := 434) X315 hx (hb hby at_400) (Jvm.Free.XT.ii_eq_t hc400_317) (by decide) (by decide) ?_
                exact cut434_307 nk5 _ _ X315 e315 N315 (own_nk0 (k := 5) hn5 (Or.inr (by simp [hc400_317])))
              · refine ow_icmpNo (q := 403) X315 hx (hb hby at_400) rfl (Jvm.Free.XT.ii_eq_f hc400_317) ?_
                refine ow_iload (q := 405) X315 hx (hb hby at_403) rfl rfl ?_
                refine ow_iload (q := 407) X315 hx (hb hby at_405) rfl rfl ?_
                by_cases hc407_318 : v306 = v304
                · refine ow_icmpYes (q := 434) X315 hx (hb hby at_407) (Jvm.Free.XT.ii_eq_t hc407_318) (by decide) (by decide) ?_
                  exact cut434_307 nk5 _ _ X315 e315 N315 (own_nk0 (k := 5) hn5 (Or.inr (by simp [hc407_318])))
                · refine ow_icmpNo (q := 410) X315 hx (hb hby at_407) rfl (Jvm.Free.XT.ii_eq_f hc407_318) ?_
                  refine ow_iload (q := 412) X315 hx (hb hby at_410) rfl rfl ?_
                  refine ow_iload (q := 414) X315 hx (hb hby at_412) rfl rfl ?_
                  by_cases hc414_319 : v306 = f2
                  · refine ow_icmpYes (q := 434) X315 hx (hb hby at_414) (Jvm.Free.XT.ii_eq_t hc414_319) (by decide) (by decide) ?_
                    exact cut434_307 nk5 _ _ X315 e315 N315 (own_nk0 (k := 5) hn5 (Or.inr (by simp [hc414_319])))
                  · refine ow_icmpNo (q := 417) X315 hx (hb hby at_414) rfl (Jvm.Free.XT.ii_eq_f hc414_319) ?_
                    refine ow_iload (q := 419) X315 hx (hb hby at_417) rfl rfl ?_
                    refine ow_iload (q := 421) X315 hx (hb hby at_419) rfl rfl ?_
                    by_cases hc421_320 : v306 = v305
                    · refine ow_icmpYes (q := 434) X315 hx (hb hby at_421) (Jvm.Free.XT.ii_eq_t hc421_320) (by decide) (by decide) ?_
                      exact cut434_307 nk5 _ _ X315 e315 N315 (own_nk0 (k := 5) hn5 (Or.inr (by simp [hc421_320])))
                    · refine ow_icmpNo (q := 424) X315 hx (hb hby at_421) rfl (Jvm.Free.XT.ii_eq_f hc421_320) ?_
                      refine ow_iload (q := 426) X315 hx (hb hby at_424) rfl rfl ?_
                      refine ow_iload (q := 428) X315 hx (hb hby at_426) rfl rfl ?_
                      by_cases hc428_321 : v306 = f3
                      · refine ow_icmpYes (q := 434) X315 hx (hb hby at_428) (Jvm.Free.XT.ii_eq_t hc428_321) (by decide) (by decide) ?_
                        exact cut434_307 nk5 _ _ X315 e315 N315 (own_nk0 (k := 5) hn5 (Or.inr (by simp [hc428_321])))
                      · refine ow_icmpNo (q := 431) X315 hx (hb hby at_428) rfl (Jvm.Free.XT.ii_eq_f hc428_321) ?_
                        refine ow_iinc (q := 434) X315 hx (L' := #[iv p0, iv p1, iv p2, iv p3, iv p4, iv p5, iv (1114112 : Int32), iv f1, iv l1, iv f2, iv l2, iv f3, iv l3, rv b8, rv b16, iv (1 : Int32), rv b295, iv f1, iv v304, iv f2, iv v305, iv f3, iv v306, iv (nk5 + (1 : Int32))]) (hb hby at_431) rfl rfl rfl ?_
                        generalize hv_v322 : (nk5 + (1 : Int32)) = v322
                        exact cut434_307 v322 _ _ X315 e315 N315 (own_nk1 (k := 5) hn5 hv_v322 (by simp [hc393_316, hc400_317, hc407_318, hc414_319, hc421_320, hc428_321]))
          have cut345_323 : ∀ (nk4 : Int32) (Tc323 : State) (lc323 : List Loc), Stand p l e room_1 s m #[(.int p0), (.int p1), (.int p2), (.int p3), (.int p4), (.int p5)] below meth c Tc323 lc323 7 37 → Tc323.heap = T295.heap → Fr n0 lc323 → (nk4.toInt = (own_s4 f1 l1 f2 l2 f3 l3 f1 v304 f2 v305) ∧ 0 ≤ nk4.toInt ∧ nk4.toInt ≤ ((4 : Nat) : Int)) → ownEnds p e below s (Q_law Z p0 p1 p2 p3 p4 p5 h0 n0) 24 192 Tc323 (mkF m 345 #[iv p0, iv p1, iv p2, iv p3, iv p4, iv p5, iv (1114112 : Int32), iv f1, iv l1, iv f2, iv l2, iv f3, iv l3, rv b8, rv b16, iv (1 : Int32), rv b295, iv f1, iv v304, iv f2, iv v305, iv f3, iv v306, iv nk4] []) := by
            intro nk4 Tc323 lc323 Xc323 ec323 Nc323 hn4
            refine ow_aload (q := 347) Xc323 hx (hb hby at_345) rfl rfl rfl ?_
            refine ow_iload (q := 349) Xc323 hx (hb hby at_347) rfl rfl ?_
            obtain ⟨_, _, ⟨T324, L324, k324, n324⟩, -, X324, ⟨Lc324, hQ324, l324, y324, z324⟩, st324⟩ := Jvm.LawKit.callS Xc323 hx (y := (⟨"com/example/shapewright/shapewright/regex/BuilderAddPinLaw", "ch", "([II)Z"⟩ : MethodName)) hown (mvT hZ (ww 66 rfl)) (mvT hZ (ww 67 rfl)) (mvT hZ (ww 68 rfl)) (mvT hZ (ww 69 rfl)) (by decide) (backOf (W := 0) (rm_ch l Z av0 hw [] b8 f3 (ownUpd (ownUpd (ownUpd (ownUpd (ownUpd (ownUpd (fun _ => (0 : Int32)) 0 f1) 1 l1) 2 f2) 3 l2) 4 f3) 5 l3) T295.heap n0 (Nat.le_trans Z0 K295.1) F296) hZ (ww 69 rfl) (ww 68 rfl) (by decide) (by decide)) (g := (mkF m 349 #[iv p0, iv p1, iv p2, iv p3, iv p4, iv p5, iv (1114112 : Int32), iv f1, iv l1, iv f2, iv l2, iv f3, iv l3, rv b8, rv b16, iv (1 : Int32), rv b295, iv f1, iv v304, iv f2, iv v305, iv f3, iv v306, iv nk4] [(.int f3), (.ref b8)])) rfl (by rw [hml]; rfl) (argsL := [(.ref b8), (.int f3)]) (rest := []) (lenOf own_pd3 rfl) rfl (by show 2 * 0 + _ ≤ _; exact Nat.le_of_eq rfl) (hb hby at_349) (fun _ _ => ⟨rfl, ec323, (by decide : 7 + 0 ≤ _), (by decide : 37 + 0 ≤ _)⟩)
            dsimp only [Pt.U, Pt.locs, Pt.cells, Pt.slots] at X324 l324 y324 z324 st324 hQ324
            subst l324 y324 z324
            obtain ⟨rfl, N324q, e324⟩ := hQ324
            have N324 := Fr.app Nc323 N324q
            refine ownGo (T' := T324) (f' := (mkF m 352 #[iv p0, iv p1, iv p2, iv p3, iv p4, iv p5, iv (1114112 : Int32), iv f1, iv l1, iv f2, iv l2, iv f3, iv l3, rv b8, rv b16, iv (1 : Int32), rv b295, iv f1, iv v304, iv f2, iv v305, iv f3, iv v306, iv nk4] [(.int (own_ch f1 l1 f2 l2 f3 l3 f3))])) (st324) ?_
            by_cases hc352_325 : (own_ch f1 l1 f2 l2 f3 l3 f3) = (0 : Int32)
            · refine ow_ifYes (q := 386) X324 hx (hb hby at_352) (Jvm.Free.XT.i0_eq_t hc352_325) (by decide) (by decide) ?_
              exact cut386_314 nk4 _ _ X324 e324 N324 (own_nk0 (k := 4) hn4 (by simp [hc352_325]))
            · refine ow_ifNo (q := 355) X324 hx (hb hby at_352) rfl (Jvm.Free.XT.i0_eq_f hc352_325) ?_
              refine ow_iload (q := 357) X324 hx (hb hby at_355) rfl rfl ?_
              refine ow_iload (q := 359) X324 hx (hb hby at_357) rfl rfl ?_
              by_cases hc359_326 : f3 = f1
              · refine ow_icmpYes (q := 386) X324 hx (hb hby at_359) (Jvm.Free.XT.ii_eq_t hc359_326) (by decide) (by decide) ?_
                exact cut386_314 nk4 _ _ X324 e324 N324 (own_nk0 (k := 4) hn4 (Or.inr (by simp [hc359_326])))
              · refine ow_icmpNo (q := 362) X324 hx (hb hby at_359) rfl (Jvm.Free.XT.ii_eq_f hc359_326) ?_
                refine ow_iload (q := 364) X324 hx (hb hby at_362) rfl rfl ?_
                refine ow_iload (q := 366) X324 hx (hb hby at_364) rfl rfl ?_
                by_cases hc366_327 : f3 = v304
                · refine ow_icmpYes (q := 386) X324 hx (hb hby at_366) (Jvm.Free.XT.ii_eq_t hc366_327) (by decide) (by decide) ?_
                  exact cut386_314 nk4 _ _ X324 e324 N324 (own_nk0 (k := 4) hn4 (Or.inr (by simp [hc366_327])))
                · refine ow_icmpNo (q := 369) X324 hx (hb hby at_366) rfl (Jvm.Free.XT.ii_eq_f hc366_327) ?_
                  refine ow_iload (q := 371) X324 hx (hb hby at_369) rfl rfl ?_
                  refine ow_iload (q := 373) X324 hx (hb hby at_371) rfl rfl ?_
                  by_cases hc373_328 : f3 = f2
                  · refine ow_icmpYes (q := 386) X324 hx (hb hby at_373) (Jvm.Free.XT.ii_eq_t hc373_328) (by decide) (by decide) ?_
                    exact cut386_314 nk4 _ _ X324 e324 N324 (own_nk0 (k := 4) hn4 (Or.inr (by simp [hc373_328])))
                  · refine ow_icmpNo (q := 376) X324 hx (hb hby at_373) rfl (Jvm.Free.XT.ii_eq_f hc373_328) ?_
                    refine ow_iload (q := 378) X324 hx (hb hby at_376) rfl rfl ?_
                    refine ow_iload (q := 380) X324 hx (hb hby at_378) rfl rfl ?_
                    by_cases hc380_329 : f3 = v305
                    · refine ow_icmpYes (q := 386) X324 hx (hb hby at_380) (Jvm.Free.XT.ii_eq_t hc380_329) (by decide) (by decide) ?_
                      exact cut386_314 nk4 _ _ X324 e324 N324 (own_nk0 (k := 4) hn4 (Or.inr (by simp [hc380_329])))
                    · refine ow_icmpNo (q := 383) X324 hx (hb hby at_380) rfl (Jvm.Free.XT.ii_eq_f hc380_329) ?_
                      refine ow_iinc (q := 386) X324 hx (L' := #[iv p0, iv p1, iv p2, iv p3, iv p4, iv p5, iv (1114112 : Int32), iv f1, iv l1, iv f2, iv l2, iv f3, iv l3, rv b8, rv b16, iv (1 : Int32), rv b295, iv f1, iv v304, iv f2, iv v305, iv f3, iv v306, iv (nk4 + (1 : Int32))]) (hb hby at_383) rfl rfl rfl ?_
                      generalize hv_v330 : (nk4 + (1 : Int32)) = v330
                      exact cut386_314 v330 _ _ X324 e324 N324 (own_nk1 (k := 4) hn4 hv_v330 (by simp [hc352_325, hc359_326, hc366_327, hc373_328, hc380_329]))
          have cut311_331 : ∀ (nk3 : Int32) (Tc331 : State) (lc331 : List Loc), Stand p l e room_1 s m #[(.int p0), (.int p1), (.int p2), (.int p3), (.int p4), (.int p5)] below meth c Tc331 lc331 7 37 → Tc331.heap = T295.heap → Fr n0 lc331 → (nk3.toInt = (own_s3 f1 l1 f2 l2 f3 l3 f1 v304 f2) ∧ 0 ≤ nk3.toInt ∧ nk3.toInt ≤ ((3 : Nat) : Int)) → ownEnds p e below s (Q_law Z p0 p1 p2 p3 p4 p5 h0 n0) 24 192 Tc331 (mkF m 311 #[iv p0, iv p1, iv p2, iv p3, iv p4, iv p5, iv (1114112 : Int32), iv f1, iv l1, iv f2, iv l2, iv f3, iv l3, rv b8, rv b16, iv (1 : Int32), rv b295, iv f1, iv v304, iv f2, iv v305, iv f3, iv v306, iv nk3] []) := by
            intro nk3 Tc331 lc331 Xc331 ec331 Nc331 hn3
            refine ow_aload (q := 313) Xc331 hx (hb hby at_311) rfl rfl rfl ?_
            refine ow_iload (q := 315) Xc331 hx (hb hby at_313) rfl rfl ?_
            obtain ⟨_, _, ⟨T332, L332, k332, n332⟩, -, X332, ⟨Lc332, hQ332, l332, y332, z332⟩, st332⟩ := Jvm.LawKit.callS Xc331 hx (y := (⟨"com/example/shapewright/shapewright/regex/BuilderAddPinLaw", "ch", "([II)Z"⟩ : MethodName)) hown (mvT hZ (ww 66 rfl)) (mvT hZ (ww 67 rfl)) (mvT hZ (ww 68 rfl)) (mvT hZ (ww 69 rfl)) (by decide) (backOf (W := 0) (rm_ch l Z av0 hw [] b8 v305 (ownUpd (ownUpd (ownUpd (ownUpd (ownUpd (ownUpd (fun _ => (0 : Int32)) 0 f1) 1 l1) 2 f2) 3 l2) 4 f3) 5 l3) T295.heap n0 (Nat.le_trans Z0 K295.1) F296) hZ (ww 69 rfl) (ww 68 rfl) (by decide) (by decide)) (g := (mkF m 315 #[iv p0, iv p1, iv p2, iv p3, iv p4, iv p5, iv (1114112 : Int32), iv f1, iv l1, iv f2, iv l2, iv f3, iv l3, rv b8, rv b16, iv (1 : Int32), rv b295, iv f1, iv v304, iv f2, iv v305, iv f3, iv v306, iv nk3] [(.int v305), (.ref b8)])) rfl (by rw [hml]; rfl) (argsL := [(.ref b8), (.int v305)]) (rest := []) (lenOf own_pd3 rfl) rfl (by show 2 * 0 + _ ≤ _; exact Nat.le_of_eq rfl) (hb hby at_315) (fun _ _ => ⟨rfl, ec331, (by decide : 7 + 0 ≤ _), (by decide : 37 + 0 ≤ _)⟩)
            dsimp only [Pt.U, Pt.locs, Pt.cells, Pt.slots] at X332 l332 y332 z332 st332 hQ332
            subst l332 y332 z332
            obtain ⟨rfl, N332q, e332⟩ := hQ332
            have N332 := Fr.app Nc331 N332q
            refine ownGo (T' := T332) (f' := (mkF m 318 #[iv p0, iv p1, iv p2, iv p3, iv p4, iv p5, iv (1114112 : Int32), iv f1, iv l1, iv f2, iv l2, iv f3, iv l3, rv b8, rv b16, iv (1 : Int32), rv b295, iv f1, iv v304, iv f2, iv v305, iv f3, iv v306, iv nk3] [(.int (own_ch f1 l1 f2 l2 f3 l3 v305))])) (st332) ?_
            by_cases hc318_333 : (own_ch f1 l1 f2 l2 f3 l3 v305) = (0 : Int32)
            · refine ow_ifYes (q := 345) X332 hx (hb hby at_318) (Jvm.Free.XT.i0_eq_t hc318_333) (by decide) (by decide) ?_
              exact cut345_323 nk3 _ _ X332 e332 N332 (own_nk0 (k := 3) hn3 (by simp [hc318_333]))
            · refine ow_ifNo (q := 321) X332 hx (hb hby at_318) rfl (Jvm.Free.XT.i0_eq_f hc318_333) ?_
              refine ow_iload (q := 323) X332 hx (hb hby at_321) rfl rfl ?_
              refine ow_iload (q := 325) X332 hx (hb hby at_323) rfl rfl ?_
              by_cases hc325_334 : v305 = f1
              · refine ow_icmpYes (q := 345) X332 hx (hb hby at_325) (Jvm.Free.XT.ii_eq_t hc325_334) (by decide) (by decide) ?_
                exact cut345_323 nk3 _ _ X332 e332 N332 (own_nk0 (k := 3) hn3 (Or.inr (by simp [hc325_334])))
              · refine ow_icmpNo (q := 328) X332 hx (hb hby at_325) rfl (Jvm.Free.XT.ii_eq_f hc325_334) ?_
                refine ow_iload (q := 330) X332 hx (hb hby at_328) rfl rfl ?_
                refine ow_iload (q := 332) X332 hx (hb hby at_330) rfl rfl ?_
                by_cases hc332_335 : v305 = v304
                · refine ow_icmpYes (q := 345) X332 hx (hb hby at_332) (Jvm.Free.XT.ii_eq_t hc332_335) (by decide) (by decide) ?_
                  exact cut345_323 nk3 _ _ X332 e332 N332 (own_nk0 (k := 3) hn3 (Or.inr (by simp [hc332_335])))
                · refine ow_icmpNo (q := 335) X332 hx (hb hby at_332) rfl (Jvm.Free.XT.ii_eq_f hc332_335) ?_
                  refine ow_iload (q := 337) X332 hx (hb hby at_335) rfl rfl ?_
                  refine ow_iload (q := 339) X332 hx (hb hby at_337) rfl rfl ?_
                  by_cases hc339_336 : v305 = f2
                  · refine ow_icmpYes (q := 345) X332 hx (hb hby at_339) (Jvm.Free.XT.ii_eq_t hc339_336) (by decide) (by decide) ?_
                    exact cut345_323 nk3 _ _ X332 e332 N332 (own_nk0 (k := 3) hn3 (Or.inr (by simp [hc339_336])))
                  · refine ow_icmpNo (q := 342) X332 hx (hb hby at_339) rfl (Jvm.Free.XT.ii_eq_f hc339_336) ?_
                    refine ow_iinc (q := 345) X332 hx (L' := #[iv p0, iv p1, iv p2, iv p3, iv p4, iv p5, iv (1114112 : Int32), iv f1, iv l1, iv f2, iv l2, iv f3, iv l3, rv b8, rv b16, iv (1 : Int32), rv b295, iv f1, iv v304, iv f2, iv v305, iv f3, iv v306, iv (nk3 + (1 : Int32))]) (hb hby at_342) rfl rfl rfl ?_
                    generalize hv_v337 : (nk3 + (1 : Int32)) = v337
                    exact cut345_323 v337 _ _ X332 e332 N332 (own_nk1 (k := 3) hn3 hv_v337 (by simp [hc318_333, hc325_334, hc332_335, hc339_336]))
          have cut284_338 : ∀ (nk2 : Int32) (Tc338 : State) (lc338 : List Loc), Stand p l e room_1 s m #[(.int p0), (.int p1), (.int p2), (.int p3), (.int p4), (.int p5)] below meth c Tc338 lc338 7 37 → Tc338.heap = T295.heap → Fr n0 lc338 → (nk2.toInt = (own_s2 f1 l1 f2 l2 f3 l3 f1 v304) ∧ 0 ≤ nk2.toInt ∧ nk2.toInt ≤ ((2 : Nat) : Int)) → ownEnds p e below s (Q_law Z p0 p1 p2 p3 p4 p5 h0 n0) 24 192 Tc338 (mkF m 284 #[iv p0, iv p1, iv p2, iv p3, iv p4, iv p5, iv (1114112 : Int32), iv f1, iv l1, iv f2, iv l2, iv f3, iv l3, rv b8, rv b16, iv (1 : Int32), rv b295, iv f1, iv v304, iv f2, iv v305, iv f3, iv v306, iv nk2] []) := by
            intro nk2 Tc338 lc338 Xc338 ec338 Nc338 hn2
            refine ow_aload (q := 286) Xc338 hx (hb hby at_284) rfl rfl rfl ?_
            refine ow_iload (q := 288) Xc338 hx (hb hby at_286) rfl rfl ?_
            obtain ⟨_, _, ⟨T339, L339, k339, n339⟩, -, X339, ⟨Lc339, hQ339, l339, y339, z339⟩, st339⟩ := Jvm.LawKit.callS Xc338 hx (y := (⟨"com/example/shapewright/shapewright/regex/BuilderAddPinLaw", "ch", "([II)Z"⟩ : MethodName)) hown (mvT hZ (ww 66 rfl)) (mvT hZ (ww 67 rfl)) (mvT hZ (ww 68 rfl)) (mvT hZ (ww 69 rfl)) (by decide) (backOf (W := 0) (rm_ch l Z av0 hw [] b8 f2 (ownUpd (ownUpd (ownUpd (ownUpd (ownUpd (ownUpd (fun _ => (0 : Int32)) 0 f1) 1 l1) 2 f2) 3 l2) 4 f3) 5 l3) T295.heap n0 (Nat.le_trans Z0 K295.1) F296) hZ (ww 69 rfl) (ww 68 rfl) (by decide) (by decide)) (g := (mkF m 288 #[iv p0, iv p1, iv p2, iv p3, iv p4, iv p5, iv (1114112 : Int32), iv f1, iv l1, iv f2, iv l2, iv f3, iv l3, rv b8, rv b16, iv (1 : Int32), rv b295, iv f1, iv v304, iv f2, iv v305, iv f3, iv v306, iv nk2] [(.int f2), (.ref b8)])) rfl (by rw [hml]; rfl) (argsL := [(.ref b8), (.int f2)]) (rest := []) (lenOf own_pd3 rfl) rfl (by show 2 * 0 + _ ≤ _; exact Nat.le_of_eq rfl) (hb hby at_288) (fun _ _ => ⟨rfl, ec338, (by decide : 7 + 0 ≤ _), (by decide : 37 + 0 ≤ _)⟩)
            dsimp only [Pt.U, Pt.locs, Pt.cells, Pt.slots] at X339 l339 y339 z339 st339 hQ339
            subst l339 y339 z339
            obtain ⟨rfl, N339q, e339⟩ := hQ339
            have N339 := Fr.app Nc338 N339q
            refine ownGo (T' := T339) (f' := (mkF m 291 #[iv p0, iv p1, iv p2, iv p3, iv p4, iv p5, iv (1114112 : Int32), iv f1, iv l1, iv f2, iv l2, iv f3, iv l3, rv b8, rv b16, iv (1 : Int32), rv b295, iv f1, iv v304, iv f2, iv v305, iv f3, iv v306, iv nk2] [(.int (own_ch f1 l1 f2 l2 f3 l3 f2))])) (st339) ?_
            by_cases hc291_340 : (own_ch f1 l1 f2 l2 f3 l3 f2) = (0 : Int32)
            · refine ow_ifYes (q := 311) X339 hx (hb hby at_291) (Jvm.Free.XT.i0_eq_t hc291_340) (by decide) (by decide) ?_
              exact cut311_331 nk2 _ _ X339 e339 N339 (own_nk0 (k := 2) hn2 (by simp [hc291_340]))
            · refine ow_ifNo (q := 294) X339 hx (hb hby at_291) rfl (Jvm.Free.XT.i0_eq_f hc291_340) ?_
              refine ow_iload (q := 296) X339 hx (hb hby at_294) rfl rfl ?_
              refine ow_iload (q := 298) X339 hx (hb hby at_296) rfl rfl ?_
              by_cases hc298_341 : f2 = f1
              · refine ow_icmpYes (q := 311) X339 hx (hb hby at_298) (Jvm.Free.XT.ii_eq_t hc298_341) (by decide) (by decide) ?_
                exact cut311_331 nk2 _ _ X339 e339 N339 (own_nk0 (k := 2) hn2 (Or.inr (by simp [hc298_341])))
              · refine ow_icmpNo (q := 301) X339 hx (hb hby at_298) rfl (Jvm.Free.XT.ii_eq_f hc298_341) ?_
                refine ow_iload (q := 303) X339 hx (hb hby at_301) rfl rfl ?_
                refine ow_iload (q := 305) X339 hx (hb hby at_303) rfl rfl ?_
                by_cases hc305_342 : f2 = v304
                · refine ow_icmpYes (q := 311) X339 hx (hb hby at_305) (Jvm.Free.XT.ii_eq_t hc305_342) (by decide) (by decide) ?_
                  exact cut311_331 nk2 _ _ X339 e339 N339 (own_nk0 (k := 2) hn2 (Or.inr (by simp [hc305_342])))
                · refine ow_icmpNo (q := 308) X339 hx (hb hby at_305) rfl (Jvm.Free.XT.ii_eq_f hc305_342) ?_
                  refine ow_iinc (q := 311) X339 hx (L' := #[iv p0, iv p1, iv p2, iv p3, iv p4, iv p5, iv (1114112 : Int32), iv f1, iv l1, iv f2, iv l2, iv f3, iv l3, rv b8, rv b16, iv (1 : Int32), rv b295, iv f1, iv v304, iv f2, iv v305, iv f3, iv v306, iv (nk2 + (1 : Int32))]) (hb hby at_308) rfl rfl rfl ?_
                  generalize hv_v343 : (nk2 + (1 : Int32)) = v343
                  exact cut311_331 v343 _ _ X339 e339 N339 (own_nk1 (k := 2) hn2 hv_v343 (by simp [hc291_340, hc298_341, hc305_342]))
          have cut264_344 : ∀ (nk1 : Int32) (Tc344 : State) (lc344 : List Loc), Stand p l e room_1 s m #[(.int p0), (.int p1), (.int p2), (.int p3), (.int p4), (.int p5)] below meth c Tc344 lc344 7 37 → Tc344.heap = T295.heap → Fr n0 lc344 → (nk1.toInt = (own_s1 f1 l1 f2 l2 f3 l3 f1) ∧ 0 ≤ nk1.toInt ∧ nk1.toInt ≤ ((1 : Nat) : Int)) → ownEnds p e below s (Q_law Z p0 p1 p2 p3 p4 p5 h0 n0) 24 192 Tc344 (mkF m 264 #[iv p0, iv p1, iv p2, iv p3, iv p4, iv p5, iv (1114112 : Int32), iv f1, iv l1, iv f2, iv l2, iv f3, iv l3, rv b8, rv b16, iv (1 : Int32), rv b295, iv f1, iv v304, iv f2, iv v305, iv f3, iv v306, iv nk1] []) := by
            intro nk1 Tc344 lc344 Xc344 ec344 Nc344 hn1
            refine ow_aload (q := 266) Xc344 hx (hb hby at_264) rfl rfl rfl ?_
            refine ow_iload (q := 268) Xc344 hx (hb hby at_266) rfl rfl ?_
            obtain ⟨_, _, ⟨T345, L345, k345, n345⟩, -, X345, ⟨Lc345, hQ345, l345, y345, z345⟩, st345⟩ := Jvm.LawKit.callS Xc344 hx (y := (⟨"com/example/shapewright/shapewright/regex/BuilderAddPinLaw", "ch", "([II)Z"⟩ : MethodName)) hown (mvT hZ (ww 66 rfl)) (mvT hZ (ww 67 rfl)) (mvT hZ (ww 68 rfl)) (mvT hZ (ww 69 rfl)) (by decide) (backOf (W := 0) (rm_ch l Z av0 hw [] b8 v304 (ownUpd (ownUpd (ownUpd (ownUpd (ownUpd (ownUpd (fun _ => (0 : Int32)) 0 f1) 1 l1) 2 f2) 3 l2) 4 f3) 5 l3) T295.heap n0 (Nat.le_trans Z0 K295.1) F296) hZ (ww 69 rfl) (ww 68 rfl) (by decide) (by decide)) (g := (mkF m 268 #[iv p0, iv p1, iv p2, iv p3, iv p4, iv p5, iv (1114112 : Int32), iv f1, iv l1, iv f2, iv l2, iv f3, iv l3, rv b8, rv b16, iv (1 : Int32), rv b295, iv f1, iv v304, iv f2, iv v305, iv f3, iv v306, iv nk1] [(.int v304), (.ref b8)])) rfl (by rw [hml]; rfl) (argsL := [(.ref b8), (.int v304)]) (rest := []) (lenOf own_pd3 rfl) rfl (by show 2 * 0 + _ ≤ _; exact Nat.le_of_eq rfl) (hb hby at_268) (fun _ _ => ⟨rfl, ec344, (by decide : 7 + 0 ≤ _), (by decide : 37 + 0 ≤ _)⟩)
            dsimp only [Pt.U, Pt.locs, Pt.cells, Pt.slots] at X345 l345 y345 z345 st345 hQ345
            subst l345 y345 z345
            obtain ⟨rfl, N345q, e345⟩ := hQ345
            have N345 := Fr.app Nc344 N345q
            refine ownGo (T' := T345) (f' := (mkF m 271 #[iv p0, iv p1, iv p2, iv p3, iv p4, iv p5, iv (1114112 : Int32), iv f1, iv l1, iv f2, iv l2, iv f3, iv l3, rv b8, rv b16, iv (1 : Int32), rv b295, iv f1, iv v304, iv f2, iv v305, iv f3, iv v306, iv nk1] [(.int (own_ch f1 l1 f2 l2 f3 l3 v304))])) (st345) ?_
            by_cases hc271_346 : (own_ch f1 l1 f2 l2 f3 l3 v304) = (0 : Int32)
            · refine ow_ifYes (q := 284) X345 hx (hb hby at_271) (Jvm.Free.XT.i0_eq_t hc271_346) (by decide) (by decide) ?_
              exact cut284_338 nk1 _ _ X345 e345 N345 (own_nk0 (k := 1) hn1 (by simp [hc271_346]))
            · refine ow_ifNo (q := 274) X345 hx (hb hby at_271) rfl (Jvm.Free.XT.i0_eq_f hc271_346) ?_
              refine ow_iload (q := 276) X345 hx (hb hby at_274) rfl rfl ?_
              refine ow_iload (q := 278) X345 hx (hb hby at_276) rfl rfl ?_
              by_cases hc278_347 : v304 = f1
              · refine ow_icmpYes (q := 284) X345 hx (hb hby at_278) (Jvm.Free.XT.ii_eq_t hc278_347) (by decide) (by decide) ?_
                exact cut284_338 nk1 _ _ X345 e345 N345 (own_nk0 (k := 1) hn1 (Or.inr (by simp [hc278_347])))
              · refine ow_icmpNo (q := 281) X345 hx (hb hby at_278) rfl (Jvm.Free.XT.ii_eq_f hc278_347) ?_
                refine ow_iinc (q := 284) X345 hx (L' := #[iv p0, iv p1, iv p2, iv p3, iv p4, iv p5, iv (1114112 : Int32), iv f1, iv l1, iv f2, iv l2, iv f3, iv l3, rv b8, rv b16, iv (1 : Int32), rv b295, iv f1, iv v304, iv f2, iv v305, iv f3, iv v306, iv (nk1 + (1 : Int32))]) (hb hby at_281) rfl rfl rfl ?_
                generalize hv_v348 : (nk1 + (1 : Int32)) = v348
                exact cut284_338 v348 _ _ X345 e345 N345 (own_nk1 (k := 1) hn1 hv_v348 (by simp [hc271_346, hc278_347]))
          refine ow_aload (q := 253) X295 hx (hb hby at_251) rfl rfl rfl ?_
          refine ow_iload (q := 255) X295 hx (hb hby at_253) rfl rfl ?_
          obtain ⟨_, _, ⟨T349, L349, k349, n349⟩, -, X349, ⟨Lc349, hQ349, l349, y349, z349⟩, st349⟩ := Jvm.LawKit.callS X295 hx (y := (⟨"com/example/shapewright/shapewright/regex/BuilderAddPinLaw", "ch", "([II)Z"⟩ : MethodName)) hown (mvT hZ (ww 66 rfl)) (mvT hZ (ww 67 rfl)) (mvT hZ (ww 68 rfl)) (mvT hZ (ww 69 rfl)) (by decide) (backOf (W := 0) (rm_ch l Z av0 hw [] b8 f1 (ownUpd (ownUpd (ownUpd (ownUpd (ownUpd (ownUpd (fun _ => (0 : Int32)) 0 f1) 1 l1) 2 f2) 3 l2) 4 f3) 5 l3) T295.heap n0 (Nat.le_trans Z0 K295.1) F296) hZ (ww 69 rfl) (ww 68 rfl) (by decide) (by decide)) (g := (mkF m 255 #[iv p0, iv p1, iv p2, iv p3, iv p4, iv p5, iv (1114112 : Int32), iv f1, iv l1, iv f2, iv l2, iv f3, iv l3, rv b8, rv b16, iv (1 : Int32), rv b295, iv f1, iv v304, iv f2, iv v305, iv f3, iv v306, iv (0 : Int32)] [(.int f1), (.ref b8)])) rfl (by rw [hml]; rfl) (argsL := [(.ref b8), (.int f1)]) (rest := []) (lenOf own_pd3 rfl) rfl (by show 2 * 0 + _ ≤ _; exact Nat.le_of_eq rfl) (hb hby at_255) (fun _ _ => ⟨rfl, rfl, (by decide : 7 + 0 ≤ _), (by decide : 37 + 0 ≤ _)⟩)
          dsimp only [Pt.U, Pt.locs, Pt.cells, Pt.slots] at X349 l349 y349 z349 st349 hQ349
          subst l349 y349 z349
          obtain ⟨rfl, N349q, e349⟩ := hQ349
          have N349 := Fr.app N295 N349q
          refine ownGo (T' := T349) (f' := (mkF m 258 #[iv p0, iv p1, iv p2, iv p3, iv p4, iv p5, iv (1114112 : Int32), iv f1, iv l1, iv f2, iv l2, iv f3, iv l3, rv b8, rv b16, iv (1 : Int32), rv b295, iv f1, iv v304, iv f2, iv v305, iv f3, iv v306, iv (0 : Int32)] [(.int (own_ch f1 l1 f2 l2 f3 l3 f1))])) (st349) ?_
          by_cases hc258_350 : (own_ch f1 l1 f2 l2 f3 l3 f1) = (0 : Int32)
          · refine ow_ifYes (q := 264) X349 hx (hb hby at_258) (Jvm.Free.XT.i0_eq_t hc258_350) (by decide) (by decide) ?_
            exact cut264_344 (0 : Int32) _ _ X349 e349 N349 (own_nk0 (k := 0) (by decide : (0 : Int32).toInt = (0 : Int) ∧ 0 ≤ (0 : Int32).toInt ∧ (0 : Int32).toInt ≤ ((0 : Nat) : Int)) (by simp [hc258_350]))
          · refine ow_ifNo (q := 261) X349 hx (hb hby at_258) rfl (Jvm.Free.XT.i0_eq_f hc258_350) ?_
            refine ow_iinc (q := 264) X349 hx (L' := #[iv p0, iv p1, iv p2, iv p3, iv p4, iv p5, iv (1114112 : Int32), iv f1, iv l1, iv f2, iv l2, iv f3, iv l3, rv b8, rv b16, iv (1 : Int32), rv b295, iv f1, iv v304, iv f2, iv v305, iv f3, iv v306, iv (1 : Int32)]) (hb hby at_261) rfl rfl rfl ?_
            exact cut264_344 (1 : Int32) _ _ X349 e349 N349 (own_nk1 (k := 0) (by decide : (0 : Int32).toInt = (0 : Int) ∧ 0 ≤ (0 : Int32).toInt ∧ (0 : Int32).toInt ≤ ((0 : Nat) : Int)) (by decide) (by simp [hc258_350]))
        · refine ow_aload (q := 210) X286 hx (hb hby at_208) rfl rfl rfl ?_
          obtain ⟨cq351, kq351, q351a, q351b, q351c⟩ := isOf hZ rfl FP286_0
          obtain ⟨_, _, ⟨T351, L351, k351, n351⟩, -, X351, ⟨Lc351, hQ351, l351, y351, z351⟩, st351⟩ := X286.virtualBack hx (y := (⟨"com/example/shapewright/shapewright/regex/CodePointSet$Builder", "build", "()Lcom/example/shapewright/shapewright/regex/CodePointSet;"⟩ : MethodName)) (z := (⟨"com/example/shapewright/shapewright/regex/CodePointSet$Builder", "build", "()Lcom/example/shapewright/shapewright/regex/CodePointSet;"⟩ : MethodName)) hown (mvT hZ (ww 25 rfl)) (mvT hZ (ww 26 rfl)) (notFace_of_selects (args := #[]) (mvT hZ (ww 28 rfl))) (mvT hZ (ww 28 rfl)) (mvT hZ (ww 27 rfl)) (by decide) (backOf (W := 0) (rm_build_4 l Z av0 hw [] b16 ar_20 (ownUpd (ownUpd (ownUpd (ownUpd (ownUpd (fun _ => (0 : Int32)) 0 f1) 1 l1) 1 (own_max l1 l2)) 2 f3) 3 l3) T286.heap n0 (Nat.le_trans Z0 K286.1) FP286_1 FP286_2 FP286_3) hZ (ww 29 rfl) (ww 5 rfl) (by decide) (by decide)) q351a q351c (g := (mkF m 210 #[iv p0, iv p1, iv p2, iv p3, iv p4, iv p5, iv (1114112 : Int32), iv f1, iv l1, iv f2, iv l2, iv f3, iv l3, rv b8, rv b16, iv (1 : Int32), .unset, .unset, .unset, .unset, .unset, .unset, .unset, .unset] [(.ref b16)])) rfl (by rw [hml]; rfl) (Steps.refl _) (argsL := []) (rest := []) (lenOf own_pd6 rfl) rfl (by show 2 * 0 + _ ≤ _; exact Nat.le_of_eq rfl) (hb hby at_210) (fun _ _ => ⟨rfl, rfl, (by decide : 3 + 2 ≤ _), (by decide : 24 + 5 ≤ _)⟩)
          dsimp only [Pt.U, Pt.locs, Pt.cells, Pt.slots] at X351 l351 y351 z351 st351 hQ351
          subst l351 y351 z351
          obtain ⟨b351, ar2_351, rfl, N351q, Kq351, sq351_b351, sq351_ar2_351, FP351_0, FP351_1, FP351_2, hp351⟩ := hQ351
          have N351 := Fr.app N286 N351q
          have K351 : Keep h0 T351.heap [] := K286.trans Kq351 all0
          have ne_b8_b351 : b8 ≠ b351 := Nat.ne_of_lt (Nat.lt_of_lt_of_le F287.lt sq351_b351)
          have ne_b16_b351 : b16 ≠ b351 := Nat.ne_of_lt (Nat.lt_of_lt_of_le FP286_0.lt sq351_b351)
          have ne_ar_20_b351 : ar_20 ≠ b351 := Nat.ne_of_lt (Nat.lt_of_lt_of_le FP286_3.lt sq351_b351)
          have sz_b351 : h0.size ≤ b351 := Nat.le_trans K286.1 sq351_b351
          have G_b351 : n0 ≤ b351 := Nat.le_trans Z0 sz_b351
          have ne_b8_ar2_351 : b8 ≠ ar2_351 := Nat.ne_of_lt (Nat.lt_of_lt_of_le F287.lt sq351_ar2_351)
          have ne_b16_ar2_351 : b16 ≠ ar2_351 := Nat.ne_of_lt (Nat.lt_of_lt_of_le FP286_0.lt sq351_ar2_351)
          have ne_ar_20_ar2_351 : ar_20 ≠ ar2_351 := Nat.ne_of_lt (Nat.lt_of_lt_of_le FP286_3.lt sq351_ar2_351)
          have sz_ar2_351 : h0.size ≤ ar2_351 := Nat.le_trans K286.1 sq351_ar2_351
          have G_ar2_351 : n0 ≤ ar2_351 := Nat.le_trans Z0 sz_ar2_351
          have F352 : ownAI Z T351.heap b8 .int 6 (ownUpd (ownUpd (ownUpd (ownUpd (ownUpd (ownUpd (fun _ => (0 : Int32)) 0 f1) 1 l1) 2 f2) 3 l2) 4 f3) 5 l3) := F287.keep Kq351 nin0
          have F353 : Exa Z T351.heap b16 "com/example/shapewright/shapewright/regex/CodePointSet$Builder" := FP286_0.keep Kq351
          have F354 : Fld Z T351.heap b16 "com/example/shapewright/shapewright/regex/CodePointSet$Builder" "ranges" "[I" (.ref ar_20) := FP286_1.keep Kq351 nin0
          have F355 : Fld Z T351.heap b16 "com/example/shapewright/shapewright/regex/CodePointSet$Builder" "length" "I" (.int (4 : Int32)) := FP286_2.keep Kq351 nin0
          have F356 : ownAI Z T351.heap ar_20 .int 16 (ownUpd (ownUpd (ownUpd (ownUpd (ownUpd (fun _ => (0 : Int32)) 0 f1) 1 l1) 1 (own_max l1 l2)) 2 f3) 3 l3) := FP286_3.keep Kq351 nin0
          refine ownRun (T' := T351) (f' := (mkF m 213 #[iv p0, iv p1, iv p2, iv p3, iv p4, iv p5, iv (1114112 : Int32), iv f1, iv l1, iv f2, iv l2, iv f3, iv l3, rv b8, rv b16, iv (1 : Int32), .unset, .unset, .unset, .unset, .unset, .unset, .unset, .unset] [(.ref b351)])) st351 ?_
          obtain ⟨cq357, kq357, q357a, q357b, q357c⟩ := isOf hZ rfl FP351_0
          obtain ⟨_, _, ⟨T357, L357, k357, n357⟩, -, X357, ⟨Lc357, hQ357, l357, y357, z357⟩, st357⟩ := X351.virtualBack hx (y := (⟨"com/example/shapewright/shapewright/regex/CodePointSet", "edges", "()[I"⟩ : MethodName)) (z := (⟨"com/example/shapewright/shapewright/regex/CodePointSet", "edges", "()[I"⟩ : MethodName)) hown (mvT hZ (ww 50 rfl)) (mvT hZ (ww 51 rfl)) (notFace_of_selects (args := #[]) (mvT hZ (ww 53 rfl))) (mvT hZ (ww 53 rfl)) (mvT hZ (ww 52 rfl)) (by decide) (backOf (W := 0) (rm_edges_4_e l Z av0 hw [] b351 ar2_351 (ownUpd (ownUpd (ownUpd (ownUpd (ownUpd (fun _ => (0 : Int32)) 0 f1) 1 l1) 1 (own_max l1 l2)) 2 f3) 3 l3) T351.heap n0 (Nat.le_trans Z0 K351.1) FP351_1 FP351_2 (own_lt_ma_0 hr hm2 hm3) hmx) hZ (ww 54 rfl) (ww 32 rfl) (by decide) (by decide)) q357a q357c (g := (mkF m 213 #[iv p0, iv p1, iv p2, iv p3, iv p4, iv p5, iv (1114112 : Int32), iv f1, iv l1, iv f2, iv l2, iv f3, iv l3, rv b8, rv b16, iv (1 : Int32), .unset, .unset, .unset, .unset, .unset, .unset, .unset, .unset] [(.ref b351)])) rfl (by rw [hml]; rfl) (Steps.refl _) (argsL := []) (rest := []) (lenOf own_pd7 rfl) rfl (by show 2 * 0 + _ ≤ _; exact Nat.le_of_eq rfl) (hb hby at_213) (fun _ _ => ⟨rfl, rfl, (by decide : 5 + 2 ≤ _), (by decide : 29 + 7 ≤ _)⟩)
          dsimp only [Pt.U, Pt.locs, Pt.cells, Pt.slots] at X357 l357 y357 z357 st357 hQ357
          subst l357 y357 z357
          obtain ⟨b357, rfl, N357q, Kq357, sq357_b357, FP357_0⟩ := hQ357
          have N357 := Fr.app N351 N357q
          have K357 : Keep h0 T357.heap [] := K351.trans Kq357 all0
          have ne_b8_b357 : b8 ≠ b357 := Nat.ne_of_lt (Nat.lt_of_lt_of_le F352.lt sq357_b357)
          have ne_b16_b357 : b16 ≠ b357 := Nat.ne_of_lt (Nat.lt_of_lt_of_le F353.lt sq357_b357)
          have ne_ar_20_b357 : ar_20 ≠ b357 := Nat.ne_of_lt (Nat.lt_of_lt_of_le F356.lt sq357_b357)
          have ne_b351_b357 : b351 ≠ b357 := Nat.ne_of_lt (Nat.lt_of_lt_of_le FP351_0.lt sq357_b357)
          have ne_ar2_351_b357 : ar2_351 ≠ b357 := Nat.ne_of_lt (Nat.lt_of_lt_of_le FP351_2.lt sq357_b357)
          have sz_b357 : h0.size ≤ b357 := Nat.le_trans K351.1 sq357_b357
          have G_b357 : n0 ≤ b357 := Nat.le_trans Z0 sz_b357
          have F358 : ownAI Z T357.heap b8 .int 6 (ownUpd (ownUpd (ownUpd (ownUpd (ownUpd (ownUpd (fun _ => (0 : Int32)) 0 f1) 1 l1) 2 f2) 3 l2) 4 f3) 5 l3) := F352.keep Kq357 nin0
          have F359 : Exa Z T357.heap b16 "com/example/shapewright/shapewright/regex/CodePointSet$Builder" := F353.keep Kq357
          have F360 : Fld Z T357.heap b16 "com/example/shapewright/shapewright/regex/CodePointSet$Builder" "ranges" "[I" (.ref ar_20) := F354.keep Kq357 nin0
          have F361 : Fld Z T357.heap b16 "com/example/shapewright/shapewright/regex/CodePointSet$Builder" "length" "I" (.int (4 : Int32)) := F355.keep Kq357 nin0
          have F362 : ownAI Z T357.heap ar_20 .int 16 (ownUpd (ownUpd (ownUpd (ownUpd (ownUpd (fun _ => (0 : Int32)) 0 f1) 1 l1) 1 (own_max l1 l2)) 2 f3) 3 l3) := F356.keep Kq357 nin0
          have F363 : Exa Z T357.heap b351 "com/example/shapewright/shapewright/regex/CodePointSet" := FP351_0.keep Kq357
          have F364 : Fld Z T357.heap b351 "com/example/shapewright/shapewright/regex/CodePointSet" "ranges" "[I" (.ref ar2_351) := FP351_1.keep Kq357 nin0
          have F365 : ownAI Z T357.heap ar2_351 .int 4 (ownUpd (ownUpd (ownUpd (ownUpd (ownUpd (fun _ => (0 : Int32)) 0 f1) 1 l1) 1 (own_max l1 l2)) 2 f3) 3 l3) := FP351_2.keep Kq357 nin0
          refine ownRun (T' := T357) (f' := (mkF m 216 #[iv p0, iv p1, iv p2, iv p3, iv p4, iv p5, iv (1114112 : Int32), iv f1, iv l1, iv f2, iv l2, iv f3, iv l3, rv b8, rv b16, iv (1 : Int32), .unset, .unset, .unset, .unset, .unset, .unset, .unset, .unset] [(.ref b357)])) st357 ?_
          refine ow_astore (q := 218) X357 hx (L' := #[iv p0, iv p1, iv p2, iv p3, iv p4, iv p5, iv (1114112 : Int32), iv f1, iv l1, iv f2, iv l2, iv f3, iv l3, rv b8, rv b16, iv (1 : Int32), rv b357, .unset, .unset, .unset, .unset, .unset, .unset, .unset]) (hb hby at_216) rfl rfl rfl ?_
          refine ow_iload (q := 220) X357 hx (hb hby at_218) rfl rfl ?_
          refine ow_istore (q := 222) X357 hx (L' := #[iv p0, iv p1, iv p2, iv p3, iv p4, iv p5, iv (1114112 : Int32), iv f1, iv l1, iv f2, iv l2, iv f3, iv l3, rv b8, rv b16, iv (1 : Int32), rv b357, iv f1, .unset, .unset, .unset, .unset, .unset, .unset]) (hb hby at_220) rfl rfl ?_
          refine ow_iload (q := 224) X357 hx (hb hby at_222) rfl rfl ?_
          refine ow_iconst (q := 225) X357 hx (1 : Int32) (hb hby at_224) rfl rfl ?_
          refine ow_iadd (q := 226) X357 hx _ (hb hby at_225) rfl rfl ?_
          generalize hv_v366 : (l1 + (1 : Int32)) = v366
          refine ow_istore (q := 228) X357 hx (L' := #[iv p0, iv p1, iv p2, iv p3, iv p4, iv p5, iv (1114112 : Int32), iv f1, iv l1, iv f2, iv l2, iv f3, iv l3, rv b8, rv b16, iv (1 : Int32), rv b357, iv f1, iv v366, .unset, .unset, .unset, .unset, .unset]) (hb hby at_226) rfl rfl ?_
          refine ow_iload (q := 230) X357 hx (hb hby at_228) rfl rfl ?_
          refine ow_istore (q := 232) X357 hx (L' := #[iv p0, iv p1, iv p2, iv p3, iv p4, iv p5, iv (1114112 : Int32), iv f1, iv l1, iv f2, iv l2, iv f3, iv l3, rv b8, rv b16, iv (1 : Int32), rv b357, iv f1, iv v366, iv f2, .unset, .unset, .unset, .unset]) (hb hby at_230) rfl rfl ?_
          refine ow_iload (q := 234) X357 hx (hb hby at_232) rfl rfl ?_
          refine ow_iconst (q := 235) X357 hx (1 : Int32) (hb hby at_234) rfl rfl ?_
          refine ow_iadd (q := 236) X357 hx _ (hb hby at_235) rfl rfl ?_
          generalize hv_v367 : (l2 + (1 : Int32)) = v367
          refine ow_istore (q := 238) X357 hx (L' := #[iv p0, iv p1, iv p2, iv p3, iv p4, iv p5, iv (1114112 : Int32), iv f1, iv l1, iv f2, iv l2, iv f3, iv l3, rv b8, rv b16, iv (1 : Int32), rv b357, iv f1, iv v366, iv f2, iv v367, .unset, .unset, .unset]) (hb hby at_236) rfl rfl ?_
          refine ow_iload (q := 240) X357 hx (hb hby at_238) rfl rfl ?_
          refine ow_istore (q := 242) X357 hx (L' := #[iv p0, iv p1, iv p2, iv p3, iv p4, iv p5, iv (1114112 : Int32), iv f1, iv l1, iv f2, iv l2, iv f3, iv l3, rv b8, rv b16, iv (1 : Int32), rv b357, iv f1, iv v366, iv f2, iv v367, iv f3, .unset, .unset]) (hb hby at_240) rfl rfl ?_
          refine ow_iload (q := 244) X357 hx (hb hby at_242) rfl rfl ?_
          refine ow_iconst (q := 245) X357 hx (1 : Int32) (hb hby at_244) rfl rfl ?_
          refine ow_iadd (q := 246) X357 hx _ (hb hby at_245) rfl rfl ?_
          generalize hv_v368 : (l3 + (1 : Int32)) = v368
          refine ow_istore (q := 248) X357 hx (L' := #[iv p0, iv p1, iv p2, iv p3, iv p4, iv p5, iv (1114112 : Int32), iv f1, iv l1, iv f2, iv l2, iv f3, iv l3, rv b8, rv b16, iv (1 : Int32), rv b357, iv f1, iv v366, iv f2, iv v367, iv f3, iv v368, .unset]) (hb hby at_246) rfl rfl ?_
          refine ow_iconst (q := 249) X357 hx (0 : Int32) (hb hby at_248) rfl rfl ?_
          refine ow_istore (q := 251) X357 hx (L' := #[iv p0, iv p1, iv p2, iv p3, iv p4, iv p5, iv (1114112 : Int32), iv f1, iv l1, iv f2, iv l2, iv f3, iv l3, rv b8, rv b16, iv (1 : Int32), rv b357, iv f1, iv v366, iv f2, iv v367, iv f3, iv v368, iv (0 : Int32)]) (hb hby at_249) rfl rfl ?_
          have cut434_369 : ∀ (nk6 : Int32) (Tc369 : State) (lc369 : List Loc), Stand p l e room_1 s m #[(.int p0), (.int p1), (.int p2), (.int p3), (.int p4), (.int p5)] below meth c Tc369 lc369 7 36 → Tc369.heap = T357.heap → Fr n0 lc369 → (nk6.toInt = (own_s6 f1 l1 f2 l2 f3 l3 f1 v366 f2 v367 f3 v368) ∧ 0 ≤ nk6.toInt ∧ nk6.toInt ≤ ((6 : Nat) : Int)) → ownEnds p e below s (Q_law Z p0 p1 p2 p3 p4 p5 h0 n0) 24 192 Tc369 (mkF m 434 #[iv p0, iv p1, iv p2, iv p3, iv p4, iv p5, iv (1114112 : Int32), iv f1, iv l1, iv f2, iv l2, iv f3, iv l3, rv b8, rv b16, iv (1 : Int32), rv b357, iv f1, iv v366, iv f2, iv v367, iv f3, iv v368, iv nk6] []) := by
            intro nk6 Tc369 lc369 Xc369 ec369 Nc369 hn6
            refine ow_iload (q := 436) Xc369 hx (hb hby at_434) rfl rfl ?_
            refine ow_ifNo (q := 439) Xc369 hx (hb hby at_436) rfl (Jvm.Free.XT.i0_eq_f (by decide)) ?_
            refine ow_aload (q := 441) Xc369 hx (hb hby at_439) rfl rfl rfl ?_
            refine ownGo (T' := Tc369) (f' := (mkF m 442 #[iv p0, iv p1, iv p2, iv p3, iv p4, iv p5, iv (1114112 : Int32), iv f1, iv l1, iv f2, iv l2, iv f3, iv l3, rv b8, rv b16, iv (1 : Int32), rv b357, iv f1, iv v366, iv f2, iv v367, iv f3, iv v368, iv nk6] [(.int (3 : Int32))])) (ownLenI FP357_0 Xc369 hx hZ ec369 (z := (3 : Int32)) (by decide) (g := (mkF m 441 #[iv p0, iv p1, iv p2, iv p3, iv p4, iv p5, iv (1114112 : Int32), iv f1, iv l1, iv f2, iv l2, iv f3, iv l3, rv b8, rv b16, iv (1 : Int32), rv b357, iv f1, iv v366, iv f2, iv v367, iv f3, iv v368, iv nk6] [(.ref b357)])) rfl rfl (hb hby at_441)) ?_
            refine ow_iload (q := 444) Xc369 hx (hb hby at_442) rfl rfl ?_
            refine ow_icmpNo (q := 447) Xc369 hx (hb hby at_444) rfl (Jvm.Free.XT.ii_ne_f (own_len hn6 (own_total_mae hr hm2 hm3 hmx hv_v366 hv_v367 hv_v368))) ?_
            refine ow_aload (q := 449) Xc369 hx (hb hby at_447) rfl rfl rfl ?_
            refine ow_iconst (q := 450) Xc369 hx (0 : Int32) (hb hby at_449) rfl rfl ?_
            refine ow_aload (q := 452) Xc369 hx (hb hby at_450) rfl rfl rfl ?_
            obtain ⟨_, _, ⟨T370, L370, k370, n370⟩, -, X370, ⟨Lc370, hQ370, l370, y370, z370⟩, st370⟩ := Jvm.LawKit.callS Xc369 hx (y := (⟨"com/example/shapewright/shapewright/regex/BuilderAddPinLaw", "okAt", "([II[I)Z"⟩ : MethodName)) hown (mvT hZ (ww 74 rfl)) (mvT hZ (ww 75 rfl)) (mvT hZ (ww 68 rfl)) (mvT hZ (ww 76 rfl)) (by decide) (backOf (W := 0) (rm_okC l Z av0 hw [] b357 (0 : Int32) b8 3 (3 : Int32) (ownUpd (ownUpd (ownUpd (fun _ => (0 : Int32)) 0 f1) 1 ((own_max l1 l2) + (1 : Int32))) 2 f3) (ownUpd (ownUpd (ownUpd (ownUpd (ownUpd (ownUpd (fun _ => (0 : Int32)) 0 f1) 1 l1) 2 f2) 3 l2) 4 f3) 5 l3) T357.heap n0 (Nat.le_trans Z0 K357.1) FP357_0 F358 (by decide) (by decide) (by unfold ownIn; decide) (by decide) (by unfold ownIn; decide)) hZ (ww 76 rfl) (ww 68 rfl) (by decide) (by decide)) (g := (mkF m 452 #[iv p0, iv p1, iv p2, iv p3, iv p4, iv p5, iv (1114112 : Int32), iv f1, iv l1, iv f2, iv l2, iv f3, iv l3, rv b8, rv b16, iv (1 : Int32), rv b357, iv f1, iv v366, iv f2, iv v367, iv f3, iv v368, iv nk6] [(.ref b8), (.int (0 : Int32)), (.ref b357)])) rfl (by rw [hml]; rfl) (argsL := [(.ref b357), (.int (0 : Int32)), (.ref b8)]) (rest := []) (lenOf own_pd8 rfl) rfl (by show 2 * 0 + _ ≤ _; exact Nat.le_of_eq rfl) (hb hby at_452) (fun _ _ => ⟨rfl, ec369, (by decide : 7 + 0 ≤ _), (by decide : 36 + 0 ≤ _)⟩)
            dsimp only [Pt.U, Pt.locs, Pt.cells, Pt.slots] at X370 l370 y370 z370 st370 hQ370
            subst l370 y370 z370
            obtain ⟨rfl, N370q, e370⟩ := hQ370
            have N370 := Fr.app Nc369 N370q
            refine ownGo (T' := T370) (f' := (mkF m 455 #[iv p0, iv p1, iv p2, iv p3, iv p4, iv p5, iv (1114112 : Int32), iv f1, iv l1, iv f2, iv l2, iv f3, iv l3, rv b8, rv b16, iv (1 : Int32), rv b357, iv f1, iv v366, iv f2, iv v367, iv f3, iv v368, iv nk6] [(.int (if (own_ch f1 l1 f2 l2 f3 l3 f1) = (0 : Int32) then (0 : Int32) else if f1 < ((own_max l1 l2) + (1 : Int32)) then (1 : Int32) else (0 : Int32)))])) (st370) ?_
            refine ow_ifNo (q := 458) X370 hx (hb hby at_455) rfl (Jvm.Free.XT.i0_eq_f (own_ok_mae_0 hr hm2 hm3 hmx)) ?_
            refine ow_aload (q := 460) X370 hx (hb hby at_458) rfl rfl rfl ?_
            refine ow_iconst (q := 461) X370 hx (1 : Int32) (hb hby at_460) rfl rfl ?_
            refine ow_aload (q := 463) X370 hx (hb hby at_461) rfl rfl rfl ?_
            obtain ⟨_, _, ⟨T371, L371, k371, n371⟩, -, X371, ⟨Lc371, hQ371, l371, y371, z371⟩, st371⟩ := Jvm.LawKit.callS X370 hx (y := (⟨"com/example/shapewright/shapewright/regex/BuilderAddPinLaw", "okAt", "([II[I)Z"⟩ : MethodName)) hown (mvT hZ (ww 74 rfl)) (mvT hZ (ww 75 rfl)) (mvT hZ (ww 68 rfl)) (mvT hZ (ww 76 rfl)) (by decide) (backOf (W := 0) (rm_okC l Z av0 hw [] b357 (1 : Int32) b8 3 (3 : Int32) (ownUpd (ownUpd (ownUpd (fun _ => (0 : Int32)) 0 f1) 1 ((own_max l1 l2) + (1 : Int32))) 2 f3) (ownUpd (ownUpd (ownUpd (ownUpd (ownUpd (ownUpd (fun _ => (0 : Int32)) 0 f1) 1 l1) 2 f2) 3 l2) 4 f3) 5 l3) T357.heap n0 (Nat.le_trans Z0 K357.1) FP357_0 F358 (by decide) (by decide) (by unfold ownIn; decide) (by decide) (by unfold ownIn; decide)) hZ (ww 76 rfl) (ww 68 rfl) (by decide) (by decide)) (g := (mkF m 463 #[iv p0, iv p1, iv p2, iv p3, iv p4, iv p5, iv (1114112 : Int32), iv f1, iv l1, iv f2, iv l2, iv f3, iv l3, rv b8, rv b16, iv (1 : Int32), rv b357, iv f1, iv v366, iv f2, iv v367, iv f3, iv v368, iv nk6] [(.ref b8), (.int (1 : Int32)), (.ref b357)])) rfl (by rw [hml]; rfl) (argsL := [(.ref b357), (.int (1 : Int32)), (.ref b8)]) (rest := []) (lenOf own_pd8 rfl) rfl (by show 2 * 0 + _ ≤ _; exact Nat.le_of_eq rfl) (hb hby at_463) (fun _ _ => ⟨rfl, e370, (by decide : 7 + 0 ≤ _), (by decide : 36 + 0 ≤ _)⟩)
            dsimp only [Pt.U, Pt.locs, Pt.cells, Pt.slots] at X371 l371 y371 z371 st371 hQ371
            subst l371 y371 z371
            obtain ⟨rfl, N371q, e371⟩ := hQ371
            have N371 := Fr.app N370 N371q
            refine ownGo (T' := T371) (f' := (mkF m 466 #[iv p0, iv p1, iv p2, iv p3, iv p4, iv p5, iv (1114112 : Int32), iv f1, iv l1, iv f2, iv l2, iv f3, iv l3, rv b8, rv b16, iv (1 : Int32), rv b357, iv f1, iv v366, iv f2, iv v367, iv f3, iv v368, iv nk6] [(.int (if (own_ch f1 l1 f2 l2 f3 l3 ((own_max l1 l2) + (1 : Int32))) = (0 : Int32) then (0 : Int32) else if ((own_max l1 l2) + (1 : Int32)) < f3 then (1 : Int32) else (0 : Int32)))])) (st371) ?_
            refine ow_ifNo (q := 469) X371 hx (hb hby at_466) rfl (Jvm.Free.XT.i0_eq_f (own_ok_mae_1 hr hm2 hm3 hmx)) ?_
            refine ow_aload (q := 471) X371 hx (hb hby at_469) rfl rfl rfl ?_
            refine ow_iconst (q := 472) X371 hx (2 : Int32) (hb hby at_471) rfl rfl ?_
            refine ow_aload (q := 474) X371 hx (hb hby at_472) rfl rfl rfl ?_
            obtain ⟨_, _, ⟨T372, L372, k372, n372⟩, -, X372, ⟨Lc372, hQ372, l372, y372, z372⟩, st372⟩ := Jvm.LawKit.callS X371 hx (y := (⟨"com/example/shapewright/shapewright/regex/BuilderAddPinLaw", "okAt", "([II[I)Z"⟩ : MethodName)) hown (mvT hZ (ww 74 rfl)) (mvT hZ (ww 75 rfl)) (mvT hZ (ww 68 rfl)) (mvT hZ (ww 76 rfl)) (by decide) (backOf (W := 0) (rm_okB l Z av0 hw [] b357 (2 : Int32) b8 3 (3 : Int32) (ownUpd (ownUpd (ownUpd (fun _ => (0 : Int32)) 0 f1) 1 ((own_max l1 l2) + (1 : Int32))) 2 f3) (ownUpd (ownUpd (ownUpd (ownUpd (ownUpd (ownUpd (fun _ => (0 : Int32)) 0 f1) 1 l1) 2 f2) 3 l2) 4 f3) 5 l3) T357.heap n0 (Nat.le_trans Z0 K357.1) FP357_0 F358 (by decide) (by decide) (by unfold ownIn; decide) (by decide)) hZ (ww 76 rfl) (ww 68 rfl) (by decide) (by decide)) (g := (mkF m 474 #[iv p0, iv p1, iv p2, iv p3, iv p4, iv p5, iv (1114112 : Int32), iv f1, iv l1, iv f2, iv l2, iv f3, iv l3, rv b8, rv b16, iv (1 : Int32), rv b357, iv f1, iv v366, iv f2, iv v367, iv f3, iv v368, iv nk6] [(.ref b8), (.int (2 : Int32)), (.ref b357)])) rfl (by rw [hml]; rfl) (argsL := [(.ref b357), (.int (2 : Int32)), (.ref b8)]) (rest := []) (lenOf own_pd8 rfl) rfl (by show 2 * 0 + _ ≤ _; exact Nat.le_of_eq rfl) (hb hby at_474) (fun _ _ => ⟨rfl, e371, (by decide : 7 + 0 ≤ _), (by decide : 36 + 0 ≤ _)⟩)
            dsimp only [Pt.U, Pt.locs, Pt.cells, Pt.slots] at X372 l372 y372 z372 st372 hQ372
            subst l372 y372 z372
            obtain ⟨rfl, N372q, e372⟩ := hQ372
            have N372 := Fr.app N371 N372q
            refine ownGo (T' := T372) (f' := (mkF m 477 #[iv p0, iv p1, iv p2, iv p3, iv p4, iv p5, iv (1114112 : Int32), iv f1, iv l1, iv f2, iv l2, iv f3, iv l3, rv b8, rv b16, iv (1 : Int32), rv b357, iv f1, iv v366, iv f2, iv v367, iv f3, iv v368, iv nk6] [(.int (if (own_ch f1 l1 f2 l2 f3 l3 f3) = (0 : Int32) then (0 : Int32) else (1 : Int32)))])) (st372) ?_
            refine ow_ifNo (q := 480) X372 hx (hb hby at_477) rfl (Jvm.Free.XT.i0_eq_f (own_ok_mae_2 hr hm2 hm3 hmx)) ?_
            refine ow_aload (q := 482) X372 hx (hb hby at_480) rfl rfl rfl ?_
            refine ow_iconst (q := 483) X372 hx (3 : Int32) (hb hby at_482) rfl rfl ?_
            refine ow_aload (q := 485) X372 hx (hb hby at_483) rfl rfl rfl ?_
            obtain ⟨_, _, ⟨T373, L373, k373, n373⟩, -, X373, ⟨Lc373, hQ373, l373, y373, z373⟩, st373⟩ := Jvm.LawKit.callS X372 hx (y := (⟨"com/example/shapewright/shapewright/regex/BuilderAddPinLaw", "okAt", "([II[I)Z"⟩ : MethodName)) hown (mvT hZ (ww 74 rfl)) (mvT hZ (ww 75 rfl)) (mvT hZ (ww 68 rfl)) (mvT hZ (ww 76 rfl)) (by decide) (backOf (W := 0) (rm_okA l Z av0 hw [] b357 (3 : Int32) b8 3 (3 : Int32) (ownUpd (ownUpd (ownUpd (fun _ => (0 : Int32)) 0 f1) 1 ((own_max l1 l2) + (1 : Int32))) 2 f3) (ownUpd (ownUpd (ownUpd (ownUpd (ownUpd (ownUpd (fun _ => (0 : Int32)) 0 f1) 1 l1) 2 f2) 3 l2) 4 f3) 5 l3) T357.heap n0 (Nat.le_trans Z0 K357.1) FP357_0 F358 (by decide) (by decide)) hZ (ww 76 rfl) (ww 68 rfl) (by decide) (by decide)) (g := (mkF m 485 #[iv p0, iv p1, iv p2, iv p3, iv p4, iv p5, iv (1114112 : Int32), iv f1, iv l1, iv f2, iv l2, iv f3, iv l3, rv b8, rv b16, iv (1 : Int32), rv b357, iv f1, iv v366, iv f2, iv v367, iv f3, iv v368, iv nk6] [(.ref b8), (.int (3 : Int32)), (.ref b357)])) rfl (by rw [hml]; rfl) (argsL := [(.ref b357), (.int (3 : Int32)), (.ref b8)]) (rest := []) (lenOf own_pd8 rfl) rfl (by show 2 * 0 + _ ≤ _; exact Nat.le_of_eq rfl) (hb hby at_485) (fun _ _ => ⟨rfl, e372, (by decide : 7 + 0 ≤ _), (by decide : 36 + 0 ≤ _)⟩)
            dsimp only [Pt.U, Pt.locs, Pt.cells, Pt.slots] at X373 l373 y373 z373 st373 hQ373
            subst l373 y373 z373
            obtain ⟨rfl, N373q, e373⟩ := hQ373
            have N373 := Fr.app N372 N373q
            refine ownGo (T' := T373) (f' := (mkF m 488 #[iv p0, iv p1, iv p2, iv p3, iv p4, iv p5, iv (1114112 : Int32), iv f1, iv l1, iv f2, iv l2, iv f3, iv l3, rv b8, rv b16, iv (1 : Int32), rv b357, iv f1, iv v366, iv f2, iv v367, iv f3, iv v368, iv nk6] [(.int (1 : Int32))])) (st373) ?_
            refine ow_ifNo (q := 491) X373 hx (hb hby at_488) rfl (Jvm.Free.XT.i0_eq_f (by decide)) ?_
            refine ow_aload (q := 493) X373 hx (hb hby at_491) rfl rfl rfl ?_
            refine ow_iconst (q := 494) X373 hx (4 : Int32) (hb hby at_493) rfl rfl ?_
            refine ow_aload (q := 496) X373 hx (hb hby at_494) rfl rfl rfl ?_
            obtain ⟨_, _, ⟨T374, L374, k374, n374⟩, -, X374, ⟨Lc374, hQ374, l374, y374, z374⟩, st374⟩ := Jvm.LawKit.callS X373 hx (y := (⟨"com/example/shapewright/shapewright/regex/BuilderAddPinLaw", "okAt", "([II[I)Z"⟩ : MethodName)) hown (mvT hZ (ww 74 rfl)) (mvT hZ (ww 75 rfl)) (mvT hZ (ww 68 rfl)) (mvT hZ (ww 76 rfl)) (by decide) (backOf (W := 0) (rm_okA l Z av0 hw [] b357 (4 : Int32) b8 3 (3 : Int32) (ownUpd (ownUpd (ownUpd (fun _ => (0 : Int32)) 0 f1) 1 ((own_max l1 l2) + (1 : Int32))) 2 f3) (ownUpd (ownUpd (ownUpd (ownUpd (ownUpd (ownUpd (fun _ => (0 : Int32)) 0 f1) 1 l1) 2 f2) 3 l2) 4 f3) 5 l3) T357.heap n0 (Nat.le_trans Z0 K357.1) FP357_0 F358 (by decide) (by decide)) hZ (ww 76 rfl) (ww 68 rfl) (by decide) (by decide)) (g := (mkF m 496 #[iv p0, iv p1, iv p2, iv p3, iv p4, iv p5, iv (1114112 : Int32), iv f1, iv l1, iv f2, iv l2, iv f3, iv l3, rv b8, rv b16, iv (1 : Int32), rv b357, iv f1, iv v366, iv f2, iv v367, iv f3, iv v368, iv nk6] [(.ref b8), (.int (4 : Int32)), (.ref b357)])) rfl (by rw [hml]; rfl) (argsL := [(.ref b357), (.int (4 : Int32)), (.ref b8)]) (rest := []) (lenOf own_pd8 rfl) rfl (by show 2 * 0 + _ ≤ _; exact Nat.le_of_eq rfl) (hb hby at_496) (fun _ _ => ⟨rfl, e373, (by decide : 7 + 0 ≤ _), (by decide : 36 + 0 ≤ _)⟩)
            dsimp only [Pt.U, Pt.locs, Pt.cells, Pt.slots] at X374 l374 y374 z374 st374 hQ374
            subst l374 y374 z374
            obtain ⟨rfl, N374q, e374⟩ := hQ374
            have N374 := Fr.app N373 N374q
            refine ownGo (T' := T374) (f' := (mkF m 499 #[iv p0, iv p1, iv p2, iv p3, iv p4, iv p5, iv (1114112 : Int32), iv f1, iv l1, iv f2, iv l2, iv f3, iv l3, rv b8, rv b16, iv (1 : Int32), rv b357, iv f1, iv v366, iv f2, iv v367, iv f3, iv v368, iv nk6] [(.int (1 : Int32))])) (st374) ?_
            refine ow_ifNo (q := 502) X374 hx (hb hby at_499) rfl (Jvm.Free.XT.i0_eq_f (by decide)) ?_
            refine ow_aload (q := 504) X374 hx (hb hby at_502) rfl rfl rfl ?_
            refine ow_iconst (q := 505) X374 hx (5 : Int32) (hb hby at_504) rfl rfl ?_
            refine ow_aload (q := 507) X374 hx (hb hby at_505) rfl rfl rfl ?_
            obtain ⟨_, _, ⟨T375, L375, k375, n375⟩, -, X375, ⟨Lc375, hQ375, l375, y375, z375⟩, st375⟩ := Jvm.LawKit.callS X374 hx (y := (⟨"com/example/shapewright/shapewright/regex/BuilderAddPinLaw", "okAt", "([II[I)Z"⟩ : MethodName)) hown (mvT hZ (ww 74 rfl)) (mvT hZ (ww 75 rfl)) (mvT hZ (ww 68 rfl)) (mvT hZ (ww 76 rfl)) (by decide) (backOf (W := 0) (rm_okA l Z av0 hw [] b357 (5 : Int32) b8 3 (3 : Int32) (ownUpd (ownUpd (ownUpd (fun _ => (0 : Int32)) 0 f1) 1 ((own_max l1 l2) + (1 : Int32))) 2 f3) (ownUpd (ownUpd (ownUpd (ownUpd (ownUpd (ownUpd (fun _ => (0 : Int32)) 0 f1) 1 l1) 2 f2) 3 l2) 4 f3) 5 l3) T357.heap n0 (Nat.le_trans Z0 K357.1) FP357_0 F358 (by decide) (by decide)) hZ (ww 76 rfl) (ww 68 rfl) (by decide) (by decide)) (g := (mkF m 507 #[iv p0, iv p1, iv p2, iv p3, iv p4, iv p5, iv (1114112 : Int32), iv f1, iv l1, iv f2, iv l2, iv f3, iv l3, rv b8, rv b16, iv (1 : Int32), rv b357, iv f1, iv v366, iv f2, iv v367, iv f3, iv v368, iv nk6] [(.ref b8), (.int (5 : Int32)), (.ref b357)])) rfl (by rw [hml]; rfl) (argsL := [(.ref b357), (.int (5 : Int32)), (.ref b8)]) (rest := []) (lenOf own_pd8 rfl) rfl (by show 2 * 0 + _ ≤ _; exact Nat.le_of_eq rfl) (hb hby at_507) (fun _ _ => ⟨rfl, e374, (by decide : 7 + 0 ≤ _), (by decide : 36 + 0 ≤ _)⟩)
            dsimp only [Pt.U, Pt.locs, Pt.cells, Pt.slots] at X375 l375 y375 z375 st375 hQ375
            subst l375 y375 z375
            obtain ⟨rfl, N375q, e375⟩ := hQ375
            have N375 := Fr.app N374 N375q
            refine ownGo (T' := T375) (f' := (mkF m 510 #[iv p0, iv p1, iv p2, iv p3, iv p4, iv p5, iv (1114112 : Int32), iv f1, iv l1, iv f2, iv l2, iv f3, iv l3, rv b8, rv b16, iv (1 : Int32), rv b357, iv f1, iv v366, iv f2, iv v367, iv f3, iv v368, iv nk6] [(.int (1 : Int32))])) (st375) ?_
            refine ow_ifNo (q := 513) X375 hx (hb hby at_510) rfl (Jvm.Free.XT.i0_eq_f (by decide)) ?_
            refine ow_iconst (q := 514) X375 hx (1 : Int32) (hb hby at_513) rfl rfl ?_
            refine ow_goto (q := 518) X375 hx (hb hby at_514) (by decide) (by decide) ?_
            refine ownRetN X375 hx (r := (1 : Int32)) (Or.inl rfl) Bd.returns (hb hby at_518) hlk (by decide) (by decide) (by decide) ?_
            exact ⟨rfl, N375⟩
          have cut386_376 : ∀ (nk5 : Int32) (Tc376 : State) (lc376 : List Loc), Stand p l e room_1 s m #[(.int p0), (.int p1), (.int p2), (.int p3), (.int p4), (.int p5)] below meth c Tc376 lc376 7 36 → Tc376.heap = T357.heap → Fr n0 lc376 → (nk5.toInt = (own_s5 f1 l1 f2 l2 f3 l3 f1 v366 f2 v367 f3) ∧ 0 ≤ nk5.toInt ∧ nk5.toInt ≤ ((5 : Nat) : Int)) → ownEnds p e below s (Q_law Z p0 p1 p2 p3 p4 p5 h0 n0) 24 192 Tc376 (mkF m 386 #[iv p0, iv p1, iv p2, iv p3, iv p4, iv p5, iv (1114112 : Int32), iv f1, iv l1, iv f2, iv l2, iv f3, iv l3, rv b8, rv b16, iv (1 : Int32), rv b357, iv f1, iv v366, iv f2, iv v367, iv f3, iv v368, iv nk5] []) := by
            intro nk5 Tc376 lc376 Xc376 ec376 Nc376 hn5
            refine ow_aload (q := 388) Xc376 hx (hb hby at_386) rfl rfl rfl ?_
            refine ow_iload (q := 390) Xc376 hx (hb hby at_388) rfl rfl ?_
            obtain ⟨_, _, ⟨T377, L377, k377, n377⟩, -, X377, ⟨Lc377, hQ377, l377, y377, z377⟩, st377⟩ := Jvm.LawKit.callS Xc376 hx (y := (⟨"com/example/shapewright/shapewright/regex/BuilderAddPinLaw", "ch", "([II)Z"⟩ : MethodName)) hown (mvT hZ (ww 66 rfl)) (mvT hZ (ww 67 rfl)) (mvT hZ (ww 68 rfl)) (mvT hZ (ww 69 rfl)) (by decide) (backOf (W := 0) (rm_ch l Z av0 hw [] b8 v368 (ownUpd (ownUpd (ownUpd (ownUpd (ownUpd (ownUpd (fun _ => (0 : Int32)) 0 f1) 1 l1) 2 f2) 3 l2) 4 f3) 5 l3) T357.heap n0 (Nat.le_trans Z0 K357.1) F358) hZ (ww 69 rfl) (ww 68 rfl) (by decide) (by decide)) (g := (mkF m 390 #[iv p0, iv p1, iv p2, iv p3, iv p4, iv p5, iv (1114112 : Int32), iv f1, iv l1, iv f2, iv l2, iv f3, iv l3, rv b8, rv b16, iv (1 : Int32), rv b357, iv f1, iv v366, iv f2, iv v367, iv f3, iv v368, iv nk5] [(.int v368), (.ref b8)])) rfl (by rw [hml]; rfl) (argsL := [(.ref b8), (.int v368)]) (rest := []) (lenOf own_pd3 rfl) rfl (by show 2 * 0 + _ ≤ _; exact Nat.le_of_eq rfl) (hb hby at_390) (fun _ _ => ⟨rfl, ec376, (by decide : 7 + 0 ≤ _), (by decide : 36 + 0 ≤ _)⟩)
            dsimp only [Pt.U, Pt.locs, Pt.cells, Pt.slots] at X377 l377 y377 z377 st377 hQ377
            subst l377 y377 z377
            obtain ⟨rfl, N377q, e377⟩ := hQ377
            have N377 := Fr.app Nc376 N377q
            refine ownGo (T' := T377) (f' := (mkF m 393 #[iv p0, iv p1, iv p2, iv p3, iv p4, iv p5, iv (1114112 : Int32), iv f1, iv l1, iv f2, iv l2, iv f3, iv l3, rv b8, rv b16, iv (1 : Int32), rv b357, iv f1, iv v366, iv f2, iv v367, iv f3, iv v368, iv nk5] [(.int (own_ch f1 l1 f2 l2 f3 l3 v368))])) (st377) ?_
            by_cases hc393_378 : (own_ch f1 l1 f2 l2 f3 l3 v368) = (0 : Int32)
            · refine ow_ifYes (q := 434) X377 hx (hb hby at_393) (Jvm.Free.XT.i0_eq_t hc393_378) (by decide) (by decide) ?_
              exact cut434_369 nk5 _ _ X377 e377 N377 (own_nk0 (k := 5) hn5 (by simp [hc393_378]))
            · refine ow_ifNo (q := 396) X377 hx (hb hby at_393) rfl (Jvm.Free.XT.i0_eq_f hc393_378) ?_
              refine ow_iload (q := 398) X377 hx (hb hby at_396) rfl rfl ?_
              refine ow_iload (q := 400) X377 hx (hb hby at_398) rfl rfl ?_
              by_cases hc400_379 : v368 = f1
              · refine ow_icmpYes (q := 434) X377 hx (hb hby at_400) (Jvm.Free.XT.ii_eq_t hc400_379) (by decide) (by decide) ?_
                exact cut434_369 nk5 _ _ X377 e377 N377 (own_nk0 (k := 5) hn5 (Or.inr (by simp [hc400_379])))
              · refine ow_icmpNo (q := 403) X377 hx (hb hby at_400) rfl (Jvm.Free.XT.ii_eq_f hc400_379) ?_
                refine ow_iload (q := 405) X377 hx (hb hby at_403) rfl rfl ?_
                refine ow_iload (q := 407) X377 hx (hb hby at_405) rfl rfl ?_
                by_cases hc407_380 : v368 = v366
                · refine ow_icmpYes (q := 434) X377 hx (hb hby at_407) (Jvm.Free.XT.ii_eq_t hc407_380) (by decide) (by decide) ?_
                  exact cut434_369 nk5 _ _ X377 e377 N377 (own_nk0 (k := 5) hn5 (Or.inr (by simp [hc407_380])))
                · refine ow_icmpNo (q := 410) X377 hx (hb hby at_407) rfl (Jvm.Free.XT.ii_eq_f hc407_380) ?_
                  refine ow_iload (q := 412) X377 hx (hb hby at_410) rfl rfl ?_
                  refine ow_iload (q := 414) X377 hx (hb hby at_412) rfl rfl ?_
                  by_cases hc414_381 : v368 = f2
                  · refine ow_icmpYes (q := 434) X377 hx (hb hby at_414) (Jvm.Free.XT.ii_eq_t hc414_381) (by decide) (by decide) ?_
                    exact cut434_369 nk5 _ _ X377 e377 N377 (own_nk0 (k := 5) hn5 (Or.inr (by simp [hc414_381])))
                  · refine ow_icmpNo (q := 417) X377 hx (hb hby at_414) rfl (Jvm.Free.XT.ii_eq_f hc414_381) ?_
                    refine ow_iload (q := 419) X377 hx (hb hby at_417) rfl rfl ?_
                    refine ow_iload (q := 421) X377 hx (hb hby at_419) rfl rfl ?_
                    by_cases hc421_382 : v368 = v367
                    · refine ow_icmpYes (q := 434) X377 hx (hb hby at_421) (Jvm.Free.XT.ii_eq_t hc421_382) (by decide) (by decide) ?_
                      exact cut434_369 nk5 _ _ X377 e377 N377 (own_nk0 (k := 5) hn5 (Or.inr (by simp [hc421_382])))
                    · refine ow_icmpNo (q := 424) X377 hx (hb hby at_421) rfl (Jvm.Free.XT.ii_eq_f hc421_382) ?_
                      refine ow_iload (q := 426) X377 hx (hb hby at_424) rfl rfl ?_
                      refine ow_iload (q := 428) X377 hx (hb hby at_426) rfl rfl ?_
                      by_cases hc428_383 : v368 = f3
                      · refine ow_icmpYes (q := 434) X377 hx (hb hby at_428) (Jvm.Free.XT.ii_eq_t hc428_383) (by decide) (by decide) ?_
                        exact cut434_369 nk5 _ _ X377 e377 N377 (own_nk0 (k := 5) hn5 (Or.inr (by simp [hc428_383])))
                      · refine ow_icmpNo (q := 431) X377 hx (hb hby at_428) rfl (Jvm.Free.XT.ii_eq_f hc428_383) ?_
                        refine ow_iinc (q := 434) X377 hx (L' := #[iv p0, iv p1, iv p2, iv p3, iv p4, iv p5, iv (1114112 : Int32), iv f1, iv l1, iv f2, iv l2, iv f3, iv l3, rv b8, rv b16, iv (1 : Int32), rv b357, iv f1, iv v366, iv f2, iv v367, iv f3, iv v368, iv (nk5 + (1 : Int32))]) (hb hby at_431) rfl rfl rfl ?_
                        generalize hv_v384 : (nk5 + (1 : Int32)) = v384
                        exact cut434_369 v384 _ _ X377 e377 N377 (own_nk1 (k := 5) hn5 hv_v384 (by simp [hc393_378, hc400_379, hc407_380, hc414_381, hc421_382, hc428_383]))
          have cut345_385 : ∀ (nk4 : Int32) (Tc385 : State) (lc385 : List Loc), Stand p l e room_1 s m #[(.int p0), (.int p1), (.int p2), (.int p3), (.int p4), (.int p5)] below meth c Tc385 lc385 7 36 → Tc385.heap = T357.heap → Fr n0 lc385 → (nk4.toInt = (own_s4 f1 l1 f2 l2 f3 l3 f1 v366 f2 v367) ∧ 0 ≤ nk4.toInt ∧ nk4.toInt ≤ ((4 : Nat) : Int)) → ownEnds p e below s (Q_law Z p0 p1 p2 p3 p4 p5 h0 n0) 24 192 Tc385 (mkF m 345 #[iv p0, iv p1, iv p2, iv p3, iv p4, iv p5, iv (1114112 : Int32), iv f1, iv l1, iv f2, iv l2, iv f3, iv l3, rv b8, rv b16, iv (1 : Int32), rv b357, iv f1, iv v366, iv f2, iv v367, iv f3, iv v368, iv nk4] []) := by
            intro nk4 Tc385 lc385 Xc385 ec385 Nc385 hn4
            refine ow_aload (q := 347) Xc385 hx (hb hby at_345) rfl rfl rfl ?_
            refine ow_iload (q := 349) Xc385 hx (hb hby at_347) rfl rfl ?_
            obtain ⟨_, _, ⟨T386, L386, k386, n386⟩, -, X386, ⟨Lc386, hQ386, l386, y386, z386⟩, st386⟩ := Jvm.LawKit.callS Xc385 hx (y := (⟨"com/example/shapewright/shapewright/regex/BuilderAddPinLaw", "ch", "([II)Z"⟩ : MethodName)) hown (mvT hZ (ww 66 rfl)) (mvT hZ (ww 67 rfl)) (mvT hZ (ww 68 rfl)) (mvT hZ (ww 69 rfl)) (by decide) (backOf (W := 0) (rm_ch l Z av0 hw [] b8 f3 (ownUpd (ownUpd (ownUpd (ownUpd (ownUpd (ownUpd (fun _ => (0 : Int32)) 0 f1) 1 l1) 2 f2) 3 l2) 4 f3) 5 l3) T357.heap n0 (Nat.le_trans Z0 K357.1) F358) hZ (ww 69 rfl) (ww 68 rfl) (by decide) (by decide)) (g := (mkF m 349 #[iv p0, iv p1, iv p2, iv p3, iv p4, iv p5, iv (1114112 : Int32), iv f1, iv l1, iv f2, iv l2, iv f3, iv l3, rv b8, rv b16, iv (1 : Int32), rv b357, iv f1, iv v366, iv f2, iv v367, iv f3, iv v368, iv nk4] [(.int f3), (.ref b8)])) rfl (by rw [hml]; rfl) (argsL := [(.ref b8), (.int f3)]) (rest := []) (lenOf own_pd3 rfl) rfl (by show 2 * 0 + _ ≤ _; exact Nat.le_of_eq rfl) (hb hby at_349) (fun _ _ => ⟨rfl, ec385, (by decide : 7 + 0 ≤ _), (by decide : 36 + 0 ≤ _)⟩)
            dsimp only [Pt.U, Pt.locs, Pt.cells, Pt.slots] at X386 l386 y386 z386 st386 hQ386
            subst l386 y386 z386
            obtain ⟨rfl, N386q, e386⟩ := hQ386
            have N386 := Fr.app Nc385 N386q
            refine ownGo (T' := T386) (f' := (mkF m 352 #[iv p0, iv p1, iv p2, iv p3, iv p4, iv p5, iv (1114112 : Int32), iv f1, iv l1, iv f2, iv l2, iv f3, iv l3, rv b8, rv b16, iv (1 : Int32), rv b357, iv f1, iv v366, iv f2, iv v367, iv f3, iv v368, iv nk4] [(.int (own_ch f1 l1 f2 l2 f3 l3 f3))])) (st386) ?_
            by_cases hc352_387 : (own_ch f1 l1 f2 l2 f3 l3 f3) = (0 : Int32)
            · refine ow_ifYes (q := 386) X386 hx (hb hby at_352) (Jvm.Free.XT.i0_eq_t hc352_387) (by decide) (by decide) ?_
              exact cut386_376 nk4 _ _ X386 e386 N386 (own_nk0 (k := 4) hn4 (by simp [hc352_387]))
            · refine ow_ifNo (q := 355) X386 hx (hb hby at_352) rfl (Jvm.Free.XT.i0_eq_f hc352_387) ?_
              refine ow_iload (q := 357) X386 hx (hb hby at_355) rfl rfl ?_
              refine ow_iload (q := 359) X386 hx (hb hby at_357) rfl rfl ?_
              by_cases hc359_388 : f3 = f1
              · refine ow_icmpYes (q := 386) X386 hx (hb hby at_359) (Jvm.Free.XT.ii_eq_t hc359_388) (by decide) (by decide) ?_
                exact cut386_376 nk4 _ _ X386 e386 N386 (own_nk0 (k := 4) hn4 (Or.inr (by simp [hc359_388])))
              · refine ow_icmpNo (q := 362) X386 hx (hb hby at_359) rfl (Jvm.Free.XT.ii_eq_f hc359_388) ?_
                refine ow_iload (q := 364) X386 hx (hb hby at_362) rfl rfl ?_
                refine ow_iload (q := 366) X386 hx (hb hby at_364) rfl rfl ?_
                by_cases hc366_389 : f3 = v366
                · refine ow_icmpYes (q := 386) X386 hx (hb hby at_366) (Jvm.Free.XT.ii_eq_t hc366_389) (by decide) (by decide) ?_
                  exact cut386_376 nk4 _ _ X386 e386 N386 (own_nk0 (k := 4) hn4 (Or.inr (by simp [hc366_389])))
                · refine ow_icmpNo (q := 369) X386 hx (hb hby at_366) rfl (Jvm.Free.XT.ii_eq_f hc366_389) ?_
                  refine ow_iload (q := 371) X386 hx (hb hby at_369) rfl rfl ?_
                  refine ow_iload (q := 373) X386 hx (hb hby at_371) rfl rfl ?_
                  by_cases hc373_390 : f3 = f2
                  · refine ow_icmpYes (q := 386) X386 hx (hb hby at_373) (Jvm.Free.XT.ii_eq_t hc373_390) (by decide) (by decide) ?_
                    exact cut386_376 nk4 _ _ X386 e386 N386 (own_nk0 (k := 4) hn4 (Or.inr (by simp [hc373_390])))
                  · refine ow_icmpNo (q := 376) X386 hx (hb hby at_373) rfl (Jvm.Free.XT.ii_eq_f hc373_390) ?_
                    refine ow_iload (q := 378) X386 hx (hb hby at_376) rfl rfl ?_
                    refine ow_iload (q := 380) X386 hx (hb hby at_378) rfl rfl ?_
                    by_cases hc380_391 : f3 = v367
                    · refine ow_icmpYes (q := 386) X386 hx (hb hby at_380) (Jvm.Free.XT.ii_eq_t hc380_391) (by decide) (by decide) ?_
                      exact cut386_376 nk4 _ _ X386 e386 N386 (own_nk0 (k := 4) hn4 (Or.inr (by simp [hc380_391])))
                    · refine ow_icmpNo (q := 383) X386 hx (hb hby at_380) rfl (Jvm.Free.XT.ii_eq_f hc380_391) ?_
                      refine ow_iinc (q := 386) X386 hx (L' := #[iv p0, iv p1, iv p2, iv p3, iv p4, iv p5, iv (1114112 : Int32), iv f1, iv l1, iv f2, iv l2, iv f3, iv l3, rv b8, rv b16, iv (1 : Int32), rv b357, iv f1, iv v366, iv f2, iv v367, iv f3, iv v368, iv (nk4 + (1 : Int32))]) (hb hby at_383) rfl rfl rfl ?_
                      generalize hv_v392 : (nk4 + (1 : Int32)) = v392
                      exact cut386_376 v392 _ _ X386 e386 N386 (own_nk1 (k := 4) hn4 hv_v392 (by simp [hc352_387, hc359_388, hc366_389, hc373_390, hc380_391]))
          have cut311_393 : ∀ (nk3 : Int32) (Tc393 : State) (lc393 : List Loc), Stand p l e room_1 s m #[(.int p0), (.int p1), (.int p2), (.int p3), (.int p4), (.int p5)] below meth c Tc393 lc393 7 36 → Tc393.heap = T357.heap → Fr n0 lc393 → (nk3.toInt = (own_s3 f1 l1 f2 l2 f3 l3 f1 v366 f2) ∧ 0 ≤ nk3.toInt ∧ nk3.toInt ≤ ((3 : Nat) : Int)) → ownEnds p e below s (Q_law Z p0 p1 p2 p3 p4 p5 h0 n0) 24 192 Tc393 (mkF m 311 #[iv p0, iv p1, iv p2, iv p3, iv p4, iv p5, iv (1114112 : Int32), iv f1, iv l1, iv f2, iv l2, iv f3, iv l3, rv b8, rv b16, iv (1 : Int32), rv b357, iv f1, iv v366, iv f2, iv v367, iv f3, iv v368, iv nk3] []) := by
            intro nk3 Tc393 lc393 Xc393 ec393 Nc393 hn3
            refine ow_aload (q := 313) Xc393 hx (hb hby at_311) rfl rfl rfl ?_
            refine ow_iload (q := 315) Xc393 hx (hb hby at_313) rfl rfl ?_
            obtain ⟨_, _, ⟨T394, L394, k394, n394⟩, -, X394, ⟨Lc394, hQ394, l394, y394, z394⟩, st394⟩ := Jvm.LawKit.callS Xc393 hx (y := (⟨"com/example/shapewright/shapewright/regex/BuilderAddPinLaw", "ch", "([II)Z"⟩ : MethodName)) hown (mvT hZ (ww 66 rfl)) (mvT hZ (ww 67 rfl)) (mvT hZ (ww 68 rfl)) (mvT hZ (ww 69 rfl)) (by decide) (backOf (W := 0) (rm_ch l Z av0 hw [] b8 v367 (ownUpd (ownUpd (ownUpd (ownUpd (ownUpd (ownUpd (fun _ => (0 : Int32)) 0 f1) 1 l1) 2 f2) 3 l2) 4 f3) 5 l3) T357.heap n0 (Nat.le_trans Z0 K357.1) F358) hZ (ww 69 rfl) (ww 68 rfl) (by decide) (by decide)) (g := (mkF m 315 #[iv p0, iv p1, iv p2, iv p3, iv p4, iv p5, iv (1114112 : Int32), iv f1, iv l1, iv f2, iv l2, iv f3, iv l3, rv b8, rv b16, iv (1 : Int32), rv b357, iv f1, iv v366, iv f2, iv v367, iv f3, iv v368, iv nk3] [(.int v367), (.ref b8)])) rfl (by rw [hml]; rfl) (argsL := [(.ref b8), (.int v367)]) (rest := []) (lenOf own_pd3 rfl) rfl (by show 2 * 0 + _ ≤ _; exact Nat.le_of_eq rfl) (hb hby at_315) (fun _ _ => ⟨rfl, ec393, (by decide : 7 + 0 ≤ _), (by decide : 36 + 0 ≤ _)⟩)
            dsimp only [Pt.U, Pt.locs, Pt.cells, Pt.slots] at X394 l394 y394 z394 st394 hQ394
            subst l394 y394 z394
            obtain ⟨rfl, N394q, e394⟩ := hQ394
            have N394 := Fr.app Nc393 N394q
            refine ownGo (T' := T394) (f' := (mkF m 318 #[iv p0, iv p1, iv p2, iv p3, iv p4, iv p5, iv (1114112 : Int32), iv f1, iv l1, iv f2, iv l2, iv f3, iv l3, rv b8, rv b16, iv (1 : Int32), rv b357, iv f1, iv v366, iv f2, iv v367, iv f3, iv v368, iv nk3] [(.int (own_ch f1 l1 f2 l2 f3 l3 v367))])) (st394) ?_
            by_cases hc318_395 : (own_ch f1 l1 f2 l2 f3 l3 v367) = (0 : Int32)
            · refine ow_ifYes (q := 345) X394 hx (hb hby at_318) (Jvm.Free.XT.i0_eq_t hc318_395) (by decide) (by decide) ?_
              exact cut345_385 nk3 _ _ X394 e394 N394 (own_nk0 (k := 3) hn3 (by simp [hc318_395]))
            · refine ow_ifNo (q := 321) X394 hx (hb hby at_318) rfl (Jvm.Free.XT.i0_eq_f hc318_395) ?_
              refine ow_iload (q := 323) X394 hx (hb hby at_321) rfl rfl ?_
              refine ow_iload (q := 325) X394 hx (hb hby at_323) rfl rfl ?_
              by_cases hc325_396 : v367 = f1
              · refine ow_icmpYes (q := 345) X394 hx (hb hby at_325) (Jvm.Free.XT.ii_eq_t hc325_396) (by decide) (by decide) ?_
                exact cut345_385 nk3 _ _ X394 e394 N394 (own_nk0 (k := 3) hn3 (Or.inr (by simp [hc325_396])))
              · refine ow_icmpNo (q := 328) X394 hx (hb hby at_325) rfl (Jvm.Free.XT.ii_eq_f hc325_396) ?_
                refine ow_iload (q := 330) X394 hx (hb hby at_328) rfl rfl ?_
                refine ow_iload (q := 332) X394 hx (hb hby at_330) rfl rfl ?_
                by_cases hc332_397 : v367 = v366
                · refine ow_icmpYes (q := 345) X394 hx (hb hby at_332) (Jvm.Free.XT.ii_eq_t hc332_397) (by decide) (by decide) ?_
                  exact cut345_385 nk3 _ _ X394 e394 N394 (own_nk0 (k := 3) hn3 (Or.inr (by simp [hc332_397])))
                · refine ow_icmpNo (q := 335) X394 hx (hb hby at_332) rfl (Jvm.Free.XT.ii_eq_f hc332_397) ?_
                  refine ow_iload (q := 337) X394 hx (hb hby at_335) rfl rfl ?_
                  refine ow_iload (q := 339) X394 hx (hb hby at_337) rfl rfl ?_
                  by_cases hc339_398 : v367 = f2
                  · refine ow_icmpYes (q := 345) X394 hx (hb hby at_339) (Jvm.Free.XT.ii_eq_t hc339_398) (by decide) (by decide) ?_
                    exact cut345_385 nk3 _ _ X394 e394 N394 (own_nk0 (k := 3) hn3 (Or.inr (by simp [hc339_398])))
                  · refine ow_icmpNo (q := 342) X394 hx (hb hby at_339) rfl (Jvm.Free.XT.ii_eq_f hc339_398) ?_
                    refine ow_iinc (q := 345) X394 hx (L' := #[iv p0, iv p1, iv p2, iv p3, iv p4, iv p5, iv (1114112 : Int32), iv f1, iv l1, iv f2, iv l2, iv f3, iv l3, rv b8, rv b16, iv (1 : Int32), rv b357, iv f1, iv v366, iv f2, iv v367, iv f3, iv v368, iv (nk3 + (1 : Int32))]) (hb hby at_342) rfl rfl rfl ?_
                    generalize hv_v399 : (nk3 + (1 : Int32)) = v399
                    exact cut345_385 v399 _ _ X394 e394 N394 (own_nk1 (k := 3) hn3 hv_v399 (by simp [hc318_395, hc325_396, hc332_397, hc339_398]))
          have cut284_400 : ∀ (nk2 : Int32) (Tc400 : State) (lc400 : List Loc), Stand p l e room_1 s m #[(.int p0), (.int p1), (.int p2), (.int p3), (.int p4), (.int p5)] below meth c Tc400 lc400 7 36 → Tc400.heap = T357.heap → Fr n0 lc400 → (nk2.toInt = (own_s2 f1 l1 f2 l2 f3 l3 f1 v366) ∧ 0 ≤ nk2.toInt ∧ nk2.toInt ≤ ((2 : Nat) : Int)) → ownEnds p e below s (Q_law Z p0 p1 p2 p3 p4 p5 h0 n0) 24 192 Tc400 (mkF m 284 #[iv p0, iv p1, iv p2, iv p3, iv p4, iv p5, iv (1114112 : Int32), iv f1, iv l1, iv f2, iv l2, iv f3, iv l3, rv b8, rv b16, iv (1 : Int32), rv b357, iv f1, iv v366, iv f2, iv v367, iv f3, iv v368, iv nk2] []) := by
            intro nk2 Tc400 lc400 Xc400 ec400 Nc400 hn2
            refine ow_aload (q := 286) Xc400 hx (hb hby at_284) rfl rfl rfl ?_
            refine ow_iload (q := 288) Xc400 hx (hb hby at_286) rfl rfl ?_
            obtain ⟨_, _, ⟨T401, L401, k401, n401⟩, -, X401, ⟨Lc401, hQ401, l401, y401, z401⟩, st401⟩ := Jvm.LawKit.callS Xc400 hx (y := (⟨"com/example/shapewright/shapewright/regex/BuilderAddPinLaw", "ch", "([II)Z"⟩ : MethodName)) hown (mvT hZ (ww 66 rfl)) (mvT hZ (ww 67 rfl)) (mvT hZ (ww 68 rfl)) (mvT hZ (ww 69 rfl)) (by decide) (backOf (W := 0) (rm_ch l Z av0 hw [] b8 f2 (ownUpd (ownUpd (ownUpd (ownUpd (ownUpd (ownUpd (fun _ => (0 : Int32)) 0 f1) 1 l1) 2 f2) 3 l2) 4 f3) 5 l3) T357.heap n0 (Nat.le_trans Z0 K357.1) F358) hZ (ww 69 rfl) (ww 68 rfl) (by decide) (by decide)) (g := (mkF m 288 #[iv p0, iv p1, iv p2, iv p3, iv p4, iv p5, iv (1114112 : Int32), iv f1, iv l1, iv f2, iv l2, iv f3, iv l3, rv b8, rv b16, iv (1 : Int32), rv b357, iv f1, iv v366, iv f2, iv v367, iv f3, iv v368, iv nk2] [(.int f2), (.ref b8)])) rfl (by rw [hml]; rfl) (argsL := [(.ref b8), (.int f2)]) (rest := []) (lenOf own_pd3 rfl) rfl (by show 2 * 0 + _ ≤ _; exact Nat.le_of_eq rfl) (hb hby at_288) (fun _ _ => ⟨rfl, ec400, (by decide : 7 + 0 ≤ _), (by decide : 36 + 0 ≤ _)⟩)
            dsimp only [Pt.U, Pt.locs, Pt.cells, Pt.slots] at X401 l401 y401 z401 st401 hQ401
            subst l401 y401 z401
            obtain ⟨rfl, N401q, e401⟩ := hQ401
            have N401 := Fr.app Nc400 N401q
            refine ownGo (T' := T401) (f' := (mkF m 291 #[iv p0, iv p1, iv p2, iv p3, iv p4, iv p5, iv (1114112 : Int32), iv f1, iv l1, iv f2, iv l2, iv f3, iv l3, rv b8, rv b16, iv (1 : Int32), rv b357, iv f1, iv v366, iv f2, iv v367, iv f3, iv v368, iv nk2] [(.int (own_ch f1 l1 f2 l2 f3 l3 f2))])) (st401) ?_
            by_cases hc291_402 : (own_ch f1 l1 f2 l2 f3 l3 f2) = (0 : Int32)
            · refine ow_ifYes (q := 311) X401 hx (hb hby at_291) (Jvm.Free.XT.i0_eq_t hc291_402) (by decide) (by decide) ?_
              exact cut311_393 nk2 _ _ X401 e401 N401 (own_nk0 (k := 2) hn2 (by simp [hc291_402]))
            · refine ow_ifNo (q := 294) X401 hx (hb hby at_291) rfl (Jvm.Free.XT.i0_eq_f hc291_402) ?_
              refine ow_iload (q := 296) X401 hx (hb hby at_294) rfl rfl ?_
              refine ow_iload (q := 298) X401 hx (hb hby at_296) rfl rfl ?_
              by_cases hc298_403 : f2 = f1
              · refine ow_icmpYes (q := 311) X401 hx (hb hby at_298) (Jvm.Free.XT.ii_eq_t hc298_403) (by decide) (by decide) ?_
                exact cut311_393 nk2 _ _ X401 e401 N401 (own_nk0 (k := 2) hn2 (Or.inr (by simp [hc298_403])))
              · refine ow_icmpNo (q := 301) X401 hx (hb hby at_298) rfl (Jvm.Free.XT.ii_eq_f hc298_403) ?_
                refine ow_iload (q := 303) X401 hx (hb hby at_301) rfl rfl ?_
                refine ow_iload (q := 305) X401 hx (hb hby at_303) rfl rfl ?_
                by_cases hc305_404 : f2 = v366
                · refine ow_icmpYes (q := 311) X401 hx (hb hby at_305) (Jvm.Free.XT.ii_eq_t hc305_404) (by decide) (by decide) ?_
                  exact cut311_393 nk2 _ _ X401 e401 N401 (own_nk0 (k := 2) hn2 (Or.inr (by simp [hc305_404])))
                · refine ow_icmpNo (q := 308) X401 hx (hb hby at_305) rfl (Jvm.Free.XT.ii_eq_f hc305_404) ?_
                  refine ow_iinc (q := 311) X401 hx (L' := #[iv p0, iv p1, iv p2, iv p3, iv p4, iv p5, iv (1114112 : Int32), iv f1, iv l1, iv f2, iv l2, iv f3, iv l3, rv b8, rv b16, iv (1 : Int32), rv b357, iv f1, iv v366, iv f2, iv v367, iv f3, iv v368, iv (nk2 + (1 : Int32))]) (hb hby at_308) rfl rfl rfl ?_
                  generalize hv_v405 : (nk2 + (1 : Int32)) = v405
                  exact cut311_393 v405 _ _ X401 e401 N401 (own_nk1 (k := 2) hn2 hv_v405 (by simp [hc291_402, hc298_403, hc305_404]))
          have cut264_406 : ∀ (nk1 : Int32) (Tc406 : State) (lc406 : List Loc), Stand p l e room_1 s m #[(.int p0), (.int p1), (.int p2), (.int p3), (.int p4), (.int p5)] below meth c Tc406 lc406 7 36 → Tc406.heap = T357.heap → Fr n0 lc406 → (nk1.toInt = (own_s1 f1 l1 f2 l2 f3 l3 f1) ∧ 0 ≤ nk1.toInt ∧ nk1.toInt ≤ ((1 : Nat) : Int)) → ownEnds p e below s (Q_law Z p0 p1 p2 p3 p4 p5 h0 n0) 24 192 Tc406 (mkF m 264 #[iv p0, iv p1, iv p2, iv p3, iv p4, iv p5, iv (1114112 : Int32), iv f1, iv l1, iv f2, iv l2, iv f3, iv l3, rv b8, rv b16, iv (1 : Int32), rv b357, iv f1, iv v366, iv f2, iv v367, iv f3, iv v368, iv nk1] []) := by
            intro nk1 Tc406 lc406 Xc406 ec406 Nc406 hn1
            refine ow_aload (q := 266) Xc406 hx (hb hby at_264) rfl rfl rfl ?_
            refine ow_iload (q := 268) Xc406 hx (hb hby at_266) rfl rfl ?_
            obtain ⟨_, _, ⟨T407, L407, k407, n407⟩, -, X407, ⟨Lc407, hQ407, l407, y407, z407⟩, st407⟩ := Jvm.LawKit.callS Xc406 hx (y := (⟨"com/example/shapewright/shapewright/regex/BuilderAddPinLaw", "ch", "([II)Z"⟩ : MethodName)) hown (mvT hZ (ww 66 rfl)) (mvT hZ (ww 67 rfl)) (mvT hZ (ww 68 rfl)) (mvT hZ (ww 69 rfl)) (by decide) (backOf (W := 0) (rm_ch l Z av0 hw [] b8 v366 (ownUpd (ownUpd (ownUpd (ownUpd (ownUpd (ownUpd (fun _ => (0 : Int32)) 0 f1) 1 l1) 2 f2) 3 l2) 4 f3) 5 l3) T357.heap n0 (Nat.le_trans Z0 K357.1) F358) hZ (ww 69 rfl) (ww 68 rfl) (by decide) (by decide)) (g := (mkF m 268 #[iv p0, iv p1, iv p2, iv p3, iv p4, iv p5, iv (1114112 : Int32), iv f1, iv l1, iv f2, iv l2, iv f3, iv l3, rv b8, rv b16, iv (1 : Int32), rv b357, iv f1, iv v366, iv f2, iv v367, iv f3, iv v368, iv nk1] [(.int v366), (.ref b8)])) rfl (by rw [hml]; rfl) (argsL := [(.ref b8), (.int v366)]) (rest := []) (lenOf own_pd3 rfl) rfl (by show 2 * 0 + _ ≤ _; exact Nat.le_of_eq rfl) (hb hby at_268) (fun _ _ => ⟨rfl, ec406, (by decide : 7 + 0 ≤ _), (by decide : 36 + 0 ≤ _)⟩)
            dsimp only [Pt.U, Pt.locs, Pt.cells, Pt.slots] at X407 l407 y407 z407 st407 hQ407
            subst l407 y407 z407
            obtain ⟨rfl, N407q, e407⟩ := hQ407
            have N407 := Fr.app Nc406 N407q
            refine ownGo (T' := T407) (f' := (mkF m 271 #[iv p0, iv p1, iv p2, iv p3, iv p4, iv p5, iv (1114112 : Int32), iv f1, iv l1, iv f2, iv l2, iv f3, iv l3, rv b8, rv b16, iv (1 : Int32), rv b357, iv f1, iv v366, iv f2, iv v367, iv f3, iv v368, iv nk1] [(.int (own_ch f1 l1 f2 l2 f3 l3 v366))])) (st407) ?_
            by_cases hc271_408 : (own_ch f1 l1 f2 l2 f3 l3 v366) = (0 : Int32)
            · refine ow_ifYes (q := 284) X407 hx (hb hby at_271) (Jvm.Free.XT.i0_eq_t hc271_408) (by decide) (by decide) ?_
              exact cut284_400 nk1 _ _ X407 e407 N407 (own_nk0 (k := 1) hn1 (by simp [hc271_408]))
            · refine ow_ifNo (q := 274) X407 hx (hb hby at_271) rfl (Jvm.Free.XT.i0_eq_f hc271_408) ?_
              refine ow_iload (q := 276) X407 hx (hb hby at_274) rfl rfl ?_
              refine ow_iload (q := 278) X407 hx (hb hby at_276) rfl rfl ?_
              by_cases hc278_409 : v366 = f1
              · refine ow_icmpYes (q := 284) X407 hx (hb hby at_278) (Jvm.Free.XT.ii_eq_t hc278_409) (by decide) (by decide) ?_
                exact cut284_400 nk1 _ _ X407 e407 N407 (own_nk0 (k := 1) hn1 (Or.inr (by simp [hc278_409])))
              · refine ow_icmpNo (q := 281) X407 hx (hb hby at_278) rfl (Jvm.Free.XT.ii_eq_f hc278_409) ?_
                refine ow_iinc (q := 284) X407 hx (L' := #[iv p0, iv p1, iv p2, iv p3, iv p4, iv p5, iv (1114112 : Int32), iv f1, iv l1, iv f2, iv l2, iv f3, iv l3, rv b8, rv b16, iv (1 : Int32), rv b357, iv f1, iv v366, iv f2, iv v367, iv f3, iv v368, iv (nk1 + (1 : Int32))]) (hb hby at_281) rfl rfl rfl ?_
                generalize hv_v410 : (nk1 + (1 : Int32)) = v410
                exact cut284_400 v410 _ _ X407 e407 N407 (own_nk1 (k := 1) hn1 hv_v410 (by simp [hc271_408, hc278_409]))
          refine ow_aload (q := 253) X357 hx (hb hby at_251) rfl rfl rfl ?_
          refine ow_iload (q := 255) X357 hx (hb hby at_253) rfl rfl ?_
          obtain ⟨_, _, ⟨T411, L411, k411, n411⟩, -, X411, ⟨Lc411, hQ411, l411, y411, z411⟩, st411⟩ := Jvm.LawKit.callS X357 hx (y := (⟨"com/example/shapewright/shapewright/regex/BuilderAddPinLaw", "ch", "([II)Z"⟩ : MethodName)) hown (mvT hZ (ww 66 rfl)) (mvT hZ (ww 67 rfl)) (mvT hZ (ww 68 rfl)) (mvT hZ (ww 69 rfl)) (by decide) (backOf (W := 0) (rm_ch l Z av0 hw [] b8 f1 (ownUpd (ownUpd (ownUpd (ownUpd (ownUpd (ownUpd (fun _ => (0 : Int32)) 0 f1) 1 l1) 2 f2) 3 l2) 4 f3) 5 l3) T357.heap n0 (Nat.le_trans Z0 K357.1) F358) hZ (ww 69 rfl) (ww 68 rfl) (by decide) (by decide)) (g := (mkF m 255 #[iv p0, iv p1, iv p2, iv p3, iv p4, iv p5, iv (1114112 : Int32), iv f1, iv l1, iv f2, iv l2, iv f3, iv l3, rv b8, rv b16, iv (1 : Int32), rv b357, iv f1, iv v366, iv f2, iv v367, iv f3, iv v368, iv (0 : Int32)] [(.int f1), (.ref b8)])) rfl (by rw [hml]; rfl) (argsL := [(.ref b8), (.int f1)]) (rest := []) (lenOf own_pd3 rfl) rfl (by show 2 * 0 + _ ≤ _; exact Nat.le_of_eq rfl) (hb hby at_255) (fun _ _ => ⟨rfl, rfl, (by decide : 7 + 0 ≤ _), (by decide : 36 + 0 ≤ _)⟩)
          dsimp only [Pt.U, Pt.locs, Pt.cells, Pt.slots] at X411 l411 y411 z411 st411 hQ411
          subst l411 y411 z411
          obtain ⟨rfl, N411q, e411⟩ := hQ411
          have N411 := Fr.app N357 N411q
          refine ownGo (T' := T411) (f' := (mkF m 258 #[iv p0, iv p1, iv p2, iv p3, iv p4, iv p5, iv (1114112 : Int32), iv f1, iv l1, iv f2, iv l2, iv f3, iv l3, rv b8, rv b16, iv (1 : Int32), rv b357, iv f1, iv v366, iv f2, iv v367, iv f3, iv v368, iv (0 : Int32)] [(.int (own_ch f1 l1 f2 l2 f3 l3 f1))])) (st411) ?_
          by_cases hc258_412 : (own_ch f1 l1 f2 l2 f3 l3 f1) = (0 : Int32)
          · refine ow_ifYes (q := 264) X411 hx (hb hby at_258) (Jvm.Free.XT.i0_eq_t hc258_412) (by decide) (by decide) ?_
            exact cut264_406 (0 : Int32) _ _ X411 e411 N411 (own_nk0 (k := 0) (by decide : (0 : Int32).toInt = (0 : Int) ∧ 0 ≤ (0 : Int32).toInt ∧ (0 : Int32).toInt ≤ ((0 : Nat) : Int)) (by simp [hc258_412]))
          · refine ow_ifNo (q := 261) X411 hx (hb hby at_258) rfl (Jvm.Free.XT.i0_eq_f hc258_412) ?_
            refine ow_iinc (q := 264) X411 hx (L' := #[iv p0, iv p1, iv p2, iv p3, iv p4, iv p5, iv (1114112 : Int32), iv f1, iv l1, iv f2, iv l2, iv f3, iv l3, rv b8, rv b16, iv (1 : Int32), rv b357, iv f1, iv v366, iv f2, iv v367, iv f3, iv v368, iv (1 : Int32)]) (hb hby at_261) rfl rfl rfl ?_
            exact cut264_406 (1 : Int32) _ _ X411 e411 N411 (own_nk1 (k := 0) (by decide : (0 : Int32).toInt = (0 : Int) ∧ 0 ≤ (0 : Int32).toInt ∧ (0 : Int32).toInt ≤ ((0 : Nat) : Int)) (by decide) (by simp [hc258_412]))
      · refine ow_aload (q := 189) X283 hx (hb hby at_187) rfl rfl rfl ?_
        refine ow_iload (q := 191) X283 hx (hb hby at_189) rfl rfl ?_
        refine ow_iload (q := 193) X283 hx (hb hby at_191) rfl rfl ?_
        obtain ⟨cq413, kq413, q413a, q413b, q413c⟩ := isOf hZ rfl FP283_0
        obtain ⟨_, _, ⟨T413, L413, k413, n413⟩, -, X413, ⟨Lc413, hQ413, l413, y413, z413⟩, st413⟩ := X283.virtualBack hx (y := (⟨"com/example/shapewright/shapewright/regex/CodePointSet$Builder", "add", "(II)Lcom/example/shapewright/shapewright/regex/CodePointSet$Builder;"⟩ : MethodName)) (z := (⟨"com/example/shapewright/shapewright/regex/CodePointSet$Builder", "add", "(II)Lcom/example/shapewright/shapewright/regex/CodePointSet$Builder;"⟩ : MethodName)) hown (mvT hZ (ww 14 rfl)) (mvT hZ (ww 15 rfl)) (notFace_of_selects (args := #[]) (mvT hZ (ww 17 rfl))) (mvT hZ (ww 17 rfl)) (mvT hZ (ww 16 rfl)) (by decide) (backOf (W := 0) (rm_add_2_m l Z av0 hw [] b16 f3 l3 ar_20 (ownUpd (ownUpd (ownUpd (fun _ => (0 : Int32)) 0 f1) 1 l1) 1 (own_max l1 l2)) T283.heap n0 (Nat.le_trans Z0 K283.1) FP283_0 FP283_1 FP283_2 FP283_3 G_b16 G_ar_20 ne_b16_ar_20 hm3) hZ (ww 18 rfl) (ww 5 rfl) (by decide) (by decide)) q413a q413c (g := (mkF m 193 #[iv p0, iv p1, iv p2, iv p3, iv p4, iv p5, iv (1114112 : Int32), iv f1, iv l1, iv f2, iv l2, iv f3, iv l3, rv b8, rv b16, iv (1 : Int32), .unset, .unset, .unset, .unset, .unset, .unset, .unset, .unset] [(.int l3), (.int f3), (.ref b16)])) rfl (by rw [hml]; rfl) (Steps.refl _) (argsL := [(.int f3), (.int l3)]) (rest := []) (lenOf own_pd5 rfl) rfl (by show 2 * 0 + _ ≤ _; exact Nat.le_of_eq rfl) (hb hby at_193) (fun _ _ => ⟨rfl, rfl, (by decide : 3 + 0 ≤ _), (by decide : 24 + 0 ≤ _)⟩)
        dsimp only [Pt.U, Pt.locs, Pt.cells, Pt.slots] at X413 l413 y413 z413 st413 hQ413
        subst l413 y413 z413
        obtain ⟨rfl, N413q, Kq413, FP413_0, FP413_1, FP413_2, FP413_3⟩ := hQ413
        have N413 := Fr.app N283 N413q
        have K413 : Keep h0 T413.heap [] := K283.trans Kq413 (allS (Or.inr sz_b16) (allS (Or.inr sz_ar_20) all0))
        have F414 : ownAI Z T413.heap b8 .int 6 (ownUpd (ownUpd (ownUpd (ownUpd (ownUpd (ownUpd (fun _ => (0 : Int32)) 0 f1) 1 l1) 2 f2) 3 l2) 4 f3) 5 l3) := F284.keep Kq413 (ninS ne_b8_b16 (ninS ne_b8_ar_20 nin0))
        have F415 : Exa Z T413.heap b16 "com/example/shapewright/shapewright/regex/CodePointSet$Builder" := FP283_0.keep Kq413
        refine ownRun (T' := T413) (f' := (mkF m 196 #[iv p0, iv p1, iv p2, iv p3, iv p4, iv p5, iv (1114112 : Int32), iv f1, iv l1, iv f2, iv l2, iv f3, iv l3, rv b8, rv b16, iv (1 : Int32), .unset, .unset, .unset, .unset, .unset, .unset, .unset, .unset] [(.ref b16)])) st413 ?_
        refine ow_aload (q := 198) X413 hx (hb hby at_196) rfl rfl rfl ?_
        refine ownGo (T' := T413) (f' := (mkF m 201 #[iv p0, iv p1, iv p2, iv p3, iv p4, iv p5, iv (1114112 : Int32), iv f1, iv l1, iv f2, iv l2, iv f3, iv l3, rv b8, rv b16, iv (1 : Int32), .unset, .unset, .unset, .unset, .unset, .unset, .unset, .unset] [])) (fun _ k => Jvm.RoadKit.acmp (g := (mkF m 198 #[iv p0, iv p1, iv p2, iv p3, iv p4, iv p5, iv (1114112 : Int32), iv f1, iv l1, iv f2, iv l2, iv f3, iv l3, rv b8, rv b16, iv (1 : Int32), .unset, .unset, .unset, .unset, .unset, .unset, .unset, .unset] [(.ref b16), (.ref b16)])) X413 hx rfl rfl rfl (pc0 := 198) (pc' := 201) (same := true) rfl (hb hby at_198) rfl (decide_eq_true rfl) (by decide) (by decide) k) ?_
        refine ow_iconst (q := 202) X413 hx (1 : Int32) (hb hby at_201) rfl rfl ?_
        refine ow_goto (q := 206) X413 hx (hb hby at_202) (by decide) (by decide) ?_
        refine ow_istore (q := 208) X413 hx (L' := #[iv p0, iv p1, iv p2, iv p3, iv p4, iv p5, iv (1114112 : Int32), iv f1, iv l1, iv f2, iv l2, iv f3, iv l3, rv b8, rv b16, iv (1 : Int32), .unset, .unset, .unset, .unset, .unset, .unset, .unset, .unset]) (hb hby at_206) rfl rfl ?_
        by_cases hmx : (own_max (own_max l1 l2) l3) < (1114111 : Int32)
        · refine ow_aload (q := 210) X413 hx (hb hby at_208) rfl rfl rfl ?_
          obtain ⟨cq416, kq416, q416a, q416b, q416c⟩ := isOf hZ rfl FP413_0
          obtain ⟨_, _, ⟨T416, L416, k416, n416⟩, -, X416, ⟨Lc416, hQ416, l416, y416, z416⟩, st416⟩ := X413.virtualBack hx (y := (⟨"com/example/shapewright/shapewright/regex/CodePointSet$Builder", "build", "()Lcom/example/shapewright/shapewright/regex/CodePointSet;"⟩ : MethodName)) (z := (⟨"com/example/shapewright/shapewright/regex/CodePointSet$Builder", "build", "()Lcom/example/shapewright/shapewright/regex/CodePointSet;"⟩ : MethodName)) hown (mvT hZ (ww 25 rfl)) (mvT hZ (ww 26 rfl)) (notFace_of_selects (args := #[]) (mvT hZ (ww 28 rfl))) (mvT hZ (ww 28 rfl)) (mvT hZ (ww 27 rfl)) (by decide) (backOf (W := 0) (rm_build_2 l Z av0 hw [] b16 ar_20 (ownUpd (ownUpd (ownUpd (ownUpd (fun _ => (0 : Int32)) 0 f1) 1 l1) 1 (own_max l1 l2)) 1 (own_max (own_max l1 l2) l3)) T413.heap n0 (Nat.le_trans Z0 K413.1) FP413_1 FP413_2 FP413_3) hZ (ww 29 rfl) (ww 5 rfl) (by decide) (by decide)) q416a q416c (g := (mkF m 210 #[iv p0, iv p1, iv p2, iv p3, iv p4, iv p5, iv (1114112 : Int32), iv f1, iv l1, iv f2, iv l2, iv f3, iv l3, rv b8, rv b16, iv (1 : Int32), .unset, .unset, .unset, .unset, .unset, .unset, .unset, .unset] [(.ref b16)])) rfl (by rw [hml]; rfl) (Steps.refl _) (argsL := []) (rest := []) (lenOf own_pd6 rfl) rfl (by show 2 * 0 + _ ≤ _; exact Nat.le_of_eq rfl) (hb hby at_210) (fun _ _ => ⟨rfl, rfl, (by decide : 3 + 2 ≤ _), (by decide : 24 + 3 ≤ _)⟩)
          dsimp only [Pt.U, Pt.locs, Pt.cells, Pt.slots] at X416 l416 y416 z416 st416 hQ416
          subst l416 y416 z416
          obtain ⟨b416, ar2_416, rfl, N416q, Kq416, sq416_b416, sq416_ar2_416, FP416_0, FP416_1, FP416_2, hp416⟩ := hQ416
          have N416 := Fr.app N413 N416q
          have K416 : Keep h0 T416.heap [] := K413.trans Kq416 all0
          have ne_b8_b416 : b8 ≠ b416 := Nat.ne_of_lt (Nat.lt_of_lt_of_le F414.lt sq416_b416)
          have ne_b16_b416 : b16 ≠ b416 := Nat.ne_of_lt (Nat.lt_of_lt_of_le FP413_0.lt sq416_b416)
          have ne_ar_20_b416 : ar_20 ≠ b416 := Nat.ne_of_lt (Nat.lt_of_lt_of_le FP413_3.lt sq416_b416)
          have sz_b416 : h0.size ≤ b416 := Nat.le_trans K413.1 sq416_b416
          have G_b416 : n0 ≤ b416 := Nat.le_trans Z0 sz_b416
          have ne_b8_ar2_416 : b8 ≠ ar2_416 := Nat.ne_of_lt (Nat.lt_of_lt_of_le F414.lt sq416_ar2_416)
          have ne_b16_ar2_416 : b16 ≠ ar2_416 := Nat.ne_of_lt (Nat.lt_of_lt_of_le FP413_0.lt sq416_ar2_416)
          have ne_ar_20_ar2_416 : ar_20 ≠ ar2_416 := Nat.ne_of_lt (Nat.lt_of_lt_of_le FP413_3.lt sq416_ar2_416)
          have sz_ar2_416 : h0.size ≤ ar2_416 := Nat.le_trans K413.1 sq416_ar2_416
          have G_ar2_416 : n0 ≤ ar2_416 := Nat.le_trans Z0 sz_ar2_416
          have F417 : ownAI Z T416.heap b8 .int 6 (ownUpd (ownUpd (ownUpd (ownUpd (ownUpd (ownUpd (fun _ => (0 : Int32)) 0 f1) 1 l1) 2 f2) 3 l2) 4 f3) 5 l3) := F414.keep Kq416 nin0
          have F418 : Exa Z T416.heap b16 "com/example/shapewright/shapewright/regex/CodePointSet$Builder" := FP413_0.keep Kq416
          have F419 : Fld Z T416.heap b16 "com/example/shapewright/shapewright/regex/CodePointSet$Builder" "ranges" "[I" (.ref ar_20) := FP413_1.keep Kq416 nin0
          have F420 : Fld Z T416.heap b16 "com/example/shapewright/shapewright/regex/CodePointSet$Builder" "length" "I" (.int (2 : Int32)) := FP413_2.keep Kq416 nin0
          have F421 : ownAI Z T416.heap ar_20 .int 16 (ownUpd (ownUpd (ownUpd (ownUpd (fun _ => (0 : Int32)) 0 f1) 1 l1) 1 (own_max l1 l2)) 1 (own_max (own_max l1 l2) l3)) := FP413_3.keep Kq416 nin0
          refine ownRun (T' := T416) (f' := (mkF m 213 #[iv p0, iv p1, iv p2, iv p3, iv p4, iv p5, iv (1114112 : Int32), iv f1, iv l1, iv f2, iv l2, iv f3, iv l3, rv b8, rv b16, iv (1 : Int32), .unset, .unset, .unset, .unset, .unset, .unset, .unset, .unset] [(.ref b416)])) st416 ?_
          obtain ⟨cq422, kq422, q422a, q422b, q422c⟩ := isOf hZ rfl FP416_0
          obtain ⟨_, _, ⟨T422, L422, k422, n422⟩, -, X422, ⟨Lc422, hQ422, l422, y422, z422⟩, st422⟩ := X416.virtualBack hx (y := (⟨"com/example/shapewright/shapewright/regex/CodePointSet", "edges", "()[I"⟩ : MethodName)) (z := (⟨"com/example/shapewright/shapewright/regex/CodePointSet", "edges", "()[I"⟩ : MethodName)) hown (mvT hZ (ww 50 rfl)) (mvT hZ (ww 51 rfl)) (notFace_of_selects (args := #[]) (mvT hZ (ww 53 rfl))) (mvT hZ (ww 53 rfl)) (mvT hZ (ww 52 rfl)) (by decide) (backOf (W := 0) (rm_edges_2_l l Z av0 hw [] b416 ar2_416 (ownUpd (ownUpd (ownUpd (ownUpd (fun _ => (0 : Int32)) 0 f1) 1 l1) 1 (own_max l1 l2)) 1 (own_max (own_max l1 l2) l3)) T416.heap n0 (Nat.le_trans Z0 K416.1) FP416_1 FP416_2 hmx) hZ (ww 54 rfl) (ww 32 rfl) (by decide) (by decide)) q422a q422c (g := (mkF m 213 #[iv p0, iv p1, iv p2, iv p3, iv p4, iv p5, iv (1114112 : Int32), iv f1, iv l1, iv f2, iv l2, iv f3, iv l3, rv b8, rv b16, iv (1 : Int32), .unset, .unset, .unset, .unset, .unset, .unset, .unset, .unset] [(.ref b416)])) rfl (by rw [hml]; rfl) (Steps.refl _) (argsL := []) (rest := []) (lenOf own_pd7 rfl) rfl (by show 2 * 0 + _ ≤ _; exact Nat.le_of_eq rfl) (hb hby at_213) (fun _ _ => ⟨rfl, rfl, (by decide : 5 + 2 ≤ _), (by decide : 27 + 4 ≤ _)⟩)
          dsimp only [Pt.U, Pt.locs, Pt.cells, Pt.slots] at X422 l422 y422 z422 st422 hQ422
          subst l422 y422 z422
          obtain ⟨b422, rfl, N422q, Kq422, sq422_b422, FP422_0⟩ := hQ422
          have N422 := Fr.app N416 N422q
          have K422 : Keep h0 T422.heap [] := K416.trans Kq422 all0
          have ne_b8_b422 : b8 ≠ b422 := Nat.ne_of_lt (Nat.lt_of_lt_of_le F417.lt sq422_b422)
          have ne_b16_b422 : b16 ≠ b422 := Nat.ne_of_lt (Nat.lt_of_lt_of_le F418.lt sq422_b422)
          have ne_ar_20_b422 : ar_20 ≠ b422 := Nat.ne_of_lt (Nat.lt_of_lt_of_le F421.lt sq422_b422)
          have ne_b416_b422 : b416 ≠ b422 := Nat.ne_of_lt (Nat.lt_of_lt_of_le FP416_0.lt sq422_b422)
          have ne_ar2_416_b422 : ar2_416 ≠ b422 := Nat.ne_of_lt (Nat.lt_of_lt_of_le FP416_2.lt sq422_b422)
          have sz_b422 : h0.size ≤ b422 := Nat.le_trans K416.1 sq422_b422
          have G_b422 : n0 ≤ b422 := Nat.le_trans Z0 sz_b422
          have F423 : ownAI Z T422.heap b8 .int 6 (ownUpd (ownUpd (ownUpd (ownUpd (ownUpd (ownUpd (fun _ => (0 : Int32)) 0 f1) 1 l1) 2 f2) 3 l2) 4 f3) 5 l3) := F417.keep Kq422 nin0
          have F424 : Exa Z T422.heap b16 "com/example/shapewright/shapewright/regex/CodePointSet$Builder" := F418.keep Kq422
          have F425 : Fld Z T422.heap b16 "com/example/shapewright/shapewright/regex/CodePointSet$Builder" "ranges" "[I" (.ref ar_20) := F419.keep Kq422 nin0
          have F426 : Fld Z T422.heap b16 "com/example/shapewright/shapewright/regex/CodePointSet$Builder" "length" "I" (.int (2 : Int32)) := F420.keep Kq422 nin0
          have F427 : ownAI Z T422.heap ar_20 .int 16 (ownUpd (ownUpd (ownUpd (ownUpd (fun _ => (0 : Int32)) 0 f1) 1 l1) 1 (own_max l1 l2)) 1 (own_max (own_max l1 l2) l3)) := F421.keep Kq422 nin0
          have F428 : Exa Z T422.heap b416 "com/example/shapewright/shapewright/regex/CodePointSet" := FP416_0.keep Kq422
          have F429 : Fld Z T422.heap b416 "com/example/shapewright/shapewright/regex/CodePointSet" "ranges" "[I" (.ref ar2_416) := FP416_1.keep Kq422 nin0
          have F430 : ownAI Z T422.heap ar2_416 .int 2 (ownUpd (ownUpd (ownUpd (ownUpd (fun _ => (0 : Int32)) 0 f1) 1 l1) 1 (own_max l1 l2)) 1 (own_max (own_max l1 l2) l3)) := FP416_2.keep Kq422 nin0
          refine ownRun (T' := T422) (f' := (mkF m 216 #[iv p0, iv p1, iv p2, iv p3, iv p4, iv p5, iv (1114112 : Int32), iv f1, iv l1, iv f2, iv l2, iv f3, iv l3, rv b8, rv b16, iv (1 : Int32), .unset, .unset, .unset, .unset, .unset, .unset, .unset, .unset] [(.ref b422)])) st422 ?_
          refine ow_astore (q := 218) X422 hx (L' := #[iv p0, iv p1, iv p2, iv p3, iv p4, iv p5, iv (1114112 : Int32), iv f1, iv l1, iv f2, iv l2, iv f3, iv l3, rv b8, rv b16, iv (1 : Int32), rv b422, .unset, .unset, .unset, .unset, .unset, .unset, .unset]) (hb hby at_216) rfl rfl rfl ?_
          refine ow_iload (q := 220) X422 hx (hb hby at_218) rfl rfl ?_
          refine ow_istore (q := 222) X422 hx (L' := #[iv p0, iv p1, iv p2, iv p3, iv p4, iv p5, iv (1114112 : Int32), iv f1, iv l1, iv f2, iv l2, iv f3, iv l3, rv b8, rv b16, iv (1 : Int32), rv b422, iv f1, .unset, .unset, .unset, .unset, .unset, .unset]) (hb hby at_220) rfl rfl ?_
          refine ow_iload (q := 224) X422 hx (hb hby at_222) rfl rfl ?_
          refine ow_iconst (q := 225) X422 hx (1 : Int32) (hb hby at_224) rfl rfl ?_
          refine ow_iadd (q := 226) X422 hx _ (hb hby at_225) rfl rfl ?_
          generalize hv_v431 : (l1 + (1 : Int32)) = v431
          refine ow_istore (q := 228) X422 hx (L' := #[iv p0, iv p1, iv p2, iv p3, iv p4, iv p5, iv (1114112 : Int32), iv f1, iv l1, iv f2, iv l2, iv f3, iv l3, rv b8, rv b16, iv (1 : Int32), rv b422, iv f1, iv v431, .unset, .unset, .unset, .unset, .unset]) (hb hby at_226) rfl rfl ?_
          refine ow_iload (q := 230) X422 hx (hb hby at_228) rfl rfl ?_
          refine ow_istore (q := 232) X422 hx (L' := #[iv p0, iv p1, iv p2, iv p3, iv p4, iv p5, iv (1114112 : Int32), iv f1, iv l1, iv f2, iv l2, iv f3, iv l3, rv b8, rv b16, iv (1 : Int32), rv b422, iv f1, iv v431, iv f2, .unset, .unset, .unset, .unset]) (hb hby at_230) rfl rfl ?_
          refine ow_iload (q := 234) X422 hx (hb hby at_232) rfl rfl ?_
          refine ow_iconst (q := 235) X422 hx (1 : Int32) (hb hby at_234) rfl rfl ?_
          refine ow_iadd (q := 236) X422 hx _ (hb hby at_235) rfl rfl ?_
          generalize hv_v432 : (l2 + (1 : Int32)) = v432
          refine ow_istore (q := 238) X422 hx (L' := #[iv p0, iv p1, iv p2, iv p3, iv p4, iv p5, iv (1114112 : Int32), iv f1, iv l1, iv f2, iv l2, iv f3, iv l3, rv b8, rv b16, iv (1 : Int32), rv b422, iv f1, iv v431, iv f2, iv v432, .unset, .unset, .unset]) (hb hby at_236) rfl rfl ?_
          refine ow_iload (q := 240) X422 hx (hb hby at_238) rfl rfl ?_
          refine ow_istore (q := 242) X422 hx (L' := #[iv p0, iv p1, iv p2, iv p3, iv p4, iv p5, iv (1114112 : Int32), iv f1, iv l1, iv f2, iv l2, iv f3, iv l3, rv b8, rv b16, iv (1 : Int32), rv b422, iv f1, iv v431, iv f2, iv v432, iv f3, .unset, .unset]) (hb hby at_240) rfl rfl ?_
          refine ow_iload (q := 244) X422 hx (hb hby at_242) rfl rfl ?_
          refine ow_iconst (q := 245) X422 hx (1 : Int32) (hb hby at_244) rfl rfl ?_
          refine ow_iadd (q := 246) X422 hx _ (hb hby at_245) rfl rfl ?_
          generalize hv_v433 : (l3 + (1 : Int32)) = v433
          refine ow_istore (q := 248) X422 hx (L' := #[iv p0, iv p1, iv p2, iv p3, iv p4, iv p5, iv (1114112 : Int32), iv f1, iv l1, iv f2, iv l2, iv f3, iv l3, rv b8, rv b16, iv (1 : Int32), rv b422, iv f1, iv v431, iv f2, iv v432, iv f3, iv v433, .unset]) (hb hby at_246) rfl rfl ?_
          refine ow_iconst (q := 249) X422 hx (0 : Int32) (hb hby at_248) rfl rfl ?_
          refine ow_istore (q := 251) X422 hx (L' := #[iv p0, iv p1, iv p2, iv p3, iv p4, iv p5, iv (1114112 : Int32), iv f1, iv l1, iv f2, iv l2, iv f3, iv l3, rv b8, rv b16, iv (1 : Int32), rv b422, iv f1, iv v431, iv f2, iv v432, iv f3, iv v433, iv (0 : Int32)]) (hb hby at_249) rfl rfl ?_
          have cut434_434 : ∀ (nk6 : Int32) (Tc434 : State) (lc434 : List Loc), Stand p l e room_1 s m #[(.int p0), (.int p1), (.int p2), (.int p3), (.int p4), (.int p5)] below meth c Tc434 lc434 7 31 → Tc434.heap = T422.heap → Fr n0 lc434 → (nk6.toInt = (own_s6 f1 l1 f2 l2 f3 l3 f1 v431 f2 v432 f3 v433) ∧ 0 ≤ nk6.toInt ∧ nk6.toInt ≤ ((6 : Nat) : Int)) → ownEnds p e below s (Q_law Z p0 p1 p2 p3 p4 p5 h0 n0) 24 192 Tc434 (mkF m 434 #[iv p0, iv p1, iv p2, iv p3, iv p4, iv p5, iv (1114112 : Int32), iv f1, iv l1, iv f2, iv l2, iv f3, iv l3, rv b8, rv b16, iv (1 : Int32), rv b422, iv f1, iv v431, iv f2, iv v432, iv f3, iv v433, iv nk6] []) := by
            intro nk6 Tc434 lc434 Xc434 ec434 Nc434 hn6
            refine ow_iload (q := 436) Xc434 hx (hb hby at_434) rfl rfl ?_
            refine ow_ifNo (q := 439) Xc434 hx (hb hby at_436) rfl (Jvm.Free.XT.i0_eq_f (by decide)) ?_
            refine ow_aload (q := 441) Xc434 hx (hb hby at_439) rfl rfl rfl ?_
            refine ownGo (T' := Tc434) (f' := (mkF m 442 #[iv p0, iv p1, iv p2, iv p3, iv p4, iv p5, iv (1114112 : Int32), iv f1, iv l1, iv f2, iv l2, iv f3, iv l3, rv b8, rv b16, iv (1 : Int32), rv b422, iv f1, iv v431, iv f2, iv v432, iv f3, iv v433, iv nk6] [(.int (2 : Int32))])) (ownLenI FP422_0 Xc434 hx hZ ec434 (z := (2 : Int32)) (by decide) (g := (mkF m 441 #[iv p0, iv p1, iv p2, iv p3, iv p4, iv p5, iv (1114112 : Int32), iv f1, iv l1, iv f2, iv l2, iv f3, iv l3, rv b8, rv b16, iv (1 : Int32), rv b422, iv f1, iv v431, iv f2, iv v432, iv f3, iv v433, iv nk6] [(.ref b422)])) rfl rfl (hb hby at_441)) ?_
            refine ow_iload (q := 444) Xc434 hx (hb hby at_442) rfl rfl ?_
            refine ow_icmpNo (q := 447) Xc434 hx (hb hby at_444) rfl (Jvm.Free.XT.ii_ne_f (own_len hn6 (own_total_mml hr hm2 hm3 hmx hv_v431 hv_v432 hv_v433))) ?_
            refine ow_aload (q := 449) Xc434 hx (hb hby at_447) rfl rfl rfl ?_
            refine ow_iconst (q := 450) Xc434 hx (0 : Int32) (hb hby at_449) rfl rfl ?_
            refine ow_aload (q := 452) Xc434 hx (hb hby at_450) rfl rfl rfl ?_
            obtain ⟨_, _, ⟨T435, L435, k435, n435⟩, -, X435, ⟨Lc435, hQ435, l435, y435, z435⟩, st435⟩ := Jvm.LawKit.callS Xc434 hx (y := (⟨"com/example/shapewright/shapewright/regex/BuilderAddPinLaw", "okAt", "([II[I)Z"⟩ : MethodName)) hown (mvT hZ (ww 74 rfl)) (mvT hZ (ww 75 rfl)) (mvT hZ (ww 68 rfl)) (mvT hZ (ww 76 rfl)) (by decide) (backOf (W := 0) (rm_okC l Z av0 hw [] b422 (0 : Int32) b8 2 (2 : Int32) (ownUpd (ownUpd (fun _ => (0 : Int32)) 0 f1) 1 ((own_max (own_max l1 l2) l3) + (1 : Int32))) (ownUpd (ownUpd (ownUpd (ownUpd (ownUpd (ownUpd (fun _ => (0 : Int32)) 0 f1) 1 l1) 2 f2) 3 l2) 4 f3) 5 l3) T422.heap n0 (Nat.le_trans Z0 K422.1) FP422_0 F423 (by decide) (by decide) (by unfold ownIn; decide) (by decide) (by unfold ownIn; decide)) hZ (ww 76 rfl) (ww 68 rfl) (by decide) (by decide)) (g := (mkF m 452 #[iv p0, iv p1, iv p2, iv p3, iv p4, iv p5, iv (1114112 : Int32), iv f1, iv l1, iv f2, iv l2, iv f3, iv l3, rv b8, rv b16, iv (1 : Int32), rv b422, iv f1, iv v431, iv f2, iv v432, iv f3, iv v433, iv nk6] [(.ref b8), (.int (0 : Int32)), (.ref b422)])) rfl (by rw [hml]; rfl) (argsL := [(.ref b422), (.int (0 : Int32)), (.ref b8)]) (rest := []) (lenOf own_pd8 rfl) rfl (by show 2 * 0 + _ ≤ _; exact Nat.le_of_eq rfl) (hb hby at_452) (fun _ _ => ⟨rfl, ec434, (by decide : 7 + 0 ≤ _), (by decide : 31 + 0 ≤ _)⟩)
            dsimp only [Pt.U, Pt.locs, Pt.cells, Pt.slots] at X435 l435 y435 z435 st435 hQ435
            subst l435 y435 z435
            obtain ⟨rfl, N435q, e435⟩ := hQ435
            have N435 := Fr.app Nc434 N435q
            refine ownGo (T' := T435) (f' := (mkF m 455 #[iv p0, iv p1, iv p2, iv p3, iv p4, iv p5, iv (1114112 : Int32), iv f1, iv l1, iv f2, iv l2, iv f3, iv l3, rv b8, rv b16, iv (1 : Int32), rv b422, iv f1, iv v431, iv f2, iv v432, iv f3, iv v433, iv nk6] [(.int (if (own_ch f1 l1 f2 l2 f3 l3 f1) = (0 : Int32) then (0 : Int32) else if f1 < ((own_max (own_max l1 l2) l3) + (1 : Int32)) then (1 : Int32) else (0 : Int32)))])) (st435) ?_
            refine ow_ifNo (q := 458) X435 hx (hb hby at_455) rfl (Jvm.Free.XT.i0_eq_f (own_ok_mml_0 hr hm2 hm3 hmx)) ?_
            refine ow_aload (q := 460) X435 hx (hb hby at_458) rfl rfl rfl ?_
            refine ow_iconst (q := 461) X435 hx (1 : Int32) (hb hby at_460) rfl rfl ?_
            refine ow_aload (q := 463) X435 hx (hb hby at_461) rfl rfl rfl ?_
            obtain ⟨_, _, ⟨T436, L436, k436, n436⟩, -, X436, ⟨Lc436, hQ436, l436, y436, z436⟩, st436⟩ := Jvm.LawKit.callS X435 hx (y := (⟨"com/example/shapewright/shapewright/regex/BuilderAddPinLaw", "okAt", "([II[I)Z"⟩ : MethodName)) hown (mvT hZ (ww 74 rfl)) (mvT hZ (ww 75 rfl)) (mvT hZ (ww 68 rfl)) (mvT hZ (ww 76 rfl)) (by decide) (backOf (W := 0) (rm_okB l Z av0 hw [] b422 (1 : Int32) b8 2 (2 : Int32) (ownUpd (ownUpd (fun _ => (0 : Int32)) 0 f1) 1 ((own_max (own_max l1 l2) l3) + (1 : Int32))) (ownUpd (ownUpd (ownUpd (ownUpd (ownUpd (ownUpd (fun _ => (0 : Int32)) 0 f1) 1 l1) 2 f2) 3 l2) 4 f3) 5 l3) T422.heap n0 (Nat.le_trans Z0 K422.1) FP422_0 F423 (by decide) (by decide) (by unfold ownIn; decide) (by decide)) hZ (ww 76 rfl) (ww 68 rfl) (by decide) (by decide)) (g := (mkF m 463 #[iv p0, iv p1, iv p2, iv p3, iv p4, iv p5, iv (1114112 : Int32), iv f1, iv l1, iv f2, iv l2, iv f3, iv l3, rv b8, rv b16, iv (1 : Int32), rv b422, iv f1, iv v431, iv f2, iv v432, iv f3, iv v433, iv nk6] [(.ref b8), (.int (1 : Int32)), (.ref b422)])) rfl (by rw [hml]; rfl) (argsL := [(.ref b422), (.int (1 : Int32)), (.ref b8)]) (rest := []) (lenOf own_pd8 rfl) rfl (by show 2 * 0 + _ ≤ _; exact Nat.le_of_eq rfl) (hb hby at_463) (fun _ _ => ⟨rfl, e435, (by decide : 7 + 0 ≤ _), (by decide : 31 + 0 ≤ _)⟩)
            dsimp only [Pt.U, Pt.locs, Pt.cells, Pt.slots] at X436 l436 y436 z436 st436 hQ436
            subst l436 y436 z436
            obtain ⟨rfl, N436q, e436⟩ := hQ436
            have N436 := Fr.app N435 N436q
            refine ownGo (T' := T436) (f' := (mkF m 466 #[iv p0, iv p1, iv p2, iv p3, iv p4, iv p5, iv (1114112 : Int32), iv f1, iv l1, iv f2, iv l2, iv f3, iv l3, rv b8, rv b16, iv (1 : Int32), rv b422, iv f1, iv v431, iv f2, iv v432, iv f3, iv v433, iv nk6] [(.int (if (own_ch f1 l1 f2 l2 f3 l3 ((own_max (own_max l1 l2) l3) + (1 : Int32))) = (0 : Int32) then (0 : Int32) else (1 : Int32)))])) (st436) ?_
            refine ow_ifNo (q := 469) X436 hx (hb hby at_466) rfl (Jvm.Free.XT.i0_eq_f (own_ok_mml_1 hr hm2 hm3 hmx)) ?_
            refine ow_aload (q := 471) X436 hx (hb hby at_469) rfl rfl rfl ?_
            refine ow_iconst (q := 472) X436 hx (2 : Int32) (hb hby at_471) rfl rfl ?_
            refine ow_aload (q := 474) X436 hx (hb hby at_472) rfl rfl rfl ?_
            obtain ⟨_, _, ⟨T437, L437, k437, n437⟩, -, X437, ⟨Lc437, hQ437, l437, y437, z437⟩, st437⟩ := Jvm.LawKit.callS X436 hx (y := (⟨"com/example/shapewright/shapewright/regex/BuilderAddPinLaw", "okAt", "([II[I)Z"⟩ : MethodName)) hown (mvT hZ (ww 74 rfl)) (mvT hZ (ww 75 rfl)) (mvT hZ (ww 68 rfl)) (mvT hZ (ww 76 rfl)) (by decide) (backOf (W := 0) (rm_okA l Z av0 hw [] b422 (2 : Int32) b8 2 (2 : Int32) (ownUpd (ownUpd (fun _ => (0 : Int32)) 0 f1) 1 ((own_max (own_max l1 l2) l3) + (1 : Int32))) (ownUpd (ownUpd (ownUpd (ownUpd (ownUpd (ownUpd (fun _ => (0 : Int32)) 0 f1) 1 l1) 2 f2) 3 l2) 4 f3) 5 l3) T422.heap n0 (Nat.le_trans Z0 K422.1) FP422_0 F423 (by decide) (by decide)) hZ (ww 76 rfl) (ww 68 rfl) (by decide) (by decide)) (g := (mkF m 474 #[iv p0, iv p1, iv p2, iv p3, iv p4, iv p5, iv (1114112 : Int32), iv f1, iv l1, iv f2, iv l2, iv f3, iv l3, rv b8, rv b16, iv (1 : Int32), rv b422, iv f1, iv v431, iv f2, iv v432, iv f3, iv v433, iv nk6] [(.ref b8), (.int (2 : Int32)), (.ref b422)])) rfl (by rw [hml]; rfl) (argsL := [(.ref b422), (.int (2 : Int32)), (.ref b8)]) (rest := []) (lenOf own_pd8 rfl) rfl (by show 2 * 0 + _ ≤ _; exact Nat.le_of_eq rfl) (hb hby at_474) (fun _ _ => ⟨rfl, e436, (by decide : 7 + 0 ≤ _), (by decide : 31 + 0 ≤ _)⟩)
            dsimp only [Pt.U, Pt.locs, Pt.cells, Pt.slots] at X437 l437 y437 z437 st437 hQ437
            subst l437 y437 z437
            obtain ⟨rfl, N437q, e437⟩ := hQ437
            have N437 := Fr.app N436 N437q
            refine ownGo (T' := T437) (f' := (mkF m 477 #[iv p0, iv p1, iv p2, iv p3, iv p4, iv p5, iv (1114112 : Int32), iv f1, iv l1, iv f2, iv l2, iv f3, iv l3, rv b8, rv b16, iv (1 : Int32), rv b422, iv f1, iv v431, iv f2, iv v432, iv f3, iv v433, iv nk6] [(.int (1 : Int32))])) (st437) ?_
            refine ow_ifNo (q := 480) X437 hx (hb hby at_477) rfl (Jvm.Free.XT.i0_eq_f (by decide)) ?_
            refine ow_aload (q := 482) X437 hx (hb hby at_480) rfl rfl rfl ?_
            refine ow_iconst (q := 483) X437 hx (3 : Int32) (hb hby at_482) rfl rfl ?_
            refine ow_aload (q := 485) X437 hx (hb hby at_483) rfl rfl rfl ?_
            obtain ⟨_, _, ⟨T438, L438, k438, n438⟩, -, X438, ⟨Lc438, hQ438, l438, y438, z438⟩, st438⟩ := Jvm.LawKit.callS X437 hx (y := (⟨"com/example/shapewright/shapewright/regex/BuilderAddPinLaw", "okAt", "([II[I)Z"⟩ : MethodName)) hown (mvT hZ (ww 74 rfl)) (mvT hZ (ww 75 rfl)) (mvT hZ (ww 68 rfl)) (mvT hZ (ww 76 rfl)) (by decide) (backOf (W := 0) (rm_okA l Z av0 hw [] b422 (3 : Int32) b8 2 (2 : Int32) (ownUpd (ownUpd (fun _ => (0 : Int32)) 0 f1) 1 ((own_max (own_max l1 l2) l3) + (1 : Int32))) (ownUpd (ownUpd (ownUpd (ownUpd (ownUpd (ownUpd (fun _ => (0 : Int32)) 0 f1) 1 l1) 2 f2) 3 l2) 4 f3) 5 l3) T422.heap n0 (Nat.le_trans Z0 K422.1) FP422_0 F423 (by decide) (by decide)) hZ (ww 76 rfl) (ww 68 rfl) (by decide) (by decide)) (g := (mkF m 485 #[iv p0, iv p1, iv p2, iv p3, iv p4, iv p5, iv (1114112 : Int32), iv f1, iv l1, iv f2, iv l2, iv f3, iv l3, rv b8, rv b16, iv (1 : Int32), rv b422, iv f1, iv v431, iv f2, iv v432, iv f3, iv v433, iv nk6] [(.ref b8), (.int (3 : Int32)), (.ref b422)])) rfl (by rw [hml]; rfl) (argsL := [(.ref b422), (.int (3 : Int32)), (.ref b8)]) (rest := []) (lenOf own_pd8 rfl) rfl (by show 2 * 0 + _ ≤ _; exact Nat.le_of_eq rfl) (hb hby at_485) (fun _ _ => ⟨rfl, e437, (by decide : 7 + 0 ≤ _), (by decide : 31 + 0 ≤ _)⟩)
            dsimp only [Pt.U, Pt.locs, Pt.cells, Pt.slots] at X438 l438 y438 z438 st438 hQ438
            subst l438 y438 z438
            obtain ⟨rfl, N438q, e438⟩ := hQ438
            have N438 := Fr.app N437 N438q
            refine ownGo (T' := T438) (f' := (mkF m 488 #[iv p0, iv p1, iv p2, iv p3, iv p4, iv p5, iv (1114112 : Int32), iv f1, iv l1, iv f2, iv l2, iv f3, iv l3, rv b8, rv b16, iv (1 : Int32), rv b422, iv f1, iv v431, iv f2, iv v432, iv f3, iv v433, iv nk6] [(.int (1 : Int32))])) (st438) ?_
            refine ow_ifNo (q := 491) X438 hx (hb hby at_488) rfl (Jvm.Free.XT.i0_eq_f (by decide)) ?_
            refine ow_aload (q := 493) X438 hx (hb hby at_491) rfl rfl rfl ?_
            refine ow_iconst (q := 494) X438 hx (4 : Int32) (hb hby at_493) rfl rfl ?_
            refine ow_aload (q := 496) X438 hx (hb hby at_494) rfl rfl rfl ?_
            obtain ⟨_, _, ⟨T439, L439, k439, n439⟩, -, X439, ⟨Lc439, hQ439, l439, y439, z439⟩, st439⟩ := Jvm.LawKit.callS X438 hx (y := (⟨"com/example/shapewright/shapewright/regex/BuilderAddPinLaw", "okAt", "([II[I)Z"⟩ : MethodName)) hown (mvT hZ (ww 74 rfl)) (mvT hZ (ww 75 rfl)) (mvT hZ (ww 68 rfl)) (mvT hZ (ww 76 rfl)) (by decide) (backOf (W := 0) (rm_okA l Z av0 hw [] b422 (4 : Int32) b8 2 (2 : Int32) (ownUpd (ownUpd (fun _ => (0 : Int32)) 0 f1) 1 ((own_max (own_max l1 l2) l3) + (1 : Int32))) (ownUpd (ownUpd (ownUpd (ownUpd (ownUpd (ownUpd (fun _ => (0 : Int32)) 0 f1) 1 l1) 2 f2) 3 l2) 4 f3) 5 l3) T422.heap n0 (Nat.le_trans Z0 K422.1) FP422_0 F423 (by decide) (by decide)) hZ (ww 76 rfl) (ww 68 rfl) (by decide) (by decide)) (g := (mkF m 496 #[iv p0, iv p1, iv p2, iv p3, iv p4, iv p5, iv (1114112 : Int32), iv f1, iv l1, iv f2, iv l2, iv f3, iv l3, rv b8, rv b16, iv (1 : Int32), rv b422, iv f1, iv v431, iv f2, iv v432, iv f3, iv v433, iv nk6] [(.ref b8), (.int (4 : Int32)), (.ref b422)])) rfl (by rw [hml]; rfl) (argsL := [(.ref b422), (.int (4 : Int32)), (.ref b8)]) (rest := []) (lenOf own_pd8 rfl) rfl (by show 2 * 0 + _ ≤ _; exact Nat.le_of_eq rfl) (hb hby at_496) (fun _ _ => ⟨rfl, e438, (by decide : 7 + 0 ≤ _), (by decide : 31 + 0 ≤ _)⟩)
            dsimp only [Pt.U, Pt.locs, Pt.cells, Pt.slots] at X439 l439 y439 z439 st439 hQ439
            subst l439 y439 z439
            obtain ⟨rfl, N439q, e439⟩ := hQ439
            have N439 := Fr.app N438 N439q
            refine ownGo (T' := T439) (f' := (mkF m 499 #[iv p0, iv p1, iv p2, iv p3, iv p4, iv p5, iv (1114112 : Int32), iv f1, iv l1, iv f2, iv l2, iv f3, iv l3, rv b8, rv b16, iv (1 : Int32), rv b422, iv f1, iv v431, iv f2, iv v432, iv f3, iv v433, iv nk6] [(.int (1 : Int32))])) (st439) ?_
            refine ow_ifNo (q := 502) X439 hx (hb hby at_499) rfl (Jvm.Free.XT.i0_eq_f (by decide)) ?_
            refine ow_aload (q := 504) X439 hx (hb hby at_502) rfl rfl rfl ?_
            refine ow_iconst (q := 505) X439 hx (5 : Int32) (hb hby at_504) rfl rfl ?_
            refine ow_aload (q := 507) X439 hx (hb hby at_505) rfl rfl rfl ?_
            obtain ⟨_, _, ⟨T440, L440, k440, n440⟩, -, X440, ⟨Lc440, hQ440, l440, y440, z440⟩, st440⟩ := Jvm.LawKit.callS X439 hx (y := (⟨"com/example/shapewright/shapewright/regex/BuilderAddPinLaw", "okAt", "([II[I)Z"⟩ : MethodName)) hown (mvT hZ (ww 74 rfl)) (mvT hZ (ww 75 rfl)) (mvT hZ (ww 68 rfl)) (mvT hZ (ww 76 rfl)) (by decide) (backOf (W := 0) (rm_okA l Z av0 hw [] b422 (5 : Int32) b8 2 (2 : Int32) (ownUpd (ownUpd (fun _ => (0 : Int32)) 0 f1) 1 ((own_max (own_max l1 l2) l3) + (1 : Int32))) (ownUpd (ownUpd (ownUpd (ownUpd (ownUpd (ownUpd (fun _ => (0 : Int32)) 0 f1) 1 l1) 2 f2) 3 l2) 4 f3) 5 l3) T422.heap n0 (Nat.le_trans Z0 K422.1) FP422_0 F423 (by decide) (by decide)) hZ (ww 76 rfl) (ww 68 rfl) (by decide) (by decide)) (g := (mkF m 507 #[iv p0, iv p1, iv p2, iv p3, iv p4, iv p5, iv (1114112 : Int32), iv f1, iv l1, iv f2, iv l2, iv f3, iv l3, rv b8, rv b16, iv (1 : Int32), rv b422, iv f1, iv v431, iv f2, iv v432, iv f3, iv v433, iv nk6] [(.ref b8), (.int (5 : Int32)), (.ref b422)])) rfl (by rw [hml]; rfl) (argsL := [(.ref b422), (.int (5 : Int32)), (.ref b8)]) (rest := []) (lenOf own_pd8 rfl) rfl (by show 2 * 0 + _ ≤ _; exact Nat.le_of_eq rfl) (hb hby at_507) (fun _ _ => ⟨rfl, e439, (by decide : 7 + 0 ≤ _), (by decide : 31 + 0 ≤ _)⟩)
            dsimp only [Pt.U, Pt.locs, Pt.cells, Pt.slots] at X440 l440 y440 z440 st440 hQ440
            subst l440 y440 z440
            obtain ⟨rfl, N440q, e440⟩ := hQ440
            have N440 := Fr.app N439 N440q
            refine ownGo (T' := T440) (f' := (mkF m 510 #[iv p0, iv p1, iv p2, iv p3, iv p4, iv p5, iv (1114112 : Int32), iv f1, iv l1, iv f2, iv l2, iv f3, iv l3, rv b8, rv b16, iv (1 : Int32), rv b422, iv f1, iv v431, iv f2, iv v432, iv f3, iv v433, iv nk6] [(.int (1 : Int32))])) (st440) ?_
            refine ow_ifNo (q := 513) X440 hx (hb hby at_510) rfl (Jvm.Free.XT.i0_eq_f (by decide)) ?_
            refine ow_iconst (q := 514) X440 hx (1 : Int32) (hb hby at_513) rfl rfl ?_
            refine ow_goto (q := 518) X440 hx (hb hby at_514) (by decide) (by decide) ?_
            refine ownRetN X440 hx (r := (1 : Int32)) (Or.inl rfl) Bd.returns (hb hby at_518) hlk (by decide) (by decide) (by decide) ?_
            exact ⟨rfl, N440⟩
          have cut386_441 : ∀ (nk5 : Int32) (Tc441 : State) (lc441 : List Loc), Stand p l e room_1 s m #[(.int p0), (.int p1), (.int p2), (.int p3), (.int p4), (.int p5)] below meth c Tc441 lc441 7 31 → Tc441.heap = T422.heap → Fr n0 lc441 → (nk5.toInt = (own_s5 f1 l1 f2 l2 f3 l3 f1 v431 f2 v432 f3) ∧ 0 ≤ nk5.toInt ∧ nk5.toInt ≤ ((5 : Nat) : Int)) → ownEnds p e below s (Q_law Z p0 p1 p2 p3 p4 p5 h0 n0) 24 192 Tc441 (mkF m 386 #[iv p0, iv p1, iv p2, iv p3, iv p4, iv p5, iv (1114112 : Int32), iv f1, iv l1, iv f2, iv l2, iv f3, iv l3, rv b8, rv b16, iv (1 : Int32), rv b422, iv f1, iv v431, iv f2, iv v432, iv f3, iv v433, iv nk5] []) := by
            intro nk5 Tc441 lc441 Xc441 ec441 Nc441 hn5
            refine ow_aload (q := 388) Xc441 hx (hb hby at_386) rfl rfl rfl ?_
            refine ow_iload (q := 390) Xc441 hx (hb hby at_388) rfl rfl ?_
            obtain ⟨_, _, ⟨T442, L442, k442, n442⟩, -, X442, ⟨Lc442, hQ442, l442, y442, z442⟩, st442⟩ := Jvm.LawKit.callS Xc441 hx (y := (⟨"com/example/shapewright/shapewright/regex/BuilderAddPinLaw", "ch", "([II)Z"⟩ : MethodName)) hown (mvT hZ (ww 66 rfl)) (mvT hZ (ww 67 rfl)) (mvT hZ (ww 68 rfl)) (mvT hZ (ww 69 rfl)) (by decide) (backOf (W := 0) (rm_ch l Z av0 hw [] b8 v433 (ownUpd (ownUpd (ownUpd (ownUpd (ownUpd (ownUpd (fun _ => (0 : Int32)) 0 f1) 1 l1) 2 f2) 3 l2) 4 f3) 5 l3) T422.heap n0 (Nat.le_trans Z0 K422.1) F423) hZ (ww 69 rfl) (ww 68 rfl) (by decide) (by decide)) (g := (mkF m 390 #[iv p0, iv p1, iv p2, iv p3, iv p4, iv p5, iv (1114112 : Int32), iv f1, iv l1, iv f2, iv l2, iv f3, iv l3, rv b8, rv b16, iv (1 : Int32), rv b422, iv f1, iv v431, iv f2, iv v432, iv f3, iv v433, iv nk5] [(.int v433), (.ref b8)])) rfl (by rw [hml]; rfl) (argsL := [(.ref b8), (.int v433)]) (rest := []) (lenOf own_pd3 rfl) rfl (by show 2 * 0 + _ ≤ _; exact Nat.le_of_eq rfl) (hb hby at_390) (fun _ _ => ⟨rfl, ec441, (by decide : 7 + 0 ≤ _), (by decide : 31 + 0 ≤ _)⟩)
            dsimp only [Pt.U, Pt.locs, Pt.cells, Pt.slots] at X442 l442 y442 z442 st442 hQ442
            subst l442 y442 z442
            obtain ⟨rfl, N442q, e442⟩ := hQ442
            have N442 := Fr.app Nc441 N442q
            refine ownGo (T' := T442) (f' := (mkF m 393 #[iv p0, iv p1, iv p2, iv p3, iv p4, iv p5, iv (1114112 : Int32), iv f1, iv l1, iv f2, iv l2, iv f3, iv l3, rv b8, rv b16, iv (1 : Int32), rv b422, iv f1, iv v431, iv f2, iv v432, iv f3, iv v433, iv nk5] [(.int (own_ch f1 l1 f2 l2 f3 l3 v433))])) (st442) ?_
            by_cases hc393_443 : (own_ch f1 l1 f2 l2 f3 l3 v433) = (0 : Int32)
            · refine ow_ifYes (q := 434) X442 hx (hb hby at_393) (Jvm.Free.XT.i0_eq_t hc393_443) (by decide) (by decide) ?_
              exact cut434_434 nk5 _ _ X442 e442 N442 (own_nk0 (k := 5) hn5 (by simp [hc393_443]))
            · refine ow_ifNo (q := 396) X442 hx (hb hby at_393) rfl (Jvm.Free.XT.i0_eq_f hc393_443) ?_
              refine ow_iload (q := 398) X442 hx (hb hby at_396) rfl rfl ?_
              refine ow_iload (q := 400) X442 hx (hb hby at_398) rfl rfl ?_
              by_cases hc400_444 : v433 = f1
              · refine ow_icmpYes (q := 434) X442 hx (hb hby at_400) (Jvm.Free.XT.ii_eq_t hc400_444) (by decide) (by decide) ?_
                exact cut434_434 nk5 _ _ X442 e442 N442 (own_nk0 (k := 5) hn5 (Or.inr (by simp [hc400_444])))
              · refine ow_icmpNo (q := 403) X442 hx (hb hby at_400) rfl (Jvm.Free.XT.ii_eq_f hc400_444) ?_
                refine ow_iload (q := 405) X442 hx (hb hby at_403) rfl rfl ?_
                refine ow_iload (q := 407) X442 hx (hb hby at_405) rfl rfl ?_
                by_cases hc407_445 : v433 = v431
                · refine ow_icmpYes (q := 434) X442 hx (hb hby at_407) (Jvm.Free.XT.ii_eq_t hc407_445) (by decide) (by decide) ?_
                  exact cut434_434 nk5 _ _ X442 e442 N442 (own_nk0 (k := 5) hn5 (Or.inr (by simp [hc407_445])))
                · refine ow_icmpNo (q := 410) X442 hx (hb hby at_407) rfl (Jvm.Free.XT.ii_eq_f hc407_445) ?_
                  refine ow_iload (q := 412) X442 hx (hb hby at_410) rfl rfl ?_
                  refine ow_iload (q := 414) X442 hx (hb hby at_412) rfl rfl ?_
                  by_cases hc414_446 : v433 = f2
                  · refine ow_icmpYes (q := 434) X442 hx (hb hby at_414) (Jvm.Free.XT.ii_eq_t hc414_446) (by decide) (by decide) ?_
                    exact cut434_434 nk5 _ _ X442 e442 N442 (own_nk0 (k := 5) hn5 (Or.inr (by simp [hc414_446])))
                  · refine ow_icmpNo (q := 417) X442 hx (hb hby at_414) rfl (Jvm.Free.XT.ii_eq_f hc414_446) ?_
                    refine ow_iload (q := 419) X442 hx (hb hby at_417) rfl rfl ?_
                    refine ow_iload (q := 421) X442 hx (hb hby at_419) rfl rfl ?_
                    by_cases hc421_447 : v433 = v432
                    · refine ow_icmpYes (q := 434) X442 hx (hb hby at_421) (Jvm.Free.XT.ii_eq_t hc421_447) (by decide) (by decide) ?_
                      exact cut434_434 nk5 _ _ X442 e442 N442 (own_nk0 (k := 5) hn5 (Or.inr (by simp [hc421_447])))
                    · refine ow_icmpNo (q := 424) X442 hx (hb hby at_421) rfl (Jvm.Free.XT.ii_eq_f hc421_447) ?_
                      refine ow_iload (q := 426) X442 hx (hb hby at_424) rfl rfl ?_
                      refine ow_iload (q := 428) X442 hx (hb hby at_426) rfl rfl ?_
                      by_cases hc428_448 : v433 = f3
                      · refine ow_icmpYes (q := 434) X442 hx (hb hby at_428) (Jvm.Free.XT.ii_eq_t hc428_448) (by decide) (by decide) ?_
                        exact cut434_434 nk5 _ _ X442 e442 N442 (own_nk0 (k := 5) hn5 (Or.inr (by simp [hc428_448])))
                      · refine ow_icmpNo (q := 431) X442 hx (hb hby at_428) rfl (Jvm.Free.XT.ii_eq_f hc428_448) ?_
                        refine ow_iinc (q := 434) X442 hx (L' := #[iv p0, iv p1, iv p2, iv p3, iv p4, iv p5, iv (1114112 : Int32), iv f1, iv l1, iv f2, iv l2, iv f3, iv l3, rv b8, rv b16, iv (1 : Int32), rv b422, iv f1, iv v431, iv f2, iv v432, iv f3, iv v433, iv (nk5 + (1 : Int32))]) (hb hby at_431) rfl rfl rfl ?_
                        generalize hv_v449 : (nk5 + (1 : Int32)) = v449
                        exact cut434_434 v449 _ _ X442 e442 N442 (own_nk1 (k := 5) hn5 hv_v449 (by simp [hc393_443, hc400_444, hc407_445, hc414_446, hc421_447, hc428_448]))
          have cut345_450 : ∀ (nk4 : Int32) (Tc450 : State) (lc450 : List Loc), Stand p l e room_1 s m #[(.int p0), (.int p1), (.int p2), (.int p3), (.int p4), (.int p5)] below meth c Tc450 lc450 7 31 → Tc450.heap = T422.heap → Fr n0 lc450 → (nk4.toInt = (own_s4 f1 l1 f2 l2 f3 l3 f1 v431 f2 v432) ∧ 0 ≤ nk4.toInt ∧ nk4.toInt ≤ ((4 : Nat) : Int)) → ownEnds p e below s (Q_law Z p0 p1 p2 p3 p4 p5 h0 n0) 24 192 Tc450 (mkF m 345 #[iv p0, iv p1, iv p2, iv p3, iv p4, iv p5, iv (1114112 : Int32), iv f1, iv l1, iv f2, iv l2, iv f3, iv l3, rv b8, rv b16, iv (1 : Int32), rv b422, iv f1, iv v431, iv f2, iv v432, iv f3, iv v433, iv nk4] []) := by
            intro nk4 Tc450 lc450 Xc450 ec450 Nc450 hn4
            refine ow_aload (q := 347) Xc450 hx (hb hby at_345) rfl rfl rfl ?_
            refine ow_iload (q := 349) Xc450 hx (hb hby at_347) rfl rfl ?_
            obtain ⟨_, _, ⟨T451, L451, k451, n451⟩, -, X451, ⟨Lc451, hQ451, l451, y451, z451⟩, st451⟩ := Jvm.LawKit.callS Xc450 hx (y := (⟨"com/example/shapewright/shapewright/regex/BuilderAddPinLaw", "ch", "([II)Z"⟩ : MethodName)) hown (mvT hZ (ww 66 rfl)) (mvT hZ (ww 67 rfl)) (mvT hZ (ww 68 rfl)) (mvT hZ (ww 69 rfl)) (by decide) (backOf (W := 0) (rm_ch l Z av0 hw [] b8 f3 (ownUpd (ownUpd (ownUpd (ownUpd (ownUpd (ownUpd (fun _ => (0 : Int32)) 0 f1) 1 l1) 2 f2) 3 l2) 4 f3) 5 l3) T422.heap n0 (Nat.le_trans Z0 K422.1) F423) hZ (ww 69 rfl) (ww 68 rfl) (by decide) (by decide)) (g := (mkF m 349 #[iv p0, iv p1, iv p2, iv p3, iv p4, iv p5, iv (1114112 : Int32), iv f1, iv l1, iv f2, iv l2, iv f3, iv l3, rv b8, rv b16, iv (1 : Int32), rv b422, iv f1, iv v431, iv f2, iv v432, iv f3, iv v433, iv nk4] [(.int f3), (.ref b8)])) rfl (by rw [hml]; rfl) (argsL := [(.ref b8), (.int f3)]) (rest := []) (lenOf own_pd3 rfl) rfl (by show 2 * 0 + _ ≤ _; exact Nat.le_of_eq rfl) (hb hby at_349) (fun _ _ => ⟨rfl, ec450, (by decide : 7 + 0 ≤ _), (by decide : 31 + 0 ≤ _)⟩)
            dsimp only [Pt.U, Pt.locs, Pt.cells, Pt.slots] at X451 l451 y451 z451 st451 hQ451
            subst l451 y451 z451
            obtain ⟨rfl, N451q, e451⟩ := hQ451
            have N451 := Fr.app Nc450 N451q
            refine ownGo (T' := T451) (f' := (mkF m 352 #[iv p0, iv p1, iv p2, iv p3, iv p4, iv p5, iv (1114112 : Int32), iv f1, iv l1, iv f2, iv l2, iv f3, iv l3, rv b8, rv b16, iv (1 : Int32), rv b422, iv f1, iv v431, iv f2, iv v432, iv f3, iv v433, iv nk4] [(.int (own_ch f1 l1 f2 l2 f3 l3 f3))])) (st451) ?_
            by_cases hc352_452 : (own_ch f1 l1 f2 l2 f3 l3 f3) = (0 : Int32)
            · refine ow_ifYes (q := 386) X451 hx (hb hby at_352) (Jvm.Free.XT.i0_eq_t hc352_452) (by decide) (by decide) ?_
              exact cut386_441 nk4 _ _ X451 e451 N451 (own_nk0 (k := 4) hn4 (by simp [hc352_452]))
            · refine ow_ifNo (q := 355) X451 hx (hb hby at_352) rfl (Jvm.Free.XT.i0_eq_f hc352_452) ?_
              refine ow_iload (q := 357) X451 hx (hb hby at_355) rfl rfl ?_
              refine ow_iload (q := 359) X451 hx (hb hby at_357) rfl rfl ?_
              by_cases hc359_453 : f3 = f1
              · refine ow_icmpYes (q := 386) X451 hx (hb hby at_359) (Jvm.Free.XT.ii_eq_t hc359_453) (by decide) (by decide) ?_
                exact cut386_441 nk4 _ _ X451 e451 N451 (own_nk0 (k := 4) hn4 (Or.inr (by simp [hc359_453])))
              · refine ow_icmpNo (q := 362) X451 hx (hb hby at_359) rfl (Jvm.Free.XT.ii_eq_f hc359_453) ?_
                refine ow_iload (q := 364) X451 hx (hb hby at_362) rfl rfl ?_
                refine ow_iload (q := 366) X451 hx (hb hby at_364) rfl rfl ?_
                by_cases hc366_454 : f3 = v431
                · refine ow_icmpYes (q := 386) X451 hx (hb hby at_366) (Jvm.Free.XT.ii_eq_t hc366_454) (by decide) (by decide) ?_
                  exact cut386_441 nk4 _ _ X451 e451 N451 (own_nk0 (k := 4) hn4 (Or.inr (by simp [hc366_454])))
                · refine ow_icmpNo (q := 369) X451 hx (hb hby at_366) rfl (Jvm.Free.XT.ii_eq_f hc366_454) ?_
                  refine ow_iload (q := 371) X451 hx (hb hby at_369) rfl rfl ?_
                  refine ow_iload (q := 373) X451 hx (hb hby at_371) rfl rfl ?_
                  by_cases hc373_455 : f3 = f2
                  · refine ow_icmpYes (q := 386) X451 hx (hb hby at_373) (Jvm.Free.XT.ii_eq_t hc373_455) (by decide) (by decide) ?_
                    exact cut386_441 nk4 _ _ X451 e451 N451 (own_nk0 (k := 4) hn4 (Or.inr (by simp [hc373_455])))
                  · refine ow_icmpNo (q := 376) X451 hx (hb hby at_373) rfl (Jvm.Free.XT.ii_eq_f hc373_455) ?_
                    refine ow_iload (q := 378) X451 hx (hb hby at_376) rfl rfl ?_
                    refine ow_iload (q := 380) X451 hx (hb hby at_378) rfl rfl ?_
                    by_cases hc380_456 : f3 = v432
                    · refine ow_icmpYes (q := 386) X451 hx (hb hby at_380) (Jvm.Free.XT.ii_eq_t hc380_456) (by decide) (by decide) ?_
                      exact cut386_441 nk4 _ _ X451 e451 N451 (own_nk0 (k := 4) hn4 (Or.inr (by simp [hc380_456])))
                    · refine ow_icmpNo (q := 383) X451 hx (hb hby at_380) rfl (Jvm.Free.XT.ii_eq_f hc380_456) ?_
                      refine ow_iinc (q := 386) X451 hx (L' := #[iv p0, iv p1, iv p2, iv p3, iv p4, iv p5, iv (1114112 : Int32), iv f1, iv l1, iv f2, iv l2, iv f3, iv l3, rv b8, rv b16, iv (1 : Int32), rv b422, iv f1, iv v431, iv f2, iv v432, iv f3, iv v433, iv (nk4 + (1 : Int32))]) (hb hby at_383) rfl rfl rfl ?_
                      generalize hv_v457 : (nk4 + (1 : Int32)) = v457
                      exact cut386_441 v457 _ _ X451 e451 N451 (own_nk1 (k := 4) hn4 hv_v457 (by simp [hc352_452, hc359_453, hc366_454, hc373_455, hc380_456]))
          have cut311_458 : ∀ (nk3 : Int32) (Tc458 : State) (lc458 : List Loc), Stand p l e room_1 s m #[(.int p0), (.int p1), (.int p2), (.int p3), (.int p4), (.int p5)] below meth c Tc458 lc458 7 31 → Tc458.heap = T422.heap → Fr n0 lc458 → (nk3.toInt = (own_s3 f1 l1 f2 l2 f3 l3 f1 v431 f2) ∧ 0 ≤ nk3.toInt ∧ nk3.toInt ≤ ((3 : Nat) : Int)) → ownEnds p e below s (Q_law Z p0 p1 p2 p3 p4 p5 h0 n0) 24 192 Tc458 (mkF m 311 #[iv p0, iv p1, iv p2, iv p3, iv p4, iv p5, iv (1114112 : Int32), iv f1, iv l1, iv f2, iv l2, iv f3, iv l3, rv b8, rv b16, iv (1 : Int32), rv b422, iv f1, iv v431, iv f2, iv v432, iv f3, iv v433, iv nk3] []) := by
            intro nk3 Tc458 lc458 Xc458 ec458 Nc458 hn3
            refine ow_aload (q := 313) Xc458 hx (hb hby at_311) rfl rfl rfl ?_
            refine ow_iload (q := 315) Xc458 hx (hb hby at_313) rfl rfl ?_
            obtain ⟨_, _, ⟨T459, L459, k459, n459⟩, -, X459, ⟨Lc459, hQ459, l459, y459, z459⟩, st459⟩ := Jvm.LawKit.callS Xc458 hx (y := (⟨"com/example/shapewright/shapewright/regex/BuilderAddPinLaw", "ch", "([II)Z"⟩ : MethodName)) hown (mvT hZ (ww 66 rfl)) (mvT hZ (ww 67 rfl)) (mvT hZ (ww 68 rfl)) (mvT hZ (ww 69 rfl)) (by decide) (backOf (W := 0) (rm_ch l Z av0 hw [] b8 v432 (ownUpd (ownUpd (ownUpd (ownUpd (ownUpd (ownUpd (fun _ => (0 : Int32)) 0 f1) 1 l1) 2 f2) 3 l2) 4 f3) 5 l3) T422.heap n0 (Nat.le_trans Z0 K422.1) F423) hZ (ww 69 rfl) (ww 68 rfl) (by decide) (by decide)) (g := (mkF m 315 #[iv p0, iv p1, iv p2, iv p3, iv p4, iv p5, iv (1114112 : Int32), iv f1, iv l1, iv f2, iv l2, iv f3, iv l3, rv b8, rv b16, iv (1 : Int32), rv b422, iv f1, iv v431, iv f2, iv v432, iv f3, iv v433, iv nk3] [(.int v432), (.ref b8)])) rfl (by rw [hml]; rfl) (argsL := [(.ref b8), (.int v432)]) (rest := []) (lenOf own_pd3 rfl) rfl (by show 2 * 0 + _ ≤ _; exact Nat.le_of_eq rfl) (hb hby at_315) (fun _ _ => ⟨rfl, ec458, (by decide : 7 + 0 ≤ _), (by decide : 31 + 0 ≤ _)⟩)
            dsimp only [Pt.U, Pt.locs, Pt.cells, Pt.slots] at X459 l459 y459 z459 st459 hQ459
            subst l459 y459 z459
            obtain ⟨rfl, N459q, e459⟩ := hQ459
            have N459 := Fr.app Nc458 N459q
            refine ownGo (T' := T459) (f' := (mkF m 318 #[iv p0, iv p1, iv p2, iv p3, iv p4, iv p5, iv (1114112 : Int32), iv f1, iv l1, iv f2, iv l2, iv f3, iv l3, rv b8, rv b16, iv (1 : Int32), rv b422, iv f1, iv v431, iv f2, iv v432, iv f3, iv v433, iv nk3] [(.int (own_ch f1 l1 f2 l2 f3 l3 v432))])) (st459) ?_
            by_cases hc318_460 : (own_ch f1 l1 f2 l2 f3 l3 v432) = (0 : Int32)
            · refine ow_ifYes (q := 345) X459 hx (hb hby at_318) (Jvm.Free.XT.i0_eq_t hc318_460) (by decide) (by decide) ?_
              exact cut345_450 nk3 _ _ X459 e459 N459 (own_nk0 (k := 3) hn3 (by simp [hc318_460]))
            · refine ow_ifNo (q := 321) X459 hx (hb hby at_318) rfl (Jvm.Free.XT.i0_eq_f hc318_460) ?_
              refine ow_iload (q := 323) X459 hx (hb hby at_321) rfl rfl ?_
              refine ow_iload (q := 325) X459 hx (hb hby at_323) rfl rfl ?_
              by_cases hc325_461 : v432 = f1
              · refine ow_icmpYes (q := 345) X459 hx (hb hby at_325) (Jvm.Free.XT.ii_eq_t hc325_461) (by decide) (by decide) ?_
                exact cut345_450 nk3 _ _ X459 e459 N459 (own_nk0 (k := 3) hn3 (Or.inr (by simp [hc325_461])))
              · refine ow_icmpNo (q := 328) X459 hx (hb hby at_325) rfl (Jvm.Free.XT.ii_eq_f hc325_461) ?_
                refine ow_iload (q := 330) X459 hx (hb hby at_328) rfl rfl ?_
                refine ow_iload (q := 332) X459 hx (hb hby at_330) rfl rfl ?_
                by_cases hc332_462 : v432 = v431
                · refine ow_icmpYes (q := 345) X459 hx (hb hby at_332) (Jvm.Free.XT.ii_eq_t hc332_462) (by decide) (by decide) ?_
                  exact cut345_450 nk3 _ _ X459 e459 N459 (own_nk0 (k := 3) hn3 (Or.inr (by simp [hc332_462])))
                · refine ow_icmpNo (q := 335) X459 hx (hb hby at_332) rfl (Jvm.Free.XT.ii_eq_f hc332_462) ?_
                  refine ow_iload (q := 337) X459 hx (hb hby at_335) rfl rfl ?_
                  refine ow_iload (q := 339) X459 hx (hb hby at_337) rfl rfl ?_
                  by_cases hc339_463 : v432 = f2
                  · refine ow_icmpYes (q := 345) X459 hx (hb hby at_339) (Jvm.Free.XT.ii_eq_t hc339_463) (by decide) (by decide) ?_
                    exact cut345_450 nk3 _ _ X459 e459 N459 (own_nk0 (k := 3) hn3 (Or.inr (by simp [hc339_463])))
                  · refine ow_icmpNo (q := 342) X459 hx (hb hby at_339) rfl (Jvm.Free.XT.ii_eq_f hc339_463) ?_
                    refine ow_iinc (q := 345) X459 hx (L' := #[iv p0, iv p1, iv p2, iv p3, iv p4, iv p5, iv (1114112 : Int32), iv f1, iv l1, iv f2, iv l2, iv f3, iv l3, rv b8, rv b16, iv (1 : Int32), rv b422, iv f1, iv v431, iv f2, iv v432, iv f3, iv v433, iv (nk3 + (1 : Int32))]) (hb hby at_342) rfl rfl rfl ?_
                    generalize hv_v464 : (nk3 + (1 : Int32)) = v464
                    exact cut345_450 v464 _ _ X459 e459 N459 (own_nk1 (k := 3) hn3 hv_v464 (by simp [hc318_460, hc325_461, hc332_462, hc339_463]))
          have cut284_465 : ∀ (nk2 : Int32) (Tc465 : State) (lc465 : List Loc), Stand p l e room_1 s m #[(.int p0), (.int p1), (.int p2), (.int p3), (.int p4), (.int p5)] below meth c Tc465 lc465 7 31 → Tc465.heap = T422.heap → Fr n0 lc465 → (nk2.toInt = (own_s2 f1 l1 f2 l2 f3 l3 f1 v431) ∧ 0 ≤ nk2.toInt ∧ nk2.toInt ≤ ((2 : Nat) : Int)) → ownEnds p e below s (Q_law Z p0 p1 p2 p3 p4 p5 h0 n0) 24 192 Tc465 (mkF m 284 #[iv p0, iv p1, iv p2, iv p3, iv p4, iv p5, iv (1114112 : Int32), iv f1, iv l1, iv f2, iv l2, iv f3, iv l3, rv b8, rv b16, iv (1 : Int32), rv b422, iv f1, iv v431, iv f2, iv v432, iv f3, iv v433, iv nk2] []) := by
            intro nk2 Tc465 lc465 Xc465 ec465 Nc465 hn2
            refine ow_aload (q := 286) Xc465 hx (hb hby at_284) rfl rfl rfl ?_
            refine ow_iload (q := 288) Xc465 hx (hb hby at_286) rfl rfl ?_
            obtain ⟨_, _, ⟨T466, L466, k466, n466⟩, -, X466, ⟨Lc466, hQ466, l466, y466, z466⟩, st466⟩ := Jvm.LawKit.callS Xc465 hx (y := (⟨"com/example/shapewright/shapewright/regex/BuilderAddPinLaw", "ch", "([II)Z"⟩ : MethodName)) hown (mvT hZ (ww 66 rfl)) (mvT hZ (ww 67 rfl)) (mvT hZ (ww 68 rfl)) (mvT hZ (ww 69 rfl)) (by decide) (backOf (W := 0) (rm_ch l Z av0 hw [] b8 f2 (ownUpd (ownUpd (ownUpd (ownUpd (ownUpd (ownUpd (fun _ => (0 : Int32)) 0 f1) 1 l1) 2 f2) 3 l2) 4 f3) 5 l3) T422.heap n0 (Nat.le_trans Z0 K422.1) F423) hZ (ww 69 rfl) (ww 68 rfl) (by decide) (by decide)) (g := (mkF m 288 #[iv p0, iv p1, iv p2, iv p3, iv p4, iv p5, iv (1114112 : Int32), iv f1, iv l1, iv f2, iv l2, iv f3, iv l3, rv b8, rv b16, iv (1 : Int32), rv b422, iv f1, iv v431, iv f2, iv v432, iv f3, iv v433, iv nk2] [(.int f2), (.ref b8)])) rfl (by rw [hml]; rfl) (argsL := [(.ref b8), (.int f2)]) (rest := []) (lenOf own_pd3 rfl) rfl (by show 2 * 0 + _ ≤ _; exact Nat.le_of_eq rfl) (hb hby at_288) (fun _ _ => ⟨rfl, ec465, (by decide : 7 + 0 ≤ _), (by decide : 31 + 0 ≤ _)⟩)
            dsimp only [Pt.U, Pt.locs, Pt.cells, Pt.slots] at X466 l466 y466 z466 st466 hQ466
            subst l466 y466 z466
            obtain ⟨rfl, N466q, e466⟩ := hQ466
            have N466 := Fr.app Nc465 N466q
            refine ownGo (T' := T466) (f' := (mkF m 291 #[iv p0, iv p1, iv p2, iv p3, iv p4, iv p5, iv (1114112 : Int32), iv f1, iv l1, iv f2, iv l2, iv f3, iv l3, rv b8, rv b16, iv (1 : Int32), rv b422, iv f1, iv v431, iv f2, iv v432, iv f3, iv v433, iv nk2] [(.int (own_ch f1 l1 f2 l2 f3 l3 f2))])) (st466) ?_
            by_cases hc291_467 : (own_ch f1 l1 f2 l2 f3 l3 f2) = (0 : Int32)
            · refine ow_ifYes (q := 311) X466 hx (hb hby at_291) (Jvm.Free.XT.i0_eq_t hc291_467) (by decide) (by decide) ?_
              exact cut311_458 nk2 _ _ X466 e466 N466 (own_nk0 (k := 2) hn2 (by simp [hc291_467]))
            · refine ow_ifNo (q := 294) X466 hx (hb hby at_291) rfl (Jvm.Free.XT.i0_eq_f hc291_467) ?_
              refine ow_iload (q := 296) X466 hx (hb hby at_294) rfl rfl ?_
              refine ow_iload (q := 298) X466 hx (hb hby at_296) rfl rfl ?_
              by_cases hc298_468 : f2 = f1
              · refine ow_icmpYes (q := 311) X466 hx (hb hby at_298) (Jvm.Free.XT.ii_eq_t hc298_468) (by decide) (by decide) ?_
                exact cut311_458 nk2 _ _ X466 e466 N466 (own_nk0 (k := 2) hn2 (Or.inr (by simp [hc298_468])))
              · refine ow_icmpNo (q := 301) X466 hx (hb hby at_298) rfl (Jvm.Free.XT.ii_eq_f hc298_468) ?_
                refine ow_iload (q := 303) X466 hx (hb hby at_301) rfl rfl ?_
                refine ow_iload (q := 305) X466 hx (hb hby at_303) rfl rfl ?_
                by_cases hc305_469 : f2 = v431
                · refine ow_icmpYes (q := 311) X466 hx (hb hby at_305) (Jvm.Free.XT.ii_eq_t hc305_469) (by decide) (by decide) ?_
                  exact cut311_458 nk2 _ _ X466 e466 N466 (own_nk0 (k := 2) hn2 (Or.inr (by simp [hc305_469])))
                · refine ow_icmpNo (q := 308) X466 hx (hb hby at_305) rfl (Jvm.Free.XT.ii_eq_f hc305_469) ?_
                  refine ow_iinc (q := 311) X466 hx (L' := #[iv p0, iv p1, iv p2, iv p3, iv p4, iv p5, iv (1114112 : Int32), iv f1, iv l1, iv f2, iv l2, iv f3, iv l3, rv b8, rv b16, iv (1 : Int32), rv b422, iv f1, iv v431, iv f2, iv v432, iv f3, iv v433, iv (nk2 + (1 : Int32))]) (hb hby at_308) rfl rfl rfl ?_
                  generalize hv_v470 : (nk2 + (1 : Int32)) = v470
                  exact cut311_458 v470 _ _ X466 e466 N466 (own_nk1 (k := 2) hn2 hv_v470 (by simp [hc291_467, hc298_468, hc305_469]))
          have cut264_471 : ∀ (nk1 : Int32) (Tc471 : State) (lc471 : List Loc), Stand p l e room_1 s m #[(.int p0), (.int p1), (.int p2), (.int p3), (.int p4), (.int p5)] below meth c Tc471 lc471 7 31 → Tc471.heap = T422.heap → Fr n0 lc471 → (nk1.toInt = (own_s1 f1 l1 f2 l2 f3 l3 f1) ∧ 0 ≤ nk1.toInt ∧ nk1.toInt ≤ ((1 : Nat) : Int)) → ownEnds p e below s (Q_law Z p0 p1 p2 p3 p4 p5 h0 n0) 24 192 Tc471 (mkF m 264 #[iv p0, iv p1, iv p2, iv p3, iv p4, iv p5, iv (1114112 : Int32), iv f1, iv l1, iv f2, iv l2, iv f3, iv l3, rv b8, rv b16, iv (1 : Int32), rv b422, iv f1, iv v431, iv f2, iv v432, iv f3, iv v433, iv nk1] []) := by
            intro nk1 Tc471 lc471 Xc471 ec471 Nc471 hn1
            refine ow_aload (q := 266) Xc471 hx (hb hby at_264) rfl rfl rfl ?_
            refine ow_iload (q := 268) Xc471 hx (hb hby at_266) rfl rfl ?_
            obtain ⟨_, _, ⟨T472, L472, k472, n472⟩, -, X472, ⟨Lc472, hQ472, l472, y472, z472⟩, st472⟩ := Jvm.LawKit.callS Xc471 hx (y := (⟨"com/example/shapewright/shapewright/regex/BuilderAddPinLaw", "ch", "([II)Z"⟩ : MethodName)) hown (mvT hZ (ww 66 rfl)) (mvT hZ (ww 67 rfl)) (mvT hZ (ww 68 rfl)) (mvT hZ (ww 69 rfl)) (by decide) (backOf (W := 0) (rm_ch l Z av0 hw [] b8 v431 (ownUpd (ownUpd (ownUpd (ownUpd (ownUpd (ownUpd (fun _ => (0 : Int32)) 0 f1) 1 l1) 2 f2) 3 l2) 4 f3) 5 l3) T422.heap n0 (Nat.le_trans Z0 K422.1) F423) hZ (ww 69 rfl) (ww 68 rfl) (by decide) (by decide)) (g := (mkF m 268 #[iv p0, iv p1, iv p2, iv p3, iv p4, iv p5, iv (1114112 : Int32), iv f1, iv l1, iv f2, iv l2, iv f3, iv l3, rv b8, rv b16, iv (1 : Int32), rv b422, iv f1, iv v431, iv f2, iv v432, iv f3, iv v433, iv nk1] [(.int v431), (.ref b8)])) rfl (by rw [hml]; rfl) (argsL := [(.ref b8), (.int v431)]) (rest := []) (lenOf own_pd3 rfl) rfl (by show 2 * 0 + _ ≤ _; exact Nat.le_of_eq rfl) (hb hby at_268) (fun _ _ => ⟨rfl, ec471, (by decide : 7 + 0 ≤ _), (by decide : 31 + 0 ≤ _)⟩)
            dsimp only [Pt.U, Pt.locs, Pt.cells, Pt.slots] at X472 l472 y472 z472 st472 hQ472
            subst l472 y472 z472
            obtain ⟨rfl, N472q, e472⟩ := hQ472
            have N472 := Fr.app Nc471 N472q
            refine ownGo (T' := T472) (f' := (mkF m 271 #[iv p0, iv p1, iv p2, iv p3, iv p4, iv p5, iv (1114112 : Int32), iv f1, iv l1, iv f2, iv l2, iv f3, iv l3, rv b8, rv b16, iv (1 : Int32), rv b422, iv f1, iv v431, iv f2, iv v432, iv f3, iv v433, iv nk1] [(.int (own_ch f1 l1 f2 l2 f3 l3 v431))])) (st472) ?_
            by_cases hc271_473 : (own_ch f1 l1 f2 l2 f3 l3 v431) = (0 : Int32)
            · refine ow_ifYes (q := 284) X472 hx (hb hby at_271) (Jvm.Free.XT.i0_eq_t hc271_473) (by decide) (by decide) ?_
              exact cut284_465 nk1 _ _ X472 e472 N472 (own_nk0 (k := 1) hn1 (by simp [hc271_473]))
            · refine ow_ifNo (q := 274) X472 hx (hb hby at_271) rfl (Jvm.Free.XT.i0_eq_f hc271_473) ?_
              refine ow_iload (q := 276) X472 hx (hb hby at_274) rfl rfl ?_
              refine ow_iload (q := 278) X472 hx (hb hby at_276) rfl rfl ?_
              by_cases hc278_474 : v431 = f1
              · refine ow_icmpYes (q := 284) X472 hx (hb hby at_278) (Jvm.Free.XT.ii_eq_t hc278_474) (by decide) (by decide) ?_
                exact cut284_465 nk1 _ _ X472 e472 N472 (own_nk0 (k := 1) hn1 (Or.inr (by simp [hc278_474])))
              · refine ow_icmpNo (q := 281) X472 hx (hb hby at_278) rfl (Jvm.Free.XT.ii_eq_f hc278_474) ?_
                refine ow_iinc (q := 284) X472 hx (L' := #[iv p0, iv p1, iv p2, iv p3, iv p4, iv p5, iv (1114112 : Int32), iv f1, iv l1, iv f2, iv l2, iv f3, iv l3, rv b8, rv b16, iv (1 : Int32), rv b422, iv f1, iv v431, iv f2, iv v432, iv f3, iv v433, iv (nk1 + (1 : Int32))]) (hb hby at_281) rfl rfl rfl ?_
                generalize hv_v475 : (nk1 + (1 : Int32)) = v475
                exact cut284_465 v475 _ _ X472 e472 N472 (own_nk1 (k := 1) hn1 hv_v475 (by simp [hc271_473, hc278_474]))
          refine ow_aload (q := 253) X422 hx (hb hby at_251) rfl rfl rfl ?_
          refine ow_iload (q := 255) X422 hx (hb hby at_253) rfl rfl ?_
          obtain ⟨_, _, ⟨T476, L476, k476, n476⟩, -, X476, ⟨Lc476, hQ476, l476, y476, z476⟩, st476⟩ := Jvm.LawKit.callS X422 hx (y := (⟨"com/example/shapewright/shapewright/regex/BuilderAddPinLaw", "ch", "([II)Z"⟩ : MethodName)) hown (mvT hZ (ww 66 rfl)) (mvT hZ (ww 67 rfl)) (mvT hZ (ww 68 rfl)) (mvT hZ (ww 69 rfl)) (by decide) (backOf (W := 0) (rm_ch l Z av0 hw [] b8 f1 (ownUpd (ownUpd (ownUpd (ownUpd (ownUpd (ownUpd (fun _ => (0 : Int32)) 0 f1) 1 l1) 2 f2) 3 l2) 4 f3) 5 l3) T422.heap n0 (Nat.le_trans Z0 K422.1) F423) hZ (ww 69 rfl) (ww 68 rfl) (by decide) (by decide)) (g := (mkF m 255 #[iv p0, iv p1, iv p2, iv p3, iv p4, iv p5, iv (1114112 : Int32), iv f1, iv l1, iv f2, iv l2, iv f3, iv l3, rv b8, rv b16, iv (1 : Int32), rv b422, iv f1, iv v431, iv f2, iv v432, iv f3, iv v433, iv (0 : Int32)] [(.int f1), (.ref b8)])) rfl (by rw [hml]; rfl) (argsL := [(.ref b8), (.int f1)]) (rest := []) (lenOf own_pd3 rfl) rfl (by show 2 * 0 + _ ≤ _; exact Nat.le_of_eq rfl) (hb hby at_255) (fun _ _ => ⟨rfl, rfl, (by decide : 7 + 0 ≤ _), (by decide : 31 + 0 ≤ _)⟩)
          dsimp only [Pt.U, Pt.locs, Pt.cells, Pt.slots] at X476 l476 y476 z476 st476 hQ476
          subst l476 y476 z476
          obtain ⟨rfl, N476q, e476⟩ := hQ476
          have N476 := Fr.app N422 N476q
          refine ownGo (T' := T476) (f' := (mkF m 258 #[iv p0, iv p1, iv p2, iv p3, iv p4, iv p5, iv (1114112 : Int32), iv f1, iv l1, iv f2, iv l2, iv f3, iv l3, rv b8, rv b16, iv (1 : Int32), rv b422, iv f1, iv v431, iv f2, iv v432, iv f3, iv v433, iv (0 : Int32)] [(.int (own_ch f1 l1 f2 l2 f3 l3 f1))])) (st476) ?_
          by_cases hc258_477 : (own_ch f1 l1 f2 l2 f3 l3 f1) = (0 : Int32)
          · refine ow_ifYes (q := 264) X476 hx (hb hby at_258) (Jvm.Free.XT.i0_eq_t hc258_477) (by decide) (by decide) ?_
            exact cut264_471 (0 : Int32) _ _ X476 e476 N476 (own_nk0 (k := 0) (by decide : (0 : Int32).toInt = (0 : Int) ∧ 0 ≤ (0 : Int32).toInt ∧ (0 : Int32).toInt ≤ ((0 : Nat) : Int)) (by simp [hc258_477]))
          · refine ow_ifNo (q := 261) X476 hx (hb hby at_258) rfl (Jvm.Free.XT.i0_eq_f hc258_477) ?_
            refine ow_iinc (q := 264) X476 hx (L' := #[iv p0, iv p1, iv p2, iv p3, iv p4, iv p5, iv (1114112 : Int32), iv f1, iv l1, iv f2, iv l2, iv f3, iv l3, rv b8, rv b16, iv (1 : Int32), rv b422, iv f1, iv v431, iv f2, iv v432, iv f3, iv v433, iv (1 : Int32)]) (hb hby at_261) rfl rfl rfl ?_
            exact cut264_471 (1 : Int32) _ _ X476 e476 N476 (own_nk1 (k := 0) (by decide : (0 : Int32).toInt = (0 : Int) ∧ 0 ≤ (0 : Int32).toInt ∧ (0 : Int32).toInt ≤ ((0 : Nat) : Int)) (by decide) (by simp [hc258_477]))
        · refine ow_aload (q := 210) X413 hx (hb hby at_208) rfl rfl rfl ?_
          obtain ⟨cq478, kq478, q478a, q478b, q478c⟩ := isOf hZ rfl FP413_0
          obtain ⟨_, _, ⟨T478, L478, k478, n478⟩, -, X478, ⟨Lc478, hQ478, l478, y478, z478⟩, st478⟩ := X413.virtualBack hx (y := (⟨"com/example/shapewright/shapewright/regex/CodePointSet$Builder", "build", "()Lcom/example/shapewright/shapewright/regex/CodePointSet;"⟩ : MethodName)) (z := (⟨"com/example/shapewright/shapewright/regex/CodePointSet$Builder", "build", "()Lcom/example/shapewright/shapewright/regex/CodePointSet;"⟩ : MethodName)) hown (mvT hZ (ww 25 rfl)) (mvT hZ (ww 26 rfl)) (notFace_of_selects (args := #[]) (mvT hZ (ww 28 rfl))) (mvT hZ (ww 28 rfl)) (mvT hZ (ww 27 rfl)) (by decide) (backOf (W := 0) (rm_build_2 l Z av0 hw [] b16 ar_20 (ownUpd (ownUpd (ownUpd (ownUpd (fun _ => (0 : Int32)) 0 f1) 1 l1) 1 (own_max l1 l2)) 1 (own_max (own_max l1 l2) l3)) T413.heap n0 (Nat.le_trans Z0 K413.1) FP413_1 FP413_2 FP413_3) hZ (ww 29 rfl) (ww 5 rfl) (by decide) (by decide)) q478a q478c (g := (mkF m 210 #[iv p0, iv p1, iv p2, iv p3, iv p4, iv p5, iv (1114112 : Int32), iv f1, iv l1, iv f2, iv l2, iv f3, iv l3, rv b8, rv b16, iv (1 : Int32), .unset, .unset, .unset, .unset, .unset, .unset, .unset, .unset] [(.ref b16)])) rfl (by rw [hml]; rfl) (Steps.refl _) (argsL := []) (rest := []) (lenOf own_pd6 rfl) rfl (by show 2 * 0 + _ ≤ _; exact Nat.le_of_eq rfl) (hb hby at_210) (fun _ _ => ⟨rfl, rfl, (by decide : 3 + 2 ≤ _), (by decide : 24 + 3 ≤ _)⟩)
          dsimp only [Pt.U, Pt.locs, Pt.cells, Pt.slots] at X478 l478 y478 z478 st478 hQ478
          subst l478 y478 z478
          obtain ⟨b478, ar2_478, rfl, N478q, Kq478, sq478_b478, sq478_ar2_478, FP478_0, FP478_1, FP478_2, hp478⟩ := hQ478
          have N478 := Fr.app N413 N478q
          have K478 : Keep h0 T478.heap [] := K413.trans Kq478 all0
          have ne_b8_b478 : b8 ≠ b478 := Nat.ne_of_lt (Nat.lt_of_lt_of_le F414.lt sq478_b478)
          have ne_b16_b478 : b16 ≠ b478 := Nat.ne_of_lt (Nat.lt_of_lt_of_le FP413_0.lt sq478_b478)
          have ne_ar_20_b478 : ar_20 ≠ b478 := Nat.ne_of_lt (Nat.lt_of_lt_of_le FP413_3.lt sq478_b478)
          have sz_b478 : h0.size ≤ b478 := Nat.le_trans K413.1 sq478_b478
          have G_b478 : n0 ≤ b478 := Nat.le_trans Z0 sz_b478
          have ne_b8_ar2_478 : b8 ≠ ar2_478 := Nat.ne_of_lt (Nat.lt_of_lt_of_le F414.lt sq478_ar2_478)
          have ne_b16_ar2_478 : b16 ≠ ar2_478 := Nat.ne_of_lt (Nat.lt_of_lt_of_le FP413_0.lt sq478_ar2_478)
          have ne_ar_20_ar2_478 : ar_20 ≠ ar2_478 := Nat.ne_of_lt (Nat.lt_of_lt_of_le FP413_3.lt sq478_ar2_478)
          have sz_ar2_478 : h0.size ≤ ar2_478 := Nat.le_trans K413.1 sq478_ar2_478
          have G_ar2_478 : n0 ≤ ar2_478 := Nat.le_trans Z0 sz_ar2_478
          have F479 : ownAI Z T478.heap b8 .int 6 (ownUpd (ownUpd (ownUpd (ownUpd (ownUpd (ownUpd (fun _ => (0 : Int32)) 0 f1) 1 l1) 2 f2) 3 l2) 4 f3) 5 l3) := F414.keep Kq478 nin0
          have F480 : Exa Z T478.heap b16 "com/example/shapewright/shapewright/regex/CodePointSet$Builder" := FP413_0.keep Kq478
          have F481 : Fld Z T478.heap b16 "com/example/shapewright/shapewright/regex/CodePointSet$Builder" "ranges" "[I" (.ref ar_20) := FP413_1.keep Kq478 nin0
          have F482 : Fld Z T478.heap b16 "com/example/shapewright/shapewright/regex/CodePointSet$Builder" "length" "I" (.int (2 : Int32)) := FP413_2.keep Kq478 nin0
          have F483 : ownAI Z T478.heap ar_20 .int 16 (ownUpd (ownUpd (ownUpd (ownUpd (fun _ => (0 : Int32)) 0 f1) 1 l1) 1 (own_max l1 l2)) 1 (own_max (own_max l1 l2) l3)) := FP413_3.keep Kq478 nin0
          refine ownRun (T' := T478) (f' := (mkF m 213 #[iv p0, iv p1, iv p2, iv p3, iv p4, iv p5, iv (1114112 : Int32), iv f1, iv l1, iv f2, iv l2, iv f3, iv l3, rv b8, rv b16, iv (1 : Int32), .unset, .unset, .unset, .unset, .unset, .unset, .unset, .unset] [(.ref b478)])) st478 ?_
          obtain ⟨cq484, kq484, q484a, q484b, q484c⟩ := isOf hZ rfl FP478_0
          obtain ⟨_, _, ⟨T484, L484, k484, n484⟩, -, X484, ⟨Lc484, hQ484, l484, y484, z484⟩, st484⟩ := X478.virtualBack hx (y := (⟨"com/example/shapewright/shapewright/regex/CodePointSet", "edges", "()[I"⟩ : MethodName)) (z := (⟨"com/example/shapewright/shapewright/regex/CodePointSet", "edges", "()[I"⟩ : MethodName)) hown (mvT hZ (ww 50 rfl)) (mvT hZ (ww 51 rfl)) (notFace_of_selects (args := #[]) (mvT hZ (ww 53 rfl))) (mvT hZ (ww 53 rfl)) (mvT hZ (ww 52 rfl)) (by decide) (backOf (W := 0) (rm_edges_2_e l Z av0 hw [] b478 ar2_478 (ownUpd (ownUpd (ownUpd (ownUpd (fun _ => (0 : Int32)) 0 f1) 1 l1) 1 (own_max l1 l2)) 1 (own_max (own_max l1 l2) l3)) T478.heap n0 (Nat.le_trans Z0 K478.1) FP478_1 FP478_2 hmx) hZ (ww 54 rfl) (ww 32 rfl) (by decide) (by decide)) q484a q484c (g := (mkF m 213 #[iv p0, iv p1, iv p2, iv p3, iv p4, iv p5, iv (1114112 : Int32), iv f1, iv l1, iv f2, iv l2, iv f3, iv l3, rv b8, rv b16, iv (1 : Int32), .unset, .unset, .unset, .unset, .unset, .unset, .unset, .unset] [(.ref b478)])) rfl (by rw [hml]; rfl) (Steps.refl _) (argsL := []) (rest := []) (lenOf own_pd7 rfl) rfl (by show 2 * 0 + _ ≤ _; exact Nat.le_of_eq rfl) (hb hby at_213) (fun _ _ => ⟨rfl, rfl, (by decide : 5 + 2 ≤ _), (by decide : 27 + 3 ≤ _)⟩)
          dsimp only [Pt.U, Pt.locs, Pt.cells, Pt.slots] at X484 l484 y484 z484 st484 hQ484
          subst l484 y484 z484
          obtain ⟨b484, rfl, N484q, Kq484, sq484_b484, FP484_0⟩ := hQ484
          have N484 := Fr.app N478 N484q
          have K484 : Keep h0 T484.heap [] := K478.trans Kq484 all0
          have ne_b8_b484 : b8 ≠ b484 := Nat.ne_of_lt (Nat.lt_of_lt_of_le F479.lt sq484_b484)
          have ne_b16_b484 : b16 ≠ b484 := Nat.ne_of_lt (Nat.lt_of_lt_of_le F480.lt sq484_b484)
          have ne_ar_20_b484 : ar_20 ≠ b484 := Nat.ne_of_lt (Nat.lt_of_lt_of_le F483.lt sq484_b484)
          have ne_b478_b484 : b478 ≠ b484 := Nat.ne_of_lt (Nat.lt_of_lt_of_le FP478_0.lt sq484_b484)
          have ne_ar2_478_b484 : ar2_478 ≠ b484 := Nat.ne_of_lt (Nat.lt_of_lt_of_le FP478_2.lt sq484_b484)
          have sz_b484 : h0.size ≤ b484 := Nat.le_trans K478.1 sq484_b484
          have G_b484 : n0 ≤ b484 := Nat.le_trans Z0 sz_b484
          have F485 : ownAI Z T484.heap b8 .int 6 (ownUpd (ownUpd (ownUpd (ownUpd (ownUpd (ownUpd (fun _ => (0 : Int32)) 0 f1) 1 l1) 2 f2) 3 l2) 4 f3) 5 l3) := F479.keep Kq484 nin0
          have F486 : Exa Z T484.heap b16 "com/example/shapewright/shapewright/regex/CodePointSet$Builder" := F480.keep Kq484
          have F487 : Fld Z T484.heap b16 "com/example/shapewright/shapewright/regex/CodePointSet$Builder" "ranges" "[I" (.ref ar_20) := F481.keep Kq484 nin0
          have F488 : Fld Z T484.heap b16 "com/example/shapewright/shapewright/regex/CodePointSet$Builder" "length" "I" (.int (2 : Int32)) := F482.keep Kq484 nin0
          have F489 : ownAI Z T484.heap ar_20 .int 16 (ownUpd (ownUpd (ownUpd (ownUpd (fun _ => (0 : Int32)) 0 f1) 1 l1) 1 (own_max l1 l2)) 1 (own_max (own_max l1 l2) l3)) := F483.keep Kq484 nin0
          have F490 : Exa Z T484.heap b478 "com/example/shapewright/shapewright/regex/CodePointSet" := FP478_0.keep Kq484
          have F491 : Fld Z T484.heap b478 "com/example/shapewright/shapewright/regex/CodePointSet" "ranges" "[I" (.ref ar2_478) := FP478_1.keep Kq484 nin0
          have F492 : ownAI Z T484.heap ar2_478 .int 2 (ownUpd (ownUpd (ownUpd (ownUpd (fun _ => (0 : Int32)) 0 f1) 1 l1) 1 (own_max l1 l2)) 1 (own_max (own_max l1 l2) l3)) := FP478_2.keep Kq484 nin0
          refine ownRun (T' := T484) (f' := (mkF m 216 #[iv p0, iv p1, iv p2, iv p3, iv p4, iv p5, iv (1114112 : Int32), iv f1, iv l1, iv f2, iv l2, iv f3, iv l3, rv b8, rv b16, iv (1 : Int32), .unset, .unset, .unset, .unset, .unset, .unset, .unset, .unset] [(.ref b484)])) st484 ?_
          refine ow_astore (q := 218) X484 hx (L' := #[iv p0, iv p1, iv p2, iv p3, iv p4, iv p5, iv (1114112 : Int32), iv f1, iv l1, iv f2, iv l2, iv f3, iv l3, rv b8, rv b16, iv (1 : Int32), rv b484, .unset, .unset, .unset, .unset, .unset, .unset, .unset]) (hb hby at_216) rfl rfl rfl ?_
          refine ow_iload (q := 220) X484 hx (hb hby at_218) rfl rfl ?_
          refine ow_istore (q := 222) X484 hx (L' := #[iv p0, iv p1, iv p2, iv p3, iv p4, iv p5, iv (1114112 : Int32), iv f1, iv l1, iv f2, iv l2, iv f3, iv l3, rv b8, rv b16, iv (1 : Int32), rv b484, iv f1, .unset, .unset, .unset, .unset, .unset, .unset]) (hb hby at_220) rfl rfl ?_
          refine ow_iload (q := 224) X484 hx (hb hby at_222) rfl rfl ?_
          refine ow_iconst (q := 225) X484 hx (1 : Int32) (hb hby at_224) rfl rfl ?_
          refine ow_iadd (q := 226) X484 hx _ (hb hby at_225) rfl rfl ?_
          generalize hv_v493 : (l1 + (1 : Int32)) = v493
          refine ow_istore (q := 228) X484 hx (L' := #[iv p0, iv p1, iv p2, iv p3, iv p4, iv p5, iv (1114112 : Int32), iv f1, iv l1, iv f2, iv l2, iv f3, iv l3, rv b8, rv b16, iv (1 : Int32), rv b484, iv f1, iv v493, .unset, .unset, .unset, .unset, .unset]) (hb hby at_226) rfl rfl ?_
          refine ow_iload (q := 230) X484 hx (hb hby at_228) rfl rfl ?_
          refine ow_istore (q := 232) X484 hx (L' := #[iv p0, iv p1, iv p2, iv p3, iv p4, iv p5, iv (1114112 : Int32), iv f1, iv l1, iv f2, iv l2, iv f3, iv l3, rv b8, rv b16, iv (1 : Int32), rv b484, iv f1, iv v493, iv f2, .unset, .unset, .unset, .unset]) (hb hby at_230) rfl rfl ?_
          refine ow_iload (q := 234) X484 hx (hb hby at_232) rfl rfl ?_
          refine ow_iconst (q := 235) X484 hx (1 : Int32) (hb hby at_234) rfl rfl ?_
          refine ow_iadd (q := 236) X484 hx _ (hb hby at_235) rfl rfl ?_
          generalize hv_v494 : (l2 + (1 : Int32)) = v494
          refine ow_istore (q := 238) X484 hx (L' := #[iv p0, iv p1, iv p2, iv p3, iv p4, iv p5, iv (1114112 : Int32), iv f1, iv l1, iv f2, iv l2, iv f3, iv l3, rv b8, rv b16, iv (1 : Int32), rv b484, iv f1, iv v493, iv f2, iv v494, .unset, .unset, .unset]) (hb hby at_236) rfl rfl ?_
          refine ow_iload (q := 240) X484 hx (hb hby at_238) rfl rfl ?_
          refine ow_istore (q := 242) X484 hx (L' := #[iv p0, iv p1, iv p2, iv p3, iv p4, iv p5, iv (1114112 : Int32), iv f1, iv l1, iv f2, iv l2, iv f3, iv l3, rv b8, rv b16, iv (1 : Int32), rv b484, iv f1, iv v493, iv f2, iv v494, iv f3, .unset, .unset]) (hb hby at_240) rfl rfl ?_
          refine ow_iload (q := 244) X484 hx (hb hby at_242) rfl rfl ?_
          refine ow_iconst (q := 245) X484 hx (1 : Int32) (hb hby at_244) rfl rfl ?_
          refine ow_iadd (q := 246) X484 hx _ (hb hby at_245) rfl rfl ?_
          generalize hv_v495 : (l3 + (1 : Int32)) = v495
          refine ow_istore (q := 248) X484 hx (L' := #[iv p0, iv p1, iv p2, iv p3, iv p4, iv p5, iv (1114112 : Int32), iv f1, iv l1, iv f2, iv l2, iv f3, iv l3, rv b8, rv b16, iv (1 : Int32), rv b484, iv f1, iv v493, iv f2, iv v494, iv f3, iv v495, .unset]) (hb hby at_246) rfl rfl ?_
          refine ow_iconst (q := 249) X484 hx (0 : Int32) (hb hby at_248) rfl rfl ?_
          refine ow_istore (q := 251) X484 hx (L' := #[iv p0, iv p1, iv p2, iv p3, iv p4, iv p5, iv (1114112 : Int32), iv f1, iv l1, iv f2, iv l2, iv f3, iv l3, rv b8, rv b16, iv (1 : Int32), rv b484, iv f1, iv v493, iv f2, iv v494, iv f3, iv v495, iv (0 : Int32)]) (hb hby at_249) rfl rfl ?_
          have cut434_496 : ∀ (nk6 : Int32) (Tc496 : State) (lc496 : List Loc), Stand p l e room_1 s m #[(.int p0), (.int p1), (.int p2), (.int p3), (.int p4), (.int p5)] below meth c Tc496 lc496 7 30 → Tc496.heap = T484.heap → Fr n0 lc496 → (nk6.toInt = (own_s6 f1 l1 f2 l2 f3 l3 f1 v493 f2 v494 f3 v495) ∧ 0 ≤ nk6.toInt ∧ nk6.toInt ≤ ((6 : Nat) : Int)) → ownEnds p e below s (Q_law Z p0 p1 p2 p3 p4 p5 h0 n0) 24 192 Tc496 (mkF m 434 #[iv p0, iv p1, iv p2, iv p3, iv p4, iv p5, iv (1114112 : Int32), iv f1, iv l1, iv f2, iv l2, iv f3, iv l3, rv b8, rv b16, iv (1 : Int32), rv b484, iv f1, iv v493, iv f2, iv v494, iv f3, iv v495, iv nk6] []) := by
            intro nk6 Tc496 lc496 Xc496 ec496 Nc496 hn6
            refine ow_iload (q := 436) Xc496 hx (hb hby at_434) rfl rfl ?_
            refine ow_ifNo (q := 439) Xc496 hx (hb hby at_436) rfl (Jvm.Free.XT.i0_eq_f (by decide)) ?_
            refine ow_aload (q := 441) Xc496 hx (hb hby at_439) rfl rfl rfl ?_
            refine ownGo (T' := Tc496) (f' := (mkF m 442 #[iv p0, iv p1, iv p2, iv p3, iv p4, iv p5, iv (1114112 : Int32), iv f1, iv l1, iv f2, iv l2, iv f3, iv l3, rv b8, rv b16, iv (1 : Int32), rv b484, iv f1, iv v493, iv f2, iv v494, iv f3, iv v495, iv nk6] [(.int (1 : Int32))])) (ownLenI FP484_0 Xc496 hx hZ ec496 (z := (1 : Int32)) (by decide) (g := (mkF m 441 #[iv p0, iv p1, iv p2, iv p3, iv p4, iv p5, iv (1114112 : Int32), iv f1, iv l1, iv f2, iv l2, iv f3, iv l3, rv b8, rv b16, iv (1 : Int32), rv b484, iv f1, iv v493, iv f2, iv v494, iv f3, iv v495, iv nk6] [(.ref b484)])) rfl rfl (hb hby at_441)) ?_
            refine ow_iload (q := 444) Xc496 hx (hb hby at_442) rfl rfl ?_
            refine ow_icmpNo (q := 447) Xc496 hx (hb hby at_444) rfl (Jvm.Free.XT.ii_ne_f (own_len hn6 (own_total_mme hr hm2 hm3 hmx hv_v493 hv_v494 hv_v495))) ?_
            refine ow_aload (q := 449) Xc496 hx (hb hby at_447) rfl rfl rfl ?_
            refine ow_iconst (q := 450) Xc496 hx (0 : Int32) (hb hby at_449) rfl rfl ?_
            refine ow_aload (q := 452) Xc496 hx (hb hby at_450) rfl rfl rfl ?_
            obtain ⟨_, _, ⟨T497, L497, k497, n497⟩, -, X497, ⟨Lc497, hQ497, l497, y497, z497⟩, st497⟩ := Jvm.LawKit.callS Xc496 hx (y := (⟨"com/example/shapewright/shapewright/regex/BuilderAddPinLaw", "okAt", "([II[I)Z"⟩ : MethodName)) hown (mvT hZ (ww 74 rfl)) (mvT hZ (ww 75 rfl)) (mvT hZ (ww 68 rfl)) (mvT hZ (ww 76 rfl)) (by decide) (backOf (W := 0) (rm_okB l Z av0 hw [] b484 (0 : Int32) b8 1 (1 : Int32) (ownUpd (fun _ => (0 : Int32)) 0 f1) (ownUpd (ownUpd (ownUpd (ownUpd (ownUpd (ownUpd (fun _ => (0 : Int32)) 0 f1) 1 l1) 2 f2) 3 l2) 4 f3) 5 l3) T484.heap n0 (Nat.le_trans Z0 K484.1) FP484_0 F485 (by decide) (by decide) (by unfold ownIn; decide) (by decide)) hZ (ww 76 rfl) (ww 68 rfl) (by decide) (by decide)) (g := (mkF m 452 #[iv p0, iv p1, iv p2, iv p3, iv p4, iv p5, iv (1114112 : Int32), iv f1, iv l1, iv f2, iv l2, iv f3, iv l3, rv b8, rv b16, iv (1 : Int32), rv b484, iv f1, iv v493, iv f2, iv v494, iv f3, iv v495, iv nk6] [(.ref b8), (.int (0 : Int32)), (.ref b484)])) rfl (by rw [hml]; rfl) (argsL := [(.ref b484), (.int (0 : Int32)), (.ref b8)]) (rest := []) (lenOf own_pd8 rfl) rfl (by show 2 * 0 + _ ≤ _; exact Nat.le_of_eq rfl) (hb hby at_452) (fun _ _ => ⟨rfl, ec496, (by decide : 7 + 0 ≤ _), (by decide : 30 + 0 ≤ _)⟩)
            dsimp only [Pt.U, Pt.locs, Pt.cells, Pt.slots] at X497 l497 y497 z497 st497 hQ497
            subst l497 y497 z497
            obtain ⟨rfl, N497q, e497⟩ := hQ497
            have N497 := Fr.app Nc496 N497q
            refine ownGo (T' := T497) (f' := (mkF m 455 #[iv p0, iv p1, iv p2, iv p3, iv p4, iv p5, iv (1114112 : Int32), iv f1, iv l1, iv f2, iv l2, iv f3, iv l3, rv b8, rv b16, iv (1 : Int32), rv b484, iv f1, iv v493, iv f2, iv v494, iv f3, iv v495, iv nk6] [(.int (if (own_ch f1 l1 f2 l2 f3 l3 f1) = (0 : Int32) then (0 : Int32) else (1 : Int32)))])) (st497) ?_
            refine ow_ifNo (q := 458) X497 hx (hb hby at_455) rfl (Jvm.Free.XT.i0_eq_f (own_ok_mme_0 hr hm2 hm3 hmx)) ?_
            refine ow_aload (q := 460) X497 hx (hb hby at_458) rfl rfl rfl ?_
            refine ow_iconst (q := 461) X497 hx (1 : Int32) (hb hby at_460) rfl rfl ?_
            refine ow_aload (q := 463) X497 hx (hb hby at_461) rfl rfl rfl ?_
            obtain ⟨_, _, ⟨T498, L498, k498, n498⟩, -, X498, ⟨Lc498, hQ498, l498, y498, z498⟩, st498⟩ := Jvm.LawKit.callS X497 hx (y := (⟨"com/example/shapewright/shapewright/regex/BuilderAddPinLaw", "okAt", "([II[I)Z"⟩ : MethodName)) hown (mvT hZ (ww 74 rfl)) (mvT hZ (ww 75 rfl)) (mvT hZ (ww 68 rfl)) (mvT hZ (ww 76 rfl)) (by decide) (backOf (W := 0) (rm_okA l Z av0 hw [] b484 (1 : Int32) b8 1 (1 : Int32) (ownUpd (fun _ => (0 : Int32)) 0 f1) (ownUpd (ownUpd (ownUpd (ownUpd (ownUpd (ownUpd (fun _ => (0 : Int32)) 0 f1) 1 l1) 2 f2) 3 l2) 4 f3) 5 l3) T484.heap n0 (Nat.le_trans Z0 K484.1) FP484_0 F485 (by decide) (by decide)) hZ (ww 76 rfl) (ww 68 rfl) (by decide) (by decide)) (g := (mkF m 463 #[iv p0, iv p1, iv p2, iv p3, iv p4, iv p5, iv (1114112 : Int32), iv f1, iv l1, iv f2, iv l2, iv f3, iv l3, rv b8, rv b16, iv (1 : Int32), rv b484, iv f1, iv v493, iv f2, iv v494, iv f3, iv v495, iv nk6] [(.ref b8), (.int (1 : Int32)), (.ref b484)])) rfl (by rw [hml]; rfl) (argsL := [(.ref b484), (.int (1 : Int32)), (.ref b8)]) (rest := []) (lenOf own_pd8 rfl) rfl (by show 2 * 0 + _ ≤ _; exact Nat.le_of_eq rfl) (hb hby at_463) (fun _ _ => ⟨rfl, e497, (by decide : 7 + 0 ≤ _), (by decide : 30 + 0 ≤ _)⟩)
            dsimp only [Pt.U, Pt.locs, Pt.cells, Pt.slots] at X498 l498 y498 z498 st498 hQ498
            subst l498 y498 z498
            obtain ⟨rfl, N498q, e498⟩ := hQ498
            have N498 := Fr.app N497 N498q
            refine ownGo (T' := T498) (f' := (mkF m 466 #[iv p0, iv p1, iv p2, iv p3, iv p4, iv p5, iv (1114112 : Int32), iv f1, iv l1, iv f2, iv l2, iv f3, iv l3, rv b8, rv b16, iv (1 : Int32), rv b484, iv f1, iv v493, iv f2, iv v494, iv f3, iv v495, iv nk6] [(.int (1 : Int32))])) (st498) ?_
            refine ow_ifNo (q := 469) X498 hx (hb hby at_466) rfl (Jvm.Free.XT.i0_eq_f (by decide)) ?_
            refine ow_aload (q := 471) X498 hx (hb hby at_469) rfl rfl rfl ?_
            refine ow_iconst (q := 472) X498 hx (2 : Int32) (hb hby at_471) rfl rfl ?_
            refine ow_aload (q := 474) X498 hx (hb hby at_472) rfl rfl rfl ?_
            obtain ⟨_, _, ⟨T499, L499, k499, n499⟩, -, X499, ⟨Lc499, hQ499, l499, y499, z499⟩, st499⟩ := Jvm.LawKit.callS X498 hx (y := (⟨"com/example/shapewright/shapewright/regex/BuilderAddPinLaw", "okAt", "([II[I)Z"⟩ : MethodName)) hown (mvT hZ (ww 74 rfl)) (mvT hZ (ww 75 rfl)) (mvT hZ (ww 68 rfl)) (mvT hZ (ww 76 rfl)) (by decide) (backOf (W := 0) (rm_okA l Z av0 hw [] b484 (2 : Int32) b8 1 (1 : Int32) (ownUpd (fun _ => (0 : Int32)) 0 f1) (ownUpd (ownUpd (ownUpd (ownUpd (ownUpd (ownUpd (fun _ => (0 : Int32)) 0 f1) 1 l1) 2 f2) 3 l2) 4 f3) 5 l3) T484.heap n0 (Nat.le_trans Z0 K484.1) FP484_0 F485 (by decide) (by decide)) hZ (ww 76 rfl) (ww 68 rfl) (by decide) (by decide)) (g := (mkF m 474 #[iv p0, iv p1, iv p2, iv p3, iv p4, iv p5, iv (1114112 : Int32), iv f1, iv l1, iv f2, iv l2, iv f3, iv l3, rv b8, rv b16, iv (1 : Int32), rv b484, iv f1, iv v493, iv f2, iv v494, iv f3, iv v495, iv nk6] [(.ref b8), (.int (2 : Int32)), (.ref b484)])) rfl (by rw [hml]; rfl) (argsL := [(.ref b484), (.int (2 : Int32)), (.ref b8)]) (rest := []) (lenOf own_pd8 rfl) rfl (by show 2 * 0 + _ ≤ _; exact Nat.le_of_eq rfl) (hb hby at_474) (fun _ _ => ⟨rfl, e498, (by decide : 7 + 0 ≤ _), (by decide : 30 + 0 ≤ _)⟩)
            dsimp only [Pt.U, Pt.locs, Pt.cells, Pt.slots] at X499 l499 y499 z499 st499 hQ499
            subst l499 y499 z499
            obtain ⟨rfl, N499q, e499⟩ := hQ499
            have N499 := Fr.app N498 N499q
            refine ownGo (T' := T499) (f' := (mkF m 477 #[iv p0, iv p1, iv p2, iv p3, iv p4, iv p5, iv (1114112 : Int32), iv f1, iv l1, iv f2, iv l2, iv f3, iv l3, rv b8, rv b16, iv (1 : Int32), rv b484, iv f1, iv v493, iv f2, iv v494, iv f3, iv v495, iv nk6] [(.int (1 : Int32))])) (st499) ?_
            refine ow_ifNo (q := 480) X499 hx (hb hby at_477) rfl (Jvm.Free.XT.i0_eq_f (by decide)) ?_
            refine ow_aload (q := 482) X499 hx (hb hby at_480) rfl rfl rfl ?_
            refine ow_iconst (q := 483) X499 hx (3 : Int32) (hb hby at_482) rfl rfl ?_
            refine ow_aload (q := 485) X499 hx (hb hby at_483) rfl rfl rfl ?_
            obtain ⟨_, _, ⟨T500, L500, k500, n500⟩, -, X500, ⟨Lc500, hQ500, l500, y500, z500⟩, st500⟩ := Jvm.LawKit.callS X499 hx (y := (⟨"com/example/shapewright/shapewright/regex/BuilderAddPinLaw", "okAt", "([II[I)Z"⟩ : MethodName)) hown (mvT hZ (ww 74 rfl)) (mvT hZ (ww 75 rfl)) (mvT hZ (ww 68 rfl)) (mvT hZ (ww 76 rfl)) (by decide) (backOf (W := 0) (rm_okA l Z av0 hw [] b484 (3 : Int32) b8 1 (1 : Int32) (ownUpd (fun _ => (0 : Int32)) 0 f1) (ownUpd (ownUpd (ownUpd (ownUpd (ownUpd (ownUpd (fun _ => (0 : Int32)) 0 f1) 1 l1) 2 f2) 3 l2) 4 f3) 5 l3) T484.heap n0 (Nat.le_trans Z0 K484.1) FP484_0 F485 (by decide) (by decide)) hZ (ww 76 rfl) (ww 68 rfl) (by decide) (by decide)) (g := (mkF m 485 #[iv p0, iv p1, iv p2, iv p3, iv p4, iv p5, iv (1114112 : Int32), iv f1, iv l1, iv f2, iv l2, iv f3, iv l3, rv b8, rv b16, iv (1 : Int32), rv b484, iv f1, iv v493, iv f2, iv v494, iv f3, iv v495, iv nk6] [(.ref b8), (.int (3 : Int32)), (.ref b484)])) rfl (by rw [hml]; rfl) (argsL := [(.ref b484), (.int (3 : Int32)), (.ref b8)]) (rest := []) (lenOf own_pd8 rfl) rfl (by show 2 * 0 + _ ≤ _; exact Nat.le_of_eq rfl) (hb hby at_485) (fun _ _ => ⟨rfl, e499, (by decide : 7 + 0 ≤ _), (by decide : 30 + 0 ≤ _)⟩)
            dsimp only [Pt.U, Pt.locs, Pt.cells, Pt.slots] at X500 l500 y500 z500 st500 hQ500
            subst l500 y500 z500
            obtain ⟨rfl, N500q, e500⟩ := hQ500
            have N500 := Fr.app N499 N500q
            refine ownGo (T' := T500) (f' := (mkF m 488 #[iv p0, iv p1, iv p2, iv p3, iv p4, iv p5, iv (1114112 : Int32), iv f1, iv l1, iv f2, iv l2, iv f3, iv l3, rv b8, rv b16, iv (1 : Int32), rv b484, iv f1, iv v493, iv f2, iv v494, iv f3, iv v495, iv nk6] [(.int (1 : Int32))])) (st500) ?_
            refine ow_ifNo (q := 491) X500 hx (hb hby at_488) rfl (Jvm.Free.XT.i0_eq_f (by decide)) ?_
            refine ow_aload (q := 493) X500 hx (hb hby at_491) rfl rfl rfl ?_
            refine ow_iconst (q := 494) X500 hx (4 : Int32) (hb hby at_493) rfl rfl ?_
            refine ow_aload (q := 496) X500 hx (hb hby at_494) rfl rfl rfl ?_
            obtain ⟨_, _, ⟨T501, L501, k501, n501⟩, -, X501, ⟨Lc501, hQ501, l501, y501, z501⟩, st501⟩ := Jvm.LawKit.callS X500 hx (y := (⟨"com/example/shapewright/shapewright/regex/BuilderAddPinLaw", "okAt", "([II[I)Z"⟩ : MethodName)) hown (mvT hZ (ww 74 rfl)) (mvT hZ (ww 75 rfl)) (mvT hZ (ww 68 rfl)) (mvT hZ (ww 76 rfl)) (by decide) (backOf (W := 0) (rm_okA l Z av0 hw [] b484 (4 : Int32) b8 1 (1 : Int32) (ownUpd (fun _ => (0 : Int32)) 0 f1) (ownUpd (ownUpd (ownUpd (ownUpd (ownUpd (ownUpd (fun _ => (0 : Int32)) 0 f1) 1 l1) 2 f2) 3 l2) 4 f3) 5 l3) T484.heap n0 (Nat.le_trans Z0 K484.1) FP484_0 F485 (by decide) (by decide)) hZ (ww 76 rfl) (ww 68 rfl) (by decide) (by decide)) (g := (mkF m 496 #[iv p0, iv p1, iv p2, iv p3, iv p4, iv p5, iv (1114112 : Int32), iv f1, iv l1, iv f2, iv l2, iv f3, iv l3, rv b8, rv b16, iv (1 : Int32), rv b484, iv f1, iv v493, iv f2, iv v494, iv f3, iv v495, iv nk6] [(.ref b8), (.int (4 : Int32)), (.ref b484)])) rfl (by rw [hml]; rfl) (argsL := [(.ref b484), (.int (4 : Int32)), (.ref b8)]) (rest := []) (lenOf own_pd8 rfl) rfl (by show 2 * 0 + _ ≤ _; exact Nat.le_of_eq rfl) (hb hby at_496) (fun _ _ => ⟨rfl, e500, (by decide : 7 + 0 ≤ _), (by decide : 30 + 0 ≤ _)⟩)
            dsimp only [Pt.U, Pt.locs, Pt.cells, Pt.slots] at X501 l501 y501 z501 st501 hQ501
            subst l501 y501 z501
            obtain ⟨rfl, N501q, e501⟩ := hQ501
            have N501 := Fr.app N500 N501q
            refine ownGo (T' := T501) (f' := (mkF m 499 #[iv p0, iv p1, iv p2, iv p3, iv p4, iv p5, iv (1114112 : Int32), iv f1, iv l1, iv f2, iv l2, iv f3, iv l3, rv b8, rv b16, iv (1 : Int32), rv b484, iv f1, iv v493, iv f2, iv v494, iv f3, iv v495, iv nk6] [(.int (1 : Int32))])) (st501) ?_
            refine ow_ifNo (q := 502) X501 hx (hb hby at_499) rfl (Jvm.Free.XT.i0_eq_f (by decide)) ?_
            refine ow_aload (q := 504) X501 hx (hb hby at_502) rfl rfl rfl ?_
            refine ow_iconst (q := 505) X501 hx (5 : Int32) (hb hby at_504) rfl rfl ?_
            refine ow_aload (q := 507) X501 hx (hb hby at_505) rfl rfl rfl ?_
            obtain ⟨_, _, ⟨T502, L502, k502, n502⟩, -, X502, ⟨Lc502, hQ502, l502, y502, z502⟩, st502⟩ := Jvm.LawKit.callS X501 hx (y := (⟨"com/example/shapewright/shapewright/regex/BuilderAddPinLaw", "okAt", "([II[I)Z"⟩ : MethodName)) hown (mvT hZ (ww 74 rfl)) (mvT hZ (ww 75 rfl)) (mvT hZ (ww 68 rfl)) (mvT hZ (ww 76 rfl)) (by decide) (backOf (W := 0) (rm_okA l Z av0 hw [] b484 (5 : Int32) b8 1 (1 : Int32) (ownUpd (fun _ => (0 : Int32)) 0 f1) (ownUpd (ownUpd (ownUpd (ownUpd (ownUpd (ownUpd (fun _ => (0 : Int32)) 0 f1) 1 l1) 2 f2) 3 l2) 4 f3) 5 l3) T484.heap n0 (Nat.le_trans Z0 K484.1) FP484_0 F485 (by decide) (by decide)) hZ (ww 76 rfl) (ww 68 rfl) (by decide) (by decide)) (g := (mkF m 507 #[iv p0, iv p1, iv p2, iv p3, iv p4, iv p5, iv (1114112 : Int32), iv f1, iv l1, iv f2, iv l2, iv f3, iv l3, rv b8, rv b16, iv (1 : Int32), rv b484, iv f1, iv v493, iv f2, iv v494, iv f3, iv v495, iv nk6] [(.ref b8), (.int (5 : Int32)), (.ref b484)])) rfl (by rw [hml]; rfl) (argsL := [(.ref b484), (.int (5 : Int32)), (.ref b8)]) (rest := []) (lenOf own_pd8 rfl) rfl (by show 2 * 0 + _ ≤ _; exact Nat.le_of_eq rfl) (hb hby at_507) (fun _ _ => ⟨rfl, e501, (by decide : 7 + 0 ≤ _), (by decide : 30 + 0 ≤ _)⟩)
            dsimp only [Pt.U, Pt.locs, Pt.cells, Pt.slots] at X502 l502 y502 z502 st502 hQ502
            subst l502 y502 z502
            obtain ⟨rfl, N502q, e502⟩ := hQ502
            have N502 := Fr.app N501 N502q
            refine ownGo (T' := T502) (f' := (mkF m 510 #[iv p0, iv p1, iv p2, iv p3, iv p4, iv p5, iv (1114112 : Int32), iv f1, iv l1, iv f2, iv l2, iv f3, iv l3, rv b8, rv b16, iv (1 : Int32), rv b484, iv f1, iv v493, iv f2, iv v494, iv f3, iv v495, iv nk6] [(.int (1 : Int32))])) (st502) ?_
            refine ow_ifNo (q := 513) X502 hx (hb hby at_510) rfl (Jvm.Free.XT.i0_eq_f (by decide)) ?_
            refine ow_iconst (q := 514) X502 hx (1 : Int32) (hb hby at_513) rfl rfl ?_
            refine ow_goto (q := 518) X502 hx (hb hby at_514) (by decide) (by decide) ?_
            refine ownRetN X502 hx (r := (1 : Int32)) (Or.inl rfl) Bd.returns (hb hby at_518) hlk (by decide) (by decide) (by decide) ?_
            exact ⟨rfl, N502⟩
          have cut386_503 : ∀ (nk5 : Int32) (Tc503 : State) (lc503 : List Loc), Stand p l e room_1 s m #[(.int p0), (.int p1), (.int p2), (.int p3), (.int p4), (.int p5)] below meth c Tc503 lc503 7 30 → Tc503.heap = T484.heap → Fr n0 lc503 → (nk5.toInt = (own_s5 f1 l1 f2 l2 f3 l3 f1 v493 f2 v494 f3) ∧ 0 ≤ nk5.toInt ∧ nk5.toInt ≤ ((5 : Nat) : Int)) → ownEnds p e below s (Q_law Z p0 p1 p2 p3 p4 p5 h0 n0) 24 192 Tc503 (mkF m 386 #[iv p0, iv p1, iv p2, iv p3, iv p4, iv p5, iv (1114112 : Int32), iv f1, iv l1, iv f2, iv l2, iv f3, iv l3, rv b8, rv b16, iv (1 : Int32), rv b484, iv f1, iv v493, iv f2, iv v494, iv f3, iv v495, iv nk5] []) := by
            intro nk5 Tc503 lc503 Xc503 ec503 Nc503 hn5
            refine ow_aload (q := 388) Xc503 hx (hb hby at_386) rfl rfl rfl ?_
            refine ow_iload (q := 390) Xc503 hx (hb hby at_388) rfl rfl ?_
            obtain ⟨_, _, ⟨T504, L504, k504, n504⟩, -, X504, ⟨Lc504, hQ504, l504, y504, z504⟩, st504⟩ := Jvm.LawKit.callS Xc503 hx (y := (⟨"com/example/shapewright/shapewright/regex/BuilderAddPinLaw", "ch", "([II)Z"⟩ : MethodName)) hown (mvT hZ (ww 66 rfl)) (mvT hZ (ww 67 rfl)) (mvT hZ (ww 68 rfl)) (mvT hZ (ww 69 rfl)) (by decide) (backOf (W := 0) (rm_ch l Z av0 hw [] b8 v495 (ownUpd (ownUpd (ownUpd (ownUpd (ownUpd (ownUpd (fun _ => (0 : Int32)) 0 f1) 1 l1) 2 f2) 3 l2) 4 f3) 5 l3) T484.heap n0 (Nat.le_trans Z0 K484.1) F485) hZ (ww 69 rfl) (ww 68 rfl) (by decide) (by decide)) (g := (mkF m 390 #[iv p0, iv p1, iv p2, iv p3, iv p4, iv p5, iv (1114112 : Int32), iv f1, iv l1, iv f2, iv l2, iv f3, iv l3, rv b8, rv b16, iv (1 : Int32), rv b484, iv f1, iv v493, iv f2, iv v494, iv f3, iv v495, iv nk5] [(.int v495), (.ref b8)])) rfl (by rw [hml]; rfl) (argsL := [(.ref b8), (.int v495)]) (rest := []) (lenOf own_pd3 rfl) rfl (by show 2 * 0 + _ ≤ _; exact Nat.le_of_eq rfl) (hb hby at_390) (fun _ _ => ⟨rfl, ec503, (by decide : 7 + 0 ≤ _), (by decide : 30 + 0 ≤ _)⟩)
            dsimp only [Pt.U, Pt.locs, Pt.cells, Pt.slots] at X504 l504 y504 z504 st504 hQ504
            subst l504 y504 z504
            obtain ⟨rfl, N504q, e504⟩ := hQ504
            have N504 := Fr.app Nc503 N504q
            refine ownGo (T' := T504) (f' := (mkF m 393 #[iv p0, iv p1, iv p2, iv p3, iv p4, iv p5, iv (1114112 : Int32), iv f1, iv l1, iv f2, iv l2, iv f3, iv l3, rv b8, rv b16, iv (1 : Int32), rv b484, iv f1, iv v493, iv f2, iv v494, iv f3, iv v495, iv nk5] [(.int (own_ch f1 l1 f2 l2 f3 l3 v495))])) (st504) ?_
            by_cases hc393_505 : (own_ch f1 l1 f2 l2 f3 l3 v495) = (0 : Int32)
            · refine ow_ifYes (q := 434) X504 hx (hb hby at_393) (Jvm.Free.XT.i0_eq_t hc393_505) (by decide) (by decide) ?_
              exact cut434_496 nk5 _ _ X504 e504 N504 (own_nk0 (k := 5) hn5 (by simp [hc393_505]))
            · refine ow_ifNo (q := 396) X504 hx (hb hby at_393) rfl (Jvm.Free.XT.i0_eq_f hc393_505) ?_
              refine ow_iload (q := 398) X504 hx (hb hby at_396) rfl rfl ?_
              refine ow_iload (q := 400) X504 hx (hb hby at_398) rfl rfl ?_
              by_cases hc400_506 : v495 = f1
              · refine ow_icmpYes (q := 434) X504 hx (hb hby at_400) (Jvm.Free.XT.ii_eq_t hc400_506) (by decide) (by decide) ?_
                exact cut434_496 nk5 _ _ X504 e504 N504 (own_nk0 (k := 5) hn5 (Or.inr (by simp [hc400_506])))
              · refine ow_icmpNo (q := 403) X504 hx (hb hby at_400) rfl (Jvm.Free.XT.ii_eq_f hc400_506) ?_
                refine ow_iload (q := 405) X504 hx (hb hby at_403) rfl rfl ?_
                refine ow_iload (q := 407) X504 hx (hb hby at_405) rfl rfl ?_
                by_cases hc407_507 : v495 = v493
                · refine ow_icmpYes (q := 434) X504 hx (hb hby at_407) (Jvm.Free.XT.ii_eq_t hc407_507) (by decide) (by decide) ?_
                  exact cut434_496 nk5 _ _ X504 e504 N504 (own_nk0 (k := 5) hn5 (Or.inr (by simp [hc407_507])))
                · refine ow_icmpNo (q := 410) X504 hx (hb hby at_407) rfl (Jvm.Free.XT.ii_eq_f hc407_507) ?_
                  refine ow_iload (q := 412) X504 hx (hb hby at_410) rfl rfl ?_
                  refine ow_iload (q := 414) X504 hx (hb hby at_412) rfl rfl ?_
                  by_cases hc414_508 : v495 = f2
                  · refine ow_icmpYes (q := 434) X504 hx (hb hby at_414) (Jvm.Free.XT.ii_eq_t hc414_508) (by decide) (by decide) ?_
                    exact cut434_496 nk5 _ _ X504 e504 N504 (own_nk0 (k := 5) hn5 (Or.inr (by simp [hc414_508])))
                  · refine ow_icmpNo (q := 417) X504 hx (hb hby at_414) rfl (Jvm.Free.XT.ii_eq_f hc414_508) ?_
                    refine ow_iload (q := 419) X504 hx (hb hby at_417) rfl rfl ?_
                    refine ow_iload (q := 421) X504 hx (hb hby at_419) rfl rfl ?_
                    by_cases hc421_509 : v495 = v494
                    · refine ow_icmpYes (q := 434) X504 hx (hb hby at_421) (Jvm.Free.XT.ii_eq_t hc421_509) (by decide) (by decide) ?_
                      exact cut434_496 nk5 _ _ X504 e504 N504 (own_nk0 (k := 5) hn5 (Or.inr (by simp [hc421_509])))
                    · refine ow_icmpNo (q := 424) X504 hx (hb hby at_421) rfl (Jvm.Free.XT.ii_eq_f hc421_509) ?_
                      refine ow_iload (q := 426) X504 hx (hb hby at_424) rfl rfl ?_
                      refine ow_iload (q := 428) X504 hx (hb hby at_426) rfl rfl ?_
                      by_cases hc428_510 : v495 = f3
                      · refine ow_icmpYes (q := 434) X504 hx (hb hby at_428) (Jvm.Free.XT.ii_eq_t hc428_510) (by decide) (by decide) ?_
                        exact cut434_496 nk5 _ _ X504 e504 N504 (own_nk0 (k := 5) hn5 (Or.inr (by simp [hc428_510])))
                      · refine ow_icmpNo (q := 431) X504 hx (hb hby at_428) rfl (Jvm.Free.XT.ii_eq_f hc428_510) ?_
                        refine ow_iinc (q := 434) X504 hx (L' := #[iv p0, iv p1, iv p2, iv p3, iv p4, iv p5, iv (1114112 : Int32), iv f1, iv l1, iv f2, iv l2, iv f3, iv l3, rv b8, rv b16, iv (1 : Int32), rv b484, iv f1, iv v493, iv f2, iv v494, iv f3, iv v495, iv (nk5 + (1 : Int32))]) (hb hby at_431) rfl rfl rfl ?_
                        generalize hv_v511 : (nk5 + (1 : Int32)) = v511
                        exact cut434_496 v511 _ _ X504 e504 N504 (own_nk1 (k := 5) hn5 hv_v511 (by simp [hc393_505, hc400_506, hc407_507, hc414_508, hc421_509, hc428_510]))
          have cut345_512 : ∀ (nk4 : Int32) (Tc512 : State) (lc512 : List Loc), Stand p l e room_1 s m #[(.int p0), (.int p1), (.int p2), (.int p3), (.int p4), (.int p5)] below meth c Tc512 lc512 7 30 → Tc512.heap = T484.heap → Fr n0 lc512 → (nk4.toInt = (own_s4 f1 l1 f2 l2 f3 l3 f1 v493 f2 v494) ∧ 0 ≤ nk4.toInt ∧ nk4.toInt ≤ ((4 : Nat) : Int)) → ownEnds p e below s (Q_law Z p0 p1 p2 p3 p4 p5 h0 n0) 24 192 Tc512 (mkF m 345 #[iv p0, iv p1, iv p2, iv p3, iv p4, iv p5, iv (1114112 : Int32), iv f1, iv l1, iv f2, iv l2, iv f3, iv l3, rv b8, rv b16, iv (1 : Int32), rv b484, iv f1, iv v493, iv f2, iv v494, iv f3, iv v495, iv nk4] []) := by
            intro nk4 Tc512 lc512 Xc512 ec512 Nc512 hn4
            refine ow_aload (q := 347) Xc512 hx (hb hby at_345) rfl rfl rfl ?_
            refine ow_iload (q := 349) Xc512 hx (hb hby at_347) rfl rfl ?_
            obtain ⟨_, _, ⟨T513, L513, k513, n513⟩, -, X513, ⟨Lc513, hQ513, l513, y513, z513⟩, st513⟩ := Jvm.LawKit.callS Xc512 hx (y := (⟨"com/example/shapewright/shapewright/regex/BuilderAddPinLaw", "ch", "([II)Z"⟩ : MethodName)) hown (mvT hZ (ww 66 rfl)) (mvT hZ (ww 67 rfl)) (mvT hZ (ww 68 rfl)) (mvT hZ (ww 69 rfl)) (by decide) (backOf (W := 0) (rm_ch l Z av0 hw [] b8 f3 (ownUpd (ownUpd (ownUpd (ownUpd (ownUpd (ownUpd (fun _ => (0 : Int32)) 0 f1) 1 l1) 2 f2) 3 l2) 4 f3) 5 l3) T484.heap n0 (Nat.le_trans Z0 K484.1) F485) hZ (ww 69 rfl) (ww 68 rfl) (by decide) (by decide)) (g := (mkF m 349 #[iv p0, iv p1, iv p2, iv p3, iv p4, iv p5, iv (1114112 : Int32), iv f1, iv l1, iv f2, iv l2, iv f3, iv l3, rv b8, rv b16, iv (1 : Int32), rv b484, iv f1, iv v493, iv f2, iv v494, iv f3, iv v495, iv nk4] [(.int f3), (.ref b8)])) rfl (by rw [hml]; rfl) (argsL := [(.ref b8), (.int f3)]) (rest := []) (lenOf own_pd3 rfl) rfl (by show 2 * 0 + _ ≤ _; exact Nat.le_of_eq rfl) (hb hby at_349) (fun _ _ => ⟨rfl, ec512, (by decide : 7 + 0 ≤ _), (by decide : 30 + 0 ≤ _)⟩)
            dsimp only [Pt.U, Pt.locs, Pt.cells, Pt.slots] at X513 l513 y513 z513 st513 hQ513
            subst l513 y513 z513
            obtain ⟨rfl, N513q, e513⟩ := hQ513
            have N513 := Fr.app Nc512 N513q
            refine ownGo (T' := T513) (f' := (mkF m 352 #[iv p0, iv p1, iv p2, iv p3, iv p4, iv p5, iv (1114112 : Int32), iv f1, iv l1, iv f2, iv l2, iv f3, iv l3, rv b8, rv b16, iv (1 : Int32), rv b484, iv f1, iv v493, iv f2, iv v494, iv f3, iv v495, iv nk4] [(.int (own_ch f1 l1 f2 l2 f3 l3 f3))])) (st513) ?_
            by_cases hc352_514 : (own_ch f1 l1 f2 l2 f3 l3 f3) = (0 : Int32)
            · refine ow_ifYes (q := 386) X513 hx (hb hby at_352) (Jvm.Free.XT.i0_eq_t hc352_514) (by decide) (by decide) ?_
              exact cut386_503 nk4 _ _ X513 e513 N513 (own_nk0 (k := 4) hn4 (by simp [hc352_514]))
            · refine ow_ifNo (q := 355) X513 hx (hb hby at_352) rfl (Jvm.Free.XT.i0_eq_f hc352_514) ?_
              refine ow_iload (q := 357) X513 hx (hb hby at_355) rfl rfl ?_
              refine ow_iload (q := 359) X513 hx (hb hby at_357) rfl rfl ?_
              by_cases hc359_515 : f3 = f1
              · refine ow_icmpYes (q := 386) X513 hx (hb hby at_359) (Jvm.Free.XT.ii_eq_t hc359_515) (by decide) (by decide) ?_
                exact cut386_503 nk4 _ _ X513 e513 N513 (own_nk0 (k := 4) hn4 (Or.inr (by simp [hc359_515])))
              · refine ow_icmpNo (q := 362) X513 hx (hb hby at_359) rfl (Jvm.Free.XT.ii_eq_f hc359_515) ?_
                refine ow_iload (q := 364) X513 hx (hb hby at_362) rfl rfl ?_
                refine ow_iload (q := 366) X513 hx (hb hby at_364) rfl rfl ?_
                by_cases hc366_516 : f3 = v493
                · refine ow_icmpYes (q := 386) X513 hx (hb hby at_366) (Jvm.Free.XT.ii_eq_t hc366_516) (by decide) (by decide) ?_
                  exact cut386_503 nk4 _ _ X513 e513 N513 (own_nk0 (k := 4) hn4 (Or.inr (by simp [hc366_516])))
                · refine ow_icmpNo (q := 369) X513 hx (hb hby at_366) rfl (Jvm.Free.XT.ii_eq_f hc366_516) ?_
                  refine ow_iload (q := 371) X513 hx (hb hby at_369) rfl rfl ?_
                  refine ow_iload (q := 373) X513 hx (hb hby at_371) rfl rfl ?_
                  by_cases hc373_517 : f3 = f2
                  · refine ow_icmpYes (q := 386) X513 hx (hb hby at_373) (Jvm.Free.XT.ii_eq_t hc373_517) (by decide) (by decide) ?_
                    exact cut386_503 nk4 _ _ X513 e513 N513 (own_nk0 (k := 4) hn4 (Or.inr (by simp [hc373_517])))
                  · refine ow_icmpNo (q := 376) X513 hx (hb hby at_373) rfl (Jvm.Free.XT.ii_eq_f hc373_517) ?_
                    refine ow_iload (q := 378) X513 hx (hb hby at_376) rfl rfl ?_
                    refine ow_iload (q := 380) X513 hx (hb hby at_378) rfl rfl ?_
                    by_cases hc380_518 : f3 = v494
                    · refine ow_icmpYes (q := 386) X513 hx (hb hby at_380) (Jvm.Free.XT.ii_eq_t hc380_518) (by decide) (by decide) ?_
                      exact cut386_503 nk4 _ _ X513 e513 N513 (own_nk0 (k := 4) hn4 (Or.inr (by simp [hc380_518])))
                    · refine ow_icmpNo (q := 383) X513 hx (hb hby at_380) rfl (Jvm.Free.XT.ii_eq_f hc380_518) ?_
                      refine ow_iinc (q := 386) X513 hx (L' := #[iv p0, iv p1, iv p2, iv p3, iv p4, iv p5, iv (1114112 : Int32), iv f1, iv l1, iv f2, iv l2, iv f3, iv l3, rv b8, rv b16, iv (1 : Int32), rv b484, iv f1, iv v493, iv f2, iv v494, iv f3, iv v495, iv (nk4 + (1 : Int32))]) (hb hby at_383) rfl rfl rfl ?_
                      generalize hv_v519 : (nk4 + (1 : Int32)) = v519
                      exact cut386_503 v519 _ _ X513 e513 N513 (own_nk1 (k := 4) hn4 hv_v519 (by simp [hc352_514, hc359_515, hc366_516, hc373_517, hc380_518]))
          have cut311_520 : ∀ (nk3 : Int32) (Tc520 : State) (lc520 : List Loc), Stand p l e room_1 s m #[(.int p0), (.int p1), (.int p2), (.int p3), (.int p4), (.int p5)] below meth c Tc520 lc520 7 30 → Tc520.heap = T484.heap → Fr n0 lc520 → (nk3.toInt = (own_s3 f1 l1 f2 l2 f3 l3 f1 v493 f2) ∧ 0 ≤ nk3.toInt ∧ nk3.toInt ≤ ((3 : Nat) : Int)) → ownEnds p e below s (Q_law Z p0 p1 p2 p3 p4 p5 h0 n0) 24 192 Tc520 (mkF m 311 #[iv p0, iv p1, iv p2, iv p3, iv p4, iv p5, iv (1114112 : Int32), iv f1, iv l1, iv f2, iv l2, iv f3, iv l3, rv b8, rv b16, iv (1 : Int32), rv b484, iv f1, iv v493, iv f2, iv v494, iv f3, iv v495, iv nk3] []) := by
            intro nk3 Tc520 lc520 Xc520 ec520 Nc520 hn3
            refine ow_aload (q := 313) Xc520 hx (hb hby at_311) rfl rfl rfl ?_
            refine ow_iload (q := 315) Xc520 hx (hb hby at_313) rfl rfl ?_
            obtain ⟨_, _, ⟨T521, L521, k521, n521⟩, -, X521, ⟨Lc521, hQ521, l521, y521, z521⟩, st521⟩ := Jvm.LawKit.callS Xc520 hx (y := (⟨"com/example/shapewright/shapewright/regex/BuilderAddPinLaw", "ch", "([II)Z"⟩ : MethodName)) hown (mvT hZ (ww 66 rfl)) (mvT hZ (ww 67 rfl)) (mvT hZ (ww 68 rfl)) (mvT hZ (ww 69 rfl)) (by decide) (backOf (W := 0) (rm_ch l Z av0 hw [] b8 v494 (ownUpd (ownUpd (ownUpd (ownUpd (ownUpd (ownUpd (fun _ => (0 : Int32)) 0 f1) 1 l1) 2 f2) 3 l2) 4 f3) 5 l3) T484.heap n0 (Nat.le_trans Z0 K484.1) F485) hZ (ww 69 rfl) (ww 68 rfl) (by decide) (by decide)) (g := (mkF m 315 #[iv p0, iv p1, iv p2, iv p3, iv p4, iv p5, iv (1114112 : Int32), iv f1, iv l1, iv f2, iv l2, iv f3, iv l3, rv b8, rv b16, iv (1 : Int32), rv b484, iv f1, iv v493, iv f2, iv v494, iv f3, iv v495, iv nk3] [(.int v494), (.ref b8)])) rfl (by rw [hml]; rfl) (argsL := [(.ref b8), (.int v494)]) (rest := []) (lenOf own_pd3 rfl) rfl (by show 2 * 0 + _ ≤ _; exact Nat.le_of_eq rfl) (hb hby at_315) (fun _ _ => ⟨rfl, ec520, (by decide : 7 + 0 ≤ _), (by decide : 30 + 0 ≤ _)⟩)
            dsimp only [Pt.U, Pt.locs, Pt.cells, Pt.slots] at X521 l521 y521 z521 st521 hQ521
            subst l521 y521 z521
            obtain ⟨rfl, N521q, e521⟩ := hQ521
            have N521 := Fr.app Nc520 N521q
            refine ownGo (T' := T521) (f' := (mkF m 318 #[iv p0, iv p1, iv p2, iv p3, iv p4, iv p5, iv (1114112 : Int32), iv f1, iv l1, iv f2, iv l2, iv f3, iv l3, rv b8, rv b16, iv (1 : Int32), rv b484, iv f1, iv v493, iv f2, iv v494, iv f3, iv v495, iv nk3] [(.int (own_ch f1 l1 f2 l2 f3 l3 v494))])) (st521) ?_
            by_cases hc318_522 : (own_ch f1 l1 f2 l2 f3 l3 v494) = (0 : Int32)
            · refine ow_ifYes (q := 345) X521 hx (hb hby at_318) (Jvm.Free.XT.i0_eq_t hc318_522) (by decide) (by decide) ?_
              exact cut345_512 nk3 _ _ X521 e521 N521 (own_nk0 (k := 3) hn3 (by simp [hc318_522]))
            · refine ow_ifNo (q := 321) X521 hx (hb hby at_318) rfl (Jvm.Free.XT.i0_eq_f hc318_522) ?_
              refine ow_iload (q := 323) X521 hx (hb hby at_321) rfl rfl ?_
              refine ow_iload (q := 325) X521 hx (hb hby at_323) rfl rfl ?_
              by_cases hc325_523 : v494 = f1
              · refine ow_icmpYes (q := 345) X521 hx (hb hby at_325) (Jvm.Free.XT.ii_eq_t hc325_523) (by decide) (by decide) ?_
                exact cut345_512 nk3 _ _ X521 e521 N521 (own_nk0 (k := 3) hn3 (Or.inr (by simp [hc325_523])))
              · refine ow_icmpNo (q := 328) X521 hx (hb hby at_325) rfl (Jvm.Free.XT.ii_eq_f hc325_523) ?_
                refine ow_iload (q := 330) X521 hx (hb hby at_328) rfl rfl ?_
                refine ow_iload (q := 332) X521 hx (hb hby at_330) rfl rfl ?_
                by_cases hc332_524 : v494 = v493
                · refine ow_icmpYes (q := 345) X521 hx (hb hby at_332) (Jvm.Free.XT.ii_eq_t hc332_524) (by decide) (by decide) ?_
                  exact cut345_512 nk3 _ _ X521 e521 N521 (own_nk0 (k := 3) hn3 (Or.inr (by simp [hc332_524])))
                · refine ow_icmpNo (q := 335) X521 hx (hb hby at_332) rfl (Jvm.Free.XT.ii_eq_f hc332_524) ?_
                  refine ow_iload (q := 337) X521 hx (hb hby at_335) rfl rfl ?_
                  refine ow_iload (q := 339) X521 hx (hb hby at_337) rfl rfl ?_
                  by_cases hc339_525 : v494 = f2
                  · refine ow_icmpYes (q := 345) X521 hx (hb hby at_339) (Jvm.Free.XT.ii_eq_t hc339_525) (by decide) (by decide) ?_
                    exact cut345_512 nk3 _ _ X521 e521 N521 (own_nk0 (k := 3) hn3 (Or.inr (by simp [hc339_525])))
                  · refine ow_icmpNo (q := 342) X521 hx (hb hby at_339) rfl (Jvm.Free.XT.ii_eq_f hc339_525) ?_
                    refine ow_iinc (q := 345) X521 hx (L' := #[iv p0, iv p1, iv p2, iv p3, iv p4, iv p5, iv (1114112 : Int32), iv f1, iv l1, iv f2, iv l2, iv f3, iv l3, rv b8, rv b16, iv (1 : Int32), rv b484, iv f1, iv v493, iv f2, iv v494, iv f3, iv v495, iv (nk3 + (1 : Int32))]) (hb hby at_342) rfl rfl rfl ?_
                    generalize hv_v526 : (nk3 + (1 : Int32)) = v526
                    exact cut345_512 v526 _ _ X521 e521 N521 (own_nk1 (k := 3) hn3 hv_v526 (by simp [hc318_522, hc325_523, hc332_524, hc339_525]))
          have cut284_527 : ∀ (nk2 : Int32) (Tc527 : State) (lc527 : List Loc), Stand p l e room_1 s m #[(.int p0), (.int p1), (.int p2), (.int p3), (.int p4), (.int p5)] below meth c Tc527 lc527 7 30 → Tc527.heap = T484.heap → Fr n0 lc527 → (nk2.toInt = (own_s2 f1 l1 f2 l2 f3 l3 f1 v493) ∧ 0 ≤ nk2.toInt ∧ nk2.toInt ≤ ((2 : Nat) : Int)) → ownEnds p e below s (Q_law Z p0 p1 p2 p3 p4 p5 h0 n0) 24 192 Tc527 (mkF m 284 #[iv p0, iv p1, iv p2, iv p3, iv p4, iv p5, iv (1114112 : Int32), iv f1, iv l1, iv f2, iv l2, iv f3, iv l3, rv b8, rv b16, iv (1 : Int32), rv b484, iv f1, iv v493, iv f2, iv v494, iv f3, iv v495, iv nk2] []) := by
            intro nk2 Tc527 lc527 Xc527 ec527 Nc527 hn2
            refine ow_aload (q := 286) Xc527 hx (hb hby at_284) rfl rfl rfl ?_
            refine ow_iload (q := 288) Xc527 hx (hb hby at_286) rfl rfl ?_
            obtain ⟨_, _, ⟨T528, L528, k528, n528⟩, -, X528, ⟨Lc528, hQ528, l528, y528, z528⟩, st528⟩ := Jvm.LawKit.callS Xc527 hx (y := (⟨"com/example/shapewright/shapewright/regex/BuilderAddPinLaw", "ch", "([II)Z"⟩ : MethodName)) hown (mvT hZ (ww 66 rfl)) (mvT hZ (ww 67 rfl)) (mvT hZ (ww 68 rfl)) (mvT hZ (ww 69 rfl)) (by decide) (backOf (W := 0) (rm_ch l Z av0 hw [] b8 f2 (ownUpd (ownUpd (ownUpd (ownUpd (ownUpd (ownUpd (fun _ => (0 : Int32)) 0 f1) 1 l1) 2 f2) 3 l2) 4 f3) 5 l3) T484.heap n0 (Nat.le_trans Z0 K484.1) F485) hZ (ww 69 rfl) (ww 68 rfl) (by decide) (by decide)) (g := (mkF m 288 #[iv p0, iv p1, iv p2, iv p3, iv p4, iv p5, iv (1114112 : Int32), iv f1, iv l1, iv f2, iv l2, iv f3, iv l3, rv b8, rv b16, iv (1 : Int32), rv b484, iv f1, iv v493, iv f2, iv v494, iv f3, iv v495, iv nk2] [(.int f2), (.ref b8)])) rfl (by rw [hml]; rfl) (argsL := [(.ref b8), (.int f2)]) (rest := []) (lenOf own_pd3 rfl) rfl (by show 2 * 0 + _ ≤ _; exact Nat.le_of_eq rfl) (hb hby at_288) (fun _ _ => ⟨rfl, ec527, (by decide : 7 + 0 ≤ _), (by decide : 30 + 0 ≤ _)⟩)
            dsimp only [Pt.U, Pt.locs, Pt.cells, Pt.slots] at X528 l528 y528 z528 st528 hQ528
            subst l528 y528 z528
            obtain ⟨rfl, N528q, e528⟩ := hQ528
            have N528 := Fr.app Nc527 N528q
            refine ownGo (T' := T528) (f' := (mkF m 291 #[iv p0, iv p1, iv p2, iv p3, iv p4, iv p5, iv (1114112 : Int32), iv f1, iv l1, iv f2, iv l2, iv f3, iv l3, rv b8, rv b16, iv (1 : Int32), rv b484, iv f1, iv v493, iv f2, iv v494, iv f3, iv v495, iv nk2] [(.int (own_ch f1 l1 f2 l2 f3 l3 f2))])) (st528) ?_
            by_cases hc291_529 : (own_ch f1 l1 f2 l2 f3 l3 f2) = (0 : Int32)
            · refine ow_ifYes (q := 311) X528 hx (hb hby at_291) (Jvm.Free.XT.i0_eq_t hc291_529) (by decide) (by decide) ?_
              exact cut311_520 nk2 _ _ X528 e528 N528 (own_nk0 (k := 2) hn2 (by simp [hc291_529]))
            · refine ow_ifNo (q := 294) X528 hx (hb hby at_291) rfl (Jvm.Free.XT.i0_eq_f hc291_529) ?_
              refine ow_iload (q := 296) X528 hx (hb hby at_294) rfl rfl ?_
              refine ow_iload (q := 298) X528 hx (hb hby at_296) rfl rfl ?_
              by_cases hc298_530 : f2 = f1
              · refine ow_icmpYes (q := 311) X528 hx (hb hby at_298) (Jvm.Free.XT.ii_eq_t hc298_530) (by decide) (by decide) ?_
                exact cut311_520 nk2 _ _ X528 e528 N528 (own_nk0 (k := 2) hn2 (Or.inr (by simp [hc298_530])))
              · refine ow_icmpNo (q := 301) X528 hx (hb hby at_298) rfl (Jvm.Free.XT.ii_eq_f hc298_530) ?_
                refine ow_iload (q := 303) X528 hx (hb hby at_301) rfl rfl ?_
                refine ow_iload (q := 305) X528 hx (hb hby at_303) rfl rfl ?_
                by_cases hc305_531 : f2 = v493
                · refine ow_icmpYes (q := 311) X528 hx (hb hby at_305) (Jvm.Free.XT.ii_eq_t hc305_531) (by decide) (by decide) ?_
                  exact cut311_520 nk2 _ _ X528 e528 N528 (own_nk0 (k := 2) hn2 (Or.inr (by simp [hc305_531])))
                · refine ow_icmpNo (q := 308) X528 hx (hb hby at_305) rfl (Jvm.Free.XT.ii_eq_f hc305_531) ?_
                  refine ow_iinc (q := 311) X528 hx (L' := #[iv p0, iv p1, iv p2, iv p3, iv p4, iv p5, iv (1114112 : Int32), iv f1, iv l1, iv f2, iv l2, iv f3, iv l3, rv b8, rv b16, iv (1 : Int32), rv b484, iv f1, iv v493, iv f2, iv v494, iv f3, iv v495, iv (nk2 + (1 : Int32))]) (hb hby at_308) rfl rfl rfl ?_
                  generalize hv_v532 : (nk2 + (1 : Int32)) = v532
                  exact cut311_520 v532 _ _ X528 e528 N528 (own_nk1 (k := 2) hn2 hv_v532 (by simp [hc291_529, hc298_530, hc305_531]))
          have cut264_533 : ∀ (nk1 : Int32) (Tc533 : State) (lc533 : List Loc), Stand p l e room_1 s m #[(.int p0), (.int p1), (.int p2), (.int p3), (.int p4), (.int p5)] below meth c Tc533 lc533 7 30 → Tc533.heap = T484.heap → Fr n0 lc533 → (nk1.toInt = (own_s1 f1 l1 f2 l2 f3 l3 f1) ∧ 0 ≤ nk1.toInt ∧ nk1.toInt ≤ ((1 : Nat) : Int)) → ownEnds p e below s (Q_law Z p0 p1 p2 p3 p4 p5 h0 n0) 24 192 Tc533 (mkF m 264 #[iv p0, iv p1, iv p2, iv p3, iv p4, iv p5, iv (1114112 : Int32), iv f1, iv l1, iv f2, iv l2, iv f3, iv l3, rv b8, rv b16, iv (1 : Int32), rv b484, iv f1, iv v493, iv f2, iv v494, iv f3, iv v495, iv nk1] []) := by
            intro nk1 Tc533 lc533 Xc533 ec533 Nc533 hn1
            refine ow_aload (q := 266) Xc533 hx (hb hby at_264) rfl rfl rfl ?_
            refine ow_iload (q := 268) Xc533 hx (hb hby at_266) rfl rfl ?_
            obtain ⟨_, _, ⟨T534, L534, k534, n534⟩, -, X534, ⟨Lc534, hQ534, l534, y534, z534⟩, st534⟩ := Jvm.LawKit.callS Xc533 hx (y := (⟨"com/example/shapewright/shapewright/regex/BuilderAddPinLaw", "ch", "([II)Z"⟩ : MethodName)) hown (mvT hZ (ww 66 rfl)) (mvT hZ (ww 67 rfl)) (mvT hZ (ww 68 rfl)) (mvT hZ (ww 69 rfl)) (by decide) (backOf (W := 0) (rm_ch l Z av0 hw [] b8 v493 (ownUpd (ownUpd (ownUpd (ownUpd (ownUpd (ownUpd (fun _ => (0 : Int32)) 0 f1) 1 l1) 2 f2) 3 l2) 4 f3) 5 l3) T484.heap n0 (Nat.le_trans Z0 K484.1) F485) hZ (ww 69 rfl) (ww 68 rfl) (by decide) (by decide)) (g := (mkF m 268 #[iv p0, iv p1, iv p2, iv p3, iv p4, iv p5, iv (1114112 : Int32), iv f1, iv l1, iv f2, iv l2, iv f3, iv l3, rv b8, rv b16, iv (1 : Int32), rv b484, iv f1, iv v493, iv f2, iv v494, iv f3, iv v495, iv nk1] [(.int v493), (.ref b8)])) rfl (by rw [hml]; rfl) (argsL := [(.ref b8), (.int v493)]) (rest := []) (lenOf own_pd3 rfl) rfl (by show 2 * 0 + _ ≤ _; exact Nat.le_of_eq rfl) (hb hby at_268) (fun _ _ => ⟨rfl, ec533, (by decide : 7 + 0 ≤ _), (by decide : 30 + 0 ≤ _)⟩)
            dsimp only [Pt.U, Pt.locs, Pt.cells, Pt.slots] at X534 l534 y534 z534 st534 hQ534
            subst l534 y534 z534
            obtain ⟨rfl, N534q, e534⟩ := hQ534
            have N534 := Fr.app Nc533 N534q
            refine ownGo (T' := T534) (f' := (mkF m 271 #[iv p0, iv p1, iv p2, iv p3, iv p4, iv p5, iv (1114112 : Int32), iv f1, iv l1, iv f2, iv l2, iv f3, iv l3, rv b8, rv b16, iv (1 : Int32), rv b484, iv f1, iv v493, iv f2, iv v494, iv f3, iv v495, iv nk1] [(.int (own_ch f1 l1 f2 l2 f3 l3 v493))])) (st534) ?_
            by_cases hc271_535 : (own_ch f1 l1 f2 l2 f3 l3 v493) = (0 : Int32)
            · refine ow_ifYes (q := 284) X534 hx (hb hby at_271) (Jvm.Free.XT.i0_eq_t hc271_535) (by decide) (by decide) ?_
              exact cut284_527 nk1 _ _ X534 e534 N534 (own_nk0 (k := 1) hn1 (by simp [hc271_535]))
            · refine ow_ifNo (q := 274) X534 hx (hb hby at_271) rfl (Jvm.Free.XT.i0_eq_f hc271_535) ?_
              refine ow_iload (q := 276) X534 hx (hb hby at_274) rfl rfl ?_
              refine ow_iload (q := 278) X534 hx (hb hby at_276) rfl rfl ?_
              by_cases hc278_536 : v493 = f1
              · refine ow_icmpYes (q := 284) X534 hx (hb hby at_278) (Jvm.Free.XT.ii_eq_t hc278_536) (by decide) (by decide) ?_
                exact cut284_527 nk1 _ _ X534 e534 N534 (own_nk0 (k := 1) hn1 (Or.inr (by simp [hc278_536])))
              · refine ow_icmpNo (q := 281) X534 hx (hb hby at_278) rfl (Jvm.Free.XT.ii_eq_f hc278_536) ?_
                refine ow_iinc (q := 284) X534 hx (L' := #[iv p0, iv p1, iv p2, iv p3, iv p4, iv p5, iv (1114112 : Int32), iv f1, iv l1, iv f2, iv l2, iv f3, iv l3, rv b8, rv b16, iv (1 : Int32), rv b484, iv f1, iv v493, iv f2, iv v494, iv f3, iv v495, iv (nk1 + (1 : Int32))]) (hb hby at_281) rfl rfl rfl ?_
                generalize hv_v537 : (nk1 + (1 : Int32)) = v537
                exact cut284_527 v537 _ _ X534 e534 N534 (own_nk1 (k := 1) hn1 hv_v537 (by simp [hc271_535, hc278_536]))
          refine ow_aload (q := 253) X484 hx (hb hby at_251) rfl rfl rfl ?_
          refine ow_iload (q := 255) X484 hx (hb hby at_253) rfl rfl ?_
          obtain ⟨_, _, ⟨T538, L538, k538, n538⟩, -, X538, ⟨Lc538, hQ538, l538, y538, z538⟩, st538⟩ := Jvm.LawKit.callS X484 hx (y := (⟨"com/example/shapewright/shapewright/regex/BuilderAddPinLaw", "ch", "([II)Z"⟩ : MethodName)) hown (mvT hZ (ww 66 rfl)) (mvT hZ (ww 67 rfl)) (mvT hZ (ww 68 rfl)) (mvT hZ (ww 69 rfl)) (by decide) (backOf (W := 0) (rm_ch l Z av0 hw [] b8 f1 (ownUpd (ownUpd (ownUpd (ownUpd (ownUpd (ownUpd (fun _ => (0 : Int32)) 0 f1) 1 l1) 2 f2) 3 l2) 4 f3) 5 l3) T484.heap n0 (Nat.le_trans Z0 K484.1) F485) hZ (ww 69 rfl) (ww 68 rfl) (by decide) (by decide)) (g := (mkF m 255 #[iv p0, iv p1, iv p2, iv p3, iv p4, iv p5, iv (1114112 : Int32), iv f1, iv l1, iv f2, iv l2, iv f3, iv l3, rv b8, rv b16, iv (1 : Int32), rv b484, iv f1, iv v493, iv f2, iv v494, iv f3, iv v495, iv (0 : Int32)] [(.int f1), (.ref b8)])) rfl (by rw [hml]; rfl) (argsL := [(.ref b8), (.int f1)]) (rest := []) (lenOf own_pd3 rfl) rfl (by show 2 * 0 + _ ≤ _; exact Nat.le_of_eq rfl) (hb hby at_255) (fun _ _ => ⟨rfl, rfl, (by decide : 7 + 0 ≤ _), (by decide : 30 + 0 ≤ _)⟩)
          dsimp only [Pt.U, Pt.locs, Pt.cells, Pt.slots] at X538 l538 y538 z538 st538 hQ538
          subst l538 y538 z538
          obtain ⟨rfl, N538q, e538⟩ := hQ538
          have N538 := Fr.app N484 N538q
          refine ownGo (T' := T538) (f' := (mkF m 258 #[iv p0, iv p1, iv p2, iv p3, iv p4, iv p5, iv (1114112 : Int32), iv f1, iv l1, iv f2, iv l2, iv f3, iv l3, rv b8, rv b16, iv (1 : Int32), rv b484, iv f1, iv v493, iv f2, iv v494, iv f3, iv v495, iv (0 : Int32)] [(.int (own_ch f1 l1 f2 l2 f3 l3 f1))])) (st538) ?_
          by_cases hc258_539 : (own_ch f1 l1 f2 l2 f3 l3 f1) = (0 : Int32)
          · refine ow_ifYes (q := 264) X538 hx (hb hby at_258) (Jvm.Free.XT.i0_eq_t hc258_539) (by decide) (by decide) ?_
            exact cut264_533 (0 : Int32) _ _ X538 e538 N538 (own_nk0 (k := 0) (by decide : (0 : Int32).toInt = (0 : Int) ∧ 0 ≤ (0 : Int32).toInt ∧ (0 : Int32).toInt ≤ ((0 : Nat) : Int)) (by simp [hc258_539]))
          · refine ow_ifNo (q := 261) X538 hx (hb hby at_258) rfl (Jvm.Free.XT.i0_eq_f hc258_539) ?_
            refine ow_iinc (q := 264) X538 hx (L' := #[iv p0, iv p1, iv p2, iv p3, iv p4, iv p5, iv (1114112 : Int32), iv f1, iv l1, iv f2, iv l2, iv f3, iv l3, rv b8, rv b16, iv (1 : Int32), rv b484, iv f1, iv v493, iv f2, iv v494, iv f3, iv v495, iv (1 : Int32)]) (hb hby at_261) rfl rfl rfl ?_
            exact cut264_533 (1 : Int32) _ _ X538 e538 N538 (own_nk1 (k := 0) (by decide : (0 : Int32).toInt = (0 : Int) ∧ 0 ≤ (0 : Int32).toInt ∧ (0 : Int32).toInt ≤ ((0 : Nat) : Int)) (by decide) (by simp [hc258_539]))
  exact cut90_7 v1 v2 v3 v4 v5 v6 _ _ X0 e0 N0 (own_rng hv_v1 hv_v2 hv_v3 hv_v4 hv_v5 hv_v6)
set_option maxRecDepth 65536 in
set_option maxHeartbeats 40000000 in
theorem comes_1 {Post : Tables → Env → Array Value → State → Outcome → State → Prop} (hpost : ∀ tb e args s v u, (limb_1_1.after args s (.returned v) u = true ∧ limb_1_2.after args s (.returned v) u = true ∧ True) → FrameEnd s (.returned v) u (Jvm.fieldLocs frame_1_writes args s ++ Jvm.arrayLocs frame_1_arrays args s ++ Jvm.staticLocs frame_1_statics s) 24 192 → Post tb e args s (.returned v) u) :
    ArmFor flags0 classFile x code maxLocals ret World_1 tables_1 room_1 Calls_1 rest_1 Pre_1 Post := by
  intro l hfl _ _ p e ha hc hk s m args below hf hA hF happ hP
  obtain ⟨hcalls, hrest, hpre⟩ := hP
  obtain ⟨-, -, -, hnamed, -, -, -, hat⟩ := (Spec.applies_iff hf).mp happ
  obtain ⟨hg, hn⟩ := and_e (Cond.before_iff.mp (show (Jvm.Cond.and given_1 narrow_1).before args s = true from hpre))
  obtain ⟨gg1, gg2⟩ := and_e hg
  obtain ⟨gg3, gg4⟩ := and_e gg2
  obtain ⟨gg5, gg6⟩ := and_e gg4
  obtain ⟨gg7, gg8⟩ := and_e gg6
  obtain ⟨gg9, gg10⟩ := and_e gg8
  obtain ⟨gg11, gg12⟩ := and_e gg10
  obtain ⟨w0, w1, w2, w3, w4, w5, rfl⟩ : ∃ w0 w1 w2 w3 w4 w5 : Value, args = #[w0, w1, w2, w3, w4, w5] := by
    have hs : args.size = 6 := by simpa [Cond.value, given_1] using gg1
    obtain ⟨L⟩ := args
    match L, hs with
    | [w0, w1, w2, w3, w4, w5], _ => exact ⟨w0, w1, w2, w3, w4, w5, rfl⟩
  have hw := fun d (hd : d ∈ tables_1) => atoms_spec (ws := Jvm.Cond.code x code maxLocals ret :: tables_1) hat d (List.mem_cons_of_mem _ hd)
  have hfit : Fit s := fun {y c} hc i hi => by
    obtain ⟨ha, rfl⟩ := Array.getElem?_eq_some_iff.mp hc
    have q := List.all_eq_true.mp ((Array.all_eq_true_iff_forall_mem.mp hF) _ (Array.getElem_mem ha)) i (List.mem_range.mpr hi)
    simpa [Array.getElem?_eq_getElem hi] using q
  obtain ⟨i0, ei0⟩ := is_v gg3
  obtain rfl : w0 = (.int i0) := Option.some.inj ei0
  obtain ⟨i1, ei1⟩ := is_v gg5
  obtain rfl : w1 = (.int i1) := Option.some.inj ei1
  obtain ⟨i2, ei2⟩ := is_v gg7
  obtain rfl : w2 = (.int i2) := Option.some.inj ei2
  obtain ⟨i3, ei3⟩ := is_v gg9
  obtain rfl : w3 = (.int i3) := Option.some.inj ei3
  obtain ⟨i4, ei4⟩ := is_v gg11
  obtain rfl : w4 = (.int i4) := Option.some.inj ei4
  obtain ⟨i5, ei5⟩ := is_v gg12
  obtain rfl : w5 = (.int i5) := Option.some.inj ei5
  obtain ⟨n, o, h1, h2, h3, _, L, rfl, ⟨rfl, N⟩, hq⟩ := rm_law l s _ hw tables_1 i0 i1 i2 i3 i4 i5  s.heap s.heap.size (Nat.le_refl _)  p e ha hc hk s m _ below hf ((Spec.applies_iff_loose hf).mp happ).1 ⟨rfl, State.Warmed39.refl s, rfl⟩ trivial
  refine ⟨n, _, h1, h2, h3, hpost _ _ _ _ _ _ ⟨Cond.after_iff.mpr rfl, Cond.after_iff.mpr (eq_i res_at (Term.int_eval (1)) rfl), trivial⟩ ⟨hq.1, hq.2.1, (hq.2.2.sift fun y hy => Or.inr (N y hy)).mono (by decide) (by decide)⟩⟩
theorem main_1_1 : Claimed_1_1 := comes_1 fun _ _ _ _ _ _ h hF => ⟨h.1, hF⟩
theorem main_1_2 : Claimed_1_2 := comes_1 fun _ _ _ _ _ _ h hF => ⟨h.2.1, hF⟩
end Jvm.Pilot.@@N@@
namespace Jvm.Pilot.@@N@@
open Jvm Jvm.ClassFile Sem Op Lib Jvm.Free Jvm.Stand Jvm.Pilot.@@N@@.Jvm.D
/-! MADE BY PROGRAM (witnessworld.py) out of the Statement's table words and the real class files: 13 classes; the members and pool entries that the words name. The judged class is class 1, her method 4. -/
namespace start1
open Jvm.ClassFile
def u (s : String) : CpInfo := .utf8 (stringToUtf16 s)
/-- a pool by its gaps: so many unusable entries, then the entry; so many at the end -/
def gap : Nat → List CpInfo → List CpInfo
  | 0, r => r
  | n + 1, r => .unusable :: gap n r
def poolList (es : List (Nat × CpInfo)) (last : Nat) : List CpInfo := es.foldr (fun e r => gap e.1 (e.2 :: r)) (gap last [])
def pool (es : List (Nat × CpInfo)) (last : Nat) : Array CpInfo := ⟨poolList es last⟩
def fileOf (pool : Array CpInfo) (this : Nat) (attrs : Array Attribute := #[]) (ms : Array MethodInfo := #[]) (fl : Nat := 33) (sup : Nat := 0) (ifs : Array Nat := #[]) (fds : Array FieldInfo := #[]) : ClassFile where
  minorVersion := 0
  majorVersion := 65
  constantPool := pool
  accessFlags := fl
  thisClass := this
  superClass := sup
  interfaces := ifs
  fields := fds
  methods := ms
  attributes := attrs
def plain (name : String) (sup : Option ClassId) : Class where
  name := name
  kind := .ordinary
  loader := none
  accessFlags := 33
  super := sup
  interfaces := #[]
  cf := none
  fields := #[]
  methods := #[]
  instanceTypes := #[]
  staticTypes := #[]
  resolved := #[]
  callSites := []
  init := .initialized
  statics := none
  mirror := none

def pool0 : Array CpInfo := pool [(5, u "<init>"), (0, u "()V"), (1, .class_ 10), (1, u "java/lang/Object"), (85, u "clone"), (0, u "()Ljava/lang/Object;")] 26

def k0c0 : Code := { maxStack := 0, maxLocals := 1, code := object_method_1_code, exceptionTable := #[], attributes := #[] }
def k0m0 : Method := { name := "<init>", desc := "()V", sig := { parameters := [], returnType := none }, accessFlags := 1, code := some k0c0 }
def k0m1 : Method := { name := "clone", desc := "()Ljava/lang/Object;", sig := { parameters := [], returnType := some (.object "java/lang/Object") }, accessFlags := 260, code := none }
/-- java/lang/Object -/
def k0 : Class := { plain "java/lang/Object" none with
  accessFlags := 33
  interfaces := #[]
  cf := some (fileOf pool0 8 #[] #[{ accessFlags := 1, nameIndex := 5, descriptorIndex := 6, attributes := #[] }, { accessFlags := 260, nameIndex := 96, descriptorIndex := 97, attributes := #[] }] 33 0 #[] #[])
  fields := #[]
  methods := #[k0m0, k0m1]
  instanceTypes := #[]
  staticTypes := #[]
  resolved := Array.replicate 124 none
  statics := none }

def pool1 : Array CpInfo := pool [(2, .class_ 4), (0, .nameAndType 5 6), (0, u "java/lang/Object"), (0, u "<init>"), (0, u "()V"), (0, .integer 1114111), (0, .methodref 9 10), (0, .class_ 11), (0, .nameAndType 12 13), (0, u "com/example/shapewright/shapewright/regex/BuilderAddPinLaw"), (0, u "in"), (0, u "([II)Z"), (0, .methodref 9 15), (0, .nameAndType 16 13), (0, u "ch"), (0, .integer 1114112), (0, .integer 2147483647), (0, .class_ 20), (0, u "com/example/shapewright/shapewright/regex/CodePointSet$Builder"), (0, .methodref 19 3), (0, .methodref 19 23), (0, .nameAndType 24 25), (0, u "add"), (0, u "(II)Lcom/example/shapewright/shapewright/regex/CodePointSet$Builder;"), (0, .methodref 19 27), (0, .nameAndType 28 29), (0, u "build"), (0, u "()Lcom/example/shapewright/shapewright/regex/CodePointSet;"), (0, .methodref 31 32), (0, .class_ 33), (0, .nameAndType 34 35), (0, u "com/example/shapewright/shapewright/regex/CodePointSet"), (0, u "edges"), (0, u "()[I"), (0, .methodref 9 37), (0, .nameAndType 38 39), (0, u "okAt"), (0, u "([II[I)Z"), (3, u "law"), (0, u "(IIIIII)Z")] 6

def k1m0 : Method := { name := "<init>", desc := "()V", sig := { parameters := [], returnType := none }, accessFlags := 1, code := none }
def k1c1 : Code := { maxStack := 3, maxLocals := 2, code := method_2_code, exceptionTable := #[], attributes := #[] }
def k1m1 : Method := { name := "in", desc := "([II)Z", sig := { parameters := [(.array .int), .int], returnType := some .boolean }, accessFlags := 10, code := some k1c1 }
def k1c2 : Code := { maxStack := 4, maxLocals := 2, code := method_3_code, exceptionTable := #[], attributes := #[] }
def k1m2 : Method := { name := "ch", desc := "([II)Z", sig := { parameters := [(.array .int), .int], returnType := some .boolean }, accessFlags := 10, code := some k1c2 }
def k1c3 : Code := { maxStack := 4, maxLocals := 3, code := method_4_code, exceptionTable := #[], attributes := #[] }
def k1m3 : Method := { name := "okAt", desc := "([II[I)Z", sig := { parameters := [(.array .int), .int, (.array .int)], returnType := some .boolean }, accessFlags := 10, code := some k1c3 }
def k1c4 : Code := { maxStack := 4, maxLocals := 24, code := code, exceptionTable := #[], attributes := #[] }
def k1m4 : Method := { name := "law", desc := "(IIIIII)Z", sig := { parameters := [.int, .int, .int, .int, .int, .int], returnType := some .boolean }, accessFlags := 9, code := some k1c4 }
/-- com/example/shapewright/shapewright/regex/BuilderAddPinLaw -/
def k1 : Class := { plain "com/example/shapewright/shapewright/regex/BuilderAddPinLaw" (some 0) with
  accessFlags := 49
  interfaces := #[]
  cf := some (fileOf pool1 9 #[] #[{ accessFlags := 1, nameIndex := 5, descriptorIndex := 6, attributes := #[] }, { accessFlags := 10, nameIndex := 12, descriptorIndex := 13, attributes := #[] }, { accessFlags := 10, nameIndex := 16, descriptorIndex := 13, attributes := #[] }, { accessFlags := 10, nameIndex := 38, descriptorIndex := 39, attributes := #[] }, { accessFlags := 9, nameIndex := 43, descriptorIndex := 44, attributes := #[] }] 49 2 #[] #[])
  fields := #[]
  methods := #[k1m0, k1m1, k1m2, k1m3, k1m4]
  instanceTypes := #[]
  staticTypes := #[]
  resolved := Array.replicate 51 none
  statics := none }

def pool2 : Array CpInfo := pool [(1, .methodref 2 3), (0, .class_ 4), (0, .nameAndType 5 6), (0, u "java/lang/Object"), (0, u "<init>"), (0, u "()V"), (0, .fieldref 8 9), (0, .class_ 10), (0, .nameAndType 11 12), (0, u "com/example/shapewright/shapewright/regex/CodePointSet$Builder"), (0, u "ranges"), (0, u "[I"), (0, .fieldref 8 14), (0, .nameAndType 15 16), (0, u "length"), (0, u "I"), (0, .methodref 18 19), (0, .class_ 20), (0, .nameAndType 21 22), (0, u "java/lang/Math"), (0, u "max"), (0, u "(II)I"), (0, .methodref 24 25), (0, .class_ 26), (0, .nameAndType 27 28), (0, u "java/util/Arrays"), (0, u "copyOf"), (0, u "([II)[I"), (0, .class_ 30), (0, u "com/example/shapewright/shapewright/regex/CodePointSet"), (0, .methodref 29 32), (0, .nameAndType 5 33), (0, u "([I)V"), (2, u "add"), (0, u "(II)Lcom/example/shapewright/shapewright/regex/CodePointSet$Builder;"), (1, u "build"), (0, u "()Lcom/example/shapewright/shapewright/regex/CodePointSet;")] 5

def k2c0 : Code := { maxStack := 2, maxLocals := 1, code := prog_19_method_1_code, exceptionTable := #[], attributes := #[] }
def k2m0 : Method := { name := "<init>", desc := "()V", sig := { parameters := [], returnType := none }, accessFlags := 0, code := some k2c0 }
def k2c1 : Code := { maxStack := 5, maxLocals := 3, code := prog_19_method_2_code, exceptionTable := #[], attributes := #[] }
def k2m1 : Method := { name := "add", desc := "(II)Lcom/example/shapewright/shapewright/regex/CodePointSet$Builder;", sig := { parameters := [.int, .int], returnType := some (.object "com/example/shapewright/shapewright/regex/CodePointSet$Builder") }, accessFlags := 0, code := some k2c1 }
def k2c2 : Code := { maxStack := 4, maxLocals := 1, code := prog_19_method_3_code, exceptionTable := #[], attributes := #[] }
def k2m2 : Method := { name := "build", desc := "()Lcom/example/shapewright/shapewright/regex/CodePointSet;", sig := { parameters := [], returnType := some (.object "com/example/shapewright/shapewright/regex/CodePointSet") }, accessFlags := 0, code := some k2c2 }
/-- com/example/shapewright/shapewright/regex/CodePointSet$Builder -/
def k2 : Class := { plain "com/example/shapewright/shapewright/regex/CodePointSet$Builder" (some 0) with
  accessFlags := 48
  interfaces := #[]
  cf := some (fileOf pool2 8 #[.nestHost 29] #[{ accessFlags := 0, nameIndex := 5, descriptorIndex := 6, attributes := #[] }, { accessFlags := 0, nameIndex := 36, descriptorIndex := 37, attributes := #[] }, { accessFlags := 0, nameIndex := 39, descriptorIndex := 40, attributes := #[] }] 48 2 #[] #[{ accessFlags := 2, nameIndex := 11, descriptorIndex := 12, attributes := #[] }, { accessFlags := 2, nameIndex := 15, descriptorIndex := 16, attributes := #[] }])
  fields := #[{ name := "ranges", type := (.array .int), accessFlags := 2, slot := 0, constantValue := 0 }, { name := "length", type := .int, accessFlags := 2, slot := 1, constantValue := 0 }]
  methods := #[k2m0, k2m1, k2m2]
  instanceTypes := #[(.array .int), .int]
  staticTypes := #[]
  resolved := Array.replicate 46 none
  statics := none }

def pool3 : Array CpInfo := pool [(1, .class_ 2), (0, u "java/lang/Math"), (1, .class_ 6), (1, u "java/lang/Object"), (0, u "<init>"), (0, u "()V"), (89, .class_ 100), (1, u "java/lang/Math$RandomNumberGeneratorHolder"), (71, u "negativeZeroFloatBits"), (0, u "J"), (2, u "negativeZeroDoubleBits"), (21, u "max"), (2, u "min"), (43, u "$assertionsDisabled"), (0, u "Z"), (88, u "(II)I"), (2, u "twoToTheDoubleScaleDown"), (0, u "D"), (4, u "twoToTheDoubleScaleUp"), (9, u "E"), (3, u "PI"), (2, u "TAU"), (2, u "DEGREES_TO_RADIANS"), (0, u "RADIANS_TO_DEGREES")] 94

def k3m0 : Method := { name := "<init>", desc := "()V", sig := { parameters := [], returnType := none }, accessFlags := 2, code := none }
def k3c1 : Code := { maxStack := 2, maxLocals := 2, code := jdk_29_method_65_code, exceptionTable := #[], attributes := #[] }
def k3m1 : Method := { name := "max", desc := "(II)I", sig := { parameters := [.int, .int], returnType := some .int }, accessFlags := 9, code := some k3c1 }
def k3c2 : Code := { maxStack := 2, maxLocals := 2, code := jdk_29_method_69_code, exceptionTable := #[], attributes := #[] }
def k3m2 : Method := { name := "min", desc := "(II)I", sig := { parameters := [.int, .int], returnType := some .int }, accessFlags := 9, code := some k3c2 }
/-- java/lang/Math -/
def k3 : Class := { plain "java/lang/Math" (some 0) with
  accessFlags := 49
  interfaces := #[]
  cf := some (fileOf pool3 1 #[.nestMembers #[98]] #[{ accessFlags := 2, nameIndex := 7, descriptorIndex := 8, attributes := #[] }, { accessFlags := 9, nameIndex := 198, descriptorIndex := 335, attributes := #[] }, { accessFlags := 9, nameIndex := 201, descriptorIndex := 335, attributes := #[] }] 49 4 #[] #[{ accessFlags := 25, nameIndex := 354, descriptorIndex := 339, attributes := #[] }, { accessFlags := 25, nameIndex := 358, descriptorIndex := 339, attributes := #[] }, { accessFlags := 25, nameIndex := 361, descriptorIndex := 339, attributes := #[] }, { accessFlags := 26, nameIndex := 364, descriptorIndex := 339, attributes := #[] }, { accessFlags := 26, nameIndex := 365, descriptorIndex := 339, attributes := #[] }, { accessFlags := 26, nameIndex := 172, descriptorIndex := 173, attributes := #[] }, { accessFlags := 26, nameIndex := 176, descriptorIndex := 173, attributes := #[] }, { accessFlags := 8, nameIndex := 344, descriptorIndex := 339, attributes := #[] }, { accessFlags := 8, nameIndex := 338, descriptorIndex := 339, attributes := #[] }, { accessFlags := 4120, nameIndex := 245, descriptorIndex := 246, attributes := #[] }])
  fields := #[{ name := "E", type := .double, accessFlags := 25, slot := 0, constantValue := 0 }, { name := "PI", type := .double, accessFlags := 25, slot := 1, constantValue := 0 }, { name := "TAU", type := .double, accessFlags := 25, slot := 2, constantValue := 0 }, { name := "DEGREES_TO_RADIANS", type := .double, accessFlags := 26, slot := 3, constantValue := 0 }, { name := "RADIANS_TO_DEGREES", type := .double, accessFlags := 26, slot := 4, constantValue := 0 }, { name := "negativeZeroFloatBits", type := .long, accessFlags := 26, slot := 5, constantValue := 0 }, { name := "negativeZeroDoubleBits", type := .long, accessFlags := 26, slot := 6, constantValue := 0 }, { name := "twoToTheDoubleScaleUp", type := .double, accessFlags := 8, slot := 7, constantValue := 0 }, { name := "twoToTheDoubleScaleDown", type := .double, accessFlags := 8, slot := 8, constantValue := 0 }, { name := "$assertionsDisabled", type := .boolean, accessFlags := 4120, slot := 9, constantValue := 0 }]
  methods := #[k3m0, k3m1, k3m2]
  instanceTypes := #[]
  staticTypes := #[.double, .double, .double, .double, .double, .long, .long, .double, .double, .boolean]
  resolved := Array.replicate 460 none
  statics := none }

def pool4 : Array CpInfo := pool [(3, .methodref 4 5), (0, .class_ 6), (0, .nameAndType 7 8), (0, u "java/lang/Object"), (0, u "<init>"), (0, u "()V"), (0, .fieldref 10 11), (0, .class_ 12), (0, .nameAndType 13 14), (0, u "com/example/shapewright/shapewright/regex/CodePointSet"), (0, u "ranges"), (0, u "[I"), (2, u "([I)V"), (10, .class_ 30), (1, u "java/util/Arrays"), (1, .class_ 33), (0, u "com/example/shapewright/shapewright/regex/CodePointSet$Builder"), (9, .integer 1114111), (0, .methodref 28 45), (0, .nameAndType 46 47), (0, u "copyOf"), (0, u "([II)[I"), (58, u "EMPTY"), (0, u "Lcom/example/shapewright/shapewright/regex/CodePointSet;"), (2, u "ALL"), (0, u "MAX"), (0, u "I"), (9, u "edges"), (0, u "()[I")] 35

def k4c0 : Code := { maxStack := 2, maxLocals := 2, code := prog_18_method_1_code, exceptionTable := #[], attributes := #[] }
def k4m0 : Method := { name := "<init>", desc := "([I)V", sig := { parameters := [(.array .int)], returnType := none }, accessFlags := 2, code := some k4c0 }
def k4c1 : Code := { maxStack := 5, maxLocals := 4, code := prog_18_method_7_code, exceptionTable := #[], attributes := #[] }
def k4m1 : Method := { name := "edges", desc := "()[I", sig := { parameters := [], returnType := some (.array .int) }, accessFlags := 0, code := some k4c1 }
/-- com/example/shapewright/shapewright/regex/CodePointSet -/
def k4 : Class := { plain "com/example/shapewright/shapewright/regex/CodePointSet" (some 0) with
  accessFlags := 48
  interfaces := #[]
  cf := some (fileOf pool4 10 #[.nestMembers #[32]] #[{ accessFlags := 2, nameIndex := 7, descriptorIndex := 17, attributes := #[] }, { accessFlags := 0, nameIndex := 122, descriptorIndex := 123, attributes := #[] }] 48 4 #[] #[{ accessFlags := 24, nameIndex := 111, descriptorIndex := 112, attributes := #[] }, { accessFlags := 24, nameIndex := 106, descriptorIndex := 107, attributes := #[] }, { accessFlags := 24, nameIndex := 110, descriptorIndex := 107, attributes := #[] }, { accessFlags := 18, nameIndex := 13, descriptorIndex := 14, attributes := #[] }])
  fields := #[{ name := "MAX", type := .int, accessFlags := 24, slot := 0, constantValue := 0 }, { name := "EMPTY", type := (.object "com/example/shapewright/shapewright/regex/CodePointSet"), accessFlags := 24, slot := 1, constantValue := 0 }, { name := "ALL", type := (.object "com/example/shapewright/shapewright/regex/CodePointSet"), accessFlags := 24, slot := 2, constantValue := 0 }, { name := "ranges", type := (.array .int), accessFlags := 18, slot := 0, constantValue := 0 }]
  methods := #[k4m0, k4m1]
  instanceTypes := #[(.array .int)]
  staticTypes := #[.int, (.object "com/example/shapewright/shapewright/regex/CodePointSet"), (.object "com/example/shapewright/shapewright/regex/CodePointSet")]
  resolved := Array.replicate 159 none
  statics := none }

def pool5 : Array CpInfo := pool [(2, .class_ 4), (1, u "java/lang/Object"), (0, u "<init>"), (0, u "()V"), (7, .class_ 16), (1, u "java/util/Arrays"), (57, .class_ 76), (1, u "java/util/Arrays$NaturalOrder"), (32, u "()Ljava/lang/Object;"), (3, .class_ 115), (1, u "java/util/Arrays$LegacyMergeSort"), (1, u "Z"), (10, .nameAndType 129 109), (0, u "clone"), (20, .methodref 151 152), (0, .class_ 153), (0, .nameAndType 154 155), (0, u "java/lang/System"), (0, u "arraycopy"), (0, u "(Ljava/lang/Object;ILjava/lang/Object;II)V"), (146, u "copyOf"), (1, .methodref 305 306), (0, .class_ 307), (0, .nameAndType 308 309), (0, u "java/lang/Math"), (0, u "min"), (0, u "(II)I"), (6, .methodref 317 128), (0, .class_ 318), (0, u "[I"), (56, .class_ 376), (0, u "java/util/Arrays$ArrayList"), (68, u "$assertionsDisabled"), (269, u "MIN_ARRAY_SORT_GRAN"), (0, u "I"), (2, u "INSERTIONSORT_THRESHOLD"), (151, u "([II)[I"), (103, .class_ 976), (0, u "java/util/Arrays$ArrayItr")] 52

def k5m0 : Method := { name := "<init>", desc := "()V", sig := { parameters := [], returnType := none }, accessFlags := 2, code := none }
def k5c1 : Code := { maxStack := 6, maxLocals := 3, code := jdk_65_method_123_code, exceptionTable := #[], attributes := #[] }
def k5m1 : Method := { name := "copyOf", desc := "([II)[I", sig := { parameters := [(.array .int), .int], returnType := some (.array .int) }, accessFlags := 9, code := some k5c1 }
/-- java/util/Arrays -/
def k5 : Class := { plain "java/util/Arrays" (some 0) with
  accessFlags := 49
  interfaces := #[]
  cf := some (fileOf pool5 14 #[.nestMembers #[975, 375, 113, 74]] #[{ accessFlags := 2, nameIndex := 5, descriptorIndex := 6, attributes := #[] }, { accessFlags := 9, nameIndex := 302, descriptorIndex := 871, attributes := #[] }] 49 2 #[] #[{ accessFlags := 26, nameIndex := 715, descriptorIndex := 716, attributes := #[] }, { accessFlags := 26, nameIndex := 719, descriptorIndex := 716, attributes := #[] }, { accessFlags := 4120, nameIndex := 445, descriptorIndex := 117, attributes := #[] }])
  fields := #[{ name := "MIN_ARRAY_SORT_GRAN", type := .int, accessFlags := 26, slot := 0, constantValue := 0 }, { name := "INSERTIONSORT_THRESHOLD", type := .int, accessFlags := 26, slot := 1, constantValue := 0 }, { name := "$assertionsDisabled", type := .boolean, accessFlags := 4120, slot := 2, constantValue := 0 }]
  methods := #[k5m0, k5m1]
  instanceTypes := #[]
  staticTypes := #[.int, .int, .boolean]
  resolved := Array.replicate 1029 none
  statics := none }

def pool6 : Array CpInfo := pool [(2, .class_ 4), (1, u "java/lang/Object"), (0, u "<init>"), (0, u "()V"), (1, .class_ 10), (1, u "java/lang/System"), (0, u "allowSecurityManager"), (0, u "I"), (16, u "cons"), (0, u "Ljava/io/Console;"), (77, .class_ 110), (1, u "java/lang/System$CallersHolder"), (43, u "initialErrStream"), (0, u "Ljava/io/PrintStream;"), (19, u "security"), (0, u "Ljava/lang/SecurityManager;"), (31, .class_ 209), (0, u "java/lang/System$1"), (7, u "props"), (0, u "Ljava/util/Properties;"), (2, u "lineSeparator"), (0, u "Ljava/lang/String;"), (96, .class_ 321), (1, u "java/lang/System$LoggerFinder"), (5, .class_ 328), (0, u "java/lang/System$Logger"), (67, u "err"), (2, u "out"), (91, u "notSupportedJnuEncoding"), (15, u "in"), (17, u "initialIn"), (0, u "Ljava/io/InputStream;"), (35, u "bootLayer"), (0, u "Ljava/lang/ModuleLayer;"), (99, .class_ 664), (0, u "java/lang/System$2"), (9, u "NEVER"), (2, u "MAYBE"), (49, u "arraycopy"), (0, u "(Ljava/lang/Object;ILjava/lang/Object;II)V"), (72, .class_ 802), (0, u "java/lang/System$Logger$Level")] 31

def k6m0 : Method := { name := "<init>", desc := "()V", sig := { parameters := [], returnType := none }, accessFlags := 2, code := none }
def k6m1 : Method := { name := "arraycopy", desc := "(Ljava/lang/Object;ILjava/lang/Object;II)V", sig := { parameters := [(.object "java/lang/Object"), .int, (.object "java/lang/Object"), .int, .int], returnType := none }, accessFlags := 265, code := none }
/-- java/lang/System -/
def k6 : Class := { plain "java/lang/System" (some 0) with
  accessFlags := 49
  interfaces := #[]
  cf := some (fileOf pool6 8 #[.nestMembers #[319, 327, 801, 108, 663, 208]] #[{ accessFlags := 2, nameIndex := 5, descriptorIndex := 6, attributes := #[] }, { accessFlags := 265, nameIndex := 727, descriptorIndex := 728, attributes := #[] }] 49 2 #[] #[{ accessFlags := 25, nameIndex := 507, descriptorIndex := 526, attributes := #[] }, { accessFlags := 25, nameIndex := 399, descriptorIndex := 155, attributes := #[] }, { accessFlags := 25, nameIndex := 396, descriptorIndex := 155, attributes := #[] }, { accessFlags := 10, nameIndex := 525, descriptorIndex := 526, attributes := #[] }, { accessFlags := 26, nameIndex := 674, descriptorIndex := 12, attributes := #[] }, { accessFlags := 26, nameIndex := 677, descriptorIndex := 12, attributes := #[] }, { accessFlags := 10, nameIndex := 11, descriptorIndex := 12, attributes := #[] }, { accessFlags := 74, nameIndex := 175, descriptorIndex := 176, attributes := #[] }, { accessFlags := 10, nameIndex := 491, descriptorIndex := 222, attributes := #[] }, { accessFlags := 74, nameIndex := 29, descriptorIndex := 30, attributes := #[] }, { accessFlags := 74, nameIndex := 154, descriptorIndex := 155, attributes := #[] }, { accessFlags := 10, nameIndex := 217, descriptorIndex := 218, attributes := #[] }, { accessFlags := 10, nameIndex := 221, descriptorIndex := 222, attributes := #[] }, { accessFlags := 8, nameIndex := 562, descriptorIndex := 563, attributes := #[] }])
  fields := #[{ name := "in", type := (.object "java/io/InputStream"), accessFlags := 25, slot := 0, constantValue := 0 }, { name := "out", type := (.object "java/io/PrintStream"), accessFlags := 25, slot := 1, constantValue := 0 }, { name := "err", type := (.object "java/io/PrintStream"), accessFlags := 25, slot := 2, constantValue := 0 }, { name := "initialIn", type := (.object "java/io/InputStream"), accessFlags := 10, slot := 3, constantValue := 0 }, { name := "NEVER", type := .int, accessFlags := 26, slot := 4, constantValue := 0 }, { name := "MAYBE", type := .int, accessFlags := 26, slot := 5, constantValue := 0 }, { name := "allowSecurityManager", type := .int, accessFlags := 10, slot := 6, constantValue := 0 }, { name := "security", type := (.object "java/lang/SecurityManager"), accessFlags := 74, slot := 7, constantValue := 0 }, { name := "notSupportedJnuEncoding", type := (.object "java/lang/String"), accessFlags := 10, slot := 8, constantValue := 0 }, { name := "cons", type := (.object "java/io/Console"), accessFlags := 74, slot := 9, constantValue := 0 }, { name := "initialErrStream", type := (.object "java/io/PrintStream"), accessFlags := 74, slot := 10, constantValue := 0 }, { name := "props", type := (.object "java/util/Properties"), accessFlags := 10, slot := 11, constantValue := 0 }, { name := "lineSeparator", type := (.object "java/lang/String"), accessFlags := 10, slot := 12, constantValue := 0 }, { name := "bootLayer", type := (.object "java/lang/ModuleLayer"), accessFlags := 8, slot := 13, constantValue := 0 }]
  methods := #[k6m0, k6m1]
  instanceTypes := #[]
  staticTypes := #[(.object "java/io/InputStream"), (.object "java/io/PrintStream"), (.object "java/io/PrintStream"), (.object "java/io/InputStream"), .int, .int, .int, (.object "java/lang/SecurityManager"), (.object "java/lang/String"), (.object "java/io/Console"), (.object "java/io/PrintStream"), (.object "java/util/Properties"), (.object "java/lang/String"), (.object "java/lang/ModuleLayer")]
  resolved := Array.replicate 834 none
  statics := none }

def pool7 : Array CpInfo := pool [(1, .class_ 2), (0, u "java/lang/Cloneable"), (0, .class_ 4), (0, u "java/lang/Object")] 2

/-- java/lang/Cloneable -/
def k7 : Class := { plain "java/lang/Cloneable" (some 0) with
  accessFlags := 1537
  interfaces := #[]
  cf := some (fileOf pool7 1 #[] #[] 1537 3 #[] #[])
  fields := #[]
  methods := #[]
  instanceTypes := #[]
  staticTypes := #[]
  resolved := Array.replicate 7 none
  statics := none }

def pool8 : Array CpInfo := pool [(1, u "java/io/Serializable"), (0, .class_ 1), (0, u "java/lang/Object"), (0, .class_ 3)] 3

/-- java/io/Serializable -/
def k8 : Class := { plain "java/io/Serializable" (some 0) with
  accessFlags := 1537
  interfaces := #[]
  cf := some (fileOf pool8 2 #[] #[] 1537 4 #[] #[])
  fields := #[]
  methods := #[]
  instanceTypes := #[]
  staticTypes := #[]
  resolved := Array.replicate 8 none
  statics := none }

/-- the primitive byte -/
def k9 : Class := { plain "byte" none with kind := .primitive 'B', accessFlags := 0x411 }
/-- [B -/
def k10 : Class := { plain "[B" (some 0) with kind := .array 9 .byte, interfaces := #[7, 8], accessFlags := 1041 }

/-- the primitive int -/
def k11 : Class := { plain "int" none with kind := .primitive 'I', accessFlags := 0x411 }
/-- [I -/
def k12 : Class := { plain "[I" (some 0) with kind := .array 11 .int, interfaces := #[7, 8], accessFlags := 1041 }

def heap : Heap := #[]
def classes : Array Class := #[k0, k1, k2, k3, k4, k5, k6, k7, k8, k9, k10, k11, k12]
def interned : List (Array UInt16 × Addr) := []
def slotsUsed : Nat := 0
def theMethod : MethodId := ⟨1, 4⟩
def args0 : Array Value := #[.int 5, .int 5, .int 5, .int 5, .int 5, .int 5]
def aboutOver (below : List Frame) : State where
  vm := { classes := classes, interned := interned.toArray }
  heap := heap
  slotsUsed := slotsUsed
  threads := #[{ frames := .invoking theMethod args0 :: below }]
def below0 : List Frame := [.native { method := ⟨0, 0⟩, args := #[] }]
def about1 : State := aboutOver below0
def p0 : Program := .bare "" "" ""
def e0 : Env := launch0.env 0 0 0
theorem w_frames : about1.frames = Frame.invoking theMethod args0 :: below0 := rfl
set_option maxRecDepth 65536 in
theorem w_args : argsFit about1.vm theMethod args0 = true := by decide +kernel
set_option maxRecDepth 65536 in
theorem w_heap : heapFits about1 = true := by decide +kernel
set_option maxRecDepth 65536 in
theorem w_runnable : about1.curStatus? = some .runnable := by decide +kernel
set_option maxRecDepth 65536 in
theorem w_alone : about1.alone = true := by decide +kernel
set_option maxRecDepth 65536 in
theorem w_named : about1.methodNamed? x = some theMethod := by decide +kernel
set_option maxRecDepth 65536 in
theorem w_hears : about1.hears theMethod below0 = true := by decide +kernel
set_option maxRecDepth 65536 in
theorem w_ripe : about1.ripe theMethod args0 below0 = true := by decide +kernel
theorem w_running : about1.status = .running := rfl
set_option maxRecDepth 65536 in
theorem w_room : about1.hasRoom e0.platform room_1 = true :=
  launch0.hasRoom_least _ room_1 (by decide +kernel) (by decide +kernel) (by decide +kernel) (by decide +kernel) (by decide +kernel) (by decide +kernel)
theorem allAtoms_all (ts : List Jvm.Cond) (a : Array Jvm.Value) (st : Jvm.State) : (allAtoms ts).before a st = ts.all (fun c => c.before a st) := by
  induction ts with
  | nil => rfl
  | cons c t ih =>
    show (Jvm.Cond.and c (allAtoms t)).before a st = _
    rw [Jvm.Cond.before_and, ih, List.all_cons]
def words1 : List Jvm.Cond := Jvm.Cond.code x code maxLocals ret :: tables_1
/-- a 'code' word, met by the world's own term for the bytes: nothing is compared byte by byte -/
theorem code_word {y : MethodName} {bytes : ByteArray} {mx : Nat} {rt : Option FieldType} {a : Array Value} {s : State} {m : MethodId} {meth : Method} {c : Code} (h1 : s.methodNamed? y = some m) (h2 : s.vm.method? m = some meth) (h3 : meth.code = some c) (h4 : c.code = bytes)
    (h5 : (c.maxLocals == mx && c.exceptionTable.isEmpty && decide (c.maxStack ≤ mostOperands) && decide (meth.sig.returnType = rt) && !meth.locks && decide (parseMethodDescriptor y.desc = some meth.sig)) = true) : (Jvm.Cond.code y bytes mx rt).before a s = true := by
  simp only [Bool.and_eq_true, beq_iff_eq, Bool.not_eq_true', decide_eq_true_eq] at h5
  obtain ⟨⟨⟨⟨⟨g1, g2⟩, g3⟩, g4⟩, g5⟩, g6⟩ := h5
  simp [Cond.before, Cond.holds, Cond.value, h1, h2, h3, h4, g1, g2, g3, g4, g5, g6]
def isCode : Jvm.Cond → Bool
  | .code _ _ _ _ => true
  | _ => false
theorem all_split {L : List Jvm.Cond} {P : Jvm.Cond → Bool} (h1 : L.all (fun c => isCode c || P c) = true) (h2 : ∀ c ∈ L.filter isCode, P c = true) : L.all P = true := by
  refine List.all_eq_true.mpr fun c hc => ?_
  have h := List.all_eq_true.mp h1 c hc
  rcases Bool.eq_false_or_eq_true (isCode c) with hi | hi
  · exact h2 c (List.mem_filter.mpr ⟨hc, hi⟩)
  · simpa [hi] using h
set_option maxRecDepth 65536 in
theorem w_c0 : (Jvm.Cond.code x code maxLocals ret).before args0 about1 = true := code_word (m := ⟨1, 4⟩) (meth := k1m4) (c := k1c4) (by decide +kernel) rfl rfl rfl (by decide +kernel)
set_option maxRecDepth 65536 in
theorem w_c1 : (Jvm.Cond.code ({ cls := "com/example/shapewright/shapewright/regex/CodePointSet$Builder", name := "<init>", desc := "()V" } : Jvm.MethodName) prog_19_method_1_code (1 : Nat) (Option.none : Option Jvm.ClassFile.FieldType)).before args0 about1 = true := code_word (m := ⟨2, 0⟩) (meth := k2m0) (c := k2c0) (by decide +kernel) rfl rfl rfl (by decide +kernel)
set_option maxRecDepth 65536 in
theorem w_c2 : (Jvm.Cond.code ({ cls := "java/lang/Object", name := "<init>", desc := "()V" } : Jvm.MethodName) object_method_1_code (1 : Nat) (Option.none : Option Jvm.ClassFile.FieldType)).before args0 about1 = true := code_word (m := ⟨0, 0⟩) (meth := k0m0) (c := k0c0) (by decide +kernel) rfl rfl rfl (by decide +kernel)
set_option maxRecDepth 65536 in
theorem w_c3 : (Jvm.Cond.code ({ cls := "com/example/shapewright/shapewright/regex/CodePointSet$Builder", name := "add", desc := "(II)Lcom/example/shapewright/shapewright/regex/CodePointSet$Builder;" } : Jvm.MethodName) prog_19_method_2_code (3 : Nat) (Option.some (Jvm.ClassFile.FieldType.object "com/example/shapewright/shapewright/regex/CodePointSet$Builder"))).before args0 about1 = true := code_word (m := ⟨2, 1⟩) (meth := k2m1) (c := k2c1) (by decide +kernel) rfl rfl rfl (by decide +kernel)
set_option maxRecDepth 65536 in
theorem w_c4 : (Jvm.Cond.code ({ cls := "java/lang/Math", name := "max", desc := "(II)I" } : Jvm.MethodName) jdk_29_method_65_code (2 : Nat) (Option.some Jvm.ClassFile.FieldType.int)).before args0 about1 = true := code_word (m := ⟨3, 1⟩) (meth := k3m1) (c := k3c1) (by decide +kernel) rfl rfl rfl (by decide +kernel)
set_option maxRecDepth 65536 in
theorem w_c5 : (Jvm.Cond.code ({ cls := "com/example/shapewright/shapewright/regex/CodePointSet$Builder", name := "build", desc := "()Lcom/example/shapewright/shapewright/regex/CodePointSet;" } : Jvm.MethodName) prog_19_method_3_code (1 : Nat) (Option.some (Jvm.ClassFile.FieldType.object "com/example/shapewright/shapewright/regex/CodePointSet"))).before args0 about1 = true := code_word (m := ⟨2, 2⟩) (meth := k2m2) (c := k2c2) (by decide +kernel) rfl rfl rfl (by decide +kernel)
set_option maxRecDepth 65536 in
theorem w_c6 : (Jvm.Cond.code ({ cls := "java/util/Arrays", name := "copyOf", desc := "([II)[I" } : Jvm.MethodName) jdk_65_method_123_code (3 : Nat) (Option.some (Jvm.ClassFile.FieldType.array Jvm.ClassFile.FieldType.int))).before args0 about1 = true := code_word (m := ⟨5, 1⟩) (meth := k5m1) (c := k5c1) (by decide +kernel) rfl rfl rfl (by decide +kernel)
set_option maxRecDepth 65536 in
theorem w_c7 : (Jvm.Cond.code ({ cls := "java/lang/Math", name := "min", desc := "(II)I" } : Jvm.MethodName) jdk_29_method_69_code (2 : Nat) (Option.some Jvm.ClassFile.FieldType.int)).before args0 about1 = true := code_word (m := ⟨3, 2⟩) (meth := k3m2) (c := k3c2) (by decide +kernel) rfl rfl rfl (by decide +kernel)
set_option maxRecDepth 65536 in
theorem w_c8 : (Jvm.Cond.code ({ cls := "com/example/shapewright/shapewright/regex/CodePointSet", name := "<init>", desc := "([I)V" } : Jvm.MethodName) prog_18_method_1_code (2 : Nat) (Option.none : Option Jvm.ClassFile.FieldType)).before args0 about1 = true := code_word (m := ⟨4, 0⟩) (meth := k4m0) (c := k4c0) (by decide +kernel) rfl rfl rfl (by decide +kernel)
set_option maxRecDepth 65536 in
theorem w_c9 : (Jvm.Cond.code ({ cls := "com/example/shapewright/shapewright/regex/CodePointSet", name := "edges", desc := "()[I" } : Jvm.MethodName) prog_18_method_7_code (4 : Nat) (Option.some (Jvm.ClassFile.FieldType.array Jvm.ClassFile.FieldType.int))).before args0 about1 = true := code_word (m := ⟨4, 1⟩) (meth := k4m1) (c := k4c1) (by decide +kernel) rfl rfl rfl (by decide +kernel)
set_option maxRecDepth 65536 in
theorem w_c10 : (Jvm.Cond.code ({ cls := "com/example/shapewright/shapewright/regex/BuilderAddPinLaw", name := "ch", desc := "([II)Z" } : Jvm.MethodName) method_3_code (2 : Nat) (Option.some Jvm.ClassFile.FieldType.boolean)).before args0 about1 = true := code_word (m := ⟨1, 2⟩) (meth := k1m2) (c := k1c2) (by decide +kernel) rfl rfl rfl (by decide +kernel)
set_option maxRecDepth 65536 in
theorem w_c11 : (Jvm.Cond.code ({ cls := "com/example/shapewright/shapewright/regex/BuilderAddPinLaw", name := "in", desc := "([II)Z" } : Jvm.MethodName) method_2_code (2 : Nat) (Option.some Jvm.ClassFile.FieldType.boolean)).before args0 about1 = true := code_word (m := ⟨1, 1⟩) (meth := k1m1) (c := k1c1) (by decide +kernel) rfl rfl rfl (by decide +kernel)
set_option maxRecDepth 65536 in
theorem w_c12 : (Jvm.Cond.code ({ cls := "com/example/shapewright/shapewright/regex/BuilderAddPinLaw", name := "okAt", desc := "([II[I)Z" } : Jvm.MethodName) method_4_code (3 : Nat) (Option.some Jvm.ClassFile.FieldType.boolean)).before args0 about1 = true := code_word (m := ⟨1, 3⟩) (meth := k1m3) (c := k1c3) (by decide +kernel) rfl rfl rfl (by decide +kernel)
def codes1 : List Jvm.Cond := [Jvm.Cond.code x code maxLocals ret, Jvm.Cond.code ({ cls := "com/example/shapewright/shapewright/regex/CodePointSet$Builder", name := "<init>", desc := "()V" } : Jvm.MethodName) prog_19_method_1_code (1 : Nat) (Option.none : Option Jvm.ClassFile.FieldType), Jvm.Cond.code ({ cls := "java/lang/Object", name := "<init>", desc := "()V" } : Jvm.MethodName) object_method_1_code (1 : Nat) (Option.none : Option Jvm.ClassFile.FieldType), Jvm.Cond.code ({ cls := "com/example/shapewright/shapewright/regex/CodePointSet$Builder", name := "add", desc := "(II)Lcom/example/shapewright/shapewright/regex/CodePointSet$Builder;" } : Jvm.MethodName) prog_19_method_2_code (3 : Nat) (Option.some (Jvm.ClassFile.FieldType.object "com/example/shapewright/shapewright/regex/CodePointSet$Builder")), Jvm.Cond.code ({ cls := "java/lang/Math", name := "max", desc := "(II)I" } : Jvm.MethodName) jdk_29_method_65_code (2 : Nat) (Option.some Jvm.ClassFile.FieldType.int), Jvm.Cond.code ({ cls := "com/example/shapewright/shapewright/regex/CodePointSet$Builder", name := "build", desc := "()Lcom/example/shapewright/shapewright/regex/CodePointSet;" } : Jvm.MethodName) prog_19_method_3_code (1 : Nat) (Option.some (Jvm.ClassFile.FieldType.object "com/example/shapewright/shapewright/regex/CodePointSet")), Jvm.Cond.code ({ cls := "java/util/Arrays", name := "copyOf", desc := "([II)[I" } : Jvm.MethodName) jdk_65_method_123_code (3 : Nat) (Option.some (Jvm.ClassFile.FieldType.array Jvm.ClassFile.FieldType.int)), Jvm.Cond.code ({ cls := "java/lang/Math", name := "min", desc := "(II)I" } : Jvm.MethodName) jdk_29_method_69_code (2 : Nat) (Option.some Jvm.ClassFile.FieldType.int), Jvm.Cond.code ({ cls := "com/example/shapewright/shapewright/regex/CodePointSet", name := "<init>", desc := "([I)V" } : Jvm.MethodName) prog_18_method_1_code (2 : Nat) (Option.none : Option Jvm.ClassFile.FieldType), Jvm.Cond.code ({ cls := "com/example/shapewright/shapewright/regex/CodePointSet", name := "edges", desc := "()[I" } : Jvm.MethodName) prog_18_method_7_code (4 : Nat) (Option.some (Jvm.ClassFile.FieldType.array Jvm.ClassFile.FieldType.int)), Jvm.Cond.code ({ cls := "com/example/shapewright/shapewright/regex/BuilderAddPinLaw", name := "ch", desc := "([II)Z" } : Jvm.MethodName) method_3_code (2 : Nat) (Option.some Jvm.ClassFile.FieldType.boolean), Jvm.Cond.code ({ cls := "com/example/shapewright/shapewright/regex/BuilderAddPinLaw", name := "in", desc := "([II)Z" } : Jvm.MethodName) method_2_code (2 : Nat) (Option.some Jvm.ClassFile.FieldType.boolean), Jvm.Cond.code ({ cls := "com/example/shapewright/shapewright/regex/BuilderAddPinLaw", name := "okAt", desc := "([II[I)Z" } : Jvm.MethodName) method_4_code (3 : Nat) (Option.some Jvm.ClassFile.FieldType.boolean)]
set_option maxRecDepth 65536 in
theorem codes_eq : words1.filter isCode = codes1 := rfl
theorem w_codes : ∀ c ∈ words1.filter isCode, c.before args0 about1 = true := by
  rw [codes_eq]
  intro c hc
  simp only [codes1, List.mem_cons, List.not_mem_nil, or_false] at hc
  rcases hc with rfl | rfl | rfl | rfl | rfl | rfl | rfl | rfl | rfl | rfl | rfl | rfl | rfl
  · exact w_c0
  · exact w_c1
  · exact w_c2
  · exact w_c3
  · exact w_c4
  · exact w_c5
  · exact w_c6
  · exact w_c7
  · exact w_c8
  · exact w_c9
  · exact w_c10
  · exact w_c11
  · exact w_c12
set_option maxRecDepth 65536 in
theorem w_t1 : (words1.take 24).all (fun c => isCode c || c.before args0 about1) = true := by decide +kernel
set_option maxRecDepth 65536 in
theorem w_t2 : ((words1.drop 24).take 24).all (fun c => isCode c || c.before args0 about1) = true := by decide +kernel
set_option maxRecDepth 65536 in
theorem w_t3 : (((words1.drop 24).drop 24).take 24).all (fun c => isCode c || c.before args0 about1) = true := by decide +kernel
set_option maxRecDepth 65536 in
theorem w_t4 : (((words1.drop 24).drop 24).drop 24).all (fun c => isCode c || c.before args0 about1) = true := by decide +kernel
theorem w_tables : (allAtoms (Jvm.Cond.code x code maxLocals ret :: tables_1)).before args0 about1 = true := by
  rw [allAtoms_all]
  show words1.all (fun c => c.before args0 about1) = true
  refine all_split ?_ w_codes
  rw [← List.take_append_drop 24 words1, List.all_append, w_t1, ← List.take_append_drop 24 (words1.drop 24), List.all_append, w_t2, ← List.take_append_drop 24 ((words1.drop 24).drop 24), List.all_append, w_t3, w_t4]
  rfl
set_option maxRecDepth 65536 in
theorem w_case : (Jvm.Cond.and given_1 narrow_1).before args0 about1 = true := by decide +kernel
theorem w_applies : (headSpec (Jvm.Cond.code x code maxLocals ret :: tables_1) room_1).applies x e0.platform about1 = true :=
  (Spec.applies_iff w_frames).mpr ⟨w_running, w_runnable, w_alone, w_named, w_hears, w_ripe, w_room, w_tables⟩
theorem atStart : AtStart classFile x code maxLocals ret World_1 tables_1 room_1 Calls_1 rest_1 Pre_1 launch0 p0 e0 about1 theMethod args0 below0 :=
  ⟨lists_1, trivial, launch0.admits_env _ _ _, launch0.least_env, fairChoices_fair.cas, fairChoices_fair.clock, w_frames, w_args, w_heap, w_applies, trivial, trivial, w_case⟩
end start1
theorem witness_1 : WitnessClaimed_1 := ⟨start1.p0, start1.e0, start1.about1, start1.theMethod, start1.args0, start1.below0, start1.atStart⟩
end Jvm.Pilot.@@N@@
