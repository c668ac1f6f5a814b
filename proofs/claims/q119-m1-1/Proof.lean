import JvmDerived
import JvmDerived.Pilot.@@N@@Statement
import JvmDerived.Pilot.@@N@@Code
set_option linter.unusedVariables false
set_option linter.unusedSimpArgs false
namespace Jvm.OwnKit
open Sem ClassFile Op Lib Jvm.Stand Jvm.Free Jvm.LawKit Jvm.RoadKit
section Own
variable {p : Program} {l : Launch} {e : Env} {R : Room} {s : State} {m : MethodId} {args : Array Value} {below : List Frame} {meth : Method} {c : Code} {T : State} {locs : List Loc} {cells slots : Nat} {Z : State} {h h' : Heap} {a b : Addr}
theorem retI (X : Stand p l e R s m args below meth c T locs cells slots) (hx : p.tables.exec = Jvm.exec) {pc : Nat} {Ls : Array Slot} {z : Int32} {rest : List Value} (hret : meth.sig.returnType = some .int) (hd : decode c.code pc = .ok (.ireturn, 1)) {fs : List Frame}
    (hl : ∀ (f : JFrame) (acts : List Action), f.method = m → f.locked = none → f.entered = [] → (doReturn e (T.setTop f) acts (some (.int z))).1 = T.setFrames fs) : Steps p.tables e below (T.setTop (mkF m pc Ls (.int z :: rest))) (T.setFrames fs) :=
  retOut X hx hret rfl (Or.inl ⟨rfl, Or.inl rfl, z, rfl⟩) hd hl
/-- the run goes on from S to an end of which G holds -/
def Go (p : Program) (e : Env) (below : List Frame) (S : State) (G : State → Outcome → Prop) : Prop := ∃ s₂ o, Steps p.tables e below S s₂ ∧ s₂.status = .running ∧ Ended s₂ below o ∧ G s₂ o
theorem Go.via {S S' : State} {G : State → Outcome → Prop} (h : ∀ t, Steps p.tables e below S' t → Steps p.tables e below S t) (k : Go p e below S' G) : Go p e below S G := by
  obtain ⟨a, o, h1, r⟩ := k; exact ⟨a, o, h a h1, r⟩
/-- the end: what is returned, what the heap says, what was written -/
abbrev Done (s : State) (Q : Option Value → Heap → List Loc → Prop) (kc ks : Nat) : State → Outcome → Prop := fun s₂ o => ∃ v L, o = .returned v ∧ Q v s₂.heap L ∧ FrameEnd s o s₂ L kc ks
theorem Go.fin {S : State} (X : Stand p l e R s m args below meth c T locs cells slots) (hlk : meth.locks = false) {v : Option Value} (hv : meth.sig.returnType = none → v = none) {Q : Option Value → Heap → List Loc → Prop} {kc ks : Nat}
    (hstep : ∀ fs, (∀ (f : JFrame) (acts : List Action), f.method = m → f.locked = none → f.entered = [] → (doReturn e (T.setTop f) acts v).1 = T.setFrames fs) → Steps p.tables e below S (T.setFrames fs))
    (hQ : Q v T.heap locs) (hc : cells ≤ kc) (hs : slots ≤ ks) : Go p e below S (Done s Q kc ks) := by
  obtain ⟨fs, hr, hrun, hended, hW, hsame⟩ := X.leave (v := v) hv hlk
  exact ⟨_, _, hstep fs hr, hrun, hended, _, _, rfl, hQ, ⟨_, rfl⟩, hW, hsame.mono hc hs⟩
/-- an array of ints, bytes, chars, shorts or booleans, whole -/
def Ia (Z : State) (h : Heap) (a : Addr) (ty : FieldType) (xs : List Int32) : Prop := ∃ c : Cell, Arr Z h a c ty ∧ c.slots = (xs.map Value.int).toArray ∧ xs.length < 2147483648 ∧ ∀ x ∈ xs, fits ty (.int x) = true
variable {ty : FieldType} {xs : List Int32} {ws : List Addr} {sl : Nat} {v w : Value} {j x n : Int32} {k : ClassId} {rest : List Value}
theorem Ia.lt (F : Ia Z h a ty xs) : a < h.size := by obtain ⟨c, A, -⟩ := F; exact A.lt
theorem Ia.ext (F : Ia Z h a ty xs) (E : Ext h h') : Ia Z h' a ty xs := by obtain ⟨c, A, r⟩ := F; exact ⟨c, A.ext E, r⟩
theorem Ia.other (F : Ia Z h b ty xs) (W : Wr h h' a sl v) (q : b ≠ a) : Ia Z h' b ty xs := by obtain ⟨c, A, r⟩ := F; exact ⟨c, A.other W q, r⟩
theorem Ia.keep (F : Ia Z h a ty xs) (K : Keep h h' ws) (q : a ∉ ws) : Ia Z h' a ty xs := by obtain ⟨c, A, r⟩ := F; exact ⟨c, ⟨K.2.1 a c A.1 q, A.2⟩, r⟩
theorem nn_lt {n : Int32} : n.toNatClampNeg < 2147483648 := by
  have h1 := n.toInt_lt
  simp only [Int32.toNatClampNeg]; omega
theorem Ia.new (A : Arr Z h a (newA k ty n) ty) (hd : defaultValue ty = .int 0) (hf : fits ty (.int 0) = true := by rfl) : Ia Z h a ty (List.replicate n.toNatClampNeg 0) := ⟨_, A, by simp [newA, hd], by simp [nn_lt], fun x hx => by rw [(List.mem_replicate.mp hx).2]; exact hf⟩
theorem Ia.hin {cl : Cell} (e : cl.slots = (xs.map Value.int).toArray) (hj : ¬ j < 0) (hlt : j.toNatClampNeg < xs.length) : ¬ (j < 0 ∨ cl.slots.size ≤ j.toNatClampNeg) := by
  rw [e]; simp only [List.size_toArray, List.length_map]; rintro (q | q); exact hj q; omega
theorem Ia.at {cl : Cell} (e : cl.slots = (xs.map Value.int).toArray) (hv : xs[j.toNatClampNeg]? = some x) : cl.slots[j.toNatClampNeg]? = some (.int x) := by
  rw [e]; simp [hv]
theorem lt_of_at (hv : xs[j.toNatClampNeg]? = some x) : j.toNatClampNeg < xs.length := (List.getElem?_eq_some_iff.mp hv).1
theorem Ia.set {cl : Cell} (A : Arr Z h a cl ty) (e : cl.slots = (xs.map Value.int).toArray) (hl : xs.length < 2147483648) (hf : ∀ x ∈ xs, fits ty (.int x) = true) (W : Wr h h' a j.toNatClampNeg (.int x)) (hx : fits ty (.int x) = true) : Ia Z h' a ty (xs.set j.toNatClampNeg x) :=
  ⟨_, A.same W, by simp [Cell.setSlot, e, List.map_set], by simpa using hl, fun y hy => by rcases List.mem_or_eq_of_mem_set hy with q | q; exact hf y q; rw [q]; exact hx⟩
theorem ldI (X : Stand p l e R s m args below meth c T locs cells slots) (hx : p.tables.exec = Jvm.exec) (hZ : Z.Warmed39 s.vm) (eT : T.heap = h) (F : Ia Z h a .int xs) {v : Int32} (hj : ¬ j < 0) (hv : xs[j.toNatClampNeg]? = some v) {g : JFrame} (hg : g.method = m) (hs : g.stack = .int j :: .ref a :: rest) (hd : decode c.code g.pc = .ok (.iaload, 1)) :
    ∀ t, Steps p.tables e below (T.setTop { g with pc := g.pc + 1, stack := .int v :: rest }) t → Steps p.tables e below (T.setTop g) t := by
  obtain ⟨cl, A, q, -⟩ := F
  exact X.iaload hx (j := j) (v := .int v) (by rw [eT]; exact A.1) (State.isArrayOf_alike hZ.alike A.2.1) A.2.2 (Ia.hin q hj (lt_of_at hv)) (Ia.at q hv) hg hs hd
theorem ldB (X : Stand p l e R s m args below meth c T locs cells slots) (hx : p.tables.exec = Jvm.exec) (hZ : Z.Warmed39 s.vm) (eT : T.heap = h) (F : Ia Z h a .byte xs) {v : Int32} (hj : ¬ j < 0) (hv : xs[j.toNatClampNeg]? = some v) {g : JFrame} (hg : g.method = m) (hs : g.stack = .int j :: .ref a :: rest) (hd : decode c.code g.pc = .ok (.baload, 1)) :
    ∀ t, Steps p.tables e below (T.setTop { g with pc := g.pc + 1, stack := .int v :: rest }) t → Steps p.tables e below (T.setTop g) t := by
  obtain ⟨cl, A, q, -⟩ := F
  exact X.baloadBytes hx (j := j) (v := .int v) (by rw [eT]; exact A.1) (State.isArrayOf_alike hZ.alike A.2.1) A.2.2 (Ia.hin q hj (lt_of_at hv)) (Ia.at q hv) hg hs hd
theorem ldC (X : Stand p l e R s m args below meth c T locs cells slots) (hx : p.tables.exec = Jvm.exec) (hZ : Z.Warmed39 s.vm) (eT : T.heap = h) (F : Ia Z h a .char xs) {v : Int32} (hj : ¬ j < 0) (hv : xs[j.toNatClampNeg]? = some v) {g : JFrame} (hg : g.method = m) (hs : g.stack = .int j :: .ref a :: rest) (hd : decode c.code g.pc = .ok (.caload, 1)) :
    ∀ t, Steps p.tables e below (T.setTop { g with pc := g.pc + 1, stack := .int v :: rest }) t → Steps p.tables e below (T.setTop g) t := by
  obtain ⟨cl, A, q, -⟩ := F
  exact X.caload hx (j := j) (v := .int v) (by rw [eT]; exact A.1) (State.isArrayOf_alike hZ.alike A.2.1) A.2.2 (Ia.hin q hj (lt_of_at hv)) (Ia.at q hv) hg hs hd
theorem stI' (X : Stand p l e R s m args below meth c T locs cells slots) (hx : p.tables.exec = Jvm.exec) (hZ : Z.Warmed39 s.vm) (eT : T.heap = h) (F : Ia Z h a .int xs) (hj : ¬ j < 0) (hlt : j.toNatClampNeg < xs.length) {g : JFrame} (hg : g.method = m) (hs : g.stack = .int x :: .int j :: .ref a :: rest) (hd : decode c.code g.pc = .ok (.iastore, 1)) :
    ∃ T' h', Stand p l e R s m args below meth c T' (locs ++ [⟨a, j.toNatClampNeg⟩]) cells slots ∧ T'.heap = h' ∧ Wr h h' a j.toNatClampNeg (.int x) ∧ Ia Z h' a .int (xs.set j.toNatClampNeg x) ∧ ∀ t, Steps p.tables e below (T'.setTop { g with pc := g.pc + 1, stack := rest }) t → Steps p.tables e below (T.setTop g) t := by
  obtain ⟨cl, A, q, hl, hf⟩ := F
  obtain ⟨T', h', X', e', W, st⟩ := stI X hx hZ eT A (Ia.hin q hj hlt) hg hs hd
  exact ⟨T', h', X', e', W, Ia.set A q hl hf W rfl, st⟩
theorem stB' (X : Stand p l e R s m args below meth c T locs cells slots) (hx : p.tables.exec = Jvm.exec) (hZ : Z.Warmed39 s.vm) (eT : T.heap = h) (F : Ia Z h a .byte xs) (hj : ¬ j < 0) (hlt : j.toNatClampNeg < xs.length) {g : JFrame} (hg : g.method = m) (hs : g.stack = .int x :: .int j :: .ref a :: rest) (hd : decode c.code g.pc = .ok (.bastore, 1)) :
    ∃ T' h', Stand p l e R s m args below meth c T' (locs ++ [⟨a, j.toNatClampNeg⟩]) cells slots ∧ T'.heap = h' ∧ Wr h h' a j.toNatClampNeg (.int (nar .byte x)) ∧ Ia Z h' a .byte (xs.set j.toNatClampNeg (nar .byte x)) ∧ ∀ t, Steps p.tables e below (T'.setTop { g with pc := g.pc + 1, stack := rest }) t → Steps p.tables e below (T.setTop g) t := by
  obtain ⟨cl, A, q, hl, hf⟩ := F
  obtain ⟨T', h', X', e', W, st⟩ := stB X hx hZ eT A (Ia.hin q hj hlt) hg hs hd
  exact ⟨T', h', X', e', W, Ia.set A q hl hf W (fits_nar_byte x), st⟩
theorem stC' (X : Stand p l e R s m args below meth c T locs cells slots) (hx : p.tables.exec = Jvm.exec) (hZ : Z.Warmed39 s.vm) (eT : T.heap = h) (F : Ia Z h a .char xs) (hj : ¬ j < 0) (hlt : j.toNatClampNeg < xs.length) {g : JFrame} (hg : g.method = m) (hs : g.stack = .int x :: .int j :: .ref a :: rest) (hd : decode c.code g.pc = .ok (.castore, 1)) :
    ∃ T' h', Stand p l e R s m args below meth c T' (locs ++ [⟨a, j.toNatClampNeg⟩]) cells slots ∧ T'.heap = h' ∧ Wr h h' a j.toNatClampNeg (.int (nar .char x)) ∧ Ia Z h' a .char (xs.set j.toNatClampNeg (nar .char x)) ∧ ∀ t, Steps p.tables e below (T'.setTop { g with pc := g.pc + 1, stack := rest }) t → Steps p.tables e below (T.setTop g) t := by
  obtain ⟨cl, A, q, hl, hf⟩ := F
  obtain ⟨T', h', X', e', W, st⟩ := stC X hx hZ eT A (Ia.hin q hj hlt) hg hs hd
  exact ⟨T', h', X', e', W, Ia.set A q hl hf W (fits_nar_char x), st⟩
theorem lenI (X : Stand p l e R s m args below meth c T locs cells slots) (hx : p.tables.exec = Jvm.exec) (hZ : Z.Warmed39 s.vm) (eT : T.heap = h) (F : Ia Z h a ty xs) (hn : xs.length.toInt32 = n) {g : JFrame} (hg : g.method = m) (hs : g.stack = .ref a :: rest) (hd : decode c.code g.pc = .ok (.arraylength, 1)) :
    ∀ t, Steps p.tables e below (T.setTop { g with pc := g.pc + 1, stack := .int n :: rest }) t → Steps p.tables e below (T.setTop g) t := by
  obtain ⟨cl, A, q, -⟩ := F
  have q2 : cl.slots.size.toInt32 = n := by rw [q]; simpa using hn
  have := X.arraylength hx (by rw [eT]; exact A.1) (State.isArrayOf_alike hZ.alike A.2.1) hg hs hd
  rw [q2] at this
  exact this
theorem len32 (hl : xs.length < 2147483648) : xs.length.toInt32.toNatClampNeg = xs.length ∧ ¬ xs.length.toInt32 < 0 := by
  have h1 : xs.length.toInt32.toInt = (xs.length : Int) := Int32.toInt_ofNat_small hl
  refine ⟨by simp only [Int32.toNatClampNeg]; omega, ?_⟩
  rw [Int32.lt_iff_toInt_lt, h1]
  have : (0 : Int32).toInt = 0 := rfl
  omega
theorem Ia.arv (F : Ia Z h a ty xs) : ∃ k, Arv Z h a k ty xs.length.toInt32 (xs.map Value.int) (.int 0) ∧ xs.length < 2147483648 := by
  obtain ⟨c, A, q, hl, hf⟩ := F
  refine ⟨c.cls, ⟨c, A, rfl, by rw [q, (len32 hl).1]; simp, (len32 hl).2, fun i hi => ?_, fun i hi => ?_⟩, hl⟩
  · have hi2 : i < xs.length := by rw [q] at hi; simpa using hi
    rw [q]; simp [List.getD, hi2]
  · have hi2 : i < xs.length := by rw [q] at hi; simpa using hi
    have := hf xs[i] (List.getElem_mem hi2)
    simpa [List.getD, hi2] using this
theorem Ia.of_arv {z : Int32} {d : Value} (F : Arv Z h a k ty z (xs.map Value.int) d) (hl : xs.length = z.toNatClampNeg) : Ia Z h a ty xs := by
  obtain ⟨c, A, q1, S, N, H, G⟩ := F
  have hn : z.toNatClampNeg < 2147483648 := nn_lt
  refine ⟨c, A, ?_, by omega, fun x hx => ?_⟩
  · apply Array.ext
    · rw [S, ← hl]; simp
    · intro i h1 h2
      have := H i h1
      have h3 : i < xs.length := by rw [hl, ← S]; exact h1
      rw [Array.getElem?_eq_getElem h1] at this
      simpa [List.getD, h3] using this
  · obtain ⟨i, hi, rfl⟩ := List.getElem_of_mem hx
    have := G i (by rw [S, ← hl]; exact hi)
    simpa [List.getD, hi] using this
theorem cpI {ys : List Int32} {sp dp nn : Int32} (X : Stand p l e R s m args below meth c T locs cells slots) (hx : p.tables.exec = Jvm.exec) (hZ : Z.Warmed39 s.vm) {a0 : Array Value} {own : String} {index : Nat} (hown : s.vm.findClass own = some m.cls)
    (w1 : (Cond.methodLink own index Jvm.Stand.acN).before a0 Z = true) (w2 : (Cond.native Jvm.Stand.acN).before a0 Z = true) (w3 : (Cond.static Jvm.Stand.acN).before a0 Z = true) (w4 : (Cond.initialized "java/lang/System").before a0 Z = true) (eT : T.heap = h)
    (A : Ia Z h a ty xs) (B : Ia Z h b ty ys) (hty : refKind ty = false) (h1 : ¬ sp < 0) (h2 : ¬ dp < 0) (h3 : ¬ nn < 0) (h4 : sp.toNatClampNeg + nn.toNatClampNeg ≤ xs.length) (h5 : dp.toNatClampNeg + nn.toNatClampNeg ≤ ys.length)
    {n0 : Nat} (N : Fr n0 locs) (ge : n0 ≤ b)
    {g : JFrame} (hg : g.method = m) (hsize : g.locals.size = c.maxLocals) {rest : List Value} (hs : g.stack = .int nn :: .int dp :: .ref b :: .int sp :: .ref a :: rest) (hd : decode c.code g.pc = .ok (.invokestatic index, 3))
    (hf : 1 ≤ R.frames) {W : Nat} (hW : 2 * g.monitorRoom + (rest.map fun v => v.category).sum ≤ W) (hlo : W + (nativeFrameWords "java/lang/System" "arraycopy" 5 + 11) ≤ R.locals) :
    ∃ T' h' L, Stand p l e R s m args below meth c T' L cells slots ∧ T'.heap = h' ∧ Fr n0 L ∧ Keep h h' [b] ∧ Ia Z h' b ty (ys.take dp.toNatClampNeg ++ (xs.drop sp.toNatClampNeg).take nn.toNatClampNeg ++ ys.drop (dp.toNatClampNeg + nn.toNatClampNeg)) ∧
      ∀ target, Steps p.tables e below (T'.setTop { g with pc := g.pc + 3, stack := rest }) target → Steps p.tables e below (T.setTop g) target := by
  obtain ⟨k, A', la⟩ := A.arv
  obtain ⟨k', B', lb⟩ := B.arv
  obtain ⟨T', h', L, X', e', N', K', V', st⟩ := cpA X hx hZ hown w1 w2 w3 w4 eT A' B' (us := ((xs.drop sp.toNatClampNeg).take nn.toNatClampNeg).map Value.int) (Or.inl ⟨rfl, hty⟩) h1 h2 h3 (by rw [(len32 la).1]; exact h4) (by rw [(len32 lb).1]; exact h5)
    (by
      apply List.ext_getElem
      · simp; omega
      · intro i q1 q2
        have q3 : i < nn.toNatClampNeg := by simpa using q2
        have q4 : sp.toNatClampNeg + i < xs.length := by omega
        simp [List.getD, q4])
    (by simpa using h5) N ge hg hsize hs hd hf hW hlo
  refine ⟨T', h', L, X', e', N', K', Ia.of_arv (k := k') (z := ys.length.toInt32) (d := .int 0) ?_ ?_, st⟩
  · simpa [List.map_append, List.map_take, List.map_drop] using V'
  · rw [(len32 lb).1]; simp; omega
theorem cloneI (X : Stand p l e R s m args below meth c T locs cells slots) (hx : p.tables.exec = Jvm.exec) (hZ : Z.Warmed39 s.vm) {a0 : Array Value} {own ad : String} {index : Nat} (hown : s.vm.findClass own = some m.cls)
    (w1 : (Cond.methodLink own index ⟨ad, "clone", "()Ljava/lang/Object;"⟩).before a0 Z = true) (w2 : (Cond.sameMethod ad "java/lang/Object" "clone" "()Ljava/lang/Object;").before a0 Z = true) (w3 : (Cond.native ⟨"java/lang/Object", "clone", "()Ljava/lang/Object;"⟩).before a0 Z = true)
    (w4 : (Cond.instanceMethod ⟨"java/lang/Object", "clone", "()Ljava/lang/Object;"⟩).before a0 Z = true) (w5 : (Cond.selects ad ⟨ad, "clone", "()Ljava/lang/Object;"⟩ ⟨"java/lang/Object", "clone", "()Ljava/lang/Object;"⟩).before a0 Z = true) (w6 : (Cond.castable ad "java/lang/Cloneable").before a0 Z = true)
    (eT : T.heap = h) (F : Ia Z h a ty xs) (E : Exa Z h a ad) {g : JFrame} (hg : g.method = m) (hsize : g.locals.size = c.maxLocals) {rest : List Value} (hst : g.stack = .ref a :: rest) (hd : decode c.code g.pc = .ok (.invokevirtual index, 3))
    (hf : 1 ≤ R.frames) {W cap : Nat} (hW : 2 * g.monitorRoom + (rest.map fun v => v.category).sum ≤ W) (hl : W + 14 ≤ R.locals) (hcap : xs.length ≤ cap) (hc : cells + 1 ≤ R.cells) (hsl : slots + cap ≤ R.slots) :
    ∃ T' h', Stand p l e R s m args below meth c T' locs (cells + 1) (slots + cap) ∧ T'.heap = h' ∧ Ext h h' ∧ Ia Z h' h.size ty xs ∧ Exa Z h' h.size ad ∧
      ∀ target, Steps p.tables e below (T'.setTop { g with pc := g.pc + 3, stack := .ref h.size :: rest }) target → Steps p.tables e below (T.setTop g) target := by
  obtain ⟨k, A, la⟩ := F.arv
  obtain ⟨T', h', X', e', ex, A', E', st⟩ := cloneH X hx hZ hown w1 w2 w3 w4 w5 w6 eT A.arh E hg hsize hst hd hf hW hl (by rw [(len32 la).1]; exact hcap) hc hsl
  exact ⟨T', h', X', e', ex, Ia.of_arv (k := k) (z := xs.length.toInt32) (d := .int 0) A' (len32 la).1.symm, E', st⟩
theorem selP {a0 : Array Value} {y : MethodName} {kk : Nat} (hZ : Z.Warmed39 s.vm) (wi : (Cond.instantiable y.cls kk).before a0 Z = true) (wp : (Cond.privateMethod y).before a0 Z = true) (wm : (Cond.instanceMethod y).before a0 Z = true) (hy : y.cls ≠ "java/lang/invoke/MethodHandle" ∧ y.cls ≠ "java/lang/invoke/VarHandle") : (Cond.selects y.cls y y).before args s = true := by
  obtain ⟨c, k, h1, h2, -, h4, -⟩ := Cond.instantiable_spec (mvT (args := args) hZ wi)
  exact selects_self_of_private h1 h2 (by simp only [Bool.or_eq_false_iff] at h4; exact h4.1) (Cond.privateMethod_at (mvP hZ wp (args := args))) (mvT hZ wm) hy
end Own
end Jvm.OwnKit
namespace Jvm.OwnKit
open Sem ClassFile Op Lib Jvm.Stand Jvm.Free Jvm.LawKit Jvm.RoadKit
section Own2
variable {p : Program} {l : Launch} {e : Env} {R : Room} {s : State} {m : MethodId} {args : Array Value} {below : List Frame} {meth : Method} {c : Code} {T : State} {locs : List Loc} {cells slots : Nat} {Z : State} {h h' : Heap} {a b : Addr}
/-- an array of references, whole, with what may lie in it -/
def Ra (Z : State) (h : Heap) (a : Addr) (C : String) (vs : List Value) : Prop := ∃ c : Cell, Arr Z h a c (.object C) ∧ Ovr Z c.cls C ∧ c.slots = vs.toArray ∧ vs.length < 2147483648
/-- an array of which the length alone is known -/
def Rn (Z : State) (h : Heap) (a : Addr) (n : Int32) : Prop := ∃ (c : Cell) (ty : FieldType), Arr Z h a c ty ∧ c.slots.size.toInt32 = n
variable {C : String} {vs : List Value} {ws : List Addr} {sl : Nat} {v w : Value} {j n : Int32} {k : ClassId} {rest : List Value}
theorem Ra.lt (F : Ra Z h a C vs) : a < h.size := by obtain ⟨c, A, -⟩ := F; exact A.lt
theorem Ra.ext (F : Ra Z h a C vs) (E : Ext h h') : Ra Z h' a C vs := by obtain ⟨c, A, r⟩ := F; exact ⟨c, A.ext E, r⟩
theorem Ra.other (F : Ra Z h b C vs) (W : Wr h h' a sl v) (q : b ≠ a) : Ra Z h' b C vs := by obtain ⟨c, A, r⟩ := F; exact ⟨c, A.other W q, r⟩
theorem Ra.keep (F : Ra Z h a C vs) (K : Keep h h' ws) (q : a ∉ ws) : Ra Z h' a C vs := by obtain ⟨c, A, r⟩ := F; exact ⟨c, ⟨K.2.1 a c A.1 q, A.2⟩, r⟩
theorem Rn.lt (F : Rn Z h a n) : a < h.size := by obtain ⟨c, ty, A, -⟩ := F; exact A.lt
theorem Rn.ext (F : Rn Z h a n) (E : Ext h h') : Rn Z h' a n := by obtain ⟨c, ty, A, r⟩ := F; exact ⟨c, ty, A.ext E, r⟩
theorem Rn.other (F : Rn Z h b n) (W : Wr h h' a sl v) (q : b ≠ a) : Rn Z h' b n := by obtain ⟨c, ty, A, r⟩ := F; exact ⟨c, ty, A.other W q, r⟩
theorem Rn.keep (F : Rn Z h a n) (K : Keep h h' ws) (q : a ∉ ws) : Rn Z h' a n := by obtain ⟨c, ty, A, r⟩ := F; exact ⟨c, ty, ⟨K.2.1 a c A.1 q, A.2⟩, r⟩
theorem Ra.new (A : Arr Z h a (newA k (.object C) n) (.object C)) (O : Ovr Z k C) : Ra Z h a C (List.replicate n.toNatClampNeg .null) := ⟨_, A, O, by simp [newA, defaultValue], by simp [nn_lt]⟩
theorem Ra.hin {cl : Cell} (e : cl.slots = vs.toArray) (hj : ¬ j < 0) (hlt : j.toNatClampNeg < vs.length) : ¬ (j < 0 ∨ cl.slots.size ≤ j.toNatClampNeg) := by
  rw [e]; simp only [List.size_toArray]; rintro (q | q); exact hj q; omega
theorem ldR (X : Stand p l e R s m args below meth c T locs cells slots) (hx : p.tables.exec = Jvm.exec) (hZ : Z.Warmed39 s.vm) (eT : T.heap = h) (F : Ra Z h a C vs) {v : Value} (hj : ¬ j < 0) (hv : vs[j.toNatClampNeg]? = some v) {g : JFrame} (hg : g.method = m) (hs : g.stack = .int j :: .ref a :: rest) (hd : decode c.code g.pc = .ok (.aaload, 1)) :
    ∀ t, Steps p.tables e below (T.setTop { g with pc := g.pc + 1, stack := v :: rest }) t → Steps p.tables e below (T.setTop g) t := by
  obtain ⟨cl, A, -, q, -⟩ := F
  exact X.aaload hx (j := j) (v := v) (by rw [eT]; exact A.1) (State.isArrayOf_alike hZ.alike A.2.1) rfl A.2.2 (Ra.hin q hj (List.getElem?_eq_some_iff.mp hv).1) (by rw [q]; simpa using hv) hg hs hd
theorem stR' {y : Addr} (X : Stand p l e R s m args below meth c T locs cells slots) (hx : p.tables.exec = Jvm.exec) (hZ : Z.Warmed39 s.vm) (eT : T.heap = h) (F : Ra Z h a C vs) (I : Ins Z h y C true) (hj : ¬ j < 0) (hlt : j.toNatClampNeg < vs.length) {g : JFrame} (hg : g.method = m) (hs : g.stack = .ref y :: .int j :: .ref a :: rest) (hd : decode c.code g.pc = .ok (.aastore, 1)) :
    ∃ T' h', Stand p l e R s m args below meth c T' (locs ++ [⟨a, j.toNatClampNeg⟩]) cells slots ∧ T'.heap = h' ∧ Wr h h' a j.toNatClampNeg (.ref y) ∧ Ra Z h' a C (vs.set j.toNatClampNeg (.ref y)) ∧ ∀ t, Steps p.tables e below (T'.setTop { g with pc := g.pc + 1, stack := rest }) t → Steps p.tables e below (T.setTop g) t := by
  obtain ⟨cl, A, O, q, hl⟩ := F
  obtain ⟨T', h', X', e', W, st⟩ := stR X hx hZ eT A (Ra.hin q hj hlt) rfl (Sto.of A O I) hg hs hd
  exact ⟨T', h', X', e', W, ⟨_, A.same W, O, by simp [Cell.setSlot, q], by simpa using hl⟩, st⟩
theorem lenR (X : Stand p l e R s m args below meth c T locs cells slots) (hx : p.tables.exec = Jvm.exec) (hZ : Z.Warmed39 s.vm) (eT : T.heap = h) (F : Ra Z h a C vs) (hn : vs.length.toInt32 = n) {g : JFrame} (hg : g.method = m) (hs : g.stack = .ref a :: rest) (hd : decode c.code g.pc = .ok (.arraylength, 1)) :
    ∀ t, Steps p.tables e below (T.setTop { g with pc := g.pc + 1, stack := .int n :: rest }) t → Steps p.tables e below (T.setTop g) t := by
  obtain ⟨cl, A, -, q, -⟩ := F
  have q2 : cl.slots.size.toInt32 = n := by rw [q]; simpa using hn
  have := X.arraylength hx (by rw [eT]; exact A.1) (State.isArrayOf_alike hZ.alike A.2.1) hg hs hd
  rw [q2] at this
  exact this
theorem lenN (X : Stand p l e R s m args below meth c T locs cells slots) (hx : p.tables.exec = Jvm.exec) (hZ : Z.Warmed39 s.vm) (eT : T.heap = h) (F : Rn Z h a n) {g : JFrame} (hg : g.method = m) (hs : g.stack = .ref a :: rest) (hd : decode c.code g.pc = .ok (.arraylength, 1)) :
    ∀ t, Steps p.tables e below (T.setTop { g with pc := g.pc + 1, stack := .int n :: rest }) t → Steps p.tables e below (T.setTop g) t := by
  obtain ⟨cl, ty, A, q2⟩ := F
  have := X.arraylength hx (by rw [eT]; exact A.1) (State.isArrayOf_alike hZ.alike A.2.1) hg hs hd
  rw [q2] at this
  exact this
end Own2
end Jvm.OwnKit
namespace Jvm.Pilot.@@N@@
open Jvm Jvm.ClassFile Sem Op Lib Jvm.Free Jvm.Stand Jvm.LawKit Jvm.RoadKit Bundle Jvm.Pilot.@@N@@.Jvm.D Jvm.OwnKit
theorem tw {a0 : Array Value} {Z : State} (hw : ∀ d ∈ tables_1, d.before a0 Z = true) (i : Nat) {d : Jvm.Cond} (h : tables_1[i]? = some d) : d.before a0 Z = true := hw d (List.mem_of_getElem? h)
abbrev cFI : String := "com/example/quicksettle/quicksettle/Records$Filling"
abbrev cAL : String := "java/util/ArrayList"
abbrev cAB : String := "java/util/AbstractList"
abbrev cIN : String := "java/lang/Integer"
abbrev cLN : String := "java/util/ImmutableCollections$ListN"
abbrev cOB : String := "java/lang/Object"
abbrev cIC : String := "java/lang/Integer$IntegerCache"
abbrev cOA : String := "[Ljava/lang/Object;"
abbrev cLAW : String := "com/example/quicksettle/quicksettle/FillingLastPinLaw"
abbrev cIM : String := "java/util/ImmutableCollections"
abbrev cLI : String := "java/util/List"
abbrev cDE : String := "DEFAULTCAPACITY_EMPTY_ELEMENTDATA"
abbrev vi (x : Int32) : Slot := .val (.int x)
abbrev vr (x : Addr) : Slot := .val (.ref x)
theorem d6_0 : decode jdk_22_method_1_code 0 = .ok (.aload_n 0, 1) := by decide +kernel
theorem d6_1 : decode jdk_22_method_1_code 1 = .ok (.invokespecial 1, 3) := by decide +kernel
theorem d6_4 : decode jdk_22_method_1_code 4 = .ok (.return_, 1) := by decide +kernel
theorem pn_6 : plainName "java/util/AbstractCollection" = true := by first | (simp [plainName, overriddenIn]; done) | decide +kernel
theorem ef_6 (m : MethodId) (x0 : Addr) : entryFrame m #[(.ref x0)] 1 = mkF m 0 #[.val (.ref x0)] [] := by first | (simp [entryFrame, mkF, argsToLocals, Value.category]; done) | rfl
def Q_rmAC (Z : State) (a : Addr)  (h0 : Heap) (n0 : Nat) (vQ : Option Value) (hQ : Heap) (LQ : List Loc) : Prop := vQ = none ∧ Fr n0 LQ ∧ hQ = h0
set_option maxRecDepth 65536 in
set_option maxHeartbeats 40000000 in
theorem rmAC (l : Launch) (Z : State) (a0 : Array Value) (hw : ∀ d ∈ tables_1, d.before a0 Z = true) (ws : List Jvm.Cond) (a : Addr)  (h0 : Heap) (n0 : Nat) (Z0 : n0 ≤ h0.size) :
    MetFree l (⟨"java/util/AbstractCollection", "<init>", "()V"⟩ : MethodName) (head1 (Jvm.Cond.code (⟨"java/util/AbstractCollection", "<init>", "()V"⟩ : MethodName) jdk_22_method_1_code 1 none :: ws) ({ frames := 1, cells := 0, slots := 0, locals := 12 } : Room)) (fun aQ UQ => aQ = #[(.ref a)] ∧ Z.Warmed39 UQ.vm ∧ UQ.heap = h0) (fun _ _ _ _ _ => True) (fun _ UQ oQ UR => ∃ vQ LQ, oQ = .returned vQ ∧ Q_rmAC Z a  h0 n0 vQ UR.heap LQ ∧ FrameEnd UQ oQ UR LQ ({ frames := 1, cells := 0, slots := 0, locals := 12 } : Room).cells ({ frames := 1, cells := 0, slots := 0, locals := 12 } : Room).slots) := by
  refine MetFree.of_bodySF (plainFor_of_name pn_6) hisR ?_
  intro p e s m args below meth c s₁ Bd hml0 hP hK
  obtain ⟨rfl, hZ, hh⟩ := hP
  have hx := Bd.exec
  have hby := Bd.bytes
  have hlk := Bd.notSynchronized
  have hml : c.maxLocals = 1 := hml0
  have hown : s.vm.findClass "java/util/AbstractCollection" = some m.cls := findClass_of_methodNamed Bd.named
  have hnm := (name_of_methodNamed Bd.named Bd.method).1
  have X0 : Stand p l e ({ frames := 1, cells := 0, slots := 0, locals := 12 } : Room) s m #[(.ref a)] below meth c s₁ [] 0 0 := Stand.of_body Bd
  have e0 : s₁.heap = h0 := by rw [← hh, Bd.state]; rfl
  have N0 := Fr.nil n0
  show Go p e below _ (Done s (Q_rmAC Z a  h0 n0) ({ frames := 1, cells := 0, slots := 0, locals := 12 } : Room).cells ({ frames := 1, cells := 0, slots := 0, locals := 12 } : Room).slots)
  refine Go.via (fun tQ kQ => castTop (ef_6 m a) kQ) ?_
  show Go p e below (s₁.setTop (mkF m 0 #[vr a] [])) _
  refine Go.via (fun _ => XS.aloadN X0.here hx rfl (hb hby d6_0) rfl rfl) ?_
  obtain ⟨T1, X1, e1, st1⟩ := initO X0 hx hZ hown (tw hw 37 rfl) (tw hw 17 rfl) (tw hw 18 rfl) e0 (g := (mkF m 1 #[vr a] [(.ref a)])) rfl (by rw [hml]; rfl) rfl (hb hby d6_1) (by decide) (W := 0) (by show 2 * 0 + _ ≤ _; exact Nat.le_of_eq rfl) (by decide)
  refine Go.via (st1) ?_
  clear st1
  clear X0 e0
  show Go p e below (T1.setTop (mkF m 4 #[vr a] [])) _
  exact Go.fin X1 hlk (v := none) (fun _ => rfl) (fun fs hr => X1.returnOut hx Bd.returns (hb hby d6_4) hr) (by rw [e1]; exact ⟨rfl, N0, rfl⟩) (by decide) (by decide)
theorem d5_0 : decode jdk_39_method_1_code 0 = .ok (.aload_n 0, 1) := by decide +kernel
theorem d5_1 : decode jdk_39_method_1_code 1 = .ok (.invokespecial 1, 3) := by decide +kernel
theorem pd__28_29V : parseMethodDescriptor "()V" = some ⟨[], none⟩ := by decide +kernel
theorem d5_4 : decode jdk_39_method_1_code 4 = .ok (.aload_n 0, 1) := by decide +kernel
theorem d5_5 : decode jdk_39_method_1_code 5 = .ok (.iconst 0, 1) := by decide +kernel
theorem d5_6 : decode jdk_39_method_1_code 6 = .ok (.putfield 7, 3) := by decide +kernel
theorem d5_9 : decode jdk_39_method_1_code 9 = .ok (.return_, 1) := by decide +kernel
theorem pn_5 : plainName cAB = true := by first | (simp [plainName, overriddenIn]; done) | decide +kernel
theorem ef_5 (m : MethodId) (x0 : Addr) : entryFrame m #[(.ref x0)] 1 = mkF m 0 #[.val (.ref x0)] [] := by first | (simp [entryFrame, mkF, argsToLocals, Value.category]; done) | rfl
def Q_rmAB (Z : State) (a : Addr)  (h0 : Heap) (n0 : Nat) (vQ : Option Value) (hQ : Heap) (LQ : List Loc) : Prop := vQ = none ∧ Fr n0 LQ ∧ Keep h0 hQ [a] ∧ Exa Z hQ a cAL ∧ Fld Z hQ a cAB "modCount" "I" (.int (0 : Int32)) ∧ Fld Z hQ a cAL "elementData" cOA .null ∧ Fld Z hQ a cAL "size" "I" (.int (0 : Int32))
set_option maxRecDepth 65536 in
set_option maxHeartbeats 40000000 in
theorem rmAB (l : Launch) (Z : State) (a0 : Array Value) (hw : ∀ d ∈ tables_1, d.before a0 Z = true) (ws : List Jvm.Cond) (a : Addr)  (h0 : Heap) (n0 : Nat) (Z0 : n0 ≤ h0.size) (P0 : Exa Z h0 a cAL) (P1 : Fld Z h0 a cAB "modCount" "I" (.int (0 : Int32))) (P2 : Fld Z h0 a cAL "elementData" cOA .null) (P3 : Fld Z h0 a cAL "size" "I" (.int (0 : Int32))) (g_a : n0 ≤ a) :
    MetFree l (⟨cAB, "<init>", "()V"⟩ : MethodName) (head1 (Jvm.Cond.code (⟨cAB, "<init>", "()V"⟩ : MethodName) jdk_39_method_1_code 1 none :: ws) ({ frames := 2, cells := 0, slots := 0, locals := 24 } : Room)) (fun aQ UQ => aQ = #[(.ref a)] ∧ Z.Warmed39 UQ.vm ∧ UQ.heap = h0) (fun _ _ _ _ _ => True) (fun _ UQ oQ UR => ∃ vQ LQ, oQ = .returned vQ ∧ Q_rmAB Z a  h0 n0 vQ UR.heap LQ ∧ FrameEnd UQ oQ UR LQ ({ frames := 2, cells := 0, slots := 0, locals := 24 } : Room).cells ({ frames := 2, cells := 0, slots := 0, locals := 24 } : Room).slots) := by
  refine MetFree.of_bodySF (plainFor_of_name pn_5) hisR ?_
  intro p e s m args below meth c s₁ Bd hml0 hP hK
  obtain ⟨rfl, hZ, hh⟩ := hP
  have hx := Bd.exec
  have hby := Bd.bytes
  have hlk := Bd.notSynchronized
  have hml : c.maxLocals = 1 := hml0
  have hown : s.vm.findClass cAB = some m.cls := findClass_of_methodNamed Bd.named
  have hnm := (name_of_methodNamed Bd.named Bd.method).1
  have X0 : Stand p l e ({ frames := 2, cells := 0, slots := 0, locals := 24 } : Room) s m #[(.ref a)] below meth c s₁ [] 0 0 := Stand.of_body Bd
  have e0 : s₁.heap = h0 := by rw [← hh, Bd.state]; rfl
  have N0 := Fr.nil n0
  show Go p e below _ (Done s (Q_rmAB Z a  h0 n0) ({ frames := 2, cells := 0, slots := 0, locals := 24 } : Room).cells ({ frames := 2, cells := 0, slots := 0, locals := 24 } : Room).slots)
  refine Go.via (fun tQ kQ => castTop (ef_5 m a) kQ) ?_
  show Go p e below (s₁.setTop (mkF m 0 #[vr a] [])) _
  refine Go.via (fun _ => XS.aloadN X0.here hx rfl (hb hby d5_0) rfl rfl) ?_
  obtain ⟨r2, _, ⟨T2, L2, k2, n2⟩, -, X2, ⟨Lc2, hQ2, l2, y2, z2⟩, st2⟩ := X0.specialBack hx (y := (⟨"java/util/AbstractCollection", "<init>", "()V"⟩ : MethodName)) rfl hown (mvT hZ (tw hw 31 rfl)) (mvT hZ (tw hw 32 rfl)) (mvT hZ (tw hw 36 rfl)) (by decide) (backOf (W := 0) (rmAC l Z a0 hw [] a  h0 n0 Z0) hZ (tw hw 36 rfl) (tw hw 35 rfl) (by decide) (by decide)) (g := (mkF m 1 #[vr a] [(.ref a)])) rfl (by rw [hml]; rfl) (Steps.refl _) (a := a) (argsL := []) (rest := []) (lenOf pd__28_29V rfl) rfl (by show 2 * 0 + _ ≤ _; exact Nat.le_of_eq rfl) (hb hby d5_1) (fun _ _ => ⟨rfl, e0, (by decide : 0 + 0 ≤ _), (by decide : 0 + 0 ≤ _)⟩)
  dsimp only [Pt.U, Pt.locs, Pt.cells, Pt.slots] at X2 l2 y2 z2 st2 hQ2
  rw [l2, y2, z2] at X2
  clear l2 y2 z2
  obtain ⟨hr2, N2q, eh2⟩ := hQ2
  rw [hr2] at st2
  clear hr2
  have N2 := Fr.app N0 N2q
  refine Go.via (fun _ kQ => st2.trans kQ) ?_
  clear st2
  have e2 : T2.heap = h0 := eh2
  clear X0 e0
  show Go p e below (T2.setTop (mkF m 4 #[vr a] [])) _
  refine Go.via (fun _ => XS.aloadN X2.here hx rfl (hb hby d5_4) rfl rfl) ?_
  refine Go.via (fun _ => XS.iconst X2.here hx rfl (hb hby d5_5)) ?_
  obtain ⟨T3, h3, X3, e3, W3, st3⟩ := putF X2 hx hZ hown (host := "") (Or.inl (tw hw 38 rfl)) Via.refl e2 P1 P0 (Or.inl (tw hw 39 rfl)) (tw hw 20 rfl) (ty := .int) (by decide) rfl rfl (g := (mkF m 6 #[vr a] [(.int (0 : Int32)), (.ref a)])) rfl rfl (hb hby d5_6)
  refine Go.via (st3) ?_
  clear st3
  have N3 := Fr.snoc X3 N2 g_a
  have f4 : Fld Z h3 a cAB "modCount" "I" (.int (0 : Int32)) := P1.same W3
  clear X2 e2
  show Go p e below (T3.setTop (mkF m 9 #[vr a] [])) _
  have k5 : Keep h0 h3 [a] := ((Keep.refl h0 [a]).wr W3 (Or.inl (List.mem_of_getElem? (i := 0) rfl)))
  have f6 : Exa Z h3 a cAL := (P0.wr W3)
  have f7 : Fld Z h3 a cAL "elementData" cOA .null := (P2.other W3 (Or.inr (slot_ne (Or.inl (tw hw 42 rfl)) (Or.inl (tw hw 39 rfl)) (by decide) (t := (.array (.object cOB))) (t' := .int) (by decide) (by decide))))
  have f8 : Fld Z h3 a cAL "size" "I" (.int (0 : Int32)) := (P3.other W3 (Or.inr (slot_ne (Or.inl (tw hw 70 rfl)) (Or.inl (tw hw 39 rfl)) (by decide) (t := .int) (t' := .int) (by decide) (by decide))))
  exact Go.fin X3 hlk (v := none) (fun _ => rfl) (fun fs hr => X3.returnOut hx Bd.returns (hb hby d5_9) hr) (by rw [e3]; exact ⟨rfl, N3, k5, f6, f4, f7, f8⟩) (by decide) (by decide)
theorem d4_0 : decode jdk_38_method_2_code 0 = .ok (.aload_n 0, 1) := by decide +kernel
theorem d4_1 : decode jdk_38_method_2_code 1 = .ok (.invokespecial 1, 3) := by decide +kernel
theorem d4_4 : decode jdk_38_method_2_code 4 = .ok (.aload_n 0, 1) := by decide +kernel
theorem d4_5 : decode jdk_38_method_2_code 5 = .ok (.getstatic 39, 3) := by decide +kernel
theorem d4_8 : decode jdk_38_method_2_code 8 = .ok (.putfield 9, 3) := by decide +kernel
theorem d4_11 : decode jdk_38_method_2_code 11 = .ok (.return_, 1) := by decide +kernel
theorem pn_4 : plainName cAL = true := by first | (simp [plainName, overriddenIn]; done) | decide +kernel
theorem ef_4 (m : MethodId) (x0 : Addr) : entryFrame m #[(.ref x0)] 1 = mkF m 0 #[.val (.ref x0)] [] := by first | (simp [entryFrame, mkF, argsToLocals, Value.category]; done) | rfl
def Q_rmAL (Z : State) (a : Addr) (de : Addr) (h0 : Heap) (n0 : Nat) (vQ : Option Value) (hQ : Heap) (LQ : List Loc) : Prop := vQ = none ∧ Fr n0 LQ ∧ Keep h0 hQ [a] ∧ Exa Z hQ a cAL ∧ Fld Z hQ a cAB "modCount" "I" (.int (0 : Int32)) ∧ Fld Z hQ a cAL "elementData" cOA (.ref de) ∧ Fld Z hQ a cAL "size" "I" (.int (0 : Int32))
set_option maxRecDepth 65536 in
set_option maxHeartbeats 40000000 in
theorem rmAL (l : Launch) (Z : State) (a0 : Array Value) (hw : ∀ d ∈ tables_1, d.before a0 Z = true) (ws : List Jvm.Cond) (a : Addr) (de : Addr) (h0 : Heap) (n0 : Nat) (Z0 : n0 ≤ h0.size) (P0 : Exa Z h0 a cAL) (P1 : Fld Z h0 a cAB "modCount" "I" (.int (0 : Int32))) (P2 : Fld Z h0 a cAL "elementData" cOA .null) (P3 : Fld Z h0 a cAL "size" "I" (.int (0 : Int32))) (P4 : Old Z n0 h0) (zD : Sta Z Z.heap cAL cDE cOA (.ref de)) (g_a : n0 ≤ a) :
    MetFree l (⟨cAL, "<init>", "()V"⟩ : MethodName) (head1 (Jvm.Cond.code (⟨cAL, "<init>", "()V"⟩ : MethodName) jdk_38_method_2_code 1 none :: ws) ({ frames := 3, cells := 0, slots := 0, locals := 36 } : Room)) (fun aQ UQ => aQ = #[(.ref a)] ∧ Z.Warmed39 UQ.vm ∧ UQ.heap = h0) (fun _ _ _ _ _ => True) (fun _ UQ oQ UR => ∃ vQ LQ, oQ = .returned vQ ∧ Q_rmAL Z a de h0 n0 vQ UR.heap LQ ∧ FrameEnd UQ oQ UR LQ ({ frames := 3, cells := 0, slots := 0, locals := 36 } : Room).cells ({ frames := 3, cells := 0, slots := 0, locals := 36 } : Room).slots) := by
  refine MetFree.of_bodySF (plainFor_of_name pn_4) hisR ?_
  intro p e s m args below meth c s₁ Bd hml0 hP hK
  obtain ⟨rfl, hZ, hh⟩ := hP
  have hx := Bd.exec
  have hby := Bd.bytes
  have hlk := Bd.notSynchronized
  have hml : c.maxLocals = 1 := hml0
  have hown : s.vm.findClass cAL = some m.cls := findClass_of_methodNamed Bd.named
  have hnm := (name_of_methodNamed Bd.named Bd.method).1
  have X0 : Stand p l e ({ frames := 3, cells := 0, slots := 0, locals := 36 } : Room) s m #[(.ref a)] below meth c s₁ [] 0 0 := Stand.of_body Bd
  have e0 : s₁.heap = h0 := by rw [← hh, Bd.state]; rfl
  have N0 := Fr.nil n0
  show Go p e below _ (Done s (Q_rmAL Z a de h0 n0) ({ frames := 3, cells := 0, slots := 0, locals := 36 } : Room).cells ({ frames := 3, cells := 0, slots := 0, locals := 36 } : Room).slots)
  refine Go.via (fun tQ kQ => castTop (ef_4 m a) kQ) ?_
  show Go p e below (s₁.setTop (mkF m 0 #[vr a] [])) _
  refine Go.via (fun _ => XS.aloadN X0.here hx rfl (hb hby d4_0) rfl rfl) ?_
  obtain ⟨r9, _, ⟨T9, L9, k9, n9⟩, -, X9, ⟨Lc9, hQ9, l9, y9, z9⟩, st9⟩ := X0.specialBack hx (y := (⟨cAB, "<init>", "()V"⟩ : MethodName)) rfl hown (mvT hZ (tw hw 25 rfl)) (mvT hZ (tw hw 26 rfl)) (mvT hZ (tw hw 30 rfl)) (by decide) (backOf (W := 0) (rmAB l Z a0 hw [] a  h0 n0 Z0 P0 P1 P2 P3 g_a) hZ (tw hw 30 rfl) (tw hw 29 rfl) (by decide) (by decide)) (g := (mkF m 1 #[vr a] [(.ref a)])) rfl (by rw [hml]; rfl) (Steps.refl _) (a := a) (argsL := []) (rest := []) (lenOf pd__28_29V rfl) rfl (by show 2 * 0 + _ ≤ _; exact Nat.le_of_eq rfl) (hb hby d4_1) (fun _ _ => ⟨rfl, e0, (by decide : 0 + 0 ≤ _), (by decide : 0 + 0 ≤ _)⟩)
  dsimp only [Pt.U, Pt.locs, Pt.cells, Pt.slots] at X9 l9 y9 z9 st9 hQ9
  rw [l9, y9, z9] at X9
  clear l9 y9 z9
  obtain ⟨hr9, N9q, K9q, f10, f11, f12, f13⟩ := hQ9
  rw [hr9] at st9
  clear hr9
  have N9 := Fr.app N0 N9q
  refine Go.via (fun _ kQ => st9.trans kQ) ?_
  clear st9
  have e9 : T9.heap = T9.heap := rfl
  have f14 : Exa Z T9.heap a cAL := f10
  have f15 : Fld Z T9.heap a cAB "modCount" "I" (.int (0 : Int32)) := f11
  have f16 : Fld Z T9.heap a cAL "elementData" cOA .null := f12
  have f17 : Fld Z T9.heap a cAL "size" "I" (.int (0 : Int32)) := f13
  clear X0 e0
  show Go p e below (T9.setTop (mkF m 4 #[vr a] [])) _
  refine Go.via (fun _ => XS.aloadN X9.here hx rfl (hb hby d4_4) rfl rfl) ?_
  have o18 : Old Z n0 T9.heap := (P4.keep K9q (allS g_a all0))
  have f19 : Sta Z T9.heap cAL cDE cOA (.ref de) := zD.ext o18.2
  obtain ⟨T20, X20, e20, st20⟩ := getS2 X9 hx hZ hown (host := "") (Or.inl (tw hw 40 rfl)) Via.refl e9 f19 (g := (mkF m 5 #[vr a] [(.ref a)])) rfl (hb hby d4_5)
  refine Go.via (st20) ?_
  clear st20
  clear X9 e9
  show Go p e below (T20.setTop (mkF m 8 #[vr a] [(.ref de), (.ref a)])) _
  obtain ⟨T21, h21, X21, e21, W21, st21⟩ := putF X20 hx hZ hown (host := "") (Or.inl (tw hw 41 rfl)) Via.refl e20 f16 f14 (Or.inl (tw hw 42 rfl)) (tw hw 20 rfl) (ty := (.array (.object cOB))) (by decide) rfl rfl (g := (mkF m 8 #[vr a] [(.ref de), (.ref a)])) rfl rfl (hb hby d4_8)
  refine Go.via (st21) ?_
  clear st21
  have N21 := Fr.snoc X21 N9 g_a
  have f22 : Fld Z h21 a cAL "elementData" cOA (.ref de) := f16.same W21
  clear X20 e20
  show Go p e below (T21.setTop (mkF m 11 #[vr a] [])) _
  have k23 : Keep h0 h21 [a] := (((Keep.refl h0 [a]).trans K9q (allS (Or.inl (List.mem_of_getElem? (i := 0) rfl)) all0)).wr W21 (Or.inl (List.mem_of_getElem? (i := 0) rfl)))
  have f24 : Exa Z h21 a cAL := (f14.wr W21)
  have f25 : Fld Z h21 a cAB "modCount" "I" (.int (0 : Int32)) := (f15.other W21 (Or.inr (slot_ne (Or.inl (tw hw 39 rfl)) (Or.inl (tw hw 42 rfl)) (by decide) (t := .int) (t' := (.array (.object cOB))) (by decide) (by decide))))
  have f26 : Fld Z h21 a cAL "size" "I" (.int (0 : Int32)) := (f17.other W21 (Or.inr (slot_ne (Or.inl (tw hw 70 rfl)) (Or.inl (tw hw 42 rfl)) (by decide) (t := .int) (t' := (.array (.object cOB))) (by decide) (by decide))))
  exact Go.fin X21 hlk (v := none) (fun _ => rfl) (fun fs hr => X21.returnOut hx Bd.returns (hb hby d4_11) hr) (by rw [e21]; exact ⟨rfl, N21, k23, f24, f25, f22, f26⟩) (by decide) (by decide)
theorem d9_0 : decode jdk_38_method_9_code 0 = .ok (.aload_n 0, 1) := by decide +kernel
theorem d9_1 : decode jdk_38_method_9_code 1 = .ok (.getfield 48, 3) := by decide +kernel
theorem d9_4 : decode jdk_38_method_9_code 4 = .ok (.ifCond .ne 7, 3) := by decide +kernel
theorem d9_7 : decode jdk_38_method_9_code 7 = .ok (.iconst 1, 1) := by decide +kernel
theorem d9_8 : decode jdk_38_method_9_code 8 = .ok (.goto 4, 3) := by decide +kernel
theorem d9_12 : decode jdk_38_method_9_code 12 = .ok (.ireturn, 1) := by decide +kernel
theorem d9_11 : decode jdk_38_method_9_code 11 = .ok (.iconst 0, 1) := by decide +kernel
theorem pn_9 : plainName cAL = true := by first | (simp [plainName, overriddenIn]; done) | decide +kernel
theorem ef_9 (m : MethodId) (x0 : Addr) : entryFrame m #[(.ref x0)] 1 = mkF m 0 #[.val (.ref x0)] [] := by first | (simp [entryFrame, mkF, argsToLocals, Value.category]; done) | rfl
def Q_rmEm (Z : State) (a : Addr) (sz : Int32) (h0 : Heap) (n0 : Nat) (vQ : Option Value) (hQ : Heap) (LQ : List Loc) : Prop := vQ = some (.int (if sz = (0 : Int32) then (1 : Int32) else (0 : Int32))) ∧ Fr n0 LQ ∧ hQ = h0
set_option maxRecDepth 65536 in
set_option maxHeartbeats 40000000 in
theorem rmEm (l : Launch) (Z : State) (a0 : Array Value) (hw : ∀ d ∈ tables_1, d.before a0 Z = true) (ws : List Jvm.Cond) (a : Addr) (sz : Int32) (h0 : Heap) (n0 : Nat) (Z0 : n0 ≤ h0.size) (P0 : Fld Z h0 a cAL "size" "I" (.int sz)) :
    MetFree l (⟨cAL, "isEmpty", "()Z"⟩ : MethodName) (head1 (Jvm.Cond.code (⟨cAL, "isEmpty", "()Z"⟩ : MethodName) jdk_38_method_9_code 1 (some .boolean) :: ws) ({ frames := 0, cells := 0, slots := 0, locals := 0 } : Room)) (fun aQ UQ => aQ = #[(.ref a)] ∧ Z.Warmed39 UQ.vm ∧ UQ.heap = h0) (fun _ _ _ _ _ => True) (fun _ UQ oQ UR => ∃ vQ LQ, oQ = .returned vQ ∧ Q_rmEm Z a sz h0 n0 vQ UR.heap LQ ∧ FrameEnd UQ oQ UR LQ ({ frames := 0, cells := 0, slots := 0, locals := 0 } : Room).cells ({ frames := 0, cells := 0, slots := 0, locals := 0 } : Room).slots) := by
  refine MetFree.of_bodySF (plainFor_of_name pn_9) hisR ?_
  intro p e s m args below meth c s₁ Bd hml0 hP hK
  obtain ⟨rfl, hZ, hh⟩ := hP
  have hx := Bd.exec
  have hby := Bd.bytes
  have hlk := Bd.notSynchronized
  have hml : c.maxLocals = 1 := hml0
  have hown : s.vm.findClass cAL = some m.cls := findClass_of_methodNamed Bd.named
  have hnm := (name_of_methodNamed Bd.named Bd.method).1
  have X0 : Stand p l e ({ frames := 0, cells := 0, slots := 0, locals := 0 } : Room) s m #[(.ref a)] below meth c s₁ [] 0 0 := Stand.of_body Bd
  have e0 : s₁.heap = h0 := by rw [← hh, Bd.state]; rfl
  have N0 := Fr.nil n0
  show Go p e below _ (Done s (Q_rmEm Z a sz h0 n0) ({ frames := 0, cells := 0, slots := 0, locals := 0 } : Room).cells ({ frames := 0, cells := 0, slots := 0, locals := 0 } : Room).slots)
  refine Go.via (fun tQ kQ => castTop (ef_9 m a) kQ) ?_
  show Go p e below (s₁.setTop (mkF m 0 #[vr a] [])) _
  refine Go.via (fun _ => XS.aloadN X0.here hx rfl (hb hby d9_0) rfl rfl) ?_
  obtain ⟨T27, X27, e27, st27⟩ := getF X0 hx hZ hown (host := "") (Or.inl (tw hw 69 rfl)) Via.refl e0 P0 (g := (mkF m 1 #[vr a] [(.ref a)])) rfl rfl (hb hby d9_1)
  refine Go.via (st27) ?_
  clear st27
  clear X0 e0
  show Go p e below (T27.setTop (mkF m 4 #[vr a] [(.int sz)])) _
  by_cases hc28 : sz = (0 : Int32)
  · refine Go.via (fun _ => XS.ifNo X27.here hx rfl (hb hby d9_4) rfl ((if0 _ _).trans (teq (hc28 : sz = (0 : Int32))).2)) ?_
    show Go p e below (T27.setTop (mkF m 7 #[vr a] [])) _
    refine Go.via (fun _ => XS.iconst X27.here hx rfl (hb hby d9_7)) ?_
    refine Go.via (fun _ => XS.goto X27.here hx rfl (pc0 := 8) (pc' := 12) rfl (hb hby d9_8) (by decide) (by decide)) ?_
    exact Go.fin X27 hlk (v := some (.int (1 : Int32))) (fun h => by rw [Bd.returns] at h; cases h) (fun fs hr => retN X27 hx (t := .boolean) Bd.returns (by simp) (hb hby d9_12) hr) (by rw [e27]; exact ⟨(by first | rw [if_pos (by assumption)] | rw [if_neg (by assumption)]), N0, rfl⟩) (by decide) (by decide)
  · refine Go.via (fun _ => XS.ifYes X27.here hx rfl (pc0 := 4) (pc' := 11) rfl (hb hby d9_4) rfl ((if0 _ _).trans (feq (hc28 : ¬ (sz = (0 : Int32)))).2) (by decide) (by decide)) ?_
    show Go p e below (T27.setTop (mkF m 11 #[vr a] [])) _
    refine Go.via (fun _ => XS.iconst X27.here hx rfl (hb hby d9_11)) ?_
    exact Go.fin X27 hlk (v := some (.int (0 : Int32))) (fun h => by rw [Bd.returns] at h; cases h) (fun fs hr => retN X27 hx (t := .boolean) Bd.returns (by simp) (hb hby d9_12) hr) (by rw [e27]; exact ⟨(by first | rw [if_pos (by assumption)] | rw [if_neg (by assumption)]), N0, rfl⟩) (by decide) (by decide)
theorem d17_0 : decode jdk_38_method_8_code 0 = .ok (.aload_n 0, 1) := by decide +kernel
theorem d17_1 : decode jdk_38_method_8_code 1 = .ok (.getfield 48, 3) := by decide +kernel
theorem d17_4 : decode jdk_38_method_8_code 4 = .ok (.ireturn, 1) := by decide +kernel
theorem pn_17 : plainName cAL = true := by first | (simp [plainName, overriddenIn]; done) | decide +kernel
theorem ef_17 (m : MethodId) (x0 : Addr) : entryFrame m #[(.ref x0)] 1 = mkF m 0 #[.val (.ref x0)] [] := by first | (simp [entryFrame, mkF, argsToLocals, Value.category]; done) | rfl
def Q_rmSz (Z : State) (a : Addr) (sz : Int32) (h0 : Heap) (n0 : Nat) (vQ : Option Value) (hQ : Heap) (LQ : List Loc) : Prop := vQ = some (.int sz) ∧ Fr n0 LQ ∧ hQ = h0
set_option maxRecDepth 65536 in
set_option maxHeartbeats 40000000 in
theorem rmSz (l : Launch) (Z : State) (a0 : Array Value) (hw : ∀ d ∈ tables_1, d.before a0 Z = true) (ws : List Jvm.Cond) (a : Addr) (sz : Int32) (h0 : Heap) (n0 : Nat) (Z0 : n0 ≤ h0.size) (P0 : Fld Z h0 a cAL "size" "I" (.int sz)) :
    MetFree l (⟨cAL, "size", "()I"⟩ : MethodName) (head1 (Jvm.Cond.code (⟨cAL, "size", "()I"⟩ : MethodName) jdk_38_method_8_code 1 (some .int) :: ws) ({ frames := 0, cells := 0, slots := 0, locals := 0 } : Room)) (fun aQ UQ => aQ = #[(.ref a)] ∧ Z.Warmed39 UQ.vm ∧ UQ.heap = h0) (fun _ _ _ _ _ => True) (fun _ UQ oQ UR => ∃ vQ LQ, oQ = .returned vQ ∧ Q_rmSz Z a sz h0 n0 vQ UR.heap LQ ∧ FrameEnd UQ oQ UR LQ ({ frames := 0, cells := 0, slots := 0, locals := 0 } : Room).cells ({ frames := 0, cells := 0, slots := 0, locals := 0 } : Room).slots) := by
  refine MetFree.of_bodySF (plainFor_of_name pn_17) hisR ?_
  intro p e s m args below meth c s₁ Bd hml0 hP hK
  obtain ⟨rfl, hZ, hh⟩ := hP
  have hx := Bd.exec
  have hby := Bd.bytes
  have hlk := Bd.notSynchronized
  have hml : c.maxLocals = 1 := hml0
  have hown : s.vm.findClass cAL = some m.cls := findClass_of_methodNamed Bd.named
  have hnm := (name_of_methodNamed Bd.named Bd.method).1
  have X0 : Stand p l e ({ frames := 0, cells := 0, slots := 0, locals := 0 } : Room) s m #[(.ref a)] below meth c s₁ [] 0 0 := Stand.of_body Bd
  have e0 : s₁.heap = h0 := by rw [← hh, Bd.state]; rfl
  have N0 := Fr.nil n0
  show Go p e below _ (Done s (Q_rmSz Z a sz h0 n0) ({ frames := 0, cells := 0, slots := 0, locals := 0 } : Room).cells ({ frames := 0, cells := 0, slots := 0, locals := 0 } : Room).slots)
  refine Go.via (fun tQ kQ => castTop (ef_17 m a) kQ) ?_
  show Go p e below (s₁.setTop (mkF m 0 #[vr a] [])) _
  refine Go.via (fun _ => XS.aloadN X0.here hx rfl (hb hby d17_0) rfl rfl) ?_
  obtain ⟨T29, X29, e29, st29⟩ := getF X0 hx hZ hown (host := "") (Or.inl (tw hw 69 rfl)) Via.refl e0 P0 (g := (mkF m 1 #[vr a] [(.ref a)])) rfl rfl (hb hby d17_1)
  refine Go.via (st29) ?_
  clear st29
  clear X0 e0
  show Go p e below (T29.setTop (mkF m 4 #[vr a] [(.int sz)])) _
  exact Go.fin X29 hlk (v := some (.int sz)) (fun h => by rw [Bd.returns] at h; cases h) (fun fs hr => OwnKit.retI X29 hx Bd.returns (hb hby d17_4) hr) (by rw [e29]; exact ⟨rfl, N0, rfl⟩) (by decide) (by decide)
theorem d14_0 : decode jdk_29_method_65_code 0 = .ok (.iload_n 0, 1) := by decide +kernel
theorem d14_1 : decode jdk_29_method_65_code 1 = .ok (.iload_n 1, 1) := by decide +kernel
theorem d14_2 : decode jdk_29_method_65_code 2 = .ok (.if_icmp .lt 7, 3) := by decide +kernel
theorem d14_9 : decode jdk_29_method_65_code 9 = .ok (.iload_n 1, 1) := by decide +kernel
theorem d14_10 : decode jdk_29_method_65_code 10 = .ok (.ireturn, 1) := by decide +kernel
theorem d14_5 : decode jdk_29_method_65_code 5 = .ok (.iload_n 0, 1) := by decide +kernel
theorem d14_6 : decode jdk_29_method_65_code 6 = .ok (.goto 4, 3) := by decide +kernel
theorem ef_14 (m : MethodId) (x0 : Int32) (x1 : Int32) : entryFrame m #[(.int x0), (.int x1)] 2 = mkF m 0 #[.val (.int x0), .val (.int x1)] [] := by first | (simp [entryFrame, mkF, argsToLocals, Value.category]; done) | rfl
def Q_rmMx (Z : State) (x : Int32) (y : Int32)  (h0 : Heap) (n0 : Nat) (vQ : Option Value) (hQ : Heap) (LQ : List Loc) : Prop := vQ = some (.int (if x < y then y else x)) ∧ Fr n0 LQ ∧ hQ = h0
set_option maxRecDepth 65536 in
set_option maxHeartbeats 40000000 in
theorem rmMx (l : Launch) (Z : State) (a0 : Array Value) (hw : ∀ d ∈ tables_1, d.before a0 Z = true) (ws : List Jvm.Cond) (x : Int32) (y : Int32)  (h0 : Heap) (n0 : Nat) (Z0 : n0 ≤ h0.size) :
    MetFree l (⟨"java/lang/Math", "max", "(II)I"⟩ : MethodName) (head1 (Jvm.Cond.code (⟨"java/lang/Math", "max", "(II)I"⟩ : MethodName) jdk_29_method_65_code 2 (some .int) :: ws) ({ frames := 0, cells := 0, slots := 0, locals := 0 } : Room)) (fun aQ UQ => aQ = #[(.int x), (.int y)] ∧ Z.Warmed39 UQ.vm ∧ UQ.heap = h0) (fun _ _ _ _ _ => True) (fun _ UQ oQ UR => ∃ vQ LQ, oQ = .returned vQ ∧ Q_rmMx Z x y  h0 n0 vQ UR.heap LQ ∧ FrameEnd UQ oQ UR LQ ({ frames := 0, cells := 0, slots := 0, locals := 0 } : Room).cells ({ frames := 0, cells := 0, slots := 0, locals := 0 } : Room).slots) := by
  refine MetFree.of_bodySF (Jvm.Free.JP.mathPlain rfl (by decide +kernel)) hisR ?_
  intro p e s m args below meth c s₁ Bd hml0 hP hK
  obtain ⟨rfl, hZ, hh⟩ := hP
  have hx := Bd.exec
  have hby := Bd.bytes
  have hlk := Bd.notSynchronized
  have hml : c.maxLocals = 2 := hml0
  have hown : s.vm.findClass "java/lang/Math" = some m.cls := findClass_of_methodNamed Bd.named
  have hnm := (name_of_methodNamed Bd.named Bd.method).1
  have X0 : Stand p l e ({ frames := 0, cells := 0, slots := 0, locals := 0 } : Room) s m #[(.int x), (.int y)] below meth c s₁ [] 0 0 := Stand.of_body Bd
  have e0 : s₁.heap = h0 := by rw [← hh, Bd.state]; rfl
  have N0 := Fr.nil n0
  show Go p e below _ (Done s (Q_rmMx Z x y  h0 n0) ({ frames := 0, cells := 0, slots := 0, locals := 0 } : Room).cells ({ frames := 0, cells := 0, slots := 0, locals := 0 } : Room).slots)
  refine Go.via (fun tQ kQ => castTop (ef_14 m x y) kQ) ?_
  show Go p e below (s₁.setTop (mkF m 0 #[vi x, vi y] [])) _
  refine Go.via (fun _ => XS.iloadN X0.here hx rfl (hb hby d14_0) rfl) ?_
  refine Go.via (fun _ => XS.iloadN X0.here hx rfl (hb hby d14_1) rfl) ?_
  by_cases hc30 : x < y
  · refine Go.via (fun _ => XS.icmpYes X0.here hx rfl (pc0 := 2) (pc' := 9) rfl (hb hby d14_2) rfl (tlt (hc30 : x < y)).1 (by decide) (by decide)) ?_
    refine Go.via (fun _ => XS.iloadN X0.here hx rfl (hb hby d14_9) rfl) ?_
    exact Go.fin X0 hlk (v := some (.int y)) (fun h => by rw [Bd.returns] at h; cases h) (fun fs hr => OwnKit.retI X0 hx Bd.returns (hb hby d14_10) hr) (by rw [e0]; exact ⟨(by first | rw [if_pos (by assumption)] | rw [if_neg (by assumption)]), N0, rfl⟩) (by decide) (by decide)
  · refine Go.via (fun _ => XS.icmpNo X0.here hx rfl (hb hby d14_2) rfl (flt (hc30 : ¬ (x < y))).1) ?_
    refine Go.via (fun _ => XS.iloadN X0.here hx rfl (hb hby d14_5) rfl) ?_
    refine Go.via (fun _ => XS.goto X0.here hx rfl (pc0 := 6) (pc' := 10) rfl (hb hby d14_6) (by decide) (by decide)) ?_
    exact Go.fin X0 hlk (v := some (.int x)) (fun h => by rw [Bd.returns] at h; cases h) (fun fs hr => OwnKit.retI X0 hx Bd.returns (hb hby d14_10) hr) (by rw [e0]; exact ⟨(by first | rw [if_pos (by assumption)] | rw [if_neg (by assumption)]), N0, rfl⟩) (by decide) (by decide)
theorem d13_0 : decode jdk_38_method_6_code 0 = .ok (.aload_n 0, 1) := by decide +kernel
theorem d13_1 : decode jdk_38_method_6_code 1 = .ok (.getfield 9, 3) := by decide +kernel
theorem d13_4 : decode jdk_38_method_6_code 4 = .ok (.arraylength, 1) := by decide +kernel
theorem d13_5 : decode jdk_38_method_6_code 5 = .ok (.istore_n 2, 1) := by decide +kernel
theorem d13_6 : decode jdk_38_method_6_code 6 = .ok (.iload_n 2, 1) := by decide +kernel
theorem d13_7 : decode jdk_38_method_6_code 7 = .ok (.ifCond .gt 13, 3) := by decide +kernel
theorem d13_10 : decode jdk_38_method_6_code 10 = .ok (.aload_n 0, 1) := by decide +kernel
theorem d13_11 : decode jdk_38_method_6_code 11 = .ok (.getfield 9, 3) := by decide +kernel
theorem d13_14 : decode jdk_38_method_6_code 14 = .ok (.getstatic 39, 3) := by decide +kernel
theorem d13_17 : decode jdk_38_method_6_code 17 = .ok (.if_acmp .eq 28, 3) := by decide +kernel
theorem d13_45 : decode jdk_38_method_6_code 45 = .ok (.aload_n 0, 1) := by decide +kernel
theorem d13_46 : decode jdk_38_method_6_code 46 = .ok (.bipush 10, 2) := by decide +kernel
theorem d13_48 : decode jdk_38_method_6_code 48 = .ok (.iload_n 1, 1) := by decide +kernel
theorem d13_49 : decode jdk_38_method_6_code 49 = .ok (.invokestatic 79, 3) := by decide +kernel
theorem pd__28II_29I : parseMethodDescriptor "(II)I" = some ⟨[.int, .int], some .int⟩ := by decide +kernel
theorem d13_52 : decode jdk_38_method_6_code 52 = .ok (.anewarray 7, 3) := by decide +kernel
theorem d13_55 : decode jdk_38_method_6_code 55 = .ok (.dup_x1, 1) := by decide +kernel
theorem d13_56 : decode jdk_38_method_6_code 56 = .ok (.putfield 9, 3) := by decide +kernel
theorem d13_59 : decode jdk_38_method_6_code 59 = .ok (.areturn, 1) := by decide +kernel
theorem pn_13 : plainName cAL = true := by first | (simp [plainName, overriddenIn]; done) | decide +kernel
theorem ef_13 (m : MethodId) (x0 : Addr) (x1 : Int32) : entryFrame m #[(.ref x0), (.int x1)] 4 = mkF m 0 #[.val (.ref x0), .val (.int x1), .unset, .unset] [] := by first | (simp [entryFrame, mkF, argsToLocals, Value.category]; done) | rfl
def Q_rmGi (Z : State) (a : Addr) (mn : Int32) (de : Addr) (mc : Int32) (h0 : Heap) (n0 : Nat) (vQ : Option Value) (hQ : Heap) (LQ : List Loc) : Prop := ∃ r : Addr, vQ = some (.ref r) ∧ Fr n0 LQ ∧ Keep h0 hQ [a] ∧ h0.size ≤ r ∧ Exa Z hQ a cAL ∧ Fld Z hQ a cAB "modCount" "I" (.int mc) ∧ Fld Z hQ a cAL "elementData" cOA (.ref r) ∧ Fld Z hQ a cAL "size" "I" (.int (0 : Int32)) ∧ Ra Z hQ r cOB [.null, .null, .null, .null, .null, .null, .null, .null, .null, .null]
set_option maxRecDepth 65536 in
set_option maxHeartbeats 40000000 in
theorem rmGi (l : Launch) (Z : State) (a0 : Array Value) (hw : ∀ d ∈ tables_1, d.before a0 Z = true) (ws : List Jvm.Cond) (a : Addr) (mn : Int32) (de : Addr) (mc : Int32) (h0 : Heap) (n0 : Nat) (Z0 : n0 ≤ h0.size) (P0 : Exa Z h0 a cAL) (P1 : Fld Z h0 a cAB "modCount" "I" (.int mc)) (P2 : Fld Z h0 a cAL "elementData" cOA (.ref de)) (P3 : Fld Z h0 a cAL "size" "I" (.int (0 : Int32))) (P4 : Old Z n0 h0) (zD : Sta Z Z.heap cAL cDE cOA (.ref de)) (zN : Rn Z Z.heap de (0 : Int32)) (g_a : n0 ≤ a) (hmn : mn = 1) :
    MetFree l (⟨cAL, "grow", "(I)[Ljava/lang/Object;"⟩ : MethodName) (head1 (Jvm.Cond.code (⟨cAL, "grow", "(I)[Ljava/lang/Object;"⟩ : MethodName) jdk_38_method_6_code 4 (some (.array (.object cOB))) :: ws) ({ frames := 1, cells := 1, slots := 10, locals := 14 } : Room)) (fun aQ UQ => aQ = #[(.ref a), (.int mn)] ∧ Z.Warmed39 UQ.vm ∧ UQ.heap = h0) (fun _ _ _ _ _ => True) (fun _ UQ oQ UR => ∃ vQ LQ, oQ = .returned vQ ∧ Q_rmGi Z a mn de mc h0 n0 vQ UR.heap LQ ∧ FrameEnd UQ oQ UR LQ ({ frames := 1, cells := 1, slots := 10, locals := 14 } : Room).cells ({ frames := 1, cells := 1, slots := 10, locals := 14 } : Room).slots) := by
  refine MetFree.of_bodySF (plainFor_of_name pn_13) hisR ?_
  intro p e s m args below meth c s₁ Bd hml0 hP hK
  obtain ⟨rfl, hZ, hh⟩ := hP
  have hx := Bd.exec
  have hby := Bd.bytes
  have hlk := Bd.notSynchronized
  have hml : c.maxLocals = 4 := hml0
  have hown : s.vm.findClass cAL = some m.cls := findClass_of_methodNamed Bd.named
  have hnm := (name_of_methodNamed Bd.named Bd.method).1
  have X0 : Stand p l e ({ frames := 1, cells := 1, slots := 10, locals := 14 } : Room) s m #[(.ref a), (.int mn)] below meth c s₁ [] 0 0 := Stand.of_body Bd
  have e0 : s₁.heap = h0 := by rw [← hh, Bd.state]; rfl
  have N0 := Fr.nil n0
  show Go p e below _ (Done s (Q_rmGi Z a mn de mc h0 n0) ({ frames := 1, cells := 1, slots := 10, locals := 14 } : Room).cells ({ frames := 1, cells := 1, slots := 10, locals := 14 } : Room).slots)
  refine Go.via (fun tQ kQ => castTop (ef_13 m a mn) kQ) ?_
  show Go p e below (s₁.setTop (mkF m 0 #[vr a, vi mn, .unset, .unset] [])) _
  · subst hmn
    show Go p e below (s₁.setTop (mkF m 0 #[vr a, vi (1 : Int32), .unset, .unset] [])) _
    refine Go.via (fun _ => XS.aloadN X0.here hx rfl (hb hby d13_0) rfl rfl) ?_
    obtain ⟨T31, X31, e31, st31⟩ := getF X0 hx hZ hown (host := "") (Or.inl (tw hw 41 rfl)) Via.refl e0 P2 (g := (mkF m 1 #[vr a, vi (1 : Int32), .unset, .unset] [(.ref a)])) rfl rfl (hb hby d13_1)
    refine Go.via (st31) ?_
    clear st31
    clear X0 e0
    show Go p e below (T31.setTop (mkF m 4 #[vr a, vi (1 : Int32), .unset, .unset] [(.ref de)])) _
    have f32 : Rn Z h0 de (0 : Int32) := zN.ext P4.2
    refine Go.via (lenN X31 hx hZ e31 f32 (g := (mkF m 4 #[vr a, vi (1 : Int32), .unset, .unset] [(.ref de)])) rfl rfl (hb hby d13_4)) ?_
    show Go p e below (T31.setTop (mkF m 5 #[vr a, vi (1 : Int32), .unset, .unset] [(.int (0 : Int32))])) _
    refine Go.via (fun _ => XS.istoreN X31.here hx rfl (hb hby d13_5) rfl (l' := #[vr a, vi (1 : Int32), vi (0 : Int32), .unset]) rfl) ?_
    refine Go.via (fun _ => XS.iloadN X31.here hx rfl (hb hby d13_6) rfl) ?_
    refine Go.via (fun _ => XS.ifNo X31.here hx rfl (hb hby d13_7) rfl ((if0 _ _).trans (flt ((by decide) : ¬ ((0 : Int32) < (0 : Int32)))).2.2.1)) ?_
    refine Go.via (fun _ => XS.aloadN X31.here hx rfl (hb hby d13_10) rfl rfl) ?_
    obtain ⟨T33, X33, e33, st33⟩ := getF X31 hx hZ hown (host := "") (Or.inl (tw hw 41 rfl)) Via.refl e31 P2 (g := (mkF m 11 #[vr a, vi (1 : Int32), vi (0 : Int32), .unset] [(.ref a)])) rfl rfl (hb hby d13_11)
    refine Go.via (st33) ?_
    clear st33
    clear X31 e31
    show Go p e below (T33.setTop (mkF m 14 #[vr a, vi (1 : Int32), vi (0 : Int32), .unset] [(.ref de)])) _
    have f34 : Sta Z h0 cAL cDE cOA (.ref de) := zD.ext P4.2
    obtain ⟨T35, X35, e35, st35⟩ := getS2 X33 hx hZ hown (host := "") (Or.inl (tw hw 40 rfl)) Via.refl e33 f34 (g := (mkF m 14 #[vr a, vi (1 : Int32), vi (0 : Int32), .unset] [(.ref de)])) rfl (hb hby d13_14)
    refine Go.via (st35) ?_
    clear st35
    clear X33 e33
    show Go p e below (T35.setTop (mkF m 17 #[vr a, vi (1 : Int32), vi (0 : Int32), .unset] [(.ref de), (.ref de)])) _
    refine Go.via (fun _ => Jvm.RoadKit.acmp (g := (mkF m 17 #[vr a, vi (1 : Int32), vi (0 : Int32), .unset] [(.ref de), (.ref de)])) X35 hx rfl rfl rfl (pc0 := 17) (pc' := 45) (same := true) rfl (hb hby d13_17) rfl (decide_eq_true rfl) (by decide) (by decide)) ?_
    show Go p e below (T35.setTop (mkF m 45 #[vr a, vi (1 : Int32), vi (0 : Int32), .unset] [])) _
    refine Go.via (fun _ => XS.aloadN X35.here hx rfl (hb hby d13_45) rfl rfl) ?_
    refine Go.via (fun _ => XS.bipush X35.here hx rfl (hb hby d13_46)) ?_
    refine Go.via (fun _ => XS.iloadN X35.here hx rfl (hb hby d13_48) rfl) ?_
    obtain ⟨r36, _, ⟨T36, L36, k36, n36⟩, -, X36, ⟨Lc36, hQ36, l36, y36, z36⟩, st36⟩ := Jvm.LawKit.callS X35 hx (y := (⟨"java/lang/Math", "max", "(II)I"⟩ : MethodName)) hown (mvT hZ (tw hw 96 rfl)) (mvT hZ (tw hw 97 rfl)) (mvT hZ (tw hw 98 rfl)) (mvT hZ (tw hw 99 rfl)) (by decide) (backOf (W := 1) (rmMx l Z a0 hw [] (10 : Int32) (1 : Int32)  h0 n0 Z0) hZ (tw hw 99 rfl) (tw hw 98 rfl) (by decide) (by decide)) (g := (mkF m 49 #[vr a, vi (1 : Int32), vi (0 : Int32), .unset] [(.int (1 : Int32)), (.int (10 : Int32)), (.ref a)])) rfl (by rw [hml]; rfl) (argsL := [(.int (10 : Int32)), (.int (1 : Int32))]) (rest := [(.ref a)]) (lenOf pd__28II_29I rfl) rfl (by show 2 * 0 + _ ≤ _; exact Nat.le_of_eq rfl) (hb hby d13_49) (fun _ _ => ⟨rfl, e35, (by decide : 0 + 0 ≤ _), (by decide : 0 + 0 ≤ _)⟩)
    dsimp only [Pt.U, Pt.locs, Pt.cells, Pt.slots] at X36 l36 y36 z36 st36 hQ36
    rw [l36, y36, z36] at X36
    clear l36 y36 z36
    obtain ⟨hr36, N36q, eh36⟩ := hQ36
    rw [hr36] at st36
    clear hr36
    have N36 := Fr.app N0 N36q
    refine Go.via (st36) ?_
    clear st36
    have e36 : T36.heap = h0 := eh36
    clear X35 e35
    show Go p e below (T36.setTop (mkF m 52 #[vr a, vi (1 : Int32), vi (0 : Int32), .unset] [(.int (10 : Int32)), (.ref a)])) _
    obtain ⟨T37, h37, k37, X37, e37, E37, A37, B37, O37, st37⟩ := newRE X36 hx hZ hown (tw hw 100 rfl) (tw hw 101 rfl) e36 (g := (mkF m 52 #[vr a, vi (1 : Int32), vi (0 : Int32), .unset] [(.int (10 : Int32)), (.ref a)])) rfl (hb hby d13_52) rfl (by decide) (cap := 10) (by decide) (by decide) (by decide) (by decide) (ad := cOA) (by decide)
    obtain ⟨b37, g37⟩ : ∃ z, z = h0.size := ⟨_, rfl⟩
    rw [← g37] at A37 B37 st37
    have ne38 : a ≠ b37 := Nat.ne_of_lt (Nat.lt_of_lt_of_le P0.lt (Nat.le_of_eq g37.symm))
    have ge39 : n0 ≤ b37 := Nat.le_trans Z0 (Nat.le_of_eq g37.symm)
    have sz40 : h0.size ≤ b37 := Nat.le_trans (Keep.refl h0 [a]).1 (Nat.le_of_eq g37.symm)
    refine Go.via (st37) ?_
    clear st37
    have f41 : Ra Z h37 b37 cOB [.null, .null, .null, .null, .null, .null, .null, .null, .null, .null] := Ra.new A37 O37
    clear X36 e36
    show Go p e below (T37.setTop (mkF m 55 #[vr a, vi (1 : Int32), vi (0 : Int32), .unset] [(.ref b37), (.ref a)])) _
    refine Go.via (fun _ => XS.dupX1 X37.here hx rfl (hb hby d13_55) rfl rfl rfl) ?_
    show Go p e below (T37.setTop (mkF m 56 #[vr a, vi (1 : Int32), vi (0 : Int32), .unset] [(.ref b37), (.ref a), (.ref b37)])) _
    have f42 : Fld Z h37 a cAL "elementData" cOA (.ref de) := (P2.ext E37)
    have f43 : Exa Z h37 a cAL := (P0.ext E37)
    obtain ⟨T44, h44, X44, e44, W44, st44⟩ := putF X37 hx hZ hown (host := "") (Or.inl (tw hw 41 rfl)) Via.refl e37 f42 f43 (Or.inl (tw hw 42 rfl)) (tw hw 20 rfl) (ty := (.array (.object cOB))) (by decide) rfl rfl (g := (mkF m 56 #[vr a, vi (1 : Int32), vi (0 : Int32), .unset] [(.ref b37), (.ref a), (.ref b37)])) rfl rfl (hb hby d13_56)
    refine Go.via (st44) ?_
    clear st44
    have N44 := Fr.snoc X44 N36 g_a
    have f45 : Fld Z h44 a cAL "elementData" cOA (.ref b37) := f42.same W44
    clear X37 e37
    show Go p e below (T44.setTop (mkF m 59 #[vr a, vi (1 : Int32), vi (0 : Int32), .unset] [(.ref b37)])) _
    have k46 : Keep h0 h44 [a] := (((Keep.refl h0 [a]).ext E37).wr W44 (Or.inl (List.mem_of_getElem? (i := 0) rfl)))
    have f47 : Exa Z h44 a cAL := (f43.wr W44)
    have f48 : Fld Z h44 a cAB "modCount" "I" (.int mc) := ((P1.ext E37).other W44 (Or.inr (slot_ne (Or.inl (tw hw 39 rfl)) (Or.inl (tw hw 42 rfl)) (by decide) (t := .int) (t' := (.array (.object cOB))) (by decide) (by decide))))
    have f49 : Fld Z h44 a cAL "size" "I" (.int (0 : Int32)) := ((P3.ext E37).other W44 (Or.inr (slot_ne (Or.inl (tw hw 70 rfl)) (Or.inl (tw hw 42 rfl)) (by decide) (t := .int) (t' := (.array (.object cOB))) (by decide) (by decide))))
    have f50 : Ra Z h44 b37 cOB [.null, .null, .null, .null, .null, .null, .null, .null, .null, .null] := (f41.other W44 (Ne.symm ne38))
    exact Go.fin X44 hlk (v := some (.ref b37)) (fun h => by rw [Bd.returns] at h; cases h) (fun fs hr => retOut X44 hx Bd.returns rfl (Or.inr (Or.inr (Or.inr (Or.inr ⟨rfl, rfl, rfl⟩)))) (hb hby d13_59) hr) (by rw [e44]; exact ⟨b37, rfl, N44, k46, sz40, f47, f48, f45, f49, f50⟩) (by decide) (by decide)
theorem d12_0 : decode jdk_38_method_7_code 0 = .ok (.aload_n 0, 1) := by decide +kernel
theorem d12_1 : decode jdk_38_method_7_code 1 = .ok (.aload_n 0, 1) := by decide +kernel
theorem d12_2 : decode jdk_38_method_7_code 2 = .ok (.getfield 48, 3) := by decide +kernel
theorem d12_5 : decode jdk_38_method_7_code 5 = .ok (.iconst 1, 1) := by decide +kernel
theorem d12_6 : decode jdk_38_method_7_code 6 = .ok (.iadd, 1) := by decide +kernel
theorem d12_7 : decode jdk_38_method_7_code 7 = .ok (.invokevirtual 69, 3) := by decide +kernel
theorem pd__28I_29_5bLjava_2flang_2fObject_3b : parseMethodDescriptor "(I)[Ljava/lang/Object;" = some ⟨[.int], some (.array (.object cOB))⟩ := by decide +kernel
theorem d12_10 : decode jdk_38_method_7_code 10 = .ok (.areturn, 1) := by decide +kernel
theorem pn_12 : plainName cAL = true := by first | (simp [plainName, overriddenIn]; done) | decide +kernel
theorem ef_12 (m : MethodId) (x0 : Addr) : entryFrame m #[(.ref x0)] 1 = mkF m 0 #[.val (.ref x0)] [] := by first | (simp [entryFrame, mkF, argsToLocals, Value.category]; done) | rfl
def Q_rmG (Z : State) (a : Addr) (de : Addr) (mc : Int32) (h0 : Heap) (n0 : Nat) (vQ : Option Value) (hQ : Heap) (LQ : List Loc) : Prop := ∃ r : Addr, vQ = some (.ref r) ∧ Fr n0 LQ ∧ Keep h0 hQ [a] ∧ h0.size ≤ r ∧ Exa Z hQ a cAL ∧ Fld Z hQ a cAB "modCount" "I" (.int mc) ∧ Fld Z hQ a cAL "elementData" cOA (.ref r) ∧ Fld Z hQ a cAL "size" "I" (.int (0 : Int32)) ∧ Ra Z hQ r cOB [.null, .null, .null, .null, .null, .null, .null, .null, .null, .null]
set_option maxRecDepth 65536 in
set_option maxHeartbeats 40000000 in
theorem rmG (l : Launch) (Z : State) (a0 : Array Value) (hw : ∀ d ∈ tables_1, d.before a0 Z = true) (ws : List Jvm.Cond) (a : Addr) (de : Addr) (mc : Int32) (h0 : Heap) (n0 : Nat) (Z0 : n0 ≤ h0.size) (P0 : Exa Z h0 a cAL) (P1 : Fld Z h0 a cAB "modCount" "I" (.int mc)) (P2 : Fld Z h0 a cAL "elementData" cOA (.ref de)) (P3 : Fld Z h0 a cAL "size" "I" (.int (0 : Int32))) (P4 : Old Z n0 h0) (zD : Sta Z Z.heap cAL cDE cOA (.ref de)) (zN : Rn Z Z.heap de (0 : Int32)) (g_a : n0 ≤ a) :
    MetFree l (⟨cAL, "grow", "()[Ljava/lang/Object;"⟩ : MethodName) (head1 (Jvm.Cond.code (⟨cAL, "grow", "()[Ljava/lang/Object;"⟩ : MethodName) jdk_38_method_7_code 1 (some (.array (.object cOB))) :: ws) ({ frames := 2, cells := 1, slots := 10, locals := 29 } : Room)) (fun aQ UQ => aQ = #[(.ref a)] ∧ Z.Warmed39 UQ.vm ∧ UQ.heap = h0) (fun _ _ _ _ _ => True) (fun _ UQ oQ UR => ∃ vQ LQ, oQ = .returned vQ ∧ Q_rmG Z a de mc h0 n0 vQ UR.heap LQ ∧ FrameEnd UQ oQ UR LQ ({ frames := 2, cells := 1, slots := 10, locals := 29 } : Room).cells ({ frames := 2, cells := 1, slots := 10, locals := 29 } : Room).slots) := by
  refine MetFree.of_bodySF (plainFor_of_name pn_12) hisR ?_
  intro p e s m args below meth c s₁ Bd hml0 hP hK
  obtain ⟨rfl, hZ, hh⟩ := hP
  have hx := Bd.exec
  have hby := Bd.bytes
  have hlk := Bd.notSynchronized
  have hml : c.maxLocals = 1 := hml0
  have hown : s.vm.findClass cAL = some m.cls := findClass_of_methodNamed Bd.named
  have hnm := (name_of_methodNamed Bd.named Bd.method).1
  have X0 : Stand p l e ({ frames := 2, cells := 1, slots := 10, locals := 29 } : Room) s m #[(.ref a)] below meth c s₁ [] 0 0 := Stand.of_body Bd
  have e0 : s₁.heap = h0 := by rw [← hh, Bd.state]; rfl
  have N0 := Fr.nil n0
  show Go p e below _ (Done s (Q_rmG Z a de mc h0 n0) ({ frames := 2, cells := 1, slots := 10, locals := 29 } : Room).cells ({ frames := 2, cells := 1, slots := 10, locals := 29 } : Room).slots)
  refine Go.via (fun tQ kQ => castTop (ef_12 m a) kQ) ?_
  show Go p e below (s₁.setTop (mkF m 0 #[vr a] [])) _
  refine Go.via (fun _ => XS.aloadN X0.here hx rfl (hb hby d12_0) rfl rfl) ?_
  refine Go.via (fun _ => XS.aloadN X0.here hx rfl (hb hby d12_1) rfl rfl) ?_
  obtain ⟨T51, X51, e51, st51⟩ := getF X0 hx hZ hown (host := "") (Or.inl (tw hw 69 rfl)) Via.refl e0 P3 (g := (mkF m 2 #[vr a] [(.ref a), (.ref a)])) rfl rfl (hb hby d12_2)
  refine Go.via (st51) ?_
  clear st51
  clear X0 e0
  show Go p e below (T51.setTop (mkF m 5 #[vr a] [(.int (0 : Int32)), (.ref a)])) _
  refine Go.via (fun _ => XS.iconst X51.here hx rfl (hb hby d12_5)) ?_
  refine Go.via (fun _ => XS.iadd X51.here hx rfl (hb hby d12_6) rfl) ?_
  obtain ⟨cq52, q52, q52'⟩ := P0.cell
  obtain ⟨r52, _, ⟨T52, L52, k52, n52⟩, -, X52, ⟨Lc52, hQ52, l52, y52, z52⟩, st52⟩ := X51.privateBack hx (y := (⟨cAL, "grow", "(I)[Ljava/lang/Object;"⟩ : MethodName)) hown (mvT hZ (tw hw 91 rfl)) (mvT hZ (tw hw 92 rfl)) (selP hZ (tw hw 20 rfl) (tw hw 93 rfl) (tw hw 92 rfl) (by decide)) (Cond.privateMethod_at (mvP hZ (tw hw 93 rfl) (args := #[]))) (mvT hZ (tw hw 95 rfl)) (by decide) (backOf (W := 0) (rmGi l Z a0 hw [] a (1 : Int32) de mc h0 n0 Z0 P0 P1 P2 P3 P4 zD zN g_a rfl) hZ (tw hw 95 rfl) (tw hw 21 rfl) (by decide) (by decide)) (g := (mkF m 7 #[vr a] [(.int (1 : Int32)), (.ref a)])) rfl (by rw [hml]; rfl) (Steps.refl _) (a := a) (by rw [e51]; exact q52) q52' (argsL := [(.int (1 : Int32))]) (rest := []) (lenOf pd__28I_29_5bLjava_2flang_2fObject_3b rfl) rfl (by show 2 * 0 + _ ≤ _; exact Nat.le_of_eq rfl) (hb hby d12_7) (fun _ _ => ⟨rfl, e51, (by decide : 0 + 1 ≤ _), (by decide : 0 + 10 ≤ _)⟩)
  dsimp only [Pt.U, Pt.locs, Pt.cells, Pt.slots] at X52 l52 y52 z52 st52 hQ52
  rw [l52, y52, z52] at X52
  clear l52 y52 z52
  obtain ⟨b53, hr52, N52q, K52q, fz_b53, f54, f55, f56, f57, f58⟩ := hQ52
  rw [hr52] at st52
  clear hr52
  have N52 := Fr.app N0 N52q
  refine Go.via (fun _ kQ => st52.trans kQ) ?_
  clear st52
  have ne59 : a ≠ b53 := Nat.ne_of_lt (Nat.lt_of_lt_of_le P0.lt fz_b53)
  have ge60 : n0 ≤ b53 := Nat.le_trans Z0 fz_b53
  have sz61 : h0.size ≤ b53 := Nat.le_trans (Keep.refl h0 [a]).1 fz_b53
  have e52 : T52.heap = T52.heap := rfl
  have f62 : Exa Z T52.heap a cAL := f54
  have f63 : Fld Z T52.heap a cAB "modCount" "I" (.int mc) := f55
  have f64 : Fld Z T52.heap a cAL "elementData" cOA (.ref b53) := f56
  have f65 : Fld Z T52.heap a cAL "size" "I" (.int (0 : Int32)) := f57
  have f66 : Ra Z T52.heap b53 cOB [.null, .null, .null, .null, .null, .null, .null, .null, .null, .null] := f58
  clear X51 e51
  show Go p e below (T52.setTop (mkF m 10 #[vr a] [(.ref b53)])) _
  have k67 : Keep h0 T52.heap [a] := ((Keep.refl h0 [a]).trans K52q (allS (Or.inl (List.mem_of_getElem? (i := 0) rfl)) all0))
  exact Go.fin X52 hlk (v := some (.ref b53)) (fun h => by rw [Bd.returns] at h; cases h) (fun fs hr => retOut X52 hx Bd.returns rfl (Or.inr (Or.inr (Or.inr (Or.inr ⟨rfl, rfl, rfl⟩)))) (hb hby d12_10) hr) (by exact ⟨b53, rfl, N52, k67, sz61, f62, f63, f64, f65, f66⟩) (by decide) (by decide)
theorem d11_0 : decode jdk_38_method_24_code 0 = .ok (.iload_n 3, 1) := by decide +kernel
theorem d11_1 : decode jdk_38_method_24_code 1 = .ok (.aload_n 2, 1) := by decide +kernel
theorem d11_2 : decode jdk_38_method_24_code 2 = .ok (.arraylength, 1) := by decide +kernel
theorem d11_3 : decode jdk_38_method_24_code 3 = .ok (.if_icmp .ne 8, 3) := by decide +kernel
theorem d11_6 : decode jdk_38_method_24_code 6 = .ok (.aload_n 0, 1) := by decide +kernel
theorem d11_7 : decode jdk_38_method_24_code 7 = .ok (.invokevirtual 129, 3) := by decide +kernel
theorem pd__28_29_5bLjava_2flang_2fObject_3b : parseMethodDescriptor "()[Ljava/lang/Object;" = some ⟨[], some (.array (.object cOB))⟩ := by decide +kernel
theorem d11_10 : decode jdk_38_method_24_code 10 = .ok (.astore_n 2, 1) := by decide +kernel
theorem d11_11 : decode jdk_38_method_24_code 11 = .ok (.aload_n 2, 1) := by decide +kernel
theorem d11_12 : decode jdk_38_method_24_code 12 = .ok (.iload_n 3, 1) := by decide +kernel
theorem d11_13 : decode jdk_38_method_24_code 13 = .ok (.aload_n 1, 1) := by decide +kernel
theorem d11_14 : decode jdk_38_method_24_code 14 = .ok (.aastore, 1) := by decide +kernel
theorem d11_15 : decode jdk_38_method_24_code 15 = .ok (.aload_n 0, 1) := by decide +kernel
theorem d11_16 : decode jdk_38_method_24_code 16 = .ok (.iload_n 3, 1) := by decide +kernel
theorem d11_17 : decode jdk_38_method_24_code 17 = .ok (.iconst 1, 1) := by decide +kernel
theorem d11_18 : decode jdk_38_method_24_code 18 = .ok (.iadd, 1) := by decide +kernel
theorem d11_19 : decode jdk_38_method_24_code 19 = .ok (.putfield 48, 3) := by decide +kernel
theorem d11_22 : decode jdk_38_method_24_code 22 = .ok (.return_, 1) := by decide +kernel
theorem pn_11 : plainName cAL = true := by first | (simp [plainName, overriddenIn]; done) | decide +kernel
theorem ef_11 (m : MethodId) (x0 : Addr) (x1 : Addr) (x2 : Addr) (x3 : Int32) : entryFrame m #[(.ref x0), (.ref x1), (.ref x2), (.int x3)] 4 = mkF m 0 #[.val (.ref x0), .val (.ref x1), .val (.ref x2), .val (.int x3)] [] := by first | (simp [entryFrame, mkF, argsToLocals, Value.category]; done) | rfl
def Q_rmA3_0 (Z : State) (a : Addr) (v : Addr) (de : Addr) (i : Int32) (mc : Int32) (h0 : Heap) (n0 : Nat) (vQ : Option Value) (hQ : Heap) (LQ : List Loc) : Prop := ∃ r : Addr, vQ = none ∧ Fr n0 LQ ∧ Keep h0 hQ [a] ∧ h0.size ≤ r ∧ Exa Z hQ a cAL ∧ Fld Z hQ a cAB "modCount" "I" (.int mc) ∧ Fld Z hQ a cAL "elementData" cOA (.ref r) ∧ Fld Z hQ a cAL "size" "I" (.int (1 : Int32)) ∧ Ra Z hQ r cOB [(.ref v), .null, .null, .null, .null, .null, .null, .null, .null, .null]
set_option maxRecDepth 65536 in
set_option maxHeartbeats 40000000 in
theorem rmA3_0 (l : Launch) (Z : State) (a0 : Array Value) (hw : ∀ d ∈ tables_1, d.before a0 Z = true) (ws : List Jvm.Cond) (a : Addr) (v : Addr) (de : Addr) (i : Int32) (mc : Int32) (h0 : Heap) (n0 : Nat) (Z0 : n0 ≤ h0.size) (P0 : Exa Z h0 a cAL) (P1 : Fld Z h0 a cAB "modCount" "I" (.int mc)) (P2 : Fld Z h0 a cAL "elementData" cOA (.ref de)) (P3 : Fld Z h0 a cAL "size" "I" (.int (0 : Int32))) (P4 : Exa Z h0 v cIN) (P5 : Old Z n0 h0) (zD : Sta Z Z.heap cAL cDE cOA (.ref de)) (zN : Rn Z Z.heap de (0 : Int32)) (g_a : n0 ≤ a) (hi : i = 0) :
    MetFree l (⟨cAL, "add", "(Ljava/lang/Object;[Ljava/lang/Object;I)V"⟩ : MethodName) (head1 (Jvm.Cond.code (⟨cAL, "add", "(Ljava/lang/Object;[Ljava/lang/Object;I)V"⟩ : MethodName) jdk_38_method_24_code 4 none :: ws) ({ frames := 3, cells := 1, slots := 10, locals := 41 } : Room)) (fun aQ UQ => aQ = #[(.ref a), (.ref v), (.ref de), (.int i)] ∧ Z.Warmed39 UQ.vm ∧ UQ.heap = h0) (fun _ _ _ _ _ => True) (fun _ UQ oQ UR => ∃ vQ LQ, oQ = .returned vQ ∧ Q_rmA3_0 Z a v de i mc h0 n0 vQ UR.heap LQ ∧ FrameEnd UQ oQ UR LQ ({ frames := 3, cells := 1, slots := 10, locals := 41 } : Room).cells ({ frames := 3, cells := 1, slots := 10, locals := 41 } : Room).slots) := by
  refine MetFree.of_bodySF (plainFor_of_name pn_11) hisR ?_
  intro p e s m args below meth c s₁ Bd hml0 hP hK
  obtain ⟨rfl, hZ, hh⟩ := hP
  have hx := Bd.exec
  have hby := Bd.bytes
  have hlk := Bd.notSynchronized
  have hml : c.maxLocals = 4 := hml0
  have hown : s.vm.findClass cAL = some m.cls := findClass_of_methodNamed Bd.named
  have hnm := (name_of_methodNamed Bd.named Bd.method).1
  have X0 : Stand p l e ({ frames := 3, cells := 1, slots := 10, locals := 41 } : Room) s m #[(.ref a), (.ref v), (.ref de), (.int i)] below meth c s₁ [] 0 0 := Stand.of_body Bd
  have e0 : s₁.heap = h0 := by rw [← hh, Bd.state]; rfl
  have N0 := Fr.nil n0
  show Go p e below _ (Done s (Q_rmA3_0 Z a v de i mc h0 n0) ({ frames := 3, cells := 1, slots := 10, locals := 41 } : Room).cells ({ frames := 3, cells := 1, slots := 10, locals := 41 } : Room).slots)
  refine Go.via (fun tQ kQ => castTop (ef_11 m a v de i) kQ) ?_
  show Go p e below (s₁.setTop (mkF m 0 #[vr a, vr v, vr de, vi i] [])) _
  · subst hi
    show Go p e below (s₁.setTop (mkF m 0 #[vr a, vr v, vr de, vi (0 : Int32)] [])) _
    refine Go.via (fun _ => XS.iloadN X0.here hx rfl (hb hby d11_0) rfl) ?_
    refine Go.via (fun _ => XS.aloadN X0.here hx rfl (hb hby d11_1) rfl rfl) ?_
    have f68 : Rn Z h0 de (0 : Int32) := zN.ext P5.2
    refine Go.via (lenN X0 hx hZ e0 f68 (g := (mkF m 2 #[vr a, vr v, vr de, vi (0 : Int32)] [(.ref de), (.int (0 : Int32))])) rfl rfl (hb hby d11_2)) ?_
    show Go p e below (s₁.setTop (mkF m 3 #[vr a, vr v, vr de, vi (0 : Int32)] [(.int (0 : Int32)), (.int (0 : Int32))])) _
    refine Go.via (fun _ => XS.icmpNo X0.here hx rfl (hb hby d11_3) rfl (teq ((by decide) : (0 : Int32) = (0 : Int32))).2) ?_
    refine Go.via (fun _ => XS.aloadN X0.here hx rfl (hb hby d11_6) rfl rfl) ?_
    obtain ⟨cq69, q69, q69'⟩ := P0.cell
    obtain ⟨r69, _, ⟨T69, L69, k69, n69⟩, -, X69, ⟨Lc69, hQ69, l69, y69, z69⟩, st69⟩ := X0.privateBack hx (y := (⟨cAL, "grow", "()[Ljava/lang/Object;"⟩ : MethodName)) hown (mvT hZ (tw hw 86 rfl)) (mvT hZ (tw hw 87 rfl)) (selP hZ (tw hw 20 rfl) (tw hw 88 rfl) (tw hw 87 rfl) (by decide)) (Cond.privateMethod_at (mvP hZ (tw hw 88 rfl) (args := #[]))) (mvT hZ (tw hw 90 rfl)) (by decide) (backOf (W := 0) (rmG l Z a0 hw [] a de mc h0 n0 Z0 P0 P1 P2 P3 P5 zD zN g_a) hZ (tw hw 90 rfl) (tw hw 21 rfl) (by decide) (by decide)) (g := (mkF m 7 #[vr a, vr v, vr de, vi (0 : Int32)] [(.ref a)])) rfl (by rw [hml]; rfl) (Steps.refl _) (a := a) (by rw [e0]; exact q69) q69' (argsL := []) (rest := []) (lenOf pd__28_29_5bLjava_2flang_2fObject_3b rfl) rfl (by show 2 * 0 + _ ≤ _; exact Nat.le_of_eq rfl) (hb hby d11_7) (fun _ _ => ⟨rfl, e0, (by decide : 0 + 1 ≤ _), (by decide : 0 + 10 ≤ _)⟩)
    dsimp only [Pt.U, Pt.locs, Pt.cells, Pt.slots] at X69 l69 y69 z69 st69 hQ69
    rw [l69, y69, z69] at X69
    clear l69 y69 z69
    obtain ⟨b70, hr69, N69q, K69q, fz_b70, f71, f72, f73, f74, f75⟩ := hQ69
    rw [hr69] at st69
    clear hr69
    have N69 := Fr.app N0 N69q
    refine Go.via (fun _ kQ => st69.trans kQ) ?_
    clear st69
    have ne76 : a ≠ b70 := Nat.ne_of_lt (Nat.lt_of_lt_of_le P0.lt fz_b70)
    have ne77 : v ≠ b70 := Nat.ne_of_lt (Nat.lt_of_lt_of_le P4.lt fz_b70)
    have ge78 : n0 ≤ b70 := Nat.le_trans Z0 fz_b70
    have sz79 : h0.size ≤ b70 := Nat.le_trans (Keep.refl h0 [a]).1 fz_b70
    have e69 : T69.heap = T69.heap := rfl
    have f80 : Exa Z T69.heap a cAL := f71
    have f81 : Fld Z T69.heap a cAB "modCount" "I" (.int mc) := f72
    have f82 : Fld Z T69.heap a cAL "elementData" cOA (.ref b70) := f73
    have f83 : Fld Z T69.heap a cAL "size" "I" (.int (0 : Int32)) := f74
    have f84 : Ra Z T69.heap b70 cOB [.null, .null, .null, .null, .null, .null, .null, .null, .null, .null] := f75
    clear X0 e0
    show Go p e below (T69.setTop (mkF m 10 #[vr a, vr v, vr de, vi (0 : Int32)] [(.ref b70)])) _
    refine Go.via (fun _ => XS.astoreN X69.here hx rfl (hb hby d11_10) rfl rfl (l' := #[vr a, vr v, vr b70, vi (0 : Int32)]) rfl) ?_
    refine Go.via (fun _ => XS.aloadN X69.here hx rfl (hb hby d11_11) rfl rfl) ?_
    refine Go.via (fun _ => XS.iloadN X69.here hx rfl (hb hby d11_12) rfl) ?_
    refine Go.via (fun _ => XS.aloadN X69.here hx rfl (hb hby d11_13) rfl rfl) ?_
    have f86 : Exa Z T69.heap v cIN := (P4.keep K69q)
    obtain ⟨T85, h85, X85, e85, W85, V85, st85⟩ := stR' X69 hx hZ e69 f84 (Ins.of_exa f86 (tw hw 102 rfl)) (j := (0 : Int32)) (by decide) (by first | decide | (simp only [List.length_cons, List.length_nil]; decide) | rfl) (g := (mkF m 14 #[vr a, vr v, vr b70, vi (0 : Int32)] [(.ref v), (.int (0 : Int32)), (.ref b70)])) rfl rfl (hb hby d11_14)
    refine Go.via (st85) ?_
    clear st85
    have N85 := Fr.snoc X85 N69 ge78
    have f87 : Ra Z h85 b70 cOB [(.ref v), .null, .null, .null, .null, .null, .null, .null, .null, .null] := V85
    clear X69 e69
    show Go p e below (T85.setTop (mkF m 15 #[vr a, vr v, vr b70, vi (0 : Int32)] [])) _
    refine Go.via (fun _ => XS.aloadN X85.here hx rfl (hb hby d11_15) rfl rfl) ?_
    refine Go.via (fun _ => XS.iloadN X85.here hx rfl (hb hby d11_16) rfl) ?_
    refine Go.via (fun _ => XS.iconst X85.here hx rfl (hb hby d11_17)) ?_
    refine Go.via (fun _ => XS.iadd X85.here hx rfl (hb hby d11_18) rfl) ?_
    have f88 : Fld Z h85 a cAL "size" "I" (.int (0 : Int32)) := (f83.other W85 (Or.inl ne76))
    have f89 : Exa Z h85 a cAL := (f80.wr W85)
    obtain ⟨T90, h90, X90, e90, W90, st90⟩ := putF X85 hx hZ hown (host := "") (Or.inl (tw hw 69 rfl)) Via.refl e85 f88 f89 (Or.inl (tw hw 70 rfl)) (tw hw 20 rfl) (ty := .int) (by decide) rfl rfl (g := (mkF m 19 #[vr a, vr v, vr b70, vi (0 : Int32)] [(.int (1 : Int32)), (.ref a)])) rfl rfl (hb hby d11_19)
    refine Go.via (st90) ?_
    clear st90
    have N90 := Fr.snoc X90 N85 g_a
    have f91 : Fld Z h90 a cAL "size" "I" (.int (1 : Int32)) := f88.same W90
    clear X85 e85
    show Go p e below (T90.setTop (mkF m 22 #[vr a, vr v, vr b70, vi (0 : Int32)] [])) _
    have k92 : Keep h0 h90 [a] := ((((Keep.refl h0 [a]).trans K69q (allS (Or.inl (List.mem_of_getElem? (i := 0) rfl)) all0)).wr W85 (Or.inr sz79)).wr W90 (Or.inl (List.mem_of_getElem? (i := 0) rfl)))
    have f93 : Exa Z h90 a cAL := (f89.wr W90)
    have f94 : Fld Z h90 a cAB "modCount" "I" (.int mc) := ((f81.other W85 (Or.inl ne76)).other W90 (Or.inr (slot_ne (Or.inl (tw hw 39 rfl)) (Or.inl (tw hw 70 rfl)) (by decide) (t := .int) (t' := .int) (by decide) (by decide))))
    have f95 : Fld Z h90 a cAL "elementData" cOA (.ref b70) := ((f82.other W85 (Or.inl ne76)).other W90 (Or.inr (slot_ne (Or.inl (tw hw 42 rfl)) (Or.inl (tw hw 70 rfl)) (by decide) (t := (.array (.object cOB))) (t' := .int) (by decide) (by decide))))
    have f96 : Ra Z h90 b70 cOB [(.ref v), .null, .null, .null, .null, .null, .null, .null, .null, .null] := (f87.other W90 (Ne.symm ne76))
    exact Go.fin X90 hlk (v := none) (fun _ => rfl) (fun fs hr => X90.returnOut hx Bd.returns (hb hby d11_22) hr) (by rw [e90]; exact ⟨b70, rfl, N90, k92, sz79, f93, f94, f95, f91, f96⟩) (by decide) (by decide)
def Q_rmA3_1 (Z : State) (a : Addr) (v : Addr) (d : Addr) (i : Int32) (mc : Int32) (x0 : Addr) (h0 : Heap) (n0 : Nat) (vQ : Option Value) (hQ : Heap) (LQ : List Loc) : Prop := vQ = none ∧ Fr n0 LQ ∧ Keep h0 hQ [a, d] ∧ Exa Z hQ a cAL ∧ Fld Z hQ a cAB "modCount" "I" (.int mc) ∧ Fld Z hQ a cAL "elementData" cOA (.ref d) ∧ Fld Z hQ a cAL "size" "I" (.int (2 : Int32)) ∧ Ra Z hQ d cOB [(.ref x0), (.ref v), .null, .null, .null, .null, .null, .null, .null, .null]
set_option maxRecDepth 65536 in
set_option maxHeartbeats 40000000 in
theorem rmA3_1 (l : Launch) (Z : State) (a0 : Array Value) (hw : ∀ d ∈ tables_1, d.before a0 Z = true) (ws : List Jvm.Cond) (a : Addr) (v : Addr) (d : Addr) (i : Int32) (mc : Int32) (x0 : Addr) (h0 : Heap) (n0 : Nat) (Z0 : n0 ≤ h0.size) (P0 : Exa Z h0 a cAL) (P1 : Fld Z h0 a cAB "modCount" "I" (.int mc)) (P2 : Fld Z h0 a cAL "elementData" cOA (.ref d)) (P3 : Fld Z h0 a cAL "size" "I" (.int (1 : Int32))) (P4 : Ra Z h0 d cOB [(.ref x0), .null, .null, .null, .null, .null, .null, .null, .null, .null]) (P5 : Exa Z h0 v cIN) (g_a : n0 ≤ a) (g_d : n0 ≤ d) (had : a ≠ d) (hi : i = 1) :
    MetFree l (⟨cAL, "add", "(Ljava/lang/Object;[Ljava/lang/Object;I)V"⟩ : MethodName) (head1 (Jvm.Cond.code (⟨cAL, "add", "(Ljava/lang/Object;[Ljava/lang/Object;I)V"⟩ : MethodName) jdk_38_method_24_code 4 none :: ws) ({ frames := 0, cells := 0, slots := 0, locals := 0 } : Room)) (fun aQ UQ => aQ = #[(.ref a), (.ref v), (.ref d), (.int i)] ∧ Z.Warmed39 UQ.vm ∧ UQ.heap = h0) (fun _ _ _ _ _ => True) (fun _ UQ oQ UR => ∃ vQ LQ, oQ = .returned vQ ∧ Q_rmA3_1 Z a v d i mc x0 h0 n0 vQ UR.heap LQ ∧ FrameEnd UQ oQ UR LQ ({ frames := 0, cells := 0, slots := 0, locals := 0 } : Room).cells ({ frames := 0, cells := 0, slots := 0, locals := 0 } : Room).slots) := by
  refine MetFree.of_bodySF (plainFor_of_name pn_11) hisR ?_
  intro p e s m args below meth c s₁ Bd hml0 hP hK
  obtain ⟨rfl, hZ, hh⟩ := hP
  have hx := Bd.exec
  have hby := Bd.bytes
  have hlk := Bd.notSynchronized
  have hml : c.maxLocals = 4 := hml0
  have hown : s.vm.findClass cAL = some m.cls := findClass_of_methodNamed Bd.named
  have hnm := (name_of_methodNamed Bd.named Bd.method).1
  have X0 : Stand p l e ({ frames := 0, cells := 0, slots := 0, locals := 0 } : Room) s m #[(.ref a), (.ref v), (.ref d), (.int i)] below meth c s₁ [] 0 0 := Stand.of_body Bd
  have e0 : s₁.heap = h0 := by rw [← hh, Bd.state]; rfl
  have N0 := Fr.nil n0
  show Go p e below _ (Done s (Q_rmA3_1 Z a v d i mc x0 h0 n0) ({ frames := 0, cells := 0, slots := 0, locals := 0 } : Room).cells ({ frames := 0, cells := 0, slots := 0, locals := 0 } : Room).slots)
  refine Go.via (fun tQ kQ => castTop (ef_11 m a v d i) kQ) ?_
  show Go p e below (s₁.setTop (mkF m 0 #[vr a, vr v, vr d, vi i] [])) _
  · subst hi
    show Go p e below (s₁.setTop (mkF m 0 #[vr a, vr v, vr d, vi (1 : Int32)] [])) _
    refine Go.via (fun _ => XS.iloadN X0.here hx rfl (hb hby d11_0) rfl) ?_
    refine Go.via (fun _ => XS.aloadN X0.here hx rfl (hb hby d11_1) rfl rfl) ?_
    refine Go.via (lenR X0 hx hZ e0 P4 (n := (10 : Int32)) rfl (g := (mkF m 2 #[vr a, vr v, vr d, vi (1 : Int32)] [(.ref d), (.int (1 : Int32))])) rfl rfl (hb hby d11_2)) ?_
    show Go p e below (s₁.setTop (mkF m 3 #[vr a, vr v, vr d, vi (1 : Int32)] [(.int (10 : Int32)), (.int (1 : Int32))])) _
    refine Go.via (fun _ => XS.icmpYes X0.here hx rfl (pc0 := 3) (pc' := 11) rfl (hb hby d11_3) rfl (feq ((by decide) : ¬ ((1 : Int32) = (10 : Int32)))).2 (by decide) (by decide)) ?_
    refine Go.via (fun _ => XS.aloadN X0.here hx rfl (hb hby d11_11) rfl rfl) ?_
    refine Go.via (fun _ => XS.iloadN X0.here hx rfl (hb hby d11_12) rfl) ?_
    refine Go.via (fun _ => XS.aloadN X0.here hx rfl (hb hby d11_13) rfl rfl) ?_
    obtain ⟨T97, h97, X97, e97, W97, V97, st97⟩ := stR' X0 hx hZ e0 P4 (Ins.of_exa P5 (tw hw 102 rfl)) (j := (1 : Int32)) (by decide) (by first | decide | (simp only [List.length_cons, List.length_nil]; decide) | rfl) (g := (mkF m 14 #[vr a, vr v, vr d, vi (1 : Int32)] [(.ref v), (.int (1 : Int32)), (.ref d)])) rfl rfl (hb hby d11_14)
    refine Go.via (st97) ?_
    clear st97
    have N97 := Fr.snoc X97 N0 g_d
    have f98 : Ra Z h97 d cOB [(.ref x0), (.ref v), .null, .null, .null, .null, .null, .null, .null, .null] := V97
    clear X0 e0
    show Go p e below (T97.setTop (mkF m 15 #[vr a, vr v, vr d, vi (1 : Int32)] [])) _
    refine Go.via (fun _ => XS.aloadN X97.here hx rfl (hb hby d11_15) rfl rfl) ?_
    refine Go.via (fun _ => XS.iloadN X97.here hx rfl (hb hby d11_16) rfl) ?_
    refine Go.via (fun _ => XS.iconst X97.here hx rfl (hb hby d11_17)) ?_
    refine Go.via (fun _ => XS.iadd X97.here hx rfl (hb hby d11_18) rfl) ?_
    have f99 : Fld Z h97 a cAL "size" "I" (.int (1 : Int32)) := (P3.other W97 (Or.inl had))
    have f100 : Exa Z h97 a cAL := (P0.wr W97)
    obtain ⟨T101, h101, X101, e101, W101, st101⟩ := putF X97 hx hZ hown (host := "") (Or.inl (tw hw 69 rfl)) Via.refl e97 f99 f100 (Or.inl (tw hw 70 rfl)) (tw hw 20 rfl) (ty := .int) (by decide) rfl rfl (g := (mkF m 19 #[vr a, vr v, vr d, vi (1 : Int32)] [(.int (2 : Int32)), (.ref a)])) rfl rfl (hb hby d11_19)
    refine Go.via (st101) ?_
    clear st101
    have N101 := Fr.snoc X101 N97 g_a
    have f102 : Fld Z h101 a cAL "size" "I" (.int (2 : Int32)) := f99.same W101
    clear X97 e97
    show Go p e below (T101.setTop (mkF m 22 #[vr a, vr v, vr d, vi (1 : Int32)] [])) _
    have k103 : Keep h0 h101 [a, d] := (((Keep.refl h0 [a, d]).wr W97 (Or.inl (List.mem_of_getElem? (i := 1) rfl))).wr W101 (Or.inl (List.mem_of_getElem? (i := 0) rfl)))
    have f104 : Exa Z h101 a cAL := (f100.wr W101)
    have f105 : Fld Z h101 a cAB "modCount" "I" (.int mc) := ((P1.other W97 (Or.inl had)).other W101 (Or.inr (slot_ne (Or.inl (tw hw 39 rfl)) (Or.inl (tw hw 70 rfl)) (by decide) (t := .int) (t' := .int) (by decide) (by decide))))
    have f106 : Fld Z h101 a cAL "elementData" cOA (.ref d) := ((P2.other W97 (Or.inl had)).other W101 (Or.inr (slot_ne (Or.inl (tw hw 42 rfl)) (Or.inl (tw hw 70 rfl)) (by decide) (t := (.array (.object cOB))) (t' := .int) (by decide) (by decide))))
    have f107 : Ra Z h101 d cOB [(.ref x0), (.ref v), .null, .null, .null, .null, .null, .null, .null, .null] := (f98.other W101 (Ne.symm had))
    exact Go.fin X101 hlk (v := none) (fun _ => rfl) (fun fs hr => X101.returnOut hx Bd.returns (hb hby d11_22) hr) (by rw [e101]; exact ⟨rfl, N101, k103, f104, f105, f106, f102, f107⟩) (by decide) (by decide)
def Q_rmA3_2 (Z : State) (a : Addr) (v : Addr) (d : Addr) (i : Int32) (mc : Int32) (x0 : Addr) (x1 : Addr) (h0 : Heap) (n0 : Nat) (vQ : Option Value) (hQ : Heap) (LQ : List Loc) : Prop := vQ = none ∧ Fr n0 LQ ∧ Keep h0 hQ [a, d] ∧ Exa Z hQ a cAL ∧ Fld Z hQ a cAB "modCount" "I" (.int mc) ∧ Fld Z hQ a cAL "elementData" cOA (.ref d) ∧ Fld Z hQ a cAL "size" "I" (.int (3 : Int32)) ∧ Ra Z hQ d cOB [(.ref x0), (.ref x1), (.ref v), .null, .null, .null, .null, .null, .null, .null]
set_option maxRecDepth 65536 in
set_option maxHeartbeats 40000000 in
theorem rmA3_2 (l : Launch) (Z : State) (a0 : Array Value) (hw : ∀ d ∈ tables_1, d.before a0 Z = true) (ws : List Jvm.Cond) (a : Addr) (v : Addr) (d : Addr) (i : Int32) (mc : Int32) (x0 : Addr) (x1 : Addr) (h0 : Heap) (n0 : Nat) (Z0 : n0 ≤ h0.size) (P0 : Exa Z h0 a cAL) (P1 : Fld Z h0 a cAB "modCount" "I" (.int mc)) (P2 : Fld Z h0 a cAL "elementData" cOA (.ref d)) (P3 : Fld Z h0 a cAL "size" "I" (.int (2 : Int32))) (P4 : Ra Z h0 d cOB [(.ref x0), (.ref x1), .null, .null, .null, .null, .null, .null, .null, .null]) (P5 : Exa Z h0 v cIN) (g_a : n0 ≤ a) (g_d : n0 ≤ d) (had : a ≠ d) (hi : i = 2) :
    MetFree l (⟨cAL, "add", "(Ljava/lang/Object;[Ljava/lang/Object;I)V"⟩ : MethodName) (head1 (Jvm.Cond.code (⟨cAL, "add", "(Ljava/lang/Object;[Ljava/lang/Object;I)V"⟩ : MethodName) jdk_38_method_24_code 4 none :: ws) ({ frames := 0, cells := 0, slots := 0, locals := 0 } : Room)) (fun aQ UQ => aQ = #[(.ref a), (.ref v), (.ref d), (.int i)] ∧ Z.Warmed39 UQ.vm ∧ UQ.heap = h0) (fun _ _ _ _ _ => True) (fun _ UQ oQ UR => ∃ vQ LQ, oQ = .returned vQ ∧ Q_rmA3_2 Z a v d i mc x0 x1 h0 n0 vQ UR.heap LQ ∧ FrameEnd UQ oQ UR LQ ({ frames := 0, cells := 0, slots := 0, locals := 0 } : Room).cells ({ frames := 0, cells := 0, slots := 0, locals := 0 } : Room).slots) := by
  refine MetFree.of_bodySF (plainFor_of_name pn_11) hisR ?_
  intro p e s m args below meth c s₁ Bd hml0 hP hK
  obtain ⟨rfl, hZ, hh⟩ := hP
  have hx := Bd.exec
  have hby := Bd.bytes
  have hlk := Bd.notSynchronized
  have hml : c.maxLocals = 4 := hml0
  have hown : s.vm.findClass cAL = some m.cls := findClass_of_methodNamed Bd.named
  have hnm := (name_of_methodNamed Bd.named Bd.method).1
  have X0 : Stand p l e ({ frames := 0, cells := 0, slots := 0, locals := 0 } : Room) s m #[(.ref a), (.ref v), (.ref d), (.int i)] below meth c s₁ [] 0 0 := Stand.of_body Bd
  have e0 : s₁.heap = h0 := by rw [← hh, Bd.state]; rfl
  have N0 := Fr.nil n0
  show Go p e below _ (Done s (Q_rmA3_2 Z a v d i mc x0 x1 h0 n0) ({ frames := 0, cells := 0, slots := 0, locals := 0 } : Room).cells ({ frames := 0, cells := 0, slots := 0, locals := 0 } : Room).slots)
  refine Go.via (fun tQ kQ => castTop (ef_11 m a v d i) kQ) ?_
  show Go p e below (s₁.setTop (mkF m 0 #[vr a, vr v, vr d, vi i] [])) _
  · subst hi
    show Go p e below (s₁.setTop (mkF m 0 #[vr a, vr v, vr d, vi (2 : Int32)] [])) _
    refine Go.via (fun _ => XS.iloadN X0.here hx rfl (hb hby d11_0) rfl) ?_
    refine Go.via (fun _ => XS.aloadN X0.here hx rfl (hb hby d11_1) rfl rfl) ?_
    refine Go.via (lenR X0 hx hZ e0 P4 (n := (10 : Int32)) rfl (g := (mkF m 2 #[vr a, vr v, vr d, vi (2 : Int32)] [(.ref d), (.int (2 : Int32))])) rfl rfl (hb hby d11_2)) ?_
    show Go p e below (s₁.setTop (mkF m 3 #[vr a, vr v, vr d, vi (2 : Int32)] [(.int (10 : Int32)), (.int (2 : Int32))])) _
    refine Go.via (fun _ => XS.icmpYes X0.here hx rfl (pc0 := 3) (pc' := 11) rfl (hb hby d11_3) rfl (feq ((by decide) : ¬ ((2 : Int32) = (10 : Int32)))).2 (by decide) (by decide)) ?_
    refine Go.via (fun _ => XS.aloadN X0.here hx rfl (hb hby d11_11) rfl rfl) ?_
    refine Go.via (fun _ => XS.iloadN X0.here hx rfl (hb hby d11_12) rfl) ?_
    refine Go.via (fun _ => XS.aloadN X0.here hx rfl (hb hby d11_13) rfl rfl) ?_
    obtain ⟨T108, h108, X108, e108, W108, V108, st108⟩ := stR' X0 hx hZ e0 P4 (Ins.of_exa P5 (tw hw 102 rfl)) (j := (2 : Int32)) (by decide) (by first | decide | (simp only [List.length_cons, List.length_nil]; decide) | rfl) (g := (mkF m 14 #[vr a, vr v, vr d, vi (2 : Int32)] [(.ref v), (.int (2 : Int32)), (.ref d)])) rfl rfl (hb hby d11_14)
    refine Go.via (st108) ?_
    clear st108
    have N108 := Fr.snoc X108 N0 g_d
    have f109 : Ra Z h108 d cOB [(.ref x0), (.ref x1), (.ref v), .null, .null, .null, .null, .null, .null, .null] := V108
    clear X0 e0
    show Go p e below (T108.setTop (mkF m 15 #[vr a, vr v, vr d, vi (2 : Int32)] [])) _
    refine Go.via (fun _ => XS.aloadN X108.here hx rfl (hb hby d11_15) rfl rfl) ?_
    refine Go.via (fun _ => XS.iloadN X108.here hx rfl (hb hby d11_16) rfl) ?_
    refine Go.via (fun _ => XS.iconst X108.here hx rfl (hb hby d11_17)) ?_
    refine Go.via (fun _ => XS.iadd X108.here hx rfl (hb hby d11_18) rfl) ?_
    have f110 : Fld Z h108 a cAL "size" "I" (.int (2 : Int32)) := (P3.other W108 (Or.inl had))
    have f111 : Exa Z h108 a cAL := (P0.wr W108)
    obtain ⟨T112, h112, X112, e112, W112, st112⟩ := putF X108 hx hZ hown (host := "") (Or.inl (tw hw 69 rfl)) Via.refl e108 f110 f111 (Or.inl (tw hw 70 rfl)) (tw hw 20 rfl) (ty := .int) (by decide) rfl rfl (g := (mkF m 19 #[vr a, vr v, vr d, vi (2 : Int32)] [(.int (3 : Int32)), (.ref a)])) rfl rfl (hb hby d11_19)
    refine Go.via (st112) ?_
    clear st112
    have N112 := Fr.snoc X112 N108 g_a
    have f113 : Fld Z h112 a cAL "size" "I" (.int (3 : Int32)) := f110.same W112
    clear X108 e108
    show Go p e below (T112.setTop (mkF m 22 #[vr a, vr v, vr d, vi (2 : Int32)] [])) _
    have k114 : Keep h0 h112 [a, d] := (((Keep.refl h0 [a, d]).wr W108 (Or.inl (List.mem_of_getElem? (i := 1) rfl))).wr W112 (Or.inl (List.mem_of_getElem? (i := 0) rfl)))
    have f115 : Exa Z h112 a cAL := (f111.wr W112)
    have f116 : Fld Z h112 a cAB "modCount" "I" (.int mc) := ((P1.other W108 (Or.inl had)).other W112 (Or.inr (slot_ne (Or.inl (tw hw 39 rfl)) (Or.inl (tw hw 70 rfl)) (by decide) (t := .int) (t' := .int) (by decide) (by decide))))
    have f117 : Fld Z h112 a cAL "elementData" cOA (.ref d) := ((P2.other W108 (Or.inl had)).other W112 (Or.inr (slot_ne (Or.inl (tw hw 42 rfl)) (Or.inl (tw hw 70 rfl)) (by decide) (t := (.array (.object cOB))) (t' := .int) (by decide) (by decide))))
    have f118 : Ra Z h112 d cOB [(.ref x0), (.ref x1), (.ref v), .null, .null, .null, .null, .null, .null, .null] := (f109.other W112 (Ne.symm had))
    exact Go.fin X112 hlk (v := none) (fun _ => rfl) (fun fs hr => X112.returnOut hx Bd.returns (hb hby d11_22) hr) (by rw [e112]; exact ⟨rfl, N112, k114, f115, f116, f117, f113, f118⟩) (by decide) (by decide)
theorem d10_0 : decode jdk_38_method_25_code 0 = .ok (.aload_n 0, 1) := by decide +kernel
theorem d10_1 : decode jdk_38_method_25_code 1 = .ok (.dup, 1) := by decide +kernel
theorem d10_2 : decode jdk_38_method_25_code 2 = .ok (.getfield 63, 3) := by decide +kernel
theorem d10_5 : decode jdk_38_method_25_code 5 = .ok (.iconst 1, 1) := by decide +kernel
theorem d10_6 : decode jdk_38_method_25_code 6 = .ok (.iadd, 1) := by decide +kernel
theorem d10_7 : decode jdk_38_method_25_code 7 = .ok (.putfield 63, 3) := by decide +kernel
theorem d10_10 : decode jdk_38_method_25_code 10 = .ok (.aload_n 0, 1) := by decide +kernel
theorem d10_11 : decode jdk_38_method_25_code 11 = .ok (.aload_n 1, 1) := by decide +kernel
theorem d10_12 : decode jdk_38_method_25_code 12 = .ok (.aload_n 0, 1) := by decide +kernel
theorem d10_13 : decode jdk_38_method_25_code 13 = .ok (.getfield 9, 3) := by decide +kernel
theorem d10_16 : decode jdk_38_method_25_code 16 = .ok (.aload_n 0, 1) := by decide +kernel
theorem d10_17 : decode jdk_38_method_25_code 17 = .ok (.getfield 48, 3) := by decide +kernel
theorem d10_20 : decode jdk_38_method_25_code 20 = .ok (.invokevirtual 131, 3) := by decide +kernel
theorem pd__28Ljava_2flang_2fObject_3b_5bLjava_2flang_2fObject_3bI_29V : parseMethodDescriptor "(Ljava/lang/Object;[Ljava/lang/Object;I)V" = some ⟨[(.object cOB), (.array (.object cOB)), .int], none⟩ := by decide +kernel
theorem d10_23 : decode jdk_38_method_25_code 23 = .ok (.iconst 1, 1) := by decide +kernel
theorem d10_24 : decode jdk_38_method_25_code 24 = .ok (.ireturn, 1) := by decide +kernel
theorem pn_10 : plainName cAL = true := by first | (simp [plainName, overriddenIn]; done) | decide +kernel
theorem ef_10 (m : MethodId) (x0 : Addr) (x1 : Addr) : entryFrame m #[(.ref x0), (.ref x1)] 2 = mkF m 0 #[.val (.ref x0), .val (.ref x1)] [] := by first | (simp [entryFrame, mkF, argsToLocals, Value.category]; done) | rfl
def Q_rmA1_0 (Z : State) (a : Addr) (v : Addr) (de : Addr) (mc : Int32) (h0 : Heap) (n0 : Nat) (vQ : Option Value) (hQ : Heap) (LQ : List Loc) : Prop := ∃ r : Addr, vQ = some (.int (1 : Int32)) ∧ Fr n0 LQ ∧ Keep h0 hQ [a] ∧ h0.size ≤ r ∧ Exa Z hQ a cAL ∧ Fld Z hQ a cAB "modCount" "I" (.int (mc + (1 : Int32))) ∧ Fld Z hQ a cAL "elementData" cOA (.ref r) ∧ Fld Z hQ a cAL "size" "I" (.int (1 : Int32)) ∧ Ra Z hQ r cOB [(.ref v), .null, .null, .null, .null, .null, .null, .null, .null, .null]
set_option maxRecDepth 65536 in
set_option maxHeartbeats 40000000 in
theorem rmA1_0 (l : Launch) (Z : State) (a0 : Array Value) (hw : ∀ d ∈ tables_1, d.before a0 Z = true) (ws : List Jvm.Cond) (a : Addr) (v : Addr) (de : Addr) (mc : Int32) (h0 : Heap) (n0 : Nat) (Z0 : n0 ≤ h0.size) (P0 : Exa Z h0 a cAL) (P1 : Fld Z h0 a cAB "modCount" "I" (.int mc)) (P2 : Fld Z h0 a cAL "elementData" cOA (.ref de)) (P3 : Fld Z h0 a cAL "size" "I" (.int (0 : Int32))) (P4 : Exa Z h0 v cIN) (P5 : Old Z n0 h0) (zD : Sta Z Z.heap cAL cDE cOA (.ref de)) (zN : Rn Z Z.heap de (0 : Int32)) (g_a : n0 ≤ a) :
    MetFree l (⟨cAL, "add", "(Ljava/lang/Object;)Z"⟩ : MethodName) (head1 (Jvm.Cond.code (⟨cAL, "add", "(Ljava/lang/Object;)Z"⟩ : MethodName) jdk_38_method_25_code 2 (some .boolean) :: ws) ({ frames := 4, cells := 1, slots := 10, locals := 56 } : Room)) (fun aQ UQ => aQ = #[(.ref a), (.ref v)] ∧ Z.Warmed39 UQ.vm ∧ UQ.heap = h0) (fun _ _ _ _ _ => True) (fun _ UQ oQ UR => ∃ vQ LQ, oQ = .returned vQ ∧ Q_rmA1_0 Z a v de mc h0 n0 vQ UR.heap LQ ∧ FrameEnd UQ oQ UR LQ ({ frames := 4, cells := 1, slots := 10, locals := 56 } : Room).cells ({ frames := 4, cells := 1, slots := 10, locals := 56 } : Room).slots) := by
  refine MetFree.of_bodySF (plainFor_of_name pn_10) hisR ?_
  intro p e s m args below meth c s₁ Bd hml0 hP hK
  obtain ⟨rfl, hZ, hh⟩ := hP
  have hx := Bd.exec
  have hby := Bd.bytes
  have hlk := Bd.notSynchronized
  have hml : c.maxLocals = 2 := hml0
  have hown : s.vm.findClass cAL = some m.cls := findClass_of_methodNamed Bd.named
  have hnm := (name_of_methodNamed Bd.named Bd.method).1
  have X0 : Stand p l e ({ frames := 4, cells := 1, slots := 10, locals := 56 } : Room) s m #[(.ref a), (.ref v)] below meth c s₁ [] 0 0 := Stand.of_body Bd
  have e0 : s₁.heap = h0 := by rw [← hh, Bd.state]; rfl
  have N0 := Fr.nil n0
  show Go p e below _ (Done s (Q_rmA1_0 Z a v de mc h0 n0) ({ frames := 4, cells := 1, slots := 10, locals := 56 } : Room).cells ({ frames := 4, cells := 1, slots := 10, locals := 56 } : Room).slots)
  refine Go.via (fun tQ kQ => castTop (ef_10 m a v) kQ) ?_
  show Go p e below (s₁.setTop (mkF m 0 #[vr a, vr v] [])) _
  refine Go.via (fun _ => XS.aloadN X0.here hx rfl (hb hby d10_0) rfl rfl) ?_
  refine Go.via (fun _ => XS.dup X0.here hx rfl (hb hby d10_1) rfl rfl) ?_
  obtain ⟨T119, X119, e119, st119⟩ := getF X0 hx hZ hown (host := "") (Or.inl (tw hw 79 rfl)) (Via.of (tw hw 80 rfl)) e0 P1 (g := (mkF m 2 #[vr a, vr v] [(.ref a), (.ref a)])) rfl rfl (hb hby d10_2)
  refine Go.via (st119) ?_
  clear st119
  clear X0 e0
  show Go p e below (T119.setTop (mkF m 5 #[vr a, vr v] [(.int mc), (.ref a)])) _
  refine Go.via (fun _ => XS.iconst X119.here hx rfl (hb hby d10_5)) ?_
  refine Go.via (fun _ => XS.iadd X119.here hx rfl (hb hby d10_6) rfl) ?_
  obtain ⟨T120, h120, X120, e120, W120, st120⟩ := putF X119 hx hZ hown (host := "") (Or.inl (tw hw 79 rfl)) (Via.of (tw hw 80 rfl)) e119 P1 P0 (Or.inl (tw hw 39 rfl)) (tw hw 20 rfl) (ty := .int) (by decide) rfl rfl (g := (mkF m 7 #[vr a, vr v] [(.int (mc + (1 : Int32))), (.ref a)])) rfl rfl (hb hby d10_7)
  refine Go.via (st120) ?_
  clear st120
  have N120 := Fr.snoc X120 N0 g_a
  have f121 : Fld Z h120 a cAB "modCount" "I" (.int (mc + (1 : Int32))) := P1.same W120
  clear X119 e119
  show Go p e below (T120.setTop (mkF m 10 #[vr a, vr v] [])) _
  refine Go.via (fun _ => XS.aloadN X120.here hx rfl (hb hby d10_10) rfl rfl) ?_
  refine Go.via (fun _ => XS.aloadN X120.here hx rfl (hb hby d10_11) rfl rfl) ?_
  refine Go.via (fun _ => XS.aloadN X120.here hx rfl (hb hby d10_12) rfl rfl) ?_
  have f122 : Fld Z h120 a cAL "elementData" cOA (.ref de) := (P2.other W120 (Or.inr (slot_ne (Or.inl (tw hw 42 rfl)) (Or.inl (tw hw 39 rfl)) (by decide) (t := (.array (.object cOB))) (t' := .int) (by decide) (by decide))))
  obtain ⟨T123, X123, e123, st123⟩ := getF X120 hx hZ hown (host := "") (Or.inl (tw hw 41 rfl)) Via.refl e120 f122 (g := (mkF m 13 #[vr a, vr v] [(.ref a), (.ref v), (.ref a)])) rfl rfl (hb hby d10_13)
  refine Go.via (st123) ?_
  clear st123
  clear X120 e120
  show Go p e below (T123.setTop (mkF m 16 #[vr a, vr v] [(.ref de), (.ref v), (.ref a)])) _
  refine Go.via (fun _ => XS.aloadN X123.here hx rfl (hb hby d10_16) rfl rfl) ?_
  have f124 : Fld Z h120 a cAL "size" "I" (.int (0 : Int32)) := (P3.other W120 (Or.inr (slot_ne (Or.inl (tw hw 70 rfl)) (Or.inl (tw hw 39 rfl)) (by decide) (t := .int) (t' := .int) (by decide) (by decide))))
  obtain ⟨T125, X125, e125, st125⟩ := getF X123 hx hZ hown (host := "") (Or.inl (tw hw 69 rfl)) Via.refl e123 f124 (g := (mkF m 17 #[vr a, vr v] [(.ref a), (.ref de), (.ref v), (.ref a)])) rfl rfl (hb hby d10_17)
  refine Go.via (st125) ?_
  clear st125
  clear X123 e123
  show Go p e below (T125.setTop (mkF m 20 #[vr a, vr v] [(.int (0 : Int32)), (.ref de), (.ref v), (.ref a)])) _
  have f126 : Exa Z h120 a cAL := (P0.wr W120)
  have f127 : Exa Z h120 v cIN := (P4.wr W120)
  have o128 : Old Z n0 h120 := (P5.wr W120 g_a)
  have z130 : n0 ≤ h120.size := (Nat.le_trans Z0 (Keep.of_wr W120).1)
  obtain ⟨cq129, q129, q129'⟩ := f126.cell
  obtain ⟨r129, _, ⟨T129, L129, k129, n129⟩, -, X129, ⟨Lc129, hQ129, l129, y129, z129⟩, st129⟩ := X125.privateBack hx (y := (⟨cAL, "add", "(Ljava/lang/Object;[Ljava/lang/Object;I)V"⟩ : MethodName)) hown (mvT hZ (tw hw 81 rfl)) (mvT hZ (tw hw 82 rfl)) (selP hZ (tw hw 20 rfl) (tw hw 83 rfl) (tw hw 82 rfl) (by decide)) (Cond.privateMethod_at (mvP hZ (tw hw 83 rfl) (args := #[]))) (mvT hZ (tw hw 85 rfl)) (by decide) (backOf (W := 0) (rmA3_0 l Z a0 hw [] a v de (0 : Int32) (mc + (1 : Int32)) h120 n0 z130 f126 f121 f122 f124 f127 o128 zD zN g_a rfl) hZ (tw hw 85 rfl) (tw hw 21 rfl) (by decide) (by decide)) (g := (mkF m 20 #[vr a, vr v] [(.int (0 : Int32)), (.ref de), (.ref v), (.ref a)])) rfl (by rw [hml]; rfl) (Steps.refl _) (a := a) (by rw [e125]; exact q129) q129' (argsL := [(.ref v), (.ref de), (.int (0 : Int32))]) (rest := []) (lenOf pd__28Ljava_2flang_2fObject_3b_5bLjava_2flang_2fObject_3bI_29V rfl) rfl (by show 2 * 0 + _ ≤ _; exact Nat.le_of_eq rfl) (hb hby d10_20) (fun _ _ => ⟨rfl, e125, (by decide : 0 + 1 ≤ _), (by decide : 0 + 10 ≤ _)⟩)
  dsimp only [Pt.U, Pt.locs, Pt.cells, Pt.slots] at X129 l129 y129 z129 st129 hQ129
  rw [l129, y129, z129] at X129
  clear l129 y129 z129
  obtain ⟨b131, hr129, N129q, K129q, fz_b131, f132, f133, f134, f135, f136⟩ := hQ129
  rw [hr129] at st129
  clear hr129
  have N129 := Fr.app N120 N129q
  refine Go.via (fun _ kQ => st129.trans kQ) ?_
  clear st129
  have ne137 : a ≠ b131 := Nat.ne_of_lt (Nat.lt_of_lt_of_le f126.lt fz_b131)
  have ne138 : v ≠ b131 := Nat.ne_of_lt (Nat.lt_of_lt_of_le f127.lt fz_b131)
  have ge139 : n0 ≤ b131 := Nat.le_trans z130 fz_b131
  have k141 : Keep h0 h120 [a] := ((Keep.refl h0 [a]).wr W120 (Or.inl (List.mem_of_getElem? (i := 0) rfl)))
  have sz140 : h0.size ≤ b131 := Nat.le_trans k141.1 fz_b131
  have e129 : T129.heap = T129.heap := rfl
  have f142 : Exa Z T129.heap a cAL := f132
  have f143 : Fld Z T129.heap a cAB "modCount" "I" (.int (mc + (1 : Int32))) := f133
  have f144 : Fld Z T129.heap a cAL "elementData" cOA (.ref b131) := f134
  have f145 : Fld Z T129.heap a cAL "size" "I" (.int (1 : Int32)) := f135
  have f146 : Ra Z T129.heap b131 cOB [(.ref v), .null, .null, .null, .null, .null, .null, .null, .null, .null] := f136
  clear X125 e125
  show Go p e below (T129.setTop (mkF m 23 #[vr a, vr v] [])) _
  refine Go.via (fun _ => XS.iconst X129.here hx rfl (hb hby d10_23)) ?_
  have k147 : Keep h0 T129.heap [a] := (k141.trans K129q (allS (Or.inl (List.mem_of_getElem? (i := 0) rfl)) all0))
  exact Go.fin X129 hlk (v := some (.int (1 : Int32))) (fun h => by rw [Bd.returns] at h; cases h) (fun fs hr => retN X129 hx (t := .boolean) Bd.returns (by simp) (hb hby d10_24) hr) (by exact ⟨b131, rfl, N129, k147, sz140, f142, f143, f144, f145, f146⟩) (by decide) (by decide)
def Q_rmA1_1 (Z : State) (a : Addr) (v : Addr) (d : Addr) (mc : Int32) (x0 : Addr) (h0 : Heap) (n0 : Nat) (vQ : Option Value) (hQ : Heap) (LQ : List Loc) : Prop := vQ = some (.int (1 : Int32)) ∧ Fr n0 LQ ∧ Keep h0 hQ [a, d] ∧ Exa Z hQ a cAL ∧ Fld Z hQ a cAB "modCount" "I" (.int (mc + (1 : Int32))) ∧ Fld Z hQ a cAL "elementData" cOA (.ref d) ∧ Fld Z hQ a cAL "size" "I" (.int (2 : Int32)) ∧ Ra Z hQ d cOB [(.ref x0), (.ref v), .null, .null, .null, .null, .null, .null, .null, .null]
set_option maxRecDepth 65536 in
set_option maxHeartbeats 40000000 in
theorem rmA1_1 (l : Launch) (Z : State) (a0 : Array Value) (hw : ∀ d ∈ tables_1, d.before a0 Z = true) (ws : List Jvm.Cond) (a : Addr) (v : Addr) (d : Addr) (mc : Int32) (x0 : Addr) (h0 : Heap) (n0 : Nat) (Z0 : n0 ≤ h0.size) (P0 : Exa Z h0 a cAL) (P1 : Fld Z h0 a cAB "modCount" "I" (.int mc)) (P2 : Fld Z h0 a cAL "elementData" cOA (.ref d)) (P3 : Fld Z h0 a cAL "size" "I" (.int (1 : Int32))) (P4 : Ra Z h0 d cOB [(.ref x0), .null, .null, .null, .null, .null, .null, .null, .null, .null]) (P5 : Exa Z h0 v cIN) (g_a : n0 ≤ a) (g_d : n0 ≤ d) (had : a ≠ d) :
    MetFree l (⟨cAL, "add", "(Ljava/lang/Object;)Z"⟩ : MethodName) (head1 (Jvm.Cond.code (⟨cAL, "add", "(Ljava/lang/Object;)Z"⟩ : MethodName) jdk_38_method_25_code 2 (some .boolean) :: ws) ({ frames := 1, cells := 0, slots := 0, locals := 15 } : Room)) (fun aQ UQ => aQ = #[(.ref a), (.ref v)] ∧ Z.Warmed39 UQ.vm ∧ UQ.heap = h0) (fun _ _ _ _ _ => True) (fun _ UQ oQ UR => ∃ vQ LQ, oQ = .returned vQ ∧ Q_rmA1_1 Z a v d mc x0 h0 n0 vQ UR.heap LQ ∧ FrameEnd UQ oQ UR LQ ({ frames := 1, cells := 0, slots := 0, locals := 15 } : Room).cells ({ frames := 1, cells := 0, slots := 0, locals := 15 } : Room).slots) := by
  refine MetFree.of_bodySF (plainFor_of_name pn_10) hisR ?_
  intro p e s m args below meth c s₁ Bd hml0 hP hK
  obtain ⟨rfl, hZ, hh⟩ := hP
  have hx := Bd.exec
  have hby := Bd.bytes
  have hlk := Bd.notSynchronized
  have hml : c.maxLocals = 2 := hml0
  have hown : s.vm.findClass cAL = some m.cls := findClass_of_methodNamed Bd.named
  have hnm := (name_of_methodNamed Bd.named Bd.method).1
  have X0 : Stand p l e ({ frames := 1, cells := 0, slots := 0, locals := 15 } : Room) s m #[(.ref a), (.ref v)] below meth c s₁ [] 0 0 := Stand.of_body Bd
  have e0 : s₁.heap = h0 := by rw [← hh, Bd.state]; rfl
  have N0 := Fr.nil n0
  show Go p e below _ (Done s (Q_rmA1_1 Z a v d mc x0 h0 n0) ({ frames := 1, cells := 0, slots := 0, locals := 15 } : Room).cells ({ frames := 1, cells := 0, slots := 0, locals := 15 } : Room).slots)
  refine Go.via (fun tQ kQ => castTop (ef_10 m a v) kQ) ?_
  show Go p e below (s₁.setTop (mkF m 0 #[vr a, vr v] [])) _
  refine Go.via (fun _ => XS.aloadN X0.here hx rfl (hb hby d10_0) rfl rfl) ?_
  refine Go.via (fun _ => XS.dup X0.here hx rfl (hb hby d10_1) rfl rfl) ?_
  obtain ⟨T148, X148, e148, st148⟩ := getF X0 hx hZ hown (host := "") (Or.inl (tw hw 79 rfl)) (Via.of (tw hw 80 rfl)) e0 P1 (g := (mkF m 2 #[vr a, vr v] [(.ref a), (.ref a)])) rfl rfl (hb hby d10_2)
  refine Go.via (st148) ?_
  clear st148
  clear X0 e0
  show Go p e below (T148.setTop (mkF m 5 #[vr a, vr v] [(.int mc), (.ref a)])) _
  refine Go.via (fun _ => XS.iconst X148.here hx rfl (hb hby d10_5)) ?_
  refine Go.via (fun _ => XS.iadd X148.here hx rfl (hb hby d10_6) rfl) ?_
  obtain ⟨T149, h149, X149, e149, W149, st149⟩ := putF X148 hx hZ hown (host := "") (Or.inl (tw hw 79 rfl)) (Via.of (tw hw 80 rfl)) e148 P1 P0 (Or.inl (tw hw 39 rfl)) (tw hw 20 rfl) (ty := .int) (by decide) rfl rfl (g := (mkF m 7 #[vr a, vr v] [(.int (mc + (1 : Int32))), (.ref a)])) rfl rfl (hb hby d10_7)
  refine Go.via (st149) ?_
  clear st149
  have N149 := Fr.snoc X149 N0 g_a
  have f150 : Fld Z h149 a cAB "modCount" "I" (.int (mc + (1 : Int32))) := P1.same W149
  clear X148 e148
  show Go p e below (T149.setTop (mkF m 10 #[vr a, vr v] [])) _
  refine Go.via (fun _ => XS.aloadN X149.here hx rfl (hb hby d10_10) rfl rfl) ?_
  refine Go.via (fun _ => XS.aloadN X149.here hx rfl (hb hby d10_11) rfl rfl) ?_
  refine Go.via (fun _ => XS.aloadN X149.here hx rfl (hb hby d10_12) rfl rfl) ?_
  have f151 : Fld Z h149 a cAL "elementData" cOA (.ref d) := (P2.other W149 (Or.inr (slot_ne (Or.inl (tw hw 42 rfl)) (Or.inl (tw hw 39 rfl)) (by decide) (t := (.array (.object cOB))) (t' := .int) (by decide) (by decide))))
  obtain ⟨T152, X152, e152, st152⟩ := getF X149 hx hZ hown (host := "") (Or.inl (tw hw 41 rfl)) Via.refl e149 f151 (g := (mkF m 13 #[vr a, vr v] [(.ref a), (.ref v), (.ref a)])) rfl rfl (hb hby d10_13)
  refine Go.via (st152) ?_
  clear st152
  clear X149 e149
  show Go p e below (T152.setTop (mkF m 16 #[vr a, vr v] [(.ref d), (.ref v), (.ref a)])) _
  refine Go.via (fun _ => XS.aloadN X152.here hx rfl (hb hby d10_16) rfl rfl) ?_
  have f153 : Fld Z h149 a cAL "size" "I" (.int (1 : Int32)) := (P3.other W149 (Or.inr (slot_ne (Or.inl (tw hw 70 rfl)) (Or.inl (tw hw 39 rfl)) (by decide) (t := .int) (t' := .int) (by decide) (by decide))))
  obtain ⟨T154, X154, e154, st154⟩ := getF X152 hx hZ hown (host := "") (Or.inl (tw hw 69 rfl)) Via.refl e152 f153 (g := (mkF m 17 #[vr a, vr v] [(.ref a), (.ref d), (.ref v), (.ref a)])) rfl rfl (hb hby d10_17)
  refine Go.via (st154) ?_
  clear st154
  clear X152 e152
  show Go p e below (T154.setTop (mkF m 20 #[vr a, vr v] [(.int (1 : Int32)), (.ref d), (.ref v), (.ref a)])) _
  have f155 : Exa Z h149 a cAL := (P0.wr W149)
  have f156 : Ra Z h149 d cOB [(.ref x0), .null, .null, .null, .null, .null, .null, .null, .null, .null] := (P4.other W149 (Ne.symm had))
  have f157 : Exa Z h149 v cIN := (P5.wr W149)
  have z159 : n0 ≤ h149.size := (Nat.le_trans Z0 (Keep.of_wr W149).1)
  obtain ⟨cq158, q158, q158'⟩ := f155.cell
  obtain ⟨r158, _, ⟨T158, L158, k158, n158⟩, -, X158, ⟨Lc158, hQ158, l158, y158, z158⟩, st158⟩ := X154.privateBack hx (y := (⟨cAL, "add", "(Ljava/lang/Object;[Ljava/lang/Object;I)V"⟩ : MethodName)) hown (mvT hZ (tw hw 81 rfl)) (mvT hZ (tw hw 82 rfl)) (selP hZ (tw hw 20 rfl) (tw hw 83 rfl) (tw hw 82 rfl) (by decide)) (Cond.privateMethod_at (mvP hZ (tw hw 83 rfl) (args := #[]))) (mvT hZ (tw hw 85 rfl)) (by decide) (backOf (W := 0) (rmA3_1 l Z a0 hw [] a v d (1 : Int32) (mc + (1 : Int32)) x0 h149 n0 z159 f155 f150 f151 f153 f156 f157 g_a g_d had rfl) hZ (tw hw 85 rfl) (tw hw 21 rfl) (by decide) (by decide)) (g := (mkF m 20 #[vr a, vr v] [(.int (1 : Int32)), (.ref d), (.ref v), (.ref a)])) rfl (by rw [hml]; rfl) (Steps.refl _) (a := a) (by rw [e154]; exact q158) q158' (argsL := [(.ref v), (.ref d), (.int (1 : Int32))]) (rest := []) (lenOf pd__28Ljava_2flang_2fObject_3b_5bLjava_2flang_2fObject_3bI_29V rfl) rfl (by show 2 * 0 + _ ≤ _; exact Nat.le_of_eq rfl) (hb hby d10_20) (fun _ _ => ⟨rfl, e154, (by decide : 0 + 0 ≤ _), (by decide : 0 + 0 ≤ _)⟩)
  dsimp only [Pt.U, Pt.locs, Pt.cells, Pt.slots] at X158 l158 y158 z158 st158 hQ158
  rw [l158, y158, z158] at X158
  clear l158 y158 z158
  obtain ⟨hr158, N158q, K158q, f160, f161, f162, f163, f164⟩ := hQ158
  rw [hr158] at st158
  clear hr158
  have N158 := Fr.app N149 N158q
  refine Go.via (fun _ kQ => st158.trans kQ) ?_
  clear st158
  have e158 : T158.heap = T158.heap := rfl
  have f165 : Exa Z T158.heap a cAL := f160
  have f166 : Fld Z T158.heap a cAB "modCount" "I" (.int (mc + (1 : Int32))) := f161
  have f167 : Fld Z T158.heap a cAL "elementData" cOA (.ref d) := f162
  have f168 : Fld Z T158.heap a cAL "size" "I" (.int (2 : Int32)) := f163
  have f169 : Ra Z T158.heap d cOB [(.ref x0), (.ref v), .null, .null, .null, .null, .null, .null, .null, .null] := f164
  clear X154 e154
  show Go p e below (T158.setTop (mkF m 23 #[vr a, vr v] [])) _
  refine Go.via (fun _ => XS.iconst X158.here hx rfl (hb hby d10_23)) ?_
  have k170 : Keep h0 T158.heap [a, d] := (((Keep.refl h0 [a, d]).wr W149 (Or.inl (List.mem_of_getElem? (i := 0) rfl))).trans K158q (allS (Or.inl (List.mem_of_getElem? (i := 0) rfl)) (allS (Or.inl (List.mem_of_getElem? (i := 1) rfl)) all0)))
  exact Go.fin X158 hlk (v := some (.int (1 : Int32))) (fun h => by rw [Bd.returns] at h; cases h) (fun fs hr => retN X158 hx (t := .boolean) Bd.returns (by simp) (hb hby d10_24) hr) (by exact ⟨rfl, N158, k170, f165, f166, f167, f168, f169⟩) (by decide) (by decide)
def Q_rmA1_2 (Z : State) (a : Addr) (v : Addr) (d : Addr) (mc : Int32) (x0 : Addr) (x1 : Addr) (h0 : Heap) (n0 : Nat) (vQ : Option Value) (hQ : Heap) (LQ : List Loc) : Prop := vQ = some (.int (1 : Int32)) ∧ Fr n0 LQ ∧ Keep h0 hQ [a, d] ∧ Exa Z hQ a cAL ∧ Fld Z hQ a cAB "modCount" "I" (.int (mc + (1 : Int32))) ∧ Fld Z hQ a cAL "elementData" cOA (.ref d) ∧ Fld Z hQ a cAL "size" "I" (.int (3 : Int32)) ∧ Ra Z hQ d cOB [(.ref x0), (.ref x1), (.ref v), .null, .null, .null, .null, .null, .null, .null]
set_option maxRecDepth 65536 in
set_option maxHeartbeats 40000000 in
theorem rmA1_2 (l : Launch) (Z : State) (a0 : Array Value) (hw : ∀ d ∈ tables_1, d.before a0 Z = true) (ws : List Jvm.Cond) (a : Addr) (v : Addr) (d : Addr) (mc : Int32) (x0 : Addr) (x1 : Addr) (h0 : Heap) (n0 : Nat) (Z0 : n0 ≤ h0.size) (P0 : Exa Z h0 a cAL) (P1 : Fld Z h0 a cAB "modCount" "I" (.int mc)) (P2 : Fld Z h0 a cAL "elementData" cOA (.ref d)) (P3 : Fld Z h0 a cAL "size" "I" (.int (2 : Int32))) (P4 : Ra Z h0 d cOB [(.ref x0), (.ref x1), .null, .null, .null, .null, .null, .null, .null, .null]) (P5 : Exa Z h0 v cIN) (g_a : n0 ≤ a) (g_d : n0 ≤ d) (had : a ≠ d) :
    MetFree l (⟨cAL, "add", "(Ljava/lang/Object;)Z"⟩ : MethodName) (head1 (Jvm.Cond.code (⟨cAL, "add", "(Ljava/lang/Object;)Z"⟩ : MethodName) jdk_38_method_25_code 2 (some .boolean) :: ws) ({ frames := 1, cells := 0, slots := 0, locals := 15 } : Room)) (fun aQ UQ => aQ = #[(.ref a), (.ref v)] ∧ Z.Warmed39 UQ.vm ∧ UQ.heap = h0) (fun _ _ _ _ _ => True) (fun _ UQ oQ UR => ∃ vQ LQ, oQ = .returned vQ ∧ Q_rmA1_2 Z a v d mc x0 x1 h0 n0 vQ UR.heap LQ ∧ FrameEnd UQ oQ UR LQ ({ frames := 1, cells := 0, slots := 0, locals := 15 } : Room).cells ({ frames := 1, cells := 0, slots := 0, locals := 15 } : Room).slots) := by
  refine MetFree.of_bodySF (plainFor_of_name pn_10) hisR ?_
  intro p e s m args below meth c s₁ Bd hml0 hP hK
  obtain ⟨rfl, hZ, hh⟩ := hP
  have hx := Bd.exec
  have hby := Bd.bytes
  have hlk := Bd.notSynchronized
  have hml : c.maxLocals = 2 := hml0
  have hown : s.vm.findClass cAL = some m.cls := findClass_of_methodNamed Bd.named
  have hnm := (name_of_methodNamed Bd.named Bd.method).1
  have X0 : Stand p l e ({ frames := 1, cells := 0, slots := 0, locals := 15 } : Room) s m #[(.ref a), (.ref v)] below meth c s₁ [] 0 0 := Stand.of_body Bd
  have e0 : s₁.heap = h0 := by rw [← hh, Bd.state]; rfl
  have N0 := Fr.nil n0
  show Go p e below _ (Done s (Q_rmA1_2 Z a v d mc x0 x1 h0 n0) ({ frames := 1, cells := 0, slots := 0, locals := 15 } : Room).cells ({ frames := 1, cells := 0, slots := 0, locals := 15 } : Room).slots)
  refine Go.via (fun tQ kQ => castTop (ef_10 m a v) kQ) ?_
  show Go p e below (s₁.setTop (mkF m 0 #[vr a, vr v] [])) _
  refine Go.via (fun _ => XS.aloadN X0.here hx rfl (hb hby d10_0) rfl rfl) ?_
  refine Go.via (fun _ => XS.dup X0.here hx rfl (hb hby d10_1) rfl rfl) ?_
  obtain ⟨T171, X171, e171, st171⟩ := getF X0 hx hZ hown (host := "") (Or.inl (tw hw 79 rfl)) (Via.of (tw hw 80 rfl)) e0 P1 (g := (mkF m 2 #[vr a, vr v] [(.ref a), (.ref a)])) rfl rfl (hb hby d10_2)
  refine Go.via (st171) ?_
  clear st171
  clear X0 e0
  show Go p e below (T171.setTop (mkF m 5 #[vr a, vr v] [(.int mc), (.ref a)])) _
  refine Go.via (fun _ => XS.iconst X171.here hx rfl (hb hby d10_5)) ?_
  refine Go.via (fun _ => XS.iadd X171.here hx rfl (hb hby d10_6) rfl) ?_
  obtain ⟨T172, h172, X172, e172, W172, st172⟩ := putF X171 hx hZ hown (host := "") (Or.inl (tw hw 79 rfl)) (Via.of (tw hw 80 rfl)) e171 P1 P0 (Or.inl (tw hw 39 rfl)) (tw hw 20 rfl) (ty := .int) (by decide) rfl rfl (g := (mkF m 7 #[vr a, vr v] [(.int (mc + (1 : Int32))), (.ref a)])) rfl rfl (hb hby d10_7)
  refine Go.via (st172) ?_
  clear st172
  have N172 := Fr.snoc X172 N0 g_a
  have f173 : Fld Z h172 a cAB "modCount" "I" (.int (mc + (1 : Int32))) := P1.same W172
  clear X171 e171
  show Go p e below (T172.setTop (mkF m 10 #[vr a, vr v] [])) _
  refine Go.via (fun _ => XS.aloadN X172.here hx rfl (hb hby d10_10) rfl rfl) ?_
  refine Go.via (fun _ => XS.aloadN X172.here hx rfl (hb hby d10_11) rfl rfl) ?_
  refine Go.via (fun _ => XS.aloadN X172.here hx rfl (hb hby d10_12) rfl rfl) ?_
  have f174 : Fld Z h172 a cAL "elementData" cOA (.ref d) := (P2.other W172 (Or.inr (slot_ne (Or.inl (tw hw 42 rfl)) (Or.inl (tw hw 39 rfl)) (by decide) (t := (.array (.object cOB))) (t' := .int) (by decide) (by decide))))
  obtain ⟨T175, X175, e175, st175⟩ := getF X172 hx hZ hown (host := "") (Or.inl (tw hw 41 rfl)) Via.refl e172 f174 (g := (mkF m 13 #[vr a, vr v] [(.ref a), (.ref v), (.ref a)])) rfl rfl (hb hby d10_13)
  refine Go.via (st175) ?_
  clear st175
  clear X172 e172
  show Go p e below (T175.setTop (mkF m 16 #[vr a, vr v] [(.ref d), (.ref v), (.ref a)])) _
  refine Go.via (fun _ => XS.aloadN X175.here hx rfl (hb hby d10_16) rfl rfl) ?_
  have f176 : Fld Z h172 a cAL "size" "I" (.int (2 : Int32)) := (P3.other W172 (Or.inr (slot_ne (Or.inl (tw hw 70 rfl)) (Or.inl (tw hw 39 rfl)) (by decide) (t := .int) (t' := .int) (by decide) (by decide))))
  obtain ⟨T177, X177, e177, st177⟩ := getF X175 hx hZ hown (host := "") (Or.inl (tw hw 69 rfl)) Via.refl e175 f176 (g := (mkF m 17 #[vr a, vr v] [(.ref a), (.ref d), (.ref v), (.ref a)])) rfl rfl (hb hby d10_17)
  refine Go.via (st177) ?_
  clear st177
  clear X175 e175
  show Go p e below (T177.setTop (mkF m 20 #[vr a, vr v] [(.int (2 : Int32)), (.ref d), (.ref v), (.ref a)])) _
  have f178 : Exa Z h172 a cAL := (P0.wr W172)
  have f179 : Ra Z h172 d cOB [(.ref x0), (.ref x1), .null, .null, .null, .null, .null, .null, .null, .null] := (P4.other W172 (Ne.symm had))
  have f180 : Exa Z h172 v cIN := (P5.wr W172)
  have z182 : n0 ≤ h172.size := (Nat.le_trans Z0 (Keep.of_wr W172).1)
  obtain ⟨cq181, q181, q181'⟩ := f178.cell
  obtain ⟨r181, _, ⟨T181, L181, k181, n181⟩, -, X181, ⟨Lc181, hQ181, l181, y181, z181⟩, st181⟩ := X177.privateBack hx (y := (⟨cAL, "add", "(Ljava/lang/Object;[Ljava/lang/Object;I)V"⟩ : MethodName)) hown (mvT hZ (tw hw 81 rfl)) (mvT hZ (tw hw 82 rfl)) (selP hZ (tw hw 20 rfl) (tw hw 83 rfl) (tw hw 82 rfl) (by decide)) (Cond.privateMethod_at (mvP hZ (tw hw 83 rfl) (args := #[]))) (mvT hZ (tw hw 85 rfl)) (by decide) (backOf (W := 0) (rmA3_2 l Z a0 hw [] a v d (2 : Int32) (mc + (1 : Int32)) x0 x1 h172 n0 z182 f178 f173 f174 f176 f179 f180 g_a g_d had rfl) hZ (tw hw 85 rfl) (tw hw 21 rfl) (by decide) (by decide)) (g := (mkF m 20 #[vr a, vr v] [(.int (2 : Int32)), (.ref d), (.ref v), (.ref a)])) rfl (by rw [hml]; rfl) (Steps.refl _) (a := a) (by rw [e177]; exact q181) q181' (argsL := [(.ref v), (.ref d), (.int (2 : Int32))]) (rest := []) (lenOf pd__28Ljava_2flang_2fObject_3b_5bLjava_2flang_2fObject_3bI_29V rfl) rfl (by show 2 * 0 + _ ≤ _; exact Nat.le_of_eq rfl) (hb hby d10_20) (fun _ _ => ⟨rfl, e177, (by decide : 0 + 0 ≤ _), (by decide : 0 + 0 ≤ _)⟩)
  dsimp only [Pt.U, Pt.locs, Pt.cells, Pt.slots] at X181 l181 y181 z181 st181 hQ181
  rw [l181, y181, z181] at X181
  clear l181 y181 z181
  obtain ⟨hr181, N181q, K181q, f183, f184, f185, f186, f187⟩ := hQ181
  rw [hr181] at st181
  clear hr181
  have N181 := Fr.app N172 N181q
  refine Go.via (fun _ kQ => st181.trans kQ) ?_
  clear st181
  have e181 : T181.heap = T181.heap := rfl
  have f188 : Exa Z T181.heap a cAL := f183
  have f189 : Fld Z T181.heap a cAB "modCount" "I" (.int (mc + (1 : Int32))) := f184
  have f190 : Fld Z T181.heap a cAL "elementData" cOA (.ref d) := f185
  have f191 : Fld Z T181.heap a cAL "size" "I" (.int (3 : Int32)) := f186
  have f192 : Ra Z T181.heap d cOB [(.ref x0), (.ref x1), (.ref v), .null, .null, .null, .null, .null, .null, .null] := f187
  clear X177 e177
  show Go p e below (T181.setTop (mkF m 23 #[vr a, vr v] [])) _
  refine Go.via (fun _ => XS.iconst X181.here hx rfl (hb hby d10_23)) ?_
  have k193 : Keep h0 T181.heap [a, d] := (((Keep.refl h0 [a, d]).wr W172 (Or.inl (List.mem_of_getElem? (i := 0) rfl))).trans K181q (allS (Or.inl (List.mem_of_getElem? (i := 0) rfl)) (allS (Or.inl (List.mem_of_getElem? (i := 1) rfl)) all0)))
  exact Go.fin X181 hlk (v := some (.int (1 : Int32))) (fun h => by rw [Bd.returns] at h; cases h) (fun fs hr => retN X181 hx (t := .boolean) Bd.returns (by simp) (hb hby d10_24) hr) (by exact ⟨rfl, N181, k193, f188, f189, f190, f191, f192⟩) (by decide) (by decide)
theorem d20_0 : decode jdk_41_method_11_code 0 = .ok (.iload_n 0, 1) := by decide +kernel
theorem d20_1 : decode jdk_41_method_11_code 1 = .ok (.ifCond .lt 8, 3) := by decide +kernel
theorem d20_4 : decode jdk_41_method_11_code 4 = .ok (.iload_n 0, 1) := by decide +kernel
theorem d20_5 : decode jdk_41_method_11_code 5 = .ok (.iload_n 1, 1) := by decide +kernel
theorem d20_6 : decode jdk_41_method_11_code 6 = .ok (.if_icmp .lt 10, 3) := by decide +kernel
theorem d20_16 : decode jdk_41_method_11_code 16 = .ok (.iload_n 0, 1) := by decide +kernel
theorem d20_17 : decode jdk_41_method_11_code 17 = .ok (.ireturn, 1) := by decide +kernel
theorem pn_20 : plainName "jdk/internal/util/Preconditions" = true := by first | (simp [plainName, overriddenIn]; done) | decide +kernel
theorem ef_20n2 (m : MethodId) (x0 : Int32) (x1 : Int32) : entryFrame m #[(.int x0), (.int x1), .null] 3 = mkF m 0 #[.val (.int x0), .val (.int x1), .val .null] [] := by first | (simp [entryFrame, mkF, argsToLocals, Value.category]; done) | rfl
def Q_rmPc (Z : State) (i : Int32) (n : Int32)  (h0 : Heap) (n0 : Nat) (vQ : Option Value) (hQ : Heap) (LQ : List Loc) : Prop := vQ = some (.int i) ∧ Fr n0 LQ ∧ hQ = h0
set_option maxRecDepth 65536 in
set_option maxHeartbeats 40000000 in
theorem rmPc (l : Launch) (Z : State) (a0 : Array Value) (hw : ∀ d ∈ tables_1, d.before a0 Z = true) (ws : List Jvm.Cond) (i : Int32) (n : Int32)  (h0 : Heap) (n0 : Nat) (Z0 : n0 ≤ h0.size) (hi0 : ¬ i < (0 : Int32)) (hlt : i < n) :
    MetFree l (⟨"jdk/internal/util/Preconditions", "checkIndex", "(IILjava/util/function/BiFunction;)I"⟩ : MethodName) (head1 (Jvm.Cond.code (⟨"jdk/internal/util/Preconditions", "checkIndex", "(IILjava/util/function/BiFunction;)I"⟩ : MethodName) jdk_41_method_11_code 3 (some .int) :: ws) ({ frames := 0, cells := 0, slots := 0, locals := 0 } : Room)) (fun aQ UQ => aQ = #[(.int i), (.int n), .null] ∧ Z.Warmed39 UQ.vm ∧ UQ.heap = h0) (fun _ _ _ _ _ => True) (fun _ UQ oQ UR => ∃ vQ LQ, oQ = .returned vQ ∧ Q_rmPc Z i n  h0 n0 vQ UR.heap LQ ∧ FrameEnd UQ oQ UR LQ ({ frames := 0, cells := 0, slots := 0, locals := 0 } : Room).cells ({ frames := 0, cells := 0, slots := 0, locals := 0 } : Room).slots) := by
  refine MetFree.of_bodySF (plainFor_of_name pn_20) hisR ?_
  intro p e s m args below meth c s₁ Bd hml0 hP hK
  obtain ⟨rfl, hZ, hh⟩ := hP
  have hx := Bd.exec
  have hby := Bd.bytes
  have hlk := Bd.notSynchronized
  have hml : c.maxLocals = 3 := hml0
  have hown : s.vm.findClass "jdk/internal/util/Preconditions" = some m.cls := findClass_of_methodNamed Bd.named
  have hnm := (name_of_methodNamed Bd.named Bd.method).1
  have X0 : Stand p l e ({ frames := 0, cells := 0, slots := 0, locals := 0 } : Room) s m #[(.int i), (.int n), .null] below meth c s₁ [] 0 0 := Stand.of_body Bd
  have e0 : s₁.heap = h0 := by rw [← hh, Bd.state]; rfl
  have N0 := Fr.nil n0
  show Go p e below _ (Done s (Q_rmPc Z i n  h0 n0) ({ frames := 0, cells := 0, slots := 0, locals := 0 } : Room).cells ({ frames := 0, cells := 0, slots := 0, locals := 0 } : Room).slots)
  refine Go.via (fun tQ kQ => castTop (ef_20n2 m i n) kQ) ?_
  show Go p e below (s₁.setTop (mkF m 0 #[vi i, vi n, .val .null] [])) _
  refine Go.via (fun _ => XS.iloadN X0.here hx rfl (hb hby d20_0) rfl) ?_
  refine Go.via (fun _ => XS.ifNo X0.here hx rfl (hb hby d20_1) rfl ((if0 _ _).trans (flt (hi0 : ¬ (i < (0 : Int32)))).1)) ?_
  refine Go.via (fun _ => XS.iloadN X0.here hx rfl (hb hby d20_4) rfl) ?_
  refine Go.via (fun _ => XS.iloadN X0.here hx rfl (hb hby d20_5) rfl) ?_
  refine Go.via (fun _ => XS.icmpYes X0.here hx rfl (pc0 := 6) (pc' := 16) rfl (hb hby d20_6) rfl (tlt (hlt : i < n)).1 (by decide) (by decide)) ?_
  refine Go.via (fun _ => XS.iloadN X0.here hx rfl (hb hby d20_16) rfl) ?_
  exact Go.fin X0 hlk (v := some (.int i)) (fun h => by rw [Bd.returns] at h; cases h) (fun fs hr => OwnKit.retI X0 hx Bd.returns (hb hby d20_17) hr) (by rw [e0]; exact ⟨rfl, N0, rfl⟩) (by decide) (by decide)
theorem d19_0 : decode jdk_31_method_17_code 0 = .ok (.iload_n 0, 1) := by decide +kernel
theorem d19_1 : decode jdk_31_method_17_code 1 = .ok (.iload_n 1, 1) := by decide +kernel
theorem d19_2 : decode jdk_31_method_17_code 2 = .ok (.aconst_null, 1) := by decide +kernel
theorem d19_3 : decode jdk_31_method_17_code 3 = .ok (.invokestatic 105, 3) := by decide +kernel
theorem pd__28IILjava_2futil_2ffunction_2fBiFunction_3b_29I : parseMethodDescriptor "(IILjava/util/function/BiFunction;)I" = some ⟨[.int, .int, (.object "java/util/function/BiFunction")], some .int⟩ := by decide +kernel
theorem d19_6 : decode jdk_31_method_17_code 6 = .ok (.ireturn, 1) := by decide +kernel
theorem pn_19 : plainName "java/util/Objects" = true := by first | (simp [plainName, overriddenIn]; done) | decide +kernel
theorem ef_19 (m : MethodId) (x0 : Int32) (x1 : Int32) : entryFrame m #[(.int x0), (.int x1)] 2 = mkF m 0 #[.val (.int x0), .val (.int x1)] [] := by first | (simp [entryFrame, mkF, argsToLocals, Value.category]; done) | rfl
def Q_rmCi (Z : State) (i : Int32) (n : Int32)  (h0 : Heap) (n0 : Nat) (vQ : Option Value) (hQ : Heap) (LQ : List Loc) : Prop := vQ = some (.int i) ∧ Fr n0 LQ ∧ hQ = h0
set_option maxRecDepth 65536 in
set_option maxHeartbeats 40000000 in
theorem rmCi (l : Launch) (Z : State) (a0 : Array Value) (hw : ∀ d ∈ tables_1, d.before a0 Z = true) (ws : List Jvm.Cond) (i : Int32) (n : Int32)  (h0 : Heap) (n0 : Nat) (Z0 : n0 ≤ h0.size) (hi0 : ¬ i < (0 : Int32)) (hlt : i < n) :
    MetFree l (⟨"java/util/Objects", "checkIndex", "(II)I"⟩ : MethodName) (head1 (Jvm.Cond.code (⟨"java/util/Objects", "checkIndex", "(II)I"⟩ : MethodName) jdk_31_method_17_code 2 (some .int) :: ws) ({ frames := 1, cells := 0, slots := 0, locals := 14 } : Room)) (fun aQ UQ => aQ = #[(.int i), (.int n)] ∧ Z.Warmed39 UQ.vm ∧ UQ.heap = h0) (fun _ _ _ _ _ => True) (fun _ UQ oQ UR => ∃ vQ LQ, oQ = .returned vQ ∧ Q_rmCi Z i n  h0 n0 vQ UR.heap LQ ∧ FrameEnd UQ oQ UR LQ ({ frames := 1, cells := 0, slots := 0, locals := 14 } : Room).cells ({ frames := 1, cells := 0, slots := 0, locals := 14 } : Room).slots) := by
  refine MetFree.of_bodySF (plainFor_of_name pn_19) hisR ?_
  intro p e s m args below meth c s₁ Bd hml0 hP hK
  obtain ⟨rfl, hZ, hh⟩ := hP
  have hx := Bd.exec
  have hby := Bd.bytes
  have hlk := Bd.notSynchronized
  have hml : c.maxLocals = 2 := hml0
  have hown : s.vm.findClass "java/util/Objects" = some m.cls := findClass_of_methodNamed Bd.named
  have hnm := (name_of_methodNamed Bd.named Bd.method).1
  have X0 : Stand p l e ({ frames := 1, cells := 0, slots := 0, locals := 14 } : Room) s m #[(.int i), (.int n)] below meth c s₁ [] 0 0 := Stand.of_body Bd
  have e0 : s₁.heap = h0 := by rw [← hh, Bd.state]; rfl
  have N0 := Fr.nil n0
  show Go p e below _ (Done s (Q_rmCi Z i n  h0 n0) ({ frames := 1, cells := 0, slots := 0, locals := 14 } : Room).cells ({ frames := 1, cells := 0, slots := 0, locals := 14 } : Room).slots)
  refine Go.via (fun tQ kQ => castTop (ef_19 m i n) kQ) ?_
  show Go p e below (s₁.setTop (mkF m 0 #[vi i, vi n] [])) _
  refine Go.via (fun _ => XS.iloadN X0.here hx rfl (hb hby d19_0) rfl) ?_
  refine Go.via (fun _ => XS.iloadN X0.here hx rfl (hb hby d19_1) rfl) ?_
  refine Go.via (fun _ => XS.aconstNull X0.here hx rfl (hb hby d19_2)) ?_
  show Go p e below (s₁.setTop (mkF m 3 #[vi i, vi n] [.null, (.int n), (.int i)])) _
  obtain ⟨r194, _, ⟨T194, L194, k194, n194⟩, -, X194, ⟨Lc194, hQ194, l194, y194, z194⟩, st194⟩ := Jvm.LawKit.callS X0 hx (y := (⟨"jdk/internal/util/Preconditions", "checkIndex", "(IILjava/util/function/BiFunction;)I"⟩ : MethodName)) hown (mvT hZ (tw hw 138 rfl)) (mvT hZ (tw hw 139 rfl)) (mvT hZ (tw hw 140 rfl)) (mvT hZ (tw hw 141 rfl)) (by decide) (backOf (W := 0) (rmPc l Z a0 hw [] i n  h0 n0 Z0 hi0 hlt) hZ (tw hw 141 rfl) (tw hw 140 rfl) (by decide) (by decide)) (g := (mkF m 3 #[vi i, vi n] [.null, (.int n), (.int i)])) rfl (by rw [hml]; rfl) (argsL := [(.int i), (.int n), .null]) (rest := []) (lenOf pd__28IILjava_2futil_2ffunction_2fBiFunction_3b_29I rfl) rfl (by show 2 * 0 + _ ≤ _; exact Nat.le_of_eq rfl) (hb hby d19_3) (fun _ _ => ⟨rfl, e0, (by decide : 0 + 0 ≤ _), (by decide : 0 + 0 ≤ _)⟩)
  dsimp only [Pt.U, Pt.locs, Pt.cells, Pt.slots] at X194 l194 y194 z194 st194 hQ194
  rw [l194, y194, z194] at X194
  clear l194 y194 z194
  obtain ⟨hr194, N194q, eh194⟩ := hQ194
  rw [hr194] at st194
  clear hr194
  have N194 := Fr.app N0 N194q
  refine Go.via (st194) ?_
  clear st194
  have e194 : T194.heap = h0 := eh194
  clear X0 e0
  show Go p e below (T194.setTop (mkF m 6 #[vi i, vi n] [(.int i)])) _
  exact Go.fin X194 hlk (v := some (.int i)) (fun h => by rw [Bd.returns] at h; cases h) (fun fs hr => OwnKit.retI X194 hx Bd.returns (hb hby d19_6) hr) (by rw [e194]; exact ⟨rfl, N194, rfl⟩) (by decide) (by decide)
theorem d21_0 : decode jdk_38_method_18_code 0 = .ok (.aload_n 0, 1) := by decide +kernel
theorem d21_1 : decode jdk_38_method_18_code 1 = .ok (.getfield 9, 3) := by decide +kernel
theorem d21_4 : decode jdk_38_method_18_code 4 = .ok (.iload_n 1, 1) := by decide +kernel
theorem d21_5 : decode jdk_38_method_18_code 5 = .ok (.aaload, 1) := by decide +kernel
theorem d21_6 : decode jdk_38_method_18_code 6 = .ok (.areturn, 1) := by decide +kernel
theorem pn_21 : plainName cAL = true := by first | (simp [plainName, overriddenIn]; done) | decide +kernel
theorem ef_21 (m : MethodId) (x0 : Addr) (x1 : Int32) : entryFrame m #[(.ref x0), (.int x1)] 2 = mkF m 0 #[.val (.ref x0), .val (.int x1)] [] := by first | (simp [entryFrame, mkF, argsToLocals, Value.category]; done) | rfl
def Q_rmEd (Z : State) (a : Addr) (i : Int32) (d : Addr) (vs : List Value) (y : Addr) (h0 : Heap) (n0 : Nat) (vQ : Option Value) (hQ : Heap) (LQ : List Loc) : Prop := vQ = some (.ref y) ∧ Fr n0 LQ ∧ hQ = h0
set_option maxRecDepth 65536 in
set_option maxHeartbeats 40000000 in
theorem rmEd (l : Launch) (Z : State) (a0 : Array Value) (hw : ∀ d ∈ tables_1, d.before a0 Z = true) (ws : List Jvm.Cond) (a : Addr) (i : Int32) (d : Addr) (vs : List Value) (y : Addr) (h0 : Heap) (n0 : Nat) (Z0 : n0 ≤ h0.size) (P0 : Fld Z h0 a cAL "elementData" cOA (.ref d)) (P1 : Ra Z h0 d cOB vs) (hi0 : ¬ i < 0) (hv : vs[i.toNatClampNeg]? = some (.ref y)) :
    MetFree l (⟨cAL, "elementData", "(I)Ljava/lang/Object;"⟩ : MethodName) (head1 (Jvm.Cond.code (⟨cAL, "elementData", "(I)Ljava/lang/Object;"⟩ : MethodName) jdk_38_method_18_code 2 (some (.object cOB)) :: ws) ({ frames := 0, cells := 0, slots := 0, locals := 0 } : Room)) (fun aQ UQ => aQ = #[(.ref a), (.int i)] ∧ Z.Warmed39 UQ.vm ∧ UQ.heap = h0) (fun _ _ _ _ _ => True) (fun _ UQ oQ UR => ∃ vQ LQ, oQ = .returned vQ ∧ Q_rmEd Z a i d vs y h0 n0 vQ UR.heap LQ ∧ FrameEnd UQ oQ UR LQ ({ frames := 0, cells := 0, slots := 0, locals := 0 } : Room).cells ({ frames := 0, cells := 0, slots := 0, locals := 0 } : Room).slots) := by
  refine MetFree.of_bodySF (plainFor_of_name pn_21) hisR ?_
  intro p e s m args below meth c s₁ Bd hml0 hP hK
  obtain ⟨rfl, hZ, hh⟩ := hP
  have hx := Bd.exec
  have hby := Bd.bytes
  have hlk := Bd.notSynchronized
  have hml : c.maxLocals = 2 := hml0
  have hown : s.vm.findClass cAL = some m.cls := findClass_of_methodNamed Bd.named
  have hnm := (name_of_methodNamed Bd.named Bd.method).1
  have X0 : Stand p l e ({ frames := 0, cells := 0, slots := 0, locals := 0 } : Room) s m #[(.ref a), (.int i)] below meth c s₁ [] 0 0 := Stand.of_body Bd
  have e0 : s₁.heap = h0 := by rw [← hh, Bd.state]; rfl
  have N0 := Fr.nil n0
  show Go p e below _ (Done s (Q_rmEd Z a i d vs y h0 n0) ({ frames := 0, cells := 0, slots := 0, locals := 0 } : Room).cells ({ frames := 0, cells := 0, slots := 0, locals := 0 } : Room).slots)
  refine Go.via (fun tQ kQ => castTop (ef_21 m a i) kQ) ?_
  show Go p e below (s₁.setTop (mkF m 0 #[vr a, vi i] [])) _
  refine Go.via (fun _ => XS.aloadN X0.here hx rfl (hb hby d21_0) rfl rfl) ?_
  obtain ⟨T195, X195, e195, st195⟩ := getF X0 hx hZ hown (host := "") (Or.inl (tw hw 41 rfl)) Via.refl e0 P0 (g := (mkF m 1 #[vr a, vi i] [(.ref a)])) rfl rfl (hb hby d21_1)
  refine Go.via (st195) ?_
  clear st195
  clear X0 e0
  show Go p e below (T195.setTop (mkF m 4 #[vr a, vi i] [(.ref d)])) _
  refine Go.via (fun _ => XS.iloadN X195.here hx rfl (hb hby d21_4) rfl) ?_
  refine Go.via (ldR X195 hx hZ e195 P1 (v := (.ref y)) hi0 hv (g := (mkF m 5 #[vr a, vi i] [(.int i), (.ref d)])) rfl rfl (hb hby d21_5)) ?_
  show Go p e below (T195.setTop (mkF m 6 #[vr a, vi i] [(.ref y)])) _
  exact Go.fin X195 hlk (v := some (.ref y)) (fun h => by rw [Bd.returns] at h; cases h) (fun fs hr => retOut X195 hx Bd.returns rfl (Or.inr (Or.inr (Or.inr (Or.inr ⟨rfl, rfl, rfl⟩)))) (hb hby d21_6) hr) (by rw [e195]; exact ⟨rfl, N0, rfl⟩) (by decide) (by decide)
theorem d18_0 : decode jdk_38_method_20_code 0 = .ok (.iload_n 1, 1) := by decide +kernel
theorem d18_1 : decode jdk_38_method_20_code 1 = .ok (.aload_n 0, 1) := by decide +kernel
theorem d18_2 : decode jdk_38_method_20_code 2 = .ok (.getfield 48, 3) := by decide +kernel
theorem d18_5 : decode jdk_38_method_20_code 5 = .ok (.invokestatic 118, 3) := by decide +kernel
theorem d18_8 : decode jdk_38_method_20_code 8 = .ok (.pop, 1) := by decide +kernel
theorem d18_9 : decode jdk_38_method_20_code 9 = .ok (.aload_n 0, 1) := by decide +kernel
theorem d18_10 : decode jdk_38_method_20_code 10 = .ok (.iload_n 1, 1) := by decide +kernel
theorem d18_11 : decode jdk_38_method_20_code 11 = .ok (.invokevirtual 123, 3) := by decide +kernel
theorem pd__28I_29Ljava_2flang_2fObject_3b : parseMethodDescriptor "(I)Ljava/lang/Object;" = some ⟨[.int], some (.object cOB)⟩ := by decide +kernel
theorem d18_14 : decode jdk_38_method_20_code 14 = .ok (.areturn, 1) := by decide +kernel
theorem pn_18 : plainName cAL = true := by first | (simp [plainName, overriddenIn]; done) | decide +kernel
theorem ef_18 (m : MethodId) (x0 : Addr) (x1 : Int32) : entryFrame m #[(.ref x0), (.int x1)] 2 = mkF m 0 #[.val (.ref x0), .val (.int x1)] [] := by first | (simp [entryFrame, mkF, argsToLocals, Value.category]; done) | rfl
def Q_rmGt (Z : State) (a : Addr) (i : Int32) (d : Addr) (vs : List Value) (y : Addr) (sz : Int32) (h0 : Heap) (n0 : Nat) (vQ : Option Value) (hQ : Heap) (LQ : List Loc) : Prop := vQ = some (.ref y) ∧ Fr n0 LQ ∧ hQ = h0
set_option maxRecDepth 65536 in
set_option maxHeartbeats 40000000 in
theorem rmGt (l : Launch) (Z : State) (a0 : Array Value) (hw : ∀ d ∈ tables_1, d.before a0 Z = true) (ws : List Jvm.Cond) (a : Addr) (i : Int32) (d : Addr) (vs : List Value) (y : Addr) (sz : Int32) (h0 : Heap) (n0 : Nat) (Z0 : n0 ≤ h0.size) (P0 : Fld Z h0 a cAL "elementData" cOA (.ref d)) (P1 : Fld Z h0 a cAL "size" "I" (.int sz)) (P2 : Ra Z h0 d cOB vs) (P3 : Exa Z h0 a cAL) (hi0 : ¬ i < (0 : Int32)) (hlt : i < sz) (hv : vs[i.toNatClampNeg]? = some (.ref y)) :
    MetFree l (⟨cAL, "get", "(I)Ljava/lang/Object;"⟩ : MethodName) (head1 (Jvm.Cond.code (⟨cAL, "get", "(I)Ljava/lang/Object;"⟩ : MethodName) jdk_38_method_20_code 2 (some (.object cOB)) :: ws) ({ frames := 2, cells := 0, slots := 0, locals := 27 } : Room)) (fun aQ UQ => aQ = #[(.ref a), (.int i)] ∧ Z.Warmed39 UQ.vm ∧ UQ.heap = h0) (fun _ _ _ _ _ => True) (fun _ UQ oQ UR => ∃ vQ LQ, oQ = .returned vQ ∧ Q_rmGt Z a i d vs y sz h0 n0 vQ UR.heap LQ ∧ FrameEnd UQ oQ UR LQ ({ frames := 2, cells := 0, slots := 0, locals := 27 } : Room).cells ({ frames := 2, cells := 0, slots := 0, locals := 27 } : Room).slots) := by
  refine MetFree.of_bodySF (plainFor_of_name pn_18) hisR ?_
  intro p e s m args below meth c s₁ Bd hml0 hP hK
  obtain ⟨rfl, hZ, hh⟩ := hP
  have hx := Bd.exec
  have hby := Bd.bytes
  have hlk := Bd.notSynchronized
  have hml : c.maxLocals = 2 := hml0
  have hown : s.vm.findClass cAL = some m.cls := findClass_of_methodNamed Bd.named
  have hnm := (name_of_methodNamed Bd.named Bd.method).1
  have X0 : Stand p l e ({ frames := 2, cells := 0, slots := 0, locals := 27 } : Room) s m #[(.ref a), (.int i)] below meth c s₁ [] 0 0 := Stand.of_body Bd
  have e0 : s₁.heap = h0 := by rw [← hh, Bd.state]; rfl
  have N0 := Fr.nil n0
  show Go p e below _ (Done s (Q_rmGt Z a i d vs y sz h0 n0) ({ frames := 2, cells := 0, slots := 0, locals := 27 } : Room).cells ({ frames := 2, cells := 0, slots := 0, locals := 27 } : Room).slots)
  refine Go.via (fun tQ kQ => castTop (ef_18 m a i) kQ) ?_
  show Go p e below (s₁.setTop (mkF m 0 #[vr a, vi i] [])) _
  refine Go.via (fun _ => XS.iloadN X0.here hx rfl (hb hby d18_0) rfl) ?_
  refine Go.via (fun _ => XS.aloadN X0.here hx rfl (hb hby d18_1) rfl rfl) ?_
  obtain ⟨T196, X196, e196, st196⟩ := getF X0 hx hZ hown (host := "") (Or.inl (tw hw 69 rfl)) Via.refl e0 P1 (g := (mkF m 2 #[vr a, vi i] [(.ref a), (.int i)])) rfl rfl (hb hby d18_2)
  refine Go.via (st196) ?_
  clear st196
  clear X0 e0
  show Go p e below (T196.setTop (mkF m 5 #[vr a, vi i] [(.int sz), (.int i)])) _
  obtain ⟨r197, _, ⟨T197, L197, k197, n197⟩, -, X197, ⟨Lc197, hQ197, l197, y197, z197⟩, st197⟩ := Jvm.LawKit.callS X196 hx (y := (⟨"java/util/Objects", "checkIndex", "(II)I"⟩ : MethodName)) hown (mvT hZ (tw hw 134 rfl)) (mvT hZ (tw hw 135 rfl)) (mvT hZ (tw hw 136 rfl)) (mvT hZ (tw hw 137 rfl)) (by decide) (backOf (W := 0) (rmCi l Z a0 hw [] i sz  h0 n0 Z0 hi0 hlt) hZ (tw hw 137 rfl) (tw hw 136 rfl) (by decide) (by decide)) (g := (mkF m 5 #[vr a, vi i] [(.int sz), (.int i)])) rfl (by rw [hml]; rfl) (argsL := [(.int i), (.int sz)]) (rest := []) (lenOf pd__28II_29I rfl) rfl (by show 2 * 0 + _ ≤ _; exact Nat.le_of_eq rfl) (hb hby d18_5) (fun _ _ => ⟨rfl, e196, (by decide : 0 + 0 ≤ _), (by decide : 0 + 0 ≤ _)⟩)
  dsimp only [Pt.U, Pt.locs, Pt.cells, Pt.slots] at X197 l197 y197 z197 st197 hQ197
  rw [l197, y197, z197] at X197
  clear l197 y197 z197
  obtain ⟨hr197, N197q, eh197⟩ := hQ197
  rw [hr197] at st197
  clear hr197
  have N197 := Fr.app N0 N197q
  refine Go.via (st197) ?_
  clear st197
  have e197 : T197.heap = h0 := eh197
  clear X196 e196
  show Go p e below (T197.setTop (mkF m 8 #[vr a, vi i] [(.int i)])) _
  refine Go.via (fun _ => XS.pop X197.here hx rfl (hb hby d18_8) rfl rfl) ?_
  show Go p e below (T197.setTop (mkF m 9 #[vr a, vi i] [])) _
  refine Go.via (fun _ => XS.aloadN X197.here hx rfl (hb hby d18_9) rfl rfl) ?_
  refine Go.via (fun _ => XS.iloadN X197.here hx rfl (hb hby d18_10) rfl) ?_
  obtain ⟨cq198, kq198, q198a, q198b, q198c⟩ := isOf hZ e197 P3
  obtain ⟨r198, _, ⟨T198, L198, k198, n198⟩, -, X198, ⟨Lc198, hQ198, l198, y198, z198⟩, st198⟩ := X197.virtualBack hx (y := (⟨cAL, "elementData", "(I)Ljava/lang/Object;"⟩ : MethodName)) (z := (⟨cAL, "elementData", "(I)Ljava/lang/Object;"⟩ : MethodName)) hown (mvT hZ (tw hw 142 rfl)) (mvT hZ (tw hw 143 rfl)) (notFace_of_selects (args := #[]) (mvT hZ (tw hw 145 rfl))) (mvT hZ (tw hw 145 rfl)) (mvT hZ (tw hw 144 rfl)) (by decide) (backOf (W := 0) (rmEd l Z a0 hw [] a i d vs y h0 n0 Z0 P0 P2 hi0 hv) hZ (tw hw 146 rfl) (tw hw 21 rfl) (by decide) (by decide)) q198a q198c (g := (mkF m 11 #[vr a, vi i] [(.int i), (.ref a)])) rfl (by rw [hml]; rfl) (Steps.refl _) (argsL := [(.int i)]) (rest := []) (lenOf pd__28I_29Ljava_2flang_2fObject_3b rfl) rfl (by show 2 * 0 + _ ≤ _; exact Nat.le_of_eq rfl) (hb hby d18_11) (fun _ _ => ⟨rfl, e197, (by decide : 0 + 0 ≤ _), (by decide : 0 + 0 ≤ _)⟩)
  dsimp only [Pt.U, Pt.locs, Pt.cells, Pt.slots] at X198 l198 y198 z198 st198 hQ198
  rw [l198, y198, z198] at X198
  clear l198 y198 z198
  obtain ⟨hr198, N198q, eh198⟩ := hQ198
  rw [hr198] at st198
  clear hr198
  have N198 := Fr.app N197 N198q
  refine Go.via (fun _ kQ => st198.trans kQ) ?_
  clear st198
  have e198 : T198.heap = h0 := eh198
  clear X197 e197
  show Go p e below (T198.setTop (mkF m 14 #[vr a, vi i] [(.ref y)])) _
  exact Go.fin X198 hlk (v := some (.ref y)) (fun h => by rw [Bd.returns] at h; cases h) (fun fs hr => retOut X198 hx Bd.returns rfl (Or.inr (Or.inr (Or.inr (Or.inr ⟨rfl, rfl, rfl⟩)))) (hb hby d18_14) hr) (by rw [e198]; exact ⟨rfl, N198, rfl⟩) (by decide) (by decide)
theorem d22_0 : decode jdk_33_method_27_code 0 = .ok (.aload_n 0, 1) := by decide +kernel
theorem d22_1 : decode jdk_33_method_27_code 1 = .ok (.getfield 205, 3) := by decide +kernel
theorem d22_4 : decode jdk_33_method_27_code 4 = .ok (.ireturn, 1) := by decide +kernel
theorem pn_22 : plainName cIN = true := by first | (simp [plainName, overriddenIn]; done) | decide +kernel
theorem ef_22 (m : MethodId) (x0 : Addr) : entryFrame m #[(.ref x0)] 1 = mkF m 0 #[.val (.ref x0)] [] := by first | (simp [entryFrame, mkF, argsToLocals, Value.category]; done) | rfl
def Q_rmIv (Z : State) (a : Addr) (n : Int32) (h0 : Heap) (n0 : Nat) (vQ : Option Value) (hQ : Heap) (LQ : List Loc) : Prop := vQ = some (.int n) ∧ Fr n0 LQ ∧ hQ = h0
set_option maxRecDepth 65536 in
set_option maxHeartbeats 40000000 in
theorem rmIv (l : Launch) (Z : State) (a0 : Array Value) (hw : ∀ d ∈ tables_1, d.before a0 Z = true) (ws : List Jvm.Cond) (a : Addr) (n : Int32) (h0 : Heap) (n0 : Nat) (Z0 : n0 ≤ h0.size) (P0 : Fld Z h0 a cIN "value" "I" (.int n)) :
    MetFree l (⟨cIN, "intValue", "()I"⟩ : MethodName) (head1 (Jvm.Cond.code (⟨cIN, "intValue", "()I"⟩ : MethodName) jdk_33_method_27_code 1 (some .int) :: ws) ({ frames := 0, cells := 0, slots := 0, locals := 0 } : Room)) (fun aQ UQ => aQ = #[(.ref a)] ∧ Z.Warmed39 UQ.vm ∧ UQ.heap = h0) (fun _ _ _ _ _ => True) (fun _ UQ oQ UR => ∃ vQ LQ, oQ = .returned vQ ∧ Q_rmIv Z a n h0 n0 vQ UR.heap LQ ∧ FrameEnd UQ oQ UR LQ ({ frames := 0, cells := 0, slots := 0, locals := 0 } : Room).cells ({ frames := 0, cells := 0, slots := 0, locals := 0 } : Room).slots) := by
  refine MetFree.of_bodySF (plainFor_of_name pn_22) hisR ?_
  intro p e s m args below meth c s₁ Bd hml0 hP hK
  obtain ⟨rfl, hZ, hh⟩ := hP
  have hx := Bd.exec
  have hby := Bd.bytes
  have hlk := Bd.notSynchronized
  have hml : c.maxLocals = 1 := hml0
  have hown : s.vm.findClass cIN = some m.cls := findClass_of_methodNamed Bd.named
  have hnm := (name_of_methodNamed Bd.named Bd.method).1
  have X0 : Stand p l e ({ frames := 0, cells := 0, slots := 0, locals := 0 } : Room) s m #[(.ref a)] below meth c s₁ [] 0 0 := Stand.of_body Bd
  have e0 : s₁.heap = h0 := by rw [← hh, Bd.state]; rfl
  have N0 := Fr.nil n0
  show Go p e below _ (Done s (Q_rmIv Z a n h0 n0) ({ frames := 0, cells := 0, slots := 0, locals := 0 } : Room).cells ({ frames := 0, cells := 0, slots := 0, locals := 0 } : Room).slots)
  refine Go.via (fun tQ kQ => castTop (ef_22 m a) kQ) ?_
  show Go p e below (s₁.setTop (mkF m 0 #[vr a] [])) _
  refine Go.via (fun _ => XS.aloadN X0.here hx rfl (hb hby d22_0) rfl rfl) ?_
  obtain ⟨T199, X199, e199, st199⟩ := getF X0 hx hZ hown (host := "") (Or.inl (tw hw 154 rfl)) Via.refl e0 P0 (g := (mkF m 1 #[vr a] [(.ref a)])) rfl rfl (hb hby d22_1)
  refine Go.via (st199) ?_
  clear st199
  clear X0 e0
  show Go p e below (T199.setTop (mkF m 4 #[vr a] [(.int n)])) _
  exact Go.fin X199 hlk (v := some (.int n)) (fun h => by rw [Bd.returns] at h; cases h) (fun fs hr => OwnKit.retI X199 hx Bd.returns (hb hby d22_4) hr) (by rw [e199]; exact ⟨rfl, N0, rfl⟩) (by decide) (by decide)
theorem d8_0 : decode jdk_40_method_36_code 0 = .ok (.getstatic 90, 3) := by decide +kernel
theorem d8_3 : decode jdk_40_method_36_code 3 = .ok (.areturn, 1) := by decide +kernel
theorem pn_8 : plainName cLI = true := by first | (simp [plainName, overriddenIn]; done) | decide +kernel
theorem ef_8 (m : MethodId)  : entryFrame m #[] 0 = mkF m 0 #[] [] := by first | (simp [entryFrame, mkF, argsToLocals, Value.category]; done) | rfl
def Q_rmOf (Z : State)  (el : Addr) (h0 : Heap) (n0 : Nat) (vQ : Option Value) (hQ : Heap) (LQ : List Loc) : Prop := vQ = some (.ref el) ∧ Fr n0 LQ ∧ hQ = h0
set_option maxRecDepth 65536 in
set_option maxHeartbeats 40000000 in
theorem rmOf (l : Launch) (Z : State) (a0 : Array Value) (hw : ∀ d ∈ tables_1, d.before a0 Z = true) (ws : List Jvm.Cond)  (el : Addr) (h0 : Heap) (n0 : Nat) (Z0 : n0 ≤ h0.size) (P0 : Old Z n0 h0) (zL : Sta Z Z.heap cIM "EMPTY_LIST" "Ljava/util/ImmutableCollections$ListN;" (.ref el)) :
    MetFree l (⟨cLI, "of", "()Ljava/util/List;"⟩ : MethodName) (head1 (Jvm.Cond.code (⟨cLI, "of", "()Ljava/util/List;"⟩ : MethodName) jdk_40_method_36_code 0 (some (.object cLI)) :: ws) ({ frames := 0, cells := 0, slots := 0, locals := 0 } : Room)) (fun aQ UQ => aQ = #[] ∧ Z.Warmed39 UQ.vm ∧ UQ.heap = h0) (fun _ _ _ _ _ => True) (fun _ UQ oQ UR => ∃ vQ LQ, oQ = .returned vQ ∧ Q_rmOf Z  el h0 n0 vQ UR.heap LQ ∧ FrameEnd UQ oQ UR LQ ({ frames := 0, cells := 0, slots := 0, locals := 0 } : Room).cells ({ frames := 0, cells := 0, slots := 0, locals := 0 } : Room).slots) := by
  refine MetFree.of_bodySF (plainFor_of_name pn_8) hisR ?_
  intro p e s m args below meth c s₁ Bd hml0 hP hK
  obtain ⟨rfl, hZ, hh⟩ := hP
  have hx := Bd.exec
  have hby := Bd.bytes
  have hlk := Bd.notSynchronized
  have hml : c.maxLocals = 0 := hml0
  have hown : s.vm.findClass cLI = some m.cls := findClass_of_methodNamed Bd.named
  have hnm := (name_of_methodNamed Bd.named Bd.method).1
  have X0 : Stand p l e ({ frames := 0, cells := 0, slots := 0, locals := 0 } : Room) s m #[] below meth c s₁ [] 0 0 := Stand.of_body Bd
  have e0 : s₁.heap = h0 := by rw [← hh, Bd.state]; rfl
  have N0 := Fr.nil n0
  show Go p e below _ (Done s (Q_rmOf Z  el h0 n0) ({ frames := 0, cells := 0, slots := 0, locals := 0 } : Room).cells ({ frames := 0, cells := 0, slots := 0, locals := 0 } : Room).slots)
  show Go p e below (s₁.setTop (mkF m 0 #[] [])) _
  have f200 : Sta Z h0 cIM "EMPTY_LIST" "Ljava/util/ImmutableCollections$ListN;" (.ref el) := zL.ext P0.2
  obtain ⟨T201, X201, e201, st201⟩ := getS2 X0 hx hZ hown (host := "") (Or.inl (tw hw 58 rfl)) Via.refl e0 f200 (g := (mkF m 0 #[] [])) rfl (hb hby d8_0)
  refine Go.via (st201) ?_
  clear st201
  clear X0 e0
  show Go p e below (T201.setTop (mkF m 3 #[] [(.ref el)])) _
  exact Go.fin X201 hlk (v := some (.ref el)) (fun h => by rw [Bd.returns] at h; cases h) (fun fs hr => retOut X201 hx Bd.returns rfl (Or.inr (Or.inr (Or.inr (Or.inr ⟨rfl, rfl, rfl⟩)))) (hb hby d8_3) hr) (by rw [e201]; exact ⟨rfl, N0, rfl⟩) (by decide) (by decide)
theorem d15_0 : decode jdk_45_method_3_code 0 = .ok (.aload_n 0, 1) := by decide +kernel
theorem d15_1 : decode jdk_45_method_3_code 1 = .ok (.getfield 7, 3) := by decide +kernel
theorem d15_4 : decode jdk_45_method_3_code 4 = .ok (.arraylength, 1) := by decide +kernel
theorem d15_5 : decode jdk_45_method_3_code 5 = .ok (.ireturn, 1) := by decide +kernel
theorem pn_15 : plainName cLN = true := by first | (simp [plainName, overriddenIn]; done) | decide +kernel
theorem ef_15 (m : MethodId) (x0 : Addr) : entryFrame m #[(.ref x0)] 1 = mkF m 0 #[.val (.ref x0)] [] := by first | (simp [entryFrame, mkF, argsToLocals, Value.category]; done) | rfl
def Q_rmNs (Z : State) (a : Addr) (ea : Addr) (h0 : Heap) (n0 : Nat) (vQ : Option Value) (hQ : Heap) (LQ : List Loc) : Prop := vQ = some (.int (0 : Int32)) ∧ Fr n0 LQ ∧ hQ = h0
set_option maxRecDepth 65536 in
set_option maxHeartbeats 40000000 in
theorem rmNs (l : Launch) (Z : State) (a0 : Array Value) (hw : ∀ d ∈ tables_1, d.before a0 Z = true) (ws : List Jvm.Cond) (a : Addr) (ea : Addr) (h0 : Heap) (n0 : Nat) (Z0 : n0 ≤ h0.size) (P0 : Fld Z h0 a cLN "elements" cOA (.ref ea)) (P1 : Rn Z h0 ea (0 : Int32)) :
    MetFree l (⟨cLN, "size", "()I"⟩ : MethodName) (head1 (Jvm.Cond.code (⟨cLN, "size", "()I"⟩ : MethodName) jdk_45_method_3_code 1 (some .int) :: ws) ({ frames := 0, cells := 0, slots := 0, locals := 0 } : Room)) (fun aQ UQ => aQ = #[(.ref a)] ∧ Z.Warmed39 UQ.vm ∧ UQ.heap = h0) (fun _ _ _ _ _ => True) (fun _ UQ oQ UR => ∃ vQ LQ, oQ = .returned vQ ∧ Q_rmNs Z a ea h0 n0 vQ UR.heap LQ ∧ FrameEnd UQ oQ UR LQ ({ frames := 0, cells := 0, slots := 0, locals := 0 } : Room).cells ({ frames := 0, cells := 0, slots := 0, locals := 0 } : Room).slots) := by
  refine MetFree.of_bodySF (plainFor_of_name pn_15) hisR ?_
  intro p e s m args below meth c s₁ Bd hml0 hP hK
  obtain ⟨rfl, hZ, hh⟩ := hP
  have hx := Bd.exec
  have hby := Bd.bytes
  have hlk := Bd.notSynchronized
  have hml : c.maxLocals = 1 := hml0
  have hown : s.vm.findClass cLN = some m.cls := findClass_of_methodNamed Bd.named
  have hnm := (name_of_methodNamed Bd.named Bd.method).1
  have X0 : Stand p l e ({ frames := 0, cells := 0, slots := 0, locals := 0 } : Room) s m #[(.ref a)] below meth c s₁ [] 0 0 := Stand.of_body Bd
  have e0 : s₁.heap = h0 := by rw [← hh, Bd.state]; rfl
  have N0 := Fr.nil n0
  show Go p e below _ (Done s (Q_rmNs Z a ea h0 n0) ({ frames := 0, cells := 0, slots := 0, locals := 0 } : Room).cells ({ frames := 0, cells := 0, slots := 0, locals := 0 } : Room).slots)
  refine Go.via (fun tQ kQ => castTop (ef_15 m a) kQ) ?_
  show Go p e below (s₁.setTop (mkF m 0 #[vr a] [])) _
  refine Go.via (fun _ => XS.aloadN X0.here hx rfl (hb hby d15_0) rfl rfl) ?_
  obtain ⟨T202, X202, e202, st202⟩ := getF X0 hx hZ hown (host := "") (Or.inl (tw hw 113 rfl)) Via.refl e0 P0 (g := (mkF m 1 #[vr a] [(.ref a)])) rfl rfl (hb hby d15_1)
  refine Go.via (st202) ?_
  clear st202
  clear X0 e0
  show Go p e below (T202.setTop (mkF m 4 #[vr a] [(.ref ea)])) _
  refine Go.via (lenN X202 hx hZ e202 P1 (g := (mkF m 4 #[vr a] [(.ref ea)])) rfl rfl (hb hby d15_4)) ?_
  show Go p e below (T202.setTop (mkF m 5 #[vr a] [(.int (0 : Int32))])) _
  exact Go.fin X202 hlk (v := some (.int (0 : Int32))) (fun h => by rw [Bd.returns] at h; cases h) (fun fs hr => OwnKit.retI X202 hx Bd.returns (hb hby d15_5) hr) (by rw [e202]; exact ⟨rfl, N0, rfl⟩) (by decide) (by decide)
theorem d1_0 : decode jdk_33_method_22_code 0 = .ok (.iload_n 0, 1) := by decide +kernel
theorem d1_1 : decode jdk_33_method_22_code 1 = .ok (.bipush (-128), 2) := by decide +kernel
theorem d1_3 : decode jdk_33_method_22_code 3 = .ok (.if_icmp .lt 20, 3) := by decide +kernel
theorem d1_6 : decode jdk_33_method_22_code 6 = .ok (.iload_n 0, 1) := by decide +kernel
theorem d1_7 : decode jdk_33_method_22_code 7 = .ok (.getstatic 191, 3) := by decide +kernel
theorem d1_10 : decode jdk_33_method_22_code 10 = .ok (.if_icmp .gt 13, 3) := by decide +kernel
theorem d1_13 : decode jdk_33_method_22_code 13 = .ok (.getstatic 195, 3) := by decide +kernel
theorem d1_16 : decode jdk_33_method_22_code 16 = .ok (.iload_n 0, 1) := by decide +kernel
theorem d1_17 : decode jdk_33_method_22_code 17 = .ok (.sipush 128, 3) := by decide +kernel
theorem d1_20 : decode jdk_33_method_22_code 20 = .ok (.iadd, 1) := by decide +kernel
theorem d1_21 : decode jdk_33_method_22_code 21 = .ok (.aaload, 1) := by decide +kernel
theorem d1_22 : decode jdk_33_method_22_code 22 = .ok (.areturn, 1) := by decide +kernel
theorem pn_1 : plainName cIN = true := by first | (simp [plainName, overriddenIn]; done) | decide +kernel
theorem ef_1 (m : MethodId) (x0 : Int32) : entryFrame m #[(.int x0)] 1 = mkF m 0 #[.val (.int x0)] [] := by first | (simp [entryFrame, mkF, argsToLocals, Value.category]; done) | rfl
def Q_rmVo (Z : State) (n : Int32) (ca : Addr) (cl : Cell) (b : Addr) (h0 : Heap) (n0 : Nat) (vQ : Option Value) (hQ : Heap) (LQ : List Loc) : Prop := vQ = some (.ref b) ∧ Fr n0 LQ ∧ hQ = h0
set_option maxRecDepth 65536 in
set_option maxHeartbeats 40000000 in
theorem rmVo (l : Launch) (Z : State) (a0 : Array Value) (hw : ∀ d ∈ tables_1, d.before a0 Z = true) (ws : List Jvm.Cond) (n : Int32) (ca : Addr) (cl : Cell) (b : Addr) (h0 : Heap) (n0 : Nat) (Z0 : n0 ≤ h0.size) (P0 : Old Z n0 h0) (zH : Sta Z Z.heap cIC "high" "I" (.int (127 : Int32))) (zC : Sta Z Z.heap cIC "cache" "[Ljava/lang/Integer;" (.ref ca)) (hlo : ¬ n < (-128 : Int32)) (hhi : ¬ (127 : Int32) < n) (hA : Arr Z Z.heap ca cl (.object cIN)) (hin : ¬ ((n + (128 : Int32)) < 0 ∨ cl.slots.size ≤ (n + (128 : Int32)).toNatClampNeg)) (hat : cl.slots[(n + (128 : Int32)).toNatClampNeg]? = some (.ref b)) :
    MetFree l (⟨cIN, "valueOf", "(I)Ljava/lang/Integer;"⟩ : MethodName) (head1 (Jvm.Cond.code (⟨cIN, "valueOf", "(I)Ljava/lang/Integer;"⟩ : MethodName) jdk_33_method_22_code 1 (some (.object cIN)) :: ws) ({ frames := 0, cells := 0, slots := 0, locals := 0 } : Room)) (fun aQ UQ => aQ = #[(.int n)] ∧ Z.Warmed39 UQ.vm ∧ UQ.heap = h0) (fun _ _ _ _ _ => True) (fun _ UQ oQ UR => ∃ vQ LQ, oQ = .returned vQ ∧ Q_rmVo Z n ca cl b h0 n0 vQ UR.heap LQ ∧ FrameEnd UQ oQ UR LQ ({ frames := 0, cells := 0, slots := 0, locals := 0 } : Room).cells ({ frames := 0, cells := 0, slots := 0, locals := 0 } : Room).slots) := by
  refine MetFree.of_bodySF (plainFor_of_name pn_1) hisR ?_
  intro p e s m args below meth c s₁ Bd hml0 hP hK
  obtain ⟨rfl, hZ, hh⟩ := hP
  have hx := Bd.exec
  have hby := Bd.bytes
  have hlk := Bd.notSynchronized
  have hml : c.maxLocals = 1 := hml0
  have hown : s.vm.findClass cIN = some m.cls := findClass_of_methodNamed Bd.named
  have hnm := (name_of_methodNamed Bd.named Bd.method).1
  have X0 : Stand p l e ({ frames := 0, cells := 0, slots := 0, locals := 0 } : Room) s m #[(.int n)] below meth c s₁ [] 0 0 := Stand.of_body Bd
  have e0 : s₁.heap = h0 := by rw [← hh, Bd.state]; rfl
  have N0 := Fr.nil n0
  show Go p e below _ (Done s (Q_rmVo Z n ca cl b h0 n0) ({ frames := 0, cells := 0, slots := 0, locals := 0 } : Room).cells ({ frames := 0, cells := 0, slots := 0, locals := 0 } : Room).slots)
  refine Go.via (fun tQ kQ => castTop (ef_1 m n) kQ) ?_
  show Go p e below (s₁.setTop (mkF m 0 #[vi n] [])) _
  refine Go.via (fun _ => XS.iloadN X0.here hx rfl (hb hby d1_0) rfl) ?_
  refine Go.via (fun _ => XS.bipush X0.here hx rfl (hb hby d1_1)) ?_
  refine Go.via (fun _ => XS.icmpNo X0.here hx rfl (hb hby d1_3) rfl (flt (hlo : ¬ (n < (-128 : Int32)))).1) ?_
  refine Go.via (fun _ => XS.iloadN X0.here hx rfl (hb hby d1_6) rfl) ?_
  have f203 : Sta Z h0 cIC "high" "I" (.int (127 : Int32)) := zH.ext P0.2
  obtain ⟨T204, X204, e204, st204⟩ := getS2 X0 hx hZ hown (host := "") (Or.inl (tw hw 7 rfl)) Via.refl e0 f203 (g := (mkF m 7 #[vi n] [(.int n)])) rfl (hb hby d1_7)
  refine Go.via (st204) ?_
  clear st204
  clear X0 e0
  show Go p e below (T204.setTop (mkF m 10 #[vi n] [(.int (127 : Int32)), (.int n)])) _
  refine Go.via (fun _ => XS.icmpNo X204.here hx rfl (hb hby d1_10) rfl (flt (hhi : ¬ ((127 : Int32) < n))).2.2.1) ?_
  have f205 : Sta Z h0 cIC "cache" "[Ljava/lang/Integer;" (.ref ca) := zC.ext P0.2
  obtain ⟨T206, X206, e206, st206⟩ := getS2 X204 hx hZ hown (host := "") (Or.inl (tw hw 9 rfl)) Via.refl e204 f205 (g := (mkF m 13 #[vi n] [])) rfl (hb hby d1_13)
  refine Go.via (st206) ?_
  clear st206
  clear X204 e204
  show Go p e below (T206.setTop (mkF m 16 #[vi n] [(.ref ca)])) _
  refine Go.via (fun _ => XS.iloadN X206.here hx rfl (hb hby d1_16) rfl) ?_
  refine Go.via (fun _ => XS.sipush X206.here hx rfl (hb hby d1_17)) ?_
  refine Go.via (fun _ => XS.iadd X206.here hx rfl (hb hby d1_20) rfl) ?_
  refine Go.via (X206.aaload hx (j := (n + (128 : Int32))) (v := .ref b) (by rw [e206]; exact (hA.ext P0.2).1) (State.isArrayOf_alike hZ.alike hA.2.1) rfl hA.2.2 hin hat (g := (mkF m 21 #[vi n] [(.int (n + (128 : Int32))), (.ref ca)])) rfl rfl (hb hby d1_21)) ?_
  show Go p e below (T206.setTop (mkF m 22 #[vi n] [(.ref b)])) _
  exact Go.fin X206 hlk (v := some (.ref b)) (fun h => by rw [Bd.returns] at h; cases h) (fun fs hr => retOut X206 hx Bd.returns rfl (Or.inr (Or.inr (Or.inr (Or.inr ⟨rfl, rfl, rfl⟩)))) (hb hby d1_22) hr) (by rw [e206]; exact ⟨rfl, N0, rfl⟩) (by decide) (by decide)
theorem d2_0 : decode prog_66_method_1_code 0 = .ok (.aload_n 0, 1) := by decide +kernel
theorem d2_1 : decode prog_66_method_1_code 1 = .ok (.invokespecial 3, 3) := by decide +kernel
theorem d2_4 : decode prog_66_method_1_code 4 = .ok (.aload_n 0, 1) := by decide +kernel
theorem d2_5 : decode prog_66_method_1_code 5 = .ok (.new 9, 3) := by decide +kernel
theorem d2_8 : decode prog_66_method_1_code 8 = .ok (.dup, 1) := by decide +kernel
theorem d2_9 : decode prog_66_method_1_code 9 = .ok (.invokespecial 11, 3) := by decide +kernel
theorem d2_12 : decode prog_66_method_1_code 12 = .ok (.putfield 12, 3) := by decide +kernel
theorem d2_15 : decode prog_66_method_1_code 15 = .ok (.aload_n 0, 1) := by decide +kernel
theorem d2_16 : decode prog_66_method_1_code 16 = .ok (.iload_n 1, 1) := by decide +kernel
theorem d2_17 : decode prog_66_method_1_code 17 = .ok (.putfield 18, 3) := by decide +kernel
theorem d2_20 : decode prog_66_method_1_code 20 = .ok (.aload_n 0, 1) := by decide +kernel
theorem d2_21 : decode prog_66_method_1_code 21 = .ok (.iload_n 1, 1) := by decide +kernel
theorem d2_22 : decode prog_66_method_1_code 22 = .ok (.i2l, 1) := by decide +kernel
theorem d2_23 : decode prog_66_method_1_code 23 = .ok (.putfield 22, 3) := by decide +kernel
theorem d2_26 : decode prog_66_method_1_code 26 = .ok (.return_, 1) := by decide +kernel
theorem pn_2 : plainName cFI = true := by first | (simp [plainName, overriddenIn]; done) | decide +kernel
theorem ef_2 (m : MethodId) (x0 : Addr) (x1 : Int32) : entryFrame m #[(.ref x0), (.int x1)] 2 = mkF m 0 #[.val (.ref x0), .val (.int x1)] [] := by first | (simp [entryFrame, mkF, argsToLocals, Value.category]; done) | rfl
def Q_rmFi (Z : State) (f : Addr) (o : Int32) (de : Addr) (h0 : Heap) (n0 : Nat) (vQ : Option Value) (hQ : Heap) (LQ : List Loc) : Prop := ∃ l_ : Addr, vQ = none ∧ Fr n0 LQ ∧ Keep h0 hQ [f] ∧ h0.size ≤ l_ ∧ Exa Z hQ f cFI ∧ Fld Z hQ f cFI "part" "Ljava/util/List;" (.ref l_) ∧ Fld Z hQ f cFI "overhead" "I" (.int o) ∧ Fld Z hQ f cFI "partBytes" "J" (.long (o.toInt64)) ∧ Exa Z hQ l_ cAL ∧ Fld Z hQ l_ cAB "modCount" "I" (.int (0 : Int32)) ∧ Fld Z hQ l_ cAL "elementData" cOA (.ref de) ∧ Fld Z hQ l_ cAL "size" "I" (.int (0 : Int32))
set_option maxRecDepth 65536 in
set_option maxHeartbeats 40000000 in
theorem rmFi (l : Launch) (Z : State) (a0 : Array Value) (hw : ∀ d ∈ tables_1, d.before a0 Z = true) (ws : List Jvm.Cond) (f : Addr) (o : Int32) (de : Addr) (h0 : Heap) (n0 : Nat) (Z0 : n0 ≤ h0.size) (P0 : Exa Z h0 f cFI) (P1 : Fld Z h0 f cFI "part" "Ljava/util/List;" .null) (P2 : Fld Z h0 f cFI "overhead" "I" (.int (0 : Int32))) (P3 : Fld Z h0 f cFI "partBytes" "J" (.long (0 : Int64))) (P4 : Old Z n0 h0) (zD : Sta Z Z.heap cAL cDE cOA (.ref de)) (g_f : n0 ≤ f) :
    MetFree l (⟨cFI, "<init>", "(I)V"⟩ : MethodName) (head1 (Jvm.Cond.code (⟨cFI, "<init>", "(I)V"⟩ : MethodName) prog_66_method_1_code 2 none :: ws) ({ frames := 4, cells := 1, slots := 3, locals := 50 } : Room)) (fun aQ UQ => aQ = #[(.ref f), (.int o)] ∧ Z.Warmed39 UQ.vm ∧ UQ.heap = h0) (fun _ _ _ _ _ => True) (fun _ UQ oQ UR => ∃ vQ LQ, oQ = .returned vQ ∧ Q_rmFi Z f o de h0 n0 vQ UR.heap LQ ∧ FrameEnd UQ oQ UR LQ ({ frames := 4, cells := 1, slots := 3, locals := 50 } : Room).cells ({ frames := 4, cells := 1, slots := 3, locals := 50 } : Room).slots) := by
  refine MetFree.of_bodySF (plainFor_of_name pn_2) hisR ?_
  intro p e s m args below meth c s₁ Bd hml0 hP hK
  obtain ⟨rfl, hZ, hh⟩ := hP
  have hx := Bd.exec
  have hby := Bd.bytes
  have hlk := Bd.notSynchronized
  have hml : c.maxLocals = 2 := hml0
  have hown : s.vm.findClass cFI = some m.cls := findClass_of_methodNamed Bd.named
  have hnm := (name_of_methodNamed Bd.named Bd.method).1
  have X0 : Stand p l e ({ frames := 4, cells := 1, slots := 3, locals := 50 } : Room) s m #[(.ref f), (.int o)] below meth c s₁ [] 0 0 := Stand.of_body Bd
  have e0 : s₁.heap = h0 := by rw [← hh, Bd.state]; rfl
  have N0 := Fr.nil n0
  show Go p e below _ (Done s (Q_rmFi Z f o de h0 n0) ({ frames := 4, cells := 1, slots := 3, locals := 50 } : Room).cells ({ frames := 4, cells := 1, slots := 3, locals := 50 } : Room).slots)
  refine Go.via (fun tQ kQ => castTop (ef_2 m f o) kQ) ?_
  show Go p e below (s₁.setTop (mkF m 0 #[vr f, vi o] [])) _
  refine Go.via (fun _ => XS.aloadN X0.here hx rfl (hb hby d2_0) rfl rfl) ?_
  obtain ⟨T207, X207, e207, st207⟩ := initO X0 hx hZ hown (tw hw 16 rfl) (tw hw 17 rfl) (tw hw 18 rfl) e0 (g := (mkF m 1 #[vr f, vi o] [(.ref f)])) rfl (by rw [hml]; rfl) rfl (hb hby d2_1) (by decide) (W := 0) (by show 2 * 0 + _ ≤ _; exact Nat.le_of_eq rfl) (by decide)
  refine Go.via (st207) ?_
  clear st207
  clear X0 e0
  show Go p e below (T207.setTop (mkF m 4 #[vr f, vi o] [])) _
  refine Go.via (fun _ => XS.aloadN X207.here hx rfl (hb hby d2_4) rfl rfl) ?_
  obtain ⟨T208, h208, X208, e208, E208, A208, D208, -, st208⟩ := newO X207 hx hZ hown (tw hw 19 rfl) (tw hw 20 rfl) (tw hw 21 rfl) e207 (g := (mkF m 5 #[vr f, vi o] [(.ref f)])) rfl (hb hby d2_5) (by decide) (by decide)
  obtain ⟨b208, g208⟩ : ∃ z, z = h0.size := ⟨_, rfl⟩
  rw [← g208] at A208 D208 st208
  have ne209 : f ≠ b208 := Nat.ne_of_lt (Nat.lt_of_lt_of_le P0.lt (Nat.le_of_eq g208.symm))
  have ge210 : n0 ≤ b208 := Nat.le_trans Z0 (Nat.le_of_eq g208.symm)
  have sz211 : h0.size ≤ b208 := Nat.le_trans (Keep.refl h0 [f]).1 (Nat.le_of_eq g208.symm)
  refine Go.via (st208) ?_
  clear st208
  have f212 : Fld Z h208 b208 cAB "modCount" "I" (.int (0 : Int32)) := D208 (Or.inl (tw hw 39 rfl)) (ty := .int) (by decide)
  have f213 : Fld Z h208 b208 cAL "elementData" cOA .null := D208 (Or.inl (tw hw 42 rfl)) (ty := (.array (.object cOB))) (by decide)
  have f214 : Fld Z h208 b208 cAL "size" "I" (.int (0 : Int32)) := D208 (Or.inl (tw hw 70 rfl)) (ty := .int) (by decide)
  clear X207 e207
  show Go p e below (T208.setTop (mkF m 8 #[vr f, vi o] [(.ref b208), (.ref f)])) _
  refine Go.via (fun _ => XS.dup X208.here hx rfl (hb hby d2_8) rfl rfl) ?_
  have o215 : Old Z n0 h208 := (P4.ext E208)
  have z217 : n0 ≤ h208.size := (Nat.le_trans Z0 E208.1)
  obtain ⟨r216, _, ⟨T216, L216, k216, n216⟩, -, X216, ⟨Lc216, hQ216, l216, y216, z216⟩, st216⟩ := X208.specialBack hx (y := (⟨cAL, "<init>", "()V"⟩ : MethodName)) rfl hown (mvT hZ (tw hw 22 rfl)) (mvT hZ (tw hw 23 rfl)) (mvT hZ (tw hw 24 rfl)) (by decide) (backOf (W := 2) (rmAL l Z a0 hw [] b208 de h208 n0 z217 A208 f212 f213 f214 o215 zD ge210) hZ (tw hw 24 rfl) (tw hw 21 rfl) (by decide) (by decide)) (g := (mkF m 9 #[vr f, vi o] [(.ref b208), (.ref b208), (.ref f)])) rfl (by rw [hml]; rfl) (Steps.refl _) (a := b208) (argsL := []) (rest := [(.ref b208), (.ref f)]) (lenOf pd__28_29V rfl) rfl (by show 2 * 0 + _ ≤ _; exact Nat.le_of_eq rfl) (hb hby d2_9) (fun _ _ => ⟨rfl, e208, (by decide : 1 + 0 ≤ _), (by decide : 3 + 0 ≤ _)⟩)
  dsimp only [Pt.U, Pt.locs, Pt.cells, Pt.slots] at X216 l216 y216 z216 st216 hQ216
  rw [l216, y216, z216] at X216
  clear l216 y216 z216
  obtain ⟨hr216, N216q, K216q, f218, f219, f220, f221⟩ := hQ216
  rw [hr216] at st216
  clear hr216
  have N216 := Fr.app N0 N216q
  refine Go.via (fun _ kQ => st216.trans kQ) ?_
  clear st216
  have e216 : T216.heap = T216.heap := rfl
  have f222 : Exa Z T216.heap b208 cAL := f218
  have f223 : Fld Z T216.heap b208 cAB "modCount" "I" (.int (0 : Int32)) := f219
  have f224 : Fld Z T216.heap b208 cAL "elementData" cOA (.ref de) := f220
  have f225 : Fld Z T216.heap b208 cAL "size" "I" (.int (0 : Int32)) := f221
  clear X208 e208
  show Go p e below (T216.setTop (mkF m 12 #[vr f, vi o] [(.ref b208), (.ref f)])) _
  have f226 : Fld Z T216.heap f cFI "part" "Ljava/util/List;" .null := ((P1.ext E208).keep K216q (ninS ne209 nin0))
  have f227 : Exa Z T216.heap f cFI := ((P0.ext E208).keep K216q)
  obtain ⟨T228, h228, X228, e228, W228, st228⟩ := putF X216 hx hZ hown (host := "") (Or.inl (tw hw 43 rfl)) Via.refl e216 f226 f227 (Or.inl (tw hw 44 rfl)) (tw hw 11 rfl) (ty := (.object cLI)) (by decide) rfl rfl (g := (mkF m 12 #[vr f, vi o] [(.ref b208), (.ref f)])) rfl rfl (hb hby d2_12)
  refine Go.via (st228) ?_
  clear st228
  have N228 := Fr.snoc X228 N216 g_f
  have f229 : Fld Z h228 f cFI "part" "Ljava/util/List;" (.ref b208) := f226.same W228
  clear X216 e216
  show Go p e below (T228.setTop (mkF m 15 #[vr f, vi o] [])) _
  refine Go.via (fun _ => XS.aloadN X228.here hx rfl (hb hby d2_15) rfl rfl) ?_
  refine Go.via (fun _ => XS.iloadN X228.here hx rfl (hb hby d2_16) rfl) ?_
  have f230 : Fld Z h228 f cFI "overhead" "I" (.int (0 : Int32)) := (((P2.ext E208).keep K216q (ninS ne209 nin0)).other W228 (Or.inr (slot_ne (Or.inr (tw hw 46 rfl)) (Or.inl (tw hw 44 rfl)) (by decide) (t := .int) (t' := (.object cLI)) (by decide) (by decide))))
  have f231 : Exa Z h228 f cFI := (f227.wr W228)
  obtain ⟨T232, h232, X232, e232, W232, st232⟩ := putF X228 hx hZ hown (host := "") (Or.inl (tw hw 45 rfl)) Via.refl e228 f230 f231 (Or.inr ⟨(tw hw 46 rfl), rfl, hnm⟩) (tw hw 11 rfl) (ty := .int) (by decide) rfl rfl (g := (mkF m 17 #[vr f, vi o] [(.int o), (.ref f)])) rfl rfl (hb hby d2_17)
  refine Go.via (st232) ?_
  clear st232
  have N232 := Fr.snoc X232 N228 g_f
  have f233 : Fld Z h232 f cFI "overhead" "I" (.int o) := f230.same W232
  clear X228 e228
  show Go p e below (T232.setTop (mkF m 20 #[vr f, vi o] [])) _
  refine Go.via (fun _ => XS.aloadN X232.here hx rfl (hb hby d2_20) rfl rfl) ?_
  refine Go.via (fun _ => XS.iloadN X232.here hx rfl (hb hby d2_21) rfl) ?_
  refine Go.via (fun _ => XS.i2l X232.here hx rfl (hb hby d2_22) rfl) ?_
  show Go p e below (T232.setTop (mkF m 23 #[vr f, vi o] [(.long (o.toInt64)), (.ref f)])) _
  have f234 : Fld Z h232 f cFI "partBytes" "J" (.long (0 : Int64)) := ((((P3.ext E208).keep K216q (ninS ne209 nin0)).other W228 (Or.inr (slot_ne (Or.inl (tw hw 48 rfl)) (Or.inl (tw hw 44 rfl)) (by decide) (t := .long) (t' := (.object cLI)) (by decide) (by decide)))).other W232 (Or.inr (slot_ne (Or.inl (tw hw 48 rfl)) (Or.inr (tw hw 46 rfl)) (by decide) (t := .long) (t' := .int) (by decide) (by decide))))
  have f235 : Exa Z h232 f cFI := (f231.wr W232)
  obtain ⟨T236, h236, X236, e236, W236, st236⟩ := putF X232 hx hZ hown (host := "") (Or.inl (tw hw 47 rfl)) Via.refl e232 f234 f235 (Or.inl (tw hw 48 rfl)) (tw hw 11 rfl) (ty := .long) (by decide) rfl rfl (g := (mkF m 23 #[vr f, vi o] [(.long (o.toInt64)), (.ref f)])) rfl rfl (hb hby d2_23)
  refine Go.via (st236) ?_
  clear st236
  have N236 := Fr.snoc X236 N232 g_f
  have f237 : Fld Z h236 f cFI "partBytes" "J" (.long (o.toInt64)) := f234.same W236
  clear X232 e232
  show Go p e below (T236.setTop (mkF m 26 #[vr f, vi o] [])) _
  have k238 : Keep h0 h236 [f] := ((((((Keep.refl h0 [f]).ext E208).trans K216q (allS (Or.inr sz211) all0)).wr W228 (Or.inl (List.mem_of_getElem? (i := 0) rfl))).wr W232 (Or.inl (List.mem_of_getElem? (i := 0) rfl))).wr W236 (Or.inl (List.mem_of_getElem? (i := 0) rfl)))
  have f239 : Exa Z h236 f cFI := (f235.wr W236)
  have f240 : Fld Z h236 f cFI "part" "Ljava/util/List;" (.ref b208) := ((f229.other W232 (Or.inr (slot_ne (Or.inl (tw hw 44 rfl)) (Or.inr (tw hw 46 rfl)) (by decide) (t := (.object cLI)) (t' := .int) (by decide) (by decide)))).other W236 (Or.inr (slot_ne (Or.inl (tw hw 44 rfl)) (Or.inl (tw hw 48 rfl)) (by decide) (t := (.object cLI)) (t' := .long) (by decide) (by decide))))
  have f241 : Fld Z h236 f cFI "overhead" "I" (.int o) := (f233.other W236 (Or.inr (slot_ne (Or.inr (tw hw 46 rfl)) (Or.inl (tw hw 48 rfl)) (by decide) (t := .int) (t' := .long) (by decide) (by decide))))
  have f242 : Exa Z h236 b208 cAL := (((f222.wr W228).wr W232).wr W236)
  have f243 : Fld Z h236 b208 cAB "modCount" "I" (.int (0 : Int32)) := (((f223.other W228 (Or.inl (Ne.symm ne209))).other W232 (Or.inl (Ne.symm ne209))).other W236 (Or.inl (Ne.symm ne209)))
  have f244 : Fld Z h236 b208 cAL "elementData" cOA (.ref de) := (((f224.other W228 (Or.inl (Ne.symm ne209))).other W232 (Or.inl (Ne.symm ne209))).other W236 (Or.inl (Ne.symm ne209)))
  have f245 : Fld Z h236 b208 cAL "size" "I" (.int (0 : Int32)) := (((f225.other W228 (Or.inl (Ne.symm ne209))).other W232 (Or.inl (Ne.symm ne209))).other W236 (Or.inl (Ne.symm ne209)))
  exact Go.fin X236 hlk (v := none) (fun _ => rfl) (fun fs hr => X236.returnOut hx Bd.returns (hb hby d2_26) hr) (by rw [e236]; exact ⟨b208, rfl, N236, k238, sz211, f239, f240, f241, f237, f242, f243, f244, f245⟩) (by decide) (by decide)
theorem d7_0 : decode prog_66_method_2_code 0 = .ok (.invokestatic 26, 3) := by decide +kernel
theorem pd__28_29Ljava_2futil_2fList_3b : parseMethodDescriptor "()Ljava/util/List;" = some ⟨[], some (.object cLI)⟩ := by decide +kernel
theorem d7_3 : decode prog_66_method_2_code 3 = .ok (.astore_n 3, 1) := by decide +kernel
theorem d7_4 : decode prog_66_method_2_code 4 = .ok (.aload_n 0, 1) := by decide +kernel
theorem d7_5 : decode prog_66_method_2_code 5 = .ok (.getfield 12, 3) := by decide +kernel
theorem d7_8 : decode prog_66_method_2_code 8 = .ok (.invokeinterface 32 1, 5) := by decide +kernel
theorem pd__28_29Z : parseMethodDescriptor "()Z" = some ⟨[], some .boolean⟩ := by decide +kernel
theorem d7_13 : decode prog_66_method_2_code 13 = .ok (.ifCond .ne 44, 3) := by decide +kernel
theorem d7_57 : decode prog_66_method_2_code 57 = .ok (.aload_n 0, 1) := by decide +kernel
theorem d7_58 : decode prog_66_method_2_code 58 = .ok (.dup, 1) := by decide +kernel
theorem d7_59 : decode prog_66_method_2_code 59 = .ok (.getfield 22, 3) := by decide +kernel
theorem d7_62 : decode prog_66_method_2_code 62 = .ok (.aload_n 0, 1) := by decide +kernel
theorem d7_63 : decode prog_66_method_2_code 63 = .ok (.getfield 12, 3) := by decide +kernel
theorem d7_66 : decode prog_66_method_2_code 66 = .ok (.invokeinterface 32 1, 5) := by decide +kernel
theorem d7_71 : decode prog_66_method_2_code 71 = .ok (.ifCond .eq 8, 3) := by decide +kernel
theorem d7_74 : decode prog_66_method_2_code 74 = .ok (.iload_n 2, 1) := by decide +kernel
theorem d7_75 : decode prog_66_method_2_code 75 = .ok (.i2l, 1) := by decide +kernel
theorem d7_76 : decode prog_66_method_2_code 76 = .ok (.goto 7, 3) := by decide +kernel
theorem d7_83 : decode prog_66_method_2_code 83 = .ok (.ladd, 1) := by decide +kernel
theorem d7_84 : decode prog_66_method_2_code 84 = .ok (.putfield 22, 3) := by decide +kernel
theorem d7_87 : decode prog_66_method_2_code 87 = .ok (.aload_n 0, 1) := by decide +kernel
theorem d7_88 : decode prog_66_method_2_code 88 = .ok (.getfield 12, 3) := by decide +kernel
theorem d7_91 : decode prog_66_method_2_code 91 = .ok (.aload_n 1, 1) := by decide +kernel
theorem d7_92 : decode prog_66_method_2_code 92 = .ok (.invokeinterface 38 2, 5) := by decide +kernel
theorem pd__28Ljava_2flang_2fObject_3b_29Z : parseMethodDescriptor "(Ljava/lang/Object;)Z" = some ⟨[(.object cOB)], some .boolean⟩ := by decide +kernel
theorem d7_97 : decode prog_66_method_2_code 97 = .ok (.pop, 1) := by decide +kernel
theorem d7_98 : decode prog_66_method_2_code 98 = .ok (.aload_n 3, 1) := by decide +kernel
theorem d7_99 : decode prog_66_method_2_code 99 = .ok (.areturn, 1) := by decide +kernel
theorem pn_7 : plainName cFI = true := by first | (simp [plainName, overriddenIn]; done) | decide +kernel
theorem ef_7 (m : MethodId) (x0 : Addr) (x1 : Addr) (x2 : Int32) : entryFrame m #[(.ref x0), (.ref x1), (.int x2)] 4 = mkF m 0 #[.val (.ref x0), .val (.ref x1), .val (.int x2), .unset] [] := by first | (simp [entryFrame, mkF, argsToLocals, Value.category]; done) | rfl
def Q_rmFa0 (Z : State) (f : Addr) (v : Addr) (n : Int32) (l_ : Addr) (o : Int32) (pb : Int64) (de : Addr) (mc : Int32) (el : Addr) (h0 : Heap) (n0 : Nat) (vQ : Option Value) (hQ : Heap) (LQ : List Loc) : Prop := ∃ r : Addr, vQ = some (.ref el) ∧ Fr n0 LQ ∧ Keep h0 hQ [f, l_] ∧ h0.size ≤ r ∧ Exa Z hQ f cFI ∧ Fld Z hQ f cFI "part" "Ljava/util/List;" (.ref l_) ∧ Fld Z hQ f cFI "overhead" "I" (.int o) ∧ Fld Z hQ f cFI "partBytes" "J" (.long (pb + (n.toInt64))) ∧ Exa Z hQ l_ cAL ∧ Fld Z hQ l_ cAB "modCount" "I" (.int (mc + (1 : Int32))) ∧ Fld Z hQ l_ cAL "elementData" cOA (.ref r) ∧ Fld Z hQ l_ cAL "size" "I" (.int (1 : Int32)) ∧ Ra Z hQ r cOB [(.ref v), .null, .null, .null, .null, .null, .null, .null, .null, .null]
set_option maxRecDepth 65536 in
set_option maxHeartbeats 40000000 in
theorem rmFa0 (l : Launch) (Z : State) (a0 : Array Value) (hw : ∀ d ∈ tables_1, d.before a0 Z = true) (ws : List Jvm.Cond) (f : Addr) (v : Addr) (n : Int32) (l_ : Addr) (o : Int32) (pb : Int64) (de : Addr) (mc : Int32) (el : Addr) (h0 : Heap) (n0 : Nat) (Z0 : n0 ≤ h0.size) (P0 : Exa Z h0 f cFI) (P1 : Fld Z h0 f cFI "part" "Ljava/util/List;" (.ref l_)) (P2 : Fld Z h0 f cFI "overhead" "I" (.int o)) (P3 : Fld Z h0 f cFI "partBytes" "J" (.long pb)) (P4 : Exa Z h0 l_ cAL) (P5 : Fld Z h0 l_ cAB "modCount" "I" (.int mc)) (P6 : Fld Z h0 l_ cAL "elementData" cOA (.ref de)) (P7 : Fld Z h0 l_ cAL "size" "I" (.int (0 : Int32))) (P8 : Exa Z h0 v cIN) (P9 : Old Z n0 h0) (zD : Sta Z Z.heap cAL cDE cOA (.ref de)) (zN : Rn Z Z.heap de (0 : Int32)) (zL : Sta Z Z.heap cIM "EMPTY_LIST" "Ljava/util/ImmutableCollections$ListN;" (.ref el)) (g_f : n0 ≤ f) (g_l_ : n0 ≤ l_) (hfl : f ≠ l_) :
    MetFree l (⟨cFI, "add", "(Ljava/lang/Object;I)Ljava/util/List;"⟩ : MethodName) (head1 (Jvm.Cond.code (⟨cFI, "add", "(Ljava/lang/Object;I)Ljava/util/List;"⟩ : MethodName) prog_66_method_2_code 4 (some (.object cLI)) :: ws) ({ frames := 5, cells := 1, slots := 10, locals := 69 } : Room)) (fun aQ UQ => aQ = #[(.ref f), (.ref v), (.int n)] ∧ Z.Warmed39 UQ.vm ∧ UQ.heap = h0) (fun _ _ _ _ _ => True) (fun _ UQ oQ UR => ∃ vQ LQ, oQ = .returned vQ ∧ Q_rmFa0 Z f v n l_ o pb de mc el h0 n0 vQ UR.heap LQ ∧ FrameEnd UQ oQ UR LQ ({ frames := 5, cells := 1, slots := 10, locals := 69 } : Room).cells ({ frames := 5, cells := 1, slots := 10, locals := 69 } : Room).slots) := by
  refine MetFree.of_bodySF (plainFor_of_name pn_7) hisR ?_
  intro p e s m args below meth c s₁ Bd hml0 hP hK
  obtain ⟨rfl, hZ, hh⟩ := hP
  have hx := Bd.exec
  have hby := Bd.bytes
  have hlk := Bd.notSynchronized
  have hml : c.maxLocals = 4 := hml0
  have hown : s.vm.findClass cFI = some m.cls := findClass_of_methodNamed Bd.named
  have hnm := (name_of_methodNamed Bd.named Bd.method).1
  have X0 : Stand p l e ({ frames := 5, cells := 1, slots := 10, locals := 69 } : Room) s m #[(.ref f), (.ref v), (.int n)] below meth c s₁ [] 0 0 := Stand.of_body Bd
  have e0 : s₁.heap = h0 := by rw [← hh, Bd.state]; rfl
  have N0 := Fr.nil n0
  show Go p e below _ (Done s (Q_rmFa0 Z f v n l_ o pb de mc el h0 n0) ({ frames := 5, cells := 1, slots := 10, locals := 69 } : Room).cells ({ frames := 5, cells := 1, slots := 10, locals := 69 } : Room).slots)
  refine Go.via (fun tQ kQ => castTop (ef_7 m f v n) kQ) ?_
  show Go p e below (s₁.setTop (mkF m 0 #[vr f, vr v, vi n, .unset] [])) _
  obtain ⟨r246, _, ⟨T246, L246, k246, n246⟩, -, X246, ⟨Lc246, hQ246, l246, y246, z246⟩, st246⟩ := Jvm.LawKit.callS X0 hx (y := (⟨cLI, "of", "()Ljava/util/List;"⟩ : MethodName)) hown (mvT hZ (tw hw 54 rfl)) (mvT hZ (tw hw 55 rfl)) (mvT hZ (tw hw 56 rfl)) (mvT hZ (tw hw 57 rfl)) (by decide) (backOf (W := 0) (rmOf l Z a0 hw []  el h0 n0 Z0 P9 zL) hZ (tw hw 57 rfl) (tw hw 56 rfl) (by decide) (by decide)) (g := (mkF m 0 #[vr f, vr v, vi n, .unset] [])) rfl (by rw [hml]; rfl) (argsL := []) (rest := []) (lenOf pd__28_29Ljava_2futil_2fList_3b rfl) rfl (by show 2 * 0 + _ ≤ _; exact Nat.le_of_eq rfl) (hb hby d7_0) (fun _ _ => ⟨rfl, e0, (by decide : 0 + 0 ≤ _), (by decide : 0 + 0 ≤ _)⟩)
  dsimp only [Pt.U, Pt.locs, Pt.cells, Pt.slots] at X246 l246 y246 z246 st246 hQ246
  rw [l246, y246, z246] at X246
  clear l246 y246 z246
  obtain ⟨hr246, N246q, eh246⟩ := hQ246
  rw [hr246] at st246
  clear hr246
  have N246 := Fr.app N0 N246q
  refine Go.via (st246) ?_
  clear st246
  have e246 : T246.heap = h0 := eh246
  clear X0 e0
  show Go p e below (T246.setTop (mkF m 3 #[vr f, vr v, vi n, .unset] [(.ref el)])) _
  refine Go.via (fun _ => XS.astoreN X246.here hx rfl (hb hby d7_3) rfl rfl (l' := #[vr f, vr v, vi n, vr el]) rfl) ?_
  refine Go.via (fun _ => XS.aloadN X246.here hx rfl (hb hby d7_4) rfl rfl) ?_
  obtain ⟨T247, X247, e247, st247⟩ := getF X246 hx hZ hown (host := "") (Or.inl (tw hw 43 rfl)) Via.refl e246 P1 (g := (mkF m 5 #[vr f, vr v, vi n, vr el] [(.ref f)])) rfl rfl (hb hby d7_5)
  refine Go.via (st247) ?_
  clear st247
  clear X246 e246
  show Go p e below (T247.setTop (mkF m 8 #[vr f, vr v, vi n, vr el] [(.ref l_)])) _
  obtain ⟨cq248, kq248, q248a, q248b, q248c⟩ := isOf hZ e247 P4
  obtain ⟨r248, _, ⟨T248, L248, k248, n248⟩, -, X248, ⟨Lc248, hQ248, l248, y248, z248⟩, st248⟩ := X247.interfaceBack hx (xi := (⟨cLI, "isEmpty", "()Z"⟩ : MethodName)) (y := (⟨cAL, "isEmpty", "()Z"⟩ : MethodName)) hown (mvT hZ (tw hw 60 rfl)) (mvT hZ (tw hw 61 rfl)) (mvT hZ (tw hw 62 rfl)) (mvT hZ (tw hw 63 rfl)) (mvT hZ (tw hw 64 rfl)) (mvT hZ (tw hw 65 rfl)) (mvT hZ (tw hw 66 rfl)) (mvT hZ (tw hw 67 rfl)) (by decide) (backOf (W := 0) (rmEm l Z a0 hw [] l_ (0 : Int32) h0 n0 Z0 P7) hZ (tw hw 68 rfl) (tw hw 21 rfl) (by decide) (by decide)) q248a q248b q248c (g := (mkF m 8 #[vr f, vr v, vi n, vr el] [(.ref l_)])) rfl (by rw [hml]; rfl) (Steps.refl _) (argsL := []) (rest := []) (lenOf pd__28_29Z rfl) rfl (by show 2 * 0 + _ ≤ _; exact Nat.le_of_eq rfl) (hb hby d7_8) (fun _ _ => ⟨rfl, e247, (by decide : 0 + 0 ≤ _), (by decide : 0 + 0 ≤ _)⟩)
  dsimp only [Pt.U, Pt.locs, Pt.cells, Pt.slots] at X248 l248 y248 z248 st248 hQ248
  rw [l248, y248, z248] at X248
  clear l248 y248 z248
  obtain ⟨hr248, N248q, eh248⟩ := hQ248
  rw [hr248] at st248
  clear hr248
  have N248 := Fr.app N246 N248q
  refine Go.via (fun _ kQ => st248.trans kQ) ?_
  clear st248
  have e248 : T248.heap = h0 := eh248
  clear X247 e247
  show Go p e below (T248.setTop (mkF m 13 #[vr f, vr v, vi n, vr el] [(.int (1 : Int32))])) _
  refine Go.via (fun _ => XS.ifYes X248.here hx rfl (pc0 := 13) (pc' := 57) rfl (hb hby d7_13) rfl ((if0 _ _).trans (feq ((by decide) : ¬ ((1 : Int32) = (0 : Int32)))).2) (by decide) (by decide)) ?_
  refine Go.via (fun _ => XS.aloadN X248.here hx rfl (hb hby d7_57) rfl rfl) ?_
  refine Go.via (fun _ => XS.dup X248.here hx rfl (hb hby d7_58) rfl rfl) ?_
  obtain ⟨T249, X249, e249, st249⟩ := getF X248 hx hZ hown (host := "") (Or.inl (tw hw 47 rfl)) Via.refl e248 P3 (g := (mkF m 59 #[vr f, vr v, vi n, vr el] [(.ref f), (.ref f)])) rfl rfl (hb hby d7_59)
  refine Go.via (st249) ?_
  clear st249
  clear X248 e248
  show Go p e below (T249.setTop (mkF m 62 #[vr f, vr v, vi n, vr el] [(.long pb), (.ref f)])) _
  refine Go.via (fun _ => XS.aloadN X249.here hx rfl (hb hby d7_62) rfl rfl) ?_
  obtain ⟨T250, X250, e250, st250⟩ := getF X249 hx hZ hown (host := "") (Or.inl (tw hw 43 rfl)) Via.refl e249 P1 (g := (mkF m 63 #[vr f, vr v, vi n, vr el] [(.ref f), (.long pb), (.ref f)])) rfl rfl (hb hby d7_63)
  refine Go.via (st250) ?_
  clear st250
  clear X249 e249
  show Go p e below (T250.setTop (mkF m 66 #[vr f, vr v, vi n, vr el] [(.ref l_), (.long pb), (.ref f)])) _
  obtain ⟨cq251, kq251, q251a, q251b, q251c⟩ := isOf hZ e250 P4
  obtain ⟨r251, _, ⟨T251, L251, k251, n251⟩, -, X251, ⟨Lc251, hQ251, l251, y251, z251⟩, st251⟩ := X250.interfaceBack hx (xi := (⟨cLI, "isEmpty", "()Z"⟩ : MethodName)) (y := (⟨cAL, "isEmpty", "()Z"⟩ : MethodName)) hown (mvT hZ (tw hw 60 rfl)) (mvT hZ (tw hw 61 rfl)) (mvT hZ (tw hw 62 rfl)) (mvT hZ (tw hw 63 rfl)) (mvT hZ (tw hw 64 rfl)) (mvT hZ (tw hw 65 rfl)) (mvT hZ (tw hw 66 rfl)) (mvT hZ (tw hw 67 rfl)) (by decide) (backOf (W := 3) (rmEm l Z a0 hw [] l_ (0 : Int32) h0 n0 Z0 P7) hZ (tw hw 68 rfl) (tw hw 21 rfl) (by decide) (by decide)) q251a q251b q251c (g := (mkF m 66 #[vr f, vr v, vi n, vr el] [(.ref l_), (.long pb), (.ref f)])) rfl (by rw [hml]; rfl) (Steps.refl _) (argsL := []) (rest := [(.long pb), (.ref f)]) (lenOf pd__28_29Z rfl) rfl (by show 2 * 0 + _ ≤ _; exact Nat.le_of_eq rfl) (hb hby d7_66) (fun _ _ => ⟨rfl, e250, (by decide : 0 + 0 ≤ _), (by decide : 0 + 0 ≤ _)⟩)
  dsimp only [Pt.U, Pt.locs, Pt.cells, Pt.slots] at X251 l251 y251 z251 st251 hQ251
  rw [l251, y251, z251] at X251
  clear l251 y251 z251
  obtain ⟨hr251, N251q, eh251⟩ := hQ251
  rw [hr251] at st251
  clear hr251
  have N251 := Fr.app N248 N251q
  refine Go.via (fun _ kQ => st251.trans kQ) ?_
  clear st251
  have e251 : T251.heap = h0 := eh251
  clear X250 e250
  show Go p e below (T251.setTop (mkF m 71 #[vr f, vr v, vi n, vr el] [(.int (1 : Int32)), (.long pb), (.ref f)])) _
  refine Go.via (fun _ => XS.ifNo X251.here hx rfl (hb hby d7_71) rfl ((if0 _ _).trans (feq ((by decide) : ¬ ((1 : Int32) = (0 : Int32)))).1)) ?_
  refine Go.via (fun _ => XS.iloadN X251.here hx rfl (hb hby d7_74) rfl) ?_
  refine Go.via (fun _ => XS.i2l X251.here hx rfl (hb hby d7_75) rfl) ?_
  show Go p e below (T251.setTop (mkF m 76 #[vr f, vr v, vi n, vr el] [(.long (n.toInt64)), (.long pb), (.ref f)])) _
  refine Go.via (fun _ => XS.goto X251.here hx rfl (pc0 := 76) (pc' := 83) rfl (hb hby d7_76) (by decide) (by decide)) ?_
  refine Go.via (fun _ => XS.ladd X251.here hx rfl (hb hby d7_83) rfl) ?_
  show Go p e below (T251.setTop (mkF m 84 #[vr f, vr v, vi n, vr el] [(.long (pb + (n.toInt64))), (.ref f)])) _
  obtain ⟨T252, h252, X252, e252, W252, st252⟩ := putF X251 hx hZ hown (host := "") (Or.inl (tw hw 47 rfl)) Via.refl e251 P3 P0 (Or.inl (tw hw 48 rfl)) (tw hw 11 rfl) (ty := .long) (by decide) rfl rfl (g := (mkF m 84 #[vr f, vr v, vi n, vr el] [(.long (pb + (n.toInt64))), (.ref f)])) rfl rfl (hb hby d7_84)
  refine Go.via (st252) ?_
  clear st252
  have N252 := Fr.snoc X252 N251 g_f
  have f253 : Fld Z h252 f cFI "partBytes" "J" (.long (pb + (n.toInt64))) := P3.same W252
  clear X251 e251
  show Go p e below (T252.setTop (mkF m 87 #[vr f, vr v, vi n, vr el] [])) _
  refine Go.via (fun _ => XS.aloadN X252.here hx rfl (hb hby d7_87) rfl rfl) ?_
  have f254 : Fld Z h252 f cFI "part" "Ljava/util/List;" (.ref l_) := (P1.other W252 (Or.inr (slot_ne (Or.inl (tw hw 44 rfl)) (Or.inl (tw hw 48 rfl)) (by decide) (t := (.object cLI)) (t' := .long) (by decide) (by decide))))
  obtain ⟨T255, X255, e255, st255⟩ := getF X252 hx hZ hown (host := "") (Or.inl (tw hw 43 rfl)) Via.refl e252 f254 (g := (mkF m 88 #[vr f, vr v, vi n, vr el] [(.ref f)])) rfl rfl (hb hby d7_88)
  refine Go.via (st255) ?_
  clear st255
  clear X252 e252
  show Go p e below (T255.setTop (mkF m 91 #[vr f, vr v, vi n, vr el] [(.ref l_)])) _
  refine Go.via (fun _ => XS.aloadN X255.here hx rfl (hb hby d7_91) rfl rfl) ?_
  have f256 : Exa Z h252 l_ cAL := (P4.wr W252)
  have f257 : Fld Z h252 l_ cAB "modCount" "I" (.int mc) := (P5.other W252 (Or.inl (Ne.symm hfl)))
  have f258 : Fld Z h252 l_ cAL "elementData" cOA (.ref de) := (P6.other W252 (Or.inl (Ne.symm hfl)))
  have f259 : Fld Z h252 l_ cAL "size" "I" (.int (0 : Int32)) := (P7.other W252 (Or.inl (Ne.symm hfl)))
  have f260 : Exa Z h252 v cIN := (P8.wr W252)
  have o261 : Old Z n0 h252 := (P9.wr W252 g_f)
  have z263 : n0 ≤ h252.size := (Nat.le_trans Z0 (Keep.of_wr W252).1)
  obtain ⟨cq262, kq262, q262a, q262b, q262c⟩ := isOf hZ e255 f256
  obtain ⟨r262, _, ⟨T262, L262, k262, n262⟩, -, X262, ⟨Lc262, hQ262, l262, y262, z262⟩, st262⟩ := X255.interfaceBack hx (xi := (⟨cLI, "add", "(Ljava/lang/Object;)Z"⟩ : MethodName)) (y := (⟨cAL, "add", "(Ljava/lang/Object;)Z"⟩ : MethodName)) hown (mvT hZ (tw hw 71 rfl)) (mvT hZ (tw hw 72 rfl)) (mvT hZ (tw hw 73 rfl)) (mvT hZ (tw hw 74 rfl)) (mvT hZ (tw hw 75 rfl)) (mvT hZ (tw hw 76 rfl)) (mvT hZ (tw hw 77 rfl)) (mvT hZ (tw hw 67 rfl)) (by decide) (backOf (W := 0) (rmA1_0 l Z a0 hw [] l_ v de mc h252 n0 z263 f256 f257 f258 f259 f260 o261 zD zN g_l_) hZ (tw hw 78 rfl) (tw hw 21 rfl) (by decide) (by decide)) q262a q262b q262c (g := (mkF m 92 #[vr f, vr v, vi n, vr el] [(.ref v), (.ref l_)])) rfl (by rw [hml]; rfl) (Steps.refl _) (argsL := [(.ref v)]) (rest := []) (lenOf pd__28Ljava_2flang_2fObject_3b_29Z rfl) rfl (by show 2 * 0 + _ ≤ _; exact Nat.le_of_eq rfl) (hb hby d7_92) (fun _ _ => ⟨rfl, e255, (by decide : 0 + 1 ≤ _), (by decide : 0 + 10 ≤ _)⟩)
  dsimp only [Pt.U, Pt.locs, Pt.cells, Pt.slots] at X262 l262 y262 z262 st262 hQ262
  rw [l262, y262, z262] at X262
  clear l262 y262 z262
  obtain ⟨b264, hr262, N262q, K262q, fz_b264, f265, f266, f267, f268, f269⟩ := hQ262
  rw [hr262] at st262
  clear hr262
  have N262 := Fr.app N252 N262q
  refine Go.via (fun _ kQ => st262.trans kQ) ?_
  clear st262
  have f270 : Exa Z h252 f cFI := (P0.wr W252)
  have ne271 : f ≠ b264 := Nat.ne_of_lt (Nat.lt_of_lt_of_le f270.lt fz_b264)
  have ne272 : l_ ≠ b264 := Nat.ne_of_lt (Nat.lt_of_lt_of_le f256.lt fz_b264)
  have ne273 : v ≠ b264 := Nat.ne_of_lt (Nat.lt_of_lt_of_le f260.lt fz_b264)
  have ge274 : n0 ≤ b264 := Nat.le_trans z263 fz_b264
  have k276 : Keep h0 h252 [f, l_] := ((Keep.refl h0 [f, l_]).wr W252 (Or.inl (List.mem_of_getElem? (i := 0) rfl)))
  have sz275 : h0.size ≤ b264 := Nat.le_trans k276.1 fz_b264
  have e262 : T262.heap = T262.heap := rfl
  have f277 : Exa Z T262.heap l_ cAL := f265
  have f278 : Fld Z T262.heap l_ cAB "modCount" "I" (.int (mc + (1 : Int32))) := f266
  have f279 : Fld Z T262.heap l_ cAL "elementData" cOA (.ref b264) := f267
  have f280 : Fld Z T262.heap l_ cAL "size" "I" (.int (1 : Int32)) := f268
  have f281 : Ra Z T262.heap b264 cOB [(.ref v), .null, .null, .null, .null, .null, .null, .null, .null, .null] := f269
  clear X255 e255
  show Go p e below (T262.setTop (mkF m 97 #[vr f, vr v, vi n, vr el] [(.int (1 : Int32))])) _
  refine Go.via (fun _ => XS.pop X262.here hx rfl (hb hby d7_97) rfl rfl) ?_
  show Go p e below (T262.setTop (mkF m 98 #[vr f, vr v, vi n, vr el] [])) _
  refine Go.via (fun _ => XS.aloadN X262.here hx rfl (hb hby d7_98) rfl rfl) ?_
  have k282 : Keep h0 T262.heap [f, l_] := (k276.trans K262q (allS (Or.inl (List.mem_of_getElem? (i := 1) rfl)) all0))
  have f283 : Exa Z T262.heap f cFI := (f270.keep K262q)
  have f284 : Fld Z T262.heap f cFI "part" "Ljava/util/List;" (.ref l_) := (f254.keep K262q (ninS hfl nin0))
  have f285 : Fld Z T262.heap f cFI "overhead" "I" (.int o) := ((P2.other W252 (Or.inr (slot_ne (Or.inr (tw hw 46 rfl)) (Or.inl (tw hw 48 rfl)) (by decide) (t := .int) (t' := .long) (by decide) (by decide)))).keep K262q (ninS hfl nin0))
  have f286 : Fld Z T262.heap f cFI "partBytes" "J" (.long (pb + (n.toInt64))) := (f253.keep K262q (ninS hfl nin0))
  exact Go.fin X262 hlk (v := some (.ref el)) (fun h => by rw [Bd.returns] at h; cases h) (fun fs hr => retOut X262 hx Bd.returns rfl (Or.inr (Or.inr (Or.inr (Or.inr ⟨rfl, rfl, rfl⟩)))) (hb hby d7_99) hr) (by exact ⟨b264, rfl, N262, k282, sz275, f283, f284, f285, f286, f277, f278, f279, f280, f281⟩) (by decide) (by decide)
theorem d7_16 : decode prog_66_method_2_code 16 = .ok (.aload_n 0, 1) := by decide +kernel
theorem d7_17 : decode prog_66_method_2_code 17 = .ok (.getfield 22, 3) := by decide +kernel
theorem d7_20 : decode prog_66_method_2_code 20 = .ok (.lconst 1, 1) := by decide +kernel
theorem d7_21 : decode prog_66_method_2_code 21 = .ok (.ladd, 1) := by decide +kernel
theorem d7_22 : decode prog_66_method_2_code 22 = .ok (.iload_n 2, 1) := by decide +kernel
theorem d7_23 : decode prog_66_method_2_code 23 = .ok (.i2l, 1) := by decide +kernel
theorem d7_24 : decode prog_66_method_2_code 24 = .ok (.ladd, 1) := by decide +kernel
theorem d7_25 : decode prog_66_method_2_code 25 = .ok (.ldc2_w 36, 3) := by decide +kernel
theorem d7_28 : decode prog_66_method_2_code 28 = .ok (.lcmp, 1) := by decide +kernel
theorem d7_29 : decode prog_66_method_2_code 29 = .ok (.ifCond .le 28, 3) := by decide +kernel
theorem d7_79 : decode prog_66_method_2_code 79 = .ok (.iconst 1, 1) := by decide +kernel
theorem d7_80 : decode prog_66_method_2_code 80 = .ok (.iload_n 2, 1) := by decide +kernel
theorem d7_81 : decode prog_66_method_2_code 81 = .ok (.iadd, 1) := by decide +kernel
theorem d7_82 : decode prog_66_method_2_code 82 = .ok (.i2l, 1) := by decide +kernel
def Q_rmFa1 (Z : State) (f : Addr) (v : Addr) (n : Int32) (l_ : Addr) (o : Int32) (pb : Int64) (d : Addr) (mc : Int32) (el : Addr) (x0 : Addr) (h0 : Heap) (n0 : Nat) (vQ : Option Value) (hQ : Heap) (LQ : List Loc) : Prop := vQ = some (.ref el) ∧ Fr n0 LQ ∧ Keep h0 hQ [f, l_, d] ∧ Exa Z hQ f cFI ∧ Fld Z hQ f cFI "part" "Ljava/util/List;" (.ref l_) ∧ Fld Z hQ f cFI "overhead" "I" (.int o) ∧ Fld Z hQ f cFI "partBytes" "J" (.long (pb + (((1 : Int32) + n).toInt64))) ∧ Exa Z hQ l_ cAL ∧ Fld Z hQ l_ cAB "modCount" "I" (.int (mc + (1 : Int32))) ∧ Fld Z hQ l_ cAL "elementData" cOA (.ref d) ∧ Fld Z hQ l_ cAL "size" "I" (.int (2 : Int32)) ∧ Ra Z hQ d cOB [(.ref x0), (.ref v), .null, .null, .null, .null, .null, .null, .null, .null]
set_option maxRecDepth 65536 in
set_option maxHeartbeats 40000000 in
theorem rmFa1 (l : Launch) (Z : State) (a0 : Array Value) (hw : ∀ d ∈ tables_1, d.before a0 Z = true) (ws : List Jvm.Cond) (f : Addr) (v : Addr) (n : Int32) (l_ : Addr) (o : Int32) (pb : Int64) (d : Addr) (mc : Int32) (el : Addr) (x0 : Addr) (h0 : Heap) (n0 : Nat) (Z0 : n0 ≤ h0.size) (P0 : Exa Z h0 f cFI) (P1 : Fld Z h0 f cFI "part" "Ljava/util/List;" (.ref l_)) (P2 : Fld Z h0 f cFI "overhead" "I" (.int o)) (P3 : Fld Z h0 f cFI "partBytes" "J" (.long pb)) (P4 : Exa Z h0 l_ cAL) (P5 : Fld Z h0 l_ cAB "modCount" "I" (.int mc)) (P6 : Fld Z h0 l_ cAL "elementData" cOA (.ref d)) (P7 : Fld Z h0 l_ cAL "size" "I" (.int (1 : Int32))) (P8 : Ra Z h0 d cOB [(.ref x0), .null, .null, .null, .null, .null, .null, .null, .null, .null]) (P9 : Exa Z h0 v cIN) (P10 : Old Z n0 h0) (zL : Sta Z Z.heap cIM "EMPTY_LIST" "Ljava/util/ImmutableCollections$ListN;" (.ref el)) (g_f : n0 ≤ f) (g_l_ : n0 ≤ l_) (g_d : n0 ≤ d) (hfl : f ≠ l_) (hfd : f ≠ d) (hld : l_ ≠ d) (hns : ¬ ((0 : Int32) < (lcmpW ((pb + (1 : Int64)) + (n.toInt64)) (1048576 : Int64)))) :
    MetFree l (⟨cFI, "add", "(Ljava/lang/Object;I)Ljava/util/List;"⟩ : MethodName) (head1 (Jvm.Cond.code (⟨cFI, "add", "(Ljava/lang/Object;I)Ljava/util/List;"⟩ : MethodName) prog_66_method_2_code 4 (some (.object cLI)) :: ws) ({ frames := 2, cells := 0, slots := 0, locals := 28 } : Room)) (fun aQ UQ => aQ = #[(.ref f), (.ref v), (.int n)] ∧ Z.Warmed39 UQ.vm ∧ UQ.heap = h0) (fun _ _ _ _ _ => True) (fun _ UQ oQ UR => ∃ vQ LQ, oQ = .returned vQ ∧ Q_rmFa1 Z f v n l_ o pb d mc el x0 h0 n0 vQ UR.heap LQ ∧ FrameEnd UQ oQ UR LQ ({ frames := 2, cells := 0, slots := 0, locals := 28 } : Room).cells ({ frames := 2, cells := 0, slots := 0, locals := 28 } : Room).slots) := by
  refine MetFree.of_bodySF (plainFor_of_name pn_7) hisR ?_
  intro p e s m args below meth c s₁ Bd hml0 hP hK
  obtain ⟨rfl, hZ, hh⟩ := hP
  have hx := Bd.exec
  have hby := Bd.bytes
  have hlk := Bd.notSynchronized
  have hml : c.maxLocals = 4 := hml0
  have hown : s.vm.findClass cFI = some m.cls := findClass_of_methodNamed Bd.named
  have hnm := (name_of_methodNamed Bd.named Bd.method).1
  have X0 : Stand p l e ({ frames := 2, cells := 0, slots := 0, locals := 28 } : Room) s m #[(.ref f), (.ref v), (.int n)] below meth c s₁ [] 0 0 := Stand.of_body Bd
  have e0 : s₁.heap = h0 := by rw [← hh, Bd.state]; rfl
  have N0 := Fr.nil n0
  show Go p e below _ (Done s (Q_rmFa1 Z f v n l_ o pb d mc el x0 h0 n0) ({ frames := 2, cells := 0, slots := 0, locals := 28 } : Room).cells ({ frames := 2, cells := 0, slots := 0, locals := 28 } : Room).slots)
  refine Go.via (fun tQ kQ => castTop (ef_7 m f v n) kQ) ?_
  show Go p e below (s₁.setTop (mkF m 0 #[vr f, vr v, vi n, .unset] [])) _
  obtain ⟨r287, _, ⟨T287, L287, k287, n287⟩, -, X287, ⟨Lc287, hQ287, l287, y287, z287⟩, st287⟩ := Jvm.LawKit.callS X0 hx (y := (⟨cLI, "of", "()Ljava/util/List;"⟩ : MethodName)) hown (mvT hZ (tw hw 54 rfl)) (mvT hZ (tw hw 55 rfl)) (mvT hZ (tw hw 56 rfl)) (mvT hZ (tw hw 57 rfl)) (by decide) (backOf (W := 0) (rmOf l Z a0 hw []  el h0 n0 Z0 P10 zL) hZ (tw hw 57 rfl) (tw hw 56 rfl) (by decide) (by decide)) (g := (mkF m 0 #[vr f, vr v, vi n, .unset] [])) rfl (by rw [hml]; rfl) (argsL := []) (rest := []) (lenOf pd__28_29Ljava_2futil_2fList_3b rfl) rfl (by show 2 * 0 + _ ≤ _; exact Nat.le_of_eq rfl) (hb hby d7_0) (fun _ _ => ⟨rfl, e0, (by decide : 0 + 0 ≤ _), (by decide : 0 + 0 ≤ _)⟩)
  dsimp only [Pt.U, Pt.locs, Pt.cells, Pt.slots] at X287 l287 y287 z287 st287 hQ287
  rw [l287, y287, z287] at X287
  clear l287 y287 z287
  obtain ⟨hr287, N287q, eh287⟩ := hQ287
  rw [hr287] at st287
  clear hr287
  have N287 := Fr.app N0 N287q
  refine Go.via (st287) ?_
  clear st287
  have e287 : T287.heap = h0 := eh287
  clear X0 e0
  show Go p e below (T287.setTop (mkF m 3 #[vr f, vr v, vi n, .unset] [(.ref el)])) _
  refine Go.via (fun _ => XS.astoreN X287.here hx rfl (hb hby d7_3) rfl rfl (l' := #[vr f, vr v, vi n, vr el]) rfl) ?_
  refine Go.via (fun _ => XS.aloadN X287.here hx rfl (hb hby d7_4) rfl rfl) ?_
  obtain ⟨T288, X288, e288, st288⟩ := getF X287 hx hZ hown (host := "") (Or.inl (tw hw 43 rfl)) Via.refl e287 P1 (g := (mkF m 5 #[vr f, vr v, vi n, vr el] [(.ref f)])) rfl rfl (hb hby d7_5)
  refine Go.via (st288) ?_
  clear st288
  clear X287 e287
  show Go p e below (T288.setTop (mkF m 8 #[vr f, vr v, vi n, vr el] [(.ref l_)])) _
  obtain ⟨cq289, kq289, q289a, q289b, q289c⟩ := isOf hZ e288 P4
  obtain ⟨r289, _, ⟨T289, L289, k289, n289⟩, -, X289, ⟨Lc289, hQ289, l289, y289, z289⟩, st289⟩ := X288.interfaceBack hx (xi := (⟨cLI, "isEmpty", "()Z"⟩ : MethodName)) (y := (⟨cAL, "isEmpty", "()Z"⟩ : MethodName)) hown (mvT hZ (tw hw 60 rfl)) (mvT hZ (tw hw 61 rfl)) (mvT hZ (tw hw 62 rfl)) (mvT hZ (tw hw 63 rfl)) (mvT hZ (tw hw 64 rfl)) (mvT hZ (tw hw 65 rfl)) (mvT hZ (tw hw 66 rfl)) (mvT hZ (tw hw 67 rfl)) (by decide) (backOf (W := 0) (rmEm l Z a0 hw [] l_ (1 : Int32) h0 n0 Z0 P7) hZ (tw hw 68 rfl) (tw hw 21 rfl) (by decide) (by decide)) q289a q289b q289c (g := (mkF m 8 #[vr f, vr v, vi n, vr el] [(.ref l_)])) rfl (by rw [hml]; rfl) (Steps.refl _) (argsL := []) (rest := []) (lenOf pd__28_29Z rfl) rfl (by show 2 * 0 + _ ≤ _; exact Nat.le_of_eq rfl) (hb hby d7_8) (fun _ _ => ⟨rfl, e288, (by decide : 0 + 0 ≤ _), (by decide : 0 + 0 ≤ _)⟩)
  dsimp only [Pt.U, Pt.locs, Pt.cells, Pt.slots] at X289 l289 y289 z289 st289 hQ289
  rw [l289, y289, z289] at X289
  clear l289 y289 z289
  obtain ⟨hr289, N289q, eh289⟩ := hQ289
  rw [hr289] at st289
  clear hr289
  have N289 := Fr.app N287 N289q
  refine Go.via (fun _ kQ => st289.trans kQ) ?_
  clear st289
  have e289 : T289.heap = h0 := eh289
  clear X288 e288
  show Go p e below (T289.setTop (mkF m 13 #[vr f, vr v, vi n, vr el] [(.int (0 : Int32))])) _
  refine Go.via (fun _ => XS.ifNo X289.here hx rfl (hb hby d7_13) rfl ((if0 _ _).trans (teq ((by decide) : (0 : Int32) = (0 : Int32))).2)) ?_
  refine Go.via (fun _ => XS.aloadN X289.here hx rfl (hb hby d7_16) rfl rfl) ?_
  obtain ⟨T290, X290, e290, st290⟩ := getF X289 hx hZ hown (host := "") (Or.inl (tw hw 47 rfl)) Via.refl e289 P3 (g := (mkF m 17 #[vr f, vr v, vi n, vr el] [(.ref f)])) rfl rfl (hb hby d7_17)
  refine Go.via (st290) ?_
  clear st290
  clear X289 e289
  show Go p e below (T290.setTop (mkF m 20 #[vr f, vr v, vi n, vr el] [(.long pb)])) _
  refine Go.via (fun _ => XS.lconst X290.here hx rfl (hb hby d7_20)) ?_
  refine Go.via (fun _ => XS.ladd X290.here hx rfl (hb hby d7_21) rfl) ?_
  show Go p e below (T290.setTop (mkF m 22 #[vr f, vr v, vi n, vr el] [(.long (pb + (1 : Int64)))])) _
  refine Go.via (fun _ => XS.iloadN X290.here hx rfl (hb hby d7_22) rfl) ?_
  refine Go.via (fun _ => XS.i2l X290.here hx rfl (hb hby d7_23) rfl) ?_
  show Go p e below (T290.setTop (mkF m 24 #[vr f, vr v, vi n, vr el] [(.long (n.toInt64)), (.long (pb + (1 : Int64)))])) _
  refine Go.via (fun _ => XS.ladd X290.here hx rfl (hb hby d7_24) rfl) ?_
  show Go p e below (T290.setTop (mkF m 25 #[vr f, vr v, vi n, vr el] [(.long ((pb + (1 : Int64)) + (n.toInt64)))])) _
  refine Go.via (X290.ldc2Long hx hown (mvT hZ (tw hw 115 rfl)) (g := (mkF m 25 #[vr f, vr v, vi n, vr el] [(.long ((pb + (1 : Int64)) + (n.toInt64)))])) rfl (hb hby d7_25)) ?_
  show Go p e below (T290.setTop (mkF m 28 #[vr f, vr v, vi n, vr el] [(.long (1048576 : Int64)), (.long ((pb + (1 : Int64)) + (n.toInt64)))])) _
  refine Go.via (fun _ => XS.lcmp X290.here hx rfl (hb hby d7_28) rfl) ?_
  show Go p e below (T290.setTop (mkF m 29 #[vr f, vr v, vi n, vr el] [(.int (lcmpW ((pb + (1 : Int64)) + (n.toInt64)) (1048576 : Int64)))])) _
  refine Go.via (fun _ => XS.ifYes X290.here hx rfl (pc0 := 29) (pc' := 57) rfl (hb hby d7_29) rfl ((if0 _ _).trans (flt (hns : ¬ ((0 : Int32) < (lcmpW ((pb + (1 : Int64)) + (n.toInt64)) (1048576 : Int64))))).2.2.2) (by decide) (by decide)) ?_
  refine Go.via (fun _ => XS.aloadN X290.here hx rfl (hb hby d7_57) rfl rfl) ?_
  refine Go.via (fun _ => XS.dup X290.here hx rfl (hb hby d7_58) rfl rfl) ?_
  obtain ⟨T291, X291, e291, st291⟩ := getF X290 hx hZ hown (host := "") (Or.inl (tw hw 47 rfl)) Via.refl e290 P3 (g := (mkF m 59 #[vr f, vr v, vi n, vr el] [(.ref f), (.ref f)])) rfl rfl (hb hby d7_59)
  refine Go.via (st291) ?_
  clear st291
  clear X290 e290
  show Go p e below (T291.setTop (mkF m 62 #[vr f, vr v, vi n, vr el] [(.long pb), (.ref f)])) _
  refine Go.via (fun _ => XS.aloadN X291.here hx rfl (hb hby d7_62) rfl rfl) ?_
  obtain ⟨T292, X292, e292, st292⟩ := getF X291 hx hZ hown (host := "") (Or.inl (tw hw 43 rfl)) Via.refl e291 P1 (g := (mkF m 63 #[vr f, vr v, vi n, vr el] [(.ref f), (.long pb), (.ref f)])) rfl rfl (hb hby d7_63)
  refine Go.via (st292) ?_
  clear st292
  clear X291 e291
  show Go p e below (T292.setTop (mkF m 66 #[vr f, vr v, vi n, vr el] [(.ref l_), (.long pb), (.ref f)])) _
  obtain ⟨cq293, kq293, q293a, q293b, q293c⟩ := isOf hZ e292 P4
  obtain ⟨r293, _, ⟨T293, L293, k293, n293⟩, -, X293, ⟨Lc293, hQ293, l293, y293, z293⟩, st293⟩ := X292.interfaceBack hx (xi := (⟨cLI, "isEmpty", "()Z"⟩ : MethodName)) (y := (⟨cAL, "isEmpty", "()Z"⟩ : MethodName)) hown (mvT hZ (tw hw 60 rfl)) (mvT hZ (tw hw 61 rfl)) (mvT hZ (tw hw 62 rfl)) (mvT hZ (tw hw 63 rfl)) (mvT hZ (tw hw 64 rfl)) (mvT hZ (tw hw 65 rfl)) (mvT hZ (tw hw 66 rfl)) (mvT hZ (tw hw 67 rfl)) (by decide) (backOf (W := 3) (rmEm l Z a0 hw [] l_ (1 : Int32) h0 n0 Z0 P7) hZ (tw hw 68 rfl) (tw hw 21 rfl) (by decide) (by decide)) q293a q293b q293c (g := (mkF m 66 #[vr f, vr v, vi n, vr el] [(.ref l_), (.long pb), (.ref f)])) rfl (by rw [hml]; rfl) (Steps.refl _) (argsL := []) (rest := [(.long pb), (.ref f)]) (lenOf pd__28_29Z rfl) rfl (by show 2 * 0 + _ ≤ _; exact Nat.le_of_eq rfl) (hb hby d7_66) (fun _ _ => ⟨rfl, e292, (by decide : 0 + 0 ≤ _), (by decide : 0 + 0 ≤ _)⟩)
  dsimp only [Pt.U, Pt.locs, Pt.cells, Pt.slots] at X293 l293 y293 z293 st293 hQ293
  rw [l293, y293, z293] at X293
  clear l293 y293 z293
  obtain ⟨hr293, N293q, eh293⟩ := hQ293
  rw [hr293] at st293
  clear hr293
  have N293 := Fr.app N289 N293q
  refine Go.via (fun _ kQ => st293.trans kQ) ?_
  clear st293
  have e293 : T293.heap = h0 := eh293
  clear X292 e292
  show Go p e below (T293.setTop (mkF m 71 #[vr f, vr v, vi n, vr el] [(.int (0 : Int32)), (.long pb), (.ref f)])) _
  refine Go.via (fun _ => XS.ifYes X293.here hx rfl (pc0 := 71) (pc' := 79) rfl (hb hby d7_71) rfl ((if0 _ _).trans (teq ((by decide) : (0 : Int32) = (0 : Int32))).1) (by decide) (by decide)) ?_
  refine Go.via (fun _ => XS.iconst X293.here hx rfl (hb hby d7_79)) ?_
  refine Go.via (fun _ => XS.iloadN X293.here hx rfl (hb hby d7_80) rfl) ?_
  refine Go.via (fun _ => XS.iadd X293.here hx rfl (hb hby d7_81) rfl) ?_
  refine Go.via (fun _ => XS.i2l X293.here hx rfl (hb hby d7_82) rfl) ?_
  show Go p e below (T293.setTop (mkF m 83 #[vr f, vr v, vi n, vr el] [(.long (((1 : Int32) + n).toInt64)), (.long pb), (.ref f)])) _
  refine Go.via (fun _ => XS.ladd X293.here hx rfl (hb hby d7_83) rfl) ?_
  show Go p e below (T293.setTop (mkF m 84 #[vr f, vr v, vi n, vr el] [(.long (pb + (((1 : Int32) + n).toInt64))), (.ref f)])) _
  obtain ⟨T294, h294, X294, e294, W294, st294⟩ := putF X293 hx hZ hown (host := "") (Or.inl (tw hw 47 rfl)) Via.refl e293 P3 P0 (Or.inl (tw hw 48 rfl)) (tw hw 11 rfl) (ty := .long) (by decide) rfl rfl (g := (mkF m 84 #[vr f, vr v, vi n, vr el] [(.long (pb + (((1 : Int32) + n).toInt64))), (.ref f)])) rfl rfl (hb hby d7_84)
  refine Go.via (st294) ?_
  clear st294
  have N294 := Fr.snoc X294 N293 g_f
  have f295 : Fld Z h294 f cFI "partBytes" "J" (.long (pb + (((1 : Int32) + n).toInt64))) := P3.same W294
  clear X293 e293
  show Go p e below (T294.setTop (mkF m 87 #[vr f, vr v, vi n, vr el] [])) _
  refine Go.via (fun _ => XS.aloadN X294.here hx rfl (hb hby d7_87) rfl rfl) ?_
  have f296 : Fld Z h294 f cFI "part" "Ljava/util/List;" (.ref l_) := (P1.other W294 (Or.inr (slot_ne (Or.inl (tw hw 44 rfl)) (Or.inl (tw hw 48 rfl)) (by decide) (t := (.object cLI)) (t' := .long) (by decide) (by decide))))
  obtain ⟨T297, X297, e297, st297⟩ := getF X294 hx hZ hown (host := "") (Or.inl (tw hw 43 rfl)) Via.refl e294 f296 (g := (mkF m 88 #[vr f, vr v, vi n, vr el] [(.ref f)])) rfl rfl (hb hby d7_88)
  refine Go.via (st297) ?_
  clear st297
  clear X294 e294
  show Go p e below (T297.setTop (mkF m 91 #[vr f, vr v, vi n, vr el] [(.ref l_)])) _
  refine Go.via (fun _ => XS.aloadN X297.here hx rfl (hb hby d7_91) rfl rfl) ?_
  have f298 : Exa Z h294 l_ cAL := (P4.wr W294)
  have f299 : Fld Z h294 l_ cAB "modCount" "I" (.int mc) := (P5.other W294 (Or.inl (Ne.symm hfl)))
  have f300 : Fld Z h294 l_ cAL "elementData" cOA (.ref d) := (P6.other W294 (Or.inl (Ne.symm hfl)))
  have f301 : Fld Z h294 l_ cAL "size" "I" (.int (1 : Int32)) := (P7.other W294 (Or.inl (Ne.symm hfl)))
  have f302 : Ra Z h294 d cOB [(.ref x0), .null, .null, .null, .null, .null, .null, .null, .null, .null] := (P8.other W294 (Ne.symm hfd))
  have f303 : Exa Z h294 v cIN := (P9.wr W294)
  have z305 : n0 ≤ h294.size := (Nat.le_trans Z0 (Keep.of_wr W294).1)
  obtain ⟨cq304, kq304, q304a, q304b, q304c⟩ := isOf hZ e297 f298
  obtain ⟨r304, _, ⟨T304, L304, k304, n304⟩, -, X304, ⟨Lc304, hQ304, l304, y304, z304⟩, st304⟩ := X297.interfaceBack hx (xi := (⟨cLI, "add", "(Ljava/lang/Object;)Z"⟩ : MethodName)) (y := (⟨cAL, "add", "(Ljava/lang/Object;)Z"⟩ : MethodName)) hown (mvT hZ (tw hw 71 rfl)) (mvT hZ (tw hw 72 rfl)) (mvT hZ (tw hw 73 rfl)) (mvT hZ (tw hw 74 rfl)) (mvT hZ (tw hw 75 rfl)) (mvT hZ (tw hw 76 rfl)) (mvT hZ (tw hw 77 rfl)) (mvT hZ (tw hw 67 rfl)) (by decide) (backOf (W := 0) (rmA1_1 l Z a0 hw [] l_ v d mc x0 h294 n0 z305 f298 f299 f300 f301 f302 f303 g_l_ g_d hld) hZ (tw hw 78 rfl) (tw hw 21 rfl) (by decide) (by decide)) q304a q304b q304c (g := (mkF m 92 #[vr f, vr v, vi n, vr el] [(.ref v), (.ref l_)])) rfl (by rw [hml]; rfl) (Steps.refl _) (argsL := [(.ref v)]) (rest := []) (lenOf pd__28Ljava_2flang_2fObject_3b_29Z rfl) rfl (by show 2 * 0 + _ ≤ _; exact Nat.le_of_eq rfl) (hb hby d7_92) (fun _ _ => ⟨rfl, e297, (by decide : 0 + 0 ≤ _), (by decide : 0 + 0 ≤ _)⟩)
  dsimp only [Pt.U, Pt.locs, Pt.cells, Pt.slots] at X304 l304 y304 z304 st304 hQ304
  rw [l304, y304, z304] at X304
  clear l304 y304 z304
  obtain ⟨hr304, N304q, K304q, f306, f307, f308, f309, f310⟩ := hQ304
  rw [hr304] at st304
  clear hr304
  have N304 := Fr.app N294 N304q
  refine Go.via (fun _ kQ => st304.trans kQ) ?_
  clear st304
  have e304 : T304.heap = T304.heap := rfl
  have f311 : Exa Z T304.heap l_ cAL := f306
  have f312 : Fld Z T304.heap l_ cAB "modCount" "I" (.int (mc + (1 : Int32))) := f307
  have f313 : Fld Z T304.heap l_ cAL "elementData" cOA (.ref d) := f308
  have f314 : Fld Z T304.heap l_ cAL "size" "I" (.int (2 : Int32)) := f309
  have f315 : Ra Z T304.heap d cOB [(.ref x0), (.ref v), .null, .null, .null, .null, .null, .null, .null, .null] := f310
  clear X297 e297
  show Go p e below (T304.setTop (mkF m 97 #[vr f, vr v, vi n, vr el] [(.int (1 : Int32))])) _
  refine Go.via (fun _ => XS.pop X304.here hx rfl (hb hby d7_97) rfl rfl) ?_
  show Go p e below (T304.setTop (mkF m 98 #[vr f, vr v, vi n, vr el] [])) _
  refine Go.via (fun _ => XS.aloadN X304.here hx rfl (hb hby d7_98) rfl rfl) ?_
  have k316 : Keep h0 T304.heap [f, l_, d] := (((Keep.refl h0 [f, l_, d]).wr W294 (Or.inl (List.mem_of_getElem? (i := 0) rfl))).trans K304q (allS (Or.inl (List.mem_of_getElem? (i := 1) rfl)) (allS (Or.inl (List.mem_of_getElem? (i := 2) rfl)) all0)))
  have f317 : Exa Z T304.heap f cFI := ((P0.wr W294).keep K304q)
  have f318 : Fld Z T304.heap f cFI "part" "Ljava/util/List;" (.ref l_) := (f296.keep K304q (ninS hfl (ninS hfd nin0)))
  have f319 : Fld Z T304.heap f cFI "overhead" "I" (.int o) := ((P2.other W294 (Or.inr (slot_ne (Or.inr (tw hw 46 rfl)) (Or.inl (tw hw 48 rfl)) (by decide) (t := .int) (t' := .long) (by decide) (by decide)))).keep K304q (ninS hfl (ninS hfd nin0)))
  have f320 : Fld Z T304.heap f cFI "partBytes" "J" (.long (pb + (((1 : Int32) + n).toInt64))) := (f295.keep K304q (ninS hfl (ninS hfd nin0)))
  exact Go.fin X304 hlk (v := some (.ref el)) (fun h => by rw [Bd.returns] at h; cases h) (fun fs hr => retOut X304 hx Bd.returns rfl (Or.inr (Or.inr (Or.inr (Or.inr ⟨rfl, rfl, rfl⟩)))) (hb hby d7_99) hr) (by exact ⟨rfl, N304, k316, f317, f318, f319, f320, f311, f312, f313, f314, f315⟩) (by decide) (by decide)
def Q_rmFa2 (Z : State) (f : Addr) (v : Addr) (n : Int32) (l_ : Addr) (o : Int32) (pb : Int64) (d : Addr) (mc : Int32) (el : Addr) (x0 : Addr) (x1 : Addr) (h0 : Heap) (n0 : Nat) (vQ : Option Value) (hQ : Heap) (LQ : List Loc) : Prop := vQ = some (.ref el) ∧ Fr n0 LQ ∧ Keep h0 hQ [f, l_, d] ∧ Exa Z hQ f cFI ∧ Fld Z hQ f cFI "part" "Ljava/util/List;" (.ref l_) ∧ Fld Z hQ f cFI "overhead" "I" (.int o) ∧ Fld Z hQ f cFI "partBytes" "J" (.long (pb + (((1 : Int32) + n).toInt64))) ∧ Exa Z hQ l_ cAL ∧ Fld Z hQ l_ cAB "modCount" "I" (.int (mc + (1 : Int32))) ∧ Fld Z hQ l_ cAL "elementData" cOA (.ref d) ∧ Fld Z hQ l_ cAL "size" "I" (.int (3 : Int32)) ∧ Ra Z hQ d cOB [(.ref x0), (.ref x1), (.ref v), .null, .null, .null, .null, .null, .null, .null]
set_option maxRecDepth 65536 in
set_option maxHeartbeats 40000000 in
theorem rmFa2 (l : Launch) (Z : State) (a0 : Array Value) (hw : ∀ d ∈ tables_1, d.before a0 Z = true) (ws : List Jvm.Cond) (f : Addr) (v : Addr) (n : Int32) (l_ : Addr) (o : Int32) (pb : Int64) (d : Addr) (mc : Int32) (el : Addr) (x0 : Addr) (x1 : Addr) (h0 : Heap) (n0 : Nat) (Z0 : n0 ≤ h0.size) (P0 : Exa Z h0 f cFI) (P1 : Fld Z h0 f cFI "part" "Ljava/util/List;" (.ref l_)) (P2 : Fld Z h0 f cFI "overhead" "I" (.int o)) (P3 : Fld Z h0 f cFI "partBytes" "J" (.long pb)) (P4 : Exa Z h0 l_ cAL) (P5 : Fld Z h0 l_ cAB "modCount" "I" (.int mc)) (P6 : Fld Z h0 l_ cAL "elementData" cOA (.ref d)) (P7 : Fld Z h0 l_ cAL "size" "I" (.int (2 : Int32))) (P8 : Ra Z h0 d cOB [(.ref x0), (.ref x1), .null, .null, .null, .null, .null, .null, .null, .null]) (P9 : Exa Z h0 v cIN) (P10 : Old Z n0 h0) (zL : Sta Z Z.heap cIM "EMPTY_LIST" "Ljava/util/ImmutableCollections$ListN;" (.ref el)) (g_f : n0 ≤ f) (g_l_ : n0 ≤ l_) (g_d : n0 ≤ d) (hfl : f ≠ l_) (hfd : f ≠ d) (hld : l_ ≠ d) (hns : ¬ ((0 : Int32) < (lcmpW ((pb + (1 : Int64)) + (n.toInt64)) (1048576 : Int64)))) :
    MetFree l (⟨cFI, "add", "(Ljava/lang/Object;I)Ljava/util/List;"⟩ : MethodName) (head1 (Jvm.Cond.code (⟨cFI, "add", "(Ljava/lang/Object;I)Ljava/util/List;"⟩ : MethodName) prog_66_method_2_code 4 (some (.object cLI)) :: ws) ({ frames := 2, cells := 0, slots := 0, locals := 28 } : Room)) (fun aQ UQ => aQ = #[(.ref f), (.ref v), (.int n)] ∧ Z.Warmed39 UQ.vm ∧ UQ.heap = h0) (fun _ _ _ _ _ => True) (fun _ UQ oQ UR => ∃ vQ LQ, oQ = .returned vQ ∧ Q_rmFa2 Z f v n l_ o pb d mc el x0 x1 h0 n0 vQ UR.heap LQ ∧ FrameEnd UQ oQ UR LQ ({ frames := 2, cells := 0, slots := 0, locals := 28 } : Room).cells ({ frames := 2, cells := 0, slots := 0, locals := 28 } : Room).slots) := by
  refine MetFree.of_bodySF (plainFor_of_name pn_7) hisR ?_
  intro p e s m args below meth c s₁ Bd hml0 hP hK
  obtain ⟨rfl, hZ, hh⟩ := hP
  have hx := Bd.exec
  have hby := Bd.bytes
  have hlk := Bd.notSynchronized
  have hml : c.maxLocals = 4 := hml0
  have hown : s.vm.findClass cFI = some m.cls := findClass_of_methodNamed Bd.named
  have hnm := (name_of_methodNamed Bd.named Bd.method).1
  have X0 : Stand p l e ({ frames := 2, cells := 0, slots := 0, locals := 28 } : Room) s m #[(.ref f), (.ref v), (.int n)] below meth c s₁ [] 0 0 := Stand.of_body Bd
  have e0 : s₁.heap = h0 := by rw [← hh, Bd.state]; rfl
  have N0 := Fr.nil n0
  show Go p e below _ (Done s (Q_rmFa2 Z f v n l_ o pb d mc el x0 x1 h0 n0) ({ frames := 2, cells := 0, slots := 0, locals := 28 } : Room).cells ({ frames := 2, cells := 0, slots := 0, locals := 28 } : Room).slots)
  refine Go.via (fun tQ kQ => castTop (ef_7 m f v n) kQ) ?_
  show Go p e below (s₁.setTop (mkF m 0 #[vr f, vr v, vi n, .unset] [])) _
  obtain ⟨r321, _, ⟨T321, L321, k321, n321⟩, -, X321, ⟨Lc321, hQ321, l321, y321, z321⟩, st321⟩ := Jvm.LawKit.callS X0 hx (y := (⟨cLI, "of", "()Ljava/util/List;"⟩ : MethodName)) hown (mvT hZ (tw hw 54 rfl)) (mvT hZ (tw hw 55 rfl)) (mvT hZ (tw hw 56 rfl)) (mvT hZ (tw hw 57 rfl)) (by decide) (backOf (W := 0) (rmOf l Z a0 hw []  el h0 n0 Z0 P10 zL) hZ (tw hw 57 rfl) (tw hw 56 rfl) (by decide) (by decide)) (g := (mkF m 0 #[vr f, vr v, vi n, .unset] [])) rfl (by rw [hml]; rfl) (argsL := []) (rest := []) (lenOf pd__28_29Ljava_2futil_2fList_3b rfl) rfl (by show 2 * 0 + _ ≤ _; exact Nat.le_of_eq rfl) (hb hby d7_0) (fun _ _ => ⟨rfl, e0, (by decide : 0 + 0 ≤ _), (by decide : 0 + 0 ≤ _)⟩)
  dsimp only [Pt.U, Pt.locs, Pt.cells, Pt.slots] at X321 l321 y321 z321 st321 hQ321
  rw [l321, y321, z321] at X321
  clear l321 y321 z321
  obtain ⟨hr321, N321q, eh321⟩ := hQ321
  rw [hr321] at st321
  clear hr321
  have N321 := Fr.app N0 N321q
  refine Go.via (st321) ?_
  clear st321
  have e321 : T321.heap = h0 := eh321
  clear X0 e0
  show Go p e below (T321.setTop (mkF m 3 #[vr f, vr v, vi n, .unset] [(.ref el)])) _
  refine Go.via (fun _ => XS.astoreN X321.here hx rfl (hb hby d7_3) rfl rfl (l' := #[vr f, vr v, vi n, vr el]) rfl) ?_
  refine Go.via (fun _ => XS.aloadN X321.here hx rfl (hb hby d7_4) rfl rfl) ?_
  obtain ⟨T322, X322, e322, st322⟩ := getF X321 hx hZ hown (host := "") (Or.inl (tw hw 43 rfl)) Via.refl e321 P1 (g := (mkF m 5 #[vr f, vr v, vi n, vr el] [(.ref f)])) rfl rfl (hb hby d7_5)
  refine Go.via (st322) ?_
  clear st322
  clear X321 e321
  show Go p e below (T322.setTop (mkF m 8 #[vr f, vr v, vi n, vr el] [(.ref l_)])) _
  obtain ⟨cq323, kq323, q323a, q323b, q323c⟩ := isOf hZ e322 P4
  obtain ⟨r323, _, ⟨T323, L323, k323, n323⟩, -, X323, ⟨Lc323, hQ323, l323, y323, z323⟩, st323⟩ := X322.interfaceBack hx (xi := (⟨cLI, "isEmpty", "()Z"⟩ : MethodName)) (y := (⟨cAL, "isEmpty", "()Z"⟩ : MethodName)) hown (mvT hZ (tw hw 60 rfl)) (mvT hZ (tw hw 61 rfl)) (mvT hZ (tw hw 62 rfl)) (mvT hZ (tw hw 63 rfl)) (mvT hZ (tw hw 64 rfl)) (mvT hZ (tw hw 65 rfl)) (mvT hZ (tw hw 66 rfl)) (mvT hZ (tw hw 67 rfl)) (by decide) (backOf (W := 0) (rmEm l Z a0 hw [] l_ (2 : Int32) h0 n0 Z0 P7) hZ (tw hw 68 rfl) (tw hw 21 rfl) (by decide) (by decide)) q323a q323b q323c (g := (mkF m 8 #[vr f, vr v, vi n, vr el] [(.ref l_)])) rfl (by rw [hml]; rfl) (Steps.refl _) (argsL := []) (rest := []) (lenOf pd__28_29Z rfl) rfl (by show 2 * 0 + _ ≤ _; exact Nat.le_of_eq rfl) (hb hby d7_8) (fun _ _ => ⟨rfl, e322, (by decide : 0 + 0 ≤ _), (by decide : 0 + 0 ≤ _)⟩)
  dsimp only [Pt.U, Pt.locs, Pt.cells, Pt.slots] at X323 l323 y323 z323 st323 hQ323
  rw [l323, y323, z323] at X323
  clear l323 y323 z323
  obtain ⟨hr323, N323q, eh323⟩ := hQ323
  rw [hr323] at st323
  clear hr323
  have N323 := Fr.app N321 N323q
  refine Go.via (fun _ kQ => st323.trans kQ) ?_
  clear st323
  have e323 : T323.heap = h0 := eh323
  clear X322 e322
  show Go p e below (T323.setTop (mkF m 13 #[vr f, vr v, vi n, vr el] [(.int (0 : Int32))])) _
  refine Go.via (fun _ => XS.ifNo X323.here hx rfl (hb hby d7_13) rfl ((if0 _ _).trans (teq ((by decide) : (0 : Int32) = (0 : Int32))).2)) ?_
  refine Go.via (fun _ => XS.aloadN X323.here hx rfl (hb hby d7_16) rfl rfl) ?_
  obtain ⟨T324, X324, e324, st324⟩ := getF X323 hx hZ hown (host := "") (Or.inl (tw hw 47 rfl)) Via.refl e323 P3 (g := (mkF m 17 #[vr f, vr v, vi n, vr el] [(.ref f)])) rfl rfl (hb hby d7_17)
  refine Go.via (st324) ?_
  clear st324
  clear X323 e323
  show Go p e below (T324.setTop (mkF m 20 #[vr f, vr v, vi n, vr el] [(.long pb)])) _
  refine Go.via (fun _ => XS.lconst X324.here hx rfl (hb hby d7_20)) ?_
  refine Go.via (fun _ => XS.ladd X324.here hx rfl (hb hby d7_21) rfl) ?_
  show Go p e below (T324.setTop (mkF m 22 #[vr f, vr v, vi n, vr el] [(.long (pb + (1 : Int64)))])) _
  refine Go.via (fun _ => XS.iloadN X324.here hx rfl (hb hby d7_22) rfl) ?_
  refine Go.via (fun _ => XS.i2l X324.here hx rfl (hb hby d7_23) rfl) ?_
  show Go p e below (T324.setTop (mkF m 24 #[vr f, vr v, vi n, vr el] [(.long (n.toInt64)), (.long (pb + (1 : Int64)))])) _
  refine Go.via (fun _ => XS.ladd X324.here hx rfl (hb hby d7_24) rfl) ?_
  show Go p e below (T324.setTop (mkF m 25 #[vr f, vr v, vi n, vr el] [(.long ((pb + (1 : Int64)) + (n.toInt64)))])) _
  refine Go.via (X324.ldc2Long hx hown (mvT hZ (tw hw 115 rfl)) (g := (mkF m 25 #[vr f, vr v, vi n, vr el] [(.long ((pb + (1 : Int64)) + (n.toInt64)))])) rfl (hb hby d7_25)) ?_
  show Go p e below (T324.setTop (mkF m 28 #[vr f, vr v, vi n, vr el] [(.long (1048576 : Int64)), (.long ((pb + (1 : Int64)) + (n.toInt64)))])) _
  refine Go.via (fun _ => XS.lcmp X324.here hx rfl (hb hby d7_28) rfl) ?_
  show Go p e below (T324.setTop (mkF m 29 #[vr f, vr v, vi n, vr el] [(.int (lcmpW ((pb + (1 : Int64)) + (n.toInt64)) (1048576 : Int64)))])) _
  refine Go.via (fun _ => XS.ifYes X324.here hx rfl (pc0 := 29) (pc' := 57) rfl (hb hby d7_29) rfl ((if0 _ _).trans (flt (hns : ¬ ((0 : Int32) < (lcmpW ((pb + (1 : Int64)) + (n.toInt64)) (1048576 : Int64))))).2.2.2) (by decide) (by decide)) ?_
  refine Go.via (fun _ => XS.aloadN X324.here hx rfl (hb hby d7_57) rfl rfl) ?_
  refine Go.via (fun _ => XS.dup X324.here hx rfl (hb hby d7_58) rfl rfl) ?_
  obtain ⟨T325, X325, e325, st325⟩ := getF X324 hx hZ hown (host := "") (Or.inl (tw hw 47 rfl)) Via.refl e324 P3 (g := (mkF m 59 #[vr f, vr v, vi n, vr el] [(.ref f), (.ref f)])) rfl rfl (hb hby d7_59)
  refine Go.via (st325) ?_
  clear st325
  clear X324 e324
  show Go p e below (T325.setTop (mkF m 62 #[vr f, vr v, vi n, vr el] [(.long pb), (.ref f)])) _
  refine Go.via (fun _ => XS.aloadN X325.here hx rfl (hb hby d7_62) rfl rfl) ?_
  obtain ⟨T326, X326, e326, st326⟩ := getF X325 hx hZ hown (host := "") (Or.inl (tw hw 43 rfl)) Via.refl e325 P1 (g := (mkF m 63 #[vr f, vr v, vi n, vr el] [(.ref f), (.long pb), (.ref f)])) rfl rfl (hb hby d7_63)
  refine Go.via (st326) ?_
  clear st326
  clear X325 e325
  show Go p e below (T326.setTop (mkF m 66 #[vr f, vr v, vi n, vr el] [(.ref l_), (.long pb), (.ref f)])) _
  obtain ⟨cq327, kq327, q327a, q327b, q327c⟩ := isOf hZ e326 P4
  obtain ⟨r327, _, ⟨T327, L327, k327, n327⟩, -, X327, ⟨Lc327, hQ327, l327, y327, z327⟩, st327⟩ := X326.interfaceBack hx (xi := (⟨cLI, "isEmpty", "()Z"⟩ : MethodName)) (y := (⟨cAL, "isEmpty", "()Z"⟩ : MethodName)) hown (mvT hZ (tw hw 60 rfl)) (mvT hZ (tw hw 61 rfl)) (mvT hZ (tw hw 62 rfl)) (mvT hZ (tw hw 63 rfl)) (mvT hZ (tw hw 64 rfl)) (mvT hZ (tw hw 65 rfl)) (mvT hZ (tw hw 66 rfl)) (mvT hZ (tw hw 67 rfl)) (by decide) (backOf (W := 3) (rmEm l Z a0 hw [] l_ (2 : Int32) h0 n0 Z0 P7) hZ (tw hw 68 rfl) (tw hw 21 rfl) (by decide) (by decide)) q327a q327b q327c (g := (mkF m 66 #[vr f, vr v, vi n, vr el] [(.ref l_), (.long pb), (.ref f)])) rfl (by rw [hml]; rfl) (Steps.refl _) (argsL := []) (rest := [(.long pb), (.ref f)]) (lenOf pd__28_29Z rfl) rfl (by show 2 * 0 + _ ≤ _; exact Nat.le_of_eq rfl) (hb hby d7_66) (fun _ _ => ⟨rfl, e326, (by decide : 0 + 0 ≤ _), (by decide : 0 + 0 ≤ _)⟩)
  dsimp only [Pt.U, Pt.locs, Pt.cells, Pt.slots] at X327 l327 y327 z327 st327 hQ327
  rw [l327, y327, z327] at X327
  clear l327 y327 z327
  obtain ⟨hr327, N327q, eh327⟩ := hQ327
  rw [hr327] at st327
  clear hr327
  have N327 := Fr.app N323 N327q
  refine Go.via (fun _ kQ => st327.trans kQ) ?_
  clear st327
  have e327 : T327.heap = h0 := eh327
  clear X326 e326
  show Go p e below (T327.setTop (mkF m 71 #[vr f, vr v, vi n, vr el] [(.int (0 : Int32)), (.long pb), (.ref f)])) _
  refine Go.via (fun _ => XS.ifYes X327.here hx rfl (pc0 := 71) (pc' := 79) rfl (hb hby d7_71) rfl ((if0 _ _).trans (teq ((by decide) : (0 : Int32) = (0 : Int32))).1) (by decide) (by decide)) ?_
  refine Go.via (fun _ => XS.iconst X327.here hx rfl (hb hby d7_79)) ?_
  refine Go.via (fun _ => XS.iloadN X327.here hx rfl (hb hby d7_80) rfl) ?_
  refine Go.via (fun _ => XS.iadd X327.here hx rfl (hb hby d7_81) rfl) ?_
  refine Go.via (fun _ => XS.i2l X327.here hx rfl (hb hby d7_82) rfl) ?_
  show Go p e below (T327.setTop (mkF m 83 #[vr f, vr v, vi n, vr el] [(.long (((1 : Int32) + n).toInt64)), (.long pb), (.ref f)])) _
  refine Go.via (fun _ => XS.ladd X327.here hx rfl (hb hby d7_83) rfl) ?_
  show Go p e below (T327.setTop (mkF m 84 #[vr f, vr v, vi n, vr el] [(.long (pb + (((1 : Int32) + n).toInt64))), (.ref f)])) _
  obtain ⟨T328, h328, X328, e328, W328, st328⟩ := putF X327 hx hZ hown (host := "") (Or.inl (tw hw 47 rfl)) Via.refl e327 P3 P0 (Or.inl (tw hw 48 rfl)) (tw hw 11 rfl) (ty := .long) (by decide) rfl rfl (g := (mkF m 84 #[vr f, vr v, vi n, vr el] [(.long (pb + (((1 : Int32) + n).toInt64))), (.ref f)])) rfl rfl (hb hby d7_84)
  refine Go.via (st328) ?_
  clear st328
  have N328 := Fr.snoc X328 N327 g_f
  have f329 : Fld Z h328 f cFI "partBytes" "J" (.long (pb + (((1 : Int32) + n).toInt64))) := P3.same W328
  clear X327 e327
  show Go p e below (T328.setTop (mkF m 87 #[vr f, vr v, vi n, vr el] [])) _
  refine Go.via (fun _ => XS.aloadN X328.here hx rfl (hb hby d7_87) rfl rfl) ?_
  have f330 : Fld Z h328 f cFI "part" "Ljava/util/List;" (.ref l_) := (P1.other W328 (Or.inr (slot_ne (Or.inl (tw hw 44 rfl)) (Or.inl (tw hw 48 rfl)) (by decide) (t := (.object cLI)) (t' := .long) (by decide) (by decide))))
  obtain ⟨T331, X331, e331, st331⟩ := getF X328 hx hZ hown (host := "") (Or.inl (tw hw 43 rfl)) Via.refl e328 f330 (g := (mkF m 88 #[vr f, vr v, vi n, vr el] [(.ref f)])) rfl rfl (hb hby d7_88)
  refine Go.via (st331) ?_
  clear st331
  clear X328 e328
  show Go p e below (T331.setTop (mkF m 91 #[vr f, vr v, vi n, vr el] [(.ref l_)])) _
  refine Go.via (fun _ => XS.aloadN X331.here hx rfl (hb hby d7_91) rfl rfl) ?_
  have f332 : Exa Z h328 l_ cAL := (P4.wr W328)
  have f333 : Fld Z h328 l_ cAB "modCount" "I" (.int mc) := (P5.other W328 (Or.inl (Ne.symm hfl)))
  have f334 : Fld Z h328 l_ cAL "elementData" cOA (.ref d) := (P6.other W328 (Or.inl (Ne.symm hfl)))
  have f335 : Fld Z h328 l_ cAL "size" "I" (.int (2 : Int32)) := (P7.other W328 (Or.inl (Ne.symm hfl)))
  have f336 : Ra Z h328 d cOB [(.ref x0), (.ref x1), .null, .null, .null, .null, .null, .null, .null, .null] := (P8.other W328 (Ne.symm hfd))
  have f337 : Exa Z h328 v cIN := (P9.wr W328)
  have z339 : n0 ≤ h328.size := (Nat.le_trans Z0 (Keep.of_wr W328).1)
  obtain ⟨cq338, kq338, q338a, q338b, q338c⟩ := isOf hZ e331 f332
  obtain ⟨r338, _, ⟨T338, L338, k338, n338⟩, -, X338, ⟨Lc338, hQ338, l338, y338, z338⟩, st338⟩ := X331.interfaceBack hx (xi := (⟨cLI, "add", "(Ljava/lang/Object;)Z"⟩ : MethodName)) (y := (⟨cAL, "add", "(Ljava/lang/Object;)Z"⟩ : MethodName)) hown (mvT hZ (tw hw 71 rfl)) (mvT hZ (tw hw 72 rfl)) (mvT hZ (tw hw 73 rfl)) (mvT hZ (tw hw 74 rfl)) (mvT hZ (tw hw 75 rfl)) (mvT hZ (tw hw 76 rfl)) (mvT hZ (tw hw 77 rfl)) (mvT hZ (tw hw 67 rfl)) (by decide) (backOf (W := 0) (rmA1_2 l Z a0 hw [] l_ v d mc x0 x1 h328 n0 z339 f332 f333 f334 f335 f336 f337 g_l_ g_d hld) hZ (tw hw 78 rfl) (tw hw 21 rfl) (by decide) (by decide)) q338a q338b q338c (g := (mkF m 92 #[vr f, vr v, vi n, vr el] [(.ref v), (.ref l_)])) rfl (by rw [hml]; rfl) (Steps.refl _) (argsL := [(.ref v)]) (rest := []) (lenOf pd__28Ljava_2flang_2fObject_3b_29Z rfl) rfl (by show 2 * 0 + _ ≤ _; exact Nat.le_of_eq rfl) (hb hby d7_92) (fun _ _ => ⟨rfl, e331, (by decide : 0 + 0 ≤ _), (by decide : 0 + 0 ≤ _)⟩)
  dsimp only [Pt.U, Pt.locs, Pt.cells, Pt.slots] at X338 l338 y338 z338 st338 hQ338
  rw [l338, y338, z338] at X338
  clear l338 y338 z338
  obtain ⟨hr338, N338q, K338q, f340, f341, f342, f343, f344⟩ := hQ338
  rw [hr338] at st338
  clear hr338
  have N338 := Fr.app N328 N338q
  refine Go.via (fun _ kQ => st338.trans kQ) ?_
  clear st338
  have e338 : T338.heap = T338.heap := rfl
  have f345 : Exa Z T338.heap l_ cAL := f340
  have f346 : Fld Z T338.heap l_ cAB "modCount" "I" (.int (mc + (1 : Int32))) := f341
  have f347 : Fld Z T338.heap l_ cAL "elementData" cOA (.ref d) := f342
  have f348 : Fld Z T338.heap l_ cAL "size" "I" (.int (3 : Int32)) := f343
  have f349 : Ra Z T338.heap d cOB [(.ref x0), (.ref x1), (.ref v), .null, .null, .null, .null, .null, .null, .null] := f344
  clear X331 e331
  show Go p e below (T338.setTop (mkF m 97 #[vr f, vr v, vi n, vr el] [(.int (1 : Int32))])) _
  refine Go.via (fun _ => XS.pop X338.here hx rfl (hb hby d7_97) rfl rfl) ?_
  show Go p e below (T338.setTop (mkF m 98 #[vr f, vr v, vi n, vr el] [])) _
  refine Go.via (fun _ => XS.aloadN X338.here hx rfl (hb hby d7_98) rfl rfl) ?_
  have k350 : Keep h0 T338.heap [f, l_, d] := (((Keep.refl h0 [f, l_, d]).wr W328 (Or.inl (List.mem_of_getElem? (i := 0) rfl))).trans K338q (allS (Or.inl (List.mem_of_getElem? (i := 1) rfl)) (allS (Or.inl (List.mem_of_getElem? (i := 2) rfl)) all0)))
  have f351 : Exa Z T338.heap f cFI := ((P0.wr W328).keep K338q)
  have f352 : Fld Z T338.heap f cFI "part" "Ljava/util/List;" (.ref l_) := (f330.keep K338q (ninS hfl (ninS hfd nin0)))
  have f353 : Fld Z T338.heap f cFI "overhead" "I" (.int o) := ((P2.other W328 (Or.inr (slot_ne (Or.inr (tw hw 46 rfl)) (Or.inl (tw hw 48 rfl)) (by decide) (t := .int) (t' := .long) (by decide) (by decide)))).keep K338q (ninS hfl (ninS hfd nin0)))
  have f354 : Fld Z T338.heap f cFI "partBytes" "J" (.long (pb + (((1 : Int32) + n).toInt64))) := (f329.keep K338q (ninS hfl (ninS hfd nin0)))
  exact Go.fin X338 hlk (v := some (.ref el)) (fun h => by rw [Bd.returns] at h; cases h) (fun fs hr => retOut X338 hx Bd.returns rfl (Or.inr (Or.inr (Or.inr (Or.inr ⟨rfl, rfl, rfl⟩)))) (hb hby d7_99) hr) (by exact ⟨rfl, N338, k350, f351, f352, f353, f354, f345, f346, f347, f348, f349⟩) (by decide) (by decide)
theorem d7_32 : decode prog_66_method_2_code 32 = .ok (.aload_n 0, 1) := by decide +kernel
theorem d7_33 : decode prog_66_method_2_code 33 = .ok (.getfield 12, 3) := by decide +kernel
theorem d7_36 : decode prog_66_method_2_code 36 = .ok (.astore_n 3, 1) := by decide +kernel
theorem d7_37 : decode prog_66_method_2_code 37 = .ok (.aload_n 0, 1) := by decide +kernel
theorem d7_38 : decode prog_66_method_2_code 38 = .ok (.new 9, 3) := by decide +kernel
theorem d7_41 : decode prog_66_method_2_code 41 = .ok (.dup, 1) := by decide +kernel
theorem d7_42 : decode prog_66_method_2_code 42 = .ok (.invokespecial 11, 3) := by decide +kernel
theorem d7_45 : decode prog_66_method_2_code 45 = .ok (.putfield 12, 3) := by decide +kernel
theorem d7_48 : decode prog_66_method_2_code 48 = .ok (.aload_n 0, 1) := by decide +kernel
theorem d7_49 : decode prog_66_method_2_code 49 = .ok (.aload_n 0, 1) := by decide +kernel
theorem d7_50 : decode prog_66_method_2_code 50 = .ok (.getfield 18, 3) := by decide +kernel
theorem d7_53 : decode prog_66_method_2_code 53 = .ok (.i2l, 1) := by decide +kernel
theorem d7_54 : decode prog_66_method_2_code 54 = .ok (.putfield 22, 3) := by decide +kernel
def Q_rmFs1 (Z : State) (f : Addr) (v : Addr) (n : Int32) (l_ : Addr) (o : Int32) (pb : Int64) (d : Addr) (mc : Int32) (el : Addr) (x0 : Addr) (de : Addr) (h0 : Heap) (n0 : Nat) (vQ : Option Value) (hQ : Heap) (LQ : List Loc) : Prop := ∃ l2 : Addr, ∃ r : Addr, vQ = some (.ref l_) ∧ Fr n0 LQ ∧ Keep h0 hQ [f] ∧ h0.size ≤ l2 ∧ h0.size ≤ r ∧ Exa Z hQ f cFI ∧ Fld Z hQ f cFI "part" "Ljava/util/List;" (.ref l2) ∧ Fld Z hQ f cFI "overhead" "I" (.int o) ∧ Fld Z hQ f cFI "partBytes" "J" (.long ((o.toInt64) + (n.toInt64))) ∧ Exa Z hQ l2 cAL ∧ Fld Z hQ l2 cAB "modCount" "I" (.int ((0 : Int32) + (1 : Int32))) ∧ Fld Z hQ l2 cAL "elementData" cOA (.ref r) ∧ Fld Z hQ l2 cAL "size" "I" (.int (1 : Int32)) ∧ Ra Z hQ r cOB [(.ref v), .null, .null, .null, .null, .null, .null, .null, .null, .null]
set_option maxRecDepth 65536 in
set_option maxHeartbeats 40000000 in
theorem rmFs1 (l : Launch) (Z : State) (a0 : Array Value) (hw : ∀ d ∈ tables_1, d.before a0 Z = true) (ws : List Jvm.Cond) (f : Addr) (v : Addr) (n : Int32) (l_ : Addr) (o : Int32) (pb : Int64) (d : Addr) (mc : Int32) (el : Addr) (x0 : Addr) (de : Addr) (h0 : Heap) (n0 : Nat) (Z0 : n0 ≤ h0.size) (P0 : Exa Z h0 f cFI) (P1 : Fld Z h0 f cFI "part" "Ljava/util/List;" (.ref l_)) (P2 : Fld Z h0 f cFI "overhead" "I" (.int o)) (P3 : Fld Z h0 f cFI "partBytes" "J" (.long pb)) (P4 : Exa Z h0 l_ cAL) (P5 : Fld Z h0 l_ cAB "modCount" "I" (.int mc)) (P6 : Fld Z h0 l_ cAL "elementData" cOA (.ref d)) (P7 : Fld Z h0 l_ cAL "size" "I" (.int (1 : Int32))) (P8 : Ra Z h0 d cOB [(.ref x0), .null, .null, .null, .null, .null, .null, .null, .null, .null]) (P9 : Exa Z h0 v cIN) (P10 : Old Z n0 h0) (zL : Sta Z Z.heap cIM "EMPTY_LIST" "Ljava/util/ImmutableCollections$ListN;" (.ref el)) (zD : Sta Z Z.heap cAL cDE cOA (.ref de)) (zN : Rn Z Z.heap de (0 : Int32)) (g_f : n0 ≤ f) (hfl : f ≠ l_) (hfd : f ≠ d) (hs : ((0 : Int32) < (lcmpW ((pb + (1 : Int64)) + (n.toInt64)) (1048576 : Int64)))) :
    MetFree l (⟨cFI, "add", "(Ljava/lang/Object;I)Ljava/util/List;"⟩ : MethodName) (head1 (Jvm.Cond.code (⟨cFI, "add", "(Ljava/lang/Object;I)Ljava/util/List;"⟩ : MethodName) prog_66_method_2_code 4 (some (.object cLI)) :: ws) ({ frames := 5, cells := 2, slots := 13, locals := 69 } : Room)) (fun aQ UQ => aQ = #[(.ref f), (.ref v), (.int n)] ∧ Z.Warmed39 UQ.vm ∧ UQ.heap = h0) (fun _ _ _ _ _ => True) (fun _ UQ oQ UR => ∃ vQ LQ, oQ = .returned vQ ∧ Q_rmFs1 Z f v n l_ o pb d mc el x0 de h0 n0 vQ UR.heap LQ ∧ FrameEnd UQ oQ UR LQ ({ frames := 5, cells := 2, slots := 13, locals := 69 } : Room).cells ({ frames := 5, cells := 2, slots := 13, locals := 69 } : Room).slots) := by
  refine MetFree.of_bodySF (plainFor_of_name pn_7) hisR ?_
  intro p e s m args below meth c s₁ Bd hml0 hP hK
  obtain ⟨rfl, hZ, hh⟩ := hP
  have hx := Bd.exec
  have hby := Bd.bytes
  have hlk := Bd.notSynchronized
  have hml : c.maxLocals = 4 := hml0
  have hown : s.vm.findClass cFI = some m.cls := findClass_of_methodNamed Bd.named
  have hnm := (name_of_methodNamed Bd.named Bd.method).1
  have X0 : Stand p l e ({ frames := 5, cells := 2, slots := 13, locals := 69 } : Room) s m #[(.ref f), (.ref v), (.int n)] below meth c s₁ [] 0 0 := Stand.of_body Bd
  have e0 : s₁.heap = h0 := by rw [← hh, Bd.state]; rfl
  have N0 := Fr.nil n0
  show Go p e below _ (Done s (Q_rmFs1 Z f v n l_ o pb d mc el x0 de h0 n0) ({ frames := 5, cells := 2, slots := 13, locals := 69 } : Room).cells ({ frames := 5, cells := 2, slots := 13, locals := 69 } : Room).slots)
  refine Go.via (fun tQ kQ => castTop (ef_7 m f v n) kQ) ?_
  show Go p e below (s₁.setTop (mkF m 0 #[vr f, vr v, vi n, .unset] [])) _
  obtain ⟨r355, _, ⟨T355, L355, k355, n355⟩, -, X355, ⟨Lc355, hQ355, l355, y355, z355⟩, st355⟩ := Jvm.LawKit.callS X0 hx (y := (⟨cLI, "of", "()Ljava/util/List;"⟩ : MethodName)) hown (mvT hZ (tw hw 54 rfl)) (mvT hZ (tw hw 55 rfl)) (mvT hZ (tw hw 56 rfl)) (mvT hZ (tw hw 57 rfl)) (by decide) (backOf (W := 0) (rmOf l Z a0 hw []  el h0 n0 Z0 P10 zL) hZ (tw hw 57 rfl) (tw hw 56 rfl) (by decide) (by decide)) (g := (mkF m 0 #[vr f, vr v, vi n, .unset] [])) rfl (by rw [hml]; rfl) (argsL := []) (rest := []) (lenOf pd__28_29Ljava_2futil_2fList_3b rfl) rfl (by show 2 * 0 + _ ≤ _; exact Nat.le_of_eq rfl) (hb hby d7_0) (fun _ _ => ⟨rfl, e0, (by decide : 0 + 0 ≤ _), (by decide : 0 + 0 ≤ _)⟩)
  dsimp only [Pt.U, Pt.locs, Pt.cells, Pt.slots] at X355 l355 y355 z355 st355 hQ355
  rw [l355, y355, z355] at X355
  clear l355 y355 z355
  obtain ⟨hr355, N355q, eh355⟩ := hQ355
  rw [hr355] at st355
  clear hr355
  have N355 := Fr.app N0 N355q
  refine Go.via (st355) ?_
  clear st355
  have e355 : T355.heap = h0 := eh355
  clear X0 e0
  show Go p e below (T355.setTop (mkF m 3 #[vr f, vr v, vi n, .unset] [(.ref el)])) _
  refine Go.via (fun _ => XS.astoreN X355.here hx rfl (hb hby d7_3) rfl rfl (l' := #[vr f, vr v, vi n, vr el]) rfl) ?_
  refine Go.via (fun _ => XS.aloadN X355.here hx rfl (hb hby d7_4) rfl rfl) ?_
  obtain ⟨T356, X356, e356, st356⟩ := getF X355 hx hZ hown (host := "") (Or.inl (tw hw 43 rfl)) Via.refl e355 P1 (g := (mkF m 5 #[vr f, vr v, vi n, vr el] [(.ref f)])) rfl rfl (hb hby d7_5)
  refine Go.via (st356) ?_
  clear st356
  clear X355 e355
  show Go p e below (T356.setTop (mkF m 8 #[vr f, vr v, vi n, vr el] [(.ref l_)])) _
  obtain ⟨cq357, kq357, q357a, q357b, q357c⟩ := isOf hZ e356 P4
  obtain ⟨r357, _, ⟨T357, L357, k357, n357⟩, -, X357, ⟨Lc357, hQ357, l357, y357, z357⟩, st357⟩ := X356.interfaceBack hx (xi := (⟨cLI, "isEmpty", "()Z"⟩ : MethodName)) (y := (⟨cAL, "isEmpty", "()Z"⟩ : MethodName)) hown (mvT hZ (tw hw 60 rfl)) (mvT hZ (tw hw 61 rfl)) (mvT hZ (tw hw 62 rfl)) (mvT hZ (tw hw 63 rfl)) (mvT hZ (tw hw 64 rfl)) (mvT hZ (tw hw 65 rfl)) (mvT hZ (tw hw 66 rfl)) (mvT hZ (tw hw 67 rfl)) (by decide) (backOf (W := 0) (rmEm l Z a0 hw [] l_ (1 : Int32) h0 n0 Z0 P7) hZ (tw hw 68 rfl) (tw hw 21 rfl) (by decide) (by decide)) q357a q357b q357c (g := (mkF m 8 #[vr f, vr v, vi n, vr el] [(.ref l_)])) rfl (by rw [hml]; rfl) (Steps.refl _) (argsL := []) (rest := []) (lenOf pd__28_29Z rfl) rfl (by show 2 * 0 + _ ≤ _; exact Nat.le_of_eq rfl) (hb hby d7_8) (fun _ _ => ⟨rfl, e356, (by decide : 0 + 0 ≤ _), (by decide : 0 + 0 ≤ _)⟩)
  dsimp only [Pt.U, Pt.locs, Pt.cells, Pt.slots] at X357 l357 y357 z357 st357 hQ357
  rw [l357, y357, z357] at X357
  clear l357 y357 z357
  obtain ⟨hr357, N357q, eh357⟩ := hQ357
  rw [hr357] at st357
  clear hr357
  have N357 := Fr.app N355 N357q
  refine Go.via (fun _ kQ => st357.trans kQ) ?_
  clear st357
  have e357 : T357.heap = h0 := eh357
  clear X356 e356
  show Go p e below (T357.setTop (mkF m 13 #[vr f, vr v, vi n, vr el] [(.int (0 : Int32))])) _
  refine Go.via (fun _ => XS.ifNo X357.here hx rfl (hb hby d7_13) rfl ((if0 _ _).trans (teq ((by decide) : (0 : Int32) = (0 : Int32))).2)) ?_
  refine Go.via (fun _ => XS.aloadN X357.here hx rfl (hb hby d7_16) rfl rfl) ?_
  obtain ⟨T358, X358, e358, st358⟩ := getF X357 hx hZ hown (host := "") (Or.inl (tw hw 47 rfl)) Via.refl e357 P3 (g := (mkF m 17 #[vr f, vr v, vi n, vr el] [(.ref f)])) rfl rfl (hb hby d7_17)
  refine Go.via (st358) ?_
  clear st358
  clear X357 e357
  show Go p e below (T358.setTop (mkF m 20 #[vr f, vr v, vi n, vr el] [(.long pb)])) _
  refine Go.via (fun _ => XS.lconst X358.here hx rfl (hb hby d7_20)) ?_
  refine Go.via (fun _ => XS.ladd X358.here hx rfl (hb hby d7_21) rfl) ?_
  show Go p e below (T358.setTop (mkF m 22 #[vr f, vr v, vi n, vr el] [(.long (pb + (1 : Int64)))])) _
  refine Go.via (fun _ => XS.iloadN X358.here hx rfl (hb hby d7_22) rfl) ?_
  refine Go.via (fun _ => XS.i2l X358.here hx rfl (hb hby d7_23) rfl) ?_
  show Go p e below (T358.setTop (mkF m 24 #[vr f, vr v, vi n, vr el] [(.long (n.toInt64)), (.long (pb + (1 : Int64)))])) _
  refine Go.via (fun _ => XS.ladd X358.here hx rfl (hb hby d7_24) rfl) ?_
  show Go p e below (T358.setTop (mkF m 25 #[vr f, vr v, vi n, vr el] [(.long ((pb + (1 : Int64)) + (n.toInt64)))])) _
  refine Go.via (X358.ldc2Long hx hown (mvT hZ (tw hw 115 rfl)) (g := (mkF m 25 #[vr f, vr v, vi n, vr el] [(.long ((pb + (1 : Int64)) + (n.toInt64)))])) rfl (hb hby d7_25)) ?_
  show Go p e below (T358.setTop (mkF m 28 #[vr f, vr v, vi n, vr el] [(.long (1048576 : Int64)), (.long ((pb + (1 : Int64)) + (n.toInt64)))])) _
  refine Go.via (fun _ => XS.lcmp X358.here hx rfl (hb hby d7_28) rfl) ?_
  show Go p e below (T358.setTop (mkF m 29 #[vr f, vr v, vi n, vr el] [(.int (lcmpW ((pb + (1 : Int64)) + (n.toInt64)) (1048576 : Int64)))])) _
  refine Go.via (fun _ => XS.ifNo X358.here hx rfl (hb hby d7_29) rfl ((if0 _ _).trans (tlt (hs : (0 : Int32) < (lcmpW ((pb + (1 : Int64)) + (n.toInt64)) (1048576 : Int64)))).2.2.2)) ?_
  refine Go.via (fun _ => XS.aloadN X358.here hx rfl (hb hby d7_32) rfl rfl) ?_
  obtain ⟨T359, X359, e359, st359⟩ := getF X358 hx hZ hown (host := "") (Or.inl (tw hw 43 rfl)) Via.refl e358 P1 (g := (mkF m 33 #[vr f, vr v, vi n, vr el] [(.ref f)])) rfl rfl (hb hby d7_33)
  refine Go.via (st359) ?_
  clear st359
  clear X358 e358
  show Go p e below (T359.setTop (mkF m 36 #[vr f, vr v, vi n, vr el] [(.ref l_)])) _
  refine Go.via (fun _ => XS.astoreN X359.here hx rfl (hb hby d7_36) rfl rfl (l' := #[vr f, vr v, vi n, vr l_]) rfl) ?_
  refine Go.via (fun _ => XS.aloadN X359.here hx rfl (hb hby d7_37) rfl rfl) ?_
  obtain ⟨T360, h360, X360, e360, E360, A360, D360, -, st360⟩ := newO X359 hx hZ hown (tw hw 19 rfl) (tw hw 20 rfl) (tw hw 21 rfl) e359 (g := (mkF m 38 #[vr f, vr v, vi n, vr l_] [(.ref f)])) rfl (hb hby d7_38) (by decide) (by decide)
  obtain ⟨b360, g360⟩ : ∃ z, z = h0.size := ⟨_, rfl⟩
  rw [← g360] at A360 D360 st360
  have ne361 : d ≠ b360 := Nat.ne_of_lt (Nat.lt_of_lt_of_le P8.lt (Nat.le_of_eq g360.symm))
  have ne362 : f ≠ b360 := Nat.ne_of_lt (Nat.lt_of_lt_of_le P0.lt (Nat.le_of_eq g360.symm))
  have ne363 : l_ ≠ b360 := Nat.ne_of_lt (Nat.lt_of_lt_of_le P4.lt (Nat.le_of_eq g360.symm))
  have ne364 : v ≠ b360 := Nat.ne_of_lt (Nat.lt_of_lt_of_le P9.lt (Nat.le_of_eq g360.symm))
  have ge365 : n0 ≤ b360 := Nat.le_trans Z0 (Nat.le_of_eq g360.symm)
  have sz366 : h0.size ≤ b360 := Nat.le_trans (Keep.refl h0 [f]).1 (Nat.le_of_eq g360.symm)
  refine Go.via (st360) ?_
  clear st360
  have f367 : Fld Z h360 b360 cAB "modCount" "I" (.int (0 : Int32)) := D360 (Or.inl (tw hw 39 rfl)) (ty := .int) (by decide)
  have f368 : Fld Z h360 b360 cAL "elementData" cOA .null := D360 (Or.inl (tw hw 42 rfl)) (ty := (.array (.object cOB))) (by decide)
  have f369 : Fld Z h360 b360 cAL "size" "I" (.int (0 : Int32)) := D360 (Or.inl (tw hw 70 rfl)) (ty := .int) (by decide)
  clear X359 e359
  show Go p e below (T360.setTop (mkF m 41 #[vr f, vr v, vi n, vr l_] [(.ref b360), (.ref f)])) _
  refine Go.via (fun _ => XS.dup X360.here hx rfl (hb hby d7_41) rfl rfl) ?_
  have o370 : Old Z n0 h360 := (P10.ext E360)
  have z372 : n0 ≤ h360.size := (Nat.le_trans Z0 E360.1)
  obtain ⟨r371, _, ⟨T371, L371, k371, n371⟩, -, X371, ⟨Lc371, hQ371, l371, y371, z371⟩, st371⟩ := X360.specialBack hx (y := (⟨cAL, "<init>", "()V"⟩ : MethodName)) rfl hown (mvT hZ (tw hw 22 rfl)) (mvT hZ (tw hw 23 rfl)) (mvT hZ (tw hw 24 rfl)) (by decide) (backOf (W := 2) (rmAL l Z a0 hw [] b360 de h360 n0 z372 A360 f367 f368 f369 o370 zD ge365) hZ (tw hw 24 rfl) (tw hw 21 rfl) (by decide) (by decide)) (g := (mkF m 42 #[vr f, vr v, vi n, vr l_] [(.ref b360), (.ref b360), (.ref f)])) rfl (by rw [hml]; rfl) (Steps.refl _) (a := b360) (argsL := []) (rest := [(.ref b360), (.ref f)]) (lenOf pd__28_29V rfl) rfl (by show 2 * 0 + _ ≤ _; exact Nat.le_of_eq rfl) (hb hby d7_42) (fun _ _ => ⟨rfl, e360, (by decide : 1 + 0 ≤ _), (by decide : 3 + 0 ≤ _)⟩)
  dsimp only [Pt.U, Pt.locs, Pt.cells, Pt.slots] at X371 l371 y371 z371 st371 hQ371
  rw [l371, y371, z371] at X371
  clear l371 y371 z371
  obtain ⟨hr371, N371q, K371q, f373, f374, f375, f376⟩ := hQ371
  rw [hr371] at st371
  clear hr371
  have N371 := Fr.app N357 N371q
  refine Go.via (fun _ kQ => st371.trans kQ) ?_
  clear st371
  have e371 : T371.heap = T371.heap := rfl
  have f377 : Exa Z T371.heap b360 cAL := f373
  have f378 : Fld Z T371.heap b360 cAB "modCount" "I" (.int (0 : Int32)) := f374
  have f379 : Fld Z T371.heap b360 cAL "elementData" cOA (.ref de) := f375
  have f380 : Fld Z T371.heap b360 cAL "size" "I" (.int (0 : Int32)) := f376
  clear X360 e360
  show Go p e below (T371.setTop (mkF m 45 #[vr f, vr v, vi n, vr l_] [(.ref b360), (.ref f)])) _
  have f381 : Fld Z T371.heap f cFI "part" "Ljava/util/List;" (.ref l_) := ((P1.ext E360).keep K371q (ninS ne362 nin0))
  have f382 : Exa Z T371.heap f cFI := ((P0.ext E360).keep K371q)
  obtain ⟨T383, h383, X383, e383, W383, st383⟩ := putF X371 hx hZ hown (host := "") (Or.inl (tw hw 43 rfl)) Via.refl e371 f381 f382 (Or.inl (tw hw 44 rfl)) (tw hw 11 rfl) (ty := (.object cLI)) (by decide) rfl rfl (g := (mkF m 45 #[vr f, vr v, vi n, vr l_] [(.ref b360), (.ref f)])) rfl rfl (hb hby d7_45)
  refine Go.via (st383) ?_
  clear st383
  have N383 := Fr.snoc X383 N371 g_f
  have f384 : Fld Z h383 f cFI "part" "Ljava/util/List;" (.ref b360) := f381.same W383
  clear X371 e371
  show Go p e below (T383.setTop (mkF m 48 #[vr f, vr v, vi n, vr l_] [])) _
  refine Go.via (fun _ => XS.aloadN X383.here hx rfl (hb hby d7_48) rfl rfl) ?_
  refine Go.via (fun _ => XS.aloadN X383.here hx rfl (hb hby d7_49) rfl rfl) ?_
  have f385 : Fld Z h383 f cFI "overhead" "I" (.int o) := (((P2.ext E360).keep K371q (ninS ne362 nin0)).other W383 (Or.inr (slot_ne (Or.inr (tw hw 46 rfl)) (Or.inl (tw hw 44 rfl)) (by decide) (t := .int) (t' := (.object cLI)) (by decide) (by decide))))
  obtain ⟨T386, X386, e386, st386⟩ := getF X383 hx hZ hown (host := "") (Or.inl (tw hw 45 rfl)) Via.refl e383 f385 (g := (mkF m 50 #[vr f, vr v, vi n, vr l_] [(.ref f), (.ref f)])) rfl rfl (hb hby d7_50)
  refine Go.via (st386) ?_
  clear st386
  clear X383 e383
  show Go p e below (T386.setTop (mkF m 53 #[vr f, vr v, vi n, vr l_] [(.int o), (.ref f)])) _
  refine Go.via (fun _ => XS.i2l X386.here hx rfl (hb hby d7_53) rfl) ?_
  show Go p e below (T386.setTop (mkF m 54 #[vr f, vr v, vi n, vr l_] [(.long (o.toInt64)), (.ref f)])) _
  have f387 : Fld Z h383 f cFI "partBytes" "J" (.long pb) := (((P3.ext E360).keep K371q (ninS ne362 nin0)).other W383 (Or.inr (slot_ne (Or.inl (tw hw 48 rfl)) (Or.inl (tw hw 44 rfl)) (by decide) (t := .long) (t' := (.object cLI)) (by decide) (by decide))))
  have f388 : Exa Z h383 f cFI := (f382.wr W383)
  obtain ⟨T389, h389, X389, e389, W389, st389⟩ := putF X386 hx hZ hown (host := "") (Or.inl (tw hw 47 rfl)) Via.refl e386 f387 f388 (Or.inl (tw hw 48 rfl)) (tw hw 11 rfl) (ty := .long) (by decide) rfl rfl (g := (mkF m 54 #[vr f, vr v, vi n, vr l_] [(.long (o.toInt64)), (.ref f)])) rfl rfl (hb hby d7_54)
  refine Go.via (st389) ?_
  clear st389
  have N389 := Fr.snoc X389 N383 g_f
  have f390 : Fld Z h389 f cFI "partBytes" "J" (.long (o.toInt64)) := f387.same W389
  clear X386 e386
  show Go p e below (T389.setTop (mkF m 57 #[vr f, vr v, vi n, vr l_] [])) _
  refine Go.via (fun _ => XS.aloadN X389.here hx rfl (hb hby d7_57) rfl rfl) ?_
  refine Go.via (fun _ => XS.dup X389.here hx rfl (hb hby d7_58) rfl rfl) ?_
  obtain ⟨T391, X391, e391, st391⟩ := getF X389 hx hZ hown (host := "") (Or.inl (tw hw 47 rfl)) Via.refl e389 f390 (g := (mkF m 59 #[vr f, vr v, vi n, vr l_] [(.ref f), (.ref f)])) rfl rfl (hb hby d7_59)
  refine Go.via (st391) ?_
  clear st391
  clear X389 e389
  show Go p e below (T391.setTop (mkF m 62 #[vr f, vr v, vi n, vr l_] [(.long (o.toInt64)), (.ref f)])) _
  refine Go.via (fun _ => XS.aloadN X391.here hx rfl (hb hby d7_62) rfl rfl) ?_
  have f392 : Fld Z h389 f cFI "part" "Ljava/util/List;" (.ref b360) := (f384.other W389 (Or.inr (slot_ne (Or.inl (tw hw 44 rfl)) (Or.inl (tw hw 48 rfl)) (by decide) (t := (.object cLI)) (t' := .long) (by decide) (by decide))))
  obtain ⟨T393, X393, e393, st393⟩ := getF X391 hx hZ hown (host := "") (Or.inl (tw hw 43 rfl)) Via.refl e391 f392 (g := (mkF m 63 #[vr f, vr v, vi n, vr l_] [(.ref f), (.long (o.toInt64)), (.ref f)])) rfl rfl (hb hby d7_63)
  refine Go.via (st393) ?_
  clear st393
  clear X391 e391
  show Go p e below (T393.setTop (mkF m 66 #[vr f, vr v, vi n, vr l_] [(.ref b360), (.long (o.toInt64)), (.ref f)])) _
  have f394 : Fld Z h389 b360 cAL "size" "I" (.int (0 : Int32)) := ((f380.other W383 (Or.inl (Ne.symm ne362))).other W389 (Or.inl (Ne.symm ne362)))
  have z396 : n0 ≤ h389.size := (Nat.le_trans (Nat.le_trans (Nat.le_trans z372 K371q.1) (Keep.of_wr W383).1) (Keep.of_wr W389).1)
  have f397 : Exa Z h389 b360 cAL := ((f377.wr W383).wr W389)
  obtain ⟨cq395, kq395, q395a, q395b, q395c⟩ := isOf hZ e393 f397
  obtain ⟨r395, _, ⟨T395, L395, k395, n395⟩, -, X395, ⟨Lc395, hQ395, l395, y395, z395⟩, st395⟩ := X393.interfaceBack hx (xi := (⟨cLI, "isEmpty", "()Z"⟩ : MethodName)) (y := (⟨cAL, "isEmpty", "()Z"⟩ : MethodName)) hown (mvT hZ (tw hw 60 rfl)) (mvT hZ (tw hw 61 rfl)) (mvT hZ (tw hw 62 rfl)) (mvT hZ (tw hw 63 rfl)) (mvT hZ (tw hw 64 rfl)) (mvT hZ (tw hw 65 rfl)) (mvT hZ (tw hw 66 rfl)) (mvT hZ (tw hw 67 rfl)) (by decide) (backOf (W := 3) (rmEm l Z a0 hw [] b360 (0 : Int32) h389 n0 z396 f394) hZ (tw hw 68 rfl) (tw hw 21 rfl) (by decide) (by decide)) q395a q395b q395c (g := (mkF m 66 #[vr f, vr v, vi n, vr l_] [(.ref b360), (.long (o.toInt64)), (.ref f)])) rfl (by rw [hml]; rfl) (Steps.refl _) (argsL := []) (rest := [(.long (o.toInt64)), (.ref f)]) (lenOf pd__28_29Z rfl) rfl (by show 2 * 0 + _ ≤ _; exact Nat.le_of_eq rfl) (hb hby d7_66) (fun _ _ => ⟨rfl, e393, (by decide : 1 + 0 ≤ _), (by decide : 3 + 0 ≤ _)⟩)
  dsimp only [Pt.U, Pt.locs, Pt.cells, Pt.slots] at X395 l395 y395 z395 st395 hQ395
  rw [l395, y395, z395] at X395
  clear l395 y395 z395
  obtain ⟨hr395, N395q, eh395⟩ := hQ395
  rw [hr395] at st395
  clear hr395
  have N395 := Fr.app N389 N395q
  refine Go.via (fun _ kQ => st395.trans kQ) ?_
  clear st395
  have e395 : T395.heap = h389 := eh395
  clear X393 e393
  show Go p e below (T395.setTop (mkF m 71 #[vr f, vr v, vi n, vr l_] [(.int (1 : Int32)), (.long (o.toInt64)), (.ref f)])) _
  refine Go.via (fun _ => XS.ifNo X395.here hx rfl (hb hby d7_71) rfl ((if0 _ _).trans (feq ((by decide) : ¬ ((1 : Int32) = (0 : Int32)))).1)) ?_
  refine Go.via (fun _ => XS.iloadN X395.here hx rfl (hb hby d7_74) rfl) ?_
  refine Go.via (fun _ => XS.i2l X395.here hx rfl (hb hby d7_75) rfl) ?_
  show Go p e below (T395.setTop (mkF m 76 #[vr f, vr v, vi n, vr l_] [(.long (n.toInt64)), (.long (o.toInt64)), (.ref f)])) _
  refine Go.via (fun _ => XS.goto X395.here hx rfl (pc0 := 76) (pc' := 83) rfl (hb hby d7_76) (by decide) (by decide)) ?_
  refine Go.via (fun _ => XS.ladd X395.here hx rfl (hb hby d7_83) rfl) ?_
  show Go p e below (T395.setTop (mkF m 84 #[vr f, vr v, vi n, vr l_] [(.long ((o.toInt64) + (n.toInt64))), (.ref f)])) _
  have f398 : Exa Z h389 f cFI := (f388.wr W389)
  obtain ⟨T399, h399, X399, e399, W399, st399⟩ := putF X395 hx hZ hown (host := "") (Or.inl (tw hw 47 rfl)) Via.refl e395 f390 f398 (Or.inl (tw hw 48 rfl)) (tw hw 11 rfl) (ty := .long) (by decide) rfl rfl (g := (mkF m 84 #[vr f, vr v, vi n, vr l_] [(.long ((o.toInt64) + (n.toInt64))), (.ref f)])) rfl rfl (hb hby d7_84)
  refine Go.via (st399) ?_
  clear st399
  have N399 := Fr.snoc X399 N395 g_f
  have f400 : Fld Z h399 f cFI "partBytes" "J" (.long ((o.toInt64) + (n.toInt64))) := f390.same W399
  clear X395 e395
  show Go p e below (T399.setTop (mkF m 87 #[vr f, vr v, vi n, vr l_] [])) _
  refine Go.via (fun _ => XS.aloadN X399.here hx rfl (hb hby d7_87) rfl rfl) ?_
  have f401 : Fld Z h399 f cFI "part" "Ljava/util/List;" (.ref b360) := (f392.other W399 (Or.inr (slot_ne (Or.inl (tw hw 44 rfl)) (Or.inl (tw hw 48 rfl)) (by decide) (t := (.object cLI)) (t' := .long) (by decide) (by decide))))
  obtain ⟨T402, X402, e402, st402⟩ := getF X399 hx hZ hown (host := "") (Or.inl (tw hw 43 rfl)) Via.refl e399 f401 (g := (mkF m 88 #[vr f, vr v, vi n, vr l_] [(.ref f)])) rfl rfl (hb hby d7_88)
  refine Go.via (st402) ?_
  clear st402
  clear X399 e399
  show Go p e below (T402.setTop (mkF m 91 #[vr f, vr v, vi n, vr l_] [(.ref b360)])) _
  refine Go.via (fun _ => XS.aloadN X402.here hx rfl (hb hby d7_91) rfl rfl) ?_
  have f403 : Exa Z h399 b360 cAL := (f397.wr W399)
  have f404 : Fld Z h399 b360 cAB "modCount" "I" (.int (0 : Int32)) := (((f378.other W383 (Or.inl (Ne.symm ne362))).other W389 (Or.inl (Ne.symm ne362))).other W399 (Or.inl (Ne.symm ne362)))
  have f405 : Fld Z h399 b360 cAL "elementData" cOA (.ref de) := (((f379.other W383 (Or.inl (Ne.symm ne362))).other W389 (Or.inl (Ne.symm ne362))).other W399 (Or.inl (Ne.symm ne362)))
  have f406 : Fld Z h399 b360 cAL "size" "I" (.int (0 : Int32)) := (f394.other W399 (Or.inl (Ne.symm ne362)))
  have f407 : Exa Z h399 v cIN := (((((P9.ext E360).keep K371q).wr W383).wr W389).wr W399)
  have o408 : Old Z n0 h399 := ((((o370.keep K371q (allS ge365 all0)).wr W383 g_f).wr W389 g_f).wr W399 g_f)
  have z410 : n0 ≤ h399.size := (Nat.le_trans z396 (Keep.of_wr W399).1)
  obtain ⟨cq409, kq409, q409a, q409b, q409c⟩ := isOf hZ e402 f403
  obtain ⟨r409, _, ⟨T409, L409, k409, n409⟩, -, X409, ⟨Lc409, hQ409, l409, y409, z409⟩, st409⟩ := X402.interfaceBack hx (xi := (⟨cLI, "add", "(Ljava/lang/Object;)Z"⟩ : MethodName)) (y := (⟨cAL, "add", "(Ljava/lang/Object;)Z"⟩ : MethodName)) hown (mvT hZ (tw hw 71 rfl)) (mvT hZ (tw hw 72 rfl)) (mvT hZ (tw hw 73 rfl)) (mvT hZ (tw hw 74 rfl)) (mvT hZ (tw hw 75 rfl)) (mvT hZ (tw hw 76 rfl)) (mvT hZ (tw hw 77 rfl)) (mvT hZ (tw hw 67 rfl)) (by decide) (backOf (W := 0) (rmA1_0 l Z a0 hw [] b360 v de (0 : Int32) h399 n0 z410 f403 f404 f405 f406 f407 o408 zD zN ge365) hZ (tw hw 78 rfl) (tw hw 21 rfl) (by decide) (by decide)) q409a q409b q409c (g := (mkF m 92 #[vr f, vr v, vi n, vr l_] [(.ref v), (.ref b360)])) rfl (by rw [hml]; rfl) (Steps.refl _) (argsL := [(.ref v)]) (rest := []) (lenOf pd__28Ljava_2flang_2fObject_3b_29Z rfl) rfl (by show 2 * 0 + _ ≤ _; exact Nat.le_of_eq rfl) (hb hby d7_92) (fun _ _ => ⟨rfl, e402, (by decide : 1 + 1 ≤ _), (by decide : 3 + 10 ≤ _)⟩)
  dsimp only [Pt.U, Pt.locs, Pt.cells, Pt.slots] at X409 l409 y409 z409 st409 hQ409
  rw [l409, y409, z409] at X409
  clear l409 y409 z409
  obtain ⟨b411, hr409, N409q, K409q, fz_b411, f412, f413, f414, f415, f416⟩ := hQ409
  rw [hr409] at st409
  clear hr409
  have N409 := Fr.app N399 N409q
  refine Go.via (fun _ kQ => st409.trans kQ) ?_
  clear st409
  have ne417 : b360 ≠ b411 := Nat.ne_of_lt (Nat.lt_of_lt_of_le f403.lt fz_b411)
  have f418 : Ra Z h399 d cOB [(.ref x0), .null, .null, .null, .null, .null, .null, .null, .null, .null] := (((((P8.ext E360).keep K371q (ninS ne361 nin0)).other W383 (Ne.symm hfd)).other W389 (Ne.symm hfd)).other W399 (Ne.symm hfd))
  have ne419 : d ≠ b411 := Nat.ne_of_lt (Nat.lt_of_lt_of_le f418.lt fz_b411)
  have f420 : Exa Z h399 f cFI := (f398.wr W399)
  have ne421 : f ≠ b411 := Nat.ne_of_lt (Nat.lt_of_lt_of_le f420.lt fz_b411)
  have f422 : Exa Z h399 l_ cAL := (((((P4.ext E360).keep K371q).wr W383).wr W389).wr W399)
  have ne423 : l_ ≠ b411 := Nat.ne_of_lt (Nat.lt_of_lt_of_le f422.lt fz_b411)
  have ne424 : v ≠ b411 := Nat.ne_of_lt (Nat.lt_of_lt_of_le f407.lt fz_b411)
  have ge425 : n0 ≤ b411 := Nat.le_trans z410 fz_b411
  have k427 : Keep h0 h399 [f] := ((((((Keep.refl h0 [f]).ext E360).trans K371q (allS (Or.inr sz366) all0)).wr W383 (Or.inl (List.mem_of_getElem? (i := 0) rfl))).wr W389 (Or.inl (List.mem_of_getElem? (i := 0) rfl))).wr W399 (Or.inl (List.mem_of_getElem? (i := 0) rfl)))
  have sz426 : h0.size ≤ b411 := Nat.le_trans k427.1 fz_b411
  have e409 : T409.heap = T409.heap := rfl
  have f428 : Exa Z T409.heap b360 cAL := f412
  have f429 : Fld Z T409.heap b360 cAB "modCount" "I" (.int ((0 : Int32) + (1 : Int32))) := f413
  have f430 : Fld Z T409.heap b360 cAL "elementData" cOA (.ref b411) := f414
  have f431 : Fld Z T409.heap b360 cAL "size" "I" (.int (1 : Int32)) := f415
  have f432 : Ra Z T409.heap b411 cOB [(.ref v), .null, .null, .null, .null, .null, .null, .null, .null, .null] := f416
  clear X402 e402
  show Go p e below (T409.setTop (mkF m 97 #[vr f, vr v, vi n, vr l_] [(.int (1 : Int32))])) _
  refine Go.via (fun _ => XS.pop X409.here hx rfl (hb hby d7_97) rfl rfl) ?_
  show Go p e below (T409.setTop (mkF m 98 #[vr f, vr v, vi n, vr l_] [])) _
  refine Go.via (fun _ => XS.aloadN X409.here hx rfl (hb hby d7_98) rfl rfl) ?_
  have k433 : Keep h0 T409.heap [f] := (k427.trans K409q (allS (Or.inr sz366) all0))
  have f434 : Exa Z T409.heap f cFI := (f420.keep K409q)
  have f435 : Fld Z T409.heap f cFI "part" "Ljava/util/List;" (.ref b360) := (f401.keep K409q (ninS ne362 nin0))
  have f436 : Fld Z T409.heap f cFI "overhead" "I" (.int o) := (((f385.other W389 (Or.inr (slot_ne (Or.inr (tw hw 46 rfl)) (Or.inl (tw hw 48 rfl)) (by decide) (t := .int) (t' := .long) (by decide) (by decide)))).other W399 (Or.inr (slot_ne (Or.inr (tw hw 46 rfl)) (Or.inl (tw hw 48 rfl)) (by decide) (t := .int) (t' := .long) (by decide) (by decide)))).keep K409q (ninS ne362 nin0))
  have f437 : Fld Z T409.heap f cFI "partBytes" "J" (.long ((o.toInt64) + (n.toInt64))) := (f400.keep K409q (ninS ne362 nin0))
  exact Go.fin X409 hlk (v := some (.ref l_)) (fun h => by rw [Bd.returns] at h; cases h) (fun fs hr => retOut X409 hx Bd.returns rfl (Or.inr (Or.inr (Or.inr (Or.inr ⟨rfl, rfl, rfl⟩)))) (hb hby d7_99) hr) (by exact ⟨b360, b411, rfl, N409, k433, sz366, sz426, f434, f435, f436, f437, f428, f429, f430, f431, f432⟩) (by decide) (by decide)
theorem d16_0 : decode prog_66_method_3_code 0 = .ok (.aload_n 0, 1) := by decide +kernel
theorem d16_1 : decode prog_66_method_3_code 1 = .ok (.getfield 12, 3) := by decide +kernel
theorem d16_4 : decode prog_66_method_3_code 4 = .ok (.astore_n 1, 1) := by decide +kernel
theorem d16_5 : decode prog_66_method_3_code 5 = .ok (.aload_n 0, 1) := by decide +kernel
theorem d16_6 : decode prog_66_method_3_code 6 = .ok (.new 9, 3) := by decide +kernel
theorem d16_9 : decode prog_66_method_3_code 9 = .ok (.dup, 1) := by decide +kernel
theorem d16_10 : decode prog_66_method_3_code 10 = .ok (.invokespecial 11, 3) := by decide +kernel
theorem d16_13 : decode prog_66_method_3_code 13 = .ok (.putfield 12, 3) := by decide +kernel
theorem d16_16 : decode prog_66_method_3_code 16 = .ok (.aload_n 0, 1) := by decide +kernel
theorem d16_17 : decode prog_66_method_3_code 17 = .ok (.aload_n 0, 1) := by decide +kernel
theorem d16_18 : decode prog_66_method_3_code 18 = .ok (.getfield 18, 3) := by decide +kernel
theorem d16_21 : decode prog_66_method_3_code 21 = .ok (.i2l, 1) := by decide +kernel
theorem d16_22 : decode prog_66_method_3_code 22 = .ok (.putfield 22, 3) := by decide +kernel
theorem d16_25 : decode prog_66_method_3_code 25 = .ok (.aload_n 1, 1) := by decide +kernel
theorem d16_26 : decode prog_66_method_3_code 26 = .ok (.areturn, 1) := by decide +kernel
theorem pn_16 : plainName cFI = true := by first | (simp [plainName, overriddenIn]; done) | decide +kernel
theorem ef_16 (m : MethodId) (x0 : Addr) : entryFrame m #[(.ref x0)] 2 = mkF m 0 #[.val (.ref x0), .unset] [] := by first | (simp [entryFrame, mkF, argsToLocals, Value.category]; done) | rfl
def Q_rmLa (Z : State) (f : Addr) (l_ : Addr) (o : Int32) (pb : Int64) (de : Addr) (h0 : Heap) (n0 : Nat) (vQ : Option Value) (hQ : Heap) (LQ : List Loc) : Prop := ∃ l2 : Addr, vQ = some (.ref l_) ∧ Fr n0 LQ ∧ Keep h0 hQ [f] ∧ h0.size ≤ l2 ∧ Exa Z hQ f cFI ∧ Fld Z hQ f cFI "part" "Ljava/util/List;" (.ref l2) ∧ Fld Z hQ f cFI "overhead" "I" (.int o) ∧ Fld Z hQ f cFI "partBytes" "J" (.long (o.toInt64)) ∧ Exa Z hQ l2 cAL ∧ Fld Z hQ l2 cAB "modCount" "I" (.int (0 : Int32)) ∧ Fld Z hQ l2 cAL "elementData" cOA (.ref de) ∧ Fld Z hQ l2 cAL "size" "I" (.int (0 : Int32))
set_option maxRecDepth 65536 in
set_option maxHeartbeats 40000000 in
theorem rmLa (l : Launch) (Z : State) (a0 : Array Value) (hw : ∀ d ∈ tables_1, d.before a0 Z = true) (ws : List Jvm.Cond) (f : Addr) (l_ : Addr) (o : Int32) (pb : Int64) (de : Addr) (h0 : Heap) (n0 : Nat) (Z0 : n0 ≤ h0.size) (P0 : Exa Z h0 f cFI) (P1 : Fld Z h0 f cFI "part" "Ljava/util/List;" (.ref l_)) (P2 : Fld Z h0 f cFI "overhead" "I" (.int o)) (P3 : Fld Z h0 f cFI "partBytes" "J" (.long pb)) (P4 : Old Z n0 h0) (zD : Sta Z Z.heap cAL cDE cOA (.ref de)) (g_f : n0 ≤ f) :
    MetFree l (⟨cFI, "last", "()Ljava/util/List;"⟩ : MethodName) (head1 (Jvm.Cond.code (⟨cFI, "last", "()Ljava/util/List;"⟩ : MethodName) prog_66_method_3_code 2 (some (.object cLI)) :: ws) ({ frames := 4, cells := 1, slots := 3, locals := 50 } : Room)) (fun aQ UQ => aQ = #[(.ref f)] ∧ Z.Warmed39 UQ.vm ∧ UQ.heap = h0) (fun _ _ _ _ _ => True) (fun _ UQ oQ UR => ∃ vQ LQ, oQ = .returned vQ ∧ Q_rmLa Z f l_ o pb de h0 n0 vQ UR.heap LQ ∧ FrameEnd UQ oQ UR LQ ({ frames := 4, cells := 1, slots := 3, locals := 50 } : Room).cells ({ frames := 4, cells := 1, slots := 3, locals := 50 } : Room).slots) := by
  refine MetFree.of_bodySF (plainFor_of_name pn_16) hisR ?_
  intro p e s m args below meth c s₁ Bd hml0 hP hK
  obtain ⟨rfl, hZ, hh⟩ := hP
  have hx := Bd.exec
  have hby := Bd.bytes
  have hlk := Bd.notSynchronized
  have hml : c.maxLocals = 2 := hml0
  have hown : s.vm.findClass cFI = some m.cls := findClass_of_methodNamed Bd.named
  have hnm := (name_of_methodNamed Bd.named Bd.method).1
  have X0 : Stand p l e ({ frames := 4, cells := 1, slots := 3, locals := 50 } : Room) s m #[(.ref f)] below meth c s₁ [] 0 0 := Stand.of_body Bd
  have e0 : s₁.heap = h0 := by rw [← hh, Bd.state]; rfl
  have N0 := Fr.nil n0
  show Go p e below _ (Done s (Q_rmLa Z f l_ o pb de h0 n0) ({ frames := 4, cells := 1, slots := 3, locals := 50 } : Room).cells ({ frames := 4, cells := 1, slots := 3, locals := 50 } : Room).slots)
  refine Go.via (fun tQ kQ => castTop (ef_16 m f) kQ) ?_
  show Go p e below (s₁.setTop (mkF m 0 #[vr f, .unset] [])) _
  refine Go.via (fun _ => XS.aloadN X0.here hx rfl (hb hby d16_0) rfl rfl) ?_
  obtain ⟨T438, X438, e438, st438⟩ := getF X0 hx hZ hown (host := "") (Or.inl (tw hw 43 rfl)) Via.refl e0 P1 (g := (mkF m 1 #[vr f, .unset] [(.ref f)])) rfl rfl (hb hby d16_1)
  refine Go.via (st438) ?_
  clear st438
  clear X0 e0
  show Go p e below (T438.setTop (mkF m 4 #[vr f, .unset] [(.ref l_)])) _
  refine Go.via (fun _ => XS.astoreN X438.here hx rfl (hb hby d16_4) rfl rfl (l' := #[vr f, vr l_]) rfl) ?_
  refine Go.via (fun _ => XS.aloadN X438.here hx rfl (hb hby d16_5) rfl rfl) ?_
  obtain ⟨T439, h439, X439, e439, E439, A439, D439, -, st439⟩ := newO X438 hx hZ hown (tw hw 19 rfl) (tw hw 20 rfl) (tw hw 21 rfl) e438 (g := (mkF m 6 #[vr f, vr l_] [(.ref f)])) rfl (hb hby d16_6) (by decide) (by decide)
  obtain ⟨b439, g439⟩ : ∃ z, z = h0.size := ⟨_, rfl⟩
  rw [← g439] at A439 D439 st439
  have ne440 : f ≠ b439 := Nat.ne_of_lt (Nat.lt_of_lt_of_le P0.lt (Nat.le_of_eq g439.symm))
  have ge441 : n0 ≤ b439 := Nat.le_trans Z0 (Nat.le_of_eq g439.symm)
  have sz442 : h0.size ≤ b439 := Nat.le_trans (Keep.refl h0 [f]).1 (Nat.le_of_eq g439.symm)
  refine Go.via (st439) ?_
  clear st439
  have f443 : Fld Z h439 b439 cAB "modCount" "I" (.int (0 : Int32)) := D439 (Or.inl (tw hw 39 rfl)) (ty := .int) (by decide)
  have f444 : Fld Z h439 b439 cAL "elementData" cOA .null := D439 (Or.inl (tw hw 42 rfl)) (ty := (.array (.object cOB))) (by decide)
  have f445 : Fld Z h439 b439 cAL "size" "I" (.int (0 : Int32)) := D439 (Or.inl (tw hw 70 rfl)) (ty := .int) (by decide)
  clear X438 e438
  show Go p e below (T439.setTop (mkF m 9 #[vr f, vr l_] [(.ref b439), (.ref f)])) _
  refine Go.via (fun _ => XS.dup X439.here hx rfl (hb hby d16_9) rfl rfl) ?_
  have o446 : Old Z n0 h439 := (P4.ext E439)
  have z448 : n0 ≤ h439.size := (Nat.le_trans Z0 E439.1)
  obtain ⟨r447, _, ⟨T447, L447, k447, n447⟩, -, X447, ⟨Lc447, hQ447, l447, y447, z447⟩, st447⟩ := X439.specialBack hx (y := (⟨cAL, "<init>", "()V"⟩ : MethodName)) rfl hown (mvT hZ (tw hw 22 rfl)) (mvT hZ (tw hw 23 rfl)) (mvT hZ (tw hw 24 rfl)) (by decide) (backOf (W := 2) (rmAL l Z a0 hw [] b439 de h439 n0 z448 A439 f443 f444 f445 o446 zD ge441) hZ (tw hw 24 rfl) (tw hw 21 rfl) (by decide) (by decide)) (g := (mkF m 10 #[vr f, vr l_] [(.ref b439), (.ref b439), (.ref f)])) rfl (by rw [hml]; rfl) (Steps.refl _) (a := b439) (argsL := []) (rest := [(.ref b439), (.ref f)]) (lenOf pd__28_29V rfl) rfl (by show 2 * 0 + _ ≤ _; exact Nat.le_of_eq rfl) (hb hby d16_10) (fun _ _ => ⟨rfl, e439, (by decide : 1 + 0 ≤ _), (by decide : 3 + 0 ≤ _)⟩)
  dsimp only [Pt.U, Pt.locs, Pt.cells, Pt.slots] at X447 l447 y447 z447 st447 hQ447
  rw [l447, y447, z447] at X447
  clear l447 y447 z447
  obtain ⟨hr447, N447q, K447q, f449, f450, f451, f452⟩ := hQ447
  rw [hr447] at st447
  clear hr447
  have N447 := Fr.app N0 N447q
  refine Go.via (fun _ kQ => st447.trans kQ) ?_
  clear st447
  have e447 : T447.heap = T447.heap := rfl
  have f453 : Exa Z T447.heap b439 cAL := f449
  have f454 : Fld Z T447.heap b439 cAB "modCount" "I" (.int (0 : Int32)) := f450
  have f455 : Fld Z T447.heap b439 cAL "elementData" cOA (.ref de) := f451
  have f456 : Fld Z T447.heap b439 cAL "size" "I" (.int (0 : Int32)) := f452
  clear X439 e439
  show Go p e below (T447.setTop (mkF m 13 #[vr f, vr l_] [(.ref b439), (.ref f)])) _
  have f457 : Fld Z T447.heap f cFI "part" "Ljava/util/List;" (.ref l_) := ((P1.ext E439).keep K447q (ninS ne440 nin0))
  have f458 : Exa Z T447.heap f cFI := ((P0.ext E439).keep K447q)
  obtain ⟨T459, h459, X459, e459, W459, st459⟩ := putF X447 hx hZ hown (host := "") (Or.inl (tw hw 43 rfl)) Via.refl e447 f457 f458 (Or.inl (tw hw 44 rfl)) (tw hw 11 rfl) (ty := (.object cLI)) (by decide) rfl rfl (g := (mkF m 13 #[vr f, vr l_] [(.ref b439), (.ref f)])) rfl rfl (hb hby d16_13)
  refine Go.via (st459) ?_
  clear st459
  have N459 := Fr.snoc X459 N447 g_f
  have f460 : Fld Z h459 f cFI "part" "Ljava/util/List;" (.ref b439) := f457.same W459
  clear X447 e447
  show Go p e below (T459.setTop (mkF m 16 #[vr f, vr l_] [])) _
  refine Go.via (fun _ => XS.aloadN X459.here hx rfl (hb hby d16_16) rfl rfl) ?_
  refine Go.via (fun _ => XS.aloadN X459.here hx rfl (hb hby d16_17) rfl rfl) ?_
  have f461 : Fld Z h459 f cFI "overhead" "I" (.int o) := (((P2.ext E439).keep K447q (ninS ne440 nin0)).other W459 (Or.inr (slot_ne (Or.inr (tw hw 46 rfl)) (Or.inl (tw hw 44 rfl)) (by decide) (t := .int) (t' := (.object cLI)) (by decide) (by decide))))
  obtain ⟨T462, X462, e462, st462⟩ := getF X459 hx hZ hown (host := "") (Or.inl (tw hw 45 rfl)) Via.refl e459 f461 (g := (mkF m 18 #[vr f, vr l_] [(.ref f), (.ref f)])) rfl rfl (hb hby d16_18)
  refine Go.via (st462) ?_
  clear st462
  clear X459 e459
  show Go p e below (T462.setTop (mkF m 21 #[vr f, vr l_] [(.int o), (.ref f)])) _
  refine Go.via (fun _ => XS.i2l X462.here hx rfl (hb hby d16_21) rfl) ?_
  show Go p e below (T462.setTop (mkF m 22 #[vr f, vr l_] [(.long (o.toInt64)), (.ref f)])) _
  have f463 : Fld Z h459 f cFI "partBytes" "J" (.long pb) := (((P3.ext E439).keep K447q (ninS ne440 nin0)).other W459 (Or.inr (slot_ne (Or.inl (tw hw 48 rfl)) (Or.inl (tw hw 44 rfl)) (by decide) (t := .long) (t' := (.object cLI)) (by decide) (by decide))))
  have f464 : Exa Z h459 f cFI := (f458.wr W459)
  obtain ⟨T465, h465, X465, e465, W465, st465⟩ := putF X462 hx hZ hown (host := "") (Or.inl (tw hw 47 rfl)) Via.refl e462 f463 f464 (Or.inl (tw hw 48 rfl)) (tw hw 11 rfl) (ty := .long) (by decide) rfl rfl (g := (mkF m 22 #[vr f, vr l_] [(.long (o.toInt64)), (.ref f)])) rfl rfl (hb hby d16_22)
  refine Go.via (st465) ?_
  clear st465
  have N465 := Fr.snoc X465 N459 g_f
  have f466 : Fld Z h465 f cFI "partBytes" "J" (.long (o.toInt64)) := f463.same W465
  clear X462 e462
  show Go p e below (T465.setTop (mkF m 25 #[vr f, vr l_] [])) _
  refine Go.via (fun _ => XS.aloadN X465.here hx rfl (hb hby d16_25) rfl rfl) ?_
  have k467 : Keep h0 h465 [f] := (((((Keep.refl h0 [f]).ext E439).trans K447q (allS (Or.inr sz442) all0)).wr W459 (Or.inl (List.mem_of_getElem? (i := 0) rfl))).wr W465 (Or.inl (List.mem_of_getElem? (i := 0) rfl)))
  have f468 : Exa Z h465 f cFI := (f464.wr W465)
  have f469 : Fld Z h465 f cFI "part" "Ljava/util/List;" (.ref b439) := (f460.other W465 (Or.inr (slot_ne (Or.inl (tw hw 44 rfl)) (Or.inl (tw hw 48 rfl)) (by decide) (t := (.object cLI)) (t' := .long) (by decide) (by decide))))
  have f470 : Fld Z h465 f cFI "overhead" "I" (.int o) := (f461.other W465 (Or.inr (slot_ne (Or.inr (tw hw 46 rfl)) (Or.inl (tw hw 48 rfl)) (by decide) (t := .int) (t' := .long) (by decide) (by decide))))
  have f471 : Exa Z h465 b439 cAL := ((f453.wr W459).wr W465)
  have f472 : Fld Z h465 b439 cAB "modCount" "I" (.int (0 : Int32)) := ((f454.other W459 (Or.inl (Ne.symm ne440))).other W465 (Or.inl (Ne.symm ne440)))
  have f473 : Fld Z h465 b439 cAL "elementData" cOA (.ref de) := ((f455.other W459 (Or.inl (Ne.symm ne440))).other W465 (Or.inl (Ne.symm ne440)))
  have f474 : Fld Z h465 b439 cAL "size" "I" (.int (0 : Int32)) := ((f456.other W459 (Or.inl (Ne.symm ne440))).other W465 (Or.inl (Ne.symm ne440)))
  exact Go.fin X465 hlk (v := some (.ref l_)) (fun h => by rw [Bd.returns] at h; cases h) (fun fs hr => retOut X465 hx Bd.returns rfl (Or.inr (Or.inr (Or.inr (Or.inr ⟨rfl, rfl, rfl⟩)))) (hb hby d16_26) hr) (by rw [e465]; exact ⟨b439, rfl, N465, k467, sz442, f468, f469, f470, f466, f471, f472, f473, f474⟩) (by decide) (by decide)
theorem own_n4 (y : Int32) : ∃ n : Int32, (y &&& (3 : Int32)) = n ∧ (n = 0 ∨ n = 1 ∨ n = 2 ∨ n = 3) := by
  refine ⟨_, rfl, ?_⟩
  have h1 := c_mask y 3 2 (by decide) (by decide)
  have h2 : (y &&& 3).toInt = 0 ∨ (y &&& 3).toInt = 1 ∨ (y &&& 3).toInt = 2 ∨ (y &&& 3).toInt = 3 := by omega
  rcases h2 with h | h | h | h
  · exact Or.inl (Int32.toInt_inj.mp h)
  · exact Or.inr (Or.inl (Int32.toInt_inj.mp h))
  · exact Or.inr (Or.inr (Or.inl (Int32.toInt_inj.mp h)))
  · exact Or.inr (Or.inr (Or.inr (Int32.toInt_inj.mp h)))
theorem own_rg {x m y : Int32} (h : (x &&& m) = y) (hm : 0 ≤ m.toInt) : 0 ≤ y.toInt ∧ y.toInt ≤ m.toInt := by rw [← h]; exact c_and x m hm
theorem own_le {a : Int64} (h : a.toInt ≤ 1048576) : ¬ ((0 : Int32) < (lcmpW a (1048576 : Int64))) := by
  rw [lw_gt, Int64.lt_iff_toInt_lt]; have : (1048576 : Int64).toInt = 1048576 := rfl; omega
theorem own_gt {a : Int64} (h : 1048576 < a.toInt) : ((0 : Int32) < (lcmpW a (1048576 : Int64))) := by
  rw [lw_gt, Int64.lt_iff_toInt_lt]; have : (1048576 : Int64).toInt = 1048576 := rfl; omega
theorem own_add {a b : Int64} (h : -9000000000 ≤ a.toInt ∧ a.toInt ≤ 9000000000) (h2 : -9000000000 ≤ b.toInt ∧ b.toInt ≤ 9000000000) : (a + b).toInt = a.toInt + b.toInt := by
  have := c_ladd a b; have := rng64 (a + b); omega
theorem own_isub {a b : Int32} (h : -2147483648 ≤ a.toInt - b.toInt ∧ a.toInt - b.toInt < 2147483648) : (a - b).toInt = a.toInt - b.toInt := by
  have := c_isub a b; have := rng32 (a - b); omega
theorem own_iadd {a b : Int32} (h : -2147483648 ≤ a.toInt + b.toInt ∧ a.toInt + b.toInt < 2147483648) : (a + b).toInt = a.toInt + b.toInt := by
  have := c_iadd a b; have := rng32 (a + b); omega
theorem own_w (x : Int32) : x.toInt64.toInt = x.toInt ∧ -9000000000 ≤ x.toInt64.toInt ∧ x.toInt64.toInt ≤ 9000000000 := by
  have := c_i2l x; have := rng32 x; omega
theorem own_1p {x : Int32} (h : 0 ≤ x.toInt ∧ x.toInt ≤ 1048576) : ((1 : Int32) + x).toInt = 1 + x.toInt := by
  have := c_iadd 1 x; have := rng32 ((1 : Int32) + x); have : (1 : Int32).toInt = 1 := rfl; omega
theorem own_a1 {p0 p2 ov b1 b2 w2 : Int32} (h0 : (p0 &&& (524287 : Int32)) = ov) (h1 : (p2 &&& (131071 : Int32)) = b1) (h2 : (w2 &&& (131071 : Int32)) = b2) : ¬ ((0 : Int32) < (lcmpW ((((ov.toInt64) + (b1.toInt64)) + (1 : Int64)) + (b2.toInt64)) (1048576 : Int64))) := by
  have r0 := own_rg h0 (by decide); have r1 := own_rg h1 (by decide); have r2 := own_rg h2 (by decide)
  have e0 : (524287 : Int32).toInt = 524287 := rfl
  have e1 : (131071 : Int32).toInt = 131071 := rfl
  have e2 : (1 : Int64).toInt = 1 := rfl
  have a0 := own_w ov; have a1 := own_w b1; have a2 := own_w b2
  have s1 := own_add (a := ov.toInt64) (b := b1.toInt64) (by omega) (by omega)
  have s2 := own_add (a := (ov.toInt64) + (b1.toInt64)) (b := 1) (by omega) (by omega)
  have s3 := own_add (a := ((ov.toInt64) + (b1.toInt64)) + (1 : Int64)) (b := b2.toInt64) (by omega) (by omega)
  exact own_le (by omega)
theorem own_a2 {p0 p2 ov b1 b2 b3 w2 w3 : Int32} (h0 : (p0 &&& (524287 : Int32)) = ov) (h1 : (p2 &&& (131071 : Int32)) = b1) (h2 : (w2 &&& (131071 : Int32)) = b2) (h3 : (w3 &&& (131071 : Int32)) = b3) : ¬ ((0 : Int32) < (lcmpW (((((ov.toInt64) + (b1.toInt64)) + (((1 : Int32) + b2).toInt64)) + (1 : Int64)) + (b3.toInt64)) (1048576 : Int64))) := by
  have r0 := own_rg h0 (by decide); have r1 := own_rg h1 (by decide); have r2 := own_rg h2 (by decide); have r3 := own_rg h3 (by decide)
  have e0 : (524287 : Int32).toInt = 524287 := rfl
  have e1 : (131071 : Int32).toInt = 131071 := rfl
  have e2 : (1 : Int64).toInt = 1 := rfl
  have q := own_1p (x := b2) (by omega)
  have a0 := own_w ov; have a1 := own_w b1; have a2 := own_w ((1 : Int32) + b2); have a3 := own_w b3
  have s1 := own_add (a := ov.toInt64) (b := b1.toInt64) (by omega) (by omega)
  have s2 := own_add (a := (ov.toInt64) + (b1.toInt64)) (b := ((1 : Int32) + b2).toInt64) (by omega) (by omega)
  have s3 := own_add (a := ((ov.toInt64) + (b1.toInt64)) + (((1 : Int32) + b2).toInt64)) (b := 1) (by omega) (by omega)
  have s4 := own_add (a := (((ov.toInt64) + (b1.toInt64)) + (((1 : Int32) + b2).toInt64)) + (1 : Int64)) (b := b3.toInt64) (by omega) (by omega)
  exact own_le (by omega)
theorem own_y0 {C q3 o1 ov xx dd yy : Int32} {L1 : Int64} (e5 : C.toInt = 1048576) (e3 : o1.toInt = 1) (e2 : L1.toInt = 1) (r0 : 0 ≤ ov.toInt ∧ ov.toInt ≤ 524287) (r1 : 0 ≤ xx.toInt ∧ xx.toInt ≤ 524287) (m : 0 ≤ q3.toInt ∧ q3.toInt ≤ 3) (hd : (q3 - o1) = dd) (hy : ((((C - ov) - xx) - o1) + dd) = yy) : ((((ov.toInt64) + (xx.toInt64)) + L1) + (yy.toInt64)).toInt = 1048576 + dd.toInt := by
  have t1 := own_isub (a := q3) (b := o1) (by rw [e3]; omega)
  rw [hd, e3] at t1
  have t2 := own_isub (a := C) (b := ov) (by rw [e5]; omega)
  rw [e5] at t2
  have t3 := own_isub (a := C - ov) (b := xx) (by rw [t2]; omega)
  rw [t2] at t3
  have t4 := own_isub (a := (C - ov) - xx) (b := o1) (by rw [t3, e3]; omega)
  rw [t3, e3] at t4
  have y0 := own_iadd (a := ((C - ov) - xx) - o1) (b := dd) (by rw [t4]; omega)
  rw [hy, t4] at y0
  clear t2 t3 t4 hy hd
  have a0 := own_w ov; have a1 := own_w xx; have a2 := own_w yy
  have s1 := own_add (a := ov.toInt64) (b := xx.toInt64) (by omega) (by omega)
  have s2 := own_add (a := (ov.toInt64) + (xx.toInt64)) (b := L1) (by omega) (by omega)
  have s3 := own_add (a := ((ov.toInt64) + (xx.toInt64)) + L1) (b := yy.toInt64) (by omega) (by omega)
  omega
theorem own_y {p0 p3 q4 ov xx dd yy : Int32} (h0 : (p0 &&& (524287 : Int32)) = ov) (h1 : (p3 &&& (524287 : Int32)) = xx) (hd : ((q4 &&& (3 : Int32)) - (1 : Int32)) = dd) (hy : (((((1048576 : Int32) - ov) - xx) - (1 : Int32)) + dd) = yy) : ((((ov.toInt64) + (xx.toInt64)) + (1 : Int64)) + (yy.toInt64)).toInt = 1048576 + dd.toInt := by
  have r0 := own_rg h0 (by decide); have r1 := own_rg h1 (by decide)
  have m := c_and q4 3 (by decide)
  exact own_y0 (C := 1048576) (o1 := 1) (L1 := 1) (by decide) (by decide) (by decide) r0 r1 m hd hy
theorem own_sp {p0 p3 q4 ov xx dd yy : Int32} (h0 : (p0 &&& (524287 : Int32)) = ov) (h1 : (p3 &&& (524287 : Int32)) = xx) (hd : ((q4 &&& (3 : Int32)) - (1 : Int32)) = dd) (hy : (((((1048576 : Int32) - ov) - xx) - (1 : Int32)) + dd) = yy) (h : (0 : Int32) < dd) : ((0 : Int32) < (lcmpW ((((ov.toInt64) + (xx.toInt64)) + (1 : Int64)) + (yy.toInt64)) (1048576 : Int64))) := by
  rw [Int32.lt_iff_toInt_lt] at h; have : (0 : Int32).toInt = 0 := rfl
  exact own_gt (by rw [own_y h0 h1 hd hy]; omega)
theorem own_nsp {p0 p3 q4 ov xx dd yy : Int32} (h0 : (p0 &&& (524287 : Int32)) = ov) (h1 : (p3 &&& (524287 : Int32)) = xx) (hd : ((q4 &&& (3 : Int32)) - (1 : Int32)) = dd) (hy : (((((1048576 : Int32) - ov) - xx) - (1 : Int32)) + dd) = yy) (h : ¬ (0 : Int32) < dd) : ¬ ((0 : Int32) < (lcmpW ((((ov.toInt64) + (xx.toInt64)) + (1 : Int64)) + (yy.toInt64)) (1048576 : Int64))) := by
  rw [Int32.lt_iff_toInt_lt] at h; have : (0 : Int32).toInt = 0 := rfl
  exact own_le (by rw [own_y h0 h1 hd hy]; omega)
theorem pd__28_29I : parseMethodDescriptor "()I" = some ⟨[], some .int⟩ := by decide +kernel
def Q_rm0 (Z : State) (p0 : Int32) (p1 : Int32) (p2 : Int32) (p3 : Int32) (p4 : Int32) (de : Addr) (el : Addr) (ea : Addr) (ca : Addr) (cl : Cell) (v1 : Addr) (v2 : Addr) (v3 : Addr) (v4 : Addr) (v5 : Addr) (h0 : Heap) (n0 : Nat) (vQ : Option Value) (hQ : Heap) (LQ : List Loc) : Prop := vQ = some (.int (1 : Int32)) ∧ Fr n0 LQ ∧ Keep h0 hQ []
set_option maxRecDepth 65536 in
set_option maxHeartbeats 40000000 in
theorem rm_rm0_JS (l : Launch) (Z : State) (a0 : Array Value) (hw : ∀ d ∈ tables_1, d.before a0 Z = true) (p0 : Int32) (p1 : Int32) (p2 : Int32) (p3 : Int32) (p4 : Int32) (de : Addr) (el : Addr) (ea : Addr) (ca : Addr) (cl : Cell) (v1 : Addr) (v2 : Addr) (v3 : Addr) (v4 : Addr) (v5 : Addr) (h0 : Heap) (n0 : Nat) (zD : Sta Z Z.heap cAL cDE cOA (.ref de)) (zN : Rn Z Z.heap de (0 : Int32)) (zL : Sta Z Z.heap cIM "EMPTY_LIST" "Ljava/util/ImmutableCollections$ListN;" (.ref el)) (zH : Sta Z Z.heap cIC "high" "I" (.int (127 : Int32))) (zC : Sta Z Z.heap cIC "cache" "[Ljava/lang/Integer;" (.ref ca)) (zLE : Exa Z Z.heap el cLN) (zLF : Fld Z Z.heap el cLN "elements" cOA (.ref ea)) (zLN : Rn Z Z.heap ea (0 : Int32)) (zE1 : Exa Z Z.heap v1 cIN) (zV1 : Fld Z Z.heap v1 cIN "value" "I" (.int (1 : Int32))) (zE2 : Exa Z Z.heap v2 cIN) (zV2 : Fld Z Z.heap v2 cIN "value" "I" (.int (2 : Int32))) (zE3 : Exa Z Z.heap v3 cIN) (zV3 : Fld Z Z.heap v3 cIN "value" "I" (.int (3 : Int32))) (zE4 : Exa Z Z.heap v4 cIN) (zV4 : Fld Z Z.heap v4 cIN "value" "I" (.int (4 : Int32))) (zE5 : Exa Z Z.heap v5 cIN) (zV5 : Fld Z Z.heap v5 cIN "value" "I" (.int (5 : Int32))) (hA : Arr Z Z.heap ca cl (.object cIN)) (hin1 : ¬ (((1 : Int32) + (128 : Int32)) < 0 ∨ cl.slots.size ≤ ((1 : Int32) + (128 : Int32)).toNatClampNeg)) (hat1 : cl.slots[((1 : Int32) + (128 : Int32)).toNatClampNeg]? = some (.ref v1)) (hin2 : ¬ (((2 : Int32) + (128 : Int32)) < 0 ∨ cl.slots.size ≤ ((2 : Int32) + (128 : Int32)).toNatClampNeg)) (hat2 : cl.slots[((2 : Int32) + (128 : Int32)).toNatClampNeg]? = some (.ref v2)) (hin3 : ¬ (((3 : Int32) + (128 : Int32)) < 0 ∨ cl.slots.size ≤ ((3 : Int32) + (128 : Int32)).toNatClampNeg)) (hat3 : cl.slots[((3 : Int32) + (128 : Int32)).toNatClampNeg]? = some (.ref v3)) (hin4 : ¬ (((4 : Int32) + (128 : Int32)) < 0 ∨ cl.slots.size ≤ ((4 : Int32) + (128 : Int32)).toNatClampNeg)) (hat4 : cl.slots[((4 : Int32) + (128 : Int32)).toNatClampNeg]? = some (.ref v4)) (hin5 : ¬ (((5 : Int32) + (128 : Int32)) < 0 ∨ cl.slots.size ≤ ((5 : Int32) + (128 : Int32)).toNatClampNeg)) (hat5 : cl.slots[((5 : Int32) + (128 : Int32)).toNatClampNeg]? = some (.ref v5)) {p : Program} {e : Env} {s : State} {m : MethodId} {below : List Frame} {meth : Method} {c : Code} (hx : p.tables.exec = Jvm.exec) (hby : c.code = code) (hlk : meth.locks = false) (hml : c.maxLocals = 26) (hown : s.vm.findClass cLAW = some m.cls) (hZ : Z.Warmed39 s.vm) (hret : meth.sig.returnType = ret) :
    ∀ (T475 : State) (L475 : List Loc) (h475 : Heap) (ov : Int32) (b1 : Int32) (b2 : Int32) (b3 : Int32) (xx : Int32) (dd : Int32) (yy : Int32) (n : Int32) (f : Addr) (l1 : Addr) (l4 : Addr) (l6 : Addr) (d4 : Addr) (l5 : Addr) (d5 : Addr), Stand p l e room_1 s m #[(.int p0), (.int p1), (.int p2), (.int p3), (.int p4)] below meth c T475 L475 13 61 → T475.heap = h475 → Fr n0 L475 → n0 ≤ h475.size → Keep h0 h475 [] → Exa Z h475 l1 cAL → Fld Z h475 l1 cAL "size" "I" (.int n) → Exa Z h475 l6 cAL → Fld Z h475 l6 cAL "size" "I" (.int (0 : Int32)) → Old Z n0 h475 → Exa Z h475 l4 cAL → Fld Z h475 l4 cAL "size" "I" (.int (1 : Int32)) → Fld Z h475 l4 cAL "elementData" cOA (.ref d4) → Ra Z h475 d4 cOB [(.ref v4), .null, .null, .null, .null, .null, .null, .null, .null, .null] → Exa Z h475 l5 cAL → Fld Z h475 l5 cAL "size" "I" (.int (1 : Int32)) → Fld Z h475 l5 cAL "elementData" cOA (.ref d5) → Ra Z h475 d5 cOB [(.ref v5), .null, .null, .null, .null, .null, .null, .null, .null, .null] → (0 : Int32) < dd → Go p e below (T475.setTop (mkF m 387 #[vi p0, vi p1, vi p2, vi p3, vi p4, vi ov, vi n, vi b1, vi b2, vi b3, vi xx, vi dd, vi yy, vr v1, vr v2, vr v3, vr v4, vr v5, vr f, vi (1 : Int32), vr l1, vr el, vr l4, vr l5, vr l6, .unset] [])) (Done s (Q_rm0 Z p0 p1 p2 p3 p4 de el ea ca cl v1 v2 v3 v4 v5 h0 n0) room_1.cells room_1.slots) := by
  intro T475 L475 h475 ov b1 b2 b3 xx dd yy n f l1 l4 l6 d4 l5 d5 X475 e475 N475 z475 k475 f1475 f2475 f3475 f4475 fo475 g1475 g2475 g3475 g4475 g5475 g6475 g7475 g8475 hsp475
  show Go p e below (T475.setTop (mkF m 387 #[vi p0, vi p1, vi p2, vi p3, vi p4, vi ov, vi n, vi b1, vi b2, vi b3, vi xx, vi dd, vi yy, vr v1, vr v2, vr v3, vr v4, vr v5, vr f, vi (1 : Int32), vr l1, vr el, vr l4, vr l5, vr l6, .unset] [])) _
  refine Go.via (fun _ => XS.iload X475.here hx rfl (hb hby at_387) rfl) ?_
  refine Go.via (fun _ => XS.ifNo X475.here hx rfl (hb hby at_389) rfl ((if0 _ _).trans (feq ((by decide) : ¬ ((1 : Int32) = (0 : Int32)))).1)) ?_
  refine Go.via (fun _ => XS.aload X475.here hx rfl (hb hby at_392) rfl rfl) ?_
  have f476 : Fld Z h475 el cLN "elements" cOA (.ref ea) := zLF.ext fo475.2
  have f477 : Rn Z h475 ea (0 : Int32) := zLN.ext fo475.2
  have f479 : Exa Z h475 el cLN := zLE.ext fo475.2
  obtain ⟨cq478, kq478, q478a, q478b, q478c⟩ := isOf hZ e475 f479
  obtain ⟨r478, _, ⟨T478, L478, k478, n478⟩, -, X478, ⟨Lc478, hQ478, l478, y478, z478⟩, st478⟩ := X475.interfaceBack hx (xi := (⟨cLI, "size", "()I"⟩ : MethodName)) (y := (⟨cLN, "size", "()I"⟩ : MethodName)) hown (mvT hZ (tw hw 103 rfl)) (mvT hZ (tw hw 104 rfl)) (mvT hZ (tw hw 105 rfl)) (mvT hZ (tw hw 106 rfl)) (mvT hZ (tw hw 107 rfl)) (mvT hZ (tw hw 108 rfl)) (mvT hZ (tw hw 109 rfl)) (mvT hZ (tw hw 110 rfl)) (by decide) (backOf (W := 0) (rmNs l Z a0 hw [] el ea h475 n0 z475 f476 f477) hZ (tw hw 112 rfl) (tw hw 111 rfl) (by decide) (by decide)) q478a q478b q478c (g := (mkF m 394 #[vi p0, vi p1, vi p2, vi p3, vi p4, vi ov, vi n, vi b1, vi b2, vi b3, vi xx, vi dd, vi yy, vr v1, vr v2, vr v3, vr v4, vr v5, vr f, vi (1 : Int32), vr l1, vr el, vr l4, vr l5, vr l6, .unset] [(.ref el)])) rfl (by rw [hml]; rfl) (Steps.refl _) (argsL := []) (rest := []) (lenOf pd__28_29I rfl) rfl (by show 2 * 0 + _ ≤ _; exact Nat.le_of_eq rfl) (hb hby at_394) (fun _ _ => ⟨rfl, e475, (by decide : 13 + 0 ≤ _), (by decide : 61 + 0 ≤ _)⟩)
  dsimp only [Pt.U, Pt.locs, Pt.cells, Pt.slots] at X478 l478 y478 z478 st478 hQ478
  rw [l478, y478, z478] at X478
  clear l478 y478 z478
  obtain ⟨hr478, N478q, eh478⟩ := hQ478
  rw [hr478] at st478
  clear hr478
  have N478 := Fr.app N475 N478q
  refine Go.via (fun _ kQ => st478.trans kQ) ?_
  clear st478
  have e478 : T478.heap = h475 := eh478
  clear X475 e475
  show Go p e below (T478.setTop (mkF m 399 #[vi p0, vi p1, vi p2, vi p3, vi p4, vi ov, vi n, vi b1, vi b2, vi b3, vi xx, vi dd, vi yy, vr v1, vr v2, vr v3, vr v4, vr v5, vr f, vi (1 : Int32), vr l1, vr el, vr l4, vr l5, vr l6, .unset] [(.int (0 : Int32))])) _
  refine Go.via (fun _ => XS.ifNo X478.here hx rfl (hb hby at_399) rfl ((if0 _ _).trans (teq ((by decide) : (0 : Int32) = (0 : Int32))).2)) ?_
  refine Go.via (fun _ => XS.iconst X478.here hx rfl (hb hby at_402)) ?_
  refine Go.via (fun _ => XS.goto X478.here hx rfl (pc0 := 403) (pc' := 407) rfl (hb hby at_403) (by decide) (by decide)) ?_
  refine Go.via (fun _ => XS.istore X478.here hx rfl (hb hby at_407) rfl (l' := #[vi p0, vi p1, vi p2, vi p3, vi p4, vi ov, vi n, vi b1, vi b2, vi b3, vi xx, vi dd, vi yy, vr v1, vr v2, vr v3, vr v4, vr v5, vr f, vi (1 : Int32), vr l1, vr el, vr l4, vr l5, vr l6, .unset]) rfl) ?_
  refine Go.via (fun _ => XS.iload X478.here hx rfl (hb hby at_409) rfl) ?_
  refine Go.via (fun _ => XS.ifNo X478.here hx rfl (hb hby at_411) rfl ((if0 _ _).trans (tlt (hsp475 : (0 : Int32) < dd)).2.2.2)) ?_
  refine Go.via (fun _ => XS.iconst X478.here hx rfl (hb hby at_414)) ?_
  show Go p e below (T478.setTop (mkF m 415 #[vi p0, vi p1, vi p2, vi p3, vi p4, vi ov, vi n, vi b1, vi b2, vi b3, vi xx, vi dd, vi yy, vr v1, vr v2, vr v3, vr v4, vr v5, vr f, vi (1 : Int32), vr l1, vr el, vr l4, vr l5, vr l6, .unset] [(.int (1 : Int32))])) _
  refine Go.via (fun _ => XS.goto X478.here hx rfl (pc0 := 415) (pc' := 419) rfl (hb hby at_415) (by decide) (by decide)) ?_
  refine Go.via (fun _ => XS.istore X478.here hx rfl (hb hby at_419) rfl (l' := #[vi p0, vi p1, vi p2, vi p3, vi p4, vi ov, vi n, vi b1, vi b2, vi b3, vi xx, vi dd, vi yy, vr v1, vr v2, vr v3, vr v4, vr v5, vr f, vi (1 : Int32), vr l1, vr el, vr l4, vr l5, vr l6, vi (1 : Int32)]) rfl) ?_
  refine Go.via (fun _ => XS.iload X478.here hx rfl (hb hby at_421) rfl) ?_
  refine Go.via (fun _ => XS.ifNo X478.here hx rfl (hb hby at_423) rfl ((if0 _ _).trans (feq ((by decide) : ¬ ((1 : Int32) = (0 : Int32)))).1)) ?_
  refine Go.via (fun _ => XS.iload X478.here hx rfl (hb hby at_426) rfl) ?_
  refine Go.via (fun _ => XS.ifNo X478.here hx rfl (hb hby at_428) rfl ((if0 _ _).trans (feq ((by decide) : ¬ ((1 : Int32) = (0 : Int32)))).1)) ?_
  refine Go.via (fun _ => XS.aload X478.here hx rfl (hb hby at_431) rfl rfl) ?_
  show Go p e below (T478.setTop (mkF m 433 #[vi p0, vi p1, vi p2, vi p3, vi p4, vi ov, vi n, vi b1, vi b2, vi b3, vi xx, vi dd, vi yy, vr v1, vr v2, vr v3, vr v4, vr v5, vr f, vi (1 : Int32), vr l1, vr el, vr l4, vr l5, vr l6, vi (1 : Int32)] [(.ref l4)])) _
  obtain ⟨cq480, kq480, q480a, q480b, q480c⟩ := isOf hZ e478 g1475
  obtain ⟨r480, _, ⟨T480, L480, k480, n480⟩, -, X480, ⟨Lc480, hQ480, l480, y480, z480⟩, st480⟩ := X478.interfaceBack hx (xi := (⟨cLI, "size", "()I"⟩ : MethodName)) (y := (⟨cAL, "size", "()I"⟩ : MethodName)) hown (mvT hZ (tw hw 103 rfl)) (mvT hZ (tw hw 104 rfl)) (mvT hZ (tw hw 105 rfl)) (mvT hZ (tw hw 121 rfl)) (mvT hZ (tw hw 122 rfl)) (mvT hZ (tw hw 123 rfl)) (mvT hZ (tw hw 124 rfl)) (mvT hZ (tw hw 67 rfl)) (by decide) (backOf (W := 0) (rmSz l Z a0 hw [] l4 (1 : Int32) h475 n0 z475 g2475) hZ (tw hw 125 rfl) (tw hw 21 rfl) (by decide) (by decide)) q480a q480b q480c (g := (mkF m 433 #[vi p0, vi p1, vi p2, vi p3, vi p4, vi ov, vi n, vi b1, vi b2, vi b3, vi xx, vi dd, vi yy, vr v1, vr v2, vr v3, vr v4, vr v5, vr f, vi (1 : Int32), vr l1, vr el, vr l4, vr l5, vr l6, vi (1 : Int32)] [(.ref l4)])) rfl (by rw [hml]; rfl) (Steps.refl _) (argsL := []) (rest := []) (lenOf pd__28_29I rfl) rfl (by show 2 * 0 + _ ≤ _; exact Nat.le_of_eq rfl) (hb hby at_433) (fun _ _ => ⟨rfl, e478, (by decide : 13 + 0 ≤ _), (by decide : 61 + 0 ≤ _)⟩)
  dsimp only [Pt.U, Pt.locs, Pt.cells, Pt.slots] at X480 l480 y480 z480 st480 hQ480
  rw [l480, y480, z480] at X480
  clear l480 y480 z480
  obtain ⟨hr480, N480q, eh480⟩ := hQ480
  rw [hr480] at st480
  clear hr480
  have N480 := Fr.app N478 N480q
  refine Go.via (fun _ kQ => st480.trans kQ) ?_
  clear st480
  have e480 : T480.heap = h475 := eh480
  clear X478 e478
  show Go p e below (T480.setTop (mkF m 438 #[vi p0, vi p1, vi p2, vi p3, vi p4, vi ov, vi n, vi b1, vi b2, vi b3, vi xx, vi dd, vi yy, vr v1, vr v2, vr v3, vr v4, vr v5, vr f, vi (1 : Int32), vr l1, vr el, vr l4, vr l5, vr l6, vi (1 : Int32)] [(.int (1 : Int32))])) _
  refine Go.via (fun _ => XS.iconst X480.here hx rfl (hb hby at_438)) ?_
  refine Go.via (fun _ => XS.icmpNo X480.here hx rfl (hb hby at_439) rfl (teq ((by decide) : (1 : Int32) = (1 : Int32))).2) ?_
  refine Go.via (fun _ => XS.aload X480.here hx rfl (hb hby at_442) rfl rfl) ?_
  refine Go.via (fun _ => XS.iconst X480.here hx rfl (hb hby at_444)) ?_
  obtain ⟨cq481, kq481, q481a, q481b, q481c⟩ := isOf hZ e480 g1475
  obtain ⟨r481, _, ⟨T481, L481, k481, n481⟩, -, X481, ⟨Lc481, hQ481, l481, y481, z481⟩, st481⟩ := X480.interfaceBack hx (xi := (⟨cLI, "get", "(I)Ljava/lang/Object;"⟩ : MethodName)) (y := (⟨cAL, "get", "(I)Ljava/lang/Object;"⟩ : MethodName)) hown (mvT hZ (tw hw 126 rfl)) (mvT hZ (tw hw 127 rfl)) (mvT hZ (tw hw 128 rfl)) (mvT hZ (tw hw 129 rfl)) (mvT hZ (tw hw 130 rfl)) (mvT hZ (tw hw 131 rfl)) (mvT hZ (tw hw 132 rfl)) (mvT hZ (tw hw 67 rfl)) (by decide) (backOf (W := 0) (rmGt l Z a0 hw [] l4 (0 : Int32) d4 [(.ref v4), .null, .null, .null, .null, .null, .null, .null, .null, .null] v4 (1 : Int32) h475 n0 z475 g3475 g2475 g4475 g1475 (by first | decide | (simp only [List.length_cons, List.length_nil]; decide) | rfl) (by first | decide | (simp only [List.length_cons, List.length_nil]; decide) | rfl) rfl) hZ (tw hw 133 rfl) (tw hw 21 rfl) (by decide) (by decide)) q481a q481b q481c (g := (mkF m 445 #[vi p0, vi p1, vi p2, vi p3, vi p4, vi ov, vi n, vi b1, vi b2, vi b3, vi xx, vi dd, vi yy, vr v1, vr v2, vr v3, vr v4, vr v5, vr f, vi (1 : Int32), vr l1, vr el, vr l4, vr l5, vr l6, vi (1 : Int32)] [(.int (0 : Int32)), (.ref l4)])) rfl (by rw [hml]; rfl) (Steps.refl _) (argsL := [(.int (0 : Int32))]) (rest := []) (lenOf pd__28I_29Ljava_2flang_2fObject_3b rfl) rfl (by show 2 * 0 + _ ≤ _; exact Nat.le_of_eq rfl) (hb hby at_445) (fun _ _ => ⟨rfl, e480, (by decide : 13 + 0 ≤ _), (by decide : 61 + 0 ≤ _)⟩)
  dsimp only [Pt.U, Pt.locs, Pt.cells, Pt.slots] at X481 l481 y481 z481 st481 hQ481
  rw [l481, y481, z481] at X481
  clear l481 y481 z481
  obtain ⟨hr481, N481q, eh481⟩ := hQ481
  rw [hr481] at st481
  clear hr481
  have N481 := Fr.app N480 N481q
  refine Go.via (fun _ kQ => st481.trans kQ) ?_
  clear st481
  have e481 : T481.heap = h475 := eh481
  clear X480 e480
  show Go p e below (T481.setTop (mkF m 450 #[vi p0, vi p1, vi p2, vi p3, vi p4, vi ov, vi n, vi b1, vi b2, vi b3, vi xx, vi dd, vi yy, vr v1, vr v2, vr v3, vr v4, vr v5, vr f, vi (1 : Int32), vr l1, vr el, vr l4, vr l5, vr l6, vi (1 : Int32)] [(.ref v4)])) _
  have f482 : Exa Z h475 v4 cIN := zE4.ext fo475.2
  obtain ⟨T483, X483, e483, st483⟩ := castY X481 hx hZ hown (tw hw 147 rfl) e481 (Ins.self f482) (g := (mkF m 450 #[vi p0, vi p1, vi p2, vi p3, vi p4, vi ov, vi n, vi b1, vi b2, vi b3, vi xx, vi dd, vi yy, vr v1, vr v2, vr v3, vr v4, vr v5, vr f, vi (1 : Int32), vr l1, vr el, vr l4, vr l5, vr l6, vi (1 : Int32)] [(.ref v4)])) rfl rfl (hb hby at_450)
  refine Go.via (st483) ?_
  clear st483
  clear X481 e481
  show Go p e below (T483.setTop (mkF m 453 #[vi p0, vi p1, vi p2, vi p3, vi p4, vi ov, vi n, vi b1, vi b2, vi b3, vi xx, vi dd, vi yy, vr v1, vr v2, vr v3, vr v4, vr v5, vr f, vi (1 : Int32), vr l1, vr el, vr l4, vr l5, vr l6, vi (1 : Int32)] [(.ref v4)])) _
  have f484 : Fld Z h475 v4 cIN "value" "I" (.int (4 : Int32)) := zV4.ext fo475.2
  have f486 : Exa Z h475 v4 cIN := zE4.ext fo475.2
  obtain ⟨cq485, kq485, q485a, q485b, q485c⟩ := isOf hZ e483 f486
  obtain ⟨r485, _, ⟨T485, L485, k485, n485⟩, -, X485, ⟨Lc485, hQ485, l485, y485, z485⟩, st485⟩ := X483.virtualBack hx (y := (⟨cIN, "intValue", "()I"⟩ : MethodName)) (z := (⟨cIN, "intValue", "()I"⟩ : MethodName)) hown (mvT hZ (tw hw 149 rfl)) (mvT hZ (tw hw 150 rfl)) (notFace_of_selects (args := #[]) (mvT hZ (tw hw 152 rfl))) (mvT hZ (tw hw 152 rfl)) (mvT hZ (tw hw 151 rfl)) (by decide) (backOf (W := 0) (rmIv l Z a0 hw [] v4 (4 : Int32) h475 n0 z475 f484) hZ (tw hw 153 rfl) (tw hw 5 rfl) (by decide) (by decide)) q485a q485c (g := (mkF m 453 #[vi p0, vi p1, vi p2, vi p3, vi p4, vi ov, vi n, vi b1, vi b2, vi b3, vi xx, vi dd, vi yy, vr v1, vr v2, vr v3, vr v4, vr v5, vr f, vi (1 : Int32), vr l1, vr el, vr l4, vr l5, vr l6, vi (1 : Int32)] [(.ref v4)])) rfl (by rw [hml]; rfl) (Steps.refl _) (argsL := []) (rest := []) (lenOf pd__28_29I rfl) rfl (by show 2 * 0 + _ ≤ _; exact Nat.le_of_eq rfl) (hb hby at_453) (fun _ _ => ⟨rfl, e483, (by decide : 13 + 0 ≤ _), (by decide : 61 + 0 ≤ _)⟩)
  dsimp only [Pt.U, Pt.locs, Pt.cells, Pt.slots] at X485 l485 y485 z485 st485 hQ485
  rw [l485, y485, z485] at X485
  clear l485 y485 z485
  obtain ⟨hr485, N485q, eh485⟩ := hQ485
  rw [hr485] at st485
  clear hr485
  have N485 := Fr.app N481 N485q
  refine Go.via (fun _ kQ => st485.trans kQ) ?_
  clear st485
  have e485 : T485.heap = h475 := eh485
  clear X483 e483
  show Go p e below (T485.setTop (mkF m 456 #[vi p0, vi p1, vi p2, vi p3, vi p4, vi ov, vi n, vi b1, vi b2, vi b3, vi xx, vi dd, vi yy, vr v1, vr v2, vr v3, vr v4, vr v5, vr f, vi (1 : Int32), vr l1, vr el, vr l4, vr l5, vr l6, vi (1 : Int32)] [(.int (4 : Int32))])) _
  refine Go.via (fun _ => XS.iconst X485.here hx rfl (hb hby at_456)) ?_
  refine Go.via (fun _ => XS.icmpNo X485.here hx rfl (hb hby at_457) rfl (teq ((by decide) : (4 : Int32) = (4 : Int32))).2) ?_
  refine Go.via (fun _ => XS.iconst X485.here hx rfl (hb hby at_460)) ?_
  refine Go.via (fun _ => XS.goto X485.here hx rfl (pc0 := 461) (pc' := 465) rfl (hb hby at_461) (by decide) (by decide)) ?_
  refine Go.via (fun _ => XS.istore X485.here hx rfl (hb hby at_465) rfl (l' := #[vi p0, vi p1, vi p2, vi p3, vi p4, vi ov, vi n, vi b1, vi b2, vi b3, vi xx, vi dd, vi yy, vr v1, vr v2, vr v3, vr v4, vr v5, vr f, vi (1 : Int32), vr l1, vr el, vr l4, vr l5, vr l6, vi (1 : Int32)]) rfl) ?_
  refine Go.via (fun _ => XS.iload X485.here hx rfl (hb hby at_467) rfl) ?_
  refine Go.via (fun _ => XS.ifNo X485.here hx rfl (hb hby at_469) rfl ((if0 _ _).trans (feq ((by decide) : ¬ ((1 : Int32) = (0 : Int32)))).1)) ?_
  show Go p e below (T485.setTop (mkF m 472 #[vi p0, vi p1, vi p2, vi p3, vi p4, vi ov, vi n, vi b1, vi b2, vi b3, vi xx, vi dd, vi yy, vr v1, vr v2, vr v3, vr v4, vr v5, vr f, vi (1 : Int32), vr l1, vr el, vr l4, vr l5, vr l6, vi (1 : Int32)] [])) _
  refine Go.via (fun _ => XS.aload X485.here hx rfl (hb hby at_472) rfl rfl) ?_
  obtain ⟨cq487, kq487, q487a, q487b, q487c⟩ := isOf hZ e485 g5475
  obtain ⟨r487, _, ⟨T487, L487, k487, n487⟩, -, X487, ⟨Lc487, hQ487, l487, y487, z487⟩, st487⟩ := X485.interfaceBack hx (xi := (⟨cLI, "size", "()I"⟩ : MethodName)) (y := (⟨cAL, "size", "()I"⟩ : MethodName)) hown (mvT hZ (tw hw 103 rfl)) (mvT hZ (tw hw 104 rfl)) (mvT hZ (tw hw 105 rfl)) (mvT hZ (tw hw 121 rfl)) (mvT hZ (tw hw 122 rfl)) (mvT hZ (tw hw 123 rfl)) (mvT hZ (tw hw 124 rfl)) (mvT hZ (tw hw 67 rfl)) (by decide) (backOf (W := 0) (rmSz l Z a0 hw [] l5 (1 : Int32) h475 n0 z475 g6475) hZ (tw hw 125 rfl) (tw hw 21 rfl) (by decide) (by decide)) q487a q487b q487c (g := (mkF m 474 #[vi p0, vi p1, vi p2, vi p3, vi p4, vi ov, vi n, vi b1, vi b2, vi b3, vi xx, vi dd, vi yy, vr v1, vr v2, vr v3, vr v4, vr v5, vr f, vi (1 : Int32), vr l1, vr el, vr l4, vr l5, vr l6, vi (1 : Int32)] [(.ref l5)])) rfl (by rw [hml]; rfl) (Steps.refl _) (argsL := []) (rest := []) (lenOf pd__28_29I rfl) rfl (by show 2 * 0 + _ ≤ _; exact Nat.le_of_eq rfl) (hb hby at_474) (fun _ _ => ⟨rfl, e485, (by decide : 13 + 0 ≤ _), (by decide : 61 + 0 ≤ _)⟩)
  dsimp only [Pt.U, Pt.locs, Pt.cells, Pt.slots] at X487 l487 y487 z487 st487 hQ487
  rw [l487, y487, z487] at X487
  clear l487 y487 z487
  obtain ⟨hr487, N487q, eh487⟩ := hQ487
  rw [hr487] at st487
  clear hr487
  have N487 := Fr.app N485 N487q
  refine Go.via (fun _ kQ => st487.trans kQ) ?_
  clear st487
  have e487 : T487.heap = h475 := eh487
  clear X485 e485
  show Go p e below (T487.setTop (mkF m 479 #[vi p0, vi p1, vi p2, vi p3, vi p4, vi ov, vi n, vi b1, vi b2, vi b3, vi xx, vi dd, vi yy, vr v1, vr v2, vr v3, vr v4, vr v5, vr f, vi (1 : Int32), vr l1, vr el, vr l4, vr l5, vr l6, vi (1 : Int32)] [(.int (1 : Int32))])) _
  refine Go.via (fun _ => XS.iconst X487.here hx rfl (hb hby at_479)) ?_
  refine Go.via (fun _ => XS.icmpNo X487.here hx rfl (hb hby at_480) rfl (teq ((by decide) : (1 : Int32) = (1 : Int32))).2) ?_
  refine Go.via (fun _ => XS.aload X487.here hx rfl (hb hby at_483) rfl rfl) ?_
  refine Go.via (fun _ => XS.iconst X487.here hx rfl (hb hby at_485)) ?_
  obtain ⟨cq488, kq488, q488a, q488b, q488c⟩ := isOf hZ e487 g5475
  obtain ⟨r488, _, ⟨T488, L488, k488, n488⟩, -, X488, ⟨Lc488, hQ488, l488, y488, z488⟩, st488⟩ := X487.interfaceBack hx (xi := (⟨cLI, "get", "(I)Ljava/lang/Object;"⟩ : MethodName)) (y := (⟨cAL, "get", "(I)Ljava/lang/Object;"⟩ : MethodName)) hown (mvT hZ (tw hw 126 rfl)) (mvT hZ (tw hw 127 rfl)) (mvT hZ (tw hw 128 rfl)) (mvT hZ (tw hw 129 rfl)) (mvT hZ (tw hw 130 rfl)) (mvT hZ (tw hw 131 rfl)) (mvT hZ (tw hw 132 rfl)) (mvT hZ (tw hw 67 rfl)) (by decide) (backOf (W := 0) (rmGt l Z a0 hw [] l5 (0 : Int32) d5 [(.ref v5), .null, .null, .null, .null, .null, .null, .null, .null, .null] v5 (1 : Int32) h475 n0 z475 g7475 g6475 g8475 g5475 (by first | decide | (simp only [List.length_cons, List.length_nil]; decide) | rfl) (by first | decide | (simp only [List.length_cons, List.length_nil]; decide) | rfl) rfl) hZ (tw hw 133 rfl) (tw hw 21 rfl) (by decide) (by decide)) q488a q488b q488c (g := (mkF m 486 #[vi p0, vi p1, vi p2, vi p3, vi p4, vi ov, vi n, vi b1, vi b2, vi b3, vi xx, vi dd, vi yy, vr v1, vr v2, vr v3, vr v4, vr v5, vr f, vi (1 : Int32), vr l1, vr el, vr l4, vr l5, vr l6, vi (1 : Int32)] [(.int (0 : Int32)), (.ref l5)])) rfl (by rw [hml]; rfl) (Steps.refl _) (argsL := [(.int (0 : Int32))]) (rest := []) (lenOf pd__28I_29Ljava_2flang_2fObject_3b rfl) rfl (by show 2 * 0 + _ ≤ _; exact Nat.le_of_eq rfl) (hb hby at_486) (fun _ _ => ⟨rfl, e487, (by decide : 13 + 0 ≤ _), (by decide : 61 + 0 ≤ _)⟩)
  dsimp only [Pt.U, Pt.locs, Pt.cells, Pt.slots] at X488 l488 y488 z488 st488 hQ488
  rw [l488, y488, z488] at X488
  clear l488 y488 z488
  obtain ⟨hr488, N488q, eh488⟩ := hQ488
  rw [hr488] at st488
  clear hr488
  have N488 := Fr.app N487 N488q
  refine Go.via (fun _ kQ => st488.trans kQ) ?_
  clear st488
  have e488 : T488.heap = h475 := eh488
  clear X487 e487
  show Go p e below (T488.setTop (mkF m 491 #[vi p0, vi p1, vi p2, vi p3, vi p4, vi ov, vi n, vi b1, vi b2, vi b3, vi xx, vi dd, vi yy, vr v1, vr v2, vr v3, vr v4, vr v5, vr f, vi (1 : Int32), vr l1, vr el, vr l4, vr l5, vr l6, vi (1 : Int32)] [(.ref v5)])) _
  have f489 : Exa Z h475 v5 cIN := zE5.ext fo475.2
  obtain ⟨T490, X490, e490, st490⟩ := castY X488 hx hZ hown (tw hw 147 rfl) e488 (Ins.self f489) (g := (mkF m 491 #[vi p0, vi p1, vi p2, vi p3, vi p4, vi ov, vi n, vi b1, vi b2, vi b3, vi xx, vi dd, vi yy, vr v1, vr v2, vr v3, vr v4, vr v5, vr f, vi (1 : Int32), vr l1, vr el, vr l4, vr l5, vr l6, vi (1 : Int32)] [(.ref v5)])) rfl rfl (hb hby at_491)
  refine Go.via (st490) ?_
  clear st490
  clear X488 e488
  show Go p e below (T490.setTop (mkF m 494 #[vi p0, vi p1, vi p2, vi p3, vi p4, vi ov, vi n, vi b1, vi b2, vi b3, vi xx, vi dd, vi yy, vr v1, vr v2, vr v3, vr v4, vr v5, vr f, vi (1 : Int32), vr l1, vr el, vr l4, vr l5, vr l6, vi (1 : Int32)] [(.ref v5)])) _
  have f491 : Fld Z h475 v5 cIN "value" "I" (.int (5 : Int32)) := zV5.ext fo475.2
  have f493 : Exa Z h475 v5 cIN := zE5.ext fo475.2
  obtain ⟨cq492, kq492, q492a, q492b, q492c⟩ := isOf hZ e490 f493
  obtain ⟨r492, _, ⟨T492, L492, k492, n492⟩, -, X492, ⟨Lc492, hQ492, l492, y492, z492⟩, st492⟩ := X490.virtualBack hx (y := (⟨cIN, "intValue", "()I"⟩ : MethodName)) (z := (⟨cIN, "intValue", "()I"⟩ : MethodName)) hown (mvT hZ (tw hw 149 rfl)) (mvT hZ (tw hw 150 rfl)) (notFace_of_selects (args := #[]) (mvT hZ (tw hw 152 rfl))) (mvT hZ (tw hw 152 rfl)) (mvT hZ (tw hw 151 rfl)) (by decide) (backOf (W := 0) (rmIv l Z a0 hw [] v5 (5 : Int32) h475 n0 z475 f491) hZ (tw hw 153 rfl) (tw hw 5 rfl) (by decide) (by decide)) q492a q492c (g := (mkF m 494 #[vi p0, vi p1, vi p2, vi p3, vi p4, vi ov, vi n, vi b1, vi b2, vi b3, vi xx, vi dd, vi yy, vr v1, vr v2, vr v3, vr v4, vr v5, vr f, vi (1 : Int32), vr l1, vr el, vr l4, vr l5, vr l6, vi (1 : Int32)] [(.ref v5)])) rfl (by rw [hml]; rfl) (Steps.refl _) (argsL := []) (rest := []) (lenOf pd__28_29I rfl) rfl (by show 2 * 0 + _ ≤ _; exact Nat.le_of_eq rfl) (hb hby at_494) (fun _ _ => ⟨rfl, e490, (by decide : 13 + 0 ≤ _), (by decide : 61 + 0 ≤ _)⟩)
  dsimp only [Pt.U, Pt.locs, Pt.cells, Pt.slots] at X492 l492 y492 z492 st492 hQ492
  rw [l492, y492, z492] at X492
  clear l492 y492 z492
  obtain ⟨hr492, N492q, eh492⟩ := hQ492
  rw [hr492] at st492
  clear hr492
  have N492 := Fr.app N488 N492q
  refine Go.via (fun _ kQ => st492.trans kQ) ?_
  clear st492
  have e492 : T492.heap = h475 := eh492
  clear X490 e490
  show Go p e below (T492.setTop (mkF m 497 #[vi p0, vi p1, vi p2, vi p3, vi p4, vi ov, vi n, vi b1, vi b2, vi b3, vi xx, vi dd, vi yy, vr v1, vr v2, vr v3, vr v4, vr v5, vr f, vi (1 : Int32), vr l1, vr el, vr l4, vr l5, vr l6, vi (1 : Int32)] [(.int (5 : Int32))])) _
  refine Go.via (fun _ => XS.iconst X492.here hx rfl (hb hby at_497)) ?_
  refine Go.via (fun _ => XS.icmpNo X492.here hx rfl (hb hby at_498) rfl (teq ((by decide) : (5 : Int32) = (5 : Int32))).2) ?_
  refine Go.via (fun _ => XS.iconst X492.here hx rfl (hb hby at_501)) ?_
  refine Go.via (fun _ => XS.goto X492.here hx rfl (pc0 := 502) (pc' := 506) rfl (hb hby at_502) (by decide) (by decide)) ?_
  refine Go.via (fun _ => XS.istore X492.here hx rfl (hb hby at_506) rfl (l' := #[vi p0, vi p1, vi p2, vi p3, vi p4, vi ov, vi n, vi b1, vi b2, vi b3, vi xx, vi dd, vi yy, vr v1, vr v2, vr v3, vr v4, vr v5, vr f, vi (1 : Int32), vr l1, vr el, vr l4, vr l5, vr l6, vi (1 : Int32)]) rfl) ?_
  refine Go.via (fun _ => XS.goto X492.here hx rfl (pc0 := 508) (pc' := 592) rfl (hb hby at_508) (by decide) (by decide)) ?_
  refine Go.via (fun _ => XS.iload X492.here hx rfl (hb hby at_592) rfl) ?_
  show Go p e below (T492.setTop (mkF m 594 #[vi p0, vi p1, vi p2, vi p3, vi p4, vi ov, vi n, vi b1, vi b2, vi b3, vi xx, vi dd, vi yy, vr v1, vr v2, vr v3, vr v4, vr v5, vr f, vi (1 : Int32), vr l1, vr el, vr l4, vr l5, vr l6, vi (1 : Int32)] [(.int (1 : Int32))])) _
  refine Go.via (fun _ => XS.ifNo X492.here hx rfl (hb hby at_594) rfl ((if0 _ _).trans (feq ((by decide) : ¬ ((1 : Int32) = (0 : Int32)))).1)) ?_
  refine Go.via (fun _ => XS.aload X492.here hx rfl (hb hby at_597) rfl rfl) ?_
  obtain ⟨cq494, kq494, q494a, q494b, q494c⟩ := isOf hZ e492 f3475
  obtain ⟨r494, _, ⟨T494, L494, k494, n494⟩, -, X494, ⟨Lc494, hQ494, l494, y494, z494⟩, st494⟩ := X492.interfaceBack hx (xi := (⟨cLI, "size", "()I"⟩ : MethodName)) (y := (⟨cAL, "size", "()I"⟩ : MethodName)) hown (mvT hZ (tw hw 103 rfl)) (mvT hZ (tw hw 104 rfl)) (mvT hZ (tw hw 105 rfl)) (mvT hZ (tw hw 121 rfl)) (mvT hZ (tw hw 122 rfl)) (mvT hZ (tw hw 123 rfl)) (mvT hZ (tw hw 124 rfl)) (mvT hZ (tw hw 67 rfl)) (by decide) (backOf (W := 0) (rmSz l Z a0 hw [] l6 (0 : Int32) h475 n0 z475 f4475) hZ (tw hw 125 rfl) (tw hw 21 rfl) (by decide) (by decide)) q494a q494b q494c (g := (mkF m 599 #[vi p0, vi p1, vi p2, vi p3, vi p4, vi ov, vi n, vi b1, vi b2, vi b3, vi xx, vi dd, vi yy, vr v1, vr v2, vr v3, vr v4, vr v5, vr f, vi (1 : Int32), vr l1, vr el, vr l4, vr l5, vr l6, vi (1 : Int32)] [(.ref l6)])) rfl (by rw [hml]; rfl) (Steps.refl _) (argsL := []) (rest := []) (lenOf pd__28_29I rfl) rfl (by show 2 * 0 + _ ≤ _; exact Nat.le_of_eq rfl) (hb hby at_599) (fun _ _ => ⟨rfl, e492, (by decide : 13 + 0 ≤ _), (by decide : 61 + 0 ≤ _)⟩)
  dsimp only [Pt.U, Pt.locs, Pt.cells, Pt.slots] at X494 l494 y494 z494 st494 hQ494
  rw [l494, y494, z494] at X494
  clear l494 y494 z494
  obtain ⟨hr494, N494q, eh494⟩ := hQ494
  rw [hr494] at st494
  clear hr494
  have N494 := Fr.app N492 N494q
  refine Go.via (fun _ kQ => st494.trans kQ) ?_
  clear st494
  have e494 : T494.heap = h475 := eh494
  clear X492 e492
  show Go p e below (T494.setTop (mkF m 604 #[vi p0, vi p1, vi p2, vi p3, vi p4, vi ov, vi n, vi b1, vi b2, vi b3, vi xx, vi dd, vi yy, vr v1, vr v2, vr v3, vr v4, vr v5, vr f, vi (1 : Int32), vr l1, vr el, vr l4, vr l5, vr l6, vi (1 : Int32)] [(.int (0 : Int32))])) _
  refine Go.via (fun _ => XS.ifNo X494.here hx rfl (hb hby at_604) rfl ((if0 _ _).trans (teq ((by decide) : (0 : Int32) = (0 : Int32))).2)) ?_
  refine Go.via (fun _ => XS.iconst X494.here hx rfl (hb hby at_607)) ?_
  refine Go.via (fun _ => XS.goto X494.here hx rfl (pc0 := 608) (pc' := 612) rfl (hb hby at_608) (by decide) (by decide)) ?_
  refine Go.via (fun _ => XS.istore X494.here hx rfl (hb hby at_612) rfl (l' := #[vi p0, vi p1, vi p2, vi p3, vi p4, vi ov, vi n, vi b1, vi b2, vi b3, vi xx, vi dd, vi yy, vr v1, vr v2, vr v3, vr v4, vr v5, vr f, vi (1 : Int32), vr l1, vr el, vr l4, vr l5, vr l6, vi (1 : Int32)]) rfl) ?_
  refine Go.via (fun _ => XS.iload X494.here hx rfl (hb hby at_614) rfl) ?_
  refine Go.via (fun _ => XS.ifNo X494.here hx rfl (hb hby at_616) rfl ((if0 _ _).trans (feq ((by decide) : ¬ ((1 : Int32) = (0 : Int32)))).1)) ?_
  refine Go.via (fun _ => XS.aload X494.here hx rfl (hb hby at_619) rfl rfl) ?_
  show Go p e below (T494.setTop (mkF m 621 #[vi p0, vi p1, vi p2, vi p3, vi p4, vi ov, vi n, vi b1, vi b2, vi b3, vi xx, vi dd, vi yy, vr v1, vr v2, vr v3, vr v4, vr v5, vr f, vi (1 : Int32), vr l1, vr el, vr l4, vr l5, vr l6, vi (1 : Int32)] [(.ref l1)])) _
  obtain ⟨cq495, kq495, q495a, q495b, q495c⟩ := isOf hZ e494 f1475
  obtain ⟨r495, _, ⟨T495, L495, k495, n495⟩, -, X495, ⟨Lc495, hQ495, l495, y495, z495⟩, st495⟩ := X494.interfaceBack hx (xi := (⟨cLI, "size", "()I"⟩ : MethodName)) (y := (⟨cAL, "size", "()I"⟩ : MethodName)) hown (mvT hZ (tw hw 103 rfl)) (mvT hZ (tw hw 104 rfl)) (mvT hZ (tw hw 105 rfl)) (mvT hZ (tw hw 121 rfl)) (mvT hZ (tw hw 122 rfl)) (mvT hZ (tw hw 123 rfl)) (mvT hZ (tw hw 124 rfl)) (mvT hZ (tw hw 67 rfl)) (by decide) (backOf (W := 0) (rmSz l Z a0 hw [] l1 n h475 n0 z475 f2475) hZ (tw hw 125 rfl) (tw hw 21 rfl) (by decide) (by decide)) q495a q495b q495c (g := (mkF m 621 #[vi p0, vi p1, vi p2, vi p3, vi p4, vi ov, vi n, vi b1, vi b2, vi b3, vi xx, vi dd, vi yy, vr v1, vr v2, vr v3, vr v4, vr v5, vr f, vi (1 : Int32), vr l1, vr el, vr l4, vr l5, vr l6, vi (1 : Int32)] [(.ref l1)])) rfl (by rw [hml]; rfl) (Steps.refl _) (argsL := []) (rest := []) (lenOf pd__28_29I rfl) rfl (by show 2 * 0 + _ ≤ _; exact Nat.le_of_eq rfl) (hb hby at_621) (fun _ _ => ⟨rfl, e494, (by decide : 13 + 0 ≤ _), (by decide : 61 + 0 ≤ _)⟩)
  dsimp only [Pt.U, Pt.locs, Pt.cells, Pt.slots] at X495 l495 y495 z495 st495 hQ495
  rw [l495, y495, z495] at X495
  clear l495 y495 z495
  obtain ⟨hr495, N495q, eh495⟩ := hQ495
  rw [hr495] at st495
  clear hr495
  have N495 := Fr.app N494 N495q
  refine Go.via (fun _ kQ => st495.trans kQ) ?_
  clear st495
  have e495 : T495.heap = h475 := eh495
  clear X494 e494
  show Go p e below (T495.setTop (mkF m 626 #[vi p0, vi p1, vi p2, vi p3, vi p4, vi ov, vi n, vi b1, vi b2, vi b3, vi xx, vi dd, vi yy, vr v1, vr v2, vr v3, vr v4, vr v5, vr f, vi (1 : Int32), vr l1, vr el, vr l4, vr l5, vr l6, vi (1 : Int32)] [(.int n)])) _
  refine Go.via (fun _ => XS.iload X495.here hx rfl (hb hby at_626) rfl) ?_
  refine Go.via (fun _ => XS.icmpNo X495.here hx rfl (hb hby at_628) rfl (teq (rfl : n = n)).2) ?_
  refine Go.via (fun _ => XS.iconst X495.here hx rfl (hb hby at_631)) ?_
  refine Go.via (fun _ => XS.goto X495.here hx rfl (pc0 := 632) (pc' := 636) rfl (hb hby at_632) (by decide) (by decide)) ?_
  refine Go.via (fun _ => XS.istore X495.here hx rfl (hb hby at_636) rfl (l' := #[vi p0, vi p1, vi p2, vi p3, vi p4, vi ov, vi n, vi b1, vi b2, vi b3, vi xx, vi dd, vi yy, vr v1, vr v2, vr v3, vr v4, vr v5, vr f, vi (1 : Int32), vr l1, vr el, vr l4, vr l5, vr l6, vi (1 : Int32)]) rfl) ?_
  refine Go.via (fun _ => XS.iload X495.here hx rfl (hb hby at_638) rfl) ?_
  exact Go.fin X495 hlk (v := some (.int (1 : Int32))) (fun h => by rw [hret] at h; cases h) (fun fs hr => retN X495 hx (t := .boolean) hret (by simp) (hb hby at_640) hr) (by rw [e495]; exact ⟨rfl, N495, k475⟩) (by decide) (by decide)
set_option maxRecDepth 65536 in
set_option maxHeartbeats 40000000 in
theorem rm_rm0_JN (l : Launch) (Z : State) (a0 : Array Value) (hw : ∀ d ∈ tables_1, d.before a0 Z = true) (p0 : Int32) (p1 : Int32) (p2 : Int32) (p3 : Int32) (p4 : Int32) (de : Addr) (el : Addr) (ea : Addr) (ca : Addr) (cl : Cell) (v1 : Addr) (v2 : Addr) (v3 : Addr) (v4 : Addr) (v5 : Addr) (h0 : Heap) (n0 : Nat) (zD : Sta Z Z.heap cAL cDE cOA (.ref de)) (zN : Rn Z Z.heap de (0 : Int32)) (zL : Sta Z Z.heap cIM "EMPTY_LIST" "Ljava/util/ImmutableCollections$ListN;" (.ref el)) (zH : Sta Z Z.heap cIC "high" "I" (.int (127 : Int32))) (zC : Sta Z Z.heap cIC "cache" "[Ljava/lang/Integer;" (.ref ca)) (zLE : Exa Z Z.heap el cLN) (zLF : Fld Z Z.heap el cLN "elements" cOA (.ref ea)) (zLN : Rn Z Z.heap ea (0 : Int32)) (zE1 : Exa Z Z.heap v1 cIN) (zV1 : Fld Z Z.heap v1 cIN "value" "I" (.int (1 : Int32))) (zE2 : Exa Z Z.heap v2 cIN) (zV2 : Fld Z Z.heap v2 cIN "value" "I" (.int (2 : Int32))) (zE3 : Exa Z Z.heap v3 cIN) (zV3 : Fld Z Z.heap v3 cIN "value" "I" (.int (3 : Int32))) (zE4 : Exa Z Z.heap v4 cIN) (zV4 : Fld Z Z.heap v4 cIN "value" "I" (.int (4 : Int32))) (zE5 : Exa Z Z.heap v5 cIN) (zV5 : Fld Z Z.heap v5 cIN "value" "I" (.int (5 : Int32))) (hA : Arr Z Z.heap ca cl (.object cIN)) (hin1 : ¬ (((1 : Int32) + (128 : Int32)) < 0 ∨ cl.slots.size ≤ ((1 : Int32) + (128 : Int32)).toNatClampNeg)) (hat1 : cl.slots[((1 : Int32) + (128 : Int32)).toNatClampNeg]? = some (.ref v1)) (hin2 : ¬ (((2 : Int32) + (128 : Int32)) < 0 ∨ cl.slots.size ≤ ((2 : Int32) + (128 : Int32)).toNatClampNeg)) (hat2 : cl.slots[((2 : Int32) + (128 : Int32)).toNatClampNeg]? = some (.ref v2)) (hin3 : ¬ (((3 : Int32) + (128 : Int32)) < 0 ∨ cl.slots.size ≤ ((3 : Int32) + (128 : Int32)).toNatClampNeg)) (hat3 : cl.slots[((3 : Int32) + (128 : Int32)).toNatClampNeg]? = some (.ref v3)) (hin4 : ¬ (((4 : Int32) + (128 : Int32)) < 0 ∨ cl.slots.size ≤ ((4 : Int32) + (128 : Int32)).toNatClampNeg)) (hat4 : cl.slots[((4 : Int32) + (128 : Int32)).toNatClampNeg]? = some (.ref v4)) (hin5 : ¬ (((5 : Int32) + (128 : Int32)) < 0 ∨ cl.slots.size ≤ ((5 : Int32) + (128 : Int32)).toNatClampNeg)) (hat5 : cl.slots[((5 : Int32) + (128 : Int32)).toNatClampNeg]? = some (.ref v5)) {p : Program} {e : Env} {s : State} {m : MethodId} {below : List Frame} {meth : Method} {c : Code} (hx : p.tables.exec = Jvm.exec) (hby : c.code = code) (hlk : meth.locks = false) (hml : c.maxLocals = 26) (hown : s.vm.findClass cLAW = some m.cls) (hZ : Z.Warmed39 s.vm) (hret : meth.sig.returnType = ret) :
    ∀ (T496 : State) (L496 : List Loc) (h496 : Heap) (ov : Int32) (b1 : Int32) (b2 : Int32) (b3 : Int32) (xx : Int32) (dd : Int32) (yy : Int32) (n : Int32) (f : Addr) (l1 : Addr) (l4 : Addr) (l6 : Addr) (d4 : Addr), Stand p l e room_1 s m #[(.int p0), (.int p1), (.int p2), (.int p3), (.int p4)] below meth c T496 L496 13 61 → T496.heap = h496 → Fr n0 L496 → n0 ≤ h496.size → Keep h0 h496 [] → Exa Z h496 l1 cAL → Fld Z h496 l1 cAL "size" "I" (.int n) → Exa Z h496 l6 cAL → Fld Z h496 l6 cAL "size" "I" (.int (0 : Int32)) → Old Z n0 h496 → Exa Z h496 l4 cAL → Fld Z h496 l4 cAL "size" "I" (.int (2 : Int32)) → Fld Z h496 l4 cAL "elementData" cOA (.ref d4) → Ra Z h496 d4 cOB [(.ref v4), (.ref v5), .null, .null, .null, .null, .null, .null, .null, .null] → ¬ (0 : Int32) < dd → Go p e below (T496.setTop (mkF m 387 #[vi p0, vi p1, vi p2, vi p3, vi p4, vi ov, vi n, vi b1, vi b2, vi b3, vi xx, vi dd, vi yy, vr v1, vr v2, vr v3, vr v4, vr v5, vr f, vi (1 : Int32), vr l1, vr el, vr el, vr l4, vr l6, .unset] [])) (Done s (Q_rm0 Z p0 p1 p2 p3 p4 de el ea ca cl v1 v2 v3 v4 v5 h0 n0) room_1.cells room_1.slots) := by
  intro T496 L496 h496 ov b1 b2 b3 xx dd yy n f l1 l4 l6 d4 X496 e496 N496 z496 k496 f1496 f2496 f3496 f4496 fo496 g1496 g2496 g3496 g4496 hsp496
  show Go p e below (T496.setTop (mkF m 387 #[vi p0, vi p1, vi p2, vi p3, vi p4, vi ov, vi n, vi b1, vi b2, vi b3, vi xx, vi dd, vi yy, vr v1, vr v2, vr v3, vr v4, vr v5, vr f, vi (1 : Int32), vr l1, vr el, vr el, vr l4, vr l6, .unset] [])) _
  refine Go.via (fun _ => XS.iload X496.here hx rfl (hb hby at_387) rfl) ?_
  refine Go.via (fun _ => XS.ifNo X496.here hx rfl (hb hby at_389) rfl ((if0 _ _).trans (feq ((by decide) : ¬ ((1 : Int32) = (0 : Int32)))).1)) ?_
  refine Go.via (fun _ => XS.aload X496.here hx rfl (hb hby at_392) rfl rfl) ?_
  have f497 : Fld Z h496 el cLN "elements" cOA (.ref ea) := zLF.ext fo496.2
  have f498 : Rn Z h496 ea (0 : Int32) := zLN.ext fo496.2
  have f500 : Exa Z h496 el cLN := zLE.ext fo496.2
  obtain ⟨cq499, kq499, q499a, q499b, q499c⟩ := isOf hZ e496 f500
  obtain ⟨r499, _, ⟨T499, L499, k499, n499⟩, -, X499, ⟨Lc499, hQ499, l499, y499, z499⟩, st499⟩ := X496.interfaceBack hx (xi := (⟨cLI, "size", "()I"⟩ : MethodName)) (y := (⟨cLN, "size", "()I"⟩ : MethodName)) hown (mvT hZ (tw hw 103 rfl)) (mvT hZ (tw hw 104 rfl)) (mvT hZ (tw hw 105 rfl)) (mvT hZ (tw hw 106 rfl)) (mvT hZ (tw hw 107 rfl)) (mvT hZ (tw hw 108 rfl)) (mvT hZ (tw hw 109 rfl)) (mvT hZ (tw hw 110 rfl)) (by decide) (backOf (W := 0) (rmNs l Z a0 hw [] el ea h496 n0 z496 f497 f498) hZ (tw hw 112 rfl) (tw hw 111 rfl) (by decide) (by decide)) q499a q499b q499c (g := (mkF m 394 #[vi p0, vi p1, vi p2, vi p3, vi p4, vi ov, vi n, vi b1, vi b2, vi b3, vi xx, vi dd, vi yy, vr v1, vr v2, vr v3, vr v4, vr v5, vr f, vi (1 : Int32), vr l1, vr el, vr el, vr l4, vr l6, .unset] [(.ref el)])) rfl (by rw [hml]; rfl) (Steps.refl _) (argsL := []) (rest := []) (lenOf pd__28_29I rfl) rfl (by show 2 * 0 + _ ≤ _; exact Nat.le_of_eq rfl) (hb hby at_394) (fun _ _ => ⟨rfl, e496, (by decide : 13 + 0 ≤ _), (by decide : 61 + 0 ≤ _)⟩)
  dsimp only [Pt.U, Pt.locs, Pt.cells, Pt.slots] at X499 l499 y499 z499 st499 hQ499
  rw [l499, y499, z499] at X499
  clear l499 y499 z499
  obtain ⟨hr499, N499q, eh499⟩ := hQ499
  rw [hr499] at st499
  clear hr499
  have N499 := Fr.app N496 N499q
  refine Go.via (fun _ kQ => st499.trans kQ) ?_
  clear st499
  have e499 : T499.heap = h496 := eh499
  clear X496 e496
  show Go p e below (T499.setTop (mkF m 399 #[vi p0, vi p1, vi p2, vi p3, vi p4, vi ov, vi n, vi b1, vi b2, vi b3, vi xx, vi dd, vi yy, vr v1, vr v2, vr v3, vr v4, vr v5, vr f, vi (1 : Int32), vr l1, vr el, vr el, vr l4, vr l6, .unset] [(.int (0 : Int32))])) _
  refine Go.via (fun _ => XS.ifNo X499.here hx rfl (hb hby at_399) rfl ((if0 _ _).trans (teq ((by decide) : (0 : Int32) = (0 : Int32))).2)) ?_
  refine Go.via (fun _ => XS.iconst X499.here hx rfl (hb hby at_402)) ?_
  refine Go.via (fun _ => XS.goto X499.here hx rfl (pc0 := 403) (pc' := 407) rfl (hb hby at_403) (by decide) (by decide)) ?_
  refine Go.via (fun _ => XS.istore X499.here hx rfl (hb hby at_407) rfl (l' := #[vi p0, vi p1, vi p2, vi p3, vi p4, vi ov, vi n, vi b1, vi b2, vi b3, vi xx, vi dd, vi yy, vr v1, vr v2, vr v3, vr v4, vr v5, vr f, vi (1 : Int32), vr l1, vr el, vr el, vr l4, vr l6, .unset]) rfl) ?_
  refine Go.via (fun _ => XS.iload X499.here hx rfl (hb hby at_409) rfl) ?_
  refine Go.via (fun _ => XS.ifYes X499.here hx rfl (pc0 := 411) (pc' := 418) rfl (hb hby at_411) rfl ((if0 _ _).trans (flt (hsp496 : ¬ ((0 : Int32) < dd))).2.2.2) (by decide) (by decide)) ?_
  refine Go.via (fun _ => XS.iconst X499.here hx rfl (hb hby at_418)) ?_
  show Go p e below (T499.setTop (mkF m 419 #[vi p0, vi p1, vi p2, vi p3, vi p4, vi ov, vi n, vi b1, vi b2, vi b3, vi xx, vi dd, vi yy, vr v1, vr v2, vr v3, vr v4, vr v5, vr f, vi (1 : Int32), vr l1, vr el, vr el, vr l4, vr l6, .unset] [(.int (0 : Int32))])) _
  refine Go.via (fun _ => XS.istore X499.here hx rfl (hb hby at_419) rfl (l' := #[vi p0, vi p1, vi p2, vi p3, vi p4, vi ov, vi n, vi b1, vi b2, vi b3, vi xx, vi dd, vi yy, vr v1, vr v2, vr v3, vr v4, vr v5, vr f, vi (1 : Int32), vr l1, vr el, vr el, vr l4, vr l6, vi (0 : Int32)]) rfl) ?_
  refine Go.via (fun _ => XS.iload X499.here hx rfl (hb hby at_421) rfl) ?_
  refine Go.via (fun _ => XS.ifYes X499.here hx rfl (pc0 := 423) (pc' := 511) rfl (hb hby at_423) rfl ((if0 _ _).trans (teq ((by decide) : (0 : Int32) = (0 : Int32))).1) (by decide) (by decide)) ?_
  refine Go.via (fun _ => XS.iload X499.here hx rfl (hb hby at_511) rfl) ?_
  refine Go.via (fun _ => XS.ifNo X499.here hx rfl (hb hby at_513) rfl ((if0 _ _).trans (feq ((by decide) : ¬ ((1 : Int32) = (0 : Int32)))).1)) ?_
  refine Go.via (fun _ => XS.aload X499.here hx rfl (hb hby at_516) rfl rfl) ?_
  have f501 : Fld Z h496 el cLN "elements" cOA (.ref ea) := zLF.ext fo496.2
  have f502 : Rn Z h496 ea (0 : Int32) := zLN.ext fo496.2
  have f504 : Exa Z h496 el cLN := zLE.ext fo496.2
  obtain ⟨cq503, kq503, q503a, q503b, q503c⟩ := isOf hZ e499 f504
  obtain ⟨r503, _, ⟨T503, L503, k503, n503⟩, -, X503, ⟨Lc503, hQ503, l503, y503, z503⟩, st503⟩ := X499.interfaceBack hx (xi := (⟨cLI, "size", "()I"⟩ : MethodName)) (y := (⟨cLN, "size", "()I"⟩ : MethodName)) hown (mvT hZ (tw hw 103 rfl)) (mvT hZ (tw hw 104 rfl)) (mvT hZ (tw hw 105 rfl)) (mvT hZ (tw hw 106 rfl)) (mvT hZ (tw hw 107 rfl)) (mvT hZ (tw hw 108 rfl)) (mvT hZ (tw hw 109 rfl)) (mvT hZ (tw hw 110 rfl)) (by decide) (backOf (W := 0) (rmNs l Z a0 hw [] el ea h496 n0 z496 f501 f502) hZ (tw hw 112 rfl) (tw hw 111 rfl) (by decide) (by decide)) q503a q503b q503c (g := (mkF m 518 #[vi p0, vi p1, vi p2, vi p3, vi p4, vi ov, vi n, vi b1, vi b2, vi b3, vi xx, vi dd, vi yy, vr v1, vr v2, vr v3, vr v4, vr v5, vr f, vi (1 : Int32), vr l1, vr el, vr el, vr l4, vr l6, vi (0 : Int32)] [(.ref el)])) rfl (by rw [hml]; rfl) (Steps.refl _) (argsL := []) (rest := []) (lenOf pd__28_29I rfl) rfl (by show 2 * 0 + _ ≤ _; exact Nat.le_of_eq rfl) (hb hby at_518) (fun _ _ => ⟨rfl, e499, (by decide : 13 + 0 ≤ _), (by decide : 61 + 0 ≤ _)⟩)
  dsimp only [Pt.U, Pt.locs, Pt.cells, Pt.slots] at X503 l503 y503 z503 st503 hQ503
  rw [l503, y503, z503] at X503
  clear l503 y503 z503
  obtain ⟨hr503, N503q, eh503⟩ := hQ503
  rw [hr503] at st503
  clear hr503
  have N503 := Fr.app N499 N503q
  refine Go.via (fun _ kQ => st503.trans kQ) ?_
  clear st503
  have e503 : T503.heap = h496 := eh503
  clear X499 e499
  show Go p e below (T503.setTop (mkF m 523 #[vi p0, vi p1, vi p2, vi p3, vi p4, vi ov, vi n, vi b1, vi b2, vi b3, vi xx, vi dd, vi yy, vr v1, vr v2, vr v3, vr v4, vr v5, vr f, vi (1 : Int32), vr l1, vr el, vr el, vr l4, vr l6, vi (0 : Int32)] [(.int (0 : Int32))])) _
  refine Go.via (fun _ => XS.ifNo X503.here hx rfl (hb hby at_523) rfl ((if0 _ _).trans (teq ((by decide) : (0 : Int32) = (0 : Int32))).2)) ?_
  refine Go.via (fun _ => XS.iconst X503.here hx rfl (hb hby at_526)) ?_
  refine Go.via (fun _ => XS.goto X503.here hx rfl (pc0 := 527) (pc' := 531) rfl (hb hby at_527) (by decide) (by decide)) ?_
  refine Go.via (fun _ => XS.istore X503.here hx rfl (hb hby at_531) rfl (l' := #[vi p0, vi p1, vi p2, vi p3, vi p4, vi ov, vi n, vi b1, vi b2, vi b3, vi xx, vi dd, vi yy, vr v1, vr v2, vr v3, vr v4, vr v5, vr f, vi (1 : Int32), vr l1, vr el, vr el, vr l4, vr l6, vi (0 : Int32)]) rfl) ?_
  refine Go.via (fun _ => XS.iload X503.here hx rfl (hb hby at_533) rfl) ?_
  refine Go.via (fun _ => XS.ifNo X503.here hx rfl (hb hby at_535) rfl ((if0 _ _).trans (feq ((by decide) : ¬ ((1 : Int32) = (0 : Int32)))).1)) ?_
  refine Go.via (fun _ => XS.aload X503.here hx rfl (hb hby at_538) rfl rfl) ?_
  show Go p e below (T503.setTop (mkF m 540 #[vi p0, vi p1, vi p2, vi p3, vi p4, vi ov, vi n, vi b1, vi b2, vi b3, vi xx, vi dd, vi yy, vr v1, vr v2, vr v3, vr v4, vr v5, vr f, vi (1 : Int32), vr l1, vr el, vr el, vr l4, vr l6, vi (0 : Int32)] [(.ref l4)])) _
  obtain ⟨cq505, kq505, q505a, q505b, q505c⟩ := isOf hZ e503 g1496
  obtain ⟨r505, _, ⟨T505, L505, k505, n505⟩, -, X505, ⟨Lc505, hQ505, l505, y505, z505⟩, st505⟩ := X503.interfaceBack hx (xi := (⟨cLI, "size", "()I"⟩ : MethodName)) (y := (⟨cAL, "size", "()I"⟩ : MethodName)) hown (mvT hZ (tw hw 103 rfl)) (mvT hZ (tw hw 104 rfl)) (mvT hZ (tw hw 105 rfl)) (mvT hZ (tw hw 121 rfl)) (mvT hZ (tw hw 122 rfl)) (mvT hZ (tw hw 123 rfl)) (mvT hZ (tw hw 124 rfl)) (mvT hZ (tw hw 67 rfl)) (by decide) (backOf (W := 0) (rmSz l Z a0 hw [] l4 (2 : Int32) h496 n0 z496 g2496) hZ (tw hw 125 rfl) (tw hw 21 rfl) (by decide) (by decide)) q505a q505b q505c (g := (mkF m 540 #[vi p0, vi p1, vi p2, vi p3, vi p4, vi ov, vi n, vi b1, vi b2, vi b3, vi xx, vi dd, vi yy, vr v1, vr v2, vr v3, vr v4, vr v5, vr f, vi (1 : Int32), vr l1, vr el, vr el, vr l4, vr l6, vi (0 : Int32)] [(.ref l4)])) rfl (by rw [hml]; rfl) (Steps.refl _) (argsL := []) (rest := []) (lenOf pd__28_29I rfl) rfl (by show 2 * 0 + _ ≤ _; exact Nat.le_of_eq rfl) (hb hby at_540) (fun _ _ => ⟨rfl, e503, (by decide : 13 + 0 ≤ _), (by decide : 61 + 0 ≤ _)⟩)
  dsimp only [Pt.U, Pt.locs, Pt.cells, Pt.slots] at X505 l505 y505 z505 st505 hQ505
  rw [l505, y505, z505] at X505
  clear l505 y505 z505
  obtain ⟨hr505, N505q, eh505⟩ := hQ505
  rw [hr505] at st505
  clear hr505
  have N505 := Fr.app N503 N505q
  refine Go.via (fun _ kQ => st505.trans kQ) ?_
  clear st505
  have e505 : T505.heap = h496 := eh505
  clear X503 e503
  show Go p e below (T505.setTop (mkF m 545 #[vi p0, vi p1, vi p2, vi p3, vi p4, vi ov, vi n, vi b1, vi b2, vi b3, vi xx, vi dd, vi yy, vr v1, vr v2, vr v3, vr v4, vr v5, vr f, vi (1 : Int32), vr l1, vr el, vr el, vr l4, vr l6, vi (0 : Int32)] [(.int (2 : Int32))])) _
  refine Go.via (fun _ => XS.iconst X505.here hx rfl (hb hby at_545)) ?_
  refine Go.via (fun _ => XS.icmpNo X505.here hx rfl (hb hby at_546) rfl (teq ((by decide) : (2 : Int32) = (2 : Int32))).2) ?_
  refine Go.via (fun _ => XS.aload X505.here hx rfl (hb hby at_549) rfl rfl) ?_
  refine Go.via (fun _ => XS.iconst X505.here hx rfl (hb hby at_551)) ?_
  obtain ⟨cq506, kq506, q506a, q506b, q506c⟩ := isOf hZ e505 g1496
  obtain ⟨r506, _, ⟨T506, L506, k506, n506⟩, -, X506, ⟨Lc506, hQ506, l506, y506, z506⟩, st506⟩ := X505.interfaceBack hx (xi := (⟨cLI, "get", "(I)Ljava/lang/Object;"⟩ : MethodName)) (y := (⟨cAL, "get", "(I)Ljava/lang/Object;"⟩ : MethodName)) hown (mvT hZ (tw hw 126 rfl)) (mvT hZ (tw hw 127 rfl)) (mvT hZ (tw hw 128 rfl)) (mvT hZ (tw hw 129 rfl)) (mvT hZ (tw hw 130 rfl)) (mvT hZ (tw hw 131 rfl)) (mvT hZ (tw hw 132 rfl)) (mvT hZ (tw hw 67 rfl)) (by decide) (backOf (W := 0) (rmGt l Z a0 hw [] l4 (0 : Int32) d4 [(.ref v4), (.ref v5), .null, .null, .null, .null, .null, .null, .null, .null] v4 (2 : Int32) h496 n0 z496 g3496 g2496 g4496 g1496 (by first | decide | (simp only [List.length_cons, List.length_nil]; decide) | rfl) (by first | decide | (simp only [List.length_cons, List.length_nil]; decide) | rfl) rfl) hZ (tw hw 133 rfl) (tw hw 21 rfl) (by decide) (by decide)) q506a q506b q506c (g := (mkF m 552 #[vi p0, vi p1, vi p2, vi p3, vi p4, vi ov, vi n, vi b1, vi b2, vi b3, vi xx, vi dd, vi yy, vr v1, vr v2, vr v3, vr v4, vr v5, vr f, vi (1 : Int32), vr l1, vr el, vr el, vr l4, vr l6, vi (0 : Int32)] [(.int (0 : Int32)), (.ref l4)])) rfl (by rw [hml]; rfl) (Steps.refl _) (argsL := [(.int (0 : Int32))]) (rest := []) (lenOf pd__28I_29Ljava_2flang_2fObject_3b rfl) rfl (by show 2 * 0 + _ ≤ _; exact Nat.le_of_eq rfl) (hb hby at_552) (fun _ _ => ⟨rfl, e505, (by decide : 13 + 0 ≤ _), (by decide : 61 + 0 ≤ _)⟩)
  dsimp only [Pt.U, Pt.locs, Pt.cells, Pt.slots] at X506 l506 y506 z506 st506 hQ506
  rw [l506, y506, z506] at X506
  clear l506 y506 z506
  obtain ⟨hr506, N506q, eh506⟩ := hQ506
  rw [hr506] at st506
  clear hr506
  have N506 := Fr.app N505 N506q
  refine Go.via (fun _ kQ => st506.trans kQ) ?_
  clear st506
  have e506 : T506.heap = h496 := eh506
  clear X505 e505
  show Go p e below (T506.setTop (mkF m 557 #[vi p0, vi p1, vi p2, vi p3, vi p4, vi ov, vi n, vi b1, vi b2, vi b3, vi xx, vi dd, vi yy, vr v1, vr v2, vr v3, vr v4, vr v5, vr f, vi (1 : Int32), vr l1, vr el, vr el, vr l4, vr l6, vi (0 : Int32)] [(.ref v4)])) _
  have f507 : Exa Z h496 v4 cIN := zE4.ext fo496.2
  obtain ⟨T508, X508, e508, st508⟩ := castY X506 hx hZ hown (tw hw 147 rfl) e506 (Ins.self f507) (g := (mkF m 557 #[vi p0, vi p1, vi p2, vi p3, vi p4, vi ov, vi n, vi b1, vi b2, vi b3, vi xx, vi dd, vi yy, vr v1, vr v2, vr v3, vr v4, vr v5, vr f, vi (1 : Int32), vr l1, vr el, vr el, vr l4, vr l6, vi (0 : Int32)] [(.ref v4)])) rfl rfl (hb hby at_557)
  refine Go.via (st508) ?_
  clear st508
  clear X506 e506
  show Go p e below (T508.setTop (mkF m 560 #[vi p0, vi p1, vi p2, vi p3, vi p4, vi ov, vi n, vi b1, vi b2, vi b3, vi xx, vi dd, vi yy, vr v1, vr v2, vr v3, vr v4, vr v5, vr f, vi (1 : Int32), vr l1, vr el, vr el, vr l4, vr l6, vi (0 : Int32)] [(.ref v4)])) _
  have f509 : Fld Z h496 v4 cIN "value" "I" (.int (4 : Int32)) := zV4.ext fo496.2
  have f511 : Exa Z h496 v4 cIN := zE4.ext fo496.2
  obtain ⟨cq510, kq510, q510a, q510b, q510c⟩ := isOf hZ e508 f511
  obtain ⟨r510, _, ⟨T510, L510, k510, n510⟩, -, X510, ⟨Lc510, hQ510, l510, y510, z510⟩, st510⟩ := X508.virtualBack hx (y := (⟨cIN, "intValue", "()I"⟩ : MethodName)) (z := (⟨cIN, "intValue", "()I"⟩ : MethodName)) hown (mvT hZ (tw hw 149 rfl)) (mvT hZ (tw hw 150 rfl)) (notFace_of_selects (args := #[]) (mvT hZ (tw hw 152 rfl))) (mvT hZ (tw hw 152 rfl)) (mvT hZ (tw hw 151 rfl)) (by decide) (backOf (W := 0) (rmIv l Z a0 hw [] v4 (4 : Int32) h496 n0 z496 f509) hZ (tw hw 153 rfl) (tw hw 5 rfl) (by decide) (by decide)) q510a q510c (g := (mkF m 560 #[vi p0, vi p1, vi p2, vi p3, vi p4, vi ov, vi n, vi b1, vi b2, vi b3, vi xx, vi dd, vi yy, vr v1, vr v2, vr v3, vr v4, vr v5, vr f, vi (1 : Int32), vr l1, vr el, vr el, vr l4, vr l6, vi (0 : Int32)] [(.ref v4)])) rfl (by rw [hml]; rfl) (Steps.refl _) (argsL := []) (rest := []) (lenOf pd__28_29I rfl) rfl (by show 2 * 0 + _ ≤ _; exact Nat.le_of_eq rfl) (hb hby at_560) (fun _ _ => ⟨rfl, e508, (by decide : 13 + 0 ≤ _), (by decide : 61 + 0 ≤ _)⟩)
  dsimp only [Pt.U, Pt.locs, Pt.cells, Pt.slots] at X510 l510 y510 z510 st510 hQ510
  rw [l510, y510, z510] at X510
  clear l510 y510 z510
  obtain ⟨hr510, N510q, eh510⟩ := hQ510
  rw [hr510] at st510
  clear hr510
  have N510 := Fr.app N506 N510q
  refine Go.via (fun _ kQ => st510.trans kQ) ?_
  clear st510
  have e510 : T510.heap = h496 := eh510
  clear X508 e508
  show Go p e below (T510.setTop (mkF m 563 #[vi p0, vi p1, vi p2, vi p3, vi p4, vi ov, vi n, vi b1, vi b2, vi b3, vi xx, vi dd, vi yy, vr v1, vr v2, vr v3, vr v4, vr v5, vr f, vi (1 : Int32), vr l1, vr el, vr el, vr l4, vr l6, vi (0 : Int32)] [(.int (4 : Int32))])) _
  refine Go.via (fun _ => XS.iconst X510.here hx rfl (hb hby at_563)) ?_
  refine Go.via (fun _ => XS.icmpNo X510.here hx rfl (hb hby at_564) rfl (teq ((by decide) : (4 : Int32) = (4 : Int32))).2) ?_
  refine Go.via (fun _ => XS.aload X510.here hx rfl (hb hby at_567) rfl rfl) ?_
  refine Go.via (fun _ => XS.iconst X510.here hx rfl (hb hby at_569)) ?_
  obtain ⟨cq512, kq512, q512a, q512b, q512c⟩ := isOf hZ e510 g1496
  obtain ⟨r512, _, ⟨T512, L512, k512, n512⟩, -, X512, ⟨Lc512, hQ512, l512, y512, z512⟩, st512⟩ := X510.interfaceBack hx (xi := (⟨cLI, "get", "(I)Ljava/lang/Object;"⟩ : MethodName)) (y := (⟨cAL, "get", "(I)Ljava/lang/Object;"⟩ : MethodName)) hown (mvT hZ (tw hw 126 rfl)) (mvT hZ (tw hw 127 rfl)) (mvT hZ (tw hw 128 rfl)) (mvT hZ (tw hw 129 rfl)) (mvT hZ (tw hw 130 rfl)) (mvT hZ (tw hw 131 rfl)) (mvT hZ (tw hw 132 rfl)) (mvT hZ (tw hw 67 rfl)) (by decide) (backOf (W := 0) (rmGt l Z a0 hw [] l4 (1 : Int32) d4 [(.ref v4), (.ref v5), .null, .null, .null, .null, .null, .null, .null, .null] v5 (2 : Int32) h496 n0 z496 g3496 g2496 g4496 g1496 (by first | decide | (simp only [List.length_cons, List.length_nil]; decide) | rfl) (by first | decide | (simp only [List.length_cons, List.length_nil]; decide) | rfl) rfl) hZ (tw hw 133 rfl) (tw hw 21 rfl) (by decide) (by decide)) q512a q512b q512c (g := (mkF m 570 #[vi p0, vi p1, vi p2, vi p3, vi p4, vi ov, vi n, vi b1, vi b2, vi b3, vi xx, vi dd, vi yy, vr v1, vr v2, vr v3, vr v4, vr v5, vr f, vi (1 : Int32), vr l1, vr el, vr el, vr l4, vr l6, vi (0 : Int32)] [(.int (1 : Int32)), (.ref l4)])) rfl (by rw [hml]; rfl) (Steps.refl _) (argsL := [(.int (1 : Int32))]) (rest := []) (lenOf pd__28I_29Ljava_2flang_2fObject_3b rfl) rfl (by show 2 * 0 + _ ≤ _; exact Nat.le_of_eq rfl) (hb hby at_570) (fun _ _ => ⟨rfl, e510, (by decide : 13 + 0 ≤ _), (by decide : 61 + 0 ≤ _)⟩)
  dsimp only [Pt.U, Pt.locs, Pt.cells, Pt.slots] at X512 l512 y512 z512 st512 hQ512
  rw [l512, y512, z512] at X512
  clear l512 y512 z512
  obtain ⟨hr512, N512q, eh512⟩ := hQ512
  rw [hr512] at st512
  clear hr512
  have N512 := Fr.app N510 N512q
  refine Go.via (fun _ kQ => st512.trans kQ) ?_
  clear st512
  have e512 : T512.heap = h496 := eh512
  clear X510 e510
  show Go p e below (T512.setTop (mkF m 575 #[vi p0, vi p1, vi p2, vi p3, vi p4, vi ov, vi n, vi b1, vi b2, vi b3, vi xx, vi dd, vi yy, vr v1, vr v2, vr v3, vr v4, vr v5, vr f, vi (1 : Int32), vr l1, vr el, vr el, vr l4, vr l6, vi (0 : Int32)] [(.ref v5)])) _
  have f513 : Exa Z h496 v5 cIN := zE5.ext fo496.2
  obtain ⟨T514, X514, e514, st514⟩ := castY X512 hx hZ hown (tw hw 147 rfl) e512 (Ins.self f513) (g := (mkF m 575 #[vi p0, vi p1, vi p2, vi p3, vi p4, vi ov, vi n, vi b1, vi b2, vi b3, vi xx, vi dd, vi yy, vr v1, vr v2, vr v3, vr v4, vr v5, vr f, vi (1 : Int32), vr l1, vr el, vr el, vr l4, vr l6, vi (0 : Int32)] [(.ref v5)])) rfl rfl (hb hby at_575)
  refine Go.via (st514) ?_
  clear st514
  clear X512 e512
  show Go p e below (T514.setTop (mkF m 578 #[vi p0, vi p1, vi p2, vi p3, vi p4, vi ov, vi n, vi b1, vi b2, vi b3, vi xx, vi dd, vi yy, vr v1, vr v2, vr v3, vr v4, vr v5, vr f, vi (1 : Int32), vr l1, vr el, vr el, vr l4, vr l6, vi (0 : Int32)] [(.ref v5)])) _
  have f515 : Fld Z h496 v5 cIN "value" "I" (.int (5 : Int32)) := zV5.ext fo496.2
  have f517 : Exa Z h496 v5 cIN := zE5.ext fo496.2
  obtain ⟨cq516, kq516, q516a, q516b, q516c⟩ := isOf hZ e514 f517
  obtain ⟨r516, _, ⟨T516, L516, k516, n516⟩, -, X516, ⟨Lc516, hQ516, l516, y516, z516⟩, st516⟩ := X514.virtualBack hx (y := (⟨cIN, "intValue", "()I"⟩ : MethodName)) (z := (⟨cIN, "intValue", "()I"⟩ : MethodName)) hown (mvT hZ (tw hw 149 rfl)) (mvT hZ (tw hw 150 rfl)) (notFace_of_selects (args := #[]) (mvT hZ (tw hw 152 rfl))) (mvT hZ (tw hw 152 rfl)) (mvT hZ (tw hw 151 rfl)) (by decide) (backOf (W := 0) (rmIv l Z a0 hw [] v5 (5 : Int32) h496 n0 z496 f515) hZ (tw hw 153 rfl) (tw hw 5 rfl) (by decide) (by decide)) q516a q516c (g := (mkF m 578 #[vi p0, vi p1, vi p2, vi p3, vi p4, vi ov, vi n, vi b1, vi b2, vi b3, vi xx, vi dd, vi yy, vr v1, vr v2, vr v3, vr v4, vr v5, vr f, vi (1 : Int32), vr l1, vr el, vr el, vr l4, vr l6, vi (0 : Int32)] [(.ref v5)])) rfl (by rw [hml]; rfl) (Steps.refl _) (argsL := []) (rest := []) (lenOf pd__28_29I rfl) rfl (by show 2 * 0 + _ ≤ _; exact Nat.le_of_eq rfl) (hb hby at_578) (fun _ _ => ⟨rfl, e514, (by decide : 13 + 0 ≤ _), (by decide : 61 + 0 ≤ _)⟩)
  dsimp only [Pt.U, Pt.locs, Pt.cells, Pt.slots] at X516 l516 y516 z516 st516 hQ516
  rw [l516, y516, z516] at X516
  clear l516 y516 z516
  obtain ⟨hr516, N516q, eh516⟩ := hQ516
  rw [hr516] at st516
  clear hr516
  have N516 := Fr.app N512 N516q
  refine Go.via (fun _ kQ => st516.trans kQ) ?_
  clear st516
  have e516 : T516.heap = h496 := eh516
  clear X514 e514
  show Go p e below (T516.setTop (mkF m 581 #[vi p0, vi p1, vi p2, vi p3, vi p4, vi ov, vi n, vi b1, vi b2, vi b3, vi xx, vi dd, vi yy, vr v1, vr v2, vr v3, vr v4, vr v5, vr f, vi (1 : Int32), vr l1, vr el, vr el, vr l4, vr l6, vi (0 : Int32)] [(.int (5 : Int32))])) _
  refine Go.via (fun _ => XS.iconst X516.here hx rfl (hb hby at_581)) ?_
  refine Go.via (fun _ => XS.icmpNo X516.here hx rfl (hb hby at_582) rfl (teq ((by decide) : (5 : Int32) = (5 : Int32))).2) ?_
  refine Go.via (fun _ => XS.iconst X516.here hx rfl (hb hby at_585)) ?_
  refine Go.via (fun _ => XS.goto X516.here hx rfl (pc0 := 586) (pc' := 590) rfl (hb hby at_586) (by decide) (by decide)) ?_
  refine Go.via (fun _ => XS.istore X516.here hx rfl (hb hby at_590) rfl (l' := #[vi p0, vi p1, vi p2, vi p3, vi p4, vi ov, vi n, vi b1, vi b2, vi b3, vi xx, vi dd, vi yy, vr v1, vr v2, vr v3, vr v4, vr v5, vr f, vi (1 : Int32), vr l1, vr el, vr el, vr l4, vr l6, vi (0 : Int32)]) rfl) ?_
  refine Go.via (fun _ => XS.iload X516.here hx rfl (hb hby at_592) rfl) ?_
  refine Go.via (fun _ => XS.ifNo X516.here hx rfl (hb hby at_594) rfl ((if0 _ _).trans (feq ((by decide) : ¬ ((1 : Int32) = (0 : Int32)))).1)) ?_
  show Go p e below (T516.setTop (mkF m 597 #[vi p0, vi p1, vi p2, vi p3, vi p4, vi ov, vi n, vi b1, vi b2, vi b3, vi xx, vi dd, vi yy, vr v1, vr v2, vr v3, vr v4, vr v5, vr f, vi (1 : Int32), vr l1, vr el, vr el, vr l4, vr l6, vi (0 : Int32)] [])) _
  refine Go.via (fun _ => XS.aload X516.here hx rfl (hb hby at_597) rfl rfl) ?_
  obtain ⟨cq518, kq518, q518a, q518b, q518c⟩ := isOf hZ e516 f3496
  obtain ⟨r518, _, ⟨T518, L518, k518, n518⟩, -, X518, ⟨Lc518, hQ518, l518, y518, z518⟩, st518⟩ := X516.interfaceBack hx (xi := (⟨cLI, "size", "()I"⟩ : MethodName)) (y := (⟨cAL, "size", "()I"⟩ : MethodName)) hown (mvT hZ (tw hw 103 rfl)) (mvT hZ (tw hw 104 rfl)) (mvT hZ (tw hw 105 rfl)) (mvT hZ (tw hw 121 rfl)) (mvT hZ (tw hw 122 rfl)) (mvT hZ (tw hw 123 rfl)) (mvT hZ (tw hw 124 rfl)) (mvT hZ (tw hw 67 rfl)) (by decide) (backOf (W := 0) (rmSz l Z a0 hw [] l6 (0 : Int32) h496 n0 z496 f4496) hZ (tw hw 125 rfl) (tw hw 21 rfl) (by decide) (by decide)) q518a q518b q518c (g := (mkF m 599 #[vi p0, vi p1, vi p2, vi p3, vi p4, vi ov, vi n, vi b1, vi b2, vi b3, vi xx, vi dd, vi yy, vr v1, vr v2, vr v3, vr v4, vr v5, vr f, vi (1 : Int32), vr l1, vr el, vr el, vr l4, vr l6, vi (0 : Int32)] [(.ref l6)])) rfl (by rw [hml]; rfl) (Steps.refl _) (argsL := []) (rest := []) (lenOf pd__28_29I rfl) rfl (by show 2 * 0 + _ ≤ _; exact Nat.le_of_eq rfl) (hb hby at_599) (fun _ _ => ⟨rfl, e516, (by decide : 13 + 0 ≤ _), (by decide : 61 + 0 ≤ _)⟩)
  dsimp only [Pt.U, Pt.locs, Pt.cells, Pt.slots] at X518 l518 y518 z518 st518 hQ518
  rw [l518, y518, z518] at X518
  clear l518 y518 z518
  obtain ⟨hr518, N518q, eh518⟩ := hQ518
  rw [hr518] at st518
  clear hr518
  have N518 := Fr.app N516 N518q
  refine Go.via (fun _ kQ => st518.trans kQ) ?_
  clear st518
  have e518 : T518.heap = h496 := eh518
  clear X516 e516
  show Go p e below (T518.setTop (mkF m 604 #[vi p0, vi p1, vi p2, vi p3, vi p4, vi ov, vi n, vi b1, vi b2, vi b3, vi xx, vi dd, vi yy, vr v1, vr v2, vr v3, vr v4, vr v5, vr f, vi (1 : Int32), vr l1, vr el, vr el, vr l4, vr l6, vi (0 : Int32)] [(.int (0 : Int32))])) _
  refine Go.via (fun _ => XS.ifNo X518.here hx rfl (hb hby at_604) rfl ((if0 _ _).trans (teq ((by decide) : (0 : Int32) = (0 : Int32))).2)) ?_
  refine Go.via (fun _ => XS.iconst X518.here hx rfl (hb hby at_607)) ?_
  refine Go.via (fun _ => XS.goto X518.here hx rfl (pc0 := 608) (pc' := 612) rfl (hb hby at_608) (by decide) (by decide)) ?_
  refine Go.via (fun _ => XS.istore X518.here hx rfl (hb hby at_612) rfl (l' := #[vi p0, vi p1, vi p2, vi p3, vi p4, vi ov, vi n, vi b1, vi b2, vi b3, vi xx, vi dd, vi yy, vr v1, vr v2, vr v3, vr v4, vr v5, vr f, vi (1 : Int32), vr l1, vr el, vr el, vr l4, vr l6, vi (0 : Int32)]) rfl) ?_
  refine Go.via (fun _ => XS.iload X518.here hx rfl (hb hby at_614) rfl) ?_
  refine Go.via (fun _ => XS.ifNo X518.here hx rfl (hb hby at_616) rfl ((if0 _ _).trans (feq ((by decide) : ¬ ((1 : Int32) = (0 : Int32)))).1)) ?_
  refine Go.via (fun _ => XS.aload X518.here hx rfl (hb hby at_619) rfl rfl) ?_
  show Go p e below (T518.setTop (mkF m 621 #[vi p0, vi p1, vi p2, vi p3, vi p4, vi ov, vi n, vi b1, vi b2, vi b3, vi xx, vi dd, vi yy, vr v1, vr v2, vr v3, vr v4, vr v5, vr f, vi (1 : Int32), vr l1, vr el, vr el, vr l4, vr l6, vi (0 : Int32)] [(.ref l1)])) _
  obtain ⟨cq519, kq519, q519a, q519b, q519c⟩ := isOf hZ e518 f1496
  obtain ⟨r519, _, ⟨T519, L519, k519, n519⟩, -, X519, ⟨Lc519, hQ519, l519, y519, z519⟩, st519⟩ := X518.interfaceBack hx (xi := (⟨cLI, "size", "()I"⟩ : MethodName)) (y := (⟨cAL, "size", "()I"⟩ : MethodName)) hown (mvT hZ (tw hw 103 rfl)) (mvT hZ (tw hw 104 rfl)) (mvT hZ (tw hw 105 rfl)) (mvT hZ (tw hw 121 rfl)) (mvT hZ (tw hw 122 rfl)) (mvT hZ (tw hw 123 rfl)) (mvT hZ (tw hw 124 rfl)) (mvT hZ (tw hw 67 rfl)) (by decide) (backOf (W := 0) (rmSz l Z a0 hw [] l1 n h496 n0 z496 f2496) hZ (tw hw 125 rfl) (tw hw 21 rfl) (by decide) (by decide)) q519a q519b q519c (g := (mkF m 621 #[vi p0, vi p1, vi p2, vi p3, vi p4, vi ov, vi n, vi b1, vi b2, vi b3, vi xx, vi dd, vi yy, vr v1, vr v2, vr v3, vr v4, vr v5, vr f, vi (1 : Int32), vr l1, vr el, vr el, vr l4, vr l6, vi (0 : Int32)] [(.ref l1)])) rfl (by rw [hml]; rfl) (Steps.refl _) (argsL := []) (rest := []) (lenOf pd__28_29I rfl) rfl (by show 2 * 0 + _ ≤ _; exact Nat.le_of_eq rfl) (hb hby at_621) (fun _ _ => ⟨rfl, e518, (by decide : 13 + 0 ≤ _), (by decide : 61 + 0 ≤ _)⟩)
  dsimp only [Pt.U, Pt.locs, Pt.cells, Pt.slots] at X519 l519 y519 z519 st519 hQ519
  rw [l519, y519, z519] at X519
  clear l519 y519 z519
  obtain ⟨hr519, N519q, eh519⟩ := hQ519
  rw [hr519] at st519
  clear hr519
  have N519 := Fr.app N518 N519q
  refine Go.via (fun _ kQ => st519.trans kQ) ?_
  clear st519
  have e519 : T519.heap = h496 := eh519
  clear X518 e518
  show Go p e below (T519.setTop (mkF m 626 #[vi p0, vi p1, vi p2, vi p3, vi p4, vi ov, vi n, vi b1, vi b2, vi b3, vi xx, vi dd, vi yy, vr v1, vr v2, vr v3, vr v4, vr v5, vr f, vi (1 : Int32), vr l1, vr el, vr el, vr l4, vr l6, vi (0 : Int32)] [(.int n)])) _
  refine Go.via (fun _ => XS.iload X519.here hx rfl (hb hby at_626) rfl) ?_
  refine Go.via (fun _ => XS.icmpNo X519.here hx rfl (hb hby at_628) rfl (teq (rfl : n = n)).2) ?_
  refine Go.via (fun _ => XS.iconst X519.here hx rfl (hb hby at_631)) ?_
  refine Go.via (fun _ => XS.goto X519.here hx rfl (pc0 := 632) (pc' := 636) rfl (hb hby at_632) (by decide) (by decide)) ?_
  refine Go.via (fun _ => XS.istore X519.here hx rfl (hb hby at_636) rfl (l' := #[vi p0, vi p1, vi p2, vi p3, vi p4, vi ov, vi n, vi b1, vi b2, vi b3, vi xx, vi dd, vi yy, vr v1, vr v2, vr v3, vr v4, vr v5, vr f, vi (1 : Int32), vr l1, vr el, vr el, vr l4, vr l6, vi (0 : Int32)]) rfl) ?_
  refine Go.via (fun _ => XS.iload X519.here hx rfl (hb hby at_638) rfl) ?_
  exact Go.fin X519 hlk (v := some (.int (1 : Int32))) (fun h => by rw [hret] at h; cases h) (fun fs hr => retN X519 hx (t := .boolean) hret (by simp) (hb hby at_640) hr) (by rw [e519]; exact ⟨rfl, N519, k496⟩) (by decide) (by decide)
theorem pd__28I_29Ljava_2flang_2fInteger_3b : parseMethodDescriptor "(I)Ljava/lang/Integer;" = some ⟨[.int], some (.object cIN)⟩ := by decide +kernel
theorem pd__28I_29V : parseMethodDescriptor "(I)V" = some ⟨[.int], none⟩ := by decide +kernel
theorem pd__28Ljava_2flang_2fObject_3bI_29Ljava_2futil_2fList_3b : parseMethodDescriptor "(Ljava/lang/Object;I)Ljava/util/List;" = some ⟨[(.object cOB), .int], some (.object cLI)⟩ := by decide +kernel
set_option maxRecDepth 65536 in
set_option maxHeartbeats 40000000 in
theorem rm_rm0_c0s (l : Launch) (Z : State) (a0 : Array Value) (hw : ∀ d ∈ tables_1, d.before a0 Z = true) (p0 : Int32) (p1 : Int32) (p2 : Int32) (p3 : Int32) (p4 : Int32) (de : Addr) (el : Addr) (ea : Addr) (ca : Addr) (cl : Cell) (v1 : Addr) (v2 : Addr) (v3 : Addr) (v4 : Addr) (v5 : Addr) (h0 : Heap) (n0 : Nat) (zD : Sta Z Z.heap cAL cDE cOA (.ref de)) (zN : Rn Z Z.heap de (0 : Int32)) (zL : Sta Z Z.heap cIM "EMPTY_LIST" "Ljava/util/ImmutableCollections$ListN;" (.ref el)) (zH : Sta Z Z.heap cIC "high" "I" (.int (127 : Int32))) (zC : Sta Z Z.heap cIC "cache" "[Ljava/lang/Integer;" (.ref ca)) (zLE : Exa Z Z.heap el cLN) (zLF : Fld Z Z.heap el cLN "elements" cOA (.ref ea)) (zLN : Rn Z Z.heap ea (0 : Int32)) (zE1 : Exa Z Z.heap v1 cIN) (zV1 : Fld Z Z.heap v1 cIN "value" "I" (.int (1 : Int32))) (zE2 : Exa Z Z.heap v2 cIN) (zV2 : Fld Z Z.heap v2 cIN "value" "I" (.int (2 : Int32))) (zE3 : Exa Z Z.heap v3 cIN) (zV3 : Fld Z Z.heap v3 cIN "value" "I" (.int (3 : Int32))) (zE4 : Exa Z Z.heap v4 cIN) (zV4 : Fld Z Z.heap v4 cIN "value" "I" (.int (4 : Int32))) (zE5 : Exa Z Z.heap v5 cIN) (zV5 : Fld Z Z.heap v5 cIN "value" "I" (.int (5 : Int32))) (hA : Arr Z Z.heap ca cl (.object cIN)) (hin1 : ¬ (((1 : Int32) + (128 : Int32)) < 0 ∨ cl.slots.size ≤ ((1 : Int32) + (128 : Int32)).toNatClampNeg)) (hat1 : cl.slots[((1 : Int32) + (128 : Int32)).toNatClampNeg]? = some (.ref v1)) (hin2 : ¬ (((2 : Int32) + (128 : Int32)) < 0 ∨ cl.slots.size ≤ ((2 : Int32) + (128 : Int32)).toNatClampNeg)) (hat2 : cl.slots[((2 : Int32) + (128 : Int32)).toNatClampNeg]? = some (.ref v2)) (hin3 : ¬ (((3 : Int32) + (128 : Int32)) < 0 ∨ cl.slots.size ≤ ((3 : Int32) + (128 : Int32)).toNatClampNeg)) (hat3 : cl.slots[((3 : Int32) + (128 : Int32)).toNatClampNeg]? = some (.ref v3)) (hin4 : ¬ (((4 : Int32) + (128 : Int32)) < 0 ∨ cl.slots.size ≤ ((4 : Int32) + (128 : Int32)).toNatClampNeg)) (hat4 : cl.slots[((4 : Int32) + (128 : Int32)).toNatClampNeg]? = some (.ref v4)) (hin5 : ¬ (((5 : Int32) + (128 : Int32)) < 0 ∨ cl.slots.size ≤ ((5 : Int32) + (128 : Int32)).toNatClampNeg)) (hat5 : cl.slots[((5 : Int32) + (128 : Int32)).toNatClampNeg]? = some (.ref v5)) {p : Program} {e : Env} {s : State} {m : MethodId} {below : List Frame} {meth : Method} {c : Code} (hx : p.tables.exec = Jvm.exec) (hby : c.code = code) (hlk : meth.locks = false) (hml : c.maxLocals = 26) (hown : s.vm.findClass cLAW = some m.cls) (hZ : Z.Warmed39 s.vm) (hret : meth.sig.returnType = ret) :
    ∀ (T608 : State) (L608 : List Loc) (h608 : Heap) (ov : Int32) (b1 : Int32) (b2 : Int32) (b3 : Int32) (xx : Int32) (dd : Int32) (yy : Int32) (b525 : Addr) (b534 : Addr) (b557 : Addr) (b582 : Addr), Stand p l e room_1 s m #[(.int p0), (.int p1), (.int p2), (.int p3), (.int p4)] below meth c T608 L608 4 19 → T608.heap = h608 → Fr n0 L608 → n0 ≤ h608.size → Keep h0 h608 [] → Old Z n0 h608 → Exa Z h608 b525 cFI → Fld Z h608 b525 cFI "part" "Ljava/util/List;" (.ref b557) → Fld Z h608 b525 cFI "overhead" "I" (.int ov) → Fld Z h608 b525 cFI "partBytes" "J" (.long ((ov.toInt64) + (xx.toInt64))) → Exa Z h608 b534 cAL → Fld Z h608 b534 cAL "size" "I" (.int (0 : Int32)) → Exa Z h608 b557 cAL → Fld Z h608 b557 cAB "modCount" "I" (.int ((0 : Int32) + (1 : Int32))) → Fld Z h608 b557 cAL "elementData" cOA (.ref b582) → Fld Z h608 b557 cAL "size" "I" (.int (1 : Int32)) → Ra Z h608 b582 cOB [(.ref v4), .null, .null, .null, .null, .null, .null, .null, .null, .null] → b525 ≠ b534 → b525 ≠ b557 → b525 ≠ b582 → n0 ≤ b525 → h0.size ≤ b525 → (p0 &&& (524287 : Int32)) = ov → (p3 &&& (524287 : Int32)) = xx → ((p4 &&& (3 : Int32)) - (1 : Int32)) = dd → (((((1048576 : Int32) - ov) - xx) - (1 : Int32)) + dd) = yy → (0 : Int32) < dd → Go p e below (T608.setTop (mkF m 230 #[vi p0, vi p1, vi p2, vi p3, vi p4, vi ov, vi (0 : Int32), vi b1, vi b2, vi b3, vi xx, vi dd, vi yy, vr v1, vr v2, vr v3, vr v4, vr v5, vr b525, vi (1 : Int32), vr b534, vr el, .unset, .unset, .unset, .unset] [])) (Done s (Q_rm0 Z p0 p1 p2 p3 p4 de el ea ca cl v1 v2 v3 v4 v5 h0 n0) room_1.cells room_1.slots) := by
  intro T608 L608 h608 ov b1 b2 b3 xx dd yy b525 b534 b557 b582 X608 e608 N608 z608 k608 lf0_608 lf1_608 lf2_608 lf3_608 lf4_608 lf5_608 lf8_608 lf9_608 lf10_608 lf11_608 lf12_608 lf13_608 lf14_608 lf15_608 lf17_608 lf20_608 lf24_608 hv_ov hv_xx hv_dd hv_yy hsp
  show Go p e below (T608.setTop (mkF m 230 #[vi p0, vi p1, vi p2, vi p3, vi p4, vi ov, vi (0 : Int32), vi b1, vi b2, vi b3, vi xx, vi dd, vi yy, vr v1, vr v2, vr v3, vr v4, vr v5, vr b525, vi (1 : Int32), vr b534, vr el, .unset, .unset, .unset, .unset] [])) _
  refine Go.via (fun _ => XS.aload X608.here hx rfl (hb hby at_230) rfl rfl) ?_
  refine Go.via (fun _ => XS.aload X608.here hx rfl (hb hby at_232) rfl rfl) ?_
  refine Go.via (fun _ => XS.iload X608.here hx rfl (hb hby at_234) rfl) ?_
  have f609 : Exa Z h608 v5 cIN := zE5.ext lf0_608.2
  obtain ⟨cq610, kq610, q610a, q610b, q610c⟩ := isOf hZ e608 lf1_608
  obtain ⟨r610, _, ⟨T610, L610, k610, n610⟩, -, X610, ⟨Lc610, hQ610, l610, y610, z610⟩, st610⟩ := X608.virtualBack hx (y := (⟨cFI, "add", "(Ljava/lang/Object;I)Ljava/util/List;"⟩ : MethodName)) (z := (⟨cFI, "add", "(Ljava/lang/Object;I)Ljava/util/List;"⟩ : MethodName)) hown (mvT hZ (tw hw 49 rfl)) (mvT hZ (tw hw 50 rfl)) (notFace_of_selects (args := #[]) (mvT hZ (tw hw 52 rfl))) (mvT hZ (tw hw 52 rfl)) (mvT hZ (tw hw 51 rfl)) (by decide) (backOf (W := 0) (rmFs1 l Z a0 hw [] b525 v5 yy b557 ov ((ov.toInt64) + (xx.toInt64)) b582 ((0 : Int32) + (1 : Int32)) el v4 de h608 n0 z608 lf1_608 lf2_608 lf3_608 lf4_608 lf9_608 lf10_608 lf11_608 lf12_608 lf13_608 f609 lf0_608 zL zD zN lf20_608 lf15_608 lf17_608 (own_sp hv_ov hv_xx hv_dd hv_yy hsp)) hZ (tw hw 53 rfl) (tw hw 12 rfl) (by decide) (by decide)) q610a q610c (g := (mkF m 236 #[vi p0, vi p1, vi p2, vi p3, vi p4, vi ov, vi (0 : Int32), vi b1, vi b2, vi b3, vi xx, vi dd, vi yy, vr v1, vr v2, vr v3, vr v4, vr v5, vr b525, vi (1 : Int32), vr b534, vr el, .unset, .unset, .unset, .unset] [(.int yy), (.ref v5), (.ref b525)])) rfl (by rw [hml]; rfl) (Steps.refl _) (argsL := [(.ref v5), (.int yy)]) (rest := []) (lenOf pd__28Ljava_2flang_2fObject_3bI_29Ljava_2futil_2fList_3b rfl) rfl (by show 2 * 0 + _ ≤ _; exact Nat.le_of_eq rfl) (hb hby at_236) (fun _ _ => ⟨rfl, e608, (by decide : 4 + 2 ≤ _), (by decide : 19 + 13 ≤ _)⟩)
  dsimp only [Pt.U, Pt.locs, Pt.cells, Pt.slots] at X610 l610 y610 z610 st610 hQ610
  rw [l610, y610, z610] at X610
  clear l610 y610 z610
  obtain ⟨b611, b612, hr610, N610q, K610q, fz_b611, fz_b612, f613, f614, f615, f616, f617, f618, f619, f620, f621⟩ := hQ610
  rw [hr610] at st610
  clear hr610
  have N610 := Fr.app N608 N610q
  refine Go.via (fun _ kQ => st610.trans kQ) ?_
  clear st610
  have ne622 : b525 ≠ b611 := Nat.ne_of_lt (Nat.lt_of_lt_of_le lf1_608.lt fz_b611)
  have ne623 : b534 ≠ b611 := Nat.ne_of_lt (Nat.lt_of_lt_of_le lf5_608.lt fz_b611)
  have ne624 : b557 ≠ b611 := Nat.ne_of_lt (Nat.lt_of_lt_of_le lf9_608.lt fz_b611)
  have ne625 : b582 ≠ b611 := Nat.ne_of_lt (Nat.lt_of_lt_of_le lf13_608.lt fz_b611)
  have ge626 : n0 ≤ b611 := Nat.le_trans z608 fz_b611
  have sz627 : h0.size ≤ b611 := Nat.le_trans k608.1 fz_b611
  have ne628 : b525 ≠ b612 := Nat.ne_of_lt (Nat.lt_of_lt_of_le lf1_608.lt fz_b612)
  have ne629 : b534 ≠ b612 := Nat.ne_of_lt (Nat.lt_of_lt_of_le lf5_608.lt fz_b612)
  have ne630 : b557 ≠ b612 := Nat.ne_of_lt (Nat.lt_of_lt_of_le lf9_608.lt fz_b612)
  have ne631 : b582 ≠ b612 := Nat.ne_of_lt (Nat.lt_of_lt_of_le lf13_608.lt fz_b612)
  have ge632 : n0 ≤ b612 := Nat.le_trans z608 fz_b612
  have sz633 : h0.size ≤ b612 := Nat.le_trans k608.1 fz_b612
  have e610 : T610.heap = T610.heap := rfl
  have f634 : Exa Z T610.heap b525 cFI := f613
  have f635 : Fld Z T610.heap b525 cFI "part" "Ljava/util/List;" (.ref b611) := f614
  have f636 : Fld Z T610.heap b525 cFI "overhead" "I" (.int ov) := f615
  have f637 : Fld Z T610.heap b525 cFI "partBytes" "J" (.long ((ov.toInt64) + (yy.toInt64))) := f616
  have f638 : Exa Z T610.heap b611 cAL := f617
  have f639 : Fld Z T610.heap b611 cAB "modCount" "I" (.int ((0 : Int32) + (1 : Int32))) := f618
  have f640 : Fld Z T610.heap b611 cAL "elementData" cOA (.ref b612) := f619
  have f641 : Fld Z T610.heap b611 cAL "size" "I" (.int (1 : Int32)) := f620
  have f642 : Ra Z T610.heap b612 cOB [(.ref v5), .null, .null, .null, .null, .null, .null, .null, .null, .null] := f621
  clear X608 e608
  show Go p e below (T610.setTop (mkF m 239 #[vi p0, vi p1, vi p2, vi p3, vi p4, vi ov, vi (0 : Int32), vi b1, vi b2, vi b3, vi xx, vi dd, vi yy, vr v1, vr v2, vr v3, vr v4, vr v5, vr b525, vi (1 : Int32), vr b534, vr el, .unset, .unset, .unset, .unset] [(.ref b557)])) _
  refine Go.via (fun _ => XS.astore X610.here hx rfl (hb hby at_239) rfl rfl (l' := #[vi p0, vi p1, vi p2, vi p3, vi p4, vi ov, vi (0 : Int32), vi b1, vi b2, vi b3, vi xx, vi dd, vi yy, vr v1, vr v2, vr v3, vr v4, vr v5, vr b525, vi (1 : Int32), vr b534, vr el, vr b557, .unset, .unset, .unset]) rfl) ?_
  refine Go.via (fun _ => XS.aload X610.here hx rfl (hb hby at_241) rfl rfl) ?_
  have o643 : Old Z n0 T610.heap := (lf0_608.keep K610q (allS lf20_608 all0))
  have z645 : n0 ≤ T610.heap.size := (Nat.le_trans z608 K610q.1)
  obtain ⟨cq644, kq644, q644a, q644b, q644c⟩ := isOf hZ e610 f634
  obtain ⟨r644, _, ⟨T644, L644, k644, n644⟩, -, X644, ⟨Lc644, hQ644, l644, y644, z644⟩, st644⟩ := X610.virtualBack hx (y := (⟨cFI, "last", "()Ljava/util/List;"⟩ : MethodName)) (z := (⟨cFI, "last", "()Ljava/util/List;"⟩ : MethodName)) hown (mvT hZ (tw hw 116 rfl)) (mvT hZ (tw hw 117 rfl)) (notFace_of_selects (args := #[]) (mvT hZ (tw hw 119 rfl))) (mvT hZ (tw hw 119 rfl)) (mvT hZ (tw hw 118 rfl)) (by decide) (backOf (W := 0) (rmLa l Z a0 hw [] b525 b611 ov ((ov.toInt64) + (yy.toInt64)) de T610.heap n0 z645 f634 f635 f636 f637 o643 zD lf20_608) hZ (tw hw 120 rfl) (tw hw 12 rfl) (by decide) (by decide)) q644a q644c (g := (mkF m 243 #[vi p0, vi p1, vi p2, vi p3, vi p4, vi ov, vi (0 : Int32), vi b1, vi b2, vi b3, vi xx, vi dd, vi yy, vr v1, vr v2, vr v3, vr v4, vr v5, vr b525, vi (1 : Int32), vr b534, vr el, vr b557, .unset, .unset, .unset] [(.ref b525)])) rfl (by rw [hml]; rfl) (Steps.refl _) (argsL := []) (rest := []) (lenOf pd__28_29Ljava_2futil_2fList_3b rfl) rfl (by show 2 * 0 + _ ≤ _; exact Nat.le_of_eq rfl) (hb hby at_243) (fun _ _ => ⟨rfl, e610, (by decide : 6 + 1 ≤ _), (by decide : 32 + 3 ≤ _)⟩)
  dsimp only [Pt.U, Pt.locs, Pt.cells, Pt.slots] at X644 l644 y644 z644 st644 hQ644
  rw [l644, y644, z644] at X644
  clear l644 y644 z644
  obtain ⟨b646, hr644, N644q, K644q, fz_b646, f647, f648, f649, f650, f651, f652, f653, f654⟩ := hQ644
  rw [hr644] at st644
  clear hr644
  have N644 := Fr.app N610 N644q
  refine Go.via (fun _ kQ => st644.trans kQ) ?_
  clear st644
  have ne655 : b525 ≠ b646 := Nat.ne_of_lt (Nat.lt_of_lt_of_le f634.lt fz_b646)
  have f656 : Exa Z T610.heap b534 cAL := (lf5_608.keep K610q)
  have ne657 : b534 ≠ b646 := Nat.ne_of_lt (Nat.lt_of_lt_of_le f656.lt fz_b646)
  have f658 : Exa Z T610.heap b557 cAL := (lf9_608.keep K610q)
  have ne659 : b557 ≠ b646 := Nat.ne_of_lt (Nat.lt_of_lt_of_le f658.lt fz_b646)
  have f660 : Ra Z T610.heap b582 cOB [(.ref v4), .null, .null, .null, .null, .null, .null, .null, .null, .null] := (lf13_608.keep K610q (ninS (Ne.symm lf17_608) nin0))
  have ne661 : b582 ≠ b646 := Nat.ne_of_lt (Nat.lt_of_lt_of_le f660.lt fz_b646)
  have ne662 : b611 ≠ b646 := Nat.ne_of_lt (Nat.lt_of_lt_of_le f638.lt fz_b646)
  have ne663 : b612 ≠ b646 := Nat.ne_of_lt (Nat.lt_of_lt_of_le f642.lt fz_b646)
  have ge664 : n0 ≤ b646 := Nat.le_trans z645 fz_b646
  have k666 : Keep h0 T610.heap [] := (k608.trans K610q (allS (Or.inr lf24_608) all0))
  have sz665 : h0.size ≤ b646 := Nat.le_trans k666.1 fz_b646
  have e644 : T644.heap = T644.heap := rfl
  have f667 : Exa Z T644.heap b525 cFI := f647
  have f668 : Fld Z T644.heap b525 cFI "part" "Ljava/util/List;" (.ref b646) := f648
  have f669 : Fld Z T644.heap b525 cFI "overhead" "I" (.int ov) := f649
  have f670 : Fld Z T644.heap b525 cFI "partBytes" "J" (.long (ov.toInt64)) := f650
  have f671 : Exa Z T644.heap b646 cAL := f651
  have f672 : Fld Z T644.heap b646 cAB "modCount" "I" (.int (0 : Int32)) := f652
  have f673 : Fld Z T644.heap b646 cAL "elementData" cOA (.ref de) := f653
  have f674 : Fld Z T644.heap b646 cAL "size" "I" (.int (0 : Int32)) := f654
  clear X610 e610
  show Go p e below (T644.setTop (mkF m 246 #[vi p0, vi p1, vi p2, vi p3, vi p4, vi ov, vi (0 : Int32), vi b1, vi b2, vi b3, vi xx, vi dd, vi yy, vr v1, vr v2, vr v3, vr v4, vr v5, vr b525, vi (1 : Int32), vr b534, vr el, vr b557, .unset, .unset, .unset] [(.ref b611)])) _
  refine Go.via (fun _ => XS.astore X644.here hx rfl (hb hby at_246) rfl rfl (l' := #[vi p0, vi p1, vi p2, vi p3, vi p4, vi ov, vi (0 : Int32), vi b1, vi b2, vi b3, vi xx, vi dd, vi yy, vr v1, vr v2, vr v3, vr v4, vr v5, vr b525, vi (1 : Int32), vr b534, vr el, vr b557, vr b611, .unset, .unset]) rfl) ?_
  refine Go.via (fun _ => XS.aload X644.here hx rfl (hb hby at_248) rfl rfl) ?_
  have o675 : Old Z n0 T644.heap := (o643.keep K644q (allS lf20_608 all0))
  have z677 : n0 ≤ T644.heap.size := (Nat.le_trans z645 K644q.1)
  obtain ⟨cq676, kq676, q676a, q676b, q676c⟩ := isOf hZ e644 f667
  obtain ⟨r676, _, ⟨T676, L676, k676, n676⟩, -, X676, ⟨Lc676, hQ676, l676, y676, z676⟩, st676⟩ := X644.virtualBack hx (y := (⟨cFI, "last", "()Ljava/util/List;"⟩ : MethodName)) (z := (⟨cFI, "last", "()Ljava/util/List;"⟩ : MethodName)) hown (mvT hZ (tw hw 116 rfl)) (mvT hZ (tw hw 117 rfl)) (notFace_of_selects (args := #[]) (mvT hZ (tw hw 119 rfl))) (mvT hZ (tw hw 119 rfl)) (mvT hZ (tw hw 118 rfl)) (by decide) (backOf (W := 0) (rmLa l Z a0 hw [] b525 b646 ov (ov.toInt64) de T644.heap n0 z677 f667 f668 f669 f670 o675 zD lf20_608) hZ (tw hw 120 rfl) (tw hw 12 rfl) (by decide) (by decide)) q676a q676c (g := (mkF m 250 #[vi p0, vi p1, vi p2, vi p3, vi p4, vi ov, vi (0 : Int32), vi b1, vi b2, vi b3, vi xx, vi dd, vi yy, vr v1, vr v2, vr v3, vr v4, vr v5, vr b525, vi (1 : Int32), vr b534, vr el, vr b557, vr b611, .unset, .unset] [(.ref b525)])) rfl (by rw [hml]; rfl) (Steps.refl _) (argsL := []) (rest := []) (lenOf pd__28_29Ljava_2futil_2fList_3b rfl) rfl (by show 2 * 0 + _ ≤ _; exact Nat.le_of_eq rfl) (hb hby at_250) (fun _ _ => ⟨rfl, e644, (by decide : 7 + 1 ≤ _), (by decide : 35 + 3 ≤ _)⟩)
  dsimp only [Pt.U, Pt.locs, Pt.cells, Pt.slots] at X676 l676 y676 z676 st676 hQ676
  rw [l676, y676, z676] at X676
  clear l676 y676 z676
  obtain ⟨b678, hr676, N676q, K676q, fz_b678, f679, f680, f681, f682, f683, f684, f685, f686⟩ := hQ676
  rw [hr676] at st676
  clear hr676
  have N676 := Fr.app N644 N676q
  refine Go.via (fun _ kQ => st676.trans kQ) ?_
  clear st676
  have ne687 : b525 ≠ b678 := Nat.ne_of_lt (Nat.lt_of_lt_of_le f667.lt fz_b678)
  have f688 : Exa Z T644.heap b534 cAL := (f656.keep K644q)
  have ne689 : b534 ≠ b678 := Nat.ne_of_lt (Nat.lt_of_lt_of_le f688.lt fz_b678)
  have f690 : Exa Z T644.heap b557 cAL := (f658.keep K644q)
  have ne691 : b557 ≠ b678 := Nat.ne_of_lt (Nat.lt_of_lt_of_le f690.lt fz_b678)
  have f692 : Ra Z T644.heap b582 cOB [(.ref v4), .null, .null, .null, .null, .null, .null, .null, .null, .null] := (f660.keep K644q (ninS (Ne.symm lf17_608) nin0))
  have ne693 : b582 ≠ b678 := Nat.ne_of_lt (Nat.lt_of_lt_of_le f692.lt fz_b678)
  have f694 : Exa Z T644.heap b611 cAL := (f638.keep K644q)
  have ne695 : b611 ≠ b678 := Nat.ne_of_lt (Nat.lt_of_lt_of_le f694.lt fz_b678)
  have f696 : Ra Z T644.heap b612 cOB [(.ref v5), .null, .null, .null, .null, .null, .null, .null, .null, .null] := (f642.keep K644q (ninS (Ne.symm ne628) nin0))
  have ne697 : b612 ≠ b678 := Nat.ne_of_lt (Nat.lt_of_lt_of_le f696.lt fz_b678)
  have ne698 : b646 ≠ b678 := Nat.ne_of_lt (Nat.lt_of_lt_of_le f671.lt fz_b678)
  have ge699 : n0 ≤ b678 := Nat.le_trans z677 fz_b678
  have k701 : Keep h0 T644.heap [] := (k666.trans K644q (allS (Or.inr lf24_608) all0))
  have sz700 : h0.size ≤ b678 := Nat.le_trans k701.1 fz_b678
  have e676 : T676.heap = T676.heap := rfl
  have f702 : Exa Z T676.heap b525 cFI := f679
  have f703 : Fld Z T676.heap b525 cFI "part" "Ljava/util/List;" (.ref b678) := f680
  have f704 : Fld Z T676.heap b525 cFI "overhead" "I" (.int ov) := f681
  have f705 : Fld Z T676.heap b525 cFI "partBytes" "J" (.long (ov.toInt64)) := f682
  have f706 : Exa Z T676.heap b678 cAL := f683
  have f707 : Fld Z T676.heap b678 cAB "modCount" "I" (.int (0 : Int32)) := f684
  have f708 : Fld Z T676.heap b678 cAL "elementData" cOA (.ref de) := f685
  have f709 : Fld Z T676.heap b678 cAL "size" "I" (.int (0 : Int32)) := f686
  clear X644 e644
  show Go p e below (T676.setTop (mkF m 253 #[vi p0, vi p1, vi p2, vi p3, vi p4, vi ov, vi (0 : Int32), vi b1, vi b2, vi b3, vi xx, vi dd, vi yy, vr v1, vr v2, vr v3, vr v4, vr v5, vr b525, vi (1 : Int32), vr b534, vr el, vr b557, vr b611, .unset, .unset] [(.ref b646)])) _
  refine Go.via (fun _ => XS.astore X676.here hx rfl (hb hby at_253) rfl rfl (l' := #[vi p0, vi p1, vi p2, vi p3, vi p4, vi ov, vi (0 : Int32), vi b1, vi b2, vi b3, vi xx, vi dd, vi yy, vr v1, vr v2, vr v3, vr v4, vr v5, vr b525, vi (1 : Int32), vr b534, vr el, vr b557, vr b611, vr b646, .unset]) rfl) ?_
  refine Go.via (fun _ => XS.iload X676.here hx rfl (hb hby at_255) rfl) ?_
  refine Go.via (fun _ => XS.ifNo X676.here hx rfl (hb hby at_257) rfl ((if0 _ _).trans (feq ((by decide) : ¬ ((1 : Int32) = (0 : Int32)))).1)) ?_
  refine Go.via (fun _ => XS.aload X676.here hx rfl (hb hby at_260) rfl rfl) ?_
  have f710 : Fld Z T676.heap b534 cAL "size" "I" (.int (0 : Int32)) := (((lf8_608.keep K610q (ninS (Ne.symm lf14_608) nin0)).keep K644q (ninS (Ne.symm lf14_608) nin0)).keep K676q (ninS (Ne.symm lf14_608) nin0))
  have z712 : n0 ≤ T676.heap.size := (Nat.le_trans z677 K676q.1)
  have f713 : Exa Z T676.heap b534 cAL := (f688.keep K676q)
  obtain ⟨cq711, kq711, q711a, q711b, q711c⟩ := isOf hZ e676 f713
  obtain ⟨r711, _, ⟨T711, L711, k711, n711⟩, -, X711, ⟨Lc711, hQ711, l711, y711, z711⟩, st711⟩ := X676.interfaceBack hx (xi := (⟨cLI, "size", "()I"⟩ : MethodName)) (y := (⟨cAL, "size", "()I"⟩ : MethodName)) hown (mvT hZ (tw hw 103 rfl)) (mvT hZ (tw hw 104 rfl)) (mvT hZ (tw hw 105 rfl)) (mvT hZ (tw hw 121 rfl)) (mvT hZ (tw hw 122 rfl)) (mvT hZ (tw hw 123 rfl)) (mvT hZ (tw hw 124 rfl)) (mvT hZ (tw hw 67 rfl)) (by decide) (backOf (W := 0) (rmSz l Z a0 hw [] b534 (0 : Int32) T676.heap n0 z712 f710) hZ (tw hw 125 rfl) (tw hw 21 rfl) (by decide) (by decide)) q711a q711b q711c (g := (mkF m 262 #[vi p0, vi p1, vi p2, vi p3, vi p4, vi ov, vi (0 : Int32), vi b1, vi b2, vi b3, vi xx, vi dd, vi yy, vr v1, vr v2, vr v3, vr v4, vr v5, vr b525, vi (1 : Int32), vr b534, vr el, vr b557, vr b611, vr b646, .unset] [(.ref b534)])) rfl (by rw [hml]; rfl) (Steps.refl _) (argsL := []) (rest := []) (lenOf pd__28_29I rfl) rfl (by show 2 * 0 + _ ≤ _; exact Nat.le_of_eq rfl) (hb hby at_262) (fun _ _ => ⟨rfl, e676, (by decide : 8 + 0 ≤ _), (by decide : 38 + 0 ≤ _)⟩)
  dsimp only [Pt.U, Pt.locs, Pt.cells, Pt.slots] at X711 l711 y711 z711 st711 hQ711
  rw [l711, y711, z711] at X711
  clear l711 y711 z711
  obtain ⟨hr711, N711q, eh711⟩ := hQ711
  rw [hr711] at st711
  clear hr711
  have N711 := Fr.app N676 N711q
  refine Go.via (fun _ kQ => st711.trans kQ) ?_
  clear st711
  have e711 : T711.heap = T676.heap := eh711
  clear X676 e676
  show Go p e below (T711.setTop (mkF m 267 #[vi p0, vi p1, vi p2, vi p3, vi p4, vi ov, vi (0 : Int32), vi b1, vi b2, vi b3, vi xx, vi dd, vi yy, vr v1, vr v2, vr v3, vr v4, vr v5, vr b525, vi (1 : Int32), vr b534, vr el, vr b557, vr b611, vr b646, .unset] [(.int (0 : Int32))])) _
  refine Go.via (fun _ => XS.iload X711.here hx rfl (hb hby at_267) rfl) ?_
  refine Go.via (fun _ => XS.icmpNo X711.here hx rfl (hb hby at_269) rfl (teq ((by decide) : (0 : Int32) = (0 : Int32))).2) ?_
  refine Go.via (fun _ => XS.iconst X711.here hx rfl (hb hby at_272)) ?_
  refine Go.via (fun _ => XS.goto X711.here hx rfl (pc0 := 273) (pc' := 277) rfl (hb hby at_273) (by decide) (by decide)) ?_
  refine Go.via (fun _ => XS.istore X711.here hx rfl (hb hby at_277) rfl (l' := #[vi p0, vi p1, vi p2, vi p3, vi p4, vi ov, vi (0 : Int32), vi b1, vi b2, vi b3, vi xx, vi dd, vi yy, vr v1, vr v2, vr v3, vr v4, vr v5, vr b525, vi (1 : Int32), vr b534, vr el, vr b557, vr b611, vr b646, .unset]) rfl) ?_
  refine Go.via (fun _ => XS.iload X711.here hx rfl (hb hby at_279) rfl) ?_
  refine Go.via (fun _ => XS.ifNo X711.here hx rfl (hb hby at_281) rfl ((if0 _ _).trans (feq ((by decide) : ¬ ((1 : Int32) = (0 : Int32)))).1)) ?_
  show Go p e below (T711.setTop (mkF m 284 #[vi p0, vi p1, vi p2, vi p3, vi p4, vi ov, vi (0 : Int32), vi b1, vi b2, vi b3, vi xx, vi dd, vi yy, vr v1, vr v2, vr v3, vr v4, vr v5, vr b525, vi (1 : Int32), vr b534, vr el, vr b557, vr b611, vr b646, .unset] [])) _
  refine Go.via (fun _ => XS.iload X711.here hx rfl (hb hby at_284) rfl) ?_
  refine Go.via (fun _ => XS.iconst X711.here hx rfl (hb hby at_286)) ?_
  refine Go.via (fun _ => XS.icmpYes X711.here hx rfl (pc0 := 287) (pc' := 315) rfl (hb hby at_287) rfl (tlt ((by decide) : (0 : Int32) < (1 : Int32))).1 (by decide) (by decide)) ?_
  refine Go.via (fun _ => XS.iload X711.here hx rfl (hb hby at_315) rfl) ?_
  refine Go.via (fun _ => XS.ifNo X711.here hx rfl (hb hby at_317) rfl ((if0 _ _).trans (feq ((by decide) : ¬ ((1 : Int32) = (0 : Int32)))).1)) ?_
  refine Go.via (fun _ => XS.iload X711.here hx rfl (hb hby at_320) rfl) ?_
  refine Go.via (fun _ => XS.iconst X711.here hx rfl (hb hby at_322)) ?_
  show Go p e below (T711.setTop (mkF m 323 #[vi p0, vi p1, vi p2, vi p3, vi p4, vi ov, vi (0 : Int32), vi b1, vi b2, vi b3, vi xx, vi dd, vi yy, vr v1, vr v2, vr v3, vr v4, vr v5, vr b525, vi (1 : Int32), vr b534, vr el, vr b557, vr b611, vr b646, .unset] [(.int (2 : Int32)), (.int (0 : Int32))])) _
  refine Go.via (fun _ => XS.icmpYes X711.here hx rfl (pc0 := 323) (pc' := 351) rfl (hb hby at_323) rfl (tlt ((by decide) : (0 : Int32) < (2 : Int32))).1 (by decide) (by decide)) ?_
  refine Go.via (fun _ => XS.iload X711.here hx rfl (hb hby at_351) rfl) ?_
  refine Go.via (fun _ => XS.ifNo X711.here hx rfl (hb hby at_353) rfl ((if0 _ _).trans (feq ((by decide) : ¬ ((1 : Int32) = (0 : Int32)))).1)) ?_
  refine Go.via (fun _ => XS.iload X711.here hx rfl (hb hby at_356) rfl) ?_
  refine Go.via (fun _ => XS.iconst X711.here hx rfl (hb hby at_358)) ?_
  refine Go.via (fun _ => XS.icmpYes X711.here hx rfl (pc0 := 359) (pc' := 387) rfl (hb hby at_359) rfl (tlt ((by decide) : (0 : Int32) < (3 : Int32))).1 (by decide) (by decide)) ?_
  have X711m := X711.more (by decide : _ ≤ 13) (by decide : _ ≤ 61)
  have f714 : Exa Z T676.heap b646 cAL := (f671.keep K676q)
  have f715 : Fld Z T676.heap b646 cAL "size" "I" (.int (0 : Int32)) := (f674.keep K676q (ninS (Ne.symm ne655) nin0))
  have o716 : Old Z n0 T676.heap := (o675.keep K676q (allS lf20_608 all0))
  have f717 : Exa Z T676.heap b557 cAL := (f690.keep K676q)
  have f718 : Fld Z T676.heap b557 cAL "size" "I" (.int (1 : Int32)) := (((lf12_608.keep K610q (ninS (Ne.symm lf15_608) nin0)).keep K644q (ninS (Ne.symm lf15_608) nin0)).keep K676q (ninS (Ne.symm lf15_608) nin0))
  have f719 : Fld Z T676.heap b557 cAL "elementData" cOA (.ref b582) := (((lf11_608.keep K610q (ninS (Ne.symm lf15_608) nin0)).keep K644q (ninS (Ne.symm lf15_608) nin0)).keep K676q (ninS (Ne.symm lf15_608) nin0))
  have f720 : Ra Z T676.heap b582 cOB [(.ref v4), .null, .null, .null, .null, .null, .null, .null, .null, .null] := (f692.keep K676q (ninS (Ne.symm lf17_608) nin0))
  have f721 : Exa Z T676.heap b611 cAL := (f694.keep K676q)
  have f722 : Fld Z T676.heap b611 cAL "size" "I" (.int (1 : Int32)) := ((f641.keep K644q (ninS (Ne.symm ne622) nin0)).keep K676q (ninS (Ne.symm ne622) nin0))
  have f723 : Fld Z T676.heap b611 cAL "elementData" cOA (.ref b612) := ((f640.keep K644q (ninS (Ne.symm ne622) nin0)).keep K676q (ninS (Ne.symm ne622) nin0))
  have f724 : Ra Z T676.heap b612 cOB [(.ref v5), .null, .null, .null, .null, .null, .null, .null, .null, .null] := (f696.keep K676q (ninS (Ne.symm ne628) nin0))
  have k725 : Keep h0 T676.heap [] := (k701.trans K676q (allS (Or.inr lf24_608) all0))
  exact rm_rm0_JS l Z a0 hw p0 p1 p2 p3 p4 de el ea ca cl v1 v2 v3 v4 v5 h0 n0 zD zN zL zH zC zLE zLF zLN zE1 zV1 zE2 zV2 zE3 zV3 zE4 zV4 zE5 zV5 hA hin1 hat1 hin2 hat2 hin3 hat3 hin4 hat4 hin5 hat5 hx hby hlk hml hown hZ hret T711 _ T676.heap ov b1 b2 b3 xx dd yy (0 : Int32) b525 b534 b557 b646 b582 b611 b612 X711m e711 N711 z712 k725 f713 f710 f714 f715 o716 f717 f718 f719 f720 f721 f722 f723 f724 hsp
set_option maxRecDepth 65536 in
set_option maxHeartbeats 40000000 in
theorem rm_rm0_c0n (l : Launch) (Z : State) (a0 : Array Value) (hw : ∀ d ∈ tables_1, d.before a0 Z = true) (p0 : Int32) (p1 : Int32) (p2 : Int32) (p3 : Int32) (p4 : Int32) (de : Addr) (el : Addr) (ea : Addr) (ca : Addr) (cl : Cell) (v1 : Addr) (v2 : Addr) (v3 : Addr) (v4 : Addr) (v5 : Addr) (h0 : Heap) (n0 : Nat) (zD : Sta Z Z.heap cAL cDE cOA (.ref de)) (zN : Rn Z Z.heap de (0 : Int32)) (zL : Sta Z Z.heap cIM "EMPTY_LIST" "Ljava/util/ImmutableCollections$ListN;" (.ref el)) (zH : Sta Z Z.heap cIC "high" "I" (.int (127 : Int32))) (zC : Sta Z Z.heap cIC "cache" "[Ljava/lang/Integer;" (.ref ca)) (zLE : Exa Z Z.heap el cLN) (zLF : Fld Z Z.heap el cLN "elements" cOA (.ref ea)) (zLN : Rn Z Z.heap ea (0 : Int32)) (zE1 : Exa Z Z.heap v1 cIN) (zV1 : Fld Z Z.heap v1 cIN "value" "I" (.int (1 : Int32))) (zE2 : Exa Z Z.heap v2 cIN) (zV2 : Fld Z Z.heap v2 cIN "value" "I" (.int (2 : Int32))) (zE3 : Exa Z Z.heap v3 cIN) (zV3 : Fld Z Z.heap v3 cIN "value" "I" (.int (3 : Int32))) (zE4 : Exa Z Z.heap v4 cIN) (zV4 : Fld Z Z.heap v4 cIN "value" "I" (.int (4 : Int32))) (zE5 : Exa Z Z.heap v5 cIN) (zV5 : Fld Z Z.heap v5 cIN "value" "I" (.int (5 : Int32))) (hA : Arr Z Z.heap ca cl (.object cIN)) (hin1 : ¬ (((1 : Int32) + (128 : Int32)) < 0 ∨ cl.slots.size ≤ ((1 : Int32) + (128 : Int32)).toNatClampNeg)) (hat1 : cl.slots[((1 : Int32) + (128 : Int32)).toNatClampNeg]? = some (.ref v1)) (hin2 : ¬ (((2 : Int32) + (128 : Int32)) < 0 ∨ cl.slots.size ≤ ((2 : Int32) + (128 : Int32)).toNatClampNeg)) (hat2 : cl.slots[((2 : Int32) + (128 : Int32)).toNatClampNeg]? = some (.ref v2)) (hin3 : ¬ (((3 : Int32) + (128 : Int32)) < 0 ∨ cl.slots.size ≤ ((3 : Int32) + (128 : Int32)).toNatClampNeg)) (hat3 : cl.slots[((3 : Int32) + (128 : Int32)).toNatClampNeg]? = some (.ref v3)) (hin4 : ¬ (((4 : Int32) + (128 : Int32)) < 0 ∨ cl.slots.size ≤ ((4 : Int32) + (128 : Int32)).toNatClampNeg)) (hat4 : cl.slots[((4 : Int32) + (128 : Int32)).toNatClampNeg]? = some (.ref v4)) (hin5 : ¬ (((5 : Int32) + (128 : Int32)) < 0 ∨ cl.slots.size ≤ ((5 : Int32) + (128 : Int32)).toNatClampNeg)) (hat5 : cl.slots[((5 : Int32) + (128 : Int32)).toNatClampNeg]? = some (.ref v5)) {p : Program} {e : Env} {s : State} {m : MethodId} {below : List Frame} {meth : Method} {c : Code} (hx : p.tables.exec = Jvm.exec) (hby : c.code = code) (hlk : meth.locks = false) (hml : c.maxLocals = 26) (hown : s.vm.findClass cLAW = some m.cls) (hZ : Z.Warmed39 s.vm) (hret : meth.sig.returnType = ret) :
    ∀ (T731 : State) (L731 : List Loc) (h731 : Heap) (ov : Int32) (b1 : Int32) (b2 : Int32) (b3 : Int32) (xx : Int32) (dd : Int32) (yy : Int32) (b525 : Addr) (b534 : Addr) (b557 : Addr) (b582 : Addr), Stand p l e room_1 s m #[(.int p0), (.int p1), (.int p2), (.int p3), (.int p4)] below meth c T731 L731 4 19 → T731.heap = h731 → Fr n0 L731 → n0 ≤ h731.size → Keep h0 h731 [] → Old Z n0 h731 → Exa Z h731 b525 cFI → Fld Z h731 b525 cFI "part" "Ljava/util/List;" (.ref b557) → Fld Z h731 b525 cFI "overhead" "I" (.int ov) → Fld Z h731 b525 cFI "partBytes" "J" (.long ((ov.toInt64) + (xx.toInt64))) → Exa Z h731 b534 cAL → Fld Z h731 b534 cAL "size" "I" (.int (0 : Int32)) → Exa Z h731 b557 cAL → Fld Z h731 b557 cAB "modCount" "I" (.int ((0 : Int32) + (1 : Int32))) → Fld Z h731 b557 cAL "elementData" cOA (.ref b582) → Fld Z h731 b557 cAL "size" "I" (.int (1 : Int32)) → Ra Z h731 b582 cOB [(.ref v4), .null, .null, .null, .null, .null, .null, .null, .null, .null] → b525 ≠ b534 → b525 ≠ b557 → b534 ≠ b557 → b525 ≠ b582 → b534 ≠ b582 → b557 ≠ b582 → n0 ≤ b525 → n0 ≤ b557 → n0 ≤ b582 → h0.size ≤ b525 → h0.size ≤ b557 → h0.size ≤ b582 → (p0 &&& (524287 : Int32)) = ov → (p3 &&& (524287 : Int32)) = xx → ((p4 &&& (3 : Int32)) - (1 : Int32)) = dd → (((((1048576 : Int32) - ov) - xx) - (1 : Int32)) + dd) = yy → ¬ (0 : Int32) < dd → Go p e below (T731.setTop (mkF m 230 #[vi p0, vi p1, vi p2, vi p3, vi p4, vi ov, vi (0 : Int32), vi b1, vi b2, vi b3, vi xx, vi dd, vi yy, vr v1, vr v2, vr v3, vr v4, vr v5, vr b525, vi (1 : Int32), vr b534, vr el, .unset, .unset, .unset, .unset] [])) (Done s (Q_rm0 Z p0 p1 p2 p3 p4 de el ea ca cl v1 v2 v3 v4 v5 h0 n0) room_1.cells room_1.slots) := by
  intro T731 L731 h731 ov b1 b2 b3 xx dd yy b525 b534 b557 b582 X731 e731 N731 z731 k731 lf0_731 lf1_731 lf2_731 lf3_731 lf4_731 lf5_731 lf8_731 lf9_731 lf10_731 lf11_731 lf12_731 lf13_731 lf14_731 lf15_731 lf16_731 lf17_731 lf18_731 lf19_731 lf20_731 lf22_731 lf23_731 lf24_731 lf26_731 lf27_731 hv_ov hv_xx hv_dd hv_yy hsp
  show Go p e below (T731.setTop (mkF m 230 #[vi p0, vi p1, vi p2, vi p3, vi p4, vi ov, vi (0 : Int32), vi b1, vi b2, vi b3, vi xx, vi dd, vi yy, vr v1, vr v2, vr v3, vr v4, vr v5, vr b525, vi (1 : Int32), vr b534, vr el, .unset, .unset, .unset, .unset] [])) _
  refine Go.via (fun _ => XS.aload X731.here hx rfl (hb hby at_230) rfl rfl) ?_
  refine Go.via (fun _ => XS.aload X731.here hx rfl (hb hby at_232) rfl rfl) ?_
  refine Go.via (fun _ => XS.iload X731.here hx rfl (hb hby at_234) rfl) ?_
  have f732 : Exa Z h731 v5 cIN := zE5.ext lf0_731.2
  obtain ⟨cq733, kq733, q733a, q733b, q733c⟩ := isOf hZ e731 lf1_731
  obtain ⟨r733, _, ⟨T733, L733, k733, n733⟩, -, X733, ⟨Lc733, hQ733, l733, y733, z733⟩, st733⟩ := X731.virtualBack hx (y := (⟨cFI, "add", "(Ljava/lang/Object;I)Ljava/util/List;"⟩ : MethodName)) (z := (⟨cFI, "add", "(Ljava/lang/Object;I)Ljava/util/List;"⟩ : MethodName)) hown (mvT hZ (tw hw 49 rfl)) (mvT hZ (tw hw 50 rfl)) (notFace_of_selects (args := #[]) (mvT hZ (tw hw 52 rfl))) (mvT hZ (tw hw 52 rfl)) (mvT hZ (tw hw 51 rfl)) (by decide) (backOf (W := 0) (rmFa1 l Z a0 hw [] b525 v5 yy b557 ov ((ov.toInt64) + (xx.toInt64)) b582 ((0 : Int32) + (1 : Int32)) el v4 h731 n0 z731 lf1_731 lf2_731 lf3_731 lf4_731 lf9_731 lf10_731 lf11_731 lf12_731 lf13_731 f732 lf0_731 zL lf20_731 lf22_731 lf23_731 lf15_731 lf17_731 lf19_731 (own_nsp hv_ov hv_xx hv_dd hv_yy hsp)) hZ (tw hw 53 rfl) (tw hw 12 rfl) (by decide) (by decide)) q733a q733c (g := (mkF m 236 #[vi p0, vi p1, vi p2, vi p3, vi p4, vi ov, vi (0 : Int32), vi b1, vi b2, vi b3, vi xx, vi dd, vi yy, vr v1, vr v2, vr v3, vr v4, vr v5, vr b525, vi (1 : Int32), vr b534, vr el, .unset, .unset, .unset, .unset] [(.int yy), (.ref v5), (.ref b525)])) rfl (by rw [hml]; rfl) (Steps.refl _) (argsL := [(.ref v5), (.int yy)]) (rest := []) (lenOf pd__28Ljava_2flang_2fObject_3bI_29Ljava_2futil_2fList_3b rfl) rfl (by show 2 * 0 + _ ≤ _; exact Nat.le_of_eq rfl) (hb hby at_236) (fun _ _ => ⟨rfl, e731, (by decide : 4 + 0 ≤ _), (by decide : 19 + 0 ≤ _)⟩)
  dsimp only [Pt.U, Pt.locs, Pt.cells, Pt.slots] at X733 l733 y733 z733 st733 hQ733
  rw [l733, y733, z733] at X733
  clear l733 y733 z733
  obtain ⟨hr733, N733q, K733q, f734, f735, f736, f737, f738, f739, f740, f741, f742⟩ := hQ733
  rw [hr733] at st733
  clear hr733
  have N733 := Fr.app N731 N733q
  refine Go.via (fun _ kQ => st733.trans kQ) ?_
  clear st733
  have e733 : T733.heap = T733.heap := rfl
  have f743 : Exa Z T733.heap b525 cFI := f734
  have f744 : Fld Z T733.heap b525 cFI "part" "Ljava/util/List;" (.ref b557) := f735
  have f745 : Fld Z T733.heap b525 cFI "overhead" "I" (.int ov) := f736
  have f746 : Fld Z T733.heap b525 cFI "partBytes" "J" (.long (((ov.toInt64) + (xx.toInt64)) + (((1 : Int32) + yy).toInt64))) := f737
  have f747 : Exa Z T733.heap b557 cAL := f738
  have f748 : Fld Z T733.heap b557 cAB "modCount" "I" (.int (((0 : Int32) + (1 : Int32)) + (1 : Int32))) := f739
  have f749 : Fld Z T733.heap b557 cAL "elementData" cOA (.ref b582) := f740
  have f750 : Fld Z T733.heap b557 cAL "size" "I" (.int (2 : Int32)) := f741
  have f751 : Ra Z T733.heap b582 cOB [(.ref v4), (.ref v5), .null, .null, .null, .null, .null, .null, .null, .null] := f742
  clear X731 e731
  show Go p e below (T733.setTop (mkF m 239 #[vi p0, vi p1, vi p2, vi p3, vi p4, vi ov, vi (0 : Int32), vi b1, vi b2, vi b3, vi xx, vi dd, vi yy, vr v1, vr v2, vr v3, vr v4, vr v5, vr b525, vi (1 : Int32), vr b534, vr el, .unset, .unset, .unset, .unset] [(.ref el)])) _
  refine Go.via (fun _ => XS.astore X733.here hx rfl (hb hby at_239) rfl rfl (l' := #[vi p0, vi p1, vi p2, vi p3, vi p4, vi ov, vi (0 : Int32), vi b1, vi b2, vi b3, vi xx, vi dd, vi yy, vr v1, vr v2, vr v3, vr v4, vr v5, vr b525, vi (1 : Int32), vr b534, vr el, vr el, .unset, .unset, .unset]) rfl) ?_
  refine Go.via (fun _ => XS.aload X733.here hx rfl (hb hby at_241) rfl rfl) ?_
  have o752 : Old Z n0 T733.heap := (lf0_731.keep K733q (allS lf20_731 (allS lf22_731 (allS lf23_731 all0))))
  have z754 : n0 ≤ T733.heap.size := (Nat.le_trans z731 K733q.1)
  obtain ⟨cq753, kq753, q753a, q753b, q753c⟩ := isOf hZ e733 f743
  obtain ⟨r753, _, ⟨T753, L753, k753, n753⟩, -, X753, ⟨Lc753, hQ753, l753, y753, z753⟩, st753⟩ := X733.virtualBack hx (y := (⟨cFI, "last", "()Ljava/util/List;"⟩ : MethodName)) (z := (⟨cFI, "last", "()Ljava/util/List;"⟩ : MethodName)) hown (mvT hZ (tw hw 116 rfl)) (mvT hZ (tw hw 117 rfl)) (notFace_of_selects (args := #[]) (mvT hZ (tw hw 119 rfl))) (mvT hZ (tw hw 119 rfl)) (mvT hZ (tw hw 118 rfl)) (by decide) (backOf (W := 0) (rmLa l Z a0 hw [] b525 b557 ov (((ov.toInt64) + (xx.toInt64)) + (((1 : Int32) + yy).toInt64)) de T733.heap n0 z754 f743 f744 f745 f746 o752 zD lf20_731) hZ (tw hw 120 rfl) (tw hw 12 rfl) (by decide) (by decide)) q753a q753c (g := (mkF m 243 #[vi p0, vi p1, vi p2, vi p3, vi p4, vi ov, vi (0 : Int32), vi b1, vi b2, vi b3, vi xx, vi dd, vi yy, vr v1, vr v2, vr v3, vr v4, vr v5, vr b525, vi (1 : Int32), vr b534, vr el, vr el, .unset, .unset, .unset] [(.ref b525)])) rfl (by rw [hml]; rfl) (Steps.refl _) (argsL := []) (rest := []) (lenOf pd__28_29Ljava_2futil_2fList_3b rfl) rfl (by show 2 * 0 + _ ≤ _; exact Nat.le_of_eq rfl) (hb hby at_243) (fun _ _ => ⟨rfl, e733, (by decide : 4 + 1 ≤ _), (by decide : 19 + 3 ≤ _)⟩)
  dsimp only [Pt.U, Pt.locs, Pt.cells, Pt.slots] at X753 l753 y753 z753 st753 hQ753
  rw [l753, y753, z753] at X753
  clear l753 y753 z753
  obtain ⟨b755, hr753, N753q, K753q, fz_b755, f756, f757, f758, f759, f760, f761, f762, f763⟩ := hQ753
  rw [hr753] at st753
  clear hr753
  have N753 := Fr.app N733 N753q
  refine Go.via (fun _ kQ => st753.trans kQ) ?_
  clear st753
  have ne764 : b525 ≠ b755 := Nat.ne_of_lt (Nat.lt_of_lt_of_le f743.lt fz_b755)
  have f765 : Exa Z T733.heap b534 cAL := (lf5_731.keep K733q)
  have ne766 : b534 ≠ b755 := Nat.ne_of_lt (Nat.lt_of_lt_of_le f765.lt fz_b755)
  have ne767 : b557 ≠ b755 := Nat.ne_of_lt (Nat.lt_of_lt_of_le f747.lt fz_b755)
  have ne768 : b582 ≠ b755 := Nat.ne_of_lt (Nat.lt_of_lt_of_le f751.lt fz_b755)
  have ge769 : n0 ≤ b755 := Nat.le_trans z754 fz_b755
  have k771 : Keep h0 T733.heap [] := (k731.trans K733q (allS (Or.inr lf24_731) (allS (Or.inr lf26_731) (allS (Or.inr lf27_731) all0))))
  have sz770 : h0.size ≤ b755 := Nat.le_trans k771.1 fz_b755
  have e753 : T753.heap = T753.heap := rfl
  have f772 : Exa Z T753.heap b525 cFI := f756
  have f773 : Fld Z T753.heap b525 cFI "part" "Ljava/util/List;" (.ref b755) := f757
  have f774 : Fld Z T753.heap b525 cFI "overhead" "I" (.int ov) := f758
  have f775 : Fld Z T753.heap b525 cFI "partBytes" "J" (.long (ov.toInt64)) := f759
  have f776 : Exa Z T753.heap b755 cAL := f760
  have f777 : Fld Z T753.heap b755 cAB "modCount" "I" (.int (0 : Int32)) := f761
  have f778 : Fld Z T753.heap b755 cAL "elementData" cOA (.ref de) := f762
  have f779 : Fld Z T753.heap b755 cAL "size" "I" (.int (0 : Int32)) := f763
  clear X733 e733
  show Go p e below (T753.setTop (mkF m 246 #[vi p0, vi p1, vi p2, vi p3, vi p4, vi ov, vi (0 : Int32), vi b1, vi b2, vi b3, vi xx, vi dd, vi yy, vr v1, vr v2, vr v3, vr v4, vr v5, vr b525, vi (1 : Int32), vr b534, vr el, vr el, .unset, .unset, .unset] [(.ref b557)])) _
  refine Go.via (fun _ => XS.astore X753.here hx rfl (hb hby at_246) rfl rfl (l' := #[vi p0, vi p1, vi p2, vi p3, vi p4, vi ov, vi (0 : Int32), vi b1, vi b2, vi b3, vi xx, vi dd, vi yy, vr v1, vr v2, vr v3, vr v4, vr v5, vr b525, vi (1 : Int32), vr b534, vr el, vr el, vr b557, .unset, .unset]) rfl) ?_
  refine Go.via (fun _ => XS.aload X753.here hx rfl (hb hby at_248) rfl rfl) ?_
  have o780 : Old Z n0 T753.heap := (o752.keep K753q (allS lf20_731 all0))
  have z782 : n0 ≤ T753.heap.size := (Nat.le_trans z754 K753q.1)
  obtain ⟨cq781, kq781, q781a, q781b, q781c⟩ := isOf hZ e753 f772
  obtain ⟨r781, _, ⟨T781, L781, k781, n781⟩, -, X781, ⟨Lc781, hQ781, l781, y781, z781⟩, st781⟩ := X753.virtualBack hx (y := (⟨cFI, "last", "()Ljava/util/List;"⟩ : MethodName)) (z := (⟨cFI, "last", "()Ljava/util/List;"⟩ : MethodName)) hown (mvT hZ (tw hw 116 rfl)) (mvT hZ (tw hw 117 rfl)) (notFace_of_selects (args := #[]) (mvT hZ (tw hw 119 rfl))) (mvT hZ (tw hw 119 rfl)) (mvT hZ (tw hw 118 rfl)) (by decide) (backOf (W := 0) (rmLa l Z a0 hw [] b525 b755 ov (ov.toInt64) de T753.heap n0 z782 f772 f773 f774 f775 o780 zD lf20_731) hZ (tw hw 120 rfl) (tw hw 12 rfl) (by decide) (by decide)) q781a q781c (g := (mkF m 250 #[vi p0, vi p1, vi p2, vi p3, vi p4, vi ov, vi (0 : Int32), vi b1, vi b2, vi b3, vi xx, vi dd, vi yy, vr v1, vr v2, vr v3, vr v4, vr v5, vr b525, vi (1 : Int32), vr b534, vr el, vr el, vr b557, .unset, .unset] [(.ref b525)])) rfl (by rw [hml]; rfl) (Steps.refl _) (argsL := []) (rest := []) (lenOf pd__28_29Ljava_2futil_2fList_3b rfl) rfl (by show 2 * 0 + _ ≤ _; exact Nat.le_of_eq rfl) (hb hby at_250) (fun _ _ => ⟨rfl, e753, (by decide : 5 + 1 ≤ _), (by decide : 22 + 3 ≤ _)⟩)
  dsimp only [Pt.U, Pt.locs, Pt.cells, Pt.slots] at X781 l781 y781 z781 st781 hQ781
  rw [l781, y781, z781] at X781
  clear l781 y781 z781
  obtain ⟨b783, hr781, N781q, K781q, fz_b783, f784, f785, f786, f787, f788, f789, f790, f791⟩ := hQ781
  rw [hr781] at st781
  clear hr781
  have N781 := Fr.app N753 N781q
  refine Go.via (fun _ kQ => st781.trans kQ) ?_
  clear st781
  have ne792 : b525 ≠ b783 := Nat.ne_of_lt (Nat.lt_of_lt_of_le f772.lt fz_b783)
  have f793 : Exa Z T753.heap b534 cAL := (f765.keep K753q)
  have ne794 : b534 ≠ b783 := Nat.ne_of_lt (Nat.lt_of_lt_of_le f793.lt fz_b783)
  have f795 : Exa Z T753.heap b557 cAL := (f747.keep K753q)
  have ne796 : b557 ≠ b783 := Nat.ne_of_lt (Nat.lt_of_lt_of_le f795.lt fz_b783)
  have f797 : Ra Z T753.heap b582 cOB [(.ref v4), (.ref v5), .null, .null, .null, .null, .null, .null, .null, .null] := (f751.keep K753q (ninS (Ne.symm lf17_731) nin0))
  have ne798 : b582 ≠ b783 := Nat.ne_of_lt (Nat.lt_of_lt_of_le f797.lt fz_b783)
  have ne799 : b755 ≠ b783 := Nat.ne_of_lt (Nat.lt_of_lt_of_le f776.lt fz_b783)
  have ge800 : n0 ≤ b783 := Nat.le_trans z782 fz_b783
  have k802 : Keep h0 T753.heap [] := (k771.trans K753q (allS (Or.inr lf24_731) all0))
  have sz801 : h0.size ≤ b783 := Nat.le_trans k802.1 fz_b783
  have e781 : T781.heap = T781.heap := rfl
  have f803 : Exa Z T781.heap b525 cFI := f784
  have f804 : Fld Z T781.heap b525 cFI "part" "Ljava/util/List;" (.ref b783) := f785
  have f805 : Fld Z T781.heap b525 cFI "overhead" "I" (.int ov) := f786
  have f806 : Fld Z T781.heap b525 cFI "partBytes" "J" (.long (ov.toInt64)) := f787
  have f807 : Exa Z T781.heap b783 cAL := f788
  have f808 : Fld Z T781.heap b783 cAB "modCount" "I" (.int (0 : Int32)) := f789
  have f809 : Fld Z T781.heap b783 cAL "elementData" cOA (.ref de) := f790
  have f810 : Fld Z T781.heap b783 cAL "size" "I" (.int (0 : Int32)) := f791
  clear X753 e753
  show Go p e below (T781.setTop (mkF m 253 #[vi p0, vi p1, vi p2, vi p3, vi p4, vi ov, vi (0 : Int32), vi b1, vi b2, vi b3, vi xx, vi dd, vi yy, vr v1, vr v2, vr v3, vr v4, vr v5, vr b525, vi (1 : Int32), vr b534, vr el, vr el, vr b557, .unset, .unset] [(.ref b755)])) _
  refine Go.via (fun _ => XS.astore X781.here hx rfl (hb hby at_253) rfl rfl (l' := #[vi p0, vi p1, vi p2, vi p3, vi p4, vi ov, vi (0 : Int32), vi b1, vi b2, vi b3, vi xx, vi dd, vi yy, vr v1, vr v2, vr v3, vr v4, vr v5, vr b525, vi (1 : Int32), vr b534, vr el, vr el, vr b557, vr b755, .unset]) rfl) ?_
  refine Go.via (fun _ => XS.iload X781.here hx rfl (hb hby at_255) rfl) ?_
  refine Go.via (fun _ => XS.ifNo X781.here hx rfl (hb hby at_257) rfl ((if0 _ _).trans (feq ((by decide) : ¬ ((1 : Int32) = (0 : Int32)))).1)) ?_
  refine Go.via (fun _ => XS.aload X781.here hx rfl (hb hby at_260) rfl rfl) ?_
  have f811 : Fld Z T781.heap b534 cAL "size" "I" (.int (0 : Int32)) := (((lf8_731.keep K733q (ninS (Ne.symm lf14_731) (ninS lf16_731 (ninS lf18_731 nin0)))).keep K753q (ninS (Ne.symm lf14_731) nin0)).keep K781q (ninS (Ne.symm lf14_731) nin0))
  have z813 : n0 ≤ T781.heap.size := (Nat.le_trans z782 K781q.1)
  have f814 : Exa Z T781.heap b534 cAL := (f793.keep K781q)
  obtain ⟨cq812, kq812, q812a, q812b, q812c⟩ := isOf hZ e781 f814
  obtain ⟨r812, _, ⟨T812, L812, k812, n812⟩, -, X812, ⟨Lc812, hQ812, l812, y812, z812⟩, st812⟩ := X781.interfaceBack hx (xi := (⟨cLI, "size", "()I"⟩ : MethodName)) (y := (⟨cAL, "size", "()I"⟩ : MethodName)) hown (mvT hZ (tw hw 103 rfl)) (mvT hZ (tw hw 104 rfl)) (mvT hZ (tw hw 105 rfl)) (mvT hZ (tw hw 121 rfl)) (mvT hZ (tw hw 122 rfl)) (mvT hZ (tw hw 123 rfl)) (mvT hZ (tw hw 124 rfl)) (mvT hZ (tw hw 67 rfl)) (by decide) (backOf (W := 0) (rmSz l Z a0 hw [] b534 (0 : Int32) T781.heap n0 z813 f811) hZ (tw hw 125 rfl) (tw hw 21 rfl) (by decide) (by decide)) q812a q812b q812c (g := (mkF m 262 #[vi p0, vi p1, vi p2, vi p3, vi p4, vi ov, vi (0 : Int32), vi b1, vi b2, vi b3, vi xx, vi dd, vi yy, vr v1, vr v2, vr v3, vr v4, vr v5, vr b525, vi (1 : Int32), vr b534, vr el, vr el, vr b557, vr b755, .unset] [(.ref b534)])) rfl (by rw [hml]; rfl) (Steps.refl _) (argsL := []) (rest := []) (lenOf pd__28_29I rfl) rfl (by show 2 * 0 + _ ≤ _; exact Nat.le_of_eq rfl) (hb hby at_262) (fun _ _ => ⟨rfl, e781, (by decide : 6 + 0 ≤ _), (by decide : 25 + 0 ≤ _)⟩)
  dsimp only [Pt.U, Pt.locs, Pt.cells, Pt.slots] at X812 l812 y812 z812 st812 hQ812
  rw [l812, y812, z812] at X812
  clear l812 y812 z812
  obtain ⟨hr812, N812q, eh812⟩ := hQ812
  rw [hr812] at st812
  clear hr812
  have N812 := Fr.app N781 N812q
  refine Go.via (fun _ kQ => st812.trans kQ) ?_
  clear st812
  have e812 : T812.heap = T781.heap := eh812
  clear X781 e781
  show Go p e below (T812.setTop (mkF m 267 #[vi p0, vi p1, vi p2, vi p3, vi p4, vi ov, vi (0 : Int32), vi b1, vi b2, vi b3, vi xx, vi dd, vi yy, vr v1, vr v2, vr v3, vr v4, vr v5, vr b525, vi (1 : Int32), vr b534, vr el, vr el, vr b557, vr b755, .unset] [(.int (0 : Int32))])) _
  refine Go.via (fun _ => XS.iload X812.here hx rfl (hb hby at_267) rfl) ?_
  refine Go.via (fun _ => XS.icmpNo X812.here hx rfl (hb hby at_269) rfl (teq ((by decide) : (0 : Int32) = (0 : Int32))).2) ?_
  refine Go.via (fun _ => XS.iconst X812.here hx rfl (hb hby at_272)) ?_
  refine Go.via (fun _ => XS.goto X812.here hx rfl (pc0 := 273) (pc' := 277) rfl (hb hby at_273) (by decide) (by decide)) ?_
  refine Go.via (fun _ => XS.istore X812.here hx rfl (hb hby at_277) rfl (l' := #[vi p0, vi p1, vi p2, vi p3, vi p4, vi ov, vi (0 : Int32), vi b1, vi b2, vi b3, vi xx, vi dd, vi yy, vr v1, vr v2, vr v3, vr v4, vr v5, vr b525, vi (1 : Int32), vr b534, vr el, vr el, vr b557, vr b755, .unset]) rfl) ?_
  refine Go.via (fun _ => XS.iload X812.here hx rfl (hb hby at_279) rfl) ?_
  refine Go.via (fun _ => XS.ifNo X812.here hx rfl (hb hby at_281) rfl ((if0 _ _).trans (feq ((by decide) : ¬ ((1 : Int32) = (0 : Int32)))).1)) ?_
  show Go p e below (T812.setTop (mkF m 284 #[vi p0, vi p1, vi p2, vi p3, vi p4, vi ov, vi (0 : Int32), vi b1, vi b2, vi b3, vi xx, vi dd, vi yy, vr v1, vr v2, vr v3, vr v4, vr v5, vr b525, vi (1 : Int32), vr b534, vr el, vr el, vr b557, vr b755, .unset] [])) _
  refine Go.via (fun _ => XS.iload X812.here hx rfl (hb hby at_284) rfl) ?_
  refine Go.via (fun _ => XS.iconst X812.here hx rfl (hb hby at_286)) ?_
  refine Go.via (fun _ => XS.icmpYes X812.here hx rfl (pc0 := 287) (pc' := 315) rfl (hb hby at_287) rfl (tlt ((by decide) : (0 : Int32) < (1 : Int32))).1 (by decide) (by decide)) ?_
  refine Go.via (fun _ => XS.iload X812.here hx rfl (hb hby at_315) rfl) ?_
  refine Go.via (fun _ => XS.ifNo X812.here hx rfl (hb hby at_317) rfl ((if0 _ _).trans (feq ((by decide) : ¬ ((1 : Int32) = (0 : Int32)))).1)) ?_
  refine Go.via (fun _ => XS.iload X812.here hx rfl (hb hby at_320) rfl) ?_
  refine Go.via (fun _ => XS.iconst X812.here hx rfl (hb hby at_322)) ?_
  show Go p e below (T812.setTop (mkF m 323 #[vi p0, vi p1, vi p2, vi p3, vi p4, vi ov, vi (0 : Int32), vi b1, vi b2, vi b3, vi xx, vi dd, vi yy, vr v1, vr v2, vr v3, vr v4, vr v5, vr b525, vi (1 : Int32), vr b534, vr el, vr el, vr b557, vr b755, .unset] [(.int (2 : Int32)), (.int (0 : Int32))])) _
  refine Go.via (fun _ => XS.icmpYes X812.here hx rfl (pc0 := 323) (pc' := 351) rfl (hb hby at_323) rfl (tlt ((by decide) : (0 : Int32) < (2 : Int32))).1 (by decide) (by decide)) ?_
  refine Go.via (fun _ => XS.iload X812.here hx rfl (hb hby at_351) rfl) ?_
  refine Go.via (fun _ => XS.ifNo X812.here hx rfl (hb hby at_353) rfl ((if0 _ _).trans (feq ((by decide) : ¬ ((1 : Int32) = (0 : Int32)))).1)) ?_
  refine Go.via (fun _ => XS.iload X812.here hx rfl (hb hby at_356) rfl) ?_
  refine Go.via (fun _ => XS.iconst X812.here hx rfl (hb hby at_358)) ?_
  refine Go.via (fun _ => XS.icmpYes X812.here hx rfl (pc0 := 359) (pc' := 387) rfl (hb hby at_359) rfl (tlt ((by decide) : (0 : Int32) < (3 : Int32))).1 (by decide) (by decide)) ?_
  have X812m := X812.more (by decide : _ ≤ 13) (by decide : _ ≤ 61)
  have f815 : Exa Z T781.heap b755 cAL := (f776.keep K781q)
  have f816 : Fld Z T781.heap b755 cAL "size" "I" (.int (0 : Int32)) := (f779.keep K781q (ninS (Ne.symm ne764) nin0))
  have o817 : Old Z n0 T781.heap := (o780.keep K781q (allS lf20_731 all0))
  have f818 : Exa Z T781.heap b557 cAL := (f795.keep K781q)
  have f819 : Fld Z T781.heap b557 cAL "size" "I" (.int (2 : Int32)) := ((f750.keep K753q (ninS (Ne.symm lf15_731) nin0)).keep K781q (ninS (Ne.symm lf15_731) nin0))
  have f820 : Fld Z T781.heap b557 cAL "elementData" cOA (.ref b582) := ((f749.keep K753q (ninS (Ne.symm lf15_731) nin0)).keep K781q (ninS (Ne.symm lf15_731) nin0))
  have f821 : Ra Z T781.heap b582 cOB [(.ref v4), (.ref v5), .null, .null, .null, .null, .null, .null, .null, .null] := (f797.keep K781q (ninS (Ne.symm lf17_731) nin0))
  have k822 : Keep h0 T781.heap [] := (k802.trans K781q (allS (Or.inr lf24_731) all0))
  exact rm_rm0_JN l Z a0 hw p0 p1 p2 p3 p4 de el ea ca cl v1 v2 v3 v4 v5 h0 n0 zD zN zL zH zC zLE zLF zLN zE1 zV1 zE2 zV2 zE3 zV3 zE4 zV4 zE5 zV5 hA hin1 hat1 hin2 hat2 hin3 hat3 hin4 hat4 hin5 hat5 hx hby hlk hml hown hZ hret T812 _ T781.heap ov b1 b2 b3 xx dd yy (0 : Int32) b525 b534 b557 b755 b582 X812m e812 N812 z813 k822 f814 f811 f815 f816 o817 f818 f819 f820 f821 hsp
set_option maxRecDepth 65536 in
set_option maxHeartbeats 40000000 in
theorem rm_rm0_c0 (l : Launch) (Z : State) (a0 : Array Value) (hw : ∀ d ∈ tables_1, d.before a0 Z = true) (p0 : Int32) (p1 : Int32) (p2 : Int32) (p3 : Int32) (p4 : Int32) (de : Addr) (el : Addr) (ea : Addr) (ca : Addr) (cl : Cell) (v1 : Addr) (v2 : Addr) (v3 : Addr) (v4 : Addr) (v5 : Addr) (h0 : Heap) (n0 : Nat) (zD : Sta Z Z.heap cAL cDE cOA (.ref de)) (zN : Rn Z Z.heap de (0 : Int32)) (zL : Sta Z Z.heap cIM "EMPTY_LIST" "Ljava/util/ImmutableCollections$ListN;" (.ref el)) (zH : Sta Z Z.heap cIC "high" "I" (.int (127 : Int32))) (zC : Sta Z Z.heap cIC "cache" "[Ljava/lang/Integer;" (.ref ca)) (zLE : Exa Z Z.heap el cLN) (zLF : Fld Z Z.heap el cLN "elements" cOA (.ref ea)) (zLN : Rn Z Z.heap ea (0 : Int32)) (zE1 : Exa Z Z.heap v1 cIN) (zV1 : Fld Z Z.heap v1 cIN "value" "I" (.int (1 : Int32))) (zE2 : Exa Z Z.heap v2 cIN) (zV2 : Fld Z Z.heap v2 cIN "value" "I" (.int (2 : Int32))) (zE3 : Exa Z Z.heap v3 cIN) (zV3 : Fld Z Z.heap v3 cIN "value" "I" (.int (3 : Int32))) (zE4 : Exa Z Z.heap v4 cIN) (zV4 : Fld Z Z.heap v4 cIN "value" "I" (.int (4 : Int32))) (zE5 : Exa Z Z.heap v5 cIN) (zV5 : Fld Z Z.heap v5 cIN "value" "I" (.int (5 : Int32))) (hA : Arr Z Z.heap ca cl (.object cIN)) (hin1 : ¬ (((1 : Int32) + (128 : Int32)) < 0 ∨ cl.slots.size ≤ ((1 : Int32) + (128 : Int32)).toNatClampNeg)) (hat1 : cl.slots[((1 : Int32) + (128 : Int32)).toNatClampNeg]? = some (.ref v1)) (hin2 : ¬ (((2 : Int32) + (128 : Int32)) < 0 ∨ cl.slots.size ≤ ((2 : Int32) + (128 : Int32)).toNatClampNeg)) (hat2 : cl.slots[((2 : Int32) + (128 : Int32)).toNatClampNeg]? = some (.ref v2)) (hin3 : ¬ (((3 : Int32) + (128 : Int32)) < 0 ∨ cl.slots.size ≤ ((3 : Int32) + (128 : Int32)).toNatClampNeg)) (hat3 : cl.slots[((3 : Int32) + (128 : Int32)).toNatClampNeg]? = some (.ref v3)) (hin4 : ¬ (((4 : Int32) + (128 : Int32)) < 0 ∨ cl.slots.size ≤ ((4 : Int32) + (128 : Int32)).toNatClampNeg)) (hat4 : cl.slots[((4 : Int32) + (128 : Int32)).toNatClampNeg]? = some (.ref v4)) (hin5 : ¬ (((5 : Int32) + (128 : Int32)) < 0 ∨ cl.slots.size ≤ ((5 : Int32) + (128 : Int32)).toNatClampNeg)) (hat5 : cl.slots[((5 : Int32) + (128 : Int32)).toNatClampNeg]? = some (.ref v5)) {p : Program} {e : Env} {s : State} {m : MethodId} {below : List Frame} {meth : Method} {c : Code} (hx : p.tables.exec = Jvm.exec) (hby : c.code = code) (hlk : meth.locks = false) (hml : c.maxLocals = 26) (hown : s.vm.findClass cLAW = some m.cls) (hZ : Z.Warmed39 s.vm) (hret : meth.sig.returnType = ret) :
    ∀ (T555 : State) (L555 : List Loc) (h555 : Heap) (ov : Int32) (b1 : Int32) (b2 : Int32) (b3 : Int32) (xx : Int32) (dd : Int32) (yy : Int32) (b525 : Addr) (b534 : Addr), Stand p l e room_1 s m #[(.int p0), (.int p1), (.int p2), (.int p3), (.int p4)] below meth c T555 L555 2 6 → T555.heap = h555 → Fr n0 L555 → n0 ≤ h555.size → Keep h0 h555 [] → Old Z n0 h555 → Exa Z h555 b525 cFI → Fld Z h555 b525 cFI "part" "Ljava/util/List;" (.ref b534) → Fld Z h555 b525 cFI "overhead" "I" (.int ov) → Fld Z h555 b525 cFI "partBytes" "J" (.long (ov.toInt64)) → Exa Z h555 b534 cAL → Fld Z h555 b534 cAL "size" "I" (.int (0 : Int32)) → b525 ≠ b534 → n0 ≤ b525 → h0.size ≤ b525 → (p0 &&& (524287 : Int32)) = ov → (p3 &&& (524287 : Int32)) = xx → ((p4 &&& (3 : Int32)) - (1 : Int32)) = dd → (((((1048576 : Int32) - ov) - xx) - (1 : Int32)) + dd) = yy → Go p e below (T555.setTop (mkF m 107 #[vi p0, vi p1, vi p2, vi p3, vi p4, vi ov, vi (0 : Int32), vi b1, vi b2, vi b3, vi xx, vi dd, vi yy, vr v1, vr v2, vr v3, vr v4, vr v5, vr b525, vi (1 : Int32), .unset, .unset, .unset, .unset, .unset, .unset] [])) (Done s (Q_rm0 Z p0 p1 p2 p3 p4 de el ea ca cl v1 v2 v3 v4 v5 h0 n0) room_1.cells room_1.slots) := by
  intro T555 L555 h555 ov b1 b2 b3 xx dd yy b525 b534 X555 e555 N555 z555 k555 lf0_555 lf1_555 lf2_555 lf3_555 lf4_555 lf5_555 lf8_555 lf9_555 lf10_555 lf12_555 hv_ov hv_xx hv_dd hv_yy
  show Go p e below (T555.setTop (mkF m 107 #[vi p0, vi p1, vi p2, vi p3, vi p4, vi ov, vi (0 : Int32), vi b1, vi b2, vi b3, vi xx, vi dd, vi yy, vr v1, vr v2, vr v3, vr v4, vr v5, vr b525, vi (1 : Int32), .unset, .unset, .unset, .unset, .unset, .unset] [])) _
  refine Go.via (fun _ => XS.iload X555.here hx rfl (hb hby at_107) rfl) ?_
  refine Go.via (fun _ => XS.iconst X555.here hx rfl (hb hby at_109)) ?_
  refine Go.via (fun _ => XS.icmpYes X555.here hx rfl (pc0 := 110) (pc' := 142) rfl (hb hby at_110) rfl (tlt ((by decide) : (0 : Int32) < (1 : Int32))).1 (by decide) (by decide)) ?_
  refine Go.via (fun _ => XS.iload X555.here hx rfl (hb hby at_142) rfl) ?_
  show Go p e below (T555.setTop (mkF m 144 #[vi p0, vi p1, vi p2, vi p3, vi p4, vi ov, vi (0 : Int32), vi b1, vi b2, vi b3, vi xx, vi dd, vi yy, vr v1, vr v2, vr v3, vr v4, vr v5, vr b525, vi (1 : Int32), .unset, .unset, .unset, .unset, .unset, .unset] [(.int (0 : Int32))])) _
  refine Go.via (fun _ => XS.iconst X555.here hx rfl (hb hby at_144)) ?_
  refine Go.via (fun _ => XS.icmpYes X555.here hx rfl (pc0 := 145) (pc' := 177) rfl (hb hby at_145) rfl (tlt ((by decide) : (0 : Int32) < (2 : Int32))).1 (by decide) (by decide)) ?_
  refine Go.via (fun _ => XS.iload X555.here hx rfl (hb hby at_177) rfl) ?_
  refine Go.via (fun _ => XS.iconst X555.here hx rfl (hb hby at_179)) ?_
  refine Go.via (fun _ => XS.icmpYes X555.here hx rfl (pc0 := 180) (pc' := 212) rfl (hb hby at_180) rfl (tlt ((by decide) : (0 : Int32) < (3 : Int32))).1 (by decide) (by decide)) ?_
  refine Go.via (fun _ => XS.aload X555.here hx rfl (hb hby at_212) rfl rfl) ?_
  obtain ⟨cq556, kq556, q556a, q556b, q556c⟩ := isOf hZ e555 lf1_555
  obtain ⟨r556, _, ⟨T556, L556, k556, n556⟩, -, X556, ⟨Lc556, hQ556, l556, y556, z556⟩, st556⟩ := X555.virtualBack hx (y := (⟨cFI, "last", "()Ljava/util/List;"⟩ : MethodName)) (z := (⟨cFI, "last", "()Ljava/util/List;"⟩ : MethodName)) hown (mvT hZ (tw hw 116 rfl)) (mvT hZ (tw hw 117 rfl)) (notFace_of_selects (args := #[]) (mvT hZ (tw hw 119 rfl))) (mvT hZ (tw hw 119 rfl)) (mvT hZ (tw hw 118 rfl)) (by decide) (backOf (W := 0) (rmLa l Z a0 hw [] b525 b534 ov (ov.toInt64) de h555 n0 z555 lf1_555 lf2_555 lf3_555 lf4_555 lf0_555 zD lf10_555) hZ (tw hw 120 rfl) (tw hw 12 rfl) (by decide) (by decide)) q556a q556c (g := (mkF m 214 #[vi p0, vi p1, vi p2, vi p3, vi p4, vi ov, vi (0 : Int32), vi b1, vi b2, vi b3, vi xx, vi dd, vi yy, vr v1, vr v2, vr v3, vr v4, vr v5, vr b525, vi (1 : Int32), .unset, .unset, .unset, .unset, .unset, .unset] [(.ref b525)])) rfl (by rw [hml]; rfl) (Steps.refl _) (argsL := []) (rest := []) (lenOf pd__28_29Ljava_2futil_2fList_3b rfl) rfl (by show 2 * 0 + _ ≤ _; exact Nat.le_of_eq rfl) (hb hby at_214) (fun _ _ => ⟨rfl, e555, (by decide : 2 + 1 ≤ _), (by decide : 6 + 3 ≤ _)⟩)
  dsimp only [Pt.U, Pt.locs, Pt.cells, Pt.slots] at X556 l556 y556 z556 st556 hQ556
  rw [l556, y556, z556] at X556
  clear l556 y556 z556
  obtain ⟨b557, hr556, N556q, K556q, fz_b557, f558, f559, f560, f561, f562, f563, f564, f565⟩ := hQ556
  rw [hr556] at st556
  clear hr556
  have N556 := Fr.app N555 N556q
  refine Go.via (fun _ kQ => st556.trans kQ) ?_
  clear st556
  have ne566 : b525 ≠ b557 := Nat.ne_of_lt (Nat.lt_of_lt_of_le lf1_555.lt fz_b557)
  have ne567 : b534 ≠ b557 := Nat.ne_of_lt (Nat.lt_of_lt_of_le lf5_555.lt fz_b557)
  have ge568 : n0 ≤ b557 := Nat.le_trans z555 fz_b557
  have sz569 : h0.size ≤ b557 := Nat.le_trans k555.1 fz_b557
  have e556 : T556.heap = T556.heap := rfl
  have f570 : Exa Z T556.heap b525 cFI := f558
  have f571 : Fld Z T556.heap b525 cFI "part" "Ljava/util/List;" (.ref b557) := f559
  have f572 : Fld Z T556.heap b525 cFI "overhead" "I" (.int ov) := f560
  have f573 : Fld Z T556.heap b525 cFI "partBytes" "J" (.long (ov.toInt64)) := f561
  have f574 : Exa Z T556.heap b557 cAL := f562
  have f575 : Fld Z T556.heap b557 cAB "modCount" "I" (.int (0 : Int32)) := f563
  have f576 : Fld Z T556.heap b557 cAL "elementData" cOA (.ref de) := f564
  have f577 : Fld Z T556.heap b557 cAL "size" "I" (.int (0 : Int32)) := f565
  clear X555 e555
  show Go p e below (T556.setTop (mkF m 217 #[vi p0, vi p1, vi p2, vi p3, vi p4, vi ov, vi (0 : Int32), vi b1, vi b2, vi b3, vi xx, vi dd, vi yy, vr v1, vr v2, vr v3, vr v4, vr v5, vr b525, vi (1 : Int32), .unset, .unset, .unset, .unset, .unset, .unset] [(.ref b534)])) _
  refine Go.via (fun _ => XS.astore X556.here hx rfl (hb hby at_217) rfl rfl (l' := #[vi p0, vi p1, vi p2, vi p3, vi p4, vi ov, vi (0 : Int32), vi b1, vi b2, vi b3, vi xx, vi dd, vi yy, vr v1, vr v2, vr v3, vr v4, vr v5, vr b525, vi (1 : Int32), vr b534, .unset, .unset, .unset, .unset, .unset]) rfl) ?_
  refine Go.via (fun _ => XS.aload X556.here hx rfl (hb hby at_219) rfl rfl) ?_
  refine Go.via (fun _ => XS.aload X556.here hx rfl (hb hby at_221) rfl rfl) ?_
  refine Go.via (fun _ => XS.iload X556.here hx rfl (hb hby at_223) rfl) ?_
  have o578 : Old Z n0 T556.heap := (lf0_555.keep K556q (allS lf10_555 all0))
  have f579 : Exa Z T556.heap v4 cIN := zE4.ext o578.2
  have z581 : n0 ≤ T556.heap.size := (Nat.le_trans z555 K556q.1)
  obtain ⟨cq580, kq580, q580a, q580b, q580c⟩ := isOf hZ e556 f570
  obtain ⟨r580, _, ⟨T580, L580, k580, n580⟩, -, X580, ⟨Lc580, hQ580, l580, y580, z580⟩, st580⟩ := X556.virtualBack hx (y := (⟨cFI, "add", "(Ljava/lang/Object;I)Ljava/util/List;"⟩ : MethodName)) (z := (⟨cFI, "add", "(Ljava/lang/Object;I)Ljava/util/List;"⟩ : MethodName)) hown (mvT hZ (tw hw 49 rfl)) (mvT hZ (tw hw 50 rfl)) (notFace_of_selects (args := #[]) (mvT hZ (tw hw 52 rfl))) (mvT hZ (tw hw 52 rfl)) (mvT hZ (tw hw 51 rfl)) (by decide) (backOf (W := 0) (rmFa0 l Z a0 hw [] b525 v4 xx b557 ov (ov.toInt64) de (0 : Int32) el T556.heap n0 z581 f570 f571 f572 f573 f574 f575 f576 f577 f579 o578 zD zN zL lf10_555 ge568 ne566) hZ (tw hw 53 rfl) (tw hw 12 rfl) (by decide) (by decide)) q580a q580c (g := (mkF m 225 #[vi p0, vi p1, vi p2, vi p3, vi p4, vi ov, vi (0 : Int32), vi b1, vi b2, vi b3, vi xx, vi dd, vi yy, vr v1, vr v2, vr v3, vr v4, vr v5, vr b525, vi (1 : Int32), vr b534, .unset, .unset, .unset, .unset, .unset] [(.int xx), (.ref v4), (.ref b525)])) rfl (by rw [hml]; rfl) (Steps.refl _) (argsL := [(.ref v4), (.int xx)]) (rest := []) (lenOf pd__28Ljava_2flang_2fObject_3bI_29Ljava_2futil_2fList_3b rfl) rfl (by show 2 * 0 + _ ≤ _; exact Nat.le_of_eq rfl) (hb hby at_225) (fun _ _ => ⟨rfl, e556, (by decide : 3 + 1 ≤ _), (by decide : 9 + 10 ≤ _)⟩)
  dsimp only [Pt.U, Pt.locs, Pt.cells, Pt.slots] at X580 l580 y580 z580 st580 hQ580
  rw [l580, y580, z580] at X580
  clear l580 y580 z580
  obtain ⟨b582, hr580, N580q, K580q, fz_b582, f583, f584, f585, f586, f587, f588, f589, f590, f591⟩ := hQ580
  rw [hr580] at st580
  clear hr580
  have N580 := Fr.app N556 N580q
  refine Go.via (fun _ kQ => st580.trans kQ) ?_
  clear st580
  have ne592 : b525 ≠ b582 := Nat.ne_of_lt (Nat.lt_of_lt_of_le f570.lt fz_b582)
  have f593 : Exa Z T556.heap b534 cAL := (lf5_555.keep K556q)
  have ne594 : b534 ≠ b582 := Nat.ne_of_lt (Nat.lt_of_lt_of_le f593.lt fz_b582)
  have ne595 : b557 ≠ b582 := Nat.ne_of_lt (Nat.lt_of_lt_of_le f574.lt fz_b582)
  have ge596 : n0 ≤ b582 := Nat.le_trans z581 fz_b582
  have k598 : Keep h0 T556.heap [] := (k555.trans K556q (allS (Or.inr lf12_555) all0))
  have sz597 : h0.size ≤ b582 := Nat.le_trans k598.1 fz_b582
  have e580 : T580.heap = T580.heap := rfl
  have f599 : Exa Z T580.heap b525 cFI := f583
  have f600 : Fld Z T580.heap b525 cFI "part" "Ljava/util/List;" (.ref b557) := f584
  have f601 : Fld Z T580.heap b525 cFI "overhead" "I" (.int ov) := f585
  have f602 : Fld Z T580.heap b525 cFI "partBytes" "J" (.long ((ov.toInt64) + (xx.toInt64))) := f586
  have f603 : Exa Z T580.heap b557 cAL := f587
  have f604 : Fld Z T580.heap b557 cAB "modCount" "I" (.int ((0 : Int32) + (1 : Int32))) := f588
  have f605 : Fld Z T580.heap b557 cAL "elementData" cOA (.ref b582) := f589
  have f606 : Fld Z T580.heap b557 cAL "size" "I" (.int (1 : Int32)) := f590
  have f607 : Ra Z T580.heap b582 cOB [(.ref v4), .null, .null, .null, .null, .null, .null, .null, .null, .null] := f591
  clear X556 e556
  show Go p e below (T580.setTop (mkF m 228 #[vi p0, vi p1, vi p2, vi p3, vi p4, vi ov, vi (0 : Int32), vi b1, vi b2, vi b3, vi xx, vi dd, vi yy, vr v1, vr v2, vr v3, vr v4, vr v5, vr b525, vi (1 : Int32), vr b534, .unset, .unset, .unset, .unset, .unset] [(.ref el)])) _
  refine Go.via (fun _ => XS.astore X580.here hx rfl (hb hby at_228) rfl rfl (l' := #[vi p0, vi p1, vi p2, vi p3, vi p4, vi ov, vi (0 : Int32), vi b1, vi b2, vi b3, vi xx, vi dd, vi yy, vr v1, vr v2, vr v3, vr v4, vr v5, vr b525, vi (1 : Int32), vr b534, vr el, .unset, .unset, .unset, .unset]) rfl) ?_
  show Go p e below (T580.setTop (mkF m 230 #[vi p0, vi p1, vi p2, vi p3, vi p4, vi ov, vi (0 : Int32), vi b1, vi b2, vi b3, vi xx, vi dd, vi yy, vr v1, vr v2, vr v3, vr v4, vr v5, vr b525, vi (1 : Int32), vr b534, vr el, .unset, .unset, .unset, .unset] [])) _
  by_cases hsp : (0 : Int32) < dd
  · have z726 : n0 ≤ T580.heap.size := (Nat.le_trans z581 K580q.1)
    have k727 : Keep h0 T580.heap [] := (k598.trans K580q (allS (Or.inr lf12_555) (allS (Or.inr sz569) all0)))
    have o728 : Old Z n0 T580.heap := (o578.keep K580q (allS lf10_555 (allS ge568 all0)))
    have f729 : Exa Z T580.heap b534 cAL := (f593.keep K580q)
    have f730 : Fld Z T580.heap b534 cAL "size" "I" (.int (0 : Int32)) := ((lf8_555.keep K556q (ninS (Ne.symm lf9_555) nin0)).keep K580q (ninS (Ne.symm lf9_555) (ninS ne567 nin0)))
    exact rm_rm0_c0s l Z a0 hw p0 p1 p2 p3 p4 de el ea ca cl v1 v2 v3 v4 v5 h0 n0 zD zN zL zH zC zLE zLF zLN zE1 zV1 zE2 zV2 zE3 zV3 zE4 zV4 zE5 zV5 hA hin1 hat1 hin2 hat2 hin3 hat3 hin4 hat4 hin5 hat5 hx hby hlk hml hown hZ hret T580 _ T580.heap ov b1 b2 b3 xx dd yy b525 b534 b557 b582 X580 e580 N580 z726 k727 o728 f599 f600 f601 f602 f729 f730 f603 f604 f605 f606 f607 lf9_555 ne566 ne592 lf10_555 lf12_555 hv_ov hv_xx hv_dd hv_yy hsp
  · have z823 : n0 ≤ T580.heap.size := (Nat.le_trans z581 K580q.1)
    have k824 : Keep h0 T580.heap [] := (k598.trans K580q (allS (Or.inr lf12_555) (allS (Or.inr sz569) all0)))
    have o825 : Old Z n0 T580.heap := (o578.keep K580q (allS lf10_555 (allS ge568 all0)))
    have f826 : Exa Z T580.heap b534 cAL := (f593.keep K580q)
    have f827 : Fld Z T580.heap b534 cAL "size" "I" (.int (0 : Int32)) := ((lf8_555.keep K556q (ninS (Ne.symm lf9_555) nin0)).keep K580q (ninS (Ne.symm lf9_555) (ninS ne567 nin0)))
    exact rm_rm0_c0n l Z a0 hw p0 p1 p2 p3 p4 de el ea ca cl v1 v2 v3 v4 v5 h0 n0 zD zN zL zH zC zLE zLF zLN zE1 zV1 zE2 zV2 zE3 zV3 zE4 zV4 zE5 zV5 hA hin1 hat1 hin2 hat2 hin3 hat3 hin4 hat4 hin5 hat5 hx hby hlk hml hown hZ hret T580 _ T580.heap ov b1 b2 b3 xx dd yy b525 b534 b557 b582 X580 e580 N580 z823 k824 o825 f599 f600 f601 f602 f826 f827 f603 f604 f605 f606 f607 lf9_555 ne566 ne567 ne592 ne594 ne595 lf10_555 ge568 ge596 lf12_555 sz569 sz597 hv_ov hv_xx hv_dd hv_yy hsp
set_option maxRecDepth 65536 in
set_option maxHeartbeats 40000000 in
theorem rm_rm0_c1s (l : Launch) (Z : State) (a0 : Array Value) (hw : ∀ d ∈ tables_1, d.before a0 Z = true) (p0 : Int32) (p1 : Int32) (p2 : Int32) (p3 : Int32) (p4 : Int32) (de : Addr) (el : Addr) (ea : Addr) (ca : Addr) (cl : Cell) (v1 : Addr) (v2 : Addr) (v3 : Addr) (v4 : Addr) (v5 : Addr) (h0 : Heap) (n0 : Nat) (zD : Sta Z Z.heap cAL cDE cOA (.ref de)) (zN : Rn Z Z.heap de (0 : Int32)) (zL : Sta Z Z.heap cIM "EMPTY_LIST" "Ljava/util/ImmutableCollections$ListN;" (.ref el)) (zH : Sta Z Z.heap cIC "high" "I" (.int (127 : Int32))) (zC : Sta Z Z.heap cIC "cache" "[Ljava/lang/Integer;" (.ref ca)) (zLE : Exa Z Z.heap el cLN) (zLF : Fld Z Z.heap el cLN "elements" cOA (.ref ea)) (zLN : Rn Z Z.heap ea (0 : Int32)) (zE1 : Exa Z Z.heap v1 cIN) (zV1 : Fld Z Z.heap v1 cIN "value" "I" (.int (1 : Int32))) (zE2 : Exa Z Z.heap v2 cIN) (zV2 : Fld Z Z.heap v2 cIN "value" "I" (.int (2 : Int32))) (zE3 : Exa Z Z.heap v3 cIN) (zV3 : Fld Z Z.heap v3 cIN "value" "I" (.int (3 : Int32))) (zE4 : Exa Z Z.heap v4 cIN) (zV4 : Fld Z Z.heap v4 cIN "value" "I" (.int (4 : Int32))) (zE5 : Exa Z Z.heap v5 cIN) (zV5 : Fld Z Z.heap v5 cIN "value" "I" (.int (5 : Int32))) (hA : Arr Z Z.heap ca cl (.object cIN)) (hin1 : ¬ (((1 : Int32) + (128 : Int32)) < 0 ∨ cl.slots.size ≤ ((1 : Int32) + (128 : Int32)).toNatClampNeg)) (hat1 : cl.slots[((1 : Int32) + (128 : Int32)).toNatClampNeg]? = some (.ref v1)) (hin2 : ¬ (((2 : Int32) + (128 : Int32)) < 0 ∨ cl.slots.size ≤ ((2 : Int32) + (128 : Int32)).toNatClampNeg)) (hat2 : cl.slots[((2 : Int32) + (128 : Int32)).toNatClampNeg]? = some (.ref v2)) (hin3 : ¬ (((3 : Int32) + (128 : Int32)) < 0 ∨ cl.slots.size ≤ ((3 : Int32) + (128 : Int32)).toNatClampNeg)) (hat3 : cl.slots[((3 : Int32) + (128 : Int32)).toNatClampNeg]? = some (.ref v3)) (hin4 : ¬ (((4 : Int32) + (128 : Int32)) < 0 ∨ cl.slots.size ≤ ((4 : Int32) + (128 : Int32)).toNatClampNeg)) (hat4 : cl.slots[((4 : Int32) + (128 : Int32)).toNatClampNeg]? = some (.ref v4)) (hin5 : ¬ (((5 : Int32) + (128 : Int32)) < 0 ∨ cl.slots.size ≤ ((5 : Int32) + (128 : Int32)).toNatClampNeg)) (hat5 : cl.slots[((5 : Int32) + (128 : Int32)).toNatClampNeg]? = some (.ref v5)) {p : Program} {e : Env} {s : State} {m : MethodId} {below : List Frame} {meth : Method} {c : Code} (hx : p.tables.exec = Jvm.exec) (hby : c.code = code) (hlk : meth.locks = false) (hml : c.maxLocals = 26) (hown : s.vm.findClass cLAW = some m.cls) (hZ : Z.Warmed39 s.vm) (hret : meth.sig.returnType = ret) :
    ∀ (T919 : State) (L919 : List Loc) (h919 : Heap) (ov : Int32) (b1 : Int32) (b2 : Int32) (b3 : Int32) (xx : Int32) (dd : Int32) (yy : Int32) (b525 : Addr) (b534 : Addr) (b834 : Addr) (b864 : Addr) (b891 : Addr), Stand p l e room_1 s m #[(.int p0), (.int p1), (.int p2), (.int p3), (.int p4)] below meth c T919 L919 5 29 → T919.heap = h919 → Fr n0 L919 → n0 ≤ h919.size → Keep h0 h919 [] → Old Z n0 h919 → Exa Z h919 b525 cFI → Fld Z h919 b525 cFI "part" "Ljava/util/List;" (.ref b864) → Fld Z h919 b525 cFI "overhead" "I" (.int ov) → Fld Z h919 b525 cFI "partBytes" "J" (.long ((ov.toInt64) + (xx.toInt64))) → Exa Z h919 b534 cAL → Fld Z h919 b534 cAL "elementData" cOA (.ref b834) → Fld Z h919 b534 cAL "size" "I" (.int (1 : Int32)) → Ra Z h919 b834 cOB [(.ref v1), .null, .null, .null, .null, .null, .null, .null, .null, .null] → Exa Z h919 b864 cAL → Fld Z h919 b864 cAB "modCount" "I" (.int ((0 : Int32) + (1 : Int32))) → Fld Z h919 b864 cAL "elementData" cOA (.ref b891) → Fld Z h919 b864 cAL "size" "I" (.int (1 : Int32)) → Ra Z h919 b891 cOB [(.ref v4), .null, .null, .null, .null, .null, .null, .null, .null, .null] → b525 ≠ b534 → b525 ≠ b834 → b525 ≠ b864 → b525 ≠ b891 → n0 ≤ b525 → h0.size ≤ b525 → (p0 &&& (524287 : Int32)) = ov → (p3 &&& (524287 : Int32)) = xx → ((p4 &&& (3 : Int32)) - (1 : Int32)) = dd → (((((1048576 : Int32) - ov) - xx) - (1 : Int32)) + dd) = yy → (0 : Int32) < dd → Go p e below (T919.setTop (mkF m 230 #[vi p0, vi p1, vi p2, vi p3, vi p4, vi ov, vi (1 : Int32), vi b1, vi b2, vi b3, vi xx, vi dd, vi yy, vr v1, vr v2, vr v3, vr v4, vr v5, vr b525, vi (1 : Int32), vr b534, vr el, .unset, .unset, .unset, .unset] [])) (Done s (Q_rm0 Z p0 p1 p2 p3 p4 de el ea ca cl v1 v2 v3 v4 v5 h0 n0) room_1.cells room_1.slots) := by
  intro T919 L919 h919 ov b1 b2 b3 xx dd yy b525 b534 b834 b864 b891 X919 e919 N919 z919 k919 lf0_919 lf1_919 lf2_919 lf3_919 lf4_919 lf5_919 lf7_919 lf8_919 lf9_919 lf10_919 lf11_919 lf12_919 lf13_919 lf14_919 lf15_919 lf16_919 lf18_919 lf21_919 lf25_919 lf30_919 hv_ov hv_xx hv_dd hv_yy hsp
  show Go p e below (T919.setTop (mkF m 230 #[vi p0, vi p1, vi p2, vi p3, vi p4, vi ov, vi (1 : Int32), vi b1, vi b2, vi b3, vi xx, vi dd, vi yy, vr v1, vr v2, vr v3, vr v4, vr v5, vr b525, vi (1 : Int32), vr b534, vr el, .unset, .unset, .unset, .unset] [])) _
  refine Go.via (fun _ => XS.aload X919.here hx rfl (hb hby at_230) rfl rfl) ?_
  refine Go.via (fun _ => XS.aload X919.here hx rfl (hb hby at_232) rfl rfl) ?_
  refine Go.via (fun _ => XS.iload X919.here hx rfl (hb hby at_234) rfl) ?_
  have f920 : Exa Z h919 v5 cIN := zE5.ext lf0_919.2
  obtain ⟨cq921, kq921, q921a, q921b, q921c⟩ := isOf hZ e919 lf1_919
  obtain ⟨r921, _, ⟨T921, L921, k921, n921⟩, -, X921, ⟨Lc921, hQ921, l921, y921, z921⟩, st921⟩ := X919.virtualBack hx (y := (⟨cFI, "add", "(Ljava/lang/Object;I)Ljava/util/List;"⟩ : MethodName)) (z := (⟨cFI, "add", "(Ljava/lang/Object;I)Ljava/util/List;"⟩ : MethodName)) hown (mvT hZ (tw hw 49 rfl)) (mvT hZ (tw hw 50 rfl)) (notFace_of_selects (args := #[]) (mvT hZ (tw hw 52 rfl))) (mvT hZ (tw hw 52 rfl)) (mvT hZ (tw hw 51 rfl)) (by decide) (backOf (W := 0) (rmFs1 l Z a0 hw [] b525 v5 yy b864 ov ((ov.toInt64) + (xx.toInt64)) b891 ((0 : Int32) + (1 : Int32)) el v4 de h919 n0 z919 lf1_919 lf2_919 lf3_919 lf4_919 lf10_919 lf11_919 lf12_919 lf13_919 lf14_919 f920 lf0_919 zL zD zN lf25_919 lf18_919 lf21_919 (own_sp hv_ov hv_xx hv_dd hv_yy hsp)) hZ (tw hw 53 rfl) (tw hw 12 rfl) (by decide) (by decide)) q921a q921c (g := (mkF m 236 #[vi p0, vi p1, vi p2, vi p3, vi p4, vi ov, vi (1 : Int32), vi b1, vi b2, vi b3, vi xx, vi dd, vi yy, vr v1, vr v2, vr v3, vr v4, vr v5, vr b525, vi (1 : Int32), vr b534, vr el, .unset, .unset, .unset, .unset] [(.int yy), (.ref v5), (.ref b525)])) rfl (by rw [hml]; rfl) (Steps.refl _) (argsL := [(.ref v5), (.int yy)]) (rest := []) (lenOf pd__28Ljava_2flang_2fObject_3bI_29Ljava_2futil_2fList_3b rfl) rfl (by show 2 * 0 + _ ≤ _; exact Nat.le_of_eq rfl) (hb hby at_236) (fun _ _ => ⟨rfl, e919, (by decide : 5 + 2 ≤ _), (by decide : 29 + 13 ≤ _)⟩)
  dsimp only [Pt.U, Pt.locs, Pt.cells, Pt.slots] at X921 l921 y921 z921 st921 hQ921
  rw [l921, y921, z921] at X921
  clear l921 y921 z921
  obtain ⟨b922, b923, hr921, N921q, K921q, fz_b922, fz_b923, f924, f925, f926, f927, f928, f929, f930, f931, f932⟩ := hQ921
  rw [hr921] at st921
  clear hr921
  have N921 := Fr.app N919 N921q
  refine Go.via (fun _ kQ => st921.trans kQ) ?_
  clear st921
  have ne933 : b525 ≠ b922 := Nat.ne_of_lt (Nat.lt_of_lt_of_le lf1_919.lt fz_b922)
  have ne934 : b534 ≠ b922 := Nat.ne_of_lt (Nat.lt_of_lt_of_le lf5_919.lt fz_b922)
  have ne935 : b834 ≠ b922 := Nat.ne_of_lt (Nat.lt_of_lt_of_le lf9_919.lt fz_b922)
  have ne936 : b864 ≠ b922 := Nat.ne_of_lt (Nat.lt_of_lt_of_le lf10_919.lt fz_b922)
  have ne937 : b891 ≠ b922 := Nat.ne_of_lt (Nat.lt_of_lt_of_le lf14_919.lt fz_b922)
  have ge938 : n0 ≤ b922 := Nat.le_trans z919 fz_b922
  have sz939 : h0.size ≤ b922 := Nat.le_trans k919.1 fz_b922
  have ne940 : b525 ≠ b923 := Nat.ne_of_lt (Nat.lt_of_lt_of_le lf1_919.lt fz_b923)
  have ne941 : b534 ≠ b923 := Nat.ne_of_lt (Nat.lt_of_lt_of_le lf5_919.lt fz_b923)
  have ne942 : b834 ≠ b923 := Nat.ne_of_lt (Nat.lt_of_lt_of_le lf9_919.lt fz_b923)
  have ne943 : b864 ≠ b923 := Nat.ne_of_lt (Nat.lt_of_lt_of_le lf10_919.lt fz_b923)
  have ne944 : b891 ≠ b923 := Nat.ne_of_lt (Nat.lt_of_lt_of_le lf14_919.lt fz_b923)
  have ge945 : n0 ≤ b923 := Nat.le_trans z919 fz_b923
  have sz946 : h0.size ≤ b923 := Nat.le_trans k919.1 fz_b923
  have e921 : T921.heap = T921.heap := rfl
  have f947 : Exa Z T921.heap b525 cFI := f924
  have f948 : Fld Z T921.heap b525 cFI "part" "Ljava/util/List;" (.ref b922) := f925
  have f949 : Fld Z T921.heap b525 cFI "overhead" "I" (.int ov) := f926
  have f950 : Fld Z T921.heap b525 cFI "partBytes" "J" (.long ((ov.toInt64) + (yy.toInt64))) := f927
  have f951 : Exa Z T921.heap b922 cAL := f928
  have f952 : Fld Z T921.heap b922 cAB "modCount" "I" (.int ((0 : Int32) + (1 : Int32))) := f929
  have f953 : Fld Z T921.heap b922 cAL "elementData" cOA (.ref b923) := f930
  have f954 : Fld Z T921.heap b922 cAL "size" "I" (.int (1 : Int32)) := f931
  have f955 : Ra Z T921.heap b923 cOB [(.ref v5), .null, .null, .null, .null, .null, .null, .null, .null, .null] := f932
  clear X919 e919
  show Go p e below (T921.setTop (mkF m 239 #[vi p0, vi p1, vi p2, vi p3, vi p4, vi ov, vi (1 : Int32), vi b1, vi b2, vi b3, vi xx, vi dd, vi yy, vr v1, vr v2, vr v3, vr v4, vr v5, vr b525, vi (1 : Int32), vr b534, vr el, .unset, .unset, .unset, .unset] [(.ref b864)])) _
  refine Go.via (fun _ => XS.astore X921.here hx rfl (hb hby at_239) rfl rfl (l' := #[vi p0, vi p1, vi p2, vi p3, vi p4, vi ov, vi (1 : Int32), vi b1, vi b2, vi b3, vi xx, vi dd, vi yy, vr v1, vr v2, vr v3, vr v4, vr v5, vr b525, vi (1 : Int32), vr b534, vr el, vr b864, .unset, .unset, .unset]) rfl) ?_
  refine Go.via (fun _ => XS.aload X921.here hx rfl (hb hby at_241) rfl rfl) ?_
  have o956 : Old Z n0 T921.heap := (lf0_919.keep K921q (allS lf25_919 all0))
  have z958 : n0 ≤ T921.heap.size := (Nat.le_trans z919 K921q.1)
  obtain ⟨cq957, kq957, q957a, q957b, q957c⟩ := isOf hZ e921 f947
  obtain ⟨r957, _, ⟨T957, L957, k957, n957⟩, -, X957, ⟨Lc957, hQ957, l957, y957, z957⟩, st957⟩ := X921.virtualBack hx (y := (⟨cFI, "last", "()Ljava/util/List;"⟩ : MethodName)) (z := (⟨cFI, "last", "()Ljava/util/List;"⟩ : MethodName)) hown (mvT hZ (tw hw 116 rfl)) (mvT hZ (tw hw 117 rfl)) (notFace_of_selects (args := #[]) (mvT hZ (tw hw 119 rfl))) (mvT hZ (tw hw 119 rfl)) (mvT hZ (tw hw 118 rfl)) (by decide) (backOf (W := 0) (rmLa l Z a0 hw [] b525 b922 ov ((ov.toInt64) + (yy.toInt64)) de T921.heap n0 z958 f947 f948 f949 f950 o956 zD lf25_919) hZ (tw hw 120 rfl) (tw hw 12 rfl) (by decide) (by decide)) q957a q957c (g := (mkF m 243 #[vi p0, vi p1, vi p2, vi p3, vi p4, vi ov, vi (1 : Int32), vi b1, vi b2, vi b3, vi xx, vi dd, vi yy, vr v1, vr v2, vr v3, vr v4, vr v5, vr b525, vi (1 : Int32), vr b534, vr el, vr b864, .unset, .unset, .unset] [(.ref b525)])) rfl (by rw [hml]; rfl) (Steps.refl _) (argsL := []) (rest := []) (lenOf pd__28_29Ljava_2futil_2fList_3b rfl) rfl (by show 2 * 0 + _ ≤ _; exact Nat.le_of_eq rfl) (hb hby at_243) (fun _ _ => ⟨rfl, e921, (by decide : 7 + 1 ≤ _), (by decide : 42 + 3 ≤ _)⟩)
  dsimp only [Pt.U, Pt.locs, Pt.cells, Pt.slots] at X957 l957 y957 z957 st957 hQ957
  rw [l957, y957, z957] at X957
  clear l957 y957 z957
  obtain ⟨b959, hr957, N957q, K957q, fz_b959, f960, f961, f962, f963, f964, f965, f966, f967⟩ := hQ957
  rw [hr957] at st957
  clear hr957
  have N957 := Fr.app N921 N957q
  refine Go.via (fun _ kQ => st957.trans kQ) ?_
  clear st957
  have ne968 : b525 ≠ b959 := Nat.ne_of_lt (Nat.lt_of_lt_of_le f947.lt fz_b959)
  have f969 : Exa Z T921.heap b534 cAL := (lf5_919.keep K921q)
  have ne970 : b534 ≠ b959 := Nat.ne_of_lt (Nat.lt_of_lt_of_le f969.lt fz_b959)
  have f971 : Ra Z T921.heap b834 cOB [(.ref v1), .null, .null, .null, .null, .null, .null, .null, .null, .null] := (lf9_919.keep K921q (ninS (Ne.symm lf16_919) nin0))
  have ne972 : b834 ≠ b959 := Nat.ne_of_lt (Nat.lt_of_lt_of_le f971.lt fz_b959)
  have f973 : Exa Z T921.heap b864 cAL := (lf10_919.keep K921q)
  have ne974 : b864 ≠ b959 := Nat.ne_of_lt (Nat.lt_of_lt_of_le f973.lt fz_b959)
  have f975 : Ra Z T921.heap b891 cOB [(.ref v4), .null, .null, .null, .null, .null, .null, .null, .null, .null] := (lf14_919.keep K921q (ninS (Ne.symm lf21_919) nin0))
  have ne976 : b891 ≠ b959 := Nat.ne_of_lt (Nat.lt_of_lt_of_le f975.lt fz_b959)
  have ne977 : b922 ≠ b959 := Nat.ne_of_lt (Nat.lt_of_lt_of_le f951.lt fz_b959)
  have ne978 : b923 ≠ b959 := Nat.ne_of_lt (Nat.lt_of_lt_of_le f955.lt fz_b959)
  have ge979 : n0 ≤ b959 := Nat.le_trans z958 fz_b959
  have k981 : Keep h0 T921.heap [] := (k919.trans K921q (allS (Or.inr lf30_919) all0))
  have sz980 : h0.size ≤ b959 := Nat.le_trans k981.1 fz_b959
  have e957 : T957.heap = T957.heap := rfl
  have f982 : Exa Z T957.heap b525 cFI := f960
  have f983 : Fld Z T957.heap b525 cFI "part" "Ljava/util/List;" (.ref b959) := f961
  have f984 : Fld Z T957.heap b525 cFI "overhead" "I" (.int ov) := f962
  have f985 : Fld Z T957.heap b525 cFI "partBytes" "J" (.long (ov.toInt64)) := f963
  have f986 : Exa Z T957.heap b959 cAL := f964
  have f987 : Fld Z T957.heap b959 cAB "modCount" "I" (.int (0 : Int32)) := f965
  have f988 : Fld Z T957.heap b959 cAL "elementData" cOA (.ref de) := f966
  have f989 : Fld Z T957.heap b959 cAL "size" "I" (.int (0 : Int32)) := f967
  clear X921 e921
  show Go p e below (T957.setTop (mkF m 246 #[vi p0, vi p1, vi p2, vi p3, vi p4, vi ov, vi (1 : Int32), vi b1, vi b2, vi b3, vi xx, vi dd, vi yy, vr v1, vr v2, vr v3, vr v4, vr v5, vr b525, vi (1 : Int32), vr b534, vr el, vr b864, .unset, .unset, .unset] [(.ref b922)])) _
  refine Go.via (fun _ => XS.astore X957.here hx rfl (hb hby at_246) rfl rfl (l' := #[vi p0, vi p1, vi p2, vi p3, vi p4, vi ov, vi (1 : Int32), vi b1, vi b2, vi b3, vi xx, vi dd, vi yy, vr v1, vr v2, vr v3, vr v4, vr v5, vr b525, vi (1 : Int32), vr b534, vr el, vr b864, vr b922, .unset, .unset]) rfl) ?_
  refine Go.via (fun _ => XS.aload X957.here hx rfl (hb hby at_248) rfl rfl) ?_
  have o990 : Old Z n0 T957.heap := (o956.keep K957q (allS lf25_919 all0))
  have z992 : n0 ≤ T957.heap.size := (Nat.le_trans z958 K957q.1)
  obtain ⟨cq991, kq991, q991a, q991b, q991c⟩ := isOf hZ e957 f982
  obtain ⟨r991, _, ⟨T991, L991, k991, n991⟩, -, X991, ⟨Lc991, hQ991, l991, y991, z991⟩, st991⟩ := X957.virtualBack hx (y := (⟨cFI, "last", "()Ljava/util/List;"⟩ : MethodName)) (z := (⟨cFI, "last", "()Ljava/util/List;"⟩ : MethodName)) hown (mvT hZ (tw hw 116 rfl)) (mvT hZ (tw hw 117 rfl)) (notFace_of_selects (args := #[]) (mvT hZ (tw hw 119 rfl))) (mvT hZ (tw hw 119 rfl)) (mvT hZ (tw hw 118 rfl)) (by decide) (backOf (W := 0) (rmLa l Z a0 hw [] b525 b959 ov (ov.toInt64) de T957.heap n0 z992 f982 f983 f984 f985 o990 zD lf25_919) hZ (tw hw 120 rfl) (tw hw 12 rfl) (by decide) (by decide)) q991a q991c (g := (mkF m 250 #[vi p0, vi p1, vi p2, vi p3, vi p4, vi ov, vi (1 : Int32), vi b1, vi b2, vi b3, vi xx, vi dd, vi yy, vr v1, vr v2, vr v3, vr v4, vr v5, vr b525, vi (1 : Int32), vr b534, vr el, vr b864, vr b922, .unset, .unset] [(.ref b525)])) rfl (by rw [hml]; rfl) (Steps.refl _) (argsL := []) (rest := []) (lenOf pd__28_29Ljava_2futil_2fList_3b rfl) rfl (by show 2 * 0 + _ ≤ _; exact Nat.le_of_eq rfl) (hb hby at_250) (fun _ _ => ⟨rfl, e957, (by decide : 8 + 1 ≤ _), (by decide : 45 + 3 ≤ _)⟩)
  dsimp only [Pt.U, Pt.locs, Pt.cells, Pt.slots] at X991 l991 y991 z991 st991 hQ991
  rw [l991, y991, z991] at X991
  clear l991 y991 z991
  obtain ⟨b993, hr991, N991q, K991q, fz_b993, f994, f995, f996, f997, f998, f999, f1000, f1001⟩ := hQ991
  rw [hr991] at st991
  clear hr991
  have N991 := Fr.app N957 N991q
  refine Go.via (fun _ kQ => st991.trans kQ) ?_
  clear st991
  have ne1002 : b525 ≠ b993 := Nat.ne_of_lt (Nat.lt_of_lt_of_le f982.lt fz_b993)
  have f1003 : Exa Z T957.heap b534 cAL := (f969.keep K957q)
  have ne1004 : b534 ≠ b993 := Nat.ne_of_lt (Nat.lt_of_lt_of_le f1003.lt fz_b993)
  have f1005 : Ra Z T957.heap b834 cOB [(.ref v1), .null, .null, .null, .null, .null, .null, .null, .null, .null] := (f971.keep K957q (ninS (Ne.symm lf16_919) nin0))
  have ne1006 : b834 ≠ b993 := Nat.ne_of_lt (Nat.lt_of_lt_of_le f1005.lt fz_b993)
  have f1007 : Exa Z T957.heap b864 cAL := (f973.keep K957q)
  have ne1008 : b864 ≠ b993 := Nat.ne_of_lt (Nat.lt_of_lt_of_le f1007.lt fz_b993)
  have f1009 : Ra Z T957.heap b891 cOB [(.ref v4), .null, .null, .null, .null, .null, .null, .null, .null, .null] := (f975.keep K957q (ninS (Ne.symm lf21_919) nin0))
  have ne1010 : b891 ≠ b993 := Nat.ne_of_lt (Nat.lt_of_lt_of_le f1009.lt fz_b993)
  have f1011 : Exa Z T957.heap b922 cAL := (f951.keep K957q)
  have ne1012 : b922 ≠ b993 := Nat.ne_of_lt (Nat.lt_of_lt_of_le f1011.lt fz_b993)
  have f1013 : Ra Z T957.heap b923 cOB [(.ref v5), .null, .null, .null, .null, .null, .null, .null, .null, .null] := (f955.keep K957q (ninS (Ne.symm ne940) nin0))
  have ne1014 : b923 ≠ b993 := Nat.ne_of_lt (Nat.lt_of_lt_of_le f1013.lt fz_b993)
  have ne1015 : b959 ≠ b993 := Nat.ne_of_lt (Nat.lt_of_lt_of_le f986.lt fz_b993)
  have ge1016 : n0 ≤ b993 := Nat.le_trans z992 fz_b993
  have k1018 : Keep h0 T957.heap [] := (k981.trans K957q (allS (Or.inr lf30_919) all0))
  have sz1017 : h0.size ≤ b993 := Nat.le_trans k1018.1 fz_b993
  have e991 : T991.heap = T991.heap := rfl
  have f1019 : Exa Z T991.heap b525 cFI := f994
  have f1020 : Fld Z T991.heap b525 cFI "part" "Ljava/util/List;" (.ref b993) := f995
  have f1021 : Fld Z T991.heap b525 cFI "overhead" "I" (.int ov) := f996
  have f1022 : Fld Z T991.heap b525 cFI "partBytes" "J" (.long (ov.toInt64)) := f997
  have f1023 : Exa Z T991.heap b993 cAL := f998
  have f1024 : Fld Z T991.heap b993 cAB "modCount" "I" (.int (0 : Int32)) := f999
  have f1025 : Fld Z T991.heap b993 cAL "elementData" cOA (.ref de) := f1000
  have f1026 : Fld Z T991.heap b993 cAL "size" "I" (.int (0 : Int32)) := f1001
  clear X957 e957
  show Go p e below (T991.setTop (mkF m 253 #[vi p0, vi p1, vi p2, vi p3, vi p4, vi ov, vi (1 : Int32), vi b1, vi b2, vi b3, vi xx, vi dd, vi yy, vr v1, vr v2, vr v3, vr v4, vr v5, vr b525, vi (1 : Int32), vr b534, vr el, vr b864, vr b922, .unset, .unset] [(.ref b959)])) _
  refine Go.via (fun _ => XS.astore X991.here hx rfl (hb hby at_253) rfl rfl (l' := #[vi p0, vi p1, vi p2, vi p3, vi p4, vi ov, vi (1 : Int32), vi b1, vi b2, vi b3, vi xx, vi dd, vi yy, vr v1, vr v2, vr v3, vr v4, vr v5, vr b525, vi (1 : Int32), vr b534, vr el, vr b864, vr b922, vr b959, .unset]) rfl) ?_
  refine Go.via (fun _ => XS.iload X991.here hx rfl (hb hby at_255) rfl) ?_
  refine Go.via (fun _ => XS.ifNo X991.here hx rfl (hb hby at_257) rfl ((if0 _ _).trans (feq ((by decide) : ¬ ((1 : Int32) = (0 : Int32)))).1)) ?_
  refine Go.via (fun _ => XS.aload X991.here hx rfl (hb hby at_260) rfl rfl) ?_
  have f1027 : Fld Z T991.heap b534 cAL "size" "I" (.int (1 : Int32)) := (((lf8_919.keep K921q (ninS (Ne.symm lf15_919) nin0)).keep K957q (ninS (Ne.symm lf15_919) nin0)).keep K991q (ninS (Ne.symm lf15_919) nin0))
  have z1029 : n0 ≤ T991.heap.size := (Nat.le_trans z992 K991q.1)
  have f1030 : Exa Z T991.heap b534 cAL := (f1003.keep K991q)
  obtain ⟨cq1028, kq1028, q1028a, q1028b, q1028c⟩ := isOf hZ e991 f1030
  obtain ⟨r1028, _, ⟨T1028, L1028, k1028, n1028⟩, -, X1028, ⟨Lc1028, hQ1028, l1028, y1028, z1028⟩, st1028⟩ := X991.interfaceBack hx (xi := (⟨cLI, "size", "()I"⟩ : MethodName)) (y := (⟨cAL, "size", "()I"⟩ : MethodName)) hown (mvT hZ (tw hw 103 rfl)) (mvT hZ (tw hw 104 rfl)) (mvT hZ (tw hw 105 rfl)) (mvT hZ (tw hw 121 rfl)) (mvT hZ (tw hw 122 rfl)) (mvT hZ (tw hw 123 rfl)) (mvT hZ (tw hw 124 rfl)) (mvT hZ (tw hw 67 rfl)) (by decide) (backOf (W := 0) (rmSz l Z a0 hw [] b534 (1 : Int32) T991.heap n0 z1029 f1027) hZ (tw hw 125 rfl) (tw hw 21 rfl) (by decide) (by decide)) q1028a q1028b q1028c (g := (mkF m 262 #[vi p0, vi p1, vi p2, vi p3, vi p4, vi ov, vi (1 : Int32), vi b1, vi b2, vi b3, vi xx, vi dd, vi yy, vr v1, vr v2, vr v3, vr v4, vr v5, vr b525, vi (1 : Int32), vr b534, vr el, vr b864, vr b922, vr b959, .unset] [(.ref b534)])) rfl (by rw [hml]; rfl) (Steps.refl _) (argsL := []) (rest := []) (lenOf pd__28_29I rfl) rfl (by show 2 * 0 + _ ≤ _; exact Nat.le_of_eq rfl) (hb hby at_262) (fun _ _ => ⟨rfl, e991, (by decide : 9 + 0 ≤ _), (by decide : 48 + 0 ≤ _)⟩)
  dsimp only [Pt.U, Pt.locs, Pt.cells, Pt.slots] at X1028 l1028 y1028 z1028 st1028 hQ1028
  rw [l1028, y1028, z1028] at X1028
  clear l1028 y1028 z1028
  obtain ⟨hr1028, N1028q, eh1028⟩ := hQ1028
  rw [hr1028] at st1028
  clear hr1028
  have N1028 := Fr.app N991 N1028q
  refine Go.via (fun _ kQ => st1028.trans kQ) ?_
  clear st1028
  have e1028 : T1028.heap = T991.heap := eh1028
  clear X991 e991
  show Go p e below (T1028.setTop (mkF m 267 #[vi p0, vi p1, vi p2, vi p3, vi p4, vi ov, vi (1 : Int32), vi b1, vi b2, vi b3, vi xx, vi dd, vi yy, vr v1, vr v2, vr v3, vr v4, vr v5, vr b525, vi (1 : Int32), vr b534, vr el, vr b864, vr b922, vr b959, .unset] [(.int (1 : Int32))])) _
  refine Go.via (fun _ => XS.iload X1028.here hx rfl (hb hby at_267) rfl) ?_
  refine Go.via (fun _ => XS.icmpNo X1028.here hx rfl (hb hby at_269) rfl (teq ((by decide) : (1 : Int32) = (1 : Int32))).2) ?_
  refine Go.via (fun _ => XS.iconst X1028.here hx rfl (hb hby at_272)) ?_
  refine Go.via (fun _ => XS.goto X1028.here hx rfl (pc0 := 273) (pc' := 277) rfl (hb hby at_273) (by decide) (by decide)) ?_
  refine Go.via (fun _ => XS.istore X1028.here hx rfl (hb hby at_277) rfl (l' := #[vi p0, vi p1, vi p2, vi p3, vi p4, vi ov, vi (1 : Int32), vi b1, vi b2, vi b3, vi xx, vi dd, vi yy, vr v1, vr v2, vr v3, vr v4, vr v5, vr b525, vi (1 : Int32), vr b534, vr el, vr b864, vr b922, vr b959, .unset]) rfl) ?_
  refine Go.via (fun _ => XS.iload X1028.here hx rfl (hb hby at_279) rfl) ?_
  refine Go.via (fun _ => XS.ifNo X1028.here hx rfl (hb hby at_281) rfl ((if0 _ _).trans (feq ((by decide) : ¬ ((1 : Int32) = (0 : Int32)))).1)) ?_
  show Go p e below (T1028.setTop (mkF m 284 #[vi p0, vi p1, vi p2, vi p3, vi p4, vi ov, vi (1 : Int32), vi b1, vi b2, vi b3, vi xx, vi dd, vi yy, vr v1, vr v2, vr v3, vr v4, vr v5, vr b525, vi (1 : Int32), vr b534, vr el, vr b864, vr b922, vr b959, .unset] [])) _
  refine Go.via (fun _ => XS.iload X1028.here hx rfl (hb hby at_284) rfl) ?_
  refine Go.via (fun _ => XS.iconst X1028.here hx rfl (hb hby at_286)) ?_
  refine Go.via (fun _ => XS.icmpNo X1028.here hx rfl (hb hby at_287) rfl (flt ((by decide) : ¬ ((1 : Int32) < (1 : Int32)))).1) ?_
  refine Go.via (fun _ => XS.aload X1028.here hx rfl (hb hby at_290) rfl rfl) ?_
  refine Go.via (fun _ => XS.iconst X1028.here hx rfl (hb hby at_292)) ?_
  have f1031 : Fld Z T991.heap b534 cAL "elementData" cOA (.ref b834) := (((lf7_919.keep K921q (ninS (Ne.symm lf15_919) nin0)).keep K957q (ninS (Ne.symm lf15_919) nin0)).keep K991q (ninS (Ne.symm lf15_919) nin0))
  have f1032 : Ra Z T991.heap b834 cOB [(.ref v1), .null, .null, .null, .null, .null, .null, .null, .null, .null] := (f1005.keep K991q (ninS (Ne.symm lf16_919) nin0))
  obtain ⟨cq1033, kq1033, q1033a, q1033b, q1033c⟩ := isOf hZ e1028 f1030
  obtain ⟨r1033, _, ⟨T1033, L1033, k1033, n1033⟩, -, X1033, ⟨Lc1033, hQ1033, l1033, y1033, z1033⟩, st1033⟩ := X1028.interfaceBack hx (xi := (⟨cLI, "get", "(I)Ljava/lang/Object;"⟩ : MethodName)) (y := (⟨cAL, "get", "(I)Ljava/lang/Object;"⟩ : MethodName)) hown (mvT hZ (tw hw 126 rfl)) (mvT hZ (tw hw 127 rfl)) (mvT hZ (tw hw 128 rfl)) (mvT hZ (tw hw 129 rfl)) (mvT hZ (tw hw 130 rfl)) (mvT hZ (tw hw 131 rfl)) (mvT hZ (tw hw 132 rfl)) (mvT hZ (tw hw 67 rfl)) (by decide) (backOf (W := 0) (rmGt l Z a0 hw [] b534 (0 : Int32) b834 [(.ref v1), .null, .null, .null, .null, .null, .null, .null, .null, .null] v1 (1 : Int32) T991.heap n0 z1029 f1031 f1027 f1032 f1030 (by first | decide | (simp only [List.length_cons, List.length_nil]; decide) | rfl) (by first | decide | (simp only [List.length_cons, List.length_nil]; decide) | rfl) rfl) hZ (tw hw 133 rfl) (tw hw 21 rfl) (by decide) (by decide)) q1033a q1033b q1033c (g := (mkF m 293 #[vi p0, vi p1, vi p2, vi p3, vi p4, vi ov, vi (1 : Int32), vi b1, vi b2, vi b3, vi xx, vi dd, vi yy, vr v1, vr v2, vr v3, vr v4, vr v5, vr b525, vi (1 : Int32), vr b534, vr el, vr b864, vr b922, vr b959, .unset] [(.int (0 : Int32)), (.ref b534)])) rfl (by rw [hml]; rfl) (Steps.refl _) (argsL := [(.int (0 : Int32))]) (rest := []) (lenOf pd__28I_29Ljava_2flang_2fObject_3b rfl) rfl (by show 2 * 0 + _ ≤ _; exact Nat.le_of_eq rfl) (hb hby at_293) (fun _ _ => ⟨rfl, e1028, (by decide : 9 + 0 ≤ _), (by decide : 48 + 0 ≤ _)⟩)
  dsimp only [Pt.U, Pt.locs, Pt.cells, Pt.slots] at X1033 l1033 y1033 z1033 st1033 hQ1033
  rw [l1033, y1033, z1033] at X1033
  clear l1033 y1033 z1033
  obtain ⟨hr1033, N1033q, eh1033⟩ := hQ1033
  rw [hr1033] at st1033
  clear hr1033
  have N1033 := Fr.app N1028 N1033q
  refine Go.via (fun _ kQ => st1033.trans kQ) ?_
  clear st1033
  have e1033 : T1033.heap = T991.heap := eh1033
  clear X1028 e1028
  show Go p e below (T1033.setTop (mkF m 298 #[vi p0, vi p1, vi p2, vi p3, vi p4, vi ov, vi (1 : Int32), vi b1, vi b2, vi b3, vi xx, vi dd, vi yy, vr v1, vr v2, vr v3, vr v4, vr v5, vr b525, vi (1 : Int32), vr b534, vr el, vr b864, vr b922, vr b959, .unset] [(.ref v1)])) _
  have o1034 : Old Z n0 T991.heap := (o990.keep K991q (allS lf25_919 all0))
  have f1035 : Exa Z T991.heap v1 cIN := zE1.ext o1034.2
  obtain ⟨T1036, X1036, e1036, st1036⟩ := castY X1033 hx hZ hown (tw hw 147 rfl) e1033 (Ins.self f1035) (g := (mkF m 298 #[vi p0, vi p1, vi p2, vi p3, vi p4, vi ov, vi (1 : Int32), vi b1, vi b2, vi b3, vi xx, vi dd, vi yy, vr v1, vr v2, vr v3, vr v4, vr v5, vr b525, vi (1 : Int32), vr b534, vr el, vr b864, vr b922, vr b959, .unset] [(.ref v1)])) rfl rfl (hb hby at_298)
  refine Go.via (st1036) ?_
  clear st1036
  clear X1033 e1033
  show Go p e below (T1036.setTop (mkF m 301 #[vi p0, vi p1, vi p2, vi p3, vi p4, vi ov, vi (1 : Int32), vi b1, vi b2, vi b3, vi xx, vi dd, vi yy, vr v1, vr v2, vr v3, vr v4, vr v5, vr b525, vi (1 : Int32), vr b534, vr el, vr b864, vr b922, vr b959, .unset] [(.ref v1)])) _
  have f1037 : Fld Z T991.heap v1 cIN "value" "I" (.int (1 : Int32)) := zV1.ext o1034.2
  have f1039 : Exa Z T991.heap v1 cIN := zE1.ext o1034.2
  obtain ⟨cq1038, kq1038, q1038a, q1038b, q1038c⟩ := isOf hZ e1036 f1039
  obtain ⟨r1038, _, ⟨T1038, L1038, k1038, n1038⟩, -, X1038, ⟨Lc1038, hQ1038, l1038, y1038, z1038⟩, st1038⟩ := X1036.virtualBack hx (y := (⟨cIN, "intValue", "()I"⟩ : MethodName)) (z := (⟨cIN, "intValue", "()I"⟩ : MethodName)) hown (mvT hZ (tw hw 149 rfl)) (mvT hZ (tw hw 150 rfl)) (notFace_of_selects (args := #[]) (mvT hZ (tw hw 152 rfl))) (mvT hZ (tw hw 152 rfl)) (mvT hZ (tw hw 151 rfl)) (by decide) (backOf (W := 0) (rmIv l Z a0 hw [] v1 (1 : Int32) T991.heap n0 z1029 f1037) hZ (tw hw 153 rfl) (tw hw 5 rfl) (by decide) (by decide)) q1038a q1038c (g := (mkF m 301 #[vi p0, vi p1, vi p2, vi p3, vi p4, vi ov, vi (1 : Int32), vi b1, vi b2, vi b3, vi xx, vi dd, vi yy, vr v1, vr v2, vr v3, vr v4, vr v5, vr b525, vi (1 : Int32), vr b534, vr el, vr b864, vr b922, vr b959, .unset] [(.ref v1)])) rfl (by rw [hml]; rfl) (Steps.refl _) (argsL := []) (rest := []) (lenOf pd__28_29I rfl) rfl (by show 2 * 0 + _ ≤ _; exact Nat.le_of_eq rfl) (hb hby at_301) (fun _ _ => ⟨rfl, e1036, (by decide : 9 + 0 ≤ _), (by decide : 48 + 0 ≤ _)⟩)
  dsimp only [Pt.U, Pt.locs, Pt.cells, Pt.slots] at X1038 l1038 y1038 z1038 st1038 hQ1038
  rw [l1038, y1038, z1038] at X1038
  clear l1038 y1038 z1038
  obtain ⟨hr1038, N1038q, eh1038⟩ := hQ1038
  rw [hr1038] at st1038
  clear hr1038
  have N1038 := Fr.app N1033 N1038q
  refine Go.via (fun _ kQ => st1038.trans kQ) ?_
  clear st1038
  have e1038 : T1038.heap = T991.heap := eh1038
  clear X1036 e1036
  show Go p e below (T1038.setTop (mkF m 304 #[vi p0, vi p1, vi p2, vi p3, vi p4, vi ov, vi (1 : Int32), vi b1, vi b2, vi b3, vi xx, vi dd, vi yy, vr v1, vr v2, vr v3, vr v4, vr v5, vr b525, vi (1 : Int32), vr b534, vr el, vr b864, vr b922, vr b959, .unset] [(.int (1 : Int32))])) _
  refine Go.via (fun _ => XS.iconst X1038.here hx rfl (hb hby at_304)) ?_
  refine Go.via (fun _ => XS.icmpNo X1038.here hx rfl (hb hby at_305) rfl (teq ((by decide) : (1 : Int32) = (1 : Int32))).2) ?_
  refine Go.via (fun _ => XS.iconst X1038.here hx rfl (hb hby at_308)) ?_
  refine Go.via (fun _ => XS.goto X1038.here hx rfl (pc0 := 309) (pc' := 313) rfl (hb hby at_309) (by decide) (by decide)) ?_
  refine Go.via (fun _ => XS.istore X1038.here hx rfl (hb hby at_313) rfl (l' := #[vi p0, vi p1, vi p2, vi p3, vi p4, vi ov, vi (1 : Int32), vi b1, vi b2, vi b3, vi xx, vi dd, vi yy, vr v1, vr v2, vr v3, vr v4, vr v5, vr b525, vi (1 : Int32), vr b534, vr el, vr b864, vr b922, vr b959, .unset]) rfl) ?_
  refine Go.via (fun _ => XS.iload X1038.here hx rfl (hb hby at_315) rfl) ?_
  refine Go.via (fun _ => XS.ifNo X1038.here hx rfl (hb hby at_317) rfl ((if0 _ _).trans (feq ((by decide) : ¬ ((1 : Int32) = (0 : Int32)))).1)) ?_
  show Go p e below (T1038.setTop (mkF m 320 #[vi p0, vi p1, vi p2, vi p3, vi p4, vi ov, vi (1 : Int32), vi b1, vi b2, vi b3, vi xx, vi dd, vi yy, vr v1, vr v2, vr v3, vr v4, vr v5, vr b525, vi (1 : Int32), vr b534, vr el, vr b864, vr b922, vr b959, .unset] [])) _
  refine Go.via (fun _ => XS.iload X1038.here hx rfl (hb hby at_320) rfl) ?_
  refine Go.via (fun _ => XS.iconst X1038.here hx rfl (hb hby at_322)) ?_
  refine Go.via (fun _ => XS.icmpYes X1038.here hx rfl (pc0 := 323) (pc' := 351) rfl (hb hby at_323) rfl (tlt ((by decide) : (1 : Int32) < (2 : Int32))).1 (by decide) (by decide)) ?_
  refine Go.via (fun _ => XS.iload X1038.here hx rfl (hb hby at_351) rfl) ?_
  refine Go.via (fun _ => XS.ifNo X1038.here hx rfl (hb hby at_353) rfl ((if0 _ _).trans (feq ((by decide) : ¬ ((1 : Int32) = (0 : Int32)))).1)) ?_
  refine Go.via (fun _ => XS.iload X1038.here hx rfl (hb hby at_356) rfl) ?_
  refine Go.via (fun _ => XS.iconst X1038.here hx rfl (hb hby at_358)) ?_
  show Go p e below (T1038.setTop (mkF m 359 #[vi p0, vi p1, vi p2, vi p3, vi p4, vi ov, vi (1 : Int32), vi b1, vi b2, vi b3, vi xx, vi dd, vi yy, vr v1, vr v2, vr v3, vr v4, vr v5, vr b525, vi (1 : Int32), vr b534, vr el, vr b864, vr b922, vr b959, .unset] [(.int (3 : Int32)), (.int (1 : Int32))])) _
  refine Go.via (fun _ => XS.icmpYes X1038.here hx rfl (pc0 := 359) (pc' := 387) rfl (hb hby at_359) rfl (tlt ((by decide) : (1 : Int32) < (3 : Int32))).1 (by decide) (by decide)) ?_
  have X1038m := X1038.more (by decide : _ ≤ 13) (by decide : _ ≤ 61)
  have f1040 : Exa Z T991.heap b959 cAL := (f986.keep K991q)
  have f1041 : Fld Z T991.heap b959 cAL "size" "I" (.int (0 : Int32)) := (f989.keep K991q (ninS (Ne.symm ne968) nin0))
  have f1042 : Exa Z T991.heap b864 cAL := (f1007.keep K991q)
  have f1043 : Fld Z T991.heap b864 cAL "size" "I" (.int (1 : Int32)) := (((lf13_919.keep K921q (ninS (Ne.symm lf18_919) nin0)).keep K957q (ninS (Ne.symm lf18_919) nin0)).keep K991q (ninS (Ne.symm lf18_919) nin0))
  have f1044 : Fld Z T991.heap b864 cAL "elementData" cOA (.ref b891) := (((lf12_919.keep K921q (ninS (Ne.symm lf18_919) nin0)).keep K957q (ninS (Ne.symm lf18_919) nin0)).keep K991q (ninS (Ne.symm lf18_919) nin0))
  have f1045 : Ra Z T991.heap b891 cOB [(.ref v4), .null, .null, .null, .null, .null, .null, .null, .null, .null] := (f1009.keep K991q (ninS (Ne.symm lf21_919) nin0))
  have f1046 : Exa Z T991.heap b922 cAL := (f1011.keep K991q)
  have f1047 : Fld Z T991.heap b922 cAL "size" "I" (.int (1 : Int32)) := ((f954.keep K957q (ninS (Ne.symm ne933) nin0)).keep K991q (ninS (Ne.symm ne933) nin0))
  have f1048 : Fld Z T991.heap b922 cAL "elementData" cOA (.ref b923) := ((f953.keep K957q (ninS (Ne.symm ne933) nin0)).keep K991q (ninS (Ne.symm ne933) nin0))
  have f1049 : Ra Z T991.heap b923 cOB [(.ref v5), .null, .null, .null, .null, .null, .null, .null, .null, .null] := (f1013.keep K991q (ninS (Ne.symm ne940) nin0))
  have k1050 : Keep h0 T991.heap [] := (k1018.trans K991q (allS (Or.inr lf30_919) all0))
  exact rm_rm0_JS l Z a0 hw p0 p1 p2 p3 p4 de el ea ca cl v1 v2 v3 v4 v5 h0 n0 zD zN zL zH zC zLE zLF zLN zE1 zV1 zE2 zV2 zE3 zV3 zE4 zV4 zE5 zV5 hA hin1 hat1 hin2 hat2 hin3 hat3 hin4 hat4 hin5 hat5 hx hby hlk hml hown hZ hret T1038 _ T991.heap ov b1 b2 b3 xx dd yy (1 : Int32) b525 b534 b864 b959 b891 b922 b923 X1038m e1038 N1038 z1029 k1050 f1030 f1027 f1040 f1041 o1034 f1042 f1043 f1044 f1045 f1046 f1047 f1048 f1049 hsp
set_option maxRecDepth 65536 in
set_option maxHeartbeats 40000000 in
theorem rm_rm0_c1n (l : Launch) (Z : State) (a0 : Array Value) (hw : ∀ d ∈ tables_1, d.before a0 Z = true) (p0 : Int32) (p1 : Int32) (p2 : Int32) (p3 : Int32) (p4 : Int32) (de : Addr) (el : Addr) (ea : Addr) (ca : Addr) (cl : Cell) (v1 : Addr) (v2 : Addr) (v3 : Addr) (v4 : Addr) (v5 : Addr) (h0 : Heap) (n0 : Nat) (zD : Sta Z Z.heap cAL cDE cOA (.ref de)) (zN : Rn Z Z.heap de (0 : Int32)) (zL : Sta Z Z.heap cIM "EMPTY_LIST" "Ljava/util/ImmutableCollections$ListN;" (.ref el)) (zH : Sta Z Z.heap cIC "high" "I" (.int (127 : Int32))) (zC : Sta Z Z.heap cIC "cache" "[Ljava/lang/Integer;" (.ref ca)) (zLE : Exa Z Z.heap el cLN) (zLF : Fld Z Z.heap el cLN "elements" cOA (.ref ea)) (zLN : Rn Z Z.heap ea (0 : Int32)) (zE1 : Exa Z Z.heap v1 cIN) (zV1 : Fld Z Z.heap v1 cIN "value" "I" (.int (1 : Int32))) (zE2 : Exa Z Z.heap v2 cIN) (zV2 : Fld Z Z.heap v2 cIN "value" "I" (.int (2 : Int32))) (zE3 : Exa Z Z.heap v3 cIN) (zV3 : Fld Z Z.heap v3 cIN "value" "I" (.int (3 : Int32))) (zE4 : Exa Z Z.heap v4 cIN) (zV4 : Fld Z Z.heap v4 cIN "value" "I" (.int (4 : Int32))) (zE5 : Exa Z Z.heap v5 cIN) (zV5 : Fld Z Z.heap v5 cIN "value" "I" (.int (5 : Int32))) (hA : Arr Z Z.heap ca cl (.object cIN)) (hin1 : ¬ (((1 : Int32) + (128 : Int32)) < 0 ∨ cl.slots.size ≤ ((1 : Int32) + (128 : Int32)).toNatClampNeg)) (hat1 : cl.slots[((1 : Int32) + (128 : Int32)).toNatClampNeg]? = some (.ref v1)) (hin2 : ¬ (((2 : Int32) + (128 : Int32)) < 0 ∨ cl.slots.size ≤ ((2 : Int32) + (128 : Int32)).toNatClampNeg)) (hat2 : cl.slots[((2 : Int32) + (128 : Int32)).toNatClampNeg]? = some (.ref v2)) (hin3 : ¬ (((3 : Int32) + (128 : Int32)) < 0 ∨ cl.slots.size ≤ ((3 : Int32) + (128 : Int32)).toNatClampNeg)) (hat3 : cl.slots[((3 : Int32) + (128 : Int32)).toNatClampNeg]? = some (.ref v3)) (hin4 : ¬ (((4 : Int32) + (128 : Int32)) < 0 ∨ cl.slots.size ≤ ((4 : Int32) + (128 : Int32)).toNatClampNeg)) (hat4 : cl.slots[((4 : Int32) + (128 : Int32)).toNatClampNeg]? = some (.ref v4)) (hin5 : ¬ (((5 : Int32) + (128 : Int32)) < 0 ∨ cl.slots.size ≤ ((5 : Int32) + (128 : Int32)).toNatClampNeg)) (hat5 : cl.slots[((5 : Int32) + (128 : Int32)).toNatClampNeg]? = some (.ref v5)) {p : Program} {e : Env} {s : State} {m : MethodId} {below : List Frame} {meth : Method} {c : Code} (hx : p.tables.exec = Jvm.exec) (hby : c.code = code) (hlk : meth.locks = false) (hml : c.maxLocals = 26) (hown : s.vm.findClass cLAW = some m.cls) (hZ : Z.Warmed39 s.vm) (hret : meth.sig.returnType = ret) :
    ∀ (T1058 : State) (L1058 : List Loc) (h1058 : Heap) (ov : Int32) (b1 : Int32) (b2 : Int32) (b3 : Int32) (xx : Int32) (dd : Int32) (yy : Int32) (b525 : Addr) (b534 : Addr) (b834 : Addr) (b864 : Addr) (b891 : Addr), Stand p l e room_1 s m #[(.int p0), (.int p1), (.int p2), (.int p3), (.int p4)] below meth c T1058 L1058 5 29 → T1058.heap = h1058 → Fr n0 L1058 → n0 ≤ h1058.size → Keep h0 h1058 [] → Old Z n0 h1058 → Exa Z h1058 b525 cFI → Fld Z h1058 b525 cFI "part" "Ljava/util/List;" (.ref b864) → Fld Z h1058 b525 cFI "overhead" "I" (.int ov) → Fld Z h1058 b525 cFI "partBytes" "J" (.long ((ov.toInt64) + (xx.toInt64))) → Exa Z h1058 b534 cAL → Fld Z h1058 b534 cAL "elementData" cOA (.ref b834) → Fld Z h1058 b534 cAL "size" "I" (.int (1 : Int32)) → Ra Z h1058 b834 cOB [(.ref v1), .null, .null, .null, .null, .null, .null, .null, .null, .null] → Exa Z h1058 b864 cAL → Fld Z h1058 b864 cAB "modCount" "I" (.int ((0 : Int32) + (1 : Int32))) → Fld Z h1058 b864 cAL "elementData" cOA (.ref b891) → Fld Z h1058 b864 cAL "size" "I" (.int (1 : Int32)) → Ra Z h1058 b891 cOB [(.ref v4), .null, .null, .null, .null, .null, .null, .null, .null, .null] → b525 ≠ b534 → b525 ≠ b834 → b525 ≠ b864 → b534 ≠ b864 → b834 ≠ b864 → b525 ≠ b891 → b534 ≠ b891 → b834 ≠ b891 → b864 ≠ b891 → n0 ≤ b525 → n0 ≤ b864 → n0 ≤ b891 → h0.size ≤ b525 → h0.size ≤ b864 → h0.size ≤ b891 → (p0 &&& (524287 : Int32)) = ov → (p3 &&& (524287 : Int32)) = xx → ((p4 &&& (3 : Int32)) - (1 : Int32)) = dd → (((((1048576 : Int32) - ov) - xx) - (1 : Int32)) + dd) = yy → ¬ (0 : Int32) < dd → Go p e below (T1058.setTop (mkF m 230 #[vi p0, vi p1, vi p2, vi p3, vi p4, vi ov, vi (1 : Int32), vi b1, vi b2, vi b3, vi xx, vi dd, vi yy, vr v1, vr v2, vr v3, vr v4, vr v5, vr b525, vi (1 : Int32), vr b534, vr el, .unset, .unset, .unset, .unset] [])) (Done s (Q_rm0 Z p0 p1 p2 p3 p4 de el ea ca cl v1 v2 v3 v4 v5 h0 n0) room_1.cells room_1.slots) := by
  intro T1058 L1058 h1058 ov b1 b2 b3 xx dd yy b525 b534 b834 b864 b891 X1058 e1058 N1058 z1058 k1058 lf0_1058 lf1_1058 lf2_1058 lf3_1058 lf4_1058 lf5_1058 lf7_1058 lf8_1058 lf9_1058 lf10_1058 lf11_1058 lf12_1058 lf13_1058 lf14_1058 lf15_1058 lf16_1058 lf18_1058 lf19_1058 lf20_1058 lf21_1058 lf22_1058 lf23_1058 lf24_1058 lf25_1058 lf28_1058 lf29_1058 lf30_1058 lf33_1058 lf34_1058 hv_ov hv_xx hv_dd hv_yy hsp
  show Go p e below (T1058.setTop (mkF m 230 #[vi p0, vi p1, vi p2, vi p3, vi p4, vi ov, vi (1 : Int32), vi b1, vi b2, vi b3, vi xx, vi dd, vi yy, vr v1, vr v2, vr v3, vr v4, vr v5, vr b525, vi (1 : Int32), vr b534, vr el, .unset, .unset, .unset, .unset] [])) _
  refine Go.via (fun _ => XS.aload X1058.here hx rfl (hb hby at_230) rfl rfl) ?_
  refine Go.via (fun _ => XS.aload X1058.here hx rfl (hb hby at_232) rfl rfl) ?_
  refine Go.via (fun _ => XS.iload X1058.here hx rfl (hb hby at_234) rfl) ?_
  have f1059 : Exa Z h1058 v5 cIN := zE5.ext lf0_1058.2
  obtain ⟨cq1060, kq1060, q1060a, q1060b, q1060c⟩ := isOf hZ e1058 lf1_1058
  obtain ⟨r1060, _, ⟨T1060, L1060, k1060, n1060⟩, -, X1060, ⟨Lc1060, hQ1060, l1060, y1060, z1060⟩, st1060⟩ := X1058.virtualBack hx (y := (⟨cFI, "add", "(Ljava/lang/Object;I)Ljava/util/List;"⟩ : MethodName)) (z := (⟨cFI, "add", "(Ljava/lang/Object;I)Ljava/util/List;"⟩ : MethodName)) hown (mvT hZ (tw hw 49 rfl)) (mvT hZ (tw hw 50 rfl)) (notFace_of_selects (args := #[]) (mvT hZ (tw hw 52 rfl))) (mvT hZ (tw hw 52 rfl)) (mvT hZ (tw hw 51 rfl)) (by decide) (backOf (W := 0) (rmFa1 l Z a0 hw [] b525 v5 yy b864 ov ((ov.toInt64) + (xx.toInt64)) b891 ((0 : Int32) + (1 : Int32)) el v4 h1058 n0 z1058 lf1_1058 lf2_1058 lf3_1058 lf4_1058 lf10_1058 lf11_1058 lf12_1058 lf13_1058 lf14_1058 f1059 lf0_1058 zL lf25_1058 lf28_1058 lf29_1058 lf18_1058 lf21_1058 lf24_1058 (own_nsp hv_ov hv_xx hv_dd hv_yy hsp)) hZ (tw hw 53 rfl) (tw hw 12 rfl) (by decide) (by decide)) q1060a q1060c (g := (mkF m 236 #[vi p0, vi p1, vi p2, vi p3, vi p4, vi ov, vi (1 : Int32), vi b1, vi b2, vi b3, vi xx, vi dd, vi yy, vr v1, vr v2, vr v3, vr v4, vr v5, vr b525, vi (1 : Int32), vr b534, vr el, .unset, .unset, .unset, .unset] [(.int yy), (.ref v5), (.ref b525)])) rfl (by rw [hml]; rfl) (Steps.refl _) (argsL := [(.ref v5), (.int yy)]) (rest := []) (lenOf pd__28Ljava_2flang_2fObject_3bI_29Ljava_2futil_2fList_3b rfl) rfl (by show 2 * 0 + _ ≤ _; exact Nat.le_of_eq rfl) (hb hby at_236) (fun _ _ => ⟨rfl, e1058, (by decide : 5 + 0 ≤ _), (by decide : 29 + 0 ≤ _)⟩)
  dsimp only [Pt.U, Pt.locs, Pt.cells, Pt.slots] at X1060 l1060 y1060 z1060 st1060 hQ1060
  rw [l1060, y1060, z1060] at X1060
  clear l1060 y1060 z1060
  obtain ⟨hr1060, N1060q, K1060q, f1061, f1062, f1063, f1064, f1065, f1066, f1067, f1068, f1069⟩ := hQ1060
  rw [hr1060] at st1060
  clear hr1060
  have N1060 := Fr.app N1058 N1060q
  refine Go.via (fun _ kQ => st1060.trans kQ) ?_
  clear st1060
  have e1060 : T1060.heap = T1060.heap := rfl
  have f1070 : Exa Z T1060.heap b525 cFI := f1061
  have f1071 : Fld Z T1060.heap b525 cFI "part" "Ljava/util/List;" (.ref b864) := f1062
  have f1072 : Fld Z T1060.heap b525 cFI "overhead" "I" (.int ov) := f1063
  have f1073 : Fld Z T1060.heap b525 cFI "partBytes" "J" (.long (((ov.toInt64) + (xx.toInt64)) + (((1 : Int32) + yy).toInt64))) := f1064
  have f1074 : Exa Z T1060.heap b864 cAL := f1065
  have f1075 : Fld Z T1060.heap b864 cAB "modCount" "I" (.int (((0 : Int32) + (1 : Int32)) + (1 : Int32))) := f1066
  have f1076 : Fld Z T1060.heap b864 cAL "elementData" cOA (.ref b891) := f1067
  have f1077 : Fld Z T1060.heap b864 cAL "size" "I" (.int (2 : Int32)) := f1068
  have f1078 : Ra Z T1060.heap b891 cOB [(.ref v4), (.ref v5), .null, .null, .null, .null, .null, .null, .null, .null] := f1069
  clear X1058 e1058
  show Go p e below (T1060.setTop (mkF m 239 #[vi p0, vi p1, vi p2, vi p3, vi p4, vi ov, vi (1 : Int32), vi b1, vi b2, vi b3, vi xx, vi dd, vi yy, vr v1, vr v2, vr v3, vr v4, vr v5, vr b525, vi (1 : Int32), vr b534, vr el, .unset, .unset, .unset, .unset] [(.ref el)])) _
  refine Go.via (fun _ => XS.astore X1060.here hx rfl (hb hby at_239) rfl rfl (l' := #[vi p0, vi p1, vi p2, vi p3, vi p4, vi ov, vi (1 : Int32), vi b1, vi b2, vi b3, vi xx, vi dd, vi yy, vr v1, vr v2, vr v3, vr v4, vr v5, vr b525, vi (1 : Int32), vr b534, vr el, vr el, .unset, .unset, .unset]) rfl) ?_
  refine Go.via (fun _ => XS.aload X1060.here hx rfl (hb hby at_241) rfl rfl) ?_
  have o1079 : Old Z n0 T1060.heap := (lf0_1058.keep K1060q (allS lf25_1058 (allS lf28_1058 (allS lf29_1058 all0))))
  have z1081 : n0 ≤ T1060.heap.size := (Nat.le_trans z1058 K1060q.1)
  obtain ⟨cq1080, kq1080, q1080a, q1080b, q1080c⟩ := isOf hZ e1060 f1070
  obtain ⟨r1080, _, ⟨T1080, L1080, k1080, n1080⟩, -, X1080, ⟨Lc1080, hQ1080, l1080, y1080, z1080⟩, st1080⟩ := X1060.virtualBack hx (y := (⟨cFI, "last", "()Ljava/util/List;"⟩ : MethodName)) (z := (⟨cFI, "last", "()Ljava/util/List;"⟩ : MethodName)) hown (mvT hZ (tw hw 116 rfl)) (mvT hZ (tw hw 117 rfl)) (notFace_of_selects (args := #[]) (mvT hZ (tw hw 119 rfl))) (mvT hZ (tw hw 119 rfl)) (mvT hZ (tw hw 118 rfl)) (by decide) (backOf (W := 0) (rmLa l Z a0 hw [] b525 b864 ov (((ov.toInt64) + (xx.toInt64)) + (((1 : Int32) + yy).toInt64)) de T1060.heap n0 z1081 f1070 f1071 f1072 f1073 o1079 zD lf25_1058) hZ (tw hw 120 rfl) (tw hw 12 rfl) (by decide) (by decide)) q1080a q1080c (g := (mkF m 243 #[vi p0, vi p1, vi p2, vi p3, vi p4, vi ov, vi (1 : Int32), vi b1, vi b2, vi b3, vi xx, vi dd, vi yy, vr v1, vr v2, vr v3, vr v4, vr v5, vr b525, vi (1 : Int32), vr b534, vr el, vr el, .unset, .unset, .unset] [(.ref b525)])) rfl (by rw [hml]; rfl) (Steps.refl _) (argsL := []) (rest := []) (lenOf pd__28_29Ljava_2futil_2fList_3b rfl) rfl (by show 2 * 0 + _ ≤ _; exact Nat.le_of_eq rfl) (hb hby at_243) (fun _ _ => ⟨rfl, e1060, (by decide : 5 + 1 ≤ _), (by decide : 29 + 3 ≤ _)⟩)
  dsimp only [Pt.U, Pt.locs, Pt.cells, Pt.slots] at X1080 l1080 y1080 z1080 st1080 hQ1080
  rw [l1080, y1080, z1080] at X1080
  clear l1080 y1080 z1080
  obtain ⟨b1082, hr1080, N1080q, K1080q, fz_b1082, f1083, f1084, f1085, f1086, f1087, f1088, f1089, f1090⟩ := hQ1080
  rw [hr1080] at st1080
  clear hr1080
  have N1080 := Fr.app N1060 N1080q
  refine Go.via (fun _ kQ => st1080.trans kQ) ?_
  clear st1080
  have ne1091 : b525 ≠ b1082 := Nat.ne_of_lt (Nat.lt_of_lt_of_le f1070.lt fz_b1082)
  have f1092 : Exa Z T1060.heap b534 cAL := (lf5_1058.keep K1060q)
  have ne1093 : b534 ≠ b1082 := Nat.ne_of_lt (Nat.lt_of_lt_of_le f1092.lt fz_b1082)
  have f1094 : Ra Z T1060.heap b834 cOB [(.ref v1), .null, .null, .null, .null, .null, .null, .null, .null, .null] := (lf9_1058.keep K1060q (ninS (Ne.symm lf16_1058) (ninS lf20_1058 (ninS lf23_1058 nin0))))
  have ne1095 : b834 ≠ b1082 := Nat.ne_of_lt (Nat.lt_of_lt_of_le f1094.lt fz_b1082)
  have ne1096 : b864 ≠ b1082 := Nat.ne_of_lt (Nat.lt_of_lt_of_le f1074.lt fz_b1082)
  have ne1097 : b891 ≠ b1082 := Nat.ne_of_lt (Nat.lt_of_lt_of_le f1078.lt fz_b1082)
  have ge1098 : n0 ≤ b1082 := Nat.le_trans z1081 fz_b1082
  have k1100 : Keep h0 T1060.heap [] := (k1058.trans K1060q (allS (Or.inr lf30_1058) (allS (Or.inr lf33_1058) (allS (Or.inr lf34_1058) all0))))
  have sz1099 : h0.size ≤ b1082 := Nat.le_trans k1100.1 fz_b1082
  have e1080 : T1080.heap = T1080.heap := rfl
  have f1101 : Exa Z T1080.heap b525 cFI := f1083
  have f1102 : Fld Z T1080.heap b525 cFI "part" "Ljava/util/List;" (.ref b1082) := f1084
  have f1103 : Fld Z T1080.heap b525 cFI "overhead" "I" (.int ov) := f1085
  have f1104 : Fld Z T1080.heap b525 cFI "partBytes" "J" (.long (ov.toInt64)) := f1086
  have f1105 : Exa Z T1080.heap b1082 cAL := f1087
  have f1106 : Fld Z T1080.heap b1082 cAB "modCount" "I" (.int (0 : Int32)) := f1088
  have f1107 : Fld Z T1080.heap b1082 cAL "elementData" cOA (.ref de) := f1089
  have f1108 : Fld Z T1080.heap b1082 cAL "size" "I" (.int (0 : Int32)) := f1090
  clear X1060 e1060
  show Go p e below (T1080.setTop (mkF m 246 #[vi p0, vi p1, vi p2, vi p3, vi p4, vi ov, vi (1 : Int32), vi b1, vi b2, vi b3, vi xx, vi dd, vi yy, vr v1, vr v2, vr v3, vr v4, vr v5, vr b525, vi (1 : Int32), vr b534, vr el, vr el, .unset, .unset, .unset] [(.ref b864)])) _
  refine Go.via (fun _ => XS.astore X1080.here hx rfl (hb hby at_246) rfl rfl (l' := #[vi p0, vi p1, vi p2, vi p3, vi p4, vi ov, vi (1 : Int32), vi b1, vi b2, vi b3, vi xx, vi dd, vi yy, vr v1, vr v2, vr v3, vr v4, vr v5, vr b525, vi (1 : Int32), vr b534, vr el, vr el, vr b864, .unset, .unset]) rfl) ?_
  refine Go.via (fun _ => XS.aload X1080.here hx rfl (hb hby at_248) rfl rfl) ?_
  have o1109 : Old Z n0 T1080.heap := (o1079.keep K1080q (allS lf25_1058 all0))
  have z1111 : n0 ≤ T1080.heap.size := (Nat.le_trans z1081 K1080q.1)
  obtain ⟨cq1110, kq1110, q1110a, q1110b, q1110c⟩ := isOf hZ e1080 f1101
  obtain ⟨r1110, _, ⟨T1110, L1110, k1110, n1110⟩, -, X1110, ⟨Lc1110, hQ1110, l1110, y1110, z1110⟩, st1110⟩ := X1080.virtualBack hx (y := (⟨cFI, "last", "()Ljava/util/List;"⟩ : MethodName)) (z := (⟨cFI, "last", "()Ljava/util/List;"⟩ : MethodName)) hown (mvT hZ (tw hw 116 rfl)) (mvT hZ (tw hw 117 rfl)) (notFace_of_selects (args := #[]) (mvT hZ (tw hw 119 rfl))) (mvT hZ (tw hw 119 rfl)) (mvT hZ (tw hw 118 rfl)) (by decide) (backOf (W := 0) (rmLa l Z a0 hw [] b525 b1082 ov (ov.toInt64) de T1080.heap n0 z1111 f1101 f1102 f1103 f1104 o1109 zD lf25_1058) hZ (tw hw 120 rfl) (tw hw 12 rfl) (by decide) (by decide)) q1110a q1110c (g := (mkF m 250 #[vi p0, vi p1, vi p2, vi p3, vi p4, vi ov, vi (1 : Int32), vi b1, vi b2, vi b3, vi xx, vi dd, vi yy, vr v1, vr v2, vr v3, vr v4, vr v5, vr b525, vi (1 : Int32), vr b534, vr el, vr el, vr b864, .unset, .unset] [(.ref b525)])) rfl (by rw [hml]; rfl) (Steps.refl _) (argsL := []) (rest := []) (lenOf pd__28_29Ljava_2futil_2fList_3b rfl) rfl (by show 2 * 0 + _ ≤ _; exact Nat.le_of_eq rfl) (hb hby at_250) (fun _ _ => ⟨rfl, e1080, (by decide : 6 + 1 ≤ _), (by decide : 32 + 3 ≤ _)⟩)
  dsimp only [Pt.U, Pt.locs, Pt.cells, Pt.slots] at X1110 l1110 y1110 z1110 st1110 hQ1110
  rw [l1110, y1110, z1110] at X1110
  clear l1110 y1110 z1110
  obtain ⟨b1112, hr1110, N1110q, K1110q, fz_b1112, f1113, f1114, f1115, f1116, f1117, f1118, f1119, f1120⟩ := hQ1110
  rw [hr1110] at st1110
  clear hr1110
  have N1110 := Fr.app N1080 N1110q
  refine Go.via (fun _ kQ => st1110.trans kQ) ?_
  clear st1110
  have ne1121 : b1082 ≠ b1112 := Nat.ne_of_lt (Nat.lt_of_lt_of_le f1105.lt fz_b1112)
  have ne1122 : b525 ≠ b1112 := Nat.ne_of_lt (Nat.lt_of_lt_of_le f1101.lt fz_b1112)
  have f1123 : Exa Z T1080.heap b534 cAL := (f1092.keep K1080q)
  have ne1124 : b534 ≠ b1112 := Nat.ne_of_lt (Nat.lt_of_lt_of_le f1123.lt fz_b1112)
  have f1125 : Ra Z T1080.heap b834 cOB [(.ref v1), .null, .null, .null, .null, .null, .null, .null, .null, .null] := (f1094.keep K1080q (ninS (Ne.symm lf16_1058) nin0))
  have ne1126 : b834 ≠ b1112 := Nat.ne_of_lt (Nat.lt_of_lt_of_le f1125.lt fz_b1112)
  have f1127 : Exa Z T1080.heap b864 cAL := (f1074.keep K1080q)
  have ne1128 : b864 ≠ b1112 := Nat.ne_of_lt (Nat.lt_of_lt_of_le f1127.lt fz_b1112)
  have f1129 : Ra Z T1080.heap b891 cOB [(.ref v4), (.ref v5), .null, .null, .null, .null, .null, .null, .null, .null] := (f1078.keep K1080q (ninS (Ne.symm lf21_1058) nin0))
  have ne1130 : b891 ≠ b1112 := Nat.ne_of_lt (Nat.lt_of_lt_of_le f1129.lt fz_b1112)
  have ge1131 : n0 ≤ b1112 := Nat.le_trans z1111 fz_b1112
  have k1133 : Keep h0 T1080.heap [] := (k1100.trans K1080q (allS (Or.inr lf30_1058) all0))
  have sz1132 : h0.size ≤ b1112 := Nat.le_trans k1133.1 fz_b1112
  have e1110 : T1110.heap = T1110.heap := rfl
  have f1134 : Exa Z T1110.heap b525 cFI := f1113
  have f1135 : Fld Z T1110.heap b525 cFI "part" "Ljava/util/List;" (.ref b1112) := f1114
  have f1136 : Fld Z T1110.heap b525 cFI "overhead" "I" (.int ov) := f1115
  have f1137 : Fld Z T1110.heap b525 cFI "partBytes" "J" (.long (ov.toInt64)) := f1116
  have f1138 : Exa Z T1110.heap b1112 cAL := f1117
  have f1139 : Fld Z T1110.heap b1112 cAB "modCount" "I" (.int (0 : Int32)) := f1118
  have f1140 : Fld Z T1110.heap b1112 cAL "elementData" cOA (.ref de) := f1119
  have f1141 : Fld Z T1110.heap b1112 cAL "size" "I" (.int (0 : Int32)) := f1120
  clear X1080 e1080
  show Go p e below (T1110.setTop (mkF m 253 #[vi p0, vi p1, vi p2, vi p3, vi p4, vi ov, vi (1 : Int32), vi b1, vi b2, vi b3, vi xx, vi dd, vi yy, vr v1, vr v2, vr v3, vr v4, vr v5, vr b525, vi (1 : Int32), vr b534, vr el, vr el, vr b864, .unset, .unset] [(.ref b1082)])) _
  refine Go.via (fun _ => XS.astore X1110.here hx rfl (hb hby at_253) rfl rfl (l' := #[vi p0, vi p1, vi p2, vi p3, vi p4, vi ov, vi (1 : Int32), vi b1, vi b2, vi b3, vi xx, vi dd, vi yy, vr v1, vr v2, vr v3, vr v4, vr v5, vr b525, vi (1 : Int32), vr b534, vr el, vr el, vr b864, vr b1082, .unset]) rfl) ?_
  refine Go.via (fun _ => XS.iload X1110.here hx rfl (hb hby at_255) rfl) ?_
  refine Go.via (fun _ => XS.ifNo X1110.here hx rfl (hb hby at_257) rfl ((if0 _ _).trans (feq ((by decide) : ¬ ((1 : Int32) = (0 : Int32)))).1)) ?_
  refine Go.via (fun _ => XS.aload X1110.here hx rfl (hb hby at_260) rfl rfl) ?_
  have f1142 : Fld Z T1110.heap b534 cAL "size" "I" (.int (1 : Int32)) := (((lf8_1058.keep K1060q (ninS (Ne.symm lf15_1058) (ninS lf19_1058 (ninS lf22_1058 nin0)))).keep K1080q (ninS (Ne.symm lf15_1058) nin0)).keep K1110q (ninS (Ne.symm lf15_1058) nin0))
  have z1144 : n0 ≤ T1110.heap.size := (Nat.le_trans z1111 K1110q.1)
  have f1145 : Exa Z T1110.heap b534 cAL := (f1123.keep K1110q)
  obtain ⟨cq1143, kq1143, q1143a, q1143b, q1143c⟩ := isOf hZ e1110 f1145
  obtain ⟨r1143, _, ⟨T1143, L1143, k1143, n1143⟩, -, X1143, ⟨Lc1143, hQ1143, l1143, y1143, z1143⟩, st1143⟩ := X1110.interfaceBack hx (xi := (⟨cLI, "size", "()I"⟩ : MethodName)) (y := (⟨cAL, "size", "()I"⟩ : MethodName)) hown (mvT hZ (tw hw 103 rfl)) (mvT hZ (tw hw 104 rfl)) (mvT hZ (tw hw 105 rfl)) (mvT hZ (tw hw 121 rfl)) (mvT hZ (tw hw 122 rfl)) (mvT hZ (tw hw 123 rfl)) (mvT hZ (tw hw 124 rfl)) (mvT hZ (tw hw 67 rfl)) (by decide) (backOf (W := 0) (rmSz l Z a0 hw [] b534 (1 : Int32) T1110.heap n0 z1144 f1142) hZ (tw hw 125 rfl) (tw hw 21 rfl) (by decide) (by decide)) q1143a q1143b q1143c (g := (mkF m 262 #[vi p0, vi p1, vi p2, vi p3, vi p4, vi ov, vi (1 : Int32), vi b1, vi b2, vi b3, vi xx, vi dd, vi yy, vr v1, vr v2, vr v3, vr v4, vr v5, vr b525, vi (1 : Int32), vr b534, vr el, vr el, vr b864, vr b1082, .unset] [(.ref b534)])) rfl (by rw [hml]; rfl) (Steps.refl _) (argsL := []) (rest := []) (lenOf pd__28_29I rfl) rfl (by show 2 * 0 + _ ≤ _; exact Nat.le_of_eq rfl) (hb hby at_262) (fun _ _ => ⟨rfl, e1110, (by decide : 7 + 0 ≤ _), (by decide : 35 + 0 ≤ _)⟩)
  dsimp only [Pt.U, Pt.locs, Pt.cells, Pt.slots] at X1143 l1143 y1143 z1143 st1143 hQ1143
  rw [l1143, y1143, z1143] at X1143
  clear l1143 y1143 z1143
  obtain ⟨hr1143, N1143q, eh1143⟩ := hQ1143
  rw [hr1143] at st1143
  clear hr1143
  have N1143 := Fr.app N1110 N1143q
  refine Go.via (fun _ kQ => st1143.trans kQ) ?_
  clear st1143
  have e1143 : T1143.heap = T1110.heap := eh1143
  clear X1110 e1110
  show Go p e below (T1143.setTop (mkF m 267 #[vi p0, vi p1, vi p2, vi p3, vi p4, vi ov, vi (1 : Int32), vi b1, vi b2, vi b3, vi xx, vi dd, vi yy, vr v1, vr v2, vr v3, vr v4, vr v5, vr b525, vi (1 : Int32), vr b534, vr el, vr el, vr b864, vr b1082, .unset] [(.int (1 : Int32))])) _
  refine Go.via (fun _ => XS.iload X1143.here hx rfl (hb hby at_267) rfl) ?_
  refine Go.via (fun _ => XS.icmpNo X1143.here hx rfl (hb hby at_269) rfl (teq ((by decide) : (1 : Int32) = (1 : Int32))).2) ?_
  refine Go.via (fun _ => XS.iconst X1143.here hx rfl (hb hby at_272)) ?_
  refine Go.via (fun _ => XS.goto X1143.here hx rfl (pc0 := 273) (pc' := 277) rfl (hb hby at_273) (by decide) (by decide)) ?_
  refine Go.via (fun _ => XS.istore X1143.here hx rfl (hb hby at_277) rfl (l' := #[vi p0, vi p1, vi p2, vi p3, vi p4, vi ov, vi (1 : Int32), vi b1, vi b2, vi b3, vi xx, vi dd, vi yy, vr v1, vr v2, vr v3, vr v4, vr v5, vr b525, vi (1 : Int32), vr b534, vr el, vr el, vr b864, vr b1082, .unset]) rfl) ?_
  refine Go.via (fun _ => XS.iload X1143.here hx rfl (hb hby at_279) rfl) ?_
  refine Go.via (fun _ => XS.ifNo X1143.here hx rfl (hb hby at_281) rfl ((if0 _ _).trans (feq ((by decide) : ¬ ((1 : Int32) = (0 : Int32)))).1)) ?_
  show Go p e below (T1143.setTop (mkF m 284 #[vi p0, vi p1, vi p2, vi p3, vi p4, vi ov, vi (1 : Int32), vi b1, vi b2, vi b3, vi xx, vi dd, vi yy, vr v1, vr v2, vr v3, vr v4, vr v5, vr b525, vi (1 : Int32), vr b534, vr el, vr el, vr b864, vr b1082, .unset] [])) _
  refine Go.via (fun _ => XS.iload X1143.here hx rfl (hb hby at_284) rfl) ?_
  refine Go.via (fun _ => XS.iconst X1143.here hx rfl (hb hby at_286)) ?_
  refine Go.via (fun _ => XS.icmpNo X1143.here hx rfl (hb hby at_287) rfl (flt ((by decide) : ¬ ((1 : Int32) < (1 : Int32)))).1) ?_
  refine Go.via (fun _ => XS.aload X1143.here hx rfl (hb hby at_290) rfl rfl) ?_
  refine Go.via (fun _ => XS.iconst X1143.here hx rfl (hb hby at_292)) ?_
  have f1146 : Fld Z T1110.heap b534 cAL "elementData" cOA (.ref b834) := (((lf7_1058.keep K1060q (ninS (Ne.symm lf15_1058) (ninS lf19_1058 (ninS lf22_1058 nin0)))).keep K1080q (ninS (Ne.symm lf15_1058) nin0)).keep K1110q (ninS (Ne.symm lf15_1058) nin0))
  have f1147 : Ra Z T1110.heap b834 cOB [(.ref v1), .null, .null, .null, .null, .null, .null, .null, .null, .null] := (f1125.keep K1110q (ninS (Ne.symm lf16_1058) nin0))
  obtain ⟨cq1148, kq1148, q1148a, q1148b, q1148c⟩ := isOf hZ e1143 f1145
  obtain ⟨r1148, _, ⟨T1148, L1148, k1148, n1148⟩, -, X1148, ⟨Lc1148, hQ1148, l1148, y1148, z1148⟩, st1148⟩ := X1143.interfaceBack hx (xi := (⟨cLI, "get", "(I)Ljava/lang/Object;"⟩ : MethodName)) (y := (⟨cAL, "get", "(I)Ljava/lang/Object;"⟩ : MethodName)) hown (mvT hZ (tw hw 126 rfl)) (mvT hZ (tw hw 127 rfl)) (mvT hZ (tw hw 128 rfl)) (mvT hZ (tw hw 129 rfl)) (mvT hZ (tw hw 130 rfl)) (mvT hZ (tw hw 131 rfl)) (mvT hZ (tw hw 132 rfl)) (mvT hZ (tw hw 67 rfl)) (by decide) (backOf (W := 0) (rmGt l Z a0 hw [] b534 (0 : Int32) b834 [(.ref v1), .null, .null, .null, .null, .null, .null, .null, .null, .null] v1 (1 : Int32) T1110.heap n0 z1144 f1146 f1142 f1147 f1145 (by first | decide | (simp only [List.length_cons, List.length_nil]; decide) | rfl) (by first | decide | (simp only [List.length_cons, List.length_nil]; decide) | rfl) rfl) hZ (tw hw 133 rfl) (tw hw 21 rfl) (by decide) (by decide)) q1148a q1148b q1148c (g := (mkF m 293 #[vi p0, vi p1, vi p2, vi p3, vi p4, vi ov, vi (1 : Int32), vi b1, vi b2, vi b3, vi xx, vi dd, vi yy, vr v1, vr v2, vr v3, vr v4, vr v5, vr b525, vi (1 : Int32), vr b534, vr el, vr el, vr b864, vr b1082, .unset] [(.int (0 : Int32)), (.ref b534)])) rfl (by rw [hml]; rfl) (Steps.refl _) (argsL := [(.int (0 : Int32))]) (rest := []) (lenOf pd__28I_29Ljava_2flang_2fObject_3b rfl) rfl (by show 2 * 0 + _ ≤ _; exact Nat.le_of_eq rfl) (hb hby at_293) (fun _ _ => ⟨rfl, e1143, (by decide : 7 + 0 ≤ _), (by decide : 35 + 0 ≤ _)⟩)
  dsimp only [Pt.U, Pt.locs, Pt.cells, Pt.slots] at X1148 l1148 y1148 z1148 st1148 hQ1148
  rw [l1148, y1148, z1148] at X1148
  clear l1148 y1148 z1148
  obtain ⟨hr1148, N1148q, eh1148⟩ := hQ1148
  rw [hr1148] at st1148
  clear hr1148
  have N1148 := Fr.app N1143 N1148q
  refine Go.via (fun _ kQ => st1148.trans kQ) ?_
  clear st1148
  have e1148 : T1148.heap = T1110.heap := eh1148
  clear X1143 e1143
  show Go p e below (T1148.setTop (mkF m 298 #[vi p0, vi p1, vi p2, vi p3, vi p4, vi ov, vi (1 : Int32), vi b1, vi b2, vi b3, vi xx, vi dd, vi yy, vr v1, vr v2, vr v3, vr v4, vr v5, vr b525, vi (1 : Int32), vr b534, vr el, vr el, vr b864, vr b1082, .unset] [(.ref v1)])) _
  have o1149 : Old Z n0 T1110.heap := (o1109.keep K1110q (allS lf25_1058 all0))
  have f1150 : Exa Z T1110.heap v1 cIN := zE1.ext o1149.2
  obtain ⟨T1151, X1151, e1151, st1151⟩ := castY X1148 hx hZ hown (tw hw 147 rfl) e1148 (Ins.self f1150) (g := (mkF m 298 #[vi p0, vi p1, vi p2, vi p3, vi p4, vi ov, vi (1 : Int32), vi b1, vi b2, vi b3, vi xx, vi dd, vi yy, vr v1, vr v2, vr v3, vr v4, vr v5, vr b525, vi (1 : Int32), vr b534, vr el, vr el, vr b864, vr b1082, .unset] [(.ref v1)])) rfl rfl (hb hby at_298)
  refine Go.via (st1151) ?_
  clear st1151
  clear X1148 e1148
  show Go p e below (T1151.setTop (mkF m 301 #[vi p0, vi p1, vi p2, vi p3, vi p4, vi ov, vi (1 : Int32), vi b1, vi b2, vi b3, vi xx, vi dd, vi yy, vr v1, vr v2, vr v3, vr v4, vr v5, vr b525, vi (1 : Int32), vr b534, vr el, vr el, vr b864, vr b1082, .unset] [(.ref v1)])) _
  have f1152 : Fld Z T1110.heap v1 cIN "value" "I" (.int (1 : Int32)) := zV1.ext o1149.2
  have f1154 : Exa Z T1110.heap v1 cIN := zE1.ext o1149.2
  obtain ⟨cq1153, kq1153, q1153a, q1153b, q1153c⟩ := isOf hZ e1151 f1154
  obtain ⟨r1153, _, ⟨T1153, L1153, k1153, n1153⟩, -, X1153, ⟨Lc1153, hQ1153, l1153, y1153, z1153⟩, st1153⟩ := X1151.virtualBack hx (y := (⟨cIN, "intValue", "()I"⟩ : MethodName)) (z := (⟨cIN, "intValue", "()I"⟩ : MethodName)) hown (mvT hZ (tw hw 149 rfl)) (mvT hZ (tw hw 150 rfl)) (notFace_of_selects (args := #[]) (mvT hZ (tw hw 152 rfl))) (mvT hZ (tw hw 152 rfl)) (mvT hZ (tw hw 151 rfl)) (by decide) (backOf (W := 0) (rmIv l Z a0 hw [] v1 (1 : Int32) T1110.heap n0 z1144 f1152) hZ (tw hw 153 rfl) (tw hw 5 rfl) (by decide) (by decide)) q1153a q1153c (g := (mkF m 301 #[vi p0, vi p1, vi p2, vi p3, vi p4, vi ov, vi (1 : Int32), vi b1, vi b2, vi b3, vi xx, vi dd, vi yy, vr v1, vr v2, vr v3, vr v4, vr v5, vr b525, vi (1 : Int32), vr b534, vr el, vr el, vr b864, vr b1082, .unset] [(.ref v1)])) rfl (by rw [hml]; rfl) (Steps.refl _) (argsL := []) (rest := []) (lenOf pd__28_29I rfl) rfl (by show 2 * 0 + _ ≤ _; exact Nat.le_of_eq rfl) (hb hby at_301) (fun _ _ => ⟨rfl, e1151, (by decide : 7 + 0 ≤ _), (by decide : 35 + 0 ≤ _)⟩)
  dsimp only [Pt.U, Pt.locs, Pt.cells, Pt.slots] at X1153 l1153 y1153 z1153 st1153 hQ1153
  rw [l1153, y1153, z1153] at X1153
  clear l1153 y1153 z1153
  obtain ⟨hr1153, N1153q, eh1153⟩ := hQ1153
  rw [hr1153] at st1153
  clear hr1153
  have N1153 := Fr.app N1148 N1153q
  refine Go.via (fun _ kQ => st1153.trans kQ) ?_
  clear st1153
  have e1153 : T1153.heap = T1110.heap := eh1153
  clear X1151 e1151
  show Go p e below (T1153.setTop (mkF m 304 #[vi p0, vi p1, vi p2, vi p3, vi p4, vi ov, vi (1 : Int32), vi b1, vi b2, vi b3, vi xx, vi dd, vi yy, vr v1, vr v2, vr v3, vr v4, vr v5, vr b525, vi (1 : Int32), vr b534, vr el, vr el, vr b864, vr b1082, .unset] [(.int (1 : Int32))])) _
  refine Go.via (fun _ => XS.iconst X1153.here hx rfl (hb hby at_304)) ?_
  refine Go.via (fun _ => XS.icmpNo X1153.here hx rfl (hb hby at_305) rfl (teq ((by decide) : (1 : Int32) = (1 : Int32))).2) ?_
  refine Go.via (fun _ => XS.iconst X1153.here hx rfl (hb hby at_308)) ?_
  refine Go.via (fun _ => XS.goto X1153.here hx rfl (pc0 := 309) (pc' := 313) rfl (hb hby at_309) (by decide) (by decide)) ?_
  refine Go.via (fun _ => XS.istore X1153.here hx rfl (hb hby at_313) rfl (l' := #[vi p0, vi p1, vi p2, vi p3, vi p4, vi ov, vi (1 : Int32), vi b1, vi b2, vi b3, vi xx, vi dd, vi yy, vr v1, vr v2, vr v3, vr v4, vr v5, vr b525, vi (1 : Int32), vr b534, vr el, vr el, vr b864, vr b1082, .unset]) rfl) ?_
  refine Go.via (fun _ => XS.iload X1153.here hx rfl (hb hby at_315) rfl) ?_
  refine Go.via (fun _ => XS.ifNo X1153.here hx rfl (hb hby at_317) rfl ((if0 _ _).trans (feq ((by decide) : ¬ ((1 : Int32) = (0 : Int32)))).1)) ?_
  show Go p e below (T1153.setTop (mkF m 320 #[vi p0, vi p1, vi p2, vi p3, vi p4, vi ov, vi (1 : Int32), vi b1, vi b2, vi b3, vi xx, vi dd, vi yy, vr v1, vr v2, vr v3, vr v4, vr v5, vr b525, vi (1 : Int32), vr b534, vr el, vr el, vr b864, vr b1082, .unset] [])) _
  refine Go.via (fun _ => XS.iload X1153.here hx rfl (hb hby at_320) rfl) ?_
  refine Go.via (fun _ => XS.iconst X1153.here hx rfl (hb hby at_322)) ?_
  refine Go.via (fun _ => XS.icmpYes X1153.here hx rfl (pc0 := 323) (pc' := 351) rfl (hb hby at_323) rfl (tlt ((by decide) : (1 : Int32) < (2 : Int32))).1 (by decide) (by decide)) ?_
  refine Go.via (fun _ => XS.iload X1153.here hx rfl (hb hby at_351) rfl) ?_
  refine Go.via (fun _ => XS.ifNo X1153.here hx rfl (hb hby at_353) rfl ((if0 _ _).trans (feq ((by decide) : ¬ ((1 : Int32) = (0 : Int32)))).1)) ?_
  refine Go.via (fun _ => XS.iload X1153.here hx rfl (hb hby at_356) rfl) ?_
  refine Go.via (fun _ => XS.iconst X1153.here hx rfl (hb hby at_358)) ?_
  show Go p e below (T1153.setTop (mkF m 359 #[vi p0, vi p1, vi p2, vi p3, vi p4, vi ov, vi (1 : Int32), vi b1, vi b2, vi b3, vi xx, vi dd, vi yy, vr v1, vr v2, vr v3, vr v4, vr v5, vr b525, vi (1 : Int32), vr b534, vr el, vr el, vr b864, vr b1082, .unset] [(.int (3 : Int32)), (.int (1 : Int32))])) _
  refine Go.via (fun _ => XS.icmpYes X1153.here hx rfl (pc0 := 359) (pc' := 387) rfl (hb hby at_359) rfl (tlt ((by decide) : (1 : Int32) < (3 : Int32))).1 (by decide) (by decide)) ?_
  have X1153m := X1153.more (by decide : _ ≤ 13) (by decide : _ ≤ 61)
  have f1155 : Exa Z T1110.heap b1082 cAL := (f1105.keep K1110q)
  have f1156 : Fld Z T1110.heap b1082 cAL "size" "I" (.int (0 : Int32)) := (f1108.keep K1110q (ninS (Ne.symm ne1091) nin0))
  have f1157 : Exa Z T1110.heap b864 cAL := (f1127.keep K1110q)
  have f1158 : Fld Z T1110.heap b864 cAL "size" "I" (.int (2 : Int32)) := ((f1077.keep K1080q (ninS (Ne.symm lf18_1058) nin0)).keep K1110q (ninS (Ne.symm lf18_1058) nin0))
  have f1159 : Fld Z T1110.heap b864 cAL "elementData" cOA (.ref b891) := ((f1076.keep K1080q (ninS (Ne.symm lf18_1058) nin0)).keep K1110q (ninS (Ne.symm lf18_1058) nin0))
  have f1160 : Ra Z T1110.heap b891 cOB [(.ref v4), (.ref v5), .null, .null, .null, .null, .null, .null, .null, .null] := (f1129.keep K1110q (ninS (Ne.symm lf21_1058) nin0))
  have k1161 : Keep h0 T1110.heap [] := (k1133.trans K1110q (allS (Or.inr lf30_1058) all0))
  exact rm_rm0_JN l Z a0 hw p0 p1 p2 p3 p4 de el ea ca cl v1 v2 v3 v4 v5 h0 n0 zD zN zL zH zC zLE zLF zLN zE1 zV1 zE2 zV2 zE3 zV3 zE4 zV4 zE5 zV5 hA hin1 hat1 hin2 hat2 hin3 hat3 hin4 hat4 hin5 hat5 hx hby hlk hml hown hZ hret T1153 _ T1110.heap ov b1 b2 b3 xx dd yy (1 : Int32) b525 b534 b864 b1082 b891 X1153m e1153 N1153 z1144 k1161 f1145 f1142 f1155 f1156 o1149 f1157 f1158 f1159 f1160 hsp
set_option maxRecDepth 65536 in
set_option maxHeartbeats 40000000 in
theorem rm_rm0_c1 (l : Launch) (Z : State) (a0 : Array Value) (hw : ∀ d ∈ tables_1, d.before a0 Z = true) (p0 : Int32) (p1 : Int32) (p2 : Int32) (p3 : Int32) (p4 : Int32) (de : Addr) (el : Addr) (ea : Addr) (ca : Addr) (cl : Cell) (v1 : Addr) (v2 : Addr) (v3 : Addr) (v4 : Addr) (v5 : Addr) (h0 : Heap) (n0 : Nat) (zD : Sta Z Z.heap cAL cDE cOA (.ref de)) (zN : Rn Z Z.heap de (0 : Int32)) (zL : Sta Z Z.heap cIM "EMPTY_LIST" "Ljava/util/ImmutableCollections$ListN;" (.ref el)) (zH : Sta Z Z.heap cIC "high" "I" (.int (127 : Int32))) (zC : Sta Z Z.heap cIC "cache" "[Ljava/lang/Integer;" (.ref ca)) (zLE : Exa Z Z.heap el cLN) (zLF : Fld Z Z.heap el cLN "elements" cOA (.ref ea)) (zLN : Rn Z Z.heap ea (0 : Int32)) (zE1 : Exa Z Z.heap v1 cIN) (zV1 : Fld Z Z.heap v1 cIN "value" "I" (.int (1 : Int32))) (zE2 : Exa Z Z.heap v2 cIN) (zV2 : Fld Z Z.heap v2 cIN "value" "I" (.int (2 : Int32))) (zE3 : Exa Z Z.heap v3 cIN) (zV3 : Fld Z Z.heap v3 cIN "value" "I" (.int (3 : Int32))) (zE4 : Exa Z Z.heap v4 cIN) (zV4 : Fld Z Z.heap v4 cIN "value" "I" (.int (4 : Int32))) (zE5 : Exa Z Z.heap v5 cIN) (zV5 : Fld Z Z.heap v5 cIN "value" "I" (.int (5 : Int32))) (hA : Arr Z Z.heap ca cl (.object cIN)) (hin1 : ¬ (((1 : Int32) + (128 : Int32)) < 0 ∨ cl.slots.size ≤ ((1 : Int32) + (128 : Int32)).toNatClampNeg)) (hat1 : cl.slots[((1 : Int32) + (128 : Int32)).toNatClampNeg]? = some (.ref v1)) (hin2 : ¬ (((2 : Int32) + (128 : Int32)) < 0 ∨ cl.slots.size ≤ ((2 : Int32) + (128 : Int32)).toNatClampNeg)) (hat2 : cl.slots[((2 : Int32) + (128 : Int32)).toNatClampNeg]? = some (.ref v2)) (hin3 : ¬ (((3 : Int32) + (128 : Int32)) < 0 ∨ cl.slots.size ≤ ((3 : Int32) + (128 : Int32)).toNatClampNeg)) (hat3 : cl.slots[((3 : Int32) + (128 : Int32)).toNatClampNeg]? = some (.ref v3)) (hin4 : ¬ (((4 : Int32) + (128 : Int32)) < 0 ∨ cl.slots.size ≤ ((4 : Int32) + (128 : Int32)).toNatClampNeg)) (hat4 : cl.slots[((4 : Int32) + (128 : Int32)).toNatClampNeg]? = some (.ref v4)) (hin5 : ¬ (((5 : Int32) + (128 : Int32)) < 0 ∨ cl.slots.size ≤ ((5 : Int32) + (128 : Int32)).toNatClampNeg)) (hat5 : cl.slots[((5 : Int32) + (128 : Int32)).toNatClampNeg]? = some (.ref v5)) {p : Program} {e : Env} {s : State} {m : MethodId} {below : List Frame} {meth : Method} {c : Code} (hx : p.tables.exec = Jvm.exec) (hby : c.code = code) (hlk : meth.locks = false) (hml : c.maxLocals = 26) (hown : s.vm.findClass cLAW = some m.cls) (hZ : Z.Warmed39 s.vm) (hret : meth.sig.returnType = ret) :
    ∀ (T831 : State) (L831 : List Loc) (h831 : Heap) (ov : Int32) (b1 : Int32) (b2 : Int32) (b3 : Int32) (xx : Int32) (dd : Int32) (yy : Int32) (b525 : Addr) (b534 : Addr), Stand p l e room_1 s m #[(.int p0), (.int p1), (.int p2), (.int p3), (.int p4)] below meth c T831 L831 2 6 → T831.heap = h831 → Fr n0 L831 → n0 ≤ h831.size → Keep h0 h831 [] → Old Z n0 h831 → Exa Z h831 b525 cFI → Fld Z h831 b525 cFI "part" "Ljava/util/List;" (.ref b534) → Fld Z h831 b525 cFI "overhead" "I" (.int ov) → Fld Z h831 b525 cFI "partBytes" "J" (.long (ov.toInt64)) → Exa Z h831 b534 cAL → Fld Z h831 b534 cAB "modCount" "I" (.int (0 : Int32)) → Fld Z h831 b534 cAL "elementData" cOA (.ref de) → Fld Z h831 b534 cAL "size" "I" (.int (0 : Int32)) → b525 ≠ b534 → n0 ≤ b525 → n0 ≤ b534 → h0.size ≤ b525 → h0.size ≤ b534 → (p0 &&& (524287 : Int32)) = ov → (p3 &&& (524287 : Int32)) = xx → ((p4 &&& (3 : Int32)) - (1 : Int32)) = dd → (((((1048576 : Int32) - ov) - xx) - (1 : Int32)) + dd) = yy → Go p e below (T831.setTop (mkF m 107 #[vi p0, vi p1, vi p2, vi p3, vi p4, vi ov, vi (1 : Int32), vi b1, vi b2, vi b3, vi xx, vi dd, vi yy, vr v1, vr v2, vr v3, vr v4, vr v5, vr b525, vi (1 : Int32), .unset, .unset, .unset, .unset, .unset, .unset] [])) (Done s (Q_rm0 Z p0 p1 p2 p3 p4 de el ea ca cl v1 v2 v3 v4 v5 h0 n0) room_1.cells room_1.slots) := by
  intro T831 L831 h831 ov b1 b2 b3 xx dd yy b525 b534 X831 e831 N831 z831 k831 lf0_831 lf1_831 lf2_831 lf3_831 lf4_831 lf5_831 lf6_831 lf7_831 lf8_831 lf9_831 lf10_831 lf11_831 lf12_831 lf13_831 hv_ov hv_xx hv_dd hv_yy
  show Go p e below (T831.setTop (mkF m 107 #[vi p0, vi p1, vi p2, vi p3, vi p4, vi ov, vi (1 : Int32), vi b1, vi b2, vi b3, vi xx, vi dd, vi yy, vr v1, vr v2, vr v3, vr v4, vr v5, vr b525, vi (1 : Int32), .unset, .unset, .unset, .unset, .unset, .unset] [])) _
  refine Go.via (fun _ => XS.iload X831.here hx rfl (hb hby at_107) rfl) ?_
  refine Go.via (fun _ => XS.iconst X831.here hx rfl (hb hby at_109)) ?_
  refine Go.via (fun _ => XS.icmpNo X831.here hx rfl (hb hby at_110) rfl (flt ((by decide) : ¬ ((1 : Int32) < (1 : Int32)))).1) ?_
  refine Go.via (fun _ => XS.iload X831.here hx rfl (hb hby at_113) rfl) ?_
  show Go p e below (T831.setTop (mkF m 115 #[vi p0, vi p1, vi p2, vi p3, vi p4, vi ov, vi (1 : Int32), vi b1, vi b2, vi b3, vi xx, vi dd, vi yy, vr v1, vr v2, vr v3, vr v4, vr v5, vr b525, vi (1 : Int32), .unset, .unset, .unset, .unset, .unset, .unset] [(.int (1 : Int32))])) _
  refine Go.via (fun _ => XS.ifNo X831.here hx rfl (hb hby at_115) rfl ((if0 _ _).trans (feq ((by decide) : ¬ ((1 : Int32) = (0 : Int32)))).1)) ?_
  refine Go.via (fun _ => XS.aload X831.here hx rfl (hb hby at_118) rfl rfl) ?_
  refine Go.via (fun _ => XS.aload X831.here hx rfl (hb hby at_120) rfl rfl) ?_
  refine Go.via (fun _ => XS.iload X831.here hx rfl (hb hby at_122) rfl) ?_
  have f832 : Exa Z h831 v1 cIN := zE1.ext lf0_831.2
  obtain ⟨cq833, kq833, q833a, q833b, q833c⟩ := isOf hZ e831 lf1_831
  obtain ⟨r833, _, ⟨T833, L833, k833, n833⟩, -, X833, ⟨Lc833, hQ833, l833, y833, z833⟩, st833⟩ := X831.virtualBack hx (y := (⟨cFI, "add", "(Ljava/lang/Object;I)Ljava/util/List;"⟩ : MethodName)) (z := (⟨cFI, "add", "(Ljava/lang/Object;I)Ljava/util/List;"⟩ : MethodName)) hown (mvT hZ (tw hw 49 rfl)) (mvT hZ (tw hw 50 rfl)) (notFace_of_selects (args := #[]) (mvT hZ (tw hw 52 rfl))) (mvT hZ (tw hw 52 rfl)) (mvT hZ (tw hw 51 rfl)) (by decide) (backOf (W := 0) (rmFa0 l Z a0 hw [] b525 v1 b1 b534 ov (ov.toInt64) de (0 : Int32) el h831 n0 z831 lf1_831 lf2_831 lf3_831 lf4_831 lf5_831 lf6_831 lf7_831 lf8_831 f832 lf0_831 zD zN zL lf10_831 lf11_831 lf9_831) hZ (tw hw 53 rfl) (tw hw 12 rfl) (by decide) (by decide)) q833a q833c (g := (mkF m 124 #[vi p0, vi p1, vi p2, vi p3, vi p4, vi ov, vi (1 : Int32), vi b1, vi b2, vi b3, vi xx, vi dd, vi yy, vr v1, vr v2, vr v3, vr v4, vr v5, vr b525, vi (1 : Int32), .unset, .unset, .unset, .unset, .unset, .unset] [(.int b1), (.ref v1), (.ref b525)])) rfl (by rw [hml]; rfl) (Steps.refl _) (argsL := [(.ref v1), (.int b1)]) (rest := []) (lenOf pd__28Ljava_2flang_2fObject_3bI_29Ljava_2futil_2fList_3b rfl) rfl (by show 2 * 0 + _ ≤ _; exact Nat.le_of_eq rfl) (hb hby at_124) (fun _ _ => ⟨rfl, e831, (by decide : 2 + 1 ≤ _), (by decide : 6 + 10 ≤ _)⟩)
  dsimp only [Pt.U, Pt.locs, Pt.cells, Pt.slots] at X833 l833 y833 z833 st833 hQ833
  rw [l833, y833, z833] at X833
  clear l833 y833 z833
  obtain ⟨b834, hr833, N833q, K833q, fz_b834, f835, f836, f837, f838, f839, f840, f841, f842, f843⟩ := hQ833
  rw [hr833] at st833
  clear hr833
  have N833 := Fr.app N831 N833q
  refine Go.via (fun _ kQ => st833.trans kQ) ?_
  clear st833
  have ne844 : b525 ≠ b834 := Nat.ne_of_lt (Nat.lt_of_lt_of_le lf1_831.lt fz_b834)
  have ne845 : b534 ≠ b834 := Nat.ne_of_lt (Nat.lt_of_lt_of_le lf5_831.lt fz_b834)
  have ge846 : n0 ≤ b834 := Nat.le_trans z831 fz_b834
  have sz847 : h0.size ≤ b834 := Nat.le_trans k831.1 fz_b834
  have e833 : T833.heap = T833.heap := rfl
  have f848 : Exa Z T833.heap b525 cFI := f835
  have f849 : Fld Z T833.heap b525 cFI "part" "Ljava/util/List;" (.ref b534) := f836
  have f850 : Fld Z T833.heap b525 cFI "overhead" "I" (.int ov) := f837
  have f851 : Fld Z T833.heap b525 cFI "partBytes" "J" (.long ((ov.toInt64) + (b1.toInt64))) := f838
  have f852 : Exa Z T833.heap b534 cAL := f839
  have f853 : Fld Z T833.heap b534 cAB "modCount" "I" (.int ((0 : Int32) + (1 : Int32))) := f840
  have f854 : Fld Z T833.heap b534 cAL "elementData" cOA (.ref b834) := f841
  have f855 : Fld Z T833.heap b534 cAL "size" "I" (.int (1 : Int32)) := f842
  have f856 : Ra Z T833.heap b834 cOB [(.ref v1), .null, .null, .null, .null, .null, .null, .null, .null, .null] := f843
  clear X831 e831
  show Go p e below (T833.setTop (mkF m 127 #[vi p0, vi p1, vi p2, vi p3, vi p4, vi ov, vi (1 : Int32), vi b1, vi b2, vi b3, vi xx, vi dd, vi yy, vr v1, vr v2, vr v3, vr v4, vr v5, vr b525, vi (1 : Int32), .unset, .unset, .unset, .unset, .unset, .unset] [(.ref el)])) _
  have o857 : Old Z n0 T833.heap := (lf0_831.keep K833q (allS lf10_831 (allS lf11_831 all0)))
  have f858 : Fld Z T833.heap el cLN "elements" cOA (.ref ea) := zLF.ext o857.2
  have f859 : Rn Z T833.heap ea (0 : Int32) := zLN.ext o857.2
  have z861 : n0 ≤ T833.heap.size := (Nat.le_trans z831 K833q.1)
  have f862 : Exa Z T833.heap el cLN := zLE.ext o857.2
  obtain ⟨cq860, kq860, q860a, q860b, q860c⟩ := isOf hZ e833 f862
  obtain ⟨r860, _, ⟨T860, L860, k860, n860⟩, -, X860, ⟨Lc860, hQ860, l860, y860, z860⟩, st860⟩ := X833.interfaceBack hx (xi := (⟨cLI, "size", "()I"⟩ : MethodName)) (y := (⟨cLN, "size", "()I"⟩ : MethodName)) hown (mvT hZ (tw hw 103 rfl)) (mvT hZ (tw hw 104 rfl)) (mvT hZ (tw hw 105 rfl)) (mvT hZ (tw hw 106 rfl)) (mvT hZ (tw hw 107 rfl)) (mvT hZ (tw hw 108 rfl)) (mvT hZ (tw hw 109 rfl)) (mvT hZ (tw hw 110 rfl)) (by decide) (backOf (W := 0) (rmNs l Z a0 hw [] el ea T833.heap n0 z861 f858 f859) hZ (tw hw 112 rfl) (tw hw 111 rfl) (by decide) (by decide)) q860a q860b q860c (g := (mkF m 127 #[vi p0, vi p1, vi p2, vi p3, vi p4, vi ov, vi (1 : Int32), vi b1, vi b2, vi b3, vi xx, vi dd, vi yy, vr v1, vr v2, vr v3, vr v4, vr v5, vr b525, vi (1 : Int32), .unset, .unset, .unset, .unset, .unset, .unset] [(.ref el)])) rfl (by rw [hml]; rfl) (Steps.refl _) (argsL := []) (rest := []) (lenOf pd__28_29I rfl) rfl (by show 2 * 0 + _ ≤ _; exact Nat.le_of_eq rfl) (hb hby at_127) (fun _ _ => ⟨rfl, e833, (by decide : 3 + 0 ≤ _), (by decide : 16 + 0 ≤ _)⟩)
  dsimp only [Pt.U, Pt.locs, Pt.cells, Pt.slots] at X860 l860 y860 z860 st860 hQ860
  rw [l860, y860, z860] at X860
  clear l860 y860 z860
  obtain ⟨hr860, N860q, eh860⟩ := hQ860
  rw [hr860] at st860
  clear hr860
  have N860 := Fr.app N833 N860q
  refine Go.via (fun _ kQ => st860.trans kQ) ?_
  clear st860
  have e860 : T860.heap = T833.heap := eh860
  clear X833 e833
  show Go p e below (T860.setTop (mkF m 132 #[vi p0, vi p1, vi p2, vi p3, vi p4, vi ov, vi (1 : Int32), vi b1, vi b2, vi b3, vi xx, vi dd, vi yy, vr v1, vr v2, vr v3, vr v4, vr v5, vr b525, vi (1 : Int32), .unset, .unset, .unset, .unset, .unset, .unset] [(.int (0 : Int32))])) _
  refine Go.via (fun _ => XS.ifNo X860.here hx rfl (hb hby at_132) rfl ((if0 _ _).trans (teq ((by decide) : (0 : Int32) = (0 : Int32))).2)) ?_
  refine Go.via (fun _ => XS.iconst X860.here hx rfl (hb hby at_135)) ?_
  refine Go.via (fun _ => XS.goto X860.here hx rfl (pc0 := 136) (pc' := 140) rfl (hb hby at_136) (by decide) (by decide)) ?_
  refine Go.via (fun _ => XS.istore X860.here hx rfl (hb hby at_140) rfl (l' := #[vi p0, vi p1, vi p2, vi p3, vi p4, vi ov, vi (1 : Int32), vi b1, vi b2, vi b3, vi xx, vi dd, vi yy, vr v1, vr v2, vr v3, vr v4, vr v5, vr b525, vi (1 : Int32), .unset, .unset, .unset, .unset, .unset, .unset]) rfl) ?_
  refine Go.via (fun _ => XS.iload X860.here hx rfl (hb hby at_142) rfl) ?_
  refine Go.via (fun _ => XS.iconst X860.here hx rfl (hb hby at_144)) ?_
  refine Go.via (fun _ => XS.icmpYes X860.here hx rfl (pc0 := 145) (pc' := 177) rfl (hb hby at_145) rfl (tlt ((by decide) : (1 : Int32) < (2 : Int32))).1 (by decide) (by decide)) ?_
  show Go p e below (T860.setTop (mkF m 177 #[vi p0, vi p1, vi p2, vi p3, vi p4, vi ov, vi (1 : Int32), vi b1, vi b2, vi b3, vi xx, vi dd, vi yy, vr v1, vr v2, vr v3, vr v4, vr v5, vr b525, vi (1 : Int32), .unset, .unset, .unset, .unset, .unset, .unset] [])) _
  refine Go.via (fun _ => XS.iload X860.here hx rfl (hb hby at_177) rfl) ?_
  refine Go.via (fun _ => XS.iconst X860.here hx rfl (hb hby at_179)) ?_
  refine Go.via (fun _ => XS.icmpYes X860.here hx rfl (pc0 := 180) (pc' := 212) rfl (hb hby at_180) rfl (tlt ((by decide) : (1 : Int32) < (3 : Int32))).1 (by decide) (by decide)) ?_
  refine Go.via (fun _ => XS.aload X860.here hx rfl (hb hby at_212) rfl rfl) ?_
  obtain ⟨cq863, kq863, q863a, q863b, q863c⟩ := isOf hZ e860 f848
  obtain ⟨r863, _, ⟨T863, L863, k863, n863⟩, -, X863, ⟨Lc863, hQ863, l863, y863, z863⟩, st863⟩ := X860.virtualBack hx (y := (⟨cFI, "last", "()Ljava/util/List;"⟩ : MethodName)) (z := (⟨cFI, "last", "()Ljava/util/List;"⟩ : MethodName)) hown (mvT hZ (tw hw 116 rfl)) (mvT hZ (tw hw 117 rfl)) (notFace_of_selects (args := #[]) (mvT hZ (tw hw 119 rfl))) (mvT hZ (tw hw 119 rfl)) (mvT hZ (tw hw 118 rfl)) (by decide) (backOf (W := 0) (rmLa l Z a0 hw [] b525 b534 ov ((ov.toInt64) + (b1.toInt64)) de T833.heap n0 z861 f848 f849 f850 f851 o857 zD lf10_831) hZ (tw hw 120 rfl) (tw hw 12 rfl) (by decide) (by decide)) q863a q863c (g := (mkF m 214 #[vi p0, vi p1, vi p2, vi p3, vi p4, vi ov, vi (1 : Int32), vi b1, vi b2, vi b3, vi xx, vi dd, vi yy, vr v1, vr v2, vr v3, vr v4, vr v5, vr b525, vi (1 : Int32), .unset, .unset, .unset, .unset, .unset, .unset] [(.ref b525)])) rfl (by rw [hml]; rfl) (Steps.refl _) (argsL := []) (rest := []) (lenOf pd__28_29Ljava_2futil_2fList_3b rfl) rfl (by show 2 * 0 + _ ≤ _; exact Nat.le_of_eq rfl) (hb hby at_214) (fun _ _ => ⟨rfl, e860, (by decide : 3 + 1 ≤ _), (by decide : 16 + 3 ≤ _)⟩)
  dsimp only [Pt.U, Pt.locs, Pt.cells, Pt.slots] at X863 l863 y863 z863 st863 hQ863
  rw [l863, y863, z863] at X863
  clear l863 y863 z863
  obtain ⟨b864, hr863, N863q, K863q, fz_b864, f865, f866, f867, f868, f869, f870, f871, f872⟩ := hQ863
  rw [hr863] at st863
  clear hr863
  have N863 := Fr.app N860 N863q
  refine Go.via (fun _ kQ => st863.trans kQ) ?_
  clear st863
  have ne873 : b525 ≠ b864 := Nat.ne_of_lt (Nat.lt_of_lt_of_le f848.lt fz_b864)
  have ne874 : b534 ≠ b864 := Nat.ne_of_lt (Nat.lt_of_lt_of_le f852.lt fz_b864)
  have ne875 : b834 ≠ b864 := Nat.ne_of_lt (Nat.lt_of_lt_of_le f856.lt fz_b864)
  have ge876 : n0 ≤ b864 := Nat.le_trans z861 fz_b864
  have k878 : Keep h0 T833.heap [] := (k831.trans K833q (allS (Or.inr lf12_831) (allS (Or.inr lf13_831) all0)))
  have sz877 : h0.size ≤ b864 := Nat.le_trans k878.1 fz_b864
  have e863 : T863.heap = T863.heap := rfl
  have f879 : Exa Z T863.heap b525 cFI := f865
  have f880 : Fld Z T863.heap b525 cFI "part" "Ljava/util/List;" (.ref b864) := f866
  have f881 : Fld Z T863.heap b525 cFI "overhead" "I" (.int ov) := f867
  have f882 : Fld Z T863.heap b525 cFI "partBytes" "J" (.long (ov.toInt64)) := f868
  have f883 : Exa Z T863.heap b864 cAL := f869
  have f884 : Fld Z T863.heap b864 cAB "modCount" "I" (.int (0 : Int32)) := f870
  have f885 : Fld Z T863.heap b864 cAL "elementData" cOA (.ref de) := f871
  have f886 : Fld Z T863.heap b864 cAL "size" "I" (.int (0 : Int32)) := f872
  clear X860 e860
  show Go p e below (T863.setTop (mkF m 217 #[vi p0, vi p1, vi p2, vi p3, vi p4, vi ov, vi (1 : Int32), vi b1, vi b2, vi b3, vi xx, vi dd, vi yy, vr v1, vr v2, vr v3, vr v4, vr v5, vr b525, vi (1 : Int32), .unset, .unset, .unset, .unset, .unset, .unset] [(.ref b534)])) _
  refine Go.via (fun _ => XS.astore X863.here hx rfl (hb hby at_217) rfl rfl (l' := #[vi p0, vi p1, vi p2, vi p3, vi p4, vi ov, vi (1 : Int32), vi b1, vi b2, vi b3, vi xx, vi dd, vi yy, vr v1, vr v2, vr v3, vr v4, vr v5, vr b525, vi (1 : Int32), vr b534, .unset, .unset, .unset, .unset, .unset]) rfl) ?_
  refine Go.via (fun _ => XS.aload X863.here hx rfl (hb hby at_219) rfl rfl) ?_
  refine Go.via (fun _ => XS.aload X863.here hx rfl (hb hby at_221) rfl rfl) ?_
  refine Go.via (fun _ => XS.iload X863.here hx rfl (hb hby at_223) rfl) ?_
  have o887 : Old Z n0 T863.heap := (o857.keep K863q (allS lf10_831 all0))
  have f888 : Exa Z T863.heap v4 cIN := zE4.ext o887.2
  have z890 : n0 ≤ T863.heap.size := (Nat.le_trans z861 K863q.1)
  obtain ⟨cq889, kq889, q889a, q889b, q889c⟩ := isOf hZ e863 f879
  obtain ⟨r889, _, ⟨T889, L889, k889, n889⟩, -, X889, ⟨Lc889, hQ889, l889, y889, z889⟩, st889⟩ := X863.virtualBack hx (y := (⟨cFI, "add", "(Ljava/lang/Object;I)Ljava/util/List;"⟩ : MethodName)) (z := (⟨cFI, "add", "(Ljava/lang/Object;I)Ljava/util/List;"⟩ : MethodName)) hown (mvT hZ (tw hw 49 rfl)) (mvT hZ (tw hw 50 rfl)) (notFace_of_selects (args := #[]) (mvT hZ (tw hw 52 rfl))) (mvT hZ (tw hw 52 rfl)) (mvT hZ (tw hw 51 rfl)) (by decide) (backOf (W := 0) (rmFa0 l Z a0 hw [] b525 v4 xx b864 ov (ov.toInt64) de (0 : Int32) el T863.heap n0 z890 f879 f880 f881 f882 f883 f884 f885 f886 f888 o887 zD zN zL lf10_831 ge876 ne873) hZ (tw hw 53 rfl) (tw hw 12 rfl) (by decide) (by decide)) q889a q889c (g := (mkF m 225 #[vi p0, vi p1, vi p2, vi p3, vi p4, vi ov, vi (1 : Int32), vi b1, vi b2, vi b3, vi xx, vi dd, vi yy, vr v1, vr v2, vr v3, vr v4, vr v5, vr b525, vi (1 : Int32), vr b534, .unset, .unset, .unset, .unset, .unset] [(.int xx), (.ref v4), (.ref b525)])) rfl (by rw [hml]; rfl) (Steps.refl _) (argsL := [(.ref v4), (.int xx)]) (rest := []) (lenOf pd__28Ljava_2flang_2fObject_3bI_29Ljava_2futil_2fList_3b rfl) rfl (by show 2 * 0 + _ ≤ _; exact Nat.le_of_eq rfl) (hb hby at_225) (fun _ _ => ⟨rfl, e863, (by decide : 4 + 1 ≤ _), (by decide : 19 + 10 ≤ _)⟩)
  dsimp only [Pt.U, Pt.locs, Pt.cells, Pt.slots] at X889 l889 y889 z889 st889 hQ889
  rw [l889, y889, z889] at X889
  clear l889 y889 z889
  obtain ⟨b891, hr889, N889q, K889q, fz_b891, f892, f893, f894, f895, f896, f897, f898, f899, f900⟩ := hQ889
  rw [hr889] at st889
  clear hr889
  have N889 := Fr.app N863 N889q
  refine Go.via (fun _ kQ => st889.trans kQ) ?_
  clear st889
  have ne901 : b525 ≠ b891 := Nat.ne_of_lt (Nat.lt_of_lt_of_le f879.lt fz_b891)
  have f902 : Exa Z T863.heap b534 cAL := (f852.keep K863q)
  have ne903 : b534 ≠ b891 := Nat.ne_of_lt (Nat.lt_of_lt_of_le f902.lt fz_b891)
  have f904 : Ra Z T863.heap b834 cOB [(.ref v1), .null, .null, .null, .null, .null, .null, .null, .null, .null] := (f856.keep K863q (ninS (Ne.symm ne844) nin0))
  have ne905 : b834 ≠ b891 := Nat.ne_of_lt (Nat.lt_of_lt_of_le f904.lt fz_b891)
  have ne906 : b864 ≠ b891 := Nat.ne_of_lt (Nat.lt_of_lt_of_le f883.lt fz_b891)
  have ge907 : n0 ≤ b891 := Nat.le_trans z890 fz_b891
  have k909 : Keep h0 T863.heap [] := (k878.trans K863q (allS (Or.inr lf12_831) all0))
  have sz908 : h0.size ≤ b891 := Nat.le_trans k909.1 fz_b891
  have e889 : T889.heap = T889.heap := rfl
  have f910 : Exa Z T889.heap b525 cFI := f892
  have f911 : Fld Z T889.heap b525 cFI "part" "Ljava/util/List;" (.ref b864) := f893
  have f912 : Fld Z T889.heap b525 cFI "overhead" "I" (.int ov) := f894
  have f913 : Fld Z T889.heap b525 cFI "partBytes" "J" (.long ((ov.toInt64) + (xx.toInt64))) := f895
  have f914 : Exa Z T889.heap b864 cAL := f896
  have f915 : Fld Z T889.heap b864 cAB "modCount" "I" (.int ((0 : Int32) + (1 : Int32))) := f897
  have f916 : Fld Z T889.heap b864 cAL "elementData" cOA (.ref b891) := f898
  have f917 : Fld Z T889.heap b864 cAL "size" "I" (.int (1 : Int32)) := f899
  have f918 : Ra Z T889.heap b891 cOB [(.ref v4), .null, .null, .null, .null, .null, .null, .null, .null, .null] := f900
  clear X863 e863
  show Go p e below (T889.setTop (mkF m 228 #[vi p0, vi p1, vi p2, vi p3, vi p4, vi ov, vi (1 : Int32), vi b1, vi b2, vi b3, vi xx, vi dd, vi yy, vr v1, vr v2, vr v3, vr v4, vr v5, vr b525, vi (1 : Int32), vr b534, .unset, .unset, .unset, .unset, .unset] [(.ref el)])) _
  refine Go.via (fun _ => XS.astore X889.here hx rfl (hb hby at_228) rfl rfl (l' := #[vi p0, vi p1, vi p2, vi p3, vi p4, vi ov, vi (1 : Int32), vi b1, vi b2, vi b3, vi xx, vi dd, vi yy, vr v1, vr v2, vr v3, vr v4, vr v5, vr b525, vi (1 : Int32), vr b534, vr el, .unset, .unset, .unset, .unset]) rfl) ?_
  show Go p e below (T889.setTop (mkF m 230 #[vi p0, vi p1, vi p2, vi p3, vi p4, vi ov, vi (1 : Int32), vi b1, vi b2, vi b3, vi xx, vi dd, vi yy, vr v1, vr v2, vr v3, vr v4, vr v5, vr b525, vi (1 : Int32), vr b534, vr el, .unset, .unset, .unset, .unset] [])) _
  by_cases hsp : (0 : Int32) < dd
  · have z1051 : n0 ≤ T889.heap.size := (Nat.le_trans z890 K889q.1)
    have k1052 : Keep h0 T889.heap [] := (k909.trans K889q (allS (Or.inr lf12_831) (allS (Or.inr sz877) all0)))
    have o1053 : Old Z n0 T889.heap := (o887.keep K889q (allS lf10_831 (allS ge876 all0)))
    have f1054 : Exa Z T889.heap b534 cAL := (f902.keep K889q)
    have f1055 : Fld Z T889.heap b534 cAL "elementData" cOA (.ref b834) := ((f854.keep K863q (ninS (Ne.symm lf9_831) nin0)).keep K889q (ninS (Ne.symm lf9_831) (ninS ne874 nin0)))
    have f1056 : Fld Z T889.heap b534 cAL "size" "I" (.int (1 : Int32)) := ((f855.keep K863q (ninS (Ne.symm lf9_831) nin0)).keep K889q (ninS (Ne.symm lf9_831) (ninS ne874 nin0)))
    have f1057 : Ra Z T889.heap b834 cOB [(.ref v1), .null, .null, .null, .null, .null, .null, .null, .null, .null] := (f904.keep K889q (ninS (Ne.symm ne844) (ninS ne875 nin0)))
    exact rm_rm0_c1s l Z a0 hw p0 p1 p2 p3 p4 de el ea ca cl v1 v2 v3 v4 v5 h0 n0 zD zN zL zH zC zLE zLF zLN zE1 zV1 zE2 zV2 zE3 zV3 zE4 zV4 zE5 zV5 hA hin1 hat1 hin2 hat2 hin3 hat3 hin4 hat4 hin5 hat5 hx hby hlk hml hown hZ hret T889 _ T889.heap ov b1 b2 b3 xx dd yy b525 b534 b834 b864 b891 X889 e889 N889 z1051 k1052 o1053 f910 f911 f912 f913 f1054 f1055 f1056 f1057 f914 f915 f916 f917 f918 lf9_831 ne844 ne873 ne901 lf10_831 lf12_831 hv_ov hv_xx hv_dd hv_yy hsp
  · have z1162 : n0 ≤ T889.heap.size := (Nat.le_trans z890 K889q.1)
    have k1163 : Keep h0 T889.heap [] := (k909.trans K889q (allS (Or.inr lf12_831) (allS (Or.inr sz877) all0)))
    have o1164 : Old Z n0 T889.heap := (o887.keep K889q (allS lf10_831 (allS ge876 all0)))
    have f1165 : Exa Z T889.heap b534 cAL := (f902.keep K889q)
    have f1166 : Fld Z T889.heap b534 cAL "elementData" cOA (.ref b834) := ((f854.keep K863q (ninS (Ne.symm lf9_831) nin0)).keep K889q (ninS (Ne.symm lf9_831) (ninS ne874 nin0)))
    have f1167 : Fld Z T889.heap b534 cAL "size" "I" (.int (1 : Int32)) := ((f855.keep K863q (ninS (Ne.symm lf9_831) nin0)).keep K889q (ninS (Ne.symm lf9_831) (ninS ne874 nin0)))
    have f1168 : Ra Z T889.heap b834 cOB [(.ref v1), .null, .null, .null, .null, .null, .null, .null, .null, .null] := (f904.keep K889q (ninS (Ne.symm ne844) (ninS ne875 nin0)))
    exact rm_rm0_c1n l Z a0 hw p0 p1 p2 p3 p4 de el ea ca cl v1 v2 v3 v4 v5 h0 n0 zD zN zL zH zC zLE zLF zLN zE1 zV1 zE2 zV2 zE3 zV3 zE4 zV4 zE5 zV5 hA hin1 hat1 hin2 hat2 hin3 hat3 hin4 hat4 hin5 hat5 hx hby hlk hml hown hZ hret T889 _ T889.heap ov b1 b2 b3 xx dd yy b525 b534 b834 b864 b891 X889 e889 N889 z1162 k1163 o1164 f910 f911 f912 f913 f1165 f1166 f1167 f1168 f914 f915 f916 f917 f918 lf9_831 ne844 ne873 ne874 ne875 ne901 ne903 ne905 ne906 lf10_831 ge876 ge907 lf12_831 sz877 sz908 hv_ov hv_xx hv_dd hv_yy hsp
set_option maxRecDepth 65536 in
set_option maxHeartbeats 40000000 in
theorem rm_rm0_c2s (l : Launch) (Z : State) (a0 : Array Value) (hw : ∀ d ∈ tables_1, d.before a0 Z = true) (p0 : Int32) (p1 : Int32) (p2 : Int32) (p3 : Int32) (p4 : Int32) (de : Addr) (el : Addr) (ea : Addr) (ca : Addr) (cl : Cell) (v1 : Addr) (v2 : Addr) (v3 : Addr) (v4 : Addr) (v5 : Addr) (h0 : Heap) (n0 : Nat) (zD : Sta Z Z.heap cAL cDE cOA (.ref de)) (zN : Rn Z Z.heap de (0 : Int32)) (zL : Sta Z Z.heap cIM "EMPTY_LIST" "Ljava/util/ImmutableCollections$ListN;" (.ref el)) (zH : Sta Z Z.heap cIC "high" "I" (.int (127 : Int32))) (zC : Sta Z Z.heap cIC "cache" "[Ljava/lang/Integer;" (.ref ca)) (zLE : Exa Z Z.heap el cLN) (zLF : Fld Z Z.heap el cLN "elements" cOA (.ref ea)) (zLN : Rn Z Z.heap ea (0 : Int32)) (zE1 : Exa Z Z.heap v1 cIN) (zV1 : Fld Z Z.heap v1 cIN "value" "I" (.int (1 : Int32))) (zE2 : Exa Z Z.heap v2 cIN) (zV2 : Fld Z Z.heap v2 cIN "value" "I" (.int (2 : Int32))) (zE3 : Exa Z Z.heap v3 cIN) (zV3 : Fld Z Z.heap v3 cIN "value" "I" (.int (3 : Int32))) (zE4 : Exa Z Z.heap v4 cIN) (zV4 : Fld Z Z.heap v4 cIN "value" "I" (.int (4 : Int32))) (zE5 : Exa Z Z.heap v5 cIN) (zV5 : Fld Z Z.heap v5 cIN "value" "I" (.int (5 : Int32))) (hA : Arr Z Z.heap ca cl (.object cIN)) (hin1 : ¬ (((1 : Int32) + (128 : Int32)) < 0 ∨ cl.slots.size ≤ ((1 : Int32) + (128 : Int32)).toNatClampNeg)) (hat1 : cl.slots[((1 : Int32) + (128 : Int32)).toNatClampNeg]? = some (.ref v1)) (hin2 : ¬ (((2 : Int32) + (128 : Int32)) < 0 ∨ cl.slots.size ≤ ((2 : Int32) + (128 : Int32)).toNatClampNeg)) (hat2 : cl.slots[((2 : Int32) + (128 : Int32)).toNatClampNeg]? = some (.ref v2)) (hin3 : ¬ (((3 : Int32) + (128 : Int32)) < 0 ∨ cl.slots.size ≤ ((3 : Int32) + (128 : Int32)).toNatClampNeg)) (hat3 : cl.slots[((3 : Int32) + (128 : Int32)).toNatClampNeg]? = some (.ref v3)) (hin4 : ¬ (((4 : Int32) + (128 : Int32)) < 0 ∨ cl.slots.size ≤ ((4 : Int32) + (128 : Int32)).toNatClampNeg)) (hat4 : cl.slots[((4 : Int32) + (128 : Int32)).toNatClampNeg]? = some (.ref v4)) (hin5 : ¬ (((5 : Int32) + (128 : Int32)) < 0 ∨ cl.slots.size ≤ ((5 : Int32) + (128 : Int32)).toNatClampNeg)) (hat5 : cl.slots[((5 : Int32) + (128 : Int32)).toNatClampNeg]? = some (.ref v5)) {p : Program} {e : Env} {s : State} {m : MethodId} {below : List Frame} {meth : Method} {c : Code} (hx : p.tables.exec = Jvm.exec) (hby : c.code = code) (hlk : meth.locks = false) (hml : c.maxLocals = 26) (hown : s.vm.findClass cLAW = some m.cls) (hZ : Z.Warmed39 s.vm) (hret : meth.sig.returnType = ret) :
    ∀ (T1286 : State) (L1286 : List Loc) (h1286 : Heap) (ov : Int32) (b1 : Int32) (b2 : Int32) (b3 : Int32) (xx : Int32) (dd : Int32) (yy : Int32) (b1175 : Addr) (b1231 : Addr) (b1258 : Addr) (b525 : Addr) (b534 : Addr), Stand p l e room_1 s m #[(.int p0), (.int p1), (.int p2), (.int p3), (.int p4)] below meth c T1286 L1286 5 29 → T1286.heap = h1286 → Fr n0 L1286 → n0 ≤ h1286.size → Keep h0 h1286 [] → Old Z n0 h1286 → Exa Z h1286 b525 cFI → Fld Z h1286 b525 cFI "part" "Ljava/util/List;" (.ref b1231) → Fld Z h1286 b525 cFI "overhead" "I" (.int ov) → Fld Z h1286 b525 cFI "partBytes" "J" (.long ((ov.toInt64) + (xx.toInt64))) → Exa Z h1286 b534 cAL → Fld Z h1286 b534 cAL "elementData" cOA (.ref b1175) → Fld Z h1286 b534 cAL "size" "I" (.int (2 : Int32)) → Ra Z h1286 b1175 cOB [(.ref v1), (.ref v2), .null, .null, .null, .null, .null, .null, .null, .null] → Exa Z h1286 b1231 cAL → Fld Z h1286 b1231 cAB "modCount" "I" (.int ((0 : Int32) + (1 : Int32))) → Fld Z h1286 b1231 cAL "elementData" cOA (.ref b1258) → Fld Z h1286 b1231 cAL "size" "I" (.int (1 : Int32)) → Ra Z h1286 b1258 cOB [(.ref v4), .null, .null, .null, .null, .null, .null, .null, .null, .null] → b525 ≠ b534 → b525 ≠ b1175 → b525 ≠ b1231 → b525 ≠ b1258 → n0 ≤ b525 → h0.size ≤ b525 → (p0 &&& (524287 : Int32)) = ov → (p3 &&& (524287 : Int32)) = xx → ((p4 &&& (3 : Int32)) - (1 : Int32)) = dd → (((((1048576 : Int32) - ov) - xx) - (1 : Int32)) + dd) = yy → (0 : Int32) < dd → Go p e below (T1286.setTop (mkF m 230 #[vi p0, vi p1, vi p2, vi p3, vi p4, vi ov, vi (2 : Int32), vi b1, vi b2, vi b3, vi xx, vi dd, vi yy, vr v1, vr v2, vr v3, vr v4, vr v5, vr b525, vi (1 : Int32), vr b534, vr el, .unset, .unset, .unset, .unset] [])) (Done s (Q_rm0 Z p0 p1 p2 p3 p4 de el ea ca cl v1 v2 v3 v4 v5 h0 n0) room_1.cells room_1.slots) := by
  intro T1286 L1286 h1286 ov b1 b2 b3 xx dd yy b1175 b1231 b1258 b525 b534 X1286 e1286 N1286 z1286 k1286 lf0_1286 lf1_1286 lf2_1286 lf3_1286 lf4_1286 lf5_1286 lf7_1286 lf8_1286 lf9_1286 lf10_1286 lf11_1286 lf12_1286 lf13_1286 lf14_1286 lf15_1286 lf16_1286 lf19_1286 lf23_1286 lf25_1286 lf30_1286 hv_ov hv_xx hv_dd hv_yy hsp
  show Go p e below (T1286.setTop (mkF m 230 #[vi p0, vi p1, vi p2, vi p3, vi p4, vi ov, vi (2 : Int32), vi b1, vi b2, vi b3, vi xx, vi dd, vi yy, vr v1, vr v2, vr v3, vr v4, vr v5, vr b525, vi (1 : Int32), vr b534, vr el, .unset, .unset, .unset, .unset] [])) _
  refine Go.via (fun _ => XS.aload X1286.here hx rfl (hb hby at_230) rfl rfl) ?_
  refine Go.via (fun _ => XS.aload X1286.here hx rfl (hb hby at_232) rfl rfl) ?_
  refine Go.via (fun _ => XS.iload X1286.here hx rfl (hb hby at_234) rfl) ?_
  have f1287 : Exa Z h1286 v5 cIN := zE5.ext lf0_1286.2
  obtain ⟨cq1288, kq1288, q1288a, q1288b, q1288c⟩ := isOf hZ e1286 lf1_1286
  obtain ⟨r1288, _, ⟨T1288, L1288, k1288, n1288⟩, -, X1288, ⟨Lc1288, hQ1288, l1288, y1288, z1288⟩, st1288⟩ := X1286.virtualBack hx (y := (⟨cFI, "add", "(Ljava/lang/Object;I)Ljava/util/List;"⟩ : MethodName)) (z := (⟨cFI, "add", "(Ljava/lang/Object;I)Ljava/util/List;"⟩ : MethodName)) hown (mvT hZ (tw hw 49 rfl)) (mvT hZ (tw hw 50 rfl)) (notFace_of_selects (args := #[]) (mvT hZ (tw hw 52 rfl))) (mvT hZ (tw hw 52 rfl)) (mvT hZ (tw hw 51 rfl)) (by decide) (backOf (W := 0) (rmFs1 l Z a0 hw [] b525 v5 yy b1231 ov ((ov.toInt64) + (xx.toInt64)) b1258 ((0 : Int32) + (1 : Int32)) el v4 de h1286 n0 z1286 lf1_1286 lf2_1286 lf3_1286 lf4_1286 lf10_1286 lf11_1286 lf12_1286 lf13_1286 lf14_1286 f1287 lf0_1286 zL zD zN lf25_1286 lf19_1286 lf23_1286 (own_sp hv_ov hv_xx hv_dd hv_yy hsp)) hZ (tw hw 53 rfl) (tw hw 12 rfl) (by decide) (by decide)) q1288a q1288c (g := (mkF m 236 #[vi p0, vi p1, vi p2, vi p3, vi p4, vi ov, vi (2 : Int32), vi b1, vi b2, vi b3, vi xx, vi dd, vi yy, vr v1, vr v2, vr v3, vr v4, vr v5, vr b525, vi (1 : Int32), vr b534, vr el, .unset, .unset, .unset, .unset] [(.int yy), (.ref v5), (.ref b525)])) rfl (by rw [hml]; rfl) (Steps.refl _) (argsL := [(.ref v5), (.int yy)]) (rest := []) (lenOf pd__28Ljava_2flang_2fObject_3bI_29Ljava_2futil_2fList_3b rfl) rfl (by show 2 * 0 + _ ≤ _; exact Nat.le_of_eq rfl) (hb hby at_236) (fun _ _ => ⟨rfl, e1286, (by decide : 5 + 2 ≤ _), (by decide : 29 + 13 ≤ _)⟩)
  dsimp only [Pt.U, Pt.locs, Pt.cells, Pt.slots] at X1288 l1288 y1288 z1288 st1288 hQ1288
  rw [l1288, y1288, z1288] at X1288
  clear l1288 y1288 z1288
  obtain ⟨b1289, b1290, hr1288, N1288q, K1288q, fz_b1289, fz_b1290, f1291, f1292, f1293, f1294, f1295, f1296, f1297, f1298, f1299⟩ := hQ1288
  rw [hr1288] at st1288
  clear hr1288
  have N1288 := Fr.app N1286 N1288q
  refine Go.via (fun _ kQ => st1288.trans kQ) ?_
  clear st1288
  have ne1300 : b1175 ≠ b1289 := Nat.ne_of_lt (Nat.lt_of_lt_of_le lf9_1286.lt fz_b1289)
  have ne1301 : b1231 ≠ b1289 := Nat.ne_of_lt (Nat.lt_of_lt_of_le lf10_1286.lt fz_b1289)
  have ne1302 : b1258 ≠ b1289 := Nat.ne_of_lt (Nat.lt_of_lt_of_le lf14_1286.lt fz_b1289)
  have ne1303 : b525 ≠ b1289 := Nat.ne_of_lt (Nat.lt_of_lt_of_le lf1_1286.lt fz_b1289)
  have ne1304 : b534 ≠ b1289 := Nat.ne_of_lt (Nat.lt_of_lt_of_le lf5_1286.lt fz_b1289)
  have ge1305 : n0 ≤ b1289 := Nat.le_trans z1286 fz_b1289
  have sz1306 : h0.size ≤ b1289 := Nat.le_trans k1286.1 fz_b1289
  have ne1307 : b1175 ≠ b1290 := Nat.ne_of_lt (Nat.lt_of_lt_of_le lf9_1286.lt fz_b1290)
  have ne1308 : b1231 ≠ b1290 := Nat.ne_of_lt (Nat.lt_of_lt_of_le lf10_1286.lt fz_b1290)
  have ne1309 : b1258 ≠ b1290 := Nat.ne_of_lt (Nat.lt_of_lt_of_le lf14_1286.lt fz_b1290)
  have ne1310 : b525 ≠ b1290 := Nat.ne_of_lt (Nat.lt_of_lt_of_le lf1_1286.lt fz_b1290)
  have ne1311 : b534 ≠ b1290 := Nat.ne_of_lt (Nat.lt_of_lt_of_le lf5_1286.lt fz_b1290)
  have ge1312 : n0 ≤ b1290 := Nat.le_trans z1286 fz_b1290
  have sz1313 : h0.size ≤ b1290 := Nat.le_trans k1286.1 fz_b1290
  have e1288 : T1288.heap = T1288.heap := rfl
  have f1314 : Exa Z T1288.heap b525 cFI := f1291
  have f1315 : Fld Z T1288.heap b525 cFI "part" "Ljava/util/List;" (.ref b1289) := f1292
  have f1316 : Fld Z T1288.heap b525 cFI "overhead" "I" (.int ov) := f1293
  have f1317 : Fld Z T1288.heap b525 cFI "partBytes" "J" (.long ((ov.toInt64) + (yy.toInt64))) := f1294
  have f1318 : Exa Z T1288.heap b1289 cAL := f1295
  have f1319 : Fld Z T1288.heap b1289 cAB "modCount" "I" (.int ((0 : Int32) + (1 : Int32))) := f1296
  have f1320 : Fld Z T1288.heap b1289 cAL "elementData" cOA (.ref b1290) := f1297
  have f1321 : Fld Z T1288.heap b1289 cAL "size" "I" (.int (1 : Int32)) := f1298
  have f1322 : Ra Z T1288.heap b1290 cOB [(.ref v5), .null, .null, .null, .null, .null, .null, .null, .null, .null] := f1299
  clear X1286 e1286
  show Go p e below (T1288.setTop (mkF m 239 #[vi p0, vi p1, vi p2, vi p3, vi p4, vi ov, vi (2 : Int32), vi b1, vi b2, vi b3, vi xx, vi dd, vi yy, vr v1, vr v2, vr v3, vr v4, vr v5, vr b525, vi (1 : Int32), vr b534, vr el, .unset, .unset, .unset, .unset] [(.ref b1231)])) _
  refine Go.via (fun _ => XS.astore X1288.here hx rfl (hb hby at_239) rfl rfl (l' := #[vi p0, vi p1, vi p2, vi p3, vi p4, vi ov, vi (2 : Int32), vi b1, vi b2, vi b3, vi xx, vi dd, vi yy, vr v1, vr v2, vr v3, vr v4, vr v5, vr b525, vi (1 : Int32), vr b534, vr el, vr b1231, .unset, .unset, .unset]) rfl) ?_
  refine Go.via (fun _ => XS.aload X1288.here hx rfl (hb hby at_241) rfl rfl) ?_
  have o1323 : Old Z n0 T1288.heap := (lf0_1286.keep K1288q (allS lf25_1286 all0))
  have z1325 : n0 ≤ T1288.heap.size := (Nat.le_trans z1286 K1288q.1)
  obtain ⟨cq1324, kq1324, q1324a, q1324b, q1324c⟩ := isOf hZ e1288 f1314
  obtain ⟨r1324, _, ⟨T1324, L1324, k1324, n1324⟩, -, X1324, ⟨Lc1324, hQ1324, l1324, y1324, z1324⟩, st1324⟩ := X1288.virtualBack hx (y := (⟨cFI, "last", "()Ljava/util/List;"⟩ : MethodName)) (z := (⟨cFI, "last", "()Ljava/util/List;"⟩ : MethodName)) hown (mvT hZ (tw hw 116 rfl)) (mvT hZ (tw hw 117 rfl)) (notFace_of_selects (args := #[]) (mvT hZ (tw hw 119 rfl))) (mvT hZ (tw hw 119 rfl)) (mvT hZ (tw hw 118 rfl)) (by decide) (backOf (W := 0) (rmLa l Z a0 hw [] b525 b1289 ov ((ov.toInt64) + (yy.toInt64)) de T1288.heap n0 z1325 f1314 f1315 f1316 f1317 o1323 zD lf25_1286) hZ (tw hw 120 rfl) (tw hw 12 rfl) (by decide) (by decide)) q1324a q1324c (g := (mkF m 243 #[vi p0, vi p1, vi p2, vi p3, vi p4, vi ov, vi (2 : Int32), vi b1, vi b2, vi b3, vi xx, vi dd, vi yy, vr v1, vr v2, vr v3, vr v4, vr v5, vr b525, vi (1 : Int32), vr b534, vr el, vr b1231, .unset, .unset, .unset] [(.ref b525)])) rfl (by rw [hml]; rfl) (Steps.refl _) (argsL := []) (rest := []) (lenOf pd__28_29Ljava_2futil_2fList_3b rfl) rfl (by show 2 * 0 + _ ≤ _; exact Nat.le_of_eq rfl) (hb hby at_243) (fun _ _ => ⟨rfl, e1288, (by decide : 7 + 1 ≤ _), (by decide : 42 + 3 ≤ _)⟩)
  dsimp only [Pt.U, Pt.locs, Pt.cells, Pt.slots] at X1324 l1324 y1324 z1324 st1324 hQ1324
  rw [l1324, y1324, z1324] at X1324
  clear l1324 y1324 z1324
  obtain ⟨b1326, hr1324, N1324q, K1324q, fz_b1326, f1327, f1328, f1329, f1330, f1331, f1332, f1333, f1334⟩ := hQ1324
  rw [hr1324] at st1324
  clear hr1324
  have N1324 := Fr.app N1288 N1324q
  refine Go.via (fun _ kQ => st1324.trans kQ) ?_
  clear st1324
  have f1335 : Ra Z T1288.heap b1175 cOB [(.ref v1), (.ref v2), .null, .null, .null, .null, .null, .null, .null, .null] := (lf9_1286.keep K1288q (ninS (Ne.symm lf16_1286) nin0))
  have ne1336 : b1175 ≠ b1326 := Nat.ne_of_lt (Nat.lt_of_lt_of_le f1335.lt fz_b1326)
  have f1337 : Exa Z T1288.heap b1231 cAL := (lf10_1286.keep K1288q)
  have ne1338 : b1231 ≠ b1326 := Nat.ne_of_lt (Nat.lt_of_lt_of_le f1337.lt fz_b1326)
  have f1339 : Ra Z T1288.heap b1258 cOB [(.ref v4), .null, .null, .null, .null, .null, .null, .null, .null, .null] := (lf14_1286.keep K1288q (ninS (Ne.symm lf23_1286) nin0))
  have ne1340 : b1258 ≠ b1326 := Nat.ne_of_lt (Nat.lt_of_lt_of_le f1339.lt fz_b1326)
  have ne1341 : b1289 ≠ b1326 := Nat.ne_of_lt (Nat.lt_of_lt_of_le f1318.lt fz_b1326)
  have ne1342 : b1290 ≠ b1326 := Nat.ne_of_lt (Nat.lt_of_lt_of_le f1322.lt fz_b1326)
  have ne1343 : b525 ≠ b1326 := Nat.ne_of_lt (Nat.lt_of_lt_of_le f1314.lt fz_b1326)
  have f1344 : Exa Z T1288.heap b534 cAL := (lf5_1286.keep K1288q)
  have ne1345 : b534 ≠ b1326 := Nat.ne_of_lt (Nat.lt_of_lt_of_le f1344.lt fz_b1326)
  have ge1346 : n0 ≤ b1326 := Nat.le_trans z1325 fz_b1326
  have k1348 : Keep h0 T1288.heap [] := (k1286.trans K1288q (allS (Or.inr lf30_1286) all0))
  have sz1347 : h0.size ≤ b1326 := Nat.le_trans k1348.1 fz_b1326
  have e1324 : T1324.heap = T1324.heap := rfl
  have f1349 : Exa Z T1324.heap b525 cFI := f1327
  have f1350 : Fld Z T1324.heap b525 cFI "part" "Ljava/util/List;" (.ref b1326) := f1328
  have f1351 : Fld Z T1324.heap b525 cFI "overhead" "I" (.int ov) := f1329
  have f1352 : Fld Z T1324.heap b525 cFI "partBytes" "J" (.long (ov.toInt64)) := f1330
  have f1353 : Exa Z T1324.heap b1326 cAL := f1331
  have f1354 : Fld Z T1324.heap b1326 cAB "modCount" "I" (.int (0 : Int32)) := f1332
  have f1355 : Fld Z T1324.heap b1326 cAL "elementData" cOA (.ref de) := f1333
  have f1356 : Fld Z T1324.heap b1326 cAL "size" "I" (.int (0 : Int32)) := f1334
  clear X1288 e1288
  show Go p e below (T1324.setTop (mkF m 246 #[vi p0, vi p1, vi p2, vi p3, vi p4, vi ov, vi (2 : Int32), vi b1, vi b2, vi b3, vi xx, vi dd, vi yy, vr v1, vr v2, vr v3, vr v4, vr v5, vr b525, vi (1 : Int32), vr b534, vr el, vr b1231, .unset, .unset, .unset] [(.ref b1289)])) _
  refine Go.via (fun _ => XS.astore X1324.here hx rfl (hb hby at_246) rfl rfl (l' := #[vi p0, vi p1, vi p2, vi p3, vi p4, vi ov, vi (2 : Int32), vi b1, vi b2, vi b3, vi xx, vi dd, vi yy, vr v1, vr v2, vr v3, vr v4, vr v5, vr b525, vi (1 : Int32), vr b534, vr el, vr b1231, vr b1289, .unset, .unset]) rfl) ?_
  refine Go.via (fun _ => XS.aload X1324.here hx rfl (hb hby at_248) rfl rfl) ?_
  have o1357 : Old Z n0 T1324.heap := (o1323.keep K1324q (allS lf25_1286 all0))
  have z1359 : n0 ≤ T1324.heap.size := (Nat.le_trans z1325 K1324q.1)
  obtain ⟨cq1358, kq1358, q1358a, q1358b, q1358c⟩ := isOf hZ e1324 f1349
  obtain ⟨r1358, _, ⟨T1358, L1358, k1358, n1358⟩, -, X1358, ⟨Lc1358, hQ1358, l1358, y1358, z1358⟩, st1358⟩ := X1324.virtualBack hx (y := (⟨cFI, "last", "()Ljava/util/List;"⟩ : MethodName)) (z := (⟨cFI, "last", "()Ljava/util/List;"⟩ : MethodName)) hown (mvT hZ (tw hw 116 rfl)) (mvT hZ (tw hw 117 rfl)) (notFace_of_selects (args := #[]) (mvT hZ (tw hw 119 rfl))) (mvT hZ (tw hw 119 rfl)) (mvT hZ (tw hw 118 rfl)) (by decide) (backOf (W := 0) (rmLa l Z a0 hw [] b525 b1326 ov (ov.toInt64) de T1324.heap n0 z1359 f1349 f1350 f1351 f1352 o1357 zD lf25_1286) hZ (tw hw 120 rfl) (tw hw 12 rfl) (by decide) (by decide)) q1358a q1358c (g := (mkF m 250 #[vi p0, vi p1, vi p2, vi p3, vi p4, vi ov, vi (2 : Int32), vi b1, vi b2, vi b3, vi xx, vi dd, vi yy, vr v1, vr v2, vr v3, vr v4, vr v5, vr b525, vi (1 : Int32), vr b534, vr el, vr b1231, vr b1289, .unset, .unset] [(.ref b525)])) rfl (by rw [hml]; rfl) (Steps.refl _) (argsL := []) (rest := []) (lenOf pd__28_29Ljava_2futil_2fList_3b rfl) rfl (by show 2 * 0 + _ ≤ _; exact Nat.le_of_eq rfl) (hb hby at_250) (fun _ _ => ⟨rfl, e1324, (by decide : 8 + 1 ≤ _), (by decide : 45 + 3 ≤ _)⟩)
  dsimp only [Pt.U, Pt.locs, Pt.cells, Pt.slots] at X1358 l1358 y1358 z1358 st1358 hQ1358
  rw [l1358, y1358, z1358] at X1358
  clear l1358 y1358 z1358
  obtain ⟨b1360, hr1358, N1358q, K1358q, fz_b1360, f1361, f1362, f1363, f1364, f1365, f1366, f1367, f1368⟩ := hQ1358
  rw [hr1358] at st1358
  clear hr1358
  have N1358 := Fr.app N1324 N1358q
  refine Go.via (fun _ kQ => st1358.trans kQ) ?_
  clear st1358
  have f1369 : Ra Z T1324.heap b1175 cOB [(.ref v1), (.ref v2), .null, .null, .null, .null, .null, .null, .null, .null] := (f1335.keep K1324q (ninS (Ne.symm lf16_1286) nin0))
  have ne1370 : b1175 ≠ b1360 := Nat.ne_of_lt (Nat.lt_of_lt_of_le f1369.lt fz_b1360)
  have f1371 : Exa Z T1324.heap b1231 cAL := (f1337.keep K1324q)
  have ne1372 : b1231 ≠ b1360 := Nat.ne_of_lt (Nat.lt_of_lt_of_le f1371.lt fz_b1360)
  have f1373 : Ra Z T1324.heap b1258 cOB [(.ref v4), .null, .null, .null, .null, .null, .null, .null, .null, .null] := (f1339.keep K1324q (ninS (Ne.symm lf23_1286) nin0))
  have ne1374 : b1258 ≠ b1360 := Nat.ne_of_lt (Nat.lt_of_lt_of_le f1373.lt fz_b1360)
  have f1375 : Exa Z T1324.heap b1289 cAL := (f1318.keep K1324q)
  have ne1376 : b1289 ≠ b1360 := Nat.ne_of_lt (Nat.lt_of_lt_of_le f1375.lt fz_b1360)
  have f1377 : Ra Z T1324.heap b1290 cOB [(.ref v5), .null, .null, .null, .null, .null, .null, .null, .null, .null] := (f1322.keep K1324q (ninS (Ne.symm ne1310) nin0))
  have ne1378 : b1290 ≠ b1360 := Nat.ne_of_lt (Nat.lt_of_lt_of_le f1377.lt fz_b1360)
  have ne1379 : b1326 ≠ b1360 := Nat.ne_of_lt (Nat.lt_of_lt_of_le f1353.lt fz_b1360)
  have ne1380 : b525 ≠ b1360 := Nat.ne_of_lt (Nat.lt_of_lt_of_le f1349.lt fz_b1360)
  have f1381 : Exa Z T1324.heap b534 cAL := (f1344.keep K1324q)
  have ne1382 : b534 ≠ b1360 := Nat.ne_of_lt (Nat.lt_of_lt_of_le f1381.lt fz_b1360)
  have ge1383 : n0 ≤ b1360 := Nat.le_trans z1359 fz_b1360
  have k1385 : Keep h0 T1324.heap [] := (k1348.trans K1324q (allS (Or.inr lf30_1286) all0))
  have sz1384 : h0.size ≤ b1360 := Nat.le_trans k1385.1 fz_b1360
  have e1358 : T1358.heap = T1358.heap := rfl
  have f1386 : Exa Z T1358.heap b525 cFI := f1361
  have f1387 : Fld Z T1358.heap b525 cFI "part" "Ljava/util/List;" (.ref b1360) := f1362
  have f1388 : Fld Z T1358.heap b525 cFI "overhead" "I" (.int ov) := f1363
  have f1389 : Fld Z T1358.heap b525 cFI "partBytes" "J" (.long (ov.toInt64)) := f1364
  have f1390 : Exa Z T1358.heap b1360 cAL := f1365
  have f1391 : Fld Z T1358.heap b1360 cAB "modCount" "I" (.int (0 : Int32)) := f1366
  have f1392 : Fld Z T1358.heap b1360 cAL "elementData" cOA (.ref de) := f1367
  have f1393 : Fld Z T1358.heap b1360 cAL "size" "I" (.int (0 : Int32)) := f1368
  clear X1324 e1324
  show Go p e below (T1358.setTop (mkF m 253 #[vi p0, vi p1, vi p2, vi p3, vi p4, vi ov, vi (2 : Int32), vi b1, vi b2, vi b3, vi xx, vi dd, vi yy, vr v1, vr v2, vr v3, vr v4, vr v5, vr b525, vi (1 : Int32), vr b534, vr el, vr b1231, vr b1289, .unset, .unset] [(.ref b1326)])) _
  refine Go.via (fun _ => XS.astore X1358.here hx rfl (hb hby at_253) rfl rfl (l' := #[vi p0, vi p1, vi p2, vi p3, vi p4, vi ov, vi (2 : Int32), vi b1, vi b2, vi b3, vi xx, vi dd, vi yy, vr v1, vr v2, vr v3, vr v4, vr v5, vr b525, vi (1 : Int32), vr b534, vr el, vr b1231, vr b1289, vr b1326, .unset]) rfl) ?_
  refine Go.via (fun _ => XS.iload X1358.here hx rfl (hb hby at_255) rfl) ?_
  refine Go.via (fun _ => XS.ifNo X1358.here hx rfl (hb hby at_257) rfl ((if0 _ _).trans (feq ((by decide) : ¬ ((1 : Int32) = (0 : Int32)))).1)) ?_
  refine Go.via (fun _ => XS.aload X1358.here hx rfl (hb hby at_260) rfl rfl) ?_
  have f1394 : Fld Z T1358.heap b534 cAL "size" "I" (.int (2 : Int32)) := (((lf8_1286.keep K1288q (ninS (Ne.symm lf15_1286) nin0)).keep K1324q (ninS (Ne.symm lf15_1286) nin0)).keep K1358q (ninS (Ne.symm lf15_1286) nin0))
  have z1396 : n0 ≤ T1358.heap.size := (Nat.le_trans z1359 K1358q.1)
  have f1397 : Exa Z T1358.heap b534 cAL := (f1381.keep K1358q)
  obtain ⟨cq1395, kq1395, q1395a, q1395b, q1395c⟩ := isOf hZ e1358 f1397
  obtain ⟨r1395, _, ⟨T1395, L1395, k1395, n1395⟩, -, X1395, ⟨Lc1395, hQ1395, l1395, y1395, z1395⟩, st1395⟩ := X1358.interfaceBack hx (xi := (⟨cLI, "size", "()I"⟩ : MethodName)) (y := (⟨cAL, "size", "()I"⟩ : MethodName)) hown (mvT hZ (tw hw 103 rfl)) (mvT hZ (tw hw 104 rfl)) (mvT hZ (tw hw 105 rfl)) (mvT hZ (tw hw 121 rfl)) (mvT hZ (tw hw 122 rfl)) (mvT hZ (tw hw 123 rfl)) (mvT hZ (tw hw 124 rfl)) (mvT hZ (tw hw 67 rfl)) (by decide) (backOf (W := 0) (rmSz l Z a0 hw [] b534 (2 : Int32) T1358.heap n0 z1396 f1394) hZ (tw hw 125 rfl) (tw hw 21 rfl) (by decide) (by decide)) q1395a q1395b q1395c (g := (mkF m 262 #[vi p0, vi p1, vi p2, vi p3, vi p4, vi ov, vi (2 : Int32), vi b1, vi b2, vi b3, vi xx, vi dd, vi yy, vr v1, vr v2, vr v3, vr v4, vr v5, vr b525, vi (1 : Int32), vr b534, vr el, vr b1231, vr b1289, vr b1326, .unset] [(.ref b534)])) rfl (by rw [hml]; rfl) (Steps.refl _) (argsL := []) (rest := []) (lenOf pd__28_29I rfl) rfl (by show 2 * 0 + _ ≤ _; exact Nat.le_of_eq rfl) (hb hby at_262) (fun _ _ => ⟨rfl, e1358, (by decide : 9 + 0 ≤ _), (by decide : 48 + 0 ≤ _)⟩)
  dsimp only [Pt.U, Pt.locs, Pt.cells, Pt.slots] at X1395 l1395 y1395 z1395 st1395 hQ1395
  rw [l1395, y1395, z1395] at X1395
  clear l1395 y1395 z1395
  obtain ⟨hr1395, N1395q, eh1395⟩ := hQ1395
  rw [hr1395] at st1395
  clear hr1395
  have N1395 := Fr.app N1358 N1395q
  refine Go.via (fun _ kQ => st1395.trans kQ) ?_
  clear st1395
  have e1395 : T1395.heap = T1358.heap := eh1395
  clear X1358 e1358
  show Go p e below (T1395.setTop (mkF m 267 #[vi p0, vi p1, vi p2, vi p3, vi p4, vi ov, vi (2 : Int32), vi b1, vi b2, vi b3, vi xx, vi dd, vi yy, vr v1, vr v2, vr v3, vr v4, vr v5, vr b525, vi (1 : Int32), vr b534, vr el, vr b1231, vr b1289, vr b1326, .unset] [(.int (2 : Int32))])) _
  refine Go.via (fun _ => XS.iload X1395.here hx rfl (hb hby at_267) rfl) ?_
  refine Go.via (fun _ => XS.icmpNo X1395.here hx rfl (hb hby at_269) rfl (teq ((by decide) : (2 : Int32) = (2 : Int32))).2) ?_
  refine Go.via (fun _ => XS.iconst X1395.here hx rfl (hb hby at_272)) ?_
  refine Go.via (fun _ => XS.goto X1395.here hx rfl (pc0 := 273) (pc' := 277) rfl (hb hby at_273) (by decide) (by decide)) ?_
  refine Go.via (fun _ => XS.istore X1395.here hx rfl (hb hby at_277) rfl (l' := #[vi p0, vi p1, vi p2, vi p3, vi p4, vi ov, vi (2 : Int32), vi b1, vi b2, vi b3, vi xx, vi dd, vi yy, vr v1, vr v2, vr v3, vr v4, vr v5, vr b525, vi (1 : Int32), vr b534, vr el, vr b1231, vr b1289, vr b1326, .unset]) rfl) ?_
  refine Go.via (fun _ => XS.iload X1395.here hx rfl (hb hby at_279) rfl) ?_
  refine Go.via (fun _ => XS.ifNo X1395.here hx rfl (hb hby at_281) rfl ((if0 _ _).trans (feq ((by decide) : ¬ ((1 : Int32) = (0 : Int32)))).1)) ?_
  show Go p e below (T1395.setTop (mkF m 284 #[vi p0, vi p1, vi p2, vi p3, vi p4, vi ov, vi (2 : Int32), vi b1, vi b2, vi b3, vi xx, vi dd, vi yy, vr v1, vr v2, vr v3, vr v4, vr v5, vr b525, vi (1 : Int32), vr b534, vr el, vr b1231, vr b1289, vr b1326, .unset] [])) _
  refine Go.via (fun _ => XS.iload X1395.here hx rfl (hb hby at_284) rfl) ?_
  refine Go.via (fun _ => XS.iconst X1395.here hx rfl (hb hby at_286)) ?_
  refine Go.via (fun _ => XS.icmpNo X1395.here hx rfl (hb hby at_287) rfl (flt ((by decide) : ¬ ((2 : Int32) < (1 : Int32)))).1) ?_
  refine Go.via (fun _ => XS.aload X1395.here hx rfl (hb hby at_290) rfl rfl) ?_
  refine Go.via (fun _ => XS.iconst X1395.here hx rfl (hb hby at_292)) ?_
  have f1398 : Fld Z T1358.heap b534 cAL "elementData" cOA (.ref b1175) := (((lf7_1286.keep K1288q (ninS (Ne.symm lf15_1286) nin0)).keep K1324q (ninS (Ne.symm lf15_1286) nin0)).keep K1358q (ninS (Ne.symm lf15_1286) nin0))
  have f1399 : Ra Z T1358.heap b1175 cOB [(.ref v1), (.ref v2), .null, .null, .null, .null, .null, .null, .null, .null] := (f1369.keep K1358q (ninS (Ne.symm lf16_1286) nin0))
  obtain ⟨cq1400, kq1400, q1400a, q1400b, q1400c⟩ := isOf hZ e1395 f1397
  obtain ⟨r1400, _, ⟨T1400, L1400, k1400, n1400⟩, -, X1400, ⟨Lc1400, hQ1400, l1400, y1400, z1400⟩, st1400⟩ := X1395.interfaceBack hx (xi := (⟨cLI, "get", "(I)Ljava/lang/Object;"⟩ : MethodName)) (y := (⟨cAL, "get", "(I)Ljava/lang/Object;"⟩ : MethodName)) hown (mvT hZ (tw hw 126 rfl)) (mvT hZ (tw hw 127 rfl)) (mvT hZ (tw hw 128 rfl)) (mvT hZ (tw hw 129 rfl)) (mvT hZ (tw hw 130 rfl)) (mvT hZ (tw hw 131 rfl)) (mvT hZ (tw hw 132 rfl)) (mvT hZ (tw hw 67 rfl)) (by decide) (backOf (W := 0) (rmGt l Z a0 hw [] b534 (0 : Int32) b1175 [(.ref v1), (.ref v2), .null, .null, .null, .null, .null, .null, .null, .null] v1 (2 : Int32) T1358.heap n0 z1396 f1398 f1394 f1399 f1397 (by first | decide | (simp only [List.length_cons, List.length_nil]; decide) | rfl) (by first | decide | (simp only [List.length_cons, List.length_nil]; decide) | rfl) rfl) hZ (tw hw 133 rfl) (tw hw 21 rfl) (by decide) (by decide)) q1400a q1400b q1400c (g := (mkF m 293 #[vi p0, vi p1, vi p2, vi p3, vi p4, vi ov, vi (2 : Int32), vi b1, vi b2, vi b3, vi xx, vi dd, vi yy, vr v1, vr v2, vr v3, vr v4, vr v5, vr b525, vi (1 : Int32), vr b534, vr el, vr b1231, vr b1289, vr b1326, .unset] [(.int (0 : Int32)), (.ref b534)])) rfl (by rw [hml]; rfl) (Steps.refl _) (argsL := [(.int (0 : Int32))]) (rest := []) (lenOf pd__28I_29Ljava_2flang_2fObject_3b rfl) rfl (by show 2 * 0 + _ ≤ _; exact Nat.le_of_eq rfl) (hb hby at_293) (fun _ _ => ⟨rfl, e1395, (by decide : 9 + 0 ≤ _), (by decide : 48 + 0 ≤ _)⟩)
  dsimp only [Pt.U, Pt.locs, Pt.cells, Pt.slots] at X1400 l1400 y1400 z1400 st1400 hQ1400
  rw [l1400, y1400, z1400] at X1400
  clear l1400 y1400 z1400
  obtain ⟨hr1400, N1400q, eh1400⟩ := hQ1400
  rw [hr1400] at st1400
  clear hr1400
  have N1400 := Fr.app N1395 N1400q
  refine Go.via (fun _ kQ => st1400.trans kQ) ?_
  clear st1400
  have e1400 : T1400.heap = T1358.heap := eh1400
  clear X1395 e1395
  show Go p e below (T1400.setTop (mkF m 298 #[vi p0, vi p1, vi p2, vi p3, vi p4, vi ov, vi (2 : Int32), vi b1, vi b2, vi b3, vi xx, vi dd, vi yy, vr v1, vr v2, vr v3, vr v4, vr v5, vr b525, vi (1 : Int32), vr b534, vr el, vr b1231, vr b1289, vr b1326, .unset] [(.ref v1)])) _
  have o1401 : Old Z n0 T1358.heap := (o1357.keep K1358q (allS lf25_1286 all0))
  have f1402 : Exa Z T1358.heap v1 cIN := zE1.ext o1401.2
  obtain ⟨T1403, X1403, e1403, st1403⟩ := castY X1400 hx hZ hown (tw hw 147 rfl) e1400 (Ins.self f1402) (g := (mkF m 298 #[vi p0, vi p1, vi p2, vi p3, vi p4, vi ov, vi (2 : Int32), vi b1, vi b2, vi b3, vi xx, vi dd, vi yy, vr v1, vr v2, vr v3, vr v4, vr v5, vr b525, vi (1 : Int32), vr b534, vr el, vr b1231, vr b1289, vr b1326, .unset] [(.ref v1)])) rfl rfl (hb hby at_298)
  refine Go.via (st1403) ?_
  clear st1403
  clear X1400 e1400
  show Go p e below (T1403.setTop (mkF m 301 #[vi p0, vi p1, vi p2, vi p3, vi p4, vi ov, vi (2 : Int32), vi b1, vi b2, vi b3, vi xx, vi dd, vi yy, vr v1, vr v2, vr v3, vr v4, vr v5, vr b525, vi (1 : Int32), vr b534, vr el, vr b1231, vr b1289, vr b1326, .unset] [(.ref v1)])) _
  have f1404 : Fld Z T1358.heap v1 cIN "value" "I" (.int (1 : Int32)) := zV1.ext o1401.2
  have f1406 : Exa Z T1358.heap v1 cIN := zE1.ext o1401.2
  obtain ⟨cq1405, kq1405, q1405a, q1405b, q1405c⟩ := isOf hZ e1403 f1406
  obtain ⟨r1405, _, ⟨T1405, L1405, k1405, n1405⟩, -, X1405, ⟨Lc1405, hQ1405, l1405, y1405, z1405⟩, st1405⟩ := X1403.virtualBack hx (y := (⟨cIN, "intValue", "()I"⟩ : MethodName)) (z := (⟨cIN, "intValue", "()I"⟩ : MethodName)) hown (mvT hZ (tw hw 149 rfl)) (mvT hZ (tw hw 150 rfl)) (notFace_of_selects (args := #[]) (mvT hZ (tw hw 152 rfl))) (mvT hZ (tw hw 152 rfl)) (mvT hZ (tw hw 151 rfl)) (by decide) (backOf (W := 0) (rmIv l Z a0 hw [] v1 (1 : Int32) T1358.heap n0 z1396 f1404) hZ (tw hw 153 rfl) (tw hw 5 rfl) (by decide) (by decide)) q1405a q1405c (g := (mkF m 301 #[vi p0, vi p1, vi p2, vi p3, vi p4, vi ov, vi (2 : Int32), vi b1, vi b2, vi b3, vi xx, vi dd, vi yy, vr v1, vr v2, vr v3, vr v4, vr v5, vr b525, vi (1 : Int32), vr b534, vr el, vr b1231, vr b1289, vr b1326, .unset] [(.ref v1)])) rfl (by rw [hml]; rfl) (Steps.refl _) (argsL := []) (rest := []) (lenOf pd__28_29I rfl) rfl (by show 2 * 0 + _ ≤ _; exact Nat.le_of_eq rfl) (hb hby at_301) (fun _ _ => ⟨rfl, e1403, (by decide : 9 + 0 ≤ _), (by decide : 48 + 0 ≤ _)⟩)
  dsimp only [Pt.U, Pt.locs, Pt.cells, Pt.slots] at X1405 l1405 y1405 z1405 st1405 hQ1405
  rw [l1405, y1405, z1405] at X1405
  clear l1405 y1405 z1405
  obtain ⟨hr1405, N1405q, eh1405⟩ := hQ1405
  rw [hr1405] at st1405
  clear hr1405
  have N1405 := Fr.app N1400 N1405q
  refine Go.via (fun _ kQ => st1405.trans kQ) ?_
  clear st1405
  have e1405 : T1405.heap = T1358.heap := eh1405
  clear X1403 e1403
  show Go p e below (T1405.setTop (mkF m 304 #[vi p0, vi p1, vi p2, vi p3, vi p4, vi ov, vi (2 : Int32), vi b1, vi b2, vi b3, vi xx, vi dd, vi yy, vr v1, vr v2, vr v3, vr v4, vr v5, vr b525, vi (1 : Int32), vr b534, vr el, vr b1231, vr b1289, vr b1326, .unset] [(.int (1 : Int32))])) _
  refine Go.via (fun _ => XS.iconst X1405.here hx rfl (hb hby at_304)) ?_
  refine Go.via (fun _ => XS.icmpNo X1405.here hx rfl (hb hby at_305) rfl (teq ((by decide) : (1 : Int32) = (1 : Int32))).2) ?_
  refine Go.via (fun _ => XS.iconst X1405.here hx rfl (hb hby at_308)) ?_
  refine Go.via (fun _ => XS.goto X1405.here hx rfl (pc0 := 309) (pc' := 313) rfl (hb hby at_309) (by decide) (by decide)) ?_
  refine Go.via (fun _ => XS.istore X1405.here hx rfl (hb hby at_313) rfl (l' := #[vi p0, vi p1, vi p2, vi p3, vi p4, vi ov, vi (2 : Int32), vi b1, vi b2, vi b3, vi xx, vi dd, vi yy, vr v1, vr v2, vr v3, vr v4, vr v5, vr b525, vi (1 : Int32), vr b534, vr el, vr b1231, vr b1289, vr b1326, .unset]) rfl) ?_
  refine Go.via (fun _ => XS.iload X1405.here hx rfl (hb hby at_315) rfl) ?_
  refine Go.via (fun _ => XS.ifNo X1405.here hx rfl (hb hby at_317) rfl ((if0 _ _).trans (feq ((by decide) : ¬ ((1 : Int32) = (0 : Int32)))).1)) ?_
  show Go p e below (T1405.setTop (mkF m 320 #[vi p0, vi p1, vi p2, vi p3, vi p4, vi ov, vi (2 : Int32), vi b1, vi b2, vi b3, vi xx, vi dd, vi yy, vr v1, vr v2, vr v3, vr v4, vr v5, vr b525, vi (1 : Int32), vr b534, vr el, vr b1231, vr b1289, vr b1326, .unset] [])) _
  refine Go.via (fun _ => XS.iload X1405.here hx rfl (hb hby at_320) rfl) ?_
  refine Go.via (fun _ => XS.iconst X1405.here hx rfl (hb hby at_322)) ?_
  refine Go.via (fun _ => XS.icmpNo X1405.here hx rfl (hb hby at_323) rfl (flt ((by decide) : ¬ ((2 : Int32) < (2 : Int32)))).1) ?_
  refine Go.via (fun _ => XS.aload X1405.here hx rfl (hb hby at_326) rfl rfl) ?_
  refine Go.via (fun _ => XS.iconst X1405.here hx rfl (hb hby at_328)) ?_
  obtain ⟨cq1407, kq1407, q1407a, q1407b, q1407c⟩ := isOf hZ e1405 f1397
  obtain ⟨r1407, _, ⟨T1407, L1407, k1407, n1407⟩, -, X1407, ⟨Lc1407, hQ1407, l1407, y1407, z1407⟩, st1407⟩ := X1405.interfaceBack hx (xi := (⟨cLI, "get", "(I)Ljava/lang/Object;"⟩ : MethodName)) (y := (⟨cAL, "get", "(I)Ljava/lang/Object;"⟩ : MethodName)) hown (mvT hZ (tw hw 126 rfl)) (mvT hZ (tw hw 127 rfl)) (mvT hZ (tw hw 128 rfl)) (mvT hZ (tw hw 129 rfl)) (mvT hZ (tw hw 130 rfl)) (mvT hZ (tw hw 131 rfl)) (mvT hZ (tw hw 132 rfl)) (mvT hZ (tw hw 67 rfl)) (by decide) (backOf (W := 0) (rmGt l Z a0 hw [] b534 (1 : Int32) b1175 [(.ref v1), (.ref v2), .null, .null, .null, .null, .null, .null, .null, .null] v2 (2 : Int32) T1358.heap n0 z1396 f1398 f1394 f1399 f1397 (by first | decide | (simp only [List.length_cons, List.length_nil]; decide) | rfl) (by first | decide | (simp only [List.length_cons, List.length_nil]; decide) | rfl) rfl) hZ (tw hw 133 rfl) (tw hw 21 rfl) (by decide) (by decide)) q1407a q1407b q1407c (g := (mkF m 329 #[vi p0, vi p1, vi p2, vi p3, vi p4, vi ov, vi (2 : Int32), vi b1, vi b2, vi b3, vi xx, vi dd, vi yy, vr v1, vr v2, vr v3, vr v4, vr v5, vr b525, vi (1 : Int32), vr b534, vr el, vr b1231, vr b1289, vr b1326, .unset] [(.int (1 : Int32)), (.ref b534)])) rfl (by rw [hml]; rfl) (Steps.refl _) (argsL := [(.int (1 : Int32))]) (rest := []) (lenOf pd__28I_29Ljava_2flang_2fObject_3b rfl) rfl (by show 2 * 0 + _ ≤ _; exact Nat.le_of_eq rfl) (hb hby at_329) (fun _ _ => ⟨rfl, e1405, (by decide : 9 + 0 ≤ _), (by decide : 48 + 0 ≤ _)⟩)
  dsimp only [Pt.U, Pt.locs, Pt.cells, Pt.slots] at X1407 l1407 y1407 z1407 st1407 hQ1407
  rw [l1407, y1407, z1407] at X1407
  clear l1407 y1407 z1407
  obtain ⟨hr1407, N1407q, eh1407⟩ := hQ1407
  rw [hr1407] at st1407
  clear hr1407
  have N1407 := Fr.app N1405 N1407q
  refine Go.via (fun _ kQ => st1407.trans kQ) ?_
  clear st1407
  have e1407 : T1407.heap = T1358.heap := eh1407
  clear X1405 e1405
  show Go p e below (T1407.setTop (mkF m 334 #[vi p0, vi p1, vi p2, vi p3, vi p4, vi ov, vi (2 : Int32), vi b1, vi b2, vi b3, vi xx, vi dd, vi yy, vr v1, vr v2, vr v3, vr v4, vr v5, vr b525, vi (1 : Int32), vr b534, vr el, vr b1231, vr b1289, vr b1326, .unset] [(.ref v2)])) _
  have f1408 : Exa Z T1358.heap v2 cIN := zE2.ext o1401.2
  obtain ⟨T1409, X1409, e1409, st1409⟩ := castY X1407 hx hZ hown (tw hw 147 rfl) e1407 (Ins.self f1408) (g := (mkF m 334 #[vi p0, vi p1, vi p2, vi p3, vi p4, vi ov, vi (2 : Int32), vi b1, vi b2, vi b3, vi xx, vi dd, vi yy, vr v1, vr v2, vr v3, vr v4, vr v5, vr b525, vi (1 : Int32), vr b534, vr el, vr b1231, vr b1289, vr b1326, .unset] [(.ref v2)])) rfl rfl (hb hby at_334)
  refine Go.via (st1409) ?_
  clear st1409
  clear X1407 e1407
  show Go p e below (T1409.setTop (mkF m 337 #[vi p0, vi p1, vi p2, vi p3, vi p4, vi ov, vi (2 : Int32), vi b1, vi b2, vi b3, vi xx, vi dd, vi yy, vr v1, vr v2, vr v3, vr v4, vr v5, vr b525, vi (1 : Int32), vr b534, vr el, vr b1231, vr b1289, vr b1326, .unset] [(.ref v2)])) _
  have f1410 : Fld Z T1358.heap v2 cIN "value" "I" (.int (2 : Int32)) := zV2.ext o1401.2
  have f1412 : Exa Z T1358.heap v2 cIN := zE2.ext o1401.2
  obtain ⟨cq1411, kq1411, q1411a, q1411b, q1411c⟩ := isOf hZ e1409 f1412
  obtain ⟨r1411, _, ⟨T1411, L1411, k1411, n1411⟩, -, X1411, ⟨Lc1411, hQ1411, l1411, y1411, z1411⟩, st1411⟩ := X1409.virtualBack hx (y := (⟨cIN, "intValue", "()I"⟩ : MethodName)) (z := (⟨cIN, "intValue", "()I"⟩ : MethodName)) hown (mvT hZ (tw hw 149 rfl)) (mvT hZ (tw hw 150 rfl)) (notFace_of_selects (args := #[]) (mvT hZ (tw hw 152 rfl))) (mvT hZ (tw hw 152 rfl)) (mvT hZ (tw hw 151 rfl)) (by decide) (backOf (W := 0) (rmIv l Z a0 hw [] v2 (2 : Int32) T1358.heap n0 z1396 f1410) hZ (tw hw 153 rfl) (tw hw 5 rfl) (by decide) (by decide)) q1411a q1411c (g := (mkF m 337 #[vi p0, vi p1, vi p2, vi p3, vi p4, vi ov, vi (2 : Int32), vi b1, vi b2, vi b3, vi xx, vi dd, vi yy, vr v1, vr v2, vr v3, vr v4, vr v5, vr b525, vi (1 : Int32), vr b534, vr el, vr b1231, vr b1289, vr b1326, .unset] [(.ref v2)])) rfl (by rw [hml]; rfl) (Steps.refl _) (argsL := []) (rest := []) (lenOf pd__28_29I rfl) rfl (by show 2 * 0 + _ ≤ _; exact Nat.le_of_eq rfl) (hb hby at_337) (fun _ _ => ⟨rfl, e1409, (by decide : 9 + 0 ≤ _), (by decide : 48 + 0 ≤ _)⟩)
  dsimp only [Pt.U, Pt.locs, Pt.cells, Pt.slots] at X1411 l1411 y1411 z1411 st1411 hQ1411
  rw [l1411, y1411, z1411] at X1411
  clear l1411 y1411 z1411
  obtain ⟨hr1411, N1411q, eh1411⟩ := hQ1411
  rw [hr1411] at st1411
  clear hr1411
  have N1411 := Fr.app N1407 N1411q
  refine Go.via (fun _ kQ => st1411.trans kQ) ?_
  clear st1411
  have e1411 : T1411.heap = T1358.heap := eh1411
  clear X1409 e1409
  show Go p e below (T1411.setTop (mkF m 340 #[vi p0, vi p1, vi p2, vi p3, vi p4, vi ov, vi (2 : Int32), vi b1, vi b2, vi b3, vi xx, vi dd, vi yy, vr v1, vr v2, vr v3, vr v4, vr v5, vr b525, vi (1 : Int32), vr b534, vr el, vr b1231, vr b1289, vr b1326, .unset] [(.int (2 : Int32))])) _
  refine Go.via (fun _ => XS.iconst X1411.here hx rfl (hb hby at_340)) ?_
  refine Go.via (fun _ => XS.icmpNo X1411.here hx rfl (hb hby at_341) rfl (teq ((by decide) : (2 : Int32) = (2 : Int32))).2) ?_
  refine Go.via (fun _ => XS.iconst X1411.here hx rfl (hb hby at_344)) ?_
  refine Go.via (fun _ => XS.goto X1411.here hx rfl (pc0 := 345) (pc' := 349) rfl (hb hby at_345) (by decide) (by decide)) ?_
  refine Go.via (fun _ => XS.istore X1411.here hx rfl (hb hby at_349) rfl (l' := #[vi p0, vi p1, vi p2, vi p3, vi p4, vi ov, vi (2 : Int32), vi b1, vi b2, vi b3, vi xx, vi dd, vi yy, vr v1, vr v2, vr v3, vr v4, vr v5, vr b525, vi (1 : Int32), vr b534, vr el, vr b1231, vr b1289, vr b1326, .unset]) rfl) ?_
  refine Go.via (fun _ => XS.iload X1411.here hx rfl (hb hby at_351) rfl) ?_
  refine Go.via (fun _ => XS.ifNo X1411.here hx rfl (hb hby at_353) rfl ((if0 _ _).trans (feq ((by decide) : ¬ ((1 : Int32) = (0 : Int32)))).1)) ?_
  show Go p e below (T1411.setTop (mkF m 356 #[vi p0, vi p1, vi p2, vi p3, vi p4, vi ov, vi (2 : Int32), vi b1, vi b2, vi b3, vi xx, vi dd, vi yy, vr v1, vr v2, vr v3, vr v4, vr v5, vr b525, vi (1 : Int32), vr b534, vr el, vr b1231, vr b1289, vr b1326, .unset] [])) _
  refine Go.via (fun _ => XS.iload X1411.here hx rfl (hb hby at_356) rfl) ?_
  refine Go.via (fun _ => XS.iconst X1411.here hx rfl (hb hby at_358)) ?_
  refine Go.via (fun _ => XS.icmpYes X1411.here hx rfl (pc0 := 359) (pc' := 387) rfl (hb hby at_359) rfl (tlt ((by decide) : (2 : Int32) < (3 : Int32))).1 (by decide) (by decide)) ?_
  have X1411m := X1411.more (by decide : _ ≤ 13) (by decide : _ ≤ 61)
  have f1413 : Exa Z T1358.heap b1326 cAL := (f1353.keep K1358q)
  have f1414 : Fld Z T1358.heap b1326 cAL "size" "I" (.int (0 : Int32)) := (f1356.keep K1358q (ninS (Ne.symm ne1343) nin0))
  have f1415 : Exa Z T1358.heap b1231 cAL := (f1371.keep K1358q)
  have f1416 : Fld Z T1358.heap b1231 cAL "size" "I" (.int (1 : Int32)) := (((lf13_1286.keep K1288q (ninS (Ne.symm lf19_1286) nin0)).keep K1324q (ninS (Ne.symm lf19_1286) nin0)).keep K1358q (ninS (Ne.symm lf19_1286) nin0))
  have f1417 : Fld Z T1358.heap b1231 cAL "elementData" cOA (.ref b1258) := (((lf12_1286.keep K1288q (ninS (Ne.symm lf19_1286) nin0)).keep K1324q (ninS (Ne.symm lf19_1286) nin0)).keep K1358q (ninS (Ne.symm lf19_1286) nin0))
  have f1418 : Ra Z T1358.heap b1258 cOB [(.ref v4), .null, .null, .null, .null, .null, .null, .null, .null, .null] := (f1373.keep K1358q (ninS (Ne.symm lf23_1286) nin0))
  have f1419 : Exa Z T1358.heap b1289 cAL := (f1375.keep K1358q)
  have f1420 : Fld Z T1358.heap b1289 cAL "size" "I" (.int (1 : Int32)) := ((f1321.keep K1324q (ninS (Ne.symm ne1303) nin0)).keep K1358q (ninS (Ne.symm ne1303) nin0))
  have f1421 : Fld Z T1358.heap b1289 cAL "elementData" cOA (.ref b1290) := ((f1320.keep K1324q (ninS (Ne.symm ne1303) nin0)).keep K1358q (ninS (Ne.symm ne1303) nin0))
  have f1422 : Ra Z T1358.heap b1290 cOB [(.ref v5), .null, .null, .null, .null, .null, .null, .null, .null, .null] := (f1377.keep K1358q (ninS (Ne.symm ne1310) nin0))
  have k1423 : Keep h0 T1358.heap [] := (k1385.trans K1358q (allS (Or.inr lf30_1286) all0))
  exact rm_rm0_JS l Z a0 hw p0 p1 p2 p3 p4 de el ea ca cl v1 v2 v3 v4 v5 h0 n0 zD zN zL zH zC zLE zLF zLN zE1 zV1 zE2 zV2 zE3 zV3 zE4 zV4 zE5 zV5 hA hin1 hat1 hin2 hat2 hin3 hat3 hin4 hat4 hin5 hat5 hx hby hlk hml hown hZ hret T1411 _ T1358.heap ov b1 b2 b3 xx dd yy (2 : Int32) b525 b534 b1231 b1326 b1258 b1289 b1290 X1411m e1411 N1411 z1396 k1423 f1397 f1394 f1413 f1414 o1401 f1415 f1416 f1417 f1418 f1419 f1420 f1421 f1422 hsp
set_option maxRecDepth 65536 in
set_option maxHeartbeats 40000000 in
theorem rm_rm0_c2n (l : Launch) (Z : State) (a0 : Array Value) (hw : ∀ d ∈ tables_1, d.before a0 Z = true) (p0 : Int32) (p1 : Int32) (p2 : Int32) (p3 : Int32) (p4 : Int32) (de : Addr) (el : Addr) (ea : Addr) (ca : Addr) (cl : Cell) (v1 : Addr) (v2 : Addr) (v3 : Addr) (v4 : Addr) (v5 : Addr) (h0 : Heap) (n0 : Nat) (zD : Sta Z Z.heap cAL cDE cOA (.ref de)) (zN : Rn Z Z.heap de (0 : Int32)) (zL : Sta Z Z.heap cIM "EMPTY_LIST" "Ljava/util/ImmutableCollections$ListN;" (.ref el)) (zH : Sta Z Z.heap cIC "high" "I" (.int (127 : Int32))) (zC : Sta Z Z.heap cIC "cache" "[Ljava/lang/Integer;" (.ref ca)) (zLE : Exa Z Z.heap el cLN) (zLF : Fld Z Z.heap el cLN "elements" cOA (.ref ea)) (zLN : Rn Z Z.heap ea (0 : Int32)) (zE1 : Exa Z Z.heap v1 cIN) (zV1 : Fld Z Z.heap v1 cIN "value" "I" (.int (1 : Int32))) (zE2 : Exa Z Z.heap v2 cIN) (zV2 : Fld Z Z.heap v2 cIN "value" "I" (.int (2 : Int32))) (zE3 : Exa Z Z.heap v3 cIN) (zV3 : Fld Z Z.heap v3 cIN "value" "I" (.int (3 : Int32))) (zE4 : Exa Z Z.heap v4 cIN) (zV4 : Fld Z Z.heap v4 cIN "value" "I" (.int (4 : Int32))) (zE5 : Exa Z Z.heap v5 cIN) (zV5 : Fld Z Z.heap v5 cIN "value" "I" (.int (5 : Int32))) (hA : Arr Z Z.heap ca cl (.object cIN)) (hin1 : ¬ (((1 : Int32) + (128 : Int32)) < 0 ∨ cl.slots.size ≤ ((1 : Int32) + (128 : Int32)).toNatClampNeg)) (hat1 : cl.slots[((1 : Int32) + (128 : Int32)).toNatClampNeg]? = some (.ref v1)) (hin2 : ¬ (((2 : Int32) + (128 : Int32)) < 0 ∨ cl.slots.size ≤ ((2 : Int32) + (128 : Int32)).toNatClampNeg)) (hat2 : cl.slots[((2 : Int32) + (128 : Int32)).toNatClampNeg]? = some (.ref v2)) (hin3 : ¬ (((3 : Int32) + (128 : Int32)) < 0 ∨ cl.slots.size ≤ ((3 : Int32) + (128 : Int32)).toNatClampNeg)) (hat3 : cl.slots[((3 : Int32) + (128 : Int32)).toNatClampNeg]? = some (.ref v3)) (hin4 : ¬ (((4 : Int32) + (128 : Int32)) < 0 ∨ cl.slots.size ≤ ((4 : Int32) + (128 : Int32)).toNatClampNeg)) (hat4 : cl.slots[((4 : Int32) + (128 : Int32)).toNatClampNeg]? = some (.ref v4)) (hin5 : ¬ (((5 : Int32) + (128 : Int32)) < 0 ∨ cl.slots.size ≤ ((5 : Int32) + (128 : Int32)).toNatClampNeg)) (hat5 : cl.slots[((5 : Int32) + (128 : Int32)).toNatClampNeg]? = some (.ref v5)) {p : Program} {e : Env} {s : State} {m : MethodId} {below : List Frame} {meth : Method} {c : Code} (hx : p.tables.exec = Jvm.exec) (hby : c.code = code) (hlk : meth.locks = false) (hml : c.maxLocals = 26) (hown : s.vm.findClass cLAW = some m.cls) (hZ : Z.Warmed39 s.vm) (hret : meth.sig.returnType = ret) :
    ∀ (T1431 : State) (L1431 : List Loc) (h1431 : Heap) (ov : Int32) (b1 : Int32) (b2 : Int32) (b3 : Int32) (xx : Int32) (dd : Int32) (yy : Int32) (b1175 : Addr) (b1231 : Addr) (b1258 : Addr) (b525 : Addr) (b534 : Addr), Stand p l e room_1 s m #[(.int p0), (.int p1), (.int p2), (.int p3), (.int p4)] below meth c T1431 L1431 5 29 → T1431.heap = h1431 → Fr n0 L1431 → n0 ≤ h1431.size → Keep h0 h1431 [] → Old Z n0 h1431 → Exa Z h1431 b525 cFI → Fld Z h1431 b525 cFI "part" "Ljava/util/List;" (.ref b1231) → Fld Z h1431 b525 cFI "overhead" "I" (.int ov) → Fld Z h1431 b525 cFI "partBytes" "J" (.long ((ov.toInt64) + (xx.toInt64))) → Exa Z h1431 b534 cAL → Fld Z h1431 b534 cAL "elementData" cOA (.ref b1175) → Fld Z h1431 b534 cAL "size" "I" (.int (2 : Int32)) → Ra Z h1431 b1175 cOB [(.ref v1), (.ref v2), .null, .null, .null, .null, .null, .null, .null, .null] → Exa Z h1431 b1231 cAL → Fld Z h1431 b1231 cAB "modCount" "I" (.int ((0 : Int32) + (1 : Int32))) → Fld Z h1431 b1231 cAL "elementData" cOA (.ref b1258) → Fld Z h1431 b1231 cAL "size" "I" (.int (1 : Int32)) → Ra Z h1431 b1258 cOB [(.ref v4), .null, .null, .null, .null, .null, .null, .null, .null, .null] → b525 ≠ b534 → b525 ≠ b1175 → b1175 ≠ b1231 → b525 ≠ b1231 → b534 ≠ b1231 → b1175 ≠ b1258 → b1231 ≠ b1258 → b525 ≠ b1258 → b534 ≠ b1258 → n0 ≤ b525 → n0 ≤ b1231 → n0 ≤ b1258 → h0.size ≤ b525 → h0.size ≤ b1231 → h0.size ≤ b1258 → (p0 &&& (524287 : Int32)) = ov → (p3 &&& (524287 : Int32)) = xx → ((p4 &&& (3 : Int32)) - (1 : Int32)) = dd → (((((1048576 : Int32) - ov) - xx) - (1 : Int32)) + dd) = yy → ¬ (0 : Int32) < dd → Go p e below (T1431.setTop (mkF m 230 #[vi p0, vi p1, vi p2, vi p3, vi p4, vi ov, vi (2 : Int32), vi b1, vi b2, vi b3, vi xx, vi dd, vi yy, vr v1, vr v2, vr v3, vr v4, vr v5, vr b525, vi (1 : Int32), vr b534, vr el, .unset, .unset, .unset, .unset] [])) (Done s (Q_rm0 Z p0 p1 p2 p3 p4 de el ea ca cl v1 v2 v3 v4 v5 h0 n0) room_1.cells room_1.slots) := by
  intro T1431 L1431 h1431 ov b1 b2 b3 xx dd yy b1175 b1231 b1258 b525 b534 X1431 e1431 N1431 z1431 k1431 lf0_1431 lf1_1431 lf2_1431 lf3_1431 lf4_1431 lf5_1431 lf7_1431 lf8_1431 lf9_1431 lf10_1431 lf11_1431 lf12_1431 lf13_1431 lf14_1431 lf15_1431 lf16_1431 lf18_1431 lf19_1431 lf20_1431 lf21_1431 lf22_1431 lf23_1431 lf24_1431 lf25_1431 lf28_1431 lf29_1431 lf30_1431 lf33_1431 lf34_1431 hv_ov hv_xx hv_dd hv_yy hsp
  show Go p e below (T1431.setTop (mkF m 230 #[vi p0, vi p1, vi p2, vi p3, vi p4, vi ov, vi (2 : Int32), vi b1, vi b2, vi b3, vi xx, vi dd, vi yy, vr v1, vr v2, vr v3, vr v4, vr v5, vr b525, vi (1 : Int32), vr b534, vr el, .unset, .unset, .unset, .unset] [])) _
  refine Go.via (fun _ => XS.aload X1431.here hx rfl (hb hby at_230) rfl rfl) ?_
  refine Go.via (fun _ => XS.aload X1431.here hx rfl (hb hby at_232) rfl rfl) ?_
  refine Go.via (fun _ => XS.iload X1431.here hx rfl (hb hby at_234) rfl) ?_
  have f1432 : Exa Z h1431 v5 cIN := zE5.ext lf0_1431.2
  obtain ⟨cq1433, kq1433, q1433a, q1433b, q1433c⟩ := isOf hZ e1431 lf1_1431
  obtain ⟨r1433, _, ⟨T1433, L1433, k1433, n1433⟩, -, X1433, ⟨Lc1433, hQ1433, l1433, y1433, z1433⟩, st1433⟩ := X1431.virtualBack hx (y := (⟨cFI, "add", "(Ljava/lang/Object;I)Ljava/util/List;"⟩ : MethodName)) (z := (⟨cFI, "add", "(Ljava/lang/Object;I)Ljava/util/List;"⟩ : MethodName)) hown (mvT hZ (tw hw 49 rfl)) (mvT hZ (tw hw 50 rfl)) (notFace_of_selects (args := #[]) (mvT hZ (tw hw 52 rfl))) (mvT hZ (tw hw 52 rfl)) (mvT hZ (tw hw 51 rfl)) (by decide) (backOf (W := 0) (rmFa1 l Z a0 hw [] b525 v5 yy b1231 ov ((ov.toInt64) + (xx.toInt64)) b1258 ((0 : Int32) + (1 : Int32)) el v4 h1431 n0 z1431 lf1_1431 lf2_1431 lf3_1431 lf4_1431 lf10_1431 lf11_1431 lf12_1431 lf13_1431 lf14_1431 f1432 lf0_1431 zL lf25_1431 lf28_1431 lf29_1431 lf19_1431 lf23_1431 lf22_1431 (own_nsp hv_ov hv_xx hv_dd hv_yy hsp)) hZ (tw hw 53 rfl) (tw hw 12 rfl) (by decide) (by decide)) q1433a q1433c (g := (mkF m 236 #[vi p0, vi p1, vi p2, vi p3, vi p4, vi ov, vi (2 : Int32), vi b1, vi b2, vi b3, vi xx, vi dd, vi yy, vr v1, vr v2, vr v3, vr v4, vr v5, vr b525, vi (1 : Int32), vr b534, vr el, .unset, .unset, .unset, .unset] [(.int yy), (.ref v5), (.ref b525)])) rfl (by rw [hml]; rfl) (Steps.refl _) (argsL := [(.ref v5), (.int yy)]) (rest := []) (lenOf pd__28Ljava_2flang_2fObject_3bI_29Ljava_2futil_2fList_3b rfl) rfl (by show 2 * 0 + _ ≤ _; exact Nat.le_of_eq rfl) (hb hby at_236) (fun _ _ => ⟨rfl, e1431, (by decide : 5 + 0 ≤ _), (by decide : 29 + 0 ≤ _)⟩)
  dsimp only [Pt.U, Pt.locs, Pt.cells, Pt.slots] at X1433 l1433 y1433 z1433 st1433 hQ1433
  rw [l1433, y1433, z1433] at X1433
  clear l1433 y1433 z1433
  obtain ⟨hr1433, N1433q, K1433q, f1434, f1435, f1436, f1437, f1438, f1439, f1440, f1441, f1442⟩ := hQ1433
  rw [hr1433] at st1433
  clear hr1433
  have N1433 := Fr.app N1431 N1433q
  refine Go.via (fun _ kQ => st1433.trans kQ) ?_
  clear st1433
  have e1433 : T1433.heap = T1433.heap := rfl
  have f1443 : Exa Z T1433.heap b525 cFI := f1434
  have f1444 : Fld Z T1433.heap b525 cFI "part" "Ljava/util/List;" (.ref b1231) := f1435
  have f1445 : Fld Z T1433.heap b525 cFI "overhead" "I" (.int ov) := f1436
  have f1446 : Fld Z T1433.heap b525 cFI "partBytes" "J" (.long (((ov.toInt64) + (xx.toInt64)) + (((1 : Int32) + yy).toInt64))) := f1437
  have f1447 : Exa Z T1433.heap b1231 cAL := f1438
  have f1448 : Fld Z T1433.heap b1231 cAB "modCount" "I" (.int (((0 : Int32) + (1 : Int32)) + (1 : Int32))) := f1439
  have f1449 : Fld Z T1433.heap b1231 cAL "elementData" cOA (.ref b1258) := f1440
  have f1450 : Fld Z T1433.heap b1231 cAL "size" "I" (.int (2 : Int32)) := f1441
  have f1451 : Ra Z T1433.heap b1258 cOB [(.ref v4), (.ref v5), .null, .null, .null, .null, .null, .null, .null, .null] := f1442
  clear X1431 e1431
  show Go p e below (T1433.setTop (mkF m 239 #[vi p0, vi p1, vi p2, vi p3, vi p4, vi ov, vi (2 : Int32), vi b1, vi b2, vi b3, vi xx, vi dd, vi yy, vr v1, vr v2, vr v3, vr v4, vr v5, vr b525, vi (1 : Int32), vr b534, vr el, .unset, .unset, .unset, .unset] [(.ref el)])) _
  refine Go.via (fun _ => XS.astore X1433.here hx rfl (hb hby at_239) rfl rfl (l' := #[vi p0, vi p1, vi p2, vi p3, vi p4, vi ov, vi (2 : Int32), vi b1, vi b2, vi b3, vi xx, vi dd, vi yy, vr v1, vr v2, vr v3, vr v4, vr v5, vr b525, vi (1 : Int32), vr b534, vr el, vr el, .unset, .unset, .unset]) rfl) ?_
  refine Go.via (fun _ => XS.aload X1433.here hx rfl (hb hby at_241) rfl rfl) ?_
  have o1452 : Old Z n0 T1433.heap := (lf0_1431.keep K1433q (allS lf25_1431 (allS lf28_1431 (allS lf29_1431 all0))))
  have z1454 : n0 ≤ T1433.heap.size := (Nat.le_trans z1431 K1433q.1)
  obtain ⟨cq1453, kq1453, q1453a, q1453b, q1453c⟩ := isOf hZ e1433 f1443
  obtain ⟨r1453, _, ⟨T1453, L1453, k1453, n1453⟩, -, X1453, ⟨Lc1453, hQ1453, l1453, y1453, z1453⟩, st1453⟩ := X1433.virtualBack hx (y := (⟨cFI, "last", "()Ljava/util/List;"⟩ : MethodName)) (z := (⟨cFI, "last", "()Ljava/util/List;"⟩ : MethodName)) hown (mvT hZ (tw hw 116 rfl)) (mvT hZ (tw hw 117 rfl)) (notFace_of_selects (args := #[]) (mvT hZ (tw hw 119 rfl))) (mvT hZ (tw hw 119 rfl)) (mvT hZ (tw hw 118 rfl)) (by decide) (backOf (W := 0) (rmLa l Z a0 hw [] b525 b1231 ov (((ov.toInt64) + (xx.toInt64)) + (((1 : Int32) + yy).toInt64)) de T1433.heap n0 z1454 f1443 f1444 f1445 f1446 o1452 zD lf25_1431) hZ (tw hw 120 rfl) (tw hw 12 rfl) (by decide) (by decide)) q1453a q1453c (g := (mkF m 243 #[vi p0, vi p1, vi p2, vi p3, vi p4, vi ov, vi (2 : Int32), vi b1, vi b2, vi b3, vi xx, vi dd, vi yy, vr v1, vr v2, vr v3, vr v4, vr v5, vr b525, vi (1 : Int32), vr b534, vr el, vr el, .unset, .unset, .unset] [(.ref b525)])) rfl (by rw [hml]; rfl) (Steps.refl _) (argsL := []) (rest := []) (lenOf pd__28_29Ljava_2futil_2fList_3b rfl) rfl (by show 2 * 0 + _ ≤ _; exact Nat.le_of_eq rfl) (hb hby at_243) (fun _ _ => ⟨rfl, e1433, (by decide : 5 + 1 ≤ _), (by decide : 29 + 3 ≤ _)⟩)
  dsimp only [Pt.U, Pt.locs, Pt.cells, Pt.slots] at X1453 l1453 y1453 z1453 st1453 hQ1453
  rw [l1453, y1453, z1453] at X1453
  clear l1453 y1453 z1453
  obtain ⟨b1455, hr1453, N1453q, K1453q, fz_b1455, f1456, f1457, f1458, f1459, f1460, f1461, f1462, f1463⟩ := hQ1453
  rw [hr1453] at st1453
  clear hr1453
  have N1453 := Fr.app N1433 N1453q
  refine Go.via (fun _ kQ => st1453.trans kQ) ?_
  clear st1453
  have f1464 : Ra Z T1433.heap b1175 cOB [(.ref v1), (.ref v2), .null, .null, .null, .null, .null, .null, .null, .null] := (lf9_1431.keep K1433q (ninS (Ne.symm lf16_1431) (ninS lf18_1431 (ninS lf21_1431 nin0))))
  have ne1465 : b1175 ≠ b1455 := Nat.ne_of_lt (Nat.lt_of_lt_of_le f1464.lt fz_b1455)
  have ne1466 : b1231 ≠ b1455 := Nat.ne_of_lt (Nat.lt_of_lt_of_le f1447.lt fz_b1455)
  have ne1467 : b1258 ≠ b1455 := Nat.ne_of_lt (Nat.lt_of_lt_of_le f1451.lt fz_b1455)
  have ne1468 : b525 ≠ b1455 := Nat.ne_of_lt (Nat.lt_of_lt_of_le f1443.lt fz_b1455)
  have f1469 : Exa Z T1433.heap b534 cAL := (lf5_1431.keep K1433q)
  have ne1470 : b534 ≠ b1455 := Nat.ne_of_lt (Nat.lt_of_lt_of_le f1469.lt fz_b1455)
  have ge1471 : n0 ≤ b1455 := Nat.le_trans z1454 fz_b1455
  have k1473 : Keep h0 T1433.heap [] := (k1431.trans K1433q (allS (Or.inr lf30_1431) (allS (Or.inr lf33_1431) (allS (Or.inr lf34_1431) all0))))
  have sz1472 : h0.size ≤ b1455 := Nat.le_trans k1473.1 fz_b1455
  have e1453 : T1453.heap = T1453.heap := rfl
  have f1474 : Exa Z T1453.heap b525 cFI := f1456
  have f1475 : Fld Z T1453.heap b525 cFI "part" "Ljava/util/List;" (.ref b1455) := f1457
  have f1476 : Fld Z T1453.heap b525 cFI "overhead" "I" (.int ov) := f1458
  have f1477 : Fld Z T1453.heap b525 cFI "partBytes" "J" (.long (ov.toInt64)) := f1459
  have f1478 : Exa Z T1453.heap b1455 cAL := f1460
  have f1479 : Fld Z T1453.heap b1455 cAB "modCount" "I" (.int (0 : Int32)) := f1461
  have f1480 : Fld Z T1453.heap b1455 cAL "elementData" cOA (.ref de) := f1462
  have f1481 : Fld Z T1453.heap b1455 cAL "size" "I" (.int (0 : Int32)) := f1463
  clear X1433 e1433
  show Go p e below (T1453.setTop (mkF m 246 #[vi p0, vi p1, vi p2, vi p3, vi p4, vi ov, vi (2 : Int32), vi b1, vi b2, vi b3, vi xx, vi dd, vi yy, vr v1, vr v2, vr v3, vr v4, vr v5, vr b525, vi (1 : Int32), vr b534, vr el, vr el, .unset, .unset, .unset] [(.ref b1231)])) _
  refine Go.via (fun _ => XS.astore X1453.here hx rfl (hb hby at_246) rfl rfl (l' := #[vi p0, vi p1, vi p2, vi p3, vi p4, vi ov, vi (2 : Int32), vi b1, vi b2, vi b3, vi xx, vi dd, vi yy, vr v1, vr v2, vr v3, vr v4, vr v5, vr b525, vi (1 : Int32), vr b534, vr el, vr el, vr b1231, .unset, .unset]) rfl) ?_
  refine Go.via (fun _ => XS.aload X1453.here hx rfl (hb hby at_248) rfl rfl) ?_
  have o1482 : Old Z n0 T1453.heap := (o1452.keep K1453q (allS lf25_1431 all0))
  have z1484 : n0 ≤ T1453.heap.size := (Nat.le_trans z1454 K1453q.1)
  obtain ⟨cq1483, kq1483, q1483a, q1483b, q1483c⟩ := isOf hZ e1453 f1474
  obtain ⟨r1483, _, ⟨T1483, L1483, k1483, n1483⟩, -, X1483, ⟨Lc1483, hQ1483, l1483, y1483, z1483⟩, st1483⟩ := X1453.virtualBack hx (y := (⟨cFI, "last", "()Ljava/util/List;"⟩ : MethodName)) (z := (⟨cFI, "last", "()Ljava/util/List;"⟩ : MethodName)) hown (mvT hZ (tw hw 116 rfl)) (mvT hZ (tw hw 117 rfl)) (notFace_of_selects (args := #[]) (mvT hZ (tw hw 119 rfl))) (mvT hZ (tw hw 119 rfl)) (mvT hZ (tw hw 118 rfl)) (by decide) (backOf (W := 0) (rmLa l Z a0 hw [] b525 b1455 ov (ov.toInt64) de T1453.heap n0 z1484 f1474 f1475 f1476 f1477 o1482 zD lf25_1431) hZ (tw hw 120 rfl) (tw hw 12 rfl) (by decide) (by decide)) q1483a q1483c (g := (mkF m 250 #[vi p0, vi p1, vi p2, vi p3, vi p4, vi ov, vi (2 : Int32), vi b1, vi b2, vi b3, vi xx, vi dd, vi yy, vr v1, vr v2, vr v3, vr v4, vr v5, vr b525, vi (1 : Int32), vr b534, vr el, vr el, vr b1231, .unset, .unset] [(.ref b525)])) rfl (by rw [hml]; rfl) (Steps.refl _) (argsL := []) (rest := []) (lenOf pd__28_29Ljava_2futil_2fList_3b rfl) rfl (by show 2 * 0 + _ ≤ _; exact Nat.le_of_eq rfl) (hb hby at_250) (fun _ _ => ⟨rfl, e1453, (by decide : 6 + 1 ≤ _), (by decide : 32 + 3 ≤ _)⟩)
  dsimp only [Pt.U, Pt.locs, Pt.cells, Pt.slots] at X1483 l1483 y1483 z1483 st1483 hQ1483
  rw [l1483, y1483, z1483] at X1483
  clear l1483 y1483 z1483
  obtain ⟨b1485, hr1483, N1483q, K1483q, fz_b1485, f1486, f1487, f1488, f1489, f1490, f1491, f1492, f1493⟩ := hQ1483
  rw [hr1483] at st1483
  clear hr1483
  have N1483 := Fr.app N1453 N1483q
  refine Go.via (fun _ kQ => st1483.trans kQ) ?_
  clear st1483
  have f1494 : Ra Z T1453.heap b1175 cOB [(.ref v1), (.ref v2), .null, .null, .null, .null, .null, .null, .null, .null] := (f1464.keep K1453q (ninS (Ne.symm lf16_1431) nin0))
  have ne1495 : b1175 ≠ b1485 := Nat.ne_of_lt (Nat.lt_of_lt_of_le f1494.lt fz_b1485)
  have f1496 : Exa Z T1453.heap b1231 cAL := (f1447.keep K1453q)
  have ne1497 : b1231 ≠ b1485 := Nat.ne_of_lt (Nat.lt_of_lt_of_le f1496.lt fz_b1485)
  have f1498 : Ra Z T1453.heap b1258 cOB [(.ref v4), (.ref v5), .null, .null, .null, .null, .null, .null, .null, .null] := (f1451.keep K1453q (ninS (Ne.symm lf23_1431) nin0))
  have ne1499 : b1258 ≠ b1485 := Nat.ne_of_lt (Nat.lt_of_lt_of_le f1498.lt fz_b1485)
  have ne1500 : b1455 ≠ b1485 := Nat.ne_of_lt (Nat.lt_of_lt_of_le f1478.lt fz_b1485)
  have ne1501 : b525 ≠ b1485 := Nat.ne_of_lt (Nat.lt_of_lt_of_le f1474.lt fz_b1485)
  have f1502 : Exa Z T1453.heap b534 cAL := (f1469.keep K1453q)
  have ne1503 : b534 ≠ b1485 := Nat.ne_of_lt (Nat.lt_of_lt_of_le f1502.lt fz_b1485)
  have ge1504 : n0 ≤ b1485 := Nat.le_trans z1484 fz_b1485
  have k1506 : Keep h0 T1453.heap [] := (k1473.trans K1453q (allS (Or.inr lf30_1431) all0))
  have sz1505 : h0.size ≤ b1485 := Nat.le_trans k1506.1 fz_b1485
  have e1483 : T1483.heap = T1483.heap := rfl
  have f1507 : Exa Z T1483.heap b525 cFI := f1486
  have f1508 : Fld Z T1483.heap b525 cFI "part" "Ljava/util/List;" (.ref b1485) := f1487
  have f1509 : Fld Z T1483.heap b525 cFI "overhead" "I" (.int ov) := f1488
  have f1510 : Fld Z T1483.heap b525 cFI "partBytes" "J" (.long (ov.toInt64)) := f1489
  have f1511 : Exa Z T1483.heap b1485 cAL := f1490
  have f1512 : Fld Z T1483.heap b1485 cAB "modCount" "I" (.int (0 : Int32)) := f1491
  have f1513 : Fld Z T1483.heap b1485 cAL "elementData" cOA (.ref de) := f1492
  have f1514 : Fld Z T1483.heap b1485 cAL "size" "I" (.int (0 : Int32)) := f1493
  clear X1453 e1453
  show Go p e below (T1483.setTop (mkF m 253 #[vi p0, vi p1, vi p2, vi p3, vi p4, vi ov, vi (2 : Int32), vi b1, vi b2, vi b3, vi xx, vi dd, vi yy, vr v1, vr v2, vr v3, vr v4, vr v5, vr b525, vi (1 : Int32), vr b534, vr el, vr el, vr b1231, .unset, .unset] [(.ref b1455)])) _
  refine Go.via (fun _ => XS.astore X1483.here hx rfl (hb hby at_253) rfl rfl (l' := #[vi p0, vi p1, vi p2, vi p3, vi p4, vi ov, vi (2 : Int32), vi b1, vi b2, vi b3, vi xx, vi dd, vi yy, vr v1, vr v2, vr v3, vr v4, vr v5, vr b525, vi (1 : Int32), vr b534, vr el, vr el, vr b1231, vr b1455, .unset]) rfl) ?_
  refine Go.via (fun _ => XS.iload X1483.here hx rfl (hb hby at_255) rfl) ?_
  refine Go.via (fun _ => XS.ifNo X1483.here hx rfl (hb hby at_257) rfl ((if0 _ _).trans (feq ((by decide) : ¬ ((1 : Int32) = (0 : Int32)))).1)) ?_
  refine Go.via (fun _ => XS.aload X1483.here hx rfl (hb hby at_260) rfl rfl) ?_
  have f1515 : Fld Z T1483.heap b534 cAL "size" "I" (.int (2 : Int32)) := (((lf8_1431.keep K1433q (ninS (Ne.symm lf15_1431) (ninS lf20_1431 (ninS lf24_1431 nin0)))).keep K1453q (ninS (Ne.symm lf15_1431) nin0)).keep K1483q (ninS (Ne.symm lf15_1431) nin0))
  have z1517 : n0 ≤ T1483.heap.size := (Nat.le_trans z1484 K1483q.1)
  have f1518 : Exa Z T1483.heap b534 cAL := (f1502.keep K1483q)
  obtain ⟨cq1516, kq1516, q1516a, q1516b, q1516c⟩ := isOf hZ e1483 f1518
  obtain ⟨r1516, _, ⟨T1516, L1516, k1516, n1516⟩, -, X1516, ⟨Lc1516, hQ1516, l1516, y1516, z1516⟩, st1516⟩ := X1483.interfaceBack hx (xi := (⟨cLI, "size", "()I"⟩ : MethodName)) (y := (⟨cAL, "size", "()I"⟩ : MethodName)) hown (mvT hZ (tw hw 103 rfl)) (mvT hZ (tw hw 104 rfl)) (mvT hZ (tw hw 105 rfl)) (mvT hZ (tw hw 121 rfl)) (mvT hZ (tw hw 122 rfl)) (mvT hZ (tw hw 123 rfl)) (mvT hZ (tw hw 124 rfl)) (mvT hZ (tw hw 67 rfl)) (by decide) (backOf (W := 0) (rmSz l Z a0 hw [] b534 (2 : Int32) T1483.heap n0 z1517 f1515) hZ (tw hw 125 rfl) (tw hw 21 rfl) (by decide) (by decide)) q1516a q1516b q1516c (g := (mkF m 262 #[vi p0, vi p1, vi p2, vi p3, vi p4, vi ov, vi (2 : Int32), vi b1, vi b2, vi b3, vi xx, vi dd, vi yy, vr v1, vr v2, vr v3, vr v4, vr v5, vr b525, vi (1 : Int32), vr b534, vr el, vr el, vr b1231, vr b1455, .unset] [(.ref b534)])) rfl (by rw [hml]; rfl) (Steps.refl _) (argsL := []) (rest := []) (lenOf pd__28_29I rfl) rfl (by show 2 * 0 + _ ≤ _; exact Nat.le_of_eq rfl) (hb hby at_262) (fun _ _ => ⟨rfl, e1483, (by decide : 7 + 0 ≤ _), (by decide : 35 + 0 ≤ _)⟩)
  dsimp only [Pt.U, Pt.locs, Pt.cells, Pt.slots] at X1516 l1516 y1516 z1516 st1516 hQ1516
  rw [l1516, y1516, z1516] at X1516
  clear l1516 y1516 z1516
  obtain ⟨hr1516, N1516q, eh1516⟩ := hQ1516
  rw [hr1516] at st1516
  clear hr1516
  have N1516 := Fr.app N1483 N1516q
  refine Go.via (fun _ kQ => st1516.trans kQ) ?_
  clear st1516
  have e1516 : T1516.heap = T1483.heap := eh1516
  clear X1483 e1483
  show Go p e below (T1516.setTop (mkF m 267 #[vi p0, vi p1, vi p2, vi p3, vi p4, vi ov, vi (2 : Int32), vi b1, vi b2, vi b3, vi xx, vi dd, vi yy, vr v1, vr v2, vr v3, vr v4, vr v5, vr b525, vi (1 : Int32), vr b534, vr el, vr el, vr b1231, vr b1455, .unset] [(.int (2 : Int32))])) _
  refine Go.via (fun _ => XS.iload X1516.here hx rfl (hb hby at_267) rfl) ?_
  refine Go.via (fun _ => XS.icmpNo X1516.here hx rfl (hb hby at_269) rfl (teq ((by decide) : (2 : Int32) = (2 : Int32))).2) ?_
  refine Go.via (fun _ => XS.iconst X1516.here hx rfl (hb hby at_272)) ?_
  refine Go.via (fun _ => XS.goto X1516.here hx rfl (pc0 := 273) (pc' := 277) rfl (hb hby at_273) (by decide) (by decide)) ?_
  refine Go.via (fun _ => XS.istore X1516.here hx rfl (hb hby at_277) rfl (l' := #[vi p0, vi p1, vi p2, vi p3, vi p4, vi ov, vi (2 : Int32), vi b1, vi b2, vi b3, vi xx, vi dd, vi yy, vr v1, vr v2, vr v3, vr v4, vr v5, vr b525, vi (1 : Int32), vr b534, vr el, vr el, vr b1231, vr b1455, .unset]) rfl) ?_
  refine Go.via (fun _ => XS.iload X1516.here hx rfl (hb hby at_279) rfl) ?_
  refine Go.via (fun _ => XS.ifNo X1516.here hx rfl (hb hby at_281) rfl ((if0 _ _).trans (feq ((by decide) : ¬ ((1 : Int32) = (0 : Int32)))).1)) ?_
  show Go p e below (T1516.setTop (mkF m 284 #[vi p0, vi p1, vi p2, vi p3, vi p4, vi ov, vi (2 : Int32), vi b1, vi b2, vi b3, vi xx, vi dd, vi yy, vr v1, vr v2, vr v3, vr v4, vr v5, vr b525, vi (1 : Int32), vr b534, vr el, vr el, vr b1231, vr b1455, .unset] [])) _
  refine Go.via (fun _ => XS.iload X1516.here hx rfl (hb hby at_284) rfl) ?_
  refine Go.via (fun _ => XS.iconst X1516.here hx rfl (hb hby at_286)) ?_
  refine Go.via (fun _ => XS.icmpNo X1516.here hx rfl (hb hby at_287) rfl (flt ((by decide) : ¬ ((2 : Int32) < (1 : Int32)))).1) ?_
  refine Go.via (fun _ => XS.aload X1516.here hx rfl (hb hby at_290) rfl rfl) ?_
  refine Go.via (fun _ => XS.iconst X1516.here hx rfl (hb hby at_292)) ?_
  have f1519 : Fld Z T1483.heap b534 cAL "elementData" cOA (.ref b1175) := (((lf7_1431.keep K1433q (ninS (Ne.symm lf15_1431) (ninS lf20_1431 (ninS lf24_1431 nin0)))).keep K1453q (ninS (Ne.symm lf15_1431) nin0)).keep K1483q (ninS (Ne.symm lf15_1431) nin0))
  have f1520 : Ra Z T1483.heap b1175 cOB [(.ref v1), (.ref v2), .null, .null, .null, .null, .null, .null, .null, .null] := (f1494.keep K1483q (ninS (Ne.symm lf16_1431) nin0))
  obtain ⟨cq1521, kq1521, q1521a, q1521b, q1521c⟩ := isOf hZ e1516 f1518
  obtain ⟨r1521, _, ⟨T1521, L1521, k1521, n1521⟩, -, X1521, ⟨Lc1521, hQ1521, l1521, y1521, z1521⟩, st1521⟩ := X1516.interfaceBack hx (xi := (⟨cLI, "get", "(I)Ljava/lang/Object;"⟩ : MethodName)) (y := (⟨cAL, "get", "(I)Ljava/lang/Object;"⟩ : MethodName)) hown (mvT hZ (tw hw 126 rfl)) (mvT hZ (tw hw 127 rfl)) (mvT hZ (tw hw 128 rfl)) (mvT hZ (tw hw 129 rfl)) (mvT hZ (tw hw 130 rfl)) (mvT hZ (tw hw 131 rfl)) (mvT hZ (tw hw 132 rfl)) (mvT hZ (tw hw 67 rfl)) (by decide) (backOf (W := 0) (rmGt l Z a0 hw [] b534 (0 : Int32) b1175 [(.ref v1), (.ref v2), .null, .null, .null, .null, .null, .null, .null, .null] v1 (2 : Int32) T1483.heap n0 z1517 f1519 f1515 f1520 f1518 (by first | decide | (simp only [List.length_cons, List.length_nil]; decide) | rfl) (by first | decide | (simp only [List.length_cons, List.length_nil]; decide) | rfl) rfl) hZ (tw hw 133 rfl) (tw hw 21 rfl) (by decide) (by decide)) q1521a q1521b q1521c (g := (mkF m 293 #[vi p0, vi p1, vi p2, vi p3, vi p4, vi ov, vi (2 : Int32), vi b1, vi b2, vi b3, vi xx, vi dd, vi yy, vr v1, vr v2, vr v3, vr v4, vr v5, vr b525, vi (1 : Int32), vr b534, vr el, vr el, vr b1231, vr b1455, .unset] [(.int (0 : Int32)), (.ref b534)])) rfl (by rw [hml]; rfl) (Steps.refl _) (argsL := [(.int (0 : Int32))]) (rest := []) (lenOf pd__28I_29Ljava_2flang_2fObject_3b rfl) rfl (by show 2 * 0 + _ ≤ _; exact Nat.le_of_eq rfl) (hb hby at_293) (fun _ _ => ⟨rfl, e1516, (by decide : 7 + 0 ≤ _), (by decide : 35 + 0 ≤ _)⟩)
  dsimp only [Pt.U, Pt.locs, Pt.cells, Pt.slots] at X1521 l1521 y1521 z1521 st1521 hQ1521
  rw [l1521, y1521, z1521] at X1521
  clear l1521 y1521 z1521
  obtain ⟨hr1521, N1521q, eh1521⟩ := hQ1521
  rw [hr1521] at st1521
  clear hr1521
  have N1521 := Fr.app N1516 N1521q
  refine Go.via (fun _ kQ => st1521.trans kQ) ?_
  clear st1521
  have e1521 : T1521.heap = T1483.heap := eh1521
  clear X1516 e1516
  show Go p e below (T1521.setTop (mkF m 298 #[vi p0, vi p1, vi p2, vi p3, vi p4, vi ov, vi (2 : Int32), vi b1, vi b2, vi b3, vi xx, vi dd, vi yy, vr v1, vr v2, vr v3, vr v4, vr v5, vr b525, vi (1 : Int32), vr b534, vr el, vr el, vr b1231, vr b1455, .unset] [(.ref v1)])) _
  have o1522 : Old Z n0 T1483.heap := (o1482.keep K1483q (allS lf25_1431 all0))
  have f1523 : Exa Z T1483.heap v1 cIN := zE1.ext o1522.2
  obtain ⟨T1524, X1524, e1524, st1524⟩ := castY X1521 hx hZ hown (tw hw 147 rfl) e1521 (Ins.self f1523) (g := (mkF m 298 #[vi p0, vi p1, vi p2, vi p3, vi p4, vi ov, vi (2 : Int32), vi b1, vi b2, vi b3, vi xx, vi dd, vi yy, vr v1, vr v2, vr v3, vr v4, vr v5, vr b525, vi (1 : Int32), vr b534, vr el, vr el, vr b1231, vr b1455, .unset] [(.ref v1)])) rfl rfl (hb hby at_298)
  refine Go.via (st1524) ?_
  clear st1524
  clear X1521 e1521
  show Go p e below (T1524.setTop (mkF m 301 #[vi p0, vi p1, vi p2, vi p3, vi p4, vi ov, vi (2 : Int32), vi b1, vi b2, vi b3, vi xx, vi dd, vi yy, vr v1, vr v2, vr v3, vr v4, vr v5, vr b525, vi (1 : Int32), vr b534, vr el, vr el, vr b1231, vr b1455, .unset] [(.ref v1)])) _
  have f1525 : Fld Z T1483.heap v1 cIN "value" "I" (.int (1 : Int32)) := zV1.ext o1522.2
  have f1527 : Exa Z T1483.heap v1 cIN := zE1.ext o1522.2
  obtain ⟨cq1526, kq1526, q1526a, q1526b, q1526c⟩ := isOf hZ e1524 f1527
  obtain ⟨r1526, _, ⟨T1526, L1526, k1526, n1526⟩, -, X1526, ⟨Lc1526, hQ1526, l1526, y1526, z1526⟩, st1526⟩ := X1524.virtualBack hx (y := (⟨cIN, "intValue", "()I"⟩ : MethodName)) (z := (⟨cIN, "intValue", "()I"⟩ : MethodName)) hown (mvT hZ (tw hw 149 rfl)) (mvT hZ (tw hw 150 rfl)) (notFace_of_selects (args := #[]) (mvT hZ (tw hw 152 rfl))) (mvT hZ (tw hw 152 rfl)) (mvT hZ (tw hw 151 rfl)) (by decide) (backOf (W := 0) (rmIv l Z a0 hw [] v1 (1 : Int32) T1483.heap n0 z1517 f1525) hZ (tw hw 153 rfl) (tw hw 5 rfl) (by decide) (by decide)) q1526a q1526c (g := (mkF m 301 #[vi p0, vi p1, vi p2, vi p3, vi p4, vi ov, vi (2 : Int32), vi b1, vi b2, vi b3, vi xx, vi dd, vi yy, vr v1, vr v2, vr v3, vr v4, vr v5, vr b525, vi (1 : Int32), vr b534, vr el, vr el, vr b1231, vr b1455, .unset] [(.ref v1)])) rfl (by rw [hml]; rfl) (Steps.refl _) (argsL := []) (rest := []) (lenOf pd__28_29I rfl) rfl (by show 2 * 0 + _ ≤ _; exact Nat.le_of_eq rfl) (hb hby at_301) (fun _ _ => ⟨rfl, e1524, (by decide : 7 + 0 ≤ _), (by decide : 35 + 0 ≤ _)⟩)
  dsimp only [Pt.U, Pt.locs, Pt.cells, Pt.slots] at X1526 l1526 y1526 z1526 st1526 hQ1526
  rw [l1526, y1526, z1526] at X1526
  clear l1526 y1526 z1526
  obtain ⟨hr1526, N1526q, eh1526⟩ := hQ1526
  rw [hr1526] at st1526
  clear hr1526
  have N1526 := Fr.app N1521 N1526q
  refine Go.via (fun _ kQ => st1526.trans kQ) ?_
  clear st1526
  have e1526 : T1526.heap = T1483.heap := eh1526
  clear X1524 e1524
  show Go p e below (T1526.setTop (mkF m 304 #[vi p0, vi p1, vi p2, vi p3, vi p4, vi ov, vi (2 : Int32), vi b1, vi b2, vi b3, vi xx, vi dd, vi yy, vr v1, vr v2, vr v3, vr v4, vr v5, vr b525, vi (1 : Int32), vr b534, vr el, vr el, vr b1231, vr b1455, .unset] [(.int (1 : Int32))])) _
  refine Go.via (fun _ => XS.iconst X1526.here hx rfl (hb hby at_304)) ?_
  refine Go.via (fun _ => XS.icmpNo X1526.here hx rfl (hb hby at_305) rfl (teq ((by decide) : (1 : Int32) = (1 : Int32))).2) ?_
  refine Go.via (fun _ => XS.iconst X1526.here hx rfl (hb hby at_308)) ?_
  refine Go.via (fun _ => XS.goto X1526.here hx rfl (pc0 := 309) (pc' := 313) rfl (hb hby at_309) (by decide) (by decide)) ?_
  refine Go.via (fun _ => XS.istore X1526.here hx rfl (hb hby at_313) rfl (l' := #[vi p0, vi p1, vi p2, vi p3, vi p4, vi ov, vi (2 : Int32), vi b1, vi b2, vi b3, vi xx, vi dd, vi yy, vr v1, vr v2, vr v3, vr v4, vr v5, vr b525, vi (1 : Int32), vr b534, vr el, vr el, vr b1231, vr b1455, .unset]) rfl) ?_
  refine Go.via (fun _ => XS.iload X1526.here hx rfl (hb hby at_315) rfl) ?_
  refine Go.via (fun _ => XS.ifNo X1526.here hx rfl (hb hby at_317) rfl ((if0 _ _).trans (feq ((by decide) : ¬ ((1 : Int32) = (0 : Int32)))).1)) ?_
  show Go p e below (T1526.setTop (mkF m 320 #[vi p0, vi p1, vi p2, vi p3, vi p4, vi ov, vi (2 : Int32), vi b1, vi b2, vi b3, vi xx, vi dd, vi yy, vr v1, vr v2, vr v3, vr v4, vr v5, vr b525, vi (1 : Int32), vr b534, vr el, vr el, vr b1231, vr b1455, .unset] [])) _
  refine Go.via (fun _ => XS.iload X1526.here hx rfl (hb hby at_320) rfl) ?_
  refine Go.via (fun _ => XS.iconst X1526.here hx rfl (hb hby at_322)) ?_
  refine Go.via (fun _ => XS.icmpNo X1526.here hx rfl (hb hby at_323) rfl (flt ((by decide) : ¬ ((2 : Int32) < (2 : Int32)))).1) ?_
  refine Go.via (fun _ => XS.aload X1526.here hx rfl (hb hby at_326) rfl rfl) ?_
  refine Go.via (fun _ => XS.iconst X1526.here hx rfl (hb hby at_328)) ?_
  obtain ⟨cq1528, kq1528, q1528a, q1528b, q1528c⟩ := isOf hZ e1526 f1518
  obtain ⟨r1528, _, ⟨T1528, L1528, k1528, n1528⟩, -, X1528, ⟨Lc1528, hQ1528, l1528, y1528, z1528⟩, st1528⟩ := X1526.interfaceBack hx (xi := (⟨cLI, "get", "(I)Ljava/lang/Object;"⟩ : MethodName)) (y := (⟨cAL, "get", "(I)Ljava/lang/Object;"⟩ : MethodName)) hown (mvT hZ (tw hw 126 rfl)) (mvT hZ (tw hw 127 rfl)) (mvT hZ (tw hw 128 rfl)) (mvT hZ (tw hw 129 rfl)) (mvT hZ (tw hw 130 rfl)) (mvT hZ (tw hw 131 rfl)) (mvT hZ (tw hw 132 rfl)) (mvT hZ (tw hw 67 rfl)) (by decide) (backOf (W := 0) (rmGt l Z a0 hw [] b534 (1 : Int32) b1175 [(.ref v1), (.ref v2), .null, .null, .null, .null, .null, .null, .null, .null] v2 (2 : Int32) T1483.heap n0 z1517 f1519 f1515 f1520 f1518 (by first | decide | (simp only [List.length_cons, List.length_nil]; decide) | rfl) (by first | decide | (simp only [List.length_cons, List.length_nil]; decide) | rfl) rfl) hZ (tw hw 133 rfl) (tw hw 21 rfl) (by decide) (by decide)) q1528a q1528b q1528c (g := (mkF m 329 #[vi p0, vi p1, vi p2, vi p3, vi p4, vi ov, vi (2 : Int32), vi b1, vi b2, vi b3, vi xx, vi dd, vi yy, vr v1, vr v2, vr v3, vr v4, vr v5, vr b525, vi (1 : Int32), vr b534, vr el, vr el, vr b1231, vr b1455, .unset] [(.int (1 : Int32)), (.ref b534)])) rfl (by rw [hml]; rfl) (Steps.refl _) (argsL := [(.int (1 : Int32))]) (rest := []) (lenOf pd__28I_29Ljava_2flang_2fObject_3b rfl) rfl (by show 2 * 0 + _ ≤ _; exact Nat.le_of_eq rfl) (hb hby at_329) (fun _ _ => ⟨rfl, e1526, (by decide : 7 + 0 ≤ _), (by decide : 35 + 0 ≤ _)⟩)
  dsimp only [Pt.U, Pt.locs, Pt.cells, Pt.slots] at X1528 l1528 y1528 z1528 st1528 hQ1528
  rw [l1528, y1528, z1528] at X1528
  clear l1528 y1528 z1528
  obtain ⟨hr1528, N1528q, eh1528⟩ := hQ1528
  rw [hr1528] at st1528
  clear hr1528
  have N1528 := Fr.app N1526 N1528q
  refine Go.via (fun _ kQ => st1528.trans kQ) ?_
  clear st1528
  have e1528 : T1528.heap = T1483.heap := eh1528
  clear X1526 e1526
  show Go p e below (T1528.setTop (mkF m 334 #[vi p0, vi p1, vi p2, vi p3, vi p4, vi ov, vi (2 : Int32), vi b1, vi b2, vi b3, vi xx, vi dd, vi yy, vr v1, vr v2, vr v3, vr v4, vr v5, vr b525, vi (1 : Int32), vr b534, vr el, vr el, vr b1231, vr b1455, .unset] [(.ref v2)])) _
  have f1529 : Exa Z T1483.heap v2 cIN := zE2.ext o1522.2
  obtain ⟨T1530, X1530, e1530, st1530⟩ := castY X1528 hx hZ hown (tw hw 147 rfl) e1528 (Ins.self f1529) (g := (mkF m 334 #[vi p0, vi p1, vi p2, vi p3, vi p4, vi ov, vi (2 : Int32), vi b1, vi b2, vi b3, vi xx, vi dd, vi yy, vr v1, vr v2, vr v3, vr v4, vr v5, vr b525, vi (1 : Int32), vr b534, vr el, vr el, vr b1231, vr b1455, .unset] [(.ref v2)])) rfl rfl (hb hby at_334)
  refine Go.via (st1530) ?_
  clear st1530
  clear X1528 e1528
  show Go p e below (T1530.setTop (mkF m 337 #[vi p0, vi p1, vi p2, vi p3, vi p4, vi ov, vi (2 : Int32), vi b1, vi b2, vi b3, vi xx, vi dd, vi yy, vr v1, vr v2, vr v3, vr v4, vr v5, vr b525, vi (1 : Int32), vr b534, vr el, vr el, vr b1231, vr b1455, .unset] [(.ref v2)])) _
  have f1531 : Fld Z T1483.heap v2 cIN "value" "I" (.int (2 : Int32)) := zV2.ext o1522.2
  have f1533 : Exa Z T1483.heap v2 cIN := zE2.ext o1522.2
  obtain ⟨cq1532, kq1532, q1532a, q1532b, q1532c⟩ := isOf hZ e1530 f1533
  obtain ⟨r1532, _, ⟨T1532, L1532, k1532, n1532⟩, -, X1532, ⟨Lc1532, hQ1532, l1532, y1532, z1532⟩, st1532⟩ := X1530.virtualBack hx (y := (⟨cIN, "intValue", "()I"⟩ : MethodName)) (z := (⟨cIN, "intValue", "()I"⟩ : MethodName)) hown (mvT hZ (tw hw 149 rfl)) (mvT hZ (tw hw 150 rfl)) (notFace_of_selects (args := #[]) (mvT hZ (tw hw 152 rfl))) (mvT hZ (tw hw 152 rfl)) (mvT hZ (tw hw 151 rfl)) (by decide) (backOf (W := 0) (rmIv l Z a0 hw [] v2 (2 : Int32) T1483.heap n0 z1517 f1531) hZ (tw hw 153 rfl) (tw hw 5 rfl) (by decide) (by decide)) q1532a q1532c (g := (mkF m 337 #[vi p0, vi p1, vi p2, vi p3, vi p4, vi ov, vi (2 : Int32), vi b1, vi b2, vi b3, vi xx, vi dd, vi yy, vr v1, vr v2, vr v3, vr v4, vr v5, vr b525, vi (1 : Int32), vr b534, vr el, vr el, vr b1231, vr b1455, .unset] [(.ref v2)])) rfl (by rw [hml]; rfl) (Steps.refl _) (argsL := []) (rest := []) (lenOf pd__28_29I rfl) rfl (by show 2 * 0 + _ ≤ _; exact Nat.le_of_eq rfl) (hb hby at_337) (fun _ _ => ⟨rfl, e1530, (by decide : 7 + 0 ≤ _), (by decide : 35 + 0 ≤ _)⟩)
  dsimp only [Pt.U, Pt.locs, Pt.cells, Pt.slots] at X1532 l1532 y1532 z1532 st1532 hQ1532
  rw [l1532, y1532, z1532] at X1532
  clear l1532 y1532 z1532
  obtain ⟨hr1532, N1532q, eh1532⟩ := hQ1532
  rw [hr1532] at st1532
  clear hr1532
  have N1532 := Fr.app N1528 N1532q
  refine Go.via (fun _ kQ => st1532.trans kQ) ?_
  clear st1532
  have e1532 : T1532.heap = T1483.heap := eh1532
  clear X1530 e1530
  show Go p e below (T1532.setTop (mkF m 340 #[vi p0, vi p1, vi p2, vi p3, vi p4, vi ov, vi (2 : Int32), vi b1, vi b2, vi b3, vi xx, vi dd, vi yy, vr v1, vr v2, vr v3, vr v4, vr v5, vr b525, vi (1 : Int32), vr b534, vr el, vr el, vr b1231, vr b1455, .unset] [(.int (2 : Int32))])) _
  refine Go.via (fun _ => XS.iconst X1532.here hx rfl (hb hby at_340)) ?_
  refine Go.via (fun _ => XS.icmpNo X1532.here hx rfl (hb hby at_341) rfl (teq ((by decide) : (2 : Int32) = (2 : Int32))).2) ?_
  refine Go.via (fun _ => XS.iconst X1532.here hx rfl (hb hby at_344)) ?_
  refine Go.via (fun _ => XS.goto X1532.here hx rfl (pc0 := 345) (pc' := 349) rfl (hb hby at_345) (by decide) (by decide)) ?_
  refine Go.via (fun _ => XS.istore X1532.here hx rfl (hb hby at_349) rfl (l' := #[vi p0, vi p1, vi p2, vi p3, vi p4, vi ov, vi (2 : Int32), vi b1, vi b2, vi b3, vi xx, vi dd, vi yy, vr v1, vr v2, vr v3, vr v4, vr v5, vr b525, vi (1 : Int32), vr b534, vr el, vr el, vr b1231, vr b1455, .unset]) rfl) ?_
  refine Go.via (fun _ => XS.iload X1532.here hx rfl (hb hby at_351) rfl) ?_
  refine Go.via (fun _ => XS.ifNo X1532.here hx rfl (hb hby at_353) rfl ((if0 _ _).trans (feq ((by decide) : ¬ ((1 : Int32) = (0 : Int32)))).1)) ?_
  show Go p e below (T1532.setTop (mkF m 356 #[vi p0, vi p1, vi p2, vi p3, vi p4, vi ov, vi (2 : Int32), vi b1, vi b2, vi b3, vi xx, vi dd, vi yy, vr v1, vr v2, vr v3, vr v4, vr v5, vr b525, vi (1 : Int32), vr b534, vr el, vr el, vr b1231, vr b1455, .unset] [])) _
  refine Go.via (fun _ => XS.iload X1532.here hx rfl (hb hby at_356) rfl) ?_
  refine Go.via (fun _ => XS.iconst X1532.here hx rfl (hb hby at_358)) ?_
  refine Go.via (fun _ => XS.icmpYes X1532.here hx rfl (pc0 := 359) (pc' := 387) rfl (hb hby at_359) rfl (tlt ((by decide) : (2 : Int32) < (3 : Int32))).1 (by decide) (by decide)) ?_
  have X1532m := X1532.more (by decide : _ ≤ 13) (by decide : _ ≤ 61)
  have f1534 : Exa Z T1483.heap b1455 cAL := (f1478.keep K1483q)
  have f1535 : Fld Z T1483.heap b1455 cAL "size" "I" (.int (0 : Int32)) := (f1481.keep K1483q (ninS (Ne.symm ne1468) nin0))
  have f1536 : Exa Z T1483.heap b1231 cAL := (f1496.keep K1483q)
  have f1537 : Fld Z T1483.heap b1231 cAL "size" "I" (.int (2 : Int32)) := ((f1450.keep K1453q (ninS (Ne.symm lf19_1431) nin0)).keep K1483q (ninS (Ne.symm lf19_1431) nin0))
  have f1538 : Fld Z T1483.heap b1231 cAL "elementData" cOA (.ref b1258) := ((f1449.keep K1453q (ninS (Ne.symm lf19_1431) nin0)).keep K1483q (ninS (Ne.symm lf19_1431) nin0))
  have f1539 : Ra Z T1483.heap b1258 cOB [(.ref v4), (.ref v5), .null, .null, .null, .null, .null, .null, .null, .null] := (f1498.keep K1483q (ninS (Ne.symm lf23_1431) nin0))
  have k1540 : Keep h0 T1483.heap [] := (k1506.trans K1483q (allS (Or.inr lf30_1431) all0))
  exact rm_rm0_JN l Z a0 hw p0 p1 p2 p3 p4 de el ea ca cl v1 v2 v3 v4 v5 h0 n0 zD zN zL zH zC zLE zLF zLN zE1 zV1 zE2 zV2 zE3 zV3 zE4 zV4 zE5 zV5 hA hin1 hat1 hin2 hat2 hin3 hat3 hin4 hat4 hin5 hat5 hx hby hlk hml hown hZ hret T1532 _ T1483.heap ov b1 b2 b3 xx dd yy (2 : Int32) b525 b534 b1231 b1455 b1258 X1532m e1532 N1532 z1517 k1540 f1518 f1515 f1534 f1535 o1522 f1536 f1537 f1538 f1539 hsp
set_option maxRecDepth 65536 in
set_option maxHeartbeats 40000000 in
theorem rm_rm0_c2 (l : Launch) (Z : State) (a0 : Array Value) (hw : ∀ d ∈ tables_1, d.before a0 Z = true) (p0 : Int32) (p1 : Int32) (p2 : Int32) (p3 : Int32) (p4 : Int32) (de : Addr) (el : Addr) (ea : Addr) (ca : Addr) (cl : Cell) (v1 : Addr) (v2 : Addr) (v3 : Addr) (v4 : Addr) (v5 : Addr) (h0 : Heap) (n0 : Nat) (zD : Sta Z Z.heap cAL cDE cOA (.ref de)) (zN : Rn Z Z.heap de (0 : Int32)) (zL : Sta Z Z.heap cIM "EMPTY_LIST" "Ljava/util/ImmutableCollections$ListN;" (.ref el)) (zH : Sta Z Z.heap cIC "high" "I" (.int (127 : Int32))) (zC : Sta Z Z.heap cIC "cache" "[Ljava/lang/Integer;" (.ref ca)) (zLE : Exa Z Z.heap el cLN) (zLF : Fld Z Z.heap el cLN "elements" cOA (.ref ea)) (zLN : Rn Z Z.heap ea (0 : Int32)) (zE1 : Exa Z Z.heap v1 cIN) (zV1 : Fld Z Z.heap v1 cIN "value" "I" (.int (1 : Int32))) (zE2 : Exa Z Z.heap v2 cIN) (zV2 : Fld Z Z.heap v2 cIN "value" "I" (.int (2 : Int32))) (zE3 : Exa Z Z.heap v3 cIN) (zV3 : Fld Z Z.heap v3 cIN "value" "I" (.int (3 : Int32))) (zE4 : Exa Z Z.heap v4 cIN) (zV4 : Fld Z Z.heap v4 cIN "value" "I" (.int (4 : Int32))) (zE5 : Exa Z Z.heap v5 cIN) (zV5 : Fld Z Z.heap v5 cIN "value" "I" (.int (5 : Int32))) (hA : Arr Z Z.heap ca cl (.object cIN)) (hin1 : ¬ (((1 : Int32) + (128 : Int32)) < 0 ∨ cl.slots.size ≤ ((1 : Int32) + (128 : Int32)).toNatClampNeg)) (hat1 : cl.slots[((1 : Int32) + (128 : Int32)).toNatClampNeg]? = some (.ref v1)) (hin2 : ¬ (((2 : Int32) + (128 : Int32)) < 0 ∨ cl.slots.size ≤ ((2 : Int32) + (128 : Int32)).toNatClampNeg)) (hat2 : cl.slots[((2 : Int32) + (128 : Int32)).toNatClampNeg]? = some (.ref v2)) (hin3 : ¬ (((3 : Int32) + (128 : Int32)) < 0 ∨ cl.slots.size ≤ ((3 : Int32) + (128 : Int32)).toNatClampNeg)) (hat3 : cl.slots[((3 : Int32) + (128 : Int32)).toNatClampNeg]? = some (.ref v3)) (hin4 : ¬ (((4 : Int32) + (128 : Int32)) < 0 ∨ cl.slots.size ≤ ((4 : Int32) + (128 : Int32)).toNatClampNeg)) (hat4 : cl.slots[((4 : Int32) + (128 : Int32)).toNatClampNeg]? = some (.ref v4)) (hin5 : ¬ (((5 : Int32) + (128 : Int32)) < 0 ∨ cl.slots.size ≤ ((5 : Int32) + (128 : Int32)).toNatClampNeg)) (hat5 : cl.slots[((5 : Int32) + (128 : Int32)).toNatClampNeg]? = some (.ref v5)) {p : Program} {e : Env} {s : State} {m : MethodId} {below : List Frame} {meth : Method} {c : Code} (hx : p.tables.exec = Jvm.exec) (hby : c.code = code) (hlk : meth.locks = false) (hml : c.maxLocals = 26) (hown : s.vm.findClass cLAW = some m.cls) (hZ : Z.Warmed39 s.vm) (hret : meth.sig.returnType = ret) :
    ∀ (T1172 : State) (L1172 : List Loc) (h1172 : Heap) (ov : Int32) (b1 : Int32) (b2 : Int32) (b3 : Int32) (xx : Int32) (dd : Int32) (yy : Int32) (b525 : Addr) (b534 : Addr), Stand p l e room_1 s m #[(.int p0), (.int p1), (.int p2), (.int p3), (.int p4)] below meth c T1172 L1172 2 6 → T1172.heap = h1172 → Fr n0 L1172 → n0 ≤ h1172.size → Keep h0 h1172 [] → Old Z n0 h1172 → Exa Z h1172 b525 cFI → Fld Z h1172 b525 cFI "part" "Ljava/util/List;" (.ref b534) → Fld Z h1172 b525 cFI "overhead" "I" (.int ov) → Fld Z h1172 b525 cFI "partBytes" "J" (.long (ov.toInt64)) → Exa Z h1172 b534 cAL → Fld Z h1172 b534 cAB "modCount" "I" (.int (0 : Int32)) → Fld Z h1172 b534 cAL "elementData" cOA (.ref de) → Fld Z h1172 b534 cAL "size" "I" (.int (0 : Int32)) → b525 ≠ b534 → n0 ≤ b525 → n0 ≤ b534 → h0.size ≤ b525 → h0.size ≤ b534 → (p0 &&& (524287 : Int32)) = ov → (p2 &&& (131071 : Int32)) = b1 → (((p2.toUInt32 >>> ((15 : Int32) &&& 31).toUInt32).toInt32) &&& (131071 : Int32)) = b2 → (p3 &&& (524287 : Int32)) = xx → ((p4 &&& (3 : Int32)) - (1 : Int32)) = dd → (((((1048576 : Int32) - ov) - xx) - (1 : Int32)) + dd) = yy → Go p e below (T1172.setTop (mkF m 107 #[vi p0, vi p1, vi p2, vi p3, vi p4, vi ov, vi (2 : Int32), vi b1, vi b2, vi b3, vi xx, vi dd, vi yy, vr v1, vr v2, vr v3, vr v4, vr v5, vr b525, vi (1 : Int32), .unset, .unset, .unset, .unset, .unset, .unset] [])) (Done s (Q_rm0 Z p0 p1 p2 p3 p4 de el ea ca cl v1 v2 v3 v4 v5 h0 n0) room_1.cells room_1.slots) := by
  intro T1172 L1172 h1172 ov b1 b2 b3 xx dd yy b525 b534 X1172 e1172 N1172 z1172 k1172 lf0_1172 lf1_1172 lf2_1172 lf3_1172 lf4_1172 lf5_1172 lf6_1172 lf7_1172 lf8_1172 lf9_1172 lf10_1172 lf11_1172 lf12_1172 lf13_1172 hv_ov hv_b1 hv_b2 hv_xx hv_dd hv_yy
  show Go p e below (T1172.setTop (mkF m 107 #[vi p0, vi p1, vi p2, vi p3, vi p4, vi ov, vi (2 : Int32), vi b1, vi b2, vi b3, vi xx, vi dd, vi yy, vr v1, vr v2, vr v3, vr v4, vr v5, vr b525, vi (1 : Int32), .unset, .unset, .unset, .unset, .unset, .unset] [])) _
  refine Go.via (fun _ => XS.iload X1172.here hx rfl (hb hby at_107) rfl) ?_
  refine Go.via (fun _ => XS.iconst X1172.here hx rfl (hb hby at_109)) ?_
  refine Go.via (fun _ => XS.icmpNo X1172.here hx rfl (hb hby at_110) rfl (flt ((by decide) : ¬ ((2 : Int32) < (1 : Int32)))).1) ?_
  refine Go.via (fun _ => XS.iload X1172.here hx rfl (hb hby at_113) rfl) ?_
  show Go p e below (T1172.setTop (mkF m 115 #[vi p0, vi p1, vi p2, vi p3, vi p4, vi ov, vi (2 : Int32), vi b1, vi b2, vi b3, vi xx, vi dd, vi yy, vr v1, vr v2, vr v3, vr v4, vr v5, vr b525, vi (1 : Int32), .unset, .unset, .unset, .unset, .unset, .unset] [(.int (1 : Int32))])) _
  refine Go.via (fun _ => XS.ifNo X1172.here hx rfl (hb hby at_115) rfl ((if0 _ _).trans (feq ((by decide) : ¬ ((1 : Int32) = (0 : Int32)))).1)) ?_
  refine Go.via (fun _ => XS.aload X1172.here hx rfl (hb hby at_118) rfl rfl) ?_
  refine Go.via (fun _ => XS.aload X1172.here hx rfl (hb hby at_120) rfl rfl) ?_
  refine Go.via (fun _ => XS.iload X1172.here hx rfl (hb hby at_122) rfl) ?_
  have f1173 : Exa Z h1172 v1 cIN := zE1.ext lf0_1172.2
  obtain ⟨cq1174, kq1174, q1174a, q1174b, q1174c⟩ := isOf hZ e1172 lf1_1172
  obtain ⟨r1174, _, ⟨T1174, L1174, k1174, n1174⟩, -, X1174, ⟨Lc1174, hQ1174, l1174, y1174, z1174⟩, st1174⟩ := X1172.virtualBack hx (y := (⟨cFI, "add", "(Ljava/lang/Object;I)Ljava/util/List;"⟩ : MethodName)) (z := (⟨cFI, "add", "(Ljava/lang/Object;I)Ljava/util/List;"⟩ : MethodName)) hown (mvT hZ (tw hw 49 rfl)) (mvT hZ (tw hw 50 rfl)) (notFace_of_selects (args := #[]) (mvT hZ (tw hw 52 rfl))) (mvT hZ (tw hw 52 rfl)) (mvT hZ (tw hw 51 rfl)) (by decide) (backOf (W := 0) (rmFa0 l Z a0 hw [] b525 v1 b1 b534 ov (ov.toInt64) de (0 : Int32) el h1172 n0 z1172 lf1_1172 lf2_1172 lf3_1172 lf4_1172 lf5_1172 lf6_1172 lf7_1172 lf8_1172 f1173 lf0_1172 zD zN zL lf10_1172 lf11_1172 lf9_1172) hZ (tw hw 53 rfl) (tw hw 12 rfl) (by decide) (by decide)) q1174a q1174c (g := (mkF m 124 #[vi p0, vi p1, vi p2, vi p3, vi p4, vi ov, vi (2 : Int32), vi b1, vi b2, vi b3, vi xx, vi dd, vi yy, vr v1, vr v2, vr v3, vr v4, vr v5, vr b525, vi (1 : Int32), .unset, .unset, .unset, .unset, .unset, .unset] [(.int b1), (.ref v1), (.ref b525)])) rfl (by rw [hml]; rfl) (Steps.refl _) (argsL := [(.ref v1), (.int b1)]) (rest := []) (lenOf pd__28Ljava_2flang_2fObject_3bI_29Ljava_2futil_2fList_3b rfl) rfl (by show 2 * 0 + _ ≤ _; exact Nat.le_of_eq rfl) (hb hby at_124) (fun _ _ => ⟨rfl, e1172, (by decide : 2 + 1 ≤ _), (by decide : 6 + 10 ≤ _)⟩)
  dsimp only [Pt.U, Pt.locs, Pt.cells, Pt.slots] at X1174 l1174 y1174 z1174 st1174 hQ1174
  rw [l1174, y1174, z1174] at X1174
  clear l1174 y1174 z1174
  obtain ⟨b1175, hr1174, N1174q, K1174q, fz_b1175, f1176, f1177, f1178, f1179, f1180, f1181, f1182, f1183, f1184⟩ := hQ1174
  rw [hr1174] at st1174
  clear hr1174
  have N1174 := Fr.app N1172 N1174q
  refine Go.via (fun _ kQ => st1174.trans kQ) ?_
  clear st1174
  have ne1185 : b525 ≠ b1175 := Nat.ne_of_lt (Nat.lt_of_lt_of_le lf1_1172.lt fz_b1175)
  have ne1186 : b534 ≠ b1175 := Nat.ne_of_lt (Nat.lt_of_lt_of_le lf5_1172.lt fz_b1175)
  have ge1187 : n0 ≤ b1175 := Nat.le_trans z1172 fz_b1175
  have sz1188 : h0.size ≤ b1175 := Nat.le_trans k1172.1 fz_b1175
  have e1174 : T1174.heap = T1174.heap := rfl
  have f1189 : Exa Z T1174.heap b525 cFI := f1176
  have f1190 : Fld Z T1174.heap b525 cFI "part" "Ljava/util/List;" (.ref b534) := f1177
  have f1191 : Fld Z T1174.heap b525 cFI "overhead" "I" (.int ov) := f1178
  have f1192 : Fld Z T1174.heap b525 cFI "partBytes" "J" (.long ((ov.toInt64) + (b1.toInt64))) := f1179
  have f1193 : Exa Z T1174.heap b534 cAL := f1180
  have f1194 : Fld Z T1174.heap b534 cAB "modCount" "I" (.int ((0 : Int32) + (1 : Int32))) := f1181
  have f1195 : Fld Z T1174.heap b534 cAL "elementData" cOA (.ref b1175) := f1182
  have f1196 : Fld Z T1174.heap b534 cAL "size" "I" (.int (1 : Int32)) := f1183
  have f1197 : Ra Z T1174.heap b1175 cOB [(.ref v1), .null, .null, .null, .null, .null, .null, .null, .null, .null] := f1184
  clear X1172 e1172
  show Go p e below (T1174.setTop (mkF m 127 #[vi p0, vi p1, vi p2, vi p3, vi p4, vi ov, vi (2 : Int32), vi b1, vi b2, vi b3, vi xx, vi dd, vi yy, vr v1, vr v2, vr v3, vr v4, vr v5, vr b525, vi (1 : Int32), .unset, .unset, .unset, .unset, .unset, .unset] [(.ref el)])) _
  have o1198 : Old Z n0 T1174.heap := (lf0_1172.keep K1174q (allS lf10_1172 (allS lf11_1172 all0)))
  have f1199 : Fld Z T1174.heap el cLN "elements" cOA (.ref ea) := zLF.ext o1198.2
  have f1200 : Rn Z T1174.heap ea (0 : Int32) := zLN.ext o1198.2
  have z1202 : n0 ≤ T1174.heap.size := (Nat.le_trans z1172 K1174q.1)
  have f1203 : Exa Z T1174.heap el cLN := zLE.ext o1198.2
  obtain ⟨cq1201, kq1201, q1201a, q1201b, q1201c⟩ := isOf hZ e1174 f1203
  obtain ⟨r1201, _, ⟨T1201, L1201, k1201, n1201⟩, -, X1201, ⟨Lc1201, hQ1201, l1201, y1201, z1201⟩, st1201⟩ := X1174.interfaceBack hx (xi := (⟨cLI, "size", "()I"⟩ : MethodName)) (y := (⟨cLN, "size", "()I"⟩ : MethodName)) hown (mvT hZ (tw hw 103 rfl)) (mvT hZ (tw hw 104 rfl)) (mvT hZ (tw hw 105 rfl)) (mvT hZ (tw hw 106 rfl)) (mvT hZ (tw hw 107 rfl)) (mvT hZ (tw hw 108 rfl)) (mvT hZ (tw hw 109 rfl)) (mvT hZ (tw hw 110 rfl)) (by decide) (backOf (W := 0) (rmNs l Z a0 hw [] el ea T1174.heap n0 z1202 f1199 f1200) hZ (tw hw 112 rfl) (tw hw 111 rfl) (by decide) (by decide)) q1201a q1201b q1201c (g := (mkF m 127 #[vi p0, vi p1, vi p2, vi p3, vi p4, vi ov, vi (2 : Int32), vi b1, vi b2, vi b3, vi xx, vi dd, vi yy, vr v1, vr v2, vr v3, vr v4, vr v5, vr b525, vi (1 : Int32), .unset, .unset, .unset, .unset, .unset, .unset] [(.ref el)])) rfl (by rw [hml]; rfl) (Steps.refl _) (argsL := []) (rest := []) (lenOf pd__28_29I rfl) rfl (by show 2 * 0 + _ ≤ _; exact Nat.le_of_eq rfl) (hb hby at_127) (fun _ _ => ⟨rfl, e1174, (by decide : 3 + 0 ≤ _), (by decide : 16 + 0 ≤ _)⟩)
  dsimp only [Pt.U, Pt.locs, Pt.cells, Pt.slots] at X1201 l1201 y1201 z1201 st1201 hQ1201
  rw [l1201, y1201, z1201] at X1201
  clear l1201 y1201 z1201
  obtain ⟨hr1201, N1201q, eh1201⟩ := hQ1201
  rw [hr1201] at st1201
  clear hr1201
  have N1201 := Fr.app N1174 N1201q
  refine Go.via (fun _ kQ => st1201.trans kQ) ?_
  clear st1201
  have e1201 : T1201.heap = T1174.heap := eh1201
  clear X1174 e1174
  show Go p e below (T1201.setTop (mkF m 132 #[vi p0, vi p1, vi p2, vi p3, vi p4, vi ov, vi (2 : Int32), vi b1, vi b2, vi b3, vi xx, vi dd, vi yy, vr v1, vr v2, vr v3, vr v4, vr v5, vr b525, vi (1 : Int32), .unset, .unset, .unset, .unset, .unset, .unset] [(.int (0 : Int32))])) _
  refine Go.via (fun _ => XS.ifNo X1201.here hx rfl (hb hby at_132) rfl ((if0 _ _).trans (teq ((by decide) : (0 : Int32) = (0 : Int32))).2)) ?_
  refine Go.via (fun _ => XS.iconst X1201.here hx rfl (hb hby at_135)) ?_
  refine Go.via (fun _ => XS.goto X1201.here hx rfl (pc0 := 136) (pc' := 140) rfl (hb hby at_136) (by decide) (by decide)) ?_
  refine Go.via (fun _ => XS.istore X1201.here hx rfl (hb hby at_140) rfl (l' := #[vi p0, vi p1, vi p2, vi p3, vi p4, vi ov, vi (2 : Int32), vi b1, vi b2, vi b3, vi xx, vi dd, vi yy, vr v1, vr v2, vr v3, vr v4, vr v5, vr b525, vi (1 : Int32), .unset, .unset, .unset, .unset, .unset, .unset]) rfl) ?_
  refine Go.via (fun _ => XS.iload X1201.here hx rfl (hb hby at_142) rfl) ?_
  refine Go.via (fun _ => XS.iconst X1201.here hx rfl (hb hby at_144)) ?_
  refine Go.via (fun _ => XS.icmpNo X1201.here hx rfl (hb hby at_145) rfl (flt ((by decide) : ¬ ((2 : Int32) < (2 : Int32)))).1) ?_
  show Go p e below (T1201.setTop (mkF m 148 #[vi p0, vi p1, vi p2, vi p3, vi p4, vi ov, vi (2 : Int32), vi b1, vi b2, vi b3, vi xx, vi dd, vi yy, vr v1, vr v2, vr v3, vr v4, vr v5, vr b525, vi (1 : Int32), .unset, .unset, .unset, .unset, .unset, .unset] [])) _
  refine Go.via (fun _ => XS.iload X1201.here hx rfl (hb hby at_148) rfl) ?_
  refine Go.via (fun _ => XS.ifNo X1201.here hx rfl (hb hby at_150) rfl ((if0 _ _).trans (feq ((by decide) : ¬ ((1 : Int32) = (0 : Int32)))).1)) ?_
  refine Go.via (fun _ => XS.aload X1201.here hx rfl (hb hby at_153) rfl rfl) ?_
  refine Go.via (fun _ => XS.aload X1201.here hx rfl (hb hby at_155) rfl rfl) ?_
  refine Go.via (fun _ => XS.iload X1201.here hx rfl (hb hby at_157) rfl) ?_
  have f1204 : Exa Z T1174.heap v2 cIN := zE2.ext o1198.2
  obtain ⟨cq1205, kq1205, q1205a, q1205b, q1205c⟩ := isOf hZ e1201 f1189
  obtain ⟨r1205, _, ⟨T1205, L1205, k1205, n1205⟩, -, X1205, ⟨Lc1205, hQ1205, l1205, y1205, z1205⟩, st1205⟩ := X1201.virtualBack hx (y := (⟨cFI, "add", "(Ljava/lang/Object;I)Ljava/util/List;"⟩ : MethodName)) (z := (⟨cFI, "add", "(Ljava/lang/Object;I)Ljava/util/List;"⟩ : MethodName)) hown (mvT hZ (tw hw 49 rfl)) (mvT hZ (tw hw 50 rfl)) (notFace_of_selects (args := #[]) (mvT hZ (tw hw 52 rfl))) (mvT hZ (tw hw 52 rfl)) (mvT hZ (tw hw 51 rfl)) (by decide) (backOf (W := 0) (rmFa1 l Z a0 hw [] b525 v2 b2 b534 ov ((ov.toInt64) + (b1.toInt64)) b1175 ((0 : Int32) + (1 : Int32)) el v1 T1174.heap n0 z1202 f1189 f1190 f1191 f1192 f1193 f1194 f1195 f1196 f1197 f1204 o1198 zL lf10_1172 lf11_1172 ge1187 lf9_1172 ne1185 ne1186 (own_a1 hv_ov hv_b1 hv_b2)) hZ (tw hw 53 rfl) (tw hw 12 rfl) (by decide) (by decide)) q1205a q1205c (g := (mkF m 159 #[vi p0, vi p1, vi p2, vi p3, vi p4, vi ov, vi (2 : Int32), vi b1, vi b2, vi b3, vi xx, vi dd, vi yy, vr v1, vr v2, vr v3, vr v4, vr v5, vr b525, vi (1 : Int32), .unset, .unset, .unset, .unset, .unset, .unset] [(.int b2), (.ref v2), (.ref b525)])) rfl (by rw [hml]; rfl) (Steps.refl _) (argsL := [(.ref v2), (.int b2)]) (rest := []) (lenOf pd__28Ljava_2flang_2fObject_3bI_29Ljava_2futil_2fList_3b rfl) rfl (by show 2 * 0 + _ ≤ _; exact Nat.le_of_eq rfl) (hb hby at_159) (fun _ _ => ⟨rfl, e1201, (by decide : 3 + 0 ≤ _), (by decide : 16 + 0 ≤ _)⟩)
  dsimp only [Pt.U, Pt.locs, Pt.cells, Pt.slots] at X1205 l1205 y1205 z1205 st1205 hQ1205
  rw [l1205, y1205, z1205] at X1205
  clear l1205 y1205 z1205
  obtain ⟨hr1205, N1205q, K1205q, f1206, f1207, f1208, f1209, f1210, f1211, f1212, f1213, f1214⟩ := hQ1205
  rw [hr1205] at st1205
  clear hr1205
  have N1205 := Fr.app N1201 N1205q
  refine Go.via (fun _ kQ => st1205.trans kQ) ?_
  clear st1205
  have e1205 : T1205.heap = T1205.heap := rfl
  have f1215 : Exa Z T1205.heap b525 cFI := f1206
  have f1216 : Fld Z T1205.heap b525 cFI "part" "Ljava/util/List;" (.ref b534) := f1207
  have f1217 : Fld Z T1205.heap b525 cFI "overhead" "I" (.int ov) := f1208
  have f1218 : Fld Z T1205.heap b525 cFI "partBytes" "J" (.long (((ov.toInt64) + (b1.toInt64)) + (((1 : Int32) + b2).toInt64))) := f1209
  have f1219 : Exa Z T1205.heap b534 cAL := f1210
  have f1220 : Fld Z T1205.heap b534 cAB "modCount" "I" (.int (((0 : Int32) + (1 : Int32)) + (1 : Int32))) := f1211
  have f1221 : Fld Z T1205.heap b534 cAL "elementData" cOA (.ref b1175) := f1212
  have f1222 : Fld Z T1205.heap b534 cAL "size" "I" (.int (2 : Int32)) := f1213
  have f1223 : Ra Z T1205.heap b1175 cOB [(.ref v1), (.ref v2), .null, .null, .null, .null, .null, .null, .null, .null] := f1214
  clear X1201 e1201
  show Go p e below (T1205.setTop (mkF m 162 #[vi p0, vi p1, vi p2, vi p3, vi p4, vi ov, vi (2 : Int32), vi b1, vi b2, vi b3, vi xx, vi dd, vi yy, vr v1, vr v2, vr v3, vr v4, vr v5, vr b525, vi (1 : Int32), .unset, .unset, .unset, .unset, .unset, .unset] [(.ref el)])) _
  have o1224 : Old Z n0 T1205.heap := (o1198.keep K1205q (allS lf10_1172 (allS lf11_1172 (allS ge1187 all0))))
  have f1225 : Fld Z T1205.heap el cLN "elements" cOA (.ref ea) := zLF.ext o1224.2
  have f1226 : Rn Z T1205.heap ea (0 : Int32) := zLN.ext o1224.2
  have z1228 : n0 ≤ T1205.heap.size := (Nat.le_trans z1202 K1205q.1)
  have f1229 : Exa Z T1205.heap el cLN := zLE.ext o1224.2
  obtain ⟨cq1227, kq1227, q1227a, q1227b, q1227c⟩ := isOf hZ e1205 f1229
  obtain ⟨r1227, _, ⟨T1227, L1227, k1227, n1227⟩, -, X1227, ⟨Lc1227, hQ1227, l1227, y1227, z1227⟩, st1227⟩ := X1205.interfaceBack hx (xi := (⟨cLI, "size", "()I"⟩ : MethodName)) (y := (⟨cLN, "size", "()I"⟩ : MethodName)) hown (mvT hZ (tw hw 103 rfl)) (mvT hZ (tw hw 104 rfl)) (mvT hZ (tw hw 105 rfl)) (mvT hZ (tw hw 106 rfl)) (mvT hZ (tw hw 107 rfl)) (mvT hZ (tw hw 108 rfl)) (mvT hZ (tw hw 109 rfl)) (mvT hZ (tw hw 110 rfl)) (by decide) (backOf (W := 0) (rmNs l Z a0 hw [] el ea T1205.heap n0 z1228 f1225 f1226) hZ (tw hw 112 rfl) (tw hw 111 rfl) (by decide) (by decide)) q1227a q1227b q1227c (g := (mkF m 162 #[vi p0, vi p1, vi p2, vi p3, vi p4, vi ov, vi (2 : Int32), vi b1, vi b2, vi b3, vi xx, vi dd, vi yy, vr v1, vr v2, vr v3, vr v4, vr v5, vr b525, vi (1 : Int32), .unset, .unset, .unset, .unset, .unset, .unset] [(.ref el)])) rfl (by rw [hml]; rfl) (Steps.refl _) (argsL := []) (rest := []) (lenOf pd__28_29I rfl) rfl (by show 2 * 0 + _ ≤ _; exact Nat.le_of_eq rfl) (hb hby at_162) (fun _ _ => ⟨rfl, e1205, (by decide : 3 + 0 ≤ _), (by decide : 16 + 0 ≤ _)⟩)
  dsimp only [Pt.U, Pt.locs, Pt.cells, Pt.slots] at X1227 l1227 y1227 z1227 st1227 hQ1227
  rw [l1227, y1227, z1227] at X1227
  clear l1227 y1227 z1227
  obtain ⟨hr1227, N1227q, eh1227⟩ := hQ1227
  rw [hr1227] at st1227
  clear hr1227
  have N1227 := Fr.app N1205 N1227q
  refine Go.via (fun _ kQ => st1227.trans kQ) ?_
  clear st1227
  have e1227 : T1227.heap = T1205.heap := eh1227
  clear X1205 e1205
  show Go p e below (T1227.setTop (mkF m 167 #[vi p0, vi p1, vi p2, vi p3, vi p4, vi ov, vi (2 : Int32), vi b1, vi b2, vi b3, vi xx, vi dd, vi yy, vr v1, vr v2, vr v3, vr v4, vr v5, vr b525, vi (1 : Int32), .unset, .unset, .unset, .unset, .unset, .unset] [(.int (0 : Int32))])) _
  refine Go.via (fun _ => XS.ifNo X1227.here hx rfl (hb hby at_167) rfl ((if0 _ _).trans (teq ((by decide) : (0 : Int32) = (0 : Int32))).2)) ?_
  refine Go.via (fun _ => XS.iconst X1227.here hx rfl (hb hby at_170)) ?_
  refine Go.via (fun _ => XS.goto X1227.here hx rfl (pc0 := 171) (pc' := 175) rfl (hb hby at_171) (by decide) (by decide)) ?_
  refine Go.via (fun _ => XS.istore X1227.here hx rfl (hb hby at_175) rfl (l' := #[vi p0, vi p1, vi p2, vi p3, vi p4, vi ov, vi (2 : Int32), vi b1, vi b2, vi b3, vi xx, vi dd, vi yy, vr v1, vr v2, vr v3, vr v4, vr v5, vr b525, vi (1 : Int32), .unset, .unset, .unset, .unset, .unset, .unset]) rfl) ?_
  refine Go.via (fun _ => XS.iload X1227.here hx rfl (hb hby at_177) rfl) ?_
  refine Go.via (fun _ => XS.iconst X1227.here hx rfl (hb hby at_179)) ?_
  refine Go.via (fun _ => XS.icmpYes X1227.here hx rfl (pc0 := 180) (pc' := 212) rfl (hb hby at_180) rfl (tlt ((by decide) : (2 : Int32) < (3 : Int32))).1 (by decide) (by decide)) ?_
  show Go p e below (T1227.setTop (mkF m 212 #[vi p0, vi p1, vi p2, vi p3, vi p4, vi ov, vi (2 : Int32), vi b1, vi b2, vi b3, vi xx, vi dd, vi yy, vr v1, vr v2, vr v3, vr v4, vr v5, vr b525, vi (1 : Int32), .unset, .unset, .unset, .unset, .unset, .unset] [])) _
  refine Go.via (fun _ => XS.aload X1227.here hx rfl (hb hby at_212) rfl rfl) ?_
  obtain ⟨cq1230, kq1230, q1230a, q1230b, q1230c⟩ := isOf hZ e1227 f1215
  obtain ⟨r1230, _, ⟨T1230, L1230, k1230, n1230⟩, -, X1230, ⟨Lc1230, hQ1230, l1230, y1230, z1230⟩, st1230⟩ := X1227.virtualBack hx (y := (⟨cFI, "last", "()Ljava/util/List;"⟩ : MethodName)) (z := (⟨cFI, "last", "()Ljava/util/List;"⟩ : MethodName)) hown (mvT hZ (tw hw 116 rfl)) (mvT hZ (tw hw 117 rfl)) (notFace_of_selects (args := #[]) (mvT hZ (tw hw 119 rfl))) (mvT hZ (tw hw 119 rfl)) (mvT hZ (tw hw 118 rfl)) (by decide) (backOf (W := 0) (rmLa l Z a0 hw [] b525 b534 ov (((ov.toInt64) + (b1.toInt64)) + (((1 : Int32) + b2).toInt64)) de T1205.heap n0 z1228 f1215 f1216 f1217 f1218 o1224 zD lf10_1172) hZ (tw hw 120 rfl) (tw hw 12 rfl) (by decide) (by decide)) q1230a q1230c (g := (mkF m 214 #[vi p0, vi p1, vi p2, vi p3, vi p4, vi ov, vi (2 : Int32), vi b1, vi b2, vi b3, vi xx, vi dd, vi yy, vr v1, vr v2, vr v3, vr v4, vr v5, vr b525, vi (1 : Int32), .unset, .unset, .unset, .unset, .unset, .unset] [(.ref b525)])) rfl (by rw [hml]; rfl) (Steps.refl _) (argsL := []) (rest := []) (lenOf pd__28_29Ljava_2futil_2fList_3b rfl) rfl (by show 2 * 0 + _ ≤ _; exact Nat.le_of_eq rfl) (hb hby at_214) (fun _ _ => ⟨rfl, e1227, (by decide : 3 + 1 ≤ _), (by decide : 16 + 3 ≤ _)⟩)
  dsimp only [Pt.U, Pt.locs, Pt.cells, Pt.slots] at X1230 l1230 y1230 z1230 st1230 hQ1230
  rw [l1230, y1230, z1230] at X1230
  clear l1230 y1230 z1230
  obtain ⟨b1231, hr1230, N1230q, K1230q, fz_b1231, f1232, f1233, f1234, f1235, f1236, f1237, f1238, f1239⟩ := hQ1230
  rw [hr1230] at st1230
  clear hr1230
  have N1230 := Fr.app N1227 N1230q
  refine Go.via (fun _ kQ => st1230.trans kQ) ?_
  clear st1230
  have ne1240 : b1175 ≠ b1231 := Nat.ne_of_lt (Nat.lt_of_lt_of_le f1223.lt fz_b1231)
  have ne1241 : b525 ≠ b1231 := Nat.ne_of_lt (Nat.lt_of_lt_of_le f1215.lt fz_b1231)
  have ne1242 : b534 ≠ b1231 := Nat.ne_of_lt (Nat.lt_of_lt_of_le f1219.lt fz_b1231)
  have ge1243 : n0 ≤ b1231 := Nat.le_trans z1228 fz_b1231
  have k1245 : Keep h0 T1205.heap [] := ((k1172.trans K1174q (allS (Or.inr lf12_1172) (allS (Or.inr lf13_1172) all0))).trans K1205q (allS (Or.inr lf12_1172) (allS (Or.inr lf13_1172) (allS (Or.inr sz1188) all0))))
  have sz1244 : h0.size ≤ b1231 := Nat.le_trans k1245.1 fz_b1231
  have e1230 : T1230.heap = T1230.heap := rfl
  have f1246 : Exa Z T1230.heap b525 cFI := f1232
  have f1247 : Fld Z T1230.heap b525 cFI "part" "Ljava/util/List;" (.ref b1231) := f1233
  have f1248 : Fld Z T1230.heap b525 cFI "overhead" "I" (.int ov) := f1234
  have f1249 : Fld Z T1230.heap b525 cFI "partBytes" "J" (.long (ov.toInt64)) := f1235
  have f1250 : Exa Z T1230.heap b1231 cAL := f1236
  have f1251 : Fld Z T1230.heap b1231 cAB "modCount" "I" (.int (0 : Int32)) := f1237
  have f1252 : Fld Z T1230.heap b1231 cAL "elementData" cOA (.ref de) := f1238
  have f1253 : Fld Z T1230.heap b1231 cAL "size" "I" (.int (0 : Int32)) := f1239
  clear X1227 e1227
  show Go p e below (T1230.setTop (mkF m 217 #[vi p0, vi p1, vi p2, vi p3, vi p4, vi ov, vi (2 : Int32), vi b1, vi b2, vi b3, vi xx, vi dd, vi yy, vr v1, vr v2, vr v3, vr v4, vr v5, vr b525, vi (1 : Int32), .unset, .unset, .unset, .unset, .unset, .unset] [(.ref b534)])) _
  refine Go.via (fun _ => XS.astore X1230.here hx rfl (hb hby at_217) rfl rfl (l' := #[vi p0, vi p1, vi p2, vi p3, vi p4, vi ov, vi (2 : Int32), vi b1, vi b2, vi b3, vi xx, vi dd, vi yy, vr v1, vr v2, vr v3, vr v4, vr v5, vr b525, vi (1 : Int32), vr b534, .unset, .unset, .unset, .unset, .unset]) rfl) ?_
  refine Go.via (fun _ => XS.aload X1230.here hx rfl (hb hby at_219) rfl rfl) ?_
  refine Go.via (fun _ => XS.aload X1230.here hx rfl (hb hby at_221) rfl rfl) ?_
  refine Go.via (fun _ => XS.iload X1230.here hx rfl (hb hby at_223) rfl) ?_
  have o1254 : Old Z n0 T1230.heap := (o1224.keep K1230q (allS lf10_1172 all0))
  have f1255 : Exa Z T1230.heap v4 cIN := zE4.ext o1254.2
  have z1257 : n0 ≤ T1230.heap.size := (Nat.le_trans z1228 K1230q.1)
  obtain ⟨cq1256, kq1256, q1256a, q1256b, q1256c⟩ := isOf hZ e1230 f1246
  obtain ⟨r1256, _, ⟨T1256, L1256, k1256, n1256⟩, -, X1256, ⟨Lc1256, hQ1256, l1256, y1256, z1256⟩, st1256⟩ := X1230.virtualBack hx (y := (⟨cFI, "add", "(Ljava/lang/Object;I)Ljava/util/List;"⟩ : MethodName)) (z := (⟨cFI, "add", "(Ljava/lang/Object;I)Ljava/util/List;"⟩ : MethodName)) hown (mvT hZ (tw hw 49 rfl)) (mvT hZ (tw hw 50 rfl)) (notFace_of_selects (args := #[]) (mvT hZ (tw hw 52 rfl))) (mvT hZ (tw hw 52 rfl)) (mvT hZ (tw hw 51 rfl)) (by decide) (backOf (W := 0) (rmFa0 l Z a0 hw [] b525 v4 xx b1231 ov (ov.toInt64) de (0 : Int32) el T1230.heap n0 z1257 f1246 f1247 f1248 f1249 f1250 f1251 f1252 f1253 f1255 o1254 zD zN zL lf10_1172 ge1243 ne1241) hZ (tw hw 53 rfl) (tw hw 12 rfl) (by decide) (by decide)) q1256a q1256c (g := (mkF m 225 #[vi p0, vi p1, vi p2, vi p3, vi p4, vi ov, vi (2 : Int32), vi b1, vi b2, vi b3, vi xx, vi dd, vi yy, vr v1, vr v2, vr v3, vr v4, vr v5, vr b525, vi (1 : Int32), vr b534, .unset, .unset, .unset, .unset, .unset] [(.int xx), (.ref v4), (.ref b525)])) rfl (by rw [hml]; rfl) (Steps.refl _) (argsL := [(.ref v4), (.int xx)]) (rest := []) (lenOf pd__28Ljava_2flang_2fObject_3bI_29Ljava_2futil_2fList_3b rfl) rfl (by show 2 * 0 + _ ≤ _; exact Nat.le_of_eq rfl) (hb hby at_225) (fun _ _ => ⟨rfl, e1230, (by decide : 4 + 1 ≤ _), (by decide : 19 + 10 ≤ _)⟩)
  dsimp only [Pt.U, Pt.locs, Pt.cells, Pt.slots] at X1256 l1256 y1256 z1256 st1256 hQ1256
  rw [l1256, y1256, z1256] at X1256
  clear l1256 y1256 z1256
  obtain ⟨b1258, hr1256, N1256q, K1256q, fz_b1258, f1259, f1260, f1261, f1262, f1263, f1264, f1265, f1266, f1267⟩ := hQ1256
  rw [hr1256] at st1256
  clear hr1256
  have N1256 := Fr.app N1230 N1256q
  refine Go.via (fun _ kQ => st1256.trans kQ) ?_
  clear st1256
  have f1268 : Ra Z T1230.heap b1175 cOB [(.ref v1), (.ref v2), .null, .null, .null, .null, .null, .null, .null, .null] := (f1223.keep K1230q (ninS (Ne.symm ne1185) nin0))
  have ne1269 : b1175 ≠ b1258 := Nat.ne_of_lt (Nat.lt_of_lt_of_le f1268.lt fz_b1258)
  have ne1270 : b1231 ≠ b1258 := Nat.ne_of_lt (Nat.lt_of_lt_of_le f1250.lt fz_b1258)
  have ne1271 : b525 ≠ b1258 := Nat.ne_of_lt (Nat.lt_of_lt_of_le f1246.lt fz_b1258)
  have f1272 : Exa Z T1230.heap b534 cAL := (f1219.keep K1230q)
  have ne1273 : b534 ≠ b1258 := Nat.ne_of_lt (Nat.lt_of_lt_of_le f1272.lt fz_b1258)
  have ge1274 : n0 ≤ b1258 := Nat.le_trans z1257 fz_b1258
  have k1276 : Keep h0 T1230.heap [] := (k1245.trans K1230q (allS (Or.inr lf12_1172) all0))
  have sz1275 : h0.size ≤ b1258 := Nat.le_trans k1276.1 fz_b1258
  have e1256 : T1256.heap = T1256.heap := rfl
  have f1277 : Exa Z T1256.heap b525 cFI := f1259
  have f1278 : Fld Z T1256.heap b525 cFI "part" "Ljava/util/List;" (.ref b1231) := f1260
  have f1279 : Fld Z T1256.heap b525 cFI "overhead" "I" (.int ov) := f1261
  have f1280 : Fld Z T1256.heap b525 cFI "partBytes" "J" (.long ((ov.toInt64) + (xx.toInt64))) := f1262
  have f1281 : Exa Z T1256.heap b1231 cAL := f1263
  have f1282 : Fld Z T1256.heap b1231 cAB "modCount" "I" (.int ((0 : Int32) + (1 : Int32))) := f1264
  have f1283 : Fld Z T1256.heap b1231 cAL "elementData" cOA (.ref b1258) := f1265
  have f1284 : Fld Z T1256.heap b1231 cAL "size" "I" (.int (1 : Int32)) := f1266
  have f1285 : Ra Z T1256.heap b1258 cOB [(.ref v4), .null, .null, .null, .null, .null, .null, .null, .null, .null] := f1267
  clear X1230 e1230
  show Go p e below (T1256.setTop (mkF m 228 #[vi p0, vi p1, vi p2, vi p3, vi p4, vi ov, vi (2 : Int32), vi b1, vi b2, vi b3, vi xx, vi dd, vi yy, vr v1, vr v2, vr v3, vr v4, vr v5, vr b525, vi (1 : Int32), vr b534, .unset, .unset, .unset, .unset, .unset] [(.ref el)])) _
  refine Go.via (fun _ => XS.astore X1256.here hx rfl (hb hby at_228) rfl rfl (l' := #[vi p0, vi p1, vi p2, vi p3, vi p4, vi ov, vi (2 : Int32), vi b1, vi b2, vi b3, vi xx, vi dd, vi yy, vr v1, vr v2, vr v3, vr v4, vr v5, vr b525, vi (1 : Int32), vr b534, vr el, .unset, .unset, .unset, .unset]) rfl) ?_
  show Go p e below (T1256.setTop (mkF m 230 #[vi p0, vi p1, vi p2, vi p3, vi p4, vi ov, vi (2 : Int32), vi b1, vi b2, vi b3, vi xx, vi dd, vi yy, vr v1, vr v2, vr v3, vr v4, vr v5, vr b525, vi (1 : Int32), vr b534, vr el, .unset, .unset, .unset, .unset] [])) _
  by_cases hsp : (0 : Int32) < dd
  · have z1424 : n0 ≤ T1256.heap.size := (Nat.le_trans z1257 K1256q.1)
    have k1425 : Keep h0 T1256.heap [] := (k1276.trans K1256q (allS (Or.inr lf12_1172) (allS (Or.inr sz1244) all0)))
    have o1426 : Old Z n0 T1256.heap := (o1254.keep K1256q (allS lf10_1172 (allS ge1243 all0)))
    have f1427 : Exa Z T1256.heap b534 cAL := (f1272.keep K1256q)
    have f1428 : Fld Z T1256.heap b534 cAL "elementData" cOA (.ref b1175) := ((f1221.keep K1230q (ninS (Ne.symm lf9_1172) nin0)).keep K1256q (ninS (Ne.symm lf9_1172) (ninS ne1242 nin0)))
    have f1429 : Fld Z T1256.heap b534 cAL "size" "I" (.int (2 : Int32)) := ((f1222.keep K1230q (ninS (Ne.symm lf9_1172) nin0)).keep K1256q (ninS (Ne.symm lf9_1172) (ninS ne1242 nin0)))
    have f1430 : Ra Z T1256.heap b1175 cOB [(.ref v1), (.ref v2), .null, .null, .null, .null, .null, .null, .null, .null] := (f1268.keep K1256q (ninS (Ne.symm ne1185) (ninS ne1240 nin0)))
    exact rm_rm0_c2s l Z a0 hw p0 p1 p2 p3 p4 de el ea ca cl v1 v2 v3 v4 v5 h0 n0 zD zN zL zH zC zLE zLF zLN zE1 zV1 zE2 zV2 zE3 zV3 zE4 zV4 zE5 zV5 hA hin1 hat1 hin2 hat2 hin3 hat3 hin4 hat4 hin5 hat5 hx hby hlk hml hown hZ hret T1256 _ T1256.heap ov b1 b2 b3 xx dd yy b1175 b1231 b1258 b525 b534 X1256 e1256 N1256 z1424 k1425 o1426 f1277 f1278 f1279 f1280 f1427 f1428 f1429 f1430 f1281 f1282 f1283 f1284 f1285 lf9_1172 ne1185 ne1241 ne1271 lf10_1172 lf12_1172 hv_ov hv_xx hv_dd hv_yy hsp
  · have z1541 : n0 ≤ T1256.heap.size := (Nat.le_trans z1257 K1256q.1)
    have k1542 : Keep h0 T1256.heap [] := (k1276.trans K1256q (allS (Or.inr lf12_1172) (allS (Or.inr sz1244) all0)))
    have o1543 : Old Z n0 T1256.heap := (o1254.keep K1256q (allS lf10_1172 (allS ge1243 all0)))
    have f1544 : Exa Z T1256.heap b534 cAL := (f1272.keep K1256q)
    have f1545 : Fld Z T1256.heap b534 cAL "elementData" cOA (.ref b1175) := ((f1221.keep K1230q (ninS (Ne.symm lf9_1172) nin0)).keep K1256q (ninS (Ne.symm lf9_1172) (ninS ne1242 nin0)))
    have f1546 : Fld Z T1256.heap b534 cAL "size" "I" (.int (2 : Int32)) := ((f1222.keep K1230q (ninS (Ne.symm lf9_1172) nin0)).keep K1256q (ninS (Ne.symm lf9_1172) (ninS ne1242 nin0)))
    have f1547 : Ra Z T1256.heap b1175 cOB [(.ref v1), (.ref v2), .null, .null, .null, .null, .null, .null, .null, .null] := (f1268.keep K1256q (ninS (Ne.symm ne1185) (ninS ne1240 nin0)))
    exact rm_rm0_c2n l Z a0 hw p0 p1 p2 p3 p4 de el ea ca cl v1 v2 v3 v4 v5 h0 n0 zD zN zL zH zC zLE zLF zLN zE1 zV1 zE2 zV2 zE3 zV3 zE4 zV4 zE5 zV5 hA hin1 hat1 hin2 hat2 hin3 hat3 hin4 hat4 hin5 hat5 hx hby hlk hml hown hZ hret T1256 _ T1256.heap ov b1 b2 b3 xx dd yy b1175 b1231 b1258 b525 b534 X1256 e1256 N1256 z1541 k1542 o1543 f1277 f1278 f1279 f1280 f1544 f1545 f1546 f1547 f1281 f1282 f1283 f1284 f1285 lf9_1172 ne1185 ne1240 ne1241 ne1242 ne1269 ne1270 ne1271 ne1273 lf10_1172 ge1243 ge1274 lf12_1172 sz1244 sz1275 hv_ov hv_xx hv_dd hv_yy hsp
set_option maxRecDepth 65536 in
set_option maxHeartbeats 40000000 in
theorem rm_rm0_c3s (l : Launch) (Z : State) (a0 : Array Value) (hw : ∀ d ∈ tables_1, d.before a0 Z = true) (p0 : Int32) (p1 : Int32) (p2 : Int32) (p3 : Int32) (p4 : Int32) (de : Addr) (el : Addr) (ea : Addr) (ca : Addr) (cl : Cell) (v1 : Addr) (v2 : Addr) (v3 : Addr) (v4 : Addr) (v5 : Addr) (h0 : Heap) (n0 : Nat) (zD : Sta Z Z.heap cAL cDE cOA (.ref de)) (zN : Rn Z Z.heap de (0 : Int32)) (zL : Sta Z Z.heap cIM "EMPTY_LIST" "Ljava/util/ImmutableCollections$ListN;" (.ref el)) (zH : Sta Z Z.heap cIC "high" "I" (.int (127 : Int32))) (zC : Sta Z Z.heap cIC "cache" "[Ljava/lang/Integer;" (.ref ca)) (zLE : Exa Z Z.heap el cLN) (zLF : Fld Z Z.heap el cLN "elements" cOA (.ref ea)) (zLN : Rn Z Z.heap ea (0 : Int32)) (zE1 : Exa Z Z.heap v1 cIN) (zV1 : Fld Z Z.heap v1 cIN "value" "I" (.int (1 : Int32))) (zE2 : Exa Z Z.heap v2 cIN) (zV2 : Fld Z Z.heap v2 cIN "value" "I" (.int (2 : Int32))) (zE3 : Exa Z Z.heap v3 cIN) (zV3 : Fld Z Z.heap v3 cIN "value" "I" (.int (3 : Int32))) (zE4 : Exa Z Z.heap v4 cIN) (zV4 : Fld Z Z.heap v4 cIN "value" "I" (.int (4 : Int32))) (zE5 : Exa Z Z.heap v5 cIN) (zV5 : Fld Z Z.heap v5 cIN "value" "I" (.int (5 : Int32))) (hA : Arr Z Z.heap ca cl (.object cIN)) (hin1 : ¬ (((1 : Int32) + (128 : Int32)) < 0 ∨ cl.slots.size ≤ ((1 : Int32) + (128 : Int32)).toNatClampNeg)) (hat1 : cl.slots[((1 : Int32) + (128 : Int32)).toNatClampNeg]? = some (.ref v1)) (hin2 : ¬ (((2 : Int32) + (128 : Int32)) < 0 ∨ cl.slots.size ≤ ((2 : Int32) + (128 : Int32)).toNatClampNeg)) (hat2 : cl.slots[((2 : Int32) + (128 : Int32)).toNatClampNeg]? = some (.ref v2)) (hin3 : ¬ (((3 : Int32) + (128 : Int32)) < 0 ∨ cl.slots.size ≤ ((3 : Int32) + (128 : Int32)).toNatClampNeg)) (hat3 : cl.slots[((3 : Int32) + (128 : Int32)).toNatClampNeg]? = some (.ref v3)) (hin4 : ¬ (((4 : Int32) + (128 : Int32)) < 0 ∨ cl.slots.size ≤ ((4 : Int32) + (128 : Int32)).toNatClampNeg)) (hat4 : cl.slots[((4 : Int32) + (128 : Int32)).toNatClampNeg]? = some (.ref v4)) (hin5 : ¬ (((5 : Int32) + (128 : Int32)) < 0 ∨ cl.slots.size ≤ ((5 : Int32) + (128 : Int32)).toNatClampNeg)) (hat5 : cl.slots[((5 : Int32) + (128 : Int32)).toNatClampNeg]? = some (.ref v5)) {p : Program} {e : Env} {s : State} {m : MethodId} {below : List Frame} {meth : Method} {c : Code} (hx : p.tables.exec = Jvm.exec) (hby : c.code = code) (hlk : meth.locks = false) (hml : c.maxLocals = 26) (hown : s.vm.findClass cLAW = some m.cls) (hZ : Z.Warmed39 s.vm) (hret : meth.sig.returnType = ret) :
    ∀ (T1691 : State) (L1691 : List Loc) (h1691 : Heap) (ov : Int32) (b1 : Int32) (b2 : Int32) (b3 : Int32) (xx : Int32) (dd : Int32) (yy : Int32) (b1554 : Addr) (b1636 : Addr) (b1663 : Addr) (b525 : Addr) (b534 : Addr), Stand p l e room_1 s m #[(.int p0), (.int p1), (.int p2), (.int p3), (.int p4)] below meth c T1691 L1691 5 29 → T1691.heap = h1691 → Fr n0 L1691 → n0 ≤ h1691.size → Keep h0 h1691 [] → Old Z n0 h1691 → Exa Z h1691 b525 cFI → Fld Z h1691 b525 cFI "part" "Ljava/util/List;" (.ref b1636) → Fld Z h1691 b525 cFI "overhead" "I" (.int ov) → Fld Z h1691 b525 cFI "partBytes" "J" (.long ((ov.toInt64) + (xx.toInt64))) → Exa Z h1691 b534 cAL → Fld Z h1691 b534 cAL "elementData" cOA (.ref b1554) → Fld Z h1691 b534 cAL "size" "I" (.int (3 : Int32)) → Ra Z h1691 b1554 cOB [(.ref v1), (.ref v2), (.ref v3), .null, .null, .null, .null, .null, .null, .null] → Exa Z h1691 b1636 cAL → Fld Z h1691 b1636 cAB "modCount" "I" (.int ((0 : Int32) + (1 : Int32))) → Fld Z h1691 b1636 cAL "elementData" cOA (.ref b1663) → Fld Z h1691 b1636 cAL "size" "I" (.int (1 : Int32)) → Ra Z h1691 b1663 cOB [(.ref v4), .null, .null, .null, .null, .null, .null, .null, .null, .null] → b525 ≠ b534 → b525 ≠ b1554 → b525 ≠ b1636 → b525 ≠ b1663 → n0 ≤ b525 → h0.size ≤ b525 → (p0 &&& (524287 : Int32)) = ov → (p3 &&& (524287 : Int32)) = xx → ((p4 &&& (3 : Int32)) - (1 : Int32)) = dd → (((((1048576 : Int32) - ov) - xx) - (1 : Int32)) + dd) = yy → (0 : Int32) < dd → Go p e below (T1691.setTop (mkF m 230 #[vi p0, vi p1, vi p2, vi p3, vi p4, vi ov, vi (3 : Int32), vi b1, vi b2, vi b3, vi xx, vi dd, vi yy, vr v1, vr v2, vr v3, vr v4, vr v5, vr b525, vi (1 : Int32), vr b534, vr el, .unset, .unset, .unset, .unset] [])) (Done s (Q_rm0 Z p0 p1 p2 p3 p4 de el ea ca cl v1 v2 v3 v4 v5 h0 n0) room_1.cells room_1.slots) := by
  intro T1691 L1691 h1691 ov b1 b2 b3 xx dd yy b1554 b1636 b1663 b525 b534 X1691 e1691 N1691 z1691 k1691 lf0_1691 lf1_1691 lf2_1691 lf3_1691 lf4_1691 lf5_1691 lf7_1691 lf8_1691 lf9_1691 lf10_1691 lf11_1691 lf12_1691 lf13_1691 lf14_1691 lf15_1691 lf16_1691 lf19_1691 lf23_1691 lf25_1691 lf30_1691 hv_ov hv_xx hv_dd hv_yy hsp
  show Go p e below (T1691.setTop (mkF m 230 #[vi p0, vi p1, vi p2, vi p3, vi p4, vi ov, vi (3 : Int32), vi b1, vi b2, vi b3, vi xx, vi dd, vi yy, vr v1, vr v2, vr v3, vr v4, vr v5, vr b525, vi (1 : Int32), vr b534, vr el, .unset, .unset, .unset, .unset] [])) _
  refine Go.via (fun _ => XS.aload X1691.here hx rfl (hb hby at_230) rfl rfl) ?_
  refine Go.via (fun _ => XS.aload X1691.here hx rfl (hb hby at_232) rfl rfl) ?_
  refine Go.via (fun _ => XS.iload X1691.here hx rfl (hb hby at_234) rfl) ?_
  have f1692 : Exa Z h1691 v5 cIN := zE5.ext lf0_1691.2
  obtain ⟨cq1693, kq1693, q1693a, q1693b, q1693c⟩ := isOf hZ e1691 lf1_1691
  obtain ⟨r1693, _, ⟨T1693, L1693, k1693, n1693⟩, -, X1693, ⟨Lc1693, hQ1693, l1693, y1693, z1693⟩, st1693⟩ := X1691.virtualBack hx (y := (⟨cFI, "add", "(Ljava/lang/Object;I)Ljava/util/List;"⟩ : MethodName)) (z := (⟨cFI, "add", "(Ljava/lang/Object;I)Ljava/util/List;"⟩ : MethodName)) hown (mvT hZ (tw hw 49 rfl)) (mvT hZ (tw hw 50 rfl)) (notFace_of_selects (args := #[]) (mvT hZ (tw hw 52 rfl))) (mvT hZ (tw hw 52 rfl)) (mvT hZ (tw hw 51 rfl)) (by decide) (backOf (W := 0) (rmFs1 l Z a0 hw [] b525 v5 yy b1636 ov ((ov.toInt64) + (xx.toInt64)) b1663 ((0 : Int32) + (1 : Int32)) el v4 de h1691 n0 z1691 lf1_1691 lf2_1691 lf3_1691 lf4_1691 lf10_1691 lf11_1691 lf12_1691 lf13_1691 lf14_1691 f1692 lf0_1691 zL zD zN lf25_1691 lf19_1691 lf23_1691 (own_sp hv_ov hv_xx hv_dd hv_yy hsp)) hZ (tw hw 53 rfl) (tw hw 12 rfl) (by decide) (by decide)) q1693a q1693c (g := (mkF m 236 #[vi p0, vi p1, vi p2, vi p3, vi p4, vi ov, vi (3 : Int32), vi b1, vi b2, vi b3, vi xx, vi dd, vi yy, vr v1, vr v2, vr v3, vr v4, vr v5, vr b525, vi (1 : Int32), vr b534, vr el, .unset, .unset, .unset, .unset] [(.int yy), (.ref v5), (.ref b525)])) rfl (by rw [hml]; rfl) (Steps.refl _) (argsL := [(.ref v5), (.int yy)]) (rest := []) (lenOf pd__28Ljava_2flang_2fObject_3bI_29Ljava_2futil_2fList_3b rfl) rfl (by show 2 * 0 + _ ≤ _; exact Nat.le_of_eq rfl) (hb hby at_236) (fun _ _ => ⟨rfl, e1691, (by decide : 5 + 2 ≤ _), (by decide : 29 + 13 ≤ _)⟩)
  dsimp only [Pt.U, Pt.locs, Pt.cells, Pt.slots] at X1693 l1693 y1693 z1693 st1693 hQ1693
  rw [l1693, y1693, z1693] at X1693
  clear l1693 y1693 z1693
  obtain ⟨b1694, b1695, hr1693, N1693q, K1693q, fz_b1694, fz_b1695, f1696, f1697, f1698, f1699, f1700, f1701, f1702, f1703, f1704⟩ := hQ1693
  rw [hr1693] at st1693
  clear hr1693
  have N1693 := Fr.app N1691 N1693q
  refine Go.via (fun _ kQ => st1693.trans kQ) ?_
  clear st1693
  have ne1705 : b1554 ≠ b1694 := Nat.ne_of_lt (Nat.lt_of_lt_of_le lf9_1691.lt fz_b1694)
  have ne1706 : b1636 ≠ b1694 := Nat.ne_of_lt (Nat.lt_of_lt_of_le lf10_1691.lt fz_b1694)
  have ne1707 : b1663 ≠ b1694 := Nat.ne_of_lt (Nat.lt_of_lt_of_le lf14_1691.lt fz_b1694)
  have ne1708 : b525 ≠ b1694 := Nat.ne_of_lt (Nat.lt_of_lt_of_le lf1_1691.lt fz_b1694)
  have ne1709 : b534 ≠ b1694 := Nat.ne_of_lt (Nat.lt_of_lt_of_le lf5_1691.lt fz_b1694)
  have ge1710 : n0 ≤ b1694 := Nat.le_trans z1691 fz_b1694
  have sz1711 : h0.size ≤ b1694 := Nat.le_trans k1691.1 fz_b1694
  have ne1712 : b1554 ≠ b1695 := Nat.ne_of_lt (Nat.lt_of_lt_of_le lf9_1691.lt fz_b1695)
  have ne1713 : b1636 ≠ b1695 := Nat.ne_of_lt (Nat.lt_of_lt_of_le lf10_1691.lt fz_b1695)
  have ne1714 : b1663 ≠ b1695 := Nat.ne_of_lt (Nat.lt_of_lt_of_le lf14_1691.lt fz_b1695)
  have ne1715 : b525 ≠ b1695 := Nat.ne_of_lt (Nat.lt_of_lt_of_le lf1_1691.lt fz_b1695)
  have ne1716 : b534 ≠ b1695 := Nat.ne_of_lt (Nat.lt_of_lt_of_le lf5_1691.lt fz_b1695)
  have ge1717 : n0 ≤ b1695 := Nat.le_trans z1691 fz_b1695
  have sz1718 : h0.size ≤ b1695 := Nat.le_trans k1691.1 fz_b1695
  have e1693 : T1693.heap = T1693.heap := rfl
  have f1719 : Exa Z T1693.heap b525 cFI := f1696
  have f1720 : Fld Z T1693.heap b525 cFI "part" "Ljava/util/List;" (.ref b1694) := f1697
  have f1721 : Fld Z T1693.heap b525 cFI "overhead" "I" (.int ov) := f1698
  have f1722 : Fld Z T1693.heap b525 cFI "partBytes" "J" (.long ((ov.toInt64) + (yy.toInt64))) := f1699
  have f1723 : Exa Z T1693.heap b1694 cAL := f1700
  have f1724 : Fld Z T1693.heap b1694 cAB "modCount" "I" (.int ((0 : Int32) + (1 : Int32))) := f1701
  have f1725 : Fld Z T1693.heap b1694 cAL "elementData" cOA (.ref b1695) := f1702
  have f1726 : Fld Z T1693.heap b1694 cAL "size" "I" (.int (1 : Int32)) := f1703
  have f1727 : Ra Z T1693.heap b1695 cOB [(.ref v5), .null, .null, .null, .null, .null, .null, .null, .null, .null] := f1704
  clear X1691 e1691
  show Go p e below (T1693.setTop (mkF m 239 #[vi p0, vi p1, vi p2, vi p3, vi p4, vi ov, vi (3 : Int32), vi b1, vi b2, vi b3, vi xx, vi dd, vi yy, vr v1, vr v2, vr v3, vr v4, vr v5, vr b525, vi (1 : Int32), vr b534, vr el, .unset, .unset, .unset, .unset] [(.ref b1636)])) _
  refine Go.via (fun _ => XS.astore X1693.here hx rfl (hb hby at_239) rfl rfl (l' := #[vi p0, vi p1, vi p2, vi p3, vi p4, vi ov, vi (3 : Int32), vi b1, vi b2, vi b3, vi xx, vi dd, vi yy, vr v1, vr v2, vr v3, vr v4, vr v5, vr b525, vi (1 : Int32), vr b534, vr el, vr b1636, .unset, .unset, .unset]) rfl) ?_
  refine Go.via (fun _ => XS.aload X1693.here hx rfl (hb hby at_241) rfl rfl) ?_
  have o1728 : Old Z n0 T1693.heap := (lf0_1691.keep K1693q (allS lf25_1691 all0))
  have z1730 : n0 ≤ T1693.heap.size := (Nat.le_trans z1691 K1693q.1)
  obtain ⟨cq1729, kq1729, q1729a, q1729b, q1729c⟩ := isOf hZ e1693 f1719
  obtain ⟨r1729, _, ⟨T1729, L1729, k1729, n1729⟩, -, X1729, ⟨Lc1729, hQ1729, l1729, y1729, z1729⟩, st1729⟩ := X1693.virtualBack hx (y := (⟨cFI, "last", "()Ljava/util/List;"⟩ : MethodName)) (z := (⟨cFI, "last", "()Ljava/util/List;"⟩ : MethodName)) hown (mvT hZ (tw hw 116 rfl)) (mvT hZ (tw hw 117 rfl)) (notFace_of_selects (args := #[]) (mvT hZ (tw hw 119 rfl))) (mvT hZ (tw hw 119 rfl)) (mvT hZ (tw hw 118 rfl)) (by decide) (backOf (W := 0) (rmLa l Z a0 hw [] b525 b1694 ov ((ov.toInt64) + (yy.toInt64)) de T1693.heap n0 z1730 f1719 f1720 f1721 f1722 o1728 zD lf25_1691) hZ (tw hw 120 rfl) (tw hw 12 rfl) (by decide) (by decide)) q1729a q1729c (g := (mkF m 243 #[vi p0, vi p1, vi p2, vi p3, vi p4, vi ov, vi (3 : Int32), vi b1, vi b2, vi b3, vi xx, vi dd, vi yy, vr v1, vr v2, vr v3, vr v4, vr v5, vr b525, vi (1 : Int32), vr b534, vr el, vr b1636, .unset, .unset, .unset] [(.ref b525)])) rfl (by rw [hml]; rfl) (Steps.refl _) (argsL := []) (rest := []) (lenOf pd__28_29Ljava_2futil_2fList_3b rfl) rfl (by show 2 * 0 + _ ≤ _; exact Nat.le_of_eq rfl) (hb hby at_243) (fun _ _ => ⟨rfl, e1693, (by decide : 7 + 1 ≤ _), (by decide : 42 + 3 ≤ _)⟩)
  dsimp only [Pt.U, Pt.locs, Pt.cells, Pt.slots] at X1729 l1729 y1729 z1729 st1729 hQ1729
  rw [l1729, y1729, z1729] at X1729
  clear l1729 y1729 z1729
  obtain ⟨b1731, hr1729, N1729q, K1729q, fz_b1731, f1732, f1733, f1734, f1735, f1736, f1737, f1738, f1739⟩ := hQ1729
  rw [hr1729] at st1729
  clear hr1729
  have N1729 := Fr.app N1693 N1729q
  refine Go.via (fun _ kQ => st1729.trans kQ) ?_
  clear st1729
  have f1740 : Ra Z T1693.heap b1554 cOB [(.ref v1), (.ref v2), (.ref v3), .null, .null, .null, .null, .null, .null, .null] := (lf9_1691.keep K1693q (ninS (Ne.symm lf16_1691) nin0))
  have ne1741 : b1554 ≠ b1731 := Nat.ne_of_lt (Nat.lt_of_lt_of_le f1740.lt fz_b1731)
  have f1742 : Exa Z T1693.heap b1636 cAL := (lf10_1691.keep K1693q)
  have ne1743 : b1636 ≠ b1731 := Nat.ne_of_lt (Nat.lt_of_lt_of_le f1742.lt fz_b1731)
  have f1744 : Ra Z T1693.heap b1663 cOB [(.ref v4), .null, .null, .null, .null, .null, .null, .null, .null, .null] := (lf14_1691.keep K1693q (ninS (Ne.symm lf23_1691) nin0))
  have ne1745 : b1663 ≠ b1731 := Nat.ne_of_lt (Nat.lt_of_lt_of_le f1744.lt fz_b1731)
  have ne1746 : b1694 ≠ b1731 := Nat.ne_of_lt (Nat.lt_of_lt_of_le f1723.lt fz_b1731)
  have ne1747 : b1695 ≠ b1731 := Nat.ne_of_lt (Nat.lt_of_lt_of_le f1727.lt fz_b1731)
  have ne1748 : b525 ≠ b1731 := Nat.ne_of_lt (Nat.lt_of_lt_of_le f1719.lt fz_b1731)
  have f1749 : Exa Z T1693.heap b534 cAL := (lf5_1691.keep K1693q)
  have ne1750 : b534 ≠ b1731 := Nat.ne_of_lt (Nat.lt_of_lt_of_le f1749.lt fz_b1731)
  have ge1751 : n0 ≤ b1731 := Nat.le_trans z1730 fz_b1731
  have k1753 : Keep h0 T1693.heap [] := (k1691.trans K1693q (allS (Or.inr lf30_1691) all0))
  have sz1752 : h0.size ≤ b1731 := Nat.le_trans k1753.1 fz_b1731
  have e1729 : T1729.heap = T1729.heap := rfl
  have f1754 : Exa Z T1729.heap b525 cFI := f1732
  have f1755 : Fld Z T1729.heap b525 cFI "part" "Ljava/util/List;" (.ref b1731) := f1733
  have f1756 : Fld Z T1729.heap b525 cFI "overhead" "I" (.int ov) := f1734
  have f1757 : Fld Z T1729.heap b525 cFI "partBytes" "J" (.long (ov.toInt64)) := f1735
  have f1758 : Exa Z T1729.heap b1731 cAL := f1736
  have f1759 : Fld Z T1729.heap b1731 cAB "modCount" "I" (.int (0 : Int32)) := f1737
  have f1760 : Fld Z T1729.heap b1731 cAL "elementData" cOA (.ref de) := f1738
  have f1761 : Fld Z T1729.heap b1731 cAL "size" "I" (.int (0 : Int32)) := f1739
  clear X1693 e1693
  show Go p e below (T1729.setTop (mkF m 246 #[vi p0, vi p1, vi p2, vi p3, vi p4, vi ov, vi (3 : Int32), vi b1, vi b2, vi b3, vi xx, vi dd, vi yy, vr v1, vr v2, vr v3, vr v4, vr v5, vr b525, vi (1 : Int32), vr b534, vr el, vr b1636, .unset, .unset, .unset] [(.ref b1694)])) _
  refine Go.via (fun _ => XS.astore X1729.here hx rfl (hb hby at_246) rfl rfl (l' := #[vi p0, vi p1, vi p2, vi p3, vi p4, vi ov, vi (3 : Int32), vi b1, vi b2, vi b3, vi xx, vi dd, vi yy, vr v1, vr v2, vr v3, vr v4, vr v5, vr b525, vi (1 : Int32), vr b534, vr el, vr b1636, vr b1694, .unset, .unset]) rfl) ?_
  refine Go.via (fun _ => XS.aload X1729.here hx rfl (hb hby at_248) rfl rfl) ?_
  have o1762 : Old Z n0 T1729.heap := (o1728.keep K1729q (allS lf25_1691 all0))
  have z1764 : n0 ≤ T1729.heap.size := (Nat.le_trans z1730 K1729q.1)
  obtain ⟨cq1763, kq1763, q1763a, q1763b, q1763c⟩ := isOf hZ e1729 f1754
  obtain ⟨r1763, _, ⟨T1763, L1763, k1763, n1763⟩, -, X1763, ⟨Lc1763, hQ1763, l1763, y1763, z1763⟩, st1763⟩ := X1729.virtualBack hx (y := (⟨cFI, "last", "()Ljava/util/List;"⟩ : MethodName)) (z := (⟨cFI, "last", "()Ljava/util/List;"⟩ : MethodName)) hown (mvT hZ (tw hw 116 rfl)) (mvT hZ (tw hw 117 rfl)) (notFace_of_selects (args := #[]) (mvT hZ (tw hw 119 rfl))) (mvT hZ (tw hw 119 rfl)) (mvT hZ (tw hw 118 rfl)) (by decide) (backOf (W := 0) (rmLa l Z a0 hw [] b525 b1731 ov (ov.toInt64) de T1729.heap n0 z1764 f1754 f1755 f1756 f1757 o1762 zD lf25_1691) hZ (tw hw 120 rfl) (tw hw 12 rfl) (by decide) (by decide)) q1763a q1763c (g := (mkF m 250 #[vi p0, vi p1, vi p2, vi p3, vi p4, vi ov, vi (3 : Int32), vi b1, vi b2, vi b3, vi xx, vi dd, vi yy, vr v1, vr v2, vr v3, vr v4, vr v5, vr b525, vi (1 : Int32), vr b534, vr el, vr b1636, vr b1694, .unset, .unset] [(.ref b525)])) rfl (by rw [hml]; rfl) (Steps.refl _) (argsL := []) (rest := []) (lenOf pd__28_29Ljava_2futil_2fList_3b rfl) rfl (by show 2 * 0 + _ ≤ _; exact Nat.le_of_eq rfl) (hb hby at_250) (fun _ _ => ⟨rfl, e1729, (by decide : 8 + 1 ≤ _), (by decide : 45 + 3 ≤ _)⟩)
  dsimp only [Pt.U, Pt.locs, Pt.cells, Pt.slots] at X1763 l1763 y1763 z1763 st1763 hQ1763
  rw [l1763, y1763, z1763] at X1763
  clear l1763 y1763 z1763
  obtain ⟨b1765, hr1763, N1763q, K1763q, fz_b1765, f1766, f1767, f1768, f1769, f1770, f1771, f1772, f1773⟩ := hQ1763
  rw [hr1763] at st1763
  clear hr1763
  have N1763 := Fr.app N1729 N1763q
  refine Go.via (fun _ kQ => st1763.trans kQ) ?_
  clear st1763
  have f1774 : Ra Z T1729.heap b1554 cOB [(.ref v1), (.ref v2), (.ref v3), .null, .null, .null, .null, .null, .null, .null] := (f1740.keep K1729q (ninS (Ne.symm lf16_1691) nin0))
  have ne1775 : b1554 ≠ b1765 := Nat.ne_of_lt (Nat.lt_of_lt_of_le f1774.lt fz_b1765)
  have f1776 : Exa Z T1729.heap b1636 cAL := (f1742.keep K1729q)
  have ne1777 : b1636 ≠ b1765 := Nat.ne_of_lt (Nat.lt_of_lt_of_le f1776.lt fz_b1765)
  have f1778 : Ra Z T1729.heap b1663 cOB [(.ref v4), .null, .null, .null, .null, .null, .null, .null, .null, .null] := (f1744.keep K1729q (ninS (Ne.symm lf23_1691) nin0))
  have ne1779 : b1663 ≠ b1765 := Nat.ne_of_lt (Nat.lt_of_lt_of_le f1778.lt fz_b1765)
  have f1780 : Exa Z T1729.heap b1694 cAL := (f1723.keep K1729q)
  have ne1781 : b1694 ≠ b1765 := Nat.ne_of_lt (Nat.lt_of_lt_of_le f1780.lt fz_b1765)
  have f1782 : Ra Z T1729.heap b1695 cOB [(.ref v5), .null, .null, .null, .null, .null, .null, .null, .null, .null] := (f1727.keep K1729q (ninS (Ne.symm ne1715) nin0))
  have ne1783 : b1695 ≠ b1765 := Nat.ne_of_lt (Nat.lt_of_lt_of_le f1782.lt fz_b1765)
  have ne1784 : b1731 ≠ b1765 := Nat.ne_of_lt (Nat.lt_of_lt_of_le f1758.lt fz_b1765)
  have ne1785 : b525 ≠ b1765 := Nat.ne_of_lt (Nat.lt_of_lt_of_le f1754.lt fz_b1765)
  have f1786 : Exa Z T1729.heap b534 cAL := (f1749.keep K1729q)
  have ne1787 : b534 ≠ b1765 := Nat.ne_of_lt (Nat.lt_of_lt_of_le f1786.lt fz_b1765)
  have ge1788 : n0 ≤ b1765 := Nat.le_trans z1764 fz_b1765
  have k1790 : Keep h0 T1729.heap [] := (k1753.trans K1729q (allS (Or.inr lf30_1691) all0))
  have sz1789 : h0.size ≤ b1765 := Nat.le_trans k1790.1 fz_b1765
  have e1763 : T1763.heap = T1763.heap := rfl
  have f1791 : Exa Z T1763.heap b525 cFI := f1766
  have f1792 : Fld Z T1763.heap b525 cFI "part" "Ljava/util/List;" (.ref b1765) := f1767
  have f1793 : Fld Z T1763.heap b525 cFI "overhead" "I" (.int ov) := f1768
  have f1794 : Fld Z T1763.heap b525 cFI "partBytes" "J" (.long (ov.toInt64)) := f1769
  have f1795 : Exa Z T1763.heap b1765 cAL := f1770
  have f1796 : Fld Z T1763.heap b1765 cAB "modCount" "I" (.int (0 : Int32)) := f1771
  have f1797 : Fld Z T1763.heap b1765 cAL "elementData" cOA (.ref de) := f1772
  have f1798 : Fld Z T1763.heap b1765 cAL "size" "I" (.int (0 : Int32)) := f1773
  clear X1729 e1729
  show Go p e below (T1763.setTop (mkF m 253 #[vi p0, vi p1, vi p2, vi p3, vi p4, vi ov, vi (3 : Int32), vi b1, vi b2, vi b3, vi xx, vi dd, vi yy, vr v1, vr v2, vr v3, vr v4, vr v5, vr b525, vi (1 : Int32), vr b534, vr el, vr b1636, vr b1694, .unset, .unset] [(.ref b1731)])) _
  refine Go.via (fun _ => XS.astore X1763.here hx rfl (hb hby at_253) rfl rfl (l' := #[vi p0, vi p1, vi p2, vi p3, vi p4, vi ov, vi (3 : Int32), vi b1, vi b2, vi b3, vi xx, vi dd, vi yy, vr v1, vr v2, vr v3, vr v4, vr v5, vr b525, vi (1 : Int32), vr b534, vr el, vr b1636, vr b1694, vr b1731, .unset]) rfl) ?_
  refine Go.via (fun _ => XS.iload X1763.here hx rfl (hb hby at_255) rfl) ?_
  refine Go.via (fun _ => XS.ifNo X1763.here hx rfl (hb hby at_257) rfl ((if0 _ _).trans (feq ((by decide) : ¬ ((1 : Int32) = (0 : Int32)))).1)) ?_
  refine Go.via (fun _ => XS.aload X1763.here hx rfl (hb hby at_260) rfl rfl) ?_
  have f1799 : Fld Z T1763.heap b534 cAL "size" "I" (.int (3 : Int32)) := (((lf8_1691.keep K1693q (ninS (Ne.symm lf15_1691) nin0)).keep K1729q (ninS (Ne.symm lf15_1691) nin0)).keep K1763q (ninS (Ne.symm lf15_1691) nin0))
  have z1801 : n0 ≤ T1763.heap.size := (Nat.le_trans z1764 K1763q.1)
  have f1802 : Exa Z T1763.heap b534 cAL := (f1786.keep K1763q)
  obtain ⟨cq1800, kq1800, q1800a, q1800b, q1800c⟩ := isOf hZ e1763 f1802
  obtain ⟨r1800, _, ⟨T1800, L1800, k1800, n1800⟩, -, X1800, ⟨Lc1800, hQ1800, l1800, y1800, z1800⟩, st1800⟩ := X1763.interfaceBack hx (xi := (⟨cLI, "size", "()I"⟩ : MethodName)) (y := (⟨cAL, "size", "()I"⟩ : MethodName)) hown (mvT hZ (tw hw 103 rfl)) (mvT hZ (tw hw 104 rfl)) (mvT hZ (tw hw 105 rfl)) (mvT hZ (tw hw 121 rfl)) (mvT hZ (tw hw 122 rfl)) (mvT hZ (tw hw 123 rfl)) (mvT hZ (tw hw 124 rfl)) (mvT hZ (tw hw 67 rfl)) (by decide) (backOf (W := 0) (rmSz l Z a0 hw [] b534 (3 : Int32) T1763.heap n0 z1801 f1799) hZ (tw hw 125 rfl) (tw hw 21 rfl) (by decide) (by decide)) q1800a q1800b q1800c (g := (mkF m 262 #[vi p0, vi p1, vi p2, vi p3, vi p4, vi ov, vi (3 : Int32), vi b1, vi b2, vi b3, vi xx, vi dd, vi yy, vr v1, vr v2, vr v3, vr v4, vr v5, vr b525, vi (1 : Int32), vr b534, vr el, vr b1636, vr b1694, vr b1731, .unset] [(.ref b534)])) rfl (by rw [hml]; rfl) (Steps.refl _) (argsL := []) (rest := []) (lenOf pd__28_29I rfl) rfl (by show 2 * 0 + _ ≤ _; exact Nat.le_of_eq rfl) (hb hby at_262) (fun _ _ => ⟨rfl, e1763, (by decide : 9 + 0 ≤ _), (by decide : 48 + 0 ≤ _)⟩)
  dsimp only [Pt.U, Pt.locs, Pt.cells, Pt.slots] at X1800 l1800 y1800 z1800 st1800 hQ1800
  rw [l1800, y1800, z1800] at X1800
  clear l1800 y1800 z1800
  obtain ⟨hr1800, N1800q, eh1800⟩ := hQ1800
  rw [hr1800] at st1800
  clear hr1800
  have N1800 := Fr.app N1763 N1800q
  refine Go.via (fun _ kQ => st1800.trans kQ) ?_
  clear st1800
  have e1800 : T1800.heap = T1763.heap := eh1800
  clear X1763 e1763
  show Go p e below (T1800.setTop (mkF m 267 #[vi p0, vi p1, vi p2, vi p3, vi p4, vi ov, vi (3 : Int32), vi b1, vi b2, vi b3, vi xx, vi dd, vi yy, vr v1, vr v2, vr v3, vr v4, vr v5, vr b525, vi (1 : Int32), vr b534, vr el, vr b1636, vr b1694, vr b1731, .unset] [(.int (3 : Int32))])) _
  refine Go.via (fun _ => XS.iload X1800.here hx rfl (hb hby at_267) rfl) ?_
  refine Go.via (fun _ => XS.icmpNo X1800.here hx rfl (hb hby at_269) rfl (teq ((by decide) : (3 : Int32) = (3 : Int32))).2) ?_
  refine Go.via (fun _ => XS.iconst X1800.here hx rfl (hb hby at_272)) ?_
  refine Go.via (fun _ => XS.goto X1800.here hx rfl (pc0 := 273) (pc' := 277) rfl (hb hby at_273) (by decide) (by decide)) ?_
  refine Go.via (fun _ => XS.istore X1800.here hx rfl (hb hby at_277) rfl (l' := #[vi p0, vi p1, vi p2, vi p3, vi p4, vi ov, vi (3 : Int32), vi b1, vi b2, vi b3, vi xx, vi dd, vi yy, vr v1, vr v2, vr v3, vr v4, vr v5, vr b525, vi (1 : Int32), vr b534, vr el, vr b1636, vr b1694, vr b1731, .unset]) rfl) ?_
  refine Go.via (fun _ => XS.iload X1800.here hx rfl (hb hby at_279) rfl) ?_
  refine Go.via (fun _ => XS.ifNo X1800.here hx rfl (hb hby at_281) rfl ((if0 _ _).trans (feq ((by decide) : ¬ ((1 : Int32) = (0 : Int32)))).1)) ?_
  show Go p e below (T1800.setTop (mkF m 284 #[vi p0, vi p1, vi p2, vi p3, vi p4, vi ov, vi (3 : Int32), vi b1, vi b2, vi b3, vi xx, vi dd, vi yy, vr v1, vr v2, vr v3, vr v4, vr v5, vr b525, vi (1 : Int32), vr b534, vr el, vr b1636, vr b1694, vr b1731, .unset] [])) _
  refine Go.via (fun _ => XS.iload X1800.here hx rfl (hb hby at_284) rfl) ?_
  refine Go.via (fun _ => XS.iconst X1800.here hx rfl (hb hby at_286)) ?_
  refine Go.via (fun _ => XS.icmpNo X1800.here hx rfl (hb hby at_287) rfl (flt ((by decide) : ¬ ((3 : Int32) < (1 : Int32)))).1) ?_
  refine Go.via (fun _ => XS.aload X1800.here hx rfl (hb hby at_290) rfl rfl) ?_
  refine Go.via (fun _ => XS.iconst X1800.here hx rfl (hb hby at_292)) ?_
  have f1803 : Fld Z T1763.heap b534 cAL "elementData" cOA (.ref b1554) := (((lf7_1691.keep K1693q (ninS (Ne.symm lf15_1691) nin0)).keep K1729q (ninS (Ne.symm lf15_1691) nin0)).keep K1763q (ninS (Ne.symm lf15_1691) nin0))
  have f1804 : Ra Z T1763.heap b1554 cOB [(.ref v1), (.ref v2), (.ref v3), .null, .null, .null, .null, .null, .null, .null] := (f1774.keep K1763q (ninS (Ne.symm lf16_1691) nin0))
  obtain ⟨cq1805, kq1805, q1805a, q1805b, q1805c⟩ := isOf hZ e1800 f1802
  obtain ⟨r1805, _, ⟨T1805, L1805, k1805, n1805⟩, -, X1805, ⟨Lc1805, hQ1805, l1805, y1805, z1805⟩, st1805⟩ := X1800.interfaceBack hx (xi := (⟨cLI, "get", "(I)Ljava/lang/Object;"⟩ : MethodName)) (y := (⟨cAL, "get", "(I)Ljava/lang/Object;"⟩ : MethodName)) hown (mvT hZ (tw hw 126 rfl)) (mvT hZ (tw hw 127 rfl)) (mvT hZ (tw hw 128 rfl)) (mvT hZ (tw hw 129 rfl)) (mvT hZ (tw hw 130 rfl)) (mvT hZ (tw hw 131 rfl)) (mvT hZ (tw hw 132 rfl)) (mvT hZ (tw hw 67 rfl)) (by decide) (backOf (W := 0) (rmGt l Z a0 hw [] b534 (0 : Int32) b1554 [(.ref v1), (.ref v2), (.ref v3), .null, .null, .null, .null, .null, .null, .null] v1 (3 : Int32) T1763.heap n0 z1801 f1803 f1799 f1804 f1802 (by first | decide | (simp only [List.length_cons, List.length_nil]; decide) | rfl) (by first | decide | (simp only [List.length_cons, List.length_nil]; decide) | rfl) rfl) hZ (tw hw 133 rfl) (tw hw 21 rfl) (by decide) (by decide)) q1805a q1805b q1805c (g := (mkF m 293 #[vi p0, vi p1, vi p2, vi p3, vi p4, vi ov, vi (3 : Int32), vi b1, vi b2, vi b3, vi xx, vi dd, vi yy, vr v1, vr v2, vr v3, vr v4, vr v5, vr b525, vi (1 : Int32), vr b534, vr el, vr b1636, vr b1694, vr b1731, .unset] [(.int (0 : Int32)), (.ref b534)])) rfl (by rw [hml]; rfl) (Steps.refl _) (argsL := [(.int (0 : Int32))]) (rest := []) (lenOf pd__28I_29Ljava_2flang_2fObject_3b rfl) rfl (by show 2 * 0 + _ ≤ _; exact Nat.le_of_eq rfl) (hb hby at_293) (fun _ _ => ⟨rfl, e1800, (by decide : 9 + 0 ≤ _), (by decide : 48 + 0 ≤ _)⟩)
  dsimp only [Pt.U, Pt.locs, Pt.cells, Pt.slots] at X1805 l1805 y1805 z1805 st1805 hQ1805
  rw [l1805, y1805, z1805] at X1805
  clear l1805 y1805 z1805
  obtain ⟨hr1805, N1805q, eh1805⟩ := hQ1805
  rw [hr1805] at st1805
  clear hr1805
  have N1805 := Fr.app N1800 N1805q
  refine Go.via (fun _ kQ => st1805.trans kQ) ?_
  clear st1805
  have e1805 : T1805.heap = T1763.heap := eh1805
  clear X1800 e1800
  show Go p e below (T1805.setTop (mkF m 298 #[vi p0, vi p1, vi p2, vi p3, vi p4, vi ov, vi (3 : Int32), vi b1, vi b2, vi b3, vi xx, vi dd, vi yy, vr v1, vr v2, vr v3, vr v4, vr v5, vr b525, vi (1 : Int32), vr b534, vr el, vr b1636, vr b1694, vr b1731, .unset] [(.ref v1)])) _
  have o1806 : Old Z n0 T1763.heap := (o1762.keep K1763q (allS lf25_1691 all0))
  have f1807 : Exa Z T1763.heap v1 cIN := zE1.ext o1806.2
  obtain ⟨T1808, X1808, e1808, st1808⟩ := castY X1805 hx hZ hown (tw hw 147 rfl) e1805 (Ins.self f1807) (g := (mkF m 298 #[vi p0, vi p1, vi p2, vi p3, vi p4, vi ov, vi (3 : Int32), vi b1, vi b2, vi b3, vi xx, vi dd, vi yy, vr v1, vr v2, vr v3, vr v4, vr v5, vr b525, vi (1 : Int32), vr b534, vr el, vr b1636, vr b1694, vr b1731, .unset] [(.ref v1)])) rfl rfl (hb hby at_298)
  refine Go.via (st1808) ?_
  clear st1808
  clear X1805 e1805
  show Go p e below (T1808.setTop (mkF m 301 #[vi p0, vi p1, vi p2, vi p3, vi p4, vi ov, vi (3 : Int32), vi b1, vi b2, vi b3, vi xx, vi dd, vi yy, vr v1, vr v2, vr v3, vr v4, vr v5, vr b525, vi (1 : Int32), vr b534, vr el, vr b1636, vr b1694, vr b1731, .unset] [(.ref v1)])) _
  have f1809 : Fld Z T1763.heap v1 cIN "value" "I" (.int (1 : Int32)) := zV1.ext o1806.2
  have f1811 : Exa Z T1763.heap v1 cIN := zE1.ext o1806.2
  obtain ⟨cq1810, kq1810, q1810a, q1810b, q1810c⟩ := isOf hZ e1808 f1811
  obtain ⟨r1810, _, ⟨T1810, L1810, k1810, n1810⟩, -, X1810, ⟨Lc1810, hQ1810, l1810, y1810, z1810⟩, st1810⟩ := X1808.virtualBack hx (y := (⟨cIN, "intValue", "()I"⟩ : MethodName)) (z := (⟨cIN, "intValue", "()I"⟩ : MethodName)) hown (mvT hZ (tw hw 149 rfl)) (mvT hZ (tw hw 150 rfl)) (notFace_of_selects (args := #[]) (mvT hZ (tw hw 152 rfl))) (mvT hZ (tw hw 152 rfl)) (mvT hZ (tw hw 151 rfl)) (by decide) (backOf (W := 0) (rmIv l Z a0 hw [] v1 (1 : Int32) T1763.heap n0 z1801 f1809) hZ (tw hw 153 rfl) (tw hw 5 rfl) (by decide) (by decide)) q1810a q1810c (g := (mkF m 301 #[vi p0, vi p1, vi p2, vi p3, vi p4, vi ov, vi (3 : Int32), vi b1, vi b2, vi b3, vi xx, vi dd, vi yy, vr v1, vr v2, vr v3, vr v4, vr v5, vr b525, vi (1 : Int32), vr b534, vr el, vr b1636, vr b1694, vr b1731, .unset] [(.ref v1)])) rfl (by rw [hml]; rfl) (Steps.refl _) (argsL := []) (rest := []) (lenOf pd__28_29I rfl) rfl (by show 2 * 0 + _ ≤ _; exact Nat.le_of_eq rfl) (hb hby at_301) (fun _ _ => ⟨rfl, e1808, (by decide : 9 + 0 ≤ _), (by decide : 48 + 0 ≤ _)⟩)
  dsimp only [Pt.U, Pt.locs, Pt.cells, Pt.slots] at X1810 l1810 y1810 z1810 st1810 hQ1810
  rw [l1810, y1810, z1810] at X1810
  clear l1810 y1810 z1810
  obtain ⟨hr1810, N1810q, eh1810⟩ := hQ1810
  rw [hr1810] at st1810
  clear hr1810
  have N1810 := Fr.app N1805 N1810q
  refine Go.via (fun _ kQ => st1810.trans kQ) ?_
  clear st1810
  have e1810 : T1810.heap = T1763.heap := eh1810
  clear X1808 e1808
  show Go p e below (T1810.setTop (mkF m 304 #[vi p0, vi p1, vi p2, vi p3, vi p4, vi ov, vi (3 : Int32), vi b1, vi b2, vi b3, vi xx, vi dd, vi yy, vr v1, vr v2, vr v3, vr v4, vr v5, vr b525, vi (1 : Int32), vr b534, vr el, vr b1636, vr b1694, vr b1731, .unset] [(.int (1 : Int32))])) _
  refine Go.via (fun _ => XS.iconst X1810.here hx rfl (hb hby at_304)) ?_
  refine Go.via (fun _ => XS.icmpNo X1810.here hx rfl (hb hby at_305) rfl (teq ((by decide) : (1 : Int32) = (1 : Int32))).2) ?_
  refine Go.via (fun _ => XS.iconst X1810.here hx rfl (hb hby at_308)) ?_
  refine Go.via (fun _ => XS.goto X1810.here hx rfl (pc0 := 309) (pc' := 313) rfl (hb hby at_309) (by decide) (by decide)) ?_
  refine Go.via (fun _ => XS.istore X1810.here hx rfl (hb hby at_313) rfl (l' := #[vi p0, vi p1, vi p2, vi p3, vi p4, vi ov, vi (3 : Int32), vi b1, vi b2, vi b3, vi xx, vi dd, vi yy, vr v1, vr v2, vr v3, vr v4, vr v5, vr b525, vi (1 : Int32), vr b534, vr el, vr b1636, vr b1694, vr b1731, .unset]) rfl) ?_
  refine Go.via (fun _ => XS.iload X1810.here hx rfl (hb hby at_315) rfl) ?_
  refine Go.via (fun _ => XS.ifNo X1810.here hx rfl (hb hby at_317) rfl ((if0 _ _).trans (feq ((by decide) : ¬ ((1 : Int32) = (0 : Int32)))).1)) ?_
  show Go p e below (T1810.setTop (mkF m 320 #[vi p0, vi p1, vi p2, vi p3, vi p4, vi ov, vi (3 : Int32), vi b1, vi b2, vi b3, vi xx, vi dd, vi yy, vr v1, vr v2, vr v3, vr v4, vr v5, vr b525, vi (1 : Int32), vr b534, vr el, vr b1636, vr b1694, vr b1731, .unset] [])) _
  refine Go.via (fun _ => XS.iload X1810.here hx rfl (hb hby at_320) rfl) ?_
  refine Go.via (fun _ => XS.iconst X1810.here hx rfl (hb hby at_322)) ?_
  refine Go.via (fun _ => XS.icmpNo X1810.here hx rfl (hb hby at_323) rfl (flt ((by decide) : ¬ ((3 : Int32) < (2 : Int32)))).1) ?_
  refine Go.via (fun _ => XS.aload X1810.here hx rfl (hb hby at_326) rfl rfl) ?_
  refine Go.via (fun _ => XS.iconst X1810.here hx rfl (hb hby at_328)) ?_
  obtain ⟨cq1812, kq1812, q1812a, q1812b, q1812c⟩ := isOf hZ e1810 f1802
  obtain ⟨r1812, _, ⟨T1812, L1812, k1812, n1812⟩, -, X1812, ⟨Lc1812, hQ1812, l1812, y1812, z1812⟩, st1812⟩ := X1810.interfaceBack hx (xi := (⟨cLI, "get", "(I)Ljava/lang/Object;"⟩ : MethodName)) (y := (⟨cAL, "get", "(I)Ljava/lang/Object;"⟩ : MethodName)) hown (mvT hZ (tw hw 126 rfl)) (mvT hZ (tw hw 127 rfl)) (mvT hZ (tw hw 128 rfl)) (mvT hZ (tw hw 129 rfl)) (mvT hZ (tw hw 130 rfl)) (mvT hZ (tw hw 131 rfl)) (mvT hZ (tw hw 132 rfl)) (mvT hZ (tw hw 67 rfl)) (by decide) (backOf (W := 0) (rmGt l Z a0 hw [] b534 (1 : Int32) b1554 [(.ref v1), (.ref v2), (.ref v3), .null, .null, .null, .null, .null, .null, .null] v2 (3 : Int32) T1763.heap n0 z1801 f1803 f1799 f1804 f1802 (by first | decide | (simp only [List.length_cons, List.length_nil]; decide) | rfl) (by first | decide | (simp only [List.length_cons, List.length_nil]; decide) | rfl) rfl) hZ (tw hw 133 rfl) (tw hw 21 rfl) (by decide) (by decide)) q1812a q1812b q1812c (g := (mkF m 329 #[vi p0, vi p1, vi p2, vi p3, vi p4, vi ov, vi (3 : Int32), vi b1, vi b2, vi b3, vi xx, vi dd, vi yy, vr v1, vr v2, vr v3, vr v4, vr v5, vr b525, vi (1 : Int32), vr b534, vr el, vr b1636, vr b1694, vr b1731, .unset] [(.int (1 : Int32)), (.ref b534)])) rfl (by rw [hml]; rfl) (Steps.refl _) (argsL := [(.int (1 : Int32))]) (rest := []) (lenOf pd__28I_29Ljava_2flang_2fObject_3b rfl) rfl (by show 2 * 0 + _ ≤ _; exact Nat.le_of_eq rfl) (hb hby at_329) (fun _ _ => ⟨rfl, e1810, (by decide : 9 + 0 ≤ _), (by decide : 48 + 0 ≤ _)⟩)
  dsimp only [Pt.U, Pt.locs, Pt.cells, Pt.slots] at X1812 l1812 y1812 z1812 st1812 hQ1812
  rw [l1812, y1812, z1812] at X1812
  clear l1812 y1812 z1812
  obtain ⟨hr1812, N1812q, eh1812⟩ := hQ1812
  rw [hr1812] at st1812
  clear hr1812
  have N1812 := Fr.app N1810 N1812q
  refine Go.via (fun _ kQ => st1812.trans kQ) ?_
  clear st1812
  have e1812 : T1812.heap = T1763.heap := eh1812
  clear X1810 e1810
  show Go p e below (T1812.setTop (mkF m 334 #[vi p0, vi p1, vi p2, vi p3, vi p4, vi ov, vi (3 : Int32), vi b1, vi b2, vi b3, vi xx, vi dd, vi yy, vr v1, vr v2, vr v3, vr v4, vr v5, vr b525, vi (1 : Int32), vr b534, vr el, vr b1636, vr b1694, vr b1731, .unset] [(.ref v2)])) _
  have f1813 : Exa Z T1763.heap v2 cIN := zE2.ext o1806.2
  obtain ⟨T1814, X1814, e1814, st1814⟩ := castY X1812 hx hZ hown (tw hw 147 rfl) e1812 (Ins.self f1813) (g := (mkF m 334 #[vi p0, vi p1, vi p2, vi p3, vi p4, vi ov, vi (3 : Int32), vi b1, vi b2, vi b3, vi xx, vi dd, vi yy, vr v1, vr v2, vr v3, vr v4, vr v5, vr b525, vi (1 : Int32), vr b534, vr el, vr b1636, vr b1694, vr b1731, .unset] [(.ref v2)])) rfl rfl (hb hby at_334)
  refine Go.via (st1814) ?_
  clear st1814
  clear X1812 e1812
  show Go p e below (T1814.setTop (mkF m 337 #[vi p0, vi p1, vi p2, vi p3, vi p4, vi ov, vi (3 : Int32), vi b1, vi b2, vi b3, vi xx, vi dd, vi yy, vr v1, vr v2, vr v3, vr v4, vr v5, vr b525, vi (1 : Int32), vr b534, vr el, vr b1636, vr b1694, vr b1731, .unset] [(.ref v2)])) _
  have f1815 : Fld Z T1763.heap v2 cIN "value" "I" (.int (2 : Int32)) := zV2.ext o1806.2
  have f1817 : Exa Z T1763.heap v2 cIN := zE2.ext o1806.2
  obtain ⟨cq1816, kq1816, q1816a, q1816b, q1816c⟩ := isOf hZ e1814 f1817
  obtain ⟨r1816, _, ⟨T1816, L1816, k1816, n1816⟩, -, X1816, ⟨Lc1816, hQ1816, l1816, y1816, z1816⟩, st1816⟩ := X1814.virtualBack hx (y := (⟨cIN, "intValue", "()I"⟩ : MethodName)) (z := (⟨cIN, "intValue", "()I"⟩ : MethodName)) hown (mvT hZ (tw hw 149 rfl)) (mvT hZ (tw hw 150 rfl)) (notFace_of_selects (args := #[]) (mvT hZ (tw hw 152 rfl))) (mvT hZ (tw hw 152 rfl)) (mvT hZ (tw hw 151 rfl)) (by decide) (backOf (W := 0) (rmIv l Z a0 hw [] v2 (2 : Int32) T1763.heap n0 z1801 f1815) hZ (tw hw 153 rfl) (tw hw 5 rfl) (by decide) (by decide)) q1816a q1816c (g := (mkF m 337 #[vi p0, vi p1, vi p2, vi p3, vi p4, vi ov, vi (3 : Int32), vi b1, vi b2, vi b3, vi xx, vi dd, vi yy, vr v1, vr v2, vr v3, vr v4, vr v5, vr b525, vi (1 : Int32), vr b534, vr el, vr b1636, vr b1694, vr b1731, .unset] [(.ref v2)])) rfl (by rw [hml]; rfl) (Steps.refl _) (argsL := []) (rest := []) (lenOf pd__28_29I rfl) rfl (by show 2 * 0 + _ ≤ _; exact Nat.le_of_eq rfl) (hb hby at_337) (fun _ _ => ⟨rfl, e1814, (by decide : 9 + 0 ≤ _), (by decide : 48 + 0 ≤ _)⟩)
  dsimp only [Pt.U, Pt.locs, Pt.cells, Pt.slots] at X1816 l1816 y1816 z1816 st1816 hQ1816
  rw [l1816, y1816, z1816] at X1816
  clear l1816 y1816 z1816
  obtain ⟨hr1816, N1816q, eh1816⟩ := hQ1816
  rw [hr1816] at st1816
  clear hr1816
  have N1816 := Fr.app N1812 N1816q
  refine Go.via (fun _ kQ => st1816.trans kQ) ?_
  clear st1816
  have e1816 : T1816.heap = T1763.heap := eh1816
  clear X1814 e1814
  show Go p e below (T1816.setTop (mkF m 340 #[vi p0, vi p1, vi p2, vi p3, vi p4, vi ov, vi (3 : Int32), vi b1, vi b2, vi b3, vi xx, vi dd, vi yy, vr v1, vr v2, vr v3, vr v4, vr v5, vr b525, vi (1 : Int32), vr b534, vr el, vr b1636, vr b1694, vr b1731, .unset] [(.int (2 : Int32))])) _
  refine Go.via (fun _ => XS.iconst X1816.here hx rfl (hb hby at_340)) ?_
  refine Go.via (fun _ => XS.icmpNo X1816.here hx rfl (hb hby at_341) rfl (teq ((by decide) : (2 : Int32) = (2 : Int32))).2) ?_
  refine Go.via (fun _ => XS.iconst X1816.here hx rfl (hb hby at_344)) ?_
  refine Go.via (fun _ => XS.goto X1816.here hx rfl (pc0 := 345) (pc' := 349) rfl (hb hby at_345) (by decide) (by decide)) ?_
  refine Go.via (fun _ => XS.istore X1816.here hx rfl (hb hby at_349) rfl (l' := #[vi p0, vi p1, vi p2, vi p3, vi p4, vi ov, vi (3 : Int32), vi b1, vi b2, vi b3, vi xx, vi dd, vi yy, vr v1, vr v2, vr v3, vr v4, vr v5, vr b525, vi (1 : Int32), vr b534, vr el, vr b1636, vr b1694, vr b1731, .unset]) rfl) ?_
  refine Go.via (fun _ => XS.iload X1816.here hx rfl (hb hby at_351) rfl) ?_
  refine Go.via (fun _ => XS.ifNo X1816.here hx rfl (hb hby at_353) rfl ((if0 _ _).trans (feq ((by decide) : ¬ ((1 : Int32) = (0 : Int32)))).1)) ?_
  show Go p e below (T1816.setTop (mkF m 356 #[vi p0, vi p1, vi p2, vi p3, vi p4, vi ov, vi (3 : Int32), vi b1, vi b2, vi b3, vi xx, vi dd, vi yy, vr v1, vr v2, vr v3, vr v4, vr v5, vr b525, vi (1 : Int32), vr b534, vr el, vr b1636, vr b1694, vr b1731, .unset] [])) _
  refine Go.via (fun _ => XS.iload X1816.here hx rfl (hb hby at_356) rfl) ?_
  refine Go.via (fun _ => XS.iconst X1816.here hx rfl (hb hby at_358)) ?_
  refine Go.via (fun _ => XS.icmpNo X1816.here hx rfl (hb hby at_359) rfl (flt ((by decide) : ¬ ((3 : Int32) < (3 : Int32)))).1) ?_
  refine Go.via (fun _ => XS.aload X1816.here hx rfl (hb hby at_362) rfl rfl) ?_
  refine Go.via (fun _ => XS.iconst X1816.here hx rfl (hb hby at_364)) ?_
  obtain ⟨cq1818, kq1818, q1818a, q1818b, q1818c⟩ := isOf hZ e1816 f1802
  obtain ⟨r1818, _, ⟨T1818, L1818, k1818, n1818⟩, -, X1818, ⟨Lc1818, hQ1818, l1818, y1818, z1818⟩, st1818⟩ := X1816.interfaceBack hx (xi := (⟨cLI, "get", "(I)Ljava/lang/Object;"⟩ : MethodName)) (y := (⟨cAL, "get", "(I)Ljava/lang/Object;"⟩ : MethodName)) hown (mvT hZ (tw hw 126 rfl)) (mvT hZ (tw hw 127 rfl)) (mvT hZ (tw hw 128 rfl)) (mvT hZ (tw hw 129 rfl)) (mvT hZ (tw hw 130 rfl)) (mvT hZ (tw hw 131 rfl)) (mvT hZ (tw hw 132 rfl)) (mvT hZ (tw hw 67 rfl)) (by decide) (backOf (W := 0) (rmGt l Z a0 hw [] b534 (2 : Int32) b1554 [(.ref v1), (.ref v2), (.ref v3), .null, .null, .null, .null, .null, .null, .null] v3 (3 : Int32) T1763.heap n0 z1801 f1803 f1799 f1804 f1802 (by first | decide | (simp only [List.length_cons, List.length_nil]; decide) | rfl) (by first | decide | (simp only [List.length_cons, List.length_nil]; decide) | rfl) rfl) hZ (tw hw 133 rfl) (tw hw 21 rfl) (by decide) (by decide)) q1818a q1818b q1818c (g := (mkF m 365 #[vi p0, vi p1, vi p2, vi p3, vi p4, vi ov, vi (3 : Int32), vi b1, vi b2, vi b3, vi xx, vi dd, vi yy, vr v1, vr v2, vr v3, vr v4, vr v5, vr b525, vi (1 : Int32), vr b534, vr el, vr b1636, vr b1694, vr b1731, .unset] [(.int (2 : Int32)), (.ref b534)])) rfl (by rw [hml]; rfl) (Steps.refl _) (argsL := [(.int (2 : Int32))]) (rest := []) (lenOf pd__28I_29Ljava_2flang_2fObject_3b rfl) rfl (by show 2 * 0 + _ ≤ _; exact Nat.le_of_eq rfl) (hb hby at_365) (fun _ _ => ⟨rfl, e1816, (by decide : 9 + 0 ≤ _), (by decide : 48 + 0 ≤ _)⟩)
  dsimp only [Pt.U, Pt.locs, Pt.cells, Pt.slots] at X1818 l1818 y1818 z1818 st1818 hQ1818
  rw [l1818, y1818, z1818] at X1818
  clear l1818 y1818 z1818
  obtain ⟨hr1818, N1818q, eh1818⟩ := hQ1818
  rw [hr1818] at st1818
  clear hr1818
  have N1818 := Fr.app N1816 N1818q
  refine Go.via (fun _ kQ => st1818.trans kQ) ?_
  clear st1818
  have e1818 : T1818.heap = T1763.heap := eh1818
  clear X1816 e1816
  show Go p e below (T1818.setTop (mkF m 370 #[vi p0, vi p1, vi p2, vi p3, vi p4, vi ov, vi (3 : Int32), vi b1, vi b2, vi b3, vi xx, vi dd, vi yy, vr v1, vr v2, vr v3, vr v4, vr v5, vr b525, vi (1 : Int32), vr b534, vr el, vr b1636, vr b1694, vr b1731, .unset] [(.ref v3)])) _
  have f1819 : Exa Z T1763.heap v3 cIN := zE3.ext o1806.2
  obtain ⟨T1820, X1820, e1820, st1820⟩ := castY X1818 hx hZ hown (tw hw 147 rfl) e1818 (Ins.self f1819) (g := (mkF m 370 #[vi p0, vi p1, vi p2, vi p3, vi p4, vi ov, vi (3 : Int32), vi b1, vi b2, vi b3, vi xx, vi dd, vi yy, vr v1, vr v2, vr v3, vr v4, vr v5, vr b525, vi (1 : Int32), vr b534, vr el, vr b1636, vr b1694, vr b1731, .unset] [(.ref v3)])) rfl rfl (hb hby at_370)
  refine Go.via (st1820) ?_
  clear st1820
  clear X1818 e1818
  show Go p e below (T1820.setTop (mkF m 373 #[vi p0, vi p1, vi p2, vi p3, vi p4, vi ov, vi (3 : Int32), vi b1, vi b2, vi b3, vi xx, vi dd, vi yy, vr v1, vr v2, vr v3, vr v4, vr v5, vr b525, vi (1 : Int32), vr b534, vr el, vr b1636, vr b1694, vr b1731, .unset] [(.ref v3)])) _
  have f1821 : Fld Z T1763.heap v3 cIN "value" "I" (.int (3 : Int32)) := zV3.ext o1806.2
  have f1823 : Exa Z T1763.heap v3 cIN := zE3.ext o1806.2
  obtain ⟨cq1822, kq1822, q1822a, q1822b, q1822c⟩ := isOf hZ e1820 f1823
  obtain ⟨r1822, _, ⟨T1822, L1822, k1822, n1822⟩, -, X1822, ⟨Lc1822, hQ1822, l1822, y1822, z1822⟩, st1822⟩ := X1820.virtualBack hx (y := (⟨cIN, "intValue", "()I"⟩ : MethodName)) (z := (⟨cIN, "intValue", "()I"⟩ : MethodName)) hown (mvT hZ (tw hw 149 rfl)) (mvT hZ (tw hw 150 rfl)) (notFace_of_selects (args := #[]) (mvT hZ (tw hw 152 rfl))) (mvT hZ (tw hw 152 rfl)) (mvT hZ (tw hw 151 rfl)) (by decide) (backOf (W := 0) (rmIv l Z a0 hw [] v3 (3 : Int32) T1763.heap n0 z1801 f1821) hZ (tw hw 153 rfl) (tw hw 5 rfl) (by decide) (by decide)) q1822a q1822c (g := (mkF m 373 #[vi p0, vi p1, vi p2, vi p3, vi p4, vi ov, vi (3 : Int32), vi b1, vi b2, vi b3, vi xx, vi dd, vi yy, vr v1, vr v2, vr v3, vr v4, vr v5, vr b525, vi (1 : Int32), vr b534, vr el, vr b1636, vr b1694, vr b1731, .unset] [(.ref v3)])) rfl (by rw [hml]; rfl) (Steps.refl _) (argsL := []) (rest := []) (lenOf pd__28_29I rfl) rfl (by show 2 * 0 + _ ≤ _; exact Nat.le_of_eq rfl) (hb hby at_373) (fun _ _ => ⟨rfl, e1820, (by decide : 9 + 0 ≤ _), (by decide : 48 + 0 ≤ _)⟩)
  dsimp only [Pt.U, Pt.locs, Pt.cells, Pt.slots] at X1822 l1822 y1822 z1822 st1822 hQ1822
  rw [l1822, y1822, z1822] at X1822
  clear l1822 y1822 z1822
  obtain ⟨hr1822, N1822q, eh1822⟩ := hQ1822
  rw [hr1822] at st1822
  clear hr1822
  have N1822 := Fr.app N1818 N1822q
  refine Go.via (fun _ kQ => st1822.trans kQ) ?_
  clear st1822
  have e1822 : T1822.heap = T1763.heap := eh1822
  clear X1820 e1820
  show Go p e below (T1822.setTop (mkF m 376 #[vi p0, vi p1, vi p2, vi p3, vi p4, vi ov, vi (3 : Int32), vi b1, vi b2, vi b3, vi xx, vi dd, vi yy, vr v1, vr v2, vr v3, vr v4, vr v5, vr b525, vi (1 : Int32), vr b534, vr el, vr b1636, vr b1694, vr b1731, .unset] [(.int (3 : Int32))])) _
  refine Go.via (fun _ => XS.iconst X1822.here hx rfl (hb hby at_376)) ?_
  refine Go.via (fun _ => XS.icmpNo X1822.here hx rfl (hb hby at_377) rfl (teq ((by decide) : (3 : Int32) = (3 : Int32))).2) ?_
  refine Go.via (fun _ => XS.iconst X1822.here hx rfl (hb hby at_380)) ?_
  refine Go.via (fun _ => XS.goto X1822.here hx rfl (pc0 := 381) (pc' := 385) rfl (hb hby at_381) (by decide) (by decide)) ?_
  refine Go.via (fun _ => XS.istore X1822.here hx rfl (hb hby at_385) rfl (l' := #[vi p0, vi p1, vi p2, vi p3, vi p4, vi ov, vi (3 : Int32), vi b1, vi b2, vi b3, vi xx, vi dd, vi yy, vr v1, vr v2, vr v3, vr v4, vr v5, vr b525, vi (1 : Int32), vr b534, vr el, vr b1636, vr b1694, vr b1731, .unset]) rfl) ?_
  have X1822m := X1822.more (by decide : _ ≤ 13) (by decide : _ ≤ 61)
  have f1824 : Exa Z T1763.heap b1731 cAL := (f1758.keep K1763q)
  have f1825 : Fld Z T1763.heap b1731 cAL "size" "I" (.int (0 : Int32)) := (f1761.keep K1763q (ninS (Ne.symm ne1748) nin0))
  have f1826 : Exa Z T1763.heap b1636 cAL := (f1776.keep K1763q)
  have f1827 : Fld Z T1763.heap b1636 cAL "size" "I" (.int (1 : Int32)) := (((lf13_1691.keep K1693q (ninS (Ne.symm lf19_1691) nin0)).keep K1729q (ninS (Ne.symm lf19_1691) nin0)).keep K1763q (ninS (Ne.symm lf19_1691) nin0))
  have f1828 : Fld Z T1763.heap b1636 cAL "elementData" cOA (.ref b1663) := (((lf12_1691.keep K1693q (ninS (Ne.symm lf19_1691) nin0)).keep K1729q (ninS (Ne.symm lf19_1691) nin0)).keep K1763q (ninS (Ne.symm lf19_1691) nin0))
  have f1829 : Ra Z T1763.heap b1663 cOB [(.ref v4), .null, .null, .null, .null, .null, .null, .null, .null, .null] := (f1778.keep K1763q (ninS (Ne.symm lf23_1691) nin0))
  have f1830 : Exa Z T1763.heap b1694 cAL := (f1780.keep K1763q)
  have f1831 : Fld Z T1763.heap b1694 cAL "size" "I" (.int (1 : Int32)) := ((f1726.keep K1729q (ninS (Ne.symm ne1708) nin0)).keep K1763q (ninS (Ne.symm ne1708) nin0))
  have f1832 : Fld Z T1763.heap b1694 cAL "elementData" cOA (.ref b1695) := ((f1725.keep K1729q (ninS (Ne.symm ne1708) nin0)).keep K1763q (ninS (Ne.symm ne1708) nin0))
  have f1833 : Ra Z T1763.heap b1695 cOB [(.ref v5), .null, .null, .null, .null, .null, .null, .null, .null, .null] := (f1782.keep K1763q (ninS (Ne.symm ne1715) nin0))
  have k1834 : Keep h0 T1763.heap [] := (k1790.trans K1763q (allS (Or.inr lf30_1691) all0))
  exact rm_rm0_JS l Z a0 hw p0 p1 p2 p3 p4 de el ea ca cl v1 v2 v3 v4 v5 h0 n0 zD zN zL zH zC zLE zLF zLN zE1 zV1 zE2 zV2 zE3 zV3 zE4 zV4 zE5 zV5 hA hin1 hat1 hin2 hat2 hin3 hat3 hin4 hat4 hin5 hat5 hx hby hlk hml hown hZ hret T1822 _ T1763.heap ov b1 b2 b3 xx dd yy (3 : Int32) b525 b534 b1636 b1731 b1663 b1694 b1695 X1822m e1822 N1822 z1801 k1834 f1802 f1799 f1824 f1825 o1806 f1826 f1827 f1828 f1829 f1830 f1831 f1832 f1833 hsp
set_option maxRecDepth 65536 in
set_option maxHeartbeats 40000000 in
theorem rm_rm0_c3n (l : Launch) (Z : State) (a0 : Array Value) (hw : ∀ d ∈ tables_1, d.before a0 Z = true) (p0 : Int32) (p1 : Int32) (p2 : Int32) (p3 : Int32) (p4 : Int32) (de : Addr) (el : Addr) (ea : Addr) (ca : Addr) (cl : Cell) (v1 : Addr) (v2 : Addr) (v3 : Addr) (v4 : Addr) (v5 : Addr) (h0 : Heap) (n0 : Nat) (zD : Sta Z Z.heap cAL cDE cOA (.ref de)) (zN : Rn Z Z.heap de (0 : Int32)) (zL : Sta Z Z.heap cIM "EMPTY_LIST" "Ljava/util/ImmutableCollections$ListN;" (.ref el)) (zH : Sta Z Z.heap cIC "high" "I" (.int (127 : Int32))) (zC : Sta Z Z.heap cIC "cache" "[Ljava/lang/Integer;" (.ref ca)) (zLE : Exa Z Z.heap el cLN) (zLF : Fld Z Z.heap el cLN "elements" cOA (.ref ea)) (zLN : Rn Z Z.heap ea (0 : Int32)) (zE1 : Exa Z Z.heap v1 cIN) (zV1 : Fld Z Z.heap v1 cIN "value" "I" (.int (1 : Int32))) (zE2 : Exa Z Z.heap v2 cIN) (zV2 : Fld Z Z.heap v2 cIN "value" "I" (.int (2 : Int32))) (zE3 : Exa Z Z.heap v3 cIN) (zV3 : Fld Z Z.heap v3 cIN "value" "I" (.int (3 : Int32))) (zE4 : Exa Z Z.heap v4 cIN) (zV4 : Fld Z Z.heap v4 cIN "value" "I" (.int (4 : Int32))) (zE5 : Exa Z Z.heap v5 cIN) (zV5 : Fld Z Z.heap v5 cIN "value" "I" (.int (5 : Int32))) (hA : Arr Z Z.heap ca cl (.object cIN)) (hin1 : ¬ (((1 : Int32) + (128 : Int32)) < 0 ∨ cl.slots.size ≤ ((1 : Int32) + (128 : Int32)).toNatClampNeg)) (hat1 : cl.slots[((1 : Int32) + (128 : Int32)).toNatClampNeg]? = some (.ref v1)) (hin2 : ¬ (((2 : Int32) + (128 : Int32)) < 0 ∨ cl.slots.size ≤ ((2 : Int32) + (128 : Int32)).toNatClampNeg)) (hat2 : cl.slots[((2 : Int32) + (128 : Int32)).toNatClampNeg]? = some (.ref v2)) (hin3 : ¬ (((3 : Int32) + (128 : Int32)) < 0 ∨ cl.slots.size ≤ ((3 : Int32) + (128 : Int32)).toNatClampNeg)) (hat3 : cl.slots[((3 : Int32) + (128 : Int32)).toNatClampNeg]? = some (.ref v3)) (hin4 : ¬ (((4 : Int32) + (128 : Int32)) < 0 ∨ cl.slots.size ≤ ((4 : Int32) + (128 : Int32)).toNatClampNeg)) (hat4 : cl.slots[((4 : Int32) + (128 : Int32)).toNatClampNeg]? = some (.ref v4)) (hin5 : ¬ (((5 : Int32) + (128 : Int32)) < 0 ∨ cl.slots.size ≤ ((5 : Int32) + (128 : Int32)).toNatClampNeg)) (hat5 : cl.slots[((5 : Int32) + (128 : Int32)).toNatClampNeg]? = some (.ref v5)) {p : Program} {e : Env} {s : State} {m : MethodId} {below : List Frame} {meth : Method} {c : Code} (hx : p.tables.exec = Jvm.exec) (hby : c.code = code) (hlk : meth.locks = false) (hml : c.maxLocals = 26) (hown : s.vm.findClass cLAW = some m.cls) (hZ : Z.Warmed39 s.vm) (hret : meth.sig.returnType = ret) :
    ∀ (T1842 : State) (L1842 : List Loc) (h1842 : Heap) (ov : Int32) (b1 : Int32) (b2 : Int32) (b3 : Int32) (xx : Int32) (dd : Int32) (yy : Int32) (b1554 : Addr) (b1636 : Addr) (b1663 : Addr) (b525 : Addr) (b534 : Addr), Stand p l e room_1 s m #[(.int p0), (.int p1), (.int p2), (.int p3), (.int p4)] below meth c T1842 L1842 5 29 → T1842.heap = h1842 → Fr n0 L1842 → n0 ≤ h1842.size → Keep h0 h1842 [] → Old Z n0 h1842 → Exa Z h1842 b525 cFI → Fld Z h1842 b525 cFI "part" "Ljava/util/List;" (.ref b1636) → Fld Z h1842 b525 cFI "overhead" "I" (.int ov) → Fld Z h1842 b525 cFI "partBytes" "J" (.long ((ov.toInt64) + (xx.toInt64))) → Exa Z h1842 b534 cAL → Fld Z h1842 b534 cAL "elementData" cOA (.ref b1554) → Fld Z h1842 b534 cAL "size" "I" (.int (3 : Int32)) → Ra Z h1842 b1554 cOB [(.ref v1), (.ref v2), (.ref v3), .null, .null, .null, .null, .null, .null, .null] → Exa Z h1842 b1636 cAL → Fld Z h1842 b1636 cAB "modCount" "I" (.int ((0 : Int32) + (1 : Int32))) → Fld Z h1842 b1636 cAL "elementData" cOA (.ref b1663) → Fld Z h1842 b1636 cAL "size" "I" (.int (1 : Int32)) → Ra Z h1842 b1663 cOB [(.ref v4), .null, .null, .null, .null, .null, .null, .null, .null, .null] → b525 ≠ b534 → b525 ≠ b1554 → b1554 ≠ b1636 → b525 ≠ b1636 → b534 ≠ b1636 → b1554 ≠ b1663 → b1636 ≠ b1663 → b525 ≠ b1663 → b534 ≠ b1663 → n0 ≤ b525 → n0 ≤ b1636 → n0 ≤ b1663 → h0.size ≤ b525 → h0.size ≤ b1636 → h0.size ≤ b1663 → (p0 &&& (524287 : Int32)) = ov → (p3 &&& (524287 : Int32)) = xx → ((p4 &&& (3 : Int32)) - (1 : Int32)) = dd → (((((1048576 : Int32) - ov) - xx) - (1 : Int32)) + dd) = yy → ¬ (0 : Int32) < dd → Go p e below (T1842.setTop (mkF m 230 #[vi p0, vi p1, vi p2, vi p3, vi p4, vi ov, vi (3 : Int32), vi b1, vi b2, vi b3, vi xx, vi dd, vi yy, vr v1, vr v2, vr v3, vr v4, vr v5, vr b525, vi (1 : Int32), vr b534, vr el, .unset, .unset, .unset, .unset] [])) (Done s (Q_rm0 Z p0 p1 p2 p3 p4 de el ea ca cl v1 v2 v3 v4 v5 h0 n0) room_1.cells room_1.slots) := by
  intro T1842 L1842 h1842 ov b1 b2 b3 xx dd yy b1554 b1636 b1663 b525 b534 X1842 e1842 N1842 z1842 k1842 lf0_1842 lf1_1842 lf2_1842 lf3_1842 lf4_1842 lf5_1842 lf7_1842 lf8_1842 lf9_1842 lf10_1842 lf11_1842 lf12_1842 lf13_1842 lf14_1842 lf15_1842 lf16_1842 lf18_1842 lf19_1842 lf20_1842 lf21_1842 lf22_1842 lf23_1842 lf24_1842 lf25_1842 lf28_1842 lf29_1842 lf30_1842 lf33_1842 lf34_1842 hv_ov hv_xx hv_dd hv_yy hsp
  show Go p e below (T1842.setTop (mkF m 230 #[vi p0, vi p1, vi p2, vi p3, vi p4, vi ov, vi (3 : Int32), vi b1, vi b2, vi b3, vi xx, vi dd, vi yy, vr v1, vr v2, vr v3, vr v4, vr v5, vr b525, vi (1 : Int32), vr b534, vr el, .unset, .unset, .unset, .unset] [])) _
  refine Go.via (fun _ => XS.aload X1842.here hx rfl (hb hby at_230) rfl rfl) ?_
  refine Go.via (fun _ => XS.aload X1842.here hx rfl (hb hby at_232) rfl rfl) ?_
  refine Go.via (fun _ => XS.iload X1842.here hx rfl (hb hby at_234) rfl) ?_
  have f1843 : Exa Z h1842 v5 cIN := zE5.ext lf0_1842.2
  obtain ⟨cq1844, kq1844, q1844a, q1844b, q1844c⟩ := isOf hZ e1842 lf1_1842
  obtain ⟨r1844, _, ⟨T1844, L1844, k1844, n1844⟩, -, X1844, ⟨Lc1844, hQ1844, l1844, y1844, z1844⟩, st1844⟩ := X1842.virtualBack hx (y := (⟨cFI, "add", "(Ljava/lang/Object;I)Ljava/util/List;"⟩ : MethodName)) (z := (⟨cFI, "add", "(Ljava/lang/Object;I)Ljava/util/List;"⟩ : MethodName)) hown (mvT hZ (tw hw 49 rfl)) (mvT hZ (tw hw 50 rfl)) (notFace_of_selects (args := #[]) (mvT hZ (tw hw 52 rfl))) (mvT hZ (tw hw 52 rfl)) (mvT hZ (tw hw 51 rfl)) (by decide) (backOf (W := 0) (rmFa1 l Z a0 hw [] b525 v5 yy b1636 ov ((ov.toInt64) + (xx.toInt64)) b1663 ((0 : Int32) + (1 : Int32)) el v4 h1842 n0 z1842 lf1_1842 lf2_1842 lf3_1842 lf4_1842 lf10_1842 lf11_1842 lf12_1842 lf13_1842 lf14_1842 f1843 lf0_1842 zL lf25_1842 lf28_1842 lf29_1842 lf19_1842 lf23_1842 lf22_1842 (own_nsp hv_ov hv_xx hv_dd hv_yy hsp)) hZ (tw hw 53 rfl) (tw hw 12 rfl) (by decide) (by decide)) q1844a q1844c (g := (mkF m 236 #[vi p0, vi p1, vi p2, vi p3, vi p4, vi ov, vi (3 : Int32), vi b1, vi b2, vi b3, vi xx, vi dd, vi yy, vr v1, vr v2, vr v3, vr v4, vr v5, vr b525, vi (1 : Int32), vr b534, vr el, .unset, .unset, .unset, .unset] [(.int yy), (.ref v5), (.ref b525)])) rfl (by rw [hml]; rfl) (Steps.refl _) (argsL := [(.ref v5), (.int yy)]) (rest := []) (lenOf pd__28Ljava_2flang_2fObject_3bI_29Ljava_2futil_2fList_3b rfl) rfl (by show 2 * 0 + _ ≤ _; exact Nat.le_of_eq rfl) (hb hby at_236) (fun _ _ => ⟨rfl, e1842, (by decide : 5 + 0 ≤ _), (by decide : 29 + 0 ≤ _)⟩)
  dsimp only [Pt.U, Pt.locs, Pt.cells, Pt.slots] at X1844 l1844 y1844 z1844 st1844 hQ1844
  rw [l1844, y1844, z1844] at X1844
  clear l1844 y1844 z1844
  obtain ⟨hr1844, N1844q, K1844q, f1845, f1846, f1847, f1848, f1849, f1850, f1851, f1852, f1853⟩ := hQ1844
  rw [hr1844] at st1844
  clear hr1844
  have N1844 := Fr.app N1842 N1844q
  refine Go.via (fun _ kQ => st1844.trans kQ) ?_
  clear st1844
  have e1844 : T1844.heap = T1844.heap := rfl
  have f1854 : Exa Z T1844.heap b525 cFI := f1845
  have f1855 : Fld Z T1844.heap b525 cFI "part" "Ljava/util/List;" (.ref b1636) := f1846
  have f1856 : Fld Z T1844.heap b525 cFI "overhead" "I" (.int ov) := f1847
  have f1857 : Fld Z T1844.heap b525 cFI "partBytes" "J" (.long (((ov.toInt64) + (xx.toInt64)) + (((1 : Int32) + yy).toInt64))) := f1848
  have f1858 : Exa Z T1844.heap b1636 cAL := f1849
  have f1859 : Fld Z T1844.heap b1636 cAB "modCount" "I" (.int (((0 : Int32) + (1 : Int32)) + (1 : Int32))) := f1850
  have f1860 : Fld Z T1844.heap b1636 cAL "elementData" cOA (.ref b1663) := f1851
  have f1861 : Fld Z T1844.heap b1636 cAL "size" "I" (.int (2 : Int32)) := f1852
  have f1862 : Ra Z T1844.heap b1663 cOB [(.ref v4), (.ref v5), .null, .null, .null, .null, .null, .null, .null, .null] := f1853
  clear X1842 e1842
  show Go p e below (T1844.setTop (mkF m 239 #[vi p0, vi p1, vi p2, vi p3, vi p4, vi ov, vi (3 : Int32), vi b1, vi b2, vi b3, vi xx, vi dd, vi yy, vr v1, vr v2, vr v3, vr v4, vr v5, vr b525, vi (1 : Int32), vr b534, vr el, .unset, .unset, .unset, .unset] [(.ref el)])) _
  refine Go.via (fun _ => XS.astore X1844.here hx rfl (hb hby at_239) rfl rfl (l' := #[vi p0, vi p1, vi p2, vi p3, vi p4, vi ov, vi (3 : Int32), vi b1, vi b2, vi b3, vi xx, vi dd, vi yy, vr v1, vr v2, vr v3, vr v4, vr v5, vr b525, vi (1 : Int32), vr b534, vr el, vr el, .unset, .unset, .unset]) rfl) ?_
  refine Go.via (fun _ => XS.aload X1844.here hx rfl (hb hby at_241) rfl rfl) ?_
  have o1863 : Old Z n0 T1844.heap := (lf0_1842.keep K1844q (allS lf25_1842 (allS lf28_1842 (allS lf29_1842 all0))))
  have z1865 : n0 ≤ T1844.heap.size := (Nat.le_trans z1842 K1844q.1)
  obtain ⟨cq1864, kq1864, q1864a, q1864b, q1864c⟩ := isOf hZ e1844 f1854
  obtain ⟨r1864, _, ⟨T1864, L1864, k1864, n1864⟩, -, X1864, ⟨Lc1864, hQ1864, l1864, y1864, z1864⟩, st1864⟩ := X1844.virtualBack hx (y := (⟨cFI, "last", "()Ljava/util/List;"⟩ : MethodName)) (z := (⟨cFI, "last", "()Ljava/util/List;"⟩ : MethodName)) hown (mvT hZ (tw hw 116 rfl)) (mvT hZ (tw hw 117 rfl)) (notFace_of_selects (args := #[]) (mvT hZ (tw hw 119 rfl))) (mvT hZ (tw hw 119 rfl)) (mvT hZ (tw hw 118 rfl)) (by decide) (backOf (W := 0) (rmLa l Z a0 hw [] b525 b1636 ov (((ov.toInt64) + (xx.toInt64)) + (((1 : Int32) + yy).toInt64)) de T1844.heap n0 z1865 f1854 f1855 f1856 f1857 o1863 zD lf25_1842) hZ (tw hw 120 rfl) (tw hw 12 rfl) (by decide) (by decide)) q1864a q1864c (g := (mkF m 243 #[vi p0, vi p1, vi p2, vi p3, vi p4, vi ov, vi (3 : Int32), vi b1, vi b2, vi b3, vi xx, vi dd, vi yy, vr v1, vr v2, vr v3, vr v4, vr v5, vr b525, vi (1 : Int32), vr b534, vr el, vr el, .unset, .unset, .unset] [(.ref b525)])) rfl (by rw [hml]; rfl) (Steps.refl _) (argsL := []) (rest := []) (lenOf pd__28_29Ljava_2futil_2fList_3b rfl) rfl (by show 2 * 0 + _ ≤ _; exact Nat.le_of_eq rfl) (hb hby at_243) (fun _ _ => ⟨rfl, e1844, (by decide : 5 + 1 ≤ _), (by decide : 29 + 3 ≤ _)⟩)
  dsimp only [Pt.U, Pt.locs, Pt.cells, Pt.slots] at X1864 l1864 y1864 z1864 st1864 hQ1864
  rw [l1864, y1864, z1864] at X1864
  clear l1864 y1864 z1864
  obtain ⟨b1866, hr1864, N1864q, K1864q, fz_b1866, f1867, f1868, f1869, f1870, f1871, f1872, f1873, f1874⟩ := hQ1864
  rw [hr1864] at st1864
  clear hr1864
  have N1864 := Fr.app N1844 N1864q
  refine Go.via (fun _ kQ => st1864.trans kQ) ?_
  clear st1864
  have f1875 : Ra Z T1844.heap b1554 cOB [(.ref v1), (.ref v2), (.ref v3), .null, .null, .null, .null, .null, .null, .null] := (lf9_1842.keep K1844q (ninS (Ne.symm lf16_1842) (ninS lf18_1842 (ninS lf21_1842 nin0))))
  have ne1876 : b1554 ≠ b1866 := Nat.ne_of_lt (Nat.lt_of_lt_of_le f1875.lt fz_b1866)
  have ne1877 : b1636 ≠ b1866 := Nat.ne_of_lt (Nat.lt_of_lt_of_le f1858.lt fz_b1866)
  have ne1878 : b1663 ≠ b1866 := Nat.ne_of_lt (Nat.lt_of_lt_of_le f1862.lt fz_b1866)
  have ne1879 : b525 ≠ b1866 := Nat.ne_of_lt (Nat.lt_of_lt_of_le f1854.lt fz_b1866)
  have f1880 : Exa Z T1844.heap b534 cAL := (lf5_1842.keep K1844q)
  have ne1881 : b534 ≠ b1866 := Nat.ne_of_lt (Nat.lt_of_lt_of_le f1880.lt fz_b1866)
  have ge1882 : n0 ≤ b1866 := Nat.le_trans z1865 fz_b1866
  have k1884 : Keep h0 T1844.heap [] := (k1842.trans K1844q (allS (Or.inr lf30_1842) (allS (Or.inr lf33_1842) (allS (Or.inr lf34_1842) all0))))
  have sz1883 : h0.size ≤ b1866 := Nat.le_trans k1884.1 fz_b1866
  have e1864 : T1864.heap = T1864.heap := rfl
  have f1885 : Exa Z T1864.heap b525 cFI := f1867
  have f1886 : Fld Z T1864.heap b525 cFI "part" "Ljava/util/List;" (.ref b1866) := f1868
  have f1887 : Fld Z T1864.heap b525 cFI "overhead" "I" (.int ov) := f1869
  have f1888 : Fld Z T1864.heap b525 cFI "partBytes" "J" (.long (ov.toInt64)) := f1870
  have f1889 : Exa Z T1864.heap b1866 cAL := f1871
  have f1890 : Fld Z T1864.heap b1866 cAB "modCount" "I" (.int (0 : Int32)) := f1872
  have f1891 : Fld Z T1864.heap b1866 cAL "elementData" cOA (.ref de) := f1873
  have f1892 : Fld Z T1864.heap b1866 cAL "size" "I" (.int (0 : Int32)) := f1874
  clear X1844 e1844
  show Go p e below (T1864.setTop (mkF m 246 #[vi p0, vi p1, vi p2, vi p3, vi p4, vi ov, vi (3 : Int32), vi b1, vi b2, vi b3, vi xx, vi dd, vi yy, vr v1, vr v2, vr v3, vr v4, vr v5, vr b525, vi (1 : Int32), vr b534, vr el, vr el, .unset, .unset, .unset] [(.ref b1636)])) _
  refine Go.via (fun _ => XS.astore X1864.here hx rfl (hb hby at_246) rfl rfl (l' := #[vi p0, vi p1, vi p2, vi p3, vi p4, vi ov, vi (3 : Int32), vi b1, vi b2, vi b3, vi xx, vi dd, vi yy, vr v1, vr v2, vr v3, vr v4, vr v5, vr b525, vi (1 : Int32), vr b534, vr el, vr el, vr b1636, .unset, .unset]) rfl) ?_
  refine Go.via (fun _ => XS.aload X1864.here hx rfl (hb hby at_248) rfl rfl) ?_
  have o1893 : Old Z n0 T1864.heap := (o1863.keep K1864q (allS lf25_1842 all0))
  have z1895 : n0 ≤ T1864.heap.size := (Nat.le_trans z1865 K1864q.1)
  obtain ⟨cq1894, kq1894, q1894a, q1894b, q1894c⟩ := isOf hZ e1864 f1885
  obtain ⟨r1894, _, ⟨T1894, L1894, k1894, n1894⟩, -, X1894, ⟨Lc1894, hQ1894, l1894, y1894, z1894⟩, st1894⟩ := X1864.virtualBack hx (y := (⟨cFI, "last", "()Ljava/util/List;"⟩ : MethodName)) (z := (⟨cFI, "last", "()Ljava/util/List;"⟩ : MethodName)) hown (mvT hZ (tw hw 116 rfl)) (mvT hZ (tw hw 117 rfl)) (notFace_of_selects (args := #[]) (mvT hZ (tw hw 119 rfl))) (mvT hZ (tw hw 119 rfl)) (mvT hZ (tw hw 118 rfl)) (by decide) (backOf (W := 0) (rmLa l Z a0 hw [] b525 b1866 ov (ov.toInt64) de T1864.heap n0 z1895 f1885 f1886 f1887 f1888 o1893 zD lf25_1842) hZ (tw hw 120 rfl) (tw hw 12 rfl) (by decide) (by decide)) q1894a q1894c (g := (mkF m 250 #[vi p0, vi p1, vi p2, vi p3, vi p4, vi ov, vi (3 : Int32), vi b1, vi b2, vi b3, vi xx, vi dd, vi yy, vr v1, vr v2, vr v3, vr v4, vr v5, vr b525, vi (1 : Int32), vr b534, vr el, vr el, vr b1636, .unset, .unset] [(.ref b525)])) rfl (by rw [hml]; rfl) (Steps.refl _) (argsL := []) (rest := []) (lenOf pd__28_29Ljava_2futil_2fList_3b rfl) rfl (by show 2 * 0 + _ ≤ _; exact Nat.le_of_eq rfl) (hb hby at_250) (fun _ _ => ⟨rfl, e1864, (by decide : 6 + 1 ≤ _), (by decide : 32 + 3 ≤ _)⟩)
  dsimp only [Pt.U, Pt.locs, Pt.cells, Pt.slots] at X1894 l1894 y1894 z1894 st1894 hQ1894
  rw [l1894, y1894, z1894] at X1894
  clear l1894 y1894 z1894
  obtain ⟨b1896, hr1894, N1894q, K1894q, fz_b1896, f1897, f1898, f1899, f1900, f1901, f1902, f1903, f1904⟩ := hQ1894
  rw [hr1894] at st1894
  clear hr1894
  have N1894 := Fr.app N1864 N1894q
  refine Go.via (fun _ kQ => st1894.trans kQ) ?_
  clear st1894
  have f1905 : Ra Z T1864.heap b1554 cOB [(.ref v1), (.ref v2), (.ref v3), .null, .null, .null, .null, .null, .null, .null] := (f1875.keep K1864q (ninS (Ne.symm lf16_1842) nin0))
  have ne1906 : b1554 ≠ b1896 := Nat.ne_of_lt (Nat.lt_of_lt_of_le f1905.lt fz_b1896)
  have f1907 : Exa Z T1864.heap b1636 cAL := (f1858.keep K1864q)
  have ne1908 : b1636 ≠ b1896 := Nat.ne_of_lt (Nat.lt_of_lt_of_le f1907.lt fz_b1896)
  have f1909 : Ra Z T1864.heap b1663 cOB [(.ref v4), (.ref v5), .null, .null, .null, .null, .null, .null, .null, .null] := (f1862.keep K1864q (ninS (Ne.symm lf23_1842) nin0))
  have ne1910 : b1663 ≠ b1896 := Nat.ne_of_lt (Nat.lt_of_lt_of_le f1909.lt fz_b1896)
  have ne1911 : b1866 ≠ b1896 := Nat.ne_of_lt (Nat.lt_of_lt_of_le f1889.lt fz_b1896)
  have ne1912 : b525 ≠ b1896 := Nat.ne_of_lt (Nat.lt_of_lt_of_le f1885.lt fz_b1896)
  have f1913 : Exa Z T1864.heap b534 cAL := (f1880.keep K1864q)
  have ne1914 : b534 ≠ b1896 := Nat.ne_of_lt (Nat.lt_of_lt_of_le f1913.lt fz_b1896)
  have ge1915 : n0 ≤ b1896 := Nat.le_trans z1895 fz_b1896
  have k1917 : Keep h0 T1864.heap [] := (k1884.trans K1864q (allS (Or.inr lf30_1842) all0))
  have sz1916 : h0.size ≤ b1896 := Nat.le_trans k1917.1 fz_b1896
  have e1894 : T1894.heap = T1894.heap := rfl
  have f1918 : Exa Z T1894.heap b525 cFI := f1897
  have f1919 : Fld Z T1894.heap b525 cFI "part" "Ljava/util/List;" (.ref b1896) := f1898
  have f1920 : Fld Z T1894.heap b525 cFI "overhead" "I" (.int ov) := f1899
  have f1921 : Fld Z T1894.heap b525 cFI "partBytes" "J" (.long (ov.toInt64)) := f1900
  have f1922 : Exa Z T1894.heap b1896 cAL := f1901
  have f1923 : Fld Z T1894.heap b1896 cAB "modCount" "I" (.int (0 : Int32)) := f1902
  have f1924 : Fld Z T1894.heap b1896 cAL "elementData" cOA (.ref de) := f1903
  have f1925 : Fld Z T1894.heap b1896 cAL "size" "I" (.int (0 : Int32)) := f1904
  clear X1864 e1864
  show Go p e below (T1894.setTop (mkF m 253 #[vi p0, vi p1, vi p2, vi p3, vi p4, vi ov, vi (3 : Int32), vi b1, vi b2, vi b3, vi xx, vi dd, vi yy, vr v1, vr v2, vr v3, vr v4, vr v5, vr b525, vi (1 : Int32), vr b534, vr el, vr el, vr b1636, .unset, .unset] [(.ref b1866)])) _
  refine Go.via (fun _ => XS.astore X1894.here hx rfl (hb hby at_253) rfl rfl (l' := #[vi p0, vi p1, vi p2, vi p3, vi p4, vi ov, vi (3 : Int32), vi b1, vi b2, vi b3, vi xx, vi dd, vi yy, vr v1, vr v2, vr v3, vr v4, vr v5, vr b525, vi (1 : Int32), vr b534, vr el, vr el, vr b1636, vr b1866, .unset]) rfl) ?_
  refine Go.via (fun _ => XS.iload X1894.here hx rfl (hb hby at_255) rfl) ?_
  refine Go.via (fun _ => XS.ifNo X1894.here hx rfl (hb hby at_257) rfl ((if0 _ _).trans (feq ((by decide) : ¬ ((1 : Int32) = (0 : Int32)))).1)) ?_
  refine Go.via (fun _ => XS.aload X1894.here hx rfl (hb hby at_260) rfl rfl) ?_
  have f1926 : Fld Z T1894.heap b534 cAL "size" "I" (.int (3 : Int32)) := (((lf8_1842.keep K1844q (ninS (Ne.symm lf15_1842) (ninS lf20_1842 (ninS lf24_1842 nin0)))).keep K1864q (ninS (Ne.symm lf15_1842) nin0)).keep K1894q (ninS (Ne.symm lf15_1842) nin0))
  have z1928 : n0 ≤ T1894.heap.size := (Nat.le_trans z1895 K1894q.1)
  have f1929 : Exa Z T1894.heap b534 cAL := (f1913.keep K1894q)
  obtain ⟨cq1927, kq1927, q1927a, q1927b, q1927c⟩ := isOf hZ e1894 f1929
  obtain ⟨r1927, _, ⟨T1927, L1927, k1927, n1927⟩, -, X1927, ⟨Lc1927, hQ1927, l1927, y1927, z1927⟩, st1927⟩ := X1894.interfaceBack hx (xi := (⟨cLI, "size", "()I"⟩ : MethodName)) (y := (⟨cAL, "size", "()I"⟩ : MethodName)) hown (mvT hZ (tw hw 103 rfl)) (mvT hZ (tw hw 104 rfl)) (mvT hZ (tw hw 105 rfl)) (mvT hZ (tw hw 121 rfl)) (mvT hZ (tw hw 122 rfl)) (mvT hZ (tw hw 123 rfl)) (mvT hZ (tw hw 124 rfl)) (mvT hZ (tw hw 67 rfl)) (by decide) (backOf (W := 0) (rmSz l Z a0 hw [] b534 (3 : Int32) T1894.heap n0 z1928 f1926) hZ (tw hw 125 rfl) (tw hw 21 rfl) (by decide) (by decide)) q1927a q1927b q1927c (g := (mkF m 262 #[vi p0, vi p1, vi p2, vi p3, vi p4, vi ov, vi (3 : Int32), vi b1, vi b2, vi b3, vi xx, vi dd, vi yy, vr v1, vr v2, vr v3, vr v4, vr v5, vr b525, vi (1 : Int32), vr b534, vr el, vr el, vr b1636, vr b1866, .unset] [(.ref b534)])) rfl (by rw [hml]; rfl) (Steps.refl _) (argsL := []) (rest := []) (lenOf pd__28_29I rfl) rfl (by show 2 * 0 + _ ≤ _; exact Nat.le_of_eq rfl) (hb hby at_262) (fun _ _ => ⟨rfl, e1894, (by decide : 7 + 0 ≤ _), (by decide : 35 + 0 ≤ _)⟩)
  dsimp only [Pt.U, Pt.locs, Pt.cells, Pt.slots] at X1927 l1927 y1927 z1927 st1927 hQ1927
  rw [l1927, y1927, z1927] at X1927
  clear l1927 y1927 z1927
  obtain ⟨hr1927, N1927q, eh1927⟩ := hQ1927
  rw [hr1927] at st1927
  clear hr1927
  have N1927 := Fr.app N1894 N1927q
  refine Go.via (fun _ kQ => st1927.trans kQ) ?_
  clear st1927
  have e1927 : T1927.heap = T1894.heap := eh1927
  clear X1894 e1894
  show Go p e below (T1927.setTop (mkF m 267 #[vi p0, vi p1, vi p2, vi p3, vi p4, vi ov, vi (3 : Int32), vi b1, vi b2, vi b3, vi xx, vi dd, vi yy, vr v1, vr v2, vr v3, vr v4, vr v5, vr b525, vi (1 : Int32), vr b534, vr el, vr el, vr b1636, vr b1866, .unset] [(.int (3 : Int32))])) _
  refine Go.via (fun _ => XS.iload X1927.here hx rfl (hb hby at_267) rfl) ?_
  refine Go.via (fun _ => XS.icmpNo X1927.here hx rfl (hb hby at_269) rfl (teq ((by decide) : (3 : Int32) = (3 : Int32))).2) ?_
  refine Go.via (fun _ => XS.iconst X1927.here hx rfl (hb hby at_272)) ?_
  refine Go.via (fun _ => XS.goto X1927.here hx rfl (pc0 := 273) (pc' := 277) rfl (hb hby at_273) (by decide) (by decide)) ?_
  refine Go.via (fun _ => XS.istore X1927.here hx rfl (hb hby at_277) rfl (l' := #[vi p0, vi p1, vi p2, vi p3, vi p4, vi ov, vi (3 : Int32), vi b1, vi b2, vi b3, vi xx, vi dd, vi yy, vr v1, vr v2, vr v3, vr v4, vr v5, vr b525, vi (1 : Int32), vr b534, vr el, vr el, vr b1636, vr b1866, .unset]) rfl) ?_
  refine Go.via (fun _ => XS.iload X1927.here hx rfl (hb hby at_279) rfl) ?_
  refine Go.via (fun _ => XS.ifNo X1927.here hx rfl (hb hby at_281) rfl ((if0 _ _).trans (feq ((by decide) : ¬ ((1 : Int32) = (0 : Int32)))).1)) ?_
  show Go p e below (T1927.setTop (mkF m 284 #[vi p0, vi p1, vi p2, vi p3, vi p4, vi ov, vi (3 : Int32), vi b1, vi b2, vi b3, vi xx, vi dd, vi yy, vr v1, vr v2, vr v3, vr v4, vr v5, vr b525, vi (1 : Int32), vr b534, vr el, vr el, vr b1636, vr b1866, .unset] [])) _
  refine Go.via (fun _ => XS.iload X1927.here hx rfl (hb hby at_284) rfl) ?_
  refine Go.via (fun _ => XS.iconst X1927.here hx rfl (hb hby at_286)) ?_
  refine Go.via (fun _ => XS.icmpNo X1927.here hx rfl (hb hby at_287) rfl (flt ((by decide) : ¬ ((3 : Int32) < (1 : Int32)))).1) ?_
  refine Go.via (fun _ => XS.aload X1927.here hx rfl (hb hby at_290) rfl rfl) ?_
  refine Go.via (fun _ => XS.iconst X1927.here hx rfl (hb hby at_292)) ?_
  have f1930 : Fld Z T1894.heap b534 cAL "elementData" cOA (.ref b1554) := (((lf7_1842.keep K1844q (ninS (Ne.symm lf15_1842) (ninS lf20_1842 (ninS lf24_1842 nin0)))).keep K1864q (ninS (Ne.symm lf15_1842) nin0)).keep K1894q (ninS (Ne.symm lf15_1842) nin0))
  have f1931 : Ra Z T1894.heap b1554 cOB [(.ref v1), (.ref v2), (.ref v3), .null, .null, .null, .null, .null, .null, .null] := (f1905.keep K1894q (ninS (Ne.symm lf16_1842) nin0))
  obtain ⟨cq1932, kq1932, q1932a, q1932b, q1932c⟩ := isOf hZ e1927 f1929
  obtain ⟨r1932, _, ⟨T1932, L1932, k1932, n1932⟩, -, X1932, ⟨Lc1932, hQ1932, l1932, y1932, z1932⟩, st1932⟩ := X1927.interfaceBack hx (xi := (⟨cLI, "get", "(I)Ljava/lang/Object;"⟩ : MethodName)) (y := (⟨cAL, "get", "(I)Ljava/lang/Object;"⟩ : MethodName)) hown (mvT hZ (tw hw 126 rfl)) (mvT hZ (tw hw 127 rfl)) (mvT hZ (tw hw 128 rfl)) (mvT hZ (tw hw 129 rfl)) (mvT hZ (tw hw 130 rfl)) (mvT hZ (tw hw 131 rfl)) (mvT hZ (tw hw 132 rfl)) (mvT hZ (tw hw 67 rfl)) (by decide) (backOf (W := 0) (rmGt l Z a0 hw [] b534 (0 : Int32) b1554 [(.ref v1), (.ref v2), (.ref v3), .null, .null, .null, .null, .null, .null, .null] v1 (3 : Int32) T1894.heap n0 z1928 f1930 f1926 f1931 f1929 (by first | decide | (simp only [List.length_cons, List.length_nil]; decide) | rfl) (by first | decide | (simp only [List.length_cons, List.length_nil]; decide) | rfl) rfl) hZ (tw hw 133 rfl) (tw hw 21 rfl) (by decide) (by decide)) q1932a q1932b q1932c (g := (mkF m 293 #[vi p0, vi p1, vi p2, vi p3, vi p4, vi ov, vi (3 : Int32), vi b1, vi b2, vi b3, vi xx, vi dd, vi yy, vr v1, vr v2, vr v3, vr v4, vr v5, vr b525, vi (1 : Int32), vr b534, vr el, vr el, vr b1636, vr b1866, .unset] [(.int (0 : Int32)), (.ref b534)])) rfl (by rw [hml]; rfl) (Steps.refl _) (argsL := [(.int (0 : Int32))]) (rest := []) (lenOf pd__28I_29Ljava_2flang_2fObject_3b rfl) rfl (by show 2 * 0 + _ ≤ _; exact Nat.le_of_eq rfl) (hb hby at_293) (fun _ _ => ⟨rfl, e1927, (by decide : 7 + 0 ≤ _), (by decide : 35 + 0 ≤ _)⟩)
  dsimp only [Pt.U, Pt.locs, Pt.cells, Pt.slots] at X1932 l1932 y1932 z1932 st1932 hQ1932
  rw [l1932, y1932, z1932] at X1932
  clear l1932 y1932 z1932
  obtain ⟨hr1932, N1932q, eh1932⟩ := hQ1932
  rw [hr1932] at st1932
  clear hr1932
  have N1932 := Fr.app N1927 N1932q
  refine Go.via (fun _ kQ => st1932.trans kQ) ?_
  clear st1932
  have e1932 : T1932.heap = T1894.heap := eh1932
  clear X1927 e1927
  show Go p e below (T1932.setTop (mkF m 298 #[vi p0, vi p1, vi p2, vi p3, vi p4, vi ov, vi (3 : Int32), vi b1, vi b2, vi b3, vi xx, vi dd, vi yy, vr v1, vr v2, vr v3, vr v4, vr v5, vr b525, vi (1 : Int32), vr b534, vr el, vr el, vr b1636, vr b1866, .unset] [(.ref v1)])) _
  have o1933 : Old Z n0 T1894.heap := (o1893.keep K1894q (allS lf25_1842 all0))
  have f1934 : Exa Z T1894.heap v1 cIN := zE1.ext o1933.2
  obtain ⟨T1935, X1935, e1935, st1935⟩ := castY X1932 hx hZ hown (tw hw 147 rfl) e1932 (Ins.self f1934) (g := (mkF m 298 #[vi p0, vi p1, vi p2, vi p3, vi p4, vi ov, vi (3 : Int32), vi b1, vi b2, vi b3, vi xx, vi dd, vi yy, vr v1, vr v2, vr v3, vr v4, vr v5, vr b525, vi (1 : Int32), vr b534, vr el, vr el, vr b1636, vr b1866, .unset] [(.ref v1)])) rfl rfl (hb hby at_298)
  refine Go.via (st1935) ?_
  clear st1935
  clear X1932 e1932
  show Go p e below (T1935.setTop (mkF m 301 #[vi p0, vi p1, vi p2, vi p3, vi p4, vi ov, vi (3 : Int32), vi b1, vi b2, vi b3, vi xx, vi dd, vi yy, vr v1, vr v2, vr v3, vr v4, vr v5, vr b525, vi (1 : Int32), vr b534, vr el, vr el, vr b1636, vr b1866, .unset] [(.ref v1)])) _
  have f1936 : Fld Z T1894.heap v1 cIN "value" "I" (.int (1 : Int32)) := zV1.ext o1933.2
  have f1938 : Exa Z T1894.heap v1 cIN := zE1.ext o1933.2
  obtain ⟨cq1937, kq1937, q1937a, q1937b, q1937c⟩ := isOf hZ e1935 f1938
  obtain ⟨r1937, _, ⟨T1937, L1937, k1937, n1937⟩, -, X1937, ⟨Lc1937, hQ1937, l1937, y1937, z1937⟩, st1937⟩ := X1935.virtualBack hx (y := (⟨cIN, "intValue", "()I"⟩ : MethodName)) (z := (⟨cIN, "intValue", "()I"⟩ : MethodName)) hown (mvT hZ (tw hw 149 rfl)) (mvT hZ (tw hw 150 rfl)) (notFace_of_selects (args := #[]) (mvT hZ (tw hw 152 rfl))) (mvT hZ (tw hw 152 rfl)) (mvT hZ (tw hw 151 rfl)) (by decide) (backOf (W := 0) (rmIv l Z a0 hw [] v1 (1 : Int32) T1894.heap n0 z1928 f1936) hZ (tw hw 153 rfl) (tw hw 5 rfl) (by decide) (by decide)) q1937a q1937c (g := (mkF m 301 #[vi p0, vi p1, vi p2, vi p3, vi p4, vi ov, vi (3 : Int32), vi b1, vi b2, vi b3, vi xx, vi dd, vi yy, vr v1, vr v2, vr v3, vr v4, vr v5, vr b525, vi (1 : Int32), vr b534, vr el, vr el, vr b1636, vr b1866, .unset] [(.ref v1)])) rfl (by rw [hml]; rfl) (Steps.refl _) (argsL := []) (rest := []) (lenOf pd__28_29I rfl) rfl (by show 2 * 0 + _ ≤ _; exact Nat.le_of_eq rfl) (hb hby at_301) (fun _ _ => ⟨rfl, e1935, (by decide : 7 + 0 ≤ _), (by decide : 35 + 0 ≤ _)⟩)
  dsimp only [Pt.U, Pt.locs, Pt.cells, Pt.slots] at X1937 l1937 y1937 z1937 st1937 hQ1937
  rw [l1937, y1937, z1937] at X1937
  clear l1937 y1937 z1937
  obtain ⟨hr1937, N1937q, eh1937⟩ := hQ1937
  rw [hr1937] at st1937
  clear hr1937
  have N1937 := Fr.app N1932 N1937q
  refine Go.via (fun _ kQ => st1937.trans kQ) ?_
  clear st1937
  have e1937 : T1937.heap = T1894.heap := eh1937
  clear X1935 e1935
  show Go p e below (T1937.setTop (mkF m 304 #[vi p0, vi p1, vi p2, vi p3, vi p4, vi ov, vi (3 : Int32), vi b1, vi b2, vi b3, vi xx, vi dd, vi yy, vr v1, vr v2, vr v3, vr v4, vr v5, vr b525, vi (1 : Int32), vr b534, vr el, vr el, vr b1636, vr b1866, .unset] [(.int (1 : Int32))])) _
  refine Go.via (fun _ => XS.iconst X1937.here hx rfl (hb hby at_304)) ?_
  refine Go.via (fun _ => XS.icmpNo X1937.here hx rfl (hb hby at_305) rfl (teq ((by decide) : (1 : Int32) = (1 : Int32))).2) ?_
  refine Go.via (fun _ => XS.iconst X1937.here hx rfl (hb hby at_308)) ?_
  refine Go.via (fun _ => XS.goto X1937.here hx rfl (pc0 := 309) (pc' := 313) rfl (hb hby at_309) (by decide) (by decide)) ?_
  refine Go.via (fun _ => XS.istore X1937.here hx rfl (hb hby at_313) rfl (l' := #[vi p0, vi p1, vi p2, vi p3, vi p4, vi ov, vi (3 : Int32), vi b1, vi b2, vi b3, vi xx, vi dd, vi yy, vr v1, vr v2, vr v3, vr v4, vr v5, vr b525, vi (1 : Int32), vr b534, vr el, vr el, vr b1636, vr b1866, .unset]) rfl) ?_
  refine Go.via (fun _ => XS.iload X1937.here hx rfl (hb hby at_315) rfl) ?_
  refine Go.via (fun _ => XS.ifNo X1937.here hx rfl (hb hby at_317) rfl ((if0 _ _).trans (feq ((by decide) : ¬ ((1 : Int32) = (0 : Int32)))).1)) ?_
  show Go p e below (T1937.setTop (mkF m 320 #[vi p0, vi p1, vi p2, vi p3, vi p4, vi ov, vi (3 : Int32), vi b1, vi b2, vi b3, vi xx, vi dd, vi yy, vr v1, vr v2, vr v3, vr v4, vr v5, vr b525, vi (1 : Int32), vr b534, vr el, vr el, vr b1636, vr b1866, .unset] [])) _
  refine Go.via (fun _ => XS.iload X1937.here hx rfl (hb hby at_320) rfl) ?_
  refine Go.via (fun _ => XS.iconst X1937.here hx rfl (hb hby at_322)) ?_
  refine Go.via (fun _ => XS.icmpNo X1937.here hx rfl (hb hby at_323) rfl (flt ((by decide) : ¬ ((3 : Int32) < (2 : Int32)))).1) ?_
  refine Go.via (fun _ => XS.aload X1937.here hx rfl (hb hby at_326) rfl rfl) ?_
  refine Go.via (fun _ => XS.iconst X1937.here hx rfl (hb hby at_328)) ?_
  obtain ⟨cq1939, kq1939, q1939a, q1939b, q1939c⟩ := isOf hZ e1937 f1929
  obtain ⟨r1939, _, ⟨T1939, L1939, k1939, n1939⟩, -, X1939, ⟨Lc1939, hQ1939, l1939, y1939, z1939⟩, st1939⟩ := X1937.interfaceBack hx (xi := (⟨cLI, "get", "(I)Ljava/lang/Object;"⟩ : MethodName)) (y := (⟨cAL, "get", "(I)Ljava/lang/Object;"⟩ : MethodName)) hown (mvT hZ (tw hw 126 rfl)) (mvT hZ (tw hw 127 rfl)) (mvT hZ (tw hw 128 rfl)) (mvT hZ (tw hw 129 rfl)) (mvT hZ (tw hw 130 rfl)) (mvT hZ (tw hw 131 rfl)) (mvT hZ (tw hw 132 rfl)) (mvT hZ (tw hw 67 rfl)) (by decide) (backOf (W := 0) (rmGt l Z a0 hw [] b534 (1 : Int32) b1554 [(.ref v1), (.ref v2), (.ref v3), .null, .null, .null, .null, .null, .null, .null] v2 (3 : Int32) T1894.heap n0 z1928 f1930 f1926 f1931 f1929 (by first | decide | (simp only [List.length_cons, List.length_nil]; decide) | rfl) (by first | decide | (simp only [List.length_cons, List.length_nil]; decide) | rfl) rfl) hZ (tw hw 133 rfl) (tw hw 21 rfl) (by decide) (by decide)) q1939a q1939b q1939c (g := (mkF m 329 #[vi p0, vi p1, vi p2, vi p3, vi p4, vi ov, vi (3 : Int32), vi b1, vi b2, vi b3, vi xx, vi dd, vi yy, vr v1, vr v2, vr v3, vr v4, vr v5, vr b525, vi (1 : Int32), vr b534, vr el, vr el, vr b1636, vr b1866, .unset] [(.int (1 : Int32)), (.ref b534)])) rfl (by rw [hml]; rfl) (Steps.refl _) (argsL := [(.int (1 : Int32))]) (rest := []) (lenOf pd__28I_29Ljava_2flang_2fObject_3b rfl) rfl (by show 2 * 0 + _ ≤ _; exact Nat.le_of_eq rfl) (hb hby at_329) (fun _ _ => ⟨rfl, e1937, (by decide : 7 + 0 ≤ _), (by decide : 35 + 0 ≤ _)⟩)
  dsimp only [Pt.U, Pt.locs, Pt.cells, Pt.slots] at X1939 l1939 y1939 z1939 st1939 hQ1939
  rw [l1939, y1939, z1939] at X1939
  clear l1939 y1939 z1939
  obtain ⟨hr1939, N1939q, eh1939⟩ := hQ1939
  rw [hr1939] at st1939
  clear hr1939
  have N1939 := Fr.app N1937 N1939q
  refine Go.via (fun _ kQ => st1939.trans kQ) ?_
  clear st1939
  have e1939 : T1939.heap = T1894.heap := eh1939
  clear X1937 e1937
  show Go p e below (T1939.setTop (mkF m 334 #[vi p0, vi p1, vi p2, vi p3, vi p4, vi ov, vi (3 : Int32), vi b1, vi b2, vi b3, vi xx, vi dd, vi yy, vr v1, vr v2, vr v3, vr v4, vr v5, vr b525, vi (1 : Int32), vr b534, vr el, vr el, vr b1636, vr b1866, .unset] [(.ref v2)])) _
  have f1940 : Exa Z T1894.heap v2 cIN := zE2.ext o1933.2
  obtain ⟨T1941, X1941, e1941, st1941⟩ := castY X1939 hx hZ hown (tw hw 147 rfl) e1939 (Ins.self f1940) (g := (mkF m 334 #[vi p0, vi p1, vi p2, vi p3, vi p4, vi ov, vi (3 : Int32), vi b1, vi b2, vi b3, vi xx, vi dd, vi yy, vr v1, vr v2, vr v3, vr v4, vr v5, vr b525, vi (1 : Int32), vr b534, vr el, vr el, vr b1636, vr b1866, .unset] [(.ref v2)])) rfl rfl (hb hby at_334)
  refine Go.via (st1941) ?_
  clear st1941
  clear X1939 e1939
  show Go p e below (T1941.setTop (mkF m 337 #[vi p0, vi p1, vi p2, vi p3, vi p4, vi ov, vi (3 : Int32), vi b1, vi b2, vi b3, vi xx, vi dd, vi yy, vr v1, vr v2, vr v3, vr v4, vr v5, vr b525, vi (1 : Int32), vr b534, vr el, vr el, vr b1636, vr b1866, .unset] [(.ref v2)])) _
  have f1942 : Fld Z T1894.heap v2 cIN "value" "I" (.int (2 : Int32)) := zV2.ext o1933.2
  have f1944 : Exa Z T1894.heap v2 cIN := zE2.ext o1933.2
  obtain ⟨cq1943, kq1943, q1943a, q1943b, q1943c⟩ := isOf hZ e1941 f1944
  obtain ⟨r1943, _, ⟨T1943, L1943, k1943, n1943⟩, -, X1943, ⟨Lc1943, hQ1943, l1943, y1943, z1943⟩, st1943⟩ := X1941.virtualBack hx (y := (⟨cIN, "intValue", "()I"⟩ : MethodName)) (z := (⟨cIN, "intValue", "()I"⟩ : MethodName)) hown (mvT hZ (tw hw 149 rfl)) (mvT hZ (tw hw 150 rfl)) (notFace_of_selects (args := #[]) (mvT hZ (tw hw 152 rfl))) (mvT hZ (tw hw 152 rfl)) (mvT hZ (tw hw 151 rfl)) (by decide) (backOf (W := 0) (rmIv l Z a0 hw [] v2 (2 : Int32) T1894.heap n0 z1928 f1942) hZ (tw hw 153 rfl) (tw hw 5 rfl) (by decide) (by decide)) q1943a q1943c (g := (mkF m 337 #[vi p0, vi p1, vi p2, vi p3, vi p4, vi ov, vi (3 : Int32), vi b1, vi b2, vi b3, vi xx, vi dd, vi yy, vr v1, vr v2, vr v3, vr v4, vr v5, vr b525, vi (1 : Int32), vr b534, vr el, vr el, vr b1636, vr b1866, .unset] [(.ref v2)])) rfl (by rw [hml]; rfl) (Steps.refl _) (argsL := []) (rest := []) (lenOf pd__28_29I rfl) rfl (by show 2 * 0 + _ ≤ _; exact Nat.le_of_eq rfl) (hb hby at_337) (fun _ _ => ⟨rfl, e1941, (by decide : 7 + 0 ≤ _), (by decide : 35 + 0 ≤ _)⟩)
  dsimp only [Pt.U, Pt.locs, Pt.cells, Pt.slots] at X1943 l1943 y1943 z1943 st1943 hQ1943
  rw [l1943, y1943, z1943] at X1943
  clear l1943 y1943 z1943
  obtain ⟨hr1943, N1943q, eh1943⟩ := hQ1943
  rw [hr1943] at st1943
  clear hr1943
  have N1943 := Fr.app N1939 N1943q
  refine Go.via (fun _ kQ => st1943.trans kQ) ?_
  clear st1943
  have e1943 : T1943.heap = T1894.heap := eh1943
  clear X1941 e1941
  show Go p e below (T1943.setTop (mkF m 340 #[vi p0, vi p1, vi p2, vi p3, vi p4, vi ov, vi (3 : Int32), vi b1, vi b2, vi b3, vi xx, vi dd, vi yy, vr v1, vr v2, vr v3, vr v4, vr v5, vr b525, vi (1 : Int32), vr b534, vr el, vr el, vr b1636, vr b1866, .unset] [(.int (2 : Int32))])) _
  refine Go.via (fun _ => XS.iconst X1943.here hx rfl (hb hby at_340)) ?_
  refine Go.via (fun _ => XS.icmpNo X1943.here hx rfl (hb hby at_341) rfl (teq ((by decide) : (2 : Int32) = (2 : Int32))).2) ?_
  refine Go.via (fun _ => XS.iconst X1943.here hx rfl (hb hby at_344)) ?_
  refine Go.via (fun _ => XS.goto X1943.here hx rfl (pc0 := 345) (pc' := 349) rfl (hb hby at_345) (by decide) (by decide)) ?_
  refine Go.via (fun _ => XS.istore X1943.here hx rfl (hb hby at_349) rfl (l' := #[vi p0, vi p1, vi p2, vi p3, vi p4, vi ov, vi (3 : Int32), vi b1, vi b2, vi b3, vi xx, vi dd, vi yy, vr v1, vr v2, vr v3, vr v4, vr v5, vr b525, vi (1 : Int32), vr b534, vr el, vr el, vr b1636, vr b1866, .unset]) rfl) ?_
  refine Go.via (fun _ => XS.iload X1943.here hx rfl (hb hby at_351) rfl) ?_
  refine Go.via (fun _ => XS.ifNo X1943.here hx rfl (hb hby at_353) rfl ((if0 _ _).trans (feq ((by decide) : ¬ ((1 : Int32) = (0 : Int32)))).1)) ?_
  show Go p e below (T1943.setTop (mkF m 356 #[vi p0, vi p1, vi p2, vi p3, vi p4, vi ov, vi (3 : Int32), vi b1, vi b2, vi b3, vi xx, vi dd, vi yy, vr v1, vr v2, vr v3, vr v4, vr v5, vr b525, vi (1 : Int32), vr b534, vr el, vr el, vr b1636, vr b1866, .unset] [])) _
  refine Go.via (fun _ => XS.iload X1943.here hx rfl (hb hby at_356) rfl) ?_
  refine Go.via (fun _ => XS.iconst X1943.here hx rfl (hb hby at_358)) ?_
  refine Go.via (fun _ => XS.icmpNo X1943.here hx rfl (hb hby at_359) rfl (flt ((by decide) : ¬ ((3 : Int32) < (3 : Int32)))).1) ?_
  refine Go.via (fun _ => XS.aload X1943.here hx rfl (hb hby at_362) rfl rfl) ?_
  refine Go.via (fun _ => XS.iconst X1943.here hx rfl (hb hby at_364)) ?_
  obtain ⟨cq1945, kq1945, q1945a, q1945b, q1945c⟩ := isOf hZ e1943 f1929
  obtain ⟨r1945, _, ⟨T1945, L1945, k1945, n1945⟩, -, X1945, ⟨Lc1945, hQ1945, l1945, y1945, z1945⟩, st1945⟩ := X1943.interfaceBack hx (xi := (⟨cLI, "get", "(I)Ljava/lang/Object;"⟩ : MethodName)) (y := (⟨cAL, "get", "(I)Ljava/lang/Object;"⟩ : MethodName)) hown (mvT hZ (tw hw 126 rfl)) (mvT hZ (tw hw 127 rfl)) (mvT hZ (tw hw 128 rfl)) (mvT hZ (tw hw 129 rfl)) (mvT hZ (tw hw 130 rfl)) (mvT hZ (tw hw 131 rfl)) (mvT hZ (tw hw 132 rfl)) (mvT hZ (tw hw 67 rfl)) (by decide) (backOf (W := 0) (rmGt l Z a0 hw [] b534 (2 : Int32) b1554 [(.ref v1), (.ref v2), (.ref v3), .null, .null, .null, .null, .null, .null, .null] v3 (3 : Int32) T1894.heap n0 z1928 f1930 f1926 f1931 f1929 (by first | decide | (simp only [List.length_cons, List.length_nil]; decide) | rfl) (by first | decide | (simp only [List.length_cons, List.length_nil]; decide) | rfl) rfl) hZ (tw hw 133 rfl) (tw hw 21 rfl) (by decide) (by decide)) q1945a q1945b q1945c (g := (mkF m 365 #[vi p0, vi p1, vi p2, vi p3, vi p4, vi ov, vi (3 : Int32), vi b1, vi b2, vi b3, vi xx, vi dd, vi yy, vr v1, vr v2, vr v3, vr v4, vr v5, vr b525, vi (1 : Int32), vr b534, vr el, vr el, vr b1636, vr b1866, .unset] [(.int (2 : Int32)), (.ref b534)])) rfl (by rw [hml]; rfl) (Steps.refl _) (argsL := [(.int (2 : Int32))]) (rest := []) (lenOf pd__28I_29Ljava_2flang_2fObject_3b rfl) rfl (by show 2 * 0 + _ ≤ _; exact Nat.le_of_eq rfl) (hb hby at_365) (fun _ _ => ⟨rfl, e1943, (by decide : 7 + 0 ≤ _), (by decide : 35 + 0 ≤ _)⟩)
  dsimp only [Pt.U, Pt.locs, Pt.cells, Pt.slots] at X1945 l1945 y1945 z1945 st1945 hQ1945
  rw [l1945, y1945, z1945] at X1945
  clear l1945 y1945 z1945
  obtain ⟨hr1945, N1945q, eh1945⟩ := hQ1945
  rw [hr1945] at st1945
  clear hr1945
  have N1945 := Fr.app N1943 N1945q
  refine Go.via (fun _ kQ => st1945.trans kQ) ?_
  clear st1945
  have e1945 : T1945.heap = T1894.heap := eh1945
  clear X1943 e1943
  show Go p e below (T1945.setTop (mkF m 370 #[vi p0, vi p1, vi p2, vi p3, vi p4, vi ov, vi (3 : Int32), vi b1, vi b2, vi b3, vi xx, vi dd, vi yy, vr v1, vr v2, vr v3, vr v4, vr v5, vr b525, vi (1 : Int32), vr b534, vr el, vr el, vr b1636, vr b1866, .unset] [(.ref v3)])) _
  have f1946 : Exa Z T1894.heap v3 cIN := zE3.ext o1933.2
  obtain ⟨T1947, X1947, e1947, st1947⟩ := castY X1945 hx hZ hown (tw hw 147 rfl) e1945 (Ins.self f1946) (g := (mkF m 370 #[vi p0, vi p1, vi p2, vi p3, vi p4, vi ov, vi (3 : Int32), vi b1, vi b2, vi b3, vi xx, vi dd, vi yy, vr v1, vr v2, vr v3, vr v4, vr v5, vr b525, vi (1 : Int32), vr b534, vr el, vr el, vr b1636, vr b1866, .unset] [(.ref v3)])) rfl rfl (hb hby at_370)
  refine Go.via (st1947) ?_
  clear st1947
  clear X1945 e1945
  show Go p e below (T1947.setTop (mkF m 373 #[vi p0, vi p1, vi p2, vi p3, vi p4, vi ov, vi (3 : Int32), vi b1, vi b2, vi b3, vi xx, vi dd, vi yy, vr v1, vr v2, vr v3, vr v4, vr v5, vr b525, vi (1 : Int32), vr b534, vr el, vr el, vr b1636, vr b1866, .unset] [(.ref v3)])) _
  have f1948 : Fld Z T1894.heap v3 cIN "value" "I" (.int (3 : Int32)) := zV3.ext o1933.2
  have f1950 : Exa Z T1894.heap v3 cIN := zE3.ext o1933.2
  obtain ⟨cq1949, kq1949, q1949a, q1949b, q1949c⟩ := isOf hZ e1947 f1950
  obtain ⟨r1949, _, ⟨T1949, L1949, k1949, n1949⟩, -, X1949, ⟨Lc1949, hQ1949, l1949, y1949, z1949⟩, st1949⟩ := X1947.virtualBack hx (y := (⟨cIN, "intValue", "()I"⟩ : MethodName)) (z := (⟨cIN, "intValue", "()I"⟩ : MethodName)) hown (mvT hZ (tw hw 149 rfl)) (mvT hZ (tw hw 150 rfl)) (notFace_of_selects (args := #[]) (mvT hZ (tw hw 152 rfl))) (mvT hZ (tw hw 152 rfl)) (mvT hZ (tw hw 151 rfl)) (by decide) (backOf (W := 0) (rmIv l Z a0 hw [] v3 (3 : Int32) T1894.heap n0 z1928 f1948) hZ (tw hw 153 rfl) (tw hw 5 rfl) (by decide) (by decide)) q1949a q1949c (g := (mkF m 373 #[vi p0, vi p1, vi p2, vi p3, vi p4, vi ov, vi (3 : Int32), vi b1, vi b2, vi b3, vi xx, vi dd, vi yy, vr v1, vr v2, vr v3, vr v4, vr v5, vr b525, vi (1 : Int32), vr b534, vr el, vr el, vr b1636, vr b1866, .unset] [(.ref v3)])) rfl (by rw [hml]; rfl) (Steps.refl _) (argsL := []) (rest := []) (lenOf pd__28_29I rfl) rfl (by show 2 * 0 + _ ≤ _; exact Nat.le_of_eq rfl) (hb hby at_373) (fun _ _ => ⟨rfl, e1947, (by decide : 7 + 0 ≤ _), (by decide : 35 + 0 ≤ _)⟩)
  dsimp only [Pt.U, Pt.locs, Pt.cells, Pt.slots] at X1949 l1949 y1949 z1949 st1949 hQ1949
  rw [l1949, y1949, z1949] at X1949
  clear l1949 y1949 z1949
  obtain ⟨hr1949, N1949q, eh1949⟩ := hQ1949
  rw [hr1949] at st1949
  clear hr1949
  have N1949 := Fr.app N1945 N1949q
  refine Go.via (fun _ kQ => st1949.trans kQ) ?_
  clear st1949
  have e1949 : T1949.heap = T1894.heap := eh1949
  clear X1947 e1947
  show Go p e below (T1949.setTop (mkF m 376 #[vi p0, vi p1, vi p2, vi p3, vi p4, vi ov, vi (3 : Int32), vi b1, vi b2, vi b3, vi xx, vi dd, vi yy, vr v1, vr v2, vr v3, vr v4, vr v5, vr b525, vi (1 : Int32), vr b534, vr el, vr el, vr b1636, vr b1866, .unset] [(.int (3 : Int32))])) _
  refine Go.via (fun _ => XS.iconst X1949.here hx rfl (hb hby at_376)) ?_
  refine Go.via (fun _ => XS.icmpNo X1949.here hx rfl (hb hby at_377) rfl (teq ((by decide) : (3 : Int32) = (3 : Int32))).2) ?_
  refine Go.via (fun _ => XS.iconst X1949.here hx rfl (hb hby at_380)) ?_
  refine Go.via (fun _ => XS.goto X1949.here hx rfl (pc0 := 381) (pc' := 385) rfl (hb hby at_381) (by decide) (by decide)) ?_
  refine Go.via (fun _ => XS.istore X1949.here hx rfl (hb hby at_385) rfl (l' := #[vi p0, vi p1, vi p2, vi p3, vi p4, vi ov, vi (3 : Int32), vi b1, vi b2, vi b3, vi xx, vi dd, vi yy, vr v1, vr v2, vr v3, vr v4, vr v5, vr b525, vi (1 : Int32), vr b534, vr el, vr el, vr b1636, vr b1866, .unset]) rfl) ?_
  have X1949m := X1949.more (by decide : _ ≤ 13) (by decide : _ ≤ 61)
  have f1951 : Exa Z T1894.heap b1866 cAL := (f1889.keep K1894q)
  have f1952 : Fld Z T1894.heap b1866 cAL "size" "I" (.int (0 : Int32)) := (f1892.keep K1894q (ninS (Ne.symm ne1879) nin0))
  have f1953 : Exa Z T1894.heap b1636 cAL := (f1907.keep K1894q)
  have f1954 : Fld Z T1894.heap b1636 cAL "size" "I" (.int (2 : Int32)) := ((f1861.keep K1864q (ninS (Ne.symm lf19_1842) nin0)).keep K1894q (ninS (Ne.symm lf19_1842) nin0))
  have f1955 : Fld Z T1894.heap b1636 cAL "elementData" cOA (.ref b1663) := ((f1860.keep K1864q (ninS (Ne.symm lf19_1842) nin0)).keep K1894q (ninS (Ne.symm lf19_1842) nin0))
  have f1956 : Ra Z T1894.heap b1663 cOB [(.ref v4), (.ref v5), .null, .null, .null, .null, .null, .null, .null, .null] := (f1909.keep K1894q (ninS (Ne.symm lf23_1842) nin0))
  have k1957 : Keep h0 T1894.heap [] := (k1917.trans K1894q (allS (Or.inr lf30_1842) all0))
  exact rm_rm0_JN l Z a0 hw p0 p1 p2 p3 p4 de el ea ca cl v1 v2 v3 v4 v5 h0 n0 zD zN zL zH zC zLE zLF zLN zE1 zV1 zE2 zV2 zE3 zV3 zE4 zV4 zE5 zV5 hA hin1 hat1 hin2 hat2 hin3 hat3 hin4 hat4 hin5 hat5 hx hby hlk hml hown hZ hret T1949 _ T1894.heap ov b1 b2 b3 xx dd yy (3 : Int32) b525 b534 b1636 b1866 b1663 X1949m e1949 N1949 z1928 k1957 f1929 f1926 f1951 f1952 o1933 f1953 f1954 f1955 f1956 hsp
set_option maxRecDepth 65536 in
set_option maxHeartbeats 40000000 in
theorem rm_rm0_c3 (l : Launch) (Z : State) (a0 : Array Value) (hw : ∀ d ∈ tables_1, d.before a0 Z = true) (p0 : Int32) (p1 : Int32) (p2 : Int32) (p3 : Int32) (p4 : Int32) (de : Addr) (el : Addr) (ea : Addr) (ca : Addr) (cl : Cell) (v1 : Addr) (v2 : Addr) (v3 : Addr) (v4 : Addr) (v5 : Addr) (h0 : Heap) (n0 : Nat) (zD : Sta Z Z.heap cAL cDE cOA (.ref de)) (zN : Rn Z Z.heap de (0 : Int32)) (zL : Sta Z Z.heap cIM "EMPTY_LIST" "Ljava/util/ImmutableCollections$ListN;" (.ref el)) (zH : Sta Z Z.heap cIC "high" "I" (.int (127 : Int32))) (zC : Sta Z Z.heap cIC "cache" "[Ljava/lang/Integer;" (.ref ca)) (zLE : Exa Z Z.heap el cLN) (zLF : Fld Z Z.heap el cLN "elements" cOA (.ref ea)) (zLN : Rn Z Z.heap ea (0 : Int32)) (zE1 : Exa Z Z.heap v1 cIN) (zV1 : Fld Z Z.heap v1 cIN "value" "I" (.int (1 : Int32))) (zE2 : Exa Z Z.heap v2 cIN) (zV2 : Fld Z Z.heap v2 cIN "value" "I" (.int (2 : Int32))) (zE3 : Exa Z Z.heap v3 cIN) (zV3 : Fld Z Z.heap v3 cIN "value" "I" (.int (3 : Int32))) (zE4 : Exa Z Z.heap v4 cIN) (zV4 : Fld Z Z.heap v4 cIN "value" "I" (.int (4 : Int32))) (zE5 : Exa Z Z.heap v5 cIN) (zV5 : Fld Z Z.heap v5 cIN "value" "I" (.int (5 : Int32))) (hA : Arr Z Z.heap ca cl (.object cIN)) (hin1 : ¬ (((1 : Int32) + (128 : Int32)) < 0 ∨ cl.slots.size ≤ ((1 : Int32) + (128 : Int32)).toNatClampNeg)) (hat1 : cl.slots[((1 : Int32) + (128 : Int32)).toNatClampNeg]? = some (.ref v1)) (hin2 : ¬ (((2 : Int32) + (128 : Int32)) < 0 ∨ cl.slots.size ≤ ((2 : Int32) + (128 : Int32)).toNatClampNeg)) (hat2 : cl.slots[((2 : Int32) + (128 : Int32)).toNatClampNeg]? = some (.ref v2)) (hin3 : ¬ (((3 : Int32) + (128 : Int32)) < 0 ∨ cl.slots.size ≤ ((3 : Int32) + (128 : Int32)).toNatClampNeg)) (hat3 : cl.slots[((3 : Int32) + (128 : Int32)).toNatClampNeg]? = some (.ref v3)) (hin4 : ¬ (((4 : Int32) + (128 : Int32)) < 0 ∨ cl.slots.size ≤ ((4 : Int32) + (128 : Int32)).toNatClampNeg)) (hat4 : cl.slots[((4 : Int32) + (128 : Int32)).toNatClampNeg]? = some (.ref v4)) (hin5 : ¬ (((5 : Int32) + (128 : Int32)) < 0 ∨ cl.slots.size ≤ ((5 : Int32) + (128 : Int32)).toNatClampNeg)) (hat5 : cl.slots[((5 : Int32) + (128 : Int32)).toNatClampNeg]? = some (.ref v5)) {p : Program} {e : Env} {s : State} {m : MethodId} {below : List Frame} {meth : Method} {c : Code} (hx : p.tables.exec = Jvm.exec) (hby : c.code = code) (hlk : meth.locks = false) (hml : c.maxLocals = 26) (hown : s.vm.findClass cLAW = some m.cls) (hZ : Z.Warmed39 s.vm) (hret : meth.sig.returnType = ret) :
    ∀ (T1551 : State) (L1551 : List Loc) (h1551 : Heap) (ov : Int32) (b1 : Int32) (b2 : Int32) (b3 : Int32) (xx : Int32) (dd : Int32) (yy : Int32) (b525 : Addr) (b534 : Addr), Stand p l e room_1 s m #[(.int p0), (.int p1), (.int p2), (.int p3), (.int p4)] below meth c T1551 L1551 2 6 → T1551.heap = h1551 → Fr n0 L1551 → n0 ≤ h1551.size → Keep h0 h1551 [] → Old Z n0 h1551 → Exa Z h1551 b525 cFI → Fld Z h1551 b525 cFI "part" "Ljava/util/List;" (.ref b534) → Fld Z h1551 b525 cFI "overhead" "I" (.int ov) → Fld Z h1551 b525 cFI "partBytes" "J" (.long (ov.toInt64)) → Exa Z h1551 b534 cAL → Fld Z h1551 b534 cAB "modCount" "I" (.int (0 : Int32)) → Fld Z h1551 b534 cAL "elementData" cOA (.ref de) → Fld Z h1551 b534 cAL "size" "I" (.int (0 : Int32)) → b525 ≠ b534 → n0 ≤ b525 → n0 ≤ b534 → h0.size ≤ b525 → h0.size ≤ b534 → (p0 &&& (524287 : Int32)) = ov → (p2 &&& (131071 : Int32)) = b1 → (((p2.toUInt32 >>> ((15 : Int32) &&& 31).toUInt32).toInt32) &&& (131071 : Int32)) = b2 → (((p1.toUInt32 >>> ((2 : Int32) &&& 31).toUInt32).toInt32) &&& (131071 : Int32)) = b3 → (p3 &&& (524287 : Int32)) = xx → ((p4 &&& (3 : Int32)) - (1 : Int32)) = dd → (((((1048576 : Int32) - ov) - xx) - (1 : Int32)) + dd) = yy → Go p e below (T1551.setTop (mkF m 107 #[vi p0, vi p1, vi p2, vi p3, vi p4, vi ov, vi (3 : Int32), vi b1, vi b2, vi b3, vi xx, vi dd, vi yy, vr v1, vr v2, vr v3, vr v4, vr v5, vr b525, vi (1 : Int32), .unset, .unset, .unset, .unset, .unset, .unset] [])) (Done s (Q_rm0 Z p0 p1 p2 p3 p4 de el ea ca cl v1 v2 v3 v4 v5 h0 n0) room_1.cells room_1.slots) := by
  intro T1551 L1551 h1551 ov b1 b2 b3 xx dd yy b525 b534 X1551 e1551 N1551 z1551 k1551 lf0_1551 lf1_1551 lf2_1551 lf3_1551 lf4_1551 lf5_1551 lf6_1551 lf7_1551 lf8_1551 lf9_1551 lf10_1551 lf11_1551 lf12_1551 lf13_1551 hv_ov hv_b1 hv_b2 hv_b3 hv_xx hv_dd hv_yy
  show Go p e below (T1551.setTop (mkF m 107 #[vi p0, vi p1, vi p2, vi p3, vi p4, vi ov, vi (3 : Int32), vi b1, vi b2, vi b3, vi xx, vi dd, vi yy, vr v1, vr v2, vr v3, vr v4, vr v5, vr b525, vi (1 : Int32), .unset, .unset, .unset, .unset, .unset, .unset] [])) _
  refine Go.via (fun _ => XS.iload X1551.here hx rfl (hb hby at_107) rfl) ?_
  refine Go.via (fun _ => XS.iconst X1551.here hx rfl (hb hby at_109)) ?_
  refine Go.via (fun _ => XS.icmpNo X1551.here hx rfl (hb hby at_110) rfl (flt ((by decide) : ¬ ((3 : Int32) < (1 : Int32)))).1) ?_
  refine Go.via (fun _ => XS.iload X1551.here hx rfl (hb hby at_113) rfl) ?_
  show Go p e below (T1551.setTop (mkF m 115 #[vi p0, vi p1, vi p2, vi p3, vi p4, vi ov, vi (3 : Int32), vi b1, vi b2, vi b3, vi xx, vi dd, vi yy, vr v1, vr v2, vr v3, vr v4, vr v5, vr b525, vi (1 : Int32), .unset, .unset, .unset, .unset, .unset, .unset] [(.int (1 : Int32))])) _
  refine Go.via (fun _ => XS.ifNo X1551.here hx rfl (hb hby at_115) rfl ((if0 _ _).trans (feq ((by decide) : ¬ ((1 : Int32) = (0 : Int32)))).1)) ?_
  refine Go.via (fun _ => XS.aload X1551.here hx rfl (hb hby at_118) rfl rfl) ?_
  refine Go.via (fun _ => XS.aload X1551.here hx rfl (hb hby at_120) rfl rfl) ?_
  refine Go.via (fun _ => XS.iload X1551.here hx rfl (hb hby at_122) rfl) ?_
  have f1552 : Exa Z h1551 v1 cIN := zE1.ext lf0_1551.2
  obtain ⟨cq1553, kq1553, q1553a, q1553b, q1553c⟩ := isOf hZ e1551 lf1_1551
  obtain ⟨r1553, _, ⟨T1553, L1553, k1553, n1553⟩, -, X1553, ⟨Lc1553, hQ1553, l1553, y1553, z1553⟩, st1553⟩ := X1551.virtualBack hx (y := (⟨cFI, "add", "(Ljava/lang/Object;I)Ljava/util/List;"⟩ : MethodName)) (z := (⟨cFI, "add", "(Ljava/lang/Object;I)Ljava/util/List;"⟩ : MethodName)) hown (mvT hZ (tw hw 49 rfl)) (mvT hZ (tw hw 50 rfl)) (notFace_of_selects (args := #[]) (mvT hZ (tw hw 52 rfl))) (mvT hZ (tw hw 52 rfl)) (mvT hZ (tw hw 51 rfl)) (by decide) (backOf (W := 0) (rmFa0 l Z a0 hw [] b525 v1 b1 b534 ov (ov.toInt64) de (0 : Int32) el h1551 n0 z1551 lf1_1551 lf2_1551 lf3_1551 lf4_1551 lf5_1551 lf6_1551 lf7_1551 lf8_1551 f1552 lf0_1551 zD zN zL lf10_1551 lf11_1551 lf9_1551) hZ (tw hw 53 rfl) (tw hw 12 rfl) (by decide) (by decide)) q1553a q1553c (g := (mkF m 124 #[vi p0, vi p1, vi p2, vi p3, vi p4, vi ov, vi (3 : Int32), vi b1, vi b2, vi b3, vi xx, vi dd, vi yy, vr v1, vr v2, vr v3, vr v4, vr v5, vr b525, vi (1 : Int32), .unset, .unset, .unset, .unset, .unset, .unset] [(.int b1), (.ref v1), (.ref b525)])) rfl (by rw [hml]; rfl) (Steps.refl _) (argsL := [(.ref v1), (.int b1)]) (rest := []) (lenOf pd__28Ljava_2flang_2fObject_3bI_29Ljava_2futil_2fList_3b rfl) rfl (by show 2 * 0 + _ ≤ _; exact Nat.le_of_eq rfl) (hb hby at_124) (fun _ _ => ⟨rfl, e1551, (by decide : 2 + 1 ≤ _), (by decide : 6 + 10 ≤ _)⟩)
  dsimp only [Pt.U, Pt.locs, Pt.cells, Pt.slots] at X1553 l1553 y1553 z1553 st1553 hQ1553
  rw [l1553, y1553, z1553] at X1553
  clear l1553 y1553 z1553
  obtain ⟨b1554, hr1553, N1553q, K1553q, fz_b1554, f1555, f1556, f1557, f1558, f1559, f1560, f1561, f1562, f1563⟩ := hQ1553
  rw [hr1553] at st1553
  clear hr1553
  have N1553 := Fr.app N1551 N1553q
  refine Go.via (fun _ kQ => st1553.trans kQ) ?_
  clear st1553
  have ne1564 : b525 ≠ b1554 := Nat.ne_of_lt (Nat.lt_of_lt_of_le lf1_1551.lt fz_b1554)
  have ne1565 : b534 ≠ b1554 := Nat.ne_of_lt (Nat.lt_of_lt_of_le lf5_1551.lt fz_b1554)
  have ge1566 : n0 ≤ b1554 := Nat.le_trans z1551 fz_b1554
  have sz1567 : h0.size ≤ b1554 := Nat.le_trans k1551.1 fz_b1554
  have e1553 : T1553.heap = T1553.heap := rfl
  have f1568 : Exa Z T1553.heap b525 cFI := f1555
  have f1569 : Fld Z T1553.heap b525 cFI "part" "Ljava/util/List;" (.ref b534) := f1556
  have f1570 : Fld Z T1553.heap b525 cFI "overhead" "I" (.int ov) := f1557
  have f1571 : Fld Z T1553.heap b525 cFI "partBytes" "J" (.long ((ov.toInt64) + (b1.toInt64))) := f1558
  have f1572 : Exa Z T1553.heap b534 cAL := f1559
  have f1573 : Fld Z T1553.heap b534 cAB "modCount" "I" (.int ((0 : Int32) + (1 : Int32))) := f1560
  have f1574 : Fld Z T1553.heap b534 cAL "elementData" cOA (.ref b1554) := f1561
  have f1575 : Fld Z T1553.heap b534 cAL "size" "I" (.int (1 : Int32)) := f1562
  have f1576 : Ra Z T1553.heap b1554 cOB [(.ref v1), .null, .null, .null, .null, .null, .null, .null, .null, .null] := f1563
  clear X1551 e1551
  show Go p e below (T1553.setTop (mkF m 127 #[vi p0, vi p1, vi p2, vi p3, vi p4, vi ov, vi (3 : Int32), vi b1, vi b2, vi b3, vi xx, vi dd, vi yy, vr v1, vr v2, vr v3, vr v4, vr v5, vr b525, vi (1 : Int32), .unset, .unset, .unset, .unset, .unset, .unset] [(.ref el)])) _
  have o1577 : Old Z n0 T1553.heap := (lf0_1551.keep K1553q (allS lf10_1551 (allS lf11_1551 all0)))
  have f1578 : Fld Z T1553.heap el cLN "elements" cOA (.ref ea) := zLF.ext o1577.2
  have f1579 : Rn Z T1553.heap ea (0 : Int32) := zLN.ext o1577.2
  have z1581 : n0 ≤ T1553.heap.size := (Nat.le_trans z1551 K1553q.1)
  have f1582 : Exa Z T1553.heap el cLN := zLE.ext o1577.2
  obtain ⟨cq1580, kq1580, q1580a, q1580b, q1580c⟩ := isOf hZ e1553 f1582
  obtain ⟨r1580, _, ⟨T1580, L1580, k1580, n1580⟩, -, X1580, ⟨Lc1580, hQ1580, l1580, y1580, z1580⟩, st1580⟩ := X1553.interfaceBack hx (xi := (⟨cLI, "size", "()I"⟩ : MethodName)) (y := (⟨cLN, "size", "()I"⟩ : MethodName)) hown (mvT hZ (tw hw 103 rfl)) (mvT hZ (tw hw 104 rfl)) (mvT hZ (tw hw 105 rfl)) (mvT hZ (tw hw 106 rfl)) (mvT hZ (tw hw 107 rfl)) (mvT hZ (tw hw 108 rfl)) (mvT hZ (tw hw 109 rfl)) (mvT hZ (tw hw 110 rfl)) (by decide) (backOf (W := 0) (rmNs l Z a0 hw [] el ea T1553.heap n0 z1581 f1578 f1579) hZ (tw hw 112 rfl) (tw hw 111 rfl) (by decide) (by decide)) q1580a q1580b q1580c (g := (mkF m 127 #[vi p0, vi p1, vi p2, vi p3, vi p4, vi ov, vi (3 : Int32), vi b1, vi b2, vi b3, vi xx, vi dd, vi yy, vr v1, vr v2, vr v3, vr v4, vr v5, vr b525, vi (1 : Int32), .unset, .unset, .unset, .unset, .unset, .unset] [(.ref el)])) rfl (by rw [hml]; rfl) (Steps.refl _) (argsL := []) (rest := []) (lenOf pd__28_29I rfl) rfl (by show 2 * 0 + _ ≤ _; exact Nat.le_of_eq rfl) (hb hby at_127) (fun _ _ => ⟨rfl, e1553, (by decide : 3 + 0 ≤ _), (by decide : 16 + 0 ≤ _)⟩)
  dsimp only [Pt.U, Pt.locs, Pt.cells, Pt.slots] at X1580 l1580 y1580 z1580 st1580 hQ1580
  rw [l1580, y1580, z1580] at X1580
  clear l1580 y1580 z1580
  obtain ⟨hr1580, N1580q, eh1580⟩ := hQ1580
  rw [hr1580] at st1580
  clear hr1580
  have N1580 := Fr.app N1553 N1580q
  refine Go.via (fun _ kQ => st1580.trans kQ) ?_
  clear st1580
  have e1580 : T1580.heap = T1553.heap := eh1580
  clear X1553 e1553
  show Go p e below (T1580.setTop (mkF m 132 #[vi p0, vi p1, vi p2, vi p3, vi p4, vi ov, vi (3 : Int32), vi b1, vi b2, vi b3, vi xx, vi dd, vi yy, vr v1, vr v2, vr v3, vr v4, vr v5, vr b525, vi (1 : Int32), .unset, .unset, .unset, .unset, .unset, .unset] [(.int (0 : Int32))])) _
  refine Go.via (fun _ => XS.ifNo X1580.here hx rfl (hb hby at_132) rfl ((if0 _ _).trans (teq ((by decide) : (0 : Int32) = (0 : Int32))).2)) ?_
  refine Go.via (fun _ => XS.iconst X1580.here hx rfl (hb hby at_135)) ?_
  refine Go.via (fun _ => XS.goto X1580.here hx rfl (pc0 := 136) (pc' := 140) rfl (hb hby at_136) (by decide) (by decide)) ?_
  refine Go.via (fun _ => XS.istore X1580.here hx rfl (hb hby at_140) rfl (l' := #[vi p0, vi p1, vi p2, vi p3, vi p4, vi ov, vi (3 : Int32), vi b1, vi b2, vi b3, vi xx, vi dd, vi yy, vr v1, vr v2, vr v3, vr v4, vr v5, vr b525, vi (1 : Int32), .unset, .unset, .unset, .unset, .unset, .unset]) rfl) ?_
  refine Go.via (fun _ => XS.iload X1580.here hx rfl (hb hby at_142) rfl) ?_
  refine Go.via (fun _ => XS.iconst X1580.here hx rfl (hb hby at_144)) ?_
  refine Go.via (fun _ => XS.icmpNo X1580.here hx rfl (hb hby at_145) rfl (flt ((by decide) : ¬ ((3 : Int32) < (2 : Int32)))).1) ?_
  show Go p e below (T1580.setTop (mkF m 148 #[vi p0, vi p1, vi p2, vi p3, vi p4, vi ov, vi (3 : Int32), vi b1, vi b2, vi b3, vi xx, vi dd, vi yy, vr v1, vr v2, vr v3, vr v4, vr v5, vr b525, vi (1 : Int32), .unset, .unset, .unset, .unset, .unset, .unset] [])) _
  refine Go.via (fun _ => XS.iload X1580.here hx rfl (hb hby at_148) rfl) ?_
  refine Go.via (fun _ => XS.ifNo X1580.here hx rfl (hb hby at_150) rfl ((if0 _ _).trans (feq ((by decide) : ¬ ((1 : Int32) = (0 : Int32)))).1)) ?_
  refine Go.via (fun _ => XS.aload X1580.here hx rfl (hb hby at_153) rfl rfl) ?_
  refine Go.via (fun _ => XS.aload X1580.here hx rfl (hb hby at_155) rfl rfl) ?_
  refine Go.via (fun _ => XS.iload X1580.here hx rfl (hb hby at_157) rfl) ?_
  have f1583 : Exa Z T1553.heap v2 cIN := zE2.ext o1577.2
  obtain ⟨cq1584, kq1584, q1584a, q1584b, q1584c⟩ := isOf hZ e1580 f1568
  obtain ⟨r1584, _, ⟨T1584, L1584, k1584, n1584⟩, -, X1584, ⟨Lc1584, hQ1584, l1584, y1584, z1584⟩, st1584⟩ := X1580.virtualBack hx (y := (⟨cFI, "add", "(Ljava/lang/Object;I)Ljava/util/List;"⟩ : MethodName)) (z := (⟨cFI, "add", "(Ljava/lang/Object;I)Ljava/util/List;"⟩ : MethodName)) hown (mvT hZ (tw hw 49 rfl)) (mvT hZ (tw hw 50 rfl)) (notFace_of_selects (args := #[]) (mvT hZ (tw hw 52 rfl))) (mvT hZ (tw hw 52 rfl)) (mvT hZ (tw hw 51 rfl)) (by decide) (backOf (W := 0) (rmFa1 l Z a0 hw [] b525 v2 b2 b534 ov ((ov.toInt64) + (b1.toInt64)) b1554 ((0 : Int32) + (1 : Int32)) el v1 T1553.heap n0 z1581 f1568 f1569 f1570 f1571 f1572 f1573 f1574 f1575 f1576 f1583 o1577 zL lf10_1551 lf11_1551 ge1566 lf9_1551 ne1564 ne1565 (own_a1 hv_ov hv_b1 hv_b2)) hZ (tw hw 53 rfl) (tw hw 12 rfl) (by decide) (by decide)) q1584a q1584c (g := (mkF m 159 #[vi p0, vi p1, vi p2, vi p3, vi p4, vi ov, vi (3 : Int32), vi b1, vi b2, vi b3, vi xx, vi dd, vi yy, vr v1, vr v2, vr v3, vr v4, vr v5, vr b525, vi (1 : Int32), .unset, .unset, .unset, .unset, .unset, .unset] [(.int b2), (.ref v2), (.ref b525)])) rfl (by rw [hml]; rfl) (Steps.refl _) (argsL := [(.ref v2), (.int b2)]) (rest := []) (lenOf pd__28Ljava_2flang_2fObject_3bI_29Ljava_2futil_2fList_3b rfl) rfl (by show 2 * 0 + _ ≤ _; exact Nat.le_of_eq rfl) (hb hby at_159) (fun _ _ => ⟨rfl, e1580, (by decide : 3 + 0 ≤ _), (by decide : 16 + 0 ≤ _)⟩)
  dsimp only [Pt.U, Pt.locs, Pt.cells, Pt.slots] at X1584 l1584 y1584 z1584 st1584 hQ1584
  rw [l1584, y1584, z1584] at X1584
  clear l1584 y1584 z1584
  obtain ⟨hr1584, N1584q, K1584q, f1585, f1586, f1587, f1588, f1589, f1590, f1591, f1592, f1593⟩ := hQ1584
  rw [hr1584] at st1584
  clear hr1584
  have N1584 := Fr.app N1580 N1584q
  refine Go.via (fun _ kQ => st1584.trans kQ) ?_
  clear st1584
  have e1584 : T1584.heap = T1584.heap := rfl
  have f1594 : Exa Z T1584.heap b525 cFI := f1585
  have f1595 : Fld Z T1584.heap b525 cFI "part" "Ljava/util/List;" (.ref b534) := f1586
  have f1596 : Fld Z T1584.heap b525 cFI "overhead" "I" (.int ov) := f1587
  have f1597 : Fld Z T1584.heap b525 cFI "partBytes" "J" (.long (((ov.toInt64) + (b1.toInt64)) + (((1 : Int32) + b2).toInt64))) := f1588
  have f1598 : Exa Z T1584.heap b534 cAL := f1589
  have f1599 : Fld Z T1584.heap b534 cAB "modCount" "I" (.int (((0 : Int32) + (1 : Int32)) + (1 : Int32))) := f1590
  have f1600 : Fld Z T1584.heap b534 cAL "elementData" cOA (.ref b1554) := f1591
  have f1601 : Fld Z T1584.heap b534 cAL "size" "I" (.int (2 : Int32)) := f1592
  have f1602 : Ra Z T1584.heap b1554 cOB [(.ref v1), (.ref v2), .null, .null, .null, .null, .null, .null, .null, .null] := f1593
  clear X1580 e1580
  show Go p e below (T1584.setTop (mkF m 162 #[vi p0, vi p1, vi p2, vi p3, vi p4, vi ov, vi (3 : Int32), vi b1, vi b2, vi b3, vi xx, vi dd, vi yy, vr v1, vr v2, vr v3, vr v4, vr v5, vr b525, vi (1 : Int32), .unset, .unset, .unset, .unset, .unset, .unset] [(.ref el)])) _
  have o1603 : Old Z n0 T1584.heap := (o1577.keep K1584q (allS lf10_1551 (allS lf11_1551 (allS ge1566 all0))))
  have f1604 : Fld Z T1584.heap el cLN "elements" cOA (.ref ea) := zLF.ext o1603.2
  have f1605 : Rn Z T1584.heap ea (0 : Int32) := zLN.ext o1603.2
  have z1607 : n0 ≤ T1584.heap.size := (Nat.le_trans z1581 K1584q.1)
  have f1608 : Exa Z T1584.heap el cLN := zLE.ext o1603.2
  obtain ⟨cq1606, kq1606, q1606a, q1606b, q1606c⟩ := isOf hZ e1584 f1608
  obtain ⟨r1606, _, ⟨T1606, L1606, k1606, n1606⟩, -, X1606, ⟨Lc1606, hQ1606, l1606, y1606, z1606⟩, st1606⟩ := X1584.interfaceBack hx (xi := (⟨cLI, "size", "()I"⟩ : MethodName)) (y := (⟨cLN, "size", "()I"⟩ : MethodName)) hown (mvT hZ (tw hw 103 rfl)) (mvT hZ (tw hw 104 rfl)) (mvT hZ (tw hw 105 rfl)) (mvT hZ (tw hw 106 rfl)) (mvT hZ (tw hw 107 rfl)) (mvT hZ (tw hw 108 rfl)) (mvT hZ (tw hw 109 rfl)) (mvT hZ (tw hw 110 rfl)) (by decide) (backOf (W := 0) (rmNs l Z a0 hw [] el ea T1584.heap n0 z1607 f1604 f1605) hZ (tw hw 112 rfl) (tw hw 111 rfl) (by decide) (by decide)) q1606a q1606b q1606c (g := (mkF m 162 #[vi p0, vi p1, vi p2, vi p3, vi p4, vi ov, vi (3 : Int32), vi b1, vi b2, vi b3, vi xx, vi dd, vi yy, vr v1, vr v2, vr v3, vr v4, vr v5, vr b525, vi (1 : Int32), .unset, .unset, .unset, .unset, .unset, .unset] [(.ref el)])) rfl (by rw [hml]; rfl) (Steps.refl _) (argsL := []) (rest := []) (lenOf pd__28_29I rfl) rfl (by show 2 * 0 + _ ≤ _; exact Nat.le_of_eq rfl) (hb hby at_162) (fun _ _ => ⟨rfl, e1584, (by decide : 3 + 0 ≤ _), (by decide : 16 + 0 ≤ _)⟩)
  dsimp only [Pt.U, Pt.locs, Pt.cells, Pt.slots] at X1606 l1606 y1606 z1606 st1606 hQ1606
  rw [l1606, y1606, z1606] at X1606
  clear l1606 y1606 z1606
  obtain ⟨hr1606, N1606q, eh1606⟩ := hQ1606
  rw [hr1606] at st1606
  clear hr1606
  have N1606 := Fr.app N1584 N1606q
  refine Go.via (fun _ kQ => st1606.trans kQ) ?_
  clear st1606
  have e1606 : T1606.heap = T1584.heap := eh1606
  clear X1584 e1584
  show Go p e below (T1606.setTop (mkF m 167 #[vi p0, vi p1, vi p2, vi p3, vi p4, vi ov, vi (3 : Int32), vi b1, vi b2, vi b3, vi xx, vi dd, vi yy, vr v1, vr v2, vr v3, vr v4, vr v5, vr b525, vi (1 : Int32), .unset, .unset, .unset, .unset, .unset, .unset] [(.int (0 : Int32))])) _
  refine Go.via (fun _ => XS.ifNo X1606.here hx rfl (hb hby at_167) rfl ((if0 _ _).trans (teq ((by decide) : (0 : Int32) = (0 : Int32))).2)) ?_
  refine Go.via (fun _ => XS.iconst X1606.here hx rfl (hb hby at_170)) ?_
  refine Go.via (fun _ => XS.goto X1606.here hx rfl (pc0 := 171) (pc' := 175) rfl (hb hby at_171) (by decide) (by decide)) ?_
  refine Go.via (fun _ => XS.istore X1606.here hx rfl (hb hby at_175) rfl (l' := #[vi p0, vi p1, vi p2, vi p3, vi p4, vi ov, vi (3 : Int32), vi b1, vi b2, vi b3, vi xx, vi dd, vi yy, vr v1, vr v2, vr v3, vr v4, vr v5, vr b525, vi (1 : Int32), .unset, .unset, .unset, .unset, .unset, .unset]) rfl) ?_
  refine Go.via (fun _ => XS.iload X1606.here hx rfl (hb hby at_177) rfl) ?_
  refine Go.via (fun _ => XS.iconst X1606.here hx rfl (hb hby at_179)) ?_
  refine Go.via (fun _ => XS.icmpNo X1606.here hx rfl (hb hby at_180) rfl (flt ((by decide) : ¬ ((3 : Int32) < (3 : Int32)))).1) ?_
  show Go p e below (T1606.setTop (mkF m 183 #[vi p0, vi p1, vi p2, vi p3, vi p4, vi ov, vi (3 : Int32), vi b1, vi b2, vi b3, vi xx, vi dd, vi yy, vr v1, vr v2, vr v3, vr v4, vr v5, vr b525, vi (1 : Int32), .unset, .unset, .unset, .unset, .unset, .unset] [])) _
  refine Go.via (fun _ => XS.iload X1606.here hx rfl (hb hby at_183) rfl) ?_
  refine Go.via (fun _ => XS.ifNo X1606.here hx rfl (hb hby at_185) rfl ((if0 _ _).trans (feq ((by decide) : ¬ ((1 : Int32) = (0 : Int32)))).1)) ?_
  refine Go.via (fun _ => XS.aload X1606.here hx rfl (hb hby at_188) rfl rfl) ?_
  refine Go.via (fun _ => XS.aload X1606.here hx rfl (hb hby at_190) rfl rfl) ?_
  refine Go.via (fun _ => XS.iload X1606.here hx rfl (hb hby at_192) rfl) ?_
  have f1609 : Exa Z T1584.heap v3 cIN := zE3.ext o1603.2
  obtain ⟨cq1610, kq1610, q1610a, q1610b, q1610c⟩ := isOf hZ e1606 f1594
  obtain ⟨r1610, _, ⟨T1610, L1610, k1610, n1610⟩, -, X1610, ⟨Lc1610, hQ1610, l1610, y1610, z1610⟩, st1610⟩ := X1606.virtualBack hx (y := (⟨cFI, "add", "(Ljava/lang/Object;I)Ljava/util/List;"⟩ : MethodName)) (z := (⟨cFI, "add", "(Ljava/lang/Object;I)Ljava/util/List;"⟩ : MethodName)) hown (mvT hZ (tw hw 49 rfl)) (mvT hZ (tw hw 50 rfl)) (notFace_of_selects (args := #[]) (mvT hZ (tw hw 52 rfl))) (mvT hZ (tw hw 52 rfl)) (mvT hZ (tw hw 51 rfl)) (by decide) (backOf (W := 0) (rmFa2 l Z a0 hw [] b525 v3 b3 b534 ov (((ov.toInt64) + (b1.toInt64)) + (((1 : Int32) + b2).toInt64)) b1554 (((0 : Int32) + (1 : Int32)) + (1 : Int32)) el v1 v2 T1584.heap n0 z1607 f1594 f1595 f1596 f1597 f1598 f1599 f1600 f1601 f1602 f1609 o1603 zL lf10_1551 lf11_1551 ge1566 lf9_1551 ne1564 ne1565 (own_a2 hv_ov hv_b1 hv_b2 hv_b3)) hZ (tw hw 53 rfl) (tw hw 12 rfl) (by decide) (by decide)) q1610a q1610c (g := (mkF m 194 #[vi p0, vi p1, vi p2, vi p3, vi p4, vi ov, vi (3 : Int32), vi b1, vi b2, vi b3, vi xx, vi dd, vi yy, vr v1, vr v2, vr v3, vr v4, vr v5, vr b525, vi (1 : Int32), .unset, .unset, .unset, .unset, .unset, .unset] [(.int b3), (.ref v3), (.ref b525)])) rfl (by rw [hml]; rfl) (Steps.refl _) (argsL := [(.ref v3), (.int b3)]) (rest := []) (lenOf pd__28Ljava_2flang_2fObject_3bI_29Ljava_2futil_2fList_3b rfl) rfl (by show 2 * 0 + _ ≤ _; exact Nat.le_of_eq rfl) (hb hby at_194) (fun _ _ => ⟨rfl, e1606, (by decide : 3 + 0 ≤ _), (by decide : 16 + 0 ≤ _)⟩)
  dsimp only [Pt.U, Pt.locs, Pt.cells, Pt.slots] at X1610 l1610 y1610 z1610 st1610 hQ1610
  rw [l1610, y1610, z1610] at X1610
  clear l1610 y1610 z1610
  obtain ⟨hr1610, N1610q, K1610q, f1611, f1612, f1613, f1614, f1615, f1616, f1617, f1618, f1619⟩ := hQ1610
  rw [hr1610] at st1610
  clear hr1610
  have N1610 := Fr.app N1606 N1610q
  refine Go.via (fun _ kQ => st1610.trans kQ) ?_
  clear st1610
  have e1610 : T1610.heap = T1610.heap := rfl
  have f1620 : Exa Z T1610.heap b525 cFI := f1611
  have f1621 : Fld Z T1610.heap b525 cFI "part" "Ljava/util/List;" (.ref b534) := f1612
  have f1622 : Fld Z T1610.heap b525 cFI "overhead" "I" (.int ov) := f1613
  have f1623 : Fld Z T1610.heap b525 cFI "partBytes" "J" (.long ((((ov.toInt64) + (b1.toInt64)) + (((1 : Int32) + b2).toInt64)) + (((1 : Int32) + b3).toInt64))) := f1614
  have f1624 : Exa Z T1610.heap b534 cAL := f1615
  have f1625 : Fld Z T1610.heap b534 cAB "modCount" "I" (.int ((((0 : Int32) + (1 : Int32)) + (1 : Int32)) + (1 : Int32))) := f1616
  have f1626 : Fld Z T1610.heap b534 cAL "elementData" cOA (.ref b1554) := f1617
  have f1627 : Fld Z T1610.heap b534 cAL "size" "I" (.int (3 : Int32)) := f1618
  have f1628 : Ra Z T1610.heap b1554 cOB [(.ref v1), (.ref v2), (.ref v3), .null, .null, .null, .null, .null, .null, .null] := f1619
  clear X1606 e1606
  show Go p e below (T1610.setTop (mkF m 197 #[vi p0, vi p1, vi p2, vi p3, vi p4, vi ov, vi (3 : Int32), vi b1, vi b2, vi b3, vi xx, vi dd, vi yy, vr v1, vr v2, vr v3, vr v4, vr v5, vr b525, vi (1 : Int32), .unset, .unset, .unset, .unset, .unset, .unset] [(.ref el)])) _
  have o1629 : Old Z n0 T1610.heap := (o1603.keep K1610q (allS lf10_1551 (allS lf11_1551 (allS ge1566 all0))))
  have f1630 : Fld Z T1610.heap el cLN "elements" cOA (.ref ea) := zLF.ext o1629.2
  have f1631 : Rn Z T1610.heap ea (0 : Int32) := zLN.ext o1629.2
  have z1633 : n0 ≤ T1610.heap.size := (Nat.le_trans z1607 K1610q.1)
  have f1634 : Exa Z T1610.heap el cLN := zLE.ext o1629.2
  obtain ⟨cq1632, kq1632, q1632a, q1632b, q1632c⟩ := isOf hZ e1610 f1634
  obtain ⟨r1632, _, ⟨T1632, L1632, k1632, n1632⟩, -, X1632, ⟨Lc1632, hQ1632, l1632, y1632, z1632⟩, st1632⟩ := X1610.interfaceBack hx (xi := (⟨cLI, "size", "()I"⟩ : MethodName)) (y := (⟨cLN, "size", "()I"⟩ : MethodName)) hown (mvT hZ (tw hw 103 rfl)) (mvT hZ (tw hw 104 rfl)) (mvT hZ (tw hw 105 rfl)) (mvT hZ (tw hw 106 rfl)) (mvT hZ (tw hw 107 rfl)) (mvT hZ (tw hw 108 rfl)) (mvT hZ (tw hw 109 rfl)) (mvT hZ (tw hw 110 rfl)) (by decide) (backOf (W := 0) (rmNs l Z a0 hw [] el ea T1610.heap n0 z1633 f1630 f1631) hZ (tw hw 112 rfl) (tw hw 111 rfl) (by decide) (by decide)) q1632a q1632b q1632c (g := (mkF m 197 #[vi p0, vi p1, vi p2, vi p3, vi p4, vi ov, vi (3 : Int32), vi b1, vi b2, vi b3, vi xx, vi dd, vi yy, vr v1, vr v2, vr v3, vr v4, vr v5, vr b525, vi (1 : Int32), .unset, .unset, .unset, .unset, .unset, .unset] [(.ref el)])) rfl (by rw [hml]; rfl) (Steps.refl _) (argsL := []) (rest := []) (lenOf pd__28_29I rfl) rfl (by show 2 * 0 + _ ≤ _; exact Nat.le_of_eq rfl) (hb hby at_197) (fun _ _ => ⟨rfl, e1610, (by decide : 3 + 0 ≤ _), (by decide : 16 + 0 ≤ _)⟩)
  dsimp only [Pt.U, Pt.locs, Pt.cells, Pt.slots] at X1632 l1632 y1632 z1632 st1632 hQ1632
  rw [l1632, y1632, z1632] at X1632
  clear l1632 y1632 z1632
  obtain ⟨hr1632, N1632q, eh1632⟩ := hQ1632
  rw [hr1632] at st1632
  clear hr1632
  have N1632 := Fr.app N1610 N1632q
  refine Go.via (fun _ kQ => st1632.trans kQ) ?_
  clear st1632
  have e1632 : T1632.heap = T1610.heap := eh1632
  clear X1610 e1610
  show Go p e below (T1632.setTop (mkF m 202 #[vi p0, vi p1, vi p2, vi p3, vi p4, vi ov, vi (3 : Int32), vi b1, vi b2, vi b3, vi xx, vi dd, vi yy, vr v1, vr v2, vr v3, vr v4, vr v5, vr b525, vi (1 : Int32), .unset, .unset, .unset, .unset, .unset, .unset] [(.int (0 : Int32))])) _
  refine Go.via (fun _ => XS.ifNo X1632.here hx rfl (hb hby at_202) rfl ((if0 _ _).trans (teq ((by decide) : (0 : Int32) = (0 : Int32))).2)) ?_
  refine Go.via (fun _ => XS.iconst X1632.here hx rfl (hb hby at_205)) ?_
  refine Go.via (fun _ => XS.goto X1632.here hx rfl (pc0 := 206) (pc' := 210) rfl (hb hby at_206) (by decide) (by decide)) ?_
  refine Go.via (fun _ => XS.istore X1632.here hx rfl (hb hby at_210) rfl (l' := #[vi p0, vi p1, vi p2, vi p3, vi p4, vi ov, vi (3 : Int32), vi b1, vi b2, vi b3, vi xx, vi dd, vi yy, vr v1, vr v2, vr v3, vr v4, vr v5, vr b525, vi (1 : Int32), .unset, .unset, .unset, .unset, .unset, .unset]) rfl) ?_
  refine Go.via (fun _ => XS.aload X1632.here hx rfl (hb hby at_212) rfl rfl) ?_
  obtain ⟨cq1635, kq1635, q1635a, q1635b, q1635c⟩ := isOf hZ e1632 f1620
  obtain ⟨r1635, _, ⟨T1635, L1635, k1635, n1635⟩, -, X1635, ⟨Lc1635, hQ1635, l1635, y1635, z1635⟩, st1635⟩ := X1632.virtualBack hx (y := (⟨cFI, "last", "()Ljava/util/List;"⟩ : MethodName)) (z := (⟨cFI, "last", "()Ljava/util/List;"⟩ : MethodName)) hown (mvT hZ (tw hw 116 rfl)) (mvT hZ (tw hw 117 rfl)) (notFace_of_selects (args := #[]) (mvT hZ (tw hw 119 rfl))) (mvT hZ (tw hw 119 rfl)) (mvT hZ (tw hw 118 rfl)) (by decide) (backOf (W := 0) (rmLa l Z a0 hw [] b525 b534 ov ((((ov.toInt64) + (b1.toInt64)) + (((1 : Int32) + b2).toInt64)) + (((1 : Int32) + b3).toInt64)) de T1610.heap n0 z1633 f1620 f1621 f1622 f1623 o1629 zD lf10_1551) hZ (tw hw 120 rfl) (tw hw 12 rfl) (by decide) (by decide)) q1635a q1635c (g := (mkF m 214 #[vi p0, vi p1, vi p2, vi p3, vi p4, vi ov, vi (3 : Int32), vi b1, vi b2, vi b3, vi xx, vi dd, vi yy, vr v1, vr v2, vr v3, vr v4, vr v5, vr b525, vi (1 : Int32), .unset, .unset, .unset, .unset, .unset, .unset] [(.ref b525)])) rfl (by rw [hml]; rfl) (Steps.refl _) (argsL := []) (rest := []) (lenOf pd__28_29Ljava_2futil_2fList_3b rfl) rfl (by show 2 * 0 + _ ≤ _; exact Nat.le_of_eq rfl) (hb hby at_214) (fun _ _ => ⟨rfl, e1632, (by decide : 3 + 1 ≤ _), (by decide : 16 + 3 ≤ _)⟩)
  dsimp only [Pt.U, Pt.locs, Pt.cells, Pt.slots] at X1635 l1635 y1635 z1635 st1635 hQ1635
  rw [l1635, y1635, z1635] at X1635
  clear l1635 y1635 z1635
  obtain ⟨b1636, hr1635, N1635q, K1635q, fz_b1636, f1637, f1638, f1639, f1640, f1641, f1642, f1643, f1644⟩ := hQ1635
  rw [hr1635] at st1635
  clear hr1635
  have N1635 := Fr.app N1632 N1635q
  refine Go.via (fun _ kQ => st1635.trans kQ) ?_
  clear st1635
  have ne1645 : b1554 ≠ b1636 := Nat.ne_of_lt (Nat.lt_of_lt_of_le f1628.lt fz_b1636)
  have ne1646 : b525 ≠ b1636 := Nat.ne_of_lt (Nat.lt_of_lt_of_le f1620.lt fz_b1636)
  have ne1647 : b534 ≠ b1636 := Nat.ne_of_lt (Nat.lt_of_lt_of_le f1624.lt fz_b1636)
  have ge1648 : n0 ≤ b1636 := Nat.le_trans z1633 fz_b1636
  have k1650 : Keep h0 T1610.heap [] := (((k1551.trans K1553q (allS (Or.inr lf12_1551) (allS (Or.inr lf13_1551) all0))).trans K1584q (allS (Or.inr lf12_1551) (allS (Or.inr lf13_1551) (allS (Or.inr sz1567) all0)))).trans K1610q (allS (Or.inr lf12_1551) (allS (Or.inr lf13_1551) (allS (Or.inr sz1567) all0))))
  have sz1649 : h0.size ≤ b1636 := Nat.le_trans k1650.1 fz_b1636
  have e1635 : T1635.heap = T1635.heap := rfl
  have f1651 : Exa Z T1635.heap b525 cFI := f1637
  have f1652 : Fld Z T1635.heap b525 cFI "part" "Ljava/util/List;" (.ref b1636) := f1638
  have f1653 : Fld Z T1635.heap b525 cFI "overhead" "I" (.int ov) := f1639
  have f1654 : Fld Z T1635.heap b525 cFI "partBytes" "J" (.long (ov.toInt64)) := f1640
  have f1655 : Exa Z T1635.heap b1636 cAL := f1641
  have f1656 : Fld Z T1635.heap b1636 cAB "modCount" "I" (.int (0 : Int32)) := f1642
  have f1657 : Fld Z T1635.heap b1636 cAL "elementData" cOA (.ref de) := f1643
  have f1658 : Fld Z T1635.heap b1636 cAL "size" "I" (.int (0 : Int32)) := f1644
  clear X1632 e1632
  show Go p e below (T1635.setTop (mkF m 217 #[vi p0, vi p1, vi p2, vi p3, vi p4, vi ov, vi (3 : Int32), vi b1, vi b2, vi b3, vi xx, vi dd, vi yy, vr v1, vr v2, vr v3, vr v4, vr v5, vr b525, vi (1 : Int32), .unset, .unset, .unset, .unset, .unset, .unset] [(.ref b534)])) _
  refine Go.via (fun _ => XS.astore X1635.here hx rfl (hb hby at_217) rfl rfl (l' := #[vi p0, vi p1, vi p2, vi p3, vi p4, vi ov, vi (3 : Int32), vi b1, vi b2, vi b3, vi xx, vi dd, vi yy, vr v1, vr v2, vr v3, vr v4, vr v5, vr b525, vi (1 : Int32), vr b534, .unset, .unset, .unset, .unset, .unset]) rfl) ?_
  refine Go.via (fun _ => XS.aload X1635.here hx rfl (hb hby at_219) rfl rfl) ?_
  refine Go.via (fun _ => XS.aload X1635.here hx rfl (hb hby at_221) rfl rfl) ?_
  refine Go.via (fun _ => XS.iload X1635.here hx rfl (hb hby at_223) rfl) ?_
  have o1659 : Old Z n0 T1635.heap := (o1629.keep K1635q (allS lf10_1551 all0))
  have f1660 : Exa Z T1635.heap v4 cIN := zE4.ext o1659.2
  have z1662 : n0 ≤ T1635.heap.size := (Nat.le_trans z1633 K1635q.1)
  obtain ⟨cq1661, kq1661, q1661a, q1661b, q1661c⟩ := isOf hZ e1635 f1651
  obtain ⟨r1661, _, ⟨T1661, L1661, k1661, n1661⟩, -, X1661, ⟨Lc1661, hQ1661, l1661, y1661, z1661⟩, st1661⟩ := X1635.virtualBack hx (y := (⟨cFI, "add", "(Ljava/lang/Object;I)Ljava/util/List;"⟩ : MethodName)) (z := (⟨cFI, "add", "(Ljava/lang/Object;I)Ljava/util/List;"⟩ : MethodName)) hown (mvT hZ (tw hw 49 rfl)) (mvT hZ (tw hw 50 rfl)) (notFace_of_selects (args := #[]) (mvT hZ (tw hw 52 rfl))) (mvT hZ (tw hw 52 rfl)) (mvT hZ (tw hw 51 rfl)) (by decide) (backOf (W := 0) (rmFa0 l Z a0 hw [] b525 v4 xx b1636 ov (ov.toInt64) de (0 : Int32) el T1635.heap n0 z1662 f1651 f1652 f1653 f1654 f1655 f1656 f1657 f1658 f1660 o1659 zD zN zL lf10_1551 ge1648 ne1646) hZ (tw hw 53 rfl) (tw hw 12 rfl) (by decide) (by decide)) q1661a q1661c (g := (mkF m 225 #[vi p0, vi p1, vi p2, vi p3, vi p4, vi ov, vi (3 : Int32), vi b1, vi b2, vi b3, vi xx, vi dd, vi yy, vr v1, vr v2, vr v3, vr v4, vr v5, vr b525, vi (1 : Int32), vr b534, .unset, .unset, .unset, .unset, .unset] [(.int xx), (.ref v4), (.ref b525)])) rfl (by rw [hml]; rfl) (Steps.refl _) (argsL := [(.ref v4), (.int xx)]) (rest := []) (lenOf pd__28Ljava_2flang_2fObject_3bI_29Ljava_2futil_2fList_3b rfl) rfl (by show 2 * 0 + _ ≤ _; exact Nat.le_of_eq rfl) (hb hby at_225) (fun _ _ => ⟨rfl, e1635, (by decide : 4 + 1 ≤ _), (by decide : 19 + 10 ≤ _)⟩)
  dsimp only [Pt.U, Pt.locs, Pt.cells, Pt.slots] at X1661 l1661 y1661 z1661 st1661 hQ1661
  rw [l1661, y1661, z1661] at X1661
  clear l1661 y1661 z1661
  obtain ⟨b1663, hr1661, N1661q, K1661q, fz_b1663, f1664, f1665, f1666, f1667, f1668, f1669, f1670, f1671, f1672⟩ := hQ1661
  rw [hr1661] at st1661
  clear hr1661
  have N1661 := Fr.app N1635 N1661q
  refine Go.via (fun _ kQ => st1661.trans kQ) ?_
  clear st1661
  have f1673 : Ra Z T1635.heap b1554 cOB [(.ref v1), (.ref v2), (.ref v3), .null, .null, .null, .null, .null, .null, .null] := (f1628.keep K1635q (ninS (Ne.symm ne1564) nin0))
  have ne1674 : b1554 ≠ b1663 := Nat.ne_of_lt (Nat.lt_of_lt_of_le f1673.lt fz_b1663)
  have ne1675 : b1636 ≠ b1663 := Nat.ne_of_lt (Nat.lt_of_lt_of_le f1655.lt fz_b1663)
  have ne1676 : b525 ≠ b1663 := Nat.ne_of_lt (Nat.lt_of_lt_of_le f1651.lt fz_b1663)
  have f1677 : Exa Z T1635.heap b534 cAL := (f1624.keep K1635q)
  have ne1678 : b534 ≠ b1663 := Nat.ne_of_lt (Nat.lt_of_lt_of_le f1677.lt fz_b1663)
  have ge1679 : n0 ≤ b1663 := Nat.le_trans z1662 fz_b1663
  have k1681 : Keep h0 T1635.heap [] := (k1650.trans K1635q (allS (Or.inr lf12_1551) all0))
  have sz1680 : h0.size ≤ b1663 := Nat.le_trans k1681.1 fz_b1663
  have e1661 : T1661.heap = T1661.heap := rfl
  have f1682 : Exa Z T1661.heap b525 cFI := f1664
  have f1683 : Fld Z T1661.heap b525 cFI "part" "Ljava/util/List;" (.ref b1636) := f1665
  have f1684 : Fld Z T1661.heap b525 cFI "overhead" "I" (.int ov) := f1666
  have f1685 : Fld Z T1661.heap b525 cFI "partBytes" "J" (.long ((ov.toInt64) + (xx.toInt64))) := f1667
  have f1686 : Exa Z T1661.heap b1636 cAL := f1668
  have f1687 : Fld Z T1661.heap b1636 cAB "modCount" "I" (.int ((0 : Int32) + (1 : Int32))) := f1669
  have f1688 : Fld Z T1661.heap b1636 cAL "elementData" cOA (.ref b1663) := f1670
  have f1689 : Fld Z T1661.heap b1636 cAL "size" "I" (.int (1 : Int32)) := f1671
  have f1690 : Ra Z T1661.heap b1663 cOB [(.ref v4), .null, .null, .null, .null, .null, .null, .null, .null, .null] := f1672
  clear X1635 e1635
  show Go p e below (T1661.setTop (mkF m 228 #[vi p0, vi p1, vi p2, vi p3, vi p4, vi ov, vi (3 : Int32), vi b1, vi b2, vi b3, vi xx, vi dd, vi yy, vr v1, vr v2, vr v3, vr v4, vr v5, vr b525, vi (1 : Int32), vr b534, .unset, .unset, .unset, .unset, .unset] [(.ref el)])) _
  refine Go.via (fun _ => XS.astore X1661.here hx rfl (hb hby at_228) rfl rfl (l' := #[vi p0, vi p1, vi p2, vi p3, vi p4, vi ov, vi (3 : Int32), vi b1, vi b2, vi b3, vi xx, vi dd, vi yy, vr v1, vr v2, vr v3, vr v4, vr v5, vr b525, vi (1 : Int32), vr b534, vr el, .unset, .unset, .unset, .unset]) rfl) ?_
  show Go p e below (T1661.setTop (mkF m 230 #[vi p0, vi p1, vi p2, vi p3, vi p4, vi ov, vi (3 : Int32), vi b1, vi b2, vi b3, vi xx, vi dd, vi yy, vr v1, vr v2, vr v3, vr v4, vr v5, vr b525, vi (1 : Int32), vr b534, vr el, .unset, .unset, .unset, .unset] [])) _
  by_cases hsp : (0 : Int32) < dd
  · have z1835 : n0 ≤ T1661.heap.size := (Nat.le_trans z1662 K1661q.1)
    have k1836 : Keep h0 T1661.heap [] := (k1681.trans K1661q (allS (Or.inr lf12_1551) (allS (Or.inr sz1649) all0)))
    have o1837 : Old Z n0 T1661.heap := (o1659.keep K1661q (allS lf10_1551 (allS ge1648 all0)))
    have f1838 : Exa Z T1661.heap b534 cAL := (f1677.keep K1661q)
    have f1839 : Fld Z T1661.heap b534 cAL "elementData" cOA (.ref b1554) := ((f1626.keep K1635q (ninS (Ne.symm lf9_1551) nin0)).keep K1661q (ninS (Ne.symm lf9_1551) (ninS ne1647 nin0)))
    have f1840 : Fld Z T1661.heap b534 cAL "size" "I" (.int (3 : Int32)) := ((f1627.keep K1635q (ninS (Ne.symm lf9_1551) nin0)).keep K1661q (ninS (Ne.symm lf9_1551) (ninS ne1647 nin0)))
    have f1841 : Ra Z T1661.heap b1554 cOB [(.ref v1), (.ref v2), (.ref v3), .null, .null, .null, .null, .null, .null, .null] := (f1673.keep K1661q (ninS (Ne.symm ne1564) (ninS ne1645 nin0)))
    exact rm_rm0_c3s l Z a0 hw p0 p1 p2 p3 p4 de el ea ca cl v1 v2 v3 v4 v5 h0 n0 zD zN zL zH zC zLE zLF zLN zE1 zV1 zE2 zV2 zE3 zV3 zE4 zV4 zE5 zV5 hA hin1 hat1 hin2 hat2 hin3 hat3 hin4 hat4 hin5 hat5 hx hby hlk hml hown hZ hret T1661 _ T1661.heap ov b1 b2 b3 xx dd yy b1554 b1636 b1663 b525 b534 X1661 e1661 N1661 z1835 k1836 o1837 f1682 f1683 f1684 f1685 f1838 f1839 f1840 f1841 f1686 f1687 f1688 f1689 f1690 lf9_1551 ne1564 ne1646 ne1676 lf10_1551 lf12_1551 hv_ov hv_xx hv_dd hv_yy hsp
  · have z1958 : n0 ≤ T1661.heap.size := (Nat.le_trans z1662 K1661q.1)
    have k1959 : Keep h0 T1661.heap [] := (k1681.trans K1661q (allS (Or.inr lf12_1551) (allS (Or.inr sz1649) all0)))
    have o1960 : Old Z n0 T1661.heap := (o1659.keep K1661q (allS lf10_1551 (allS ge1648 all0)))
    have f1961 : Exa Z T1661.heap b534 cAL := (f1677.keep K1661q)
    have f1962 : Fld Z T1661.heap b534 cAL "elementData" cOA (.ref b1554) := ((f1626.keep K1635q (ninS (Ne.symm lf9_1551) nin0)).keep K1661q (ninS (Ne.symm lf9_1551) (ninS ne1647 nin0)))
    have f1963 : Fld Z T1661.heap b534 cAL "size" "I" (.int (3 : Int32)) := ((f1627.keep K1635q (ninS (Ne.symm lf9_1551) nin0)).keep K1661q (ninS (Ne.symm lf9_1551) (ninS ne1647 nin0)))
    have f1964 : Ra Z T1661.heap b1554 cOB [(.ref v1), (.ref v2), (.ref v3), .null, .null, .null, .null, .null, .null, .null] := (f1673.keep K1661q (ninS (Ne.symm ne1564) (ninS ne1645 nin0)))
    exact rm_rm0_c3n l Z a0 hw p0 p1 p2 p3 p4 de el ea ca cl v1 v2 v3 v4 v5 h0 n0 zD zN zL zH zC zLE zLF zLN zE1 zV1 zE2 zV2 zE3 zV3 zE4 zV4 zE5 zV5 hA hin1 hat1 hin2 hat2 hin3 hat3 hin4 hat4 hin5 hat5 hx hby hlk hml hown hZ hret T1661 _ T1661.heap ov b1 b2 b3 xx dd yy b1554 b1636 b1663 b525 b534 X1661 e1661 N1661 z1958 k1959 o1960 f1682 f1683 f1684 f1685 f1961 f1962 f1963 f1964 f1686 f1687 f1688 f1689 f1690 lf9_1551 ne1564 ne1645 ne1646 ne1647 ne1674 ne1675 ne1676 ne1678 lf10_1551 ge1648 ge1679 lf12_1551 sz1649 sz1680 hv_ov hv_xx hv_dd hv_yy hsp
theorem pn_0 : plainName cLAW = true := by first | (simp [plainName, overriddenIn]; done) | decide +kernel
theorem ef_0 (m : MethodId) (x0 : Int32) (x1 : Int32) (x2 : Int32) (x3 : Int32) (x4 : Int32) : entryFrame m #[(.int x0), (.int x1), (.int x2), (.int x3), (.int x4)] maxLocals = mkF m 0 #[.val (.int x0), .val (.int x1), .val (.int x2), .val (.int x3), .val (.int x4), .unset, .unset, .unset, .unset, .unset, .unset, .unset, .unset, .unset, .unset, .unset, .unset, .unset, .unset, .unset, .unset, .unset, .unset, .unset, .unset, .unset] [] := by first | (simp [entryFrame, mkF, argsToLocals, Value.category, maxLocals]; done) | rfl
set_option maxRecDepth 65536 in
set_option maxHeartbeats 40000000 in
theorem rm0 (l : Launch) (Z : State) (a0 : Array Value) (hw : ∀ d ∈ tables_1, d.before a0 Z = true) (ws : List Jvm.Cond) (p0 : Int32) (p1 : Int32) (p2 : Int32) (p3 : Int32) (p4 : Int32) (de : Addr) (el : Addr) (ea : Addr) (ca : Addr) (cl : Cell) (v1 : Addr) (v2 : Addr) (v3 : Addr) (v4 : Addr) (v5 : Addr) (h0 : Heap) (n0 : Nat) (Z0 : n0 ≤ h0.size) (P0 : Old Z n0 h0) (zD : Sta Z Z.heap cAL cDE cOA (.ref de)) (zN : Rn Z Z.heap de (0 : Int32)) (zL : Sta Z Z.heap cIM "EMPTY_LIST" "Ljava/util/ImmutableCollections$ListN;" (.ref el)) (zH : Sta Z Z.heap cIC "high" "I" (.int (127 : Int32))) (zC : Sta Z Z.heap cIC "cache" "[Ljava/lang/Integer;" (.ref ca)) (zLE : Exa Z Z.heap el cLN) (zLF : Fld Z Z.heap el cLN "elements" cOA (.ref ea)) (zLN : Rn Z Z.heap ea (0 : Int32)) (zE1 : Exa Z Z.heap v1 cIN) (zV1 : Fld Z Z.heap v1 cIN "value" "I" (.int (1 : Int32))) (zE2 : Exa Z Z.heap v2 cIN) (zV2 : Fld Z Z.heap v2 cIN "value" "I" (.int (2 : Int32))) (zE3 : Exa Z Z.heap v3 cIN) (zV3 : Fld Z Z.heap v3 cIN "value" "I" (.int (3 : Int32))) (zE4 : Exa Z Z.heap v4 cIN) (zV4 : Fld Z Z.heap v4 cIN "value" "I" (.int (4 : Int32))) (zE5 : Exa Z Z.heap v5 cIN) (zV5 : Fld Z Z.heap v5 cIN "value" "I" (.int (5 : Int32))) (hA : Arr Z Z.heap ca cl (.object cIN)) (hin1 : ¬ (((1 : Int32) + (128 : Int32)) < 0 ∨ cl.slots.size ≤ ((1 : Int32) + (128 : Int32)).toNatClampNeg)) (hat1 : cl.slots[((1 : Int32) + (128 : Int32)).toNatClampNeg]? = some (.ref v1)) (hin2 : ¬ (((2 : Int32) + (128 : Int32)) < 0 ∨ cl.slots.size ≤ ((2 : Int32) + (128 : Int32)).toNatClampNeg)) (hat2 : cl.slots[((2 : Int32) + (128 : Int32)).toNatClampNeg]? = some (.ref v2)) (hin3 : ¬ (((3 : Int32) + (128 : Int32)) < 0 ∨ cl.slots.size ≤ ((3 : Int32) + (128 : Int32)).toNatClampNeg)) (hat3 : cl.slots[((3 : Int32) + (128 : Int32)).toNatClampNeg]? = some (.ref v3)) (hin4 : ¬ (((4 : Int32) + (128 : Int32)) < 0 ∨ cl.slots.size ≤ ((4 : Int32) + (128 : Int32)).toNatClampNeg)) (hat4 : cl.slots[((4 : Int32) + (128 : Int32)).toNatClampNeg]? = some (.ref v4)) (hin5 : ¬ (((5 : Int32) + (128 : Int32)) < 0 ∨ cl.slots.size ≤ ((5 : Int32) + (128 : Int32)).toNatClampNeg)) (hat5 : cl.slots[((5 : Int32) + (128 : Int32)).toNatClampNeg]? = some (.ref v5)) :
    MetFree l x (head1 (Jvm.Cond.code x code maxLocals ret :: ws) room_1) (fun aQ UQ => aQ = #[(.int p0), (.int p1), (.int p2), (.int p3), (.int p4)] ∧ Z.Warmed39 UQ.vm ∧ UQ.heap = h0) (fun _ _ _ _ _ => True) (fun _ UQ oQ UR => ∃ vQ LQ, oQ = .returned vQ ∧ Q_rm0 Z p0 p1 p2 p3 p4 de el ea ca cl v1 v2 v3 v4 v5 h0 n0 vQ UR.heap LQ ∧ FrameEnd UQ oQ UR LQ room_1.cells room_1.slots) := by
  refine MetFree.of_bodySF (plainFor_of_name pn_0) hisR ?_
  intro p e s m args below meth c s₁ Bd hml0 hP hK
  obtain ⟨rfl, hZ, hh⟩ := hP
  have hx := Bd.exec
  have hby := Bd.bytes
  have hlk := Bd.notSynchronized
  have hml : c.maxLocals = 26 := hml0
  have hown : s.vm.findClass cLAW = some m.cls := findClass_of_methodNamed Bd.named
  have hnm := (name_of_methodNamed Bd.named Bd.method).1
  have X0 : Stand p l e room_1 s m #[(.int p0), (.int p1), (.int p2), (.int p3), (.int p4)] below meth c s₁ [] 0 0 := Stand.of_body Bd
  have e0 : s₁.heap = h0 := by rw [← hh, Bd.state]; rfl
  have N0 := Fr.nil n0
  show Go p e below _ (Done s (Q_rm0 Z p0 p1 p2 p3 p4 de el ea ca cl v1 v2 v3 v4 v5 h0 n0) room_1.cells room_1.slots)
  refine Go.via (fun tQ kQ => castTop (ef_0 m p0 p1 p2 p3 p4) kQ) ?_
  show Go p e below (s₁.setTop (mkF m 0 #[vi p0, vi p1, vi p2, vi p3, vi p4, .unset, .unset, .unset, .unset, .unset, .unset, .unset, .unset, .unset, .unset, .unset, .unset, .unset, .unset, .unset, .unset, .unset, .unset, .unset, .unset, .unset] [])) _
  refine Go.via (fun _ => XS.iloadN X0.here hx rfl (hb hby at_0) rfl) ?_
  refine Go.via (X0.ldcInt hx hown (mvT hZ (tw hw 0 rfl)) (g := (mkF m 1 #[vi p0, vi p1, vi p2, vi p3, vi p4, .unset, .unset, .unset, .unset, .unset, .unset, .unset, .unset, .unset, .unset, .unset, .unset, .unset, .unset, .unset, .unset, .unset, .unset, .unset, .unset, .unset] [(.int p0)])) rfl (hb hby at_1)) ?_
  show Go p e below (s₁.setTop (mkF m 3 #[vi p0, vi p1, vi p2, vi p3, vi p4, .unset, .unset, .unset, .unset, .unset, .unset, .unset, .unset, .unset, .unset, .unset, .unset, .unset, .unset, .unset, .unset, .unset, .unset, .unset, .unset, .unset] [(.int (524287 : Int32)), (.int p0)])) _
  refine Go.via (fun _ => XS.iand X0.here hx rfl (hb hby at_3) rfl) ?_
  show Go p e below (s₁.setTop (mkF m 4 #[vi p0, vi p1, vi p2, vi p3, vi p4, .unset, .unset, .unset, .unset, .unset, .unset, .unset, .unset, .unset, .unset, .unset, .unset, .unset, .unset, .unset, .unset, .unset, .unset, .unset, .unset, .unset] [(.int (p0 &&& (524287 : Int32)))])) _
  generalize hv_ov : (p0 &&& (524287 : Int32)) = ov
  show Go p e below (s₁.setTop (mkF m 4 #[vi p0, vi p1, vi p2, vi p3, vi p4, .unset, .unset, .unset, .unset, .unset, .unset, .unset, .unset, .unset, .unset, .unset, .unset, .unset, .unset, .unset, .unset, .unset, .unset, .unset, .unset, .unset] [(.int ov)])) _
  refine Go.via (fun _ => XS.istore X0.here hx rfl (hb hby at_4) rfl (l' := #[vi p0, vi p1, vi p2, vi p3, vi p4, vi ov, .unset, .unset, .unset, .unset, .unset, .unset, .unset, .unset, .unset, .unset, .unset, .unset, .unset, .unset, .unset, .unset, .unset, .unset, .unset, .unset]) rfl) ?_
  refine Go.via (fun _ => XS.iloadN X0.here hx rfl (hb hby at_6) rfl) ?_
  refine Go.via (fun _ => XS.iconst X0.here hx rfl (hb hby at_7)) ?_
  refine Go.via (fun _ => XS.iand X0.here hx rfl (hb hby at_8) rfl) ?_
  show Go p e below (s₁.setTop (mkF m 9 #[vi p0, vi p1, vi p2, vi p3, vi p4, vi ov, .unset, .unset, .unset, .unset, .unset, .unset, .unset, .unset, .unset, .unset, .unset, .unset, .unset, .unset, .unset, .unset, .unset, .unset, .unset, .unset] [(.int (p1 &&& (3 : Int32)))])) _
  obtain ⟨n, hn0, hn⟩ := own_n4 p1
  rw [hn0]
  show Go p e below (s₁.setTop (mkF m 9 #[vi p0, vi p1, vi p2, vi p3, vi p4, vi ov, .unset, .unset, .unset, .unset, .unset, .unset, .unset, .unset, .unset, .unset, .unset, .unset, .unset, .unset, .unset, .unset, .unset, .unset, .unset, .unset] [(.int n)])) _
  refine Go.via (fun _ => XS.istore X0.here hx rfl (hb hby at_9) rfl (l' := #[vi p0, vi p1, vi p2, vi p3, vi p4, vi ov, vi n, .unset, .unset, .unset, .unset, .unset, .unset, .unset, .unset, .unset, .unset, .unset, .unset, .unset, .unset, .unset, .unset, .unset, .unset, .unset]) rfl) ?_
  refine Go.via (fun _ => XS.iloadN X0.here hx rfl (hb hby at_11) rfl) ?_
  show Go p e below (s₁.setTop (mkF m 12 #[vi p0, vi p1, vi p2, vi p3, vi p4, vi ov, vi n, .unset, .unset, .unset, .unset, .unset, .unset, .unset, .unset, .unset, .unset, .unset, .unset, .unset, .unset, .unset, .unset, .unset, .unset, .unset] [(.int p2)])) _
  refine Go.via (X0.ldcInt hx hown (mvT hZ (tw hw 1 rfl)) (g := (mkF m 12 #[vi p0, vi p1, vi p2, vi p3, vi p4, vi ov, vi n, .unset, .unset, .unset, .unset, .unset, .unset, .unset, .unset, .unset, .unset, .unset, .unset, .unset, .unset, .unset, .unset, .unset, .unset, .unset] [(.int p2)])) rfl (hb hby at_12)) ?_
  show Go p e below (s₁.setTop (mkF m 14 #[vi p0, vi p1, vi p2, vi p3, vi p4, vi ov, vi n, .unset, .unset, .unset, .unset, .unset, .unset, .unset, .unset, .unset, .unset, .unset, .unset, .unset, .unset, .unset, .unset, .unset, .unset, .unset] [(.int (131071 : Int32)), (.int p2)])) _
  refine Go.via (fun _ => XS.iand X0.here hx rfl (hb hby at_14) rfl) ?_
  show Go p e below (s₁.setTop (mkF m 15 #[vi p0, vi p1, vi p2, vi p3, vi p4, vi ov, vi n, .unset, .unset, .unset, .unset, .unset, .unset, .unset, .unset, .unset, .unset, .unset, .unset, .unset, .unset, .unset, .unset, .unset, .unset, .unset] [(.int (p2 &&& (131071 : Int32)))])) _
  generalize hv_b1 : (p2 &&& (131071 : Int32)) = b1
  show Go p e below (s₁.setTop (mkF m 15 #[vi p0, vi p1, vi p2, vi p3, vi p4, vi ov, vi n, .unset, .unset, .unset, .unset, .unset, .unset, .unset, .unset, .unset, .unset, .unset, .unset, .unset, .unset, .unset, .unset, .unset, .unset, .unset] [(.int b1)])) _
  refine Go.via (fun _ => XS.istore X0.here hx rfl (hb hby at_15) rfl (l' := #[vi p0, vi p1, vi p2, vi p3, vi p4, vi ov, vi n, vi b1, .unset, .unset, .unset, .unset, .unset, .unset, .unset, .unset, .unset, .unset, .unset, .unset, .unset, .unset, .unset, .unset, .unset, .unset]) rfl) ?_
  refine Go.via (fun _ => XS.iloadN X0.here hx rfl (hb hby at_17) rfl) ?_
  refine Go.via (fun _ => XS.bipush X0.here hx rfl (hb hby at_18)) ?_
  refine Go.via (fun _ => XS.iushr X0.here hx rfl (hb hby at_20) rfl) ?_
  refine Go.via (X0.ldcInt hx hown (mvT hZ (tw hw 1 rfl)) (g := (mkF m 21 #[vi p0, vi p1, vi p2, vi p3, vi p4, vi ov, vi n, vi b1, .unset, .unset, .unset, .unset, .unset, .unset, .unset, .unset, .unset, .unset, .unset, .unset, .unset, .unset, .unset, .unset, .unset, .unset] [(.int ((p2.toUInt32 >>> ((15 : Int32) &&& 31).toUInt32).toInt32))])) rfl (hb hby at_21)) ?_
  show Go p e below (s₁.setTop (mkF m 23 #[vi p0, vi p1, vi p2, vi p3, vi p4, vi ov, vi n, vi b1, .unset, .unset, .unset, .unset, .unset, .unset, .unset, .unset, .unset, .unset, .unset, .unset, .unset, .unset, .unset, .unset, .unset, .unset] [(.int (131071 : Int32)), (.int ((p2.toUInt32 >>> ((15 : Int32) &&& 31).toUInt32).toInt32))])) _
  refine Go.via (fun _ => XS.iand X0.here hx rfl (hb hby at_23) rfl) ?_
  show Go p e below (s₁.setTop (mkF m 24 #[vi p0, vi p1, vi p2, vi p3, vi p4, vi ov, vi n, vi b1, .unset, .unset, .unset, .unset, .unset, .unset, .unset, .unset, .unset, .unset, .unset, .unset, .unset, .unset, .unset, .unset, .unset, .unset] [(.int (((p2.toUInt32 >>> ((15 : Int32) &&& 31).toUInt32).toInt32) &&& (131071 : Int32)))])) _
  generalize hv_b2 : (((p2.toUInt32 >>> ((15 : Int32) &&& 31).toUInt32).toInt32) &&& (131071 : Int32)) = b2
  show Go p e below (s₁.setTop (mkF m 24 #[vi p0, vi p1, vi p2, vi p3, vi p4, vi ov, vi n, vi b1, .unset, .unset, .unset, .unset, .unset, .unset, .unset, .unset, .unset, .unset, .unset, .unset, .unset, .unset, .unset, .unset, .unset, .unset] [(.int b2)])) _
  refine Go.via (fun _ => XS.istore X0.here hx rfl (hb hby at_24) rfl (l' := #[vi p0, vi p1, vi p2, vi p3, vi p4, vi ov, vi n, vi b1, vi b2, .unset, .unset, .unset, .unset, .unset, .unset, .unset, .unset, .unset, .unset, .unset, .unset, .unset, .unset, .unset, .unset, .unset]) rfl) ?_
  refine Go.via (fun _ => XS.iloadN X0.here hx rfl (hb hby at_26) rfl) ?_
  refine Go.via (fun _ => XS.iconst X0.here hx rfl (hb hby at_27)) ?_
  refine Go.via (fun _ => XS.iushr X0.here hx rfl (hb hby at_28) rfl) ?_
  refine Go.via (X0.ldcInt hx hown (mvT hZ (tw hw 1 rfl)) (g := (mkF m 29 #[vi p0, vi p1, vi p2, vi p3, vi p4, vi ov, vi n, vi b1, vi b2, .unset, .unset, .unset, .unset, .unset, .unset, .unset, .unset, .unset, .unset, .unset, .unset, .unset, .unset, .unset, .unset, .unset] [(.int ((p1.toUInt32 >>> ((2 : Int32) &&& 31).toUInt32).toInt32))])) rfl (hb hby at_29)) ?_
  show Go p e below (s₁.setTop (mkF m 31 #[vi p0, vi p1, vi p2, vi p3, vi p4, vi ov, vi n, vi b1, vi b2, .unset, .unset, .unset, .unset, .unset, .unset, .unset, .unset, .unset, .unset, .unset, .unset, .unset, .unset, .unset, .unset, .unset] [(.int (131071 : Int32)), (.int ((p1.toUInt32 >>> ((2 : Int32) &&& 31).toUInt32).toInt32))])) _
  refine Go.via (fun _ => XS.iand X0.here hx rfl (hb hby at_31) rfl) ?_
  show Go p e below (s₁.setTop (mkF m 32 #[vi p0, vi p1, vi p2, vi p3, vi p4, vi ov, vi n, vi b1, vi b2, .unset, .unset, .unset, .unset, .unset, .unset, .unset, .unset, .unset, .unset, .unset, .unset, .unset, .unset, .unset, .unset, .unset] [(.int (((p1.toUInt32 >>> ((2 : Int32) &&& 31).toUInt32).toInt32) &&& (131071 : Int32)))])) _
  generalize hv_b3 : (((p1.toUInt32 >>> ((2 : Int32) &&& 31).toUInt32).toInt32) &&& (131071 : Int32)) = b3
  show Go p e below (s₁.setTop (mkF m 32 #[vi p0, vi p1, vi p2, vi p3, vi p4, vi ov, vi n, vi b1, vi b2, .unset, .unset, .unset, .unset, .unset, .unset, .unset, .unset, .unset, .unset, .unset, .unset, .unset, .unset, .unset, .unset, .unset] [(.int b3)])) _
  refine Go.via (fun _ => XS.istore X0.here hx rfl (hb hby at_32) rfl (l' := #[vi p0, vi p1, vi p2, vi p3, vi p4, vi ov, vi n, vi b1, vi b2, vi b3, .unset, .unset, .unset, .unset, .unset, .unset, .unset, .unset, .unset, .unset, .unset, .unset, .unset, .unset, .unset, .unset]) rfl) ?_
  refine Go.via (fun _ => XS.iloadN X0.here hx rfl (hb hby at_34) rfl) ?_
  refine Go.via (X0.ldcInt hx hown (mvT hZ (tw hw 0 rfl)) (g := (mkF m 35 #[vi p0, vi p1, vi p2, vi p3, vi p4, vi ov, vi n, vi b1, vi b2, vi b3, .unset, .unset, .unset, .unset, .unset, .unset, .unset, .unset, .unset, .unset, .unset, .unset, .unset, .unset, .unset, .unset] [(.int p3)])) rfl (hb hby at_35)) ?_
  show Go p e below (s₁.setTop (mkF m 37 #[vi p0, vi p1, vi p2, vi p3, vi p4, vi ov, vi n, vi b1, vi b2, vi b3, .unset, .unset, .unset, .unset, .unset, .unset, .unset, .unset, .unset, .unset, .unset, .unset, .unset, .unset, .unset, .unset] [(.int (524287 : Int32)), (.int p3)])) _
  refine Go.via (fun _ => XS.iand X0.here hx rfl (hb hby at_37) rfl) ?_
  show Go p e below (s₁.setTop (mkF m 38 #[vi p0, vi p1, vi p2, vi p3, vi p4, vi ov, vi n, vi b1, vi b2, vi b3, .unset, .unset, .unset, .unset, .unset, .unset, .unset, .unset, .unset, .unset, .unset, .unset, .unset, .unset, .unset, .unset] [(.int (p3 &&& (524287 : Int32)))])) _
  generalize hv_xx : (p3 &&& (524287 : Int32)) = xx
  show Go p e below (s₁.setTop (mkF m 38 #[vi p0, vi p1, vi p2, vi p3, vi p4, vi ov, vi n, vi b1, vi b2, vi b3, .unset, .unset, .unset, .unset, .unset, .unset, .unset, .unset, .unset, .unset, .unset, .unset, .unset, .unset, .unset, .unset] [(.int xx)])) _
  refine Go.via (fun _ => XS.istore X0.here hx rfl (hb hby at_38) rfl (l' := #[vi p0, vi p1, vi p2, vi p3, vi p4, vi ov, vi n, vi b1, vi b2, vi b3, vi xx, .unset, .unset, .unset, .unset, .unset, .unset, .unset, .unset, .unset, .unset, .unset, .unset, .unset, .unset, .unset]) rfl) ?_
  refine Go.via (fun _ => XS.iload X0.here hx rfl (hb hby at_40) rfl) ?_
  refine Go.via (fun _ => XS.iconst X0.here hx rfl (hb hby at_42)) ?_
  refine Go.via (fun _ => XS.iand X0.here hx rfl (hb hby at_43) rfl) ?_
  refine Go.via (fun _ => XS.iconst X0.here hx rfl (hb hby at_44)) ?_
  refine Go.via (fun _ => XS.isub X0.here hx rfl (hb hby at_45) rfl) ?_
  show Go p e below (s₁.setTop (mkF m 46 #[vi p0, vi p1, vi p2, vi p3, vi p4, vi ov, vi n, vi b1, vi b2, vi b3, vi xx, .unset, .unset, .unset, .unset, .unset, .unset, .unset, .unset, .unset, .unset, .unset, .unset, .unset, .unset, .unset] [(.int ((p4 &&& (3 : Int32)) - (1 : Int32)))])) _
  generalize hv_dd : ((p4 &&& (3 : Int32)) - (1 : Int32)) = dd
  show Go p e below (s₁.setTop (mkF m 46 #[vi p0, vi p1, vi p2, vi p3, vi p4, vi ov, vi n, vi b1, vi b2, vi b3, vi xx, .unset, .unset, .unset, .unset, .unset, .unset, .unset, .unset, .unset, .unset, .unset, .unset, .unset, .unset, .unset] [(.int dd)])) _
  refine Go.via (fun _ => XS.istore X0.here hx rfl (hb hby at_46) rfl (l' := #[vi p0, vi p1, vi p2, vi p3, vi p4, vi ov, vi n, vi b1, vi b2, vi b3, vi xx, vi dd, .unset, .unset, .unset, .unset, .unset, .unset, .unset, .unset, .unset, .unset, .unset, .unset, .unset, .unset]) rfl) ?_
  refine Go.via (X0.ldcInt hx hown (mvT hZ (tw hw 2 rfl)) (g := (mkF m 48 #[vi p0, vi p1, vi p2, vi p3, vi p4, vi ov, vi n, vi b1, vi b2, vi b3, vi xx, vi dd, .unset, .unset, .unset, .unset, .unset, .unset, .unset, .unset, .unset, .unset, .unset, .unset, .unset, .unset] [])) rfl (hb hby at_48)) ?_
  show Go p e below (s₁.setTop (mkF m 50 #[vi p0, vi p1, vi p2, vi p3, vi p4, vi ov, vi n, vi b1, vi b2, vi b3, vi xx, vi dd, .unset, .unset, .unset, .unset, .unset, .unset, .unset, .unset, .unset, .unset, .unset, .unset, .unset, .unset] [(.int (1048576 : Int32))])) _
  refine Go.via (fun _ => XS.iload X0.here hx rfl (hb hby at_50) rfl) ?_
  refine Go.via (fun _ => XS.isub X0.here hx rfl (hb hby at_52) rfl) ?_
  refine Go.via (fun _ => XS.iload X0.here hx rfl (hb hby at_53) rfl) ?_
  refine Go.via (fun _ => XS.isub X0.here hx rfl (hb hby at_55) rfl) ?_
  refine Go.via (fun _ => XS.iconst X0.here hx rfl (hb hby at_56)) ?_
  refine Go.via (fun _ => XS.isub X0.here hx rfl (hb hby at_57) rfl) ?_
  refine Go.via (fun _ => XS.iload X0.here hx rfl (hb hby at_58) rfl) ?_
  show Go p e below (s₁.setTop (mkF m 60 #[vi p0, vi p1, vi p2, vi p3, vi p4, vi ov, vi n, vi b1, vi b2, vi b3, vi xx, vi dd, .unset, .unset, .unset, .unset, .unset, .unset, .unset, .unset, .unset, .unset, .unset, .unset, .unset, .unset] [(.int dd), (.int ((((1048576 : Int32) - ov) - xx) - (1 : Int32)))])) _
  refine Go.via (fun _ => XS.iadd X0.here hx rfl (hb hby at_60) rfl) ?_
  show Go p e below (s₁.setTop (mkF m 61 #[vi p0, vi p1, vi p2, vi p3, vi p4, vi ov, vi n, vi b1, vi b2, vi b3, vi xx, vi dd, .unset, .unset, .unset, .unset, .unset, .unset, .unset, .unset, .unset, .unset, .unset, .unset, .unset, .unset] [(.int (((((1048576 : Int32) - ov) - xx) - (1 : Int32)) + dd))])) _
  generalize hv_yy : (((((1048576 : Int32) - ov) - xx) - (1 : Int32)) + dd) = yy
  show Go p e below (s₁.setTop (mkF m 61 #[vi p0, vi p1, vi p2, vi p3, vi p4, vi ov, vi n, vi b1, vi b2, vi b3, vi xx, vi dd, .unset, .unset, .unset, .unset, .unset, .unset, .unset, .unset, .unset, .unset, .unset, .unset, .unset, .unset] [(.int yy)])) _
  refine Go.via (fun _ => XS.istore X0.here hx rfl (hb hby at_61) rfl (l' := #[vi p0, vi p1, vi p2, vi p3, vi p4, vi ov, vi n, vi b1, vi b2, vi b3, vi xx, vi dd, vi yy, .unset, .unset, .unset, .unset, .unset, .unset, .unset, .unset, .unset, .unset, .unset, .unset, .unset]) rfl) ?_
  refine Go.via (fun _ => XS.iconst X0.here hx rfl (hb hby at_63)) ?_
  obtain ⟨r520, _, ⟨T520, L520, k520, n520⟩, -, X520, ⟨Lc520, hQ520, l520, y520, z520⟩, st520⟩ := Jvm.LawKit.callS X0 hx (y := (⟨cIN, "valueOf", "(I)Ljava/lang/Integer;"⟩ : MethodName)) hown (mvT hZ (tw hw 3 rfl)) (mvT hZ (tw hw 4 rfl)) (mvT hZ (tw hw 5 rfl)) (mvT hZ (tw hw 6 rfl)) (by decide) (backOf (W := 0) (rmVo l Z a0 hw [] (1 : Int32) ca cl v1 h0 n0 Z0 P0 zH zC (by first | decide | (simp only [List.length_cons, List.length_nil]; decide) | rfl) (by first | decide | (simp only [List.length_cons, List.length_nil]; decide) | rfl) hA hin1 hat1) hZ (tw hw 6 rfl) (tw hw 5 rfl) (by decide) (by decide)) (g := (mkF m 64 #[vi p0, vi p1, vi p2, vi p3, vi p4, vi ov, vi n, vi b1, vi b2, vi b3, vi xx, vi dd, vi yy, .unset, .unset, .unset, .unset, .unset, .unset, .unset, .unset, .unset, .unset, .unset, .unset, .unset] [(.int (1 : Int32))])) rfl (by rw [hml]; rfl) (argsL := [(.int (1 : Int32))]) (rest := []) (lenOf pd__28I_29Ljava_2flang_2fInteger_3b rfl) rfl (by show 2 * 0 + _ ≤ _; exact Nat.le_of_eq rfl) (hb hby at_64) (fun _ _ => ⟨rfl, e0, (by decide : 0 + 0 ≤ _), (by decide : 0 + 0 ≤ _)⟩)
  dsimp only [Pt.U, Pt.locs, Pt.cells, Pt.slots] at X520 l520 y520 z520 st520 hQ520
  rw [l520, y520, z520] at X520
  clear l520 y520 z520
  obtain ⟨hr520, N520q, eh520⟩ := hQ520
  rw [hr520] at st520
  clear hr520
  have N520 := Fr.app N0 N520q
  refine Go.via (st520) ?_
  clear st520
  have e520 : T520.heap = h0 := eh520
  clear X0 e0
  show Go p e below (T520.setTop (mkF m 67 #[vi p0, vi p1, vi p2, vi p3, vi p4, vi ov, vi n, vi b1, vi b2, vi b3, vi xx, vi dd, vi yy, .unset, .unset, .unset, .unset, .unset, .unset, .unset, .unset, .unset, .unset, .unset, .unset, .unset] [(.ref v1)])) _
  refine Go.via (fun _ => XS.astore X520.here hx rfl (hb hby at_67) rfl rfl (l' := #[vi p0, vi p1, vi p2, vi p3, vi p4, vi ov, vi n, vi b1, vi b2, vi b3, vi xx, vi dd, vi yy, vr v1, .unset, .unset, .unset, .unset, .unset, .unset, .unset, .unset, .unset, .unset, .unset, .unset]) rfl) ?_
  refine Go.via (fun _ => XS.iconst X520.here hx rfl (hb hby at_69)) ?_
  obtain ⟨r521, _, ⟨T521, L521, k521, n521⟩, -, X521, ⟨Lc521, hQ521, l521, y521, z521⟩, st521⟩ := Jvm.LawKit.callS X520 hx (y := (⟨cIN, "valueOf", "(I)Ljava/lang/Integer;"⟩ : MethodName)) hown (mvT hZ (tw hw 3 rfl)) (mvT hZ (tw hw 4 rfl)) (mvT hZ (tw hw 5 rfl)) (mvT hZ (tw hw 6 rfl)) (by decide) (backOf (W := 0) (rmVo l Z a0 hw [] (2 : Int32) ca cl v2 h0 n0 Z0 P0 zH zC (by first | decide | (simp only [List.length_cons, List.length_nil]; decide) | rfl) (by first | decide | (simp only [List.length_cons, List.length_nil]; decide) | rfl) hA hin2 hat2) hZ (tw hw 6 rfl) (tw hw 5 rfl) (by decide) (by decide)) (g := (mkF m 70 #[vi p0, vi p1, vi p2, vi p3, vi p4, vi ov, vi n, vi b1, vi b2, vi b3, vi xx, vi dd, vi yy, vr v1, .unset, .unset, .unset, .unset, .unset, .unset, .unset, .unset, .unset, .unset, .unset, .unset] [(.int (2 : Int32))])) rfl (by rw [hml]; rfl) (argsL := [(.int (2 : Int32))]) (rest := []) (lenOf pd__28I_29Ljava_2flang_2fInteger_3b rfl) rfl (by show 2 * 0 + _ ≤ _; exact Nat.le_of_eq rfl) (hb hby at_70) (fun _ _ => ⟨rfl, e520, (by decide : 0 + 0 ≤ _), (by decide : 0 + 0 ≤ _)⟩)
  dsimp only [Pt.U, Pt.locs, Pt.cells, Pt.slots] at X521 l521 y521 z521 st521 hQ521
  rw [l521, y521, z521] at X521
  clear l521 y521 z521
  obtain ⟨hr521, N521q, eh521⟩ := hQ521
  rw [hr521] at st521
  clear hr521
  have N521 := Fr.app N520 N521q
  refine Go.via (st521) ?_
  clear st521
  have e521 : T521.heap = h0 := eh521
  clear X520 e520
  show Go p e below (T521.setTop (mkF m 73 #[vi p0, vi p1, vi p2, vi p3, vi p4, vi ov, vi n, vi b1, vi b2, vi b3, vi xx, vi dd, vi yy, vr v1, .unset, .unset, .unset, .unset, .unset, .unset, .unset, .unset, .unset, .unset, .unset, .unset] [(.ref v2)])) _
  refine Go.via (fun _ => XS.astore X521.here hx rfl (hb hby at_73) rfl rfl (l' := #[vi p0, vi p1, vi p2, vi p3, vi p4, vi ov, vi n, vi b1, vi b2, vi b3, vi xx, vi dd, vi yy, vr v1, vr v2, .unset, .unset, .unset, .unset, .unset, .unset, .unset, .unset, .unset, .unset, .unset]) rfl) ?_
  refine Go.via (fun _ => XS.iconst X521.here hx rfl (hb hby at_75)) ?_
  obtain ⟨r522, _, ⟨T522, L522, k522, n522⟩, -, X522, ⟨Lc522, hQ522, l522, y522, z522⟩, st522⟩ := Jvm.LawKit.callS X521 hx (y := (⟨cIN, "valueOf", "(I)Ljava/lang/Integer;"⟩ : MethodName)) hown (mvT hZ (tw hw 3 rfl)) (mvT hZ (tw hw 4 rfl)) (mvT hZ (tw hw 5 rfl)) (mvT hZ (tw hw 6 rfl)) (by decide) (backOf (W := 0) (rmVo l Z a0 hw [] (3 : Int32) ca cl v3 h0 n0 Z0 P0 zH zC (by first | decide | (simp only [List.length_cons, List.length_nil]; decide) | rfl) (by first | decide | (simp only [List.length_cons, List.length_nil]; decide) | rfl) hA hin3 hat3) hZ (tw hw 6 rfl) (tw hw 5 rfl) (by decide) (by decide)) (g := (mkF m 76 #[vi p0, vi p1, vi p2, vi p3, vi p4, vi ov, vi n, vi b1, vi b2, vi b3, vi xx, vi dd, vi yy, vr v1, vr v2, .unset, .unset, .unset, .unset, .unset, .unset, .unset, .unset, .unset, .unset, .unset] [(.int (3 : Int32))])) rfl (by rw [hml]; rfl) (argsL := [(.int (3 : Int32))]) (rest := []) (lenOf pd__28I_29Ljava_2flang_2fInteger_3b rfl) rfl (by show 2 * 0 + _ ≤ _; exact Nat.le_of_eq rfl) (hb hby at_76) (fun _ _ => ⟨rfl, e521, (by decide : 0 + 0 ≤ _), (by decide : 0 + 0 ≤ _)⟩)
  dsimp only [Pt.U, Pt.locs, Pt.cells, Pt.slots] at X522 l522 y522 z522 st522 hQ522
  rw [l522, y522, z522] at X522
  clear l522 y522 z522
  obtain ⟨hr522, N522q, eh522⟩ := hQ522
  rw [hr522] at st522
  clear hr522
  have N522 := Fr.app N521 N522q
  refine Go.via (st522) ?_
  clear st522
  have e522 : T522.heap = h0 := eh522
  clear X521 e521
  show Go p e below (T522.setTop (mkF m 79 #[vi p0, vi p1, vi p2, vi p3, vi p4, vi ov, vi n, vi b1, vi b2, vi b3, vi xx, vi dd, vi yy, vr v1, vr v2, .unset, .unset, .unset, .unset, .unset, .unset, .unset, .unset, .unset, .unset, .unset] [(.ref v3)])) _
  refine Go.via (fun _ => XS.astore X522.here hx rfl (hb hby at_79) rfl rfl (l' := #[vi p0, vi p1, vi p2, vi p3, vi p4, vi ov, vi n, vi b1, vi b2, vi b3, vi xx, vi dd, vi yy, vr v1, vr v2, vr v3, .unset, .unset, .unset, .unset, .unset, .unset, .unset, .unset, .unset, .unset]) rfl) ?_
  refine Go.via (fun _ => XS.iconst X522.here hx rfl (hb hby at_81)) ?_
  obtain ⟨r523, _, ⟨T523, L523, k523, n523⟩, -, X523, ⟨Lc523, hQ523, l523, y523, z523⟩, st523⟩ := Jvm.LawKit.callS X522 hx (y := (⟨cIN, "valueOf", "(I)Ljava/lang/Integer;"⟩ : MethodName)) hown (mvT hZ (tw hw 3 rfl)) (mvT hZ (tw hw 4 rfl)) (mvT hZ (tw hw 5 rfl)) (mvT hZ (tw hw 6 rfl)) (by decide) (backOf (W := 0) (rmVo l Z a0 hw [] (4 : Int32) ca cl v4 h0 n0 Z0 P0 zH zC (by first | decide | (simp only [List.length_cons, List.length_nil]; decide) | rfl) (by first | decide | (simp only [List.length_cons, List.length_nil]; decide) | rfl) hA hin4 hat4) hZ (tw hw 6 rfl) (tw hw 5 rfl) (by decide) (by decide)) (g := (mkF m 82 #[vi p0, vi p1, vi p2, vi p3, vi p4, vi ov, vi n, vi b1, vi b2, vi b3, vi xx, vi dd, vi yy, vr v1, vr v2, vr v3, .unset, .unset, .unset, .unset, .unset, .unset, .unset, .unset, .unset, .unset] [(.int (4 : Int32))])) rfl (by rw [hml]; rfl) (argsL := [(.int (4 : Int32))]) (rest := []) (lenOf pd__28I_29Ljava_2flang_2fInteger_3b rfl) rfl (by show 2 * 0 + _ ≤ _; exact Nat.le_of_eq rfl) (hb hby at_82) (fun _ _ => ⟨rfl, e522, (by decide : 0 + 0 ≤ _), (by decide : 0 + 0 ≤ _)⟩)
  dsimp only [Pt.U, Pt.locs, Pt.cells, Pt.slots] at X523 l523 y523 z523 st523 hQ523
  rw [l523, y523, z523] at X523
  clear l523 y523 z523
  obtain ⟨hr523, N523q, eh523⟩ := hQ523
  rw [hr523] at st523
  clear hr523
  have N523 := Fr.app N522 N523q
  refine Go.via (st523) ?_
  clear st523
  have e523 : T523.heap = h0 := eh523
  clear X522 e522
  show Go p e below (T523.setTop (mkF m 85 #[vi p0, vi p1, vi p2, vi p3, vi p4, vi ov, vi n, vi b1, vi b2, vi b3, vi xx, vi dd, vi yy, vr v1, vr v2, vr v3, .unset, .unset, .unset, .unset, .unset, .unset, .unset, .unset, .unset, .unset] [(.ref v4)])) _
  refine Go.via (fun _ => XS.astore X523.here hx rfl (hb hby at_85) rfl rfl (l' := #[vi p0, vi p1, vi p2, vi p3, vi p4, vi ov, vi n, vi b1, vi b2, vi b3, vi xx, vi dd, vi yy, vr v1, vr v2, vr v3, vr v4, .unset, .unset, .unset, .unset, .unset, .unset, .unset, .unset, .unset]) rfl) ?_
  refine Go.via (fun _ => XS.iconst X523.here hx rfl (hb hby at_87)) ?_
  obtain ⟨r524, _, ⟨T524, L524, k524, n524⟩, -, X524, ⟨Lc524, hQ524, l524, y524, z524⟩, st524⟩ := Jvm.LawKit.callS X523 hx (y := (⟨cIN, "valueOf", "(I)Ljava/lang/Integer;"⟩ : MethodName)) hown (mvT hZ (tw hw 3 rfl)) (mvT hZ (tw hw 4 rfl)) (mvT hZ (tw hw 5 rfl)) (mvT hZ (tw hw 6 rfl)) (by decide) (backOf (W := 0) (rmVo l Z a0 hw [] (5 : Int32) ca cl v5 h0 n0 Z0 P0 zH zC (by first | decide | (simp only [List.length_cons, List.length_nil]; decide) | rfl) (by first | decide | (simp only [List.length_cons, List.length_nil]; decide) | rfl) hA hin5 hat5) hZ (tw hw 6 rfl) (tw hw 5 rfl) (by decide) (by decide)) (g := (mkF m 88 #[vi p0, vi p1, vi p2, vi p3, vi p4, vi ov, vi n, vi b1, vi b2, vi b3, vi xx, vi dd, vi yy, vr v1, vr v2, vr v3, vr v4, .unset, .unset, .unset, .unset, .unset, .unset, .unset, .unset, .unset] [(.int (5 : Int32))])) rfl (by rw [hml]; rfl) (argsL := [(.int (5 : Int32))]) (rest := []) (lenOf pd__28I_29Ljava_2flang_2fInteger_3b rfl) rfl (by show 2 * 0 + _ ≤ _; exact Nat.le_of_eq rfl) (hb hby at_88) (fun _ _ => ⟨rfl, e523, (by decide : 0 + 0 ≤ _), (by decide : 0 + 0 ≤ _)⟩)
  dsimp only [Pt.U, Pt.locs, Pt.cells, Pt.slots] at X524 l524 y524 z524 st524 hQ524
  rw [l524, y524, z524] at X524
  clear l524 y524 z524
  obtain ⟨hr524, N524q, eh524⟩ := hQ524
  rw [hr524] at st524
  clear hr524
  have N524 := Fr.app N523 N524q
  refine Go.via (st524) ?_
  clear st524
  have e524 : T524.heap = h0 := eh524
  clear X523 e523
  show Go p e below (T524.setTop (mkF m 91 #[vi p0, vi p1, vi p2, vi p3, vi p4, vi ov, vi n, vi b1, vi b2, vi b3, vi xx, vi dd, vi yy, vr v1, vr v2, vr v3, vr v4, .unset, .unset, .unset, .unset, .unset, .unset, .unset, .unset, .unset] [(.ref v5)])) _
  refine Go.via (fun _ => XS.astore X524.here hx rfl (hb hby at_91) rfl rfl (l' := #[vi p0, vi p1, vi p2, vi p3, vi p4, vi ov, vi n, vi b1, vi b2, vi b3, vi xx, vi dd, vi yy, vr v1, vr v2, vr v3, vr v4, vr v5, .unset, .unset, .unset, .unset, .unset, .unset, .unset, .unset]) rfl) ?_
  obtain ⟨T525, h525, X525, e525, E525, A525, D525, -, st525⟩ := newO X524 hx hZ hown (tw hw 10 rfl) (tw hw 11 rfl) (tw hw 12 rfl) e524 (g := (mkF m 93 #[vi p0, vi p1, vi p2, vi p3, vi p4, vi ov, vi n, vi b1, vi b2, vi b3, vi xx, vi dd, vi yy, vr v1, vr v2, vr v3, vr v4, vr v5, .unset, .unset, .unset, .unset, .unset, .unset, .unset, .unset] [])) rfl (hb hby at_93) (by decide) (by decide)
  obtain ⟨b525, g525⟩ : ∃ z, z = h0.size := ⟨_, rfl⟩
  rw [← g525] at A525 D525 st525
  have ge526 : n0 ≤ b525 := Nat.le_trans Z0 (Nat.le_of_eq g525.symm)
  have sz527 : h0.size ≤ b525 := Nat.le_trans (Keep.refl h0 []).1 (Nat.le_of_eq g525.symm)
  refine Go.via (st525) ?_
  clear st525
  have f528 : Fld Z h525 b525 cFI "part" "Ljava/util/List;" .null := D525 (Or.inl (tw hw 44 rfl)) (ty := (.object cLI)) (by decide)
  have f529 : Fld Z h525 b525 cFI "overhead" "I" (.int (0 : Int32)) := D525 (Or.inr (tw hw 46 rfl)) (ty := .int) (by decide)
  have f530 : Fld Z h525 b525 cFI "partBytes" "J" (.long (0 : Int64)) := D525 (Or.inl (tw hw 48 rfl)) (ty := .long) (by decide)
  clear X524 e524
  show Go p e below (T525.setTop (mkF m 96 #[vi p0, vi p1, vi p2, vi p3, vi p4, vi ov, vi n, vi b1, vi b2, vi b3, vi xx, vi dd, vi yy, vr v1, vr v2, vr v3, vr v4, vr v5, .unset, .unset, .unset, .unset, .unset, .unset, .unset, .unset] [(.ref b525)])) _
  refine Go.via (fun _ => XS.dup X525.here hx rfl (hb hby at_96) rfl rfl) ?_
  refine Go.via (fun _ => XS.iload X525.here hx rfl (hb hby at_97) rfl) ?_
  have o531 : Old Z n0 h525 := (P0.ext E525)
  have z533 : n0 ≤ h525.size := (Nat.le_trans Z0 E525.1)
  obtain ⟨r532, _, ⟨T532, L532, k532, n532⟩, -, X532, ⟨Lc532, hQ532, l532, y532, z532⟩, st532⟩ := X525.specialBack hx (y := (⟨cFI, "<init>", "(I)V"⟩ : MethodName)) rfl hown (mvT hZ (tw hw 13 rfl)) (mvT hZ (tw hw 14 rfl)) (mvT hZ (tw hw 15 rfl)) (by decide) (backOf (W := 1) (rmFi l Z a0 hw [] b525 ov de h525 n0 z533 A525 f528 f529 f530 o531 zD ge526) hZ (tw hw 15 rfl) (tw hw 12 rfl) (by decide) (by decide)) (g := (mkF m 99 #[vi p0, vi p1, vi p2, vi p3, vi p4, vi ov, vi n, vi b1, vi b2, vi b3, vi xx, vi dd, vi yy, vr v1, vr v2, vr v3, vr v4, vr v5, .unset, .unset, .unset, .unset, .unset, .unset, .unset, .unset] [(.int ov), (.ref b525), (.ref b525)])) rfl (by rw [hml]; rfl) (Steps.refl _) (a := b525) (argsL := [(.int ov)]) (rest := [(.ref b525)]) (lenOf pd__28I_29V rfl) rfl (by show 2 * 0 + _ ≤ _; exact Nat.le_of_eq rfl) (hb hby at_99) (fun _ _ => ⟨rfl, e525, (by decide : 1 + 1 ≤ _), (by decide : 3 + 3 ≤ _)⟩)
  dsimp only [Pt.U, Pt.locs, Pt.cells, Pt.slots] at X532 l532 y532 z532 st532 hQ532
  rw [l532, y532, z532] at X532
  clear l532 y532 z532
  obtain ⟨b534, hr532, N532q, K532q, fz_b534, f535, f536, f537, f538, f539, f540, f541, f542⟩ := hQ532
  rw [hr532] at st532
  clear hr532
  have N532 := Fr.app N524 N532q
  refine Go.via (fun _ kQ => st532.trans kQ) ?_
  clear st532
  have ne543 : b525 ≠ b534 := Nat.ne_of_lt (Nat.lt_of_lt_of_le A525.lt fz_b534)
  have ge544 : n0 ≤ b534 := Nat.le_trans z533 fz_b534
  have k546 : Keep h0 h525 [] := ((Keep.refl h0 []).ext E525)
  have sz545 : h0.size ≤ b534 := Nat.le_trans k546.1 fz_b534
  have e532 : T532.heap = T532.heap := rfl
  have f547 : Exa Z T532.heap b525 cFI := f535
  have f548 : Fld Z T532.heap b525 cFI "part" "Ljava/util/List;" (.ref b534) := f536
  have f549 : Fld Z T532.heap b525 cFI "overhead" "I" (.int ov) := f537
  have f550 : Fld Z T532.heap b525 cFI "partBytes" "J" (.long (ov.toInt64)) := f538
  have f551 : Exa Z T532.heap b534 cAL := f539
  have f552 : Fld Z T532.heap b534 cAB "modCount" "I" (.int (0 : Int32)) := f540
  have f553 : Fld Z T532.heap b534 cAL "elementData" cOA (.ref de) := f541
  have f554 : Fld Z T532.heap b534 cAL "size" "I" (.int (0 : Int32)) := f542
  clear X525 e525
  show Go p e below (T532.setTop (mkF m 102 #[vi p0, vi p1, vi p2, vi p3, vi p4, vi ov, vi n, vi b1, vi b2, vi b3, vi xx, vi dd, vi yy, vr v1, vr v2, vr v3, vr v4, vr v5, .unset, .unset, .unset, .unset, .unset, .unset, .unset, .unset] [(.ref b525)])) _
  refine Go.via (fun _ => XS.astore X532.here hx rfl (hb hby at_102) rfl rfl (l' := #[vi p0, vi p1, vi p2, vi p3, vi p4, vi ov, vi n, vi b1, vi b2, vi b3, vi xx, vi dd, vi yy, vr v1, vr v2, vr v3, vr v4, vr v5, vr b525, .unset, .unset, .unset, .unset, .unset, .unset, .unset]) rfl) ?_
  refine Go.via (fun _ => XS.iconst X532.here hx rfl (hb hby at_104)) ?_
  refine Go.via (fun _ => XS.istore X532.here hx rfl (hb hby at_105) rfl (l' := #[vi p0, vi p1, vi p2, vi p3, vi p4, vi ov, vi n, vi b1, vi b2, vi b3, vi xx, vi dd, vi yy, vr v1, vr v2, vr v3, vr v4, vr v5, vr b525, vi (1 : Int32), .unset, .unset, .unset, .unset, .unset, .unset]) rfl) ?_
  show Go p e below (T532.setTop (mkF m 107 #[vi p0, vi p1, vi p2, vi p3, vi p4, vi ov, vi n, vi b1, vi b2, vi b3, vi xx, vi dd, vi yy, vr v1, vr v2, vr v3, vr v4, vr v5, vr b525, vi (1 : Int32), .unset, .unset, .unset, .unset, .unset, .unset] [])) _
  rcases hn with rfl | rfl | rfl | rfl
  · have z828 : n0 ≤ T532.heap.size := (Nat.le_trans z533 K532q.1)
    have k829 : Keep h0 T532.heap [] := (k546.trans K532q (allS (Or.inr sz527) all0))
    have o830 : Old Z n0 T532.heap := (o531.keep K532q (allS ge526 all0))
    exact rm_rm0_c0 l Z a0 hw p0 p1 p2 p3 p4 de el ea ca cl v1 v2 v3 v4 v5 h0 n0 zD zN zL zH zC zLE zLF zLN zE1 zV1 zE2 zV2 zE3 zV3 zE4 zV4 zE5 zV5 hA hin1 hat1 hin2 hat2 hin3 hat3 hin4 hat4 hin5 hat5 hx hby hlk hml hown hZ Bd.returns T532 _ T532.heap ov b1 b2 b3 xx dd yy b525 b534 X532 e532 N532 z828 k829 o830 f547 f548 f549 f550 f551 f554 ne543 ge526 sz527 hv_ov hv_xx hv_dd hv_yy
  · have z1169 : n0 ≤ T532.heap.size := (Nat.le_trans z533 K532q.1)
    have k1170 : Keep h0 T532.heap [] := (k546.trans K532q (allS (Or.inr sz527) all0))
    have o1171 : Old Z n0 T532.heap := (o531.keep K532q (allS ge526 all0))
    exact rm_rm0_c1 l Z a0 hw p0 p1 p2 p3 p4 de el ea ca cl v1 v2 v3 v4 v5 h0 n0 zD zN zL zH zC zLE zLF zLN zE1 zV1 zE2 zV2 zE3 zV3 zE4 zV4 zE5 zV5 hA hin1 hat1 hin2 hat2 hin3 hat3 hin4 hat4 hin5 hat5 hx hby hlk hml hown hZ Bd.returns T532 _ T532.heap ov b1 b2 b3 xx dd yy b525 b534 X532 e532 N532 z1169 k1170 o1171 f547 f548 f549 f550 f551 f552 f553 f554 ne543 ge526 ge544 sz527 sz545 hv_ov hv_xx hv_dd hv_yy
  · have z1548 : n0 ≤ T532.heap.size := (Nat.le_trans z533 K532q.1)
    have k1549 : Keep h0 T532.heap [] := (k546.trans K532q (allS (Or.inr sz527) all0))
    have o1550 : Old Z n0 T532.heap := (o531.keep K532q (allS ge526 all0))
    exact rm_rm0_c2 l Z a0 hw p0 p1 p2 p3 p4 de el ea ca cl v1 v2 v3 v4 v5 h0 n0 zD zN zL zH zC zLE zLF zLN zE1 zV1 zE2 zV2 zE3 zV3 zE4 zV4 zE5 zV5 hA hin1 hat1 hin2 hat2 hin3 hat3 hin4 hat4 hin5 hat5 hx hby hlk hml hown hZ Bd.returns T532 _ T532.heap ov b1 b2 b3 xx dd yy b525 b534 X532 e532 N532 z1548 k1549 o1550 f547 f548 f549 f550 f551 f552 f553 f554 ne543 ge526 ge544 sz527 sz545 hv_ov hv_b1 hv_b2 hv_xx hv_dd hv_yy
  · have z1965 : n0 ≤ T532.heap.size := (Nat.le_trans z533 K532q.1)
    have k1966 : Keep h0 T532.heap [] := (k546.trans K532q (allS (Or.inr sz527) all0))
    have o1967 : Old Z n0 T532.heap := (o531.keep K532q (allS ge526 all0))
    exact rm_rm0_c3 l Z a0 hw p0 p1 p2 p3 p4 de el ea ca cl v1 v2 v3 v4 v5 h0 n0 zD zN zL zH zC zLE zLF zLN zE1 zV1 zE2 zV2 zE3 zV3 zE4 zV4 zE5 zV5 hA hin1 hat1 hin2 hat2 hin3 hat3 hin4 hat4 hin5 hat5 hx hby hlk hml hown hZ Bd.returns T532 _ T532.heap ov b1 b2 b3 xx dd yy b525 b534 X532 e532 N532 z1965 k1966 o1967 f547 f548 f549 f550 f551 f552 f553 f554 ne543 ge526 ge544 sz527 sz545 hv_ov hv_b1 hv_b2 hv_b3 hv_xx hv_dd hv_yy
theorem own_ei {args : Array Value} {s : State} {idx : List Nat} {t : Term} {n : Int32} (h : (Jvm.Cond.eq t (.int n)).value args s none s idx = some true) : t.eval args s none idx s = some (.int n) := by
  obtain ⟨x, y, h1, h2, k1, k2⟩ := cmp_v (Or.inl h)
  have e : y = .int n := Option.some.inj (h2.symm.trans (Term.int_eval n))
  subst e
  obtain ⟨z, rfl⟩ : ∃ z, x = .int z := k2
  have q := gotT (P := z = n) (by simp [Cond.value, h1, h2]) h
  rw [h1, q]
theorem own_rn {args : Array Value} {s : State} {t : Term} {a : Addr} {c : Cell} {ty : FieldType} {n : Int32} (ev : t.eval args s none [] s = some (.ref a)) (A : Arr s s.heap a c ty) (h : (Jvm.Cond.eq (.length t) (.int n)).value args s none s [] = some true) : c.slots.size.toInt32 = n ∧ c.slots.size < 2147483648 := by
  have e := own_ei h
  have ha : s.arrayAt? a = some c := A.fin (Vm.Alike.refl _)
  simp only [Term.eval, ev, ha, Option.bind_eq_bind, Option.bind_some] at e
  split at e
  · rename_i q; exact ⟨by simpa using e, q⟩
  · cases e
theorem own_ic {args : Array Value} {s : State} {ca : Addr} {cl : Cell} (ev : ∀ idx, (Term.static cIC "cache" "[Ljava/lang/Integer;").eval args s none idx s = some (.ref ca)) (A : Arr s s.heap ca cl (.object cIN))
    (hall : (Jvm.Cond.all (Term.static cIC "cache" "[Ljava/lang/Integer;") (Jvm.Cond.and (Jvm.Cond.exactly (Term.elem (Term.static cIC "cache" "[Ljava/lang/Integer;") (Term.index 0)) cIN) (Jvm.Cond.eq (Term.field (Term.elem (Term.static cIC "cache" "[Ljava/lang/Integer;") (Term.index 0)) cIN "value" "I") (Term.sub (Term.index 0) (Term.int 128))))).value args s none s [] = some true)
    (k : Nat) (i : Int32) (hk : k < cl.slots.size) (h1 : i + 128 = k.toInt32) (h2 : (i + (128 : Int32)).toNatClampNeg = k) (h3 : ¬ (i + (128 : Int32)) < 0) : ∃ b, (¬ ((i + (128 : Int32)) < 0 ∨ cl.slots.size ≤ (i + (128 : Int32)).toNatClampNeg)) ∧ cl.slots[(i + (128 : Int32)).toNatClampNeg]? = some (.ref b) ∧ Exa s s.heap b cIN ∧ Fld s s.heap b cIN "value" "I" (.int i) := by
  have ha : s.arrayAt? ca = some cl := A.fin (Vm.Alike.refl _)
  obtain ⟨q1, q2⟩ := and_e (Cond.all_elim (ev []) ha hall k hk)
  obtain ⟨b, eb⟩ := exa_v q1
  have ex := exa_at eb q1
  obtain ⟨x, y, y1, y2, k1, k2⟩ := cmp_v (Or.inl q2)
  have ei : (Term.index 0).eval args s none [k] s = some (.int k.toInt32) := Term.index_eval _
  have ey : (Term.sub (Term.index 0) (Term.int 128)).eval args s none [k] s = some (.int (k.toInt32 - 128)) := by simp [Term.eval]
  rw [ey] at y2
  obtain rfl := Option.some.inj y2
  obtain ⟨z, rfl⟩ : ∃ z, x = .int z := k2
  have ez : z = k.toInt32 - 128 := gotT (P := z = k.toInt32 - 128) (by simp [Cond.value, y1, ey]) q2
  rw [fld_at eb] at y1
  have eel := elem_in (cl := cl) eb (ev [k]) ei A.1
  have ek : k.toInt32.toNatClampNeg = k := by rw [← h1]; exact h2
  refine ⟨b, ?_, ?_, ex, ?_⟩
  · rw [h2]; rintro (q | q); exact h3 q; omega
  · rw [h2]; rw [ek] at eel; exact eel.2
  · have : z = i := by rw [ez, ← h1]; exact Int32.add_sub_cancel i 128
    rw [this] at y1; exact Fld.start y1
set_option maxRecDepth 65536 in
set_option maxHeartbeats 40000000 in
theorem comes_1 {Post : Tables → Env → Array Value → State → Outcome → State → Prop} (hpost : ∀ tb e args s v u, (limb_1_1.after args s (.returned v) u = true ∧ limb_1_2.after args s (.returned v) u = true ∧ True) → FrameEnd s (.returned v) u (Jvm.fieldLocs frame_1_writes args s ++ Jvm.arrayLocs frame_1_arrays args s ++ Jvm.staticLocs frame_1_statics s) 32 192 → Post tb e args s (.returned v) u) :
    ArmFor flags0 classFile x code maxLocals ret World_1 tables_1 room_1 Calls_1 rest_1 Pre_1 Post := by
  intro l hfl _ _ p e ha hc hk s m args below hf hA hF happ hP
  obtain ⟨hcalls, hrest, hpre⟩ := hP
  obtain ⟨-, -, -, hnamed, -, -, -, hat⟩ := (Spec.applies_iff hf).mp happ
  obtain ⟨hg, hn⟩ := and_e (Cond.before_iff.mp (show (Jvm.Cond.and given_1 narrow_1).before args s = true from hpre))
  obtain ⟨g0, r0⟩ := and_e hg
  obtain ⟨q0, r1⟩ := and_e r0
  obtain ⟨q1, r2⟩ := and_e r1
  obtain ⟨q2, r3⟩ := and_e r2
  obtain ⟨q3, r4⟩ := and_e r3
  have q4 := r4
  obtain ⟨w0, w1, w2, w3, w4, rfl⟩ : ∃ w0 w1 w2 w3 w4 : Value, args = #[w0, w1, w2, w3, w4] := by
    have hs : args.size = 5 := by simpa [Cond.value, given_1] using g0
    obtain ⟨L⟩ := args
    match L, hs with
    | [w0, w1, w2, w3, w4], _ => exact ⟨w0, w1, w2, w3, w4, rfl⟩
  have hw := fun d (hd : d ∈ tables_1) => atoms_spec (ws := Jvm.Cond.code x code maxLocals ret :: tables_1) hat d (List.mem_cons_of_mem _ hd)
  have hfit : Fit s := fun {y c} hc i hi => by
    obtain ⟨ha, rfl⟩ := Array.getElem?_eq_some_iff.mp hc
    have q := List.all_eq_true.mp ((Array.all_eq_true_iff_forall_mem.mp hF) _ (Array.getElem_mem ha)) i (List.mem_range.mpr hi)
    simpa [Array.getElem?_eq_getElem hi] using q
  obtain ⟨i0, ei0⟩ := is_v q0
  obtain rfl : w0 = (.int i0) := Option.some.inj ei0
  obtain ⟨i1, ei1⟩ := is_v q1
  obtain rfl : w1 = (.int i1) := Option.some.inj ei1
  obtain ⟨i2, ei2⟩ := is_v q2
  obtain rfl : w2 = (.int i2) := Option.some.inj ei2
  obtain ⟨i3, ei3⟩ := is_v q3
  obtain rfl : w3 = (.int i3) := Option.some.inj ei3
  obtain ⟨i4, ei4⟩ := is_v q4
  obtain rfl : w4 = (.int i4) := Option.some.inj ei4
  obtain ⟨hsets, hown0⟩ := atoms_of _ (rest_1_c_eq ▸ (show rest_1_c.before _ s = true from hrest))
  have zH := Sta.start (own_ei (Cond.before_iff.mp (hsets _ (List.mem_of_getElem? (i := 3) rfl)))) (Or.inl (hsets _ (List.mem_of_getElem? (i := 1) rfl)))
  obtain ⟨ca, eca⟩ := arr_v (Cond.before_iff.mp (hsets _ (List.mem_of_getElem? (i := 4) rfl)))
  obtain ⟨cl, hA⟩ := Arr.start eca (Cond.before_iff.mp (hsets _ (List.mem_of_getElem? (i := 4) rfl)))
  have zC := Sta.start eca (Or.inr ⟨(hw _ (List.mem_of_getElem? (i := 8) rfl)), (hsets _ (List.mem_of_getElem? (i := 2) rfl))⟩)
  have lca := own_rn eca hA (Cond.before_iff.mp (hsets _ (List.mem_of_getElem? (i := 6) rfl)))
  have lcs : cl.slots.size = 256 := by have q := lca.1; have q2 := congrArg Int32.toInt q; rw [Int32.toInt_ofNat_small lca.2] at q2; have : (256 : Int32).toInt = 256 := rfl; omega
  obtain ⟨v1, hin1, hat1, zE1, zV1⟩ := own_ic (fun idx => eca) hA (Cond.before_iff.mp (hsets _ (List.mem_of_getElem? (i := 7) rfl))) 129 (1 : Int32) (by rw [lcs]; decide) (by decide) (by decide) (by decide)
  obtain ⟨v2, hin2, hat2, zE2, zV2⟩ := own_ic (fun idx => eca) hA (Cond.before_iff.mp (hsets _ (List.mem_of_getElem? (i := 7) rfl))) 130 (2 : Int32) (by rw [lcs]; decide) (by decide) (by decide) (by decide)
  obtain ⟨v3, hin3, hat3, zE3, zV3⟩ := own_ic (fun idx => eca) hA (Cond.before_iff.mp (hsets _ (List.mem_of_getElem? (i := 7) rfl))) 131 (3 : Int32) (by rw [lcs]; decide) (by decide) (by decide) (by decide)
  obtain ⟨v4, hin4, hat4, zE4, zV4⟩ := own_ic (fun idx => eca) hA (Cond.before_iff.mp (hsets _ (List.mem_of_getElem? (i := 7) rfl))) 132 (4 : Int32) (by rw [lcs]; decide) (by decide) (by decide) (by decide)
  obtain ⟨v5, hin5, hat5, zE5, zV5⟩ := own_ic (fun idx => eca) hA (Cond.before_iff.mp (hsets _ (List.mem_of_getElem? (i := 7) rfl))) 133 (5 : Int32) (by rw [lcs]; decide) (by decide) (by decide) (by decide)
  obtain ⟨de, ede⟩ := arr_v (Cond.before_iff.mp (hsets _ (List.mem_of_getElem? (i := 14) rfl)))
  obtain ⟨cde, hde⟩ := Arr.start ede (Cond.before_iff.mp (hsets _ (List.mem_of_getElem? (i := 14) rfl)))
  have zD := Sta.start ede (Or.inr ⟨(hw _ (List.mem_of_getElem? (i := 21) rfl)), (hsets _ (List.mem_of_getElem? (i := 10) rfl))⟩)
  have zN : Rn s s.heap de 0 := ⟨_, _, hde, (own_rn ede hde (Cond.before_iff.mp (hsets _ (List.mem_of_getElem? (i := 16) rfl)))).1⟩
  obtain ⟨el, eel⟩ := exa_v (Cond.before_iff.mp (hsets _ (List.mem_of_getElem? (i := 19) rfl)))
  have zLE := Exa.start eel (Cond.before_iff.mp (hsets _ (List.mem_of_getElem? (i := 19) rfl)))
  have zL := Sta.start eel (Or.inl (hsets _ (List.mem_of_getElem? (i := 18) rfl)))
  obtain ⟨ea, eea⟩ := arr_v (Cond.before_iff.mp (hsets _ (List.mem_of_getElem? (i := 20) rfl)))
  obtain ⟨cea, hea⟩ := Arr.start eea (Cond.before_iff.mp (hsets _ (List.mem_of_getElem? (i := 20) rfl)))
  have zLN : Rn s s.heap ea 0 := ⟨_, _, hea, (own_rn eea hea (Cond.before_iff.mp (hsets _ (List.mem_of_getElem? (i := 22) rfl)))).1⟩
  have zLF := Fld.start ((fld_at eel).symm.trans eea)
  obtain ⟨n, o, h1, h2, h3, _, L, rfl, ⟨rfl, N, -⟩, hq⟩ := rm0 l s _ hw tables_1 i0 i1 i2 i3 i4 de el ea ca cl v1 v2 v3 v4 v5 s.heap s.heap.size (Nat.le_refl _) (Old.start s) zD zN zL zH zC zLE zLF zLN zE1 zV1 zE2 zV2 zE3 zV3 zE4 zV4 zE5 zV5 hA hin1 hat1 hin2 hat2 hin3 hat3 hin4 hat4 hin5 hat5 p e ha hc hk s m _ below hf ((Spec.applies_iff_loose hf).mp happ).1 ⟨rfl, State.Warmed39.refl s, rfl⟩ trivial
  refine ⟨n, _, h1, h2, h3, hpost _ _ _ _ _ _ ⟨Cond.after_iff.mpr rfl, Cond.after_iff.mpr (eq_i res_at (Term.int_eval (1)) rfl), trivial⟩ ⟨hq.1, hq.2.1, (hq.2.2.sift fun y hy => Or.inr (N y hy)).mono (by decide) (by decide)⟩⟩
theorem main_1_1 : Claimed_1_1 := comes_1 fun _ _ _ _ _ _ h hF => ⟨h.1, hF⟩
theorem main_1_2 : Claimed_1_2 := comes_1 fun _ _ _ _ _ _ h hF => ⟨h.2.1, hF⟩
end Jvm.Pilot.@@N@@
namespace Jvm.Pilot.@@N@@
open Jvm Jvm.ClassFile Sem Op Lib Jvm.Free Jvm.Stand Jvm.Pilot.@@N@@.Jvm.D
/-! MADE BY PROGRAM (witnessworld.py) out of the Statement's table words and the real class files: 32 classes; the members and pool entries that the words name. The judged class is class 1, her method 1. -/
namespace start1
open Jvm.ClassFile
def u (s : String) : CpInfo := .utf8 (stringToUtf16 s)
/-- a pool by its gaps: so many unusable entries, then the entry; so many at the end -/
def gap : Nat → List CpInfo → List CpInfo
  | 0, r => r
  | n + 1, r => .unusable :: gap n r
def poolList (es : List (Nat × CpInfo)) (last : Nat) : List CpInfo := es.foldr (fun e r => gap e.1 (e.2 :: r)) (gap last [])
def pool (es : List (Nat × CpInfo)) (last : Nat) : Array CpInfo := ⟨poolList es last⟩
def fileOf (pool : Array CpInfo) (this : Nat) (attrs : Array Attribute := #[]) (ms : Array MethodInfo := #[]) (fl : Nat := 33) (sup : Nat := 0) (ifs : Array Nat := #[]) (fds : Array FieldInfo := #[]) : ClassFile where
  minorVersion := 0
  majorVersion := 65
  constantPool := pool
  accessFlags := fl
  thisClass := this
  superClass := sup
  interfaces := ifs
  fields := fds
  methods := ms
  attributes := attrs
def plain (name : String) (sup : Option ClassId) : Class where
  name := name
  kind := .ordinary
  loader := none
  accessFlags := 33
  super := sup
  interfaces := #[]
  cf := none
  fields := #[]
  methods := #[]
  instanceTypes := #[]
  staticTypes := #[]
  resolved := #[]
  callSites := []
  init := .initialized
  statics := none
  mirror := none

def pool0 : Array CpInfo := pool [(5, u "<init>"), (0, u "()V"), (1, .class_ 10), (1, u "java/lang/Object")] 113

def k0c0 : Code := { maxStack := 0, maxLocals := 1, code := object_method_1_code, exceptionTable := #[], attributes := #[] }
def k0m0 : Method := { name := "<init>", desc := "()V", sig := { parameters := [], returnType := none }, accessFlags := 1, code := some k0c0 }
/-- java/lang/Object -/
def k0 : Class := { plain "java/lang/Object" none with
  accessFlags := 33
  interfaces := #[]
  cf := some (fileOf pool0 8 #[] #[{ accessFlags := 1, nameIndex := 5, descriptorIndex := 6, attributes := #[] }] 33 0 #[] #[])
  fields := #[]
  methods := #[k0m0]
  instanceTypes := #[]
  staticTypes := #[]
  resolved := Array.replicate 124 none
  statics := none }

def pool1 : Array CpInfo := pool [(2, .class_ 4), (1, u "java/lang/Object"), (0, u "<init>"), (0, u "()V"), (0, .integer 524287), (0, .integer 131071), (2, .integer 1048576), (0, .methodref 13 14), (0, .class_ 15), (0, .nameAndType 16 17), (0, u "java/lang/Integer"), (0, u "valueOf"), (0, u "(I)Ljava/lang/Integer;"), (0, .class_ 19), (0, u "com/example/quicksettle/quicksettle/Records$Filling"), (0, .methodref 18 21), (0, .nameAndType 5 22), (0, u "(I)V"), (0, .methodref 18 24), (0, .nameAndType 25 26), (0, u "add"), (0, u "(Ljava/lang/Object;I)Ljava/util/List;"), (0, .interfaceMethodref 28 29), (0, .class_ 30), (0, .nameAndType 31 32), (0, u "java/util/List"), (0, u "size"), (0, u "()I"), (0, .methodref 18 34), (0, .nameAndType 35 36), (0, u "last"), (0, u "()Ljava/util/List;"), (0, .interfaceMethodref 28 38), (0, .nameAndType 39 40), (0, u "get"), (0, u "(I)Ljava/lang/Object;"), (0, .methodref 13 42), (0, .nameAndType 43 32), (0, u "intValue"), (0, .class_ 45), (0, u "com/example/quicksettle/quicksettle/FillingLastPinLaw"), (2, u "law"), (0, u "(IIIII)Z")] 5

def k1m0 : Method := { name := "<init>", desc := "()V", sig := { parameters := [], returnType := none }, accessFlags := 1, code := none }
def k1c1 : Code := { maxStack := 3, maxLocals := 26, code := code, exceptionTable := #[], attributes := #[] }
def k1m1 : Method := { name := "law", desc := "(IIIII)Z", sig := { parameters := [.int, .int, .int, .int, .int], returnType := some .boolean }, accessFlags := 9, code := some k1c1 }
/-- com/example/quicksettle/quicksettle/FillingLastPinLaw -/
def k1 : Class := { plain "com/example/quicksettle/quicksettle/FillingLastPinLaw" (some 0) with
  accessFlags := 49
  interfaces := #[]
  cf := some (fileOf pool1 44 #[] #[{ accessFlags := 1, nameIndex := 5, descriptorIndex := 6, attributes := #[] }, { accessFlags := 9, nameIndex := 48, descriptorIndex := 49, attributes := #[] }] 49 2 #[] #[])
  fields := #[]
  methods := #[k1m0, k1m1]
  instanceTypes := #[]
  staticTypes := #[]
  resolved := Array.replicate 55 none
  statics := none }

def pool2 : Array CpInfo := pool [(1, .class_ 2), (0, u "java/io/Serializable"), (0, .class_ 4), (0, u "java/lang/Object")] 2

/-- java/io/Serializable -/
def k2 : Class := { plain "java/io/Serializable" (some 0) with
  accessFlags := 1537
  interfaces := #[]
  cf := some (fileOf pool2 1 #[] #[] 1537 3 #[] #[])
  fields := #[]
  methods := #[]
  instanceTypes := #[]
  staticTypes := #[]
  resolved := Array.replicate 7 none
  statics := none }

def pool3 : Array CpInfo := pool [(2, .class_ 4), (1, u "java/lang/Object"), (0, u "<init>"), (0, u "()V"), (1, .class_ 10), (1, u "java/lang/Number"), (2, .class_ 14), (0, u "java/io/Serializable"), (0, u "serialVersionUID"), (0, u "J")] 20

def k3m0 : Method := { name := "<init>", desc := "()V", sig := { parameters := [], returnType := none }, accessFlags := 1, code := none }
/-- java/lang/Number -/
def k3 : Class := { plain "java/lang/Number" (some 0) with
  accessFlags := 1057
  interfaces := #[2]
  cf := some (fileOf pool3 8 #[] #[{ accessFlags := 1, nameIndex := 5, descriptorIndex := 6, attributes := #[] }] 1057 2 #[13] #[{ accessFlags := 26, nameIndex := 15, descriptorIndex := 16, attributes := #[] }])
  fields := #[{ name := "serialVersionUID", type := .long, accessFlags := 26, slot := 0, constantValue := 0 }]
  methods := #[k3m0]
  instanceTypes := #[]
  staticTypes := #[.long]
  resolved := Array.replicate 37 none
  statics := none }

def pool4 : Array CpInfo := pool [(1, .class_ 2), (0, u "java/lang/Comparable"), (0, .class_ 4), (0, u "java/lang/Object")] 7

/-- java/lang/Comparable -/
def k4 : Class := { plain "java/lang/Comparable" (some 0) with
  accessFlags := 1537
  interfaces := #[]
  cf := some (fileOf pool4 1 #[] #[] 1537 3 #[] #[])
  fields := #[]
  methods := #[]
  instanceTypes := #[]
  staticTypes := #[]
  resolved := Array.replicate 12 none
  statics := none }

def pool5 : Array CpInfo := pool [(1, .class_ 2), (0, u "java/lang/constant/Constable"), (0, .class_ 4), (0, u "java/lang/Object")] 6

/-- java/lang/constant/Constable -/
def k5 : Class := { plain "java/lang/constant/Constable" (some 0) with
  accessFlags := 1537
  interfaces := #[]
  cf := some (fileOf pool5 1 #[] #[] 1537 3 #[] #[])
  fields := #[]
  methods := #[]
  instanceTypes := #[]
  staticTypes := #[]
  resolved := Array.replicate 11 none
  statics := none }

def pool6 : Array CpInfo := pool [(1, .class_ 2), (0, u "java/lang/constant/ConstantDesc"), (0, .class_ 4), (0, u "java/lang/Object")] 32

/-- java/lang/constant/ConstantDesc -/
def k6 : Class := { plain "java/lang/constant/ConstantDesc" (some 0) with
  accessFlags := 1537
  interfaces := #[]
  cf := some (fileOf pool6 1 #[] #[] 1537 3 #[] #[])
  fields := #[]
  methods := #[]
  instanceTypes := #[]
  staticTypes := #[]
  resolved := Array.replicate 37 none
  statics := none }

def pool7 : Array CpInfo := pool [(1, .class_ 2), (0, u "java/lang/Integer"), (16, u "digits"), (0, u "[C"), (64, u "DigitOnes"), (0, u "[B"), (2, u "DigitTens"), (31, u "()I"), (65, u "valueOf"), (0, u "(I)Ljava/lang/Integer;"), (0, .class_ 190), (0, u "java/lang/Integer$IntegerCache"), (0, .fieldref 189 192), (0, .nameAndType 193 194), (0, u "high"), (0, u "I"), (0, .fieldref 189 196), (0, .nameAndType 197 198), (0, u "cache"), (0, u "[Ljava/lang/Integer;"), (4, .class_ 204), (0, u "java/lang/Number"), (0, .fieldref 1 206), (0, .nameAndType 207 194), (0, u "value"), (5, u "intValue"), (88, u "TYPE"), (0, u "Ljava/lang/Class;"), (0, .class_ 305), (0, u "java/lang/Comparable"), (0, .class_ 307), (0, u "java/lang/constant/Constable"), (0, .class_ 309), (0, u "java/lang/constant/ConstantDesc"), (0, u "MIN_VALUE"), (1, u "MAX_VALUE"), (3, u "SIZE"), (1, u "BYTES"), (1, u "serialVersionUID"), (0, u "J")] 131

def k7c0 : Code := { maxStack := 3, maxLocals := 1, code := jdk_33_method_22_code, exceptionTable := #[], attributes := #[] }
def k7m0 : Method := { name := "valueOf", desc := "(I)Ljava/lang/Integer;", sig := { parameters := [.int], returnType := some (.object "java/lang/Integer") }, accessFlags := 9, code := some k7c0 }
def k7c1 : Code := { maxStack := 1, maxLocals := 1, code := jdk_33_method_27_code, exceptionTable := #[], attributes := #[] }
def k7m1 : Method := { name := "intValue", desc := "()I", sig := { parameters := [], returnType := some .int }, accessFlags := 1, code := some k7c1 }
/-- java/lang/Integer -/
def k7 : Class := { plain "java/lang/Integer" (some 3) with
  accessFlags := 49
  interfaces := #[4, 5, 6]
  cf := some (fileOf pool7 1 #[.nestMembers #[189]] #[{ accessFlags := 9, nameIndex := 187, descriptorIndex := 188, attributes := #[] }, { accessFlags := 1, nameIndex := 213, descriptorIndex := 121, attributes := #[] }] 49 203 #[304, 306, 308] #[{ accessFlags := 25, nameIndex := 310, descriptorIndex := 194, attributes := #[] }, { accessFlags := 25, nameIndex := 312, descriptorIndex := 194, attributes := #[] }, { accessFlags := 25, nameIndex := 302, descriptorIndex := 303, attributes := #[] }, { accessFlags := 24, nameIndex := 19, descriptorIndex := 20, attributes := #[] }, { accessFlags := 24, nameIndex := 89, descriptorIndex := 86, attributes := #[] }, { accessFlags := 24, nameIndex := 85, descriptorIndex := 86, attributes := #[] }, { accessFlags := 18, nameIndex := 207, descriptorIndex := 194, attributes := #[] }, { accessFlags := 25, nameIndex := 316, descriptorIndex := 194, attributes := #[] }, { accessFlags := 25, nameIndex := 318, descriptorIndex := 194, attributes := #[] }, { accessFlags := 26, nameIndex := 320, descriptorIndex := 321, attributes := #[] }])
  fields := #[{ name := "MIN_VALUE", type := .int, accessFlags := 25, slot := 0, constantValue := 0 }, { name := "MAX_VALUE", type := .int, accessFlags := 25, slot := 1, constantValue := 0 }, { name := "TYPE", type := (.object "java/lang/Class"), accessFlags := 25, slot := 2, constantValue := 0 }, { name := "digits", type := (.array .char), accessFlags := 24, slot := 3, constantValue := 0 }, { name := "DigitTens", type := (.array .byte), accessFlags := 24, slot := 4, constantValue := 0 }, { name := "DigitOnes", type := (.array .byte), accessFlags := 24, slot := 5, constantValue := 0 }, { name := "value", type := .int, accessFlags := 18, slot := 0, constantValue := 0 }, { name := "SIZE", type := .int, accessFlags := 25, slot := 6, constantValue := 0 }, { name := "BYTES", type := .int, accessFlags := 25, slot := 7, constantValue := 0 }, { name := "serialVersionUID", type := .long, accessFlags := 26, slot := 8, constantValue := 0 }]
  methods := #[k7m0, k7m1]
  instanceTypes := #[.int]
  staticTypes := #[.int, .int, (.object "java/lang/Class"), (.array .char), (.array .byte), (.array .byte), .int, .int, .long]
  resolved := Array.replicate 453 none
  statics := none }

def pool8 : Array CpInfo := pool [(2, .class_ 4), (1, u "java/lang/Object"), (0, u "<init>"), (0, u "()V"), (0, .class_ 8), (0, u "java/lang/Integer"), (7, .class_ 18), (1, u "java/lang/Integer$IntegerCache"), (0, u "$assertionsDisabled"), (0, u "Z"), (26, u "high"), (0, u "I"), (8, u "archivedCache"), (0, u "[Ljava/lang/Integer;"), (12, u "cache"), (0, u "low")] 27

def k8m0 : Method := { name := "<init>", desc := "()V", sig := { parameters := [], returnType := none }, accessFlags := 2, code := none }
/-- java/lang/Integer$IntegerCache -/
def k8 : Class := { plain "java/lang/Integer$IntegerCache" (some 0) with
  accessFlags := 48
  interfaces := #[]
  cf := some (fileOf pool8 16 #[.nestHost 7] #[{ accessFlags := 2, nameIndex := 5, descriptorIndex := 6, attributes := #[] }] 48 2 #[] #[{ accessFlags := 24, nameIndex := 72, descriptorIndex := 48, attributes := #[] }, { accessFlags := 24, nameIndex := 47, descriptorIndex := 48, attributes := #[] }, { accessFlags := 24, nameIndex := 71, descriptorIndex := 58, attributes := #[] }, { accessFlags := 8, nameIndex := 57, descriptorIndex := 58, attributes := #[] }, { accessFlags := 4120, nameIndex := 19, descriptorIndex := 20, attributes := #[] }])
  fields := #[{ name := "low", type := .int, accessFlags := 24, slot := 0, constantValue := 0 }, { name := "high", type := .int, accessFlags := 24, slot := 1, constantValue := 0 }, { name := "cache", type := (.array (.object "java/lang/Integer")), accessFlags := 24, slot := 2, constantValue := 0 }, { name := "archivedCache", type := (.array (.object "java/lang/Integer")), accessFlags := 8, slot := 3, constantValue := 0 }, { name := "$assertionsDisabled", type := .boolean, accessFlags := 4120, slot := 4, constantValue := 0 }]
  methods := #[k8m0]
  instanceTypes := #[]
  staticTypes := #[.int, .int, (.array (.object "java/lang/Integer")), (.array (.object "java/lang/Integer")), .boolean]
  resolved := Array.replicate 100 none
  statics := some 0 }

def pool9 : Array CpInfo := pool [(1, .class_ 2), (0, u "com/example/quicksettle/quicksettle/Records"), (0, .methodref 4 5), (0, .class_ 6), (0, .nameAndType 7 8), (0, u "java/lang/Object"), (0, u "<init>"), (0, u "()V"), (0, .class_ 10), (0, u "java/util/ArrayList"), (0, .methodref 9 5), (0, .fieldref 13 14), (0, .class_ 15), (0, .nameAndType 16 17), (0, u "com/example/quicksettle/quicksettle/Records$Filling"), (0, u "part"), (0, u "Ljava/util/List;"), (0, .fieldref 13 19), (0, .nameAndType 20 21), (0, u "overhead"), (0, u "I"), (0, .fieldref 13 23), (0, .nameAndType 24 25), (0, u "partBytes"), (0, u "J"), (0, .interfaceMethodref 27 28), (0, .class_ 29), (0, .nameAndType 30 31), (0, u "java/util/List"), (0, u "of"), (0, u "()Ljava/util/List;"), (0, .interfaceMethodref 27 33), (0, .nameAndType 34 35), (0, u "isEmpty"), (0, u "()Z"), (0, .long 1048576), (1, .interfaceMethodref 27 39), (0, .nameAndType 40 41), (0, u "add"), (0, u "(Ljava/lang/Object;)Z"), (2, u "(I)V"), (2, u "(Ljava/lang/Object;I)Ljava/util/List;"), (2, u "last")] 7

def k9c0 : Code := { maxStack := 3, maxLocals := 2, code := prog_66_method_1_code, exceptionTable := #[], attributes := #[] }
def k9m0 : Method := { name := "<init>", desc := "(I)V", sig := { parameters := [.int], returnType := none }, accessFlags := 0, code := some k9c0 }
def k9c1 : Code := { maxStack := 5, maxLocals := 4, code := prog_66_method_2_code, exceptionTable := #[], attributes := #[] }
def k9m1 : Method := { name := "add", desc := "(Ljava/lang/Object;I)Ljava/util/List;", sig := { parameters := [(.object "java/lang/Object"), .int], returnType := some (.object "java/util/List") }, accessFlags := 0, code := some k9c1 }
def k9c2 : Code := { maxStack := 3, maxLocals := 2, code := prog_66_method_3_code, exceptionTable := #[], attributes := #[] }
def k9m2 : Method := { name := "last", desc := "()Ljava/util/List;", sig := { parameters := [], returnType := some (.object "java/util/List") }, accessFlags := 0, code := some k9c2 }
/-- com/example/quicksettle/quicksettle/Records$Filling -/
def k9 : Class := { plain "com/example/quicksettle/quicksettle/Records$Filling" (some 0) with
  accessFlags := 48
  interfaces := #[]
  cf := some (fileOf pool9 13 #[.nestHost 1] #[{ accessFlags := 0, nameIndex := 7, descriptorIndex := 44, attributes := #[] }, { accessFlags := 0, nameIndex := 40, descriptorIndex := 47, attributes := #[] }, { accessFlags := 0, nameIndex := 50, descriptorIndex := 31, attributes := #[] }] 48 4 #[] #[{ accessFlags := 18, nameIndex := 20, descriptorIndex := 21, attributes := #[] }, { accessFlags := 2, nameIndex := 16, descriptorIndex := 17, attributes := #[] }, { accessFlags := 2, nameIndex := 24, descriptorIndex := 25, attributes := #[] }])
  fields := #[{ name := "overhead", type := .int, accessFlags := 18, slot := 0, constantValue := 0 }, { name := "part", type := (.object "java/util/List"), accessFlags := 2, slot := 1, constantValue := 0 }, { name := "partBytes", type := .long, accessFlags := 2, slot := 2, constantValue := 0 }]
  methods := #[k9m0, k9m1, k9m2]
  instanceTypes := #[.int, (.object "java/util/List"), .long]
  staticTypes := #[]
  resolved := Array.replicate 58 none
  statics := none }

def pool10 : Array CpInfo := pool [(8, .class_ 10), (1, u "java/lang/Iterable"), (24, .class_ 36), (0, u "java/lang/Object")] 25

/-- java/lang/Iterable -/
def k10 : Class := { plain "java/lang/Iterable" (some 0) with
  accessFlags := 1537
  interfaces := #[]
  cf := some (fileOf pool10 8 #[] #[] 1537 35 #[] #[])
  fields := #[]
  methods := #[]
  instanceTypes := #[]
  staticTypes := #[]
  resolved := Array.replicate 62 none
  statics := none }

def pool11 : Array CpInfo := pool [(10, .class_ 12), (1, u "java/util/Collection"), (47, .class_ 61), (0, u "java/lang/Object"), (0, .class_ 63), (0, u "java/lang/Iterable")] 51

/-- java/util/Collection -/
def k11 : Class := { plain "java/util/Collection" (some 0) with
  accessFlags := 1537
  interfaces := #[10]
  cf := some (fileOf pool11 10 #[] #[] 1537 60 #[62] #[])
  fields := #[]
  methods := #[]
  instanceTypes := #[]
  staticTypes := #[]
  resolved := Array.replicate 115 none
  statics := none }

def pool12 : Array CpInfo := pool [(1, .methodref 2 3), (0, .class_ 4), (0, .nameAndType 5 6), (0, u "java/lang/Object"), (0, u "<init>"), (0, u "()V"), (1, .class_ 10), (1, u "java/util/AbstractCollection"), (66, .class_ 78), (0, u "java/util/Collection")] 81

def k12c0 : Code := { maxStack := 1, maxLocals := 1, code := jdk_22_method_1_code, exceptionTable := #[], attributes := #[] }
def k12m0 : Method := { name := "<init>", desc := "()V", sig := { parameters := [], returnType := none }, accessFlags := 4, code := some k12c0 }
/-- java/util/AbstractCollection -/
def k12 : Class := { plain "java/util/AbstractCollection" (some 0) with
  accessFlags := 1057
  interfaces := #[11]
  cf := some (fileOf pool12 8 #[] #[{ accessFlags := 4, nameIndex := 5, descriptorIndex := 6, attributes := #[] }] 1057 2 #[77] #[])
  fields := #[]
  methods := #[k12m0]
  instanceTypes := #[]
  staticTypes := #[]
  resolved := Array.replicate 160 none
  statics := none }

def pool13 : Array CpInfo := pool [(8, .class_ 10), (1, u "java/util/SequencedCollection"), (15, .class_ 27), (0, u "java/lang/Object"), (0, .class_ 29), (0, u "java/util/Collection")] 27

/-- java/util/SequencedCollection -/
def k13 : Class := { plain "java/util/SequencedCollection" (some 0) with
  accessFlags := 1537
  interfaces := #[11]
  cf := some (fileOf pool13 8 #[] #[] 1537 26 #[28] #[])
  fields := #[]
  methods := #[]
  instanceTypes := #[]
  staticTypes := #[]
  resolved := Array.replicate 57 none
  statics := none }

def pool14 : Array CpInfo := pool [(8, .class_ 10), (1, u "java/util/List"), (7, u "()Z"), (41, u "add"), (3, u "(Ljava/lang/Object;)Z"), (2, u "isEmpty"), (7, u "get"), (0, u "(I)Ljava/lang/Object;"), (2, u "size"), (0, u "()I"), (7, u "of"), (1, .fieldref 91 92), (0, .class_ 93), (0, .nameAndType 94 95), (0, u "java/util/ImmutableCollections"), (0, u "EMPTY_LIST"), (0, u "Ljava/util/ImmutableCollections$ListN;"), (7, .class_ 104), (0, u "java/lang/Object"), (14, u "()Ljava/util/List;"), (0, .class_ 121), (0, u "java/util/SequencedCollection")] 129

def k14m0 : Method := { name := "size", desc := "()I", sig := { parameters := [], returnType := some .int }, accessFlags := 1025, code := none }
def k14m1 : Method := { name := "isEmpty", desc := "()Z", sig := { parameters := [], returnType := some .boolean }, accessFlags := 1025, code := none }
def k14m2 : Method := { name := "add", desc := "(Ljava/lang/Object;)Z", sig := { parameters := [(.object "java/lang/Object")], returnType := some .boolean }, accessFlags := 1025, code := none }
def k14m3 : Method := { name := "get", desc := "(I)Ljava/lang/Object;", sig := { parameters := [.int], returnType := some (.object "java/lang/Object") }, accessFlags := 1025, code := none }
def k14c4 : Code := { maxStack := 1, maxLocals := 0, code := jdk_40_method_36_code, exceptionTable := #[], attributes := #[] }
def k14m4 : Method := { name := "of", desc := "()Ljava/util/List;", sig := { parameters := [], returnType := some (.object "java/util/List") }, accessFlags := 9, code := some k14c4 }
/-- java/util/List -/
def k14 : Class := { plain "java/util/List" (some 0) with
  accessFlags := 1537
  interfaces := #[13]
  cf := some (fileOf pool14 8 #[] #[{ accessFlags := 1025, nameIndex := 79, descriptorIndex := 80, attributes := #[] }, { accessFlags := 1025, nameIndex := 67, descriptorIndex := 18, attributes := #[] }, { accessFlags := 1025, nameIndex := 60, descriptorIndex := 64, attributes := #[] }, { accessFlags := 1025, nameIndex := 75, descriptorIndex := 76, attributes := #[] }, { accessFlags := 9, nameIndex := 88, descriptorIndex := 119, attributes := #[] }] 1537 103 #[120] #[])
  fields := #[]
  methods := #[k14m0, k14m1, k14m2, k14m3, k14m4]
  instanceTypes := #[]
  staticTypes := #[]
  resolved := Array.replicate 251 none
  statics := none }

def pool15 : Array CpInfo := pool [(1, .methodref 2 3), (0, .class_ 4), (0, .nameAndType 5 6), (0, u "java/util/AbstractCollection"), (0, u "<init>"), (0, u "()V"), (0, .fieldref 8 9), (0, .class_ 10), (0, .nameAndType 11 12), (0, u "java/util/AbstractList"), (0, u "modCount"), (0, u "I"), (64, .class_ 78), (0, u "java/util/AbstractList$Itr"), (3, .class_ 83), (0, u "java/util/AbstractList$ListItr"), (9, .class_ 94), (0, u "java/util/AbstractList$RandomAccessSubList"), (3, .class_ 99), (0, u "java/util/AbstractList$SubList"), (33, .class_ 134), (0, u "java/util/List"), (73, .class_ 209), (0, u "java/util/AbstractList$SubList$1"), (0, .class_ 211), (0, u "java/util/AbstractList$RandomAccessSpliterator")] 6

def k15c0 : Code := { maxStack := 2, maxLocals := 1, code := jdk_39_method_1_code, exceptionTable := #[], attributes := #[] }
def k15m0 : Method := { name := "<init>", desc := "()V", sig := { parameters := [], returnType := none }, accessFlags := 4, code := some k15c0 }
/-- java/util/AbstractList -/
def k15 : Class := { plain "java/util/AbstractList" (some 12) with
  accessFlags := 1057
  interfaces := #[14]
  cf := some (fileOf pool15 8 #[.nestMembers #[93, 98, 208, 210, 82, 77]] #[{ accessFlags := 4, nameIndex := 5, descriptorIndex := 6, attributes := #[] }] 1057 2 #[133] #[{ accessFlags := 132, nameIndex := 11, descriptorIndex := 12, attributes := #[] }])
  fields := #[{ name := "modCount", type := .int, accessFlags := 132, slot := 0, constantValue := 0 }]
  methods := #[k15m0]
  instanceTypes := #[.int]
  staticTypes := #[]
  resolved := Array.replicate 218 none
  statics := none }

def pool16 : Array CpInfo := pool [(1, .class_ 2), (0, u "java/util/RandomAccess"), (0, .class_ 4), (0, u "java/lang/Object")] 2

/-- java/util/RandomAccess -/
def k16 : Class := { plain "java/util/RandomAccess" (some 0) with
  accessFlags := 1537
  interfaces := #[]
  cf := some (fileOf pool16 1 #[] #[] 1537 3 #[] #[])
  fields := #[]
  methods := #[]
  instanceTypes := #[]
  staticTypes := #[]
  resolved := Array.replicate 7 none
  statics := none }

def pool17 : Array CpInfo := pool [(1, .class_ 2), (0, u "java/lang/Cloneable"), (0, .class_ 4), (0, u "java/lang/Object")] 2

/-- java/lang/Cloneable -/
def k17 : Class := { plain "java/lang/Cloneable" (some 0) with
  accessFlags := 1537
  interfaces := #[]
  cf := some (fileOf pool17 1 #[] #[] 1537 3 #[] #[])
  fields := #[]
  methods := #[]
  instanceTypes := #[]
  staticTypes := #[]
  resolved := Array.replicate 7 none
  statics := none }

def pool18 : Array CpInfo := pool [(1, .methodref 2 3), (0, .class_ 4), (0, .nameAndType 5 6), (0, u "java/util/AbstractList"), (0, u "<init>"), (0, u "()V"), (0, .class_ 8), (0, u "java/lang/Object"), (0, .fieldref 10 11), (0, .class_ 12), (0, .nameAndType 13 14), (0, u "java/util/ArrayList"), (0, u "elementData"), (0, u "[Ljava/lang/Object;"), (2, u "EMPTY_ELEMENTDATA"), (21, .fieldref 10 40), (0, .nameAndType 41 14), (0, u "DEFAULTCAPACITY_EMPTY_ELEMENTDATA"), (5, u "()[Ljava/lang/Object;"), (0, .fieldref 10 49), (0, .nameAndType 50 51), (0, u "size"), (0, u "I"), (11, .fieldref 10 64), (0, .nameAndType 65 51), (0, u "modCount"), (3, .methodref 10 70), (0, .nameAndType 71 72), (0, u "grow"), (0, u "(I)[Ljava/lang/Object;"), (6, .methodref 80 81), (0, .class_ 82), (0, .nameAndType 83 84), (0, u "java/lang/Math"), (0, u "max"), (0, u "(II)I"), (11, u "(Ljava/lang/Object;)Z"), (21, .methodref 119 120), (0, .class_ 121), (0, .nameAndType 122 84), (0, u "java/util/Objects"), (0, u "checkIndex"), (0, .methodref 10 124), (0, .nameAndType 13 125), (0, u "(I)Ljava/lang/Object;"), (3, .methodref 10 130), (0, .nameAndType 71 47), (0, .methodref 10 132), (0, .nameAndType 133 134), (0, u "add"), (0, u "(Ljava/lang/Object;[Ljava/lang/Object;I)V"), (13, .class_ 149), (0, u "java/util/List"), (23, u "()Z"), (12, u "()I"), (75, .class_ 263), (0, u "java/util/ArrayList$ListItr"), (3, .class_ 268), (0, u "java/util/ArrayList$Itr"), (7, .class_ 277), (0, u "java/util/ArrayList$SubList"), (12, .class_ 291), (0, u "java/util/ArrayList$ArrayListSpliterator"), (37, .class_ 330), (0, u "java/util/RandomAccess"), (0, .class_ 332), (0, u "java/lang/Cloneable"), (0, .class_ 334), (0, u "java/io/Serializable"), (0, u "serialVersionUID"), (0, u "J"), (3, u "DEFAULT_CAPACITY"), (22, u "isEmpty"), (17, u "get"), (118, .class_ 501), (0, u "java/util/ArrayList$SubList$2"), (0, .class_ 503), (0, u "java/util/ArrayList$SubList$1")] 5

def k18c0 : Code := { maxStack := 2, maxLocals := 1, code := jdk_38_method_2_code, exceptionTable := #[], attributes := #[] }
def k18m0 : Method := { name := "<init>", desc := "()V", sig := { parameters := [], returnType := none }, accessFlags := 1, code := some k18c0 }
def k18c1 : Code := { maxStack := 4, maxLocals := 4, code := jdk_38_method_6_code, exceptionTable := #[], attributes := #[] }
def k18m1 : Method := { name := "grow", desc := "(I)[Ljava/lang/Object;", sig := { parameters := [.int], returnType := some (.array (.object "java/lang/Object")) }, accessFlags := 2, code := some k18c1 }
def k18c2 : Code := { maxStack := 3, maxLocals := 1, code := jdk_38_method_7_code, exceptionTable := #[], attributes := #[] }
def k18m2 : Method := { name := "grow", desc := "()[Ljava/lang/Object;", sig := { parameters := [], returnType := some (.array (.object "java/lang/Object")) }, accessFlags := 2, code := some k18c2 }
def k18c3 : Code := { maxStack := 1, maxLocals := 1, code := jdk_38_method_8_code, exceptionTable := #[], attributes := #[] }
def k18m3 : Method := { name := "size", desc := "()I", sig := { parameters := [], returnType := some .int }, accessFlags := 1, code := some k18c3 }
def k18c4 : Code := { maxStack := 1, maxLocals := 1, code := jdk_38_method_9_code, exceptionTable := #[], attributes := #[] }
def k18m4 : Method := { name := "isEmpty", desc := "()Z", sig := { parameters := [], returnType := some .boolean }, accessFlags := 1, code := some k18c4 }
def k18c5 : Code := { maxStack := 2, maxLocals := 2, code := jdk_38_method_18_code, exceptionTable := #[], attributes := #[] }
def k18m5 : Method := { name := "elementData", desc := "(I)Ljava/lang/Object;", sig := { parameters := [.int], returnType := some (.object "java/lang/Object") }, accessFlags := 0, code := some k18c5 }
def k18c6 : Code := { maxStack := 2, maxLocals := 2, code := jdk_38_method_20_code, exceptionTable := #[], attributes := #[] }
def k18m6 : Method := { name := "get", desc := "(I)Ljava/lang/Object;", sig := { parameters := [.int], returnType := some (.object "java/lang/Object") }, accessFlags := 1, code := some k18c6 }
def k18c7 : Code := { maxStack := 3, maxLocals := 4, code := jdk_38_method_24_code, exceptionTable := #[], attributes := #[] }
def k18m7 : Method := { name := "add", desc := "(Ljava/lang/Object;[Ljava/lang/Object;I)V", sig := { parameters := [(.object "java/lang/Object"), (.array (.object "java/lang/Object")), .int], returnType := none }, accessFlags := 2, code := some k18c7 }
def k18c8 : Code := { maxStack := 4, maxLocals := 2, code := jdk_38_method_25_code, exceptionTable := #[], attributes := #[] }
def k18m8 : Method := { name := "add", desc := "(Ljava/lang/Object;)Z", sig := { parameters := [(.object "java/lang/Object")], returnType := some .boolean }, accessFlags := 1, code := some k18c8 }
/-- java/util/ArrayList -/
def k18 : Class := { plain "java/util/ArrayList" (some 15) with
  accessFlags := 33
  interfaces := #[14, 16, 17, 2]
  cf := some (fileOf pool18 10 #[.nestMembers #[290, 276, 500, 502, 262, 267]] #[{ accessFlags := 1, nameIndex := 5, descriptorIndex := 6, attributes := #[] }, { accessFlags := 2, nameIndex := 71, descriptorIndex := 72, attributes := #[] }, { accessFlags := 2, nameIndex := 71, descriptorIndex := 47, attributes := #[] }, { accessFlags := 1, nameIndex := 50, descriptorIndex := 186, attributes := #[] }, { accessFlags := 1, nameIndex := 363, descriptorIndex := 173, attributes := #[] }, { accessFlags := 0, nameIndex := 13, descriptorIndex := 125, attributes := #[] }, { accessFlags := 1, nameIndex := 381, descriptorIndex := 125, attributes := #[] }, { accessFlags := 2, nameIndex := 133, descriptorIndex := 134, attributes := #[] }, { accessFlags := 1, nameIndex := 133, descriptorIndex := 96, attributes := #[] }] 33 2 #[148, 329, 331, 333] #[{ accessFlags := 26, nameIndex := 335, descriptorIndex := 336, attributes := #[] }, { accessFlags := 26, nameIndex := 340, descriptorIndex := 51, attributes := #[] }, { accessFlags := 26, nameIndex := 17, descriptorIndex := 14, attributes := #[] }, { accessFlags := 26, nameIndex := 41, descriptorIndex := 14, attributes := #[] }, { accessFlags := 128, nameIndex := 13, descriptorIndex := 14, attributes := #[] }, { accessFlags := 2, nameIndex := 50, descriptorIndex := 51, attributes := #[] }])
  fields := #[{ name := "serialVersionUID", type := .long, accessFlags := 26, slot := 0, constantValue := 0 }, { name := "DEFAULT_CAPACITY", type := .int, accessFlags := 26, slot := 1, constantValue := 0 }, { name := "EMPTY_ELEMENTDATA", type := (.array (.object "java/lang/Object")), accessFlags := 26, slot := 2, constantValue := 0 }, { name := "DEFAULTCAPACITY_EMPTY_ELEMENTDATA", type := (.array (.object "java/lang/Object")), accessFlags := 26, slot := 3, constantValue := 0 }, { name := "elementData", type := (.array (.object "java/lang/Object")), accessFlags := 128, slot := 1, constantValue := 0 }, { name := "size", type := .int, accessFlags := 2, slot := 2, constantValue := 0 }]
  methods := #[k18m0, k18m1, k18m2, k18m3, k18m4, k18m5, k18m6, k18m7, k18m8]
  instanceTypes := #[.int, (.array (.object "java/lang/Object")), .int]
  staticTypes := #[.long, .int, (.array (.object "java/lang/Object")), (.array (.object "java/lang/Object"))]
  resolved := Array.replicate 509 none
  statics := some 1 }

def pool19 : Array CpInfo := pool [(2, .class_ 4), (1, u "java/lang/Object"), (0, u "<init>"), (0, u "()V"), (3, .class_ 11), (0, u "java/util/ImmutableCollections$List12"), (0, .class_ 13), (0, u "java/util/ImmutableCollections$ListN"), (3, u "Z"), (29, .class_ 49), (1, u "java/util/ImmutableCollections"), (0, u "$assertionsDisabled"), (5, u "[Ljava/lang/Object;"), (5, u "EMPTY_LIST"), (0, u "Ljava/util/ImmutableCollections$ListN;"), (8, u "EMPTY_LIST_NULLS"), (22, u "SALT32L"), (0, u "J"), (2, u "REVERSE"), (6, u "archivedObjects"), (2, u "EMPTY"), (0, u "Ljava/lang/Object;"), (0, .class_ 112), (0, u "java/util/ImmutableCollections$SetN"), (5, u "EMPTY_SET"), (0, u "Ljava/util/ImmutableCollections$SetN;"), (0, .class_ 121), (0, u "java/util/ImmutableCollections$MapN"), (3, u "EMPTY_MAP"), (0, u "Ljava/util/ImmutableCollections$MapN;"), (4, u "EXPAND_FACTOR"), (0, u "I"), (36, .class_ 170), (0, u "java/util/ImmutableCollections$MapN$MapNIterator"), (0, .class_ 172), (0, u "java/util/ImmutableCollections$MapN$1"), (0, .class_ 174), (0, u "java/util/ImmutableCollections$Map1"), (0, .class_ 176), (0, u "java/util/ImmutableCollections$AbstractImmutableMap"), (0, .class_ 178), (0, u "java/util/ImmutableCollections$SetN$SetNIterator"), (0, .class_ 180), (0, u "java/util/ImmutableCollections$Set12"), (0, .class_ 182), (0, u "java/util/ImmutableCollections$Set12$1"), (0, .class_ 184), (0, u "java/util/ImmutableCollections$AbstractImmutableSet"), (0, .class_ 186), (0, u "java/util/ImmutableCollections$SubList"), (0, .class_ 188), (0, u "java/util/ImmutableCollections$ListItr"), (0, .class_ 190), (0, u "java/util/ImmutableCollections$AbstractImmutableList"), (0, .class_ 192), (0, u "java/util/ImmutableCollections$AbstractImmutableCollection"), (0, .class_ 194), (0, u "java/util/ImmutableCollections$Access"), (0, .class_ 196), (0, u "java/util/ImmutableCollections$Access$1")] 16

def k19m0 : Method := { name := "<init>", desc := "()V", sig := { parameters := [], returnType := none }, accessFlags := 2, code := none }
/-- java/util/ImmutableCollections -/
def k19 : Class := { plain "java/util/ImmutableCollections" (some 0) with
  accessFlags := 32
  interfaces := #[]
  cf := some (fileOf pool19 47 #[.nestMembers #[120, 169, 171, 173, 175, 111, 177, 179, 181, 183, 12, 10, 185, 187, 189, 191, 193, 195]] #[{ accessFlags := 2, nameIndex := 5, descriptorIndex := 6, attributes := #[] }] 32 2 #[] #[{ accessFlags := 26, nameIndex := 95, descriptorIndex := 96, attributes := #[] }, { accessFlags := 26, nameIndex := 99, descriptorIndex := 17, attributes := #[] }, { accessFlags := 10, nameIndex := 106, descriptorIndex := 56, attributes := #[] }, { accessFlags := 26, nameIndex := 109, descriptorIndex := 110, attributes := #[] }, { accessFlags := 24, nameIndex := 62, descriptorIndex := 63, attributes := #[] }, { accessFlags := 24, nameIndex := 72, descriptorIndex := 63, attributes := #[] }, { accessFlags := 24, nameIndex := 118, descriptorIndex := 119, attributes := #[] }, { accessFlags := 24, nameIndex := 125, descriptorIndex := 126, attributes := #[] }, { accessFlags := 24, nameIndex := 131, descriptorIndex := 132, attributes := #[] }, { accessFlags := 4120, nameIndex := 50, descriptorIndex := 17, attributes := #[] }])
  fields := #[{ name := "SALT32L", type := .long, accessFlags := 26, slot := 0, constantValue := 0 }, { name := "REVERSE", type := .boolean, accessFlags := 26, slot := 1, constantValue := 0 }, { name := "archivedObjects", type := (.array (.object "java/lang/Object")), accessFlags := 10, slot := 2, constantValue := 0 }, { name := "EMPTY", type := (.object "java/lang/Object"), accessFlags := 26, slot := 3, constantValue := 0 }, { name := "EMPTY_LIST", type := (.object "java/util/ImmutableCollections$ListN"), accessFlags := 24, slot := 4, constantValue := 0 }, { name := "EMPTY_LIST_NULLS", type := (.object "java/util/ImmutableCollections$ListN"), accessFlags := 24, slot := 5, constantValue := 0 }, { name := "EMPTY_SET", type := (.object "java/util/ImmutableCollections$SetN"), accessFlags := 24, slot := 6, constantValue := 0 }, { name := "EMPTY_MAP", type := (.object "java/util/ImmutableCollections$MapN"), accessFlags := 24, slot := 7, constantValue := 0 }, { name := "EXPAND_FACTOR", type := .int, accessFlags := 24, slot := 8, constantValue := 0 }, { name := "$assertionsDisabled", type := .boolean, accessFlags := 4120, slot := 9, constantValue := 0 }]
  methods := #[k19m0]
  instanceTypes := #[]
  staticTypes := #[.long, .boolean, (.array (.object "java/lang/Object")), (.object "java/lang/Object"), (.object "java/util/ImmutableCollections$ListN"), (.object "java/util/ImmutableCollections$ListN"), (.object "java/util/ImmutableCollections$SetN"), (.object "java/util/ImmutableCollections$MapN"), .int, .boolean]
  resolved := Array.replicate 213 none
  statics := some 2 }

def pool20 : Array CpInfo := pool [(1, .class_ 2), (0, u "java/lang/Math"), (1, .class_ 6), (1, u "java/lang/Object"), (0, u "<init>"), (0, u "()V"), (89, .class_ 100), (1, u "java/lang/Math$RandomNumberGeneratorHolder"), (71, u "negativeZeroFloatBits"), (0, u "J"), (2, u "negativeZeroDoubleBits"), (21, u "max"), (46, u "$assertionsDisabled"), (0, u "Z"), (88, u "(II)I"), (2, u "twoToTheDoubleScaleDown"), (0, u "D"), (4, u "twoToTheDoubleScaleUp"), (9, u "E"), (3, u "PI"), (2, u "TAU"), (2, u "DEGREES_TO_RADIANS"), (0, u "RADIANS_TO_DEGREES")] 94

def k20m0 : Method := { name := "<init>", desc := "()V", sig := { parameters := [], returnType := none }, accessFlags := 2, code := none }
def k20c1 : Code := { maxStack := 2, maxLocals := 2, code := jdk_29_method_65_code, exceptionTable := #[], attributes := #[] }
def k20m1 : Method := { name := "max", desc := "(II)I", sig := { parameters := [.int, .int], returnType := some .int }, accessFlags := 9, code := some k20c1 }
/-- java/lang/Math -/
def k20 : Class := { plain "java/lang/Math" (some 0) with
  accessFlags := 49
  interfaces := #[]
  cf := some (fileOf pool20 1 #[.nestMembers #[98]] #[{ accessFlags := 2, nameIndex := 7, descriptorIndex := 8, attributes := #[] }, { accessFlags := 9, nameIndex := 198, descriptorIndex := 335, attributes := #[] }] 49 4 #[] #[{ accessFlags := 25, nameIndex := 354, descriptorIndex := 339, attributes := #[] }, { accessFlags := 25, nameIndex := 358, descriptorIndex := 339, attributes := #[] }, { accessFlags := 25, nameIndex := 361, descriptorIndex := 339, attributes := #[] }, { accessFlags := 26, nameIndex := 364, descriptorIndex := 339, attributes := #[] }, { accessFlags := 26, nameIndex := 365, descriptorIndex := 339, attributes := #[] }, { accessFlags := 26, nameIndex := 172, descriptorIndex := 173, attributes := #[] }, { accessFlags := 26, nameIndex := 176, descriptorIndex := 173, attributes := #[] }, { accessFlags := 8, nameIndex := 344, descriptorIndex := 339, attributes := #[] }, { accessFlags := 8, nameIndex := 338, descriptorIndex := 339, attributes := #[] }, { accessFlags := 4120, nameIndex := 245, descriptorIndex := 246, attributes := #[] }])
  fields := #[{ name := "E", type := .double, accessFlags := 25, slot := 0, constantValue := 0 }, { name := "PI", type := .double, accessFlags := 25, slot := 1, constantValue := 0 }, { name := "TAU", type := .double, accessFlags := 25, slot := 2, constantValue := 0 }, { name := "DEGREES_TO_RADIANS", type := .double, accessFlags := 26, slot := 3, constantValue := 0 }, { name := "RADIANS_TO_DEGREES", type := .double, accessFlags := 26, slot := 4, constantValue := 0 }, { name := "negativeZeroFloatBits", type := .long, accessFlags := 26, slot := 5, constantValue := 0 }, { name := "negativeZeroDoubleBits", type := .long, accessFlags := 26, slot := 6, constantValue := 0 }, { name := "twoToTheDoubleScaleUp", type := .double, accessFlags := 8, slot := 7, constantValue := 0 }, { name := "twoToTheDoubleScaleDown", type := .double, accessFlags := 8, slot := 8, constantValue := 0 }, { name := "$assertionsDisabled", type := .boolean, accessFlags := 4120, slot := 9, constantValue := 0 }]
  methods := #[k20m0, k20m1]
  instanceTypes := #[]
  staticTypes := #[.double, .double, .double, .double, .double, .long, .long, .double, .double, .boolean]
  resolved := Array.replicate 460 none
  statics := none }

def pool21 : Array CpInfo := pool [(2, .class_ 4), (1, u "java/util/AbstractCollection"), (0, u "<init>"), (0, u "()V"), (1, .class_ 10), (1, u "java/util/ImmutableCollections"), (2, .class_ 14), (0, u "java/util/ImmutableCollections$AbstractImmutableCollection")] 41

def k21m0 : Method := { name := "<init>", desc := "()V", sig := { parameters := [], returnType := none }, accessFlags := 0, code := none }
/-- java/util/ImmutableCollections$AbstractImmutableCollection -/
def k21 : Class := { plain "java/util/ImmutableCollections$AbstractImmutableCollection" (some 12) with
  accessFlags := 1056
  interfaces := #[]
  cf := some (fileOf pool21 13 #[.nestHost 8] #[{ accessFlags := 0, nameIndex := 5, descriptorIndex := 6, attributes := #[] }] 1056 2 #[] #[])
  fields := #[]
  methods := #[k21m0]
  instanceTypes := #[]
  staticTypes := #[]
  resolved := Array.replicate 56 none
  statics := none }

def pool22 : Array CpInfo := pool [(2, .class_ 4), (1, u "java/util/ImmutableCollections$AbstractImmutableCollection"), (0, u "<init>"), (0, u "()V"), (1, .class_ 10), (1, u "java/util/ImmutableCollections"), (3, .class_ 16), (1, u "java/util/ImmutableCollections$AbstractImmutableList"), (60, .class_ 78), (0, u "java/util/List"), (45, .class_ 125), (0, u "java/util/RandomAccess")] 70

def k22m0 : Method := { name := "<init>", desc := "()V", sig := { parameters := [], returnType := none }, accessFlags := 0, code := none }
/-- java/util/ImmutableCollections$AbstractImmutableList -/
def k22 : Class := { plain "java/util/ImmutableCollections$AbstractImmutableList" (some 21) with
  accessFlags := 1056
  interfaces := #[14, 16]
  cf := some (fileOf pool22 14 #[.nestHost 8] #[{ accessFlags := 0, nameIndex := 5, descriptorIndex := 6, attributes := #[] }] 1056 2 #[77, 124] #[])
  fields := #[]
  methods := #[k22m0]
  instanceTypes := #[]
  staticTypes := #[]
  resolved := Array.replicate 196 none
  statics := none }

def pool23 : Array CpInfo := pool [(2, .class_ 4), (1, u "java/util/ImmutableCollections$AbstractImmutableList"), (2, .fieldref 8 9), (0, .class_ 10), (0, .nameAndType 11 12), (0, u "java/util/ImmutableCollections$ListN"), (0, u "elements"), (0, u "[Ljava/lang/Object;"), (2, u "allowNulls"), (0, u "Z"), (42, .class_ 60), (0, u "java/io/Serializable"), (16, u "size"), (0, u "()I"), (35, .class_ 115), (0, u "java/util/ImmutableCollections")] 3

def k23c0 : Code := { maxStack := 1, maxLocals := 1, code := jdk_45_method_3_code, exceptionTable := #[], attributes := #[] }
def k23m0 : Method := { name := "size", desc := "()I", sig := { parameters := [], returnType := some .int }, accessFlags := 1, code := some k23c0 }
/-- java/util/ImmutableCollections$ListN -/
def k23 : Class := { plain "java/util/ImmutableCollections$ListN" (some 22) with
  accessFlags := 48
  interfaces := #[2]
  cf := some (fileOf pool23 8 #[.nestHost 114] #[{ accessFlags := 1, nameIndex := 77, descriptorIndex := 78, attributes := #[] }] 48 2 #[59] #[{ accessFlags := 18, nameIndex := 11, descriptorIndex := 12, attributes := #[] }, { accessFlags := 18, nameIndex := 15, descriptorIndex := 16, attributes := #[] }])
  fields := #[{ name := "elements", type := (.array (.object "java/lang/Object")), accessFlags := 18, slot := 0, constantValue := 0 }, { name := "allowNulls", type := .boolean, accessFlags := 18, slot := 1, constantValue := 0 }]
  methods := #[k23m0]
  instanceTypes := #[(.array (.object "java/lang/Object")), .boolean]
  staticTypes := #[]
  resolved := Array.replicate 119 none
  statics := none }

def pool24 : Array CpInfo := pool [(2, .class_ 4), (1, u "java/lang/Object"), (0, u "<init>"), (0, u "()V"), (35, .class_ 44), (1, u "java/util/Objects"), (60, .methodref 106 107), (0, .class_ 108), (0, .nameAndType 109 110), (0, u "jdk/internal/util/Preconditions"), (0, u "checkIndex"), (0, u "(IILjava/util/function/BiFunction;)I"), (60, u "(II)I")] 12

def k24m0 : Method := { name := "<init>", desc := "()V", sig := { parameters := [], returnType := none }, accessFlags := 2, code := none }
def k24c1 : Code := { maxStack := 3, maxLocals := 2, code := jdk_31_method_17_code, exceptionTable := #[], attributes := #[] }
def k24m1 : Method := { name := "checkIndex", desc := "(II)I", sig := { parameters := [.int, .int], returnType := some .int }, accessFlags := 9, code := some k24c1 }
/-- java/util/Objects -/
def k24 : Class := { plain "java/util/Objects" (some 0) with
  accessFlags := 49
  interfaces := #[]
  cf := some (fileOf pool24 42 #[] #[{ accessFlags := 2, nameIndex := 5, descriptorIndex := 6, attributes := #[] }, { accessFlags := 9, nameIndex := 109, descriptorIndex := 171, attributes := #[] }] 49 2 #[] #[])
  fields := #[]
  methods := #[k24m0, k24m1]
  instanceTypes := #[]
  staticTypes := #[]
  resolved := Array.replicate 184 none
  statics := none }

def pool25 : Array CpInfo := pool [(2, .class_ 4), (1, u "java/lang/Object"), (0, u "<init>"), (0, u "()V"), (17, .class_ 26), (1, u "jdk/internal/util/Preconditions"), (6, u "checkIndex"), (21, .class_ 56), (0, u "jdk/internal/util/Preconditions$4"), (57, .class_ 115), (0, u "jdk/internal/util/Preconditions$1"), (7, u "SIOOBE_FORMATTER"), (0, u "Ljava/util/function/BiFunction;"), (0, .class_ 126), (0, u "jdk/internal/util/Preconditions$2"), (3, u "AIOOBE_FORMATTER"), (0, .class_ 132), (0, u "jdk/internal/util/Preconditions$3"), (3, u "IOOBE_FORMATTER"), (41, u "(IILjava/util/function/BiFunction;)I")] 15

def k25m0 : Method := { name := "<init>", desc := "()V", sig := { parameters := [], returnType := none }, accessFlags := 1, code := none }
def k25c1 : Code := { maxStack := 3, maxLocals := 3, code := jdk_41_method_11_code, exceptionTable := #[], attributes := #[] }
def k25m1 : Method := { name := "checkIndex", desc := "(IILjava/util/function/BiFunction;)I", sig := { parameters := [.int, .int, (.object "java/util/function/BiFunction")], returnType := some .int }, accessFlags := 9, code := some k25c1 }
/-- jdk/internal/util/Preconditions -/
def k25 : Class := { plain "jdk/internal/util/Preconditions" (some 0) with
  accessFlags := 33
  interfaces := #[]
  cf := some (fileOf pool25 24 #[.nestMembers #[55, 131, 125, 114]] #[{ accessFlags := 1, nameIndex := 5, descriptorIndex := 6, attributes := #[] }, { accessFlags := 9, nameIndex := 33, descriptorIndex := 178, attributes := #[] }] 33 2 #[] #[{ accessFlags := 25, nameIndex := 123, descriptorIndex := 124, attributes := #[] }, { accessFlags := 25, nameIndex := 130, descriptorIndex := 124, attributes := #[] }, { accessFlags := 25, nameIndex := 136, descriptorIndex := 124, attributes := #[] }])
  fields := #[{ name := "SIOOBE_FORMATTER", type := (.object "java/util/function/BiFunction"), accessFlags := 25, slot := 0, constantValue := 0 }, { name := "AIOOBE_FORMATTER", type := (.object "java/util/function/BiFunction"), accessFlags := 25, slot := 1, constantValue := 0 }, { name := "IOOBE_FORMATTER", type := (.object "java/util/function/BiFunction"), accessFlags := 25, slot := 2, constantValue := 0 }]
  methods := #[k25m0, k25m1]
  instanceTypes := #[]
  staticTypes := #[(.object "java/util/function/BiFunction"), (.object "java/util/function/BiFunction"), (.object "java/util/function/BiFunction")]
  resolved := Array.replicate 194 none
  statics := none }

/-- the primitive byte -/
def k26 : Class := { plain "byte" none with kind := .primitive 'B', accessFlags := 0x411 }
/-- [B -/
def k27 : Class := { plain "[B" (some 0) with kind := .array 26 .byte, interfaces := #[17, 2], accessFlags := 1041 }

/-- the primitive int -/
def k28 : Class := { plain "int" none with kind := .primitive 'I', accessFlags := 0x411 }
/-- [I -/
def k29 : Class := { plain "[I" (some 0) with kind := .array 28 .int, interfaces := #[17, 2], accessFlags := 1041 }

/-- [Ljava/lang/Integer; -/
def k30 : Class := { plain "[Ljava/lang/Integer;" (some 0) with kind := .array 7 (.object "java/lang/Integer"), interfaces := #[17, 2], accessFlags := 1041 }

/-- [Ljava/lang/Object; -/
def k31 : Class := { plain "[Ljava/lang/Object;" (some 0) with kind := .array 0 (.object "java/lang/Object"), interfaces := #[17, 2], accessFlags := 1041 }

def heap : Heap := #[{ cls := 8, slots := #[.int 0, .int 127, .ref 3, .null, .int 0], vm := .statics 8 },
  { cls := 18, slots := #[.long 0, .int 0, .ref 262, .ref 263], vm := .statics 18 },
  { cls := 19, slots := #[.long 0, .int 0, .null, .null, .ref 261, .null, .null, .null, .int 0, .int 0], vm := .statics 19 },
  { cls := 30, slots := #[.ref 5, .ref 6, .ref 7, .ref 8, .ref 9, .ref 10, .ref 11, .ref 12, .ref 13, .ref 14, .ref 15, .ref 16, .ref 17, .ref 18, .ref 19, .ref 20, .ref 21, .ref 22, .ref 23, .ref 24, .ref 25, .ref 26, .ref 27, .ref 28, .ref 29, .ref 30, .ref 31, .ref 32, .ref 33, .ref 34, .ref 35, .ref 36, .ref 37, .ref 38, .ref 39, .ref 40, .ref 41, .ref 42, .ref 43, .ref 44, .ref 45, .ref 46, .ref 47, .ref 48, .ref 49, .ref 50, .ref 51, .ref 52, .ref 53, .ref 54, .ref 55, .ref 56, .ref 57, .ref 58, .ref 59, .ref 60, .ref 61, .ref 62, .ref 63, .ref 64, .ref 65, .ref 66, .ref 67, .ref 68, .ref 69, .ref 70, .ref 71, .ref 72, .ref 73, .ref 74, .ref 75, .ref 76, .ref 77, .ref 78, .ref 79, .ref 80, .ref 81, .ref 82, .ref 83, .ref 84, .ref 85, .ref 86, .ref 87, .ref 88, .ref 89, .ref 90, .ref 91, .ref 92, .ref 93, .ref 94, .ref 95, .ref 96, .ref 97, .ref 98, .ref 99, .ref 100, .ref 101, .ref 102, .ref 103, .ref 104, .ref 105, .ref 106, .ref 107, .ref 108, .ref 109, .ref 110, .ref 111, .ref 112, .ref 113, .ref 114, .ref 115, .ref 116, .ref 117, .ref 118, .ref 119, .ref 120, .ref 121, .ref 122, .ref 123, .ref 124, .ref 125, .ref 126, .ref 127, .ref 128, .ref 129, .ref 130, .ref 131, .ref 132, .ref 133, .ref 134, .ref 135, .ref 136, .ref 137, .ref 138, .ref 139, .ref 140, .ref 141, .ref 142, .ref 143, .ref 144, .ref 145, .ref 146, .ref 147, .ref 148, .ref 149, .ref 150, .ref 151, .ref 152, .ref 153, .ref 154, .ref 155, .ref 156, .ref 157, .ref 158, .ref 159, .ref 160, .ref 161, .ref 162, .ref 163, .ref 164, .ref 165, .ref 166, .ref 167, .ref 168, .ref 169, .ref 170, .ref 171, .ref 172, .ref 173, .ref 174, .ref 175, .ref 176, .ref 177, .ref 178, .ref 179, .ref 180, .ref 181, .ref 182, .ref 183, .ref 184, .ref 185, .ref 186, .ref 187, .ref 188, .ref 189, .ref 190, .ref 191, .ref 192, .ref 193, .ref 194, .ref 195, .ref 196, .ref 197, .ref 198, .ref 199, .ref 200, .ref 201, .ref 202, .ref 203, .ref 204, .ref 205, .ref 206, .ref 207, .ref 208, .ref 209, .ref 210, .ref 211, .ref 212, .ref 213, .ref 214, .ref 215, .ref 216, .ref 217, .ref 218, .ref 219, .ref 220, .ref 221, .ref 222, .ref 223, .ref 224, .ref 225, .ref 226, .ref 227, .ref 228, .ref 229, .ref 230, .ref 231, .ref 232, .ref 233, .ref 234, .ref 235, .ref 236, .ref 237, .ref 238, .ref 239, .ref 240, .ref 241, .ref 242, .ref 243, .ref 244, .ref 245, .ref 246, .ref 247, .ref 248, .ref 249, .ref 250, .ref 251, .ref 252, .ref 253, .ref 254, .ref 255, .ref 256, .ref 257, .ref 258, .ref 259, .ref 260], vm := .none },
  { cls := 31, slots := #[], vm := .none },
  { cls := 7, slots := #[.int (-128)], vm := .none },
  { cls := 7, slots := #[.int (-127)], vm := .none },
  { cls := 7, slots := #[.int (-126)], vm := .none },
  { cls := 7, slots := #[.int (-125)], vm := .none },
  { cls := 7, slots := #[.int (-124)], vm := .none },
  { cls := 7, slots := #[.int (-123)], vm := .none },
  { cls := 7, slots := #[.int (-122)], vm := .none },
  { cls := 7, slots := #[.int (-121)], vm := .none },
  { cls := 7, slots := #[.int (-120)], vm := .none },
  { cls := 7, slots := #[.int (-119)], vm := .none },
  { cls := 7, slots := #[.int (-118)], vm := .none },
  { cls := 7, slots := #[.int (-117)], vm := .none },
  { cls := 7, slots := #[.int (-116)], vm := .none },
  { cls := 7, slots := #[.int (-115)], vm := .none },
  { cls := 7, slots := #[.int (-114)], vm := .none },
  { cls := 7, slots := #[.int (-113)], vm := .none },
  { cls := 7, slots := #[.int (-112)], vm := .none },
  { cls := 7, slots := #[.int (-111)], vm := .none },
  { cls := 7, slots := #[.int (-110)], vm := .none },
  { cls := 7, slots := #[.int (-109)], vm := .none },
  { cls := 7, slots := #[.int (-108)], vm := .none },
  { cls := 7, slots := #[.int (-107)], vm := .none },
  { cls := 7, slots := #[.int (-106)], vm := .none },
  { cls := 7, slots := #[.int (-105)], vm := .none },
  { cls := 7, slots := #[.int (-104)], vm := .none },
  { cls := 7, slots := #[.int (-103)], vm := .none },
  { cls := 7, slots := #[.int (-102)], vm := .none },
  { cls := 7, slots := #[.int (-101)], vm := .none },
  { cls := 7, slots := #[.int (-100)], vm := .none },
  { cls := 7, slots := #[.int (-99)], vm := .none },
  { cls := 7, slots := #[.int (-98)], vm := .none },
  { cls := 7, slots := #[.int (-97)], vm := .none },
  { cls := 7, slots := #[.int (-96)], vm := .none },
  { cls := 7, slots := #[.int (-95)], vm := .none },
  { cls := 7, slots := #[.int (-94)], vm := .none },
  { cls := 7, slots := #[.int (-93)], vm := .none },
  { cls := 7, slots := #[.int (-92)], vm := .none },
  { cls := 7, slots := #[.int (-91)], vm := .none },
  { cls := 7, slots := #[.int (-90)], vm := .none },
  { cls := 7, slots := #[.int (-89)], vm := .none },
  { cls := 7, slots := #[.int (-88)], vm := .none },
  { cls := 7, slots := #[.int (-87)], vm := .none },
  { cls := 7, slots := #[.int (-86)], vm := .none },
  { cls := 7, slots := #[.int (-85)], vm := .none },
  { cls := 7, slots := #[.int (-84)], vm := .none },
  { cls := 7, slots := #[.int (-83)], vm := .none },
  { cls := 7, slots := #[.int (-82)], vm := .none },
  { cls := 7, slots := #[.int (-81)], vm := .none },
  { cls := 7, slots := #[.int (-80)], vm := .none },
  { cls := 7, slots := #[.int (-79)], vm := .none },
  { cls := 7, slots := #[.int (-78)], vm := .none },
  { cls := 7, slots := #[.int (-77)], vm := .none },
  { cls := 7, slots := #[.int (-76)], vm := .none },
  { cls := 7, slots := #[.int (-75)], vm := .none },
  { cls := 7, slots := #[.int (-74)], vm := .none },
  { cls := 7, slots := #[.int (-73)], vm := .none },
  { cls := 7, slots := #[.int (-72)], vm := .none },
  { cls := 7, slots := #[.int (-71)], vm := .none },
  { cls := 7, slots := #[.int (-70)], vm := .none },
  { cls := 7, slots := #[.int (-69)], vm := .none },
  { cls := 7, slots := #[.int (-68)], vm := .none },
  { cls := 7, slots := #[.int (-67)], vm := .none },
  { cls := 7, slots := #[.int (-66)], vm := .none },
  { cls := 7, slots := #[.int (-65)], vm := .none },
  { cls := 7, slots := #[.int (-64)], vm := .none },
  { cls := 7, slots := #[.int (-63)], vm := .none },
  { cls := 7, slots := #[.int (-62)], vm := .none },
  { cls := 7, slots := #[.int (-61)], vm := .none },
  { cls := 7, slots := #[.int (-60)], vm := .none },
  { cls := 7, slots := #[.int (-59)], vm := .none },
  { cls := 7, slots := #[.int (-58)], vm := .none },
  { cls := 7, slots := #[.int (-57)], vm := .none },
  { cls := 7, slots := #[.int (-56)], vm := .none },
  { cls := 7, slots := #[.int (-55)], vm := .none },
  { cls := 7, slots := #[.int (-54)], vm := .none },
  { cls := 7, slots := #[.int (-53)], vm := .none },
  { cls := 7, slots := #[.int (-52)], vm := .none },
  { cls := 7, slots := #[.int (-51)], vm := .none },
  { cls := 7, slots := #[.int (-50)], vm := .none },
  { cls := 7, slots := #[.int (-49)], vm := .none },
  { cls := 7, slots := #[.int (-48)], vm := .none },
  { cls := 7, slots := #[.int (-47)], vm := .none },
  { cls := 7, slots := #[.int (-46)], vm := .none },
  { cls := 7, slots := #[.int (-45)], vm := .none },
  { cls := 7, slots := #[.int (-44)], vm := .none },
  { cls := 7, slots := #[.int (-43)], vm := .none },
  { cls := 7, slots := #[.int (-42)], vm := .none },
  { cls := 7, slots := #[.int (-41)], vm := .none },
  { cls := 7, slots := #[.int (-40)], vm := .none },
  { cls := 7, slots := #[.int (-39)], vm := .none },
  { cls := 7, slots := #[.int (-38)], vm := .none },
  { cls := 7, slots := #[.int (-37)], vm := .none },
  { cls := 7, slots := #[.int (-36)], vm := .none },
  { cls := 7, slots := #[.int (-35)], vm := .none },
  { cls := 7, slots := #[.int (-34)], vm := .none },
  { cls := 7, slots := #[.int (-33)], vm := .none },
  { cls := 7, slots := #[.int (-32)], vm := .none },
  { cls := 7, slots := #[.int (-31)], vm := .none },
  { cls := 7, slots := #[.int (-30)], vm := .none },
  { cls := 7, slots := #[.int (-29)], vm := .none },
  { cls := 7, slots := #[.int (-28)], vm := .none },
  { cls := 7, slots := #[.int (-27)], vm := .none },
  { cls := 7, slots := #[.int (-26)], vm := .none },
  { cls := 7, slots := #[.int (-25)], vm := .none },
  { cls := 7, slots := #[.int (-24)], vm := .none },
  { cls := 7, slots := #[.int (-23)], vm := .none },
  { cls := 7, slots := #[.int (-22)], vm := .none },
  { cls := 7, slots := #[.int (-21)], vm := .none },
  { cls := 7, slots := #[.int (-20)], vm := .none },
  { cls := 7, slots := #[.int (-19)], vm := .none },
  { cls := 7, slots := #[.int (-18)], vm := .none },
  { cls := 7, slots := #[.int (-17)], vm := .none },
  { cls := 7, slots := #[.int (-16)], vm := .none },
  { cls := 7, slots := #[.int (-15)], vm := .none },
  { cls := 7, slots := #[.int (-14)], vm := .none },
  { cls := 7, slots := #[.int (-13)], vm := .none },
  { cls := 7, slots := #[.int (-12)], vm := .none },
  { cls := 7, slots := #[.int (-11)], vm := .none },
  { cls := 7, slots := #[.int (-10)], vm := .none },
  { cls := 7, slots := #[.int (-9)], vm := .none },
  { cls := 7, slots := #[.int (-8)], vm := .none },
  { cls := 7, slots := #[.int (-7)], vm := .none },
  { cls := 7, slots := #[.int (-6)], vm := .none },
  { cls := 7, slots := #[.int (-5)], vm := .none },
  { cls := 7, slots := #[.int (-4)], vm := .none },
  { cls := 7, slots := #[.int (-3)], vm := .none },
  { cls := 7, slots := #[.int (-2)], vm := .none },
  { cls := 7, slots := #[.int (-1)], vm := .none },
  { cls := 7, slots := #[.int 0], vm := .none },
  { cls := 7, slots := #[.int 1], vm := .none },
  { cls := 7, slots := #[.int 2], vm := .none },
  { cls := 7, slots := #[.int 3], vm := .none },
  { cls := 7, slots := #[.int 4], vm := .none },
  { cls := 7, slots := #[.int 5], vm := .none },
  { cls := 7, slots := #[.int 6], vm := .none },
  { cls := 7, slots := #[.int 7], vm := .none },
  { cls := 7, slots := #[.int 8], vm := .none },
  { cls := 7, slots := #[.int 9], vm := .none },
  { cls := 7, slots := #[.int 10], vm := .none },
  { cls := 7, slots := #[.int 11], vm := .none },
  { cls := 7, slots := #[.int 12], vm := .none },
  { cls := 7, slots := #[.int 13], vm := .none },
  { cls := 7, slots := #[.int 14], vm := .none },
  { cls := 7, slots := #[.int 15], vm := .none },
  { cls := 7, slots := #[.int 16], vm := .none },
  { cls := 7, slots := #[.int 17], vm := .none },
  { cls := 7, slots := #[.int 18], vm := .none },
  { cls := 7, slots := #[.int 19], vm := .none },
  { cls := 7, slots := #[.int 20], vm := .none },
  { cls := 7, slots := #[.int 21], vm := .none },
  { cls := 7, slots := #[.int 22], vm := .none },
  { cls := 7, slots := #[.int 23], vm := .none },
  { cls := 7, slots := #[.int 24], vm := .none },
  { cls := 7, slots := #[.int 25], vm := .none },
  { cls := 7, slots := #[.int 26], vm := .none },
  { cls := 7, slots := #[.int 27], vm := .none },
  { cls := 7, slots := #[.int 28], vm := .none },
  { cls := 7, slots := #[.int 29], vm := .none },
  { cls := 7, slots := #[.int 30], vm := .none },
  { cls := 7, slots := #[.int 31], vm := .none },
  { cls := 7, slots := #[.int 32], vm := .none },
  { cls := 7, slots := #[.int 33], vm := .none },
  { cls := 7, slots := #[.int 34], vm := .none },
  { cls := 7, slots := #[.int 35], vm := .none },
  { cls := 7, slots := #[.int 36], vm := .none },
  { cls := 7, slots := #[.int 37], vm := .none },
  { cls := 7, slots := #[.int 38], vm := .none },
  { cls := 7, slots := #[.int 39], vm := .none },
  { cls := 7, slots := #[.int 40], vm := .none },
  { cls := 7, slots := #[.int 41], vm := .none },
  { cls := 7, slots := #[.int 42], vm := .none },
  { cls := 7, slots := #[.int 43], vm := .none },
  { cls := 7, slots := #[.int 44], vm := .none },
  { cls := 7, slots := #[.int 45], vm := .none },
  { cls := 7, slots := #[.int 46], vm := .none },
  { cls := 7, slots := #[.int 47], vm := .none },
  { cls := 7, slots := #[.int 48], vm := .none },
  { cls := 7, slots := #[.int 49], vm := .none },
  { cls := 7, slots := #[.int 50], vm := .none },
  { cls := 7, slots := #[.int 51], vm := .none },
  { cls := 7, slots := #[.int 52], vm := .none },
  { cls := 7, slots := #[.int 53], vm := .none },
  { cls := 7, slots := #[.int 54], vm := .none },
  { cls := 7, slots := #[.int 55], vm := .none },
  { cls := 7, slots := #[.int 56], vm := .none },
  { cls := 7, slots := #[.int 57], vm := .none },
  { cls := 7, slots := #[.int 58], vm := .none },
  { cls := 7, slots := #[.int 59], vm := .none },
  { cls := 7, slots := #[.int 60], vm := .none },
  { cls := 7, slots := #[.int 61], vm := .none },
  { cls := 7, slots := #[.int 62], vm := .none },
  { cls := 7, slots := #[.int 63], vm := .none },
  { cls := 7, slots := #[.int 64], vm := .none },
  { cls := 7, slots := #[.int 65], vm := .none },
  { cls := 7, slots := #[.int 66], vm := .none },
  { cls := 7, slots := #[.int 67], vm := .none },
  { cls := 7, slots := #[.int 68], vm := .none },
  { cls := 7, slots := #[.int 69], vm := .none },
  { cls := 7, slots := #[.int 70], vm := .none },
  { cls := 7, slots := #[.int 71], vm := .none },
  { cls := 7, slots := #[.int 72], vm := .none },
  { cls := 7, slots := #[.int 73], vm := .none },
  { cls := 7, slots := #[.int 74], vm := .none },
  { cls := 7, slots := #[.int 75], vm := .none },
  { cls := 7, slots := #[.int 76], vm := .none },
  { cls := 7, slots := #[.int 77], vm := .none },
  { cls := 7, slots := #[.int 78], vm := .none },
  { cls := 7, slots := #[.int 79], vm := .none },
  { cls := 7, slots := #[.int 80], vm := .none },
  { cls := 7, slots := #[.int 81], vm := .none },
  { cls := 7, slots := #[.int 82], vm := .none },
  { cls := 7, slots := #[.int 83], vm := .none },
  { cls := 7, slots := #[.int 84], vm := .none },
  { cls := 7, slots := #[.int 85], vm := .none },
  { cls := 7, slots := #[.int 86], vm := .none },
  { cls := 7, slots := #[.int 87], vm := .none },
  { cls := 7, slots := #[.int 88], vm := .none },
  { cls := 7, slots := #[.int 89], vm := .none },
  { cls := 7, slots := #[.int 90], vm := .none },
  { cls := 7, slots := #[.int 91], vm := .none },
  { cls := 7, slots := #[.int 92], vm := .none },
  { cls := 7, slots := #[.int 93], vm := .none },
  { cls := 7, slots := #[.int 94], vm := .none },
  { cls := 7, slots := #[.int 95], vm := .none },
  { cls := 7, slots := #[.int 96], vm := .none },
  { cls := 7, slots := #[.int 97], vm := .none },
  { cls := 7, slots := #[.int 98], vm := .none },
  { cls := 7, slots := #[.int 99], vm := .none },
  { cls := 7, slots := #[.int 100], vm := .none },
  { cls := 7, slots := #[.int 101], vm := .none },
  { cls := 7, slots := #[.int 102], vm := .none },
  { cls := 7, slots := #[.int 103], vm := .none },
  { cls := 7, slots := #[.int 104], vm := .none },
  { cls := 7, slots := #[.int 105], vm := .none },
  { cls := 7, slots := #[.int 106], vm := .none },
  { cls := 7, slots := #[.int 107], vm := .none },
  { cls := 7, slots := #[.int 108], vm := .none },
  { cls := 7, slots := #[.int 109], vm := .none },
  { cls := 7, slots := #[.int 110], vm := .none },
  { cls := 7, slots := #[.int 111], vm := .none },
  { cls := 7, slots := #[.int 112], vm := .none },
  { cls := 7, slots := #[.int 113], vm := .none },
  { cls := 7, slots := #[.int 114], vm := .none },
  { cls := 7, slots := #[.int 115], vm := .none },
  { cls := 7, slots := #[.int 116], vm := .none },
  { cls := 7, slots := #[.int 117], vm := .none },
  { cls := 7, slots := #[.int 118], vm := .none },
  { cls := 7, slots := #[.int 119], vm := .none },
  { cls := 7, slots := #[.int 120], vm := .none },
  { cls := 7, slots := #[.int 121], vm := .none },
  { cls := 7, slots := #[.int 122], vm := .none },
  { cls := 7, slots := #[.int 123], vm := .none },
  { cls := 7, slots := #[.int 124], vm := .none },
  { cls := 7, slots := #[.int 125], vm := .none },
  { cls := 7, slots := #[.int 126], vm := .none },
  { cls := 7, slots := #[.int 127], vm := .none },
  { cls := 23, slots := #[.ref 4, .int 0], vm := .none },
  { cls := 31, slots := #[], vm := .none },
  { cls := 31, slots := #[], vm := .none }]
def classes : Array Class := #[k0, k1, k2, k3, k4, k5, k6, k7, k8, k9, k10, k11, k12, k13, k14, k15, k16, k17, k18, k19, k20, k21, k22, k23, k24, k25, k26, k27, k28, k29, k30, k31]
def interned : List (Array UInt16 × Addr) := []
def slotsUsed : Nat := 533
def theMethod : MethodId := ⟨1, 1⟩
def args0 : Array Value := #[.int 3, .int 7, .int 5, .int 2, .int 9]
def aboutOver (below : List Frame) : State where
  vm := { classes := classes, interned := interned.toArray }
  heap := heap
  slotsUsed := slotsUsed
  threads := #[{ frames := .invoking theMethod args0 :: below }]
def below0 : List Frame := [.native { method := ⟨0, 0⟩, args := #[] }]
def about1 : State := aboutOver below0
def p0 : Program := .bare "" "" ""
def e0 : Env := launch0.env 0 0 0
theorem w_frames : about1.frames = Frame.invoking theMethod args0 :: below0 := rfl
set_option maxRecDepth 65536 in
theorem w_args : argsFit about1.vm theMethod args0 = true := by decide +kernel
set_option maxRecDepth 65536 in
theorem w_heap : heapFits about1 = true := by decide +kernel
set_option maxRecDepth 65536 in
theorem w_runnable : about1.curStatus? = some .runnable := by decide +kernel
set_option maxRecDepth 65536 in
theorem w_alone : about1.alone = true := by decide +kernel
set_option maxRecDepth 65536 in
theorem w_named : about1.methodNamed? x = some theMethod := by decide +kernel
set_option maxRecDepth 65536 in
theorem w_hears : about1.hears theMethod below0 = true := by decide +kernel
set_option maxRecDepth 65536 in
theorem w_ripe : about1.ripe theMethod args0 below0 = true := by decide +kernel
theorem w_running : about1.status = .running := rfl
set_option maxRecDepth 65536 in
theorem w_room : about1.hasRoom e0.platform room_1 = true :=
  launch0.hasRoom_least _ room_1 (by decide +kernel) (by decide +kernel) (by decide +kernel) (by decide +kernel) (by decide +kernel) (by decide +kernel)
theorem allAtoms_all (ts : List Jvm.Cond) (a : Array Jvm.Value) (st : Jvm.State) : (allAtoms ts).before a st = ts.all (fun c => c.before a st) := by
  induction ts with
  | nil => rfl
  | cons c t ih =>
    show (Jvm.Cond.and c (allAtoms t)).before a st = _
    rw [Jvm.Cond.before_and, ih, List.all_cons]
def words1 : List Jvm.Cond := Jvm.Cond.code x code maxLocals ret :: tables_1
/-- a 'code' word, met by the world's own term for the bytes: nothing is compared byte by byte -/
theorem code_word {y : MethodName} {bytes : ByteArray} {mx : Nat} {rt : Option FieldType} {a : Array Value} {s : State} {m : MethodId} {meth : Method} {c : Code} (h1 : s.methodNamed? y = some m) (h2 : s.vm.method? m = some meth) (h3 : meth.code = some c) (h4 : c.code = bytes)
    (h5 : (c.maxLocals == mx && c.exceptionTable.isEmpty && decide (c.maxStack ≤ mostOperands) && decide (meth.sig.returnType = rt) && !meth.locks && decide (parseMethodDescriptor y.desc = some meth.sig)) = true) : (Jvm.Cond.code y bytes mx rt).before a s = true := by
  simp only [Bool.and_eq_true, beq_iff_eq, Bool.not_eq_true', decide_eq_true_eq] at h5
  obtain ⟨⟨⟨⟨⟨g1, g2⟩, g3⟩, g4⟩, g5⟩, g6⟩ := h5
  simp [Cond.before, Cond.holds, Cond.value, h1, h2, h3, h4, g1, g2, g3, g4, g5, g6]
def isCode : Jvm.Cond → Bool
  | .code _ _ _ _ => true
  | _ => false
theorem all_split {L : List Jvm.Cond} {P : Jvm.Cond → Bool} (h1 : L.all (fun c => isCode c || P c) = true) (h2 : ∀ c ∈ L.filter isCode, P c = true) : L.all P = true := by
  refine List.all_eq_true.mpr fun c hc => ?_
  have h := List.all_eq_true.mp h1 c hc
  rcases Bool.eq_false_or_eq_true (isCode c) with hi | hi
  · exact h2 c (List.mem_filter.mpr ⟨hc, hi⟩)
  · simpa [hi] using h
set_option maxRecDepth 65536 in
theorem w_c0 : (Jvm.Cond.code x code maxLocals ret).before args0 about1 = true := code_word (m := ⟨1, 1⟩) (meth := k1m1) (c := k1c1) (by decide +kernel) rfl rfl rfl (by decide +kernel)
set_option maxRecDepth 65536 in
theorem w_c1 : (Jvm.Cond.code ({ cls := "java/lang/Integer", name := "valueOf", desc := "(I)Ljava/lang/Integer;" } : Jvm.MethodName) jdk_33_method_22_code (1 : Nat) (Option.some (Jvm.ClassFile.FieldType.object "java/lang/Integer"))).before args0 about1 = true := code_word (m := ⟨7, 0⟩) (meth := k7m0) (c := k7c0) (by decide +kernel) rfl rfl rfl (by decide +kernel)
set_option maxRecDepth 65536 in
theorem w_c2 : (Jvm.Cond.code ({ cls := "com/example/quicksettle/quicksettle/Records$Filling", name := "<init>", desc := "(I)V" } : Jvm.MethodName) prog_66_method_1_code (2 : Nat) (Option.none : Option Jvm.ClassFile.FieldType)).before args0 about1 = true := code_word (m := ⟨9, 0⟩) (meth := k9m0) (c := k9c0) (by decide +kernel) rfl rfl rfl (by decide +kernel)
set_option maxRecDepth 65536 in
theorem w_c3 : (Jvm.Cond.code ({ cls := "java/lang/Object", name := "<init>", desc := "()V" } : Jvm.MethodName) object_method_1_code (1 : Nat) (Option.none : Option Jvm.ClassFile.FieldType)).before args0 about1 = true := code_word (m := ⟨0, 0⟩) (meth := k0m0) (c := k0c0) (by decide +kernel) rfl rfl rfl (by decide +kernel)
set_option maxRecDepth 65536 in
theorem w_c4 : (Jvm.Cond.code ({ cls := "java/util/ArrayList", name := "<init>", desc := "()V" } : Jvm.MethodName) jdk_38_method_2_code (1 : Nat) (Option.none : Option Jvm.ClassFile.FieldType)).before args0 about1 = true := code_word (m := ⟨18, 0⟩) (meth := k18m0) (c := k18c0) (by decide +kernel) rfl rfl rfl (by decide +kernel)
set_option maxRecDepth 65536 in
theorem w_c5 : (Jvm.Cond.code ({ cls := "java/util/AbstractList", name := "<init>", desc := "()V" } : Jvm.MethodName) jdk_39_method_1_code (1 : Nat) (Option.none : Option Jvm.ClassFile.FieldType)).before args0 about1 = true := code_word (m := ⟨15, 0⟩) (meth := k15m0) (c := k15c0) (by decide +kernel) rfl rfl rfl (by decide +kernel)
set_option maxRecDepth 65536 in
theorem w_c6 : (Jvm.Cond.code ({ cls := "java/util/AbstractCollection", name := "<init>", desc := "()V" } : Jvm.MethodName) jdk_22_method_1_code (1 : Nat) (Option.none : Option Jvm.ClassFile.FieldType)).before args0 about1 = true := code_word (m := ⟨12, 0⟩) (meth := k12m0) (c := k12c0) (by decide +kernel) rfl rfl rfl (by decide +kernel)
set_option maxRecDepth 65536 in
theorem w_c7 : (Jvm.Cond.code ({ cls := "com/example/quicksettle/quicksettle/Records$Filling", name := "add", desc := "(Ljava/lang/Object;I)Ljava/util/List;" } : Jvm.MethodName) prog_66_method_2_code (4 : Nat) (Option.some (Jvm.ClassFile.FieldType.object "java/util/List"))).before args0 about1 = true := code_word (m := ⟨9, 1⟩) (meth := k9m1) (c := k9c1) (by decide +kernel) rfl rfl rfl (by decide +kernel)
set_option maxRecDepth 65536 in
theorem w_c8 : (Jvm.Cond.code ({ cls := "java/util/List", name := "of", desc := "()Ljava/util/List;" } : Jvm.MethodName) jdk_40_method_36_code (0 : Nat) (Option.some (Jvm.ClassFile.FieldType.object "java/util/List"))).before args0 about1 = true := code_word (m := ⟨14, 4⟩) (meth := k14m4) (c := k14c4) (by decide +kernel) rfl rfl rfl (by decide +kernel)
set_option maxRecDepth 65536 in
theorem w_c9 : (Jvm.Cond.code ({ cls := "java/util/ArrayList", name := "isEmpty", desc := "()Z" } : Jvm.MethodName) jdk_38_method_9_code (1 : Nat) (Option.some Jvm.ClassFile.FieldType.boolean)).before args0 about1 = true := code_word (m := ⟨18, 4⟩) (meth := k18m4) (c := k18c4) (by decide +kernel) rfl rfl rfl (by decide +kernel)
set_option maxRecDepth 65536 in
theorem w_c10 : (Jvm.Cond.code ({ cls := "java/util/ArrayList", name := "add", desc := "(Ljava/lang/Object;)Z" } : Jvm.MethodName) jdk_38_method_25_code (2 : Nat) (Option.some Jvm.ClassFile.FieldType.boolean)).before args0 about1 = true := code_word (m := ⟨18, 8⟩) (meth := k18m8) (c := k18c8) (by decide +kernel) rfl rfl rfl (by decide +kernel)
set_option maxRecDepth 65536 in
theorem w_c11 : (Jvm.Cond.code ({ cls := "java/util/ArrayList", name := "add", desc := "(Ljava/lang/Object;[Ljava/lang/Object;I)V" } : Jvm.MethodName) jdk_38_method_24_code (4 : Nat) (Option.none : Option Jvm.ClassFile.FieldType)).before args0 about1 = true := code_word (m := ⟨18, 7⟩) (meth := k18m7) (c := k18c7) (by decide +kernel) rfl rfl rfl (by decide +kernel)
set_option maxRecDepth 65536 in
theorem w_c12 : (Jvm.Cond.code ({ cls := "java/util/ArrayList", name := "grow", desc := "()[Ljava/lang/Object;" } : Jvm.MethodName) jdk_38_method_7_code (1 : Nat) (Option.some (Jvm.ClassFile.FieldType.array (Jvm.ClassFile.FieldType.object "java/lang/Object")))).before args0 about1 = true := code_word (m := ⟨18, 2⟩) (meth := k18m2) (c := k18c2) (by decide +kernel) rfl rfl rfl (by decide +kernel)
set_option maxRecDepth 65536 in
theorem w_c13 : (Jvm.Cond.code ({ cls := "java/util/ArrayList", name := "grow", desc := "(I)[Ljava/lang/Object;" } : Jvm.MethodName) jdk_38_method_6_code (4 : Nat) (Option.some (Jvm.ClassFile.FieldType.array (Jvm.ClassFile.FieldType.object "java/lang/Object")))).before args0 about1 = true := code_word (m := ⟨18, 1⟩) (meth := k18m1) (c := k18c1) (by decide +kernel) rfl rfl rfl (by decide +kernel)
set_option maxRecDepth 65536 in
theorem w_c14 : (Jvm.Cond.code ({ cls := "java/lang/Math", name := "max", desc := "(II)I" } : Jvm.MethodName) jdk_29_method_65_code (2 : Nat) (Option.some Jvm.ClassFile.FieldType.int)).before args0 about1 = true := code_word (m := ⟨20, 1⟩) (meth := k20m1) (c := k20c1) (by decide +kernel) rfl rfl rfl (by decide +kernel)
set_option maxRecDepth 65536 in
theorem w_c15 : (Jvm.Cond.code ({ cls := "java/util/ImmutableCollections$ListN", name := "size", desc := "()I" } : Jvm.MethodName) jdk_45_method_3_code (1 : Nat) (Option.some Jvm.ClassFile.FieldType.int)).before args0 about1 = true := code_word (m := ⟨23, 0⟩) (meth := k23m0) (c := k23c0) (by decide +kernel) rfl rfl rfl (by decide +kernel)
set_option maxRecDepth 65536 in
theorem w_c16 : (Jvm.Cond.code ({ cls := "com/example/quicksettle/quicksettle/Records$Filling", name := "last", desc := "()Ljava/util/List;" } : Jvm.MethodName) prog_66_method_3_code (2 : Nat) (Option.some (Jvm.ClassFile.FieldType.object "java/util/List"))).before args0 about1 = true := code_word (m := ⟨9, 2⟩) (meth := k9m2) (c := k9c2) (by decide +kernel) rfl rfl rfl (by decide +kernel)
set_option maxRecDepth 65536 in
theorem w_c17 : (Jvm.Cond.code ({ cls := "java/util/ArrayList", name := "size", desc := "()I" } : Jvm.MethodName) jdk_38_method_8_code (1 : Nat) (Option.some Jvm.ClassFile.FieldType.int)).before args0 about1 = true := code_word (m := ⟨18, 3⟩) (meth := k18m3) (c := k18c3) (by decide +kernel) rfl rfl rfl (by decide +kernel)
set_option maxRecDepth 65536 in
theorem w_c18 : (Jvm.Cond.code ({ cls := "java/util/ArrayList", name := "get", desc := "(I)Ljava/lang/Object;" } : Jvm.MethodName) jdk_38_method_20_code (2 : Nat) (Option.some (Jvm.ClassFile.FieldType.object "java/lang/Object"))).before args0 about1 = true := code_word (m := ⟨18, 6⟩) (meth := k18m6) (c := k18c6) (by decide +kernel) rfl rfl rfl (by decide +kernel)
set_option maxRecDepth 65536 in
theorem w_c19 : (Jvm.Cond.code ({ cls := "java/util/Objects", name := "checkIndex", desc := "(II)I" } : Jvm.MethodName) jdk_31_method_17_code (2 : Nat) (Option.some Jvm.ClassFile.FieldType.int)).before args0 about1 = true := code_word (m := ⟨24, 1⟩) (meth := k24m1) (c := k24c1) (by decide +kernel) rfl rfl rfl (by decide +kernel)
set_option maxRecDepth 65536 in
theorem w_c20 : (Jvm.Cond.code ({ cls := "jdk/internal/util/Preconditions", name := "checkIndex", desc := "(IILjava/util/function/BiFunction;)I" } : Jvm.MethodName) jdk_41_method_11_code (3 : Nat) (Option.some Jvm.ClassFile.FieldType.int)).before args0 about1 = true := code_word (m := ⟨25, 1⟩) (meth := k25m1) (c := k25c1) (by decide +kernel) rfl rfl rfl (by decide +kernel)
set_option maxRecDepth 65536 in
theorem w_c21 : (Jvm.Cond.code ({ cls := "java/util/ArrayList", name := "elementData", desc := "(I)Ljava/lang/Object;" } : Jvm.MethodName) jdk_38_method_18_code (2 : Nat) (Option.some (Jvm.ClassFile.FieldType.object "java/lang/Object"))).before args0 about1 = true := code_word (m := ⟨18, 5⟩) (meth := k18m5) (c := k18c5) (by decide +kernel) rfl rfl rfl (by decide +kernel)
set_option maxRecDepth 65536 in
theorem w_c22 : (Jvm.Cond.code ({ cls := "java/lang/Integer", name := "intValue", desc := "()I" } : Jvm.MethodName) jdk_33_method_27_code (1 : Nat) (Option.some Jvm.ClassFile.FieldType.int)).before args0 about1 = true := code_word (m := ⟨7, 1⟩) (meth := k7m1) (c := k7c1) (by decide +kernel) rfl rfl rfl (by decide +kernel)
def codes1 : List Jvm.Cond := [Jvm.Cond.code x code maxLocals ret, Jvm.Cond.code ({ cls := "java/lang/Integer", name := "valueOf", desc := "(I)Ljava/lang/Integer;" } : Jvm.MethodName) jdk_33_method_22_code (1 : Nat) (Option.some (Jvm.ClassFile.FieldType.object "java/lang/Integer")), Jvm.Cond.code ({ cls := "com/example/quicksettle/quicksettle/Records$Filling", name := "<init>", desc := "(I)V" } : Jvm.MethodName) prog_66_method_1_code (2 : Nat) (Option.none : Option Jvm.ClassFile.FieldType), Jvm.Cond.code ({ cls := "java/lang/Object", name := "<init>", desc := "()V" } : Jvm.MethodName) object_method_1_code (1 : Nat) (Option.none : Option Jvm.ClassFile.FieldType), Jvm.Cond.code ({ cls := "java/util/ArrayList", name := "<init>", desc := "()V" } : Jvm.MethodName) jdk_38_method_2_code (1 : Nat) (Option.none : Option Jvm.ClassFile.FieldType), Jvm.Cond.code ({ cls := "java/util/AbstractList", name := "<init>", desc := "()V" } : Jvm.MethodName) jdk_39_method_1_code (1 : Nat) (Option.none : Option Jvm.ClassFile.FieldType), Jvm.Cond.code ({ cls := "java/util/AbstractCollection", name := "<init>", desc := "()V" } : Jvm.MethodName) jdk_22_method_1_code (1 : Nat) (Option.none : Option Jvm.ClassFile.FieldType), Jvm.Cond.code ({ cls := "com/example/quicksettle/quicksettle/Records$Filling", name := "add", desc := "(Ljava/lang/Object;I)Ljava/util/List;" } : Jvm.MethodName) prog_66_method_2_code (4 : Nat) (Option.some (Jvm.ClassFile.FieldType.object "java/util/List")), Jvm.Cond.code ({ cls := "java/util/List", name := "of", desc := "()Ljava/util/List;" } : Jvm.MethodName) jdk_40_method_36_code (0 : Nat) (Option.some (Jvm.ClassFile.FieldType.object "java/util/List")), Jvm.Cond.code ({ cls := "java/util/ArrayList", name := "isEmpty", desc := "()Z" } : Jvm.MethodName) jdk_38_method_9_code (1 : Nat) (Option.some Jvm.ClassFile.FieldType.boolean), Jvm.Cond.code ({ cls := "java/util/ArrayList", name := "add", desc := "(Ljava/lang/Object;)Z" } : Jvm.MethodName) jdk_38_method_25_code (2 : Nat) (Option.some Jvm.ClassFile.FieldType.boolean), Jvm.Cond.code ({ cls := "java/util/ArrayList", name := "add", desc := "(Ljava/lang/Object;[Ljava/lang/Object;I)V" } : Jvm.MethodName) jdk_38_method_24_code (4 : Nat) (Option.none : Option Jvm.ClassFile.FieldType), Jvm.Cond.code ({ cls := "java/util/ArrayList", name := "grow", desc := "()[Ljava/lang/Object;" } : Jvm.MethodName) jdk_38_method_7_code (1 : Nat) (Option.some (Jvm.ClassFile.FieldType.array (Jvm.ClassFile.FieldType.object "java/lang/Object"))), Jvm.Cond.code ({ cls := "java/util/ArrayList", name := "grow", desc := "(I)[Ljava/lang/Object;" } : Jvm.MethodName) jdk_38_method_6_code (4 : Nat) (Option.some (Jvm.ClassFile.FieldType.array (Jvm.ClassFile.FieldType.object "java/lang/Object"))), Jvm.Cond.code ({ cls := "java/lang/Math", name := "max", desc := "(II)I" } : Jvm.MethodName) jdk_29_method_65_code (2 : Nat) (Option.some Jvm.ClassFile.FieldType.int), Jvm.Cond.code ({ cls := "java/util/ImmutableCollections$ListN", name := "size", desc := "()I" } : Jvm.MethodName) jdk_45_method_3_code (1 : Nat) (Option.some Jvm.ClassFile.FieldType.int), Jvm.Cond.code ({ cls := "com/example/quicksettle/quicksettle/Records$Filling", name := "last", desc := "()Ljava/util/List;" } : Jvm.MethodName) prog_66_method_3_code (2 : Nat) (Option.some (Jvm.ClassFile.FieldType.object "java/util/List")), Jvm.Cond.code ({ cls := "java/util/ArrayList", name := "size", desc := "()I" } : Jvm.MethodName) jdk_38_method_8_code (1 : Nat) (Option.some Jvm.ClassFile.FieldType.int), Jvm.Cond.code ({ cls := "java/util/ArrayList", name := "get", desc := "(I)Ljava/lang/Object;" } : Jvm.MethodName) jdk_38_method_20_code (2 : Nat) (Option.some (Jvm.ClassFile.FieldType.object "java/lang/Object")), Jvm.Cond.code ({ cls := "java/util/Objects", name := "checkIndex", desc := "(II)I" } : Jvm.MethodName) jdk_31_method_17_code (2 : Nat) (Option.some Jvm.ClassFile.FieldType.int), Jvm.Cond.code ({ cls := "jdk/internal/util/Preconditions", name := "checkIndex", desc := "(IILjava/util/function/BiFunction;)I" } : Jvm.MethodName) jdk_41_method_11_code (3 : Nat) (Option.some Jvm.ClassFile.FieldType.int), Jvm.Cond.code ({ cls := "java/util/ArrayList", name := "elementData", desc := "(I)Ljava/lang/Object;" } : Jvm.MethodName) jdk_38_method_18_code (2 : Nat) (Option.some (Jvm.ClassFile.FieldType.object "java/lang/Object")), Jvm.Cond.code ({ cls := "java/lang/Integer", name := "intValue", desc := "()I" } : Jvm.MethodName) jdk_33_method_27_code (1 : Nat) (Option.some Jvm.ClassFile.FieldType.int)]
set_option maxRecDepth 65536 in
theorem codes_eq : words1.filter isCode = codes1 := rfl
theorem w_codes : ∀ c ∈ words1.filter isCode, c.before args0 about1 = true := by
  rw [codes_eq]
  intro c hc
  simp only [codes1, List.mem_cons, List.not_mem_nil, or_false] at hc
  rcases hc with rfl | rfl | rfl | rfl | rfl | rfl | rfl | rfl | rfl | rfl | rfl | rfl | rfl | rfl | rfl | rfl | rfl | rfl | rfl | rfl | rfl | rfl | rfl
  · exact w_c0
  · exact w_c1
  · exact w_c2
  · exact w_c3
  · exact w_c4
  · exact w_c5
  · exact w_c6
  · exact w_c7
  · exact w_c8
  · exact w_c9
  · exact w_c10
  · exact w_c11
  · exact w_c12
  · exact w_c13
  · exact w_c14
  · exact w_c15
  · exact w_c16
  · exact w_c17
  · exact w_c18
  · exact w_c19
  · exact w_c20
  · exact w_c21
  · exact w_c22
set_option maxRecDepth 65536 in
theorem w_t1 : (words1.take 24).all (fun c => isCode c || c.before args0 about1) = true := by decide +kernel
set_option maxRecDepth 65536 in
theorem w_t2 : ((words1.drop 24).take 24).all (fun c => isCode c || c.before args0 about1) = true := by decide +kernel
set_option maxRecDepth 65536 in
theorem w_t3 : (((words1.drop 24).drop 24).take 24).all (fun c => isCode c || c.before args0 about1) = true := by decide +kernel
set_option maxRecDepth 65536 in
theorem w_t4 : ((((words1.drop 24).drop 24).drop 24).take 24).all (fun c => isCode c || c.before args0 about1) = true := by decide +kernel
set_option maxRecDepth 65536 in
theorem w_t5 : (((((words1.drop 24).drop 24).drop 24).drop 24).take 24).all (fun c => isCode c || c.before args0 about1) = true := by decide +kernel
set_option maxRecDepth 65536 in
theorem w_t6 : ((((((words1.drop 24).drop 24).drop 24).drop 24).drop 24).take 24).all (fun c => isCode c || c.before args0 about1) = true := by decide +kernel
set_option maxRecDepth 65536 in
theorem w_t7 : ((((((words1.drop 24).drop 24).drop 24).drop 24).drop 24).drop 24).all (fun c => isCode c || c.before args0 about1) = true := by decide +kernel
theorem w_tables : (allAtoms (Jvm.Cond.code x code maxLocals ret :: tables_1)).before args0 about1 = true := by
  rw [allAtoms_all]
  show words1.all (fun c => c.before args0 about1) = true
  refine all_split ?_ w_codes
  rw [← List.take_append_drop 24 words1, List.all_append, w_t1, ← List.take_append_drop 24 (words1.drop 24), List.all_append, w_t2, ← List.take_append_drop 24 ((words1.drop 24).drop 24), List.all_append, w_t3, ← List.take_append_drop 24 (((words1.drop 24).drop 24).drop 24), List.all_append, w_t4, ← List.take_append_drop 24 ((((words1.drop 24).drop 24).drop 24).drop 24), List.all_append, w_t5, ← List.take_append_drop 24 (((((words1.drop 24).drop 24).drop 24).drop 24).drop 24), List.all_append, w_t6, w_t7]
  rfl
set_option maxRecDepth 65536 in
theorem w_rest : rest_1_c.before args0 about1 = true := by decide +kernel
set_option maxRecDepth 65536 in
theorem w_case : (Jvm.Cond.and given_1 narrow_1).before args0 about1 = true := by decide +kernel
theorem w_applies : (headSpec (Jvm.Cond.code x code maxLocals ret :: tables_1) room_1).applies x e0.platform about1 = true :=
  (Spec.applies_iff w_frames).mpr ⟨w_running, w_runnable, w_alone, w_named, w_hears, w_ripe, w_room, w_tables⟩
theorem atStart : AtStart classFile x code maxLocals ret World_1 tables_1 room_1 Calls_1 rest_1 Pre_1 launch0 p0 e0 about1 theMethod args0 below0 :=
  ⟨lists_1, trivial, launch0.admits_env _ _ _, launch0.least_env, fairChoices_fair.cas, fairChoices_fair.clock, w_frames, w_args, w_heap, w_applies, trivial, w_rest, w_case⟩
end start1
theorem witness_1 : WitnessClaimed_1 := ⟨start1.p0, start1.e0, start1.about1, start1.theMethod, start1.args0, start1.below0, start1.atStart⟩
end Jvm.Pilot.@@N@@
