import JvmDerived
import JvmDerived.Pilot.@@N@@Statement
import JvmDerived.Pilot.@@N@@Code
set_option linter.unusedVariables false
set_option linter.unusedSimpArgs false
namespace Jvm.OwnKit
open Sem ClassFile Op Lib Jvm.Stand Jvm.Free Jvm.LawKit Jvm.RoadKit
section Own
variable {p : Program} {l : Launch} {e : Env} {R : Room} {s : State} {m : MethodId} {args : Array Value} {below : List Frame} {meth : Method} {c : Code} {T : State} {locs : List Loc} {cells slots : Nat} {Z : State} {h h' : Heap} {a b : Addr}
theorem retI (X : Stand p l e R s m args below meth c T locs cells slots) (hx : p.tables.exec = Jvm.exec) {pc : Nat} {Ls : Array Slot} {z : Int32} {rest : List Value} (hret : meth.sig.returnType = some .int) (hd : decode c.code pc = .ok (.ireturn, 1)) {fs : List Frame}
    (hl : ∀ (f : JFrame) (acts : List Action), f.method = m → f.locked = none → f.entered = [] → (doReturn e (T.setTop f) acts (some (.int z))).1 = T.setFrames fs) : Steps p.tables e below (T.setTop (mkF m pc Ls (.int z :: rest))) (T.setFrames fs) :=
  retOut X hx hret rfl (Or.inl ⟨rfl, Or.inl rfl, z, rfl⟩) hd hl
/-- the run goes on from S to an end of which G holds -/
def Go (p : Program) (e : Env) (below : List Frame) (S : State) (G : State → Outcome → Prop) : Prop := ∃ s₂ o, Steps p.tables e below S s₂ ∧ s₂.status = .running ∧ Ended s₂ below o ∧ G s₂ o
theorem Go.via {S S' : State} {G : State → Outcome → Prop} (h : ∀ t, Steps p.tables e below S' t → Steps p.tables e below S t) (k : Go p e below S' G) : Go p e below S G := by
  obtain ⟨a, o, h1, r⟩ := k; exact ⟨a, o, h a h1, r⟩
/-- the end: what is returned, what the heap says, what was written -/
abbrev Done (s : State) (Q : Option Value → Heap → List Loc → Prop) (kc ks : Nat) : State → Outcome → Prop := fun s₂ o => ∃ v L, o = .returned v ∧ Q v s₂.heap L ∧ FrameEnd s o s₂ L kc ks
theorem Go.fin {S : State} (X : Stand p l e R s m args below meth c T locs cells slots) (hlk : meth.locks = false) {v : Option Value} (hv : meth.sig.returnType = none → v = none) {Q : Option Value → Heap → List Loc → Prop} {kc ks : Nat}
    (hstep : ∀ fs, (∀ (f : JFrame) (acts : List Action), f.method = m → f.locked = none → f.entered = [] → (doReturn e (T.setTop f) acts v).1 = T.setFrames fs) → Steps p.tables e below S (T.setFrames fs))
    (hQ : Q v T.heap locs) (hc : cells ≤ kc) (hs : slots ≤ ks) : Go p e below S (Done s Q kc ks) := by
  obtain ⟨fs, hr, hrun, hended, hW, hsame⟩ := X.leave (v := v) hv hlk
  exact ⟨_, _, hstep fs hr, hrun, hended, _, _, rfl, hQ, ⟨_, rfl⟩, hW, hsame.mono hc hs⟩
/-- an array of ints, bytes, chars, shorts or booleans, whole -/
def Ia (Z : State) (h : Heap) (a : Addr) (ty : FieldType) (xs : List Int32) : Prop := ∃ c : Cell, Arr Z h a c ty ∧ c.slots = (xs.map Value.int).toArray ∧ xs.length < 2147483648 ∧ ∀ x ∈ xs, fits ty (.int x) = true
variable {ty : FieldType} {xs : List Int32} {ws : List Addr} {sl : Nat} {v w : Value} {j x n : Int32} {k : ClassId} {rest : List Value}
theorem Ia.lt (F : Ia Z h a ty xs) : a < h.size := by obtain ⟨c, A, -⟩ := F; exact A.lt
theorem Ia.ext (F : Ia Z h a ty xs) (E : Ext h h') : Ia Z h' a ty xs := by obtain ⟨c, A, r⟩ := F; exact ⟨c, A.ext E, r⟩
theorem Ia.other (F : Ia Z h b ty xs) (W : Wr h h' a sl v) (q : b ≠ a) : Ia Z h' b ty xs := by obtain ⟨c, A, r⟩ := F; exact ⟨c, A.other W q, r⟩
theorem Ia.keep (F : Ia Z h a ty xs) (K : Keep h h' ws) (q : a ∉ ws) : Ia Z h' a ty xs := by obtain ⟨c, A, r⟩ := F; exact ⟨c, ⟨K.2.1 a c A.1 q, A.2⟩, r⟩
theorem nn_lt {n : Int32} : n.toNatClampNeg < 2147483648 := by
  have h1 := n.toInt_lt
  simp only [Int32.toNatClampNeg]; omega
theorem Ia.new (A : Arr Z h a (newA k ty n) ty) (hd : defaultValue ty = .int 0) (hf : fits ty (.int 0) = true := by rfl) : Ia Z h a ty (List.replicate n.toNatClampNeg 0) := ⟨_, A, by simp [newA, hd], by simp [nn_lt], fun x hx => by rw [(List.mem_replicate.mp hx).2]; exact hf⟩
theorem Ia.hin {cl : Cell} (e : cl.slots = (xs.map Value.int).toArray) (hj : ¬ j < 0) (hlt : j.toNatClampNeg < xs.length) : ¬ (j < 0 ∨ cl.slots.size ≤ j.toNatClampNeg) := by
  rw [e]; simp only [List.size_toArray, List.length_map]; rintro (q | q); exact hj q; omega
theorem Ia.at {cl : Cell} (e : cl.slots = (xs.map Value.int).toArray) (hv : xs[j.toNatClampNeg]? = some x) : cl.slots[j.toNatClampNeg]? = some (.int x) := by
  rw [e]; simp [hv]
theorem lt_of_at (hv : xs[j.toNatClampNeg]? = some x) : j.toNatClampNeg < xs.length := (List.getElem?_eq_some_iff.mp hv).1
theorem Ia.set {cl : Cell} (A : Arr Z h a cl ty) (e : cl.slots = (xs.map Value.int).toArray) (hl : xs.length < 2147483648) (hf : ∀ x ∈ xs, fits ty (.int x) = true) (W : Wr h h' a j.toNatClampNeg (.int x)) (hx : fits ty (.int x) = true) : Ia Z h' a ty (xs.set j.toNatClampNeg x) :=
  ⟨_, A.same W, by simp [Cell.setSlot, e, List.map_set], by simpa using hl, fun y hy => by rcases List.mem_or_eq_of_mem_set hy with q | q; exact hf y q; rw [q]; exact hx⟩
theorem ldI (X : Stand p l e R s m args below meth c T locs cells slots) (hx : p.tables.exec = Jvm.exec) (hZ : Z.Warmed39 s.vm) (eT : T.heap = h) (F : Ia Z h a .int xs) {v : Int32} (hj : ¬ j < 0) (hv : xs[j.toNatClampNeg]? = some v) {g : JFrame} (hg : g.method = m) (hs : g.stack = .int j :: .ref a :: rest) (hd : decode c.code g.pc = .ok (.iaload, 1)) :
    ∀ t, Steps p.tables e below (T.setTop { g with pc := g.pc + 1, stack := .int v :: rest }) t → Steps p.tables e below (T.setTop g) t := by
  obtain ⟨cl, A, q, -⟩ := F
  exact X.iaload hx (j := j) (v := .int v) (by rw [eT]; exact A.1) (State.isArrayOf_alike hZ.alike A.2.1) A.2.2 (Ia.hin q hj (lt_of_at hv)) (Ia.at q hv) hg hs hd
theorem ldB (X : Stand p l e R s m args below meth c T locs cells slots) (hx : p.tables.exec = Jvm.exec) (hZ : Z.Warmed39 s.vm) (eT : T.heap = h) (F : Ia Z h a .byte xs) {v : Int32} (hj : ¬ j < 0) (hv : xs[j.toNatClampNeg]? = some v) {g : JFrame} (hg : g.method = m) (hs : g.stack = .int j :: .ref a :: rest) (hd : decode c.code g.pc = .ok (.baload, 1)) :
    ∀ t, Steps p.tables e below (T.setTop { g with pc := g.pc + 1, stack := .int v :: rest }) t → Steps p.tables e below (T.setTop g) t := by
  obtain ⟨cl, A, q, -⟩ := F
  exact X.baloadBytes hx (j := j) (v := .int v) (by rw [eT]; exact A.1) (State.isArrayOf_alike hZ.alike A.2.1) A.2.2 (Ia.hin q hj (lt_of_at hv)) (Ia.at q hv) hg hs hd
theorem ldC (X : Stand p l e R s m args below meth c T locs cells slots) (hx : p.tables.exec = Jvm.exec) (hZ : Z.Warmed39 s.vm) (eT : T.heap = h) (F : Ia Z h a .char xs) {v : Int32} (hj : ¬ j < 0) (hv : xs[j.toNatClampNeg]? = some v) {g : JFrame} (hg : g.method = m) (hs : g.stack = .int j :: .ref a :: rest) (hd : decode c.code g.pc = .ok (.caload, 1)) :
    ∀ t, Steps p.tables e below (T.setTop { g with pc := g.pc + 1, stack := .int v :: rest }) t → Steps p.tables e below (T.setTop g) t := by
  obtain ⟨cl, A, q, -⟩ := F
  exact X.caload hx (j := j) (v := .int v) (by rw [eT]; exact A.1) (State.isArrayOf_alike hZ.alike A.2.1) A.2.2 (Ia.hin q hj (lt_of_at hv)) (Ia.at q hv) hg hs hd
theorem stI' (X : Stand p l e R s m args below meth c T locs cells slots) (hx : p.tables.exec = Jvm.exec) (hZ : Z.Warmed39 s.vm) (eT : T.heap = h) (F : Ia Z h a .int xs) (hj : ¬ j < 0) (hlt : j.toNatClampNeg < xs.length) {g : JFrame} (hg : g.method = m) (hs : g.stack = .int x :: .int j :: .ref a :: rest) (hd : decode c.code g.pc = .ok (.iastore, 1)) :
    ∃ T' h', Stand p l e R s m args below meth c T' (locs ++ [⟨a, j.toNatClampNeg⟩]) cells slots ∧ T'.heap = h' ∧ Wr h h' a j.toNatClampNeg (.int x) ∧ Ia Z h' a .int (xs.set j.toNatClampNeg x) ∧ ∀ t, Steps p.tables e below (T'.setTop { g with pc := g.pc + 1, stack := rest }) t → Steps p.tables e below (T.setTop g) t := by
  obtain ⟨cl, A, q, hl, hf⟩ := F
  obtain ⟨T', h', X', e', W, st⟩ := stI X hx hZ eT A (Ia.hin q hj hlt) hg hs hd
  exact ⟨T', h', X', e', W, Ia.set A q hl hf W rfl, st⟩
theorem stB' (X : Stand p l e R s m args below meth c T locs cells slots) (hx : p.tables.exec = Jvm.exec) (hZ : Z.Warmed39 s.vm) (eT : T.heap = h) (F : Ia Z h a .byte xs) (hj : ¬ j < 0) (hlt : j.toNatClampNeg < xs.length) {g : JFrame} (hg : g.method = m) (hs : g.stack = .int x :: .int j :: .ref a :: rest) (hd : decode c.code g.pc = .ok (.bastore, 1)) :
    ∃ T' h', Stand p l e R s m args below meth c T' (locs ++ [⟨a, j.toNatClampNeg⟩]) cells slots ∧ T'.heap = h' ∧ Wr h h' a j.toNatClampNeg (.int (nar .byte x)) ∧ Ia Z h' a .byte (xs.set j.toNatClampNeg (nar .byte x)) ∧ ∀ t, Steps p.tables e below (T'.setTop { g with pc := g.pc + 1, stack := rest }) t → Steps p.tables e below (T.setTop g) t := by
  obtain ⟨cl, A, q, hl, hf⟩ := F
  obtain ⟨T', h', X', e', W, st⟩ := stB X hx hZ eT A (Ia.hin q hj hlt) hg hs hd
  exact ⟨T', h', X', e', W, Ia.set A q hl hf W (fits_nar_byte x), st⟩
theorem stC' (X : Stand p l e R s m args below meth c T locs cells slots) (hx : p.tables.exec = Jvm.exec) (hZ : Z.Warmed39 s.vm) (eT : T.heap = h) (F : Ia Z h a .char xs) (hj : ¬ j < 0) (hlt : j.toNatClampNeg < xs.length) {g : JFrame} (hg : g.method = m) (hs : g.stack = .int x :: .int j :: .ref a :: rest) (hd : decode c.code g.pc = .ok (.castore, 1)) :
    ∃ T' h', Stand p l e R s m args below meth c T' (locs ++ [⟨a, j.toNatClampNeg⟩]) cells slots ∧ T'.heap = h' ∧ Wr h h' a j.toNatClampNeg (.int (nar .char x)) ∧ Ia Z h' a .char (xs.set j.toNatClampNeg (nar .char x)) ∧ ∀ t, Steps p.tables e below (T'.setTop { g with pc := g.pc + 1, stack := rest }) t → Steps p.tables e below (T.setTop g) t := by
  obtain ⟨cl, A, q, hl, hf⟩ := F
  obtain ⟨T', h', X', e', W, st⟩ := stC X hx hZ eT A (Ia.hin q hj hlt) hg hs hd
  exact ⟨T', h', X', e', W, Ia.set A q hl hf W (fits_nar_char x), st⟩
theorem lenI (X : Stand p l e R s m args below meth c T locs cells slots) (hx : p.tables.exec = Jvm.exec) (hZ : Z.Warmed39 s.vm) (eT : T.heap = h) (F : Ia Z h a ty xs) (hn : xs.length.toInt32 = n) {g : JFrame} (hg : g.method = m) (hs : g.stack = .ref a :: rest) (hd : decode c.code g.pc = .ok (.arraylength, 1)) :
    ∀ t, Steps p.tables e below (T.setTop { g with pc := g.pc + 1, stack := .int n :: rest }) t → Steps p.tables e below (T.setTop g) t := by
  obtain ⟨cl, A, q, -⟩ := F
  have q2 : cl.slots.size.toInt32 = n := by rw [q]; simpa using hn
  have := X.arraylength hx (by rw [eT]; exact A.1) (State.isArrayOf_alike hZ.alike A.2.1) hg hs hd
  rw [q2] at this
  exact this
theorem len32 (hl : xs.length < 2147483648) : xs.length.toInt32.toNatClampNeg = xs.length ∧ ¬ xs.length.toInt32 < 0 := by
  have h1 : xs.length.toInt32.toInt = (xs.length : Int) := Int32.toInt_ofNat_small hl
  refine ⟨by simp only [Int32.toNatClampNeg]; omega, ?_⟩
  rw [Int32.lt_iff_toInt_lt, h1]
  have : (0 : Int32).toInt = 0 := rfl
  omega
theorem Ia.arv (F : Ia Z h a ty xs) : ∃ k, Arv Z h a k ty xs.length.toInt32 (xs.map Value.int) (.int 0) ∧ xs.length < 2147483648 := by
  obtain ⟨c, A, q, hl, hf⟩ := F
  refine ⟨c.cls, ⟨c, A, rfl, by rw [q, (len32 hl).1]; simp, (len32 hl).2, fun i hi => ?_, fun i hi => ?_⟩, hl⟩
  · have hi2 : i < xs.length := by rw [q] at hi; simpa using hi
    rw [q]; simp [List.getD, hi2]
  · have hi2 : i < xs.length := by rw [q] at hi; simpa using hi
    have := hf xs[i] (List.getElem_mem hi2)
    simpa [List.getD, hi2] using this
theorem Ia.of_arv {z : Int32} {d : Value} (F : Arv Z h a k ty z (xs.map Value.int) d) (hl : xs.length = z.toNatClampNeg) : Ia Z h a ty xs := by
  obtain ⟨c, A, q1, S, N, H, G⟩ := F
  have hn : z.toNatClampNeg < 2147483648 := nn_lt
  refine ⟨c, A, ?_, by omega, fun x hx => ?_⟩
  · apply Array.ext
    · rw [S, ← hl]; simp
    · intro i h1 h2
      have := H i h1
      have h3 : i < xs.length := by rw [hl, ← S]; exact h1
      rw [Array.getElem?_eq_getElem h1] at this
      simpa [List.getD, h3] using this
  · obtain ⟨i, hi, rfl⟩ := List.getElem_of_mem hx
    have := G i (by rw [S, ← hl]; exact hi)
    simpa [List.getD, hi] using this
theorem cpI {ys : List Int32} {sp dp nn : Int32} (X : Stand p l e R s m args below meth c T locs cells slots) (hx : p.tables.exec = Jvm.exec) (hZ : Z.Warmed39 s.vm) {a0 : Array Value} {own : String} {index : Nat} (hown : s.vm.findClass own = some m.cls)
    (w1 : (Cond.methodLink own index Jvm.Stand.acN).before a0 Z = true) (w2 : (Cond.native Jvm.Stand.acN).before a0 Z = true) (w3 : (Cond.static Jvm.Stand.acN).before a0 Z = true) (w4 : (Cond.initialized "java/lang/System").before a0 Z = true) (eT : T.heap = h)
    (A : Ia Z h a ty xs) (B : Ia Z h b ty ys) (hty : refKind ty = false) (h1 : ¬ sp < 0) (h2 : ¬ dp < 0) (h3 : ¬ nn < 0) (h4 : sp.toNatClampNeg + nn.toNatClampNeg ≤ xs.length) (h5 : dp.toNatClampNeg + nn.toNatClampNeg ≤ ys.length)
    {n0 : Nat} (N : Fr n0 locs) (ge : n0 ≤ b)
    {g : JFrame} (hg : g.method = m) (hsize : g.locals.size = c.maxLocals) {rest : List Value} (hs : g.stack = .int nn :: .int dp :: .ref b :: .int sp :: .ref a :: rest) (hd : decode c.code g.pc = .ok (.invokestatic index, 3))
    (hf : 1 ≤ R.frames) {W : Nat} (hW : 2 * g.monitorRoom + (rest.map fun v => v.category).sum ≤ W) (hlo : W + (nativeFrameWords "java/lang/System" "arraycopy" 5 + 11) ≤ R.locals) :
    ∃ T' h' L, Stand p l e R s m args below meth c T' L cells slots ∧ T'.heap = h' ∧ Fr n0 L ∧ Keep h h' [b] ∧ Ia Z h' b ty (ys.take dp.toNatClampNeg ++ (xs.drop sp.toNatClampNeg).take nn.toNatClampNeg ++ ys.drop (dp.toNatClampNeg + nn.toNatClampNeg)) ∧
      ∀ target, Steps p.tables e below (T'.setTop { g with pc := g.pc + 3, stack := rest }) target → Steps p.tables e below (T.setTop g) target := by
  obtain ⟨k, A', la⟩ := A.arv
  obtain ⟨k', B', lb⟩ := B.arv
  obtain ⟨T', h', L, X', e', N', K', V', st⟩ := cpA X hx hZ hown w1 w2 w3 w4 eT A' B' (us := ((xs.drop sp.toNatClampNeg).take nn.toNatClampNeg).map Value.int) (Or.inl ⟨rfl, hty⟩) h1 h2 h3 (by rw [(len32 la).1]; exact h4) (by rw [(len32 lb).1]; exact h5)
    (by
      apply List.ext_getElem
      · simp; omega
      · intro i q1 q2
        have q3 : i < nn.toNatClampNeg := by simpa using q2
        have q4 : sp.toNatClampNeg + i < xs.length := by omega
        simp [List.getD, q4])
    (by simpa using h5) N ge hg hsize hs hd hf hW hlo
  refine ⟨T', h', L, X', e', N', K', Ia.of_arv (k := k') (z := ys.length.toInt32) (d := .int 0) ?_ ?_, st⟩
  · simpa [List.map_append, List.map_take, List.map_drop] using V'
  · rw [(len32 lb).1]; simp; omega
theorem cloneI (X : Stand p l e R s m args below meth c T locs cells slots) (hx : p.tables.exec = Jvm.exec) (hZ : Z.Warmed39 s.vm) {a0 : Array Value} {own ad : String} {index : Nat} (hown : s.vm.findClass own = some m.cls)
    (w1 : (Cond.methodLink own index ⟨ad, "clone", "()Ljava/lang/Object;"⟩).before a0 Z = true) (w2 : (Cond.sameMethod ad "java/lang/Object" "clone" "()Ljava/lang/Object;").before a0 Z = true) (w3 : (Cond.native ⟨"java/lang/Object", "clone", "()Ljava/lang/Object;"⟩).before a0 Z = true)
    (w4 : (Cond.instanceMethod ⟨"java/lang/Object", "clone", "()Ljava/lang/Object;"⟩).before a0 Z = true) (w5 : (Cond.selects ad ⟨ad, "clone", "()Ljava/lang/Object;"⟩ ⟨"java/lang/Object", "clone", "()Ljava/lang/Object;"⟩).before a0 Z = true) (w6 : (Cond.castable ad "java/lang/Cloneable").before a0 Z = true)
    (eT : T.heap = h) (F : Ia Z h a ty xs) (E : Exa Z h a ad) {g : JFrame} (hg : g.method = m) (hsize : g.locals.size = c.maxLocals) {rest : List Value} (hst : g.stack = .ref a :: rest) (hd : decode c.code g.pc = .ok (.invokevirtual index, 3))
    (hf : 1 ≤ R.frames) {W cap : Nat} (hW : 2 * g.monitorRoom + (rest.map fun v => v.category).sum ≤ W) (hl : W + 14 ≤ R.locals) (hcap : xs.length ≤ cap) (hc : cells + 1 ≤ R.cells) (hsl : slots + cap ≤ R.slots) :
    ∃ T' h', Stand p l e R s m args below meth c T' locs (cells + 1) (slots + cap) ∧ T'.heap = h' ∧ Ext h h' ∧ Ia Z h' h.size ty xs ∧ Exa Z h' h.size ad ∧
      ∀ target, Steps p.tables e below (T'.setTop { g with pc := g.pc + 3, stack := .ref h.size :: rest }) target → Steps p.tables e below (T.setTop g) target := by
  obtain ⟨k, A, la⟩ := F.arv
  obtain ⟨T', h', X', e', ex, A', E', st⟩ := cloneH X hx hZ hown w1 w2 w3 w4 w5 w6 eT A.arh E hg hsize hst hd hf hW hl (by rw [(len32 la).1]; exact hcap) hc hsl
  exact ⟨T', h', X', e', ex, Ia.of_arv (k := k) (z := xs.length.toInt32) (d := .int 0) A' (len32 la).1.symm, E', st⟩
theorem selP {a0 : Array Value} {y : MethodName} {kk : Nat} (hZ : Z.Warmed39 s.vm) (wi : (Cond.instantiable y.cls kk).before a0 Z = true) (wp : (Cond.privateMethod y).before a0 Z = true) (wm : (Cond.instanceMethod y).before a0 Z = true) (hy : y.cls ≠ "java/lang/invoke/MethodHandle" ∧ y.cls ≠ "java/lang/invoke/VarHandle") : (Cond.selects y.cls y y).before args s = true := by
  obtain ⟨c, k, h1, h2, -, h4, -⟩ := Cond.instantiable_spec (mvT (args := args) hZ wi)
  exact selects_self_of_private h1 h2 (by simp only [Bool.or_eq_false_iff] at h4; exact h4.1) (Cond.privateMethod_at (mvP hZ wp (args := args))) (mvT hZ wm) hy
end Own
end Jvm.OwnKit
namespace Jvm.Pilot.@@N@@
open Jvm Jvm.ClassFile Sem Op Lib Jvm.Free Jvm.Stand Jvm.LawKit Jvm.RoadKit Bundle Jvm.Pilot.@@N@@.Jvm.D Jvm.OwnKit
theorem tw {a0 : Array Value} {Z : State} (hw : ∀ d ∈ tables_1, d.before a0 Z = true) (i : Nat) {d : Jvm.Cond} (h : tables_1[i]? = some d) : d.before a0 Z = true := hw d (List.mem_of_getElem? h)
def own_pay (xs ps : List Int32) : Prop := ∃ hd rs : List Int32, xs = hd ++ (ps ++ rs) ∧ hd.length = 12 ∧ 12 + ps.length + rs.length = 4096
abbrev own_b (x : Int32) : Int32 := nar .byte x.toInt8.toInt32
theorem own_init : own_pay (List.replicate (4096 : Int32).toNatClampNeg 0) [] := ⟨List.replicate 12 0, List.replicate 4084 0, by rw [List.nil_append, List.replicate_append_replicate]; rfl, List.length_replicate, by rw [List.length_replicate, List.length_nil]⟩
theorem own_nn {z : Int32} (h : 0 ≤ z.toInt) : ¬ z < 0 := by
  rw [Int32.lt_iff_toInt_lt]; have : (0 : Int32).toInt = 0 := rfl; omega
theorem own_cl {z : Int32} {n : Nat} (h : z.toInt = (n : Int)) : z.toNatClampNeg = n := by simp only [Int32.toNatClampNeg]; omega
theorem own_len {xs ps : List Int32} (h : own_pay xs ps) : xs.length = 4096 := by
  obtain ⟨hd, rs, rfl, h1, h2⟩ := h; simp; omega
theorem own_le1 {xs ps : List Int32} {sz : Int32} (h : own_pay xs ps) (hs : sz.toInt = ((12 + ps.length : Nat) : Int)) (hl : ps.length < 4084) : ¬ (xs.length.toInt32 < sz + (1 : Int32)) := by
  rw [own_len h, Int32.lt_iff_toInt_lt]
  have h1 := c_iadd sz 1
  have h2 := rng32 (sz + 1)
  have h3 : (4096 : Nat).toInt32.toInt = 4096 := rfl
  have h4 : (1 : Int32).toInt = 1 := rfl
  omega
theorem own_set {xs ps : List Int32} {sz x : Int32} (h : own_pay xs ps) (hs : sz.toInt = ((12 + ps.length : Nat) : Int)) (hl : ps.length < 4084) : own_pay (List.set xs (sz).toNatClampNeg x) (ps ++ [x]) := by
  obtain ⟨hd, rs, rfl, h1, h2⟩ := h
  rw [own_cl hs]
  match rs, h2 with
  | [], h2 => simp at h2; omega
  | r :: rs, h2 =>
    refine ⟨hd, rs, ?_, h1, by simp at h2 ⊢; omega⟩
    rw [List.set_append_right (h := by omega), List.set_append_right (h := by omega), show 12 + ps.length - hd.length - ps.length = 0 by omega]
    simp
theorem own_sz {sz : Int32} {ps : List Int32} {x : Int32} (hs : sz.toInt = ((12 + ps.length : Nat) : Int)) (hl : ps.length < 4084) : (sz + (1 : Int32)).toInt = ((12 + (ps ++ [x]).length : Nat) : Int) := by
  have h1 := c_iadd sz 1
  have h2 := rng32 (sz + 1)
  have h4 : (1 : Int32).toInt = 1 := rfl
  simp only [List.length_append, List.length_cons, List.length_nil]; omega
theorem d2_0 : decode jdk_2038_method_1_code 0 = .ok (.aload_n 0, 1) := by decide +kernel
theorem d2_1 : decode jdk_2038_method_1_code 1 = .ok (.invokespecial 1, 3) := by decide +kernel
theorem d2_4 : decode jdk_2038_method_1_code 4 = .ok (.return_, 1) := by decide +kernel
theorem pn_2 : plainName "java/io/OutputStream" = true := by first | (simp [plainName, overriddenIn]; done) | decide +kernel
theorem ef_2 (m : MethodId) (x0 : Addr) : entryFrame m #[(.ref x0)] 1 = mkF m 0 #[.val (.ref x0)] [] := by first | (simp [entryFrame, mkF, argsToLocals, Value.category]; done) | rfl
def Q_rm2 (Z : State) (a : Addr)  (h0 : Heap) (n0 : Nat) (vQ : Option Value) (hQ : Heap) (LQ : List Loc) : Prop := vQ = none ∧ Fr n0 LQ ∧ hQ = h0
set_option maxRecDepth 65536 in
set_option maxHeartbeats 40000000 in
theorem rm2 (l : Launch) (Z : State) (a0 : Array Value) (hw : ∀ d ∈ tables_1, d.before a0 Z = true) (ws : List Jvm.Cond) (a : Addr)  (h0 : Heap) (n0 : Nat) (Z0 : n0 ≤ h0.size) :
    MetFree l (⟨"java/io/OutputStream", "<init>", "()V"⟩ : MethodName) (head1 (Jvm.Cond.code (⟨"java/io/OutputStream", "<init>", "()V"⟩ : MethodName) jdk_2038_method_1_code 1 none :: ws) ({ frames := 1, cells := 0, slots := 0, locals := 12 } : Room)) (fun aQ UQ => aQ = #[(.ref a)] ∧ Z.Warmed39 UQ.vm ∧ UQ.heap = h0) (fun _ _ _ _ _ => True) (fun _ UQ oQ UR => ∃ vQ LQ, oQ = .returned vQ ∧ Q_rm2 Z a  h0 n0 vQ UR.heap LQ ∧ FrameEnd UQ oQ UR LQ ({ frames := 1, cells := 0, slots := 0, locals := 12 } : Room).cells ({ frames := 1, cells := 0, slots := 0, locals := 12 } : Room).slots) := by
  refine MetFree.of_bodySF (plainFor_of_name pn_2) hisR ?_
  intro p e s m args below meth c s₁ Bd hml0 hP hK
  obtain ⟨rfl, hZ, hh⟩ := hP
  have hx := Bd.exec
  have hby := Bd.bytes
  have hlk := Bd.notSynchronized
  have hml : c.maxLocals = 1 := hml0
  have hown : s.vm.findClass "java/io/OutputStream" = some m.cls := findClass_of_methodNamed Bd.named
  have hnm := (name_of_methodNamed Bd.named Bd.method).1
  have X0 : Stand p l e ({ frames := 1, cells := 0, slots := 0, locals := 12 } : Room) s m #[(.ref a)] below meth c s₁ [] 0 0 := Stand.of_body Bd
  have e0 : s₁.heap = h0 := by rw [← hh, Bd.state]; rfl
  have N0 := Fr.nil n0
  show Go p e below _ (Done s (Q_rm2 Z a  h0 n0) ({ frames := 1, cells := 0, slots := 0, locals := 12 } : Room).cells ({ frames := 1, cells := 0, slots := 0, locals := 12 } : Room).slots)
  refine Go.via (fun tQ kQ => castTop (ef_2 m a) kQ) ?_
  show Go p e below (s₁.setTop (mkF m 0 #[.val (.ref a)] [])) _
  refine Go.via (fun _ => XS.aloadN X0.here hx rfl (hb hby d2_0) rfl rfl) ?_
  obtain ⟨T1, X1, e1, st1⟩ := initO X0 hx hZ hown (tw hw 13 rfl) (tw hw 14 rfl) (tw hw 15 rfl) e0 (g := (mkF m 1 #[.val (.ref a)] [(.ref a)])) rfl (by rw [hml]; rfl) rfl (hb hby d2_1) (by decide) (W := 0) (by show 2 * 0 + _ ≤ _; exact Nat.le_of_eq rfl) (by decide)
  refine Go.via (st1) ?_
  show Go p e below (T1.setTop (mkF m 4 #[.val (.ref a)] [])) _
  exact Go.fin X1 hlk (v := none) (fun _ => rfl) (fun fs hr => X1.returnOut hx Bd.returns (hb hby d2_4) hr) (by rw [e1]; exact ⟨rfl, N0, rfl⟩) (by decide) (by decide)
theorem d1_0 : decode prog_67_method_1_code 0 = .ok (.aload_n 0, 1) := by decide +kernel
theorem d1_1 : decode prog_67_method_1_code 1 = .ok (.invokespecial 3, 3) := by decide +kernel
theorem pd__28_29V : parseMethodDescriptor "()V" = some ⟨[], none⟩ := by decide +kernel
theorem d1_4 : decode prog_67_method_1_code 4 = .ok (.aload_n 0, 1) := by decide +kernel
theorem d1_5 : decode prog_67_method_1_code 5 = .ok (.sipush 4096, 3) := by decide +kernel
theorem d1_8 : decode prog_67_method_1_code 8 = .ok (.newarray .byte, 2) := by decide +kernel
theorem d1_10 : decode prog_67_method_1_code 10 = .ok (.putfield 9, 3) := by decide +kernel
theorem d1_13 : decode prog_67_method_1_code 13 = .ok (.aload_n 0, 1) := by decide +kernel
theorem d1_14 : decode prog_67_method_1_code 14 = .ok (.bipush 12, 2) := by decide +kernel
theorem d1_16 : decode prog_67_method_1_code 16 = .ok (.putfield 15, 3) := by decide +kernel
theorem d1_19 : decode prog_67_method_1_code 19 = .ok (.return_, 1) := by decide +kernel
theorem pn_1 : plainName "com/example/quicksettle/quicksettle/Records$Writer" = true := by first | (simp [plainName, overriddenIn]; done) | decide +kernel
theorem ef_1 (m : MethodId) (x0 : Addr) : entryFrame m #[(.ref x0)] 1 = mkF m 0 #[.val (.ref x0)] [] := by first | (simp [entryFrame, mkF, argsToLocals, Value.category]; done) | rfl
def Q_rm1 (Z : State) (a : Addr)  (h0 : Heap) (n0 : Nat) (vQ : Option Value) (hQ : Heap) (LQ : List Loc) : Prop := ∃ b : Addr, vQ = none ∧ Fr n0 LQ ∧ Keep h0 hQ [a] ∧ h0.size ≤ b ∧ Exa Z hQ a "com/example/quicksettle/quicksettle/Records$Writer" ∧ Fld Z hQ a "com/example/quicksettle/quicksettle/Records$Writer" "bytes" "[B" (.ref b) ∧ Fld Z hQ a "com/example/quicksettle/quicksettle/Records$Writer" "size" "I" (.int (12 : Int32)) ∧ Ia Z hQ b .byte (List.replicate (4096 : Int32).toNatClampNeg 0)
set_option maxRecDepth 65536 in
set_option maxHeartbeats 40000000 in
theorem rm1 (l : Launch) (Z : State) (a0 : Array Value) (hw : ∀ d ∈ tables_1, d.before a0 Z = true) (ws : List Jvm.Cond) (a : Addr)  (h0 : Heap) (n0 : Nat) (Z0 : n0 ≤ h0.size) (P0 : Exa Z h0 a "com/example/quicksettle/quicksettle/Records$Writer") (P1 : Fld Z h0 a "com/example/quicksettle/quicksettle/Records$Writer" "bytes" "[B" .null) (P2 : Fld Z h0 a "com/example/quicksettle/quicksettle/Records$Writer" "size" "I" (.int (0 : Int32))) (g_a : n0 ≤ a) :
    MetFree l (⟨"com/example/quicksettle/quicksettle/Records$Writer", "<init>", "()V"⟩ : MethodName) (head1 (Jvm.Cond.code (⟨"com/example/quicksettle/quicksettle/Records$Writer", "<init>", "()V"⟩ : MethodName) prog_67_method_1_code 1 none :: ws) ({ frames := 2, cells := 1, slots := 4096, locals := 24 } : Room)) (fun aQ UQ => aQ = #[(.ref a)] ∧ Z.Warmed39 UQ.vm ∧ UQ.heap = h0) (fun _ _ _ _ _ => True) (fun _ UQ oQ UR => ∃ vQ LQ, oQ = .returned vQ ∧ Q_rm1 Z a  h0 n0 vQ UR.heap LQ ∧ FrameEnd UQ oQ UR LQ ({ frames := 2, cells := 1, slots := 4096, locals := 24 } : Room).cells ({ frames := 2, cells := 1, slots := 4096, locals := 24 } : Room).slots) := by
  refine MetFree.of_bodySF (plainFor_of_name pn_1) hisR ?_
  intro p e s m args below meth c s₁ Bd hml0 hP hK
  obtain ⟨rfl, hZ, hh⟩ := hP
  have hx := Bd.exec
  have hby := Bd.bytes
  have hlk := Bd.notSynchronized
  have hml : c.maxLocals = 1 := hml0
  have hown : s.vm.findClass "com/example/quicksettle/quicksettle/Records$Writer" = some m.cls := findClass_of_methodNamed Bd.named
  have hnm := (name_of_methodNamed Bd.named Bd.method).1
  have X0 : Stand p l e ({ frames := 2, cells := 1, slots := 4096, locals := 24 } : Room) s m #[(.ref a)] below meth c s₁ [] 0 0 := Stand.of_body Bd
  have e0 : s₁.heap = h0 := by rw [← hh, Bd.state]; rfl
  have N0 := Fr.nil n0
  show Go p e below _ (Done s (Q_rm1 Z a  h0 n0) ({ frames := 2, cells := 1, slots := 4096, locals := 24 } : Room).cells ({ frames := 2, cells := 1, slots := 4096, locals := 24 } : Room).slots)
  refine Go.via (fun tQ kQ => castTop (ef_1 m a) kQ) ?_
  show Go p e below (s₁.setTop (mkF m 0 #[.val (.ref a)] [])) _
  refine Go.via (fun _ => XS.aloadN X0.here hx rfl (hb hby d1_0) rfl rfl) ?_
  obtain ⟨_, _, ⟨T2, L2, k2, n2⟩, -, X2, ⟨Lc2, hQ2, l2, y2, z2⟩, st2⟩ := X0.specialBack hx (y := (⟨"java/io/OutputStream", "<init>", "()V"⟩ : MethodName)) rfl hown (mvT hZ (tw hw 8 rfl)) (mvT hZ (tw hw 9 rfl)) (mvT hZ (tw hw 12 rfl)) (by decide) (backOf (W := 0) (rm2 l Z a0 hw [] a  h0 n0 Z0) hZ (tw hw 12 rfl) (tw hw 11 rfl) (by decide) (by decide)) (g := (mkF m 1 #[.val (.ref a)] [(.ref a)])) rfl (by rw [hml]; rfl) (Steps.refl _) (a := a) (argsL := []) (rest := []) (lenOf pd__28_29V rfl) rfl (by show 2 * 0 + _ ≤ _; exact Nat.le_of_eq rfl) (hb hby d1_1) (fun _ _ => ⟨rfl, e0, (by decide : 0 + 0 ≤ _), (by decide : 0 + 0 ≤ _)⟩)
  dsimp only [Pt.U, Pt.locs, Pt.cells, Pt.slots] at X2 l2 y2 z2 st2 hQ2
  subst l2 y2 z2
  obtain ⟨rfl, N2q, eh2⟩ := hQ2
  have N2 := Fr.app N0 N2q
  refine Go.via (fun _ kQ => st2.trans kQ) ?_
  have e2 : T2.heap = h0 := eh2
  show Go p e below (T2.setTop (mkF m 4 #[.val (.ref a)] [])) _
  refine Go.via (fun _ => XS.aloadN X2.here hx rfl (hb hby d1_4) rfl rfl) ?_
  refine Go.via (fun _ => XS.sipush X2.here hx rfl (hb hby d1_5)) ?_
  obtain ⟨T3, h3, k3, X3, e3, E3, A3, B3, st3⟩ := newPE X2 hx hZ (tw hw 1 rfl) e2 (g := (mkF m 8 #[.val (.ref a)] [(.int (4096 : Int32)), (.ref a)])) rfl (hb hby d1_8) rfl (by decide) (cap := 4096) (by decide) (by decide) (by decide) (by decide) (ad := "[B") (by decide)
  obtain ⟨b3, g3⟩ : ∃ z, z = h0.size := ⟨_, rfl⟩
  rw [← g3] at A3 B3 st3
  have ne4 : a ≠ b3 := Nat.ne_of_lt (Nat.lt_of_lt_of_le P0.lt (Nat.le_of_eq g3.symm))
  have ge5 : n0 ≤ b3 := Nat.le_trans Z0 (Nat.le_of_eq g3.symm)
  have sz6 : h0.size ≤ b3 := Nat.le_trans (Keep.refl h0 [a]).1 (Nat.le_of_eq g3.symm)
  refine Go.via (st3) ?_
  have f7 : Ia Z h3 b3 .byte (List.replicate ((4096 : Int32)).toNatClampNeg 0) := Ia.new A3 rfl
  show Go p e below (T3.setTop (mkF m 10 #[.val (.ref a)] [(.ref b3), (.ref a)])) _
  have f8 : Fld Z h3 a "com/example/quicksettle/quicksettle/Records$Writer" "bytes" "[B" .null := (P1.ext E3)
  have f9 : Exa Z h3 a "com/example/quicksettle/quicksettle/Records$Writer" := (P0.ext E3)
  obtain ⟨T10, h10, X10, e10, W10, st10⟩ := putF X3 hx hZ hown (host := "") (Or.inl (tw hw 16 rfl)) Via.refl e3 f8 f9 (Or.inl (tw hw 17 rfl)) (tw hw 3 rfl) (ty := (.array .byte)) (by decide) rfl rfl (g := (mkF m 10 #[.val (.ref a)] [(.ref b3), (.ref a)])) rfl rfl (hb hby d1_10)
  refine Go.via (st10) ?_
  have N10 := Fr.snoc X10 N2 g_a
  have f11 : Fld Z h10 a "com/example/quicksettle/quicksettle/Records$Writer" "bytes" "[B" (.ref b3) := f8.same W10
  show Go p e below (T10.setTop (mkF m 13 #[.val (.ref a)] [])) _
  refine Go.via (fun _ => XS.aloadN X10.here hx rfl (hb hby d1_13) rfl rfl) ?_
  refine Go.via (fun _ => XS.bipush X10.here hx rfl (hb hby d1_14)) ?_
  have f12 : Fld Z h10 a "com/example/quicksettle/quicksettle/Records$Writer" "size" "I" (.int (0 : Int32)) := ((P2.ext E3).other W10 (Or.inr (slot_ne (Or.inl (tw hw 19 rfl)) (Or.inl (tw hw 17 rfl)) (by decide) (t := .int) (t' := (.array .byte)) (by decide) (by decide))))
  have f13 : Exa Z h10 a "com/example/quicksettle/quicksettle/Records$Writer" := (f9.wr W10)
  obtain ⟨T14, h14, X14, e14, W14, st14⟩ := putF X10 hx hZ hown (host := "") (Or.inl (tw hw 18 rfl)) Via.refl e10 f12 f13 (Or.inl (tw hw 19 rfl)) (tw hw 3 rfl) (ty := .int) (by decide) rfl rfl (g := (mkF m 16 #[.val (.ref a)] [(.int (12 : Int32)), (.ref a)])) rfl rfl (hb hby d1_16)
  refine Go.via (st14) ?_
  have N14 := Fr.snoc X14 N10 g_a
  have f15 : Fld Z h14 a "com/example/quicksettle/quicksettle/Records$Writer" "size" "I" (.int (12 : Int32)) := f12.same W14
  show Go p e below (T14.setTop (mkF m 19 #[.val (.ref a)] [])) _
  have k16 : Keep h0 h14 [a] := ((((Keep.refl h0 [a]).ext E3).wr W10 (Or.inl (List.mem_of_getElem? (i := 0) rfl))).wr W14 (Or.inl (List.mem_of_getElem? (i := 0) rfl)))
  have f17 : Exa Z h14 a "com/example/quicksettle/quicksettle/Records$Writer" := (f13.wr W14)
  have f18 : Fld Z h14 a "com/example/quicksettle/quicksettle/Records$Writer" "bytes" "[B" (.ref b3) := (f11.other W14 (Or.inr (slot_ne (Or.inl (tw hw 17 rfl)) (Or.inl (tw hw 19 rfl)) (by decide) (t := (.array .byte)) (t' := .int) (by decide) (by decide))))
  have f19 : Ia Z h14 b3 .byte (List.replicate ((4096 : Int32)).toNatClampNeg 0) := ((f7.other W10 (Ne.symm ne4)).other W14 (Ne.symm ne4))
  exact Go.fin X14 hlk (v := none) (fun _ => rfl) (fun fs hr => X14.returnOut hx Bd.returns (hb hby d1_19) hr) (by rw [e14]; exact ⟨b3, rfl, N14, k16, sz6, f17, f18, f15, f19⟩) (by decide) (by decide)
theorem d8_0 : decode jdk_29_method_69_code 0 = .ok (.iload_n 0, 1) := by decide +kernel
theorem d8_1 : decode jdk_29_method_69_code 1 = .ok (.iload_n 1, 1) := by decide +kernel
theorem d8_2 : decode jdk_29_method_69_code 2 = .ok (.if_icmp .gt 7, 3) := by decide +kernel
theorem d8_9 : decode jdk_29_method_69_code 9 = .ok (.iload_n 1, 1) := by decide +kernel
theorem d8_10 : decode jdk_29_method_69_code 10 = .ok (.ireturn, 1) := by decide +kernel
theorem d8_5 : decode jdk_29_method_69_code 5 = .ok (.iload_n 0, 1) := by decide +kernel
theorem d8_6 : decode jdk_29_method_69_code 6 = .ok (.goto 4, 3) := by decide +kernel
theorem ef_8 (m : MethodId) (x0 : Int32) (x1 : Int32) : entryFrame m #[(.int x0), (.int x1)] 2 = mkF m 0 #[.val (.int x0), .val (.int x1)] [] := by first | (simp [entryFrame, mkF, argsToLocals, Value.category]; done) | rfl
def Q_rm8 (Z : State) (x : Int32) (y : Int32)  (h0 : Heap) (n0 : Nat) (vQ : Option Value) (hQ : Heap) (LQ : List Loc) : Prop := vQ = some (.int (if y < x then y else x)) ∧ Fr n0 LQ ∧ hQ = h0
set_option maxRecDepth 65536 in
set_option maxHeartbeats 40000000 in
theorem rm8 (l : Launch) (Z : State) (a0 : Array Value) (hw : ∀ d ∈ tables_1, d.before a0 Z = true) (ws : List Jvm.Cond) (x : Int32) (y : Int32)  (h0 : Heap) (n0 : Nat) (Z0 : n0 ≤ h0.size) :
    MetFree l (⟨"java/lang/Math", "min", "(II)I"⟩ : MethodName) (head1 (Jvm.Cond.code (⟨"java/lang/Math", "min", "(II)I"⟩ : MethodName) jdk_29_method_69_code 2 (some .int) :: ws) ({ frames := 0, cells := 0, slots := 0, locals := 0 } : Room)) (fun aQ UQ => aQ = #[(.int x), (.int y)] ∧ Z.Warmed39 UQ.vm ∧ UQ.heap = h0) (fun _ _ _ _ _ => True) (fun _ UQ oQ UR => ∃ vQ LQ, oQ = .returned vQ ∧ Q_rm8 Z x y  h0 n0 vQ UR.heap LQ ∧ FrameEnd UQ oQ UR LQ ({ frames := 0, cells := 0, slots := 0, locals := 0 } : Room).cells ({ frames := 0, cells := 0, slots := 0, locals := 0 } : Room).slots) := by
  refine MetFree.of_bodySF (Jvm.Free.JP.mathPlain rfl (by decide +kernel)) hisR ?_
  intro p e s m args below meth c s₁ Bd hml0 hP hK
  obtain ⟨rfl, hZ, hh⟩ := hP
  have hx := Bd.exec
  have hby := Bd.bytes
  have hlk := Bd.notSynchronized
  have hml : c.maxLocals = 2 := hml0
  have hown : s.vm.findClass "java/lang/Math" = some m.cls := findClass_of_methodNamed Bd.named
  have hnm := (name_of_methodNamed Bd.named Bd.method).1
  have X0 : Stand p l e ({ frames := 0, cells := 0, slots := 0, locals := 0 } : Room) s m #[(.int x), (.int y)] below meth c s₁ [] 0 0 := Stand.of_body Bd
  have e0 : s₁.heap = h0 := by rw [← hh, Bd.state]; rfl
  have N0 := Fr.nil n0
  show Go p e below _ (Done s (Q_rm8 Z x y  h0 n0) ({ frames := 0, cells := 0, slots := 0, locals := 0 } : Room).cells ({ frames := 0, cells := 0, slots := 0, locals := 0 } : Room).slots)
  refine Go.via (fun tQ kQ => castTop (ef_8 m x y) kQ) ?_
  show Go p e below (s₁.setTop (mkF m 0 #[.val (.int x), .val (.int y)] [])) _
  refine Go.via (fun _ => XS.iloadN X0.here hx rfl (hb hby d8_0) rfl) ?_
  refine Go.via (fun _ => XS.iloadN X0.here hx rfl (hb hby d8_1) rfl) ?_
  by_cases hc20 : y < x
  · refine Go.via (fun _ => XS.icmpYes X0.here hx rfl (pc0 := 2) (pc' := 9) rfl (hb hby d8_2) rfl (tlt (hc20 : y < x)).2.2.1 (by decide) (by decide)) ?_
    refine Go.via (fun _ => XS.iloadN X0.here hx rfl (hb hby d8_9) rfl) ?_
    exact Go.fin X0 hlk (v := some (.int y)) (fun h => by rw [Bd.returns] at h; cases h) (fun fs hr => OwnKit.retI X0 hx Bd.returns (hb hby d8_10) hr) (by rw [e0]; exact ⟨(by first | rw [if_pos (by assumption)] | rw [if_neg (by assumption)]), N0, rfl⟩) (by decide) (by decide)
  · refine Go.via (fun _ => XS.icmpNo X0.here hx rfl (hb hby d8_2) rfl (flt (hc20 : ¬ (y < x))).2.2.1) ?_
    refine Go.via (fun _ => XS.iloadN X0.here hx rfl (hb hby d8_5) rfl) ?_
    refine Go.via (fun _ => XS.goto X0.here hx rfl (pc0 := 6) (pc' := 10) rfl (hb hby d8_6) (by decide) (by decide)) ?_
    show Go p e below (s₁.setTop (mkF m 10 #[.val (.int x), .val (.int y)] [(.int x)])) _
    exact Go.fin X0 hlk (v := some (.int x)) (fun h => by rw [Bd.returns] at h; cases h) (fun fs hr => OwnKit.retI X0 hx Bd.returns (hb hby d8_10) hr) (by rw [e0]; exact ⟨(by first | rw [if_pos (by assumption)] | rw [if_neg (by assumption)]), N0, rfl⟩) (by decide) (by decide)
theorem d7_0 : decode jdk_65_method_131_code 0 = .ok (.iload_n 1, 1) := by decide +kernel
theorem d7_1 : decode jdk_65_method_131_code 1 = .ok (.iload_n 0, 1) := by decide +kernel
theorem d7_2 : decode jdk_65_method_131_code 2 = .ok (.if_icmp .ge 35, 3) := by decide +kernel
theorem d7_37 : decode jdk_65_method_131_code 37 = .ok (.return_, 1) := by decide +kernel
theorem pn_7 : plainName "java/util/Arrays" = true := by first | (simp [plainName, overriddenIn]; done) | decide +kernel
theorem ef_7 (m : MethodId) (x0 : Int32) (x1 : Int32) : entryFrame m #[(.int x0), (.int x1)] 2 = mkF m 0 #[.val (.int x0), .val (.int x1)] [] := by first | (simp [entryFrame, mkF, argsToLocals, Value.category]; done) | rfl
def Q_rm7 (Z : State) (f : Int32) (t : Int32)  (h0 : Heap) (n0 : Nat) (vQ : Option Value) (hQ : Heap) (LQ : List Loc) : Prop := vQ = none ∧ Fr n0 LQ ∧ hQ = h0
set_option maxRecDepth 65536 in
set_option maxHeartbeats 40000000 in
theorem rm7 (l : Launch) (Z : State) (a0 : Array Value) (hw : ∀ d ∈ tables_1, d.before a0 Z = true) (ws : List Jvm.Cond) (f : Int32) (t : Int32)  (h0 : Heap) (n0 : Nat) (Z0 : n0 ≤ h0.size) (hft : ¬ t < f) :
    MetFree l (⟨"java/util/Arrays", "checkLength", "(II)V"⟩ : MethodName) (head1 (Jvm.Cond.code (⟨"java/util/Arrays", "checkLength", "(II)V"⟩ : MethodName) jdk_65_method_131_code 2 none :: ws) ({ frames := 0, cells := 0, slots := 0, locals := 0 } : Room)) (fun aQ UQ => aQ = #[(.int f), (.int t)] ∧ Z.Warmed39 UQ.vm ∧ UQ.heap = h0) (fun _ _ _ _ _ => True) (fun _ UQ oQ UR => ∃ vQ LQ, oQ = .returned vQ ∧ Q_rm7 Z f t  h0 n0 vQ UR.heap LQ ∧ FrameEnd UQ oQ UR LQ ({ frames := 0, cells := 0, slots := 0, locals := 0 } : Room).cells ({ frames := 0, cells := 0, slots := 0, locals := 0 } : Room).slots) := by
  refine MetFree.of_bodySF (plainFor_of_name pn_7) hisR ?_
  intro p e s m args below meth c s₁ Bd hml0 hP hK
  obtain ⟨rfl, hZ, hh⟩ := hP
  have hx := Bd.exec
  have hby := Bd.bytes
  have hlk := Bd.notSynchronized
  have hml : c.maxLocals = 2 := hml0
  have hown : s.vm.findClass "java/util/Arrays" = some m.cls := findClass_of_methodNamed Bd.named
  have hnm := (name_of_methodNamed Bd.named Bd.method).1
  have X0 : Stand p l e ({ frames := 0, cells := 0, slots := 0, locals := 0 } : Room) s m #[(.int f), (.int t)] below meth c s₁ [] 0 0 := Stand.of_body Bd
  have e0 : s₁.heap = h0 := by rw [← hh, Bd.state]; rfl
  have N0 := Fr.nil n0
  show Go p e below _ (Done s (Q_rm7 Z f t  h0 n0) ({ frames := 0, cells := 0, slots := 0, locals := 0 } : Room).cells ({ frames := 0, cells := 0, slots := 0, locals := 0 } : Room).slots)
  refine Go.via (fun tQ kQ => castTop (ef_7 m f t) kQ) ?_
  show Go p e below (s₁.setTop (mkF m 0 #[.val (.int f), .val (.int t)] [])) _
  refine Go.via (fun _ => XS.iloadN X0.here hx rfl (hb hby d7_0) rfl) ?_
  refine Go.via (fun _ => XS.iloadN X0.here hx rfl (hb hby d7_1) rfl) ?_
  refine Go.via (fun _ => XS.icmpYes X0.here hx rfl (pc0 := 2) (pc' := 37) rfl (hb hby d7_2) rfl (flt (hft : ¬ (t < f))).2.1 (by decide) (by decide)) ?_
  show Go p e below (s₁.setTop (mkF m 37 #[.val (.int f), .val (.int t)] [])) _
  exact Go.fin X0 hlk (v := none) (fun _ => rfl) (fun fs hr => X0.returnOut hx Bd.returns (hb hby d7_37) hr) (by rw [e0]; exact ⟨rfl, N0, rfl⟩) (by decide) (by decide)
theorem own_sub {f t : Int32} (h0 : 0 ≤ f.toInt) (h1 : f.toInt ≤ t.toInt) : (t - f).toInt = t.toInt - f.toInt := by
  have := c_isub t f; have := rng32 (t - f); have := rng32 t; have := rng32 f; omega
theorem own_nlt {f t : Int32} (h1 : f.toInt ≤ t.toInt) : ¬ t < f := by rw [Int32.lt_iff_toInt_lt]; omega
theorem own_min {f t n : Int32} (h0 : 0 ≤ f.toInt) (h1 : f.toInt ≤ t.toInt) (h2 : t.toInt ≤ n.toInt) : (if (t - f) < (n - f) then (t - f) else (n - f)) = (t - f) := by
  have e1 := own_sub h0 h1
  have e2 := own_sub h0 (Int.le_trans h1 h2)
  split
  · rfl
  · rename_i q; rw [Int32.lt_iff_toInt_lt, e1, e2] at q
    apply Int32.toInt_inj.mp; omega
theorem own_l32 {n : Nat} (h : n < 2147483648) : n.toInt32.toInt = (n : Int) := Int32.toInt_ofNat_small h
theorem own_c4 {f t : Int32} {xs : List Int32} (h0 : 0 ≤ f.toInt) (h1 : f.toInt ≤ t.toInt) (h2 : t.toInt ≤ (xs.length : Int)) : f.toNatClampNeg + (t - f).toNatClampNeg ≤ xs.length := by
  have e := own_sub h0 h1; simp only [Int32.toNatClampNeg]; omega
theorem own_c5 (n : Int32) : (0 : Int32).toNatClampNeg + n.toNatClampNeg ≤ (List.replicate n.toNatClampNeg (0 : Int32)).length := by
  have : (0 : Int32).toNatClampNeg = 0 := rfl
  simp [this]
theorem own_cv {Z : State} {h : Heap} {r : Addr} {f t : Int32} {xs : List Int32} (h0 : 0 ≤ f.toInt) (h1 : f.toInt ≤ t.toInt) (h2 : t.toInt ≤ (xs.length : Int))
    (V : Ia Z h r .byte ((List.replicate (t - f).toNatClampNeg (0 : Int32)).take (0 : Int32).toNatClampNeg ++ (xs.drop f.toNatClampNeg).take (t - f).toNatClampNeg ++ (List.replicate (t - f).toNatClampNeg (0 : Int32)).drop ((0 : Int32).toNatClampNeg + (t - f).toNatClampNeg))) : Ia Z h r .byte ((List.drop (f).toNatClampNeg xs).take (t - f).toNatClampNeg) := by
  have e : (0 : Int32).toNatClampNeg = 0 := rfl
  rw [e] at V
  simpa using V
theorem d6_0 : decode jdk_65_method_133_code 0 = .ok (.iload_n 1, 1) := by decide +kernel
theorem d6_1 : decode jdk_65_method_133_code 1 = .ok (.iload_n 2, 1) := by decide +kernel
theorem d6_2 : decode jdk_65_method_133_code 2 = .ok (.invokestatic 343, 3) := by decide +kernel
theorem pd__28II_29V : parseMethodDescriptor "(II)V" = some ⟨[.int, .int], none⟩ := by decide +kernel
theorem d6_5 : decode jdk_65_method_133_code 5 = .ok (.iload_n 2, 1) := by decide +kernel
theorem d6_6 : decode jdk_65_method_133_code 6 = .ok (.iload_n 1, 1) := by decide +kernel
theorem d6_7 : decode jdk_65_method_133_code 7 = .ok (.isub, 1) := by decide +kernel
theorem d6_8 : decode jdk_65_method_133_code 8 = .ok (.istore_n 3, 1) := by decide +kernel
theorem d6_9 : decode jdk_65_method_133_code 9 = .ok (.iload_n 3, 1) := by decide +kernel
theorem d6_10 : decode jdk_65_method_133_code 10 = .ok (.newarray .byte, 2) := by decide +kernel
theorem d6_12 : decode jdk_65_method_133_code 12 = .ok (.astore 4, 2) := by decide +kernel
theorem d6_14 : decode jdk_65_method_133_code 14 = .ok (.aload_n 0, 1) := by decide +kernel
theorem d6_15 : decode jdk_65_method_133_code 15 = .ok (.iload_n 1, 1) := by decide +kernel
theorem d6_16 : decode jdk_65_method_133_code 16 = .ok (.aload 4, 2) := by decide +kernel
theorem d6_18 : decode jdk_65_method_133_code 18 = .ok (.iconst 0, 1) := by decide +kernel
theorem d6_19 : decode jdk_65_method_133_code 19 = .ok (.aload_n 0, 1) := by decide +kernel
theorem d6_20 : decode jdk_65_method_133_code 20 = .ok (.arraylength, 1) := by decide +kernel
theorem d6_21 : decode jdk_65_method_133_code 21 = .ok (.iload_n 1, 1) := by decide +kernel
theorem d6_22 : decode jdk_65_method_133_code 22 = .ok (.isub, 1) := by decide +kernel
theorem d6_23 : decode jdk_65_method_133_code 23 = .ok (.iload_n 3, 1) := by decide +kernel
theorem d6_24 : decode jdk_65_method_133_code 24 = .ok (.invokestatic 304, 3) := by decide +kernel
theorem pd__28II_29I : parseMethodDescriptor "(II)I" = some ⟨[.int, .int], some .int⟩ := by decide +kernel
theorem d6_27 : decode jdk_65_method_133_code 27 = .ok (.invokestatic 150, 3) := by decide +kernel
theorem d6_30 : decode jdk_65_method_133_code 30 = .ok (.aload 4, 2) := by decide +kernel
theorem d6_32 : decode jdk_65_method_133_code 32 = .ok (.areturn, 1) := by decide +kernel
theorem pn_6 : plainName "java/util/Arrays" = true := by first | (simp [plainName, overriddenIn]; done) | decide +kernel
theorem ef_6 (m : MethodId) (x0 : Addr) (x1 : Int32) (x2 : Int32) : entryFrame m #[(.ref x0), (.int x1), (.int x2)] 5 = mkF m 0 #[.val (.ref x0), .val (.int x1), .val (.int x2), .unset, .unset] [] := by first | (simp [entryFrame, mkF, argsToLocals, Value.category]; done) | rfl
def Q_rm6 (Z : State) (b : Addr) (f : Int32) (t : Int32) (xs : List Int32) (h0 : Heap) (n0 : Nat) (vQ : Option Value) (hQ : Heap) (LQ : List Loc) : Prop := ∃ r : Addr, vQ = some (.ref r) ∧ Fr n0 LQ ∧ Keep h0 hQ [] ∧ h0.size ≤ r ∧ Ia Z hQ r .byte ((List.drop (f).toNatClampNeg xs).take (t - f).toNatClampNeg)
set_option maxRecDepth 65536 in
set_option maxHeartbeats 40000000 in
theorem rm6 (l : Launch) (Z : State) (a0 : Array Value) (hw : ∀ d ∈ tables_1, d.before a0 Z = true) (ws : List Jvm.Cond) (b : Addr) (f : Int32) (t : Int32) (xs : List Int32) (h0 : Heap) (n0 : Nat) (Z0 : n0 ≤ h0.size) (P0 : Ia Z h0 b .byte xs) (h0f : 0 ≤ f.toInt) (hft : f.toInt ≤ t.toInt) (htn : t.toInt ≤ (xs.length : Int)) (hxl : xs.length < 2147483648) (hcap : (t - f).toNatClampNeg ≤ 4) :
    MetFree l (⟨"java/util/Arrays", "copyOfRangeByte", "([BII)[B"⟩ : MethodName) (head1 (Jvm.Cond.code (⟨"java/util/Arrays", "copyOfRangeByte", "([BII)[B"⟩ : MethodName) jdk_65_method_133_code 5 (some (.array .byte)) :: ws) ({ frames := 1, cells := 1, slots := 4, locals := 40 } : Room)) (fun aQ UQ => aQ = #[(.ref b), (.int f), (.int t)] ∧ Z.Warmed39 UQ.vm ∧ UQ.heap = h0) (fun _ _ _ _ _ => True) (fun _ UQ oQ UR => ∃ vQ LQ, oQ = .returned vQ ∧ Q_rm6 Z b f t xs h0 n0 vQ UR.heap LQ ∧ FrameEnd UQ oQ UR LQ ({ frames := 1, cells := 1, slots := 4, locals := 40 } : Room).cells ({ frames := 1, cells := 1, slots := 4, locals := 40 } : Room).slots) := by
  refine MetFree.of_bodySF (plainFor_of_name pn_6) hisR ?_
  intro p e s m args below meth c s₁ Bd hml0 hP hK
  obtain ⟨rfl, hZ, hh⟩ := hP
  have hx := Bd.exec
  have hby := Bd.bytes
  have hlk := Bd.notSynchronized
  have hml : c.maxLocals = 5 := hml0
  have hown : s.vm.findClass "java/util/Arrays" = some m.cls := findClass_of_methodNamed Bd.named
  have hnm := (name_of_methodNamed Bd.named Bd.method).1
  have X0 : Stand p l e ({ frames := 1, cells := 1, slots := 4, locals := 40 } : Room) s m #[(.ref b), (.int f), (.int t)] below meth c s₁ [] 0 0 := Stand.of_body Bd
  have e0 : s₁.heap = h0 := by rw [← hh, Bd.state]; rfl
  have N0 := Fr.nil n0
  show Go p e below _ (Done s (Q_rm6 Z b f t xs h0 n0) ({ frames := 1, cells := 1, slots := 4, locals := 40 } : Room).cells ({ frames := 1, cells := 1, slots := 4, locals := 40 } : Room).slots)
  refine Go.via (fun tQ kQ => castTop (ef_6 m b f t) kQ) ?_
  show Go p e below (s₁.setTop (mkF m 0 #[.val (.ref b), .val (.int f), .val (.int t), .unset, .unset] [])) _
  refine Go.via (fun _ => XS.iloadN X0.here hx rfl (hb hby d6_0) rfl) ?_
  refine Go.via (fun _ => XS.iloadN X0.here hx rfl (hb hby d6_1) rfl) ?_
  obtain ⟨_, _, ⟨T21, L21, k21, n21⟩, -, X21, ⟨Lc21, hQ21, l21, y21, z21⟩, st21⟩ := Jvm.LawKit.callS X0 hx (y := (⟨"java/util/Arrays", "checkLength", "(II)V"⟩ : MethodName)) hown (mvT hZ (tw hw 32 rfl)) (mvT hZ (tw hw 33 rfl)) (mvT hZ (tw hw 27 rfl)) (mvT hZ (tw hw 34 rfl)) (by decide) (backOf (W := 0) (rm7 l Z a0 hw [] f t  h0 n0 Z0 (own_nlt hft)) hZ (tw hw 34 rfl) (tw hw 27 rfl) (by decide) (by decide)) (g := (mkF m 2 #[.val (.ref b), .val (.int f), .val (.int t), .unset, .unset] [(.int t), (.int f)])) rfl (by rw [hml]; rfl) (argsL := [(.int f), (.int t)]) (rest := []) (lenOf pd__28II_29V rfl) rfl (by show 2 * 0 + _ ≤ _; exact Nat.le_of_eq rfl) (hb hby d6_2) (fun _ _ => ⟨rfl, e0, (by decide : 0 + 0 ≤ _), (by decide : 0 + 0 ≤ _)⟩)
  dsimp only [Pt.U, Pt.locs, Pt.cells, Pt.slots] at X21 l21 y21 z21 st21 hQ21
  subst l21 y21 z21
  obtain ⟨rfl, N21q, eh21⟩ := hQ21
  have N21 := Fr.app N0 N21q
  refine Go.via (st21) ?_
  have e21 : T21.heap = h0 := eh21
  show Go p e below (T21.setTop (mkF m 5 #[.val (.ref b), .val (.int f), .val (.int t), .unset, .unset] [])) _
  refine Go.via (fun _ => XS.iloadN X21.here hx rfl (hb hby d6_5) rfl) ?_
  refine Go.via (fun _ => XS.iloadN X21.here hx rfl (hb hby d6_6) rfl) ?_
  refine Go.via (fun _ => XS.isub X21.here hx rfl (hb hby d6_7) rfl) ?_
  show Go p e below (T21.setTop (mkF m 8 #[.val (.ref b), .val (.int f), .val (.int t), .unset, .unset] [(.int (t - f))])) _
  refine Go.via (fun _ => XS.istoreN X21.here hx rfl (hb hby d6_8) rfl (l' := #[.val (.ref b), .val (.int f), .val (.int t), .val (.int (t - f)), .unset]) rfl) ?_
  show Go p e below (T21.setTop (mkF m 9 #[.val (.ref b), .val (.int f), .val (.int t), .val (.int (t - f)), .unset] [])) _
  refine Go.via (fun _ => XS.iloadN X21.here hx rfl (hb hby d6_9) rfl) ?_
  obtain ⟨T22, h22, k22, X22, e22, E22, A22, B22, st22⟩ := newPE X21 hx hZ (tw hw 1 rfl) e21 (g := (mkF m 10 #[.val (.ref b), .val (.int f), .val (.int t), .val (.int (t - f)), .unset] [(.int (t - f))])) rfl (hb hby d6_10) rfl (own_nn (by rw [own_sub h0f hft]; omega)) (cap := 4) hcap (by decide) (by decide) (by decide) (ad := "[B") (by decide)
  obtain ⟨b22, g22⟩ : ∃ z, z = h0.size := ⟨_, rfl⟩
  rw [← g22] at A22 B22 st22
  have ne23 : b ≠ b22 := Nat.ne_of_lt (Nat.lt_of_lt_of_le P0.lt (Nat.le_of_eq g22.symm))
  have ge24 : n0 ≤ b22 := Nat.le_trans Z0 (Nat.le_of_eq g22.symm)
  have sz25 : h0.size ≤ b22 := Nat.le_trans (Keep.refl h0 []).1 (Nat.le_of_eq g22.symm)
  refine Go.via (st22) ?_
  have f26 : Ia Z h22 b22 .byte (List.replicate ((t - f)).toNatClampNeg 0) := Ia.new A22 rfl
  show Go p e below (T22.setTop (mkF m 12 #[.val (.ref b), .val (.int f), .val (.int t), .val (.int (t - f)), .unset] [(.ref b22)])) _
  refine Go.via (fun _ => XS.astore X22.here hx rfl (hb hby d6_12) rfl rfl (l' := #[.val (.ref b), .val (.int f), .val (.int t), .val (.int (t - f)), .val (.ref b22)]) rfl) ?_
  show Go p e below (T22.setTop (mkF m 14 #[.val (.ref b), .val (.int f), .val (.int t), .val (.int (t - f)), .val (.ref b22)] [])) _
  refine Go.via (fun _ => XS.aloadN X22.here hx rfl (hb hby d6_14) rfl rfl) ?_
  refine Go.via (fun _ => XS.iloadN X22.here hx rfl (hb hby d6_15) rfl) ?_
  refine Go.via (fun _ => XS.aload X22.here hx rfl (hb hby d6_16) rfl rfl) ?_
  refine Go.via (fun _ => XS.iconst X22.here hx rfl (hb hby d6_18)) ?_
  show Go p e below (T22.setTop (mkF m 19 #[.val (.ref b), .val (.int f), .val (.int t), .val (.int (t - f)), .val (.ref b22)] [(.int (0 : Int32)), (.ref b22), (.int f), (.ref b)])) _
  refine Go.via (fun _ => XS.aloadN X22.here hx rfl (hb hby d6_19) rfl rfl) ?_
  have f27 : Ia Z h22 b .byte xs := (P0.ext E22)
  refine Go.via (lenI X22 hx hZ e22 f27 (n := (xs.length.toInt32)) rfl (g := (mkF m 20 #[.val (.ref b), .val (.int f), .val (.int t), .val (.int (t - f)), .val (.ref b22)] [(.ref b), (.int (0 : Int32)), (.ref b22), (.int f), (.ref b)])) rfl rfl (hb hby d6_20)) ?_
  show Go p e below (T22.setTop (mkF m 21 #[.val (.ref b), .val (.int f), .val (.int t), .val (.int (t - f)), .val (.ref b22)] [(.int (xs.length.toInt32)), (.int (0 : Int32)), (.ref b22), (.int f), (.ref b)])) _
  refine Go.via (fun _ => XS.iloadN X22.here hx rfl (hb hby d6_21) rfl) ?_
  refine Go.via (fun _ => XS.isub X22.here hx rfl (hb hby d6_22) rfl) ?_
  show Go p e below (T22.setTop (mkF m 23 #[.val (.ref b), .val (.int f), .val (.int t), .val (.int (t - f)), .val (.ref b22)] [(.int ((xs.length.toInt32) - f)), (.int (0 : Int32)), (.ref b22), (.int f), (.ref b)])) _
  refine Go.via (fun _ => XS.iloadN X22.here hx rfl (hb hby d6_23) rfl) ?_
  have z29 : n0 ≤ h22.size := (Nat.le_trans Z0 E22.1)
  obtain ⟨_, _, ⟨T28, L28, k28, n28⟩, -, X28, ⟨Lc28, hQ28, l28, y28, z28⟩, st28⟩ := Jvm.LawKit.callS X22 hx (y := (⟨"java/lang/Math", "min", "(II)I"⟩ : MethodName)) hown (mvT hZ (tw hw 35 rfl)) (mvT hZ (tw hw 36 rfl)) (mvT hZ (tw hw 37 rfl)) (mvT hZ (tw hw 38 rfl)) (by decide) (backOf (W := 4) (rm8 l Z a0 hw [] ((xs.length.toInt32) - f) (t - f)  h22 n0 z29) hZ (tw hw 38 rfl) (tw hw 37 rfl) (by decide) (by decide)) (g := (mkF m 24 #[.val (.ref b), .val (.int f), .val (.int t), .val (.int (t - f)), .val (.ref b22)] [(.int (t - f)), (.int ((xs.length.toInt32) - f)), (.int (0 : Int32)), (.ref b22), (.int f), (.ref b)])) rfl (by rw [hml]; rfl) (argsL := [(.int ((xs.length.toInt32) - f)), (.int (t - f))]) (rest := [(.int (0 : Int32)), (.ref b22), (.int f), (.ref b)]) (lenOf pd__28II_29I rfl) rfl (by show 2 * 0 + _ ≤ _; exact Nat.le_of_eq rfl) (hb hby d6_24) (fun _ _ => ⟨rfl, e22, (by decide : 1 + 0 ≤ _), (by decide : 4 + 0 ≤ _)⟩)
  dsimp only [Pt.U, Pt.locs, Pt.cells, Pt.slots] at X28 l28 y28 z28 st28 hQ28
  subst l28 y28 z28
  obtain ⟨rfl, N28q, eh28⟩ := hQ28
  have N28 := Fr.app N21 N28q
  refine Go.via (st28) ?_
  have e28 : T28.heap = h22 := eh28
  show Go p e below (T28.setTop (mkF m 27 #[.val (.ref b), .val (.int f), .val (.int t), .val (.int (t - f)), .val (.ref b22)] [(.int (if (t - f) < ((xs.length.toInt32) - f) then (t - f) else ((xs.length.toInt32) - f))), (.int (0 : Int32)), (.ref b22), (.int f), (.ref b)])) _
  rw [own_min h0f hft (by rw [own_l32 hxl]; exact htn)]
  show Go p e below (T28.setTop (mkF m 27 #[.val (.ref b), .val (.int f), .val (.int t), .val (.int (t - f)), .val (.ref b22)] [(.int (t - f)), (.int (0 : Int32)), (.ref b22), (.int f), (.ref b)])) _
  have k31 : Keep h0 h22 [] := ((Keep.refl h0 []).ext E22)
  obtain ⟨T30, h30, L30, X30, e30, N30, K30, V30, st30⟩ := cpI X28 hx hZ hown (tw hw 39 rfl) (tw hw 42 rfl) (tw hw 40 rfl) (tw hw 41 rfl) e28 f27 f26 rfl (own_nn h0f) (by decide) (own_nn (by rw [own_sub h0f hft]; omega)) (own_c4 h0f hft htn) (own_c5 _) N28 ge24 (g := (mkF m 27 #[.val (.ref b), .val (.int f), .val (.int t), .val (.int (t - f)), .val (.ref b22)] [(.int (t - f)), (.int (0 : Int32)), (.ref b22), (.int f), (.ref b)])) rfl (by rw [hml]; rfl) rfl (hb hby d6_27) (by decide) (W := 0) (by show 2 * 0 + _ ≤ _; exact Nat.le_of_eq rfl) (by decide)
  refine Go.via (st30) ?_
  have f32 : Ia Z h30 b22 .byte ((List.drop (f).toNatClampNeg xs).take (t - f).toNatClampNeg) := (own_cv h0f hft htn V30)
  show Go p e below (T30.setTop (mkF m 30 #[.val (.ref b), .val (.int f), .val (.int t), .val (.int (t - f)), .val (.ref b22)] [])) _
  refine Go.via (fun _ => XS.aload X30.here hx rfl (hb hby d6_30) rfl rfl) ?_
  have k33 : Keep h0 h30 [] := (k31.trans K30 (allS (Or.inr sz25) all0))
  exact Go.fin X30 hlk (v := some (.ref b22)) (fun h => by rw [Bd.returns] at h; cases h) (fun fs hr => retOut X30 hx Bd.returns rfl (Or.inr (Or.inr (Or.inr (Or.inr ⟨rfl, rfl, rfl⟩)))) (hb hby d6_32) hr) (by rw [e30]; exact ⟨b22, rfl, N30, k33, sz25, f32⟩) (by decide) (by decide)
theorem d5_0 : decode jdk_65_method_132_code 0 = .ok (.iload_n 1, 1) := by decide +kernel
theorem d5_1 : decode jdk_65_method_132_code 1 = .ok (.ifCond .ne 9, 3) := by decide +kernel
theorem d5_10 : decode jdk_65_method_132_code 10 = .ok (.aload_n 0, 1) := by decide +kernel
theorem d5_11 : decode jdk_65_method_132_code 11 = .ok (.iload_n 1, 1) := by decide +kernel
theorem d5_12 : decode jdk_65_method_132_code 12 = .ok (.iload_n 2, 1) := by decide +kernel
theorem d5_13 : decode jdk_65_method_132_code 13 = .ok (.invokestatic 339, 3) := by decide +kernel
theorem pd__28_5bBII_29_5bB : parseMethodDescriptor "([BII)[B" = some ⟨[(.array .byte), .int, .int], some (.array .byte)⟩ := by decide +kernel
theorem d5_16 : decode jdk_65_method_132_code 16 = .ok (.areturn, 1) := by decide +kernel
theorem pn_5 : plainName "java/util/Arrays" = true := by first | (simp [plainName, overriddenIn]; done) | decide +kernel
theorem ef_5 (m : MethodId) (x0 : Addr) (x1 : Int32) (x2 : Int32) : entryFrame m #[(.ref x0), (.int x1), (.int x2)] 3 = mkF m 0 #[.val (.ref x0), .val (.int x1), .val (.int x2)] [] := by first | (simp [entryFrame, mkF, argsToLocals, Value.category]; done) | rfl
def Q_rm5 (Z : State) (b : Addr) (f : Int32) (t : Int32) (xs : List Int32) (h0 : Heap) (n0 : Nat) (vQ : Option Value) (hQ : Heap) (LQ : List Loc) : Prop := ∃ r : Addr, vQ = some (.ref r) ∧ Fr n0 LQ ∧ Keep h0 hQ [] ∧ h0.size ≤ r ∧ Ia Z hQ r .byte ((List.drop (f).toNatClampNeg xs).take (t - f).toNatClampNeg)
set_option maxRecDepth 65536 in
set_option maxHeartbeats 40000000 in
theorem rm5 (l : Launch) (Z : State) (a0 : Array Value) (hw : ∀ d ∈ tables_1, d.before a0 Z = true) (ws : List Jvm.Cond) (b : Addr) (f : Int32) (t : Int32) (xs : List Int32) (h0 : Heap) (n0 : Nat) (Z0 : n0 ≤ h0.size) (P0 : Ia Z h0 b .byte xs) (h0f : 0 < f.toInt) (hft : f.toInt ≤ t.toInt) (htn : t.toInt ≤ (xs.length : Int)) (hxl : xs.length < 2147483648) (hcap : (t - f).toNatClampNeg ≤ 4) :
    MetFree l (⟨"java/util/Arrays", "copyOfRange", "([BII)[B"⟩ : MethodName) (head1 (Jvm.Cond.code (⟨"java/util/Arrays", "copyOfRange", "([BII)[B"⟩ : MethodName) jdk_65_method_132_code 3 (some (.array .byte)) :: ws) ({ frames := 2, cells := 1, slots := 4, locals := 56 } : Room)) (fun aQ UQ => aQ = #[(.ref b), (.int f), (.int t)] ∧ Z.Warmed39 UQ.vm ∧ UQ.heap = h0) (fun _ _ _ _ _ => True) (fun _ UQ oQ UR => ∃ vQ LQ, oQ = .returned vQ ∧ Q_rm5 Z b f t xs h0 n0 vQ UR.heap LQ ∧ FrameEnd UQ oQ UR LQ ({ frames := 2, cells := 1, slots := 4, locals := 56 } : Room).cells ({ frames := 2, cells := 1, slots := 4, locals := 56 } : Room).slots) := by
  refine MetFree.of_bodySF (plainFor_of_name pn_5) hisR ?_
  intro p e s m args below meth c s₁ Bd hml0 hP hK
  obtain ⟨rfl, hZ, hh⟩ := hP
  have hx := Bd.exec
  have hby := Bd.bytes
  have hlk := Bd.notSynchronized
  have hml : c.maxLocals = 3 := hml0
  have hown : s.vm.findClass "java/util/Arrays" = some m.cls := findClass_of_methodNamed Bd.named
  have hnm := (name_of_methodNamed Bd.named Bd.method).1
  have X0 : Stand p l e ({ frames := 2, cells := 1, slots := 4, locals := 56 } : Room) s m #[(.ref b), (.int f), (.int t)] below meth c s₁ [] 0 0 := Stand.of_body Bd
  have e0 : s₁.heap = h0 := by rw [← hh, Bd.state]; rfl
  have N0 := Fr.nil n0
  show Go p e below _ (Done s (Q_rm5 Z b f t xs h0 n0) ({ frames := 2, cells := 1, slots := 4, locals := 56 } : Room).cells ({ frames := 2, cells := 1, slots := 4, locals := 56 } : Room).slots)
  refine Go.via (fun tQ kQ => castTop (ef_5 m b f t) kQ) ?_
  show Go p e below (s₁.setTop (mkF m 0 #[.val (.ref b), .val (.int f), .val (.int t)] [])) _
  refine Go.via (fun _ => XS.iloadN X0.here hx rfl (hb hby d5_0) rfl) ?_
  refine Go.via (fun _ => XS.ifYes X0.here hx rfl (pc0 := 1) (pc' := 10) rfl (hb hby d5_1) rfl ((if0 _ _).trans (feq ((by intro q; rw [q] at h0f; exact absurd h0f (by decide)) : ¬ (f = (0 : Int32)))).2) (by decide) (by decide)) ?_
  show Go p e below (s₁.setTop (mkF m 10 #[.val (.ref b), .val (.int f), .val (.int t)] [])) _
  refine Go.via (fun _ => XS.aloadN X0.here hx rfl (hb hby d5_10) rfl rfl) ?_
  refine Go.via (fun _ => XS.iloadN X0.here hx rfl (hb hby d5_11) rfl) ?_
  refine Go.via (fun _ => XS.iloadN X0.here hx rfl (hb hby d5_12) rfl) ?_
  obtain ⟨_, _, ⟨T34, L34, k34, n34⟩, -, X34, ⟨Lc34, hQ34, l34, y34, z34⟩, st34⟩ := Jvm.LawKit.callS X0 hx (y := (⟨"java/util/Arrays", "copyOfRangeByte", "([BII)[B"⟩ : MethodName)) hown (mvT hZ (tw hw 29 rfl)) (mvT hZ (tw hw 30 rfl)) (mvT hZ (tw hw 27 rfl)) (mvT hZ (tw hw 31 rfl)) (by decide) (backOf (W := 0) (rm6 l Z a0 hw [] b f t xs h0 n0 Z0 P0 (Int.le_of_lt h0f) hft htn hxl hcap) hZ (tw hw 31 rfl) (tw hw 27 rfl) (by decide) (by decide)) (g := (mkF m 13 #[.val (.ref b), .val (.int f), .val (.int t)] [(.int t), (.int f), (.ref b)])) rfl (by rw [hml]; rfl) (argsL := [(.ref b), (.int f), (.int t)]) (rest := []) (lenOf pd__28_5bBII_29_5bB rfl) rfl (by show 2 * 0 + _ ≤ _; exact Nat.le_of_eq rfl) (hb hby d5_13) (fun _ _ => ⟨rfl, e0, (by decide : 0 + 1 ≤ _), (by decide : 0 + 4 ≤ _)⟩)
  dsimp only [Pt.U, Pt.locs, Pt.cells, Pt.slots] at X34 l34 y34 z34 st34 hQ34
  subst l34 y34 z34
  obtain ⟨b35, rfl, N34q, K34q, fz_b35, f36⟩ := hQ34
  have N34 := Fr.app N0 N34q
  refine Go.via (st34) ?_
  have ne37 : b ≠ b35 := Nat.ne_of_lt (Nat.lt_of_lt_of_le P0.lt fz_b35)
  have ge38 : n0 ≤ b35 := Nat.le_trans Z0 fz_b35
  have sz39 : h0.size ≤ b35 := Nat.le_trans (Keep.refl h0 []).1 fz_b35
  have e34 : T34.heap = T34.heap := rfl
  have f40 : Ia Z T34.heap b35 .byte ((List.drop (f).toNatClampNeg xs).take (t - f).toNatClampNeg) := f36
  show Go p e below (T34.setTop (mkF m 16 #[.val (.ref b), .val (.int f), .val (.int t)] [(.ref b35)])) _
  have k41 : Keep h0 T34.heap [] := ((Keep.refl h0 []).trans K34q all0)
  exact Go.fin X34 hlk (v := some (.ref b35)) (fun h => by rw [Bd.returns] at h; cases h) (fun fs hr => retOut X34 hx Bd.returns rfl (Or.inr (Or.inr (Or.inr (Or.inr ⟨rfl, rfl, rfl⟩)))) (hb hby d5_16) hr) (by exact ⟨b35, rfl, N34, k41, sz39, f40⟩) (by decide) (by decide)
theorem own_12 {k : Int32} {n : Nat} (h0 : ¬ k < 0) (h : k.toInt ≤ (n : Int)) (hn : n ≤ 4084) : ((12 : Int32) + k).toInt = 12 + k.toInt := by
  have := c_iadd 12 k; have := rng32 ((12 : Int32) + k); have := nat_of h0; have : (12 : Int32).toInt = 12 := rfl; omega
theorem own_drop {xs ps : List Int32} {k sz : Int32} (h : own_pay xs ps) (hs : sz.toInt = ((12 + ps.length : Nat) : Int)) (h0 : ¬ k < 0) (hk : k.toInt ≤ (ps.length : Int)) (hl : ps.length ≤ 4) :
    (List.drop ((12 : Int32) + k).toNatClampNeg xs).take (sz - ((12 : Int32) + k)).toNatClampNeg = ps.drop k.toNatClampNeg := by
  obtain ⟨hd, rs, rfl, h1, h2⟩ := h
  have e1 := own_12 h0 hk (by omega)
  have e0 := nat_of h0
  have e2 : ((12 : Int32) + k).toNatClampNeg = 12 + k.toNatClampNeg := by simp only [Int32.toNatClampNeg] at e0 ⊢; omega
  have e3 : (sz - ((12 : Int32) + k)).toInt = sz.toInt - ((12 : Int32) + k).toInt := own_sub (by omega) (by omega)
  have e4 : (sz - ((12 : Int32) + k)).toNatClampNeg = ps.length - k.toNatClampNeg := by simp only [Int32.toNatClampNeg] at e0 ⊢; omega
  rw [e2, e4, ← h1, List.drop_append, List.drop_of_length_le (by omega), List.nil_append, show hd.length + k.toNatClampNeg - hd.length = k.toNatClampNeg by omega, List.drop_append_of_le_length (by omega), List.take_append_of_le_length (by simp), List.take_of_length_le (by simp)]
theorem d4_0 : decode prog_67_method_4_code 0 = .ok (.aload_n 0, 1) := by decide +kernel
theorem d4_1 : decode prog_67_method_4_code 1 = .ok (.getfield 9, 3) := by decide +kernel
theorem d4_4 : decode prog_67_method_4_code 4 = .ok (.bipush 12, 2) := by decide +kernel
theorem d4_6 : decode prog_67_method_4_code 6 = .ok (.iload_n 1, 1) := by decide +kernel
theorem d4_7 : decode prog_67_method_4_code 7 = .ok (.iadd, 1) := by decide +kernel
theorem d4_8 : decode prog_67_method_4_code 8 = .ok (.aload_n 0, 1) := by decide +kernel
theorem d4_9 : decode prog_67_method_4_code 9 = .ok (.getfield 15, 3) := by decide +kernel
theorem d4_12 : decode prog_67_method_4_code 12 = .ok (.invokestatic 19, 3) := by decide +kernel
theorem d4_15 : decode prog_67_method_4_code 15 = .ok (.areturn, 1) := by decide +kernel
theorem own_cap {ps : List Int32} {k sz : Int32} (hs : sz.toInt = ((12 + ps.length : Nat) : Int)) (h0 : ¬ k < 0) (hk : k.toInt ≤ (ps.length : Int)) (hl : ps.length ≤ 4) : (sz - ((12 : Int32) + k)).toNatClampNeg ≤ 4 := by
  have e1 := own_12 h0 hk (by omega)
  have e0 := nat_of h0
  have e3 : (sz - ((12 : Int32) + k)).toInt = sz.toInt - ((12 : Int32) + k).toInt := own_sub (by omega) (by omega)
  simp only [Int32.toNatClampNeg]; omega
theorem pn_4 : plainName "com/example/quicksettle/quicksettle/Records$Writer" = true := by first | (simp [plainName, overriddenIn]; done) | decide +kernel
theorem ef_4 (m : MethodId) (x0 : Addr) (x1 : Int32) : entryFrame m #[(.ref x0), (.int x1)] 2 = mkF m 0 #[.val (.ref x0), .val (.int x1)] [] := by first | (simp [entryFrame, mkF, argsToLocals, Value.category]; done) | rfl
def Q_rm4 (Z : State) (a : Addr) (k : Int32) (b : Addr) (xs : List Int32) (sz : Int32) (ps : List Int32) (h0 : Heap) (n0 : Nat) (vQ : Option Value) (hQ : Heap) (LQ : List Loc) : Prop := ∃ r : Addr, vQ = some (.ref r) ∧ Fr n0 LQ ∧ Keep h0 hQ [] ∧ h0.size ≤ r ∧ Ia Z hQ r .byte (List.drop (k).toNatClampNeg ps)
set_option maxRecDepth 65536 in
set_option maxHeartbeats 40000000 in
theorem rm4 (l : Launch) (Z : State) (a0 : Array Value) (hw : ∀ d ∈ tables_1, d.before a0 Z = true) (ws : List Jvm.Cond) (a : Addr) (k : Int32) (b : Addr) (xs : List Int32) (sz : Int32) (ps : List Int32) (h0 : Heap) (n0 : Nat) (Z0 : n0 ≤ h0.size) (P0 : Fld Z h0 a "com/example/quicksettle/quicksettle/Records$Writer" "bytes" "[B" (.ref b)) (P1 : Fld Z h0 a "com/example/quicksettle/quicksettle/Records$Writer" "size" "I" (.int sz)) (P2 : Ia Z h0 b .byte xs) (hp : own_pay xs ps) (hsz : sz.toInt = ((12 + ps.length : Nat) : Int)) (h0k : ¬ k < 0) (hk : k.toInt ≤ (ps.length : Int)) (hl : ps.length ≤ 4) :
    MetFree l (⟨"com/example/quicksettle/quicksettle/Records$Writer", "payloadFrom", "(I)[B"⟩ : MethodName) (head1 (Jvm.Cond.code (⟨"com/example/quicksettle/quicksettle/Records$Writer", "payloadFrom", "(I)[B"⟩ : MethodName) prog_67_method_4_code 2 (some (.array .byte)) :: ws) ({ frames := 3, cells := 1, slots := 4, locals := 70 } : Room)) (fun aQ UQ => aQ = #[(.ref a), (.int k)] ∧ Z.Warmed39 UQ.vm ∧ UQ.heap = h0) (fun _ _ _ _ _ => True) (fun _ UQ oQ UR => ∃ vQ LQ, oQ = .returned vQ ∧ Q_rm4 Z a k b xs sz ps h0 n0 vQ UR.heap LQ ∧ FrameEnd UQ oQ UR LQ ({ frames := 3, cells := 1, slots := 4, locals := 70 } : Room).cells ({ frames := 3, cells := 1, slots := 4, locals := 70 } : Room).slots) := by
  refine MetFree.of_bodySF (plainFor_of_name pn_4) hisR ?_
  intro p e s m args below meth c s₁ Bd hml0 hP hK
  obtain ⟨rfl, hZ, hh⟩ := hP
  have hx := Bd.exec
  have hby := Bd.bytes
  have hlk := Bd.notSynchronized
  have hml : c.maxLocals = 2 := hml0
  have hown : s.vm.findClass "com/example/quicksettle/quicksettle/Records$Writer" = some m.cls := findClass_of_methodNamed Bd.named
  have hnm := (name_of_methodNamed Bd.named Bd.method).1
  have X0 : Stand p l e ({ frames := 3, cells := 1, slots := 4, locals := 70 } : Room) s m #[(.ref a), (.int k)] below meth c s₁ [] 0 0 := Stand.of_body Bd
  have e0 : s₁.heap = h0 := by rw [← hh, Bd.state]; rfl
  have N0 := Fr.nil n0
  show Go p e below _ (Done s (Q_rm4 Z a k b xs sz ps h0 n0) ({ frames := 3, cells := 1, slots := 4, locals := 70 } : Room).cells ({ frames := 3, cells := 1, slots := 4, locals := 70 } : Room).slots)
  refine Go.via (fun tQ kQ => castTop (ef_4 m a k) kQ) ?_
  show Go p e below (s₁.setTop (mkF m 0 #[.val (.ref a), .val (.int k)] [])) _
  refine Go.via (fun _ => XS.aloadN X0.here hx rfl (hb hby d4_0) rfl rfl) ?_
  obtain ⟨T53, X53, e53, st53⟩ := getF X0 hx hZ hown (host := "") (Or.inl (tw hw 16 rfl)) Via.refl e0 P0 (g := (mkF m 1 #[.val (.ref a), .val (.int k)] [(.ref a)])) rfl rfl (hb hby d4_1)
  refine Go.via (st53) ?_
  show Go p e below (T53.setTop (mkF m 4 #[.val (.ref a), .val (.int k)] [(.ref b)])) _
  refine Go.via (fun _ => XS.bipush X53.here hx rfl (hb hby d4_4)) ?_
  refine Go.via (fun _ => XS.iloadN X53.here hx rfl (hb hby d4_6) rfl) ?_
  refine Go.via (fun _ => XS.iadd X53.here hx rfl (hb hby d4_7) rfl) ?_
  show Go p e below (T53.setTop (mkF m 8 #[.val (.ref a), .val (.int k)] [(.int ((12 : Int32) + k)), (.ref b)])) _
  refine Go.via (fun _ => XS.aloadN X53.here hx rfl (hb hby d4_8) rfl rfl) ?_
  obtain ⟨T54, X54, e54, st54⟩ := getF X53 hx hZ hown (host := "") (Or.inl (tw hw 18 rfl)) Via.refl e53 P1 (g := (mkF m 9 #[.val (.ref a), .val (.int k)] [(.ref a), (.int ((12 : Int32) + k)), (.ref b)])) rfl rfl (hb hby d4_9)
  refine Go.via (st54) ?_
  show Go p e below (T54.setTop (mkF m 12 #[.val (.ref a), .val (.int k)] [(.int sz), (.int ((12 : Int32) + k)), (.ref b)])) _
  obtain ⟨_, _, ⟨T55, L55, k55, n55⟩, -, X55, ⟨Lc55, hQ55, l55, y55, z55⟩, st55⟩ := Jvm.LawKit.callS X54 hx (y := (⟨"java/util/Arrays", "copyOfRange", "([BII)[B"⟩ : MethodName)) hown (mvT hZ (tw hw 25 rfl)) (mvT hZ (tw hw 26 rfl)) (mvT hZ (tw hw 27 rfl)) (mvT hZ (tw hw 28 rfl)) (by decide) (backOf (W := 0) (rm5 l Z a0 hw [] b ((12 : Int32) + k) sz xs h0 n0 Z0 P2 (by rw [own_12 h0k hk (by omega)]; have := nat_of h0k; omega) (by rw [own_12 h0k hk (by omega)]; omega) (by rw [own_len hp]; omega) (by rw [own_len hp]; decide) (own_cap hsz h0k hk hl)) hZ (tw hw 28 rfl) (tw hw 27 rfl) (by decide) (by decide)) (g := (mkF m 12 #[.val (.ref a), .val (.int k)] [(.int sz), (.int ((12 : Int32) + k)), (.ref b)])) rfl (by rw [hml]; rfl) (argsL := [(.ref b), (.int ((12 : Int32) + k)), (.int sz)]) (rest := []) (lenOf pd__28_5bBII_29_5bB rfl) rfl (by show 2 * 0 + _ ≤ _; exact Nat.le_of_eq rfl) (hb hby d4_12) (fun _ _ => ⟨rfl, e54, (by decide : 0 + 1 ≤ _), (by decide : 0 + 4 ≤ _)⟩)
  dsimp only [Pt.U, Pt.locs, Pt.cells, Pt.slots] at X55 l55 y55 z55 st55 hQ55
  subst l55 y55 z55
  obtain ⟨b56, rfl, N55q, K55q, fz_b56, f57⟩ := hQ55
  have N55 := Fr.app N0 N55q
  refine Go.via (st55) ?_
  have ne58 : a ≠ b56 := Nat.ne_of_lt (Nat.lt_of_lt_of_le P0.lt fz_b56)
  have ne59 : b ≠ b56 := Nat.ne_of_lt (Nat.lt_of_lt_of_le P2.lt fz_b56)
  have ge60 : n0 ≤ b56 := Nat.le_trans Z0 fz_b56
  have sz61 : h0.size ≤ b56 := Nat.le_trans (Keep.refl h0 []).1 fz_b56
  have e55 : T55.heap = T55.heap := rfl
  have f62 : Ia Z T55.heap b56 .byte ((List.drop (((12 : Int32) + k)).toNatClampNeg xs).take (sz - ((12 : Int32) + k)).toNatClampNeg) := f57
  rw [own_drop hp hsz h0k hk hl] at f62
  show Go p e below (T55.setTop (mkF m 15 #[.val (.ref a), .val (.int k)] [(.ref b56)])) _
  have k63 : Keep h0 T55.heap [] := ((Keep.refl h0 []).trans K55q all0)
  exact Go.fin X55 hlk (v := some (.ref b56)) (fun h => by rw [Bd.returns] at h; cases h) (fun fs hr => retOut X55 hx Bd.returns rfl (Or.inr (Or.inr (Or.inr (Or.inr ⟨rfl, rfl, rfl⟩)))) (hb hby d4_15) hr) (by exact ⟨b56, rfl, N55, k63, sz61, f62⟩) (by decide) (by decide)
theorem d9_0 : decode prog_67_method_3_code 0 = .ok (.aload_n 0, 1) := by decide +kernel
theorem d9_1 : decode prog_67_method_3_code 1 = .ok (.getfield 15, 3) := by decide +kernel
theorem d9_4 : decode prog_67_method_3_code 4 = .ok (.bipush 12, 2) := by decide +kernel
theorem d9_6 : decode prog_67_method_3_code 6 = .ok (.isub, 1) := by decide +kernel
theorem d9_7 : decode prog_67_method_3_code 7 = .ok (.ireturn, 1) := by decide +kernel
theorem pn_9 : plainName "com/example/quicksettle/quicksettle/Records$Writer" = true := by first | (simp [plainName, overriddenIn]; done) | decide +kernel
theorem ef_9 (m : MethodId) (x0 : Addr) : entryFrame m #[(.ref x0)] 1 = mkF m 0 #[.val (.ref x0)] [] := by first | (simp [entryFrame, mkF, argsToLocals, Value.category]; done) | rfl
def Q_rm9 (Z : State) (a : Addr) (sz : Int32) (h0 : Heap) (n0 : Nat) (vQ : Option Value) (hQ : Heap) (LQ : List Loc) : Prop := vQ = some (.int (sz - (12 : Int32))) ∧ Fr n0 LQ ∧ hQ = h0
set_option maxRecDepth 65536 in
set_option maxHeartbeats 40000000 in
theorem rm9 (l : Launch) (Z : State) (a0 : Array Value) (hw : ∀ d ∈ tables_1, d.before a0 Z = true) (ws : List Jvm.Cond) (a : Addr) (sz : Int32) (h0 : Heap) (n0 : Nat) (Z0 : n0 ≤ h0.size) (P0 : Fld Z h0 a "com/example/quicksettle/quicksettle/Records$Writer" "size" "I" (.int sz)) :
    MetFree l (⟨"com/example/quicksettle/quicksettle/Records$Writer", "payloadBytes", "()I"⟩ : MethodName) (head1 (Jvm.Cond.code (⟨"com/example/quicksettle/quicksettle/Records$Writer", "payloadBytes", "()I"⟩ : MethodName) prog_67_method_3_code 1 (some .int) :: ws) ({ frames := 0, cells := 0, slots := 0, locals := 0 } : Room)) (fun aQ UQ => aQ = #[(.ref a)] ∧ Z.Warmed39 UQ.vm ∧ UQ.heap = h0) (fun _ _ _ _ _ => True) (fun _ UQ oQ UR => ∃ vQ LQ, oQ = .returned vQ ∧ Q_rm9 Z a sz h0 n0 vQ UR.heap LQ ∧ FrameEnd UQ oQ UR LQ ({ frames := 0, cells := 0, slots := 0, locals := 0 } : Room).cells ({ frames := 0, cells := 0, slots := 0, locals := 0 } : Room).slots) := by
  refine MetFree.of_bodySF (plainFor_of_name pn_9) hisR ?_
  intro p e s m args below meth c s₁ Bd hml0 hP hK
  obtain ⟨rfl, hZ, hh⟩ := hP
  have hx := Bd.exec
  have hby := Bd.bytes
  have hlk := Bd.notSynchronized
  have hml : c.maxLocals = 1 := hml0
  have hown : s.vm.findClass "com/example/quicksettle/quicksettle/Records$Writer" = some m.cls := findClass_of_methodNamed Bd.named
  have hnm := (name_of_methodNamed Bd.named Bd.method).1
  have X0 : Stand p l e ({ frames := 0, cells := 0, slots := 0, locals := 0 } : Room) s m #[(.ref a)] below meth c s₁ [] 0 0 := Stand.of_body Bd
  have e0 : s₁.heap = h0 := by rw [← hh, Bd.state]; rfl
  have N0 := Fr.nil n0
  show Go p e below _ (Done s (Q_rm9 Z a sz h0 n0) ({ frames := 0, cells := 0, slots := 0, locals := 0 } : Room).cells ({ frames := 0, cells := 0, slots := 0, locals := 0 } : Room).slots)
  refine Go.via (fun tQ kQ => castTop (ef_9 m a) kQ) ?_
  show Go p e below (s₁.setTop (mkF m 0 #[.val (.ref a)] [])) _
  refine Go.via (fun _ => XS.aloadN X0.here hx rfl (hb hby d9_0) rfl rfl) ?_
  obtain ⟨T64, X64, e64, st64⟩ := getF X0 hx hZ hown (host := "") (Or.inl (tw hw 18 rfl)) Via.refl e0 P0 (g := (mkF m 1 #[.val (.ref a)] [(.ref a)])) rfl rfl (hb hby d9_1)
  refine Go.via (st64) ?_
  show Go p e below (T64.setTop (mkF m 4 #[.val (.ref a)] [(.int sz)])) _
  refine Go.via (fun _ => XS.bipush X64.here hx rfl (hb hby d9_4)) ?_
  refine Go.via (fun _ => XS.isub X64.here hx rfl (hb hby d9_6) rfl) ?_
  show Go p e below (T64.setTop (mkF m 7 #[.val (.ref a)] [(.int (sz - (12 : Int32)))])) _
  exact Go.fin X64 hlk (v := some (.int (sz - (12 : Int32)))) (fun h => by rw [Bd.returns] at h; cases h) (fun fs hr => OwnKit.retI X64 hx Bd.returns (hb hby d9_7) hr) (by rw [e64]; exact ⟨rfl, N0, rfl⟩) (by decide) (by decide)
theorem d10_0 : decode method_3_code 0 = .ok (.iload_n 1, 1) := by decide +kernel
theorem d10_1 : decode method_3_code 1 = .ok (.aload_n 0, 1) := by decide +kernel
theorem d10_2 : decode method_3_code 2 = .ok (.arraylength, 1) := by decide +kernel
theorem d10_3 : decode method_3_code 3 = .ok (.if_icmp .ge 14, 3) := by decide +kernel
theorem d10_6 : decode method_3_code 6 = .ok (.aload_n 0, 1) := by decide +kernel
theorem d10_7 : decode method_3_code 7 = .ok (.iload_n 1, 1) := by decide +kernel
theorem d10_8 : decode method_3_code 8 = .ok (.baload, 1) := by decide +kernel
theorem d10_9 : decode method_3_code 9 = .ok (.aload_n 2, 1) := by decide +kernel
theorem d10_10 : decode method_3_code 10 = .ok (.iload_n 3, 1) := by decide +kernel
theorem d10_11 : decode method_3_code 11 = .ok (.iload_n 1, 1) := by decide +kernel
theorem d10_12 : decode method_3_code 12 = .ok (.iadd, 1) := by decide +kernel
theorem d10_13 : decode method_3_code 13 = .ok (.baload, 1) := by decide +kernel
theorem d10_14 : decode method_3_code 14 = .ok (.if_icmp .ne 7, 3) := by decide +kernel
theorem d10_17 : decode method_3_code 17 = .ok (.iconst 1, 1) := by decide +kernel
theorem d10_18 : decode method_3_code 18 = .ok (.goto 4, 3) := by decide +kernel
theorem d10_22 : decode method_3_code 22 = .ok (.ireturn, 1) := by decide +kernel
theorem pn_10 : plainName "com/example/quicksettle/quicksettle/WriterPayloadFromPinLaw" = true := by first | (simp [plainName, overriddenIn]; done) | decide +kernel
theorem ef_10 (m : MethodId) (x0 : Addr) (x1 : Int32) (x2 : Addr) (x3 : Int32) : entryFrame m #[(.ref x0), (.int x1), (.ref x2), (.int x3)] 4 = mkF m 0 #[.val (.ref x0), .val (.int x1), .val (.ref x2), .val (.int x3)] [] := by first | (simp [entryFrame, mkF, argsToLocals, Value.category]; done) | rfl
def Q_rm10 (Z : State) (r : Addr) (i : Int32) (w : Addr) (k : Int32) (rs : List Int32) (ws_ : List Int32) (y : Int32) (h0 : Heap) (n0 : Nat) (vQ : Option Value) (hQ : Heap) (LQ : List Loc) : Prop := vQ = some (.int (1 : Int32)) ∧ Fr n0 LQ ∧ hQ = h0
set_option maxRecDepth 65536 in
set_option maxHeartbeats 40000000 in
theorem rm10 (l : Launch) (Z : State) (a0 : Array Value) (hw : ∀ d ∈ tables_1, d.before a0 Z = true) (ws : List Jvm.Cond) (r : Addr) (i : Int32) (w : Addr) (k : Int32) (rs : List Int32) (ws_ : List Int32) (y : Int32) (h0 : Heap) (n0 : Nat) (Z0 : n0 ≤ h0.size) (P0 : Ia Z h0 r .byte rs) (P1 : Ia Z h0 w .byte ws_) (h0i : ¬ i < 0) (h0k : ¬ (k + i) < 0) (hy : i < rs.length.toInt32 → rs[i.toNatClampNeg]? = some y ∧ ws_[(k + i).toNatClampNeg]? = some y) :
    MetFree l (⟨"com/example/quicksettle/quicksettle/WriterPayloadFromPinLaw", "at", "([BI[BI)Z"⟩ : MethodName) (head1 (Jvm.Cond.code (⟨"com/example/quicksettle/quicksettle/WriterPayloadFromPinLaw", "at", "([BI[BI)Z"⟩ : MethodName) method_3_code 4 (some .boolean) :: ws) ({ frames := 0, cells := 0, slots := 0, locals := 0 } : Room)) (fun aQ UQ => aQ = #[(.ref r), (.int i), (.ref w), (.int k)] ∧ Z.Warmed39 UQ.vm ∧ UQ.heap = h0) (fun _ _ _ _ _ => True) (fun _ UQ oQ UR => ∃ vQ LQ, oQ = .returned vQ ∧ Q_rm10 Z r i w k rs ws_ y h0 n0 vQ UR.heap LQ ∧ FrameEnd UQ oQ UR LQ ({ frames := 0, cells := 0, slots := 0, locals := 0 } : Room).cells ({ frames := 0, cells := 0, slots := 0, locals := 0 } : Room).slots) := by
  refine MetFree.of_bodySF (plainFor_of_name pn_10) hisR ?_
  intro p e s m args below meth c s₁ Bd hml0 hP hK
  obtain ⟨rfl, hZ, hh⟩ := hP
  have hx := Bd.exec
  have hby := Bd.bytes
  have hlk := Bd.notSynchronized
  have hml : c.maxLocals = 4 := hml0
  have hown : s.vm.findClass "com/example/quicksettle/quicksettle/WriterPayloadFromPinLaw" = some m.cls := findClass_of_methodNamed Bd.named
  have hnm := (name_of_methodNamed Bd.named Bd.method).1
  have X0 : Stand p l e ({ frames := 0, cells := 0, slots := 0, locals := 0 } : Room) s m #[(.ref r), (.int i), (.ref w), (.int k)] below meth c s₁ [] 0 0 := Stand.of_body Bd
  have e0 : s₁.heap = h0 := by rw [← hh, Bd.state]; rfl
  have N0 := Fr.nil n0
  show Go p e below _ (Done s (Q_rm10 Z r i w k rs ws_ y h0 n0) ({ frames := 0, cells := 0, slots := 0, locals := 0 } : Room).cells ({ frames := 0, cells := 0, slots := 0, locals := 0 } : Room).slots)
  refine Go.via (fun tQ kQ => castTop (ef_10 m r i w k) kQ) ?_
  show Go p e below (s₁.setTop (mkF m 0 #[.val (.ref r), .val (.int i), .val (.ref w), .val (.int k)] [])) _
  refine Go.via (fun _ => XS.iloadN X0.here hx rfl (hb hby d10_0) rfl) ?_
  refine Go.via (fun _ => XS.aloadN X0.here hx rfl (hb hby d10_1) rfl rfl) ?_
  refine Go.via (lenI X0 hx hZ e0 P0 (n := (rs.length.toInt32)) rfl (g := (mkF m 2 #[.val (.ref r), .val (.int i), .val (.ref w), .val (.int k)] [(.ref r), (.int i)])) rfl rfl (hb hby d10_2)) ?_
  show Go p e below (s₁.setTop (mkF m 3 #[.val (.ref r), .val (.int i), .val (.ref w), .val (.int k)] [(.int (rs.length.toInt32)), (.int i)])) _
  by_cases hc65 : i < (rs.length.toInt32)
  · refine Go.via (fun _ => XS.icmpNo X0.here hx rfl (hb hby d10_3) rfl (tlt (hc65 : i < (rs.length.toInt32))).2.1) ?_
    show Go p e below (s₁.setTop (mkF m 6 #[.val (.ref r), .val (.int i), .val (.ref w), .val (.int k)] [])) _
    refine Go.via (fun _ => XS.aloadN X0.here hx rfl (hb hby d10_6) rfl rfl) ?_
    refine Go.via (fun _ => XS.iloadN X0.here hx rfl (hb hby d10_7) rfl) ?_
    refine Go.via (ldB X0 hx hZ e0 P0 (v := y) h0i (hy (by assumption)).1 (g := (mkF m 8 #[.val (.ref r), .val (.int i), .val (.ref w), .val (.int k)] [(.int i), (.ref r)])) rfl rfl (hb hby d10_8)) ?_
    show Go p e below (s₁.setTop (mkF m 9 #[.val (.ref r), .val (.int i), .val (.ref w), .val (.int k)] [(.int y)])) _
    refine Go.via (fun _ => XS.aloadN X0.here hx rfl (hb hby d10_9) rfl rfl) ?_
    refine Go.via (fun _ => XS.iloadN X0.here hx rfl (hb hby d10_10) rfl) ?_
    refine Go.via (fun _ => XS.iloadN X0.here hx rfl (hb hby d10_11) rfl) ?_
    refine Go.via (fun _ => XS.iadd X0.here hx rfl (hb hby d10_12) rfl) ?_
    show Go p e below (s₁.setTop (mkF m 13 #[.val (.ref r), .val (.int i), .val (.ref w), .val (.int k)] [(.int (k + i)), (.ref w), (.int y)])) _
    refine Go.via (ldB X0 hx hZ e0 P1 (v := y) h0k (hy (by assumption)).2 (g := (mkF m 13 #[.val (.ref r), .val (.int i), .val (.ref w), .val (.int k)] [(.int (k + i)), (.ref w), (.int y)])) rfl rfl (hb hby d10_13)) ?_
    show Go p e below (s₁.setTop (mkF m 14 #[.val (.ref r), .val (.int i), .val (.ref w), .val (.int k)] [(.int y), (.int y)])) _
    refine Go.via (fun _ => XS.icmpNo X0.here hx rfl (hb hby d10_14) rfl (teq (rfl : y = y)).2) ?_
    show Go p e below (s₁.setTop (mkF m 17 #[.val (.ref r), .val (.int i), .val (.ref w), .val (.int k)] [])) _
    refine Go.via (fun _ => XS.iconst X0.here hx rfl (hb hby d10_17)) ?_
    refine Go.via (fun _ => XS.goto X0.here hx rfl (pc0 := 18) (pc' := 22) rfl (hb hby d10_18) (by decide) (by decide)) ?_
    exact Go.fin X0 hlk (v := some (.int (1 : Int32))) (fun h => by rw [Bd.returns] at h; cases h) (fun fs hr => retN X0 hx (t := .boolean) Bd.returns (by simp) (hb hby d10_22) hr) (by rw [e0]; exact ⟨rfl, N0, rfl⟩) (by decide) (by decide)
  · refine Go.via (fun _ => XS.icmpYes X0.here hx rfl (pc0 := 3) (pc' := 17) rfl (hb hby d10_3) rfl (flt (hc65 : ¬ (i < (rs.length.toInt32)))).2.1 (by decide) (by decide)) ?_
    show Go p e below (s₁.setTop (mkF m 17 #[.val (.ref r), .val (.int i), .val (.ref w), .val (.int k)] [])) _
    refine Go.via (fun _ => XS.iconst X0.here hx rfl (hb hby d10_17)) ?_
    refine Go.via (fun _ => XS.goto X0.here hx rfl (pc0 := 18) (pc' := 22) rfl (hb hby d10_18) (by decide) (by decide)) ?_
    exact Go.fin X0 hlk (v := some (.int (1 : Int32))) (fun h => by rw [Bd.returns] at h; cases h) (fun fs hr => retN X0 hx (t := .boolean) Bd.returns (by simp) (hb hby d10_22) hr) (by rw [e0]; exact ⟨rfl, N0, rfl⟩) (by decide) (by decide)
theorem d12_0 : decode prog_67_method_9_code 0 = .ok (.aload_n 0, 1) := by decide +kernel
theorem d12_1 : decode prog_67_method_9_code 1 = .ok (.getfield 15, 3) := by decide +kernel
theorem d12_4 : decode prog_67_method_9_code 4 = .ok (.iload_n 1, 1) := by decide +kernel
theorem d12_5 : decode prog_67_method_9_code 5 = .ok (.iadd, 1) := by decide +kernel
theorem d12_6 : decode prog_67_method_9_code 6 = .ok (.aload_n 0, 1) := by decide +kernel
theorem d12_7 : decode prog_67_method_9_code 7 = .ok (.getfield 9, 3) := by decide +kernel
theorem d12_10 : decode prog_67_method_9_code 10 = .ok (.arraylength, 1) := by decide +kernel
theorem d12_11 : decode prog_67_method_9_code 11 = .ok (.if_icmp .le 30, 3) := by decide +kernel
theorem d12_41 : decode prog_67_method_9_code 41 = .ok (.return_, 1) := by decide +kernel
theorem pn_12 : plainName "com/example/quicksettle/quicksettle/Records$Writer" = true := by first | (simp [plainName, overriddenIn]; done) | decide +kernel
theorem ef_12 (m : MethodId) (x0 : Addr) (x1 : Int32) : entryFrame m #[(.ref x0), (.int x1)] 2 = mkF m 0 #[.val (.ref x0), .val (.int x1)] [] := by first | (simp [entryFrame, mkF, argsToLocals, Value.category]; done) | rfl
def Q_rm12 (Z : State) (a : Addr) (q : Int32) (b : Addr) (xs : List Int32) (sz : Int32) (h0 : Heap) (n0 : Nat) (vQ : Option Value) (hQ : Heap) (LQ : List Loc) : Prop := vQ = none ∧ Fr n0 LQ ∧ hQ = h0
set_option maxRecDepth 65536 in
set_option maxHeartbeats 40000000 in
theorem rm12 (l : Launch) (Z : State) (a0 : Array Value) (hw : ∀ d ∈ tables_1, d.before a0 Z = true) (ws : List Jvm.Cond) (a : Addr) (q : Int32) (b : Addr) (xs : List Int32) (sz : Int32) (h0 : Heap) (n0 : Nat) (Z0 : n0 ≤ h0.size) (P0 : Fld Z h0 a "com/example/quicksettle/quicksettle/Records$Writer" "size" "I" (.int sz)) (P1 : Fld Z h0 a "com/example/quicksettle/quicksettle/Records$Writer" "bytes" "[B" (.ref b)) (P2 : Ia Z h0 b .byte xs) (hle : ¬ (xs.length.toInt32 < sz + q)) :
    MetFree l (⟨"com/example/quicksettle/quicksettle/Records$Writer", "room", "(I)V"⟩ : MethodName) (head1 (Jvm.Cond.code (⟨"com/example/quicksettle/quicksettle/Records$Writer", "room", "(I)V"⟩ : MethodName) prog_67_method_9_code 2 none :: ws) ({ frames := 0, cells := 0, slots := 0, locals := 0 } : Room)) (fun aQ UQ => aQ = #[(.ref a), (.int q)] ∧ Z.Warmed39 UQ.vm ∧ UQ.heap = h0) (fun _ _ _ _ _ => True) (fun _ UQ oQ UR => ∃ vQ LQ, oQ = .returned vQ ∧ Q_rm12 Z a q b xs sz h0 n0 vQ UR.heap LQ ∧ FrameEnd UQ oQ UR LQ ({ frames := 0, cells := 0, slots := 0, locals := 0 } : Room).cells ({ frames := 0, cells := 0, slots := 0, locals := 0 } : Room).slots) := by
  refine MetFree.of_bodySF (plainFor_of_name pn_12) hisR ?_
  intro p e s m args below meth c s₁ Bd hml0 hP hK
  obtain ⟨rfl, hZ, hh⟩ := hP
  have hx := Bd.exec
  have hby := Bd.bytes
  have hlk := Bd.notSynchronized
  have hml : c.maxLocals = 2 := hml0
  have hown : s.vm.findClass "com/example/quicksettle/quicksettle/Records$Writer" = some m.cls := findClass_of_methodNamed Bd.named
  have hnm := (name_of_methodNamed Bd.named Bd.method).1
  have X0 : Stand p l e ({ frames := 0, cells := 0, slots := 0, locals := 0 } : Room) s m #[(.ref a), (.int q)] below meth c s₁ [] 0 0 := Stand.of_body Bd
  have e0 : s₁.heap = h0 := by rw [← hh, Bd.state]; rfl
  have N0 := Fr.nil n0
  show Go p e below _ (Done s (Q_rm12 Z a q b xs sz h0 n0) ({ frames := 0, cells := 0, slots := 0, locals := 0 } : Room).cells ({ frames := 0, cells := 0, slots := 0, locals := 0 } : Room).slots)
  refine Go.via (fun tQ kQ => castTop (ef_12 m a q) kQ) ?_
  show Go p e below (s₁.setTop (mkF m 0 #[.val (.ref a), .val (.int q)] [])) _
  refine Go.via (fun _ => XS.aloadN X0.here hx rfl (hb hby d12_0) rfl rfl) ?_
  obtain ⟨T66, X66, e66, st66⟩ := getF X0 hx hZ hown (host := "") (Or.inl (tw hw 18 rfl)) Via.refl e0 P0 (g := (mkF m 1 #[.val (.ref a), .val (.int q)] [(.ref a)])) rfl rfl (hb hby d12_1)
  refine Go.via (st66) ?_
  show Go p e below (T66.setTop (mkF m 4 #[.val (.ref a), .val (.int q)] [(.int sz)])) _
  refine Go.via (fun _ => XS.iloadN X66.here hx rfl (hb hby d12_4) rfl) ?_
  refine Go.via (fun _ => XS.iadd X66.here hx rfl (hb hby d12_5) rfl) ?_
  show Go p e below (T66.setTop (mkF m 6 #[.val (.ref a), .val (.int q)] [(.int (sz + q))])) _
  refine Go.via (fun _ => XS.aloadN X66.here hx rfl (hb hby d12_6) rfl rfl) ?_
  obtain ⟨T67, X67, e67, st67⟩ := getF X66 hx hZ hown (host := "") (Or.inl (tw hw 16 rfl)) Via.refl e66 P1 (g := (mkF m 7 #[.val (.ref a), .val (.int q)] [(.ref a), (.int (sz + q))])) rfl rfl (hb hby d12_7)
  refine Go.via (st67) ?_
  show Go p e below (T67.setTop (mkF m 10 #[.val (.ref a), .val (.int q)] [(.ref b), (.int (sz + q))])) _
  refine Go.via (lenI X67 hx hZ e67 P2 (n := (xs.length.toInt32)) rfl (g := (mkF m 10 #[.val (.ref a), .val (.int q)] [(.ref b), (.int (sz + q))])) rfl rfl (hb hby d12_10)) ?_
  show Go p e below (T67.setTop (mkF m 11 #[.val (.ref a), .val (.int q)] [(.int (xs.length.toInt32)), (.int (sz + q))])) _
  refine Go.via (fun _ => XS.icmpYes X67.here hx rfl (pc0 := 11) (pc' := 41) rfl (hb hby d12_11) rfl (flt (hle : ¬ ((xs.length.toInt32) < (sz + q)))).2.2.2 (by decide) (by decide)) ?_
  show Go p e below (T67.setTop (mkF m 41 #[.val (.ref a), .val (.int q)] [])) _
  exact Go.fin X67 hlk (v := none) (fun _ => rfl) (fun fs hr => X67.returnOut hx Bd.returns (hb hby d12_41) hr) (by rw [e67]; exact ⟨rfl, N0, rfl⟩) (by decide) (by decide)
theorem d11_0 : decode prog_67_method_6_code 0 = .ok (.aload_n 0, 1) := by decide +kernel
theorem d11_1 : decode prog_67_method_6_code 1 = .ok (.iconst 1, 1) := by decide +kernel
theorem d11_2 : decode prog_67_method_6_code 2 = .ok (.invokevirtual 50, 3) := by decide +kernel
theorem pd__28I_29V : parseMethodDescriptor "(I)V" = some ⟨[.int], none⟩ := by decide +kernel
theorem d11_5 : decode prog_67_method_6_code 5 = .ok (.aload_n 0, 1) := by decide +kernel
theorem d11_6 : decode prog_67_method_6_code 6 = .ok (.getfield 9, 3) := by decide +kernel
theorem d11_9 : decode prog_67_method_6_code 9 = .ok (.aload_n 0, 1) := by decide +kernel
theorem d11_10 : decode prog_67_method_6_code 10 = .ok (.dup, 1) := by decide +kernel
theorem d11_11 : decode prog_67_method_6_code 11 = .ok (.getfield 15, 3) := by decide +kernel
theorem d11_14 : decode prog_67_method_6_code 14 = .ok (.dup_x1, 1) := by decide +kernel
theorem d11_15 : decode prog_67_method_6_code 15 = .ok (.iconst 1, 1) := by decide +kernel
theorem d11_16 : decode prog_67_method_6_code 16 = .ok (.iadd, 1) := by decide +kernel
theorem d11_17 : decode prog_67_method_6_code 17 = .ok (.putfield 15, 3) := by decide +kernel
theorem d11_20 : decode prog_67_method_6_code 20 = .ok (.iload_n 1, 1) := by decide +kernel
theorem d11_21 : decode prog_67_method_6_code 21 = .ok (.i2b, 1) := by decide +kernel
theorem d11_22 : decode prog_67_method_6_code 22 = .ok (.bastore, 1) := by decide +kernel
theorem d11_23 : decode prog_67_method_6_code 23 = .ok (.return_, 1) := by decide +kernel
theorem pn_11 : plainName "com/example/quicksettle/quicksettle/Records$Writer" = true := by first | (simp [plainName, overriddenIn]; done) | decide +kernel
theorem ef_11 (m : MethodId) (x0 : Addr) (x1 : Int32) : entryFrame m #[(.ref x0), (.int x1)] 2 = mkF m 0 #[.val (.ref x0), .val (.int x1)] [] := by first | (simp [entryFrame, mkF, argsToLocals, Value.category]; done) | rfl
def Q_rm11 (Z : State) (a : Addr) (x : Int32) (b : Addr) (xs : List Int32) (sz : Int32) (ps : List Int32) (h0 : Heap) (n0 : Nat) (vQ : Option Value) (hQ : Heap) (LQ : List Loc) : Prop := ∃ xs2 : List Int32, vQ = none ∧ Fr n0 LQ ∧ Keep h0 hQ [a, b] ∧ Exa Z hQ a "com/example/quicksettle/quicksettle/Records$Writer" ∧ Fld Z hQ a "com/example/quicksettle/quicksettle/Records$Writer" "size" "I" (.int (sz + (1 : Int32))) ∧ Fld Z hQ a "com/example/quicksettle/quicksettle/Records$Writer" "bytes" "[B" (.ref b) ∧ Ia Z hQ b .byte xs2 ∧ (own_pay xs2 (ps ++ [own_b x]))
set_option maxRecDepth 65536 in
set_option maxHeartbeats 40000000 in
theorem rm11 (l : Launch) (Z : State) (a0 : Array Value) (hw : ∀ d ∈ tables_1, d.before a0 Z = true) (ws : List Jvm.Cond) (a : Addr) (x : Int32) (b : Addr) (xs : List Int32) (sz : Int32) (ps : List Int32) (h0 : Heap) (n0 : Nat) (Z0 : n0 ≤ h0.size) (P0 : Exa Z h0 a "com/example/quicksettle/quicksettle/Records$Writer") (P1 : Fld Z h0 a "com/example/quicksettle/quicksettle/Records$Writer" "size" "I" (.int sz)) (P2 : Fld Z h0 a "com/example/quicksettle/quicksettle/Records$Writer" "bytes" "[B" (.ref b)) (P3 : Ia Z h0 b .byte xs) (g_a : n0 ≤ a) (g_b : n0 ≤ b) (hne : a ≠ b) (hp : own_pay xs ps) (hsz : sz.toInt = ((12 + ps.length : Nat) : Int)) (hl : ps.length < 4084) :
    MetFree l (⟨"com/example/quicksettle/quicksettle/Records$Writer", "write", "(I)V"⟩ : MethodName) (head1 (Jvm.Cond.code (⟨"com/example/quicksettle/quicksettle/Records$Writer", "write", "(I)V"⟩ : MethodName) prog_67_method_6_code 2 none :: ws) ({ frames := 1, cells := 0, slots := 0, locals := 13 } : Room)) (fun aQ UQ => aQ = #[(.ref a), (.int x)] ∧ Z.Warmed39 UQ.vm ∧ UQ.heap = h0) (fun _ _ _ _ _ => True) (fun _ UQ oQ UR => ∃ vQ LQ, oQ = .returned vQ ∧ Q_rm11 Z a x b xs sz ps h0 n0 vQ UR.heap LQ ∧ FrameEnd UQ oQ UR LQ ({ frames := 1, cells := 0, slots := 0, locals := 13 } : Room).cells ({ frames := 1, cells := 0, slots := 0, locals := 13 } : Room).slots) := by
  refine MetFree.of_bodySF (plainFor_of_name pn_11) hisR ?_
  intro p e s m args below meth c s₁ Bd hml0 hP hK
  obtain ⟨rfl, hZ, hh⟩ := hP
  have hx := Bd.exec
  have hby := Bd.bytes
  have hlk := Bd.notSynchronized
  have hml : c.maxLocals = 2 := hml0
  have hown : s.vm.findClass "com/example/quicksettle/quicksettle/Records$Writer" = some m.cls := findClass_of_methodNamed Bd.named
  have hnm := (name_of_methodNamed Bd.named Bd.method).1
  have X0 : Stand p l e ({ frames := 1, cells := 0, slots := 0, locals := 13 } : Room) s m #[(.ref a), (.int x)] below meth c s₁ [] 0 0 := Stand.of_body Bd
  have e0 : s₁.heap = h0 := by rw [← hh, Bd.state]; rfl
  have N0 := Fr.nil n0
  show Go p e below _ (Done s (Q_rm11 Z a x b xs sz ps h0 n0) ({ frames := 1, cells := 0, slots := 0, locals := 13 } : Room).cells ({ frames := 1, cells := 0, slots := 0, locals := 13 } : Room).slots)
  refine Go.via (fun tQ kQ => castTop (ef_11 m a x) kQ) ?_
  show Go p e below (s₁.setTop (mkF m 0 #[.val (.ref a), .val (.int x)] [])) _
  refine Go.via (fun _ => XS.aloadN X0.here hx rfl (hb hby d11_0) rfl rfl) ?_
  refine Go.via (fun _ => XS.iconst X0.here hx rfl (hb hby d11_1)) ?_
  obtain ⟨cq68, q68, q68'⟩ := P0.cell
  obtain ⟨_, _, ⟨T68, L68, k68, n68⟩, -, X68, ⟨Lc68, hQ68, l68, y68, z68⟩, st68⟩ := X0.privateBack hx (y := (⟨"com/example/quicksettle/quicksettle/Records$Writer", "room", "(I)V"⟩ : MethodName)) hown (mvT hZ (tw hw 57 rfl)) (mvT hZ (tw hw 58 rfl)) (selP hZ (tw hw 3 rfl) (tw hw 59 rfl) (tw hw 58 rfl) (by decide)) (Cond.privateMethod_at (mvP hZ (tw hw 59 rfl) (args := #[]))) (mvT hZ (tw hw 60 rfl)) (by decide) (backOf (W := 0) (rm12 l Z a0 hw [] a (1 : Int32) b xs sz h0 n0 Z0 P1 P2 P3 (own_le1 hp hsz hl)) hZ (tw hw 60 rfl) (tw hw 4 rfl) (by decide) (by decide)) (g := (mkF m 2 #[.val (.ref a), .val (.int x)] [(.int (1 : Int32)), (.ref a)])) rfl (by rw [hml]; rfl) (Steps.refl _) (a := a) (by rw [e0]; exact q68) q68' (argsL := [(.int (1 : Int32))]) (rest := []) (lenOf pd__28I_29V rfl) rfl (by show 2 * 0 + _ ≤ _; exact Nat.le_of_eq rfl) (hb hby d11_2) (fun _ _ => ⟨rfl, e0, (by decide : 0 + 0 ≤ _), (by decide : 0 + 0 ≤ _)⟩)
  dsimp only [Pt.U, Pt.locs, Pt.cells, Pt.slots] at X68 l68 y68 z68 st68 hQ68
  subst l68 y68 z68
  obtain ⟨rfl, N68q, eh68⟩ := hQ68
  have N68 := Fr.app N0 N68q
  refine Go.via (fun _ kQ => st68.trans kQ) ?_
  have e68 : T68.heap = h0 := eh68
  show Go p e below (T68.setTop (mkF m 5 #[.val (.ref a), .val (.int x)] [])) _
  refine Go.via (fun _ => XS.aloadN X68.here hx rfl (hb hby d11_5) rfl rfl) ?_
  obtain ⟨T69, X69, e69, st69⟩ := getF X68 hx hZ hown (host := "") (Or.inl (tw hw 16 rfl)) Via.refl e68 P2 (g := (mkF m 6 #[.val (.ref a), .val (.int x)] [(.ref a)])) rfl rfl (hb hby d11_6)
  refine Go.via (st69) ?_
  show Go p e below (T69.setTop (mkF m 9 #[.val (.ref a), .val (.int x)] [(.ref b)])) _
  refine Go.via (fun _ => XS.aloadN X69.here hx rfl (hb hby d11_9) rfl rfl) ?_
  refine Go.via (fun _ => XS.dup X69.here hx rfl (hb hby d11_10) rfl rfl) ?_
  obtain ⟨T70, X70, e70, st70⟩ := getF X69 hx hZ hown (host := "") (Or.inl (tw hw 18 rfl)) Via.refl e69 P1 (g := (mkF m 11 #[.val (.ref a), .val (.int x)] [(.ref a), (.ref a), (.ref b)])) rfl rfl (hb hby d11_11)
  refine Go.via (st70) ?_
  show Go p e below (T70.setTop (mkF m 14 #[.val (.ref a), .val (.int x)] [(.int sz), (.ref a), (.ref b)])) _
  refine Go.via (fun _ => XS.dupX1 X70.here hx rfl (hb hby d11_14) rfl rfl rfl) ?_
  show Go p e below (T70.setTop (mkF m 15 #[.val (.ref a), .val (.int x)] [(.int sz), (.ref a), (.int sz), (.ref b)])) _
  refine Go.via (fun _ => XS.iconst X70.here hx rfl (hb hby d11_15)) ?_
  refine Go.via (fun _ => XS.iadd X70.here hx rfl (hb hby d11_16) rfl) ?_
  show Go p e below (T70.setTop (mkF m 17 #[.val (.ref a), .val (.int x)] [(.int (sz + (1 : Int32))), (.ref a), (.int sz), (.ref b)])) _
  obtain ⟨T71, h71, X71, e71, W71, st71⟩ := putF X70 hx hZ hown (host := "") (Or.inl (tw hw 18 rfl)) Via.refl e70 P1 P0 (Or.inl (tw hw 19 rfl)) (tw hw 3 rfl) (ty := .int) (by decide) rfl rfl (g := (mkF m 17 #[.val (.ref a), .val (.int x)] [(.int (sz + (1 : Int32))), (.ref a), (.int sz), (.ref b)])) rfl rfl (hb hby d11_17)
  refine Go.via (st71) ?_
  have N71 := Fr.snoc X71 N68 g_a
  have f72 : Fld Z h71 a "com/example/quicksettle/quicksettle/Records$Writer" "size" "I" (.int (sz + (1 : Int32))) := P1.same W71
  show Go p e below (T71.setTop (mkF m 20 #[.val (.ref a), .val (.int x)] [(.int sz), (.ref b)])) _
  refine Go.via (fun _ => XS.iloadN X71.here hx rfl (hb hby d11_20) rfl) ?_
  refine Go.via (fun _ => XS.i2b X71.here hx rfl (hb hby d11_21) rfl) ?_
  show Go p e below (T71.setTop (mkF m 22 #[.val (.ref a), .val (.int x)] [(.int (x.toInt8.toInt32)), (.int sz), (.ref b)])) _
  have f73 : Ia Z h71 b .byte xs := (P3.other W71 (Ne.symm hne))
  obtain ⟨T74, h74, X74, e74, W74, V74, st74⟩ := stB' X71 hx hZ e71 f73 (j := sz) (own_nn (by omega)) (by rw [own_len hp, own_cl hsz]; omega) (g := (mkF m 22 #[.val (.ref a), .val (.int x)] [(.int (x.toInt8.toInt32)), (.int sz), (.ref b)])) rfl rfl (hb hby d11_22)
  refine Go.via (st74) ?_
  have N74 := Fr.snoc X74 N71 g_b
  have f75 : Ia Z h74 b .byte (List.set xs (sz).toNatClampNeg (nar .byte (x.toInt8.toInt32))) := V74
  show Go p e below (T74.setTop (mkF m 23 #[.val (.ref a), .val (.int x)] [])) _
  have k76 : Keep h0 h74 [a, b] := (((Keep.refl h0 [a, b]).wr W71 (Or.inl (List.mem_of_getElem? (i := 0) rfl))).wr W74 (Or.inl (List.mem_of_getElem? (i := 1) rfl)))
  have f77 : Exa Z h74 a "com/example/quicksettle/quicksettle/Records$Writer" := ((P0.wr W71).wr W74)
  have f78 : Fld Z h74 a "com/example/quicksettle/quicksettle/Records$Writer" "size" "I" (.int (sz + (1 : Int32))) := (f72.other W74 (Or.inl hne))
  have f79 : Fld Z h74 a "com/example/quicksettle/quicksettle/Records$Writer" "bytes" "[B" (.ref b) := ((P2.other W71 (Or.inr (slot_ne (Or.inl (tw hw 17 rfl)) (Or.inl (tw hw 19 rfl)) (by decide) (t := (.array .byte)) (t' := .int) (by decide) (by decide)))).other W74 (Or.inl hne))
  exact Go.fin X74 hlk (v := none) (fun _ => rfl) (fun fs hr => X74.returnOut hx Bd.returns (hb hby d11_23) hr) (by rw [e74]; exact ⟨_, rfl, N74, k76, f77, f78, f79, f75, (own_set hp hsz hl)⟩) (by decide) (by decide)
theorem own_n (x : Int32) : ∃ n : Int32, (x &&& (2147483647 : Int32)) % (5 : Int32) = n ∧ (n = 0 ∨ n = 1 ∨ n = 2 ∨ n = 3 ∨ n = 4) := by
  refine ⟨_, rfl, ?_⟩
  have h1 := c_and x 2147483647 (by decide)
  have h2 := (c_irem (x &&& 2147483647) 5 5 (by decide)).1 h1.1
  generalize (x &&& (2147483647 : Int32)) % (5 : Int32) = n at h2
  have h3 : n.toInt = 0 ∨ n.toInt = 1 ∨ n.toInt = 2 ∨ n.toInt = 3 ∨ n.toInt = 4 := by omega
  rcases h3 with h | h | h | h | h
  · exact Or.inl (Int32.toInt_inj.mp h)
  · exact Or.inr (Or.inl (Int32.toInt_inj.mp h))
  · exact Or.inr (Or.inr (Or.inl (Int32.toInt_inj.mp h)))
  · exact Or.inr (Or.inr (Or.inr (Or.inl (Int32.toInt_inj.mp h))))
  · exact Or.inr (Or.inr (Or.inr (Or.inr (Int32.toInt_inj.mp h))))
theorem own_k (x n : Int32) (h0 : 0 ≤ n.toInt) (h4 : n.toInt ≤ 4) : ¬ (x &&& (2147483647 : Int32)) % (n + (1 : Int32)) < 0 ∧ ((x &&& (2147483647 : Int32)) % (n + (1 : Int32))).toInt ≤ n.toInt ∧ n + (1 : Int32) ≠ 0 := by
  have h1 := c_and x 2147483647 (by decide)
  have h2 := c_iadd n 1
  have h3 := rng32 (n + 1)
  have e1 : (1 : Int32).toInt = 1 := rfl
  have h5 : (n + 1).toInt = n.toInt + 1 := by omega
  have h6 := (c_iremV (x &&& 2147483647) (n + 1)).1 h1.1 (by omega)
  refine ⟨?_, by omega, fun q => ?_⟩
  · rw [Int32.lt_iff_toInt_lt]; have : (0 : Int32).toInt = 0 := rfl; omega
  · rw [q] at h5; have : (0 : Int32).toInt = 0 := rfl; omega
theorem own_rl {ps : List Int32} {n k : Int32} (hn : n.toInt = (ps.length : Int)) (hl : ps.length ≤ 4) (h0 : ¬ k < 0) (hk : k.toInt ≤ (ps.length : Int)) : (List.drop (k).toNatClampNeg ps).length.toInt32 = n - k := by
  have e0 := nat_of h0
  have e1 := own_sub (f := k) (t := n) (by omega) (by omega)
  apply Int32.toInt_inj.mp
  rw [own_l32 (by simp; omega), e1]; simp; omega
theorem own_at {ps tl : List Int32} {n k i : Int32} (hn : n.toInt = (ps.length : Int)) (hl : ps.length ≤ 4) (h0 : ¬ k < 0) (hk : k.toInt ≤ (ps.length : Int)) (hi : ¬ i < 0) (hi4 : i.toInt ≤ 3) :
    ¬ (k + i) < 0 ∧ (i < (List.drop (k).toNatClampNeg ps).length.toInt32 → (List.drop (k).toNatClampNeg ps)[i.toNatClampNeg]? = some ((ps ++ tl).getD (k + i).toNatClampNeg 0) ∧ (ps ++ tl)[(k + i).toNatClampNeg]? = some ((ps ++ tl).getD (k + i).toNatClampNeg 0)) := by
  have e0 := nat_of h0
  have e1 := nat_of hi
  have e2 := c_iadd k i
  have e3 := rng32 (k + i)
  have e4 : (k + i).toInt = k.toInt + i.toInt := by omega
  refine ⟨own_nn (by omega), fun q => ?_⟩
  rw [Int32.lt_iff_toInt_lt, own_l32 (by simp; omega)] at q
  simp only [List.length_drop] at q
  have e5 : (k + i).toNatClampNeg = k.toNatClampNeg + i.toNatClampNeg := by
    have := nat_of (j := k + i) (own_nn (by omega)); omega
  have e6 : k.toNatClampNeg + i.toNatClampNeg < ps.length := by omega
  rw [e5]
  constructor
  · rw [List.getElem?_drop, List.getD, List.getElem?_append_left e6, List.getElem?_eq_getElem e6]; rfl
  · rw [List.getD, List.getElem?_append_left e6, List.getElem?_eq_getElem e6]; rfl
theorem own_pb {sz n : Int32} {ps : List Int32} (hs : sz.toInt = ((12 + ps.length : Nat) : Int)) (hn : n.toInt = (ps.length : Int)) : sz - (12 : Int32) = n := by
  have := own_sub (f := 12) (t := sz) (by decide) (by have : (12 : Int32).toInt = 12 := rfl; omega)
  have h12 : (12 : Int32).toInt = 12 := rfl
  apply Int32.toInt_inj.mp; omega
theorem own_k0 (k : Int32) : k + 0 = k := Int32.add_zero k
theorem own_pos {n k : Int32} {ps : List Int32} (hn : n.toInt = (ps.length : Int)) (h0 : ¬ k < 0) (hk : k.toInt ≤ (ps.length : Int)) (q : (0 : Int32) < n - k) : k.toNatClampNeg < ps.length := by
  have e0 := nat_of h0
  have e1 := own_sub (f := k) (t := n) (by omega) (by omega)
  rw [Int32.lt_iff_toInt_lt, e1] at q; have : (0 : Int32).toInt = 0 := rfl; omega
theorem own_hd {ps tl : List Int32} {k : Nat} (h : k < ps.length) : (List.drop k ps)[(0 : Int32).toNatClampNeg]? = some ((ps ++ tl).getD k 0) ∧ (ps ++ tl)[k]? = some ((ps ++ tl).getD k 0) := by
  have e : (0 : Int32).toNatClampNeg = 0 := rfl
  rw [e, List.getElem?_drop, List.getD, Nat.add_zero, List.getElem?_append_left h, List.getElem?_eq_getElem h]; exact ⟨rfl, rfl⟩
theorem own_nr {n : Int32} (h : n = 0 ∨ n = 1 ∨ n = 2 ∨ n = 3 ∨ n = 4) : 0 ≤ n.toInt ∧ n.toInt ≤ 4 := by rcases h with rfl | rfl | rfl | rfl | rfl <;> decide
theorem pd__28I_29_5bB : parseMethodDescriptor "(I)[B" = some ⟨[.int], some (.array .byte)⟩ := by decide +kernel
theorem pd__28_29I : parseMethodDescriptor "()I" = some ⟨[], some .int⟩ := by decide +kernel
theorem pd__28_5bBI_5bBI_29Z : parseMethodDescriptor "([BI[BI)Z" = some ⟨[(.array .byte), .int, (.array .byte), .int], some .boolean⟩ := by decide +kernel
theorem pn_0 : plainName "com/example/quicksettle/quicksettle/WriterPayloadFromPinLaw" = true := by first | (simp [plainName, overriddenIn]; done) | decide +kernel
theorem ef_0 (m : MethodId) (x0 : Int32) (x1 : Int32) (x2 : Int32) (x3 : Int32) (x4 : Int32) (x5 : Int32) : entryFrame m #[(.int x0), (.int x1), (.int x2), (.int x3), (.int x4), (.int x5)] maxLocals = mkF m 0 #[.val (.int x0), .val (.int x1), .val (.int x2), .val (.int x3), .val (.int x4), .val (.int x5), .unset, .unset, .unset, .unset, .unset, .unset, .unset] [] := by first | (simp [entryFrame, mkF, argsToLocals, Value.category, maxLocals]; done) | rfl
def Q_rm0 (Z : State) (p0 : Int32) (p1 : Int32) (p2 : Int32) (p3 : Int32) (p4 : Int32) (p5 : Int32)  (h0 : Heap) (n0 : Nat) (vQ : Option Value) (hQ : Heap) (LQ : List Loc) : Prop := vQ = some (.int (1 : Int32)) ∧ Fr n0 LQ ∧ Keep h0 hQ []
set_option maxRecDepth 65536 in
set_option maxHeartbeats 40000000 in
theorem rm0 (l : Launch) (Z : State) (a0 : Array Value) (hw : ∀ d ∈ tables_1, d.before a0 Z = true) (ws : List Jvm.Cond) (p0 : Int32) (p1 : Int32) (p2 : Int32) (p3 : Int32) (p4 : Int32) (p5 : Int32)  (h0 : Heap) (n0 : Nat) (Z0 : n0 ≤ h0.size) :
    MetFree l x (head1 (Jvm.Cond.code x code maxLocals ret :: ws) room_1) (fun aQ UQ => aQ = #[(.int p0), (.int p1), (.int p2), (.int p3), (.int p4), (.int p5)] ∧ Z.Warmed39 UQ.vm ∧ UQ.heap = h0) (fun _ _ _ _ _ => True) (fun _ UQ oQ UR => ∃ vQ LQ, oQ = .returned vQ ∧ Q_rm0 Z p0 p1 p2 p3 p4 p5  h0 n0 vQ UR.heap LQ ∧ FrameEnd UQ oQ UR LQ room_1.cells room_1.slots) := by
  refine MetFree.of_bodySF (plainFor_of_name pn_0) hisR ?_
  intro p e s m args below meth c s₁ Bd hml0 hP hK
  obtain ⟨rfl, hZ, hh⟩ := hP
  have hx := Bd.exec
  have hby := Bd.bytes
  have hlk := Bd.notSynchronized
  have hml : c.maxLocals = 13 := hml0
  have hown : s.vm.findClass "com/example/quicksettle/quicksettle/WriterPayloadFromPinLaw" = some m.cls := findClass_of_methodNamed Bd.named
  have hnm := (name_of_methodNamed Bd.named Bd.method).1
  have X0 : Stand p l e room_1 s m #[(.int p0), (.int p1), (.int p2), (.int p3), (.int p4), (.int p5)] below meth c s₁ [] 0 0 := Stand.of_body Bd
  have e0 : s₁.heap = h0 := by rw [← hh, Bd.state]; rfl
  have N0 := Fr.nil n0
  show Go p e below _ (Done s (Q_rm0 Z p0 p1 p2 p3 p4 p5  h0 n0) room_1.cells room_1.slots)
  refine Go.via (fun tQ kQ => castTop (ef_0 m p0 p1 p2 p3 p4 p5) kQ) ?_
  have J : ∀ (T80 : State) (L80 : List Loc) (h80 : Heap) (n : Int32) (k : Int32) (w : Addr) (a : Addr) (b : Addr) (sz : Int32) (xs : List Int32) (ps : List Int32) (tl : List Int32), Stand p l e room_1 s m #[(.int p0), (.int p1), (.int p2), (.int p3), (.int p4), (.int p5)] below meth c T80 L80 3 4102 → T80.heap = h80 → Fr n0 L80 → n0 ≤ h80.size → Keep h0 h80 [] → Exa Z h80 a "com/example/quicksettle/quicksettle/Records$Writer" → Fld Z h80 a "com/example/quicksettle/quicksettle/Records$Writer" "bytes" "[B" (.ref b) → Fld Z h80 a "com/example/quicksettle/quicksettle/Records$Writer" "size" "I" (.int sz) → Ia Z h80 b .byte xs → Ia Z h80 w .byte (ps ++ tl) → a ≠ b → w ≠ a → w ≠ b → n0 ≤ a → n0 ≤ b → n0 ≤ w → h0.size ≤ a → h0.size ≤ b → h0.size ≤ w → own_pay xs ps → sz.toInt = ((12 + ps.length : Nat) : Int) → n.toInt = (ps.length : Int) → ps.length ≤ 4 → ¬ k < 0 → k.toInt ≤ (ps.length : Int) → Go p e below (T80.setTop (mkF m 104 #[.val (.int p0), .val (.int p1), .val (.int p2), .val (.int p3), .val (.int p4), .val (.int p5), .val (.int n), .val (.int k), .val (.ref w), .val (.ref a), .unset, .unset, .unset] [])) (Done s (Q_rm0 Z p0 p1 p2 p3 p4 p5 h0 n0) room_1.cells room_1.slots) := by
    intro T80 L80 h80 n k w a b sz xs ps tl X80 e80 N80 z80 k80 fE80 fb80 fs80 fA80 fw80 hab80 haw80 hbw80 ga80 gb80 gw80 za80 zb80 zw80 hp80 hsz80 hn80 hl80 h0k80 hk80
    show Go p e below (T80.setTop (mkF m 104 #[.val (.int p0), .val (.int p1), .val (.int p2), .val (.int p3), .val (.int p4), .val (.int p5), .val (.int n), .val (.int k), .val (.ref w), .val (.ref a), .unset, .unset, .unset] [])) _
    refine Go.via (fun _ => XS.aload X80.here hx rfl (hb hby at_104) rfl rfl) ?_
    refine Go.via (fun _ => XS.iload X80.here hx rfl (hb hby at_106) rfl) ?_
    obtain ⟨cq81, kq81, q81a, q81b, q81c⟩ := isOf hZ e80 fE80
    obtain ⟨_, _, ⟨T81, L81, k81, n81⟩, -, X81, ⟨Lc81, hQ81, l81, y81, z81⟩, st81⟩ := X80.virtualBack hx (y := (⟨"com/example/quicksettle/quicksettle/Records$Writer", "payloadFrom", "(I)[B"⟩ : MethodName)) (z := (⟨"com/example/quicksettle/quicksettle/Records$Writer", "payloadFrom", "(I)[B"⟩ : MethodName)) hown (mvT hZ (tw hw 20 rfl)) (mvT hZ (tw hw 21 rfl)) (notFace_of_selects (args := #[]) (mvT hZ (tw hw 23 rfl))) (mvT hZ (tw hw 23 rfl)) (mvT hZ (tw hw 22 rfl)) (by decide) (backOf (W := 0) (rm4 l Z a0 hw [] a k b xs sz ps h80 n0 z80 fb80 fs80 fA80 hp80 hsz80 h0k80 hk80 hl80) hZ (tw hw 24 rfl) (tw hw 4 rfl) (by decide) (by decide)) q81a q81c (g := (mkF m 108 #[.val (.int p0), .val (.int p1), .val (.int p2), .val (.int p3), .val (.int p4), .val (.int p5), .val (.int n), .val (.int k), .val (.ref w), .val (.ref a), .unset, .unset, .unset] [(.int k), (.ref a)])) rfl (by rw [hml]; rfl) (Steps.refl _) (argsL := [(.int k)]) (rest := []) (lenOf pd__28I_29_5bB rfl) rfl (by show 2 * 0 + _ ≤ _; exact Nat.le_of_eq rfl) (hb hby at_108) (fun _ _ => ⟨rfl, e80, (by decide : 3 + 1 ≤ _), (by decide : 4102 + 4 ≤ _)⟩)
    dsimp only [Pt.U, Pt.locs, Pt.cells, Pt.slots] at X81 l81 y81 z81 st81 hQ81
    subst l81 y81 z81
    obtain ⟨b82, rfl, N81q, K81q, fz_b82, f83⟩ := hQ81
    have N81 := Fr.app N80 N81q
    refine Go.via (fun _ kQ => st81.trans kQ) ?_
    have ne84 : a ≠ b82 := Nat.ne_of_lt (Nat.lt_of_lt_of_le fE80.lt fz_b82)
    have ne85 : b ≠ b82 := Nat.ne_of_lt (Nat.lt_of_lt_of_le fA80.lt fz_b82)
    have ne86 : w ≠ b82 := Nat.ne_of_lt (Nat.lt_of_lt_of_le fw80.lt fz_b82)
    have ge87 : n0 ≤ b82 := Nat.le_trans z80 fz_b82
    have sz88 : h0.size ≤ b82 := Nat.le_trans k80.1 fz_b82
    have e81 : T81.heap = T81.heap := rfl
    have f89 : Ia Z T81.heap b82 .byte (List.drop (k).toNatClampNeg ps) := f83
    show Go p e below (T81.setTop (mkF m 111 #[.val (.int p0), .val (.int p1), .val (.int p2), .val (.int p3), .val (.int p4), .val (.int p5), .val (.int n), .val (.int k), .val (.ref w), .val (.ref a), .unset, .unset, .unset] [(.ref b82)])) _
    refine Go.via (fun _ => XS.astore X81.here hx rfl (hb hby at_111) rfl rfl (l' := #[.val (.int p0), .val (.int p1), .val (.int p2), .val (.int p3), .val (.int p4), .val (.int p5), .val (.int n), .val (.int k), .val (.ref w), .val (.ref a), .val (.ref b82), .unset, .unset]) rfl) ?_
    show Go p e below (T81.setTop (mkF m 113 #[.val (.int p0), .val (.int p1), .val (.int p2), .val (.int p3), .val (.int p4), .val (.int p5), .val (.int n), .val (.int k), .val (.ref w), .val (.ref a), .val (.ref b82), .unset, .unset] [])) _
    refine Go.via (fun _ => XS.aload X81.here hx rfl (hb hby at_113) rfl rfl) ?_
    refine Go.via (lenI X81 hx hZ e81 f89 (n := (n - k)) (own_rl hn80 hl80 h0k80 hk80) (g := (mkF m 115 #[.val (.int p0), .val (.int p1), .val (.int p2), .val (.int p3), .val (.int p4), .val (.int p5), .val (.int n), .val (.int k), .val (.ref w), .val (.ref a), .val (.ref b82), .unset, .unset] [(.ref b82)])) rfl rfl (hb hby at_115)) ?_
    show Go p e below (T81.setTop (mkF m 116 #[.val (.int p0), .val (.int p1), .val (.int p2), .val (.int p3), .val (.int p4), .val (.int p5), .val (.int n), .val (.int k), .val (.ref w), .val (.ref a), .val (.ref b82), .unset, .unset] [(.int (n - k))])) _
    refine Go.via (fun _ => XS.iload X81.here hx rfl (hb hby at_116) rfl) ?_
    refine Go.via (fun _ => XS.iload X81.here hx rfl (hb hby at_118) rfl) ?_
    refine Go.via (fun _ => XS.isub X81.here hx rfl (hb hby at_120) rfl) ?_
    show Go p e below (T81.setTop (mkF m 121 #[.val (.int p0), .val (.int p1), .val (.int p2), .val (.int p3), .val (.int p4), .val (.int p5), .val (.int n), .val (.int k), .val (.ref w), .val (.ref a), .val (.ref b82), .unset, .unset] [(.int (n - k)), (.int (n - k))])) _
    refine Go.via (fun _ => XS.icmpYes X81.here hx rfl (pc0 := 121) (pc' := 126) rfl (hb hby at_121) rfl (teq (rfl : (n - k) = (n - k))).1 (by decide) (by decide)) ?_
    show Go p e below (T81.setTop (mkF m 126 #[.val (.int p0), .val (.int p1), .val (.int p2), .val (.int p3), .val (.int p4), .val (.int p5), .val (.int n), .val (.int k), .val (.ref w), .val (.ref a), .val (.ref b82), .unset, .unset] [])) _
    refine Go.via (fun _ => XS.aload X81.here hx rfl (hb hby at_126) rfl rfl) ?_
    have f90 : Fld Z T81.heap a "com/example/quicksettle/quicksettle/Records$Writer" "size" "I" (.int sz) := (fs80.keep K81q nin0)
    have z92 : n0 ≤ T81.heap.size := (Nat.le_trans z80 K81q.1)
    have f93 : Exa Z T81.heap a "com/example/quicksettle/quicksettle/Records$Writer" := (fE80.keep K81q)
    obtain ⟨cq91, kq91, q91a, q91b, q91c⟩ := isOf hZ e81 f93
    obtain ⟨_, _, ⟨T91, L91, k91, n91⟩, -, X91, ⟨Lc91, hQ91, l91, y91, z91⟩, st91⟩ := X81.virtualBack hx (y := (⟨"com/example/quicksettle/quicksettle/Records$Writer", "payloadBytes", "()I"⟩ : MethodName)) (z := (⟨"com/example/quicksettle/quicksettle/Records$Writer", "payloadBytes", "()I"⟩ : MethodName)) hown (mvT hZ (tw hw 43 rfl)) (mvT hZ (tw hw 44 rfl)) (notFace_of_selects (args := #[]) (mvT hZ (tw hw 46 rfl))) (mvT hZ (tw hw 46 rfl)) (mvT hZ (tw hw 45 rfl)) (by decide) (backOf (W := 0) (rm9 l Z a0 hw [] a sz T81.heap n0 z92 f90) hZ (tw hw 47 rfl) (tw hw 4 rfl) (by decide) (by decide)) q91a q91c (g := (mkF m 128 #[.val (.int p0), .val (.int p1), .val (.int p2), .val (.int p3), .val (.int p4), .val (.int p5), .val (.int n), .val (.int k), .val (.ref w), .val (.ref a), .val (.ref b82), .unset, .unset] [(.ref a)])) rfl (by rw [hml]; rfl) (Steps.refl _) (argsL := []) (rest := []) (lenOf pd__28_29I rfl) rfl (by show 2 * 0 + _ ≤ _; exact Nat.le_of_eq rfl) (hb hby at_128) (fun _ _ => ⟨rfl, e81, (by decide : 4 + 0 ≤ _), (by decide : 4106 + 0 ≤ _)⟩)
    dsimp only [Pt.U, Pt.locs, Pt.cells, Pt.slots] at X91 l91 y91 z91 st91 hQ91
    subst l91 y91 z91
    obtain ⟨rfl, N91q, eh91⟩ := hQ91
    have N91 := Fr.app N81 N91q
    refine Go.via (fun _ kQ => st91.trans kQ) ?_
    have e91 : T91.heap = T81.heap := eh91
    show Go p e below (T91.setTop (mkF m 131 #[.val (.int p0), .val (.int p1), .val (.int p2), .val (.int p3), .val (.int p4), .val (.int p5), .val (.int n), .val (.int k), .val (.ref w), .val (.ref a), .val (.ref b82), .unset, .unset] [(.int (sz - (12 : Int32)))])) _
    refine Go.via (fun _ => XS.iload X91.here hx rfl (hb hby at_131) rfl) ?_
    refine Go.via (fun _ => XS.icmpYes X91.here hx rfl (pc0 := 133) (pc' := 138) rfl (hb hby at_133) rfl (teq ((own_pb hsz80 hn80) : (sz - (12 : Int32)) = n)).1 (by decide) (by decide)) ?_
    show Go p e below (T91.setTop (mkF m 138 #[.val (.int p0), .val (.int p1), .val (.int p2), .val (.int p3), .val (.int p4), .val (.int p5), .val (.int n), .val (.int k), .val (.ref w), .val (.ref a), .val (.ref b82), .unset, .unset] [])) _
    refine Go.via (fun _ => XS.aload X91.here hx rfl (hb hby at_138) rfl rfl) ?_
    refine Go.via (fun _ => XS.iconst X91.here hx rfl (hb hby at_140)) ?_
    refine Go.via (fun _ => XS.aload X91.here hx rfl (hb hby at_141) rfl rfl) ?_
    refine Go.via (fun _ => XS.iload X91.here hx rfl (hb hby at_143) rfl) ?_
    show Go p e below (T91.setTop (mkF m 145 #[.val (.int p0), .val (.int p1), .val (.int p2), .val (.int p3), .val (.int p4), .val (.int p5), .val (.int n), .val (.int k), .val (.ref w), .val (.ref a), .val (.ref b82), .unset, .unset] [(.int k), (.ref w), (.int (0 : Int32)), (.ref b82)])) _
    have f94 : Ia Z T81.heap w .byte (ps ++ tl) := (fw80.keep K81q nin0)
    obtain ⟨_, _, ⟨T95, L95, k95, n95⟩, -, X95, ⟨Lc95, hQ95, l95, y95, z95⟩, st95⟩ := Jvm.LawKit.callS X91 hx (y := (⟨"com/example/quicksettle/quicksettle/WriterPayloadFromPinLaw", "at", "([BI[BI)Z"⟩ : MethodName)) hown (mvT hZ (tw hw 48 rfl)) (mvT hZ (tw hw 49 rfl)) (mvT hZ (tw hw 50 rfl)) (mvT hZ (tw hw 51 rfl)) (by decide) (backOf (W := 0) (rm10 l Z a0 hw [] b82 (0 : Int32) w k (List.drop (k).toNatClampNeg ps) (ps ++ tl) ((ps ++ tl).getD (k + (0 : Int32)).toNatClampNeg 0) T81.heap n0 z92 f89 f94 (by decide) (own_at (tl := tl) (i := (0 : Int32)) hn80 hl80 h0k80 hk80 (by decide) (by decide)).1 (own_at (tl := tl) (i := (0 : Int32)) hn80 hl80 h0k80 hk80 (by decide) (by decide)).2) hZ (tw hw 51 rfl) (tw hw 50 rfl) (by decide) (by decide)) (g := (mkF m 145 #[.val (.int p0), .val (.int p1), .val (.int p2), .val (.int p3), .val (.int p4), .val (.int p5), .val (.int n), .val (.int k), .val (.ref w), .val (.ref a), .val (.ref b82), .unset, .unset] [(.int k), (.ref w), (.int (0 : Int32)), (.ref b82)])) rfl (by rw [hml]; rfl) (argsL := [(.ref b82), (.int (0 : Int32)), (.ref w), (.int k)]) (rest := []) (lenOf pd__28_5bBI_5bBI_29Z rfl) rfl (by show 2 * 0 + _ ≤ _; exact Nat.le_of_eq rfl) (hb hby at_145) (fun _ _ => ⟨rfl, e91, (by decide : 4 + 0 ≤ _), (by decide : 4106 + 0 ≤ _)⟩)
    dsimp only [Pt.U, Pt.locs, Pt.cells, Pt.slots] at X95 l95 y95 z95 st95 hQ95
    subst l95 y95 z95
    obtain ⟨rfl, N95q, eh95⟩ := hQ95
    have N95 := Fr.app N91 N95q
    refine Go.via (st95) ?_
    have e95 : T95.heap = T81.heap := eh95
    show Go p e below (T95.setTop (mkF m 148 #[.val (.int p0), .val (.int p1), .val (.int p2), .val (.int p3), .val (.int p4), .val (.int p5), .val (.int n), .val (.int k), .val (.ref w), .val (.ref a), .val (.ref b82), .unset, .unset] [(.int (1 : Int32))])) _
    refine Go.via (fun _ => XS.ifNo X95.here hx rfl (hb hby at_148) rfl ((if0 _ _).trans (feq ((by decide) : ¬ ((1 : Int32) = (0 : Int32)))).1)) ?_
    show Go p e below (T95.setTop (mkF m 151 #[.val (.int p0), .val (.int p1), .val (.int p2), .val (.int p3), .val (.int p4), .val (.int p5), .val (.int n), .val (.int k), .val (.ref w), .val (.ref a), .val (.ref b82), .unset, .unset] [])) _
    refine Go.via (fun _ => XS.aload X95.here hx rfl (hb hby at_151) rfl rfl) ?_
    refine Go.via (fun _ => XS.iconst X95.here hx rfl (hb hby at_153)) ?_
    refine Go.via (fun _ => XS.aload X95.here hx rfl (hb hby at_154) rfl rfl) ?_
    refine Go.via (fun _ => XS.iload X95.here hx rfl (hb hby at_156) rfl) ?_
    show Go p e below (T95.setTop (mkF m 158 #[.val (.int p0), .val (.int p1), .val (.int p2), .val (.int p3), .val (.int p4), .val (.int p5), .val (.int n), .val (.int k), .val (.ref w), .val (.ref a), .val (.ref b82), .unset, .unset] [(.int k), (.ref w), (.int (1 : Int32)), (.ref b82)])) _
    obtain ⟨_, _, ⟨T96, L96, k96, n96⟩, -, X96, ⟨Lc96, hQ96, l96, y96, z96⟩, st96⟩ := Jvm.LawKit.callS X95 hx (y := (⟨"com/example/quicksettle/quicksettle/WriterPayloadFromPinLaw", "at", "([BI[BI)Z"⟩ : MethodName)) hown (mvT hZ (tw hw 48 rfl)) (mvT hZ (tw hw 49 rfl)) (mvT hZ (tw hw 50 rfl)) (mvT hZ (tw hw 51 rfl)) (by decide) (backOf (W := 0) (rm10 l Z a0 hw [] b82 (1 : Int32) w k (List.drop (k).toNatClampNeg ps) (ps ++ tl) ((ps ++ tl).getD (k + (1 : Int32)).toNatClampNeg 0) T81.heap n0 z92 f89 f94 (by decide) (own_at (tl := tl) (i := (1 : Int32)) hn80 hl80 h0k80 hk80 (by decide) (by decide)).1 (own_at (tl := tl) (i := (1 : Int32)) hn80 hl80 h0k80 hk80 (by decide) (by decide)).2) hZ (tw hw 51 rfl) (tw hw 50 rfl) (by decide) (by decide)) (g := (mkF m 158 #[.val (.int p0), .val (.int p1), .val (.int p2), .val (.int p3), .val (.int p4), .val (.int p5), .val (.int n), .val (.int k), .val (.ref w), .val (.ref a), .val (.ref b82), .unset, .unset] [(.int k), (.ref w), (.int (1 : Int32)), (.ref b82)])) rfl (by rw [hml]; rfl) (argsL := [(.ref b82), (.int (1 : Int32)), (.ref w), (.int k)]) (rest := []) (lenOf pd__28_5bBI_5bBI_29Z rfl) rfl (by show 2 * 0 + _ ≤ _; exact Nat.le_of_eq rfl) (hb hby at_158) (fun _ _ => ⟨rfl, e95, (by decide : 4 + 0 ≤ _), (by decide : 4106 + 0 ≤ _)⟩)
    dsimp only [Pt.U, Pt.locs, Pt.cells, Pt.slots] at X96 l96 y96 z96 st96 hQ96
    subst l96 y96 z96
    obtain ⟨rfl, N96q, eh96⟩ := hQ96
    have N96 := Fr.app N95 N96q
    refine Go.via (st96) ?_
    have e96 : T96.heap = T81.heap := eh96
    show Go p e below (T96.setTop (mkF m 161 #[.val (.int p0), .val (.int p1), .val (.int p2), .val (.int p3), .val (.int p4), .val (.int p5), .val (.int n), .val (.int k), .val (.ref w), .val (.ref a), .val (.ref b82), .unset, .unset] [(.int (1 : Int32))])) _
    refine Go.via (fun _ => XS.ifNo X96.here hx rfl (hb hby at_161) rfl ((if0 _ _).trans (feq ((by decide) : ¬ ((1 : Int32) = (0 : Int32)))).1)) ?_
    show Go p e below (T96.setTop (mkF m 164 #[.val (.int p0), .val (.int p1), .val (.int p2), .val (.int p3), .val (.int p4), .val (.int p5), .val (.int n), .val (.int k), .val (.ref w), .val (.ref a), .val (.ref b82), .unset, .unset] [])) _
    refine Go.via (fun _ => XS.aload X96.here hx rfl (hb hby at_164) rfl rfl) ?_
    refine Go.via (fun _ => XS.iconst X96.here hx rfl (hb hby at_166)) ?_
    refine Go.via (fun _ => XS.aload X96.here hx rfl (hb hby at_167) rfl rfl) ?_
    refine Go.via (fun _ => XS.iload X96.here hx rfl (hb hby at_169) rfl) ?_
    show Go p e below (T96.setTop (mkF m 171 #[.val (.int p0), .val (.int p1), .val (.int p2), .val (.int p3), .val (.int p4), .val (.int p5), .val (.int n), .val (.int k), .val (.ref w), .val (.ref a), .val (.ref b82), .unset, .unset] [(.int k), (.ref w), (.int (2 : Int32)), (.ref b82)])) _
    obtain ⟨_, _, ⟨T97, L97, k97, n97⟩, -, X97, ⟨Lc97, hQ97, l97, y97, z97⟩, st97⟩ := Jvm.LawKit.callS X96 hx (y := (⟨"com/example/quicksettle/quicksettle/WriterPayloadFromPinLaw", "at", "([BI[BI)Z"⟩ : MethodName)) hown (mvT hZ (tw hw 48 rfl)) (mvT hZ (tw hw 49 rfl)) (mvT hZ (tw hw 50 rfl)) (mvT hZ (tw hw 51 rfl)) (by decide) (backOf (W := 0) (rm10 l Z a0 hw [] b82 (2 : Int32) w k (List.drop (k).toNatClampNeg ps) (ps ++ tl) ((ps ++ tl).getD (k + (2 : Int32)).toNatClampNeg 0) T81.heap n0 z92 f89 f94 (by decide) (own_at (tl := tl) (i := (2 : Int32)) hn80 hl80 h0k80 hk80 (by decide) (by decide)).1 (own_at (tl := tl) (i := (2 : Int32)) hn80 hl80 h0k80 hk80 (by decide) (by decide)).2) hZ (tw hw 51 rfl) (tw hw 50 rfl) (by decide) (by decide)) (g := (mkF m 171 #[.val (.int p0), .val (.int p1), .val (.int p2), .val (.int p3), .val (.int p4), .val (.int p5), .val (.int n), .val (.int k), .val (.ref w), .val (.ref a), .val (.ref b82), .unset, .unset] [(.int k), (.ref w), (.int (2 : Int32)), (.ref b82)])) rfl (by rw [hml]; rfl) (argsL := [(.ref b82), (.int (2 : Int32)), (.ref w), (.int k)]) (rest := []) (lenOf pd__28_5bBI_5bBI_29Z rfl) rfl (by show 2 * 0 + _ ≤ _; exact Nat.le_of_eq rfl) (hb hby at_171) (fun _ _ => ⟨rfl, e96, (by decide : 4 + 0 ≤ _), (by decide : 4106 + 0 ≤ _)⟩)
    dsimp only [Pt.U, Pt.locs, Pt.cells, Pt.slots] at X97 l97 y97 z97 st97 hQ97
    subst l97 y97 z97
    obtain ⟨rfl, N97q, eh97⟩ := hQ97
    have N97 := Fr.app N96 N97q
    refine Go.via (st97) ?_
    have e97 : T97.heap = T81.heap := eh97
    show Go p e below (T97.setTop (mkF m 174 #[.val (.int p0), .val (.int p1), .val (.int p2), .val (.int p3), .val (.int p4), .val (.int p5), .val (.int n), .val (.int k), .val (.ref w), .val (.ref a), .val (.ref b82), .unset, .unset] [(.int (1 : Int32))])) _
    refine Go.via (fun _ => XS.ifNo X97.here hx rfl (hb hby at_174) rfl ((if0 _ _).trans (feq ((by decide) : ¬ ((1 : Int32) = (0 : Int32)))).1)) ?_
    show Go p e below (T97.setTop (mkF m 177 #[.val (.int p0), .val (.int p1), .val (.int p2), .val (.int p3), .val (.int p4), .val (.int p5), .val (.int n), .val (.int k), .val (.ref w), .val (.ref a), .val (.ref b82), .unset, .unset] [])) _
    refine Go.via (fun _ => XS.aload X97.here hx rfl (hb hby at_177) rfl rfl) ?_
    refine Go.via (fun _ => XS.iconst X97.here hx rfl (hb hby at_179)) ?_
    refine Go.via (fun _ => XS.aload X97.here hx rfl (hb hby at_180) rfl rfl) ?_
    refine Go.via (fun _ => XS.iload X97.here hx rfl (hb hby at_182) rfl) ?_
    show Go p e below (T97.setTop (mkF m 184 #[.val (.int p0), .val (.int p1), .val (.int p2), .val (.int p3), .val (.int p4), .val (.int p5), .val (.int n), .val (.int k), .val (.ref w), .val (.ref a), .val (.ref b82), .unset, .unset] [(.int k), (.ref w), (.int (3 : Int32)), (.ref b82)])) _
    obtain ⟨_, _, ⟨T98, L98, k98, n98⟩, -, X98, ⟨Lc98, hQ98, l98, y98, z98⟩, st98⟩ := Jvm.LawKit.callS X97 hx (y := (⟨"com/example/quicksettle/quicksettle/WriterPayloadFromPinLaw", "at", "([BI[BI)Z"⟩ : MethodName)) hown (mvT hZ (tw hw 48 rfl)) (mvT hZ (tw hw 49 rfl)) (mvT hZ (tw hw 50 rfl)) (mvT hZ (tw hw 51 rfl)) (by decide) (backOf (W := 0) (rm10 l Z a0 hw [] b82 (3 : Int32) w k (List.drop (k).toNatClampNeg ps) (ps ++ tl) ((ps ++ tl).getD (k + (3 : Int32)).toNatClampNeg 0) T81.heap n0 z92 f89 f94 (by decide) (own_at (tl := tl) (i := (3 : Int32)) hn80 hl80 h0k80 hk80 (by decide) (by decide)).1 (own_at (tl := tl) (i := (3 : Int32)) hn80 hl80 h0k80 hk80 (by decide) (by decide)).2) hZ (tw hw 51 rfl) (tw hw 50 rfl) (by decide) (by decide)) (g := (mkF m 184 #[.val (.int p0), .val (.int p1), .val (.int p2), .val (.int p3), .val (.int p4), .val (.int p5), .val (.int n), .val (.int k), .val (.ref w), .val (.ref a), .val (.ref b82), .unset, .unset] [(.int k), (.ref w), (.int (3 : Int32)), (.ref b82)])) rfl (by rw [hml]; rfl) (argsL := [(.ref b82), (.int (3 : Int32)), (.ref w), (.int k)]) (rest := []) (lenOf pd__28_5bBI_5bBI_29Z rfl) rfl (by show 2 * 0 + _ ≤ _; exact Nat.le_of_eq rfl) (hb hby at_184) (fun _ _ => ⟨rfl, e97, (by decide : 4 + 0 ≤ _), (by decide : 4106 + 0 ≤ _)⟩)
    dsimp only [Pt.U, Pt.locs, Pt.cells, Pt.slots] at X98 l98 y98 z98 st98 hQ98
    subst l98 y98 z98
    obtain ⟨rfl, N98q, eh98⟩ := hQ98
    have N98 := Fr.app N97 N98q
    refine Go.via (st98) ?_
    have e98 : T98.heap = T81.heap := eh98
    show Go p e below (T98.setTop (mkF m 187 #[.val (.int p0), .val (.int p1), .val (.int p2), .val (.int p3), .val (.int p4), .val (.int p5), .val (.int n), .val (.int k), .val (.ref w), .val (.ref a), .val (.ref b82), .unset, .unset] [(.int (1 : Int32))])) _
    refine Go.via (fun _ => XS.ifNo X98.here hx rfl (hb hby at_187) rfl ((if0 _ _).trans (feq ((by decide) : ¬ ((1 : Int32) = (0 : Int32)))).1)) ?_
    show Go p e below (T98.setTop (mkF m 190 #[.val (.int p0), .val (.int p1), .val (.int p2), .val (.int p3), .val (.int p4), .val (.int p5), .val (.int n), .val (.int k), .val (.ref w), .val (.ref a), .val (.ref b82), .unset, .unset] [])) _
    refine Go.via (fun _ => XS.iconst X98.here hx rfl (hb hby at_190)) ?_
    refine Go.via (fun _ => XS.goto X98.here hx rfl (pc0 := 191) (pc' := 195) rfl (hb hby at_191) (by decide) (by decide)) ?_
    refine Go.via (fun _ => XS.istore X98.here hx rfl (hb hby at_195) rfl (l' := #[.val (.int p0), .val (.int p1), .val (.int p2), .val (.int p3), .val (.int p4), .val (.int p5), .val (.int n), .val (.int k), .val (.ref w), .val (.ref a), .val (.ref b82), .val (.int (1 : Int32)), .unset]) rfl) ?_
    show Go p e below (T98.setTop (mkF m 197 #[.val (.int p0), .val (.int p1), .val (.int p2), .val (.int p3), .val (.int p4), .val (.int p5), .val (.int n), .val (.int k), .val (.ref w), .val (.ref a), .val (.ref b82), .val (.int (1 : Int32)), .unset] [])) _
    refine Go.via (fun _ => XS.iload X98.here hx rfl (hb hby at_197) rfl) ?_
    refine Go.via (fun _ => XS.ifYes X98.here hx rfl (pc0 := 199) (pc' := 204) rfl (hb hby at_199) rfl ((if0 _ _).trans (feq ((by decide) : ¬ ((1 : Int32) = (0 : Int32)))).2) (by decide) (by decide)) ?_
    show Go p e below (T98.setTop (mkF m 204 #[.val (.int p0), .val (.int p1), .val (.int p2), .val (.int p3), .val (.int p4), .val (.int p5), .val (.int n), .val (.int k), .val (.ref w), .val (.ref a), .val (.ref b82), .val (.int (1 : Int32)), .unset] [])) _
    refine Go.via (fun _ => XS.aload X98.here hx rfl (hb hby at_204) rfl rfl) ?_
    refine Go.via (lenI X98 hx hZ e98 f89 (n := (n - k)) (own_rl hn80 hl80 h0k80 hk80) (g := (mkF m 206 #[.val (.int p0), .val (.int p1), .val (.int p2), .val (.int p3), .val (.int p4), .val (.int p5), .val (.int n), .val (.int k), .val (.ref w), .val (.ref a), .val (.ref b82), .val (.int (1 : Int32)), .unset] [(.ref b82)])) rfl rfl (hb hby at_206)) ?_
    show Go p e below (T98.setTop (mkF m 207 #[.val (.int p0), .val (.int p1), .val (.int p2), .val (.int p3), .val (.int p4), .val (.int p5), .val (.int n), .val (.int k), .val (.ref w), .val (.ref a), .val (.ref b82), .val (.int (1 : Int32)), .unset] [(.int (n - k))])) _
    by_cases hc99 : (0 : Int32) < (n - k)
    · refine Go.via (fun _ => XS.ifNo X98.here hx rfl (hb hby at_207) rfl ((if0 _ _).trans (tlt (hc99 : (0 : Int32) < (n - k))).2.2.2)) ?_
      show Go p e below (T98.setTop (mkF m 210 #[.val (.int p0), .val (.int p1), .val (.int p2), .val (.int p3), .val (.int p4), .val (.int p5), .val (.int n), .val (.int k), .val (.ref w), .val (.ref a), .val (.ref b82), .val (.int (1 : Int32)), .unset] [])) _
      refine Go.via (fun _ => XS.aload X98.here hx rfl (hb hby at_210) rfl rfl) ?_
      refine Go.via (fun _ => XS.iconst X98.here hx rfl (hb hby at_212)) ?_
      refine Go.via (fun _ => XS.aload X98.here hx rfl (hb hby at_213) rfl rfl) ?_
      refine Go.via (fun _ => XS.iconst X98.here hx rfl (hb hby at_215)) ?_
      show Go p e below (T98.setTop (mkF m 216 #[.val (.int p0), .val (.int p1), .val (.int p2), .val (.int p3), .val (.int p4), .val (.int p5), .val (.int n), .val (.int k), .val (.ref w), .val (.ref a), .val (.ref b82), .val (.int (1 : Int32)), .unset] [(.int (0 : Int32)), (.ref b82), (.int (0 : Int32)), (.ref b82)])) _
      refine Go.via (ldB X98 hx hZ e98 f89 (v := ((ps ++ tl).getD k.toNatClampNeg 0)) (by decide) (own_hd (tl := tl) (own_pos hn80 h0k80 hk80 (by assumption))).1 (g := (mkF m 216 #[.val (.int p0), .val (.int p1), .val (.int p2), .val (.int p3), .val (.int p4), .val (.int p5), .val (.int n), .val (.int k), .val (.ref w), .val (.ref a), .val (.ref b82), .val (.int (1 : Int32)), .unset] [(.int (0 : Int32)), (.ref b82), (.int (0 : Int32)), (.ref b82)])) rfl rfl (hb hby at_216)) ?_
      show Go p e below (T98.setTop (mkF m 217 #[.val (.int p0), .val (.int p1), .val (.int p2), .val (.int p3), .val (.int p4), .val (.int p5), .val (.int n), .val (.int k), .val (.ref w), .val (.ref a), .val (.ref b82), .val (.int (1 : Int32)), .unset] [(.int ((ps ++ tl).getD k.toNatClampNeg 0)), (.int (0 : Int32)), (.ref b82)])) _
      refine Go.via (fun _ => XS.iconst X98.here hx rfl (hb hby at_217)) ?_
      refine Go.via (fun _ => XS.iadd X98.here hx rfl (hb hby at_218) rfl) ?_
      show Go p e below (T98.setTop (mkF m 219 #[.val (.int p0), .val (.int p1), .val (.int p2), .val (.int p3), .val (.int p4), .val (.int p5), .val (.int n), .val (.int k), .val (.ref w), .val (.ref a), .val (.ref b82), .val (.int (1 : Int32)), .unset] [(.int (((ps ++ tl).getD k.toNatClampNeg 0) + (1 : Int32))), (.int (0 : Int32)), (.ref b82)])) _
      refine Go.via (fun _ => XS.i2b X98.here hx rfl (hb hby at_219) rfl) ?_
      show Go p e below (T98.setTop (mkF m 220 #[.val (.int p0), .val (.int p1), .val (.int p2), .val (.int p3), .val (.int p4), .val (.int p5), .val (.int n), .val (.int k), .val (.ref w), .val (.ref a), .val (.ref b82), .val (.int (1 : Int32)), .unset] [(.int ((((ps ++ tl).getD k.toNatClampNeg 0) + (1 : Int32)).toInt8.toInt32)), (.int (0 : Int32)), (.ref b82)])) _
      obtain ⟨T100, h100, X100, e100, W100, V100, st100⟩ := stB' X98 hx hZ e98 f89 (j := (0 : Int32)) (by decide) (lt_of_at (own_hd (tl := tl) (own_pos hn80 h0k80 hk80 (by assumption))).1) (g := (mkF m 220 #[.val (.int p0), .val (.int p1), .val (.int p2), .val (.int p3), .val (.int p4), .val (.int p5), .val (.int n), .val (.int k), .val (.ref w), .val (.ref a), .val (.ref b82), .val (.int (1 : Int32)), .unset] [(.int ((((ps ++ tl).getD k.toNatClampNeg 0) + (1 : Int32)).toInt8.toInt32)), (.int (0 : Int32)), (.ref b82)])) rfl rfl (hb hby at_220)
      refine Go.via (st100) ?_
      have N100 := Fr.snoc X100 N98 ge87
      have f101 : Ia Z h100 b82 .byte (List.set (List.drop (k).toNatClampNeg ps) ((0 : Int32)).toNatClampNeg (nar .byte ((((ps ++ tl).getD k.toNatClampNeg 0) + (1 : Int32)).toInt8.toInt32))) := V100
      show Go p e below (T100.setTop (mkF m 221 #[.val (.int p0), .val (.int p1), .val (.int p2), .val (.int p3), .val (.int p4), .val (.int p5), .val (.int n), .val (.int k), .val (.ref w), .val (.ref a), .val (.ref b82), .val (.int (1 : Int32)), .unset] [])) _
      refine Go.via (fun _ => XS.aload X100.here hx rfl (hb hby at_221) rfl rfl) ?_
      refine Go.via (fun _ => XS.iload X100.here hx rfl (hb hby at_223) rfl) ?_
      have f102 : Fld Z h100 a "com/example/quicksettle/quicksettle/Records$Writer" "bytes" "[B" (.ref b) := ((fb80.keep K81q nin0).other W100 (Or.inl ne84))
      have f103 : Fld Z h100 a "com/example/quicksettle/quicksettle/Records$Writer" "size" "I" (.int sz) := (f90.other W100 (Or.inl ne84))
      have f104 : Ia Z h100 b .byte xs := ((fA80.keep K81q nin0).other W100 ne85)
      have z106 : n0 ≤ h100.size := (Nat.le_trans z92 (Keep.of_wr W100).1)
      have f107 : Exa Z h100 a "com/example/quicksettle/quicksettle/Records$Writer" := (f93.wr W100)
      obtain ⟨cq105, kq105, q105a, q105b, q105c⟩ := isOf hZ e100 f107
      obtain ⟨_, _, ⟨T105, L105, k105, n105⟩, -, X105, ⟨Lc105, hQ105, l105, y105, z105⟩, st105⟩ := X100.virtualBack hx (y := (⟨"com/example/quicksettle/quicksettle/Records$Writer", "payloadFrom", "(I)[B"⟩ : MethodName)) (z := (⟨"com/example/quicksettle/quicksettle/Records$Writer", "payloadFrom", "(I)[B"⟩ : MethodName)) hown (mvT hZ (tw hw 20 rfl)) (mvT hZ (tw hw 21 rfl)) (notFace_of_selects (args := #[]) (mvT hZ (tw hw 23 rfl))) (mvT hZ (tw hw 23 rfl)) (mvT hZ (tw hw 22 rfl)) (by decide) (backOf (W := 0) (rm4 l Z a0 hw [] a k b xs sz ps h100 n0 z106 f102 f103 f104 hp80 hsz80 h0k80 hk80 hl80) hZ (tw hw 24 rfl) (tw hw 4 rfl) (by decide) (by decide)) q105a q105c (g := (mkF m 225 #[.val (.int p0), .val (.int p1), .val (.int p2), .val (.int p3), .val (.int p4), .val (.int p5), .val (.int n), .val (.int k), .val (.ref w), .val (.ref a), .val (.ref b82), .val (.int (1 : Int32)), .unset] [(.int k), (.ref a)])) rfl (by rw [hml]; rfl) (Steps.refl _) (argsL := [(.int k)]) (rest := []) (lenOf pd__28I_29_5bB rfl) rfl (by show 2 * 0 + _ ≤ _; exact Nat.le_of_eq rfl) (hb hby at_225) (fun _ _ => ⟨rfl, e100, (by decide : 4 + 1 ≤ _), (by decide : 4106 + 4 ≤ _)⟩)
      dsimp only [Pt.U, Pt.locs, Pt.cells, Pt.slots] at X105 l105 y105 z105 st105 hQ105
      subst l105 y105 z105
      obtain ⟨b108, rfl, N105q, K105q, fz_b108, f109⟩ := hQ105
      have N105 := Fr.app N100 N105q
      refine Go.via (fun _ kQ => st105.trans kQ) ?_
      have ne110 : a ≠ b108 := Nat.ne_of_lt (Nat.lt_of_lt_of_le f107.lt fz_b108)
      have ne111 : b ≠ b108 := Nat.ne_of_lt (Nat.lt_of_lt_of_le f104.lt fz_b108)
      have ne112 : b82 ≠ b108 := Nat.ne_of_lt (Nat.lt_of_lt_of_le f101.lt fz_b108)
      have f113 : Ia Z h100 w .byte (ps ++ tl) := (f94.other W100 ne86)
      have ne114 : w ≠ b108 := Nat.ne_of_lt (Nat.lt_of_lt_of_le f113.lt fz_b108)
      have ge115 : n0 ≤ b108 := Nat.le_trans z106 fz_b108
      have k117 : Keep h0 h100 [] := ((k80.trans K81q all0).wr W100 (Or.inr sz88))
      have sz116 : h0.size ≤ b108 := Nat.le_trans k117.1 fz_b108
      have e105 : T105.heap = T105.heap := rfl
      have f118 : Ia Z T105.heap b108 .byte (List.drop (k).toNatClampNeg ps) := f109
      show Go p e below (T105.setTop (mkF m 228 #[.val (.int p0), .val (.int p1), .val (.int p2), .val (.int p3), .val (.int p4), .val (.int p5), .val (.int n), .val (.int k), .val (.ref w), .val (.ref a), .val (.ref b82), .val (.int (1 : Int32)), .unset] [(.ref b108)])) _
      refine Go.via (fun _ => XS.astore X105.here hx rfl (hb hby at_228) rfl rfl (l' := #[.val (.int p0), .val (.int p1), .val (.int p2), .val (.int p3), .val (.int p4), .val (.int p5), .val (.int n), .val (.int k), .val (.ref w), .val (.ref a), .val (.ref b82), .val (.int (1 : Int32)), .val (.ref b108)]) rfl) ?_
      show Go p e below (T105.setTop (mkF m 230 #[.val (.int p0), .val (.int p1), .val (.int p2), .val (.int p3), .val (.int p4), .val (.int p5), .val (.int n), .val (.int k), .val (.ref w), .val (.ref a), .val (.ref b82), .val (.int (1 : Int32)), .val (.ref b108)] [])) _
      refine Go.via (fun _ => XS.aload X105.here hx rfl (hb hby at_230) rfl rfl) ?_
      refine Go.via (lenI X105 hx hZ e105 f118 (n := (n - k)) (own_rl hn80 hl80 h0k80 hk80) (g := (mkF m 232 #[.val (.int p0), .val (.int p1), .val (.int p2), .val (.int p3), .val (.int p4), .val (.int p5), .val (.int n), .val (.int k), .val (.ref w), .val (.ref a), .val (.ref b82), .val (.int (1 : Int32)), .val (.ref b108)] [(.ref b108)])) rfl rfl (hb hby at_232)) ?_
      show Go p e below (T105.setTop (mkF m 233 #[.val (.int p0), .val (.int p1), .val (.int p2), .val (.int p3), .val (.int p4), .val (.int p5), .val (.int n), .val (.int k), .val (.ref w), .val (.ref a), .val (.ref b82), .val (.int (1 : Int32)), .val (.ref b108)] [(.int (n - k))])) _
      refine Go.via (fun _ => XS.iload X105.here hx rfl (hb hby at_233) rfl) ?_
      refine Go.via (fun _ => XS.iload X105.here hx rfl (hb hby at_235) rfl) ?_
      refine Go.via (fun _ => XS.isub X105.here hx rfl (hb hby at_237) rfl) ?_
      show Go p e below (T105.setTop (mkF m 238 #[.val (.int p0), .val (.int p1), .val (.int p2), .val (.int p3), .val (.int p4), .val (.int p5), .val (.int n), .val (.int k), .val (.ref w), .val (.ref a), .val (.ref b82), .val (.int (1 : Int32)), .val (.ref b108)] [(.int (n - k)), (.int (n - k))])) _
      refine Go.via (fun _ => XS.icmpNo X105.here hx rfl (hb hby at_238) rfl (teq (rfl : (n - k) = (n - k))).2) ?_
      show Go p e below (T105.setTop (mkF m 241 #[.val (.int p0), .val (.int p1), .val (.int p2), .val (.int p3), .val (.int p4), .val (.int p5), .val (.int n), .val (.int k), .val (.ref w), .val (.ref a), .val (.ref b82), .val (.int (1 : Int32)), .val (.ref b108)] [])) _
      refine Go.via (fun _ => XS.aload X105.here hx rfl (hb hby at_241) rfl rfl) ?_
      refine Go.via (fun _ => XS.iconst X105.here hx rfl (hb hby at_243)) ?_
      refine Go.via (ldB X105 hx hZ e105 f118 (v := ((ps ++ tl).getD k.toNatClampNeg 0)) (by decide) (own_hd (tl := tl) (own_pos hn80 h0k80 hk80 (by assumption))).1 (g := (mkF m 244 #[.val (.int p0), .val (.int p1), .val (.int p2), .val (.int p3), .val (.int p4), .val (.int p5), .val (.int n), .val (.int k), .val (.ref w), .val (.ref a), .val (.ref b82), .val (.int (1 : Int32)), .val (.ref b108)] [(.int (0 : Int32)), (.ref b108)])) rfl rfl (hb hby at_244)) ?_
      show Go p e below (T105.setTop (mkF m 245 #[.val (.int p0), .val (.int p1), .val (.int p2), .val (.int p3), .val (.int p4), .val (.int p5), .val (.int n), .val (.int k), .val (.ref w), .val (.ref a), .val (.ref b82), .val (.int (1 : Int32)), .val (.ref b108)] [(.int ((ps ++ tl).getD k.toNatClampNeg 0))])) _
      refine Go.via (fun _ => XS.aload X105.here hx rfl (hb hby at_245) rfl rfl) ?_
      refine Go.via (fun _ => XS.iload X105.here hx rfl (hb hby at_247) rfl) ?_
      have f119 : Ia Z T105.heap w .byte (ps ++ tl) := (f113.keep K105q nin0)
      refine Go.via (ldB X105 hx hZ e105 f119 (v := ((ps ++ tl).getD k.toNatClampNeg 0)) h0k80 (own_hd (tl := tl) (own_pos hn80 h0k80 hk80 (by assumption))).2 (g := (mkF m 249 #[.val (.int p0), .val (.int p1), .val (.int p2), .val (.int p3), .val (.int p4), .val (.int p5), .val (.int n), .val (.int k), .val (.ref w), .val (.ref a), .val (.ref b82), .val (.int (1 : Int32)), .val (.ref b108)] [(.int k), (.ref w), (.int ((ps ++ tl).getD k.toNatClampNeg 0))])) rfl rfl (hb hby at_249)) ?_
      show Go p e below (T105.setTop (mkF m 250 #[.val (.int p0), .val (.int p1), .val (.int p2), .val (.int p3), .val (.int p4), .val (.int p5), .val (.int n), .val (.int k), .val (.ref w), .val (.ref a), .val (.ref b82), .val (.int (1 : Int32)), .val (.ref b108)] [(.int ((ps ++ tl).getD k.toNatClampNeg 0)), (.int ((ps ++ tl).getD k.toNatClampNeg 0))])) _
      refine Go.via (fun _ => XS.icmpYes X105.here hx rfl (pc0 := 250) (pc' := 255) rfl (hb hby at_250) rfl (teq (rfl : ((ps ++ tl).getD k.toNatClampNeg 0) = ((ps ++ tl).getD k.toNatClampNeg 0))).1 (by decide) (by decide)) ?_
      show Go p e below (T105.setTop (mkF m 255 #[.val (.int p0), .val (.int p1), .val (.int p2), .val (.int p3), .val (.int p4), .val (.int p5), .val (.int n), .val (.int k), .val (.ref w), .val (.ref a), .val (.ref b82), .val (.int (1 : Int32)), .val (.ref b108)] [])) _
      refine Go.via (fun _ => XS.iconst X105.here hx rfl (hb hby at_255)) ?_
      have k120 : Keep h0 T105.heap [] := (k117.trans K105q all0)
      exact Go.fin X105 hlk (v := some (.int (1 : Int32))) (fun h => by rw [Bd.returns] at h; cases h) (fun fs hr => retN X105 hx (t := .boolean) Bd.returns (by simp) (hb hby at_256) hr) (by exact ⟨rfl, N105, k120⟩) (by decide) (by decide)
    · refine Go.via (fun _ => XS.ifYes X98.here hx rfl (pc0 := 207) (pc' := 255) rfl (hb hby at_207) rfl ((if0 _ _).trans (flt (hc99 : ¬ ((0 : Int32) < (n - k)))).2.2.2) (by decide) (by decide)) ?_
      show Go p e below (T98.setTop (mkF m 255 #[.val (.int p0), .val (.int p1), .val (.int p2), .val (.int p3), .val (.int p4), .val (.int p5), .val (.int n), .val (.int k), .val (.ref w), .val (.ref a), .val (.ref b82), .val (.int (1 : Int32)), .unset] [])) _
      refine Go.via (fun _ => XS.iconst X98.here hx rfl (hb hby at_255)) ?_
      have k121 : Keep h0 T81.heap [] := (k80.trans K81q all0)
      exact Go.fin X98 hlk (v := some (.int (1 : Int32))) (fun h => by rw [Bd.returns] at h; cases h) (fun fs hr => retN X98 hx (t := .boolean) Bd.returns (by simp) (hb hby at_256) hr) (by rw [e98]; exact ⟨rfl, N98, k121⟩) (by decide) (by decide)
  show Go p e below (s₁.setTop (mkF m 0 #[.val (.int p0), .val (.int p1), .val (.int p2), .val (.int p3), .val (.int p4), .val (.int p5), .unset, .unset, .unset, .unset, .unset, .unset, .unset] [])) _
  refine Go.via (fun _ => XS.iloadN X0.here hx rfl (hb hby at_0) rfl) ?_
  refine Go.via (X0.ldcInt hx hown (mvT hZ (tw hw 0 rfl)) (g := (mkF m 1 #[.val (.int p0), .val (.int p1), .val (.int p2), .val (.int p3), .val (.int p4), .val (.int p5), .unset, .unset, .unset, .unset, .unset, .unset, .unset] [(.int p0)])) rfl (hb hby at_1)) ?_
  show Go p e below (s₁.setTop (mkF m 3 #[.val (.int p0), .val (.int p1), .val (.int p2), .val (.int p3), .val (.int p4), .val (.int p5), .unset, .unset, .unset, .unset, .unset, .unset, .unset] [(.int (2147483647 : Int32)), (.int p0)])) _
  refine Go.via (fun _ => XS.iand X0.here hx rfl (hb hby at_3) rfl) ?_
  show Go p e below (s₁.setTop (mkF m 4 #[.val (.int p0), .val (.int p1), .val (.int p2), .val (.int p3), .val (.int p4), .val (.int p5), .unset, .unset, .unset, .unset, .unset, .unset, .unset] [(.int (p0 &&& (2147483647 : Int32)))])) _
  refine Go.via (fun _ => XS.iconst X0.here hx rfl (hb hby at_4)) ?_
  refine Go.via (fun _ => iremM X0 hx rfl (hb hby at_5) rfl (by decide)) ?_
  show Go p e below (s₁.setTop (mkF m 6 #[.val (.int p0), .val (.int p1), .val (.int p2), .val (.int p3), .val (.int p4), .val (.int p5), .unset, .unset, .unset, .unset, .unset, .unset, .unset] [(.int ((p0 &&& (2147483647 : Int32)) % (5 : Int32)))])) _
  obtain ⟨n, hn0, hn⟩ := own_n p0
  rw [hn0]
  show Go p e below (s₁.setTop (mkF m 6 #[.val (.int p0), .val (.int p1), .val (.int p2), .val (.int p3), .val (.int p4), .val (.int p5), .unset, .unset, .unset, .unset, .unset, .unset, .unset] [(.int n)])) _
  refine Go.via (fun _ => XS.istore X0.here hx rfl (hb hby at_6) rfl (l' := #[.val (.int p0), .val (.int p1), .val (.int p2), .val (.int p3), .val (.int p4), .val (.int p5), .val (.int n), .unset, .unset, .unset, .unset, .unset, .unset]) rfl) ?_
  show Go p e below (s₁.setTop (mkF m 8 #[.val (.int p0), .val (.int p1), .val (.int p2), .val (.int p3), .val (.int p4), .val (.int p5), .val (.int n), .unset, .unset, .unset, .unset, .unset, .unset] [])) _
  refine Go.via (fun _ => XS.iloadN X0.here hx rfl (hb hby at_8) rfl) ?_
  refine Go.via (X0.ldcInt hx hown (mvT hZ (tw hw 0 rfl)) (g := (mkF m 9 #[.val (.int p0), .val (.int p1), .val (.int p2), .val (.int p3), .val (.int p4), .val (.int p5), .val (.int n), .unset, .unset, .unset, .unset, .unset, .unset] [(.int p1)])) rfl (hb hby at_9)) ?_
  show Go p e below (s₁.setTop (mkF m 11 #[.val (.int p0), .val (.int p1), .val (.int p2), .val (.int p3), .val (.int p4), .val (.int p5), .val (.int n), .unset, .unset, .unset, .unset, .unset, .unset] [(.int (2147483647 : Int32)), (.int p1)])) _
  refine Go.via (fun _ => XS.iand X0.here hx rfl (hb hby at_11) rfl) ?_
  show Go p e below (s₁.setTop (mkF m 12 #[.val (.int p0), .val (.int p1), .val (.int p2), .val (.int p3), .val (.int p4), .val (.int p5), .val (.int n), .unset, .unset, .unset, .unset, .unset, .unset] [(.int (p1 &&& (2147483647 : Int32)))])) _
  refine Go.via (fun _ => XS.iload X0.here hx rfl (hb hby at_12) rfl) ?_
  refine Go.via (fun _ => XS.iconst X0.here hx rfl (hb hby at_14)) ?_
  refine Go.via (fun _ => XS.iadd X0.here hx rfl (hb hby at_15) rfl) ?_
  show Go p e below (s₁.setTop (mkF m 16 #[.val (.int p0), .val (.int p1), .val (.int p2), .val (.int p3), .val (.int p4), .val (.int p5), .val (.int n), .unset, .unset, .unset, .unset, .unset, .unset] [(.int (n + (1 : Int32))), (.int (p1 &&& (2147483647 : Int32)))])) _
  refine Go.via (fun _ => iremM X0 hx rfl (hb hby at_16) rfl (own_k p1 n (own_nr hn).1 (own_nr hn).2).2.2) ?_
  show Go p e below (s₁.setTop (mkF m 17 #[.val (.int p0), .val (.int p1), .val (.int p2), .val (.int p3), .val (.int p4), .val (.int p5), .val (.int n), .unset, .unset, .unset, .unset, .unset, .unset] [(.int ((p1 &&& (2147483647 : Int32)) % (n + (1 : Int32))))])) _
  refine Go.via (fun _ => XS.istore X0.here hx rfl (hb hby at_17) rfl (l' := #[.val (.int p0), .val (.int p1), .val (.int p2), .val (.int p3), .val (.int p4), .val (.int p5), .val (.int n), .val (.int ((p1 &&& (2147483647 : Int32)) % (n + (1 : Int32)))), .unset, .unset, .unset, .unset, .unset]) rfl) ?_
  show Go p e below (s₁.setTop (mkF m 19 #[.val (.int p0), .val (.int p1), .val (.int p2), .val (.int p3), .val (.int p4), .val (.int p5), .val (.int n), .val (.int ((p1 &&& (2147483647 : Int32)) % (n + (1 : Int32)))), .unset, .unset, .unset, .unset, .unset] [])) _
  generalize hk : ((p1 &&& (2147483647 : Int32)) % (n + (1 : Int32))) = k
  show Go p e below (s₁.setTop (mkF m 19 #[.val (.int p0), .val (.int p1), .val (.int p2), .val (.int p3), .val (.int p4), .val (.int p5), .val (.int n), .val (.int k), .unset, .unset, .unset, .unset, .unset] [])) _
  rcases hn with rfl | rfl | rfl | rfl | rfl
  · have hkk := own_k p1 (0 : Int32) (by decide) (by decide)
    rw [hk] at hkk
    show Go p e below (s₁.setTop (mkF m 19 #[.val (.int p0), .val (.int p1), .val (.int p2), .val (.int p3), .val (.int p4), .val (.int p5), .val (.int (0 : Int32)), .val (.int k), .unset, .unset, .unset, .unset, .unset] [])) _
    refine Go.via (fun _ => XS.iconst X0.here hx rfl (hb hby at_19)) ?_
    obtain ⟨T122, h122, k122, X122, e122, E122, A122, B122, st122⟩ := newPE X0 hx hZ (tw hw 1 rfl) e0 (g := (mkF m 20 #[.val (.int p0), .val (.int p1), .val (.int p2), .val (.int p3), .val (.int p4), .val (.int p5), .val (.int (0 : Int32)), .val (.int k), .unset, .unset, .unset, .unset, .unset] [(.int (4 : Int32))])) rfl (hb hby at_20) rfl (by decide) (cap := 4) (by decide) (by decide) (by decide) (by decide) (ad := "[B") (by decide)
    obtain ⟨b122, g122⟩ : ∃ z, z = h0.size := ⟨_, rfl⟩
    rw [← g122] at A122 B122 st122
    have ge123 : n0 ≤ b122 := Nat.le_trans Z0 (Nat.le_of_eq g122.symm)
    have sz124 : h0.size ≤ b122 := Nat.le_trans (Keep.refl h0 []).1 (Nat.le_of_eq g122.symm)
    refine Go.via (st122) ?_
    have f125 : Ia Z h122 b122 .byte [(0 : Int32), (0 : Int32), (0 : Int32), (0 : Int32)] := Ia.new A122 rfl
    show Go p e below (T122.setTop (mkF m 22 #[.val (.int p0), .val (.int p1), .val (.int p2), .val (.int p3), .val (.int p4), .val (.int p5), .val (.int (0 : Int32)), .val (.int k), .unset, .unset, .unset, .unset, .unset] [(.ref b122)])) _
    refine Go.via (fun _ => XS.dup X122.here hx rfl (hb hby at_22) rfl rfl) ?_
    refine Go.via (fun _ => XS.iconst X122.here hx rfl (hb hby at_23)) ?_
    refine Go.via (fun _ => XS.iloadN X122.here hx rfl (hb hby at_24) rfl) ?_
    refine Go.via (fun _ => XS.i2b X122.here hx rfl (hb hby at_25) rfl) ?_
    show Go p e below (T122.setTop (mkF m 26 #[.val (.int p0), .val (.int p1), .val (.int p2), .val (.int p3), .val (.int p4), .val (.int p5), .val (.int (0 : Int32)), .val (.int k), .unset, .unset, .unset, .unset, .unset] [(.int (p2.toInt8.toInt32)), (.int (0 : Int32)), (.ref b122), (.ref b122)])) _
    obtain ⟨T126, h126, X126, e126, W126, V126, st126⟩ := stB' X122 hx hZ e122 f125 (j := (0 : Int32)) (by decide) (by first | decide | (simp only [List.length_cons, List.length_nil]; decide) | rfl) (g := (mkF m 26 #[.val (.int p0), .val (.int p1), .val (.int p2), .val (.int p3), .val (.int p4), .val (.int p5), .val (.int (0 : Int32)), .val (.int k), .unset, .unset, .unset, .unset, .unset] [(.int (p2.toInt8.toInt32)), (.int (0 : Int32)), (.ref b122), (.ref b122)])) rfl rfl (hb hby at_26)
    refine Go.via (st126) ?_
    have N126 := Fr.snoc X126 N0 ge123
    have f127 : Ia Z h126 b122 .byte [(nar .byte (p2.toInt8.toInt32)), (0 : Int32), (0 : Int32), (0 : Int32)] := V126
    show Go p e below (T126.setTop (mkF m 27 #[.val (.int p0), .val (.int p1), .val (.int p2), .val (.int p3), .val (.int p4), .val (.int p5), .val (.int (0 : Int32)), .val (.int k), .unset, .unset, .unset, .unset, .unset] [(.ref b122)])) _
    refine Go.via (fun _ => XS.dup X126.here hx rfl (hb hby at_27) rfl rfl) ?_
    refine Go.via (fun _ => XS.iconst X126.here hx rfl (hb hby at_28)) ?_
    refine Go.via (fun _ => XS.iloadN X126.here hx rfl (hb hby at_29) rfl) ?_
    refine Go.via (fun _ => XS.i2b X126.here hx rfl (hb hby at_30) rfl) ?_
    show Go p e below (T126.setTop (mkF m 31 #[.val (.int p0), .val (.int p1), .val (.int p2), .val (.int p3), .val (.int p4), .val (.int p5), .val (.int (0 : Int32)), .val (.int k), .unset, .unset, .unset, .unset, .unset] [(.int (p3.toInt8.toInt32)), (.int (1 : Int32)), (.ref b122), (.ref b122)])) _
    obtain ⟨T128, h128, X128, e128, W128, V128, st128⟩ := stB' X126 hx hZ e126 f127 (j := (1 : Int32)) (by decide) (by first | decide | (simp only [List.length_cons, List.length_nil]; decide) | rfl) (g := (mkF m 31 #[.val (.int p0), .val (.int p1), .val (.int p2), .val (.int p3), .val (.int p4), .val (.int p5), .val (.int (0 : Int32)), .val (.int k), .unset, .unset, .unset, .unset, .unset] [(.int (p3.toInt8.toInt32)), (.int (1 : Int32)), (.ref b122), (.ref b122)])) rfl rfl (hb hby at_31)
    refine Go.via (st128) ?_
    have N128 := Fr.snoc X128 N126 ge123
    have f129 : Ia Z h128 b122 .byte [(nar .byte (p2.toInt8.toInt32)), (nar .byte (p3.toInt8.toInt32)), (0 : Int32), (0 : Int32)] := V128
    show Go p e below (T128.setTop (mkF m 32 #[.val (.int p0), .val (.int p1), .val (.int p2), .val (.int p3), .val (.int p4), .val (.int p5), .val (.int (0 : Int32)), .val (.int k), .unset, .unset, .unset, .unset, .unset] [(.ref b122)])) _
    refine Go.via (fun _ => XS.dup X128.here hx rfl (hb hby at_32) rfl rfl) ?_
    refine Go.via (fun _ => XS.iconst X128.here hx rfl (hb hby at_33)) ?_
    refine Go.via (fun _ => XS.iload X128.here hx rfl (hb hby at_34) rfl) ?_
    refine Go.via (fun _ => XS.i2b X128.here hx rfl (hb hby at_36) rfl) ?_
    show Go p e below (T128.setTop (mkF m 37 #[.val (.int p0), .val (.int p1), .val (.int p2), .val (.int p3), .val (.int p4), .val (.int p5), .val (.int (0 : Int32)), .val (.int k), .unset, .unset, .unset, .unset, .unset] [(.int (p4.toInt8.toInt32)), (.int (2 : Int32)), (.ref b122), (.ref b122)])) _
    obtain ⟨T130, h130, X130, e130, W130, V130, st130⟩ := stB' X128 hx hZ e128 f129 (j := (2 : Int32)) (by decide) (by first | decide | (simp only [List.length_cons, List.length_nil]; decide) | rfl) (g := (mkF m 37 #[.val (.int p0), .val (.int p1), .val (.int p2), .val (.int p3), .val (.int p4), .val (.int p5), .val (.int (0 : Int32)), .val (.int k), .unset, .unset, .unset, .unset, .unset] [(.int (p4.toInt8.toInt32)), (.int (2 : Int32)), (.ref b122), (.ref b122)])) rfl rfl (hb hby at_37)
    refine Go.via (st130) ?_
    have N130 := Fr.snoc X130 N128 ge123
    have f131 : Ia Z h130 b122 .byte [(nar .byte (p2.toInt8.toInt32)), (nar .byte (p3.toInt8.toInt32)), (nar .byte (p4.toInt8.toInt32)), (0 : Int32)] := V130
    show Go p e below (T130.setTop (mkF m 38 #[.val (.int p0), .val (.int p1), .val (.int p2), .val (.int p3), .val (.int p4), .val (.int p5), .val (.int (0 : Int32)), .val (.int k), .unset, .unset, .unset, .unset, .unset] [(.ref b122)])) _
    refine Go.via (fun _ => XS.dup X130.here hx rfl (hb hby at_38) rfl rfl) ?_
    refine Go.via (fun _ => XS.iconst X130.here hx rfl (hb hby at_39)) ?_
    refine Go.via (fun _ => XS.iload X130.here hx rfl (hb hby at_40) rfl) ?_
    refine Go.via (fun _ => XS.i2b X130.here hx rfl (hb hby at_42) rfl) ?_
    show Go p e below (T130.setTop (mkF m 43 #[.val (.int p0), .val (.int p1), .val (.int p2), .val (.int p3), .val (.int p4), .val (.int p5), .val (.int (0 : Int32)), .val (.int k), .unset, .unset, .unset, .unset, .unset] [(.int (p5.toInt8.toInt32)), (.int (3 : Int32)), (.ref b122), (.ref b122)])) _
    obtain ⟨T132, h132, X132, e132, W132, V132, st132⟩ := stB' X130 hx hZ e130 f131 (j := (3 : Int32)) (by decide) (by first | decide | (simp only [List.length_cons, List.length_nil]; decide) | rfl) (g := (mkF m 43 #[.val (.int p0), .val (.int p1), .val (.int p2), .val (.int p3), .val (.int p4), .val (.int p5), .val (.int (0 : Int32)), .val (.int k), .unset, .unset, .unset, .unset, .unset] [(.int (p5.toInt8.toInt32)), (.int (3 : Int32)), (.ref b122), (.ref b122)])) rfl rfl (hb hby at_43)
    refine Go.via (st132) ?_
    have N132 := Fr.snoc X132 N130 ge123
    have f133 : Ia Z h132 b122 .byte [(nar .byte (p2.toInt8.toInt32)), (nar .byte (p3.toInt8.toInt32)), (nar .byte (p4.toInt8.toInt32)), (nar .byte (p5.toInt8.toInt32))] := V132
    show Go p e below (T132.setTop (mkF m 44 #[.val (.int p0), .val (.int p1), .val (.int p2), .val (.int p3), .val (.int p4), .val (.int p5), .val (.int (0 : Int32)), .val (.int k), .unset, .unset, .unset, .unset, .unset] [(.ref b122)])) _
    refine Go.via (fun _ => XS.astore X132.here hx rfl (hb hby at_44) rfl rfl (l' := #[.val (.int p0), .val (.int p1), .val (.int p2), .val (.int p3), .val (.int p4), .val (.int p5), .val (.int (0 : Int32)), .val (.int k), .val (.ref b122), .unset, .unset, .unset, .unset]) rfl) ?_
    show Go p e below (T132.setTop (mkF m 46 #[.val (.int p0), .val (.int p1), .val (.int p2), .val (.int p3), .val (.int p4), .val (.int p5), .val (.int (0 : Int32)), .val (.int k), .val (.ref b122), .unset, .unset, .unset, .unset] [])) _
    have k135 : Keep h0 h132 [] := ((((((Keep.refl h0 []).ext E122).wr W126 (Or.inr sz124)).wr W128 (Or.inr sz124)).wr W130 (Or.inr sz124)).wr W132 (Or.inr sz124))
    have z136 : n0 ≤ h132.size := (Nat.le_trans (Nat.le_trans (Nat.le_trans (Nat.le_trans (Nat.le_trans Z0 E122.1) (Keep.of_wr W126).1) (Keep.of_wr W128).1) (Keep.of_wr W130).1) (Keep.of_wr W132).1)
    obtain ⟨T134, h134, X134, e134, E134, A134, D134, -, st134⟩ := newO X132 hx hZ hown (tw hw 2 rfl) (tw hw 3 rfl) (tw hw 4 rfl) e132 (g := (mkF m 46 #[.val (.int p0), .val (.int p1), .val (.int p2), .val (.int p3), .val (.int p4), .val (.int p5), .val (.int (0 : Int32)), .val (.int k), .val (.ref b122), .unset, .unset, .unset, .unset] [])) rfl (hb hby at_46) (by decide) (by decide)
    obtain ⟨b134, g134⟩ : ∃ z, z = h132.size := ⟨_, rfl⟩
    rw [← g134] at A134 D134 st134
    have ne137 : b122 ≠ b134 := Nat.ne_of_lt (Nat.lt_of_lt_of_le f133.lt (Nat.le_of_eq g134.symm))
    have ge138 : n0 ≤ b134 := Nat.le_trans z136 (Nat.le_of_eq g134.symm)
    have sz139 : h0.size ≤ b134 := Nat.le_trans k135.1 (Nat.le_of_eq g134.symm)
    refine Go.via (st134) ?_
    have f140 : Fld Z h134 b134 "com/example/quicksettle/quicksettle/Records$Writer" "bytes" "[B" .null := D134 (Or.inl (tw hw 17 rfl)) (ty := (.array .byte)) (by decide)
    have f141 : Fld Z h134 b134 "com/example/quicksettle/quicksettle/Records$Writer" "size" "I" (.int (0 : Int32)) := D134 (Or.inl (tw hw 19 rfl)) (ty := .int) (by decide)
    show Go p e below (T134.setTop (mkF m 49 #[.val (.int p0), .val (.int p1), .val (.int p2), .val (.int p3), .val (.int p4), .val (.int p5), .val (.int (0 : Int32)), .val (.int k), .val (.ref b122), .unset, .unset, .unset, .unset] [(.ref b134)])) _
    refine Go.via (fun _ => XS.dup X134.here hx rfl (hb hby at_49) rfl rfl) ?_
    have z143 : n0 ≤ h134.size := (Nat.le_trans z136 E134.1)
    obtain ⟨_, _, ⟨T142, L142, k142, n142⟩, -, X142, ⟨Lc142, hQ142, l142, y142, z142⟩, st142⟩ := X134.specialBack hx (y := (⟨"com/example/quicksettle/quicksettle/Records$Writer", "<init>", "()V"⟩ : MethodName)) rfl hown (mvT hZ (tw hw 5 rfl)) (mvT hZ (tw hw 6 rfl)) (mvT hZ (tw hw 7 rfl)) (by decide) (backOf (W := 1) (rm1 l Z a0 hw [] b134  h134 n0 z143 A134 f140 f141 ge138) hZ (tw hw 7 rfl) (tw hw 4 rfl) (by decide) (by decide)) (g := (mkF m 50 #[.val (.int p0), .val (.int p1), .val (.int p2), .val (.int p3), .val (.int p4), .val (.int p5), .val (.int (0 : Int32)), .val (.int k), .val (.ref b122), .unset, .unset, .unset, .unset] [(.ref b134), (.ref b134)])) rfl (by rw [hml]; rfl) (Steps.refl _) (a := b134) (argsL := []) (rest := [(.ref b134)]) (lenOf pd__28_29V rfl) rfl (by show 2 * 0 + _ ≤ _; exact Nat.le_of_eq rfl) (hb hby at_50) (fun _ _ => ⟨rfl, e134, (by decide : 2 + 1 ≤ _), (by decide : 6 + 4096 ≤ _)⟩)
    dsimp only [Pt.U, Pt.locs, Pt.cells, Pt.slots] at X142 l142 y142 z142 st142 hQ142
    subst l142 y142 z142
    obtain ⟨b144, rfl, N142q, K142q, fz_b144, f145, f146, f147, f148⟩ := hQ142
    have N142 := Fr.app N132 N142q
    refine Go.via (fun _ kQ => st142.trans kQ) ?_
    have f149 : Ia Z h134 b122 .byte [(nar .byte (p2.toInt8.toInt32)), (nar .byte (p3.toInt8.toInt32)), (nar .byte (p4.toInt8.toInt32)), (nar .byte (p5.toInt8.toInt32))] := (f133.ext E134)
    have ne150 : b122 ≠ b144 := Nat.ne_of_lt (Nat.lt_of_lt_of_le f149.lt fz_b144)
    have ne151 : b134 ≠ b144 := Nat.ne_of_lt (Nat.lt_of_lt_of_le A134.lt fz_b144)
    have ge152 : n0 ≤ b144 := Nat.le_trans z143 fz_b144
    have k154 : Keep h0 h134 [] := (k135.ext E134)
    have sz153 : h0.size ≤ b144 := Nat.le_trans k154.1 fz_b144
    have e142 : T142.heap = T142.heap := rfl
    have f155 : Exa Z T142.heap b134 "com/example/quicksettle/quicksettle/Records$Writer" := f145
    have f156 : Fld Z T142.heap b134 "com/example/quicksettle/quicksettle/Records$Writer" "bytes" "[B" (.ref b144) := f146
    have f157 : Fld Z T142.heap b134 "com/example/quicksettle/quicksettle/Records$Writer" "size" "I" (.int (12 : Int32)) := f147
    have f158 : Ia Z T142.heap b144 .byte (List.replicate (4096 : Int32).toNatClampNeg 0) := f148
    show Go p e below (T142.setTop (mkF m 53 #[.val (.int p0), .val (.int p1), .val (.int p2), .val (.int p3), .val (.int p4), .val (.int p5), .val (.int (0 : Int32)), .val (.int k), .val (.ref b122), .unset, .unset, .unset, .unset] [(.ref b134)])) _
    refine Go.via (fun _ => XS.astore X142.here hx rfl (hb hby at_53) rfl rfl (l' := #[.val (.int p0), .val (.int p1), .val (.int p2), .val (.int p3), .val (.int p4), .val (.int p5), .val (.int (0 : Int32)), .val (.int k), .val (.ref b122), .val (.ref b134), .unset, .unset, .unset]) rfl) ?_
    show Go p e below (T142.setTop (mkF m 55 #[.val (.int p0), .val (.int p1), .val (.int p2), .val (.int p3), .val (.int p4), .val (.int p5), .val (.int (0 : Int32)), .val (.int k), .val (.ref b122), .val (.ref b134), .unset, .unset, .unset] [])) _
    refine Go.via (fun _ => XS.iload X142.here hx rfl (hb hby at_55) rfl) ?_
    refine Go.via (fun _ => XS.ifYes X142.here hx rfl (pc0 := 57) (pc' := 66) rfl (hb hby at_57) rfl ((if0 _ _).trans (flt ((by decide) : ¬ ((0 : Int32) < (0 : Int32)))).2.2.2) (by decide) (by decide)) ?_
    show Go p e below (T142.setTop (mkF m 66 #[.val (.int p0), .val (.int p1), .val (.int p2), .val (.int p3), .val (.int p4), .val (.int p5), .val (.int (0 : Int32)), .val (.int k), .val (.ref b122), .val (.ref b134), .unset, .unset, .unset] [])) _
    refine Go.via (fun _ => XS.iload X142.here hx rfl (hb hby at_66) rfl) ?_
    refine Go.via (fun _ => XS.iconst X142.here hx rfl (hb hby at_68)) ?_
    refine Go.via (fun _ => XS.icmpYes X142.here hx rfl (pc0 := 69) (pc' := 78) rfl (hb hby at_69) rfl (flt ((by decide) : ¬ ((1 : Int32) < (0 : Int32)))).2.2.2 (by decide) (by decide)) ?_
    show Go p e below (T142.setTop (mkF m 78 #[.val (.int p0), .val (.int p1), .val (.int p2), .val (.int p3), .val (.int p4), .val (.int p5), .val (.int (0 : Int32)), .val (.int k), .val (.ref b122), .val (.ref b134), .unset, .unset, .unset] [])) _
    refine Go.via (fun _ => XS.iload X142.here hx rfl (hb hby at_78) rfl) ?_
    refine Go.via (fun _ => XS.iconst X142.here hx rfl (hb hby at_80)) ?_
    refine Go.via (fun _ => XS.icmpYes X142.here hx rfl (pc0 := 81) (pc' := 91) rfl (hb hby at_81) rfl (flt ((by decide) : ¬ ((2 : Int32) < (0 : Int32)))).2.2.2 (by decide) (by decide)) ?_
    show Go p e below (T142.setTop (mkF m 91 #[.val (.int p0), .val (.int p1), .val (.int p2), .val (.int p3), .val (.int p4), .val (.int p5), .val (.int (0 : Int32)), .val (.int k), .val (.ref b122), .val (.ref b134), .unset, .unset, .unset] [])) _
    refine Go.via (fun _ => XS.iload X142.here hx rfl (hb hby at_91) rfl) ?_
    refine Go.via (fun _ => XS.iconst X142.here hx rfl (hb hby at_93)) ?_
    refine Go.via (fun _ => XS.icmpYes X142.here hx rfl (pc0 := 94) (pc' := 104) rfl (hb hby at_94) rfl (flt ((by decide) : ¬ ((3 : Int32) < (0 : Int32)))).2.2.2 (by decide) (by decide)) ?_
    have f159 : Ia Z T142.heap b122 .byte [(nar .byte (p2.toInt8.toInt32)), (nar .byte (p3.toInt8.toInt32)), (nar .byte (p4.toInt8.toInt32)), (nar .byte (p5.toInt8.toInt32))] := (f149.keep K142q (ninS ne137 nin0))
    have z160 : n0 ≤ T142.heap.size := (Nat.le_trans z143 K142q.1)
    have k161 : Keep h0 T142.heap [] := (k154.trans K142q (allS (Or.inr sz139) all0))
    exact J T142 _ T142.heap (0 : Int32) k b122 b134 b144 (12 : Int32) (List.replicate (4096 : Int32).toNatClampNeg 0) [] [(own_b p2), (own_b p3), (own_b p4), (own_b p5)] X142 e142 N142 z160 k161 f155 f156 f157 f158 f159 ne151 ne137 ne150 ge138 ge152 ge123 sz139 sz153 sz124 own_init (by first | decide | (simp only [List.length_cons, List.length_nil]; decide) | rfl) (by first | decide | (simp only [List.length_cons, List.length_nil]; decide) | rfl) (by first | decide | (simp only [List.length_cons, List.length_nil]; decide) | rfl) hkk.1 hkk.2.1
  · have hkk := own_k p1 (1 : Int32) (by decide) (by decide)
    rw [hk] at hkk
    show Go p e below (s₁.setTop (mkF m 19 #[.val (.int p0), .val (.int p1), .val (.int p2), .val (.int p3), .val (.int p4), .val (.int p5), .val (.int (1 : Int32)), .val (.int k), .unset, .unset, .unset, .unset, .unset] [])) _
    refine Go.via (fun _ => XS.iconst X0.here hx rfl (hb hby at_19)) ?_
    obtain ⟨T162, h162, k162, X162, e162, E162, A162, B162, st162⟩ := newPE X0 hx hZ (tw hw 1 rfl) e0 (g := (mkF m 20 #[.val (.int p0), .val (.int p1), .val (.int p2), .val (.int p3), .val (.int p4), .val (.int p5), .val (.int (1 : Int32)), .val (.int k), .unset, .unset, .unset, .unset, .unset] [(.int (4 : Int32))])) rfl (hb hby at_20) rfl (by decide) (cap := 4) (by decide) (by decide) (by decide) (by decide) (ad := "[B") (by decide)
    obtain ⟨b162, g162⟩ : ∃ z, z = h0.size := ⟨_, rfl⟩
    rw [← g162] at A162 B162 st162
    have ge163 : n0 ≤ b162 := Nat.le_trans Z0 (Nat.le_of_eq g162.symm)
    have sz164 : h0.size ≤ b162 := Nat.le_trans (Keep.refl h0 []).1 (Nat.le_of_eq g162.symm)
    refine Go.via (st162) ?_
    have f165 : Ia Z h162 b162 .byte [(0 : Int32), (0 : Int32), (0 : Int32), (0 : Int32)] := Ia.new A162 rfl
    show Go p e below (T162.setTop (mkF m 22 #[.val (.int p0), .val (.int p1), .val (.int p2), .val (.int p3), .val (.int p4), .val (.int p5), .val (.int (1 : Int32)), .val (.int k), .unset, .unset, .unset, .unset, .unset] [(.ref b162)])) _
    refine Go.via (fun _ => XS.dup X162.here hx rfl (hb hby at_22) rfl rfl) ?_
    refine Go.via (fun _ => XS.iconst X162.here hx rfl (hb hby at_23)) ?_
    refine Go.via (fun _ => XS.iloadN X162.here hx rfl (hb hby at_24) rfl) ?_
    refine Go.via (fun _ => XS.i2b X162.here hx rfl (hb hby at_25) rfl) ?_
    show Go p e below (T162.setTop (mkF m 26 #[.val (.int p0), .val (.int p1), .val (.int p2), .val (.int p3), .val (.int p4), .val (.int p5), .val (.int (1 : Int32)), .val (.int k), .unset, .unset, .unset, .unset, .unset] [(.int (p2.toInt8.toInt32)), (.int (0 : Int32)), (.ref b162), (.ref b162)])) _
    obtain ⟨T166, h166, X166, e166, W166, V166, st166⟩ := stB' X162 hx hZ e162 f165 (j := (0 : Int32)) (by decide) (by first | decide | (simp only [List.length_cons, List.length_nil]; decide) | rfl) (g := (mkF m 26 #[.val (.int p0), .val (.int p1), .val (.int p2), .val (.int p3), .val (.int p4), .val (.int p5), .val (.int (1 : Int32)), .val (.int k), .unset, .unset, .unset, .unset, .unset] [(.int (p2.toInt8.toInt32)), (.int (0 : Int32)), (.ref b162), (.ref b162)])) rfl rfl (hb hby at_26)
    refine Go.via (st166) ?_
    have N166 := Fr.snoc X166 N0 ge163
    have f167 : Ia Z h166 b162 .byte [(nar .byte (p2.toInt8.toInt32)), (0 : Int32), (0 : Int32), (0 : Int32)] := V166
    show Go p e below (T166.setTop (mkF m 27 #[.val (.int p0), .val (.int p1), .val (.int p2), .val (.int p3), .val (.int p4), .val (.int p5), .val (.int (1 : Int32)), .val (.int k), .unset, .unset, .unset, .unset, .unset] [(.ref b162)])) _
    refine Go.via (fun _ => XS.dup X166.here hx rfl (hb hby at_27) rfl rfl) ?_
    refine Go.via (fun _ => XS.iconst X166.here hx rfl (hb hby at_28)) ?_
    refine Go.via (fun _ => XS.iloadN X166.here hx rfl (hb hby at_29) rfl) ?_
    refine Go.via (fun _ => XS.i2b X166.here hx rfl (hb hby at_30) rfl) ?_
    show Go p e below (T166.setTop (mkF m 31 #[.val (.int p0), .val (.int p1), .val (.int p2), .val (.int p3), .val (.int p4), .val (.int p5), .val (.int (1 : Int32)), .val (.int k), .unset, .unset, .unset, .unset, .unset] [(.int (p3.toInt8.toInt32)), (.int (1 : Int32)), (.ref b162), (.ref b162)])) _
    obtain ⟨T168, h168, X168, e168, W168, V168, st168⟩ := stB' X166 hx hZ e166 f167 (j := (1 : Int32)) (by decide) (by first | decide | (simp only [List.length_cons, List.length_nil]; decide) | rfl) (g := (mkF m 31 #[.val (.int p0), .val (.int p1), .val (.int p2), .val (.int p3), .val (.int p4), .val (.int p5), .val (.int (1 : Int32)), .val (.int k), .unset, .unset, .unset, .unset, .unset] [(.int (p3.toInt8.toInt32)), (.int (1 : Int32)), (.ref b162), (.ref b162)])) rfl rfl (hb hby at_31)
    refine Go.via (st168) ?_
    have N168 := Fr.snoc X168 N166 ge163
    have f169 : Ia Z h168 b162 .byte [(nar .byte (p2.toInt8.toInt32)), (nar .byte (p3.toInt8.toInt32)), (0 : Int32), (0 : Int32)] := V168
    show Go p e below (T168.setTop (mkF m 32 #[.val (.int p0), .val (.int p1), .val (.int p2), .val (.int p3), .val (.int p4), .val (.int p5), .val (.int (1 : Int32)), .val (.int k), .unset, .unset, .unset, .unset, .unset] [(.ref b162)])) _
    refine Go.via (fun _ => XS.dup X168.here hx rfl (hb hby at_32) rfl rfl) ?_
    refine Go.via (fun _ => XS.iconst X168.here hx rfl (hb hby at_33)) ?_
    refine Go.via (fun _ => XS.iload X168.here hx rfl (hb hby at_34) rfl) ?_
    refine Go.via (fun _ => XS.i2b X168.here hx rfl (hb hby at_36) rfl) ?_
    show Go p e below (T168.setTop (mkF m 37 #[.val (.int p0), .val (.int p1), .val (.int p2), .val (.int p3), .val (.int p4), .val (.int p5), .val (.int (1 : Int32)), .val (.int k), .unset, .unset, .unset, .unset, .unset] [(.int (p4.toInt8.toInt32)), (.int (2 : Int32)), (.ref b162), (.ref b162)])) _
    obtain ⟨T170, h170, X170, e170, W170, V170, st170⟩ := stB' X168 hx hZ e168 f169 (j := (2 : Int32)) (by decide) (by first | decide | (simp only [List.length_cons, List.length_nil]; decide) | rfl) (g := (mkF m 37 #[.val (.int p0), .val (.int p1), .val (.int p2), .val (.int p3), .val (.int p4), .val (.int p5), .val (.int (1 : Int32)), .val (.int k), .unset, .unset, .unset, .unset, .unset] [(.int (p4.toInt8.toInt32)), (.int (2 : Int32)), (.ref b162), (.ref b162)])) rfl rfl (hb hby at_37)
    refine Go.via (st170) ?_
    have N170 := Fr.snoc X170 N168 ge163
    have f171 : Ia Z h170 b162 .byte [(nar .byte (p2.toInt8.toInt32)), (nar .byte (p3.toInt8.toInt32)), (nar .byte (p4.toInt8.toInt32)), (0 : Int32)] := V170
    show Go p e below (T170.setTop (mkF m 38 #[.val (.int p0), .val (.int p1), .val (.int p2), .val (.int p3), .val (.int p4), .val (.int p5), .val (.int (1 : Int32)), .val (.int k), .unset, .unset, .unset, .unset, .unset] [(.ref b162)])) _
    refine Go.via (fun _ => XS.dup X170.here hx rfl (hb hby at_38) rfl rfl) ?_
    refine Go.via (fun _ => XS.iconst X170.here hx rfl (hb hby at_39)) ?_
    refine Go.via (fun _ => XS.iload X170.here hx rfl (hb hby at_40) rfl) ?_
    refine Go.via (fun _ => XS.i2b X170.here hx rfl (hb hby at_42) rfl) ?_
    show Go p e below (T170.setTop (mkF m 43 #[.val (.int p0), .val (.int p1), .val (.int p2), .val (.int p3), .val (.int p4), .val (.int p5), .val (.int (1 : Int32)), .val (.int k), .unset, .unset, .unset, .unset, .unset] [(.int (p5.toInt8.toInt32)), (.int (3 : Int32)), (.ref b162), (.ref b162)])) _
    obtain ⟨T172, h172, X172, e172, W172, V172, st172⟩ := stB' X170 hx hZ e170 f171 (j := (3 : Int32)) (by decide) (by first | decide | (simp only [List.length_cons, List.length_nil]; decide) | rfl) (g := (mkF m 43 #[.val (.int p0), .val (.int p1), .val (.int p2), .val (.int p3), .val (.int p4), .val (.int p5), .val (.int (1 : Int32)), .val (.int k), .unset, .unset, .unset, .unset, .unset] [(.int (p5.toInt8.toInt32)), (.int (3 : Int32)), (.ref b162), (.ref b162)])) rfl rfl (hb hby at_43)
    refine Go.via (st172) ?_
    have N172 := Fr.snoc X172 N170 ge163
    have f173 : Ia Z h172 b162 .byte [(nar .byte (p2.toInt8.toInt32)), (nar .byte (p3.toInt8.toInt32)), (nar .byte (p4.toInt8.toInt32)), (nar .byte (p5.toInt8.toInt32))] := V172
    show Go p e below (T172.setTop (mkF m 44 #[.val (.int p0), .val (.int p1), .val (.int p2), .val (.int p3), .val (.int p4), .val (.int p5), .val (.int (1 : Int32)), .val (.int k), .unset, .unset, .unset, .unset, .unset] [(.ref b162)])) _
    refine Go.via (fun _ => XS.astore X172.here hx rfl (hb hby at_44) rfl rfl (l' := #[.val (.int p0), .val (.int p1), .val (.int p2), .val (.int p3), .val (.int p4), .val (.int p5), .val (.int (1 : Int32)), .val (.int k), .val (.ref b162), .unset, .unset, .unset, .unset]) rfl) ?_
    show Go p e below (T172.setTop (mkF m 46 #[.val (.int p0), .val (.int p1), .val (.int p2), .val (.int p3), .val (.int p4), .val (.int p5), .val (.int (1 : Int32)), .val (.int k), .val (.ref b162), .unset, .unset, .unset, .unset] [])) _
    have k175 : Keep h0 h172 [] := ((((((Keep.refl h0 []).ext E162).wr W166 (Or.inr sz164)).wr W168 (Or.inr sz164)).wr W170 (Or.inr sz164)).wr W172 (Or.inr sz164))
    have z176 : n0 ≤ h172.size := (Nat.le_trans (Nat.le_trans (Nat.le_trans (Nat.le_trans (Nat.le_trans Z0 E162.1) (Keep.of_wr W166).1) (Keep.of_wr W168).1) (Keep.of_wr W170).1) (Keep.of_wr W172).1)
    obtain ⟨T174, h174, X174, e174, E174, A174, D174, -, st174⟩ := newO X172 hx hZ hown (tw hw 2 rfl) (tw hw 3 rfl) (tw hw 4 rfl) e172 (g := (mkF m 46 #[.val (.int p0), .val (.int p1), .val (.int p2), .val (.int p3), .val (.int p4), .val (.int p5), .val (.int (1 : Int32)), .val (.int k), .val (.ref b162), .unset, .unset, .unset, .unset] [])) rfl (hb hby at_46) (by decide) (by decide)
    obtain ⟨b174, g174⟩ : ∃ z, z = h172.size := ⟨_, rfl⟩
    rw [← g174] at A174 D174 st174
    have ne177 : b162 ≠ b174 := Nat.ne_of_lt (Nat.lt_of_lt_of_le f173.lt (Nat.le_of_eq g174.symm))
    have ge178 : n0 ≤ b174 := Nat.le_trans z176 (Nat.le_of_eq g174.symm)
    have sz179 : h0.size ≤ b174 := Nat.le_trans k175.1 (Nat.le_of_eq g174.symm)
    refine Go.via (st174) ?_
    have f180 : Fld Z h174 b174 "com/example/quicksettle/quicksettle/Records$Writer" "bytes" "[B" .null := D174 (Or.inl (tw hw 17 rfl)) (ty := (.array .byte)) (by decide)
    have f181 : Fld Z h174 b174 "com/example/quicksettle/quicksettle/Records$Writer" "size" "I" (.int (0 : Int32)) := D174 (Or.inl (tw hw 19 rfl)) (ty := .int) (by decide)
    show Go p e below (T174.setTop (mkF m 49 #[.val (.int p0), .val (.int p1), .val (.int p2), .val (.int p3), .val (.int p4), .val (.int p5), .val (.int (1 : Int32)), .val (.int k), .val (.ref b162), .unset, .unset, .unset, .unset] [(.ref b174)])) _
    refine Go.via (fun _ => XS.dup X174.here hx rfl (hb hby at_49) rfl rfl) ?_
    have z183 : n0 ≤ h174.size := (Nat.le_trans z176 E174.1)
    obtain ⟨_, _, ⟨T182, L182, k182, n182⟩, -, X182, ⟨Lc182, hQ182, l182, y182, z182⟩, st182⟩ := X174.specialBack hx (y := (⟨"com/example/quicksettle/quicksettle/Records$Writer", "<init>", "()V"⟩ : MethodName)) rfl hown (mvT hZ (tw hw 5 rfl)) (mvT hZ (tw hw 6 rfl)) (mvT hZ (tw hw 7 rfl)) (by decide) (backOf (W := 1) (rm1 l Z a0 hw [] b174  h174 n0 z183 A174 f180 f181 ge178) hZ (tw hw 7 rfl) (tw hw 4 rfl) (by decide) (by decide)) (g := (mkF m 50 #[.val (.int p0), .val (.int p1), .val (.int p2), .val (.int p3), .val (.int p4), .val (.int p5), .val (.int (1 : Int32)), .val (.int k), .val (.ref b162), .unset, .unset, .unset, .unset] [(.ref b174), (.ref b174)])) rfl (by rw [hml]; rfl) (Steps.refl _) (a := b174) (argsL := []) (rest := [(.ref b174)]) (lenOf pd__28_29V rfl) rfl (by show 2 * 0 + _ ≤ _; exact Nat.le_of_eq rfl) (hb hby at_50) (fun _ _ => ⟨rfl, e174, (by decide : 2 + 1 ≤ _), (by decide : 6 + 4096 ≤ _)⟩)
    dsimp only [Pt.U, Pt.locs, Pt.cells, Pt.slots] at X182 l182 y182 z182 st182 hQ182
    subst l182 y182 z182
    obtain ⟨b184, rfl, N182q, K182q, fz_b184, f185, f186, f187, f188⟩ := hQ182
    have N182 := Fr.app N172 N182q
    refine Go.via (fun _ kQ => st182.trans kQ) ?_
    have f189 : Ia Z h174 b162 .byte [(nar .byte (p2.toInt8.toInt32)), (nar .byte (p3.toInt8.toInt32)), (nar .byte (p4.toInt8.toInt32)), (nar .byte (p5.toInt8.toInt32))] := (f173.ext E174)
    have ne190 : b162 ≠ b184 := Nat.ne_of_lt (Nat.lt_of_lt_of_le f189.lt fz_b184)
    have ne191 : b174 ≠ b184 := Nat.ne_of_lt (Nat.lt_of_lt_of_le A174.lt fz_b184)
    have ge192 : n0 ≤ b184 := Nat.le_trans z183 fz_b184
    have k194 : Keep h0 h174 [] := (k175.ext E174)
    have sz193 : h0.size ≤ b184 := Nat.le_trans k194.1 fz_b184
    have e182 : T182.heap = T182.heap := rfl
    have f195 : Exa Z T182.heap b174 "com/example/quicksettle/quicksettle/Records$Writer" := f185
    have f196 : Fld Z T182.heap b174 "com/example/quicksettle/quicksettle/Records$Writer" "bytes" "[B" (.ref b184) := f186
    have f197 : Fld Z T182.heap b174 "com/example/quicksettle/quicksettle/Records$Writer" "size" "I" (.int (12 : Int32)) := f187
    have f198 : Ia Z T182.heap b184 .byte (List.replicate (4096 : Int32).toNatClampNeg 0) := f188
    show Go p e below (T182.setTop (mkF m 53 #[.val (.int p0), .val (.int p1), .val (.int p2), .val (.int p3), .val (.int p4), .val (.int p5), .val (.int (1 : Int32)), .val (.int k), .val (.ref b162), .unset, .unset, .unset, .unset] [(.ref b174)])) _
    refine Go.via (fun _ => XS.astore X182.here hx rfl (hb hby at_53) rfl rfl (l' := #[.val (.int p0), .val (.int p1), .val (.int p2), .val (.int p3), .val (.int p4), .val (.int p5), .val (.int (1 : Int32)), .val (.int k), .val (.ref b162), .val (.ref b174), .unset, .unset, .unset]) rfl) ?_
    show Go p e below (T182.setTop (mkF m 55 #[.val (.int p0), .val (.int p1), .val (.int p2), .val (.int p3), .val (.int p4), .val (.int p5), .val (.int (1 : Int32)), .val (.int k), .val (.ref b162), .val (.ref b174), .unset, .unset, .unset] [])) _
    refine Go.via (fun _ => XS.iload X182.here hx rfl (hb hby at_55) rfl) ?_
    refine Go.via (fun _ => XS.ifNo X182.here hx rfl (hb hby at_57) rfl ((if0 _ _).trans (tlt ((by decide) : (0 : Int32) < (1 : Int32))).2.2.2)) ?_
    show Go p e below (T182.setTop (mkF m 60 #[.val (.int p0), .val (.int p1), .val (.int p2), .val (.int p3), .val (.int p4), .val (.int p5), .val (.int (1 : Int32)), .val (.int k), .val (.ref b162), .val (.ref b174), .unset, .unset, .unset] [])) _
    refine Go.via (fun _ => XS.aload X182.here hx rfl (hb hby at_60) rfl rfl) ?_
    refine Go.via (fun _ => XS.iloadN X182.here hx rfl (hb hby at_62) rfl) ?_
    have z200 : n0 ≤ T182.heap.size := (Nat.le_trans z183 K182q.1)
    obtain ⟨cq199, kq199, q199a, q199b, q199c⟩ := isOf hZ e182 f195
    obtain ⟨_, _, ⟨T199, L199, k199, n199⟩, -, X199, ⟨Lc199, hQ199, l199, y199, z199⟩, st199⟩ := X182.virtualBack hx (y := (⟨"com/example/quicksettle/quicksettle/Records$Writer", "write", "(I)V"⟩ : MethodName)) (z := (⟨"com/example/quicksettle/quicksettle/Records$Writer", "write", "(I)V"⟩ : MethodName)) hown (mvT hZ (tw hw 52 rfl)) (mvT hZ (tw hw 53 rfl)) (notFace_of_selects (args := #[]) (mvT hZ (tw hw 55 rfl))) (mvT hZ (tw hw 55 rfl)) (mvT hZ (tw hw 54 rfl)) (by decide) (backOf (W := 0) (rm11 l Z a0 hw [] b174 p2 b184 (List.replicate (4096 : Int32).toNatClampNeg 0) (12 : Int32) [] T182.heap n0 z200 f195 f197 f196 f198 ge178 ge192 ne191 own_init (by first | decide | (simp only [List.length_cons, List.length_nil]; decide) | rfl) (by first | decide | (simp only [List.length_cons, List.length_nil]; decide) | rfl)) hZ (tw hw 56 rfl) (tw hw 4 rfl) (by decide) (by decide)) q199a q199c (g := (mkF m 63 #[.val (.int p0), .val (.int p1), .val (.int p2), .val (.int p3), .val (.int p4), .val (.int p5), .val (.int (1 : Int32)), .val (.int k), .val (.ref b162), .val (.ref b174), .unset, .unset, .unset] [(.int p2), (.ref b174)])) rfl (by rw [hml]; rfl) (Steps.refl _) (argsL := [(.int p2)]) (rest := []) (lenOf pd__28I_29V rfl) rfl (by show 2 * 0 + _ ≤ _; exact Nat.le_of_eq rfl) (hb hby at_63) (fun _ _ => ⟨rfl, e182, (by decide : 3 + 0 ≤ _), (by decide : 4102 + 0 ≤ _)⟩)
    dsimp only [Pt.U, Pt.locs, Pt.cells, Pt.slots] at X199 l199 y199 z199 st199 hQ199
    subst l199 y199 z199
    obtain ⟨v201, rfl, N199q, K199q, f202, f203, f204, f205, qp206⟩ := hQ199
    have N199 := Fr.app N182 N199q
    refine Go.via (fun _ kQ => st199.trans kQ) ?_
    have e199 : T199.heap = T199.heap := rfl
    have f207 : Exa Z T199.heap b174 "com/example/quicksettle/quicksettle/Records$Writer" := f202
    have f208 : Fld Z T199.heap b174 "com/example/quicksettle/quicksettle/Records$Writer" "size" "I" (.int (13 : Int32)) := f203
    have f209 : Fld Z T199.heap b174 "com/example/quicksettle/quicksettle/Records$Writer" "bytes" "[B" (.ref b184) := f204
    have f210 : Ia Z T199.heap b184 .byte v201 := f205
    show Go p e below (T199.setTop (mkF m 66 #[.val (.int p0), .val (.int p1), .val (.int p2), .val (.int p3), .val (.int p4), .val (.int p5), .val (.int (1 : Int32)), .val (.int k), .val (.ref b162), .val (.ref b174), .unset, .unset, .unset] [])) _
    refine Go.via (fun _ => XS.iload X199.here hx rfl (hb hby at_66) rfl) ?_
    refine Go.via (fun _ => XS.iconst X199.here hx rfl (hb hby at_68)) ?_
    refine Go.via (fun _ => XS.icmpYes X199.here hx rfl (pc0 := 69) (pc' := 78) rfl (hb hby at_69) rfl (flt ((by decide) : ¬ ((1 : Int32) < (1 : Int32)))).2.2.2 (by decide) (by decide)) ?_
    show Go p e below (T199.setTop (mkF m 78 #[.val (.int p0), .val (.int p1), .val (.int p2), .val (.int p3), .val (.int p4), .val (.int p5), .val (.int (1 : Int32)), .val (.int k), .val (.ref b162), .val (.ref b174), .unset, .unset, .unset] [])) _
    refine Go.via (fun _ => XS.iload X199.here hx rfl (hb hby at_78) rfl) ?_
    refine Go.via (fun _ => XS.iconst X199.here hx rfl (hb hby at_80)) ?_
    refine Go.via (fun _ => XS.icmpYes X199.here hx rfl (pc0 := 81) (pc' := 91) rfl (hb hby at_81) rfl (flt ((by decide) : ¬ ((2 : Int32) < (1 : Int32)))).2.2.2 (by decide) (by decide)) ?_
    show Go p e below (T199.setTop (mkF m 91 #[.val (.int p0), .val (.int p1), .val (.int p2), .val (.int p3), .val (.int p4), .val (.int p5), .val (.int (1 : Int32)), .val (.int k), .val (.ref b162), .val (.ref b174), .unset, .unset, .unset] [])) _
    refine Go.via (fun _ => XS.iload X199.here hx rfl (hb hby at_91) rfl) ?_
    refine Go.via (fun _ => XS.iconst X199.here hx rfl (hb hby at_93)) ?_
    refine Go.via (fun _ => XS.icmpYes X199.here hx rfl (pc0 := 94) (pc' := 104) rfl (hb hby at_94) rfl (flt ((by decide) : ¬ ((3 : Int32) < (1 : Int32)))).2.2.2 (by decide) (by decide)) ?_
    have f211 : Ia Z T199.heap b162 .byte [(nar .byte (p2.toInt8.toInt32)), (nar .byte (p3.toInt8.toInt32)), (nar .byte (p4.toInt8.toInt32)), (nar .byte (p5.toInt8.toInt32))] := ((f189.keep K182q (ninS ne177 nin0)).keep K199q (ninS ne177 (ninS ne190 nin0)))
    have z212 : n0 ≤ T199.heap.size := (Nat.le_trans z200 K199q.1)
    have k213 : Keep h0 T199.heap [] := ((k194.trans K182q (allS (Or.inr sz179) all0)).trans K199q (allS (Or.inr sz179) (allS (Or.inr sz193) all0)))
    exact J T199 _ T199.heap (1 : Int32) k b162 b174 b184 (13 : Int32) v201 [(own_b p2)] [(own_b p3), (own_b p4), (own_b p5)] X199 e199 N199 z212 k213 f207 f209 f208 f210 f211 ne191 ne177 ne190 ge178 ge192 ge163 sz179 sz193 sz164 qp206 (by first | decide | (simp only [List.length_cons, List.length_nil]; decide) | rfl) (by first | decide | (simp only [List.length_cons, List.length_nil]; decide) | rfl) (by first | decide | (simp only [List.length_cons, List.length_nil]; decide) | rfl) hkk.1 hkk.2.1
  · have hkk := own_k p1 (2 : Int32) (by decide) (by decide)
    rw [hk] at hkk
    show Go p e below (s₁.setTop (mkF m 19 #[.val (.int p0), .val (.int p1), .val (.int p2), .val (.int p3), .val (.int p4), .val (.int p5), .val (.int (2 : Int32)), .val (.int k), .unset, .unset, .unset, .unset, .unset] [])) _
    refine Go.via (fun _ => XS.iconst X0.here hx rfl (hb hby at_19)) ?_
    obtain ⟨T214, h214, k214, X214, e214, E214, A214, B214, st214⟩ := newPE X0 hx hZ (tw hw 1 rfl) e0 (g := (mkF m 20 #[.val (.int p0), .val (.int p1), .val (.int p2), .val (.int p3), .val (.int p4), .val (.int p5), .val (.int (2 : Int32)), .val (.int k), .unset, .unset, .unset, .unset, .unset] [(.int (4 : Int32))])) rfl (hb hby at_20) rfl (by decide) (cap := 4) (by decide) (by decide) (by decide) (by decide) (ad := "[B") (by decide)
    obtain ⟨b214, g214⟩ : ∃ z, z = h0.size := ⟨_, rfl⟩
    rw [← g214] at A214 B214 st214
    have ge215 : n0 ≤ b214 := Nat.le_trans Z0 (Nat.le_of_eq g214.symm)
    have sz216 : h0.size ≤ b214 := Nat.le_trans (Keep.refl h0 []).1 (Nat.le_of_eq g214.symm)
    refine Go.via (st214) ?_
    have f217 : Ia Z h214 b214 .byte [(0 : Int32), (0 : Int32), (0 : Int32), (0 : Int32)] := Ia.new A214 rfl
    show Go p e below (T214.setTop (mkF m 22 #[.val (.int p0), .val (.int p1), .val (.int p2), .val (.int p3), .val (.int p4), .val (.int p5), .val (.int (2 : Int32)), .val (.int k), .unset, .unset, .unset, .unset, .unset] [(.ref b214)])) _
    refine Go.via (fun _ => XS.dup X214.here hx rfl (hb hby at_22) rfl rfl) ?_
    refine Go.via (fun _ => XS.iconst X214.here hx rfl (hb hby at_23)) ?_
    refine Go.via (fun _ => XS.iloadN X214.here hx rfl (hb hby at_24) rfl) ?_
    refine Go.via (fun _ => XS.i2b X214.here hx rfl (hb hby at_25) rfl) ?_
    show Go p e below (T214.setTop (mkF m 26 #[.val (.int p0), .val (.int p1), .val (.int p2), .val (.int p3), .val (.int p4), .val (.int p5), .val (.int (2 : Int32)), .val (.int k), .unset, .unset, .unset, .unset, .unset] [(.int (p2.toInt8.toInt32)), (.int (0 : Int32)), (.ref b214), (.ref b214)])) _
    obtain ⟨T218, h218, X218, e218, W218, V218, st218⟩ := stB' X214 hx hZ e214 f217 (j := (0 : Int32)) (by decide) (by first | decide | (simp only [List.length_cons, List.length_nil]; decide) | rfl) (g := (mkF m 26 #[.val (.int p0), .val (.int p1), .val (.int p2), .val (.int p3), .val (.int p4), .val (.int p5), .val (.int (2 : Int32)), .val (.int k), .unset, .unset, .unset, .unset, .unset] [(.int (p2.toInt8.toInt32)), (.int (0 : Int32)), (.ref b214), (.ref b214)])) rfl rfl (hb hby at_26)
    refine Go.via (st218) ?_
    have N218 := Fr.snoc X218 N0 ge215
    have f219 : Ia Z h218 b214 .byte [(nar .byte (p2.toInt8.toInt32)), (0 : Int32), (0 : Int32), (0 : Int32)] := V218
    show Go p e below (T218.setTop (mkF m 27 #[.val (.int p0), .val (.int p1), .val (.int p2), .val (.int p3), .val (.int p4), .val (.int p5), .val (.int (2 : Int32)), .val (.int k), .unset, .unset, .unset, .unset, .unset] [(.ref b214)])) _
    refine Go.via (fun _ => XS.dup X218.here hx rfl (hb hby at_27) rfl rfl) ?_
    refine Go.via (fun _ => XS.iconst X218.here hx rfl (hb hby at_28)) ?_
    refine Go.via (fun _ => XS.iloadN X218.here hx rfl (hb hby at_29) rfl) ?_
    refine Go.via (fun _ => XS.i2b X218.here hx rfl (hb hby at_30) rfl) ?_
    show Go p e below (T218.setTop (mkF m 31 #[.val (.int p0), .val (.int p1), .val (.int p2), .val (.int p3), .val (.int p4), .val (.int p5), .val (.int (2 : Int32)), .val (.int k), .unset, .unset, .unset, .unset, .unset] [(.int (p3.toInt8.toInt32)), (.int (1 : Int32)), (.ref b214), (.ref b214)])) _
    obtain ⟨T220, h220, X220, e220, W220, V220, st220⟩ := stB' X218 hx hZ e218 f219 (j := (1 : Int32)) (by decide) (by first | decide | (simp only [List.length_cons, List.length_nil]; decide) | rfl) (g := (mkF m 31 #[.val (.int p0), .val (.int p1), .val (.int p2), .val (.int p3), .val (.int p4), .val (.int p5), .val (.int (2 : Int32)), .val (.int k), .unset, .unset, .unset, .unset, .unset] [(.int (p3.toInt8.toInt32)), (.int (1 : Int32)), (.ref b214), (.ref b214)])) rfl rfl (hb hby at_31)
    refine Go.via (st220) ?_
    have N220 := Fr.snoc X220 N218 ge215
    have f221 : Ia Z h220 b214 .byte [(nar .byte (p2.toInt8.toInt32)), (nar .byte (p3.toInt8.toInt32)), (0 : Int32), (0 : Int32)] := V220
    show Go p e below (T220.setTop (mkF m 32 #[.val (.int p0), .val (.int p1), .val (.int p2), .val (.int p3), .val (.int p4), .val (.int p5), .val (.int (2 : Int32)), .val (.int k), .unset, .unset, .unset, .unset, .unset] [(.ref b214)])) _
    refine Go.via (fun _ => XS.dup X220.here hx rfl (hb hby at_32) rfl rfl) ?_
    refine Go.via (fun _ => XS.iconst X220.here hx rfl (hb hby at_33)) ?_
    refine Go.via (fun _ => XS.iload X220.here hx rfl (hb hby at_34) rfl) ?_
    refine Go.via (fun _ => XS.i2b X220.here hx rfl (hb hby at_36) rfl) ?_
    show Go p e below (T220.setTop (mkF m 37 #[.val (.int p0), .val (.int p1), .val (.int p2), .val (.int p3), .val (.int p4), .val (.int p5), .val (.int (2 : Int32)), .val (.int k), .unset, .unset, .unset, .unset, .unset] [(.int (p4.toInt8.toInt32)), (.int (2 : Int32)), (.ref b214), (.ref b214)])) _
    obtain ⟨T222, h222, X222, e222, W222, V222, st222⟩ := stB' X220 hx hZ e220 f221 (j := (2 : Int32)) (by decide) (by first | decide | (simp only [List.length_cons, List.length_nil]; decide) | rfl) (g := (mkF m 37 #[.val (.int p0), .val (.int p1), .val (.int p2), .val (.int p3), .val (.int p4), .val (.int p5), .val (.int (2 : Int32)), .val (.int k), .unset, .unset, .unset, .unset, .unset] [(.int (p4.toInt8.toInt32)), (.int (2 : Int32)), (.ref b214), (.ref b214)])) rfl rfl (hb hby at_37)
    refine Go.via (st222) ?_
    have N222 := Fr.snoc X222 N220 ge215
    have f223 : Ia Z h222 b214 .byte [(nar .byte (p2.toInt8.toInt32)), (nar .byte (p3.toInt8.toInt32)), (nar .byte (p4.toInt8.toInt32)), (0 : Int32)] := V222
    show Go p e below (T222.setTop (mkF m 38 #[.val (.int p0), .val (.int p1), .val (.int p2), .val (.int p3), .val (.int p4), .val (.int p5), .val (.int (2 : Int32)), .val (.int k), .unset, .unset, .unset, .unset, .unset] [(.ref b214)])) _
    refine Go.via (fun _ => XS.dup X222.here hx rfl (hb hby at_38) rfl rfl) ?_
    refine Go.via (fun _ => XS.iconst X222.here hx rfl (hb hby at_39)) ?_
    refine Go.via (fun _ => XS.iload X222.here hx rfl (hb hby at_40) rfl) ?_
    refine Go.via (fun _ => XS.i2b X222.here hx rfl (hb hby at_42) rfl) ?_
    show Go p e below (T222.setTop (mkF m 43 #[.val (.int p0), .val (.int p1), .val (.int p2), .val (.int p3), .val (.int p4), .val (.int p5), .val (.int (2 : Int32)), .val (.int k), .unset, .unset, .unset, .unset, .unset] [(.int (p5.toInt8.toInt32)), (.int (3 : Int32)), (.ref b214), (.ref b214)])) _
    obtain ⟨T224, h224, X224, e224, W224, V224, st224⟩ := stB' X222 hx hZ e222 f223 (j := (3 : Int32)) (by decide) (by first | decide | (simp only [List.length_cons, List.length_nil]; decide) | rfl) (g := (mkF m 43 #[.val (.int p0), .val (.int p1), .val (.int p2), .val (.int p3), .val (.int p4), .val (.int p5), .val (.int (2 : Int32)), .val (.int k), .unset, .unset, .unset, .unset, .unset] [(.int (p5.toInt8.toInt32)), (.int (3 : Int32)), (.ref b214), (.ref b214)])) rfl rfl (hb hby at_43)
    refine Go.via (st224) ?_
    have N224 := Fr.snoc X224 N222 ge215
    have f225 : Ia Z h224 b214 .byte [(nar .byte (p2.toInt8.toInt32)), (nar .byte (p3.toInt8.toInt32)), (nar .byte (p4.toInt8.toInt32)), (nar .byte (p5.toInt8.toInt32))] := V224
    show Go p e below (T224.setTop (mkF m 44 #[.val (.int p0), .val (.int p1), .val (.int p2), .val (.int p3), .val (.int p4), .val (.int p5), .val (.int (2 : Int32)), .val (.int k), .unset, .unset, .unset, .unset, .unset] [(.ref b214)])) _
    refine Go.via (fun _ => XS.astore X224.here hx rfl (hb hby at_44) rfl rfl (l' := #[.val (.int p0), .val (.int p1), .val (.int p2), .val (.int p3), .val (.int p4), .val (.int p5), .val (.int (2 : Int32)), .val (.int k), .val (.ref b214), .unset, .unset, .unset, .unset]) rfl) ?_
    show Go p e below (T224.setTop (mkF m 46 #[.val (.int p0), .val (.int p1), .val (.int p2), .val (.int p3), .val (.int p4), .val (.int p5), .val (.int (2 : Int32)), .val (.int k), .val (.ref b214), .unset, .unset, .unset, .unset] [])) _
    have k227 : Keep h0 h224 [] := ((((((Keep.refl h0 []).ext E214).wr W218 (Or.inr sz216)).wr W220 (Or.inr sz216)).wr W222 (Or.inr sz216)).wr W224 (Or.inr sz216))
    have z228 : n0 ≤ h224.size := (Nat.le_trans (Nat.le_trans (Nat.le_trans (Nat.le_trans (Nat.le_trans Z0 E214.1) (Keep.of_wr W218).1) (Keep.of_wr W220).1) (Keep.of_wr W222).1) (Keep.of_wr W224).1)
    obtain ⟨T226, h226, X226, e226, E226, A226, D226, -, st226⟩ := newO X224 hx hZ hown (tw hw 2 rfl) (tw hw 3 rfl) (tw hw 4 rfl) e224 (g := (mkF m 46 #[.val (.int p0), .val (.int p1), .val (.int p2), .val (.int p3), .val (.int p4), .val (.int p5), .val (.int (2 : Int32)), .val (.int k), .val (.ref b214), .unset, .unset, .unset, .unset] [])) rfl (hb hby at_46) (by decide) (by decide)
    obtain ⟨b226, g226⟩ : ∃ z, z = h224.size := ⟨_, rfl⟩
    rw [← g226] at A226 D226 st226
    have ne229 : b214 ≠ b226 := Nat.ne_of_lt (Nat.lt_of_lt_of_le f225.lt (Nat.le_of_eq g226.symm))
    have ge230 : n0 ≤ b226 := Nat.le_trans z228 (Nat.le_of_eq g226.symm)
    have sz231 : h0.size ≤ b226 := Nat.le_trans k227.1 (Nat.le_of_eq g226.symm)
    refine Go.via (st226) ?_
    have f232 : Fld Z h226 b226 "com/example/quicksettle/quicksettle/Records$Writer" "bytes" "[B" .null := D226 (Or.inl (tw hw 17 rfl)) (ty := (.array .byte)) (by decide)
    have f233 : Fld Z h226 b226 "com/example/quicksettle/quicksettle/Records$Writer" "size" "I" (.int (0 : Int32)) := D226 (Or.inl (tw hw 19 rfl)) (ty := .int) (by decide)
    show Go p e below (T226.setTop (mkF m 49 #[.val (.int p0), .val (.int p1), .val (.int p2), .val (.int p3), .val (.int p4), .val (.int p5), .val (.int (2 : Int32)), .val (.int k), .val (.ref b214), .unset, .unset, .unset, .unset] [(.ref b226)])) _
    refine Go.via (fun _ => XS.dup X226.here hx rfl (hb hby at_49) rfl rfl) ?_
    have z235 : n0 ≤ h226.size := (Nat.le_trans z228 E226.1)
    obtain ⟨_, _, ⟨T234, L234, k234, n234⟩, -, X234, ⟨Lc234, hQ234, l234, y234, z234⟩, st234⟩ := X226.specialBack hx (y := (⟨"com/example/quicksettle/quicksettle/Records$Writer", "<init>", "()V"⟩ : MethodName)) rfl hown (mvT hZ (tw hw 5 rfl)) (mvT hZ (tw hw 6 rfl)) (mvT hZ (tw hw 7 rfl)) (by decide) (backOf (W := 1) (rm1 l Z a0 hw [] b226  h226 n0 z235 A226 f232 f233 ge230) hZ (tw hw 7 rfl) (tw hw 4 rfl) (by decide) (by decide)) (g := (mkF m 50 #[.val (.int p0), .val (.int p1), .val (.int p2), .val (.int p3), .val (.int p4), .val (.int p5), .val (.int (2 : Int32)), .val (.int k), .val (.ref b214), .unset, .unset, .unset, .unset] [(.ref b226), (.ref b226)])) rfl (by rw [hml]; rfl) (Steps.refl _) (a := b226) (argsL := []) (rest := [(.ref b226)]) (lenOf pd__28_29V rfl) rfl (by show 2 * 0 + _ ≤ _; exact Nat.le_of_eq rfl) (hb hby at_50) (fun _ _ => ⟨rfl, e226, (by decide : 2 + 1 ≤ _), (by decide : 6 + 4096 ≤ _)⟩)
    dsimp only [Pt.U, Pt.locs, Pt.cells, Pt.slots] at X234 l234 y234 z234 st234 hQ234
    subst l234 y234 z234
    obtain ⟨b236, rfl, N234q, K234q, fz_b236, f237, f238, f239, f240⟩ := hQ234
    have N234 := Fr.app N224 N234q
    refine Go.via (fun _ kQ => st234.trans kQ) ?_
    have f241 : Ia Z h226 b214 .byte [(nar .byte (p2.toInt8.toInt32)), (nar .byte (p3.toInt8.toInt32)), (nar .byte (p4.toInt8.toInt32)), (nar .byte (p5.toInt8.toInt32))] := (f225.ext E226)
    have ne242 : b214 ≠ b236 := Nat.ne_of_lt (Nat.lt_of_lt_of_le f241.lt fz_b236)
    have ne243 : b226 ≠ b236 := Nat.ne_of_lt (Nat.lt_of_lt_of_le A226.lt fz_b236)
    have ge244 : n0 ≤ b236 := Nat.le_trans z235 fz_b236
    have k246 : Keep h0 h226 [] := (k227.ext E226)
    have sz245 : h0.size ≤ b236 := Nat.le_trans k246.1 fz_b236
    have e234 : T234.heap = T234.heap := rfl
    have f247 : Exa Z T234.heap b226 "com/example/quicksettle/quicksettle/Records$Writer" := f237
    have f248 : Fld Z T234.heap b226 "com/example/quicksettle/quicksettle/Records$Writer" "bytes" "[B" (.ref b236) := f238
    have f249 : Fld Z T234.heap b226 "com/example/quicksettle/quicksettle/Records$Writer" "size" "I" (.int (12 : Int32)) := f239
    have f250 : Ia Z T234.heap b236 .byte (List.replicate (4096 : Int32).toNatClampNeg 0) := f240
    show Go p e below (T234.setTop (mkF m 53 #[.val (.int p0), .val (.int p1), .val (.int p2), .val (.int p3), .val (.int p4), .val (.int p5), .val (.int (2 : Int32)), .val (.int k), .val (.ref b214), .unset, .unset, .unset, .unset] [(.ref b226)])) _
    refine Go.via (fun _ => XS.astore X234.here hx rfl (hb hby at_53) rfl rfl (l' := #[.val (.int p0), .val (.int p1), .val (.int p2), .val (.int p3), .val (.int p4), .val (.int p5), .val (.int (2 : Int32)), .val (.int k), .val (.ref b214), .val (.ref b226), .unset, .unset, .unset]) rfl) ?_
    show Go p e below (T234.setTop (mkF m 55 #[.val (.int p0), .val (.int p1), .val (.int p2), .val (.int p3), .val (.int p4), .val (.int p5), .val (.int (2 : Int32)), .val (.int k), .val (.ref b214), .val (.ref b226), .unset, .unset, .unset] [])) _
    refine Go.via (fun _ => XS.iload X234.here hx rfl (hb hby at_55) rfl) ?_
    refine Go.via (fun _ => XS.ifNo X234.here hx rfl (hb hby at_57) rfl ((if0 _ _).trans (tlt ((by decide) : (0 : Int32) < (2 : Int32))).2.2.2)) ?_
    show Go p e below (T234.setTop (mkF m 60 #[.val (.int p0), .val (.int p1), .val (.int p2), .val (.int p3), .val (.int p4), .val (.int p5), .val (.int (2 : Int32)), .val (.int k), .val (.ref b214), .val (.ref b226), .unset, .unset, .unset] [])) _
    refine Go.via (fun _ => XS.aload X234.here hx rfl (hb hby at_60) rfl rfl) ?_
    refine Go.via (fun _ => XS.iloadN X234.here hx rfl (hb hby at_62) rfl) ?_
    have z252 : n0 ≤ T234.heap.size := (Nat.le_trans z235 K234q.1)
    obtain ⟨cq251, kq251, q251a, q251b, q251c⟩ := isOf hZ e234 f247
    obtain ⟨_, _, ⟨T251, L251, k251, n251⟩, -, X251, ⟨Lc251, hQ251, l251, y251, z251⟩, st251⟩ := X234.virtualBack hx (y := (⟨"com/example/quicksettle/quicksettle/Records$Writer", "write", "(I)V"⟩ : MethodName)) (z := (⟨"com/example/quicksettle/quicksettle/Records$Writer", "write", "(I)V"⟩ : MethodName)) hown (mvT hZ (tw hw 52 rfl)) (mvT hZ (tw hw 53 rfl)) (notFace_of_selects (args := #[]) (mvT hZ (tw hw 55 rfl))) (mvT hZ (tw hw 55 rfl)) (mvT hZ (tw hw 54 rfl)) (by decide) (backOf (W := 0) (rm11 l Z a0 hw [] b226 p2 b236 (List.replicate (4096 : Int32).toNatClampNeg 0) (12 : Int32) [] T234.heap n0 z252 f247 f249 f248 f250 ge230 ge244 ne243 own_init (by first | decide | (simp only [List.length_cons, List.length_nil]; decide) | rfl) (by first | decide | (simp only [List.length_cons, List.length_nil]; decide) | rfl)) hZ (tw hw 56 rfl) (tw hw 4 rfl) (by decide) (by decide)) q251a q251c (g := (mkF m 63 #[.val (.int p0), .val (.int p1), .val (.int p2), .val (.int p3), .val (.int p4), .val (.int p5), .val (.int (2 : Int32)), .val (.int k), .val (.ref b214), .val (.ref b226), .unset, .unset, .unset] [(.int p2), (.ref b226)])) rfl (by rw [hml]; rfl) (Steps.refl _) (argsL := [(.int p2)]) (rest := []) (lenOf pd__28I_29V rfl) rfl (by show 2 * 0 + _ ≤ _; exact Nat.le_of_eq rfl) (hb hby at_63) (fun _ _ => ⟨rfl, e234, (by decide : 3 + 0 ≤ _), (by decide : 4102 + 0 ≤ _)⟩)
    dsimp only [Pt.U, Pt.locs, Pt.cells, Pt.slots] at X251 l251 y251 z251 st251 hQ251
    subst l251 y251 z251
    obtain ⟨v253, rfl, N251q, K251q, f254, f255, f256, f257, qp258⟩ := hQ251
    have N251 := Fr.app N234 N251q
    refine Go.via (fun _ kQ => st251.trans kQ) ?_
    have e251 : T251.heap = T251.heap := rfl
    have f259 : Exa Z T251.heap b226 "com/example/quicksettle/quicksettle/Records$Writer" := f254
    have f260 : Fld Z T251.heap b226 "com/example/quicksettle/quicksettle/Records$Writer" "size" "I" (.int (13 : Int32)) := f255
    have f261 : Fld Z T251.heap b226 "com/example/quicksettle/quicksettle/Records$Writer" "bytes" "[B" (.ref b236) := f256
    have f262 : Ia Z T251.heap b236 .byte v253 := f257
    show Go p e below (T251.setTop (mkF m 66 #[.val (.int p0), .val (.int p1), .val (.int p2), .val (.int p3), .val (.int p4), .val (.int p5), .val (.int (2 : Int32)), .val (.int k), .val (.ref b214), .val (.ref b226), .unset, .unset, .unset] [])) _
    refine Go.via (fun _ => XS.iload X251.here hx rfl (hb hby at_66) rfl) ?_
    refine Go.via (fun _ => XS.iconst X251.here hx rfl (hb hby at_68)) ?_
    refine Go.via (fun _ => XS.icmpNo X251.here hx rfl (hb hby at_69) rfl (tlt ((by decide) : (1 : Int32) < (2 : Int32))).2.2.2) ?_
    show Go p e below (T251.setTop (mkF m 72 #[.val (.int p0), .val (.int p1), .val (.int p2), .val (.int p3), .val (.int p4), .val (.int p5), .val (.int (2 : Int32)), .val (.int k), .val (.ref b214), .val (.ref b226), .unset, .unset, .unset] [])) _
    refine Go.via (fun _ => XS.aload X251.here hx rfl (hb hby at_72) rfl rfl) ?_
    refine Go.via (fun _ => XS.iloadN X251.here hx rfl (hb hby at_74) rfl) ?_
    have z264 : n0 ≤ T251.heap.size := (Nat.le_trans z252 K251q.1)
    obtain ⟨cq263, kq263, q263a, q263b, q263c⟩ := isOf hZ e251 f259
    obtain ⟨_, _, ⟨T263, L263, k263, n263⟩, -, X263, ⟨Lc263, hQ263, l263, y263, z263⟩, st263⟩ := X251.virtualBack hx (y := (⟨"com/example/quicksettle/quicksettle/Records$Writer", "write", "(I)V"⟩ : MethodName)) (z := (⟨"com/example/quicksettle/quicksettle/Records$Writer", "write", "(I)V"⟩ : MethodName)) hown (mvT hZ (tw hw 52 rfl)) (mvT hZ (tw hw 53 rfl)) (notFace_of_selects (args := #[]) (mvT hZ (tw hw 55 rfl))) (mvT hZ (tw hw 55 rfl)) (mvT hZ (tw hw 54 rfl)) (by decide) (backOf (W := 0) (rm11 l Z a0 hw [] b226 p3 b236 v253 (13 : Int32) [(own_b p2)] T251.heap n0 z264 f259 f260 f261 f262 ge230 ge244 ne243 qp258 (by first | decide | (simp only [List.length_cons, List.length_nil]; decide) | rfl) (by first | decide | (simp only [List.length_cons, List.length_nil]; decide) | rfl)) hZ (tw hw 56 rfl) (tw hw 4 rfl) (by decide) (by decide)) q263a q263c (g := (mkF m 75 #[.val (.int p0), .val (.int p1), .val (.int p2), .val (.int p3), .val (.int p4), .val (.int p5), .val (.int (2 : Int32)), .val (.int k), .val (.ref b214), .val (.ref b226), .unset, .unset, .unset] [(.int p3), (.ref b226)])) rfl (by rw [hml]; rfl) (Steps.refl _) (argsL := [(.int p3)]) (rest := []) (lenOf pd__28I_29V rfl) rfl (by show 2 * 0 + _ ≤ _; exact Nat.le_of_eq rfl) (hb hby at_75) (fun _ _ => ⟨rfl, e251, (by decide : 3 + 0 ≤ _), (by decide : 4102 + 0 ≤ _)⟩)
    dsimp only [Pt.U, Pt.locs, Pt.cells, Pt.slots] at X263 l263 y263 z263 st263 hQ263
    subst l263 y263 z263
    obtain ⟨v265, rfl, N263q, K263q, f266, f267, f268, f269, qp270⟩ := hQ263
    have N263 := Fr.app N251 N263q
    refine Go.via (fun _ kQ => st263.trans kQ) ?_
    have e263 : T263.heap = T263.heap := rfl
    have f271 : Exa Z T263.heap b226 "com/example/quicksettle/quicksettle/Records$Writer" := f266
    have f272 : Fld Z T263.heap b226 "com/example/quicksettle/quicksettle/Records$Writer" "size" "I" (.int (14 : Int32)) := f267
    have f273 : Fld Z T263.heap b226 "com/example/quicksettle/quicksettle/Records$Writer" "bytes" "[B" (.ref b236) := f268
    have f274 : Ia Z T263.heap b236 .byte v265 := f269
    show Go p e below (T263.setTop (mkF m 78 #[.val (.int p0), .val (.int p1), .val (.int p2), .val (.int p3), .val (.int p4), .val (.int p5), .val (.int (2 : Int32)), .val (.int k), .val (.ref b214), .val (.ref b226), .unset, .unset, .unset] [])) _
    refine Go.via (fun _ => XS.iload X263.here hx rfl (hb hby at_78) rfl) ?_
    refine Go.via (fun _ => XS.iconst X263.here hx rfl (hb hby at_80)) ?_
    refine Go.via (fun _ => XS.icmpYes X263.here hx rfl (pc0 := 81) (pc' := 91) rfl (hb hby at_81) rfl (flt ((by decide) : ¬ ((2 : Int32) < (2 : Int32)))).2.2.2 (by decide) (by decide)) ?_
    show Go p e below (T263.setTop (mkF m 91 #[.val (.int p0), .val (.int p1), .val (.int p2), .val (.int p3), .val (.int p4), .val (.int p5), .val (.int (2 : Int32)), .val (.int k), .val (.ref b214), .val (.ref b226), .unset, .unset, .unset] [])) _
    refine Go.via (fun _ => XS.iload X263.here hx rfl (hb hby at_91) rfl) ?_
    refine Go.via (fun _ => XS.iconst X263.here hx rfl (hb hby at_93)) ?_
    refine Go.via (fun _ => XS.icmpYes X263.here hx rfl (pc0 := 94) (pc' := 104) rfl (hb hby at_94) rfl (flt ((by decide) : ¬ ((3 : Int32) < (2 : Int32)))).2.2.2 (by decide) (by decide)) ?_
    have f275 : Ia Z T263.heap b214 .byte [(nar .byte (p2.toInt8.toInt32)), (nar .byte (p3.toInt8.toInt32)), (nar .byte (p4.toInt8.toInt32)), (nar .byte (p5.toInt8.toInt32))] := (((f241.keep K234q (ninS ne229 nin0)).keep K251q (ninS ne229 (ninS ne242 nin0))).keep K263q (ninS ne229 (ninS ne242 nin0)))
    have z276 : n0 ≤ T263.heap.size := (Nat.le_trans z264 K263q.1)
    have k277 : Keep h0 T263.heap [] := (((k246.trans K234q (allS (Or.inr sz231) all0)).trans K251q (allS (Or.inr sz231) (allS (Or.inr sz245) all0))).trans K263q (allS (Or.inr sz231) (allS (Or.inr sz245) all0)))
    exact J T263 _ T263.heap (2 : Int32) k b214 b226 b236 (14 : Int32) v265 [(own_b p2), (own_b p3)] [(own_b p4), (own_b p5)] X263 e263 N263 z276 k277 f271 f273 f272 f274 f275 ne243 ne229 ne242 ge230 ge244 ge215 sz231 sz245 sz216 qp270 (by first | decide | (simp only [List.length_cons, List.length_nil]; decide) | rfl) (by first | decide | (simp only [List.length_cons, List.length_nil]; decide) | rfl) (by first | decide | (simp only [List.length_cons, List.length_nil]; decide) | rfl) hkk.1 hkk.2.1
  · have hkk := own_k p1 (3 : Int32) (by decide) (by decide)
    rw [hk] at hkk
    show Go p e below (s₁.setTop (mkF m 19 #[.val (.int p0), .val (.int p1), .val (.int p2), .val (.int p3), .val (.int p4), .val (.int p5), .val (.int (3 : Int32)), .val (.int k), .unset, .unset, .unset, .unset, .unset] [])) _
    refine Go.via (fun _ => XS.iconst X0.here hx rfl (hb hby at_19)) ?_
    obtain ⟨T278, h278, k278, X278, e278, E278, A278, B278, st278⟩ := newPE X0 hx hZ (tw hw 1 rfl) e0 (g := (mkF m 20 #[.val (.int p0), .val (.int p1), .val (.int p2), .val (.int p3), .val (.int p4), .val (.int p5), .val (.int (3 : Int32)), .val (.int k), .unset, .unset, .unset, .unset, .unset] [(.int (4 : Int32))])) rfl (hb hby at_20) rfl (by decide) (cap := 4) (by decide) (by decide) (by decide) (by decide) (ad := "[B") (by decide)
    obtain ⟨b278, g278⟩ : ∃ z, z = h0.size := ⟨_, rfl⟩
    rw [← g278] at A278 B278 st278
    have ge279 : n0 ≤ b278 := Nat.le_trans Z0 (Nat.le_of_eq g278.symm)
    have sz280 : h0.size ≤ b278 := Nat.le_trans (Keep.refl h0 []).1 (Nat.le_of_eq g278.symm)
    refine Go.via (st278) ?_
    have f281 : Ia Z h278 b278 .byte [(0 : Int32), (0 : Int32), (0 : Int32), (0 : Int32)] := Ia.new A278 rfl
    show Go p e below (T278.setTop (mkF m 22 #[.val (.int p0), .val (.int p1), .val (.int p2), .val (.int p3), .val (.int p4), .val (.int p5), .val (.int (3 : Int32)), .val (.int k), .unset, .unset, .unset, .unset, .unset] [(.ref b278)])) _
    refine Go.via (fun _ => XS.dup X278.here hx rfl (hb hby at_22) rfl rfl) ?_
    refine Go.via (fun _ => XS.iconst X278.here hx rfl (hb hby at_23)) ?_
    refine Go.via (fun _ => XS.iloadN X278.here hx rfl (hb hby at_24) rfl) ?_
    refine Go.via (fun _ => XS.i2b X278.here hx rfl (hb hby at_25) rfl) ?_
    show Go p e below (T278.setTop (mkF m 26 #[.val (.int p0), .val (.int p1), .val (.int p2), .val (.int p3), .val (.int p4), .val (.int p5), .val (.int (3 : Int32)), .val (.int k), .unset, .unset, .unset, .unset, .unset] [(.int (p2.toInt8.toInt32)), (.int (0 : Int32)), (.ref b278), (.ref b278)])) _
    obtain ⟨T282, h282, X282, e282, W282, V282, st282⟩ := stB' X278 hx hZ e278 f281 (j := (0 : Int32)) (by decide) (by first | decide | (simp only [List.length_cons, List.length_nil]; decide) | rfl) (g := (mkF m 26 #[.val (.int p0), .val (.int p1), .val (.int p2), .val (.int p3), .val (.int p4), .val (.int p5), .val (.int (3 : Int32)), .val (.int k), .unset, .unset, .unset, .unset, .unset] [(.int (p2.toInt8.toInt32)), (.int (0 : Int32)), (.ref b278), (.ref b278)])) rfl rfl (hb hby at_26)
    refine Go.via (st282) ?_
    have N282 := Fr.snoc X282 N0 ge279
    have f283 : Ia Z h282 b278 .byte [(nar .byte (p2.toInt8.toInt32)), (0 : Int32), (0 : Int32), (0 : Int32)] := V282
    show Go p e below (T282.setTop (mkF m 27 #[.val (.int p0), .val (.int p1), .val (.int p2), .val (.int p3), .val (.int p4), .val (.int p5), .val (.int (3 : Int32)), .val (.int k), .unset, .unset, .unset, .unset, .unset] [(.ref b278)])) _
    refine Go.via (fun _ => XS.dup X282.here hx rfl (hb hby at_27) rfl rfl) ?_
    refine Go.via (fun _ => XS.iconst X282.here hx rfl (hb hby at_28)) ?_
    refine Go.via (fun _ => XS.iloadN X282.here hx rfl (hb hby at_29) rfl) ?_
    refine Go.via (fun _ => XS.i2b X282.here hx rfl (hb hby at_30) rfl) ?_
    show Go p e below (T282.setTop (mkF m 31 #[.val (.int p0), .val (.int p1), .val (.int p2), .val (.int p3), .val (.int p4), .val (.int p5), .val (.int (3 : Int32)), .val (.int k), .unset, .unset, .unset, .unset, .unset] [(.int (p3.toInt8.toInt32)), (.int (1 : Int32)), (.ref b278), (.ref b278)])) _
    obtain ⟨T284, h284, X284, e284, W284, V284, st284⟩ := stB' X282 hx hZ e282 f283 (j := (1 : Int32)) (by decide) (by first | decide | (simp only [List.length_cons, List.length_nil]; decide) | rfl) (g := (mkF m 31 #[.val (.int p0), .val (.int p1), .val (.int p2), .val (.int p3), .val (.int p4), .val (.int p5), .val (.int (3 : Int32)), .val (.int k), .unset, .unset, .unset, .unset, .unset] [(.int (p3.toInt8.toInt32)), (.int (1 : Int32)), (.ref b278), (.ref b278)])) rfl rfl (hb hby at_31)
    refine Go.via (st284) ?_
    have N284 := Fr.snoc X284 N282 ge279
    have f285 : Ia Z h284 b278 .byte [(nar .byte (p2.toInt8.toInt32)), (nar .byte (p3.toInt8.toInt32)), (0 : Int32), (0 : Int32)] := V284
    show Go p e below (T284.setTop (mkF m 32 #[.val (.int p0), .val (.int p1), .val (.int p2), .val (.int p3), .val (.int p4), .val (.int p5), .val (.int (3 : Int32)), .val (.int k), .unset, .unset, .unset, .unset, .unset] [(.ref b278)])) _
    refine Go.via (fun _ => XS.dup X284.here hx rfl (hb hby at_32) rfl rfl) ?_
    refine Go.via (fun _ => XS.iconst X284.here hx rfl (hb hby at_33)) ?_
    refine Go.via (fun _ => XS.iload X284.here hx rfl (hb hby at_34) rfl) ?_
    refine Go.via (fun _ => XS.i2b X284.here hx rfl (hb hby at_36) rfl) ?_
    show Go p e below (T284.setTop (mkF m 37 #[.val (.int p0), .val (.int p1), .val (.int p2), .val (.int p3), .val (.int p4), .val (.int p5), .val (.int (3 : Int32)), .val (.int k), .unset, .unset, .unset, .unset, .unset] [(.int (p4.toInt8.toInt32)), (.int (2 : Int32)), (.ref b278), (.ref b278)])) _
    obtain ⟨T286, h286, X286, e286, W286, V286, st286⟩ := stB' X284 hx hZ e284 f285 (j := (2 : Int32)) (by decide) (by first | decide | (simp only [List.length_cons, List.length_nil]; decide) | rfl) (g := (mkF m 37 #[.val (.int p0), .val (.int p1), .val (.int p2), .val (.int p3), .val (.int p4), .val (.int p5), .val (.int (3 : Int32)), .val (.int k), .unset, .unset, .unset, .unset, .unset] [(.int (p4.toInt8.toInt32)), (.int (2 : Int32)), (.ref b278), (.ref b278)])) rfl rfl (hb hby at_37)
    refine Go.via (st286) ?_
    have N286 := Fr.snoc X286 N284 ge279
    have f287 : Ia Z h286 b278 .byte [(nar .byte (p2.toInt8.toInt32)), (nar .byte (p3.toInt8.toInt32)), (nar .byte (p4.toInt8.toInt32)), (0 : Int32)] := V286
    show Go p e below (T286.setTop (mkF m 38 #[.val (.int p0), .val (.int p1), .val (.int p2), .val (.int p3), .val (.int p4), .val (.int p5), .val (.int (3 : Int32)), .val (.int k), .unset, .unset, .unset, .unset, .unset] [(.ref b278)])) _
    refine Go.via (fun _ => XS.dup X286.here hx rfl (hb hby at_38) rfl rfl) ?_
    refine Go.via (fun _ => XS.iconst X286.here hx rfl (hb hby at_39)) ?_
    refine Go.via (fun _ => XS.iload X286.here hx rfl (hb hby at_40) rfl) ?_
    refine Go.via (fun _ => XS.i2b X286.here hx rfl (hb hby at_42) rfl) ?_
    show Go p e below (T286.setTop (mkF m 43 #[.val (.int p0), .val (.int p1), .val (.int p2), .val (.int p3), .val (.int p4), .val (.int p5), .val (.int (3 : Int32)), .val (.int k), .unset, .unset, .unset, .unset, .unset] [(.int (p5.toInt8.toInt32)), (.int (3 : Int32)), (.ref b278), (.ref b278)])) _
    obtain ⟨T288, h288, X288, e288, W288, V288, st288⟩ := stB' X286 hx hZ e286 f287 (j := (3 : Int32)) (by decide) (by first | decide | (simp only [List.length_cons, List.length_nil]; decide) | rfl) (g := (mkF m 43 #[.val (.int p0), .val (.int p1), .val (.int p2), .val (.int p3), .val (.int p4), .val (.int p5), .val (.int (3 : Int32)), .val (.int k), .unset, .unset, .unset, .unset, .unset] [(.int (p5.toInt8.toInt32)), (.int (3 : Int32)), (.ref b278), (.ref b278)])) rfl rfl (hb hby at_43)
    refine Go.via (st288) ?_
    have N288 := Fr.snoc X288 N286 ge279
    have f289 : Ia Z h288 b278 .byte [(nar .byte (p2.toInt8.toInt32)), (nar .byte (p3.toInt8.toInt32)), (nar .byte (p4.toInt8.toInt32)), (nar .byte (p5.toInt8.toInt32))] := V288
    show Go p e below (T288.setTop (mkF m 44 #[.val (.int p0), .val (.int p1), .val (.int p2), .val (.int p3), .val (.int p4), .val (.int p5), .val (.int (3 : Int32)), .val (.int k), .unset, .unset, .unset, .unset, .unset] [(.ref b278)])) _
    refine Go.via (fun _ => XS.astore X288.here hx rfl (hb hby at_44) rfl rfl (l' := #[.val (.int p0), .val (.int p1), .val (.int p2), .val (.int p3), .val (.int p4), .val (.int p5), .val (.int (3 : Int32)), .val (.int k), .val (.ref b278), .unset, .unset, .unset, .unset]) rfl) ?_
    show Go p e below (T288.setTop (mkF m 46 #[.val (.int p0), .val (.int p1), .val (.int p2), .val (.int p3), .val (.int p4), .val (.int p5), .val (.int (3 : Int32)), .val (.int k), .val (.ref b278), .unset, .unset, .unset, .unset] [])) _
    have k291 : Keep h0 h288 [] := ((((((Keep.refl h0 []).ext E278).wr W282 (Or.inr sz280)).wr W284 (Or.inr sz280)).wr W286 (Or.inr sz280)).wr W288 (Or.inr sz280))
    have z292 : n0 ≤ h288.size := (Nat.le_trans (Nat.le_trans (Nat.le_trans (Nat.le_trans (Nat.le_trans Z0 E278.1) (Keep.of_wr W282).1) (Keep.of_wr W284).1) (Keep.of_wr W286).1) (Keep.of_wr W288).1)
    obtain ⟨T290, h290, X290, e290, E290, A290, D290, -, st290⟩ := newO X288 hx hZ hown (tw hw 2 rfl) (tw hw 3 rfl) (tw hw 4 rfl) e288 (g := (mkF m 46 #[.val (.int p0), .val (.int p1), .val (.int p2), .val (.int p3), .val (.int p4), .val (.int p5), .val (.int (3 : Int32)), .val (.int k), .val (.ref b278), .unset, .unset, .unset, .unset] [])) rfl (hb hby at_46) (by decide) (by decide)
    obtain ⟨b290, g290⟩ : ∃ z, z = h288.size := ⟨_, rfl⟩
    rw [← g290] at A290 D290 st290
    have ne293 : b278 ≠ b290 := Nat.ne_of_lt (Nat.lt_of_lt_of_le f289.lt (Nat.le_of_eq g290.symm))
    have ge294 : n0 ≤ b290 := Nat.le_trans z292 (Nat.le_of_eq g290.symm)
    have sz295 : h0.size ≤ b290 := Nat.le_trans k291.1 (Nat.le_of_eq g290.symm)
    refine Go.via (st290) ?_
    have f296 : Fld Z h290 b290 "com/example/quicksettle/quicksettle/Records$Writer" "bytes" "[B" .null := D290 (Or.inl (tw hw 17 rfl)) (ty := (.array .byte)) (by decide)
    have f297 : Fld Z h290 b290 "com/example/quicksettle/quicksettle/Records$Writer" "size" "I" (.int (0 : Int32)) := D290 (Or.inl (tw hw 19 rfl)) (ty := .int) (by decide)
    show Go p e below (T290.setTop (mkF m 49 #[.val (.int p0), .val (.int p1), .val (.int p2), .val (.int p3), .val (.int p4), .val (.int p5), .val (.int (3 : Int32)), .val (.int k), .val (.ref b278), .unset, .unset, .unset, .unset] [(.ref b290)])) _
    refine Go.via (fun _ => XS.dup X290.here hx rfl (hb hby at_49) rfl rfl) ?_
    have z299 : n0 ≤ h290.size := (Nat.le_trans z292 E290.1)
    obtain ⟨_, _, ⟨T298, L298, k298, n298⟩, -, X298, ⟨Lc298, hQ298, l298, y298, z298⟩, st298⟩ := X290.specialBack hx (y := (⟨"com/example/quicksettle/quicksettle/Records$Writer", "<init>", "()V"⟩ : MethodName)) rfl hown (mvT hZ (tw hw 5 rfl)) (mvT hZ (tw hw 6 rfl)) (mvT hZ (tw hw 7 rfl)) (by decide) (backOf (W := 1) (rm1 l Z a0 hw [] b290  h290 n0 z299 A290 f296 f297 ge294) hZ (tw hw 7 rfl) (tw hw 4 rfl) (by decide) (by decide)) (g := (mkF m 50 #[.val (.int p0), .val (.int p1), .val (.int p2), .val (.int p3), .val (.int p4), .val (.int p5), .val (.int (3 : Int32)), .val (.int k), .val (.ref b278), .unset, .unset, .unset, .unset] [(.ref b290), (.ref b290)])) rfl (by rw [hml]; rfl) (Steps.refl _) (a := b290) (argsL := []) (rest := [(.ref b290)]) (lenOf pd__28_29V rfl) rfl (by show 2 * 0 + _ ≤ _; exact Nat.le_of_eq rfl) (hb hby at_50) (fun _ _ => ⟨rfl, e290, (by decide : 2 + 1 ≤ _), (by decide : 6 + 4096 ≤ _)⟩)
    dsimp only [Pt.U, Pt.locs, Pt.cells, Pt.slots] at X298 l298 y298 z298 st298 hQ298
    subst l298 y298 z298
    obtain ⟨b300, rfl, N298q, K298q, fz_b300, f301, f302, f303, f304⟩ := hQ298
    have N298 := Fr.app N288 N298q
    refine Go.via (fun _ kQ => st298.trans kQ) ?_
    have f305 : Ia Z h290 b278 .byte [(nar .byte (p2.toInt8.toInt32)), (nar .byte (p3.toInt8.toInt32)), (nar .byte (p4.toInt8.toInt32)), (nar .byte (p5.toInt8.toInt32))] := (f289.ext E290)
    have ne306 : b278 ≠ b300 := Nat.ne_of_lt (Nat.lt_of_lt_of_le f305.lt fz_b300)
    have ne307 : b290 ≠ b300 := Nat.ne_of_lt (Nat.lt_of_lt_of_le A290.lt fz_b300)
    have ge308 : n0 ≤ b300 := Nat.le_trans z299 fz_b300
    have k310 : Keep h0 h290 [] := (k291.ext E290)
    have sz309 : h0.size ≤ b300 := Nat.le_trans k310.1 fz_b300
    have e298 : T298.heap = T298.heap := rfl
    have f311 : Exa Z T298.heap b290 "com/example/quicksettle/quicksettle/Records$Writer" := f301
    have f312 : Fld Z T298.heap b290 "com/example/quicksettle/quicksettle/Records$Writer" "bytes" "[B" (.ref b300) := f302
    have f313 : Fld Z T298.heap b290 "com/example/quicksettle/quicksettle/Records$Writer" "size" "I" (.int (12 : Int32)) := f303
    have f314 : Ia Z T298.heap b300 .byte (List.replicate (4096 : Int32).toNatClampNeg 0) := f304
    show Go p e below (T298.setTop (mkF m 53 #[.val (.int p0), .val (.int p1), .val (.int p2), .val (.int p3), .val (.int p4), .val (.int p5), .val (.int (3 : Int32)), .val (.int k), .val (.ref b278), .unset, .unset, .unset, .unset] [(.ref b290)])) _
    refine Go.via (fun _ => XS.astore X298.here hx rfl (hb hby at_53) rfl rfl (l' := #[.val (.int p0), .val (.int p1), .val (.int p2), .val (.int p3), .val (.int p4), .val (.int p5), .val (.int (3 : Int32)), .val (.int k), .val (.ref b278), .val (.ref b290), .unset, .unset, .unset]) rfl) ?_
    show Go p e below (T298.setTop (mkF m 55 #[.val (.int p0), .val (.int p1), .val (.int p2), .val (.int p3), .val (.int p4), .val (.int p5), .val (.int (3 : Int32)), .val (.int k), .val (.ref b278), .val (.ref b290), .unset, .unset, .unset] [])) _
    refine Go.via (fun _ => XS.iload X298.here hx rfl (hb hby at_55) rfl) ?_
    refine Go.via (fun _ => XS.ifNo X298.here hx rfl (hb hby at_57) rfl ((if0 _ _).trans (tlt ((by decide) : (0 : Int32) < (3 : Int32))).2.2.2)) ?_
    show Go p e below (T298.setTop (mkF m 60 #[.val (.int p0), .val (.int p1), .val (.int p2), .val (.int p3), .val (.int p4), .val (.int p5), .val (.int (3 : Int32)), .val (.int k), .val (.ref b278), .val (.ref b290), .unset, .unset, .unset] [])) _
    refine Go.via (fun _ => XS.aload X298.here hx rfl (hb hby at_60) rfl rfl) ?_
    refine Go.via (fun _ => XS.iloadN X298.here hx rfl (hb hby at_62) rfl) ?_
    have z316 : n0 ≤ T298.heap.size := (Nat.le_trans z299 K298q.1)
    obtain ⟨cq315, kq315, q315a, q315b, q315c⟩ := isOf hZ e298 f311
    obtain ⟨_, _, ⟨T315, L315, k315, n315⟩, -, X315, ⟨Lc315, hQ315, l315, y315, z315⟩, st315⟩ := X298.virtualBack hx (y := (⟨"com/example/quicksettle/quicksettle/Records$Writer", "write", "(I)V"⟩ : MethodName)) (z := (⟨"com/example/quicksettle/quicksettle/Records$Writer", "write", "(I)V"⟩ : MethodName)) hown (mvT hZ (tw hw 52 rfl)) (mvT hZ (tw hw 53 rfl)) (notFace_of_selects (args := #[]) (mvT hZ (tw hw 55 rfl))) (mvT hZ (tw hw 55 rfl)) (mvT hZ (tw hw 54 rfl)) (by decide) (backOf (W := 0) (rm11 l Z a0 hw [] b290 p2 b300 (List.replicate (4096 : Int32).toNatClampNeg 0) (12 : Int32) [] T298.heap n0 z316 f311 f313 f312 f314 ge294 ge308 ne307 own_init (by first | decide | (simp only [List.length_cons, List.length_nil]; decide) | rfl) (by first | decide | (simp only [List.length_cons, List.length_nil]; decide) | rfl)) hZ (tw hw 56 rfl) (tw hw 4 rfl) (by decide) (by decide)) q315a q315c (g := (mkF m 63 #[.val (.int p0), .val (.int p1), .val (.int p2), .val (.int p3), .val (.int p4), .val (.int p5), .val (.int (3 : Int32)), .val (.int k), .val (.ref b278), .val (.ref b290), .unset, .unset, .unset] [(.int p2), (.ref b290)])) rfl (by rw [hml]; rfl) (Steps.refl _) (argsL := [(.int p2)]) (rest := []) (lenOf pd__28I_29V rfl) rfl (by show 2 * 0 + _ ≤ _; exact Nat.le_of_eq rfl) (hb hby at_63) (fun _ _ => ⟨rfl, e298, (by decide : 3 + 0 ≤ _), (by decide : 4102 + 0 ≤ _)⟩)
    dsimp only [Pt.U, Pt.locs, Pt.cells, Pt.slots] at X315 l315 y315 z315 st315 hQ315
    subst l315 y315 z315
    obtain ⟨v317, rfl, N315q, K315q, f318, f319, f320, f321, qp322⟩ := hQ315
    have N315 := Fr.app N298 N315q
    refine Go.via (fun _ kQ => st315.trans kQ) ?_
    have e315 : T315.heap = T315.heap := rfl
    have f323 : Exa Z T315.heap b290 "com/example/quicksettle/quicksettle/Records$Writer" := f318
    have f324 : Fld Z T315.heap b290 "com/example/quicksettle/quicksettle/Records$Writer" "size" "I" (.int (13 : Int32)) := f319
    have f325 : Fld Z T315.heap b290 "com/example/quicksettle/quicksettle/Records$Writer" "bytes" "[B" (.ref b300) := f320
    have f326 : Ia Z T315.heap b300 .byte v317 := f321
    show Go p e below (T315.setTop (mkF m 66 #[.val (.int p0), .val (.int p1), .val (.int p2), .val (.int p3), .val (.int p4), .val (.int p5), .val (.int (3 : Int32)), .val (.int k), .val (.ref b278), .val (.ref b290), .unset, .unset, .unset] [])) _
    refine Go.via (fun _ => XS.iload X315.here hx rfl (hb hby at_66) rfl) ?_
    refine Go.via (fun _ => XS.iconst X315.here hx rfl (hb hby at_68)) ?_
    refine Go.via (fun _ => XS.icmpNo X315.here hx rfl (hb hby at_69) rfl (tlt ((by decide) : (1 : Int32) < (3 : Int32))).2.2.2) ?_
    show Go p e below (T315.setTop (mkF m 72 #[.val (.int p0), .val (.int p1), .val (.int p2), .val (.int p3), .val (.int p4), .val (.int p5), .val (.int (3 : Int32)), .val (.int k), .val (.ref b278), .val (.ref b290), .unset, .unset, .unset] [])) _
    refine Go.via (fun _ => XS.aload X315.here hx rfl (hb hby at_72) rfl rfl) ?_
    refine Go.via (fun _ => XS.iloadN X315.here hx rfl (hb hby at_74) rfl) ?_
    have z328 : n0 ≤ T315.heap.size := (Nat.le_trans z316 K315q.1)
    obtain ⟨cq327, kq327, q327a, q327b, q327c⟩ := isOf hZ e315 f323
    obtain ⟨_, _, ⟨T327, L327, k327, n327⟩, -, X327, ⟨Lc327, hQ327, l327, y327, z327⟩, st327⟩ := X315.virtualBack hx (y := (⟨"com/example/quicksettle/quicksettle/Records$Writer", "write", "(I)V"⟩ : MethodName)) (z := (⟨"com/example/quicksettle/quicksettle/Records$Writer", "write", "(I)V"⟩ : MethodName)) hown (mvT hZ (tw hw 52 rfl)) (mvT hZ (tw hw 53 rfl)) (notFace_of_selects (args := #[]) (mvT hZ (tw hw 55 rfl))) (mvT hZ (tw hw 55 rfl)) (mvT hZ (tw hw 54 rfl)) (by decide) (backOf (W := 0) (rm11 l Z a0 hw [] b290 p3 b300 v317 (13 : Int32) [(own_b p2)] T315.heap n0 z328 f323 f324 f325 f326 ge294 ge308 ne307 qp322 (by first | decide | (simp only [List.length_cons, List.length_nil]; decide) | rfl) (by first | decide | (simp only [List.length_cons, List.length_nil]; decide) | rfl)) hZ (tw hw 56 rfl) (tw hw 4 rfl) (by decide) (by decide)) q327a q327c (g := (mkF m 75 #[.val (.int p0), .val (.int p1), .val (.int p2), .val (.int p3), .val (.int p4), .val (.int p5), .val (.int (3 : Int32)), .val (.int k), .val (.ref b278), .val (.ref b290), .unset, .unset, .unset] [(.int p3), (.ref b290)])) rfl (by rw [hml]; rfl) (Steps.refl _) (argsL := [(.int p3)]) (rest := []) (lenOf pd__28I_29V rfl) rfl (by show 2 * 0 + _ ≤ _; exact Nat.le_of_eq rfl) (hb hby at_75) (fun _ _ => ⟨rfl, e315, (by decide : 3 + 0 ≤ _), (by decide : 4102 + 0 ≤ _)⟩)
    dsimp only [Pt.U, Pt.locs, Pt.cells, Pt.slots] at X327 l327 y327 z327 st327 hQ327
    subst l327 y327 z327
    obtain ⟨v329, rfl, N327q, K327q, f330, f331, f332, f333, qp334⟩ := hQ327
    have N327 := Fr.app N315 N327q
    refine Go.via (fun _ kQ => st327.trans kQ) ?_
    have e327 : T327.heap = T327.heap := rfl
    have f335 : Exa Z T327.heap b290 "com/example/quicksettle/quicksettle/Records$Writer" := f330
    have f336 : Fld Z T327.heap b290 "com/example/quicksettle/quicksettle/Records$Writer" "size" "I" (.int (14 : Int32)) := f331
    have f337 : Fld Z T327.heap b290 "com/example/quicksettle/quicksettle/Records$Writer" "bytes" "[B" (.ref b300) := f332
    have f338 : Ia Z T327.heap b300 .byte v329 := f333
    show Go p e below (T327.setTop (mkF m 78 #[.val (.int p0), .val (.int p1), .val (.int p2), .val (.int p3), .val (.int p4), .val (.int p5), .val (.int (3 : Int32)), .val (.int k), .val (.ref b278), .val (.ref b290), .unset, .unset, .unset] [])) _
    refine Go.via (fun _ => XS.iload X327.here hx rfl (hb hby at_78) rfl) ?_
    refine Go.via (fun _ => XS.iconst X327.here hx rfl (hb hby at_80)) ?_
    refine Go.via (fun _ => XS.icmpNo X327.here hx rfl (hb hby at_81) rfl (tlt ((by decide) : (2 : Int32) < (3 : Int32))).2.2.2) ?_
    show Go p e below (T327.setTop (mkF m 84 #[.val (.int p0), .val (.int p1), .val (.int p2), .val (.int p3), .val (.int p4), .val (.int p5), .val (.int (3 : Int32)), .val (.int k), .val (.ref b278), .val (.ref b290), .unset, .unset, .unset] [])) _
    refine Go.via (fun _ => XS.aload X327.here hx rfl (hb hby at_84) rfl rfl) ?_
    refine Go.via (fun _ => XS.iload X327.here hx rfl (hb hby at_86) rfl) ?_
    have z340 : n0 ≤ T327.heap.size := (Nat.le_trans z328 K327q.1)
    obtain ⟨cq339, kq339, q339a, q339b, q339c⟩ := isOf hZ e327 f335
    obtain ⟨_, _, ⟨T339, L339, k339, n339⟩, -, X339, ⟨Lc339, hQ339, l339, y339, z339⟩, st339⟩ := X327.virtualBack hx (y := (⟨"com/example/quicksettle/quicksettle/Records$Writer", "write", "(I)V"⟩ : MethodName)) (z := (⟨"com/example/quicksettle/quicksettle/Records$Writer", "write", "(I)V"⟩ : MethodName)) hown (mvT hZ (tw hw 52 rfl)) (mvT hZ (tw hw 53 rfl)) (notFace_of_selects (args := #[]) (mvT hZ (tw hw 55 rfl))) (mvT hZ (tw hw 55 rfl)) (mvT hZ (tw hw 54 rfl)) (by decide) (backOf (W := 0) (rm11 l Z a0 hw [] b290 p4 b300 v329 (14 : Int32) [(own_b p2), (own_b p3)] T327.heap n0 z340 f335 f336 f337 f338 ge294 ge308 ne307 qp334 (by first | decide | (simp only [List.length_cons, List.length_nil]; decide) | rfl) (by first | decide | (simp only [List.length_cons, List.length_nil]; decide) | rfl)) hZ (tw hw 56 rfl) (tw hw 4 rfl) (by decide) (by decide)) q339a q339c (g := (mkF m 88 #[.val (.int p0), .val (.int p1), .val (.int p2), .val (.int p3), .val (.int p4), .val (.int p5), .val (.int (3 : Int32)), .val (.int k), .val (.ref b278), .val (.ref b290), .unset, .unset, .unset] [(.int p4), (.ref b290)])) rfl (by rw [hml]; rfl) (Steps.refl _) (argsL := [(.int p4)]) (rest := []) (lenOf pd__28I_29V rfl) rfl (by show 2 * 0 + _ ≤ _; exact Nat.le_of_eq rfl) (hb hby at_88) (fun _ _ => ⟨rfl, e327, (by decide : 3 + 0 ≤ _), (by decide : 4102 + 0 ≤ _)⟩)
    dsimp only [Pt.U, Pt.locs, Pt.cells, Pt.slots] at X339 l339 y339 z339 st339 hQ339
    subst l339 y339 z339
    obtain ⟨v341, rfl, N339q, K339q, f342, f343, f344, f345, qp346⟩ := hQ339
    have N339 := Fr.app N327 N339q
    refine Go.via (fun _ kQ => st339.trans kQ) ?_
    have e339 : T339.heap = T339.heap := rfl
    have f347 : Exa Z T339.heap b290 "com/example/quicksettle/quicksettle/Records$Writer" := f342
    have f348 : Fld Z T339.heap b290 "com/example/quicksettle/quicksettle/Records$Writer" "size" "I" (.int (15 : Int32)) := f343
    have f349 : Fld Z T339.heap b290 "com/example/quicksettle/quicksettle/Records$Writer" "bytes" "[B" (.ref b300) := f344
    have f350 : Ia Z T339.heap b300 .byte v341 := f345
    show Go p e below (T339.setTop (mkF m 91 #[.val (.int p0), .val (.int p1), .val (.int p2), .val (.int p3), .val (.int p4), .val (.int p5), .val (.int (3 : Int32)), .val (.int k), .val (.ref b278), .val (.ref b290), .unset, .unset, .unset] [])) _
    refine Go.via (fun _ => XS.iload X339.here hx rfl (hb hby at_91) rfl) ?_
    refine Go.via (fun _ => XS.iconst X339.here hx rfl (hb hby at_93)) ?_
    refine Go.via (fun _ => XS.icmpYes X339.here hx rfl (pc0 := 94) (pc' := 104) rfl (hb hby at_94) rfl (flt ((by decide) : ¬ ((3 : Int32) < (3 : Int32)))).2.2.2 (by decide) (by decide)) ?_
    have f351 : Ia Z T339.heap b278 .byte [(nar .byte (p2.toInt8.toInt32)), (nar .byte (p3.toInt8.toInt32)), (nar .byte (p4.toInt8.toInt32)), (nar .byte (p5.toInt8.toInt32))] := ((((f305.keep K298q (ninS ne293 nin0)).keep K315q (ninS ne293 (ninS ne306 nin0))).keep K327q (ninS ne293 (ninS ne306 nin0))).keep K339q (ninS ne293 (ninS ne306 nin0)))
    have z352 : n0 ≤ T339.heap.size := (Nat.le_trans z340 K339q.1)
    have k353 : Keep h0 T339.heap [] := ((((k310.trans K298q (allS (Or.inr sz295) all0)).trans K315q (allS (Or.inr sz295) (allS (Or.inr sz309) all0))).trans K327q (allS (Or.inr sz295) (allS (Or.inr sz309) all0))).trans K339q (allS (Or.inr sz295) (allS (Or.inr sz309) all0)))
    exact J T339 _ T339.heap (3 : Int32) k b278 b290 b300 (15 : Int32) v341 [(own_b p2), (own_b p3), (own_b p4)] [(own_b p5)] X339 e339 N339 z352 k353 f347 f349 f348 f350 f351 ne307 ne293 ne306 ge294 ge308 ge279 sz295 sz309 sz280 qp346 (by first | decide | (simp only [List.length_cons, List.length_nil]; decide) | rfl) (by first | decide | (simp only [List.length_cons, List.length_nil]; decide) | rfl) (by first | decide | (simp only [List.length_cons, List.length_nil]; decide) | rfl) hkk.1 hkk.2.1
  · have hkk := own_k p1 (4 : Int32) (by decide) (by decide)
    rw [hk] at hkk
    show Go p e below (s₁.setTop (mkF m 19 #[.val (.int p0), .val (.int p1), .val (.int p2), .val (.int p3), .val (.int p4), .val (.int p5), .val (.int (4 : Int32)), .val (.int k), .unset, .unset, .unset, .unset, .unset] [])) _
    refine Go.via (fun _ => XS.iconst X0.here hx rfl (hb hby at_19)) ?_
    obtain ⟨T354, h354, k354, X354, e354, E354, A354, B354, st354⟩ := newPE X0 hx hZ (tw hw 1 rfl) e0 (g := (mkF m 20 #[.val (.int p0), .val (.int p1), .val (.int p2), .val (.int p3), .val (.int p4), .val (.int p5), .val (.int (4 : Int32)), .val (.int k), .unset, .unset, .unset, .unset, .unset] [(.int (4 : Int32))])) rfl (hb hby at_20) rfl (by decide) (cap := 4) (by decide) (by decide) (by decide) (by decide) (ad := "[B") (by decide)
    obtain ⟨b354, g354⟩ : ∃ z, z = h0.size := ⟨_, rfl⟩
    rw [← g354] at A354 B354 st354
    have ge355 : n0 ≤ b354 := Nat.le_trans Z0 (Nat.le_of_eq g354.symm)
    have sz356 : h0.size ≤ b354 := Nat.le_trans (Keep.refl h0 []).1 (Nat.le_of_eq g354.symm)
    refine Go.via (st354) ?_
    have f357 : Ia Z h354 b354 .byte [(0 : Int32), (0 : Int32), (0 : Int32), (0 : Int32)] := Ia.new A354 rfl
    show Go p e below (T354.setTop (mkF m 22 #[.val (.int p0), .val (.int p1), .val (.int p2), .val (.int p3), .val (.int p4), .val (.int p5), .val (.int (4 : Int32)), .val (.int k), .unset, .unset, .unset, .unset, .unset] [(.ref b354)])) _
    refine Go.via (fun _ => XS.dup X354.here hx rfl (hb hby at_22) rfl rfl) ?_
    refine Go.via (fun _ => XS.iconst X354.here hx rfl (hb hby at_23)) ?_
    refine Go.via (fun _ => XS.iloadN X354.here hx rfl (hb hby at_24) rfl) ?_
    refine Go.via (fun _ => XS.i2b X354.here hx rfl (hb hby at_25) rfl) ?_
    show Go p e below (T354.setTop (mkF m 26 #[.val (.int p0), .val (.int p1), .val (.int p2), .val (.int p3), .val (.int p4), .val (.int p5), .val (.int (4 : Int32)), .val (.int k), .unset, .unset, .unset, .unset, .unset] [(.int (p2.toInt8.toInt32)), (.int (0 : Int32)), (.ref b354), (.ref b354)])) _
    obtain ⟨T358, h358, X358, e358, W358, V358, st358⟩ := stB' X354 hx hZ e354 f357 (j := (0 : Int32)) (by decide) (by first | decide | (simp only [List.length_cons, List.length_nil]; decide) | rfl) (g := (mkF m 26 #[.val (.int p0), .val (.int p1), .val (.int p2), .val (.int p3), .val (.int p4), .val (.int p5), .val (.int (4 : Int32)), .val (.int k), .unset, .unset, .unset, .unset, .unset] [(.int (p2.toInt8.toInt32)), (.int (0 : Int32)), (.ref b354), (.ref b354)])) rfl rfl (hb hby at_26)
    refine Go.via (st358) ?_
    have N358 := Fr.snoc X358 N0 ge355
    have f359 : Ia Z h358 b354 .byte [(nar .byte (p2.toInt8.toInt32)), (0 : Int32), (0 : Int32), (0 : Int32)] := V358
    show Go p e below (T358.setTop (mkF m 27 #[.val (.int p0), .val (.int p1), .val (.int p2), .val (.int p3), .val (.int p4), .val (.int p5), .val (.int (4 : Int32)), .val (.int k), .unset, .unset, .unset, .unset, .unset] [(.ref b354)])) _
    refine Go.via (fun _ => XS.dup X358.here hx rfl (hb hby at_27) rfl rfl) ?_
    refine Go.via (fun _ => XS.iconst X358.here hx rfl (hb hby at_28)) ?_
    refine Go.via (fun _ => XS.iloadN X358.here hx rfl (hb hby at_29) rfl) ?_
    refine Go.via (fun _ => XS.i2b X358.here hx rfl (hb hby at_30) rfl) ?_
    show Go p e below (T358.setTop (mkF m 31 #[.val (.int p0), .val (.int p1), .val (.int p2), .val (.int p3), .val (.int p4), .val (.int p5), .val (.int (4 : Int32)), .val (.int k), .unset, .unset, .unset, .unset, .unset] [(.int (p3.toInt8.toInt32)), (.int (1 : Int32)), (.ref b354), (.ref b354)])) _
    obtain ⟨T360, h360, X360, e360, W360, V360, st360⟩ := stB' X358 hx hZ e358 f359 (j := (1 : Int32)) (by decide) (by first | decide | (simp only [List.length_cons, List.length_nil]; decide) | rfl) (g := (mkF m 31 #[.val (.int p0), .val (.int p1), .val (.int p2), .val (.int p3), .val (.int p4), .val (.int p5), .val (.int (4 : Int32)), .val (.int k), .unset, .unset, .unset, .unset, .unset] [(.int (p3.toInt8.toInt32)), (.int (1 : Int32)), (.ref b354), (.ref b354)])) rfl rfl (hb hby at_31)
    refine Go.via (st360) ?_
    have N360 := Fr.snoc X360 N358 ge355
    have f361 : Ia Z h360 b354 .byte [(nar .byte (p2.toInt8.toInt32)), (nar .byte (p3.toInt8.toInt32)), (0 : Int32), (0 : Int32)] := V360
    show Go p e below (T360.setTop (mkF m 32 #[.val (.int p0), .val (.int p1), .val (.int p2), .val (.int p3), .val (.int p4), .val (.int p5), .val (.int (4 : Int32)), .val (.int k), .unset, .unset, .unset, .unset, .unset] [(.ref b354)])) _
    refine Go.via (fun _ => XS.dup X360.here hx rfl (hb hby at_32) rfl rfl) ?_
    refine Go.via (fun _ => XS.iconst X360.here hx rfl (hb hby at_33)) ?_
    refine Go.via (fun _ => XS.iload X360.here hx rfl (hb hby at_34) rfl) ?_
    refine Go.via (fun _ => XS.i2b X360.here hx rfl (hb hby at_36) rfl) ?_
    show Go p e below (T360.setTop (mkF m 37 #[.val (.int p0), .val (.int p1), .val (.int p2), .val (.int p3), .val (.int p4), .val (.int p5), .val (.int (4 : Int32)), .val (.int k), .unset, .unset, .unset, .unset, .unset] [(.int (p4.toInt8.toInt32)), (.int (2 : Int32)), (.ref b354), (.ref b354)])) _
    obtain ⟨T362, h362, X362, e362, W362, V362, st362⟩ := stB' X360 hx hZ e360 f361 (j := (2 : Int32)) (by decide) (by first | decide | (simp only [List.length_cons, List.length_nil]; decide) | rfl) (g := (mkF m 37 #[.val (.int p0), .val (.int p1), .val (.int p2), .val (.int p3), .val (.int p4), .val (.int p5), .val (.int (4 : Int32)), .val (.int k), .unset, .unset, .unset, .unset, .unset] [(.int (p4.toInt8.toInt32)), (.int (2 : Int32)), (.ref b354), (.ref b354)])) rfl rfl (hb hby at_37)
    refine Go.via (st362) ?_
    have N362 := Fr.snoc X362 N360 ge355
    have f363 : Ia Z h362 b354 .byte [(nar .byte (p2.toInt8.toInt32)), (nar .byte (p3.toInt8.toInt32)), (nar .byte (p4.toInt8.toInt32)), (0 : Int32)] := V362
    show Go p e below (T362.setTop (mkF m 38 #[.val (.int p0), .val (.int p1), .val (.int p2), .val (.int p3), .val (.int p4), .val (.int p5), .val (.int (4 : Int32)), .val (.int k), .unset, .unset, .unset, .unset, .unset] [(.ref b354)])) _
    refine Go.via (fun _ => XS.dup X362.here hx rfl (hb hby at_38) rfl rfl) ?_
    refine Go.via (fun _ => XS.iconst X362.here hx rfl (hb hby at_39)) ?_
    refine Go.via (fun _ => XS.iload X362.here hx rfl (hb hby at_40) rfl) ?_
    refine Go.via (fun _ => XS.i2b X362.here hx rfl (hb hby at_42) rfl) ?_
    show Go p e below (T362.setTop (mkF m 43 #[.val (.int p0), .val (.int p1), .val (.int p2), .val (.int p3), .val (.int p4), .val (.int p5), .val (.int (4 : Int32)), .val (.int k), .unset, .unset, .unset, .unset, .unset] [(.int (p5.toInt8.toInt32)), (.int (3 : Int32)), (.ref b354), (.ref b354)])) _
    obtain ⟨T364, h364, X364, e364, W364, V364, st364⟩ := stB' X362 hx hZ e362 f363 (j := (3 : Int32)) (by decide) (by first | decide | (simp only [List.length_cons, List.length_nil]; decide) | rfl) (g := (mkF m 43 #[.val (.int p0), .val (.int p1), .val (.int p2), .val (.int p3), .val (.int p4), .val (.int p5), .val (.int (4 : Int32)), .val (.int k), .unset, .unset, .unset, .unset, .unset] [(.int (p5.toInt8.toInt32)), (.int (3 : Int32)), (.ref b354), (.ref b354)])) rfl rfl (hb hby at_43)
    refine Go.via (st364) ?_
    have N364 := Fr.snoc X364 N362 ge355
    have f365 : Ia Z h364 b354 .byte [(nar .byte (p2.toInt8.toInt32)), (nar .byte (p3.toInt8.toInt32)), (nar .byte (p4.toInt8.toInt32)), (nar .byte (p5.toInt8.toInt32))] := V364
    show Go p e below (T364.setTop (mkF m 44 #[.val (.int p0), .val (.int p1), .val (.int p2), .val (.int p3), .val (.int p4), .val (.int p5), .val (.int (4 : Int32)), .val (.int k), .unset, .unset, .unset, .unset, .unset] [(.ref b354)])) _
    refine Go.via (fun _ => XS.astore X364.here hx rfl (hb hby at_44) rfl rfl (l' := #[.val (.int p0), .val (.int p1), .val (.int p2), .val (.int p3), .val (.int p4), .val (.int p5), .val (.int (4 : Int32)), .val (.int k), .val (.ref b354), .unset, .unset, .unset, .unset]) rfl) ?_
    show Go p e below (T364.setTop (mkF m 46 #[.val (.int p0), .val (.int p1), .val (.int p2), .val (.int p3), .val (.int p4), .val (.int p5), .val (.int (4 : Int32)), .val (.int k), .val (.ref b354), .unset, .unset, .unset, .unset] [])) _
    have k367 : Keep h0 h364 [] := ((((((Keep.refl h0 []).ext E354).wr W358 (Or.inr sz356)).wr W360 (Or.inr sz356)).wr W362 (Or.inr sz356)).wr W364 (Or.inr sz356))
    have z368 : n0 ≤ h364.size := (Nat.le_trans (Nat.le_trans (Nat.le_trans (Nat.le_trans (Nat.le_trans Z0 E354.1) (Keep.of_wr W358).1) (Keep.of_wr W360).1) (Keep.of_wr W362).1) (Keep.of_wr W364).1)
    obtain ⟨T366, h366, X366, e366, E366, A366, D366, -, st366⟩ := newO X364 hx hZ hown (tw hw 2 rfl) (tw hw 3 rfl) (tw hw 4 rfl) e364 (g := (mkF m 46 #[.val (.int p0), .val (.int p1), .val (.int p2), .val (.int p3), .val (.int p4), .val (.int p5), .val (.int (4 : Int32)), .val (.int k), .val (.ref b354), .unset, .unset, .unset, .unset] [])) rfl (hb hby at_46) (by decide) (by decide)
    obtain ⟨b366, g366⟩ : ∃ z, z = h364.size := ⟨_, rfl⟩
    rw [← g366] at A366 D366 st366
    have ne369 : b354 ≠ b366 := Nat.ne_of_lt (Nat.lt_of_lt_of_le f365.lt (Nat.le_of_eq g366.symm))
    have ge370 : n0 ≤ b366 := Nat.le_trans z368 (Nat.le_of_eq g366.symm)
    have sz371 : h0.size ≤ b366 := Nat.le_trans k367.1 (Nat.le_of_eq g366.symm)
    refine Go.via (st366) ?_
    have f372 : Fld Z h366 b366 "com/example/quicksettle/quicksettle/Records$Writer" "bytes" "[B" .null := D366 (Or.inl (tw hw 17 rfl)) (ty := (.array .byte)) (by decide)
    have f373 : Fld Z h366 b366 "com/example/quicksettle/quicksettle/Records$Writer" "size" "I" (.int (0 : Int32)) := D366 (Or.inl (tw hw 19 rfl)) (ty := .int) (by decide)
    show Go p e below (T366.setTop (mkF m 49 #[.val (.int p0), .val (.int p1), .val (.int p2), .val (.int p3), .val (.int p4), .val (.int p5), .val (.int (4 : Int32)), .val (.int k), .val (.ref b354), .unset, .unset, .unset, .unset] [(.ref b366)])) _
    refine Go.via (fun _ => XS.dup X366.here hx rfl (hb hby at_49) rfl rfl) ?_
    have z375 : n0 ≤ h366.size := (Nat.le_trans z368 E366.1)
    obtain ⟨_, _, ⟨T374, L374, k374, n374⟩, -, X374, ⟨Lc374, hQ374, l374, y374, z374⟩, st374⟩ := X366.specialBack hx (y := (⟨"com/example/quicksettle/quicksettle/Records$Writer", "<init>", "()V"⟩ : MethodName)) rfl hown (mvT hZ (tw hw 5 rfl)) (mvT hZ (tw hw 6 rfl)) (mvT hZ (tw hw 7 rfl)) (by decide) (backOf (W := 1) (rm1 l Z a0 hw [] b366  h366 n0 z375 A366 f372 f373 ge370) hZ (tw hw 7 rfl) (tw hw 4 rfl) (by decide) (by decide)) (g := (mkF m 50 #[.val (.int p0), .val (.int p1), .val (.int p2), .val (.int p3), .val (.int p4), .val (.int p5), .val (.int (4 : Int32)), .val (.int k), .val (.ref b354), .unset, .unset, .unset, .unset] [(.ref b366), (.ref b366)])) rfl (by rw [hml]; rfl) (Steps.refl _) (a := b366) (argsL := []) (rest := [(.ref b366)]) (lenOf pd__28_29V rfl) rfl (by show 2 * 0 + _ ≤ _; exact Nat.le_of_eq rfl) (hb hby at_50) (fun _ _ => ⟨rfl, e366, (by decide : 2 + 1 ≤ _), (by decide : 6 + 4096 ≤ _)⟩)
    dsimp only [Pt.U, Pt.locs, Pt.cells, Pt.slots] at X374 l374 y374 z374 st374 hQ374
    subst l374 y374 z374
    obtain ⟨b376, rfl, N374q, K374q, fz_b376, f377, f378, f379, f380⟩ := hQ374
    have N374 := Fr.app N364 N374q
    refine Go.via (fun _ kQ => st374.trans kQ) ?_
    have f381 : Ia Z h366 b354 .byte [(nar .byte (p2.toInt8.toInt32)), (nar .byte (p3.toInt8.toInt32)), (nar .byte (p4.toInt8.toInt32)), (nar .byte (p5.toInt8.toInt32))] := (f365.ext E366)
    have ne382 : b354 ≠ b376 := Nat.ne_of_lt (Nat.lt_of_lt_of_le f381.lt fz_b376)
    have ne383 : b366 ≠ b376 := Nat.ne_of_lt (Nat.lt_of_lt_of_le A366.lt fz_b376)
    have ge384 : n0 ≤ b376 := Nat.le_trans z375 fz_b376
    have k386 : Keep h0 h366 [] := (k367.ext E366)
    have sz385 : h0.size ≤ b376 := Nat.le_trans k386.1 fz_b376
    have e374 : T374.heap = T374.heap := rfl
    have f387 : Exa Z T374.heap b366 "com/example/quicksettle/quicksettle/Records$Writer" := f377
    have f388 : Fld Z T374.heap b366 "com/example/quicksettle/quicksettle/Records$Writer" "bytes" "[B" (.ref b376) := f378
    have f389 : Fld Z T374.heap b366 "com/example/quicksettle/quicksettle/Records$Writer" "size" "I" (.int (12 : Int32)) := f379
    have f390 : Ia Z T374.heap b376 .byte (List.replicate (4096 : Int32).toNatClampNeg 0) := f380
    show Go p e below (T374.setTop (mkF m 53 #[.val (.int p0), .val (.int p1), .val (.int p2), .val (.int p3), .val (.int p4), .val (.int p5), .val (.int (4 : Int32)), .val (.int k), .val (.ref b354), .unset, .unset, .unset, .unset] [(.ref b366)])) _
    refine Go.via (fun _ => XS.astore X374.here hx rfl (hb hby at_53) rfl rfl (l' := #[.val (.int p0), .val (.int p1), .val (.int p2), .val (.int p3), .val (.int p4), .val (.int p5), .val (.int (4 : Int32)), .val (.int k), .val (.ref b354), .val (.ref b366), .unset, .unset, .unset]) rfl) ?_
    show Go p e below (T374.setTop (mkF m 55 #[.val (.int p0), .val (.int p1), .val (.int p2), .val (.int p3), .val (.int p4), .val (.int p5), .val (.int (4 : Int32)), .val (.int k), .val (.ref b354), .val (.ref b366), .unset, .unset, .unset] [])) _
    refine Go.via (fun _ => XS.iload X374.here hx rfl (hb hby at_55) rfl) ?_
    refine Go.via (fun _ => XS.ifNo X374.here hx rfl (hb hby at_57) rfl ((if0 _ _).trans (tlt ((by decide) : (0 : Int32) < (4 : Int32))).2.2.2)) ?_
    show Go p e below (T374.setTop (mkF m 60 #[.val (.int p0), .val (.int p1), .val (.int p2), .val (.int p3), .val (.int p4), .val (.int p5), .val (.int (4 : Int32)), .val (.int k), .val (.ref b354), .val (.ref b366), .unset, .unset, .unset] [])) _
    refine Go.via (fun _ => XS.aload X374.here hx rfl (hb hby at_60) rfl rfl) ?_
    refine Go.via (fun _ => XS.iloadN X374.here hx rfl (hb hby at_62) rfl) ?_
    have z392 : n0 ≤ T374.heap.size := (Nat.le_trans z375 K374q.1)
    obtain ⟨cq391, kq391, q391a, q391b, q391c⟩ := isOf hZ e374 f387
    obtain ⟨_, _, ⟨T391, L391, k391, n391⟩, -, X391, ⟨Lc391, hQ391, l391, y391, z391⟩, st391⟩ := X374.virtualBack hx (y := (⟨"com/example/quicksettle/quicksettle/Records$Writer", "write", "(I)V"⟩ : MethodName)) (z := (⟨"com/example/quicksettle/quicksettle/Records$Writer", "write", "(I)V"⟩ : MethodName)) hown (mvT hZ (tw hw 52 rfl)) (mvT hZ (tw hw 53 rfl)) (notFace_of_selects (args := #[]) (mvT hZ (tw hw 55 rfl))) (mvT hZ (tw hw 55 rfl)) (mvT hZ (tw hw 54 rfl)) (by decide) (backOf (W := 0) (rm11 l Z a0 hw [] b366 p2 b376 (List.replicate (4096 : Int32).toNatClampNeg 0) (12 : Int32) [] T374.heap n0 z392 f387 f389 f388 f390 ge370 ge384 ne383 own_init (by first | decide | (simp only [List.length_cons, List.length_nil]; decide) | rfl) (by first | decide | (simp only [List.length_cons, List.length_nil]; decide) | rfl)) hZ (tw hw 56 rfl) (tw hw 4 rfl) (by decide) (by decide)) q391a q391c (g := (mkF m 63 #[.val (.int p0), .val (.int p1), .val (.int p2), .val (.int p3), .val (.int p4), .val (.int p5), .val (.int (4 : Int32)), .val (.int k), .val (.ref b354), .val (.ref b366), .unset, .unset, .unset] [(.int p2), (.ref b366)])) rfl (by rw [hml]; rfl) (Steps.refl _) (argsL := [(.int p2)]) (rest := []) (lenOf pd__28I_29V rfl) rfl (by show 2 * 0 + _ ≤ _; exact Nat.le_of_eq rfl) (hb hby at_63) (fun _ _ => ⟨rfl, e374, (by decide : 3 + 0 ≤ _), (by decide : 4102 + 0 ≤ _)⟩)
    dsimp only [Pt.U, Pt.locs, Pt.cells, Pt.slots] at X391 l391 y391 z391 st391 hQ391
    subst l391 y391 z391
    obtain ⟨v393, rfl, N391q, K391q, f394, f395, f396, f397, qp398⟩ := hQ391
    have N391 := Fr.app N374 N391q
    refine Go.via (fun _ kQ => st391.trans kQ) ?_
    have e391 : T391.heap = T391.heap := rfl
    have f399 : Exa Z T391.heap b366 "com/example/quicksettle/quicksettle/Records$Writer" := f394
    have f400 : Fld Z T391.heap b366 "com/example/quicksettle/quicksettle/Records$Writer" "size" "I" (.int (13 : Int32)) := f395
    have f401 : Fld Z T391.heap b366 "com/example/quicksettle/quicksettle/Records$Writer" "bytes" "[B" (.ref b376) := f396
    have f402 : Ia Z T391.heap b376 .byte v393 := f397
    show Go p e below (T391.setTop (mkF m 66 #[.val (.int p0), .val (.int p1), .val (.int p2), .val (.int p3), .val (.int p4), .val (.int p5), .val (.int (4 : Int32)), .val (.int k), .val (.ref b354), .val (.ref b366), .unset, .unset, .unset] [])) _
    refine Go.via (fun _ => XS.iload X391.here hx rfl (hb hby at_66) rfl) ?_
    refine Go.via (fun _ => XS.iconst X391.here hx rfl (hb hby at_68)) ?_
    refine Go.via (fun _ => XS.icmpNo X391.here hx rfl (hb hby at_69) rfl (tlt ((by decide) : (1 : Int32) < (4 : Int32))).2.2.2) ?_
    show Go p e below (T391.setTop (mkF m 72 #[.val (.int p0), .val (.int p1), .val (.int p2), .val (.int p3), .val (.int p4), .val (.int p5), .val (.int (4 : Int32)), .val (.int k), .val (.ref b354), .val (.ref b366), .unset, .unset, .unset] [])) _
    refine Go.via (fun _ => XS.aload X391.here hx rfl (hb hby at_72) rfl rfl) ?_
    refine Go.via (fun _ => XS.iloadN X391.here hx rfl (hb hby at_74) rfl) ?_
    have z404 : n0 ≤ T391.heap.size := (Nat.le_trans z392 K391q.1)
    obtain ⟨cq403, kq403, q403a, q403b, q403c⟩ := isOf hZ e391 f399
    obtain ⟨_, _, ⟨T403, L403, k403, n403⟩, -, X403, ⟨Lc403, hQ403, l403, y403, z403⟩, st403⟩ := X391.virtualBack hx (y := (⟨"com/example/quicksettle/quicksettle/Records$Writer", "write", "(I)V"⟩ : MethodName)) (z := (⟨"com/example/quicksettle/quicksettle/Records$Writer", "write", "(I)V"⟩ : MethodName)) hown (mvT hZ (tw hw 52 rfl)) (mvT hZ (tw hw 53 rfl)) (notFace_of_selects (args := #[]) (mvT hZ (tw hw 55 rfl))) (mvT hZ (tw hw 55 rfl)) (mvT hZ (tw hw 54 rfl)) (by decide) (backOf (W := 0) (rm11 l Z a0 hw [] b366 p3 b376 v393 (13 : Int32) [(own_b p2)] T391.heap n0 z404 f399 f400 f401 f402 ge370 ge384 ne383 qp398 (by first | decide | (simp only [List.length_cons, List.length_nil]; decide) | rfl) (by first | decide | (simp only [List.length_cons, List.length_nil]; decide) | rfl)) hZ (tw hw 56 rfl) (tw hw 4 rfl) (by decide) (by decide)) q403a q403c (g := (mkF m 75 #[.val (.int p0), .val (.int p1), .val (.int p2), .val (.int p3), .val (.int p4), .val (.int p5), .val (.int (4 : Int32)), .val (.int k), .val (.ref b354), .val (.ref b366), .unset, .unset, .unset] [(.int p3), (.ref b366)])) rfl (by rw [hml]; rfl) (Steps.refl _) (argsL := [(.int p3)]) (rest := []) (lenOf pd__28I_29V rfl) rfl (by show 2 * 0 + _ ≤ _; exact Nat.le_of_eq rfl) (hb hby at_75) (fun _ _ => ⟨rfl, e391, (by decide : 3 + 0 ≤ _), (by decide : 4102 + 0 ≤ _)⟩)
    dsimp only [Pt.U, Pt.locs, Pt.cells, Pt.slots] at X403 l403 y403 z403 st403 hQ403
    subst l403 y403 z403
    obtain ⟨v405, rfl, N403q, K403q, f406, f407, f408, f409, qp410⟩ := hQ403
    have N403 := Fr.app N391 N403q
    refine Go.via (fun _ kQ => st403.trans kQ) ?_
    have e403 : T403.heap = T403.heap := rfl
    have f411 : Exa Z T403.heap b366 "com/example/quicksettle/quicksettle/Records$Writer" := f406
    have f412 : Fld Z T403.heap b366 "com/example/quicksettle/quicksettle/Records$Writer" "size" "I" (.int (14 : Int32)) := f407
    have f413 : Fld Z T403.heap b366 "com/example/quicksettle/quicksettle/Records$Writer" "bytes" "[B" (.ref b376) := f408
    have f414 : Ia Z T403.heap b376 .byte v405 := f409
    show Go p e below (T403.setTop (mkF m 78 #[.val (.int p0), .val (.int p1), .val (.int p2), .val (.int p3), .val (.int p4), .val (.int p5), .val (.int (4 : Int32)), .val (.int k), .val (.ref b354), .val (.ref b366), .unset, .unset, .unset] [])) _
    refine Go.via (fun _ => XS.iload X403.here hx rfl (hb hby at_78) rfl) ?_
    refine Go.via (fun _ => XS.iconst X403.here hx rfl (hb hby at_80)) ?_
    refine Go.via (fun _ => XS.icmpNo X403.here hx rfl (hb hby at_81) rfl (tlt ((by decide) : (2 : Int32) < (4 : Int32))).2.2.2) ?_
    show Go p e below (T403.setTop (mkF m 84 #[.val (.int p0), .val (.int p1), .val (.int p2), .val (.int p3), .val (.int p4), .val (.int p5), .val (.int (4 : Int32)), .val (.int k), .val (.ref b354), .val (.ref b366), .unset, .unset, .unset] [])) _
    refine Go.via (fun _ => XS.aload X403.here hx rfl (hb hby at_84) rfl rfl) ?_
    refine Go.via (fun _ => XS.iload X403.here hx rfl (hb hby at_86) rfl) ?_
    have z416 : n0 ≤ T403.heap.size := (Nat.le_trans z404 K403q.1)
    obtain ⟨cq415, kq415, q415a, q415b, q415c⟩ := isOf hZ e403 f411
    obtain ⟨_, _, ⟨T415, L415, k415, n415⟩, -, X415, ⟨Lc415, hQ415, l415, y415, z415⟩, st415⟩ := X403.virtualBack hx (y := (⟨"com/example/quicksettle/quicksettle/Records$Writer", "write", "(I)V"⟩ : MethodName)) (z := (⟨"com/example/quicksettle/quicksettle/Records$Writer", "write", "(I)V"⟩ : MethodName)) hown (mvT hZ (tw hw 52 rfl)) (mvT hZ (tw hw 53 rfl)) (notFace_of_selects (args := #[]) (mvT hZ (tw hw 55 rfl))) (mvT hZ (tw hw 55 rfl)) (mvT hZ (tw hw 54 rfl)) (by decide) (backOf (W := 0) (rm11 l Z a0 hw [] b366 p4 b376 v405 (14 : Int32) [(own_b p2), (own_b p3)] T403.heap n0 z416 f411 f412 f413 f414 ge370 ge384 ne383 qp410 (by first | decide | (simp only [List.length_cons, List.length_nil]; decide) | rfl) (by first | decide | (simp only [List.length_cons, List.length_nil]; decide) | rfl)) hZ (tw hw 56 rfl) (tw hw 4 rfl) (by decide) (by decide)) q415a q415c (g := (mkF m 88 #[.val (.int p0), .val (.int p1), .val (.int p2), .val (.int p3), .val (.int p4), .val (.int p5), .val (.int (4 : Int32)), .val (.int k), .val (.ref b354), .val (.ref b366), .unset, .unset, .unset] [(.int p4), (.ref b366)])) rfl (by rw [hml]; rfl) (Steps.refl _) (argsL := [(.int p4)]) (rest := []) (lenOf pd__28I_29V rfl) rfl (by show 2 * 0 + _ ≤ _; exact Nat.le_of_eq rfl) (hb hby at_88) (fun _ _ => ⟨rfl, e403, (by decide : 3 + 0 ≤ _), (by decide : 4102 + 0 ≤ _)⟩)
    dsimp only [Pt.U, Pt.locs, Pt.cells, Pt.slots] at X415 l415 y415 z415 st415 hQ415
    subst l415 y415 z415
    obtain ⟨v417, rfl, N415q, K415q, f418, f419, f420, f421, qp422⟩ := hQ415
    have N415 := Fr.app N403 N415q
    refine Go.via (fun _ kQ => st415.trans kQ) ?_
    have e415 : T415.heap = T415.heap := rfl
    have f423 : Exa Z T415.heap b366 "com/example/quicksettle/quicksettle/Records$Writer" := f418
    have f424 : Fld Z T415.heap b366 "com/example/quicksettle/quicksettle/Records$Writer" "size" "I" (.int (15 : Int32)) := f419
    have f425 : Fld Z T415.heap b366 "com/example/quicksettle/quicksettle/Records$Writer" "bytes" "[B" (.ref b376) := f420
    have f426 : Ia Z T415.heap b376 .byte v417 := f421
    show Go p e below (T415.setTop (mkF m 91 #[.val (.int p0), .val (.int p1), .val (.int p2), .val (.int p3), .val (.int p4), .val (.int p5), .val (.int (4 : Int32)), .val (.int k), .val (.ref b354), .val (.ref b366), .unset, .unset, .unset] [])) _
    refine Go.via (fun _ => XS.iload X415.here hx rfl (hb hby at_91) rfl) ?_
    refine Go.via (fun _ => XS.iconst X415.here hx rfl (hb hby at_93)) ?_
    refine Go.via (fun _ => XS.icmpNo X415.here hx rfl (hb hby at_94) rfl (tlt ((by decide) : (3 : Int32) < (4 : Int32))).2.2.2) ?_
    show Go p e below (T415.setTop (mkF m 97 #[.val (.int p0), .val (.int p1), .val (.int p2), .val (.int p3), .val (.int p4), .val (.int p5), .val (.int (4 : Int32)), .val (.int k), .val (.ref b354), .val (.ref b366), .unset, .unset, .unset] [])) _
    refine Go.via (fun _ => XS.aload X415.here hx rfl (hb hby at_97) rfl rfl) ?_
    refine Go.via (fun _ => XS.iload X415.here hx rfl (hb hby at_99) rfl) ?_
    have z428 : n0 ≤ T415.heap.size := (Nat.le_trans z416 K415q.1)
    obtain ⟨cq427, kq427, q427a, q427b, q427c⟩ := isOf hZ e415 f423
    obtain ⟨_, _, ⟨T427, L427, k427, n427⟩, -, X427, ⟨Lc427, hQ427, l427, y427, z427⟩, st427⟩ := X415.virtualBack hx (y := (⟨"com/example/quicksettle/quicksettle/Records$Writer", "write", "(I)V"⟩ : MethodName)) (z := (⟨"com/example/quicksettle/quicksettle/Records$Writer", "write", "(I)V"⟩ : MethodName)) hown (mvT hZ (tw hw 52 rfl)) (mvT hZ (tw hw 53 rfl)) (notFace_of_selects (args := #[]) (mvT hZ (tw hw 55 rfl))) (mvT hZ (tw hw 55 rfl)) (mvT hZ (tw hw 54 rfl)) (by decide) (backOf (W := 0) (rm11 l Z a0 hw [] b366 p5 b376 v417 (15 : Int32) [(own_b p2), (own_b p3), (own_b p4)] T415.heap n0 z428 f423 f424 f425 f426 ge370 ge384 ne383 qp422 (by first | decide | (simp only [List.length_cons, List.length_nil]; decide) | rfl) (by first | decide | (simp only [List.length_cons, List.length_nil]; decide) | rfl)) hZ (tw hw 56 rfl) (tw hw 4 rfl) (by decide) (by decide)) q427a q427c (g := (mkF m 101 #[.val (.int p0), .val (.int p1), .val (.int p2), .val (.int p3), .val (.int p4), .val (.int p5), .val (.int (4 : Int32)), .val (.int k), .val (.ref b354), .val (.ref b366), .unset, .unset, .unset] [(.int p5), (.ref b366)])) rfl (by rw [hml]; rfl) (Steps.refl _) (argsL := [(.int p5)]) (rest := []) (lenOf pd__28I_29V rfl) rfl (by show 2 * 0 + _ ≤ _; exact Nat.le_of_eq rfl) (hb hby at_101) (fun _ _ => ⟨rfl, e415, (by decide : 3 + 0 ≤ _), (by decide : 4102 + 0 ≤ _)⟩)
    dsimp only [Pt.U, Pt.locs, Pt.cells, Pt.slots] at X427 l427 y427 z427 st427 hQ427
    subst l427 y427 z427
    obtain ⟨v429, rfl, N427q, K427q, f430, f431, f432, f433, qp434⟩ := hQ427
    have N427 := Fr.app N415 N427q
    refine Go.via (fun _ kQ => st427.trans kQ) ?_
    have e427 : T427.heap = T427.heap := rfl
    have f435 : Exa Z T427.heap b366 "com/example/quicksettle/quicksettle/Records$Writer" := f430
    have f436 : Fld Z T427.heap b366 "com/example/quicksettle/quicksettle/Records$Writer" "size" "I" (.int (16 : Int32)) := f431
    have f437 : Fld Z T427.heap b366 "com/example/quicksettle/quicksettle/Records$Writer" "bytes" "[B" (.ref b376) := f432
    have f438 : Ia Z T427.heap b376 .byte v429 := f433
    have f439 : Ia Z T427.heap b354 .byte [(nar .byte (p2.toInt8.toInt32)), (nar .byte (p3.toInt8.toInt32)), (nar .byte (p4.toInt8.toInt32)), (nar .byte (p5.toInt8.toInt32))] := (((((f381.keep K374q (ninS ne369 nin0)).keep K391q (ninS ne369 (ninS ne382 nin0))).keep K403q (ninS ne369 (ninS ne382 nin0))).keep K415q (ninS ne369 (ninS ne382 nin0))).keep K427q (ninS ne369 (ninS ne382 nin0)))
    have z440 : n0 ≤ T427.heap.size := (Nat.le_trans z428 K427q.1)
    have k441 : Keep h0 T427.heap [] := (((((k386.trans K374q (allS (Or.inr sz371) all0)).trans K391q (allS (Or.inr sz371) (allS (Or.inr sz385) all0))).trans K403q (allS (Or.inr sz371) (allS (Or.inr sz385) all0))).trans K415q (allS (Or.inr sz371) (allS (Or.inr sz385) all0))).trans K427q (allS (Or.inr sz371) (allS (Or.inr sz385) all0)))
    exact J T427 _ T427.heap (4 : Int32) k b354 b366 b376 (16 : Int32) v429 [(own_b p2), (own_b p3), (own_b p4), (own_b p5)] [] X427 e427 N427 z440 k441 f435 f437 f436 f438 f439 ne383 ne369 ne382 ge370 ge384 ge355 sz371 sz385 sz356 qp434 (by first | decide | (simp only [List.length_cons, List.length_nil]; decide) | rfl) (by first | decide | (simp only [List.length_cons, List.length_nil]; decide) | rfl) (by first | decide | (simp only [List.length_cons, List.length_nil]; decide) | rfl) hkk.1 hkk.2.1
set_option maxRecDepth 65536 in
set_option maxHeartbeats 40000000 in
theorem comes_1 {Post : Tables → Env → Array Value → State → Outcome → State → Prop} (hpost : ∀ tb e args s v u, (limb_1_1.after args s (.returned v) u = true ∧ limb_1_2.after args s (.returned v) u = true ∧ True) → FrameEnd s (.returned v) u (Jvm.fieldLocs frame_1_writes args s ++ Jvm.arrayLocs frame_1_arrays args s ++ Jvm.staticLocs frame_1_statics s) 24 8320 → Post tb e args s (.returned v) u) :
    ArmFor flags0 classFile x code maxLocals ret World_1 tables_1 room_1 Calls_1 rest_1 Pre_1 Post := by
  intro l hfl _ _ p e ha hc hk s m args below hf hA hF happ hP
  obtain ⟨hcalls, hrest, hpre⟩ := hP
  obtain ⟨-, -, -, hnamed, -, -, -, hat⟩ := (Spec.applies_iff hf).mp happ
  obtain ⟨hg, hn⟩ := and_e (Cond.before_iff.mp (show (Jvm.Cond.and given_1 narrow_1).before args s = true from hpre))
  obtain ⟨g0, r0⟩ := and_e hg
  obtain ⟨q0, r1⟩ := and_e r0
  obtain ⟨q1, r2⟩ := and_e r1
  obtain ⟨q2, r3⟩ := and_e r2
  obtain ⟨q3, r4⟩ := and_e r3
  obtain ⟨q4, r5⟩ := and_e r4
  have q5 := r5
  obtain ⟨w0, w1, w2, w3, w4, w5, rfl⟩ : ∃ w0 w1 w2 w3 w4 w5 : Value, args = #[w0, w1, w2, w3, w4, w5] := by
    have hs : args.size = 6 := by simpa [Cond.value, given_1] using g0
    obtain ⟨L⟩ := args
    match L, hs with
    | [w0, w1, w2, w3, w4, w5], _ => exact ⟨w0, w1, w2, w3, w4, w5, rfl⟩
  have hw := fun d (hd : d ∈ tables_1) => atoms_spec (ws := Jvm.Cond.code x code maxLocals ret :: tables_1) hat d (List.mem_cons_of_mem _ hd)
  have hfit : Fit s := fun {y c} hc i hi => by
    obtain ⟨ha, rfl⟩ := Array.getElem?_eq_some_iff.mp hc
    have q := List.all_eq_true.mp ((Array.all_eq_true_iff_forall_mem.mp hF) _ (Array.getElem_mem ha)) i (List.mem_range.mpr hi)
    simpa [Array.getElem?_eq_getElem hi] using q
  obtain ⟨i0, ei0⟩ := is_v q0
  obtain rfl : w0 = (.int i0) := Option.some.inj ei0
  obtain ⟨i1, ei1⟩ := is_v q1
  obtain rfl : w1 = (.int i1) := Option.some.inj ei1
  obtain ⟨i2, ei2⟩ := is_v q2
  obtain rfl : w2 = (.int i2) := Option.some.inj ei2
  obtain ⟨i3, ei3⟩ := is_v q3
  obtain rfl : w3 = (.int i3) := Option.some.inj ei3
  obtain ⟨i4, ei4⟩ := is_v q4
  obtain rfl : w4 = (.int i4) := Option.some.inj ei4
  obtain ⟨i5, ei5⟩ := is_v q5
  obtain rfl : w5 = (.int i5) := Option.some.inj ei5
  obtain ⟨n, o, h1, h2, h3, _, L, rfl, ⟨rfl, N, -⟩, hq⟩ := rm0 l s _ hw tables_1 i0 i1 i2 i3 i4 i5  s.heap s.heap.size (Nat.le_refl _)  p e ha hc hk s m _ below hf ((Spec.applies_iff_loose hf).mp happ).1 ⟨rfl, State.Warmed39.refl s, rfl⟩ trivial
  refine ⟨n, _, h1, h2, h3, hpost _ _ _ _ _ _ ⟨Cond.after_iff.mpr rfl, Cond.after_iff.mpr (eq_i res_at (Term.int_eval (1)) rfl), trivial⟩ ⟨hq.1, hq.2.1, (hq.2.2.sift fun y hy => Or.inr (N y hy)).mono (by decide) (by decide)⟩⟩
theorem main_1_1 : Claimed_1_1 := comes_1 fun _ _ _ _ _ _ h hF => ⟨h.1, hF⟩
theorem main_1_2 : Claimed_1_2 := comes_1 fun _ _ _ _ _ _ h hF => ⟨h.2.1, hF⟩
end Jvm.Pilot.@@N@@
namespace Jvm.Pilot.@@N@@
open Jvm Jvm.ClassFile Sem Op Lib Jvm.Free Jvm.Stand Jvm.Pilot.@@N@@.Jvm.D
/-! MADE BY PROGRAM (witnessworld.py) out of the Statement's table words and the real class files: 16 classes; the members and pool entries that the words name. The judged class is class 1, her method 1. -/
namespace start1
open Jvm.ClassFile
def u (s : String) : CpInfo := .utf8 (stringToUtf16 s)
/-- a pool by its gaps: so many unusable entries, then the entry; so many at the end -/
def gap : Nat → List CpInfo → List CpInfo
  | 0, r => r
  | n + 1, r => .unusable :: gap n r
def poolList (es : List (Nat × CpInfo)) (last : Nat) : List CpInfo := es.foldr (fun e r => gap e.1 (e.2 :: r)) (gap last [])
def pool (es : List (Nat × CpInfo)) (last : Nat) : Array CpInfo := ⟨poolList es last⟩
def fileOf (pool : Array CpInfo) (this : Nat) (attrs : Array Attribute := #[]) (ms : Array MethodInfo := #[]) (fl : Nat := 33) (sup : Nat := 0) (ifs : Array Nat := #[]) (fds : Array FieldInfo := #[]) : ClassFile where
  minorVersion := 0
  majorVersion := 65
  constantPool := pool
  accessFlags := fl
  thisClass := this
  superClass := sup
  interfaces := ifs
  fields := fds
  methods := ms
  attributes := attrs
def plain (name : String) (sup : Option ClassId) : Class where
  name := name
  kind := .ordinary
  loader := none
  accessFlags := 33
  super := sup
  interfaces := #[]
  cf := none
  fields := #[]
  methods := #[]
  instanceTypes := #[]
  staticTypes := #[]
  resolved := #[]
  callSites := []
  init := .initialized
  statics := none
  mirror := none

def pool0 : Array CpInfo := pool [(5, u "<init>"), (0, u "()V"), (1, .class_ 10), (1, u "java/lang/Object")] 113

def k0c0 : Code := { maxStack := 0, maxLocals := 1, code := object_method_1_code, exceptionTable := #[], attributes := #[] }
def k0m0 : Method := { name := "<init>", desc := "()V", sig := { parameters := [], returnType := none }, accessFlags := 1, code := some k0c0 }
/-- java/lang/Object -/
def k0 : Class := { plain "java/lang/Object" none with
  accessFlags := 33
  interfaces := #[]
  cf := some (fileOf pool0 8 #[] #[{ accessFlags := 1, nameIndex := 5, descriptorIndex := 6, attributes := #[] }] 33 0 #[] #[])
  fields := #[]
  methods := #[k0m0]
  instanceTypes := #[]
  staticTypes := #[]
  resolved := Array.replicate 124 none
  statics := none }

def pool1 : Array CpInfo := pool [(2, .class_ 4), (0, .nameAndType 5 6), (0, u "java/lang/Object"), (0, u "<init>"), (0, u "()V"), (0, .integer 2147483647), (0, .class_ 9), (0, u "com/example/quicksettle/quicksettle/Records$Writer"), (0, .methodref 8 3), (0, .methodref 8 12), (0, .nameAndType 13 14), (0, u "write"), (0, u "(I)V"), (0, .methodref 8 16), (0, .nameAndType 17 18), (0, u "payloadFrom"), (0, u "(I)[B"), (0, .methodref 8 20), (0, .nameAndType 21 22), (0, u "payloadBytes"), (0, u "()I"), (0, .methodref 24 25), (0, .class_ 26), (0, .nameAndType 27 28), (0, u "com/example/quicksettle/quicksettle/WriterPayloadFromPinLaw"), (0, u "at"), (0, u "([BI[BI)Z"), (2, u "law"), (0, u "(IIIIII)Z")] 9

def k1m0 : Method := { name := "<init>", desc := "()V", sig := { parameters := [], returnType := none }, accessFlags := 1, code := none }
def k1c1 : Code := { maxStack := 4, maxLocals := 13, code := code, exceptionTable := #[], attributes := #[] }
def k1m1 : Method := { name := "law", desc := "(IIIIII)Z", sig := { parameters := [.int, .int, .int, .int, .int, .int], returnType := some .boolean }, accessFlags := 9, code := some k1c1 }
def k1c2 : Code := { maxStack := 4, maxLocals := 4, code := method_3_code, exceptionTable := #[], attributes := #[] }
def k1m2 : Method := { name := "at", desc := "([BI[BI)Z", sig := { parameters := [(.array .byte), .int, (.array .byte), .int], returnType := some .boolean }, accessFlags := 10, code := some k1c2 }
/-- com/example/quicksettle/quicksettle/WriterPayloadFromPinLaw -/
def k1 : Class := { plain "com/example/quicksettle/quicksettle/WriterPayloadFromPinLaw" (some 0) with
  accessFlags := 49
  interfaces := #[]
  cf := some (fileOf pool1 24 #[] #[{ accessFlags := 1, nameIndex := 5, descriptorIndex := 6, attributes := #[] }, { accessFlags := 9, nameIndex := 31, descriptorIndex := 32, attributes := #[] }, { accessFlags := 10, nameIndex := 27, descriptorIndex := 28, attributes := #[] }] 49 2 #[] #[])
  fields := #[]
  methods := #[k1m0, k1m1, k1m2]
  instanceTypes := #[]
  staticTypes := #[]
  resolved := Array.replicate 42 none
  statics := none }

def pool2 : Array CpInfo := pool [(1, .class_ 2), (0, u "java/lang/AutoCloseable"), (0, .class_ 4), (0, u "java/lang/Object")] 7

/-- java/lang/AutoCloseable -/
def k2 : Class := { plain "java/lang/AutoCloseable" (some 0) with
  accessFlags := 1537
  interfaces := #[]
  cf := some (fileOf pool2 1 #[] #[] 1537 3 #[] #[])
  fields := #[]
  methods := #[]
  instanceTypes := #[]
  staticTypes := #[]
  resolved := Array.replicate 12 none
  statics := none }

def pool3 : Array CpInfo := pool [(1, .class_ 2), (0, u "java/io/Closeable"), (0, .class_ 4), (0, u "java/lang/Object"), (0, .class_ 6), (0, u "java/lang/AutoCloseable")] 7

/-- java/io/Closeable -/
def k3 : Class := { plain "java/io/Closeable" (some 0) with
  accessFlags := 1537
  interfaces := #[2]
  cf := some (fileOf pool3 1 #[] #[] 1537 3 #[5] #[])
  fields := #[]
  methods := #[]
  instanceTypes := #[]
  staticTypes := #[]
  resolved := Array.replicate 14 none
  statics := none }

def pool4 : Array CpInfo := pool [(1, .class_ 2), (0, u "java/io/Flushable"), (0, .class_ 4), (0, u "java/lang/Object")] 7

/-- java/io/Flushable -/
def k4 : Class := { plain "java/io/Flushable" (some 0) with
  accessFlags := 1537
  interfaces := #[]
  cf := some (fileOf pool4 1 #[] #[] 1537 3 #[] #[])
  fields := #[]
  methods := #[]
  instanceTypes := #[]
  staticTypes := #[]
  resolved := Array.replicate 12 none
  statics := none }

def pool5 : Array CpInfo := pool [(1, .methodref 2 3), (0, .class_ 4), (0, .nameAndType 5 6), (0, u "java/lang/Object"), (0, u "<init>"), (0, u "()V"), (0, .class_ 8), (0, u "java/io/OutputStream$1"), (2, .class_ 13), (1, u "java/io/OutputStream"), (11, .class_ 26), (0, u "java/io/Closeable"), (0, .class_ 28), (0, u "java/io/Flushable")] 24

def k5c0 : Code := { maxStack := 1, maxLocals := 1, code := jdk_2038_method_1_code, exceptionTable := #[], attributes := #[] }
def k5m0 : Method := { name := "<init>", desc := "()V", sig := { parameters := [], returnType := none }, accessFlags := 1, code := some k5c0 }
/-- java/io/OutputStream -/
def k5 : Class := { plain "java/io/OutputStream" (some 0) with
  accessFlags := 1057
  interfaces := #[3, 4]
  cf := some (fileOf pool5 11 #[.nestMembers #[7]] #[{ accessFlags := 1, nameIndex := 5, descriptorIndex := 6, attributes := #[] }] 1057 2 #[25, 27] #[])
  fields := #[]
  methods := #[k5m0]
  instanceTypes := #[]
  staticTypes := #[]
  resolved := Array.replicate 53 none
  statics := none }

def pool6 : Array CpInfo := pool [(1, .class_ 2), (0, u "com/example/quicksettle/quicksettle/Records"), (0, .methodref 4 5), (0, .class_ 6), (0, .nameAndType 7 8), (0, u "java/io/OutputStream"), (0, u "<init>"), (0, u "()V"), (0, .fieldref 10 11), (0, .class_ 12), (0, .nameAndType 13 14), (0, u "com/example/quicksettle/quicksettle/Records$Writer"), (0, u "bytes"), (0, u "[B"), (0, .fieldref 10 16), (0, .nameAndType 17 18), (0, u "size"), (0, u "I"), (0, .methodref 20 21), (0, .class_ 22), (0, .nameAndType 23 24), (0, u "java/util/Arrays"), (0, u "copyOfRange"), (0, u "([BII)[B"), (2, u "payloadBytes"), (0, u "()I"), (21, .methodref 10 51), (0, .nameAndType 52 53), (0, u "room"), (0, u "(I)V"), (50, u "payloadFrom"), (0, u "(I)[B"), (2, u "write")] 6

def k6c0 : Code := { maxStack := 2, maxLocals := 1, code := prog_67_method_1_code, exceptionTable := #[], attributes := #[] }
def k6m0 : Method := { name := "<init>", desc := "()V", sig := { parameters := [], returnType := none }, accessFlags := 0, code := some k6c0 }
def k6c1 : Code := { maxStack := 2, maxLocals := 1, code := prog_67_method_3_code, exceptionTable := #[], attributes := #[] }
def k6m1 : Method := { name := "payloadBytes", desc := "()I", sig := { parameters := [], returnType := some .int }, accessFlags := 0, code := some k6c1 }
def k6c2 : Code := { maxStack := 3, maxLocals := 2, code := prog_67_method_4_code, exceptionTable := #[], attributes := #[] }
def k6m2 : Method := { name := "payloadFrom", desc := "(I)[B", sig := { parameters := [.int], returnType := some (.array .byte) }, accessFlags := 0, code := some k6c2 }
def k6c3 : Code := { maxStack := 5, maxLocals := 2, code := prog_67_method_6_code, exceptionTable := #[], attributes := #[] }
def k6m3 : Method := { name := "write", desc := "(I)V", sig := { parameters := [.int], returnType := none }, accessFlags := 1, code := some k6c3 }
def k6c4 : Code := { maxStack := 5, maxLocals := 2, code := prog_67_method_9_code, exceptionTable := #[], attributes := #[] }
def k6m4 : Method := { name := "room", desc := "(I)V", sig := { parameters := [.int], returnType := none }, accessFlags := 2, code := some k6c4 }
/-- com/example/quicksettle/quicksettle/Records$Writer -/
def k6 : Class := { plain "com/example/quicksettle/quicksettle/Records$Writer" (some 5) with
  accessFlags := 48
  interfaces := #[]
  cf := some (fileOf pool6 10 #[.nestHost 1] #[{ accessFlags := 0, nameIndex := 7, descriptorIndex := 8, attributes := #[] }, { accessFlags := 0, nameIndex := 27, descriptorIndex := 28, attributes := #[] }, { accessFlags := 0, nameIndex := 104, descriptorIndex := 105, attributes := #[] }, { accessFlags := 1, nameIndex := 108, descriptorIndex := 53, attributes := #[] }, { accessFlags := 2, nameIndex := 52, descriptorIndex := 53, attributes := #[] }] 48 4 #[] #[{ accessFlags := 2, nameIndex := 13, descriptorIndex := 14, attributes := #[] }, { accessFlags := 2, nameIndex := 17, descriptorIndex := 18, attributes := #[] }])
  fields := #[{ name := "bytes", type := (.array .byte), accessFlags := 2, slot := 0, constantValue := 0 }, { name := "size", type := .int, accessFlags := 2, slot := 1, constantValue := 0 }]
  methods := #[k6m0, k6m1, k6m2, k6m3, k6m4]
  instanceTypes := #[(.array .byte), .int]
  staticTypes := #[]
  resolved := Array.replicate 115 none
  statics := none }

def pool7 : Array CpInfo := pool [(2, .class_ 4), (1, u "java/lang/Object"), (0, u "<init>"), (0, u "()V"), (7, .class_ 16), (1, u "java/util/Arrays"), (57, .class_ 76), (1, u "java/util/Arrays$NaturalOrder"), (36, .class_ 115), (1, u "java/util/Arrays$LegacyMergeSort"), (1, u "Z"), (21, u "copyOfRange"), (10, .methodref 151 152), (0, .class_ 153), (0, .nameAndType 154 155), (0, u "java/lang/System"), (0, u "arraycopy"), (0, u "(Ljava/lang/Object;ILjava/lang/Object;II)V"), (148, .methodref 305 306), (0, .class_ 307), (0, .nameAndType 308 309), (0, u "java/lang/Math"), (0, u "min"), (0, u "(II)I"), (29, .methodref 14 340), (0, .nameAndType 341 342), (0, u "copyOfRangeByte"), (0, u "([BII)[B"), (0, .methodref 14 344), (0, .nameAndType 345 346), (0, u "checkLength"), (0, u "(II)V"), (28, .class_ 376), (0, u "java/util/Arrays$ArrayList"), (68, u "$assertionsDisabled"), (269, u "MIN_ARRAY_SORT_GRAN"), (0, u "I"), (2, u "INSERTIONSORT_THRESHOLD"), (255, .class_ 976), (0, u "java/util/Arrays$ArrayItr")] 52

def k7m0 : Method := { name := "<init>", desc := "()V", sig := { parameters := [], returnType := none }, accessFlags := 2, code := none }
def k7c1 : Code := { maxStack := 4, maxLocals := 2, code := jdk_65_method_131_code, exceptionTable := #[], attributes := #[] }
def k7m1 : Method := { name := "checkLength", desc := "(II)V", sig := { parameters := [.int, .int], returnType := none }, accessFlags := 10, code := some k7c1 }
def k7c2 : Code := { maxStack := 3, maxLocals := 3, code := jdk_65_method_132_code, exceptionTable := #[], attributes := #[] }
def k7m2 : Method := { name := "copyOfRange", desc := "([BII)[B", sig := { parameters := [(.array .byte), .int, .int], returnType := some (.array .byte) }, accessFlags := 9, code := some k7c2 }
def k7c3 : Code := { maxStack := 6, maxLocals := 5, code := jdk_65_method_133_code, exceptionTable := #[], attributes := #[] }
def k7m3 : Method := { name := "copyOfRangeByte", desc := "([BII)[B", sig := { parameters := [(.array .byte), .int, .int], returnType := some (.array .byte) }, accessFlags := 10, code := some k7c3 }
/-- java/util/Arrays -/
def k7 : Class := { plain "java/util/Arrays" (some 0) with
  accessFlags := 49
  interfaces := #[]
  cf := some (fileOf pool7 14 #[.nestMembers #[975, 375, 113, 74]] #[{ accessFlags := 2, nameIndex := 5, descriptorIndex := 6, attributes := #[] }, { accessFlags := 10, nameIndex := 345, descriptorIndex := 346, attributes := #[] }, { accessFlags := 9, nameIndex := 139, descriptorIndex := 342, attributes := #[] }, { accessFlags := 10, nameIndex := 341, descriptorIndex := 342, attributes := #[] }] 49 2 #[] #[{ accessFlags := 26, nameIndex := 715, descriptorIndex := 716, attributes := #[] }, { accessFlags := 26, nameIndex := 719, descriptorIndex := 716, attributes := #[] }, { accessFlags := 4120, nameIndex := 445, descriptorIndex := 117, attributes := #[] }])
  fields := #[{ name := "MIN_ARRAY_SORT_GRAN", type := .int, accessFlags := 26, slot := 0, constantValue := 0 }, { name := "INSERTIONSORT_THRESHOLD", type := .int, accessFlags := 26, slot := 1, constantValue := 0 }, { name := "$assertionsDisabled", type := .boolean, accessFlags := 4120, slot := 2, constantValue := 0 }]
  methods := #[k7m0, k7m1, k7m2, k7m3]
  instanceTypes := #[]
  staticTypes := #[.int, .int, .boolean]
  resolved := Array.replicate 1029 none
  statics := none }

def pool8 : Array CpInfo := pool [(1, .class_ 2), (0, u "java/lang/Math"), (1, .class_ 6), (1, u "java/lang/Object"), (0, u "<init>"), (0, u "()V"), (89, .class_ 100), (1, u "java/lang/Math$RandomNumberGeneratorHolder"), (71, u "negativeZeroFloatBits"), (0, u "J"), (2, u "negativeZeroDoubleBits"), (24, u "min"), (43, u "$assertionsDisabled"), (0, u "Z"), (88, u "(II)I"), (2, u "twoToTheDoubleScaleDown"), (0, u "D"), (4, u "twoToTheDoubleScaleUp"), (9, u "E"), (3, u "PI"), (2, u "TAU"), (2, u "DEGREES_TO_RADIANS"), (0, u "RADIANS_TO_DEGREES")] 94

def k8m0 : Method := { name := "<init>", desc := "()V", sig := { parameters := [], returnType := none }, accessFlags := 2, code := none }
def k8c1 : Code := { maxStack := 2, maxLocals := 2, code := jdk_29_method_69_code, exceptionTable := #[], attributes := #[] }
def k8m1 : Method := { name := "min", desc := "(II)I", sig := { parameters := [.int, .int], returnType := some .int }, accessFlags := 9, code := some k8c1 }
/-- java/lang/Math -/
def k8 : Class := { plain "java/lang/Math" (some 0) with
  accessFlags := 49
  interfaces := #[]
  cf := some (fileOf pool8 1 #[.nestMembers #[98]] #[{ accessFlags := 2, nameIndex := 7, descriptorIndex := 8, attributes := #[] }, { accessFlags := 9, nameIndex := 201, descriptorIndex := 335, attributes := #[] }] 49 4 #[] #[{ accessFlags := 25, nameIndex := 354, descriptorIndex := 339, attributes := #[] }, { accessFlags := 25, nameIndex := 358, descriptorIndex := 339, attributes := #[] }, { accessFlags := 25, nameIndex := 361, descriptorIndex := 339, attributes := #[] }, { accessFlags := 26, nameIndex := 364, descriptorIndex := 339, attributes := #[] }, { accessFlags := 26, nameIndex := 365, descriptorIndex := 339, attributes := #[] }, { accessFlags := 26, nameIndex := 172, descriptorIndex := 173, attributes := #[] }, { accessFlags := 26, nameIndex := 176, descriptorIndex := 173, attributes := #[] }, { accessFlags := 8, nameIndex := 344, descriptorIndex := 339, attributes := #[] }, { accessFlags := 8, nameIndex := 338, descriptorIndex := 339, attributes := #[] }, { accessFlags := 4120, nameIndex := 245, descriptorIndex := 246, attributes := #[] }])
  fields := #[{ name := "E", type := .double, accessFlags := 25, slot := 0, constantValue := 0 }, { name := "PI", type := .double, accessFlags := 25, slot := 1, constantValue := 0 }, { name := "TAU", type := .double, accessFlags := 25, slot := 2, constantValue := 0 }, { name := "DEGREES_TO_RADIANS", type := .double, accessFlags := 26, slot := 3, constantValue := 0 }, { name := "RADIANS_TO_DEGREES", type := .double, accessFlags := 26, slot := 4, constantValue := 0 }, { name := "negativeZeroFloatBits", type := .long, accessFlags := 26, slot := 5, constantValue := 0 }, { name := "negativeZeroDoubleBits", type := .long, accessFlags := 26, slot := 6, constantValue := 0 }, { name := "twoToTheDoubleScaleUp", type := .double, accessFlags := 8, slot := 7, constantValue := 0 }, { name := "twoToTheDoubleScaleDown", type := .double, accessFlags := 8, slot := 8, constantValue := 0 }, { name := "$assertionsDisabled", type := .boolean, accessFlags := 4120, slot := 9, constantValue := 0 }]
  methods := #[k8m0, k8m1]
  instanceTypes := #[]
  staticTypes := #[.double, .double, .double, .double, .double, .long, .long, .double, .double, .boolean]
  resolved := Array.replicate 460 none
  statics := none }

def pool9 : Array CpInfo := pool [(2, .class_ 4), (1, u "java/lang/Object"), (0, u "<init>"), (0, u "()V"), (1, .class_ 10), (1, u "java/lang/System"), (0, u "allowSecurityManager"), (0, u "I"), (16, u "cons"), (0, u "Ljava/io/Console;"), (77, .class_ 110), (1, u "java/lang/System$CallersHolder"), (43, u "initialErrStream"), (0, u "Ljava/io/PrintStream;"), (19, u "security"), (0, u "Ljava/lang/SecurityManager;"), (31, .class_ 209), (0, u "java/lang/System$1"), (7, u "props"), (0, u "Ljava/util/Properties;"), (2, u "lineSeparator"), (0, u "Ljava/lang/String;"), (96, .class_ 321), (1, u "java/lang/System$LoggerFinder"), (5, .class_ 328), (0, u "java/lang/System$Logger"), (67, u "err"), (2, u "out"), (91, u "notSupportedJnuEncoding"), (15, u "in"), (17, u "initialIn"), (0, u "Ljava/io/InputStream;"), (35, u "bootLayer"), (0, u "Ljava/lang/ModuleLayer;"), (99, .class_ 664), (0, u "java/lang/System$2"), (9, u "NEVER"), (2, u "MAYBE"), (49, u "arraycopy"), (0, u "(Ljava/lang/Object;ILjava/lang/Object;II)V"), (72, .class_ 802), (0, u "java/lang/System$Logger$Level")] 31

def k9m0 : Method := { name := "<init>", desc := "()V", sig := { parameters := [], returnType := none }, accessFlags := 2, code := none }
def k9m1 : Method := { name := "arraycopy", desc := "(Ljava/lang/Object;ILjava/lang/Object;II)V", sig := { parameters := [(.object "java/lang/Object"), .int, (.object "java/lang/Object"), .int, .int], returnType := none }, accessFlags := 265, code := none }
/-- java/lang/System -/
def k9 : Class := { plain "java/lang/System" (some 0) with
  accessFlags := 49
  interfaces := #[]
  cf := some (fileOf pool9 8 #[.nestMembers #[319, 327, 801, 108, 663, 208]] #[{ accessFlags := 2, nameIndex := 5, descriptorIndex := 6, attributes := #[] }, { accessFlags := 265, nameIndex := 727, descriptorIndex := 728, attributes := #[] }] 49 2 #[] #[{ accessFlags := 25, nameIndex := 507, descriptorIndex := 526, attributes := #[] }, { accessFlags := 25, nameIndex := 399, descriptorIndex := 155, attributes := #[] }, { accessFlags := 25, nameIndex := 396, descriptorIndex := 155, attributes := #[] }, { accessFlags := 10, nameIndex := 525, descriptorIndex := 526, attributes := #[] }, { accessFlags := 26, nameIndex := 674, descriptorIndex := 12, attributes := #[] }, { accessFlags := 26, nameIndex := 677, descriptorIndex := 12, attributes := #[] }, { accessFlags := 10, nameIndex := 11, descriptorIndex := 12, attributes := #[] }, { accessFlags := 74, nameIndex := 175, descriptorIndex := 176, attributes := #[] }, { accessFlags := 10, nameIndex := 491, descriptorIndex := 222, attributes := #[] }, { accessFlags := 74, nameIndex := 29, descriptorIndex := 30, attributes := #[] }, { accessFlags := 74, nameIndex := 154, descriptorIndex := 155, attributes := #[] }, { accessFlags := 10, nameIndex := 217, descriptorIndex := 218, attributes := #[] }, { accessFlags := 10, nameIndex := 221, descriptorIndex := 222, attributes := #[] }, { accessFlags := 8, nameIndex := 562, descriptorIndex := 563, attributes := #[] }])
  fields := #[{ name := "in", type := (.object "java/io/InputStream"), accessFlags := 25, slot := 0, constantValue := 0 }, { name := "out", type := (.object "java/io/PrintStream"), accessFlags := 25, slot := 1, constantValue := 0 }, { name := "err", type := (.object "java/io/PrintStream"), accessFlags := 25, slot := 2, constantValue := 0 }, { name := "initialIn", type := (.object "java/io/InputStream"), accessFlags := 10, slot := 3, constantValue := 0 }, { name := "NEVER", type := .int, accessFlags := 26, slot := 4, constantValue := 0 }, { name := "MAYBE", type := .int, accessFlags := 26, slot := 5, constantValue := 0 }, { name := "allowSecurityManager", type := .int, accessFlags := 10, slot := 6, constantValue := 0 }, { name := "security", type := (.object "java/lang/SecurityManager"), accessFlags := 74, slot := 7, constantValue := 0 }, { name := "notSupportedJnuEncoding", type := (.object "java/lang/String"), accessFlags := 10, slot := 8, constantValue := 0 }, { name := "cons", type := (.object "java/io/Console"), accessFlags := 74, slot := 9, constantValue := 0 }, { name := "initialErrStream", type := (.object "java/io/PrintStream"), accessFlags := 74, slot := 10, constantValue := 0 }, { name := "props", type := (.object "java/util/Properties"), accessFlags := 10, slot := 11, constantValue := 0 }, { name := "lineSeparator", type := (.object "java/lang/String"), accessFlags := 10, slot := 12, constantValue := 0 }, { name := "bootLayer", type := (.object "java/lang/ModuleLayer"), accessFlags := 8, slot := 13, constantValue := 0 }]
  methods := #[k9m0, k9m1]
  instanceTypes := #[]
  staticTypes := #[(.object "java/io/InputStream"), (.object "java/io/PrintStream"), (.object "java/io/PrintStream"), (.object "java/io/InputStream"), .int, .int, .int, (.object "java/lang/SecurityManager"), (.object "java/lang/String"), (.object "java/io/Console"), (.object "java/io/PrintStream"), (.object "java/util/Properties"), (.object "java/lang/String"), (.object "java/lang/ModuleLayer")]
  resolved := Array.replicate 834 none
  statics := none }

def pool10 : Array CpInfo := pool [(1, u "java/lang/Cloneable"), (0, .class_ 1), (0, u "java/lang/Object"), (0, .class_ 3)] 3

/-- java/lang/Cloneable -/
def k10 : Class := { plain "java/lang/Cloneable" (some 0) with
  accessFlags := 1537
  interfaces := #[]
  cf := some (fileOf pool10 2 #[] #[] 1537 4 #[] #[])
  fields := #[]
  methods := #[]
  instanceTypes := #[]
  staticTypes := #[]
  resolved := Array.replicate 8 none
  statics := none }

def pool11 : Array CpInfo := pool [(1, u "java/io/Serializable"), (0, .class_ 1), (0, u "java/lang/Object"), (0, .class_ 3)] 3

/-- java/io/Serializable -/
def k11 : Class := { plain "java/io/Serializable" (some 0) with
  accessFlags := 1537
  interfaces := #[]
  cf := some (fileOf pool11 2 #[] #[] 1537 4 #[] #[])
  fields := #[]
  methods := #[]
  instanceTypes := #[]
  staticTypes := #[]
  resolved := Array.replicate 8 none
  statics := none }

/-- the primitive byte -/
def k12 : Class := { plain "byte" none with kind := .primitive 'B', accessFlags := 0x411 }
/-- [B -/
def k13 : Class := { plain "[B" (some 0) with kind := .array 12 .byte, interfaces := #[10, 11], accessFlags := 1041 }

/-- the primitive int -/
def k14 : Class := { plain "int" none with kind := .primitive 'I', accessFlags := 0x411 }
/-- [I -/
def k15 : Class := { plain "[I" (some 0) with kind := .array 14 .int, interfaces := #[10, 11], accessFlags := 1041 }

def heap : Heap := #[]
def classes : Array Class := #[k0, k1, k2, k3, k4, k5, k6, k7, k8, k9, k10, k11, k12, k13, k14, k15]
def interned : List (Array UInt16 × Addr) := []
def slotsUsed : Nat := 0
def theMethod : MethodId := ⟨1, 1⟩
def args0 : Array Value := #[.int 3, .int 1, .int 7, .int 8, .int 9, .int 10]
def aboutOver (below : List Frame) : State where
  vm := { classes := classes, interned := interned.toArray }
  heap := heap
  slotsUsed := slotsUsed
  threads := #[{ frames := .invoking theMethod args0 :: below }]
def below0 : List Frame := [.native { method := ⟨0, 0⟩, args := #[] }]
def about1 : State := aboutOver below0
def p0 : Program := .bare "" "" ""
def e0 : Env := launch0.env 0 0 0
theorem w_frames : about1.frames = Frame.invoking theMethod args0 :: below0 := rfl
set_option maxRecDepth 65536 in
theorem w_args : argsFit about1.vm theMethod args0 = true := by decide +kernel
set_option maxRecDepth 65536 in
theorem w_heap : heapFits about1 = true := by decide +kernel
set_option maxRecDepth 65536 in
theorem w_runnable : about1.curStatus? = some .runnable := by decide +kernel
set_option maxRecDepth 65536 in
theorem w_alone : about1.alone = true := by decide +kernel
set_option maxRecDepth 65536 in
theorem w_named : about1.methodNamed? x = some theMethod := by decide +kernel
set_option maxRecDepth 65536 in
theorem w_hears : about1.hears theMethod below0 = true := by decide +kernel
set_option maxRecDepth 65536 in
theorem w_ripe : about1.ripe theMethod args0 below0 = true := by decide +kernel
theorem w_running : about1.status = .running := rfl
set_option maxRecDepth 65536 in
theorem w_room : about1.hasRoom e0.platform room_1 = true :=
  launch0.hasRoom_least _ room_1 (by decide +kernel) (by decide +kernel) (by decide +kernel) (by decide +kernel) (by decide +kernel) (by decide +kernel)
theorem allAtoms_all (ts : List Jvm.Cond) (a : Array Jvm.Value) (st : Jvm.State) : (allAtoms ts).before a st = ts.all (fun c => c.before a st) := by
  induction ts with
  | nil => rfl
  | cons c t ih =>
    show (Jvm.Cond.and c (allAtoms t)).before a st = _
    rw [Jvm.Cond.before_and, ih, List.all_cons]
def words1 : List Jvm.Cond := Jvm.Cond.code x code maxLocals ret :: tables_1
/-- a 'code' word, met by the world's own term for the bytes: nothing is compared byte by byte -/
theorem code_word {y : MethodName} {bytes : ByteArray} {mx : Nat} {rt : Option FieldType} {a : Array Value} {s : State} {m : MethodId} {meth : Method} {c : Code} (h1 : s.methodNamed? y = some m) (h2 : s.vm.method? m = some meth) (h3 : meth.code = some c) (h4 : c.code = bytes)
    (h5 : (c.maxLocals == mx && c.exceptionTable.isEmpty && decide (c.maxStack ≤ mostOperands) && decide (meth.sig.returnType = rt) && !meth.locks && decide (parseMethodDescriptor y.desc = some meth.sig)) = true) : (Jvm.Cond.code y bytes mx rt).before a s = true := by
  simp only [Bool.and_eq_true, beq_iff_eq, Bool.not_eq_true', decide_eq_true_eq] at h5
  obtain ⟨⟨⟨⟨⟨g1, g2⟩, g3⟩, g4⟩, g5⟩, g6⟩ := h5
  simp [Cond.before, Cond.holds, Cond.value, h1, h2, h3, h4, g1, g2, g3, g4, g5, g6]
def isCode : Jvm.Cond → Bool
  | .code _ _ _ _ => true
  | _ => false
theorem all_split {L : List Jvm.Cond} {P : Jvm.Cond → Bool} (h1 : L.all (fun c => isCode c || P c) = true) (h2 : ∀ c ∈ L.filter isCode, P c = true) : L.all P = true := by
  refine List.all_eq_true.mpr fun c hc => ?_
  have h := List.all_eq_true.mp h1 c hc
  rcases Bool.eq_false_or_eq_true (isCode c) with hi | hi
  · exact h2 c (List.mem_filter.mpr ⟨hc, hi⟩)
  · simpa [hi] using h
set_option maxRecDepth 65536 in
theorem w_c0 : (Jvm.Cond.code x code maxLocals ret).before args0 about1 = true := code_word (m := ⟨1, 1⟩) (meth := k1m1) (c := k1c1) (by decide +kernel) rfl rfl rfl (by decide +kernel)
set_option maxRecDepth 65536 in
theorem w_c1 : (Jvm.Cond.code ({ cls := "com/example/quicksettle/quicksettle/Records$Writer", name := "<init>", desc := "()V" } : Jvm.MethodName) prog_67_method_1_code (1 : Nat) (Option.none : Option Jvm.ClassFile.FieldType)).before args0 about1 = true := code_word (m := ⟨6, 0⟩) (meth := k6m0) (c := k6c0) (by decide +kernel) rfl rfl rfl (by decide +kernel)
set_option maxRecDepth 65536 in
theorem w_c2 : (Jvm.Cond.code ({ cls := "java/io/OutputStream", name := "<init>", desc := "()V" } : Jvm.MethodName) jdk_2038_method_1_code (1 : Nat) (Option.none : Option Jvm.ClassFile.FieldType)).before args0 about1 = true := code_word (m := ⟨5, 0⟩) (meth := k5m0) (c := k5c0) (by decide +kernel) rfl rfl rfl (by decide +kernel)
set_option maxRecDepth 65536 in
theorem w_c3 : (Jvm.Cond.code ({ cls := "java/lang/Object", name := "<init>", desc := "()V" } : Jvm.MethodName) object_method_1_code (1 : Nat) (Option.none : Option Jvm.ClassFile.FieldType)).before args0 about1 = true := code_word (m := ⟨0, 0⟩) (meth := k0m0) (c := k0c0) (by decide +kernel) rfl rfl rfl (by decide +kernel)
set_option maxRecDepth 65536 in
theorem w_c4 : (Jvm.Cond.code ({ cls := "com/example/quicksettle/quicksettle/Records$Writer", name := "payloadFrom", desc := "(I)[B" } : Jvm.MethodName) prog_67_method_4_code (2 : Nat) (Option.some (Jvm.ClassFile.FieldType.array Jvm.ClassFile.FieldType.byte))).before args0 about1 = true := code_word (m := ⟨6, 2⟩) (meth := k6m2) (c := k6c2) (by decide +kernel) rfl rfl rfl (by decide +kernel)
set_option maxRecDepth 65536 in
theorem w_c5 : (Jvm.Cond.code ({ cls := "java/util/Arrays", name := "copyOfRange", desc := "([BII)[B" } : Jvm.MethodName) jdk_65_method_132_code (3 : Nat) (Option.some (Jvm.ClassFile.FieldType.array Jvm.ClassFile.FieldType.byte))).before args0 about1 = true := code_word (m := ⟨7, 2⟩) (meth := k7m2) (c := k7c2) (by decide +kernel) rfl rfl rfl (by decide +kernel)
set_option maxRecDepth 65536 in
theorem w_c6 : (Jvm.Cond.code ({ cls := "java/util/Arrays", name := "copyOfRangeByte", desc := "([BII)[B" } : Jvm.MethodName) jdk_65_method_133_code (5 : Nat) (Option.some (Jvm.ClassFile.FieldType.array Jvm.ClassFile.FieldType.byte))).before args0 about1 = true := code_word (m := ⟨7, 3⟩) (meth := k7m3) (c := k7c3) (by decide +kernel) rfl rfl rfl (by decide +kernel)
set_option maxRecDepth 65536 in
theorem w_c7 : (Jvm.Cond.code ({ cls := "java/util/Arrays", name := "checkLength", desc := "(II)V" } : Jvm.MethodName) jdk_65_method_131_code (2 : Nat) (Option.none : Option Jvm.ClassFile.FieldType)).before args0 about1 = true := code_word (m := ⟨7, 1⟩) (meth := k7m1) (c := k7c1) (by decide +kernel) rfl rfl rfl (by decide +kernel)
set_option maxRecDepth 65536 in
theorem w_c8 : (Jvm.Cond.code ({ cls := "java/lang/Math", name := "min", desc := "(II)I" } : Jvm.MethodName) jdk_29_method_69_code (2 : Nat) (Option.some Jvm.ClassFile.FieldType.int)).before args0 about1 = true := code_word (m := ⟨8, 1⟩) (meth := k8m1) (c := k8c1) (by decide +kernel) rfl rfl rfl (by decide +kernel)
set_option maxRecDepth 65536 in
theorem w_c9 : (Jvm.Cond.code ({ cls := "com/example/quicksettle/quicksettle/Records$Writer", name := "payloadBytes", desc := "()I" } : Jvm.MethodName) prog_67_method_3_code (1 : Nat) (Option.some Jvm.ClassFile.FieldType.int)).before args0 about1 = true := code_word (m := ⟨6, 1⟩) (meth := k6m1) (c := k6c1) (by decide +kernel) rfl rfl rfl (by decide +kernel)
set_option maxRecDepth 65536 in
theorem w_c10 : (Jvm.Cond.code ({ cls := "com/example/quicksettle/quicksettle/WriterPayloadFromPinLaw", name := "at", desc := "([BI[BI)Z" } : Jvm.MethodName) method_3_code (4 : Nat) (Option.some Jvm.ClassFile.FieldType.boolean)).before args0 about1 = true := code_word (m := ⟨1, 2⟩) (meth := k1m2) (c := k1c2) (by decide +kernel) rfl rfl rfl (by decide +kernel)
set_option maxRecDepth 65536 in
theorem w_c11 : (Jvm.Cond.code ({ cls := "com/example/quicksettle/quicksettle/Records$Writer", name := "write", desc := "(I)V" } : Jvm.MethodName) prog_67_method_6_code (2 : Nat) (Option.none : Option Jvm.ClassFile.FieldType)).before args0 about1 = true := code_word (m := ⟨6, 3⟩) (meth := k6m3) (c := k6c3) (by decide +kernel) rfl rfl rfl (by decide +kernel)
set_option maxRecDepth 65536 in
theorem w_c12 : (Jvm.Cond.code ({ cls := "com/example/quicksettle/quicksettle/Records$Writer", name := "room", desc := "(I)V" } : Jvm.MethodName) prog_67_method_9_code (2 : Nat) (Option.none : Option Jvm.ClassFile.FieldType)).before args0 about1 = true := code_word (m := ⟨6, 4⟩) (meth := k6m4) (c := k6c4) (by decide +kernel) rfl rfl rfl (by decide +kernel)
def codes1 : List Jvm.Cond := [Jvm.Cond.code x code maxLocals ret, Jvm.Cond.code ({ cls := "com/example/quicksettle/quicksettle/Records$Writer", name := "<init>", desc := "()V" } : Jvm.MethodName) prog_67_method_1_code (1 : Nat) (Option.none : Option Jvm.ClassFile.FieldType), Jvm.Cond.code ({ cls := "java/io/OutputStream", name := "<init>", desc := "()V" } : Jvm.MethodName) jdk_2038_method_1_code (1 : Nat) (Option.none : Option Jvm.ClassFile.FieldType), Jvm.Cond.code ({ cls := "java/lang/Object", name := "<init>", desc := "()V" } : Jvm.MethodName) object_method_1_code (1 : Nat) (Option.none : Option Jvm.ClassFile.FieldType), Jvm.Cond.code ({ cls := "com/example/quicksettle/quicksettle/Records$Writer", name := "payloadFrom", desc := "(I)[B" } : Jvm.MethodName) prog_67_method_4_code (2 : Nat) (Option.some (Jvm.ClassFile.FieldType.array Jvm.ClassFile.FieldType.byte)), Jvm.Cond.code ({ cls := "java/util/Arrays", name := "copyOfRange", desc := "([BII)[B" } : Jvm.MethodName) jdk_65_method_132_code (3 : Nat) (Option.some (Jvm.ClassFile.FieldType.array Jvm.ClassFile.FieldType.byte)), Jvm.Cond.code ({ cls := "java/util/Arrays", name := "copyOfRangeByte", desc := "([BII)[B" } : Jvm.MethodName) jdk_65_method_133_code (5 : Nat) (Option.some (Jvm.ClassFile.FieldType.array Jvm.ClassFile.FieldType.byte)), Jvm.Cond.code ({ cls := "java/util/Arrays", name := "checkLength", desc := "(II)V" } : Jvm.MethodName) jdk_65_method_131_code (2 : Nat) (Option.none : Option Jvm.ClassFile.FieldType), Jvm.Cond.code ({ cls := "java/lang/Math", name := "min", desc := "(II)I" } : Jvm.MethodName) jdk_29_method_69_code (2 : Nat) (Option.some Jvm.ClassFile.FieldType.int), Jvm.Cond.code ({ cls := "com/example/quicksettle/quicksettle/Records$Writer", name := "payloadBytes", desc := "()I" } : Jvm.MethodName) prog_67_method_3_code (1 : Nat) (Option.some Jvm.ClassFile.FieldType.int), Jvm.Cond.code ({ cls := "com/example/quicksettle/quicksettle/WriterPayloadFromPinLaw", name := "at", desc := "([BI[BI)Z" } : Jvm.MethodName) method_3_code (4 : Nat) (Option.some Jvm.ClassFile.FieldType.boolean), Jvm.Cond.code ({ cls := "com/example/quicksettle/quicksettle/Records$Writer", name := "write", desc := "(I)V" } : Jvm.MethodName) prog_67_method_6_code (2 : Nat) (Option.none : Option Jvm.ClassFile.FieldType), Jvm.Cond.code ({ cls := "com/example/quicksettle/quicksettle/Records$Writer", name := "room", desc := "(I)V" } : Jvm.MethodName) prog_67_method_9_code (2 : Nat) (Option.none : Option Jvm.ClassFile.FieldType)]
set_option maxRecDepth 65536 in
theorem codes_eq : words1.filter isCode = codes1 := rfl
theorem w_codes : ∀ c ∈ words1.filter isCode, c.before args0 about1 = true := by
  rw [codes_eq]
  intro c hc
  simp only [codes1, List.mem_cons, List.not_mem_nil, or_false] at hc
  rcases hc with rfl | rfl | rfl | rfl | rfl | rfl | rfl | rfl | rfl | rfl | rfl | rfl | rfl
  · exact w_c0
  · exact w_c1
  · exact w_c2
  · exact w_c3
  · exact w_c4
  · exact w_c5
  · exact w_c6
  · exact w_c7
  · exact w_c8
  · exact w_c9
  · exact w_c10
  · exact w_c11
  · exact w_c12
set_option maxRecDepth 65536 in
theorem w_t1 : (words1.take 24).all (fun c => isCode c || c.before args0 about1) = true := by decide +kernel
set_option maxRecDepth 65536 in
theorem w_t2 : ((words1.drop 24).take 24).all (fun c => isCode c || c.before args0 about1) = true := by decide +kernel
set_option maxRecDepth 65536 in
theorem w_t3 : ((words1.drop 24).drop 24).all (fun c => isCode c || c.before args0 about1) = true := by decide +kernel
theorem w_tables : (allAtoms (Jvm.Cond.code x code maxLocals ret :: tables_1)).before args0 about1 = true := by
  rw [allAtoms_all]
  show words1.all (fun c => c.before args0 about1) = true
  refine all_split ?_ w_codes
  rw [← List.take_append_drop 24 words1, List.all_append, w_t1, ← List.take_append_drop 24 (words1.drop 24), List.all_append, w_t2, w_t3]
  rfl
set_option maxRecDepth 65536 in
theorem w_case : (Jvm.Cond.and given_1 narrow_1).before args0 about1 = true := by decide +kernel
theorem w_applies : (headSpec (Jvm.Cond.code x code maxLocals ret :: tables_1) room_1).applies x e0.platform about1 = true :=
  (Spec.applies_iff w_frames).mpr ⟨w_running, w_runnable, w_alone, w_named, w_hears, w_ripe, w_room, w_tables⟩
theorem atStart : AtStart classFile x code maxLocals ret World_1 tables_1 room_1 Calls_1 rest_1 Pre_1 launch0 p0 e0 about1 theMethod args0 below0 :=
  ⟨lists_1, trivial, launch0.admits_env _ _ _, launch0.least_env, fairChoices_fair.cas, fairChoices_fair.clock, w_frames, w_args, w_heap, w_applies, trivial, trivial, w_case⟩
end start1
theorem witness_1 : WitnessClaimed_1 := ⟨start1.p0, start1.e0, start1.about1, start1.theMethod, start1.args0, start1.below0, start1.atStart⟩
end Jvm.Pilot.@@N@@
