import JvmDerived
import JvmDerived.Pilot.@@N@@Statement
import JvmDerived.Pilot.@@N@@Code
set_option linter.unusedVariables false
set_option linter.unusedSimpArgs false
namespace Jvm.OwnKit
open Sem ClassFile Op Lib Jvm.Stand Jvm.Free Jvm.LawKit Jvm.RoadKit
section Own
variable {p : Program} {l : Launch} {e : Env} {R : Room} {s : State} {m : MethodId} {args : Array Value} {below : List Frame} {meth : Method} {c : Code} {T : State} {locs : List Loc} {cells slots : Nat} {Z : State} {h h' : Heap} {a b : Addr}
theorem retI (X : Stand p l e R s m args below meth c T locs cells slots) (hx : p.tables.exec = Jvm.exec) {pc : Nat} {Ls : Array Slot} {z : Int32} {rest : List Value} (hret : meth.sig.returnType = some .int) (hd : decode c.code pc = .ok (.ireturn, 1)) {fs : List Frame}
    (hl : ∀ (f : JFrame) (acts : List Action), f.method = m → f.locked = none → f.entered = [] → (doReturn e (T.setTop f) acts (some (.int z))).1 = T.setFrames fs) : Steps p.tables e below (T.setTop (mkF m pc Ls (.int z :: rest))) (T.setFrames fs) :=
  retOut X hx hret rfl (Or.inl ⟨rfl, Or.inl rfl, z, rfl⟩) hd hl
/-- the run goes on from S to an end of which G holds -/
def Go (p : Program) (e : Env) (below : List Frame) (S : State) (G : State → Outcome → Prop) : Prop := ∃ s₂ o, Steps p.tables e below S s₂ ∧ s₂.status = .running ∧ Ended s₂ below o ∧ G s₂ o
theorem Go.via {S S' : State} {G : State → Outcome → Prop} (h : ∀ t, Steps p.tables e below S' t → Steps p.tables e below S t) (k : Go p e below S' G) : Go p e below S G := by
  obtain ⟨a, o, h1, r⟩ := k; exact ⟨a, o, h a h1, r⟩
/-- the end: what is returned, what the heap says, what was written -/
abbrev Done (s : State) (Q : Option Value → Heap → List Loc → Prop) (kc ks : Nat) : State → Outcome → Prop := fun s₂ o => ∃ v L, o = .returned v ∧ Q v s₂.heap L ∧ FrameEnd s o s₂ L kc ks
theorem Go.fin {S : State} (X : Stand p l e R s m args below meth c T locs cells slots) (hlk : meth.locks = false) {v : Option Value} (hv : meth.sig.returnType = none → v = none) {Q : Option Value → Heap → List Loc → Prop} {kc ks : Nat}
    (hstep : ∀ fs, (∀ (f : JFrame) (acts : List Action), f.method = m → f.locked = none → f.entered = [] → (doReturn e (T.setTop f) acts v).1 = T.setFrames fs) → Steps p.tables e below S (T.setFrames fs))
    (hQ : Q v T.heap locs) (hc : cells ≤ kc) (hs : slots ≤ ks) : Go p e below S (Done s Q kc ks) := by
  obtain ⟨fs, hr, hrun, hended, hW, hsame⟩ := X.leave (v := v) hv hlk
  exact ⟨_, _, hstep fs hr, hrun, hended, _, _, rfl, hQ, ⟨_, rfl⟩, hW, hsame.mono hc hs⟩
/-- an array of ints, bytes, chars, shorts or booleans, whole -/
def Ia (Z : State) (h : Heap) (a : Addr) (ty : FieldType) (xs : List Int32) : Prop := ∃ c : Cell, Arr Z h a c ty ∧ c.slots = (xs.map Value.int).toArray ∧ xs.length < 2147483648 ∧ ∀ x ∈ xs, fits ty (.int x) = true
variable {ty : FieldType} {xs : List Int32} {ws : List Addr} {sl : Nat} {v w : Value} {j x n : Int32} {k : ClassId} {rest : List Value}
theorem Ia.lt (F : Ia Z h a ty xs) : a < h.size := by obtain ⟨c, A, -⟩ := F; exact A.lt
theorem Ia.ext (F : Ia Z h a ty xs) (E : Ext h h') : Ia Z h' a ty xs := by obtain ⟨c, A, r⟩ := F; exact ⟨c, A.ext E, r⟩
theorem Ia.other (F : Ia Z h b ty xs) (W : Wr h h' a sl v) (q : b ≠ a) : Ia Z h' b ty xs := by obtain ⟨c, A, r⟩ := F; exact ⟨c, A.other W q, r⟩
theorem Ia.keep (F : Ia Z h a ty xs) (K : Keep h h' ws) (q : a ∉ ws) : Ia Z h' a ty xs := by obtain ⟨c, A, r⟩ := F; exact ⟨c, ⟨K.2.1 a c A.1 q, A.2⟩, r⟩
theorem nn_lt {n : Int32} : n.toNatClampNeg < 2147483648 := by
  have h1 := n.toInt_lt
  simp only [Int32.toNatClampNeg]; omega
theorem Ia.new (A : Arr Z h a (newA k ty n) ty) (hd : defaultValue ty = .int 0) (hf : fits ty (.int 0) = true := by rfl) : Ia Z h a ty (List.replicate n.toNatClampNeg 0) := ⟨_, A, by simp [newA, hd], by simp [nn_lt], fun x hx => by rw [(List.mem_replicate.mp hx).2]; exact hf⟩
theorem Ia.hin {cl : Cell} (e : cl.slots = (xs.map Value.int).toArray) (hj : ¬ j < 0) (hlt : j.toNatClampNeg < xs.length) : ¬ (j < 0 ∨ cl.slots.size ≤ j.toNatClampNeg) := by
  rw [e]; simp only [List.size_toArray, List.length_map]; rintro (q | q); exact hj q; omega
theorem Ia.at {cl : Cell} (e : cl.slots = (xs.map Value.int).toArray) (hv : xs[j.toNatClampNeg]? = some x) : cl.slots[j.toNatClampNeg]? = some (.int x) := by
  rw [e]; simp [hv]
theorem lt_of_at (hv : xs[j.toNatClampNeg]? = some x) : j.toNatClampNeg < xs.length := (List.getElem?_eq_some_iff.mp hv).1
theorem Ia.set {cl : Cell} (A : Arr Z h a cl ty) (e : cl.slots = (xs.map Value.int).toArray) (hl : xs.length < 2147483648) (hf : ∀ x ∈ xs, fits ty (.int x) = true) (W : Wr h h' a j.toNatClampNeg (.int x)) (hx : fits ty (.int x) = true) : Ia Z h' a ty (xs.set j.toNatClampNeg x) :=
  ⟨_, A.same W, by simp [Cell.setSlot, e, List.map_set], by simpa using hl, fun y hy => by rcases List.mem_or_eq_of_mem_set hy with q | q; exact hf y q; rw [q]; exact hx⟩
theorem ldI (X : Stand p l e R s m args below meth c T locs cells slots) (hx : p.tables.exec = Jvm.exec) (hZ : Z.Warmed39 s.vm) (eT : T.heap = h) (F : Ia Z h a .int xs) {v : Int32} (hj : ¬ j < 0) (hv : xs[j.toNatClampNeg]? = some v) {g : JFrame} (hg : g.method = m) (hs : g.stack = .int j :: .ref a :: rest) (hd : decode c.code g.pc = .ok (.iaload, 1)) :
    ∀ t, Steps p.tables e below (T.setTop { g with pc := g.pc + 1, stack := .int v :: rest }) t → Steps p.tables e below (T.setTop g) t := by
  obtain ⟨cl, A, q, -⟩ := F
  exact X.iaload hx (j := j) (v := .int v) (by rw [eT]; exact A.1) (State.isArrayOf_alike hZ.alike A.2.1) A.2.2 (Ia.hin q hj (lt_of_at hv)) (Ia.at q hv) hg hs hd
theorem ldB (X : Stand p l e R s m args below meth c T locs cells slots) (hx : p.tables.exec = Jvm.exec) (hZ : Z.Warmed39 s.vm) (eT : T.heap = h) (F : Ia Z h a .byte xs) {v : Int32} (hj : ¬ j < 0) (hv : xs[j.toNatClampNeg]? = some v) {g : JFrame} (hg : g.method = m) (hs : g.stack = .int j :: .ref a :: rest) (hd : decode c.code g.pc = .ok (.baload, 1)) :
    ∀ t, Steps p.tables e below (T.setTop { g with pc := g.pc + 1, stack := .int v :: rest }) t → Steps p.tables e below (T.setTop g) t := by
  obtain ⟨cl, A, q, -⟩ := F
  exact X.baloadBytes hx (j := j) (v := .int v) (by rw [eT]; exact A.1) (State.isArrayOf_alike hZ.alike A.2.1) A.2.2 (Ia.hin q hj (lt_of_at hv)) (Ia.at q hv) hg hs hd
theorem ldC (X : Stand p l e R s m args below meth c T locs cells slots) (hx : p.tables.exec = Jvm.exec) (hZ : Z.Warmed39 s.vm) (eT : T.heap = h) (F : Ia Z h a .char xs) {v : Int32} (hj : ¬ j < 0) (hv : xs[j.toNatClampNeg]? = some v) {g : JFrame} (hg : g.method = m) (hs : g.stack = .int j :: .ref a :: rest) (hd : decode c.code g.pc = .ok (.caload, 1)) :
    ∀ t, Steps p.tables e below (T.setTop { g with pc := g.pc + 1, stack := .int v :: rest }) t → Steps p.tables e below (T.setTop g) t := by
  obtain ⟨cl, A, q, -⟩ := F
  exact X.caload hx (j := j) (v := .int v) (by rw [eT]; exact A.1) (State.isArrayOf_alike hZ.alike A.2.1) A.2.2 (Ia.hin q hj (lt_of_at hv)) (Ia.at q hv) hg hs hd
theorem stI' (X : Stand p l e R s m args below meth c T locs cells slots) (hx : p.tables.exec = Jvm.exec) (hZ : Z.Warmed39 s.vm) (eT : T.heap = h) (F : Ia Z h a .int xs) (hj : ¬ j < 0) (hlt : j.toNatClampNeg < xs.length) {g : JFrame} (hg : g.method = m) (hs : g.stack = .int x :: .int j :: .ref a :: rest) (hd : decode c.code g.pc = .ok (.iastore, 1)) :
    ∃ T' h', Stand p l e R s m args below meth c T' (locs ++ [⟨a, j.toNatClampNeg⟩]) cells slots ∧ T'.heap = h' ∧ Wr h h' a j.toNatClampNeg (.int x) ∧ Ia Z h' a .int (xs.set j.toNatClampNeg x) ∧ ∀ t, Steps p.tables e below (T'.setTop { g with pc := g.pc + 1, stack := rest }) t → Steps p.tables e below (T.setTop g) t := by
  obtain ⟨cl, A, q, hl, hf⟩ := F
  obtain ⟨T', h', X', e', W, st⟩ := stI X hx hZ eT A (Ia.hin q hj hlt) hg hs hd
  exact ⟨T', h', X', e', W, Ia.set A q hl hf W rfl, st⟩
theorem stB' (X : Stand p l e R s m args below meth c T locs cells slots) (hx : p.tables.exec = Jvm.exec) (hZ : Z.Warmed39 s.vm) (eT : T.heap = h) (F : Ia Z h a .byte xs) (hj : ¬ j < 0) (hlt : j.toNatClampNeg < xs.length) {g : JFrame} (hg : g.method = m) (hs : g.stack = .int x :: .int j :: .ref a :: rest) (hd : decode c.code g.pc = .ok (.bastore, 1)) :
    ∃ T' h', Stand p l e R s m args below meth c T' (locs ++ [⟨a, j.toNatClampNeg⟩]) cells slots ∧ T'.heap = h' ∧ Wr h h' a j.toNatClampNeg (.int (nar .byte x)) ∧ Ia Z h' a .byte (xs.set j.toNatClampNeg (nar .byte x)) ∧ ∀ t, Steps p.tables e below (T'.setTop { g with pc := g.pc + 1, stack := rest }) t → Steps p.tables e below (T.setTop g) t := by
  obtain ⟨cl, A, q, hl, hf⟩ := F
  obtain ⟨T', h', X', e', W, st⟩ := stB X hx hZ eT A (Ia.hin q hj hlt) hg hs hd
  exact ⟨T', h', X', e', W, Ia.set A q hl hf W (fits_nar_byte x), st⟩
theorem stC' (X : Stand p l e R s m args below meth c T locs cells slots) (hx : p.tables.exec = Jvm.exec) (hZ : Z.Warmed39 s.vm) (eT : T.heap = h) (F : Ia Z h a .char xs) (hj : ¬ j < 0) (hlt : j.toNatClampNeg < xs.length) {g : JFrame} (hg : g.method = m) (hs : g.stack = .int x :: .int j :: .ref a :: rest) (hd : decode c.code g.pc = .ok (.castore, 1)) :
    ∃ T' h', Stand p l e R s m args below meth c T' (locs ++ [⟨a, j.toNatClampNeg⟩]) cells slots ∧ T'.heap = h' ∧ Wr h h' a j.toNatClampNeg (.int (nar .char x)) ∧ Ia Z h' a .char (xs.set j.toNatClampNeg (nar .char x)) ∧ ∀ t, Steps p.tables e below (T'.setTop { g with pc := g.pc + 1, stack := rest }) t → Steps p.tables e below (T.setTop g) t := by
  obtain ⟨cl, A, q, hl, hf⟩ := F
  obtain ⟨T', h', X', e', W, st⟩ := stC X hx hZ eT A (Ia.hin q hj hlt) hg hs hd
  exact ⟨T', h', X', e', W, Ia.set A q hl hf W (fits_nar_char x), st⟩
theorem lenI (X : Stand p l e R s m args below meth c T locs cells slots) (hx : p.tables.exec = Jvm.exec) (hZ : Z.Warmed39 s.vm) (eT : T.heap = h) (F : Ia Z h a ty xs) (hn : xs.length.toInt32 = n) {g : JFrame} (hg : g.method = m) (hs : g.stack = .ref a :: rest) (hd : decode c.code g.pc = .ok (.arraylength, 1)) :
    ∀ t, Steps p.tables e below (T.setTop { g with pc := g.pc + 1, stack := .int n :: rest }) t → Steps p.tables e below (T.setTop g) t := by
  obtain ⟨cl, A, q, -⟩ := F
  have q2 : cl.slots.size.toInt32 = n := by rw [q]; simpa using hn
  have := X.arraylength hx (by rw [eT]; exact A.1) (State.isArrayOf_alike hZ.alike A.2.1) hg hs hd
  rw [q2] at this
  exact this
theorem len32 (hl : xs.length < 2147483648) : xs.length.toInt32.toNatClampNeg = xs.length ∧ ¬ xs.length.toInt32 < 0 := by
  have h1 : xs.length.toInt32.toInt = (xs.length : Int) := Int32.toInt_ofNat_small hl
  refine ⟨by simp only [Int32.toNatClampNeg]; omega, ?_⟩
  rw [Int32.lt_iff_toInt_lt, h1]
  have : (0 : Int32).toInt = 0 := rfl
  omega
theorem Ia.arv (F : Ia Z h a ty xs) : ∃ k, Arv Z h a k ty xs.length.toInt32 (xs.map Value.int) (.int 0) ∧ xs.length < 2147483648 := by
  obtain ⟨c, A, q, hl, hf⟩ := F
  refine ⟨c.cls, ⟨c, A, rfl, by rw [q, (len32 hl).1]; simp, (len32 hl).2, fun i hi => ?_, fun i hi => ?_⟩, hl⟩
  · have hi2 : i < xs.length := by rw [q] at hi; simpa using hi
    rw [q]; simp [List.getD, hi2]
  · have hi2 : i < xs.length := by rw [q] at hi; simpa using hi
    have := hf xs[i] (List.getElem_mem hi2)
    simpa [List.getD, hi2] using this
theorem Ia.of_arv {z : Int32} {d : Value} (F : Arv Z h a k ty z (xs.map Value.int) d) (hl : xs.length = z.toNatClampNeg) : Ia Z h a ty xs := by
  obtain ⟨c, A, q1, S, N, H, G⟩ := F
  have hn : z.toNatClampNeg < 2147483648 := nn_lt
  refine ⟨c, A, ?_, by omega, fun x hx => ?_⟩
  · apply Array.ext
    · rw [S, ← hl]; simp
    · intro i h1 h2
      have := H i h1
      have h3 : i < xs.length := by rw [hl, ← S]; exact h1
      rw [Array.getElem?_eq_getElem h1] at this
      simpa [List.getD, h3] using this
  · obtain ⟨i, hi, rfl⟩ := List.getElem_of_mem hx
    have := G i (by rw [S, ← hl]; exact hi)
    simpa [List.getD, hi] using this
theorem cpI {ys : List Int32} {sp dp nn : Int32} (X : Stand p l e R s m args below meth c T locs cells slots) (hx : p.tables.exec = Jvm.exec) (hZ : Z.Warmed39 s.vm) {a0 : Array Value} {own : String} {index : Nat} (hown : s.vm.findClass own = some m.cls)
    (w1 : (Cond.methodLink own index Jvm.Stand.acN).before a0 Z = true) (w2 : (Cond.native Jvm.Stand.acN).before a0 Z = true) (w3 : (Cond.static Jvm.Stand.acN).before a0 Z = true) (w4 : (Cond.initialized "java/lang/System").before a0 Z = true) (eT : T.heap = h)
    (A : Ia Z h a ty xs) (B : Ia Z h b ty ys) (hty : refKind ty = false) (h1 : ¬ sp < 0) (h2 : ¬ dp < 0) (h3 : ¬ nn < 0) (h4 : sp.toNatClampNeg + nn.toNatClampNeg ≤ xs.length) (h5 : dp.toNatClampNeg + nn.toNatClampNeg ≤ ys.length)
    {n0 : Nat} (N : Fr n0 locs) (ge : n0 ≤ b)
    {g : JFrame} (hg : g.method = m) (hsize : g.locals.size = c.maxLocals) {rest : List Value} (hs : g.stack = .int nn :: .int dp :: .ref b :: .int sp :: .ref a :: rest) (hd : decode c.code g.pc = .ok (.invokestatic index, 3))
    (hf : 1 ≤ R.frames) {W : Nat} (hW : 2 * g.monitorRoom + (rest.map fun v => v.category).sum ≤ W) (hlo : W + (nativeFrameWords "java/lang/System" "arraycopy" 5 + 11) ≤ R.locals) :
    ∃ T' h' L, Stand p l e R s m args below meth c T' L cells slots ∧ T'.heap = h' ∧ Fr n0 L ∧ Keep h h' [b] ∧ Ia Z h' b ty (ys.take dp.toNatClampNeg ++ (xs.drop sp.toNatClampNeg).take nn.toNatClampNeg ++ ys.drop (dp.toNatClampNeg + nn.toNatClampNeg)) ∧
      ∀ target, Steps p.tables e below (T'.setTop { g with pc := g.pc + 3, stack := rest }) target → Steps p.tables e below (T.setTop g) target := by
  obtain ⟨k, A', la⟩ := A.arv
  obtain ⟨k', B', lb⟩ := B.arv
  obtain ⟨T', h', L, X', e', N', K', V', st⟩ := cpA X hx hZ hown w1 w2 w3 w4 eT A' B' (us := ((xs.drop sp.toNatClampNeg).take nn.toNatClampNeg).map Value.int) (Or.inl ⟨rfl, hty⟩) h1 h2 h3 (by rw [(len32 la).1]; exact h4) (by rw [(len32 lb).1]; exact h5)
    (by
      apply List.ext_getElem
      · simp; omega
      · intro i q1 q2
        have q3 : i < nn.toNatClampNeg := by simpa using q2
        have q4 : sp.toNatClampNeg + i < xs.length := by omega
        simp [List.getD, q4])
    (by simpa using h5) N ge hg hsize hs hd hf hW hlo
  refine ⟨T', h', L, X', e', N', K', Ia.of_arv (k := k') (z := ys.length.toInt32) (d := .int 0) ?_ ?_, st⟩
  · simpa [List.map_append, List.map_take, List.map_drop] using V'
  · rw [(len32 lb).1]; simp; omega
theorem cloneI (X : Stand p l e R s m args below meth c T locs cells slots) (hx : p.tables.exec = Jvm.exec) (hZ : Z.Warmed39 s.vm) {a0 : Array Value} {own ad : String} {index : Nat} (hown : s.vm.findClass own = some m.cls)
    (w1 : (Cond.methodLink own index ⟨ad, "clone", "()Ljava/lang/Object;"⟩).before a0 Z = true) (w2 : (Cond.sameMethod ad "java/lang/Object" "clone" "()Ljava/lang/Object;").before a0 Z = true) (w3 : (Cond.native ⟨"java/lang/Object", "clone", "()Ljava/lang/Object;"⟩).before a0 Z = true)
    (w4 : (Cond.instanceMethod ⟨"java/lang/Object", "clone", "()Ljava/lang/Object;"⟩).before a0 Z = true) (w5 : (Cond.selects ad ⟨ad, "clone", "()Ljava/lang/Object;"⟩ ⟨"java/lang/Object", "clone", "()Ljava/lang/Object;"⟩).before a0 Z = true) (w6 : (Cond.castable ad "java/lang/Cloneable").before a0 Z = true)
    (eT : T.heap = h) (F : Ia Z h a ty xs) (E : Exa Z h a ad) {g : JFrame} (hg : g.method = m) (hsize : g.locals.size = c.maxLocals) {rest : List Value} (hst : g.stack = .ref a :: rest) (hd : decode c.code g.pc = .ok (.invokevirtual index, 3))
    (hf : 1 ≤ R.frames) {W cap : Nat} (hW : 2 * g.monitorRoom + (rest.map fun v => v.category).sum ≤ W) (hl : W + 14 ≤ R.locals) (hcap : xs.length ≤ cap) (hc : cells + 1 ≤ R.cells) (hsl : slots + cap ≤ R.slots) :
    ∃ T' h', Stand p l e R s m args below meth c T' locs (cells + 1) (slots + cap) ∧ T'.heap = h' ∧ Ext h h' ∧ Ia Z h' h.size ty xs ∧ Exa Z h' h.size ad ∧
      ∀ target, Steps p.tables e below (T'.setTop { g with pc := g.pc + 3, stack := .ref h.size :: rest }) target → Steps p.tables e below (T.setTop g) target := by
  obtain ⟨k, A, la⟩ := F.arv
  obtain ⟨T', h', X', e', ex, A', E', st⟩ := cloneH X hx hZ hown w1 w2 w3 w4 w5 w6 eT A.arh E hg hsize hst hd hf hW hl (by rw [(len32 la).1]; exact hcap) hc hsl
  exact ⟨T', h', X', e', ex, Ia.of_arv (k := k) (z := xs.length.toInt32) (d := .int 0) A' (len32 la).1.symm, E', st⟩
theorem selP {a0 : Array Value} {y : MethodName} {kk : Nat} (hZ : Z.Warmed39 s.vm) (wi : (Cond.instantiable y.cls kk).before a0 Z = true) (wp : (Cond.privateMethod y).before a0 Z = true) (wm : (Cond.instanceMethod y).before a0 Z = true) (hy : y.cls ≠ "java/lang/invoke/MethodHandle" ∧ y.cls ≠ "java/lang/invoke/VarHandle") : (Cond.selects y.cls y y).before args s = true := by
  obtain ⟨c, k, h1, h2, -, h4, -⟩ := Cond.instantiable_spec (mvT (args := args) hZ wi)
  exact selects_self_of_private h1 h2 (by simp only [Bool.or_eq_false_iff] at h4; exact h4.1) (Cond.privateMethod_at (mvP hZ wp (args := args))) (mvT hZ wm) hy
end Own
end Jvm.OwnKit
namespace Jvm.OwnKit
open Sem ClassFile Op Lib Jvm.Stand Jvm.Free Jvm.LawKit Jvm.RoadKit
section Own5
section
variable {tb : Tables} [Ours tb] {e : Env} {below : List Frame} {T target : State} {m : MethodId} {c : Code} {g : JFrame}
theorem dloadN (h : At T m c below) (hx : tb.exec = Jvm.exec) (hg : g.method = m) {k : Fin 4} {v : UInt64} (hd : decode c.code g.pc = .ok (.dload_n k, 1)) (hl : g.locals[k.val]? = some (.val (.double v)))
    (hr : Steps tb e below (T.setTop { g with pc := g.pc + 1, stack := .double v :: g.stack }) target) : Steps tb e below (T.setTop g) target := by
  subst hg
  jvm_step h [h.top, hx, hd, hl]
  exact hr
theorem dload (h : At T m c below) (hx : tb.exec = Jvm.exec) (hg : g.method = m) {k : Nat} {v : UInt64} (hd : decode c.code g.pc = .ok (.dload k, 2)) (hl : g.locals[k]? = some (.val (.double v)))
    (hr : Steps tb e below (T.setTop { g with pc := g.pc + 2, stack := .double v :: g.stack }) target) : Steps tb e below (T.setTop g) target := by
  subst hg
  jvm_step h [h.top, hx, hd, hl]
  exact hr
theorem i2d (h : At T m c below) (hx : tb.exec = Jvm.exec) (hg : g.method = m) {v : Int32} {rest : List Value} (hd : decode c.code g.pc = .ok (.i2d, 1)) (hs : g.stack = .int v :: rest)
    (hr : Steps tb e below (T.setTop { g with pc := g.pc + 1, stack := .double (FP.i2d v) :: rest }) target) : Steps tb e below (T.setTop g) target := by
  subst hg
  jvm_step h [h.top, hx, hd, hs]
  exact hr
theorem l2d (h : At T m c below) (hx : tb.exec = Jvm.exec) (hg : g.method = m) {v : Int64} {rest : List Value} (hd : decode c.code g.pc = .ok (.l2d, 1)) (hs : g.stack = .long v :: rest)
    (hr : Steps tb e below (T.setTop { g with pc := g.pc + 1, stack := .double (FP.l2d v) :: rest }) target) : Steps tb e below (T.setTop g) target := by
  subst hg
  jvm_step h [h.top, hx, hd, hs]
  exact hr
theorem d2l (h : At T m c below) (hx : tb.exec = Jvm.exec) (hg : g.method = m) {v : UInt64} {rest : List Value} (hd : decode c.code g.pc = .ok (.d2l, 1)) (hs : g.stack = .double v :: rest)
    (hr : Steps tb e below (T.setTop { g with pc := g.pc + 1, stack := .long (FP.d2l v) :: rest }) target) : Steps tb e below (T.setTop g) target := by
  subst hg
  jvm_step h [h.top, hx, hd, hs]
  exact hr
theorem ddiv (h : At T m c below) (hx : tb.exec = Jvm.exec) (hg : g.method = m) {u v : UInt64} {rest : List Value} (hd : decode c.code g.pc = .ok (.ddiv, 1)) (hs : g.stack = .double v :: .double u :: rest) (hn : FP.ddiv u v &&& 0x7fffffffffffffff ≤ 0x7ff0000000000000)
    (hr : Steps tb e below (T.setTop { g with pc := g.pc + 1, stack := .double (FP.ddiv u v) :: rest }) target) : Steps tb e below (T.setTop g) target := by
  subst hg
  jvm_step h [h.top, hx, hd, ddiv.wp_number (hstack := hs) (hr := hn)]
  exact hr
theorem dmul (h : At T m c below) (hx : tb.exec = Jvm.exec) (hg : g.method = m) {u v : UInt64} {rest : List Value} (hd : decode c.code g.pc = .ok (.dmul, 1)) (hs : g.stack = .double v :: .double u :: rest) (hn : FP.dmul u v &&& 0x7fffffffffffffff ≤ 0x7ff0000000000000)
    (hr : Steps tb e below (T.setTop { g with pc := g.pc + 1, stack := .double (FP.dmul u v) :: rest }) target) : Steps tb e below (T.setTop g) target := by
  subst hg
  jvm_step h [h.top, hx, hd, dmul.wp_number (hstack := hs) (hr := hn)]
  exact hr
theorem dcmpl (h : At T m c below) (hx : tb.exec = Jvm.exec) (hg : g.method = m) {u v : UInt64} {rest : List Value} (hd : decode c.code g.pc = .ok (.dcmp .l, 1)) (hs : g.stack = .double v :: .double u :: rest)
    (hr : Steps tb e below (T.setTop { g with pc := g.pc + 1, stack := .int (cmpValue (FP.dcmp u v) .l) :: rest }) target) : Steps tb e below (T.setTop g) target := by
  subst hg
  jvm_step h [h.top, hx, hd, dcmp.wp_sem, hs]
  exact hr
end
variable {p : Program} {l : Launch} {e : Env} {R : Room} {s : State} {m : MethodId} {args : Array Value} {below : List Frame} {meth : Method} {c : Code} {T : State} {locs : List Loc} {cells slots : Nat} {Z : State} {h h' : Heap} {a b : Addr}
theorem d2raw (X : Stand p l e R s m args below meth c T locs cells slots) (hx : p.tables.exec = Jvm.exec) (hZ : Z.Warmed39 s.vm) {a0 : Array Value} {own : String} {index : Nat} (hown : s.vm.findClass own = some m.cls)
    (w1 : (Cond.methodLink own index Jvm.doubleToRawLongBitsName).before a0 Z = true) (w2 : (Cond.native Jvm.doubleToRawLongBitsName).before a0 Z = true) (w3 : (Cond.static Jvm.doubleToRawLongBitsName).before a0 Z = true) (w4 : (Cond.initialized "java/lang/Double").before a0 Z = true) (eT : T.heap = h)
    {g : JFrame} (hg : g.method = m) (hsize : g.locals.size = c.maxLocals) {rest : List Value} {v : UInt64} (hs : g.stack = .double v :: rest) (hd : decode c.code g.pc = .ok (.invokestatic index, 3))
    (hf : 1 ≤ R.frames) (hlo : 2 * g.monitorRoom + (rest.map fun v => v.category).sum + (nativeFrameWords "java/lang/Double" "doubleToRawLongBits" 2 + 11) ≤ R.locals) :
    ∃ T', Stand p l e R s m args below meth c T' locs cells slots ∧ T'.heap = h ∧ ∀ target, Steps p.tables e below (T'.setTop { g with pc := g.pc + 3, stack := .long v.toInt64 :: rest }) target → Steps p.tables e below (T.setTop g) target := by
  obtain ⟨vm', X', st⟩ := X.doubleToRawLongBits hx hown (mvT hZ w1) (mvT hZ w2) (mvT hZ w3) (mvT hZ w4) hg hsize hs hd hf hlo
  exact ⟨_, X', eT, st⟩
/-- an array of longs of n places, the k-th a multiple g k of 2^24 -/
def Lg (Z : State) (h : Heap) (a : Addr) (n : Nat) (f : Nat → Int) : Prop := ∃ (c : Cell) (xs : List Int64), Arr Z h a c .long ∧ c.slots = (xs.map Value.long).toArray ∧ xs.length = n ∧ ∀ k, k < n → ∃ w, xs[k]? = some w ∧ w.toInt = f k * 16777216
def upd (f : Nat → Int) (j : Int32) (d : Int) : Nat → Int := fun k => if k = j.toNatClampNeg then f k + d else f k
variable {n : Nat} {f : Nat → Int} {ws : List Addr} {sl : Nat} {v : Value} {j z : Int32} {k : ClassId} {rest : List Value}
theorem Lg.lt (F : Lg Z h a n f) : a < h.size := by obtain ⟨c, xs, A, -⟩ := F; exact A.lt
theorem Lg.ext (F : Lg Z h a n f) (E : Ext h h') : Lg Z h' a n f := by obtain ⟨c, xs, A, r⟩ := F; exact ⟨c, xs, A.ext E, r⟩
theorem Lg.other (F : Lg Z h b n f) (W : Wr h h' a sl v) (q : b ≠ a) : Lg Z h' b n f := by obtain ⟨c, xs, A, r⟩ := F; exact ⟨c, xs, A.other W q, r⟩
theorem Lg.keep (F : Lg Z h a n f) (K : Keep h h' ws) (q : a ∉ ws) : Lg Z h' a n f := by obtain ⟨c, xs, A, r⟩ := F; exact ⟨c, xs, ⟨K.2.1 a c A.1 q, A.2⟩, r⟩
theorem Lg.new (A : Arr Z h a (newA k .long z) .long) : Lg Z h a z.toNatClampNeg (fun _ => 0) := ⟨_, List.replicate z.toNatClampNeg 0, A, by simp [newA, defaultValue], by simp, fun i hi => ⟨0, by simp [hi], by show Int64.toInt 0 = 0 * 16777216; decide⟩⟩
theorem Lg.hin {cl : Cell} {xs : List Int64} (q : cl.slots = (xs.map Value.long).toArray) (hl : xs.length = n) (hj : ¬ j < 0) (hlt : j.toNatClampNeg < n) : ¬ (j < 0 ∨ cl.slots.size ≤ j.toNatClampNeg) := by
  rw [q]; simp only [List.size_toArray, List.length_map]; rintro (q | q); exact hj q; omega
theorem ldG (X : Stand p l e R s m args below meth c T locs cells slots) (hx : p.tables.exec = Jvm.exec) (hZ : Z.Warmed39 s.vm) (eT : T.heap = h) (F : Lg Z h a n f) (hj : ¬ j < 0) (hlt : j.toNatClampNeg < n) {g : JFrame} (hg : g.method = m) (hs : g.stack = .int j :: .ref a :: rest) (hd : decode c.code g.pc = .ok (.laload, 1)) :
    ∃ w : Int64, w.toInt = f j.toNatClampNeg * 16777216 ∧ ∀ t, Steps p.tables e below (T.setTop { g with pc := g.pc + 1, stack := .long w :: rest }) t → Steps p.tables e below (T.setTop g) t := by
  obtain ⟨cl, xs, A, q, hl, hf⟩ := F
  obtain ⟨w, hw, hwi⟩ := hf _ hlt
  exact ⟨w, hwi, X.laload hx (j := j) (v := .long w) (by rw [eT]; exact A.1) (State.isArrayOf_alike hZ.alike A.2.1) A.2.2 (Lg.hin q hl hj hlt) (by rw [q]; simp [hw]) hg hs hd⟩
theorem stG {x : Int64} {i : Int} (X : Stand p l e R s m args below meth c T locs cells slots) (hx : p.tables.exec = Jvm.exec) (hZ : Z.Warmed39 s.vm) (eT : T.heap = h) (F : Lg Z h a n f) (hj : ¬ j < 0) (hlt : j.toNatClampNeg < n) (hxi : x.toInt = (f j.toNatClampNeg + i) * 16777216) {g : JFrame} (hg : g.method = m) (hs : g.stack = .long x :: .int j :: .ref a :: rest) (hd : decode c.code g.pc = .ok (.lastore, 1)) :
    ∃ T' h', Stand p l e R s m args below meth c T' (locs ++ [⟨a, j.toNatClampNeg⟩]) cells slots ∧ T'.heap = h' ∧ Wr h h' a j.toNatClampNeg (.long x) ∧ Lg Z h' a n (upd f j i) ∧ ∀ t, Steps p.tables e below (T'.setTop { g with pc := g.pc + 1, stack := rest }) t → Steps p.tables e below (T.setTop g) t := by
  obtain ⟨cl, xs, A, q, hl, hf⟩ := F
  obtain ⟨T', h', X', e', W, st⟩ := stJ X hx hZ eT A (Lg.hin q hl hj hlt) hg hs hd
  refine ⟨T', h', X', e', W, ⟨_, xs.set j.toNatClampNeg x, A.same W, by simp [Cell.setSlot, q, List.map_set], by simpa using hl, fun k hk => ?_⟩, st⟩
  by_cases e : k = j.toNatClampNeg
  · subst e
    refine ⟨x, by rw [List.getElem?_set_self (by omega)], ?_⟩
    simp only [upd, if_pos rfl]; exact hxi
  · obtain ⟨w, h1, h2⟩ := hf k hk
    refine ⟨w, by rw [List.getElem?_set_ne (by omega)]; exact h1, ?_⟩
    simp only [upd, if_neg e]; exact h2
end Own5
end Jvm.OwnKit
namespace Jvm.Pilot.@@N@@
open Jvm Jvm.ClassFile Sem Op Lib Jvm.Free Jvm.Stand Jvm.LawKit Jvm.RoadKit Bundle Jvm.Pilot.@@N@@.Jvm.D Jvm.OwnKit
theorem tw {a0 : Array Value} {Z : State} (hw : ∀ d ∈ tables_1, d.before a0 Z = true) (i : Nat) {d : Jvm.Cond} (h : tables_1[i]? = some d) : d.before a0 Z = true := hw d (List.mem_of_getElem? h)
open Jvm.FP.Core in
def cn (i E : Int) : Datum := if i = 0 then .fin false 0 b64.qmin else .fin (decide (i < 0)) (i.natAbs * 2 ^ (52 - i.natAbs.log2)) (E - ((52 - i.natAbs.log2 : Nat) : Int))
section Fl
open Jvm.FP Jvm.FP.Core
theorem own_q : b64.qmin = -1074 ∧ b64.qmax = 971 ∧ b64.tails = 2 ^ 52 ∧ b64.p = 53 := by decide
theorem own_lg {n : Nat} (h0 : n ≠ 0) (h : n < 2 ^ 53) : n.log2 ≤ 52 ∧ 2 ^ n.log2 ≤ n ∧ n < 2 ^ (n.log2 + 1) :=
  ⟨Nat.le_of_lt_succ ((Nat.log2_lt h0).mpr h), Nat.log2_self_le h0, Nat.lt_log2_self⟩
theorem own_c {n : Nat} (h0 : n ≠ 0) (h : n < 2 ^ 53) : 2 ^ 52 ≤ n * 2 ^ (52 - n.log2) ∧ n * 2 ^ (52 - n.log2) < 2 ^ 53 := by
  obtain ⟨a, b, c⟩ := own_lg h0 h
  have p := Nat.two_pow_pos (52 - n.log2)
  have e1 : 2 ^ n.log2 * 2 ^ (52 - n.log2) = 2 ^ 52 := by rw [← Nat.pow_add]; congr 1; omega
  have e2 : 2 ^ (n.log2 + 1) * 2 ^ (52 - n.log2) = 2 ^ 53 := by rw [← Nat.pow_add]; congr 1; omega
  refine ⟨?_, ?_⟩
  · rw [← e1]; exact Nat.mul_le_mul_right _ b
  · rw [← e2]; exact Nat.mul_lt_mul_of_pos_right c p
theorem cn_fits {i E : Int} (h : i.natAbs < 2 ^ 53) (hE : -1000 ≤ E ∧ E ≤ 900) : Jvm.FP.Core.fits b64 (cn i E) := by
  unfold cn
  split
  · exact zero_fits good_b64 false
  · rename_i h0
    obtain ⟨a, b⟩ := own_c (n := i.natAbs) (by omega) h
    obtain ⟨l1, -, -⟩ := own_lg (n := i.natAbs) (by omega) h
    obtain ⟨q1, q2, q3, q4⟩ := own_q
    refine ⟨by rw [q4]; exact b, by rw [q1]; omega, by rw [q2]; omega, Or.inr (by rw [q3]; exact a)⟩
theorem cn_fin (i E : Int) : cn i E ≠ .nan := by unfold cn; split <;> simp
theorem rr_cn {i E e : Int} {A B : Nat} (hi : i ≠ 0) (h : i.natAbs < 2 ^ 53) (hE : -1000 ≤ E ∧ E ≤ 900) (hB : 0 < B) (hv : A * 2 ^ (e - E).toNat = i.natAbs * B * 2 ^ (E - e).toNat) : roundRatio b64 (decide (i < 0)) A B e = cn i E := by
  have hf := cn_fits h hE
  rw [roundRatio_congr (A' := i.natAbs) (B' := 1) (e' := E) hB (by decide) (by rw [Nat.mul_one]; exact hv)]
  unfold cn at hf ⊢
  rw [if_neg hi] at hf ⊢
  refine roundRatio_exact good_b64 (by decide) hf ?_
  have e1 : (E - (E - ((52 - i.natAbs.log2 : Nat) : Int))).toNat = 52 - i.natAbs.log2 := by omega
  have e2 : ((E - ((52 - i.natAbs.log2 : Nat) : Int)) - E).toNat = 0 := by omega
  rw [e1, e2, Nat.pow_zero, Nat.mul_one, Nat.mul_one]
theorem rr_0 {B : Nat} {e E : Int} : roundRatio b64 false 0 B e = cn 0 E := by
  unfold roundRatio cn; rw [if_pos rfl, if_pos rfl]
theorem own_round {i S : Int} {k : Nat} (h : i.natAbs < 2 ^ 53) (hk : k ≤ 60) (hS : S = i * 2 ^ k) : round b64 (ofInt S) = cn i k := by
  show roundRatio b64 (decide (S < 0)) S.natAbs 1 0 = cn i k
  have p : (0 : Int) < 2 ^ k := Int.pow_pos (by decide)
  by_cases hi : i = 0
  · subst hi
    rw [Int.zero_mul] at hS; subst hS
    exact rr_0
  · have hs : decide (S < 0) = decide (i < 0) := by
      rw [hS]; congr 1; apply propext
      constructor
      · intro q; by_cases w : i < 0
        · exact w
        · exact absurd (Int.mul_nonneg (Int.not_lt.mp w) (Int.le_of_lt p)) (by omega)
      · intro q; exact Int.mul_neg_of_neg_of_pos q p
    rw [hs]
    refine rr_cn hi h (by omega) (by decide) ?_
    have e1 : ((0 : Int) - (k : Int)).toNat = 0 := by omega
    have e2 : ((k : Int) - 0).toNat = k := by omega
    rw [e1, e2, hS, Int.natAbs_mul, Int.natAbs_pow]; simp
theorem own_qd {s t : Bool} {c d : Nat} {q r : Int} (hd : d ≠ 0) : quotient b64 (.fin s c q) (.fin t d r) = roundRatio b64 (s != t) c d (q - r) := by
  show (if d = 0 then (if c = 0 then Datum.nan else Datum.inf (s != t)) else roundRatio b64 (s != t) c d (q - r)) = _
  exact if_neg hd
theorem own_quo {i E : Int} {r : Int} (h : i.natAbs < 2 ^ 53) (hE : -1000 ≤ E - (r + 52) ∧ E - (r + 52) ≤ 900) : quotient b64 (cn i E) (.fin false (2 ^ 52) r) = cn i (E - (r + 52)) := by
  by_cases hi : i = 0
  · subst hi
    show quotient b64 (cn 0 E) _ = _
    have : cn 0 E = .fin false 0 b64.qmin := if_pos rfl
    rw [this]
    have q : quotient b64 (.fin false 0 b64.qmin) (.fin false (2 ^ 52) r) = roundRatio b64 (false != false) 0 (2 ^ 52) (b64.qmin - r) := own_qd (by decide)
    rw [q]
    exact rr_0
  · have e : cn i E = .fin (decide (i < 0)) (i.natAbs * 2 ^ (52 - i.natAbs.log2)) (E - ((52 - i.natAbs.log2 : Nat) : Int)) := if_neg hi
    obtain ⟨l1, -, -⟩ := own_lg (n := i.natAbs) (by omega) h
    rw [e]
    have q : quotient b64 (.fin (decide (i < 0)) (i.natAbs * 2 ^ (52 - i.natAbs.log2)) (E - ((52 - i.natAbs.log2 : Nat) : Int))) (.fin false (2 ^ 52) r) = roundRatio b64 (decide (i < 0) != false) (i.natAbs * 2 ^ (52 - i.natAbs.log2)) (2 ^ 52) (E - ((52 - i.natAbs.log2 : Nat) : Int) - r) := own_qd (by decide)
    rw [q, Bool.bne_false]
    refine rr_cn hi h hE (by decide) ?_
    have e1 : (E - ((52 - i.natAbs.log2 : Nat) : Int) - r - (E - (r + 52))).toNat = i.natAbs.log2 := by omega
    have e2 : (E - (r + 52) - (E - ((52 - i.natAbs.log2 : Nat) : Int) - r)).toNat = 0 := by omega
    rw [e1, e2, Nat.pow_zero, Nat.mul_one, Nat.mul_assoc, ← Nat.pow_add]
    congr 2; omega
theorem own_prod {i E : Int} {r : Int} (h : i.natAbs < 2 ^ 53) (hE : -1000 ≤ E + (r + 52) ∧ E + (r + 52) ≤ 900) : round b64 (exactProduct (cn i E) (.fin false (2 ^ 52) r)) = cn i (E + (r + 52)) := by
  by_cases hi : i = 0
  · subst hi
    have : cn 0 E = .fin false 0 b64.qmin := if_pos rfl
    rw [this]
    show roundRatio b64 (false != false) (0 * 2 ^ 52) 1 (b64.qmin + r) = _
    rw [Nat.zero_mul]; exact rr_0
  · have e : cn i E = .fin (decide (i < 0)) (i.natAbs * 2 ^ (52 - i.natAbs.log2)) (E - ((52 - i.natAbs.log2 : Nat) : Int)) := if_neg hi
    obtain ⟨l1, -, -⟩ := own_lg (n := i.natAbs) (by omega) h
    rw [e]
    show roundRatio b64 (decide (i < 0) != false) (i.natAbs * 2 ^ (52 - i.natAbs.log2) * 2 ^ 52) 1 (E - ((52 - i.natAbs.log2 : Nat) : Int) + r) = _
    rw [Bool.bne_false]
    refine rr_cn hi h hE (by decide) ?_
    have e1 : (E - ((52 - i.natAbs.log2 : Nat) : Int) + r - (E + (r + 52))).toNat = 0 := by omega
    have e2 : (E + (r + 52) - (E - ((52 - i.natAbs.log2 : Nat) : Int) + r)).toNat = 52 - i.natAbs.log2 + 52 := by omega
    rw [e1, e2, Nat.pow_zero, Nat.mul_one, Nat.mul_one, Nat.mul_assoc, ← Nat.pow_add]
def d16 : UInt64 := 4679240012837945344
def d40 : UInt64 := 4787326403894837248
theorem v16 : val64 (4679240012837945344 : UInt64) = .fin false (2 ^ 52) (-36) := by decide +kernel
theorem v40 : val64 (4787326403894837248 : UInt64) = .fin false (2 ^ 52) (-12) := by decide +kernel
theorem own_i32 (y : Int32) : y.toInt.natAbs < 2 ^ 53 := by have := rng32 y; omega
theorem own_part (y : Int32) : val64 (FP.ddiv (FP.i2d y) (4679240012837945344 : UInt64)) = cn y.toInt (-16) := by
  have a : val64 (FP.i2d y) = cn y.toInt 0 := by rw [show FP.i2d y = Core.i2d y from rfl, val64_i2d]; exact own_round (k := 0) (own_i32 y) (by decide) (by simp)
  rw [show FP.ddiv (FP.i2d y) (4679240012837945344 : UInt64) = Core.ddiv (FP.i2d y) (4679240012837945344 : UInt64) from rfl, val64_ddiv, a, v16]
  exact own_quo (own_i32 y) (by decide)
theorem own_units {a : UInt64} {i : Int} (h : val64 a = cn i (-16)) (hi : i.natAbs < 2 ^ 53) : val64 (FP.dmul a (4787326403894837248 : UInt64)) = cn i 24 := by
  rw [show FP.dmul a (4787326403894837248 : UInt64) = Core.dmul a (4787326403894837248 : UInt64) from rfl, val64_dmul, h, v40]
  exact own_prod hi (by decide)
theorem own_getv {w : Int64} {i : Int} (h : w.toInt = i * 2 ^ 24) (hi : i.natAbs < 2 ^ 53) : val64 (FP.ddiv (FP.l2d w) (4787326403894837248 : UInt64)) = cn i (-16) := by
  have a : val64 (FP.l2d w) = cn i 24 := by rw [show FP.l2d w = Core.l2d w from rfl, val64_l2d]; exact own_round (k := 24) hi (by decide) h
  rw [show FP.ddiv (FP.l2d w) (4787326403894837248 : UInt64) = Core.ddiv (FP.l2d w) (4787326403894837248 : UInt64) from rfl, val64_ddiv, a, v40]
  exact own_quo hi (by decide)
theorem own_expv {w : Int64} (hi : w.toInt.natAbs < 2 ^ 53) : val64 (FP.ddiv (FP.l2d w) (4679240012837945344 : UInt64)) = cn w.toInt (-16) := by
  have a : val64 (FP.l2d w) = cn w.toInt 0 := by rw [show FP.l2d w = Core.l2d w from rfl, val64_l2d]; exact own_round (k := 0) hi (by decide) (by simp)
  rw [show FP.ddiv (FP.l2d w) (4679240012837945344 : UInt64) = Core.ddiv (FP.l2d w) (4679240012837945344 : UInt64) from rfl, val64_ddiv, a, v16]
  exact own_quo hi (by decide)
theorem own_cmp {a b : UInt64} {i E : Int} (ha : val64 a = cn i E) (hb : val64 b = cn i E) : FP.cmpInt (-1) (FP.dcmp a b) = (0 : Int32) := by
  have e : a = b := val64_inj (by rw [ha]; exact cn_fin i E) (by rw [ha, hb])
  subst e
  rw [show FP.dcmp a a = Core.dcmp a a from rfl, dcmp_self (by rw [ha]; exact cn_fin i E)]; rfl
end Fl
section Fr
open Jvm.FP Jvm.FP.Core
theorem own_enc {y : UInt64} {x : Int} (h : val64 y = cn x 24) (h0 : x ≠ 0) (hb : x.natAbs ≤ 2147483648) :
    ∃ (L c : Nat), L ≤ 31 ∧ c = x.natAbs * 2 ^ (52 - L) ∧ 4503599627370496 ≤ c ∧ c < 9007199254740992 ∧ cn x 24 = .fin (decide (x < 0)) c ((L : Int) - 28) ∧ y.toNat = ((if x < 0 then 2048 else 0) + (L + 1047)) * 4503599627370496 + (c - 4503599627370496) := by
  have hn : x.natAbs ≠ 0 := by omega
  have h53 : x.natAbs < 2 ^ 53 := by omega
  have h31 : x.natAbs.log2 ≤ 31 := by
    have h32 : x.natAbs < 2 ^ 32 := by omega
    exact Nat.le_of_lt_succ ((Nat.log2_lt hn).mpr h32)
  obtain ⟨c1, c2⟩ := own_c hn h53
  have hcn : cn x 24 = .fin (decide (x < 0)) (x.natAbs * 2 ^ (52 - x.natAbs.log2)) ((x.natAbs.log2 : Int) - 28) := by
    unfold cn; rw [if_neg h0]; congr 1; omega
  refine ⟨x.natAbs.log2, _, h31, rfl, c1, c2, hcn, ?_⟩
  have hne : val64 y ≠ .nan := by rw [h]; exact cn_fin x 24
  have hf : Jvm.FP.Core.fits b64 (cn x 24) := cn_fits h53 (by decide)
  have hy : y = of64 (cn x 24) := by rw [← h, of64_val64 hne]
  have hlt := encode_lt good_b64 _ hf
  rw [size_b64] at hlt
  have e1 : y.toNat = encode b64 (cn x 24) := by
    rw [hy]; unfold of64; rw [UInt64.toNat_ofNat_of_lt' (by simpa using hlt)]
  rw [e1, hcn]
  generalize x.natAbs * 2 ^ (52 - x.natAbs.log2) = c at c1 c2
  show (if c < b64.tails then assemble b64 _ 0 c else assemble b64 _ (((x.natAbs.log2 : Int) - 28 - b64.qmin).toNat + 1) (c - b64.tails)) = _
  obtain ⟨q1, q2, q3, q4⟩ := own_q
  rw [q3, if_neg (by omega), q1]
  unfold assemble
  have q5 : b64.exps = 2048 := by decide
  rw [q3, q5]
  have e2 : ((x.natAbs.log2 : Int) - 28 - -1074).toNat + 1 = x.natAbs.log2 + 1047 := by omega
  rw [e2]
  by_cases hx : x < 0
  · simp [hx]
  · simp [hx]
theorem own_expn {n E t s : Nat} (hs : s ≤ 1) (hE : E < 2048) (ht : t < 4503599627370496) (hn : n = (s * 2048 + E) * 4503599627370496 + t) : (n &&& 9218868437227405312) / 4503599627370496 = E := by
  have h1 : (n &&& 9218868437227405312) >>> 52 = (n >>> 52) &&& (9218868437227405312 >>> 52) := Nat.shiftRight_and_distrib
  have h2 : (9218868437227405312 : Nat) >>> 52 = 2 ^ 11 - 1 := by decide
  rw [h2, Nat.and_two_pow_sub_one_eq_mod, Nat.shiftRight_eq_div_pow, Nat.shiftRight_eq_div_pow] at h1
  omega
abbrev eF (b : Int64) : Int64 := ((b &&& (9218868437227405312 : Int64)) >>> ((52 : Int32) &&& 0x3f).toInt64)
abbrev shF (b : Int64) : Int64 := ((1074 : Int64) - eF b)
abbrev rF (b : Int64) : Int64 := ((b &&& (4503599627370495 : Int64)) ||| (4503599627370496 : Int64))
abbrev tF (r w : Int64) : Int64 := (((r >>> ((w.toInt32) &&& 0x3f).toInt64) + (1 : Int64)) >>> ((1 : Int32) &&& 0x3f).toInt64)
theorem own_e {b : Int64} {E t s : Nat} (hs : s ≤ 1) (hE : E < 2048) (ht : t < 4503599627370496) (hn : b.toBitVec.toNat = (s * 2048 + E) * 4503599627370496 + t) : (eF b).toInt = E := by
  have h1 := c_lshr (b &&& (9218868437227405312 : Int64)) 52 52 (by decide)
  have h2 : (b &&& (9218868437227405312 : Int64)).toBitVec.toNat = b.toBitVec.toNat &&& 9218868437227405312 := by
    show (b.toBitVec &&& (9218868437227405312 : Int64).toBitVec).toNat = _
    rw [BitVec.toNat_and]; rfl
  have h3 : b.toBitVec.toNat &&& 9218868437227405312 ≤ 9218868437227405312 := Nat.and_le_right
  have h4 : (b &&& (9218868437227405312 : Int64)).toInt = ((b.toBitVec.toNat &&& 9218868437227405312 : Nat) : Int) := by
    show (b &&& (9218868437227405312 : Int64)).toBitVec.toInt = _
    rw [BitVec.toInt_eq_toNat_of_lt (by omega), h2]
  have h5 := own_expn hs hE ht hn
  show ((b &&& (9218868437227405312 : Int64)) >>> ((52 : Int32) &&& 0x3f).toInt64).toInt = _
  rw [h1, h4]
  have h6 : ((2 ^ 52 : Nat) : Int) = ((4503599627370496 : Nat) : Int) := by decide
  rw [h6, ← Int.natCast_ediv, h5]
theorem own_shd : ∀ L : Fin 32, (L.val ≤ 27 → lcmpW (Int64.ofInt (27 - (L.val : Int)) &&& (-64 : Int64)) (0 : Int64) = 0 ∧ (Int64.ofInt (27 - (L.val : Int))).toInt32.toBitVec.toNat % 64 = 27 - L.val) ∧ (28 ≤ L.val → ¬ lcmpW (Int64.ofInt (27 - (L.val : Int)) &&& (-64 : Int64)) (0 : Int64) = 0) := by decide +kernel
theorem own_bits {y : UInt64} {x : Int} (h : val64 y = cn x 24) (h0 : x ≠ 0) (hb : x.natAbs ≤ 2147483648) :
    ∃ (L c : Nat), L ≤ 31 ∧ c = x.natAbs * 2 ^ (52 - L) ∧ 4503599627370496 ≤ c ∧ c < 9007199254740992 ∧ cn x 24 = .fin (decide (x < 0)) c ((L : Int) - 28) ∧ shF y.toInt64 = Int64.ofInt (27 - (L : Int)) ∧ (rF y.toInt64).toInt = c ∧ (y.toInt64 < 0 ↔ x < 0) := by
  obtain ⟨L, c, hL, hc, c1, c2, hcn, hy⟩ := own_enc h h0 hb
  refine ⟨L, c, hL, hc, c1, c2, hcn, ?_, ?_, ?_⟩
  · have hn : y.toInt64.toBitVec.toNat = ((if x < 0 then 1 else 0) * 2048 + (L + 1047)) * 4503599627370496 + (c - 4503599627370496) := by
      show y.toNat = _
      rw [hy]; split <;> omega
    have he := own_e (by split <;> omega) (by omega) (by omega) hn
    have hs := c_lsub (1074 : Int64) (eF y.toInt64)
    rw [he] at hs
    have hr := rng64 ((1074 : Int64) - eF y.toInt64)
    have h1074 : (1074 : Int64).toInt = 1074 := by decide
    rw [h1074] at hs
    have e : (shF y.toInt64).toInt = 27 - (L : Int) := by show ((1074 : Int64) - eF y.toInt64).toInt = _; omega
    rw [← e]; exact (Int64.ofInt_toInt _).symm
  · have hbi : y.toInt64.toInt % 4503599627370496 = (c : Int) - 4503599627370496 := by
      have e : y.toInt64.toInt = (y.toNat : Int).bmod (2 ^ 64) := by
        show y.toBitVec.toInt = _
        rw [BitVec.toInt_eq_toNat_bmod]; rfl
      have e2 := Int.bmod_emod (x := (y.toNat : Int)) (m := 2 ^ 64)
      rw [← e] at e2
      omega
    have hm := c_maskL y.toInt64 (4503599627370495 : Int64) 52 (by decide) (by decide)
    have ho := c_orL' (y.toInt64 &&& (4503599627370495 : Int64)) (4503599627370496 : Int64) 52 (by decide) 4503599627370496 (by decide) (by decide) (by rw [hm]; omega) (by rw [hm]; omega)
    have h2 : (4503599627370496 : Int64).toInt = 4503599627370496 := by decide
    have hr := rng64 ((y.toInt64 &&& (4503599627370495 : Int64)) ||| (4503599627370496 : Int64))
    have e52 : ((2 ^ 52 : Nat) : Int) = 4503599627370496 := by decide
    rw [hm, h2, e52] at ho
    show ((y.toInt64 &&& (4503599627370495 : Int64)) ||| (4503599627370496 : Int64)).toInt = _
    omega
  · rw [Int64.lt_iff_toInt_lt]
    have e : y.toInt64.toInt = (y.toNat : Int).bmod (2 ^ 64) := by
      show y.toBitVec.toInt = _
      rw [BitVec.toInt_eq_toNat_bmod]; rfl
    have e2 := Int.bmod_emod (x := (y.toNat : Int)) (m := 2 ^ 64)
    rw [← e] at e2
    have hr := rng64 y.toInt64
    have hz : (0 : Int64).toInt = 0 := by decide
    rw [hz]
    split at hy <;> omega
theorem own_zero {y : UInt64} (h : val64 y = cn 0 24) : y = 0 :=
  val64_inj (by rw [h]; exact cn_fin 0 24) (by rw [h]; decide +kernel)
theorem own_tail {r w : Int64} {L : Nat} {m : Int} (hL : L ≤ 27) (hw : w = Int64.ofInt (27 - (L : Int))) (hr : r.toInt = m * 2 ^ (52 - L)) (hm : -2147483648 ≤ m ∧ m ≤ 2147483648) : (tF r w).toInt = m * 16777216 := by
  have hk := ((own_shd ⟨L, by omega⟩).1 hL).2
  have h1 := c_lshr r w.toInt32 (27 - L) (by rw [hw]; exact hk)
  have e1 : (2 : Int) ^ (52 - L) = 33554432 * 2 ^ (27 - L) := by
    rw [show 52 - L = 25 + (27 - L) by omega, Int.pow_add]; rfl
  have e2 : ((2 ^ (27 - L) : Nat) : Int) = 2 ^ (27 - L) := by simp
  have p : (2 : Int) ^ (27 - L) ≠ 0 := by have := Int.pow_pos (n := 2) (m := 27 - L) (by decide); omega
  rw [hr, e1, e2, ← Int.mul_assoc, Int.mul_ediv_cancel _ p] at h1
  have h2 := c_ladd (r >>> ((w.toInt32) &&& 0x3f).toInt64) 1
  have h3 := rng64 ((r >>> ((w.toInt32) &&& 0x3f).toInt64) + (1 : Int64))
  have h4 := c_lshr ((r >>> ((w.toInt32) &&& 0x3f).toInt64) + (1 : Int64)) 1 1 (by decide)
  have h5 : (1 : Int64).toInt = 1 := by decide
  rw [h5, h1] at h2
  show ((((r >>> ((w.toInt32) &&& 0x3f).toInt64) + (1 : Int64)) >>> ((1 : Int32) &&& 0x3f).toInt64)).toInt = _
  rw [h4]
  generalize ((r >>> ((w.toInt32) &&& 0x3f).toInt64) + (1 : Int64)).toInt = z at *
  have e3 : ((2 ^ 1 : Nat) : Int) = 2 := by decide
  rw [e3]
  omega
theorem own_r1 {y : UInt64} {x : Int} (h : val64 y = cn x 24) (hb : x.natAbs ≤ 2147483648) (hc : lcmpW (shF y.toInt64 &&& (-64 : Int64)) (0 : Int64) = 0) (hs : lcmpW y.toInt64 (0 : Int64) < 0) : (tF (-(rF y.toInt64)) (shF y.toInt64)).toInt = x * 16777216 := by
  by_cases h0 : x = 0
  · subst h0; rw [own_zero h] at hs; exact absurd hs (by decide)
  · obtain ⟨L, c, hL, hc', c1, c2, -, hsh, hr, hneg⟩ := own_bits h h0 hb
    have hx := hneg.mp ((lw_lt _ _).mp hs)
    have hL27 : L ≤ 27 := by
      by_cases q : L ≤ 27
      · exact q
      · rw [hsh] at hc; exact absurd hc ((own_shd ⟨L, by omega⟩).2 (by show 28 ≤ L; omega))
    refine own_tail hL27 hsh ?_ (by omega)
    have hn := c_lneg (rF y.toInt64)
    have hg := rng64 (-(rF y.toInt64))
    rw [hr] at hn
    have e : (-(rF y.toInt64)).toInt = -(c : Int) := by omega
    rw [e, hc', Int.natCast_mul, ← Int.neg_mul, show -((x.natAbs : Nat) : Int) = x by omega]
    simp
theorem own_r2 {y : UInt64} {x : Int} (h : val64 y = cn x 24) (hb : x.natAbs ≤ 2147483648) (hc : lcmpW (shF y.toInt64 &&& (-64 : Int64)) (0 : Int64) = 0) (hs : ¬ lcmpW y.toInt64 (0 : Int64) < 0) : (tF (rF y.toInt64) (shF y.toInt64)).toInt = x * 16777216 := by
  by_cases h0 : x = 0
  · subst h0; rw [own_zero h] at hc; exact absurd hc (by decide +kernel)
  · obtain ⟨L, c, hL, hc', c1, c2, -, hsh, hr, hneg⟩ := own_bits h h0 hb
    have hx : ¬ x < 0 := fun q => hs ((lw_lt _ _).mpr (hneg.mpr q))
    have hL27 : L ≤ 27 := by
      by_cases q : L ≤ 27
      · exact q
      · rw [hsh] at hc; exact absurd hc ((own_shd ⟨L, by omega⟩).2 (by show 28 ≤ L; omega))
    refine own_tail hL27 hsh ?_ (by omega)
    rw [hr, hc', Int.natCast_mul, show ((x.natAbs : Nat) : Int) = x by omega]
    simp
theorem own_r3 {y : UInt64} {x : Int} (h : val64 y = cn x 24) (hb : x.natAbs ≤ 2147483648) (hc : ¬ lcmpW (shF y.toInt64 &&& (-64 : Int64)) (0 : Int64) = 0) : (FP.d2l y).toInt = x * 16777216 := by
  by_cases h0 : x = 0
  · subst h0; rw [own_zero h]; decide +kernel
  · obtain ⟨L, c, hL, hc', c1, c2, hcn, hsh, -, -⟩ := own_bits h h0 hb
    have hL28 : 28 ≤ L := by
      by_cases q : L ≤ 27
      · rw [hsh] at hc; exact absurd ((own_shd ⟨L, by omega⟩).1 q).1 hc
      · omega
    have e1 : FP.d2l y = Int64.ofInt (max (-2 ^ 63) (min (2 ^ 63 - 1) (truncate (decide (x < 0)) c ((L : Int) - 28)))) := by
      show toL (val64 y) = _
      rw [h, hcn]; rfl
    have e2 : truncate (decide (x < 0)) c ((L : Int) - 28) = x * 16777216 := by
      unfold truncate
      rw [show ((L : Int) - 28).toNat = L - 28 by omega, show (-((L : Int) - 28)).toNat = 0 by omega, Nat.pow_zero, Nat.div_one, hc', Nat.mul_assoc, ← Nat.pow_add, show 52 - L + (L - 28) = 24 by omega]
      unfold signed
      by_cases hx : x < 0
      · simp [hx]; omega
      · simp [hx]; omega
    rw [e1, e2]
    rw [Int64.toInt_ofInt_of_le (by omega) (by omega)]
    omega
end Fr
section Fs
open Jvm.FP Jvm.FP.Core
theorem own_nn {a : UInt64} (h : val64 a ≠ .nan) : a &&& 0x7fffffffffffffff ≤ 0x7ff0000000000000 := by
  have h1 := (ne_nan a).mp h
  rw [UInt64.le_iff_toNat_le, UInt64.toNat_and]
  have e : (0x7fffffffffffffff : UInt64).toNat = 2 ^ 63 - 1 := by decide
  rw [e, Nat.and_two_pow_sub_one_eq_mod]
  exact h1
theorem own_cmpv {a b : UInt64} {i j E : Int} (ha : val64 a = cn i E) (hb : val64 b = cn j E) (e : i = j) : Op.cmpValue (FP.dcmp a b) .l = (0 : Int32) := by
  subst e
  have e : a = b := val64_inj (by rw [ha]; exact cn_fin i E) (by rw [ha, hb])
  subst e
  rw [show FP.dcmp a a = Core.dcmp a a from rfl, dcmp_self (by rw [ha]; exact cn_fin i E)]; rfl
theorem own_addv {x y : Int64} (h : -9223372036854775808 ≤ x.toInt + y.toInt ∧ x.toInt + y.toInt < 9223372036854775808) : (x + y).toInt = x.toInt + y.toInt := by
  have h1 := c_ladd x y; have h2 := rng64 (x + y); omega
theorem own_subv {x y : Int64} (h : -9223372036854775808 ≤ x.toInt - y.toInt ∧ x.toInt - y.toInt < 9223372036854775808) : (x - y).toInt = x.toInt - y.toInt := by
  have h1 := c_lsub x y; have h2 := rng64 (x - y); omega
theorem own_addh {x y : Int64} (h : -9223372036854775808 ≤ x.toInt + y.toInt ∧ x.toInt + y.toInt < 9223372036854775808) : ¬ lcmpW ((x ^^^ (x + y)) &&& (y ^^^ (x + y))) (0 : Int64) < 0 := by
  rw [lw_lt, Int64.lt_iff_toInt_lt]
  have h1 := own_addv h
  have a1 := c_xorSL x (x + y); have a2 := c_xorSL y (x + y); have a3 := c_andSL (x ^^^ (x + y)) (y ^^^ (x + y))
  have hz : (0 : Int64).toInt = 0 := by decide
  rw [hz]
  omega
theorem own_subh {x y : Int64} (h : -9223372036854775808 ≤ x.toInt - y.toInt ∧ x.toInt - y.toInt < 9223372036854775808) : ¬ lcmpW ((x ^^^ y) &&& (x ^^^ (x - y))) (0 : Int64) < 0 := by
  rw [lw_lt, Int64.lt_iff_toInt_lt]
  have h1 := own_subv h
  have a1 := c_xorSL x y; have a2 := c_xorSL x (x - y); have a3 := c_andSL (x ^^^ y) (x ^^^ (x - y))
  have hz : (0 : Int64).toInt = 0 := by decide
  rw [hz]
  omega
theorem own_b32 (x : Int32) : x.toInt.natAbs ≤ 2147483648 := by have := rng32 x; omega
theorem own_un {a : UInt64} {i : Int} (h : val64 a = cn i (-16)) (hi : i.natAbs ≤ 2147483648) : val64 (FP.dmul a (4787326403894837248 : UInt64)) = cn i 24 := own_units h (by omega)
theorem own_gv {w : Int64} {i : Int} (h : w.toInt = i * 16777216) (hi : i.natAbs ≤ 68719476736) : val64 (FP.ddiv (FP.l2d w) (4787326403894837248 : UInt64)) = cn i (-16) := own_getv (by rw [h]; rfl) (by omega)
theorem own_lit {i j : Int32} (h : ¬ i < 0) (h' : ¬ j < 0) : i = j ↔ i.toNatClampNeg = j.toNatClampNeg := by
  rw [Int32.lt_iff_toInt_lt] at h h'
  have hz : (0 : Int32).toInt = 0 := rfl
  rw [hz] at h h'
  rw [← Int32.toInt_inj]; simp only [Int32.toNatClampNeg]; omega
theorem own_n {x n : Int32} (h : ((x &&& (3 : Int32)) + (1 : Int32)) = n) : 1 ≤ n.toInt ∧ n.toInt ≤ 4 := by
  have h1 := c_mask x 3 2 (by decide) (by decide)
  have h2 := c_iadd (x &&& (3 : Int32)) 1
  have h3 := rng32 ((x &&& (3 : Int32)) + (1 : Int32))
  have h4 : (1 : Int32).toInt = 1 := rfl
  rw [h, h1, h4] at h2
  rw [h] at h3
  omega
theorem own_n0 {n : Int32} (h : 1 ≤ n.toInt ∧ n.toInt ≤ 4) : n ≠ 0 := by
  rintro rfl; exact absurd h.1 (by decide)
theorem own_i {x n i : Int32} (hn : 1 ≤ n.toInt ∧ n.toInt ≤ 4) (h : ((x &&& (2147483647 : Int32)) % n) = i) : 0 ≤ i.toInt ∧ i.toInt < n.toInt := by
  have h1 := c_mask x 2147483647 31 (by decide) (by decide)
  have h2 : ((x &&& (2147483647 : Int32)) % n).toInt = (x &&& (2147483647 : Int32)).toInt.tmod n.toInt := Int32.toInt_mod _ _
  rw [h] at h2
  have h3 : (0 : Int) ≤ (x &&& (2147483647 : Int32)).toInt := by omega
  rw [Int.tmod_eq_emod_of_nonneg h3] at h2
  have h4 := Int.emod_nonneg (x &&& (2147483647 : Int32)).toInt (b := n.toInt) (by omega)
  have h5 := Int.emod_lt_of_pos (x &&& (2147483647 : Int32)).toInt (b := n.toInt) (by omega)
  omega
theorem own_k {i n k : Int32} (hn : 1 ≤ n.toInt ∧ n.toInt ≤ 4) (hi : 0 ≤ i.toInt ∧ i.toInt < n.toInt) (h : ((i + (1 : Int32)) % n) = k) : 0 ≤ k.toInt ∧ k.toInt < n.toInt := by
  have h1 := c_iadd i 1
  have h0 := rng32 (i + (1 : Int32))
  have e1 : (1 : Int32).toInt = 1 := rfl
  rw [e1] at h1
  have h2 : ((i + (1 : Int32)) % n).toInt = (i + (1 : Int32)).toInt.tmod n.toInt := Int32.toInt_mod _ _
  rw [h] at h2
  have h3 : (0 : Int) ≤ (i + (1 : Int32)).toInt := by omega
  rw [Int.tmod_eq_emod_of_nonneg h3] at h2
  have h4 := Int.emod_nonneg (i + (1 : Int32)).toInt (b := n.toInt) (by omega)
  have h5 := Int.emod_lt_of_pos (i + (1 : Int32)).toInt (b := n.toInt) (by omega)
  omega
theorem own_nneg {i n : Int32} (h : 0 ≤ i.toInt ∧ i.toInt < n.toInt) : ¬ i < 0 := by
  rw [Int32.lt_iff_toInt_lt]; have hz : (0 : Int32).toInt = 0 := rfl; omega
theorem own_lt {i n : Int32} (h : 0 ≤ i.toInt ∧ i.toInt < n.toInt) : i.toNatClampNeg < n.toNatClampNeg := by
  simp only [Int32.toNatClampNeg]; omega
theorem own_cap {n : Int32} (h : 1 ≤ n.toInt ∧ n.toInt ≤ 4) : ¬ n < 0 ∧ n.toNatClampNeg ≤ 4 := by
  rw [Int32.lt_iff_toInt_lt]; have hz : (0 : Int32).toInt = 0 := rfl
  refine ⟨by omega, by simp only [Int32.toNatClampNeg]; omega⟩
def z0 : Nat → Int := fun _ => 0
theorem own_z0 (k : Nat) : (z0 k).natAbs ≤ 0 := by simp [z0]
theorem own_upd {f : Nat → Int} {B D : Nat} {j : Int32} {d : Int} (hf : ∀ k, (f k).natAbs ≤ B) (hd : d.natAbs ≤ D) : ∀ k, (OwnKit.upd f j d k).natAbs ≤ B + D := by
  intro k; have := hf k; unfold OwnKit.upd; split <;> omega
def exq (x i j a b c : Int32) : Int := c.toInt + (if x = i then a.toInt else 0) + (if x = j then b.toInt - c.toInt else 0)
theorem own_fin {x i j a b c : Int32} (hx : ¬ x < 0) (hi : ¬ i < 0) (hj : ¬ j < 0) : c.toInt + OwnKit.upd (OwnKit.upd z0 i a.toInt) j (b.toInt - c.toInt) x.toNatClampNeg = exq x i j a b c := by
  have e1 := own_lit hx hi; have e2 := own_lit hx hj
  unfold OwnKit.upd exq z0
  by_cases q1 : x = i <;> by_cases q2 : x = j
  · rw [if_pos q1, if_pos q2, if_pos (e2.mp q2), if_pos (e1.mp q1)]; omega
  · rw [if_pos q1, if_neg q2, if_neg (fun q => q2 (e2.mpr q)), if_pos (e1.mp q1)]; omega
  · rw [if_neg q1, if_pos q2, if_pos (e2.mp q2), if_neg (fun q => q1 (e1.mpr q))]; omega
  · rw [if_neg q1, if_neg q2, if_neg (fun q => q2 (e2.mpr q)), if_neg (fun q => q1 (e1.mpr q))]; omega
theorem own_ex0 {x i j a b c : Int32} (h1 : ¬ x = i) (h2 : ¬ x = j) : (c.toInt64).toInt = exq x i j a b c := by unfold exq; rw [if_neg h1, if_neg h2, c_i2l]; omega
theorem own_ex1 {x i j a b c : Int32} (h1 : x = i) (h2 : ¬ x = j) : (c.toInt64 + a.toInt64).toInt = exq x i j a b c := by
  have := rng32 a; have := rng32 c
  unfold exq; rw [if_pos h1, if_neg h2, own_addv (by rw [c_i2l, c_i2l]; omega), c_i2l, c_i2l]; omega
theorem own_ex2 {x i j a b c : Int32} (h1 : ¬ x = i) (h2 : x = j) : ((c.toInt64 + b.toInt64) - c.toInt64).toInt = exq x i j a b c := by
  have := rng32 b; have := rng32 c
  have e : (c.toInt64 + b.toInt64).toInt = c.toInt + b.toInt := by rw [own_addv (by rw [c_i2l, c_i2l]; omega), c_i2l, c_i2l]
  unfold exq; rw [if_neg h1, if_pos h2, own_subv (by rw [e, c_i2l]; omega), e, c_i2l]; omega
theorem own_ex3 {x i j a b c : Int32} (h1 : x = i) (h2 : x = j) : (((c.toInt64 + a.toInt64) + b.toInt64) - c.toInt64).toInt = exq x i j a b c := by
  have := rng32 a; have := rng32 b; have := rng32 c
  have e : (c.toInt64 + a.toInt64).toInt = c.toInt + a.toInt := by rw [own_addv (by rw [c_i2l, c_i2l]; omega), c_i2l, c_i2l]
  have e' : ((c.toInt64 + a.toInt64) + b.toInt64).toInt = c.toInt + a.toInt + b.toInt := by rw [own_addv (by rw [e, c_i2l]; omega), e, c_i2l]
  unfold exq; rw [if_pos h1, if_pos h2, own_subv (by rw [e', c_i2l]; omega), e', c_i2l]; omega
theorem own_exb {x i j a b c : Int32} : (exq x i j a b c).natAbs ≤ 68719476736 := by
  have := rng32 a; have := rng32 b; have := rng32 c
  unfold exq; split <;> split <;> omega
theorem own_exv {w : Int64} {q : Int} (h : w.toInt = q) (hb : q.natAbs ≤ 68719476736) : val64 (FP.ddiv (FP.l2d w) (4679240012837945344 : UInt64)) = cn q (-16) := by
  rw [← h]; exact own_expv (by rw [h]; omega)
end Fs
abbrev dv (a : UInt64) (i E : Int) : Prop := Jvm.FP.Core.val64 a = cn i E
theorem own_bc (b c : Int32) : (b.toInt - c.toInt).natAbs ≤ 4294967296 := by have := rng32 b; have := rng32 c; omega
theorem d3_0 : decode method_3_code 0 = .ok (.iload_n 0, 1) := by decide +kernel
theorem d3_1 : decode method_3_code 1 = .ok (.i2d, 1) := by decide +kernel
theorem d3_2 : decode method_3_code 2 = .ok (.ldc2_w 38, 3) := by decide +kernel
theorem d3_5 : decode method_3_code 5 = .ok (.ddiv, 1) := by decide +kernel
theorem d3_6 : decode method_3_code 6 = .ok (.dreturn, 1) := by decide +kernel
theorem pn_3 : plainName "com/example/libcosearch/libcosearch/ScoreSumsGetPinLaw" = true := by first | (simp [plainName, overriddenIn]; done) | decide +kernel
theorem ef_3 (m : MethodId) (x0 : Int32) : entryFrame m #[(.int x0)] 1 = mkF m 0 #[.val (.int x0)] [] := by first | (simp [entryFrame, mkF, argsToLocals, Value.category]; done) | rfl
def Q_rmP (Z : State) (xx : Int32)  (h0 : Heap) (n0 : Nat) (vQ : Option Value) (hQ : Heap) (LQ : List Loc) : Prop := ∃ vv : UInt64, vQ = some (.double vv) ∧ Fr n0 LQ ∧ hQ = h0 ∧ (dv vv xx.toInt (-16))
set_option maxRecDepth 65536 in
set_option maxHeartbeats 40000000 in
theorem rmP (l : Launch) (Z : State) (a0 : Array Value) (hw : ∀ d ∈ tables_1, d.before a0 Z = true) (ws : List Jvm.Cond) (xx : Int32)  (h0 : Heap) (n0 : Nat) (Z0 : n0 ≤ h0.size) :
    MetFree l (⟨"com/example/libcosearch/libcosearch/ScoreSumsGetPinLaw", "part", "(I)D"⟩ : MethodName) (head1 (Jvm.Cond.code (⟨"com/example/libcosearch/libcosearch/ScoreSumsGetPinLaw", "part", "(I)D"⟩ : MethodName) method_3_code 1 (some .double) :: ws) ({ frames := 0, cells := 0, slots := 0, locals := 0 } : Room)) (fun aQ UQ => aQ = #[(.int xx)] ∧ Z.Warmed39 UQ.vm ∧ UQ.heap = h0) (fun _ _ _ _ _ => True) (fun _ UQ oQ UR => ∃ vQ LQ, oQ = .returned vQ ∧ Q_rmP Z xx  h0 n0 vQ UR.heap LQ ∧ FrameEnd UQ oQ UR LQ ({ frames := 0, cells := 0, slots := 0, locals := 0 } : Room).cells ({ frames := 0, cells := 0, slots := 0, locals := 0 } : Room).slots) := by
  refine MetFree.of_bodySF (plainFor_of_name pn_3) hisR ?_
  intro p e s m args below meth c s₁ Bd hml0 hP hK
  obtain ⟨rfl, hZ, hh⟩ := hP
  have hx := Bd.exec
  have hby := Bd.bytes
  have hlk := Bd.notSynchronized
  have hml : c.maxLocals = 1 := hml0
  have hown : s.vm.findClass "com/example/libcosearch/libcosearch/ScoreSumsGetPinLaw" = some m.cls := findClass_of_methodNamed Bd.named
  have hnm := (name_of_methodNamed Bd.named Bd.method).1
  have X0 : Stand p l e ({ frames := 0, cells := 0, slots := 0, locals := 0 } : Room) s m #[(.int xx)] below meth c s₁ [] 0 0 := Stand.of_body Bd
  have e0 : s₁.heap = h0 := by rw [← hh, Bd.state]; rfl
  have N0 := Fr.nil n0
  show Go p e below _ (Done s (Q_rmP Z xx  h0 n0) ({ frames := 0, cells := 0, slots := 0, locals := 0 } : Room).cells ({ frames := 0, cells := 0, slots := 0, locals := 0 } : Room).slots)
  refine Go.via (fun tQ kQ => castTop (ef_3 m xx) kQ) ?_
  show Go p e below (s₁.setTop (mkF m 0 #[.val (.int xx)] [])) _
  refine Go.via (fun _ => XS.iloadN X0.here hx rfl (hb hby d3_0) rfl) ?_
  refine Go.via (fun _ => OwnKit.i2d X0.here hx rfl (hb hby d3_1) rfl) ?_
  show Go p e below (s₁.setTop (mkF m 2 #[.val (.int xx)] [(.double (FP.i2d xx))])) _
  refine Go.via (X0.ldc2DoubleC hx hown (mvT hZ (tw hw 17 rfl)) (g := (mkF m 2 #[.val (.int xx)] [(.double (FP.i2d xx))])) rfl (hb hby d3_2)) ?_
  show Go p e below (s₁.setTop (mkF m 5 #[.val (.int xx)] [(.double (4679240012837945344 : UInt64)), (.double (FP.i2d xx))])) _
  refine Go.via (fun _ => OwnKit.ddiv X0.here hx rfl (hb hby d3_5) rfl (own_nn (by rw [own_part xx]; exact cn_fin _ _))) ?_
  show Go p e below (s₁.setTop (mkF m 6 #[.val (.int xx)] [(.double (FP.ddiv (FP.i2d xx) (4679240012837945344 : UInt64)))])) _
  exact Go.fin X0 hlk (v := some (.double (FP.ddiv (FP.i2d xx) (4679240012837945344 : UInt64)))) (fun h => by rw [Bd.returns] at h; cases h) (fun fs hr => retOut X0 hx Bd.returns rfl (Or.inr (Or.inr (Or.inl ⟨rfl, rfl, _, rfl⟩))) (hb hby d3_6) hr) (by rw [e0]; exact ⟨(FP.ddiv (FP.i2d xx) (4679240012837945344 : UInt64)), rfl, N0, rfl, (own_part xx)⟩) (by decide) (by decide)
theorem d6_0 : decode jdk_29_method_22_code 0 = .ok (.dload_n 0, 1) := by decide +kernel
theorem d6_1 : decode jdk_29_method_22_code 1 = .ok (.invokestatic 79, 3) := by decide +kernel
theorem d6_4 : decode jdk_29_method_22_code 4 = .ok (.lstore_n 2, 1) := by decide +kernel
theorem d6_5 : decode jdk_29_method_22_code 5 = .ok (.lload_n 2, 1) := by decide +kernel
theorem d6_6 : decode jdk_29_method_22_code 6 = .ok (.ldc2_w 87, 3) := by decide +kernel
theorem d6_9 : decode jdk_29_method_22_code 9 = .ok (.land, 1) := by decide +kernel
theorem d6_10 : decode jdk_29_method_22_code 10 = .ok (.bipush 52, 2) := by decide +kernel
theorem d6_12 : decode jdk_29_method_22_code 12 = .ok (.lshr, 1) := by decide +kernel
theorem d6_13 : decode jdk_29_method_22_code 13 = .ok (.lstore 4, 2) := by decide +kernel
theorem d6_15 : decode jdk_29_method_22_code 15 = .ok (.ldc2_w 89, 3) := by decide +kernel
theorem d6_18 : decode jdk_29_method_22_code 18 = .ok (.lload 4, 2) := by decide +kernel
theorem d6_20 : decode jdk_29_method_22_code 20 = .ok (.lsub, 1) := by decide +kernel
theorem d6_21 : decode jdk_29_method_22_code 21 = .ok (.lstore 6, 2) := by decide +kernel
theorem d6_23 : decode jdk_29_method_22_code 23 = .ok (.lload 6, 2) := by decide +kernel
theorem d6_25 : decode jdk_29_method_22_code 25 = .ok (.ldc2_w 91, 3) := by decide +kernel
theorem d6_28 : decode jdk_29_method_22_code 28 = .ok (.land, 1) := by decide +kernel
theorem d6_29 : decode jdk_29_method_22_code 29 = .ok (.lconst 0, 1) := by decide +kernel
theorem d6_30 : decode jdk_29_method_22_code 30 = .ok (.lcmp, 1) := by decide +kernel
theorem d6_31 : decode jdk_29_method_22_code 31 = .ok (.ifCond .ne 36, 3) := by decide +kernel
theorem d6_34 : decode jdk_29_method_22_code 34 = .ok (.lload_n 2, 1) := by decide +kernel
theorem d6_35 : decode jdk_29_method_22_code 35 = .ok (.ldc2_w 93, 3) := by decide +kernel
theorem d6_38 : decode jdk_29_method_22_code 38 = .ok (.land, 1) := by decide +kernel
theorem d6_39 : decode jdk_29_method_22_code 39 = .ok (.ldc2_w 95, 3) := by decide +kernel
theorem d6_42 : decode jdk_29_method_22_code 42 = .ok (.lor, 1) := by decide +kernel
theorem d6_43 : decode jdk_29_method_22_code 43 = .ok (.lstore 8, 2) := by decide +kernel
theorem d6_45 : decode jdk_29_method_22_code 45 = .ok (.lload_n 2, 1) := by decide +kernel
theorem d6_46 : decode jdk_29_method_22_code 46 = .ok (.lconst 0, 1) := by decide +kernel
theorem d6_47 : decode jdk_29_method_22_code 47 = .ok (.lcmp, 1) := by decide +kernel
theorem d6_48 : decode jdk_29_method_22_code 48 = .ok (.ifCond .ge 8, 3) := by decide +kernel
theorem d6_51 : decode jdk_29_method_22_code 51 = .ok (.lload 8, 2) := by decide +kernel
theorem d6_53 : decode jdk_29_method_22_code 53 = .ok (.lneg, 1) := by decide +kernel
theorem d6_54 : decode jdk_29_method_22_code 54 = .ok (.lstore 8, 2) := by decide +kernel
theorem d6_56 : decode jdk_29_method_22_code 56 = .ok (.lload 8, 2) := by decide +kernel
theorem d6_58 : decode jdk_29_method_22_code 58 = .ok (.lload 6, 2) := by decide +kernel
theorem d6_60 : decode jdk_29_method_22_code 60 = .ok (.l2i, 1) := by decide +kernel
theorem d6_61 : decode jdk_29_method_22_code 61 = .ok (.lshr, 1) := by decide +kernel
theorem d6_62 : decode jdk_29_method_22_code 62 = .ok (.lconst 1, 1) := by decide +kernel
theorem d6_63 : decode jdk_29_method_22_code 63 = .ok (.ladd, 1) := by decide +kernel
theorem d6_64 : decode jdk_29_method_22_code 64 = .ok (.iconst 1, 1) := by decide +kernel
theorem d6_65 : decode jdk_29_method_22_code 65 = .ok (.lshr, 1) := by decide +kernel
theorem d6_66 : decode jdk_29_method_22_code 66 = .ok (.lreturn, 1) := by decide +kernel
theorem d6_67 : decode jdk_29_method_22_code 67 = .ok (.dload_n 0, 1) := by decide +kernel
theorem d6_68 : decode jdk_29_method_22_code 68 = .ok (.d2l, 1) := by decide +kernel
theorem d6_69 : decode jdk_29_method_22_code 69 = .ok (.lreturn, 1) := by decide +kernel
theorem ef_6 (m : MethodId) (x0 : UInt64) : entryFrame m #[(.double x0)] 10 = mkF m 0 #[.val (.double x0), .second, .unset, .unset, .unset, .unset, .unset, .unset, .unset, .unset] [] := by first | (simp [entryFrame, mkF, argsToLocals, Value.category]; done) | rfl
def Q_rmR (Z : State) (y_ : UInt64) (di : Int) (h0 : Heap) (n0 : Nat) (vQ : Option Value) (hQ : Heap) (LQ : List Loc) : Prop := ∃ w_ : Int64, vQ = some (.long w_) ∧ Fr n0 LQ ∧ hQ = h0 ∧ (w_.toInt = di * 16777216)
set_option maxRecDepth 65536 in
set_option maxHeartbeats 40000000 in
theorem rmR (l : Launch) (Z : State) (a0 : Array Value) (hw : ∀ d ∈ tables_1, d.before a0 Z = true) (ws : List Jvm.Cond) (y_ : UInt64) (di : Int) (h0 : Heap) (n0 : Nat) (Z0 : n0 ≤ h0.size) (hv : dv y_ di 24) (hd : di.natAbs ≤ 2147483648) :
    MetFree l (⟨"java/lang/Math", "round", "(D)J"⟩ : MethodName) (head1 (Jvm.Cond.code (⟨"java/lang/Math", "round", "(D)J"⟩ : MethodName) jdk_29_method_22_code 10 (some .long) :: ws) ({ frames := 1, cells := 0, slots := 0, locals := 40 } : Room)) (fun aQ UQ => aQ = #[(.double y_)] ∧ Z.Warmed39 UQ.vm ∧ UQ.heap = h0) (fun _ _ _ _ _ => True) (fun _ UQ oQ UR => ∃ vQ LQ, oQ = .returned vQ ∧ Q_rmR Z y_ di h0 n0 vQ UR.heap LQ ∧ FrameEnd UQ oQ UR LQ ({ frames := 1, cells := 0, slots := 0, locals := 40 } : Room).cells ({ frames := 1, cells := 0, slots := 0, locals := 40 } : Room).slots) := by
  refine MetFree.of_bodySF (Jvm.Free.JP.mathPlain rfl (by decide +kernel)) hisR ?_
  intro p e s m args below meth c s₁ Bd hml0 hP hK
  obtain ⟨rfl, hZ, hh⟩ := hP
  have hx := Bd.exec
  have hby := Bd.bytes
  have hlk := Bd.notSynchronized
  have hml : c.maxLocals = 10 := hml0
  have hown : s.vm.findClass "java/lang/Math" = some m.cls := findClass_of_methodNamed Bd.named
  have hnm := (name_of_methodNamed Bd.named Bd.method).1
  have X0 : Stand p l e ({ frames := 1, cells := 0, slots := 0, locals := 40 } : Room) s m #[(.double y_)] below meth c s₁ [] 0 0 := Stand.of_body Bd
  have e0 : s₁.heap = h0 := by rw [← hh, Bd.state]; rfl
  have N0 := Fr.nil n0
  show Go p e below _ (Done s (Q_rmR Z y_ di h0 n0) ({ frames := 1, cells := 0, slots := 0, locals := 40 } : Room).cells ({ frames := 1, cells := 0, slots := 0, locals := 40 } : Room).slots)
  refine Go.via (fun tQ kQ => castTop (ef_6 m y_) kQ) ?_
  show Go p e below (s₁.setTop (mkF m 0 #[.val (.double y_), .second, .unset, .unset, .unset, .unset, .unset, .unset, .unset, .unset] [])) _
  refine Go.via (fun _ => OwnKit.dloadN X0.here hx rfl (hb hby d6_0) rfl) ?_
  show Go p e below (s₁.setTop (mkF m 1 #[.val (.double y_), .second, .unset, .unset, .unset, .unset, .unset, .unset, .unset, .unset] [(.double y_)])) _
  obtain ⟨T1, X1, e1, st1⟩ := d2raw X0 hx hZ hown (tw hw 33 rfl) (tw hw 36 rfl) (tw hw 34 rfl) (tw hw 35 rfl) e0 (g := (mkF m 1 #[.val (.double y_), .second, .unset, .unset, .unset, .unset, .unset, .unset, .unset, .unset] [(.double y_)])) rfl (by rw [hml]; rfl) rfl (hb hby d6_1) (by decide) (by show 2 * 0 + 0 + (nativeFrameWords "java/lang/Double" "doubleToRawLongBits" 2 + 11) ≤ (({ frames := 1, cells := 0, slots := 0, locals := 40 } : Room)).locals; decide +kernel)
  refine Go.via (st1) ?_
  clear st1
  clear X0 e0
  show Go p e below (T1.setTop (mkF m 4 #[.val (.double y_), .second, .unset, .unset, .unset, .unset, .unset, .unset, .unset, .unset] [(.long (y_.toInt64))])) _
  refine Go.via (fun _ => XS.lstoreN X1.here hx rfl (hb hby d6_4) rfl (l' := #[.val (.double y_), .second, .val (.long (y_.toInt64)), .second, .unset, .unset, .unset, .unset, .unset, .unset]) rfl) ?_
  show Go p e below (T1.setTop (mkF m 5 #[.val (.double y_), .second, .val (.long (y_.toInt64)), .second, .unset, .unset, .unset, .unset, .unset, .unset] [])) _
  refine Go.via (fun _ => XS.lloadN X1.here hx rfl (hb hby d6_5) rfl) ?_
  refine Go.via (X1.ldc2Long hx hown (mvT hZ (tw hw 37 rfl)) (g := (mkF m 6 #[.val (.double y_), .second, .val (.long (y_.toInt64)), .second, .unset, .unset, .unset, .unset, .unset, .unset] [(.long (y_.toInt64))])) rfl (hb hby d6_6)) ?_
  show Go p e below (T1.setTop (mkF m 9 #[.val (.double y_), .second, .val (.long (y_.toInt64)), .second, .unset, .unset, .unset, .unset, .unset, .unset] [(.long (9218868437227405312 : Int64)), (.long (y_.toInt64))])) _
  refine Go.via (fun _ => XS.land X1.here hx rfl (hb hby d6_9) rfl) ?_
  show Go p e below (T1.setTop (mkF m 10 #[.val (.double y_), .second, .val (.long (y_.toInt64)), .second, .unset, .unset, .unset, .unset, .unset, .unset] [(.long ((y_.toInt64) &&& (9218868437227405312 : Int64)))])) _
  refine Go.via (fun _ => XS.bipush X1.here hx rfl (hb hby d6_10)) ?_
  refine Go.via (fun _ => XS.lshr X1.here hx rfl (hb hby d6_12) rfl) ?_
  show Go p e below (T1.setTop (mkF m 13 #[.val (.double y_), .second, .val (.long (y_.toInt64)), .second, .unset, .unset, .unset, .unset, .unset, .unset] [(.long (((y_.toInt64) &&& (9218868437227405312 : Int64)) >>> ((52 : Int32) &&& 0x3f).toInt64))])) _
  refine Go.via (fun _ => XS.lstore X1.here hx rfl (hb hby d6_13) rfl (l' := #[.val (.double y_), .second, .val (.long (y_.toInt64)), .second, .val (.long (((y_.toInt64) &&& (9218868437227405312 : Int64)) >>> ((52 : Int32) &&& 0x3f).toInt64)), .second, .unset, .unset, .unset, .unset]) rfl) ?_
  show Go p e below (T1.setTop (mkF m 15 #[.val (.double y_), .second, .val (.long (y_.toInt64)), .second, .val (.long (((y_.toInt64) &&& (9218868437227405312 : Int64)) >>> ((52 : Int32) &&& 0x3f).toInt64)), .second, .unset, .unset, .unset, .unset] [])) _
  refine Go.via (X1.ldc2Long hx hown (mvT hZ (tw hw 38 rfl)) (g := (mkF m 15 #[.val (.double y_), .second, .val (.long (y_.toInt64)), .second, .val (.long (((y_.toInt64) &&& (9218868437227405312 : Int64)) >>> ((52 : Int32) &&& 0x3f).toInt64)), .second, .unset, .unset, .unset, .unset] [])) rfl (hb hby d6_15)) ?_
  show Go p e below (T1.setTop (mkF m 18 #[.val (.double y_), .second, .val (.long (y_.toInt64)), .second, .val (.long (((y_.toInt64) &&& (9218868437227405312 : Int64)) >>> ((52 : Int32) &&& 0x3f).toInt64)), .second, .unset, .unset, .unset, .unset] [(.long (1074 : Int64))])) _
  refine Go.via (fun _ => XS.lload X1.here hx rfl (hb hby d6_18) rfl) ?_
  refine Go.via (fun _ => XS.lsub X1.here hx rfl (hb hby d6_20) rfl) ?_
  show Go p e below (T1.setTop (mkF m 21 #[.val (.double y_), .second, .val (.long (y_.toInt64)), .second, .val (.long (((y_.toInt64) &&& (9218868437227405312 : Int64)) >>> ((52 : Int32) &&& 0x3f).toInt64)), .second, .unset, .unset, .unset, .unset] [(.long ((1074 : Int64) - (((y_.toInt64) &&& (9218868437227405312 : Int64)) >>> ((52 : Int32) &&& 0x3f).toInt64)))])) _
  refine Go.via (fun _ => XS.lstore X1.here hx rfl (hb hby d6_21) rfl (l' := #[.val (.double y_), .second, .val (.long (y_.toInt64)), .second, .val (.long (((y_.toInt64) &&& (9218868437227405312 : Int64)) >>> ((52 : Int32) &&& 0x3f).toInt64)), .second, .val (.long ((1074 : Int64) - (((y_.toInt64) &&& (9218868437227405312 : Int64)) >>> ((52 : Int32) &&& 0x3f).toInt64))), .second, .unset, .unset]) rfl) ?_
  show Go p e below (T1.setTop (mkF m 23 #[.val (.double y_), .second, .val (.long (y_.toInt64)), .second, .val (.long (((y_.toInt64) &&& (9218868437227405312 : Int64)) >>> ((52 : Int32) &&& 0x3f).toInt64)), .second, .val (.long ((1074 : Int64) - (((y_.toInt64) &&& (9218868437227405312 : Int64)) >>> ((52 : Int32) &&& 0x3f).toInt64))), .second, .unset, .unset] [])) _
  refine Go.via (fun _ => XS.lload X1.here hx rfl (hb hby d6_23) rfl) ?_
  refine Go.via (X1.ldc2Long hx hown (mvT hZ (tw hw 39 rfl)) (g := (mkF m 25 #[.val (.double y_), .second, .val (.long (y_.toInt64)), .second, .val (.long (((y_.toInt64) &&& (9218868437227405312 : Int64)) >>> ((52 : Int32) &&& 0x3f).toInt64)), .second, .val (.long ((1074 : Int64) - (((y_.toInt64) &&& (9218868437227405312 : Int64)) >>> ((52 : Int32) &&& 0x3f).toInt64))), .second, .unset, .unset] [(.long ((1074 : Int64) - (((y_.toInt64) &&& (9218868437227405312 : Int64)) >>> ((52 : Int32) &&& 0x3f).toInt64)))])) rfl (hb hby d6_25)) ?_
  show Go p e below (T1.setTop (mkF m 28 #[.val (.double y_), .second, .val (.long (y_.toInt64)), .second, .val (.long (((y_.toInt64) &&& (9218868437227405312 : Int64)) >>> ((52 : Int32) &&& 0x3f).toInt64)), .second, .val (.long ((1074 : Int64) - (((y_.toInt64) &&& (9218868437227405312 : Int64)) >>> ((52 : Int32) &&& 0x3f).toInt64))), .second, .unset, .unset] [(.long (-64 : Int64)), (.long ((1074 : Int64) - (((y_.toInt64) &&& (9218868437227405312 : Int64)) >>> ((52 : Int32) &&& 0x3f).toInt64)))])) _
  refine Go.via (fun _ => XS.land X1.here hx rfl (hb hby d6_28) rfl) ?_
  show Go p e below (T1.setTop (mkF m 29 #[.val (.double y_), .second, .val (.long (y_.toInt64)), .second, .val (.long (((y_.toInt64) &&& (9218868437227405312 : Int64)) >>> ((52 : Int32) &&& 0x3f).toInt64)), .second, .val (.long ((1074 : Int64) - (((y_.toInt64) &&& (9218868437227405312 : Int64)) >>> ((52 : Int32) &&& 0x3f).toInt64))), .second, .unset, .unset] [(.long (((1074 : Int64) - (((y_.toInt64) &&& (9218868437227405312 : Int64)) >>> ((52 : Int32) &&& 0x3f).toInt64)) &&& (-64 : Int64)))])) _
  refine Go.via (fun _ => XS.lconst X1.here hx rfl (hb hby d6_29)) ?_
  refine Go.via (fun _ => XS.lcmp X1.here hx rfl (hb hby d6_30) rfl) ?_
  show Go p e below (T1.setTop (mkF m 31 #[.val (.double y_), .second, .val (.long (y_.toInt64)), .second, .val (.long (((y_.toInt64) &&& (9218868437227405312 : Int64)) >>> ((52 : Int32) &&& 0x3f).toInt64)), .second, .val (.long ((1074 : Int64) - (((y_.toInt64) &&& (9218868437227405312 : Int64)) >>> ((52 : Int32) &&& 0x3f).toInt64))), .second, .unset, .unset] [(.int (lcmpW (((1074 : Int64) - (((y_.toInt64) &&& (9218868437227405312 : Int64)) >>> ((52 : Int32) &&& 0x3f).toInt64)) &&& (-64 : Int64)) (0 : Int64)))])) _
  by_cases hc2 : (lcmpW (((1074 : Int64) - (((y_.toInt64) &&& (9218868437227405312 : Int64)) >>> ((52 : Int32) &&& 0x3f).toInt64)) &&& (-64 : Int64)) (0 : Int64)) = (0 : Int32)
  · refine Go.via (fun _ => XS.ifNo X1.here hx rfl (hb hby d6_31) rfl ((if0 _ _).trans (teq (hc2 : (lcmpW (((1074 : Int64) - (((y_.toInt64) &&& (9218868437227405312 : Int64)) >>> ((52 : Int32) &&& 0x3f).toInt64)) &&& (-64 : Int64)) (0 : Int64)) = (0 : Int32))).2)) ?_
    show Go p e below (T1.setTop (mkF m 34 #[.val (.double y_), .second, .val (.long (y_.toInt64)), .second, .val (.long (((y_.toInt64) &&& (9218868437227405312 : Int64)) >>> ((52 : Int32) &&& 0x3f).toInt64)), .second, .val (.long ((1074 : Int64) - (((y_.toInt64) &&& (9218868437227405312 : Int64)) >>> ((52 : Int32) &&& 0x3f).toInt64))), .second, .unset, .unset] [])) _
    refine Go.via (fun _ => XS.lloadN X1.here hx rfl (hb hby d6_34) rfl) ?_
    refine Go.via (X1.ldc2Long hx hown (mvT hZ (tw hw 40 rfl)) (g := (mkF m 35 #[.val (.double y_), .second, .val (.long (y_.toInt64)), .second, .val (.long (((y_.toInt64) &&& (9218868437227405312 : Int64)) >>> ((52 : Int32) &&& 0x3f).toInt64)), .second, .val (.long ((1074 : Int64) - (((y_.toInt64) &&& (9218868437227405312 : Int64)) >>> ((52 : Int32) &&& 0x3f).toInt64))), .second, .unset, .unset] [(.long (y_.toInt64))])) rfl (hb hby d6_35)) ?_
    show Go p e below (T1.setTop (mkF m 38 #[.val (.double y_), .second, .val (.long (y_.toInt64)), .second, .val (.long (((y_.toInt64) &&& (9218868437227405312 : Int64)) >>> ((52 : Int32) &&& 0x3f).toInt64)), .second, .val (.long ((1074 : Int64) - (((y_.toInt64) &&& (9218868437227405312 : Int64)) >>> ((52 : Int32) &&& 0x3f).toInt64))), .second, .unset, .unset] [(.long (4503599627370495 : Int64)), (.long (y_.toInt64))])) _
    refine Go.via (fun _ => XS.land X1.here hx rfl (hb hby d6_38) rfl) ?_
    show Go p e below (T1.setTop (mkF m 39 #[.val (.double y_), .second, .val (.long (y_.toInt64)), .second, .val (.long (((y_.toInt64) &&& (9218868437227405312 : Int64)) >>> ((52 : Int32) &&& 0x3f).toInt64)), .second, .val (.long ((1074 : Int64) - (((y_.toInt64) &&& (9218868437227405312 : Int64)) >>> ((52 : Int32) &&& 0x3f).toInt64))), .second, .unset, .unset] [(.long ((y_.toInt64) &&& (4503599627370495 : Int64)))])) _
    refine Go.via (X1.ldc2Long hx hown (mvT hZ (tw hw 41 rfl)) (g := (mkF m 39 #[.val (.double y_), .second, .val (.long (y_.toInt64)), .second, .val (.long (((y_.toInt64) &&& (9218868437227405312 : Int64)) >>> ((52 : Int32) &&& 0x3f).toInt64)), .second, .val (.long ((1074 : Int64) - (((y_.toInt64) &&& (9218868437227405312 : Int64)) >>> ((52 : Int32) &&& 0x3f).toInt64))), .second, .unset, .unset] [(.long ((y_.toInt64) &&& (4503599627370495 : Int64)))])) rfl (hb hby d6_39)) ?_
    show Go p e below (T1.setTop (mkF m 42 #[.val (.double y_), .second, .val (.long (y_.toInt64)), .second, .val (.long (((y_.toInt64) &&& (9218868437227405312 : Int64)) >>> ((52 : Int32) &&& 0x3f).toInt64)), .second, .val (.long ((1074 : Int64) - (((y_.toInt64) &&& (9218868437227405312 : Int64)) >>> ((52 : Int32) &&& 0x3f).toInt64))), .second, .unset, .unset] [(.long (4503599627370496 : Int64)), (.long ((y_.toInt64) &&& (4503599627370495 : Int64)))])) _
    refine Go.via (fun _ => XS.lor X1.here hx rfl (hb hby d6_42) rfl) ?_
    show Go p e below (T1.setTop (mkF m 43 #[.val (.double y_), .second, .val (.long (y_.toInt64)), .second, .val (.long (((y_.toInt64) &&& (9218868437227405312 : Int64)) >>> ((52 : Int32) &&& 0x3f).toInt64)), .second, .val (.long ((1074 : Int64) - (((y_.toInt64) &&& (9218868437227405312 : Int64)) >>> ((52 : Int32) &&& 0x3f).toInt64))), .second, .unset, .unset] [(.long (((y_.toInt64) &&& (4503599627370495 : Int64)) ||| (4503599627370496 : Int64)))])) _
    refine Go.via (fun _ => XS.lstore X1.here hx rfl (hb hby d6_43) rfl (l' := #[.val (.double y_), .second, .val (.long (y_.toInt64)), .second, .val (.long (((y_.toInt64) &&& (9218868437227405312 : Int64)) >>> ((52 : Int32) &&& 0x3f).toInt64)), .second, .val (.long ((1074 : Int64) - (((y_.toInt64) &&& (9218868437227405312 : Int64)) >>> ((52 : Int32) &&& 0x3f).toInt64))), .second, .val (.long (((y_.toInt64) &&& (4503599627370495 : Int64)) ||| (4503599627370496 : Int64))), .second]) rfl) ?_
    show Go p e below (T1.setTop (mkF m 45 #[.val (.double y_), .second, .val (.long (y_.toInt64)), .second, .val (.long (((y_.toInt64) &&& (9218868437227405312 : Int64)) >>> ((52 : Int32) &&& 0x3f).toInt64)), .second, .val (.long ((1074 : Int64) - (((y_.toInt64) &&& (9218868437227405312 : Int64)) >>> ((52 : Int32) &&& 0x3f).toInt64))), .second, .val (.long (((y_.toInt64) &&& (4503599627370495 : Int64)) ||| (4503599627370496 : Int64))), .second] [])) _
    refine Go.via (fun _ => XS.lloadN X1.here hx rfl (hb hby d6_45) rfl) ?_
    refine Go.via (fun _ => XS.lconst X1.here hx rfl (hb hby d6_46)) ?_
    refine Go.via (fun _ => XS.lcmp X1.here hx rfl (hb hby d6_47) rfl) ?_
    show Go p e below (T1.setTop (mkF m 48 #[.val (.double y_), .second, .val (.long (y_.toInt64)), .second, .val (.long (((y_.toInt64) &&& (9218868437227405312 : Int64)) >>> ((52 : Int32) &&& 0x3f).toInt64)), .second, .val (.long ((1074 : Int64) - (((y_.toInt64) &&& (9218868437227405312 : Int64)) >>> ((52 : Int32) &&& 0x3f).toInt64))), .second, .val (.long (((y_.toInt64) &&& (4503599627370495 : Int64)) ||| (4503599627370496 : Int64))), .second] [(.int (lcmpW (y_.toInt64) (0 : Int64)))])) _
    by_cases hc3 : (lcmpW (y_.toInt64) (0 : Int64)) < (0 : Int32)
    · refine Go.via (fun _ => XS.ifNo X1.here hx rfl (hb hby d6_48) rfl ((if0 _ _).trans (tlt (hc3 : (lcmpW (y_.toInt64) (0 : Int64)) < (0 : Int32))).2.1)) ?_
      show Go p e below (T1.setTop (mkF m 51 #[.val (.double y_), .second, .val (.long (y_.toInt64)), .second, .val (.long (((y_.toInt64) &&& (9218868437227405312 : Int64)) >>> ((52 : Int32) &&& 0x3f).toInt64)), .second, .val (.long ((1074 : Int64) - (((y_.toInt64) &&& (9218868437227405312 : Int64)) >>> ((52 : Int32) &&& 0x3f).toInt64))), .second, .val (.long (((y_.toInt64) &&& (4503599627370495 : Int64)) ||| (4503599627370496 : Int64))), .second] [])) _
      refine Go.via (fun _ => XS.lload X1.here hx rfl (hb hby d6_51) rfl) ?_
      refine Go.via (fun _ => XS.lneg X1.here hx rfl (hb hby d6_53) rfl) ?_
      show Go p e below (T1.setTop (mkF m 54 #[.val (.double y_), .second, .val (.long (y_.toInt64)), .second, .val (.long (((y_.toInt64) &&& (9218868437227405312 : Int64)) >>> ((52 : Int32) &&& 0x3f).toInt64)), .second, .val (.long ((1074 : Int64) - (((y_.toInt64) &&& (9218868437227405312 : Int64)) >>> ((52 : Int32) &&& 0x3f).toInt64))), .second, .val (.long (((y_.toInt64) &&& (4503599627370495 : Int64)) ||| (4503599627370496 : Int64))), .second] [(.long (-(((y_.toInt64) &&& (4503599627370495 : Int64)) ||| (4503599627370496 : Int64))))])) _
      refine Go.via (fun _ => XS.lstore X1.here hx rfl (hb hby d6_54) rfl (l' := #[.val (.double y_), .second, .val (.long (y_.toInt64)), .second, .val (.long (((y_.toInt64) &&& (9218868437227405312 : Int64)) >>> ((52 : Int32) &&& 0x3f).toInt64)), .second, .val (.long ((1074 : Int64) - (((y_.toInt64) &&& (9218868437227405312 : Int64)) >>> ((52 : Int32) &&& 0x3f).toInt64))), .second, .val (.long (-(((y_.toInt64) &&& (4503599627370495 : Int64)) ||| (4503599627370496 : Int64)))), .second]) rfl) ?_
      show Go p e below (T1.setTop (mkF m 56 #[.val (.double y_), .second, .val (.long (y_.toInt64)), .second, .val (.long (((y_.toInt64) &&& (9218868437227405312 : Int64)) >>> ((52 : Int32) &&& 0x3f).toInt64)), .second, .val (.long ((1074 : Int64) - (((y_.toInt64) &&& (9218868437227405312 : Int64)) >>> ((52 : Int32) &&& 0x3f).toInt64))), .second, .val (.long (-(((y_.toInt64) &&& (4503599627370495 : Int64)) ||| (4503599627370496 : Int64)))), .second] [])) _
      refine Go.via (fun _ => XS.lload X1.here hx rfl (hb hby d6_56) rfl) ?_
      refine Go.via (fun _ => XS.lload X1.here hx rfl (hb hby d6_58) rfl) ?_
      refine Go.via (fun _ => XS.l2i X1.here hx rfl (hb hby d6_60) rfl) ?_
      show Go p e below (T1.setTop (mkF m 61 #[.val (.double y_), .second, .val (.long (y_.toInt64)), .second, .val (.long (((y_.toInt64) &&& (9218868437227405312 : Int64)) >>> ((52 : Int32) &&& 0x3f).toInt64)), .second, .val (.long ((1074 : Int64) - (((y_.toInt64) &&& (9218868437227405312 : Int64)) >>> ((52 : Int32) &&& 0x3f).toInt64))), .second, .val (.long (-(((y_.toInt64) &&& (4503599627370495 : Int64)) ||| (4503599627370496 : Int64)))), .second] [(.int (((1074 : Int64) - (((y_.toInt64) &&& (9218868437227405312 : Int64)) >>> ((52 : Int32) &&& 0x3f).toInt64)).toInt32)), (.long (-(((y_.toInt64) &&& (4503599627370495 : Int64)) ||| (4503599627370496 : Int64))))])) _
      refine Go.via (fun _ => XS.lshr X1.here hx rfl (hb hby d6_61) rfl) ?_
      show Go p e below (T1.setTop (mkF m 62 #[.val (.double y_), .second, .val (.long (y_.toInt64)), .second, .val (.long (((y_.toInt64) &&& (9218868437227405312 : Int64)) >>> ((52 : Int32) &&& 0x3f).toInt64)), .second, .val (.long ((1074 : Int64) - (((y_.toInt64) &&& (9218868437227405312 : Int64)) >>> ((52 : Int32) &&& 0x3f).toInt64))), .second, .val (.long (-(((y_.toInt64) &&& (4503599627370495 : Int64)) ||| (4503599627370496 : Int64)))), .second] [(.long ((-(((y_.toInt64) &&& (4503599627370495 : Int64)) ||| (4503599627370496 : Int64))) >>> ((((1074 : Int64) - (((y_.toInt64) &&& (9218868437227405312 : Int64)) >>> ((52 : Int32) &&& 0x3f).toInt64)).toInt32) &&& 0x3f).toInt64))])) _
      refine Go.via (fun _ => XS.lconst X1.here hx rfl (hb hby d6_62)) ?_
      refine Go.via (fun _ => XS.ladd X1.here hx rfl (hb hby d6_63) rfl) ?_
      show Go p e below (T1.setTop (mkF m 64 #[.val (.double y_), .second, .val (.long (y_.toInt64)), .second, .val (.long (((y_.toInt64) &&& (9218868437227405312 : Int64)) >>> ((52 : Int32) &&& 0x3f).toInt64)), .second, .val (.long ((1074 : Int64) - (((y_.toInt64) &&& (9218868437227405312 : Int64)) >>> ((52 : Int32) &&& 0x3f).toInt64))), .second, .val (.long (-(((y_.toInt64) &&& (4503599627370495 : Int64)) ||| (4503599627370496 : Int64)))), .second] [(.long (((-(((y_.toInt64) &&& (4503599627370495 : Int64)) ||| (4503599627370496 : Int64))) >>> ((((1074 : Int64) - (((y_.toInt64) &&& (9218868437227405312 : Int64)) >>> ((52 : Int32) &&& 0x3f).toInt64)).toInt32) &&& 0x3f).toInt64) + (1 : Int64)))])) _
      refine Go.via (fun _ => XS.iconst X1.here hx rfl (hb hby d6_64)) ?_
      refine Go.via (fun _ => XS.lshr X1.here hx rfl (hb hby d6_65) rfl) ?_
      show Go p e below (T1.setTop (mkF m 66 #[.val (.double y_), .second, .val (.long (y_.toInt64)), .second, .val (.long (((y_.toInt64) &&& (9218868437227405312 : Int64)) >>> ((52 : Int32) &&& 0x3f).toInt64)), .second, .val (.long ((1074 : Int64) - (((y_.toInt64) &&& (9218868437227405312 : Int64)) >>> ((52 : Int32) &&& 0x3f).toInt64))), .second, .val (.long (-(((y_.toInt64) &&& (4503599627370495 : Int64)) ||| (4503599627370496 : Int64)))), .second] [(.long ((((-(((y_.toInt64) &&& (4503599627370495 : Int64)) ||| (4503599627370496 : Int64))) >>> ((((1074 : Int64) - (((y_.toInt64) &&& (9218868437227405312 : Int64)) >>> ((52 : Int32) &&& 0x3f).toInt64)).toInt32) &&& 0x3f).toInt64) + (1 : Int64)) >>> ((1 : Int32) &&& 0x3f).toInt64))])) _
      exact Go.fin X1 hlk (v := some (.long ((((-(((y_.toInt64) &&& (4503599627370495 : Int64)) ||| (4503599627370496 : Int64))) >>> ((((1074 : Int64) - (((y_.toInt64) &&& (9218868437227405312 : Int64)) >>> ((52 : Int32) &&& 0x3f).toInt64)).toInt32) &&& 0x3f).toInt64) + (1 : Int64)) >>> ((1 : Int32) &&& 0x3f).toInt64))) (fun h => by rw [Bd.returns] at h; cases h) (fun fs hr => retOut X1 hx Bd.returns rfl (Or.inr (Or.inl ⟨rfl, rfl, _, rfl⟩)) (hb hby d6_66) hr) (by rw [e1]; exact ⟨((((-(((y_.toInt64) &&& (4503599627370495 : Int64)) ||| (4503599627370496 : Int64))) >>> ((((1074 : Int64) - (((y_.toInt64) &&& (9218868437227405312 : Int64)) >>> ((52 : Int32) &&& 0x3f).toInt64)).toInt32) &&& 0x3f).toInt64) + (1 : Int64)) >>> ((1 : Int32) &&& 0x3f).toInt64), rfl, N0, rfl, (own_r1 hv hd hc2 hc3)⟩) (by decide) (by decide)
    · refine Go.via (fun _ => XS.ifYes X1.here hx rfl (pc0 := 48) (pc' := 56) rfl (hb hby d6_48) rfl ((if0 _ _).trans (flt (hc3 : ¬ ((lcmpW (y_.toInt64) (0 : Int64)) < (0 : Int32)))).2.1) (by decide) (by decide)) ?_
      show Go p e below (T1.setTop (mkF m 56 #[.val (.double y_), .second, .val (.long (y_.toInt64)), .second, .val (.long (((y_.toInt64) &&& (9218868437227405312 : Int64)) >>> ((52 : Int32) &&& 0x3f).toInt64)), .second, .val (.long ((1074 : Int64) - (((y_.toInt64) &&& (9218868437227405312 : Int64)) >>> ((52 : Int32) &&& 0x3f).toInt64))), .second, .val (.long (((y_.toInt64) &&& (4503599627370495 : Int64)) ||| (4503599627370496 : Int64))), .second] [])) _
      refine Go.via (fun _ => XS.lload X1.here hx rfl (hb hby d6_56) rfl) ?_
      refine Go.via (fun _ => XS.lload X1.here hx rfl (hb hby d6_58) rfl) ?_
      refine Go.via (fun _ => XS.l2i X1.here hx rfl (hb hby d6_60) rfl) ?_
      show Go p e below (T1.setTop (mkF m 61 #[.val (.double y_), .second, .val (.long (y_.toInt64)), .second, .val (.long (((y_.toInt64) &&& (9218868437227405312 : Int64)) >>> ((52 : Int32) &&& 0x3f).toInt64)), .second, .val (.long ((1074 : Int64) - (((y_.toInt64) &&& (9218868437227405312 : Int64)) >>> ((52 : Int32) &&& 0x3f).toInt64))), .second, .val (.long (((y_.toInt64) &&& (4503599627370495 : Int64)) ||| (4503599627370496 : Int64))), .second] [(.int (((1074 : Int64) - (((y_.toInt64) &&& (9218868437227405312 : Int64)) >>> ((52 : Int32) &&& 0x3f).toInt64)).toInt32)), (.long (((y_.toInt64) &&& (4503599627370495 : Int64)) ||| (4503599627370496 : Int64)))])) _
      refine Go.via (fun _ => XS.lshr X1.here hx rfl (hb hby d6_61) rfl) ?_
      show Go p e below (T1.setTop (mkF m 62 #[.val (.double y_), .second, .val (.long (y_.toInt64)), .second, .val (.long (((y_.toInt64) &&& (9218868437227405312 : Int64)) >>> ((52 : Int32) &&& 0x3f).toInt64)), .second, .val (.long ((1074 : Int64) - (((y_.toInt64) &&& (9218868437227405312 : Int64)) >>> ((52 : Int32) &&& 0x3f).toInt64))), .second, .val (.long (((y_.toInt64) &&& (4503599627370495 : Int64)) ||| (4503599627370496 : Int64))), .second] [(.long ((((y_.toInt64) &&& (4503599627370495 : Int64)) ||| (4503599627370496 : Int64)) >>> ((((1074 : Int64) - (((y_.toInt64) &&& (9218868437227405312 : Int64)) >>> ((52 : Int32) &&& 0x3f).toInt64)).toInt32) &&& 0x3f).toInt64))])) _
      refine Go.via (fun _ => XS.lconst X1.here hx rfl (hb hby d6_62)) ?_
      refine Go.via (fun _ => XS.ladd X1.here hx rfl (hb hby d6_63) rfl) ?_
      show Go p e below (T1.setTop (mkF m 64 #[.val (.double y_), .second, .val (.long (y_.toInt64)), .second, .val (.long (((y_.toInt64) &&& (9218868437227405312 : Int64)) >>> ((52 : Int32) &&& 0x3f).toInt64)), .second, .val (.long ((1074 : Int64) - (((y_.toInt64) &&& (9218868437227405312 : Int64)) >>> ((52 : Int32) &&& 0x3f).toInt64))), .second, .val (.long (((y_.toInt64) &&& (4503599627370495 : Int64)) ||| (4503599627370496 : Int64))), .second] [(.long (((((y_.toInt64) &&& (4503599627370495 : Int64)) ||| (4503599627370496 : Int64)) >>> ((((1074 : Int64) - (((y_.toInt64) &&& (9218868437227405312 : Int64)) >>> ((52 : Int32) &&& 0x3f).toInt64)).toInt32) &&& 0x3f).toInt64) + (1 : Int64)))])) _
      refine Go.via (fun _ => XS.iconst X1.here hx rfl (hb hby d6_64)) ?_
      refine Go.via (fun _ => XS.lshr X1.here hx rfl (hb hby d6_65) rfl) ?_
      show Go p e below (T1.setTop (mkF m 66 #[.val (.double y_), .second, .val (.long (y_.toInt64)), .second, .val (.long (((y_.toInt64) &&& (9218868437227405312 : Int64)) >>> ((52 : Int32) &&& 0x3f).toInt64)), .second, .val (.long ((1074 : Int64) - (((y_.toInt64) &&& (9218868437227405312 : Int64)) >>> ((52 : Int32) &&& 0x3f).toInt64))), .second, .val (.long (((y_.toInt64) &&& (4503599627370495 : Int64)) ||| (4503599627370496 : Int64))), .second] [(.long ((((((y_.toInt64) &&& (4503599627370495 : Int64)) ||| (4503599627370496 : Int64)) >>> ((((1074 : Int64) - (((y_.toInt64) &&& (9218868437227405312 : Int64)) >>> ((52 : Int32) &&& 0x3f).toInt64)).toInt32) &&& 0x3f).toInt64) + (1 : Int64)) >>> ((1 : Int32) &&& 0x3f).toInt64))])) _
      exact Go.fin X1 hlk (v := some (.long ((((((y_.toInt64) &&& (4503599627370495 : Int64)) ||| (4503599627370496 : Int64)) >>> ((((1074 : Int64) - (((y_.toInt64) &&& (9218868437227405312 : Int64)) >>> ((52 : Int32) &&& 0x3f).toInt64)).toInt32) &&& 0x3f).toInt64) + (1 : Int64)) >>> ((1 : Int32) &&& 0x3f).toInt64))) (fun h => by rw [Bd.returns] at h; cases h) (fun fs hr => retOut X1 hx Bd.returns rfl (Or.inr (Or.inl ⟨rfl, rfl, _, rfl⟩)) (hb hby d6_66) hr) (by rw [e1]; exact ⟨((((((y_.toInt64) &&& (4503599627370495 : Int64)) ||| (4503599627370496 : Int64)) >>> ((((1074 : Int64) - (((y_.toInt64) &&& (9218868437227405312 : Int64)) >>> ((52 : Int32) &&& 0x3f).toInt64)).toInt32) &&& 0x3f).toInt64) + (1 : Int64)) >>> ((1 : Int32) &&& 0x3f).toInt64), rfl, N0, rfl, (own_r2 hv hd hc2 hc3)⟩) (by decide) (by decide)
  · refine Go.via (fun _ => XS.ifYes X1.here hx rfl (pc0 := 31) (pc' := 67) rfl (hb hby d6_31) rfl ((if0 _ _).trans (feq (hc2 : ¬ ((lcmpW (((1074 : Int64) - (((y_.toInt64) &&& (9218868437227405312 : Int64)) >>> ((52 : Int32) &&& 0x3f).toInt64)) &&& (-64 : Int64)) (0 : Int64)) = (0 : Int32)))).2) (by decide) (by decide)) ?_
    show Go p e below (T1.setTop (mkF m 67 #[.val (.double y_), .second, .val (.long (y_.toInt64)), .second, .val (.long (((y_.toInt64) &&& (9218868437227405312 : Int64)) >>> ((52 : Int32) &&& 0x3f).toInt64)), .second, .val (.long ((1074 : Int64) - (((y_.toInt64) &&& (9218868437227405312 : Int64)) >>> ((52 : Int32) &&& 0x3f).toInt64))), .second, .unset, .unset] [])) _
    refine Go.via (fun _ => OwnKit.dloadN X1.here hx rfl (hb hby d6_67) rfl) ?_
    show Go p e below (T1.setTop (mkF m 68 #[.val (.double y_), .second, .val (.long (y_.toInt64)), .second, .val (.long (((y_.toInt64) &&& (9218868437227405312 : Int64)) >>> ((52 : Int32) &&& 0x3f).toInt64)), .second, .val (.long ((1074 : Int64) - (((y_.toInt64) &&& (9218868437227405312 : Int64)) >>> ((52 : Int32) &&& 0x3f).toInt64))), .second, .unset, .unset] [(.double y_)])) _
    refine Go.via (fun _ => OwnKit.d2l X1.here hx rfl (hb hby d6_68) rfl) ?_
    show Go p e below (T1.setTop (mkF m 69 #[.val (.double y_), .second, .val (.long (y_.toInt64)), .second, .val (.long (((y_.toInt64) &&& (9218868437227405312 : Int64)) >>> ((52 : Int32) &&& 0x3f).toInt64)), .second, .val (.long ((1074 : Int64) - (((y_.toInt64) &&& (9218868437227405312 : Int64)) >>> ((52 : Int32) &&& 0x3f).toInt64))), .second, .unset, .unset] [(.long (FP.d2l y_))])) _
    exact Go.fin X1 hlk (v := some (.long (FP.d2l y_))) (fun h => by rw [Bd.returns] at h; cases h) (fun fs hr => retOut X1 hx Bd.returns rfl (Or.inr (Or.inl ⟨rfl, rfl, _, rfl⟩)) (hb hby d6_69) hr) (by rw [e1]; exact ⟨(FP.d2l y_), rfl, N0, rfl, (own_r3 hv hd hc2)⟩) (by decide) (by decide)
theorem d5_0 : decode prog_32_method_6_code 0 = .ok (.dload_n 0, 1) := by decide +kernel
theorem d5_1 : decode prog_32_method_6_code 1 = .ok (.ldc2_w 29, 3) := by decide +kernel
theorem d5_4 : decode prog_32_method_6_code 4 = .ok (.dmul, 1) := by decide +kernel
theorem d5_5 : decode prog_32_method_6_code 5 = .ok (.invokestatic 31, 3) := by decide +kernel
theorem pd__28D_29J : parseMethodDescriptor "(D)J" = some ⟨[.double], some .long⟩ := by decide +kernel
theorem d5_8 : decode prog_32_method_6_code 8 = .ok (.lreturn, 1) := by decide +kernel
theorem pn_5 : plainName "com/example/libcosearch/libcosearch/ScoreSums" = true := by first | (simp [plainName, overriddenIn]; done) | decide +kernel
theorem ef_5 (m : MethodId) (x0 : UInt64) : entryFrame m #[(.double x0)] 2 = mkF m 0 #[.val (.double x0), .second] [] := by first | (simp [entryFrame, mkF, argsToLocals, Value.category]; done) | rfl
def Q_rmU (Z : State) (av : UInt64) (di : Int) (h0 : Heap) (n0 : Nat) (vQ : Option Value) (hQ : Heap) (LQ : List Loc) : Prop := ∃ w_ : Int64, vQ = some (.long w_) ∧ Fr n0 LQ ∧ hQ = h0 ∧ (w_.toInt = di * 16777216)
set_option maxRecDepth 65536 in
set_option maxHeartbeats 40000000 in
theorem rmU (l : Launch) (Z : State) (a0 : Array Value) (hw : ∀ d ∈ tables_1, d.before a0 Z = true) (ws : List Jvm.Cond) (av : UInt64) (di : Int) (h0 : Heap) (n0 : Nat) (Z0 : n0 ≤ h0.size) (hv : dv av di (-16)) (hd : di.natAbs ≤ 2147483648) :
    MetFree l (⟨"com/example/libcosearch/libcosearch/ScoreSums", "units", "(D)J"⟩ : MethodName) (head1 (Jvm.Cond.code (⟨"com/example/libcosearch/libcosearch/ScoreSums", "units", "(D)J"⟩ : MethodName) prog_32_method_6_code 2 (some .long) :: ws) ({ frames := 2, cells := 0, slots := 0, locals := 61 } : Room)) (fun aQ UQ => aQ = #[(.double av)] ∧ Z.Warmed39 UQ.vm ∧ UQ.heap = h0) (fun _ _ _ _ _ => True) (fun _ UQ oQ UR => ∃ vQ LQ, oQ = .returned vQ ∧ Q_rmU Z av di h0 n0 vQ UR.heap LQ ∧ FrameEnd UQ oQ UR LQ ({ frames := 2, cells := 0, slots := 0, locals := 61 } : Room).cells ({ frames := 2, cells := 0, slots := 0, locals := 61 } : Room).slots) := by
  refine MetFree.of_bodySF (plainFor_of_name pn_5) hisR ?_
  intro p e s m args below meth c s₁ Bd hml0 hP hK
  obtain ⟨rfl, hZ, hh⟩ := hP
  have hx := Bd.exec
  have hby := Bd.bytes
  have hlk := Bd.notSynchronized
  have hml : c.maxLocals = 2 := hml0
  have hown : s.vm.findClass "com/example/libcosearch/libcosearch/ScoreSums" = some m.cls := findClass_of_methodNamed Bd.named
  have hnm := (name_of_methodNamed Bd.named Bd.method).1
  have X0 : Stand p l e ({ frames := 2, cells := 0, slots := 0, locals := 61 } : Room) s m #[(.double av)] below meth c s₁ [] 0 0 := Stand.of_body Bd
  have e0 : s₁.heap = h0 := by rw [← hh, Bd.state]; rfl
  have N0 := Fr.nil n0
  show Go p e below _ (Done s (Q_rmU Z av di h0 n0) ({ frames := 2, cells := 0, slots := 0, locals := 61 } : Room).cells ({ frames := 2, cells := 0, slots := 0, locals := 61 } : Room).slots)
  refine Go.via (fun tQ kQ => castTop (ef_5 m av) kQ) ?_
  show Go p e below (s₁.setTop (mkF m 0 #[.val (.double av), .second] [])) _
  refine Go.via (fun _ => OwnKit.dloadN X0.here hx rfl (hb hby d5_0) rfl) ?_
  show Go p e below (s₁.setTop (mkF m 1 #[.val (.double av), .second] [(.double av)])) _
  refine Go.via (X0.ldc2DoubleC hx hown (mvT hZ (tw hw 28 rfl)) (g := (mkF m 1 #[.val (.double av), .second] [(.double av)])) rfl (hb hby d5_1)) ?_
  show Go p e below (s₁.setTop (mkF m 4 #[.val (.double av), .second] [(.double (4787326403894837248 : UInt64)), (.double av)])) _
  refine Go.via (fun _ => OwnKit.dmul X0.here hx rfl (hb hby d5_4) rfl (own_nn (by rw [own_un hv hd]; exact cn_fin _ _))) ?_
  show Go p e below (s₁.setTop (mkF m 5 #[.val (.double av), .second] [(.double (FP.dmul av (4787326403894837248 : UInt64)))])) _
  obtain ⟨r4, _, ⟨T4, L4, k4, n4⟩, -, X4, ⟨Lc4, hQ4, l4, y4, z4⟩, st4⟩ := Jvm.LawKit.callS X0 hx (y := (⟨"java/lang/Math", "round", "(D)J"⟩ : MethodName)) hown (mvT hZ (tw hw 29 rfl)) (mvT hZ (tw hw 30 rfl)) (mvT hZ (tw hw 31 rfl)) (mvT hZ (tw hw 32 rfl)) (by decide) (backOf (W := 0) (rmR l Z a0 hw [] (FP.dmul av (4787326403894837248 : UInt64)) di h0 n0 Z0 (own_un hv hd) hd) hZ (tw hw 32 rfl) (tw hw 31 rfl) (by decide) (by decide)) (g := (mkF m 5 #[.val (.double av), .second] [(.double (FP.dmul av (4787326403894837248 : UInt64)))])) rfl (by rw [hml]; rfl) (argsL := [(.double (FP.dmul av (4787326403894837248 : UInt64)))]) (rest := []) (lenOf pd__28D_29J rfl) rfl (by show 2 * 0 + _ ≤ _; exact Nat.le_of_eq rfl) (hb hby d5_5) (fun _ _ => ⟨rfl, e0, (by decide : 0 + 0 ≤ _), (by decide : 0 + 0 ≤ _)⟩)
  dsimp only [Pt.U, Pt.locs, Pt.cells, Pt.slots] at X4 l4 y4 z4 st4 hQ4
  rw [l4, y4, z4] at X4
  clear l4 y4 z4
  obtain ⟨v5, hr4, N4q, eh4, qp6⟩ := hQ4
  rw [hr4] at st4
  clear hr4
  have N4 := Fr.app N0 N4q
  refine Go.via (st4) ?_
  clear st4
  have e4 : T4.heap = h0 := eh4
  clear X0 e0
  show Go p e below (T4.setTop (mkF m 8 #[.val (.double av), .second] [(.long v5)])) _
  exact Go.fin X4 hlk (v := some (.long v5)) (fun h => by rw [Bd.returns] at h; cases h) (fun fs hr => retOut X4 hx Bd.returns rfl (Or.inr (Or.inl ⟨rfl, rfl, _, rfl⟩)) (hb hby d5_8) hr) (by rw [e4]; exact ⟨v5, rfl, N4, rfl, qp6⟩) (by decide) (by decide)
theorem d7_0 : decode jdk_29_method_25_code 0 = .ok (.lload_n 0, 1) := by decide +kernel
theorem d7_1 : decode jdk_29_method_25_code 1 = .ok (.lload_n 2, 1) := by decide +kernel
theorem d7_2 : decode jdk_29_method_25_code 2 = .ok (.ladd, 1) := by decide +kernel
theorem d7_3 : decode jdk_29_method_25_code 3 = .ok (.lstore 4, 2) := by decide +kernel
theorem d7_5 : decode jdk_29_method_25_code 5 = .ok (.lload_n 0, 1) := by decide +kernel
theorem d7_6 : decode jdk_29_method_25_code 6 = .ok (.lload 4, 2) := by decide +kernel
theorem d7_8 : decode jdk_29_method_25_code 8 = .ok (.lxor, 1) := by decide +kernel
theorem d7_9 : decode jdk_29_method_25_code 9 = .ok (.lload_n 2, 1) := by decide +kernel
theorem d7_10 : decode jdk_29_method_25_code 10 = .ok (.lload 4, 2) := by decide +kernel
theorem d7_12 : decode jdk_29_method_25_code 12 = .ok (.lxor, 1) := by decide +kernel
theorem d7_13 : decode jdk_29_method_25_code 13 = .ok (.land, 1) := by decide +kernel
theorem d7_14 : decode jdk_29_method_25_code 14 = .ok (.lconst 0, 1) := by decide +kernel
theorem d7_15 : decode jdk_29_method_25_code 15 = .ok (.lcmp, 1) := by decide +kernel
theorem d7_16 : decode jdk_29_method_25_code 16 = .ok (.ifCond .ge 13, 3) := by decide +kernel
theorem d7_29 : decode jdk_29_method_25_code 29 = .ok (.lload 4, 2) := by decide +kernel
theorem d7_31 : decode jdk_29_method_25_code 31 = .ok (.lreturn, 1) := by decide +kernel
theorem ef_7 (m : MethodId) (x0 : Int64) (x1 : Int64) : entryFrame m #[(.long x0), (.long x1)] 6 = mkF m 0 #[.val (.long x0), .second, .val (.long x1), .second, .unset, .unset] [] := by first | (simp [entryFrame, mkF, argsToLocals, Value.category]; done) | rfl
def Q_rmE (Z : State) (xx : Int64) (yy : Int64)  (h0 : Heap) (n0 : Nat) (vQ : Option Value) (hQ : Heap) (LQ : List Loc) : Prop := vQ = some (.long (xx + yy)) ∧ Fr n0 LQ ∧ hQ = h0
set_option maxRecDepth 65536 in
set_option maxHeartbeats 40000000 in
theorem rmE (l : Launch) (Z : State) (a0 : Array Value) (hw : ∀ d ∈ tables_1, d.before a0 Z = true) (ws : List Jvm.Cond) (xx : Int64) (yy : Int64)  (h0 : Heap) (n0 : Nat) (Z0 : n0 ≤ h0.size) (hr_ : -9223372036854775808 ≤ xx.toInt + yy.toInt ∧ xx.toInt + yy.toInt < 9223372036854775808) :
    MetFree l (⟨"java/lang/Math", "addExact", "(JJ)J"⟩ : MethodName) (head1 (Jvm.Cond.code (⟨"java/lang/Math", "addExact", "(JJ)J"⟩ : MethodName) jdk_29_method_25_code 6 (some .long) :: ws) ({ frames := 0, cells := 0, slots := 0, locals := 0 } : Room)) (fun aQ UQ => aQ = #[(.long xx), (.long yy)] ∧ Z.Warmed39 UQ.vm ∧ UQ.heap = h0) (fun _ _ _ _ _ => True) (fun _ UQ oQ UR => ∃ vQ LQ, oQ = .returned vQ ∧ Q_rmE Z xx yy  h0 n0 vQ UR.heap LQ ∧ FrameEnd UQ oQ UR LQ ({ frames := 0, cells := 0, slots := 0, locals := 0 } : Room).cells ({ frames := 0, cells := 0, slots := 0, locals := 0 } : Room).slots) := by
  refine MetFree.of_bodySF (Jvm.Free.JP.mathPlain rfl (by decide +kernel)) hisR ?_
  intro p e s m args below meth c s₁ Bd hml0 hP hK
  obtain ⟨rfl, hZ, hh⟩ := hP
  have hx := Bd.exec
  have hby := Bd.bytes
  have hlk := Bd.notSynchronized
  have hml : c.maxLocals = 6 := hml0
  have hown : s.vm.findClass "java/lang/Math" = some m.cls := findClass_of_methodNamed Bd.named
  have hnm := (name_of_methodNamed Bd.named Bd.method).1
  have X0 : Stand p l e ({ frames := 0, cells := 0, slots := 0, locals := 0 } : Room) s m #[(.long xx), (.long yy)] below meth c s₁ [] 0 0 := Stand.of_body Bd
  have e0 : s₁.heap = h0 := by rw [← hh, Bd.state]; rfl
  have N0 := Fr.nil n0
  show Go p e below _ (Done s (Q_rmE Z xx yy  h0 n0) ({ frames := 0, cells := 0, slots := 0, locals := 0 } : Room).cells ({ frames := 0, cells := 0, slots := 0, locals := 0 } : Room).slots)
  refine Go.via (fun tQ kQ => castTop (ef_7 m xx yy) kQ) ?_
  show Go p e below (s₁.setTop (mkF m 0 #[.val (.long xx), .second, .val (.long yy), .second, .unset, .unset] [])) _
  refine Go.via (fun _ => XS.lloadN X0.here hx rfl (hb hby d7_0) rfl) ?_
  refine Go.via (fun _ => XS.lloadN X0.here hx rfl (hb hby d7_1) rfl) ?_
  refine Go.via (fun _ => XS.ladd X0.here hx rfl (hb hby d7_2) rfl) ?_
  show Go p e below (s₁.setTop (mkF m 3 #[.val (.long xx), .second, .val (.long yy), .second, .unset, .unset] [(.long (xx + yy))])) _
  refine Go.via (fun _ => XS.lstore X0.here hx rfl (hb hby d7_3) rfl (l' := #[.val (.long xx), .second, .val (.long yy), .second, .val (.long (xx + yy)), .second]) rfl) ?_
  show Go p e below (s₁.setTop (mkF m 5 #[.val (.long xx), .second, .val (.long yy), .second, .val (.long (xx + yy)), .second] [])) _
  refine Go.via (fun _ => XS.lloadN X0.here hx rfl (hb hby d7_5) rfl) ?_
  refine Go.via (fun _ => XS.lload X0.here hx rfl (hb hby d7_6) rfl) ?_
  refine Go.via (fun _ => XS.lxor X0.here hx rfl (hb hby d7_8) rfl) ?_
  show Go p e below (s₁.setTop (mkF m 9 #[.val (.long xx), .second, .val (.long yy), .second, .val (.long (xx + yy)), .second] [(.long (xx ^^^ (xx + yy)))])) _
  refine Go.via (fun _ => XS.lloadN X0.here hx rfl (hb hby d7_9) rfl) ?_
  refine Go.via (fun _ => XS.lload X0.here hx rfl (hb hby d7_10) rfl) ?_
  refine Go.via (fun _ => XS.lxor X0.here hx rfl (hb hby d7_12) rfl) ?_
  show Go p e below (s₁.setTop (mkF m 13 #[.val (.long xx), .second, .val (.long yy), .second, .val (.long (xx + yy)), .second] [(.long (yy ^^^ (xx + yy))), (.long (xx ^^^ (xx + yy)))])) _
  refine Go.via (fun _ => XS.land X0.here hx rfl (hb hby d7_13) rfl) ?_
  show Go p e below (s₁.setTop (mkF m 14 #[.val (.long xx), .second, .val (.long yy), .second, .val (.long (xx + yy)), .second] [(.long ((xx ^^^ (xx + yy)) &&& (yy ^^^ (xx + yy))))])) _
  refine Go.via (fun _ => XS.lconst X0.here hx rfl (hb hby d7_14)) ?_
  refine Go.via (fun _ => XS.lcmp X0.here hx rfl (hb hby d7_15) rfl) ?_
  show Go p e below (s₁.setTop (mkF m 16 #[.val (.long xx), .second, .val (.long yy), .second, .val (.long (xx + yy)), .second] [(.int (lcmpW ((xx ^^^ (xx + yy)) &&& (yy ^^^ (xx + yy))) (0 : Int64)))])) _
  refine Go.via (fun _ => XS.ifYes X0.here hx rfl (pc0 := 16) (pc' := 29) rfl (hb hby d7_16) rfl ((if0 _ _).trans (flt ((own_addh hr_) : ¬ ((lcmpW ((xx ^^^ (xx + yy)) &&& (yy ^^^ (xx + yy))) (0 : Int64)) < (0 : Int32)))).2.1) (by decide) (by decide)) ?_
  show Go p e below (s₁.setTop (mkF m 29 #[.val (.long xx), .second, .val (.long yy), .second, .val (.long (xx + yy)), .second] [])) _
  refine Go.via (fun _ => XS.lload X0.here hx rfl (hb hby d7_29) rfl) ?_
  exact Go.fin X0 hlk (v := some (.long (xx + yy))) (fun h => by rw [Bd.returns] at h; cases h) (fun fs hr => retOut X0 hx Bd.returns rfl (Or.inr (Or.inl ⟨rfl, rfl, _, rfl⟩)) (hb hby d7_31) hr) (by rw [e0]; exact ⟨rfl, N0, rfl⟩) (by decide) (by decide)
theorem d10_0 : decode jdk_29_method_27_code 0 = .ok (.lload_n 0, 1) := by decide +kernel
theorem d10_1 : decode jdk_29_method_27_code 1 = .ok (.lload_n 2, 1) := by decide +kernel
theorem d10_2 : decode jdk_29_method_27_code 2 = .ok (.lsub, 1) := by decide +kernel
theorem d10_3 : decode jdk_29_method_27_code 3 = .ok (.lstore 4, 2) := by decide +kernel
theorem d10_5 : decode jdk_29_method_27_code 5 = .ok (.lload_n 0, 1) := by decide +kernel
theorem d10_6 : decode jdk_29_method_27_code 6 = .ok (.lload_n 2, 1) := by decide +kernel
theorem d10_7 : decode jdk_29_method_27_code 7 = .ok (.lxor, 1) := by decide +kernel
theorem d10_8 : decode jdk_29_method_27_code 8 = .ok (.lload_n 0, 1) := by decide +kernel
theorem d10_9 : decode jdk_29_method_27_code 9 = .ok (.lload 4, 2) := by decide +kernel
theorem d10_11 : decode jdk_29_method_27_code 11 = .ok (.lxor, 1) := by decide +kernel
theorem d10_12 : decode jdk_29_method_27_code 12 = .ok (.land, 1) := by decide +kernel
theorem d10_13 : decode jdk_29_method_27_code 13 = .ok (.lconst 0, 1) := by decide +kernel
theorem d10_14 : decode jdk_29_method_27_code 14 = .ok (.lcmp, 1) := by decide +kernel
theorem d10_15 : decode jdk_29_method_27_code 15 = .ok (.ifCond .ge 13, 3) := by decide +kernel
theorem d10_28 : decode jdk_29_method_27_code 28 = .ok (.lload 4, 2) := by decide +kernel
theorem d10_30 : decode jdk_29_method_27_code 30 = .ok (.lreturn, 1) := by decide +kernel
theorem ef_10 (m : MethodId) (x0 : Int64) (x1 : Int64) : entryFrame m #[(.long x0), (.long x1)] 6 = mkF m 0 #[.val (.long x0), .second, .val (.long x1), .second, .unset, .unset] [] := by first | (simp [entryFrame, mkF, argsToLocals, Value.category]; done) | rfl
def Q_rmF (Z : State) (xx : Int64) (yy : Int64)  (h0 : Heap) (n0 : Nat) (vQ : Option Value) (hQ : Heap) (LQ : List Loc) : Prop := vQ = some (.long (xx - yy)) ∧ Fr n0 LQ ∧ hQ = h0
set_option maxRecDepth 65536 in
set_option maxHeartbeats 40000000 in
theorem rmF (l : Launch) (Z : State) (a0 : Array Value) (hw : ∀ d ∈ tables_1, d.before a0 Z = true) (ws : List Jvm.Cond) (xx : Int64) (yy : Int64)  (h0 : Heap) (n0 : Nat) (Z0 : n0 ≤ h0.size) (hr_ : -9223372036854775808 ≤ xx.toInt - yy.toInt ∧ xx.toInt - yy.toInt < 9223372036854775808) :
    MetFree l (⟨"java/lang/Math", "subtractExact", "(JJ)J"⟩ : MethodName) (head1 (Jvm.Cond.code (⟨"java/lang/Math", "subtractExact", "(JJ)J"⟩ : MethodName) jdk_29_method_27_code 6 (some .long) :: ws) ({ frames := 0, cells := 0, slots := 0, locals := 0 } : Room)) (fun aQ UQ => aQ = #[(.long xx), (.long yy)] ∧ Z.Warmed39 UQ.vm ∧ UQ.heap = h0) (fun _ _ _ _ _ => True) (fun _ UQ oQ UR => ∃ vQ LQ, oQ = .returned vQ ∧ Q_rmF Z xx yy  h0 n0 vQ UR.heap LQ ∧ FrameEnd UQ oQ UR LQ ({ frames := 0, cells := 0, slots := 0, locals := 0 } : Room).cells ({ frames := 0, cells := 0, slots := 0, locals := 0 } : Room).slots) := by
  refine MetFree.of_bodySF (Jvm.Free.JP.mathPlain rfl (by decide +kernel)) hisR ?_
  intro p e s m args below meth c s₁ Bd hml0 hP hK
  obtain ⟨rfl, hZ, hh⟩ := hP
  have hx := Bd.exec
  have hby := Bd.bytes
  have hlk := Bd.notSynchronized
  have hml : c.maxLocals = 6 := hml0
  have hown : s.vm.findClass "java/lang/Math" = some m.cls := findClass_of_methodNamed Bd.named
  have hnm := (name_of_methodNamed Bd.named Bd.method).1
  have X0 : Stand p l e ({ frames := 0, cells := 0, slots := 0, locals := 0 } : Room) s m #[(.long xx), (.long yy)] below meth c s₁ [] 0 0 := Stand.of_body Bd
  have e0 : s₁.heap = h0 := by rw [← hh, Bd.state]; rfl
  have N0 := Fr.nil n0
  show Go p e below _ (Done s (Q_rmF Z xx yy  h0 n0) ({ frames := 0, cells := 0, slots := 0, locals := 0 } : Room).cells ({ frames := 0, cells := 0, slots := 0, locals := 0 } : Room).slots)
  refine Go.via (fun tQ kQ => castTop (ef_10 m xx yy) kQ) ?_
  show Go p e below (s₁.setTop (mkF m 0 #[.val (.long xx), .second, .val (.long yy), .second, .unset, .unset] [])) _
  refine Go.via (fun _ => XS.lloadN X0.here hx rfl (hb hby d10_0) rfl) ?_
  refine Go.via (fun _ => XS.lloadN X0.here hx rfl (hb hby d10_1) rfl) ?_
  refine Go.via (fun _ => XS.lsub X0.here hx rfl (hb hby d10_2) rfl) ?_
  show Go p e below (s₁.setTop (mkF m 3 #[.val (.long xx), .second, .val (.long yy), .second, .unset, .unset] [(.long (xx - yy))])) _
  refine Go.via (fun _ => XS.lstore X0.here hx rfl (hb hby d10_3) rfl (l' := #[.val (.long xx), .second, .val (.long yy), .second, .val (.long (xx - yy)), .second]) rfl) ?_
  show Go p e below (s₁.setTop (mkF m 5 #[.val (.long xx), .second, .val (.long yy), .second, .val (.long (xx - yy)), .second] [])) _
  refine Go.via (fun _ => XS.lloadN X0.here hx rfl (hb hby d10_5) rfl) ?_
  refine Go.via (fun _ => XS.lloadN X0.here hx rfl (hb hby d10_6) rfl) ?_
  refine Go.via (fun _ => XS.lxor X0.here hx rfl (hb hby d10_7) rfl) ?_
  show Go p e below (s₁.setTop (mkF m 8 #[.val (.long xx), .second, .val (.long yy), .second, .val (.long (xx - yy)), .second] [(.long (xx ^^^ yy))])) _
  refine Go.via (fun _ => XS.lloadN X0.here hx rfl (hb hby d10_8) rfl) ?_
  refine Go.via (fun _ => XS.lload X0.here hx rfl (hb hby d10_9) rfl) ?_
  refine Go.via (fun _ => XS.lxor X0.here hx rfl (hb hby d10_11) rfl) ?_
  show Go p e below (s₁.setTop (mkF m 12 #[.val (.long xx), .second, .val (.long yy), .second, .val (.long (xx - yy)), .second] [(.long (xx ^^^ (xx - yy))), (.long (xx ^^^ yy))])) _
  refine Go.via (fun _ => XS.land X0.here hx rfl (hb hby d10_12) rfl) ?_
  show Go p e below (s₁.setTop (mkF m 13 #[.val (.long xx), .second, .val (.long yy), .second, .val (.long (xx - yy)), .second] [(.long ((xx ^^^ yy) &&& (xx ^^^ (xx - yy))))])) _
  refine Go.via (fun _ => XS.lconst X0.here hx rfl (hb hby d10_13)) ?_
  refine Go.via (fun _ => XS.lcmp X0.here hx rfl (hb hby d10_14) rfl) ?_
  show Go p e below (s₁.setTop (mkF m 15 #[.val (.long xx), .second, .val (.long yy), .second, .val (.long (xx - yy)), .second] [(.int (lcmpW ((xx ^^^ yy) &&& (xx ^^^ (xx - yy))) (0 : Int64)))])) _
  refine Go.via (fun _ => XS.ifYes X0.here hx rfl (pc0 := 15) (pc' := 28) rfl (hb hby d10_15) rfl ((if0 _ _).trans (flt ((own_subh hr_) : ¬ ((lcmpW ((xx ^^^ yy) &&& (xx ^^^ (xx - yy))) (0 : Int64)) < (0 : Int32)))).2.1) (by decide) (by decide)) ?_
  show Go p e below (s₁.setTop (mkF m 28 #[.val (.long xx), .second, .val (.long yy), .second, .val (.long (xx - yy)), .second] [])) _
  refine Go.via (fun _ => XS.lload X0.here hx rfl (hb hby d10_28) rfl) ?_
  exact Go.fin X0 hlk (v := some (.long (xx - yy))) (fun h => by rw [Bd.returns] at h; cases h) (fun fs hr => retOut X0 hx Bd.returns rfl (Or.inr (Or.inl ⟨rfl, rfl, _, rfl⟩)) (hb hby d10_30) hr) (by rw [e0]; exact ⟨rfl, N0, rfl⟩) (by decide) (by decide)
theorem d1_0 : decode prog_32_method_1_code 0 = .ok (.aload_n 0, 1) := by decide +kernel
theorem d1_1 : decode prog_32_method_1_code 1 = .ok (.invokespecial 1, 3) := by decide +kernel
theorem d1_4 : decode prog_32_method_1_code 4 = .ok (.aload_n 0, 1) := by decide +kernel
theorem d1_5 : decode prog_32_method_1_code 5 = .ok (.iload_n 1, 1) := by decide +kernel
theorem d1_6 : decode prog_32_method_1_code 6 = .ok (.newarray .long, 2) := by decide +kernel
theorem d1_8 : decode prog_32_method_1_code 8 = .ok (.putfield 7, 3) := by decide +kernel
theorem d1_11 : decode prog_32_method_1_code 11 = .ok (.return_, 1) := by decide +kernel
theorem pn_1 : plainName "com/example/libcosearch/libcosearch/ScoreSums" = true := by first | (simp [plainName, overriddenIn]; done) | decide +kernel
theorem ef_1 (m : MethodId) (x0 : Addr) (x1 : Int32) : entryFrame m #[(.ref x0), (.int x1)] 2 = mkF m 0 #[.val (.ref x0), .val (.int x1)] [] := by first | (simp [entryFrame, mkF, argsToLocals, Value.category]; done) | rfl
def Q_rmI (Z : State) (ob : Addr) (nn : Int32)  (h0 : Heap) (n0 : Nat) (vQ : Option Value) (hQ : Heap) (LQ : List Loc) : Prop := ∃ u : Addr, vQ = none ∧ Fr n0 LQ ∧ Keep h0 hQ [ob] ∧ h0.size ≤ u ∧ Exa Z hQ ob "com/example/libcosearch/libcosearch/ScoreSums" ∧ Fld Z hQ ob "com/example/libcosearch/libcosearch/ScoreSums" "units" "[J" (.ref u) ∧ Fld Z hQ ob "com/example/libcosearch/libcosearch/ScoreSums" "common" "J" (.long (0 : Int64)) ∧ Lg Z hQ u nn.toNatClampNeg z0
set_option maxRecDepth 65536 in
set_option maxHeartbeats 40000000 in
theorem rmI (l : Launch) (Z : State) (a0 : Array Value) (hw : ∀ d ∈ tables_1, d.before a0 Z = true) (ws : List Jvm.Cond) (ob : Addr) (nn : Int32)  (h0 : Heap) (n0 : Nat) (Z0 : n0 ≤ h0.size) (P0 : Exa Z h0 ob "com/example/libcosearch/libcosearch/ScoreSums") (P1 : Fld Z h0 ob "com/example/libcosearch/libcosearch/ScoreSums" "units" "[J" .null) (P2 : Fld Z h0 ob "com/example/libcosearch/libcosearch/ScoreSums" "common" "J" (.long (0 : Int64))) (g_ob : n0 ≤ ob) (hn_ : 1 ≤ nn.toInt ∧ nn.toInt ≤ 4) :
    MetFree l (⟨"com/example/libcosearch/libcosearch/ScoreSums", "<init>", "(I)V"⟩ : MethodName) (head1 (Jvm.Cond.code (⟨"com/example/libcosearch/libcosearch/ScoreSums", "<init>", "(I)V"⟩ : MethodName) prog_32_method_1_code 2 none :: ws) ({ frames := 1, cells := 1, slots := 4, locals := 12 } : Room)) (fun aQ UQ => aQ = #[(.ref ob), (.int nn)] ∧ Z.Warmed39 UQ.vm ∧ UQ.heap = h0) (fun _ _ _ _ _ => True) (fun _ UQ oQ UR => ∃ vQ LQ, oQ = .returned vQ ∧ Q_rmI Z ob nn  h0 n0 vQ UR.heap LQ ∧ FrameEnd UQ oQ UR LQ ({ frames := 1, cells := 1, slots := 4, locals := 12 } : Room).cells ({ frames := 1, cells := 1, slots := 4, locals := 12 } : Room).slots) := by
  refine MetFree.of_bodySF (plainFor_of_name pn_1) hisR ?_
  intro p e s m args below meth c s₁ Bd hml0 hP hK
  obtain ⟨rfl, hZ, hh⟩ := hP
  have hx := Bd.exec
  have hby := Bd.bytes
  have hlk := Bd.notSynchronized
  have hml : c.maxLocals = 2 := hml0
  have hown : s.vm.findClass "com/example/libcosearch/libcosearch/ScoreSums" = some m.cls := findClass_of_methodNamed Bd.named
  have hnm := (name_of_methodNamed Bd.named Bd.method).1
  have X0 : Stand p l e ({ frames := 1, cells := 1, slots := 4, locals := 12 } : Room) s m #[(.ref ob), (.int nn)] below meth c s₁ [] 0 0 := Stand.of_body Bd
  have e0 : s₁.heap = h0 := by rw [← hh, Bd.state]; rfl
  have N0 := Fr.nil n0
  show Go p e below _ (Done s (Q_rmI Z ob nn  h0 n0) ({ frames := 1, cells := 1, slots := 4, locals := 12 } : Room).cells ({ frames := 1, cells := 1, slots := 4, locals := 12 } : Room).slots)
  refine Go.via (fun tQ kQ => castTop (ef_1 m ob nn) kQ) ?_
  show Go p e below (s₁.setTop (mkF m 0 #[.val (.ref ob), .val (.int nn)] [])) _
  refine Go.via (fun _ => XS.aloadN X0.here hx rfl (hb hby d1_0) rfl rfl) ?_
  obtain ⟨T7, X7, e7, st7⟩ := initO X0 hx hZ hown (tw hw 7 rfl) (tw hw 8 rfl) (tw hw 9 rfl) e0 (g := (mkF m 1 #[.val (.ref ob), .val (.int nn)] [(.ref ob)])) rfl (by rw [hml]; rfl) rfl (hb hby d1_1) (by decide) (W := 0) (by show 2 * 0 + _ ≤ _; exact Nat.le_of_eq rfl) (by decide)
  refine Go.via (st7) ?_
  clear st7
  clear X0 e0
  show Go p e below (T7.setTop (mkF m 4 #[.val (.ref ob), .val (.int nn)] [])) _
  refine Go.via (fun _ => XS.aloadN X7.here hx rfl (hb hby d1_4) rfl rfl) ?_
  refine Go.via (fun _ => XS.iloadN X7.here hx rfl (hb hby d1_5) rfl) ?_
  obtain ⟨T8, h8, k8, X8, e8, E8, A8, B8, st8⟩ := newPE X7 hx hZ (tw hw 10 rfl) e7 (g := (mkF m 6 #[.val (.ref ob), .val (.int nn)] [(.int nn), (.ref ob)])) rfl (hb hby d1_6) rfl (own_cap hn_).1 (cap := 4) (own_cap hn_).2 (by decide) (by decide) (by decide) (ad := "[J") (by decide)
  obtain ⟨b8, g8⟩ : ∃ z, z = h0.size := ⟨_, rfl⟩
  rw [← g8] at A8 B8 st8
  have ne9 : ob ≠ b8 := Nat.ne_of_lt (Nat.lt_of_lt_of_le P0.lt (Nat.le_of_eq g8.symm))
  have ge10 : n0 ≤ b8 := Nat.le_trans Z0 (Nat.le_of_eq g8.symm)
  have sz11 : h0.size ≤ b8 := Nat.le_trans (Keep.refl h0 [ob]).1 (Nat.le_of_eq g8.symm)
  refine Go.via (st8) ?_
  clear st8
  have f12 : Lg Z h8 b8 nn.toNatClampNeg z0 := Lg.new A8
  clear X7 e7
  show Go p e below (T8.setTop (mkF m 8 #[.val (.ref ob), .val (.int nn)] [(.ref b8), (.ref ob)])) _
  have f13 : Fld Z h8 ob "com/example/libcosearch/libcosearch/ScoreSums" "units" "[J" .null := (P1.ext E8)
  have f14 : Exa Z h8 ob "com/example/libcosearch/libcosearch/ScoreSums" := (P0.ext E8)
  obtain ⟨T15, h15, X15, e15, W15, st15⟩ := putF X8 hx hZ hown (host := "") (Or.inl (tw hw 11 rfl)) Via.refl e8 f13 f14 (Or.inr ⟨(tw hw 12 rfl), rfl, hnm⟩) (tw hw 2 rfl) (ty := (.array .long)) (by decide) rfl rfl (g := (mkF m 8 #[.val (.ref ob), .val (.int nn)] [(.ref b8), (.ref ob)])) rfl rfl (hb hby d1_8)
  refine Go.via (st15) ?_
  clear st15
  have N15 := Fr.snoc X15 N0 g_ob
  have f16 : Fld Z h15 ob "com/example/libcosearch/libcosearch/ScoreSums" "units" "[J" (.ref b8) := f13.same W15
  clear X8 e8
  show Go p e below (T15.setTop (mkF m 11 #[.val (.ref ob), .val (.int nn)] [])) _
  have k17 : Keep h0 h15 [ob] := (((Keep.refl h0 [ob]).ext E8).wr W15 (Or.inl (List.mem_of_getElem? (i := 0) rfl)))
  have f18 : Exa Z h15 ob "com/example/libcosearch/libcosearch/ScoreSums" := (f14.wr W15)
  have f19 : Fld Z h15 ob "com/example/libcosearch/libcosearch/ScoreSums" "common" "J" (.long (0 : Int64)) := ((P2.ext E8).other W15 (Or.inr (slot_ne (Or.inl (tw hw 24 rfl)) (Or.inr (tw hw 12 rfl)) (by decide) (t := .long) (t' := (.array .long)) (by decide) (by decide))))
  have f20 : Lg Z h15 b8 nn.toNatClampNeg z0 := (f12.other W15 (Ne.symm ne9))
  exact Go.fin X15 hlk (v := none) (fun _ => rfl) (fun fs hr => X15.returnOut hx Bd.returns (hb hby d1_11) hr) (by rw [e15]; exact ⟨b8, rfl, N15, k17, sz11, f18, f16, f19, f20⟩) (by decide) (by decide)
theorem d4_0 : decode prog_32_method_2_code 0 = .ok (.aload_n 0, 1) := by decide +kernel
theorem d4_1 : decode prog_32_method_2_code 1 = .ok (.aload_n 0, 1) := by decide +kernel
theorem d4_2 : decode prog_32_method_2_code 2 = .ok (.getfield 13, 3) := by decide +kernel
theorem d4_5 : decode prog_32_method_2_code 5 = .ok (.dload_n 1, 1) := by decide +kernel
theorem d4_6 : decode prog_32_method_2_code 6 = .ok (.invokestatic 17, 3) := by decide +kernel
theorem d4_9 : decode prog_32_method_2_code 9 = .ok (.invokestatic 20, 3) := by decide +kernel
theorem pd__28JJ_29J : parseMethodDescriptor "(JJ)J" = some ⟨[.long, .long], some .long⟩ := by decide +kernel
theorem d4_12 : decode prog_32_method_2_code 12 = .ok (.putfield 13, 3) := by decide +kernel
theorem d4_15 : decode prog_32_method_2_code 15 = .ok (.return_, 1) := by decide +kernel
theorem pn_4 : plainName "com/example/libcosearch/libcosearch/ScoreSums" = true := by first | (simp [plainName, overriddenIn]; done) | decide +kernel
theorem ef_4 (m : MethodId) (x0 : Addr) (x1 : UInt64) : entryFrame m #[(.ref x0), (.double x1)] 3 = mkF m 0 #[.val (.ref x0), .val (.double x1), .second] [] := by first | (simp [entryFrame, mkF, argsToLocals, Value.category]; done) | rfl
def Q_rmT (Z : State) (ob : Addr) (av : UInt64) (u : Addr) (cm : Int64) (di : Int) (h0 : Heap) (n0 : Nat) (vQ : Option Value) (hQ : Heap) (LQ : List Loc) : Prop := ∃ w_ : Int64, vQ = none ∧ Fr n0 LQ ∧ Keep h0 hQ [ob] ∧ Exa Z hQ ob "com/example/libcosearch/libcosearch/ScoreSums" ∧ Fld Z hQ ob "com/example/libcosearch/libcosearch/ScoreSums" "units" "[J" (.ref u) ∧ Fld Z hQ ob "com/example/libcosearch/libcosearch/ScoreSums" "common" "J" (.long w_) ∧ (w_.toInt = di * 16777216)
set_option maxRecDepth 65536 in
set_option maxHeartbeats 40000000 in
theorem rmT (l : Launch) (Z : State) (a0 : Array Value) (hw : ∀ d ∈ tables_1, d.before a0 Z = true) (ws : List Jvm.Cond) (ob : Addr) (av : UInt64) (u : Addr) (cm : Int64) (di : Int) (h0 : Heap) (n0 : Nat) (Z0 : n0 ≤ h0.size) (P0 : Exa Z h0 ob "com/example/libcosearch/libcosearch/ScoreSums") (P1 : Fld Z h0 ob "com/example/libcosearch/libcosearch/ScoreSums" "units" "[J" (.ref u)) (P2 : Fld Z h0 ob "com/example/libcosearch/libcosearch/ScoreSums" "common" "J" (.long cm)) (g_ob : n0 ≤ ob) (hv : dv av di (-16)) (hd : di.natAbs ≤ 2147483648) (hcm : cm.toInt = 0) :
    MetFree l (⟨"com/example/libcosearch/libcosearch/ScoreSums", "addToEach", "(D)V"⟩ : MethodName) (head1 (Jvm.Cond.code (⟨"com/example/libcosearch/libcosearch/ScoreSums", "addToEach", "(D)V"⟩ : MethodName) prog_32_method_2_code 3 none :: ws) ({ frames := 3, cells := 0, slots := 0, locals := 77 } : Room)) (fun aQ UQ => aQ = #[(.ref ob), (.double av)] ∧ Z.Warmed39 UQ.vm ∧ UQ.heap = h0) (fun _ _ _ _ _ => True) (fun _ UQ oQ UR => ∃ vQ LQ, oQ = .returned vQ ∧ Q_rmT Z ob av u cm di h0 n0 vQ UR.heap LQ ∧ FrameEnd UQ oQ UR LQ ({ frames := 3, cells := 0, slots := 0, locals := 77 } : Room).cells ({ frames := 3, cells := 0, slots := 0, locals := 77 } : Room).slots) := by
  refine MetFree.of_bodySF (plainFor_of_name pn_4) hisR ?_
  intro p e s m args below meth c s₁ Bd hml0 hP hK
  obtain ⟨rfl, hZ, hh⟩ := hP
  have hx := Bd.exec
  have hby := Bd.bytes
  have hlk := Bd.notSynchronized
  have hml : c.maxLocals = 3 := hml0
  have hown : s.vm.findClass "com/example/libcosearch/libcosearch/ScoreSums" = some m.cls := findClass_of_methodNamed Bd.named
  have hnm := (name_of_methodNamed Bd.named Bd.method).1
  have X0 : Stand p l e ({ frames := 3, cells := 0, slots := 0, locals := 77 } : Room) s m #[(.ref ob), (.double av)] below meth c s₁ [] 0 0 := Stand.of_body Bd
  have e0 : s₁.heap = h0 := by rw [← hh, Bd.state]; rfl
  have N0 := Fr.nil n0
  show Go p e below _ (Done s (Q_rmT Z ob av u cm di h0 n0) ({ frames := 3, cells := 0, slots := 0, locals := 77 } : Room).cells ({ frames := 3, cells := 0, slots := 0, locals := 77 } : Room).slots)
  refine Go.via (fun tQ kQ => castTop (ef_4 m ob av) kQ) ?_
  show Go p e below (s₁.setTop (mkF m 0 #[.val (.ref ob), .val (.double av), .second] [])) _
  refine Go.via (fun _ => XS.aloadN X0.here hx rfl (hb hby d4_0) rfl rfl) ?_
  refine Go.via (fun _ => XS.aloadN X0.here hx rfl (hb hby d4_1) rfl rfl) ?_
  obtain ⟨T21, X21, e21, st21⟩ := getF X0 hx hZ hown (host := "") (Or.inl (tw hw 23 rfl)) Via.refl e0 P2 (g := (mkF m 2 #[.val (.ref ob), .val (.double av), .second] [(.ref ob), (.ref ob)])) rfl rfl (hb hby d4_2)
  refine Go.via (st21) ?_
  clear st21
  clear X0 e0
  show Go p e below (T21.setTop (mkF m 5 #[.val (.ref ob), .val (.double av), .second] [(.long cm), (.ref ob)])) _
  refine Go.via (fun _ => OwnKit.dloadN X21.here hx rfl (hb hby d4_5) rfl) ?_
  show Go p e below (T21.setTop (mkF m 6 #[.val (.ref ob), .val (.double av), .second] [(.double av), (.long cm), (.ref ob)])) _
  obtain ⟨r22, _, ⟨T22, L22, k22, n22⟩, -, X22, ⟨Lc22, hQ22, l22, y22, z22⟩, st22⟩ := Jvm.LawKit.callS X21 hx (y := (⟨"com/example/libcosearch/libcosearch/ScoreSums", "units", "(D)J"⟩ : MethodName)) hown (mvT hZ (tw hw 25 rfl)) (mvT hZ (tw hw 26 rfl)) (mvT hZ (tw hw 3 rfl)) (mvT hZ (tw hw 27 rfl)) (by decide) (backOf (W := 3) (rmU l Z a0 hw [] av di h0 n0 Z0 hv hd) hZ (tw hw 27 rfl) (tw hw 3 rfl) (by decide) (by decide)) (g := (mkF m 6 #[.val (.ref ob), .val (.double av), .second] [(.double av), (.long cm), (.ref ob)])) rfl (by rw [hml]; rfl) (argsL := [(.double av)]) (rest := [(.long cm), (.ref ob)]) (lenOf pd__28D_29J rfl) rfl (by show 2 * 0 + _ ≤ _; exact Nat.le_of_eq rfl) (hb hby d4_6) (fun _ _ => ⟨rfl, e21, (by decide : 0 + 0 ≤ _), (by decide : 0 + 0 ≤ _)⟩)
  dsimp only [Pt.U, Pt.locs, Pt.cells, Pt.slots] at X22 l22 y22 z22 st22 hQ22
  rw [l22, y22, z22] at X22
  clear l22 y22 z22
  obtain ⟨v23, hr22, N22q, eh22, qp24⟩ := hQ22
  rw [hr22] at st22
  clear hr22
  have N22 := Fr.app N0 N22q
  refine Go.via (st22) ?_
  clear st22
  have e22 : T22.heap = h0 := eh22
  clear X21 e21
  show Go p e below (T22.setTop (mkF m 9 #[.val (.ref ob), .val (.double av), .second] [(.long v23), (.long cm), (.ref ob)])) _
  obtain ⟨r25, _, ⟨T25, L25, k25, n25⟩, -, X25, ⟨Lc25, hQ25, l25, y25, z25⟩, st25⟩ := Jvm.LawKit.callS X22 hx (y := (⟨"java/lang/Math", "addExact", "(JJ)J"⟩ : MethodName)) hown (mvT hZ (tw hw 42 rfl)) (mvT hZ (tw hw 43 rfl)) (mvT hZ (tw hw 31 rfl)) (mvT hZ (tw hw 44 rfl)) (by decide) (backOf (W := 1) (rmE l Z a0 hw [] cm v23  h0 n0 Z0 (by rw [hcm, qp24]; omega)) hZ (tw hw 44 rfl) (tw hw 31 rfl) (by decide) (by decide)) (g := (mkF m 9 #[.val (.ref ob), .val (.double av), .second] [(.long v23), (.long cm), (.ref ob)])) rfl (by rw [hml]; rfl) (argsL := [(.long cm), (.long v23)]) (rest := [(.ref ob)]) (lenOf pd__28JJ_29J rfl) rfl (by show 2 * 0 + _ ≤ _; exact Nat.le_of_eq rfl) (hb hby d4_9) (fun _ _ => ⟨rfl, e22, (by decide : 0 + 0 ≤ _), (by decide : 0 + 0 ≤ _)⟩)
  dsimp only [Pt.U, Pt.locs, Pt.cells, Pt.slots] at X25 l25 y25 z25 st25 hQ25
  rw [l25, y25, z25] at X25
  clear l25 y25 z25
  obtain ⟨hr25, N25q, eh25⟩ := hQ25
  rw [hr25] at st25
  clear hr25
  have N25 := Fr.app N22 N25q
  refine Go.via (st25) ?_
  clear st25
  have e25 : T25.heap = h0 := eh25
  clear X22 e22
  show Go p e below (T25.setTop (mkF m 12 #[.val (.ref ob), .val (.double av), .second] [(.long (cm + v23)), (.ref ob)])) _
  obtain ⟨T26, h26, X26, e26, W26, st26⟩ := putF X25 hx hZ hown (host := "") (Or.inl (tw hw 23 rfl)) Via.refl e25 P2 P0 (Or.inl (tw hw 24 rfl)) (tw hw 2 rfl) (ty := .long) (by decide) rfl rfl (g := (mkF m 12 #[.val (.ref ob), .val (.double av), .second] [(.long (cm + v23)), (.ref ob)])) rfl rfl (hb hby d4_12)
  refine Go.via (st26) ?_
  clear st26
  have N26 := Fr.snoc X26 N25 g_ob
  have f27 : Fld Z h26 ob "com/example/libcosearch/libcosearch/ScoreSums" "common" "J" (.long (cm + v23)) := P2.same W26
  clear X25 e25
  show Go p e below (T26.setTop (mkF m 15 #[.val (.ref ob), .val (.double av), .second] [])) _
  have k28 : Keep h0 h26 [ob] := ((Keep.refl h0 [ob]).wr W26 (Or.inl (List.mem_of_getElem? (i := 0) rfl)))
  have f29 : Exa Z h26 ob "com/example/libcosearch/libcosearch/ScoreSums" := (P0.wr W26)
  have f30 : Fld Z h26 ob "com/example/libcosearch/libcosearch/ScoreSums" "units" "[J" (.ref u) := (P1.other W26 (Or.inr (slot_ne (Or.inr (tw hw 12 rfl)) (Or.inl (tw hw 24 rfl)) (by decide) (t := (.array .long)) (t' := .long) (by decide) (by decide))))
  exact Go.fin X26 hlk (v := none) (fun _ => rfl) (fun fs hr => X26.returnOut hx Bd.returns (hb hby d4_15) hr) (by rw [e26]; exact ⟨(cm + v23), rfl, N26, k28, f29, f30, f27, (by rw [own_addv (by rw [hcm, qp24]; omega), hcm, qp24]; omega)⟩) (by decide) (by decide)
theorem d8_0 : decode prog_32_method_3_code 0 = .ok (.aload_n 0, 1) := by decide +kernel
theorem d8_1 : decode prog_32_method_3_code 1 = .ok (.getfield 7, 3) := by decide +kernel
theorem d8_4 : decode prog_32_method_3_code 4 = .ok (.iload_n 1, 1) := by decide +kernel
theorem d8_5 : decode prog_32_method_3_code 5 = .ok (.aload_n 0, 1) := by decide +kernel
theorem d8_6 : decode prog_32_method_3_code 6 = .ok (.getfield 7, 3) := by decide +kernel
theorem d8_9 : decode prog_32_method_3_code 9 = .ok (.iload_n 1, 1) := by decide +kernel
theorem d8_10 : decode prog_32_method_3_code 10 = .ok (.laload, 1) := by decide +kernel
theorem d8_11 : decode prog_32_method_3_code 11 = .ok (.dload_n 2, 1) := by decide +kernel
theorem d8_12 : decode prog_32_method_3_code 12 = .ok (.invokestatic 17, 3) := by decide +kernel
theorem d8_15 : decode prog_32_method_3_code 15 = .ok (.invokestatic 20, 3) := by decide +kernel
theorem d8_18 : decode prog_32_method_3_code 18 = .ok (.lastore, 1) := by decide +kernel
theorem d8_19 : decode prog_32_method_3_code 19 = .ok (.return_, 1) := by decide +kernel
theorem pn_8 : plainName "com/example/libcosearch/libcosearch/ScoreSums" = true := by first | (simp [plainName, overriddenIn]; done) | decide +kernel
theorem ef_8 (m : MethodId) (x0 : Addr) (x1 : Int32) (x2 : UInt64) : entryFrame m #[(.ref x0), (.int x1), (.double x2)] 4 = mkF m 0 #[.val (.ref x0), .val (.int x1), .val (.double x2), .second] [] := by first | (simp [entryFrame, mkF, argsToLocals, Value.category]; done) | rfl
def Q_rmA (Z : State) (ob : Addr) (jx : Int32) (av : UInt64) (u : Addr) (nq : Nat) (fg : Nat → Int) (di : Int) (h0 : Heap) (n0 : Nat) (vQ : Option Value) (hQ : Heap) (LQ : List Loc) : Prop := vQ = none ∧ Fr n0 LQ ∧ Keep h0 hQ [u] ∧ Lg Z hQ u nq (upd fg jx di)
set_option maxRecDepth 65536 in
set_option maxHeartbeats 40000000 in
theorem rmA (l : Launch) (Z : State) (a0 : Array Value) (hw : ∀ d ∈ tables_1, d.before a0 Z = true) (ws : List Jvm.Cond) (ob : Addr) (jx : Int32) (av : UInt64) (u : Addr) (nq : Nat) (fg : Nat → Int) (di : Int) (h0 : Heap) (n0 : Nat) (Z0 : n0 ≤ h0.size) (P0 : Fld Z h0 ob "com/example/libcosearch/libcosearch/ScoreSums" "units" "[J" (.ref u)) (P1 : Lg Z h0 u nq fg) (g_u : n0 ≤ u) (hj : ¬ jx < 0) (hl : jx.toNatClampNeg < nq) (hv : dv av di (-16)) (hd : di.natAbs ≤ 2147483648) (hf : ∀ k, (fg k).natAbs ≤ 34359738368) :
    MetFree l (⟨"com/example/libcosearch/libcosearch/ScoreSums", "add", "(ID)V"⟩ : MethodName) (head1 (Jvm.Cond.code (⟨"com/example/libcosearch/libcosearch/ScoreSums", "add", "(ID)V"⟩ : MethodName) prog_32_method_3_code 4 none :: ws) ({ frames := 3, cells := 0, slots := 0, locals := 78 } : Room)) (fun aQ UQ => aQ = #[(.ref ob), (.int jx), (.double av)] ∧ Z.Warmed39 UQ.vm ∧ UQ.heap = h0) (fun _ _ _ _ _ => True) (fun _ UQ oQ UR => ∃ vQ LQ, oQ = .returned vQ ∧ Q_rmA Z ob jx av u nq fg di h0 n0 vQ UR.heap LQ ∧ FrameEnd UQ oQ UR LQ ({ frames := 3, cells := 0, slots := 0, locals := 78 } : Room).cells ({ frames := 3, cells := 0, slots := 0, locals := 78 } : Room).slots) := by
  refine MetFree.of_bodySF (plainFor_of_name pn_8) hisR ?_
  intro p e s m args below meth c s₁ Bd hml0 hP hK
  obtain ⟨rfl, hZ, hh⟩ := hP
  have hx := Bd.exec
  have hby := Bd.bytes
  have hlk := Bd.notSynchronized
  have hml : c.maxLocals = 4 := hml0
  have hown : s.vm.findClass "com/example/libcosearch/libcosearch/ScoreSums" = some m.cls := findClass_of_methodNamed Bd.named
  have hnm := (name_of_methodNamed Bd.named Bd.method).1
  have X0 : Stand p l e ({ frames := 3, cells := 0, slots := 0, locals := 78 } : Room) s m #[(.ref ob), (.int jx), (.double av)] below meth c s₁ [] 0 0 := Stand.of_body Bd
  have e0 : s₁.heap = h0 := by rw [← hh, Bd.state]; rfl
  have N0 := Fr.nil n0
  show Go p e below _ (Done s (Q_rmA Z ob jx av u nq fg di h0 n0) ({ frames := 3, cells := 0, slots := 0, locals := 78 } : Room).cells ({ frames := 3, cells := 0, slots := 0, locals := 78 } : Room).slots)
  refine Go.via (fun tQ kQ => castTop (ef_8 m ob jx av) kQ) ?_
  show Go p e below (s₁.setTop (mkF m 0 #[.val (.ref ob), .val (.int jx), .val (.double av), .second] [])) _
  refine Go.via (fun _ => XS.aloadN X0.here hx rfl (hb hby d8_0) rfl rfl) ?_
  obtain ⟨T31, X31, e31, st31⟩ := getF X0 hx hZ hown (host := "") (Or.inl (tw hw 11 rfl)) Via.refl e0 P0 (g := (mkF m 1 #[.val (.ref ob), .val (.int jx), .val (.double av), .second] [(.ref ob)])) rfl rfl (hb hby d8_1)
  refine Go.via (st31) ?_
  clear st31
  clear X0 e0
  show Go p e below (T31.setTop (mkF m 4 #[.val (.ref ob), .val (.int jx), .val (.double av), .second] [(.ref u)])) _
  refine Go.via (fun _ => XS.iloadN X31.here hx rfl (hb hby d8_4) rfl) ?_
  refine Go.via (fun _ => XS.aloadN X31.here hx rfl (hb hby d8_5) rfl rfl) ?_
  obtain ⟨T32, X32, e32, st32⟩ := getF X31 hx hZ hown (host := "") (Or.inl (tw hw 11 rfl)) Via.refl e31 P0 (g := (mkF m 6 #[.val (.ref ob), .val (.int jx), .val (.double av), .second] [(.ref ob), (.int jx), (.ref u)])) rfl rfl (hb hby d8_6)
  refine Go.via (st32) ?_
  clear st32
  clear X31 e31
  show Go p e below (T32.setTop (mkF m 9 #[.val (.ref ob), .val (.int jx), .val (.double av), .second] [(.ref u), (.int jx), (.ref u)])) _
  refine Go.via (fun _ => XS.iloadN X32.here hx rfl (hb hby d8_9) rfl) ?_
  obtain ⟨w33, hw33, st33⟩ := ldG X32 hx hZ e32 P1 (j := jx) hj hl (g := (mkF m 10 #[.val (.ref ob), .val (.int jx), .val (.double av), .second] [(.int jx), (.ref u), (.int jx), (.ref u)])) rfl rfl (hb hby d8_10)
  refine Go.via (st33) ?_
  clear st33
  show Go p e below (T32.setTop (mkF m 11 #[.val (.ref ob), .val (.int jx), .val (.double av), .second] [(.long w33), (.int jx), (.ref u)])) _
  refine Go.via (fun _ => OwnKit.dloadN X32.here hx rfl (hb hby d8_11) rfl) ?_
  show Go p e below (T32.setTop (mkF m 12 #[.val (.ref ob), .val (.int jx), .val (.double av), .second] [(.double av), (.long w33), (.int jx), (.ref u)])) _
  obtain ⟨r34, _, ⟨T34, L34, k34, n34⟩, -, X34, ⟨Lc34, hQ34, l34, y34, z34⟩, st34⟩ := Jvm.LawKit.callS X32 hx (y := (⟨"com/example/libcosearch/libcosearch/ScoreSums", "units", "(D)J"⟩ : MethodName)) hown (mvT hZ (tw hw 25 rfl)) (mvT hZ (tw hw 26 rfl)) (mvT hZ (tw hw 3 rfl)) (mvT hZ (tw hw 27 rfl)) (by decide) (backOf (W := 4) (rmU l Z a0 hw [] av di h0 n0 Z0 hv hd) hZ (tw hw 27 rfl) (tw hw 3 rfl) (by decide) (by decide)) (g := (mkF m 12 #[.val (.ref ob), .val (.int jx), .val (.double av), .second] [(.double av), (.long w33), (.int jx), (.ref u)])) rfl (by rw [hml]; rfl) (argsL := [(.double av)]) (rest := [(.long w33), (.int jx), (.ref u)]) (lenOf pd__28D_29J rfl) rfl (by show 2 * 0 + _ ≤ _; exact Nat.le_of_eq rfl) (hb hby d8_12) (fun _ _ => ⟨rfl, e32, (by decide : 0 + 0 ≤ _), (by decide : 0 + 0 ≤ _)⟩)
  dsimp only [Pt.U, Pt.locs, Pt.cells, Pt.slots] at X34 l34 y34 z34 st34 hQ34
  rw [l34, y34, z34] at X34
  clear l34 y34 z34
  obtain ⟨v35, hr34, N34q, eh34, qp36⟩ := hQ34
  rw [hr34] at st34
  clear hr34
  have N34 := Fr.app N0 N34q
  refine Go.via (st34) ?_
  clear st34
  have e34 : T34.heap = h0 := eh34
  clear X32 e32
  show Go p e below (T34.setTop (mkF m 15 #[.val (.ref ob), .val (.int jx), .val (.double av), .second] [(.long v35), (.long w33), (.int jx), (.ref u)])) _
  obtain ⟨r37, _, ⟨T37, L37, k37, n37⟩, -, X37, ⟨Lc37, hQ37, l37, y37, z37⟩, st37⟩ := Jvm.LawKit.callS X34 hx (y := (⟨"java/lang/Math", "addExact", "(JJ)J"⟩ : MethodName)) hown (mvT hZ (tw hw 42 rfl)) (mvT hZ (tw hw 43 rfl)) (mvT hZ (tw hw 31 rfl)) (mvT hZ (tw hw 44 rfl)) (by decide) (backOf (W := 2) (rmE l Z a0 hw [] w33 v35  h0 n0 Z0 (by have := hf jx.toNatClampNeg; rw [hw33, qp36]; omega)) hZ (tw hw 44 rfl) (tw hw 31 rfl) (by decide) (by decide)) (g := (mkF m 15 #[.val (.ref ob), .val (.int jx), .val (.double av), .second] [(.long v35), (.long w33), (.int jx), (.ref u)])) rfl (by rw [hml]; rfl) (argsL := [(.long w33), (.long v35)]) (rest := [(.int jx), (.ref u)]) (lenOf pd__28JJ_29J rfl) rfl (by show 2 * 0 + _ ≤ _; exact Nat.le_of_eq rfl) (hb hby d8_15) (fun _ _ => ⟨rfl, e34, (by decide : 0 + 0 ≤ _), (by decide : 0 + 0 ≤ _)⟩)
  dsimp only [Pt.U, Pt.locs, Pt.cells, Pt.slots] at X37 l37 y37 z37 st37 hQ37
  rw [l37, y37, z37] at X37
  clear l37 y37 z37
  obtain ⟨hr37, N37q, eh37⟩ := hQ37
  rw [hr37] at st37
  clear hr37
  have N37 := Fr.app N34 N37q
  refine Go.via (st37) ?_
  clear st37
  have e37 : T37.heap = h0 := eh37
  clear X34 e34
  show Go p e below (T37.setTop (mkF m 18 #[.val (.ref ob), .val (.int jx), .val (.double av), .second] [(.long (w33 + v35)), (.int jx), (.ref u)])) _
  obtain ⟨T38, h38, X38, e38, W38, V38, st38⟩ := stG X37 hx hZ e37 P1 (j := jx) (i := di) hj hl (by rw [own_addv (by have := hf jx.toNatClampNeg; rw [hw33, qp36]; omega), hw33, qp36]; omega) (g := (mkF m 18 #[.val (.ref ob), .val (.int jx), .val (.double av), .second] [(.long (w33 + v35)), (.int jx), (.ref u)])) rfl rfl (hb hby d8_18)
  refine Go.via (st38) ?_
  clear st38
  have N38 := Fr.snoc X38 N37 g_u
  have f39 : Lg Z h38 u nq (upd fg jx di) := V38
  clear X37 e37
  show Go p e below (T38.setTop (mkF m 19 #[.val (.ref ob), .val (.int jx), .val (.double av), .second] [])) _
  have k40 : Keep h0 h38 [u] := ((Keep.refl h0 [u]).wr W38 (Or.inl (List.mem_of_getElem? (i := 0) rfl)))
  exact Go.fin X38 hlk (v := none) (fun _ => rfl) (fun fs hr => X38.returnOut hx Bd.returns (hb hby d8_19) hr) (by rw [e38]; exact ⟨rfl, N38, k40, f39⟩) (by decide) (by decide)
theorem d9_0 : decode prog_32_method_4_code 0 = .ok (.aload_n 0, 1) := by decide +kernel
theorem d9_1 : decode prog_32_method_4_code 1 = .ok (.getfield 7, 3) := by decide +kernel
theorem d9_4 : decode prog_32_method_4_code 4 = .ok (.iload_n 1, 1) := by decide +kernel
theorem d9_5 : decode prog_32_method_4_code 5 = .ok (.aload_n 0, 1) := by decide +kernel
theorem d9_6 : decode prog_32_method_4_code 6 = .ok (.getfield 7, 3) := by decide +kernel
theorem d9_9 : decode prog_32_method_4_code 9 = .ok (.iload_n 1, 1) := by decide +kernel
theorem d9_10 : decode prog_32_method_4_code 10 = .ok (.laload, 1) := by decide +kernel
theorem d9_11 : decode prog_32_method_4_code 11 = .ok (.dload 4, 2) := by decide +kernel
theorem d9_13 : decode prog_32_method_4_code 13 = .ok (.invokestatic 17, 3) := by decide +kernel
theorem d9_16 : decode prog_32_method_4_code 16 = .ok (.dload_n 2, 1) := by decide +kernel
theorem d9_17 : decode prog_32_method_4_code 17 = .ok (.invokestatic 17, 3) := by decide +kernel
theorem d9_20 : decode prog_32_method_4_code 20 = .ok (.invokestatic 26, 3) := by decide +kernel
theorem d9_23 : decode prog_32_method_4_code 23 = .ok (.invokestatic 20, 3) := by decide +kernel
theorem d9_26 : decode prog_32_method_4_code 26 = .ok (.lastore, 1) := by decide +kernel
theorem d9_27 : decode prog_32_method_4_code 27 = .ok (.return_, 1) := by decide +kernel
theorem pn_9 : plainName "com/example/libcosearch/libcosearch/ScoreSums" = true := by first | (simp [plainName, overriddenIn]; done) | decide +kernel
theorem ef_9 (m : MethodId) (x0 : Addr) (x1 : Int32) (x2 : UInt64) (x3 : UInt64) : entryFrame m #[(.ref x0), (.int x1), (.double x2), (.double x3)] 6 = mkF m 0 #[.val (.ref x0), .val (.int x1), .val (.double x2), .second, .val (.double x3), .second] [] := by first | (simp [entryFrame, mkF, argsToLocals, Value.category]; done) | rfl
def Q_rmX (Z : State) (ob : Addr) (jx : Int32) (ov : UInt64) (nv : UInt64) (u : Addr) (nq : Nat) (fg : Nat → Int) (d1 : Int) (d2 : Int) (h0 : Heap) (n0 : Nat) (vQ : Option Value) (hQ : Heap) (LQ : List Loc) : Prop := vQ = none ∧ Fr n0 LQ ∧ Keep h0 hQ [u] ∧ Lg Z hQ u nq (upd fg jx (d2 - d1))
set_option maxRecDepth 65536 in
set_option maxHeartbeats 40000000 in
theorem rmX (l : Launch) (Z : State) (a0 : Array Value) (hw : ∀ d ∈ tables_1, d.before a0 Z = true) (ws : List Jvm.Cond) (ob : Addr) (jx : Int32) (ov : UInt64) (nv : UInt64) (u : Addr) (nq : Nat) (fg : Nat → Int) (d1 : Int) (d2 : Int) (h0 : Heap) (n0 : Nat) (Z0 : n0 ≤ h0.size) (P0 : Fld Z h0 ob "com/example/libcosearch/libcosearch/ScoreSums" "units" "[J" (.ref u)) (P1 : Lg Z h0 u nq fg) (g_u : n0 ≤ u) (hj : ¬ jx < 0) (hl : jx.toNatClampNeg < nq) (hv1 : dv ov d1 (-16)) (hd1 : d1.natAbs ≤ 2147483648) (hv2 : dv nv d2 (-16)) (hd2 : d2.natAbs ≤ 2147483648) (hf : ∀ k, (fg k).natAbs ≤ 34359738368) :
    MetFree l (⟨"com/example/libcosearch/libcosearch/ScoreSums", "replace", "(IDD)V"⟩ : MethodName) (head1 (Jvm.Cond.code (⟨"com/example/libcosearch/libcosearch/ScoreSums", "replace", "(IDD)V"⟩ : MethodName) prog_32_method_4_code 6 none :: ws) ({ frames := 3, cells := 0, slots := 0, locals := 80 } : Room)) (fun aQ UQ => aQ = #[(.ref ob), (.int jx), (.double ov), (.double nv)] ∧ Z.Warmed39 UQ.vm ∧ UQ.heap = h0) (fun _ _ _ _ _ => True) (fun _ UQ oQ UR => ∃ vQ LQ, oQ = .returned vQ ∧ Q_rmX Z ob jx ov nv u nq fg d1 d2 h0 n0 vQ UR.heap LQ ∧ FrameEnd UQ oQ UR LQ ({ frames := 3, cells := 0, slots := 0, locals := 80 } : Room).cells ({ frames := 3, cells := 0, slots := 0, locals := 80 } : Room).slots) := by
  refine MetFree.of_bodySF (plainFor_of_name pn_9) hisR ?_
  intro p e s m args below meth c s₁ Bd hml0 hP hK
  obtain ⟨rfl, hZ, hh⟩ := hP
  have hx := Bd.exec
  have hby := Bd.bytes
  have hlk := Bd.notSynchronized
  have hml : c.maxLocals = 6 := hml0
  have hown : s.vm.findClass "com/example/libcosearch/libcosearch/ScoreSums" = some m.cls := findClass_of_methodNamed Bd.named
  have hnm := (name_of_methodNamed Bd.named Bd.method).1
  have X0 : Stand p l e ({ frames := 3, cells := 0, slots := 0, locals := 80 } : Room) s m #[(.ref ob), (.int jx), (.double ov), (.double nv)] below meth c s₁ [] 0 0 := Stand.of_body Bd
  have e0 : s₁.heap = h0 := by rw [← hh, Bd.state]; rfl
  have N0 := Fr.nil n0
  show Go p e below _ (Done s (Q_rmX Z ob jx ov nv u nq fg d1 d2 h0 n0) ({ frames := 3, cells := 0, slots := 0, locals := 80 } : Room).cells ({ frames := 3, cells := 0, slots := 0, locals := 80 } : Room).slots)
  refine Go.via (fun tQ kQ => castTop (ef_9 m ob jx ov nv) kQ) ?_
  show Go p e below (s₁.setTop (mkF m 0 #[.val (.ref ob), .val (.int jx), .val (.double ov), .second, .val (.double nv), .second] [])) _
  refine Go.via (fun _ => XS.aloadN X0.here hx rfl (hb hby d9_0) rfl rfl) ?_
  obtain ⟨T41, X41, e41, st41⟩ := getF X0 hx hZ hown (host := "") (Or.inl (tw hw 11 rfl)) Via.refl e0 P0 (g := (mkF m 1 #[.val (.ref ob), .val (.int jx), .val (.double ov), .second, .val (.double nv), .second] [(.ref ob)])) rfl rfl (hb hby d9_1)
  refine Go.via (st41) ?_
  clear st41
  clear X0 e0
  show Go p e below (T41.setTop (mkF m 4 #[.val (.ref ob), .val (.int jx), .val (.double ov), .second, .val (.double nv), .second] [(.ref u)])) _
  refine Go.via (fun _ => XS.iloadN X41.here hx rfl (hb hby d9_4) rfl) ?_
  refine Go.via (fun _ => XS.aloadN X41.here hx rfl (hb hby d9_5) rfl rfl) ?_
  obtain ⟨T42, X42, e42, st42⟩ := getF X41 hx hZ hown (host := "") (Or.inl (tw hw 11 rfl)) Via.refl e41 P0 (g := (mkF m 6 #[.val (.ref ob), .val (.int jx), .val (.double ov), .second, .val (.double nv), .second] [(.ref ob), (.int jx), (.ref u)])) rfl rfl (hb hby d9_6)
  refine Go.via (st42) ?_
  clear st42
  clear X41 e41
  show Go p e below (T42.setTop (mkF m 9 #[.val (.ref ob), .val (.int jx), .val (.double ov), .second, .val (.double nv), .second] [(.ref u), (.int jx), (.ref u)])) _
  refine Go.via (fun _ => XS.iloadN X42.here hx rfl (hb hby d9_9) rfl) ?_
  obtain ⟨w43, hw43, st43⟩ := ldG X42 hx hZ e42 P1 (j := jx) hj hl (g := (mkF m 10 #[.val (.ref ob), .val (.int jx), .val (.double ov), .second, .val (.double nv), .second] [(.int jx), (.ref u), (.int jx), (.ref u)])) rfl rfl (hb hby d9_10)
  refine Go.via (st43) ?_
  clear st43
  show Go p e below (T42.setTop (mkF m 11 #[.val (.ref ob), .val (.int jx), .val (.double ov), .second, .val (.double nv), .second] [(.long w43), (.int jx), (.ref u)])) _
  refine Go.via (fun _ => OwnKit.dload X42.here hx rfl (hb hby d9_11) rfl) ?_
  show Go p e below (T42.setTop (mkF m 13 #[.val (.ref ob), .val (.int jx), .val (.double ov), .second, .val (.double nv), .second] [(.double nv), (.long w43), (.int jx), (.ref u)])) _
  obtain ⟨r44, _, ⟨T44, L44, k44, n44⟩, -, X44, ⟨Lc44, hQ44, l44, y44, z44⟩, st44⟩ := Jvm.LawKit.callS X42 hx (y := (⟨"com/example/libcosearch/libcosearch/ScoreSums", "units", "(D)J"⟩ : MethodName)) hown (mvT hZ (tw hw 25 rfl)) (mvT hZ (tw hw 26 rfl)) (mvT hZ (tw hw 3 rfl)) (mvT hZ (tw hw 27 rfl)) (by decide) (backOf (W := 4) (rmU l Z a0 hw [] nv d2 h0 n0 Z0 hv2 hd2) hZ (tw hw 27 rfl) (tw hw 3 rfl) (by decide) (by decide)) (g := (mkF m 13 #[.val (.ref ob), .val (.int jx), .val (.double ov), .second, .val (.double nv), .second] [(.double nv), (.long w43), (.int jx), (.ref u)])) rfl (by rw [hml]; rfl) (argsL := [(.double nv)]) (rest := [(.long w43), (.int jx), (.ref u)]) (lenOf pd__28D_29J rfl) rfl (by show 2 * 0 + _ ≤ _; exact Nat.le_of_eq rfl) (hb hby d9_13) (fun _ _ => ⟨rfl, e42, (by decide : 0 + 0 ≤ _), (by decide : 0 + 0 ≤ _)⟩)
  dsimp only [Pt.U, Pt.locs, Pt.cells, Pt.slots] at X44 l44 y44 z44 st44 hQ44
  rw [l44, y44, z44] at X44
  clear l44 y44 z44
  obtain ⟨v45, hr44, N44q, eh44, qp46⟩ := hQ44
  rw [hr44] at st44
  clear hr44
  have N44 := Fr.app N0 N44q
  refine Go.via (st44) ?_
  clear st44
  have e44 : T44.heap = h0 := eh44
  clear X42 e42
  show Go p e below (T44.setTop (mkF m 16 #[.val (.ref ob), .val (.int jx), .val (.double ov), .second, .val (.double nv), .second] [(.long v45), (.long w43), (.int jx), (.ref u)])) _
  refine Go.via (fun _ => OwnKit.dloadN X44.here hx rfl (hb hby d9_16) rfl) ?_
  show Go p e below (T44.setTop (mkF m 17 #[.val (.ref ob), .val (.int jx), .val (.double ov), .second, .val (.double nv), .second] [(.double ov), (.long v45), (.long w43), (.int jx), (.ref u)])) _
  obtain ⟨r47, _, ⟨T47, L47, k47, n47⟩, -, X47, ⟨Lc47, hQ47, l47, y47, z47⟩, st47⟩ := Jvm.LawKit.callS X44 hx (y := (⟨"com/example/libcosearch/libcosearch/ScoreSums", "units", "(D)J"⟩ : MethodName)) hown (mvT hZ (tw hw 25 rfl)) (mvT hZ (tw hw 26 rfl)) (mvT hZ (tw hw 3 rfl)) (mvT hZ (tw hw 27 rfl)) (by decide) (backOf (W := 6) (rmU l Z a0 hw [] ov d1 h0 n0 Z0 hv1 hd1) hZ (tw hw 27 rfl) (tw hw 3 rfl) (by decide) (by decide)) (g := (mkF m 17 #[.val (.ref ob), .val (.int jx), .val (.double ov), .second, .val (.double nv), .second] [(.double ov), (.long v45), (.long w43), (.int jx), (.ref u)])) rfl (by rw [hml]; rfl) (argsL := [(.double ov)]) (rest := [(.long v45), (.long w43), (.int jx), (.ref u)]) (lenOf pd__28D_29J rfl) rfl (by show 2 * 0 + _ ≤ _; exact Nat.le_of_eq rfl) (hb hby d9_17) (fun _ _ => ⟨rfl, e44, (by decide : 0 + 0 ≤ _), (by decide : 0 + 0 ≤ _)⟩)
  dsimp only [Pt.U, Pt.locs, Pt.cells, Pt.slots] at X47 l47 y47 z47 st47 hQ47
  rw [l47, y47, z47] at X47
  clear l47 y47 z47
  obtain ⟨v48, hr47, N47q, eh47, qp49⟩ := hQ47
  rw [hr47] at st47
  clear hr47
  have N47 := Fr.app N44 N47q
  refine Go.via (st47) ?_
  clear st47
  have e47 : T47.heap = h0 := eh47
  clear X44 e44
  show Go p e below (T47.setTop (mkF m 20 #[.val (.ref ob), .val (.int jx), .val (.double ov), .second, .val (.double nv), .second] [(.long v48), (.long v45), (.long w43), (.int jx), (.ref u)])) _
  obtain ⟨r50, _, ⟨T50, L50, k50, n50⟩, -, X50, ⟨Lc50, hQ50, l50, y50, z50⟩, st50⟩ := Jvm.LawKit.callS X47 hx (y := (⟨"java/lang/Math", "subtractExact", "(JJ)J"⟩ : MethodName)) hown (mvT hZ (tw hw 55 rfl)) (mvT hZ (tw hw 56 rfl)) (mvT hZ (tw hw 31 rfl)) (mvT hZ (tw hw 57 rfl)) (by decide) (backOf (W := 4) (rmF l Z a0 hw [] v45 v48  h0 n0 Z0 (by rw [qp46, qp49]; omega)) hZ (tw hw 57 rfl) (tw hw 31 rfl) (by decide) (by decide)) (g := (mkF m 20 #[.val (.ref ob), .val (.int jx), .val (.double ov), .second, .val (.double nv), .second] [(.long v48), (.long v45), (.long w43), (.int jx), (.ref u)])) rfl (by rw [hml]; rfl) (argsL := [(.long v45), (.long v48)]) (rest := [(.long w43), (.int jx), (.ref u)]) (lenOf pd__28JJ_29J rfl) rfl (by show 2 * 0 + _ ≤ _; exact Nat.le_of_eq rfl) (hb hby d9_20) (fun _ _ => ⟨rfl, e47, (by decide : 0 + 0 ≤ _), (by decide : 0 + 0 ≤ _)⟩)
  dsimp only [Pt.U, Pt.locs, Pt.cells, Pt.slots] at X50 l50 y50 z50 st50 hQ50
  rw [l50, y50, z50] at X50
  clear l50 y50 z50
  obtain ⟨hr50, N50q, eh50⟩ := hQ50
  rw [hr50] at st50
  clear hr50
  have N50 := Fr.app N47 N50q
  refine Go.via (st50) ?_
  clear st50
  have e50 : T50.heap = h0 := eh50
  clear X47 e47
  show Go p e below (T50.setTop (mkF m 23 #[.val (.ref ob), .val (.int jx), .val (.double ov), .second, .val (.double nv), .second] [(.long (v45 - v48)), (.long w43), (.int jx), (.ref u)])) _
  obtain ⟨r51, _, ⟨T51, L51, k51, n51⟩, -, X51, ⟨Lc51, hQ51, l51, y51, z51⟩, st51⟩ := Jvm.LawKit.callS X50 hx (y := (⟨"java/lang/Math", "addExact", "(JJ)J"⟩ : MethodName)) hown (mvT hZ (tw hw 42 rfl)) (mvT hZ (tw hw 43 rfl)) (mvT hZ (tw hw 31 rfl)) (mvT hZ (tw hw 44 rfl)) (by decide) (backOf (W := 2) (rmE l Z a0 hw [] w43 (v45 - v48)  h0 n0 Z0 (by have := hf jx.toNatClampNeg; rw [hw43, own_subv (by rw [qp46, qp49]; omega), qp46, qp49]; omega)) hZ (tw hw 44 rfl) (tw hw 31 rfl) (by decide) (by decide)) (g := (mkF m 23 #[.val (.ref ob), .val (.int jx), .val (.double ov), .second, .val (.double nv), .second] [(.long (v45 - v48)), (.long w43), (.int jx), (.ref u)])) rfl (by rw [hml]; rfl) (argsL := [(.long w43), (.long (v45 - v48))]) (rest := [(.int jx), (.ref u)]) (lenOf pd__28JJ_29J rfl) rfl (by show 2 * 0 + _ ≤ _; exact Nat.le_of_eq rfl) (hb hby d9_23) (fun _ _ => ⟨rfl, e50, (by decide : 0 + 0 ≤ _), (by decide : 0 + 0 ≤ _)⟩)
  dsimp only [Pt.U, Pt.locs, Pt.cells, Pt.slots] at X51 l51 y51 z51 st51 hQ51
  rw [l51, y51, z51] at X51
  clear l51 y51 z51
  obtain ⟨hr51, N51q, eh51⟩ := hQ51
  rw [hr51] at st51
  clear hr51
  have N51 := Fr.app N50 N51q
  refine Go.via (st51) ?_
  clear st51
  have e51 : T51.heap = h0 := eh51
  clear X50 e50
  show Go p e below (T51.setTop (mkF m 26 #[.val (.ref ob), .val (.int jx), .val (.double ov), .second, .val (.double nv), .second] [(.long (w43 + (v45 - v48))), (.int jx), (.ref u)])) _
  obtain ⟨T52, h52, X52, e52, W52, V52, st52⟩ := stG X51 hx hZ e51 P1 (j := jx) (i := (d2 - d1)) hj hl (by rw [own_addv (by have := hf jx.toNatClampNeg; rw [hw43, own_subv (by rw [qp46, qp49]; omega), qp46, qp49]; omega), hw43, own_subv (by rw [qp46, qp49]; omega), qp46, qp49]; omega) (g := (mkF m 26 #[.val (.ref ob), .val (.int jx), .val (.double ov), .second, .val (.double nv), .second] [(.long (w43 + (v45 - v48))), (.int jx), (.ref u)])) rfl rfl (hb hby d9_26)
  refine Go.via (st52) ?_
  clear st52
  have N52 := Fr.snoc X52 N51 g_u
  have f53 : Lg Z h52 u nq (upd fg jx (d2 - d1)) := V52
  clear X51 e51
  show Go p e below (T52.setTop (mkF m 27 #[.val (.ref ob), .val (.int jx), .val (.double ov), .second, .val (.double nv), .second] [])) _
  have k54 : Keep h0 h52 [u] := ((Keep.refl h0 [u]).wr W52 (Or.inl (List.mem_of_getElem? (i := 0) rfl)))
  exact Go.fin X52 hlk (v := none) (fun _ => rfl) (fun fs hr => X52.returnOut hx Bd.returns (hb hby d9_27) hr) (by rw [e52]; exact ⟨rfl, N52, k54, f53⟩) (by decide) (by decide)
theorem d11_0 : decode prog_32_method_5_code 0 = .ok (.aload_n 0, 1) := by decide +kernel
theorem d11_1 : decode prog_32_method_5_code 1 = .ok (.getfield 13, 3) := by decide +kernel
theorem d11_4 : decode prog_32_method_5_code 4 = .ok (.aload_n 0, 1) := by decide +kernel
theorem d11_5 : decode prog_32_method_5_code 5 = .ok (.getfield 7, 3) := by decide +kernel
theorem d11_8 : decode prog_32_method_5_code 8 = .ok (.iload_n 1, 1) := by decide +kernel
theorem d11_9 : decode prog_32_method_5_code 9 = .ok (.laload, 1) := by decide +kernel
theorem d11_10 : decode prog_32_method_5_code 10 = .ok (.invokestatic 20, 3) := by decide +kernel
theorem d11_13 : decode prog_32_method_5_code 13 = .ok (.l2d, 1) := by decide +kernel
theorem d11_14 : decode prog_32_method_5_code 14 = .ok (.ldc2_w 29, 3) := by decide +kernel
theorem d11_17 : decode prog_32_method_5_code 17 = .ok (.ddiv, 1) := by decide +kernel
theorem d11_18 : decode prog_32_method_5_code 18 = .ok (.dreturn, 1) := by decide +kernel
theorem pn_11 : plainName "com/example/libcosearch/libcosearch/ScoreSums" = true := by first | (simp [plainName, overriddenIn]; done) | decide +kernel
theorem ef_11 (m : MethodId) (x0 : Addr) (x1 : Int32) : entryFrame m #[(.ref x0), (.int x1)] 2 = mkF m 0 #[.val (.ref x0), .val (.int x1)] [] := by first | (simp [entryFrame, mkF, argsToLocals, Value.category]; done) | rfl
def Q_rmG (Z : State) (ob : Addr) (jx : Int32) (u : Addr) (nq : Nat) (fg : Nat → Int) (cm : Int64) (ci : Int) (h0 : Heap) (n0 : Nat) (vQ : Option Value) (hQ : Heap) (LQ : List Loc) : Prop := ∃ vv : UInt64, vQ = some (.double vv) ∧ Fr n0 LQ ∧ hQ = h0 ∧ (dv vv (ci + fg jx.toNatClampNeg) (-16))
set_option maxRecDepth 65536 in
set_option maxHeartbeats 40000000 in
theorem rmG (l : Launch) (Z : State) (a0 : Array Value) (hw : ∀ d ∈ tables_1, d.before a0 Z = true) (ws : List Jvm.Cond) (ob : Addr) (jx : Int32) (u : Addr) (nq : Nat) (fg : Nat → Int) (cm : Int64) (ci : Int) (h0 : Heap) (n0 : Nat) (Z0 : n0 ≤ h0.size) (P0 : Fld Z h0 ob "com/example/libcosearch/libcosearch/ScoreSums" "units" "[J" (.ref u)) (P1 : Fld Z h0 ob "com/example/libcosearch/libcosearch/ScoreSums" "common" "J" (.long cm)) (P2 : Lg Z h0 u nq fg) (hj : ¬ jx < 0) (hl : jx.toNatClampNeg < nq) (hcm : cm.toInt = ci * 16777216) (hci : ci.natAbs ≤ 2147483648) (hf : ∀ k, (fg k).natAbs ≤ 34359738368) :
    MetFree l (⟨"com/example/libcosearch/libcosearch/ScoreSums", "get", "(I)D"⟩ : MethodName) (head1 (Jvm.Cond.code (⟨"com/example/libcosearch/libcosearch/ScoreSums", "get", "(I)D"⟩ : MethodName) prog_32_method_5_code 2 (some .double) :: ws) ({ frames := 1, cells := 0, slots := 0, locals := 17 } : Room)) (fun aQ UQ => aQ = #[(.ref ob), (.int jx)] ∧ Z.Warmed39 UQ.vm ∧ UQ.heap = h0) (fun _ _ _ _ _ => True) (fun _ UQ oQ UR => ∃ vQ LQ, oQ = .returned vQ ∧ Q_rmG Z ob jx u nq fg cm ci h0 n0 vQ UR.heap LQ ∧ FrameEnd UQ oQ UR LQ ({ frames := 1, cells := 0, slots := 0, locals := 17 } : Room).cells ({ frames := 1, cells := 0, slots := 0, locals := 17 } : Room).slots) := by
  refine MetFree.of_bodySF (plainFor_of_name pn_11) hisR ?_
  intro p e s m args below meth c s₁ Bd hml0 hP hK
  obtain ⟨rfl, hZ, hh⟩ := hP
  have hx := Bd.exec
  have hby := Bd.bytes
  have hlk := Bd.notSynchronized
  have hml : c.maxLocals = 2 := hml0
  have hown : s.vm.findClass "com/example/libcosearch/libcosearch/ScoreSums" = some m.cls := findClass_of_methodNamed Bd.named
  have hnm := (name_of_methodNamed Bd.named Bd.method).1
  have X0 : Stand p l e ({ frames := 1, cells := 0, slots := 0, locals := 17 } : Room) s m #[(.ref ob), (.int jx)] below meth c s₁ [] 0 0 := Stand.of_body Bd
  have e0 : s₁.heap = h0 := by rw [← hh, Bd.state]; rfl
  have N0 := Fr.nil n0
  show Go p e below _ (Done s (Q_rmG Z ob jx u nq fg cm ci h0 n0) ({ frames := 1, cells := 0, slots := 0, locals := 17 } : Room).cells ({ frames := 1, cells := 0, slots := 0, locals := 17 } : Room).slots)
  refine Go.via (fun tQ kQ => castTop (ef_11 m ob jx) kQ) ?_
  show Go p e below (s₁.setTop (mkF m 0 #[.val (.ref ob), .val (.int jx)] [])) _
  refine Go.via (fun _ => XS.aloadN X0.here hx rfl (hb hby d11_0) rfl rfl) ?_
  obtain ⟨T55, X55, e55, st55⟩ := getF X0 hx hZ hown (host := "") (Or.inl (tw hw 23 rfl)) Via.refl e0 P1 (g := (mkF m 1 #[.val (.ref ob), .val (.int jx)] [(.ref ob)])) rfl rfl (hb hby d11_1)
  refine Go.via (st55) ?_
  clear st55
  clear X0 e0
  show Go p e below (T55.setTop (mkF m 4 #[.val (.ref ob), .val (.int jx)] [(.long cm)])) _
  refine Go.via (fun _ => XS.aloadN X55.here hx rfl (hb hby d11_4) rfl rfl) ?_
  obtain ⟨T56, X56, e56, st56⟩ := getF X55 hx hZ hown (host := "") (Or.inl (tw hw 11 rfl)) Via.refl e55 P0 (g := (mkF m 5 #[.val (.ref ob), .val (.int jx)] [(.ref ob), (.long cm)])) rfl rfl (hb hby d11_5)
  refine Go.via (st56) ?_
  clear st56
  clear X55 e55
  show Go p e below (T56.setTop (mkF m 8 #[.val (.ref ob), .val (.int jx)] [(.ref u), (.long cm)])) _
  refine Go.via (fun _ => XS.iloadN X56.here hx rfl (hb hby d11_8) rfl) ?_
  obtain ⟨w57, hw57, st57⟩ := ldG X56 hx hZ e56 P2 (j := jx) hj hl (g := (mkF m 9 #[.val (.ref ob), .val (.int jx)] [(.int jx), (.ref u), (.long cm)])) rfl rfl (hb hby d11_9)
  refine Go.via (st57) ?_
  clear st57
  show Go p e below (T56.setTop (mkF m 10 #[.val (.ref ob), .val (.int jx)] [(.long w57), (.long cm)])) _
  obtain ⟨r58, _, ⟨T58, L58, k58, n58⟩, -, X58, ⟨Lc58, hQ58, l58, y58, z58⟩, st58⟩ := Jvm.LawKit.callS X56 hx (y := (⟨"java/lang/Math", "addExact", "(JJ)J"⟩ : MethodName)) hown (mvT hZ (tw hw 42 rfl)) (mvT hZ (tw hw 43 rfl)) (mvT hZ (tw hw 31 rfl)) (mvT hZ (tw hw 44 rfl)) (by decide) (backOf (W := 0) (rmE l Z a0 hw [] cm w57  h0 n0 Z0 (by have := hf jx.toNatClampNeg; rw [hcm, hw57]; omega)) hZ (tw hw 44 rfl) (tw hw 31 rfl) (by decide) (by decide)) (g := (mkF m 10 #[.val (.ref ob), .val (.int jx)] [(.long w57), (.long cm)])) rfl (by rw [hml]; rfl) (argsL := [(.long cm), (.long w57)]) (rest := []) (lenOf pd__28JJ_29J rfl) rfl (by show 2 * 0 + _ ≤ _; exact Nat.le_of_eq rfl) (hb hby d11_10) (fun _ _ => ⟨rfl, e56, (by decide : 0 + 0 ≤ _), (by decide : 0 + 0 ≤ _)⟩)
  dsimp only [Pt.U, Pt.locs, Pt.cells, Pt.slots] at X58 l58 y58 z58 st58 hQ58
  rw [l58, y58, z58] at X58
  clear l58 y58 z58
  obtain ⟨hr58, N58q, eh58⟩ := hQ58
  rw [hr58] at st58
  clear hr58
  have N58 := Fr.app N0 N58q
  refine Go.via (st58) ?_
  clear st58
  have e58 : T58.heap = h0 := eh58
  clear X56 e56
  show Go p e below (T58.setTop (mkF m 13 #[.val (.ref ob), .val (.int jx)] [(.long (cm + w57))])) _
  have hgv : dv (FP.ddiv (FP.l2d (cm + w57)) (4787326403894837248 : UInt64)) (ci + fg jx.toNatClampNeg) (-16) := own_gv (by rw [own_addv (by have := hf jx.toNatClampNeg; rw [hcm, hw57]; omega), hcm, hw57]; omega) (by have := hf jx.toNatClampNeg; omega)
  refine Go.via (fun _ => OwnKit.l2d X58.here hx rfl (hb hby d11_13) rfl) ?_
  show Go p e below (T58.setTop (mkF m 14 #[.val (.ref ob), .val (.int jx)] [(.double (FP.l2d (cm + w57)))])) _
  refine Go.via (X58.ldc2DoubleC hx hown (mvT hZ (tw hw 28 rfl)) (g := (mkF m 14 #[.val (.ref ob), .val (.int jx)] [(.double (FP.l2d (cm + w57)))])) rfl (hb hby d11_14)) ?_
  show Go p e below (T58.setTop (mkF m 17 #[.val (.ref ob), .val (.int jx)] [(.double (4787326403894837248 : UInt64)), (.double (FP.l2d (cm + w57)))])) _
  refine Go.via (fun _ => OwnKit.ddiv X58.here hx rfl (hb hby d11_17) rfl (own_nn (by rw [hgv]; exact cn_fin _ _))) ?_
  show Go p e below (T58.setTop (mkF m 18 #[.val (.ref ob), .val (.int jx)] [(.double (FP.ddiv (FP.l2d (cm + w57)) (4787326403894837248 : UInt64)))])) _
  exact Go.fin X58 hlk (v := some (.double (FP.ddiv (FP.l2d (cm + w57)) (4787326403894837248 : UInt64)))) (fun h => by rw [Bd.returns] at h; cases h) (fun fs hr => retOut X58 hx Bd.returns rfl (Or.inr (Or.inr (Or.inl ⟨rfl, rfl, _, rfl⟩))) (hb hby d11_18) hr) (by rw [e58]; exact ⟨(FP.ddiv (FP.l2d (cm + w57)) (4787326403894837248 : UInt64)), rfl, N58, rfl, hgv⟩) (by decide) (by decide)
theorem d12_0 : decode method_4_code 0 = .ok (.iload 5, 2) := by decide +kernel
theorem d12_2 : decode method_4_code 2 = .ok (.i2l, 1) := by decide +kernel
theorem d12_3 : decode method_4_code 3 = .ok (.lstore 6, 2) := by decide +kernel
theorem d12_5 : decode method_4_code 5 = .ok (.iload_n 0, 1) := by decide +kernel
theorem d12_6 : decode method_4_code 6 = .ok (.iload_n 1, 1) := by decide +kernel
theorem d12_7 : decode method_4_code 7 = .ok (.if_icmp .ne 10, 3) := by decide +kernel
theorem d12_10 : decode method_4_code 10 = .ok (.lload 6, 2) := by decide +kernel
theorem d12_12 : decode method_4_code 12 = .ok (.iload_n 3, 1) := by decide +kernel
theorem d12_13 : decode method_4_code 13 = .ok (.i2l, 1) := by decide +kernel
theorem d12_14 : decode method_4_code 14 = .ok (.ladd, 1) := by decide +kernel
theorem d12_15 : decode method_4_code 15 = .ok (.lstore 6, 2) := by decide +kernel
theorem d12_17 : decode method_4_code 17 = .ok (.iload_n 0, 1) := by decide +kernel
theorem d12_18 : decode method_4_code 18 = .ok (.iload_n 2, 1) := by decide +kernel
theorem d12_19 : decode method_4_code 19 = .ok (.if_icmp .ne 15, 3) := by decide +kernel
theorem d12_22 : decode method_4_code 22 = .ok (.lload 6, 2) := by decide +kernel
theorem d12_24 : decode method_4_code 24 = .ok (.iload 4, 2) := by decide +kernel
theorem d12_26 : decode method_4_code 26 = .ok (.i2l, 1) := by decide +kernel
theorem d12_27 : decode method_4_code 27 = .ok (.ladd, 1) := by decide +kernel
theorem d12_28 : decode method_4_code 28 = .ok (.iload 5, 2) := by decide +kernel
theorem d12_30 : decode method_4_code 30 = .ok (.i2l, 1) := by decide +kernel
theorem d12_31 : decode method_4_code 31 = .ok (.lsub, 1) := by decide +kernel
theorem d12_32 : decode method_4_code 32 = .ok (.lstore 6, 2) := by decide +kernel
theorem d12_34 : decode method_4_code 34 = .ok (.lload 6, 2) := by decide +kernel
theorem d12_36 : decode method_4_code 36 = .ok (.l2d, 1) := by decide +kernel
theorem d12_37 : decode method_4_code 37 = .ok (.ldc2_w 38, 3) := by decide +kernel
theorem d12_40 : decode method_4_code 40 = .ok (.ddiv, 1) := by decide +kernel
theorem d12_41 : decode method_4_code 41 = .ok (.dreturn, 1) := by decide +kernel
theorem pn_12 : plainName "com/example/libcosearch/libcosearch/ScoreSumsGetPinLaw" = true := by first | (simp [plainName, overriddenIn]; done) | decide +kernel
theorem ef_12 (m : MethodId) (x0 : Int32) (x1 : Int32) (x2 : Int32) (x3 : Int32) (x4 : Int32) (x5 : Int32) : entryFrame m #[(.int x0), (.int x1), (.int x2), (.int x3), (.int x4), (.int x5)] 8 = mkF m 0 #[.val (.int x0), .val (.int x1), .val (.int x2), .val (.int x3), .val (.int x4), .val (.int x5), .unset, .unset] [] := by first | (simp [entryFrame, mkF, argsToLocals, Value.category]; done) | rfl
def Q_rmQ (Z : State) (xx : Int32) (ix : Int32) (jx : Int32) (aa : Int32) (bb : Int32) (cc : Int32)  (h0 : Heap) (n0 : Nat) (vQ : Option Value) (hQ : Heap) (LQ : List Loc) : Prop := ∃ vv : UInt64, vQ = some (.double vv) ∧ Fr n0 LQ ∧ hQ = h0 ∧ (dv vv (exq xx ix jx aa bb cc) (-16))
set_option maxRecDepth 65536 in
set_option maxHeartbeats 40000000 in
theorem rmQ (l : Launch) (Z : State) (a0 : Array Value) (hw : ∀ d ∈ tables_1, d.before a0 Z = true) (ws : List Jvm.Cond) (xx : Int32) (ix : Int32) (jx : Int32) (aa : Int32) (bb : Int32) (cc : Int32)  (h0 : Heap) (n0 : Nat) (Z0 : n0 ≤ h0.size) :
    MetFree l (⟨"com/example/libcosearch/libcosearch/ScoreSumsGetPinLaw", "expected", "(IIIIII)D"⟩ : MethodName) (head1 (Jvm.Cond.code (⟨"com/example/libcosearch/libcosearch/ScoreSumsGetPinLaw", "expected", "(IIIIII)D"⟩ : MethodName) method_4_code 8 (some .double) :: ws) ({ frames := 0, cells := 0, slots := 0, locals := 0 } : Room)) (fun aQ UQ => aQ = #[(.int xx), (.int ix), (.int jx), (.int aa), (.int bb), (.int cc)] ∧ Z.Warmed39 UQ.vm ∧ UQ.heap = h0) (fun _ _ _ _ _ => True) (fun _ UQ oQ UR => ∃ vQ LQ, oQ = .returned vQ ∧ Q_rmQ Z xx ix jx aa bb cc  h0 n0 vQ UR.heap LQ ∧ FrameEnd UQ oQ UR LQ ({ frames := 0, cells := 0, slots := 0, locals := 0 } : Room).cells ({ frames := 0, cells := 0, slots := 0, locals := 0 } : Room).slots) := by
  refine MetFree.of_bodySF (plainFor_of_name pn_12) hisR ?_
  intro p e s m args below meth c s₁ Bd hml0 hP hK
  obtain ⟨rfl, hZ, hh⟩ := hP
  have hx := Bd.exec
  have hby := Bd.bytes
  have hlk := Bd.notSynchronized
  have hml : c.maxLocals = 8 := hml0
  have hown : s.vm.findClass "com/example/libcosearch/libcosearch/ScoreSumsGetPinLaw" = some m.cls := findClass_of_methodNamed Bd.named
  have hnm := (name_of_methodNamed Bd.named Bd.method).1
  have X0 : Stand p l e ({ frames := 0, cells := 0, slots := 0, locals := 0 } : Room) s m #[(.int xx), (.int ix), (.int jx), (.int aa), (.int bb), (.int cc)] below meth c s₁ [] 0 0 := Stand.of_body Bd
  have e0 : s₁.heap = h0 := by rw [← hh, Bd.state]; rfl
  have N0 := Fr.nil n0
  show Go p e below _ (Done s (Q_rmQ Z xx ix jx aa bb cc  h0 n0) ({ frames := 0, cells := 0, slots := 0, locals := 0 } : Room).cells ({ frames := 0, cells := 0, slots := 0, locals := 0 } : Room).slots)
  refine Go.via (fun tQ kQ => castTop (ef_12 m xx ix jx aa bb cc) kQ) ?_
  show Go p e below (s₁.setTop (mkF m 0 #[.val (.int xx), .val (.int ix), .val (.int jx), .val (.int aa), .val (.int bb), .val (.int cc), .unset, .unset] [])) _
  refine Go.via (fun _ => XS.iload X0.here hx rfl (hb hby d12_0) rfl) ?_
  refine Go.via (fun _ => XS.i2l X0.here hx rfl (hb hby d12_2) rfl) ?_
  show Go p e below (s₁.setTop (mkF m 3 #[.val (.int xx), .val (.int ix), .val (.int jx), .val (.int aa), .val (.int bb), .val (.int cc), .unset, .unset] [(.long (cc.toInt64))])) _
  refine Go.via (fun _ => XS.lstore X0.here hx rfl (hb hby d12_3) rfl (l' := #[.val (.int xx), .val (.int ix), .val (.int jx), .val (.int aa), .val (.int bb), .val (.int cc), .val (.long (cc.toInt64)), .second]) rfl) ?_
  show Go p e below (s₁.setTop (mkF m 5 #[.val (.int xx), .val (.int ix), .val (.int jx), .val (.int aa), .val (.int bb), .val (.int cc), .val (.long (cc.toInt64)), .second] [])) _
  refine Go.via (fun _ => XS.iloadN X0.here hx rfl (hb hby d12_5) rfl) ?_
  refine Go.via (fun _ => XS.iloadN X0.here hx rfl (hb hby d12_6) rfl) ?_
  by_cases hc59 : xx = ix
  · refine Go.via (fun _ => XS.icmpNo X0.here hx rfl (hb hby d12_7) rfl (teq (hc59 : xx = ix)).2) ?_
    refine Go.via (fun _ => XS.lload X0.here hx rfl (hb hby d12_10) rfl) ?_
    refine Go.via (fun _ => XS.iloadN X0.here hx rfl (hb hby d12_12) rfl) ?_
    show Go p e below (s₁.setTop (mkF m 13 #[.val (.int xx), .val (.int ix), .val (.int jx), .val (.int aa), .val (.int bb), .val (.int cc), .val (.long (cc.toInt64)), .second] [(.int aa), (.long (cc.toInt64))])) _
    refine Go.via (fun _ => XS.i2l X0.here hx rfl (hb hby d12_13) rfl) ?_
    show Go p e below (s₁.setTop (mkF m 14 #[.val (.int xx), .val (.int ix), .val (.int jx), .val (.int aa), .val (.int bb), .val (.int cc), .val (.long (cc.toInt64)), .second] [(.long (aa.toInt64)), (.long (cc.toInt64))])) _
    refine Go.via (fun _ => XS.ladd X0.here hx rfl (hb hby d12_14) rfl) ?_
    show Go p e below (s₁.setTop (mkF m 15 #[.val (.int xx), .val (.int ix), .val (.int jx), .val (.int aa), .val (.int bb), .val (.int cc), .val (.long (cc.toInt64)), .second] [(.long ((cc.toInt64) + (aa.toInt64)))])) _
    refine Go.via (fun _ => XS.lstore X0.here hx rfl (hb hby d12_15) rfl (l' := #[.val (.int xx), .val (.int ix), .val (.int jx), .val (.int aa), .val (.int bb), .val (.int cc), .val (.long ((cc.toInt64) + (aa.toInt64))), .second]) rfl) ?_
    show Go p e below (s₁.setTop (mkF m 17 #[.val (.int xx), .val (.int ix), .val (.int jx), .val (.int aa), .val (.int bb), .val (.int cc), .val (.long ((cc.toInt64) + (aa.toInt64))), .second] [])) _
    refine Go.via (fun _ => XS.iloadN X0.here hx rfl (hb hby d12_17) rfl) ?_
    refine Go.via (fun _ => XS.iloadN X0.here hx rfl (hb hby d12_18) rfl) ?_
    by_cases hc60 : xx = jx
    · refine Go.via (fun _ => XS.icmpNo X0.here hx rfl (hb hby d12_19) rfl (teq (hc60 : xx = jx)).2) ?_
      refine Go.via (fun _ => XS.lload X0.here hx rfl (hb hby d12_22) rfl) ?_
      refine Go.via (fun _ => XS.iload X0.here hx rfl (hb hby d12_24) rfl) ?_
      show Go p e below (s₁.setTop (mkF m 26 #[.val (.int xx), .val (.int ix), .val (.int jx), .val (.int aa), .val (.int bb), .val (.int cc), .val (.long ((cc.toInt64) + (aa.toInt64))), .second] [(.int bb), (.long ((cc.toInt64) + (aa.toInt64)))])) _
      refine Go.via (fun _ => XS.i2l X0.here hx rfl (hb hby d12_26) rfl) ?_
      show Go p e below (s₁.setTop (mkF m 27 #[.val (.int xx), .val (.int ix), .val (.int jx), .val (.int aa), .val (.int bb), .val (.int cc), .val (.long ((cc.toInt64) + (aa.toInt64))), .second] [(.long (bb.toInt64)), (.long ((cc.toInt64) + (aa.toInt64)))])) _
      refine Go.via (fun _ => XS.ladd X0.here hx rfl (hb hby d12_27) rfl) ?_
      show Go p e below (s₁.setTop (mkF m 28 #[.val (.int xx), .val (.int ix), .val (.int jx), .val (.int aa), .val (.int bb), .val (.int cc), .val (.long ((cc.toInt64) + (aa.toInt64))), .second] [(.long (((cc.toInt64) + (aa.toInt64)) + (bb.toInt64)))])) _
      refine Go.via (fun _ => XS.iload X0.here hx rfl (hb hby d12_28) rfl) ?_
      refine Go.via (fun _ => XS.i2l X0.here hx rfl (hb hby d12_30) rfl) ?_
      show Go p e below (s₁.setTop (mkF m 31 #[.val (.int xx), .val (.int ix), .val (.int jx), .val (.int aa), .val (.int bb), .val (.int cc), .val (.long ((cc.toInt64) + (aa.toInt64))), .second] [(.long (cc.toInt64)), (.long (((cc.toInt64) + (aa.toInt64)) + (bb.toInt64)))])) _
      refine Go.via (fun _ => XS.lsub X0.here hx rfl (hb hby d12_31) rfl) ?_
      show Go p e below (s₁.setTop (mkF m 32 #[.val (.int xx), .val (.int ix), .val (.int jx), .val (.int aa), .val (.int bb), .val (.int cc), .val (.long ((cc.toInt64) + (aa.toInt64))), .second] [(.long ((((cc.toInt64) + (aa.toInt64)) + (bb.toInt64)) - (cc.toInt64)))])) _
      refine Go.via (fun _ => XS.lstore X0.here hx rfl (hb hby d12_32) rfl (l' := #[.val (.int xx), .val (.int ix), .val (.int jx), .val (.int aa), .val (.int bb), .val (.int cc), .val (.long ((((cc.toInt64) + (aa.toInt64)) + (bb.toInt64)) - (cc.toInt64))), .second]) rfl) ?_
      show Go p e below (s₁.setTop (mkF m 34 #[.val (.int xx), .val (.int ix), .val (.int jx), .val (.int aa), .val (.int bb), .val (.int cc), .val (.long ((((cc.toInt64) + (aa.toInt64)) + (bb.toInt64)) - (cc.toInt64))), .second] [])) _
      refine Go.via (fun _ => XS.lload X0.here hx rfl (hb hby d12_34) rfl) ?_
      show Go p e below (s₁.setTop (mkF m 36 #[.val (.int xx), .val (.int ix), .val (.int jx), .val (.int aa), .val (.int bb), .val (.int cc), .val (.long ((((cc.toInt64) + (aa.toInt64)) + (bb.toInt64)) - (cc.toInt64))), .second] [(.long ((((cc.toInt64) + (aa.toInt64)) + (bb.toInt64)) - (cc.toInt64)))])) _
      have hev : dv (FP.ddiv (FP.l2d ((((cc.toInt64) + (aa.toInt64)) + (bb.toInt64)) - (cc.toInt64))) (4679240012837945344 : UInt64)) (exq xx ix jx aa bb cc) (-16) := own_exv (own_ex3 hc59 hc60) own_exb
      refine Go.via (fun _ => OwnKit.l2d X0.here hx rfl (hb hby d12_36) rfl) ?_
      show Go p e below (s₁.setTop (mkF m 37 #[.val (.int xx), .val (.int ix), .val (.int jx), .val (.int aa), .val (.int bb), .val (.int cc), .val (.long ((((cc.toInt64) + (aa.toInt64)) + (bb.toInt64)) - (cc.toInt64))), .second] [(.double (FP.l2d ((((cc.toInt64) + (aa.toInt64)) + (bb.toInt64)) - (cc.toInt64))))])) _
      refine Go.via (X0.ldc2DoubleC hx hown (mvT hZ (tw hw 17 rfl)) (g := (mkF m 37 #[.val (.int xx), .val (.int ix), .val (.int jx), .val (.int aa), .val (.int bb), .val (.int cc), .val (.long ((((cc.toInt64) + (aa.toInt64)) + (bb.toInt64)) - (cc.toInt64))), .second] [(.double (FP.l2d ((((cc.toInt64) + (aa.toInt64)) + (bb.toInt64)) - (cc.toInt64))))])) rfl (hb hby d12_37)) ?_
      show Go p e below (s₁.setTop (mkF m 40 #[.val (.int xx), .val (.int ix), .val (.int jx), .val (.int aa), .val (.int bb), .val (.int cc), .val (.long ((((cc.toInt64) + (aa.toInt64)) + (bb.toInt64)) - (cc.toInt64))), .second] [(.double (4679240012837945344 : UInt64)), (.double (FP.l2d ((((cc.toInt64) + (aa.toInt64)) + (bb.toInt64)) - (cc.toInt64))))])) _
      refine Go.via (fun _ => OwnKit.ddiv X0.here hx rfl (hb hby d12_40) rfl (own_nn (by rw [hev]; exact cn_fin _ _))) ?_
      show Go p e below (s₁.setTop (mkF m 41 #[.val (.int xx), .val (.int ix), .val (.int jx), .val (.int aa), .val (.int bb), .val (.int cc), .val (.long ((((cc.toInt64) + (aa.toInt64)) + (bb.toInt64)) - (cc.toInt64))), .second] [(.double (FP.ddiv (FP.l2d ((((cc.toInt64) + (aa.toInt64)) + (bb.toInt64)) - (cc.toInt64))) (4679240012837945344 : UInt64)))])) _
      exact Go.fin X0 hlk (v := some (.double (FP.ddiv (FP.l2d ((((cc.toInt64) + (aa.toInt64)) + (bb.toInt64)) - (cc.toInt64))) (4679240012837945344 : UInt64)))) (fun h => by rw [Bd.returns] at h; cases h) (fun fs hr => retOut X0 hx Bd.returns rfl (Or.inr (Or.inr (Or.inl ⟨rfl, rfl, _, rfl⟩))) (hb hby d12_41) hr) (by rw [e0]; exact ⟨(FP.ddiv (FP.l2d ((((cc.toInt64) + (aa.toInt64)) + (bb.toInt64)) - (cc.toInt64))) (4679240012837945344 : UInt64)), rfl, N0, rfl, hev⟩) (by decide) (by decide)
    · refine Go.via (fun _ => XS.icmpYes X0.here hx rfl (pc0 := 19) (pc' := 34) rfl (hb hby d12_19) rfl (feq (hc60 : ¬ (xx = jx))).2 (by decide) (by decide)) ?_
      refine Go.via (fun _ => XS.lload X0.here hx rfl (hb hby d12_34) rfl) ?_
      show Go p e below (s₁.setTop (mkF m 36 #[.val (.int xx), .val (.int ix), .val (.int jx), .val (.int aa), .val (.int bb), .val (.int cc), .val (.long ((cc.toInt64) + (aa.toInt64))), .second] [(.long ((cc.toInt64) + (aa.toInt64)))])) _
      have hev : dv (FP.ddiv (FP.l2d ((cc.toInt64) + (aa.toInt64))) (4679240012837945344 : UInt64)) (exq xx ix jx aa bb cc) (-16) := own_exv (own_ex1 hc59 hc60) own_exb
      refine Go.via (fun _ => OwnKit.l2d X0.here hx rfl (hb hby d12_36) rfl) ?_
      show Go p e below (s₁.setTop (mkF m 37 #[.val (.int xx), .val (.int ix), .val (.int jx), .val (.int aa), .val (.int bb), .val (.int cc), .val (.long ((cc.toInt64) + (aa.toInt64))), .second] [(.double (FP.l2d ((cc.toInt64) + (aa.toInt64))))])) _
      refine Go.via (X0.ldc2DoubleC hx hown (mvT hZ (tw hw 17 rfl)) (g := (mkF m 37 #[.val (.int xx), .val (.int ix), .val (.int jx), .val (.int aa), .val (.int bb), .val (.int cc), .val (.long ((cc.toInt64) + (aa.toInt64))), .second] [(.double (FP.l2d ((cc.toInt64) + (aa.toInt64))))])) rfl (hb hby d12_37)) ?_
      show Go p e below (s₁.setTop (mkF m 40 #[.val (.int xx), .val (.int ix), .val (.int jx), .val (.int aa), .val (.int bb), .val (.int cc), .val (.long ((cc.toInt64) + (aa.toInt64))), .second] [(.double (4679240012837945344 : UInt64)), (.double (FP.l2d ((cc.toInt64) + (aa.toInt64))))])) _
      refine Go.via (fun _ => OwnKit.ddiv X0.here hx rfl (hb hby d12_40) rfl (own_nn (by rw [hev]; exact cn_fin _ _))) ?_
      show Go p e below (s₁.setTop (mkF m 41 #[.val (.int xx), .val (.int ix), .val (.int jx), .val (.int aa), .val (.int bb), .val (.int cc), .val (.long ((cc.toInt64) + (aa.toInt64))), .second] [(.double (FP.ddiv (FP.l2d ((cc.toInt64) + (aa.toInt64))) (4679240012837945344 : UInt64)))])) _
      exact Go.fin X0 hlk (v := some (.double (FP.ddiv (FP.l2d ((cc.toInt64) + (aa.toInt64))) (4679240012837945344 : UInt64)))) (fun h => by rw [Bd.returns] at h; cases h) (fun fs hr => retOut X0 hx Bd.returns rfl (Or.inr (Or.inr (Or.inl ⟨rfl, rfl, _, rfl⟩))) (hb hby d12_41) hr) (by rw [e0]; exact ⟨(FP.ddiv (FP.l2d ((cc.toInt64) + (aa.toInt64))) (4679240012837945344 : UInt64)), rfl, N0, rfl, hev⟩) (by decide) (by decide)
  · refine Go.via (fun _ => XS.icmpYes X0.here hx rfl (pc0 := 7) (pc' := 17) rfl (hb hby d12_7) rfl (feq (hc59 : ¬ (xx = ix))).2 (by decide) (by decide)) ?_
    refine Go.via (fun _ => XS.iloadN X0.here hx rfl (hb hby d12_17) rfl) ?_
    refine Go.via (fun _ => XS.iloadN X0.here hx rfl (hb hby d12_18) rfl) ?_
    show Go p e below (s₁.setTop (mkF m 19 #[.val (.int xx), .val (.int ix), .val (.int jx), .val (.int aa), .val (.int bb), .val (.int cc), .val (.long (cc.toInt64)), .second] [(.int jx), (.int xx)])) _
    by_cases hc61 : xx = jx
    · refine Go.via (fun _ => XS.icmpNo X0.here hx rfl (hb hby d12_19) rfl (teq (hc61 : xx = jx)).2) ?_
      show Go p e below (s₁.setTop (mkF m 22 #[.val (.int xx), .val (.int ix), .val (.int jx), .val (.int aa), .val (.int bb), .val (.int cc), .val (.long (cc.toInt64)), .second] [])) _
      refine Go.via (fun _ => XS.lload X0.here hx rfl (hb hby d12_22) rfl) ?_
      refine Go.via (fun _ => XS.iload X0.here hx rfl (hb hby d12_24) rfl) ?_
      refine Go.via (fun _ => XS.i2l X0.here hx rfl (hb hby d12_26) rfl) ?_
      show Go p e below (s₁.setTop (mkF m 27 #[.val (.int xx), .val (.int ix), .val (.int jx), .val (.int aa), .val (.int bb), .val (.int cc), .val (.long (cc.toInt64)), .second] [(.long (bb.toInt64)), (.long (cc.toInt64))])) _
      refine Go.via (fun _ => XS.ladd X0.here hx rfl (hb hby d12_27) rfl) ?_
      show Go p e below (s₁.setTop (mkF m 28 #[.val (.int xx), .val (.int ix), .val (.int jx), .val (.int aa), .val (.int bb), .val (.int cc), .val (.long (cc.toInt64)), .second] [(.long ((cc.toInt64) + (bb.toInt64)))])) _
      refine Go.via (fun _ => XS.iload X0.here hx rfl (hb hby d12_28) rfl) ?_
      refine Go.via (fun _ => XS.i2l X0.here hx rfl (hb hby d12_30) rfl) ?_
      show Go p e below (s₁.setTop (mkF m 31 #[.val (.int xx), .val (.int ix), .val (.int jx), .val (.int aa), .val (.int bb), .val (.int cc), .val (.long (cc.toInt64)), .second] [(.long (cc.toInt64)), (.long ((cc.toInt64) + (bb.toInt64)))])) _
      refine Go.via (fun _ => XS.lsub X0.here hx rfl (hb hby d12_31) rfl) ?_
      show Go p e below (s₁.setTop (mkF m 32 #[.val (.int xx), .val (.int ix), .val (.int jx), .val (.int aa), .val (.int bb), .val (.int cc), .val (.long (cc.toInt64)), .second] [(.long (((cc.toInt64) + (bb.toInt64)) - (cc.toInt64)))])) _
      refine Go.via (fun _ => XS.lstore X0.here hx rfl (hb hby d12_32) rfl (l' := #[.val (.int xx), .val (.int ix), .val (.int jx), .val (.int aa), .val (.int bb), .val (.int cc), .val (.long (((cc.toInt64) + (bb.toInt64)) - (cc.toInt64))), .second]) rfl) ?_
      show Go p e below (s₁.setTop (mkF m 34 #[.val (.int xx), .val (.int ix), .val (.int jx), .val (.int aa), .val (.int bb), .val (.int cc), .val (.long (((cc.toInt64) + (bb.toInt64)) - (cc.toInt64))), .second] [])) _
      refine Go.via (fun _ => XS.lload X0.here hx rfl (hb hby d12_34) rfl) ?_
      show Go p e below (s₁.setTop (mkF m 36 #[.val (.int xx), .val (.int ix), .val (.int jx), .val (.int aa), .val (.int bb), .val (.int cc), .val (.long (((cc.toInt64) + (bb.toInt64)) - (cc.toInt64))), .second] [(.long (((cc.toInt64) + (bb.toInt64)) - (cc.toInt64)))])) _
      have hev : dv (FP.ddiv (FP.l2d (((cc.toInt64) + (bb.toInt64)) - (cc.toInt64))) (4679240012837945344 : UInt64)) (exq xx ix jx aa bb cc) (-16) := own_exv (own_ex2 hc59 hc61) own_exb
      refine Go.via (fun _ => OwnKit.l2d X0.here hx rfl (hb hby d12_36) rfl) ?_
      show Go p e below (s₁.setTop (mkF m 37 #[.val (.int xx), .val (.int ix), .val (.int jx), .val (.int aa), .val (.int bb), .val (.int cc), .val (.long (((cc.toInt64) + (bb.toInt64)) - (cc.toInt64))), .second] [(.double (FP.l2d (((cc.toInt64) + (bb.toInt64)) - (cc.toInt64))))])) _
      refine Go.via (X0.ldc2DoubleC hx hown (mvT hZ (tw hw 17 rfl)) (g := (mkF m 37 #[.val (.int xx), .val (.int ix), .val (.int jx), .val (.int aa), .val (.int bb), .val (.int cc), .val (.long (((cc.toInt64) + (bb.toInt64)) - (cc.toInt64))), .second] [(.double (FP.l2d (((cc.toInt64) + (bb.toInt64)) - (cc.toInt64))))])) rfl (hb hby d12_37)) ?_
      show Go p e below (s₁.setTop (mkF m 40 #[.val (.int xx), .val (.int ix), .val (.int jx), .val (.int aa), .val (.int bb), .val (.int cc), .val (.long (((cc.toInt64) + (bb.toInt64)) - (cc.toInt64))), .second] [(.double (4679240012837945344 : UInt64)), (.double (FP.l2d (((cc.toInt64) + (bb.toInt64)) - (cc.toInt64))))])) _
      refine Go.via (fun _ => OwnKit.ddiv X0.here hx rfl (hb hby d12_40) rfl (own_nn (by rw [hev]; exact cn_fin _ _))) ?_
      show Go p e below (s₁.setTop (mkF m 41 #[.val (.int xx), .val (.int ix), .val (.int jx), .val (.int aa), .val (.int bb), .val (.int cc), .val (.long (((cc.toInt64) + (bb.toInt64)) - (cc.toInt64))), .second] [(.double (FP.ddiv (FP.l2d (((cc.toInt64) + (bb.toInt64)) - (cc.toInt64))) (4679240012837945344 : UInt64)))])) _
      exact Go.fin X0 hlk (v := some (.double (FP.ddiv (FP.l2d (((cc.toInt64) + (bb.toInt64)) - (cc.toInt64))) (4679240012837945344 : UInt64)))) (fun h => by rw [Bd.returns] at h; cases h) (fun fs hr => retOut X0 hx Bd.returns rfl (Or.inr (Or.inr (Or.inl ⟨rfl, rfl, _, rfl⟩))) (hb hby d12_41) hr) (by rw [e0]; exact ⟨(FP.ddiv (FP.l2d (((cc.toInt64) + (bb.toInt64)) - (cc.toInt64))) (4679240012837945344 : UInt64)), rfl, N0, rfl, hev⟩) (by decide) (by decide)
    · refine Go.via (fun _ => XS.icmpYes X0.here hx rfl (pc0 := 19) (pc' := 34) rfl (hb hby d12_19) rfl (feq (hc61 : ¬ (xx = jx))).2 (by decide) (by decide)) ?_
      show Go p e below (s₁.setTop (mkF m 34 #[.val (.int xx), .val (.int ix), .val (.int jx), .val (.int aa), .val (.int bb), .val (.int cc), .val (.long (cc.toInt64)), .second] [])) _
      refine Go.via (fun _ => XS.lload X0.here hx rfl (hb hby d12_34) rfl) ?_
      show Go p e below (s₁.setTop (mkF m 36 #[.val (.int xx), .val (.int ix), .val (.int jx), .val (.int aa), .val (.int bb), .val (.int cc), .val (.long (cc.toInt64)), .second] [(.long (cc.toInt64))])) _
      have hev : dv (FP.ddiv (FP.l2d (cc.toInt64)) (4679240012837945344 : UInt64)) (exq xx ix jx aa bb cc) (-16) := own_exv (own_ex0 hc59 hc61) own_exb
      refine Go.via (fun _ => OwnKit.l2d X0.here hx rfl (hb hby d12_36) rfl) ?_
      show Go p e below (s₁.setTop (mkF m 37 #[.val (.int xx), .val (.int ix), .val (.int jx), .val (.int aa), .val (.int bb), .val (.int cc), .val (.long (cc.toInt64)), .second] [(.double (FP.l2d (cc.toInt64)))])) _
      refine Go.via (X0.ldc2DoubleC hx hown (mvT hZ (tw hw 17 rfl)) (g := (mkF m 37 #[.val (.int xx), .val (.int ix), .val (.int jx), .val (.int aa), .val (.int bb), .val (.int cc), .val (.long (cc.toInt64)), .second] [(.double (FP.l2d (cc.toInt64)))])) rfl (hb hby d12_37)) ?_
      show Go p e below (s₁.setTop (mkF m 40 #[.val (.int xx), .val (.int ix), .val (.int jx), .val (.int aa), .val (.int bb), .val (.int cc), .val (.long (cc.toInt64)), .second] [(.double (4679240012837945344 : UInt64)), (.double (FP.l2d (cc.toInt64)))])) _
      refine Go.via (fun _ => OwnKit.ddiv X0.here hx rfl (hb hby d12_40) rfl (own_nn (by rw [hev]; exact cn_fin _ _))) ?_
      show Go p e below (s₁.setTop (mkF m 41 #[.val (.int xx), .val (.int ix), .val (.int jx), .val (.int aa), .val (.int bb), .val (.int cc), .val (.long (cc.toInt64)), .second] [(.double (FP.ddiv (FP.l2d (cc.toInt64)) (4679240012837945344 : UInt64)))])) _
      exact Go.fin X0 hlk (v := some (.double (FP.ddiv (FP.l2d (cc.toInt64)) (4679240012837945344 : UInt64)))) (fun h => by rw [Bd.returns] at h; cases h) (fun fs hr => retOut X0 hx Bd.returns rfl (Or.inr (Or.inr (Or.inl ⟨rfl, rfl, _, rfl⟩))) (hb hby d12_41) hr) (by rw [e0]; exact ⟨(FP.ddiv (FP.l2d (cc.toInt64)) (4679240012837945344 : UInt64)), rfl, N0, rfl, hev⟩) (by decide) (by decide)
theorem pd__28I_29V : parseMethodDescriptor "(I)V" = some ⟨[.int], none⟩ := by decide +kernel
theorem pd__28I_29D : parseMethodDescriptor "(I)D" = some ⟨[.int], some .double⟩ := by decide +kernel
theorem pd__28D_29V : parseMethodDescriptor "(D)V" = some ⟨[.double], none⟩ := by decide +kernel
theorem pd__28ID_29V : parseMethodDescriptor "(ID)V" = some ⟨[.int, .double], none⟩ := by decide +kernel
theorem pd__28IDD_29V : parseMethodDescriptor "(IDD)V" = some ⟨[.int, .double, .double], none⟩ := by decide +kernel
theorem pd__28IIIIII_29D : parseMethodDescriptor "(IIIIII)D" = some ⟨[.int, .int, .int, .int, .int, .int], some .double⟩ := by decide +kernel
theorem pn_0 : plainName "com/example/libcosearch/libcosearch/ScoreSumsGetPinLaw" = true := by first | (simp [plainName, overriddenIn]; done) | decide +kernel
theorem ef_0 (m : MethodId) (x0 : Int32) (x1 : Int32) (x2 : Int32) (x3 : Int32) (x4 : Int32) (x5 : Int32) : entryFrame m #[(.int x0), (.int x1), (.int x2), (.int x3), (.int x4), (.int x5)] maxLocals = mkF m 0 #[.val (.int x0), .val (.int x1), .val (.int x2), .val (.int x3), .val (.int x4), .val (.int x5), .unset, .unset, .unset, .unset, .unset, .unset, .unset, .unset] [] := by first | (simp [entryFrame, mkF, argsToLocals, Value.category, maxLocals]; done) | rfl
def Q_rm0 (Z : State) (s_ : Int32) (p1 : Int32) (p2 : Int32) (aa : Int32) (bb : Int32) (cc : Int32)  (h0 : Heap) (n0 : Nat) (vQ : Option Value) (hQ : Heap) (LQ : List Loc) : Prop := vQ = some (.int (1 : Int32)) ∧ Fr n0 LQ ∧ Keep h0 hQ []
set_option maxRecDepth 65536 in
set_option maxHeartbeats 40000000 in
theorem rm0 (l : Launch) (Z : State) (a0 : Array Value) (hw : ∀ d ∈ tables_1, d.before a0 Z = true) (ws : List Jvm.Cond) (s_ : Int32) (p1 : Int32) (p2 : Int32) (aa : Int32) (bb : Int32) (cc : Int32)  (h0 : Heap) (n0 : Nat) (Z0 : n0 ≤ h0.size) :
    MetFree l x (head1 (Jvm.Cond.code x code maxLocals ret :: ws) room_1) (fun aQ UQ => aQ = #[(.int s_), (.int p1), (.int p2), (.int aa), (.int bb), (.int cc)] ∧ Z.Warmed39 UQ.vm ∧ UQ.heap = h0) (fun _ _ _ _ _ => True) (fun _ UQ oQ UR => ∃ vQ LQ, oQ = .returned vQ ∧ Q_rm0 Z s_ p1 p2 aa bb cc  h0 n0 vQ UR.heap LQ ∧ FrameEnd UQ oQ UR LQ room_1.cells room_1.slots) := by
  refine MetFree.of_bodySF (plainFor_of_name pn_0) hisR ?_
  intro p e s m args below meth c s₁ Bd hml0 hP hK
  obtain ⟨rfl, hZ, hh⟩ := hP
  have hx := Bd.exec
  have hby := Bd.bytes
  have hlk := Bd.notSynchronized
  have hml : c.maxLocals = 14 := hml0
  have hown : s.vm.findClass "com/example/libcosearch/libcosearch/ScoreSumsGetPinLaw" = some m.cls := findClass_of_methodNamed Bd.named
  have hnm := (name_of_methodNamed Bd.named Bd.method).1
  have X0 : Stand p l e room_1 s m #[(.int s_), (.int p1), (.int p2), (.int aa), (.int bb), (.int cc)] below meth c s₁ [] 0 0 := Stand.of_body Bd
  have e0 : s₁.heap = h0 := by rw [← hh, Bd.state]; rfl
  have N0 := Fr.nil n0
  show Go p e below _ (Done s (Q_rm0 Z s_ p1 p2 aa bb cc  h0 n0) room_1.cells room_1.slots)
  refine Go.via (fun tQ kQ => castTop (ef_0 m s_ p1 p2 aa bb cc) kQ) ?_
  show Go p e below (s₁.setTop (mkF m 0 #[.val (.int s_), .val (.int p1), .val (.int p2), .val (.int aa), .val (.int bb), .val (.int cc), .unset, .unset, .unset, .unset, .unset, .unset, .unset, .unset] [])) _
  refine Go.via (fun _ => XS.iloadN X0.here hx rfl (hb hby at_0) rfl) ?_
  refine Go.via (fun _ => XS.iconst X0.here hx rfl (hb hby at_1)) ?_
  refine Go.via (fun _ => XS.iand X0.here hx rfl (hb hby at_2) rfl) ?_
  show Go p e below (s₁.setTop (mkF m 3 #[.val (.int s_), .val (.int p1), .val (.int p2), .val (.int aa), .val (.int bb), .val (.int cc), .unset, .unset, .unset, .unset, .unset, .unset, .unset, .unset] [(.int (s_ &&& (3 : Int32)))])) _
  refine Go.via (fun _ => XS.iconst X0.here hx rfl (hb hby at_3)) ?_
  refine Go.via (fun _ => XS.iadd X0.here hx rfl (hb hby at_4) rfl) ?_
  show Go p e below (s₁.setTop (mkF m 5 #[.val (.int s_), .val (.int p1), .val (.int p2), .val (.int aa), .val (.int bb), .val (.int cc), .unset, .unset, .unset, .unset, .unset, .unset, .unset, .unset] [(.int ((s_ &&& (3 : Int32)) + (1 : Int32)))])) _
  generalize hv_nn : ((s_ &&& (3 : Int32)) + (1 : Int32)) = nn
  show Go p e below (s₁.setTop (mkF m 5 #[.val (.int s_), .val (.int p1), .val (.int p2), .val (.int aa), .val (.int bb), .val (.int cc), .unset, .unset, .unset, .unset, .unset, .unset, .unset, .unset] [(.int nn)])) _
  refine Go.via (fun _ => XS.istore X0.here hx rfl (hb hby at_5) rfl (l' := #[.val (.int s_), .val (.int p1), .val (.int p2), .val (.int aa), .val (.int bb), .val (.int cc), .val (.int nn), .unset, .unset, .unset, .unset, .unset, .unset, .unset]) rfl) ?_
  show Go p e below (s₁.setTop (mkF m 7 #[.val (.int s_), .val (.int p1), .val (.int p2), .val (.int aa), .val (.int bb), .val (.int cc), .val (.int nn), .unset, .unset, .unset, .unset, .unset, .unset, .unset] [])) _
  have hN := own_n hv_nn
  refine Go.via (fun _ => XS.iloadN X0.here hx rfl (hb hby at_7) rfl) ?_
  refine Go.via (X0.ldcInt hx hown (mvT hZ (tw hw 0 rfl)) (g := (mkF m 8 #[.val (.int s_), .val (.int p1), .val (.int p2), .val (.int aa), .val (.int bb), .val (.int cc), .val (.int nn), .unset, .unset, .unset, .unset, .unset, .unset, .unset] [(.int p1)])) rfl (hb hby at_8)) ?_
  show Go p e below (s₁.setTop (mkF m 10 #[.val (.int s_), .val (.int p1), .val (.int p2), .val (.int aa), .val (.int bb), .val (.int cc), .val (.int nn), .unset, .unset, .unset, .unset, .unset, .unset, .unset] [(.int (2147483647 : Int32)), (.int p1)])) _
  refine Go.via (fun _ => XS.iand X0.here hx rfl (hb hby at_10) rfl) ?_
  show Go p e below (s₁.setTop (mkF m 11 #[.val (.int s_), .val (.int p1), .val (.int p2), .val (.int aa), .val (.int bb), .val (.int cc), .val (.int nn), .unset, .unset, .unset, .unset, .unset, .unset, .unset] [(.int (p1 &&& (2147483647 : Int32)))])) _
  refine Go.via (fun _ => XS.iload X0.here hx rfl (hb hby at_11) rfl) ?_
  refine Go.via (fun _ => iremM X0 hx rfl (hb hby at_13) rfl (own_n0 hN)) ?_
  show Go p e below (s₁.setTop (mkF m 14 #[.val (.int s_), .val (.int p1), .val (.int p2), .val (.int aa), .val (.int bb), .val (.int cc), .val (.int nn), .unset, .unset, .unset, .unset, .unset, .unset, .unset] [(.int ((p1 &&& (2147483647 : Int32)) % nn))])) _
  generalize hv_ix : ((p1 &&& (2147483647 : Int32)) % nn) = ix
  show Go p e below (s₁.setTop (mkF m 14 #[.val (.int s_), .val (.int p1), .val (.int p2), .val (.int aa), .val (.int bb), .val (.int cc), .val (.int nn), .unset, .unset, .unset, .unset, .unset, .unset, .unset] [(.int ix)])) _
  refine Go.via (fun _ => XS.istore X0.here hx rfl (hb hby at_14) rfl (l' := #[.val (.int s_), .val (.int p1), .val (.int p2), .val (.int aa), .val (.int bb), .val (.int cc), .val (.int nn), .val (.int ix), .unset, .unset, .unset, .unset, .unset, .unset]) rfl) ?_
  show Go p e below (s₁.setTop (mkF m 16 #[.val (.int s_), .val (.int p1), .val (.int p2), .val (.int aa), .val (.int bb), .val (.int cc), .val (.int nn), .val (.int ix), .unset, .unset, .unset, .unset, .unset, .unset] [])) _
  have hI := own_i hN hv_ix
  refine Go.via (fun _ => XS.iloadN X0.here hx rfl (hb hby at_16) rfl) ?_
  refine Go.via (X0.ldcInt hx hown (mvT hZ (tw hw 0 rfl)) (g := (mkF m 17 #[.val (.int s_), .val (.int p1), .val (.int p2), .val (.int aa), .val (.int bb), .val (.int cc), .val (.int nn), .val (.int ix), .unset, .unset, .unset, .unset, .unset, .unset] [(.int p2)])) rfl (hb hby at_17)) ?_
  show Go p e below (s₁.setTop (mkF m 19 #[.val (.int s_), .val (.int p1), .val (.int p2), .val (.int aa), .val (.int bb), .val (.int cc), .val (.int nn), .val (.int ix), .unset, .unset, .unset, .unset, .unset, .unset] [(.int (2147483647 : Int32)), (.int p2)])) _
  refine Go.via (fun _ => XS.iand X0.here hx rfl (hb hby at_19) rfl) ?_
  show Go p e below (s₁.setTop (mkF m 20 #[.val (.int s_), .val (.int p1), .val (.int p2), .val (.int aa), .val (.int bb), .val (.int cc), .val (.int nn), .val (.int ix), .unset, .unset, .unset, .unset, .unset, .unset] [(.int (p2 &&& (2147483647 : Int32)))])) _
  refine Go.via (fun _ => XS.iload X0.here hx rfl (hb hby at_20) rfl) ?_
  refine Go.via (fun _ => iremM X0 hx rfl (hb hby at_22) rfl (own_n0 hN)) ?_
  show Go p e below (s₁.setTop (mkF m 23 #[.val (.int s_), .val (.int p1), .val (.int p2), .val (.int aa), .val (.int bb), .val (.int cc), .val (.int nn), .val (.int ix), .unset, .unset, .unset, .unset, .unset, .unset] [(.int ((p2 &&& (2147483647 : Int32)) % nn))])) _
  generalize hv_jx : ((p2 &&& (2147483647 : Int32)) % nn) = jx
  show Go p e below (s₁.setTop (mkF m 23 #[.val (.int s_), .val (.int p1), .val (.int p2), .val (.int aa), .val (.int bb), .val (.int cc), .val (.int nn), .val (.int ix), .unset, .unset, .unset, .unset, .unset, .unset] [(.int jx)])) _
  refine Go.via (fun _ => XS.istore X0.here hx rfl (hb hby at_23) rfl (l' := #[.val (.int s_), .val (.int p1), .val (.int p2), .val (.int aa), .val (.int bb), .val (.int cc), .val (.int nn), .val (.int ix), .val (.int jx), .unset, .unset, .unset, .unset, .unset]) rfl) ?_
  show Go p e below (s₁.setTop (mkF m 25 #[.val (.int s_), .val (.int p1), .val (.int p2), .val (.int aa), .val (.int bb), .val (.int cc), .val (.int nn), .val (.int ix), .val (.int jx), .unset, .unset, .unset, .unset, .unset] [])) _
  have hJ := own_i hN hv_jx
  refine Go.via (fun _ => XS.iload X0.here hx rfl (hb hby at_25) rfl) ?_
  refine Go.via (fun _ => XS.iconst X0.here hx rfl (hb hby at_27)) ?_
  refine Go.via (fun _ => XS.iadd X0.here hx rfl (hb hby at_28) rfl) ?_
  show Go p e below (s₁.setTop (mkF m 29 #[.val (.int s_), .val (.int p1), .val (.int p2), .val (.int aa), .val (.int bb), .val (.int cc), .val (.int nn), .val (.int ix), .val (.int jx), .unset, .unset, .unset, .unset, .unset] [(.int (ix + (1 : Int32)))])) _
  refine Go.via (fun _ => XS.iload X0.here hx rfl (hb hby at_29) rfl) ?_
  refine Go.via (fun _ => iremM X0 hx rfl (hb hby at_31) rfl (own_n0 hN)) ?_
  show Go p e below (s₁.setTop (mkF m 32 #[.val (.int s_), .val (.int p1), .val (.int p2), .val (.int aa), .val (.int bb), .val (.int cc), .val (.int nn), .val (.int ix), .val (.int jx), .unset, .unset, .unset, .unset, .unset] [(.int ((ix + (1 : Int32)) % nn))])) _
  generalize hv_kx : ((ix + (1 : Int32)) % nn) = kx
  show Go p e below (s₁.setTop (mkF m 32 #[.val (.int s_), .val (.int p1), .val (.int p2), .val (.int aa), .val (.int bb), .val (.int cc), .val (.int nn), .val (.int ix), .val (.int jx), .unset, .unset, .unset, .unset, .unset] [(.int kx)])) _
  refine Go.via (fun _ => XS.istore X0.here hx rfl (hb hby at_32) rfl (l' := #[.val (.int s_), .val (.int p1), .val (.int p2), .val (.int aa), .val (.int bb), .val (.int cc), .val (.int nn), .val (.int ix), .val (.int jx), .val (.int kx), .unset, .unset, .unset, .unset]) rfl) ?_
  show Go p e below (s₁.setTop (mkF m 34 #[.val (.int s_), .val (.int p1), .val (.int p2), .val (.int aa), .val (.int bb), .val (.int cc), .val (.int nn), .val (.int ix), .val (.int jx), .val (.int kx), .unset, .unset, .unset, .unset] [])) _
  have hKx := own_k hN hI hv_kx
  obtain ⟨T62, h62, X62, e62, E62, A62, D62, -, st62⟩ := newO X0 hx hZ hown (tw hw 1 rfl) (tw hw 2 rfl) (tw hw 3 rfl) e0 (g := (mkF m 34 #[.val (.int s_), .val (.int p1), .val (.int p2), .val (.int aa), .val (.int bb), .val (.int cc), .val (.int nn), .val (.int ix), .val (.int jx), .val (.int kx), .unset, .unset, .unset, .unset] [])) rfl (hb hby at_34) (by decide) (by decide)
  obtain ⟨b62, g62⟩ : ∃ z, z = h0.size := ⟨_, rfl⟩
  rw [← g62] at A62 D62 st62
  have ge63 : n0 ≤ b62 := Nat.le_trans Z0 (Nat.le_of_eq g62.symm)
  have sz64 : h0.size ≤ b62 := Nat.le_trans (Keep.refl h0 []).1 (Nat.le_of_eq g62.symm)
  refine Go.via (st62) ?_
  clear st62
  have f65 : Fld Z h62 b62 "com/example/libcosearch/libcosearch/ScoreSums" "units" "[J" .null := D62 (Or.inr (tw hw 12 rfl)) (ty := (.array .long)) (by decide)
  have f66 : Fld Z h62 b62 "com/example/libcosearch/libcosearch/ScoreSums" "common" "J" (.long (0 : Int64)) := D62 (Or.inl (tw hw 24 rfl)) (ty := .long) (by decide)
  clear X0 e0
  show Go p e below (T62.setTop (mkF m 37 #[.val (.int s_), .val (.int p1), .val (.int p2), .val (.int aa), .val (.int bb), .val (.int cc), .val (.int nn), .val (.int ix), .val (.int jx), .val (.int kx), .unset, .unset, .unset, .unset] [(.ref b62)])) _
  refine Go.via (fun _ => XS.dup X62.here hx rfl (hb hby at_37) rfl rfl) ?_
  refine Go.via (fun _ => XS.iload X62.here hx rfl (hb hby at_38) rfl) ?_
  have z68 : n0 ≤ h62.size := (Nat.le_trans Z0 E62.1)
  obtain ⟨r67, _, ⟨T67, L67, k67, n67⟩, -, X67, ⟨Lc67, hQ67, l67, y67, z67⟩, st67⟩ := X62.specialBack hx (y := (⟨"com/example/libcosearch/libcosearch/ScoreSums", "<init>", "(I)V"⟩ : MethodName)) rfl hown (mvT hZ (tw hw 4 rfl)) (mvT hZ (tw hw 5 rfl)) (mvT hZ (tw hw 6 rfl)) (by decide) (backOf (W := 1) (rmI l Z a0 hw [] b62 nn  h62 n0 z68 A62 f65 f66 ge63 hN) hZ (tw hw 6 rfl) (tw hw 3 rfl) (by decide) (by decide)) (g := (mkF m 40 #[.val (.int s_), .val (.int p1), .val (.int p2), .val (.int aa), .val (.int bb), .val (.int cc), .val (.int nn), .val (.int ix), .val (.int jx), .val (.int kx), .unset, .unset, .unset, .unset] [(.int nn), (.ref b62), (.ref b62)])) rfl (by rw [hml]; rfl) (Steps.refl _) (a := b62) (argsL := [(.int nn)]) (rest := [(.ref b62)]) (lenOf pd__28I_29V rfl) rfl (by show 2 * 0 + _ ≤ _; exact Nat.le_of_eq rfl) (hb hby at_40) (fun _ _ => ⟨rfl, e62, (by decide : 1 + 1 ≤ _), (by decide : 2 + 4 ≤ _)⟩)
  dsimp only [Pt.U, Pt.locs, Pt.cells, Pt.slots] at X67 l67 y67 z67 st67 hQ67
  rw [l67, y67, z67] at X67
  clear l67 y67 z67
  obtain ⟨b69, hr67, N67q, K67q, fz_b69, f70, f71, f72, f73⟩ := hQ67
  rw [hr67] at st67
  clear hr67
  have N67 := Fr.app N0 N67q
  refine Go.via (fun _ kQ => st67.trans kQ) ?_
  clear st67
  have ne74 : b62 ≠ b69 := Nat.ne_of_lt (Nat.lt_of_lt_of_le A62.lt fz_b69)
  have ge75 : n0 ≤ b69 := Nat.le_trans z68 fz_b69
  have k77 : Keep h0 h62 [] := ((Keep.refl h0 []).ext E62)
  have sz76 : h0.size ≤ b69 := Nat.le_trans k77.1 fz_b69
  have e67 : T67.heap = T67.heap := rfl
  have f78 : Exa Z T67.heap b62 "com/example/libcosearch/libcosearch/ScoreSums" := f70
  have f79 : Fld Z T67.heap b62 "com/example/libcosearch/libcosearch/ScoreSums" "units" "[J" (.ref b69) := f71
  have f80 : Fld Z T67.heap b62 "com/example/libcosearch/libcosearch/ScoreSums" "common" "J" (.long (0 : Int64)) := f72
  have f81 : Lg Z T67.heap b69 nn.toNatClampNeg z0 := f73
  clear X62 e62
  show Go p e below (T67.setTop (mkF m 43 #[.val (.int s_), .val (.int p1), .val (.int p2), .val (.int aa), .val (.int bb), .val (.int cc), .val (.int nn), .val (.int ix), .val (.int jx), .val (.int kx), .unset, .unset, .unset, .unset] [(.ref b62)])) _
  refine Go.via (fun _ => XS.astore X67.here hx rfl (hb hby at_43) rfl rfl (l' := #[.val (.int s_), .val (.int p1), .val (.int p2), .val (.int aa), .val (.int bb), .val (.int cc), .val (.int nn), .val (.int ix), .val (.int jx), .val (.int kx), .val (.ref b62), .unset, .unset, .unset]) rfl) ?_
  show Go p e below (T67.setTop (mkF m 45 #[.val (.int s_), .val (.int p1), .val (.int p2), .val (.int aa), .val (.int bb), .val (.int cc), .val (.int nn), .val (.int ix), .val (.int jx), .val (.int kx), .val (.ref b62), .unset, .unset, .unset] [])) _
  refine Go.via (fun _ => XS.aload X67.here hx rfl (hb hby at_45) rfl rfl) ?_
  refine Go.via (fun _ => XS.iload X67.here hx rfl (hb hby at_47) rfl) ?_
  have z83 : n0 ≤ T67.heap.size := (Nat.le_trans z68 K67q.1)
  obtain ⟨r82, _, ⟨T82, L82, k82, n82⟩, -, X82, ⟨Lc82, hQ82, l82, y82, z82⟩, st82⟩ := Jvm.LawKit.callS X67 hx (y := (⟨"com/example/libcosearch/libcosearch/ScoreSumsGetPinLaw", "part", "(I)D"⟩ : MethodName)) hown (mvT hZ (tw hw 13 rfl)) (mvT hZ (tw hw 14 rfl)) (mvT hZ (tw hw 15 rfl)) (mvT hZ (tw hw 16 rfl)) (by decide) (backOf (W := 1) (rmP l Z a0 hw [] cc  T67.heap n0 z83) hZ (tw hw 16 rfl) (tw hw 15 rfl) (by decide) (by decide)) (g := (mkF m 49 #[.val (.int s_), .val (.int p1), .val (.int p2), .val (.int aa), .val (.int bb), .val (.int cc), .val (.int nn), .val (.int ix), .val (.int jx), .val (.int kx), .val (.ref b62), .unset, .unset, .unset] [(.int cc), (.ref b62)])) rfl (by rw [hml]; rfl) (argsL := [(.int cc)]) (rest := [(.ref b62)]) (lenOf pd__28I_29D rfl) rfl (by show 2 * 0 + _ ≤ _; exact Nat.le_of_eq rfl) (hb hby at_49) (fun _ _ => ⟨rfl, e67, (by decide : 2 + 0 ≤ _), (by decide : 6 + 0 ≤ _)⟩)
  dsimp only [Pt.U, Pt.locs, Pt.cells, Pt.slots] at X82 l82 y82 z82 st82 hQ82
  rw [l82, y82, z82] at X82
  clear l82 y82 z82
  obtain ⟨v84, hr82, N82q, eh82, qp85⟩ := hQ82
  rw [hr82] at st82
  clear hr82
  have N82 := Fr.app N67 N82q
  refine Go.via (st82) ?_
  clear st82
  have e82 : T82.heap = T67.heap := eh82
  clear X67 e67
  show Go p e below (T82.setTop (mkF m 52 #[.val (.int s_), .val (.int p1), .val (.int p2), .val (.int aa), .val (.int bb), .val (.int cc), .val (.int nn), .val (.int ix), .val (.int jx), .val (.int kx), .val (.ref b62), .unset, .unset, .unset] [(.double v84), (.ref b62)])) _
  obtain ⟨cq86, kq86, q86a, q86b, q86c⟩ := isOf hZ e82 f78
  obtain ⟨r86, _, ⟨T86, L86, k86, n86⟩, -, X86, ⟨Lc86, hQ86, l86, y86, z86⟩, st86⟩ := X82.virtualBack hx (y := (⟨"com/example/libcosearch/libcosearch/ScoreSums", "addToEach", "(D)V"⟩ : MethodName)) (z := (⟨"com/example/libcosearch/libcosearch/ScoreSums", "addToEach", "(D)V"⟩ : MethodName)) hown (mvT hZ (tw hw 18 rfl)) (mvT hZ (tw hw 19 rfl)) (notFace_of_selects (args := #[]) (mvT hZ (tw hw 21 rfl))) (mvT hZ (tw hw 21 rfl)) (mvT hZ (tw hw 20 rfl)) (by decide) (backOf (W := 0) (rmT l Z a0 hw [] b62 v84 b69 (0 : Int64) cc.toInt T67.heap n0 z83 f78 f79 f80 ge63 qp85 (own_b32 cc) (by decide)) hZ (tw hw 22 rfl) (tw hw 3 rfl) (by decide) (by decide)) q86a q86c (g := (mkF m 52 #[.val (.int s_), .val (.int p1), .val (.int p2), .val (.int aa), .val (.int bb), .val (.int cc), .val (.int nn), .val (.int ix), .val (.int jx), .val (.int kx), .val (.ref b62), .unset, .unset, .unset] [(.double v84), (.ref b62)])) rfl (by rw [hml]; rfl) (Steps.refl _) (argsL := [(.double v84)]) (rest := []) (lenOf pd__28D_29V rfl) rfl (by show 2 * 0 + _ ≤ _; exact Nat.le_of_eq rfl) (hb hby at_52) (fun _ _ => ⟨rfl, e82, (by decide : 2 + 0 ≤ _), (by decide : 6 + 0 ≤ _)⟩)
  dsimp only [Pt.U, Pt.locs, Pt.cells, Pt.slots] at X86 l86 y86 z86 st86 hQ86
  rw [l86, y86, z86] at X86
  clear l86 y86 z86
  obtain ⟨v87, hr86, N86q, K86q, f88, f89, f90, qp91⟩ := hQ86
  rw [hr86] at st86
  clear hr86
  have N86 := Fr.app N82 N86q
  refine Go.via (fun _ kQ => st86.trans kQ) ?_
  clear st86
  have e86 : T86.heap = T86.heap := rfl
  have f92 : Exa Z T86.heap b62 "com/example/libcosearch/libcosearch/ScoreSums" := f88
  have f93 : Fld Z T86.heap b62 "com/example/libcosearch/libcosearch/ScoreSums" "units" "[J" (.ref b69) := f89
  have f94 : Fld Z T86.heap b62 "com/example/libcosearch/libcosearch/ScoreSums" "common" "J" (.long v87) := f90
  clear X82 e82
  show Go p e below (T86.setTop (mkF m 55 #[.val (.int s_), .val (.int p1), .val (.int p2), .val (.int aa), .val (.int bb), .val (.int cc), .val (.int nn), .val (.int ix), .val (.int jx), .val (.int kx), .val (.ref b62), .unset, .unset, .unset] [])) _
  refine Go.via (fun _ => XS.aload X86.here hx rfl (hb hby at_55) rfl rfl) ?_
  refine Go.via (fun _ => XS.iload X86.here hx rfl (hb hby at_57) rfl) ?_
  refine Go.via (fun _ => XS.iloadN X86.here hx rfl (hb hby at_59) rfl) ?_
  have z96 : n0 ≤ T86.heap.size := (Nat.le_trans z83 K86q.1)
  obtain ⟨r95, _, ⟨T95, L95, k95, n95⟩, -, X95, ⟨Lc95, hQ95, l95, y95, z95⟩, st95⟩ := Jvm.LawKit.callS X86 hx (y := (⟨"com/example/libcosearch/libcosearch/ScoreSumsGetPinLaw", "part", "(I)D"⟩ : MethodName)) hown (mvT hZ (tw hw 13 rfl)) (mvT hZ (tw hw 14 rfl)) (mvT hZ (tw hw 15 rfl)) (mvT hZ (tw hw 16 rfl)) (by decide) (backOf (W := 2) (rmP l Z a0 hw [] aa  T86.heap n0 z96) hZ (tw hw 16 rfl) (tw hw 15 rfl) (by decide) (by decide)) (g := (mkF m 60 #[.val (.int s_), .val (.int p1), .val (.int p2), .val (.int aa), .val (.int bb), .val (.int cc), .val (.int nn), .val (.int ix), .val (.int jx), .val (.int kx), .val (.ref b62), .unset, .unset, .unset] [(.int aa), (.int ix), (.ref b62)])) rfl (by rw [hml]; rfl) (argsL := [(.int aa)]) (rest := [(.int ix), (.ref b62)]) (lenOf pd__28I_29D rfl) rfl (by show 2 * 0 + _ ≤ _; exact Nat.le_of_eq rfl) (hb hby at_60) (fun _ _ => ⟨rfl, e86, (by decide : 2 + 0 ≤ _), (by decide : 6 + 0 ≤ _)⟩)
  dsimp only [Pt.U, Pt.locs, Pt.cells, Pt.slots] at X95 l95 y95 z95 st95 hQ95
  rw [l95, y95, z95] at X95
  clear l95 y95 z95
  obtain ⟨v97, hr95, N95q, eh95, qp98⟩ := hQ95
  rw [hr95] at st95
  clear hr95
  have N95 := Fr.app N86 N95q
  refine Go.via (st95) ?_
  clear st95
  have e95 : T95.heap = T86.heap := eh95
  clear X86 e86
  show Go p e below (T95.setTop (mkF m 63 #[.val (.int s_), .val (.int p1), .val (.int p2), .val (.int aa), .val (.int bb), .val (.int cc), .val (.int nn), .val (.int ix), .val (.int jx), .val (.int kx), .val (.ref b62), .unset, .unset, .unset] [(.double v97), (.int ix), (.ref b62)])) _
  have f99 : Lg Z T86.heap b69 nn.toNatClampNeg z0 := (f81.keep K86q (ninS (Ne.symm ne74) nin0))
  obtain ⟨cq100, kq100, q100a, q100b, q100c⟩ := isOf hZ e95 f92
  obtain ⟨r100, _, ⟨T100, L100, k100, n100⟩, -, X100, ⟨Lc100, hQ100, l100, y100, z100⟩, st100⟩ := X95.virtualBack hx (y := (⟨"com/example/libcosearch/libcosearch/ScoreSums", "add", "(ID)V"⟩ : MethodName)) (z := (⟨"com/example/libcosearch/libcosearch/ScoreSums", "add", "(ID)V"⟩ : MethodName)) hown (mvT hZ (tw hw 45 rfl)) (mvT hZ (tw hw 46 rfl)) (notFace_of_selects (args := #[]) (mvT hZ (tw hw 48 rfl))) (mvT hZ (tw hw 48 rfl)) (mvT hZ (tw hw 47 rfl)) (by decide) (backOf (W := 0) (rmA l Z a0 hw [] b62 ix v97 b69 nn.toNatClampNeg z0 aa.toInt T86.heap n0 z96 f93 f99 ge75 (own_nneg hI) (own_lt hI) qp98 (own_b32 aa) (fun k => Nat.le_trans (own_z0 k) (by decide))) hZ (tw hw 49 rfl) (tw hw 3 rfl) (by decide) (by decide)) q100a q100c (g := (mkF m 63 #[.val (.int s_), .val (.int p1), .val (.int p2), .val (.int aa), .val (.int bb), .val (.int cc), .val (.int nn), .val (.int ix), .val (.int jx), .val (.int kx), .val (.ref b62), .unset, .unset, .unset] [(.double v97), (.int ix), (.ref b62)])) rfl (by rw [hml]; rfl) (Steps.refl _) (argsL := [(.int ix), (.double v97)]) (rest := []) (lenOf pd__28ID_29V rfl) rfl (by show 2 * 0 + _ ≤ _; exact Nat.le_of_eq rfl) (hb hby at_63) (fun _ _ => ⟨rfl, e95, (by decide : 2 + 0 ≤ _), (by decide : 6 + 0 ≤ _)⟩)
  dsimp only [Pt.U, Pt.locs, Pt.cells, Pt.slots] at X100 l100 y100 z100 st100 hQ100
  rw [l100, y100, z100] at X100
  clear l100 y100 z100
  obtain ⟨hr100, N100q, K100q, f101⟩ := hQ100
  rw [hr100] at st100
  clear hr100
  have N100 := Fr.app N95 N100q
  refine Go.via (fun _ kQ => st100.trans kQ) ?_
  clear st100
  have e100 : T100.heap = T100.heap := rfl
  have f102 : Lg Z T100.heap b69 nn.toNatClampNeg (upd z0 ix aa.toInt) := f101
  clear X95 e95
  show Go p e below (T100.setTop (mkF m 66 #[.val (.int s_), .val (.int p1), .val (.int p2), .val (.int aa), .val (.int bb), .val (.int cc), .val (.int nn), .val (.int ix), .val (.int jx), .val (.int kx), .val (.ref b62), .unset, .unset, .unset] [])) _
  refine Go.via (fun _ => XS.aload X100.here hx rfl (hb hby at_66) rfl rfl) ?_
  refine Go.via (fun _ => XS.iload X100.here hx rfl (hb hby at_68) rfl) ?_
  refine Go.via (fun _ => XS.iload X100.here hx rfl (hb hby at_70) rfl) ?_
  have z104 : n0 ≤ T100.heap.size := (Nat.le_trans z96 K100q.1)
  obtain ⟨r103, _, ⟨T103, L103, k103, n103⟩, -, X103, ⟨Lc103, hQ103, l103, y103, z103⟩, st103⟩ := Jvm.LawKit.callS X100 hx (y := (⟨"com/example/libcosearch/libcosearch/ScoreSumsGetPinLaw", "part", "(I)D"⟩ : MethodName)) hown (mvT hZ (tw hw 13 rfl)) (mvT hZ (tw hw 14 rfl)) (mvT hZ (tw hw 15 rfl)) (mvT hZ (tw hw 16 rfl)) (by decide) (backOf (W := 2) (rmP l Z a0 hw [] cc  T100.heap n0 z104) hZ (tw hw 16 rfl) (tw hw 15 rfl) (by decide) (by decide)) (g := (mkF m 72 #[.val (.int s_), .val (.int p1), .val (.int p2), .val (.int aa), .val (.int bb), .val (.int cc), .val (.int nn), .val (.int ix), .val (.int jx), .val (.int kx), .val (.ref b62), .unset, .unset, .unset] [(.int cc), (.int jx), (.ref b62)])) rfl (by rw [hml]; rfl) (argsL := [(.int cc)]) (rest := [(.int jx), (.ref b62)]) (lenOf pd__28I_29D rfl) rfl (by show 2 * 0 + _ ≤ _; exact Nat.le_of_eq rfl) (hb hby at_72) (fun _ _ => ⟨rfl, e100, (by decide : 2 + 0 ≤ _), (by decide : 6 + 0 ≤ _)⟩)
  dsimp only [Pt.U, Pt.locs, Pt.cells, Pt.slots] at X103 l103 y103 z103 st103 hQ103
  rw [l103, y103, z103] at X103
  clear l103 y103 z103
  obtain ⟨v105, hr103, N103q, eh103, qp106⟩ := hQ103
  rw [hr103] at st103
  clear hr103
  have N103 := Fr.app N100 N103q
  refine Go.via (st103) ?_
  clear st103
  have e103 : T103.heap = T100.heap := eh103
  clear X100 e100
  show Go p e below (T103.setTop (mkF m 75 #[.val (.int s_), .val (.int p1), .val (.int p2), .val (.int aa), .val (.int bb), .val (.int cc), .val (.int nn), .val (.int ix), .val (.int jx), .val (.int kx), .val (.ref b62), .unset, .unset, .unset] [(.double v105), (.int jx), (.ref b62)])) _
  refine Go.via (fun _ => XS.iload X103.here hx rfl (hb hby at_75) rfl) ?_
  obtain ⟨r107, _, ⟨T107, L107, k107, n107⟩, -, X107, ⟨Lc107, hQ107, l107, y107, z107⟩, st107⟩ := Jvm.LawKit.callS X103 hx (y := (⟨"com/example/libcosearch/libcosearch/ScoreSumsGetPinLaw", "part", "(I)D"⟩ : MethodName)) hown (mvT hZ (tw hw 13 rfl)) (mvT hZ (tw hw 14 rfl)) (mvT hZ (tw hw 15 rfl)) (mvT hZ (tw hw 16 rfl)) (by decide) (backOf (W := 4) (rmP l Z a0 hw [] bb  T100.heap n0 z104) hZ (tw hw 16 rfl) (tw hw 15 rfl) (by decide) (by decide)) (g := (mkF m 77 #[.val (.int s_), .val (.int p1), .val (.int p2), .val (.int aa), .val (.int bb), .val (.int cc), .val (.int nn), .val (.int ix), .val (.int jx), .val (.int kx), .val (.ref b62), .unset, .unset, .unset] [(.int bb), (.double v105), (.int jx), (.ref b62)])) rfl (by rw [hml]; rfl) (argsL := [(.int bb)]) (rest := [(.double v105), (.int jx), (.ref b62)]) (lenOf pd__28I_29D rfl) rfl (by show 2 * 0 + _ ≤ _; exact Nat.le_of_eq rfl) (hb hby at_77) (fun _ _ => ⟨rfl, e103, (by decide : 2 + 0 ≤ _), (by decide : 6 + 0 ≤ _)⟩)
  dsimp only [Pt.U, Pt.locs, Pt.cells, Pt.slots] at X107 l107 y107 z107 st107 hQ107
  rw [l107, y107, z107] at X107
  clear l107 y107 z107
  obtain ⟨v108, hr107, N107q, eh107, qp109⟩ := hQ107
  rw [hr107] at st107
  clear hr107
  have N107 := Fr.app N103 N107q
  refine Go.via (st107) ?_
  clear st107
  have e107 : T107.heap = T100.heap := eh107
  clear X103 e103
  show Go p e below (T107.setTop (mkF m 80 #[.val (.int s_), .val (.int p1), .val (.int p2), .val (.int aa), .val (.int bb), .val (.int cc), .val (.int nn), .val (.int ix), .val (.int jx), .val (.int kx), .val (.ref b62), .unset, .unset, .unset] [(.double v108), (.double v105), (.int jx), (.ref b62)])) _
  have f110 : Fld Z T100.heap b62 "com/example/libcosearch/libcosearch/ScoreSums" "units" "[J" (.ref b69) := (f93.keep K100q (ninS ne74 nin0))
  have f112 : Exa Z T100.heap b62 "com/example/libcosearch/libcosearch/ScoreSums" := (f92.keep K100q)
  obtain ⟨cq111, kq111, q111a, q111b, q111c⟩ := isOf hZ e107 f112
  obtain ⟨r111, _, ⟨T111, L111, k111, n111⟩, -, X111, ⟨Lc111, hQ111, l111, y111, z111⟩, st111⟩ := X107.virtualBack hx (y := (⟨"com/example/libcosearch/libcosearch/ScoreSums", "replace", "(IDD)V"⟩ : MethodName)) (z := (⟨"com/example/libcosearch/libcosearch/ScoreSums", "replace", "(IDD)V"⟩ : MethodName)) hown (mvT hZ (tw hw 50 rfl)) (mvT hZ (tw hw 51 rfl)) (notFace_of_selects (args := #[]) (mvT hZ (tw hw 53 rfl))) (mvT hZ (tw hw 53 rfl)) (mvT hZ (tw hw 52 rfl)) (by decide) (backOf (W := 0) (rmX l Z a0 hw [] b62 jx v105 v108 b69 nn.toNatClampNeg (upd z0 ix aa.toInt) cc.toInt bb.toInt T100.heap n0 z104 f110 f102 ge75 (own_nneg hJ) (own_lt hJ) qp106 (own_b32 cc) qp109 (own_b32 bb) (fun k => Nat.le_trans (own_upd own_z0 (own_b32 aa) k) (by decide))) hZ (tw hw 54 rfl) (tw hw 3 rfl) (by decide) (by decide)) q111a q111c (g := (mkF m 80 #[.val (.int s_), .val (.int p1), .val (.int p2), .val (.int aa), .val (.int bb), .val (.int cc), .val (.int nn), .val (.int ix), .val (.int jx), .val (.int kx), .val (.ref b62), .unset, .unset, .unset] [(.double v108), (.double v105), (.int jx), (.ref b62)])) rfl (by rw [hml]; rfl) (Steps.refl _) (argsL := [(.int jx), (.double v105), (.double v108)]) (rest := []) (lenOf pd__28IDD_29V rfl) rfl (by show 2 * 0 + _ ≤ _; exact Nat.le_of_eq rfl) (hb hby at_80) (fun _ _ => ⟨rfl, e107, (by decide : 2 + 0 ≤ _), (by decide : 6 + 0 ≤ _)⟩)
  dsimp only [Pt.U, Pt.locs, Pt.cells, Pt.slots] at X111 l111 y111 z111 st111 hQ111
  rw [l111, y111, z111] at X111
  clear l111 y111 z111
  obtain ⟨hr111, N111q, K111q, f113⟩ := hQ111
  rw [hr111] at st111
  clear hr111
  have N111 := Fr.app N107 N111q
  refine Go.via (fun _ kQ => st111.trans kQ) ?_
  clear st111
  have e111 : T111.heap = T111.heap := rfl
  have f114 : Lg Z T111.heap b69 nn.toNatClampNeg (upd (upd z0 ix aa.toInt) jx (bb.toInt - cc.toInt)) := f113
  clear X107 e107
  show Go p e below (T111.setTop (mkF m 83 #[.val (.int s_), .val (.int p1), .val (.int p2), .val (.int aa), .val (.int bb), .val (.int cc), .val (.int nn), .val (.int ix), .val (.int jx), .val (.int kx), .val (.ref b62), .unset, .unset, .unset] [])) _
  refine Go.via (fun _ => XS.aload X111.here hx rfl (hb hby at_83) rfl rfl) ?_
  refine Go.via (fun _ => XS.iload X111.here hx rfl (hb hby at_85) rfl) ?_
  have f115 : Fld Z T111.heap b62 "com/example/libcosearch/libcosearch/ScoreSums" "units" "[J" (.ref b69) := (f110.keep K111q (ninS ne74 nin0))
  have f116 : Fld Z T111.heap b62 "com/example/libcosearch/libcosearch/ScoreSums" "common" "J" (.long v87) := ((f94.keep K100q (ninS ne74 nin0)).keep K111q (ninS ne74 nin0))
  have z118 : n0 ≤ T111.heap.size := (Nat.le_trans z104 K111q.1)
  have f119 : Exa Z T111.heap b62 "com/example/libcosearch/libcosearch/ScoreSums" := (f112.keep K111q)
  obtain ⟨cq117, kq117, q117a, q117b, q117c⟩ := isOf hZ e111 f119
  obtain ⟨r117, _, ⟨T117, L117, k117, n117⟩, -, X117, ⟨Lc117, hQ117, l117, y117, z117⟩, st117⟩ := X111.virtualBack hx (y := (⟨"com/example/libcosearch/libcosearch/ScoreSums", "get", "(I)D"⟩ : MethodName)) (z := (⟨"com/example/libcosearch/libcosearch/ScoreSums", "get", "(I)D"⟩ : MethodName)) hown (mvT hZ (tw hw 58 rfl)) (mvT hZ (tw hw 59 rfl)) (notFace_of_selects (args := #[]) (mvT hZ (tw hw 61 rfl))) (mvT hZ (tw hw 61 rfl)) (mvT hZ (tw hw 60 rfl)) (by decide) (backOf (W := 0) (rmG l Z a0 hw [] b62 ix b69 nn.toNatClampNeg (upd (upd z0 ix aa.toInt) jx (bb.toInt - cc.toInt)) v87 cc.toInt T111.heap n0 z118 f115 f116 f114 (own_nneg hI) (own_lt hI) qp91 (own_b32 cc) (fun k => Nat.le_trans (own_upd (own_upd own_z0 (own_b32 aa)) (own_bc bb cc) k) (by decide))) hZ (tw hw 62 rfl) (tw hw 3 rfl) (by decide) (by decide)) q117a q117c (g := (mkF m 87 #[.val (.int s_), .val (.int p1), .val (.int p2), .val (.int aa), .val (.int bb), .val (.int cc), .val (.int nn), .val (.int ix), .val (.int jx), .val (.int kx), .val (.ref b62), .unset, .unset, .unset] [(.int ix), (.ref b62)])) rfl (by rw [hml]; rfl) (Steps.refl _) (argsL := [(.int ix)]) (rest := []) (lenOf pd__28I_29D rfl) rfl (by show 2 * 0 + _ ≤ _; exact Nat.le_of_eq rfl) (hb hby at_87) (fun _ _ => ⟨rfl, e111, (by decide : 2 + 0 ≤ _), (by decide : 6 + 0 ≤ _)⟩)
  dsimp only [Pt.U, Pt.locs, Pt.cells, Pt.slots] at X117 l117 y117 z117 st117 hQ117
  rw [l117, y117, z117] at X117
  clear l117 y117 z117
  obtain ⟨v120, hr117, N117q, eh117, qp121⟩ := hQ117
  rw [hr117] at st117
  clear hr117
  have N117 := Fr.app N111 N117q
  refine Go.via (fun _ kQ => st117.trans kQ) ?_
  clear st117
  have e117 : T117.heap = T111.heap := eh117
  clear X111 e111
  show Go p e below (T117.setTop (mkF m 90 #[.val (.int s_), .val (.int p1), .val (.int p2), .val (.int aa), .val (.int bb), .val (.int cc), .val (.int nn), .val (.int ix), .val (.int jx), .val (.int kx), .val (.ref b62), .unset, .unset, .unset] [(.double v120)])) _
  refine Go.via (fun _ => XS.iload X117.here hx rfl (hb hby at_90) rfl) ?_
  refine Go.via (fun _ => XS.iload X117.here hx rfl (hb hby at_92) rfl) ?_
  refine Go.via (fun _ => XS.iload X117.here hx rfl (hb hby at_94) rfl) ?_
  refine Go.via (fun _ => XS.iloadN X117.here hx rfl (hb hby at_96) rfl) ?_
  show Go p e below (T117.setTop (mkF m 97 #[.val (.int s_), .val (.int p1), .val (.int p2), .val (.int aa), .val (.int bb), .val (.int cc), .val (.int nn), .val (.int ix), .val (.int jx), .val (.int kx), .val (.ref b62), .unset, .unset, .unset] [(.int aa), (.int jx), (.int ix), (.int ix), (.double v120)])) _
  refine Go.via (fun _ => XS.iload X117.here hx rfl (hb hby at_97) rfl) ?_
  refine Go.via (fun _ => XS.iload X117.here hx rfl (hb hby at_99) rfl) ?_
  obtain ⟨r122, _, ⟨T122, L122, k122, n122⟩, -, X122, ⟨Lc122, hQ122, l122, y122, z122⟩, st122⟩ := Jvm.LawKit.callS X117 hx (y := (⟨"com/example/libcosearch/libcosearch/ScoreSumsGetPinLaw", "expected", "(IIIIII)D"⟩ : MethodName)) hown (mvT hZ (tw hw 63 rfl)) (mvT hZ (tw hw 64 rfl)) (mvT hZ (tw hw 15 rfl)) (mvT hZ (tw hw 65 rfl)) (by decide) (backOf (W := 2) (rmQ l Z a0 hw [] ix ix jx aa bb cc  T111.heap n0 z118) hZ (tw hw 65 rfl) (tw hw 15 rfl) (by decide) (by decide)) (g := (mkF m 101 #[.val (.int s_), .val (.int p1), .val (.int p2), .val (.int aa), .val (.int bb), .val (.int cc), .val (.int nn), .val (.int ix), .val (.int jx), .val (.int kx), .val (.ref b62), .unset, .unset, .unset] [(.int cc), (.int bb), (.int aa), (.int jx), (.int ix), (.int ix), (.double v120)])) rfl (by rw [hml]; rfl) (argsL := [(.int ix), (.int ix), (.int jx), (.int aa), (.int bb), (.int cc)]) (rest := [(.double v120)]) (lenOf pd__28IIIIII_29D rfl) rfl (by show 2 * 0 + _ ≤ _; exact Nat.le_of_eq rfl) (hb hby at_101) (fun _ _ => ⟨rfl, e117, (by decide : 2 + 0 ≤ _), (by decide : 6 + 0 ≤ _)⟩)
  dsimp only [Pt.U, Pt.locs, Pt.cells, Pt.slots] at X122 l122 y122 z122 st122 hQ122
  rw [l122, y122, z122] at X122
  clear l122 y122 z122
  obtain ⟨v123, hr122, N122q, eh122, qp124⟩ := hQ122
  rw [hr122] at st122
  clear hr122
  have N122 := Fr.app N117 N122q
  refine Go.via (st122) ?_
  clear st122
  have e122 : T122.heap = T111.heap := eh122
  clear X117 e117
  show Go p e below (T122.setTop (mkF m 104 #[.val (.int s_), .val (.int p1), .val (.int p2), .val (.int aa), .val (.int bb), .val (.int cc), .val (.int nn), .val (.int ix), .val (.int jx), .val (.int kx), .val (.ref b62), .unset, .unset, .unset] [(.double v123), (.double v120)])) _
  refine Go.via (fun _ => OwnKit.dcmpl X122.here hx rfl (hb hby at_104) rfl) ?_
  show Go p e below (T122.setTop (mkF m 105 #[.val (.int s_), .val (.int p1), .val (.int p2), .val (.int aa), .val (.int bb), .val (.int cc), .val (.int nn), .val (.int ix), .val (.int jx), .val (.int kx), .val (.ref b62), .unset, .unset, .unset] [(.int (cmpValue (FP.dcmp v120 v123) .l))])) _
  refine Go.via (fun _ => XS.ifNo X122.here hx rfl (hb hby at_105) rfl ((if0 _ _).trans (teq ((own_cmpv qp121 qp124 (own_fin (own_nneg hI) (own_nneg hI) (own_nneg hJ))) : (cmpValue (FP.dcmp v120 v123) .l) = (0 : Int32))).2)) ?_
  show Go p e below (T122.setTop (mkF m 108 #[.val (.int s_), .val (.int p1), .val (.int p2), .val (.int aa), .val (.int bb), .val (.int cc), .val (.int nn), .val (.int ix), .val (.int jx), .val (.int kx), .val (.ref b62), .unset, .unset, .unset] [])) _
  refine Go.via (fun _ => XS.iconst X122.here hx rfl (hb hby at_108)) ?_
  refine Go.via (fun _ => XS.goto X122.here hx rfl (pc0 := 109) (pc' := 113) rfl (hb hby at_109) (by decide) (by decide)) ?_
  refine Go.via (fun _ => XS.istore X122.here hx rfl (hb hby at_113) rfl (l' := #[.val (.int s_), .val (.int p1), .val (.int p2), .val (.int aa), .val (.int bb), .val (.int cc), .val (.int nn), .val (.int ix), .val (.int jx), .val (.int kx), .val (.ref b62), .val (.int (1 : Int32)), .unset, .unset]) rfl) ?_
  show Go p e below (T122.setTop (mkF m 115 #[.val (.int s_), .val (.int p1), .val (.int p2), .val (.int aa), .val (.int bb), .val (.int cc), .val (.int nn), .val (.int ix), .val (.int jx), .val (.int kx), .val (.ref b62), .val (.int (1 : Int32)), .unset, .unset] [])) _
  refine Go.via (fun _ => XS.aload X122.here hx rfl (hb hby at_115) rfl rfl) ?_
  refine Go.via (fun _ => XS.iload X122.here hx rfl (hb hby at_117) rfl) ?_
  obtain ⟨cq125, kq125, q125a, q125b, q125c⟩ := isOf hZ e122 f119
  obtain ⟨r125, _, ⟨T125, L125, k125, n125⟩, -, X125, ⟨Lc125, hQ125, l125, y125, z125⟩, st125⟩ := X122.virtualBack hx (y := (⟨"com/example/libcosearch/libcosearch/ScoreSums", "get", "(I)D"⟩ : MethodName)) (z := (⟨"com/example/libcosearch/libcosearch/ScoreSums", "get", "(I)D"⟩ : MethodName)) hown (mvT hZ (tw hw 58 rfl)) (mvT hZ (tw hw 59 rfl)) (notFace_of_selects (args := #[]) (mvT hZ (tw hw 61 rfl))) (mvT hZ (tw hw 61 rfl)) (mvT hZ (tw hw 60 rfl)) (by decide) (backOf (W := 0) (rmG l Z a0 hw [] b62 jx b69 nn.toNatClampNeg (upd (upd z0 ix aa.toInt) jx (bb.toInt - cc.toInt)) v87 cc.toInt T111.heap n0 z118 f115 f116 f114 (own_nneg hJ) (own_lt hJ) qp91 (own_b32 cc) (fun k => Nat.le_trans (own_upd (own_upd own_z0 (own_b32 aa)) (own_bc bb cc) k) (by decide))) hZ (tw hw 62 rfl) (tw hw 3 rfl) (by decide) (by decide)) q125a q125c (g := (mkF m 119 #[.val (.int s_), .val (.int p1), .val (.int p2), .val (.int aa), .val (.int bb), .val (.int cc), .val (.int nn), .val (.int ix), .val (.int jx), .val (.int kx), .val (.ref b62), .val (.int (1 : Int32)), .unset, .unset] [(.int jx), (.ref b62)])) rfl (by rw [hml]; rfl) (Steps.refl _) (argsL := [(.int jx)]) (rest := []) (lenOf pd__28I_29D rfl) rfl (by show 2 * 0 + _ ≤ _; exact Nat.le_of_eq rfl) (hb hby at_119) (fun _ _ => ⟨rfl, e122, (by decide : 2 + 0 ≤ _), (by decide : 6 + 0 ≤ _)⟩)
  dsimp only [Pt.U, Pt.locs, Pt.cells, Pt.slots] at X125 l125 y125 z125 st125 hQ125
  rw [l125, y125, z125] at X125
  clear l125 y125 z125
  obtain ⟨v126, hr125, N125q, eh125, qp127⟩ := hQ125
  rw [hr125] at st125
  clear hr125
  have N125 := Fr.app N122 N125q
  refine Go.via (fun _ kQ => st125.trans kQ) ?_
  clear st125
  have e125 : T125.heap = T111.heap := eh125
  clear X122 e122
  show Go p e below (T125.setTop (mkF m 122 #[.val (.int s_), .val (.int p1), .val (.int p2), .val (.int aa), .val (.int bb), .val (.int cc), .val (.int nn), .val (.int ix), .val (.int jx), .val (.int kx), .val (.ref b62), .val (.int (1 : Int32)), .unset, .unset] [(.double v126)])) _
  refine Go.via (fun _ => XS.iload X125.here hx rfl (hb hby at_122) rfl) ?_
  refine Go.via (fun _ => XS.iload X125.here hx rfl (hb hby at_124) rfl) ?_
  refine Go.via (fun _ => XS.iload X125.here hx rfl (hb hby at_126) rfl) ?_
  refine Go.via (fun _ => XS.iloadN X125.here hx rfl (hb hby at_128) rfl) ?_
  show Go p e below (T125.setTop (mkF m 129 #[.val (.int s_), .val (.int p1), .val (.int p2), .val (.int aa), .val (.int bb), .val (.int cc), .val (.int nn), .val (.int ix), .val (.int jx), .val (.int kx), .val (.ref b62), .val (.int (1 : Int32)), .unset, .unset] [(.int aa), (.int jx), (.int ix), (.int jx), (.double v126)])) _
  refine Go.via (fun _ => XS.iload X125.here hx rfl (hb hby at_129) rfl) ?_
  refine Go.via (fun _ => XS.iload X125.here hx rfl (hb hby at_131) rfl) ?_
  obtain ⟨r128, _, ⟨T128, L128, k128, n128⟩, -, X128, ⟨Lc128, hQ128, l128, y128, z128⟩, st128⟩ := Jvm.LawKit.callS X125 hx (y := (⟨"com/example/libcosearch/libcosearch/ScoreSumsGetPinLaw", "expected", "(IIIIII)D"⟩ : MethodName)) hown (mvT hZ (tw hw 63 rfl)) (mvT hZ (tw hw 64 rfl)) (mvT hZ (tw hw 15 rfl)) (mvT hZ (tw hw 65 rfl)) (by decide) (backOf (W := 2) (rmQ l Z a0 hw [] jx ix jx aa bb cc  T111.heap n0 z118) hZ (tw hw 65 rfl) (tw hw 15 rfl) (by decide) (by decide)) (g := (mkF m 133 #[.val (.int s_), .val (.int p1), .val (.int p2), .val (.int aa), .val (.int bb), .val (.int cc), .val (.int nn), .val (.int ix), .val (.int jx), .val (.int kx), .val (.ref b62), .val (.int (1 : Int32)), .unset, .unset] [(.int cc), (.int bb), (.int aa), (.int jx), (.int ix), (.int jx), (.double v126)])) rfl (by rw [hml]; rfl) (argsL := [(.int jx), (.int ix), (.int jx), (.int aa), (.int bb), (.int cc)]) (rest := [(.double v126)]) (lenOf pd__28IIIIII_29D rfl) rfl (by show 2 * 0 + _ ≤ _; exact Nat.le_of_eq rfl) (hb hby at_133) (fun _ _ => ⟨rfl, e125, (by decide : 2 + 0 ≤ _), (by decide : 6 + 0 ≤ _)⟩)
  dsimp only [Pt.U, Pt.locs, Pt.cells, Pt.slots] at X128 l128 y128 z128 st128 hQ128
  rw [l128, y128, z128] at X128
  clear l128 y128 z128
  obtain ⟨v129, hr128, N128q, eh128, qp130⟩ := hQ128
  rw [hr128] at st128
  clear hr128
  have N128 := Fr.app N125 N128q
  refine Go.via (st128) ?_
  clear st128
  have e128 : T128.heap = T111.heap := eh128
  clear X125 e125
  show Go p e below (T128.setTop (mkF m 136 #[.val (.int s_), .val (.int p1), .val (.int p2), .val (.int aa), .val (.int bb), .val (.int cc), .val (.int nn), .val (.int ix), .val (.int jx), .val (.int kx), .val (.ref b62), .val (.int (1 : Int32)), .unset, .unset] [(.double v129), (.double v126)])) _
  refine Go.via (fun _ => OwnKit.dcmpl X128.here hx rfl (hb hby at_136) rfl) ?_
  show Go p e below (T128.setTop (mkF m 137 #[.val (.int s_), .val (.int p1), .val (.int p2), .val (.int aa), .val (.int bb), .val (.int cc), .val (.int nn), .val (.int ix), .val (.int jx), .val (.int kx), .val (.ref b62), .val (.int (1 : Int32)), .unset, .unset] [(.int (cmpValue (FP.dcmp v126 v129) .l))])) _
  refine Go.via (fun _ => XS.ifNo X128.here hx rfl (hb hby at_137) rfl ((if0 _ _).trans (teq ((own_cmpv qp127 qp130 (own_fin (own_nneg hJ) (own_nneg hI) (own_nneg hJ))) : (cmpValue (FP.dcmp v126 v129) .l) = (0 : Int32))).2)) ?_
  show Go p e below (T128.setTop (mkF m 140 #[.val (.int s_), .val (.int p1), .val (.int p2), .val (.int aa), .val (.int bb), .val (.int cc), .val (.int nn), .val (.int ix), .val (.int jx), .val (.int kx), .val (.ref b62), .val (.int (1 : Int32)), .unset, .unset] [])) _
  refine Go.via (fun _ => XS.iconst X128.here hx rfl (hb hby at_140)) ?_
  refine Go.via (fun _ => XS.goto X128.here hx rfl (pc0 := 141) (pc' := 145) rfl (hb hby at_141) (by decide) (by decide)) ?_
  refine Go.via (fun _ => XS.istore X128.here hx rfl (hb hby at_145) rfl (l' := #[.val (.int s_), .val (.int p1), .val (.int p2), .val (.int aa), .val (.int bb), .val (.int cc), .val (.int nn), .val (.int ix), .val (.int jx), .val (.int kx), .val (.ref b62), .val (.int (1 : Int32)), .val (.int (1 : Int32)), .unset]) rfl) ?_
  show Go p e below (T128.setTop (mkF m 147 #[.val (.int s_), .val (.int p1), .val (.int p2), .val (.int aa), .val (.int bb), .val (.int cc), .val (.int nn), .val (.int ix), .val (.int jx), .val (.int kx), .val (.ref b62), .val (.int (1 : Int32)), .val (.int (1 : Int32)), .unset] [])) _
  refine Go.via (fun _ => XS.aload X128.here hx rfl (hb hby at_147) rfl rfl) ?_
  refine Go.via (fun _ => XS.iload X128.here hx rfl (hb hby at_149) rfl) ?_
  obtain ⟨cq131, kq131, q131a, q131b, q131c⟩ := isOf hZ e128 f119
  obtain ⟨r131, _, ⟨T131, L131, k131, n131⟩, -, X131, ⟨Lc131, hQ131, l131, y131, z131⟩, st131⟩ := X128.virtualBack hx (y := (⟨"com/example/libcosearch/libcosearch/ScoreSums", "get", "(I)D"⟩ : MethodName)) (z := (⟨"com/example/libcosearch/libcosearch/ScoreSums", "get", "(I)D"⟩ : MethodName)) hown (mvT hZ (tw hw 58 rfl)) (mvT hZ (tw hw 59 rfl)) (notFace_of_selects (args := #[]) (mvT hZ (tw hw 61 rfl))) (mvT hZ (tw hw 61 rfl)) (mvT hZ (tw hw 60 rfl)) (by decide) (backOf (W := 0) (rmG l Z a0 hw [] b62 kx b69 nn.toNatClampNeg (upd (upd z0 ix aa.toInt) jx (bb.toInt - cc.toInt)) v87 cc.toInt T111.heap n0 z118 f115 f116 f114 (own_nneg hKx) (own_lt hKx) qp91 (own_b32 cc) (fun k => Nat.le_trans (own_upd (own_upd own_z0 (own_b32 aa)) (own_bc bb cc) k) (by decide))) hZ (tw hw 62 rfl) (tw hw 3 rfl) (by decide) (by decide)) q131a q131c (g := (mkF m 151 #[.val (.int s_), .val (.int p1), .val (.int p2), .val (.int aa), .val (.int bb), .val (.int cc), .val (.int nn), .val (.int ix), .val (.int jx), .val (.int kx), .val (.ref b62), .val (.int (1 : Int32)), .val (.int (1 : Int32)), .unset] [(.int kx), (.ref b62)])) rfl (by rw [hml]; rfl) (Steps.refl _) (argsL := [(.int kx)]) (rest := []) (lenOf pd__28I_29D rfl) rfl (by show 2 * 0 + _ ≤ _; exact Nat.le_of_eq rfl) (hb hby at_151) (fun _ _ => ⟨rfl, e128, (by decide : 2 + 0 ≤ _), (by decide : 6 + 0 ≤ _)⟩)
  dsimp only [Pt.U, Pt.locs, Pt.cells, Pt.slots] at X131 l131 y131 z131 st131 hQ131
  rw [l131, y131, z131] at X131
  clear l131 y131 z131
  obtain ⟨v132, hr131, N131q, eh131, qp133⟩ := hQ131
  rw [hr131] at st131
  clear hr131
  have N131 := Fr.app N128 N131q
  refine Go.via (fun _ kQ => st131.trans kQ) ?_
  clear st131
  have e131 : T131.heap = T111.heap := eh131
  clear X128 e128
  show Go p e below (T131.setTop (mkF m 154 #[.val (.int s_), .val (.int p1), .val (.int p2), .val (.int aa), .val (.int bb), .val (.int cc), .val (.int nn), .val (.int ix), .val (.int jx), .val (.int kx), .val (.ref b62), .val (.int (1 : Int32)), .val (.int (1 : Int32)), .unset] [(.double v132)])) _
  refine Go.via (fun _ => XS.iload X131.here hx rfl (hb hby at_154) rfl) ?_
  refine Go.via (fun _ => XS.iload X131.here hx rfl (hb hby at_156) rfl) ?_
  refine Go.via (fun _ => XS.iload X131.here hx rfl (hb hby at_158) rfl) ?_
  refine Go.via (fun _ => XS.iloadN X131.here hx rfl (hb hby at_160) rfl) ?_
  show Go p e below (T131.setTop (mkF m 161 #[.val (.int s_), .val (.int p1), .val (.int p2), .val (.int aa), .val (.int bb), .val (.int cc), .val (.int nn), .val (.int ix), .val (.int jx), .val (.int kx), .val (.ref b62), .val (.int (1 : Int32)), .val (.int (1 : Int32)), .unset] [(.int aa), (.int jx), (.int ix), (.int kx), (.double v132)])) _
  refine Go.via (fun _ => XS.iload X131.here hx rfl (hb hby at_161) rfl) ?_
  refine Go.via (fun _ => XS.iload X131.here hx rfl (hb hby at_163) rfl) ?_
  obtain ⟨r134, _, ⟨T134, L134, k134, n134⟩, -, X134, ⟨Lc134, hQ134, l134, y134, z134⟩, st134⟩ := Jvm.LawKit.callS X131 hx (y := (⟨"com/example/libcosearch/libcosearch/ScoreSumsGetPinLaw", "expected", "(IIIIII)D"⟩ : MethodName)) hown (mvT hZ (tw hw 63 rfl)) (mvT hZ (tw hw 64 rfl)) (mvT hZ (tw hw 15 rfl)) (mvT hZ (tw hw 65 rfl)) (by decide) (backOf (W := 2) (rmQ l Z a0 hw [] kx ix jx aa bb cc  T111.heap n0 z118) hZ (tw hw 65 rfl) (tw hw 15 rfl) (by decide) (by decide)) (g := (mkF m 165 #[.val (.int s_), .val (.int p1), .val (.int p2), .val (.int aa), .val (.int bb), .val (.int cc), .val (.int nn), .val (.int ix), .val (.int jx), .val (.int kx), .val (.ref b62), .val (.int (1 : Int32)), .val (.int (1 : Int32)), .unset] [(.int cc), (.int bb), (.int aa), (.int jx), (.int ix), (.int kx), (.double v132)])) rfl (by rw [hml]; rfl) (argsL := [(.int kx), (.int ix), (.int jx), (.int aa), (.int bb), (.int cc)]) (rest := [(.double v132)]) (lenOf pd__28IIIIII_29D rfl) rfl (by show 2 * 0 + _ ≤ _; exact Nat.le_of_eq rfl) (hb hby at_165) (fun _ _ => ⟨rfl, e131, (by decide : 2 + 0 ≤ _), (by decide : 6 + 0 ≤ _)⟩)
  dsimp only [Pt.U, Pt.locs, Pt.cells, Pt.slots] at X134 l134 y134 z134 st134 hQ134
  rw [l134, y134, z134] at X134
  clear l134 y134 z134
  obtain ⟨v135, hr134, N134q, eh134, qp136⟩ := hQ134
  rw [hr134] at st134
  clear hr134
  have N134 := Fr.app N131 N134q
  refine Go.via (st134) ?_
  clear st134
  have e134 : T134.heap = T111.heap := eh134
  clear X131 e131
  show Go p e below (T134.setTop (mkF m 168 #[.val (.int s_), .val (.int p1), .val (.int p2), .val (.int aa), .val (.int bb), .val (.int cc), .val (.int nn), .val (.int ix), .val (.int jx), .val (.int kx), .val (.ref b62), .val (.int (1 : Int32)), .val (.int (1 : Int32)), .unset] [(.double v135), (.double v132)])) _
  refine Go.via (fun _ => OwnKit.dcmpl X134.here hx rfl (hb hby at_168) rfl) ?_
  show Go p e below (T134.setTop (mkF m 169 #[.val (.int s_), .val (.int p1), .val (.int p2), .val (.int aa), .val (.int bb), .val (.int cc), .val (.int nn), .val (.int ix), .val (.int jx), .val (.int kx), .val (.ref b62), .val (.int (1 : Int32)), .val (.int (1 : Int32)), .unset] [(.int (cmpValue (FP.dcmp v132 v135) .l))])) _
  refine Go.via (fun _ => XS.ifNo X134.here hx rfl (hb hby at_169) rfl ((if0 _ _).trans (teq ((own_cmpv qp133 qp136 (own_fin (own_nneg hKx) (own_nneg hI) (own_nneg hJ))) : (cmpValue (FP.dcmp v132 v135) .l) = (0 : Int32))).2)) ?_
  show Go p e below (T134.setTop (mkF m 172 #[.val (.int s_), .val (.int p1), .val (.int p2), .val (.int aa), .val (.int bb), .val (.int cc), .val (.int nn), .val (.int ix), .val (.int jx), .val (.int kx), .val (.ref b62), .val (.int (1 : Int32)), .val (.int (1 : Int32)), .unset] [])) _
  refine Go.via (fun _ => XS.iconst X134.here hx rfl (hb hby at_172)) ?_
  refine Go.via (fun _ => XS.goto X134.here hx rfl (pc0 := 173) (pc' := 177) rfl (hb hby at_173) (by decide) (by decide)) ?_
  refine Go.via (fun _ => XS.istore X134.here hx rfl (hb hby at_177) rfl (l' := #[.val (.int s_), .val (.int p1), .val (.int p2), .val (.int aa), .val (.int bb), .val (.int cc), .val (.int nn), .val (.int ix), .val (.int jx), .val (.int kx), .val (.ref b62), .val (.int (1 : Int32)), .val (.int (1 : Int32)), .val (.int (1 : Int32))]) rfl) ?_
  show Go p e below (T134.setTop (mkF m 179 #[.val (.int s_), .val (.int p1), .val (.int p2), .val (.int aa), .val (.int bb), .val (.int cc), .val (.int nn), .val (.int ix), .val (.int jx), .val (.int kx), .val (.ref b62), .val (.int (1 : Int32)), .val (.int (1 : Int32)), .val (.int (1 : Int32))] [])) _
  refine Go.via (fun _ => XS.iload X134.here hx rfl (hb hby at_179) rfl) ?_
  refine Go.via (fun _ => XS.ifNo X134.here hx rfl (hb hby at_181) rfl ((if0 _ _).trans (feq ((by decide) : ¬ ((1 : Int32) = (0 : Int32)))).1)) ?_
  show Go p e below (T134.setTop (mkF m 184 #[.val (.int s_), .val (.int p1), .val (.int p2), .val (.int aa), .val (.int bb), .val (.int cc), .val (.int nn), .val (.int ix), .val (.int jx), .val (.int kx), .val (.ref b62), .val (.int (1 : Int32)), .val (.int (1 : Int32)), .val (.int (1 : Int32))] [])) _
  refine Go.via (fun _ => XS.iload X134.here hx rfl (hb hby at_184) rfl) ?_
  refine Go.via (fun _ => XS.ifNo X134.here hx rfl (hb hby at_186) rfl ((if0 _ _).trans (feq ((by decide) : ¬ ((1 : Int32) = (0 : Int32)))).1)) ?_
  show Go p e below (T134.setTop (mkF m 189 #[.val (.int s_), .val (.int p1), .val (.int p2), .val (.int aa), .val (.int bb), .val (.int cc), .val (.int nn), .val (.int ix), .val (.int jx), .val (.int kx), .val (.ref b62), .val (.int (1 : Int32)), .val (.int (1 : Int32)), .val (.int (1 : Int32))] [])) _
  refine Go.via (fun _ => XS.iload X134.here hx rfl (hb hby at_189) rfl) ?_
  refine Go.via (fun _ => XS.ifNo X134.here hx rfl (hb hby at_191) rfl ((if0 _ _).trans (feq ((by decide) : ¬ ((1 : Int32) = (0 : Int32)))).1)) ?_
  show Go p e below (T134.setTop (mkF m 194 #[.val (.int s_), .val (.int p1), .val (.int p2), .val (.int aa), .val (.int bb), .val (.int cc), .val (.int nn), .val (.int ix), .val (.int jx), .val (.int kx), .val (.ref b62), .val (.int (1 : Int32)), .val (.int (1 : Int32)), .val (.int (1 : Int32))] [])) _
  refine Go.via (fun _ => XS.iconst X134.here hx rfl (hb hby at_194)) ?_
  refine Go.via (fun _ => XS.goto X134.here hx rfl (pc0 := 195) (pc' := 199) rfl (hb hby at_195) (by decide) (by decide)) ?_
  have k137 : Keep h0 T111.heap [] := ((((k77.trans K67q (allS (Or.inr sz64) all0)).trans K86q (allS (Or.inr sz64) all0)).trans K100q (allS (Or.inr sz76) all0)).trans K111q (allS (Or.inr sz76) all0))
  exact Go.fin X134 hlk (v := some (.int (1 : Int32))) (fun h => by rw [Bd.returns] at h; cases h) (fun fs hr => retN X134 hx (t := .boolean) Bd.returns (by simp) (hb hby at_199) hr) (by rw [e134]; exact ⟨rfl, N134, k137⟩) (by decide) (by decide)
set_option maxRecDepth 65536 in
set_option maxHeartbeats 40000000 in
theorem comes_1 {Post : Tables → Env → Array Value → State → Outcome → State → Prop} (hpost : ∀ tb e args s v u, (limb_1_1.after args s (.returned v) u = true ∧ limb_1_2.after args s (.returned v) u = true ∧ True) → FrameEnd s (.returned v) u (Jvm.fieldLocs frame_1_writes args s ++ Jvm.arrayLocs frame_1_arrays args s ++ Jvm.staticLocs frame_1_statics s) 16 128 → Post tb e args s (.returned v) u) :
    ArmFor flags0 classFile x code maxLocals ret World_1 tables_1 room_1 Calls_1 rest_1 Pre_1 Post := by
  intro l hfl _ _ p e ha hc hk s m args below hf hA hF happ hP
  obtain ⟨hcalls, hrest, hpre⟩ := hP
  obtain ⟨-, -, -, hnamed, -, -, -, hat⟩ := (Spec.applies_iff hf).mp happ
  obtain ⟨hg, hn⟩ := and_e (Cond.before_iff.mp (show (Jvm.Cond.and given_1 narrow_1).before args s = true from hpre))
  obtain ⟨g0, r0⟩ := and_e hg
  obtain ⟨q0, r1⟩ := and_e r0
  obtain ⟨q1, r2⟩ := and_e r1
  obtain ⟨q2, r3⟩ := and_e r2
  obtain ⟨q3, r4⟩ := and_e r3
  obtain ⟨q4, r5⟩ := and_e r4
  have q5 := r5
  obtain ⟨w0, w1, w2, w3, w4, w5, rfl⟩ : ∃ w0 w1 w2 w3 w4 w5 : Value, args = #[w0, w1, w2, w3, w4, w5] := by
    have hs : args.size = 6 := by simpa [Cond.value, given_1] using g0
    obtain ⟨L⟩ := args
    match L, hs with
    | [w0, w1, w2, w3, w4, w5], _ => exact ⟨w0, w1, w2, w3, w4, w5, rfl⟩
  have hw := fun d (hd : d ∈ tables_1) => atoms_spec (ws := Jvm.Cond.code x code maxLocals ret :: tables_1) hat d (List.mem_cons_of_mem _ hd)
  have hfit : Fit s := fun {y c} hc i hi => by
    obtain ⟨ha, rfl⟩ := Array.getElem?_eq_some_iff.mp hc
    have q := List.all_eq_true.mp ((Array.all_eq_true_iff_forall_mem.mp hF) _ (Array.getElem_mem ha)) i (List.mem_range.mpr hi)
    simpa [Array.getElem?_eq_getElem hi] using q
  obtain ⟨i0, ei0⟩ := is_v q0
  obtain rfl : w0 = (.int i0) := Option.some.inj ei0
  obtain ⟨i1, ei1⟩ := is_v q1
  obtain rfl : w1 = (.int i1) := Option.some.inj ei1
  obtain ⟨i2, ei2⟩ := is_v q2
  obtain rfl : w2 = (.int i2) := Option.some.inj ei2
  obtain ⟨i3, ei3⟩ := is_v q3
  obtain rfl : w3 = (.int i3) := Option.some.inj ei3
  obtain ⟨i4, ei4⟩ := is_v q4
  obtain rfl : w4 = (.int i4) := Option.some.inj ei4
  obtain ⟨i5, ei5⟩ := is_v q5
  obtain rfl : w5 = (.int i5) := Option.some.inj ei5
  obtain ⟨n, o, h1, h2, h3, _, L, rfl, ⟨rfl, N, -⟩, hq⟩ := rm0 l s _ hw tables_1 i0 i1 i2 i3 i4 i5  s.heap s.heap.size (Nat.le_refl _)  p e ha hc hk s m _ below hf ((Spec.applies_iff_loose hf).mp happ).1 ⟨rfl, State.Warmed39.refl s, rfl⟩ trivial
  refine ⟨n, _, h1, h2, h3, hpost _ _ _ _ _ _ ⟨Cond.after_iff.mpr rfl, Cond.after_iff.mpr (eq_i res_at (Term.int_eval (1)) rfl), trivial⟩ ⟨hq.1, hq.2.1, (hq.2.2.sift fun y hy => Or.inr (N y hy)).mono (by decide) (by decide)⟩⟩
theorem main_1_1 : Claimed_1_1 := comes_1 fun _ _ _ _ _ _ h hF => ⟨h.1, hF⟩
theorem main_1_2 : Claimed_1_2 := comes_1 fun _ _ _ _ _ _ h hF => ⟨h.2.1, hF⟩
end Jvm.Pilot.@@N@@
namespace Jvm.Pilot.@@N@@
open Jvm Jvm.ClassFile Sem Op Lib Jvm.Free Jvm.Stand Jvm.Pilot.@@N@@.Jvm.D
/-! MADE BY PROGRAM (witnessworld.py) out of the Statement's table words and the real class files: 17 classes; the members and pool entries that the words name. The judged class is class 1, her method 1. -/
namespace start1
open Jvm.ClassFile
def u (s : String) : CpInfo := .utf8 (stringToUtf16 s)
/-- a pool by its gaps: so many unusable entries, then the entry; so many at the end -/
def gap : Nat → List CpInfo → List CpInfo
  | 0, r => r
  | n + 1, r => .unusable :: gap n r
def poolList (es : List (Nat × CpInfo)) (last : Nat) : List CpInfo := es.foldr (fun e r => gap e.1 (e.2 :: r)) (gap last [])
def pool (es : List (Nat × CpInfo)) (last : Nat) : Array CpInfo := ⟨poolList es last⟩
def fileOf (pool : Array CpInfo) (this : Nat) (attrs : Array Attribute := #[]) (ms : Array MethodInfo := #[]) (fl : Nat := 33) (sup : Nat := 0) (ifs : Array Nat := #[]) (fds : Array FieldInfo := #[]) : ClassFile where
  minorVersion := 0
  majorVersion := 65
  constantPool := pool
  accessFlags := fl
  thisClass := this
  superClass := sup
  interfaces := ifs
  fields := fds
  methods := ms
  attributes := attrs
def plain (name : String) (sup : Option ClassId) : Class where
  name := name
  kind := .ordinary
  loader := none
  accessFlags := 33
  super := sup
  interfaces := #[]
  cf := none
  fields := #[]
  methods := #[]
  instanceTypes := #[]
  staticTypes := #[]
  resolved := #[]
  callSites := []
  init := .initialized
  statics := none
  mirror := none

def pool0 : Array CpInfo := pool [(5, u "<init>"), (0, u "()V"), (1, .class_ 10), (1, u "java/lang/Object")] 113

def k0c0 : Code := { maxStack := 0, maxLocals := 1, code := object_method_1_code, exceptionTable := #[], attributes := #[] }
def k0m0 : Method := { name := "<init>", desc := "()V", sig := { parameters := [], returnType := none }, accessFlags := 1, code := some k0c0 }
/-- java/lang/Object -/
def k0 : Class := { plain "java/lang/Object" none with
  accessFlags := 33
  interfaces := #[]
  cf := some (fileOf pool0 8 #[] #[{ accessFlags := 1, nameIndex := 5, descriptorIndex := 6, attributes := #[] }] 33 0 #[] #[])
  fields := #[]
  methods := #[k0m0]
  instanceTypes := #[]
  staticTypes := #[]
  resolved := Array.replicate 124 none
  statics := none }

def pool1 : Array CpInfo := pool [(2, .class_ 4), (1, u "java/lang/Object"), (0, u "<init>"), (0, u "()V"), (0, .integer 2147483647), (0, .class_ 9), (0, u "com/example/libcosearch/libcosearch/ScoreSums"), (0, .methodref 8 11), (0, .nameAndType 5 12), (0, u "(I)V"), (0, .methodref 14 15), (0, .class_ 16), (0, .nameAndType 17 18), (0, u "com/example/libcosearch/libcosearch/ScoreSumsGetPinLaw"), (0, u "part"), (0, u "(I)D"), (0, .methodref 8 20), (0, .nameAndType 21 22), (0, u "addToEach"), (0, u "(D)V"), (0, .methodref 8 24), (0, .nameAndType 25 26), (0, u "add"), (0, u "(ID)V"), (0, .methodref 8 28), (0, .nameAndType 29 30), (0, u "replace"), (0, u "(IDD)V"), (0, .methodref 8 32), (0, .nameAndType 33 18), (0, u "get"), (0, .methodref 14 35), (0, .nameAndType 36 37), (0, u "expected"), (0, u "(IIIIII)D"), (0, .double 4679240012837945344), (3, u "law"), (0, u "(IIIIII)Z")] 3

def k1m0 : Method := { name := "<init>", desc := "()V", sig := { parameters := [], returnType := none }, accessFlags := 1, code := none }
def k1c1 : Code := { maxStack := 8, maxLocals := 14, code := code, exceptionTable := #[], attributes := #[] }
def k1m1 : Method := { name := "law", desc := "(IIIIII)Z", sig := { parameters := [.int, .int, .int, .int, .int, .int], returnType := some .boolean }, accessFlags := 9, code := some k1c1 }
def k1c2 : Code := { maxStack := 4, maxLocals := 1, code := method_3_code, exceptionTable := #[], attributes := #[] }
def k1m2 : Method := { name := "part", desc := "(I)D", sig := { parameters := [.int], returnType := some .double }, accessFlags := 10, code := some k1c2 }
def k1c3 : Code := { maxStack := 4, maxLocals := 8, code := method_4_code, exceptionTable := #[], attributes := #[] }
def k1m3 : Method := { name := "expected", desc := "(IIIIII)D", sig := { parameters := [.int, .int, .int, .int, .int, .int], returnType := some .double }, accessFlags := 10, code := some k1c3 }
/-- com/example/libcosearch/libcosearch/ScoreSumsGetPinLaw -/
def k1 : Class := { plain "com/example/libcosearch/libcosearch/ScoreSumsGetPinLaw" (some 0) with
  accessFlags := 49
  interfaces := #[]
  cf := some (fileOf pool1 14 #[] #[{ accessFlags := 1, nameIndex := 5, descriptorIndex := 6, attributes := #[] }, { accessFlags := 9, nameIndex := 42, descriptorIndex := 43, attributes := #[] }, { accessFlags := 10, nameIndex := 17, descriptorIndex := 18, attributes := #[] }, { accessFlags := 10, nameIndex := 36, descriptorIndex := 37, attributes := #[] }] 49 2 #[] #[])
  fields := #[]
  methods := #[k1m0, k1m1, k1m2, k1m3]
  instanceTypes := #[]
  staticTypes := #[]
  resolved := Array.replicate 47 none
  statics := none }

def pool2 : Array CpInfo := pool [(1, .methodref 2 3), (0, .class_ 4), (0, .nameAndType 5 6), (0, u "java/lang/Object"), (0, u "<init>"), (0, u "()V"), (0, .fieldref 8 9), (0, .class_ 10), (0, .nameAndType 11 12), (0, u "com/example/libcosearch/libcosearch/ScoreSums"), (0, u "units"), (0, u "[J"), (0, .fieldref 8 14), (0, .nameAndType 15 16), (0, u "common"), (0, u "J"), (0, .methodref 8 18), (0, .nameAndType 11 19), (0, u "(D)J"), (0, .methodref 21 22), (0, .class_ 23), (0, .nameAndType 24 25), (0, u "java/lang/Math"), (0, u "addExact"), (0, u "(JJ)J"), (0, .methodref 21 27), (0, .nameAndType 28 25), (0, u "subtractExact"), (0, .double 4787326403894837248), (1, .methodref 21 32), (0, .nameAndType 33 19), (0, u "round"), (0, u "UNITS_PER_ONE"), (0, u "D"), (1, u "(I)V"), (2, u "addToEach"), (0, u "(D)V"), (0, u "add"), (0, u "(ID)V"), (0, u "replace"), (0, u "(IDD)V"), (0, u "get"), (0, u "(I)D")] 2

def k2c0 : Code := { maxStack := 2, maxLocals := 2, code := prog_32_method_1_code, exceptionTable := #[], attributes := #[] }
def k2m0 : Method := { name := "<init>", desc := "(I)V", sig := { parameters := [.int], returnType := none }, accessFlags := 0, code := some k2c0 }
def k2c1 : Code := { maxStack := 5, maxLocals := 3, code := prog_32_method_2_code, exceptionTable := #[], attributes := #[] }
def k2m1 : Method := { name := "addToEach", desc := "(D)V", sig := { parameters := [.double], returnType := none }, accessFlags := 0, code := some k2c1 }
def k2c2 : Code := { maxStack := 6, maxLocals := 4, code := prog_32_method_3_code, exceptionTable := #[], attributes := #[] }
def k2m2 : Method := { name := "add", desc := "(ID)V", sig := { parameters := [.int, .double], returnType := none }, accessFlags := 0, code := some k2c2 }
def k2c3 : Code := { maxStack := 8, maxLocals := 6, code := prog_32_method_4_code, exceptionTable := #[], attributes := #[] }
def k2m3 : Method := { name := "replace", desc := "(IDD)V", sig := { parameters := [.int, .double, .double], returnType := none }, accessFlags := 0, code := some k2c3 }
def k2c4 : Code := { maxStack := 4, maxLocals := 2, code := prog_32_method_5_code, exceptionTable := #[], attributes := #[] }
def k2m4 : Method := { name := "get", desc := "(I)D", sig := { parameters := [.int], returnType := some .double }, accessFlags := 0, code := some k2c4 }
def k2c5 : Code := { maxStack := 4, maxLocals := 2, code := prog_32_method_6_code, exceptionTable := #[], attributes := #[] }
def k2m5 : Method := { name := "units", desc := "(D)J", sig := { parameters := [.double], returnType := some .long }, accessFlags := 10, code := some k2c5 }
/-- com/example/libcosearch/libcosearch/ScoreSums -/
def k2 : Class := { plain "com/example/libcosearch/libcosearch/ScoreSums" (some 0) with
  accessFlags := 32
  interfaces := #[]
  cf := some (fileOf pool2 8 #[] #[{ accessFlags := 0, nameIndex := 5, descriptorIndex := 37, attributes := #[] }, { accessFlags := 0, nameIndex := 40, descriptorIndex := 41, attributes := #[] }, { accessFlags := 0, nameIndex := 42, descriptorIndex := 43, attributes := #[] }, { accessFlags := 0, nameIndex := 44, descriptorIndex := 45, attributes := #[] }, { accessFlags := 0, nameIndex := 46, descriptorIndex := 47, attributes := #[] }, { accessFlags := 10, nameIndex := 11, descriptorIndex := 19, attributes := #[] }] 32 2 #[] #[{ accessFlags := 26, nameIndex := 34, descriptorIndex := 35, attributes := #[] }, { accessFlags := 18, nameIndex := 11, descriptorIndex := 12, attributes := #[] }, { accessFlags := 2, nameIndex := 15, descriptorIndex := 16, attributes := #[] }])
  fields := #[{ name := "UNITS_PER_ONE", type := .double, accessFlags := 26, slot := 0, constantValue := 0 }, { name := "units", type := (.array .long), accessFlags := 18, slot := 0, constantValue := 0 }, { name := "common", type := .long, accessFlags := 2, slot := 1, constantValue := 0 }]
  methods := #[k2m0, k2m1, k2m2, k2m3, k2m4, k2m5]
  instanceTypes := #[(.array .long), .long]
  staticTypes := #[.double]
  resolved := Array.replicate 50 none
  statics := none }

def pool3 : Array CpInfo := pool [(1, .class_ 2), (0, u "java/lang/Math"), (1, .class_ 6), (1, u "java/lang/Object"), (0, u "<init>"), (0, u "()V"), (70, .methodref 80 81), (0, .class_ 82), (0, .nameAndType 83 84), (0, u "java/lang/Double"), (0, u "doubleToRawLongBits"), (0, u "(D)J"), (2, .long 9218868437227405312), (1, .long 1074), (1, .long 18446744073709551552), (1, .long 4503599627370495), (1, .long 4503599627370496), (2, .class_ 100), (1, u "java/lang/Math$RandomNumberGeneratorHolder"), (20, u "(JJ)J"), (50, u "negativeZeroFloatBits"), (0, u "J"), (2, u "negativeZeroDoubleBits"), (68, u "$assertionsDisabled"), (0, u "Z"), (91, u "twoToTheDoubleScaleDown"), (0, u "D"), (4, u "twoToTheDoubleScaleUp"), (9, u "E"), (3, u "PI"), (2, u "TAU"), (2, u "DEGREES_TO_RADIANS"), (0, u "RADIANS_TO_DEGREES"), (17, u "round"), (9, u "addExact"), (0, u "subtractExact")] 65

def k3m0 : Method := { name := "<init>", desc := "()V", sig := { parameters := [], returnType := none }, accessFlags := 2, code := none }
def k3c1 : Code := { maxStack := 4, maxLocals := 10, code := jdk_29_method_22_code, exceptionTable := #[], attributes := #[] }
def k3m1 : Method := { name := "round", desc := "(D)J", sig := { parameters := [.double], returnType := some .long }, accessFlags := 9, code := some k3c1 }
def k3c2 : Code := { maxStack := 6, maxLocals := 6, code := jdk_29_method_25_code, exceptionTable := #[], attributes := #[] }
def k3m2 : Method := { name := "addExact", desc := "(JJ)J", sig := { parameters := [.long, .long], returnType := some .long }, accessFlags := 9, code := some k3c2 }
def k3c3 : Code := { maxStack := 6, maxLocals := 6, code := jdk_29_method_27_code, exceptionTable := #[], attributes := #[] }
def k3m3 : Method := { name := "subtractExact", desc := "(JJ)J", sig := { parameters := [.long, .long], returnType := some .long }, accessFlags := 9, code := some k3c3 }
/-- java/lang/Math -/
def k3 : Class := { plain "java/lang/Math" (some 0) with
  accessFlags := 49
  interfaces := #[]
  cf := some (fileOf pool3 1 #[.nestMembers #[98]] #[{ accessFlags := 2, nameIndex := 7, descriptorIndex := 8, attributes := #[] }, { accessFlags := 9, nameIndex := 383, descriptorIndex := 84, attributes := #[] }, { accessFlags := 9, nameIndex := 393, descriptorIndex := 121, attributes := #[] }, { accessFlags := 9, nameIndex := 394, descriptorIndex := 121, attributes := #[] }] 49 4 #[] #[{ accessFlags := 25, nameIndex := 354, descriptorIndex := 339, attributes := #[] }, { accessFlags := 25, nameIndex := 358, descriptorIndex := 339, attributes := #[] }, { accessFlags := 25, nameIndex := 361, descriptorIndex := 339, attributes := #[] }, { accessFlags := 26, nameIndex := 364, descriptorIndex := 339, attributes := #[] }, { accessFlags := 26, nameIndex := 365, descriptorIndex := 339, attributes := #[] }, { accessFlags := 26, nameIndex := 172, descriptorIndex := 173, attributes := #[] }, { accessFlags := 26, nameIndex := 176, descriptorIndex := 173, attributes := #[] }, { accessFlags := 8, nameIndex := 344, descriptorIndex := 339, attributes := #[] }, { accessFlags := 8, nameIndex := 338, descriptorIndex := 339, attributes := #[] }, { accessFlags := 4120, nameIndex := 245, descriptorIndex := 246, attributes := #[] }])
  fields := #[{ name := "E", type := .double, accessFlags := 25, slot := 0, constantValue := 0 }, { name := "PI", type := .double, accessFlags := 25, slot := 1, constantValue := 0 }, { name := "TAU", type := .double, accessFlags := 25, slot := 2, constantValue := 0 }, { name := "DEGREES_TO_RADIANS", type := .double, accessFlags := 26, slot := 3, constantValue := 0 }, { name := "RADIANS_TO_DEGREES", type := .double, accessFlags := 26, slot := 4, constantValue := 0 }, { name := "negativeZeroFloatBits", type := .long, accessFlags := 26, slot := 5, constantValue := 0 }, { name := "negativeZeroDoubleBits", type := .long, accessFlags := 26, slot := 6, constantValue := 0 }, { name := "twoToTheDoubleScaleUp", type := .double, accessFlags := 8, slot := 7, constantValue := 0 }, { name := "twoToTheDoubleScaleDown", type := .double, accessFlags := 8, slot := 8, constantValue := 0 }, { name := "$assertionsDisabled", type := .boolean, accessFlags := 4120, slot := 9, constantValue := 0 }]
  methods := #[k3m0, k3m1, k3m2, k3m3]
  instanceTypes := #[]
  staticTypes := #[.double, .double, .double, .double, .double, .long, .long, .double, .double, .boolean]
  resolved := Array.replicate 460 none
  statics := none }

def pool4 : Array CpInfo := pool [(1, .class_ 2), (0, u "java/io/Serializable"), (0, .class_ 4), (0, u "java/lang/Object")] 2

/-- java/io/Serializable -/
def k4 : Class := { plain "java/io/Serializable" (some 0) with
  accessFlags := 1537
  interfaces := #[]
  cf := some (fileOf pool4 1 #[] #[] 1537 3 #[] #[])
  fields := #[]
  methods := #[]
  instanceTypes := #[]
  staticTypes := #[]
  resolved := Array.replicate 7 none
  statics := none }

def pool5 : Array CpInfo := pool [(2, .class_ 4), (1, u "java/lang/Object"), (0, u "<init>"), (0, u "()V"), (1, .class_ 10), (1, u "java/lang/Number"), (2, .class_ 14), (0, u "java/io/Serializable"), (0, u "serialVersionUID"), (0, u "J")] 20

def k5m0 : Method := { name := "<init>", desc := "()V", sig := { parameters := [], returnType := none }, accessFlags := 1, code := none }
/-- java/lang/Number -/
def k5 : Class := { plain "java/lang/Number" (some 0) with
  accessFlags := 1057
  interfaces := #[4]
  cf := some (fileOf pool5 8 #[] #[{ accessFlags := 1, nameIndex := 5, descriptorIndex := 6, attributes := #[] }] 1057 2 #[13] #[{ accessFlags := 26, nameIndex := 15, descriptorIndex := 16, attributes := #[] }])
  fields := #[{ name := "serialVersionUID", type := .long, accessFlags := 26, slot := 0, constantValue := 0 }]
  methods := #[k5m0]
  instanceTypes := #[]
  staticTypes := #[.long]
  resolved := Array.replicate 37 none
  statics := none }

def pool6 : Array CpInfo := pool [(1, .class_ 2), (0, u "java/lang/Comparable"), (0, .class_ 4), (0, u "java/lang/Object")] 7

/-- java/lang/Comparable -/
def k6 : Class := { plain "java/lang/Comparable" (some 0) with
  accessFlags := 1537
  interfaces := #[]
  cf := some (fileOf pool6 1 #[] #[] 1537 3 #[] #[])
  fields := #[]
  methods := #[]
  instanceTypes := #[]
  staticTypes := #[]
  resolved := Array.replicate 12 none
  statics := none }

def pool7 : Array CpInfo := pool [(1, .class_ 2), (0, u "java/lang/constant/Constable"), (0, .class_ 4), (0, u "java/lang/Object")] 6

/-- java/lang/constant/Constable -/
def k7 : Class := { plain "java/lang/constant/Constable" (some 0) with
  accessFlags := 1537
  interfaces := #[]
  cf := some (fileOf pool7 1 #[] #[] 1537 3 #[] #[])
  fields := #[]
  methods := #[]
  instanceTypes := #[]
  staticTypes := #[]
  resolved := Array.replicate 11 none
  statics := none }

def pool8 : Array CpInfo := pool [(1, .class_ 2), (0, u "java/lang/constant/ConstantDesc"), (0, .class_ 4), (0, u "java/lang/Object")] 32

/-- java/lang/constant/ConstantDesc -/
def k8 : Class := { plain "java/lang/constant/ConstantDesc" (some 0) with
  accessFlags := 1537
  interfaces := #[]
  cf := some (fileOf pool8 1 #[] #[] 1537 3 #[] #[])
  fields := #[]
  methods := #[]
  instanceTypes := #[]
  staticTypes := #[]
  resolved := Array.replicate 37 none
  statics := none }

def pool9 : Array CpInfo := pool [(1, .class_ 2), (0, u "java/lang/Double"), (46, u "(D)J"), (64, .class_ 116), (1, u "java/lang/Number"), (3, u "value"), (0, u "D"), (14, u "doubleToRawLongBits"), (36, u "TYPE"), (0, u "Ljava/lang/Class;"), (0, .class_ 176), (0, u "java/lang/Comparable"), (0, .class_ 178), (0, u "java/lang/constant/Constable"), (0, .class_ 180), (0, u "java/lang/constant/ConstantDesc"), (0, u "POSITIVE_INFINITY"), (3, u "NEGATIVE_INFINITY"), (2, u "NaN"), (2, u "MAX_VALUE"), (0, u "MIN_NORMAL"), (0, u "MIN_VALUE"), (2, u "SIZE"), (0, u "I"), (1, u "PRECISION"), (1, u "MAX_EXPONENT"), (1, u "MIN_EXPONENT"), (1, u "BYTES"), (3, u "serialVersionUID"), (0, u "J")] 79

def k9m0 : Method := { name := "doubleToRawLongBits", desc := "(D)J", sig := { parameters := [.double], returnType := some .long }, accessFlags := 265, code := none }
/-- java/lang/Double -/
def k9 : Class := { plain "java/lang/Double" (some 5) with
  accessFlags := 49
  interfaces := #[6, 7, 8]
  cf := some (fileOf pool9 1 #[] #[{ accessFlags := 265, nameIndex := 136, descriptorIndex := 49, attributes := #[] }] 49 114 #[175, 177, 179] #[{ accessFlags := 25, nameIndex := 181, descriptorIndex := 121, attributes := #[] }, { accessFlags := 25, nameIndex := 185, descriptorIndex := 121, attributes := #[] }, { accessFlags := 25, nameIndex := 188, descriptorIndex := 121, attributes := #[] }, { accessFlags := 25, nameIndex := 191, descriptorIndex := 121, attributes := #[] }, { accessFlags := 25, nameIndex := 192, descriptorIndex := 121, attributes := #[] }, { accessFlags := 25, nameIndex := 193, descriptorIndex := 121, attributes := #[] }, { accessFlags := 25, nameIndex := 196, descriptorIndex := 197, attributes := #[] }, { accessFlags := 25, nameIndex := 199, descriptorIndex := 197, attributes := #[] }, { accessFlags := 25, nameIndex := 201, descriptorIndex := 197, attributes := #[] }, { accessFlags := 25, nameIndex := 203, descriptorIndex := 197, attributes := #[] }, { accessFlags := 25, nameIndex := 205, descriptorIndex := 197, attributes := #[] }, { accessFlags := 25, nameIndex := 173, descriptorIndex := 174, attributes := #[] }, { accessFlags := 18, nameIndex := 120, descriptorIndex := 121, attributes := #[] }, { accessFlags := 26, nameIndex := 209, descriptorIndex := 210, attributes := #[] }])
  fields := #[{ name := "POSITIVE_INFINITY", type := .double, accessFlags := 25, slot := 0, constantValue := 0 }, { name := "NEGATIVE_INFINITY", type := .double, accessFlags := 25, slot := 1, constantValue := 0 }, { name := "NaN", type := .double, accessFlags := 25, slot := 2, constantValue := 0 }, { name := "MAX_VALUE", type := .double, accessFlags := 25, slot := 3, constantValue := 0 }, { name := "MIN_NORMAL", type := .double, accessFlags := 25, slot := 4, constantValue := 0 }, { name := "MIN_VALUE", type := .double, accessFlags := 25, slot := 5, constantValue := 0 }, { name := "SIZE", type := .int, accessFlags := 25, slot := 6, constantValue := 0 }, { name := "PRECISION", type := .int, accessFlags := 25, slot := 7, constantValue := 0 }, { name := "MAX_EXPONENT", type := .int, accessFlags := 25, slot := 8, constantValue := 0 }, { name := "MIN_EXPONENT", type := .int, accessFlags := 25, slot := 9, constantValue := 0 }, { name := "BYTES", type := .int, accessFlags := 25, slot := 10, constantValue := 0 }, { name := "TYPE", type := (.object "java/lang/Class"), accessFlags := 25, slot := 11, constantValue := 0 }, { name := "value", type := .double, accessFlags := 18, slot := 0, constantValue := 0 }, { name := "serialVersionUID", type := .long, accessFlags := 26, slot := 12, constantValue := 0 }]
  methods := #[k9m0]
  instanceTypes := #[.double]
  staticTypes := #[.double, .double, .double, .double, .double, .double, .int, .int, .int, .int, .int, (.object "java/lang/Class"), .long]
  resolved := Array.replicate 290 none
  statics := none }

def pool10 : Array CpInfo := pool [(1, u "java/lang/Cloneable"), (0, .class_ 1), (0, u "java/lang/Object"), (0, .class_ 3)] 3

/-- java/lang/Cloneable -/
def k10 : Class := { plain "java/lang/Cloneable" (some 0) with
  accessFlags := 1537
  interfaces := #[]
  cf := some (fileOf pool10 2 #[] #[] 1537 4 #[] #[])
  fields := #[]
  methods := #[]
  instanceTypes := #[]
  staticTypes := #[]
  resolved := Array.replicate 8 none
  statics := none }

/-- the primitive byte -/
def k11 : Class := { plain "byte" none with kind := .primitive 'B', accessFlags := 0x411 }
/-- [B -/
def k12 : Class := { plain "[B" (some 0) with kind := .array 11 .byte, interfaces := #[10, 4], accessFlags := 1041 }

/-- the primitive int -/
def k13 : Class := { plain "int" none with kind := .primitive 'I', accessFlags := 0x411 }
/-- [I -/
def k14 : Class := { plain "[I" (some 0) with kind := .array 13 .int, interfaces := #[10, 4], accessFlags := 1041 }

/-- the primitive long -/
def k15 : Class := { plain "long" none with kind := .primitive 'J', accessFlags := 0x411 }
/-- [J -/
def k16 : Class := { plain "[J" (some 0) with kind := .array 15 .long, interfaces := #[10, 4], accessFlags := 1041 }

def heap : Heap := #[]
def classes : Array Class := #[k0, k1, k2, k3, k4, k5, k6, k7, k8, k9, k10, k11, k12, k13, k14, k15, k16]
def interned : List (Array UInt16 × Addr) := []
def slotsUsed : Nat := 0
def theMethod : MethodId := ⟨1, 1⟩
def args0 : Array Value := #[.int 5, .int 1, .int 2, .int 7, .int 11, .int 13]
def aboutOver (below : List Frame) : State where
  vm := { classes := classes, interned := interned.toArray }
  heap := heap
  slotsUsed := slotsUsed
  threads := #[{ frames := .invoking theMethod args0 :: below }]
def below0 : List Frame := [.native { method := ⟨0, 0⟩, args := #[] }]
def about1 : State := aboutOver below0
def p0 : Program := .bare "" "" ""
def e0 : Env := launch0.env 0 0 0
theorem w_frames : about1.frames = Frame.invoking theMethod args0 :: below0 := rfl
set_option maxRecDepth 65536 in
theorem w_args : argsFit about1.vm theMethod args0 = true := by decide +kernel
set_option maxRecDepth 65536 in
theorem w_heap : heapFits about1 = true := by decide +kernel
set_option maxRecDepth 65536 in
theorem w_runnable : about1.curStatus? = some .runnable := by decide +kernel
set_option maxRecDepth 65536 in
theorem w_alone : about1.alone = true := by decide +kernel
set_option maxRecDepth 65536 in
theorem w_named : about1.methodNamed? x = some theMethod := by decide +kernel
set_option maxRecDepth 65536 in
theorem w_hears : about1.hears theMethod below0 = true := by decide +kernel
set_option maxRecDepth 65536 in
theorem w_ripe : about1.ripe theMethod args0 below0 = true := by decide +kernel
theorem w_running : about1.status = .running := rfl
set_option maxRecDepth 65536 in
theorem w_room : about1.hasRoom e0.platform room_1 = true :=
  launch0.hasRoom_least _ room_1 (by decide +kernel) (by decide +kernel) (by decide +kernel) (by decide +kernel) (by decide +kernel) (by decide +kernel)
theorem allAtoms_all (ts : List Jvm.Cond) (a : Array Jvm.Value) (st : Jvm.State) : (allAtoms ts).before a st = ts.all (fun c => c.before a st) := by
  induction ts with
  | nil => rfl
  | cons c t ih =>
    show (Jvm.Cond.and c (allAtoms t)).before a st = _
    rw [Jvm.Cond.before_and, ih, List.all_cons]
def words1 : List Jvm.Cond := Jvm.Cond.code x code maxLocals ret :: tables_1
/-- a 'code' word, met by the world's own term for the bytes: nothing is compared byte by byte -/
theorem code_word {y : MethodName} {bytes : ByteArray} {mx : Nat} {rt : Option FieldType} {a : Array Value} {s : State} {m : MethodId} {meth : Method} {c : Code} (h1 : s.methodNamed? y = some m) (h2 : s.vm.method? m = some meth) (h3 : meth.code = some c) (h4 : c.code = bytes)
    (h5 : (c.maxLocals == mx && c.exceptionTable.isEmpty && decide (c.maxStack ≤ mostOperands) && decide (meth.sig.returnType = rt) && !meth.locks && decide (parseMethodDescriptor y.desc = some meth.sig)) = true) : (Jvm.Cond.code y bytes mx rt).before a s = true := by
  simp only [Bool.and_eq_true, beq_iff_eq, Bool.not_eq_true', decide_eq_true_eq] at h5
  obtain ⟨⟨⟨⟨⟨g1, g2⟩, g3⟩, g4⟩, g5⟩, g6⟩ := h5
  simp [Cond.before, Cond.holds, Cond.value, h1, h2, h3, h4, g1, g2, g3, g4, g5, g6]
def isCode : Jvm.Cond → Bool
  | .code _ _ _ _ => true
  | _ => false
theorem all_split {L : List Jvm.Cond} {P : Jvm.Cond → Bool} (h1 : L.all (fun c => isCode c || P c) = true) (h2 : ∀ c ∈ L.filter isCode, P c = true) : L.all P = true := by
  refine List.all_eq_true.mpr fun c hc => ?_
  have h := List.all_eq_true.mp h1 c hc
  rcases Bool.eq_false_or_eq_true (isCode c) with hi | hi
  · exact h2 c (List.mem_filter.mpr ⟨hc, hi⟩)
  · simpa [hi] using h
set_option maxRecDepth 65536 in
theorem w_c0 : (Jvm.Cond.code x code maxLocals ret).before args0 about1 = true := code_word (m := ⟨1, 1⟩) (meth := k1m1) (c := k1c1) (by decide +kernel) rfl rfl rfl (by decide +kernel)
set_option maxRecDepth 65536 in
theorem w_c1 : (Jvm.Cond.code ({ cls := "com/example/libcosearch/libcosearch/ScoreSums", name := "<init>", desc := "(I)V" } : Jvm.MethodName) prog_32_method_1_code (2 : Nat) (Option.none : Option Jvm.ClassFile.FieldType)).before args0 about1 = true := code_word (m := ⟨2, 0⟩) (meth := k2m0) (c := k2c0) (by decide +kernel) rfl rfl rfl (by decide +kernel)
set_option maxRecDepth 65536 in
theorem w_c2 : (Jvm.Cond.code ({ cls := "java/lang/Object", name := "<init>", desc := "()V" } : Jvm.MethodName) object_method_1_code (1 : Nat) (Option.none : Option Jvm.ClassFile.FieldType)).before args0 about1 = true := code_word (m := ⟨0, 0⟩) (meth := k0m0) (c := k0c0) (by decide +kernel) rfl rfl rfl (by decide +kernel)
set_option maxRecDepth 65536 in
theorem w_c3 : (Jvm.Cond.code ({ cls := "com/example/libcosearch/libcosearch/ScoreSumsGetPinLaw", name := "part", desc := "(I)D" } : Jvm.MethodName) method_3_code (1 : Nat) (Option.some Jvm.ClassFile.FieldType.double)).before args0 about1 = true := code_word (m := ⟨1, 2⟩) (meth := k1m2) (c := k1c2) (by decide +kernel) rfl rfl rfl (by decide +kernel)
set_option maxRecDepth 65536 in
theorem w_c4 : (Jvm.Cond.code ({ cls := "com/example/libcosearch/libcosearch/ScoreSums", name := "addToEach", desc := "(D)V" } : Jvm.MethodName) prog_32_method_2_code (3 : Nat) (Option.none : Option Jvm.ClassFile.FieldType)).before args0 about1 = true := code_word (m := ⟨2, 1⟩) (meth := k2m1) (c := k2c1) (by decide +kernel) rfl rfl rfl (by decide +kernel)
set_option maxRecDepth 65536 in
theorem w_c5 : (Jvm.Cond.code ({ cls := "com/example/libcosearch/libcosearch/ScoreSums", name := "units", desc := "(D)J" } : Jvm.MethodName) prog_32_method_6_code (2 : Nat) (Option.some Jvm.ClassFile.FieldType.long)).before args0 about1 = true := code_word (m := ⟨2, 5⟩) (meth := k2m5) (c := k2c5) (by decide +kernel) rfl rfl rfl (by decide +kernel)
set_option maxRecDepth 65536 in
theorem w_c6 : (Jvm.Cond.code ({ cls := "java/lang/Math", name := "round", desc := "(D)J" } : Jvm.MethodName) jdk_29_method_22_code (10 : Nat) (Option.some Jvm.ClassFile.FieldType.long)).before args0 about1 = true := code_word (m := ⟨3, 1⟩) (meth := k3m1) (c := k3c1) (by decide +kernel) rfl rfl rfl (by decide +kernel)
set_option maxRecDepth 65536 in
theorem w_c7 : (Jvm.Cond.code ({ cls := "java/lang/Math", name := "addExact", desc := "(JJ)J" } : Jvm.MethodName) jdk_29_method_25_code (6 : Nat) (Option.some Jvm.ClassFile.FieldType.long)).before args0 about1 = true := code_word (m := ⟨3, 2⟩) (meth := k3m2) (c := k3c2) (by decide +kernel) rfl rfl rfl (by decide +kernel)
set_option maxRecDepth 65536 in
theorem w_c8 : (Jvm.Cond.code ({ cls := "com/example/libcosearch/libcosearch/ScoreSums", name := "add", desc := "(ID)V" } : Jvm.MethodName) prog_32_method_3_code (4 : Nat) (Option.none : Option Jvm.ClassFile.FieldType)).before args0 about1 = true := code_word (m := ⟨2, 2⟩) (meth := k2m2) (c := k2c2) (by decide +kernel) rfl rfl rfl (by decide +kernel)
set_option maxRecDepth 65536 in
theorem w_c9 : (Jvm.Cond.code ({ cls := "com/example/libcosearch/libcosearch/ScoreSums", name := "replace", desc := "(IDD)V" } : Jvm.MethodName) prog_32_method_4_code (6 : Nat) (Option.none : Option Jvm.ClassFile.FieldType)).before args0 about1 = true := code_word (m := ⟨2, 3⟩) (meth := k2m3) (c := k2c3) (by decide +kernel) rfl rfl rfl (by decide +kernel)
set_option maxRecDepth 65536 in
theorem w_c10 : (Jvm.Cond.code ({ cls := "java/lang/Math", name := "subtractExact", desc := "(JJ)J" } : Jvm.MethodName) jdk_29_method_27_code (6 : Nat) (Option.some Jvm.ClassFile.FieldType.long)).before args0 about1 = true := code_word (m := ⟨3, 3⟩) (meth := k3m3) (c := k3c3) (by decide +kernel) rfl rfl rfl (by decide +kernel)
set_option maxRecDepth 65536 in
theorem w_c11 : (Jvm.Cond.code ({ cls := "com/example/libcosearch/libcosearch/ScoreSums", name := "get", desc := "(I)D" } : Jvm.MethodName) prog_32_method_5_code (2 : Nat) (Option.some Jvm.ClassFile.FieldType.double)).before args0 about1 = true := code_word (m := ⟨2, 4⟩) (meth := k2m4) (c := k2c4) (by decide +kernel) rfl rfl rfl (by decide +kernel)
set_option maxRecDepth 65536 in
theorem w_c12 : (Jvm.Cond.code ({ cls := "com/example/libcosearch/libcosearch/ScoreSumsGetPinLaw", name := "expected", desc := "(IIIIII)D" } : Jvm.MethodName) method_4_code (8 : Nat) (Option.some Jvm.ClassFile.FieldType.double)).before args0 about1 = true := code_word (m := ⟨1, 3⟩) (meth := k1m3) (c := k1c3) (by decide +kernel) rfl rfl rfl (by decide +kernel)
def codes1 : List Jvm.Cond := [Jvm.Cond.code x code maxLocals ret, Jvm.Cond.code ({ cls := "com/example/libcosearch/libcosearch/ScoreSums", name := "<init>", desc := "(I)V" } : Jvm.MethodName) prog_32_method_1_code (2 : Nat) (Option.none : Option Jvm.ClassFile.FieldType), Jvm.Cond.code ({ cls := "java/lang/Object", name := "<init>", desc := "()V" } : Jvm.MethodName) object_method_1_code (1 : Nat) (Option.none : Option Jvm.ClassFile.FieldType), Jvm.Cond.code ({ cls := "com/example/libcosearch/libcosearch/ScoreSumsGetPinLaw", name := "part", desc := "(I)D" } : Jvm.MethodName) method_3_code (1 : Nat) (Option.some Jvm.ClassFile.FieldType.double), Jvm.Cond.code ({ cls := "com/example/libcosearch/libcosearch/ScoreSums", name := "addToEach", desc := "(D)V" } : Jvm.MethodName) prog_32_method_2_code (3 : Nat) (Option.none : Option Jvm.ClassFile.FieldType), Jvm.Cond.code ({ cls := "com/example/libcosearch/libcosearch/ScoreSums", name := "units", desc := "(D)J" } : Jvm.MethodName) prog_32_method_6_code (2 : Nat) (Option.some Jvm.ClassFile.FieldType.long), Jvm.Cond.code ({ cls := "java/lang/Math", name := "round", desc := "(D)J" } : Jvm.MethodName) jdk_29_method_22_code (10 : Nat) (Option.some Jvm.ClassFile.FieldType.long), Jvm.Cond.code ({ cls := "java/lang/Math", name := "addExact", desc := "(JJ)J" } : Jvm.MethodName) jdk_29_method_25_code (6 : Nat) (Option.some Jvm.ClassFile.FieldType.long), Jvm.Cond.code ({ cls := "com/example/libcosearch/libcosearch/ScoreSums", name := "add", desc := "(ID)V" } : Jvm.MethodName) prog_32_method_3_code (4 : Nat) (Option.none : Option Jvm.ClassFile.FieldType), Jvm.Cond.code ({ cls := "com/example/libcosearch/libcosearch/ScoreSums", name := "replace", desc := "(IDD)V" } : Jvm.MethodName) prog_32_method_4_code (6 : Nat) (Option.none : Option Jvm.ClassFile.FieldType), Jvm.Cond.code ({ cls := "java/lang/Math", name := "subtractExact", desc := "(JJ)J" } : Jvm.MethodName) jdk_29_method_27_code (6 : Nat) (Option.some Jvm.ClassFile.FieldType.long), Jvm.Cond.code ({ cls := "com/example/libcosearch/libcosearch/ScoreSums", name := "get", desc := "(I)D" } : Jvm.MethodName) prog_32_method_5_code (2 : Nat) (Option.some Jvm.ClassFile.FieldType.double), Jvm.Cond.code ({ cls := "com/example/libcosearch/libcosearch/ScoreSumsGetPinLaw", name := "expected", desc := "(IIIIII)D" } : Jvm.MethodName) method_4_code (8 : Nat) (Option.some Jvm.ClassFile.FieldType.double)]
set_option maxRecDepth 65536 in
theorem codes_eq : words1.filter isCode = codes1 := rfl
theorem w_codes : ∀ c ∈ words1.filter isCode, c.before args0 about1 = true := by
  rw [codes_eq]
  intro c hc
  simp only [codes1, List.mem_cons, List.not_mem_nil, or_false] at hc
  rcases hc with rfl | rfl | rfl | rfl | rfl | rfl | rfl | rfl | rfl | rfl | rfl | rfl | rfl
  · exact w_c0
  · exact w_c1
  · exact w_c2
  · exact w_c3
  · exact w_c4
  · exact w_c5
  · exact w_c6
  · exact w_c7
  · exact w_c8
  · exact w_c9
  · exact w_c10
  · exact w_c11
  · exact w_c12
set_option maxRecDepth 65536 in
theorem w_t1 : (words1.take 24).all (fun c => isCode c || c.before args0 about1) = true := by decide +kernel
set_option maxRecDepth 65536 in
theorem w_t2 : ((words1.drop 24).take 24).all (fun c => isCode c || c.before args0 about1) = true := by decide +kernel
set_option maxRecDepth 65536 in
theorem w_t3 : ((words1.drop 24).drop 24).all (fun c => isCode c || c.before args0 about1) = true := by decide +kernel
theorem w_tables : (allAtoms (Jvm.Cond.code x code maxLocals ret :: tables_1)).before args0 about1 = true := by
  rw [allAtoms_all]
  show words1.all (fun c => c.before args0 about1) = true
  refine all_split ?_ w_codes
  rw [← List.take_append_drop 24 words1, List.all_append, w_t1, ← List.take_append_drop 24 (words1.drop 24), List.all_append, w_t2, w_t3]
  rfl
set_option maxRecDepth 65536 in
theorem w_case : (Jvm.Cond.and given_1 narrow_1).before args0 about1 = true := by decide +kernel
theorem w_applies : (headSpec (Jvm.Cond.code x code maxLocals ret :: tables_1) room_1).applies x e0.platform about1 = true :=
  (Spec.applies_iff w_frames).mpr ⟨w_running, w_runnable, w_alone, w_named, w_hears, w_ripe, w_room, w_tables⟩
theorem atStart : AtStart classFile x code maxLocals ret World_1 tables_1 room_1 Calls_1 rest_1 Pre_1 launch0 p0 e0 about1 theMethod args0 below0 :=
  ⟨lists_1, trivial, launch0.admits_env _ _ _, launch0.least_env, fairChoices_fair.cas, fairChoices_fair.clock, w_frames, w_args, w_heap, w_applies, trivial, trivial, w_case⟩
end start1
theorem witness_1 : WitnessClaimed_1 := ⟨start1.p0, start1.e0, start1.about1, start1.theMethod, start1.args0, start1.below0, start1.atStart⟩
end Jvm.Pilot.@@N@@
