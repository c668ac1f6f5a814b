import JvmDerived
import JvmDerived.Pilot.@@N@@Statement
import JvmDerived.Pilot.@@N@@Code
set_option linter.unusedVariables false
set_option linter.unusedSimpArgs false
namespace Jvm.OwnKit
open Sem ClassFile Op Lib Jvm.Stand Jvm.Free Jvm.LawKit Jvm.RoadKit
section Own
variable {p : Program} {l : Launch} {e : Env} {R : Room} {s : State} {m : MethodId} {args : Array Value} {below : List Frame} {meth : Method} {c : Code} {T : State} {locs : List Loc} {cells slots : Nat} {Z : State} {h h' : Heap} {a b : Addr}
theorem retI (X : Stand p l e R s m args below meth c T locs cells slots) (hx : p.tables.exec = Jvm.exec) {pc : Nat} {Ls : Array Slot} {z : Int32} {rest : List Value} (hret : meth.sig.returnType = some .int) (hd : decode c.code pc = .ok (.ireturn, 1)) {fs : List Frame}
    (hl : ∀ (f : JFrame) (acts : List Action), f.method = m → f.locked = none → f.entered = [] → (doReturn e (T.setTop f) acts (some (.int z))).1 = T.setFrames fs) : Steps p.tables e below (T.setTop (mkF m pc Ls (.int z :: rest))) (T.setFrames fs) :=
  retOut X hx hret rfl (Or.inl ⟨rfl, Or.inl rfl, z, rfl⟩) hd hl
/-- the run goes on from S to an end of which G holds -/
def Go (p : Program) (e : Env) (below : List Frame) (S : State) (G : State → Outcome → Prop) : Prop := ∃ s₂ o, Steps p.tables e below S s₂ ∧ s₂.status = .running ∧ Ended s₂ below o ∧ G s₂ o
theorem Go.via {S S' : State} {G : State → Outcome → Prop} (h : ∀ t, Steps p.tables e below S' t → Steps p.tables e below S t) (k : Go p e below S' G) : Go p e below S G := by
  obtain ⟨a, o, h1, r⟩ := k; exact ⟨a, o, h a h1, r⟩
/-- the end: what is returned, what the heap says, what was written -/
abbrev Done (s : State) (Q : Option Value → Heap → List Loc → Prop) (kc ks : Nat) : State → Outcome → Prop := fun s₂ o => ∃ v L, o = .returned v ∧ Q v s₂.heap L ∧ FrameEnd s o s₂ L kc ks
theorem Go.fin {S : State} (X : Stand p l e R s m args below meth c T locs cells slots) (hlk : meth.locks = false) {v : Option Value} (hv : meth.sig.returnType = none → v = none) {Q : Option Value → Heap → List Loc → Prop} {kc ks : Nat}
    (hstep : ∀ fs, (∀ (f : JFrame) (acts : List Action), f.method = m → f.locked = none → f.entered = [] → (doReturn e (T.setTop f) acts v).1 = T.setFrames fs) → Steps p.tables e below S (T.setFrames fs))
    (hQ : Q v T.heap locs) (hc : cells ≤ kc) (hs : slots ≤ ks) : Go p e below S (Done s Q kc ks) := by
  obtain ⟨fs, hr, hrun, hended, hW, hsame⟩ := X.leave (v := v) hv hlk
  exact ⟨_, _, hstep fs hr, hrun, hended, _, _, rfl, hQ, ⟨_, rfl⟩, hW, hsame.mono hc hs⟩
/-- an array of ints, bytes, chars, shorts or booleans, whole -/
def Ia (Z : State) (h : Heap) (a : Addr) (ty : FieldType) (xs : List Int32) : Prop := ∃ c : Cell, Arr Z h a c ty ∧ c.slots = (xs.map Value.int).toArray ∧ xs.length < 2147483648 ∧ ∀ x ∈ xs, fits ty (.int x) = true
variable {ty : FieldType} {xs : List Int32} {ws : List Addr} {sl : Nat} {v w : Value} {j x n : Int32} {k : ClassId} {rest : List Value}
theorem Ia.lt (F : Ia Z h a ty xs) : a < h.size := by obtain ⟨c, A, -⟩ := F; exact A.lt
theorem Ia.ext (F : Ia Z h a ty xs) (E : Ext h h') : Ia Z h' a ty xs := by obtain ⟨c, A, r⟩ := F; exact ⟨c, A.ext E, r⟩
theorem Ia.other (F : Ia Z h b ty xs) (W : Wr h h' a sl v) (q : b ≠ a) : Ia Z h' b ty xs := by obtain ⟨c, A, r⟩ := F; exact ⟨c, A.other W q, r⟩
theorem Ia.keep (F : Ia Z h a ty xs) (K : Keep h h' ws) (q : a ∉ ws) : Ia Z h' a ty xs := by obtain ⟨c, A, r⟩ := F; exact ⟨c, ⟨K.2.1 a c A.1 q, A.2⟩, r⟩
theorem nn_lt {n : Int32} : n.toNatClampNeg < 2147483648 := by
  have h1 := n.toInt_lt
  simp only [Int32.toNatClampNeg]; omega
theorem Ia.new (A : Arr Z h a (newA k ty n) ty) (hd : defaultValue ty = .int 0) (hf : fits ty (.int 0) = true := by rfl) : Ia Z h a ty (List.replicate n.toNatClampNeg 0) := ⟨_, A, by simp [newA, hd], by simp [nn_lt], fun x hx => by rw [(List.mem_replicate.mp hx).2]; exact hf⟩
theorem Ia.hin {cl : Cell} (e : cl.slots = (xs.map Value.int).toArray) (hj : ¬ j < 0) (hlt : j.toNatClampNeg < xs.length) : ¬ (j < 0 ∨ cl.slots.size ≤ j.toNatClampNeg) := by
  rw [e]; simp only [List.size_toArray, List.length_map]; rintro (q | q); exact hj q; omega
theorem Ia.at {cl : Cell} (e : cl.slots = (xs.map Value.int).toArray) (hv : xs[j.toNatClampNeg]? = some x) : cl.slots[j.toNatClampNeg]? = some (.int x) := by
  rw [e]; simp [hv]
theorem lt_of_at (hv : xs[j.toNatClampNeg]? = some x) : j.toNatClampNeg < xs.length := (List.getElem?_eq_some_iff.mp hv).1
theorem Ia.set {cl : Cell} (A : Arr Z h a cl ty) (e : cl.slots = (xs.map Value.int).toArray) (hl : xs.length < 2147483648) (hf : ∀ x ∈ xs, fits ty (.int x) = true) (W : Wr h h' a j.toNatClampNeg (.int x)) (hx : fits ty (.int x) = true) : Ia Z h' a ty (xs.set j.toNatClampNeg x) :=
  ⟨_, A.same W, by simp [Cell.setSlot, e, List.map_set], by simpa using hl, fun y hy => by rcases List.mem_or_eq_of_mem_set hy with q | q; exact hf y q; rw [q]; exact hx⟩
theorem ldI (X : Stand p l e R s m args below meth c T locs cells slots) (hx : p.tables.exec = Jvm.exec) (hZ : Z.Warmed39 s.vm) (eT : T.heap = h) (F : Ia Z h a .int xs) {v : Int32} (hj : ¬ j < 0) (hv : xs[j.toNatClampNeg]? = some v) {g : JFrame} (hg : g.method = m) (hs : g.stack = .int j :: .ref a :: rest) (hd : decode c.code g.pc = .ok (.iaload, 1)) :
    ∀ t, Steps p.tables e below (T.setTop { g with pc := g.pc + 1, stack := .int v :: rest }) t → Steps p.tables e below (T.setTop g) t := by
  obtain ⟨cl, A, q, -⟩ := F
  exact X.iaload hx (j := j) (v := .int v) (by rw [eT]; exact A.1) (State.isArrayOf_alike hZ.alike A.2.1) A.2.2 (Ia.hin q hj (lt_of_at hv)) (Ia.at q hv) hg hs hd
theorem ldB (X : Stand p l e R s m args below meth c T locs cells slots) (hx : p.tables.exec = Jvm.exec) (hZ : Z.Warmed39 s.vm) (eT : T.heap = h) (F : Ia Z h a .byte xs) {v : Int32} (hj : ¬ j < 0) (hv : xs[j.toNatClampNeg]? = some v) {g : JFrame} (hg : g.method = m) (hs : g.stack = .int j :: .ref a :: rest) (hd : decode c.code g.pc = .ok (.baload, 1)) :
    ∀ t, Steps p.tables e below (T.setTop { g with pc := g.pc + 1, stack := .int v :: rest }) t → Steps p.tables e below (T.setTop g) t := by
  obtain ⟨cl, A, q, -⟩ := F
  exact X.baloadBytes hx (j := j) (v := .int v) (by rw [eT]; exact A.1) (State.isArrayOf_alike hZ.alike A.2.1) A.2.2 (Ia.hin q hj (lt_of_at hv)) (Ia.at q hv) hg hs hd
theorem ldC (X : Stand p l e R s m args below meth c T locs cells slots) (hx : p.tables.exec = Jvm.exec) (hZ : Z.Warmed39 s.vm) (eT : T.heap = h) (F : Ia Z h a .char xs) {v : Int32} (hj : ¬ j < 0) (hv : xs[j.toNatClampNeg]? = some v) {g : JFrame} (hg : g.method = m) (hs : g.stack = .int j :: .ref a :: rest) (hd : decode c.code g.pc = .ok (.caload, 1)) :
    ∀ t, Steps p.tables e below (T.setTop { g with pc := g.pc + 1, stack := .int v :: rest }) t → Steps p.tables e below (T.setTop g) t := by
  obtain ⟨cl, A, q, -⟩ := F
  exact X.caload hx (j := j) (v := .int v) (by rw [eT]; exact A.1) (State.isArrayOf_alike hZ.alike A.2.1) A.2.2 (Ia.hin q hj (lt_of_at hv)) (Ia.at q hv) hg hs hd
theorem stI' (X : Stand p l e R s m args below meth c T locs cells slots) (hx : p.tables.exec = Jvm.exec) (hZ : Z.Warmed39 s.vm) (eT : T.heap = h) (F : Ia Z h a .int xs) (hj : ¬ j < 0) (hlt : j.toNatClampNeg < xs.length) {g : JFrame} (hg : g.method = m) (hs : g.stack = .int x :: .int j :: .ref a :: rest) (hd : decode c.code g.pc = .ok (.iastore, 1)) :
    ∃ T' h', Stand p l e R s m args below meth c T' (locs ++ [⟨a, j.toNatClampNeg⟩]) cells slots ∧ T'.heap = h' ∧ Wr h h' a j.toNatClampNeg (.int x) ∧ Ia Z h' a .int (xs.set j.toNatClampNeg x) ∧ ∀ t, Steps p.tables e below (T'.setTop { g with pc := g.pc + 1, stack := rest }) t → Steps p.tables e below (T.setTop g) t := by
  obtain ⟨cl, A, q, hl, hf⟩ := F
  obtain ⟨T', h', X', e', W, st⟩ := stI X hx hZ eT A (Ia.hin q hj hlt) hg hs hd
  exact ⟨T', h', X', e', W, Ia.set A q hl hf W rfl, st⟩
theorem stB' (X : Stand p l e R s m args below meth c T locs cells slots) (hx : p.tables.exec = Jvm.exec) (hZ : Z.Warmed39 s.vm) (eT : T.heap = h) (F : Ia Z h a .byte xs) (hj : ¬ j < 0) (hlt : j.toNatClampNeg < xs.length) {g : JFrame} (hg : g.method = m) (hs : g.stack = .int x :: .int j :: .ref a :: rest) (hd : decode c.code g.pc = .ok (.bastore, 1)) :
    ∃ T' h', Stand p l e R s m args below meth c T' (locs ++ [⟨a, j.toNatClampNeg⟩]) cells slots ∧ T'.heap = h' ∧ Wr h h' a j.toNatClampNeg (.int (nar .byte x)) ∧ Ia Z h' a .byte (xs.set j.toNatClampNeg (nar .byte x)) ∧ ∀ t, Steps p.tables e below (T'.setTop { g with pc := g.pc + 1, stack := rest }) t → Steps p.tables e below (T.setTop g) t := by
  obtain ⟨cl, A, q, hl, hf⟩ := F
  obtain ⟨T', h', X', e', W, st⟩ := stB X hx hZ eT A (Ia.hin q hj hlt) hg hs hd
  exact ⟨T', h', X', e', W, Ia.set A q hl hf W (fits_nar_byte x), st⟩
theorem stC' (X : Stand p l e R s m args below meth c T locs cells slots) (hx : p.tables.exec = Jvm.exec) (hZ : Z.Warmed39 s.vm) (eT : T.heap = h) (F : Ia Z h a .char xs) (hj : ¬ j < 0) (hlt : j.toNatClampNeg < xs.length) {g : JFrame} (hg : g.method = m) (hs : g.stack = .int x :: .int j :: .ref a :: rest) (hd : decode c.code g.pc = .ok (.castore, 1)) :
    ∃ T' h', Stand p l e R s m args below meth c T' (locs ++ [⟨a, j.toNatClampNeg⟩]) cells slots ∧ T'.heap = h' ∧ Wr h h' a j.toNatClampNeg (.int (nar .char x)) ∧ Ia Z h' a .char (xs.set j.toNatClampNeg (nar .char x)) ∧ ∀ t, Steps p.tables e below (T'.setTop { g with pc := g.pc + 1, stack := rest }) t → Steps p.tables e below (T.setTop g) t := by
  obtain ⟨cl, A, q, hl, hf⟩ := F
  obtain ⟨T', h', X', e', W, st⟩ := stC X hx hZ eT A (Ia.hin q hj hlt) hg hs hd
  exact ⟨T', h', X', e', W, Ia.set A q hl hf W (fits_nar_char x), st⟩
theorem lenI (X : Stand p l e R s m args below meth c T locs cells slots) (hx : p.tables.exec = Jvm.exec) (hZ : Z.Warmed39 s.vm) (eT : T.heap = h) (F : Ia Z h a ty xs) (hn : xs.length.toInt32 = n) {g : JFrame} (hg : g.method = m) (hs : g.stack = .ref a :: rest) (hd : decode c.code g.pc = .ok (.arraylength, 1)) :
    ∀ t, Steps p.tables e below (T.setTop { g with pc := g.pc + 1, stack := .int n :: rest }) t → Steps p.tables e below (T.setTop g) t := by
  obtain ⟨cl, A, q, -⟩ := F
  have q2 : cl.slots.size.toInt32 = n := by rw [q]; simpa using hn
  have := X.arraylength hx (by rw [eT]; exact A.1) (State.isArrayOf_alike hZ.alike A.2.1) hg hs hd
  rw [q2] at this
  exact this
theorem len32 (hl : xs.length < 2147483648) : xs.length.toInt32.toNatClampNeg = xs.length ∧ ¬ xs.length.toInt32 < 0 := by
  have h1 : xs.length.toInt32.toInt = (xs.length : Int) := Int32.toInt_ofNat_small hl
  refine ⟨by simp only [Int32.toNatClampNeg]; omega, ?_⟩
  rw [Int32.lt_iff_toInt_lt, h1]
  have : (0 : Int32).toInt = 0 := rfl
  omega
theorem Ia.arv (F : Ia Z h a ty xs) : ∃ k, Arv Z h a k ty xs.length.toInt32 (xs.map Value.int) (.int 0) ∧ xs.length < 2147483648 := by
  obtain ⟨c, A, q, hl, hf⟩ := F
  refine ⟨c.cls, ⟨c, A, rfl, by rw [q, (len32 hl).1]; simp, (len32 hl).2, fun i hi => ?_, fun i hi => ?_⟩, hl⟩
  · have hi2 : i < xs.length := by rw [q] at hi; simpa using hi
    rw [q]; simp [List.getD, hi2]
  · have hi2 : i < xs.length := by rw [q] at hi; simpa using hi
    have := hf xs[i] (List.getElem_mem hi2)
    simpa [List.getD, hi2] using this
theorem Ia.of_arv {z : Int32} {d : Value} (F : Arv Z h a k ty z (xs.map Value.int) d) (hl : xs.length = z.toNatClampNeg) : Ia Z h a ty xs := by
  obtain ⟨c, A, q1, S, N, H, G⟩ := F
  have hn : z.toNatClampNeg < 2147483648 := nn_lt
  refine ⟨c, A, ?_, by omega, fun x hx => ?_⟩
  · apply Array.ext
    · rw [S, ← hl]; simp
    · intro i h1 h2
      have := H i h1
      have h3 : i < xs.length := by rw [hl, ← S]; exact h1
      rw [Array.getElem?_eq_getElem h1] at this
      simpa [List.getD, h3] using this
  · obtain ⟨i, hi, rfl⟩ := List.getElem_of_mem hx
    have := G i (by rw [S, ← hl]; exact hi)
    simpa [List.getD, hi] using this
theorem cpI {ys : List Int32} {sp dp nn : Int32} (X : Stand p l e R s m args below meth c T locs cells slots) (hx : p.tables.exec = Jvm.exec) (hZ : Z.Warmed39 s.vm) {a0 : Array Value} {own : String} {index : Nat} (hown : s.vm.findClass own = some m.cls)
    (w1 : (Cond.methodLink own index Jvm.Stand.acN).before a0 Z = true) (w2 : (Cond.native Jvm.Stand.acN).before a0 Z = true) (w3 : (Cond.static Jvm.Stand.acN).before a0 Z = true) (w4 : (Cond.initialized "java/lang/System").before a0 Z = true) (eT : T.heap = h)
    (A : Ia Z h a ty xs) (B : Ia Z h b ty ys) (hty : refKind ty = false) (h1 : ¬ sp < 0) (h2 : ¬ dp < 0) (h3 : ¬ nn < 0) (h4 : sp.toNatClampNeg + nn.toNatClampNeg ≤ xs.length) (h5 : dp.toNatClampNeg + nn.toNatClampNeg ≤ ys.length)
    {n0 : Nat} (N : Fr n0 locs) (ge : n0 ≤ b)
    {g : JFrame} (hg : g.method = m) (hsize : g.locals.size = c.maxLocals) {rest : List Value} (hs : g.stack = .int nn :: .int dp :: .ref b :: .int sp :: .ref a :: rest) (hd : decode c.code g.pc = .ok (.invokestatic index, 3))
    (hf : 1 ≤ R.frames) {W : Nat} (hW : 2 * g.monitorRoom + (rest.map fun v => v.category).sum ≤ W) (hlo : W + (nativeFrameWords "java/lang/System" "arraycopy" 5 + 11) ≤ R.locals) :
    ∃ T' h' L, Stand p l e R s m args below meth c T' L cells slots ∧ T'.heap = h' ∧ Fr n0 L ∧ Keep h h' [b] ∧ Ia Z h' b ty (ys.take dp.toNatClampNeg ++ (xs.drop sp.toNatClampNeg).take nn.toNatClampNeg ++ ys.drop (dp.toNatClampNeg + nn.toNatClampNeg)) ∧
      ∀ target, Steps p.tables e below (T'.setTop { g with pc := g.pc + 3, stack := rest }) target → Steps p.tables e below (T.setTop g) target := by
  obtain ⟨k, A', la⟩ := A.arv
  obtain ⟨k', B', lb⟩ := B.arv
  obtain ⟨T', h', L, X', e', N', K', V', st⟩ := cpA X hx hZ hown w1 w2 w3 w4 eT A' B' (us := ((xs.drop sp.toNatClampNeg).take nn.toNatClampNeg).map Value.int) (Or.inl ⟨rfl, hty⟩) h1 h2 h3 (by rw [(len32 la).1]; exact h4) (by rw [(len32 lb).1]; exact h5)
    (by
      apply List.ext_getElem
      · simp; omega
      · intro i q1 q2
        have q3 : i < nn.toNatClampNeg := by simpa using q2
        have q4 : sp.toNatClampNeg + i < xs.length := by omega
        simp [List.getD, q4])
    (by simpa using h5) N ge hg hsize hs hd hf hW hlo
  refine ⟨T', h', L, X', e', N', K', Ia.of_arv (k := k') (z := ys.length.toInt32) (d := .int 0) ?_ ?_, st⟩
  · simpa [List.map_append, List.map_take, List.map_drop] using V'
  · rw [(len32 lb).1]; simp; omega
theorem cloneI (X : Stand p l e R s m args below meth c T locs cells slots) (hx : p.tables.exec = Jvm.exec) (hZ : Z.Warmed39 s.vm) {a0 : Array Value} {own ad : String} {index : Nat} (hown : s.vm.findClass own = some m.cls)
    (w1 : (Cond.methodLink own index ⟨ad, "clone", "()Ljava/lang/Object;"⟩).before a0 Z = true) (w2 : (Cond.sameMethod ad "java/lang/Object" "clone" "()Ljava/lang/Object;").before a0 Z = true) (w3 : (Cond.native ⟨"java/lang/Object", "clone", "()Ljava/lang/Object;"⟩).before a0 Z = true)
    (w4 : (Cond.instanceMethod ⟨"java/lang/Object", "clone", "()Ljava/lang/Object;"⟩).before a0 Z = true) (w5 : (Cond.selects ad ⟨ad, "clone", "()Ljava/lang/Object;"⟩ ⟨"java/lang/Object", "clone", "()Ljava/lang/Object;"⟩).before a0 Z = true) (w6 : (Cond.castable ad "java/lang/Cloneable").before a0 Z = true)
    (eT : T.heap = h) (F : Ia Z h a ty xs) (E : Exa Z h a ad) {g : JFrame} (hg : g.method = m) (hsize : g.locals.size = c.maxLocals) {rest : List Value} (hst : g.stack = .ref a :: rest) (hd : decode c.code g.pc = .ok (.invokevirtual index, 3))
    (hf : 1 ≤ R.frames) {W cap : Nat} (hW : 2 * g.monitorRoom + (rest.map fun v => v.category).sum ≤ W) (hl : W + 14 ≤ R.locals) (hcap : xs.length ≤ cap) (hc : cells + 1 ≤ R.cells) (hsl : slots + cap ≤ R.slots) :
    ∃ T' h', Stand p l e R s m args below meth c T' locs (cells + 1) (slots + cap) ∧ T'.heap = h' ∧ Ext h h' ∧ Ia Z h' h.size ty xs ∧ Exa Z h' h.size ad ∧
      ∀ target, Steps p.tables e below (T'.setTop { g with pc := g.pc + 3, stack := .ref h.size :: rest }) target → Steps p.tables e below (T.setTop g) target := by
  obtain ⟨k, A, la⟩ := F.arv
  obtain ⟨T', h', X', e', ex, A', E', st⟩ := cloneH X hx hZ hown w1 w2 w3 w4 w5 w6 eT A.arh E hg hsize hst hd hf hW hl (by rw [(len32 la).1]; exact hcap) hc hsl
  exact ⟨T', h', X', e', ex, Ia.of_arv (k := k) (z := xs.length.toInt32) (d := .int 0) A' (len32 la).1.symm, E', st⟩
theorem selP {a0 : Array Value} {y : MethodName} {kk : Nat} (hZ : Z.Warmed39 s.vm) (wi : (Cond.instantiable y.cls kk).before a0 Z = true) (wp : (Cond.privateMethod y).before a0 Z = true) (wm : (Cond.instanceMethod y).before a0 Z = true) (hy : y.cls ≠ "java/lang/invoke/MethodHandle" ∧ y.cls ≠ "java/lang/invoke/VarHandle") : (Cond.selects y.cls y y).before args s = true := by
  obtain ⟨c, k, h1, h2, -, h4, -⟩ := Cond.instantiable_spec (mvT (args := args) hZ wi)
  exact selects_self_of_private h1 h2 (by simp only [Bool.or_eq_false_iff] at h4; exact h4.1) (Cond.privateMethod_at (mvP hZ wp (args := args))) (mvT hZ wm) hy
end Own
end Jvm.OwnKit
namespace Jvm.Pilot.@@N@@
open Jvm Jvm.ClassFile Sem Op Lib Jvm.Free Jvm.Stand Jvm.LawKit Jvm.RoadKit Bundle Jvm.Pilot.@@N@@.Jvm.D Jvm.OwnKit
theorem tw {a0 : Array Value} {Z : State} (hw : ∀ d ∈ tables_1, d.before a0 Z = true) (i : Nat) {d : Jvm.Cond} (h : tables_1[i]? = some d) : d.before a0 Z = true := hw d (List.mem_of_getElem? h)
theorem d1_0 : decode prog_24_method_1_code 0 = .ok (.aload_n 0, 1) := by decide +kernel
theorem d1_1 : decode prog_24_method_1_code 1 = .ok (.invokespecial 1, 3) := by decide +kernel
theorem d1_4 : decode prog_24_method_1_code 4 = .ok (.aload_n 0, 1) := by decide +kernel
theorem d1_5 : decode prog_24_method_1_code 5 = .ok (.iconst 4, 1) := by decide +kernel
theorem d1_6 : decode prog_24_method_1_code 6 = .ok (.newarray .int, 2) := by decide +kernel
theorem d1_8 : decode prog_24_method_1_code 8 = .ok (.putfield 7, 3) := by decide +kernel
theorem d1_11 : decode prog_24_method_1_code 11 = .ok (.aload_n 0, 1) := by decide +kernel
theorem d1_12 : decode prog_24_method_1_code 12 = .ok (.iconst 4, 1) := by decide +kernel
theorem d1_13 : decode prog_24_method_1_code 13 = .ok (.newarray .int, 2) := by decide +kernel
theorem d1_15 : decode prog_24_method_1_code 15 = .ok (.putfield 13, 3) := by decide +kernel
theorem d1_18 : decode prog_24_method_1_code 18 = .ok (.return_, 1) := by decide +kernel
theorem pn_1 : plainName "com/example/libcosearch/libcosearch/PostingList$Builder" = true := by first | (simp [plainName, overriddenIn]; done) | decide +kernel
theorem ef_1 (m : MethodId) (x0 : Addr) : entryFrame m #[(.ref x0)] 1 = mkF m 0 #[.val (.ref x0)] [] := by first | (simp [entryFrame, mkF, argsToLocals, Value.category]; done) | rfl
def Q_rmB (Z : State) (a : Addr)  (h0 : Heap) (n0 : Nat) (vQ : Option Value) (hQ : Heap) (LQ : List Loc) : Prop := ∃ d : Addr, ∃ f : Addr, vQ = none ∧ Fr n0 LQ ∧ Keep h0 hQ [a] ∧ h0.size ≤ d ∧ h0.size ≤ f ∧ Exa Z hQ a "com/example/libcosearch/libcosearch/PostingList$Builder" ∧ Fld Z hQ a "com/example/libcosearch/libcosearch/PostingList$Builder" "documents" "[I" (.ref d) ∧ Fld Z hQ a "com/example/libcosearch/libcosearch/PostingList$Builder" "frequencies" "[I" (.ref f) ∧ Fld Z hQ a "com/example/libcosearch/libcosearch/PostingList$Builder" "size" "I" (.int (0 : Int32)) ∧ Ia Z hQ d .int [(0 : Int32), (0 : Int32), (0 : Int32), (0 : Int32)] ∧ Ia Z hQ f .int [(0 : Int32), (0 : Int32), (0 : Int32), (0 : Int32)] ∧ Exa Z hQ d "[I" ∧ Exa Z hQ f "[I" ∧ (d ≠ f)
set_option maxRecDepth 65536 in
set_option maxHeartbeats 40000000 in
theorem rmB (l : Launch) (Z : State) (a0 : Array Value) (hw : ∀ d ∈ tables_1, d.before a0 Z = true) (ws : List Jvm.Cond) (a : Addr)  (h0 : Heap) (n0 : Nat) (Z0 : n0 ≤ h0.size) (P0 : Exa Z h0 a "com/example/libcosearch/libcosearch/PostingList$Builder") (P1 : Fld Z h0 a "com/example/libcosearch/libcosearch/PostingList$Builder" "documents" "[I" .null) (P2 : Fld Z h0 a "com/example/libcosearch/libcosearch/PostingList$Builder" "frequencies" "[I" .null) (P3 : Fld Z h0 a "com/example/libcosearch/libcosearch/PostingList$Builder" "size" "I" (.int (0 : Int32))) (g_a : n0 ≤ a) :
    MetFree l (⟨"com/example/libcosearch/libcosearch/PostingList$Builder", "<init>", "()V"⟩ : MethodName) (head1 (Jvm.Cond.code (⟨"com/example/libcosearch/libcosearch/PostingList$Builder", "<init>", "()V"⟩ : MethodName) prog_24_method_1_code 1 none :: ws) ({ frames := 1, cells := 2, slots := 8, locals := 12 } : Room)) (fun aQ UQ => aQ = #[(.ref a)] ∧ Z.Warmed39 UQ.vm ∧ UQ.heap = h0) (fun _ _ _ _ _ => True) (fun _ UQ oQ UR => ∃ vQ LQ, oQ = .returned vQ ∧ Q_rmB Z a  h0 n0 vQ UR.heap LQ ∧ FrameEnd UQ oQ UR LQ ({ frames := 1, cells := 2, slots := 8, locals := 12 } : Room).cells ({ frames := 1, cells := 2, slots := 8, locals := 12 } : Room).slots) := by
  refine MetFree.of_bodySF (plainFor_of_name pn_1) hisR ?_
  intro p e s m args below meth c s₁ Bd hml0 hP hK
  obtain ⟨rfl, hZ, hh⟩ := hP
  have hx := Bd.exec
  have hby := Bd.bytes
  have hlk := Bd.notSynchronized
  have hml : c.maxLocals = 1 := hml0
  have hown : s.vm.findClass "com/example/libcosearch/libcosearch/PostingList$Builder" = some m.cls := findClass_of_methodNamed Bd.named
  have hnm := (name_of_methodNamed Bd.named Bd.method).1
  have X0 : Stand p l e ({ frames := 1, cells := 2, slots := 8, locals := 12 } : Room) s m #[(.ref a)] below meth c s₁ [] 0 0 := Stand.of_body Bd
  have e0 : s₁.heap = h0 := by rw [← hh, Bd.state]; rfl
  have N0 := Fr.nil n0
  show Go p e below _ (Done s (Q_rmB Z a  h0 n0) ({ frames := 1, cells := 2, slots := 8, locals := 12 } : Room).cells ({ frames := 1, cells := 2, slots := 8, locals := 12 } : Room).slots)
  refine Go.via (fun tQ kQ => castTop (ef_1 m a) kQ) ?_
  show Go p e below (s₁.setTop (mkF m 0 #[.val (.ref a)] [])) _
  refine Go.via (fun _ => XS.aloadN X0.here hx rfl (hb hby d1_0) rfl rfl) ?_
  obtain ⟨T1, X1, e1, st1⟩ := initO X0 hx hZ hown (tw hw 7 rfl) (tw hw 8 rfl) (tw hw 9 rfl) e0 (g := (mkF m 1 #[.val (.ref a)] [(.ref a)])) rfl (by rw [hml]; rfl) rfl (hb hby d1_1) (by decide) (W := 0) (by show 2 * 0 + _ ≤ _; exact Nat.le_of_eq rfl) (by decide)
  refine Go.via (st1) ?_
  clear st1
  clear X0 e0
  show Go p e below (T1.setTop (mkF m 4 #[.val (.ref a)] [])) _
  refine Go.via (fun _ => XS.aloadN X1.here hx rfl (hb hby d1_4) rfl rfl) ?_
  refine Go.via (fun _ => XS.iconst X1.here hx rfl (hb hby d1_5)) ?_
  obtain ⟨T2, h2, k2, X2, e2, E2, A2, B2, st2⟩ := newPE X1 hx hZ (tw hw 10 rfl) e1 (g := (mkF m 6 #[.val (.ref a)] [(.int (4 : Int32)), (.ref a)])) rfl (hb hby d1_6) rfl (by decide) (cap := 4) (by decide) (by decide) (by decide) (by decide) (ad := "[I") (by decide)
  obtain ⟨b2, g2⟩ : ∃ z, z = h0.size := ⟨_, rfl⟩
  rw [← g2] at A2 B2 st2
  have ne3 : a ≠ b2 := Nat.ne_of_lt (Nat.lt_of_lt_of_le P0.lt (Nat.le_of_eq g2.symm))
  have ge4 : n0 ≤ b2 := Nat.le_trans Z0 (Nat.le_of_eq g2.symm)
  have sz5 : h0.size ≤ b2 := Nat.le_trans (Keep.refl h0 [a]).1 (Nat.le_of_eq g2.symm)
  refine Go.via (st2) ?_
  clear st2
  have f6 : Ia Z h2 b2 .int [(0 : Int32), (0 : Int32), (0 : Int32), (0 : Int32)] := Ia.new A2 rfl
  clear X1 e1
  show Go p e below (T2.setTop (mkF m 8 #[.val (.ref a)] [(.ref b2), (.ref a)])) _
  have f7 : Fld Z h2 a "com/example/libcosearch/libcosearch/PostingList$Builder" "documents" "[I" .null := (P1.ext E2)
  have f8 : Exa Z h2 a "com/example/libcosearch/libcosearch/PostingList$Builder" := (P0.ext E2)
  obtain ⟨T9, h9, X9, e9, W9, st9⟩ := putF X2 hx hZ hown (host := "") (Or.inl (tw hw 11 rfl)) Via.refl e2 f7 f8 (Or.inl (tw hw 12 rfl)) (tw hw 2 rfl) (ty := (.array .int)) (by decide) rfl rfl (g := (mkF m 8 #[.val (.ref a)] [(.ref b2), (.ref a)])) rfl rfl (hb hby d1_8)
  refine Go.via (st9) ?_
  clear st9
  have N9 := Fr.snoc X9 N0 g_a
  have f10 : Fld Z h9 a "com/example/libcosearch/libcosearch/PostingList$Builder" "documents" "[I" (.ref b2) := f7.same W9
  clear X2 e2
  show Go p e below (T9.setTop (mkF m 11 #[.val (.ref a)] [])) _
  refine Go.via (fun _ => XS.aloadN X9.here hx rfl (hb hby d1_11) rfl rfl) ?_
  refine Go.via (fun _ => XS.iconst X9.here hx rfl (hb hby d1_12)) ?_
  have k12 : Keep h0 h9 [a] := (((Keep.refl h0 [a]).ext E2).wr W9 (Or.inl (List.mem_of_getElem? (i := 0) rfl)))
  have z13 : n0 ≤ h9.size := (Nat.le_trans (Nat.le_trans Z0 E2.1) (Keep.of_wr W9).1)
  obtain ⟨T11, h11, k11, X11, e11, E11, A11, B11, st11⟩ := newPE X9 hx hZ (tw hw 10 rfl) e9 (g := (mkF m 13 #[.val (.ref a)] [(.int (4 : Int32)), (.ref a)])) rfl (hb hby d1_13) rfl (by decide) (cap := 4) (by decide) (by decide) (by decide) (by decide) (ad := "[I") (by decide)
  obtain ⟨b11, g11⟩ : ∃ z, z = h9.size := ⟨_, rfl⟩
  rw [← g11] at A11 B11 st11
  have f15 : Exa Z h9 a "com/example/libcosearch/libcosearch/PostingList$Builder" := (f8.wr W9)
  have ne14 : a ≠ b11 := Nat.ne_of_lt (Nat.lt_of_lt_of_le f15.lt (Nat.le_of_eq g11.symm))
  have f17 : Ia Z h9 b2 .int [(0 : Int32), (0 : Int32), (0 : Int32), (0 : Int32)] := (f6.other W9 (Ne.symm ne3))
  have ne16 : b2 ≠ b11 := Nat.ne_of_lt (Nat.lt_of_lt_of_le f17.lt (Nat.le_of_eq g11.symm))
  have ge18 : n0 ≤ b11 := Nat.le_trans z13 (Nat.le_of_eq g11.symm)
  have sz19 : h0.size ≤ b11 := Nat.le_trans k12.1 (Nat.le_of_eq g11.symm)
  refine Go.via (st11) ?_
  clear st11
  have f20 : Ia Z h11 b11 .int [(0 : Int32), (0 : Int32), (0 : Int32), (0 : Int32)] := Ia.new A11 rfl
  clear X9 e9
  show Go p e below (T11.setTop (mkF m 15 #[.val (.ref a)] [(.ref b11), (.ref a)])) _
  have f21 : Fld Z h11 a "com/example/libcosearch/libcosearch/PostingList$Builder" "frequencies" "[I" .null := (((P2.ext E2).other W9 (Or.inr (slot_ne (Or.inl (tw hw 14 rfl)) (Or.inl (tw hw 12 rfl)) (by decide) (t := (.array .int)) (t' := (.array .int)) (by decide) (by decide)))).ext E11)
  have f22 : Exa Z h11 a "com/example/libcosearch/libcosearch/PostingList$Builder" := (f15.ext E11)
  obtain ⟨T23, h23, X23, e23, W23, st23⟩ := putF X11 hx hZ hown (host := "") (Or.inl (tw hw 13 rfl)) Via.refl e11 f21 f22 (Or.inl (tw hw 14 rfl)) (tw hw 2 rfl) (ty := (.array .int)) (by decide) rfl rfl (g := (mkF m 15 #[.val (.ref a)] [(.ref b11), (.ref a)])) rfl rfl (hb hby d1_15)
  refine Go.via (st23) ?_
  clear st23
  have N23 := Fr.snoc X23 N9 g_a
  have f24 : Fld Z h23 a "com/example/libcosearch/libcosearch/PostingList$Builder" "frequencies" "[I" (.ref b11) := f21.same W23
  clear X11 e11
  show Go p e below (T23.setTop (mkF m 18 #[.val (.ref a)] [])) _
  have k25 : Keep h0 h23 [a] := ((k12.ext E11).wr W23 (Or.inl (List.mem_of_getElem? (i := 0) rfl)))
  have f26 : Exa Z h23 a "com/example/libcosearch/libcosearch/PostingList$Builder" := (f22.wr W23)
  have f27 : Fld Z h23 a "com/example/libcosearch/libcosearch/PostingList$Builder" "documents" "[I" (.ref b2) := ((f10.ext E11).other W23 (Or.inr (slot_ne (Or.inl (tw hw 12 rfl)) (Or.inl (tw hw 14 rfl)) (by decide) (t := (.array .int)) (t' := (.array .int)) (by decide) (by decide))))
  have f28 : Fld Z h23 a "com/example/libcosearch/libcosearch/PostingList$Builder" "size" "I" (.int (0 : Int32)) := ((((P3.ext E2).other W9 (Or.inr (slot_ne (Or.inl (tw hw 24 rfl)) (Or.inl (tw hw 12 rfl)) (by decide) (t := .int) (t' := (.array .int)) (by decide) (by decide)))).ext E11).other W23 (Or.inr (slot_ne (Or.inl (tw hw 24 rfl)) (Or.inl (tw hw 14 rfl)) (by decide) (t := .int) (t' := (.array .int)) (by decide) (by decide))))
  have f29 : Ia Z h23 b2 .int [(0 : Int32), (0 : Int32), (0 : Int32), (0 : Int32)] := ((f17.ext E11).other W23 (Ne.symm ne3))
  have f30 : Ia Z h23 b11 .int [(0 : Int32), (0 : Int32), (0 : Int32), (0 : Int32)] := (f20.other W23 (Ne.symm ne14))
  have f31 : Exa Z h23 b2 "[I" := (((B2.wr W9).ext E11).wr W23)
  have f32 : Exa Z h23 b11 "[I" := (B11.wr W23)
  exact Go.fin X23 hlk (v := none) (fun _ => rfl) (fun fs hr => X23.returnOut hx Bd.returns (hb hby d1_18) hr) (by rw [e23]; exact ⟨b2, b11, rfl, N23, k25, sz5, sz19, f26, f27, f24, f28, f29, f30, f31, f32, ne16⟩) (by decide) (by decide)
theorem d5_0 : decode jdk_29_method_69_code 0 = .ok (.iload_n 0, 1) := by decide +kernel
theorem d5_1 : decode jdk_29_method_69_code 1 = .ok (.iload_n 1, 1) := by decide +kernel
theorem d5_2 : decode jdk_29_method_69_code 2 = .ok (.if_icmp .gt 7, 3) := by decide +kernel
theorem d5_9 : decode jdk_29_method_69_code 9 = .ok (.iload_n 1, 1) := by decide +kernel
theorem d5_10 : decode jdk_29_method_69_code 10 = .ok (.ireturn, 1) := by decide +kernel
theorem d5_5 : decode jdk_29_method_69_code 5 = .ok (.iload_n 0, 1) := by decide +kernel
theorem d5_6 : decode jdk_29_method_69_code 6 = .ok (.goto 4, 3) := by decide +kernel
theorem ef_5 (m : MethodId) (x0 : Int32) (x1 : Int32) : entryFrame m #[(.int x0), (.int x1)] 2 = mkF m 0 #[.val (.int x0), .val (.int x1)] [] := by first | (simp [entryFrame, mkF, argsToLocals, Value.category]; done) | rfl
def Q_rmM (Z : State) (x : Int32) (y : Int32)  (h0 : Heap) (n0 : Nat) (vQ : Option Value) (hQ : Heap) (LQ : List Loc) : Prop := vQ = some (.int (if y < x then y else x)) ∧ Fr n0 LQ ∧ hQ = h0
set_option maxRecDepth 65536 in
set_option maxHeartbeats 40000000 in
theorem rmM (l : Launch) (Z : State) (a0 : Array Value) (hw : ∀ d ∈ tables_1, d.before a0 Z = true) (ws : List Jvm.Cond) (x : Int32) (y : Int32)  (h0 : Heap) (n0 : Nat) (Z0 : n0 ≤ h0.size) :
    MetFree l (⟨"java/lang/Math", "min", "(II)I"⟩ : MethodName) (head1 (Jvm.Cond.code (⟨"java/lang/Math", "min", "(II)I"⟩ : MethodName) jdk_29_method_69_code 2 (some .int) :: ws) ({ frames := 0, cells := 0, slots := 0, locals := 0 } : Room)) (fun aQ UQ => aQ = #[(.int x), (.int y)] ∧ Z.Warmed39 UQ.vm ∧ UQ.heap = h0) (fun _ _ _ _ _ => True) (fun _ UQ oQ UR => ∃ vQ LQ, oQ = .returned vQ ∧ Q_rmM Z x y  h0 n0 vQ UR.heap LQ ∧ FrameEnd UQ oQ UR LQ ({ frames := 0, cells := 0, slots := 0, locals := 0 } : Room).cells ({ frames := 0, cells := 0, slots := 0, locals := 0 } : Room).slots) := by
  refine MetFree.of_bodySF (Jvm.Free.JP.mathPlain rfl (by decide +kernel)) hisR ?_
  intro p e s m args below meth c s₁ Bd hml0 hP hK
  obtain ⟨rfl, hZ, hh⟩ := hP
  have hx := Bd.exec
  have hby := Bd.bytes
  have hlk := Bd.notSynchronized
  have hml : c.maxLocals = 2 := hml0
  have hown : s.vm.findClass "java/lang/Math" = some m.cls := findClass_of_methodNamed Bd.named
  have hnm := (name_of_methodNamed Bd.named Bd.method).1
  have X0 : Stand p l e ({ frames := 0, cells := 0, slots := 0, locals := 0 } : Room) s m #[(.int x), (.int y)] below meth c s₁ [] 0 0 := Stand.of_body Bd
  have e0 : s₁.heap = h0 := by rw [← hh, Bd.state]; rfl
  have N0 := Fr.nil n0
  show Go p e below _ (Done s (Q_rmM Z x y  h0 n0) ({ frames := 0, cells := 0, slots := 0, locals := 0 } : Room).cells ({ frames := 0, cells := 0, slots := 0, locals := 0 } : Room).slots)
  refine Go.via (fun tQ kQ => castTop (ef_5 m x y) kQ) ?_
  show Go p e below (s₁.setTop (mkF m 0 #[.val (.int x), .val (.int y)] [])) _
  refine Go.via (fun _ => XS.iloadN X0.here hx rfl (hb hby d5_0) rfl) ?_
  refine Go.via (fun _ => XS.iloadN X0.here hx rfl (hb hby d5_1) rfl) ?_
  by_cases hc33 : y < x
  · refine Go.via (fun _ => XS.icmpYes X0.here hx rfl (pc0 := 2) (pc' := 9) rfl (hb hby d5_2) rfl (tlt (hc33 : y < x)).2.2.1 (by decide) (by decide)) ?_
    refine Go.via (fun _ => XS.iloadN X0.here hx rfl (hb hby d5_9) rfl) ?_
    exact Go.fin X0 hlk (v := some (.int y)) (fun h => by rw [Bd.returns] at h; cases h) (fun fs hr => OwnKit.retI X0 hx Bd.returns (hb hby d5_10) hr) (by rw [e0]; exact ⟨(by first | rw [if_pos (by assumption)] | rw [if_neg (by assumption)]), N0, rfl⟩) (by decide) (by decide)
  · refine Go.via (fun _ => XS.icmpNo X0.here hx rfl (hb hby d5_2) rfl (flt (hc33 : ¬ (y < x))).2.2.1) ?_
    refine Go.via (fun _ => XS.iloadN X0.here hx rfl (hb hby d5_5) rfl) ?_
    refine Go.via (fun _ => XS.goto X0.here hx rfl (pc0 := 6) (pc' := 10) rfl (hb hby d5_6) (by decide) (by decide)) ?_
    show Go p e below (s₁.setTop (mkF m 10 #[.val (.int x), .val (.int y)] [(.int x)])) _
    exact Go.fin X0 hlk (v := some (.int x)) (fun h => by rw [Bd.returns] at h; cases h) (fun fs hr => OwnKit.retI X0 hx Bd.returns (hb hby d5_10) hr) (by rw [e0]; exact ⟨(by first | rw [if_pos (by assumption)] | rw [if_neg (by assumption)]), N0, rfl⟩) (by decide) (by decide)
def own_cpy (xs : List Int32) (n : Int32) : List Int32 := xs.take n.toNatClampNeg ++ List.replicate (n.toNatClampNeg - xs.length) 0
theorem own_l32 {n : Nat} (h : n < 2147483648) : n.toInt32.toInt = (n : Int) := Int32.toInt_ofNat_small h
theorem own_nn {z : Int32} (h : 0 ≤ z.toInt) : ¬ z < 0 := by
  rw [Int32.lt_iff_toInt_lt]; have : (0 : Int32).toInt = 0 := rfl; omega
theorem own_mn {xs : List Int32} {n : Int32} (hl : xs.length < 2147483648) (h0 : ¬ n < 0) : ¬ (if n < xs.length.toInt32 then n else xs.length.toInt32) < 0 ∧ (if n < xs.length.toInt32 then n else xs.length.toInt32).toNatClampNeg = min n.toNatClampNeg xs.length := by
  have e := own_l32 hl
  have e2 := nat_of h0
  have e3 := (len32 hl).1
  split
  · rename_i q; rw [Int32.lt_iff_toInt_lt, e] at q; exact ⟨h0, by omega⟩
  · rename_i q; rw [Int32.lt_iff_toInt_lt, e] at q; exact ⟨own_nn (by omega), by omega⟩
theorem own_cpc {Z : State} {h : Heap} {r : Addr} {n : Int32} {xs : List Int32} (hl : xs.length < 2147483648) (h0 : ¬ n < 0)
    (V : Ia Z h r .int ((List.replicate (n).toNatClampNeg (0 : Int32)).take (0 : Int32).toNatClampNeg ++ (xs.drop (0 : Int32).toNatClampNeg).take (if n < xs.length.toInt32 then n else xs.length.toInt32).toNatClampNeg ++ (List.replicate (n).toNatClampNeg (0 : Int32)).drop ((0 : Int32).toNatClampNeg + (if n < xs.length.toInt32 then n else xs.length.toInt32).toNatClampNeg))) : Ia Z h r .int (own_cpy xs n) := by
  have e : (0 : Int32).toNatClampNeg = 0 := rfl
  rw [e, (own_mn hl h0).2] at V
  have e2 : own_cpy xs n = (List.replicate (n).toNatClampNeg (0 : Int32)).take 0 ++ (xs.drop 0).take (min n.toNatClampNeg xs.length) ++ (List.replicate (n).toNatClampNeg (0 : Int32)).drop (0 + min n.toNatClampNeg xs.length) := by
    simp only [own_cpy, List.take_zero, List.nil_append, List.drop_zero, List.drop_replicate, Nat.zero_add]
    congr 1
    · by_cases q : n.toNatClampNeg ≤ xs.length
      · rw [Nat.min_eq_left q]
      · rw [Nat.min_eq_right (by omega), List.take_of_length_le (by omega), List.take_of_length_le (Nat.le_refl _)]
    · congr 1; omega
  rw [e2]; exact V
theorem d4_0 : decode jdk_65_method_123_code 0 = .ok (.iload_n 1, 1) := by decide +kernel
theorem d4_1 : decode jdk_65_method_123_code 1 = .ok (.aload_n 0, 1) := by decide +kernel
theorem d4_2 : decode jdk_65_method_123_code 2 = .ok (.arraylength, 1) := by decide +kernel
theorem d4_3 : decode jdk_65_method_123_code 3 = .ok (.if_icmp .ne 11, 3) := by decide +kernel
theorem d4_14 : decode jdk_65_method_123_code 14 = .ok (.iload_n 1, 1) := by decide +kernel
theorem d4_15 : decode jdk_65_method_123_code 15 = .ok (.newarray .int, 2) := by decide +kernel
theorem d4_17 : decode jdk_65_method_123_code 17 = .ok (.astore_n 2, 1) := by decide +kernel
theorem d4_18 : decode jdk_65_method_123_code 18 = .ok (.aload_n 0, 1) := by decide +kernel
theorem d4_19 : decode jdk_65_method_123_code 19 = .ok (.iconst 0, 1) := by decide +kernel
theorem d4_20 : decode jdk_65_method_123_code 20 = .ok (.aload_n 2, 1) := by decide +kernel
theorem d4_21 : decode jdk_65_method_123_code 21 = .ok (.iconst 0, 1) := by decide +kernel
theorem d4_22 : decode jdk_65_method_123_code 22 = .ok (.aload_n 0, 1) := by decide +kernel
theorem d4_23 : decode jdk_65_method_123_code 23 = .ok (.arraylength, 1) := by decide +kernel
theorem d4_24 : decode jdk_65_method_123_code 24 = .ok (.iload_n 1, 1) := by decide +kernel
theorem d4_25 : decode jdk_65_method_123_code 25 = .ok (.invokestatic 304, 3) := by decide +kernel
theorem pd__28II_29I : parseMethodDescriptor "(II)I" = some ⟨[.int, .int], some .int⟩ := by decide +kernel
theorem d4_28 : decode jdk_65_method_123_code 28 = .ok (.invokestatic 150, 3) := by decide +kernel
theorem d4_31 : decode jdk_65_method_123_code 31 = .ok (.aload_n 2, 1) := by decide +kernel
theorem d4_32 : decode jdk_65_method_123_code 32 = .ok (.areturn, 1) := by decide +kernel
theorem pn_4 : plainName "java/util/Arrays" = true := by first | (simp [plainName, overriddenIn]; done) | decide +kernel
theorem ef_4 (m : MethodId) (x0 : Addr) (x1 : Int32) : entryFrame m #[(.ref x0), (.int x1)] 3 = mkF m 0 #[.val (.ref x0), .val (.int x1), .unset] [] := by first | (simp [entryFrame, mkF, argsToLocals, Value.category]; done) | rfl
def Q_rmC (Z : State) (b : Addr) (n : Int32) (xs : List Int32) (h0 : Heap) (n0 : Nat) (vQ : Option Value) (hQ : Heap) (LQ : List Loc) : Prop := ∃ r : Addr, vQ = some (.ref r) ∧ Fr n0 LQ ∧ Keep h0 hQ [] ∧ h0.size ≤ r ∧ Ia Z hQ r .int (own_cpy xs n) ∧ Exa Z hQ r "[I"
set_option maxRecDepth 65536 in
set_option maxHeartbeats 40000000 in
theorem rmC (l : Launch) (Z : State) (a0 : Array Value) (hw : ∀ d ∈ tables_1, d.before a0 Z = true) (ws : List Jvm.Cond) (b : Addr) (n : Int32) (xs : List Int32) (h0 : Heap) (n0 : Nat) (Z0 : n0 ≤ h0.size) (P0 : Ia Z h0 b .int xs) (hne : ¬ n = xs.length.toInt32) (h0n : ¬ n < 0) (hcap : n.toNatClampNeg ≤ 8) (hxl : xs.length < 2147483648) :
    MetFree l (⟨"java/util/Arrays", "copyOf", "([II)[I"⟩ : MethodName) (head1 (Jvm.Cond.code (⟨"java/util/Arrays", "copyOf", "([II)[I"⟩ : MethodName) jdk_65_method_123_code 3 (some (.array .int)) :: ws) ({ frames := 1, cells := 1, slots := 8, locals := 40 } : Room)) (fun aQ UQ => aQ = #[(.ref b), (.int n)] ∧ Z.Warmed39 UQ.vm ∧ UQ.heap = h0) (fun _ _ _ _ _ => True) (fun _ UQ oQ UR => ∃ vQ LQ, oQ = .returned vQ ∧ Q_rmC Z b n xs h0 n0 vQ UR.heap LQ ∧ FrameEnd UQ oQ UR LQ ({ frames := 1, cells := 1, slots := 8, locals := 40 } : Room).cells ({ frames := 1, cells := 1, slots := 8, locals := 40 } : Room).slots) := by
  refine MetFree.of_bodySF (plainFor_of_name pn_4) hisR ?_
  intro p e s m args below meth c s₁ Bd hml0 hP hK
  obtain ⟨rfl, hZ, hh⟩ := hP
  have hx := Bd.exec
  have hby := Bd.bytes
  have hlk := Bd.notSynchronized
  have hml : c.maxLocals = 3 := hml0
  have hown : s.vm.findClass "java/util/Arrays" = some m.cls := findClass_of_methodNamed Bd.named
  have hnm := (name_of_methodNamed Bd.named Bd.method).1
  have X0 : Stand p l e ({ frames := 1, cells := 1, slots := 8, locals := 40 } : Room) s m #[(.ref b), (.int n)] below meth c s₁ [] 0 0 := Stand.of_body Bd
  have e0 : s₁.heap = h0 := by rw [← hh, Bd.state]; rfl
  have N0 := Fr.nil n0
  show Go p e below _ (Done s (Q_rmC Z b n xs h0 n0) ({ frames := 1, cells := 1, slots := 8, locals := 40 } : Room).cells ({ frames := 1, cells := 1, slots := 8, locals := 40 } : Room).slots)
  refine Go.via (fun tQ kQ => castTop (ef_4 m b n) kQ) ?_
  show Go p e below (s₁.setTop (mkF m 0 #[.val (.ref b), .val (.int n), .unset] [])) _
  refine Go.via (fun _ => XS.iloadN X0.here hx rfl (hb hby d4_0) rfl) ?_
  refine Go.via (fun _ => XS.aloadN X0.here hx rfl (hb hby d4_1) rfl rfl) ?_
  refine Go.via (lenI X0 hx hZ e0 P0 (n := (xs.length.toInt32)) rfl (g := (mkF m 2 #[.val (.ref b), .val (.int n), .unset] [(.ref b), (.int n)])) rfl rfl (hb hby d4_2)) ?_
  show Go p e below (s₁.setTop (mkF m 3 #[.val (.ref b), .val (.int n), .unset] [(.int (xs.length.toInt32)), (.int n)])) _
  refine Go.via (fun _ => XS.icmpYes X0.here hx rfl (pc0 := 3) (pc' := 14) rfl (hb hby d4_3) rfl (feq (hne : ¬ (n = (xs.length.toInt32)))).2 (by decide) (by decide)) ?_
  show Go p e below (s₁.setTop (mkF m 14 #[.val (.ref b), .val (.int n), .unset] [])) _
  refine Go.via (fun _ => XS.iloadN X0.here hx rfl (hb hby d4_14) rfl) ?_
  obtain ⟨T34, h34, k34, X34, e34, E34, A34, B34, st34⟩ := newPE X0 hx hZ (tw hw 10 rfl) e0 (g := (mkF m 15 #[.val (.ref b), .val (.int n), .unset] [(.int n)])) rfl (hb hby d4_15) rfl h0n (cap := 8) hcap (by decide) (by decide) (by decide) (ad := "[I") (by decide)
  obtain ⟨b34, g34⟩ : ∃ z, z = h0.size := ⟨_, rfl⟩
  rw [← g34] at A34 B34 st34
  have ne35 : b ≠ b34 := Nat.ne_of_lt (Nat.lt_of_lt_of_le P0.lt (Nat.le_of_eq g34.symm))
  have ge36 : n0 ≤ b34 := Nat.le_trans Z0 (Nat.le_of_eq g34.symm)
  have sz37 : h0.size ≤ b34 := Nat.le_trans (Keep.refl h0 []).1 (Nat.le_of_eq g34.symm)
  refine Go.via (st34) ?_
  clear st34
  have f38 : Ia Z h34 b34 .int (List.replicate (n).toNatClampNeg 0) := Ia.new A34 rfl
  clear X0 e0
  show Go p e below (T34.setTop (mkF m 17 #[.val (.ref b), .val (.int n), .unset] [(.ref b34)])) _
  refine Go.via (fun _ => XS.astoreN X34.here hx rfl (hb hby d4_17) rfl rfl (l' := #[.val (.ref b), .val (.int n), .val (.ref b34)]) rfl) ?_
  show Go p e below (T34.setTop (mkF m 18 #[.val (.ref b), .val (.int n), .val (.ref b34)] [])) _
  refine Go.via (fun _ => XS.aloadN X34.here hx rfl (hb hby d4_18) rfl rfl) ?_
  refine Go.via (fun _ => XS.iconst X34.here hx rfl (hb hby d4_19)) ?_
  refine Go.via (fun _ => XS.aloadN X34.here hx rfl (hb hby d4_20) rfl rfl) ?_
  refine Go.via (fun _ => XS.iconst X34.here hx rfl (hb hby d4_21)) ?_
  show Go p e below (T34.setTop (mkF m 22 #[.val (.ref b), .val (.int n), .val (.ref b34)] [(.int (0 : Int32)), (.ref b34), (.int (0 : Int32)), (.ref b)])) _
  refine Go.via (fun _ => XS.aloadN X34.here hx rfl (hb hby d4_22) rfl rfl) ?_
  have f39 : Ia Z h34 b .int xs := (P0.ext E34)
  refine Go.via (lenI X34 hx hZ e34 f39 (n := (xs.length.toInt32)) rfl (g := (mkF m 23 #[.val (.ref b), .val (.int n), .val (.ref b34)] [(.ref b), (.int (0 : Int32)), (.ref b34), (.int (0 : Int32)), (.ref b)])) rfl rfl (hb hby d4_23)) ?_
  show Go p e below (T34.setTop (mkF m 24 #[.val (.ref b), .val (.int n), .val (.ref b34)] [(.int (xs.length.toInt32)), (.int (0 : Int32)), (.ref b34), (.int (0 : Int32)), (.ref b)])) _
  refine Go.via (fun _ => XS.iloadN X34.here hx rfl (hb hby d4_24) rfl) ?_
  have z41 : n0 ≤ h34.size := (Nat.le_trans Z0 E34.1)
  obtain ⟨_, _, ⟨T40, L40, k40, n40⟩, -, X40, ⟨Lc40, hQ40, l40, y40, z40⟩, st40⟩ := Jvm.LawKit.callS X34 hx (y := (⟨"java/lang/Math", "min", "(II)I"⟩ : MethodName)) hown (mvT hZ (tw hw 29 rfl)) (mvT hZ (tw hw 30 rfl)) (mvT hZ (tw hw 31 rfl)) (mvT hZ (tw hw 32 rfl)) (by decide) (backOf (W := 4) (rmM l Z a0 hw [] (xs.length.toInt32) n  h34 n0 z41) hZ (tw hw 32 rfl) (tw hw 31 rfl) (by decide) (by decide)) (g := (mkF m 25 #[.val (.ref b), .val (.int n), .val (.ref b34)] [(.int n), (.int (xs.length.toInt32)), (.int (0 : Int32)), (.ref b34), (.int (0 : Int32)), (.ref b)])) rfl (by rw [hml]; rfl) (argsL := [(.int (xs.length.toInt32)), (.int n)]) (rest := [(.int (0 : Int32)), (.ref b34), (.int (0 : Int32)), (.ref b)]) (lenOf pd__28II_29I rfl) rfl (by show 2 * 0 + _ ≤ _; exact Nat.le_of_eq rfl) (hb hby d4_25) (fun _ _ => ⟨rfl, e34, (by decide : 1 + 0 ≤ _), (by decide : 8 + 0 ≤ _)⟩)
  dsimp only [Pt.U, Pt.locs, Pt.cells, Pt.slots] at X40 l40 y40 z40 st40 hQ40
  subst l40 y40 z40
  obtain ⟨rfl, N40q, eh40⟩ := hQ40
  have N40 := Fr.app N0 N40q
  refine Go.via (st40) ?_
  clear st40
  have e40 : T40.heap = h34 := eh40
  clear X34 e34
  show Go p e below (T40.setTop (mkF m 28 #[.val (.ref b), .val (.int n), .val (.ref b34)] [(.int (if n < (xs.length.toInt32) then n else (xs.length.toInt32))), (.int (0 : Int32)), (.ref b34), (.int (0 : Int32)), (.ref b)])) _
  have k43 : Keep h0 h34 [] := ((Keep.refl h0 []).ext E34)
  obtain ⟨T42, h42, L42, X42, e42, N42, K42, V42, st42⟩ := cpI X40 hx hZ hown (tw hw 33 rfl) (tw hw 36 rfl) (tw hw 34 rfl) (tw hw 35 rfl) e40 f39 f38 rfl (by decide) (by decide) (own_mn hxl h0n).1 (by rw [(own_mn hxl h0n).2, show (0 : Int32).toNatClampNeg = 0 from rfl]; omega) (by rw [(own_mn hxl h0n).2, show (0 : Int32).toNatClampNeg = 0 from rfl, List.length_replicate]; omega) N40 ge36 (g := (mkF m 28 #[.val (.ref b), .val (.int n), .val (.ref b34)] [(.int (if n < (xs.length.toInt32) then n else (xs.length.toInt32))), (.int (0 : Int32)), (.ref b34), (.int (0 : Int32)), (.ref b)])) rfl (by rw [hml]; rfl) rfl (hb hby d4_28) (by decide) (W := 0) (by show 2 * 0 + _ ≤ _; exact Nat.le_of_eq rfl) (by decide)
  refine Go.via (st42) ?_
  clear st42
  have f44 : Ia Z h42 b34 .int (own_cpy xs n) := (own_cpc hxl h0n V42)
  clear X40 e40
  show Go p e below (T42.setTop (mkF m 31 #[.val (.ref b), .val (.int n), .val (.ref b34)] [])) _
  refine Go.via (fun _ => XS.aloadN X42.here hx rfl (hb hby d4_31) rfl rfl) ?_
  have k45 : Keep h0 h42 [] := (k43.trans K42 (allS (Or.inr sz37) all0))
  have f46 : Exa Z h42 b34 "[I" := (B34.keep K42)
  exact Go.fin X42 hlk (v := some (.ref b34)) (fun h => by rw [Bd.returns] at h; cases h) (fun fs hr => retOut X42 hx Bd.returns rfl (Or.inr (Or.inr (Or.inr (Or.inr ⟨rfl, rfl, rfl⟩)))) (hb hby d4_32) hr) (by rw [e42]; exact ⟨b34, rfl, N42, k45, sz37, f44, f46⟩) (by decide) (by decide)
theorem d4_6 : decode jdk_65_method_123_code 6 = .ok (.aload_n 0, 1) := by decide +kernel
theorem d4_7 : decode jdk_65_method_123_code 7 = .ok (.invokevirtual 316, 3) := by decide +kernel
theorem d4_10 : decode jdk_65_method_123_code 10 = .ok (.checkcast 317, 3) := by decide +kernel
theorem d4_13 : decode jdk_65_method_123_code 13 = .ok (.areturn, 1) := by decide +kernel
def Q_rmK (Z : State) (b : Addr) (n : Int32) (xs : List Int32) (h0 : Heap) (n0 : Nat) (vQ : Option Value) (hQ : Heap) (LQ : List Loc) : Prop := ∃ r : Addr, vQ = some (.ref r) ∧ Fr n0 LQ ∧ Keep h0 hQ [] ∧ h0.size ≤ r ∧ Ia Z hQ r .int xs ∧ Exa Z hQ r "[I"
set_option maxRecDepth 65536 in
set_option maxHeartbeats 40000000 in
theorem rmK (l : Launch) (Z : State) (a0 : Array Value) (hw : ∀ d ∈ tables_1, d.before a0 Z = true) (ws : List Jvm.Cond) (b : Addr) (n : Int32) (xs : List Int32) (h0 : Heap) (n0 : Nat) (Z0 : n0 ≤ h0.size) (P0 : Ia Z h0 b .int xs) (P1 : Exa Z h0 b "[I") (heq : n = xs.length.toInt32) (hcap : xs.length ≤ 8) :
    MetFree l (⟨"java/util/Arrays", "copyOf", "([II)[I"⟩ : MethodName) (head1 (Jvm.Cond.code (⟨"java/util/Arrays", "copyOf", "([II)[I"⟩ : MethodName) jdk_65_method_123_code 3 (some (.array .int)) :: ws) ({ frames := 1, cells := 1, slots := 8, locals := 14 } : Room)) (fun aQ UQ => aQ = #[(.ref b), (.int n)] ∧ Z.Warmed39 UQ.vm ∧ UQ.heap = h0) (fun _ _ _ _ _ => True) (fun _ UQ oQ UR => ∃ vQ LQ, oQ = .returned vQ ∧ Q_rmK Z b n xs h0 n0 vQ UR.heap LQ ∧ FrameEnd UQ oQ UR LQ ({ frames := 1, cells := 1, slots := 8, locals := 14 } : Room).cells ({ frames := 1, cells := 1, slots := 8, locals := 14 } : Room).slots) := by
  refine MetFree.of_bodySF (plainFor_of_name pn_4) hisR ?_
  intro p e s m args below meth c s₁ Bd hml0 hP hK
  obtain ⟨rfl, hZ, hh⟩ := hP
  have hx := Bd.exec
  have hby := Bd.bytes
  have hlk := Bd.notSynchronized
  have hml : c.maxLocals = 3 := hml0
  have hown : s.vm.findClass "java/util/Arrays" = some m.cls := findClass_of_methodNamed Bd.named
  have hnm := (name_of_methodNamed Bd.named Bd.method).1
  have X0 : Stand p l e ({ frames := 1, cells := 1, slots := 8, locals := 14 } : Room) s m #[(.ref b), (.int n)] below meth c s₁ [] 0 0 := Stand.of_body Bd
  have e0 : s₁.heap = h0 := by rw [← hh, Bd.state]; rfl
  have N0 := Fr.nil n0
  show Go p e below _ (Done s (Q_rmK Z b n xs h0 n0) ({ frames := 1, cells := 1, slots := 8, locals := 14 } : Room).cells ({ frames := 1, cells := 1, slots := 8, locals := 14 } : Room).slots)
  refine Go.via (fun tQ kQ => castTop (ef_4 m b n) kQ) ?_
  show Go p e below (s₁.setTop (mkF m 0 #[.val (.ref b), .val (.int n), .unset] [])) _
  refine Go.via (fun _ => XS.iloadN X0.here hx rfl (hb hby d4_0) rfl) ?_
  refine Go.via (fun _ => XS.aloadN X0.here hx rfl (hb hby d4_1) rfl rfl) ?_
  refine Go.via (lenI X0 hx hZ e0 P0 (n := (xs.length.toInt32)) rfl (g := (mkF m 2 #[.val (.ref b), .val (.int n), .unset] [(.ref b), (.int n)])) rfl rfl (hb hby d4_2)) ?_
  show Go p e below (s₁.setTop (mkF m 3 #[.val (.ref b), .val (.int n), .unset] [(.int (xs.length.toInt32)), (.int n)])) _
  refine Go.via (fun _ => XS.icmpNo X0.here hx rfl (hb hby d4_3) rfl (teq (heq : n = (xs.length.toInt32))).2) ?_
  show Go p e below (s₁.setTop (mkF m 6 #[.val (.ref b), .val (.int n), .unset] [])) _
  refine Go.via (fun _ => XS.aloadN X0.here hx rfl (hb hby d4_6) rfl rfl) ?_
  obtain ⟨T47, h47, X47, e47, E47, A47, B47, st47⟩ := cloneI X0 hx hZ hown (ad := "[I") (tw hw 62 rfl) (tw hw 63 rfl) (tw hw 67 rfl) (tw hw 65 rfl) (tw hw 66 rfl) (tw hw 68 rfl) e0 P0 P1 (g := (mkF m 7 #[.val (.ref b), .val (.int n), .unset] [(.ref b)])) rfl (by rw [hml]; rfl) rfl (hb hby d4_7) (by decide) (W := 0) (cap := 8) (by show 2 * 0 + _ ≤ _; exact Nat.le_of_eq rfl) (by decide) hcap (by decide) (by decide)
  obtain ⟨b47, g47⟩ : ∃ z, z = h0.size := ⟨_, rfl⟩
  rw [← g47] at A47 B47 st47
  have ne48 : b ≠ b47 := Nat.ne_of_lt (Nat.lt_of_lt_of_le P0.lt (Nat.le_of_eq g47.symm))
  have ge49 : n0 ≤ b47 := Nat.le_trans Z0 (Nat.le_of_eq g47.symm)
  have sz50 : h0.size ≤ b47 := Nat.le_trans (Keep.refl h0 []).1 (Nat.le_of_eq g47.symm)
  refine Go.via (st47) ?_
  clear st47
  clear X0 e0
  show Go p e below (T47.setTop (mkF m 10 #[.val (.ref b), .val (.int n), .unset] [(.ref b47)])) _
  obtain ⟨T51, X51, e51, st51⟩ := castY X47 hx hZ hown (tw hw 69 rfl) e47 (Ins.self B47) (g := (mkF m 10 #[.val (.ref b), .val (.int n), .unset] [(.ref b47)])) rfl rfl (hb hby d4_10)
  refine Go.via (st51) ?_
  clear st51
  clear X47 e47
  show Go p e below (T51.setTop (mkF m 13 #[.val (.ref b), .val (.int n), .unset] [(.ref b47)])) _
  have k52 : Keep h0 h47 [] := ((Keep.refl h0 []).ext E47)
  exact Go.fin X51 hlk (v := some (.ref b47)) (fun h => by rw [Bd.returns] at h; cases h) (fun fs hr => retOut X51 hx Bd.returns rfl (Or.inr (Or.inr (Or.inr (Or.inr ⟨rfl, rfl, rfl⟩)))) (hb hby d4_13) hr) (by rw [e51]; exact ⟨b47, rfl, N0, k52, sz50, A47, B47⟩) (by decide) (by decide)
theorem d6_0 : decode prog_23_method_1_code 0 = .ok (.aload_n 0, 1) := by decide +kernel
theorem d6_1 : decode prog_23_method_1_code 1 = .ok (.invokespecial 1, 3) := by decide +kernel
theorem d6_4 : decode prog_23_method_1_code 4 = .ok (.aload_n 0, 1) := by decide +kernel
theorem d6_5 : decode prog_23_method_1_code 5 = .ok (.aload_n 1, 1) := by decide +kernel
theorem d6_6 : decode prog_23_method_1_code 6 = .ok (.putfield 7, 3) := by decide +kernel
theorem d6_9 : decode prog_23_method_1_code 9 = .ok (.aload_n 0, 1) := by decide +kernel
theorem d6_10 : decode prog_23_method_1_code 10 = .ok (.aload_n 2, 1) := by decide +kernel
theorem d6_11 : decode prog_23_method_1_code 11 = .ok (.putfield 13, 3) := by decide +kernel
theorem d6_14 : decode prog_23_method_1_code 14 = .ok (.lconst 0, 1) := by decide +kernel
theorem d6_15 : decode prog_23_method_1_code 15 = .ok (.lstore_n 3, 1) := by decide +kernel
theorem d6_16 : decode prog_23_method_1_code 16 = .ok (.aload_n 2, 1) := by decide +kernel
theorem d6_17 : decode prog_23_method_1_code 17 = .ok (.astore 5, 2) := by decide +kernel
theorem d6_19 : decode prog_23_method_1_code 19 = .ok (.aload 5, 2) := by decide +kernel
theorem d6_21 : decode prog_23_method_1_code 21 = .ok (.arraylength, 1) := by decide +kernel
theorem d6_22 : decode prog_23_method_1_code 22 = .ok (.istore 6, 2) := by decide +kernel
theorem d6_24 : decode prog_23_method_1_code 24 = .ok (.iconst 0, 1) := by decide +kernel
theorem d6_25 : decode prog_23_method_1_code 25 = .ok (.istore 7, 2) := by decide +kernel
theorem d6_27 : decode prog_23_method_1_code 27 = .ok (.iload 7, 2) := by decide +kernel
theorem d6_29 : decode prog_23_method_1_code 29 = .ok (.iload 6, 2) := by decide +kernel
theorem d6_31 : decode prog_23_method_1_code 31 = .ok (.if_icmp .ge 22, 3) := by decide +kernel
theorem d6_53 : decode prog_23_method_1_code 53 = .ok (.aload_n 0, 1) := by decide +kernel
theorem d6_54 : decode prog_23_method_1_code 54 = .ok (.lload_n 3, 1) := by decide +kernel
theorem d6_55 : decode prog_23_method_1_code 55 = .ok (.putfield 16, 3) := by decide +kernel
theorem d6_58 : decode prog_23_method_1_code 58 = .ok (.return_, 1) := by decide +kernel
theorem pn_6 : plainName "com/example/libcosearch/libcosearch/PostingList" = true := by first | (simp [plainName, overriddenIn]; done) | decide +kernel
theorem ef_6 (m : MethodId) (x0 : Addr) (x1 : Addr) (x2 : Addr) : entryFrame m #[(.ref x0), (.ref x1), (.ref x2)] 9 = mkF m 0 #[.val (.ref x0), .val (.ref x1), .val (.ref x2), .unset, .unset, .unset, .unset, .unset, .unset] [] := by first | (simp [entryFrame, mkF, argsToLocals, Value.category]; done) | rfl
def Q_rmI0 (Z : State) (a : Addr) (d : Addr) (f : Addr)  (h0 : Heap) (n0 : Nat) (vQ : Option Value) (hQ : Heap) (LQ : List Loc) : Prop := vQ = none ∧ Fr n0 LQ ∧ Keep h0 hQ [a] ∧ Exa Z hQ a "com/example/libcosearch/libcosearch/PostingList" ∧ Fld Z hQ a "com/example/libcosearch/libcosearch/PostingList" "documents" "[I" (.ref d) ∧ Fld Z hQ a "com/example/libcosearch/libcosearch/PostingList" "frequencies" "[I" (.ref f) ∧ Fld Z hQ a "com/example/libcosearch/libcosearch/PostingList" "collectionFrequency" "J" (.long (0 : Int64))
set_option maxRecDepth 65536 in
set_option maxHeartbeats 40000000 in
theorem rmI0 (l : Launch) (Z : State) (a0 : Array Value) (hw : ∀ d ∈ tables_1, d.before a0 Z = true) (ws : List Jvm.Cond) (a : Addr) (d : Addr) (f : Addr)  (h0 : Heap) (n0 : Nat) (Z0 : n0 ≤ h0.size) (P0 : Exa Z h0 a "com/example/libcosearch/libcosearch/PostingList") (P1 : Fld Z h0 a "com/example/libcosearch/libcosearch/PostingList" "documents" "[I" .null) (P2 : Fld Z h0 a "com/example/libcosearch/libcosearch/PostingList" "frequencies" "[I" .null) (P3 : Fld Z h0 a "com/example/libcosearch/libcosearch/PostingList" "collectionFrequency" "J" (.long (0 : Int64))) (P4 : Ia Z h0 f .int []) (g_a : n0 ≤ a) (haf : a ≠ f) :
    MetFree l (⟨"com/example/libcosearch/libcosearch/PostingList", "<init>", "([I[I)V"⟩ : MethodName) (head1 (Jvm.Cond.code (⟨"com/example/libcosearch/libcosearch/PostingList", "<init>", "([I[I)V"⟩ : MethodName) prog_23_method_1_code 9 none :: ws) ({ frames := 1, cells := 0, slots := 0, locals := 12 } : Room)) (fun aQ UQ => aQ = #[(.ref a), (.ref d), (.ref f)] ∧ Z.Warmed39 UQ.vm ∧ UQ.heap = h0) (fun _ _ _ _ _ => True) (fun _ UQ oQ UR => ∃ vQ LQ, oQ = .returned vQ ∧ Q_rmI0 Z a d f  h0 n0 vQ UR.heap LQ ∧ FrameEnd UQ oQ UR LQ ({ frames := 1, cells := 0, slots := 0, locals := 12 } : Room).cells ({ frames := 1, cells := 0, slots := 0, locals := 12 } : Room).slots) := by
  refine MetFree.of_bodySF (plainFor_of_name pn_6) hisR ?_
  intro p e s m args below meth c s₁ Bd hml0 hP hK
  obtain ⟨rfl, hZ, hh⟩ := hP
  have hx := Bd.exec
  have hby := Bd.bytes
  have hlk := Bd.notSynchronized
  have hml : c.maxLocals = 9 := hml0
  have hown : s.vm.findClass "com/example/libcosearch/libcosearch/PostingList" = some m.cls := findClass_of_methodNamed Bd.named
  have hnm := (name_of_methodNamed Bd.named Bd.method).1
  have X0 : Stand p l e ({ frames := 1, cells := 0, slots := 0, locals := 12 } : Room) s m #[(.ref a), (.ref d), (.ref f)] below meth c s₁ [] 0 0 := Stand.of_body Bd
  have e0 : s₁.heap = h0 := by rw [← hh, Bd.state]; rfl
  have N0 := Fr.nil n0
  show Go p e below _ (Done s (Q_rmI0 Z a d f  h0 n0) ({ frames := 1, cells := 0, slots := 0, locals := 12 } : Room).cells ({ frames := 1, cells := 0, slots := 0, locals := 12 } : Room).slots)
  refine Go.via (fun tQ kQ => castTop (ef_6 m a d f) kQ) ?_
  show Go p e below (s₁.setTop (mkF m 0 #[.val (.ref a), .val (.ref d), .val (.ref f), .unset, .unset, .unset, .unset, .unset, .unset] [])) _
  refine Go.via (fun _ => XS.aloadN X0.here hx rfl (hb hby d6_0) rfl rfl) ?_
  obtain ⟨T53, X53, e53, st53⟩ := initO X0 hx hZ hown (tw hw 40 rfl) (tw hw 8 rfl) (tw hw 9 rfl) e0 (g := (mkF m 1 #[.val (.ref a), .val (.ref d), .val (.ref f), .unset, .unset, .unset, .unset, .unset, .unset] [(.ref a)])) rfl (by rw [hml]; rfl) rfl (hb hby d6_1) (by decide) (W := 0) (by show 2 * 0 + _ ≤ _; exact Nat.le_of_eq rfl) (by decide)
  refine Go.via (st53) ?_
  clear st53
  clear X0 e0
  show Go p e below (T53.setTop (mkF m 4 #[.val (.ref a), .val (.ref d), .val (.ref f), .unset, .unset, .unset, .unset, .unset, .unset] [])) _
  refine Go.via (fun _ => XS.aloadN X53.here hx rfl (hb hby d6_4) rfl rfl) ?_
  refine Go.via (fun _ => XS.aloadN X53.here hx rfl (hb hby d6_5) rfl rfl) ?_
  obtain ⟨T54, h54, X54, e54, W54, st54⟩ := putF X53 hx hZ hown (host := "") (Or.inl (tw hw 41 rfl)) Via.refl e53 P1 P0 (Or.inr ⟨(tw hw 42 rfl), rfl, hnm⟩) (tw hw 21 rfl) (ty := (.array .int)) (by decide) rfl rfl (g := (mkF m 6 #[.val (.ref a), .val (.ref d), .val (.ref f), .unset, .unset, .unset, .unset, .unset, .unset] [(.ref d), (.ref a)])) rfl rfl (hb hby d6_6)
  refine Go.via (st54) ?_
  clear st54
  have N54 := Fr.snoc X54 N0 g_a
  have f55 : Fld Z h54 a "com/example/libcosearch/libcosearch/PostingList" "documents" "[I" (.ref d) := P1.same W54
  clear X53 e53
  show Go p e below (T54.setTop (mkF m 9 #[.val (.ref a), .val (.ref d), .val (.ref f), .unset, .unset, .unset, .unset, .unset, .unset] [])) _
  refine Go.via (fun _ => XS.aloadN X54.here hx rfl (hb hby d6_9) rfl rfl) ?_
  refine Go.via (fun _ => XS.aloadN X54.here hx rfl (hb hby d6_10) rfl rfl) ?_
  have f56 : Fld Z h54 a "com/example/libcosearch/libcosearch/PostingList" "frequencies" "[I" .null := (P2.other W54 (Or.inr (slot_ne (Or.inr (tw hw 44 rfl)) (Or.inr (tw hw 42 rfl)) (by decide) (t := (.array .int)) (t' := (.array .int)) (by decide) (by decide))))
  have f57 : Exa Z h54 a "com/example/libcosearch/libcosearch/PostingList" := (P0.wr W54)
  obtain ⟨T58, h58, X58, e58, W58, st58⟩ := putF X54 hx hZ hown (host := "") (Or.inl (tw hw 43 rfl)) Via.refl e54 f56 f57 (Or.inr ⟨(tw hw 44 rfl), rfl, hnm⟩) (tw hw 21 rfl) (ty := (.array .int)) (by decide) rfl rfl (g := (mkF m 11 #[.val (.ref a), .val (.ref d), .val (.ref f), .unset, .unset, .unset, .unset, .unset, .unset] [(.ref f), (.ref a)])) rfl rfl (hb hby d6_11)
  refine Go.via (st58) ?_
  clear st58
  have N58 := Fr.snoc X58 N54 g_a
  have f59 : Fld Z h58 a "com/example/libcosearch/libcosearch/PostingList" "frequencies" "[I" (.ref f) := f56.same W58
  clear X54 e54
  show Go p e below (T58.setTop (mkF m 14 #[.val (.ref a), .val (.ref d), .val (.ref f), .unset, .unset, .unset, .unset, .unset, .unset] [])) _
  refine Go.via (fun _ => XS.lconst X58.here hx rfl (hb hby d6_14)) ?_
  refine Go.via (fun _ => XS.lstoreN X58.here hx rfl (hb hby d6_15) rfl (l' := #[.val (.ref a), .val (.ref d), .val (.ref f), .val (.long (0 : Int64)), .second, .unset, .unset, .unset, .unset]) rfl) ?_
  show Go p e below (T58.setTop (mkF m 16 #[.val (.ref a), .val (.ref d), .val (.ref f), .val (.long (0 : Int64)), .second, .unset, .unset, .unset, .unset] [])) _
  refine Go.via (fun _ => XS.aloadN X58.here hx rfl (hb hby d6_16) rfl rfl) ?_
  refine Go.via (fun _ => XS.astore X58.here hx rfl (hb hby d6_17) rfl rfl (l' := #[.val (.ref a), .val (.ref d), .val (.ref f), .val (.long (0 : Int64)), .second, .val (.ref f), .unset, .unset, .unset]) rfl) ?_
  show Go p e below (T58.setTop (mkF m 19 #[.val (.ref a), .val (.ref d), .val (.ref f), .val (.long (0 : Int64)), .second, .val (.ref f), .unset, .unset, .unset] [])) _
  refine Go.via (fun _ => XS.aload X58.here hx rfl (hb hby d6_19) rfl rfl) ?_
  have f60 : Ia Z h58 f .int [] := ((P4.other W54 (Ne.symm haf)).other W58 (Ne.symm haf))
  refine Go.via (lenI X58 hx hZ e58 f60 (n := (0 : Int32)) rfl (g := (mkF m 21 #[.val (.ref a), .val (.ref d), .val (.ref f), .val (.long (0 : Int64)), .second, .val (.ref f), .unset, .unset, .unset] [(.ref f)])) rfl rfl (hb hby d6_21)) ?_
  show Go p e below (T58.setTop (mkF m 22 #[.val (.ref a), .val (.ref d), .val (.ref f), .val (.long (0 : Int64)), .second, .val (.ref f), .unset, .unset, .unset] [(.int (0 : Int32))])) _
  refine Go.via (fun _ => XS.istore X58.here hx rfl (hb hby d6_22) rfl (l' := #[.val (.ref a), .val (.ref d), .val (.ref f), .val (.long (0 : Int64)), .second, .val (.ref f), .val (.int (0 : Int32)), .unset, .unset]) rfl) ?_
  show Go p e below (T58.setTop (mkF m 24 #[.val (.ref a), .val (.ref d), .val (.ref f), .val (.long (0 : Int64)), .second, .val (.ref f), .val (.int (0 : Int32)), .unset, .unset] [])) _
  refine Go.via (fun _ => XS.iconst X58.here hx rfl (hb hby d6_24)) ?_
  refine Go.via (fun _ => XS.istore X58.here hx rfl (hb hby d6_25) rfl (l' := #[.val (.ref a), .val (.ref d), .val (.ref f), .val (.long (0 : Int64)), .second, .val (.ref f), .val (.int (0 : Int32)), .val (.int (0 : Int32)), .unset]) rfl) ?_
  show Go p e below (T58.setTop (mkF m 27 #[.val (.ref a), .val (.ref d), .val (.ref f), .val (.long (0 : Int64)), .second, .val (.ref f), .val (.int (0 : Int32)), .val (.int (0 : Int32)), .unset] [])) _
  refine Go.via (fun _ => XS.iload X58.here hx rfl (hb hby d6_27) rfl) ?_
  refine Go.via (fun _ => XS.iload X58.here hx rfl (hb hby d6_29) rfl) ?_
  refine Go.via (fun _ => XS.icmpYes X58.here hx rfl (pc0 := 31) (pc' := 53) rfl (hb hby d6_31) rfl (flt ((by decide) : ¬ ((0 : Int32) < (0 : Int32)))).2.1 (by decide) (by decide)) ?_
  show Go p e below (T58.setTop (mkF m 53 #[.val (.ref a), .val (.ref d), .val (.ref f), .val (.long (0 : Int64)), .second, .val (.ref f), .val (.int (0 : Int32)), .val (.int (0 : Int32)), .unset] [])) _
  refine Go.via (fun _ => XS.aloadN X58.here hx rfl (hb hby d6_53) rfl rfl) ?_
  refine Go.via (fun _ => XS.lloadN X58.here hx rfl (hb hby d6_54) rfl) ?_
  have f61 : Fld Z h58 a "com/example/libcosearch/libcosearch/PostingList" "collectionFrequency" "J" (.long (0 : Int64)) := ((P3.other W54 (Or.inr (slot_ne (Or.inr (tw hw 46 rfl)) (Or.inr (tw hw 42 rfl)) (by decide) (t := .long) (t' := (.array .int)) (by decide) (by decide)))).other W58 (Or.inr (slot_ne (Or.inr (tw hw 46 rfl)) (Or.inr (tw hw 44 rfl)) (by decide) (t := .long) (t' := (.array .int)) (by decide) (by decide))))
  have f62 : Exa Z h58 a "com/example/libcosearch/libcosearch/PostingList" := (f57.wr W58)
  obtain ⟨T63, h63, X63, e63, W63, st63⟩ := putF X58 hx hZ hown (host := "") (Or.inl (tw hw 45 rfl)) Via.refl e58 f61 f62 (Or.inr ⟨(tw hw 46 rfl), rfl, hnm⟩) (tw hw 21 rfl) (ty := .long) (by decide) rfl rfl (g := (mkF m 55 #[.val (.ref a), .val (.ref d), .val (.ref f), .val (.long (0 : Int64)), .second, .val (.ref f), .val (.int (0 : Int32)), .val (.int (0 : Int32)), .unset] [(.long (0 : Int64)), (.ref a)])) rfl rfl (hb hby d6_55)
  refine Go.via (st63) ?_
  clear st63
  have N63 := Fr.snoc X63 N58 g_a
  have f64 : Fld Z h63 a "com/example/libcosearch/libcosearch/PostingList" "collectionFrequency" "J" (.long (0 : Int64)) := f61.same W63
  clear X58 e58
  show Go p e below (T63.setTop (mkF m 58 #[.val (.ref a), .val (.ref d), .val (.ref f), .val (.long (0 : Int64)), .second, .val (.ref f), .val (.int (0 : Int32)), .val (.int (0 : Int32)), .unset] [])) _
  have k65 : Keep h0 h63 [a] := ((((Keep.refl h0 [a]).wr W54 (Or.inl (List.mem_of_getElem? (i := 0) rfl))).wr W58 (Or.inl (List.mem_of_getElem? (i := 0) rfl))).wr W63 (Or.inl (List.mem_of_getElem? (i := 0) rfl)))
  have f66 : Exa Z h63 a "com/example/libcosearch/libcosearch/PostingList" := (f62.wr W63)
  have f67 : Fld Z h63 a "com/example/libcosearch/libcosearch/PostingList" "documents" "[I" (.ref d) := ((f55.other W58 (Or.inr (slot_ne (Or.inr (tw hw 42 rfl)) (Or.inr (tw hw 44 rfl)) (by decide) (t := (.array .int)) (t' := (.array .int)) (by decide) (by decide)))).other W63 (Or.inr (slot_ne (Or.inr (tw hw 42 rfl)) (Or.inr (tw hw 46 rfl)) (by decide) (t := (.array .int)) (t' := .long) (by decide) (by decide))))
  have f68 : Fld Z h63 a "com/example/libcosearch/libcosearch/PostingList" "frequencies" "[I" (.ref f) := (f59.other W63 (Or.inr (slot_ne (Or.inr (tw hw 44 rfl)) (Or.inr (tw hw 46 rfl)) (by decide) (t := (.array .int)) (t' := .long) (by decide) (by decide))))
  exact Go.fin X63 hlk (v := none) (fun _ => rfl) (fun fs hr => X63.returnOut hx Bd.returns (hb hby d6_58) hr) (by rw [e63]; exact ⟨rfl, N63, k65, f66, f67, f68, f64⟩) (by decide) (by decide)
theorem d6_34 : decode prog_23_method_1_code 34 = .ok (.aload 5, 2) := by decide +kernel
theorem d6_36 : decode prog_23_method_1_code 36 = .ok (.iload 7, 2) := by decide +kernel
theorem d6_38 : decode prog_23_method_1_code 38 = .ok (.iaload, 1) := by decide +kernel
theorem d6_39 : decode prog_23_method_1_code 39 = .ok (.istore 8, 2) := by decide +kernel
theorem d6_41 : decode prog_23_method_1_code 41 = .ok (.lload_n 3, 1) := by decide +kernel
theorem d6_42 : decode prog_23_method_1_code 42 = .ok (.iload 8, 2) := by decide +kernel
theorem d6_44 : decode prog_23_method_1_code 44 = .ok (.i2l, 1) := by decide +kernel
theorem d6_45 : decode prog_23_method_1_code 45 = .ok (.ladd, 1) := by decide +kernel
theorem d6_46 : decode prog_23_method_1_code 46 = .ok (.lstore_n 3, 1) := by decide +kernel
theorem d6_47 : decode prog_23_method_1_code 47 = .ok (.iinc 7 1, 3) := by decide +kernel
theorem d6_50 : decode prog_23_method_1_code 50 = .ok (.goto (-23), 3) := by decide +kernel
def Q_rmI1 (Z : State) (a : Addr) (d : Addr) (f : Addr) (f0 : Int32) (h0 : Heap) (n0 : Nat) (vQ : Option Value) (hQ : Heap) (LQ : List Loc) : Prop := vQ = none ∧ Fr n0 LQ ∧ Keep h0 hQ [a] ∧ Exa Z hQ a "com/example/libcosearch/libcosearch/PostingList" ∧ Fld Z hQ a "com/example/libcosearch/libcosearch/PostingList" "documents" "[I" (.ref d) ∧ Fld Z hQ a "com/example/libcosearch/libcosearch/PostingList" "frequencies" "[I" (.ref f) ∧ Fld Z hQ a "com/example/libcosearch/libcosearch/PostingList" "collectionFrequency" "J" (.long ((0 : Int64) + (f0.toInt64)))
set_option maxRecDepth 65536 in
set_option maxHeartbeats 40000000 in
theorem rmI1 (l : Launch) (Z : State) (a0 : Array Value) (hw : ∀ d ∈ tables_1, d.before a0 Z = true) (ws : List Jvm.Cond) (a : Addr) (d : Addr) (f : Addr) (f0 : Int32) (h0 : Heap) (n0 : Nat) (Z0 : n0 ≤ h0.size) (P0 : Exa Z h0 a "com/example/libcosearch/libcosearch/PostingList") (P1 : Fld Z h0 a "com/example/libcosearch/libcosearch/PostingList" "documents" "[I" .null) (P2 : Fld Z h0 a "com/example/libcosearch/libcosearch/PostingList" "frequencies" "[I" .null) (P3 : Fld Z h0 a "com/example/libcosearch/libcosearch/PostingList" "collectionFrequency" "J" (.long (0 : Int64))) (P4 : Ia Z h0 f .int [f0]) (g_a : n0 ≤ a) (haf : a ≠ f) :
    MetFree l (⟨"com/example/libcosearch/libcosearch/PostingList", "<init>", "([I[I)V"⟩ : MethodName) (head1 (Jvm.Cond.code (⟨"com/example/libcosearch/libcosearch/PostingList", "<init>", "([I[I)V"⟩ : MethodName) prog_23_method_1_code 9 none :: ws) ({ frames := 1, cells := 0, slots := 0, locals := 12 } : Room)) (fun aQ UQ => aQ = #[(.ref a), (.ref d), (.ref f)] ∧ Z.Warmed39 UQ.vm ∧ UQ.heap = h0) (fun _ _ _ _ _ => True) (fun _ UQ oQ UR => ∃ vQ LQ, oQ = .returned vQ ∧ Q_rmI1 Z a d f f0 h0 n0 vQ UR.heap LQ ∧ FrameEnd UQ oQ UR LQ ({ frames := 1, cells := 0, slots := 0, locals := 12 } : Room).cells ({ frames := 1, cells := 0, slots := 0, locals := 12 } : Room).slots) := by
  refine MetFree.of_bodySF (plainFor_of_name pn_6) hisR ?_
  intro p e s m args below meth c s₁ Bd hml0 hP hK
  obtain ⟨rfl, hZ, hh⟩ := hP
  have hx := Bd.exec
  have hby := Bd.bytes
  have hlk := Bd.notSynchronized
  have hml : c.maxLocals = 9 := hml0
  have hown : s.vm.findClass "com/example/libcosearch/libcosearch/PostingList" = some m.cls := findClass_of_methodNamed Bd.named
  have hnm := (name_of_methodNamed Bd.named Bd.method).1
  have X0 : Stand p l e ({ frames := 1, cells := 0, slots := 0, locals := 12 } : Room) s m #[(.ref a), (.ref d), (.ref f)] below meth c s₁ [] 0 0 := Stand.of_body Bd
  have e0 : s₁.heap = h0 := by rw [← hh, Bd.state]; rfl
  have N0 := Fr.nil n0
  show Go p e below _ (Done s (Q_rmI1 Z a d f f0 h0 n0) ({ frames := 1, cells := 0, slots := 0, locals := 12 } : Room).cells ({ frames := 1, cells := 0, slots := 0, locals := 12 } : Room).slots)
  refine Go.via (fun tQ kQ => castTop (ef_6 m a d f) kQ) ?_
  show Go p e below (s₁.setTop (mkF m 0 #[.val (.ref a), .val (.ref d), .val (.ref f), .unset, .unset, .unset, .unset, .unset, .unset] [])) _
  refine Go.via (fun _ => XS.aloadN X0.here hx rfl (hb hby d6_0) rfl rfl) ?_
  obtain ⟨T69, X69, e69, st69⟩ := initO X0 hx hZ hown (tw hw 40 rfl) (tw hw 8 rfl) (tw hw 9 rfl) e0 (g := (mkF m 1 #[.val (.ref a), .val (.ref d), .val (.ref f), .unset, .unset, .unset, .unset, .unset, .unset] [(.ref a)])) rfl (by rw [hml]; rfl) rfl (hb hby d6_1) (by decide) (W := 0) (by show 2 * 0 + _ ≤ _; exact Nat.le_of_eq rfl) (by decide)
  refine Go.via (st69) ?_
  clear st69
  clear X0 e0
  show Go p e below (T69.setTop (mkF m 4 #[.val (.ref a), .val (.ref d), .val (.ref f), .unset, .unset, .unset, .unset, .unset, .unset] [])) _
  refine Go.via (fun _ => XS.aloadN X69.here hx rfl (hb hby d6_4) rfl rfl) ?_
  refine Go.via (fun _ => XS.aloadN X69.here hx rfl (hb hby d6_5) rfl rfl) ?_
  obtain ⟨T70, h70, X70, e70, W70, st70⟩ := putF X69 hx hZ hown (host := "") (Or.inl (tw hw 41 rfl)) Via.refl e69 P1 P0 (Or.inr ⟨(tw hw 42 rfl), rfl, hnm⟩) (tw hw 21 rfl) (ty := (.array .int)) (by decide) rfl rfl (g := (mkF m 6 #[.val (.ref a), .val (.ref d), .val (.ref f), .unset, .unset, .unset, .unset, .unset, .unset] [(.ref d), (.ref a)])) rfl rfl (hb hby d6_6)
  refine Go.via (st70) ?_
  clear st70
  have N70 := Fr.snoc X70 N0 g_a
  have f71 : Fld Z h70 a "com/example/libcosearch/libcosearch/PostingList" "documents" "[I" (.ref d) := P1.same W70
  clear X69 e69
  show Go p e below (T70.setTop (mkF m 9 #[.val (.ref a), .val (.ref d), .val (.ref f), .unset, .unset, .unset, .unset, .unset, .unset] [])) _
  refine Go.via (fun _ => XS.aloadN X70.here hx rfl (hb hby d6_9) rfl rfl) ?_
  refine Go.via (fun _ => XS.aloadN X70.here hx rfl (hb hby d6_10) rfl rfl) ?_
  have f72 : Fld Z h70 a "com/example/libcosearch/libcosearch/PostingList" "frequencies" "[I" .null := (P2.other W70 (Or.inr (slot_ne (Or.inr (tw hw 44 rfl)) (Or.inr (tw hw 42 rfl)) (by decide) (t := (.array .int)) (t' := (.array .int)) (by decide) (by decide))))
  have f73 : Exa Z h70 a "com/example/libcosearch/libcosearch/PostingList" := (P0.wr W70)
  obtain ⟨T74, h74, X74, e74, W74, st74⟩ := putF X70 hx hZ hown (host := "") (Or.inl (tw hw 43 rfl)) Via.refl e70 f72 f73 (Or.inr ⟨(tw hw 44 rfl), rfl, hnm⟩) (tw hw 21 rfl) (ty := (.array .int)) (by decide) rfl rfl (g := (mkF m 11 #[.val (.ref a), .val (.ref d), .val (.ref f), .unset, .unset, .unset, .unset, .unset, .unset] [(.ref f), (.ref a)])) rfl rfl (hb hby d6_11)
  refine Go.via (st74) ?_
  clear st74
  have N74 := Fr.snoc X74 N70 g_a
  have f75 : Fld Z h74 a "com/example/libcosearch/libcosearch/PostingList" "frequencies" "[I" (.ref f) := f72.same W74
  clear X70 e70
  show Go p e below (T74.setTop (mkF m 14 #[.val (.ref a), .val (.ref d), .val (.ref f), .unset, .unset, .unset, .unset, .unset, .unset] [])) _
  refine Go.via (fun _ => XS.lconst X74.here hx rfl (hb hby d6_14)) ?_
  refine Go.via (fun _ => XS.lstoreN X74.here hx rfl (hb hby d6_15) rfl (l' := #[.val (.ref a), .val (.ref d), .val (.ref f), .val (.long (0 : Int64)), .second, .unset, .unset, .unset, .unset]) rfl) ?_
  show Go p e below (T74.setTop (mkF m 16 #[.val (.ref a), .val (.ref d), .val (.ref f), .val (.long (0 : Int64)), .second, .unset, .unset, .unset, .unset] [])) _
  refine Go.via (fun _ => XS.aloadN X74.here hx rfl (hb hby d6_16) rfl rfl) ?_
  refine Go.via (fun _ => XS.astore X74.here hx rfl (hb hby d6_17) rfl rfl (l' := #[.val (.ref a), .val (.ref d), .val (.ref f), .val (.long (0 : Int64)), .second, .val (.ref f), .unset, .unset, .unset]) rfl) ?_
  show Go p e below (T74.setTop (mkF m 19 #[.val (.ref a), .val (.ref d), .val (.ref f), .val (.long (0 : Int64)), .second, .val (.ref f), .unset, .unset, .unset] [])) _
  refine Go.via (fun _ => XS.aload X74.here hx rfl (hb hby d6_19) rfl rfl) ?_
  have f76 : Ia Z h74 f .int [f0] := ((P4.other W70 (Ne.symm haf)).other W74 (Ne.symm haf))
  refine Go.via (lenI X74 hx hZ e74 f76 (n := (1 : Int32)) rfl (g := (mkF m 21 #[.val (.ref a), .val (.ref d), .val (.ref f), .val (.long (0 : Int64)), .second, .val (.ref f), .unset, .unset, .unset] [(.ref f)])) rfl rfl (hb hby d6_21)) ?_
  show Go p e below (T74.setTop (mkF m 22 #[.val (.ref a), .val (.ref d), .val (.ref f), .val (.long (0 : Int64)), .second, .val (.ref f), .unset, .unset, .unset] [(.int (1 : Int32))])) _
  refine Go.via (fun _ => XS.istore X74.here hx rfl (hb hby d6_22) rfl (l' := #[.val (.ref a), .val (.ref d), .val (.ref f), .val (.long (0 : Int64)), .second, .val (.ref f), .val (.int (1 : Int32)), .unset, .unset]) rfl) ?_
  show Go p e below (T74.setTop (mkF m 24 #[.val (.ref a), .val (.ref d), .val (.ref f), .val (.long (0 : Int64)), .second, .val (.ref f), .val (.int (1 : Int32)), .unset, .unset] [])) _
  refine Go.via (fun _ => XS.iconst X74.here hx rfl (hb hby d6_24)) ?_
  refine Go.via (fun _ => XS.istore X74.here hx rfl (hb hby d6_25) rfl (l' := #[.val (.ref a), .val (.ref d), .val (.ref f), .val (.long (0 : Int64)), .second, .val (.ref f), .val (.int (1 : Int32)), .val (.int (0 : Int32)), .unset]) rfl) ?_
  show Go p e below (T74.setTop (mkF m 27 #[.val (.ref a), .val (.ref d), .val (.ref f), .val (.long (0 : Int64)), .second, .val (.ref f), .val (.int (1 : Int32)), .val (.int (0 : Int32)), .unset] [])) _
  refine Go.via (fun _ => XS.iload X74.here hx rfl (hb hby d6_27) rfl) ?_
  refine Go.via (fun _ => XS.iload X74.here hx rfl (hb hby d6_29) rfl) ?_
  refine Go.via (fun _ => XS.icmpNo X74.here hx rfl (hb hby d6_31) rfl (tlt ((by decide) : (0 : Int32) < (1 : Int32))).2.1) ?_
  show Go p e below (T74.setTop (mkF m 34 #[.val (.ref a), .val (.ref d), .val (.ref f), .val (.long (0 : Int64)), .second, .val (.ref f), .val (.int (1 : Int32)), .val (.int (0 : Int32)), .unset] [])) _
  refine Go.via (fun _ => XS.aload X74.here hx rfl (hb hby d6_34) rfl rfl) ?_
  refine Go.via (fun _ => XS.iload X74.here hx rfl (hb hby d6_36) rfl) ?_
  refine Go.via (ldI X74 hx hZ e74 f76 (v := f0) (by decide) rfl (g := (mkF m 38 #[.val (.ref a), .val (.ref d), .val (.ref f), .val (.long (0 : Int64)), .second, .val (.ref f), .val (.int (1 : Int32)), .val (.int (0 : Int32)), .unset] [(.int (0 : Int32)), (.ref f)])) rfl rfl (hb hby d6_38)) ?_
  show Go p e below (T74.setTop (mkF m 39 #[.val (.ref a), .val (.ref d), .val (.ref f), .val (.long (0 : Int64)), .second, .val (.ref f), .val (.int (1 : Int32)), .val (.int (0 : Int32)), .unset] [(.int f0)])) _
  refine Go.via (fun _ => XS.istore X74.here hx rfl (hb hby d6_39) rfl (l' := #[.val (.ref a), .val (.ref d), .val (.ref f), .val (.long (0 : Int64)), .second, .val (.ref f), .val (.int (1 : Int32)), .val (.int (0 : Int32)), .val (.int f0)]) rfl) ?_
  show Go p e below (T74.setTop (mkF m 41 #[.val (.ref a), .val (.ref d), .val (.ref f), .val (.long (0 : Int64)), .second, .val (.ref f), .val (.int (1 : Int32)), .val (.int (0 : Int32)), .val (.int f0)] [])) _
  refine Go.via (fun _ => XS.lloadN X74.here hx rfl (hb hby d6_41) rfl) ?_
  refine Go.via (fun _ => XS.iload X74.here hx rfl (hb hby d6_42) rfl) ?_
  refine Go.via (fun _ => XS.i2l X74.here hx rfl (hb hby d6_44) rfl) ?_
  show Go p e below (T74.setTop (mkF m 45 #[.val (.ref a), .val (.ref d), .val (.ref f), .val (.long (0 : Int64)), .second, .val (.ref f), .val (.int (1 : Int32)), .val (.int (0 : Int32)), .val (.int f0)] [(.long (f0.toInt64)), (.long (0 : Int64))])) _
  refine Go.via (fun _ => XS.ladd X74.here hx rfl (hb hby d6_45) rfl) ?_
  show Go p e below (T74.setTop (mkF m 46 #[.val (.ref a), .val (.ref d), .val (.ref f), .val (.long (0 : Int64)), .second, .val (.ref f), .val (.int (1 : Int32)), .val (.int (0 : Int32)), .val (.int f0)] [(.long ((0 : Int64) + (f0.toInt64)))])) _
  refine Go.via (fun _ => XS.lstoreN X74.here hx rfl (hb hby d6_46) rfl (l' := #[.val (.ref a), .val (.ref d), .val (.ref f), .val (.long ((0 : Int64) + (f0.toInt64))), .second, .val (.ref f), .val (.int (1 : Int32)), .val (.int (0 : Int32)), .val (.int f0)]) rfl) ?_
  show Go p e below (T74.setTop (mkF m 47 #[.val (.ref a), .val (.ref d), .val (.ref f), .val (.long ((0 : Int64) + (f0.toInt64))), .second, .val (.ref f), .val (.int (1 : Int32)), .val (.int (0 : Int32)), .val (.int f0)] [])) _
  refine Go.via (fun _ => XS.iinc X74.here hx rfl (hb hby d6_47) rfl (l' := #[.val (.ref a), .val (.ref d), .val (.ref f), .val (.long ((0 : Int64) + (f0.toInt64))), .second, .val (.ref f), .val (.int (1 : Int32)), .val (.int (1 : Int32)), .val (.int f0)]) rfl) ?_
  show Go p e below (T74.setTop (mkF m 50 #[.val (.ref a), .val (.ref d), .val (.ref f), .val (.long ((0 : Int64) + (f0.toInt64))), .second, .val (.ref f), .val (.int (1 : Int32)), .val (.int (1 : Int32)), .val (.int f0)] [])) _
  refine Go.via (fun _ => XS.goto X74.here hx rfl (pc0 := 50) (pc' := 27) rfl (hb hby d6_50) (by decide) (by decide)) ?_
  refine Go.via (fun _ => XS.iload X74.here hx rfl (hb hby d6_27) rfl) ?_
  refine Go.via (fun _ => XS.iload X74.here hx rfl (hb hby d6_29) rfl) ?_
  refine Go.via (fun _ => XS.icmpYes X74.here hx rfl (pc0 := 31) (pc' := 53) rfl (hb hby d6_31) rfl (flt ((by decide) : ¬ ((1 : Int32) < (1 : Int32)))).2.1 (by decide) (by decide)) ?_
  show Go p e below (T74.setTop (mkF m 53 #[.val (.ref a), .val (.ref d), .val (.ref f), .val (.long ((0 : Int64) + (f0.toInt64))), .second, .val (.ref f), .val (.int (1 : Int32)), .val (.int (1 : Int32)), .val (.int f0)] [])) _
  refine Go.via (fun _ => XS.aloadN X74.here hx rfl (hb hby d6_53) rfl rfl) ?_
  refine Go.via (fun _ => XS.lloadN X74.here hx rfl (hb hby d6_54) rfl) ?_
  have f77 : Fld Z h74 a "com/example/libcosearch/libcosearch/PostingList" "collectionFrequency" "J" (.long (0 : Int64)) := ((P3.other W70 (Or.inr (slot_ne (Or.inr (tw hw 46 rfl)) (Or.inr (tw hw 42 rfl)) (by decide) (t := .long) (t' := (.array .int)) (by decide) (by decide)))).other W74 (Or.inr (slot_ne (Or.inr (tw hw 46 rfl)) (Or.inr (tw hw 44 rfl)) (by decide) (t := .long) (t' := (.array .int)) (by decide) (by decide))))
  have f78 : Exa Z h74 a "com/example/libcosearch/libcosearch/PostingList" := (f73.wr W74)
  obtain ⟨T79, h79, X79, e79, W79, st79⟩ := putF X74 hx hZ hown (host := "") (Or.inl (tw hw 45 rfl)) Via.refl e74 f77 f78 (Or.inr ⟨(tw hw 46 rfl), rfl, hnm⟩) (tw hw 21 rfl) (ty := .long) (by decide) rfl rfl (g := (mkF m 55 #[.val (.ref a), .val (.ref d), .val (.ref f), .val (.long ((0 : Int64) + (f0.toInt64))), .second, .val (.ref f), .val (.int (1 : Int32)), .val (.int (1 : Int32)), .val (.int f0)] [(.long ((0 : Int64) + (f0.toInt64))), (.ref a)])) rfl rfl (hb hby d6_55)
  refine Go.via (st79) ?_
  clear st79
  have N79 := Fr.snoc X79 N74 g_a
  have f80 : Fld Z h79 a "com/example/libcosearch/libcosearch/PostingList" "collectionFrequency" "J" (.long ((0 : Int64) + (f0.toInt64))) := f77.same W79
  clear X74 e74
  show Go p e below (T79.setTop (mkF m 58 #[.val (.ref a), .val (.ref d), .val (.ref f), .val (.long ((0 : Int64) + (f0.toInt64))), .second, .val (.ref f), .val (.int (1 : Int32)), .val (.int (1 : Int32)), .val (.int f0)] [])) _
  have k81 : Keep h0 h79 [a] := ((((Keep.refl h0 [a]).wr W70 (Or.inl (List.mem_of_getElem? (i := 0) rfl))).wr W74 (Or.inl (List.mem_of_getElem? (i := 0) rfl))).wr W79 (Or.inl (List.mem_of_getElem? (i := 0) rfl)))
  have f82 : Exa Z h79 a "com/example/libcosearch/libcosearch/PostingList" := (f78.wr W79)
  have f83 : Fld Z h79 a "com/example/libcosearch/libcosearch/PostingList" "documents" "[I" (.ref d) := ((f71.other W74 (Or.inr (slot_ne (Or.inr (tw hw 42 rfl)) (Or.inr (tw hw 44 rfl)) (by decide) (t := (.array .int)) (t' := (.array .int)) (by decide) (by decide)))).other W79 (Or.inr (slot_ne (Or.inr (tw hw 42 rfl)) (Or.inr (tw hw 46 rfl)) (by decide) (t := (.array .int)) (t' := .long) (by decide) (by decide))))
  have f84 : Fld Z h79 a "com/example/libcosearch/libcosearch/PostingList" "frequencies" "[I" (.ref f) := (f75.other W79 (Or.inr (slot_ne (Or.inr (tw hw 44 rfl)) (Or.inr (tw hw 46 rfl)) (by decide) (t := (.array .int)) (t' := .long) (by decide) (by decide))))
  exact Go.fin X79 hlk (v := none) (fun _ => rfl) (fun fs hr => X79.returnOut hx Bd.returns (hb hby d6_58) hr) (by rw [e79]; exact ⟨rfl, N79, k81, f82, f83, f84, f80⟩) (by decide) (by decide)
def Q_rmI2 (Z : State) (a : Addr) (d : Addr) (f : Addr) (f0 : Int32) (f1 : Int32) (h0 : Heap) (n0 : Nat) (vQ : Option Value) (hQ : Heap) (LQ : List Loc) : Prop := vQ = none ∧ Fr n0 LQ ∧ Keep h0 hQ [a] ∧ Exa Z hQ a "com/example/libcosearch/libcosearch/PostingList" ∧ Fld Z hQ a "com/example/libcosearch/libcosearch/PostingList" "documents" "[I" (.ref d) ∧ Fld Z hQ a "com/example/libcosearch/libcosearch/PostingList" "frequencies" "[I" (.ref f) ∧ Fld Z hQ a "com/example/libcosearch/libcosearch/PostingList" "collectionFrequency" "J" (.long (((0 : Int64) + (f0.toInt64)) + (f1.toInt64)))
set_option maxRecDepth 65536 in
set_option maxHeartbeats 40000000 in
theorem rmI2 (l : Launch) (Z : State) (a0 : Array Value) (hw : ∀ d ∈ tables_1, d.before a0 Z = true) (ws : List Jvm.Cond) (a : Addr) (d : Addr) (f : Addr) (f0 : Int32) (f1 : Int32) (h0 : Heap) (n0 : Nat) (Z0 : n0 ≤ h0.size) (P0 : Exa Z h0 a "com/example/libcosearch/libcosearch/PostingList") (P1 : Fld Z h0 a "com/example/libcosearch/libcosearch/PostingList" "documents" "[I" .null) (P2 : Fld Z h0 a "com/example/libcosearch/libcosearch/PostingList" "frequencies" "[I" .null) (P3 : Fld Z h0 a "com/example/libcosearch/libcosearch/PostingList" "collectionFrequency" "J" (.long (0 : Int64))) (P4 : Ia Z h0 f .int [f0, f1]) (g_a : n0 ≤ a) (haf : a ≠ f) :
    MetFree l (⟨"com/example/libcosearch/libcosearch/PostingList", "<init>", "([I[I)V"⟩ : MethodName) (head1 (Jvm.Cond.code (⟨"com/example/libcosearch/libcosearch/PostingList", "<init>", "([I[I)V"⟩ : MethodName) prog_23_method_1_code 9 none :: ws) ({ frames := 1, cells := 0, slots := 0, locals := 12 } : Room)) (fun aQ UQ => aQ = #[(.ref a), (.ref d), (.ref f)] ∧ Z.Warmed39 UQ.vm ∧ UQ.heap = h0) (fun _ _ _ _ _ => True) (fun _ UQ oQ UR => ∃ vQ LQ, oQ = .returned vQ ∧ Q_rmI2 Z a d f f0 f1 h0 n0 vQ UR.heap LQ ∧ FrameEnd UQ oQ UR LQ ({ frames := 1, cells := 0, slots := 0, locals := 12 } : Room).cells ({ frames := 1, cells := 0, slots := 0, locals := 12 } : Room).slots) := by
  refine MetFree.of_bodySF (plainFor_of_name pn_6) hisR ?_
  intro p e s m args below meth c s₁ Bd hml0 hP hK
  obtain ⟨rfl, hZ, hh⟩ := hP
  have hx := Bd.exec
  have hby := Bd.bytes
  have hlk := Bd.notSynchronized
  have hml : c.maxLocals = 9 := hml0
  have hown : s.vm.findClass "com/example/libcosearch/libcosearch/PostingList" = some m.cls := findClass_of_methodNamed Bd.named
  have hnm := (name_of_methodNamed Bd.named Bd.method).1
  have X0 : Stand p l e ({ frames := 1, cells := 0, slots := 0, locals := 12 } : Room) s m #[(.ref a), (.ref d), (.ref f)] below meth c s₁ [] 0 0 := Stand.of_body Bd
  have e0 : s₁.heap = h0 := by rw [← hh, Bd.state]; rfl
  have N0 := Fr.nil n0
  show Go p e below _ (Done s (Q_rmI2 Z a d f f0 f1 h0 n0) ({ frames := 1, cells := 0, slots := 0, locals := 12 } : Room).cells ({ frames := 1, cells := 0, slots := 0, locals := 12 } : Room).slots)
  refine Go.via (fun tQ kQ => castTop (ef_6 m a d f) kQ) ?_
  show Go p e below (s₁.setTop (mkF m 0 #[.val (.ref a), .val (.ref d), .val (.ref f), .unset, .unset, .unset, .unset, .unset, .unset] [])) _
  refine Go.via (fun _ => XS.aloadN X0.here hx rfl (hb hby d6_0) rfl rfl) ?_
  obtain ⟨T85, X85, e85, st85⟩ := initO X0 hx hZ hown (tw hw 40 rfl) (tw hw 8 rfl) (tw hw 9 rfl) e0 (g := (mkF m 1 #[.val (.ref a), .val (.ref d), .val (.ref f), .unset, .unset, .unset, .unset, .unset, .unset] [(.ref a)])) rfl (by rw [hml]; rfl) rfl (hb hby d6_1) (by decide) (W := 0) (by show 2 * 0 + _ ≤ _; exact Nat.le_of_eq rfl) (by decide)
  refine Go.via (st85) ?_
  clear st85
  clear X0 e0
  show Go p e below (T85.setTop (mkF m 4 #[.val (.ref a), .val (.ref d), .val (.ref f), .unset, .unset, .unset, .unset, .unset, .unset] [])) _
  refine Go.via (fun _ => XS.aloadN X85.here hx rfl (hb hby d6_4) rfl rfl) ?_
  refine Go.via (fun _ => XS.aloadN X85.here hx rfl (hb hby d6_5) rfl rfl) ?_
  obtain ⟨T86, h86, X86, e86, W86, st86⟩ := putF X85 hx hZ hown (host := "") (Or.inl (tw hw 41 rfl)) Via.refl e85 P1 P0 (Or.inr ⟨(tw hw 42 rfl), rfl, hnm⟩) (tw hw 21 rfl) (ty := (.array .int)) (by decide) rfl rfl (g := (mkF m 6 #[.val (.ref a), .val (.ref d), .val (.ref f), .unset, .unset, .unset, .unset, .unset, .unset] [(.ref d), (.ref a)])) rfl rfl (hb hby d6_6)
  refine Go.via (st86) ?_
  clear st86
  have N86 := Fr.snoc X86 N0 g_a
  have f87 : Fld Z h86 a "com/example/libcosearch/libcosearch/PostingList" "documents" "[I" (.ref d) := P1.same W86
  clear X85 e85
  show Go p e below (T86.setTop (mkF m 9 #[.val (.ref a), .val (.ref d), .val (.ref f), .unset, .unset, .unset, .unset, .unset, .unset] [])) _
  refine Go.via (fun _ => XS.aloadN X86.here hx rfl (hb hby d6_9) rfl rfl) ?_
  refine Go.via (fun _ => XS.aloadN X86.here hx rfl (hb hby d6_10) rfl rfl) ?_
  have f88 : Fld Z h86 a "com/example/libcosearch/libcosearch/PostingList" "frequencies" "[I" .null := (P2.other W86 (Or.inr (slot_ne (Or.inr (tw hw 44 rfl)) (Or.inr (tw hw 42 rfl)) (by decide) (t := (.array .int)) (t' := (.array .int)) (by decide) (by decide))))
  have f89 : Exa Z h86 a "com/example/libcosearch/libcosearch/PostingList" := (P0.wr W86)
  obtain ⟨T90, h90, X90, e90, W90, st90⟩ := putF X86 hx hZ hown (host := "") (Or.inl (tw hw 43 rfl)) Via.refl e86 f88 f89 (Or.inr ⟨(tw hw 44 rfl), rfl, hnm⟩) (tw hw 21 rfl) (ty := (.array .int)) (by decide) rfl rfl (g := (mkF m 11 #[.val (.ref a), .val (.ref d), .val (.ref f), .unset, .unset, .unset, .unset, .unset, .unset] [(.ref f), (.ref a)])) rfl rfl (hb hby d6_11)
  refine Go.via (st90) ?_
  clear st90
  have N90 := Fr.snoc X90 N86 g_a
  have f91 : Fld Z h90 a "com/example/libcosearch/libcosearch/PostingList" "frequencies" "[I" (.ref f) := f88.same W90
  clear X86 e86
  show Go p e below (T90.setTop (mkF m 14 #[.val (.ref a), .val (.ref d), .val (.ref f), .unset, .unset, .unset, .unset, .unset, .unset] [])) _
  refine Go.via (fun _ => XS.lconst X90.here hx rfl (hb hby d6_14)) ?_
  refine Go.via (fun _ => XS.lstoreN X90.here hx rfl (hb hby d6_15) rfl (l' := #[.val (.ref a), .val (.ref d), .val (.ref f), .val (.long (0 : Int64)), .second, .unset, .unset, .unset, .unset]) rfl) ?_
  show Go p e below (T90.setTop (mkF m 16 #[.val (.ref a), .val (.ref d), .val (.ref f), .val (.long (0 : Int64)), .second, .unset, .unset, .unset, .unset] [])) _
  refine Go.via (fun _ => XS.aloadN X90.here hx rfl (hb hby d6_16) rfl rfl) ?_
  refine Go.via (fun _ => XS.astore X90.here hx rfl (hb hby d6_17) rfl rfl (l' := #[.val (.ref a), .val (.ref d), .val (.ref f), .val (.long (0 : Int64)), .second, .val (.ref f), .unset, .unset, .unset]) rfl) ?_
  show Go p e below (T90.setTop (mkF m 19 #[.val (.ref a), .val (.ref d), .val (.ref f), .val (.long (0 : Int64)), .second, .val (.ref f), .unset, .unset, .unset] [])) _
  refine Go.via (fun _ => XS.aload X90.here hx rfl (hb hby d6_19) rfl rfl) ?_
  have f92 : Ia Z h90 f .int [f0, f1] := ((P4.other W86 (Ne.symm haf)).other W90 (Ne.symm haf))
  refine Go.via (lenI X90 hx hZ e90 f92 (n := (2 : Int32)) rfl (g := (mkF m 21 #[.val (.ref a), .val (.ref d), .val (.ref f), .val (.long (0 : Int64)), .second, .val (.ref f), .unset, .unset, .unset] [(.ref f)])) rfl rfl (hb hby d6_21)) ?_
  show Go p e below (T90.setTop (mkF m 22 #[.val (.ref a), .val (.ref d), .val (.ref f), .val (.long (0 : Int64)), .second, .val (.ref f), .unset, .unset, .unset] [(.int (2 : Int32))])) _
  refine Go.via (fun _ => XS.istore X90.here hx rfl (hb hby d6_22) rfl (l' := #[.val (.ref a), .val (.ref d), .val (.ref f), .val (.long (0 : Int64)), .second, .val (.ref f), .val (.int (2 : Int32)), .unset, .unset]) rfl) ?_
  show Go p e below (T90.setTop (mkF m 24 #[.val (.ref a), .val (.ref d), .val (.ref f), .val (.long (0 : Int64)), .second, .val (.ref f), .val (.int (2 : Int32)), .unset, .unset] [])) _
  refine Go.via (fun _ => XS.iconst X90.here hx rfl (hb hby d6_24)) ?_
  refine Go.via (fun _ => XS.istore X90.here hx rfl (hb hby d6_25) rfl (l' := #[.val (.ref a), .val (.ref d), .val (.ref f), .val (.long (0 : Int64)), .second, .val (.ref f), .val (.int (2 : Int32)), .val (.int (0 : Int32)), .unset]) rfl) ?_
  show Go p e below (T90.setTop (mkF m 27 #[.val (.ref a), .val (.ref d), .val (.ref f), .val (.long (0 : Int64)), .second, .val (.ref f), .val (.int (2 : Int32)), .val (.int (0 : Int32)), .unset] [])) _
  refine Go.via (fun _ => XS.iload X90.here hx rfl (hb hby d6_27) rfl) ?_
  refine Go.via (fun _ => XS.iload X90.here hx rfl (hb hby d6_29) rfl) ?_
  refine Go.via (fun _ => XS.icmpNo X90.here hx rfl (hb hby d6_31) rfl (tlt ((by decide) : (0 : Int32) < (2 : Int32))).2.1) ?_
  show Go p e below (T90.setTop (mkF m 34 #[.val (.ref a), .val (.ref d), .val (.ref f), .val (.long (0 : Int64)), .second, .val (.ref f), .val (.int (2 : Int32)), .val (.int (0 : Int32)), .unset] [])) _
  refine Go.via (fun _ => XS.aload X90.here hx rfl (hb hby d6_34) rfl rfl) ?_
  refine Go.via (fun _ => XS.iload X90.here hx rfl (hb hby d6_36) rfl) ?_
  refine Go.via (ldI X90 hx hZ e90 f92 (v := f0) (by decide) rfl (g := (mkF m 38 #[.val (.ref a), .val (.ref d), .val (.ref f), .val (.long (0 : Int64)), .second, .val (.ref f), .val (.int (2 : Int32)), .val (.int (0 : Int32)), .unset] [(.int (0 : Int32)), (.ref f)])) rfl rfl (hb hby d6_38)) ?_
  show Go p e below (T90.setTop (mkF m 39 #[.val (.ref a), .val (.ref d), .val (.ref f), .val (.long (0 : Int64)), .second, .val (.ref f), .val (.int (2 : Int32)), .val (.int (0 : Int32)), .unset] [(.int f0)])) _
  refine Go.via (fun _ => XS.istore X90.here hx rfl (hb hby d6_39) rfl (l' := #[.val (.ref a), .val (.ref d), .val (.ref f), .val (.long (0 : Int64)), .second, .val (.ref f), .val (.int (2 : Int32)), .val (.int (0 : Int32)), .val (.int f0)]) rfl) ?_
  show Go p e below (T90.setTop (mkF m 41 #[.val (.ref a), .val (.ref d), .val (.ref f), .val (.long (0 : Int64)), .second, .val (.ref f), .val (.int (2 : Int32)), .val (.int (0 : Int32)), .val (.int f0)] [])) _
  refine Go.via (fun _ => XS.lloadN X90.here hx rfl (hb hby d6_41) rfl) ?_
  refine Go.via (fun _ => XS.iload X90.here hx rfl (hb hby d6_42) rfl) ?_
  refine Go.via (fun _ => XS.i2l X90.here hx rfl (hb hby d6_44) rfl) ?_
  show Go p e below (T90.setTop (mkF m 45 #[.val (.ref a), .val (.ref d), .val (.ref f), .val (.long (0 : Int64)), .second, .val (.ref f), .val (.int (2 : Int32)), .val (.int (0 : Int32)), .val (.int f0)] [(.long (f0.toInt64)), (.long (0 : Int64))])) _
  refine Go.via (fun _ => XS.ladd X90.here hx rfl (hb hby d6_45) rfl) ?_
  show Go p e below (T90.setTop (mkF m 46 #[.val (.ref a), .val (.ref d), .val (.ref f), .val (.long (0 : Int64)), .second, .val (.ref f), .val (.int (2 : Int32)), .val (.int (0 : Int32)), .val (.int f0)] [(.long ((0 : Int64) + (f0.toInt64)))])) _
  refine Go.via (fun _ => XS.lstoreN X90.here hx rfl (hb hby d6_46) rfl (l' := #[.val (.ref a), .val (.ref d), .val (.ref f), .val (.long ((0 : Int64) + (f0.toInt64))), .second, .val (.ref f), .val (.int (2 : Int32)), .val (.int (0 : Int32)), .val (.int f0)]) rfl) ?_
  show Go p e below (T90.setTop (mkF m 47 #[.val (.ref a), .val (.ref d), .val (.ref f), .val (.long ((0 : Int64) + (f0.toInt64))), .second, .val (.ref f), .val (.int (2 : Int32)), .val (.int (0 : Int32)), .val (.int f0)] [])) _
  refine Go.via (fun _ => XS.iinc X90.here hx rfl (hb hby d6_47) rfl (l' := #[.val (.ref a), .val (.ref d), .val (.ref f), .val (.long ((0 : Int64) + (f0.toInt64))), .second, .val (.ref f), .val (.int (2 : Int32)), .val (.int (1 : Int32)), .val (.int f0)]) rfl) ?_
  show Go p e below (T90.setTop (mkF m 50 #[.val (.ref a), .val (.ref d), .val (.ref f), .val (.long ((0 : Int64) + (f0.toInt64))), .second, .val (.ref f), .val (.int (2 : Int32)), .val (.int (1 : Int32)), .val (.int f0)] [])) _
  refine Go.via (fun _ => XS.goto X90.here hx rfl (pc0 := 50) (pc' := 27) rfl (hb hby d6_50) (by decide) (by decide)) ?_
  refine Go.via (fun _ => XS.iload X90.here hx rfl (hb hby d6_27) rfl) ?_
  refine Go.via (fun _ => XS.iload X90.here hx rfl (hb hby d6_29) rfl) ?_
  refine Go.via (fun _ => XS.icmpNo X90.here hx rfl (hb hby d6_31) rfl (tlt ((by decide) : (1 : Int32) < (2 : Int32))).2.1) ?_
  show Go p e below (T90.setTop (mkF m 34 #[.val (.ref a), .val (.ref d), .val (.ref f), .val (.long ((0 : Int64) + (f0.toInt64))), .second, .val (.ref f), .val (.int (2 : Int32)), .val (.int (1 : Int32)), .val (.int f0)] [])) _
  refine Go.via (fun _ => XS.aload X90.here hx rfl (hb hby d6_34) rfl rfl) ?_
  refine Go.via (fun _ => XS.iload X90.here hx rfl (hb hby d6_36) rfl) ?_
  refine Go.via (ldI X90 hx hZ e90 f92 (v := f1) (by decide) rfl (g := (mkF m 38 #[.val (.ref a), .val (.ref d), .val (.ref f), .val (.long ((0 : Int64) + (f0.toInt64))), .second, .val (.ref f), .val (.int (2 : Int32)), .val (.int (1 : Int32)), .val (.int f0)] [(.int (1 : Int32)), (.ref f)])) rfl rfl (hb hby d6_38)) ?_
  show Go p e below (T90.setTop (mkF m 39 #[.val (.ref a), .val (.ref d), .val (.ref f), .val (.long ((0 : Int64) + (f0.toInt64))), .second, .val (.ref f), .val (.int (2 : Int32)), .val (.int (1 : Int32)), .val (.int f0)] [(.int f1)])) _
  refine Go.via (fun _ => XS.istore X90.here hx rfl (hb hby d6_39) rfl (l' := #[.val (.ref a), .val (.ref d), .val (.ref f), .val (.long ((0 : Int64) + (f0.toInt64))), .second, .val (.ref f), .val (.int (2 : Int32)), .val (.int (1 : Int32)), .val (.int f1)]) rfl) ?_
  show Go p e below (T90.setTop (mkF m 41 #[.val (.ref a), .val (.ref d), .val (.ref f), .val (.long ((0 : Int64) + (f0.toInt64))), .second, .val (.ref f), .val (.int (2 : Int32)), .val (.int (1 : Int32)), .val (.int f1)] [])) _
  refine Go.via (fun _ => XS.lloadN X90.here hx rfl (hb hby d6_41) rfl) ?_
  refine Go.via (fun _ => XS.iload X90.here hx rfl (hb hby d6_42) rfl) ?_
  refine Go.via (fun _ => XS.i2l X90.here hx rfl (hb hby d6_44) rfl) ?_
  show Go p e below (T90.setTop (mkF m 45 #[.val (.ref a), .val (.ref d), .val (.ref f), .val (.long ((0 : Int64) + (f0.toInt64))), .second, .val (.ref f), .val (.int (2 : Int32)), .val (.int (1 : Int32)), .val (.int f1)] [(.long (f1.toInt64)), (.long ((0 : Int64) + (f0.toInt64)))])) _
  refine Go.via (fun _ => XS.ladd X90.here hx rfl (hb hby d6_45) rfl) ?_
  show Go p e below (T90.setTop (mkF m 46 #[.val (.ref a), .val (.ref d), .val (.ref f), .val (.long ((0 : Int64) + (f0.toInt64))), .second, .val (.ref f), .val (.int (2 : Int32)), .val (.int (1 : Int32)), .val (.int f1)] [(.long (((0 : Int64) + (f0.toInt64)) + (f1.toInt64)))])) _
  refine Go.via (fun _ => XS.lstoreN X90.here hx rfl (hb hby d6_46) rfl (l' := #[.val (.ref a), .val (.ref d), .val (.ref f), .val (.long (((0 : Int64) + (f0.toInt64)) + (f1.toInt64))), .second, .val (.ref f), .val (.int (2 : Int32)), .val (.int (1 : Int32)), .val (.int f1)]) rfl) ?_
  show Go p e below (T90.setTop (mkF m 47 #[.val (.ref a), .val (.ref d), .val (.ref f), .val (.long (((0 : Int64) + (f0.toInt64)) + (f1.toInt64))), .second, .val (.ref f), .val (.int (2 : Int32)), .val (.int (1 : Int32)), .val (.int f1)] [])) _
  refine Go.via (fun _ => XS.iinc X90.here hx rfl (hb hby d6_47) rfl (l' := #[.val (.ref a), .val (.ref d), .val (.ref f), .val (.long (((0 : Int64) + (f0.toInt64)) + (f1.toInt64))), .second, .val (.ref f), .val (.int (2 : Int32)), .val (.int (2 : Int32)), .val (.int f1)]) rfl) ?_
  show Go p e below (T90.setTop (mkF m 50 #[.val (.ref a), .val (.ref d), .val (.ref f), .val (.long (((0 : Int64) + (f0.toInt64)) + (f1.toInt64))), .second, .val (.ref f), .val (.int (2 : Int32)), .val (.int (2 : Int32)), .val (.int f1)] [])) _
  refine Go.via (fun _ => XS.goto X90.here hx rfl (pc0 := 50) (pc' := 27) rfl (hb hby d6_50) (by decide) (by decide)) ?_
  refine Go.via (fun _ => XS.iload X90.here hx rfl (hb hby d6_27) rfl) ?_
  refine Go.via (fun _ => XS.iload X90.here hx rfl (hb hby d6_29) rfl) ?_
  refine Go.via (fun _ => XS.icmpYes X90.here hx rfl (pc0 := 31) (pc' := 53) rfl (hb hby d6_31) rfl (flt ((by decide) : ¬ ((2 : Int32) < (2 : Int32)))).2.1 (by decide) (by decide)) ?_
  show Go p e below (T90.setTop (mkF m 53 #[.val (.ref a), .val (.ref d), .val (.ref f), .val (.long (((0 : Int64) + (f0.toInt64)) + (f1.toInt64))), .second, .val (.ref f), .val (.int (2 : Int32)), .val (.int (2 : Int32)), .val (.int f1)] [])) _
  refine Go.via (fun _ => XS.aloadN X90.here hx rfl (hb hby d6_53) rfl rfl) ?_
  refine Go.via (fun _ => XS.lloadN X90.here hx rfl (hb hby d6_54) rfl) ?_
  have f93 : Fld Z h90 a "com/example/libcosearch/libcosearch/PostingList" "collectionFrequency" "J" (.long (0 : Int64)) := ((P3.other W86 (Or.inr (slot_ne (Or.inr (tw hw 46 rfl)) (Or.inr (tw hw 42 rfl)) (by decide) (t := .long) (t' := (.array .int)) (by decide) (by decide)))).other W90 (Or.inr (slot_ne (Or.inr (tw hw 46 rfl)) (Or.inr (tw hw 44 rfl)) (by decide) (t := .long) (t' := (.array .int)) (by decide) (by decide))))
  have f94 : Exa Z h90 a "com/example/libcosearch/libcosearch/PostingList" := (f89.wr W90)
  obtain ⟨T95, h95, X95, e95, W95, st95⟩ := putF X90 hx hZ hown (host := "") (Or.inl (tw hw 45 rfl)) Via.refl e90 f93 f94 (Or.inr ⟨(tw hw 46 rfl), rfl, hnm⟩) (tw hw 21 rfl) (ty := .long) (by decide) rfl rfl (g := (mkF m 55 #[.val (.ref a), .val (.ref d), .val (.ref f), .val (.long (((0 : Int64) + (f0.toInt64)) + (f1.toInt64))), .second, .val (.ref f), .val (.int (2 : Int32)), .val (.int (2 : Int32)), .val (.int f1)] [(.long (((0 : Int64) + (f0.toInt64)) + (f1.toInt64))), (.ref a)])) rfl rfl (hb hby d6_55)
  refine Go.via (st95) ?_
  clear st95
  have N95 := Fr.snoc X95 N90 g_a
  have f96 : Fld Z h95 a "com/example/libcosearch/libcosearch/PostingList" "collectionFrequency" "J" (.long (((0 : Int64) + (f0.toInt64)) + (f1.toInt64))) := f93.same W95
  clear X90 e90
  show Go p e below (T95.setTop (mkF m 58 #[.val (.ref a), .val (.ref d), .val (.ref f), .val (.long (((0 : Int64) + (f0.toInt64)) + (f1.toInt64))), .second, .val (.ref f), .val (.int (2 : Int32)), .val (.int (2 : Int32)), .val (.int f1)] [])) _
  have k97 : Keep h0 h95 [a] := ((((Keep.refl h0 [a]).wr W86 (Or.inl (List.mem_of_getElem? (i := 0) rfl))).wr W90 (Or.inl (List.mem_of_getElem? (i := 0) rfl))).wr W95 (Or.inl (List.mem_of_getElem? (i := 0) rfl)))
  have f98 : Exa Z h95 a "com/example/libcosearch/libcosearch/PostingList" := (f94.wr W95)
  have f99 : Fld Z h95 a "com/example/libcosearch/libcosearch/PostingList" "documents" "[I" (.ref d) := ((f87.other W90 (Or.inr (slot_ne (Or.inr (tw hw 42 rfl)) (Or.inr (tw hw 44 rfl)) (by decide) (t := (.array .int)) (t' := (.array .int)) (by decide) (by decide)))).other W95 (Or.inr (slot_ne (Or.inr (tw hw 42 rfl)) (Or.inr (tw hw 46 rfl)) (by decide) (t := (.array .int)) (t' := .long) (by decide) (by decide))))
  have f100 : Fld Z h95 a "com/example/libcosearch/libcosearch/PostingList" "frequencies" "[I" (.ref f) := (f91.other W95 (Or.inr (slot_ne (Or.inr (tw hw 44 rfl)) (Or.inr (tw hw 46 rfl)) (by decide) (t := (.array .int)) (t' := .long) (by decide) (by decide))))
  exact Go.fin X95 hlk (v := none) (fun _ => rfl) (fun fs hr => X95.returnOut hx Bd.returns (hb hby d6_58) hr) (by rw [e95]; exact ⟨rfl, N95, k97, f98, f99, f100, f96⟩) (by decide) (by decide)
def Q_rmI3 (Z : State) (a : Addr) (d : Addr) (f : Addr) (f0 : Int32) (f1 : Int32) (f2 : Int32) (h0 : Heap) (n0 : Nat) (vQ : Option Value) (hQ : Heap) (LQ : List Loc) : Prop := vQ = none ∧ Fr n0 LQ ∧ Keep h0 hQ [a] ∧ Exa Z hQ a "com/example/libcosearch/libcosearch/PostingList" ∧ Fld Z hQ a "com/example/libcosearch/libcosearch/PostingList" "documents" "[I" (.ref d) ∧ Fld Z hQ a "com/example/libcosearch/libcosearch/PostingList" "frequencies" "[I" (.ref f) ∧ Fld Z hQ a "com/example/libcosearch/libcosearch/PostingList" "collectionFrequency" "J" (.long ((((0 : Int64) + (f0.toInt64)) + (f1.toInt64)) + (f2.toInt64)))
set_option maxRecDepth 65536 in
set_option maxHeartbeats 40000000 in
theorem rmI3 (l : Launch) (Z : State) (a0 : Array Value) (hw : ∀ d ∈ tables_1, d.before a0 Z = true) (ws : List Jvm.Cond) (a : Addr) (d : Addr) (f : Addr) (f0 : Int32) (f1 : Int32) (f2 : Int32) (h0 : Heap) (n0 : Nat) (Z0 : n0 ≤ h0.size) (P0 : Exa Z h0 a "com/example/libcosearch/libcosearch/PostingList") (P1 : Fld Z h0 a "com/example/libcosearch/libcosearch/PostingList" "documents" "[I" .null) (P2 : Fld Z h0 a "com/example/libcosearch/libcosearch/PostingList" "frequencies" "[I" .null) (P3 : Fld Z h0 a "com/example/libcosearch/libcosearch/PostingList" "collectionFrequency" "J" (.long (0 : Int64))) (P4 : Ia Z h0 f .int [f0, f1, f2]) (g_a : n0 ≤ a) (haf : a ≠ f) :
    MetFree l (⟨"com/example/libcosearch/libcosearch/PostingList", "<init>", "([I[I)V"⟩ : MethodName) (head1 (Jvm.Cond.code (⟨"com/example/libcosearch/libcosearch/PostingList", "<init>", "([I[I)V"⟩ : MethodName) prog_23_method_1_code 9 none :: ws) ({ frames := 1, cells := 0, slots := 0, locals := 12 } : Room)) (fun aQ UQ => aQ = #[(.ref a), (.ref d), (.ref f)] ∧ Z.Warmed39 UQ.vm ∧ UQ.heap = h0) (fun _ _ _ _ _ => True) (fun _ UQ oQ UR => ∃ vQ LQ, oQ = .returned vQ ∧ Q_rmI3 Z a d f f0 f1 f2 h0 n0 vQ UR.heap LQ ∧ FrameEnd UQ oQ UR LQ ({ frames := 1, cells := 0, slots := 0, locals := 12 } : Room).cells ({ frames := 1, cells := 0, slots := 0, locals := 12 } : Room).slots) := by
  refine MetFree.of_bodySF (plainFor_of_name pn_6) hisR ?_
  intro p e s m args below meth c s₁ Bd hml0 hP hK
  obtain ⟨rfl, hZ, hh⟩ := hP
  have hx := Bd.exec
  have hby := Bd.bytes
  have hlk := Bd.notSynchronized
  have hml : c.maxLocals = 9 := hml0
  have hown : s.vm.findClass "com/example/libcosearch/libcosearch/PostingList" = some m.cls := findClass_of_methodNamed Bd.named
  have hnm := (name_of_methodNamed Bd.named Bd.method).1
  have X0 : Stand p l e ({ frames := 1, cells := 0, slots := 0, locals := 12 } : Room) s m #[(.ref a), (.ref d), (.ref f)] below meth c s₁ [] 0 0 := Stand.of_body Bd
  have e0 : s₁.heap = h0 := by rw [← hh, Bd.state]; rfl
  have N0 := Fr.nil n0
  show Go p e below _ (Done s (Q_rmI3 Z a d f f0 f1 f2 h0 n0) ({ frames := 1, cells := 0, slots := 0, locals := 12 } : Room).cells ({ frames := 1, cells := 0, slots := 0, locals := 12 } : Room).slots)
  refine Go.via (fun tQ kQ => castTop (ef_6 m a d f) kQ) ?_
  show Go p e below (s₁.setTop (mkF m 0 #[.val (.ref a), .val (.ref d), .val (.ref f), .unset, .unset, .unset, .unset, .unset, .unset] [])) _
  refine Go.via (fun _ => XS.aloadN X0.here hx rfl (hb hby d6_0) rfl rfl) ?_
  obtain ⟨T101, X101, e101, st101⟩ := initO X0 hx hZ hown (tw hw 40 rfl) (tw hw 8 rfl) (tw hw 9 rfl) e0 (g := (mkF m 1 #[.val (.ref a), .val (.ref d), .val (.ref f), .unset, .unset, .unset, .unset, .unset, .unset] [(.ref a)])) rfl (by rw [hml]; rfl) rfl (hb hby d6_1) (by decide) (W := 0) (by show 2 * 0 + _ ≤ _; exact Nat.le_of_eq rfl) (by decide)
  refine Go.via (st101) ?_
  clear st101
  clear X0 e0
  show Go p e below (T101.setTop (mkF m 4 #[.val (.ref a), .val (.ref d), .val (.ref f), .unset, .unset, .unset, .unset, .unset, .unset] [])) _
  refine Go.via (fun _ => XS.aloadN X101.here hx rfl (hb hby d6_4) rfl rfl) ?_
  refine Go.via (fun _ => XS.aloadN X101.here hx rfl (hb hby d6_5) rfl rfl) ?_
  obtain ⟨T102, h102, X102, e102, W102, st102⟩ := putF X101 hx hZ hown (host := "") (Or.inl (tw hw 41 rfl)) Via.refl e101 P1 P0 (Or.inr ⟨(tw hw 42 rfl), rfl, hnm⟩) (tw hw 21 rfl) (ty := (.array .int)) (by decide) rfl rfl (g := (mkF m 6 #[.val (.ref a), .val (.ref d), .val (.ref f), .unset, .unset, .unset, .unset, .unset, .unset] [(.ref d), (.ref a)])) rfl rfl (hb hby d6_6)
  refine Go.via (st102) ?_
  clear st102
  have N102 := Fr.snoc X102 N0 g_a
  have f103 : Fld Z h102 a "com/example/libcosearch/libcosearch/PostingList" "documents" "[I" (.ref d) := P1.same W102
  clear X101 e101
  show Go p e below (T102.setTop (mkF m 9 #[.val (.ref a), .val (.ref d), .val (.ref f), .unset, .unset, .unset, .unset, .unset, .unset] [])) _
  refine Go.via (fun _ => XS.aloadN X102.here hx rfl (hb hby d6_9) rfl rfl) ?_
  refine Go.via (fun _ => XS.aloadN X102.here hx rfl (hb hby d6_10) rfl rfl) ?_
  have f104 : Fld Z h102 a "com/example/libcosearch/libcosearch/PostingList" "frequencies" "[I" .null := (P2.other W102 (Or.inr (slot_ne (Or.inr (tw hw 44 rfl)) (Or.inr (tw hw 42 rfl)) (by decide) (t := (.array .int)) (t' := (.array .int)) (by decide) (by decide))))
  have f105 : Exa Z h102 a "com/example/libcosearch/libcosearch/PostingList" := (P0.wr W102)
  obtain ⟨T106, h106, X106, e106, W106, st106⟩ := putF X102 hx hZ hown (host := "") (Or.inl (tw hw 43 rfl)) Via.refl e102 f104 f105 (Or.inr ⟨(tw hw 44 rfl), rfl, hnm⟩) (tw hw 21 rfl) (ty := (.array .int)) (by decide) rfl rfl (g := (mkF m 11 #[.val (.ref a), .val (.ref d), .val (.ref f), .unset, .unset, .unset, .unset, .unset, .unset] [(.ref f), (.ref a)])) rfl rfl (hb hby d6_11)
  refine Go.via (st106) ?_
  clear st106
  have N106 := Fr.snoc X106 N102 g_a
  have f107 : Fld Z h106 a "com/example/libcosearch/libcosearch/PostingList" "frequencies" "[I" (.ref f) := f104.same W106
  clear X102 e102
  show Go p e below (T106.setTop (mkF m 14 #[.val (.ref a), .val (.ref d), .val (.ref f), .unset, .unset, .unset, .unset, .unset, .unset] [])) _
  refine Go.via (fun _ => XS.lconst X106.here hx rfl (hb hby d6_14)) ?_
  refine Go.via (fun _ => XS.lstoreN X106.here hx rfl (hb hby d6_15) rfl (l' := #[.val (.ref a), .val (.ref d), .val (.ref f), .val (.long (0 : Int64)), .second, .unset, .unset, .unset, .unset]) rfl) ?_
  show Go p e below (T106.setTop (mkF m 16 #[.val (.ref a), .val (.ref d), .val (.ref f), .val (.long (0 : Int64)), .second, .unset, .unset, .unset, .unset] [])) _
  refine Go.via (fun _ => XS.aloadN X106.here hx rfl (hb hby d6_16) rfl rfl) ?_
  refine Go.via (fun _ => XS.astore X106.here hx rfl (hb hby d6_17) rfl rfl (l' := #[.val (.ref a), .val (.ref d), .val (.ref f), .val (.long (0 : Int64)), .second, .val (.ref f), .unset, .unset, .unset]) rfl) ?_
  show Go p e below (T106.setTop (mkF m 19 #[.val (.ref a), .val (.ref d), .val (.ref f), .val (.long (0 : Int64)), .second, .val (.ref f), .unset, .unset, .unset] [])) _
  refine Go.via (fun _ => XS.aload X106.here hx rfl (hb hby d6_19) rfl rfl) ?_
  have f108 : Ia Z h106 f .int [f0, f1, f2] := ((P4.other W102 (Ne.symm haf)).other W106 (Ne.symm haf))
  refine Go.via (lenI X106 hx hZ e106 f108 (n := (3 : Int32)) rfl (g := (mkF m 21 #[.val (.ref a), .val (.ref d), .val (.ref f), .val (.long (0 : Int64)), .second, .val (.ref f), .unset, .unset, .unset] [(.ref f)])) rfl rfl (hb hby d6_21)) ?_
  show Go p e below (T106.setTop (mkF m 22 #[.val (.ref a), .val (.ref d), .val (.ref f), .val (.long (0 : Int64)), .second, .val (.ref f), .unset, .unset, .unset] [(.int (3 : Int32))])) _
  refine Go.via (fun _ => XS.istore X106.here hx rfl (hb hby d6_22) rfl (l' := #[.val (.ref a), .val (.ref d), .val (.ref f), .val (.long (0 : Int64)), .second, .val (.ref f), .val (.int (3 : Int32)), .unset, .unset]) rfl) ?_
  show Go p e below (T106.setTop (mkF m 24 #[.val (.ref a), .val (.ref d), .val (.ref f), .val (.long (0 : Int64)), .second, .val (.ref f), .val (.int (3 : Int32)), .unset, .unset] [])) _
  refine Go.via (fun _ => XS.iconst X106.here hx rfl (hb hby d6_24)) ?_
  refine Go.via (fun _ => XS.istore X106.here hx rfl (hb hby d6_25) rfl (l' := #[.val (.ref a), .val (.ref d), .val (.ref f), .val (.long (0 : Int64)), .second, .val (.ref f), .val (.int (3 : Int32)), .val (.int (0 : Int32)), .unset]) rfl) ?_
  show Go p e below (T106.setTop (mkF m 27 #[.val (.ref a), .val (.ref d), .val (.ref f), .val (.long (0 : Int64)), .second, .val (.ref f), .val (.int (3 : Int32)), .val (.int (0 : Int32)), .unset] [])) _
  refine Go.via (fun _ => XS.iload X106.here hx rfl (hb hby d6_27) rfl) ?_
  refine Go.via (fun _ => XS.iload X106.here hx rfl (hb hby d6_29) rfl) ?_
  refine Go.via (fun _ => XS.icmpNo X106.here hx rfl (hb hby d6_31) rfl (tlt ((by decide) : (0 : Int32) < (3 : Int32))).2.1) ?_
  show Go p e below (T106.setTop (mkF m 34 #[.val (.ref a), .val (.ref d), .val (.ref f), .val (.long (0 : Int64)), .second, .val (.ref f), .val (.int (3 : Int32)), .val (.int (0 : Int32)), .unset] [])) _
  refine Go.via (fun _ => XS.aload X106.here hx rfl (hb hby d6_34) rfl rfl) ?_
  refine Go.via (fun _ => XS.iload X106.here hx rfl (hb hby d6_36) rfl) ?_
  refine Go.via (ldI X106 hx hZ e106 f108 (v := f0) (by decide) rfl (g := (mkF m 38 #[.val (.ref a), .val (.ref d), .val (.ref f), .val (.long (0 : Int64)), .second, .val (.ref f), .val (.int (3 : Int32)), .val (.int (0 : Int32)), .unset] [(.int (0 : Int32)), (.ref f)])) rfl rfl (hb hby d6_38)) ?_
  show Go p e below (T106.setTop (mkF m 39 #[.val (.ref a), .val (.ref d), .val (.ref f), .val (.long (0 : Int64)), .second, .val (.ref f), .val (.int (3 : Int32)), .val (.int (0 : Int32)), .unset] [(.int f0)])) _
  refine Go.via (fun _ => XS.istore X106.here hx rfl (hb hby d6_39) rfl (l' := #[.val (.ref a), .val (.ref d), .val (.ref f), .val (.long (0 : Int64)), .second, .val (.ref f), .val (.int (3 : Int32)), .val (.int (0 : Int32)), .val (.int f0)]) rfl) ?_
  show Go p e below (T106.setTop (mkF m 41 #[.val (.ref a), .val (.ref d), .val (.ref f), .val (.long (0 : Int64)), .second, .val (.ref f), .val (.int (3 : Int32)), .val (.int (0 : Int32)), .val (.int f0)] [])) _
  refine Go.via (fun _ => XS.lloadN X106.here hx rfl (hb hby d6_41) rfl) ?_
  refine Go.via (fun _ => XS.iload X106.here hx rfl (hb hby d6_42) rfl) ?_
  refine Go.via (fun _ => XS.i2l X106.here hx rfl (hb hby d6_44) rfl) ?_
  show Go p e below (T106.setTop (mkF m 45 #[.val (.ref a), .val (.ref d), .val (.ref f), .val (.long (0 : Int64)), .second, .val (.ref f), .val (.int (3 : Int32)), .val (.int (0 : Int32)), .val (.int f0)] [(.long (f0.toInt64)), (.long (0 : Int64))])) _
  refine Go.via (fun _ => XS.ladd X106.here hx rfl (hb hby d6_45) rfl) ?_
  show Go p e below (T106.setTop (mkF m 46 #[.val (.ref a), .val (.ref d), .val (.ref f), .val (.long (0 : Int64)), .second, .val (.ref f), .val (.int (3 : Int32)), .val (.int (0 : Int32)), .val (.int f0)] [(.long ((0 : Int64) + (f0.toInt64)))])) _
  refine Go.via (fun _ => XS.lstoreN X106.here hx rfl (hb hby d6_46) rfl (l' := #[.val (.ref a), .val (.ref d), .val (.ref f), .val (.long ((0 : Int64) + (f0.toInt64))), .second, .val (.ref f), .val (.int (3 : Int32)), .val (.int (0 : Int32)), .val (.int f0)]) rfl) ?_
  show Go p e below (T106.setTop (mkF m 47 #[.val (.ref a), .val (.ref d), .val (.ref f), .val (.long ((0 : Int64) + (f0.toInt64))), .second, .val (.ref f), .val (.int (3 : Int32)), .val (.int (0 : Int32)), .val (.int f0)] [])) _
  refine Go.via (fun _ => XS.iinc X106.here hx rfl (hb hby d6_47) rfl (l' := #[.val (.ref a), .val (.ref d), .val (.ref f), .val (.long ((0 : Int64) + (f0.toInt64))), .second, .val (.ref f), .val (.int (3 : Int32)), .val (.int (1 : Int32)), .val (.int f0)]) rfl) ?_
  show Go p e below (T106.setTop (mkF m 50 #[.val (.ref a), .val (.ref d), .val (.ref f), .val (.long ((0 : Int64) + (f0.toInt64))), .second, .val (.ref f), .val (.int (3 : Int32)), .val (.int (1 : Int32)), .val (.int f0)] [])) _
  refine Go.via (fun _ => XS.goto X106.here hx rfl (pc0 := 50) (pc' := 27) rfl (hb hby d6_50) (by decide) (by decide)) ?_
  refine Go.via (fun _ => XS.iload X106.here hx rfl (hb hby d6_27) rfl) ?_
  refine Go.via (fun _ => XS.iload X106.here hx rfl (hb hby d6_29) rfl) ?_
  refine Go.via (fun _ => XS.icmpNo X106.here hx rfl (hb hby d6_31) rfl (tlt ((by decide) : (1 : Int32) < (3 : Int32))).2.1) ?_
  show Go p e below (T106.setTop (mkF m 34 #[.val (.ref a), .val (.ref d), .val (.ref f), .val (.long ((0 : Int64) + (f0.toInt64))), .second, .val (.ref f), .val (.int (3 : Int32)), .val (.int (1 : Int32)), .val (.int f0)] [])) _
  refine Go.via (fun _ => XS.aload X106.here hx rfl (hb hby d6_34) rfl rfl) ?_
  refine Go.via (fun _ => XS.iload X106.here hx rfl (hb hby d6_36) rfl) ?_
  refine Go.via (ldI X106 hx hZ e106 f108 (v := f1) (by decide) rfl (g := (mkF m 38 #[.val (.ref a), .val (.ref d), .val (.ref f), .val (.long ((0 : Int64) + (f0.toInt64))), .second, .val (.ref f), .val (.int (3 : Int32)), .val (.int (1 : Int32)), .val (.int f0)] [(.int (1 : Int32)), (.ref f)])) rfl rfl (hb hby d6_38)) ?_
  show Go p e below (T106.setTop (mkF m 39 #[.val (.ref a), .val (.ref d), .val (.ref f), .val (.long ((0 : Int64) + (f0.toInt64))), .second, .val (.ref f), .val (.int (3 : Int32)), .val (.int (1 : Int32)), .val (.int f0)] [(.int f1)])) _
  refine Go.via (fun _ => XS.istore X106.here hx rfl (hb hby d6_39) rfl (l' := #[.val (.ref a), .val (.ref d), .val (.ref f), .val (.long ((0 : Int64) + (f0.toInt64))), .second, .val (.ref f), .val (.int (3 : Int32)), .val (.int (1 : Int32)), .val (.int f1)]) rfl) ?_
  show Go p e below (T106.setTop (mkF m 41 #[.val (.ref a), .val (.ref d), .val (.ref f), .val (.long ((0 : Int64) + (f0.toInt64))), .second, .val (.ref f), .val (.int (3 : Int32)), .val (.int (1 : Int32)), .val (.int f1)] [])) _
  refine Go.via (fun _ => XS.lloadN X106.here hx rfl (hb hby d6_41) rfl) ?_
  refine Go.via (fun _ => XS.iload X106.here hx rfl (hb hby d6_42) rfl) ?_
  refine Go.via (fun _ => XS.i2l X106.here hx rfl (hb hby d6_44) rfl) ?_
  show Go p e below (T106.setTop (mkF m 45 #[.val (.ref a), .val (.ref d), .val (.ref f), .val (.long ((0 : Int64) + (f0.toInt64))), .second, .val (.ref f), .val (.int (3 : Int32)), .val (.int (1 : Int32)), .val (.int f1)] [(.long (f1.toInt64)), (.long ((0 : Int64) + (f0.toInt64)))])) _
  refine Go.via (fun _ => XS.ladd X106.here hx rfl (hb hby d6_45) rfl) ?_
  show Go p e below (T106.setTop (mkF m 46 #[.val (.ref a), .val (.ref d), .val (.ref f), .val (.long ((0 : Int64) + (f0.toInt64))), .second, .val (.ref f), .val (.int (3 : Int32)), .val (.int (1 : Int32)), .val (.int f1)] [(.long (((0 : Int64) + (f0.toInt64)) + (f1.toInt64)))])) _
  refine Go.via (fun _ => XS.lstoreN X106.here hx rfl (hb hby d6_46) rfl (l' := #[.val (.ref a), .val (.ref d), .val (.ref f), .val (.long (((0 : Int64) + (f0.toInt64)) + (f1.toInt64))), .second, .val (.ref f), .val (.int (3 : Int32)), .val (.int (1 : Int32)), .val (.int f1)]) rfl) ?_
  show Go p e below (T106.setTop (mkF m 47 #[.val (.ref a), .val (.ref d), .val (.ref f), .val (.long (((0 : Int64) + (f0.toInt64)) + (f1.toInt64))), .second, .val (.ref f), .val (.int (3 : Int32)), .val (.int (1 : Int32)), .val (.int f1)] [])) _
  refine Go.via (fun _ => XS.iinc X106.here hx rfl (hb hby d6_47) rfl (l' := #[.val (.ref a), .val (.ref d), .val (.ref f), .val (.long (((0 : Int64) + (f0.toInt64)) + (f1.toInt64))), .second, .val (.ref f), .val (.int (3 : Int32)), .val (.int (2 : Int32)), .val (.int f1)]) rfl) ?_
  show Go p e below (T106.setTop (mkF m 50 #[.val (.ref a), .val (.ref d), .val (.ref f), .val (.long (((0 : Int64) + (f0.toInt64)) + (f1.toInt64))), .second, .val (.ref f), .val (.int (3 : Int32)), .val (.int (2 : Int32)), .val (.int f1)] [])) _
  refine Go.via (fun _ => XS.goto X106.here hx rfl (pc0 := 50) (pc' := 27) rfl (hb hby d6_50) (by decide) (by decide)) ?_
  refine Go.via (fun _ => XS.iload X106.here hx rfl (hb hby d6_27) rfl) ?_
  refine Go.via (fun _ => XS.iload X106.here hx rfl (hb hby d6_29) rfl) ?_
  refine Go.via (fun _ => XS.icmpNo X106.here hx rfl (hb hby d6_31) rfl (tlt ((by decide) : (2 : Int32) < (3 : Int32))).2.1) ?_
  show Go p e below (T106.setTop (mkF m 34 #[.val (.ref a), .val (.ref d), .val (.ref f), .val (.long (((0 : Int64) + (f0.toInt64)) + (f1.toInt64))), .second, .val (.ref f), .val (.int (3 : Int32)), .val (.int (2 : Int32)), .val (.int f1)] [])) _
  refine Go.via (fun _ => XS.aload X106.here hx rfl (hb hby d6_34) rfl rfl) ?_
  refine Go.via (fun _ => XS.iload X106.here hx rfl (hb hby d6_36) rfl) ?_
  refine Go.via (ldI X106 hx hZ e106 f108 (v := f2) (by decide) rfl (g := (mkF m 38 #[.val (.ref a), .val (.ref d), .val (.ref f), .val (.long (((0 : Int64) + (f0.toInt64)) + (f1.toInt64))), .second, .val (.ref f), .val (.int (3 : Int32)), .val (.int (2 : Int32)), .val (.int f1)] [(.int (2 : Int32)), (.ref f)])) rfl rfl (hb hby d6_38)) ?_
  show Go p e below (T106.setTop (mkF m 39 #[.val (.ref a), .val (.ref d), .val (.ref f), .val (.long (((0 : Int64) + (f0.toInt64)) + (f1.toInt64))), .second, .val (.ref f), .val (.int (3 : Int32)), .val (.int (2 : Int32)), .val (.int f1)] [(.int f2)])) _
  refine Go.via (fun _ => XS.istore X106.here hx rfl (hb hby d6_39) rfl (l' := #[.val (.ref a), .val (.ref d), .val (.ref f), .val (.long (((0 : Int64) + (f0.toInt64)) + (f1.toInt64))), .second, .val (.ref f), .val (.int (3 : Int32)), .val (.int (2 : Int32)), .val (.int f2)]) rfl) ?_
  show Go p e below (T106.setTop (mkF m 41 #[.val (.ref a), .val (.ref d), .val (.ref f), .val (.long (((0 : Int64) + (f0.toInt64)) + (f1.toInt64))), .second, .val (.ref f), .val (.int (3 : Int32)), .val (.int (2 : Int32)), .val (.int f2)] [])) _
  refine Go.via (fun _ => XS.lloadN X106.here hx rfl (hb hby d6_41) rfl) ?_
  refine Go.via (fun _ => XS.iload X106.here hx rfl (hb hby d6_42) rfl) ?_
  refine Go.via (fun _ => XS.i2l X106.here hx rfl (hb hby d6_44) rfl) ?_
  show Go p e below (T106.setTop (mkF m 45 #[.val (.ref a), .val (.ref d), .val (.ref f), .val (.long (((0 : Int64) + (f0.toInt64)) + (f1.toInt64))), .second, .val (.ref f), .val (.int (3 : Int32)), .val (.int (2 : Int32)), .val (.int f2)] [(.long (f2.toInt64)), (.long (((0 : Int64) + (f0.toInt64)) + (f1.toInt64)))])) _
  refine Go.via (fun _ => XS.ladd X106.here hx rfl (hb hby d6_45) rfl) ?_
  show Go p e below (T106.setTop (mkF m 46 #[.val (.ref a), .val (.ref d), .val (.ref f), .val (.long (((0 : Int64) + (f0.toInt64)) + (f1.toInt64))), .second, .val (.ref f), .val (.int (3 : Int32)), .val (.int (2 : Int32)), .val (.int f2)] [(.long ((((0 : Int64) + (f0.toInt64)) + (f1.toInt64)) + (f2.toInt64)))])) _
  refine Go.via (fun _ => XS.lstoreN X106.here hx rfl (hb hby d6_46) rfl (l' := #[.val (.ref a), .val (.ref d), .val (.ref f), .val (.long ((((0 : Int64) + (f0.toInt64)) + (f1.toInt64)) + (f2.toInt64))), .second, .val (.ref f), .val (.int (3 : Int32)), .val (.int (2 : Int32)), .val (.int f2)]) rfl) ?_
  show Go p e below (T106.setTop (mkF m 47 #[.val (.ref a), .val (.ref d), .val (.ref f), .val (.long ((((0 : Int64) + (f0.toInt64)) + (f1.toInt64)) + (f2.toInt64))), .second, .val (.ref f), .val (.int (3 : Int32)), .val (.int (2 : Int32)), .val (.int f2)] [])) _
  refine Go.via (fun _ => XS.iinc X106.here hx rfl (hb hby d6_47) rfl (l' := #[.val (.ref a), .val (.ref d), .val (.ref f), .val (.long ((((0 : Int64) + (f0.toInt64)) + (f1.toInt64)) + (f2.toInt64))), .second, .val (.ref f), .val (.int (3 : Int32)), .val (.int (3 : Int32)), .val (.int f2)]) rfl) ?_
  show Go p e below (T106.setTop (mkF m 50 #[.val (.ref a), .val (.ref d), .val (.ref f), .val (.long ((((0 : Int64) + (f0.toInt64)) + (f1.toInt64)) + (f2.toInt64))), .second, .val (.ref f), .val (.int (3 : Int32)), .val (.int (3 : Int32)), .val (.int f2)] [])) _
  refine Go.via (fun _ => XS.goto X106.here hx rfl (pc0 := 50) (pc' := 27) rfl (hb hby d6_50) (by decide) (by decide)) ?_
  refine Go.via (fun _ => XS.iload X106.here hx rfl (hb hby d6_27) rfl) ?_
  refine Go.via (fun _ => XS.iload X106.here hx rfl (hb hby d6_29) rfl) ?_
  refine Go.via (fun _ => XS.icmpYes X106.here hx rfl (pc0 := 31) (pc' := 53) rfl (hb hby d6_31) rfl (flt ((by decide) : ¬ ((3 : Int32) < (3 : Int32)))).2.1 (by decide) (by decide)) ?_
  show Go p e below (T106.setTop (mkF m 53 #[.val (.ref a), .val (.ref d), .val (.ref f), .val (.long ((((0 : Int64) + (f0.toInt64)) + (f1.toInt64)) + (f2.toInt64))), .second, .val (.ref f), .val (.int (3 : Int32)), .val (.int (3 : Int32)), .val (.int f2)] [])) _
  refine Go.via (fun _ => XS.aloadN X106.here hx rfl (hb hby d6_53) rfl rfl) ?_
  refine Go.via (fun _ => XS.lloadN X106.here hx rfl (hb hby d6_54) rfl) ?_
  have f109 : Fld Z h106 a "com/example/libcosearch/libcosearch/PostingList" "collectionFrequency" "J" (.long (0 : Int64)) := ((P3.other W102 (Or.inr (slot_ne (Or.inr (tw hw 46 rfl)) (Or.inr (tw hw 42 rfl)) (by decide) (t := .long) (t' := (.array .int)) (by decide) (by decide)))).other W106 (Or.inr (slot_ne (Or.inr (tw hw 46 rfl)) (Or.inr (tw hw 44 rfl)) (by decide) (t := .long) (t' := (.array .int)) (by decide) (by decide))))
  have f110 : Exa Z h106 a "com/example/libcosearch/libcosearch/PostingList" := (f105.wr W106)
  obtain ⟨T111, h111, X111, e111, W111, st111⟩ := putF X106 hx hZ hown (host := "") (Or.inl (tw hw 45 rfl)) Via.refl e106 f109 f110 (Or.inr ⟨(tw hw 46 rfl), rfl, hnm⟩) (tw hw 21 rfl) (ty := .long) (by decide) rfl rfl (g := (mkF m 55 #[.val (.ref a), .val (.ref d), .val (.ref f), .val (.long ((((0 : Int64) + (f0.toInt64)) + (f1.toInt64)) + (f2.toInt64))), .second, .val (.ref f), .val (.int (3 : Int32)), .val (.int (3 : Int32)), .val (.int f2)] [(.long ((((0 : Int64) + (f0.toInt64)) + (f1.toInt64)) + (f2.toInt64))), (.ref a)])) rfl rfl (hb hby d6_55)
  refine Go.via (st111) ?_
  clear st111
  have N111 := Fr.snoc X111 N106 g_a
  have f112 : Fld Z h111 a "com/example/libcosearch/libcosearch/PostingList" "collectionFrequency" "J" (.long ((((0 : Int64) + (f0.toInt64)) + (f1.toInt64)) + (f2.toInt64))) := f109.same W111
  clear X106 e106
  show Go p e below (T111.setTop (mkF m 58 #[.val (.ref a), .val (.ref d), .val (.ref f), .val (.long ((((0 : Int64) + (f0.toInt64)) + (f1.toInt64)) + (f2.toInt64))), .second, .val (.ref f), .val (.int (3 : Int32)), .val (.int (3 : Int32)), .val (.int f2)] [])) _
  have k113 : Keep h0 h111 [a] := ((((Keep.refl h0 [a]).wr W102 (Or.inl (List.mem_of_getElem? (i := 0) rfl))).wr W106 (Or.inl (List.mem_of_getElem? (i := 0) rfl))).wr W111 (Or.inl (List.mem_of_getElem? (i := 0) rfl)))
  have f114 : Exa Z h111 a "com/example/libcosearch/libcosearch/PostingList" := (f110.wr W111)
  have f115 : Fld Z h111 a "com/example/libcosearch/libcosearch/PostingList" "documents" "[I" (.ref d) := ((f103.other W106 (Or.inr (slot_ne (Or.inr (tw hw 42 rfl)) (Or.inr (tw hw 44 rfl)) (by decide) (t := (.array .int)) (t' := (.array .int)) (by decide) (by decide)))).other W111 (Or.inr (slot_ne (Or.inr (tw hw 42 rfl)) (Or.inr (tw hw 46 rfl)) (by decide) (t := (.array .int)) (t' := .long) (by decide) (by decide))))
  have f116 : Fld Z h111 a "com/example/libcosearch/libcosearch/PostingList" "frequencies" "[I" (.ref f) := (f107.other W111 (Or.inr (slot_ne (Or.inr (tw hw 44 rfl)) (Or.inr (tw hw 46 rfl)) (by decide) (t := (.array .int)) (t' := .long) (by decide) (by decide))))
  exact Go.fin X111 hlk (v := none) (fun _ => rfl) (fun fs hr => X111.returnOut hx Bd.returns (hb hby d6_58) hr) (by rw [e111]; exact ⟨rfl, N111, k113, f114, f115, f116, f112⟩) (by decide) (by decide)
def Q_rmI4 (Z : State) (a : Addr) (d : Addr) (f : Addr) (f0 : Int32) (f1 : Int32) (f2 : Int32) (f3 : Int32) (h0 : Heap) (n0 : Nat) (vQ : Option Value) (hQ : Heap) (LQ : List Loc) : Prop := vQ = none ∧ Fr n0 LQ ∧ Keep h0 hQ [a] ∧ Exa Z hQ a "com/example/libcosearch/libcosearch/PostingList" ∧ Fld Z hQ a "com/example/libcosearch/libcosearch/PostingList" "documents" "[I" (.ref d) ∧ Fld Z hQ a "com/example/libcosearch/libcosearch/PostingList" "frequencies" "[I" (.ref f) ∧ Fld Z hQ a "com/example/libcosearch/libcosearch/PostingList" "collectionFrequency" "J" (.long (((((0 : Int64) + (f0.toInt64)) + (f1.toInt64)) + (f2.toInt64)) + (f3.toInt64)))
set_option maxRecDepth 65536 in
set_option maxHeartbeats 40000000 in
theorem rmI4 (l : Launch) (Z : State) (a0 : Array Value) (hw : ∀ d ∈ tables_1, d.before a0 Z = true) (ws : List Jvm.Cond) (a : Addr) (d : Addr) (f : Addr) (f0 : Int32) (f1 : Int32) (f2 : Int32) (f3 : Int32) (h0 : Heap) (n0 : Nat) (Z0 : n0 ≤ h0.size) (P0 : Exa Z h0 a "com/example/libcosearch/libcosearch/PostingList") (P1 : Fld Z h0 a "com/example/libcosearch/libcosearch/PostingList" "documents" "[I" .null) (P2 : Fld Z h0 a "com/example/libcosearch/libcosearch/PostingList" "frequencies" "[I" .null) (P3 : Fld Z h0 a "com/example/libcosearch/libcosearch/PostingList" "collectionFrequency" "J" (.long (0 : Int64))) (P4 : Ia Z h0 f .int [f0, f1, f2, f3]) (g_a : n0 ≤ a) (haf : a ≠ f) :
    MetFree l (⟨"com/example/libcosearch/libcosearch/PostingList", "<init>", "([I[I)V"⟩ : MethodName) (head1 (Jvm.Cond.code (⟨"com/example/libcosearch/libcosearch/PostingList", "<init>", "([I[I)V"⟩ : MethodName) prog_23_method_1_code 9 none :: ws) ({ frames := 1, cells := 0, slots := 0, locals := 12 } : Room)) (fun aQ UQ => aQ = #[(.ref a), (.ref d), (.ref f)] ∧ Z.Warmed39 UQ.vm ∧ UQ.heap = h0) (fun _ _ _ _ _ => True) (fun _ UQ oQ UR => ∃ vQ LQ, oQ = .returned vQ ∧ Q_rmI4 Z a d f f0 f1 f2 f3 h0 n0 vQ UR.heap LQ ∧ FrameEnd UQ oQ UR LQ ({ frames := 1, cells := 0, slots := 0, locals := 12 } : Room).cells ({ frames := 1, cells := 0, slots := 0, locals := 12 } : Room).slots) := by
  refine MetFree.of_bodySF (plainFor_of_name pn_6) hisR ?_
  intro p e s m args below meth c s₁ Bd hml0 hP hK
  obtain ⟨rfl, hZ, hh⟩ := hP
  have hx := Bd.exec
  have hby := Bd.bytes
  have hlk := Bd.notSynchronized
  have hml : c.maxLocals = 9 := hml0
  have hown : s.vm.findClass "com/example/libcosearch/libcosearch/PostingList" = some m.cls := findClass_of_methodNamed Bd.named
  have hnm := (name_of_methodNamed Bd.named Bd.method).1
  have X0 : Stand p l e ({ frames := 1, cells := 0, slots := 0, locals := 12 } : Room) s m #[(.ref a), (.ref d), (.ref f)] below meth c s₁ [] 0 0 := Stand.of_body Bd
  have e0 : s₁.heap = h0 := by rw [← hh, Bd.state]; rfl
  have N0 := Fr.nil n0
  show Go p e below _ (Done s (Q_rmI4 Z a d f f0 f1 f2 f3 h0 n0) ({ frames := 1, cells := 0, slots := 0, locals := 12 } : Room).cells ({ frames := 1, cells := 0, slots := 0, locals := 12 } : Room).slots)
  refine Go.via (fun tQ kQ => castTop (ef_6 m a d f) kQ) ?_
  show Go p e below (s₁.setTop (mkF m 0 #[.val (.ref a), .val (.ref d), .val (.ref f), .unset, .unset, .unset, .unset, .unset, .unset] [])) _
  refine Go.via (fun _ => XS.aloadN X0.here hx rfl (hb hby d6_0) rfl rfl) ?_
  obtain ⟨T117, X117, e117, st117⟩ := initO X0 hx hZ hown (tw hw 40 rfl) (tw hw 8 rfl) (tw hw 9 rfl) e0 (g := (mkF m 1 #[.val (.ref a), .val (.ref d), .val (.ref f), .unset, .unset, .unset, .unset, .unset, .unset] [(.ref a)])) rfl (by rw [hml]; rfl) rfl (hb hby d6_1) (by decide) (W := 0) (by show 2 * 0 + _ ≤ _; exact Nat.le_of_eq rfl) (by decide)
  refine Go.via (st117) ?_
  clear st117
  clear X0 e0
  show Go p e below (T117.setTop (mkF m 4 #[.val (.ref a), .val (.ref d), .val (.ref f), .unset, .unset, .unset, .unset, .unset, .unset] [])) _
  refine Go.via (fun _ => XS.aloadN X117.here hx rfl (hb hby d6_4) rfl rfl) ?_
  refine Go.via (fun _ => XS.aloadN X117.here hx rfl (hb hby d6_5) rfl rfl) ?_
  obtain ⟨T118, h118, X118, e118, W118, st118⟩ := putF X117 hx hZ hown (host := "") (Or.inl (tw hw 41 rfl)) Via.refl e117 P1 P0 (Or.inr ⟨(tw hw 42 rfl), rfl, hnm⟩) (tw hw 21 rfl) (ty := (.array .int)) (by decide) rfl rfl (g := (mkF m 6 #[.val (.ref a), .val (.ref d), .val (.ref f), .unset, .unset, .unset, .unset, .unset, .unset] [(.ref d), (.ref a)])) rfl rfl (hb hby d6_6)
  refine Go.via (st118) ?_
  clear st118
  have N118 := Fr.snoc X118 N0 g_a
  have f119 : Fld Z h118 a "com/example/libcosearch/libcosearch/PostingList" "documents" "[I" (.ref d) := P1.same W118
  clear X117 e117
  show Go p e below (T118.setTop (mkF m 9 #[.val (.ref a), .val (.ref d), .val (.ref f), .unset, .unset, .unset, .unset, .unset, .unset] [])) _
  refine Go.via (fun _ => XS.aloadN X118.here hx rfl (hb hby d6_9) rfl rfl) ?_
  refine Go.via (fun _ => XS.aloadN X118.here hx rfl (hb hby d6_10) rfl rfl) ?_
  have f120 : Fld Z h118 a "com/example/libcosearch/libcosearch/PostingList" "frequencies" "[I" .null := (P2.other W118 (Or.inr (slot_ne (Or.inr (tw hw 44 rfl)) (Or.inr (tw hw 42 rfl)) (by decide) (t := (.array .int)) (t' := (.array .int)) (by decide) (by decide))))
  have f121 : Exa Z h118 a "com/example/libcosearch/libcosearch/PostingList" := (P0.wr W118)
  obtain ⟨T122, h122, X122, e122, W122, st122⟩ := putF X118 hx hZ hown (host := "") (Or.inl (tw hw 43 rfl)) Via.refl e118 f120 f121 (Or.inr ⟨(tw hw 44 rfl), rfl, hnm⟩) (tw hw 21 rfl) (ty := (.array .int)) (by decide) rfl rfl (g := (mkF m 11 #[.val (.ref a), .val (.ref d), .val (.ref f), .unset, .unset, .unset, .unset, .unset, .unset] [(.ref f), (.ref a)])) rfl rfl (hb hby d6_11)
  refine Go.via (st122) ?_
  clear st122
  have N122 := Fr.snoc X122 N118 g_a
  have f123 : Fld Z h122 a "com/example/libcosearch/libcosearch/PostingList" "frequencies" "[I" (.ref f) := f120.same W122
  clear X118 e118
  show Go p e below (T122.setTop (mkF m 14 #[.val (.ref a), .val (.ref d), .val (.ref f), .unset, .unset, .unset, .unset, .unset, .unset] [])) _
  refine Go.via (fun _ => XS.lconst X122.here hx rfl (hb hby d6_14)) ?_
  refine Go.via (fun _ => XS.lstoreN X122.here hx rfl (hb hby d6_15) rfl (l' := #[.val (.ref a), .val (.ref d), .val (.ref f), .val (.long (0 : Int64)), .second, .unset, .unset, .unset, .unset]) rfl) ?_
  show Go p e below (T122.setTop (mkF m 16 #[.val (.ref a), .val (.ref d), .val (.ref f), .val (.long (0 : Int64)), .second, .unset, .unset, .unset, .unset] [])) _
  refine Go.via (fun _ => XS.aloadN X122.here hx rfl (hb hby d6_16) rfl rfl) ?_
  refine Go.via (fun _ => XS.astore X122.here hx rfl (hb hby d6_17) rfl rfl (l' := #[.val (.ref a), .val (.ref d), .val (.ref f), .val (.long (0 : Int64)), .second, .val (.ref f), .unset, .unset, .unset]) rfl) ?_
  show Go p e below (T122.setTop (mkF m 19 #[.val (.ref a), .val (.ref d), .val (.ref f), .val (.long (0 : Int64)), .second, .val (.ref f), .unset, .unset, .unset] [])) _
  refine Go.via (fun _ => XS.aload X122.here hx rfl (hb hby d6_19) rfl rfl) ?_
  have f124 : Ia Z h122 f .int [f0, f1, f2, f3] := ((P4.other W118 (Ne.symm haf)).other W122 (Ne.symm haf))
  refine Go.via (lenI X122 hx hZ e122 f124 (n := (4 : Int32)) rfl (g := (mkF m 21 #[.val (.ref a), .val (.ref d), .val (.ref f), .val (.long (0 : Int64)), .second, .val (.ref f), .unset, .unset, .unset] [(.ref f)])) rfl rfl (hb hby d6_21)) ?_
  show Go p e below (T122.setTop (mkF m 22 #[.val (.ref a), .val (.ref d), .val (.ref f), .val (.long (0 : Int64)), .second, .val (.ref f), .unset, .unset, .unset] [(.int (4 : Int32))])) _
  refine Go.via (fun _ => XS.istore X122.here hx rfl (hb hby d6_22) rfl (l' := #[.val (.ref a), .val (.ref d), .val (.ref f), .val (.long (0 : Int64)), .second, .val (.ref f), .val (.int (4 : Int32)), .unset, .unset]) rfl) ?_
  show Go p e below (T122.setTop (mkF m 24 #[.val (.ref a), .val (.ref d), .val (.ref f), .val (.long (0 : Int64)), .second, .val (.ref f), .val (.int (4 : Int32)), .unset, .unset] [])) _
  refine Go.via (fun _ => XS.iconst X122.here hx rfl (hb hby d6_24)) ?_
  refine Go.via (fun _ => XS.istore X122.here hx rfl (hb hby d6_25) rfl (l' := #[.val (.ref a), .val (.ref d), .val (.ref f), .val (.long (0 : Int64)), .second, .val (.ref f), .val (.int (4 : Int32)), .val (.int (0 : Int32)), .unset]) rfl) ?_
  show Go p e below (T122.setTop (mkF m 27 #[.val (.ref a), .val (.ref d), .val (.ref f), .val (.long (0 : Int64)), .second, .val (.ref f), .val (.int (4 : Int32)), .val (.int (0 : Int32)), .unset] [])) _
  refine Go.via (fun _ => XS.iload X122.here hx rfl (hb hby d6_27) rfl) ?_
  refine Go.via (fun _ => XS.iload X122.here hx rfl (hb hby d6_29) rfl) ?_
  refine Go.via (fun _ => XS.icmpNo X122.here hx rfl (hb hby d6_31) rfl (tlt ((by decide) : (0 : Int32) < (4 : Int32))).2.1) ?_
  show Go p e below (T122.setTop (mkF m 34 #[.val (.ref a), .val (.ref d), .val (.ref f), .val (.long (0 : Int64)), .second, .val (.ref f), .val (.int (4 : Int32)), .val (.int (0 : Int32)), .unset] [])) _
  refine Go.via (fun _ => XS.aload X122.here hx rfl (hb hby d6_34) rfl rfl) ?_
  refine Go.via (fun _ => XS.iload X122.here hx rfl (hb hby d6_36) rfl) ?_
  refine Go.via (ldI X122 hx hZ e122 f124 (v := f0) (by decide) rfl (g := (mkF m 38 #[.val (.ref a), .val (.ref d), .val (.ref f), .val (.long (0 : Int64)), .second, .val (.ref f), .val (.int (4 : Int32)), .val (.int (0 : Int32)), .unset] [(.int (0 : Int32)), (.ref f)])) rfl rfl (hb hby d6_38)) ?_
  show Go p e below (T122.setTop (mkF m 39 #[.val (.ref a), .val (.ref d), .val (.ref f), .val (.long (0 : Int64)), .second, .val (.ref f), .val (.int (4 : Int32)), .val (.int (0 : Int32)), .unset] [(.int f0)])) _
  refine Go.via (fun _ => XS.istore X122.here hx rfl (hb hby d6_39) rfl (l' := #[.val (.ref a), .val (.ref d), .val (.ref f), .val (.long (0 : Int64)), .second, .val (.ref f), .val (.int (4 : Int32)), .val (.int (0 : Int32)), .val (.int f0)]) rfl) ?_
  show Go p e below (T122.setTop (mkF m 41 #[.val (.ref a), .val (.ref d), .val (.ref f), .val (.long (0 : Int64)), .second, .val (.ref f), .val (.int (4 : Int32)), .val (.int (0 : Int32)), .val (.int f0)] [])) _
  refine Go.via (fun _ => XS.lloadN X122.here hx rfl (hb hby d6_41) rfl) ?_
  refine Go.via (fun _ => XS.iload X122.here hx rfl (hb hby d6_42) rfl) ?_
  refine Go.via (fun _ => XS.i2l X122.here hx rfl (hb hby d6_44) rfl) ?_
  show Go p e below (T122.setTop (mkF m 45 #[.val (.ref a), .val (.ref d), .val (.ref f), .val (.long (0 : Int64)), .second, .val (.ref f), .val (.int (4 : Int32)), .val (.int (0 : Int32)), .val (.int f0)] [(.long (f0.toInt64)), (.long (0 : Int64))])) _
  refine Go.via (fun _ => XS.ladd X122.here hx rfl (hb hby d6_45) rfl) ?_
  show Go p e below (T122.setTop (mkF m 46 #[.val (.ref a), .val (.ref d), .val (.ref f), .val (.long (0 : Int64)), .second, .val (.ref f), .val (.int (4 : Int32)), .val (.int (0 : Int32)), .val (.int f0)] [(.long ((0 : Int64) + (f0.toInt64)))])) _
  refine Go.via (fun _ => XS.lstoreN X122.here hx rfl (hb hby d6_46) rfl (l' := #[.val (.ref a), .val (.ref d), .val (.ref f), .val (.long ((0 : Int64) + (f0.toInt64))), .second, .val (.ref f), .val (.int (4 : Int32)), .val (.int (0 : Int32)), .val (.int f0)]) rfl) ?_
  show Go p e below (T122.setTop (mkF m 47 #[.val (.ref a), .val (.ref d), .val (.ref f), .val (.long ((0 : Int64) + (f0.toInt64))), .second, .val (.ref f), .val (.int (4 : Int32)), .val (.int (0 : Int32)), .val (.int f0)] [])) _
  refine Go.via (fun _ => XS.iinc X122.here hx rfl (hb hby d6_47) rfl (l' := #[.val (.ref a), .val (.ref d), .val (.ref f), .val (.long ((0 : Int64) + (f0.toInt64))), .second, .val (.ref f), .val (.int (4 : Int32)), .val (.int (1 : Int32)), .val (.int f0)]) rfl) ?_
  show Go p e below (T122.setTop (mkF m 50 #[.val (.ref a), .val (.ref d), .val (.ref f), .val (.long ((0 : Int64) + (f0.toInt64))), .second, .val (.ref f), .val (.int (4 : Int32)), .val (.int (1 : Int32)), .val (.int f0)] [])) _
  refine Go.via (fun _ => XS.goto X122.here hx rfl (pc0 := 50) (pc' := 27) rfl (hb hby d6_50) (by decide) (by decide)) ?_
  refine Go.via (fun _ => XS.iload X122.here hx rfl (hb hby d6_27) rfl) ?_
  refine Go.via (fun _ => XS.iload X122.here hx rfl (hb hby d6_29) rfl) ?_
  refine Go.via (fun _ => XS.icmpNo X122.here hx rfl (hb hby d6_31) rfl (tlt ((by decide) : (1 : Int32) < (4 : Int32))).2.1) ?_
  show Go p e below (T122.setTop (mkF m 34 #[.val (.ref a), .val (.ref d), .val (.ref f), .val (.long ((0 : Int64) + (f0.toInt64))), .second, .val (.ref f), .val (.int (4 : Int32)), .val (.int (1 : Int32)), .val (.int f0)] [])) _
  refine Go.via (fun _ => XS.aload X122.here hx rfl (hb hby d6_34) rfl rfl) ?_
  refine Go.via (fun _ => XS.iload X122.here hx rfl (hb hby d6_36) rfl) ?_
  refine Go.via (ldI X122 hx hZ e122 f124 (v := f1) (by decide) rfl (g := (mkF m 38 #[.val (.ref a), .val (.ref d), .val (.ref f), .val (.long ((0 : Int64) + (f0.toInt64))), .second, .val (.ref f), .val (.int (4 : Int32)), .val (.int (1 : Int32)), .val (.int f0)] [(.int (1 : Int32)), (.ref f)])) rfl rfl (hb hby d6_38)) ?_
  show Go p e below (T122.setTop (mkF m 39 #[.val (.ref a), .val (.ref d), .val (.ref f), .val (.long ((0 : Int64) + (f0.toInt64))), .second, .val (.ref f), .val (.int (4 : Int32)), .val (.int (1 : Int32)), .val (.int f0)] [(.int f1)])) _
  refine Go.via (fun _ => XS.istore X122.here hx rfl (hb hby d6_39) rfl (l' := #[.val (.ref a), .val (.ref d), .val (.ref f), .val (.long ((0 : Int64) + (f0.toInt64))), .second, .val (.ref f), .val (.int (4 : Int32)), .val (.int (1 : Int32)), .val (.int f1)]) rfl) ?_
  show Go p e below (T122.setTop (mkF m 41 #[.val (.ref a), .val (.ref d), .val (.ref f), .val (.long ((0 : Int64) + (f0.toInt64))), .second, .val (.ref f), .val (.int (4 : Int32)), .val (.int (1 : Int32)), .val (.int f1)] [])) _
  refine Go.via (fun _ => XS.lloadN X122.here hx rfl (hb hby d6_41) rfl) ?_
  refine Go.via (fun _ => XS.iload X122.here hx rfl (hb hby d6_42) rfl) ?_
  refine Go.via (fun _ => XS.i2l X122.here hx rfl (hb hby d6_44) rfl) ?_
  show Go p e below (T122.setTop (mkF m 45 #[.val (.ref a), .val (.ref d), .val (.ref f), .val (.long ((0 : Int64) + (f0.toInt64))), .second, .val (.ref f), .val (.int (4 : Int32)), .val (.int (1 : Int32)), .val (.int f1)] [(.long (f1.toInt64)), (.long ((0 : Int64) + (f0.toInt64)))])) _
  refine Go.via (fun _ => XS.ladd X122.here hx rfl (hb hby d6_45) rfl) ?_
  show Go p e below (T122.setTop (mkF m 46 #[.val (.ref a), .val (.ref d), .val (.ref f), .val (.long ((0 : Int64) + (f0.toInt64))), .second, .val (.ref f), .val (.int (4 : Int32)), .val (.int (1 : Int32)), .val (.int f1)] [(.long (((0 : Int64) + (f0.toInt64)) + (f1.toInt64)))])) _
  refine Go.via (fun _ => XS.lstoreN X122.here hx rfl (hb hby d6_46) rfl (l' := #[.val (.ref a), .val (.ref d), .val (.ref f), .val (.long (((0 : Int64) + (f0.toInt64)) + (f1.toInt64))), .second, .val (.ref f), .val (.int (4 : Int32)), .val (.int (1 : Int32)), .val (.int f1)]) rfl) ?_
  show Go p e below (T122.setTop (mkF m 47 #[.val (.ref a), .val (.ref d), .val (.ref f), .val (.long (((0 : Int64) + (f0.toInt64)) + (f1.toInt64))), .second, .val (.ref f), .val (.int (4 : Int32)), .val (.int (1 : Int32)), .val (.int f1)] [])) _
  refine Go.via (fun _ => XS.iinc X122.here hx rfl (hb hby d6_47) rfl (l' := #[.val (.ref a), .val (.ref d), .val (.ref f), .val (.long (((0 : Int64) + (f0.toInt64)) + (f1.toInt64))), .second, .val (.ref f), .val (.int (4 : Int32)), .val (.int (2 : Int32)), .val (.int f1)]) rfl) ?_
  show Go p e below (T122.setTop (mkF m 50 #[.val (.ref a), .val (.ref d), .val (.ref f), .val (.long (((0 : Int64) + (f0.toInt64)) + (f1.toInt64))), .second, .val (.ref f), .val (.int (4 : Int32)), .val (.int (2 : Int32)), .val (.int f1)] [])) _
  refine Go.via (fun _ => XS.goto X122.here hx rfl (pc0 := 50) (pc' := 27) rfl (hb hby d6_50) (by decide) (by decide)) ?_
  refine Go.via (fun _ => XS.iload X122.here hx rfl (hb hby d6_27) rfl) ?_
  refine Go.via (fun _ => XS.iload X122.here hx rfl (hb hby d6_29) rfl) ?_
  refine Go.via (fun _ => XS.icmpNo X122.here hx rfl (hb hby d6_31) rfl (tlt ((by decide) : (2 : Int32) < (4 : Int32))).2.1) ?_
  show Go p e below (T122.setTop (mkF m 34 #[.val (.ref a), .val (.ref d), .val (.ref f), .val (.long (((0 : Int64) + (f0.toInt64)) + (f1.toInt64))), .second, .val (.ref f), .val (.int (4 : Int32)), .val (.int (2 : Int32)), .val (.int f1)] [])) _
  refine Go.via (fun _ => XS.aload X122.here hx rfl (hb hby d6_34) rfl rfl) ?_
  refine Go.via (fun _ => XS.iload X122.here hx rfl (hb hby d6_36) rfl) ?_
  refine Go.via (ldI X122 hx hZ e122 f124 (v := f2) (by decide) rfl (g := (mkF m 38 #[.val (.ref a), .val (.ref d), .val (.ref f), .val (.long (((0 : Int64) + (f0.toInt64)) + (f1.toInt64))), .second, .val (.ref f), .val (.int (4 : Int32)), .val (.int (2 : Int32)), .val (.int f1)] [(.int (2 : Int32)), (.ref f)])) rfl rfl (hb hby d6_38)) ?_
  show Go p e below (T122.setTop (mkF m 39 #[.val (.ref a), .val (.ref d), .val (.ref f), .val (.long (((0 : Int64) + (f0.toInt64)) + (f1.toInt64))), .second, .val (.ref f), .val (.int (4 : Int32)), .val (.int (2 : Int32)), .val (.int f1)] [(.int f2)])) _
  refine Go.via (fun _ => XS.istore X122.here hx rfl (hb hby d6_39) rfl (l' := #[.val (.ref a), .val (.ref d), .val (.ref f), .val (.long (((0 : Int64) + (f0.toInt64)) + (f1.toInt64))), .second, .val (.ref f), .val (.int (4 : Int32)), .val (.int (2 : Int32)), .val (.int f2)]) rfl) ?_
  show Go p e below (T122.setTop (mkF m 41 #[.val (.ref a), .val (.ref d), .val (.ref f), .val (.long (((0 : Int64) + (f0.toInt64)) + (f1.toInt64))), .second, .val (.ref f), .val (.int (4 : Int32)), .val (.int (2 : Int32)), .val (.int f2)] [])) _
  refine Go.via (fun _ => XS.lloadN X122.here hx rfl (hb hby d6_41) rfl) ?_
  refine Go.via (fun _ => XS.iload X122.here hx rfl (hb hby d6_42) rfl) ?_
  refine Go.via (fun _ => XS.i2l X122.here hx rfl (hb hby d6_44) rfl) ?_
  show Go p e below (T122.setTop (mkF m 45 #[.val (.ref a), .val (.ref d), .val (.ref f), .val (.long (((0 : Int64) + (f0.toInt64)) + (f1.toInt64))), .second, .val (.ref f), .val (.int (4 : Int32)), .val (.int (2 : Int32)), .val (.int f2)] [(.long (f2.toInt64)), (.long (((0 : Int64) + (f0.toInt64)) + (f1.toInt64)))])) _
  refine Go.via (fun _ => XS.ladd X122.here hx rfl (hb hby d6_45) rfl) ?_
  show Go p e below (T122.setTop (mkF m 46 #[.val (.ref a), .val (.ref d), .val (.ref f), .val (.long (((0 : Int64) + (f0.toInt64)) + (f1.toInt64))), .second, .val (.ref f), .val (.int (4 : Int32)), .val (.int (2 : Int32)), .val (.int f2)] [(.long ((((0 : Int64) + (f0.toInt64)) + (f1.toInt64)) + (f2.toInt64)))])) _
  refine Go.via (fun _ => XS.lstoreN X122.here hx rfl (hb hby d6_46) rfl (l' := #[.val (.ref a), .val (.ref d), .val (.ref f), .val (.long ((((0 : Int64) + (f0.toInt64)) + (f1.toInt64)) + (f2.toInt64))), .second, .val (.ref f), .val (.int (4 : Int32)), .val (.int (2 : Int32)), .val (.int f2)]) rfl) ?_
  show Go p e below (T122.setTop (mkF m 47 #[.val (.ref a), .val (.ref d), .val (.ref f), .val (.long ((((0 : Int64) + (f0.toInt64)) + (f1.toInt64)) + (f2.toInt64))), .second, .val (.ref f), .val (.int (4 : Int32)), .val (.int (2 : Int32)), .val (.int f2)] [])) _
  refine Go.via (fun _ => XS.iinc X122.here hx rfl (hb hby d6_47) rfl (l' := #[.val (.ref a), .val (.ref d), .val (.ref f), .val (.long ((((0 : Int64) + (f0.toInt64)) + (f1.toInt64)) + (f2.toInt64))), .second, .val (.ref f), .val (.int (4 : Int32)), .val (.int (3 : Int32)), .val (.int f2)]) rfl) ?_
  show Go p e below (T122.setTop (mkF m 50 #[.val (.ref a), .val (.ref d), .val (.ref f), .val (.long ((((0 : Int64) + (f0.toInt64)) + (f1.toInt64)) + (f2.toInt64))), .second, .val (.ref f), .val (.int (4 : Int32)), .val (.int (3 : Int32)), .val (.int f2)] [])) _
  refine Go.via (fun _ => XS.goto X122.here hx rfl (pc0 := 50) (pc' := 27) rfl (hb hby d6_50) (by decide) (by decide)) ?_
  refine Go.via (fun _ => XS.iload X122.here hx rfl (hb hby d6_27) rfl) ?_
  refine Go.via (fun _ => XS.iload X122.here hx rfl (hb hby d6_29) rfl) ?_
  refine Go.via (fun _ => XS.icmpNo X122.here hx rfl (hb hby d6_31) rfl (tlt ((by decide) : (3 : Int32) < (4 : Int32))).2.1) ?_
  show Go p e below (T122.setTop (mkF m 34 #[.val (.ref a), .val (.ref d), .val (.ref f), .val (.long ((((0 : Int64) + (f0.toInt64)) + (f1.toInt64)) + (f2.toInt64))), .second, .val (.ref f), .val (.int (4 : Int32)), .val (.int (3 : Int32)), .val (.int f2)] [])) _
  refine Go.via (fun _ => XS.aload X122.here hx rfl (hb hby d6_34) rfl rfl) ?_
  refine Go.via (fun _ => XS.iload X122.here hx rfl (hb hby d6_36) rfl) ?_
  refine Go.via (ldI X122 hx hZ e122 f124 (v := f3) (by decide) rfl (g := (mkF m 38 #[.val (.ref a), .val (.ref d), .val (.ref f), .val (.long ((((0 : Int64) + (f0.toInt64)) + (f1.toInt64)) + (f2.toInt64))), .second, .val (.ref f), .val (.int (4 : Int32)), .val (.int (3 : Int32)), .val (.int f2)] [(.int (3 : Int32)), (.ref f)])) rfl rfl (hb hby d6_38)) ?_
  show Go p e below (T122.setTop (mkF m 39 #[.val (.ref a), .val (.ref d), .val (.ref f), .val (.long ((((0 : Int64) + (f0.toInt64)) + (f1.toInt64)) + (f2.toInt64))), .second, .val (.ref f), .val (.int (4 : Int32)), .val (.int (3 : Int32)), .val (.int f2)] [(.int f3)])) _
  refine Go.via (fun _ => XS.istore X122.here hx rfl (hb hby d6_39) rfl (l' := #[.val (.ref a), .val (.ref d), .val (.ref f), .val (.long ((((0 : Int64) + (f0.toInt64)) + (f1.toInt64)) + (f2.toInt64))), .second, .val (.ref f), .val (.int (4 : Int32)), .val (.int (3 : Int32)), .val (.int f3)]) rfl) ?_
  show Go p e below (T122.setTop (mkF m 41 #[.val (.ref a), .val (.ref d), .val (.ref f), .val (.long ((((0 : Int64) + (f0.toInt64)) + (f1.toInt64)) + (f2.toInt64))), .second, .val (.ref f), .val (.int (4 : Int32)), .val (.int (3 : Int32)), .val (.int f3)] [])) _
  refine Go.via (fun _ => XS.lloadN X122.here hx rfl (hb hby d6_41) rfl) ?_
  refine Go.via (fun _ => XS.iload X122.here hx rfl (hb hby d6_42) rfl) ?_
  refine Go.via (fun _ => XS.i2l X122.here hx rfl (hb hby d6_44) rfl) ?_
  show Go p e below (T122.setTop (mkF m 45 #[.val (.ref a), .val (.ref d), .val (.ref f), .val (.long ((((0 : Int64) + (f0.toInt64)) + (f1.toInt64)) + (f2.toInt64))), .second, .val (.ref f), .val (.int (4 : Int32)), .val (.int (3 : Int32)), .val (.int f3)] [(.long (f3.toInt64)), (.long ((((0 : Int64) + (f0.toInt64)) + (f1.toInt64)) + (f2.toInt64)))])) _
  refine Go.via (fun _ => XS.ladd X122.here hx rfl (hb hby d6_45) rfl) ?_
  show Go p e below (T122.setTop (mkF m 46 #[.val (.ref a), .val (.ref d), .val (.ref f), .val (.long ((((0 : Int64) + (f0.toInt64)) + (f1.toInt64)) + (f2.toInt64))), .second, .val (.ref f), .val (.int (4 : Int32)), .val (.int (3 : Int32)), .val (.int f3)] [(.long (((((0 : Int64) + (f0.toInt64)) + (f1.toInt64)) + (f2.toInt64)) + (f3.toInt64)))])) _
  refine Go.via (fun _ => XS.lstoreN X122.here hx rfl (hb hby d6_46) rfl (l' := #[.val (.ref a), .val (.ref d), .val (.ref f), .val (.long (((((0 : Int64) + (f0.toInt64)) + (f1.toInt64)) + (f2.toInt64)) + (f3.toInt64))), .second, .val (.ref f), .val (.int (4 : Int32)), .val (.int (3 : Int32)), .val (.int f3)]) rfl) ?_
  show Go p e below (T122.setTop (mkF m 47 #[.val (.ref a), .val (.ref d), .val (.ref f), .val (.long (((((0 : Int64) + (f0.toInt64)) + (f1.toInt64)) + (f2.toInt64)) + (f3.toInt64))), .second, .val (.ref f), .val (.int (4 : Int32)), .val (.int (3 : Int32)), .val (.int f3)] [])) _
  refine Go.via (fun _ => XS.iinc X122.here hx rfl (hb hby d6_47) rfl (l' := #[.val (.ref a), .val (.ref d), .val (.ref f), .val (.long (((((0 : Int64) + (f0.toInt64)) + (f1.toInt64)) + (f2.toInt64)) + (f3.toInt64))), .second, .val (.ref f), .val (.int (4 : Int32)), .val (.int (4 : Int32)), .val (.int f3)]) rfl) ?_
  show Go p e below (T122.setTop (mkF m 50 #[.val (.ref a), .val (.ref d), .val (.ref f), .val (.long (((((0 : Int64) + (f0.toInt64)) + (f1.toInt64)) + (f2.toInt64)) + (f3.toInt64))), .second, .val (.ref f), .val (.int (4 : Int32)), .val (.int (4 : Int32)), .val (.int f3)] [])) _
  refine Go.via (fun _ => XS.goto X122.here hx rfl (pc0 := 50) (pc' := 27) rfl (hb hby d6_50) (by decide) (by decide)) ?_
  refine Go.via (fun _ => XS.iload X122.here hx rfl (hb hby d6_27) rfl) ?_
  refine Go.via (fun _ => XS.iload X122.here hx rfl (hb hby d6_29) rfl) ?_
  refine Go.via (fun _ => XS.icmpYes X122.here hx rfl (pc0 := 31) (pc' := 53) rfl (hb hby d6_31) rfl (flt ((by decide) : ¬ ((4 : Int32) < (4 : Int32)))).2.1 (by decide) (by decide)) ?_
  show Go p e below (T122.setTop (mkF m 53 #[.val (.ref a), .val (.ref d), .val (.ref f), .val (.long (((((0 : Int64) + (f0.toInt64)) + (f1.toInt64)) + (f2.toInt64)) + (f3.toInt64))), .second, .val (.ref f), .val (.int (4 : Int32)), .val (.int (4 : Int32)), .val (.int f3)] [])) _
  refine Go.via (fun _ => XS.aloadN X122.here hx rfl (hb hby d6_53) rfl rfl) ?_
  refine Go.via (fun _ => XS.lloadN X122.here hx rfl (hb hby d6_54) rfl) ?_
  have f125 : Fld Z h122 a "com/example/libcosearch/libcosearch/PostingList" "collectionFrequency" "J" (.long (0 : Int64)) := ((P3.other W118 (Or.inr (slot_ne (Or.inr (tw hw 46 rfl)) (Or.inr (tw hw 42 rfl)) (by decide) (t := .long) (t' := (.array .int)) (by decide) (by decide)))).other W122 (Or.inr (slot_ne (Or.inr (tw hw 46 rfl)) (Or.inr (tw hw 44 rfl)) (by decide) (t := .long) (t' := (.array .int)) (by decide) (by decide))))
  have f126 : Exa Z h122 a "com/example/libcosearch/libcosearch/PostingList" := (f121.wr W122)
  obtain ⟨T127, h127, X127, e127, W127, st127⟩ := putF X122 hx hZ hown (host := "") (Or.inl (tw hw 45 rfl)) Via.refl e122 f125 f126 (Or.inr ⟨(tw hw 46 rfl), rfl, hnm⟩) (tw hw 21 rfl) (ty := .long) (by decide) rfl rfl (g := (mkF m 55 #[.val (.ref a), .val (.ref d), .val (.ref f), .val (.long (((((0 : Int64) + (f0.toInt64)) + (f1.toInt64)) + (f2.toInt64)) + (f3.toInt64))), .second, .val (.ref f), .val (.int (4 : Int32)), .val (.int (4 : Int32)), .val (.int f3)] [(.long (((((0 : Int64) + (f0.toInt64)) + (f1.toInt64)) + (f2.toInt64)) + (f3.toInt64))), (.ref a)])) rfl rfl (hb hby d6_55)
  refine Go.via (st127) ?_
  clear st127
  have N127 := Fr.snoc X127 N122 g_a
  have f128 : Fld Z h127 a "com/example/libcosearch/libcosearch/PostingList" "collectionFrequency" "J" (.long (((((0 : Int64) + (f0.toInt64)) + (f1.toInt64)) + (f2.toInt64)) + (f3.toInt64))) := f125.same W127
  clear X122 e122
  show Go p e below (T127.setTop (mkF m 58 #[.val (.ref a), .val (.ref d), .val (.ref f), .val (.long (((((0 : Int64) + (f0.toInt64)) + (f1.toInt64)) + (f2.toInt64)) + (f3.toInt64))), .second, .val (.ref f), .val (.int (4 : Int32)), .val (.int (4 : Int32)), .val (.int f3)] [])) _
  have k129 : Keep h0 h127 [a] := ((((Keep.refl h0 [a]).wr W118 (Or.inl (List.mem_of_getElem? (i := 0) rfl))).wr W122 (Or.inl (List.mem_of_getElem? (i := 0) rfl))).wr W127 (Or.inl (List.mem_of_getElem? (i := 0) rfl)))
  have f130 : Exa Z h127 a "com/example/libcosearch/libcosearch/PostingList" := (f126.wr W127)
  have f131 : Fld Z h127 a "com/example/libcosearch/libcosearch/PostingList" "documents" "[I" (.ref d) := ((f119.other W122 (Or.inr (slot_ne (Or.inr (tw hw 42 rfl)) (Or.inr (tw hw 44 rfl)) (by decide) (t := (.array .int)) (t' := (.array .int)) (by decide) (by decide)))).other W127 (Or.inr (slot_ne (Or.inr (tw hw 42 rfl)) (Or.inr (tw hw 46 rfl)) (by decide) (t := (.array .int)) (t' := .long) (by decide) (by decide))))
  have f132 : Fld Z h127 a "com/example/libcosearch/libcosearch/PostingList" "frequencies" "[I" (.ref f) := (f123.other W127 (Or.inr (slot_ne (Or.inr (tw hw 44 rfl)) (Or.inr (tw hw 46 rfl)) (by decide) (t := (.array .int)) (t' := .long) (by decide) (by decide))))
  exact Go.fin X127 hlk (v := none) (fun _ => rfl) (fun fs hr => X127.returnOut hx Bd.returns (hb hby d6_58) hr) (by rw [e127]; exact ⟨rfl, N127, k129, f130, f131, f132, f128⟩) (by decide) (by decide)
def Q_rmI5 (Z : State) (a : Addr) (d : Addr) (f : Addr) (f0 : Int32) (f1 : Int32) (f2 : Int32) (f3 : Int32) (f4 : Int32) (h0 : Heap) (n0 : Nat) (vQ : Option Value) (hQ : Heap) (LQ : List Loc) : Prop := vQ = none ∧ Fr n0 LQ ∧ Keep h0 hQ [a] ∧ Exa Z hQ a "com/example/libcosearch/libcosearch/PostingList" ∧ Fld Z hQ a "com/example/libcosearch/libcosearch/PostingList" "documents" "[I" (.ref d) ∧ Fld Z hQ a "com/example/libcosearch/libcosearch/PostingList" "frequencies" "[I" (.ref f) ∧ Fld Z hQ a "com/example/libcosearch/libcosearch/PostingList" "collectionFrequency" "J" (.long ((((((0 : Int64) + (f0.toInt64)) + (f1.toInt64)) + (f2.toInt64)) + (f3.toInt64)) + (f4.toInt64)))
set_option maxRecDepth 65536 in
set_option maxHeartbeats 40000000 in
theorem rmI5 (l : Launch) (Z : State) (a0 : Array Value) (hw : ∀ d ∈ tables_1, d.before a0 Z = true) (ws : List Jvm.Cond) (a : Addr) (d : Addr) (f : Addr) (f0 : Int32) (f1 : Int32) (f2 : Int32) (f3 : Int32) (f4 : Int32) (h0 : Heap) (n0 : Nat) (Z0 : n0 ≤ h0.size) (P0 : Exa Z h0 a "com/example/libcosearch/libcosearch/PostingList") (P1 : Fld Z h0 a "com/example/libcosearch/libcosearch/PostingList" "documents" "[I" .null) (P2 : Fld Z h0 a "com/example/libcosearch/libcosearch/PostingList" "frequencies" "[I" .null) (P3 : Fld Z h0 a "com/example/libcosearch/libcosearch/PostingList" "collectionFrequency" "J" (.long (0 : Int64))) (P4 : Ia Z h0 f .int [f0, f1, f2, f3, f4]) (g_a : n0 ≤ a) (haf : a ≠ f) :
    MetFree l (⟨"com/example/libcosearch/libcosearch/PostingList", "<init>", "([I[I)V"⟩ : MethodName) (head1 (Jvm.Cond.code (⟨"com/example/libcosearch/libcosearch/PostingList", "<init>", "([I[I)V"⟩ : MethodName) prog_23_method_1_code 9 none :: ws) ({ frames := 1, cells := 0, slots := 0, locals := 12 } : Room)) (fun aQ UQ => aQ = #[(.ref a), (.ref d), (.ref f)] ∧ Z.Warmed39 UQ.vm ∧ UQ.heap = h0) (fun _ _ _ _ _ => True) (fun _ UQ oQ UR => ∃ vQ LQ, oQ = .returned vQ ∧ Q_rmI5 Z a d f f0 f1 f2 f3 f4 h0 n0 vQ UR.heap LQ ∧ FrameEnd UQ oQ UR LQ ({ frames := 1, cells := 0, slots := 0, locals := 12 } : Room).cells ({ frames := 1, cells := 0, slots := 0, locals := 12 } : Room).slots) := by
  refine MetFree.of_bodySF (plainFor_of_name pn_6) hisR ?_
  intro p e s m args below meth c s₁ Bd hml0 hP hK
  obtain ⟨rfl, hZ, hh⟩ := hP
  have hx := Bd.exec
  have hby := Bd.bytes
  have hlk := Bd.notSynchronized
  have hml : c.maxLocals = 9 := hml0
  have hown : s.vm.findClass "com/example/libcosearch/libcosearch/PostingList" = some m.cls := findClass_of_methodNamed Bd.named
  have hnm := (name_of_methodNamed Bd.named Bd.method).1
  have X0 : Stand p l e ({ frames := 1, cells := 0, slots := 0, locals := 12 } : Room) s m #[(.ref a), (.ref d), (.ref f)] below meth c s₁ [] 0 0 := Stand.of_body Bd
  have e0 : s₁.heap = h0 := by rw [← hh, Bd.state]; rfl
  have N0 := Fr.nil n0
  show Go p e below _ (Done s (Q_rmI5 Z a d f f0 f1 f2 f3 f4 h0 n0) ({ frames := 1, cells := 0, slots := 0, locals := 12 } : Room).cells ({ frames := 1, cells := 0, slots := 0, locals := 12 } : Room).slots)
  refine Go.via (fun tQ kQ => castTop (ef_6 m a d f) kQ) ?_
  show Go p e below (s₁.setTop (mkF m 0 #[.val (.ref a), .val (.ref d), .val (.ref f), .unset, .unset, .unset, .unset, .unset, .unset] [])) _
  refine Go.via (fun _ => XS.aloadN X0.here hx rfl (hb hby d6_0) rfl rfl) ?_
  obtain ⟨T133, X133, e133, st133⟩ := initO X0 hx hZ hown (tw hw 40 rfl) (tw hw 8 rfl) (tw hw 9 rfl) e0 (g := (mkF m 1 #[.val (.ref a), .val (.ref d), .val (.ref f), .unset, .unset, .unset, .unset, .unset, .unset] [(.ref a)])) rfl (by rw [hml]; rfl) rfl (hb hby d6_1) (by decide) (W := 0) (by show 2 * 0 + _ ≤ _; exact Nat.le_of_eq rfl) (by decide)
  refine Go.via (st133) ?_
  clear st133
  clear X0 e0
  show Go p e below (T133.setTop (mkF m 4 #[.val (.ref a), .val (.ref d), .val (.ref f), .unset, .unset, .unset, .unset, .unset, .unset] [])) _
  refine Go.via (fun _ => XS.aloadN X133.here hx rfl (hb hby d6_4) rfl rfl) ?_
  refine Go.via (fun _ => XS.aloadN X133.here hx rfl (hb hby d6_5) rfl rfl) ?_
  obtain ⟨T134, h134, X134, e134, W134, st134⟩ := putF X133 hx hZ hown (host := "") (Or.inl (tw hw 41 rfl)) Via.refl e133 P1 P0 (Or.inr ⟨(tw hw 42 rfl), rfl, hnm⟩) (tw hw 21 rfl) (ty := (.array .int)) (by decide) rfl rfl (g := (mkF m 6 #[.val (.ref a), .val (.ref d), .val (.ref f), .unset, .unset, .unset, .unset, .unset, .unset] [(.ref d), (.ref a)])) rfl rfl (hb hby d6_6)
  refine Go.via (st134) ?_
  clear st134
  have N134 := Fr.snoc X134 N0 g_a
  have f135 : Fld Z h134 a "com/example/libcosearch/libcosearch/PostingList" "documents" "[I" (.ref d) := P1.same W134
  clear X133 e133
  show Go p e below (T134.setTop (mkF m 9 #[.val (.ref a), .val (.ref d), .val (.ref f), .unset, .unset, .unset, .unset, .unset, .unset] [])) _
  refine Go.via (fun _ => XS.aloadN X134.here hx rfl (hb hby d6_9) rfl rfl) ?_
  refine Go.via (fun _ => XS.aloadN X134.here hx rfl (hb hby d6_10) rfl rfl) ?_
  have f136 : Fld Z h134 a "com/example/libcosearch/libcosearch/PostingList" "frequencies" "[I" .null := (P2.other W134 (Or.inr (slot_ne (Or.inr (tw hw 44 rfl)) (Or.inr (tw hw 42 rfl)) (by decide) (t := (.array .int)) (t' := (.array .int)) (by decide) (by decide))))
  have f137 : Exa Z h134 a "com/example/libcosearch/libcosearch/PostingList" := (P0.wr W134)
  obtain ⟨T138, h138, X138, e138, W138, st138⟩ := putF X134 hx hZ hown (host := "") (Or.inl (tw hw 43 rfl)) Via.refl e134 f136 f137 (Or.inr ⟨(tw hw 44 rfl), rfl, hnm⟩) (tw hw 21 rfl) (ty := (.array .int)) (by decide) rfl rfl (g := (mkF m 11 #[.val (.ref a), .val (.ref d), .val (.ref f), .unset, .unset, .unset, .unset, .unset, .unset] [(.ref f), (.ref a)])) rfl rfl (hb hby d6_11)
  refine Go.via (st138) ?_
  clear st138
  have N138 := Fr.snoc X138 N134 g_a
  have f139 : Fld Z h138 a "com/example/libcosearch/libcosearch/PostingList" "frequencies" "[I" (.ref f) := f136.same W138
  clear X134 e134
  show Go p e below (T138.setTop (mkF m 14 #[.val (.ref a), .val (.ref d), .val (.ref f), .unset, .unset, .unset, .unset, .unset, .unset] [])) _
  refine Go.via (fun _ => XS.lconst X138.here hx rfl (hb hby d6_14)) ?_
  refine Go.via (fun _ => XS.lstoreN X138.here hx rfl (hb hby d6_15) rfl (l' := #[.val (.ref a), .val (.ref d), .val (.ref f), .val (.long (0 : Int64)), .second, .unset, .unset, .unset, .unset]) rfl) ?_
  show Go p e below (T138.setTop (mkF m 16 #[.val (.ref a), .val (.ref d), .val (.ref f), .val (.long (0 : Int64)), .second, .unset, .unset, .unset, .unset] [])) _
  refine Go.via (fun _ => XS.aloadN X138.here hx rfl (hb hby d6_16) rfl rfl) ?_
  refine Go.via (fun _ => XS.astore X138.here hx rfl (hb hby d6_17) rfl rfl (l' := #[.val (.ref a), .val (.ref d), .val (.ref f), .val (.long (0 : Int64)), .second, .val (.ref f), .unset, .unset, .unset]) rfl) ?_
  show Go p e below (T138.setTop (mkF m 19 #[.val (.ref a), .val (.ref d), .val (.ref f), .val (.long (0 : Int64)), .second, .val (.ref f), .unset, .unset, .unset] [])) _
  refine Go.via (fun _ => XS.aload X138.here hx rfl (hb hby d6_19) rfl rfl) ?_
  have f140 : Ia Z h138 f .int [f0, f1, f2, f3, f4] := ((P4.other W134 (Ne.symm haf)).other W138 (Ne.symm haf))
  refine Go.via (lenI X138 hx hZ e138 f140 (n := (5 : Int32)) rfl (g := (mkF m 21 #[.val (.ref a), .val (.ref d), .val (.ref f), .val (.long (0 : Int64)), .second, .val (.ref f), .unset, .unset, .unset] [(.ref f)])) rfl rfl (hb hby d6_21)) ?_
  show Go p e below (T138.setTop (mkF m 22 #[.val (.ref a), .val (.ref d), .val (.ref f), .val (.long (0 : Int64)), .second, .val (.ref f), .unset, .unset, .unset] [(.int (5 : Int32))])) _
  refine Go.via (fun _ => XS.istore X138.here hx rfl (hb hby d6_22) rfl (l' := #[.val (.ref a), .val (.ref d), .val (.ref f), .val (.long (0 : Int64)), .second, .val (.ref f), .val (.int (5 : Int32)), .unset, .unset]) rfl) ?_
  show Go p e below (T138.setTop (mkF m 24 #[.val (.ref a), .val (.ref d), .val (.ref f), .val (.long (0 : Int64)), .second, .val (.ref f), .val (.int (5 : Int32)), .unset, .unset] [])) _
  refine Go.via (fun _ => XS.iconst X138.here hx rfl (hb hby d6_24)) ?_
  refine Go.via (fun _ => XS.istore X138.here hx rfl (hb hby d6_25) rfl (l' := #[.val (.ref a), .val (.ref d), .val (.ref f), .val (.long (0 : Int64)), .second, .val (.ref f), .val (.int (5 : Int32)), .val (.int (0 : Int32)), .unset]) rfl) ?_
  show Go p e below (T138.setTop (mkF m 27 #[.val (.ref a), .val (.ref d), .val (.ref f), .val (.long (0 : Int64)), .second, .val (.ref f), .val (.int (5 : Int32)), .val (.int (0 : Int32)), .unset] [])) _
  refine Go.via (fun _ => XS.iload X138.here hx rfl (hb hby d6_27) rfl) ?_
  refine Go.via (fun _ => XS.iload X138.here hx rfl (hb hby d6_29) rfl) ?_
  refine Go.via (fun _ => XS.icmpNo X138.here hx rfl (hb hby d6_31) rfl (tlt ((by decide) : (0 : Int32) < (5 : Int32))).2.1) ?_
  show Go p e below (T138.setTop (mkF m 34 #[.val (.ref a), .val (.ref d), .val (.ref f), .val (.long (0 : Int64)), .second, .val (.ref f), .val (.int (5 : Int32)), .val (.int (0 : Int32)), .unset] [])) _
  refine Go.via (fun _ => XS.aload X138.here hx rfl (hb hby d6_34) rfl rfl) ?_
  refine Go.via (fun _ => XS.iload X138.here hx rfl (hb hby d6_36) rfl) ?_
  refine Go.via (ldI X138 hx hZ e138 f140 (v := f0) (by decide) rfl (g := (mkF m 38 #[.val (.ref a), .val (.ref d), .val (.ref f), .val (.long (0 : Int64)), .second, .val (.ref f), .val (.int (5 : Int32)), .val (.int (0 : Int32)), .unset] [(.int (0 : Int32)), (.ref f)])) rfl rfl (hb hby d6_38)) ?_
  show Go p e below (T138.setTop (mkF m 39 #[.val (.ref a), .val (.ref d), .val (.ref f), .val (.long (0 : Int64)), .second, .val (.ref f), .val (.int (5 : Int32)), .val (.int (0 : Int32)), .unset] [(.int f0)])) _
  refine Go.via (fun _ => XS.istore X138.here hx rfl (hb hby d6_39) rfl (l' := #[.val (.ref a), .val (.ref d), .val (.ref f), .val (.long (0 : Int64)), .second, .val (.ref f), .val (.int (5 : Int32)), .val (.int (0 : Int32)), .val (.int f0)]) rfl) ?_
  show Go p e below (T138.setTop (mkF m 41 #[.val (.ref a), .val (.ref d), .val (.ref f), .val (.long (0 : Int64)), .second, .val (.ref f), .val (.int (5 : Int32)), .val (.int (0 : Int32)), .val (.int f0)] [])) _
  refine Go.via (fun _ => XS.lloadN X138.here hx rfl (hb hby d6_41) rfl) ?_
  refine Go.via (fun _ => XS.iload X138.here hx rfl (hb hby d6_42) rfl) ?_
  refine Go.via (fun _ => XS.i2l X138.here hx rfl (hb hby d6_44) rfl) ?_
  show Go p e below (T138.setTop (mkF m 45 #[.val (.ref a), .val (.ref d), .val (.ref f), .val (.long (0 : Int64)), .second, .val (.ref f), .val (.int (5 : Int32)), .val (.int (0 : Int32)), .val (.int f0)] [(.long (f0.toInt64)), (.long (0 : Int64))])) _
  refine Go.via (fun _ => XS.ladd X138.here hx rfl (hb hby d6_45) rfl) ?_
  show Go p e below (T138.setTop (mkF m 46 #[.val (.ref a), .val (.ref d), .val (.ref f), .val (.long (0 : Int64)), .second, .val (.ref f), .val (.int (5 : Int32)), .val (.int (0 : Int32)), .val (.int f0)] [(.long ((0 : Int64) + (f0.toInt64)))])) _
  refine Go.via (fun _ => XS.lstoreN X138.here hx rfl (hb hby d6_46) rfl (l' := #[.val (.ref a), .val (.ref d), .val (.ref f), .val (.long ((0 : Int64) + (f0.toInt64))), .second, .val (.ref f), .val (.int (5 : Int32)), .val (.int (0 : Int32)), .val (.int f0)]) rfl) ?_
  show Go p e below (T138.setTop (mkF m 47 #[.val (.ref a), .val (.ref d), .val (.ref f), .val (.long ((0 : Int64) + (f0.toInt64))), .second, .val (.ref f), .val (.int (5 : Int32)), .val (.int (0 : Int32)), .val (.int f0)] [])) _
  refine Go.via (fun _ => XS.iinc X138.here hx rfl (hb hby d6_47) rfl (l' := #[.val (.ref a), .val (.ref d), .val (.ref f), .val (.long ((0 : Int64) + (f0.toInt64))), .second, .val (.ref f), .val (.int (5 : Int32)), .val (.int (1 : Int32)), .val (.int f0)]) rfl) ?_
  show Go p e below (T138.setTop (mkF m 50 #[.val (.ref a), .val (.ref d), .val (.ref f), .val (.long ((0 : Int64) + (f0.toInt64))), .second, .val (.ref f), .val (.int (5 : Int32)), .val (.int (1 : Int32)), .val (.int f0)] [])) _
  refine Go.via (fun _ => XS.goto X138.here hx rfl (pc0 := 50) (pc' := 27) rfl (hb hby d6_50) (by decide) (by decide)) ?_
  refine Go.via (fun _ => XS.iload X138.here hx rfl (hb hby d6_27) rfl) ?_
  refine Go.via (fun _ => XS.iload X138.here hx rfl (hb hby d6_29) rfl) ?_
  refine Go.via (fun _ => XS.icmpNo X138.here hx rfl (hb hby d6_31) rfl (tlt ((by decide) : (1 : Int32) < (5 : Int32))).2.1) ?_
  show Go p e below (T138.setTop (mkF m 34 #[.val (.ref a), .val (.ref d), .val (.ref f), .val (.long ((0 : Int64) + (f0.toInt64))), .second, .val (.ref f), .val (.int (5 : Int32)), .val (.int (1 : Int32)), .val (.int f0)] [])) _
  refine Go.via (fun _ => XS.aload X138.here hx rfl (hb hby d6_34) rfl rfl) ?_
  refine Go.via (fun _ => XS.iload X138.here hx rfl (hb hby d6_36) rfl) ?_
  refine Go.via (ldI X138 hx hZ e138 f140 (v := f1) (by decide) rfl (g := (mkF m 38 #[.val (.ref a), .val (.ref d), .val (.ref f), .val (.long ((0 : Int64) + (f0.toInt64))), .second, .val (.ref f), .val (.int (5 : Int32)), .val (.int (1 : Int32)), .val (.int f0)] [(.int (1 : Int32)), (.ref f)])) rfl rfl (hb hby d6_38)) ?_
  show Go p e below (T138.setTop (mkF m 39 #[.val (.ref a), .val (.ref d), .val (.ref f), .val (.long ((0 : Int64) + (f0.toInt64))), .second, .val (.ref f), .val (.int (5 : Int32)), .val (.int (1 : Int32)), .val (.int f0)] [(.int f1)])) _
  refine Go.via (fun _ => XS.istore X138.here hx rfl (hb hby d6_39) rfl (l' := #[.val (.ref a), .val (.ref d), .val (.ref f), .val (.long ((0 : Int64) + (f0.toInt64))), .second, .val (.ref f), .val (.int (5 : Int32)), .val (.int (1 : Int32)), .val (.int f1)]) rfl) ?_
  show Go p e below (T138.setTop (mkF m 41 #[.val (.ref a), .val (.ref d), .val (.ref f), .val (.long ((0 : Int64) + (f0.toInt64))), .second, .val (.ref f), .val (.int (5 : Int32)), .val (.int (1 : Int32)), .val (.int f1)] [])) _
  refine Go.via (fun _ => XS.lloadN X138.here hx rfl (hb hby d6_41) rfl) ?_
  refine Go.via (fun _ => XS.iload X138.here hx rfl (hb hby d6_42) rfl) ?_
  refine Go.via (fun _ => XS.i2l X138.here hx rfl (hb hby d6_44) rfl) ?_
  show Go p e below (T138.setTop (mkF m 45 #[.val (.ref a), .val (.ref d), .val (.ref f), .val (.long ((0 : Int64) + (f0.toInt64))), .second, .val (.ref f), .val (.int (5 : Int32)), .val (.int (1 : Int32)), .val (.int f1)] [(.long (f1.toInt64)), (.long ((0 : Int64) + (f0.toInt64)))])) _
  refine Go.via (fun _ => XS.ladd X138.here hx rfl (hb hby d6_45) rfl) ?_
  show Go p e below (T138.setTop (mkF m 46 #[.val (.ref a), .val (.ref d), .val (.ref f), .val (.long ((0 : Int64) + (f0.toInt64))), .second, .val (.ref f), .val (.int (5 : Int32)), .val (.int (1 : Int32)), .val (.int f1)] [(.long (((0 : Int64) + (f0.toInt64)) + (f1.toInt64)))])) _
  refine Go.via (fun _ => XS.lstoreN X138.here hx rfl (hb hby d6_46) rfl (l' := #[.val (.ref a), .val (.ref d), .val (.ref f), .val (.long (((0 : Int64) + (f0.toInt64)) + (f1.toInt64))), .second, .val (.ref f), .val (.int (5 : Int32)), .val (.int (1 : Int32)), .val (.int f1)]) rfl) ?_
  show Go p e below (T138.setTop (mkF m 47 #[.val (.ref a), .val (.ref d), .val (.ref f), .val (.long (((0 : Int64) + (f0.toInt64)) + (f1.toInt64))), .second, .val (.ref f), .val (.int (5 : Int32)), .val (.int (1 : Int32)), .val (.int f1)] [])) _
  refine Go.via (fun _ => XS.iinc X138.here hx rfl (hb hby d6_47) rfl (l' := #[.val (.ref a), .val (.ref d), .val (.ref f), .val (.long (((0 : Int64) + (f0.toInt64)) + (f1.toInt64))), .second, .val (.ref f), .val (.int (5 : Int32)), .val (.int (2 : Int32)), .val (.int f1)]) rfl) ?_
  show Go p e below (T138.setTop (mkF m 50 #[.val (.ref a), .val (.ref d), .val (.ref f), .val (.long (((0 : Int64) + (f0.toInt64)) + (f1.toInt64))), .second, .val (.ref f), .val (.int (5 : Int32)), .val (.int (2 : Int32)), .val (.int f1)] [])) _
  refine Go.via (fun _ => XS.goto X138.here hx rfl (pc0 := 50) (pc' := 27) rfl (hb hby d6_50) (by decide) (by decide)) ?_
  refine Go.via (fun _ => XS.iload X138.here hx rfl (hb hby d6_27) rfl) ?_
  refine Go.via (fun _ => XS.iload X138.here hx rfl (hb hby d6_29) rfl) ?_
  refine Go.via (fun _ => XS.icmpNo X138.here hx rfl (hb hby d6_31) rfl (tlt ((by decide) : (2 : Int32) < (5 : Int32))).2.1) ?_
  show Go p e below (T138.setTop (mkF m 34 #[.val (.ref a), .val (.ref d), .val (.ref f), .val (.long (((0 : Int64) + (f0.toInt64)) + (f1.toInt64))), .second, .val (.ref f), .val (.int (5 : Int32)), .val (.int (2 : Int32)), .val (.int f1)] [])) _
  refine Go.via (fun _ => XS.aload X138.here hx rfl (hb hby d6_34) rfl rfl) ?_
  refine Go.via (fun _ => XS.iload X138.here hx rfl (hb hby d6_36) rfl) ?_
  refine Go.via (ldI X138 hx hZ e138 f140 (v := f2) (by decide) rfl (g := (mkF m 38 #[.val (.ref a), .val (.ref d), .val (.ref f), .val (.long (((0 : Int64) + (f0.toInt64)) + (f1.toInt64))), .second, .val (.ref f), .val (.int (5 : Int32)), .val (.int (2 : Int32)), .val (.int f1)] [(.int (2 : Int32)), (.ref f)])) rfl rfl (hb hby d6_38)) ?_
  show Go p e below (T138.setTop (mkF m 39 #[.val (.ref a), .val (.ref d), .val (.ref f), .val (.long (((0 : Int64) + (f0.toInt64)) + (f1.toInt64))), .second, .val (.ref f), .val (.int (5 : Int32)), .val (.int (2 : Int32)), .val (.int f1)] [(.int f2)])) _
  refine Go.via (fun _ => XS.istore X138.here hx rfl (hb hby d6_39) rfl (l' := #[.val (.ref a), .val (.ref d), .val (.ref f), .val (.long (((0 : Int64) + (f0.toInt64)) + (f1.toInt64))), .second, .val (.ref f), .val (.int (5 : Int32)), .val (.int (2 : Int32)), .val (.int f2)]) rfl) ?_
  show Go p e below (T138.setTop (mkF m 41 #[.val (.ref a), .val (.ref d), .val (.ref f), .val (.long (((0 : Int64) + (f0.toInt64)) + (f1.toInt64))), .second, .val (.ref f), .val (.int (5 : Int32)), .val (.int (2 : Int32)), .val (.int f2)] [])) _
  refine Go.via (fun _ => XS.lloadN X138.here hx rfl (hb hby d6_41) rfl) ?_
  refine Go.via (fun _ => XS.iload X138.here hx rfl (hb hby d6_42) rfl) ?_
  refine Go.via (fun _ => XS.i2l X138.here hx rfl (hb hby d6_44) rfl) ?_
  show Go p e below (T138.setTop (mkF m 45 #[.val (.ref a), .val (.ref d), .val (.ref f), .val (.long (((0 : Int64) + (f0.toInt64)) + (f1.toInt64))), .second, .val (.ref f), .val (.int (5 : Int32)), .val (.int (2 : Int32)), .val (.int f2)] [(.long (f2.toInt64)), (.long (((0 : Int64) + (f0.toInt64)) + (f1.toInt64)))])) _
  refine Go.via (fun _ => XS.ladd X138.here hx rfl (hb hby d6_45) rfl) ?_
  show Go p e below (T138.setTop (mkF m 46 #[.val (.ref a), .val (.ref d), .val (.ref f), .val (.long (((0 : Int64) + (f0.toInt64)) + (f1.toInt64))), .second, .val (.ref f), .val (.int (5 : Int32)), .val (.int (2 : Int32)), .val (.int f2)] [(.long ((((0 : Int64) + (f0.toInt64)) + (f1.toInt64)) + (f2.toInt64)))])) _
  refine Go.via (fun _ => XS.lstoreN X138.here hx rfl (hb hby d6_46) rfl (l' := #[.val (.ref a), .val (.ref d), .val (.ref f), .val (.long ((((0 : Int64) + (f0.toInt64)) + (f1.toInt64)) + (f2.toInt64))), .second, .val (.ref f), .val (.int (5 : Int32)), .val (.int (2 : Int32)), .val (.int f2)]) rfl) ?_
  show Go p e below (T138.setTop (mkF m 47 #[.val (.ref a), .val (.ref d), .val (.ref f), .val (.long ((((0 : Int64) + (f0.toInt64)) + (f1.toInt64)) + (f2.toInt64))), .second, .val (.ref f), .val (.int (5 : Int32)), .val (.int (2 : Int32)), .val (.int f2)] [])) _
  refine Go.via (fun _ => XS.iinc X138.here hx rfl (hb hby d6_47) rfl (l' := #[.val (.ref a), .val (.ref d), .val (.ref f), .val (.long ((((0 : Int64) + (f0.toInt64)) + (f1.toInt64)) + (f2.toInt64))), .second, .val (.ref f), .val (.int (5 : Int32)), .val (.int (3 : Int32)), .val (.int f2)]) rfl) ?_
  show Go p e below (T138.setTop (mkF m 50 #[.val (.ref a), .val (.ref d), .val (.ref f), .val (.long ((((0 : Int64) + (f0.toInt64)) + (f1.toInt64)) + (f2.toInt64))), .second, .val (.ref f), .val (.int (5 : Int32)), .val (.int (3 : Int32)), .val (.int f2)] [])) _
  refine Go.via (fun _ => XS.goto X138.here hx rfl (pc0 := 50) (pc' := 27) rfl (hb hby d6_50) (by decide) (by decide)) ?_
  refine Go.via (fun _ => XS.iload X138.here hx rfl (hb hby d6_27) rfl) ?_
  refine Go.via (fun _ => XS.iload X138.here hx rfl (hb hby d6_29) rfl) ?_
  refine Go.via (fun _ => XS.icmpNo X138.here hx rfl (hb hby d6_31) rfl (tlt ((by decide) : (3 : Int32) < (5 : Int32))).2.1) ?_
  show Go p e below (T138.setTop (mkF m 34 #[.val (.ref a), .val (.ref d), .val (.ref f), .val (.long ((((0 : Int64) + (f0.toInt64)) + (f1.toInt64)) + (f2.toInt64))), .second, .val (.ref f), .val (.int (5 : Int32)), .val (.int (3 : Int32)), .val (.int f2)] [])) _
  refine Go.via (fun _ => XS.aload X138.here hx rfl (hb hby d6_34) rfl rfl) ?_
  refine Go.via (fun _ => XS.iload X138.here hx rfl (hb hby d6_36) rfl) ?_
  refine Go.via (ldI X138 hx hZ e138 f140 (v := f3) (by decide) rfl (g := (mkF m 38 #[.val (.ref a), .val (.ref d), .val (.ref f), .val (.long ((((0 : Int64) + (f0.toInt64)) + (f1.toInt64)) + (f2.toInt64))), .second, .val (.ref f), .val (.int (5 : Int32)), .val (.int (3 : Int32)), .val (.int f2)] [(.int (3 : Int32)), (.ref f)])) rfl rfl (hb hby d6_38)) ?_
  show Go p e below (T138.setTop (mkF m 39 #[.val (.ref a), .val (.ref d), .val (.ref f), .val (.long ((((0 : Int64) + (f0.toInt64)) + (f1.toInt64)) + (f2.toInt64))), .second, .val (.ref f), .val (.int (5 : Int32)), .val (.int (3 : Int32)), .val (.int f2)] [(.int f3)])) _
  refine Go.via (fun _ => XS.istore X138.here hx rfl (hb hby d6_39) rfl (l' := #[.val (.ref a), .val (.ref d), .val (.ref f), .val (.long ((((0 : Int64) + (f0.toInt64)) + (f1.toInt64)) + (f2.toInt64))), .second, .val (.ref f), .val (.int (5 : Int32)), .val (.int (3 : Int32)), .val (.int f3)]) rfl) ?_
  show Go p e below (T138.setTop (mkF m 41 #[.val (.ref a), .val (.ref d), .val (.ref f), .val (.long ((((0 : Int64) + (f0.toInt64)) + (f1.toInt64)) + (f2.toInt64))), .second, .val (.ref f), .val (.int (5 : Int32)), .val (.int (3 : Int32)), .val (.int f3)] [])) _
  refine Go.via (fun _ => XS.lloadN X138.here hx rfl (hb hby d6_41) rfl) ?_
  refine Go.via (fun _ => XS.iload X138.here hx rfl (hb hby d6_42) rfl) ?_
  refine Go.via (fun _ => XS.i2l X138.here hx rfl (hb hby d6_44) rfl) ?_
  show Go p e below (T138.setTop (mkF m 45 #[.val (.ref a), .val (.ref d), .val (.ref f), .val (.long ((((0 : Int64) + (f0.toInt64)) + (f1.toInt64)) + (f2.toInt64))), .second, .val (.ref f), .val (.int (5 : Int32)), .val (.int (3 : Int32)), .val (.int f3)] [(.long (f3.toInt64)), (.long ((((0 : Int64) + (f0.toInt64)) + (f1.toInt64)) + (f2.toInt64)))])) _
  refine Go.via (fun _ => XS.ladd X138.here hx rfl (hb hby d6_45) rfl) ?_
  show Go p e below (T138.setTop (mkF m 46 #[.val (.ref a), .val (.ref d), .val (.ref f), .val (.long ((((0 : Int64) + (f0.toInt64)) + (f1.toInt64)) + (f2.toInt64))), .second, .val (.ref f), .val (.int (5 : Int32)), .val (.int (3 : Int32)), .val (.int f3)] [(.long (((((0 : Int64) + (f0.toInt64)) + (f1.toInt64)) + (f2.toInt64)) + (f3.toInt64)))])) _
  refine Go.via (fun _ => XS.lstoreN X138.here hx rfl (hb hby d6_46) rfl (l' := #[.val (.ref a), .val (.ref d), .val (.ref f), .val (.long (((((0 : Int64) + (f0.toInt64)) + (f1.toInt64)) + (f2.toInt64)) + (f3.toInt64))), .second, .val (.ref f), .val (.int (5 : Int32)), .val (.int (3 : Int32)), .val (.int f3)]) rfl) ?_
  show Go p e below (T138.setTop (mkF m 47 #[.val (.ref a), .val (.ref d), .val (.ref f), .val (.long (((((0 : Int64) + (f0.toInt64)) + (f1.toInt64)) + (f2.toInt64)) + (f3.toInt64))), .second, .val (.ref f), .val (.int (5 : Int32)), .val (.int (3 : Int32)), .val (.int f3)] [])) _
  refine Go.via (fun _ => XS.iinc X138.here hx rfl (hb hby d6_47) rfl (l' := #[.val (.ref a), .val (.ref d), .val (.ref f), .val (.long (((((0 : Int64) + (f0.toInt64)) + (f1.toInt64)) + (f2.toInt64)) + (f3.toInt64))), .second, .val (.ref f), .val (.int (5 : Int32)), .val (.int (4 : Int32)), .val (.int f3)]) rfl) ?_
  show Go p e below (T138.setTop (mkF m 50 #[.val (.ref a), .val (.ref d), .val (.ref f), .val (.long (((((0 : Int64) + (f0.toInt64)) + (f1.toInt64)) + (f2.toInt64)) + (f3.toInt64))), .second, .val (.ref f), .val (.int (5 : Int32)), .val (.int (4 : Int32)), .val (.int f3)] [])) _
  refine Go.via (fun _ => XS.goto X138.here hx rfl (pc0 := 50) (pc' := 27) rfl (hb hby d6_50) (by decide) (by decide)) ?_
  refine Go.via (fun _ => XS.iload X138.here hx rfl (hb hby d6_27) rfl) ?_
  refine Go.via (fun _ => XS.iload X138.here hx rfl (hb hby d6_29) rfl) ?_
  refine Go.via (fun _ => XS.icmpNo X138.here hx rfl (hb hby d6_31) rfl (tlt ((by decide) : (4 : Int32) < (5 : Int32))).2.1) ?_
  show Go p e below (T138.setTop (mkF m 34 #[.val (.ref a), .val (.ref d), .val (.ref f), .val (.long (((((0 : Int64) + (f0.toInt64)) + (f1.toInt64)) + (f2.toInt64)) + (f3.toInt64))), .second, .val (.ref f), .val (.int (5 : Int32)), .val (.int (4 : Int32)), .val (.int f3)] [])) _
  refine Go.via (fun _ => XS.aload X138.here hx rfl (hb hby d6_34) rfl rfl) ?_
  refine Go.via (fun _ => XS.iload X138.here hx rfl (hb hby d6_36) rfl) ?_
  refine Go.via (ldI X138 hx hZ e138 f140 (v := f4) (by decide) rfl (g := (mkF m 38 #[.val (.ref a), .val (.ref d), .val (.ref f), .val (.long (((((0 : Int64) + (f0.toInt64)) + (f1.toInt64)) + (f2.toInt64)) + (f3.toInt64))), .second, .val (.ref f), .val (.int (5 : Int32)), .val (.int (4 : Int32)), .val (.int f3)] [(.int (4 : Int32)), (.ref f)])) rfl rfl (hb hby d6_38)) ?_
  show Go p e below (T138.setTop (mkF m 39 #[.val (.ref a), .val (.ref d), .val (.ref f), .val (.long (((((0 : Int64) + (f0.toInt64)) + (f1.toInt64)) + (f2.toInt64)) + (f3.toInt64))), .second, .val (.ref f), .val (.int (5 : Int32)), .val (.int (4 : Int32)), .val (.int f3)] [(.int f4)])) _
  refine Go.via (fun _ => XS.istore X138.here hx rfl (hb hby d6_39) rfl (l' := #[.val (.ref a), .val (.ref d), .val (.ref f), .val (.long (((((0 : Int64) + (f0.toInt64)) + (f1.toInt64)) + (f2.toInt64)) + (f3.toInt64))), .second, .val (.ref f), .val (.int (5 : Int32)), .val (.int (4 : Int32)), .val (.int f4)]) rfl) ?_
  show Go p e below (T138.setTop (mkF m 41 #[.val (.ref a), .val (.ref d), .val (.ref f), .val (.long (((((0 : Int64) + (f0.toInt64)) + (f1.toInt64)) + (f2.toInt64)) + (f3.toInt64))), .second, .val (.ref f), .val (.int (5 : Int32)), .val (.int (4 : Int32)), .val (.int f4)] [])) _
  refine Go.via (fun _ => XS.lloadN X138.here hx rfl (hb hby d6_41) rfl) ?_
  refine Go.via (fun _ => XS.iload X138.here hx rfl (hb hby d6_42) rfl) ?_
  refine Go.via (fun _ => XS.i2l X138.here hx rfl (hb hby d6_44) rfl) ?_
  show Go p e below (T138.setTop (mkF m 45 #[.val (.ref a), .val (.ref d), .val (.ref f), .val (.long (((((0 : Int64) + (f0.toInt64)) + (f1.toInt64)) + (f2.toInt64)) + (f3.toInt64))), .second, .val (.ref f), .val (.int (5 : Int32)), .val (.int (4 : Int32)), .val (.int f4)] [(.long (f4.toInt64)), (.long (((((0 : Int64) + (f0.toInt64)) + (f1.toInt64)) + (f2.toInt64)) + (f3.toInt64)))])) _
  refine Go.via (fun _ => XS.ladd X138.here hx rfl (hb hby d6_45) rfl) ?_
  show Go p e below (T138.setTop (mkF m 46 #[.val (.ref a), .val (.ref d), .val (.ref f), .val (.long (((((0 : Int64) + (f0.toInt64)) + (f1.toInt64)) + (f2.toInt64)) + (f3.toInt64))), .second, .val (.ref f), .val (.int (5 : Int32)), .val (.int (4 : Int32)), .val (.int f4)] [(.long ((((((0 : Int64) + (f0.toInt64)) + (f1.toInt64)) + (f2.toInt64)) + (f3.toInt64)) + (f4.toInt64)))])) _
  refine Go.via (fun _ => XS.lstoreN X138.here hx rfl (hb hby d6_46) rfl (l' := #[.val (.ref a), .val (.ref d), .val (.ref f), .val (.long ((((((0 : Int64) + (f0.toInt64)) + (f1.toInt64)) + (f2.toInt64)) + (f3.toInt64)) + (f4.toInt64))), .second, .val (.ref f), .val (.int (5 : Int32)), .val (.int (4 : Int32)), .val (.int f4)]) rfl) ?_
  show Go p e below (T138.setTop (mkF m 47 #[.val (.ref a), .val (.ref d), .val (.ref f), .val (.long ((((((0 : Int64) + (f0.toInt64)) + (f1.toInt64)) + (f2.toInt64)) + (f3.toInt64)) + (f4.toInt64))), .second, .val (.ref f), .val (.int (5 : Int32)), .val (.int (4 : Int32)), .val (.int f4)] [])) _
  refine Go.via (fun _ => XS.iinc X138.here hx rfl (hb hby d6_47) rfl (l' := #[.val (.ref a), .val (.ref d), .val (.ref f), .val (.long ((((((0 : Int64) + (f0.toInt64)) + (f1.toInt64)) + (f2.toInt64)) + (f3.toInt64)) + (f4.toInt64))), .second, .val (.ref f), .val (.int (5 : Int32)), .val (.int (5 : Int32)), .val (.int f4)]) rfl) ?_
  show Go p e below (T138.setTop (mkF m 50 #[.val (.ref a), .val (.ref d), .val (.ref f), .val (.long ((((((0 : Int64) + (f0.toInt64)) + (f1.toInt64)) + (f2.toInt64)) + (f3.toInt64)) + (f4.toInt64))), .second, .val (.ref f), .val (.int (5 : Int32)), .val (.int (5 : Int32)), .val (.int f4)] [])) _
  refine Go.via (fun _ => XS.goto X138.here hx rfl (pc0 := 50) (pc' := 27) rfl (hb hby d6_50) (by decide) (by decide)) ?_
  refine Go.via (fun _ => XS.iload X138.here hx rfl (hb hby d6_27) rfl) ?_
  refine Go.via (fun _ => XS.iload X138.here hx rfl (hb hby d6_29) rfl) ?_
  refine Go.via (fun _ => XS.icmpYes X138.here hx rfl (pc0 := 31) (pc' := 53) rfl (hb hby d6_31) rfl (flt ((by decide) : ¬ ((5 : Int32) < (5 : Int32)))).2.1 (by decide) (by decide)) ?_
  show Go p e below (T138.setTop (mkF m 53 #[.val (.ref a), .val (.ref d), .val (.ref f), .val (.long ((((((0 : Int64) + (f0.toInt64)) + (f1.toInt64)) + (f2.toInt64)) + (f3.toInt64)) + (f4.toInt64))), .second, .val (.ref f), .val (.int (5 : Int32)), .val (.int (5 : Int32)), .val (.int f4)] [])) _
  refine Go.via (fun _ => XS.aloadN X138.here hx rfl (hb hby d6_53) rfl rfl) ?_
  refine Go.via (fun _ => XS.lloadN X138.here hx rfl (hb hby d6_54) rfl) ?_
  have f141 : Fld Z h138 a "com/example/libcosearch/libcosearch/PostingList" "collectionFrequency" "J" (.long (0 : Int64)) := ((P3.other W134 (Or.inr (slot_ne (Or.inr (tw hw 46 rfl)) (Or.inr (tw hw 42 rfl)) (by decide) (t := .long) (t' := (.array .int)) (by decide) (by decide)))).other W138 (Or.inr (slot_ne (Or.inr (tw hw 46 rfl)) (Or.inr (tw hw 44 rfl)) (by decide) (t := .long) (t' := (.array .int)) (by decide) (by decide))))
  have f142 : Exa Z h138 a "com/example/libcosearch/libcosearch/PostingList" := (f137.wr W138)
  obtain ⟨T143, h143, X143, e143, W143, st143⟩ := putF X138 hx hZ hown (host := "") (Or.inl (tw hw 45 rfl)) Via.refl e138 f141 f142 (Or.inr ⟨(tw hw 46 rfl), rfl, hnm⟩) (tw hw 21 rfl) (ty := .long) (by decide) rfl rfl (g := (mkF m 55 #[.val (.ref a), .val (.ref d), .val (.ref f), .val (.long ((((((0 : Int64) + (f0.toInt64)) + (f1.toInt64)) + (f2.toInt64)) + (f3.toInt64)) + (f4.toInt64))), .second, .val (.ref f), .val (.int (5 : Int32)), .val (.int (5 : Int32)), .val (.int f4)] [(.long ((((((0 : Int64) + (f0.toInt64)) + (f1.toInt64)) + (f2.toInt64)) + (f3.toInt64)) + (f4.toInt64))), (.ref a)])) rfl rfl (hb hby d6_55)
  refine Go.via (st143) ?_
  clear st143
  have N143 := Fr.snoc X143 N138 g_a
  have f144 : Fld Z h143 a "com/example/libcosearch/libcosearch/PostingList" "collectionFrequency" "J" (.long ((((((0 : Int64) + (f0.toInt64)) + (f1.toInt64)) + (f2.toInt64)) + (f3.toInt64)) + (f4.toInt64))) := f141.same W143
  clear X138 e138
  show Go p e below (T143.setTop (mkF m 58 #[.val (.ref a), .val (.ref d), .val (.ref f), .val (.long ((((((0 : Int64) + (f0.toInt64)) + (f1.toInt64)) + (f2.toInt64)) + (f3.toInt64)) + (f4.toInt64))), .second, .val (.ref f), .val (.int (5 : Int32)), .val (.int (5 : Int32)), .val (.int f4)] [])) _
  have k145 : Keep h0 h143 [a] := ((((Keep.refl h0 [a]).wr W134 (Or.inl (List.mem_of_getElem? (i := 0) rfl))).wr W138 (Or.inl (List.mem_of_getElem? (i := 0) rfl))).wr W143 (Or.inl (List.mem_of_getElem? (i := 0) rfl)))
  have f146 : Exa Z h143 a "com/example/libcosearch/libcosearch/PostingList" := (f142.wr W143)
  have f147 : Fld Z h143 a "com/example/libcosearch/libcosearch/PostingList" "documents" "[I" (.ref d) := ((f135.other W138 (Or.inr (slot_ne (Or.inr (tw hw 42 rfl)) (Or.inr (tw hw 44 rfl)) (by decide) (t := (.array .int)) (t' := (.array .int)) (by decide) (by decide)))).other W143 (Or.inr (slot_ne (Or.inr (tw hw 42 rfl)) (Or.inr (tw hw 46 rfl)) (by decide) (t := (.array .int)) (t' := .long) (by decide) (by decide))))
  have f148 : Fld Z h143 a "com/example/libcosearch/libcosearch/PostingList" "frequencies" "[I" (.ref f) := (f139.other W143 (Or.inr (slot_ne (Or.inr (tw hw 44 rfl)) (Or.inr (tw hw 46 rfl)) (by decide) (t := (.array .int)) (t' := .long) (by decide) (by decide))))
  exact Go.fin X143 hlk (v := none) (fun _ => rfl) (fun fs hr => X143.returnOut hx Bd.returns (hb hby d6_58) hr) (by rw [e143]; exact ⟨rfl, N143, k145, f146, f147, f148, f144⟩) (by decide) (by decide)
theorem d3_0 : decode prog_24_method_3_code 0 = .ok (.new 26, 3) := by decide +kernel
theorem d3_3 : decode prog_24_method_3_code 3 = .ok (.dup, 1) := by decide +kernel
theorem d3_4 : decode prog_24_method_3_code 4 = .ok (.aload_n 0, 1) := by decide +kernel
theorem d3_5 : decode prog_24_method_3_code 5 = .ok (.getfield 7, 3) := by decide +kernel
theorem d3_8 : decode prog_24_method_3_code 8 = .ok (.aload_n 0, 1) := by decide +kernel
theorem d3_9 : decode prog_24_method_3_code 9 = .ok (.getfield 16, 3) := by decide +kernel
theorem d3_12 : decode prog_24_method_3_code 12 = .ok (.invokestatic 20, 3) := by decide +kernel
theorem pd__28_5bII_29_5bI : parseMethodDescriptor "([II)[I" = some ⟨[(.array .int), .int], some (.array .int)⟩ := by decide +kernel
theorem d3_15 : decode prog_24_method_3_code 15 = .ok (.aload_n 0, 1) := by decide +kernel
theorem d3_16 : decode prog_24_method_3_code 16 = .ok (.getfield 13, 3) := by decide +kernel
theorem d3_19 : decode prog_24_method_3_code 19 = .ok (.aload_n 0, 1) := by decide +kernel
theorem d3_20 : decode prog_24_method_3_code 20 = .ok (.getfield 16, 3) := by decide +kernel
theorem d3_23 : decode prog_24_method_3_code 23 = .ok (.invokestatic 20, 3) := by decide +kernel
theorem d3_26 : decode prog_24_method_3_code 26 = .ok (.invokespecial 28, 3) := by decide +kernel
theorem pd__28_5bI_5bI_29V : parseMethodDescriptor "([I[I)V" = some ⟨[(.array .int), (.array .int)], none⟩ := by decide +kernel
theorem d3_29 : decode prog_24_method_3_code 29 = .ok (.areturn, 1) := by decide +kernel
theorem pn_3 : plainName "com/example/libcosearch/libcosearch/PostingList$Builder" = true := by first | (simp [plainName, overriddenIn]; done) | decide +kernel
theorem ef_3 (m : MethodId) (x0 : Addr) : entryFrame m #[(.ref x0)] 1 = mkF m 0 #[.val (.ref x0)] [] := by first | (simp [entryFrame, mkF, argsToLocals, Value.category]; done) | rfl
def Q_rmU0 (Z : State) (a : Addr) (d : Addr) (f : Addr) (x0 : Int32) (x1 : Int32) (x2 : Int32) (x3 : Int32) (y0 : Int32) (y1 : Int32) (y2 : Int32) (y3 : Int32) (h0 : Heap) (n0 : Nat) (vQ : Option Value) (hQ : Heap) (LQ : List Loc) : Prop := ∃ r : Addr, ∃ rd : Addr, ∃ rf : Addr, vQ = some (.ref r) ∧ Fr n0 LQ ∧ Keep h0 hQ [] ∧ h0.size ≤ r ∧ h0.size ≤ rd ∧ h0.size ≤ rf ∧ Exa Z hQ r "com/example/libcosearch/libcosearch/PostingList" ∧ Fld Z hQ r "com/example/libcosearch/libcosearch/PostingList" "documents" "[I" (.ref rd) ∧ Fld Z hQ r "com/example/libcosearch/libcosearch/PostingList" "frequencies" "[I" (.ref rf) ∧ Fld Z hQ r "com/example/libcosearch/libcosearch/PostingList" "collectionFrequency" "J" (.long (0 : Int64)) ∧ Ia Z hQ rd .int [] ∧ Ia Z hQ rf .int []
set_option maxRecDepth 65536 in
set_option maxHeartbeats 40000000 in
theorem rmU0 (l : Launch) (Z : State) (a0 : Array Value) (hw : ∀ d ∈ tables_1, d.before a0 Z = true) (ws : List Jvm.Cond) (a : Addr) (d : Addr) (f : Addr) (x0 : Int32) (x1 : Int32) (x2 : Int32) (x3 : Int32) (y0 : Int32) (y1 : Int32) (y2 : Int32) (y3 : Int32) (h0 : Heap) (n0 : Nat) (Z0 : n0 ≤ h0.size) (P0 : Fld Z h0 a "com/example/libcosearch/libcosearch/PostingList$Builder" "documents" "[I" (.ref d)) (P1 : Fld Z h0 a "com/example/libcosearch/libcosearch/PostingList$Builder" "frequencies" "[I" (.ref f)) (P2 : Fld Z h0 a "com/example/libcosearch/libcosearch/PostingList$Builder" "size" "I" (.int (0 : Int32))) (P3 : Ia Z h0 d .int [x0, x1, x2, x3]) (P4 : Ia Z h0 f .int [y0, y1, y2, y3]) (P5 : Exa Z h0 d "[I") (P6 : Exa Z h0 f "[I") :
    MetFree l (⟨"com/example/libcosearch/libcosearch/PostingList$Builder", "build", "()Lcom/example/libcosearch/libcosearch/PostingList;"⟩ : MethodName) (head1 (Jvm.Cond.code (⟨"com/example/libcosearch/libcosearch/PostingList$Builder", "build", "()Lcom/example/libcosearch/libcosearch/PostingList;"⟩ : MethodName) prog_24_method_3_code 1 (some (.object "com/example/libcosearch/libcosearch/PostingList")) :: ws) ({ frames := 2, cells := 3, slots := 19, locals := 57 } : Room)) (fun aQ UQ => aQ = #[(.ref a)] ∧ Z.Warmed39 UQ.vm ∧ UQ.heap = h0) (fun _ _ _ _ _ => True) (fun _ UQ oQ UR => ∃ vQ LQ, oQ = .returned vQ ∧ Q_rmU0 Z a d f x0 x1 x2 x3 y0 y1 y2 y3 h0 n0 vQ UR.heap LQ ∧ FrameEnd UQ oQ UR LQ ({ frames := 2, cells := 3, slots := 19, locals := 57 } : Room).cells ({ frames := 2, cells := 3, slots := 19, locals := 57 } : Room).slots) := by
  refine MetFree.of_bodySF (plainFor_of_name pn_3) hisR ?_
  intro p e s m args below meth c s₁ Bd hml0 hP hK
  obtain ⟨rfl, hZ, hh⟩ := hP
  have hx := Bd.exec
  have hby := Bd.bytes
  have hlk := Bd.notSynchronized
  have hml : c.maxLocals = 1 := hml0
  have hown : s.vm.findClass "com/example/libcosearch/libcosearch/PostingList$Builder" = some m.cls := findClass_of_methodNamed Bd.named
  have hnm := (name_of_methodNamed Bd.named Bd.method).1
  have X0 : Stand p l e ({ frames := 2, cells := 3, slots := 19, locals := 57 } : Room) s m #[(.ref a)] below meth c s₁ [] 0 0 := Stand.of_body Bd
  have e0 : s₁.heap = h0 := by rw [← hh, Bd.state]; rfl
  have N0 := Fr.nil n0
  show Go p e below _ (Done s (Q_rmU0 Z a d f x0 x1 x2 x3 y0 y1 y2 y3 h0 n0) ({ frames := 2, cells := 3, slots := 19, locals := 57 } : Room).cells ({ frames := 2, cells := 3, slots := 19, locals := 57 } : Room).slots)
  refine Go.via (fun tQ kQ => castTop (ef_3 m a) kQ) ?_
  show Go p e below (s₁.setTop (mkF m 0 #[.val (.ref a)] [])) _
  obtain ⟨T149, h149, X149, e149, E149, A149, D149, -, st149⟩ := newO X0 hx hZ hown (tw hw 20 rfl) (tw hw 21 rfl) (tw hw 22 rfl) e0 (g := (mkF m 0 #[.val (.ref a)] [])) rfl (hb hby d3_0) (by decide) (by decide)
  obtain ⟨b149, g149⟩ : ∃ z, z = h0.size := ⟨_, rfl⟩
  rw [← g149] at A149 D149 st149
  have ne150 : a ≠ b149 := Nat.ne_of_lt (Nat.lt_of_lt_of_le P0.lt (Nat.le_of_eq g149.symm))
  have ne151 : d ≠ b149 := Nat.ne_of_lt (Nat.lt_of_lt_of_le P3.lt (Nat.le_of_eq g149.symm))
  have ne152 : f ≠ b149 := Nat.ne_of_lt (Nat.lt_of_lt_of_le P4.lt (Nat.le_of_eq g149.symm))
  have ge153 : n0 ≤ b149 := Nat.le_trans Z0 (Nat.le_of_eq g149.symm)
  have sz154 : h0.size ≤ b149 := Nat.le_trans (Keep.refl h0 []).1 (Nat.le_of_eq g149.symm)
  refine Go.via (st149) ?_
  clear st149
  have f155 : Fld Z h149 b149 "com/example/libcosearch/libcosearch/PostingList" "documents" "[I" .null := D149 (Or.inr (tw hw 42 rfl)) (ty := (.array .int)) (by decide)
  have f156 : Fld Z h149 b149 "com/example/libcosearch/libcosearch/PostingList" "frequencies" "[I" .null := D149 (Or.inr (tw hw 44 rfl)) (ty := (.array .int)) (by decide)
  have f157 : Fld Z h149 b149 "com/example/libcosearch/libcosearch/PostingList" "collectionFrequency" "J" (.long (0 : Int64)) := D149 (Or.inr (tw hw 46 rfl)) (ty := .long) (by decide)
  clear X0 e0
  show Go p e below (T149.setTop (mkF m 3 #[.val (.ref a)] [(.ref b149)])) _
  refine Go.via (fun _ => XS.dup X149.here hx rfl (hb hby d3_3) rfl rfl) ?_
  refine Go.via (fun _ => XS.aloadN X149.here hx rfl (hb hby d3_4) rfl rfl) ?_
  have f158 : Fld Z h149 a "com/example/libcosearch/libcosearch/PostingList$Builder" "documents" "[I" (.ref d) := (P0.ext E149)
  obtain ⟨T159, X159, e159, st159⟩ := getF X149 hx hZ hown (host := "") (Or.inl (tw hw 11 rfl)) Via.refl e149 f158 (g := (mkF m 5 #[.val (.ref a)] [(.ref a), (.ref b149), (.ref b149)])) rfl rfl (hb hby d3_5)
  refine Go.via (st159) ?_
  clear st159
  clear X149 e149
  show Go p e below (T159.setTop (mkF m 8 #[.val (.ref a)] [(.ref d), (.ref b149), (.ref b149)])) _
  refine Go.via (fun _ => XS.aloadN X159.here hx rfl (hb hby d3_8) rfl rfl) ?_
  have f160 : Fld Z h149 a "com/example/libcosearch/libcosearch/PostingList$Builder" "size" "I" (.int (0 : Int32)) := (P2.ext E149)
  obtain ⟨T161, X161, e161, st161⟩ := getF X159 hx hZ hown (host := "") (Or.inl (tw hw 23 rfl)) Via.refl e159 f160 (g := (mkF m 9 #[.val (.ref a)] [(.ref a), (.ref d), (.ref b149), (.ref b149)])) rfl rfl (hb hby d3_9)
  refine Go.via (st161) ?_
  clear st161
  clear X159 e159
  show Go p e below (T161.setTop (mkF m 12 #[.val (.ref a)] [(.int (0 : Int32)), (.ref d), (.ref b149), (.ref b149)])) _
  have f162 : Ia Z h149 d .int [x0, x1, x2, x3] := (P3.ext E149)
  have z164 : n0 ≤ h149.size := (Nat.le_trans Z0 E149.1)
  obtain ⟨_, _, ⟨T163, L163, k163, n163⟩, -, X163, ⟨Lc163, hQ163, l163, y163, z163⟩, st163⟩ := Jvm.LawKit.callS X161 hx (y := (⟨"java/util/Arrays", "copyOf", "([II)[I"⟩ : MethodName)) hown (mvT hZ (tw hw 25 rfl)) (mvT hZ (tw hw 26 rfl)) (mvT hZ (tw hw 27 rfl)) (mvT hZ (tw hw 28 rfl)) (by decide) (backOf (W := 2) (rmC l Z a0 hw [] d (0 : Int32) [x0, x1, x2, x3] h149 n0 z164 f162 (by first | decide | (simp only [List.length_cons, List.length_nil]; decide) | rfl) (by first | decide | (simp only [List.length_cons, List.length_nil]; decide) | rfl) (by first | decide | (simp only [List.length_cons, List.length_nil]; decide) | rfl) (by first | decide | (simp only [List.length_cons, List.length_nil]; decide) | rfl)) hZ (tw hw 28 rfl) (tw hw 27 rfl) (by decide) (by decide)) (g := (mkF m 12 #[.val (.ref a)] [(.int (0 : Int32)), (.ref d), (.ref b149), (.ref b149)])) rfl (by rw [hml]; rfl) (argsL := [(.ref d), (.int (0 : Int32))]) (rest := [(.ref b149), (.ref b149)]) (lenOf pd__28_5bII_29_5bI rfl) rfl (by show 2 * 0 + _ ≤ _; exact Nat.le_of_eq rfl) (hb hby d3_12) (fun _ _ => ⟨rfl, e161, (by decide : 1 + 1 ≤ _), (by decide : 3 + 8 ≤ _)⟩)
  dsimp only [Pt.U, Pt.locs, Pt.cells, Pt.slots] at X163 l163 y163 z163 st163 hQ163
  subst l163 y163 z163
  obtain ⟨b165, rfl, N163q, K163q, fz_b165, f166, f167⟩ := hQ163
  have N163 := Fr.app N0 N163q
  refine Go.via (st163) ?_
  clear st163
  have ne168 : a ≠ b165 := Nat.ne_of_lt (Nat.lt_of_lt_of_le f158.lt fz_b165)
  have ne169 : b149 ≠ b165 := Nat.ne_of_lt (Nat.lt_of_lt_of_le A149.lt fz_b165)
  have ne170 : d ≠ b165 := Nat.ne_of_lt (Nat.lt_of_lt_of_le f162.lt fz_b165)
  have f171 : Ia Z h149 f .int [y0, y1, y2, y3] := (P4.ext E149)
  have ne172 : f ≠ b165 := Nat.ne_of_lt (Nat.lt_of_lt_of_le f171.lt fz_b165)
  have ge173 : n0 ≤ b165 := Nat.le_trans z164 fz_b165
  have k175 : Keep h0 h149 [] := ((Keep.refl h0 []).ext E149)
  have sz174 : h0.size ≤ b165 := Nat.le_trans k175.1 fz_b165
  have e163 : T163.heap = T163.heap := rfl
  have f176 : Ia Z T163.heap b165 .int [] := f166
  have f177 : Exa Z T163.heap b165 "[I" := f167
  clear X161 e161
  show Go p e below (T163.setTop (mkF m 15 #[.val (.ref a)] [(.ref b165), (.ref b149), (.ref b149)])) _
  refine Go.via (fun _ => XS.aloadN X163.here hx rfl (hb hby d3_15) rfl rfl) ?_
  have f178 : Fld Z T163.heap a "com/example/libcosearch/libcosearch/PostingList$Builder" "frequencies" "[I" (.ref f) := ((P1.ext E149).keep K163q nin0)
  obtain ⟨T179, X179, e179, st179⟩ := getF X163 hx hZ hown (host := "") (Or.inl (tw hw 13 rfl)) Via.refl e163 f178 (g := (mkF m 16 #[.val (.ref a)] [(.ref a), (.ref b165), (.ref b149), (.ref b149)])) rfl rfl (hb hby d3_16)
  refine Go.via (st179) ?_
  clear st179
  clear X163 e163
  show Go p e below (T179.setTop (mkF m 19 #[.val (.ref a)] [(.ref f), (.ref b165), (.ref b149), (.ref b149)])) _
  refine Go.via (fun _ => XS.aloadN X179.here hx rfl (hb hby d3_19) rfl rfl) ?_
  have f180 : Fld Z T163.heap a "com/example/libcosearch/libcosearch/PostingList$Builder" "size" "I" (.int (0 : Int32)) := (f160.keep K163q nin0)
  obtain ⟨T181, X181, e181, st181⟩ := getF X179 hx hZ hown (host := "") (Or.inl (tw hw 23 rfl)) Via.refl e179 f180 (g := (mkF m 20 #[.val (.ref a)] [(.ref a), (.ref f), (.ref b165), (.ref b149), (.ref b149)])) rfl rfl (hb hby d3_20)
  refine Go.via (st181) ?_
  clear st181
  clear X179 e179
  show Go p e below (T181.setTop (mkF m 23 #[.val (.ref a)] [(.int (0 : Int32)), (.ref f), (.ref b165), (.ref b149), (.ref b149)])) _
  have f182 : Ia Z T163.heap f .int [y0, y1, y2, y3] := (f171.keep K163q nin0)
  have z184 : n0 ≤ T163.heap.size := (Nat.le_trans z164 K163q.1)
  obtain ⟨_, _, ⟨T183, L183, k183, n183⟩, -, X183, ⟨Lc183, hQ183, l183, y183, z183⟩, st183⟩ := Jvm.LawKit.callS X181 hx (y := (⟨"java/util/Arrays", "copyOf", "([II)[I"⟩ : MethodName)) hown (mvT hZ (tw hw 25 rfl)) (mvT hZ (tw hw 26 rfl)) (mvT hZ (tw hw 27 rfl)) (mvT hZ (tw hw 28 rfl)) (by decide) (backOf (W := 3) (rmC l Z a0 hw [] f (0 : Int32) [y0, y1, y2, y3] T163.heap n0 z184 f182 (by first | decide | (simp only [List.length_cons, List.length_nil]; decide) | rfl) (by first | decide | (simp only [List.length_cons, List.length_nil]; decide) | rfl) (by first | decide | (simp only [List.length_cons, List.length_nil]; decide) | rfl) (by first | decide | (simp only [List.length_cons, List.length_nil]; decide) | rfl)) hZ (tw hw 28 rfl) (tw hw 27 rfl) (by decide) (by decide)) (g := (mkF m 23 #[.val (.ref a)] [(.int (0 : Int32)), (.ref f), (.ref b165), (.ref b149), (.ref b149)])) rfl (by rw [hml]; rfl) (argsL := [(.ref f), (.int (0 : Int32))]) (rest := [(.ref b165), (.ref b149), (.ref b149)]) (lenOf pd__28_5bII_29_5bI rfl) rfl (by show 2 * 0 + _ ≤ _; exact Nat.le_of_eq rfl) (hb hby d3_23) (fun _ _ => ⟨rfl, e181, (by decide : 2 + 1 ≤ _), (by decide : 11 + 8 ≤ _)⟩)
  dsimp only [Pt.U, Pt.locs, Pt.cells, Pt.slots] at X183 l183 y183 z183 st183 hQ183
  subst l183 y183 z183
  obtain ⟨b185, rfl, N183q, K183q, fz_b185, f186, f187⟩ := hQ183
  have N183 := Fr.app N163 N183q
  refine Go.via (st183) ?_
  clear st183
  have f188 : Fld Z T163.heap a "com/example/libcosearch/libcosearch/PostingList$Builder" "documents" "[I" (.ref d) := (f158.keep K163q nin0)
  have ne189 : a ≠ b185 := Nat.ne_of_lt (Nat.lt_of_lt_of_le f188.lt fz_b185)
  have f190 : Exa Z T163.heap b149 "com/example/libcosearch/libcosearch/PostingList" := (A149.keep K163q)
  have ne191 : b149 ≠ b185 := Nat.ne_of_lt (Nat.lt_of_lt_of_le f190.lt fz_b185)
  have ne192 : b165 ≠ b185 := Nat.ne_of_lt (Nat.lt_of_lt_of_le f176.lt fz_b185)
  have f193 : Ia Z T163.heap d .int [x0, x1, x2, x3] := (f162.keep K163q nin0)
  have ne194 : d ≠ b185 := Nat.ne_of_lt (Nat.lt_of_lt_of_le f193.lt fz_b185)
  have ne195 : f ≠ b185 := Nat.ne_of_lt (Nat.lt_of_lt_of_le f182.lt fz_b185)
  have ge196 : n0 ≤ b185 := Nat.le_trans z184 fz_b185
  have k198 : Keep h0 T163.heap [] := (k175.trans K163q all0)
  have sz197 : h0.size ≤ b185 := Nat.le_trans k198.1 fz_b185
  have e183 : T183.heap = T183.heap := rfl
  have f199 : Ia Z T183.heap b185 .int [] := f186
  have f200 : Exa Z T183.heap b185 "[I" := f187
  clear X181 e181
  show Go p e below (T183.setTop (mkF m 26 #[.val (.ref a)] [(.ref b185), (.ref b165), (.ref b149), (.ref b149)])) _
  have f201 : Exa Z T183.heap b149 "com/example/libcosearch/libcosearch/PostingList" := (f190.keep K183q)
  have f202 : Fld Z T183.heap b149 "com/example/libcosearch/libcosearch/PostingList" "documents" "[I" .null := ((f155.keep K163q nin0).keep K183q nin0)
  have f203 : Fld Z T183.heap b149 "com/example/libcosearch/libcosearch/PostingList" "frequencies" "[I" .null := ((f156.keep K163q nin0).keep K183q nin0)
  have f204 : Fld Z T183.heap b149 "com/example/libcosearch/libcosearch/PostingList" "collectionFrequency" "J" (.long (0 : Int64)) := ((f157.keep K163q nin0).keep K183q nin0)
  have z206 : n0 ≤ T183.heap.size := (Nat.le_trans z184 K183q.1)
  obtain ⟨_, _, ⟨T205, L205, k205, n205⟩, -, X205, ⟨Lc205, hQ205, l205, y205, z205⟩, st205⟩ := X183.specialBack hx (y := (⟨"com/example/libcosearch/libcosearch/PostingList", "<init>", "([I[I)V"⟩ : MethodName)) rfl hown (mvT hZ (tw hw 37 rfl)) (mvT hZ (tw hw 38 rfl)) (mvT hZ (tw hw 39 rfl)) (by decide) (backOf (W := 1) (rmI0 l Z a0 hw [] b149 b165 b185  T183.heap n0 z206 f201 f202 f203 f204 f199 ge153 ne191) hZ (tw hw 39 rfl) (tw hw 22 rfl) (by decide) (by decide)) (g := (mkF m 26 #[.val (.ref a)] [(.ref b185), (.ref b165), (.ref b149), (.ref b149)])) rfl (by rw [hml]; rfl) (Steps.refl _) (a := b149) (argsL := [(.ref b165), (.ref b185)]) (rest := [(.ref b149)]) (lenOf pd__28_5bI_5bI_29V rfl) rfl (by show 2 * 0 + _ ≤ _; exact Nat.le_of_eq rfl) (hb hby d3_26) (fun _ _ => ⟨rfl, e183, (by decide : 3 + 0 ≤ _), (by decide : 19 + 0 ≤ _)⟩)
  dsimp only [Pt.U, Pt.locs, Pt.cells, Pt.slots] at X205 l205 y205 z205 st205 hQ205
  subst l205 y205 z205
  obtain ⟨rfl, N205q, K205q, f207, f208, f209, f210⟩ := hQ205
  have N205 := Fr.app N183 N205q
  refine Go.via (fun _ kQ => st205.trans kQ) ?_
  clear st205
  have e205 : T205.heap = T205.heap := rfl
  have f211 : Exa Z T205.heap b149 "com/example/libcosearch/libcosearch/PostingList" := f207
  have f212 : Fld Z T205.heap b149 "com/example/libcosearch/libcosearch/PostingList" "documents" "[I" (.ref b165) := f208
  have f213 : Fld Z T205.heap b149 "com/example/libcosearch/libcosearch/PostingList" "frequencies" "[I" (.ref b185) := f209
  have f214 : Fld Z T205.heap b149 "com/example/libcosearch/libcosearch/PostingList" "collectionFrequency" "J" (.long (0 : Int64)) := f210
  clear X183 e183
  show Go p e below (T205.setTop (mkF m 29 #[.val (.ref a)] [(.ref b149)])) _
  have k215 : Keep h0 T205.heap [] := ((k198.trans K183q all0).trans K205q (allS (Or.inr sz154) all0))
  have f216 : Ia Z T205.heap b165 .int [] := ((f176.keep K183q nin0).keep K205q (ninS (Ne.symm ne169) nin0))
  have f217 : Ia Z T205.heap b185 .int [] := (f199.keep K205q (ninS (Ne.symm ne191) nin0))
  exact Go.fin X205 hlk (v := some (.ref b149)) (fun h => by rw [Bd.returns] at h; cases h) (fun fs hr => retOut X205 hx Bd.returns rfl (Or.inr (Or.inr (Or.inr (Or.inr ⟨rfl, rfl, rfl⟩)))) (hb hby d3_29) hr) (by exact ⟨b149, b165, b185, rfl, N205, k215, sz154, sz174, sz197, f211, f212, f213, f214, f216, f217⟩) (by decide) (by decide)
def Q_rmU1 (Z : State) (a : Addr) (d : Addr) (f : Addr) (x0 : Int32) (x1 : Int32) (x2 : Int32) (x3 : Int32) (y0 : Int32) (y1 : Int32) (y2 : Int32) (y3 : Int32) (h0 : Heap) (n0 : Nat) (vQ : Option Value) (hQ : Heap) (LQ : List Loc) : Prop := ∃ r : Addr, ∃ rd : Addr, ∃ rf : Addr, vQ = some (.ref r) ∧ Fr n0 LQ ∧ Keep h0 hQ [] ∧ h0.size ≤ r ∧ h0.size ≤ rd ∧ h0.size ≤ rf ∧ Exa Z hQ r "com/example/libcosearch/libcosearch/PostingList" ∧ Fld Z hQ r "com/example/libcosearch/libcosearch/PostingList" "documents" "[I" (.ref rd) ∧ Fld Z hQ r "com/example/libcosearch/libcosearch/PostingList" "frequencies" "[I" (.ref rf) ∧ Fld Z hQ r "com/example/libcosearch/libcosearch/PostingList" "collectionFrequency" "J" (.long ((0 : Int64) + (y0.toInt64))) ∧ Ia Z hQ rd .int [x0] ∧ Ia Z hQ rf .int [y0]
set_option maxRecDepth 65536 in
set_option maxHeartbeats 40000000 in
theorem rmU1 (l : Launch) (Z : State) (a0 : Array Value) (hw : ∀ d ∈ tables_1, d.before a0 Z = true) (ws : List Jvm.Cond) (a : Addr) (d : Addr) (f : Addr) (x0 : Int32) (x1 : Int32) (x2 : Int32) (x3 : Int32) (y0 : Int32) (y1 : Int32) (y2 : Int32) (y3 : Int32) (h0 : Heap) (n0 : Nat) (Z0 : n0 ≤ h0.size) (P0 : Fld Z h0 a "com/example/libcosearch/libcosearch/PostingList$Builder" "documents" "[I" (.ref d)) (P1 : Fld Z h0 a "com/example/libcosearch/libcosearch/PostingList$Builder" "frequencies" "[I" (.ref f)) (P2 : Fld Z h0 a "com/example/libcosearch/libcosearch/PostingList$Builder" "size" "I" (.int (1 : Int32))) (P3 : Ia Z h0 d .int [x0, x1, x2, x3]) (P4 : Ia Z h0 f .int [y0, y1, y2, y3]) (P5 : Exa Z h0 d "[I") (P6 : Exa Z h0 f "[I") :
    MetFree l (⟨"com/example/libcosearch/libcosearch/PostingList$Builder", "build", "()Lcom/example/libcosearch/libcosearch/PostingList;"⟩ : MethodName) (head1 (Jvm.Cond.code (⟨"com/example/libcosearch/libcosearch/PostingList$Builder", "build", "()Lcom/example/libcosearch/libcosearch/PostingList;"⟩ : MethodName) prog_24_method_3_code 1 (some (.object "com/example/libcosearch/libcosearch/PostingList")) :: ws) ({ frames := 2, cells := 3, slots := 19, locals := 57 } : Room)) (fun aQ UQ => aQ = #[(.ref a)] ∧ Z.Warmed39 UQ.vm ∧ UQ.heap = h0) (fun _ _ _ _ _ => True) (fun _ UQ oQ UR => ∃ vQ LQ, oQ = .returned vQ ∧ Q_rmU1 Z a d f x0 x1 x2 x3 y0 y1 y2 y3 h0 n0 vQ UR.heap LQ ∧ FrameEnd UQ oQ UR LQ ({ frames := 2, cells := 3, slots := 19, locals := 57 } : Room).cells ({ frames := 2, cells := 3, slots := 19, locals := 57 } : Room).slots) := by
  refine MetFree.of_bodySF (plainFor_of_name pn_3) hisR ?_
  intro p e s m args below meth c s₁ Bd hml0 hP hK
  obtain ⟨rfl, hZ, hh⟩ := hP
  have hx := Bd.exec
  have hby := Bd.bytes
  have hlk := Bd.notSynchronized
  have hml : c.maxLocals = 1 := hml0
  have hown : s.vm.findClass "com/example/libcosearch/libcosearch/PostingList$Builder" = some m.cls := findClass_of_methodNamed Bd.named
  have hnm := (name_of_methodNamed Bd.named Bd.method).1
  have X0 : Stand p l e ({ frames := 2, cells := 3, slots := 19, locals := 57 } : Room) s m #[(.ref a)] below meth c s₁ [] 0 0 := Stand.of_body Bd
  have e0 : s₁.heap = h0 := by rw [← hh, Bd.state]; rfl
  have N0 := Fr.nil n0
  show Go p e below _ (Done s (Q_rmU1 Z a d f x0 x1 x2 x3 y0 y1 y2 y3 h0 n0) ({ frames := 2, cells := 3, slots := 19, locals := 57 } : Room).cells ({ frames := 2, cells := 3, slots := 19, locals := 57 } : Room).slots)
  refine Go.via (fun tQ kQ => castTop (ef_3 m a) kQ) ?_
  show Go p e below (s₁.setTop (mkF m 0 #[.val (.ref a)] [])) _
  obtain ⟨T218, h218, X218, e218, E218, A218, D218, -, st218⟩ := newO X0 hx hZ hown (tw hw 20 rfl) (tw hw 21 rfl) (tw hw 22 rfl) e0 (g := (mkF m 0 #[.val (.ref a)] [])) rfl (hb hby d3_0) (by decide) (by decide)
  obtain ⟨b218, g218⟩ : ∃ z, z = h0.size := ⟨_, rfl⟩
  rw [← g218] at A218 D218 st218
  have ne219 : a ≠ b218 := Nat.ne_of_lt (Nat.lt_of_lt_of_le P0.lt (Nat.le_of_eq g218.symm))
  have ne220 : d ≠ b218 := Nat.ne_of_lt (Nat.lt_of_lt_of_le P3.lt (Nat.le_of_eq g218.symm))
  have ne221 : f ≠ b218 := Nat.ne_of_lt (Nat.lt_of_lt_of_le P4.lt (Nat.le_of_eq g218.symm))
  have ge222 : n0 ≤ b218 := Nat.le_trans Z0 (Nat.le_of_eq g218.symm)
  have sz223 : h0.size ≤ b218 := Nat.le_trans (Keep.refl h0 []).1 (Nat.le_of_eq g218.symm)
  refine Go.via (st218) ?_
  clear st218
  have f224 : Fld Z h218 b218 "com/example/libcosearch/libcosearch/PostingList" "documents" "[I" .null := D218 (Or.inr (tw hw 42 rfl)) (ty := (.array .int)) (by decide)
  have f225 : Fld Z h218 b218 "com/example/libcosearch/libcosearch/PostingList" "frequencies" "[I" .null := D218 (Or.inr (tw hw 44 rfl)) (ty := (.array .int)) (by decide)
  have f226 : Fld Z h218 b218 "com/example/libcosearch/libcosearch/PostingList" "collectionFrequency" "J" (.long (0 : Int64)) := D218 (Or.inr (tw hw 46 rfl)) (ty := .long) (by decide)
  clear X0 e0
  show Go p e below (T218.setTop (mkF m 3 #[.val (.ref a)] [(.ref b218)])) _
  refine Go.via (fun _ => XS.dup X218.here hx rfl (hb hby d3_3) rfl rfl) ?_
  refine Go.via (fun _ => XS.aloadN X218.here hx rfl (hb hby d3_4) rfl rfl) ?_
  have f227 : Fld Z h218 a "com/example/libcosearch/libcosearch/PostingList$Builder" "documents" "[I" (.ref d) := (P0.ext E218)
  obtain ⟨T228, X228, e228, st228⟩ := getF X218 hx hZ hown (host := "") (Or.inl (tw hw 11 rfl)) Via.refl e218 f227 (g := (mkF m 5 #[.val (.ref a)] [(.ref a), (.ref b218), (.ref b218)])) rfl rfl (hb hby d3_5)
  refine Go.via (st228) ?_
  clear st228
  clear X218 e218
  show Go p e below (T228.setTop (mkF m 8 #[.val (.ref a)] [(.ref d), (.ref b218), (.ref b218)])) _
  refine Go.via (fun _ => XS.aloadN X228.here hx rfl (hb hby d3_8) rfl rfl) ?_
  have f229 : Fld Z h218 a "com/example/libcosearch/libcosearch/PostingList$Builder" "size" "I" (.int (1 : Int32)) := (P2.ext E218)
  obtain ⟨T230, X230, e230, st230⟩ := getF X228 hx hZ hown (host := "") (Or.inl (tw hw 23 rfl)) Via.refl e228 f229 (g := (mkF m 9 #[.val (.ref a)] [(.ref a), (.ref d), (.ref b218), (.ref b218)])) rfl rfl (hb hby d3_9)
  refine Go.via (st230) ?_
  clear st230
  clear X228 e228
  show Go p e below (T230.setTop (mkF m 12 #[.val (.ref a)] [(.int (1 : Int32)), (.ref d), (.ref b218), (.ref b218)])) _
  have f231 : Ia Z h218 d .int [x0, x1, x2, x3] := (P3.ext E218)
  have z233 : n0 ≤ h218.size := (Nat.le_trans Z0 E218.1)
  obtain ⟨_, _, ⟨T232, L232, k232, n232⟩, -, X232, ⟨Lc232, hQ232, l232, y232, z232⟩, st232⟩ := Jvm.LawKit.callS X230 hx (y := (⟨"java/util/Arrays", "copyOf", "([II)[I"⟩ : MethodName)) hown (mvT hZ (tw hw 25 rfl)) (mvT hZ (tw hw 26 rfl)) (mvT hZ (tw hw 27 rfl)) (mvT hZ (tw hw 28 rfl)) (by decide) (backOf (W := 2) (rmC l Z a0 hw [] d (1 : Int32) [x0, x1, x2, x3] h218 n0 z233 f231 (by first | decide | (simp only [List.length_cons, List.length_nil]; decide) | rfl) (by first | decide | (simp only [List.length_cons, List.length_nil]; decide) | rfl) (by first | decide | (simp only [List.length_cons, List.length_nil]; decide) | rfl) (by first | decide | (simp only [List.length_cons, List.length_nil]; decide) | rfl)) hZ (tw hw 28 rfl) (tw hw 27 rfl) (by decide) (by decide)) (g := (mkF m 12 #[.val (.ref a)] [(.int (1 : Int32)), (.ref d), (.ref b218), (.ref b218)])) rfl (by rw [hml]; rfl) (argsL := [(.ref d), (.int (1 : Int32))]) (rest := [(.ref b218), (.ref b218)]) (lenOf pd__28_5bII_29_5bI rfl) rfl (by show 2 * 0 + _ ≤ _; exact Nat.le_of_eq rfl) (hb hby d3_12) (fun _ _ => ⟨rfl, e230, (by decide : 1 + 1 ≤ _), (by decide : 3 + 8 ≤ _)⟩)
  dsimp only [Pt.U, Pt.locs, Pt.cells, Pt.slots] at X232 l232 y232 z232 st232 hQ232
  subst l232 y232 z232
  obtain ⟨b234, rfl, N232q, K232q, fz_b234, f235, f236⟩ := hQ232
  have N232 := Fr.app N0 N232q
  refine Go.via (st232) ?_
  clear st232
  have ne237 : a ≠ b234 := Nat.ne_of_lt (Nat.lt_of_lt_of_le f227.lt fz_b234)
  have ne238 : b218 ≠ b234 := Nat.ne_of_lt (Nat.lt_of_lt_of_le A218.lt fz_b234)
  have ne239 : d ≠ b234 := Nat.ne_of_lt (Nat.lt_of_lt_of_le f231.lt fz_b234)
  have f240 : Ia Z h218 f .int [y0, y1, y2, y3] := (P4.ext E218)
  have ne241 : f ≠ b234 := Nat.ne_of_lt (Nat.lt_of_lt_of_le f240.lt fz_b234)
  have ge242 : n0 ≤ b234 := Nat.le_trans z233 fz_b234
  have k244 : Keep h0 h218 [] := ((Keep.refl h0 []).ext E218)
  have sz243 : h0.size ≤ b234 := Nat.le_trans k244.1 fz_b234
  have e232 : T232.heap = T232.heap := rfl
  have f245 : Ia Z T232.heap b234 .int [x0] := f235
  have f246 : Exa Z T232.heap b234 "[I" := f236
  clear X230 e230
  show Go p e below (T232.setTop (mkF m 15 #[.val (.ref a)] [(.ref b234), (.ref b218), (.ref b218)])) _
  refine Go.via (fun _ => XS.aloadN X232.here hx rfl (hb hby d3_15) rfl rfl) ?_
  have f247 : Fld Z T232.heap a "com/example/libcosearch/libcosearch/PostingList$Builder" "frequencies" "[I" (.ref f) := ((P1.ext E218).keep K232q nin0)
  obtain ⟨T248, X248, e248, st248⟩ := getF X232 hx hZ hown (host := "") (Or.inl (tw hw 13 rfl)) Via.refl e232 f247 (g := (mkF m 16 #[.val (.ref a)] [(.ref a), (.ref b234), (.ref b218), (.ref b218)])) rfl rfl (hb hby d3_16)
  refine Go.via (st248) ?_
  clear st248
  clear X232 e232
  show Go p e below (T248.setTop (mkF m 19 #[.val (.ref a)] [(.ref f), (.ref b234), (.ref b218), (.ref b218)])) _
  refine Go.via (fun _ => XS.aloadN X248.here hx rfl (hb hby d3_19) rfl rfl) ?_
  have f249 : Fld Z T232.heap a "com/example/libcosearch/libcosearch/PostingList$Builder" "size" "I" (.int (1 : Int32)) := (f229.keep K232q nin0)
  obtain ⟨T250, X250, e250, st250⟩ := getF X248 hx hZ hown (host := "") (Or.inl (tw hw 23 rfl)) Via.refl e248 f249 (g := (mkF m 20 #[.val (.ref a)] [(.ref a), (.ref f), (.ref b234), (.ref b218), (.ref b218)])) rfl rfl (hb hby d3_20)
  refine Go.via (st250) ?_
  clear st250
  clear X248 e248
  show Go p e below (T250.setTop (mkF m 23 #[.val (.ref a)] [(.int (1 : Int32)), (.ref f), (.ref b234), (.ref b218), (.ref b218)])) _
  have f251 : Ia Z T232.heap f .int [y0, y1, y2, y3] := (f240.keep K232q nin0)
  have z253 : n0 ≤ T232.heap.size := (Nat.le_trans z233 K232q.1)
  obtain ⟨_, _, ⟨T252, L252, k252, n252⟩, -, X252, ⟨Lc252, hQ252, l252, y252, z252⟩, st252⟩ := Jvm.LawKit.callS X250 hx (y := (⟨"java/util/Arrays", "copyOf", "([II)[I"⟩ : MethodName)) hown (mvT hZ (tw hw 25 rfl)) (mvT hZ (tw hw 26 rfl)) (mvT hZ (tw hw 27 rfl)) (mvT hZ (tw hw 28 rfl)) (by decide) (backOf (W := 3) (rmC l Z a0 hw [] f (1 : Int32) [y0, y1, y2, y3] T232.heap n0 z253 f251 (by first | decide | (simp only [List.length_cons, List.length_nil]; decide) | rfl) (by first | decide | (simp only [List.length_cons, List.length_nil]; decide) | rfl) (by first | decide | (simp only [List.length_cons, List.length_nil]; decide) | rfl) (by first | decide | (simp only [List.length_cons, List.length_nil]; decide) | rfl)) hZ (tw hw 28 rfl) (tw hw 27 rfl) (by decide) (by decide)) (g := (mkF m 23 #[.val (.ref a)] [(.int (1 : Int32)), (.ref f), (.ref b234), (.ref b218), (.ref b218)])) rfl (by rw [hml]; rfl) (argsL := [(.ref f), (.int (1 : Int32))]) (rest := [(.ref b234), (.ref b218), (.ref b218)]) (lenOf pd__28_5bII_29_5bI rfl) rfl (by show 2 * 0 + _ ≤ _; exact Nat.le_of_eq rfl) (hb hby d3_23) (fun _ _ => ⟨rfl, e250, (by decide : 2 + 1 ≤ _), (by decide : 11 + 8 ≤ _)⟩)
  dsimp only [Pt.U, Pt.locs, Pt.cells, Pt.slots] at X252 l252 y252 z252 st252 hQ252
  subst l252 y252 z252
  obtain ⟨b254, rfl, N252q, K252q, fz_b254, f255, f256⟩ := hQ252
  have N252 := Fr.app N232 N252q
  refine Go.via (st252) ?_
  clear st252
  have f257 : Fld Z T232.heap a "com/example/libcosearch/libcosearch/PostingList$Builder" "documents" "[I" (.ref d) := (f227.keep K232q nin0)
  have ne258 : a ≠ b254 := Nat.ne_of_lt (Nat.lt_of_lt_of_le f257.lt fz_b254)
  have f259 : Exa Z T232.heap b218 "com/example/libcosearch/libcosearch/PostingList" := (A218.keep K232q)
  have ne260 : b218 ≠ b254 := Nat.ne_of_lt (Nat.lt_of_lt_of_le f259.lt fz_b254)
  have ne261 : b234 ≠ b254 := Nat.ne_of_lt (Nat.lt_of_lt_of_le f245.lt fz_b254)
  have f262 : Ia Z T232.heap d .int [x0, x1, x2, x3] := (f231.keep K232q nin0)
  have ne263 : d ≠ b254 := Nat.ne_of_lt (Nat.lt_of_lt_of_le f262.lt fz_b254)
  have ne264 : f ≠ b254 := Nat.ne_of_lt (Nat.lt_of_lt_of_le f251.lt fz_b254)
  have ge265 : n0 ≤ b254 := Nat.le_trans z253 fz_b254
  have k267 : Keep h0 T232.heap [] := (k244.trans K232q all0)
  have sz266 : h0.size ≤ b254 := Nat.le_trans k267.1 fz_b254
  have e252 : T252.heap = T252.heap := rfl
  have f268 : Ia Z T252.heap b254 .int [y0] := f255
  have f269 : Exa Z T252.heap b254 "[I" := f256
  clear X250 e250
  show Go p e below (T252.setTop (mkF m 26 #[.val (.ref a)] [(.ref b254), (.ref b234), (.ref b218), (.ref b218)])) _
  have f270 : Exa Z T252.heap b218 "com/example/libcosearch/libcosearch/PostingList" := (f259.keep K252q)
  have f271 : Fld Z T252.heap b218 "com/example/libcosearch/libcosearch/PostingList" "documents" "[I" .null := ((f224.keep K232q nin0).keep K252q nin0)
  have f272 : Fld Z T252.heap b218 "com/example/libcosearch/libcosearch/PostingList" "frequencies" "[I" .null := ((f225.keep K232q nin0).keep K252q nin0)
  have f273 : Fld Z T252.heap b218 "com/example/libcosearch/libcosearch/PostingList" "collectionFrequency" "J" (.long (0 : Int64)) := ((f226.keep K232q nin0).keep K252q nin0)
  have z275 : n0 ≤ T252.heap.size := (Nat.le_trans z253 K252q.1)
  obtain ⟨_, _, ⟨T274, L274, k274, n274⟩, -, X274, ⟨Lc274, hQ274, l274, y274, z274⟩, st274⟩ := X252.specialBack hx (y := (⟨"com/example/libcosearch/libcosearch/PostingList", "<init>", "([I[I)V"⟩ : MethodName)) rfl hown (mvT hZ (tw hw 37 rfl)) (mvT hZ (tw hw 38 rfl)) (mvT hZ (tw hw 39 rfl)) (by decide) (backOf (W := 1) (rmI1 l Z a0 hw [] b218 b234 b254 y0 T252.heap n0 z275 f270 f271 f272 f273 f268 ge222 ne260) hZ (tw hw 39 rfl) (tw hw 22 rfl) (by decide) (by decide)) (g := (mkF m 26 #[.val (.ref a)] [(.ref b254), (.ref b234), (.ref b218), (.ref b218)])) rfl (by rw [hml]; rfl) (Steps.refl _) (a := b218) (argsL := [(.ref b234), (.ref b254)]) (rest := [(.ref b218)]) (lenOf pd__28_5bI_5bI_29V rfl) rfl (by show 2 * 0 + _ ≤ _; exact Nat.le_of_eq rfl) (hb hby d3_26) (fun _ _ => ⟨rfl, e252, (by decide : 3 + 0 ≤ _), (by decide : 19 + 0 ≤ _)⟩)
  dsimp only [Pt.U, Pt.locs, Pt.cells, Pt.slots] at X274 l274 y274 z274 st274 hQ274
  subst l274 y274 z274
  obtain ⟨rfl, N274q, K274q, f276, f277, f278, f279⟩ := hQ274
  have N274 := Fr.app N252 N274q
  refine Go.via (fun _ kQ => st274.trans kQ) ?_
  clear st274
  have e274 : T274.heap = T274.heap := rfl
  have f280 : Exa Z T274.heap b218 "com/example/libcosearch/libcosearch/PostingList" := f276
  have f281 : Fld Z T274.heap b218 "com/example/libcosearch/libcosearch/PostingList" "documents" "[I" (.ref b234) := f277
  have f282 : Fld Z T274.heap b218 "com/example/libcosearch/libcosearch/PostingList" "frequencies" "[I" (.ref b254) := f278
  have f283 : Fld Z T274.heap b218 "com/example/libcosearch/libcosearch/PostingList" "collectionFrequency" "J" (.long ((0 : Int64) + (y0.toInt64))) := f279
  clear X252 e252
  show Go p e below (T274.setTop (mkF m 29 #[.val (.ref a)] [(.ref b218)])) _
  have k284 : Keep h0 T274.heap [] := ((k267.trans K252q all0).trans K274q (allS (Or.inr sz223) all0))
  have f285 : Ia Z T274.heap b234 .int [x0] := ((f245.keep K252q nin0).keep K274q (ninS (Ne.symm ne238) nin0))
  have f286 : Ia Z T274.heap b254 .int [y0] := (f268.keep K274q (ninS (Ne.symm ne260) nin0))
  exact Go.fin X274 hlk (v := some (.ref b218)) (fun h => by rw [Bd.returns] at h; cases h) (fun fs hr => retOut X274 hx Bd.returns rfl (Or.inr (Or.inr (Or.inr (Or.inr ⟨rfl, rfl, rfl⟩)))) (hb hby d3_29) hr) (by exact ⟨b218, b234, b254, rfl, N274, k284, sz223, sz243, sz266, f280, f281, f282, f283, f285, f286⟩) (by decide) (by decide)
def Q_rmU2 (Z : State) (a : Addr) (d : Addr) (f : Addr) (x0 : Int32) (x1 : Int32) (x2 : Int32) (x3 : Int32) (y0 : Int32) (y1 : Int32) (y2 : Int32) (y3 : Int32) (h0 : Heap) (n0 : Nat) (vQ : Option Value) (hQ : Heap) (LQ : List Loc) : Prop := ∃ r : Addr, ∃ rd : Addr, ∃ rf : Addr, vQ = some (.ref r) ∧ Fr n0 LQ ∧ Keep h0 hQ [] ∧ h0.size ≤ r ∧ h0.size ≤ rd ∧ h0.size ≤ rf ∧ Exa Z hQ r "com/example/libcosearch/libcosearch/PostingList" ∧ Fld Z hQ r "com/example/libcosearch/libcosearch/PostingList" "documents" "[I" (.ref rd) ∧ Fld Z hQ r "com/example/libcosearch/libcosearch/PostingList" "frequencies" "[I" (.ref rf) ∧ Fld Z hQ r "com/example/libcosearch/libcosearch/PostingList" "collectionFrequency" "J" (.long (((0 : Int64) + (y0.toInt64)) + (y1.toInt64))) ∧ Ia Z hQ rd .int [x0, x1] ∧ Ia Z hQ rf .int [y0, y1]
set_option maxRecDepth 65536 in
set_option maxHeartbeats 40000000 in
theorem rmU2 (l : Launch) (Z : State) (a0 : Array Value) (hw : ∀ d ∈ tables_1, d.before a0 Z = true) (ws : List Jvm.Cond) (a : Addr) (d : Addr) (f : Addr) (x0 : Int32) (x1 : Int32) (x2 : Int32) (x3 : Int32) (y0 : Int32) (y1 : Int32) (y2 : Int32) (y3 : Int32) (h0 : Heap) (n0 : Nat) (Z0 : n0 ≤ h0.size) (P0 : Fld Z h0 a "com/example/libcosearch/libcosearch/PostingList$Builder" "documents" "[I" (.ref d)) (P1 : Fld Z h0 a "com/example/libcosearch/libcosearch/PostingList$Builder" "frequencies" "[I" (.ref f)) (P2 : Fld Z h0 a "com/example/libcosearch/libcosearch/PostingList$Builder" "size" "I" (.int (2 : Int32))) (P3 : Ia Z h0 d .int [x0, x1, x2, x3]) (P4 : Ia Z h0 f .int [y0, y1, y2, y3]) (P5 : Exa Z h0 d "[I") (P6 : Exa Z h0 f "[I") :
    MetFree l (⟨"com/example/libcosearch/libcosearch/PostingList$Builder", "build", "()Lcom/example/libcosearch/libcosearch/PostingList;"⟩ : MethodName) (head1 (Jvm.Cond.code (⟨"com/example/libcosearch/libcosearch/PostingList$Builder", "build", "()Lcom/example/libcosearch/libcosearch/PostingList;"⟩ : MethodName) prog_24_method_3_code 1 (some (.object "com/example/libcosearch/libcosearch/PostingList")) :: ws) ({ frames := 2, cells := 3, slots := 19, locals := 57 } : Room)) (fun aQ UQ => aQ = #[(.ref a)] ∧ Z.Warmed39 UQ.vm ∧ UQ.heap = h0) (fun _ _ _ _ _ => True) (fun _ UQ oQ UR => ∃ vQ LQ, oQ = .returned vQ ∧ Q_rmU2 Z a d f x0 x1 x2 x3 y0 y1 y2 y3 h0 n0 vQ UR.heap LQ ∧ FrameEnd UQ oQ UR LQ ({ frames := 2, cells := 3, slots := 19, locals := 57 } : Room).cells ({ frames := 2, cells := 3, slots := 19, locals := 57 } : Room).slots) := by
  refine MetFree.of_bodySF (plainFor_of_name pn_3) hisR ?_
  intro p e s m args below meth c s₁ Bd hml0 hP hK
  obtain ⟨rfl, hZ, hh⟩ := hP
  have hx := Bd.exec
  have hby := Bd.bytes
  have hlk := Bd.notSynchronized
  have hml : c.maxLocals = 1 := hml0
  have hown : s.vm.findClass "com/example/libcosearch/libcosearch/PostingList$Builder" = some m.cls := findClass_of_methodNamed Bd.named
  have hnm := (name_of_methodNamed Bd.named Bd.method).1
  have X0 : Stand p l e ({ frames := 2, cells := 3, slots := 19, locals := 57 } : Room) s m #[(.ref a)] below meth c s₁ [] 0 0 := Stand.of_body Bd
  have e0 : s₁.heap = h0 := by rw [← hh, Bd.state]; rfl
  have N0 := Fr.nil n0
  show Go p e below _ (Done s (Q_rmU2 Z a d f x0 x1 x2 x3 y0 y1 y2 y3 h0 n0) ({ frames := 2, cells := 3, slots := 19, locals := 57 } : Room).cells ({ frames := 2, cells := 3, slots := 19, locals := 57 } : Room).slots)
  refine Go.via (fun tQ kQ => castTop (ef_3 m a) kQ) ?_
  show Go p e below (s₁.setTop (mkF m 0 #[.val (.ref a)] [])) _
  obtain ⟨T287, h287, X287, e287, E287, A287, D287, -, st287⟩ := newO X0 hx hZ hown (tw hw 20 rfl) (tw hw 21 rfl) (tw hw 22 rfl) e0 (g := (mkF m 0 #[.val (.ref a)] [])) rfl (hb hby d3_0) (by decide) (by decide)
  obtain ⟨b287, g287⟩ : ∃ z, z = h0.size := ⟨_, rfl⟩
  rw [← g287] at A287 D287 st287
  have ne288 : a ≠ b287 := Nat.ne_of_lt (Nat.lt_of_lt_of_le P0.lt (Nat.le_of_eq g287.symm))
  have ne289 : d ≠ b287 := Nat.ne_of_lt (Nat.lt_of_lt_of_le P3.lt (Nat.le_of_eq g287.symm))
  have ne290 : f ≠ b287 := Nat.ne_of_lt (Nat.lt_of_lt_of_le P4.lt (Nat.le_of_eq g287.symm))
  have ge291 : n0 ≤ b287 := Nat.le_trans Z0 (Nat.le_of_eq g287.symm)
  have sz292 : h0.size ≤ b287 := Nat.le_trans (Keep.refl h0 []).1 (Nat.le_of_eq g287.symm)
  refine Go.via (st287) ?_
  clear st287
  have f293 : Fld Z h287 b287 "com/example/libcosearch/libcosearch/PostingList" "documents" "[I" .null := D287 (Or.inr (tw hw 42 rfl)) (ty := (.array .int)) (by decide)
  have f294 : Fld Z h287 b287 "com/example/libcosearch/libcosearch/PostingList" "frequencies" "[I" .null := D287 (Or.inr (tw hw 44 rfl)) (ty := (.array .int)) (by decide)
  have f295 : Fld Z h287 b287 "com/example/libcosearch/libcosearch/PostingList" "collectionFrequency" "J" (.long (0 : Int64)) := D287 (Or.inr (tw hw 46 rfl)) (ty := .long) (by decide)
  clear X0 e0
  show Go p e below (T287.setTop (mkF m 3 #[.val (.ref a)] [(.ref b287)])) _
  refine Go.via (fun _ => XS.dup X287.here hx rfl (hb hby d3_3) rfl rfl) ?_
  refine Go.via (fun _ => XS.aloadN X287.here hx rfl (hb hby d3_4) rfl rfl) ?_
  have f296 : Fld Z h287 a "com/example/libcosearch/libcosearch/PostingList$Builder" "documents" "[I" (.ref d) := (P0.ext E287)
  obtain ⟨T297, X297, e297, st297⟩ := getF X287 hx hZ hown (host := "") (Or.inl (tw hw 11 rfl)) Via.refl e287 f296 (g := (mkF m 5 #[.val (.ref a)] [(.ref a), (.ref b287), (.ref b287)])) rfl rfl (hb hby d3_5)
  refine Go.via (st297) ?_
  clear st297
  clear X287 e287
  show Go p e below (T297.setTop (mkF m 8 #[.val (.ref a)] [(.ref d), (.ref b287), (.ref b287)])) _
  refine Go.via (fun _ => XS.aloadN X297.here hx rfl (hb hby d3_8) rfl rfl) ?_
  have f298 : Fld Z h287 a "com/example/libcosearch/libcosearch/PostingList$Builder" "size" "I" (.int (2 : Int32)) := (P2.ext E287)
  obtain ⟨T299, X299, e299, st299⟩ := getF X297 hx hZ hown (host := "") (Or.inl (tw hw 23 rfl)) Via.refl e297 f298 (g := (mkF m 9 #[.val (.ref a)] [(.ref a), (.ref d), (.ref b287), (.ref b287)])) rfl rfl (hb hby d3_9)
  refine Go.via (st299) ?_
  clear st299
  clear X297 e297
  show Go p e below (T299.setTop (mkF m 12 #[.val (.ref a)] [(.int (2 : Int32)), (.ref d), (.ref b287), (.ref b287)])) _
  have f300 : Ia Z h287 d .int [x0, x1, x2, x3] := (P3.ext E287)
  have z302 : n0 ≤ h287.size := (Nat.le_trans Z0 E287.1)
  obtain ⟨_, _, ⟨T301, L301, k301, n301⟩, -, X301, ⟨Lc301, hQ301, l301, y301, z301⟩, st301⟩ := Jvm.LawKit.callS X299 hx (y := (⟨"java/util/Arrays", "copyOf", "([II)[I"⟩ : MethodName)) hown (mvT hZ (tw hw 25 rfl)) (mvT hZ (tw hw 26 rfl)) (mvT hZ (tw hw 27 rfl)) (mvT hZ (tw hw 28 rfl)) (by decide) (backOf (W := 2) (rmC l Z a0 hw [] d (2 : Int32) [x0, x1, x2, x3] h287 n0 z302 f300 (by first | decide | (simp only [List.length_cons, List.length_nil]; decide) | rfl) (by first | decide | (simp only [List.length_cons, List.length_nil]; decide) | rfl) (by first | decide | (simp only [List.length_cons, List.length_nil]; decide) | rfl) (by first | decide | (simp only [List.length_cons, List.length_nil]; decide) | rfl)) hZ (tw hw 28 rfl) (tw hw 27 rfl) (by decide) (by decide)) (g := (mkF m 12 #[.val (.ref a)] [(.int (2 : Int32)), (.ref d), (.ref b287), (.ref b287)])) rfl (by rw [hml]; rfl) (argsL := [(.ref d), (.int (2 : Int32))]) (rest := [(.ref b287), (.ref b287)]) (lenOf pd__28_5bII_29_5bI rfl) rfl (by show 2 * 0 + _ ≤ _; exact Nat.le_of_eq rfl) (hb hby d3_12) (fun _ _ => ⟨rfl, e299, (by decide : 1 + 1 ≤ _), (by decide : 3 + 8 ≤ _)⟩)
  dsimp only [Pt.U, Pt.locs, Pt.cells, Pt.slots] at X301 l301 y301 z301 st301 hQ301
  subst l301 y301 z301
  obtain ⟨b303, rfl, N301q, K301q, fz_b303, f304, f305⟩ := hQ301
  have N301 := Fr.app N0 N301q
  refine Go.via (st301) ?_
  clear st301
  have ne306 : a ≠ b303 := Nat.ne_of_lt (Nat.lt_of_lt_of_le f296.lt fz_b303)
  have ne307 : b287 ≠ b303 := Nat.ne_of_lt (Nat.lt_of_lt_of_le A287.lt fz_b303)
  have ne308 : d ≠ b303 := Nat.ne_of_lt (Nat.lt_of_lt_of_le f300.lt fz_b303)
  have f309 : Ia Z h287 f .int [y0, y1, y2, y3] := (P4.ext E287)
  have ne310 : f ≠ b303 := Nat.ne_of_lt (Nat.lt_of_lt_of_le f309.lt fz_b303)
  have ge311 : n0 ≤ b303 := Nat.le_trans z302 fz_b303
  have k313 : Keep h0 h287 [] := ((Keep.refl h0 []).ext E287)
  have sz312 : h0.size ≤ b303 := Nat.le_trans k313.1 fz_b303
  have e301 : T301.heap = T301.heap := rfl
  have f314 : Ia Z T301.heap b303 .int [x0, x1] := f304
  have f315 : Exa Z T301.heap b303 "[I" := f305
  clear X299 e299
  show Go p e below (T301.setTop (mkF m 15 #[.val (.ref a)] [(.ref b303), (.ref b287), (.ref b287)])) _
  refine Go.via (fun _ => XS.aloadN X301.here hx rfl (hb hby d3_15) rfl rfl) ?_
  have f316 : Fld Z T301.heap a "com/example/libcosearch/libcosearch/PostingList$Builder" "frequencies" "[I" (.ref f) := ((P1.ext E287).keep K301q nin0)
  obtain ⟨T317, X317, e317, st317⟩ := getF X301 hx hZ hown (host := "") (Or.inl (tw hw 13 rfl)) Via.refl e301 f316 (g := (mkF m 16 #[.val (.ref a)] [(.ref a), (.ref b303), (.ref b287), (.ref b287)])) rfl rfl (hb hby d3_16)
  refine Go.via (st317) ?_
  clear st317
  clear X301 e301
  show Go p e below (T317.setTop (mkF m 19 #[.val (.ref a)] [(.ref f), (.ref b303), (.ref b287), (.ref b287)])) _
  refine Go.via (fun _ => XS.aloadN X317.here hx rfl (hb hby d3_19) rfl rfl) ?_
  have f318 : Fld Z T301.heap a "com/example/libcosearch/libcosearch/PostingList$Builder" "size" "I" (.int (2 : Int32)) := (f298.keep K301q nin0)
  obtain ⟨T319, X319, e319, st319⟩ := getF X317 hx hZ hown (host := "") (Or.inl (tw hw 23 rfl)) Via.refl e317 f318 (g := (mkF m 20 #[.val (.ref a)] [(.ref a), (.ref f), (.ref b303), (.ref b287), (.ref b287)])) rfl rfl (hb hby d3_20)
  refine Go.via (st319) ?_
  clear st319
  clear X317 e317
  show Go p e below (T319.setTop (mkF m 23 #[.val (.ref a)] [(.int (2 : Int32)), (.ref f), (.ref b303), (.ref b287), (.ref b287)])) _
  have f320 : Ia Z T301.heap f .int [y0, y1, y2, y3] := (f309.keep K301q nin0)
  have z322 : n0 ≤ T301.heap.size := (Nat.le_trans z302 K301q.1)
  obtain ⟨_, _, ⟨T321, L321, k321, n321⟩, -, X321, ⟨Lc321, hQ321, l321, y321, z321⟩, st321⟩ := Jvm.LawKit.callS X319 hx (y := (⟨"java/util/Arrays", "copyOf", "([II)[I"⟩ : MethodName)) hown (mvT hZ (tw hw 25 rfl)) (mvT hZ (tw hw 26 rfl)) (mvT hZ (tw hw 27 rfl)) (mvT hZ (tw hw 28 rfl)) (by decide) (backOf (W := 3) (rmC l Z a0 hw [] f (2 : Int32) [y0, y1, y2, y3] T301.heap n0 z322 f320 (by first | decide | (simp only [List.length_cons, List.length_nil]; decide) | rfl) (by first | decide | (simp only [List.length_cons, List.length_nil]; decide) | rfl) (by first | decide | (simp only [List.length_cons, List.length_nil]; decide) | rfl) (by first | decide | (simp only [List.length_cons, List.length_nil]; decide) | rfl)) hZ (tw hw 28 rfl) (tw hw 27 rfl) (by decide) (by decide)) (g := (mkF m 23 #[.val (.ref a)] [(.int (2 : Int32)), (.ref f), (.ref b303), (.ref b287), (.ref b287)])) rfl (by rw [hml]; rfl) (argsL := [(.ref f), (.int (2 : Int32))]) (rest := [(.ref b303), (.ref b287), (.ref b287)]) (lenOf pd__28_5bII_29_5bI rfl) rfl (by show 2 * 0 + _ ≤ _; exact Nat.le_of_eq rfl) (hb hby d3_23) (fun _ _ => ⟨rfl, e319, (by decide : 2 + 1 ≤ _), (by decide : 11 + 8 ≤ _)⟩)
  dsimp only [Pt.U, Pt.locs, Pt.cells, Pt.slots] at X321 l321 y321 z321 st321 hQ321
  subst l321 y321 z321
  obtain ⟨b323, rfl, N321q, K321q, fz_b323, f324, f325⟩ := hQ321
  have N321 := Fr.app N301 N321q
  refine Go.via (st321) ?_
  clear st321
  have f326 : Fld Z T301.heap a "com/example/libcosearch/libcosearch/PostingList$Builder" "documents" "[I" (.ref d) := (f296.keep K301q nin0)
  have ne327 : a ≠ b323 := Nat.ne_of_lt (Nat.lt_of_lt_of_le f326.lt fz_b323)
  have f328 : Exa Z T301.heap b287 "com/example/libcosearch/libcosearch/PostingList" := (A287.keep K301q)
  have ne329 : b287 ≠ b323 := Nat.ne_of_lt (Nat.lt_of_lt_of_le f328.lt fz_b323)
  have ne330 : b303 ≠ b323 := Nat.ne_of_lt (Nat.lt_of_lt_of_le f314.lt fz_b323)
  have f331 : Ia Z T301.heap d .int [x0, x1, x2, x3] := (f300.keep K301q nin0)
  have ne332 : d ≠ b323 := Nat.ne_of_lt (Nat.lt_of_lt_of_le f331.lt fz_b323)
  have ne333 : f ≠ b323 := Nat.ne_of_lt (Nat.lt_of_lt_of_le f320.lt fz_b323)
  have ge334 : n0 ≤ b323 := Nat.le_trans z322 fz_b323
  have k336 : Keep h0 T301.heap [] := (k313.trans K301q all0)
  have sz335 : h0.size ≤ b323 := Nat.le_trans k336.1 fz_b323
  have e321 : T321.heap = T321.heap := rfl
  have f337 : Ia Z T321.heap b323 .int [y0, y1] := f324
  have f338 : Exa Z T321.heap b323 "[I" := f325
  clear X319 e319
  show Go p e below (T321.setTop (mkF m 26 #[.val (.ref a)] [(.ref b323), (.ref b303), (.ref b287), (.ref b287)])) _
  have f339 : Exa Z T321.heap b287 "com/example/libcosearch/libcosearch/PostingList" := (f328.keep K321q)
  have f340 : Fld Z T321.heap b287 "com/example/libcosearch/libcosearch/PostingList" "documents" "[I" .null := ((f293.keep K301q nin0).keep K321q nin0)
  have f341 : Fld Z T321.heap b287 "com/example/libcosearch/libcosearch/PostingList" "frequencies" "[I" .null := ((f294.keep K301q nin0).keep K321q nin0)
  have f342 : Fld Z T321.heap b287 "com/example/libcosearch/libcosearch/PostingList" "collectionFrequency" "J" (.long (0 : Int64)) := ((f295.keep K301q nin0).keep K321q nin0)
  have z344 : n0 ≤ T321.heap.size := (Nat.le_trans z322 K321q.1)
  obtain ⟨_, _, ⟨T343, L343, k343, n343⟩, -, X343, ⟨Lc343, hQ343, l343, y343, z343⟩, st343⟩ := X321.specialBack hx (y := (⟨"com/example/libcosearch/libcosearch/PostingList", "<init>", "([I[I)V"⟩ : MethodName)) rfl hown (mvT hZ (tw hw 37 rfl)) (mvT hZ (tw hw 38 rfl)) (mvT hZ (tw hw 39 rfl)) (by decide) (backOf (W := 1) (rmI2 l Z a0 hw [] b287 b303 b323 y0 y1 T321.heap n0 z344 f339 f340 f341 f342 f337 ge291 ne329) hZ (tw hw 39 rfl) (tw hw 22 rfl) (by decide) (by decide)) (g := (mkF m 26 #[.val (.ref a)] [(.ref b323), (.ref b303), (.ref b287), (.ref b287)])) rfl (by rw [hml]; rfl) (Steps.refl _) (a := b287) (argsL := [(.ref b303), (.ref b323)]) (rest := [(.ref b287)]) (lenOf pd__28_5bI_5bI_29V rfl) rfl (by show 2 * 0 + _ ≤ _; exact Nat.le_of_eq rfl) (hb hby d3_26) (fun _ _ => ⟨rfl, e321, (by decide : 3 + 0 ≤ _), (by decide : 19 + 0 ≤ _)⟩)
  dsimp only [Pt.U, Pt.locs, Pt.cells, Pt.slots] at X343 l343 y343 z343 st343 hQ343
  subst l343 y343 z343
  obtain ⟨rfl, N343q, K343q, f345, f346, f347, f348⟩ := hQ343
  have N343 := Fr.app N321 N343q
  refine Go.via (fun _ kQ => st343.trans kQ) ?_
  clear st343
  have e343 : T343.heap = T343.heap := rfl
  have f349 : Exa Z T343.heap b287 "com/example/libcosearch/libcosearch/PostingList" := f345
  have f350 : Fld Z T343.heap b287 "com/example/libcosearch/libcosearch/PostingList" "documents" "[I" (.ref b303) := f346
  have f351 : Fld Z T343.heap b287 "com/example/libcosearch/libcosearch/PostingList" "frequencies" "[I" (.ref b323) := f347
  have f352 : Fld Z T343.heap b287 "com/example/libcosearch/libcosearch/PostingList" "collectionFrequency" "J" (.long (((0 : Int64) + (y0.toInt64)) + (y1.toInt64))) := f348
  clear X321 e321
  show Go p e below (T343.setTop (mkF m 29 #[.val (.ref a)] [(.ref b287)])) _
  have k353 : Keep h0 T343.heap [] := ((k336.trans K321q all0).trans K343q (allS (Or.inr sz292) all0))
  have f354 : Ia Z T343.heap b303 .int [x0, x1] := ((f314.keep K321q nin0).keep K343q (ninS (Ne.symm ne307) nin0))
  have f355 : Ia Z T343.heap b323 .int [y0, y1] := (f337.keep K343q (ninS (Ne.symm ne329) nin0))
  exact Go.fin X343 hlk (v := some (.ref b287)) (fun h => by rw [Bd.returns] at h; cases h) (fun fs hr => retOut X343 hx Bd.returns rfl (Or.inr (Or.inr (Or.inr (Or.inr ⟨rfl, rfl, rfl⟩)))) (hb hby d3_29) hr) (by exact ⟨b287, b303, b323, rfl, N343, k353, sz292, sz312, sz335, f349, f350, f351, f352, f354, f355⟩) (by decide) (by decide)
def Q_rmU3 (Z : State) (a : Addr) (d : Addr) (f : Addr) (x0 : Int32) (x1 : Int32) (x2 : Int32) (x3 : Int32) (y0 : Int32) (y1 : Int32) (y2 : Int32) (y3 : Int32) (h0 : Heap) (n0 : Nat) (vQ : Option Value) (hQ : Heap) (LQ : List Loc) : Prop := ∃ r : Addr, ∃ rd : Addr, ∃ rf : Addr, vQ = some (.ref r) ∧ Fr n0 LQ ∧ Keep h0 hQ [] ∧ h0.size ≤ r ∧ h0.size ≤ rd ∧ h0.size ≤ rf ∧ Exa Z hQ r "com/example/libcosearch/libcosearch/PostingList" ∧ Fld Z hQ r "com/example/libcosearch/libcosearch/PostingList" "documents" "[I" (.ref rd) ∧ Fld Z hQ r "com/example/libcosearch/libcosearch/PostingList" "frequencies" "[I" (.ref rf) ∧ Fld Z hQ r "com/example/libcosearch/libcosearch/PostingList" "collectionFrequency" "J" (.long ((((0 : Int64) + (y0.toInt64)) + (y1.toInt64)) + (y2.toInt64))) ∧ Ia Z hQ rd .int [x0, x1, x2] ∧ Ia Z hQ rf .int [y0, y1, y2]
set_option maxRecDepth 65536 in
set_option maxHeartbeats 40000000 in
theorem rmU3 (l : Launch) (Z : State) (a0 : Array Value) (hw : ∀ d ∈ tables_1, d.before a0 Z = true) (ws : List Jvm.Cond) (a : Addr) (d : Addr) (f : Addr) (x0 : Int32) (x1 : Int32) (x2 : Int32) (x3 : Int32) (y0 : Int32) (y1 : Int32) (y2 : Int32) (y3 : Int32) (h0 : Heap) (n0 : Nat) (Z0 : n0 ≤ h0.size) (P0 : Fld Z h0 a "com/example/libcosearch/libcosearch/PostingList$Builder" "documents" "[I" (.ref d)) (P1 : Fld Z h0 a "com/example/libcosearch/libcosearch/PostingList$Builder" "frequencies" "[I" (.ref f)) (P2 : Fld Z h0 a "com/example/libcosearch/libcosearch/PostingList$Builder" "size" "I" (.int (3 : Int32))) (P3 : Ia Z h0 d .int [x0, x1, x2, x3]) (P4 : Ia Z h0 f .int [y0, y1, y2, y3]) (P5 : Exa Z h0 d "[I") (P6 : Exa Z h0 f "[I") :
    MetFree l (⟨"com/example/libcosearch/libcosearch/PostingList$Builder", "build", "()Lcom/example/libcosearch/libcosearch/PostingList;"⟩ : MethodName) (head1 (Jvm.Cond.code (⟨"com/example/libcosearch/libcosearch/PostingList$Builder", "build", "()Lcom/example/libcosearch/libcosearch/PostingList;"⟩ : MethodName) prog_24_method_3_code 1 (some (.object "com/example/libcosearch/libcosearch/PostingList")) :: ws) ({ frames := 2, cells := 3, slots := 19, locals := 57 } : Room)) (fun aQ UQ => aQ = #[(.ref a)] ∧ Z.Warmed39 UQ.vm ∧ UQ.heap = h0) (fun _ _ _ _ _ => True) (fun _ UQ oQ UR => ∃ vQ LQ, oQ = .returned vQ ∧ Q_rmU3 Z a d f x0 x1 x2 x3 y0 y1 y2 y3 h0 n0 vQ UR.heap LQ ∧ FrameEnd UQ oQ UR LQ ({ frames := 2, cells := 3, slots := 19, locals := 57 } : Room).cells ({ frames := 2, cells := 3, slots := 19, locals := 57 } : Room).slots) := by
  refine MetFree.of_bodySF (plainFor_of_name pn_3) hisR ?_
  intro p e s m args below meth c s₁ Bd hml0 hP hK
  obtain ⟨rfl, hZ, hh⟩ := hP
  have hx := Bd.exec
  have hby := Bd.bytes
  have hlk := Bd.notSynchronized
  have hml : c.maxLocals = 1 := hml0
  have hown : s.vm.findClass "com/example/libcosearch/libcosearch/PostingList$Builder" = some m.cls := findClass_of_methodNamed Bd.named
  have hnm := (name_of_methodNamed Bd.named Bd.method).1
  have X0 : Stand p l e ({ frames := 2, cells := 3, slots := 19, locals := 57 } : Room) s m #[(.ref a)] below meth c s₁ [] 0 0 := Stand.of_body Bd
  have e0 : s₁.heap = h0 := by rw [← hh, Bd.state]; rfl
  have N0 := Fr.nil n0
  show Go p e below _ (Done s (Q_rmU3 Z a d f x0 x1 x2 x3 y0 y1 y2 y3 h0 n0) ({ frames := 2, cells := 3, slots := 19, locals := 57 } : Room).cells ({ frames := 2, cells := 3, slots := 19, locals := 57 } : Room).slots)
  refine Go.via (fun tQ kQ => castTop (ef_3 m a) kQ) ?_
  show Go p e below (s₁.setTop (mkF m 0 #[.val (.ref a)] [])) _
  obtain ⟨T356, h356, X356, e356, E356, A356, D356, -, st356⟩ := newO X0 hx hZ hown (tw hw 20 rfl) (tw hw 21 rfl) (tw hw 22 rfl) e0 (g := (mkF m 0 #[.val (.ref a)] [])) rfl (hb hby d3_0) (by decide) (by decide)
  obtain ⟨b356, g356⟩ : ∃ z, z = h0.size := ⟨_, rfl⟩
  rw [← g356] at A356 D356 st356
  have ne357 : a ≠ b356 := Nat.ne_of_lt (Nat.lt_of_lt_of_le P0.lt (Nat.le_of_eq g356.symm))
  have ne358 : d ≠ b356 := Nat.ne_of_lt (Nat.lt_of_lt_of_le P3.lt (Nat.le_of_eq g356.symm))
  have ne359 : f ≠ b356 := Nat.ne_of_lt (Nat.lt_of_lt_of_le P4.lt (Nat.le_of_eq g356.symm))
  have ge360 : n0 ≤ b356 := Nat.le_trans Z0 (Nat.le_of_eq g356.symm)
  have sz361 : h0.size ≤ b356 := Nat.le_trans (Keep.refl h0 []).1 (Nat.le_of_eq g356.symm)
  refine Go.via (st356) ?_
  clear st356
  have f362 : Fld Z h356 b356 "com/example/libcosearch/libcosearch/PostingList" "documents" "[I" .null := D356 (Or.inr (tw hw 42 rfl)) (ty := (.array .int)) (by decide)
  have f363 : Fld Z h356 b356 "com/example/libcosearch/libcosearch/PostingList" "frequencies" "[I" .null := D356 (Or.inr (tw hw 44 rfl)) (ty := (.array .int)) (by decide)
  have f364 : Fld Z h356 b356 "com/example/libcosearch/libcosearch/PostingList" "collectionFrequency" "J" (.long (0 : Int64)) := D356 (Or.inr (tw hw 46 rfl)) (ty := .long) (by decide)
  clear X0 e0
  show Go p e below (T356.setTop (mkF m 3 #[.val (.ref a)] [(.ref b356)])) _
  refine Go.via (fun _ => XS.dup X356.here hx rfl (hb hby d3_3) rfl rfl) ?_
  refine Go.via (fun _ => XS.aloadN X356.here hx rfl (hb hby d3_4) rfl rfl) ?_
  have f365 : Fld Z h356 a "com/example/libcosearch/libcosearch/PostingList$Builder" "documents" "[I" (.ref d) := (P0.ext E356)
  obtain ⟨T366, X366, e366, st366⟩ := getF X356 hx hZ hown (host := "") (Or.inl (tw hw 11 rfl)) Via.refl e356 f365 (g := (mkF m 5 #[.val (.ref a)] [(.ref a), (.ref b356), (.ref b356)])) rfl rfl (hb hby d3_5)
  refine Go.via (st366) ?_
  clear st366
  clear X356 e356
  show Go p e below (T366.setTop (mkF m 8 #[.val (.ref a)] [(.ref d), (.ref b356), (.ref b356)])) _
  refine Go.via (fun _ => XS.aloadN X366.here hx rfl (hb hby d3_8) rfl rfl) ?_
  have f367 : Fld Z h356 a "com/example/libcosearch/libcosearch/PostingList$Builder" "size" "I" (.int (3 : Int32)) := (P2.ext E356)
  obtain ⟨T368, X368, e368, st368⟩ := getF X366 hx hZ hown (host := "") (Or.inl (tw hw 23 rfl)) Via.refl e366 f367 (g := (mkF m 9 #[.val (.ref a)] [(.ref a), (.ref d), (.ref b356), (.ref b356)])) rfl rfl (hb hby d3_9)
  refine Go.via (st368) ?_
  clear st368
  clear X366 e366
  show Go p e below (T368.setTop (mkF m 12 #[.val (.ref a)] [(.int (3 : Int32)), (.ref d), (.ref b356), (.ref b356)])) _
  have f369 : Ia Z h356 d .int [x0, x1, x2, x3] := (P3.ext E356)
  have z371 : n0 ≤ h356.size := (Nat.le_trans Z0 E356.1)
  obtain ⟨_, _, ⟨T370, L370, k370, n370⟩, -, X370, ⟨Lc370, hQ370, l370, y370, z370⟩, st370⟩ := Jvm.LawKit.callS X368 hx (y := (⟨"java/util/Arrays", "copyOf", "([II)[I"⟩ : MethodName)) hown (mvT hZ (tw hw 25 rfl)) (mvT hZ (tw hw 26 rfl)) (mvT hZ (tw hw 27 rfl)) (mvT hZ (tw hw 28 rfl)) (by decide) (backOf (W := 2) (rmC l Z a0 hw [] d (3 : Int32) [x0, x1, x2, x3] h356 n0 z371 f369 (by first | decide | (simp only [List.length_cons, List.length_nil]; decide) | rfl) (by first | decide | (simp only [List.length_cons, List.length_nil]; decide) | rfl) (by first | decide | (simp only [List.length_cons, List.length_nil]; decide) | rfl) (by first | decide | (simp only [List.length_cons, List.length_nil]; decide) | rfl)) hZ (tw hw 28 rfl) (tw hw 27 rfl) (by decide) (by decide)) (g := (mkF m 12 #[.val (.ref a)] [(.int (3 : Int32)), (.ref d), (.ref b356), (.ref b356)])) rfl (by rw [hml]; rfl) (argsL := [(.ref d), (.int (3 : Int32))]) (rest := [(.ref b356), (.ref b356)]) (lenOf pd__28_5bII_29_5bI rfl) rfl (by show 2 * 0 + _ ≤ _; exact Nat.le_of_eq rfl) (hb hby d3_12) (fun _ _ => ⟨rfl, e368, (by decide : 1 + 1 ≤ _), (by decide : 3 + 8 ≤ _)⟩)
  dsimp only [Pt.U, Pt.locs, Pt.cells, Pt.slots] at X370 l370 y370 z370 st370 hQ370
  subst l370 y370 z370
  obtain ⟨b372, rfl, N370q, K370q, fz_b372, f373, f374⟩ := hQ370
  have N370 := Fr.app N0 N370q
  refine Go.via (st370) ?_
  clear st370
  have ne375 : a ≠ b372 := Nat.ne_of_lt (Nat.lt_of_lt_of_le f365.lt fz_b372)
  have ne376 : b356 ≠ b372 := Nat.ne_of_lt (Nat.lt_of_lt_of_le A356.lt fz_b372)
  have ne377 : d ≠ b372 := Nat.ne_of_lt (Nat.lt_of_lt_of_le f369.lt fz_b372)
  have f378 : Ia Z h356 f .int [y0, y1, y2, y3] := (P4.ext E356)
  have ne379 : f ≠ b372 := Nat.ne_of_lt (Nat.lt_of_lt_of_le f378.lt fz_b372)
  have ge380 : n0 ≤ b372 := Nat.le_trans z371 fz_b372
  have k382 : Keep h0 h356 [] := ((Keep.refl h0 []).ext E356)
  have sz381 : h0.size ≤ b372 := Nat.le_trans k382.1 fz_b372
  have e370 : T370.heap = T370.heap := rfl
  have f383 : Ia Z T370.heap b372 .int [x0, x1, x2] := f373
  have f384 : Exa Z T370.heap b372 "[I" := f374
  clear X368 e368
  show Go p e below (T370.setTop (mkF m 15 #[.val (.ref a)] [(.ref b372), (.ref b356), (.ref b356)])) _
  refine Go.via (fun _ => XS.aloadN X370.here hx rfl (hb hby d3_15) rfl rfl) ?_
  have f385 : Fld Z T370.heap a "com/example/libcosearch/libcosearch/PostingList$Builder" "frequencies" "[I" (.ref f) := ((P1.ext E356).keep K370q nin0)
  obtain ⟨T386, X386, e386, st386⟩ := getF X370 hx hZ hown (host := "") (Or.inl (tw hw 13 rfl)) Via.refl e370 f385 (g := (mkF m 16 #[.val (.ref a)] [(.ref a), (.ref b372), (.ref b356), (.ref b356)])) rfl rfl (hb hby d3_16)
  refine Go.via (st386) ?_
  clear st386
  clear X370 e370
  show Go p e below (T386.setTop (mkF m 19 #[.val (.ref a)] [(.ref f), (.ref b372), (.ref b356), (.ref b356)])) _
  refine Go.via (fun _ => XS.aloadN X386.here hx rfl (hb hby d3_19) rfl rfl) ?_
  have f387 : Fld Z T370.heap a "com/example/libcosearch/libcosearch/PostingList$Builder" "size" "I" (.int (3 : Int32)) := (f367.keep K370q nin0)
  obtain ⟨T388, X388, e388, st388⟩ := getF X386 hx hZ hown (host := "") (Or.inl (tw hw 23 rfl)) Via.refl e386 f387 (g := (mkF m 20 #[.val (.ref a)] [(.ref a), (.ref f), (.ref b372), (.ref b356), (.ref b356)])) rfl rfl (hb hby d3_20)
  refine Go.via (st388) ?_
  clear st388
  clear X386 e386
  show Go p e below (T388.setTop (mkF m 23 #[.val (.ref a)] [(.int (3 : Int32)), (.ref f), (.ref b372), (.ref b356), (.ref b356)])) _
  have f389 : Ia Z T370.heap f .int [y0, y1, y2, y3] := (f378.keep K370q nin0)
  have z391 : n0 ≤ T370.heap.size := (Nat.le_trans z371 K370q.1)
  obtain ⟨_, _, ⟨T390, L390, k390, n390⟩, -, X390, ⟨Lc390, hQ390, l390, y390, z390⟩, st390⟩ := Jvm.LawKit.callS X388 hx (y := (⟨"java/util/Arrays", "copyOf", "([II)[I"⟩ : MethodName)) hown (mvT hZ (tw hw 25 rfl)) (mvT hZ (tw hw 26 rfl)) (mvT hZ (tw hw 27 rfl)) (mvT hZ (tw hw 28 rfl)) (by decide) (backOf (W := 3) (rmC l Z a0 hw [] f (3 : Int32) [y0, y1, y2, y3] T370.heap n0 z391 f389 (by first | decide | (simp only [List.length_cons, List.length_nil]; decide) | rfl) (by first | decide | (simp only [List.length_cons, List.length_nil]; decide) | rfl) (by first | decide | (simp only [List.length_cons, List.length_nil]; decide) | rfl) (by first | decide | (simp only [List.length_cons, List.length_nil]; decide) | rfl)) hZ (tw hw 28 rfl) (tw hw 27 rfl) (by decide) (by decide)) (g := (mkF m 23 #[.val (.ref a)] [(.int (3 : Int32)), (.ref f), (.ref b372), (.ref b356), (.ref b356)])) rfl (by rw [hml]; rfl) (argsL := [(.ref f), (.int (3 : Int32))]) (rest := [(.ref b372), (.ref b356), (.ref b356)]) (lenOf pd__28_5bII_29_5bI rfl) rfl (by show 2 * 0 + _ ≤ _; exact Nat.le_of_eq rfl) (hb hby d3_23) (fun _ _ => ⟨rfl, e388, (by decide : 2 + 1 ≤ _), (by decide : 11 + 8 ≤ _)⟩)
  dsimp only [Pt.U, Pt.locs, Pt.cells, Pt.slots] at X390 l390 y390 z390 st390 hQ390
  subst l390 y390 z390
  obtain ⟨b392, rfl, N390q, K390q, fz_b392, f393, f394⟩ := hQ390
  have N390 := Fr.app N370 N390q
  refine Go.via (st390) ?_
  clear st390
  have f395 : Fld Z T370.heap a "com/example/libcosearch/libcosearch/PostingList$Builder" "documents" "[I" (.ref d) := (f365.keep K370q nin0)
  have ne396 : a ≠ b392 := Nat.ne_of_lt (Nat.lt_of_lt_of_le f395.lt fz_b392)
  have f397 : Exa Z T370.heap b356 "com/example/libcosearch/libcosearch/PostingList" := (A356.keep K370q)
  have ne398 : b356 ≠ b392 := Nat.ne_of_lt (Nat.lt_of_lt_of_le f397.lt fz_b392)
  have ne399 : b372 ≠ b392 := Nat.ne_of_lt (Nat.lt_of_lt_of_le f383.lt fz_b392)
  have f400 : Ia Z T370.heap d .int [x0, x1, x2, x3] := (f369.keep K370q nin0)
  have ne401 : d ≠ b392 := Nat.ne_of_lt (Nat.lt_of_lt_of_le f400.lt fz_b392)
  have ne402 : f ≠ b392 := Nat.ne_of_lt (Nat.lt_of_lt_of_le f389.lt fz_b392)
  have ge403 : n0 ≤ b392 := Nat.le_trans z391 fz_b392
  have k405 : Keep h0 T370.heap [] := (k382.trans K370q all0)
  have sz404 : h0.size ≤ b392 := Nat.le_trans k405.1 fz_b392
  have e390 : T390.heap = T390.heap := rfl
  have f406 : Ia Z T390.heap b392 .int [y0, y1, y2] := f393
  have f407 : Exa Z T390.heap b392 "[I" := f394
  clear X388 e388
  show Go p e below (T390.setTop (mkF m 26 #[.val (.ref a)] [(.ref b392), (.ref b372), (.ref b356), (.ref b356)])) _
  have f408 : Exa Z T390.heap b356 "com/example/libcosearch/libcosearch/PostingList" := (f397.keep K390q)
  have f409 : Fld Z T390.heap b356 "com/example/libcosearch/libcosearch/PostingList" "documents" "[I" .null := ((f362.keep K370q nin0).keep K390q nin0)
  have f410 : Fld Z T390.heap b356 "com/example/libcosearch/libcosearch/PostingList" "frequencies" "[I" .null := ((f363.keep K370q nin0).keep K390q nin0)
  have f411 : Fld Z T390.heap b356 "com/example/libcosearch/libcosearch/PostingList" "collectionFrequency" "J" (.long (0 : Int64)) := ((f364.keep K370q nin0).keep K390q nin0)
  have z413 : n0 ≤ T390.heap.size := (Nat.le_trans z391 K390q.1)
  obtain ⟨_, _, ⟨T412, L412, k412, n412⟩, -, X412, ⟨Lc412, hQ412, l412, y412, z412⟩, st412⟩ := X390.specialBack hx (y := (⟨"com/example/libcosearch/libcosearch/PostingList", "<init>", "([I[I)V"⟩ : MethodName)) rfl hown (mvT hZ (tw hw 37 rfl)) (mvT hZ (tw hw 38 rfl)) (mvT hZ (tw hw 39 rfl)) (by decide) (backOf (W := 1) (rmI3 l Z a0 hw [] b356 b372 b392 y0 y1 y2 T390.heap n0 z413 f408 f409 f410 f411 f406 ge360 ne398) hZ (tw hw 39 rfl) (tw hw 22 rfl) (by decide) (by decide)) (g := (mkF m 26 #[.val (.ref a)] [(.ref b392), (.ref b372), (.ref b356), (.ref b356)])) rfl (by rw [hml]; rfl) (Steps.refl _) (a := b356) (argsL := [(.ref b372), (.ref b392)]) (rest := [(.ref b356)]) (lenOf pd__28_5bI_5bI_29V rfl) rfl (by show 2 * 0 + _ ≤ _; exact Nat.le_of_eq rfl) (hb hby d3_26) (fun _ _ => ⟨rfl, e390, (by decide : 3 + 0 ≤ _), (by decide : 19 + 0 ≤ _)⟩)
  dsimp only [Pt.U, Pt.locs, Pt.cells, Pt.slots] at X412 l412 y412 z412 st412 hQ412
  subst l412 y412 z412
  obtain ⟨rfl, N412q, K412q, f414, f415, f416, f417⟩ := hQ412
  have N412 := Fr.app N390 N412q
  refine Go.via (fun _ kQ => st412.trans kQ) ?_
  clear st412
  have e412 : T412.heap = T412.heap := rfl
  have f418 : Exa Z T412.heap b356 "com/example/libcosearch/libcosearch/PostingList" := f414
  have f419 : Fld Z T412.heap b356 "com/example/libcosearch/libcosearch/PostingList" "documents" "[I" (.ref b372) := f415
  have f420 : Fld Z T412.heap b356 "com/example/libcosearch/libcosearch/PostingList" "frequencies" "[I" (.ref b392) := f416
  have f421 : Fld Z T412.heap b356 "com/example/libcosearch/libcosearch/PostingList" "collectionFrequency" "J" (.long ((((0 : Int64) + (y0.toInt64)) + (y1.toInt64)) + (y2.toInt64))) := f417
  clear X390 e390
  show Go p e below (T412.setTop (mkF m 29 #[.val (.ref a)] [(.ref b356)])) _
  have k422 : Keep h0 T412.heap [] := ((k405.trans K390q all0).trans K412q (allS (Or.inr sz361) all0))
  have f423 : Ia Z T412.heap b372 .int [x0, x1, x2] := ((f383.keep K390q nin0).keep K412q (ninS (Ne.symm ne376) nin0))
  have f424 : Ia Z T412.heap b392 .int [y0, y1, y2] := (f406.keep K412q (ninS (Ne.symm ne398) nin0))
  exact Go.fin X412 hlk (v := some (.ref b356)) (fun h => by rw [Bd.returns] at h; cases h) (fun fs hr => retOut X412 hx Bd.returns rfl (Or.inr (Or.inr (Or.inr (Or.inr ⟨rfl, rfl, rfl⟩)))) (hb hby d3_29) hr) (by exact ⟨b356, b372, b392, rfl, N412, k422, sz361, sz381, sz404, f418, f419, f420, f421, f423, f424⟩) (by decide) (by decide)
def Q_rmU4 (Z : State) (a : Addr) (d : Addr) (f : Addr) (x0 : Int32) (x1 : Int32) (x2 : Int32) (x3 : Int32) (y0 : Int32) (y1 : Int32) (y2 : Int32) (y3 : Int32) (h0 : Heap) (n0 : Nat) (vQ : Option Value) (hQ : Heap) (LQ : List Loc) : Prop := ∃ r : Addr, ∃ rd : Addr, ∃ rf : Addr, vQ = some (.ref r) ∧ Fr n0 LQ ∧ Keep h0 hQ [] ∧ h0.size ≤ r ∧ h0.size ≤ rd ∧ h0.size ≤ rf ∧ Exa Z hQ r "com/example/libcosearch/libcosearch/PostingList" ∧ Fld Z hQ r "com/example/libcosearch/libcosearch/PostingList" "documents" "[I" (.ref rd) ∧ Fld Z hQ r "com/example/libcosearch/libcosearch/PostingList" "frequencies" "[I" (.ref rf) ∧ Fld Z hQ r "com/example/libcosearch/libcosearch/PostingList" "collectionFrequency" "J" (.long (((((0 : Int64) + (y0.toInt64)) + (y1.toInt64)) + (y2.toInt64)) + (y3.toInt64))) ∧ Ia Z hQ rd .int [x0, x1, x2, x3] ∧ Ia Z hQ rf .int [y0, y1, y2, y3]
set_option maxRecDepth 65536 in
set_option maxHeartbeats 40000000 in
theorem rmU4 (l : Launch) (Z : State) (a0 : Array Value) (hw : ∀ d ∈ tables_1, d.before a0 Z = true) (ws : List Jvm.Cond) (a : Addr) (d : Addr) (f : Addr) (x0 : Int32) (x1 : Int32) (x2 : Int32) (x3 : Int32) (y0 : Int32) (y1 : Int32) (y2 : Int32) (y3 : Int32) (h0 : Heap) (n0 : Nat) (Z0 : n0 ≤ h0.size) (P0 : Fld Z h0 a "com/example/libcosearch/libcosearch/PostingList$Builder" "documents" "[I" (.ref d)) (P1 : Fld Z h0 a "com/example/libcosearch/libcosearch/PostingList$Builder" "frequencies" "[I" (.ref f)) (P2 : Fld Z h0 a "com/example/libcosearch/libcosearch/PostingList$Builder" "size" "I" (.int (4 : Int32))) (P3 : Ia Z h0 d .int [x0, x1, x2, x3]) (P4 : Ia Z h0 f .int [y0, y1, y2, y3]) (P5 : Exa Z h0 d "[I") (P6 : Exa Z h0 f "[I") :
    MetFree l (⟨"com/example/libcosearch/libcosearch/PostingList$Builder", "build", "()Lcom/example/libcosearch/libcosearch/PostingList;"⟩ : MethodName) (head1 (Jvm.Cond.code (⟨"com/example/libcosearch/libcosearch/PostingList$Builder", "build", "()Lcom/example/libcosearch/libcosearch/PostingList;"⟩ : MethodName) prog_24_method_3_code 1 (some (.object "com/example/libcosearch/libcosearch/PostingList")) :: ws) ({ frames := 2, cells := 3, slots := 19, locals := 33 } : Room)) (fun aQ UQ => aQ = #[(.ref a)] ∧ Z.Warmed39 UQ.vm ∧ UQ.heap = h0) (fun _ _ _ _ _ => True) (fun _ UQ oQ UR => ∃ vQ LQ, oQ = .returned vQ ∧ Q_rmU4 Z a d f x0 x1 x2 x3 y0 y1 y2 y3 h0 n0 vQ UR.heap LQ ∧ FrameEnd UQ oQ UR LQ ({ frames := 2, cells := 3, slots := 19, locals := 33 } : Room).cells ({ frames := 2, cells := 3, slots := 19, locals := 33 } : Room).slots) := by
  refine MetFree.of_bodySF (plainFor_of_name pn_3) hisR ?_
  intro p e s m args below meth c s₁ Bd hml0 hP hK
  obtain ⟨rfl, hZ, hh⟩ := hP
  have hx := Bd.exec
  have hby := Bd.bytes
  have hlk := Bd.notSynchronized
  have hml : c.maxLocals = 1 := hml0
  have hown : s.vm.findClass "com/example/libcosearch/libcosearch/PostingList$Builder" = some m.cls := findClass_of_methodNamed Bd.named
  have hnm := (name_of_methodNamed Bd.named Bd.method).1
  have X0 : Stand p l e ({ frames := 2, cells := 3, slots := 19, locals := 33 } : Room) s m #[(.ref a)] below meth c s₁ [] 0 0 := Stand.of_body Bd
  have e0 : s₁.heap = h0 := by rw [← hh, Bd.state]; rfl
  have N0 := Fr.nil n0
  show Go p e below _ (Done s (Q_rmU4 Z a d f x0 x1 x2 x3 y0 y1 y2 y3 h0 n0) ({ frames := 2, cells := 3, slots := 19, locals := 33 } : Room).cells ({ frames := 2, cells := 3, slots := 19, locals := 33 } : Room).slots)
  refine Go.via (fun tQ kQ => castTop (ef_3 m a) kQ) ?_
  show Go p e below (s₁.setTop (mkF m 0 #[.val (.ref a)] [])) _
  obtain ⟨T425, h425, X425, e425, E425, A425, D425, -, st425⟩ := newO X0 hx hZ hown (tw hw 20 rfl) (tw hw 21 rfl) (tw hw 22 rfl) e0 (g := (mkF m 0 #[.val (.ref a)] [])) rfl (hb hby d3_0) (by decide) (by decide)
  obtain ⟨b425, g425⟩ : ∃ z, z = h0.size := ⟨_, rfl⟩
  rw [← g425] at A425 D425 st425
  have ne426 : a ≠ b425 := Nat.ne_of_lt (Nat.lt_of_lt_of_le P0.lt (Nat.le_of_eq g425.symm))
  have ne427 : d ≠ b425 := Nat.ne_of_lt (Nat.lt_of_lt_of_le P3.lt (Nat.le_of_eq g425.symm))
  have ne428 : f ≠ b425 := Nat.ne_of_lt (Nat.lt_of_lt_of_le P4.lt (Nat.le_of_eq g425.symm))
  have ge429 : n0 ≤ b425 := Nat.le_trans Z0 (Nat.le_of_eq g425.symm)
  have sz430 : h0.size ≤ b425 := Nat.le_trans (Keep.refl h0 []).1 (Nat.le_of_eq g425.symm)
  refine Go.via (st425) ?_
  clear st425
  have f431 : Fld Z h425 b425 "com/example/libcosearch/libcosearch/PostingList" "documents" "[I" .null := D425 (Or.inr (tw hw 42 rfl)) (ty := (.array .int)) (by decide)
  have f432 : Fld Z h425 b425 "com/example/libcosearch/libcosearch/PostingList" "frequencies" "[I" .null := D425 (Or.inr (tw hw 44 rfl)) (ty := (.array .int)) (by decide)
  have f433 : Fld Z h425 b425 "com/example/libcosearch/libcosearch/PostingList" "collectionFrequency" "J" (.long (0 : Int64)) := D425 (Or.inr (tw hw 46 rfl)) (ty := .long) (by decide)
  clear X0 e0
  show Go p e below (T425.setTop (mkF m 3 #[.val (.ref a)] [(.ref b425)])) _
  refine Go.via (fun _ => XS.dup X425.here hx rfl (hb hby d3_3) rfl rfl) ?_
  refine Go.via (fun _ => XS.aloadN X425.here hx rfl (hb hby d3_4) rfl rfl) ?_
  have f434 : Fld Z h425 a "com/example/libcosearch/libcosearch/PostingList$Builder" "documents" "[I" (.ref d) := (P0.ext E425)
  obtain ⟨T435, X435, e435, st435⟩ := getF X425 hx hZ hown (host := "") (Or.inl (tw hw 11 rfl)) Via.refl e425 f434 (g := (mkF m 5 #[.val (.ref a)] [(.ref a), (.ref b425), (.ref b425)])) rfl rfl (hb hby d3_5)
  refine Go.via (st435) ?_
  clear st435
  clear X425 e425
  show Go p e below (T435.setTop (mkF m 8 #[.val (.ref a)] [(.ref d), (.ref b425), (.ref b425)])) _
  refine Go.via (fun _ => XS.aloadN X435.here hx rfl (hb hby d3_8) rfl rfl) ?_
  have f436 : Fld Z h425 a "com/example/libcosearch/libcosearch/PostingList$Builder" "size" "I" (.int (4 : Int32)) := (P2.ext E425)
  obtain ⟨T437, X437, e437, st437⟩ := getF X435 hx hZ hown (host := "") (Or.inl (tw hw 23 rfl)) Via.refl e435 f436 (g := (mkF m 9 #[.val (.ref a)] [(.ref a), (.ref d), (.ref b425), (.ref b425)])) rfl rfl (hb hby d3_9)
  refine Go.via (st437) ?_
  clear st437
  clear X435 e435
  show Go p e below (T437.setTop (mkF m 12 #[.val (.ref a)] [(.int (4 : Int32)), (.ref d), (.ref b425), (.ref b425)])) _
  have f438 : Ia Z h425 d .int [x0, x1, x2, x3] := (P3.ext E425)
  have f439 : Exa Z h425 d "[I" := (P5.ext E425)
  have z441 : n0 ≤ h425.size := (Nat.le_trans Z0 E425.1)
  obtain ⟨_, _, ⟨T440, L440, k440, n440⟩, -, X440, ⟨Lc440, hQ440, l440, y440, z440⟩, st440⟩ := Jvm.LawKit.callS X437 hx (y := (⟨"java/util/Arrays", "copyOf", "([II)[I"⟩ : MethodName)) hown (mvT hZ (tw hw 25 rfl)) (mvT hZ (tw hw 26 rfl)) (mvT hZ (tw hw 27 rfl)) (mvT hZ (tw hw 28 rfl)) (by decide) (backOf (W := 2) (rmK l Z a0 hw [] d (4 : Int32) [x0, x1, x2, x3] h425 n0 z441 f438 f439 rfl (by first | decide | (simp only [List.length_cons, List.length_nil]; decide) | rfl)) hZ (tw hw 28 rfl) (tw hw 27 rfl) (by decide) (by decide)) (g := (mkF m 12 #[.val (.ref a)] [(.int (4 : Int32)), (.ref d), (.ref b425), (.ref b425)])) rfl (by rw [hml]; rfl) (argsL := [(.ref d), (.int (4 : Int32))]) (rest := [(.ref b425), (.ref b425)]) (lenOf pd__28_5bII_29_5bI rfl) rfl (by show 2 * 0 + _ ≤ _; exact Nat.le_of_eq rfl) (hb hby d3_12) (fun _ _ => ⟨rfl, e437, (by decide : 1 + 1 ≤ _), (by decide : 3 + 8 ≤ _)⟩)
  dsimp only [Pt.U, Pt.locs, Pt.cells, Pt.slots] at X440 l440 y440 z440 st440 hQ440
  subst l440 y440 z440
  obtain ⟨b442, rfl, N440q, K440q, fz_b442, f443, f444⟩ := hQ440
  have N440 := Fr.app N0 N440q
  refine Go.via (st440) ?_
  clear st440
  have ne445 : a ≠ b442 := Nat.ne_of_lt (Nat.lt_of_lt_of_le f434.lt fz_b442)
  have ne446 : b425 ≠ b442 := Nat.ne_of_lt (Nat.lt_of_lt_of_le A425.lt fz_b442)
  have ne447 : d ≠ b442 := Nat.ne_of_lt (Nat.lt_of_lt_of_le f438.lt fz_b442)
  have f448 : Ia Z h425 f .int [y0, y1, y2, y3] := (P4.ext E425)
  have ne449 : f ≠ b442 := Nat.ne_of_lt (Nat.lt_of_lt_of_le f448.lt fz_b442)
  have ge450 : n0 ≤ b442 := Nat.le_trans z441 fz_b442
  have k452 : Keep h0 h425 [] := ((Keep.refl h0 []).ext E425)
  have sz451 : h0.size ≤ b442 := Nat.le_trans k452.1 fz_b442
  have e440 : T440.heap = T440.heap := rfl
  have f453 : Ia Z T440.heap b442 .int [x0, x1, x2, x3] := f443
  have f454 : Exa Z T440.heap b442 "[I" := f444
  clear X437 e437
  show Go p e below (T440.setTop (mkF m 15 #[.val (.ref a)] [(.ref b442), (.ref b425), (.ref b425)])) _
  refine Go.via (fun _ => XS.aloadN X440.here hx rfl (hb hby d3_15) rfl rfl) ?_
  have f455 : Fld Z T440.heap a "com/example/libcosearch/libcosearch/PostingList$Builder" "frequencies" "[I" (.ref f) := ((P1.ext E425).keep K440q nin0)
  obtain ⟨T456, X456, e456, st456⟩ := getF X440 hx hZ hown (host := "") (Or.inl (tw hw 13 rfl)) Via.refl e440 f455 (g := (mkF m 16 #[.val (.ref a)] [(.ref a), (.ref b442), (.ref b425), (.ref b425)])) rfl rfl (hb hby d3_16)
  refine Go.via (st456) ?_
  clear st456
  clear X440 e440
  show Go p e below (T456.setTop (mkF m 19 #[.val (.ref a)] [(.ref f), (.ref b442), (.ref b425), (.ref b425)])) _
  refine Go.via (fun _ => XS.aloadN X456.here hx rfl (hb hby d3_19) rfl rfl) ?_
  have f457 : Fld Z T440.heap a "com/example/libcosearch/libcosearch/PostingList$Builder" "size" "I" (.int (4 : Int32)) := (f436.keep K440q nin0)
  obtain ⟨T458, X458, e458, st458⟩ := getF X456 hx hZ hown (host := "") (Or.inl (tw hw 23 rfl)) Via.refl e456 f457 (g := (mkF m 20 #[.val (.ref a)] [(.ref a), (.ref f), (.ref b442), (.ref b425), (.ref b425)])) rfl rfl (hb hby d3_20)
  refine Go.via (st458) ?_
  clear st458
  clear X456 e456
  show Go p e below (T458.setTop (mkF m 23 #[.val (.ref a)] [(.int (4 : Int32)), (.ref f), (.ref b442), (.ref b425), (.ref b425)])) _
  have f459 : Ia Z T440.heap f .int [y0, y1, y2, y3] := (f448.keep K440q nin0)
  have f460 : Exa Z T440.heap f "[I" := ((P6.ext E425).keep K440q)
  have z462 : n0 ≤ T440.heap.size := (Nat.le_trans z441 K440q.1)
  obtain ⟨_, _, ⟨T461, L461, k461, n461⟩, -, X461, ⟨Lc461, hQ461, l461, y461, z461⟩, st461⟩ := Jvm.LawKit.callS X458 hx (y := (⟨"java/util/Arrays", "copyOf", "([II)[I"⟩ : MethodName)) hown (mvT hZ (tw hw 25 rfl)) (mvT hZ (tw hw 26 rfl)) (mvT hZ (tw hw 27 rfl)) (mvT hZ (tw hw 28 rfl)) (by decide) (backOf (W := 3) (rmK l Z a0 hw [] f (4 : Int32) [y0, y1, y2, y3] T440.heap n0 z462 f459 f460 rfl (by first | decide | (simp only [List.length_cons, List.length_nil]; decide) | rfl)) hZ (tw hw 28 rfl) (tw hw 27 rfl) (by decide) (by decide)) (g := (mkF m 23 #[.val (.ref a)] [(.int (4 : Int32)), (.ref f), (.ref b442), (.ref b425), (.ref b425)])) rfl (by rw [hml]; rfl) (argsL := [(.ref f), (.int (4 : Int32))]) (rest := [(.ref b442), (.ref b425), (.ref b425)]) (lenOf pd__28_5bII_29_5bI rfl) rfl (by show 2 * 0 + _ ≤ _; exact Nat.le_of_eq rfl) (hb hby d3_23) (fun _ _ => ⟨rfl, e458, (by decide : 2 + 1 ≤ _), (by decide : 11 + 8 ≤ _)⟩)
  dsimp only [Pt.U, Pt.locs, Pt.cells, Pt.slots] at X461 l461 y461 z461 st461 hQ461
  subst l461 y461 z461
  obtain ⟨b463, rfl, N461q, K461q, fz_b463, f464, f465⟩ := hQ461
  have N461 := Fr.app N440 N461q
  refine Go.via (st461) ?_
  clear st461
  have f466 : Fld Z T440.heap a "com/example/libcosearch/libcosearch/PostingList$Builder" "documents" "[I" (.ref d) := (f434.keep K440q nin0)
  have ne467 : a ≠ b463 := Nat.ne_of_lt (Nat.lt_of_lt_of_le f466.lt fz_b463)
  have f468 : Exa Z T440.heap b425 "com/example/libcosearch/libcosearch/PostingList" := (A425.keep K440q)
  have ne469 : b425 ≠ b463 := Nat.ne_of_lt (Nat.lt_of_lt_of_le f468.lt fz_b463)
  have ne470 : b442 ≠ b463 := Nat.ne_of_lt (Nat.lt_of_lt_of_le f453.lt fz_b463)
  have f471 : Ia Z T440.heap d .int [x0, x1, x2, x3] := (f438.keep K440q nin0)
  have ne472 : d ≠ b463 := Nat.ne_of_lt (Nat.lt_of_lt_of_le f471.lt fz_b463)
  have ne473 : f ≠ b463 := Nat.ne_of_lt (Nat.lt_of_lt_of_le f459.lt fz_b463)
  have ge474 : n0 ≤ b463 := Nat.le_trans z462 fz_b463
  have k476 : Keep h0 T440.heap [] := (k452.trans K440q all0)
  have sz475 : h0.size ≤ b463 := Nat.le_trans k476.1 fz_b463
  have e461 : T461.heap = T461.heap := rfl
  have f477 : Ia Z T461.heap b463 .int [y0, y1, y2, y3] := f464
  have f478 : Exa Z T461.heap b463 "[I" := f465
  clear X458 e458
  show Go p e below (T461.setTop (mkF m 26 #[.val (.ref a)] [(.ref b463), (.ref b442), (.ref b425), (.ref b425)])) _
  have f479 : Exa Z T461.heap b425 "com/example/libcosearch/libcosearch/PostingList" := (f468.keep K461q)
  have f480 : Fld Z T461.heap b425 "com/example/libcosearch/libcosearch/PostingList" "documents" "[I" .null := ((f431.keep K440q nin0).keep K461q nin0)
  have f481 : Fld Z T461.heap b425 "com/example/libcosearch/libcosearch/PostingList" "frequencies" "[I" .null := ((f432.keep K440q nin0).keep K461q nin0)
  have f482 : Fld Z T461.heap b425 "com/example/libcosearch/libcosearch/PostingList" "collectionFrequency" "J" (.long (0 : Int64)) := ((f433.keep K440q nin0).keep K461q nin0)
  have z484 : n0 ≤ T461.heap.size := (Nat.le_trans z462 K461q.1)
  obtain ⟨_, _, ⟨T483, L483, k483, n483⟩, -, X483, ⟨Lc483, hQ483, l483, y483, z483⟩, st483⟩ := X461.specialBack hx (y := (⟨"com/example/libcosearch/libcosearch/PostingList", "<init>", "([I[I)V"⟩ : MethodName)) rfl hown (mvT hZ (tw hw 37 rfl)) (mvT hZ (tw hw 38 rfl)) (mvT hZ (tw hw 39 rfl)) (by decide) (backOf (W := 1) (rmI4 l Z a0 hw [] b425 b442 b463 y0 y1 y2 y3 T461.heap n0 z484 f479 f480 f481 f482 f477 ge429 ne469) hZ (tw hw 39 rfl) (tw hw 22 rfl) (by decide) (by decide)) (g := (mkF m 26 #[.val (.ref a)] [(.ref b463), (.ref b442), (.ref b425), (.ref b425)])) rfl (by rw [hml]; rfl) (Steps.refl _) (a := b425) (argsL := [(.ref b442), (.ref b463)]) (rest := [(.ref b425)]) (lenOf pd__28_5bI_5bI_29V rfl) rfl (by show 2 * 0 + _ ≤ _; exact Nat.le_of_eq rfl) (hb hby d3_26) (fun _ _ => ⟨rfl, e461, (by decide : 3 + 0 ≤ _), (by decide : 19 + 0 ≤ _)⟩)
  dsimp only [Pt.U, Pt.locs, Pt.cells, Pt.slots] at X483 l483 y483 z483 st483 hQ483
  subst l483 y483 z483
  obtain ⟨rfl, N483q, K483q, f485, f486, f487, f488⟩ := hQ483
  have N483 := Fr.app N461 N483q
  refine Go.via (fun _ kQ => st483.trans kQ) ?_
  clear st483
  have e483 : T483.heap = T483.heap := rfl
  have f489 : Exa Z T483.heap b425 "com/example/libcosearch/libcosearch/PostingList" := f485
  have f490 : Fld Z T483.heap b425 "com/example/libcosearch/libcosearch/PostingList" "documents" "[I" (.ref b442) := f486
  have f491 : Fld Z T483.heap b425 "com/example/libcosearch/libcosearch/PostingList" "frequencies" "[I" (.ref b463) := f487
  have f492 : Fld Z T483.heap b425 "com/example/libcosearch/libcosearch/PostingList" "collectionFrequency" "J" (.long (((((0 : Int64) + (y0.toInt64)) + (y1.toInt64)) + (y2.toInt64)) + (y3.toInt64))) := f488
  clear X461 e461
  show Go p e below (T483.setTop (mkF m 29 #[.val (.ref a)] [(.ref b425)])) _
  have k493 : Keep h0 T483.heap [] := ((k476.trans K461q all0).trans K483q (allS (Or.inr sz430) all0))
  have f494 : Ia Z T483.heap b442 .int [x0, x1, x2, x3] := ((f453.keep K461q nin0).keep K483q (ninS (Ne.symm ne446) nin0))
  have f495 : Ia Z T483.heap b463 .int [y0, y1, y2, y3] := (f477.keep K483q (ninS (Ne.symm ne469) nin0))
  exact Go.fin X483 hlk (v := some (.ref b425)) (fun h => by rw [Bd.returns] at h; cases h) (fun fs hr => retOut X483 hx Bd.returns rfl (Or.inr (Or.inr (Or.inr (Or.inr ⟨rfl, rfl, rfl⟩)))) (hb hby d3_29) hr) (by exact ⟨b425, b442, b463, rfl, N483, k493, sz430, sz451, sz475, f489, f490, f491, f492, f494, f495⟩) (by decide) (by decide)
def Q_rmU5 (Z : State) (a : Addr) (d : Addr) (f : Addr) (x0 : Int32) (x1 : Int32) (x2 : Int32) (x3 : Int32) (x4 : Int32) (x5 : Int32) (x6 : Int32) (x7 : Int32) (y0 : Int32) (y1 : Int32) (y2 : Int32) (y3 : Int32) (y4 : Int32) (y5 : Int32) (y6 : Int32) (y7 : Int32) (h0 : Heap) (n0 : Nat) (vQ : Option Value) (hQ : Heap) (LQ : List Loc) : Prop := ∃ r : Addr, ∃ rd : Addr, ∃ rf : Addr, vQ = some (.ref r) ∧ Fr n0 LQ ∧ Keep h0 hQ [] ∧ h0.size ≤ r ∧ h0.size ≤ rd ∧ h0.size ≤ rf ∧ Exa Z hQ r "com/example/libcosearch/libcosearch/PostingList" ∧ Fld Z hQ r "com/example/libcosearch/libcosearch/PostingList" "documents" "[I" (.ref rd) ∧ Fld Z hQ r "com/example/libcosearch/libcosearch/PostingList" "frequencies" "[I" (.ref rf) ∧ Fld Z hQ r "com/example/libcosearch/libcosearch/PostingList" "collectionFrequency" "J" (.long ((((((0 : Int64) + (y0.toInt64)) + (y1.toInt64)) + (y2.toInt64)) + (y3.toInt64)) + (y4.toInt64))) ∧ Ia Z hQ rd .int [x0, x1, x2, x3, x4] ∧ Ia Z hQ rf .int [y0, y1, y2, y3, y4]
set_option maxRecDepth 65536 in
set_option maxHeartbeats 40000000 in
theorem rmU5 (l : Launch) (Z : State) (a0 : Array Value) (hw : ∀ d ∈ tables_1, d.before a0 Z = true) (ws : List Jvm.Cond) (a : Addr) (d : Addr) (f : Addr) (x0 : Int32) (x1 : Int32) (x2 : Int32) (x3 : Int32) (x4 : Int32) (x5 : Int32) (x6 : Int32) (x7 : Int32) (y0 : Int32) (y1 : Int32) (y2 : Int32) (y3 : Int32) (y4 : Int32) (y5 : Int32) (y6 : Int32) (y7 : Int32) (h0 : Heap) (n0 : Nat) (Z0 : n0 ≤ h0.size) (P0 : Fld Z h0 a "com/example/libcosearch/libcosearch/PostingList$Builder" "documents" "[I" (.ref d)) (P1 : Fld Z h0 a "com/example/libcosearch/libcosearch/PostingList$Builder" "frequencies" "[I" (.ref f)) (P2 : Fld Z h0 a "com/example/libcosearch/libcosearch/PostingList$Builder" "size" "I" (.int (5 : Int32))) (P3 : Ia Z h0 d .int [x0, x1, x2, x3, x4, x5, x6, x7]) (P4 : Ia Z h0 f .int [y0, y1, y2, y3, y4, y5, y6, y7]) (P5 : Exa Z h0 d "[I") (P6 : Exa Z h0 f "[I") :
    MetFree l (⟨"com/example/libcosearch/libcosearch/PostingList$Builder", "build", "()Lcom/example/libcosearch/libcosearch/PostingList;"⟩ : MethodName) (head1 (Jvm.Cond.code (⟨"com/example/libcosearch/libcosearch/PostingList$Builder", "build", "()Lcom/example/libcosearch/libcosearch/PostingList;"⟩ : MethodName) prog_24_method_3_code 1 (some (.object "com/example/libcosearch/libcosearch/PostingList")) :: ws) ({ frames := 2, cells := 3, slots := 19, locals := 57 } : Room)) (fun aQ UQ => aQ = #[(.ref a)] ∧ Z.Warmed39 UQ.vm ∧ UQ.heap = h0) (fun _ _ _ _ _ => True) (fun _ UQ oQ UR => ∃ vQ LQ, oQ = .returned vQ ∧ Q_rmU5 Z a d f x0 x1 x2 x3 x4 x5 x6 x7 y0 y1 y2 y3 y4 y5 y6 y7 h0 n0 vQ UR.heap LQ ∧ FrameEnd UQ oQ UR LQ ({ frames := 2, cells := 3, slots := 19, locals := 57 } : Room).cells ({ frames := 2, cells := 3, slots := 19, locals := 57 } : Room).slots) := by
  refine MetFree.of_bodySF (plainFor_of_name pn_3) hisR ?_
  intro p e s m args below meth c s₁ Bd hml0 hP hK
  obtain ⟨rfl, hZ, hh⟩ := hP
  have hx := Bd.exec
  have hby := Bd.bytes
  have hlk := Bd.notSynchronized
  have hml : c.maxLocals = 1 := hml0
  have hown : s.vm.findClass "com/example/libcosearch/libcosearch/PostingList$Builder" = some m.cls := findClass_of_methodNamed Bd.named
  have hnm := (name_of_methodNamed Bd.named Bd.method).1
  have X0 : Stand p l e ({ frames := 2, cells := 3, slots := 19, locals := 57 } : Room) s m #[(.ref a)] below meth c s₁ [] 0 0 := Stand.of_body Bd
  have e0 : s₁.heap = h0 := by rw [← hh, Bd.state]; rfl
  have N0 := Fr.nil n0
  show Go p e below _ (Done s (Q_rmU5 Z a d f x0 x1 x2 x3 x4 x5 x6 x7 y0 y1 y2 y3 y4 y5 y6 y7 h0 n0) ({ frames := 2, cells := 3, slots := 19, locals := 57 } : Room).cells ({ frames := 2, cells := 3, slots := 19, locals := 57 } : Room).slots)
  refine Go.via (fun tQ kQ => castTop (ef_3 m a) kQ) ?_
  show Go p e below (s₁.setTop (mkF m 0 #[.val (.ref a)] [])) _
  obtain ⟨T496, h496, X496, e496, E496, A496, D496, -, st496⟩ := newO X0 hx hZ hown (tw hw 20 rfl) (tw hw 21 rfl) (tw hw 22 rfl) e0 (g := (mkF m 0 #[.val (.ref a)] [])) rfl (hb hby d3_0) (by decide) (by decide)
  obtain ⟨b496, g496⟩ : ∃ z, z = h0.size := ⟨_, rfl⟩
  rw [← g496] at A496 D496 st496
  have ne497 : a ≠ b496 := Nat.ne_of_lt (Nat.lt_of_lt_of_le P0.lt (Nat.le_of_eq g496.symm))
  have ne498 : d ≠ b496 := Nat.ne_of_lt (Nat.lt_of_lt_of_le P3.lt (Nat.le_of_eq g496.symm))
  have ne499 : f ≠ b496 := Nat.ne_of_lt (Nat.lt_of_lt_of_le P4.lt (Nat.le_of_eq g496.symm))
  have ge500 : n0 ≤ b496 := Nat.le_trans Z0 (Nat.le_of_eq g496.symm)
  have sz501 : h0.size ≤ b496 := Nat.le_trans (Keep.refl h0 []).1 (Nat.le_of_eq g496.symm)
  refine Go.via (st496) ?_
  clear st496
  have f502 : Fld Z h496 b496 "com/example/libcosearch/libcosearch/PostingList" "documents" "[I" .null := D496 (Or.inr (tw hw 42 rfl)) (ty := (.array .int)) (by decide)
  have f503 : Fld Z h496 b496 "com/example/libcosearch/libcosearch/PostingList" "frequencies" "[I" .null := D496 (Or.inr (tw hw 44 rfl)) (ty := (.array .int)) (by decide)
  have f504 : Fld Z h496 b496 "com/example/libcosearch/libcosearch/PostingList" "collectionFrequency" "J" (.long (0 : Int64)) := D496 (Or.inr (tw hw 46 rfl)) (ty := .long) (by decide)
  clear X0 e0
  show Go p e below (T496.setTop (mkF m 3 #[.val (.ref a)] [(.ref b496)])) _
  refine Go.via (fun _ => XS.dup X496.here hx rfl (hb hby d3_3) rfl rfl) ?_
  refine Go.via (fun _ => XS.aloadN X496.here hx rfl (hb hby d3_4) rfl rfl) ?_
  have f505 : Fld Z h496 a "com/example/libcosearch/libcosearch/PostingList$Builder" "documents" "[I" (.ref d) := (P0.ext E496)
  obtain ⟨T506, X506, e506, st506⟩ := getF X496 hx hZ hown (host := "") (Or.inl (tw hw 11 rfl)) Via.refl e496 f505 (g := (mkF m 5 #[.val (.ref a)] [(.ref a), (.ref b496), (.ref b496)])) rfl rfl (hb hby d3_5)
  refine Go.via (st506) ?_
  clear st506
  clear X496 e496
  show Go p e below (T506.setTop (mkF m 8 #[.val (.ref a)] [(.ref d), (.ref b496), (.ref b496)])) _
  refine Go.via (fun _ => XS.aloadN X506.here hx rfl (hb hby d3_8) rfl rfl) ?_
  have f507 : Fld Z h496 a "com/example/libcosearch/libcosearch/PostingList$Builder" "size" "I" (.int (5 : Int32)) := (P2.ext E496)
  obtain ⟨T508, X508, e508, st508⟩ := getF X506 hx hZ hown (host := "") (Or.inl (tw hw 23 rfl)) Via.refl e506 f507 (g := (mkF m 9 #[.val (.ref a)] [(.ref a), (.ref d), (.ref b496), (.ref b496)])) rfl rfl (hb hby d3_9)
  refine Go.via (st508) ?_
  clear st508
  clear X506 e506
  show Go p e below (T508.setTop (mkF m 12 #[.val (.ref a)] [(.int (5 : Int32)), (.ref d), (.ref b496), (.ref b496)])) _
  have f509 : Ia Z h496 d .int [x0, x1, x2, x3, x4, x5, x6, x7] := (P3.ext E496)
  have z511 : n0 ≤ h496.size := (Nat.le_trans Z0 E496.1)
  obtain ⟨_, _, ⟨T510, L510, k510, n510⟩, -, X510, ⟨Lc510, hQ510, l510, y510, z510⟩, st510⟩ := Jvm.LawKit.callS X508 hx (y := (⟨"java/util/Arrays", "copyOf", "([II)[I"⟩ : MethodName)) hown (mvT hZ (tw hw 25 rfl)) (mvT hZ (tw hw 26 rfl)) (mvT hZ (tw hw 27 rfl)) (mvT hZ (tw hw 28 rfl)) (by decide) (backOf (W := 2) (rmC l Z a0 hw [] d (5 : Int32) [x0, x1, x2, x3, x4, x5, x6, x7] h496 n0 z511 f509 (by first | decide | (simp only [List.length_cons, List.length_nil]; decide) | rfl) (by first | decide | (simp only [List.length_cons, List.length_nil]; decide) | rfl) (by first | decide | (simp only [List.length_cons, List.length_nil]; decide) | rfl) (by first | decide | (simp only [List.length_cons, List.length_nil]; decide) | rfl)) hZ (tw hw 28 rfl) (tw hw 27 rfl) (by decide) (by decide)) (g := (mkF m 12 #[.val (.ref a)] [(.int (5 : Int32)), (.ref d), (.ref b496), (.ref b496)])) rfl (by rw [hml]; rfl) (argsL := [(.ref d), (.int (5 : Int32))]) (rest := [(.ref b496), (.ref b496)]) (lenOf pd__28_5bII_29_5bI rfl) rfl (by show 2 * 0 + _ ≤ _; exact Nat.le_of_eq rfl) (hb hby d3_12) (fun _ _ => ⟨rfl, e508, (by decide : 1 + 1 ≤ _), (by decide : 3 + 8 ≤ _)⟩)
  dsimp only [Pt.U, Pt.locs, Pt.cells, Pt.slots] at X510 l510 y510 z510 st510 hQ510
  subst l510 y510 z510
  obtain ⟨b512, rfl, N510q, K510q, fz_b512, f513, f514⟩ := hQ510
  have N510 := Fr.app N0 N510q
  refine Go.via (st510) ?_
  clear st510
  have ne515 : a ≠ b512 := Nat.ne_of_lt (Nat.lt_of_lt_of_le f505.lt fz_b512)
  have ne516 : b496 ≠ b512 := Nat.ne_of_lt (Nat.lt_of_lt_of_le A496.lt fz_b512)
  have ne517 : d ≠ b512 := Nat.ne_of_lt (Nat.lt_of_lt_of_le f509.lt fz_b512)
  have f518 : Ia Z h496 f .int [y0, y1, y2, y3, y4, y5, y6, y7] := (P4.ext E496)
  have ne519 : f ≠ b512 := Nat.ne_of_lt (Nat.lt_of_lt_of_le f518.lt fz_b512)
  have ge520 : n0 ≤ b512 := Nat.le_trans z511 fz_b512
  have k522 : Keep h0 h496 [] := ((Keep.refl h0 []).ext E496)
  have sz521 : h0.size ≤ b512 := Nat.le_trans k522.1 fz_b512
  have e510 : T510.heap = T510.heap := rfl
  have f523 : Ia Z T510.heap b512 .int [x0, x1, x2, x3, x4] := f513
  have f524 : Exa Z T510.heap b512 "[I" := f514
  clear X508 e508
  show Go p e below (T510.setTop (mkF m 15 #[.val (.ref a)] [(.ref b512), (.ref b496), (.ref b496)])) _
  refine Go.via (fun _ => XS.aloadN X510.here hx rfl (hb hby d3_15) rfl rfl) ?_
  have f525 : Fld Z T510.heap a "com/example/libcosearch/libcosearch/PostingList$Builder" "frequencies" "[I" (.ref f) := ((P1.ext E496).keep K510q nin0)
  obtain ⟨T526, X526, e526, st526⟩ := getF X510 hx hZ hown (host := "") (Or.inl (tw hw 13 rfl)) Via.refl e510 f525 (g := (mkF m 16 #[.val (.ref a)] [(.ref a), (.ref b512), (.ref b496), (.ref b496)])) rfl rfl (hb hby d3_16)
  refine Go.via (st526) ?_
  clear st526
  clear X510 e510
  show Go p e below (T526.setTop (mkF m 19 #[.val (.ref a)] [(.ref f), (.ref b512), (.ref b496), (.ref b496)])) _
  refine Go.via (fun _ => XS.aloadN X526.here hx rfl (hb hby d3_19) rfl rfl) ?_
  have f527 : Fld Z T510.heap a "com/example/libcosearch/libcosearch/PostingList$Builder" "size" "I" (.int (5 : Int32)) := (f507.keep K510q nin0)
  obtain ⟨T528, X528, e528, st528⟩ := getF X526 hx hZ hown (host := "") (Or.inl (tw hw 23 rfl)) Via.refl e526 f527 (g := (mkF m 20 #[.val (.ref a)] [(.ref a), (.ref f), (.ref b512), (.ref b496), (.ref b496)])) rfl rfl (hb hby d3_20)
  refine Go.via (st528) ?_
  clear st528
  clear X526 e526
  show Go p e below (T528.setTop (mkF m 23 #[.val (.ref a)] [(.int (5 : Int32)), (.ref f), (.ref b512), (.ref b496), (.ref b496)])) _
  have f529 : Ia Z T510.heap f .int [y0, y1, y2, y3, y4, y5, y6, y7] := (f518.keep K510q nin0)
  have z531 : n0 ≤ T510.heap.size := (Nat.le_trans z511 K510q.1)
  obtain ⟨_, _, ⟨T530, L530, k530, n530⟩, -, X530, ⟨Lc530, hQ530, l530, y530, z530⟩, st530⟩ := Jvm.LawKit.callS X528 hx (y := (⟨"java/util/Arrays", "copyOf", "([II)[I"⟩ : MethodName)) hown (mvT hZ (tw hw 25 rfl)) (mvT hZ (tw hw 26 rfl)) (mvT hZ (tw hw 27 rfl)) (mvT hZ (tw hw 28 rfl)) (by decide) (backOf (W := 3) (rmC l Z a0 hw [] f (5 : Int32) [y0, y1, y2, y3, y4, y5, y6, y7] T510.heap n0 z531 f529 (by first | decide | (simp only [List.length_cons, List.length_nil]; decide) | rfl) (by first | decide | (simp only [List.length_cons, List.length_nil]; decide) | rfl) (by first | decide | (simp only [List.length_cons, List.length_nil]; decide) | rfl) (by first | decide | (simp only [List.length_cons, List.length_nil]; decide) | rfl)) hZ (tw hw 28 rfl) (tw hw 27 rfl) (by decide) (by decide)) (g := (mkF m 23 #[.val (.ref a)] [(.int (5 : Int32)), (.ref f), (.ref b512), (.ref b496), (.ref b496)])) rfl (by rw [hml]; rfl) (argsL := [(.ref f), (.int (5 : Int32))]) (rest := [(.ref b512), (.ref b496), (.ref b496)]) (lenOf pd__28_5bII_29_5bI rfl) rfl (by show 2 * 0 + _ ≤ _; exact Nat.le_of_eq rfl) (hb hby d3_23) (fun _ _ => ⟨rfl, e528, (by decide : 2 + 1 ≤ _), (by decide : 11 + 8 ≤ _)⟩)
  dsimp only [Pt.U, Pt.locs, Pt.cells, Pt.slots] at X530 l530 y530 z530 st530 hQ530
  subst l530 y530 z530
  obtain ⟨b532, rfl, N530q, K530q, fz_b532, f533, f534⟩ := hQ530
  have N530 := Fr.app N510 N530q
  refine Go.via (st530) ?_
  clear st530
  have f535 : Fld Z T510.heap a "com/example/libcosearch/libcosearch/PostingList$Builder" "documents" "[I" (.ref d) := (f505.keep K510q nin0)
  have ne536 : a ≠ b532 := Nat.ne_of_lt (Nat.lt_of_lt_of_le f535.lt fz_b532)
  have f537 : Exa Z T510.heap b496 "com/example/libcosearch/libcosearch/PostingList" := (A496.keep K510q)
  have ne538 : b496 ≠ b532 := Nat.ne_of_lt (Nat.lt_of_lt_of_le f537.lt fz_b532)
  have ne539 : b512 ≠ b532 := Nat.ne_of_lt (Nat.lt_of_lt_of_le f523.lt fz_b532)
  have f540 : Ia Z T510.heap d .int [x0, x1, x2, x3, x4, x5, x6, x7] := (f509.keep K510q nin0)
  have ne541 : d ≠ b532 := Nat.ne_of_lt (Nat.lt_of_lt_of_le f540.lt fz_b532)
  have ne542 : f ≠ b532 := Nat.ne_of_lt (Nat.lt_of_lt_of_le f529.lt fz_b532)
  have ge543 : n0 ≤ b532 := Nat.le_trans z531 fz_b532
  have k545 : Keep h0 T510.heap [] := (k522.trans K510q all0)
  have sz544 : h0.size ≤ b532 := Nat.le_trans k545.1 fz_b532
  have e530 : T530.heap = T530.heap := rfl
  have f546 : Ia Z T530.heap b532 .int [y0, y1, y2, y3, y4] := f533
  have f547 : Exa Z T530.heap b532 "[I" := f534
  clear X528 e528
  show Go p e below (T530.setTop (mkF m 26 #[.val (.ref a)] [(.ref b532), (.ref b512), (.ref b496), (.ref b496)])) _
  have f548 : Exa Z T530.heap b496 "com/example/libcosearch/libcosearch/PostingList" := (f537.keep K530q)
  have f549 : Fld Z T530.heap b496 "com/example/libcosearch/libcosearch/PostingList" "documents" "[I" .null := ((f502.keep K510q nin0).keep K530q nin0)
  have f550 : Fld Z T530.heap b496 "com/example/libcosearch/libcosearch/PostingList" "frequencies" "[I" .null := ((f503.keep K510q nin0).keep K530q nin0)
  have f551 : Fld Z T530.heap b496 "com/example/libcosearch/libcosearch/PostingList" "collectionFrequency" "J" (.long (0 : Int64)) := ((f504.keep K510q nin0).keep K530q nin0)
  have z553 : n0 ≤ T530.heap.size := (Nat.le_trans z531 K530q.1)
  obtain ⟨_, _, ⟨T552, L552, k552, n552⟩, -, X552, ⟨Lc552, hQ552, l552, y552, z552⟩, st552⟩ := X530.specialBack hx (y := (⟨"com/example/libcosearch/libcosearch/PostingList", "<init>", "([I[I)V"⟩ : MethodName)) rfl hown (mvT hZ (tw hw 37 rfl)) (mvT hZ (tw hw 38 rfl)) (mvT hZ (tw hw 39 rfl)) (by decide) (backOf (W := 1) (rmI5 l Z a0 hw [] b496 b512 b532 y0 y1 y2 y3 y4 T530.heap n0 z553 f548 f549 f550 f551 f546 ge500 ne538) hZ (tw hw 39 rfl) (tw hw 22 rfl) (by decide) (by decide)) (g := (mkF m 26 #[.val (.ref a)] [(.ref b532), (.ref b512), (.ref b496), (.ref b496)])) rfl (by rw [hml]; rfl) (Steps.refl _) (a := b496) (argsL := [(.ref b512), (.ref b532)]) (rest := [(.ref b496)]) (lenOf pd__28_5bI_5bI_29V rfl) rfl (by show 2 * 0 + _ ≤ _; exact Nat.le_of_eq rfl) (hb hby d3_26) (fun _ _ => ⟨rfl, e530, (by decide : 3 + 0 ≤ _), (by decide : 19 + 0 ≤ _)⟩)
  dsimp only [Pt.U, Pt.locs, Pt.cells, Pt.slots] at X552 l552 y552 z552 st552 hQ552
  subst l552 y552 z552
  obtain ⟨rfl, N552q, K552q, f554, f555, f556, f557⟩ := hQ552
  have N552 := Fr.app N530 N552q
  refine Go.via (fun _ kQ => st552.trans kQ) ?_
  clear st552
  have e552 : T552.heap = T552.heap := rfl
  have f558 : Exa Z T552.heap b496 "com/example/libcosearch/libcosearch/PostingList" := f554
  have f559 : Fld Z T552.heap b496 "com/example/libcosearch/libcosearch/PostingList" "documents" "[I" (.ref b512) := f555
  have f560 : Fld Z T552.heap b496 "com/example/libcosearch/libcosearch/PostingList" "frequencies" "[I" (.ref b532) := f556
  have f561 : Fld Z T552.heap b496 "com/example/libcosearch/libcosearch/PostingList" "collectionFrequency" "J" (.long ((((((0 : Int64) + (y0.toInt64)) + (y1.toInt64)) + (y2.toInt64)) + (y3.toInt64)) + (y4.toInt64))) := f557
  clear X530 e530
  show Go p e below (T552.setTop (mkF m 29 #[.val (.ref a)] [(.ref b496)])) _
  have k562 : Keep h0 T552.heap [] := ((k545.trans K530q all0).trans K552q (allS (Or.inr sz501) all0))
  have f563 : Ia Z T552.heap b512 .int [x0, x1, x2, x3, x4] := ((f523.keep K530q nin0).keep K552q (ninS (Ne.symm ne516) nin0))
  have f564 : Ia Z T552.heap b532 .int [y0, y1, y2, y3, y4] := (f546.keep K552q (ninS (Ne.symm ne538) nin0))
  exact Go.fin X552 hlk (v := some (.ref b496)) (fun h => by rw [Bd.returns] at h; cases h) (fun fs hr => retOut X552 hx Bd.returns rfl (Or.inr (Or.inr (Or.inr (Or.inr ⟨rfl, rfl, rfl⟩)))) (hb hby d3_29) hr) (by exact ⟨b496, b512, b532, rfl, N552, k562, sz501, sz521, sz544, f558, f559, f560, f561, f563, f564⟩) (by decide) (by decide)
theorem d9_0 : decode prog_24_method_2_code 0 = .ok (.aload_n 0, 1) := by decide +kernel
theorem d9_1 : decode prog_24_method_2_code 1 = .ok (.getfield 16, 3) := by decide +kernel
theorem d9_4 : decode prog_24_method_2_code 4 = .ok (.aload_n 0, 1) := by decide +kernel
theorem d9_5 : decode prog_24_method_2_code 5 = .ok (.getfield 7, 3) := by decide +kernel
theorem d9_8 : decode prog_24_method_2_code 8 = .ok (.arraylength, 1) := by decide +kernel
theorem d9_9 : decode prog_24_method_2_code 9 = .ok (.if_icmp .ne 37, 3) := by decide +kernel
theorem d9_46 : decode prog_24_method_2_code 46 = .ok (.aload_n 0, 1) := by decide +kernel
theorem d9_47 : decode prog_24_method_2_code 47 = .ok (.getfield 7, 3) := by decide +kernel
theorem d9_50 : decode prog_24_method_2_code 50 = .ok (.aload_n 0, 1) := by decide +kernel
theorem d9_51 : decode prog_24_method_2_code 51 = .ok (.getfield 16, 3) := by decide +kernel
theorem d9_54 : decode prog_24_method_2_code 54 = .ok (.iload_n 1, 1) := by decide +kernel
theorem d9_55 : decode prog_24_method_2_code 55 = .ok (.iastore, 1) := by decide +kernel
theorem d9_56 : decode prog_24_method_2_code 56 = .ok (.aload_n 0, 1) := by decide +kernel
theorem d9_57 : decode prog_24_method_2_code 57 = .ok (.getfield 13, 3) := by decide +kernel
theorem d9_60 : decode prog_24_method_2_code 60 = .ok (.aload_n 0, 1) := by decide +kernel
theorem d9_61 : decode prog_24_method_2_code 61 = .ok (.getfield 16, 3) := by decide +kernel
theorem d9_64 : decode prog_24_method_2_code 64 = .ok (.iload_n 2, 1) := by decide +kernel
theorem d9_65 : decode prog_24_method_2_code 65 = .ok (.iastore, 1) := by decide +kernel
theorem d9_66 : decode prog_24_method_2_code 66 = .ok (.aload_n 0, 1) := by decide +kernel
theorem d9_67 : decode prog_24_method_2_code 67 = .ok (.dup, 1) := by decide +kernel
theorem d9_68 : decode prog_24_method_2_code 68 = .ok (.getfield 16, 3) := by decide +kernel
theorem d9_71 : decode prog_24_method_2_code 71 = .ok (.iconst 1, 1) := by decide +kernel
theorem d9_72 : decode prog_24_method_2_code 72 = .ok (.iadd, 1) := by decide +kernel
theorem d9_73 : decode prog_24_method_2_code 73 = .ok (.putfield 16, 3) := by decide +kernel
theorem d9_76 : decode prog_24_method_2_code 76 = .ok (.return_, 1) := by decide +kernel
theorem pn_9 : plainName "com/example/libcosearch/libcosearch/PostingList$Builder" = true := by first | (simp [plainName, overriddenIn]; done) | decide +kernel
theorem ef_9 (m : MethodId) (x0 : Addr) (x1 : Int32) (x2 : Int32) : entryFrame m #[(.ref x0), (.int x1), (.int x2)] 3 = mkF m 0 #[.val (.ref x0), .val (.int x1), .val (.int x2)] [] := by first | (simp [entryFrame, mkF, argsToLocals, Value.category]; done) | rfl
def Q_rmA (Z : State) (a : Addr) (x : Int32) (y : Int32) (d : Addr) (f : Addr) (ds : List Int32) (fs : List Int32) (sz : Int32) (h0 : Heap) (n0 : Nat) (vQ : Option Value) (hQ : Heap) (LQ : List Loc) : Prop := vQ = none ∧ Fr n0 LQ ∧ Keep h0 hQ [a, d, f] ∧ Exa Z hQ a "com/example/libcosearch/libcosearch/PostingList$Builder" ∧ Fld Z hQ a "com/example/libcosearch/libcosearch/PostingList$Builder" "documents" "[I" (.ref d) ∧ Fld Z hQ a "com/example/libcosearch/libcosearch/PostingList$Builder" "frequencies" "[I" (.ref f) ∧ Fld Z hQ a "com/example/libcosearch/libcosearch/PostingList$Builder" "size" "I" (.int (sz + (1 : Int32))) ∧ Ia Z hQ d .int (ds.set sz.toNatClampNeg x) ∧ Ia Z hQ f .int (fs.set sz.toNatClampNeg y)
set_option maxRecDepth 65536 in
set_option maxHeartbeats 40000000 in
theorem rmA (l : Launch) (Z : State) (a0 : Array Value) (hw : ∀ d ∈ tables_1, d.before a0 Z = true) (ws : List Jvm.Cond) (a : Addr) (x : Int32) (y : Int32) (d : Addr) (f : Addr) (ds : List Int32) (fs : List Int32) (sz : Int32) (h0 : Heap) (n0 : Nat) (Z0 : n0 ≤ h0.size) (P0 : Exa Z h0 a "com/example/libcosearch/libcosearch/PostingList$Builder") (P1 : Fld Z h0 a "com/example/libcosearch/libcosearch/PostingList$Builder" "documents" "[I" (.ref d)) (P2 : Fld Z h0 a "com/example/libcosearch/libcosearch/PostingList$Builder" "frequencies" "[I" (.ref f)) (P3 : Fld Z h0 a "com/example/libcosearch/libcosearch/PostingList$Builder" "size" "I" (.int sz)) (P4 : Ia Z h0 d .int ds) (P5 : Ia Z h0 f .int fs) (g_a : n0 ≤ a) (g_d : n0 ≤ d) (g_f : n0 ≤ f) (had : a ≠ d) (haf : a ≠ f) (hdf : d ≠ f) (hz : ¬ sz < 0) (hlt : sz.toNatClampNeg < ds.length) (hlf : sz.toNatClampNeg < fs.length) (hnl : ¬ sz = ds.length.toInt32) :
    MetFree l (⟨"com/example/libcosearch/libcosearch/PostingList$Builder", "add", "(II)V"⟩ : MethodName) (head1 (Jvm.Cond.code (⟨"com/example/libcosearch/libcosearch/PostingList$Builder", "add", "(II)V"⟩ : MethodName) prog_24_method_2_code 3 none :: ws) ({ frames := 0, cells := 0, slots := 0, locals := 0 } : Room)) (fun aQ UQ => aQ = #[(.ref a), (.int x), (.int y)] ∧ Z.Warmed39 UQ.vm ∧ UQ.heap = h0) (fun _ _ _ _ _ => True) (fun _ UQ oQ UR => ∃ vQ LQ, oQ = .returned vQ ∧ Q_rmA Z a x y d f ds fs sz h0 n0 vQ UR.heap LQ ∧ FrameEnd UQ oQ UR LQ ({ frames := 0, cells := 0, slots := 0, locals := 0 } : Room).cells ({ frames := 0, cells := 0, slots := 0, locals := 0 } : Room).slots) := by
  refine MetFree.of_bodySF (plainFor_of_name pn_9) hisR ?_
  intro p e s m args below meth c s₁ Bd hml0 hP hK
  obtain ⟨rfl, hZ, hh⟩ := hP
  have hx := Bd.exec
  have hby := Bd.bytes
  have hlk := Bd.notSynchronized
  have hml : c.maxLocals = 3 := hml0
  have hown : s.vm.findClass "com/example/libcosearch/libcosearch/PostingList$Builder" = some m.cls := findClass_of_methodNamed Bd.named
  have hnm := (name_of_methodNamed Bd.named Bd.method).1
  have X0 : Stand p l e ({ frames := 0, cells := 0, slots := 0, locals := 0 } : Room) s m #[(.ref a), (.int x), (.int y)] below meth c s₁ [] 0 0 := Stand.of_body Bd
  have e0 : s₁.heap = h0 := by rw [← hh, Bd.state]; rfl
  have N0 := Fr.nil n0
  show Go p e below _ (Done s (Q_rmA Z a x y d f ds fs sz h0 n0) ({ frames := 0, cells := 0, slots := 0, locals := 0 } : Room).cells ({ frames := 0, cells := 0, slots := 0, locals := 0 } : Room).slots)
  refine Go.via (fun tQ kQ => castTop (ef_9 m a x y) kQ) ?_
  show Go p e below (s₁.setTop (mkF m 0 #[.val (.ref a), .val (.int x), .val (.int y)] [])) _
  refine Go.via (fun _ => XS.aloadN X0.here hx rfl (hb hby d9_0) rfl rfl) ?_
  obtain ⟨T565, X565, e565, st565⟩ := getF X0 hx hZ hown (host := "") (Or.inl (tw hw 23 rfl)) Via.refl e0 P3 (g := (mkF m 1 #[.val (.ref a), .val (.int x), .val (.int y)] [(.ref a)])) rfl rfl (hb hby d9_1)
  refine Go.via (st565) ?_
  clear st565
  clear X0 e0
  show Go p e below (T565.setTop (mkF m 4 #[.val (.ref a), .val (.int x), .val (.int y)] [(.int sz)])) _
  refine Go.via (fun _ => XS.aloadN X565.here hx rfl (hb hby d9_4) rfl rfl) ?_
  obtain ⟨T566, X566, e566, st566⟩ := getF X565 hx hZ hown (host := "") (Or.inl (tw hw 11 rfl)) Via.refl e565 P1 (g := (mkF m 5 #[.val (.ref a), .val (.int x), .val (.int y)] [(.ref a), (.int sz)])) rfl rfl (hb hby d9_5)
  refine Go.via (st566) ?_
  clear st566
  clear X565 e565
  show Go p e below (T566.setTop (mkF m 8 #[.val (.ref a), .val (.int x), .val (.int y)] [(.ref d), (.int sz)])) _
  refine Go.via (lenI X566 hx hZ e566 P4 (n := (ds.length.toInt32)) rfl (g := (mkF m 8 #[.val (.ref a), .val (.int x), .val (.int y)] [(.ref d), (.int sz)])) rfl rfl (hb hby d9_8)) ?_
  show Go p e below (T566.setTop (mkF m 9 #[.val (.ref a), .val (.int x), .val (.int y)] [(.int (ds.length.toInt32)), (.int sz)])) _
  refine Go.via (fun _ => XS.icmpYes X566.here hx rfl (pc0 := 9) (pc' := 46) rfl (hb hby d9_9) rfl (feq (hnl : ¬ (sz = (ds.length.toInt32)))).2 (by decide) (by decide)) ?_
  show Go p e below (T566.setTop (mkF m 46 #[.val (.ref a), .val (.int x), .val (.int y)] [])) _
  refine Go.via (fun _ => XS.aloadN X566.here hx rfl (hb hby d9_46) rfl rfl) ?_
  obtain ⟨T567, X567, e567, st567⟩ := getF X566 hx hZ hown (host := "") (Or.inl (tw hw 11 rfl)) Via.refl e566 P1 (g := (mkF m 47 #[.val (.ref a), .val (.int x), .val (.int y)] [(.ref a)])) rfl rfl (hb hby d9_47)
  refine Go.via (st567) ?_
  clear st567
  clear X566 e566
  show Go p e below (T567.setTop (mkF m 50 #[.val (.ref a), .val (.int x), .val (.int y)] [(.ref d)])) _
  refine Go.via (fun _ => XS.aloadN X567.here hx rfl (hb hby d9_50) rfl rfl) ?_
  obtain ⟨T568, X568, e568, st568⟩ := getF X567 hx hZ hown (host := "") (Or.inl (tw hw 23 rfl)) Via.refl e567 P3 (g := (mkF m 51 #[.val (.ref a), .val (.int x), .val (.int y)] [(.ref a), (.ref d)])) rfl rfl (hb hby d9_51)
  refine Go.via (st568) ?_
  clear st568
  clear X567 e567
  show Go p e below (T568.setTop (mkF m 54 #[.val (.ref a), .val (.int x), .val (.int y)] [(.int sz), (.ref d)])) _
  refine Go.via (fun _ => XS.iloadN X568.here hx rfl (hb hby d9_54) rfl) ?_
  obtain ⟨T569, h569, X569, e569, W569, V569, st569⟩ := stI' X568 hx hZ e568 P4 (j := sz) hz hlt (g := (mkF m 55 #[.val (.ref a), .val (.int x), .val (.int y)] [(.int x), (.int sz), (.ref d)])) rfl rfl (hb hby d9_55)
  refine Go.via (st569) ?_
  clear st569
  have N569 := Fr.snoc X569 N0 g_d
  have f570 : Ia Z h569 d .int (List.set ds (sz).toNatClampNeg x) := V569
  clear X568 e568
  show Go p e below (T569.setTop (mkF m 56 #[.val (.ref a), .val (.int x), .val (.int y)] [])) _
  refine Go.via (fun _ => XS.aloadN X569.here hx rfl (hb hby d9_56) rfl rfl) ?_
  have f571 : Fld Z h569 a "com/example/libcosearch/libcosearch/PostingList$Builder" "frequencies" "[I" (.ref f) := (P2.other W569 (Or.inl had))
  obtain ⟨T572, X572, e572, st572⟩ := getF X569 hx hZ hown (host := "") (Or.inl (tw hw 13 rfl)) Via.refl e569 f571 (g := (mkF m 57 #[.val (.ref a), .val (.int x), .val (.int y)] [(.ref a)])) rfl rfl (hb hby d9_57)
  refine Go.via (st572) ?_
  clear st572
  clear X569 e569
  show Go p e below (T572.setTop (mkF m 60 #[.val (.ref a), .val (.int x), .val (.int y)] [(.ref f)])) _
  refine Go.via (fun _ => XS.aloadN X572.here hx rfl (hb hby d9_60) rfl rfl) ?_
  have f573 : Fld Z h569 a "com/example/libcosearch/libcosearch/PostingList$Builder" "size" "I" (.int sz) := (P3.other W569 (Or.inl had))
  obtain ⟨T574, X574, e574, st574⟩ := getF X572 hx hZ hown (host := "") (Or.inl (tw hw 23 rfl)) Via.refl e572 f573 (g := (mkF m 61 #[.val (.ref a), .val (.int x), .val (.int y)] [(.ref a), (.ref f)])) rfl rfl (hb hby d9_61)
  refine Go.via (st574) ?_
  clear st574
  clear X572 e572
  show Go p e below (T574.setTop (mkF m 64 #[.val (.ref a), .val (.int x), .val (.int y)] [(.int sz), (.ref f)])) _
  refine Go.via (fun _ => XS.iloadN X574.here hx rfl (hb hby d9_64) rfl) ?_
  have f575 : Ia Z h569 f .int fs := (P5.other W569 (Ne.symm hdf))
  obtain ⟨T576, h576, X576, e576, W576, V576, st576⟩ := stI' X574 hx hZ e574 f575 (j := sz) hz hlf (g := (mkF m 65 #[.val (.ref a), .val (.int x), .val (.int y)] [(.int y), (.int sz), (.ref f)])) rfl rfl (hb hby d9_65)
  refine Go.via (st576) ?_
  clear st576
  have N576 := Fr.snoc X576 N569 g_f
  have f577 : Ia Z h576 f .int (List.set fs (sz).toNatClampNeg y) := V576
  clear X574 e574
  show Go p e below (T576.setTop (mkF m 66 #[.val (.ref a), .val (.int x), .val (.int y)] [])) _
  refine Go.via (fun _ => XS.aloadN X576.here hx rfl (hb hby d9_66) rfl rfl) ?_
  refine Go.via (fun _ => XS.dup X576.here hx rfl (hb hby d9_67) rfl rfl) ?_
  have f578 : Fld Z h576 a "com/example/libcosearch/libcosearch/PostingList$Builder" "size" "I" (.int sz) := (f573.other W576 (Or.inl haf))
  obtain ⟨T579, X579, e579, st579⟩ := getF X576 hx hZ hown (host := "") (Or.inl (tw hw 23 rfl)) Via.refl e576 f578 (g := (mkF m 68 #[.val (.ref a), .val (.int x), .val (.int y)] [(.ref a), (.ref a)])) rfl rfl (hb hby d9_68)
  refine Go.via (st579) ?_
  clear st579
  clear X576 e576
  show Go p e below (T579.setTop (mkF m 71 #[.val (.ref a), .val (.int x), .val (.int y)] [(.int sz), (.ref a)])) _
  refine Go.via (fun _ => XS.iconst X579.here hx rfl (hb hby d9_71)) ?_
  refine Go.via (fun _ => XS.iadd X579.here hx rfl (hb hby d9_72) rfl) ?_
  show Go p e below (T579.setTop (mkF m 73 #[.val (.ref a), .val (.int x), .val (.int y)] [(.int (sz + (1 : Int32))), (.ref a)])) _
  have f580 : Exa Z h576 a "com/example/libcosearch/libcosearch/PostingList$Builder" := ((P0.wr W569).wr W576)
  obtain ⟨T581, h581, X581, e581, W581, st581⟩ := putF X579 hx hZ hown (host := "") (Or.inl (tw hw 23 rfl)) Via.refl e579 f578 f580 (Or.inl (tw hw 24 rfl)) (tw hw 2 rfl) (ty := .int) (by decide) rfl rfl (g := (mkF m 73 #[.val (.ref a), .val (.int x), .val (.int y)] [(.int (sz + (1 : Int32))), (.ref a)])) rfl rfl (hb hby d9_73)
  refine Go.via (st581) ?_
  clear st581
  have N581 := Fr.snoc X581 N576 g_a
  have f582 : Fld Z h581 a "com/example/libcosearch/libcosearch/PostingList$Builder" "size" "I" (.int (sz + (1 : Int32))) := f578.same W581
  clear X579 e579
  show Go p e below (T581.setTop (mkF m 76 #[.val (.ref a), .val (.int x), .val (.int y)] [])) _
  have k583 : Keep h0 h581 [a, d, f] := ((((Keep.refl h0 [a, d, f]).wr W569 (Or.inl (List.mem_of_getElem? (i := 1) rfl))).wr W576 (Or.inl (List.mem_of_getElem? (i := 2) rfl))).wr W581 (Or.inl (List.mem_of_getElem? (i := 0) rfl)))
  have f584 : Exa Z h581 a "com/example/libcosearch/libcosearch/PostingList$Builder" := (f580.wr W581)
  have f585 : Fld Z h581 a "com/example/libcosearch/libcosearch/PostingList$Builder" "documents" "[I" (.ref d) := (((P1.other W569 (Or.inl had)).other W576 (Or.inl haf)).other W581 (Or.inr (slot_ne (Or.inl (tw hw 12 rfl)) (Or.inl (tw hw 24 rfl)) (by decide) (t := (.array .int)) (t' := .int) (by decide) (by decide))))
  have f586 : Fld Z h581 a "com/example/libcosearch/libcosearch/PostingList$Builder" "frequencies" "[I" (.ref f) := ((f571.other W576 (Or.inl haf)).other W581 (Or.inr (slot_ne (Or.inl (tw hw 14 rfl)) (Or.inl (tw hw 24 rfl)) (by decide) (t := (.array .int)) (t' := .int) (by decide) (by decide))))
  have f587 : Ia Z h581 d .int (List.set ds (sz).toNatClampNeg x) := ((f570.other W576 hdf).other W581 (Ne.symm had))
  have f588 : Ia Z h581 f .int (List.set fs (sz).toNatClampNeg y) := (f577.other W581 (Ne.symm haf))
  exact Go.fin X581 hlk (v := none) (fun _ => rfl) (fun fs hr => X581.returnOut hx Bd.returns (hb hby d9_76) hr) (by rw [e581]; exact ⟨rfl, N581, k583, f584, f585, f586, f582, f587, f588⟩) (by decide) (by decide)
theorem d9_12 : decode prog_24_method_2_code 12 = .ok (.aload_n 0, 1) := by decide +kernel
theorem d9_13 : decode prog_24_method_2_code 13 = .ok (.aload_n 0, 1) := by decide +kernel
theorem d9_14 : decode prog_24_method_2_code 14 = .ok (.getfield 7, 3) := by decide +kernel
theorem d9_17 : decode prog_24_method_2_code 17 = .ok (.aload_n 0, 1) := by decide +kernel
theorem d9_18 : decode prog_24_method_2_code 18 = .ok (.getfield 16, 3) := by decide +kernel
theorem d9_21 : decode prog_24_method_2_code 21 = .ok (.iconst 2, 1) := by decide +kernel
theorem d9_22 : decode prog_24_method_2_code 22 = .ok (.imul, 1) := by decide +kernel
theorem d9_23 : decode prog_24_method_2_code 23 = .ok (.invokestatic 20, 3) := by decide +kernel
theorem d9_26 : decode prog_24_method_2_code 26 = .ok (.putfield 7, 3) := by decide +kernel
theorem d9_29 : decode prog_24_method_2_code 29 = .ok (.aload_n 0, 1) := by decide +kernel
theorem d9_30 : decode prog_24_method_2_code 30 = .ok (.aload_n 0, 1) := by decide +kernel
theorem d9_31 : decode prog_24_method_2_code 31 = .ok (.getfield 13, 3) := by decide +kernel
theorem d9_34 : decode prog_24_method_2_code 34 = .ok (.aload_n 0, 1) := by decide +kernel
theorem d9_35 : decode prog_24_method_2_code 35 = .ok (.getfield 16, 3) := by decide +kernel
theorem d9_38 : decode prog_24_method_2_code 38 = .ok (.iconst 2, 1) := by decide +kernel
theorem d9_39 : decode prog_24_method_2_code 39 = .ok (.imul, 1) := by decide +kernel
theorem d9_40 : decode prog_24_method_2_code 40 = .ok (.invokestatic 20, 3) := by decide +kernel
theorem d9_43 : decode prog_24_method_2_code 43 = .ok (.putfield 13, 3) := by decide +kernel
def Q_rmG (Z : State) (a : Addr) (x : Int32) (y : Int32) (d : Addr) (f : Addr) (x0 : Int32) (x1 : Int32) (x2 : Int32) (x3 : Int32) (y0 : Int32) (y1 : Int32) (y2 : Int32) (y3 : Int32) (h0 : Heap) (n0 : Nat) (vQ : Option Value) (hQ : Heap) (LQ : List Loc) : Prop := ∃ d2 : Addr, ∃ f2 : Addr, vQ = none ∧ Fr n0 LQ ∧ Keep h0 hQ [a] ∧ h0.size ≤ d2 ∧ h0.size ≤ f2 ∧ Exa Z hQ a "com/example/libcosearch/libcosearch/PostingList$Builder" ∧ Fld Z hQ a "com/example/libcosearch/libcosearch/PostingList$Builder" "documents" "[I" (.ref d2) ∧ Fld Z hQ a "com/example/libcosearch/libcosearch/PostingList$Builder" "frequencies" "[I" (.ref f2) ∧ Fld Z hQ a "com/example/libcosearch/libcosearch/PostingList$Builder" "size" "I" (.int (5 : Int32)) ∧ Ia Z hQ d2 .int [x0, x1, x2, x3, x, (0 : Int32), (0 : Int32), (0 : Int32)] ∧ Ia Z hQ f2 .int [y0, y1, y2, y3, y, (0 : Int32), (0 : Int32), (0 : Int32)] ∧ Exa Z hQ d2 "[I" ∧ Exa Z hQ f2 "[I"
set_option maxRecDepth 65536 in
set_option maxHeartbeats 40000000 in
theorem rmG (l : Launch) (Z : State) (a0 : Array Value) (hw : ∀ d ∈ tables_1, d.before a0 Z = true) (ws : List Jvm.Cond) (a : Addr) (x : Int32) (y : Int32) (d : Addr) (f : Addr) (x0 : Int32) (x1 : Int32) (x2 : Int32) (x3 : Int32) (y0 : Int32) (y1 : Int32) (y2 : Int32) (y3 : Int32) (h0 : Heap) (n0 : Nat) (Z0 : n0 ≤ h0.size) (P0 : Exa Z h0 a "com/example/libcosearch/libcosearch/PostingList$Builder") (P1 : Fld Z h0 a "com/example/libcosearch/libcosearch/PostingList$Builder" "documents" "[I" (.ref d)) (P2 : Fld Z h0 a "com/example/libcosearch/libcosearch/PostingList$Builder" "frequencies" "[I" (.ref f)) (P3 : Fld Z h0 a "com/example/libcosearch/libcosearch/PostingList$Builder" "size" "I" (.int (4 : Int32))) (P4 : Ia Z h0 d .int [x0, x1, x2, x3]) (P5 : Ia Z h0 f .int [y0, y1, y2, y3]) (g_a : n0 ≤ a) (had : a ≠ d) (haf : a ≠ f) :
    MetFree l (⟨"com/example/libcosearch/libcosearch/PostingList$Builder", "add", "(II)V"⟩ : MethodName) (head1 (Jvm.Cond.code (⟨"com/example/libcosearch/libcosearch/PostingList$Builder", "add", "(II)V"⟩ : MethodName) prog_24_method_2_code 3 none :: ws) ({ frames := 2, cells := 2, slots := 16, locals := 55 } : Room)) (fun aQ UQ => aQ = #[(.ref a), (.int x), (.int y)] ∧ Z.Warmed39 UQ.vm ∧ UQ.heap = h0) (fun _ _ _ _ _ => True) (fun _ UQ oQ UR => ∃ vQ LQ, oQ = .returned vQ ∧ Q_rmG Z a x y d f x0 x1 x2 x3 y0 y1 y2 y3 h0 n0 vQ UR.heap LQ ∧ FrameEnd UQ oQ UR LQ ({ frames := 2, cells := 2, slots := 16, locals := 55 } : Room).cells ({ frames := 2, cells := 2, slots := 16, locals := 55 } : Room).slots) := by
  refine MetFree.of_bodySF (plainFor_of_name pn_9) hisR ?_
  intro p e s m args below meth c s₁ Bd hml0 hP hK
  obtain ⟨rfl, hZ, hh⟩ := hP
  have hx := Bd.exec
  have hby := Bd.bytes
  have hlk := Bd.notSynchronized
  have hml : c.maxLocals = 3 := hml0
  have hown : s.vm.findClass "com/example/libcosearch/libcosearch/PostingList$Builder" = some m.cls := findClass_of_methodNamed Bd.named
  have hnm := (name_of_methodNamed Bd.named Bd.method).1
  have X0 : Stand p l e ({ frames := 2, cells := 2, slots := 16, locals := 55 } : Room) s m #[(.ref a), (.int x), (.int y)] below meth c s₁ [] 0 0 := Stand.of_body Bd
  have e0 : s₁.heap = h0 := by rw [← hh, Bd.state]; rfl
  have N0 := Fr.nil n0
  show Go p e below _ (Done s (Q_rmG Z a x y d f x0 x1 x2 x3 y0 y1 y2 y3 h0 n0) ({ frames := 2, cells := 2, slots := 16, locals := 55 } : Room).cells ({ frames := 2, cells := 2, slots := 16, locals := 55 } : Room).slots)
  refine Go.via (fun tQ kQ => castTop (ef_9 m a x y) kQ) ?_
  show Go p e below (s₁.setTop (mkF m 0 #[.val (.ref a), .val (.int x), .val (.int y)] [])) _
  refine Go.via (fun _ => XS.aloadN X0.here hx rfl (hb hby d9_0) rfl rfl) ?_
  obtain ⟨T589, X589, e589, st589⟩ := getF X0 hx hZ hown (host := "") (Or.inl (tw hw 23 rfl)) Via.refl e0 P3 (g := (mkF m 1 #[.val (.ref a), .val (.int x), .val (.int y)] [(.ref a)])) rfl rfl (hb hby d9_1)
  refine Go.via (st589) ?_
  clear st589
  clear X0 e0
  show Go p e below (T589.setTop (mkF m 4 #[.val (.ref a), .val (.int x), .val (.int y)] [(.int (4 : Int32))])) _
  refine Go.via (fun _ => XS.aloadN X589.here hx rfl (hb hby d9_4) rfl rfl) ?_
  obtain ⟨T590, X590, e590, st590⟩ := getF X589 hx hZ hown (host := "") (Or.inl (tw hw 11 rfl)) Via.refl e589 P1 (g := (mkF m 5 #[.val (.ref a), .val (.int x), .val (.int y)] [(.ref a), (.int (4 : Int32))])) rfl rfl (hb hby d9_5)
  refine Go.via (st590) ?_
  clear st590
  clear X589 e589
  show Go p e below (T590.setTop (mkF m 8 #[.val (.ref a), .val (.int x), .val (.int y)] [(.ref d), (.int (4 : Int32))])) _
  refine Go.via (lenI X590 hx hZ e590 P4 (n := (4 : Int32)) rfl (g := (mkF m 8 #[.val (.ref a), .val (.int x), .val (.int y)] [(.ref d), (.int (4 : Int32))])) rfl rfl (hb hby d9_8)) ?_
  show Go p e below (T590.setTop (mkF m 9 #[.val (.ref a), .val (.int x), .val (.int y)] [(.int (4 : Int32)), (.int (4 : Int32))])) _
  refine Go.via (fun _ => XS.icmpNo X590.here hx rfl (hb hby d9_9) rfl (teq ((by decide) : (4 : Int32) = (4 : Int32))).2) ?_
  show Go p e below (T590.setTop (mkF m 12 #[.val (.ref a), .val (.int x), .val (.int y)] [])) _
  refine Go.via (fun _ => XS.aloadN X590.here hx rfl (hb hby d9_12) rfl rfl) ?_
  refine Go.via (fun _ => XS.aloadN X590.here hx rfl (hb hby d9_13) rfl rfl) ?_
  obtain ⟨T591, X591, e591, st591⟩ := getF X590 hx hZ hown (host := "") (Or.inl (tw hw 11 rfl)) Via.refl e590 P1 (g := (mkF m 14 #[.val (.ref a), .val (.int x), .val (.int y)] [(.ref a), (.ref a)])) rfl rfl (hb hby d9_14)
  refine Go.via (st591) ?_
  clear st591
  clear X590 e590
  show Go p e below (T591.setTop (mkF m 17 #[.val (.ref a), .val (.int x), .val (.int y)] [(.ref d), (.ref a)])) _
  refine Go.via (fun _ => XS.aloadN X591.here hx rfl (hb hby d9_17) rfl rfl) ?_
  obtain ⟨T592, X592, e592, st592⟩ := getF X591 hx hZ hown (host := "") (Or.inl (tw hw 23 rfl)) Via.refl e591 P3 (g := (mkF m 18 #[.val (.ref a), .val (.int x), .val (.int y)] [(.ref a), (.ref d), (.ref a)])) rfl rfl (hb hby d9_18)
  refine Go.via (st592) ?_
  clear st592
  clear X591 e591
  show Go p e below (T592.setTop (mkF m 21 #[.val (.ref a), .val (.int x), .val (.int y)] [(.int (4 : Int32)), (.ref d), (.ref a)])) _
  refine Go.via (fun _ => XS.iconst X592.here hx rfl (hb hby d9_21)) ?_
  refine Go.via (fun _ => XS.imul X592.here hx rfl (hb hby d9_22) rfl) ?_
  show Go p e below (T592.setTop (mkF m 23 #[.val (.ref a), .val (.int x), .val (.int y)] [(.int (8 : Int32)), (.ref d), (.ref a)])) _
  obtain ⟨_, _, ⟨T593, L593, k593, n593⟩, -, X593, ⟨Lc593, hQ593, l593, y593, z593⟩, st593⟩ := Jvm.LawKit.callS X592 hx (y := (⟨"java/util/Arrays", "copyOf", "([II)[I"⟩ : MethodName)) hown (mvT hZ (tw hw 25 rfl)) (mvT hZ (tw hw 26 rfl)) (mvT hZ (tw hw 27 rfl)) (mvT hZ (tw hw 28 rfl)) (by decide) (backOf (W := 1) (rmC l Z a0 hw [] d (8 : Int32) [x0, x1, x2, x3] h0 n0 Z0 P4 (by first | decide | (simp only [List.length_cons, List.length_nil]; decide) | rfl) (by first | decide | (simp only [List.length_cons, List.length_nil]; decide) | rfl) (by first | decide | (simp only [List.length_cons, List.length_nil]; decide) | rfl) (by first | decide | (simp only [List.length_cons, List.length_nil]; decide) | rfl)) hZ (tw hw 28 rfl) (tw hw 27 rfl) (by decide) (by decide)) (g := (mkF m 23 #[.val (.ref a), .val (.int x), .val (.int y)] [(.int (8 : Int32)), (.ref d), (.ref a)])) rfl (by rw [hml]; rfl) (argsL := [(.ref d), (.int (8 : Int32))]) (rest := [(.ref a)]) (lenOf pd__28_5bII_29_5bI rfl) rfl (by show 2 * 0 + _ ≤ _; exact Nat.le_of_eq rfl) (hb hby d9_23) (fun _ _ => ⟨rfl, e592, (by decide : 0 + 1 ≤ _), (by decide : 0 + 8 ≤ _)⟩)
  dsimp only [Pt.U, Pt.locs, Pt.cells, Pt.slots] at X593 l593 y593 z593 st593 hQ593
  subst l593 y593 z593
  obtain ⟨b594, rfl, N593q, K593q, fz_b594, f595, f596⟩ := hQ593
  have N593 := Fr.app N0 N593q
  refine Go.via (st593) ?_
  clear st593
  have ne597 : a ≠ b594 := Nat.ne_of_lt (Nat.lt_of_lt_of_le P0.lt fz_b594)
  have ne598 : d ≠ b594 := Nat.ne_of_lt (Nat.lt_of_lt_of_le P4.lt fz_b594)
  have ne599 : f ≠ b594 := Nat.ne_of_lt (Nat.lt_of_lt_of_le P5.lt fz_b594)
  have ge600 : n0 ≤ b594 := Nat.le_trans Z0 fz_b594
  have sz601 : h0.size ≤ b594 := Nat.le_trans (Keep.refl h0 [a]).1 fz_b594
  have e593 : T593.heap = T593.heap := rfl
  have f602 : Ia Z T593.heap b594 .int [x0, x1, x2, x3, (0 : Int32), (0 : Int32), (0 : Int32), (0 : Int32)] := f595
  have f603 : Exa Z T593.heap b594 "[I" := f596
  clear X592 e592
  show Go p e below (T593.setTop (mkF m 26 #[.val (.ref a), .val (.int x), .val (.int y)] [(.ref b594), (.ref a)])) _
  have f604 : Fld Z T593.heap a "com/example/libcosearch/libcosearch/PostingList$Builder" "documents" "[I" (.ref d) := (P1.keep K593q nin0)
  have f605 : Exa Z T593.heap a "com/example/libcosearch/libcosearch/PostingList$Builder" := (P0.keep K593q)
  obtain ⟨T606, h606, X606, e606, W606, st606⟩ := putF X593 hx hZ hown (host := "") (Or.inl (tw hw 11 rfl)) Via.refl e593 f604 f605 (Or.inl (tw hw 12 rfl)) (tw hw 2 rfl) (ty := (.array .int)) (by decide) rfl rfl (g := (mkF m 26 #[.val (.ref a), .val (.int x), .val (.int y)] [(.ref b594), (.ref a)])) rfl rfl (hb hby d9_26)
  refine Go.via (st606) ?_
  clear st606
  have N606 := Fr.snoc X606 N593 g_a
  have f607 : Fld Z h606 a "com/example/libcosearch/libcosearch/PostingList$Builder" "documents" "[I" (.ref b594) := f604.same W606
  clear X593 e593
  show Go p e below (T606.setTop (mkF m 29 #[.val (.ref a), .val (.int x), .val (.int y)] [])) _
  refine Go.via (fun _ => XS.aloadN X606.here hx rfl (hb hby d9_29) rfl rfl) ?_
  refine Go.via (fun _ => XS.aloadN X606.here hx rfl (hb hby d9_30) rfl rfl) ?_
  have f608 : Fld Z h606 a "com/example/libcosearch/libcosearch/PostingList$Builder" "frequencies" "[I" (.ref f) := ((P2.keep K593q nin0).other W606 (Or.inr (slot_ne (Or.inl (tw hw 14 rfl)) (Or.inl (tw hw 12 rfl)) (by decide) (t := (.array .int)) (t' := (.array .int)) (by decide) (by decide))))
  obtain ⟨T609, X609, e609, st609⟩ := getF X606 hx hZ hown (host := "") (Or.inl (tw hw 13 rfl)) Via.refl e606 f608 (g := (mkF m 31 #[.val (.ref a), .val (.int x), .val (.int y)] [(.ref a), (.ref a)])) rfl rfl (hb hby d9_31)
  refine Go.via (st609) ?_
  clear st609
  clear X606 e606
  show Go p e below (T609.setTop (mkF m 34 #[.val (.ref a), .val (.int x), .val (.int y)] [(.ref f), (.ref a)])) _
  refine Go.via (fun _ => XS.aloadN X609.here hx rfl (hb hby d9_34) rfl rfl) ?_
  have f610 : Fld Z h606 a "com/example/libcosearch/libcosearch/PostingList$Builder" "size" "I" (.int (4 : Int32)) := ((P3.keep K593q nin0).other W606 (Or.inr (slot_ne (Or.inl (tw hw 24 rfl)) (Or.inl (tw hw 12 rfl)) (by decide) (t := .int) (t' := (.array .int)) (by decide) (by decide))))
  obtain ⟨T611, X611, e611, st611⟩ := getF X609 hx hZ hown (host := "") (Or.inl (tw hw 23 rfl)) Via.refl e609 f610 (g := (mkF m 35 #[.val (.ref a), .val (.int x), .val (.int y)] [(.ref a), (.ref f), (.ref a)])) rfl rfl (hb hby d9_35)
  refine Go.via (st611) ?_
  clear st611
  clear X609 e609
  show Go p e below (T611.setTop (mkF m 38 #[.val (.ref a), .val (.int x), .val (.int y)] [(.int (4 : Int32)), (.ref f), (.ref a)])) _
  refine Go.via (fun _ => XS.iconst X611.here hx rfl (hb hby d9_38)) ?_
  refine Go.via (fun _ => XS.imul X611.here hx rfl (hb hby d9_39) rfl) ?_
  show Go p e below (T611.setTop (mkF m 40 #[.val (.ref a), .val (.int x), .val (.int y)] [(.int (8 : Int32)), (.ref f), (.ref a)])) _
  have f612 : Ia Z h606 f .int [y0, y1, y2, y3] := ((P5.keep K593q nin0).other W606 (Ne.symm haf))
  have z614 : n0 ≤ h606.size := (Nat.le_trans (Nat.le_trans Z0 K593q.1) (Keep.of_wr W606).1)
  obtain ⟨_, _, ⟨T613, L613, k613, n613⟩, -, X613, ⟨Lc613, hQ613, l613, y613, z613⟩, st613⟩ := Jvm.LawKit.callS X611 hx (y := (⟨"java/util/Arrays", "copyOf", "([II)[I"⟩ : MethodName)) hown (mvT hZ (tw hw 25 rfl)) (mvT hZ (tw hw 26 rfl)) (mvT hZ (tw hw 27 rfl)) (mvT hZ (tw hw 28 rfl)) (by decide) (backOf (W := 1) (rmC l Z a0 hw [] f (8 : Int32) [y0, y1, y2, y3] h606 n0 z614 f612 (by first | decide | (simp only [List.length_cons, List.length_nil]; decide) | rfl) (by first | decide | (simp only [List.length_cons, List.length_nil]; decide) | rfl) (by first | decide | (simp only [List.length_cons, List.length_nil]; decide) | rfl) (by first | decide | (simp only [List.length_cons, List.length_nil]; decide) | rfl)) hZ (tw hw 28 rfl) (tw hw 27 rfl) (by decide) (by decide)) (g := (mkF m 40 #[.val (.ref a), .val (.int x), .val (.int y)] [(.int (8 : Int32)), (.ref f), (.ref a)])) rfl (by rw [hml]; rfl) (argsL := [(.ref f), (.int (8 : Int32))]) (rest := [(.ref a)]) (lenOf pd__28_5bII_29_5bI rfl) rfl (by show 2 * 0 + _ ≤ _; exact Nat.le_of_eq rfl) (hb hby d9_40) (fun _ _ => ⟨rfl, e611, (by decide : 1 + 1 ≤ _), (by decide : 8 + 8 ≤ _)⟩)
  dsimp only [Pt.U, Pt.locs, Pt.cells, Pt.slots] at X613 l613 y613 z613 st613 hQ613
  subst l613 y613 z613
  obtain ⟨b615, rfl, N613q, K613q, fz_b615, f616, f617⟩ := hQ613
  have N613 := Fr.app N606 N613q
  refine Go.via (st613) ?_
  clear st613
  have f618 : Exa Z h606 a "com/example/libcosearch/libcosearch/PostingList$Builder" := (f605.wr W606)
  have ne619 : a ≠ b615 := Nat.ne_of_lt (Nat.lt_of_lt_of_le f618.lt fz_b615)
  have f620 : Ia Z h606 b594 .int [x0, x1, x2, x3, (0 : Int32), (0 : Int32), (0 : Int32), (0 : Int32)] := (f602.other W606 (Ne.symm ne597))
  have ne621 : b594 ≠ b615 := Nat.ne_of_lt (Nat.lt_of_lt_of_le f620.lt fz_b615)
  have f622 : Ia Z h606 d .int [x0, x1, x2, x3] := ((P4.keep K593q nin0).other W606 (Ne.symm had))
  have ne623 : d ≠ b615 := Nat.ne_of_lt (Nat.lt_of_lt_of_le f622.lt fz_b615)
  have ne624 : f ≠ b615 := Nat.ne_of_lt (Nat.lt_of_lt_of_le f612.lt fz_b615)
  have ge625 : n0 ≤ b615 := Nat.le_trans z614 fz_b615
  have k627 : Keep h0 h606 [a] := (((Keep.refl h0 [a]).trans K593q all0).wr W606 (Or.inl (List.mem_of_getElem? (i := 0) rfl)))
  have sz626 : h0.size ≤ b615 := Nat.le_trans k627.1 fz_b615
  have e613 : T613.heap = T613.heap := rfl
  have f628 : Ia Z T613.heap b615 .int [y0, y1, y2, y3, (0 : Int32), (0 : Int32), (0 : Int32), (0 : Int32)] := f616
  have f629 : Exa Z T613.heap b615 "[I" := f617
  clear X611 e611
  show Go p e below (T613.setTop (mkF m 43 #[.val (.ref a), .val (.int x), .val (.int y)] [(.ref b615), (.ref a)])) _
  have f630 : Fld Z T613.heap a "com/example/libcosearch/libcosearch/PostingList$Builder" "frequencies" "[I" (.ref f) := (f608.keep K613q nin0)
  have f631 : Exa Z T613.heap a "com/example/libcosearch/libcosearch/PostingList$Builder" := (f618.keep K613q)
  obtain ⟨T632, h632, X632, e632, W632, st632⟩ := putF X613 hx hZ hown (host := "") (Or.inl (tw hw 13 rfl)) Via.refl e613 f630 f631 (Or.inl (tw hw 14 rfl)) (tw hw 2 rfl) (ty := (.array .int)) (by decide) rfl rfl (g := (mkF m 43 #[.val (.ref a), .val (.int x), .val (.int y)] [(.ref b615), (.ref a)])) rfl rfl (hb hby d9_43)
  refine Go.via (st632) ?_
  clear st632
  have N632 := Fr.snoc X632 N613 g_a
  have f633 : Fld Z h632 a "com/example/libcosearch/libcosearch/PostingList$Builder" "frequencies" "[I" (.ref b615) := f630.same W632
  clear X613 e613
  show Go p e below (T632.setTop (mkF m 46 #[.val (.ref a), .val (.int x), .val (.int y)] [])) _
  refine Go.via (fun _ => XS.aloadN X632.here hx rfl (hb hby d9_46) rfl rfl) ?_
  have f634 : Fld Z h632 a "com/example/libcosearch/libcosearch/PostingList$Builder" "documents" "[I" (.ref b594) := ((f607.keep K613q nin0).other W632 (Or.inr (slot_ne (Or.inl (tw hw 12 rfl)) (Or.inl (tw hw 14 rfl)) (by decide) (t := (.array .int)) (t' := (.array .int)) (by decide) (by decide))))
  obtain ⟨T635, X635, e635, st635⟩ := getF X632 hx hZ hown (host := "") (Or.inl (tw hw 11 rfl)) Via.refl e632 f634 (g := (mkF m 47 #[.val (.ref a), .val (.int x), .val (.int y)] [(.ref a)])) rfl rfl (hb hby d9_47)
  refine Go.via (st635) ?_
  clear st635
  clear X632 e632
  show Go p e below (T635.setTop (mkF m 50 #[.val (.ref a), .val (.int x), .val (.int y)] [(.ref b594)])) _
  refine Go.via (fun _ => XS.aloadN X635.here hx rfl (hb hby d9_50) rfl rfl) ?_
  have f636 : Fld Z h632 a "com/example/libcosearch/libcosearch/PostingList$Builder" "size" "I" (.int (4 : Int32)) := ((f610.keep K613q nin0).other W632 (Or.inr (slot_ne (Or.inl (tw hw 24 rfl)) (Or.inl (tw hw 14 rfl)) (by decide) (t := .int) (t' := (.array .int)) (by decide) (by decide))))
  obtain ⟨T637, X637, e637, st637⟩ := getF X635 hx hZ hown (host := "") (Or.inl (tw hw 23 rfl)) Via.refl e635 f636 (g := (mkF m 51 #[.val (.ref a), .val (.int x), .val (.int y)] [(.ref a), (.ref b594)])) rfl rfl (hb hby d9_51)
  refine Go.via (st637) ?_
  clear st637
  clear X635 e635
  show Go p e below (T637.setTop (mkF m 54 #[.val (.ref a), .val (.int x), .val (.int y)] [(.int (4 : Int32)), (.ref b594)])) _
  refine Go.via (fun _ => XS.iloadN X637.here hx rfl (hb hby d9_54) rfl) ?_
  have f638 : Ia Z h632 b594 .int [x0, x1, x2, x3, (0 : Int32), (0 : Int32), (0 : Int32), (0 : Int32)] := ((f620.keep K613q nin0).other W632 (Ne.symm ne597))
  obtain ⟨T639, h639, X639, e639, W639, V639, st639⟩ := stI' X637 hx hZ e637 f638 (j := (4 : Int32)) (by decide) (by first | decide | (simp only [List.length_cons, List.length_nil]; decide) | rfl) (g := (mkF m 55 #[.val (.ref a), .val (.int x), .val (.int y)] [(.int x), (.int (4 : Int32)), (.ref b594)])) rfl rfl (hb hby d9_55)
  refine Go.via (st639) ?_
  clear st639
  have N639 := Fr.snoc X639 N632 ge600
  have f640 : Ia Z h639 b594 .int [x0, x1, x2, x3, x, (0 : Int32), (0 : Int32), (0 : Int32)] := V639
  clear X637 e637
  show Go p e below (T639.setTop (mkF m 56 #[.val (.ref a), .val (.int x), .val (.int y)] [])) _
  refine Go.via (fun _ => XS.aloadN X639.here hx rfl (hb hby d9_56) rfl rfl) ?_
  have f641 : Fld Z h639 a "com/example/libcosearch/libcosearch/PostingList$Builder" "frequencies" "[I" (.ref b615) := (f633.other W639 (Or.inl ne597))
  obtain ⟨T642, X642, e642, st642⟩ := getF X639 hx hZ hown (host := "") (Or.inl (tw hw 13 rfl)) Via.refl e639 f641 (g := (mkF m 57 #[.val (.ref a), .val (.int x), .val (.int y)] [(.ref a)])) rfl rfl (hb hby d9_57)
  refine Go.via (st642) ?_
  clear st642
  clear X639 e639
  show Go p e below (T642.setTop (mkF m 60 #[.val (.ref a), .val (.int x), .val (.int y)] [(.ref b615)])) _
  refine Go.via (fun _ => XS.aloadN X642.here hx rfl (hb hby d9_60) rfl rfl) ?_
  have f643 : Fld Z h639 a "com/example/libcosearch/libcosearch/PostingList$Builder" "size" "I" (.int (4 : Int32)) := (f636.other W639 (Or.inl ne597))
  obtain ⟨T644, X644, e644, st644⟩ := getF X642 hx hZ hown (host := "") (Or.inl (tw hw 23 rfl)) Via.refl e642 f643 (g := (mkF m 61 #[.val (.ref a), .val (.int x), .val (.int y)] [(.ref a), (.ref b615)])) rfl rfl (hb hby d9_61)
  refine Go.via (st644) ?_
  clear st644
  clear X642 e642
  show Go p e below (T644.setTop (mkF m 64 #[.val (.ref a), .val (.int x), .val (.int y)] [(.int (4 : Int32)), (.ref b615)])) _
  refine Go.via (fun _ => XS.iloadN X644.here hx rfl (hb hby d9_64) rfl) ?_
  have f645 : Ia Z h639 b615 .int [y0, y1, y2, y3, (0 : Int32), (0 : Int32), (0 : Int32), (0 : Int32)] := ((f628.other W632 (Ne.symm ne619)).other W639 (Ne.symm ne621))
  obtain ⟨T646, h646, X646, e646, W646, V646, st646⟩ := stI' X644 hx hZ e644 f645 (j := (4 : Int32)) (by decide) (by first | decide | (simp only [List.length_cons, List.length_nil]; decide) | rfl) (g := (mkF m 65 #[.val (.ref a), .val (.int x), .val (.int y)] [(.int y), (.int (4 : Int32)), (.ref b615)])) rfl rfl (hb hby d9_65)
  refine Go.via (st646) ?_
  clear st646
  have N646 := Fr.snoc X646 N639 ge625
  have f647 : Ia Z h646 b615 .int [y0, y1, y2, y3, y, (0 : Int32), (0 : Int32), (0 : Int32)] := V646
  clear X644 e644
  show Go p e below (T646.setTop (mkF m 66 #[.val (.ref a), .val (.int x), .val (.int y)] [])) _
  refine Go.via (fun _ => XS.aloadN X646.here hx rfl (hb hby d9_66) rfl rfl) ?_
  refine Go.via (fun _ => XS.dup X646.here hx rfl (hb hby d9_67) rfl rfl) ?_
  have f648 : Fld Z h646 a "com/example/libcosearch/libcosearch/PostingList$Builder" "size" "I" (.int (4 : Int32)) := (f643.other W646 (Or.inl ne619))
  obtain ⟨T649, X649, e649, st649⟩ := getF X646 hx hZ hown (host := "") (Or.inl (tw hw 23 rfl)) Via.refl e646 f648 (g := (mkF m 68 #[.val (.ref a), .val (.int x), .val (.int y)] [(.ref a), (.ref a)])) rfl rfl (hb hby d9_68)
  refine Go.via (st649) ?_
  clear st649
  clear X646 e646
  show Go p e below (T649.setTop (mkF m 71 #[.val (.ref a), .val (.int x), .val (.int y)] [(.int (4 : Int32)), (.ref a)])) _
  refine Go.via (fun _ => XS.iconst X649.here hx rfl (hb hby d9_71)) ?_
  refine Go.via (fun _ => XS.iadd X649.here hx rfl (hb hby d9_72) rfl) ?_
  show Go p e below (T649.setTop (mkF m 73 #[.val (.ref a), .val (.int x), .val (.int y)] [(.int (5 : Int32)), (.ref a)])) _
  have f650 : Exa Z h646 a "com/example/libcosearch/libcosearch/PostingList$Builder" := (((f631.wr W632).wr W639).wr W646)
  obtain ⟨T651, h651, X651, e651, W651, st651⟩ := putF X649 hx hZ hown (host := "") (Or.inl (tw hw 23 rfl)) Via.refl e649 f648 f650 (Or.inl (tw hw 24 rfl)) (tw hw 2 rfl) (ty := .int) (by decide) rfl rfl (g := (mkF m 73 #[.val (.ref a), .val (.int x), .val (.int y)] [(.int (5 : Int32)), (.ref a)])) rfl rfl (hb hby d9_73)
  refine Go.via (st651) ?_
  clear st651
  have N651 := Fr.snoc X651 N646 g_a
  have f652 : Fld Z h651 a "com/example/libcosearch/libcosearch/PostingList$Builder" "size" "I" (.int (5 : Int32)) := f648.same W651
  clear X649 e649
  show Go p e below (T651.setTop (mkF m 76 #[.val (.ref a), .val (.int x), .val (.int y)] [])) _
  have k653 : Keep h0 h651 [a] := (((((k627.trans K613q all0).wr W632 (Or.inl (List.mem_of_getElem? (i := 0) rfl))).wr W639 (Or.inr sz601)).wr W646 (Or.inr sz626)).wr W651 (Or.inl (List.mem_of_getElem? (i := 0) rfl)))
  have f654 : Exa Z h651 a "com/example/libcosearch/libcosearch/PostingList$Builder" := (f650.wr W651)
  have f655 : Fld Z h651 a "com/example/libcosearch/libcosearch/PostingList$Builder" "documents" "[I" (.ref b594) := (((f634.other W639 (Or.inl ne597)).other W646 (Or.inl ne619)).other W651 (Or.inr (slot_ne (Or.inl (tw hw 12 rfl)) (Or.inl (tw hw 24 rfl)) (by decide) (t := (.array .int)) (t' := .int) (by decide) (by decide))))
  have f656 : Fld Z h651 a "com/example/libcosearch/libcosearch/PostingList$Builder" "frequencies" "[I" (.ref b615) := ((f641.other W646 (Or.inl ne619)).other W651 (Or.inr (slot_ne (Or.inl (tw hw 14 rfl)) (Or.inl (tw hw 24 rfl)) (by decide) (t := (.array .int)) (t' := .int) (by decide) (by decide))))
  have f657 : Ia Z h651 b594 .int [x0, x1, x2, x3, x, (0 : Int32), (0 : Int32), (0 : Int32)] := ((f640.other W646 ne621).other W651 (Ne.symm ne597))
  have f658 : Ia Z h651 b615 .int [y0, y1, y2, y3, y, (0 : Int32), (0 : Int32), (0 : Int32)] := (f647.other W651 (Ne.symm ne619))
  have f659 : Exa Z h651 b594 "[I" := ((((((f603.wr W606).keep K613q).wr W632).wr W639).wr W646).wr W651)
  have f660 : Exa Z h651 b615 "[I" := ((((f629.wr W632).wr W639).wr W646).wr W651)
  exact Go.fin X651 hlk (v := none) (fun _ => rfl) (fun fs hr => X651.returnOut hx Bd.returns (hb hby d9_76) hr) (by rw [e651]; exact ⟨b594, b615, rfl, N651, k653, sz601, sz626, f654, f655, f656, f652, f657, f658, f659, f660⟩) (by decide) (by decide)
theorem d7_0 : decode prog_23_method_2_code 0 = .ok (.aload_n 0, 1) := by decide +kernel
theorem d7_1 : decode prog_23_method_2_code 1 = .ok (.getfield 7, 3) := by decide +kernel
theorem d7_4 : decode prog_23_method_2_code 4 = .ok (.arraylength, 1) := by decide +kernel
theorem d7_5 : decode prog_23_method_2_code 5 = .ok (.ireturn, 1) := by decide +kernel
theorem pn_7 : plainName "com/example/libcosearch/libcosearch/PostingList" = true := by first | (simp [plainName, overriddenIn]; done) | decide +kernel
theorem ef_7 (m : MethodId) (x0 : Addr) : entryFrame m #[(.ref x0)] 1 = mkF m 0 #[.val (.ref x0)] [] := by first | (simp [entryFrame, mkF, argsToLocals, Value.category]; done) | rfl
def Q_rmS (Z : State) (a : Addr) (d : Addr) (xs : List Int32) (h0 : Heap) (n0 : Nat) (vQ : Option Value) (hQ : Heap) (LQ : List Loc) : Prop := vQ = some (.int (xs.length.toInt32)) ∧ Fr n0 LQ ∧ hQ = h0
set_option maxRecDepth 65536 in
set_option maxHeartbeats 40000000 in
theorem rmS (l : Launch) (Z : State) (a0 : Array Value) (hw : ∀ d ∈ tables_1, d.before a0 Z = true) (ws : List Jvm.Cond) (a : Addr) (d : Addr) (xs : List Int32) (h0 : Heap) (n0 : Nat) (Z0 : n0 ≤ h0.size) (P0 : Fld Z h0 a "com/example/libcosearch/libcosearch/PostingList" "documents" "[I" (.ref d)) (P1 : Ia Z h0 d .int xs) :
    MetFree l (⟨"com/example/libcosearch/libcosearch/PostingList", "size", "()I"⟩ : MethodName) (head1 (Jvm.Cond.code (⟨"com/example/libcosearch/libcosearch/PostingList", "size", "()I"⟩ : MethodName) prog_23_method_2_code 1 (some .int) :: ws) ({ frames := 0, cells := 0, slots := 0, locals := 0 } : Room)) (fun aQ UQ => aQ = #[(.ref a)] ∧ Z.Warmed39 UQ.vm ∧ UQ.heap = h0) (fun _ _ _ _ _ => True) (fun _ UQ oQ UR => ∃ vQ LQ, oQ = .returned vQ ∧ Q_rmS Z a d xs h0 n0 vQ UR.heap LQ ∧ FrameEnd UQ oQ UR LQ ({ frames := 0, cells := 0, slots := 0, locals := 0 } : Room).cells ({ frames := 0, cells := 0, slots := 0, locals := 0 } : Room).slots) := by
  refine MetFree.of_bodySF (plainFor_of_name pn_7) hisR ?_
  intro p e s m args below meth c s₁ Bd hml0 hP hK
  obtain ⟨rfl, hZ, hh⟩ := hP
  have hx := Bd.exec
  have hby := Bd.bytes
  have hlk := Bd.notSynchronized
  have hml : c.maxLocals = 1 := hml0
  have hown : s.vm.findClass "com/example/libcosearch/libcosearch/PostingList" = some m.cls := findClass_of_methodNamed Bd.named
  have hnm := (name_of_methodNamed Bd.named Bd.method).1
  have X0 : Stand p l e ({ frames := 0, cells := 0, slots := 0, locals := 0 } : Room) s m #[(.ref a)] below meth c s₁ [] 0 0 := Stand.of_body Bd
  have e0 : s₁.heap = h0 := by rw [← hh, Bd.state]; rfl
  have N0 := Fr.nil n0
  show Go p e below _ (Done s (Q_rmS Z a d xs h0 n0) ({ frames := 0, cells := 0, slots := 0, locals := 0 } : Room).cells ({ frames := 0, cells := 0, slots := 0, locals := 0 } : Room).slots)
  refine Go.via (fun tQ kQ => castTop (ef_7 m a) kQ) ?_
  show Go p e below (s₁.setTop (mkF m 0 #[.val (.ref a)] [])) _
  refine Go.via (fun _ => XS.aloadN X0.here hx rfl (hb hby d7_0) rfl rfl) ?_
  obtain ⟨T661, X661, e661, st661⟩ := getF X0 hx hZ hown (host := "") (Or.inl (tw hw 41 rfl)) Via.refl e0 P0 (g := (mkF m 1 #[.val (.ref a)] [(.ref a)])) rfl rfl (hb hby d7_1)
  refine Go.via (st661) ?_
  clear st661
  clear X0 e0
  show Go p e below (T661.setTop (mkF m 4 #[.val (.ref a)] [(.ref d)])) _
  refine Go.via (lenI X661 hx hZ e661 P1 (n := (xs.length.toInt32)) rfl (g := (mkF m 4 #[.val (.ref a)] [(.ref d)])) rfl rfl (hb hby d7_4)) ?_
  show Go p e below (T661.setTop (mkF m 5 #[.val (.ref a)] [(.int (xs.length.toInt32))])) _
  exact Go.fin X661 hlk (v := some (.int (xs.length.toInt32))) (fun h => by rw [Bd.returns] at h; cases h) (fun fs hr => OwnKit.retI X661 hx Bd.returns (hb hby d7_5) hr) (by rw [e661]; exact ⟨rfl, N0, rfl⟩) (by decide) (by decide)
theorem d8_0 : decode prog_23_method_7_code 0 = .ok (.aload_n 0, 1) := by decide +kernel
theorem d8_1 : decode prog_23_method_7_code 1 = .ok (.getfield 16, 3) := by decide +kernel
theorem d8_4 : decode prog_23_method_7_code 4 = .ok (.lreturn, 1) := by decide +kernel
theorem pn_8 : plainName "com/example/libcosearch/libcosearch/PostingList" = true := by first | (simp [plainName, overriddenIn]; done) | decide +kernel
theorem ef_8 (m : MethodId) (x0 : Addr) : entryFrame m #[(.ref x0)] 1 = mkF m 0 #[.val (.ref x0)] [] := by first | (simp [entryFrame, mkF, argsToLocals, Value.category]; done) | rfl
def Q_rmF (Z : State) (a : Addr) (q : Int64) (h0 : Heap) (n0 : Nat) (vQ : Option Value) (hQ : Heap) (LQ : List Loc) : Prop := vQ = some (.long q) ∧ Fr n0 LQ ∧ hQ = h0
set_option maxRecDepth 65536 in
set_option maxHeartbeats 40000000 in
theorem rmF (l : Launch) (Z : State) (a0 : Array Value) (hw : ∀ d ∈ tables_1, d.before a0 Z = true) (ws : List Jvm.Cond) (a : Addr) (q : Int64) (h0 : Heap) (n0 : Nat) (Z0 : n0 ≤ h0.size) (P0 : Fld Z h0 a "com/example/libcosearch/libcosearch/PostingList" "collectionFrequency" "J" (.long q)) :
    MetFree l (⟨"com/example/libcosearch/libcosearch/PostingList", "collectionFrequency", "()J"⟩ : MethodName) (head1 (Jvm.Cond.code (⟨"com/example/libcosearch/libcosearch/PostingList", "collectionFrequency", "()J"⟩ : MethodName) prog_23_method_7_code 1 (some .long) :: ws) ({ frames := 0, cells := 0, slots := 0, locals := 0 } : Room)) (fun aQ UQ => aQ = #[(.ref a)] ∧ Z.Warmed39 UQ.vm ∧ UQ.heap = h0) (fun _ _ _ _ _ => True) (fun _ UQ oQ UR => ∃ vQ LQ, oQ = .returned vQ ∧ Q_rmF Z a q h0 n0 vQ UR.heap LQ ∧ FrameEnd UQ oQ UR LQ ({ frames := 0, cells := 0, slots := 0, locals := 0 } : Room).cells ({ frames := 0, cells := 0, slots := 0, locals := 0 } : Room).slots) := by
  refine MetFree.of_bodySF (plainFor_of_name pn_8) hisR ?_
  intro p e s m args below meth c s₁ Bd hml0 hP hK
  obtain ⟨rfl, hZ, hh⟩ := hP
  have hx := Bd.exec
  have hby := Bd.bytes
  have hlk := Bd.notSynchronized
  have hml : c.maxLocals = 1 := hml0
  have hown : s.vm.findClass "com/example/libcosearch/libcosearch/PostingList" = some m.cls := findClass_of_methodNamed Bd.named
  have hnm := (name_of_methodNamed Bd.named Bd.method).1
  have X0 : Stand p l e ({ frames := 0, cells := 0, slots := 0, locals := 0 } : Room) s m #[(.ref a)] below meth c s₁ [] 0 0 := Stand.of_body Bd
  have e0 : s₁.heap = h0 := by rw [← hh, Bd.state]; rfl
  have N0 := Fr.nil n0
  show Go p e below _ (Done s (Q_rmF Z a q h0 n0) ({ frames := 0, cells := 0, slots := 0, locals := 0 } : Room).cells ({ frames := 0, cells := 0, slots := 0, locals := 0 } : Room).slots)
  refine Go.via (fun tQ kQ => castTop (ef_8 m a) kQ) ?_
  show Go p e below (s₁.setTop (mkF m 0 #[.val (.ref a)] [])) _
  refine Go.via (fun _ => XS.aloadN X0.here hx rfl (hb hby d8_0) rfl rfl) ?_
  obtain ⟨T662, X662, e662, st662⟩ := getF X0 hx hZ hown (host := "") (Or.inl (tw hw 45 rfl)) Via.refl e0 P0 (g := (mkF m 1 #[.val (.ref a)] [(.ref a)])) rfl rfl (hb hby d8_1)
  refine Go.via (st662) ?_
  clear st662
  clear X0 e0
  show Go p e below (T662.setTop (mkF m 4 #[.val (.ref a)] [(.long q)])) _
  exact Go.fin X662 hlk (v := some (.long q)) (fun h => by rw [Bd.returns] at h; cases h) (fun fs hr => retOut X662 hx Bd.returns rfl (Or.inr (Or.inl ⟨rfl, rfl, _, rfl⟩)) (hb hby d8_4) hr) (by rw [e662]; exact ⟨rfl, N0, rfl⟩) (by decide) (by decide)
theorem d10_0 : decode prog_23_method_3_code 0 = .ok (.aload_n 0, 1) := by decide +kernel
theorem d10_1 : decode prog_23_method_3_code 1 = .ok (.getfield 7, 3) := by decide +kernel
theorem d10_4 : decode prog_23_method_3_code 4 = .ok (.iload_n 1, 1) := by decide +kernel
theorem d10_5 : decode prog_23_method_3_code 5 = .ok (.iaload, 1) := by decide +kernel
theorem d10_6 : decode prog_23_method_3_code 6 = .ok (.ireturn, 1) := by decide +kernel
theorem pn_10 : plainName "com/example/libcosearch/libcosearch/PostingList" = true := by first | (simp [plainName, overriddenIn]; done) | decide +kernel
theorem ef_10 (m : MethodId) (x0 : Addr) (x1 : Int32) : entryFrame m #[(.ref x0), (.int x1)] 2 = mkF m 0 #[.val (.ref x0), .val (.int x1)] [] := by first | (simp [entryFrame, mkF, argsToLocals, Value.category]; done) | rfl
def Q_rm_document (Z : State) (a : Addr) (i : Int32) (d : Addr) (xs : List Int32) (v_ : Int32) (h0 : Heap) (n0 : Nat) (vQ : Option Value) (hQ : Heap) (LQ : List Loc) : Prop := vQ = some (.int v_) ∧ Fr n0 LQ ∧ hQ = h0
set_option maxRecDepth 65536 in
set_option maxHeartbeats 40000000 in
theorem rm_document (l : Launch) (Z : State) (a0 : Array Value) (hw : ∀ d ∈ tables_1, d.before a0 Z = true) (ws : List Jvm.Cond) (a : Addr) (i : Int32) (d : Addr) (xs : List Int32) (v_ : Int32) (h0 : Heap) (n0 : Nat) (Z0 : n0 ≤ h0.size) (P0 : Fld Z h0 a "com/example/libcosearch/libcosearch/PostingList" "documents" "[I" (.ref d)) (P1 : Ia Z h0 d .int xs) (hi0 : ¬ i < 0) (hv : xs[i.toNatClampNeg]? = some v_) :
    MetFree l (⟨"com/example/libcosearch/libcosearch/PostingList", "document", "(I)I"⟩ : MethodName) (head1 (Jvm.Cond.code (⟨"com/example/libcosearch/libcosearch/PostingList", "document", "(I)I"⟩ : MethodName) prog_23_method_3_code 2 (some .int) :: ws) ({ frames := 0, cells := 0, slots := 0, locals := 0 } : Room)) (fun aQ UQ => aQ = #[(.ref a), (.int i)] ∧ Z.Warmed39 UQ.vm ∧ UQ.heap = h0) (fun _ _ _ _ _ => True) (fun _ UQ oQ UR => ∃ vQ LQ, oQ = .returned vQ ∧ Q_rm_document Z a i d xs v_ h0 n0 vQ UR.heap LQ ∧ FrameEnd UQ oQ UR LQ ({ frames := 0, cells := 0, slots := 0, locals := 0 } : Room).cells ({ frames := 0, cells := 0, slots := 0, locals := 0 } : Room).slots) := by
  refine MetFree.of_bodySF (plainFor_of_name pn_10) hisR ?_
  intro p e s m args below meth c s₁ Bd hml0 hP hK
  obtain ⟨rfl, hZ, hh⟩ := hP
  have hx := Bd.exec
  have hby := Bd.bytes
  have hlk := Bd.notSynchronized
  have hml : c.maxLocals = 2 := hml0
  have hown : s.vm.findClass "com/example/libcosearch/libcosearch/PostingList" = some m.cls := findClass_of_methodNamed Bd.named
  have hnm := (name_of_methodNamed Bd.named Bd.method).1
  have X0 : Stand p l e ({ frames := 0, cells := 0, slots := 0, locals := 0 } : Room) s m #[(.ref a), (.int i)] below meth c s₁ [] 0 0 := Stand.of_body Bd
  have e0 : s₁.heap = h0 := by rw [← hh, Bd.state]; rfl
  have N0 := Fr.nil n0
  show Go p e below _ (Done s (Q_rm_document Z a i d xs v_ h0 n0) ({ frames := 0, cells := 0, slots := 0, locals := 0 } : Room).cells ({ frames := 0, cells := 0, slots := 0, locals := 0 } : Room).slots)
  refine Go.via (fun tQ kQ => castTop (ef_10 m a i) kQ) ?_
  show Go p e below (s₁.setTop (mkF m 0 #[.val (.ref a), .val (.int i)] [])) _
  refine Go.via (fun _ => XS.aloadN X0.here hx rfl (hb hby d10_0) rfl rfl) ?_
  obtain ⟨T663, X663, e663, st663⟩ := getF X0 hx hZ hown (host := "") (Or.inl (tw hw 41 rfl)) Via.refl e0 P0 (g := (mkF m 1 #[.val (.ref a), .val (.int i)] [(.ref a)])) rfl rfl (hb hby d10_1)
  refine Go.via (st663) ?_
  clear st663
  clear X0 e0
  show Go p e below (T663.setTop (mkF m 4 #[.val (.ref a), .val (.int i)] [(.ref d)])) _
  refine Go.via (fun _ => XS.iloadN X663.here hx rfl (hb hby d10_4) rfl) ?_
  refine Go.via (ldI X663 hx hZ e663 P1 (v := v_) hi0 hv (g := (mkF m 5 #[.val (.ref a), .val (.int i)] [(.int i), (.ref d)])) rfl rfl (hb hby d10_5)) ?_
  show Go p e below (T663.setTop (mkF m 6 #[.val (.ref a), .val (.int i)] [(.int v_)])) _
  exact Go.fin X663 hlk (v := some (.int v_)) (fun h => by rw [Bd.returns] at h; cases h) (fun fs hr => OwnKit.retI X663 hx Bd.returns (hb hby d10_6) hr) (by rw [e663]; exact ⟨rfl, N0, rfl⟩) (by decide) (by decide)
theorem d11_0 : decode prog_23_method_4_code 0 = .ok (.aload_n 0, 1) := by decide +kernel
theorem d11_1 : decode prog_23_method_4_code 1 = .ok (.getfield 13, 3) := by decide +kernel
theorem d11_4 : decode prog_23_method_4_code 4 = .ok (.iload_n 1, 1) := by decide +kernel
theorem d11_5 : decode prog_23_method_4_code 5 = .ok (.iaload, 1) := by decide +kernel
theorem d11_6 : decode prog_23_method_4_code 6 = .ok (.ireturn, 1) := by decide +kernel
theorem pn_11 : plainName "com/example/libcosearch/libcosearch/PostingList" = true := by first | (simp [plainName, overriddenIn]; done) | decide +kernel
theorem ef_11 (m : MethodId) (x0 : Addr) (x1 : Int32) : entryFrame m #[(.ref x0), (.int x1)] 2 = mkF m 0 #[.val (.ref x0), .val (.int x1)] [] := by first | (simp [entryFrame, mkF, argsToLocals, Value.category]; done) | rfl
def Q_rm_frequency (Z : State) (a : Addr) (i : Int32) (d : Addr) (xs : List Int32) (v_ : Int32) (h0 : Heap) (n0 : Nat) (vQ : Option Value) (hQ : Heap) (LQ : List Loc) : Prop := vQ = some (.int v_) ∧ Fr n0 LQ ∧ hQ = h0
set_option maxRecDepth 65536 in
set_option maxHeartbeats 40000000 in
theorem rm_frequency (l : Launch) (Z : State) (a0 : Array Value) (hw : ∀ d ∈ tables_1, d.before a0 Z = true) (ws : List Jvm.Cond) (a : Addr) (i : Int32) (d : Addr) (xs : List Int32) (v_ : Int32) (h0 : Heap) (n0 : Nat) (Z0 : n0 ≤ h0.size) (P0 : Fld Z h0 a "com/example/libcosearch/libcosearch/PostingList" "frequencies" "[I" (.ref d)) (P1 : Ia Z h0 d .int xs) (hi0 : ¬ i < 0) (hv : xs[i.toNatClampNeg]? = some v_) :
    MetFree l (⟨"com/example/libcosearch/libcosearch/PostingList", "frequency", "(I)I"⟩ : MethodName) (head1 (Jvm.Cond.code (⟨"com/example/libcosearch/libcosearch/PostingList", "frequency", "(I)I"⟩ : MethodName) prog_23_method_4_code 2 (some .int) :: ws) ({ frames := 0, cells := 0, slots := 0, locals := 0 } : Room)) (fun aQ UQ => aQ = #[(.ref a), (.int i)] ∧ Z.Warmed39 UQ.vm ∧ UQ.heap = h0) (fun _ _ _ _ _ => True) (fun _ UQ oQ UR => ∃ vQ LQ, oQ = .returned vQ ∧ Q_rm_frequency Z a i d xs v_ h0 n0 vQ UR.heap LQ ∧ FrameEnd UQ oQ UR LQ ({ frames := 0, cells := 0, slots := 0, locals := 0 } : Room).cells ({ frames := 0, cells := 0, slots := 0, locals := 0 } : Room).slots) := by
  refine MetFree.of_bodySF (plainFor_of_name pn_11) hisR ?_
  intro p e s m args below meth c s₁ Bd hml0 hP hK
  obtain ⟨rfl, hZ, hh⟩ := hP
  have hx := Bd.exec
  have hby := Bd.bytes
  have hlk := Bd.notSynchronized
  have hml : c.maxLocals = 2 := hml0
  have hown : s.vm.findClass "com/example/libcosearch/libcosearch/PostingList" = some m.cls := findClass_of_methodNamed Bd.named
  have hnm := (name_of_methodNamed Bd.named Bd.method).1
  have X0 : Stand p l e ({ frames := 0, cells := 0, slots := 0, locals := 0 } : Room) s m #[(.ref a), (.int i)] below meth c s₁ [] 0 0 := Stand.of_body Bd
  have e0 : s₁.heap = h0 := by rw [← hh, Bd.state]; rfl
  have N0 := Fr.nil n0
  show Go p e below _ (Done s (Q_rm_frequency Z a i d xs v_ h0 n0) ({ frames := 0, cells := 0, slots := 0, locals := 0 } : Room).cells ({ frames := 0, cells := 0, slots := 0, locals := 0 } : Room).slots)
  refine Go.via (fun tQ kQ => castTop (ef_11 m a i) kQ) ?_
  show Go p e below (s₁.setTop (mkF m 0 #[.val (.ref a), .val (.int i)] [])) _
  refine Go.via (fun _ => XS.aloadN X0.here hx rfl (hb hby d11_0) rfl rfl) ?_
  obtain ⟨T664, X664, e664, st664⟩ := getF X0 hx hZ hown (host := "") (Or.inl (tw hw 43 rfl)) Via.refl e0 P0 (g := (mkF m 1 #[.val (.ref a), .val (.int i)] [(.ref a)])) rfl rfl (hb hby d11_1)
  refine Go.via (st664) ?_
  clear st664
  clear X0 e0
  show Go p e below (T664.setTop (mkF m 4 #[.val (.ref a), .val (.int i)] [(.ref d)])) _
  refine Go.via (fun _ => XS.iloadN X664.here hx rfl (hb hby d11_4) rfl) ?_
  refine Go.via (ldI X664 hx hZ e664 P1 (v := v_) hi0 hv (g := (mkF m 5 #[.val (.ref a), .val (.int i)] [(.int i), (.ref d)])) rfl rfl (hb hby d11_5)) ?_
  show Go p e below (T664.setTop (mkF m 6 #[.val (.ref a), .val (.int i)] [(.int v_)])) _
  exact Go.fin X664 hlk (v := some (.int v_)) (fun h => by rw [Bd.returns] at h; cases h) (fun fs hr => OwnKit.retI X664 hx Bd.returns (hb hby d11_6) hr) (by rw [e664]; exact ⟨rfl, N0, rfl⟩) (by decide) (by decide)
theorem own_m6 (x : Int32) : ∃ n : Int32, (x &&& (2147483647 : Int32)) % (6 : Int32) = n ∧ (n = 0 ∨ n = 1 ∨ n = 2 ∨ n = 3 ∨ n = 4 ∨ n = 5) := by
  refine ⟨_, rfl, ?_⟩
  have h1 := c_and x 2147483647 (by decide)
  have h2 := (c_irem (x &&& 2147483647) 6 6 (by decide)).1 h1.1
  generalize (x &&& (2147483647 : Int32)) % (6 : Int32) = n at h2
  have h3 : n.toInt = 0 ∨ n.toInt = 1 ∨ n.toInt = 2 ∨ n.toInt = 3 ∨ n.toInt = 4 ∨ n.toInt = 5 := by omega
  rcases h3 with h | h | h | h | h | h
  · exact Or.inl (Int32.toInt_inj.mp h)
  · exact Or.inr (Or.inl (Int32.toInt_inj.mp h))
  · exact Or.inr (Or.inr (Or.inl (Int32.toInt_inj.mp h)))
  · exact Or.inr (Or.inr (Or.inr (Or.inl (Int32.toInt_inj.mp h))))
  · exact Or.inr (Or.inr (Or.inr (Or.inr (Or.inl (Int32.toInt_inj.mp h)))))
  · exact Or.inr (Or.inr (Or.inr (Or.inr (Or.inr (Int32.toInt_inj.mp h)))))
theorem own_m5 (x : Int32) : ∃ n : Int32, (x &&& (2147483647 : Int32)) % (5 : Int32) = n ∧ (n = 0 ∨ n = 1 ∨ n = 2 ∨ n = 3 ∨ n = 4) := by
  refine ⟨_, rfl, ?_⟩
  have h1 := c_and x 2147483647 (by decide)
  have h2 := (c_irem (x &&& 2147483647) 5 5 (by decide)).1 h1.1
  generalize (x &&& (2147483647 : Int32)) % (5 : Int32) = n at h2
  have h3 : n.toInt = 0 ∨ n.toInt = 1 ∨ n.toInt = 2 ∨ n.toInt = 3 ∨ n.toInt = 4 := by omega
  rcases h3 with h | h | h | h | h
  · exact Or.inl (Int32.toInt_inj.mp h)
  · exact Or.inr (Or.inl (Int32.toInt_inj.mp h))
  · exact Or.inr (Or.inr (Or.inl (Int32.toInt_inj.mp h)))
  · exact Or.inr (Or.inr (Or.inr (Or.inl (Int32.toInt_inj.mp h))))
  · exact Or.inr (Or.inr (Or.inr (Or.inr (Int32.toInt_inj.mp h))))
theorem own_lc (x : Int64) : (lcmpW x x) = (0 : Int32) := (lw_eq x x).mpr rfl
theorem pd__28I_29I : parseMethodDescriptor "(I)I" = some ⟨[.int], some .int⟩ := by decide +kernel
theorem pd__28_29V : parseMethodDescriptor "()V" = some ⟨[], none⟩ := by decide +kernel
theorem pd__28_29Lcom_2fexample_2flibcosearch_2flibcosearch_2fPostingList_3b : parseMethodDescriptor "()Lcom/example/libcosearch/libcosearch/PostingList;" = some ⟨[], some (.object "com/example/libcosearch/libcosearch/PostingList")⟩ := by decide +kernel
theorem pd__28_29I : parseMethodDescriptor "()I" = some ⟨[], some .int⟩ := by decide +kernel
theorem pd__28_29J : parseMethodDescriptor "()J" = some ⟨[], some .long⟩ := by decide +kernel
theorem pd__28II_29V : parseMethodDescriptor "(II)V" = some ⟨[.int, .int], none⟩ := by decide +kernel
theorem pn_0 : plainName "com/example/libcosearch/libcosearch/BuilderAddPinLaw" = true := by first | (simp [plainName, overriddenIn]; done) | decide +kernel
theorem ef_0 (m : MethodId) (x0 : Int32) (x1 : Int32) (x2 : Int32) (x3 : Int32) (x4 : Int32) (x5 : Int32) : entryFrame m #[(.int x0), (.int x1), (.int x2), (.int x3), (.int x4), (.int x5)] maxLocals = mkF m 0 #[.val (.int x0), .val (.int x1), .val (.int x2), .val (.int x3), .val (.int x4), .val (.int x5), .unset, .unset, .unset, .unset, .unset, .unset, .unset, .unset, .unset, .unset, .unset, .unset, .unset, .unset, .unset, .unset, .unset, .unset] [] := by first | (simp [entryFrame, mkF, argsToLocals, Value.category, maxLocals]; done) | rfl
def Q_rm0 (Z : State) (p0 : Int32) (p1 : Int32) (p2 : Int32) (p3 : Int32) (p4 : Int32) (p5 : Int32)  (h0 : Heap) (n0 : Nat) (vQ : Option Value) (hQ : Heap) (LQ : List Loc) : Prop := vQ = some (.int (1 : Int32)) ∧ Fr n0 LQ ∧ Keep h0 hQ []
set_option maxRecDepth 65536 in
set_option maxHeartbeats 40000000 in
theorem rm0 (l : Launch) (Z : State) (a0 : Array Value) (hw : ∀ d ∈ tables_1, d.before a0 Z = true) (ws : List Jvm.Cond) (p0 : Int32) (p1 : Int32) (p2 : Int32) (p3 : Int32) (p4 : Int32) (p5 : Int32)  (h0 : Heap) (n0 : Nat) (Z0 : n0 ≤ h0.size) :
    MetFree l x (head1 (Jvm.Cond.code x code maxLocals ret :: ws) room_1) (fun aQ UQ => aQ = #[(.int p0), (.int p1), (.int p2), (.int p3), (.int p4), (.int p5)] ∧ Z.Warmed39 UQ.vm ∧ UQ.heap = h0) (fun _ _ _ _ _ => True) (fun _ UQ oQ UR => ∃ vQ LQ, oQ = .returned vQ ∧ Q_rm0 Z p0 p1 p2 p3 p4 p5  h0 n0 vQ UR.heap LQ ∧ FrameEnd UQ oQ UR LQ room_1.cells room_1.slots) := by
  refine MetFree.of_bodySF (plainFor_of_name pn_0) hisR ?_
  intro p e s m args below meth c s₁ Bd hml0 hP hK
  obtain ⟨rfl, hZ, hh⟩ := hP
  have hx := Bd.exec
  have hby := Bd.bytes
  have hlk := Bd.notSynchronized
  have hml : c.maxLocals = 24 := hml0
  have hown : s.vm.findClass "com/example/libcosearch/libcosearch/BuilderAddPinLaw" = some m.cls := findClass_of_methodNamed Bd.named
  have hnm := (name_of_methodNamed Bd.named Bd.method).1
  have X0 : Stand p l e room_1 s m #[(.int p0), (.int p1), (.int p2), (.int p3), (.int p4), (.int p5)] below meth c s₁ [] 0 0 := Stand.of_body Bd
  have e0 : s₁.heap = h0 := by rw [← hh, Bd.state]; rfl
  have N0 := Fr.nil n0
  show Go p e below _ (Done s (Q_rm0 Z p0 p1 p2 p3 p4 p5  h0 n0) room_1.cells room_1.slots)
  refine Go.via (fun tQ kQ => castTop (ef_0 m p0 p1 p2 p3 p4 p5) kQ) ?_
  have J : ∀ (T665 : State) (L665 : List Loc) (h665 : Heap) (n : Int32) (k : Int32) (d1 : Int32) (d2 : Int32) (d3 : Int32) (d4 : Int32) (f1 : Int32) (f2 : Int32) (f3 : Int32) (f4 : Int32) (bd : Addr) (l_ : Addr) (sm : Int64) (rd : Addr) (rf : Addr) (xs : List Int32) (ys : List Int32), Stand p l e room_1 s m #[(.int p0), (.int p1), (.int p2), (.int p3), (.int p4), (.int p5)] below meth c T665 L665 11 50 → T665.heap = h665 → Fr n0 L665 → n0 ≤ h665.size → Keep h0 h665 [] → Exa Z h665 l_ "com/example/libcosearch/libcosearch/PostingList" → Fld Z h665 l_ "com/example/libcosearch/libcosearch/PostingList" "documents" "[I" (.ref rd) → Fld Z h665 l_ "com/example/libcosearch/libcosearch/PostingList" "frequencies" "[I" (.ref rf) → Ia Z h665 rd .int xs → Ia Z h665 rf .int ys → (k < n → ¬ k < 0 ∧ xs[k.toNatClampNeg]? = some (if k = (0 : Int32) then p2 else (if k = (1 : Int32) then d1 else (if k = (2 : Int32) then d2 else (if k = (3 : Int32) then d3 else d4)))) ∧ ys[k.toNatClampNeg]? = some (if k = (0 : Int32) then p4 else (if k = (1 : Int32) then f1 else (if k = (2 : Int32) then f2 else (if k = (3 : Int32) then f3 else f4))))) → Go p e below (T665.setTop (mkF m 271 #[.val (.int p0), .val (.int p1), .val (.int p2), .val (.int p3), .val (.int p4), .val (.int p5), .val (.int n), .val (.int k), .val (.int p2), .val (.int d1), .val (.int d2), .val (.int d3), .val (.int d4), .val (.int p4), .val (.int f1), .val (.int f2), .val (.int f3), .val (.int f4), .val (.ref bd), .val (.ref l_), .val (.long sm), .second, .unset, .unset] [])) (Done s (Q_rm0 Z p0 p1 p2 p3 p4 p5 h0 n0) room_1.cells room_1.slots) := by
    intro T665 L665 h665 n k d1 d2 d3 d4 f1 f2 f3 f4 bd l_ sm rd rf xs ys X665 e665 N665 z665 k665 fE665 fd665 ff665 fx665 fy665 hxx665
    show Go p e below (T665.setTop (mkF m 271 #[.val (.int p0), .val (.int p1), .val (.int p2), .val (.int p3), .val (.int p4), .val (.int p5), .val (.int n), .val (.int k), .val (.int p2), .val (.int d1), .val (.int d2), .val (.int d3), .val (.int d4), .val (.int p4), .val (.int f1), .val (.int f2), .val (.int f3), .val (.int f4), .val (.ref bd), .val (.ref l_), .val (.long sm), .second, .unset, .unset] [])) _
    refine Go.via (fun _ => XS.iload X665.here hx rfl (hb hby at_271) rfl) ?_
    refine Go.via (fun _ => XS.iload X665.here hx rfl (hb hby at_273) rfl) ?_
    by_cases hc666 : k < n
    · refine Go.via (fun _ => XS.icmpNo X665.here hx rfl (hb hby at_275) rfl (tlt (hc666 : k < n)).2.1) ?_
      refine Go.via (fun _ => XS.iload X665.here hx rfl (hb hby at_278) rfl) ?_
      suffices hm668 : Go p e below (T665.setTop (mkF m 323 #[.val (.int p0), .val (.int p1), .val (.int p2), .val (.int p3), .val (.int p4), .val (.int p5), .val (.int n), .val (.int k), .val (.int p2), .val (.int d1), .val (.int d2), .val (.int d3), .val (.int d4), .val (.int p4), .val (.int f1), .val (.int f2), .val (.int f3), .val (.int f4), .val (.ref bd), .val (.ref l_), .val (.long sm), .second, .unset, .unset] [(.int (if k = (0 : Int32) then p2 else (if k = (1 : Int32) then d1 else (if k = (2 : Int32) then d2 else (if k = (3 : Int32) then d3 else d4)))))])) (Done s (Q_rm0 Z p0 p1 p2 p3 p4 p5 h0 n0) room_1.cells room_1.slots) by
        by_cases hc667 : k = (0 : Int32)
        · rw [if_pos hc667] at hm668
          refine Go.via (fun _ => XS.ifNo X665.here hx rfl (hb hby at_280) rfl ((if0 _ _).trans (teq (hc667 : k = (0 : Int32))).2)) ?_
          refine Go.via (fun _ => XS.iload X665.here hx rfl (hb hby at_283) rfl) ?_
          show Go p e below (T665.setTop (mkF m 285 #[.val (.int p0), .val (.int p1), .val (.int p2), .val (.int p3), .val (.int p4), .val (.int p5), .val (.int n), .val (.int k), .val (.int p2), .val (.int d1), .val (.int d2), .val (.int d3), .val (.int d4), .val (.int p4), .val (.int f1), .val (.int f2), .val (.int f3), .val (.int f4), .val (.ref bd), .val (.ref l_), .val (.long sm), .second, .unset, .unset] [(.int p2)])) _
          refine Go.via (fun _ => XS.goto X665.here hx rfl (pc0 := 285) (pc' := 323) rfl (hb hby at_285) (by decide) (by decide)) ?_
          exact hm668
        · rw [if_neg hc667] at hm668
          refine Go.via (fun _ => XS.ifYes X665.here hx rfl (pc0 := 280) (pc' := 288) rfl (hb hby at_280) rfl ((if0 _ _).trans (feq (hc667 : ¬ (k = (0 : Int32)))).2) (by decide) (by decide)) ?_
          refine Go.via (fun _ => XS.iload X665.here hx rfl (hb hby at_288) rfl) ?_
          show Go p e below (T665.setTop (mkF m 290 #[.val (.int p0), .val (.int p1), .val (.int p2), .val (.int p3), .val (.int p4), .val (.int p5), .val (.int n), .val (.int k), .val (.int p2), .val (.int d1), .val (.int d2), .val (.int d3), .val (.int d4), .val (.int p4), .val (.int f1), .val (.int f2), .val (.int f3), .val (.int f4), .val (.ref bd), .val (.ref l_), .val (.long sm), .second, .unset, .unset] [(.int k)])) _
          refine Go.via (fun _ => XS.iconst X665.here hx rfl (hb hby at_290)) ?_
          suffices hm670 : Go p e below (T665.setTop (mkF m 323 #[.val (.int p0), .val (.int p1), .val (.int p2), .val (.int p3), .val (.int p4), .val (.int p5), .val (.int n), .val (.int k), .val (.int p2), .val (.int d1), .val (.int d2), .val (.int d3), .val (.int d4), .val (.int p4), .val (.int f1), .val (.int f2), .val (.int f3), .val (.int f4), .val (.ref bd), .val (.ref l_), .val (.long sm), .second, .unset, .unset] [(.int (if k = (1 : Int32) then d1 else (if k = (2 : Int32) then d2 else (if k = (3 : Int32) then d3 else d4))))])) (Done s (Q_rm0 Z p0 p1 p2 p3 p4 p5 h0 n0) room_1.cells room_1.slots) by
            by_cases hc669 : k = (1 : Int32)
            · rw [if_pos hc669] at hm670
              refine Go.via (fun _ => XS.icmpNo X665.here hx rfl (hb hby at_291) rfl (teq (hc669 : k = (1 : Int32))).2) ?_
              refine Go.via (fun _ => XS.iload X665.here hx rfl (hb hby at_294) rfl) ?_
              refine Go.via (fun _ => XS.goto X665.here hx rfl (pc0 := 296) (pc' := 323) rfl (hb hby at_296) (by decide) (by decide)) ?_
              exact hm670
            · rw [if_neg hc669] at hm670
              refine Go.via (fun _ => XS.icmpYes X665.here hx rfl (pc0 := 291) (pc' := 299) rfl (hb hby at_291) rfl (feq (hc669 : ¬ (k = (1 : Int32)))).2 (by decide) (by decide)) ?_
              refine Go.via (fun _ => XS.iload X665.here hx rfl (hb hby at_299) rfl) ?_
              refine Go.via (fun _ => XS.iconst X665.here hx rfl (hb hby at_301)) ?_
              suffices hm672 : Go p e below (T665.setTop (mkF m 323 #[.val (.int p0), .val (.int p1), .val (.int p2), .val (.int p3), .val (.int p4), .val (.int p5), .val (.int n), .val (.int k), .val (.int p2), .val (.int d1), .val (.int d2), .val (.int d3), .val (.int d4), .val (.int p4), .val (.int f1), .val (.int f2), .val (.int f3), .val (.int f4), .val (.ref bd), .val (.ref l_), .val (.long sm), .second, .unset, .unset] [(.int (if k = (2 : Int32) then d2 else (if k = (3 : Int32) then d3 else d4)))])) (Done s (Q_rm0 Z p0 p1 p2 p3 p4 p5 h0 n0) room_1.cells room_1.slots) by
                by_cases hc671 : k = (2 : Int32)
                · rw [if_pos hc671] at hm672
                  refine Go.via (fun _ => XS.icmpNo X665.here hx rfl (hb hby at_302) rfl (teq (hc671 : k = (2 : Int32))).2) ?_
                  refine Go.via (fun _ => XS.iload X665.here hx rfl (hb hby at_305) rfl) ?_
                  show Go p e below (T665.setTop (mkF m 307 #[.val (.int p0), .val (.int p1), .val (.int p2), .val (.int p3), .val (.int p4), .val (.int p5), .val (.int n), .val (.int k), .val (.int p2), .val (.int d1), .val (.int d2), .val (.int d3), .val (.int d4), .val (.int p4), .val (.int f1), .val (.int f2), .val (.int f3), .val (.int f4), .val (.ref bd), .val (.ref l_), .val (.long sm), .second, .unset, .unset] [(.int d2)])) _
                  refine Go.via (fun _ => XS.goto X665.here hx rfl (pc0 := 307) (pc' := 323) rfl (hb hby at_307) (by decide) (by decide)) ?_
                  exact hm672
                · rw [if_neg hc671] at hm672
                  refine Go.via (fun _ => XS.icmpYes X665.here hx rfl (pc0 := 302) (pc' := 310) rfl (hb hby at_302) rfl (feq (hc671 : ¬ (k = (2 : Int32)))).2 (by decide) (by decide)) ?_
                  refine Go.via (fun _ => XS.iload X665.here hx rfl (hb hby at_310) rfl) ?_
                  show Go p e below (T665.setTop (mkF m 312 #[.val (.int p0), .val (.int p1), .val (.int p2), .val (.int p3), .val (.int p4), .val (.int p5), .val (.int n), .val (.int k), .val (.int p2), .val (.int d1), .val (.int d2), .val (.int d3), .val (.int d4), .val (.int p4), .val (.int f1), .val (.int f2), .val (.int f3), .val (.int f4), .val (.ref bd), .val (.ref l_), .val (.long sm), .second, .unset, .unset] [(.int k)])) _
                  refine Go.via (fun _ => XS.iconst X665.here hx rfl (hb hby at_312)) ?_
                  suffices hm674 : Go p e below (T665.setTop (mkF m 323 #[.val (.int p0), .val (.int p1), .val (.int p2), .val (.int p3), .val (.int p4), .val (.int p5), .val (.int n), .val (.int k), .val (.int p2), .val (.int d1), .val (.int d2), .val (.int d3), .val (.int d4), .val (.int p4), .val (.int f1), .val (.int f2), .val (.int f3), .val (.int f4), .val (.ref bd), .val (.ref l_), .val (.long sm), .second, .unset, .unset] [(.int (if k = (3 : Int32) then d3 else d4))])) (Done s (Q_rm0 Z p0 p1 p2 p3 p4 p5 h0 n0) room_1.cells room_1.slots) by
                    by_cases hc673 : k = (3 : Int32)
                    · rw [if_pos hc673] at hm674
                      refine Go.via (fun _ => XS.icmpNo X665.here hx rfl (hb hby at_313) rfl (teq (hc673 : k = (3 : Int32))).2) ?_
                      refine Go.via (fun _ => XS.iload X665.here hx rfl (hb hby at_316) rfl) ?_
                      refine Go.via (fun _ => XS.goto X665.here hx rfl (pc0 := 318) (pc' := 323) rfl (hb hby at_318) (by decide) (by decide)) ?_
                      exact hm674
                    · rw [if_neg hc673] at hm674
                      refine Go.via (fun _ => XS.icmpYes X665.here hx rfl (pc0 := 313) (pc' := 321) rfl (hb hby at_313) rfl (feq (hc673 : ¬ (k = (3 : Int32)))).2 (by decide) (by decide)) ?_
                      refine Go.via (fun _ => XS.iload X665.here hx rfl (hb hby at_321) rfl) ?_
                      exact hm674
                  exact hm672
              exact hm670
          exact hm668
      show Go p e below (T665.setTop (mkF m 323 #[.val (.int p0), .val (.int p1), .val (.int p2), .val (.int p3), .val (.int p4), .val (.int p5), .val (.int n), .val (.int k), .val (.int p2), .val (.int d1), .val (.int d2), .val (.int d3), .val (.int d4), .val (.int p4), .val (.int f1), .val (.int f2), .val (.int f3), .val (.int f4), .val (.ref bd), .val (.ref l_), .val (.long sm), .second, .unset, .unset] [(.int (if k = (0 : Int32) then p2 else (if k = (1 : Int32) then d1 else (if k = (2 : Int32) then d2 else (if k = (3 : Int32) then d3 else d4)))))])) _
      generalize hv_xd : (if k = (0 : Int32) then p2 else (if k = (1 : Int32) then d1 else (if k = (2 : Int32) then d2 else (if k = (3 : Int32) then d3 else d4)))) = xd
      show Go p e below (T665.setTop (mkF m 323 #[.val (.int p0), .val (.int p1), .val (.int p2), .val (.int p3), .val (.int p4), .val (.int p5), .val (.int n), .val (.int k), .val (.int p2), .val (.int d1), .val (.int d2), .val (.int d3), .val (.int d4), .val (.int p4), .val (.int f1), .val (.int f2), .val (.int f3), .val (.int f4), .val (.ref bd), .val (.ref l_), .val (.long sm), .second, .unset, .unset] [(.int xd)])) _
      refine Go.via (fun _ => XS.istore X665.here hx rfl (hb hby at_323) rfl (l' := #[.val (.int p0), .val (.int p1), .val (.int p2), .val (.int p3), .val (.int p4), .val (.int p5), .val (.int n), .val (.int k), .val (.int p2), .val (.int d1), .val (.int d2), .val (.int d3), .val (.int d4), .val (.int p4), .val (.int f1), .val (.int f2), .val (.int f3), .val (.int f4), .val (.ref bd), .val (.ref l_), .val (.long sm), .second, .val (.int xd), .unset]) rfl) ?_
      show Go p e below (T665.setTop (mkF m 325 #[.val (.int p0), .val (.int p1), .val (.int p2), .val (.int p3), .val (.int p4), .val (.int p5), .val (.int n), .val (.int k), .val (.int p2), .val (.int d1), .val (.int d2), .val (.int d3), .val (.int d4), .val (.int p4), .val (.int f1), .val (.int f2), .val (.int f3), .val (.int f4), .val (.ref bd), .val (.ref l_), .val (.long sm), .second, .val (.int xd), .unset] [])) _
      refine Go.via (fun _ => XS.iload X665.here hx rfl (hb hby at_325) rfl) ?_
      suffices hm676 : Go p e below (T665.setTop (mkF m 370 #[.val (.int p0), .val (.int p1), .val (.int p2), .val (.int p3), .val (.int p4), .val (.int p5), .val (.int n), .val (.int k), .val (.int p2), .val (.int d1), .val (.int d2), .val (.int d3), .val (.int d4), .val (.int p4), .val (.int f1), .val (.int f2), .val (.int f3), .val (.int f4), .val (.ref bd), .val (.ref l_), .val (.long sm), .second, .val (.int xd), .unset] [(.int (if k = (0 : Int32) then p4 else (if k = (1 : Int32) then f1 else (if k = (2 : Int32) then f2 else (if k = (3 : Int32) then f3 else f4)))))])) (Done s (Q_rm0 Z p0 p1 p2 p3 p4 p5 h0 n0) room_1.cells room_1.slots) by
        by_cases hc675 : k = (0 : Int32)
        · rw [if_pos hc675] at hm676
          refine Go.via (fun _ => XS.ifNo X665.here hx rfl (hb hby at_327) rfl ((if0 _ _).trans (teq (hc675 : k = (0 : Int32))).2)) ?_
          refine Go.via (fun _ => XS.iload X665.here hx rfl (hb hby at_330) rfl) ?_
          refine Go.via (fun _ => XS.goto X665.here hx rfl (pc0 := 332) (pc' := 370) rfl (hb hby at_332) (by decide) (by decide)) ?_
          exact hm676
        · rw [if_neg hc675] at hm676
          refine Go.via (fun _ => XS.ifYes X665.here hx rfl (pc0 := 327) (pc' := 335) rfl (hb hby at_327) rfl ((if0 _ _).trans (feq (hc675 : ¬ (k = (0 : Int32)))).2) (by decide) (by decide)) ?_
          refine Go.via (fun _ => XS.iload X665.here hx rfl (hb hby at_335) rfl) ?_
          refine Go.via (fun _ => XS.iconst X665.here hx rfl (hb hby at_337)) ?_
          suffices hm678 : Go p e below (T665.setTop (mkF m 370 #[.val (.int p0), .val (.int p1), .val (.int p2), .val (.int p3), .val (.int p4), .val (.int p5), .val (.int n), .val (.int k), .val (.int p2), .val (.int d1), .val (.int d2), .val (.int d3), .val (.int d4), .val (.int p4), .val (.int f1), .val (.int f2), .val (.int f3), .val (.int f4), .val (.ref bd), .val (.ref l_), .val (.long sm), .second, .val (.int xd), .unset] [(.int (if k = (1 : Int32) then f1 else (if k = (2 : Int32) then f2 else (if k = (3 : Int32) then f3 else f4))))])) (Done s (Q_rm0 Z p0 p1 p2 p3 p4 p5 h0 n0) room_1.cells room_1.slots) by
            by_cases hc677 : k = (1 : Int32)
            · rw [if_pos hc677] at hm678
              refine Go.via (fun _ => XS.icmpNo X665.here hx rfl (hb hby at_338) rfl (teq (hc677 : k = (1 : Int32))).2) ?_
              refine Go.via (fun _ => XS.iload X665.here hx rfl (hb hby at_341) rfl) ?_
              show Go p e below (T665.setTop (mkF m 343 #[.val (.int p0), .val (.int p1), .val (.int p2), .val (.int p3), .val (.int p4), .val (.int p5), .val (.int n), .val (.int k), .val (.int p2), .val (.int d1), .val (.int d2), .val (.int d3), .val (.int d4), .val (.int p4), .val (.int f1), .val (.int f2), .val (.int f3), .val (.int f4), .val (.ref bd), .val (.ref l_), .val (.long sm), .second, .val (.int xd), .unset] [(.int f1)])) _
              refine Go.via (fun _ => XS.goto X665.here hx rfl (pc0 := 343) (pc' := 370) rfl (hb hby at_343) (by decide) (by decide)) ?_
              exact hm678
            · rw [if_neg hc677] at hm678
              refine Go.via (fun _ => XS.icmpYes X665.here hx rfl (pc0 := 338) (pc' := 346) rfl (hb hby at_338) rfl (feq (hc677 : ¬ (k = (1 : Int32)))).2 (by decide) (by decide)) ?_
              refine Go.via (fun _ => XS.iload X665.here hx rfl (hb hby at_346) rfl) ?_
              show Go p e below (T665.setTop (mkF m 348 #[.val (.int p0), .val (.int p1), .val (.int p2), .val (.int p3), .val (.int p4), .val (.int p5), .val (.int n), .val (.int k), .val (.int p2), .val (.int d1), .val (.int d2), .val (.int d3), .val (.int d4), .val (.int p4), .val (.int f1), .val (.int f2), .val (.int f3), .val (.int f4), .val (.ref bd), .val (.ref l_), .val (.long sm), .second, .val (.int xd), .unset] [(.int k)])) _
              refine Go.via (fun _ => XS.iconst X665.here hx rfl (hb hby at_348)) ?_
              suffices hm680 : Go p e below (T665.setTop (mkF m 370 #[.val (.int p0), .val (.int p1), .val (.int p2), .val (.int p3), .val (.int p4), .val (.int p5), .val (.int n), .val (.int k), .val (.int p2), .val (.int d1), .val (.int d2), .val (.int d3), .val (.int d4), .val (.int p4), .val (.int f1), .val (.int f2), .val (.int f3), .val (.int f4), .val (.ref bd), .val (.ref l_), .val (.long sm), .second, .val (.int xd), .unset] [(.int (if k = (2 : Int32) then f2 else (if k = (3 : Int32) then f3 else f4)))])) (Done s (Q_rm0 Z p0 p1 p2 p3 p4 p5 h0 n0) room_1.cells room_1.slots) by
                by_cases hc679 : k = (2 : Int32)
                · rw [if_pos hc679] at hm680
                  refine Go.via (fun _ => XS.icmpNo X665.here hx rfl (hb hby at_349) rfl (teq (hc679 : k = (2 : Int32))).2) ?_
                  refine Go.via (fun _ => XS.iload X665.here hx rfl (hb hby at_352) rfl) ?_
                  refine Go.via (fun _ => XS.goto X665.here hx rfl (pc0 := 354) (pc' := 370) rfl (hb hby at_354) (by decide) (by decide)) ?_
                  exact hm680
                · rw [if_neg hc679] at hm680
                  refine Go.via (fun _ => XS.icmpYes X665.here hx rfl (pc0 := 349) (pc' := 357) rfl (hb hby at_349) rfl (feq (hc679 : ¬ (k = (2 : Int32)))).2 (by decide) (by decide)) ?_
                  refine Go.via (fun _ => XS.iload X665.here hx rfl (hb hby at_357) rfl) ?_
                  refine Go.via (fun _ => XS.iconst X665.here hx rfl (hb hby at_359)) ?_
                  suffices hm682 : Go p e below (T665.setTop (mkF m 370 #[.val (.int p0), .val (.int p1), .val (.int p2), .val (.int p3), .val (.int p4), .val (.int p5), .val (.int n), .val (.int k), .val (.int p2), .val (.int d1), .val (.int d2), .val (.int d3), .val (.int d4), .val (.int p4), .val (.int f1), .val (.int f2), .val (.int f3), .val (.int f4), .val (.ref bd), .val (.ref l_), .val (.long sm), .second, .val (.int xd), .unset] [(.int (if k = (3 : Int32) then f3 else f4))])) (Done s (Q_rm0 Z p0 p1 p2 p3 p4 p5 h0 n0) room_1.cells room_1.slots) by
                    by_cases hc681 : k = (3 : Int32)
                    · rw [if_pos hc681] at hm682
                      refine Go.via (fun _ => XS.icmpNo X665.here hx rfl (hb hby at_360) rfl (teq (hc681 : k = (3 : Int32))).2) ?_
                      refine Go.via (fun _ => XS.iload X665.here hx rfl (hb hby at_363) rfl) ?_
                      show Go p e below (T665.setTop (mkF m 365 #[.val (.int p0), .val (.int p1), .val (.int p2), .val (.int p3), .val (.int p4), .val (.int p5), .val (.int n), .val (.int k), .val (.int p2), .val (.int d1), .val (.int d2), .val (.int d3), .val (.int d4), .val (.int p4), .val (.int f1), .val (.int f2), .val (.int f3), .val (.int f4), .val (.ref bd), .val (.ref l_), .val (.long sm), .second, .val (.int xd), .unset] [(.int f3)])) _
                      refine Go.via (fun _ => XS.goto X665.here hx rfl (pc0 := 365) (pc' := 370) rfl (hb hby at_365) (by decide) (by decide)) ?_
                      exact hm682
                    · rw [if_neg hc681] at hm682
                      refine Go.via (fun _ => XS.icmpYes X665.here hx rfl (pc0 := 360) (pc' := 368) rfl (hb hby at_360) rfl (feq (hc681 : ¬ (k = (3 : Int32)))).2 (by decide) (by decide)) ?_
                      refine Go.via (fun _ => XS.iload X665.here hx rfl (hb hby at_368) rfl) ?_
                      exact hm682
                  exact hm680
              exact hm678
          exact hm676
      show Go p e below (T665.setTop (mkF m 370 #[.val (.int p0), .val (.int p1), .val (.int p2), .val (.int p3), .val (.int p4), .val (.int p5), .val (.int n), .val (.int k), .val (.int p2), .val (.int d1), .val (.int d2), .val (.int d3), .val (.int d4), .val (.int p4), .val (.int f1), .val (.int f2), .val (.int f3), .val (.int f4), .val (.ref bd), .val (.ref l_), .val (.long sm), .second, .val (.int xd), .unset] [(.int (if k = (0 : Int32) then p4 else (if k = (1 : Int32) then f1 else (if k = (2 : Int32) then f2 else (if k = (3 : Int32) then f3 else f4)))))])) _
      generalize hv_xf : (if k = (0 : Int32) then p4 else (if k = (1 : Int32) then f1 else (if k = (2 : Int32) then f2 else (if k = (3 : Int32) then f3 else f4)))) = xf
      show Go p e below (T665.setTop (mkF m 370 #[.val (.int p0), .val (.int p1), .val (.int p2), .val (.int p3), .val (.int p4), .val (.int p5), .val (.int n), .val (.int k), .val (.int p2), .val (.int d1), .val (.int d2), .val (.int d3), .val (.int d4), .val (.int p4), .val (.int f1), .val (.int f2), .val (.int f3), .val (.int f4), .val (.ref bd), .val (.ref l_), .val (.long sm), .second, .val (.int xd), .unset] [(.int xf)])) _
      refine Go.via (fun _ => XS.istore X665.here hx rfl (hb hby at_370) rfl (l' := #[.val (.int p0), .val (.int p1), .val (.int p2), .val (.int p3), .val (.int p4), .val (.int p5), .val (.int n), .val (.int k), .val (.int p2), .val (.int d1), .val (.int d2), .val (.int d3), .val (.int d4), .val (.int p4), .val (.int f1), .val (.int f2), .val (.int f3), .val (.int f4), .val (.ref bd), .val (.ref l_), .val (.long sm), .second, .val (.int xd), .val (.int xf)]) rfl) ?_
      show Go p e below (T665.setTop (mkF m 372 #[.val (.int p0), .val (.int p1), .val (.int p2), .val (.int p3), .val (.int p4), .val (.int p5), .val (.int n), .val (.int k), .val (.int p2), .val (.int d1), .val (.int d2), .val (.int d3), .val (.int d4), .val (.int p4), .val (.int f1), .val (.int f2), .val (.int f3), .val (.int f4), .val (.ref bd), .val (.ref l_), .val (.long sm), .second, .val (.int xd), .val (.int xf)] [])) _
      refine Go.via (fun _ => XS.aload X665.here hx rfl (hb hby at_372) rfl rfl) ?_
      refine Go.via (fun _ => XS.iload X665.here hx rfl (hb hby at_374) rfl) ?_
      obtain ⟨cq683, kq683, q683a, q683b, q683c⟩ := isOf hZ e665 fE665
      obtain ⟨_, _, ⟨T683, L683, k683, n683⟩, -, X683, ⟨Lc683, hQ683, l683, y683, z683⟩, st683⟩ := X665.virtualBack hx (y := (⟨"com/example/libcosearch/libcosearch/PostingList", "document", "(I)I"⟩ : MethodName)) (z := (⟨"com/example/libcosearch/libcosearch/PostingList", "document", "(I)I"⟩ : MethodName)) hown (mvT hZ (tw hw 71 rfl)) (mvT hZ (tw hw 72 rfl)) (notFace_of_selects (args := #[]) (mvT hZ (tw hw 74 rfl))) (mvT hZ (tw hw 74 rfl)) (mvT hZ (tw hw 73 rfl)) (by decide) (backOf (W := 0) (rm_document l Z a0 hw [] l_ k rd xs (if k = (0 : Int32) then p2 else (if k = (1 : Int32) then d1 else (if k = (2 : Int32) then d2 else (if k = (3 : Int32) then d3 else d4)))) h665 n0 z665 fd665 fx665 (hxx665 (by assumption)).1 (hxx665 (by assumption)).2.1) hZ (tw hw 75 rfl) (tw hw 22 rfl) (by decide) (by decide)) q683a q683c (g := (mkF m 376 #[.val (.int p0), .val (.int p1), .val (.int p2), .val (.int p3), .val (.int p4), .val (.int p5), .val (.int n), .val (.int k), .val (.int p2), .val (.int d1), .val (.int d2), .val (.int d3), .val (.int d4), .val (.int p4), .val (.int f1), .val (.int f2), .val (.int f3), .val (.int f4), .val (.ref bd), .val (.ref l_), .val (.long sm), .second, .val (.int xd), .val (.int xf)] [(.int k), (.ref l_)])) rfl (by rw [hml]; rfl) (Steps.refl _) (argsL := [(.int k)]) (rest := []) (lenOf pd__28I_29I rfl) rfl (by show 2 * 0 + _ ≤ _; exact Nat.le_of_eq rfl) (hb hby at_376) (fun _ _ => ⟨rfl, e665, (by decide : 11 + 0 ≤ _), (by decide : 50 + 0 ≤ _)⟩)
      dsimp only [Pt.U, Pt.locs, Pt.cells, Pt.slots] at X683 l683 y683 z683 st683 hQ683
      subst l683 y683 z683
      obtain ⟨rfl, N683q, eh683⟩ := hQ683
      have N683 := Fr.app N665 N683q
      refine Go.via (fun _ kQ => st683.trans kQ) ?_
      clear st683
      have e683 : T683.heap = h665 := eh683
      clear X665 e665
      show Go p e below (T683.setTop (mkF m 379 #[.val (.int p0), .val (.int p1), .val (.int p2), .val (.int p3), .val (.int p4), .val (.int p5), .val (.int n), .val (.int k), .val (.int p2), .val (.int d1), .val (.int d2), .val (.int d3), .val (.int d4), .val (.int p4), .val (.int f1), .val (.int f2), .val (.int f3), .val (.int f4), .val (.ref bd), .val (.ref l_), .val (.long sm), .second, .val (.int xd), .val (.int xf)] [(.int (if k = (0 : Int32) then p2 else (if k = (1 : Int32) then d1 else (if k = (2 : Int32) then d2 else (if k = (3 : Int32) then d3 else d4)))))])) _
      refine Go.via (fun _ => XS.iload X683.here hx rfl (hb hby at_379) rfl) ?_
      refine Go.via (fun _ => XS.icmpNo X683.here hx rfl (hb hby at_381) rfl (teq (hv_xd : (if k = (0 : Int32) then p2 else (if k = (1 : Int32) then d1 else (if k = (2 : Int32) then d2 else (if k = (3 : Int32) then d3 else d4)))) = xd)).2) ?_
      show Go p e below (T683.setTop (mkF m 384 #[.val (.int p0), .val (.int p1), .val (.int p2), .val (.int p3), .val (.int p4), .val (.int p5), .val (.int n), .val (.int k), .val (.int p2), .val (.int d1), .val (.int d2), .val (.int d3), .val (.int d4), .val (.int p4), .val (.int f1), .val (.int f2), .val (.int f3), .val (.int f4), .val (.ref bd), .val (.ref l_), .val (.long sm), .second, .val (.int xd), .val (.int xf)] [])) _
      refine Go.via (fun _ => XS.aload X683.here hx rfl (hb hby at_384) rfl rfl) ?_
      refine Go.via (fun _ => XS.iload X683.here hx rfl (hb hby at_386) rfl) ?_
      obtain ⟨cq684, kq684, q684a, q684b, q684c⟩ := isOf hZ e683 fE665
      obtain ⟨_, _, ⟨T684, L684, k684, n684⟩, -, X684, ⟨Lc684, hQ684, l684, y684, z684⟩, st684⟩ := X683.virtualBack hx (y := (⟨"com/example/libcosearch/libcosearch/PostingList", "frequency", "(I)I"⟩ : MethodName)) (z := (⟨"com/example/libcosearch/libcosearch/PostingList", "frequency", "(I)I"⟩ : MethodName)) hown (mvT hZ (tw hw 76 rfl)) (mvT hZ (tw hw 77 rfl)) (notFace_of_selects (args := #[]) (mvT hZ (tw hw 79 rfl))) (mvT hZ (tw hw 79 rfl)) (mvT hZ (tw hw 78 rfl)) (by decide) (backOf (W := 0) (rm_frequency l Z a0 hw [] l_ k rf ys (if k = (0 : Int32) then p4 else (if k = (1 : Int32) then f1 else (if k = (2 : Int32) then f2 else (if k = (3 : Int32) then f3 else f4)))) h665 n0 z665 ff665 fy665 (hxx665 (by assumption)).1 (hxx665 (by assumption)).2.2) hZ (tw hw 80 rfl) (tw hw 22 rfl) (by decide) (by decide)) q684a q684c (g := (mkF m 388 #[.val (.int p0), .val (.int p1), .val (.int p2), .val (.int p3), .val (.int p4), .val (.int p5), .val (.int n), .val (.int k), .val (.int p2), .val (.int d1), .val (.int d2), .val (.int d3), .val (.int d4), .val (.int p4), .val (.int f1), .val (.int f2), .val (.int f3), .val (.int f4), .val (.ref bd), .val (.ref l_), .val (.long sm), .second, .val (.int xd), .val (.int xf)] [(.int k), (.ref l_)])) rfl (by rw [hml]; rfl) (Steps.refl _) (argsL := [(.int k)]) (rest := []) (lenOf pd__28I_29I rfl) rfl (by show 2 * 0 + _ ≤ _; exact Nat.le_of_eq rfl) (hb hby at_388) (fun _ _ => ⟨rfl, e683, (by decide : 11 + 0 ≤ _), (by decide : 50 + 0 ≤ _)⟩)
      dsimp only [Pt.U, Pt.locs, Pt.cells, Pt.slots] at X684 l684 y684 z684 st684 hQ684
      subst l684 y684 z684
      obtain ⟨rfl, N684q, eh684⟩ := hQ684
      have N684 := Fr.app N683 N684q
      refine Go.via (fun _ kQ => st684.trans kQ) ?_
      clear st684
      have e684 : T684.heap = h665 := eh684
      clear X683 e683
      show Go p e below (T684.setTop (mkF m 391 #[.val (.int p0), .val (.int p1), .val (.int p2), .val (.int p3), .val (.int p4), .val (.int p5), .val (.int n), .val (.int k), .val (.int p2), .val (.int d1), .val (.int d2), .val (.int d3), .val (.int d4), .val (.int p4), .val (.int f1), .val (.int f2), .val (.int f3), .val (.int f4), .val (.ref bd), .val (.ref l_), .val (.long sm), .second, .val (.int xd), .val (.int xf)] [(.int (if k = (0 : Int32) then p4 else (if k = (1 : Int32) then f1 else (if k = (2 : Int32) then f2 else (if k = (3 : Int32) then f3 else f4)))))])) _
      refine Go.via (fun _ => XS.iload X684.here hx rfl (hb hby at_391) rfl) ?_
      refine Go.via (fun _ => XS.icmpNo X684.here hx rfl (hb hby at_393) rfl (teq (hv_xf : (if k = (0 : Int32) then p4 else (if k = (1 : Int32) then f1 else (if k = (2 : Int32) then f2 else (if k = (3 : Int32) then f3 else f4)))) = xf)).2) ?_
      show Go p e below (T684.setTop (mkF m 396 #[.val (.int p0), .val (.int p1), .val (.int p2), .val (.int p3), .val (.int p4), .val (.int p5), .val (.int n), .val (.int k), .val (.int p2), .val (.int d1), .val (.int d2), .val (.int d3), .val (.int d4), .val (.int p4), .val (.int f1), .val (.int f2), .val (.int f3), .val (.int f4), .val (.ref bd), .val (.ref l_), .val (.long sm), .second, .val (.int xd), .val (.int xf)] [])) _
      refine Go.via (fun _ => XS.iconst X684.here hx rfl (hb hby at_396)) ?_
      refine Go.via (fun _ => XS.goto X684.here hx rfl (pc0 := 397) (pc' := 401) rfl (hb hby at_397) (by decide) (by decide)) ?_
      exact Go.fin X684 hlk (v := some (.int (1 : Int32))) (fun h => by rw [Bd.returns] at h; cases h) (fun fs hr => retN X684 hx (t := .boolean) Bd.returns (by simp) (hb hby at_401) hr) (by rw [e684]; exact ⟨rfl, N684, k665⟩) (by decide) (by decide)
    · refine Go.via (fun _ => XS.icmpYes X665.here hx rfl (pc0 := 275) (pc' := 402) rfl (hb hby at_275) rfl (flt (hc666 : ¬ (k < n))).2.1 (by decide) (by decide)) ?_
      refine Go.via (fun _ => XS.iconst X665.here hx rfl (hb hby at_402)) ?_
      exact Go.fin X665 hlk (v := some (.int (1 : Int32))) (fun h => by rw [Bd.returns] at h; cases h) (fun fs hr => retN X665 hx (t := .boolean) Bd.returns (by simp) (hb hby at_403) hr) (by rw [e665]; exact ⟨rfl, N665, k665⟩) (by decide) (by decide)
  show Go p e below (s₁.setTop (mkF m 0 #[.val (.int p0), .val (.int p1), .val (.int p2), .val (.int p3), .val (.int p4), .val (.int p5), .unset, .unset, .unset, .unset, .unset, .unset, .unset, .unset, .unset, .unset, .unset, .unset, .unset, .unset, .unset, .unset, .unset, .unset] [])) _
  refine Go.via (fun _ => XS.iloadN X0.here hx rfl (hb hby at_0) rfl) ?_
  refine Go.via (X0.ldcInt hx hown (mvT hZ (tw hw 0 rfl)) (g := (mkF m 1 #[.val (.int p0), .val (.int p1), .val (.int p2), .val (.int p3), .val (.int p4), .val (.int p5), .unset, .unset, .unset, .unset, .unset, .unset, .unset, .unset, .unset, .unset, .unset, .unset, .unset, .unset, .unset, .unset, .unset, .unset] [(.int p0)])) rfl (hb hby at_1)) ?_
  show Go p e below (s₁.setTop (mkF m 3 #[.val (.int p0), .val (.int p1), .val (.int p2), .val (.int p3), .val (.int p4), .val (.int p5), .unset, .unset, .unset, .unset, .unset, .unset, .unset, .unset, .unset, .unset, .unset, .unset, .unset, .unset, .unset, .unset, .unset, .unset] [(.int (2147483647 : Int32)), (.int p0)])) _
  refine Go.via (fun _ => XS.iand X0.here hx rfl (hb hby at_3) rfl) ?_
  show Go p e below (s₁.setTop (mkF m 4 #[.val (.int p0), .val (.int p1), .val (.int p2), .val (.int p3), .val (.int p4), .val (.int p5), .unset, .unset, .unset, .unset, .unset, .unset, .unset, .unset, .unset, .unset, .unset, .unset, .unset, .unset, .unset, .unset, .unset, .unset] [(.int (p0 &&& (2147483647 : Int32)))])) _
  refine Go.via (fun _ => XS.bipush X0.here hx rfl (hb hby at_4)) ?_
  refine Go.via (fun _ => iremM X0 hx rfl (hb hby at_6) rfl (by decide)) ?_
  show Go p e below (s₁.setTop (mkF m 7 #[.val (.int p0), .val (.int p1), .val (.int p2), .val (.int p3), .val (.int p4), .val (.int p5), .unset, .unset, .unset, .unset, .unset, .unset, .unset, .unset, .unset, .unset, .unset, .unset, .unset, .unset, .unset, .unset, .unset, .unset] [(.int ((p0 &&& (2147483647 : Int32)) % (6 : Int32)))])) _
  obtain ⟨n, hn0, hn⟩ := own_m6 p0
  rw [hn0]
  show Go p e below (s₁.setTop (mkF m 7 #[.val (.int p0), .val (.int p1), .val (.int p2), .val (.int p3), .val (.int p4), .val (.int p5), .unset, .unset, .unset, .unset, .unset, .unset, .unset, .unset, .unset, .unset, .unset, .unset, .unset, .unset, .unset, .unset, .unset, .unset] [(.int n)])) _
  refine Go.via (fun _ => XS.istore X0.here hx rfl (hb hby at_7) rfl (l' := #[.val (.int p0), .val (.int p1), .val (.int p2), .val (.int p3), .val (.int p4), .val (.int p5), .val (.int n), .unset, .unset, .unset, .unset, .unset, .unset, .unset, .unset, .unset, .unset, .unset, .unset, .unset, .unset, .unset, .unset, .unset]) rfl) ?_
  show Go p e below (s₁.setTop (mkF m 9 #[.val (.int p0), .val (.int p1), .val (.int p2), .val (.int p3), .val (.int p4), .val (.int p5), .val (.int n), .unset, .unset, .unset, .unset, .unset, .unset, .unset, .unset, .unset, .unset, .unset, .unset, .unset, .unset, .unset, .unset, .unset] [])) _
  refine Go.via (fun _ => XS.iloadN X0.here hx rfl (hb hby at_9) rfl) ?_
  refine Go.via (X0.ldcInt hx hown (mvT hZ (tw hw 0 rfl)) (g := (mkF m 10 #[.val (.int p0), .val (.int p1), .val (.int p2), .val (.int p3), .val (.int p4), .val (.int p5), .val (.int n), .unset, .unset, .unset, .unset, .unset, .unset, .unset, .unset, .unset, .unset, .unset, .unset, .unset, .unset, .unset, .unset, .unset] [(.int p1)])) rfl (hb hby at_10)) ?_
  show Go p e below (s₁.setTop (mkF m 12 #[.val (.int p0), .val (.int p1), .val (.int p2), .val (.int p3), .val (.int p4), .val (.int p5), .val (.int n), .unset, .unset, .unset, .unset, .unset, .unset, .unset, .unset, .unset, .unset, .unset, .unset, .unset, .unset, .unset, .unset, .unset] [(.int (2147483647 : Int32)), (.int p1)])) _
  refine Go.via (fun _ => XS.iand X0.here hx rfl (hb hby at_12) rfl) ?_
  show Go p e below (s₁.setTop (mkF m 13 #[.val (.int p0), .val (.int p1), .val (.int p2), .val (.int p3), .val (.int p4), .val (.int p5), .val (.int n), .unset, .unset, .unset, .unset, .unset, .unset, .unset, .unset, .unset, .unset, .unset, .unset, .unset, .unset, .unset, .unset, .unset] [(.int (p1 &&& (2147483647 : Int32)))])) _
  refine Go.via (fun _ => XS.iconst X0.here hx rfl (hb hby at_13)) ?_
  refine Go.via (fun _ => iremM X0 hx rfl (hb hby at_14) rfl (by decide)) ?_
  show Go p e below (s₁.setTop (mkF m 15 #[.val (.int p0), .val (.int p1), .val (.int p2), .val (.int p3), .val (.int p4), .val (.int p5), .val (.int n), .unset, .unset, .unset, .unset, .unset, .unset, .unset, .unset, .unset, .unset, .unset, .unset, .unset, .unset, .unset, .unset, .unset] [(.int ((p1 &&& (2147483647 : Int32)) % (5 : Int32)))])) _
  obtain ⟨k, hk0, hk⟩ := own_m5 p1
  rw [hk0]
  show Go p e below (s₁.setTop (mkF m 15 #[.val (.int p0), .val (.int p1), .val (.int p2), .val (.int p3), .val (.int p4), .val (.int p5), .val (.int n), .unset, .unset, .unset, .unset, .unset, .unset, .unset, .unset, .unset, .unset, .unset, .unset, .unset, .unset, .unset, .unset, .unset] [(.int k)])) _
  refine Go.via (fun _ => XS.istore X0.here hx rfl (hb hby at_15) rfl (l' := #[.val (.int p0), .val (.int p1), .val (.int p2), .val (.int p3), .val (.int p4), .val (.int p5), .val (.int n), .val (.int k), .unset, .unset, .unset, .unset, .unset, .unset, .unset, .unset, .unset, .unset, .unset, .unset, .unset, .unset, .unset, .unset]) rfl) ?_
  show Go p e below (s₁.setTop (mkF m 17 #[.val (.int p0), .val (.int p1), .val (.int p2), .val (.int p3), .val (.int p4), .val (.int p5), .val (.int n), .val (.int k), .unset, .unset, .unset, .unset, .unset, .unset, .unset, .unset, .unset, .unset, .unset, .unset, .unset, .unset, .unset, .unset] [])) _
  refine Go.via (fun _ => XS.iloadN X0.here hx rfl (hb hby at_17) rfl) ?_
  refine Go.via (fun _ => XS.istore X0.here hx rfl (hb hby at_18) rfl (l' := #[.val (.int p0), .val (.int p1), .val (.int p2), .val (.int p3), .val (.int p4), .val (.int p5), .val (.int n), .val (.int k), .val (.int p2), .unset, .unset, .unset, .unset, .unset, .unset, .unset, .unset, .unset, .unset, .unset, .unset, .unset, .unset, .unset]) rfl) ?_
  show Go p e below (s₁.setTop (mkF m 20 #[.val (.int p0), .val (.int p1), .val (.int p2), .val (.int p3), .val (.int p4), .val (.int p5), .val (.int n), .val (.int k), .val (.int p2), .unset, .unset, .unset, .unset, .unset, .unset, .unset, .unset, .unset, .unset, .unset, .unset, .unset, .unset, .unset] [])) _
  refine Go.via (fun _ => XS.iloadN X0.here hx rfl (hb hby at_20) rfl) ?_
  refine Go.via (fun _ => XS.iloadN X0.here hx rfl (hb hby at_21) rfl) ?_
  refine Go.via (fun _ => XS.iadd X0.here hx rfl (hb hby at_22) rfl) ?_
  show Go p e below (s₁.setTop (mkF m 23 #[.val (.int p0), .val (.int p1), .val (.int p2), .val (.int p3), .val (.int p4), .val (.int p5), .val (.int n), .val (.int k), .val (.int p2), .unset, .unset, .unset, .unset, .unset, .unset, .unset, .unset, .unset, .unset, .unset, .unset, .unset, .unset, .unset] [(.int (p2 + p3))])) _
  generalize hv_d1 : (p2 + p3) = d1
  show Go p e below (s₁.setTop (mkF m 23 #[.val (.int p0), .val (.int p1), .val (.int p2), .val (.int p3), .val (.int p4), .val (.int p5), .val (.int n), .val (.int k), .val (.int p2), .unset, .unset, .unset, .unset, .unset, .unset, .unset, .unset, .unset, .unset, .unset, .unset, .unset, .unset, .unset] [(.int d1)])) _
  refine Go.via (fun _ => XS.istore X0.here hx rfl (hb hby at_23) rfl (l' := #[.val (.int p0), .val (.int p1), .val (.int p2), .val (.int p3), .val (.int p4), .val (.int p5), .val (.int n), .val (.int k), .val (.int p2), .val (.int d1), .unset, .unset, .unset, .unset, .unset, .unset, .unset, .unset, .unset, .unset, .unset, .unset, .unset, .unset]) rfl) ?_
  show Go p e below (s₁.setTop (mkF m 25 #[.val (.int p0), .val (.int p1), .val (.int p2), .val (.int p3), .val (.int p4), .val (.int p5), .val (.int n), .val (.int k), .val (.int p2), .val (.int d1), .unset, .unset, .unset, .unset, .unset, .unset, .unset, .unset, .unset, .unset, .unset, .unset, .unset, .unset] [])) _
  refine Go.via (fun _ => XS.iloadN X0.here hx rfl (hb hby at_25) rfl) ?_
  refine Go.via (fun _ => XS.iconst X0.here hx rfl (hb hby at_26)) ?_
  refine Go.via (fun _ => XS.iloadN X0.here hx rfl (hb hby at_27) rfl) ?_
  refine Go.via (fun _ => XS.imul X0.here hx rfl (hb hby at_28) rfl) ?_
  show Go p e below (s₁.setTop (mkF m 29 #[.val (.int p0), .val (.int p1), .val (.int p2), .val (.int p3), .val (.int p4), .val (.int p5), .val (.int n), .val (.int k), .val (.int p2), .val (.int d1), .unset, .unset, .unset, .unset, .unset, .unset, .unset, .unset, .unset, .unset, .unset, .unset, .unset, .unset] [(.int ((2 : Int32) * p3)), (.int p2)])) _
  refine Go.via (fun _ => XS.iadd X0.here hx rfl (hb hby at_29) rfl) ?_
  show Go p e below (s₁.setTop (mkF m 30 #[.val (.int p0), .val (.int p1), .val (.int p2), .val (.int p3), .val (.int p4), .val (.int p5), .val (.int n), .val (.int k), .val (.int p2), .val (.int d1), .unset, .unset, .unset, .unset, .unset, .unset, .unset, .unset, .unset, .unset, .unset, .unset, .unset, .unset] [(.int (p2 + ((2 : Int32) * p3)))])) _
  generalize hv_d2 : (p2 + ((2 : Int32) * p3)) = d2
  show Go p e below (s₁.setTop (mkF m 30 #[.val (.int p0), .val (.int p1), .val (.int p2), .val (.int p3), .val (.int p4), .val (.int p5), .val (.int n), .val (.int k), .val (.int p2), .val (.int d1), .unset, .unset, .unset, .unset, .unset, .unset, .unset, .unset, .unset, .unset, .unset, .unset, .unset, .unset] [(.int d2)])) _
  refine Go.via (fun _ => XS.istore X0.here hx rfl (hb hby at_30) rfl (l' := #[.val (.int p0), .val (.int p1), .val (.int p2), .val (.int p3), .val (.int p4), .val (.int p5), .val (.int n), .val (.int k), .val (.int p2), .val (.int d1), .val (.int d2), .unset, .unset, .unset, .unset, .unset, .unset, .unset, .unset, .unset, .unset, .unset, .unset, .unset]) rfl) ?_
  show Go p e below (s₁.setTop (mkF m 32 #[.val (.int p0), .val (.int p1), .val (.int p2), .val (.int p3), .val (.int p4), .val (.int p5), .val (.int n), .val (.int k), .val (.int p2), .val (.int d1), .val (.int d2), .unset, .unset, .unset, .unset, .unset, .unset, .unset, .unset, .unset, .unset, .unset, .unset, .unset] [])) _
  refine Go.via (fun _ => XS.iloadN X0.here hx rfl (hb hby at_32) rfl) ?_
  refine Go.via (fun _ => XS.iconst X0.here hx rfl (hb hby at_33)) ?_
  refine Go.via (fun _ => XS.iloadN X0.here hx rfl (hb hby at_34) rfl) ?_
  refine Go.via (fun _ => XS.imul X0.here hx rfl (hb hby at_35) rfl) ?_
  show Go p e below (s₁.setTop (mkF m 36 #[.val (.int p0), .val (.int p1), .val (.int p2), .val (.int p3), .val (.int p4), .val (.int p5), .val (.int n), .val (.int k), .val (.int p2), .val (.int d1), .val (.int d2), .unset, .unset, .unset, .unset, .unset, .unset, .unset, .unset, .unset, .unset, .unset, .unset, .unset] [(.int ((3 : Int32) * p3)), (.int p2)])) _
  refine Go.via (fun _ => XS.iadd X0.here hx rfl (hb hby at_36) rfl) ?_
  show Go p e below (s₁.setTop (mkF m 37 #[.val (.int p0), .val (.int p1), .val (.int p2), .val (.int p3), .val (.int p4), .val (.int p5), .val (.int n), .val (.int k), .val (.int p2), .val (.int d1), .val (.int d2), .unset, .unset, .unset, .unset, .unset, .unset, .unset, .unset, .unset, .unset, .unset, .unset, .unset] [(.int (p2 + ((3 : Int32) * p3)))])) _
  generalize hv_d3 : (p2 + ((3 : Int32) * p3)) = d3
  show Go p e below (s₁.setTop (mkF m 37 #[.val (.int p0), .val (.int p1), .val (.int p2), .val (.int p3), .val (.int p4), .val (.int p5), .val (.int n), .val (.int k), .val (.int p2), .val (.int d1), .val (.int d2), .unset, .unset, .unset, .unset, .unset, .unset, .unset, .unset, .unset, .unset, .unset, .unset, .unset] [(.int d3)])) _
  refine Go.via (fun _ => XS.istore X0.here hx rfl (hb hby at_37) rfl (l' := #[.val (.int p0), .val (.int p1), .val (.int p2), .val (.int p3), .val (.int p4), .val (.int p5), .val (.int n), .val (.int k), .val (.int p2), .val (.int d1), .val (.int d2), .val (.int d3), .unset, .unset, .unset, .unset, .unset, .unset, .unset, .unset, .unset, .unset, .unset, .unset]) rfl) ?_
  show Go p e below (s₁.setTop (mkF m 39 #[.val (.int p0), .val (.int p1), .val (.int p2), .val (.int p3), .val (.int p4), .val (.int p5), .val (.int n), .val (.int k), .val (.int p2), .val (.int d1), .val (.int d2), .val (.int d3), .unset, .unset, .unset, .unset, .unset, .unset, .unset, .unset, .unset, .unset, .unset, .unset] [])) _
  refine Go.via (fun _ => XS.iloadN X0.here hx rfl (hb hby at_39) rfl) ?_
  refine Go.via (fun _ => XS.iconst X0.here hx rfl (hb hby at_40)) ?_
  refine Go.via (fun _ => XS.iloadN X0.here hx rfl (hb hby at_41) rfl) ?_
  refine Go.via (fun _ => XS.imul X0.here hx rfl (hb hby at_42) rfl) ?_
  show Go p e below (s₁.setTop (mkF m 43 #[.val (.int p0), .val (.int p1), .val (.int p2), .val (.int p3), .val (.int p4), .val (.int p5), .val (.int n), .val (.int k), .val (.int p2), .val (.int d1), .val (.int d2), .val (.int d3), .unset, .unset, .unset, .unset, .unset, .unset, .unset, .unset, .unset, .unset, .unset, .unset] [(.int ((4 : Int32) * p3)), (.int p2)])) _
  refine Go.via (fun _ => XS.iadd X0.here hx rfl (hb hby at_43) rfl) ?_
  show Go p e below (s₁.setTop (mkF m 44 #[.val (.int p0), .val (.int p1), .val (.int p2), .val (.int p3), .val (.int p4), .val (.int p5), .val (.int n), .val (.int k), .val (.int p2), .val (.int d1), .val (.int d2), .val (.int d3), .unset, .unset, .unset, .unset, .unset, .unset, .unset, .unset, .unset, .unset, .unset, .unset] [(.int (p2 + ((4 : Int32) * p3)))])) _
  generalize hv_d4 : (p2 + ((4 : Int32) * p3)) = d4
  show Go p e below (s₁.setTop (mkF m 44 #[.val (.int p0), .val (.int p1), .val (.int p2), .val (.int p3), .val (.int p4), .val (.int p5), .val (.int n), .val (.int k), .val (.int p2), .val (.int d1), .val (.int d2), .val (.int d3), .unset, .unset, .unset, .unset, .unset, .unset, .unset, .unset, .unset, .unset, .unset, .unset] [(.int d4)])) _
  refine Go.via (fun _ => XS.istore X0.here hx rfl (hb hby at_44) rfl (l' := #[.val (.int p0), .val (.int p1), .val (.int p2), .val (.int p3), .val (.int p4), .val (.int p5), .val (.int n), .val (.int k), .val (.int p2), .val (.int d1), .val (.int d2), .val (.int d3), .val (.int d4), .unset, .unset, .unset, .unset, .unset, .unset, .unset, .unset, .unset, .unset, .unset]) rfl) ?_
  show Go p e below (s₁.setTop (mkF m 46 #[.val (.int p0), .val (.int p1), .val (.int p2), .val (.int p3), .val (.int p4), .val (.int p5), .val (.int n), .val (.int k), .val (.int p2), .val (.int d1), .val (.int d2), .val (.int d3), .val (.int d4), .unset, .unset, .unset, .unset, .unset, .unset, .unset, .unset, .unset, .unset, .unset] [])) _
  refine Go.via (fun _ => XS.iload X0.here hx rfl (hb hby at_46) rfl) ?_
  refine Go.via (fun _ => XS.istore X0.here hx rfl (hb hby at_48) rfl (l' := #[.val (.int p0), .val (.int p1), .val (.int p2), .val (.int p3), .val (.int p4), .val (.int p5), .val (.int n), .val (.int k), .val (.int p2), .val (.int d1), .val (.int d2), .val (.int d3), .val (.int d4), .val (.int p4), .unset, .unset, .unset, .unset, .unset, .unset, .unset, .unset, .unset, .unset]) rfl) ?_
  show Go p e below (s₁.setTop (mkF m 50 #[.val (.int p0), .val (.int p1), .val (.int p2), .val (.int p3), .val (.int p4), .val (.int p5), .val (.int n), .val (.int k), .val (.int p2), .val (.int d1), .val (.int d2), .val (.int d3), .val (.int d4), .val (.int p4), .unset, .unset, .unset, .unset, .unset, .unset, .unset, .unset, .unset, .unset] [])) _
  refine Go.via (fun _ => XS.iload X0.here hx rfl (hb hby at_50) rfl) ?_
  refine Go.via (fun _ => XS.iload X0.here hx rfl (hb hby at_52) rfl) ?_
  refine Go.via (fun _ => XS.iadd X0.here hx rfl (hb hby at_54) rfl) ?_
  show Go p e below (s₁.setTop (mkF m 55 #[.val (.int p0), .val (.int p1), .val (.int p2), .val (.int p3), .val (.int p4), .val (.int p5), .val (.int n), .val (.int k), .val (.int p2), .val (.int d1), .val (.int d2), .val (.int d3), .val (.int d4), .val (.int p4), .unset, .unset, .unset, .unset, .unset, .unset, .unset, .unset, .unset, .unset] [(.int (p4 + p5))])) _
  generalize hv_f1 : (p4 + p5) = f1
  show Go p e below (s₁.setTop (mkF m 55 #[.val (.int p0), .val (.int p1), .val (.int p2), .val (.int p3), .val (.int p4), .val (.int p5), .val (.int n), .val (.int k), .val (.int p2), .val (.int d1), .val (.int d2), .val (.int d3), .val (.int d4), .val (.int p4), .unset, .unset, .unset, .unset, .unset, .unset, .unset, .unset, .unset, .unset] [(.int f1)])) _
  refine Go.via (fun _ => XS.istore X0.here hx rfl (hb hby at_55) rfl (l' := #[.val (.int p0), .val (.int p1), .val (.int p2), .val (.int p3), .val (.int p4), .val (.int p5), .val (.int n), .val (.int k), .val (.int p2), .val (.int d1), .val (.int d2), .val (.int d3), .val (.int d4), .val (.int p4), .val (.int f1), .unset, .unset, .unset, .unset, .unset, .unset, .unset, .unset, .unset]) rfl) ?_
  show Go p e below (s₁.setTop (mkF m 57 #[.val (.int p0), .val (.int p1), .val (.int p2), .val (.int p3), .val (.int p4), .val (.int p5), .val (.int n), .val (.int k), .val (.int p2), .val (.int d1), .val (.int d2), .val (.int d3), .val (.int d4), .val (.int p4), .val (.int f1), .unset, .unset, .unset, .unset, .unset, .unset, .unset, .unset, .unset] [])) _
  refine Go.via (fun _ => XS.iload X0.here hx rfl (hb hby at_57) rfl) ?_
  refine Go.via (fun _ => XS.iconst X0.here hx rfl (hb hby at_59)) ?_
  refine Go.via (fun _ => XS.iload X0.here hx rfl (hb hby at_60) rfl) ?_
  refine Go.via (fun _ => XS.imul X0.here hx rfl (hb hby at_62) rfl) ?_
  show Go p e below (s₁.setTop (mkF m 63 #[.val (.int p0), .val (.int p1), .val (.int p2), .val (.int p3), .val (.int p4), .val (.int p5), .val (.int n), .val (.int k), .val (.int p2), .val (.int d1), .val (.int d2), .val (.int d3), .val (.int d4), .val (.int p4), .val (.int f1), .unset, .unset, .unset, .unset, .unset, .unset, .unset, .unset, .unset] [(.int ((2 : Int32) * p5)), (.int p4)])) _
  refine Go.via (fun _ => XS.iadd X0.here hx rfl (hb hby at_63) rfl) ?_
  show Go p e below (s₁.setTop (mkF m 64 #[.val (.int p0), .val (.int p1), .val (.int p2), .val (.int p3), .val (.int p4), .val (.int p5), .val (.int n), .val (.int k), .val (.int p2), .val (.int d1), .val (.int d2), .val (.int d3), .val (.int d4), .val (.int p4), .val (.int f1), .unset, .unset, .unset, .unset, .unset, .unset, .unset, .unset, .unset] [(.int (p4 + ((2 : Int32) * p5)))])) _
  generalize hv_f2 : (p4 + ((2 : Int32) * p5)) = f2
  show Go p e below (s₁.setTop (mkF m 64 #[.val (.int p0), .val (.int p1), .val (.int p2), .val (.int p3), .val (.int p4), .val (.int p5), .val (.int n), .val (.int k), .val (.int p2), .val (.int d1), .val (.int d2), .val (.int d3), .val (.int d4), .val (.int p4), .val (.int f1), .unset, .unset, .unset, .unset, .unset, .unset, .unset, .unset, .unset] [(.int f2)])) _
  refine Go.via (fun _ => XS.istore X0.here hx rfl (hb hby at_64) rfl (l' := #[.val (.int p0), .val (.int p1), .val (.int p2), .val (.int p3), .val (.int p4), .val (.int p5), .val (.int n), .val (.int k), .val (.int p2), .val (.int d1), .val (.int d2), .val (.int d3), .val (.int d4), .val (.int p4), .val (.int f1), .val (.int f2), .unset, .unset, .unset, .unset, .unset, .unset, .unset, .unset]) rfl) ?_
  show Go p e below (s₁.setTop (mkF m 66 #[.val (.int p0), .val (.int p1), .val (.int p2), .val (.int p3), .val (.int p4), .val (.int p5), .val (.int n), .val (.int k), .val (.int p2), .val (.int d1), .val (.int d2), .val (.int d3), .val (.int d4), .val (.int p4), .val (.int f1), .val (.int f2), .unset, .unset, .unset, .unset, .unset, .unset, .unset, .unset] [])) _
  refine Go.via (fun _ => XS.iload X0.here hx rfl (hb hby at_66) rfl) ?_
  refine Go.via (fun _ => XS.iconst X0.here hx rfl (hb hby at_68)) ?_
  refine Go.via (fun _ => XS.iload X0.here hx rfl (hb hby at_69) rfl) ?_
  refine Go.via (fun _ => XS.imul X0.here hx rfl (hb hby at_71) rfl) ?_
  show Go p e below (s₁.setTop (mkF m 72 #[.val (.int p0), .val (.int p1), .val (.int p2), .val (.int p3), .val (.int p4), .val (.int p5), .val (.int n), .val (.int k), .val (.int p2), .val (.int d1), .val (.int d2), .val (.int d3), .val (.int d4), .val (.int p4), .val (.int f1), .val (.int f2), .unset, .unset, .unset, .unset, .unset, .unset, .unset, .unset] [(.int ((3 : Int32) * p5)), (.int p4)])) _
  refine Go.via (fun _ => XS.iadd X0.here hx rfl (hb hby at_72) rfl) ?_
  show Go p e below (s₁.setTop (mkF m 73 #[.val (.int p0), .val (.int p1), .val (.int p2), .val (.int p3), .val (.int p4), .val (.int p5), .val (.int n), .val (.int k), .val (.int p2), .val (.int d1), .val (.int d2), .val (.int d3), .val (.int d4), .val (.int p4), .val (.int f1), .val (.int f2), .unset, .unset, .unset, .unset, .unset, .unset, .unset, .unset] [(.int (p4 + ((3 : Int32) * p5)))])) _
  generalize hv_f3 : (p4 + ((3 : Int32) * p5)) = f3
  show Go p e below (s₁.setTop (mkF m 73 #[.val (.int p0), .val (.int p1), .val (.int p2), .val (.int p3), .val (.int p4), .val (.int p5), .val (.int n), .val (.int k), .val (.int p2), .val (.int d1), .val (.int d2), .val (.int d3), .val (.int d4), .val (.int p4), .val (.int f1), .val (.int f2), .unset, .unset, .unset, .unset, .unset, .unset, .unset, .unset] [(.int f3)])) _
  refine Go.via (fun _ => XS.istore X0.here hx rfl (hb hby at_73) rfl (l' := #[.val (.int p0), .val (.int p1), .val (.int p2), .val (.int p3), .val (.int p4), .val (.int p5), .val (.int n), .val (.int k), .val (.int p2), .val (.int d1), .val (.int d2), .val (.int d3), .val (.int d4), .val (.int p4), .val (.int f1), .val (.int f2), .val (.int f3), .unset, .unset, .unset, .unset, .unset, .unset, .unset]) rfl) ?_
  show Go p e below (s₁.setTop (mkF m 75 #[.val (.int p0), .val (.int p1), .val (.int p2), .val (.int p3), .val (.int p4), .val (.int p5), .val (.int n), .val (.int k), .val (.int p2), .val (.int d1), .val (.int d2), .val (.int d3), .val (.int d4), .val (.int p4), .val (.int f1), .val (.int f2), .val (.int f3), .unset, .unset, .unset, .unset, .unset, .unset, .unset] [])) _
  refine Go.via (fun _ => XS.iload X0.here hx rfl (hb hby at_75) rfl) ?_
  refine Go.via (fun _ => XS.iconst X0.here hx rfl (hb hby at_77)) ?_
  refine Go.via (fun _ => XS.iload X0.here hx rfl (hb hby at_78) rfl) ?_
  refine Go.via (fun _ => XS.imul X0.here hx rfl (hb hby at_80) rfl) ?_
  show Go p e below (s₁.setTop (mkF m 81 #[.val (.int p0), .val (.int p1), .val (.int p2), .val (.int p3), .val (.int p4), .val (.int p5), .val (.int n), .val (.int k), .val (.int p2), .val (.int d1), .val (.int d2), .val (.int d3), .val (.int d4), .val (.int p4), .val (.int f1), .val (.int f2), .val (.int f3), .unset, .unset, .unset, .unset, .unset, .unset, .unset] [(.int ((4 : Int32) * p5)), (.int p4)])) _
  refine Go.via (fun _ => XS.iadd X0.here hx rfl (hb hby at_81) rfl) ?_
  show Go p e below (s₁.setTop (mkF m 82 #[.val (.int p0), .val (.int p1), .val (.int p2), .val (.int p3), .val (.int p4), .val (.int p5), .val (.int n), .val (.int k), .val (.int p2), .val (.int d1), .val (.int d2), .val (.int d3), .val (.int d4), .val (.int p4), .val (.int f1), .val (.int f2), .val (.int f3), .unset, .unset, .unset, .unset, .unset, .unset, .unset] [(.int (p4 + ((4 : Int32) * p5)))])) _
  generalize hv_f4 : (p4 + ((4 : Int32) * p5)) = f4
  show Go p e below (s₁.setTop (mkF m 82 #[.val (.int p0), .val (.int p1), .val (.int p2), .val (.int p3), .val (.int p4), .val (.int p5), .val (.int n), .val (.int k), .val (.int p2), .val (.int d1), .val (.int d2), .val (.int d3), .val (.int d4), .val (.int p4), .val (.int f1), .val (.int f2), .val (.int f3), .unset, .unset, .unset, .unset, .unset, .unset, .unset] [(.int f4)])) _
  refine Go.via (fun _ => XS.istore X0.here hx rfl (hb hby at_82) rfl (l' := #[.val (.int p0), .val (.int p1), .val (.int p2), .val (.int p3), .val (.int p4), .val (.int p5), .val (.int n), .val (.int k), .val (.int p2), .val (.int d1), .val (.int d2), .val (.int d3), .val (.int d4), .val (.int p4), .val (.int f1), .val (.int f2), .val (.int f3), .val (.int f4), .unset, .unset, .unset, .unset, .unset, .unset]) rfl) ?_
  show Go p e below (s₁.setTop (mkF m 84 #[.val (.int p0), .val (.int p1), .val (.int p2), .val (.int p3), .val (.int p4), .val (.int p5), .val (.int n), .val (.int k), .val (.int p2), .val (.int d1), .val (.int d2), .val (.int d3), .val (.int d4), .val (.int p4), .val (.int f1), .val (.int f2), .val (.int f3), .val (.int f4), .unset, .unset, .unset, .unset, .unset, .unset] [])) _
  rcases hn with rfl | rfl | rfl | rfl | rfl | rfl
  · show Go p e below (s₁.setTop (mkF m 84 #[.val (.int p0), .val (.int p1), .val (.int p2), .val (.int p3), .val (.int p4), .val (.int p5), .val (.int (0 : Int32)), .val (.int k), .val (.int p2), .val (.int d1), .val (.int d2), .val (.int d3), .val (.int d4), .val (.int p4), .val (.int f1), .val (.int f2), .val (.int f3), .val (.int f4), .unset, .unset, .unset, .unset, .unset, .unset] [])) _
    obtain ⟨T685, h685, X685, e685, E685, A685, D685, -, st685⟩ := newO X0 hx hZ hown (tw hw 1 rfl) (tw hw 2 rfl) (tw hw 3 rfl) e0 (g := (mkF m 84 #[.val (.int p0), .val (.int p1), .val (.int p2), .val (.int p3), .val (.int p4), .val (.int p5), .val (.int (0 : Int32)), .val (.int k), .val (.int p2), .val (.int d1), .val (.int d2), .val (.int d3), .val (.int d4), .val (.int p4), .val (.int f1), .val (.int f2), .val (.int f3), .val (.int f4), .unset, .unset, .unset, .unset, .unset, .unset] [])) rfl (hb hby at_84) (by decide) (by decide)
    obtain ⟨b685, g685⟩ : ∃ z, z = h0.size := ⟨_, rfl⟩
    rw [← g685] at A685 D685 st685
    have ge686 : n0 ≤ b685 := Nat.le_trans Z0 (Nat.le_of_eq g685.symm)
    have sz687 : h0.size ≤ b685 := Nat.le_trans (Keep.refl h0 []).1 (Nat.le_of_eq g685.symm)
    refine Go.via (st685) ?_
    clear st685
    have f688 : Fld Z h685 b685 "com/example/libcosearch/libcosearch/PostingList$Builder" "documents" "[I" .null := D685 (Or.inl (tw hw 12 rfl)) (ty := (.array .int)) (by decide)
    have f689 : Fld Z h685 b685 "com/example/libcosearch/libcosearch/PostingList$Builder" "frequencies" "[I" .null := D685 (Or.inl (tw hw 14 rfl)) (ty := (.array .int)) (by decide)
    have f690 : Fld Z h685 b685 "com/example/libcosearch/libcosearch/PostingList$Builder" "size" "I" (.int (0 : Int32)) := D685 (Or.inl (tw hw 24 rfl)) (ty := .int) (by decide)
    clear X0 e0
    show Go p e below (T685.setTop (mkF m 87 #[.val (.int p0), .val (.int p1), .val (.int p2), .val (.int p3), .val (.int p4), .val (.int p5), .val (.int (0 : Int32)), .val (.int k), .val (.int p2), .val (.int d1), .val (.int d2), .val (.int d3), .val (.int d4), .val (.int p4), .val (.int f1), .val (.int f2), .val (.int f3), .val (.int f4), .unset, .unset, .unset, .unset, .unset, .unset] [(.ref b685)])) _
    refine Go.via (fun _ => XS.dup X685.here hx rfl (hb hby at_87) rfl rfl) ?_
    have z692 : n0 ≤ h685.size := (Nat.le_trans Z0 E685.1)
    obtain ⟨_, _, ⟨T691, L691, k691, n691⟩, -, X691, ⟨Lc691, hQ691, l691, y691, z691⟩, st691⟩ := X685.specialBack hx (y := (⟨"com/example/libcosearch/libcosearch/PostingList$Builder", "<init>", "()V"⟩ : MethodName)) rfl hown (mvT hZ (tw hw 4 rfl)) (mvT hZ (tw hw 5 rfl)) (mvT hZ (tw hw 6 rfl)) (by decide) (backOf (W := 1) (rmB l Z a0 hw [] b685  h685 n0 z692 A685 f688 f689 f690 ge686) hZ (tw hw 6 rfl) (tw hw 3 rfl) (by decide) (by decide)) (g := (mkF m 88 #[.val (.int p0), .val (.int p1), .val (.int p2), .val (.int p3), .val (.int p4), .val (.int p5), .val (.int (0 : Int32)), .val (.int k), .val (.int p2), .val (.int d1), .val (.int d2), .val (.int d3), .val (.int d4), .val (.int p4), .val (.int f1), .val (.int f2), .val (.int f3), .val (.int f4), .unset, .unset, .unset, .unset, .unset, .unset] [(.ref b685), (.ref b685)])) rfl (by rw [hml]; rfl) (Steps.refl _) (a := b685) (argsL := []) (rest := [(.ref b685)]) (lenOf pd__28_29V rfl) rfl (by show 2 * 0 + _ ≤ _; exact Nat.le_of_eq rfl) (hb hby at_88) (fun _ _ => ⟨rfl, e685, (by decide : 1 + 2 ≤ _), (by decide : 3 + 8 ≤ _)⟩)
    dsimp only [Pt.U, Pt.locs, Pt.cells, Pt.slots] at X691 l691 y691 z691 st691 hQ691
    subst l691 y691 z691
    obtain ⟨b693, b694, rfl, N691q, K691q, fz_b693, fz_b694, f695, f696, f697, f698, f699, f700, f701, f702, qp703⟩ := hQ691
    have N691 := Fr.app N0 N691q
    refine Go.via (fun _ kQ => st691.trans kQ) ?_
    clear st691
    have ne704 : b685 ≠ b693 := Nat.ne_of_lt (Nat.lt_of_lt_of_le A685.lt fz_b693)
    have ge705 : n0 ≤ b693 := Nat.le_trans z692 fz_b693
    have k707 : Keep h0 h685 [] := ((Keep.refl h0 []).ext E685)
    have sz706 : h0.size ≤ b693 := Nat.le_trans k707.1 fz_b693
    have ne708 : b685 ≠ b694 := Nat.ne_of_lt (Nat.lt_of_lt_of_le A685.lt fz_b694)
    have ge709 : n0 ≤ b694 := Nat.le_trans z692 fz_b694
    have sz710 : h0.size ≤ b694 := Nat.le_trans k707.1 fz_b694
    have e691 : T691.heap = T691.heap := rfl
    have f711 : Exa Z T691.heap b685 "com/example/libcosearch/libcosearch/PostingList$Builder" := f695
    have f712 : Fld Z T691.heap b685 "com/example/libcosearch/libcosearch/PostingList$Builder" "documents" "[I" (.ref b693) := f696
    have f713 : Fld Z T691.heap b685 "com/example/libcosearch/libcosearch/PostingList$Builder" "frequencies" "[I" (.ref b694) := f697
    have f714 : Fld Z T691.heap b685 "com/example/libcosearch/libcosearch/PostingList$Builder" "size" "I" (.int (0 : Int32)) := f698
    have f715 : Ia Z T691.heap b693 .int [(0 : Int32), (0 : Int32), (0 : Int32), (0 : Int32)] := f699
    have f716 : Ia Z T691.heap b694 .int [(0 : Int32), (0 : Int32), (0 : Int32), (0 : Int32)] := f700
    have f717 : Exa Z T691.heap b693 "[I" := f701
    have f718 : Exa Z T691.heap b694 "[I" := f702
    clear X685 e685
    show Go p e below (T691.setTop (mkF m 91 #[.val (.int p0), .val (.int p1), .val (.int p2), .val (.int p3), .val (.int p4), .val (.int p5), .val (.int (0 : Int32)), .val (.int k), .val (.int p2), .val (.int d1), .val (.int d2), .val (.int d3), .val (.int d4), .val (.int p4), .val (.int f1), .val (.int f2), .val (.int f3), .val (.int f4), .unset, .unset, .unset, .unset, .unset, .unset] [(.ref b685)])) _
    refine Go.via (fun _ => XS.astore X691.here hx rfl (hb hby at_91) rfl rfl (l' := #[.val (.int p0), .val (.int p1), .val (.int p2), .val (.int p3), .val (.int p4), .val (.int p5), .val (.int (0 : Int32)), .val (.int k), .val (.int p2), .val (.int d1), .val (.int d2), .val (.int d3), .val (.int d4), .val (.int p4), .val (.int f1), .val (.int f2), .val (.int f3), .val (.int f4), .val (.ref b685), .unset, .unset, .unset, .unset, .unset]) rfl) ?_
    show Go p e below (T691.setTop (mkF m 93 #[.val (.int p0), .val (.int p1), .val (.int p2), .val (.int p3), .val (.int p4), .val (.int p5), .val (.int (0 : Int32)), .val (.int k), .val (.int p2), .val (.int d1), .val (.int d2), .val (.int d3), .val (.int d4), .val (.int p4), .val (.int f1), .val (.int f2), .val (.int f3), .val (.int f4), .val (.ref b685), .unset, .unset, .unset, .unset, .unset] [])) _
    refine Go.via (fun _ => XS.iload X691.here hx rfl (hb hby at_93) rfl) ?_
    refine Go.via (fun _ => XS.ifYes X691.here hx rfl (pc0 := 95) (pc' := 107) rfl (hb hby at_95) rfl ((if0 _ _).trans (flt ((by decide) : ¬ ((0 : Int32) < (0 : Int32)))).2.2.2) (by decide) (by decide)) ?_
    show Go p e below (T691.setTop (mkF m 107 #[.val (.int p0), .val (.int p1), .val (.int p2), .val (.int p3), .val (.int p4), .val (.int p5), .val (.int (0 : Int32)), .val (.int k), .val (.int p2), .val (.int d1), .val (.int d2), .val (.int d3), .val (.int d4), .val (.int p4), .val (.int f1), .val (.int f2), .val (.int f3), .val (.int f4), .val (.ref b685), .unset, .unset, .unset, .unset, .unset] [])) _
    refine Go.via (fun _ => XS.iload X691.here hx rfl (hb hby at_107) rfl) ?_
    refine Go.via (fun _ => XS.iconst X691.here hx rfl (hb hby at_109)) ?_
    refine Go.via (fun _ => XS.icmpYes X691.here hx rfl (pc0 := 110) (pc' := 122) rfl (hb hby at_110) rfl (flt ((by decide) : ¬ ((1 : Int32) < (0 : Int32)))).2.2.2 (by decide) (by decide)) ?_
    show Go p e below (T691.setTop (mkF m 122 #[.val (.int p0), .val (.int p1), .val (.int p2), .val (.int p3), .val (.int p4), .val (.int p5), .val (.int (0 : Int32)), .val (.int k), .val (.int p2), .val (.int d1), .val (.int d2), .val (.int d3), .val (.int d4), .val (.int p4), .val (.int f1), .val (.int f2), .val (.int f3), .val (.int f4), .val (.ref b685), .unset, .unset, .unset, .unset, .unset] [])) _
    refine Go.via (fun _ => XS.iload X691.here hx rfl (hb hby at_122) rfl) ?_
    refine Go.via (fun _ => XS.iconst X691.here hx rfl (hb hby at_124)) ?_
    refine Go.via (fun _ => XS.icmpYes X691.here hx rfl (pc0 := 125) (pc' := 137) rfl (hb hby at_125) rfl (flt ((by decide) : ¬ ((2 : Int32) < (0 : Int32)))).2.2.2 (by decide) (by decide)) ?_
    show Go p e below (T691.setTop (mkF m 137 #[.val (.int p0), .val (.int p1), .val (.int p2), .val (.int p3), .val (.int p4), .val (.int p5), .val (.int (0 : Int32)), .val (.int k), .val (.int p2), .val (.int d1), .val (.int d2), .val (.int d3), .val (.int d4), .val (.int p4), .val (.int f1), .val (.int f2), .val (.int f3), .val (.int f4), .val (.ref b685), .unset, .unset, .unset, .unset, .unset] [])) _
    refine Go.via (fun _ => XS.iload X691.here hx rfl (hb hby at_137) rfl) ?_
    refine Go.via (fun _ => XS.iconst X691.here hx rfl (hb hby at_139)) ?_
    refine Go.via (fun _ => XS.icmpYes X691.here hx rfl (pc0 := 140) (pc' := 152) rfl (hb hby at_140) rfl (flt ((by decide) : ¬ ((3 : Int32) < (0 : Int32)))).2.2.2 (by decide) (by decide)) ?_
    show Go p e below (T691.setTop (mkF m 152 #[.val (.int p0), .val (.int p1), .val (.int p2), .val (.int p3), .val (.int p4), .val (.int p5), .val (.int (0 : Int32)), .val (.int k), .val (.int p2), .val (.int d1), .val (.int d2), .val (.int d3), .val (.int d4), .val (.int p4), .val (.int f1), .val (.int f2), .val (.int f3), .val (.int f4), .val (.ref b685), .unset, .unset, .unset, .unset, .unset] [])) _
    refine Go.via (fun _ => XS.iload X691.here hx rfl (hb hby at_152) rfl) ?_
    refine Go.via (fun _ => XS.iconst X691.here hx rfl (hb hby at_154)) ?_
    refine Go.via (fun _ => XS.icmpYes X691.here hx rfl (pc0 := 155) (pc' := 167) rfl (hb hby at_155) rfl (flt ((by decide) : ¬ ((4 : Int32) < (0 : Int32)))).2.2.2 (by decide) (by decide)) ?_
    show Go p e below (T691.setTop (mkF m 167 #[.val (.int p0), .val (.int p1), .val (.int p2), .val (.int p3), .val (.int p4), .val (.int p5), .val (.int (0 : Int32)), .val (.int k), .val (.int p2), .val (.int d1), .val (.int d2), .val (.int d3), .val (.int d4), .val (.int p4), .val (.int f1), .val (.int f2), .val (.int f3), .val (.int f4), .val (.ref b685), .unset, .unset, .unset, .unset, .unset] [])) _
    refine Go.via (fun _ => XS.aload X691.here hx rfl (hb hby at_167) rfl rfl) ?_
    have z720 : n0 ≤ T691.heap.size := (Nat.le_trans z692 K691q.1)
    obtain ⟨cq719, kq719, q719a, q719b, q719c⟩ := isOf hZ e691 f711
    obtain ⟨_, _, ⟨T719, L719, k719, n719⟩, -, X719, ⟨Lc719, hQ719, l719, y719, z719⟩, st719⟩ := X691.virtualBack hx (y := (⟨"com/example/libcosearch/libcosearch/PostingList$Builder", "build", "()Lcom/example/libcosearch/libcosearch/PostingList;"⟩ : MethodName)) (z := (⟨"com/example/libcosearch/libcosearch/PostingList$Builder", "build", "()Lcom/example/libcosearch/libcosearch/PostingList;"⟩ : MethodName)) hown (mvT hZ (tw hw 15 rfl)) (mvT hZ (tw hw 16 rfl)) (notFace_of_selects (args := #[]) (mvT hZ (tw hw 18 rfl))) (mvT hZ (tw hw 18 rfl)) (mvT hZ (tw hw 17 rfl)) (by decide) (backOf (W := 0) (rmU0 l Z a0 hw [] b685 b693 b694 (0 : Int32) (0 : Int32) (0 : Int32) (0 : Int32) (0 : Int32) (0 : Int32) (0 : Int32) (0 : Int32) T691.heap n0 z720 f712 f713 f714 f715 f716 f717 f718) hZ (tw hw 19 rfl) (tw hw 3 rfl) (by decide) (by decide)) q719a q719c (g := (mkF m 169 #[.val (.int p0), .val (.int p1), .val (.int p2), .val (.int p3), .val (.int p4), .val (.int p5), .val (.int (0 : Int32)), .val (.int k), .val (.int p2), .val (.int d1), .val (.int d2), .val (.int d3), .val (.int d4), .val (.int p4), .val (.int f1), .val (.int f2), .val (.int f3), .val (.int f4), .val (.ref b685), .unset, .unset, .unset, .unset, .unset] [(.ref b685)])) rfl (by rw [hml]; rfl) (Steps.refl _) (argsL := []) (rest := []) (lenOf pd__28_29Lcom_2fexample_2flibcosearch_2flibcosearch_2fPostingList_3b rfl) rfl (by show 2 * 0 + _ ≤ _; exact Nat.le_of_eq rfl) (hb hby at_169) (fun _ _ => ⟨rfl, e691, (by decide : 3 + 3 ≤ _), (by decide : 11 + 19 ≤ _)⟩)
    dsimp only [Pt.U, Pt.locs, Pt.cells, Pt.slots] at X719 l719 y719 z719 st719 hQ719
    subst l719 y719 z719
    obtain ⟨b721, b722, b723, rfl, N719q, K719q, fz_b721, fz_b722, fz_b723, f724, f725, f726, f727, f728, f729⟩ := hQ719
    have N719 := Fr.app N691 N719q
    refine Go.via (fun _ kQ => st719.trans kQ) ?_
    clear st719
    have ne730 : b685 ≠ b721 := Nat.ne_of_lt (Nat.lt_of_lt_of_le f711.lt fz_b721)
    have ne731 : b693 ≠ b721 := Nat.ne_of_lt (Nat.lt_of_lt_of_le f715.lt fz_b721)
    have ne732 : b694 ≠ b721 := Nat.ne_of_lt (Nat.lt_of_lt_of_le f716.lt fz_b721)
    have ge733 : n0 ≤ b721 := Nat.le_trans z720 fz_b721
    have k735 : Keep h0 T691.heap [] := (k707.trans K691q (allS (Or.inr sz687) all0))
    have sz734 : h0.size ≤ b721 := Nat.le_trans k735.1 fz_b721
    have ne736 : b685 ≠ b722 := Nat.ne_of_lt (Nat.lt_of_lt_of_le f711.lt fz_b722)
    have ne737 : b693 ≠ b722 := Nat.ne_of_lt (Nat.lt_of_lt_of_le f715.lt fz_b722)
    have ne738 : b694 ≠ b722 := Nat.ne_of_lt (Nat.lt_of_lt_of_le f716.lt fz_b722)
    have ge739 : n0 ≤ b722 := Nat.le_trans z720 fz_b722
    have sz740 : h0.size ≤ b722 := Nat.le_trans k735.1 fz_b722
    have ne741 : b685 ≠ b723 := Nat.ne_of_lt (Nat.lt_of_lt_of_le f711.lt fz_b723)
    have ne742 : b693 ≠ b723 := Nat.ne_of_lt (Nat.lt_of_lt_of_le f715.lt fz_b723)
    have ne743 : b694 ≠ b723 := Nat.ne_of_lt (Nat.lt_of_lt_of_le f716.lt fz_b723)
    have ge744 : n0 ≤ b723 := Nat.le_trans z720 fz_b723
    have sz745 : h0.size ≤ b723 := Nat.le_trans k735.1 fz_b723
    have e719 : T719.heap = T719.heap := rfl
    have f746 : Exa Z T719.heap b721 "com/example/libcosearch/libcosearch/PostingList" := f724
    have f747 : Fld Z T719.heap b721 "com/example/libcosearch/libcosearch/PostingList" "documents" "[I" (.ref b722) := f725
    have f748 : Fld Z T719.heap b721 "com/example/libcosearch/libcosearch/PostingList" "frequencies" "[I" (.ref b723) := f726
    have f749 : Fld Z T719.heap b721 "com/example/libcosearch/libcosearch/PostingList" "collectionFrequency" "J" (.long (0 : Int64)) := f727
    have f750 : Ia Z T719.heap b722 .int [] := f728
    have f751 : Ia Z T719.heap b723 .int [] := f729
    clear X691 e691
    show Go p e below (T719.setTop (mkF m 172 #[.val (.int p0), .val (.int p1), .val (.int p2), .val (.int p3), .val (.int p4), .val (.int p5), .val (.int (0 : Int32)), .val (.int k), .val (.int p2), .val (.int d1), .val (.int d2), .val (.int d3), .val (.int d4), .val (.int p4), .val (.int f1), .val (.int f2), .val (.int f3), .val (.int f4), .val (.ref b685), .unset, .unset, .unset, .unset, .unset] [(.ref b721)])) _
    refine Go.via (fun _ => XS.astore X719.here hx rfl (hb hby at_172) rfl rfl (l' := #[.val (.int p0), .val (.int p1), .val (.int p2), .val (.int p3), .val (.int p4), .val (.int p5), .val (.int (0 : Int32)), .val (.int k), .val (.int p2), .val (.int d1), .val (.int d2), .val (.int d3), .val (.int d4), .val (.int p4), .val (.int f1), .val (.int f2), .val (.int f3), .val (.int f4), .val (.ref b685), .val (.ref b721), .unset, .unset, .unset, .unset]) rfl) ?_
    show Go p e below (T719.setTop (mkF m 174 #[.val (.int p0), .val (.int p1), .val (.int p2), .val (.int p3), .val (.int p4), .val (.int p5), .val (.int (0 : Int32)), .val (.int k), .val (.int p2), .val (.int d1), .val (.int d2), .val (.int d3), .val (.int d4), .val (.int p4), .val (.int f1), .val (.int f2), .val (.int f3), .val (.int f4), .val (.ref b685), .val (.ref b721), .unset, .unset, .unset, .unset] [])) _
    refine Go.via (fun _ => XS.aload X719.here hx rfl (hb hby at_174) rfl rfl) ?_
    have z753 : n0 ≤ T719.heap.size := (Nat.le_trans z720 K719q.1)
    obtain ⟨cq752, kq752, q752a, q752b, q752c⟩ := isOf hZ e719 f746
    obtain ⟨_, _, ⟨T752, L752, k752, n752⟩, -, X752, ⟨Lc752, hQ752, l752, y752, z752⟩, st752⟩ := X719.virtualBack hx (y := (⟨"com/example/libcosearch/libcosearch/PostingList", "size", "()I"⟩ : MethodName)) (z := (⟨"com/example/libcosearch/libcosearch/PostingList", "size", "()I"⟩ : MethodName)) hown (mvT hZ (tw hw 47 rfl)) (mvT hZ (tw hw 48 rfl)) (notFace_of_selects (args := #[]) (mvT hZ (tw hw 50 rfl))) (mvT hZ (tw hw 50 rfl)) (mvT hZ (tw hw 49 rfl)) (by decide) (backOf (W := 0) (rmS l Z a0 hw [] b721 b722 [] T719.heap n0 z753 f747 f750) hZ (tw hw 51 rfl) (tw hw 22 rfl) (by decide) (by decide)) q752a q752c (g := (mkF m 176 #[.val (.int p0), .val (.int p1), .val (.int p2), .val (.int p3), .val (.int p4), .val (.int p5), .val (.int (0 : Int32)), .val (.int k), .val (.int p2), .val (.int d1), .val (.int d2), .val (.int d3), .val (.int d4), .val (.int p4), .val (.int f1), .val (.int f2), .val (.int f3), .val (.int f4), .val (.ref b685), .val (.ref b721), .unset, .unset, .unset, .unset] [(.ref b721)])) rfl (by rw [hml]; rfl) (Steps.refl _) (argsL := []) (rest := []) (lenOf pd__28_29I rfl) rfl (by show 2 * 0 + _ ≤ _; exact Nat.le_of_eq rfl) (hb hby at_176) (fun _ _ => ⟨rfl, e719, (by decide : 6 + 0 ≤ _), (by decide : 30 + 0 ≤ _)⟩)
    dsimp only [Pt.U, Pt.locs, Pt.cells, Pt.slots] at X752 l752 y752 z752 st752 hQ752
    subst l752 y752 z752
    obtain ⟨rfl, N752q, eh752⟩ := hQ752
    have N752 := Fr.app N719 N752q
    refine Go.via (fun _ kQ => st752.trans kQ) ?_
    clear st752
    have e752 : T752.heap = T719.heap := eh752
    clear X719 e719
    show Go p e below (T752.setTop (mkF m 179 #[.val (.int p0), .val (.int p1), .val (.int p2), .val (.int p3), .val (.int p4), .val (.int p5), .val (.int (0 : Int32)), .val (.int k), .val (.int p2), .val (.int d1), .val (.int d2), .val (.int d3), .val (.int d4), .val (.int p4), .val (.int f1), .val (.int f2), .val (.int f3), .val (.int f4), .val (.ref b685), .val (.ref b721), .unset, .unset, .unset, .unset] [(.int (0 : Int32))])) _
    refine Go.via (fun _ => XS.iload X752.here hx rfl (hb hby at_179) rfl) ?_
    refine Go.via (fun _ => XS.icmpYes X752.here hx rfl (pc0 := 181) (pc' := 186) rfl (hb hby at_181) rfl (teq ((by decide) : (0 : Int32) = (0 : Int32))).1 (by decide) (by decide)) ?_
    show Go p e below (T752.setTop (mkF m 186 #[.val (.int p0), .val (.int p1), .val (.int p2), .val (.int p3), .val (.int p4), .val (.int p5), .val (.int (0 : Int32)), .val (.int k), .val (.int p2), .val (.int d1), .val (.int d2), .val (.int d3), .val (.int d4), .val (.int p4), .val (.int f1), .val (.int f2), .val (.int f3), .val (.int f4), .val (.ref b685), .val (.ref b721), .unset, .unset, .unset, .unset] [])) _
    refine Go.via (fun _ => XS.lconst X752.here hx rfl (hb hby at_186)) ?_
    refine Go.via (fun _ => XS.lstore X752.here hx rfl (hb hby at_187) rfl (l' := #[.val (.int p0), .val (.int p1), .val (.int p2), .val (.int p3), .val (.int p4), .val (.int p5), .val (.int (0 : Int32)), .val (.int k), .val (.int p2), .val (.int d1), .val (.int d2), .val (.int d3), .val (.int d4), .val (.int p4), .val (.int f1), .val (.int f2), .val (.int f3), .val (.int f4), .val (.ref b685), .val (.ref b721), .val (.long (0 : Int64)), .second, .unset, .unset]) rfl) ?_
    show Go p e below (T752.setTop (mkF m 189 #[.val (.int p0), .val (.int p1), .val (.int p2), .val (.int p3), .val (.int p4), .val (.int p5), .val (.int (0 : Int32)), .val (.int k), .val (.int p2), .val (.int d1), .val (.int d2), .val (.int d3), .val (.int d4), .val (.int p4), .val (.int f1), .val (.int f2), .val (.int f3), .val (.int f4), .val (.ref b685), .val (.ref b721), .val (.long (0 : Int64)), .second, .unset, .unset] [])) _
    refine Go.via (fun _ => XS.iload X752.here hx rfl (hb hby at_189) rfl) ?_
    refine Go.via (fun _ => XS.ifYes X752.here hx rfl (pc0 := 191) (pc' := 202) rfl (hb hby at_191) rfl ((if0 _ _).trans (flt ((by decide) : ¬ ((0 : Int32) < (0 : Int32)))).2.2.2) (by decide) (by decide)) ?_
    show Go p e below (T752.setTop (mkF m 202 #[.val (.int p0), .val (.int p1), .val (.int p2), .val (.int p3), .val (.int p4), .val (.int p5), .val (.int (0 : Int32)), .val (.int k), .val (.int p2), .val (.int d1), .val (.int d2), .val (.int d3), .val (.int d4), .val (.int p4), .val (.int f1), .val (.int f2), .val (.int f3), .val (.int f4), .val (.ref b685), .val (.ref b721), .val (.long (0 : Int64)), .second, .unset, .unset] [])) _
    refine Go.via (fun _ => XS.iload X752.here hx rfl (hb hby at_202) rfl) ?_
    refine Go.via (fun _ => XS.iconst X752.here hx rfl (hb hby at_204)) ?_
    refine Go.via (fun _ => XS.icmpYes X752.here hx rfl (pc0 := 205) (pc' := 216) rfl (hb hby at_205) rfl (flt ((by decide) : ¬ ((1 : Int32) < (0 : Int32)))).2.2.2 (by decide) (by decide)) ?_
    show Go p e below (T752.setTop (mkF m 216 #[.val (.int p0), .val (.int p1), .val (.int p2), .val (.int p3), .val (.int p4), .val (.int p5), .val (.int (0 : Int32)), .val (.int k), .val (.int p2), .val (.int d1), .val (.int d2), .val (.int d3), .val (.int d4), .val (.int p4), .val (.int f1), .val (.int f2), .val (.int f3), .val (.int f4), .val (.ref b685), .val (.ref b721), .val (.long (0 : Int64)), .second, .unset, .unset] [])) _
    refine Go.via (fun _ => XS.iload X752.here hx rfl (hb hby at_216) rfl) ?_
    refine Go.via (fun _ => XS.iconst X752.here hx rfl (hb hby at_218)) ?_
    refine Go.via (fun _ => XS.icmpYes X752.here hx rfl (pc0 := 219) (pc' := 230) rfl (hb hby at_219) rfl (flt ((by decide) : ¬ ((2 : Int32) < (0 : Int32)))).2.2.2 (by decide) (by decide)) ?_
    show Go p e below (T752.setTop (mkF m 230 #[.val (.int p0), .val (.int p1), .val (.int p2), .val (.int p3), .val (.int p4), .val (.int p5), .val (.int (0 : Int32)), .val (.int k), .val (.int p2), .val (.int d1), .val (.int d2), .val (.int d3), .val (.int d4), .val (.int p4), .val (.int f1), .val (.int f2), .val (.int f3), .val (.int f4), .val (.ref b685), .val (.ref b721), .val (.long (0 : Int64)), .second, .unset, .unset] [])) _
    refine Go.via (fun _ => XS.iload X752.here hx rfl (hb hby at_230) rfl) ?_
    refine Go.via (fun _ => XS.iconst X752.here hx rfl (hb hby at_232)) ?_
    refine Go.via (fun _ => XS.icmpYes X752.here hx rfl (pc0 := 233) (pc' := 244) rfl (hb hby at_233) rfl (flt ((by decide) : ¬ ((3 : Int32) < (0 : Int32)))).2.2.2 (by decide) (by decide)) ?_
    show Go p e below (T752.setTop (mkF m 244 #[.val (.int p0), .val (.int p1), .val (.int p2), .val (.int p3), .val (.int p4), .val (.int p5), .val (.int (0 : Int32)), .val (.int k), .val (.int p2), .val (.int d1), .val (.int d2), .val (.int d3), .val (.int d4), .val (.int p4), .val (.int f1), .val (.int f2), .val (.int f3), .val (.int f4), .val (.ref b685), .val (.ref b721), .val (.long (0 : Int64)), .second, .unset, .unset] [])) _
    refine Go.via (fun _ => XS.iload X752.here hx rfl (hb hby at_244) rfl) ?_
    refine Go.via (fun _ => XS.iconst X752.here hx rfl (hb hby at_246)) ?_
    refine Go.via (fun _ => XS.icmpYes X752.here hx rfl (pc0 := 247) (pc' := 258) rfl (hb hby at_247) rfl (flt ((by decide) : ¬ ((4 : Int32) < (0 : Int32)))).2.2.2 (by decide) (by decide)) ?_
    show Go p e below (T752.setTop (mkF m 258 #[.val (.int p0), .val (.int p1), .val (.int p2), .val (.int p3), .val (.int p4), .val (.int p5), .val (.int (0 : Int32)), .val (.int k), .val (.int p2), .val (.int d1), .val (.int d2), .val (.int d3), .val (.int d4), .val (.int p4), .val (.int f1), .val (.int f2), .val (.int f3), .val (.int f4), .val (.ref b685), .val (.ref b721), .val (.long (0 : Int64)), .second, .unset, .unset] [])) _
    refine Go.via (fun _ => XS.aload X752.here hx rfl (hb hby at_258) rfl rfl) ?_
    obtain ⟨cq754, kq754, q754a, q754b, q754c⟩ := isOf hZ e752 f746
    obtain ⟨_, _, ⟨T754, L754, k754, n754⟩, -, X754, ⟨Lc754, hQ754, l754, y754, z754⟩, st754⟩ := X752.virtualBack hx (y := (⟨"com/example/libcosearch/libcosearch/PostingList", "collectionFrequency", "()J"⟩ : MethodName)) (z := (⟨"com/example/libcosearch/libcosearch/PostingList", "collectionFrequency", "()J"⟩ : MethodName)) hown (mvT hZ (tw hw 52 rfl)) (mvT hZ (tw hw 53 rfl)) (notFace_of_selects (args := #[]) (mvT hZ (tw hw 55 rfl))) (mvT hZ (tw hw 55 rfl)) (mvT hZ (tw hw 54 rfl)) (by decide) (backOf (W := 0) (rmF l Z a0 hw [] b721 (0 : Int64) T719.heap n0 z753 f749) hZ (tw hw 56 rfl) (tw hw 22 rfl) (by decide) (by decide)) q754a q754c (g := (mkF m 260 #[.val (.int p0), .val (.int p1), .val (.int p2), .val (.int p3), .val (.int p4), .val (.int p5), .val (.int (0 : Int32)), .val (.int k), .val (.int p2), .val (.int d1), .val (.int d2), .val (.int d3), .val (.int d4), .val (.int p4), .val (.int f1), .val (.int f2), .val (.int f3), .val (.int f4), .val (.ref b685), .val (.ref b721), .val (.long (0 : Int64)), .second, .unset, .unset] [(.ref b721)])) rfl (by rw [hml]; rfl) (Steps.refl _) (argsL := []) (rest := []) (lenOf pd__28_29J rfl) rfl (by show 2 * 0 + _ ≤ _; exact Nat.le_of_eq rfl) (hb hby at_260) (fun _ _ => ⟨rfl, e752, (by decide : 6 + 0 ≤ _), (by decide : 30 + 0 ≤ _)⟩)
    dsimp only [Pt.U, Pt.locs, Pt.cells, Pt.slots] at X754 l754 y754 z754 st754 hQ754
    subst l754 y754 z754
    obtain ⟨rfl, N754q, eh754⟩ := hQ754
    have N754 := Fr.app N752 N754q
    refine Go.via (fun _ kQ => st754.trans kQ) ?_
    clear st754
    have e754 : T754.heap = T719.heap := eh754
    clear X752 e752
    show Go p e below (T754.setTop (mkF m 263 #[.val (.int p0), .val (.int p1), .val (.int p2), .val (.int p3), .val (.int p4), .val (.int p5), .val (.int (0 : Int32)), .val (.int k), .val (.int p2), .val (.int d1), .val (.int d2), .val (.int d3), .val (.int d4), .val (.int p4), .val (.int f1), .val (.int f2), .val (.int f3), .val (.int f4), .val (.ref b685), .val (.ref b721), .val (.long (0 : Int64)), .second, .unset, .unset] [(.long (0 : Int64))])) _
    refine Go.via (fun _ => XS.lload X754.here hx rfl (hb hby at_263) rfl) ?_
    refine Go.via (fun _ => XS.lcmp X754.here hx rfl (hb hby at_265) rfl) ?_
    show Go p e below (T754.setTop (mkF m 266 #[.val (.int p0), .val (.int p1), .val (.int p2), .val (.int p3), .val (.int p4), .val (.int p5), .val (.int (0 : Int32)), .val (.int k), .val (.int p2), .val (.int d1), .val (.int d2), .val (.int d3), .val (.int d4), .val (.int p4), .val (.int f1), .val (.int f2), .val (.int f3), .val (.int f4), .val (.ref b685), .val (.ref b721), .val (.long (0 : Int64)), .second, .unset, .unset] [(.int (lcmpW (0 : Int64) (0 : Int64)))])) _
    refine Go.via (fun _ => XS.ifYes X754.here hx rfl (pc0 := 266) (pc' := 271) rfl (hb hby at_266) rfl ((if0 _ _).trans (teq ((own_lc _) : (lcmpW (0 : Int64) (0 : Int64)) = (0 : Int32))).1) (by decide) (by decide)) ?_
    have X754m := X754.more (by decide : _ ≤ 11) (by decide : _ ≤ 50)
    have k755 : Keep h0 T719.heap [] := (k735.trans K719q all0)
    exact J T754 _ T719.heap (0 : Int32) k d1 d2 d3 d4 f1 f2 f3 f4 b685 b721 (0 : Int64) b722 b723 [] [] X754m e754 N754 z753 k755 f746 f747 f748 f750 f751 (by intro q; rcases hk with rfl | rfl | rfl | rfl | rfl <;> first | exact absurd q (by decide) | exact ⟨by decide, rfl, rfl⟩)
  · show Go p e below (s₁.setTop (mkF m 84 #[.val (.int p0), .val (.int p1), .val (.int p2), .val (.int p3), .val (.int p4), .val (.int p5), .val (.int (1 : Int32)), .val (.int k), .val (.int p2), .val (.int d1), .val (.int d2), .val (.int d3), .val (.int d4), .val (.int p4), .val (.int f1), .val (.int f2), .val (.int f3), .val (.int f4), .unset, .unset, .unset, .unset, .unset, .unset] [])) _
    obtain ⟨T756, h756, X756, e756, E756, A756, D756, -, st756⟩ := newO X0 hx hZ hown (tw hw 1 rfl) (tw hw 2 rfl) (tw hw 3 rfl) e0 (g := (mkF m 84 #[.val (.int p0), .val (.int p1), .val (.int p2), .val (.int p3), .val (.int p4), .val (.int p5), .val (.int (1 : Int32)), .val (.int k), .val (.int p2), .val (.int d1), .val (.int d2), .val (.int d3), .val (.int d4), .val (.int p4), .val (.int f1), .val (.int f2), .val (.int f3), .val (.int f4), .unset, .unset, .unset, .unset, .unset, .unset] [])) rfl (hb hby at_84) (by decide) (by decide)
    obtain ⟨b756, g756⟩ : ∃ z, z = h0.size := ⟨_, rfl⟩
    rw [← g756] at A756 D756 st756
    have ge757 : n0 ≤ b756 := Nat.le_trans Z0 (Nat.le_of_eq g756.symm)
    have sz758 : h0.size ≤ b756 := Nat.le_trans (Keep.refl h0 []).1 (Nat.le_of_eq g756.symm)
    refine Go.via (st756) ?_
    clear st756
    have f759 : Fld Z h756 b756 "com/example/libcosearch/libcosearch/PostingList$Builder" "documents" "[I" .null := D756 (Or.inl (tw hw 12 rfl)) (ty := (.array .int)) (by decide)
    have f760 : Fld Z h756 b756 "com/example/libcosearch/libcosearch/PostingList$Builder" "frequencies" "[I" .null := D756 (Or.inl (tw hw 14 rfl)) (ty := (.array .int)) (by decide)
    have f761 : Fld Z h756 b756 "com/example/libcosearch/libcosearch/PostingList$Builder" "size" "I" (.int (0 : Int32)) := D756 (Or.inl (tw hw 24 rfl)) (ty := .int) (by decide)
    clear X0 e0
    show Go p e below (T756.setTop (mkF m 87 #[.val (.int p0), .val (.int p1), .val (.int p2), .val (.int p3), .val (.int p4), .val (.int p5), .val (.int (1 : Int32)), .val (.int k), .val (.int p2), .val (.int d1), .val (.int d2), .val (.int d3), .val (.int d4), .val (.int p4), .val (.int f1), .val (.int f2), .val (.int f3), .val (.int f4), .unset, .unset, .unset, .unset, .unset, .unset] [(.ref b756)])) _
    refine Go.via (fun _ => XS.dup X756.here hx rfl (hb hby at_87) rfl rfl) ?_
    have z763 : n0 ≤ h756.size := (Nat.le_trans Z0 E756.1)
    obtain ⟨_, _, ⟨T762, L762, k762, n762⟩, -, X762, ⟨Lc762, hQ762, l762, y762, z762⟩, st762⟩ := X756.specialBack hx (y := (⟨"com/example/libcosearch/libcosearch/PostingList$Builder", "<init>", "()V"⟩ : MethodName)) rfl hown (mvT hZ (tw hw 4 rfl)) (mvT hZ (tw hw 5 rfl)) (mvT hZ (tw hw 6 rfl)) (by decide) (backOf (W := 1) (rmB l Z a0 hw [] b756  h756 n0 z763 A756 f759 f760 f761 ge757) hZ (tw hw 6 rfl) (tw hw 3 rfl) (by decide) (by decide)) (g := (mkF m 88 #[.val (.int p0), .val (.int p1), .val (.int p2), .val (.int p3), .val (.int p4), .val (.int p5), .val (.int (1 : Int32)), .val (.int k), .val (.int p2), .val (.int d1), .val (.int d2), .val (.int d3), .val (.int d4), .val (.int p4), .val (.int f1), .val (.int f2), .val (.int f3), .val (.int f4), .unset, .unset, .unset, .unset, .unset, .unset] [(.ref b756), (.ref b756)])) rfl (by rw [hml]; rfl) (Steps.refl _) (a := b756) (argsL := []) (rest := [(.ref b756)]) (lenOf pd__28_29V rfl) rfl (by show 2 * 0 + _ ≤ _; exact Nat.le_of_eq rfl) (hb hby at_88) (fun _ _ => ⟨rfl, e756, (by decide : 1 + 2 ≤ _), (by decide : 3 + 8 ≤ _)⟩)
    dsimp only [Pt.U, Pt.locs, Pt.cells, Pt.slots] at X762 l762 y762 z762 st762 hQ762
    subst l762 y762 z762
    obtain ⟨b764, b765, rfl, N762q, K762q, fz_b764, fz_b765, f766, f767, f768, f769, f770, f771, f772, f773, qp774⟩ := hQ762
    have N762 := Fr.app N0 N762q
    refine Go.via (fun _ kQ => st762.trans kQ) ?_
    clear st762
    have ne775 : b756 ≠ b764 := Nat.ne_of_lt (Nat.lt_of_lt_of_le A756.lt fz_b764)
    have ge776 : n0 ≤ b764 := Nat.le_trans z763 fz_b764
    have k778 : Keep h0 h756 [] := ((Keep.refl h0 []).ext E756)
    have sz777 : h0.size ≤ b764 := Nat.le_trans k778.1 fz_b764
    have ne779 : b756 ≠ b765 := Nat.ne_of_lt (Nat.lt_of_lt_of_le A756.lt fz_b765)
    have ge780 : n0 ≤ b765 := Nat.le_trans z763 fz_b765
    have sz781 : h0.size ≤ b765 := Nat.le_trans k778.1 fz_b765
    have e762 : T762.heap = T762.heap := rfl
    have f782 : Exa Z T762.heap b756 "com/example/libcosearch/libcosearch/PostingList$Builder" := f766
    have f783 : Fld Z T762.heap b756 "com/example/libcosearch/libcosearch/PostingList$Builder" "documents" "[I" (.ref b764) := f767
    have f784 : Fld Z T762.heap b756 "com/example/libcosearch/libcosearch/PostingList$Builder" "frequencies" "[I" (.ref b765) := f768
    have f785 : Fld Z T762.heap b756 "com/example/libcosearch/libcosearch/PostingList$Builder" "size" "I" (.int (0 : Int32)) := f769
    have f786 : Ia Z T762.heap b764 .int [(0 : Int32), (0 : Int32), (0 : Int32), (0 : Int32)] := f770
    have f787 : Ia Z T762.heap b765 .int [(0 : Int32), (0 : Int32), (0 : Int32), (0 : Int32)] := f771
    have f788 : Exa Z T762.heap b764 "[I" := f772
    have f789 : Exa Z T762.heap b765 "[I" := f773
    clear X756 e756
    show Go p e below (T762.setTop (mkF m 91 #[.val (.int p0), .val (.int p1), .val (.int p2), .val (.int p3), .val (.int p4), .val (.int p5), .val (.int (1 : Int32)), .val (.int k), .val (.int p2), .val (.int d1), .val (.int d2), .val (.int d3), .val (.int d4), .val (.int p4), .val (.int f1), .val (.int f2), .val (.int f3), .val (.int f4), .unset, .unset, .unset, .unset, .unset, .unset] [(.ref b756)])) _
    refine Go.via (fun _ => XS.astore X762.here hx rfl (hb hby at_91) rfl rfl (l' := #[.val (.int p0), .val (.int p1), .val (.int p2), .val (.int p3), .val (.int p4), .val (.int p5), .val (.int (1 : Int32)), .val (.int k), .val (.int p2), .val (.int d1), .val (.int d2), .val (.int d3), .val (.int d4), .val (.int p4), .val (.int f1), .val (.int f2), .val (.int f3), .val (.int f4), .val (.ref b756), .unset, .unset, .unset, .unset, .unset]) rfl) ?_
    show Go p e below (T762.setTop (mkF m 93 #[.val (.int p0), .val (.int p1), .val (.int p2), .val (.int p3), .val (.int p4), .val (.int p5), .val (.int (1 : Int32)), .val (.int k), .val (.int p2), .val (.int d1), .val (.int d2), .val (.int d3), .val (.int d4), .val (.int p4), .val (.int f1), .val (.int f2), .val (.int f3), .val (.int f4), .val (.ref b756), .unset, .unset, .unset, .unset, .unset] [])) _
    refine Go.via (fun _ => XS.iload X762.here hx rfl (hb hby at_93) rfl) ?_
    refine Go.via (fun _ => XS.ifNo X762.here hx rfl (hb hby at_95) rfl ((if0 _ _).trans (tlt ((by decide) : (0 : Int32) < (1 : Int32))).2.2.2)) ?_
    show Go p e below (T762.setTop (mkF m 98 #[.val (.int p0), .val (.int p1), .val (.int p2), .val (.int p3), .val (.int p4), .val (.int p5), .val (.int (1 : Int32)), .val (.int k), .val (.int p2), .val (.int d1), .val (.int d2), .val (.int d3), .val (.int d4), .val (.int p4), .val (.int f1), .val (.int f2), .val (.int f3), .val (.int f4), .val (.ref b756), .unset, .unset, .unset, .unset, .unset] [])) _
    refine Go.via (fun _ => XS.aload X762.here hx rfl (hb hby at_98) rfl rfl) ?_
    refine Go.via (fun _ => XS.iload X762.here hx rfl (hb hby at_100) rfl) ?_
    refine Go.via (fun _ => XS.iload X762.here hx rfl (hb hby at_102) rfl) ?_
    have z791 : n0 ≤ T762.heap.size := (Nat.le_trans z763 K762q.1)
    obtain ⟨cq790, kq790, q790a, q790b, q790c⟩ := isOf hZ e762 f782
    obtain ⟨_, _, ⟨T790, L790, k790, n790⟩, -, X790, ⟨Lc790, hQ790, l790, y790, z790⟩, st790⟩ := X762.virtualBack hx (y := (⟨"com/example/libcosearch/libcosearch/PostingList$Builder", "add", "(II)V"⟩ : MethodName)) (z := (⟨"com/example/libcosearch/libcosearch/PostingList$Builder", "add", "(II)V"⟩ : MethodName)) hown (mvT hZ (tw hw 57 rfl)) (mvT hZ (tw hw 58 rfl)) (notFace_of_selects (args := #[]) (mvT hZ (tw hw 60 rfl))) (mvT hZ (tw hw 60 rfl)) (mvT hZ (tw hw 59 rfl)) (by decide) (backOf (W := 0) (rmA l Z a0 hw [] b756 p2 p4 b764 b765 [(0 : Int32), (0 : Int32), (0 : Int32), (0 : Int32)] [(0 : Int32), (0 : Int32), (0 : Int32), (0 : Int32)] (0 : Int32) T762.heap n0 z791 f782 f783 f784 f785 f786 f787 ge757 ge776 ge780 ne775 ne779 qp774 (by first | decide | (simp only [List.length_cons, List.length_nil]; decide) | rfl) (by first | decide | (simp only [List.length_cons, List.length_nil]; decide) | rfl) (by first | decide | (simp only [List.length_cons, List.length_nil]; decide) | rfl) (by first | decide | (simp only [List.length_cons, List.length_nil]; decide) | rfl)) hZ (tw hw 61 rfl) (tw hw 3 rfl) (by decide) (by decide)) q790a q790c (g := (mkF m 104 #[.val (.int p0), .val (.int p1), .val (.int p2), .val (.int p3), .val (.int p4), .val (.int p5), .val (.int (1 : Int32)), .val (.int k), .val (.int p2), .val (.int d1), .val (.int d2), .val (.int d3), .val (.int d4), .val (.int p4), .val (.int f1), .val (.int f2), .val (.int f3), .val (.int f4), .val (.ref b756), .unset, .unset, .unset, .unset, .unset] [(.int p4), (.int p2), (.ref b756)])) rfl (by rw [hml]; rfl) (Steps.refl _) (argsL := [(.int p2), (.int p4)]) (rest := []) (lenOf pd__28II_29V rfl) rfl (by show 2 * 0 + _ ≤ _; exact Nat.le_of_eq rfl) (hb hby at_104) (fun _ _ => ⟨rfl, e762, (by decide : 3 + 0 ≤ _), (by decide : 11 + 0 ≤ _)⟩)
    dsimp only [Pt.U, Pt.locs, Pt.cells, Pt.slots] at X790 l790 y790 z790 st790 hQ790
    subst l790 y790 z790
    obtain ⟨rfl, N790q, K790q, f792, f793, f794, f795, f796, f797⟩ := hQ790
    have N790 := Fr.app N762 N790q
    refine Go.via (fun _ kQ => st790.trans kQ) ?_
    clear st790
    have e790 : T790.heap = T790.heap := rfl
    have f798 : Exa Z T790.heap b756 "com/example/libcosearch/libcosearch/PostingList$Builder" := f792
    have f799 : Fld Z T790.heap b756 "com/example/libcosearch/libcosearch/PostingList$Builder" "documents" "[I" (.ref b764) := f793
    have f800 : Fld Z T790.heap b756 "com/example/libcosearch/libcosearch/PostingList$Builder" "frequencies" "[I" (.ref b765) := f794
    have f801 : Fld Z T790.heap b756 "com/example/libcosearch/libcosearch/PostingList$Builder" "size" "I" (.int (1 : Int32)) := f795
    have f802 : Ia Z T790.heap b764 .int [p2, (0 : Int32), (0 : Int32), (0 : Int32)] := f796
    have f803 : Ia Z T790.heap b765 .int [p4, (0 : Int32), (0 : Int32), (0 : Int32)] := f797
    clear X762 e762
    show Go p e below (T790.setTop (mkF m 107 #[.val (.int p0), .val (.int p1), .val (.int p2), .val (.int p3), .val (.int p4), .val (.int p5), .val (.int (1 : Int32)), .val (.int k), .val (.int p2), .val (.int d1), .val (.int d2), .val (.int d3), .val (.int d4), .val (.int p4), .val (.int f1), .val (.int f2), .val (.int f3), .val (.int f4), .val (.ref b756), .unset, .unset, .unset, .unset, .unset] [])) _
    refine Go.via (fun _ => XS.iload X790.here hx rfl (hb hby at_107) rfl) ?_
    refine Go.via (fun _ => XS.iconst X790.here hx rfl (hb hby at_109)) ?_
    refine Go.via (fun _ => XS.icmpYes X790.here hx rfl (pc0 := 110) (pc' := 122) rfl (hb hby at_110) rfl (flt ((by decide) : ¬ ((1 : Int32) < (1 : Int32)))).2.2.2 (by decide) (by decide)) ?_
    show Go p e below (T790.setTop (mkF m 122 #[.val (.int p0), .val (.int p1), .val (.int p2), .val (.int p3), .val (.int p4), .val (.int p5), .val (.int (1 : Int32)), .val (.int k), .val (.int p2), .val (.int d1), .val (.int d2), .val (.int d3), .val (.int d4), .val (.int p4), .val (.int f1), .val (.int f2), .val (.int f3), .val (.int f4), .val (.ref b756), .unset, .unset, .unset, .unset, .unset] [])) _
    refine Go.via (fun _ => XS.iload X790.here hx rfl (hb hby at_122) rfl) ?_
    refine Go.via (fun _ => XS.iconst X790.here hx rfl (hb hby at_124)) ?_
    refine Go.via (fun _ => XS.icmpYes X790.here hx rfl (pc0 := 125) (pc' := 137) rfl (hb hby at_125) rfl (flt ((by decide) : ¬ ((2 : Int32) < (1 : Int32)))).2.2.2 (by decide) (by decide)) ?_
    show Go p e below (T790.setTop (mkF m 137 #[.val (.int p0), .val (.int p1), .val (.int p2), .val (.int p3), .val (.int p4), .val (.int p5), .val (.int (1 : Int32)), .val (.int k), .val (.int p2), .val (.int d1), .val (.int d2), .val (.int d3), .val (.int d4), .val (.int p4), .val (.int f1), .val (.int f2), .val (.int f3), .val (.int f4), .val (.ref b756), .unset, .unset, .unset, .unset, .unset] [])) _
    refine Go.via (fun _ => XS.iload X790.here hx rfl (hb hby at_137) rfl) ?_
    refine Go.via (fun _ => XS.iconst X790.here hx rfl (hb hby at_139)) ?_
    refine Go.via (fun _ => XS.icmpYes X790.here hx rfl (pc0 := 140) (pc' := 152) rfl (hb hby at_140) rfl (flt ((by decide) : ¬ ((3 : Int32) < (1 : Int32)))).2.2.2 (by decide) (by decide)) ?_
    show Go p e below (T790.setTop (mkF m 152 #[.val (.int p0), .val (.int p1), .val (.int p2), .val (.int p3), .val (.int p4), .val (.int p5), .val (.int (1 : Int32)), .val (.int k), .val (.int p2), .val (.int d1), .val (.int d2), .val (.int d3), .val (.int d4), .val (.int p4), .val (.int f1), .val (.int f2), .val (.int f3), .val (.int f4), .val (.ref b756), .unset, .unset, .unset, .unset, .unset] [])) _
    refine Go.via (fun _ => XS.iload X790.here hx rfl (hb hby at_152) rfl) ?_
    refine Go.via (fun _ => XS.iconst X790.here hx rfl (hb hby at_154)) ?_
    refine Go.via (fun _ => XS.icmpYes X790.here hx rfl (pc0 := 155) (pc' := 167) rfl (hb hby at_155) rfl (flt ((by decide) : ¬ ((4 : Int32) < (1 : Int32)))).2.2.2 (by decide) (by decide)) ?_
    show Go p e below (T790.setTop (mkF m 167 #[.val (.int p0), .val (.int p1), .val (.int p2), .val (.int p3), .val (.int p4), .val (.int p5), .val (.int (1 : Int32)), .val (.int k), .val (.int p2), .val (.int d1), .val (.int d2), .val (.int d3), .val (.int d4), .val (.int p4), .val (.int f1), .val (.int f2), .val (.int f3), .val (.int f4), .val (.ref b756), .unset, .unset, .unset, .unset, .unset] [])) _
    refine Go.via (fun _ => XS.aload X790.here hx rfl (hb hby at_167) rfl rfl) ?_
    have f804 : Exa Z T790.heap b764 "[I" := (f788.keep K790q)
    have f805 : Exa Z T790.heap b765 "[I" := (f789.keep K790q)
    have z807 : n0 ≤ T790.heap.size := (Nat.le_trans z791 K790q.1)
    obtain ⟨cq806, kq806, q806a, q806b, q806c⟩ := isOf hZ e790 f798
    obtain ⟨_, _, ⟨T806, L806, k806, n806⟩, -, X806, ⟨Lc806, hQ806, l806, y806, z806⟩, st806⟩ := X790.virtualBack hx (y := (⟨"com/example/libcosearch/libcosearch/PostingList$Builder", "build", "()Lcom/example/libcosearch/libcosearch/PostingList;"⟩ : MethodName)) (z := (⟨"com/example/libcosearch/libcosearch/PostingList$Builder", "build", "()Lcom/example/libcosearch/libcosearch/PostingList;"⟩ : MethodName)) hown (mvT hZ (tw hw 15 rfl)) (mvT hZ (tw hw 16 rfl)) (notFace_of_selects (args := #[]) (mvT hZ (tw hw 18 rfl))) (mvT hZ (tw hw 18 rfl)) (mvT hZ (tw hw 17 rfl)) (by decide) (backOf (W := 0) (rmU1 l Z a0 hw [] b756 b764 b765 p2 (0 : Int32) (0 : Int32) (0 : Int32) p4 (0 : Int32) (0 : Int32) (0 : Int32) T790.heap n0 z807 f799 f800 f801 f802 f803 f804 f805) hZ (tw hw 19 rfl) (tw hw 3 rfl) (by decide) (by decide)) q806a q806c (g := (mkF m 169 #[.val (.int p0), .val (.int p1), .val (.int p2), .val (.int p3), .val (.int p4), .val (.int p5), .val (.int (1 : Int32)), .val (.int k), .val (.int p2), .val (.int d1), .val (.int d2), .val (.int d3), .val (.int d4), .val (.int p4), .val (.int f1), .val (.int f2), .val (.int f3), .val (.int f4), .val (.ref b756), .unset, .unset, .unset, .unset, .unset] [(.ref b756)])) rfl (by rw [hml]; rfl) (Steps.refl _) (argsL := []) (rest := []) (lenOf pd__28_29Lcom_2fexample_2flibcosearch_2flibcosearch_2fPostingList_3b rfl) rfl (by show 2 * 0 + _ ≤ _; exact Nat.le_of_eq rfl) (hb hby at_169) (fun _ _ => ⟨rfl, e790, (by decide : 3 + 3 ≤ _), (by decide : 11 + 19 ≤ _)⟩)
    dsimp only [Pt.U, Pt.locs, Pt.cells, Pt.slots] at X806 l806 y806 z806 st806 hQ806
    subst l806 y806 z806
    obtain ⟨b808, b809, b810, rfl, N806q, K806q, fz_b808, fz_b809, fz_b810, f811, f812, f813, f814, f815, f816⟩ := hQ806
    have N806 := Fr.app N790 N806q
    refine Go.via (fun _ kQ => st806.trans kQ) ?_
    clear st806
    have ne817 : b756 ≠ b808 := Nat.ne_of_lt (Nat.lt_of_lt_of_le f798.lt fz_b808)
    have ne818 : b764 ≠ b808 := Nat.ne_of_lt (Nat.lt_of_lt_of_le f802.lt fz_b808)
    have ne819 : b765 ≠ b808 := Nat.ne_of_lt (Nat.lt_of_lt_of_le f803.lt fz_b808)
    have ge820 : n0 ≤ b808 := Nat.le_trans z807 fz_b808
    have k822 : Keep h0 T790.heap [] := ((k778.trans K762q (allS (Or.inr sz758) all0)).trans K790q (allS (Or.inr sz758) (allS (Or.inr sz777) (allS (Or.inr sz781) all0))))
    have sz821 : h0.size ≤ b808 := Nat.le_trans k822.1 fz_b808
    have ne823 : b756 ≠ b809 := Nat.ne_of_lt (Nat.lt_of_lt_of_le f798.lt fz_b809)
    have ne824 : b764 ≠ b809 := Nat.ne_of_lt (Nat.lt_of_lt_of_le f802.lt fz_b809)
    have ne825 : b765 ≠ b809 := Nat.ne_of_lt (Nat.lt_of_lt_of_le f803.lt fz_b809)
    have ge826 : n0 ≤ b809 := Nat.le_trans z807 fz_b809
    have sz827 : h0.size ≤ b809 := Nat.le_trans k822.1 fz_b809
    have ne828 : b756 ≠ b810 := Nat.ne_of_lt (Nat.lt_of_lt_of_le f798.lt fz_b810)
    have ne829 : b764 ≠ b810 := Nat.ne_of_lt (Nat.lt_of_lt_of_le f802.lt fz_b810)
    have ne830 : b765 ≠ b810 := Nat.ne_of_lt (Nat.lt_of_lt_of_le f803.lt fz_b810)
    have ge831 : n0 ≤ b810 := Nat.le_trans z807 fz_b810
    have sz832 : h0.size ≤ b810 := Nat.le_trans k822.1 fz_b810
    have e806 : T806.heap = T806.heap := rfl
    have f833 : Exa Z T806.heap b808 "com/example/libcosearch/libcosearch/PostingList" := f811
    have f834 : Fld Z T806.heap b808 "com/example/libcosearch/libcosearch/PostingList" "documents" "[I" (.ref b809) := f812
    have f835 : Fld Z T806.heap b808 "com/example/libcosearch/libcosearch/PostingList" "frequencies" "[I" (.ref b810) := f813
    have f836 : Fld Z T806.heap b808 "com/example/libcosearch/libcosearch/PostingList" "collectionFrequency" "J" (.long ((0 : Int64) + (p4.toInt64))) := f814
    have f837 : Ia Z T806.heap b809 .int [p2] := f815
    have f838 : Ia Z T806.heap b810 .int [p4] := f816
    clear X790 e790
    show Go p e below (T806.setTop (mkF m 172 #[.val (.int p0), .val (.int p1), .val (.int p2), .val (.int p3), .val (.int p4), .val (.int p5), .val (.int (1 : Int32)), .val (.int k), .val (.int p2), .val (.int d1), .val (.int d2), .val (.int d3), .val (.int d4), .val (.int p4), .val (.int f1), .val (.int f2), .val (.int f3), .val (.int f4), .val (.ref b756), .unset, .unset, .unset, .unset, .unset] [(.ref b808)])) _
    refine Go.via (fun _ => XS.astore X806.here hx rfl (hb hby at_172) rfl rfl (l' := #[.val (.int p0), .val (.int p1), .val (.int p2), .val (.int p3), .val (.int p4), .val (.int p5), .val (.int (1 : Int32)), .val (.int k), .val (.int p2), .val (.int d1), .val (.int d2), .val (.int d3), .val (.int d4), .val (.int p4), .val (.int f1), .val (.int f2), .val (.int f3), .val (.int f4), .val (.ref b756), .val (.ref b808), .unset, .unset, .unset, .unset]) rfl) ?_
    show Go p e below (T806.setTop (mkF m 174 #[.val (.int p0), .val (.int p1), .val (.int p2), .val (.int p3), .val (.int p4), .val (.int p5), .val (.int (1 : Int32)), .val (.int k), .val (.int p2), .val (.int d1), .val (.int d2), .val (.int d3), .val (.int d4), .val (.int p4), .val (.int f1), .val (.int f2), .val (.int f3), .val (.int f4), .val (.ref b756), .val (.ref b808), .unset, .unset, .unset, .unset] [])) _
    refine Go.via (fun _ => XS.aload X806.here hx rfl (hb hby at_174) rfl rfl) ?_
    have z840 : n0 ≤ T806.heap.size := (Nat.le_trans z807 K806q.1)
    obtain ⟨cq839, kq839, q839a, q839b, q839c⟩ := isOf hZ e806 f833
    obtain ⟨_, _, ⟨T839, L839, k839, n839⟩, -, X839, ⟨Lc839, hQ839, l839, y839, z839⟩, st839⟩ := X806.virtualBack hx (y := (⟨"com/example/libcosearch/libcosearch/PostingList", "size", "()I"⟩ : MethodName)) (z := (⟨"com/example/libcosearch/libcosearch/PostingList", "size", "()I"⟩ : MethodName)) hown (mvT hZ (tw hw 47 rfl)) (mvT hZ (tw hw 48 rfl)) (notFace_of_selects (args := #[]) (mvT hZ (tw hw 50 rfl))) (mvT hZ (tw hw 50 rfl)) (mvT hZ (tw hw 49 rfl)) (by decide) (backOf (W := 0) (rmS l Z a0 hw [] b808 b809 [p2] T806.heap n0 z840 f834 f837) hZ (tw hw 51 rfl) (tw hw 22 rfl) (by decide) (by decide)) q839a q839c (g := (mkF m 176 #[.val (.int p0), .val (.int p1), .val (.int p2), .val (.int p3), .val (.int p4), .val (.int p5), .val (.int (1 : Int32)), .val (.int k), .val (.int p2), .val (.int d1), .val (.int d2), .val (.int d3), .val (.int d4), .val (.int p4), .val (.int f1), .val (.int f2), .val (.int f3), .val (.int f4), .val (.ref b756), .val (.ref b808), .unset, .unset, .unset, .unset] [(.ref b808)])) rfl (by rw [hml]; rfl) (Steps.refl _) (argsL := []) (rest := []) (lenOf pd__28_29I rfl) rfl (by show 2 * 0 + _ ≤ _; exact Nat.le_of_eq rfl) (hb hby at_176) (fun _ _ => ⟨rfl, e806, (by decide : 6 + 0 ≤ _), (by decide : 30 + 0 ≤ _)⟩)
    dsimp only [Pt.U, Pt.locs, Pt.cells, Pt.slots] at X839 l839 y839 z839 st839 hQ839
    subst l839 y839 z839
    obtain ⟨rfl, N839q, eh839⟩ := hQ839
    have N839 := Fr.app N806 N839q
    refine Go.via (fun _ kQ => st839.trans kQ) ?_
    clear st839
    have e839 : T839.heap = T806.heap := eh839
    clear X806 e806
    show Go p e below (T839.setTop (mkF m 179 #[.val (.int p0), .val (.int p1), .val (.int p2), .val (.int p3), .val (.int p4), .val (.int p5), .val (.int (1 : Int32)), .val (.int k), .val (.int p2), .val (.int d1), .val (.int d2), .val (.int d3), .val (.int d4), .val (.int p4), .val (.int f1), .val (.int f2), .val (.int f3), .val (.int f4), .val (.ref b756), .val (.ref b808), .unset, .unset, .unset, .unset] [(.int (1 : Int32))])) _
    refine Go.via (fun _ => XS.iload X839.here hx rfl (hb hby at_179) rfl) ?_
    refine Go.via (fun _ => XS.icmpYes X839.here hx rfl (pc0 := 181) (pc' := 186) rfl (hb hby at_181) rfl (teq ((by decide) : (1 : Int32) = (1 : Int32))).1 (by decide) (by decide)) ?_
    show Go p e below (T839.setTop (mkF m 186 #[.val (.int p0), .val (.int p1), .val (.int p2), .val (.int p3), .val (.int p4), .val (.int p5), .val (.int (1 : Int32)), .val (.int k), .val (.int p2), .val (.int d1), .val (.int d2), .val (.int d3), .val (.int d4), .val (.int p4), .val (.int f1), .val (.int f2), .val (.int f3), .val (.int f4), .val (.ref b756), .val (.ref b808), .unset, .unset, .unset, .unset] [])) _
    refine Go.via (fun _ => XS.lconst X839.here hx rfl (hb hby at_186)) ?_
    refine Go.via (fun _ => XS.lstore X839.here hx rfl (hb hby at_187) rfl (l' := #[.val (.int p0), .val (.int p1), .val (.int p2), .val (.int p3), .val (.int p4), .val (.int p5), .val (.int (1 : Int32)), .val (.int k), .val (.int p2), .val (.int d1), .val (.int d2), .val (.int d3), .val (.int d4), .val (.int p4), .val (.int f1), .val (.int f2), .val (.int f3), .val (.int f4), .val (.ref b756), .val (.ref b808), .val (.long (0 : Int64)), .second, .unset, .unset]) rfl) ?_
    show Go p e below (T839.setTop (mkF m 189 #[.val (.int p0), .val (.int p1), .val (.int p2), .val (.int p3), .val (.int p4), .val (.int p5), .val (.int (1 : Int32)), .val (.int k), .val (.int p2), .val (.int d1), .val (.int d2), .val (.int d3), .val (.int d4), .val (.int p4), .val (.int f1), .val (.int f2), .val (.int f3), .val (.int f4), .val (.ref b756), .val (.ref b808), .val (.long (0 : Int64)), .second, .unset, .unset] [])) _
    refine Go.via (fun _ => XS.iload X839.here hx rfl (hb hby at_189) rfl) ?_
    refine Go.via (fun _ => XS.ifNo X839.here hx rfl (hb hby at_191) rfl ((if0 _ _).trans (tlt ((by decide) : (0 : Int32) < (1 : Int32))).2.2.2)) ?_
    show Go p e below (T839.setTop (mkF m 194 #[.val (.int p0), .val (.int p1), .val (.int p2), .val (.int p3), .val (.int p4), .val (.int p5), .val (.int (1 : Int32)), .val (.int k), .val (.int p2), .val (.int d1), .val (.int d2), .val (.int d3), .val (.int d4), .val (.int p4), .val (.int f1), .val (.int f2), .val (.int f3), .val (.int f4), .val (.ref b756), .val (.ref b808), .val (.long (0 : Int64)), .second, .unset, .unset] [])) _
    refine Go.via (fun _ => XS.lload X839.here hx rfl (hb hby at_194) rfl) ?_
    refine Go.via (fun _ => XS.iload X839.here hx rfl (hb hby at_196) rfl) ?_
    refine Go.via (fun _ => XS.i2l X839.here hx rfl (hb hby at_198) rfl) ?_
    show Go p e below (T839.setTop (mkF m 199 #[.val (.int p0), .val (.int p1), .val (.int p2), .val (.int p3), .val (.int p4), .val (.int p5), .val (.int (1 : Int32)), .val (.int k), .val (.int p2), .val (.int d1), .val (.int d2), .val (.int d3), .val (.int d4), .val (.int p4), .val (.int f1), .val (.int f2), .val (.int f3), .val (.int f4), .val (.ref b756), .val (.ref b808), .val (.long (0 : Int64)), .second, .unset, .unset] [(.long (p4.toInt64)), (.long (0 : Int64))])) _
    refine Go.via (fun _ => XS.ladd X839.here hx rfl (hb hby at_199) rfl) ?_
    show Go p e below (T839.setTop (mkF m 200 #[.val (.int p0), .val (.int p1), .val (.int p2), .val (.int p3), .val (.int p4), .val (.int p5), .val (.int (1 : Int32)), .val (.int k), .val (.int p2), .val (.int d1), .val (.int d2), .val (.int d3), .val (.int d4), .val (.int p4), .val (.int f1), .val (.int f2), .val (.int f3), .val (.int f4), .val (.ref b756), .val (.ref b808), .val (.long (0 : Int64)), .second, .unset, .unset] [(.long ((0 : Int64) + (p4.toInt64)))])) _
    refine Go.via (fun _ => XS.lstore X839.here hx rfl (hb hby at_200) rfl (l' := #[.val (.int p0), .val (.int p1), .val (.int p2), .val (.int p3), .val (.int p4), .val (.int p5), .val (.int (1 : Int32)), .val (.int k), .val (.int p2), .val (.int d1), .val (.int d2), .val (.int d3), .val (.int d4), .val (.int p4), .val (.int f1), .val (.int f2), .val (.int f3), .val (.int f4), .val (.ref b756), .val (.ref b808), .val (.long ((0 : Int64) + (p4.toInt64))), .second, .unset, .unset]) rfl) ?_
    show Go p e below (T839.setTop (mkF m 202 #[.val (.int p0), .val (.int p1), .val (.int p2), .val (.int p3), .val (.int p4), .val (.int p5), .val (.int (1 : Int32)), .val (.int k), .val (.int p2), .val (.int d1), .val (.int d2), .val (.int d3), .val (.int d4), .val (.int p4), .val (.int f1), .val (.int f2), .val (.int f3), .val (.int f4), .val (.ref b756), .val (.ref b808), .val (.long ((0 : Int64) + (p4.toInt64))), .second, .unset, .unset] [])) _
    refine Go.via (fun _ => XS.iload X839.here hx rfl (hb hby at_202) rfl) ?_
    refine Go.via (fun _ => XS.iconst X839.here hx rfl (hb hby at_204)) ?_
    refine Go.via (fun _ => XS.icmpYes X839.here hx rfl (pc0 := 205) (pc' := 216) rfl (hb hby at_205) rfl (flt ((by decide) : ¬ ((1 : Int32) < (1 : Int32)))).2.2.2 (by decide) (by decide)) ?_
    show Go p e below (T839.setTop (mkF m 216 #[.val (.int p0), .val (.int p1), .val (.int p2), .val (.int p3), .val (.int p4), .val (.int p5), .val (.int (1 : Int32)), .val (.int k), .val (.int p2), .val (.int d1), .val (.int d2), .val (.int d3), .val (.int d4), .val (.int p4), .val (.int f1), .val (.int f2), .val (.int f3), .val (.int f4), .val (.ref b756), .val (.ref b808), .val (.long ((0 : Int64) + (p4.toInt64))), .second, .unset, .unset] [])) _
    refine Go.via (fun _ => XS.iload X839.here hx rfl (hb hby at_216) rfl) ?_
    refine Go.via (fun _ => XS.iconst X839.here hx rfl (hb hby at_218)) ?_
    refine Go.via (fun _ => XS.icmpYes X839.here hx rfl (pc0 := 219) (pc' := 230) rfl (hb hby at_219) rfl (flt ((by decide) : ¬ ((2 : Int32) < (1 : Int32)))).2.2.2 (by decide) (by decide)) ?_
    show Go p e below (T839.setTop (mkF m 230 #[.val (.int p0), .val (.int p1), .val (.int p2), .val (.int p3), .val (.int p4), .val (.int p5), .val (.int (1 : Int32)), .val (.int k), .val (.int p2), .val (.int d1), .val (.int d2), .val (.int d3), .val (.int d4), .val (.int p4), .val (.int f1), .val (.int f2), .val (.int f3), .val (.int f4), .val (.ref b756), .val (.ref b808), .val (.long ((0 : Int64) + (p4.toInt64))), .second, .unset, .unset] [])) _
    refine Go.via (fun _ => XS.iload X839.here hx rfl (hb hby at_230) rfl) ?_
    refine Go.via (fun _ => XS.iconst X839.here hx rfl (hb hby at_232)) ?_
    refine Go.via (fun _ => XS.icmpYes X839.here hx rfl (pc0 := 233) (pc' := 244) rfl (hb hby at_233) rfl (flt ((by decide) : ¬ ((3 : Int32) < (1 : Int32)))).2.2.2 (by decide) (by decide)) ?_
    show Go p e below (T839.setTop (mkF m 244 #[.val (.int p0), .val (.int p1), .val (.int p2), .val (.int p3), .val (.int p4), .val (.int p5), .val (.int (1 : Int32)), .val (.int k), .val (.int p2), .val (.int d1), .val (.int d2), .val (.int d3), .val (.int d4), .val (.int p4), .val (.int f1), .val (.int f2), .val (.int f3), .val (.int f4), .val (.ref b756), .val (.ref b808), .val (.long ((0 : Int64) + (p4.toInt64))), .second, .unset, .unset] [])) _
    refine Go.via (fun _ => XS.iload X839.here hx rfl (hb hby at_244) rfl) ?_
    refine Go.via (fun _ => XS.iconst X839.here hx rfl (hb hby at_246)) ?_
    refine Go.via (fun _ => XS.icmpYes X839.here hx rfl (pc0 := 247) (pc' := 258) rfl (hb hby at_247) rfl (flt ((by decide) : ¬ ((4 : Int32) < (1 : Int32)))).2.2.2 (by decide) (by decide)) ?_
    show Go p e below (T839.setTop (mkF m 258 #[.val (.int p0), .val (.int p1), .val (.int p2), .val (.int p3), .val (.int p4), .val (.int p5), .val (.int (1 : Int32)), .val (.int k), .val (.int p2), .val (.int d1), .val (.int d2), .val (.int d3), .val (.int d4), .val (.int p4), .val (.int f1), .val (.int f2), .val (.int f3), .val (.int f4), .val (.ref b756), .val (.ref b808), .val (.long ((0 : Int64) + (p4.toInt64))), .second, .unset, .unset] [])) _
    refine Go.via (fun _ => XS.aload X839.here hx rfl (hb hby at_258) rfl rfl) ?_
    obtain ⟨cq841, kq841, q841a, q841b, q841c⟩ := isOf hZ e839 f833
    obtain ⟨_, _, ⟨T841, L841, k841, n841⟩, -, X841, ⟨Lc841, hQ841, l841, y841, z841⟩, st841⟩ := X839.virtualBack hx (y := (⟨"com/example/libcosearch/libcosearch/PostingList", "collectionFrequency", "()J"⟩ : MethodName)) (z := (⟨"com/example/libcosearch/libcosearch/PostingList", "collectionFrequency", "()J"⟩ : MethodName)) hown (mvT hZ (tw hw 52 rfl)) (mvT hZ (tw hw 53 rfl)) (notFace_of_selects (args := #[]) (mvT hZ (tw hw 55 rfl))) (mvT hZ (tw hw 55 rfl)) (mvT hZ (tw hw 54 rfl)) (by decide) (backOf (W := 0) (rmF l Z a0 hw [] b808 ((0 : Int64) + (p4.toInt64)) T806.heap n0 z840 f836) hZ (tw hw 56 rfl) (tw hw 22 rfl) (by decide) (by decide)) q841a q841c (g := (mkF m 260 #[.val (.int p0), .val (.int p1), .val (.int p2), .val (.int p3), .val (.int p4), .val (.int p5), .val (.int (1 : Int32)), .val (.int k), .val (.int p2), .val (.int d1), .val (.int d2), .val (.int d3), .val (.int d4), .val (.int p4), .val (.int f1), .val (.int f2), .val (.int f3), .val (.int f4), .val (.ref b756), .val (.ref b808), .val (.long ((0 : Int64) + (p4.toInt64))), .second, .unset, .unset] [(.ref b808)])) rfl (by rw [hml]; rfl) (Steps.refl _) (argsL := []) (rest := []) (lenOf pd__28_29J rfl) rfl (by show 2 * 0 + _ ≤ _; exact Nat.le_of_eq rfl) (hb hby at_260) (fun _ _ => ⟨rfl, e839, (by decide : 6 + 0 ≤ _), (by decide : 30 + 0 ≤ _)⟩)
    dsimp only [Pt.U, Pt.locs, Pt.cells, Pt.slots] at X841 l841 y841 z841 st841 hQ841
    subst l841 y841 z841
    obtain ⟨rfl, N841q, eh841⟩ := hQ841
    have N841 := Fr.app N839 N841q
    refine Go.via (fun _ kQ => st841.trans kQ) ?_
    clear st841
    have e841 : T841.heap = T806.heap := eh841
    clear X839 e839
    show Go p e below (T841.setTop (mkF m 263 #[.val (.int p0), .val (.int p1), .val (.int p2), .val (.int p3), .val (.int p4), .val (.int p5), .val (.int (1 : Int32)), .val (.int k), .val (.int p2), .val (.int d1), .val (.int d2), .val (.int d3), .val (.int d4), .val (.int p4), .val (.int f1), .val (.int f2), .val (.int f3), .val (.int f4), .val (.ref b756), .val (.ref b808), .val (.long ((0 : Int64) + (p4.toInt64))), .second, .unset, .unset] [(.long ((0 : Int64) + (p4.toInt64)))])) _
    refine Go.via (fun _ => XS.lload X841.here hx rfl (hb hby at_263) rfl) ?_
    refine Go.via (fun _ => XS.lcmp X841.here hx rfl (hb hby at_265) rfl) ?_
    show Go p e below (T841.setTop (mkF m 266 #[.val (.int p0), .val (.int p1), .val (.int p2), .val (.int p3), .val (.int p4), .val (.int p5), .val (.int (1 : Int32)), .val (.int k), .val (.int p2), .val (.int d1), .val (.int d2), .val (.int d3), .val (.int d4), .val (.int p4), .val (.int f1), .val (.int f2), .val (.int f3), .val (.int f4), .val (.ref b756), .val (.ref b808), .val (.long ((0 : Int64) + (p4.toInt64))), .second, .unset, .unset] [(.int (lcmpW ((0 : Int64) + (p4.toInt64)) ((0 : Int64) + (p4.toInt64))))])) _
    refine Go.via (fun _ => XS.ifYes X841.here hx rfl (pc0 := 266) (pc' := 271) rfl (hb hby at_266) rfl ((if0 _ _).trans (teq ((own_lc _) : (lcmpW ((0 : Int64) + (p4.toInt64)) ((0 : Int64) + (p4.toInt64))) = (0 : Int32))).1) (by decide) (by decide)) ?_
    have X841m := X841.more (by decide : _ ≤ 11) (by decide : _ ≤ 50)
    have k842 : Keep h0 T806.heap [] := (k822.trans K806q all0)
    exact J T841 _ T806.heap (1 : Int32) k d1 d2 d3 d4 f1 f2 f3 f4 b756 b808 ((0 : Int64) + (p4.toInt64)) b809 b810 [p2] [p4] X841m e841 N841 z840 k842 f833 f834 f835 f837 f838 (by intro q; rcases hk with rfl | rfl | rfl | rfl | rfl <;> first | exact absurd q (by decide) | exact ⟨by decide, rfl, rfl⟩)
  · show Go p e below (s₁.setTop (mkF m 84 #[.val (.int p0), .val (.int p1), .val (.int p2), .val (.int p3), .val (.int p4), .val (.int p5), .val (.int (2 : Int32)), .val (.int k), .val (.int p2), .val (.int d1), .val (.int d2), .val (.int d3), .val (.int d4), .val (.int p4), .val (.int f1), .val (.int f2), .val (.int f3), .val (.int f4), .unset, .unset, .unset, .unset, .unset, .unset] [])) _
    obtain ⟨T843, h843, X843, e843, E843, A843, D843, -, st843⟩ := newO X0 hx hZ hown (tw hw 1 rfl) (tw hw 2 rfl) (tw hw 3 rfl) e0 (g := (mkF m 84 #[.val (.int p0), .val (.int p1), .val (.int p2), .val (.int p3), .val (.int p4), .val (.int p5), .val (.int (2 : Int32)), .val (.int k), .val (.int p2), .val (.int d1), .val (.int d2), .val (.int d3), .val (.int d4), .val (.int p4), .val (.int f1), .val (.int f2), .val (.int f3), .val (.int f4), .unset, .unset, .unset, .unset, .unset, .unset] [])) rfl (hb hby at_84) (by decide) (by decide)
    obtain ⟨b843, g843⟩ : ∃ z, z = h0.size := ⟨_, rfl⟩
    rw [← g843] at A843 D843 st843
    have ge844 : n0 ≤ b843 := Nat.le_trans Z0 (Nat.le_of_eq g843.symm)
    have sz845 : h0.size ≤ b843 := Nat.le_trans (Keep.refl h0 []).1 (Nat.le_of_eq g843.symm)
    refine Go.via (st843) ?_
    clear st843
    have f846 : Fld Z h843 b843 "com/example/libcosearch/libcosearch/PostingList$Builder" "documents" "[I" .null := D843 (Or.inl (tw hw 12 rfl)) (ty := (.array .int)) (by decide)
    have f847 : Fld Z h843 b843 "com/example/libcosearch/libcosearch/PostingList$Builder" "frequencies" "[I" .null := D843 (Or.inl (tw hw 14 rfl)) (ty := (.array .int)) (by decide)
    have f848 : Fld Z h843 b843 "com/example/libcosearch/libcosearch/PostingList$Builder" "size" "I" (.int (0 : Int32)) := D843 (Or.inl (tw hw 24 rfl)) (ty := .int) (by decide)
    clear X0 e0
    show Go p e below (T843.setTop (mkF m 87 #[.val (.int p0), .val (.int p1), .val (.int p2), .val (.int p3), .val (.int p4), .val (.int p5), .val (.int (2 : Int32)), .val (.int k), .val (.int p2), .val (.int d1), .val (.int d2), .val (.int d3), .val (.int d4), .val (.int p4), .val (.int f1), .val (.int f2), .val (.int f3), .val (.int f4), .unset, .unset, .unset, .unset, .unset, .unset] [(.ref b843)])) _
    refine Go.via (fun _ => XS.dup X843.here hx rfl (hb hby at_87) rfl rfl) ?_
    have z850 : n0 ≤ h843.size := (Nat.le_trans Z0 E843.1)
    obtain ⟨_, _, ⟨T849, L849, k849, n849⟩, -, X849, ⟨Lc849, hQ849, l849, y849, z849⟩, st849⟩ := X843.specialBack hx (y := (⟨"com/example/libcosearch/libcosearch/PostingList$Builder", "<init>", "()V"⟩ : MethodName)) rfl hown (mvT hZ (tw hw 4 rfl)) (mvT hZ (tw hw 5 rfl)) (mvT hZ (tw hw 6 rfl)) (by decide) (backOf (W := 1) (rmB l Z a0 hw [] b843  h843 n0 z850 A843 f846 f847 f848 ge844) hZ (tw hw 6 rfl) (tw hw 3 rfl) (by decide) (by decide)) (g := (mkF m 88 #[.val (.int p0), .val (.int p1), .val (.int p2), .val (.int p3), .val (.int p4), .val (.int p5), .val (.int (2 : Int32)), .val (.int k), .val (.int p2), .val (.int d1), .val (.int d2), .val (.int d3), .val (.int d4), .val (.int p4), .val (.int f1), .val (.int f2), .val (.int f3), .val (.int f4), .unset, .unset, .unset, .unset, .unset, .unset] [(.ref b843), (.ref b843)])) rfl (by rw [hml]; rfl) (Steps.refl _) (a := b843) (argsL := []) (rest := [(.ref b843)]) (lenOf pd__28_29V rfl) rfl (by show 2 * 0 + _ ≤ _; exact Nat.le_of_eq rfl) (hb hby at_88) (fun _ _ => ⟨rfl, e843, (by decide : 1 + 2 ≤ _), (by decide : 3 + 8 ≤ _)⟩)
    dsimp only [Pt.U, Pt.locs, Pt.cells, Pt.slots] at X849 l849 y849 z849 st849 hQ849
    subst l849 y849 z849
    obtain ⟨b851, b852, rfl, N849q, K849q, fz_b851, fz_b852, f853, f854, f855, f856, f857, f858, f859, f860, qp861⟩ := hQ849
    have N849 := Fr.app N0 N849q
    refine Go.via (fun _ kQ => st849.trans kQ) ?_
    clear st849
    have ne862 : b843 ≠ b851 := Nat.ne_of_lt (Nat.lt_of_lt_of_le A843.lt fz_b851)
    have ge863 : n0 ≤ b851 := Nat.le_trans z850 fz_b851
    have k865 : Keep h0 h843 [] := ((Keep.refl h0 []).ext E843)
    have sz864 : h0.size ≤ b851 := Nat.le_trans k865.1 fz_b851
    have ne866 : b843 ≠ b852 := Nat.ne_of_lt (Nat.lt_of_lt_of_le A843.lt fz_b852)
    have ge867 : n0 ≤ b852 := Nat.le_trans z850 fz_b852
    have sz868 : h0.size ≤ b852 := Nat.le_trans k865.1 fz_b852
    have e849 : T849.heap = T849.heap := rfl
    have f869 : Exa Z T849.heap b843 "com/example/libcosearch/libcosearch/PostingList$Builder" := f853
    have f870 : Fld Z T849.heap b843 "com/example/libcosearch/libcosearch/PostingList$Builder" "documents" "[I" (.ref b851) := f854
    have f871 : Fld Z T849.heap b843 "com/example/libcosearch/libcosearch/PostingList$Builder" "frequencies" "[I" (.ref b852) := f855
    have f872 : Fld Z T849.heap b843 "com/example/libcosearch/libcosearch/PostingList$Builder" "size" "I" (.int (0 : Int32)) := f856
    have f873 : Ia Z T849.heap b851 .int [(0 : Int32), (0 : Int32), (0 : Int32), (0 : Int32)] := f857
    have f874 : Ia Z T849.heap b852 .int [(0 : Int32), (0 : Int32), (0 : Int32), (0 : Int32)] := f858
    have f875 : Exa Z T849.heap b851 "[I" := f859
    have f876 : Exa Z T849.heap b852 "[I" := f860
    clear X843 e843
    show Go p e below (T849.setTop (mkF m 91 #[.val (.int p0), .val (.int p1), .val (.int p2), .val (.int p3), .val (.int p4), .val (.int p5), .val (.int (2 : Int32)), .val (.int k), .val (.int p2), .val (.int d1), .val (.int d2), .val (.int d3), .val (.int d4), .val (.int p4), .val (.int f1), .val (.int f2), .val (.int f3), .val (.int f4), .unset, .unset, .unset, .unset, .unset, .unset] [(.ref b843)])) _
    refine Go.via (fun _ => XS.astore X849.here hx rfl (hb hby at_91) rfl rfl (l' := #[.val (.int p0), .val (.int p1), .val (.int p2), .val (.int p3), .val (.int p4), .val (.int p5), .val (.int (2 : Int32)), .val (.int k), .val (.int p2), .val (.int d1), .val (.int d2), .val (.int d3), .val (.int d4), .val (.int p4), .val (.int f1), .val (.int f2), .val (.int f3), .val (.int f4), .val (.ref b843), .unset, .unset, .unset, .unset, .unset]) rfl) ?_
    show Go p e below (T849.setTop (mkF m 93 #[.val (.int p0), .val (.int p1), .val (.int p2), .val (.int p3), .val (.int p4), .val (.int p5), .val (.int (2 : Int32)), .val (.int k), .val (.int p2), .val (.int d1), .val (.int d2), .val (.int d3), .val (.int d4), .val (.int p4), .val (.int f1), .val (.int f2), .val (.int f3), .val (.int f4), .val (.ref b843), .unset, .unset, .unset, .unset, .unset] [])) _
    refine Go.via (fun _ => XS.iload X849.here hx rfl (hb hby at_93) rfl) ?_
    refine Go.via (fun _ => XS.ifNo X849.here hx rfl (hb hby at_95) rfl ((if0 _ _).trans (tlt ((by decide) : (0 : Int32) < (2 : Int32))).2.2.2)) ?_
    show Go p e below (T849.setTop (mkF m 98 #[.val (.int p0), .val (.int p1), .val (.int p2), .val (.int p3), .val (.int p4), .val (.int p5), .val (.int (2 : Int32)), .val (.int k), .val (.int p2), .val (.int d1), .val (.int d2), .val (.int d3), .val (.int d4), .val (.int p4), .val (.int f1), .val (.int f2), .val (.int f3), .val (.int f4), .val (.ref b843), .unset, .unset, .unset, .unset, .unset] [])) _
    refine Go.via (fun _ => XS.aload X849.here hx rfl (hb hby at_98) rfl rfl) ?_
    refine Go.via (fun _ => XS.iload X849.here hx rfl (hb hby at_100) rfl) ?_
    refine Go.via (fun _ => XS.iload X849.here hx rfl (hb hby at_102) rfl) ?_
    have z878 : n0 ≤ T849.heap.size := (Nat.le_trans z850 K849q.1)
    obtain ⟨cq877, kq877, q877a, q877b, q877c⟩ := isOf hZ e849 f869
    obtain ⟨_, _, ⟨T877, L877, k877, n877⟩, -, X877, ⟨Lc877, hQ877, l877, y877, z877⟩, st877⟩ := X849.virtualBack hx (y := (⟨"com/example/libcosearch/libcosearch/PostingList$Builder", "add", "(II)V"⟩ : MethodName)) (z := (⟨"com/example/libcosearch/libcosearch/PostingList$Builder", "add", "(II)V"⟩ : MethodName)) hown (mvT hZ (tw hw 57 rfl)) (mvT hZ (tw hw 58 rfl)) (notFace_of_selects (args := #[]) (mvT hZ (tw hw 60 rfl))) (mvT hZ (tw hw 60 rfl)) (mvT hZ (tw hw 59 rfl)) (by decide) (backOf (W := 0) (rmA l Z a0 hw [] b843 p2 p4 b851 b852 [(0 : Int32), (0 : Int32), (0 : Int32), (0 : Int32)] [(0 : Int32), (0 : Int32), (0 : Int32), (0 : Int32)] (0 : Int32) T849.heap n0 z878 f869 f870 f871 f872 f873 f874 ge844 ge863 ge867 ne862 ne866 qp861 (by first | decide | (simp only [List.length_cons, List.length_nil]; decide) | rfl) (by first | decide | (simp only [List.length_cons, List.length_nil]; decide) | rfl) (by first | decide | (simp only [List.length_cons, List.length_nil]; decide) | rfl) (by first | decide | (simp only [List.length_cons, List.length_nil]; decide) | rfl)) hZ (tw hw 61 rfl) (tw hw 3 rfl) (by decide) (by decide)) q877a q877c (g := (mkF m 104 #[.val (.int p0), .val (.int p1), .val (.int p2), .val (.int p3), .val (.int p4), .val (.int p5), .val (.int (2 : Int32)), .val (.int k), .val (.int p2), .val (.int d1), .val (.int d2), .val (.int d3), .val (.int d4), .val (.int p4), .val (.int f1), .val (.int f2), .val (.int f3), .val (.int f4), .val (.ref b843), .unset, .unset, .unset, .unset, .unset] [(.int p4), (.int p2), (.ref b843)])) rfl (by rw [hml]; rfl) (Steps.refl _) (argsL := [(.int p2), (.int p4)]) (rest := []) (lenOf pd__28II_29V rfl) rfl (by show 2 * 0 + _ ≤ _; exact Nat.le_of_eq rfl) (hb hby at_104) (fun _ _ => ⟨rfl, e849, (by decide : 3 + 0 ≤ _), (by decide : 11 + 0 ≤ _)⟩)
    dsimp only [Pt.U, Pt.locs, Pt.cells, Pt.slots] at X877 l877 y877 z877 st877 hQ877
    subst l877 y877 z877
    obtain ⟨rfl, N877q, K877q, f879, f880, f881, f882, f883, f884⟩ := hQ877
    have N877 := Fr.app N849 N877q
    refine Go.via (fun _ kQ => st877.trans kQ) ?_
    clear st877
    have e877 : T877.heap = T877.heap := rfl
    have f885 : Exa Z T877.heap b843 "com/example/libcosearch/libcosearch/PostingList$Builder" := f879
    have f886 : Fld Z T877.heap b843 "com/example/libcosearch/libcosearch/PostingList$Builder" "documents" "[I" (.ref b851) := f880
    have f887 : Fld Z T877.heap b843 "com/example/libcosearch/libcosearch/PostingList$Builder" "frequencies" "[I" (.ref b852) := f881
    have f888 : Fld Z T877.heap b843 "com/example/libcosearch/libcosearch/PostingList$Builder" "size" "I" (.int (1 : Int32)) := f882
    have f889 : Ia Z T877.heap b851 .int [p2, (0 : Int32), (0 : Int32), (0 : Int32)] := f883
    have f890 : Ia Z T877.heap b852 .int [p4, (0 : Int32), (0 : Int32), (0 : Int32)] := f884
    clear X849 e849
    show Go p e below (T877.setTop (mkF m 107 #[.val (.int p0), .val (.int p1), .val (.int p2), .val (.int p3), .val (.int p4), .val (.int p5), .val (.int (2 : Int32)), .val (.int k), .val (.int p2), .val (.int d1), .val (.int d2), .val (.int d3), .val (.int d4), .val (.int p4), .val (.int f1), .val (.int f2), .val (.int f3), .val (.int f4), .val (.ref b843), .unset, .unset, .unset, .unset, .unset] [])) _
    refine Go.via (fun _ => XS.iload X877.here hx rfl (hb hby at_107) rfl) ?_
    refine Go.via (fun _ => XS.iconst X877.here hx rfl (hb hby at_109)) ?_
    refine Go.via (fun _ => XS.icmpNo X877.here hx rfl (hb hby at_110) rfl (tlt ((by decide) : (1 : Int32) < (2 : Int32))).2.2.2) ?_
    show Go p e below (T877.setTop (mkF m 113 #[.val (.int p0), .val (.int p1), .val (.int p2), .val (.int p3), .val (.int p4), .val (.int p5), .val (.int (2 : Int32)), .val (.int k), .val (.int p2), .val (.int d1), .val (.int d2), .val (.int d3), .val (.int d4), .val (.int p4), .val (.int f1), .val (.int f2), .val (.int f3), .val (.int f4), .val (.ref b843), .unset, .unset, .unset, .unset, .unset] [])) _
    refine Go.via (fun _ => XS.aload X877.here hx rfl (hb hby at_113) rfl rfl) ?_
    refine Go.via (fun _ => XS.iload X877.here hx rfl (hb hby at_115) rfl) ?_
    refine Go.via (fun _ => XS.iload X877.here hx rfl (hb hby at_117) rfl) ?_
    have z892 : n0 ≤ T877.heap.size := (Nat.le_trans z878 K877q.1)
    obtain ⟨cq891, kq891, q891a, q891b, q891c⟩ := isOf hZ e877 f885
    obtain ⟨_, _, ⟨T891, L891, k891, n891⟩, -, X891, ⟨Lc891, hQ891, l891, y891, z891⟩, st891⟩ := X877.virtualBack hx (y := (⟨"com/example/libcosearch/libcosearch/PostingList$Builder", "add", "(II)V"⟩ : MethodName)) (z := (⟨"com/example/libcosearch/libcosearch/PostingList$Builder", "add", "(II)V"⟩ : MethodName)) hown (mvT hZ (tw hw 57 rfl)) (mvT hZ (tw hw 58 rfl)) (notFace_of_selects (args := #[]) (mvT hZ (tw hw 60 rfl))) (mvT hZ (tw hw 60 rfl)) (mvT hZ (tw hw 59 rfl)) (by decide) (backOf (W := 0) (rmA l Z a0 hw [] b843 d1 f1 b851 b852 [p2, (0 : Int32), (0 : Int32), (0 : Int32)] [p4, (0 : Int32), (0 : Int32), (0 : Int32)] (1 : Int32) T877.heap n0 z892 f885 f886 f887 f888 f889 f890 ge844 ge863 ge867 ne862 ne866 qp861 (by first | decide | (simp only [List.length_cons, List.length_nil]; decide) | rfl) (by first | decide | (simp only [List.length_cons, List.length_nil]; decide) | rfl) (by first | decide | (simp only [List.length_cons, List.length_nil]; decide) | rfl) (by first | decide | (simp only [List.length_cons, List.length_nil]; decide) | rfl)) hZ (tw hw 61 rfl) (tw hw 3 rfl) (by decide) (by decide)) q891a q891c (g := (mkF m 119 #[.val (.int p0), .val (.int p1), .val (.int p2), .val (.int p3), .val (.int p4), .val (.int p5), .val (.int (2 : Int32)), .val (.int k), .val (.int p2), .val (.int d1), .val (.int d2), .val (.int d3), .val (.int d4), .val (.int p4), .val (.int f1), .val (.int f2), .val (.int f3), .val (.int f4), .val (.ref b843), .unset, .unset, .unset, .unset, .unset] [(.int f1), (.int d1), (.ref b843)])) rfl (by rw [hml]; rfl) (Steps.refl _) (argsL := [(.int d1), (.int f1)]) (rest := []) (lenOf pd__28II_29V rfl) rfl (by show 2 * 0 + _ ≤ _; exact Nat.le_of_eq rfl) (hb hby at_119) (fun _ _ => ⟨rfl, e877, (by decide : 3 + 0 ≤ _), (by decide : 11 + 0 ≤ _)⟩)
    dsimp only [Pt.U, Pt.locs, Pt.cells, Pt.slots] at X891 l891 y891 z891 st891 hQ891
    subst l891 y891 z891
    obtain ⟨rfl, N891q, K891q, f893, f894, f895, f896, f897, f898⟩ := hQ891
    have N891 := Fr.app N877 N891q
    refine Go.via (fun _ kQ => st891.trans kQ) ?_
    clear st891
    have e891 : T891.heap = T891.heap := rfl
    have f899 : Exa Z T891.heap b843 "com/example/libcosearch/libcosearch/PostingList$Builder" := f893
    have f900 : Fld Z T891.heap b843 "com/example/libcosearch/libcosearch/PostingList$Builder" "documents" "[I" (.ref b851) := f894
    have f901 : Fld Z T891.heap b843 "com/example/libcosearch/libcosearch/PostingList$Builder" "frequencies" "[I" (.ref b852) := f895
    have f902 : Fld Z T891.heap b843 "com/example/libcosearch/libcosearch/PostingList$Builder" "size" "I" (.int (2 : Int32)) := f896
    have f903 : Ia Z T891.heap b851 .int [p2, d1, (0 : Int32), (0 : Int32)] := f897
    have f904 : Ia Z T891.heap b852 .int [p4, f1, (0 : Int32), (0 : Int32)] := f898
    clear X877 e877
    show Go p e below (T891.setTop (mkF m 122 #[.val (.int p0), .val (.int p1), .val (.int p2), .val (.int p3), .val (.int p4), .val (.int p5), .val (.int (2 : Int32)), .val (.int k), .val (.int p2), .val (.int d1), .val (.int d2), .val (.int d3), .val (.int d4), .val (.int p4), .val (.int f1), .val (.int f2), .val (.int f3), .val (.int f4), .val (.ref b843), .unset, .unset, .unset, .unset, .unset] [])) _
    refine Go.via (fun _ => XS.iload X891.here hx rfl (hb hby at_122) rfl) ?_
    refine Go.via (fun _ => XS.iconst X891.here hx rfl (hb hby at_124)) ?_
    refine Go.via (fun _ => XS.icmpYes X891.here hx rfl (pc0 := 125) (pc' := 137) rfl (hb hby at_125) rfl (flt ((by decide) : ¬ ((2 : Int32) < (2 : Int32)))).2.2.2 (by decide) (by decide)) ?_
    show Go p e below (T891.setTop (mkF m 137 #[.val (.int p0), .val (.int p1), .val (.int p2), .val (.int p3), .val (.int p4), .val (.int p5), .val (.int (2 : Int32)), .val (.int k), .val (.int p2), .val (.int d1), .val (.int d2), .val (.int d3), .val (.int d4), .val (.int p4), .val (.int f1), .val (.int f2), .val (.int f3), .val (.int f4), .val (.ref b843), .unset, .unset, .unset, .unset, .unset] [])) _
    refine Go.via (fun _ => XS.iload X891.here hx rfl (hb hby at_137) rfl) ?_
    refine Go.via (fun _ => XS.iconst X891.here hx rfl (hb hby at_139)) ?_
    refine Go.via (fun _ => XS.icmpYes X891.here hx rfl (pc0 := 140) (pc' := 152) rfl (hb hby at_140) rfl (flt ((by decide) : ¬ ((3 : Int32) < (2 : Int32)))).2.2.2 (by decide) (by decide)) ?_
    show Go p e below (T891.setTop (mkF m 152 #[.val (.int p0), .val (.int p1), .val (.int p2), .val (.int p3), .val (.int p4), .val (.int p5), .val (.int (2 : Int32)), .val (.int k), .val (.int p2), .val (.int d1), .val (.int d2), .val (.int d3), .val (.int d4), .val (.int p4), .val (.int f1), .val (.int f2), .val (.int f3), .val (.int f4), .val (.ref b843), .unset, .unset, .unset, .unset, .unset] [])) _
    refine Go.via (fun _ => XS.iload X891.here hx rfl (hb hby at_152) rfl) ?_
    refine Go.via (fun _ => XS.iconst X891.here hx rfl (hb hby at_154)) ?_
    refine Go.via (fun _ => XS.icmpYes X891.here hx rfl (pc0 := 155) (pc' := 167) rfl (hb hby at_155) rfl (flt ((by decide) : ¬ ((4 : Int32) < (2 : Int32)))).2.2.2 (by decide) (by decide)) ?_
    show Go p e below (T891.setTop (mkF m 167 #[.val (.int p0), .val (.int p1), .val (.int p2), .val (.int p3), .val (.int p4), .val (.int p5), .val (.int (2 : Int32)), .val (.int k), .val (.int p2), .val (.int d1), .val (.int d2), .val (.int d3), .val (.int d4), .val (.int p4), .val (.int f1), .val (.int f2), .val (.int f3), .val (.int f4), .val (.ref b843), .unset, .unset, .unset, .unset, .unset] [])) _
    refine Go.via (fun _ => XS.aload X891.here hx rfl (hb hby at_167) rfl rfl) ?_
    have f905 : Exa Z T891.heap b851 "[I" := ((f875.keep K877q).keep K891q)
    have f906 : Exa Z T891.heap b852 "[I" := ((f876.keep K877q).keep K891q)
    have z908 : n0 ≤ T891.heap.size := (Nat.le_trans z892 K891q.1)
    obtain ⟨cq907, kq907, q907a, q907b, q907c⟩ := isOf hZ e891 f899
    obtain ⟨_, _, ⟨T907, L907, k907, n907⟩, -, X907, ⟨Lc907, hQ907, l907, y907, z907⟩, st907⟩ := X891.virtualBack hx (y := (⟨"com/example/libcosearch/libcosearch/PostingList$Builder", "build", "()Lcom/example/libcosearch/libcosearch/PostingList;"⟩ : MethodName)) (z := (⟨"com/example/libcosearch/libcosearch/PostingList$Builder", "build", "()Lcom/example/libcosearch/libcosearch/PostingList;"⟩ : MethodName)) hown (mvT hZ (tw hw 15 rfl)) (mvT hZ (tw hw 16 rfl)) (notFace_of_selects (args := #[]) (mvT hZ (tw hw 18 rfl))) (mvT hZ (tw hw 18 rfl)) (mvT hZ (tw hw 17 rfl)) (by decide) (backOf (W := 0) (rmU2 l Z a0 hw [] b843 b851 b852 p2 d1 (0 : Int32) (0 : Int32) p4 f1 (0 : Int32) (0 : Int32) T891.heap n0 z908 f900 f901 f902 f903 f904 f905 f906) hZ (tw hw 19 rfl) (tw hw 3 rfl) (by decide) (by decide)) q907a q907c (g := (mkF m 169 #[.val (.int p0), .val (.int p1), .val (.int p2), .val (.int p3), .val (.int p4), .val (.int p5), .val (.int (2 : Int32)), .val (.int k), .val (.int p2), .val (.int d1), .val (.int d2), .val (.int d3), .val (.int d4), .val (.int p4), .val (.int f1), .val (.int f2), .val (.int f3), .val (.int f4), .val (.ref b843), .unset, .unset, .unset, .unset, .unset] [(.ref b843)])) rfl (by rw [hml]; rfl) (Steps.refl _) (argsL := []) (rest := []) (lenOf pd__28_29Lcom_2fexample_2flibcosearch_2flibcosearch_2fPostingList_3b rfl) rfl (by show 2 * 0 + _ ≤ _; exact Nat.le_of_eq rfl) (hb hby at_169) (fun _ _ => ⟨rfl, e891, (by decide : 3 + 3 ≤ _), (by decide : 11 + 19 ≤ _)⟩)
    dsimp only [Pt.U, Pt.locs, Pt.cells, Pt.slots] at X907 l907 y907 z907 st907 hQ907
    subst l907 y907 z907
    obtain ⟨b909, b910, b911, rfl, N907q, K907q, fz_b909, fz_b910, fz_b911, f912, f913, f914, f915, f916, f917⟩ := hQ907
    have N907 := Fr.app N891 N907q
    refine Go.via (fun _ kQ => st907.trans kQ) ?_
    clear st907
    have ne918 : b843 ≠ b909 := Nat.ne_of_lt (Nat.lt_of_lt_of_le f899.lt fz_b909)
    have ne919 : b851 ≠ b909 := Nat.ne_of_lt (Nat.lt_of_lt_of_le f903.lt fz_b909)
    have ne920 : b852 ≠ b909 := Nat.ne_of_lt (Nat.lt_of_lt_of_le f904.lt fz_b909)
    have ge921 : n0 ≤ b909 := Nat.le_trans z908 fz_b909
    have k923 : Keep h0 T891.heap [] := (((k865.trans K849q (allS (Or.inr sz845) all0)).trans K877q (allS (Or.inr sz845) (allS (Or.inr sz864) (allS (Or.inr sz868) all0)))).trans K891q (allS (Or.inr sz845) (allS (Or.inr sz864) (allS (Or.inr sz868) all0))))
    have sz922 : h0.size ≤ b909 := Nat.le_trans k923.1 fz_b909
    have ne924 : b843 ≠ b910 := Nat.ne_of_lt (Nat.lt_of_lt_of_le f899.lt fz_b910)
    have ne925 : b851 ≠ b910 := Nat.ne_of_lt (Nat.lt_of_lt_of_le f903.lt fz_b910)
    have ne926 : b852 ≠ b910 := Nat.ne_of_lt (Nat.lt_of_lt_of_le f904.lt fz_b910)
    have ge927 : n0 ≤ b910 := Nat.le_trans z908 fz_b910
    have sz928 : h0.size ≤ b910 := Nat.le_trans k923.1 fz_b910
    have ne929 : b843 ≠ b911 := Nat.ne_of_lt (Nat.lt_of_lt_of_le f899.lt fz_b911)
    have ne930 : b851 ≠ b911 := Nat.ne_of_lt (Nat.lt_of_lt_of_le f903.lt fz_b911)
    have ne931 : b852 ≠ b911 := Nat.ne_of_lt (Nat.lt_of_lt_of_le f904.lt fz_b911)
    have ge932 : n0 ≤ b911 := Nat.le_trans z908 fz_b911
    have sz933 : h0.size ≤ b911 := Nat.le_trans k923.1 fz_b911
    have e907 : T907.heap = T907.heap := rfl
    have f934 : Exa Z T907.heap b909 "com/example/libcosearch/libcosearch/PostingList" := f912
    have f935 : Fld Z T907.heap b909 "com/example/libcosearch/libcosearch/PostingList" "documents" "[I" (.ref b910) := f913
    have f936 : Fld Z T907.heap b909 "com/example/libcosearch/libcosearch/PostingList" "frequencies" "[I" (.ref b911) := f914
    have f937 : Fld Z T907.heap b909 "com/example/libcosearch/libcosearch/PostingList" "collectionFrequency" "J" (.long (((0 : Int64) + (p4.toInt64)) + (f1.toInt64))) := f915
    have f938 : Ia Z T907.heap b910 .int [p2, d1] := f916
    have f939 : Ia Z T907.heap b911 .int [p4, f1] := f917
    clear X891 e891
    show Go p e below (T907.setTop (mkF m 172 #[.val (.int p0), .val (.int p1), .val (.int p2), .val (.int p3), .val (.int p4), .val (.int p5), .val (.int (2 : Int32)), .val (.int k), .val (.int p2), .val (.int d1), .val (.int d2), .val (.int d3), .val (.int d4), .val (.int p4), .val (.int f1), .val (.int f2), .val (.int f3), .val (.int f4), .val (.ref b843), .unset, .unset, .unset, .unset, .unset] [(.ref b909)])) _
    refine Go.via (fun _ => XS.astore X907.here hx rfl (hb hby at_172) rfl rfl (l' := #[.val (.int p0), .val (.int p1), .val (.int p2), .val (.int p3), .val (.int p4), .val (.int p5), .val (.int (2 : Int32)), .val (.int k), .val (.int p2), .val (.int d1), .val (.int d2), .val (.int d3), .val (.int d4), .val (.int p4), .val (.int f1), .val (.int f2), .val (.int f3), .val (.int f4), .val (.ref b843), .val (.ref b909), .unset, .unset, .unset, .unset]) rfl) ?_
    show Go p e below (T907.setTop (mkF m 174 #[.val (.int p0), .val (.int p1), .val (.int p2), .val (.int p3), .val (.int p4), .val (.int p5), .val (.int (2 : Int32)), .val (.int k), .val (.int p2), .val (.int d1), .val (.int d2), .val (.int d3), .val (.int d4), .val (.int p4), .val (.int f1), .val (.int f2), .val (.int f3), .val (.int f4), .val (.ref b843), .val (.ref b909), .unset, .unset, .unset, .unset] [])) _
    refine Go.via (fun _ => XS.aload X907.here hx rfl (hb hby at_174) rfl rfl) ?_
    have z941 : n0 ≤ T907.heap.size := (Nat.le_trans z908 K907q.1)
    obtain ⟨cq940, kq940, q940a, q940b, q940c⟩ := isOf hZ e907 f934
    obtain ⟨_, _, ⟨T940, L940, k940, n940⟩, -, X940, ⟨Lc940, hQ940, l940, y940, z940⟩, st940⟩ := X907.virtualBack hx (y := (⟨"com/example/libcosearch/libcosearch/PostingList", "size", "()I"⟩ : MethodName)) (z := (⟨"com/example/libcosearch/libcosearch/PostingList", "size", "()I"⟩ : MethodName)) hown (mvT hZ (tw hw 47 rfl)) (mvT hZ (tw hw 48 rfl)) (notFace_of_selects (args := #[]) (mvT hZ (tw hw 50 rfl))) (mvT hZ (tw hw 50 rfl)) (mvT hZ (tw hw 49 rfl)) (by decide) (backOf (W := 0) (rmS l Z a0 hw [] b909 b910 [p2, d1] T907.heap n0 z941 f935 f938) hZ (tw hw 51 rfl) (tw hw 22 rfl) (by decide) (by decide)) q940a q940c (g := (mkF m 176 #[.val (.int p0), .val (.int p1), .val (.int p2), .val (.int p3), .val (.int p4), .val (.int p5), .val (.int (2 : Int32)), .val (.int k), .val (.int p2), .val (.int d1), .val (.int d2), .val (.int d3), .val (.int d4), .val (.int p4), .val (.int f1), .val (.int f2), .val (.int f3), .val (.int f4), .val (.ref b843), .val (.ref b909), .unset, .unset, .unset, .unset] [(.ref b909)])) rfl (by rw [hml]; rfl) (Steps.refl _) (argsL := []) (rest := []) (lenOf pd__28_29I rfl) rfl (by show 2 * 0 + _ ≤ _; exact Nat.le_of_eq rfl) (hb hby at_176) (fun _ _ => ⟨rfl, e907, (by decide : 6 + 0 ≤ _), (by decide : 30 + 0 ≤ _)⟩)
    dsimp only [Pt.U, Pt.locs, Pt.cells, Pt.slots] at X940 l940 y940 z940 st940 hQ940
    subst l940 y940 z940
    obtain ⟨rfl, N940q, eh940⟩ := hQ940
    have N940 := Fr.app N907 N940q
    refine Go.via (fun _ kQ => st940.trans kQ) ?_
    clear st940
    have e940 : T940.heap = T907.heap := eh940
    clear X907 e907
    show Go p e below (T940.setTop (mkF m 179 #[.val (.int p0), .val (.int p1), .val (.int p2), .val (.int p3), .val (.int p4), .val (.int p5), .val (.int (2 : Int32)), .val (.int k), .val (.int p2), .val (.int d1), .val (.int d2), .val (.int d3), .val (.int d4), .val (.int p4), .val (.int f1), .val (.int f2), .val (.int f3), .val (.int f4), .val (.ref b843), .val (.ref b909), .unset, .unset, .unset, .unset] [(.int (2 : Int32))])) _
    refine Go.via (fun _ => XS.iload X940.here hx rfl (hb hby at_179) rfl) ?_
    refine Go.via (fun _ => XS.icmpYes X940.here hx rfl (pc0 := 181) (pc' := 186) rfl (hb hby at_181) rfl (teq ((by decide) : (2 : Int32) = (2 : Int32))).1 (by decide) (by decide)) ?_
    show Go p e below (T940.setTop (mkF m 186 #[.val (.int p0), .val (.int p1), .val (.int p2), .val (.int p3), .val (.int p4), .val (.int p5), .val (.int (2 : Int32)), .val (.int k), .val (.int p2), .val (.int d1), .val (.int d2), .val (.int d3), .val (.int d4), .val (.int p4), .val (.int f1), .val (.int f2), .val (.int f3), .val (.int f4), .val (.ref b843), .val (.ref b909), .unset, .unset, .unset, .unset] [])) _
    refine Go.via (fun _ => XS.lconst X940.here hx rfl (hb hby at_186)) ?_
    refine Go.via (fun _ => XS.lstore X940.here hx rfl (hb hby at_187) rfl (l' := #[.val (.int p0), .val (.int p1), .val (.int p2), .val (.int p3), .val (.int p4), .val (.int p5), .val (.int (2 : Int32)), .val (.int k), .val (.int p2), .val (.int d1), .val (.int d2), .val (.int d3), .val (.int d4), .val (.int p4), .val (.int f1), .val (.int f2), .val (.int f3), .val (.int f4), .val (.ref b843), .val (.ref b909), .val (.long (0 : Int64)), .second, .unset, .unset]) rfl) ?_
    show Go p e below (T940.setTop (mkF m 189 #[.val (.int p0), .val (.int p1), .val (.int p2), .val (.int p3), .val (.int p4), .val (.int p5), .val (.int (2 : Int32)), .val (.int k), .val (.int p2), .val (.int d1), .val (.int d2), .val (.int d3), .val (.int d4), .val (.int p4), .val (.int f1), .val (.int f2), .val (.int f3), .val (.int f4), .val (.ref b843), .val (.ref b909), .val (.long (0 : Int64)), .second, .unset, .unset] [])) _
    refine Go.via (fun _ => XS.iload X940.here hx rfl (hb hby at_189) rfl) ?_
    refine Go.via (fun _ => XS.ifNo X940.here hx rfl (hb hby at_191) rfl ((if0 _ _).trans (tlt ((by decide) : (0 : Int32) < (2 : Int32))).2.2.2)) ?_
    show Go p e below (T940.setTop (mkF m 194 #[.val (.int p0), .val (.int p1), .val (.int p2), .val (.int p3), .val (.int p4), .val (.int p5), .val (.int (2 : Int32)), .val (.int k), .val (.int p2), .val (.int d1), .val (.int d2), .val (.int d3), .val (.int d4), .val (.int p4), .val (.int f1), .val (.int f2), .val (.int f3), .val (.int f4), .val (.ref b843), .val (.ref b909), .val (.long (0 : Int64)), .second, .unset, .unset] [])) _
    refine Go.via (fun _ => XS.lload X940.here hx rfl (hb hby at_194) rfl) ?_
    refine Go.via (fun _ => XS.iload X940.here hx rfl (hb hby at_196) rfl) ?_
    refine Go.via (fun _ => XS.i2l X940.here hx rfl (hb hby at_198) rfl) ?_
    show Go p e below (T940.setTop (mkF m 199 #[.val (.int p0), .val (.int p1), .val (.int p2), .val (.int p3), .val (.int p4), .val (.int p5), .val (.int (2 : Int32)), .val (.int k), .val (.int p2), .val (.int d1), .val (.int d2), .val (.int d3), .val (.int d4), .val (.int p4), .val (.int f1), .val (.int f2), .val (.int f3), .val (.int f4), .val (.ref b843), .val (.ref b909), .val (.long (0 : Int64)), .second, .unset, .unset] [(.long (p4.toInt64)), (.long (0 : Int64))])) _
    refine Go.via (fun _ => XS.ladd X940.here hx rfl (hb hby at_199) rfl) ?_
    show Go p e below (T940.setTop (mkF m 200 #[.val (.int p0), .val (.int p1), .val (.int p2), .val (.int p3), .val (.int p4), .val (.int p5), .val (.int (2 : Int32)), .val (.int k), .val (.int p2), .val (.int d1), .val (.int d2), .val (.int d3), .val (.int d4), .val (.int p4), .val (.int f1), .val (.int f2), .val (.int f3), .val (.int f4), .val (.ref b843), .val (.ref b909), .val (.long (0 : Int64)), .second, .unset, .unset] [(.long ((0 : Int64) + (p4.toInt64)))])) _
    refine Go.via (fun _ => XS.lstore X940.here hx rfl (hb hby at_200) rfl (l' := #[.val (.int p0), .val (.int p1), .val (.int p2), .val (.int p3), .val (.int p4), .val (.int p5), .val (.int (2 : Int32)), .val (.int k), .val (.int p2), .val (.int d1), .val (.int d2), .val (.int d3), .val (.int d4), .val (.int p4), .val (.int f1), .val (.int f2), .val (.int f3), .val (.int f4), .val (.ref b843), .val (.ref b909), .val (.long ((0 : Int64) + (p4.toInt64))), .second, .unset, .unset]) rfl) ?_
    show Go p e below (T940.setTop (mkF m 202 #[.val (.int p0), .val (.int p1), .val (.int p2), .val (.int p3), .val (.int p4), .val (.int p5), .val (.int (2 : Int32)), .val (.int k), .val (.int p2), .val (.int d1), .val (.int d2), .val (.int d3), .val (.int d4), .val (.int p4), .val (.int f1), .val (.int f2), .val (.int f3), .val (.int f4), .val (.ref b843), .val (.ref b909), .val (.long ((0 : Int64) + (p4.toInt64))), .second, .unset, .unset] [])) _
    refine Go.via (fun _ => XS.iload X940.here hx rfl (hb hby at_202) rfl) ?_
    refine Go.via (fun _ => XS.iconst X940.here hx rfl (hb hby at_204)) ?_
    refine Go.via (fun _ => XS.icmpNo X940.here hx rfl (hb hby at_205) rfl (tlt ((by decide) : (1 : Int32) < (2 : Int32))).2.2.2) ?_
    show Go p e below (T940.setTop (mkF m 208 #[.val (.int p0), .val (.int p1), .val (.int p2), .val (.int p3), .val (.int p4), .val (.int p5), .val (.int (2 : Int32)), .val (.int k), .val (.int p2), .val (.int d1), .val (.int d2), .val (.int d3), .val (.int d4), .val (.int p4), .val (.int f1), .val (.int f2), .val (.int f3), .val (.int f4), .val (.ref b843), .val (.ref b909), .val (.long ((0 : Int64) + (p4.toInt64))), .second, .unset, .unset] [])) _
    refine Go.via (fun _ => XS.lload X940.here hx rfl (hb hby at_208) rfl) ?_
    refine Go.via (fun _ => XS.iload X940.here hx rfl (hb hby at_210) rfl) ?_
    refine Go.via (fun _ => XS.i2l X940.here hx rfl (hb hby at_212) rfl) ?_
    show Go p e below (T940.setTop (mkF m 213 #[.val (.int p0), .val (.int p1), .val (.int p2), .val (.int p3), .val (.int p4), .val (.int p5), .val (.int (2 : Int32)), .val (.int k), .val (.int p2), .val (.int d1), .val (.int d2), .val (.int d3), .val (.int d4), .val (.int p4), .val (.int f1), .val (.int f2), .val (.int f3), .val (.int f4), .val (.ref b843), .val (.ref b909), .val (.long ((0 : Int64) + (p4.toInt64))), .second, .unset, .unset] [(.long (f1.toInt64)), (.long ((0 : Int64) + (p4.toInt64)))])) _
    refine Go.via (fun _ => XS.ladd X940.here hx rfl (hb hby at_213) rfl) ?_
    show Go p e below (T940.setTop (mkF m 214 #[.val (.int p0), .val (.int p1), .val (.int p2), .val (.int p3), .val (.int p4), .val (.int p5), .val (.int (2 : Int32)), .val (.int k), .val (.int p2), .val (.int d1), .val (.int d2), .val (.int d3), .val (.int d4), .val (.int p4), .val (.int f1), .val (.int f2), .val (.int f3), .val (.int f4), .val (.ref b843), .val (.ref b909), .val (.long ((0 : Int64) + (p4.toInt64))), .second, .unset, .unset] [(.long (((0 : Int64) + (p4.toInt64)) + (f1.toInt64)))])) _
    refine Go.via (fun _ => XS.lstore X940.here hx rfl (hb hby at_214) rfl (l' := #[.val (.int p0), .val (.int p1), .val (.int p2), .val (.int p3), .val (.int p4), .val (.int p5), .val (.int (2 : Int32)), .val (.int k), .val (.int p2), .val (.int d1), .val (.int d2), .val (.int d3), .val (.int d4), .val (.int p4), .val (.int f1), .val (.int f2), .val (.int f3), .val (.int f4), .val (.ref b843), .val (.ref b909), .val (.long (((0 : Int64) + (p4.toInt64)) + (f1.toInt64))), .second, .unset, .unset]) rfl) ?_
    show Go p e below (T940.setTop (mkF m 216 #[.val (.int p0), .val (.int p1), .val (.int p2), .val (.int p3), .val (.int p4), .val (.int p5), .val (.int (2 : Int32)), .val (.int k), .val (.int p2), .val (.int d1), .val (.int d2), .val (.int d3), .val (.int d4), .val (.int p4), .val (.int f1), .val (.int f2), .val (.int f3), .val (.int f4), .val (.ref b843), .val (.ref b909), .val (.long (((0 : Int64) + (p4.toInt64)) + (f1.toInt64))), .second, .unset, .unset] [])) _
    refine Go.via (fun _ => XS.iload X940.here hx rfl (hb hby at_216) rfl) ?_
    refine Go.via (fun _ => XS.iconst X940.here hx rfl (hb hby at_218)) ?_
    refine Go.via (fun _ => XS.icmpYes X940.here hx rfl (pc0 := 219) (pc' := 230) rfl (hb hby at_219) rfl (flt ((by decide) : ¬ ((2 : Int32) < (2 : Int32)))).2.2.2 (by decide) (by decide)) ?_
    show Go p e below (T940.setTop (mkF m 230 #[.val (.int p0), .val (.int p1), .val (.int p2), .val (.int p3), .val (.int p4), .val (.int p5), .val (.int (2 : Int32)), .val (.int k), .val (.int p2), .val (.int d1), .val (.int d2), .val (.int d3), .val (.int d4), .val (.int p4), .val (.int f1), .val (.int f2), .val (.int f3), .val (.int f4), .val (.ref b843), .val (.ref b909), .val (.long (((0 : Int64) + (p4.toInt64)) + (f1.toInt64))), .second, .unset, .unset] [])) _
    refine Go.via (fun _ => XS.iload X940.here hx rfl (hb hby at_230) rfl) ?_
    refine Go.via (fun _ => XS.iconst X940.here hx rfl (hb hby at_232)) ?_
    refine Go.via (fun _ => XS.icmpYes X940.here hx rfl (pc0 := 233) (pc' := 244) rfl (hb hby at_233) rfl (flt ((by decide) : ¬ ((3 : Int32) < (2 : Int32)))).2.2.2 (by decide) (by decide)) ?_
    show Go p e below (T940.setTop (mkF m 244 #[.val (.int p0), .val (.int p1), .val (.int p2), .val (.int p3), .val (.int p4), .val (.int p5), .val (.int (2 : Int32)), .val (.int k), .val (.int p2), .val (.int d1), .val (.int d2), .val (.int d3), .val (.int d4), .val (.int p4), .val (.int f1), .val (.int f2), .val (.int f3), .val (.int f4), .val (.ref b843), .val (.ref b909), .val (.long (((0 : Int64) + (p4.toInt64)) + (f1.toInt64))), .second, .unset, .unset] [])) _
    refine Go.via (fun _ => XS.iload X940.here hx rfl (hb hby at_244) rfl) ?_
    refine Go.via (fun _ => XS.iconst X940.here hx rfl (hb hby at_246)) ?_
    refine Go.via (fun _ => XS.icmpYes X940.here hx rfl (pc0 := 247) (pc' := 258) rfl (hb hby at_247) rfl (flt ((by decide) : ¬ ((4 : Int32) < (2 : Int32)))).2.2.2 (by decide) (by decide)) ?_
    show Go p e below (T940.setTop (mkF m 258 #[.val (.int p0), .val (.int p1), .val (.int p2), .val (.int p3), .val (.int p4), .val (.int p5), .val (.int (2 : Int32)), .val (.int k), .val (.int p2), .val (.int d1), .val (.int d2), .val (.int d3), .val (.int d4), .val (.int p4), .val (.int f1), .val (.int f2), .val (.int f3), .val (.int f4), .val (.ref b843), .val (.ref b909), .val (.long (((0 : Int64) + (p4.toInt64)) + (f1.toInt64))), .second, .unset, .unset] [])) _
    refine Go.via (fun _ => XS.aload X940.here hx rfl (hb hby at_258) rfl rfl) ?_
    obtain ⟨cq942, kq942, q942a, q942b, q942c⟩ := isOf hZ e940 f934
    obtain ⟨_, _, ⟨T942, L942, k942, n942⟩, -, X942, ⟨Lc942, hQ942, l942, y942, z942⟩, st942⟩ := X940.virtualBack hx (y := (⟨"com/example/libcosearch/libcosearch/PostingList", "collectionFrequency", "()J"⟩ : MethodName)) (z := (⟨"com/example/libcosearch/libcosearch/PostingList", "collectionFrequency", "()J"⟩ : MethodName)) hown (mvT hZ (tw hw 52 rfl)) (mvT hZ (tw hw 53 rfl)) (notFace_of_selects (args := #[]) (mvT hZ (tw hw 55 rfl))) (mvT hZ (tw hw 55 rfl)) (mvT hZ (tw hw 54 rfl)) (by decide) (backOf (W := 0) (rmF l Z a0 hw [] b909 (((0 : Int64) + (p4.toInt64)) + (f1.toInt64)) T907.heap n0 z941 f937) hZ (tw hw 56 rfl) (tw hw 22 rfl) (by decide) (by decide)) q942a q942c (g := (mkF m 260 #[.val (.int p0), .val (.int p1), .val (.int p2), .val (.int p3), .val (.int p4), .val (.int p5), .val (.int (2 : Int32)), .val (.int k), .val (.int p2), .val (.int d1), .val (.int d2), .val (.int d3), .val (.int d4), .val (.int p4), .val (.int f1), .val (.int f2), .val (.int f3), .val (.int f4), .val (.ref b843), .val (.ref b909), .val (.long (((0 : Int64) + (p4.toInt64)) + (f1.toInt64))), .second, .unset, .unset] [(.ref b909)])) rfl (by rw [hml]; rfl) (Steps.refl _) (argsL := []) (rest := []) (lenOf pd__28_29J rfl) rfl (by show 2 * 0 + _ ≤ _; exact Nat.le_of_eq rfl) (hb hby at_260) (fun _ _ => ⟨rfl, e940, (by decide : 6 + 0 ≤ _), (by decide : 30 + 0 ≤ _)⟩)
    dsimp only [Pt.U, Pt.locs, Pt.cells, Pt.slots] at X942 l942 y942 z942 st942 hQ942
    subst l942 y942 z942
    obtain ⟨rfl, N942q, eh942⟩ := hQ942
    have N942 := Fr.app N940 N942q
    refine Go.via (fun _ kQ => st942.trans kQ) ?_
    clear st942
    have e942 : T942.heap = T907.heap := eh942
    clear X940 e940
    show Go p e below (T942.setTop (mkF m 263 #[.val (.int p0), .val (.int p1), .val (.int p2), .val (.int p3), .val (.int p4), .val (.int p5), .val (.int (2 : Int32)), .val (.int k), .val (.int p2), .val (.int d1), .val (.int d2), .val (.int d3), .val (.int d4), .val (.int p4), .val (.int f1), .val (.int f2), .val (.int f3), .val (.int f4), .val (.ref b843), .val (.ref b909), .val (.long (((0 : Int64) + (p4.toInt64)) + (f1.toInt64))), .second, .unset, .unset] [(.long (((0 : Int64) + (p4.toInt64)) + (f1.toInt64)))])) _
    refine Go.via (fun _ => XS.lload X942.here hx rfl (hb hby at_263) rfl) ?_
    refine Go.via (fun _ => XS.lcmp X942.here hx rfl (hb hby at_265) rfl) ?_
    show Go p e below (T942.setTop (mkF m 266 #[.val (.int p0), .val (.int p1), .val (.int p2), .val (.int p3), .val (.int p4), .val (.int p5), .val (.int (2 : Int32)), .val (.int k), .val (.int p2), .val (.int d1), .val (.int d2), .val (.int d3), .val (.int d4), .val (.int p4), .val (.int f1), .val (.int f2), .val (.int f3), .val (.int f4), .val (.ref b843), .val (.ref b909), .val (.long (((0 : Int64) + (p4.toInt64)) + (f1.toInt64))), .second, .unset, .unset] [(.int (lcmpW (((0 : Int64) + (p4.toInt64)) + (f1.toInt64)) (((0 : Int64) + (p4.toInt64)) + (f1.toInt64))))])) _
    refine Go.via (fun _ => XS.ifYes X942.here hx rfl (pc0 := 266) (pc' := 271) rfl (hb hby at_266) rfl ((if0 _ _).trans (teq ((own_lc _) : (lcmpW (((0 : Int64) + (p4.toInt64)) + (f1.toInt64)) (((0 : Int64) + (p4.toInt64)) + (f1.toInt64))) = (0 : Int32))).1) (by decide) (by decide)) ?_
    have X942m := X942.more (by decide : _ ≤ 11) (by decide : _ ≤ 50)
    have k943 : Keep h0 T907.heap [] := (k923.trans K907q all0)
    exact J T942 _ T907.heap (2 : Int32) k d1 d2 d3 d4 f1 f2 f3 f4 b843 b909 (((0 : Int64) + (p4.toInt64)) + (f1.toInt64)) b910 b911 [p2, d1] [p4, f1] X942m e942 N942 z941 k943 f934 f935 f936 f938 f939 (by intro q; rcases hk with rfl | rfl | rfl | rfl | rfl <;> first | exact absurd q (by decide) | exact ⟨by decide, rfl, rfl⟩)
  · show Go p e below (s₁.setTop (mkF m 84 #[.val (.int p0), .val (.int p1), .val (.int p2), .val (.int p3), .val (.int p4), .val (.int p5), .val (.int (3 : Int32)), .val (.int k), .val (.int p2), .val (.int d1), .val (.int d2), .val (.int d3), .val (.int d4), .val (.int p4), .val (.int f1), .val (.int f2), .val (.int f3), .val (.int f4), .unset, .unset, .unset, .unset, .unset, .unset] [])) _
    obtain ⟨T944, h944, X944, e944, E944, A944, D944, -, st944⟩ := newO X0 hx hZ hown (tw hw 1 rfl) (tw hw 2 rfl) (tw hw 3 rfl) e0 (g := (mkF m 84 #[.val (.int p0), .val (.int p1), .val (.int p2), .val (.int p3), .val (.int p4), .val (.int p5), .val (.int (3 : Int32)), .val (.int k), .val (.int p2), .val (.int d1), .val (.int d2), .val (.int d3), .val (.int d4), .val (.int p4), .val (.int f1), .val (.int f2), .val (.int f3), .val (.int f4), .unset, .unset, .unset, .unset, .unset, .unset] [])) rfl (hb hby at_84) (by decide) (by decide)
    obtain ⟨b944, g944⟩ : ∃ z, z = h0.size := ⟨_, rfl⟩
    rw [← g944] at A944 D944 st944
    have ge945 : n0 ≤ b944 := Nat.le_trans Z0 (Nat.le_of_eq g944.symm)
    have sz946 : h0.size ≤ b944 := Nat.le_trans (Keep.refl h0 []).1 (Nat.le_of_eq g944.symm)
    refine Go.via (st944) ?_
    clear st944
    have f947 : Fld Z h944 b944 "com/example/libcosearch/libcosearch/PostingList$Builder" "documents" "[I" .null := D944 (Or.inl (tw hw 12 rfl)) (ty := (.array .int)) (by decide)
    have f948 : Fld Z h944 b944 "com/example/libcosearch/libcosearch/PostingList$Builder" "frequencies" "[I" .null := D944 (Or.inl (tw hw 14 rfl)) (ty := (.array .int)) (by decide)
    have f949 : Fld Z h944 b944 "com/example/libcosearch/libcosearch/PostingList$Builder" "size" "I" (.int (0 : Int32)) := D944 (Or.inl (tw hw 24 rfl)) (ty := .int) (by decide)
    clear X0 e0
    show Go p e below (T944.setTop (mkF m 87 #[.val (.int p0), .val (.int p1), .val (.int p2), .val (.int p3), .val (.int p4), .val (.int p5), .val (.int (3 : Int32)), .val (.int k), .val (.int p2), .val (.int d1), .val (.int d2), .val (.int d3), .val (.int d4), .val (.int p4), .val (.int f1), .val (.int f2), .val (.int f3), .val (.int f4), .unset, .unset, .unset, .unset, .unset, .unset] [(.ref b944)])) _
    refine Go.via (fun _ => XS.dup X944.here hx rfl (hb hby at_87) rfl rfl) ?_
    have z951 : n0 ≤ h944.size := (Nat.le_trans Z0 E944.1)
    obtain ⟨_, _, ⟨T950, L950, k950, n950⟩, -, X950, ⟨Lc950, hQ950, l950, y950, z950⟩, st950⟩ := X944.specialBack hx (y := (⟨"com/example/libcosearch/libcosearch/PostingList$Builder", "<init>", "()V"⟩ : MethodName)) rfl hown (mvT hZ (tw hw 4 rfl)) (mvT hZ (tw hw 5 rfl)) (mvT hZ (tw hw 6 rfl)) (by decide) (backOf (W := 1) (rmB l Z a0 hw [] b944  h944 n0 z951 A944 f947 f948 f949 ge945) hZ (tw hw 6 rfl) (tw hw 3 rfl) (by decide) (by decide)) (g := (mkF m 88 #[.val (.int p0), .val (.int p1), .val (.int p2), .val (.int p3), .val (.int p4), .val (.int p5), .val (.int (3 : Int32)), .val (.int k), .val (.int p2), .val (.int d1), .val (.int d2), .val (.int d3), .val (.int d4), .val (.int p4), .val (.int f1), .val (.int f2), .val (.int f3), .val (.int f4), .unset, .unset, .unset, .unset, .unset, .unset] [(.ref b944), (.ref b944)])) rfl (by rw [hml]; rfl) (Steps.refl _) (a := b944) (argsL := []) (rest := [(.ref b944)]) (lenOf pd__28_29V rfl) rfl (by show 2 * 0 + _ ≤ _; exact Nat.le_of_eq rfl) (hb hby at_88) (fun _ _ => ⟨rfl, e944, (by decide : 1 + 2 ≤ _), (by decide : 3 + 8 ≤ _)⟩)
    dsimp only [Pt.U, Pt.locs, Pt.cells, Pt.slots] at X950 l950 y950 z950 st950 hQ950
    subst l950 y950 z950
    obtain ⟨b952, b953, rfl, N950q, K950q, fz_b952, fz_b953, f954, f955, f956, f957, f958, f959, f960, f961, qp962⟩ := hQ950
    have N950 := Fr.app N0 N950q
    refine Go.via (fun _ kQ => st950.trans kQ) ?_
    clear st950
    have ne963 : b944 ≠ b952 := Nat.ne_of_lt (Nat.lt_of_lt_of_le A944.lt fz_b952)
    have ge964 : n0 ≤ b952 := Nat.le_trans z951 fz_b952
    have k966 : Keep h0 h944 [] := ((Keep.refl h0 []).ext E944)
    have sz965 : h0.size ≤ b952 := Nat.le_trans k966.1 fz_b952
    have ne967 : b944 ≠ b953 := Nat.ne_of_lt (Nat.lt_of_lt_of_le A944.lt fz_b953)
    have ge968 : n0 ≤ b953 := Nat.le_trans z951 fz_b953
    have sz969 : h0.size ≤ b953 := Nat.le_trans k966.1 fz_b953
    have e950 : T950.heap = T950.heap := rfl
    have f970 : Exa Z T950.heap b944 "com/example/libcosearch/libcosearch/PostingList$Builder" := f954
    have f971 : Fld Z T950.heap b944 "com/example/libcosearch/libcosearch/PostingList$Builder" "documents" "[I" (.ref b952) := f955
    have f972 : Fld Z T950.heap b944 "com/example/libcosearch/libcosearch/PostingList$Builder" "frequencies" "[I" (.ref b953) := f956
    have f973 : Fld Z T950.heap b944 "com/example/libcosearch/libcosearch/PostingList$Builder" "size" "I" (.int (0 : Int32)) := f957
    have f974 : Ia Z T950.heap b952 .int [(0 : Int32), (0 : Int32), (0 : Int32), (0 : Int32)] := f958
    have f975 : Ia Z T950.heap b953 .int [(0 : Int32), (0 : Int32), (0 : Int32), (0 : Int32)] := f959
    have f976 : Exa Z T950.heap b952 "[I" := f960
    have f977 : Exa Z T950.heap b953 "[I" := f961
    clear X944 e944
    show Go p e below (T950.setTop (mkF m 91 #[.val (.int p0), .val (.int p1), .val (.int p2), .val (.int p3), .val (.int p4), .val (.int p5), .val (.int (3 : Int32)), .val (.int k), .val (.int p2), .val (.int d1), .val (.int d2), .val (.int d3), .val (.int d4), .val (.int p4), .val (.int f1), .val (.int f2), .val (.int f3), .val (.int f4), .unset, .unset, .unset, .unset, .unset, .unset] [(.ref b944)])) _
    refine Go.via (fun _ => XS.astore X950.here hx rfl (hb hby at_91) rfl rfl (l' := #[.val (.int p0), .val (.int p1), .val (.int p2), .val (.int p3), .val (.int p4), .val (.int p5), .val (.int (3 : Int32)), .val (.int k), .val (.int p2), .val (.int d1), .val (.int d2), .val (.int d3), .val (.int d4), .val (.int p4), .val (.int f1), .val (.int f2), .val (.int f3), .val (.int f4), .val (.ref b944), .unset, .unset, .unset, .unset, .unset]) rfl) ?_
    show Go p e below (T950.setTop (mkF m 93 #[.val (.int p0), .val (.int p1), .val (.int p2), .val (.int p3), .val (.int p4), .val (.int p5), .val (.int (3 : Int32)), .val (.int k), .val (.int p2), .val (.int d1), .val (.int d2), .val (.int d3), .val (.int d4), .val (.int p4), .val (.int f1), .val (.int f2), .val (.int f3), .val (.int f4), .val (.ref b944), .unset, .unset, .unset, .unset, .unset] [])) _
    refine Go.via (fun _ => XS.iload X950.here hx rfl (hb hby at_93) rfl) ?_
    refine Go.via (fun _ => XS.ifNo X950.here hx rfl (hb hby at_95) rfl ((if0 _ _).trans (tlt ((by decide) : (0 : Int32) < (3 : Int32))).2.2.2)) ?_
    show Go p e below (T950.setTop (mkF m 98 #[.val (.int p0), .val (.int p1), .val (.int p2), .val (.int p3), .val (.int p4), .val (.int p5), .val (.int (3 : Int32)), .val (.int k), .val (.int p2), .val (.int d1), .val (.int d2), .val (.int d3), .val (.int d4), .val (.int p4), .val (.int f1), .val (.int f2), .val (.int f3), .val (.int f4), .val (.ref b944), .unset, .unset, .unset, .unset, .unset] [])) _
    refine Go.via (fun _ => XS.aload X950.here hx rfl (hb hby at_98) rfl rfl) ?_
    refine Go.via (fun _ => XS.iload X950.here hx rfl (hb hby at_100) rfl) ?_
    refine Go.via (fun _ => XS.iload X950.here hx rfl (hb hby at_102) rfl) ?_
    have z979 : n0 ≤ T950.heap.size := (Nat.le_trans z951 K950q.1)
    obtain ⟨cq978, kq978, q978a, q978b, q978c⟩ := isOf hZ e950 f970
    obtain ⟨_, _, ⟨T978, L978, k978, n978⟩, -, X978, ⟨Lc978, hQ978, l978, y978, z978⟩, st978⟩ := X950.virtualBack hx (y := (⟨"com/example/libcosearch/libcosearch/PostingList$Builder", "add", "(II)V"⟩ : MethodName)) (z := (⟨"com/example/libcosearch/libcosearch/PostingList$Builder", "add", "(II)V"⟩ : MethodName)) hown (mvT hZ (tw hw 57 rfl)) (mvT hZ (tw hw 58 rfl)) (notFace_of_selects (args := #[]) (mvT hZ (tw hw 60 rfl))) (mvT hZ (tw hw 60 rfl)) (mvT hZ (tw hw 59 rfl)) (by decide) (backOf (W := 0) (rmA l Z a0 hw [] b944 p2 p4 b952 b953 [(0 : Int32), (0 : Int32), (0 : Int32), (0 : Int32)] [(0 : Int32), (0 : Int32), (0 : Int32), (0 : Int32)] (0 : Int32) T950.heap n0 z979 f970 f971 f972 f973 f974 f975 ge945 ge964 ge968 ne963 ne967 qp962 (by first | decide | (simp only [List.length_cons, List.length_nil]; decide) | rfl) (by first | decide | (simp only [List.length_cons, List.length_nil]; decide) | rfl) (by first | decide | (simp only [List.length_cons, List.length_nil]; decide) | rfl) (by first | decide | (simp only [List.length_cons, List.length_nil]; decide) | rfl)) hZ (tw hw 61 rfl) (tw hw 3 rfl) (by decide) (by decide)) q978a q978c (g := (mkF m 104 #[.val (.int p0), .val (.int p1), .val (.int p2), .val (.int p3), .val (.int p4), .val (.int p5), .val (.int (3 : Int32)), .val (.int k), .val (.int p2), .val (.int d1), .val (.int d2), .val (.int d3), .val (.int d4), .val (.int p4), .val (.int f1), .val (.int f2), .val (.int f3), .val (.int f4), .val (.ref b944), .unset, .unset, .unset, .unset, .unset] [(.int p4), (.int p2), (.ref b944)])) rfl (by rw [hml]; rfl) (Steps.refl _) (argsL := [(.int p2), (.int p4)]) (rest := []) (lenOf pd__28II_29V rfl) rfl (by show 2 * 0 + _ ≤ _; exact Nat.le_of_eq rfl) (hb hby at_104) (fun _ _ => ⟨rfl, e950, (by decide : 3 + 0 ≤ _), (by decide : 11 + 0 ≤ _)⟩)
    dsimp only [Pt.U, Pt.locs, Pt.cells, Pt.slots] at X978 l978 y978 z978 st978 hQ978
    subst l978 y978 z978
    obtain ⟨rfl, N978q, K978q, f980, f981, f982, f983, f984, f985⟩ := hQ978
    have N978 := Fr.app N950 N978q
    refine Go.via (fun _ kQ => st978.trans kQ) ?_
    clear st978
    have e978 : T978.heap = T978.heap := rfl
    have f986 : Exa Z T978.heap b944 "com/example/libcosearch/libcosearch/PostingList$Builder" := f980
    have f987 : Fld Z T978.heap b944 "com/example/libcosearch/libcosearch/PostingList$Builder" "documents" "[I" (.ref b952) := f981
    have f988 : Fld Z T978.heap b944 "com/example/libcosearch/libcosearch/PostingList$Builder" "frequencies" "[I" (.ref b953) := f982
    have f989 : Fld Z T978.heap b944 "com/example/libcosearch/libcosearch/PostingList$Builder" "size" "I" (.int (1 : Int32)) := f983
    have f990 : Ia Z T978.heap b952 .int [p2, (0 : Int32), (0 : Int32), (0 : Int32)] := f984
    have f991 : Ia Z T978.heap b953 .int [p4, (0 : Int32), (0 : Int32), (0 : Int32)] := f985
    clear X950 e950
    show Go p e below (T978.setTop (mkF m 107 #[.val (.int p0), .val (.int p1), .val (.int p2), .val (.int p3), .val (.int p4), .val (.int p5), .val (.int (3 : Int32)), .val (.int k), .val (.int p2), .val (.int d1), .val (.int d2), .val (.int d3), .val (.int d4), .val (.int p4), .val (.int f1), .val (.int f2), .val (.int f3), .val (.int f4), .val (.ref b944), .unset, .unset, .unset, .unset, .unset] [])) _
    refine Go.via (fun _ => XS.iload X978.here hx rfl (hb hby at_107) rfl) ?_
    refine Go.via (fun _ => XS.iconst X978.here hx rfl (hb hby at_109)) ?_
    refine Go.via (fun _ => XS.icmpNo X978.here hx rfl (hb hby at_110) rfl (tlt ((by decide) : (1 : Int32) < (3 : Int32))).2.2.2) ?_
    show Go p e below (T978.setTop (mkF m 113 #[.val (.int p0), .val (.int p1), .val (.int p2), .val (.int p3), .val (.int p4), .val (.int p5), .val (.int (3 : Int32)), .val (.int k), .val (.int p2), .val (.int d1), .val (.int d2), .val (.int d3), .val (.int d4), .val (.int p4), .val (.int f1), .val (.int f2), .val (.int f3), .val (.int f4), .val (.ref b944), .unset, .unset, .unset, .unset, .unset] [])) _
    refine Go.via (fun _ => XS.aload X978.here hx rfl (hb hby at_113) rfl rfl) ?_
    refine Go.via (fun _ => XS.iload X978.here hx rfl (hb hby at_115) rfl) ?_
    refine Go.via (fun _ => XS.iload X978.here hx rfl (hb hby at_117) rfl) ?_
    have z993 : n0 ≤ T978.heap.size := (Nat.le_trans z979 K978q.1)
    obtain ⟨cq992, kq992, q992a, q992b, q992c⟩ := isOf hZ e978 f986
    obtain ⟨_, _, ⟨T992, L992, k992, n992⟩, -, X992, ⟨Lc992, hQ992, l992, y992, z992⟩, st992⟩ := X978.virtualBack hx (y := (⟨"com/example/libcosearch/libcosearch/PostingList$Builder", "add", "(II)V"⟩ : MethodName)) (z := (⟨"com/example/libcosearch/libcosearch/PostingList$Builder", "add", "(II)V"⟩ : MethodName)) hown (mvT hZ (tw hw 57 rfl)) (mvT hZ (tw hw 58 rfl)) (notFace_of_selects (args := #[]) (mvT hZ (tw hw 60 rfl))) (mvT hZ (tw hw 60 rfl)) (mvT hZ (tw hw 59 rfl)) (by decide) (backOf (W := 0) (rmA l Z a0 hw [] b944 d1 f1 b952 b953 [p2, (0 : Int32), (0 : Int32), (0 : Int32)] [p4, (0 : Int32), (0 : Int32), (0 : Int32)] (1 : Int32) T978.heap n0 z993 f986 f987 f988 f989 f990 f991 ge945 ge964 ge968 ne963 ne967 qp962 (by first | decide | (simp only [List.length_cons, List.length_nil]; decide) | rfl) (by first | decide | (simp only [List.length_cons, List.length_nil]; decide) | rfl) (by first | decide | (simp only [List.length_cons, List.length_nil]; decide) | rfl) (by first | decide | (simp only [List.length_cons, List.length_nil]; decide) | rfl)) hZ (tw hw 61 rfl) (tw hw 3 rfl) (by decide) (by decide)) q992a q992c (g := (mkF m 119 #[.val (.int p0), .val (.int p1), .val (.int p2), .val (.int p3), .val (.int p4), .val (.int p5), .val (.int (3 : Int32)), .val (.int k), .val (.int p2), .val (.int d1), .val (.int d2), .val (.int d3), .val (.int d4), .val (.int p4), .val (.int f1), .val (.int f2), .val (.int f3), .val (.int f4), .val (.ref b944), .unset, .unset, .unset, .unset, .unset] [(.int f1), (.int d1), (.ref b944)])) rfl (by rw [hml]; rfl) (Steps.refl _) (argsL := [(.int d1), (.int f1)]) (rest := []) (lenOf pd__28II_29V rfl) rfl (by show 2 * 0 + _ ≤ _; exact Nat.le_of_eq rfl) (hb hby at_119) (fun _ _ => ⟨rfl, e978, (by decide : 3 + 0 ≤ _), (by decide : 11 + 0 ≤ _)⟩)
    dsimp only [Pt.U, Pt.locs, Pt.cells, Pt.slots] at X992 l992 y992 z992 st992 hQ992
    subst l992 y992 z992
    obtain ⟨rfl, N992q, K992q, f994, f995, f996, f997, f998, f999⟩ := hQ992
    have N992 := Fr.app N978 N992q
    refine Go.via (fun _ kQ => st992.trans kQ) ?_
    clear st992
    have e992 : T992.heap = T992.heap := rfl
    have f1000 : Exa Z T992.heap b944 "com/example/libcosearch/libcosearch/PostingList$Builder" := f994
    have f1001 : Fld Z T992.heap b944 "com/example/libcosearch/libcosearch/PostingList$Builder" "documents" "[I" (.ref b952) := f995
    have f1002 : Fld Z T992.heap b944 "com/example/libcosearch/libcosearch/PostingList$Builder" "frequencies" "[I" (.ref b953) := f996
    have f1003 : Fld Z T992.heap b944 "com/example/libcosearch/libcosearch/PostingList$Builder" "size" "I" (.int (2 : Int32)) := f997
    have f1004 : Ia Z T992.heap b952 .int [p2, d1, (0 : Int32), (0 : Int32)] := f998
    have f1005 : Ia Z T992.heap b953 .int [p4, f1, (0 : Int32), (0 : Int32)] := f999
    clear X978 e978
    show Go p e below (T992.setTop (mkF m 122 #[.val (.int p0), .val (.int p1), .val (.int p2), .val (.int p3), .val (.int p4), .val (.int p5), .val (.int (3 : Int32)), .val (.int k), .val (.int p2), .val (.int d1), .val (.int d2), .val (.int d3), .val (.int d4), .val (.int p4), .val (.int f1), .val (.int f2), .val (.int f3), .val (.int f4), .val (.ref b944), .unset, .unset, .unset, .unset, .unset] [])) _
    refine Go.via (fun _ => XS.iload X992.here hx rfl (hb hby at_122) rfl) ?_
    refine Go.via (fun _ => XS.iconst X992.here hx rfl (hb hby at_124)) ?_
    refine Go.via (fun _ => XS.icmpNo X992.here hx rfl (hb hby at_125) rfl (tlt ((by decide) : (2 : Int32) < (3 : Int32))).2.2.2) ?_
    show Go p e below (T992.setTop (mkF m 128 #[.val (.int p0), .val (.int p1), .val (.int p2), .val (.int p3), .val (.int p4), .val (.int p5), .val (.int (3 : Int32)), .val (.int k), .val (.int p2), .val (.int d1), .val (.int d2), .val (.int d3), .val (.int d4), .val (.int p4), .val (.int f1), .val (.int f2), .val (.int f3), .val (.int f4), .val (.ref b944), .unset, .unset, .unset, .unset, .unset] [])) _
    refine Go.via (fun _ => XS.aload X992.here hx rfl (hb hby at_128) rfl rfl) ?_
    refine Go.via (fun _ => XS.iload X992.here hx rfl (hb hby at_130) rfl) ?_
    refine Go.via (fun _ => XS.iload X992.here hx rfl (hb hby at_132) rfl) ?_
    have z1007 : n0 ≤ T992.heap.size := (Nat.le_trans z993 K992q.1)
    obtain ⟨cq1006, kq1006, q1006a, q1006b, q1006c⟩ := isOf hZ e992 f1000
    obtain ⟨_, _, ⟨T1006, L1006, k1006, n1006⟩, -, X1006, ⟨Lc1006, hQ1006, l1006, y1006, z1006⟩, st1006⟩ := X992.virtualBack hx (y := (⟨"com/example/libcosearch/libcosearch/PostingList$Builder", "add", "(II)V"⟩ : MethodName)) (z := (⟨"com/example/libcosearch/libcosearch/PostingList$Builder", "add", "(II)V"⟩ : MethodName)) hown (mvT hZ (tw hw 57 rfl)) (mvT hZ (tw hw 58 rfl)) (notFace_of_selects (args := #[]) (mvT hZ (tw hw 60 rfl))) (mvT hZ (tw hw 60 rfl)) (mvT hZ (tw hw 59 rfl)) (by decide) (backOf (W := 0) (rmA l Z a0 hw [] b944 d2 f2 b952 b953 [p2, d1, (0 : Int32), (0 : Int32)] [p4, f1, (0 : Int32), (0 : Int32)] (2 : Int32) T992.heap n0 z1007 f1000 f1001 f1002 f1003 f1004 f1005 ge945 ge964 ge968 ne963 ne967 qp962 (by first | decide | (simp only [List.length_cons, List.length_nil]; decide) | rfl) (by first | decide | (simp only [List.length_cons, List.length_nil]; decide) | rfl) (by first | decide | (simp only [List.length_cons, List.length_nil]; decide) | rfl) (by first | decide | (simp only [List.length_cons, List.length_nil]; decide) | rfl)) hZ (tw hw 61 rfl) (tw hw 3 rfl) (by decide) (by decide)) q1006a q1006c (g := (mkF m 134 #[.val (.int p0), .val (.int p1), .val (.int p2), .val (.int p3), .val (.int p4), .val (.int p5), .val (.int (3 : Int32)), .val (.int k), .val (.int p2), .val (.int d1), .val (.int d2), .val (.int d3), .val (.int d4), .val (.int p4), .val (.int f1), .val (.int f2), .val (.int f3), .val (.int f4), .val (.ref b944), .unset, .unset, .unset, .unset, .unset] [(.int f2), (.int d2), (.ref b944)])) rfl (by rw [hml]; rfl) (Steps.refl _) (argsL := [(.int d2), (.int f2)]) (rest := []) (lenOf pd__28II_29V rfl) rfl (by show 2 * 0 + _ ≤ _; exact Nat.le_of_eq rfl) (hb hby at_134) (fun _ _ => ⟨rfl, e992, (by decide : 3 + 0 ≤ _), (by decide : 11 + 0 ≤ _)⟩)
    dsimp only [Pt.U, Pt.locs, Pt.cells, Pt.slots] at X1006 l1006 y1006 z1006 st1006 hQ1006
    subst l1006 y1006 z1006
    obtain ⟨rfl, N1006q, K1006q, f1008, f1009, f1010, f1011, f1012, f1013⟩ := hQ1006
    have N1006 := Fr.app N992 N1006q
    refine Go.via (fun _ kQ => st1006.trans kQ) ?_
    clear st1006
    have e1006 : T1006.heap = T1006.heap := rfl
    have f1014 : Exa Z T1006.heap b944 "com/example/libcosearch/libcosearch/PostingList$Builder" := f1008
    have f1015 : Fld Z T1006.heap b944 "com/example/libcosearch/libcosearch/PostingList$Builder" "documents" "[I" (.ref b952) := f1009
    have f1016 : Fld Z T1006.heap b944 "com/example/libcosearch/libcosearch/PostingList$Builder" "frequencies" "[I" (.ref b953) := f1010
    have f1017 : Fld Z T1006.heap b944 "com/example/libcosearch/libcosearch/PostingList$Builder" "size" "I" (.int (3 : Int32)) := f1011
    have f1018 : Ia Z T1006.heap b952 .int [p2, d1, d2, (0 : Int32)] := f1012
    have f1019 : Ia Z T1006.heap b953 .int [p4, f1, f2, (0 : Int32)] := f1013
    clear X992 e992
    show Go p e below (T1006.setTop (mkF m 137 #[.val (.int p0), .val (.int p1), .val (.int p2), .val (.int p3), .val (.int p4), .val (.int p5), .val (.int (3 : Int32)), .val (.int k), .val (.int p2), .val (.int d1), .val (.int d2), .val (.int d3), .val (.int d4), .val (.int p4), .val (.int f1), .val (.int f2), .val (.int f3), .val (.int f4), .val (.ref b944), .unset, .unset, .unset, .unset, .unset] [])) _
    refine Go.via (fun _ => XS.iload X1006.here hx rfl (hb hby at_137) rfl) ?_
    refine Go.via (fun _ => XS.iconst X1006.here hx rfl (hb hby at_139)) ?_
    refine Go.via (fun _ => XS.icmpYes X1006.here hx rfl (pc0 := 140) (pc' := 152) rfl (hb hby at_140) rfl (flt ((by decide) : ¬ ((3 : Int32) < (3 : Int32)))).2.2.2 (by decide) (by decide)) ?_
    show Go p e below (T1006.setTop (mkF m 152 #[.val (.int p0), .val (.int p1), .val (.int p2), .val (.int p3), .val (.int p4), .val (.int p5), .val (.int (3 : Int32)), .val (.int k), .val (.int p2), .val (.int d1), .val (.int d2), .val (.int d3), .val (.int d4), .val (.int p4), .val (.int f1), .val (.int f2), .val (.int f3), .val (.int f4), .val (.ref b944), .unset, .unset, .unset, .unset, .unset] [])) _
    refine Go.via (fun _ => XS.iload X1006.here hx rfl (hb hby at_152) rfl) ?_
    refine Go.via (fun _ => XS.iconst X1006.here hx rfl (hb hby at_154)) ?_
    refine Go.via (fun _ => XS.icmpYes X1006.here hx rfl (pc0 := 155) (pc' := 167) rfl (hb hby at_155) rfl (flt ((by decide) : ¬ ((4 : Int32) < (3 : Int32)))).2.2.2 (by decide) (by decide)) ?_
    show Go p e below (T1006.setTop (mkF m 167 #[.val (.int p0), .val (.int p1), .val (.int p2), .val (.int p3), .val (.int p4), .val (.int p5), .val (.int (3 : Int32)), .val (.int k), .val (.int p2), .val (.int d1), .val (.int d2), .val (.int d3), .val (.int d4), .val (.int p4), .val (.int f1), .val (.int f2), .val (.int f3), .val (.int f4), .val (.ref b944), .unset, .unset, .unset, .unset, .unset] [])) _
    refine Go.via (fun _ => XS.aload X1006.here hx rfl (hb hby at_167) rfl rfl) ?_
    have f1020 : Exa Z T1006.heap b952 "[I" := (((f976.keep K978q).keep K992q).keep K1006q)
    have f1021 : Exa Z T1006.heap b953 "[I" := (((f977.keep K978q).keep K992q).keep K1006q)
    have z1023 : n0 ≤ T1006.heap.size := (Nat.le_trans z1007 K1006q.1)
    obtain ⟨cq1022, kq1022, q1022a, q1022b, q1022c⟩ := isOf hZ e1006 f1014
    obtain ⟨_, _, ⟨T1022, L1022, k1022, n1022⟩, -, X1022, ⟨Lc1022, hQ1022, l1022, y1022, z1022⟩, st1022⟩ := X1006.virtualBack hx (y := (⟨"com/example/libcosearch/libcosearch/PostingList$Builder", "build", "()Lcom/example/libcosearch/libcosearch/PostingList;"⟩ : MethodName)) (z := (⟨"com/example/libcosearch/libcosearch/PostingList$Builder", "build", "()Lcom/example/libcosearch/libcosearch/PostingList;"⟩ : MethodName)) hown (mvT hZ (tw hw 15 rfl)) (mvT hZ (tw hw 16 rfl)) (notFace_of_selects (args := #[]) (mvT hZ (tw hw 18 rfl))) (mvT hZ (tw hw 18 rfl)) (mvT hZ (tw hw 17 rfl)) (by decide) (backOf (W := 0) (rmU3 l Z a0 hw [] b944 b952 b953 p2 d1 d2 (0 : Int32) p4 f1 f2 (0 : Int32) T1006.heap n0 z1023 f1015 f1016 f1017 f1018 f1019 f1020 f1021) hZ (tw hw 19 rfl) (tw hw 3 rfl) (by decide) (by decide)) q1022a q1022c (g := (mkF m 169 #[.val (.int p0), .val (.int p1), .val (.int p2), .val (.int p3), .val (.int p4), .val (.int p5), .val (.int (3 : Int32)), .val (.int k), .val (.int p2), .val (.int d1), .val (.int d2), .val (.int d3), .val (.int d4), .val (.int p4), .val (.int f1), .val (.int f2), .val (.int f3), .val (.int f4), .val (.ref b944), .unset, .unset, .unset, .unset, .unset] [(.ref b944)])) rfl (by rw [hml]; rfl) (Steps.refl _) (argsL := []) (rest := []) (lenOf pd__28_29Lcom_2fexample_2flibcosearch_2flibcosearch_2fPostingList_3b rfl) rfl (by show 2 * 0 + _ ≤ _; exact Nat.le_of_eq rfl) (hb hby at_169) (fun _ _ => ⟨rfl, e1006, (by decide : 3 + 3 ≤ _), (by decide : 11 + 19 ≤ _)⟩)
    dsimp only [Pt.U, Pt.locs, Pt.cells, Pt.slots] at X1022 l1022 y1022 z1022 st1022 hQ1022
    subst l1022 y1022 z1022
    obtain ⟨b1024, b1025, b1026, rfl, N1022q, K1022q, fz_b1024, fz_b1025, fz_b1026, f1027, f1028, f1029, f1030, f1031, f1032⟩ := hQ1022
    have N1022 := Fr.app N1006 N1022q
    refine Go.via (fun _ kQ => st1022.trans kQ) ?_
    clear st1022
    have ne1033 : b944 ≠ b1024 := Nat.ne_of_lt (Nat.lt_of_lt_of_le f1014.lt fz_b1024)
    have ne1034 : b952 ≠ b1024 := Nat.ne_of_lt (Nat.lt_of_lt_of_le f1018.lt fz_b1024)
    have ne1035 : b953 ≠ b1024 := Nat.ne_of_lt (Nat.lt_of_lt_of_le f1019.lt fz_b1024)
    have ge1036 : n0 ≤ b1024 := Nat.le_trans z1023 fz_b1024
    have k1038 : Keep h0 T1006.heap [] := ((((k966.trans K950q (allS (Or.inr sz946) all0)).trans K978q (allS (Or.inr sz946) (allS (Or.inr sz965) (allS (Or.inr sz969) all0)))).trans K992q (allS (Or.inr sz946) (allS (Or.inr sz965) (allS (Or.inr sz969) all0)))).trans K1006q (allS (Or.inr sz946) (allS (Or.inr sz965) (allS (Or.inr sz969) all0))))
    have sz1037 : h0.size ≤ b1024 := Nat.le_trans k1038.1 fz_b1024
    have ne1039 : b944 ≠ b1025 := Nat.ne_of_lt (Nat.lt_of_lt_of_le f1014.lt fz_b1025)
    have ne1040 : b952 ≠ b1025 := Nat.ne_of_lt (Nat.lt_of_lt_of_le f1018.lt fz_b1025)
    have ne1041 : b953 ≠ b1025 := Nat.ne_of_lt (Nat.lt_of_lt_of_le f1019.lt fz_b1025)
    have ge1042 : n0 ≤ b1025 := Nat.le_trans z1023 fz_b1025
    have sz1043 : h0.size ≤ b1025 := Nat.le_trans k1038.1 fz_b1025
    have ne1044 : b944 ≠ b1026 := Nat.ne_of_lt (Nat.lt_of_lt_of_le f1014.lt fz_b1026)
    have ne1045 : b952 ≠ b1026 := Nat.ne_of_lt (Nat.lt_of_lt_of_le f1018.lt fz_b1026)
    have ne1046 : b953 ≠ b1026 := Nat.ne_of_lt (Nat.lt_of_lt_of_le f1019.lt fz_b1026)
    have ge1047 : n0 ≤ b1026 := Nat.le_trans z1023 fz_b1026
    have sz1048 : h0.size ≤ b1026 := Nat.le_trans k1038.1 fz_b1026
    have e1022 : T1022.heap = T1022.heap := rfl
    have f1049 : Exa Z T1022.heap b1024 "com/example/libcosearch/libcosearch/PostingList" := f1027
    have f1050 : Fld Z T1022.heap b1024 "com/example/libcosearch/libcosearch/PostingList" "documents" "[I" (.ref b1025) := f1028
    have f1051 : Fld Z T1022.heap b1024 "com/example/libcosearch/libcosearch/PostingList" "frequencies" "[I" (.ref b1026) := f1029
    have f1052 : Fld Z T1022.heap b1024 "com/example/libcosearch/libcosearch/PostingList" "collectionFrequency" "J" (.long ((((0 : Int64) + (p4.toInt64)) + (f1.toInt64)) + (f2.toInt64))) := f1030
    have f1053 : Ia Z T1022.heap b1025 .int [p2, d1, d2] := f1031
    have f1054 : Ia Z T1022.heap b1026 .int [p4, f1, f2] := f1032
    clear X1006 e1006
    show Go p e below (T1022.setTop (mkF m 172 #[.val (.int p0), .val (.int p1), .val (.int p2), .val (.int p3), .val (.int p4), .val (.int p5), .val (.int (3 : Int32)), .val (.int k), .val (.int p2), .val (.int d1), .val (.int d2), .val (.int d3), .val (.int d4), .val (.int p4), .val (.int f1), .val (.int f2), .val (.int f3), .val (.int f4), .val (.ref b944), .unset, .unset, .unset, .unset, .unset] [(.ref b1024)])) _
    refine Go.via (fun _ => XS.astore X1022.here hx rfl (hb hby at_172) rfl rfl (l' := #[.val (.int p0), .val (.int p1), .val (.int p2), .val (.int p3), .val (.int p4), .val (.int p5), .val (.int (3 : Int32)), .val (.int k), .val (.int p2), .val (.int d1), .val (.int d2), .val (.int d3), .val (.int d4), .val (.int p4), .val (.int f1), .val (.int f2), .val (.int f3), .val (.int f4), .val (.ref b944), .val (.ref b1024), .unset, .unset, .unset, .unset]) rfl) ?_
    show Go p e below (T1022.setTop (mkF m 174 #[.val (.int p0), .val (.int p1), .val (.int p2), .val (.int p3), .val (.int p4), .val (.int p5), .val (.int (3 : Int32)), .val (.int k), .val (.int p2), .val (.int d1), .val (.int d2), .val (.int d3), .val (.int d4), .val (.int p4), .val (.int f1), .val (.int f2), .val (.int f3), .val (.int f4), .val (.ref b944), .val (.ref b1024), .unset, .unset, .unset, .unset] [])) _
    refine Go.via (fun _ => XS.aload X1022.here hx rfl (hb hby at_174) rfl rfl) ?_
    have z1056 : n0 ≤ T1022.heap.size := (Nat.le_trans z1023 K1022q.1)
    obtain ⟨cq1055, kq1055, q1055a, q1055b, q1055c⟩ := isOf hZ e1022 f1049
    obtain ⟨_, _, ⟨T1055, L1055, k1055, n1055⟩, -, X1055, ⟨Lc1055, hQ1055, l1055, y1055, z1055⟩, st1055⟩ := X1022.virtualBack hx (y := (⟨"com/example/libcosearch/libcosearch/PostingList", "size", "()I"⟩ : MethodName)) (z := (⟨"com/example/libcosearch/libcosearch/PostingList", "size", "()I"⟩ : MethodName)) hown (mvT hZ (tw hw 47 rfl)) (mvT hZ (tw hw 48 rfl)) (notFace_of_selects (args := #[]) (mvT hZ (tw hw 50 rfl))) (mvT hZ (tw hw 50 rfl)) (mvT hZ (tw hw 49 rfl)) (by decide) (backOf (W := 0) (rmS l Z a0 hw [] b1024 b1025 [p2, d1, d2] T1022.heap n0 z1056 f1050 f1053) hZ (tw hw 51 rfl) (tw hw 22 rfl) (by decide) (by decide)) q1055a q1055c (g := (mkF m 176 #[.val (.int p0), .val (.int p1), .val (.int p2), .val (.int p3), .val (.int p4), .val (.int p5), .val (.int (3 : Int32)), .val (.int k), .val (.int p2), .val (.int d1), .val (.int d2), .val (.int d3), .val (.int d4), .val (.int p4), .val (.int f1), .val (.int f2), .val (.int f3), .val (.int f4), .val (.ref b944), .val (.ref b1024), .unset, .unset, .unset, .unset] [(.ref b1024)])) rfl (by rw [hml]; rfl) (Steps.refl _) (argsL := []) (rest := []) (lenOf pd__28_29I rfl) rfl (by show 2 * 0 + _ ≤ _; exact Nat.le_of_eq rfl) (hb hby at_176) (fun _ _ => ⟨rfl, e1022, (by decide : 6 + 0 ≤ _), (by decide : 30 + 0 ≤ _)⟩)
    dsimp only [Pt.U, Pt.locs, Pt.cells, Pt.slots] at X1055 l1055 y1055 z1055 st1055 hQ1055
    subst l1055 y1055 z1055
    obtain ⟨rfl, N1055q, eh1055⟩ := hQ1055
    have N1055 := Fr.app N1022 N1055q
    refine Go.via (fun _ kQ => st1055.trans kQ) ?_
    clear st1055
    have e1055 : T1055.heap = T1022.heap := eh1055
    clear X1022 e1022
    show Go p e below (T1055.setTop (mkF m 179 #[.val (.int p0), .val (.int p1), .val (.int p2), .val (.int p3), .val (.int p4), .val (.int p5), .val (.int (3 : Int32)), .val (.int k), .val (.int p2), .val (.int d1), .val (.int d2), .val (.int d3), .val (.int d4), .val (.int p4), .val (.int f1), .val (.int f2), .val (.int f3), .val (.int f4), .val (.ref b944), .val (.ref b1024), .unset, .unset, .unset, .unset] [(.int (3 : Int32))])) _
    refine Go.via (fun _ => XS.iload X1055.here hx rfl (hb hby at_179) rfl) ?_
    refine Go.via (fun _ => XS.icmpYes X1055.here hx rfl (pc0 := 181) (pc' := 186) rfl (hb hby at_181) rfl (teq ((by decide) : (3 : Int32) = (3 : Int32))).1 (by decide) (by decide)) ?_
    show Go p e below (T1055.setTop (mkF m 186 #[.val (.int p0), .val (.int p1), .val (.int p2), .val (.int p3), .val (.int p4), .val (.int p5), .val (.int (3 : Int32)), .val (.int k), .val (.int p2), .val (.int d1), .val (.int d2), .val (.int d3), .val (.int d4), .val (.int p4), .val (.int f1), .val (.int f2), .val (.int f3), .val (.int f4), .val (.ref b944), .val (.ref b1024), .unset, .unset, .unset, .unset] [])) _
    refine Go.via (fun _ => XS.lconst X1055.here hx rfl (hb hby at_186)) ?_
    refine Go.via (fun _ => XS.lstore X1055.here hx rfl (hb hby at_187) rfl (l' := #[.val (.int p0), .val (.int p1), .val (.int p2), .val (.int p3), .val (.int p4), .val (.int p5), .val (.int (3 : Int32)), .val (.int k), .val (.int p2), .val (.int d1), .val (.int d2), .val (.int d3), .val (.int d4), .val (.int p4), .val (.int f1), .val (.int f2), .val (.int f3), .val (.int f4), .val (.ref b944), .val (.ref b1024), .val (.long (0 : Int64)), .second, .unset, .unset]) rfl) ?_
    show Go p e below (T1055.setTop (mkF m 189 #[.val (.int p0), .val (.int p1), .val (.int p2), .val (.int p3), .val (.int p4), .val (.int p5), .val (.int (3 : Int32)), .val (.int k), .val (.int p2), .val (.int d1), .val (.int d2), .val (.int d3), .val (.int d4), .val (.int p4), .val (.int f1), .val (.int f2), .val (.int f3), .val (.int f4), .val (.ref b944), .val (.ref b1024), .val (.long (0 : Int64)), .second, .unset, .unset] [])) _
    refine Go.via (fun _ => XS.iload X1055.here hx rfl (hb hby at_189) rfl) ?_
    refine Go.via (fun _ => XS.ifNo X1055.here hx rfl (hb hby at_191) rfl ((if0 _ _).trans (tlt ((by decide) : (0 : Int32) < (3 : Int32))).2.2.2)) ?_
    show Go p e below (T1055.setTop (mkF m 194 #[.val (.int p0), .val (.int p1), .val (.int p2), .val (.int p3), .val (.int p4), .val (.int p5), .val (.int (3 : Int32)), .val (.int k), .val (.int p2), .val (.int d1), .val (.int d2), .val (.int d3), .val (.int d4), .val (.int p4), .val (.int f1), .val (.int f2), .val (.int f3), .val (.int f4), .val (.ref b944), .val (.ref b1024), .val (.long (0 : Int64)), .second, .unset, .unset] [])) _
    refine Go.via (fun _ => XS.lload X1055.here hx rfl (hb hby at_194) rfl) ?_
    refine Go.via (fun _ => XS.iload X1055.here hx rfl (hb hby at_196) rfl) ?_
    refine Go.via (fun _ => XS.i2l X1055.here hx rfl (hb hby at_198) rfl) ?_
    show Go p e below (T1055.setTop (mkF m 199 #[.val (.int p0), .val (.int p1), .val (.int p2), .val (.int p3), .val (.int p4), .val (.int p5), .val (.int (3 : Int32)), .val (.int k), .val (.int p2), .val (.int d1), .val (.int d2), .val (.int d3), .val (.int d4), .val (.int p4), .val (.int f1), .val (.int f2), .val (.int f3), .val (.int f4), .val (.ref b944), .val (.ref b1024), .val (.long (0 : Int64)), .second, .unset, .unset] [(.long (p4.toInt64)), (.long (0 : Int64))])) _
    refine Go.via (fun _ => XS.ladd X1055.here hx rfl (hb hby at_199) rfl) ?_
    show Go p e below (T1055.setTop (mkF m 200 #[.val (.int p0), .val (.int p1), .val (.int p2), .val (.int p3), .val (.int p4), .val (.int p5), .val (.int (3 : Int32)), .val (.int k), .val (.int p2), .val (.int d1), .val (.int d2), .val (.int d3), .val (.int d4), .val (.int p4), .val (.int f1), .val (.int f2), .val (.int f3), .val (.int f4), .val (.ref b944), .val (.ref b1024), .val (.long (0 : Int64)), .second, .unset, .unset] [(.long ((0 : Int64) + (p4.toInt64)))])) _
    refine Go.via (fun _ => XS.lstore X1055.here hx rfl (hb hby at_200) rfl (l' := #[.val (.int p0), .val (.int p1), .val (.int p2), .val (.int p3), .val (.int p4), .val (.int p5), .val (.int (3 : Int32)), .val (.int k), .val (.int p2), .val (.int d1), .val (.int d2), .val (.int d3), .val (.int d4), .val (.int p4), .val (.int f1), .val (.int f2), .val (.int f3), .val (.int f4), .val (.ref b944), .val (.ref b1024), .val (.long ((0 : Int64) + (p4.toInt64))), .second, .unset, .unset]) rfl) ?_
    show Go p e below (T1055.setTop (mkF m 202 #[.val (.int p0), .val (.int p1), .val (.int p2), .val (.int p3), .val (.int p4), .val (.int p5), .val (.int (3 : Int32)), .val (.int k), .val (.int p2), .val (.int d1), .val (.int d2), .val (.int d3), .val (.int d4), .val (.int p4), .val (.int f1), .val (.int f2), .val (.int f3), .val (.int f4), .val (.ref b944), .val (.ref b1024), .val (.long ((0 : Int64) + (p4.toInt64))), .second, .unset, .unset] [])) _
    refine Go.via (fun _ => XS.iload X1055.here hx rfl (hb hby at_202) rfl) ?_
    refine Go.via (fun _ => XS.iconst X1055.here hx rfl (hb hby at_204)) ?_
    refine Go.via (fun _ => XS.icmpNo X1055.here hx rfl (hb hby at_205) rfl (tlt ((by decide) : (1 : Int32) < (3 : Int32))).2.2.2) ?_
    show Go p e below (T1055.setTop (mkF m 208 #[.val (.int p0), .val (.int p1), .val (.int p2), .val (.int p3), .val (.int p4), .val (.int p5), .val (.int (3 : Int32)), .val (.int k), .val (.int p2), .val (.int d1), .val (.int d2), .val (.int d3), .val (.int d4), .val (.int p4), .val (.int f1), .val (.int f2), .val (.int f3), .val (.int f4), .val (.ref b944), .val (.ref b1024), .val (.long ((0 : Int64) + (p4.toInt64))), .second, .unset, .unset] [])) _
    refine Go.via (fun _ => XS.lload X1055.here hx rfl (hb hby at_208) rfl) ?_
    refine Go.via (fun _ => XS.iload X1055.here hx rfl (hb hby at_210) rfl) ?_
    refine Go.via (fun _ => XS.i2l X1055.here hx rfl (hb hby at_212) rfl) ?_
    show Go p e below (T1055.setTop (mkF m 213 #[.val (.int p0), .val (.int p1), .val (.int p2), .val (.int p3), .val (.int p4), .val (.int p5), .val (.int (3 : Int32)), .val (.int k), .val (.int p2), .val (.int d1), .val (.int d2), .val (.int d3), .val (.int d4), .val (.int p4), .val (.int f1), .val (.int f2), .val (.int f3), .val (.int f4), .val (.ref b944), .val (.ref b1024), .val (.long ((0 : Int64) + (p4.toInt64))), .second, .unset, .unset] [(.long (f1.toInt64)), (.long ((0 : Int64) + (p4.toInt64)))])) _
    refine Go.via (fun _ => XS.ladd X1055.here hx rfl (hb hby at_213) rfl) ?_
    show Go p e below (T1055.setTop (mkF m 214 #[.val (.int p0), .val (.int p1), .val (.int p2), .val (.int p3), .val (.int p4), .val (.int p5), .val (.int (3 : Int32)), .val (.int k), .val (.int p2), .val (.int d1), .val (.int d2), .val (.int d3), .val (.int d4), .val (.int p4), .val (.int f1), .val (.int f2), .val (.int f3), .val (.int f4), .val (.ref b944), .val (.ref b1024), .val (.long ((0 : Int64) + (p4.toInt64))), .second, .unset, .unset] [(.long (((0 : Int64) + (p4.toInt64)) + (f1.toInt64)))])) _
    refine Go.via (fun _ => XS.lstore X1055.here hx rfl (hb hby at_214) rfl (l' := #[.val (.int p0), .val (.int p1), .val (.int p2), .val (.int p3), .val (.int p4), .val (.int p5), .val (.int (3 : Int32)), .val (.int k), .val (.int p2), .val (.int d1), .val (.int d2), .val (.int d3), .val (.int d4), .val (.int p4), .val (.int f1), .val (.int f2), .val (.int f3), .val (.int f4), .val (.ref b944), .val (.ref b1024), .val (.long (((0 : Int64) + (p4.toInt64)) + (f1.toInt64))), .second, .unset, .unset]) rfl) ?_
    show Go p e below (T1055.setTop (mkF m 216 #[.val (.int p0), .val (.int p1), .val (.int p2), .val (.int p3), .val (.int p4), .val (.int p5), .val (.int (3 : Int32)), .val (.int k), .val (.int p2), .val (.int d1), .val (.int d2), .val (.int d3), .val (.int d4), .val (.int p4), .val (.int f1), .val (.int f2), .val (.int f3), .val (.int f4), .val (.ref b944), .val (.ref b1024), .val (.long (((0 : Int64) + (p4.toInt64)) + (f1.toInt64))), .second, .unset, .unset] [])) _
    refine Go.via (fun _ => XS.iload X1055.here hx rfl (hb hby at_216) rfl) ?_
    refine Go.via (fun _ => XS.iconst X1055.here hx rfl (hb hby at_218)) ?_
    refine Go.via (fun _ => XS.icmpNo X1055.here hx rfl (hb hby at_219) rfl (tlt ((by decide) : (2 : Int32) < (3 : Int32))).2.2.2) ?_
    show Go p e below (T1055.setTop (mkF m 222 #[.val (.int p0), .val (.int p1), .val (.int p2), .val (.int p3), .val (.int p4), .val (.int p5), .val (.int (3 : Int32)), .val (.int k), .val (.int p2), .val (.int d1), .val (.int d2), .val (.int d3), .val (.int d4), .val (.int p4), .val (.int f1), .val (.int f2), .val (.int f3), .val (.int f4), .val (.ref b944), .val (.ref b1024), .val (.long (((0 : Int64) + (p4.toInt64)) + (f1.toInt64))), .second, .unset, .unset] [])) _
    refine Go.via (fun _ => XS.lload X1055.here hx rfl (hb hby at_222) rfl) ?_
    refine Go.via (fun _ => XS.iload X1055.here hx rfl (hb hby at_224) rfl) ?_
    refine Go.via (fun _ => XS.i2l X1055.here hx rfl (hb hby at_226) rfl) ?_
    show Go p e below (T1055.setTop (mkF m 227 #[.val (.int p0), .val (.int p1), .val (.int p2), .val (.int p3), .val (.int p4), .val (.int p5), .val (.int (3 : Int32)), .val (.int k), .val (.int p2), .val (.int d1), .val (.int d2), .val (.int d3), .val (.int d4), .val (.int p4), .val (.int f1), .val (.int f2), .val (.int f3), .val (.int f4), .val (.ref b944), .val (.ref b1024), .val (.long (((0 : Int64) + (p4.toInt64)) + (f1.toInt64))), .second, .unset, .unset] [(.long (f2.toInt64)), (.long (((0 : Int64) + (p4.toInt64)) + (f1.toInt64)))])) _
    refine Go.via (fun _ => XS.ladd X1055.here hx rfl (hb hby at_227) rfl) ?_
    show Go p e below (T1055.setTop (mkF m 228 #[.val (.int p0), .val (.int p1), .val (.int p2), .val (.int p3), .val (.int p4), .val (.int p5), .val (.int (3 : Int32)), .val (.int k), .val (.int p2), .val (.int d1), .val (.int d2), .val (.int d3), .val (.int d4), .val (.int p4), .val (.int f1), .val (.int f2), .val (.int f3), .val (.int f4), .val (.ref b944), .val (.ref b1024), .val (.long (((0 : Int64) + (p4.toInt64)) + (f1.toInt64))), .second, .unset, .unset] [(.long ((((0 : Int64) + (p4.toInt64)) + (f1.toInt64)) + (f2.toInt64)))])) _
    refine Go.via (fun _ => XS.lstore X1055.here hx rfl (hb hby at_228) rfl (l' := #[.val (.int p0), .val (.int p1), .val (.int p2), .val (.int p3), .val (.int p4), .val (.int p5), .val (.int (3 : Int32)), .val (.int k), .val (.int p2), .val (.int d1), .val (.int d2), .val (.int d3), .val (.int d4), .val (.int p4), .val (.int f1), .val (.int f2), .val (.int f3), .val (.int f4), .val (.ref b944), .val (.ref b1024), .val (.long ((((0 : Int64) + (p4.toInt64)) + (f1.toInt64)) + (f2.toInt64))), .second, .unset, .unset]) rfl) ?_
    show Go p e below (T1055.setTop (mkF m 230 #[.val (.int p0), .val (.int p1), .val (.int p2), .val (.int p3), .val (.int p4), .val (.int p5), .val (.int (3 : Int32)), .val (.int k), .val (.int p2), .val (.int d1), .val (.int d2), .val (.int d3), .val (.int d4), .val (.int p4), .val (.int f1), .val (.int f2), .val (.int f3), .val (.int f4), .val (.ref b944), .val (.ref b1024), .val (.long ((((0 : Int64) + (p4.toInt64)) + (f1.toInt64)) + (f2.toInt64))), .second, .unset, .unset] [])) _
    refine Go.via (fun _ => XS.iload X1055.here hx rfl (hb hby at_230) rfl) ?_
    refine Go.via (fun _ => XS.iconst X1055.here hx rfl (hb hby at_232)) ?_
    refine Go.via (fun _ => XS.icmpYes X1055.here hx rfl (pc0 := 233) (pc' := 244) rfl (hb hby at_233) rfl (flt ((by decide) : ¬ ((3 : Int32) < (3 : Int32)))).2.2.2 (by decide) (by decide)) ?_
    show Go p e below (T1055.setTop (mkF m 244 #[.val (.int p0), .val (.int p1), .val (.int p2), .val (.int p3), .val (.int p4), .val (.int p5), .val (.int (3 : Int32)), .val (.int k), .val (.int p2), .val (.int d1), .val (.int d2), .val (.int d3), .val (.int d4), .val (.int p4), .val (.int f1), .val (.int f2), .val (.int f3), .val (.int f4), .val (.ref b944), .val (.ref b1024), .val (.long ((((0 : Int64) + (p4.toInt64)) + (f1.toInt64)) + (f2.toInt64))), .second, .unset, .unset] [])) _
    refine Go.via (fun _ => XS.iload X1055.here hx rfl (hb hby at_244) rfl) ?_
    refine Go.via (fun _ => XS.iconst X1055.here hx rfl (hb hby at_246)) ?_
    refine Go.via (fun _ => XS.icmpYes X1055.here hx rfl (pc0 := 247) (pc' := 258) rfl (hb hby at_247) rfl (flt ((by decide) : ¬ ((4 : Int32) < (3 : Int32)))).2.2.2 (by decide) (by decide)) ?_
    show Go p e below (T1055.setTop (mkF m 258 #[.val (.int p0), .val (.int p1), .val (.int p2), .val (.int p3), .val (.int p4), .val (.int p5), .val (.int (3 : Int32)), .val (.int k), .val (.int p2), .val (.int d1), .val (.int d2), .val (.int d3), .val (.int d4), .val (.int p4), .val (.int f1), .val (.int f2), .val (.int f3), .val (.int f4), .val (.ref b944), .val (.ref b1024), .val (.long ((((0 : Int64) + (p4.toInt64)) + (f1.toInt64)) + (f2.toInt64))), .second, .unset, .unset] [])) _
    refine Go.via (fun _ => XS.aload X1055.here hx rfl (hb hby at_258) rfl rfl) ?_
    obtain ⟨cq1057, kq1057, q1057a, q1057b, q1057c⟩ := isOf hZ e1055 f1049
    obtain ⟨_, _, ⟨T1057, L1057, k1057, n1057⟩, -, X1057, ⟨Lc1057, hQ1057, l1057, y1057, z1057⟩, st1057⟩ := X1055.virtualBack hx (y := (⟨"com/example/libcosearch/libcosearch/PostingList", "collectionFrequency", "()J"⟩ : MethodName)) (z := (⟨"com/example/libcosearch/libcosearch/PostingList", "collectionFrequency", "()J"⟩ : MethodName)) hown (mvT hZ (tw hw 52 rfl)) (mvT hZ (tw hw 53 rfl)) (notFace_of_selects (args := #[]) (mvT hZ (tw hw 55 rfl))) (mvT hZ (tw hw 55 rfl)) (mvT hZ (tw hw 54 rfl)) (by decide) (backOf (W := 0) (rmF l Z a0 hw [] b1024 ((((0 : Int64) + (p4.toInt64)) + (f1.toInt64)) + (f2.toInt64)) T1022.heap n0 z1056 f1052) hZ (tw hw 56 rfl) (tw hw 22 rfl) (by decide) (by decide)) q1057a q1057c (g := (mkF m 260 #[.val (.int p0), .val (.int p1), .val (.int p2), .val (.int p3), .val (.int p4), .val (.int p5), .val (.int (3 : Int32)), .val (.int k), .val (.int p2), .val (.int d1), .val (.int d2), .val (.int d3), .val (.int d4), .val (.int p4), .val (.int f1), .val (.int f2), .val (.int f3), .val (.int f4), .val (.ref b944), .val (.ref b1024), .val (.long ((((0 : Int64) + (p4.toInt64)) + (f1.toInt64)) + (f2.toInt64))), .second, .unset, .unset] [(.ref b1024)])) rfl (by rw [hml]; rfl) (Steps.refl _) (argsL := []) (rest := []) (lenOf pd__28_29J rfl) rfl (by show 2 * 0 + _ ≤ _; exact Nat.le_of_eq rfl) (hb hby at_260) (fun _ _ => ⟨rfl, e1055, (by decide : 6 + 0 ≤ _), (by decide : 30 + 0 ≤ _)⟩)
    dsimp only [Pt.U, Pt.locs, Pt.cells, Pt.slots] at X1057 l1057 y1057 z1057 st1057 hQ1057
    subst l1057 y1057 z1057
    obtain ⟨rfl, N1057q, eh1057⟩ := hQ1057
    have N1057 := Fr.app N1055 N1057q
    refine Go.via (fun _ kQ => st1057.trans kQ) ?_
    clear st1057
    have e1057 : T1057.heap = T1022.heap := eh1057
    clear X1055 e1055
    show Go p e below (T1057.setTop (mkF m 263 #[.val (.int p0), .val (.int p1), .val (.int p2), .val (.int p3), .val (.int p4), .val (.int p5), .val (.int (3 : Int32)), .val (.int k), .val (.int p2), .val (.int d1), .val (.int d2), .val (.int d3), .val (.int d4), .val (.int p4), .val (.int f1), .val (.int f2), .val (.int f3), .val (.int f4), .val (.ref b944), .val (.ref b1024), .val (.long ((((0 : Int64) + (p4.toInt64)) + (f1.toInt64)) + (f2.toInt64))), .second, .unset, .unset] [(.long ((((0 : Int64) + (p4.toInt64)) + (f1.toInt64)) + (f2.toInt64)))])) _
    refine Go.via (fun _ => XS.lload X1057.here hx rfl (hb hby at_263) rfl) ?_
    refine Go.via (fun _ => XS.lcmp X1057.here hx rfl (hb hby at_265) rfl) ?_
    show Go p e below (T1057.setTop (mkF m 266 #[.val (.int p0), .val (.int p1), .val (.int p2), .val (.int p3), .val (.int p4), .val (.int p5), .val (.int (3 : Int32)), .val (.int k), .val (.int p2), .val (.int d1), .val (.int d2), .val (.int d3), .val (.int d4), .val (.int p4), .val (.int f1), .val (.int f2), .val (.int f3), .val (.int f4), .val (.ref b944), .val (.ref b1024), .val (.long ((((0 : Int64) + (p4.toInt64)) + (f1.toInt64)) + (f2.toInt64))), .second, .unset, .unset] [(.int (lcmpW ((((0 : Int64) + (p4.toInt64)) + (f1.toInt64)) + (f2.toInt64)) ((((0 : Int64) + (p4.toInt64)) + (f1.toInt64)) + (f2.toInt64))))])) _
    refine Go.via (fun _ => XS.ifYes X1057.here hx rfl (pc0 := 266) (pc' := 271) rfl (hb hby at_266) rfl ((if0 _ _).trans (teq ((own_lc _) : (lcmpW ((((0 : Int64) + (p4.toInt64)) + (f1.toInt64)) + (f2.toInt64)) ((((0 : Int64) + (p4.toInt64)) + (f1.toInt64)) + (f2.toInt64))) = (0 : Int32))).1) (by decide) (by decide)) ?_
    have X1057m := X1057.more (by decide : _ ≤ 11) (by decide : _ ≤ 50)
    have k1058 : Keep h0 T1022.heap [] := (k1038.trans K1022q all0)
    exact J T1057 _ T1022.heap (3 : Int32) k d1 d2 d3 d4 f1 f2 f3 f4 b944 b1024 ((((0 : Int64) + (p4.toInt64)) + (f1.toInt64)) + (f2.toInt64)) b1025 b1026 [p2, d1, d2] [p4, f1, f2] X1057m e1057 N1057 z1056 k1058 f1049 f1050 f1051 f1053 f1054 (by intro q; rcases hk with rfl | rfl | rfl | rfl | rfl <;> first | exact absurd q (by decide) | exact ⟨by decide, rfl, rfl⟩)
  · show Go p e below (s₁.setTop (mkF m 84 #[.val (.int p0), .val (.int p1), .val (.int p2), .val (.int p3), .val (.int p4), .val (.int p5), .val (.int (4 : Int32)), .val (.int k), .val (.int p2), .val (.int d1), .val (.int d2), .val (.int d3), .val (.int d4), .val (.int p4), .val (.int f1), .val (.int f2), .val (.int f3), .val (.int f4), .unset, .unset, .unset, .unset, .unset, .unset] [])) _
    obtain ⟨T1059, h1059, X1059, e1059, E1059, A1059, D1059, -, st1059⟩ := newO X0 hx hZ hown (tw hw 1 rfl) (tw hw 2 rfl) (tw hw 3 rfl) e0 (g := (mkF m 84 #[.val (.int p0), .val (.int p1), .val (.int p2), .val (.int p3), .val (.int p4), .val (.int p5), .val (.int (4 : Int32)), .val (.int k), .val (.int p2), .val (.int d1), .val (.int d2), .val (.int d3), .val (.int d4), .val (.int p4), .val (.int f1), .val (.int f2), .val (.int f3), .val (.int f4), .unset, .unset, .unset, .unset, .unset, .unset] [])) rfl (hb hby at_84) (by decide) (by decide)
    obtain ⟨b1059, g1059⟩ : ∃ z, z = h0.size := ⟨_, rfl⟩
    rw [← g1059] at A1059 D1059 st1059
    have ge1060 : n0 ≤ b1059 := Nat.le_trans Z0 (Nat.le_of_eq g1059.symm)
    have sz1061 : h0.size ≤ b1059 := Nat.le_trans (Keep.refl h0 []).1 (Nat.le_of_eq g1059.symm)
    refine Go.via (st1059) ?_
    clear st1059
    have f1062 : Fld Z h1059 b1059 "com/example/libcosearch/libcosearch/PostingList$Builder" "documents" "[I" .null := D1059 (Or.inl (tw hw 12 rfl)) (ty := (.array .int)) (by decide)
    have f1063 : Fld Z h1059 b1059 "com/example/libcosearch/libcosearch/PostingList$Builder" "frequencies" "[I" .null := D1059 (Or.inl (tw hw 14 rfl)) (ty := (.array .int)) (by decide)
    have f1064 : Fld Z h1059 b1059 "com/example/libcosearch/libcosearch/PostingList$Builder" "size" "I" (.int (0 : Int32)) := D1059 (Or.inl (tw hw 24 rfl)) (ty := .int) (by decide)
    clear X0 e0
    show Go p e below (T1059.setTop (mkF m 87 #[.val (.int p0), .val (.int p1), .val (.int p2), .val (.int p3), .val (.int p4), .val (.int p5), .val (.int (4 : Int32)), .val (.int k), .val (.int p2), .val (.int d1), .val (.int d2), .val (.int d3), .val (.int d4), .val (.int p4), .val (.int f1), .val (.int f2), .val (.int f3), .val (.int f4), .unset, .unset, .unset, .unset, .unset, .unset] [(.ref b1059)])) _
    refine Go.via (fun _ => XS.dup X1059.here hx rfl (hb hby at_87) rfl rfl) ?_
    have z1066 : n0 ≤ h1059.size := (Nat.le_trans Z0 E1059.1)
    obtain ⟨_, _, ⟨T1065, L1065, k1065, n1065⟩, -, X1065, ⟨Lc1065, hQ1065, l1065, y1065, z1065⟩, st1065⟩ := X1059.specialBack hx (y := (⟨"com/example/libcosearch/libcosearch/PostingList$Builder", "<init>", "()V"⟩ : MethodName)) rfl hown (mvT hZ (tw hw 4 rfl)) (mvT hZ (tw hw 5 rfl)) (mvT hZ (tw hw 6 rfl)) (by decide) (backOf (W := 1) (rmB l Z a0 hw [] b1059  h1059 n0 z1066 A1059 f1062 f1063 f1064 ge1060) hZ (tw hw 6 rfl) (tw hw 3 rfl) (by decide) (by decide)) (g := (mkF m 88 #[.val (.int p0), .val (.int p1), .val (.int p2), .val (.int p3), .val (.int p4), .val (.int p5), .val (.int (4 : Int32)), .val (.int k), .val (.int p2), .val (.int d1), .val (.int d2), .val (.int d3), .val (.int d4), .val (.int p4), .val (.int f1), .val (.int f2), .val (.int f3), .val (.int f4), .unset, .unset, .unset, .unset, .unset, .unset] [(.ref b1059), (.ref b1059)])) rfl (by rw [hml]; rfl) (Steps.refl _) (a := b1059) (argsL := []) (rest := [(.ref b1059)]) (lenOf pd__28_29V rfl) rfl (by show 2 * 0 + _ ≤ _; exact Nat.le_of_eq rfl) (hb hby at_88) (fun _ _ => ⟨rfl, e1059, (by decide : 1 + 2 ≤ _), (by decide : 3 + 8 ≤ _)⟩)
    dsimp only [Pt.U, Pt.locs, Pt.cells, Pt.slots] at X1065 l1065 y1065 z1065 st1065 hQ1065
    subst l1065 y1065 z1065
    obtain ⟨b1067, b1068, rfl, N1065q, K1065q, fz_b1067, fz_b1068, f1069, f1070, f1071, f1072, f1073, f1074, f1075, f1076, qp1077⟩ := hQ1065
    have N1065 := Fr.app N0 N1065q
    refine Go.via (fun _ kQ => st1065.trans kQ) ?_
    clear st1065
    have ne1078 : b1059 ≠ b1067 := Nat.ne_of_lt (Nat.lt_of_lt_of_le A1059.lt fz_b1067)
    have ge1079 : n0 ≤ b1067 := Nat.le_trans z1066 fz_b1067
    have k1081 : Keep h0 h1059 [] := ((Keep.refl h0 []).ext E1059)
    have sz1080 : h0.size ≤ b1067 := Nat.le_trans k1081.1 fz_b1067
    have ne1082 : b1059 ≠ b1068 := Nat.ne_of_lt (Nat.lt_of_lt_of_le A1059.lt fz_b1068)
    have ge1083 : n0 ≤ b1068 := Nat.le_trans z1066 fz_b1068
    have sz1084 : h0.size ≤ b1068 := Nat.le_trans k1081.1 fz_b1068
    have e1065 : T1065.heap = T1065.heap := rfl
    have f1085 : Exa Z T1065.heap b1059 "com/example/libcosearch/libcosearch/PostingList$Builder" := f1069
    have f1086 : Fld Z T1065.heap b1059 "com/example/libcosearch/libcosearch/PostingList$Builder" "documents" "[I" (.ref b1067) := f1070
    have f1087 : Fld Z T1065.heap b1059 "com/example/libcosearch/libcosearch/PostingList$Builder" "frequencies" "[I" (.ref b1068) := f1071
    have f1088 : Fld Z T1065.heap b1059 "com/example/libcosearch/libcosearch/PostingList$Builder" "size" "I" (.int (0 : Int32)) := f1072
    have f1089 : Ia Z T1065.heap b1067 .int [(0 : Int32), (0 : Int32), (0 : Int32), (0 : Int32)] := f1073
    have f1090 : Ia Z T1065.heap b1068 .int [(0 : Int32), (0 : Int32), (0 : Int32), (0 : Int32)] := f1074
    have f1091 : Exa Z T1065.heap b1067 "[I" := f1075
    have f1092 : Exa Z T1065.heap b1068 "[I" := f1076
    clear X1059 e1059
    show Go p e below (T1065.setTop (mkF m 91 #[.val (.int p0), .val (.int p1), .val (.int p2), .val (.int p3), .val (.int p4), .val (.int p5), .val (.int (4 : Int32)), .val (.int k), .val (.int p2), .val (.int d1), .val (.int d2), .val (.int d3), .val (.int d4), .val (.int p4), .val (.int f1), .val (.int f2), .val (.int f3), .val (.int f4), .unset, .unset, .unset, .unset, .unset, .unset] [(.ref b1059)])) _
    refine Go.via (fun _ => XS.astore X1065.here hx rfl (hb hby at_91) rfl rfl (l' := #[.val (.int p0), .val (.int p1), .val (.int p2), .val (.int p3), .val (.int p4), .val (.int p5), .val (.int (4 : Int32)), .val (.int k), .val (.int p2), .val (.int d1), .val (.int d2), .val (.int d3), .val (.int d4), .val (.int p4), .val (.int f1), .val (.int f2), .val (.int f3), .val (.int f4), .val (.ref b1059), .unset, .unset, .unset, .unset, .unset]) rfl) ?_
    show Go p e below (T1065.setTop (mkF m 93 #[.val (.int p0), .val (.int p1), .val (.int p2), .val (.int p3), .val (.int p4), .val (.int p5), .val (.int (4 : Int32)), .val (.int k), .val (.int p2), .val (.int d1), .val (.int d2), .val (.int d3), .val (.int d4), .val (.int p4), .val (.int f1), .val (.int f2), .val (.int f3), .val (.int f4), .val (.ref b1059), .unset, .unset, .unset, .unset, .unset] [])) _
    refine Go.via (fun _ => XS.iload X1065.here hx rfl (hb hby at_93) rfl) ?_
    refine Go.via (fun _ => XS.ifNo X1065.here hx rfl (hb hby at_95) rfl ((if0 _ _).trans (tlt ((by decide) : (0 : Int32) < (4 : Int32))).2.2.2)) ?_
    show Go p e below (T1065.setTop (mkF m 98 #[.val (.int p0), .val (.int p1), .val (.int p2), .val (.int p3), .val (.int p4), .val (.int p5), .val (.int (4 : Int32)), .val (.int k), .val (.int p2), .val (.int d1), .val (.int d2), .val (.int d3), .val (.int d4), .val (.int p4), .val (.int f1), .val (.int f2), .val (.int f3), .val (.int f4), .val (.ref b1059), .unset, .unset, .unset, .unset, .unset] [])) _
    refine Go.via (fun _ => XS.aload X1065.here hx rfl (hb hby at_98) rfl rfl) ?_
    refine Go.via (fun _ => XS.iload X1065.here hx rfl (hb hby at_100) rfl) ?_
    refine Go.via (fun _ => XS.iload X1065.here hx rfl (hb hby at_102) rfl) ?_
    have z1094 : n0 ≤ T1065.heap.size := (Nat.le_trans z1066 K1065q.1)
    obtain ⟨cq1093, kq1093, q1093a, q1093b, q1093c⟩ := isOf hZ e1065 f1085
    obtain ⟨_, _, ⟨T1093, L1093, k1093, n1093⟩, -, X1093, ⟨Lc1093, hQ1093, l1093, y1093, z1093⟩, st1093⟩ := X1065.virtualBack hx (y := (⟨"com/example/libcosearch/libcosearch/PostingList$Builder", "add", "(II)V"⟩ : MethodName)) (z := (⟨"com/example/libcosearch/libcosearch/PostingList$Builder", "add", "(II)V"⟩ : MethodName)) hown (mvT hZ (tw hw 57 rfl)) (mvT hZ (tw hw 58 rfl)) (notFace_of_selects (args := #[]) (mvT hZ (tw hw 60 rfl))) (mvT hZ (tw hw 60 rfl)) (mvT hZ (tw hw 59 rfl)) (by decide) (backOf (W := 0) (rmA l Z a0 hw [] b1059 p2 p4 b1067 b1068 [(0 : Int32), (0 : Int32), (0 : Int32), (0 : Int32)] [(0 : Int32), (0 : Int32), (0 : Int32), (0 : Int32)] (0 : Int32) T1065.heap n0 z1094 f1085 f1086 f1087 f1088 f1089 f1090 ge1060 ge1079 ge1083 ne1078 ne1082 qp1077 (by first | decide | (simp only [List.length_cons, List.length_nil]; decide) | rfl) (by first | decide | (simp only [List.length_cons, List.length_nil]; decide) | rfl) (by first | decide | (simp only [List.length_cons, List.length_nil]; decide) | rfl) (by first | decide | (simp only [List.length_cons, List.length_nil]; decide) | rfl)) hZ (tw hw 61 rfl) (tw hw 3 rfl) (by decide) (by decide)) q1093a q1093c (g := (mkF m 104 #[.val (.int p0), .val (.int p1), .val (.int p2), .val (.int p3), .val (.int p4), .val (.int p5), .val (.int (4 : Int32)), .val (.int k), .val (.int p2), .val (.int d1), .val (.int d2), .val (.int d3), .val (.int d4), .val (.int p4), .val (.int f1), .val (.int f2), .val (.int f3), .val (.int f4), .val (.ref b1059), .unset, .unset, .unset, .unset, .unset] [(.int p4), (.int p2), (.ref b1059)])) rfl (by rw [hml]; rfl) (Steps.refl _) (argsL := [(.int p2), (.int p4)]) (rest := []) (lenOf pd__28II_29V rfl) rfl (by show 2 * 0 + _ ≤ _; exact Nat.le_of_eq rfl) (hb hby at_104) (fun _ _ => ⟨rfl, e1065, (by decide : 3 + 0 ≤ _), (by decide : 11 + 0 ≤ _)⟩)
    dsimp only [Pt.U, Pt.locs, Pt.cells, Pt.slots] at X1093 l1093 y1093 z1093 st1093 hQ1093
    subst l1093 y1093 z1093
    obtain ⟨rfl, N1093q, K1093q, f1095, f1096, f1097, f1098, f1099, f1100⟩ := hQ1093
    have N1093 := Fr.app N1065 N1093q
    refine Go.via (fun _ kQ => st1093.trans kQ) ?_
    clear st1093
    have e1093 : T1093.heap = T1093.heap := rfl
    have f1101 : Exa Z T1093.heap b1059 "com/example/libcosearch/libcosearch/PostingList$Builder" := f1095
    have f1102 : Fld Z T1093.heap b1059 "com/example/libcosearch/libcosearch/PostingList$Builder" "documents" "[I" (.ref b1067) := f1096
    have f1103 : Fld Z T1093.heap b1059 "com/example/libcosearch/libcosearch/PostingList$Builder" "frequencies" "[I" (.ref b1068) := f1097
    have f1104 : Fld Z T1093.heap b1059 "com/example/libcosearch/libcosearch/PostingList$Builder" "size" "I" (.int (1 : Int32)) := f1098
    have f1105 : Ia Z T1093.heap b1067 .int [p2, (0 : Int32), (0 : Int32), (0 : Int32)] := f1099
    have f1106 : Ia Z T1093.heap b1068 .int [p4, (0 : Int32), (0 : Int32), (0 : Int32)] := f1100
    clear X1065 e1065
    show Go p e below (T1093.setTop (mkF m 107 #[.val (.int p0), .val (.int p1), .val (.int p2), .val (.int p3), .val (.int p4), .val (.int p5), .val (.int (4 : Int32)), .val (.int k), .val (.int p2), .val (.int d1), .val (.int d2), .val (.int d3), .val (.int d4), .val (.int p4), .val (.int f1), .val (.int f2), .val (.int f3), .val (.int f4), .val (.ref b1059), .unset, .unset, .unset, .unset, .unset] [])) _
    refine Go.via (fun _ => XS.iload X1093.here hx rfl (hb hby at_107) rfl) ?_
    refine Go.via (fun _ => XS.iconst X1093.here hx rfl (hb hby at_109)) ?_
    refine Go.via (fun _ => XS.icmpNo X1093.here hx rfl (hb hby at_110) rfl (tlt ((by decide) : (1 : Int32) < (4 : Int32))).2.2.2) ?_
    show Go p e below (T1093.setTop (mkF m 113 #[.val (.int p0), .val (.int p1), .val (.int p2), .val (.int p3), .val (.int p4), .val (.int p5), .val (.int (4 : Int32)), .val (.int k), .val (.int p2), .val (.int d1), .val (.int d2), .val (.int d3), .val (.int d4), .val (.int p4), .val (.int f1), .val (.int f2), .val (.int f3), .val (.int f4), .val (.ref b1059), .unset, .unset, .unset, .unset, .unset] [])) _
    refine Go.via (fun _ => XS.aload X1093.here hx rfl (hb hby at_113) rfl rfl) ?_
    refine Go.via (fun _ => XS.iload X1093.here hx rfl (hb hby at_115) rfl) ?_
    refine Go.via (fun _ => XS.iload X1093.here hx rfl (hb hby at_117) rfl) ?_
    have z1108 : n0 ≤ T1093.heap.size := (Nat.le_trans z1094 K1093q.1)
    obtain ⟨cq1107, kq1107, q1107a, q1107b, q1107c⟩ := isOf hZ e1093 f1101
    obtain ⟨_, _, ⟨T1107, L1107, k1107, n1107⟩, -, X1107, ⟨Lc1107, hQ1107, l1107, y1107, z1107⟩, st1107⟩ := X1093.virtualBack hx (y := (⟨"com/example/libcosearch/libcosearch/PostingList$Builder", "add", "(II)V"⟩ : MethodName)) (z := (⟨"com/example/libcosearch/libcosearch/PostingList$Builder", "add", "(II)V"⟩ : MethodName)) hown (mvT hZ (tw hw 57 rfl)) (mvT hZ (tw hw 58 rfl)) (notFace_of_selects (args := #[]) (mvT hZ (tw hw 60 rfl))) (mvT hZ (tw hw 60 rfl)) (mvT hZ (tw hw 59 rfl)) (by decide) (backOf (W := 0) (rmA l Z a0 hw [] b1059 d1 f1 b1067 b1068 [p2, (0 : Int32), (0 : Int32), (0 : Int32)] [p4, (0 : Int32), (0 : Int32), (0 : Int32)] (1 : Int32) T1093.heap n0 z1108 f1101 f1102 f1103 f1104 f1105 f1106 ge1060 ge1079 ge1083 ne1078 ne1082 qp1077 (by first | decide | (simp only [List.length_cons, List.length_nil]; decide) | rfl) (by first | decide | (simp only [List.length_cons, List.length_nil]; decide) | rfl) (by first | decide | (simp only [List.length_cons, List.length_nil]; decide) | rfl) (by first | decide | (simp only [List.length_cons, List.length_nil]; decide) | rfl)) hZ (tw hw 61 rfl) (tw hw 3 rfl) (by decide) (by decide)) q1107a q1107c (g := (mkF m 119 #[.val (.int p0), .val (.int p1), .val (.int p2), .val (.int p3), .val (.int p4), .val (.int p5), .val (.int (4 : Int32)), .val (.int k), .val (.int p2), .val (.int d1), .val (.int d2), .val (.int d3), .val (.int d4), .val (.int p4), .val (.int f1), .val (.int f2), .val (.int f3), .val (.int f4), .val (.ref b1059), .unset, .unset, .unset, .unset, .unset] [(.int f1), (.int d1), (.ref b1059)])) rfl (by rw [hml]; rfl) (Steps.refl _) (argsL := [(.int d1), (.int f1)]) (rest := []) (lenOf pd__28II_29V rfl) rfl (by show 2 * 0 + _ ≤ _; exact Nat.le_of_eq rfl) (hb hby at_119) (fun _ _ => ⟨rfl, e1093, (by decide : 3 + 0 ≤ _), (by decide : 11 + 0 ≤ _)⟩)
    dsimp only [Pt.U, Pt.locs, Pt.cells, Pt.slots] at X1107 l1107 y1107 z1107 st1107 hQ1107
    subst l1107 y1107 z1107
    obtain ⟨rfl, N1107q, K1107q, f1109, f1110, f1111, f1112, f1113, f1114⟩ := hQ1107
    have N1107 := Fr.app N1093 N1107q
    refine Go.via (fun _ kQ => st1107.trans kQ) ?_
    clear st1107
    have e1107 : T1107.heap = T1107.heap := rfl
    have f1115 : Exa Z T1107.heap b1059 "com/example/libcosearch/libcosearch/PostingList$Builder" := f1109
    have f1116 : Fld Z T1107.heap b1059 "com/example/libcosearch/libcosearch/PostingList$Builder" "documents" "[I" (.ref b1067) := f1110
    have f1117 : Fld Z T1107.heap b1059 "com/example/libcosearch/libcosearch/PostingList$Builder" "frequencies" "[I" (.ref b1068) := f1111
    have f1118 : Fld Z T1107.heap b1059 "com/example/libcosearch/libcosearch/PostingList$Builder" "size" "I" (.int (2 : Int32)) := f1112
    have f1119 : Ia Z T1107.heap b1067 .int [p2, d1, (0 : Int32), (0 : Int32)] := f1113
    have f1120 : Ia Z T1107.heap b1068 .int [p4, f1, (0 : Int32), (0 : Int32)] := f1114
    clear X1093 e1093
    show Go p e below (T1107.setTop (mkF m 122 #[.val (.int p0), .val (.int p1), .val (.int p2), .val (.int p3), .val (.int p4), .val (.int p5), .val (.int (4 : Int32)), .val (.int k), .val (.int p2), .val (.int d1), .val (.int d2), .val (.int d3), .val (.int d4), .val (.int p4), .val (.int f1), .val (.int f2), .val (.int f3), .val (.int f4), .val (.ref b1059), .unset, .unset, .unset, .unset, .unset] [])) _
    refine Go.via (fun _ => XS.iload X1107.here hx rfl (hb hby at_122) rfl) ?_
    refine Go.via (fun _ => XS.iconst X1107.here hx rfl (hb hby at_124)) ?_
    refine Go.via (fun _ => XS.icmpNo X1107.here hx rfl (hb hby at_125) rfl (tlt ((by decide) : (2 : Int32) < (4 : Int32))).2.2.2) ?_
    show Go p e below (T1107.setTop (mkF m 128 #[.val (.int p0), .val (.int p1), .val (.int p2), .val (.int p3), .val (.int p4), .val (.int p5), .val (.int (4 : Int32)), .val (.int k), .val (.int p2), .val (.int d1), .val (.int d2), .val (.int d3), .val (.int d4), .val (.int p4), .val (.int f1), .val (.int f2), .val (.int f3), .val (.int f4), .val (.ref b1059), .unset, .unset, .unset, .unset, .unset] [])) _
    refine Go.via (fun _ => XS.aload X1107.here hx rfl (hb hby at_128) rfl rfl) ?_
    refine Go.via (fun _ => XS.iload X1107.here hx rfl (hb hby at_130) rfl) ?_
    refine Go.via (fun _ => XS.iload X1107.here hx rfl (hb hby at_132) rfl) ?_
    have z1122 : n0 ≤ T1107.heap.size := (Nat.le_trans z1108 K1107q.1)
    obtain ⟨cq1121, kq1121, q1121a, q1121b, q1121c⟩ := isOf hZ e1107 f1115
    obtain ⟨_, _, ⟨T1121, L1121, k1121, n1121⟩, -, X1121, ⟨Lc1121, hQ1121, l1121, y1121, z1121⟩, st1121⟩ := X1107.virtualBack hx (y := (⟨"com/example/libcosearch/libcosearch/PostingList$Builder", "add", "(II)V"⟩ : MethodName)) (z := (⟨"com/example/libcosearch/libcosearch/PostingList$Builder", "add", "(II)V"⟩ : MethodName)) hown (mvT hZ (tw hw 57 rfl)) (mvT hZ (tw hw 58 rfl)) (notFace_of_selects (args := #[]) (mvT hZ (tw hw 60 rfl))) (mvT hZ (tw hw 60 rfl)) (mvT hZ (tw hw 59 rfl)) (by decide) (backOf (W := 0) (rmA l Z a0 hw [] b1059 d2 f2 b1067 b1068 [p2, d1, (0 : Int32), (0 : Int32)] [p4, f1, (0 : Int32), (0 : Int32)] (2 : Int32) T1107.heap n0 z1122 f1115 f1116 f1117 f1118 f1119 f1120 ge1060 ge1079 ge1083 ne1078 ne1082 qp1077 (by first | decide | (simp only [List.length_cons, List.length_nil]; decide) | rfl) (by first | decide | (simp only [List.length_cons, List.length_nil]; decide) | rfl) (by first | decide | (simp only [List.length_cons, List.length_nil]; decide) | rfl) (by first | decide | (simp only [List.length_cons, List.length_nil]; decide) | rfl)) hZ (tw hw 61 rfl) (tw hw 3 rfl) (by decide) (by decide)) q1121a q1121c (g := (mkF m 134 #[.val (.int p0), .val (.int p1), .val (.int p2), .val (.int p3), .val (.int p4), .val (.int p5), .val (.int (4 : Int32)), .val (.int k), .val (.int p2), .val (.int d1), .val (.int d2), .val (.int d3), .val (.int d4), .val (.int p4), .val (.int f1), .val (.int f2), .val (.int f3), .val (.int f4), .val (.ref b1059), .unset, .unset, .unset, .unset, .unset] [(.int f2), (.int d2), (.ref b1059)])) rfl (by rw [hml]; rfl) (Steps.refl _) (argsL := [(.int d2), (.int f2)]) (rest := []) (lenOf pd__28II_29V rfl) rfl (by show 2 * 0 + _ ≤ _; exact Nat.le_of_eq rfl) (hb hby at_134) (fun _ _ => ⟨rfl, e1107, (by decide : 3 + 0 ≤ _), (by decide : 11 + 0 ≤ _)⟩)
    dsimp only [Pt.U, Pt.locs, Pt.cells, Pt.slots] at X1121 l1121 y1121 z1121 st1121 hQ1121
    subst l1121 y1121 z1121
    obtain ⟨rfl, N1121q, K1121q, f1123, f1124, f1125, f1126, f1127, f1128⟩ := hQ1121
    have N1121 := Fr.app N1107 N1121q
    refine Go.via (fun _ kQ => st1121.trans kQ) ?_
    clear st1121
    have e1121 : T1121.heap = T1121.heap := rfl
    have f1129 : Exa Z T1121.heap b1059 "com/example/libcosearch/libcosearch/PostingList$Builder" := f1123
    have f1130 : Fld Z T1121.heap b1059 "com/example/libcosearch/libcosearch/PostingList$Builder" "documents" "[I" (.ref b1067) := f1124
    have f1131 : Fld Z T1121.heap b1059 "com/example/libcosearch/libcosearch/PostingList$Builder" "frequencies" "[I" (.ref b1068) := f1125
    have f1132 : Fld Z T1121.heap b1059 "com/example/libcosearch/libcosearch/PostingList$Builder" "size" "I" (.int (3 : Int32)) := f1126
    have f1133 : Ia Z T1121.heap b1067 .int [p2, d1, d2, (0 : Int32)] := f1127
    have f1134 : Ia Z T1121.heap b1068 .int [p4, f1, f2, (0 : Int32)] := f1128
    clear X1107 e1107
    show Go p e below (T1121.setTop (mkF m 137 #[.val (.int p0), .val (.int p1), .val (.int p2), .val (.int p3), .val (.int p4), .val (.int p5), .val (.int (4 : Int32)), .val (.int k), .val (.int p2), .val (.int d1), .val (.int d2), .val (.int d3), .val (.int d4), .val (.int p4), .val (.int f1), .val (.int f2), .val (.int f3), .val (.int f4), .val (.ref b1059), .unset, .unset, .unset, .unset, .unset] [])) _
    refine Go.via (fun _ => XS.iload X1121.here hx rfl (hb hby at_137) rfl) ?_
    refine Go.via (fun _ => XS.iconst X1121.here hx rfl (hb hby at_139)) ?_
    refine Go.via (fun _ => XS.icmpNo X1121.here hx rfl (hb hby at_140) rfl (tlt ((by decide) : (3 : Int32) < (4 : Int32))).2.2.2) ?_
    show Go p e below (T1121.setTop (mkF m 143 #[.val (.int p0), .val (.int p1), .val (.int p2), .val (.int p3), .val (.int p4), .val (.int p5), .val (.int (4 : Int32)), .val (.int k), .val (.int p2), .val (.int d1), .val (.int d2), .val (.int d3), .val (.int d4), .val (.int p4), .val (.int f1), .val (.int f2), .val (.int f3), .val (.int f4), .val (.ref b1059), .unset, .unset, .unset, .unset, .unset] [])) _
    refine Go.via (fun _ => XS.aload X1121.here hx rfl (hb hby at_143) rfl rfl) ?_
    refine Go.via (fun _ => XS.iload X1121.here hx rfl (hb hby at_145) rfl) ?_
    refine Go.via (fun _ => XS.iload X1121.here hx rfl (hb hby at_147) rfl) ?_
    have z1136 : n0 ≤ T1121.heap.size := (Nat.le_trans z1122 K1121q.1)
    obtain ⟨cq1135, kq1135, q1135a, q1135b, q1135c⟩ := isOf hZ e1121 f1129
    obtain ⟨_, _, ⟨T1135, L1135, k1135, n1135⟩, -, X1135, ⟨Lc1135, hQ1135, l1135, y1135, z1135⟩, st1135⟩ := X1121.virtualBack hx (y := (⟨"com/example/libcosearch/libcosearch/PostingList$Builder", "add", "(II)V"⟩ : MethodName)) (z := (⟨"com/example/libcosearch/libcosearch/PostingList$Builder", "add", "(II)V"⟩ : MethodName)) hown (mvT hZ (tw hw 57 rfl)) (mvT hZ (tw hw 58 rfl)) (notFace_of_selects (args := #[]) (mvT hZ (tw hw 60 rfl))) (mvT hZ (tw hw 60 rfl)) (mvT hZ (tw hw 59 rfl)) (by decide) (backOf (W := 0) (rmA l Z a0 hw [] b1059 d3 f3 b1067 b1068 [p2, d1, d2, (0 : Int32)] [p4, f1, f2, (0 : Int32)] (3 : Int32) T1121.heap n0 z1136 f1129 f1130 f1131 f1132 f1133 f1134 ge1060 ge1079 ge1083 ne1078 ne1082 qp1077 (by first | decide | (simp only [List.length_cons, List.length_nil]; decide) | rfl) (by first | decide | (simp only [List.length_cons, List.length_nil]; decide) | rfl) (by first | decide | (simp only [List.length_cons, List.length_nil]; decide) | rfl) (by first | decide | (simp only [List.length_cons, List.length_nil]; decide) | rfl)) hZ (tw hw 61 rfl) (tw hw 3 rfl) (by decide) (by decide)) q1135a q1135c (g := (mkF m 149 #[.val (.int p0), .val (.int p1), .val (.int p2), .val (.int p3), .val (.int p4), .val (.int p5), .val (.int (4 : Int32)), .val (.int k), .val (.int p2), .val (.int d1), .val (.int d2), .val (.int d3), .val (.int d4), .val (.int p4), .val (.int f1), .val (.int f2), .val (.int f3), .val (.int f4), .val (.ref b1059), .unset, .unset, .unset, .unset, .unset] [(.int f3), (.int d3), (.ref b1059)])) rfl (by rw [hml]; rfl) (Steps.refl _) (argsL := [(.int d3), (.int f3)]) (rest := []) (lenOf pd__28II_29V rfl) rfl (by show 2 * 0 + _ ≤ _; exact Nat.le_of_eq rfl) (hb hby at_149) (fun _ _ => ⟨rfl, e1121, (by decide : 3 + 0 ≤ _), (by decide : 11 + 0 ≤ _)⟩)
    dsimp only [Pt.U, Pt.locs, Pt.cells, Pt.slots] at X1135 l1135 y1135 z1135 st1135 hQ1135
    subst l1135 y1135 z1135
    obtain ⟨rfl, N1135q, K1135q, f1137, f1138, f1139, f1140, f1141, f1142⟩ := hQ1135
    have N1135 := Fr.app N1121 N1135q
    refine Go.via (fun _ kQ => st1135.trans kQ) ?_
    clear st1135
    have e1135 : T1135.heap = T1135.heap := rfl
    have f1143 : Exa Z T1135.heap b1059 "com/example/libcosearch/libcosearch/PostingList$Builder" := f1137
    have f1144 : Fld Z T1135.heap b1059 "com/example/libcosearch/libcosearch/PostingList$Builder" "documents" "[I" (.ref b1067) := f1138
    have f1145 : Fld Z T1135.heap b1059 "com/example/libcosearch/libcosearch/PostingList$Builder" "frequencies" "[I" (.ref b1068) := f1139
    have f1146 : Fld Z T1135.heap b1059 "com/example/libcosearch/libcosearch/PostingList$Builder" "size" "I" (.int (4 : Int32)) := f1140
    have f1147 : Ia Z T1135.heap b1067 .int [p2, d1, d2, d3] := f1141
    have f1148 : Ia Z T1135.heap b1068 .int [p4, f1, f2, f3] := f1142
    clear X1121 e1121
    show Go p e below (T1135.setTop (mkF m 152 #[.val (.int p0), .val (.int p1), .val (.int p2), .val (.int p3), .val (.int p4), .val (.int p5), .val (.int (4 : Int32)), .val (.int k), .val (.int p2), .val (.int d1), .val (.int d2), .val (.int d3), .val (.int d4), .val (.int p4), .val (.int f1), .val (.int f2), .val (.int f3), .val (.int f4), .val (.ref b1059), .unset, .unset, .unset, .unset, .unset] [])) _
    refine Go.via (fun _ => XS.iload X1135.here hx rfl (hb hby at_152) rfl) ?_
    refine Go.via (fun _ => XS.iconst X1135.here hx rfl (hb hby at_154)) ?_
    refine Go.via (fun _ => XS.icmpYes X1135.here hx rfl (pc0 := 155) (pc' := 167) rfl (hb hby at_155) rfl (flt ((by decide) : ¬ ((4 : Int32) < (4 : Int32)))).2.2.2 (by decide) (by decide)) ?_
    show Go p e below (T1135.setTop (mkF m 167 #[.val (.int p0), .val (.int p1), .val (.int p2), .val (.int p3), .val (.int p4), .val (.int p5), .val (.int (4 : Int32)), .val (.int k), .val (.int p2), .val (.int d1), .val (.int d2), .val (.int d3), .val (.int d4), .val (.int p4), .val (.int f1), .val (.int f2), .val (.int f3), .val (.int f4), .val (.ref b1059), .unset, .unset, .unset, .unset, .unset] [])) _
    refine Go.via (fun _ => XS.aload X1135.here hx rfl (hb hby at_167) rfl rfl) ?_
    have f1149 : Exa Z T1135.heap b1067 "[I" := ((((f1091.keep K1093q).keep K1107q).keep K1121q).keep K1135q)
    have f1150 : Exa Z T1135.heap b1068 "[I" := ((((f1092.keep K1093q).keep K1107q).keep K1121q).keep K1135q)
    have z1152 : n0 ≤ T1135.heap.size := (Nat.le_trans z1136 K1135q.1)
    obtain ⟨cq1151, kq1151, q1151a, q1151b, q1151c⟩ := isOf hZ e1135 f1143
    obtain ⟨_, _, ⟨T1151, L1151, k1151, n1151⟩, -, X1151, ⟨Lc1151, hQ1151, l1151, y1151, z1151⟩, st1151⟩ := X1135.virtualBack hx (y := (⟨"com/example/libcosearch/libcosearch/PostingList$Builder", "build", "()Lcom/example/libcosearch/libcosearch/PostingList;"⟩ : MethodName)) (z := (⟨"com/example/libcosearch/libcosearch/PostingList$Builder", "build", "()Lcom/example/libcosearch/libcosearch/PostingList;"⟩ : MethodName)) hown (mvT hZ (tw hw 15 rfl)) (mvT hZ (tw hw 16 rfl)) (notFace_of_selects (args := #[]) (mvT hZ (tw hw 18 rfl))) (mvT hZ (tw hw 18 rfl)) (mvT hZ (tw hw 17 rfl)) (by decide) (backOf (W := 0) (rmU4 l Z a0 hw [] b1059 b1067 b1068 p2 d1 d2 d3 p4 f1 f2 f3 T1135.heap n0 z1152 f1144 f1145 f1146 f1147 f1148 f1149 f1150) hZ (tw hw 19 rfl) (tw hw 3 rfl) (by decide) (by decide)) q1151a q1151c (g := (mkF m 169 #[.val (.int p0), .val (.int p1), .val (.int p2), .val (.int p3), .val (.int p4), .val (.int p5), .val (.int (4 : Int32)), .val (.int k), .val (.int p2), .val (.int d1), .val (.int d2), .val (.int d3), .val (.int d4), .val (.int p4), .val (.int f1), .val (.int f2), .val (.int f3), .val (.int f4), .val (.ref b1059), .unset, .unset, .unset, .unset, .unset] [(.ref b1059)])) rfl (by rw [hml]; rfl) (Steps.refl _) (argsL := []) (rest := []) (lenOf pd__28_29Lcom_2fexample_2flibcosearch_2flibcosearch_2fPostingList_3b rfl) rfl (by show 2 * 0 + _ ≤ _; exact Nat.le_of_eq rfl) (hb hby at_169) (fun _ _ => ⟨rfl, e1135, (by decide : 3 + 3 ≤ _), (by decide : 11 + 19 ≤ _)⟩)
    dsimp only [Pt.U, Pt.locs, Pt.cells, Pt.slots] at X1151 l1151 y1151 z1151 st1151 hQ1151
    subst l1151 y1151 z1151
    obtain ⟨b1153, b1154, b1155, rfl, N1151q, K1151q, fz_b1153, fz_b1154, fz_b1155, f1156, f1157, f1158, f1159, f1160, f1161⟩ := hQ1151
    have N1151 := Fr.app N1135 N1151q
    refine Go.via (fun _ kQ => st1151.trans kQ) ?_
    clear st1151
    have ne1162 : b1059 ≠ b1153 := Nat.ne_of_lt (Nat.lt_of_lt_of_le f1143.lt fz_b1153)
    have ne1163 : b1067 ≠ b1153 := Nat.ne_of_lt (Nat.lt_of_lt_of_le f1147.lt fz_b1153)
    have ne1164 : b1068 ≠ b1153 := Nat.ne_of_lt (Nat.lt_of_lt_of_le f1148.lt fz_b1153)
    have ge1165 : n0 ≤ b1153 := Nat.le_trans z1152 fz_b1153
    have k1167 : Keep h0 T1135.heap [] := (((((k1081.trans K1065q (allS (Or.inr sz1061) all0)).trans K1093q (allS (Or.inr sz1061) (allS (Or.inr sz1080) (allS (Or.inr sz1084) all0)))).trans K1107q (allS (Or.inr sz1061) (allS (Or.inr sz1080) (allS (Or.inr sz1084) all0)))).trans K1121q (allS (Or.inr sz1061) (allS (Or.inr sz1080) (allS (Or.inr sz1084) all0)))).trans K1135q (allS (Or.inr sz1061) (allS (Or.inr sz1080) (allS (Or.inr sz1084) all0))))
    have sz1166 : h0.size ≤ b1153 := Nat.le_trans k1167.1 fz_b1153
    have ne1168 : b1059 ≠ b1154 := Nat.ne_of_lt (Nat.lt_of_lt_of_le f1143.lt fz_b1154)
    have ne1169 : b1067 ≠ b1154 := Nat.ne_of_lt (Nat.lt_of_lt_of_le f1147.lt fz_b1154)
    have ne1170 : b1068 ≠ b1154 := Nat.ne_of_lt (Nat.lt_of_lt_of_le f1148.lt fz_b1154)
    have ge1171 : n0 ≤ b1154 := Nat.le_trans z1152 fz_b1154
    have sz1172 : h0.size ≤ b1154 := Nat.le_trans k1167.1 fz_b1154
    have ne1173 : b1059 ≠ b1155 := Nat.ne_of_lt (Nat.lt_of_lt_of_le f1143.lt fz_b1155)
    have ne1174 : b1067 ≠ b1155 := Nat.ne_of_lt (Nat.lt_of_lt_of_le f1147.lt fz_b1155)
    have ne1175 : b1068 ≠ b1155 := Nat.ne_of_lt (Nat.lt_of_lt_of_le f1148.lt fz_b1155)
    have ge1176 : n0 ≤ b1155 := Nat.le_trans z1152 fz_b1155
    have sz1177 : h0.size ≤ b1155 := Nat.le_trans k1167.1 fz_b1155
    have e1151 : T1151.heap = T1151.heap := rfl
    have f1178 : Exa Z T1151.heap b1153 "com/example/libcosearch/libcosearch/PostingList" := f1156
    have f1179 : Fld Z T1151.heap b1153 "com/example/libcosearch/libcosearch/PostingList" "documents" "[I" (.ref b1154) := f1157
    have f1180 : Fld Z T1151.heap b1153 "com/example/libcosearch/libcosearch/PostingList" "frequencies" "[I" (.ref b1155) := f1158
    have f1181 : Fld Z T1151.heap b1153 "com/example/libcosearch/libcosearch/PostingList" "collectionFrequency" "J" (.long (((((0 : Int64) + (p4.toInt64)) + (f1.toInt64)) + (f2.toInt64)) + (f3.toInt64))) := f1159
    have f1182 : Ia Z T1151.heap b1154 .int [p2, d1, d2, d3] := f1160
    have f1183 : Ia Z T1151.heap b1155 .int [p4, f1, f2, f3] := f1161
    clear X1135 e1135
    show Go p e below (T1151.setTop (mkF m 172 #[.val (.int p0), .val (.int p1), .val (.int p2), .val (.int p3), .val (.int p4), .val (.int p5), .val (.int (4 : Int32)), .val (.int k), .val (.int p2), .val (.int d1), .val (.int d2), .val (.int d3), .val (.int d4), .val (.int p4), .val (.int f1), .val (.int f2), .val (.int f3), .val (.int f4), .val (.ref b1059), .unset, .unset, .unset, .unset, .unset] [(.ref b1153)])) _
    refine Go.via (fun _ => XS.astore X1151.here hx rfl (hb hby at_172) rfl rfl (l' := #[.val (.int p0), .val (.int p1), .val (.int p2), .val (.int p3), .val (.int p4), .val (.int p5), .val (.int (4 : Int32)), .val (.int k), .val (.int p2), .val (.int d1), .val (.int d2), .val (.int d3), .val (.int d4), .val (.int p4), .val (.int f1), .val (.int f2), .val (.int f3), .val (.int f4), .val (.ref b1059), .val (.ref b1153), .unset, .unset, .unset, .unset]) rfl) ?_
    show Go p e below (T1151.setTop (mkF m 174 #[.val (.int p0), .val (.int p1), .val (.int p2), .val (.int p3), .val (.int p4), .val (.int p5), .val (.int (4 : Int32)), .val (.int k), .val (.int p2), .val (.int d1), .val (.int d2), .val (.int d3), .val (.int d4), .val (.int p4), .val (.int f1), .val (.int f2), .val (.int f3), .val (.int f4), .val (.ref b1059), .val (.ref b1153), .unset, .unset, .unset, .unset] [])) _
    refine Go.via (fun _ => XS.aload X1151.here hx rfl (hb hby at_174) rfl rfl) ?_
    have z1185 : n0 ≤ T1151.heap.size := (Nat.le_trans z1152 K1151q.1)
    obtain ⟨cq1184, kq1184, q1184a, q1184b, q1184c⟩ := isOf hZ e1151 f1178
    obtain ⟨_, _, ⟨T1184, L1184, k1184, n1184⟩, -, X1184, ⟨Lc1184, hQ1184, l1184, y1184, z1184⟩, st1184⟩ := X1151.virtualBack hx (y := (⟨"com/example/libcosearch/libcosearch/PostingList", "size", "()I"⟩ : MethodName)) (z := (⟨"com/example/libcosearch/libcosearch/PostingList", "size", "()I"⟩ : MethodName)) hown (mvT hZ (tw hw 47 rfl)) (mvT hZ (tw hw 48 rfl)) (notFace_of_selects (args := #[]) (mvT hZ (tw hw 50 rfl))) (mvT hZ (tw hw 50 rfl)) (mvT hZ (tw hw 49 rfl)) (by decide) (backOf (W := 0) (rmS l Z a0 hw [] b1153 b1154 [p2, d1, d2, d3] T1151.heap n0 z1185 f1179 f1182) hZ (tw hw 51 rfl) (tw hw 22 rfl) (by decide) (by decide)) q1184a q1184c (g := (mkF m 176 #[.val (.int p0), .val (.int p1), .val (.int p2), .val (.int p3), .val (.int p4), .val (.int p5), .val (.int (4 : Int32)), .val (.int k), .val (.int p2), .val (.int d1), .val (.int d2), .val (.int d3), .val (.int d4), .val (.int p4), .val (.int f1), .val (.int f2), .val (.int f3), .val (.int f4), .val (.ref b1059), .val (.ref b1153), .unset, .unset, .unset, .unset] [(.ref b1153)])) rfl (by rw [hml]; rfl) (Steps.refl _) (argsL := []) (rest := []) (lenOf pd__28_29I rfl) rfl (by show 2 * 0 + _ ≤ _; exact Nat.le_of_eq rfl) (hb hby at_176) (fun _ _ => ⟨rfl, e1151, (by decide : 6 + 0 ≤ _), (by decide : 30 + 0 ≤ _)⟩)
    dsimp only [Pt.U, Pt.locs, Pt.cells, Pt.slots] at X1184 l1184 y1184 z1184 st1184 hQ1184
    subst l1184 y1184 z1184
    obtain ⟨rfl, N1184q, eh1184⟩ := hQ1184
    have N1184 := Fr.app N1151 N1184q
    refine Go.via (fun _ kQ => st1184.trans kQ) ?_
    clear st1184
    have e1184 : T1184.heap = T1151.heap := eh1184
    clear X1151 e1151
    show Go p e below (T1184.setTop (mkF m 179 #[.val (.int p0), .val (.int p1), .val (.int p2), .val (.int p3), .val (.int p4), .val (.int p5), .val (.int (4 : Int32)), .val (.int k), .val (.int p2), .val (.int d1), .val (.int d2), .val (.int d3), .val (.int d4), .val (.int p4), .val (.int f1), .val (.int f2), .val (.int f3), .val (.int f4), .val (.ref b1059), .val (.ref b1153), .unset, .unset, .unset, .unset] [(.int (4 : Int32))])) _
    refine Go.via (fun _ => XS.iload X1184.here hx rfl (hb hby at_179) rfl) ?_
    refine Go.via (fun _ => XS.icmpYes X1184.here hx rfl (pc0 := 181) (pc' := 186) rfl (hb hby at_181) rfl (teq ((by decide) : (4 : Int32) = (4 : Int32))).1 (by decide) (by decide)) ?_
    show Go p e below (T1184.setTop (mkF m 186 #[.val (.int p0), .val (.int p1), .val (.int p2), .val (.int p3), .val (.int p4), .val (.int p5), .val (.int (4 : Int32)), .val (.int k), .val (.int p2), .val (.int d1), .val (.int d2), .val (.int d3), .val (.int d4), .val (.int p4), .val (.int f1), .val (.int f2), .val (.int f3), .val (.int f4), .val (.ref b1059), .val (.ref b1153), .unset, .unset, .unset, .unset] [])) _
    refine Go.via (fun _ => XS.lconst X1184.here hx rfl (hb hby at_186)) ?_
    refine Go.via (fun _ => XS.lstore X1184.here hx rfl (hb hby at_187) rfl (l' := #[.val (.int p0), .val (.int p1), .val (.int p2), .val (.int p3), .val (.int p4), .val (.int p5), .val (.int (4 : Int32)), .val (.int k), .val (.int p2), .val (.int d1), .val (.int d2), .val (.int d3), .val (.int d4), .val (.int p4), .val (.int f1), .val (.int f2), .val (.int f3), .val (.int f4), .val (.ref b1059), .val (.ref b1153), .val (.long (0 : Int64)), .second, .unset, .unset]) rfl) ?_
    show Go p e below (T1184.setTop (mkF m 189 #[.val (.int p0), .val (.int p1), .val (.int p2), .val (.int p3), .val (.int p4), .val (.int p5), .val (.int (4 : Int32)), .val (.int k), .val (.int p2), .val (.int d1), .val (.int d2), .val (.int d3), .val (.int d4), .val (.int p4), .val (.int f1), .val (.int f2), .val (.int f3), .val (.int f4), .val (.ref b1059), .val (.ref b1153), .val (.long (0 : Int64)), .second, .unset, .unset] [])) _
    refine Go.via (fun _ => XS.iload X1184.here hx rfl (hb hby at_189) rfl) ?_
    refine Go.via (fun _ => XS.ifNo X1184.here hx rfl (hb hby at_191) rfl ((if0 _ _).trans (tlt ((by decide) : (0 : Int32) < (4 : Int32))).2.2.2)) ?_
    show Go p e below (T1184.setTop (mkF m 194 #[.val (.int p0), .val (.int p1), .val (.int p2), .val (.int p3), .val (.int p4), .val (.int p5), .val (.int (4 : Int32)), .val (.int k), .val (.int p2), .val (.int d1), .val (.int d2), .val (.int d3), .val (.int d4), .val (.int p4), .val (.int f1), .val (.int f2), .val (.int f3), .val (.int f4), .val (.ref b1059), .val (.ref b1153), .val (.long (0 : Int64)), .second, .unset, .unset] [])) _
    refine Go.via (fun _ => XS.lload X1184.here hx rfl (hb hby at_194) rfl) ?_
    refine Go.via (fun _ => XS.iload X1184.here hx rfl (hb hby at_196) rfl) ?_
    refine Go.via (fun _ => XS.i2l X1184.here hx rfl (hb hby at_198) rfl) ?_
    show Go p e below (T1184.setTop (mkF m 199 #[.val (.int p0), .val (.int p1), .val (.int p2), .val (.int p3), .val (.int p4), .val (.int p5), .val (.int (4 : Int32)), .val (.int k), .val (.int p2), .val (.int d1), .val (.int d2), .val (.int d3), .val (.int d4), .val (.int p4), .val (.int f1), .val (.int f2), .val (.int f3), .val (.int f4), .val (.ref b1059), .val (.ref b1153), .val (.long (0 : Int64)), .second, .unset, .unset] [(.long (p4.toInt64)), (.long (0 : Int64))])) _
    refine Go.via (fun _ => XS.ladd X1184.here hx rfl (hb hby at_199) rfl) ?_
    show Go p e below (T1184.setTop (mkF m 200 #[.val (.int p0), .val (.int p1), .val (.int p2), .val (.int p3), .val (.int p4), .val (.int p5), .val (.int (4 : Int32)), .val (.int k), .val (.int p2), .val (.int d1), .val (.int d2), .val (.int d3), .val (.int d4), .val (.int p4), .val (.int f1), .val (.int f2), .val (.int f3), .val (.int f4), .val (.ref b1059), .val (.ref b1153), .val (.long (0 : Int64)), .second, .unset, .unset] [(.long ((0 : Int64) + (p4.toInt64)))])) _
    refine Go.via (fun _ => XS.lstore X1184.here hx rfl (hb hby at_200) rfl (l' := #[.val (.int p0), .val (.int p1), .val (.int p2), .val (.int p3), .val (.int p4), .val (.int p5), .val (.int (4 : Int32)), .val (.int k), .val (.int p2), .val (.int d1), .val (.int d2), .val (.int d3), .val (.int d4), .val (.int p4), .val (.int f1), .val (.int f2), .val (.int f3), .val (.int f4), .val (.ref b1059), .val (.ref b1153), .val (.long ((0 : Int64) + (p4.toInt64))), .second, .unset, .unset]) rfl) ?_
    show Go p e below (T1184.setTop (mkF m 202 #[.val (.int p0), .val (.int p1), .val (.int p2), .val (.int p3), .val (.int p4), .val (.int p5), .val (.int (4 : Int32)), .val (.int k), .val (.int p2), .val (.int d1), .val (.int d2), .val (.int d3), .val (.int d4), .val (.int p4), .val (.int f1), .val (.int f2), .val (.int f3), .val (.int f4), .val (.ref b1059), .val (.ref b1153), .val (.long ((0 : Int64) + (p4.toInt64))), .second, .unset, .unset] [])) _
    refine Go.via (fun _ => XS.iload X1184.here hx rfl (hb hby at_202) rfl) ?_
    refine Go.via (fun _ => XS.iconst X1184.here hx rfl (hb hby at_204)) ?_
    refine Go.via (fun _ => XS.icmpNo X1184.here hx rfl (hb hby at_205) rfl (tlt ((by decide) : (1 : Int32) < (4 : Int32))).2.2.2) ?_
    show Go p e below (T1184.setTop (mkF m 208 #[.val (.int p0), .val (.int p1), .val (.int p2), .val (.int p3), .val (.int p4), .val (.int p5), .val (.int (4 : Int32)), .val (.int k), .val (.int p2), .val (.int d1), .val (.int d2), .val (.int d3), .val (.int d4), .val (.int p4), .val (.int f1), .val (.int f2), .val (.int f3), .val (.int f4), .val (.ref b1059), .val (.ref b1153), .val (.long ((0 : Int64) + (p4.toInt64))), .second, .unset, .unset] [])) _
    refine Go.via (fun _ => XS.lload X1184.here hx rfl (hb hby at_208) rfl) ?_
    refine Go.via (fun _ => XS.iload X1184.here hx rfl (hb hby at_210) rfl) ?_
    refine Go.via (fun _ => XS.i2l X1184.here hx rfl (hb hby at_212) rfl) ?_
    show Go p e below (T1184.setTop (mkF m 213 #[.val (.int p0), .val (.int p1), .val (.int p2), .val (.int p3), .val (.int p4), .val (.int p5), .val (.int (4 : Int32)), .val (.int k), .val (.int p2), .val (.int d1), .val (.int d2), .val (.int d3), .val (.int d4), .val (.int p4), .val (.int f1), .val (.int f2), .val (.int f3), .val (.int f4), .val (.ref b1059), .val (.ref b1153), .val (.long ((0 : Int64) + (p4.toInt64))), .second, .unset, .unset] [(.long (f1.toInt64)), (.long ((0 : Int64) + (p4.toInt64)))])) _
    refine Go.via (fun _ => XS.ladd X1184.here hx rfl (hb hby at_213) rfl) ?_
    show Go p e below (T1184.setTop (mkF m 214 #[.val (.int p0), .val (.int p1), .val (.int p2), .val (.int p3), .val (.int p4), .val (.int p5), .val (.int (4 : Int32)), .val (.int k), .val (.int p2), .val (.int d1), .val (.int d2), .val (.int d3), .val (.int d4), .val (.int p4), .val (.int f1), .val (.int f2), .val (.int f3), .val (.int f4), .val (.ref b1059), .val (.ref b1153), .val (.long ((0 : Int64) + (p4.toInt64))), .second, .unset, .unset] [(.long (((0 : Int64) + (p4.toInt64)) + (f1.toInt64)))])) _
    refine Go.via (fun _ => XS.lstore X1184.here hx rfl (hb hby at_214) rfl (l' := #[.val (.int p0), .val (.int p1), .val (.int p2), .val (.int p3), .val (.int p4), .val (.int p5), .val (.int (4 : Int32)), .val (.int k), .val (.int p2), .val (.int d1), .val (.int d2), .val (.int d3), .val (.int d4), .val (.int p4), .val (.int f1), .val (.int f2), .val (.int f3), .val (.int f4), .val (.ref b1059), .val (.ref b1153), .val (.long (((0 : Int64) + (p4.toInt64)) + (f1.toInt64))), .second, .unset, .unset]) rfl) ?_
    show Go p e below (T1184.setTop (mkF m 216 #[.val (.int p0), .val (.int p1), .val (.int p2), .val (.int p3), .val (.int p4), .val (.int p5), .val (.int (4 : Int32)), .val (.int k), .val (.int p2), .val (.int d1), .val (.int d2), .val (.int d3), .val (.int d4), .val (.int p4), .val (.int f1), .val (.int f2), .val (.int f3), .val (.int f4), .val (.ref b1059), .val (.ref b1153), .val (.long (((0 : Int64) + (p4.toInt64)) + (f1.toInt64))), .second, .unset, .unset] [])) _
    refine Go.via (fun _ => XS.iload X1184.here hx rfl (hb hby at_216) rfl) ?_
    refine Go.via (fun _ => XS.iconst X1184.here hx rfl (hb hby at_218)) ?_
    refine Go.via (fun _ => XS.icmpNo X1184.here hx rfl (hb hby at_219) rfl (tlt ((by decide) : (2 : Int32) < (4 : Int32))).2.2.2) ?_
    show Go p e below (T1184.setTop (mkF m 222 #[.val (.int p0), .val (.int p1), .val (.int p2), .val (.int p3), .val (.int p4), .val (.int p5), .val (.int (4 : Int32)), .val (.int k), .val (.int p2), .val (.int d1), .val (.int d2), .val (.int d3), .val (.int d4), .val (.int p4), .val (.int f1), .val (.int f2), .val (.int f3), .val (.int f4), .val (.ref b1059), .val (.ref b1153), .val (.long (((0 : Int64) + (p4.toInt64)) + (f1.toInt64))), .second, .unset, .unset] [])) _
    refine Go.via (fun _ => XS.lload X1184.here hx rfl (hb hby at_222) rfl) ?_
    refine Go.via (fun _ => XS.iload X1184.here hx rfl (hb hby at_224) rfl) ?_
    refine Go.via (fun _ => XS.i2l X1184.here hx rfl (hb hby at_226) rfl) ?_
    show Go p e below (T1184.setTop (mkF m 227 #[.val (.int p0), .val (.int p1), .val (.int p2), .val (.int p3), .val (.int p4), .val (.int p5), .val (.int (4 : Int32)), .val (.int k), .val (.int p2), .val (.int d1), .val (.int d2), .val (.int d3), .val (.int d4), .val (.int p4), .val (.int f1), .val (.int f2), .val (.int f3), .val (.int f4), .val (.ref b1059), .val (.ref b1153), .val (.long (((0 : Int64) + (p4.toInt64)) + (f1.toInt64))), .second, .unset, .unset] [(.long (f2.toInt64)), (.long (((0 : Int64) + (p4.toInt64)) + (f1.toInt64)))])) _
    refine Go.via (fun _ => XS.ladd X1184.here hx rfl (hb hby at_227) rfl) ?_
    show Go p e below (T1184.setTop (mkF m 228 #[.val (.int p0), .val (.int p1), .val (.int p2), .val (.int p3), .val (.int p4), .val (.int p5), .val (.int (4 : Int32)), .val (.int k), .val (.int p2), .val (.int d1), .val (.int d2), .val (.int d3), .val (.int d4), .val (.int p4), .val (.int f1), .val (.int f2), .val (.int f3), .val (.int f4), .val (.ref b1059), .val (.ref b1153), .val (.long (((0 : Int64) + (p4.toInt64)) + (f1.toInt64))), .second, .unset, .unset] [(.long ((((0 : Int64) + (p4.toInt64)) + (f1.toInt64)) + (f2.toInt64)))])) _
    refine Go.via (fun _ => XS.lstore X1184.here hx rfl (hb hby at_228) rfl (l' := #[.val (.int p0), .val (.int p1), .val (.int p2), .val (.int p3), .val (.int p4), .val (.int p5), .val (.int (4 : Int32)), .val (.int k), .val (.int p2), .val (.int d1), .val (.int d2), .val (.int d3), .val (.int d4), .val (.int p4), .val (.int f1), .val (.int f2), .val (.int f3), .val (.int f4), .val (.ref b1059), .val (.ref b1153), .val (.long ((((0 : Int64) + (p4.toInt64)) + (f1.toInt64)) + (f2.toInt64))), .second, .unset, .unset]) rfl) ?_
    show Go p e below (T1184.setTop (mkF m 230 #[.val (.int p0), .val (.int p1), .val (.int p2), .val (.int p3), .val (.int p4), .val (.int p5), .val (.int (4 : Int32)), .val (.int k), .val (.int p2), .val (.int d1), .val (.int d2), .val (.int d3), .val (.int d4), .val (.int p4), .val (.int f1), .val (.int f2), .val (.int f3), .val (.int f4), .val (.ref b1059), .val (.ref b1153), .val (.long ((((0 : Int64) + (p4.toInt64)) + (f1.toInt64)) + (f2.toInt64))), .second, .unset, .unset] [])) _
    refine Go.via (fun _ => XS.iload X1184.here hx rfl (hb hby at_230) rfl) ?_
    refine Go.via (fun _ => XS.iconst X1184.here hx rfl (hb hby at_232)) ?_
    refine Go.via (fun _ => XS.icmpNo X1184.here hx rfl (hb hby at_233) rfl (tlt ((by decide) : (3 : Int32) < (4 : Int32))).2.2.2) ?_
    show Go p e below (T1184.setTop (mkF m 236 #[.val (.int p0), .val (.int p1), .val (.int p2), .val (.int p3), .val (.int p4), .val (.int p5), .val (.int (4 : Int32)), .val (.int k), .val (.int p2), .val (.int d1), .val (.int d2), .val (.int d3), .val (.int d4), .val (.int p4), .val (.int f1), .val (.int f2), .val (.int f3), .val (.int f4), .val (.ref b1059), .val (.ref b1153), .val (.long ((((0 : Int64) + (p4.toInt64)) + (f1.toInt64)) + (f2.toInt64))), .second, .unset, .unset] [])) _
    refine Go.via (fun _ => XS.lload X1184.here hx rfl (hb hby at_236) rfl) ?_
    refine Go.via (fun _ => XS.iload X1184.here hx rfl (hb hby at_238) rfl) ?_
    refine Go.via (fun _ => XS.i2l X1184.here hx rfl (hb hby at_240) rfl) ?_
    show Go p e below (T1184.setTop (mkF m 241 #[.val (.int p0), .val (.int p1), .val (.int p2), .val (.int p3), .val (.int p4), .val (.int p5), .val (.int (4 : Int32)), .val (.int k), .val (.int p2), .val (.int d1), .val (.int d2), .val (.int d3), .val (.int d4), .val (.int p4), .val (.int f1), .val (.int f2), .val (.int f3), .val (.int f4), .val (.ref b1059), .val (.ref b1153), .val (.long ((((0 : Int64) + (p4.toInt64)) + (f1.toInt64)) + (f2.toInt64))), .second, .unset, .unset] [(.long (f3.toInt64)), (.long ((((0 : Int64) + (p4.toInt64)) + (f1.toInt64)) + (f2.toInt64)))])) _
    refine Go.via (fun _ => XS.ladd X1184.here hx rfl (hb hby at_241) rfl) ?_
    show Go p e below (T1184.setTop (mkF m 242 #[.val (.int p0), .val (.int p1), .val (.int p2), .val (.int p3), .val (.int p4), .val (.int p5), .val (.int (4 : Int32)), .val (.int k), .val (.int p2), .val (.int d1), .val (.int d2), .val (.int d3), .val (.int d4), .val (.int p4), .val (.int f1), .val (.int f2), .val (.int f3), .val (.int f4), .val (.ref b1059), .val (.ref b1153), .val (.long ((((0 : Int64) + (p4.toInt64)) + (f1.toInt64)) + (f2.toInt64))), .second, .unset, .unset] [(.long (((((0 : Int64) + (p4.toInt64)) + (f1.toInt64)) + (f2.toInt64)) + (f3.toInt64)))])) _
    refine Go.via (fun _ => XS.lstore X1184.here hx rfl (hb hby at_242) rfl (l' := #[.val (.int p0), .val (.int p1), .val (.int p2), .val (.int p3), .val (.int p4), .val (.int p5), .val (.int (4 : Int32)), .val (.int k), .val (.int p2), .val (.int d1), .val (.int d2), .val (.int d3), .val (.int d4), .val (.int p4), .val (.int f1), .val (.int f2), .val (.int f3), .val (.int f4), .val (.ref b1059), .val (.ref b1153), .val (.long (((((0 : Int64) + (p4.toInt64)) + (f1.toInt64)) + (f2.toInt64)) + (f3.toInt64))), .second, .unset, .unset]) rfl) ?_
    show Go p e below (T1184.setTop (mkF m 244 #[.val (.int p0), .val (.int p1), .val (.int p2), .val (.int p3), .val (.int p4), .val (.int p5), .val (.int (4 : Int32)), .val (.int k), .val (.int p2), .val (.int d1), .val (.int d2), .val (.int d3), .val (.int d4), .val (.int p4), .val (.int f1), .val (.int f2), .val (.int f3), .val (.int f4), .val (.ref b1059), .val (.ref b1153), .val (.long (((((0 : Int64) + (p4.toInt64)) + (f1.toInt64)) + (f2.toInt64)) + (f3.toInt64))), .second, .unset, .unset] [])) _
    refine Go.via (fun _ => XS.iload X1184.here hx rfl (hb hby at_244) rfl) ?_
    refine Go.via (fun _ => XS.iconst X1184.here hx rfl (hb hby at_246)) ?_
    refine Go.via (fun _ => XS.icmpYes X1184.here hx rfl (pc0 := 247) (pc' := 258) rfl (hb hby at_247) rfl (flt ((by decide) : ¬ ((4 : Int32) < (4 : Int32)))).2.2.2 (by decide) (by decide)) ?_
    show Go p e below (T1184.setTop (mkF m 258 #[.val (.int p0), .val (.int p1), .val (.int p2), .val (.int p3), .val (.int p4), .val (.int p5), .val (.int (4 : Int32)), .val (.int k), .val (.int p2), .val (.int d1), .val (.int d2), .val (.int d3), .val (.int d4), .val (.int p4), .val (.int f1), .val (.int f2), .val (.int f3), .val (.int f4), .val (.ref b1059), .val (.ref b1153), .val (.long (((((0 : Int64) + (p4.toInt64)) + (f1.toInt64)) + (f2.toInt64)) + (f3.toInt64))), .second, .unset, .unset] [])) _
    refine Go.via (fun _ => XS.aload X1184.here hx rfl (hb hby at_258) rfl rfl) ?_
    obtain ⟨cq1186, kq1186, q1186a, q1186b, q1186c⟩ := isOf hZ e1184 f1178
    obtain ⟨_, _, ⟨T1186, L1186, k1186, n1186⟩, -, X1186, ⟨Lc1186, hQ1186, l1186, y1186, z1186⟩, st1186⟩ := X1184.virtualBack hx (y := (⟨"com/example/libcosearch/libcosearch/PostingList", "collectionFrequency", "()J"⟩ : MethodName)) (z := (⟨"com/example/libcosearch/libcosearch/PostingList", "collectionFrequency", "()J"⟩ : MethodName)) hown (mvT hZ (tw hw 52 rfl)) (mvT hZ (tw hw 53 rfl)) (notFace_of_selects (args := #[]) (mvT hZ (tw hw 55 rfl))) (mvT hZ (tw hw 55 rfl)) (mvT hZ (tw hw 54 rfl)) (by decide) (backOf (W := 0) (rmF l Z a0 hw [] b1153 (((((0 : Int64) + (p4.toInt64)) + (f1.toInt64)) + (f2.toInt64)) + (f3.toInt64)) T1151.heap n0 z1185 f1181) hZ (tw hw 56 rfl) (tw hw 22 rfl) (by decide) (by decide)) q1186a q1186c (g := (mkF m 260 #[.val (.int p0), .val (.int p1), .val (.int p2), .val (.int p3), .val (.int p4), .val (.int p5), .val (.int (4 : Int32)), .val (.int k), .val (.int p2), .val (.int d1), .val (.int d2), .val (.int d3), .val (.int d4), .val (.int p4), .val (.int f1), .val (.int f2), .val (.int f3), .val (.int f4), .val (.ref b1059), .val (.ref b1153), .val (.long (((((0 : Int64) + (p4.toInt64)) + (f1.toInt64)) + (f2.toInt64)) + (f3.toInt64))), .second, .unset, .unset] [(.ref b1153)])) rfl (by rw [hml]; rfl) (Steps.refl _) (argsL := []) (rest := []) (lenOf pd__28_29J rfl) rfl (by show 2 * 0 + _ ≤ _; exact Nat.le_of_eq rfl) (hb hby at_260) (fun _ _ => ⟨rfl, e1184, (by decide : 6 + 0 ≤ _), (by decide : 30 + 0 ≤ _)⟩)
    dsimp only [Pt.U, Pt.locs, Pt.cells, Pt.slots] at X1186 l1186 y1186 z1186 st1186 hQ1186
    subst l1186 y1186 z1186
    obtain ⟨rfl, N1186q, eh1186⟩ := hQ1186
    have N1186 := Fr.app N1184 N1186q
    refine Go.via (fun _ kQ => st1186.trans kQ) ?_
    clear st1186
    have e1186 : T1186.heap = T1151.heap := eh1186
    clear X1184 e1184
    show Go p e below (T1186.setTop (mkF m 263 #[.val (.int p0), .val (.int p1), .val (.int p2), .val (.int p3), .val (.int p4), .val (.int p5), .val (.int (4 : Int32)), .val (.int k), .val (.int p2), .val (.int d1), .val (.int d2), .val (.int d3), .val (.int d4), .val (.int p4), .val (.int f1), .val (.int f2), .val (.int f3), .val (.int f4), .val (.ref b1059), .val (.ref b1153), .val (.long (((((0 : Int64) + (p4.toInt64)) + (f1.toInt64)) + (f2.toInt64)) + (f3.toInt64))), .second, .unset, .unset] [(.long (((((0 : Int64) + (p4.toInt64)) + (f1.toInt64)) + (f2.toInt64)) + (f3.toInt64)))])) _
    refine Go.via (fun _ => XS.lload X1186.here hx rfl (hb hby at_263) rfl) ?_
    refine Go.via (fun _ => XS.lcmp X1186.here hx rfl (hb hby at_265) rfl) ?_
    show Go p e below (T1186.setTop (mkF m 266 #[.val (.int p0), .val (.int p1), .val (.int p2), .val (.int p3), .val (.int p4), .val (.int p5), .val (.int (4 : Int32)), .val (.int k), .val (.int p2), .val (.int d1), .val (.int d2), .val (.int d3), .val (.int d4), .val (.int p4), .val (.int f1), .val (.int f2), .val (.int f3), .val (.int f4), .val (.ref b1059), .val (.ref b1153), .val (.long (((((0 : Int64) + (p4.toInt64)) + (f1.toInt64)) + (f2.toInt64)) + (f3.toInt64))), .second, .unset, .unset] [(.int (lcmpW (((((0 : Int64) + (p4.toInt64)) + (f1.toInt64)) + (f2.toInt64)) + (f3.toInt64)) (((((0 : Int64) + (p4.toInt64)) + (f1.toInt64)) + (f2.toInt64)) + (f3.toInt64))))])) _
    refine Go.via (fun _ => XS.ifYes X1186.here hx rfl (pc0 := 266) (pc' := 271) rfl (hb hby at_266) rfl ((if0 _ _).trans (teq ((own_lc _) : (lcmpW (((((0 : Int64) + (p4.toInt64)) + (f1.toInt64)) + (f2.toInt64)) + (f3.toInt64)) (((((0 : Int64) + (p4.toInt64)) + (f1.toInt64)) + (f2.toInt64)) + (f3.toInt64))) = (0 : Int32))).1) (by decide) (by decide)) ?_
    have X1186m := X1186.more (by decide : _ ≤ 11) (by decide : _ ≤ 50)
    have k1187 : Keep h0 T1151.heap [] := (k1167.trans K1151q all0)
    exact J T1186 _ T1151.heap (4 : Int32) k d1 d2 d3 d4 f1 f2 f3 f4 b1059 b1153 (((((0 : Int64) + (p4.toInt64)) + (f1.toInt64)) + (f2.toInt64)) + (f3.toInt64)) b1154 b1155 [p2, d1, d2, d3] [p4, f1, f2, f3] X1186m e1186 N1186 z1185 k1187 f1178 f1179 f1180 f1182 f1183 (by intro q; rcases hk with rfl | rfl | rfl | rfl | rfl <;> first | exact absurd q (by decide) | exact ⟨by decide, rfl, rfl⟩)
  · show Go p e below (s₁.setTop (mkF m 84 #[.val (.int p0), .val (.int p1), .val (.int p2), .val (.int p3), .val (.int p4), .val (.int p5), .val (.int (5 : Int32)), .val (.int k), .val (.int p2), .val (.int d1), .val (.int d2), .val (.int d3), .val (.int d4), .val (.int p4), .val (.int f1), .val (.int f2), .val (.int f3), .val (.int f4), .unset, .unset, .unset, .unset, .unset, .unset] [])) _
    obtain ⟨T1188, h1188, X1188, e1188, E1188, A1188, D1188, -, st1188⟩ := newO X0 hx hZ hown (tw hw 1 rfl) (tw hw 2 rfl) (tw hw 3 rfl) e0 (g := (mkF m 84 #[.val (.int p0), .val (.int p1), .val (.int p2), .val (.int p3), .val (.int p4), .val (.int p5), .val (.int (5 : Int32)), .val (.int k), .val (.int p2), .val (.int d1), .val (.int d2), .val (.int d3), .val (.int d4), .val (.int p4), .val (.int f1), .val (.int f2), .val (.int f3), .val (.int f4), .unset, .unset, .unset, .unset, .unset, .unset] [])) rfl (hb hby at_84) (by decide) (by decide)
    obtain ⟨b1188, g1188⟩ : ∃ z, z = h0.size := ⟨_, rfl⟩
    rw [← g1188] at A1188 D1188 st1188
    have ge1189 : n0 ≤ b1188 := Nat.le_trans Z0 (Nat.le_of_eq g1188.symm)
    have sz1190 : h0.size ≤ b1188 := Nat.le_trans (Keep.refl h0 []).1 (Nat.le_of_eq g1188.symm)
    refine Go.via (st1188) ?_
    clear st1188
    have f1191 : Fld Z h1188 b1188 "com/example/libcosearch/libcosearch/PostingList$Builder" "documents" "[I" .null := D1188 (Or.inl (tw hw 12 rfl)) (ty := (.array .int)) (by decide)
    have f1192 : Fld Z h1188 b1188 "com/example/libcosearch/libcosearch/PostingList$Builder" "frequencies" "[I" .null := D1188 (Or.inl (tw hw 14 rfl)) (ty := (.array .int)) (by decide)
    have f1193 : Fld Z h1188 b1188 "com/example/libcosearch/libcosearch/PostingList$Builder" "size" "I" (.int (0 : Int32)) := D1188 (Or.inl (tw hw 24 rfl)) (ty := .int) (by decide)
    clear X0 e0
    show Go p e below (T1188.setTop (mkF m 87 #[.val (.int p0), .val (.int p1), .val (.int p2), .val (.int p3), .val (.int p4), .val (.int p5), .val (.int (5 : Int32)), .val (.int k), .val (.int p2), .val (.int d1), .val (.int d2), .val (.int d3), .val (.int d4), .val (.int p4), .val (.int f1), .val (.int f2), .val (.int f3), .val (.int f4), .unset, .unset, .unset, .unset, .unset, .unset] [(.ref b1188)])) _
    refine Go.via (fun _ => XS.dup X1188.here hx rfl (hb hby at_87) rfl rfl) ?_
    have z1195 : n0 ≤ h1188.size := (Nat.le_trans Z0 E1188.1)
    obtain ⟨_, _, ⟨T1194, L1194, k1194, n1194⟩, -, X1194, ⟨Lc1194, hQ1194, l1194, y1194, z1194⟩, st1194⟩ := X1188.specialBack hx (y := (⟨"com/example/libcosearch/libcosearch/PostingList$Builder", "<init>", "()V"⟩ : MethodName)) rfl hown (mvT hZ (tw hw 4 rfl)) (mvT hZ (tw hw 5 rfl)) (mvT hZ (tw hw 6 rfl)) (by decide) (backOf (W := 1) (rmB l Z a0 hw [] b1188  h1188 n0 z1195 A1188 f1191 f1192 f1193 ge1189) hZ (tw hw 6 rfl) (tw hw 3 rfl) (by decide) (by decide)) (g := (mkF m 88 #[.val (.int p0), .val (.int p1), .val (.int p2), .val (.int p3), .val (.int p4), .val (.int p5), .val (.int (5 : Int32)), .val (.int k), .val (.int p2), .val (.int d1), .val (.int d2), .val (.int d3), .val (.int d4), .val (.int p4), .val (.int f1), .val (.int f2), .val (.int f3), .val (.int f4), .unset, .unset, .unset, .unset, .unset, .unset] [(.ref b1188), (.ref b1188)])) rfl (by rw [hml]; rfl) (Steps.refl _) (a := b1188) (argsL := []) (rest := [(.ref b1188)]) (lenOf pd__28_29V rfl) rfl (by show 2 * 0 + _ ≤ _; exact Nat.le_of_eq rfl) (hb hby at_88) (fun _ _ => ⟨rfl, e1188, (by decide : 1 + 2 ≤ _), (by decide : 3 + 8 ≤ _)⟩)
    dsimp only [Pt.U, Pt.locs, Pt.cells, Pt.slots] at X1194 l1194 y1194 z1194 st1194 hQ1194
    subst l1194 y1194 z1194
    obtain ⟨b1196, b1197, rfl, N1194q, K1194q, fz_b1196, fz_b1197, f1198, f1199, f1200, f1201, f1202, f1203, f1204, f1205, qp1206⟩ := hQ1194
    have N1194 := Fr.app N0 N1194q
    refine Go.via (fun _ kQ => st1194.trans kQ) ?_
    clear st1194
    have ne1207 : b1188 ≠ b1196 := Nat.ne_of_lt (Nat.lt_of_lt_of_le A1188.lt fz_b1196)
    have ge1208 : n0 ≤ b1196 := Nat.le_trans z1195 fz_b1196
    have k1210 : Keep h0 h1188 [] := ((Keep.refl h0 []).ext E1188)
    have sz1209 : h0.size ≤ b1196 := Nat.le_trans k1210.1 fz_b1196
    have ne1211 : b1188 ≠ b1197 := Nat.ne_of_lt (Nat.lt_of_lt_of_le A1188.lt fz_b1197)
    have ge1212 : n0 ≤ b1197 := Nat.le_trans z1195 fz_b1197
    have sz1213 : h0.size ≤ b1197 := Nat.le_trans k1210.1 fz_b1197
    have e1194 : T1194.heap = T1194.heap := rfl
    have f1214 : Exa Z T1194.heap b1188 "com/example/libcosearch/libcosearch/PostingList$Builder" := f1198
    have f1215 : Fld Z T1194.heap b1188 "com/example/libcosearch/libcosearch/PostingList$Builder" "documents" "[I" (.ref b1196) := f1199
    have f1216 : Fld Z T1194.heap b1188 "com/example/libcosearch/libcosearch/PostingList$Builder" "frequencies" "[I" (.ref b1197) := f1200
    have f1217 : Fld Z T1194.heap b1188 "com/example/libcosearch/libcosearch/PostingList$Builder" "size" "I" (.int (0 : Int32)) := f1201
    have f1218 : Ia Z T1194.heap b1196 .int [(0 : Int32), (0 : Int32), (0 : Int32), (0 : Int32)] := f1202
    have f1219 : Ia Z T1194.heap b1197 .int [(0 : Int32), (0 : Int32), (0 : Int32), (0 : Int32)] := f1203
    have f1220 : Exa Z T1194.heap b1196 "[I" := f1204
    have f1221 : Exa Z T1194.heap b1197 "[I" := f1205
    clear X1188 e1188
    show Go p e below (T1194.setTop (mkF m 91 #[.val (.int p0), .val (.int p1), .val (.int p2), .val (.int p3), .val (.int p4), .val (.int p5), .val (.int (5 : Int32)), .val (.int k), .val (.int p2), .val (.int d1), .val (.int d2), .val (.int d3), .val (.int d4), .val (.int p4), .val (.int f1), .val (.int f2), .val (.int f3), .val (.int f4), .unset, .unset, .unset, .unset, .unset, .unset] [(.ref b1188)])) _
    refine Go.via (fun _ => XS.astore X1194.here hx rfl (hb hby at_91) rfl rfl (l' := #[.val (.int p0), .val (.int p1), .val (.int p2), .val (.int p3), .val (.int p4), .val (.int p5), .val (.int (5 : Int32)), .val (.int k), .val (.int p2), .val (.int d1), .val (.int d2), .val (.int d3), .val (.int d4), .val (.int p4), .val (.int f1), .val (.int f2), .val (.int f3), .val (.int f4), .val (.ref b1188), .unset, .unset, .unset, .unset, .unset]) rfl) ?_
    show Go p e below (T1194.setTop (mkF m 93 #[.val (.int p0), .val (.int p1), .val (.int p2), .val (.int p3), .val (.int p4), .val (.int p5), .val (.int (5 : Int32)), .val (.int k), .val (.int p2), .val (.int d1), .val (.int d2), .val (.int d3), .val (.int d4), .val (.int p4), .val (.int f1), .val (.int f2), .val (.int f3), .val (.int f4), .val (.ref b1188), .unset, .unset, .unset, .unset, .unset] [])) _
    refine Go.via (fun _ => XS.iload X1194.here hx rfl (hb hby at_93) rfl) ?_
    refine Go.via (fun _ => XS.ifNo X1194.here hx rfl (hb hby at_95) rfl ((if0 _ _).trans (tlt ((by decide) : (0 : Int32) < (5 : Int32))).2.2.2)) ?_
    show Go p e below (T1194.setTop (mkF m 98 #[.val (.int p0), .val (.int p1), .val (.int p2), .val (.int p3), .val (.int p4), .val (.int p5), .val (.int (5 : Int32)), .val (.int k), .val (.int p2), .val (.int d1), .val (.int d2), .val (.int d3), .val (.int d4), .val (.int p4), .val (.int f1), .val (.int f2), .val (.int f3), .val (.int f4), .val (.ref b1188), .unset, .unset, .unset, .unset, .unset] [])) _
    refine Go.via (fun _ => XS.aload X1194.here hx rfl (hb hby at_98) rfl rfl) ?_
    refine Go.via (fun _ => XS.iload X1194.here hx rfl (hb hby at_100) rfl) ?_
    refine Go.via (fun _ => XS.iload X1194.here hx rfl (hb hby at_102) rfl) ?_
    have z1223 : n0 ≤ T1194.heap.size := (Nat.le_trans z1195 K1194q.1)
    obtain ⟨cq1222, kq1222, q1222a, q1222b, q1222c⟩ := isOf hZ e1194 f1214
    obtain ⟨_, _, ⟨T1222, L1222, k1222, n1222⟩, -, X1222, ⟨Lc1222, hQ1222, l1222, y1222, z1222⟩, st1222⟩ := X1194.virtualBack hx (y := (⟨"com/example/libcosearch/libcosearch/PostingList$Builder", "add", "(II)V"⟩ : MethodName)) (z := (⟨"com/example/libcosearch/libcosearch/PostingList$Builder", "add", "(II)V"⟩ : MethodName)) hown (mvT hZ (tw hw 57 rfl)) (mvT hZ (tw hw 58 rfl)) (notFace_of_selects (args := #[]) (mvT hZ (tw hw 60 rfl))) (mvT hZ (tw hw 60 rfl)) (mvT hZ (tw hw 59 rfl)) (by decide) (backOf (W := 0) (rmA l Z a0 hw [] b1188 p2 p4 b1196 b1197 [(0 : Int32), (0 : Int32), (0 : Int32), (0 : Int32)] [(0 : Int32), (0 : Int32), (0 : Int32), (0 : Int32)] (0 : Int32) T1194.heap n0 z1223 f1214 f1215 f1216 f1217 f1218 f1219 ge1189 ge1208 ge1212 ne1207 ne1211 qp1206 (by first | decide | (simp only [List.length_cons, List.length_nil]; decide) | rfl) (by first | decide | (simp only [List.length_cons, List.length_nil]; decide) | rfl) (by first | decide | (simp only [List.length_cons, List.length_nil]; decide) | rfl) (by first | decide | (simp only [List.length_cons, List.length_nil]; decide) | rfl)) hZ (tw hw 61 rfl) (tw hw 3 rfl) (by decide) (by decide)) q1222a q1222c (g := (mkF m 104 #[.val (.int p0), .val (.int p1), .val (.int p2), .val (.int p3), .val (.int p4), .val (.int p5), .val (.int (5 : Int32)), .val (.int k), .val (.int p2), .val (.int d1), .val (.int d2), .val (.int d3), .val (.int d4), .val (.int p4), .val (.int f1), .val (.int f2), .val (.int f3), .val (.int f4), .val (.ref b1188), .unset, .unset, .unset, .unset, .unset] [(.int p4), (.int p2), (.ref b1188)])) rfl (by rw [hml]; rfl) (Steps.refl _) (argsL := [(.int p2), (.int p4)]) (rest := []) (lenOf pd__28II_29V rfl) rfl (by show 2 * 0 + _ ≤ _; exact Nat.le_of_eq rfl) (hb hby at_104) (fun _ _ => ⟨rfl, e1194, (by decide : 3 + 0 ≤ _), (by decide : 11 + 0 ≤ _)⟩)
    dsimp only [Pt.U, Pt.locs, Pt.cells, Pt.slots] at X1222 l1222 y1222 z1222 st1222 hQ1222
    subst l1222 y1222 z1222
    obtain ⟨rfl, N1222q, K1222q, f1224, f1225, f1226, f1227, f1228, f1229⟩ := hQ1222
    have N1222 := Fr.app N1194 N1222q
    refine Go.via (fun _ kQ => st1222.trans kQ) ?_
    clear st1222
    have e1222 : T1222.heap = T1222.heap := rfl
    have f1230 : Exa Z T1222.heap b1188 "com/example/libcosearch/libcosearch/PostingList$Builder" := f1224
    have f1231 : Fld Z T1222.heap b1188 "com/example/libcosearch/libcosearch/PostingList$Builder" "documents" "[I" (.ref b1196) := f1225
    have f1232 : Fld Z T1222.heap b1188 "com/example/libcosearch/libcosearch/PostingList$Builder" "frequencies" "[I" (.ref b1197) := f1226
    have f1233 : Fld Z T1222.heap b1188 "com/example/libcosearch/libcosearch/PostingList$Builder" "size" "I" (.int (1 : Int32)) := f1227
    have f1234 : Ia Z T1222.heap b1196 .int [p2, (0 : Int32), (0 : Int32), (0 : Int32)] := f1228
    have f1235 : Ia Z T1222.heap b1197 .int [p4, (0 : Int32), (0 : Int32), (0 : Int32)] := f1229
    clear X1194 e1194
    show Go p e below (T1222.setTop (mkF m 107 #[.val (.int p0), .val (.int p1), .val (.int p2), .val (.int p3), .val (.int p4), .val (.int p5), .val (.int (5 : Int32)), .val (.int k), .val (.int p2), .val (.int d1), .val (.int d2), .val (.int d3), .val (.int d4), .val (.int p4), .val (.int f1), .val (.int f2), .val (.int f3), .val (.int f4), .val (.ref b1188), .unset, .unset, .unset, .unset, .unset] [])) _
    refine Go.via (fun _ => XS.iload X1222.here hx rfl (hb hby at_107) rfl) ?_
    refine Go.via (fun _ => XS.iconst X1222.here hx rfl (hb hby at_109)) ?_
    refine Go.via (fun _ => XS.icmpNo X1222.here hx rfl (hb hby at_110) rfl (tlt ((by decide) : (1 : Int32) < (5 : Int32))).2.2.2) ?_
    show Go p e below (T1222.setTop (mkF m 113 #[.val (.int p0), .val (.int p1), .val (.int p2), .val (.int p3), .val (.int p4), .val (.int p5), .val (.int (5 : Int32)), .val (.int k), .val (.int p2), .val (.int d1), .val (.int d2), .val (.int d3), .val (.int d4), .val (.int p4), .val (.int f1), .val (.int f2), .val (.int f3), .val (.int f4), .val (.ref b1188), .unset, .unset, .unset, .unset, .unset] [])) _
    refine Go.via (fun _ => XS.aload X1222.here hx rfl (hb hby at_113) rfl rfl) ?_
    refine Go.via (fun _ => XS.iload X1222.here hx rfl (hb hby at_115) rfl) ?_
    refine Go.via (fun _ => XS.iload X1222.here hx rfl (hb hby at_117) rfl) ?_
    have z1237 : n0 ≤ T1222.heap.size := (Nat.le_trans z1223 K1222q.1)
    obtain ⟨cq1236, kq1236, q1236a, q1236b, q1236c⟩ := isOf hZ e1222 f1230
    obtain ⟨_, _, ⟨T1236, L1236, k1236, n1236⟩, -, X1236, ⟨Lc1236, hQ1236, l1236, y1236, z1236⟩, st1236⟩ := X1222.virtualBack hx (y := (⟨"com/example/libcosearch/libcosearch/PostingList$Builder", "add", "(II)V"⟩ : MethodName)) (z := (⟨"com/example/libcosearch/libcosearch/PostingList$Builder", "add", "(II)V"⟩ : MethodName)) hown (mvT hZ (tw hw 57 rfl)) (mvT hZ (tw hw 58 rfl)) (notFace_of_selects (args := #[]) (mvT hZ (tw hw 60 rfl))) (mvT hZ (tw hw 60 rfl)) (mvT hZ (tw hw 59 rfl)) (by decide) (backOf (W := 0) (rmA l Z a0 hw [] b1188 d1 f1 b1196 b1197 [p2, (0 : Int32), (0 : Int32), (0 : Int32)] [p4, (0 : Int32), (0 : Int32), (0 : Int32)] (1 : Int32) T1222.heap n0 z1237 f1230 f1231 f1232 f1233 f1234 f1235 ge1189 ge1208 ge1212 ne1207 ne1211 qp1206 (by first | decide | (simp only [List.length_cons, List.length_nil]; decide) | rfl) (by first | decide | (simp only [List.length_cons, List.length_nil]; decide) | rfl) (by first | decide | (simp only [List.length_cons, List.length_nil]; decide) | rfl) (by first | decide | (simp only [List.length_cons, List.length_nil]; decide) | rfl)) hZ (tw hw 61 rfl) (tw hw 3 rfl) (by decide) (by decide)) q1236a q1236c (g := (mkF m 119 #[.val (.int p0), .val (.int p1), .val (.int p2), .val (.int p3), .val (.int p4), .val (.int p5), .val (.int (5 : Int32)), .val (.int k), .val (.int p2), .val (.int d1), .val (.int d2), .val (.int d3), .val (.int d4), .val (.int p4), .val (.int f1), .val (.int f2), .val (.int f3), .val (.int f4), .val (.ref b1188), .unset, .unset, .unset, .unset, .unset] [(.int f1), (.int d1), (.ref b1188)])) rfl (by rw [hml]; rfl) (Steps.refl _) (argsL := [(.int d1), (.int f1)]) (rest := []) (lenOf pd__28II_29V rfl) rfl (by show 2 * 0 + _ ≤ _; exact Nat.le_of_eq rfl) (hb hby at_119) (fun _ _ => ⟨rfl, e1222, (by decide : 3 + 0 ≤ _), (by decide : 11 + 0 ≤ _)⟩)
    dsimp only [Pt.U, Pt.locs, Pt.cells, Pt.slots] at X1236 l1236 y1236 z1236 st1236 hQ1236
    subst l1236 y1236 z1236
    obtain ⟨rfl, N1236q, K1236q, f1238, f1239, f1240, f1241, f1242, f1243⟩ := hQ1236
    have N1236 := Fr.app N1222 N1236q
    refine Go.via (fun _ kQ => st1236.trans kQ) ?_
    clear st1236
    have e1236 : T1236.heap = T1236.heap := rfl
    have f1244 : Exa Z T1236.heap b1188 "com/example/libcosearch/libcosearch/PostingList$Builder" := f1238
    have f1245 : Fld Z T1236.heap b1188 "com/example/libcosearch/libcosearch/PostingList$Builder" "documents" "[I" (.ref b1196) := f1239
    have f1246 : Fld Z T1236.heap b1188 "com/example/libcosearch/libcosearch/PostingList$Builder" "frequencies" "[I" (.ref b1197) := f1240
    have f1247 : Fld Z T1236.heap b1188 "com/example/libcosearch/libcosearch/PostingList$Builder" "size" "I" (.int (2 : Int32)) := f1241
    have f1248 : Ia Z T1236.heap b1196 .int [p2, d1, (0 : Int32), (0 : Int32)] := f1242
    have f1249 : Ia Z T1236.heap b1197 .int [p4, f1, (0 : Int32), (0 : Int32)] := f1243
    clear X1222 e1222
    show Go p e below (T1236.setTop (mkF m 122 #[.val (.int p0), .val (.int p1), .val (.int p2), .val (.int p3), .val (.int p4), .val (.int p5), .val (.int (5 : Int32)), .val (.int k), .val (.int p2), .val (.int d1), .val (.int d2), .val (.int d3), .val (.int d4), .val (.int p4), .val (.int f1), .val (.int f2), .val (.int f3), .val (.int f4), .val (.ref b1188), .unset, .unset, .unset, .unset, .unset] [])) _
    refine Go.via (fun _ => XS.iload X1236.here hx rfl (hb hby at_122) rfl) ?_
    refine Go.via (fun _ => XS.iconst X1236.here hx rfl (hb hby at_124)) ?_
    refine Go.via (fun _ => XS.icmpNo X1236.here hx rfl (hb hby at_125) rfl (tlt ((by decide) : (2 : Int32) < (5 : Int32))).2.2.2) ?_
    show Go p e below (T1236.setTop (mkF m 128 #[.val (.int p0), .val (.int p1), .val (.int p2), .val (.int p3), .val (.int p4), .val (.int p5), .val (.int (5 : Int32)), .val (.int k), .val (.int p2), .val (.int d1), .val (.int d2), .val (.int d3), .val (.int d4), .val (.int p4), .val (.int f1), .val (.int f2), .val (.int f3), .val (.int f4), .val (.ref b1188), .unset, .unset, .unset, .unset, .unset] [])) _
    refine Go.via (fun _ => XS.aload X1236.here hx rfl (hb hby at_128) rfl rfl) ?_
    refine Go.via (fun _ => XS.iload X1236.here hx rfl (hb hby at_130) rfl) ?_
    refine Go.via (fun _ => XS.iload X1236.here hx rfl (hb hby at_132) rfl) ?_
    have z1251 : n0 ≤ T1236.heap.size := (Nat.le_trans z1237 K1236q.1)
    obtain ⟨cq1250, kq1250, q1250a, q1250b, q1250c⟩ := isOf hZ e1236 f1244
    obtain ⟨_, _, ⟨T1250, L1250, k1250, n1250⟩, -, X1250, ⟨Lc1250, hQ1250, l1250, y1250, z1250⟩, st1250⟩ := X1236.virtualBack hx (y := (⟨"com/example/libcosearch/libcosearch/PostingList$Builder", "add", "(II)V"⟩ : MethodName)) (z := (⟨"com/example/libcosearch/libcosearch/PostingList$Builder", "add", "(II)V"⟩ : MethodName)) hown (mvT hZ (tw hw 57 rfl)) (mvT hZ (tw hw 58 rfl)) (notFace_of_selects (args := #[]) (mvT hZ (tw hw 60 rfl))) (mvT hZ (tw hw 60 rfl)) (mvT hZ (tw hw 59 rfl)) (by decide) (backOf (W := 0) (rmA l Z a0 hw [] b1188 d2 f2 b1196 b1197 [p2, d1, (0 : Int32), (0 : Int32)] [p4, f1, (0 : Int32), (0 : Int32)] (2 : Int32) T1236.heap n0 z1251 f1244 f1245 f1246 f1247 f1248 f1249 ge1189 ge1208 ge1212 ne1207 ne1211 qp1206 (by first | decide | (simp only [List.length_cons, List.length_nil]; decide) | rfl) (by first | decide | (simp only [List.length_cons, List.length_nil]; decide) | rfl) (by first | decide | (simp only [List.length_cons, List.length_nil]; decide) | rfl) (by first | decide | (simp only [List.length_cons, List.length_nil]; decide) | rfl)) hZ (tw hw 61 rfl) (tw hw 3 rfl) (by decide) (by decide)) q1250a q1250c (g := (mkF m 134 #[.val (.int p0), .val (.int p1), .val (.int p2), .val (.int p3), .val (.int p4), .val (.int p5), .val (.int (5 : Int32)), .val (.int k), .val (.int p2), .val (.int d1), .val (.int d2), .val (.int d3), .val (.int d4), .val (.int p4), .val (.int f1), .val (.int f2), .val (.int f3), .val (.int f4), .val (.ref b1188), .unset, .unset, .unset, .unset, .unset] [(.int f2), (.int d2), (.ref b1188)])) rfl (by rw [hml]; rfl) (Steps.refl _) (argsL := [(.int d2), (.int f2)]) (rest := []) (lenOf pd__28II_29V rfl) rfl (by show 2 * 0 + _ ≤ _; exact Nat.le_of_eq rfl) (hb hby at_134) (fun _ _ => ⟨rfl, e1236, (by decide : 3 + 0 ≤ _), (by decide : 11 + 0 ≤ _)⟩)
    dsimp only [Pt.U, Pt.locs, Pt.cells, Pt.slots] at X1250 l1250 y1250 z1250 st1250 hQ1250
    subst l1250 y1250 z1250
    obtain ⟨rfl, N1250q, K1250q, f1252, f1253, f1254, f1255, f1256, f1257⟩ := hQ1250
    have N1250 := Fr.app N1236 N1250q
    refine Go.via (fun _ kQ => st1250.trans kQ) ?_
    clear st1250
    have e1250 : T1250.heap = T1250.heap := rfl
    have f1258 : Exa Z T1250.heap b1188 "com/example/libcosearch/libcosearch/PostingList$Builder" := f1252
    have f1259 : Fld Z T1250.heap b1188 "com/example/libcosearch/libcosearch/PostingList$Builder" "documents" "[I" (.ref b1196) := f1253
    have f1260 : Fld Z T1250.heap b1188 "com/example/libcosearch/libcosearch/PostingList$Builder" "frequencies" "[I" (.ref b1197) := f1254
    have f1261 : Fld Z T1250.heap b1188 "com/example/libcosearch/libcosearch/PostingList$Builder" "size" "I" (.int (3 : Int32)) := f1255
    have f1262 : Ia Z T1250.heap b1196 .int [p2, d1, d2, (0 : Int32)] := f1256
    have f1263 : Ia Z T1250.heap b1197 .int [p4, f1, f2, (0 : Int32)] := f1257
    clear X1236 e1236
    show Go p e below (T1250.setTop (mkF m 137 #[.val (.int p0), .val (.int p1), .val (.int p2), .val (.int p3), .val (.int p4), .val (.int p5), .val (.int (5 : Int32)), .val (.int k), .val (.int p2), .val (.int d1), .val (.int d2), .val (.int d3), .val (.int d4), .val (.int p4), .val (.int f1), .val (.int f2), .val (.int f3), .val (.int f4), .val (.ref b1188), .unset, .unset, .unset, .unset, .unset] [])) _
    refine Go.via (fun _ => XS.iload X1250.here hx rfl (hb hby at_137) rfl) ?_
    refine Go.via (fun _ => XS.iconst X1250.here hx rfl (hb hby at_139)) ?_
    refine Go.via (fun _ => XS.icmpNo X1250.here hx rfl (hb hby at_140) rfl (tlt ((by decide) : (3 : Int32) < (5 : Int32))).2.2.2) ?_
    show Go p e below (T1250.setTop (mkF m 143 #[.val (.int p0), .val (.int p1), .val (.int p2), .val (.int p3), .val (.int p4), .val (.int p5), .val (.int (5 : Int32)), .val (.int k), .val (.int p2), .val (.int d1), .val (.int d2), .val (.int d3), .val (.int d4), .val (.int p4), .val (.int f1), .val (.int f2), .val (.int f3), .val (.int f4), .val (.ref b1188), .unset, .unset, .unset, .unset, .unset] [])) _
    refine Go.via (fun _ => XS.aload X1250.here hx rfl (hb hby at_143) rfl rfl) ?_
    refine Go.via (fun _ => XS.iload X1250.here hx rfl (hb hby at_145) rfl) ?_
    refine Go.via (fun _ => XS.iload X1250.here hx rfl (hb hby at_147) rfl) ?_
    have z1265 : n0 ≤ T1250.heap.size := (Nat.le_trans z1251 K1250q.1)
    obtain ⟨cq1264, kq1264, q1264a, q1264b, q1264c⟩ := isOf hZ e1250 f1258
    obtain ⟨_, _, ⟨T1264, L1264, k1264, n1264⟩, -, X1264, ⟨Lc1264, hQ1264, l1264, y1264, z1264⟩, st1264⟩ := X1250.virtualBack hx (y := (⟨"com/example/libcosearch/libcosearch/PostingList$Builder", "add", "(II)V"⟩ : MethodName)) (z := (⟨"com/example/libcosearch/libcosearch/PostingList$Builder", "add", "(II)V"⟩ : MethodName)) hown (mvT hZ (tw hw 57 rfl)) (mvT hZ (tw hw 58 rfl)) (notFace_of_selects (args := #[]) (mvT hZ (tw hw 60 rfl))) (mvT hZ (tw hw 60 rfl)) (mvT hZ (tw hw 59 rfl)) (by decide) (backOf (W := 0) (rmA l Z a0 hw [] b1188 d3 f3 b1196 b1197 [p2, d1, d2, (0 : Int32)] [p4, f1, f2, (0 : Int32)] (3 : Int32) T1250.heap n0 z1265 f1258 f1259 f1260 f1261 f1262 f1263 ge1189 ge1208 ge1212 ne1207 ne1211 qp1206 (by first | decide | (simp only [List.length_cons, List.length_nil]; decide) | rfl) (by first | decide | (simp only [List.length_cons, List.length_nil]; decide) | rfl) (by first | decide | (simp only [List.length_cons, List.length_nil]; decide) | rfl) (by first | decide | (simp only [List.length_cons, List.length_nil]; decide) | rfl)) hZ (tw hw 61 rfl) (tw hw 3 rfl) (by decide) (by decide)) q1264a q1264c (g := (mkF m 149 #[.val (.int p0), .val (.int p1), .val (.int p2), .val (.int p3), .val (.int p4), .val (.int p5), .val (.int (5 : Int32)), .val (.int k), .val (.int p2), .val (.int d1), .val (.int d2), .val (.int d3), .val (.int d4), .val (.int p4), .val (.int f1), .val (.int f2), .val (.int f3), .val (.int f4), .val (.ref b1188), .unset, .unset, .unset, .unset, .unset] [(.int f3), (.int d3), (.ref b1188)])) rfl (by rw [hml]; rfl) (Steps.refl _) (argsL := [(.int d3), (.int f3)]) (rest := []) (lenOf pd__28II_29V rfl) rfl (by show 2 * 0 + _ ≤ _; exact Nat.le_of_eq rfl) (hb hby at_149) (fun _ _ => ⟨rfl, e1250, (by decide : 3 + 0 ≤ _), (by decide : 11 + 0 ≤ _)⟩)
    dsimp only [Pt.U, Pt.locs, Pt.cells, Pt.slots] at X1264 l1264 y1264 z1264 st1264 hQ1264
    subst l1264 y1264 z1264
    obtain ⟨rfl, N1264q, K1264q, f1266, f1267, f1268, f1269, f1270, f1271⟩ := hQ1264
    have N1264 := Fr.app N1250 N1264q
    refine Go.via (fun _ kQ => st1264.trans kQ) ?_
    clear st1264
    have e1264 : T1264.heap = T1264.heap := rfl
    have f1272 : Exa Z T1264.heap b1188 "com/example/libcosearch/libcosearch/PostingList$Builder" := f1266
    have f1273 : Fld Z T1264.heap b1188 "com/example/libcosearch/libcosearch/PostingList$Builder" "documents" "[I" (.ref b1196) := f1267
    have f1274 : Fld Z T1264.heap b1188 "com/example/libcosearch/libcosearch/PostingList$Builder" "frequencies" "[I" (.ref b1197) := f1268
    have f1275 : Fld Z T1264.heap b1188 "com/example/libcosearch/libcosearch/PostingList$Builder" "size" "I" (.int (4 : Int32)) := f1269
    have f1276 : Ia Z T1264.heap b1196 .int [p2, d1, d2, d3] := f1270
    have f1277 : Ia Z T1264.heap b1197 .int [p4, f1, f2, f3] := f1271
    clear X1250 e1250
    show Go p e below (T1264.setTop (mkF m 152 #[.val (.int p0), .val (.int p1), .val (.int p2), .val (.int p3), .val (.int p4), .val (.int p5), .val (.int (5 : Int32)), .val (.int k), .val (.int p2), .val (.int d1), .val (.int d2), .val (.int d3), .val (.int d4), .val (.int p4), .val (.int f1), .val (.int f2), .val (.int f3), .val (.int f4), .val (.ref b1188), .unset, .unset, .unset, .unset, .unset] [])) _
    refine Go.via (fun _ => XS.iload X1264.here hx rfl (hb hby at_152) rfl) ?_
    refine Go.via (fun _ => XS.iconst X1264.here hx rfl (hb hby at_154)) ?_
    refine Go.via (fun _ => XS.icmpNo X1264.here hx rfl (hb hby at_155) rfl (tlt ((by decide) : (4 : Int32) < (5 : Int32))).2.2.2) ?_
    show Go p e below (T1264.setTop (mkF m 158 #[.val (.int p0), .val (.int p1), .val (.int p2), .val (.int p3), .val (.int p4), .val (.int p5), .val (.int (5 : Int32)), .val (.int k), .val (.int p2), .val (.int d1), .val (.int d2), .val (.int d3), .val (.int d4), .val (.int p4), .val (.int f1), .val (.int f2), .val (.int f3), .val (.int f4), .val (.ref b1188), .unset, .unset, .unset, .unset, .unset] [])) _
    refine Go.via (fun _ => XS.aload X1264.here hx rfl (hb hby at_158) rfl rfl) ?_
    refine Go.via (fun _ => XS.iload X1264.here hx rfl (hb hby at_160) rfl) ?_
    refine Go.via (fun _ => XS.iload X1264.here hx rfl (hb hby at_162) rfl) ?_
    have z1279 : n0 ≤ T1264.heap.size := (Nat.le_trans z1265 K1264q.1)
    obtain ⟨cq1278, kq1278, q1278a, q1278b, q1278c⟩ := isOf hZ e1264 f1272
    obtain ⟨_, _, ⟨T1278, L1278, k1278, n1278⟩, -, X1278, ⟨Lc1278, hQ1278, l1278, y1278, z1278⟩, st1278⟩ := X1264.virtualBack hx (y := (⟨"com/example/libcosearch/libcosearch/PostingList$Builder", "add", "(II)V"⟩ : MethodName)) (z := (⟨"com/example/libcosearch/libcosearch/PostingList$Builder", "add", "(II)V"⟩ : MethodName)) hown (mvT hZ (tw hw 57 rfl)) (mvT hZ (tw hw 58 rfl)) (notFace_of_selects (args := #[]) (mvT hZ (tw hw 60 rfl))) (mvT hZ (tw hw 60 rfl)) (mvT hZ (tw hw 59 rfl)) (by decide) (backOf (W := 0) (rmG l Z a0 hw [] b1188 d4 f4 b1196 b1197 p2 d1 d2 d3 p4 f1 f2 f3 T1264.heap n0 z1279 f1272 f1273 f1274 f1275 f1276 f1277 ge1189 ne1207 ne1211) hZ (tw hw 61 rfl) (tw hw 3 rfl) (by decide) (by decide)) q1278a q1278c (g := (mkF m 164 #[.val (.int p0), .val (.int p1), .val (.int p2), .val (.int p3), .val (.int p4), .val (.int p5), .val (.int (5 : Int32)), .val (.int k), .val (.int p2), .val (.int d1), .val (.int d2), .val (.int d3), .val (.int d4), .val (.int p4), .val (.int f1), .val (.int f2), .val (.int f3), .val (.int f4), .val (.ref b1188), .unset, .unset, .unset, .unset, .unset] [(.int f4), (.int d4), (.ref b1188)])) rfl (by rw [hml]; rfl) (Steps.refl _) (argsL := [(.int d4), (.int f4)]) (rest := []) (lenOf pd__28II_29V rfl) rfl (by show 2 * 0 + _ ≤ _; exact Nat.le_of_eq rfl) (hb hby at_164) (fun _ _ => ⟨rfl, e1264, (by decide : 3 + 2 ≤ _), (by decide : 11 + 16 ≤ _)⟩)
    dsimp only [Pt.U, Pt.locs, Pt.cells, Pt.slots] at X1278 l1278 y1278 z1278 st1278 hQ1278
    subst l1278 y1278 z1278
    obtain ⟨b1280, b1281, rfl, N1278q, K1278q, fz_b1280, fz_b1281, f1282, f1283, f1284, f1285, f1286, f1287, f1288, f1289⟩ := hQ1278
    have N1278 := Fr.app N1264 N1278q
    refine Go.via (fun _ kQ => st1278.trans kQ) ?_
    clear st1278
    have ne1290 : b1188 ≠ b1280 := Nat.ne_of_lt (Nat.lt_of_lt_of_le f1272.lt fz_b1280)
    have ne1291 : b1196 ≠ b1280 := Nat.ne_of_lt (Nat.lt_of_lt_of_le f1276.lt fz_b1280)
    have ne1292 : b1197 ≠ b1280 := Nat.ne_of_lt (Nat.lt_of_lt_of_le f1277.lt fz_b1280)
    have ge1293 : n0 ≤ b1280 := Nat.le_trans z1279 fz_b1280
    have k1295 : Keep h0 T1264.heap [] := (((((k1210.trans K1194q (allS (Or.inr sz1190) all0)).trans K1222q (allS (Or.inr sz1190) (allS (Or.inr sz1209) (allS (Or.inr sz1213) all0)))).trans K1236q (allS (Or.inr sz1190) (allS (Or.inr sz1209) (allS (Or.inr sz1213) all0)))).trans K1250q (allS (Or.inr sz1190) (allS (Or.inr sz1209) (allS (Or.inr sz1213) all0)))).trans K1264q (allS (Or.inr sz1190) (allS (Or.inr sz1209) (allS (Or.inr sz1213) all0))))
    have sz1294 : h0.size ≤ b1280 := Nat.le_trans k1295.1 fz_b1280
    have ne1296 : b1188 ≠ b1281 := Nat.ne_of_lt (Nat.lt_of_lt_of_le f1272.lt fz_b1281)
    have ne1297 : b1196 ≠ b1281 := Nat.ne_of_lt (Nat.lt_of_lt_of_le f1276.lt fz_b1281)
    have ne1298 : b1197 ≠ b1281 := Nat.ne_of_lt (Nat.lt_of_lt_of_le f1277.lt fz_b1281)
    have ge1299 : n0 ≤ b1281 := Nat.le_trans z1279 fz_b1281
    have sz1300 : h0.size ≤ b1281 := Nat.le_trans k1295.1 fz_b1281
    have e1278 : T1278.heap = T1278.heap := rfl
    have f1301 : Exa Z T1278.heap b1188 "com/example/libcosearch/libcosearch/PostingList$Builder" := f1282
    have f1302 : Fld Z T1278.heap b1188 "com/example/libcosearch/libcosearch/PostingList$Builder" "documents" "[I" (.ref b1280) := f1283
    have f1303 : Fld Z T1278.heap b1188 "com/example/libcosearch/libcosearch/PostingList$Builder" "frequencies" "[I" (.ref b1281) := f1284
    have f1304 : Fld Z T1278.heap b1188 "com/example/libcosearch/libcosearch/PostingList$Builder" "size" "I" (.int (5 : Int32)) := f1285
    have f1305 : Ia Z T1278.heap b1280 .int [p2, d1, d2, d3, d4, (0 : Int32), (0 : Int32), (0 : Int32)] := f1286
    have f1306 : Ia Z T1278.heap b1281 .int [p4, f1, f2, f3, f4, (0 : Int32), (0 : Int32), (0 : Int32)] := f1287
    have f1307 : Exa Z T1278.heap b1280 "[I" := f1288
    have f1308 : Exa Z T1278.heap b1281 "[I" := f1289
    clear X1264 e1264
    show Go p e below (T1278.setTop (mkF m 167 #[.val (.int p0), .val (.int p1), .val (.int p2), .val (.int p3), .val (.int p4), .val (.int p5), .val (.int (5 : Int32)), .val (.int k), .val (.int p2), .val (.int d1), .val (.int d2), .val (.int d3), .val (.int d4), .val (.int p4), .val (.int f1), .val (.int f2), .val (.int f3), .val (.int f4), .val (.ref b1188), .unset, .unset, .unset, .unset, .unset] [])) _
    refine Go.via (fun _ => XS.aload X1278.here hx rfl (hb hby at_167) rfl rfl) ?_
    have z1310 : n0 ≤ T1278.heap.size := (Nat.le_trans z1279 K1278q.1)
    obtain ⟨cq1309, kq1309, q1309a, q1309b, q1309c⟩ := isOf hZ e1278 f1301
    obtain ⟨_, _, ⟨T1309, L1309, k1309, n1309⟩, -, X1309, ⟨Lc1309, hQ1309, l1309, y1309, z1309⟩, st1309⟩ := X1278.virtualBack hx (y := (⟨"com/example/libcosearch/libcosearch/PostingList$Builder", "build", "()Lcom/example/libcosearch/libcosearch/PostingList;"⟩ : MethodName)) (z := (⟨"com/example/libcosearch/libcosearch/PostingList$Builder", "build", "()Lcom/example/libcosearch/libcosearch/PostingList;"⟩ : MethodName)) hown (mvT hZ (tw hw 15 rfl)) (mvT hZ (tw hw 16 rfl)) (notFace_of_selects (args := #[]) (mvT hZ (tw hw 18 rfl))) (mvT hZ (tw hw 18 rfl)) (mvT hZ (tw hw 17 rfl)) (by decide) (backOf (W := 0) (rmU5 l Z a0 hw [] b1188 b1280 b1281 p2 d1 d2 d3 d4 (0 : Int32) (0 : Int32) (0 : Int32) p4 f1 f2 f3 f4 (0 : Int32) (0 : Int32) (0 : Int32) T1278.heap n0 z1310 f1302 f1303 f1304 f1305 f1306 f1307 f1308) hZ (tw hw 19 rfl) (tw hw 3 rfl) (by decide) (by decide)) q1309a q1309c (g := (mkF m 169 #[.val (.int p0), .val (.int p1), .val (.int p2), .val (.int p3), .val (.int p4), .val (.int p5), .val (.int (5 : Int32)), .val (.int k), .val (.int p2), .val (.int d1), .val (.int d2), .val (.int d3), .val (.int d4), .val (.int p4), .val (.int f1), .val (.int f2), .val (.int f3), .val (.int f4), .val (.ref b1188), .unset, .unset, .unset, .unset, .unset] [(.ref b1188)])) rfl (by rw [hml]; rfl) (Steps.refl _) (argsL := []) (rest := []) (lenOf pd__28_29Lcom_2fexample_2flibcosearch_2flibcosearch_2fPostingList_3b rfl) rfl (by show 2 * 0 + _ ≤ _; exact Nat.le_of_eq rfl) (hb hby at_169) (fun _ _ => ⟨rfl, e1278, (by decide : 5 + 3 ≤ _), (by decide : 27 + 19 ≤ _)⟩)
    dsimp only [Pt.U, Pt.locs, Pt.cells, Pt.slots] at X1309 l1309 y1309 z1309 st1309 hQ1309
    subst l1309 y1309 z1309
    obtain ⟨b1311, b1312, b1313, rfl, N1309q, K1309q, fz_b1311, fz_b1312, fz_b1313, f1314, f1315, f1316, f1317, f1318, f1319⟩ := hQ1309
    have N1309 := Fr.app N1278 N1309q
    refine Go.via (fun _ kQ => st1309.trans kQ) ?_
    clear st1309
    have ne1320 : b1188 ≠ b1311 := Nat.ne_of_lt (Nat.lt_of_lt_of_le f1301.lt fz_b1311)
    have f1321 : Ia Z T1278.heap b1196 .int [p2, d1, d2, d3] := (f1276.keep K1278q (ninS (Ne.symm ne1207) nin0))
    have ne1322 : b1196 ≠ b1311 := Nat.ne_of_lt (Nat.lt_of_lt_of_le f1321.lt fz_b1311)
    have f1323 : Ia Z T1278.heap b1197 .int [p4, f1, f2, f3] := (f1277.keep K1278q (ninS (Ne.symm ne1211) nin0))
    have ne1324 : b1197 ≠ b1311 := Nat.ne_of_lt (Nat.lt_of_lt_of_le f1323.lt fz_b1311)
    have ne1325 : b1280 ≠ b1311 := Nat.ne_of_lt (Nat.lt_of_lt_of_le f1305.lt fz_b1311)
    have ne1326 : b1281 ≠ b1311 := Nat.ne_of_lt (Nat.lt_of_lt_of_le f1306.lt fz_b1311)
    have ge1327 : n0 ≤ b1311 := Nat.le_trans z1310 fz_b1311
    have k1329 : Keep h0 T1278.heap [] := (k1295.trans K1278q (allS (Or.inr sz1190) all0))
    have sz1328 : h0.size ≤ b1311 := Nat.le_trans k1329.1 fz_b1311
    have ne1330 : b1188 ≠ b1312 := Nat.ne_of_lt (Nat.lt_of_lt_of_le f1301.lt fz_b1312)
    have ne1331 : b1196 ≠ b1312 := Nat.ne_of_lt (Nat.lt_of_lt_of_le f1321.lt fz_b1312)
    have ne1332 : b1197 ≠ b1312 := Nat.ne_of_lt (Nat.lt_of_lt_of_le f1323.lt fz_b1312)
    have ne1333 : b1280 ≠ b1312 := Nat.ne_of_lt (Nat.lt_of_lt_of_le f1305.lt fz_b1312)
    have ne1334 : b1281 ≠ b1312 := Nat.ne_of_lt (Nat.lt_of_lt_of_le f1306.lt fz_b1312)
    have ge1335 : n0 ≤ b1312 := Nat.le_trans z1310 fz_b1312
    have sz1336 : h0.size ≤ b1312 := Nat.le_trans k1329.1 fz_b1312
    have ne1337 : b1188 ≠ b1313 := Nat.ne_of_lt (Nat.lt_of_lt_of_le f1301.lt fz_b1313)
    have ne1338 : b1196 ≠ b1313 := Nat.ne_of_lt (Nat.lt_of_lt_of_le f1321.lt fz_b1313)
    have ne1339 : b1197 ≠ b1313 := Nat.ne_of_lt (Nat.lt_of_lt_of_le f1323.lt fz_b1313)
    have ne1340 : b1280 ≠ b1313 := Nat.ne_of_lt (Nat.lt_of_lt_of_le f1305.lt fz_b1313)
    have ne1341 : b1281 ≠ b1313 := Nat.ne_of_lt (Nat.lt_of_lt_of_le f1306.lt fz_b1313)
    have ge1342 : n0 ≤ b1313 := Nat.le_trans z1310 fz_b1313
    have sz1343 : h0.size ≤ b1313 := Nat.le_trans k1329.1 fz_b1313
    have e1309 : T1309.heap = T1309.heap := rfl
    have f1344 : Exa Z T1309.heap b1311 "com/example/libcosearch/libcosearch/PostingList" := f1314
    have f1345 : Fld Z T1309.heap b1311 "com/example/libcosearch/libcosearch/PostingList" "documents" "[I" (.ref b1312) := f1315
    have f1346 : Fld Z T1309.heap b1311 "com/example/libcosearch/libcosearch/PostingList" "frequencies" "[I" (.ref b1313) := f1316
    have f1347 : Fld Z T1309.heap b1311 "com/example/libcosearch/libcosearch/PostingList" "collectionFrequency" "J" (.long ((((((0 : Int64) + (p4.toInt64)) + (f1.toInt64)) + (f2.toInt64)) + (f3.toInt64)) + (f4.toInt64))) := f1317
    have f1348 : Ia Z T1309.heap b1312 .int [p2, d1, d2, d3, d4] := f1318
    have f1349 : Ia Z T1309.heap b1313 .int [p4, f1, f2, f3, f4] := f1319
    clear X1278 e1278
    show Go p e below (T1309.setTop (mkF m 172 #[.val (.int p0), .val (.int p1), .val (.int p2), .val (.int p3), .val (.int p4), .val (.int p5), .val (.int (5 : Int32)), .val (.int k), .val (.int p2), .val (.int d1), .val (.int d2), .val (.int d3), .val (.int d4), .val (.int p4), .val (.int f1), .val (.int f2), .val (.int f3), .val (.int f4), .val (.ref b1188), .unset, .unset, .unset, .unset, .unset] [(.ref b1311)])) _
    refine Go.via (fun _ => XS.astore X1309.here hx rfl (hb hby at_172) rfl rfl (l' := #[.val (.int p0), .val (.int p1), .val (.int p2), .val (.int p3), .val (.int p4), .val (.int p5), .val (.int (5 : Int32)), .val (.int k), .val (.int p2), .val (.int d1), .val (.int d2), .val (.int d3), .val (.int d4), .val (.int p4), .val (.int f1), .val (.int f2), .val (.int f3), .val (.int f4), .val (.ref b1188), .val (.ref b1311), .unset, .unset, .unset, .unset]) rfl) ?_
    show Go p e below (T1309.setTop (mkF m 174 #[.val (.int p0), .val (.int p1), .val (.int p2), .val (.int p3), .val (.int p4), .val (.int p5), .val (.int (5 : Int32)), .val (.int k), .val (.int p2), .val (.int d1), .val (.int d2), .val (.int d3), .val (.int d4), .val (.int p4), .val (.int f1), .val (.int f2), .val (.int f3), .val (.int f4), .val (.ref b1188), .val (.ref b1311), .unset, .unset, .unset, .unset] [])) _
    refine Go.via (fun _ => XS.aload X1309.here hx rfl (hb hby at_174) rfl rfl) ?_
    have z1351 : n0 ≤ T1309.heap.size := (Nat.le_trans z1310 K1309q.1)
    obtain ⟨cq1350, kq1350, q1350a, q1350b, q1350c⟩ := isOf hZ e1309 f1344
    obtain ⟨_, _, ⟨T1350, L1350, k1350, n1350⟩, -, X1350, ⟨Lc1350, hQ1350, l1350, y1350, z1350⟩, st1350⟩ := X1309.virtualBack hx (y := (⟨"com/example/libcosearch/libcosearch/PostingList", "size", "()I"⟩ : MethodName)) (z := (⟨"com/example/libcosearch/libcosearch/PostingList", "size", "()I"⟩ : MethodName)) hown (mvT hZ (tw hw 47 rfl)) (mvT hZ (tw hw 48 rfl)) (notFace_of_selects (args := #[]) (mvT hZ (tw hw 50 rfl))) (mvT hZ (tw hw 50 rfl)) (mvT hZ (tw hw 49 rfl)) (by decide) (backOf (W := 0) (rmS l Z a0 hw [] b1311 b1312 [p2, d1, d2, d3, d4] T1309.heap n0 z1351 f1345 f1348) hZ (tw hw 51 rfl) (tw hw 22 rfl) (by decide) (by decide)) q1350a q1350c (g := (mkF m 176 #[.val (.int p0), .val (.int p1), .val (.int p2), .val (.int p3), .val (.int p4), .val (.int p5), .val (.int (5 : Int32)), .val (.int k), .val (.int p2), .val (.int d1), .val (.int d2), .val (.int d3), .val (.int d4), .val (.int p4), .val (.int f1), .val (.int f2), .val (.int f3), .val (.int f4), .val (.ref b1188), .val (.ref b1311), .unset, .unset, .unset, .unset] [(.ref b1311)])) rfl (by rw [hml]; rfl) (Steps.refl _) (argsL := []) (rest := []) (lenOf pd__28_29I rfl) rfl (by show 2 * 0 + _ ≤ _; exact Nat.le_of_eq rfl) (hb hby at_176) (fun _ _ => ⟨rfl, e1309, (by decide : 8 + 0 ≤ _), (by decide : 46 + 0 ≤ _)⟩)
    dsimp only [Pt.U, Pt.locs, Pt.cells, Pt.slots] at X1350 l1350 y1350 z1350 st1350 hQ1350
    subst l1350 y1350 z1350
    obtain ⟨rfl, N1350q, eh1350⟩ := hQ1350
    have N1350 := Fr.app N1309 N1350q
    refine Go.via (fun _ kQ => st1350.trans kQ) ?_
    clear st1350
    have e1350 : T1350.heap = T1309.heap := eh1350
    clear X1309 e1309
    show Go p e below (T1350.setTop (mkF m 179 #[.val (.int p0), .val (.int p1), .val (.int p2), .val (.int p3), .val (.int p4), .val (.int p5), .val (.int (5 : Int32)), .val (.int k), .val (.int p2), .val (.int d1), .val (.int d2), .val (.int d3), .val (.int d4), .val (.int p4), .val (.int f1), .val (.int f2), .val (.int f3), .val (.int f4), .val (.ref b1188), .val (.ref b1311), .unset, .unset, .unset, .unset] [(.int (5 : Int32))])) _
    refine Go.via (fun _ => XS.iload X1350.here hx rfl (hb hby at_179) rfl) ?_
    refine Go.via (fun _ => XS.icmpYes X1350.here hx rfl (pc0 := 181) (pc' := 186) rfl (hb hby at_181) rfl (teq ((by decide) : (5 : Int32) = (5 : Int32))).1 (by decide) (by decide)) ?_
    show Go p e below (T1350.setTop (mkF m 186 #[.val (.int p0), .val (.int p1), .val (.int p2), .val (.int p3), .val (.int p4), .val (.int p5), .val (.int (5 : Int32)), .val (.int k), .val (.int p2), .val (.int d1), .val (.int d2), .val (.int d3), .val (.int d4), .val (.int p4), .val (.int f1), .val (.int f2), .val (.int f3), .val (.int f4), .val (.ref b1188), .val (.ref b1311), .unset, .unset, .unset, .unset] [])) _
    refine Go.via (fun _ => XS.lconst X1350.here hx rfl (hb hby at_186)) ?_
    refine Go.via (fun _ => XS.lstore X1350.here hx rfl (hb hby at_187) rfl (l' := #[.val (.int p0), .val (.int p1), .val (.int p2), .val (.int p3), .val (.int p4), .val (.int p5), .val (.int (5 : Int32)), .val (.int k), .val (.int p2), .val (.int d1), .val (.int d2), .val (.int d3), .val (.int d4), .val (.int p4), .val (.int f1), .val (.int f2), .val (.int f3), .val (.int f4), .val (.ref b1188), .val (.ref b1311), .val (.long (0 : Int64)), .second, .unset, .unset]) rfl) ?_
    show Go p e below (T1350.setTop (mkF m 189 #[.val (.int p0), .val (.int p1), .val (.int p2), .val (.int p3), .val (.int p4), .val (.int p5), .val (.int (5 : Int32)), .val (.int k), .val (.int p2), .val (.int d1), .val (.int d2), .val (.int d3), .val (.int d4), .val (.int p4), .val (.int f1), .val (.int f2), .val (.int f3), .val (.int f4), .val (.ref b1188), .val (.ref b1311), .val (.long (0 : Int64)), .second, .unset, .unset] [])) _
    refine Go.via (fun _ => XS.iload X1350.here hx rfl (hb hby at_189) rfl) ?_
    refine Go.via (fun _ => XS.ifNo X1350.here hx rfl (hb hby at_191) rfl ((if0 _ _).trans (tlt ((by decide) : (0 : Int32) < (5 : Int32))).2.2.2)) ?_
    show Go p e below (T1350.setTop (mkF m 194 #[.val (.int p0), .val (.int p1), .val (.int p2), .val (.int p3), .val (.int p4), .val (.int p5), .val (.int (5 : Int32)), .val (.int k), .val (.int p2), .val (.int d1), .val (.int d2), .val (.int d3), .val (.int d4), .val (.int p4), .val (.int f1), .val (.int f2), .val (.int f3), .val (.int f4), .val (.ref b1188), .val (.ref b1311), .val (.long (0 : Int64)), .second, .unset, .unset] [])) _
    refine Go.via (fun _ => XS.lload X1350.here hx rfl (hb hby at_194) rfl) ?_
    refine Go.via (fun _ => XS.iload X1350.here hx rfl (hb hby at_196) rfl) ?_
    refine Go.via (fun _ => XS.i2l X1350.here hx rfl (hb hby at_198) rfl) ?_
    show Go p e below (T1350.setTop (mkF m 199 #[.val (.int p0), .val (.int p1), .val (.int p2), .val (.int p3), .val (.int p4), .val (.int p5), .val (.int (5 : Int32)), .val (.int k), .val (.int p2), .val (.int d1), .val (.int d2), .val (.int d3), .val (.int d4), .val (.int p4), .val (.int f1), .val (.int f2), .val (.int f3), .val (.int f4), .val (.ref b1188), .val (.ref b1311), .val (.long (0 : Int64)), .second, .unset, .unset] [(.long (p4.toInt64)), (.long (0 : Int64))])) _
    refine Go.via (fun _ => XS.ladd X1350.here hx rfl (hb hby at_199) rfl) ?_
    show Go p e below (T1350.setTop (mkF m 200 #[.val (.int p0), .val (.int p1), .val (.int p2), .val (.int p3), .val (.int p4), .val (.int p5), .val (.int (5 : Int32)), .val (.int k), .val (.int p2), .val (.int d1), .val (.int d2), .val (.int d3), .val (.int d4), .val (.int p4), .val (.int f1), .val (.int f2), .val (.int f3), .val (.int f4), .val (.ref b1188), .val (.ref b1311), .val (.long (0 : Int64)), .second, .unset, .unset] [(.long ((0 : Int64) + (p4.toInt64)))])) _
    refine Go.via (fun _ => XS.lstore X1350.here hx rfl (hb hby at_200) rfl (l' := #[.val (.int p0), .val (.int p1), .val (.int p2), .val (.int p3), .val (.int p4), .val (.int p5), .val (.int (5 : Int32)), .val (.int k), .val (.int p2), .val (.int d1), .val (.int d2), .val (.int d3), .val (.int d4), .val (.int p4), .val (.int f1), .val (.int f2), .val (.int f3), .val (.int f4), .val (.ref b1188), .val (.ref b1311), .val (.long ((0 : Int64) + (p4.toInt64))), .second, .unset, .unset]) rfl) ?_
    show Go p e below (T1350.setTop (mkF m 202 #[.val (.int p0), .val (.int p1), .val (.int p2), .val (.int p3), .val (.int p4), .val (.int p5), .val (.int (5 : Int32)), .val (.int k), .val (.int p2), .val (.int d1), .val (.int d2), .val (.int d3), .val (.int d4), .val (.int p4), .val (.int f1), .val (.int f2), .val (.int f3), .val (.int f4), .val (.ref b1188), .val (.ref b1311), .val (.long ((0 : Int64) + (p4.toInt64))), .second, .unset, .unset] [])) _
    refine Go.via (fun _ => XS.iload X1350.here hx rfl (hb hby at_202) rfl) ?_
    refine Go.via (fun _ => XS.iconst X1350.here hx rfl (hb hby at_204)) ?_
    refine Go.via (fun _ => XS.icmpNo X1350.here hx rfl (hb hby at_205) rfl (tlt ((by decide) : (1 : Int32) < (5 : Int32))).2.2.2) ?_
    show Go p e below (T1350.setTop (mkF m 208 #[.val (.int p0), .val (.int p1), .val (.int p2), .val (.int p3), .val (.int p4), .val (.int p5), .val (.int (5 : Int32)), .val (.int k), .val (.int p2), .val (.int d1), .val (.int d2), .val (.int d3), .val (.int d4), .val (.int p4), .val (.int f1), .val (.int f2), .val (.int f3), .val (.int f4), .val (.ref b1188), .val (.ref b1311), .val (.long ((0 : Int64) + (p4.toInt64))), .second, .unset, .unset] [])) _
    refine Go.via (fun _ => XS.lload X1350.here hx rfl (hb hby at_208) rfl) ?_
    refine Go.via (fun _ => XS.iload X1350.here hx rfl (hb hby at_210) rfl) ?_
    refine Go.via (fun _ => XS.i2l X1350.here hx rfl (hb hby at_212) rfl) ?_
    show Go p e below (T1350.setTop (mkF m 213 #[.val (.int p0), .val (.int p1), .val (.int p2), .val (.int p3), .val (.int p4), .val (.int p5), .val (.int (5 : Int32)), .val (.int k), .val (.int p2), .val (.int d1), .val (.int d2), .val (.int d3), .val (.int d4), .val (.int p4), .val (.int f1), .val (.int f2), .val (.int f3), .val (.int f4), .val (.ref b1188), .val (.ref b1311), .val (.long ((0 : Int64) + (p4.toInt64))), .second, .unset, .unset] [(.long (f1.toInt64)), (.long ((0 : Int64) + (p4.toInt64)))])) _
    refine Go.via (fun _ => XS.ladd X1350.here hx rfl (hb hby at_213) rfl) ?_
    show Go p e below (T1350.setTop (mkF m 214 #[.val (.int p0), .val (.int p1), .val (.int p2), .val (.int p3), .val (.int p4), .val (.int p5), .val (.int (5 : Int32)), .val (.int k), .val (.int p2), .val (.int d1), .val (.int d2), .val (.int d3), .val (.int d4), .val (.int p4), .val (.int f1), .val (.int f2), .val (.int f3), .val (.int f4), .val (.ref b1188), .val (.ref b1311), .val (.long ((0 : Int64) + (p4.toInt64))), .second, .unset, .unset] [(.long (((0 : Int64) + (p4.toInt64)) + (f1.toInt64)))])) _
    refine Go.via (fun _ => XS.lstore X1350.here hx rfl (hb hby at_214) rfl (l' := #[.val (.int p0), .val (.int p1), .val (.int p2), .val (.int p3), .val (.int p4), .val (.int p5), .val (.int (5 : Int32)), .val (.int k), .val (.int p2), .val (.int d1), .val (.int d2), .val (.int d3), .val (.int d4), .val (.int p4), .val (.int f1), .val (.int f2), .val (.int f3), .val (.int f4), .val (.ref b1188), .val (.ref b1311), .val (.long (((0 : Int64) + (p4.toInt64)) + (f1.toInt64))), .second, .unset, .unset]) rfl) ?_
    show Go p e below (T1350.setTop (mkF m 216 #[.val (.int p0), .val (.int p1), .val (.int p2), .val (.int p3), .val (.int p4), .val (.int p5), .val (.int (5 : Int32)), .val (.int k), .val (.int p2), .val (.int d1), .val (.int d2), .val (.int d3), .val (.int d4), .val (.int p4), .val (.int f1), .val (.int f2), .val (.int f3), .val (.int f4), .val (.ref b1188), .val (.ref b1311), .val (.long (((0 : Int64) + (p4.toInt64)) + (f1.toInt64))), .second, .unset, .unset] [])) _
    refine Go.via (fun _ => XS.iload X1350.here hx rfl (hb hby at_216) rfl) ?_
    refine Go.via (fun _ => XS.iconst X1350.here hx rfl (hb hby at_218)) ?_
    refine Go.via (fun _ => XS.icmpNo X1350.here hx rfl (hb hby at_219) rfl (tlt ((by decide) : (2 : Int32) < (5 : Int32))).2.2.2) ?_
    show Go p e below (T1350.setTop (mkF m 222 #[.val (.int p0), .val (.int p1), .val (.int p2), .val (.int p3), .val (.int p4), .val (.int p5), .val (.int (5 : Int32)), .val (.int k), .val (.int p2), .val (.int d1), .val (.int d2), .val (.int d3), .val (.int d4), .val (.int p4), .val (.int f1), .val (.int f2), .val (.int f3), .val (.int f4), .val (.ref b1188), .val (.ref b1311), .val (.long (((0 : Int64) + (p4.toInt64)) + (f1.toInt64))), .second, .unset, .unset] [])) _
    refine Go.via (fun _ => XS.lload X1350.here hx rfl (hb hby at_222) rfl) ?_
    refine Go.via (fun _ => XS.iload X1350.here hx rfl (hb hby at_224) rfl) ?_
    refine Go.via (fun _ => XS.i2l X1350.here hx rfl (hb hby at_226) rfl) ?_
    show Go p e below (T1350.setTop (mkF m 227 #[.val (.int p0), .val (.int p1), .val (.int p2), .val (.int p3), .val (.int p4), .val (.int p5), .val (.int (5 : Int32)), .val (.int k), .val (.int p2), .val (.int d1), .val (.int d2), .val (.int d3), .val (.int d4), .val (.int p4), .val (.int f1), .val (.int f2), .val (.int f3), .val (.int f4), .val (.ref b1188), .val (.ref b1311), .val (.long (((0 : Int64) + (p4.toInt64)) + (f1.toInt64))), .second, .unset, .unset] [(.long (f2.toInt64)), (.long (((0 : Int64) + (p4.toInt64)) + (f1.toInt64)))])) _
    refine Go.via (fun _ => XS.ladd X1350.here hx rfl (hb hby at_227) rfl) ?_
    show Go p e below (T1350.setTop (mkF m 228 #[.val (.int p0), .val (.int p1), .val (.int p2), .val (.int p3), .val (.int p4), .val (.int p5), .val (.int (5 : Int32)), .val (.int k), .val (.int p2), .val (.int d1), .val (.int d2), .val (.int d3), .val (.int d4), .val (.int p4), .val (.int f1), .val (.int f2), .val (.int f3), .val (.int f4), .val (.ref b1188), .val (.ref b1311), .val (.long (((0 : Int64) + (p4.toInt64)) + (f1.toInt64))), .second, .unset, .unset] [(.long ((((0 : Int64) + (p4.toInt64)) + (f1.toInt64)) + (f2.toInt64)))])) _
    refine Go.via (fun _ => XS.lstore X1350.here hx rfl (hb hby at_228) rfl (l' := #[.val (.int p0), .val (.int p1), .val (.int p2), .val (.int p3), .val (.int p4), .val (.int p5), .val (.int (5 : Int32)), .val (.int k), .val (.int p2), .val (.int d1), .val (.int d2), .val (.int d3), .val (.int d4), .val (.int p4), .val (.int f1), .val (.int f2), .val (.int f3), .val (.int f4), .val (.ref b1188), .val (.ref b1311), .val (.long ((((0 : Int64) + (p4.toInt64)) + (f1.toInt64)) + (f2.toInt64))), .second, .unset, .unset]) rfl) ?_
    show Go p e below (T1350.setTop (mkF m 230 #[.val (.int p0), .val (.int p1), .val (.int p2), .val (.int p3), .val (.int p4), .val (.int p5), .val (.int (5 : Int32)), .val (.int k), .val (.int p2), .val (.int d1), .val (.int d2), .val (.int d3), .val (.int d4), .val (.int p4), .val (.int f1), .val (.int f2), .val (.int f3), .val (.int f4), .val (.ref b1188), .val (.ref b1311), .val (.long ((((0 : Int64) + (p4.toInt64)) + (f1.toInt64)) + (f2.toInt64))), .second, .unset, .unset] [])) _
    refine Go.via (fun _ => XS.iload X1350.here hx rfl (hb hby at_230) rfl) ?_
    refine Go.via (fun _ => XS.iconst X1350.here hx rfl (hb hby at_232)) ?_
    refine Go.via (fun _ => XS.icmpNo X1350.here hx rfl (hb hby at_233) rfl (tlt ((by decide) : (3 : Int32) < (5 : Int32))).2.2.2) ?_
    show Go p e below (T1350.setTop (mkF m 236 #[.val (.int p0), .val (.int p1), .val (.int p2), .val (.int p3), .val (.int p4), .val (.int p5), .val (.int (5 : Int32)), .val (.int k), .val (.int p2), .val (.int d1), .val (.int d2), .val (.int d3), .val (.int d4), .val (.int p4), .val (.int f1), .val (.int f2), .val (.int f3), .val (.int f4), .val (.ref b1188), .val (.ref b1311), .val (.long ((((0 : Int64) + (p4.toInt64)) + (f1.toInt64)) + (f2.toInt64))), .second, .unset, .unset] [])) _
    refine Go.via (fun _ => XS.lload X1350.here hx rfl (hb hby at_236) rfl) ?_
    refine Go.via (fun _ => XS.iload X1350.here hx rfl (hb hby at_238) rfl) ?_
    refine Go.via (fun _ => XS.i2l X1350.here hx rfl (hb hby at_240) rfl) ?_
    show Go p e below (T1350.setTop (mkF m 241 #[.val (.int p0), .val (.int p1), .val (.int p2), .val (.int p3), .val (.int p4), .val (.int p5), .val (.int (5 : Int32)), .val (.int k), .val (.int p2), .val (.int d1), .val (.int d2), .val (.int d3), .val (.int d4), .val (.int p4), .val (.int f1), .val (.int f2), .val (.int f3), .val (.int f4), .val (.ref b1188), .val (.ref b1311), .val (.long ((((0 : Int64) + (p4.toInt64)) + (f1.toInt64)) + (f2.toInt64))), .second, .unset, .unset] [(.long (f3.toInt64)), (.long ((((0 : Int64) + (p4.toInt64)) + (f1.toInt64)) + (f2.toInt64)))])) _
    refine Go.via (fun _ => XS.ladd X1350.here hx rfl (hb hby at_241) rfl) ?_
    show Go p e below (T1350.setTop (mkF m 242 #[.val (.int p0), .val (.int p1), .val (.int p2), .val (.int p3), .val (.int p4), .val (.int p5), .val (.int (5 : Int32)), .val (.int k), .val (.int p2), .val (.int d1), .val (.int d2), .val (.int d3), .val (.int d4), .val (.int p4), .val (.int f1), .val (.int f2), .val (.int f3), .val (.int f4), .val (.ref b1188), .val (.ref b1311), .val (.long ((((0 : Int64) + (p4.toInt64)) + (f1.toInt64)) + (f2.toInt64))), .second, .unset, .unset] [(.long (((((0 : Int64) + (p4.toInt64)) + (f1.toInt64)) + (f2.toInt64)) + (f3.toInt64)))])) _
    refine Go.via (fun _ => XS.lstore X1350.here hx rfl (hb hby at_242) rfl (l' := #[.val (.int p0), .val (.int p1), .val (.int p2), .val (.int p3), .val (.int p4), .val (.int p5), .val (.int (5 : Int32)), .val (.int k), .val (.int p2), .val (.int d1), .val (.int d2), .val (.int d3), .val (.int d4), .val (.int p4), .val (.int f1), .val (.int f2), .val (.int f3), .val (.int f4), .val (.ref b1188), .val (.ref b1311), .val (.long (((((0 : Int64) + (p4.toInt64)) + (f1.toInt64)) + (f2.toInt64)) + (f3.toInt64))), .second, .unset, .unset]) rfl) ?_
    show Go p e below (T1350.setTop (mkF m 244 #[.val (.int p0), .val (.int p1), .val (.int p2), .val (.int p3), .val (.int p4), .val (.int p5), .val (.int (5 : Int32)), .val (.int k), .val (.int p2), .val (.int d1), .val (.int d2), .val (.int d3), .val (.int d4), .val (.int p4), .val (.int f1), .val (.int f2), .val (.int f3), .val (.int f4), .val (.ref b1188), .val (.ref b1311), .val (.long (((((0 : Int64) + (p4.toInt64)) + (f1.toInt64)) + (f2.toInt64)) + (f3.toInt64))), .second, .unset, .unset] [])) _
    refine Go.via (fun _ => XS.iload X1350.here hx rfl (hb hby at_244) rfl) ?_
    refine Go.via (fun _ => XS.iconst X1350.here hx rfl (hb hby at_246)) ?_
    refine Go.via (fun _ => XS.icmpNo X1350.here hx rfl (hb hby at_247) rfl (tlt ((by decide) : (4 : Int32) < (5 : Int32))).2.2.2) ?_
    show Go p e below (T1350.setTop (mkF m 250 #[.val (.int p0), .val (.int p1), .val (.int p2), .val (.int p3), .val (.int p4), .val (.int p5), .val (.int (5 : Int32)), .val (.int k), .val (.int p2), .val (.int d1), .val (.int d2), .val (.int d3), .val (.int d4), .val (.int p4), .val (.int f1), .val (.int f2), .val (.int f3), .val (.int f4), .val (.ref b1188), .val (.ref b1311), .val (.long (((((0 : Int64) + (p4.toInt64)) + (f1.toInt64)) + (f2.toInt64)) + (f3.toInt64))), .second, .unset, .unset] [])) _
    refine Go.via (fun _ => XS.lload X1350.here hx rfl (hb hby at_250) rfl) ?_
    refine Go.via (fun _ => XS.iload X1350.here hx rfl (hb hby at_252) rfl) ?_
    refine Go.via (fun _ => XS.i2l X1350.here hx rfl (hb hby at_254) rfl) ?_
    show Go p e below (T1350.setTop (mkF m 255 #[.val (.int p0), .val (.int p1), .val (.int p2), .val (.int p3), .val (.int p4), .val (.int p5), .val (.int (5 : Int32)), .val (.int k), .val (.int p2), .val (.int d1), .val (.int d2), .val (.int d3), .val (.int d4), .val (.int p4), .val (.int f1), .val (.int f2), .val (.int f3), .val (.int f4), .val (.ref b1188), .val (.ref b1311), .val (.long (((((0 : Int64) + (p4.toInt64)) + (f1.toInt64)) + (f2.toInt64)) + (f3.toInt64))), .second, .unset, .unset] [(.long (f4.toInt64)), (.long (((((0 : Int64) + (p4.toInt64)) + (f1.toInt64)) + (f2.toInt64)) + (f3.toInt64)))])) _
    refine Go.via (fun _ => XS.ladd X1350.here hx rfl (hb hby at_255) rfl) ?_
    show Go p e below (T1350.setTop (mkF m 256 #[.val (.int p0), .val (.int p1), .val (.int p2), .val (.int p3), .val (.int p4), .val (.int p5), .val (.int (5 : Int32)), .val (.int k), .val (.int p2), .val (.int d1), .val (.int d2), .val (.int d3), .val (.int d4), .val (.int p4), .val (.int f1), .val (.int f2), .val (.int f3), .val (.int f4), .val (.ref b1188), .val (.ref b1311), .val (.long (((((0 : Int64) + (p4.toInt64)) + (f1.toInt64)) + (f2.toInt64)) + (f3.toInt64))), .second, .unset, .unset] [(.long ((((((0 : Int64) + (p4.toInt64)) + (f1.toInt64)) + (f2.toInt64)) + (f3.toInt64)) + (f4.toInt64)))])) _
    refine Go.via (fun _ => XS.lstore X1350.here hx rfl (hb hby at_256) rfl (l' := #[.val (.int p0), .val (.int p1), .val (.int p2), .val (.int p3), .val (.int p4), .val (.int p5), .val (.int (5 : Int32)), .val (.int k), .val (.int p2), .val (.int d1), .val (.int d2), .val (.int d3), .val (.int d4), .val (.int p4), .val (.int f1), .val (.int f2), .val (.int f3), .val (.int f4), .val (.ref b1188), .val (.ref b1311), .val (.long ((((((0 : Int64) + (p4.toInt64)) + (f1.toInt64)) + (f2.toInt64)) + (f3.toInt64)) + (f4.toInt64))), .second, .unset, .unset]) rfl) ?_
    show Go p e below (T1350.setTop (mkF m 258 #[.val (.int p0), .val (.int p1), .val (.int p2), .val (.int p3), .val (.int p4), .val (.int p5), .val (.int (5 : Int32)), .val (.int k), .val (.int p2), .val (.int d1), .val (.int d2), .val (.int d3), .val (.int d4), .val (.int p4), .val (.int f1), .val (.int f2), .val (.int f3), .val (.int f4), .val (.ref b1188), .val (.ref b1311), .val (.long ((((((0 : Int64) + (p4.toInt64)) + (f1.toInt64)) + (f2.toInt64)) + (f3.toInt64)) + (f4.toInt64))), .second, .unset, .unset] [])) _
    refine Go.via (fun _ => XS.aload X1350.here hx rfl (hb hby at_258) rfl rfl) ?_
    obtain ⟨cq1352, kq1352, q1352a, q1352b, q1352c⟩ := isOf hZ e1350 f1344
    obtain ⟨_, _, ⟨T1352, L1352, k1352, n1352⟩, -, X1352, ⟨Lc1352, hQ1352, l1352, y1352, z1352⟩, st1352⟩ := X1350.virtualBack hx (y := (⟨"com/example/libcosearch/libcosearch/PostingList", "collectionFrequency", "()J"⟩ : MethodName)) (z := (⟨"com/example/libcosearch/libcosearch/PostingList", "collectionFrequency", "()J"⟩ : MethodName)) hown (mvT hZ (tw hw 52 rfl)) (mvT hZ (tw hw 53 rfl)) (notFace_of_selects (args := #[]) (mvT hZ (tw hw 55 rfl))) (mvT hZ (tw hw 55 rfl)) (mvT hZ (tw hw 54 rfl)) (by decide) (backOf (W := 0) (rmF l Z a0 hw [] b1311 ((((((0 : Int64) + (p4.toInt64)) + (f1.toInt64)) + (f2.toInt64)) + (f3.toInt64)) + (f4.toInt64)) T1309.heap n0 z1351 f1347) hZ (tw hw 56 rfl) (tw hw 22 rfl) (by decide) (by decide)) q1352a q1352c (g := (mkF m 260 #[.val (.int p0), .val (.int p1), .val (.int p2), .val (.int p3), .val (.int p4), .val (.int p5), .val (.int (5 : Int32)), .val (.int k), .val (.int p2), .val (.int d1), .val (.int d2), .val (.int d3), .val (.int d4), .val (.int p4), .val (.int f1), .val (.int f2), .val (.int f3), .val (.int f4), .val (.ref b1188), .val (.ref b1311), .val (.long ((((((0 : Int64) + (p4.toInt64)) + (f1.toInt64)) + (f2.toInt64)) + (f3.toInt64)) + (f4.toInt64))), .second, .unset, .unset] [(.ref b1311)])) rfl (by rw [hml]; rfl) (Steps.refl _) (argsL := []) (rest := []) (lenOf pd__28_29J rfl) rfl (by show 2 * 0 + _ ≤ _; exact Nat.le_of_eq rfl) (hb hby at_260) (fun _ _ => ⟨rfl, e1350, (by decide : 8 + 0 ≤ _), (by decide : 46 + 0 ≤ _)⟩)
    dsimp only [Pt.U, Pt.locs, Pt.cells, Pt.slots] at X1352 l1352 y1352 z1352 st1352 hQ1352
    subst l1352 y1352 z1352
    obtain ⟨rfl, N1352q, eh1352⟩ := hQ1352
    have N1352 := Fr.app N1350 N1352q
    refine Go.via (fun _ kQ => st1352.trans kQ) ?_
    clear st1352
    have e1352 : T1352.heap = T1309.heap := eh1352
    clear X1350 e1350
    show Go p e below (T1352.setTop (mkF m 263 #[.val (.int p0), .val (.int p1), .val (.int p2), .val (.int p3), .val (.int p4), .val (.int p5), .val (.int (5 : Int32)), .val (.int k), .val (.int p2), .val (.int d1), .val (.int d2), .val (.int d3), .val (.int d4), .val (.int p4), .val (.int f1), .val (.int f2), .val (.int f3), .val (.int f4), .val (.ref b1188), .val (.ref b1311), .val (.long ((((((0 : Int64) + (p4.toInt64)) + (f1.toInt64)) + (f2.toInt64)) + (f3.toInt64)) + (f4.toInt64))), .second, .unset, .unset] [(.long ((((((0 : Int64) + (p4.toInt64)) + (f1.toInt64)) + (f2.toInt64)) + (f3.toInt64)) + (f4.toInt64)))])) _
    refine Go.via (fun _ => XS.lload X1352.here hx rfl (hb hby at_263) rfl) ?_
    refine Go.via (fun _ => XS.lcmp X1352.here hx rfl (hb hby at_265) rfl) ?_
    show Go p e below (T1352.setTop (mkF m 266 #[.val (.int p0), .val (.int p1), .val (.int p2), .val (.int p3), .val (.int p4), .val (.int p5), .val (.int (5 : Int32)), .val (.int k), .val (.int p2), .val (.int d1), .val (.int d2), .val (.int d3), .val (.int d4), .val (.int p4), .val (.int f1), .val (.int f2), .val (.int f3), .val (.int f4), .val (.ref b1188), .val (.ref b1311), .val (.long ((((((0 : Int64) + (p4.toInt64)) + (f1.toInt64)) + (f2.toInt64)) + (f3.toInt64)) + (f4.toInt64))), .second, .unset, .unset] [(.int (lcmpW ((((((0 : Int64) + (p4.toInt64)) + (f1.toInt64)) + (f2.toInt64)) + (f3.toInt64)) + (f4.toInt64)) ((((((0 : Int64) + (p4.toInt64)) + (f1.toInt64)) + (f2.toInt64)) + (f3.toInt64)) + (f4.toInt64))))])) _
    refine Go.via (fun _ => XS.ifYes X1352.here hx rfl (pc0 := 266) (pc' := 271) rfl (hb hby at_266) rfl ((if0 _ _).trans (teq ((own_lc _) : (lcmpW ((((((0 : Int64) + (p4.toInt64)) + (f1.toInt64)) + (f2.toInt64)) + (f3.toInt64)) + (f4.toInt64)) ((((((0 : Int64) + (p4.toInt64)) + (f1.toInt64)) + (f2.toInt64)) + (f3.toInt64)) + (f4.toInt64))) = (0 : Int32))).1) (by decide) (by decide)) ?_
    have X1352m := X1352.more (by decide : _ ≤ 11) (by decide : _ ≤ 50)
    have k1353 : Keep h0 T1309.heap [] := (k1329.trans K1309q all0)
    exact J T1352 _ T1309.heap (5 : Int32) k d1 d2 d3 d4 f1 f2 f3 f4 b1188 b1311 ((((((0 : Int64) + (p4.toInt64)) + (f1.toInt64)) + (f2.toInt64)) + (f3.toInt64)) + (f4.toInt64)) b1312 b1313 [p2, d1, d2, d3, d4] [p4, f1, f2, f3, f4] X1352m e1352 N1352 z1351 k1353 f1344 f1345 f1346 f1348 f1349 (by intro q; rcases hk with rfl | rfl | rfl | rfl | rfl <;> first | exact absurd q (by decide) | exact ⟨by decide, rfl, rfl⟩)
set_option maxRecDepth 65536 in
set_option maxHeartbeats 40000000 in
theorem comes_1 {Post : Tables → Env → Array Value → State → Outcome → State → Prop} (hpost : ∀ tb e args s v u, (limb_1_1.after args s (.returned v) u = true ∧ limb_1_2.after args s (.returned v) u = true ∧ True) → FrameEnd s (.returned v) u (Jvm.fieldLocs frame_1_writes args s ++ Jvm.arrayLocs frame_1_arrays args s ++ Jvm.staticLocs frame_1_statics s) 24 192 → Post tb e args s (.returned v) u) :
    ArmFor flags0 classFile x code maxLocals ret World_1 tables_1 room_1 Calls_1 rest_1 Pre_1 Post := by
  intro l hfl _ _ p e ha hc hk s m args below hf hA hF happ hP
  obtain ⟨hcalls, hrest, hpre⟩ := hP
  obtain ⟨-, -, -, hnamed, -, -, -, hat⟩ := (Spec.applies_iff hf).mp happ
  obtain ⟨hg, hn⟩ := and_e (Cond.before_iff.mp (show (Jvm.Cond.and given_1 narrow_1).before args s = true from hpre))
  obtain ⟨g0, r0⟩ := and_e hg
  obtain ⟨q0, r1⟩ := and_e r0
  obtain ⟨q1, r2⟩ := and_e r1
  obtain ⟨q2, r3⟩ := and_e r2
  obtain ⟨q3, r4⟩ := and_e r3
  obtain ⟨q4, r5⟩ := and_e r4
  have q5 := r5
  obtain ⟨w0, w1, w2, w3, w4, w5, rfl⟩ : ∃ w0 w1 w2 w3 w4 w5 : Value, args = #[w0, w1, w2, w3, w4, w5] := by
    have hs : args.size = 6 := by simpa [Cond.value, given_1] using g0
    obtain ⟨L⟩ := args
    match L, hs with
    | [w0, w1, w2, w3, w4, w5], _ => exact ⟨w0, w1, w2, w3, w4, w5, rfl⟩
  have hw := fun d (hd : d ∈ tables_1) => atoms_spec (ws := Jvm.Cond.code x code maxLocals ret :: tables_1) hat d (List.mem_cons_of_mem _ hd)
  have hfit : Fit s := fun {y c} hc i hi => by
    obtain ⟨ha, rfl⟩ := Array.getElem?_eq_some_iff.mp hc
    have q := List.all_eq_true.mp ((Array.all_eq_true_iff_forall_mem.mp hF) _ (Array.getElem_mem ha)) i (List.mem_range.mpr hi)
    simpa [Array.getElem?_eq_getElem hi] using q
  obtain ⟨i0, ei0⟩ := is_v q0
  obtain rfl : w0 = (.int i0) := Option.some.inj ei0
  obtain ⟨i1, ei1⟩ := is_v q1
  obtain rfl : w1 = (.int i1) := Option.some.inj ei1
  obtain ⟨i2, ei2⟩ := is_v q2
  obtain rfl : w2 = (.int i2) := Option.some.inj ei2
  obtain ⟨i3, ei3⟩ := is_v q3
  obtain rfl : w3 = (.int i3) := Option.some.inj ei3
  obtain ⟨i4, ei4⟩ := is_v q4
  obtain rfl : w4 = (.int i4) := Option.some.inj ei4
  obtain ⟨i5, ei5⟩ := is_v q5
  obtain rfl : w5 = (.int i5) := Option.some.inj ei5
  obtain ⟨n, o, h1, h2, h3, _, L, rfl, ⟨rfl, N, -⟩, hq⟩ := rm0 l s _ hw tables_1 i0 i1 i2 i3 i4 i5  s.heap s.heap.size (Nat.le_refl _)  p e ha hc hk s m _ below hf ((Spec.applies_iff_loose hf).mp happ).1 ⟨rfl, State.Warmed39.refl s, rfl⟩ trivial
  refine ⟨n, _, h1, h2, h3, hpost _ _ _ _ _ _ ⟨Cond.after_iff.mpr rfl, Cond.after_iff.mpr (eq_i res_at (Term.int_eval (1)) rfl), trivial⟩ ⟨hq.1, hq.2.1, (hq.2.2.sift fun y hy => Or.inr (N y hy)).mono (by decide) (by decide)⟩⟩
theorem main_1_1 : Claimed_1_1 := comes_1 fun _ _ _ _ _ _ h hF => ⟨h.1, hF⟩
theorem main_1_2 : Claimed_1_2 := comes_1 fun _ _ _ _ _ _ h hF => ⟨h.2.1, hF⟩
end Jvm.Pilot.@@N@@
namespace Jvm.Pilot.@@N@@
open Jvm Jvm.ClassFile Sem Op Lib Jvm.Free Jvm.Stand Jvm.Pilot.@@N@@.Jvm.D
/-! MADE BY PROGRAM (witnessworld.py) out of the Statement's table words and the real class files: 13 classes; the members and pool entries that the words name. The judged class is class 1, her method 1. -/
namespace start1
open Jvm.ClassFile
def u (s : String) : CpInfo := .utf8 (stringToUtf16 s)
/-- a pool by its gaps: so many unusable entries, then the entry; so many at the end -/
def gap : Nat → List CpInfo → List CpInfo
  | 0, r => r
  | n + 1, r => .unusable :: gap n r
def poolList (es : List (Nat × CpInfo)) (last : Nat) : List CpInfo := es.foldr (fun e r => gap e.1 (e.2 :: r)) (gap last [])
def pool (es : List (Nat × CpInfo)) (last : Nat) : Array CpInfo := ⟨poolList es last⟩
def fileOf (pool : Array CpInfo) (this : Nat) (attrs : Array Attribute := #[]) (ms : Array MethodInfo := #[]) (fl : Nat := 33) (sup : Nat := 0) (ifs : Array Nat := #[]) (fds : Array FieldInfo := #[]) : ClassFile where
  minorVersion := 0
  majorVersion := 65
  constantPool := pool
  accessFlags := fl
  thisClass := this
  superClass := sup
  interfaces := ifs
  fields := fds
  methods := ms
  attributes := attrs
def plain (name : String) (sup : Option ClassId) : Class where
  name := name
  kind := .ordinary
  loader := none
  accessFlags := 33
  super := sup
  interfaces := #[]
  cf := none
  fields := #[]
  methods := #[]
  instanceTypes := #[]
  staticTypes := #[]
  resolved := #[]
  callSites := []
  init := .initialized
  statics := none
  mirror := none

def pool0 : Array CpInfo := pool [(5, u "<init>"), (0, u "()V"), (1, .class_ 10), (1, u "java/lang/Object"), (85, u "clone"), (0, u "()Ljava/lang/Object;")] 26

def k0c0 : Code := { maxStack := 0, maxLocals := 1, code := object_method_1_code, exceptionTable := #[], attributes := #[] }
def k0m0 : Method := { name := "<init>", desc := "()V", sig := { parameters := [], returnType := none }, accessFlags := 1, code := some k0c0 }
def k0m1 : Method := { name := "clone", desc := "()Ljava/lang/Object;", sig := { parameters := [], returnType := some (.object "java/lang/Object") }, accessFlags := 260, code := none }
/-- java/lang/Object -/
def k0 : Class := { plain "java/lang/Object" none with
  accessFlags := 33
  interfaces := #[]
  cf := some (fileOf pool0 8 #[] #[{ accessFlags := 1, nameIndex := 5, descriptorIndex := 6, attributes := #[] }, { accessFlags := 260, nameIndex := 96, descriptorIndex := 97, attributes := #[] }] 33 0 #[] #[])
  fields := #[]
  methods := #[k0m0, k0m1]
  instanceTypes := #[]
  staticTypes := #[]
  resolved := Array.replicate 124 none
  statics := none }

def pool1 : Array CpInfo := pool [(2, .class_ 4), (0, .nameAndType 5 6), (0, u "java/lang/Object"), (0, u "<init>"), (0, u "()V"), (0, .integer 2147483647), (0, .class_ 9), (0, u "com/example/libcosearch/libcosearch/PostingList$Builder"), (0, .methodref 8 3), (0, .methodref 8 12), (0, .nameAndType 13 14), (0, u "add"), (0, u "(II)V"), (0, .methodref 8 16), (0, .nameAndType 17 18), (0, u "build"), (0, u "()Lcom/example/libcosearch/libcosearch/PostingList;"), (0, .methodref 20 21), (0, .class_ 22), (0, .nameAndType 23 24), (0, u "com/example/libcosearch/libcosearch/PostingList"), (0, u "size"), (0, u "()I"), (0, .methodref 20 26), (0, .nameAndType 27 28), (0, u "collectionFrequency"), (0, u "()J"), (0, .methodref 20 30), (0, .nameAndType 31 32), (0, u "document"), (0, u "(I)I"), (0, .methodref 20 34), (0, .nameAndType 35 32), (0, u "frequency"), (0, .class_ 37), (0, u "com/example/libcosearch/libcosearch/BuilderAddPinLaw"), (2, u "law"), (0, u "(IIIIII)Z")] 5

def k1m0 : Method := { name := "<init>", desc := "()V", sig := { parameters := [], returnType := none }, accessFlags := 2, code := none }
def k1c1 : Code := { maxStack := 4, maxLocals := 24, code := code, exceptionTable := #[], attributes := #[] }
def k1m1 : Method := { name := "law", desc := "(IIIIII)Z", sig := { parameters := [.int, .int, .int, .int, .int, .int], returnType := some .boolean }, accessFlags := 9, code := some k1c1 }
/-- com/example/libcosearch/libcosearch/BuilderAddPinLaw -/
def k1 : Class := { plain "com/example/libcosearch/libcosearch/BuilderAddPinLaw" (some 0) with
  accessFlags := 49
  interfaces := #[]
  cf := some (fileOf pool1 36 #[] #[{ accessFlags := 2, nameIndex := 5, descriptorIndex := 6, attributes := #[] }, { accessFlags := 9, nameIndex := 40, descriptorIndex := 41, attributes := #[] }] 49 2 #[] #[])
  fields := #[]
  methods := #[k1m0, k1m1]
  instanceTypes := #[]
  staticTypes := #[]
  resolved := Array.replicate 47 none
  statics := none }

def pool2 : Array CpInfo := pool [(1, .methodref 2 3), (0, .class_ 4), (0, .nameAndType 5 6), (0, u "java/lang/Object"), (0, u "<init>"), (0, u "()V"), (0, .fieldref 8 9), (0, .class_ 10), (0, .nameAndType 11 12), (0, u "com/example/libcosearch/libcosearch/PostingList$Builder"), (0, u "documents"), (0, u "[I"), (0, .fieldref 8 14), (0, .nameAndType 15 12), (0, u "frequencies"), (0, .fieldref 8 17), (0, .nameAndType 18 19), (0, u "size"), (0, u "I"), (0, .methodref 21 22), (0, .class_ 23), (0, .nameAndType 24 25), (0, u "java/util/Arrays"), (0, u "copyOf"), (0, u "([II)[I"), (0, .class_ 27), (0, u "com/example/libcosearch/libcosearch/PostingList"), (0, .methodref 26 29), (0, .nameAndType 5 30), (0, u "([I[I)V"), (2, u "add"), (0, u "(II)V"), (1, u "build"), (0, u "()Lcom/example/libcosearch/libcosearch/PostingList;")] 5

def k2c0 : Code := { maxStack := 2, maxLocals := 1, code := prog_24_method_1_code, exceptionTable := #[], attributes := #[] }
def k2m0 : Method := { name := "<init>", desc := "()V", sig := { parameters := [], returnType := none }, accessFlags := 0, code := some k2c0 }
def k2c1 : Code := { maxStack := 4, maxLocals := 3, code := prog_24_method_2_code, exceptionTable := #[], attributes := #[] }
def k2m1 : Method := { name := "add", desc := "(II)V", sig := { parameters := [.int, .int], returnType := none }, accessFlags := 0, code := some k2c1 }
def k2c2 : Code := { maxStack := 5, maxLocals := 1, code := prog_24_method_3_code, exceptionTable := #[], attributes := #[] }
def k2m2 : Method := { name := "build", desc := "()Lcom/example/libcosearch/libcosearch/PostingList;", sig := { parameters := [], returnType := some (.object "com/example/libcosearch/libcosearch/PostingList") }, accessFlags := 0, code := some k2c2 }
/-- com/example/libcosearch/libcosearch/PostingList$Builder -/
def k2 : Class := { plain "com/example/libcosearch/libcosearch/PostingList$Builder" (some 0) with
  accessFlags := 32
  interfaces := #[]
  cf := some (fileOf pool2 8 #[.nestHost 26] #[{ accessFlags := 0, nameIndex := 5, descriptorIndex := 6, attributes := #[] }, { accessFlags := 0, nameIndex := 33, descriptorIndex := 34, attributes := #[] }, { accessFlags := 0, nameIndex := 36, descriptorIndex := 37, attributes := #[] }] 32 2 #[] #[{ accessFlags := 2, nameIndex := 11, descriptorIndex := 12, attributes := #[] }, { accessFlags := 2, nameIndex := 15, descriptorIndex := 12, attributes := #[] }, { accessFlags := 2, nameIndex := 18, descriptorIndex := 19, attributes := #[] }])
  fields := #[{ name := "documents", type := (.array .int), accessFlags := 2, slot := 0, constantValue := 0 }, { name := "frequencies", type := (.array .int), accessFlags := 2, slot := 1, constantValue := 0 }, { name := "size", type := .int, accessFlags := 2, slot := 2, constantValue := 0 }]
  methods := #[k2m0, k2m1, k2m2]
  instanceTypes := #[(.array .int), (.array .int), .int]
  staticTypes := #[]
  resolved := Array.replicate 43 none
  statics := none }

def pool3 : Array CpInfo := pool [(1, .methodref 2 3), (0, .class_ 4), (0, .nameAndType 5 6), (0, u "java/lang/Object"), (0, u "<init>"), (0, u "()V"), (0, .fieldref 8 9), (0, .class_ 10), (0, .nameAndType 11 12), (0, u "com/example/libcosearch/libcosearch/PostingList"), (0, u "documents"), (0, u "[I"), (0, .fieldref 8 14), (0, .nameAndType 15 12), (0, u "frequencies"), (0, .fieldref 8 17), (0, .nameAndType 18 19), (0, u "collectionFrequency"), (0, u "J"), (6, u "([I[I)V"), (4, u "size"), (0, u "()I"), (0, u "document"), (0, u "(I)I"), (0, u "frequency"), (2, u "()J"), (3, .class_ 43), (0, u "com/example/libcosearch/libcosearch/PostingList$Builder")] 2

def k3c0 : Code := { maxStack := 4, maxLocals := 9, code := prog_23_method_1_code, exceptionTable := #[], attributes := #[] }
def k3m0 : Method := { name := "<init>", desc := "([I[I)V", sig := { parameters := [(.array .int), (.array .int)], returnType := none }, accessFlags := 0, code := some k3c0 }
def k3c1 : Code := { maxStack := 1, maxLocals := 1, code := prog_23_method_2_code, exceptionTable := #[], attributes := #[] }
def k3m1 : Method := { name := "size", desc := "()I", sig := { parameters := [], returnType := some .int }, accessFlags := 0, code := some k3c1 }
def k3c2 : Code := { maxStack := 2, maxLocals := 2, code := prog_23_method_3_code, exceptionTable := #[], attributes := #[] }
def k3m2 : Method := { name := "document", desc := "(I)I", sig := { parameters := [.int], returnType := some .int }, accessFlags := 0, code := some k3c2 }
def k3c3 : Code := { maxStack := 2, maxLocals := 2, code := prog_23_method_4_code, exceptionTable := #[], attributes := #[] }
def k3m3 : Method := { name := "frequency", desc := "(I)I", sig := { parameters := [.int], returnType := some .int }, accessFlags := 0, code := some k3c3 }
def k3c4 : Code := { maxStack := 2, maxLocals := 1, code := prog_23_method_7_code, exceptionTable := #[], attributes := #[] }
def k3m4 : Method := { name := "collectionFrequency", desc := "()J", sig := { parameters := [], returnType := some .long }, accessFlags := 0, code := some k3c4 }
/-- com/example/libcosearch/libcosearch/PostingList -/
def k3 : Class := { plain "com/example/libcosearch/libcosearch/PostingList" (some 0) with
  accessFlags := 32
  interfaces := #[]
  cf := some (fileOf pool3 8 #[.nestMembers #[42]] #[{ accessFlags := 0, nameIndex := 5, descriptorIndex := 26, attributes := #[] }, { accessFlags := 0, nameIndex := 31, descriptorIndex := 32, attributes := #[] }, { accessFlags := 0, nameIndex := 33, descriptorIndex := 34, attributes := #[] }, { accessFlags := 0, nameIndex := 35, descriptorIndex := 34, attributes := #[] }, { accessFlags := 0, nameIndex := 18, descriptorIndex := 38, attributes := #[] }] 32 2 #[] #[{ accessFlags := 18, nameIndex := 11, descriptorIndex := 12, attributes := #[] }, { accessFlags := 18, nameIndex := 15, descriptorIndex := 12, attributes := #[] }, { accessFlags := 18, nameIndex := 18, descriptorIndex := 19, attributes := #[] }])
  fields := #[{ name := "documents", type := (.array .int), accessFlags := 18, slot := 0, constantValue := 0 }, { name := "frequencies", type := (.array .int), accessFlags := 18, slot := 1, constantValue := 0 }, { name := "collectionFrequency", type := .long, accessFlags := 18, slot := 2, constantValue := 0 }]
  methods := #[k3m0, k3m1, k3m2, k3m3, k3m4]
  instanceTypes := #[(.array .int), (.array .int), .long]
  staticTypes := #[]
  resolved := Array.replicate 46 none
  statics := none }

def pool4 : Array CpInfo := pool [(2, .class_ 4), (1, u "java/lang/Object"), (0, u "<init>"), (0, u "()V"), (7, .class_ 16), (1, u "java/util/Arrays"), (57, .class_ 76), (1, u "java/util/Arrays$NaturalOrder"), (32, u "()Ljava/lang/Object;"), (3, .class_ 115), (1, u "java/util/Arrays$LegacyMergeSort"), (1, u "Z"), (10, .nameAndType 129 109), (0, u "clone"), (20, .methodref 151 152), (0, .class_ 153), (0, .nameAndType 154 155), (0, u "java/lang/System"), (0, u "arraycopy"), (0, u "(Ljava/lang/Object;ILjava/lang/Object;II)V"), (146, u "copyOf"), (1, .methodref 305 306), (0, .class_ 307), (0, .nameAndType 308 309), (0, u "java/lang/Math"), (0, u "min"), (0, u "(II)I"), (6, .methodref 317 128), (0, .class_ 318), (0, u "[I"), (56, .class_ 376), (0, u "java/util/Arrays$ArrayList"), (68, u "$assertionsDisabled"), (269, u "MIN_ARRAY_SORT_GRAN"), (0, u "I"), (2, u "INSERTIONSORT_THRESHOLD"), (151, u "([II)[I"), (103, .class_ 976), (0, u "java/util/Arrays$ArrayItr")] 52

def k4m0 : Method := { name := "<init>", desc := "()V", sig := { parameters := [], returnType := none }, accessFlags := 2, code := none }
def k4c1 : Code := { maxStack := 6, maxLocals := 3, code := jdk_65_method_123_code, exceptionTable := #[], attributes := #[] }
def k4m1 : Method := { name := "copyOf", desc := "([II)[I", sig := { parameters := [(.array .int), .int], returnType := some (.array .int) }, accessFlags := 9, code := some k4c1 }
/-- java/util/Arrays -/
def k4 : Class := { plain "java/util/Arrays" (some 0) with
  accessFlags := 49
  interfaces := #[]
  cf := some (fileOf pool4 14 #[.nestMembers #[975, 375, 113, 74]] #[{ accessFlags := 2, nameIndex := 5, descriptorIndex := 6, attributes := #[] }, { accessFlags := 9, nameIndex := 302, descriptorIndex := 871, attributes := #[] }] 49 2 #[] #[{ accessFlags := 26, nameIndex := 715, descriptorIndex := 716, attributes := #[] }, { accessFlags := 26, nameIndex := 719, descriptorIndex := 716, attributes := #[] }, { accessFlags := 4120, nameIndex := 445, descriptorIndex := 117, attributes := #[] }])
  fields := #[{ name := "MIN_ARRAY_SORT_GRAN", type := .int, accessFlags := 26, slot := 0, constantValue := 0 }, { name := "INSERTIONSORT_THRESHOLD", type := .int, accessFlags := 26, slot := 1, constantValue := 0 }, { name := "$assertionsDisabled", type := .boolean, accessFlags := 4120, slot := 2, constantValue := 0 }]
  methods := #[k4m0, k4m1]
  instanceTypes := #[]
  staticTypes := #[.int, .int, .boolean]
  resolved := Array.replicate 1029 none
  statics := none }

def pool5 : Array CpInfo := pool [(1, .class_ 2), (0, u "java/lang/Math"), (1, .class_ 6), (1, u "java/lang/Object"), (0, u "<init>"), (0, u "()V"), (89, .class_ 100), (1, u "java/lang/Math$RandomNumberGeneratorHolder"), (71, u "negativeZeroFloatBits"), (0, u "J"), (2, u "negativeZeroDoubleBits"), (24, u "min"), (43, u "$assertionsDisabled"), (0, u "Z"), (88, u "(II)I"), (2, u "twoToTheDoubleScaleDown"), (0, u "D"), (4, u "twoToTheDoubleScaleUp"), (9, u "E"), (3, u "PI"), (2, u "TAU"), (2, u "DEGREES_TO_RADIANS"), (0, u "RADIANS_TO_DEGREES")] 94

def k5m0 : Method := { name := "<init>", desc := "()V", sig := { parameters := [], returnType := none }, accessFlags := 2, code := none }
def k5c1 : Code := { maxStack := 2, maxLocals := 2, code := jdk_29_method_69_code, exceptionTable := #[], attributes := #[] }
def k5m1 : Method := { name := "min", desc := "(II)I", sig := { parameters := [.int, .int], returnType := some .int }, accessFlags := 9, code := some k5c1 }
/-- java/lang/Math -/
def k5 : Class := { plain "java/lang/Math" (some 0) with
  accessFlags := 49
  interfaces := #[]
  cf := some (fileOf pool5 1 #[.nestMembers #[98]] #[{ accessFlags := 2, nameIndex := 7, descriptorIndex := 8, attributes := #[] }, { accessFlags := 9, nameIndex := 201, descriptorIndex := 335, attributes := #[] }] 49 4 #[] #[{ accessFlags := 25, nameIndex := 354, descriptorIndex := 339, attributes := #[] }, { accessFlags := 25, nameIndex := 358, descriptorIndex := 339, attributes := #[] }, { accessFlags := 25, nameIndex := 361, descriptorIndex := 339, attributes := #[] }, { accessFlags := 26, nameIndex := 364, descriptorIndex := 339, attributes := #[] }, { accessFlags := 26, nameIndex := 365, descriptorIndex := 339, attributes := #[] }, { accessFlags := 26, nameIndex := 172, descriptorIndex := 173, attributes := #[] }, { accessFlags := 26, nameIndex := 176, descriptorIndex := 173, attributes := #[] }, { accessFlags := 8, nameIndex := 344, descriptorIndex := 339, attributes := #[] }, { accessFlags := 8, nameIndex := 338, descriptorIndex := 339, attributes := #[] }, { accessFlags := 4120, nameIndex := 245, descriptorIndex := 246, attributes := #[] }])
  fields := #[{ name := "E", type := .double, accessFlags := 25, slot := 0, constantValue := 0 }, { name := "PI", type := .double, accessFlags := 25, slot := 1, constantValue := 0 }, { name := "TAU", type := .double, accessFlags := 25, slot := 2, constantValue := 0 }, { name := "DEGREES_TO_RADIANS", type := .double, accessFlags := 26, slot := 3, constantValue := 0 }, { name := "RADIANS_TO_DEGREES", type := .double, accessFlags := 26, slot := 4, constantValue := 0 }, { name := "negativeZeroFloatBits", type := .long, accessFlags := 26, slot := 5, constantValue := 0 }, { name := "negativeZeroDoubleBits", type := .long, accessFlags := 26, slot := 6, constantValue := 0 }, { name := "twoToTheDoubleScaleUp", type := .double, accessFlags := 8, slot := 7, constantValue := 0 }, { name := "twoToTheDoubleScaleDown", type := .double, accessFlags := 8, slot := 8, constantValue := 0 }, { name := "$assertionsDisabled", type := .boolean, accessFlags := 4120, slot := 9, constantValue := 0 }]
  methods := #[k5m0, k5m1]
  instanceTypes := #[]
  staticTypes := #[.double, .double, .double, .double, .double, .long, .long, .double, .double, .boolean]
  resolved := Array.replicate 460 none
  statics := none }

def pool6 : Array CpInfo := pool [(2, .class_ 4), (1, u "java/lang/Object"), (0, u "<init>"), (0, u "()V"), (1, .class_ 10), (1, u "java/lang/System"), (0, u "allowSecurityManager"), (0, u "I"), (16, u "cons"), (0, u "Ljava/io/Console;"), (77, .class_ 110), (1, u "java/lang/System$CallersHolder"), (43, u "initialErrStream"), (0, u "Ljava/io/PrintStream;"), (19, u "security"), (0, u "Ljava/lang/SecurityManager;"), (31, .class_ 209), (0, u "java/lang/System$1"), (7, u "props"), (0, u "Ljava/util/Properties;"), (2, u "lineSeparator"), (0, u "Ljava/lang/String;"), (96, .class_ 321), (1, u "java/lang/System$LoggerFinder"), (5, .class_ 328), (0, u "java/lang/System$Logger"), (67, u "err"), (2, u "out"), (91, u "notSupportedJnuEncoding"), (15, u "in"), (17, u "initialIn"), (0, u "Ljava/io/InputStream;"), (35, u "bootLayer"), (0, u "Ljava/lang/ModuleLayer;"), (99, .class_ 664), (0, u "java/lang/System$2"), (9, u "NEVER"), (2, u "MAYBE"), (49, u "arraycopy"), (0, u "(Ljava/lang/Object;ILjava/lang/Object;II)V"), (72, .class_ 802), (0, u "java/lang/System$Logger$Level")] 31

def k6m0 : Method := { name := "<init>", desc := "()V", sig := { parameters := [], returnType := none }, accessFlags := 2, code := none }
def k6m1 : Method := { name := "arraycopy", desc := "(Ljava/lang/Object;ILjava/lang/Object;II)V", sig := { parameters := [(.object "java/lang/Object"), .int, (.object "java/lang/Object"), .int, .int], returnType := none }, accessFlags := 265, code := none }
/-- java/lang/System -/
def k6 : Class := { plain "java/lang/System" (some 0) with
  accessFlags := 49
  interfaces := #[]
  cf := some (fileOf pool6 8 #[.nestMembers #[319, 327, 801, 108, 663, 208]] #[{ accessFlags := 2, nameIndex := 5, descriptorIndex := 6, attributes := #[] }, { accessFlags := 265, nameIndex := 727, descriptorIndex := 728, attributes := #[] }] 49 2 #[] #[{ accessFlags := 25, nameIndex := 507, descriptorIndex := 526, attributes := #[] }, { accessFlags := 25, nameIndex := 399, descriptorIndex := 155, attributes := #[] }, { accessFlags := 25, nameIndex := 396, descriptorIndex := 155, attributes := #[] }, { accessFlags := 10, nameIndex := 525, descriptorIndex := 526, attributes := #[] }, { accessFlags := 26, nameIndex := 674, descriptorIndex := 12, attributes := #[] }, { accessFlags := 26, nameIndex := 677, descriptorIndex := 12, attributes := #[] }, { accessFlags := 10, nameIndex := 11, descriptorIndex := 12, attributes := #[] }, { accessFlags := 74, nameIndex := 175, descriptorIndex := 176, attributes := #[] }, { accessFlags := 10, nameIndex := 491, descriptorIndex := 222, attributes := #[] }, { accessFlags := 74, nameIndex := 29, descriptorIndex := 30, attributes := #[] }, { accessFlags := 74, nameIndex := 154, descriptorIndex := 155, attributes := #[] }, { accessFlags := 10, nameIndex := 217, descriptorIndex := 218, attributes := #[] }, { accessFlags := 10, nameIndex := 221, descriptorIndex := 222, attributes := #[] }, { accessFlags := 8, nameIndex := 562, descriptorIndex := 563, attributes := #[] }])
  fields := #[{ name := "in", type := (.object "java/io/InputStream"), accessFlags := 25, slot := 0, constantValue := 0 }, { name := "out", type := (.object "java/io/PrintStream"), accessFlags := 25, slot := 1, constantValue := 0 }, { name := "err", type := (.object "java/io/PrintStream"), accessFlags := 25, slot := 2, constantValue := 0 }, { name := "initialIn", type := (.object "java/io/InputStream"), accessFlags := 10, slot := 3, constantValue := 0 }, { name := "NEVER", type := .int, accessFlags := 26, slot := 4, constantValue := 0 }, { name := "MAYBE", type := .int, accessFlags := 26, slot := 5, constantValue := 0 }, { name := "allowSecurityManager", type := .int, accessFlags := 10, slot := 6, constantValue := 0 }, { name := "security", type := (.object "java/lang/SecurityManager"), accessFlags := 74, slot := 7, constantValue := 0 }, { name := "notSupportedJnuEncoding", type := (.object "java/lang/String"), accessFlags := 10, slot := 8, constantValue := 0 }, { name := "cons", type := (.object "java/io/Console"), accessFlags := 74, slot := 9, constantValue := 0 }, { name := "initialErrStream", type := (.object "java/io/PrintStream"), accessFlags := 74, slot := 10, constantValue := 0 }, { name := "props", type := (.object "java/util/Properties"), accessFlags := 10, slot := 11, constantValue := 0 }, { name := "lineSeparator", type := (.object "java/lang/String"), accessFlags := 10, slot := 12, constantValue := 0 }, { name := "bootLayer", type := (.object "java/lang/ModuleLayer"), accessFlags := 8, slot := 13, constantValue := 0 }]
  methods := #[k6m0, k6m1]
  instanceTypes := #[]
  staticTypes := #[(.object "java/io/InputStream"), (.object "java/io/PrintStream"), (.object "java/io/PrintStream"), (.object "java/io/InputStream"), .int, .int, .int, (.object "java/lang/SecurityManager"), (.object "java/lang/String"), (.object "java/io/Console"), (.object "java/io/PrintStream"), (.object "java/util/Properties"), (.object "java/lang/String"), (.object "java/lang/ModuleLayer")]
  resolved := Array.replicate 834 none
  statics := none }

def pool7 : Array CpInfo := pool [(1, .class_ 2), (0, u "java/lang/Cloneable"), (0, .class_ 4), (0, u "java/lang/Object")] 2

/-- java/lang/Cloneable -/
def k7 : Class := { plain "java/lang/Cloneable" (some 0) with
  accessFlags := 1537
  interfaces := #[]
  cf := some (fileOf pool7 1 #[] #[] 1537 3 #[] #[])
  fields := #[]
  methods := #[]
  instanceTypes := #[]
  staticTypes := #[]
  resolved := Array.replicate 7 none
  statics := none }

def pool8 : Array CpInfo := pool [(1, u "java/io/Serializable"), (0, .class_ 1), (0, u "java/lang/Object"), (0, .class_ 3)] 3

/-- java/io/Serializable -/
def k8 : Class := { plain "java/io/Serializable" (some 0) with
  accessFlags := 1537
  interfaces := #[]
  cf := some (fileOf pool8 2 #[] #[] 1537 4 #[] #[])
  fields := #[]
  methods := #[]
  instanceTypes := #[]
  staticTypes := #[]
  resolved := Array.replicate 8 none
  statics := none }

/-- the primitive byte -/
def k9 : Class := { plain "byte" none with kind := .primitive 'B', accessFlags := 0x411 }
/-- [B -/
def k10 : Class := { plain "[B" (some 0) with kind := .array 9 .byte, interfaces := #[7, 8], accessFlags := 1041 }

/-- the primitive int -/
def k11 : Class := { plain "int" none with kind := .primitive 'I', accessFlags := 0x411 }
/-- [I -/
def k12 : Class := { plain "[I" (some 0) with kind := .array 11 .int, interfaces := #[7, 8], accessFlags := 1041 }

def heap : Heap := #[]
def classes : Array Class := #[k0, k1, k2, k3, k4, k5, k6, k7, k8, k9, k10, k11, k12]
def interned : List (Array UInt16 × Addr) := []
def slotsUsed : Nat := 0
def theMethod : MethodId := ⟨1, 1⟩
def args0 : Array Value := #[.int 3, .int 1, .int 7, .int 8, .int 25, .int 10]
def aboutOver (below : List Frame) : State where
  vm := { classes := classes, interned := interned.toArray }
  heap := heap
  slotsUsed := slotsUsed
  threads := #[{ frames := .invoking theMethod args0 :: below }]
def below0 : List Frame := [.native { method := ⟨0, 0⟩, args := #[] }]
def about1 : State := aboutOver below0
def p0 : Program := .bare "" "" ""
def e0 : Env := launch0.env 0 0 0
theorem w_frames : about1.frames = Frame.invoking theMethod args0 :: below0 := rfl
set_option maxRecDepth 65536 in
theorem w_args : argsFit about1.vm theMethod args0 = true := by decide +kernel
set_option maxRecDepth 65536 in
theorem w_heap : heapFits about1 = true := by decide +kernel
set_option maxRecDepth 65536 in
theorem w_runnable : about1.curStatus? = some .runnable := by decide +kernel
set_option maxRecDepth 65536 in
theorem w_alone : about1.alone = true := by decide +kernel
set_option maxRecDepth 65536 in
theorem w_named : about1.methodNamed? x = some theMethod := by decide +kernel
set_option maxRecDepth 65536 in
theorem w_hears : about1.hears theMethod below0 = true := by decide +kernel
set_option maxRecDepth 65536 in
theorem w_ripe : about1.ripe theMethod args0 below0 = true := by decide +kernel
theorem w_running : about1.status = .running := rfl
set_option maxRecDepth 65536 in
theorem w_room : about1.hasRoom e0.platform room_1 = true :=
  launch0.hasRoom_least _ room_1 (by decide +kernel) (by decide +kernel) (by decide +kernel) (by decide +kernel) (by decide +kernel) (by decide +kernel)
theorem allAtoms_all (ts : List Jvm.Cond) (a : Array Jvm.Value) (st : Jvm.State) : (allAtoms ts).before a st = ts.all (fun c => c.before a st) := by
  induction ts with
  | nil => rfl
  | cons c t ih =>
    show (Jvm.Cond.and c (allAtoms t)).before a st = _
    rw [Jvm.Cond.before_and, ih, List.all_cons]
def words1 : List Jvm.Cond := Jvm.Cond.code x code maxLocals ret :: tables_1
/-- a 'code' word, met by the world's own term for the bytes: nothing is compared byte by byte -/
theorem code_word {y : MethodName} {bytes : ByteArray} {mx : Nat} {rt : Option FieldType} {a : Array Value} {s : State} {m : MethodId} {meth : Method} {c : Code} (h1 : s.methodNamed? y = some m) (h2 : s.vm.method? m = some meth) (h3 : meth.code = some c) (h4 : c.code = bytes)
    (h5 : (c.maxLocals == mx && c.exceptionTable.isEmpty && decide (c.maxStack ≤ mostOperands) && decide (meth.sig.returnType = rt) && !meth.locks && decide (parseMethodDescriptor y.desc = some meth.sig)) = true) : (Jvm.Cond.code y bytes mx rt).before a s = true := by
  simp only [Bool.and_eq_true, beq_iff_eq, Bool.not_eq_true', decide_eq_true_eq] at h5
  obtain ⟨⟨⟨⟨⟨g1, g2⟩, g3⟩, g4⟩, g5⟩, g6⟩ := h5
  simp [Cond.before, Cond.holds, Cond.value, h1, h2, h3, h4, g1, g2, g3, g4, g5, g6]
def isCode : Jvm.Cond → Bool
  | .code _ _ _ _ => true
  | _ => false
theorem all_split {L : List Jvm.Cond} {P : Jvm.Cond → Bool} (h1 : L.all (fun c => isCode c || P c) = true) (h2 : ∀ c ∈ L.filter isCode, P c = true) : L.all P = true := by
  refine List.all_eq_true.mpr fun c hc => ?_
  have h := List.all_eq_true.mp h1 c hc
  rcases Bool.eq_false_or_eq_true (isCode c) with hi | hi
  · exact h2 c (List.mem_filter.mpr ⟨hc, hi⟩)
  · simpa [hi] using h
set_option maxRecDepth 65536 in
theorem w_c0 : (Jvm.Cond.code x code maxLocals ret).before args0 about1 = true := code_word (m := ⟨1, 1⟩) (meth := k1m1) (c := k1c1) (by decide +kernel) rfl rfl rfl (by decide +kernel)
set_option maxRecDepth 65536 in
theorem w_c1 : (Jvm.Cond.code ({ cls := "com/example/libcosearch/libcosearch/PostingList$Builder", name := "<init>", desc := "()V" } : Jvm.MethodName) prog_24_method_1_code (1 : Nat) (Option.none : Option Jvm.ClassFile.FieldType)).before args0 about1 = true := code_word (m := ⟨2, 0⟩) (meth := k2m0) (c := k2c0) (by decide +kernel) rfl rfl rfl (by decide +kernel)
set_option maxRecDepth 65536 in
theorem w_c2 : (Jvm.Cond.code ({ cls := "java/lang/Object", name := "<init>", desc := "()V" } : Jvm.MethodName) object_method_1_code (1 : Nat) (Option.none : Option Jvm.ClassFile.FieldType)).before args0 about1 = true := code_word (m := ⟨0, 0⟩) (meth := k0m0) (c := k0c0) (by decide +kernel) rfl rfl rfl (by decide +kernel)
set_option maxRecDepth 65536 in
theorem w_c3 : (Jvm.Cond.code ({ cls := "com/example/libcosearch/libcosearch/PostingList$Builder", name := "build", desc := "()Lcom/example/libcosearch/libcosearch/PostingList;" } : Jvm.MethodName) prog_24_method_3_code (1 : Nat) (Option.some (Jvm.ClassFile.FieldType.object "com/example/libcosearch/libcosearch/PostingList"))).before args0 about1 = true := code_word (m := ⟨2, 2⟩) (meth := k2m2) (c := k2c2) (by decide +kernel) rfl rfl rfl (by decide +kernel)
set_option maxRecDepth 65536 in
theorem w_c4 : (Jvm.Cond.code ({ cls := "java/util/Arrays", name := "copyOf", desc := "([II)[I" } : Jvm.MethodName) jdk_65_method_123_code (3 : Nat) (Option.some (Jvm.ClassFile.FieldType.array Jvm.ClassFile.FieldType.int))).before args0 about1 = true := code_word (m := ⟨4, 1⟩) (meth := k4m1) (c := k4c1) (by decide +kernel) rfl rfl rfl (by decide +kernel)
set_option maxRecDepth 65536 in
theorem w_c5 : (Jvm.Cond.code ({ cls := "java/lang/Math", name := "min", desc := "(II)I" } : Jvm.MethodName) jdk_29_method_69_code (2 : Nat) (Option.some Jvm.ClassFile.FieldType.int)).before args0 about1 = true := code_word (m := ⟨5, 1⟩) (meth := k5m1) (c := k5c1) (by decide +kernel) rfl rfl rfl (by decide +kernel)
set_option maxRecDepth 65536 in
theorem w_c6 : (Jvm.Cond.code ({ cls := "com/example/libcosearch/libcosearch/PostingList", name := "<init>", desc := "([I[I)V" } : Jvm.MethodName) prog_23_method_1_code (9 : Nat) (Option.none : Option Jvm.ClassFile.FieldType)).before args0 about1 = true := code_word (m := ⟨3, 0⟩) (meth := k3m0) (c := k3c0) (by decide +kernel) rfl rfl rfl (by decide +kernel)
set_option maxRecDepth 65536 in
theorem w_c7 : (Jvm.Cond.code ({ cls := "com/example/libcosearch/libcosearch/PostingList", name := "size", desc := "()I" } : Jvm.MethodName) prog_23_method_2_code (1 : Nat) (Option.some Jvm.ClassFile.FieldType.int)).before args0 about1 = true := code_word (m := ⟨3, 1⟩) (meth := k3m1) (c := k3c1) (by decide +kernel) rfl rfl rfl (by decide +kernel)
set_option maxRecDepth 65536 in
theorem w_c8 : (Jvm.Cond.code ({ cls := "com/example/libcosearch/libcosearch/PostingList", name := "collectionFrequency", desc := "()J" } : Jvm.MethodName) prog_23_method_7_code (1 : Nat) (Option.some Jvm.ClassFile.FieldType.long)).before args0 about1 = true := code_word (m := ⟨3, 4⟩) (meth := k3m4) (c := k3c4) (by decide +kernel) rfl rfl rfl (by decide +kernel)
set_option maxRecDepth 65536 in
theorem w_c9 : (Jvm.Cond.code ({ cls := "com/example/libcosearch/libcosearch/PostingList$Builder", name := "add", desc := "(II)V" } : Jvm.MethodName) prog_24_method_2_code (3 : Nat) (Option.none : Option Jvm.ClassFile.FieldType)).before args0 about1 = true := code_word (m := ⟨2, 1⟩) (meth := k2m1) (c := k2c1) (by decide +kernel) rfl rfl rfl (by decide +kernel)
set_option maxRecDepth 65536 in
theorem w_c10 : (Jvm.Cond.code ({ cls := "com/example/libcosearch/libcosearch/PostingList", name := "document", desc := "(I)I" } : Jvm.MethodName) prog_23_method_3_code (2 : Nat) (Option.some Jvm.ClassFile.FieldType.int)).before args0 about1 = true := code_word (m := ⟨3, 2⟩) (meth := k3m2) (c := k3c2) (by decide +kernel) rfl rfl rfl (by decide +kernel)
set_option maxRecDepth 65536 in
theorem w_c11 : (Jvm.Cond.code ({ cls := "com/example/libcosearch/libcosearch/PostingList", name := "frequency", desc := "(I)I" } : Jvm.MethodName) prog_23_method_4_code (2 : Nat) (Option.some Jvm.ClassFile.FieldType.int)).before args0 about1 = true := code_word (m := ⟨3, 3⟩) (meth := k3m3) (c := k3c3) (by decide +kernel) rfl rfl rfl (by decide +kernel)
def codes1 : List Jvm.Cond := [Jvm.Cond.code x code maxLocals ret, Jvm.Cond.code ({ cls := "com/example/libcosearch/libcosearch/PostingList$Builder", name := "<init>", desc := "()V" } : Jvm.MethodName) prog_24_method_1_code (1 : Nat) (Option.none : Option Jvm.ClassFile.FieldType), Jvm.Cond.code ({ cls := "java/lang/Object", name := "<init>", desc := "()V" } : Jvm.MethodName) object_method_1_code (1 : Nat) (Option.none : Option Jvm.ClassFile.FieldType), Jvm.Cond.code ({ cls := "com/example/libcosearch/libcosearch/PostingList$Builder", name := "build", desc := "()Lcom/example/libcosearch/libcosearch/PostingList;" } : Jvm.MethodName) prog_24_method_3_code (1 : Nat) (Option.some (Jvm.ClassFile.FieldType.object "com/example/libcosearch/libcosearch/PostingList")), Jvm.Cond.code ({ cls := "java/util/Arrays", name := "copyOf", desc := "([II)[I" } : Jvm.MethodName) jdk_65_method_123_code (3 : Nat) (Option.some (Jvm.ClassFile.FieldType.array Jvm.ClassFile.FieldType.int)), Jvm.Cond.code ({ cls := "java/lang/Math", name := "min", desc := "(II)I" } : Jvm.MethodName) jdk_29_method_69_code (2 : Nat) (Option.some Jvm.ClassFile.FieldType.int), Jvm.Cond.code ({ cls := "com/example/libcosearch/libcosearch/PostingList", name := "<init>", desc := "([I[I)V" } : Jvm.MethodName) prog_23_method_1_code (9 : Nat) (Option.none : Option Jvm.ClassFile.FieldType), Jvm.Cond.code ({ cls := "com/example/libcosearch/libcosearch/PostingList", name := "size", desc := "()I" } : Jvm.MethodName) prog_23_method_2_code (1 : Nat) (Option.some Jvm.ClassFile.FieldType.int), Jvm.Cond.code ({ cls := "com/example/libcosearch/libcosearch/PostingList", name := "collectionFrequency", desc := "()J" } : Jvm.MethodName) prog_23_method_7_code (1 : Nat) (Option.some Jvm.ClassFile.FieldType.long), Jvm.Cond.code ({ cls := "com/example/libcosearch/libcosearch/PostingList$Builder", name := "add", desc := "(II)V" } : Jvm.MethodName) prog_24_method_2_code (3 : Nat) (Option.none : Option Jvm.ClassFile.FieldType), Jvm.Cond.code ({ cls := "com/example/libcosearch/libcosearch/PostingList", name := "document", desc := "(I)I" } : Jvm.MethodName) prog_23_method_3_code (2 : Nat) (Option.some Jvm.ClassFile.FieldType.int), Jvm.Cond.code ({ cls := "com/example/libcosearch/libcosearch/PostingList", name := "frequency", desc := "(I)I" } : Jvm.MethodName) prog_23_method_4_code (2 : Nat) (Option.some Jvm.ClassFile.FieldType.int)]
set_option maxRecDepth 65536 in
theorem codes_eq : words1.filter isCode = codes1 := rfl
theorem w_codes : ∀ c ∈ words1.filter isCode, c.before args0 about1 = true := by
  rw [codes_eq]
  intro c hc
  simp only [codes1, List.mem_cons, List.not_mem_nil, or_false] at hc
  rcases hc with rfl | rfl | rfl | rfl | rfl | rfl | rfl | rfl | rfl | rfl | rfl | rfl
  · exact w_c0
  · exact w_c1
  · exact w_c2
  · exact w_c3
  · exact w_c4
  · exact w_c5
  · exact w_c6
  · exact w_c7
  · exact w_c8
  · exact w_c9
  · exact w_c10
  · exact w_c11
set_option maxRecDepth 65536 in
theorem w_t1 : (words1.take 24).all (fun c => isCode c || c.before args0 about1) = true := by decide +kernel
set_option maxRecDepth 65536 in
theorem w_t2 : ((words1.drop 24).take 24).all (fun c => isCode c || c.before args0 about1) = true := by decide +kernel
set_option maxRecDepth 65536 in
theorem w_t3 : (((words1.drop 24).drop 24).take 24).all (fun c => isCode c || c.before args0 about1) = true := by decide +kernel
set_option maxRecDepth 65536 in
theorem w_t4 : (((words1.drop 24).drop 24).drop 24).all (fun c => isCode c || c.before args0 about1) = true := by decide +kernel
theorem w_tables : (allAtoms (Jvm.Cond.code x code maxLocals ret :: tables_1)).before args0 about1 = true := by
  rw [allAtoms_all]
  show words1.all (fun c => c.before args0 about1) = true
  refine all_split ?_ w_codes
  rw [← List.take_append_drop 24 words1, List.all_append, w_t1, ← List.take_append_drop 24 (words1.drop 24), List.all_append, w_t2, ← List.take_append_drop 24 ((words1.drop 24).drop 24), List.all_append, w_t3, w_t4]
  rfl
set_option maxRecDepth 65536 in
theorem w_case : (Jvm.Cond.and given_1 narrow_1).before args0 about1 = true := by decide +kernel
theorem w_applies : (headSpec (Jvm.Cond.code x code maxLocals ret :: tables_1) room_1).applies x e0.platform about1 = true :=
  (Spec.applies_iff w_frames).mpr ⟨w_running, w_runnable, w_alone, w_named, w_hears, w_ripe, w_room, w_tables⟩
theorem atStart : AtStart classFile x code maxLocals ret World_1 tables_1 room_1 Calls_1 rest_1 Pre_1 launch0 p0 e0 about1 theMethod args0 below0 :=
  ⟨lists_1, trivial, launch0.admits_env _ _ _, launch0.least_env, fairChoices_fair.cas, fairChoices_fair.clock, w_frames, w_args, w_heap, w_applies, trivial, trivial, w_case⟩
end start1
theorem witness_1 : WitnessClaimed_1 := ⟨start1.p0, start1.e0, start1.about1, start1.theMethod, start1.args0, start1.below0, start1.atStart⟩
end Jvm.Pilot.@@N@@
